import JvmDerived
import JvmDerived.Pilot.@@N@@Statement
import JvmDerived.Pilot.@@N@@Code
set_option linter.unusedVariables false
set_option linter.unusedSimpArgs false
namespace Jvm.OwnW
open Sem ClassFile Op Lib Jvm.Stand Jvm.Free Jvm.LawKit Jvm.RoadKit Bundle
def Dec (b : ByteArray) (pc : Nat) (i : Instr) (len nx : Nat) : Prop := decode b pc = .ok (i, len) ∧ pc + len = nx
def DecJ (b : ByteArray) (pc : Nat) (i : Instr) (o : Int) (nx tgt : Nat) : Prop := decode b pc = .ok (i, 3) ∧ pc + 3 = nx ∧ 0 ≤ (pc : Int) + o ∧ ((pc : Int) + o).toNat = tgt
theorem le {a b : Nat} (h : Nat.ble a b = true) : a ≤ b := Nat.le_of_ble_eq_true h
theorem ext_refl (h : Heap) : Ext h h := ⟨Nat.le_refl _, fun _ _ q => q⟩
theorem ext_trans {h h' h2 : Heap} (A : Ext h h') (B : Ext h' h2) : Ext h h2 := ⟨Nat.le_trans A.1 B.1, fun a c q => B.2 a c (A.2 a c q)⟩
theorem keep_ext {h h' : Heap} (E : Ext h h') (ws : List Addr) : Keep h h' ws := (Keep.refl h ws).ext E
theorem ext_keep {h h' : Heap} (K : Keep h h' []) : Ext h h' := ⟨K.1, fun a c q => K.2.1 a c q nin0⟩
def Here (p : Program) (l : Launch) (e : Env) (R : Room) (s : State) (m : MethodId) (args : Array Value) (below : List Frame) (meth : Method) (c : Code) (Z : State) (EL : List (String × Nat)) (nw : Bool)
    (F : List Addr) (w : Nat) (h : Heap) (k n : Nat) (T : State) (vm0 : Vm) (locs : List Loc) (k0 : Nat) : Prop :=
  Stand p l e R (s.setVm vm0) m args below meth c T locs k n ∧ T.heap = h ∧ Fr Z.heap.size locs ∧ s.Since vm0 k0 ∧ k0 ≤ h.size ∧ Z.Warmed39 vm0 ∧ CHr Z EL s.vm s.heap vm0 h ∧ (nw = true → s.WarmedH vm0) ∧ (∀ x ∈ F, x < h.size ∧ Safe Z EL vm0 h x) ∧ Ext Z.heap h ∧ (∀ x, w ≤ x → Safe Z EL vm0 h x) ∧ (nw = true → ∀ y, Bk Z EL vm0 h y → Bk Z EL s.vm s.heap y)
def wm (nwc : Bool) (w : Nat) (h : Heap) : Nat := match nwc with | true => w | false => h.size
def Ends (p : Program) (e : Env) (R : Room) (s : State) (below : List Frame) (Z : State) (EL : List (String × Nat)) (nw : Bool) (Q : Option Value → Heap → Prop) (t0 : State) : Prop :=
  ∃ t v L, Steps p.tables e below t0 t ∧ t.status = .running ∧ Ended t below (.returned v) ∧ Q v t.heap ∧ Fr Z.heap.size L ∧ CHr Z EL s.vm s.heap t.vm t.heap ∧ (nw = true → s.WarmedH t.vm ∧ ∀ y, Bk Z EL t.vm t.heap y → Bk Z EL s.vm s.heap y) ∧ Ext Z.heap t.heap ∧ ReturnedEndW s (.returned v) t L R.cells R.slots
def Goes (p : Program) (l : Launch) (e : Env) (R : Room) (s : State) (m : MethodId) (args : Array Value) (below : List Frame) (meth : Method) (c : Code) (Z : State) (EL : List (String × Nat)) (nw : Bool)
    (Q : Option Value → Heap → Prop) (F : List Addr) (w : Nat) (h : Heap) (k n : Nat) (f : JFrame) : Prop :=
  ∀ T vm0 locs k0, Here p l e R s m args below meth c Z EL nw F w h k n T vm0 locs k0 → Ends p e R s below Z EL nw Q (T.setTop f)
def Cxt (p : Program) (m : MethodId) (meth : Method) (c : Code) (Z : State) (a0 : Array Value) (EL : List (String × Nat)) (own mn : String) (bytes : ByteArray) (ml : Nat) (ret : Option FieldType) (Ws : List Jvm.Cond) : Prop :=
  p.tables.exec = Jvm.exec ∧ c.code = bytes ∧ c.maxLocals = ml ∧ Z.vm.findClass own = some m.cls ∧ meth.sig.returnType = ret ∧ meth.locks = false ∧ meth.name = mn ∧ (∀ d ∈ Ws, d.before a0 Z = true) ∧ EW Z a0 EL
/-- who pays a call -/
def Pays (p : Program) (l : Launch) (e : Env) (R : Room) (s : State) (args : Array Value) (below : List Frame) (Z : State) (EL : List (String × Nat)) (nw : Bool)
    (y : MethodName) (len W : Nat) (F : List Addr) (as' : Array Value) (h : Heap) (rc rs : Nat) (Qc : Option Value → Heap → Prop) : Prop :=
  ∀ vm0, Z.Warmed39 vm0 → CHv Z EL vm0 h → (∀ x ∈ F, x < h.size ∧ Safe Z EL vm0 h x) → Ext Z.heap h →
    BackS l R p e below (s.setVm vm0) args y len W (fun A a => a = as' ∧ A.U.heap = h ∧ A.cells + rc ≤ R.cells ∧ A.slots + rs ≤ R.slots)
      (fun A _ v B => ∃ L, Qc v B.U.heap ∧ Fr Z.heap.size L ∧ B.locs = A.locs ++ L ∧ B.cells = A.cells + rc ∧ B.slots = A.slots + rs ∧ CHr Z EL vm0 h B.U.vm B.U.heap ∧ (nw = true → (s.setVm vm0).WarmedH B.U.vm ∧ ∀ y, Bk Z EL B.U.vm B.U.heap y → Bk Z EL vm0 h y) ∧ Ext Z.heap B.U.heap)
/-- a method's contract -/
def Con (l : Launch) (Z : State) (EL : List (String × Nat)) (nw : Bool) (y : MethodName) (bytes : ByteArray) (maxL : Nat) (ret : Option FieldType) (rm : Room) (F : List Addr) (as' : Array Value) (h : Heap) (Q : Option Value → Heap → Prop) : Prop :=
  ∀ ws : List Jvm.Cond, MetFree l y (head1 (Jvm.Cond.code y bytes maxL ret :: ws) rm) (fun a U => a = as' ∧ Z.Warmed39 U.vm ∧ U.heap = h ∧ CHv Z EL U.vm h ∧ (∀ x ∈ F, x < h.size ∧ Safe Z EL U.vm h x) ∧ Ext Z.heap h) (fun _ _ _ _ _ => True)
    (fun _ U o U' => ∃ v L, o = .returned v ∧ Q v U'.heap ∧ Fr Z.heap.size L ∧ CHr Z EL U.vm U.heap U'.vm U'.heap ∧ (nw = true → U.WarmedH U'.vm ∧ ∀ y, Bk Z EL U'.vm U'.heap y → Bk Z EL U.vm U.heap y) ∧ Ext Z.heap U'.heap ∧ ReturnedEndW U o U' L rm.cells rm.slots)
section
variable {p : Program} {l : Launch} {e : Env} {R : Room} {s : State} {m : MethodId} {args : Array Value} {below : List Frame} {meth : Method} {c : Code} {Z : State} {a0 : Array Value} {EL : List (String × Nat)} {nw : Bool} {own mn : String} {bytes : ByteArray} {ml : Nat} {ret : Option FieldType} {Ws : List Jvm.Cond} {Q : Option Value → Heap → Prop} {F : List Addr} {w : Nat} {h : Heap} {k n : Nat} {pc nx : Nat} {Ls : Array Slot} {st : List Value}
theorem Cxt.own_at (C : Cxt p m meth c Z a0 EL own mn bytes ml ret Ws) {vm0 : Vm} (hZ : Z.Warmed39 vm0) : (s.setVm vm0).vm.findClass own = some m.cls := by
  show vm0.findClass own = _
  rw [hZ.alike.findClass]; exact C.2.2.2.1
theorem Cxt.wrd (C : Cxt p m meth c Z a0 EL own mn bytes ml ret Ws) {d : Jvm.Cond} (hd : d ∈ Ws) : d.before a0 Z = true := C.2.2.2.2.2.2.2.1 d hd
theorem Here.step {T T' : State} {vm0 : Vm} {locs locs' : List Loc} {k0 k' n' : Nat} {h' : Heap} {ws : List Addr} (H : Here p l e R s m args below meth c Z EL nw F w h k n T vm0 locs k0) (X' : Stand p l e R (s.setVm vm0) m args below meth c T' locs' k' n') (e' : T'.heap = h') (N' : Fr Z.heap.size locs') (K : Keep h h' ws) (hs : ∀ x ∈ ws, Safe Z EL vm0 h x ∧ Z.heap.size ≤ x) :
    Here p l e R s m args below meth c Z EL nw F w h' k' n' T' vm0 locs' k0 := by
  obtain ⟨X, eT, N, S, hk0, hZ, H1, hw, hF, O, hwm, hbk⟩ := H
  have hs1 : ∀ x ∈ ws, Safe Z EL vm0 h x := fun x hx => (hs x hx).1
  exact ⟨X', e', N', S, Nat.le_trans hk0 K.1, hZ, H1.trans (CHr.keep K hs1 H1.1), hw, fun x hx => ⟨Nat.lt_of_lt_of_le (hF x hx).1 K.1, (hF x hx).2.keep K hs1 H1.1⟩, (Old.keep (n0 := Z.heap.size) ⟨rfl, O⟩ K fun x hx => (hs x hx).2).2, fun x hx => (hwm x hx).keep K hs1 H1.1, fun q y hy => hbk q y ((H1.1.keepStep K hs1).2 y hy)⟩
theorem Goes.pure {f f' : JFrame} (stp : ∀ T vm0 locs, Stand p l e R (s.setVm vm0) m args below meth c T locs k n → ∀ t, Steps p.tables e below (T.setTop f') t → Steps p.tables e below (T.setTop f) t) (g : Goes p l e R s m args below meth c Z EL nw Q F w h k n f') : Goes p l e R s m args below meth c Z EL nw Q F w h k n f := by
  intro T vm0 locs k0 H
  obtain ⟨t, v, L, h1, r⟩ := g T vm0 locs k0 H
  exact ⟨t, v, L, stp T vm0 locs H.1 t h1, r⟩
theorem Goes.old {f : JFrame} (g : Ext Z.heap h → Goes p l e R s m args below meth c Z EL nw Q F w h k n f) : Goes p l e R s m args below meth c Z EL nw Q F w h k n f := fun T vm0 locs k0 H => g H.2.2.2.2.2.2.2.2.2.1 T vm0 locs k0 H
theorem Goes.more {f : JFrame} {k' n' : Nat} (hk : k ≤ k') (hn : n ≤ n') (g : Goes p l e R s m args below meth c Z EL nw Q F w h k' n' f) : Goes p l e R s m args below meth c Z EL nw Q F w h k n f := fun T vm0 locs k0 H => g T vm0 locs k0 ⟨H.1.more hk hn, H.2⟩
theorem Goes.less {f : JFrame} {F' : List Addr} (hF : ∀ x ∈ F', x ∈ F) (g : Goes p l e R s m args below meth c Z EL nw Q F' w h k n f) : Goes p l e R s m args below meth c Z EL nw Q F w h k n f := fun T vm0 locs k0 H => by
  obtain ⟨X, eT, N, S, hk0, hZ, H1, hw, hF1, O, hwm, hbk⟩ := H
  exact g T vm0 locs k0 ⟨X, eT, N, S, hk0, hZ, H1, hw, fun x hx => hF1 x (hF x hx), O, hwm, hbk⟩
theorem Goes.safeOf {f : JFrame} {a : Addr} (hs : ∀ vm0, Z.Warmed39 vm0 → CHr Z EL s.vm s.heap vm0 h → a < h.size ∧ Safe Z EL vm0 h a) (g : Goes p l e R s m args below meth c Z EL nw Q (a :: F) w h k n f) : Goes p l e R s m args below meth c Z EL nw Q F w h k n f := fun T vm0 locs k0 H => by
  obtain ⟨X, eT, N, S, hk0, hZ, H1, hw, hF1, O, hwm, hbk⟩ := H
  exact g T vm0 locs k0 ⟨X, eT, N, S, hk0, hZ, H1, hw, fun x hx => (List.mem_cons.mp hx).elim (fun q => by subst q; exact hs vm0 hZ H1) (hF1 x), O, hwm, hbk⟩
theorem Goes.cast {f f' : JFrame} (q : f = f') (g : Goes p l e R s m args below meth c Z EL nw Q F w h k n f') : Goes p l e R s m args below meth c Z EL nw Q F w h k n f := q ▸ g

/-- (char) x -/
def c16 (x : Int32) : Int32 := x.toUInt32.toUInt16.toUInt32.toInt32
/-- (byte) x -/
def b8 (x : Int32) : Int32 := x.toInt8.toInt32
theorem Cxt.aloadN (C : Cxt p m meth c Z a0 EL own mn bytes ml ret Ws) {i : Fin 4} {v : Value} (d : Dec bytes pc (.aload_n i) 1 nx) (hl : Ls[i.val]? = some (.val v)) (hv : v.isRef = true) (g : Goes p l e R s m args below meth c Z EL nw Q F w h k n (mkF m nx Ls (v :: st))) : Goes p l e R s m args below meth c Z EL nw Q F w h k n (mkF m pc Ls st) := by
  obtain ⟨d1, rfl⟩ := d
  exact Goes.pure (fun T vm0 locs X t ht => XS.aloadN X.here C.1 rfl (hb C.2.1 d1) hl hv ht) g
theorem Cxt.aload (C : Cxt p m meth c Z a0 EL own mn bytes ml ret Ws) {i : Nat} {v : Value} (d : Dec bytes pc (.aload i) 2 nx) (hl : Ls[i]? = some (.val v)) (hv : v.isRef = true) (g : Goes p l e R s m args below meth c Z EL nw Q F w h k n (mkF m nx Ls (v :: st))) : Goes p l e R s m args below meth c Z EL nw Q F w h k n (mkF m pc Ls st) := by
  obtain ⟨d1, rfl⟩ := d
  exact Goes.pure (fun T vm0 locs X t ht => XS.aload X.here C.1 rfl (hb C.2.1 d1) hl hv ht) g
theorem Cxt.iloadN (C : Cxt p m meth c Z a0 EL own mn bytes ml ret Ws) {i : Fin 4} {v : Int32} (d : Dec bytes pc (.iload_n i) 1 nx) (hl : Ls[i.val]? = some (.val (.int v))) (g : Goes p l e R s m args below meth c Z EL nw Q F w h k n (mkF m nx Ls (.int v :: st))) : Goes p l e R s m args below meth c Z EL nw Q F w h k n (mkF m pc Ls st) := by
  obtain ⟨d1, rfl⟩ := d
  exact Goes.pure (fun T vm0 locs X t ht => XS.iloadN X.here C.1 rfl (hb C.2.1 d1) hl ht) g
theorem Cxt.iload (C : Cxt p m meth c Z a0 EL own mn bytes ml ret Ws) {i : Nat} {v : Int32} (d : Dec bytes pc (.iload i) 2 nx) (hl : Ls[i]? = some (.val (.int v))) (g : Goes p l e R s m args below meth c Z EL nw Q F w h k n (mkF m nx Ls (.int v :: st))) : Goes p l e R s m args below meth c Z EL nw Q F w h k n (mkF m pc Ls st) := by
  obtain ⟨d1, rfl⟩ := d
  exact Goes.pure (fun T vm0 locs X t ht => XS.iload X.here C.1 rfl (hb C.2.1 d1) hl ht) g
theorem Cxt.lloadN (C : Cxt p m meth c Z a0 EL own mn bytes ml ret Ws) {i : Fin 4} {v : Int64} (d : Dec bytes pc (.lload_n i) 1 nx) (hl : Ls[i.val]? = some (.val (.long v))) (g : Goes p l e R s m args below meth c Z EL nw Q F w h k n (mkF m nx Ls (.long v :: st))) : Goes p l e R s m args below meth c Z EL nw Q F w h k n (mkF m pc Ls st) := by
  obtain ⟨d1, rfl⟩ := d
  exact Goes.pure (fun T vm0 locs X t ht => XT.lloadN X.here C.1 rfl (hb C.2.1 d1) hl ht) g
theorem Cxt.lload (C : Cxt p m meth c Z a0 EL own mn bytes ml ret Ws) {i : Nat} {v : Int64} (d : Dec bytes pc (.lload i) 2 nx) (hl : Ls[i]? = some (.val (.long v))) (g : Goes p l e R s m args below meth c Z EL nw Q F w h k n (mkF m nx Ls (.long v :: st))) : Goes p l e R s m args below meth c Z EL nw Q F w h k n (mkF m pc Ls st) := by
  obtain ⟨d1, rfl⟩ := d
  exact Goes.pure (fun T vm0 locs X t ht => XT.lload X.here C.1 rfl (hb C.2.1 d1) hl ht) g
theorem Cxt.iconst (C : Cxt p m meth c Z a0 EL own mn bytes ml ret Ws) {i : Int} (v : Int32) (d : Dec bytes pc (.iconst i) 1 nx) (hv : Int32.ofInt i = v) (g : Goes p l e R s m args below meth c Z EL nw Q F w h k n (mkF m nx Ls (.int v :: st))) : Goes p l e R s m args below meth c Z EL nw Q F w h k n (mkF m pc Ls st) := by
  subst hv; obtain ⟨d1, rfl⟩ := d
  exact Goes.pure (fun T vm0 locs X t ht => XS.iconst X.here C.1 rfl (hb C.2.1 d1) ht) g
theorem Cxt.bipush (C : Cxt p m meth c Z a0 EL own mn bytes ml ret Ws) {i : Int} (v : Int32) (d : Dec bytes pc (.bipush i) 2 nx) (hv : (Int8.ofInt i).toInt32 = v) (g : Goes p l e R s m args below meth c Z EL nw Q F w h k n (mkF m nx Ls (.int v :: st))) : Goes p l e R s m args below meth c Z EL nw Q F w h k n (mkF m pc Ls st) := by
  subst hv; obtain ⟨d1, rfl⟩ := d
  exact Goes.pure (fun T vm0 locs X t ht => XS.bipush X.here C.1 rfl (hb C.2.1 d1) ht) g
theorem Cxt.sipush (C : Cxt p m meth c Z a0 EL own mn bytes ml ret Ws) {i : Int} (v : Int32) (d : Dec bytes pc (.sipush i) 3 nx) (hv : (Int16.ofInt i).toInt32 = v) (g : Goes p l e R s m args below meth c Z EL nw Q F w h k n (mkF m nx Ls (.int v :: st))) : Goes p l e R s m args below meth c Z EL nw Q F w h k n (mkF m pc Ls st) := by
  subst hv; obtain ⟨d1, rfl⟩ := d
  exact Goes.pure (fun T vm0 locs X t ht => XS.sipush X.here C.1 rfl (hb C.2.1 d1) ht) g
theorem Cxt.aconst_null (C : Cxt p m meth c Z a0 EL own mn bytes ml ret Ws)  (d : Dec bytes pc (.aconst_null) 1 nx)  (g : Goes p l e R s m args below meth c Z EL nw Q F w h k n (mkF m nx Ls (.null :: st))) : Goes p l e R s m args below meth c Z EL nw Q F w h k n (mkF m pc Ls st) := by
  obtain ⟨d1, rfl⟩ := d
  exact Goes.pure (fun T vm0 locs X t ht => XS.aconstNull X.here C.1 rfl (hb C.2.1 d1) ht) g
theorem Cxt.lconst (C : Cxt p m meth c Z a0 EL own mn bytes ml ret Ws) {i : Fin 2} (d : Dec bytes pc (.lconst i) 1 nx)  (g : Goes p l e R s m args below meth c Z EL nw Q F w h k n (mkF m nx Ls (.long (Int64.ofNat i) :: st))) : Goes p l e R s m args below meth c Z EL nw Q F w h k n (mkF m pc Ls st) := by
  obtain ⟨d1, rfl⟩ := d
  exact Goes.pure (fun T vm0 locs X t ht => XT.lconst X.here C.1 rfl (hb C.2.1 d1) ht) g
theorem Cxt.iadd (C : Cxt p m meth c Z a0 EL own mn bytes ml ret Ws) {x y : Int32} (d : Dec bytes pc (.iadd) 1 nx)  (g : Goes p l e R s m args below meth c Z EL nw Q F w h k n (mkF m nx Ls (.int (x + y) :: st))) : Goes p l e R s m args below meth c Z EL nw Q F w h k n (mkF m pc Ls (.int y :: .int x :: st)) := by
  obtain ⟨d1, rfl⟩ := d
  exact Goes.pure (fun T vm0 locs X t ht => XS.iadd X.here C.1 rfl (hb C.2.1 d1) rfl ht) g
theorem Cxt.isub (C : Cxt p m meth c Z a0 EL own mn bytes ml ret Ws) {x y : Int32} (d : Dec bytes pc (.isub) 1 nx)  (g : Goes p l e R s m args below meth c Z EL nw Q F w h k n (mkF m nx Ls (.int (x - y) :: st))) : Goes p l e R s m args below meth c Z EL nw Q F w h k n (mkF m pc Ls (.int y :: .int x :: st)) := by
  obtain ⟨d1, rfl⟩ := d
  exact Goes.pure (fun T vm0 locs X t ht => XS.isub X.here C.1 rfl (hb C.2.1 d1) rfl ht) g
theorem Cxt.imul (C : Cxt p m meth c Z a0 EL own mn bytes ml ret Ws) {x y : Int32} (d : Dec bytes pc (.imul) 1 nx)  (g : Goes p l e R s m args below meth c Z EL nw Q F w h k n (mkF m nx Ls (.int (x * y) :: st))) : Goes p l e R s m args below meth c Z EL nw Q F w h k n (mkF m pc Ls (.int y :: .int x :: st)) := by
  obtain ⟨d1, rfl⟩ := d
  exact Goes.pure (fun T vm0 locs X t ht => XS.imul X.here C.1 rfl (hb C.2.1 d1) rfl ht) g
theorem Cxt.iand (C : Cxt p m meth c Z a0 EL own mn bytes ml ret Ws) {x y : Int32} (d : Dec bytes pc (.iand) 1 nx)  (g : Goes p l e R s m args below meth c Z EL nw Q F w h k n (mkF m nx Ls (.int (x &&& y) :: st))) : Goes p l e R s m args below meth c Z EL nw Q F w h k n (mkF m pc Ls (.int y :: .int x :: st)) := by
  obtain ⟨d1, rfl⟩ := d
  exact Goes.pure (fun T vm0 locs X t ht => XS.iand X.here C.1 rfl (hb C.2.1 d1) rfl ht) g
theorem Cxt.ior (C : Cxt p m meth c Z a0 EL own mn bytes ml ret Ws) {x y : Int32} (d : Dec bytes pc (.ior) 1 nx)  (g : Goes p l e R s m args below meth c Z EL nw Q F w h k n (mkF m nx Ls (.int (x ||| y) :: st))) : Goes p l e R s m args below meth c Z EL nw Q F w h k n (mkF m pc Ls (.int y :: .int x :: st)) := by
  obtain ⟨d1, rfl⟩ := d
  exact Goes.pure (fun T vm0 locs X t ht => XT.ior X.here C.1 rfl (hb C.2.1 d1) rfl ht) g
theorem Cxt.ixor (C : Cxt p m meth c Z a0 EL own mn bytes ml ret Ws) {x y : Int32} (d : Dec bytes pc (.ixor) 1 nx)  (g : Goes p l e R s m args below meth c Z EL nw Q F w h k n (mkF m nx Ls (.int (x ^^^ y) :: st))) : Goes p l e R s m args below meth c Z EL nw Q F w h k n (mkF m pc Ls (.int y :: .int x :: st)) := by
  obtain ⟨d1, rfl⟩ := d
  exact Goes.pure (fun T vm0 locs X t ht => XT.ixor X.here C.1 rfl (hb C.2.1 d1) rfl ht) g
theorem Cxt.ishl (C : Cxt p m meth c Z a0 EL own mn bytes ml ret Ws) {x y : Int32} (d : Dec bytes pc (.ishl) 1 nx)  (g : Goes p l e R s m args below meth c Z EL nw Q F w h k n (mkF m nx Ls (.int (x <<< (y &&& 31)) :: st))) : Goes p l e R s m args below meth c Z EL nw Q F w h k n (mkF m pc Ls (.int y :: .int x :: st)) := by
  obtain ⟨d1, rfl⟩ := d
  exact Goes.pure (fun T vm0 locs X t ht => XT.ishl X.here C.1 rfl (hb C.2.1 d1) rfl ht) g
theorem Cxt.ishr (C : Cxt p m meth c Z a0 EL own mn bytes ml ret Ws) {x y : Int32} (d : Dec bytes pc (.ishr) 1 nx)  (g : Goes p l e R s m args below meth c Z EL nw Q F w h k n (mkF m nx Ls (.int (x >>> (y &&& 31)) :: st))) : Goes p l e R s m args below meth c Z EL nw Q F w h k n (mkF m pc Ls (.int y :: .int x :: st)) := by
  obtain ⟨d1, rfl⟩ := d
  exact Goes.pure (fun T vm0 locs X t ht => XT.ishr X.here C.1 rfl (hb C.2.1 d1) rfl ht) g
theorem Cxt.iushr (C : Cxt p m meth c Z a0 EL own mn bytes ml ret Ws) {x y : Int32} (d : Dec bytes pc (.iushr) 1 nx)  (g : Goes p l e R s m args below meth c Z EL nw Q F w h k n (mkF m nx Ls (.int (XT.ushr x y) :: st))) : Goes p l e R s m args below meth c Z EL nw Q F w h k n (mkF m pc Ls (.int y :: .int x :: st)) := by
  obtain ⟨d1, rfl⟩ := d
  exact Goes.pure (fun T vm0 locs X t ht => XT.iushr X.here C.1 rfl (hb C.2.1 d1) rfl ht) g
theorem Cxt.idiv (C : Cxt p m meth c Z a0 EL own mn bytes ml ret Ws) {x y : Int32} (d : Dec bytes pc (.idiv) 1 nx) (hy : y ≠ 0) (g : Goes p l e R s m args below meth c Z EL nw Q F w h k n (mkF m nx Ls (.int (x / y) :: st))) : Goes p l e R s m args below meth c Z EL nw Q F w h k n (mkF m pc Ls (.int y :: .int x :: st)) := by
  obtain ⟨d1, rfl⟩ := d
  exact Goes.pure (fun T vm0 locs X t ht => XS.idiv X.here C.1 rfl (hb C.2.1 d1) rfl hy ht) g
theorem Cxt.irem (C : Cxt p m meth c Z a0 EL own mn bytes ml ret Ws) {x y : Int32} (d : Dec bytes pc (.irem) 1 nx) (hy : y ≠ 0) (g : Goes p l e R s m args below meth c Z EL nw Q F w h k n (mkF m nx Ls (.int (x % y) :: st))) : Goes p l e R s m args below meth c Z EL nw Q F w h k n (mkF m pc Ls (.int y :: .int x :: st)) := by
  obtain ⟨d1, rfl⟩ := d
  exact Goes.pure (fun T vm0 locs X t ht => iremM X C.1 rfl (hb C.2.1 d1) rfl hy ht) g
theorem Cxt.ineg (C : Cxt p m meth c Z a0 EL own mn bytes ml ret Ws) {x : Int32} (d : Dec bytes pc (.ineg) 1 nx)  (g : Goes p l e R s m args below meth c Z EL nw Q F w h k n (mkF m nx Ls (.int (-x) :: st))) : Goes p l e R s m args below meth c Z EL nw Q F w h k n (mkF m pc Ls (.int x :: st)) := by
  obtain ⟨d1, rfl⟩ := d
  exact Goes.pure (fun T vm0 locs X t ht => XS.ineg X.here C.1 rfl (hb C.2.1 d1) rfl ht) g
theorem Cxt.ladd (C : Cxt p m meth c Z a0 EL own mn bytes ml ret Ws) {x y : Int64} (d : Dec bytes pc (.ladd) 1 nx)  (g : Goes p l e R s m args below meth c Z EL nw Q F w h k n (mkF m nx Ls (.long (x + y) :: st))) : Goes p l e R s m args below meth c Z EL nw Q F w h k n (mkF m pc Ls (.long y :: .long x :: st)) := by
  obtain ⟨d1, rfl⟩ := d
  exact Goes.pure (fun T vm0 locs X t ht => XT.ladd X.here C.1 rfl (hb C.2.1 d1) rfl ht) g
theorem Cxt.lsub (C : Cxt p m meth c Z a0 EL own mn bytes ml ret Ws) {x y : Int64} (d : Dec bytes pc (.lsub) 1 nx)  (g : Goes p l e R s m args below meth c Z EL nw Q F w h k n (mkF m nx Ls (.long (x - y) :: st))) : Goes p l e R s m args below meth c Z EL nw Q F w h k n (mkF m pc Ls (.long y :: .long x :: st)) := by
  obtain ⟨d1, rfl⟩ := d
  exact Goes.pure (fun T vm0 locs X t ht => XT.lsub X.here C.1 rfl (hb C.2.1 d1) rfl ht) g
theorem Cxt.lmul (C : Cxt p m meth c Z a0 EL own mn bytes ml ret Ws) {x y : Int64} (d : Dec bytes pc (.lmul) 1 nx)  (g : Goes p l e R s m args below meth c Z EL nw Q F w h k n (mkF m nx Ls (.long (x * y) :: st))) : Goes p l e R s m args below meth c Z EL nw Q F w h k n (mkF m pc Ls (.long y :: .long x :: st)) := by
  obtain ⟨d1, rfl⟩ := d
  exact Goes.pure (fun T vm0 locs X t ht => XT.lmul X.here C.1 rfl (hb C.2.1 d1) rfl ht) g
theorem Cxt.land (C : Cxt p m meth c Z a0 EL own mn bytes ml ret Ws) {x y : Int64} (d : Dec bytes pc (.land) 1 nx)  (g : Goes p l e R s m args below meth c Z EL nw Q F w h k n (mkF m nx Ls (.long (x &&& y) :: st))) : Goes p l e R s m args below meth c Z EL nw Q F w h k n (mkF m pc Ls (.long y :: .long x :: st)) := by
  obtain ⟨d1, rfl⟩ := d
  exact Goes.pure (fun T vm0 locs X t ht => XT.land X.here C.1 rfl (hb C.2.1 d1) rfl ht) g
theorem Cxt.lor (C : Cxt p m meth c Z a0 EL own mn bytes ml ret Ws) {x y : Int64} (d : Dec bytes pc (.lor) 1 nx)  (g : Goes p l e R s m args below meth c Z EL nw Q F w h k n (mkF m nx Ls (.long (x ||| y) :: st))) : Goes p l e R s m args below meth c Z EL nw Q F w h k n (mkF m pc Ls (.long y :: .long x :: st)) := by
  obtain ⟨d1, rfl⟩ := d
  exact Goes.pure (fun T vm0 locs X t ht => XT.lor X.here C.1 rfl (hb C.2.1 d1) rfl ht) g
theorem Cxt.lxor (C : Cxt p m meth c Z a0 EL own mn bytes ml ret Ws) {x y : Int64} (d : Dec bytes pc (.lxor) 1 nx)  (g : Goes p l e R s m args below meth c Z EL nw Q F w h k n (mkF m nx Ls (.long (x ^^^ y) :: st))) : Goes p l e R s m args below meth c Z EL nw Q F w h k n (mkF m pc Ls (.long y :: .long x :: st)) := by
  obtain ⟨d1, rfl⟩ := d
  exact Goes.pure (fun T vm0 locs X t ht => XT.lxor X.here C.1 rfl (hb C.2.1 d1) rfl ht) g
theorem Cxt.lushr (C : Cxt p m meth c Z a0 EL own mn bytes ml ret Ws) {x : Int64} {y : Int32} (d : Dec bytes pc (.lushr) 1 nx)  (g : Goes p l e R s m args below meth c Z EL nw Q F w h k n (mkF m nx Ls (.long (XT.ushrL x y) :: st))) : Goes p l e R s m args below meth c Z EL nw Q F w h k n (mkF m pc Ls (.int y :: .long x :: st)) := by
  obtain ⟨d1, rfl⟩ := d
  exact Goes.pure (fun T vm0 locs X t ht => XT.lushr X.here C.1 rfl (hb C.2.1 d1) rfl ht) g
theorem Cxt.l2i (C : Cxt p m meth c Z a0 EL own mn bytes ml ret Ws) {x : Int64} (d : Dec bytes pc (.l2i) 1 nx)  (g : Goes p l e R s m args below meth c Z EL nw Q F w h k n (mkF m nx Ls (.int x.toInt32 :: st))) : Goes p l e R s m args below meth c Z EL nw Q F w h k n (mkF m pc Ls (.long x :: st)) := by
  obtain ⟨d1, rfl⟩ := d
  exact Goes.pure (fun T vm0 locs X t ht => XT.l2i X.here C.1 rfl (hb C.2.1 d1) rfl ht) g
theorem Cxt.i2l (C : Cxt p m meth c Z a0 EL own mn bytes ml ret Ws) {x : Int32} (d : Dec bytes pc (.i2l) 1 nx)  (g : Goes p l e R s m args below meth c Z EL nw Q F w h k n (mkF m nx Ls (.long x.toInt64 :: st))) : Goes p l e R s m args below meth c Z EL nw Q F w h k n (mkF m pc Ls (.int x :: st)) := by
  obtain ⟨d1, rfl⟩ := d
  exact Goes.pure (fun T vm0 locs X t ht => XT.i2l X.here C.1 rfl (hb C.2.1 d1) rfl ht) g
theorem Cxt.i2c (C : Cxt p m meth c Z a0 EL own mn bytes ml ret Ws) {x : Int32} (d : Dec bytes pc (.i2c) 1 nx)  (g : Goes p l e R s m args below meth c Z EL nw Q F w h k n (mkF m nx Ls (.int (c16 x) :: st))) : Goes p l e R s m args below meth c Z EL nw Q F w h k n (mkF m pc Ls (.int x :: st)) := by
  obtain ⟨d1, rfl⟩ := d
  exact Goes.pure (fun T vm0 locs X t ht => XT.i2c X.here C.1 rfl (hb C.2.1 d1) rfl ht) g
theorem Cxt.i2b (C : Cxt p m meth c Z a0 EL own mn bytes ml ret Ws) {x : Int32} (d : Dec bytes pc (.i2b) 1 nx)  (g : Goes p l e R s m args below meth c Z EL nw Q F w h k n (mkF m nx Ls (.int (b8 x) :: st))) : Goes p l e R s m args below meth c Z EL nw Q F w h k n (mkF m pc Ls (.int x :: st)) := by
  obtain ⟨d1, rfl⟩ := d
  exact Goes.pure (fun T vm0 locs X t ht => XT.i2b X.here C.1 rfl (hb C.2.1 d1) rfl ht) g
theorem Cxt.lcmp (C : Cxt p m meth c Z a0 EL own mn bytes ml ret Ws) {x y : Int64} (d : Dec bytes pc (.lcmp) 1 nx)  (g : Goes p l e R s m args below meth c Z EL nw Q F w h k n (mkF m nx Ls (.int (XT.cmpL x y) :: st))) : Goes p l e R s m args below meth c Z EL nw Q F w h k n (mkF m pc Ls (.long y :: .long x :: st)) := by
  obtain ⟨d1, rfl⟩ := d
  exact Goes.pure (fun T vm0 locs X t ht => XT.lcmp X.here C.1 rfl (hb C.2.1 d1) rfl ht) g
theorem Cxt.dup (C : Cxt p m meth c Z a0 EL own mn bytes ml ret Ws) {x : Value} (d : Dec bytes pc (.dup) 1 nx) (hc : x.category = 1) (g : Goes p l e R s m args below meth c Z EL nw Q F w h k n (mkF m nx Ls (x :: x :: st))) : Goes p l e R s m args below meth c Z EL nw Q F w h k n (mkF m pc Ls (x :: st)) := by
  obtain ⟨d1, rfl⟩ := d
  exact Goes.pure (fun T vm0 locs X t ht => XS.dup X.here C.1 rfl (hb C.2.1 d1) rfl hc ht) g
theorem Cxt.pop (C : Cxt p m meth c Z a0 EL own mn bytes ml ret Ws) {x : Value} (d : Dec bytes pc (.pop) 1 nx) (hc : x.category = 1) (g : Goes p l e R s m args below meth c Z EL nw Q F w h k n (mkF m nx Ls st)) : Goes p l e R s m args below meth c Z EL nw Q F w h k n (mkF m pc Ls (x :: st)) := by
  obtain ⟨d1, rfl⟩ := d
  exact Goes.pure (fun T vm0 locs X t ht => XT.pop X.here C.1 rfl (hb C.2.1 d1) rfl hc ht) g
theorem Cxt.dup_x1 (C : Cxt p m meth c Z a0 EL own mn bytes ml ret Ws) {x y : Value} (d : Dec bytes pc (.dup_x1) 1 nx) (hc : x.category = 1) (hc' : y.category = 1) (g : Goes p l e R s m args below meth c Z EL nw Q F w h k n (mkF m nx Ls (x :: y :: x :: st))) : Goes p l e R s m args below meth c Z EL nw Q F w h k n (mkF m pc Ls (x :: y :: st)) := by
  obtain ⟨d1, rfl⟩ := d
  exact Goes.pure (fun T vm0 locs X t ht => XT.dupX1 X.here C.1 rfl (hb C.2.1 d1) rfl hc hc' ht) g
theorem Cxt.dup2 (C : Cxt p m meth c Z a0 EL own mn bytes ml ret Ws) {x y : Value} (d : Dec bytes pc (.dup2) 1 nx) (hc : x.category = 1) (hc' : y.category = 1) (g : Goes p l e R s m args below meth c Z EL nw Q F w h k n (mkF m nx Ls (x :: y :: x :: y :: st))) : Goes p l e R s m args below meth c Z EL nw Q F w h k n (mkF m pc Ls (x :: y :: st)) := by
  obtain ⟨d1, rfl⟩ := d
  exact Goes.pure (fun T vm0 locs X t ht => XT.dup2 X.here C.1 rfl (hb C.2.1 d1) rfl hc hc' ht) g
theorem Cxt.lstoreN (C : Cxt p m meth c Z a0 EL own mn bytes ml ret Ws) {i : Fin 4} {x : Int64} {l' : Array Slot} (d : Dec bytes pc (.lstore_n i) 1 nx) (hl : storeLocals Ls i.val (.long x) = some l') (g : Goes p l e R s m args below meth c Z EL nw Q F w h k n (mkF m nx l' st)) : Goes p l e R s m args below meth c Z EL nw Q F w h k n (mkF m pc Ls (.long x :: st)) := by
  obtain ⟨d1, rfl⟩ := d
  exact Goes.pure (fun T vm0 locs X t ht => XT.lstoreN X.here C.1 rfl (hb C.2.1 d1) rfl hl ht) g
theorem Cxt.lstore (C : Cxt p m meth c Z a0 EL own mn bytes ml ret Ws) {i : Nat} {x : Int64} {l' : Array Slot} (d : Dec bytes pc (.lstore i) 2 nx) (hl : storeLocals Ls i (.long x) = some l') (g : Goes p l e R s m args below meth c Z EL nw Q F w h k n (mkF m nx l' st)) : Goes p l e R s m args below meth c Z EL nw Q F w h k n (mkF m pc Ls (.long x :: st)) := by
  obtain ⟨d1, rfl⟩ := d
  exact Goes.pure (fun T vm0 locs X t ht => XT.lstore X.here C.1 rfl (hb C.2.1 d1) rfl hl ht) g
def okS : Slot → Bool | .unset => true | .val w => w.category == 1 | .second => false
theorem store_ok {L : List Slot} {i : Nat} {o : Slot} {v : Value} (hold : L[i]? = some o) (ho : okS o = true) (hv : v.category = 1) : storeLocals ⟨L⟩ i v = some ⟨L.set i (.val v)⟩ := by
  have h1 : (⟨L⟩ : Array Slot)[i]? = some o := by simpa using hold
  have h2 : o = .unset ∨ ∃ w, o = .val w ∧ w.category = 1 := by
    cases o with
    | unset => exact Or.inl rfl
    | val w => exact Or.inr ⟨w, rfl, by simpa [okS] using ho⟩
    | second => simp [okS] at ho
  rw [XS.store1 h1 h2 hv]
  simp
theorem Cxt.istoreN (C : Cxt p m meth c Z a0 EL own mn bytes ml ret Ws) {L : List Slot} {o : Slot} {i : Fin 4} {x : Int32} (d : Dec bytes pc (.istore_n i) 1 nx) (hold : L[i.val]? = some o) (ho : okS o = true) (g : Goes p l e R s m args below meth c Z EL nw Q F w h k n (mkF m nx ⟨L.set i.val (.val (.int x))⟩ st)) : Goes p l e R s m args below meth c Z EL nw Q F w h k n (mkF m pc ⟨L⟩ (.int x :: st)) := by
  obtain ⟨d1, rfl⟩ := d
  exact Goes.pure (fun T vm0 locs X t ht => XS.istoreN X.here C.1 rfl (hb C.2.1 d1) rfl (store_ok hold ho rfl) ht) g
theorem Cxt.istore (C : Cxt p m meth c Z a0 EL own mn bytes ml ret Ws) {L : List Slot} {o : Slot} {i : Nat} {x : Int32} (d : Dec bytes pc (.istore i) 2 nx) (hold : L[i]? = some o) (ho : okS o = true) (g : Goes p l e R s m args below meth c Z EL nw Q F w h k n (mkF m nx ⟨L.set i (.val (.int x))⟩ st)) : Goes p l e R s m args below meth c Z EL nw Q F w h k n (mkF m pc ⟨L⟩ (.int x :: st)) := by
  obtain ⟨d1, rfl⟩ := d
  exact Goes.pure (fun T vm0 locs X t ht => XS.istore X.here C.1 rfl (hb C.2.1 d1) rfl (store_ok hold ho rfl) ht) g
theorem ref_cat {v : Value} (h : v.isRef = true) : v.category = 1 := by cases v <;> simp [Value.isRef] at h <;> rfl
theorem Cxt.astoreN (C : Cxt p m meth c Z a0 EL own mn bytes ml ret Ws) {L : List Slot} {o : Slot} {i : Fin 4} {x : Value} (d : Dec bytes pc (.astore_n i) 1 nx) (hv : x.isRef = true) (hold : L[i.val]? = some o) (ho : okS o = true) (g : Goes p l e R s m args below meth c Z EL nw Q F w h k n (mkF m nx ⟨L.set i.val (.val x)⟩ st)) : Goes p l e R s m args below meth c Z EL nw Q F w h k n (mkF m pc ⟨L⟩ (x :: st)) := by
  obtain ⟨d1, rfl⟩ := d
  exact Goes.pure (fun T vm0 locs X t ht => XS.astoreN X.here C.1 rfl (hb C.2.1 d1) rfl hv (store_ok hold ho (ref_cat hv)) ht) g
theorem Cxt.astore (C : Cxt p m meth c Z a0 EL own mn bytes ml ret Ws) {L : List Slot} {o : Slot} {i : Nat} {x : Value} (d : Dec bytes pc (.astore i) 2 nx) (hv : x.isRef = true) (hold : L[i]? = some o) (ho : okS o = true) (g : Goes p l e R s m args below meth c Z EL nw Q F w h k n (mkF m nx ⟨L.set i (.val x)⟩ st)) : Goes p l e R s m args below meth c Z EL nw Q F w h k n (mkF m pc ⟨L⟩ (x :: st)) := by
  obtain ⟨d1, rfl⟩ := d
  exact Goes.pure (fun T vm0 locs X t ht => XS.astore X.here C.1 rfl (hb C.2.1 d1) rfl hv (store_ok hold ho (ref_cat hv)) ht) g
theorem Cxt.iinc (C : Cxt p m meth c Z a0 EL own mn bytes ml ret Ws) {L : List Slot} {i : Nat} {cst : Int} {x : Int32} (y : Int32) (d : Dec bytes pc (.iinc i cst) 3 nx) (hy : Int32.ofInt cst = y) (hl : L[i]? = some (.val (.int x))) (g : Goes p l e R s m args below meth c Z EL nw Q F w h k n (mkF m nx ⟨L.set i (.val (.int (x + y)))⟩ st)) : Goes p l e R s m args below meth c Z EL nw Q F w h k n (mkF m pc ⟨L⟩ st) := by
  subst hy; obtain ⟨d1, rfl⟩ := d
  exact Goes.pure (fun T vm0 locs X t ht => XS.iinc X.here C.1 rfl (hb C.2.1 d1) (by simpa using hl) (store_ok hl rfl rfl) ht) g
theorem Cxt.goto (C : Cxt p m meth c Z a0 EL own mn bytes ml ret Ws) {o : Int} {tgt : Nat} (d : DecJ bytes pc (.goto o) o nx tgt) (g : Goes p l e R s m args below meth c Z EL nw Q F w h k n (mkF m tgt Ls st)) : Goes p l e R s m args below meth c Z EL nw Q F w h k n (mkF m pc Ls st) :=
  Goes.pure (fun T vm0 locs X t ht => XS.goto X.here C.1 rfl rfl (hb C.2.1 d.1) d.2.2.1 d.2.2.2 ht) g
theorem Cxt.if_eq (C : Cxt p m meth c Z a0 EL own mn bytes ml ret Ws) {o : Int} {tgt : Nat} {x : Int32} (d : DecJ bytes pc (.ifCond .eq o) o nx tgt) (g1 : x = 0 → Goes p l e R s m args below meth c Z EL nw Q F w h k n (mkF m tgt Ls st)) (g2 : ¬ x = 0 → Goes p l e R s m args below meth c Z EL nw Q F w h k n (mkF m nx Ls st)) : Goes p l e R s m args below meth c Z EL nw Q F w h k n (mkF m pc Ls (.int x :: st)) := by
  obtain ⟨d1, rfl, d3, d4⟩ := d
  by_cases q : x = 0
  · exact Goes.pure (fun T vm0 locs X t ht => XS.ifYes X.here C.1 rfl rfl (hb C.2.1 d1) rfl (XT.i0_eq_t q) d3 d4 ht) (g1 q)
  · exact Goes.pure (fun T vm0 locs X t ht => XS.ifNo X.here C.1 rfl (hb C.2.1 d1) rfl (XT.i0_eq_f q) ht) (g2 q)
theorem Cxt.if_ne (C : Cxt p m meth c Z a0 EL own mn bytes ml ret Ws) {o : Int} {tgt : Nat} {x : Int32} (d : DecJ bytes pc (.ifCond .ne o) o nx tgt) (g1 : ¬ x = 0 → Goes p l e R s m args below meth c Z EL nw Q F w h k n (mkF m tgt Ls st)) (g2 : x = 0 → Goes p l e R s m args below meth c Z EL nw Q F w h k n (mkF m nx Ls st)) : Goes p l e R s m args below meth c Z EL nw Q F w h k n (mkF m pc Ls (.int x :: st)) := by
  obtain ⟨d1, rfl, d3, d4⟩ := d
  by_cases q : x = 0
  · exact Goes.pure (fun T vm0 locs X t ht => XS.ifNo X.here C.1 rfl (hb C.2.1 d1) rfl (XT.i0_ne_f q) ht) (g2 q)
  · exact Goes.pure (fun T vm0 locs X t ht => XS.ifYes X.here C.1 rfl rfl (hb C.2.1 d1) rfl (XT.i0_ne_t q) d3 d4 ht) (g1 q)
theorem Cxt.if_lt (C : Cxt p m meth c Z a0 EL own mn bytes ml ret Ws) {o : Int} {tgt : Nat} {x : Int32} (d : DecJ bytes pc (.ifCond .lt o) o nx tgt) (g1 : x < 0 → Goes p l e R s m args below meth c Z EL nw Q F w h k n (mkF m tgt Ls st)) (g2 : ¬ x < 0 → Goes p l e R s m args below meth c Z EL nw Q F w h k n (mkF m nx Ls st)) : Goes p l e R s m args below meth c Z EL nw Q F w h k n (mkF m pc Ls (.int x :: st)) := by
  obtain ⟨d1, rfl, d3, d4⟩ := d
  by_cases q : x < 0
  · exact Goes.pure (fun T vm0 locs X t ht => XS.ifYes X.here C.1 rfl rfl (hb C.2.1 d1) rfl (XT.i0_lt_t q) d3 d4 ht) (g1 q)
  · exact Goes.pure (fun T vm0 locs X t ht => XS.ifNo X.here C.1 rfl (hb C.2.1 d1) rfl (XT.i0_lt_f q) ht) (g2 q)
theorem Cxt.if_ge (C : Cxt p m meth c Z a0 EL own mn bytes ml ret Ws) {o : Int} {tgt : Nat} {x : Int32} (d : DecJ bytes pc (.ifCond .ge o) o nx tgt) (g1 : ¬ x < 0 → Goes p l e R s m args below meth c Z EL nw Q F w h k n (mkF m tgt Ls st)) (g2 : x < 0 → Goes p l e R s m args below meth c Z EL nw Q F w h k n (mkF m nx Ls st)) : Goes p l e R s m args below meth c Z EL nw Q F w h k n (mkF m pc Ls (.int x :: st)) := by
  obtain ⟨d1, rfl, d3, d4⟩ := d
  by_cases q : x < 0
  · exact Goes.pure (fun T vm0 locs X t ht => XS.ifNo X.here C.1 rfl (hb C.2.1 d1) rfl (XT.i0_ge_f q) ht) (g2 q)
  · exact Goes.pure (fun T vm0 locs X t ht => XS.ifYes X.here C.1 rfl rfl (hb C.2.1 d1) rfl (XT.i0_ge_t q) d3 d4 ht) (g1 q)
theorem Cxt.if_gt (C : Cxt p m meth c Z a0 EL own mn bytes ml ret Ws) {o : Int} {tgt : Nat} {x : Int32} (d : DecJ bytes pc (.ifCond .gt o) o nx tgt) (g1 : 0 < x → Goes p l e R s m args below meth c Z EL nw Q F w h k n (mkF m tgt Ls st)) (g2 : ¬ 0 < x → Goes p l e R s m args below meth c Z EL nw Q F w h k n (mkF m nx Ls st)) : Goes p l e R s m args below meth c Z EL nw Q F w h k n (mkF m pc Ls (.int x :: st)) := by
  obtain ⟨d1, rfl, d3, d4⟩ := d
  by_cases q : 0 < x
  · exact Goes.pure (fun T vm0 locs X t ht => XS.ifYes X.here C.1 rfl rfl (hb C.2.1 d1) rfl (XT.i0_gt_t q) d3 d4 ht) (g1 q)
  · exact Goes.pure (fun T vm0 locs X t ht => XS.ifNo X.here C.1 rfl (hb C.2.1 d1) rfl (XT.i0_gt_f q) ht) (g2 q)
theorem Cxt.if_le (C : Cxt p m meth c Z a0 EL own mn bytes ml ret Ws) {o : Int} {tgt : Nat} {x : Int32} (d : DecJ bytes pc (.ifCond .le o) o nx tgt) (g1 : ¬ 0 < x → Goes p l e R s m args below meth c Z EL nw Q F w h k n (mkF m tgt Ls st)) (g2 : 0 < x → Goes p l e R s m args below meth c Z EL nw Q F w h k n (mkF m nx Ls st)) : Goes p l e R s m args below meth c Z EL nw Q F w h k n (mkF m pc Ls (.int x :: st)) := by
  obtain ⟨d1, rfl, d3, d4⟩ := d
  by_cases q : 0 < x
  · exact Goes.pure (fun T vm0 locs X t ht => XS.ifNo X.here C.1 rfl (hb C.2.1 d1) rfl (XT.i0_le_f q) ht) (g2 q)
  · exact Goes.pure (fun T vm0 locs X t ht => XS.ifYes X.here C.1 rfl rfl (hb C.2.1 d1) rfl (XT.i0_le_t q) d3 d4 ht) (g1 q)
theorem Cxt.icmp_eq (C : Cxt p m meth c Z a0 EL own mn bytes ml ret Ws) {o : Int} {tgt : Nat} {x y : Int32} (d : DecJ bytes pc (.if_icmp .eq o) o nx tgt) (g1 : x = y → Goes p l e R s m args below meth c Z EL nw Q F w h k n (mkF m tgt Ls st)) (g2 : ¬ x = y → Goes p l e R s m args below meth c Z EL nw Q F w h k n (mkF m nx Ls st)) : Goes p l e R s m args below meth c Z EL nw Q F w h k n (mkF m pc Ls (.int y :: .int x :: st)) := by
  obtain ⟨d1, rfl, d3, d4⟩ := d
  by_cases q : x = y
  · exact Goes.pure (fun T vm0 locs X t ht => XS.icmpYes X.here C.1 rfl rfl (hb C.2.1 d1) rfl (XT.ii_eq_t q) d3 d4 ht) (g1 q)
  · exact Goes.pure (fun T vm0 locs X t ht => XS.icmpNo X.here C.1 rfl (hb C.2.1 d1) rfl (XT.ii_eq_f q) ht) (g2 q)
theorem Cxt.icmp_ne (C : Cxt p m meth c Z a0 EL own mn bytes ml ret Ws) {o : Int} {tgt : Nat} {x y : Int32} (d : DecJ bytes pc (.if_icmp .ne o) o nx tgt) (g1 : ¬ x = y → Goes p l e R s m args below meth c Z EL nw Q F w h k n (mkF m tgt Ls st)) (g2 : x = y → Goes p l e R s m args below meth c Z EL nw Q F w h k n (mkF m nx Ls st)) : Goes p l e R s m args below meth c Z EL nw Q F w h k n (mkF m pc Ls (.int y :: .int x :: st)) := by
  obtain ⟨d1, rfl, d3, d4⟩ := d
  by_cases q : x = y
  · exact Goes.pure (fun T vm0 locs X t ht => XS.icmpNo X.here C.1 rfl (hb C.2.1 d1) rfl (XT.ii_ne_f q) ht) (g2 q)
  · exact Goes.pure (fun T vm0 locs X t ht => XS.icmpYes X.here C.1 rfl rfl (hb C.2.1 d1) rfl (XT.ii_ne_t q) d3 d4 ht) (g1 q)
theorem Cxt.icmp_lt (C : Cxt p m meth c Z a0 EL own mn bytes ml ret Ws) {o : Int} {tgt : Nat} {x y : Int32} (d : DecJ bytes pc (.if_icmp .lt o) o nx tgt) (g1 : x < y → Goes p l e R s m args below meth c Z EL nw Q F w h k n (mkF m tgt Ls st)) (g2 : ¬ x < y → Goes p l e R s m args below meth c Z EL nw Q F w h k n (mkF m nx Ls st)) : Goes p l e R s m args below meth c Z EL nw Q F w h k n (mkF m pc Ls (.int y :: .int x :: st)) := by
  obtain ⟨d1, rfl, d3, d4⟩ := d
  by_cases q : x < y
  · exact Goes.pure (fun T vm0 locs X t ht => XS.icmpYes X.here C.1 rfl rfl (hb C.2.1 d1) rfl (XT.ii_lt_t q) d3 d4 ht) (g1 q)
  · exact Goes.pure (fun T vm0 locs X t ht => XS.icmpNo X.here C.1 rfl (hb C.2.1 d1) rfl (XT.ii_lt_f q) ht) (g2 q)
theorem Cxt.icmp_ge (C : Cxt p m meth c Z a0 EL own mn bytes ml ret Ws) {o : Int} {tgt : Nat} {x y : Int32} (d : DecJ bytes pc (.if_icmp .ge o) o nx tgt) (g1 : ¬ x < y → Goes p l e R s m args below meth c Z EL nw Q F w h k n (mkF m tgt Ls st)) (g2 : x < y → Goes p l e R s m args below meth c Z EL nw Q F w h k n (mkF m nx Ls st)) : Goes p l e R s m args below meth c Z EL nw Q F w h k n (mkF m pc Ls (.int y :: .int x :: st)) := by
  obtain ⟨d1, rfl, d3, d4⟩ := d
  by_cases q : x < y
  · exact Goes.pure (fun T vm0 locs X t ht => XS.icmpNo X.here C.1 rfl (hb C.2.1 d1) rfl (XT.ii_ge_f q) ht) (g2 q)
  · exact Goes.pure (fun T vm0 locs X t ht => XS.icmpYes X.here C.1 rfl rfl (hb C.2.1 d1) rfl (XT.ii_ge_t q) d3 d4 ht) (g1 q)
theorem Cxt.icmp_gt (C : Cxt p m meth c Z a0 EL own mn bytes ml ret Ws) {o : Int} {tgt : Nat} {x y : Int32} (d : DecJ bytes pc (.if_icmp .gt o) o nx tgt) (g1 : y < x → Goes p l e R s m args below meth c Z EL nw Q F w h k n (mkF m tgt Ls st)) (g2 : ¬ y < x → Goes p l e R s m args below meth c Z EL nw Q F w h k n (mkF m nx Ls st)) : Goes p l e R s m args below meth c Z EL nw Q F w h k n (mkF m pc Ls (.int y :: .int x :: st)) := by
  obtain ⟨d1, rfl, d3, d4⟩ := d
  by_cases q : y < x
  · exact Goes.pure (fun T vm0 locs X t ht => XS.icmpYes X.here C.1 rfl rfl (hb C.2.1 d1) rfl (XT.ii_gt_t q) d3 d4 ht) (g1 q)
  · exact Goes.pure (fun T vm0 locs X t ht => XS.icmpNo X.here C.1 rfl (hb C.2.1 d1) rfl (XT.ii_gt_f q) ht) (g2 q)
theorem Cxt.icmp_le (C : Cxt p m meth c Z a0 EL own mn bytes ml ret Ws) {o : Int} {tgt : Nat} {x y : Int32} (d : DecJ bytes pc (.if_icmp .le o) o nx tgt) (g1 : ¬ y < x → Goes p l e R s m args below meth c Z EL nw Q F w h k n (mkF m tgt Ls st)) (g2 : y < x → Goes p l e R s m args below meth c Z EL nw Q F w h k n (mkF m nx Ls st)) : Goes p l e R s m args below meth c Z EL nw Q F w h k n (mkF m pc Ls (.int y :: .int x :: st)) := by
  obtain ⟨d1, rfl, d3, d4⟩ := d
  by_cases q : y < x
  · exact Goes.pure (fun T vm0 locs X t ht => XS.icmpNo X.here C.1 rfl (hb C.2.1 d1) rfl (XT.ii_le_f q) ht) (g2 q)
  · exact Goes.pure (fun T vm0 locs X t ht => XS.icmpYes X.here C.1 rfl rfl (hb C.2.1 d1) rfl (XT.ii_le_t q) d3 d4 ht) (g1 q)
theorem Cxt.ifnullY (C : Cxt p m meth c Z a0 EL own mn bytes ml ret Ws) {o : Int} {tgt : Nat} (d : DecJ bytes pc (.ifnull o) o nx tgt) (g : Goes p l e R s m args below meth c Z EL nw Q F w h k n (mkF m tgt Ls st)) : Goes p l e R s m args below meth c Z EL nw Q F w h k n (mkF m pc Ls (.null :: st)) :=
  Goes.pure (fun T vm0 locs X t ht => XS.ifnullYes X.here C.1 rfl rfl (hb C.2.1 d.1) rfl d.2.2.1 d.2.2.2 ht) g
theorem Cxt.ifnullN (C : Cxt p m meth c Z a0 EL own mn bytes ml ret Ws) {o : Int} {tgt : Nat} {b : Addr} (d : DecJ bytes pc (.ifnull o) o nx tgt) (g : Goes p l e R s m args below meth c Z EL nw Q F w h k n (mkF m nx Ls st)) : Goes p l e R s m args below meth c Z EL nw Q F w h k n (mkF m pc Ls (.ref b :: st)) := by
  obtain ⟨d1, rfl, d3, d4⟩ := d
  exact Goes.pure (fun T vm0 locs X t ht => XS.ifnullNo X.here C.1 rfl (hb C.2.1 d1) rfl ht) g
theorem Cxt.ifnonnullY (C : Cxt p m meth c Z a0 EL own mn bytes ml ret Ws) {o : Int} {tgt : Nat} {b : Addr} (d : DecJ bytes pc (.ifnonnull o) o nx tgt) (g : Goes p l e R s m args below meth c Z EL nw Q F w h k n (mkF m tgt Ls st)) : Goes p l e R s m args below meth c Z EL nw Q F w h k n (mkF m pc Ls (.ref b :: st)) :=
  Goes.pure (fun T vm0 locs X t ht => XT.ifnonnullYes X.here C.1 rfl rfl (hb C.2.1 d.1) rfl d.2.2.1 d.2.2.2 ht) g
theorem Cxt.ifnonnullN (C : Cxt p m meth c Z a0 EL own mn bytes ml ret Ws) {o : Int} {tgt : Nat} (d : DecJ bytes pc (.ifnonnull o) o nx tgt) (g : Goes p l e R s m args below meth c Z EL nw Q F w h k n (mkF m nx Ls st)) : Goes p l e R s m args below meth c Z EL nw Q F w h k n (mkF m pc Ls (.null :: st)) := by
  obtain ⟨d1, rfl, d3, d4⟩ := d
  exact Goes.pure (fun T vm0 locs X t ht => XT.ifnonnullNo X.here C.1 rfl (hb C.2.1 d1) rfl ht) g
theorem Cxt.acmp_eq (C : Cxt p m meth c Z a0 EL own mn bytes ml ret Ws) {o : Int} {tgt : Nat} {x y : Value} (d : DecJ bytes pc (.if_acmp .eq o) o nx tgt) (hx : x.isRef = true) (hy : y.isRef = true) (g1 : x = y → Goes p l e R s m args below meth c Z EL nw Q F w h k n (mkF m tgt Ls st)) (g2 : ¬ x = y → Goes p l e R s m args below meth c Z EL nw Q F w h k n (mkF m nx Ls st)) : Goes p l e R s m args below meth c Z EL nw Q F w h k n (mkF m pc Ls (y :: x :: st)) := by
  obtain ⟨d1, rfl, d3, d4⟩ := d
  by_cases q : x = y
  · exact Goes.pure (fun T vm0 locs X t ht => XT.acmpYes X.here C.1 rfl rfl (hb C.2.1 d1) rfl hx hy (by simp [XT.acmp, q]) d3 d4 ht) (g1 q)
  · exact Goes.pure (fun T vm0 locs X t ht => XT.acmpNo X.here C.1 rfl (hb C.2.1 d1) rfl hx hy (by simp [XT.acmp, q]) ht) (g2 q)
theorem Cxt.acmp_ne (C : Cxt p m meth c Z a0 EL own mn bytes ml ret Ws) {o : Int} {tgt : Nat} {x y : Value} (d : DecJ bytes pc (.if_acmp .ne o) o nx tgt) (hx : x.isRef = true) (hy : y.isRef = true) (g1 : ¬ x = y → Goes p l e R s m args below meth c Z EL nw Q F w h k n (mkF m tgt Ls st)) (g2 : x = y → Goes p l e R s m args below meth c Z EL nw Q F w h k n (mkF m nx Ls st)) : Goes p l e R s m args below meth c Z EL nw Q F w h k n (mkF m pc Ls (y :: x :: st)) := by
  obtain ⟨d1, rfl, d3, d4⟩ := d
  by_cases q : x = y
  · exact Goes.pure (fun T vm0 locs X t ht => XT.acmpNo X.here C.1 rfl (hb C.2.1 d1) rfl hx hy (by simp [XT.acmp, q]) ht) (g2 q)
  · exact Goes.pure (fun T vm0 locs X t ht => XT.acmpYes X.here C.1 rfl rfl (hb C.2.1 d1) rfl hx hy (by simp [XT.acmp, q]) d3 d4 ht) (g1 q)
theorem Cxt.ends (C : Cxt p m meth c Z a0 EL own mn bytes ml ret Ws) {T : State} {vm0 : Vm} {locs : List Loc} {k0 : Nat} (H : Here p l e R s m args below meth c Z EL nw F w h k n T vm0 locs k0) {v : Option Value} (hv : ret = none → v = none) (hq : Q v h) (hk : k ≤ R.cells) (hn : n ≤ R.slots) {f : JFrame}
    (stp : ∀ fs, (∀ (f : JFrame) (acts : List Action), f.method = m → f.locked = none → f.entered = [] → (doReturn e (T.setTop f) acts v).1 = T.setFrames fs) → Steps p.tables e below (T.setTop f) (T.setFrames fs)) : Ends p e R s below Z EL nw Q (T.setTop f) := by
  obtain ⟨X, eT, N, S, hk0, hZ, H1, hw, hF, O, hwm, hbk⟩ := H
  obtain ⟨fs, h1, h2, h3, h4⟩ := X.leaveW S (by rw [eT]; exact hk0) (v := v) (fun q => hv (C.2.2.2.2.1 ▸ q)) C.2.2.2.2.2.1
  have A := CHv.at X hZ C.2.2.2.2.2.2.2.2 H1.1
  refine ⟨T.setFrames fs, v, locs, stp fs h1, h2, h3, ?_, N, ?_, fun q => ⟨State.WarmedH.trans (hw q) X.warmed, ?_⟩, ?_, ⟨h4.1, h4.2.1, h4.2.2.1, h4.2.2.2.mono hk hn⟩⟩
  · show Q v T.heap; rw [eT]; exact hq
  · show CHr Z EL s.vm s.heap T.vm T.heap; rw [eT]; exact H1.trans A
  · intro y hy
    have hy' : Bk Z EL T.vm h y := eT ▸ hy
    rcases A.2.2 y hy' with z | z
    · exact hbk q y z
    · obtain ⟨cell, hcell⟩ := hy'.there
      exact absurd (Array.getElem?_eq_some_iff.mp hcell).1 (Nat.not_lt.mpr z)
  · show Ext Z.heap T.heap; rw [eT]; exact O
theorem Cxt.return_ (C : Cxt p m meth c Z a0 EL own mn bytes ml ret Ws) (d : Dec bytes pc .return_ 1 nx) (hr : ret = none) (hq : Q none h) (hk : k ≤ R.cells) (hn : n ≤ R.slots) : Goes p l e R s m args below meth c Z EL nw Q F w h k n (mkF m pc Ls []) := fun T vm0 locs k0 H =>
  C.ends H (fun _ => rfl) hq hk hn fun fs hl => H.1.returnOut C.1 (C.2.2.2.2.1.trans hr) (hb C.2.1 d.1) hl
theorem Cxt.ireturn (C : Cxt p m meth c Z a0 EL own mn bytes ml ret Ws) {t : FieldType} {v : Int32} (d : Dec bytes pc .ireturn 1 nx) (hr : ret = some t) (ht : t = .int ∨ t = .boolean ∨ t = .byte ∨ t = .char ∨ t = .short) (hnv : narrow t (.int v) = .int v) (hq : Q (some (.int v)) h) (hk : k ≤ R.cells) (hn : n ≤ R.slots) : Goes p l e R s m args below meth c Z EL nw Q F w h k n (mkF m pc Ls (.int v :: st)) := fun T vm0 locs k0 H =>
  C.ends H (fun q => by rw [hr] at q; cases q) hq hk hn fun fs hl => retOut H.1 C.1 (C.2.2.2.2.1.trans hr) hnv (Or.inl ⟨rfl, ht, v, rfl⟩) (hb C.2.1 d.1) hl
theorem Cxt.areturn (C : Cxt p m meth c Z a0 EL own mn bytes ml ret Ws) {t : FieldType} {v : Value} (d : Dec bytes pc .areturn 1 nx) (hr : ret = some t) (ht : t.isReference = true) (hv : v.isRef = true) (hnv : narrow t v = v) (hq : Q (some v) h) (hk : k ≤ R.cells) (hn : n ≤ R.slots) : Goes p l e R s m args below meth c Z EL nw Q F w h k n (mkF m pc Ls (v :: st)) := fun T vm0 locs k0 H =>
  C.ends H (fun q => by rw [hr] at q; cases q) hq hk hn fun fs hl => retOut H.1 C.1 (C.2.2.2.2.1.trans hr) hnv (Or.inr (Or.inr (Or.inr (Or.inr ⟨rfl, ht, hv⟩)))) (hb C.2.1 d.1) hl
theorem Cxt.new (C : Cxt p m meth c Z a0 EL own mn bytes ml ret Ws) {idx q : Nat} {cls : String} (d : Dec bytes pc (.new idx) 3 nx) (ww : Jvm.Cond.classLink own idx cls ∈ Ws) (wi : Jvm.Cond.instantiable cls q ∈ Ws) (wz : Jvm.Cond.initialized cls ∈ Ws) (hk : k + 1 ≤ R.cells) (hn : n + q ≤ R.slots)
    (g : ∀ h' a, @Eq Nat a h.size → Ext h h' → Exa Z h' a cls → (∀ {O nm d : String} {ty : FieldType}, Laid Z a0 cls O nm d → parseFieldDescriptor d = some ty → Fld Z h' a O nm d (defaultValue ty)) → Goes p l e R s m args below meth c Z EL nw Q (a :: F) w h' (k + 1) (n + q) (mkF m nx Ls (.ref a :: st))) : Goes p l e R s m args below meth c Z EL nw Q F w h k n (mkF m pc Ls st) := by
  obtain ⟨d1, rfl⟩ := d
  intro T vm0 locs k0 H
  obtain ⟨X, eT, N, S, hk0, hZ, H1, hw, hF, O, hwm, hbk⟩ := id H
  obtain ⟨T', h', X', e', E', A', D', -, st'⟩ := RoadKit.newO X C.1 hZ (C.own_at hZ) (C.wrd ww) (C.wrd wi) (C.wrd wz) eT (g := mkF m pc Ls st) rfl (hb C.2.1 d1) hk hn
  obtain ⟨X2, eT2, N2, S2, hk2, hZ2, H2, hw2, hF2, O2, hwm2, hbk2⟩ := H.step X' e' N (keep_ext E' []) (fun x hx => nomatch hx)
  obtain ⟨t, v, L, h1, r⟩ := g h' h.size rfl E' A' D' T' vm0 locs k0 ⟨X2, eT2, N2, S2, hk2, hZ2, H2, hw2, fun x hx => (List.mem_cons.mp hx).elim (fun q => by subst q; exact ⟨A'.lt, (Safe.new (Nat.le_refl _)).ext E' H1.1⟩) (hF2 x), O2, hwm2, hbk2⟩
  exact ⟨t, v, L, st' _ h1, r⟩
theorem Cxt.getF (C : Cxt p m meth c Z a0 EL own mn bytes ml ret Ws) {idx : Nat} {O fn fd : String} {a : Addr} {v : Value} (d : Dec bytes pc (.getfield idx) 3 nx) (ww : Jvm.Cond.fieldLink own idx O fn fd ∈ Ws) (A : Fld Z h a O fn fd v) (g : Goes p l e R s m args below meth c Z EL nw Q F w h k n (mkF m nx Ls (v :: st))) : Goes p l e R s m args below meth c Z EL nw Q F w h k n (mkF m pc Ls (.ref a :: st)) := by
  obtain ⟨d1, rfl⟩ := d
  intro T vm0 locs k0 H
  obtain ⟨T', X', e', st'⟩ := RoadKit.getF H.1 C.1 H.2.2.2.2.2.1 (C.own_at H.2.2.2.2.2.1) (host := "") (Or.inl (C.wrd ww)) Via.refl H.2.1 A (g := mkF m pc Ls (.ref a :: st)) rfl rfl (hb C.2.1 d1)
  obtain ⟨t, v, L, h1, r⟩ := g T' vm0 locs k0 (H.step X' e' H.2.2.1 (Keep.refl _ []) (fun x hx => nomatch hx))
  exact ⟨t, v, L, st' _ h1, r⟩
theorem Cxt.getFV (C : Cxt p m meth c Z a0 EL own mn bytes ml ret Ws) {idx : Nat} {R0 O fn fd : String} {a : Addr} {v : Value} (d : Dec bytes pc (.getfield idx) 3 nx) (ww : Jvm.Cond.fieldLink own idx R0 fn fd ∈ Ws) (wv : Jvm.Cond.sameField R0 O fn fd ∈ Ws) (A : Fld Z h a O fn fd v) (g : Goes p l e R s m args below meth c Z EL nw Q F w h k n (mkF m nx Ls (v :: st))) : Goes p l e R s m args below meth c Z EL nw Q F w h k n (mkF m pc Ls (.ref a :: st)) := by
  obtain ⟨d1, rfl⟩ := d
  intro T vm0 locs k0 H
  obtain ⟨T', X', e', st'⟩ := RoadKit.getF H.1 C.1 H.2.2.2.2.2.1 (C.own_at H.2.2.2.2.2.1) (host := "") (Or.inl (C.wrd ww)) (Via.of (C.wrd wv)) H.2.1 A (g := mkF m pc Ls (.ref a :: st)) rfl rfl (hb C.2.1 d1)
  obtain ⟨t, v, L, h1, r⟩ := g T' vm0 locs k0 (H.step X' e' H.2.2.1 (Keep.refl _ []) (fun x hx => nomatch hx))
  exact ⟨t, v, L, st' _ h1, r⟩
theorem Cxt.getS (C : Cxt p m meth c Z a0 EL own mn bytes ml ret Ws) {idx : Nat} {O fn fd : String} {v : Value} (d : Dec bytes pc (.getstatic idx) 3 nx) (ww : Jvm.Cond.fieldLink own idx O fn fd ∈ Ws) (A : Sta Z Z.heap O fn fd v) (g : Goes p l e R s m args below meth c Z EL nw Q F w h k n (mkF m nx Ls (v :: st))) : Goes p l e R s m args below meth c Z EL nw Q F w h k n (mkF m pc Ls st) := by
  obtain ⟨d1, rfl⟩ := d
  intro T vm0 locs k0 H
  obtain ⟨T', X', e', st'⟩ := RoadKit.getS H.1 C.1 H.2.2.2.2.2.1 (C.own_at H.2.2.2.2.2.1) (host := "") (C.wrd ww) Via.refl H.2.1 (A.ext H.2.2.2.2.2.2.2.2.2.1) (g := mkF m pc Ls st) rfl (hb C.2.1 d1)
  obtain ⟨t, v, L, h1, r⟩ := g T' vm0 locs k0 (H.step X' e' H.2.2.1 (Keep.refl _ []) (fun x hx => nomatch hx))
  exact ⟨t, v, L, st' _ h1, r⟩
theorem Cxt.putF (C : Cxt p m meth c Z a0 EL own mn bytes ml ret Ws) {idx kk : Nat} {O cls fn fd : String} {ty : FieldType} {a : Addr} {v old : Value} (d : Dec bytes pc (.putfield idx) 3 nx) (ww : Jvm.Cond.fieldLink own idx O fn fd ∈ Ws) (A : Fld Z h a O fn fd old) (E : Exa Z h a cls)
    (Ly : Jvm.Cond.lays cls O fn fd ∈ Ws ∨ (Jvm.Cond.laysFinal cls O fn fd ∈ Ws ∧ own = O ∧ mn = "<init>")) (wi : Jvm.Cond.instantiable cls kk ∈ Ws) (hty : parseFieldDescriptor fd = some ty) (hnv : narrow ty v = v) (hf : fits ty v = true) (na : Z.heap.size ≤ a) (sf : a ∈ F ∨ w ≤ a ∨ (cls ≠ "java/lang/String" ∧ cls ≠ "[B"))
    (g : ∀ h', Wr h h' a (RoadKit.slotOf Z O fn fd) v → Goes p l e R s m args below meth c Z EL nw Q F w h' k n (mkF m nx Ls st)) : Goes p l e R s m args below meth c Z EL nw Q F w h k n (mkF m pc Ls (v :: .ref a :: st)) := by
  obtain ⟨d1, rfl⟩ := d
  intro T vm0 locs k0 H
  obtain ⟨X, eT, N, S, hk0, hZ, H1, hw, hF, O', hwm, hbk⟩ := id H
  obtain ⟨T', h', X', e', W', st'⟩ := RoadKit.putF X C.1 hZ (C.own_at hZ) (host := "") (Or.inl (C.wrd ww)) Via.refl eT A E (Ly.imp C.wrd fun q => ⟨C.wrd q.1, q.2.1, C.2.2.2.2.2.2.1.trans q.2.2⟩) (C.wrd wi) hty hnv hf (g := mkF m pc Ls (v :: .ref a :: st)) rfl rfl (hb C.2.1 d1)
  have sa : Safe Z EL vm0 h a := sf.elim (fun q => (hF a q).2) fun q => q.elim (hwm a) fun q => Safe.exa hZ.alike E q.1 q.2
  obtain ⟨t, v, L, h1, r⟩ := g h' W' T' vm0 _ k0 (H.step X' e' (Fr.snoc X' N na) (Keep.of_wr W') (fun x hx => by cases List.mem_singleton.mp hx; exact ⟨sa, na⟩))
  exact ⟨t, v, L, st' _ h1, r⟩
theorem Cxt.initO (C : Cxt p m meth c Z a0 EL own mn bytes ml ret Ws) {idx : Nat} {a : Addr} (d : Dec bytes pc (.invokespecial idx) 3 nx) (w1 : Jvm.Cond.methodLink own idx Lib.objectInit ∈ Ws) (w2 : Jvm.Cond.instanceMethod Lib.objectInit ∈ Ws) (w3 : Jvm.Cond.code Lib.objectInit ⟨#[0xb1]⟩ 1 none ∈ Ws) (hsz : Ls.size = ml) (hf : 1 ≤ R.frames) (hl : (st.map fun v => v.category).sum + 12 ≤ R.locals)
    (g : Goes p l e R s m args below meth c Z EL nw Q F w h k n (mkF m nx Ls st)) : Goes p l e R s m args below meth c Z EL nw Q F w h k n (mkF m pc Ls (.ref a :: st)) := by
  obtain ⟨d1, rfl⟩ := d
  intro T vm0 locs k0 H
  obtain ⟨T', X', e', st'⟩ := RoadKit.initO H.1 C.1 H.2.2.2.2.2.1 (C.own_at H.2.2.2.2.2.1) (C.wrd w1) (C.wrd w2) (C.wrd w3) H.2.1 (g := mkF m pc Ls (.ref a :: st)) rfl (hsz.trans C.2.2.1.symm) rfl (hb C.2.1 d1) hf (W := (st.map fun v => v.category).sum) (by show 2 * 0 + _ ≤ _; omega) hl
  obtain ⟨t, v, L, h1, r⟩ := g T' vm0 locs k0 (H.step X' e' H.2.2.1 (Keep.refl _ []) (fun x hx => nomatch hx))
  exact ⟨t, v, L, st' _ h1, r⟩
/-- the array at a holds just these values -/
def Arl (Z : State) (h : Heap) (a : Addr) (ty : FieldType) (vs : List Value) : Prop := ∃ cl : Cell, Arr Z h a cl ty ∧ cl.slots.toList = vs ∧ vs.length < 2 ^ 31 ∧ ∀ v ∈ vs, fits ty v = true
theorem Arl.lt {a : Addr} {ty : FieldType} {vs : List Value} (A : Arl Z h a ty vs) : a < h.size := by obtain ⟨cl, A, -⟩ := A; exact A.lt
theorem Arl.ext {h' : Heap} {a : Addr} {ty : FieldType} {vs : List Value} (A : Arl Z h a ty vs) (E : Ext h h') : Arl Z h' a ty vs := by obtain ⟨cl, A, r⟩ := A; exact ⟨cl, A.ext E, r⟩
theorem Arl.other {h' : Heap} {a b : Addr} {sl : Nat} {w : Value} {ty : FieldType} {vs : List Value} (A : Arl Z h a ty vs) (W : Wr h h' b sl w) (q : a ≠ b) : Arl Z h' a ty vs := by obtain ⟨cl, A, r⟩ := A; exact ⟨cl, A.other W q, r⟩
theorem Arl.keep {h' : Heap} {a : Addr} {ws : List Addr} {ty : FieldType} {vs : List Value} (A : Arl Z h a ty vs) (K : Keep h h' ws) (q : a ∉ ws) : Arl Z h' a ty vs := by obtain ⟨cl, A, r⟩ := A; exact ⟨cl, ⟨K.2.1 a cl A.1 q, A.2⟩, r⟩
theorem Arl.len {a : Addr} {ty : FieldType} {vs : List Value} (A : Arl Z h a ty vs) : vs.length < 2 ^ 31 := by obtain ⟨cl, A, r⟩ := A; exact r.2.1
theorem Arl.set {h' : Heap} {a : Addr} {i : Nat} {w : Value} {ty : FieldType} {vs : List Value} (A : Arl Z h a ty vs) (W : Wr h h' a i w) (hw : fits ty w = true) : Arl Z h' a ty (vs.set i w) := by
  obtain ⟨cl, A, rfl, r2, r3⟩ := A
  refine ⟨_, A.same W, ?_, ?_, ?_⟩
  · simp [Cell.setSlot]
  · simpa using r2
  · intro v hv
    rcases List.mem_or_eq_of_mem_set hv with q | rfl
    · exact r3 v q
    · exact hw
theorem Arl.safe {vm0 : Vm} {a : Addr} {ty : FieldType} {vs : List Value} (hal : Z.vm.Alike vm0) (A : Arl Z h a ty vs) (ht : ty ≠ .byte) : Safe Z EL vm0 h a := by obtain ⟨cl, A, -⟩ := A; exact Safe.arr hal A ht
theorem Cxt.newarray (C : Cxt p m meth c Z a0 EL own mn bytes ml ret Ws) {aty : ArrayType} {q : Nat} {z : Int32} (d : Dec bytes pc (.newarray aty) 2 nx) (ww : Jvm.Cond.arrayClass (newarray.typeOf aty) ∈ Ws) (hz : ¬ z < 0) (hzq : z.toNatClampNeg = q) (hq : q ≤ 60000000) (hk : k + 1 ≤ R.cells) (hn : n + q ≤ R.slots)
    (g : ∀ h' a, @Eq Nat a h.size → Ext h h' → a < h'.size → Arl Z h' a (newarray.typeOf aty) (List.replicate q (defaultValue (newarray.typeOf aty))) → Goes p l e R s m args below meth c Z EL nw Q (a :: F) w h' (k + 1) (n + q) (mkF m nx Ls (.ref a :: st))) : Goes p l e R s m args below meth c Z EL nw Q F w h k n (mkF m pc Ls (.int z :: st)) := by
  obtain ⟨d1, rfl⟩ := d
  intro T vm0 locs k0 H
  obtain ⟨X, eT, N, S, hk0, hZ, H1, hw, hF, O, hwm, hbk⟩ := id H
  obtain ⟨T', h', cA, X', e', E', A', st'⟩ := newP X C.1 hZ (C.wrd ww) eT (g := mkF m pc Ls (.int z :: st)) rfl (hb C.2.1 d1) rfl hz (cap := q) (Nat.le_of_eq hzq) (by omega) hk hn
  obtain ⟨X2, eT2, N2, S2, hk2, hZ2, H2, hw2, hF2, O2, hwm2, hbk2⟩ := H.step X' e' N (keep_ext E' []) (fun x hx => nomatch hx)
  have AL : Arl Z h' h.size (newarray.typeOf aty) (List.replicate q (defaultValue (newarray.typeOf aty))) := ⟨_, A', by simp [newA, hzq], by rw [List.length_replicate]; omega, fun v hv => by rw [List.eq_of_mem_replicate hv]; cases aty <;> rfl⟩
  obtain ⟨t, v, L, h1, r⟩ := g h' h.size rfl E' A'.lt AL T' vm0 locs k0 ⟨X2, eT2, N2, S2, hk2, hZ2, H2, hw2, fun x hx => (List.mem_cons.mp hx).elim (fun q => by subst q; exact ⟨A'.lt, (Safe.new (Nat.le_refl _)).ext E' H1.1⟩) (hF2 x), O2, hwm2, hbk2⟩
  exact ⟨t, v, L, st' _ h1, r⟩
theorem Cxt.cloneA (C : Cxt p m meth c Z a0 EL own mn bytes ml ret Ws) {idx q : Nat} {ad : String} {a : Addr} {ty : FieldType} {vs : List Value} (d : Dec bytes pc (.invokevirtual idx) 3 nx) (w1 : Jvm.Cond.methodLink own idx ⟨ad, "clone", "()Ljava/lang/Object;"⟩ ∈ Ws) (w2 : Jvm.Cond.sameMethod ad "java/lang/Object" "clone" "()Ljava/lang/Object;" ∈ Ws) (w3 : Jvm.Cond.native ⟨"java/lang/Object", "clone", "()Ljava/lang/Object;"⟩ ∈ Ws) (w4 : Jvm.Cond.instanceMethod ⟨"java/lang/Object", "clone", "()Ljava/lang/Object;"⟩ ∈ Ws) (w5 : Jvm.Cond.selects ad ⟨ad, "clone", "()Ljava/lang/Object;"⟩ ⟨"java/lang/Object", "clone", "()Ljava/lang/Object;"⟩ ∈ Ws) (w6 : Jvm.Cond.castable ad "java/lang/Cloneable" ∈ Ws)
    (A : Arl Z h a ty vs) (E : Exa Z h a ad) (hsz : Ls.size = ml) (hf : 1 ≤ R.frames) (hl : (st.map fun v => v.category).sum + 14 ≤ R.locals) (hq : vs.length = q) (hk : k + 1 ≤ R.cells) (hn : n + q ≤ R.slots)
    (g : ∀ h' b, @Eq Nat b h.size → Ext h h' → Arl Z h' b ty vs → Exa Z h' b ad → Goes p l e R s m args below meth c Z EL nw Q (b :: F) w h' (k + 1) (n + q) (mkF m nx Ls (.ref b :: st))) : Goes p l e R s m args below meth c Z EL nw Q F w h k n (mkF m pc Ls (.ref a :: st)) := by
  obtain ⟨d1, rfl⟩ := d
  intro T vm0 locs k0 H
  obtain ⟨X, eT, N, S, hk0, hZ, H1, hw, hF, O, hwm, hbk⟩ := id H
  obtain ⟨cl, A0, q1, q2, q3⟩ := id A
  obtain ⟨T', h', X', e', E', A', X2', st'⟩ := RoadKit.cloneA X C.1 hZ (C.own_at hZ) (C.wrd w1) (C.wrd w2) (C.wrd w3) (C.wrd w4) (C.wrd w5) (C.wrd w6) eT A0 E (fitC_of A0 fun i hi v hv => q3 v (by rw [← q1]; exact List.mem_of_getElem? (i := i) (by rw [Array.getElem?_toList]; exact hv))) (g := mkF m pc Ls (.ref a :: st)) rfl (hsz.trans C.2.2.1.symm) rfl (hb C.2.1 d1) hf (W := (st.map fun v => v.category).sum) (by show 2 * 0 + _ ≤ _; omega) hl (cap := q) (by rw [← hq, ← q1]; simp) hk hn
  obtain ⟨X2, eT2, N2, S2, hk2, hZ2, H2, hw2, hF2, O2, hwm2, hbk2⟩ := H.step X' e' N (keep_ext E' []) (fun x hx => nomatch hx)
  obtain ⟨t, v, L, h1, r⟩ := g h' h.size rfl E' ⟨_, A', q1, q2, q3⟩ X2' T' vm0 locs k0 ⟨X2, eT2, N2, S2, hk2, hZ2, H2, hw2, fun x hx => (List.mem_cons.mp hx).elim (fun q => by subst q; exact ⟨A'.lt, (Safe.new (Nat.le_refl _)).ext E' H1.1⟩) (hF2 x), O2, hwm2, hbk2⟩
  exact ⟨t, v, L, st' _ h1, r⟩
theorem inb {cl : Cell} {j : Int32} {i : Nat} (hi : j.toNatClampNeg = i) (hj : ¬ j < 0) (hlt : i < cl.slots.toList.length) : ¬ (j < 0 ∨ cl.slots.size ≤ j.toNatClampNeg) := by
  rw [hi]; intro q; rcases q with q | q
  · exact hj q
  · simp at hlt; omega
theorem Cxt.arraylength (C : Cxt p m meth c Z a0 EL own mn bytes ml ret Ws) {a : Addr} {ty : FieldType} {vs : List Value} (d : Dec bytes pc .arraylength 1 nx) (A : Arl Z h a ty vs) (g : Goes p l e R s m args below meth c Z EL nw Q F w h k n (mkF m nx Ls (.int (Int32.ofNat vs.length) :: st))) : Goes p l e R s m args below meth c Z EL nw Q F w h k n (mkF m pc Ls (.ref a :: st)) := by
  obtain ⟨d1, rfl⟩ := d
  intro T vm0 locs k0 H
  obtain ⟨t, v, L, h1, r⟩ := g T vm0 locs k0 H
  obtain ⟨cl, A, rfl, r2, r3⟩ := A
  refine ⟨t, v, L, H.1.arraylength C.1 (by rw [H.2.1]; exact A.1) (State.isArrayOf_alike H.2.2.2.2.2.1.alike A.2.1) (g := mkF m pc Ls (.ref a :: st)) rfl rfl (hb C.2.1 d1) _ ?_, r⟩
  have q : cl.slots.size.toInt32 = Int32.ofNat cl.slots.toList.length := by simp
  rw [q]; exact h1
theorem Cxt.caload (C : Cxt p m meth c Z a0 EL own mn bytes ml ret Ws) {a : Addr} {vs : List Value} {j : Int32} {i : Nat} {v : Value} (d : Dec bytes pc .caload 1 nx) (A : Arl Z h a .char vs) (hj : ¬ j < 0) (hi : j.toNatClampNeg = i) (hv : vs[i]? = some v) (g : Goes p l e R s m args below meth c Z EL nw Q F w h k n (mkF m nx Ls (v :: st))) : Goes p l e R s m args below meth c Z EL nw Q F w h k n (mkF m pc Ls (.int j :: .ref a :: st)) := by
  obtain ⟨d1, rfl⟩ := d
  intro T vm0 locs k0 H
  obtain ⟨t, v', L, h1, r⟩ := g T vm0 locs k0 H
  obtain ⟨cl, A, rfl, r2, r3⟩ := A
  exact ⟨t, v', L, H.1.caload C.1 (by rw [H.2.1]; exact A.1) (State.isArrayOf_alike H.2.2.2.2.2.1.alike A.2.1) A.2.2 (inb hi hj (List.getElem?_eq_some_iff.mp hv).1) (v := v) (by rw [hi]; simpa using hv) (g := mkF m pc Ls (.int j :: .ref a :: st)) rfl rfl (hb C.2.1 d1) _ h1, r⟩
theorem Cxt.baload (C : Cxt p m meth c Z a0 EL own mn bytes ml ret Ws) {a : Addr} {vs : List Value} {j : Int32} {i : Nat} {v : Value} (d : Dec bytes pc .baload 1 nx) (A : Arl Z h a .byte vs) (hj : ¬ j < 0) (hi : j.toNatClampNeg = i) (hv : vs[i]? = some v) (g : Goes p l e R s m args below meth c Z EL nw Q F w h k n (mkF m nx Ls (v :: st))) : Goes p l e R s m args below meth c Z EL nw Q F w h k n (mkF m pc Ls (.int j :: .ref a :: st)) := by
  obtain ⟨d1, rfl⟩ := d
  intro T vm0 locs k0 H
  obtain ⟨t, v', L, h1, r⟩ := g T vm0 locs k0 H
  obtain ⟨cl, A, rfl, r2, r3⟩ := A
  exact ⟨t, v', L, H.1.baloadBytes C.1 (by rw [H.2.1]; exact A.1) (State.isArrayOf_alike H.2.2.2.2.2.1.alike A.2.1) A.2.2 (inb hi hj (List.getElem?_eq_some_iff.mp hv).1) (v := v) (by rw [hi]; simpa using hv) (g := mkF m pc Ls (.int j :: .ref a :: st)) rfl rfl (hb C.2.1 d1) _ h1, r⟩
theorem Cxt.iaload (C : Cxt p m meth c Z a0 EL own mn bytes ml ret Ws) {a : Addr} {vs : List Value} {j : Int32} {i : Nat} {v : Value} (d : Dec bytes pc .iaload 1 nx) (A : Arl Z h a .int vs) (hj : ¬ j < 0) (hi : j.toNatClampNeg = i) (hv : vs[i]? = some v) (g : Goes p l e R s m args below meth c Z EL nw Q F w h k n (mkF m nx Ls (v :: st))) : Goes p l e R s m args below meth c Z EL nw Q F w h k n (mkF m pc Ls (.int j :: .ref a :: st)) := by
  obtain ⟨d1, rfl⟩ := d
  intro T vm0 locs k0 H
  obtain ⟨t, v', L, h1, r⟩ := g T vm0 locs k0 H
  obtain ⟨cl, A, rfl, r2, r3⟩ := A
  exact ⟨t, v', L, H.1.iaload C.1 (by rw [H.2.1]; exact A.1) (State.isArrayOf_alike H.2.2.2.2.2.1.alike A.2.1) A.2.2 (inb hi hj (List.getElem?_eq_some_iff.mp hv).1) (v := v) (by rw [hi]; simpa using hv) (g := mkF m pc Ls (.int j :: .ref a :: st)) rfl rfl (hb C.2.1 d1) _ h1, r⟩
theorem Cxt.aaload (C : Cxt p m meth c Z a0 EL own mn bytes ml ret Ws) {a : Addr} {ty : FieldType} {vs : List Value} {j : Int32} {i : Nat} {v : Value} (d : Dec bytes pc .aaload 1 nx) (A : Arl Z h a ty vs) (hty : ty.isReference = true) (hj : ¬ j < 0) (hi : j.toNatClampNeg = i) (hv : vs[i]? = some v) (g : Goes p l e R s m args below meth c Z EL nw Q F w h k n (mkF m nx Ls (v :: st))) : Goes p l e R s m args below meth c Z EL nw Q F w h k n (mkF m pc Ls (.int j :: .ref a :: st)) := by
  obtain ⟨d1, rfl⟩ := d
  intro T vm0 locs k0 H
  obtain ⟨t, v', L, h1, r⟩ := g T vm0 locs k0 H
  obtain ⟨cl, A, rfl, r2, r3⟩ := A
  exact ⟨t, v', L, H.1.aaload C.1 (by rw [H.2.1]; exact A.1) (State.isArrayOf_alike H.2.2.2.2.2.1.alike A.2.1) hty A.2.2 (inb hi hj (List.getElem?_eq_some_iff.mp hv).1) (v := v) (by rw [hi]; simpa using hv) (g := mkF m pc Ls (.int j :: .ref a :: st)) rfl rfl (hb C.2.1 d1) _ h1, r⟩
theorem Cxt.castore (C : Cxt p m meth c Z a0 EL own mn bytes ml ret Ws) {a : Addr} {vs : List Value} {j x : Int32} {i : Nat} (d : Dec bytes pc .castore 1 nx) (A : Arl Z h a .char vs) (hj : ¬ j < 0) (hi : j.toNatClampNeg = i) (hlt : i < vs.length) (na : Z.heap.size ≤ a) 
    (g : ∀ h', Wr h h' a i (.int (nar .char x)) → Arl Z h' a .char (vs.set i (.int (nar .char x))) → Goes p l e R s m args below meth c Z EL nw Q F w h' k n (mkF m nx Ls st)) : Goes p l e R s m args below meth c Z EL nw Q F w h k n (mkF m pc Ls (.int x :: .int j :: .ref a :: st)) := by
  obtain ⟨d1, rfl⟩ := d
  intro T vm0 locs k0 H
  obtain ⟨X, eT, N, S, hk0, hZ, H1, hw, hF, O', hwm, hbk⟩ := id H
  have sa : Safe Z EL vm0 h a := Arl.safe hZ.alike A (by simp)
  obtain ⟨cl, A', q1, q2, q3⟩ := id A
  subst hi
  obtain ⟨T', h', X', e', W', st'⟩ := stC X C.1 hZ eT A' (j := j) (x := x) (inb rfl hj (by rw [q1]; exact hlt)) (g := mkF m pc Ls (.int x :: .int j :: .ref a :: st)) rfl rfl (hb C.2.1 d1)
  obtain ⟨t, v, L, h1, r⟩ := g h' W' (A.set W' (fits_nar_char _)) T' vm0 _ k0 (H.step X' e' (Fr.snoc X' N na) (Keep.of_wr W') (fun x hx => by cases List.mem_singleton.mp hx; exact ⟨sa, na⟩))
  exact ⟨t, v, L, st' _ h1, r⟩
theorem fits_b8' (x : Int32) : fits .byte (.int (nar .byte x)) = true := fits_nar_byte x
theorem Cxt.bastore (C : Cxt p m meth c Z a0 EL own mn bytes ml ret Ws) {a : Addr} {vs : List Value} {j x : Int32} {i : Nat} (d : Dec bytes pc .bastore 1 nx) (A : Arl Z h a .byte vs) (hj : ¬ j < 0) (hi : j.toNatClampNeg = i) (hlt : i < vs.length) (na : Z.heap.size ≤ a) (sf : a ∈ F ∨ w ≤ a) 
    (g : ∀ h', Wr h h' a i (.int (nar .byte x)) → Arl Z h' a .byte (vs.set i (.int (nar .byte x))) → Goes p l e R s m args below meth c Z EL nw Q F w h' k n (mkF m nx Ls st)) : Goes p l e R s m args below meth c Z EL nw Q F w h k n (mkF m pc Ls (.int x :: .int j :: .ref a :: st)) := by
  obtain ⟨d1, rfl⟩ := d
  intro T vm0 locs k0 H
  obtain ⟨X, eT, N, S, hk0, hZ, H1, hw, hF, O', hwm, hbk⟩ := id H
  have sa : Safe Z EL vm0 h a := sf.elim (fun q => (hF a q).2) (hwm a)
  obtain ⟨cl, A', q1, q2, q3⟩ := id A
  subst hi
  obtain ⟨T', h', X', e', W', st'⟩ := stB X C.1 hZ eT A' (j := j) (x := x) (inb rfl hj (by rw [q1]; exact hlt)) (g := mkF m pc Ls (.int x :: .int j :: .ref a :: st)) rfl rfl (hb C.2.1 d1)
  obtain ⟨t, v, L, h1, r⟩ := g h' W' (A.set W' (fits_b8' _)) T' vm0 _ k0 (H.step X' e' (Fr.snoc X' N na) (Keep.of_wr W') (fun x hx => by cases List.mem_singleton.mp hx; exact ⟨sa, na⟩))
  exact ⟨t, v, L, st' _ h1, r⟩
theorem Cxt.iastore (C : Cxt p m meth c Z a0 EL own mn bytes ml ret Ws) {a : Addr} {vs : List Value} {j x : Int32} {i : Nat} (d : Dec bytes pc .iastore 1 nx) (A : Arl Z h a .int vs) (hj : ¬ j < 0) (hi : j.toNatClampNeg = i) (hlt : i < vs.length) (na : Z.heap.size ≤ a) 
    (g : ∀ h', Wr h h' a i (.int (x)) → Arl Z h' a .int (vs.set i (.int (x))) → Goes p l e R s m args below meth c Z EL nw Q F w h' k n (mkF m nx Ls st)) : Goes p l e R s m args below meth c Z EL nw Q F w h k n (mkF m pc Ls (.int x :: .int j :: .ref a :: st)) := by
  obtain ⟨d1, rfl⟩ := d
  intro T vm0 locs k0 H
  obtain ⟨X, eT, N, S, hk0, hZ, H1, hw, hF, O', hwm, hbk⟩ := id H
  have sa : Safe Z EL vm0 h a := Arl.safe hZ.alike A (by simp)
  obtain ⟨cl, A', q1, q2, q3⟩ := id A
  subst hi
  obtain ⟨T', h', X', e', W', st'⟩ := stI X C.1 hZ eT A' (j := j) (x := x) (inb rfl hj (by rw [q1]; exact hlt)) (g := mkF m pc Ls (.int x :: .int j :: .ref a :: st)) rfl rfl (hb C.2.1 d1)
  obtain ⟨t, v, L, h1, r⟩ := g h' W' (A.set W' (rfl)) T' vm0 _ k0 (H.step X' e' (Fr.snoc X' N na) (Keep.of_wr W') (fun x hx => by cases List.mem_singleton.mp hx; exact ⟨sa, na⟩))
  exact ⟨t, v, L, st' _ h1, r⟩
theorem ofNat_idx {i : Nat} (h : i < 2 ^ 31) : ¬ (Int32.ofNat i) < 0 ∧ (Int32.ofNat i).toNatClampNeg = i := by
  have q := idx_in (i := i) (n := i + 1) (Nat.lt_succ_self i)
  have e : (Int32.ofNat i).toInt = i := by
    rw [Int32.toInt_ofNat']
    simp only [Int.bmod_def]
    have z : (Int32.size : Int) = 4294967296 := rfl
    rw [z]
    omega
  constructor
  · intro z; rw [Int32.lt_iff_toInt_lt, e] at z; simp at z; omega
  · simp [Int32.toNatClampNeg, e]
theorem arl_of_arv {Z : State} {h : Heap} {a : Addr} {kb : ClassId} {ty : FieldType} {z : Int32} {vs : List Value} {dv : Value} (A : Arv Z h a kb ty z vs dv) (hz : z.toNatClampNeg = vs.length) (hl : vs.length < 2 ^ 31) : Arl Z h a ty vs := by
  obtain ⟨cl, A, -, q2, -, H, G⟩ := A
  have e : cl.slots.toList = vs := by
    apply List.ext_getElem?
    intro i
    by_cases hi : i < cl.slots.size
    · have := H i hi
      rw [Array.getElem?_toList, this]
      have hi' : i < vs.length := by omega
      simp [List.getD_eq_getElem?_getD, hi']
    · rw [List.getElem?_eq_none (by simpa using hi), List.getElem?_eq_none (by omega)]
  refine ⟨cl, A, e, hl, fun v hv => ?_⟩
  obtain ⟨i, hi, rfl⟩ := List.mem_iff_getElem.mp hv
  have := G i (by omega)
  simpa [List.getD_eq_getElem?_getD, hi] using this
theorem Con.of {y : MethodName} {rm : Room} {as' : Array Value} (hy : plainFor y = true) (hw : ∀ d ∈ Ws, d.before a0 Z = true) (hEL : EW Z a0 EL) (Ls : Array Slot) (hef : ∀ m, entryFrame m as' ml = mkF m 0 Ls [])
    (g : ∀ (p : Program) (e : Env) (s : State) (m : MethodId) (below : List Frame) (meth : Method) (c : Code), s.heap = h → Cxt p m meth c Z a0 EL y.cls y.name bytes ml ret Ws → Goes p l e rm s m as' below meth c Z EL nw Q F h.size h 0 0 (mkF m 0 Ls [])) : Con l Z EL nw y bytes ml ret rm F as' h Q := by
  intro ws
  refine MetFree.of_bodySF hy hisR ?_
  intro p e s m args below meth c s₁ Bd hml0 hP hK
  obtain ⟨rfl, hZ, hh, hC, hF, hO⟩ := hP
  have C : Cxt p m meth c Z a0 EL y.cls y.name bytes ml ret Ws := ⟨Bd.exec, Bd.bytes, hml0, (hZ.alike.findClass _ _).symm.trans (findClass_of_methodNamed Bd.named), Bd.returns, Bd.notSynchronized, (name_of_methodNamed Bd.named Bd.method).1, hw, hEL⟩
  have X0 : Stand p l e rm s m args below meth c s₁ [] 0 0 := Stand.of_body Bd
  have e0 : s₁.heap = h := by rw [← hh, Bd.state]; rfl
  subst hh
  obtain ⟨t, v, L, h1, h2, h3, h4, h5, h6, h7, h8, h9⟩ := g p e s m below meth c rfl C s₁ s.vm [] 0 ⟨X0, e0, Fr.nil _, (State.WarmedH.refl s).since 0, Nat.zero_le _, hZ, CHr.refl hC, fun _ => State.WarmedH.refl s, hF, hO, fun x hx => Safe.new hx, fun _ y hy => hy⟩
  exact ⟨t, .returned v, castTop (hef m) h1, h2, h3, v, L, rfl, h4, h5, h6, h7, h8, h9⟩
theorem Con.pays {y : MethodName} {yb : ByteArray} {yl : Nat} {yr : Option FieldType} {rm : Room} {as' : Array Value} {len W : Nat} (K : Con l Z EL nw y yb yl yr rm F as' h Q) (wc : (Jvm.Cond.code y yb yl yr).before a0 Z = true) (wz : (Jvm.Cond.initialized y.cls).before a0 Z = true) (hEL : EW Z a0 EL) (hf : rm.frames + 1 ≤ R.frames) (hl : W + (yl + 11) + rm.locals ≤ R.locals) :
    Pays p l e R s args below Z EL nw y len W F as' h rm.cells rm.slots Q := by
  intro vm0 hZ H hF hO
  refine BackS.of_freeW (bytes := yb) (maxL := yl) (ret := yr) (E := fun _ first o t L k n => k = rm.cells ∧ n = rm.slots ∧ (∃ v, o = .returned v ∧ Q v t.heap) ∧ Fr Z.heap.size L ∧ CHr Z EL first.vm first.heap t.vm t.heap ∧ (nw = true → first.WarmedH t.vm ∧ ∀ y, Bk Z EL t.vm t.heap y → Bk Z EL first.vm first.heap y) ∧ Ext Z.heap t.heap) (K []) hf hl
    (fun m meth c A a Y hp => have hU : Z.Warmed39 A.U.vm := wtrans (s := s.setVm vm0) hZ Y.warmed
      ⟨by show (Jvm.Cond.and _ .tt).before a A.U = true; rw [Cond.before_and, mv hU wc]; rfl, mv hU wc, mv hU wz, hp.2.2.1, hp.2.2.2⟩)
    (fun m meth c A a g mk Y hp => ⟨hp.1, wtrans (s := s.setVm vm0) hZ Y.warmed, hp.2.1, (CHv.at Y hZ hEL H).1, fun x hx => ⟨(hF x hx).1, (CHv.at Y hZ hEL H).safe (hF x hx).1 (hF x hx).2⟩, hO⟩) (fun _ _ _ _ _ _ _ _ _ => trivial)
    (fun _ _ _ _ ⟨v, L, h1, h2, h3, h4, h5, h6, h7⟩ => ⟨L, _, _, h7, rfl, rfl, ⟨v, h1, h2⟩, h3, h4, h5, h6⟩)
    (fun m meth c A a g mk v t L k n Y hp _ _ ⟨e1, e2, ⟨v', e3, e4⟩, e5, e6, e7, e8⟩ => by
      cases e3; subst e1 e2
      refine ⟨L, e4, e5, rfl, rfl, rfl, (CHv.at Y hZ hEL H).trans ?_, fun q => ⟨State.WarmedH.trans Y.warmed (e7 q).1, fun y hy => ?_⟩, e8⟩
      · rw [← hp.2.1]; exact e6
      · have z := (e7 q).2 y hy
        have z' : Bk Z EL A.U.vm h y := by rw [← hp.2.1]; exact z
        rcases (CHv.at Y hZ hEL H).2.2 y z' with z2 | z2
        · exact z2
        · obtain ⟨cell, hcell⟩ := z'.there
          exact absurd (Array.getElem?_eq_some_iff.mp hcell).1 (Nat.not_lt.mpr z2))
theorem Pays.mono {y : MethodName} {as' : Array Value} {len W rc rs : Nat} {Q' : Option Value → Heap → Prop} (K : Pays p l e R s args below Z EL nw y len W F as' h rc rs Q) (hq : ∀ v h', Q v h' → Q' v h') : Pays p l e R s args below Z EL nw y len W F as' h rc rs Q' := by
  intro vm0 hZ H hF hO m meth c A g ig mk a X hg hsize hdg hW hn hp
  obtain ⟨v, B, X', S, gr, ⟨L, h1, r⟩, stp⟩ := K vm0 hZ H hF hO m meth c A g ig mk a X hg hsize hdg hW hn hp
  exact ⟨v, B, X', S, gr, ⟨L, hq _ _ h1, r⟩, stp⟩
theorem after {nwc : Bool} (hnw : nw = true → nwc = true) {T : State} {vm0 : Vm} {locs : List Loc} {k0 rc rs : Nat} {B : Pt} {vm1 : Vm} (H : Here p l e R s m args below meth c Z EL nw F w h k n T vm0 locs k0) (X' : Stand p l e R (s.setVm B.U.vm) m args below meth c B.U B.locs B.cells B.slots) (S' : (s.setVm vm0).Since B.U.vm B.U.heap.size) (gr : T.heap.size ≤ B.U.heap.size)
    (post : ∃ L, Fr Z.heap.size L ∧ B.locs = locs ++ L ∧ B.cells = k + rc ∧ B.slots = n + rs ∧ CHr Z EL vm0 h B.U.vm B.U.heap ∧ (nwc = true → (s.setVm vm0).WarmedH B.U.vm ∧ ∀ y, Bk Z EL B.U.vm B.U.heap y → Bk Z EL vm0 h y) ∧ Ext Z.heap B.U.heap) : Here p l e R s m args below meth c Z EL nw F (wm nwc w B.U.heap) B.U.heap (k + rc) (n + rs) B.U B.U.vm B.locs B.U.heap.size := by
  obtain ⟨X, eT, N, S, hk0, hZ, H1, hw, hF, O, hwm, hbk⟩ := H
  obtain ⟨L, p1, p2, p3, p4, p5, p6, p7⟩ := post
  rw [p3, p4] at X'
  rw [eT] at gr
  refine ⟨X', rfl, by rw [p2]; exact N.app p1, S.trans S' (Nat.le_trans hk0 gr), Nat.le_refl _, State.Warmed39.trans (t := s.setVm vm0) hZ S'.1, H1.trans p5, fun q => State.WarmedH.trans (t := s.setVm vm0) (hw q) (p6 (hnw q)).1, fun x hx => ⟨Nat.lt_of_lt_of_le (hF x hx).1 gr, p5.safe (hF x hx).1 (hF x hx).2⟩, p7, fun x hx => ?_, fun q y hy => hbk q y ((p6 (hnw q)).2 y hy)⟩
  cases nwc with
  | true => exact fun hy => hwm x hx ((p6 rfl).2 x hy)
  | false => exact Safe.new hx
theorem Cxt.static (C : Cxt p m meth c Z a0 EL own mn bytes ml ret Ws) {nwc : Bool} (hnw : nw = true → nwc = true) {F' : List Addr} (hF' : ∀ x ∈ F', x ∈ F ∨ (w ≤ x ∧ x < h.size)) {idx W rc rs : Nat} {y : MethodName} {yb : ByteArray} {yl : Nat} {yr : Option FieldType} {Qc : Option Value → Heap → Prop} {argsL rest : List Value} (d : Dec bytes pc (.invokestatic idx) 3 nx) (w1 : Jvm.Cond.methodLink own idx y ∈ Ws) (w2 : Jvm.Cond.static y ∈ Ws) (w3 : Jvm.Cond.initialized y.cls ∈ Ws) (w4 : Jvm.Cond.code y yb yl yr ∈ Ws)
    (hy : y.cls ≠ "java/lang/invoke/MethodHandle" ∧ y.cls ≠ "java/lang/invoke/VarHandle") (hlen : ∀ sig, parseMethodDescriptor y.desc = some sig → argsL.length = sig.parameters.length) (hst : st = argsL.reverse ++ rest) (hsz : Ls.size = ml) (hk : k + rc ≤ R.cells) (hn : n + rs ≤ R.slots)
    (K : Pays p l e R s args below Z EL nwc y 3 W F' argsL.toArray h rc rs Qc) (hW : (rest.map fun v => v.category).sum ≤ W) (g : ∀ v h', Qc v h' → Goes p l e R s m args below meth c Z EL nw Q F (wm nwc w h') h' (k + rc) (n + rs) (mkF m nx Ls (v.toList ++ rest))) : Goes p l e R s m args below meth c Z EL nw Q F w h k n (mkF m pc Ls st) := by
  obtain ⟨d1, rfl⟩ := d
  intro T vm0 locs k0 H
  obtain ⟨X, eT, N, S, hk0, hZ, H1, hw, hF, O, hwm, hbk⟩ := id H
  obtain ⟨v, vm1, B, hW1, X', S', gr, ⟨L, q, post⟩, st'⟩ := callSS X C.1 (C.own_at hZ) (mv hZ (C.wrd w1)) (mv hZ (C.wrd w2)) (mv hZ (C.wrd w3)) (mv hZ (C.wrd w4)) hy (K vm0 hZ H1.1 (fun x hx => (hF' x hx).elim (hF x) fun q => ⟨q.2, hwm x q.1⟩) O) (g := mkF m pc Ls st) rfl (hsz.trans C.2.2.1.symm) hlen hst (by show 2 * 0 + _ ≤ _; omega) (hb C.2.1 d1) (fun vm1 _ => ⟨rfl, eT, hk, hn⟩)
  obtain ⟨t, v, L, h1, r⟩ := g v B.U.heap q B.U B.U.vm B.locs B.U.heap.size (after (nwc := nwc) hnw (vm1 := vm1) H X' S' gr ⟨L, post⟩)
  exact ⟨t, v, L, st'.trans h1, r⟩
theorem Cxt.special (C : Cxt p m meth c Z a0 EL own mn bytes ml ret Ws) {nwc : Bool} (hnw : nw = true → nwc = true) {F' : List Addr} (hF' : ∀ x ∈ F', x ∈ F ∨ (w ≤ x ∧ x < h.size)) {idx W rc rs : Nat} {y : MethodName} {yb : ByteArray} {yl : Nat} {Qc : Option Value → Heap → Prop} {a : Addr} {argsL rest : List Value} (d : Dec bytes pc (.invokespecial idx) 3 nx) (hy1 : y.name = "<init>") (w1 : Jvm.Cond.methodLink own idx y ∈ Ws) (w2 : Jvm.Cond.instanceMethod y ∈ Ws) (w4 : Jvm.Cond.code y yb yl none ∈ Ws)
    (hy : y.cls ≠ "java/lang/invoke/MethodHandle" ∧ y.cls ≠ "java/lang/invoke/VarHandle") (hlen : ∀ sig, parseMethodDescriptor y.desc = some sig → argsL.length = sig.parameters.length) (hst : st = argsL.reverse ++ .ref a :: rest) (hsz : Ls.size = ml) (hk : k + rc ≤ R.cells) (hn : n + rs ≤ R.slots)
    (K : Pays p l e R s args below Z EL nwc y 3 W F' (.ref a :: argsL).toArray h rc rs Qc) (hW : (rest.map fun v => v.category).sum ≤ W) (g : ∀ v h', Qc v h' → Goes p l e R s m args below meth c Z EL nw Q F (wm nwc w h') h' (k + rc) (n + rs) (mkF m nx Ls (v.toList ++ rest))) : Goes p l e R s m args below meth c Z EL nw Q F w h k n (mkF m pc Ls st) := by
  obtain ⟨d1, rfl⟩ := d
  intro T vm0 locs k0 H
  obtain ⟨X, eT, N, S, hk0, hZ, H1, hw, hF, O, hwm, hbk⟩ := id H
  obtain ⟨v, vm1, B, hW1, X', S', gr, ⟨L, q, post⟩, st'⟩ := X.specialBackS C.1 hy1 (C.own_at hZ) (mv hZ (C.wrd w1)) (mv hZ (C.wrd w2)) (mv hZ (C.wrd w4)) hy (K vm0 hZ H1.1 (fun x hx => (hF' x hx).elim (hF x) fun q => ⟨q.2, hwm x q.1⟩) O) (g := mkF m pc Ls st) rfl (hsz.trans C.2.2.1.symm) (Steps.refl _) hlen hst (by show 2 * 0 + _ ≤ _; omega) (hb C.2.1 d1) (fun vm1 _ => ⟨rfl, eT, hk, hn⟩)
  obtain ⟨t, v, L, h1, r⟩ := g v B.U.heap q B.U B.U.vm B.locs B.U.heap.size (after (nwc := nwc) hnw (vm1 := vm1) H X' S' gr ⟨L, post⟩)
  exact ⟨t, v, L, st'.trans h1, r⟩
theorem Cxt.virtual (C : Cxt p m meth c Z a0 EL own mn bytes ml ret Ws) {nwc : Bool} (hnw : nw = true → nwc = true) {F' : List Addr} (hF' : ∀ x ∈ F', x ∈ F ∨ (w ≤ x ∧ x < h.size)) {idx W rc rs : Nat} {y z : MethodName} {cls : String} {Qc : Option Value → Heap → Prop} {a : Addr} {argsL rest : List Value} (d : Dec bytes pc (.invokevirtual idx) 3 nx) (w1 : Jvm.Cond.methodLink own idx y ∈ Ws) (w2 : (Jvm.Cond.declares y).before a0 Z = true) (w3 : Jvm.Cond.selects cls y z ∈ Ws) (w4 : Jvm.Cond.instanceMethod z ∈ Ws)
    (hy : y.cls ≠ "java/lang/invoke/MethodHandle" ∧ y.cls ≠ "java/lang/invoke/VarHandle") (hlen : ∀ sig, parseMethodDescriptor y.desc = some sig → argsL.length = sig.parameters.length) (hst : st = argsL.reverse ++ .ref a :: rest) (hsz : Ls.size = ml) (hk : k + rc ≤ R.cells) (hn : n + rs ≤ R.slots) (E : Exa Z h a cls)
    (nf : ∀ vm0 : Vm, (Jvm.Cond.selects cls y z).before args (s.setVm vm0) = true → NotFace (s.setVm vm0) y)
    (K : Pays p l e R s args below Z EL nwc z 3 W F' (.ref a :: argsL).toArray h rc rs Qc) (hW : (rest.map fun v => v.category).sum ≤ W) (g : ∀ v h', Qc v h' → Goes p l e R s m args below meth c Z EL nw Q F (wm nwc w h') h' (k + rc) (n + rs) (mkF m nx Ls (v.toList ++ rest))) : Goes p l e R s m args below meth c Z EL nw Q F w h k n (mkF m pc Ls st) := by
  obtain ⟨d1, rfl⟩ := d
  intro T vm0 locs k0 H
  obtain ⟨X, eT, N, S, hk0, hZ, H1, hw, hF, O, hwm, hbk⟩ := id H
  obtain ⟨cq, kq, qa, qb, qc⟩ := isOf (s := s.setVm vm0) hZ eT E
  obtain ⟨v, vm1, B, hW1, X', S', gr, ⟨L, q, post⟩, st'⟩ := X.virtualBackS C.1 (C.own_at hZ) (mv hZ (C.wrd w1)) (mv hZ w2) (nf vm0 (mv hZ (C.wrd w3))) (mv hZ (C.wrd w3)) (mv hZ (C.wrd w4)) hy (K vm0 hZ H1.1 (fun x hx => (hF' x hx).elim (hF x) fun q => ⟨q.2, hwm x q.1⟩) O) qa qc (g := mkF m pc Ls st) rfl (hsz.trans C.2.2.1.symm) (Steps.refl _) hlen hst (by show 2 * 0 + _ ≤ _; omega) (hb C.2.1 d1) (fun vm1 _ => ⟨rfl, eT, hk, hn⟩)
  obtain ⟨t, v, L, h1, r⟩ := g v B.U.heap q B.U B.U.vm B.locs B.U.heap.size (after (nwc := nwc) hnw (vm1 := vm1) H X' S' gr ⟨L, post⟩)
  exact ⟨t, v, L, st'.trans h1, r⟩
theorem declares_of {y : MethodName} {yb : ByteArray} {yl : Nat} {yr : Option FieldType} (w1 : (Jvm.Cond.instanceMethod y).before a0 Z = true) (w2 : (Jvm.Cond.code y yb yl yr).before a0 Z = true) : (Jvm.Cond.declares y).before a0 Z = true := by
  obtain ⟨mk, me, h1, h2, h3, -⟩ := Cond.instanceMethod_spec w1
  obtain ⟨me2, cM, g1, -, -, -, -, -, -, g2⟩ := Cond.code_spec h1 w2
  cases h2.symm.trans g1
  simp [Cond.before, Cond.holds, Cond.value, h1, h2, h3, g2]
theorem nf_same {cls : String} {y z : MethodName} (w : (Jvm.Cond.selects cls z z).before a0 Z = true) (e : z.cls = y.cls) : NotFace Z y := fun r0 h0 => by
  obtain ⟨c, r, m, -, -, h3, -, mk, h4, h5⟩ := Cond.selects_spec w
  have e1 := findClass_of_methodNamed h3
  have e2 := findClass_of_methodNamed h0
  rw [e] at e1
  have e3 := Option.some.inj (e1.symm.trans e2)
  exact ⟨mk, by rw [← e3]; exact h4, h5⟩
theorem same_of {y : MethodName} (w1 : (Jvm.Cond.instanceMethod y).before a0 Z = true) (nf : NotFace Z y) (hy : y.cls ≠ "java/lang/invoke/MethodHandle" ∧ y.cls ≠ "java/lang/invoke/VarHandle") : (Jvm.Cond.sameMethod y.cls y.cls y.name y.desc).before a0 Z = true := by
  obtain ⟨mk, me, h1, h2, h3, -⟩ := Cond.instanceMethod_spec w1
  obtain ⟨kr, h4, h5⟩ := nf mk h1
  have e1 := findClass_of_methodNamed h1
  have e2 := State.methodFound?_of_named h1 hy
  have e3 : Z.methodNamed? ⟨y.cls, y.name, y.desc⟩ = some mk := h1
  simp [Cond.before, Cond.holds, Cond.value, e1, e2, e3, h4, h5]
theorem Cxt.super (C : Cxt p m meth c Z a0 EL own mn bytes ml ret Ws) {nwc : Bool} (hnw : nw = true → nwc = true) {F' : List Addr} (hF' : ∀ x ∈ F', x ∈ F ∨ (w ≤ x ∧ x < h.size)) {idx W rc rs : Nat} {y : MethodName} {cls : String} {yb : ByteArray} {yl : Nat} {yr : Option FieldType} {Qc : Option Value → Heap → Prop} {a : Addr} {argsL rest : List Value} (d : Dec bytes pc (.invokespecial idx) 3 nx) (w1 : Jvm.Cond.methodLink own idx y ∈ Ws) (w2 : Jvm.Cond.instanceMethod y ∈ Ws) (w3 : Jvm.Cond.superclass own y.cls ∈ Ws) (nf : NotFace Z y) (hn1 : y.name ≠ "<init>") (w4 : Jvm.Cond.code y yb yl yr ∈ Ws)
    (hy : y.cls ≠ "java/lang/invoke/MethodHandle" ∧ y.cls ≠ "java/lang/invoke/VarHandle") (hlen : ∀ sig, parseMethodDescriptor y.desc = some sig → argsL.length = sig.parameters.length) (hst : st = argsL.reverse ++ .ref a :: rest) (hsz : Ls.size = ml) (hk : k + rc ≤ R.cells) (hn : n + rs ≤ R.slots) (E : Exa Z h a cls)
    (K : Pays p l e R s args below Z EL nwc y 3 W F' (.ref a :: argsL).toArray h rc rs Qc) (hW : (rest.map fun v => v.category).sum ≤ W) (g : ∀ v h', Qc v h' → Goes p l e R s m args below meth c Z EL nw Q F (wm nwc w h') h' (k + rc) (n + rs) (mkF m nx Ls (v.toList ++ rest))) : Goes p l e R s m args below meth c Z EL nw Q F w h k n (mkF m pc Ls st) := by
  obtain ⟨d1, rfl⟩ := d
  intro T vm0 locs k0 H
  obtain ⟨X, eT, N, S, hk0, hZ, H1, hw, hF, O, hwm, hbk⟩ := id H
  obtain ⟨v, vm1, B, hW1, X', S', gr, ⟨L, q, post⟩, st'⟩ := superBackS X C.1 hZ (C.own_at hZ) (C.wrd w1) (same_of (C.wrd w2) nf hy) (C.wrd w2) (C.wrd w3) hn1 (K vm0 hZ H1.1 (fun x hx => (hF' x hx).elim (hF x) fun q => ⟨q.2, hwm x q.1⟩) O) eT (Ins.self E) (g := mkF m pc Ls st) rfl (hsz.trans C.2.2.1.symm) (C.wrd w4) hlen hst (by show 2 * 0 + _ ≤ _; omega) (hb C.2.1 d1) (fun vm1 _ => ⟨rfl, eT, hk, hn⟩)
  obtain ⟨t, v, L, h1, r⟩ := g v B.U.heap q B.U B.U.vm B.locs B.U.heap.size (after (nwc := nwc) hnw (vm1 := vm1) H X' S' gr ⟨L, post⟩)
  exact ⟨t, v, L, st'.trans h1, r⟩
theorem Goes.mark {f : JFrame} {a : Addr} (h1 : w ≤ a) (h2 : a < h.size) (g : Goes p l e R s m args below meth c Z EL nw Q (a :: F) w h k n f) : Goes p l e R s m args below meth c Z EL nw Q F w h k n f := fun T vm0 locs k0 H => by
  obtain ⟨X, eT, N, S, hk0, hZ, H1, hw, hF1, O, hwm, hbk⟩ := H
  exact g T vm0 locs k0 ⟨X, eT, N, S, hk0, hZ, H1, hw, fun x hx => (List.mem_cons.mp hx).elim (fun q => by subst q; exact ⟨h2, hwm _ h1⟩) (hF1 x), O, hwm, hbk⟩
theorem Arl.arv {a : Addr} {ty : FieldType} {vs : List Value} (A : Arl Z h a ty vs) (dv : Value) : ∃ kb, Arv Z h a kb ty (Int32.ofNat vs.length) vs dv := by
  obtain ⟨cl, A, q1, q2, q3⟩ := A
  have hi := ofNat_idx q2
  have sz : cl.slots.size = vs.length := by rw [← q1]; simp
  have key : ∀ i, i < cl.slots.size → cl.slots[i]? = some (vs.getD i dv) := fun i hi => by
    rw [← Array.getElem?_toList, q1, List.getD_eq_getElem?_getD, List.getElem?_eq_getElem (by omega)]; rfl
  refine ⟨_, cl, A, rfl, by rw [hi.2, sz], hi.1, key, fun i hi => q3 _ ?_⟩
  have := key i hi
  rw [← Array.getElem?_toList, q1] at this
  exact List.mem_of_getElem? this
theorem copied_eq {vs : List Value} {sp nn : Nat} {dv : Value} (hl : sp + nn ≤ vs.length) : (List.range nn).map (fun i => vs.getD (sp + i) dv) = (vs.drop sp).take nn := by
  apply List.ext_getElem?
  intro i
  by_cases hi : i < nn
  · rw [List.getElem?_map, List.getElem?_range hi, List.getElem?_take_of_lt hi, List.getElem?_drop, List.getElem?_eq_getElem (by omega), Option.map_some, List.getD_eq_getElem?_getD, List.getElem?_eq_getElem (by omega)]; rfl
  · rw [List.getElem?_eq_none_iff.mpr (by simp; omega), List.getElem?_eq_none_iff.mpr (by rw [List.length_take, List.length_drop]; omega)]
theorem Cxt.arraycopy (C : Cxt p m meth c Z a0 EL own mn bytes ml ret Ws) {idx : Nat} {a b : Addr} {ty : FieldType} {vs vd : List Value} {sp dp nn : Nat} (d : Dec bytes pc (.invokestatic idx) 3 nx) (w1 : Jvm.Cond.methodLink own idx Jvm.Stand.acN ∈ Ws) (w2 : Jvm.Cond.native Jvm.Stand.acN ∈ Ws) (w3 : Jvm.Cond.static Jvm.Stand.acN ∈ Ws) (w4 : Jvm.Cond.initialized "java/lang/System" ∈ Ws) (A : Arl Z h a ty vs) (Bb : Arl Z h b ty vd) (hty : refKind ty = false) (h4 : sp + nn ≤ vs.length) (h5 : dp + nn ≤ vd.length) (na : Z.heap.size ≤ b) (sf : b ∈ F ∨ w ≤ b ∨ ty ≠ .byte) (hsz : Ls.size = ml) (hf : 1 ≤ R.frames) (hl : (st.map fun v => v.category).sum + 18 ≤ R.locals)
    (g : ∀ h', Keep h h' [b] → Arl Z h' b ty (vd.take dp ++ (vs.drop sp).take nn ++ vd.drop (dp + nn)) → Goes p l e R s m args below meth c Z EL nw Q F w h' k n (mkF m nx Ls st)) : Goes p l e R s m args below meth c Z EL nw Q F w h k n (mkF m pc Ls (.int (Int32.ofNat nn) :: .int (Int32.ofNat dp) :: .ref b :: .int (Int32.ofNat sp) :: .ref a :: st)) := by
  obtain ⟨d1, rfl⟩ := d
  intro T vm0 locs k0 H
  obtain ⟨X, eT, N, S, hk0, hZ, H1, hw, hF, O, hwm, hbk⟩ := id H
  have la := A.len
  have lb := Bb.len
  obtain ⟨ka, Av⟩ := A.arv .null
  obtain ⟨kb, Bv⟩ := Bb.arv .null
  have i1 := ofNat_idx (i := sp) (by omega)
  have i2 := ofNat_idx (i := dp) (by omega)
  have i3 := ofNat_idx (i := nn) (by omega)
  have i4 := ofNat_idx la
  have i5 := ofNat_idx lb
  obtain ⟨T', h', L', X', e', N', K', A', st'⟩ := cpA X C.1 hZ (C.own_at hZ) (C.wrd w1) (C.wrd w2) (C.wrd w3) (C.wrd w4) eT Av Bv (Or.inl ⟨rfl, hty⟩) i1.1 i2.1 i3.1 (by rw [i1.2, i3.2, i4.2]; exact h4) (by rw [i2.2, i3.2, i5.2]; exact h5) rfl (by rw [i2.2, i3.2]; exact h5) N na (g := mkF m pc Ls (.int (Int32.ofNat nn) :: .int (Int32.ofNat dp) :: .ref b :: .int (Int32.ofNat sp) :: .ref a :: st)) rfl (hsz.trans C.2.2.1.symm) rfl (hb C.2.1 d1) hf (W := (st.map fun v => v.category).sum) (by show 2 * 0 + _ ≤ _; omega) (by show _ + 18 ≤ _; exact hl)
  have sa : Safe Z EL vm0 h b := sf.elim (fun q => (hF b q).2) fun q => q.elim (hwm b) fun q => Bb.safe hZ.alike q
  rw [i1.2, i2.2, i3.2, copied_eq h4] at A'
  have AL := arl_of_arv A' (by rw [i5.2]; simp; omega) (by simp; omega)
  obtain ⟨t, v, L, h1, r⟩ := g h' K' AL T' vm0 _ k0 (H.step X' e' N' K' (fun x hx => by cases List.mem_singleton.mp hx; exact ⟨sa, na⟩))
  exact ⟨t, v, L, st' _ h1, r⟩
def rV (Q : Heap → Prop) : Option Value → Heap → Prop := fun o h => o = none ∧ Q h
def rR (Q : Value → Heap → Prop) : Option Value → Heap → Prop := fun o h => ∃ v, o = some v ∧ Q v h
theorem Pays.less {y : MethodName} {as' : Array Value} {len W rc rs : Nat} {F' : List Addr} (hF : ∀ x ∈ F', x ∈ F) (K : Pays p l e R s args below Z EL nw y len W F' as' h rc rs Q) : Pays p l e R s args below Z EL nw y len W F as' h rc rs Q := fun vm0 hZ H hF1 hO => K vm0 hZ H (fun x hx => hF1 x (hF x hx)) hO
theorem Con.weaken {y : MethodName} {yb : ByteArray} {yl : Nat} {yr : Option FieldType} {rm : Room} {as' : Array Value} {Q' : Option Value → Heap → Prop} (hq : ∀ v h', Q v h' → Q' v h') (K : Con l Z EL nw y yb yl yr rm F as' h Q) : Con l Z EL nw y yb yl yr rm F as' h Q' := by
  intro ws p e ha hc hk s m args below hf happ hP hK
  obtain ⟨n, o, h1, h2, h3, v, L, h4, h5, r⟩ := K ws p e ha hc hk s m args below hf happ hP hK
  exact ⟨n, o, h1, h2, h3, v, L, h4, hq _ _ h5, r⟩
theorem len_par {d : String} {k : Nat} (h : (parseMethodDescriptor d).map (fun sg => sg.parameters.length) = some k) {L : List Value} (hl : L.length = k) : ∀ sig, parseMethodDescriptor d = some sig → L.length = sig.parameters.length := fun sig hs => by
  rw [hs] at h; simp at h; omega
theorem Cxt.s0V (C : Cxt p m meth c Z a0 EL own mn bytes ml ret Ws) {idx : Nat} {y : MethodName} {yb : ByteArray} {yl : Nat} {yr : Option FieldType} {rm : Room} {F' : List Addr}  {Qc : Heap → Prop} {nwc : Bool} (d : Dec bytes pc (.invokestatic idx) 3 nx) (w1 : Jvm.Cond.methodLink own idx y ∈ Ws) (w2 : Jvm.Cond.static y ∈ Ws) (w3 : Jvm.Cond.initialized y.cls ∈ Ws) (w4 : Jvm.Cond.code y yb yl yr ∈ Ws) (hy : y.cls ≠ "java/lang/invoke/MethodHandle" ∧ y.cls ≠ "java/lang/invoke/VarHandle") (hpar : (parseMethodDescriptor y.desc).map (fun sg => sg.parameters.length) = some 0) (hsz : Ls.size = ml) (hF : ∀ x ∈ F', x ∈ F ∨ (w ≤ x ∧ x < h.size))
    (K : Con l Z EL nwc y yb yl yr rm F' #[] h (rV Qc)) (hf : rm.frames + 1 ≤ R.frames) (hl : (st.map fun v => v.category).sum + (yl + 11) + rm.locals ≤ R.locals) (hk : k + rm.cells ≤ R.cells) (hn : n + rm.slots ≤ R.slots) (g : ∀ h', Qc h' → Goes p l e R s m args below meth c Z EL nw Q F (wm nwc w h') h' (k + rm.cells) (n + rm.slots) (mkF m nx Ls st)) (hnw : nw = true → nwc = true := by first | exact id | exact fun _ => rfl) : Goes p l e R s m args below meth c Z EL nw Q F w h k n (mkF m pc Ls st) :=
  C.static hnw hF (argsL := []) (rest := st) d w1 w2 w3 w4 hy (len_par hpar rfl) rfl hsz hk hn (K.pays (C.wrd w4) (C.wrd w3) C.2.2.2.2.2.2.2.2 hf hl) (Nat.le_refl _) (fun v h' q => by obtain ⟨rfl, q⟩ := q; exact g h' q)
theorem Cxt.c0 (C : Cxt p m meth c Z a0 EL own mn bytes ml ret Ws) {idx : Nat} {y : MethodName} {yb : ByteArray} {yl : Nat} {rm : Room} {F' : List Addr} {a : Addr}  {Qc : Heap → Prop} {nwc : Bool} (d : Dec bytes pc (.invokespecial idx) 3 nx) (hy1 : y.name = "<init>") (w1 : Jvm.Cond.methodLink own idx y ∈ Ws) (w2 : Jvm.Cond.instanceMethod y ∈ Ws) (w3 : Jvm.Cond.initialized y.cls ∈ Ws) (w4 : Jvm.Cond.code y yb yl none ∈ Ws) (hy : y.cls ≠ "java/lang/invoke/MethodHandle" ∧ y.cls ≠ "java/lang/invoke/VarHandle") (hpar : (parseMethodDescriptor y.desc).map (fun sg => sg.parameters.length) = some 0) (hsz : Ls.size = ml) (hF : ∀ x ∈ F', x ∈ F ∨ (w ≤ x ∧ x < h.size))
    (K : Con l Z EL nwc y yb yl none rm F' #[.ref a] h (rV Qc)) (hf : rm.frames + 1 ≤ R.frames) (hl : (st.map fun v => v.category).sum + (yl + 11) + rm.locals ≤ R.locals) (hk : k + rm.cells ≤ R.cells) (hn : n + rm.slots ≤ R.slots) (g : ∀ h', Qc h' → Goes p l e R s m args below meth c Z EL nw Q F (wm nwc w h') h' (k + rm.cells) (n + rm.slots) (mkF m nx Ls st)) (hnw : nw = true → nwc = true := by first | exact id | exact fun _ => rfl) : Goes p l e R s m args below meth c Z EL nw Q F w h k n (mkF m pc Ls (.ref a :: st)) :=
  C.special hnw hF (argsL := []) (rest := st) d hy1 w1 w2 w4 hy (len_par hpar rfl) rfl hsz hk hn (K.pays (C.wrd w4) (C.wrd w3) C.2.2.2.2.2.2.2.2 hf hl) (Nat.le_refl _) (fun v h' q => by obtain ⟨rfl, q⟩ := q; exact g h' q)
theorem Cxt.v0V (C : Cxt p m meth c Z a0 EL own mn bytes ml ret Ws) {idx : Nat} {y z : MethodName} {yb : ByteArray} {yl : Nat} {yr : Option FieldType} {rm : Room} {F' : List Addr} {cls : String} {a : Addr}  {Qc : Heap → Prop} {nwc : Bool} (d : Dec bytes pc (.invokevirtual idx) 3 nx) (w1 : Jvm.Cond.methodLink own idx y ∈ Ws) (w2 : Jvm.Cond.declares y ∈ Ws) (w5 : Jvm.Cond.selects cls y z ∈ Ws) (w6 : Jvm.Cond.instanceMethod z ∈ Ws) (w3 : Jvm.Cond.initialized z.cls ∈ Ws) (w4 : Jvm.Cond.code z yb yl yr ∈ Ws) (hy : y.cls ≠ "java/lang/invoke/MethodHandle" ∧ y.cls ≠ "java/lang/invoke/VarHandle") (hpar : (parseMethodDescriptor y.desc).map (fun sg => sg.parameters.length) = some 0) (hsz : Ls.size = ml) (hF : ∀ x ∈ F', x ∈ F ∨ (w ≤ x ∧ x < h.size)) (E : Exa Z h a cls)
    (nf : ∀ vm0 : Vm, (Jvm.Cond.selects cls y z).before args (s.setVm vm0) = true → NotFace (s.setVm vm0) y)
    (K : Con l Z EL nwc z yb yl yr rm F' #[.ref a] h (rV Qc)) (hf : rm.frames + 1 ≤ R.frames) (hl : (st.map fun v => v.category).sum + (yl + 11) + rm.locals ≤ R.locals) (hk : k + rm.cells ≤ R.cells) (hn : n + rm.slots ≤ R.slots) (g : ∀ h', Qc h' → Goes p l e R s m args below meth c Z EL nw Q F (wm nwc w h') h' (k + rm.cells) (n + rm.slots) (mkF m nx Ls st)) (hnw : nw = true → nwc = true := by first | exact id | exact fun _ => rfl) : Goes p l e R s m args below meth c Z EL nw Q F w h k n (mkF m pc Ls (.ref a :: st)) :=
  C.virtual hnw hF (argsL := []) (rest := st) d w1 (C.wrd w2) w5 w6 hy (len_par hpar rfl) rfl hsz hk hn E nf (K.pays (C.wrd w4) (C.wrd w3) C.2.2.2.2.2.2.2.2 hf hl) (Nat.le_refl _) (fun v h' q => by obtain ⟨rfl, q⟩ := q; exact g h' q)
theorem Cxt.s0R (C : Cxt p m meth c Z a0 EL own mn bytes ml ret Ws) {idx : Nat} {y : MethodName} {yb : ByteArray} {yl : Nat} {yr : Option FieldType} {rm : Room} {F' : List Addr}  {Qc : Value → Heap → Prop} {nwc : Bool} (d : Dec bytes pc (.invokestatic idx) 3 nx) (w1 : Jvm.Cond.methodLink own idx y ∈ Ws) (w2 : Jvm.Cond.static y ∈ Ws) (w3 : Jvm.Cond.initialized y.cls ∈ Ws) (w4 : Jvm.Cond.code y yb yl yr ∈ Ws) (hy : y.cls ≠ "java/lang/invoke/MethodHandle" ∧ y.cls ≠ "java/lang/invoke/VarHandle") (hpar : (parseMethodDescriptor y.desc).map (fun sg => sg.parameters.length) = some 0) (hsz : Ls.size = ml) (hF : ∀ x ∈ F', x ∈ F ∨ (w ≤ x ∧ x < h.size))
    (K : Con l Z EL nwc y yb yl yr rm F' #[] h (rR Qc)) (hf : rm.frames + 1 ≤ R.frames) (hl : (st.map fun v => v.category).sum + (yl + 11) + rm.locals ≤ R.locals) (hk : k + rm.cells ≤ R.cells) (hn : n + rm.slots ≤ R.slots) (g : ∀ v h', Qc v h' → Goes p l e R s m args below meth c Z EL nw Q F (wm nwc w h') h' (k + rm.cells) (n + rm.slots) (mkF m nx Ls (v :: st))) (hnw : nw = true → nwc = true := by first | exact id | exact fun _ => rfl) : Goes p l e R s m args below meth c Z EL nw Q F w h k n (mkF m pc Ls st) :=
  C.static hnw hF (argsL := []) (rest := st) d w1 w2 w3 w4 hy (len_par hpar rfl) rfl hsz hk hn (K.pays (C.wrd w4) (C.wrd w3) C.2.2.2.2.2.2.2.2 hf hl) (Nat.le_refl _) (fun v h' q => by obtain ⟨v, rfl, q⟩ := q; exact g v h' q)
theorem Cxt.v0R (C : Cxt p m meth c Z a0 EL own mn bytes ml ret Ws) {idx : Nat} {y z : MethodName} {yb : ByteArray} {yl : Nat} {yr : Option FieldType} {rm : Room} {F' : List Addr} {cls : String} {a : Addr}  {Qc : Value → Heap → Prop} {nwc : Bool} (d : Dec bytes pc (.invokevirtual idx) 3 nx) (w1 : Jvm.Cond.methodLink own idx y ∈ Ws) (w2 : Jvm.Cond.declares y ∈ Ws) (w5 : Jvm.Cond.selects cls y z ∈ Ws) (w6 : Jvm.Cond.instanceMethod z ∈ Ws) (w3 : Jvm.Cond.initialized z.cls ∈ Ws) (w4 : Jvm.Cond.code z yb yl yr ∈ Ws) (hy : y.cls ≠ "java/lang/invoke/MethodHandle" ∧ y.cls ≠ "java/lang/invoke/VarHandle") (hpar : (parseMethodDescriptor y.desc).map (fun sg => sg.parameters.length) = some 0) (hsz : Ls.size = ml) (hF : ∀ x ∈ F', x ∈ F ∨ (w ≤ x ∧ x < h.size)) (E : Exa Z h a cls)
    (nf : ∀ vm0 : Vm, (Jvm.Cond.selects cls y z).before args (s.setVm vm0) = true → NotFace (s.setVm vm0) y)
    (K : Con l Z EL nwc z yb yl yr rm F' #[.ref a] h (rR Qc)) (hf : rm.frames + 1 ≤ R.frames) (hl : (st.map fun v => v.category).sum + (yl + 11) + rm.locals ≤ R.locals) (hk : k + rm.cells ≤ R.cells) (hn : n + rm.slots ≤ R.slots) (g : ∀ v h', Qc v h' → Goes p l e R s m args below meth c Z EL nw Q F (wm nwc w h') h' (k + rm.cells) (n + rm.slots) (mkF m nx Ls (v :: st))) (hnw : nw = true → nwc = true := by first | exact id | exact fun _ => rfl) : Goes p l e R s m args below meth c Z EL nw Q F w h k n (mkF m pc Ls (.ref a :: st)) :=
  C.virtual hnw hF (argsL := []) (rest := st) d w1 (C.wrd w2) w5 w6 hy (len_par hpar rfl) rfl hsz hk hn E nf (K.pays (C.wrd w4) (C.wrd w3) C.2.2.2.2.2.2.2.2 hf hl) (Nat.le_refl _) (fun v h' q => by obtain ⟨v, rfl, q⟩ := q; exact g v h' q)
theorem Cxt.s1V (C : Cxt p m meth c Z a0 EL own mn bytes ml ret Ws) {idx : Nat} {y : MethodName} {yb : ByteArray} {yl : Nat} {yr : Option FieldType} {rm : Room} {F' : List Addr} {x1 : Value} {Qc : Heap → Prop} {nwc : Bool} (d : Dec bytes pc (.invokestatic idx) 3 nx) (w1 : Jvm.Cond.methodLink own idx y ∈ Ws) (w2 : Jvm.Cond.static y ∈ Ws) (w3 : Jvm.Cond.initialized y.cls ∈ Ws) (w4 : Jvm.Cond.code y yb yl yr ∈ Ws) (hy : y.cls ≠ "java/lang/invoke/MethodHandle" ∧ y.cls ≠ "java/lang/invoke/VarHandle") (hpar : (parseMethodDescriptor y.desc).map (fun sg => sg.parameters.length) = some 1) (hsz : Ls.size = ml) (hF : ∀ x ∈ F', x ∈ F ∨ (w ≤ x ∧ x < h.size))
    (K : Con l Z EL nwc y yb yl yr rm F' #[x1] h (rV Qc)) (hf : rm.frames + 1 ≤ R.frames) (hl : (st.map fun v => v.category).sum + (yl + 11) + rm.locals ≤ R.locals) (hk : k + rm.cells ≤ R.cells) (hn : n + rm.slots ≤ R.slots) (g : ∀ h', Qc h' → Goes p l e R s m args below meth c Z EL nw Q F (wm nwc w h') h' (k + rm.cells) (n + rm.slots) (mkF m nx Ls st)) (hnw : nw = true → nwc = true := by first | exact id | exact fun _ => rfl) : Goes p l e R s m args below meth c Z EL nw Q F w h k n (mkF m pc Ls (x1 :: st)) :=
  C.static hnw hF (argsL := [x1]) (rest := st) d w1 w2 w3 w4 hy (len_par hpar rfl) rfl hsz hk hn (K.pays (C.wrd w4) (C.wrd w3) C.2.2.2.2.2.2.2.2 hf hl) (Nat.le_refl _) (fun v h' q => by obtain ⟨rfl, q⟩ := q; exact g h' q)
theorem Cxt.c1 (C : Cxt p m meth c Z a0 EL own mn bytes ml ret Ws) {idx : Nat} {y : MethodName} {yb : ByteArray} {yl : Nat} {rm : Room} {F' : List Addr} {a : Addr} {x1 : Value} {Qc : Heap → Prop} {nwc : Bool} (d : Dec bytes pc (.invokespecial idx) 3 nx) (hy1 : y.name = "<init>") (w1 : Jvm.Cond.methodLink own idx y ∈ Ws) (w2 : Jvm.Cond.instanceMethod y ∈ Ws) (w3 : Jvm.Cond.initialized y.cls ∈ Ws) (w4 : Jvm.Cond.code y yb yl none ∈ Ws) (hy : y.cls ≠ "java/lang/invoke/MethodHandle" ∧ y.cls ≠ "java/lang/invoke/VarHandle") (hpar : (parseMethodDescriptor y.desc).map (fun sg => sg.parameters.length) = some 1) (hsz : Ls.size = ml) (hF : ∀ x ∈ F', x ∈ F ∨ (w ≤ x ∧ x < h.size))
    (K : Con l Z EL nwc y yb yl none rm F' #[.ref a, x1] h (rV Qc)) (hf : rm.frames + 1 ≤ R.frames) (hl : (st.map fun v => v.category).sum + (yl + 11) + rm.locals ≤ R.locals) (hk : k + rm.cells ≤ R.cells) (hn : n + rm.slots ≤ R.slots) (g : ∀ h', Qc h' → Goes p l e R s m args below meth c Z EL nw Q F (wm nwc w h') h' (k + rm.cells) (n + rm.slots) (mkF m nx Ls st)) (hnw : nw = true → nwc = true := by first | exact id | exact fun _ => rfl) : Goes p l e R s m args below meth c Z EL nw Q F w h k n (mkF m pc Ls (x1 :: .ref a :: st)) :=
  C.special hnw hF (argsL := [x1]) (rest := st) d hy1 w1 w2 w4 hy (len_par hpar rfl) rfl hsz hk hn (K.pays (C.wrd w4) (C.wrd w3) C.2.2.2.2.2.2.2.2 hf hl) (Nat.le_refl _) (fun v h' q => by obtain ⟨rfl, q⟩ := q; exact g h' q)
theorem Cxt.v1V (C : Cxt p m meth c Z a0 EL own mn bytes ml ret Ws) {idx : Nat} {y z : MethodName} {yb : ByteArray} {yl : Nat} {yr : Option FieldType} {rm : Room} {F' : List Addr} {cls : String} {a : Addr} {x1 : Value} {Qc : Heap → Prop} {nwc : Bool} (d : Dec bytes pc (.invokevirtual idx) 3 nx) (w1 : Jvm.Cond.methodLink own idx y ∈ Ws) (w2 : Jvm.Cond.declares y ∈ Ws) (w5 : Jvm.Cond.selects cls y z ∈ Ws) (w6 : Jvm.Cond.instanceMethod z ∈ Ws) (w3 : Jvm.Cond.initialized z.cls ∈ Ws) (w4 : Jvm.Cond.code z yb yl yr ∈ Ws) (hy : y.cls ≠ "java/lang/invoke/MethodHandle" ∧ y.cls ≠ "java/lang/invoke/VarHandle") (hpar : (parseMethodDescriptor y.desc).map (fun sg => sg.parameters.length) = some 1) (hsz : Ls.size = ml) (hF : ∀ x ∈ F', x ∈ F ∨ (w ≤ x ∧ x < h.size)) (E : Exa Z h a cls)
    (nf : ∀ vm0 : Vm, (Jvm.Cond.selects cls y z).before args (s.setVm vm0) = true → NotFace (s.setVm vm0) y)
    (K : Con l Z EL nwc z yb yl yr rm F' #[.ref a, x1] h (rV Qc)) (hf : rm.frames + 1 ≤ R.frames) (hl : (st.map fun v => v.category).sum + (yl + 11) + rm.locals ≤ R.locals) (hk : k + rm.cells ≤ R.cells) (hn : n + rm.slots ≤ R.slots) (g : ∀ h', Qc h' → Goes p l e R s m args below meth c Z EL nw Q F (wm nwc w h') h' (k + rm.cells) (n + rm.slots) (mkF m nx Ls st)) (hnw : nw = true → nwc = true := by first | exact id | exact fun _ => rfl) : Goes p l e R s m args below meth c Z EL nw Q F w h k n (mkF m pc Ls (x1 :: .ref a :: st)) :=
  C.virtual hnw hF (argsL := [x1]) (rest := st) d w1 (C.wrd w2) w5 w6 hy (len_par hpar rfl) rfl hsz hk hn E nf (K.pays (C.wrd w4) (C.wrd w3) C.2.2.2.2.2.2.2.2 hf hl) (Nat.le_refl _) (fun v h' q => by obtain ⟨rfl, q⟩ := q; exact g h' q)
theorem Cxt.s1R (C : Cxt p m meth c Z a0 EL own mn bytes ml ret Ws) {idx : Nat} {y : MethodName} {yb : ByteArray} {yl : Nat} {yr : Option FieldType} {rm : Room} {F' : List Addr} {x1 : Value} {Qc : Value → Heap → Prop} {nwc : Bool} (d : Dec bytes pc (.invokestatic idx) 3 nx) (w1 : Jvm.Cond.methodLink own idx y ∈ Ws) (w2 : Jvm.Cond.static y ∈ Ws) (w3 : Jvm.Cond.initialized y.cls ∈ Ws) (w4 : Jvm.Cond.code y yb yl yr ∈ Ws) (hy : y.cls ≠ "java/lang/invoke/MethodHandle" ∧ y.cls ≠ "java/lang/invoke/VarHandle") (hpar : (parseMethodDescriptor y.desc).map (fun sg => sg.parameters.length) = some 1) (hsz : Ls.size = ml) (hF : ∀ x ∈ F', x ∈ F ∨ (w ≤ x ∧ x < h.size))
    (K : Con l Z EL nwc y yb yl yr rm F' #[x1] h (rR Qc)) (hf : rm.frames + 1 ≤ R.frames) (hl : (st.map fun v => v.category).sum + (yl + 11) + rm.locals ≤ R.locals) (hk : k + rm.cells ≤ R.cells) (hn : n + rm.slots ≤ R.slots) (g : ∀ v h', Qc v h' → Goes p l e R s m args below meth c Z EL nw Q F (wm nwc w h') h' (k + rm.cells) (n + rm.slots) (mkF m nx Ls (v :: st))) (hnw : nw = true → nwc = true := by first | exact id | exact fun _ => rfl) : Goes p l e R s m args below meth c Z EL nw Q F w h k n (mkF m pc Ls (x1 :: st)) :=
  C.static hnw hF (argsL := [x1]) (rest := st) d w1 w2 w3 w4 hy (len_par hpar rfl) rfl hsz hk hn (K.pays (C.wrd w4) (C.wrd w3) C.2.2.2.2.2.2.2.2 hf hl) (Nat.le_refl _) (fun v h' q => by obtain ⟨v, rfl, q⟩ := q; exact g v h' q)
theorem Cxt.v1R (C : Cxt p m meth c Z a0 EL own mn bytes ml ret Ws) {idx : Nat} {y z : MethodName} {yb : ByteArray} {yl : Nat} {yr : Option FieldType} {rm : Room} {F' : List Addr} {cls : String} {a : Addr} {x1 : Value} {Qc : Value → Heap → Prop} {nwc : Bool} (d : Dec bytes pc (.invokevirtual idx) 3 nx) (w1 : Jvm.Cond.methodLink own idx y ∈ Ws) (w2 : Jvm.Cond.declares y ∈ Ws) (w5 : Jvm.Cond.selects cls y z ∈ Ws) (w6 : Jvm.Cond.instanceMethod z ∈ Ws) (w3 : Jvm.Cond.initialized z.cls ∈ Ws) (w4 : Jvm.Cond.code z yb yl yr ∈ Ws) (hy : y.cls ≠ "java/lang/invoke/MethodHandle" ∧ y.cls ≠ "java/lang/invoke/VarHandle") (hpar : (parseMethodDescriptor y.desc).map (fun sg => sg.parameters.length) = some 1) (hsz : Ls.size = ml) (hF : ∀ x ∈ F', x ∈ F ∨ (w ≤ x ∧ x < h.size)) (E : Exa Z h a cls)
    (nf : ∀ vm0 : Vm, (Jvm.Cond.selects cls y z).before args (s.setVm vm0) = true → NotFace (s.setVm vm0) y)
    (K : Con l Z EL nwc z yb yl yr rm F' #[.ref a, x1] h (rR Qc)) (hf : rm.frames + 1 ≤ R.frames) (hl : (st.map fun v => v.category).sum + (yl + 11) + rm.locals ≤ R.locals) (hk : k + rm.cells ≤ R.cells) (hn : n + rm.slots ≤ R.slots) (g : ∀ v h', Qc v h' → Goes p l e R s m args below meth c Z EL nw Q F (wm nwc w h') h' (k + rm.cells) (n + rm.slots) (mkF m nx Ls (v :: st))) (hnw : nw = true → nwc = true := by first | exact id | exact fun _ => rfl) : Goes p l e R s m args below meth c Z EL nw Q F w h k n (mkF m pc Ls (x1 :: .ref a :: st)) :=
  C.virtual hnw hF (argsL := [x1]) (rest := st) d w1 (C.wrd w2) w5 w6 hy (len_par hpar rfl) rfl hsz hk hn E nf (K.pays (C.wrd w4) (C.wrd w3) C.2.2.2.2.2.2.2.2 hf hl) (Nat.le_refl _) (fun v h' q => by obtain ⟨v, rfl, q⟩ := q; exact g v h' q)
theorem Cxt.s2V (C : Cxt p m meth c Z a0 EL own mn bytes ml ret Ws) {idx : Nat} {y : MethodName} {yb : ByteArray} {yl : Nat} {yr : Option FieldType} {rm : Room} {F' : List Addr} {x1 x2 : Value} {Qc : Heap → Prop} {nwc : Bool} (d : Dec bytes pc (.invokestatic idx) 3 nx) (w1 : Jvm.Cond.methodLink own idx y ∈ Ws) (w2 : Jvm.Cond.static y ∈ Ws) (w3 : Jvm.Cond.initialized y.cls ∈ Ws) (w4 : Jvm.Cond.code y yb yl yr ∈ Ws) (hy : y.cls ≠ "java/lang/invoke/MethodHandle" ∧ y.cls ≠ "java/lang/invoke/VarHandle") (hpar : (parseMethodDescriptor y.desc).map (fun sg => sg.parameters.length) = some 2) (hsz : Ls.size = ml) (hF : ∀ x ∈ F', x ∈ F ∨ (w ≤ x ∧ x < h.size))
    (K : Con l Z EL nwc y yb yl yr rm F' #[x1, x2] h (rV Qc)) (hf : rm.frames + 1 ≤ R.frames) (hl : (st.map fun v => v.category).sum + (yl + 11) + rm.locals ≤ R.locals) (hk : k + rm.cells ≤ R.cells) (hn : n + rm.slots ≤ R.slots) (g : ∀ h', Qc h' → Goes p l e R s m args below meth c Z EL nw Q F (wm nwc w h') h' (k + rm.cells) (n + rm.slots) (mkF m nx Ls st)) (hnw : nw = true → nwc = true := by first | exact id | exact fun _ => rfl) : Goes p l e R s m args below meth c Z EL nw Q F w h k n (mkF m pc Ls (x2 :: x1 :: st)) :=
  C.static hnw hF (argsL := [x1, x2]) (rest := st) d w1 w2 w3 w4 hy (len_par hpar rfl) rfl hsz hk hn (K.pays (C.wrd w4) (C.wrd w3) C.2.2.2.2.2.2.2.2 hf hl) (Nat.le_refl _) (fun v h' q => by obtain ⟨rfl, q⟩ := q; exact g h' q)
theorem Cxt.c2 (C : Cxt p m meth c Z a0 EL own mn bytes ml ret Ws) {idx : Nat} {y : MethodName} {yb : ByteArray} {yl : Nat} {rm : Room} {F' : List Addr} {a : Addr} {x1 x2 : Value} {Qc : Heap → Prop} {nwc : Bool} (d : Dec bytes pc (.invokespecial idx) 3 nx) (hy1 : y.name = "<init>") (w1 : Jvm.Cond.methodLink own idx y ∈ Ws) (w2 : Jvm.Cond.instanceMethod y ∈ Ws) (w3 : Jvm.Cond.initialized y.cls ∈ Ws) (w4 : Jvm.Cond.code y yb yl none ∈ Ws) (hy : y.cls ≠ "java/lang/invoke/MethodHandle" ∧ y.cls ≠ "java/lang/invoke/VarHandle") (hpar : (parseMethodDescriptor y.desc).map (fun sg => sg.parameters.length) = some 2) (hsz : Ls.size = ml) (hF : ∀ x ∈ F', x ∈ F ∨ (w ≤ x ∧ x < h.size))
    (K : Con l Z EL nwc y yb yl none rm F' #[.ref a, x1, x2] h (rV Qc)) (hf : rm.frames + 1 ≤ R.frames) (hl : (st.map fun v => v.category).sum + (yl + 11) + rm.locals ≤ R.locals) (hk : k + rm.cells ≤ R.cells) (hn : n + rm.slots ≤ R.slots) (g : ∀ h', Qc h' → Goes p l e R s m args below meth c Z EL nw Q F (wm nwc w h') h' (k + rm.cells) (n + rm.slots) (mkF m nx Ls st)) (hnw : nw = true → nwc = true := by first | exact id | exact fun _ => rfl) : Goes p l e R s m args below meth c Z EL nw Q F w h k n (mkF m pc Ls (x2 :: x1 :: .ref a :: st)) :=
  C.special hnw hF (argsL := [x1, x2]) (rest := st) d hy1 w1 w2 w4 hy (len_par hpar rfl) rfl hsz hk hn (K.pays (C.wrd w4) (C.wrd w3) C.2.2.2.2.2.2.2.2 hf hl) (Nat.le_refl _) (fun v h' q => by obtain ⟨rfl, q⟩ := q; exact g h' q)
theorem Cxt.v2V (C : Cxt p m meth c Z a0 EL own mn bytes ml ret Ws) {idx : Nat} {y z : MethodName} {yb : ByteArray} {yl : Nat} {yr : Option FieldType} {rm : Room} {F' : List Addr} {cls : String} {a : Addr} {x1 x2 : Value} {Qc : Heap → Prop} {nwc : Bool} (d : Dec bytes pc (.invokevirtual idx) 3 nx) (w1 : Jvm.Cond.methodLink own idx y ∈ Ws) (w2 : Jvm.Cond.declares y ∈ Ws) (w5 : Jvm.Cond.selects cls y z ∈ Ws) (w6 : Jvm.Cond.instanceMethod z ∈ Ws) (w3 : Jvm.Cond.initialized z.cls ∈ Ws) (w4 : Jvm.Cond.code z yb yl yr ∈ Ws) (hy : y.cls ≠ "java/lang/invoke/MethodHandle" ∧ y.cls ≠ "java/lang/invoke/VarHandle") (hpar : (parseMethodDescriptor y.desc).map (fun sg => sg.parameters.length) = some 2) (hsz : Ls.size = ml) (hF : ∀ x ∈ F', x ∈ F ∨ (w ≤ x ∧ x < h.size)) (E : Exa Z h a cls)
    (nf : ∀ vm0 : Vm, (Jvm.Cond.selects cls y z).before args (s.setVm vm0) = true → NotFace (s.setVm vm0) y)
    (K : Con l Z EL nwc z yb yl yr rm F' #[.ref a, x1, x2] h (rV Qc)) (hf : rm.frames + 1 ≤ R.frames) (hl : (st.map fun v => v.category).sum + (yl + 11) + rm.locals ≤ R.locals) (hk : k + rm.cells ≤ R.cells) (hn : n + rm.slots ≤ R.slots) (g : ∀ h', Qc h' → Goes p l e R s m args below meth c Z EL nw Q F (wm nwc w h') h' (k + rm.cells) (n + rm.slots) (mkF m nx Ls st)) (hnw : nw = true → nwc = true := by first | exact id | exact fun _ => rfl) : Goes p l e R s m args below meth c Z EL nw Q F w h k n (mkF m pc Ls (x2 :: x1 :: .ref a :: st)) :=
  C.virtual hnw hF (argsL := [x1, x2]) (rest := st) d w1 (C.wrd w2) w5 w6 hy (len_par hpar rfl) rfl hsz hk hn E nf (K.pays (C.wrd w4) (C.wrd w3) C.2.2.2.2.2.2.2.2 hf hl) (Nat.le_refl _) (fun v h' q => by obtain ⟨rfl, q⟩ := q; exact g h' q)
theorem Cxt.s2R (C : Cxt p m meth c Z a0 EL own mn bytes ml ret Ws) {idx : Nat} {y : MethodName} {yb : ByteArray} {yl : Nat} {yr : Option FieldType} {rm : Room} {F' : List Addr} {x1 x2 : Value} {Qc : Value → Heap → Prop} {nwc : Bool} (d : Dec bytes pc (.invokestatic idx) 3 nx) (w1 : Jvm.Cond.methodLink own idx y ∈ Ws) (w2 : Jvm.Cond.static y ∈ Ws) (w3 : Jvm.Cond.initialized y.cls ∈ Ws) (w4 : Jvm.Cond.code y yb yl yr ∈ Ws) (hy : y.cls ≠ "java/lang/invoke/MethodHandle" ∧ y.cls ≠ "java/lang/invoke/VarHandle") (hpar : (parseMethodDescriptor y.desc).map (fun sg => sg.parameters.length) = some 2) (hsz : Ls.size = ml) (hF : ∀ x ∈ F', x ∈ F ∨ (w ≤ x ∧ x < h.size))
    (K : Con l Z EL nwc y yb yl yr rm F' #[x1, x2] h (rR Qc)) (hf : rm.frames + 1 ≤ R.frames) (hl : (st.map fun v => v.category).sum + (yl + 11) + rm.locals ≤ R.locals) (hk : k + rm.cells ≤ R.cells) (hn : n + rm.slots ≤ R.slots) (g : ∀ v h', Qc v h' → Goes p l e R s m args below meth c Z EL nw Q F (wm nwc w h') h' (k + rm.cells) (n + rm.slots) (mkF m nx Ls (v :: st))) (hnw : nw = true → nwc = true := by first | exact id | exact fun _ => rfl) : Goes p l e R s m args below meth c Z EL nw Q F w h k n (mkF m pc Ls (x2 :: x1 :: st)) :=
  C.static hnw hF (argsL := [x1, x2]) (rest := st) d w1 w2 w3 w4 hy (len_par hpar rfl) rfl hsz hk hn (K.pays (C.wrd w4) (C.wrd w3) C.2.2.2.2.2.2.2.2 hf hl) (Nat.le_refl _) (fun v h' q => by obtain ⟨v, rfl, q⟩ := q; exact g v h' q)
theorem Cxt.v2R (C : Cxt p m meth c Z a0 EL own mn bytes ml ret Ws) {idx : Nat} {y z : MethodName} {yb : ByteArray} {yl : Nat} {yr : Option FieldType} {rm : Room} {F' : List Addr} {cls : String} {a : Addr} {x1 x2 : Value} {Qc : Value → Heap → Prop} {nwc : Bool} (d : Dec bytes pc (.invokevirtual idx) 3 nx) (w1 : Jvm.Cond.methodLink own idx y ∈ Ws) (w2 : Jvm.Cond.declares y ∈ Ws) (w5 : Jvm.Cond.selects cls y z ∈ Ws) (w6 : Jvm.Cond.instanceMethod z ∈ Ws) (w3 : Jvm.Cond.initialized z.cls ∈ Ws) (w4 : Jvm.Cond.code z yb yl yr ∈ Ws) (hy : y.cls ≠ "java/lang/invoke/MethodHandle" ∧ y.cls ≠ "java/lang/invoke/VarHandle") (hpar : (parseMethodDescriptor y.desc).map (fun sg => sg.parameters.length) = some 2) (hsz : Ls.size = ml) (hF : ∀ x ∈ F', x ∈ F ∨ (w ≤ x ∧ x < h.size)) (E : Exa Z h a cls)
    (nf : ∀ vm0 : Vm, (Jvm.Cond.selects cls y z).before args (s.setVm vm0) = true → NotFace (s.setVm vm0) y)
    (K : Con l Z EL nwc z yb yl yr rm F' #[.ref a, x1, x2] h (rR Qc)) (hf : rm.frames + 1 ≤ R.frames) (hl : (st.map fun v => v.category).sum + (yl + 11) + rm.locals ≤ R.locals) (hk : k + rm.cells ≤ R.cells) (hn : n + rm.slots ≤ R.slots) (g : ∀ v h', Qc v h' → Goes p l e R s m args below meth c Z EL nw Q F (wm nwc w h') h' (k + rm.cells) (n + rm.slots) (mkF m nx Ls (v :: st))) (hnw : nw = true → nwc = true := by first | exact id | exact fun _ => rfl) : Goes p l e R s m args below meth c Z EL nw Q F w h k n (mkF m pc Ls (x2 :: x1 :: .ref a :: st)) :=
  C.virtual hnw hF (argsL := [x1, x2]) (rest := st) d w1 (C.wrd w2) w5 w6 hy (len_par hpar rfl) rfl hsz hk hn E nf (K.pays (C.wrd w4) (C.wrd w3) C.2.2.2.2.2.2.2.2 hf hl) (Nat.le_refl _) (fun v h' q => by obtain ⟨v, rfl, q⟩ := q; exact g v h' q)
theorem Cxt.s3V (C : Cxt p m meth c Z a0 EL own mn bytes ml ret Ws) {idx : Nat} {y : MethodName} {yb : ByteArray} {yl : Nat} {yr : Option FieldType} {rm : Room} {F' : List Addr} {x1 x2 x3 : Value} {Qc : Heap → Prop} {nwc : Bool} (d : Dec bytes pc (.invokestatic idx) 3 nx) (w1 : Jvm.Cond.methodLink own idx y ∈ Ws) (w2 : Jvm.Cond.static y ∈ Ws) (w3 : Jvm.Cond.initialized y.cls ∈ Ws) (w4 : Jvm.Cond.code y yb yl yr ∈ Ws) (hy : y.cls ≠ "java/lang/invoke/MethodHandle" ∧ y.cls ≠ "java/lang/invoke/VarHandle") (hpar : (parseMethodDescriptor y.desc).map (fun sg => sg.parameters.length) = some 3) (hsz : Ls.size = ml) (hF : ∀ x ∈ F', x ∈ F ∨ (w ≤ x ∧ x < h.size))
    (K : Con l Z EL nwc y yb yl yr rm F' #[x1, x2, x3] h (rV Qc)) (hf : rm.frames + 1 ≤ R.frames) (hl : (st.map fun v => v.category).sum + (yl + 11) + rm.locals ≤ R.locals) (hk : k + rm.cells ≤ R.cells) (hn : n + rm.slots ≤ R.slots) (g : ∀ h', Qc h' → Goes p l e R s m args below meth c Z EL nw Q F (wm nwc w h') h' (k + rm.cells) (n + rm.slots) (mkF m nx Ls st)) (hnw : nw = true → nwc = true := by first | exact id | exact fun _ => rfl) : Goes p l e R s m args below meth c Z EL nw Q F w h k n (mkF m pc Ls (x3 :: x2 :: x1 :: st)) :=
  C.static hnw hF (argsL := [x1, x2, x3]) (rest := st) d w1 w2 w3 w4 hy (len_par hpar rfl) rfl hsz hk hn (K.pays (C.wrd w4) (C.wrd w3) C.2.2.2.2.2.2.2.2 hf hl) (Nat.le_refl _) (fun v h' q => by obtain ⟨rfl, q⟩ := q; exact g h' q)
theorem Cxt.c3 (C : Cxt p m meth c Z a0 EL own mn bytes ml ret Ws) {idx : Nat} {y : MethodName} {yb : ByteArray} {yl : Nat} {rm : Room} {F' : List Addr} {a : Addr} {x1 x2 x3 : Value} {Qc : Heap → Prop} {nwc : Bool} (d : Dec bytes pc (.invokespecial idx) 3 nx) (hy1 : y.name = "<init>") (w1 : Jvm.Cond.methodLink own idx y ∈ Ws) (w2 : Jvm.Cond.instanceMethod y ∈ Ws) (w3 : Jvm.Cond.initialized y.cls ∈ Ws) (w4 : Jvm.Cond.code y yb yl none ∈ Ws) (hy : y.cls ≠ "java/lang/invoke/MethodHandle" ∧ y.cls ≠ "java/lang/invoke/VarHandle") (hpar : (parseMethodDescriptor y.desc).map (fun sg => sg.parameters.length) = some 3) (hsz : Ls.size = ml) (hF : ∀ x ∈ F', x ∈ F ∨ (w ≤ x ∧ x < h.size))
    (K : Con l Z EL nwc y yb yl none rm F' #[.ref a, x1, x2, x3] h (rV Qc)) (hf : rm.frames + 1 ≤ R.frames) (hl : (st.map fun v => v.category).sum + (yl + 11) + rm.locals ≤ R.locals) (hk : k + rm.cells ≤ R.cells) (hn : n + rm.slots ≤ R.slots) (g : ∀ h', Qc h' → Goes p l e R s m args below meth c Z EL nw Q F (wm nwc w h') h' (k + rm.cells) (n + rm.slots) (mkF m nx Ls st)) (hnw : nw = true → nwc = true := by first | exact id | exact fun _ => rfl) : Goes p l e R s m args below meth c Z EL nw Q F w h k n (mkF m pc Ls (x3 :: x2 :: x1 :: .ref a :: st)) :=
  C.special hnw hF (argsL := [x1, x2, x3]) (rest := st) d hy1 w1 w2 w4 hy (len_par hpar rfl) rfl hsz hk hn (K.pays (C.wrd w4) (C.wrd w3) C.2.2.2.2.2.2.2.2 hf hl) (Nat.le_refl _) (fun v h' q => by obtain ⟨rfl, q⟩ := q; exact g h' q)
theorem Cxt.v3V (C : Cxt p m meth c Z a0 EL own mn bytes ml ret Ws) {idx : Nat} {y z : MethodName} {yb : ByteArray} {yl : Nat} {yr : Option FieldType} {rm : Room} {F' : List Addr} {cls : String} {a : Addr} {x1 x2 x3 : Value} {Qc : Heap → Prop} {nwc : Bool} (d : Dec bytes pc (.invokevirtual idx) 3 nx) (w1 : Jvm.Cond.methodLink own idx y ∈ Ws) (w2 : Jvm.Cond.declares y ∈ Ws) (w5 : Jvm.Cond.selects cls y z ∈ Ws) (w6 : Jvm.Cond.instanceMethod z ∈ Ws) (w3 : Jvm.Cond.initialized z.cls ∈ Ws) (w4 : Jvm.Cond.code z yb yl yr ∈ Ws) (hy : y.cls ≠ "java/lang/invoke/MethodHandle" ∧ y.cls ≠ "java/lang/invoke/VarHandle") (hpar : (parseMethodDescriptor y.desc).map (fun sg => sg.parameters.length) = some 3) (hsz : Ls.size = ml) (hF : ∀ x ∈ F', x ∈ F ∨ (w ≤ x ∧ x < h.size)) (E : Exa Z h a cls)
    (nf : ∀ vm0 : Vm, (Jvm.Cond.selects cls y z).before args (s.setVm vm0) = true → NotFace (s.setVm vm0) y)
    (K : Con l Z EL nwc z yb yl yr rm F' #[.ref a, x1, x2, x3] h (rV Qc)) (hf : rm.frames + 1 ≤ R.frames) (hl : (st.map fun v => v.category).sum + (yl + 11) + rm.locals ≤ R.locals) (hk : k + rm.cells ≤ R.cells) (hn : n + rm.slots ≤ R.slots) (g : ∀ h', Qc h' → Goes p l e R s m args below meth c Z EL nw Q F (wm nwc w h') h' (k + rm.cells) (n + rm.slots) (mkF m nx Ls st)) (hnw : nw = true → nwc = true := by first | exact id | exact fun _ => rfl) : Goes p l e R s m args below meth c Z EL nw Q F w h k n (mkF m pc Ls (x3 :: x2 :: x1 :: .ref a :: st)) :=
  C.virtual hnw hF (argsL := [x1, x2, x3]) (rest := st) d w1 (C.wrd w2) w5 w6 hy (len_par hpar rfl) rfl hsz hk hn E nf (K.pays (C.wrd w4) (C.wrd w3) C.2.2.2.2.2.2.2.2 hf hl) (Nat.le_refl _) (fun v h' q => by obtain ⟨rfl, q⟩ := q; exact g h' q)
theorem Cxt.s3R (C : Cxt p m meth c Z a0 EL own mn bytes ml ret Ws) {idx : Nat} {y : MethodName} {yb : ByteArray} {yl : Nat} {yr : Option FieldType} {rm : Room} {F' : List Addr} {x1 x2 x3 : Value} {Qc : Value → Heap → Prop} {nwc : Bool} (d : Dec bytes pc (.invokestatic idx) 3 nx) (w1 : Jvm.Cond.methodLink own idx y ∈ Ws) (w2 : Jvm.Cond.static y ∈ Ws) (w3 : Jvm.Cond.initialized y.cls ∈ Ws) (w4 : Jvm.Cond.code y yb yl yr ∈ Ws) (hy : y.cls ≠ "java/lang/invoke/MethodHandle" ∧ y.cls ≠ "java/lang/invoke/VarHandle") (hpar : (parseMethodDescriptor y.desc).map (fun sg => sg.parameters.length) = some 3) (hsz : Ls.size = ml) (hF : ∀ x ∈ F', x ∈ F ∨ (w ≤ x ∧ x < h.size))
    (K : Con l Z EL nwc y yb yl yr rm F' #[x1, x2, x3] h (rR Qc)) (hf : rm.frames + 1 ≤ R.frames) (hl : (st.map fun v => v.category).sum + (yl + 11) + rm.locals ≤ R.locals) (hk : k + rm.cells ≤ R.cells) (hn : n + rm.slots ≤ R.slots) (g : ∀ v h', Qc v h' → Goes p l e R s m args below meth c Z EL nw Q F (wm nwc w h') h' (k + rm.cells) (n + rm.slots) (mkF m nx Ls (v :: st))) (hnw : nw = true → nwc = true := by first | exact id | exact fun _ => rfl) : Goes p l e R s m args below meth c Z EL nw Q F w h k n (mkF m pc Ls (x3 :: x2 :: x1 :: st)) :=
  C.static hnw hF (argsL := [x1, x2, x3]) (rest := st) d w1 w2 w3 w4 hy (len_par hpar rfl) rfl hsz hk hn (K.pays (C.wrd w4) (C.wrd w3) C.2.2.2.2.2.2.2.2 hf hl) (Nat.le_refl _) (fun v h' q => by obtain ⟨v, rfl, q⟩ := q; exact g v h' q)
theorem Cxt.v3R (C : Cxt p m meth c Z a0 EL own mn bytes ml ret Ws) {idx : Nat} {y z : MethodName} {yb : ByteArray} {yl : Nat} {yr : Option FieldType} {rm : Room} {F' : List Addr} {cls : String} {a : Addr} {x1 x2 x3 : Value} {Qc : Value → Heap → Prop} {nwc : Bool} (d : Dec bytes pc (.invokevirtual idx) 3 nx) (w1 : Jvm.Cond.methodLink own idx y ∈ Ws) (w2 : Jvm.Cond.declares y ∈ Ws) (w5 : Jvm.Cond.selects cls y z ∈ Ws) (w6 : Jvm.Cond.instanceMethod z ∈ Ws) (w3 : Jvm.Cond.initialized z.cls ∈ Ws) (w4 : Jvm.Cond.code z yb yl yr ∈ Ws) (hy : y.cls ≠ "java/lang/invoke/MethodHandle" ∧ y.cls ≠ "java/lang/invoke/VarHandle") (hpar : (parseMethodDescriptor y.desc).map (fun sg => sg.parameters.length) = some 3) (hsz : Ls.size = ml) (hF : ∀ x ∈ F', x ∈ F ∨ (w ≤ x ∧ x < h.size)) (E : Exa Z h a cls)
    (nf : ∀ vm0 : Vm, (Jvm.Cond.selects cls y z).before args (s.setVm vm0) = true → NotFace (s.setVm vm0) y)
    (K : Con l Z EL nwc z yb yl yr rm F' #[.ref a, x1, x2, x3] h (rR Qc)) (hf : rm.frames + 1 ≤ R.frames) (hl : (st.map fun v => v.category).sum + (yl + 11) + rm.locals ≤ R.locals) (hk : k + rm.cells ≤ R.cells) (hn : n + rm.slots ≤ R.slots) (g : ∀ v h', Qc v h' → Goes p l e R s m args below meth c Z EL nw Q F (wm nwc w h') h' (k + rm.cells) (n + rm.slots) (mkF m nx Ls (v :: st))) (hnw : nw = true → nwc = true := by first | exact id | exact fun _ => rfl) : Goes p l e R s m args below meth c Z EL nw Q F w h k n (mkF m pc Ls (x3 :: x2 :: x1 :: .ref a :: st)) :=
  C.virtual hnw hF (argsL := [x1, x2, x3]) (rest := st) d w1 (C.wrd w2) w5 w6 hy (len_par hpar rfl) rfl hsz hk hn E nf (K.pays (C.wrd w4) (C.wrd w3) C.2.2.2.2.2.2.2.2 hf hl) (Nat.le_refl _) (fun v h' q => by obtain ⟨v, rfl, q⟩ := q; exact g v h' q)
theorem Cxt.s4V (C : Cxt p m meth c Z a0 EL own mn bytes ml ret Ws) {idx : Nat} {y : MethodName} {yb : ByteArray} {yl : Nat} {yr : Option FieldType} {rm : Room} {F' : List Addr} {x1 x2 x3 x4 : Value} {Qc : Heap → Prop} {nwc : Bool} (d : Dec bytes pc (.invokestatic idx) 3 nx) (w1 : Jvm.Cond.methodLink own idx y ∈ Ws) (w2 : Jvm.Cond.static y ∈ Ws) (w3 : Jvm.Cond.initialized y.cls ∈ Ws) (w4 : Jvm.Cond.code y yb yl yr ∈ Ws) (hy : y.cls ≠ "java/lang/invoke/MethodHandle" ∧ y.cls ≠ "java/lang/invoke/VarHandle") (hpar : (parseMethodDescriptor y.desc).map (fun sg => sg.parameters.length) = some 4) (hsz : Ls.size = ml) (hF : ∀ x ∈ F', x ∈ F ∨ (w ≤ x ∧ x < h.size))
    (K : Con l Z EL nwc y yb yl yr rm F' #[x1, x2, x3, x4] h (rV Qc)) (hf : rm.frames + 1 ≤ R.frames) (hl : (st.map fun v => v.category).sum + (yl + 11) + rm.locals ≤ R.locals) (hk : k + rm.cells ≤ R.cells) (hn : n + rm.slots ≤ R.slots) (g : ∀ h', Qc h' → Goes p l e R s m args below meth c Z EL nw Q F (wm nwc w h') h' (k + rm.cells) (n + rm.slots) (mkF m nx Ls st)) (hnw : nw = true → nwc = true := by first | exact id | exact fun _ => rfl) : Goes p l e R s m args below meth c Z EL nw Q F w h k n (mkF m pc Ls (x4 :: x3 :: x2 :: x1 :: st)) :=
  C.static hnw hF (argsL := [x1, x2, x3, x4]) (rest := st) d w1 w2 w3 w4 hy (len_par hpar rfl) rfl hsz hk hn (K.pays (C.wrd w4) (C.wrd w3) C.2.2.2.2.2.2.2.2 hf hl) (Nat.le_refl _) (fun v h' q => by obtain ⟨rfl, q⟩ := q; exact g h' q)
theorem Cxt.c4 (C : Cxt p m meth c Z a0 EL own mn bytes ml ret Ws) {idx : Nat} {y : MethodName} {yb : ByteArray} {yl : Nat} {rm : Room} {F' : List Addr} {a : Addr} {x1 x2 x3 x4 : Value} {Qc : Heap → Prop} {nwc : Bool} (d : Dec bytes pc (.invokespecial idx) 3 nx) (hy1 : y.name = "<init>") (w1 : Jvm.Cond.methodLink own idx y ∈ Ws) (w2 : Jvm.Cond.instanceMethod y ∈ Ws) (w3 : Jvm.Cond.initialized y.cls ∈ Ws) (w4 : Jvm.Cond.code y yb yl none ∈ Ws) (hy : y.cls ≠ "java/lang/invoke/MethodHandle" ∧ y.cls ≠ "java/lang/invoke/VarHandle") (hpar : (parseMethodDescriptor y.desc).map (fun sg => sg.parameters.length) = some 4) (hsz : Ls.size = ml) (hF : ∀ x ∈ F', x ∈ F ∨ (w ≤ x ∧ x < h.size))
    (K : Con l Z EL nwc y yb yl none rm F' #[.ref a, x1, x2, x3, x4] h (rV Qc)) (hf : rm.frames + 1 ≤ R.frames) (hl : (st.map fun v => v.category).sum + (yl + 11) + rm.locals ≤ R.locals) (hk : k + rm.cells ≤ R.cells) (hn : n + rm.slots ≤ R.slots) (g : ∀ h', Qc h' → Goes p l e R s m args below meth c Z EL nw Q F (wm nwc w h') h' (k + rm.cells) (n + rm.slots) (mkF m nx Ls st)) (hnw : nw = true → nwc = true := by first | exact id | exact fun _ => rfl) : Goes p l e R s m args below meth c Z EL nw Q F w h k n (mkF m pc Ls (x4 :: x3 :: x2 :: x1 :: .ref a :: st)) :=
  C.special hnw hF (argsL := [x1, x2, x3, x4]) (rest := st) d hy1 w1 w2 w4 hy (len_par hpar rfl) rfl hsz hk hn (K.pays (C.wrd w4) (C.wrd w3) C.2.2.2.2.2.2.2.2 hf hl) (Nat.le_refl _) (fun v h' q => by obtain ⟨rfl, q⟩ := q; exact g h' q)
theorem Cxt.v4V (C : Cxt p m meth c Z a0 EL own mn bytes ml ret Ws) {idx : Nat} {y z : MethodName} {yb : ByteArray} {yl : Nat} {yr : Option FieldType} {rm : Room} {F' : List Addr} {cls : String} {a : Addr} {x1 x2 x3 x4 : Value} {Qc : Heap → Prop} {nwc : Bool} (d : Dec bytes pc (.invokevirtual idx) 3 nx) (w1 : Jvm.Cond.methodLink own idx y ∈ Ws) (w2 : Jvm.Cond.declares y ∈ Ws) (w5 : Jvm.Cond.selects cls y z ∈ Ws) (w6 : Jvm.Cond.instanceMethod z ∈ Ws) (w3 : Jvm.Cond.initialized z.cls ∈ Ws) (w4 : Jvm.Cond.code z yb yl yr ∈ Ws) (hy : y.cls ≠ "java/lang/invoke/MethodHandle" ∧ y.cls ≠ "java/lang/invoke/VarHandle") (hpar : (parseMethodDescriptor y.desc).map (fun sg => sg.parameters.length) = some 4) (hsz : Ls.size = ml) (hF : ∀ x ∈ F', x ∈ F ∨ (w ≤ x ∧ x < h.size)) (E : Exa Z h a cls)
    (nf : ∀ vm0 : Vm, (Jvm.Cond.selects cls y z).before args (s.setVm vm0) = true → NotFace (s.setVm vm0) y)
    (K : Con l Z EL nwc z yb yl yr rm F' #[.ref a, x1, x2, x3, x4] h (rV Qc)) (hf : rm.frames + 1 ≤ R.frames) (hl : (st.map fun v => v.category).sum + (yl + 11) + rm.locals ≤ R.locals) (hk : k + rm.cells ≤ R.cells) (hn : n + rm.slots ≤ R.slots) (g : ∀ h', Qc h' → Goes p l e R s m args below meth c Z EL nw Q F (wm nwc w h') h' (k + rm.cells) (n + rm.slots) (mkF m nx Ls st)) (hnw : nw = true → nwc = true := by first | exact id | exact fun _ => rfl) : Goes p l e R s m args below meth c Z EL nw Q F w h k n (mkF m pc Ls (x4 :: x3 :: x2 :: x1 :: .ref a :: st)) :=
  C.virtual hnw hF (argsL := [x1, x2, x3, x4]) (rest := st) d w1 (C.wrd w2) w5 w6 hy (len_par hpar rfl) rfl hsz hk hn E nf (K.pays (C.wrd w4) (C.wrd w3) C.2.2.2.2.2.2.2.2 hf hl) (Nat.le_refl _) (fun v h' q => by obtain ⟨rfl, q⟩ := q; exact g h' q)
theorem Cxt.s4R (C : Cxt p m meth c Z a0 EL own mn bytes ml ret Ws) {idx : Nat} {y : MethodName} {yb : ByteArray} {yl : Nat} {yr : Option FieldType} {rm : Room} {F' : List Addr} {x1 x2 x3 x4 : Value} {Qc : Value → Heap → Prop} {nwc : Bool} (d : Dec bytes pc (.invokestatic idx) 3 nx) (w1 : Jvm.Cond.methodLink own idx y ∈ Ws) (w2 : Jvm.Cond.static y ∈ Ws) (w3 : Jvm.Cond.initialized y.cls ∈ Ws) (w4 : Jvm.Cond.code y yb yl yr ∈ Ws) (hy : y.cls ≠ "java/lang/invoke/MethodHandle" ∧ y.cls ≠ "java/lang/invoke/VarHandle") (hpar : (parseMethodDescriptor y.desc).map (fun sg => sg.parameters.length) = some 4) (hsz : Ls.size = ml) (hF : ∀ x ∈ F', x ∈ F ∨ (w ≤ x ∧ x < h.size))
    (K : Con l Z EL nwc y yb yl yr rm F' #[x1, x2, x3, x4] h (rR Qc)) (hf : rm.frames + 1 ≤ R.frames) (hl : (st.map fun v => v.category).sum + (yl + 11) + rm.locals ≤ R.locals) (hk : k + rm.cells ≤ R.cells) (hn : n + rm.slots ≤ R.slots) (g : ∀ v h', Qc v h' → Goes p l e R s m args below meth c Z EL nw Q F (wm nwc w h') h' (k + rm.cells) (n + rm.slots) (mkF m nx Ls (v :: st))) (hnw : nw = true → nwc = true := by first | exact id | exact fun _ => rfl) : Goes p l e R s m args below meth c Z EL nw Q F w h k n (mkF m pc Ls (x4 :: x3 :: x2 :: x1 :: st)) :=
  C.static hnw hF (argsL := [x1, x2, x3, x4]) (rest := st) d w1 w2 w3 w4 hy (len_par hpar rfl) rfl hsz hk hn (K.pays (C.wrd w4) (C.wrd w3) C.2.2.2.2.2.2.2.2 hf hl) (Nat.le_refl _) (fun v h' q => by obtain ⟨v, rfl, q⟩ := q; exact g v h' q)
theorem Cxt.v4R (C : Cxt p m meth c Z a0 EL own mn bytes ml ret Ws) {idx : Nat} {y z : MethodName} {yb : ByteArray} {yl : Nat} {yr : Option FieldType} {rm : Room} {F' : List Addr} {cls : String} {a : Addr} {x1 x2 x3 x4 : Value} {Qc : Value → Heap → Prop} {nwc : Bool} (d : Dec bytes pc (.invokevirtual idx) 3 nx) (w1 : Jvm.Cond.methodLink own idx y ∈ Ws) (w2 : Jvm.Cond.declares y ∈ Ws) (w5 : Jvm.Cond.selects cls y z ∈ Ws) (w6 : Jvm.Cond.instanceMethod z ∈ Ws) (w3 : Jvm.Cond.initialized z.cls ∈ Ws) (w4 : Jvm.Cond.code z yb yl yr ∈ Ws) (hy : y.cls ≠ "java/lang/invoke/MethodHandle" ∧ y.cls ≠ "java/lang/invoke/VarHandle") (hpar : (parseMethodDescriptor y.desc).map (fun sg => sg.parameters.length) = some 4) (hsz : Ls.size = ml) (hF : ∀ x ∈ F', x ∈ F ∨ (w ≤ x ∧ x < h.size)) (E : Exa Z h a cls)
    (nf : ∀ vm0 : Vm, (Jvm.Cond.selects cls y z).before args (s.setVm vm0) = true → NotFace (s.setVm vm0) y)
    (K : Con l Z EL nwc z yb yl yr rm F' #[.ref a, x1, x2, x3, x4] h (rR Qc)) (hf : rm.frames + 1 ≤ R.frames) (hl : (st.map fun v => v.category).sum + (yl + 11) + rm.locals ≤ R.locals) (hk : k + rm.cells ≤ R.cells) (hn : n + rm.slots ≤ R.slots) (g : ∀ v h', Qc v h' → Goes p l e R s m args below meth c Z EL nw Q F (wm nwc w h') h' (k + rm.cells) (n + rm.slots) (mkF m nx Ls (v :: st))) (hnw : nw = true → nwc = true := by first | exact id | exact fun _ => rfl) : Goes p l e R s m args below meth c Z EL nw Q F w h k n (mkF m pc Ls (x4 :: x3 :: x2 :: x1 :: .ref a :: st)) :=
  C.virtual hnw hF (argsL := [x1, x2, x3, x4]) (rest := st) d w1 (C.wrd w2) w5 w6 hy (len_par hpar rfl) rfl hsz hk hn E nf (K.pays (C.wrd w4) (C.wrd w3) C.2.2.2.2.2.2.2.2 hf hl) (Nat.le_refl _) (fun v h' q => by obtain ⟨v, rfl, q⟩ := q; exact g v h' q)
theorem Cxt.s5V (C : Cxt p m meth c Z a0 EL own mn bytes ml ret Ws) {idx : Nat} {y : MethodName} {yb : ByteArray} {yl : Nat} {yr : Option FieldType} {rm : Room} {F' : List Addr} {x1 x2 x3 x4 x5 : Value} {Qc : Heap → Prop} {nwc : Bool} (d : Dec bytes pc (.invokestatic idx) 3 nx) (w1 : Jvm.Cond.methodLink own idx y ∈ Ws) (w2 : Jvm.Cond.static y ∈ Ws) (w3 : Jvm.Cond.initialized y.cls ∈ Ws) (w4 : Jvm.Cond.code y yb yl yr ∈ Ws) (hy : y.cls ≠ "java/lang/invoke/MethodHandle" ∧ y.cls ≠ "java/lang/invoke/VarHandle") (hpar : (parseMethodDescriptor y.desc).map (fun sg => sg.parameters.length) = some 5) (hsz : Ls.size = ml) (hF : ∀ x ∈ F', x ∈ F ∨ (w ≤ x ∧ x < h.size))
    (K : Con l Z EL nwc y yb yl yr rm F' #[x1, x2, x3, x4, x5] h (rV Qc)) (hf : rm.frames + 1 ≤ R.frames) (hl : (st.map fun v => v.category).sum + (yl + 11) + rm.locals ≤ R.locals) (hk : k + rm.cells ≤ R.cells) (hn : n + rm.slots ≤ R.slots) (g : ∀ h', Qc h' → Goes p l e R s m args below meth c Z EL nw Q F (wm nwc w h') h' (k + rm.cells) (n + rm.slots) (mkF m nx Ls st)) (hnw : nw = true → nwc = true := by first | exact id | exact fun _ => rfl) : Goes p l e R s m args below meth c Z EL nw Q F w h k n (mkF m pc Ls (x5 :: x4 :: x3 :: x2 :: x1 :: st)) :=
  C.static hnw hF (argsL := [x1, x2, x3, x4, x5]) (rest := st) d w1 w2 w3 w4 hy (len_par hpar rfl) rfl hsz hk hn (K.pays (C.wrd w4) (C.wrd w3) C.2.2.2.2.2.2.2.2 hf hl) (Nat.le_refl _) (fun v h' q => by obtain ⟨rfl, q⟩ := q; exact g h' q)
theorem Cxt.c5 (C : Cxt p m meth c Z a0 EL own mn bytes ml ret Ws) {idx : Nat} {y : MethodName} {yb : ByteArray} {yl : Nat} {rm : Room} {F' : List Addr} {a : Addr} {x1 x2 x3 x4 x5 : Value} {Qc : Heap → Prop} {nwc : Bool} (d : Dec bytes pc (.invokespecial idx) 3 nx) (hy1 : y.name = "<init>") (w1 : Jvm.Cond.methodLink own idx y ∈ Ws) (w2 : Jvm.Cond.instanceMethod y ∈ Ws) (w3 : Jvm.Cond.initialized y.cls ∈ Ws) (w4 : Jvm.Cond.code y yb yl none ∈ Ws) (hy : y.cls ≠ "java/lang/invoke/MethodHandle" ∧ y.cls ≠ "java/lang/invoke/VarHandle") (hpar : (parseMethodDescriptor y.desc).map (fun sg => sg.parameters.length) = some 5) (hsz : Ls.size = ml) (hF : ∀ x ∈ F', x ∈ F ∨ (w ≤ x ∧ x < h.size))
    (K : Con l Z EL nwc y yb yl none rm F' #[.ref a, x1, x2, x3, x4, x5] h (rV Qc)) (hf : rm.frames + 1 ≤ R.frames) (hl : (st.map fun v => v.category).sum + (yl + 11) + rm.locals ≤ R.locals) (hk : k + rm.cells ≤ R.cells) (hn : n + rm.slots ≤ R.slots) (g : ∀ h', Qc h' → Goes p l e R s m args below meth c Z EL nw Q F (wm nwc w h') h' (k + rm.cells) (n + rm.slots) (mkF m nx Ls st)) (hnw : nw = true → nwc = true := by first | exact id | exact fun _ => rfl) : Goes p l e R s m args below meth c Z EL nw Q F w h k n (mkF m pc Ls (x5 :: x4 :: x3 :: x2 :: x1 :: .ref a :: st)) :=
  C.special hnw hF (argsL := [x1, x2, x3, x4, x5]) (rest := st) d hy1 w1 w2 w4 hy (len_par hpar rfl) rfl hsz hk hn (K.pays (C.wrd w4) (C.wrd w3) C.2.2.2.2.2.2.2.2 hf hl) (Nat.le_refl _) (fun v h' q => by obtain ⟨rfl, q⟩ := q; exact g h' q)
theorem Cxt.s5R (C : Cxt p m meth c Z a0 EL own mn bytes ml ret Ws) {idx : Nat} {y : MethodName} {yb : ByteArray} {yl : Nat} {yr : Option FieldType} {rm : Room} {F' : List Addr} {x1 x2 x3 x4 x5 : Value} {Qc : Value → Heap → Prop} {nwc : Bool} (d : Dec bytes pc (.invokestatic idx) 3 nx) (w1 : Jvm.Cond.methodLink own idx y ∈ Ws) (w2 : Jvm.Cond.static y ∈ Ws) (w3 : Jvm.Cond.initialized y.cls ∈ Ws) (w4 : Jvm.Cond.code y yb yl yr ∈ Ws) (hy : y.cls ≠ "java/lang/invoke/MethodHandle" ∧ y.cls ≠ "java/lang/invoke/VarHandle") (hpar : (parseMethodDescriptor y.desc).map (fun sg => sg.parameters.length) = some 5) (hsz : Ls.size = ml) (hF : ∀ x ∈ F', x ∈ F ∨ (w ≤ x ∧ x < h.size))
    (K : Con l Z EL nwc y yb yl yr rm F' #[x1, x2, x3, x4, x5] h (rR Qc)) (hf : rm.frames + 1 ≤ R.frames) (hl : (st.map fun v => v.category).sum + (yl + 11) + rm.locals ≤ R.locals) (hk : k + rm.cells ≤ R.cells) (hn : n + rm.slots ≤ R.slots) (g : ∀ v h', Qc v h' → Goes p l e R s m args below meth c Z EL nw Q F (wm nwc w h') h' (k + rm.cells) (n + rm.slots) (mkF m nx Ls (v :: st))) (hnw : nw = true → nwc = true := by first | exact id | exact fun _ => rfl) : Goes p l e R s m args below meth c Z EL nw Q F w h k n (mkF m pc Ls (x5 :: x4 :: x3 :: x2 :: x1 :: st)) :=
  C.static hnw hF (argsL := [x1, x2, x3, x4, x5]) (rest := st) d w1 w2 w3 w4 hy (len_par hpar rfl) rfl hsz hk hn (K.pays (C.wrd w4) (C.wrd w3) C.2.2.2.2.2.2.2.2 hf hl) (Nat.le_refl _) (fun v h' q => by obtain ⟨v, rfl, q⟩ := q; exact g v h' q)
theorem Cxt.s6V (C : Cxt p m meth c Z a0 EL own mn bytes ml ret Ws) {idx : Nat} {y : MethodName} {yb : ByteArray} {yl : Nat} {yr : Option FieldType} {rm : Room} {F' : List Addr} {x1 x2 x3 x4 x5 x6 : Value} {Qc : Heap → Prop} {nwc : Bool} (d : Dec bytes pc (.invokestatic idx) 3 nx) (w1 : Jvm.Cond.methodLink own idx y ∈ Ws) (w2 : Jvm.Cond.static y ∈ Ws) (w3 : Jvm.Cond.initialized y.cls ∈ Ws) (w4 : Jvm.Cond.code y yb yl yr ∈ Ws) (hy : y.cls ≠ "java/lang/invoke/MethodHandle" ∧ y.cls ≠ "java/lang/invoke/VarHandle") (hpar : (parseMethodDescriptor y.desc).map (fun sg => sg.parameters.length) = some 6) (hsz : Ls.size = ml) (hF : ∀ x ∈ F', x ∈ F ∨ (w ≤ x ∧ x < h.size))
    (K : Con l Z EL nwc y yb yl yr rm F' #[x1, x2, x3, x4, x5, x6] h (rV Qc)) (hf : rm.frames + 1 ≤ R.frames) (hl : (st.map fun v => v.category).sum + (yl + 11) + rm.locals ≤ R.locals) (hk : k + rm.cells ≤ R.cells) (hn : n + rm.slots ≤ R.slots) (g : ∀ h', Qc h' → Goes p l e R s m args below meth c Z EL nw Q F (wm nwc w h') h' (k + rm.cells) (n + rm.slots) (mkF m nx Ls st)) (hnw : nw = true → nwc = true := by first | exact id | exact fun _ => rfl) : Goes p l e R s m args below meth c Z EL nw Q F w h k n (mkF m pc Ls (x6 :: x5 :: x4 :: x3 :: x2 :: x1 :: st)) :=
  C.static hnw hF (argsL := [x1, x2, x3, x4, x5, x6]) (rest := st) d w1 w2 w3 w4 hy (len_par hpar rfl) rfl hsz hk hn (K.pays (C.wrd w4) (C.wrd w3) C.2.2.2.2.2.2.2.2 hf hl) (Nat.le_refl _) (fun v h' q => by obtain ⟨rfl, q⟩ := q; exact g h' q)
theorem Cxt.c6 (C : Cxt p m meth c Z a0 EL own mn bytes ml ret Ws) {idx : Nat} {y : MethodName} {yb : ByteArray} {yl : Nat} {rm : Room} {F' : List Addr} {a : Addr} {x1 x2 x3 x4 x5 x6 : Value} {Qc : Heap → Prop} {nwc : Bool} (d : Dec bytes pc (.invokespecial idx) 3 nx) (hy1 : y.name = "<init>") (w1 : Jvm.Cond.methodLink own idx y ∈ Ws) (w2 : Jvm.Cond.instanceMethod y ∈ Ws) (w3 : Jvm.Cond.initialized y.cls ∈ Ws) (w4 : Jvm.Cond.code y yb yl none ∈ Ws) (hy : y.cls ≠ "java/lang/invoke/MethodHandle" ∧ y.cls ≠ "java/lang/invoke/VarHandle") (hpar : (parseMethodDescriptor y.desc).map (fun sg => sg.parameters.length) = some 6) (hsz : Ls.size = ml) (hF : ∀ x ∈ F', x ∈ F ∨ (w ≤ x ∧ x < h.size))
    (K : Con l Z EL nwc y yb yl none rm F' #[.ref a, x1, x2, x3, x4, x5, x6] h (rV Qc)) (hf : rm.frames + 1 ≤ R.frames) (hl : (st.map fun v => v.category).sum + (yl + 11) + rm.locals ≤ R.locals) (hk : k + rm.cells ≤ R.cells) (hn : n + rm.slots ≤ R.slots) (g : ∀ h', Qc h' → Goes p l e R s m args below meth c Z EL nw Q F (wm nwc w h') h' (k + rm.cells) (n + rm.slots) (mkF m nx Ls st)) (hnw : nw = true → nwc = true := by first | exact id | exact fun _ => rfl) : Goes p l e R s m args below meth c Z EL nw Q F w h k n (mkF m pc Ls (x6 :: x5 :: x4 :: x3 :: x2 :: x1 :: .ref a :: st)) :=
  C.special hnw hF (argsL := [x1, x2, x3, x4, x5, x6]) (rest := st) d hy1 w1 w2 w4 hy (len_par hpar rfl) rfl hsz hk hn (K.pays (C.wrd w4) (C.wrd w3) C.2.2.2.2.2.2.2.2 hf hl) (Nat.le_refl _) (fun v h' q => by obtain ⟨rfl, q⟩ := q; exact g h' q)
theorem Cxt.s6R (C : Cxt p m meth c Z a0 EL own mn bytes ml ret Ws) {idx : Nat} {y : MethodName} {yb : ByteArray} {yl : Nat} {yr : Option FieldType} {rm : Room} {F' : List Addr} {x1 x2 x3 x4 x5 x6 : Value} {Qc : Value → Heap → Prop} {nwc : Bool} (d : Dec bytes pc (.invokestatic idx) 3 nx) (w1 : Jvm.Cond.methodLink own idx y ∈ Ws) (w2 : Jvm.Cond.static y ∈ Ws) (w3 : Jvm.Cond.initialized y.cls ∈ Ws) (w4 : Jvm.Cond.code y yb yl yr ∈ Ws) (hy : y.cls ≠ "java/lang/invoke/MethodHandle" ∧ y.cls ≠ "java/lang/invoke/VarHandle") (hpar : (parseMethodDescriptor y.desc).map (fun sg => sg.parameters.length) = some 6) (hsz : Ls.size = ml) (hF : ∀ x ∈ F', x ∈ F ∨ (w ≤ x ∧ x < h.size))
    (K : Con l Z EL nwc y yb yl yr rm F' #[x1, x2, x3, x4, x5, x6] h (rR Qc)) (hf : rm.frames + 1 ≤ R.frames) (hl : (st.map fun v => v.category).sum + (yl + 11) + rm.locals ≤ R.locals) (hk : k + rm.cells ≤ R.cells) (hn : n + rm.slots ≤ R.slots) (g : ∀ v h', Qc v h' → Goes p l e R s m args below meth c Z EL nw Q F (wm nwc w h') h' (k + rm.cells) (n + rm.slots) (mkF m nx Ls (v :: st))) (hnw : nw = true → nwc = true := by first | exact id | exact fun _ => rfl) : Goes p l e R s m args below meth c Z EL nw Q F w h k n (mkF m pc Ls (x6 :: x5 :: x4 :: x3 :: x2 :: x1 :: st)) :=
  C.static hnw hF (argsL := [x1, x2, x3, x4, x5, x6]) (rest := st) d w1 w2 w3 w4 hy (len_par hpar rfl) rfl hsz hk hn (K.pays (C.wrd w4) (C.wrd w3) C.2.2.2.2.2.2.2.2 hf hl) (Nat.le_refl _) (fun v h' q => by obtain ⟨v, rfl, q⟩ := q; exact g v h' q)
theorem Cxt.p0V (C : Cxt p m meth c Z a0 EL own mn bytes ml ret Ws) {idx : Nat} {y : MethodName} {yb : ByteArray} {yl : Nat} {yr : Option FieldType} {rm : Room} {F' : List Addr} {cls : String} {a : Addr}  {Qc : Heap → Prop} {nwc : Bool} (d : Dec bytes pc (.invokevirtual idx) 3 nx) (w1 : Jvm.Cond.methodLink own idx y ∈ Ws) (w5 : Jvm.Cond.selects cls y y ∈ Ws) (w6 : Jvm.Cond.instanceMethod y ∈ Ws) (w3 : Jvm.Cond.initialized y.cls ∈ Ws) (w4 : Jvm.Cond.code y yb yl yr ∈ Ws) (hy : y.cls ≠ "java/lang/invoke/MethodHandle" ∧ y.cls ≠ "java/lang/invoke/VarHandle") (hpar : (parseMethodDescriptor y.desc).map (fun sg => sg.parameters.length) = some 0) (hsz : Ls.size = ml) (hF : ∀ x ∈ F', x ∈ F ∨ (w ≤ x ∧ x < h.size)) (E : Exa Z h a cls)
    (nf : ∀ vm0 : Vm, (Jvm.Cond.selects cls y y).before args (s.setVm vm0) = true → NotFace (s.setVm vm0) y)
    (K : Con l Z EL nwc y yb yl yr rm F' #[.ref a] h (rV Qc)) (hf : rm.frames + 1 ≤ R.frames) (hl : (st.map fun v => v.category).sum + (yl + 11) + rm.locals ≤ R.locals) (hk : k + rm.cells ≤ R.cells) (hn : n + rm.slots ≤ R.slots) (g : ∀ h', Qc h' → Goes p l e R s m args below meth c Z EL nw Q F (wm nwc w h') h' (k + rm.cells) (n + rm.slots) (mkF m nx Ls st)) (hnw : nw = true → nwc = true := by first | exact id | exact fun _ => rfl) : Goes p l e R s m args below meth c Z EL nw Q F w h k n (mkF m pc Ls (.ref a :: st)) :=
  C.virtual hnw hF (argsL := []) (rest := st) d w1 (declares_of (C.wrd w6) (C.wrd w4)) w5 w6 hy (len_par hpar rfl) rfl hsz hk hn E nf (K.pays (C.wrd w4) (C.wrd w3) C.2.2.2.2.2.2.2.2 hf hl) (Nat.le_refl _) (fun v h' q => by obtain ⟨rfl, q⟩ := q; exact g h' q)
theorem Cxt.u0V (C : Cxt p m meth c Z a0 EL own mn bytes ml ret Ws) {idx : Nat} {y : MethodName} {yb : ByteArray} {yl : Nat} {yr : Option FieldType} {rm : Room} {F' : List Addr} {cls : String} {a : Addr}  {Qc : Heap → Prop} {nwc : Bool} (d : Dec bytes pc (.invokespecial idx) 3 nx) (hn1 : y.name ≠ "<init>") (w1 : Jvm.Cond.methodLink own idx y ∈ Ws) (w2 : Jvm.Cond.instanceMethod y ∈ Ws) (w5 : Jvm.Cond.superclass own y.cls ∈ Ws) (nf : NotFace Z y) (w3 : Jvm.Cond.initialized y.cls ∈ Ws) (w4 : Jvm.Cond.code y yb yl yr ∈ Ws) (hy : y.cls ≠ "java/lang/invoke/MethodHandle" ∧ y.cls ≠ "java/lang/invoke/VarHandle") (hpar : (parseMethodDescriptor y.desc).map (fun sg => sg.parameters.length) = some 0) (hsz : Ls.size = ml) (hF : ∀ x ∈ F', x ∈ F ∨ (w ≤ x ∧ x < h.size)) (E : Exa Z h a cls)
    (K : Con l Z EL nwc y yb yl yr rm F' #[.ref a] h (rV Qc)) (hf : rm.frames + 1 ≤ R.frames) (hl : (st.map fun v => v.category).sum + (yl + 11) + rm.locals ≤ R.locals) (hk : k + rm.cells ≤ R.cells) (hn : n + rm.slots ≤ R.slots) (g : ∀ h', Qc h' → Goes p l e R s m args below meth c Z EL nw Q F (wm nwc w h') h' (k + rm.cells) (n + rm.slots) (mkF m nx Ls st)) (hnw : nw = true → nwc = true := by first | exact id | exact fun _ => rfl) : Goes p l e R s m args below meth c Z EL nw Q F w h k n (mkF m pc Ls (.ref a :: st)) :=
  C.super hnw hF (argsL := []) (rest := st) d w1 w2 w5 nf hn1 w4 hy (len_par hpar rfl) rfl hsz hk hn E (K.pays (C.wrd w4) (C.wrd w3) C.2.2.2.2.2.2.2.2 hf hl) (Nat.le_refl _) (fun v h' q => by obtain ⟨rfl, q⟩ := q; exact g h' q)
theorem Cxt.p0R (C : Cxt p m meth c Z a0 EL own mn bytes ml ret Ws) {idx : Nat} {y : MethodName} {yb : ByteArray} {yl : Nat} {yr : Option FieldType} {rm : Room} {F' : List Addr} {cls : String} {a : Addr}  {Qc : Value → Heap → Prop} {nwc : Bool} (d : Dec bytes pc (.invokevirtual idx) 3 nx) (w1 : Jvm.Cond.methodLink own idx y ∈ Ws) (w5 : Jvm.Cond.selects cls y y ∈ Ws) (w6 : Jvm.Cond.instanceMethod y ∈ Ws) (w3 : Jvm.Cond.initialized y.cls ∈ Ws) (w4 : Jvm.Cond.code y yb yl yr ∈ Ws) (hy : y.cls ≠ "java/lang/invoke/MethodHandle" ∧ y.cls ≠ "java/lang/invoke/VarHandle") (hpar : (parseMethodDescriptor y.desc).map (fun sg => sg.parameters.length) = some 0) (hsz : Ls.size = ml) (hF : ∀ x ∈ F', x ∈ F ∨ (w ≤ x ∧ x < h.size)) (E : Exa Z h a cls)
    (nf : ∀ vm0 : Vm, (Jvm.Cond.selects cls y y).before args (s.setVm vm0) = true → NotFace (s.setVm vm0) y)
    (K : Con l Z EL nwc y yb yl yr rm F' #[.ref a] h (rR Qc)) (hf : rm.frames + 1 ≤ R.frames) (hl : (st.map fun v => v.category).sum + (yl + 11) + rm.locals ≤ R.locals) (hk : k + rm.cells ≤ R.cells) (hn : n + rm.slots ≤ R.slots) (g : ∀ v h', Qc v h' → Goes p l e R s m args below meth c Z EL nw Q F (wm nwc w h') h' (k + rm.cells) (n + rm.slots) (mkF m nx Ls (v :: st))) (hnw : nw = true → nwc = true := by first | exact id | exact fun _ => rfl) : Goes p l e R s m args below meth c Z EL nw Q F w h k n (mkF m pc Ls (.ref a :: st)) :=
  C.virtual hnw hF (argsL := []) (rest := st) d w1 (declares_of (C.wrd w6) (C.wrd w4)) w5 w6 hy (len_par hpar rfl) rfl hsz hk hn E nf (K.pays (C.wrd w4) (C.wrd w3) C.2.2.2.2.2.2.2.2 hf hl) (Nat.le_refl _) (fun v h' q => by obtain ⟨v, rfl, q⟩ := q; exact g v h' q)
theorem Cxt.u0R (C : Cxt p m meth c Z a0 EL own mn bytes ml ret Ws) {idx : Nat} {y : MethodName} {yb : ByteArray} {yl : Nat} {yr : Option FieldType} {rm : Room} {F' : List Addr} {cls : String} {a : Addr}  {Qc : Value → Heap → Prop} {nwc : Bool} (d : Dec bytes pc (.invokespecial idx) 3 nx) (hn1 : y.name ≠ "<init>") (w1 : Jvm.Cond.methodLink own idx y ∈ Ws) (w2 : Jvm.Cond.instanceMethod y ∈ Ws) (w5 : Jvm.Cond.superclass own y.cls ∈ Ws) (nf : NotFace Z y) (w3 : Jvm.Cond.initialized y.cls ∈ Ws) (w4 : Jvm.Cond.code y yb yl yr ∈ Ws) (hy : y.cls ≠ "java/lang/invoke/MethodHandle" ∧ y.cls ≠ "java/lang/invoke/VarHandle") (hpar : (parseMethodDescriptor y.desc).map (fun sg => sg.parameters.length) = some 0) (hsz : Ls.size = ml) (hF : ∀ x ∈ F', x ∈ F ∨ (w ≤ x ∧ x < h.size)) (E : Exa Z h a cls)
    (K : Con l Z EL nwc y yb yl yr rm F' #[.ref a] h (rR Qc)) (hf : rm.frames + 1 ≤ R.frames) (hl : (st.map fun v => v.category).sum + (yl + 11) + rm.locals ≤ R.locals) (hk : k + rm.cells ≤ R.cells) (hn : n + rm.slots ≤ R.slots) (g : ∀ v h', Qc v h' → Goes p l e R s m args below meth c Z EL nw Q F (wm nwc w h') h' (k + rm.cells) (n + rm.slots) (mkF m nx Ls (v :: st))) (hnw : nw = true → nwc = true := by first | exact id | exact fun _ => rfl) : Goes p l e R s m args below meth c Z EL nw Q F w h k n (mkF m pc Ls (.ref a :: st)) :=
  C.super hnw hF (argsL := []) (rest := st) d w1 w2 w5 nf hn1 w4 hy (len_par hpar rfl) rfl hsz hk hn E (K.pays (C.wrd w4) (C.wrd w3) C.2.2.2.2.2.2.2.2 hf hl) (Nat.le_refl _) (fun v h' q => by obtain ⟨v, rfl, q⟩ := q; exact g v h' q)
theorem Cxt.p1V (C : Cxt p m meth c Z a0 EL own mn bytes ml ret Ws) {idx : Nat} {y : MethodName} {yb : ByteArray} {yl : Nat} {yr : Option FieldType} {rm : Room} {F' : List Addr} {cls : String} {a : Addr} {x1 : Value} {Qc : Heap → Prop} {nwc : Bool} (d : Dec bytes pc (.invokevirtual idx) 3 nx) (w1 : Jvm.Cond.methodLink own idx y ∈ Ws) (w5 : Jvm.Cond.selects cls y y ∈ Ws) (w6 : Jvm.Cond.instanceMethod y ∈ Ws) (w3 : Jvm.Cond.initialized y.cls ∈ Ws) (w4 : Jvm.Cond.code y yb yl yr ∈ Ws) (hy : y.cls ≠ "java/lang/invoke/MethodHandle" ∧ y.cls ≠ "java/lang/invoke/VarHandle") (hpar : (parseMethodDescriptor y.desc).map (fun sg => sg.parameters.length) = some 1) (hsz : Ls.size = ml) (hF : ∀ x ∈ F', x ∈ F ∨ (w ≤ x ∧ x < h.size)) (E : Exa Z h a cls)
    (nf : ∀ vm0 : Vm, (Jvm.Cond.selects cls y y).before args (s.setVm vm0) = true → NotFace (s.setVm vm0) y)
    (K : Con l Z EL nwc y yb yl yr rm F' #[.ref a, x1] h (rV Qc)) (hf : rm.frames + 1 ≤ R.frames) (hl : (st.map fun v => v.category).sum + (yl + 11) + rm.locals ≤ R.locals) (hk : k + rm.cells ≤ R.cells) (hn : n + rm.slots ≤ R.slots) (g : ∀ h', Qc h' → Goes p l e R s m args below meth c Z EL nw Q F (wm nwc w h') h' (k + rm.cells) (n + rm.slots) (mkF m nx Ls st)) (hnw : nw = true → nwc = true := by first | exact id | exact fun _ => rfl) : Goes p l e R s m args below meth c Z EL nw Q F w h k n (mkF m pc Ls (x1 :: .ref a :: st)) :=
  C.virtual hnw hF (argsL := [x1]) (rest := st) d w1 (declares_of (C.wrd w6) (C.wrd w4)) w5 w6 hy (len_par hpar rfl) rfl hsz hk hn E nf (K.pays (C.wrd w4) (C.wrd w3) C.2.2.2.2.2.2.2.2 hf hl) (Nat.le_refl _) (fun v h' q => by obtain ⟨rfl, q⟩ := q; exact g h' q)
theorem Cxt.u1V (C : Cxt p m meth c Z a0 EL own mn bytes ml ret Ws) {idx : Nat} {y : MethodName} {yb : ByteArray} {yl : Nat} {yr : Option FieldType} {rm : Room} {F' : List Addr} {cls : String} {a : Addr} {x1 : Value} {Qc : Heap → Prop} {nwc : Bool} (d : Dec bytes pc (.invokespecial idx) 3 nx) (hn1 : y.name ≠ "<init>") (w1 : Jvm.Cond.methodLink own idx y ∈ Ws) (w2 : Jvm.Cond.instanceMethod y ∈ Ws) (w5 : Jvm.Cond.superclass own y.cls ∈ Ws) (nf : NotFace Z y) (w3 : Jvm.Cond.initialized y.cls ∈ Ws) (w4 : Jvm.Cond.code y yb yl yr ∈ Ws) (hy : y.cls ≠ "java/lang/invoke/MethodHandle" ∧ y.cls ≠ "java/lang/invoke/VarHandle") (hpar : (parseMethodDescriptor y.desc).map (fun sg => sg.parameters.length) = some 1) (hsz : Ls.size = ml) (hF : ∀ x ∈ F', x ∈ F ∨ (w ≤ x ∧ x < h.size)) (E : Exa Z h a cls)
    (K : Con l Z EL nwc y yb yl yr rm F' #[.ref a, x1] h (rV Qc)) (hf : rm.frames + 1 ≤ R.frames) (hl : (st.map fun v => v.category).sum + (yl + 11) + rm.locals ≤ R.locals) (hk : k + rm.cells ≤ R.cells) (hn : n + rm.slots ≤ R.slots) (g : ∀ h', Qc h' → Goes p l e R s m args below meth c Z EL nw Q F (wm nwc w h') h' (k + rm.cells) (n + rm.slots) (mkF m nx Ls st)) (hnw : nw = true → nwc = true := by first | exact id | exact fun _ => rfl) : Goes p l e R s m args below meth c Z EL nw Q F w h k n (mkF m pc Ls (x1 :: .ref a :: st)) :=
  C.super hnw hF (argsL := [x1]) (rest := st) d w1 w2 w5 nf hn1 w4 hy (len_par hpar rfl) rfl hsz hk hn E (K.pays (C.wrd w4) (C.wrd w3) C.2.2.2.2.2.2.2.2 hf hl) (Nat.le_refl _) (fun v h' q => by obtain ⟨rfl, q⟩ := q; exact g h' q)
theorem Cxt.p1R (C : Cxt p m meth c Z a0 EL own mn bytes ml ret Ws) {idx : Nat} {y : MethodName} {yb : ByteArray} {yl : Nat} {yr : Option FieldType} {rm : Room} {F' : List Addr} {cls : String} {a : Addr} {x1 : Value} {Qc : Value → Heap → Prop} {nwc : Bool} (d : Dec bytes pc (.invokevirtual idx) 3 nx) (w1 : Jvm.Cond.methodLink own idx y ∈ Ws) (w5 : Jvm.Cond.selects cls y y ∈ Ws) (w6 : Jvm.Cond.instanceMethod y ∈ Ws) (w3 : Jvm.Cond.initialized y.cls ∈ Ws) (w4 : Jvm.Cond.code y yb yl yr ∈ Ws) (hy : y.cls ≠ "java/lang/invoke/MethodHandle" ∧ y.cls ≠ "java/lang/invoke/VarHandle") (hpar : (parseMethodDescriptor y.desc).map (fun sg => sg.parameters.length) = some 1) (hsz : Ls.size = ml) (hF : ∀ x ∈ F', x ∈ F ∨ (w ≤ x ∧ x < h.size)) (E : Exa Z h a cls)
    (nf : ∀ vm0 : Vm, (Jvm.Cond.selects cls y y).before args (s.setVm vm0) = true → NotFace (s.setVm vm0) y)
    (K : Con l Z EL nwc y yb yl yr rm F' #[.ref a, x1] h (rR Qc)) (hf : rm.frames + 1 ≤ R.frames) (hl : (st.map fun v => v.category).sum + (yl + 11) + rm.locals ≤ R.locals) (hk : k + rm.cells ≤ R.cells) (hn : n + rm.slots ≤ R.slots) (g : ∀ v h', Qc v h' → Goes p l e R s m args below meth c Z EL nw Q F (wm nwc w h') h' (k + rm.cells) (n + rm.slots) (mkF m nx Ls (v :: st))) (hnw : nw = true → nwc = true := by first | exact id | exact fun _ => rfl) : Goes p l e R s m args below meth c Z EL nw Q F w h k n (mkF m pc Ls (x1 :: .ref a :: st)) :=
  C.virtual hnw hF (argsL := [x1]) (rest := st) d w1 (declares_of (C.wrd w6) (C.wrd w4)) w5 w6 hy (len_par hpar rfl) rfl hsz hk hn E nf (K.pays (C.wrd w4) (C.wrd w3) C.2.2.2.2.2.2.2.2 hf hl) (Nat.le_refl _) (fun v h' q => by obtain ⟨v, rfl, q⟩ := q; exact g v h' q)
theorem Cxt.u1R (C : Cxt p m meth c Z a0 EL own mn bytes ml ret Ws) {idx : Nat} {y : MethodName} {yb : ByteArray} {yl : Nat} {yr : Option FieldType} {rm : Room} {F' : List Addr} {cls : String} {a : Addr} {x1 : Value} {Qc : Value → Heap → Prop} {nwc : Bool} (d : Dec bytes pc (.invokespecial idx) 3 nx) (hn1 : y.name ≠ "<init>") (w1 : Jvm.Cond.methodLink own idx y ∈ Ws) (w2 : Jvm.Cond.instanceMethod y ∈ Ws) (w5 : Jvm.Cond.superclass own y.cls ∈ Ws) (nf : NotFace Z y) (w3 : Jvm.Cond.initialized y.cls ∈ Ws) (w4 : Jvm.Cond.code y yb yl yr ∈ Ws) (hy : y.cls ≠ "java/lang/invoke/MethodHandle" ∧ y.cls ≠ "java/lang/invoke/VarHandle") (hpar : (parseMethodDescriptor y.desc).map (fun sg => sg.parameters.length) = some 1) (hsz : Ls.size = ml) (hF : ∀ x ∈ F', x ∈ F ∨ (w ≤ x ∧ x < h.size)) (E : Exa Z h a cls)
    (K : Con l Z EL nwc y yb yl yr rm F' #[.ref a, x1] h (rR Qc)) (hf : rm.frames + 1 ≤ R.frames) (hl : (st.map fun v => v.category).sum + (yl + 11) + rm.locals ≤ R.locals) (hk : k + rm.cells ≤ R.cells) (hn : n + rm.slots ≤ R.slots) (g : ∀ v h', Qc v h' → Goes p l e R s m args below meth c Z EL nw Q F (wm nwc w h') h' (k + rm.cells) (n + rm.slots) (mkF m nx Ls (v :: st))) (hnw : nw = true → nwc = true := by first | exact id | exact fun _ => rfl) : Goes p l e R s m args below meth c Z EL nw Q F w h k n (mkF m pc Ls (x1 :: .ref a :: st)) :=
  C.super hnw hF (argsL := [x1]) (rest := st) d w1 w2 w5 nf hn1 w4 hy (len_par hpar rfl) rfl hsz hk hn E (K.pays (C.wrd w4) (C.wrd w3) C.2.2.2.2.2.2.2.2 hf hl) (Nat.le_refl _) (fun v h' q => by obtain ⟨v, rfl, q⟩ := q; exact g v h' q)
theorem Cxt.p2V (C : Cxt p m meth c Z a0 EL own mn bytes ml ret Ws) {idx : Nat} {y : MethodName} {yb : ByteArray} {yl : Nat} {yr : Option FieldType} {rm : Room} {F' : List Addr} {cls : String} {a : Addr} {x1 x2 : Value} {Qc : Heap → Prop} {nwc : Bool} (d : Dec bytes pc (.invokevirtual idx) 3 nx) (w1 : Jvm.Cond.methodLink own idx y ∈ Ws) (w5 : Jvm.Cond.selects cls y y ∈ Ws) (w6 : Jvm.Cond.instanceMethod y ∈ Ws) (w3 : Jvm.Cond.initialized y.cls ∈ Ws) (w4 : Jvm.Cond.code y yb yl yr ∈ Ws) (hy : y.cls ≠ "java/lang/invoke/MethodHandle" ∧ y.cls ≠ "java/lang/invoke/VarHandle") (hpar : (parseMethodDescriptor y.desc).map (fun sg => sg.parameters.length) = some 2) (hsz : Ls.size = ml) (hF : ∀ x ∈ F', x ∈ F ∨ (w ≤ x ∧ x < h.size)) (E : Exa Z h a cls)
    (nf : ∀ vm0 : Vm, (Jvm.Cond.selects cls y y).before args (s.setVm vm0) = true → NotFace (s.setVm vm0) y)
    (K : Con l Z EL nwc y yb yl yr rm F' #[.ref a, x1, x2] h (rV Qc)) (hf : rm.frames + 1 ≤ R.frames) (hl : (st.map fun v => v.category).sum + (yl + 11) + rm.locals ≤ R.locals) (hk : k + rm.cells ≤ R.cells) (hn : n + rm.slots ≤ R.slots) (g : ∀ h', Qc h' → Goes p l e R s m args below meth c Z EL nw Q F (wm nwc w h') h' (k + rm.cells) (n + rm.slots) (mkF m nx Ls st)) (hnw : nw = true → nwc = true := by first | exact id | exact fun _ => rfl) : Goes p l e R s m args below meth c Z EL nw Q F w h k n (mkF m pc Ls (x2 :: x1 :: .ref a :: st)) :=
  C.virtual hnw hF (argsL := [x1, x2]) (rest := st) d w1 (declares_of (C.wrd w6) (C.wrd w4)) w5 w6 hy (len_par hpar rfl) rfl hsz hk hn E nf (K.pays (C.wrd w4) (C.wrd w3) C.2.2.2.2.2.2.2.2 hf hl) (Nat.le_refl _) (fun v h' q => by obtain ⟨rfl, q⟩ := q; exact g h' q)
theorem Cxt.u2V (C : Cxt p m meth c Z a0 EL own mn bytes ml ret Ws) {idx : Nat} {y : MethodName} {yb : ByteArray} {yl : Nat} {yr : Option FieldType} {rm : Room} {F' : List Addr} {cls : String} {a : Addr} {x1 x2 : Value} {Qc : Heap → Prop} {nwc : Bool} (d : Dec bytes pc (.invokespecial idx) 3 nx) (hn1 : y.name ≠ "<init>") (w1 : Jvm.Cond.methodLink own idx y ∈ Ws) (w2 : Jvm.Cond.instanceMethod y ∈ Ws) (w5 : Jvm.Cond.superclass own y.cls ∈ Ws) (nf : NotFace Z y) (w3 : Jvm.Cond.initialized y.cls ∈ Ws) (w4 : Jvm.Cond.code y yb yl yr ∈ Ws) (hy : y.cls ≠ "java/lang/invoke/MethodHandle" ∧ y.cls ≠ "java/lang/invoke/VarHandle") (hpar : (parseMethodDescriptor y.desc).map (fun sg => sg.parameters.length) = some 2) (hsz : Ls.size = ml) (hF : ∀ x ∈ F', x ∈ F ∨ (w ≤ x ∧ x < h.size)) (E : Exa Z h a cls)
    (K : Con l Z EL nwc y yb yl yr rm F' #[.ref a, x1, x2] h (rV Qc)) (hf : rm.frames + 1 ≤ R.frames) (hl : (st.map fun v => v.category).sum + (yl + 11) + rm.locals ≤ R.locals) (hk : k + rm.cells ≤ R.cells) (hn : n + rm.slots ≤ R.slots) (g : ∀ h', Qc h' → Goes p l e R s m args below meth c Z EL nw Q F (wm nwc w h') h' (k + rm.cells) (n + rm.slots) (mkF m nx Ls st)) (hnw : nw = true → nwc = true := by first | exact id | exact fun _ => rfl) : Goes p l e R s m args below meth c Z EL nw Q F w h k n (mkF m pc Ls (x2 :: x1 :: .ref a :: st)) :=
  C.super hnw hF (argsL := [x1, x2]) (rest := st) d w1 w2 w5 nf hn1 w4 hy (len_par hpar rfl) rfl hsz hk hn E (K.pays (C.wrd w4) (C.wrd w3) C.2.2.2.2.2.2.2.2 hf hl) (Nat.le_refl _) (fun v h' q => by obtain ⟨rfl, q⟩ := q; exact g h' q)
theorem Cxt.p2R (C : Cxt p m meth c Z a0 EL own mn bytes ml ret Ws) {idx : Nat} {y : MethodName} {yb : ByteArray} {yl : Nat} {yr : Option FieldType} {rm : Room} {F' : List Addr} {cls : String} {a : Addr} {x1 x2 : Value} {Qc : Value → Heap → Prop} {nwc : Bool} (d : Dec bytes pc (.invokevirtual idx) 3 nx) (w1 : Jvm.Cond.methodLink own idx y ∈ Ws) (w5 : Jvm.Cond.selects cls y y ∈ Ws) (w6 : Jvm.Cond.instanceMethod y ∈ Ws) (w3 : Jvm.Cond.initialized y.cls ∈ Ws) (w4 : Jvm.Cond.code y yb yl yr ∈ Ws) (hy : y.cls ≠ "java/lang/invoke/MethodHandle" ∧ y.cls ≠ "java/lang/invoke/VarHandle") (hpar : (parseMethodDescriptor y.desc).map (fun sg => sg.parameters.length) = some 2) (hsz : Ls.size = ml) (hF : ∀ x ∈ F', x ∈ F ∨ (w ≤ x ∧ x < h.size)) (E : Exa Z h a cls)
    (nf : ∀ vm0 : Vm, (Jvm.Cond.selects cls y y).before args (s.setVm vm0) = true → NotFace (s.setVm vm0) y)
    (K : Con l Z EL nwc y yb yl yr rm F' #[.ref a, x1, x2] h (rR Qc)) (hf : rm.frames + 1 ≤ R.frames) (hl : (st.map fun v => v.category).sum + (yl + 11) + rm.locals ≤ R.locals) (hk : k + rm.cells ≤ R.cells) (hn : n + rm.slots ≤ R.slots) (g : ∀ v h', Qc v h' → Goes p l e R s m args below meth c Z EL nw Q F (wm nwc w h') h' (k + rm.cells) (n + rm.slots) (mkF m nx Ls (v :: st))) (hnw : nw = true → nwc = true := by first | exact id | exact fun _ => rfl) : Goes p l e R s m args below meth c Z EL nw Q F w h k n (mkF m pc Ls (x2 :: x1 :: .ref a :: st)) :=
  C.virtual hnw hF (argsL := [x1, x2]) (rest := st) d w1 (declares_of (C.wrd w6) (C.wrd w4)) w5 w6 hy (len_par hpar rfl) rfl hsz hk hn E nf (K.pays (C.wrd w4) (C.wrd w3) C.2.2.2.2.2.2.2.2 hf hl) (Nat.le_refl _) (fun v h' q => by obtain ⟨v, rfl, q⟩ := q; exact g v h' q)
theorem Cxt.u2R (C : Cxt p m meth c Z a0 EL own mn bytes ml ret Ws) {idx : Nat} {y : MethodName} {yb : ByteArray} {yl : Nat} {yr : Option FieldType} {rm : Room} {F' : List Addr} {cls : String} {a : Addr} {x1 x2 : Value} {Qc : Value → Heap → Prop} {nwc : Bool} (d : Dec bytes pc (.invokespecial idx) 3 nx) (hn1 : y.name ≠ "<init>") (w1 : Jvm.Cond.methodLink own idx y ∈ Ws) (w2 : Jvm.Cond.instanceMethod y ∈ Ws) (w5 : Jvm.Cond.superclass own y.cls ∈ Ws) (nf : NotFace Z y) (w3 : Jvm.Cond.initialized y.cls ∈ Ws) (w4 : Jvm.Cond.code y yb yl yr ∈ Ws) (hy : y.cls ≠ "java/lang/invoke/MethodHandle" ∧ y.cls ≠ "java/lang/invoke/VarHandle") (hpar : (parseMethodDescriptor y.desc).map (fun sg => sg.parameters.length) = some 2) (hsz : Ls.size = ml) (hF : ∀ x ∈ F', x ∈ F ∨ (w ≤ x ∧ x < h.size)) (E : Exa Z h a cls)
    (K : Con l Z EL nwc y yb yl yr rm F' #[.ref a, x1, x2] h (rR Qc)) (hf : rm.frames + 1 ≤ R.frames) (hl : (st.map fun v => v.category).sum + (yl + 11) + rm.locals ≤ R.locals) (hk : k + rm.cells ≤ R.cells) (hn : n + rm.slots ≤ R.slots) (g : ∀ v h', Qc v h' → Goes p l e R s m args below meth c Z EL nw Q F (wm nwc w h') h' (k + rm.cells) (n + rm.slots) (mkF m nx Ls (v :: st))) (hnw : nw = true → nwc = true := by first | exact id | exact fun _ => rfl) : Goes p l e R s m args below meth c Z EL nw Q F w h k n (mkF m pc Ls (x2 :: x1 :: .ref a :: st)) :=
  C.super hnw hF (argsL := [x1, x2]) (rest := st) d w1 w2 w5 nf hn1 w4 hy (len_par hpar rfl) rfl hsz hk hn E (K.pays (C.wrd w4) (C.wrd w3) C.2.2.2.2.2.2.2.2 hf hl) (Nat.le_refl _) (fun v h' q => by obtain ⟨v, rfl, q⟩ := q; exact g v h' q)
theorem Cxt.p3V (C : Cxt p m meth c Z a0 EL own mn bytes ml ret Ws) {idx : Nat} {y : MethodName} {yb : ByteArray} {yl : Nat} {yr : Option FieldType} {rm : Room} {F' : List Addr} {cls : String} {a : Addr} {x1 x2 x3 : Value} {Qc : Heap → Prop} {nwc : Bool} (d : Dec bytes pc (.invokevirtual idx) 3 nx) (w1 : Jvm.Cond.methodLink own idx y ∈ Ws) (w5 : Jvm.Cond.selects cls y y ∈ Ws) (w6 : Jvm.Cond.instanceMethod y ∈ Ws) (w3 : Jvm.Cond.initialized y.cls ∈ Ws) (w4 : Jvm.Cond.code y yb yl yr ∈ Ws) (hy : y.cls ≠ "java/lang/invoke/MethodHandle" ∧ y.cls ≠ "java/lang/invoke/VarHandle") (hpar : (parseMethodDescriptor y.desc).map (fun sg => sg.parameters.length) = some 3) (hsz : Ls.size = ml) (hF : ∀ x ∈ F', x ∈ F ∨ (w ≤ x ∧ x < h.size)) (E : Exa Z h a cls)
    (nf : ∀ vm0 : Vm, (Jvm.Cond.selects cls y y).before args (s.setVm vm0) = true → NotFace (s.setVm vm0) y)
    (K : Con l Z EL nwc y yb yl yr rm F' #[.ref a, x1, x2, x3] h (rV Qc)) (hf : rm.frames + 1 ≤ R.frames) (hl : (st.map fun v => v.category).sum + (yl + 11) + rm.locals ≤ R.locals) (hk : k + rm.cells ≤ R.cells) (hn : n + rm.slots ≤ R.slots) (g : ∀ h', Qc h' → Goes p l e R s m args below meth c Z EL nw Q F (wm nwc w h') h' (k + rm.cells) (n + rm.slots) (mkF m nx Ls st)) (hnw : nw = true → nwc = true := by first | exact id | exact fun _ => rfl) : Goes p l e R s m args below meth c Z EL nw Q F w h k n (mkF m pc Ls (x3 :: x2 :: x1 :: .ref a :: st)) :=
  C.virtual hnw hF (argsL := [x1, x2, x3]) (rest := st) d w1 (declares_of (C.wrd w6) (C.wrd w4)) w5 w6 hy (len_par hpar rfl) rfl hsz hk hn E nf (K.pays (C.wrd w4) (C.wrd w3) C.2.2.2.2.2.2.2.2 hf hl) (Nat.le_refl _) (fun v h' q => by obtain ⟨rfl, q⟩ := q; exact g h' q)
theorem Cxt.u3V (C : Cxt p m meth c Z a0 EL own mn bytes ml ret Ws) {idx : Nat} {y : MethodName} {yb : ByteArray} {yl : Nat} {yr : Option FieldType} {rm : Room} {F' : List Addr} {cls : String} {a : Addr} {x1 x2 x3 : Value} {Qc : Heap → Prop} {nwc : Bool} (d : Dec bytes pc (.invokespecial idx) 3 nx) (hn1 : y.name ≠ "<init>") (w1 : Jvm.Cond.methodLink own idx y ∈ Ws) (w2 : Jvm.Cond.instanceMethod y ∈ Ws) (w5 : Jvm.Cond.superclass own y.cls ∈ Ws) (nf : NotFace Z y) (w3 : Jvm.Cond.initialized y.cls ∈ Ws) (w4 : Jvm.Cond.code y yb yl yr ∈ Ws) (hy : y.cls ≠ "java/lang/invoke/MethodHandle" ∧ y.cls ≠ "java/lang/invoke/VarHandle") (hpar : (parseMethodDescriptor y.desc).map (fun sg => sg.parameters.length) = some 3) (hsz : Ls.size = ml) (hF : ∀ x ∈ F', x ∈ F ∨ (w ≤ x ∧ x < h.size)) (E : Exa Z h a cls)
    (K : Con l Z EL nwc y yb yl yr rm F' #[.ref a, x1, x2, x3] h (rV Qc)) (hf : rm.frames + 1 ≤ R.frames) (hl : (st.map fun v => v.category).sum + (yl + 11) + rm.locals ≤ R.locals) (hk : k + rm.cells ≤ R.cells) (hn : n + rm.slots ≤ R.slots) (g : ∀ h', Qc h' → Goes p l e R s m args below meth c Z EL nw Q F (wm nwc w h') h' (k + rm.cells) (n + rm.slots) (mkF m nx Ls st)) (hnw : nw = true → nwc = true := by first | exact id | exact fun _ => rfl) : Goes p l e R s m args below meth c Z EL nw Q F w h k n (mkF m pc Ls (x3 :: x2 :: x1 :: .ref a :: st)) :=
  C.super hnw hF (argsL := [x1, x2, x3]) (rest := st) d w1 w2 w5 nf hn1 w4 hy (len_par hpar rfl) rfl hsz hk hn E (K.pays (C.wrd w4) (C.wrd w3) C.2.2.2.2.2.2.2.2 hf hl) (Nat.le_refl _) (fun v h' q => by obtain ⟨rfl, q⟩ := q; exact g h' q)
theorem Cxt.p3R (C : Cxt p m meth c Z a0 EL own mn bytes ml ret Ws) {idx : Nat} {y : MethodName} {yb : ByteArray} {yl : Nat} {yr : Option FieldType} {rm : Room} {F' : List Addr} {cls : String} {a : Addr} {x1 x2 x3 : Value} {Qc : Value → Heap → Prop} {nwc : Bool} (d : Dec bytes pc (.invokevirtual idx) 3 nx) (w1 : Jvm.Cond.methodLink own idx y ∈ Ws) (w5 : Jvm.Cond.selects cls y y ∈ Ws) (w6 : Jvm.Cond.instanceMethod y ∈ Ws) (w3 : Jvm.Cond.initialized y.cls ∈ Ws) (w4 : Jvm.Cond.code y yb yl yr ∈ Ws) (hy : y.cls ≠ "java/lang/invoke/MethodHandle" ∧ y.cls ≠ "java/lang/invoke/VarHandle") (hpar : (parseMethodDescriptor y.desc).map (fun sg => sg.parameters.length) = some 3) (hsz : Ls.size = ml) (hF : ∀ x ∈ F', x ∈ F ∨ (w ≤ x ∧ x < h.size)) (E : Exa Z h a cls)
    (nf : ∀ vm0 : Vm, (Jvm.Cond.selects cls y y).before args (s.setVm vm0) = true → NotFace (s.setVm vm0) y)
    (K : Con l Z EL nwc y yb yl yr rm F' #[.ref a, x1, x2, x3] h (rR Qc)) (hf : rm.frames + 1 ≤ R.frames) (hl : (st.map fun v => v.category).sum + (yl + 11) + rm.locals ≤ R.locals) (hk : k + rm.cells ≤ R.cells) (hn : n + rm.slots ≤ R.slots) (g : ∀ v h', Qc v h' → Goes p l e R s m args below meth c Z EL nw Q F (wm nwc w h') h' (k + rm.cells) (n + rm.slots) (mkF m nx Ls (v :: st))) (hnw : nw = true → nwc = true := by first | exact id | exact fun _ => rfl) : Goes p l e R s m args below meth c Z EL nw Q F w h k n (mkF m pc Ls (x3 :: x2 :: x1 :: .ref a :: st)) :=
  C.virtual hnw hF (argsL := [x1, x2, x3]) (rest := st) d w1 (declares_of (C.wrd w6) (C.wrd w4)) w5 w6 hy (len_par hpar rfl) rfl hsz hk hn E nf (K.pays (C.wrd w4) (C.wrd w3) C.2.2.2.2.2.2.2.2 hf hl) (Nat.le_refl _) (fun v h' q => by obtain ⟨v, rfl, q⟩ := q; exact g v h' q)
theorem Cxt.u3R (C : Cxt p m meth c Z a0 EL own mn bytes ml ret Ws) {idx : Nat} {y : MethodName} {yb : ByteArray} {yl : Nat} {yr : Option FieldType} {rm : Room} {F' : List Addr} {cls : String} {a : Addr} {x1 x2 x3 : Value} {Qc : Value → Heap → Prop} {nwc : Bool} (d : Dec bytes pc (.invokespecial idx) 3 nx) (hn1 : y.name ≠ "<init>") (w1 : Jvm.Cond.methodLink own idx y ∈ Ws) (w2 : Jvm.Cond.instanceMethod y ∈ Ws) (w5 : Jvm.Cond.superclass own y.cls ∈ Ws) (nf : NotFace Z y) (w3 : Jvm.Cond.initialized y.cls ∈ Ws) (w4 : Jvm.Cond.code y yb yl yr ∈ Ws) (hy : y.cls ≠ "java/lang/invoke/MethodHandle" ∧ y.cls ≠ "java/lang/invoke/VarHandle") (hpar : (parseMethodDescriptor y.desc).map (fun sg => sg.parameters.length) = some 3) (hsz : Ls.size = ml) (hF : ∀ x ∈ F', x ∈ F ∨ (w ≤ x ∧ x < h.size)) (E : Exa Z h a cls)
    (K : Con l Z EL nwc y yb yl yr rm F' #[.ref a, x1, x2, x3] h (rR Qc)) (hf : rm.frames + 1 ≤ R.frames) (hl : (st.map fun v => v.category).sum + (yl + 11) + rm.locals ≤ R.locals) (hk : k + rm.cells ≤ R.cells) (hn : n + rm.slots ≤ R.slots) (g : ∀ v h', Qc v h' → Goes p l e R s m args below meth c Z EL nw Q F (wm nwc w h') h' (k + rm.cells) (n + rm.slots) (mkF m nx Ls (v :: st))) (hnw : nw = true → nwc = true := by first | exact id | exact fun _ => rfl) : Goes p l e R s m args below meth c Z EL nw Q F w h k n (mkF m pc Ls (x3 :: x2 :: x1 :: .ref a :: st)) :=
  C.super hnw hF (argsL := [x1, x2, x3]) (rest := st) d w1 w2 w5 nf hn1 w4 hy (len_par hpar rfl) rfl hsz hk hn E (K.pays (C.wrd w4) (C.wrd w3) C.2.2.2.2.2.2.2.2 hf hl) (Nat.le_refl _) (fun v h' q => by obtain ⟨v, rfl, q⟩ := q; exact g v h' q)
theorem Cxt.ldcInt (C : Cxt p m meth c Z a0 EL own mn bytes ml ret Ws) {idx : Nat} {v : Int32} (d : Dec bytes pc (.ldc idx) 2 nx) (ww : Jvm.Cond.constant own idx v ∈ Ws) (g : Goes p l e R s m args below meth c Z EL nw Q F w h k n (mkF m nx Ls (.int v :: st))) : Goes p l e R s m args below meth c Z EL nw Q F w h k n (mkF m pc Ls st) := by
  obtain ⟨d1, rfl⟩ := d
  intro T vm0 locs k0 H
  obtain ⟨t, v', L, h1, r⟩ := g T vm0 locs k0 H
  exact ⟨t, v', L, H.1.ldcInt C.1 (C.own_at H.2.2.2.2.2.1) (mv H.2.2.2.2.2.1 (C.wrd ww)) (g := mkF m pc Ls st) rfl (hb C.2.1 d1) _ h1, r⟩
theorem Cxt.ldc2Long (C : Cxt p m meth c Z a0 EL own mn bytes ml ret Ws) {idx : Nat} {v : Int64} (d : Dec bytes pc (.ldc2_w idx) 3 nx) (ww : Jvm.Cond.constantLong own idx v ∈ Ws) (g : Goes p l e R s m args below meth c Z EL nw Q F w h k n (mkF m nx Ls (.long v :: st))) : Goes p l e R s m args below meth c Z EL nw Q F w h k n (mkF m pc Ls st) := by
  obtain ⟨d1, rfl⟩ := d
  intro T vm0 locs k0 H
  obtain ⟨t, v', L, h1, r⟩ := g T vm0 locs k0 H
  exact ⟨t, v', L, H.1.ldc2Long C.1 (C.own_at H.2.2.2.2.2.1) (mv H.2.2.2.2.2.1 (C.wrd ww)) (g := mkF m pc Ls st) rfl (hb C.2.1 d1) _ h1, r⟩
theorem Cxt.checkcast (C : Cxt p m meth c Z a0 EL own mn bytes ml ret Ws) {idx : Nat} {K : String} {a : Addr} (d : Dec bytes pc (.checkcast idx) 3 nx) (ww : Jvm.Cond.classLink own idx K ∈ Ws) (I : Ins Z h a K true) (g : Goes p l e R s m args below meth c Z EL nw Q F w h k n (mkF m nx Ls (.ref a :: st))) : Goes p l e R s m args below meth c Z EL nw Q F w h k n (mkF m pc Ls (.ref a :: st)) := by
  obtain ⟨d1, rfl⟩ := d
  intro T vm0 locs k0 H
  obtain ⟨T', X', e', st'⟩ := castY H.1 C.1 H.2.2.2.2.2.1 (C.own_at H.2.2.2.2.2.1) (C.wrd ww) H.2.1 I (g := mkF m pc Ls (.ref a :: st)) rfl rfl (hb C.2.1 d1)
  obtain ⟨t, v, L, h1, r⟩ := g T' vm0 locs k0 (H.step X' e' H.2.2.1 (Keep.refl _ []) (fun x hx => nomatch hx))
  exact ⟨t, v, L, st' _ h1, r⟩
theorem Cxt.checkcastNull (C : Cxt p m meth c Z a0 EL own mn bytes ml ret Ws) {idx : Nat} (d : Dec bytes pc (.checkcast idx) 3 nx) (g : Goes p l e R s m args below meth c Z EL nw Q F w h k n (mkF m nx Ls (.null :: st))) : Goes p l e R s m args below meth c Z EL nw Q F w h k n (mkF m pc Ls (.null :: st)) := by
  obtain ⟨d1, rfl⟩ := d
  intro T vm0 locs k0 H
  obtain ⟨t, v', L, h1, r⟩ := g T vm0 locs k0 H
  exact ⟨t, v', L, H.1.checkcastNull C.1 (g := mkF m pc Ls (.null :: st)) rfl rfl (hb C.2.1 d1) _ h1, r⟩
theorem Cxt.instY (C : Cxt p m meth c Z a0 EL own mn bytes ml ret Ws) {idx : Nat} {K : String} {a : Addr} (d : Dec bytes pc (.instanceof idx) 3 nx) (ww : Jvm.Cond.classLink own idx K ∈ Ws) (I : Ins Z h a K true) (g : Goes p l e R s m args below meth c Z EL nw Q F w h k n (mkF m nx Ls (.int 1 :: st))) : Goes p l e R s m args below meth c Z EL nw Q F w h k n (mkF m pc Ls (.ref a :: st)) := by
  obtain ⟨d1, rfl⟩ := d
  intro T vm0 locs k0 H
  obtain ⟨T', X', e', st'⟩ := instY H.1 C.1 H.2.2.2.2.2.1 (C.own_at H.2.2.2.2.2.1) (C.wrd ww) H.2.1 I (g := mkF m pc Ls (.ref a :: st)) rfl rfl (hb C.2.1 d1)
  obtain ⟨t, v, L, h1, r⟩ := g T' vm0 locs k0 (H.step X' e' H.2.2.1 (Keep.refl _ []) (fun x hx => nomatch hx))
  exact ⟨t, v, L, st' _ h1, r⟩
theorem Cxt.instN (C : Cxt p m meth c Z a0 EL own mn bytes ml ret Ws) {idx : Nat} {K cls : String} {a : Addr} (d : Dec bytes pc (.instanceof idx) 3 nx) (ww : Jvm.Cond.classLink own idx K ∈ Ws) (I : Ins Z s.heap a K false) (E : Exa Z s.heap a cls) (g : Goes p l e R s m args below meth c Z EL nw Q F w h k n (mkF m nx Ls (.int 0 :: st))) : Goes p l e R s m args below meth c Z EL nw Q F w h k n (mkF m pc Ls (.ref a :: st)) := by
  obtain ⟨d1, rfl⟩ := d
  intro T vm0 locs k0 H
  obtain ⟨T', X', e', st'⟩ := instN (s := s.setVm vm0) H.1 C.1 H.2.2.2.2.2.1 (C.own_at H.2.2.2.2.2.1) (C.wrd ww) H.2.1 I E (g := mkF m pc Ls (.ref a :: st)) rfl rfl (hb C.2.1 d1)
  obtain ⟨t, v, L, h1, r⟩ := g T' vm0 locs k0 (H.step X' e' H.2.2.1 (Keep.refl _ []) (fun x hx => nomatch hx))
  exact ⟨t, v, L, st' _ h1, r⟩
theorem Cxt.instNo (C : Cxt p m meth c Z a0 EL own mn bytes ml ret Ws) {idx : Nat} {K cls : String} {a : Addr} (d : Dec bytes pc (.instanceof idx) 3 nx) (ww : Jvm.Cond.classLink own idx K ∈ Ws) (E : Exa Z h a cls) (I : ∃ c t, Z.vm.findClass cls = some c ∧ Z.vm.findClass K = some t ∧ Z.vm.assignable c t = false) (g : Goes p l e R s m args below meth c Z EL nw Q F w h k n (mkF m nx Ls (.int 0 :: st))) : Goes p l e R s m args below meth c Z EL nw Q F w h k n (mkF m pc Ls (.ref a :: st)) := by
  obtain ⟨d1, rfl⟩ := d
  intro T vm0 locs k0 H
  obtain ⟨T', X', e', st'⟩ := instNo H.1 C.1 H.2.2.2.2.2.1 (C.own_at H.2.2.2.2.2.1) (C.wrd ww) H.2.1 E I (g := mkF m pc Ls (.ref a :: st)) rfl rfl (hb C.2.1 d1)
  obtain ⟨t, v, L, h1, r⟩ := g T' vm0 locs k0 (H.step X' e' H.2.2.1 (Keep.refl _ []) (fun x hx => nomatch hx))
  exact ⟨t, v, L, st' _ h1, r⟩
theorem Cxt.instNull (C : Cxt p m meth c Z a0 EL own mn bytes ml ret Ws) {idx : Nat} (d : Dec bytes pc (.instanceof idx) 3 nx) (g : Goes p l e R s m args below meth c Z EL nw Q F w h k n (mkF m nx Ls (.int 0 :: st))) : Goes p l e R s m args below meth c Z EL nw Q F w h k n (mkF m pc Ls (.null :: st)) := by
  obtain ⟨d1, rfl⟩ := d
  intro T vm0 locs k0 H
  obtain ⟨t, v', L, h1, r⟩ := g T vm0 locs k0 H
  exact ⟨t, v', L, H.1.instanceofNull C.1 (g := mkF m pc Ls (.null :: st)) rfl rfl (hb C.2.1 d1) _ h1, r⟩
/-- a String constant, its text unread -/
theorem Cxt.ldcO (C : Cxt p m meth c Z a0 EL own mn bytes ml ret Ws) {idx : Nat} {text : String} (q : Nat) (d : Dec bytes pc (.ldc idx) 2 nx) (hnw : nw = false) (ww : Jvm.Cond.stringLink own idx text ∈ Ws) (wS : ∀ a ∈ Bundle.stringAtoms, a.before a0 Z = true) (hq : 4 * text.toList.length ≤ q) (hq2 : q ≤ 536870912) (hk : k + 2 ≤ R.cells) (hn : n + (q + 4) ≤ R.slots)
    (g : ∀ h' a, Ext h h' → Goes p l e R s m args below meth c Z EL nw Q F h'.size h' (k + 2) (n + (q + 4)) (mkF m nx Ls (.ref a :: st))) : Goes p l e R s m args below meth c Z EL nw Q F w h k n (mkF m pc Ls st) := by
  obtain ⟨d1, rfl⟩ := d
  intro T vm0 locs k0 H
  obtain ⟨X, eT, N, S, hk0, hZ, H1, hw, hF, O, hwm, hbk⟩ := id H
  obtain ⟨a, T', h', k1, X', e', E, S', hk1, hW, hf, hC, hL, st'⟩ := ldcOH X C.1 hZ (C.own_at (s := s) hZ) (C.wrd ww) wS eT S hk0 C.2.2.2.2.2.2.2.2 H1.1 (g := mkF m pc Ls st) rfl (hb C.2.1 d1) hq hq2 hk hn
  obtain ⟨t, v, L, h1, r⟩ := g h' a E T' T'.vm locs k1 ⟨X', e', N, S', hk1, hW, H1.trans hC, fun q => (by rw [hnw] at q; cases q), fun x hx => ⟨Nat.lt_of_lt_of_le (hF x hx).1 E.1, hC.safe (hF x hx).1 (hF x hx).2⟩, ext_trans O E, fun x hx => Safe.new hx, fun q => (by rw [hnw] at q; cases q)⟩
  exact ⟨t, v, L, st' _ h1, r⟩
/-- a String constant of EL, its text read -/
theorem Cxt.ldcS (C : Cxt p m meth c Z a0 EL own mn bytes ml ret Ws) {idx : Nat} {text : String} {vs : List Value} (q : Nat) (d : Dec bytes pc (.ldc idx) 2 nx) (hnw : nw = false) (ww : Jvm.Cond.stringLink own idx text ∈ Ws) (wS : ∀ a ∈ Bundle.stringAtoms, a.before a0 Z = true) (hmem : (own, idx) ∈ EL) (ht : (∀ c ∈ text.toList, c.toNat < 256) ∧ text.toList.map (fun c => Value.int (Jvm.Lit.byteI c.toNat.toUInt16)) = vs) (hlt : vs.length < 1000000)
    (hq : 4 * text.toList.length ≤ q) (hq2 : q ≤ 536870912) (hk : k + 2 ≤ R.cells) (hn : n + (q + 4) ≤ R.slots)
    (g : ∀ h' a b, Ext h h' → Exa Z h' a "java/lang/String" → Fld Z h' a "java/lang/String" "coder" "B" (.int 0) → Fld Z h' a "java/lang/String" "value" "[B" (.ref b) → Arl Z h' b .byte vs → (∀ x ∈ F, x ≠ a ∧ x ≠ b) → Goes p l e R s m args below meth c Z EL nw Q F h'.size h' (k + 2) (n + (q + 4)) (mkF m nx Ls (.ref a :: st))) : Goes p l e R s m args below meth c Z EL nw Q F w h k n (mkF m pc Ls st) := by
  obtain ⟨d1, rfl⟩ := d
  intro T vm0 locs k0 H
  obtain ⟨X, eT, N, S, hk0, hZ, H1, hw, hF, O, hwm, hbk⟩ := id H
  have hz : ¬ (Int32.ofNat vs.length) < 0 ∧ (Int32.ofNat vs.length).toNatClampNeg = vs.length := ofNat_idx (by omega)
  obtain ⟨a, T', h', k1, b, kb, X', e', E, S', hk1, hW, hf, hE, hc, hv, hA, la, lb, hC, hL, hS, st'⟩ := ldcCH X C.1 hZ (C.own_at (s := s) hZ) (C.wrd ww) wS eT S hk0 C.2.2.2.2.2.2.2.2 hmem H1.1 ht hz.1 hz.2 (g := mkF m pc Ls st) rfl (hb C.2.1 d1) hq hq2 hk hn
  have hF' : ∀ x ∈ F, x < h'.size ∧ Safe Z EL T'.vm h' x := fun x hx => ⟨Nat.lt_of_lt_of_le (hF x hx).1 E.1, hC.safe (hF x hx).1 (hF x hx).2⟩
  obtain ⟨t, v, L, h1, r⟩ := g h' a b E hE hc hv (arl_of_arv hA hz.2 (by omega)) (fun x hx => hS x (hF' x hx).2) T' T'.vm locs k1 ⟨X', e', N, S', hk1, hW, H1.trans hC, fun q => (by rw [hnw] at q; cases q), hF', ext_trans O E, fun x hx => Safe.new hx, fun q => (by rw [hnw] at q; cases q)⟩
  exact ⟨t, v, L, st' _ h1, r⟩
end
end Jvm.OwnW
namespace Jvm.OwnW
open Sem ClassFile Op Lib Jvm.Stand Jvm.Free Jvm.LawKit Jvm.RoadKit Bundle
abbrev ST : String := "java/lang/String"
def IsC (x : Int32) : Prop := ¬ x < 0 ∧ ¬ (65535 : Int32) < x
def IsL (x : Int32) : Prop := ¬ x < 0 ∧ ¬ (255 : Int32) < x
theorem nlt {x y : Int32} : ¬ x < y ↔ y.toInt ≤ x.toInt := by rw [Int32.lt_iff_toInt_lt]; omega
theorem ilt {x y : Int32} : x < y ↔ x.toInt < y.toInt := Int32.lt_iff_toInt_lt
theorem isC_iff {x : Int32} : IsC x ↔ 0 ≤ x.toInt ∧ x.toInt ≤ 65535 := by
  unfold IsC; rw [nlt, nlt]; exact Iff.rfl
theorem isL_iff {x : Int32} : IsL x ↔ 0 ≤ x.toInt ∧ x.toInt ≤ 255 := by
  unfold IsL; rw [nlt, nlt]; exact Iff.rfl
theorem IsL.isC {x : Int32} (h : IsL x) : IsC x := by rw [isL_iff] at h; rw [isC_iff]; omega
theorem isC_c16 (x : Int32) : IsC (c16 x) := by
  rw [isC_iff]; have := c_i2c x; unfold c16; omega
theorem c16_of {x : Int32} (h : IsC x) : c16 x = x := by
  rw [isC_iff] at h
  have q := c_i2c x
  apply Int32.toInt_inj.mp
  unfold c16; omega
theorem nar_c16 (x : Int32) : nar .char x = c16 x := rfl
theorem nar_char {x : Int32} (h : IsC x) : nar .char x = x := (nar_c16 x).trans (c16_of h)
theorem nar_b8 (x : Int32) : nar .byte x = b8 x := rfl
theorem narrow_char {x : Int32} (h : IsC x) : narrow .char (.int x) = .int x := by
  show Value.int (nar .char x) = _; rw [nar_char h]
theorem b8_bounds (x : Int32) : -128 ≤ (b8 x).toInt ∧ (b8 x).toInt ≤ 127 := by
  have h := rng_byte (fits_nar_byte x)
  rw [nlt, nlt] at h
  exact h
theorem b8_mod (x : Int32) : ((b8 x).toInt - x.toInt) % 256 = 0 := by
  have e : (b8 x).toInt = x.toInt.bmod 256 := by
    unfold b8
    rw [Int8.toInt_toInt32, Int32.toInt_toInt8]
  rw [e, Int.bmod_def]
  split <;> omega
theorem b8_b8 (x : Int32) : b8 (b8 x) = b8 x := by
  apply Int32.toInt_inj.mp
  have h1 := b8_bounds x; have h2 := b8_bounds (b8 x); have h3 := b8_mod (b8 x)
  omega
theorem narrow_byte (x : Int32) : narrow .byte (.int (b8 x)) = .int (b8 x) := by
  show Value.int (nar .byte (b8 x)) = _; rw [nar_b8, b8_b8]
theorem ofNat_toInt {i : Nat} (h : i < 2 ^ 31) : (Int32.ofNat i).toInt = i := by
  rw [Int32.toInt_ofNat']
  simp only [Int.bmod_def]
  have z : (Int32.size : Int) = 4294967296 := rfl
  rw [z]
  omega
theorem ofNat_succ (i : Nat) : Int32.ofNat i + 1 = Int32.ofNat (i + 1) := (Int32.ofNat_add i 1).symm
theorem ofNat_lt {i j : Nat} (hi : i < 2 ^ 31) (hj : j < 2 ^ 31) : Int32.ofNat i < Int32.ofNat j ↔ i < j := by
  rw [ilt, ofNat_toInt hi, ofNat_toInt hj]; omega
theorem ofNat_inj {i j : Nat} (hi : i < 2 ^ 31) (hj : j < 2 ^ 31) (h : Int32.ofNat i = Int32.ofNat j) : i = j := by
  have := congrArg Int32.toInt h; rw [ofNat_toInt hi, ofNat_toInt hj] at this; omega
def lat (cs : List Int32) : List Value := cs.map fun c => .int (b8 c)
def wid (cs : List Int32) : List Value := cs.flatMap fun c => [.int (b8 c), .int (b8 (c >>> 8))]
def ints (cs : List Int32) : List Value := cs.map Value.int
/-- the bytes vs under the coder cd spell the chars cs -/
def Txt (cs : List Int32) (cd : Int32) (vs : List Value) : Prop := (cd = 0 ∧ vs = lat cs ∧ ∀ c ∈ cs, ¬ (255 : Int32) < c) ∨ (cd = 1 ∧ vs = wid cs ∧ ∃ c ∈ cs, (255 : Int32) < c)
/-- the String at a spells cs -/
def StrAt (Z : State) (h : Heap) (a : Addr) (cs : List Int32) : Prop :=
  ∃ t cd vs, Exa Z h a ST ∧ Fld Z h a ST "value" "[B" (.ref t) ∧ Fld Z h a ST "coder" "B" (.int cd) ∧ Arl Z h t .byte vs ∧ Txt cs cd vs ∧ (∀ c ∈ cs, IsC c) ∧ cs.length ≤ 4000
theorem StrAt.ext {Z : State} {h h' : Heap} {a : Addr} {cs : List Int32} (S : StrAt Z h a cs) (E : Ext h h') : StrAt Z h' a cs := by
  obtain ⟨t, cd, vs, h1, h2, h3, h4, r⟩ := S
  exact ⟨t, cd, vs, h1.ext E, h2.ext E, h3.ext E, h4.ext E, r⟩
theorem StrAt.lt {Z : State} {h : Heap} {a : Addr} {cs : List Int32} (S : StrAt Z h a cs) : a < h.size := by
  obtain ⟨t, cd, vs, h1, -⟩ := S; exact h1.lt
theorem StrAt.exa {Z : State} {h : Heap} {a : Addr} {cs : List Int32} (S : StrAt Z h a cs) : Exa Z h a ST := by
  obtain ⟨t, cd, vs, h1, -⟩ := S; exact h1
/-- over a call that writes one object that is no String -/
theorem StrAt.keep {Z : State} {h h' : Heap} {a o : Addr} {cs : List Int32} {cls : String} {a0 : Array Value} {kk : Nat} (S : StrAt Z h a cs) (K : Keep h h' [o]) (E : Exa Z h o cls) (hn : cls ≠ ST) (wi : (Jvm.Cond.instantiable cls kk).before a0 Z = true) : StrAt Z h' a cs := by
  obtain ⟨t, cd, vs, h1, h2, h3, h4, r⟩ := S
  have n1 : a ∉ [o] := by
    intro q; cases List.mem_singleton.mp q; exact ne_exa E h1 hn rfl
  have n2 : t ∉ [o] := by
    intro q; cases List.mem_singleton.mp q
    obtain ⟨cl, A, -⟩ := h4
    exact ne_arr E wi A rfl
  exact ⟨t, cd, vs, h1.keep K, h2.keep K n1, h3.keep K n1, h4.keep K n2, r⟩
theorem ext_of_keep {h0 h h' : Heap} {ws : List Addr} (E : Ext h0 h) (K : Keep h h' ws) (q : ∀ w ∈ ws, h0.size ≤ w) : Ext h0 h' :=
  ⟨Nat.le_trans E.1 K.1, fun a c r => K.2.1 a c (E.2 a c r) fun z => absurd (Array.getElem?_eq_some_iff.mp r).1 (Nat.not_lt.mpr (q a z))⟩
theorem ext_of_wr {h0 h h' : Heap} {a : Addr} {sl : Nat} {v : Value} (E : Ext h0 h) (W : Wr h h' a sl v) (q : h0.size ≤ a) : Ext h0 h' :=
  ext_of_keep E (Keep.of_wr W) fun w hw => by cases List.mem_singleton.mp hw; exact q
theorem wid_length (cs : List Int32) : (wid cs).length = 2 * cs.length := by
  unfold wid; induction cs with
  | nil => rfl
  | cons c r ih => simp only [List.flatMap_cons, List.length_append, ih, List.length_cons, List.length_nil]; omega
theorem lat_length (cs : List Int32) : (lat cs).length = cs.length := by simp [lat]
theorem ints_length (cs : List Int32) : (ints cs).length = cs.length := by simp [ints]
theorem ints_get {cs : List Int32} {i : Nat} {c : Int32} (h : cs[i]? = some c) : (ints cs)[i]? = some (.int c) := by simp [ints, h]
theorem lat_get {cs : List Int32} {i : Nat} {c : Int32} (h : cs[i]? = some c) : (lat cs)[i]? = some (.int (b8 c)) := by simp [lat, h]
end Jvm.OwnW
namespace Jvm.OwnW
open Sem ClassFile Op Lib Jvm.Stand Jvm.Free Jvm.LawKit Jvm.RoadKit Bundle
abbrev RM (f lo c s : Nat) : Room := { frames := f, cells := c, slots := s, locals := lo }
theorem adr_ne {a b n : Nat} (h : a < n) (h2 : n ≤ b) : a ≠ b := by omega
theorem nof0 {F : List Addr} : ∀ x ∈ ([] : List Addr), x ∈ F := fun _ q => nomatch q
theorem nof {F : List Addr} {w : Nat} {h : Heap} : ∀ x ∈ ([] : List Addr), x ∈ F ∨ (w ≤ x ∧ x < h.size) := fun _ q => nomatch q
theorem fill_step {pre : List Value} {i r : Nat} {z v : Value} (h : pre.length = i) : (pre ++ List.replicate (r + 1) z).set i v = (pre ++ [v]) ++ List.replicate r z := by
  subst h
  rw [List.set_append_right _ _ (Nat.le_refl _)]
  simp [List.replicate_succ]
end Jvm.OwnW
namespace Jvm.OwnW
open Sem ClassFile Op Lib Jvm.Stand Jvm.Free Jvm.LawKit Jvm.RoadKit Bundle
theorem eq_stat {args : Array Value} {s : State} {C n d : String} {v : Int32} (h : (Jvm.Cond.eq (.static C n d) (.int v)).value args s none s [] = some true) : (Term.static C n d).eval args s none [] s = some (.int v) := by
  simp only [Cond.value, Term.int_eval] at h
  cases hv : (Term.static C n d).eval args s none [] s with
  | none => simp [hv] at h
  | some w => cases w <;> simp [hv] at h <;> simp [h]
theorem isL_and (x : Int32) : IsL (x &&& 255) := by
  rw [isL_iff]; have := c_and x 255 (by decide); exact this
theorem isC_isL {x : Int32} (h : IsL x) : c16 x = x := c16_of h.isC
end Jvm.OwnW
namespace Jvm.OwnW
open Sem ClassFile Op Lib Jvm.Stand Jvm.Free Jvm.LawKit Jvm.RoadKit Bundle
theorem st_exact {args : Array Value} {s : State} {C n d K : String} (h : (Jvm.Cond.exactly (.static C n d) K).value args s none s [] = some true) (wi : (Jvm.Cond.initialized C).before args s = true) (wl : (Jvm.Cond.laysStatic C n d).before args s = true) :
    ∃ a, (Term.static C n d).eval args s none [] s = some (.ref a) ∧ Sta s s.heap C n d (.ref a) ∧ Exa s s.heap a K := by
  obtain ⟨a, _, _, _, e, -⟩ := Cond.exactly_spec (Cond.before_iff.mpr h)
  exact ⟨a, e, Sta.start e (Or.inr ⟨wi, wl⟩), Exa.start e h⟩
theorem st_field {args : Array Value} {s : State} {t : Term} {O f fd : String} {a : Addr} {v : Int32} (ev : t.eval args s none [] s = some (.ref a)) (h : (Jvm.Cond.eq (.field t O f fd) (.int v)).value args s none s [] = some true) : Fld s s.heap a O f fd (.int v) := by
  apply Fld.start
  have e : (Term.field t O f fd).eval args s none [] s = s.fieldOf? a O f fd := by simp [Term.eval, ev]
  simp only [Cond.value, Term.int_eval, e] at h
  cases hv : s.fieldOf? a O f fd with
  | none => simp [hv] at h
  | some w => cases w <;> simp [hv] at h <;> simp [h]
end Jvm.OwnW
namespace Jvm.OwnW
open Sem ClassFile Op Lib Jvm.Stand Jvm.Free Jvm.LawKit Jvm.RoadKit Bundle
theorem pos30 (x : Int32) : ¬ ((x &&& 1073741823) + 1) < 1 := by
  have h := c_and x 1073741823 (by decide)
  have e : (1073741823 : Int32).toInt = 1073741823 := rfl
  rw [e] at h
  rw [nlt, Int32.toInt_add]
  have e1 : (1 : Int32).toInt = 1 := rfl
  rw [e1, Int.bmod_def]
  split <;> omega
end Jvm.OwnW
namespace Jvm.OwnW
open Sem ClassFile Op Lib Jvm.Stand Jvm.Free Jvm.LawKit Jvm.RoadKit Bundle
theorem Arl.intAt {Z : State} {h : Heap} {a : Addr} {vs : List Value} {v : Value} (A : Arl Z h a .byte vs) (hv : v ∈ vs) : ∃ x, v = .int x := by
  obtain ⟨cl, -, -, -, r⟩ := A
  exact fit_I (r v hv) (Or.inr (Or.inr (Or.inl rfl)))
theorem Txt.cd01 {cs : List Int32} {cd : Int32} {vs : List Value} (T : Txt cs cd vs) : cd = 0 ∨ cd = 1 := T.imp (·.1) (·.1)
theorem Txt.vlen {cs : List Int32} {cd : Int32} {vs : List Value} (T : Txt cs cd vs) : vs.length = cs.length ∨ vs.length = 2 * cs.length := by
  rcases T with ⟨-, rfl, -⟩ | ⟨-, rfl, -⟩
  · exact Or.inl (lat_length cs)
  · exact Or.inr (wid_length cs)
theorem Txt.len {cs : List Int32} {cd : Int32} {vs : List Value} (T : Txt cs cd vs) (hn : cs.length ≤ 4000) : Int32.ofNat vs.length >>> (cd &&& 31) = Int32.ofNat cs.length := by
  apply Int32.toInt_inj.mp
  rcases T with ⟨rfl, rfl, -⟩ | ⟨rfl, rfl, -⟩
  · rw [c_ishr _ _ 0 (by decide), lat_length]; simp
  · rw [c_ishr _ _ 1 (by decide), wid_length, ofNat_toInt (by omega), ofNat_toInt (by omega)]; omega
theorem Txt.coder {cs : List Int32} {cd ce : Int32} {vs ws : List Value} (T : Txt cs cd vs) (U : Txt cs ce ws) : cd = ce := by
  rcases T with ⟨rfl, -, q⟩ | ⟨rfl, -, c, q1, q2⟩ <;> rcases U with ⟨rfl, -, z⟩ | ⟨rfl, -, d, z1, z2⟩
  · rfl
  · exact absurd z2 (q d z1)
  · exact absurd q2 (z c q1)
  · rfl
theorem Txt.bytes {cs : List Int32} {cd ce : Int32} {vs ws : List Value} (T : Txt cs cd vs) (U : Txt cs ce ws) : vs = ws := by
  rcases T with ⟨rfl, rfl, q⟩ | ⟨rfl, rfl, c, q1, q2⟩ <;> rcases U with ⟨rfl, rfl, z⟩ | ⟨rfl, rfl, d, z1, z2⟩
  · rfl
  · exact absurd z2 (q d z1)
  · exact absurd q2 (z c q1)
  · rfl
theorem b8_inj_L {x y : Int32} (hx : IsL x) (hy : IsL y) (h : b8 x = b8 y) : x = y := by
  rw [isL_iff] at hx hy
  have h1 := b8_mod x; have h2 := b8_mod y
  rw [h] at h1
  apply Int32.toInt_inj.mp; omega
theorem shr8 (x : Int32) : (x >>> 8).toInt = x.toInt / 256 := by
  have := c_ishr x 8 8 (by decide)
  have e : (8 : Int32) &&& 31 = 8 := by decide
  rw [e] at this
  simpa using this
theorem b8_inj_W {x y : Int32} (hx : IsC x) (hy : IsC y) (h : b8 x = b8 y) (h' : b8 (x >>> 8) = b8 (y >>> 8)) : x = y := by
  rw [isC_iff] at hx hy
  have h1 := b8_mod x; have h2 := b8_mod y
  have h3 := b8_mod (x >>> 8); have h4 := b8_mod (y >>> 8)
  rw [h] at h1; rw [h'] at h3
  rw [shr8] at h3 h4
  apply Int32.toInt_inj.mp; omega
theorem lat_inj : ∀ {cs ds : List Int32}, (∀ c ∈ cs, IsL c) → (∀ c ∈ ds, IsL c) → lat cs = lat ds → cs = ds
  | [], [], _, _, _ => rfl
  | [], d :: ds, _, _, h => by simp [lat] at h
  | c :: cs, [], _, _, h => by simp [lat] at h
  | c :: cs, d :: ds, h1, h2, h => by
    simp only [lat, List.map_cons, List.cons.injEq, Value.int.injEq] at h
    rw [b8_inj_L (h1 c (List.mem_cons_self ..)) (h2 d (List.mem_cons_self ..)) h.1, lat_inj (fun x hx => h1 x (List.mem_cons_of_mem _ hx)) (fun x hx => h2 x (List.mem_cons_of_mem _ hx)) h.2]
theorem wid_inj : ∀ {cs ds : List Int32}, (∀ c ∈ cs, IsC c) → (∀ c ∈ ds, IsC c) → wid cs = wid ds → cs = ds
  | [], [], _, _, _ => rfl
  | [], d :: ds, _, _, h => by simp [wid] at h
  | c :: cs, [], _, _, h => by simp [wid] at h
  | c :: cs, d :: ds, h1, h2, h => by
    simp only [wid, List.flatMap_cons, List.cons_append, List.nil_append, List.cons.injEq, Value.int.injEq] at h
    rw [b8_inj_W (h1 c (List.mem_cons_self ..)) (h2 d (List.mem_cons_self ..)) h.1 h.2.1, wid_inj (fun x hx => h1 x (List.mem_cons_of_mem _ hx)) (fun x hx => h2 x (List.mem_cons_of_mem _ hx)) h.2.2]
theorem Txt.inj {cs ds : List Int32} {cd : Int32} {vs : List Value} (hC : ∀ c ∈ cs, IsC c) (hD : ∀ c ∈ ds, IsC c) (T : Txt cs cd vs) (U : Txt ds cd vs) : cs = ds := by
  rcases T with ⟨rfl, rfl, q⟩ | ⟨rfl, rfl, q⟩ <;> rcases U with ⟨e, e', z⟩ | ⟨e, e', z⟩
  · exact lat_inj (fun c hc => ⟨(hC c hc).1, q c hc⟩) (fun c hc => ⟨(hD c hc).1, z c hc⟩) e'
  · exact absurd e (by decide)
  · exact absurd e (by decide)
  · exact wid_inj hC hD e'
theorem fld_uniq {Z : State} {h : Heap} {a : Addr} {C n d : String} {v w : Value} (F : Fld Z h a C n d v) (G : Fld Z h a C n d w) : v = w := by
  obtain ⟨c1, cf, k, i, f, h1, h2, -, -, -, -, h7⟩ := F
  obtain ⟨c2, cf', k', i', f', g1, g2, -, -, -, -, g7⟩ := G
  cases h1.symm.trans g1
  cases h2.symm.trans g2
  exact Option.some.inj (h7.symm.trans g7)
theorem arl_uniq {Z : State} {h : Heap} {a : Addr} {ty : FieldType} {vs ws : List Value} (A : Arl Z h a ty vs) (D : Arl Z h a ty ws) : vs = ws := by
  obtain ⟨c1, A1, rfl, -⟩ := A
  obtain ⟨c2, A2, rfl, -⟩ := D
  cases A1.1.symm.trans A2.1
  rfl
theorem StrAt.uniq {Z : State} {h : Heap} {a : Addr} {cs ds : List Int32} (S : StrAt Z h a cs) (T : StrAt Z h a ds) : cs = ds := by
  obtain ⟨t, cd, vs, X, Fv, Fc, A, Tx, hC, hn⟩ := S
  obtain ⟨u, ce, ws, X', Fv', Fc', A', Tx', hC', hn'⟩ := T
  cases fld_uniq Fv Fv'
  cases fld_uniq Fc Fc'
  cases arl_uniq A A'
  exact Txt.inj hC hC' Tx Tx'
theorem unb8 {x : Int32} (h : IsL x) : c16 (b8 x &&& 255) = x := by
  have e : b8 x &&& 255 = x := by
    rw [isL_iff] at h
    apply Int32.toInt_inj.mp
    rw [c_mask _ 255 8 (by decide) (by decide)]
    have := b8_mod x
    omega
  rw [e, c16_of h.isC]
end Jvm.OwnW
namespace Jvm.OwnW
open Sem ClassFile Op Lib Jvm.Stand Jvm.Free Jvm.LawKit Jvm.RoadKit Bundle
theorem i32_bounds (x : Int32) : -2147483648 ≤ x.toInt ∧ x.toInt < 2147483648 := ⟨Int32.le_toInt x, Int32.toInt_lt x⟩
theorem shl1' {n : Nat} (hn : 2 * n < 2 ^ 31) : Int32.ofNat n <<< ((1 : Int32) &&& 31) = Int32.ofNat (2 * n) := by
  apply Int32.toInt_inj.mp
  have h := c_ishl (Int32.ofNat n) 1 1 (by decide)
  rw [ofNat_toInt (i := n) (by omega)] at h
  rw [ofNat_toInt hn]
  have b := i32_bounds (Int32.ofNat n <<< ((1 : Int32) &&& 31))
  have e : ((2 ^ 1 : Nat) : Int) = 2 := rfl
  rw [e] at h
  omega
theorem shl1 {n : Nat} (hn : n ≤ 4000) : Int32.ofNat n <<< ((1 : Int32) &&& 31) = Int32.ofNat (2 * n) := shl1' (by omega)
theorem shr0 (x : Int32) : x >>> ((0 : Int32) &&& 31) = x := by
  apply Int32.toInt_inj.mp
  rw [c_ishr x 0 0 (by decide)]; simp
theorem shr1 {cs : List Int32} (hn : cs.length ≤ 4000) : Int32.ofNat (wid cs).length >>> ((1 : Int32) &&& 31) = Int32.ofNat cs.length := by
  apply Int32.toInt_inj.mp
  rw [c_ishr _ _ 1 (by decide), wid_length, ofNat_toInt (by omega), ofNat_toInt (by omega)]; omega
theorem fill_step2 {pre : List Value} {i r : Nat} {z u v : Value} (h : pre.length = 2 * i) : ((pre ++ List.replicate (2 * (r + 1)) z).set (2 * i) u).set (2 * i + 1) v = (pre ++ [u, v]) ++ List.replicate (2 * r) z := by
  rw [← h, List.set_append_right _ _ (Nat.le_refl _), List.set_append_right _ _ (by omega)]
  have e : 2 * (r + 1) = 2 * r + 1 + 1 := by omega
  rw [e]
  simp [List.replicate_succ]
theorem wid_cons (c : Int32) (cs : List Int32) : wid (c :: cs) = .int (b8 c) :: .int (b8 (c >>> 8)) :: wid cs := rfl
theorem wid_lo : ∀ {cs : List Int32} {i : Nat} {c : Int32}, cs[i]? = some c → (wid cs)[2 * i]? = some (.int (b8 c))
  | [], i, c, h => by simp at h
  | d :: cs, 0, c, h => by simp at h; subst h; rfl
  | d :: cs, i + 1, c, h => by
    have e : 2 * (i + 1) = 2 * i + 1 + 1 := by omega
    rw [wid_cons, e, List.getElem?_cons_succ, List.getElem?_cons_succ]
    exact wid_lo (by simpa using h)
theorem wid_hi : ∀ {cs : List Int32} {i : Nat} {c : Int32}, cs[i]? = some c → (wid cs)[2 * i + 1]? = some (.int (b8 (c >>> 8)))
  | [], i, c, h => by simp at h
  | d :: cs, 0, c, h => by simp at h; subst h; rfl
  | d :: cs, i + 1, c, h => by
    have e : 2 * (i + 1) + 1 = (2 * i + 1) + 1 + 1 := by omega
    rw [wid_cons, e, List.getElem?_cons_succ, List.getElem?_cons_succ]
    exact wid_hi (by simpa using h)
theorem unwide {x : Int32} (h : IsC x) : c16 ((b8 x &&& 255) <<< ((0 : Int32) &&& 31) ||| (b8 (x >>> 8) &&& 255) <<< ((8 : Int32) &&& 31)) = x := by
  have hx := isC_iff.mp h
  have e1 : (b8 x &&& 255).toInt = x.toInt % 256 := by
    rw [c_mask _ 255 8 (by decide) (by decide)]; have := b8_mod x; omega
  have e2 : (b8 (x >>> 8) &&& 255).toInt = x.toInt / 256 := by
    rw [c_mask _ 255 8 (by decide) (by decide)]; have := b8_mod (x >>> 8); rw [shr8] at this; omega
  have e3 := c_ishl (b8 x &&& 255) 0 0 (by decide)
  have e4 := c_ishl (b8 (x >>> 8) &&& 255) 8 8 (by decide)
  generalize hA : (b8 x &&& 255) <<< ((0 : Int32) &&& 31) = A at *
  generalize hB : (b8 (x >>> 8) &&& 255) <<< ((8 : Int32) &&& 31) = D at *
  rw [e1] at e3; rw [e2] at e4
  have bA := i32_bounds A; have bD := i32_bounds D
  have p0 : ((2 ^ 0 : Nat) : Int) = 1 := rfl
  have p8 : ((2 ^ 8 : Nat) : Int) = 256 := rfl
  rw [p0] at e3; rw [p8] at e4
  have a1 : A.toInt = x.toInt % 256 := by omega
  have a2 : D.toInt = x.toInt / 256 * 256 := by omega
  have e5 := c_or' A D 8 (by decide) 256 rfl (by omega) (by omega) (by omega)
  have bO := i32_bounds (A ||| D)
  have e6 : A ||| D = x := by apply Int32.toInt_inj.mp; omega
  rw [e6, c16_of h]
theorem codU {n : Nat} (h0 : 0 < n) (hn : n ≤ 4000) : b8 (XT.ushr (Int32.ofNat n - Int32.ofNat (2 * n)) 31) = 1 := by
  have e := c_isub (Int32.ofNat n) (Int32.ofNat (2 * n))
  rw [ofNat_toInt (i := n) (by omega), ofNat_toInt (i := 2 * n) (by omega)] at e
  have b := i32_bounds (Int32.ofNat n - Int32.ofNat (2 * n))
  have u := c_iushr (Int32.ofNat n - Int32.ofNat (2 * n)) 31 31 (by decide) (by decide)
  have p : ((2 ^ 31 : Nat) : Int) = 2147483648 := rfl
  rw [p] at u
  have v : (XT.ushr (Int32.ofNat n - Int32.ofNat (2 * n)) 31).toInt = 1 := by unfold XT.ushr; omega
  have w : XT.ushr (Int32.ofNat n - Int32.ofNat (2 * n)) 31 = 1 := by apply Int32.toInt_inj.mp; rw [v]; rfl
  rw [w]; rfl
end Jvm.OwnW
namespace Jvm.OwnW
open Sem ClassFile Op Lib Jvm.Stand Jvm.Free Jvm.LawKit Jvm.RoadKit Bundle
theorem no_inst {Z : State} {a0 : Array Value} {C S K : String} {q : Nat} (w : (Jvm.Cond.superclass C S).before a0 Z = true) (wr : (Jvm.Cond.noSuperclass S).before a0 Z = true) (wi : (Jvm.Cond.instantiable K q).before a0 Z = true) (hn : C ≠ K) (hs : S ≠ K) : ∃ c t, Z.vm.findClass C = some c ∧ Z.vm.findClass K = some t ∧ Z.vm.assignable c t = false := by
  obtain ⟨t, kt, g0, g2, g5, g7, -⟩ := Cond.instantiable_spec wi
  obtain ⟨c, h0⟩ := found_sup w
  obtain ⟨p, k, kp, h1, h2, h3, h4, h5, -, h7⟩ := Cond.superclass_spec h0 w
  obtain ⟨r, kr, r1, r2, r3, -, -⟩ := Cond.noSuperclass_spec wr
  cases h1.symm.trans r1
  have ne := ids_ne h0 g0 hn
  have ne2 := ids_ne r1 g0 hs
  have n3 : ∀ fuel, Z.vm.isSubclassAux fuel p t = false := fun fuel => by
    cases fuel with
    | zero => rfl
    | succ f => simp [Vm.isSubclassAux, ne2, r2, r3]
  have n4 : ∀ fuel, Z.vm.isSubclassAux fuel c t = false := fun fuel => by
    cases fuel with
    | zero => rfl
    | succ f => simp [Vm.isSubclassAux, ne, h2, h4, n3]
  simp only [Bool.or_eq_false_iff] at g7
  refine ⟨c, t, h0, g0, ?_⟩
  show Z.vm.assignableAux (255 + 1) c t = false
  simp [Vm.assignableAux, ne, h2, g2, h5, g5, g7.1, Vm.isSubclass, n4]
end Jvm.OwnW
namespace Jvm.OwnW
open Sem ClassFile Op Lib Jvm.Stand Jvm.Free Jvm.LawKit Jvm.RoadKit Bundle
theorem codT {cs : List Int32} {cd : Int32} {vs : List Value} (T : Txt cs cd vs) (h0 : 0 < cs.length) (hn : cs.length ≤ 4000) : b8 (XT.ushr (Int32.ofNat cs.length - Int32.ofNat vs.length) 31) = cd := by
  rcases T with ⟨rfl, rfl, -⟩ | ⟨rfl, rfl, -⟩
  · rw [lat_length, Int32.sub_self]; rfl
  · rw [wid_length]; exact codU h0 hn
end Jvm.OwnW
namespace Jvm.OwnW
open Sem ClassFile Op Lib Jvm.Stand Jvm.Free Jvm.LawKit Jvm.RoadKit Bundle
theorem nar_ref {v : Value} {n : String} (h : v.isRef = true) : narrow (.object n) v = v := by rcases ref_cases h with rfl | ⟨_, rfl⟩ <;> rfl
theorem fits_ref' {v : Value} {n : String} (h : v.isRef = true) : fits (.object n) v = true := by rcases ref_cases h with rfl | ⟨_, rfl⟩ <;> rfl
theorem catle {v : Value} {st : List Value} {A D C : Nat} (h : v.isRef = true) (g : Nat.ble ((List.map (fun v : Value => v.category) (.null :: st)).sum + A + D) C = true) : (List.map (fun v : Value => v.category) (v :: st)).sum + A + D ≤ C := by
  rcases ref_cases h with rfl | ⟨_, rfl⟩ <;> exact le g
theorem catle2 {v x : Value} {st : List Value} {A D C : Nat} (h : v.isRef = true) (g : Nat.ble ((List.map (fun v : Value => v.category) (x :: .null :: st)).sum + A + D) C = true) : (List.map (fun v : Value => v.category) (x :: v :: st)).sum + A + D ≤ C := by
  rcases ref_cases h with rfl | ⟨_, rfl⟩ <;> exact le g
theorem catle3 {v u x : Value} {st : List Value} {A D C : Nat} (h : v.isRef = true) (h' : u.isRef = true) (g : Nat.ble ((List.map (fun v : Value => v.category) (.null :: x :: .null :: st)).sum + A + D) C = true) : (List.map (fun v : Value => v.category) (u :: x :: v :: st)).sum + A + D ≤ C := by
  rcases ref_cases h with rfl | ⟨_, rfl⟩ <;> rcases ref_cases h' with rfl | ⟨_, rfl⟩ <;> exact le g
end Jvm.OwnW
namespace Jvm.OwnW
open Sem ClassFile Op Lib Jvm.Stand Jvm.Free Jvm.LawKit Jvm.RoadKit Bundle
section
variable {args : Array Value} {s : State}
theorem ex_ev {t : Term} {K : String} (h : (Jvm.Cond.exactly t K).value args s none s [] = some true) : ∃ a, t.eval args s none [] s = some (.ref a) ∧ Exa s s.heap a K := by
  obtain ⟨a, _, _, _, e, -⟩ := Cond.exactly_spec (Cond.before_iff.mpr h)
  exact ⟨a, e, Exa.start e h⟩
theorem arr_ev {t : Term} {ty : FieldType} (h : (Jvm.Cond.arrayOf t ty).value args s none s [] = some true) : ∃ a, t.eval args s none [] s = some (.ref a) := by
  simp only [Cond.value] at h
  cases hv : t.eval args s none [] s with
  | none => simp [hv] at h
  | some w => cases w <;> simp [hv] at h <;> exact ⟨_, rfl⟩
theorem eq_int {t : Term} {v : Int32} (h : (Jvm.Cond.eq t (.int v)).value args s none s [] = some true) : t.eval args s none [] s = some (.int v) := by
  simp only [Cond.value, Term.int_eval] at h
  cases hv : t.eval args s none [] s with
  | none => simp [hv] at h
  | some w => cases w <;> simp [hv] at h <;> simp [h]
theorem eq_refR {t u : Term} {a : Addr} (eu : u.eval args s none [] s = some (.ref a)) (h : (Jvm.Cond.eq t u).value args s none s [] = some true) : t.eval args s none [] s = some (.ref a) := by
  simp only [Cond.value, eu] at h
  cases hv : t.eval args s none [] s with
  | none => simp [hv] at h
  | some w => cases w <;> simp [hv] at h <;> simp [h]
theorem fld_ev {t : Term} {O f fd : String} {a : Addr} {v : Value} (ev : t.eval args s none [] s = some (.ref a)) (e : (Term.field t O f fd).eval args s none [] s = some v) : Fld s s.heap a O f fd v := by
  apply Fld.start
  rw [← e]; simp [Term.eval, ev]
theorem arl_ev {t : Term} {a : Addr} {ty : FieldType} {vs : List Value} (hf : Fit s) (ev : t.eval args s none [] s = some (.ref a)) (ha : (Jvm.Cond.arrayOf t ty).value args s none s [] = some true) (hl : (Jvm.Cond.eq (.length t) (.int (Int32.ofNat vs.length))).value args s none s [] = some true) (hn : vs.length < 2 ^ 31)
    (he : ∀ i v, vs[i]? = some v → (Term.elem t (.int (Int32.ofNat i))).eval args s none [] s = some v) : Arl s s.heap a ty vs := by
  obtain ⟨cl, A⟩ := Arr.start ev ha
  have hat : s.arrayAt? a = some cl := A.fin (Vm.Alike.refl _)
  have e1 := eq_int hl
  have sz : cl.slots.size = vs.length := by
    simp only [Term.eval, ev, hat, Option.bind_eq_bind, Option.bind_some, Option.pure_def] at e1
    split at e1
    · rename_i q
      simp only [Option.some.injEq, Value.int.injEq] at e1
      exact ofNat_inj q hn e1
    · cases e1
  have key : ∀ i v, vs[i]? = some v → cl.slots[i]? = some v := fun i v hv => by
    have hi := (List.getElem?_eq_some_iff.mp hv).1
    have e2 := he i v hv
    have q := ofNat_idx (i := i) (by omega)
    simp only [Term.eval, ev, hat, Option.bind_eq_bind, Option.bind_some, q.1, if_false, q.2] at e2
    exact e2
  refine ⟨cl, A, ?_, hn, fun v hv => ?_⟩
  · apply List.ext_getElem?
    intro i
    rw [Array.getElem?_toList]
    cases hv : vs[i]? with
    | none => rw [List.getElem?_eq_none_iff] at hv; rw [Array.getElem?_eq_none_iff]; omega
    | some v => exact key i v hv
  · obtain ⟨i, hv⟩ := List.mem_iff_getElem?.mp hv
    have hi := (List.getElem?_eq_some_iff.mp hv).1
    have q := ofNat_idx (i := i) (by omega)
    exact elem_fits (j := Int32.ofNat i) hf A (by rw [q.2]; intro z; rcases z with z | z; exact q.1 z; omega) (by rw [q.2]; exact key i v hv)
theorem str_ev {t : Term} {cs : List Int32} (hf : Fit s) (hx : (Jvm.Cond.exactly t "java/lang/String").value args s none s [] = some true) (hc : (Jvm.Cond.eq (.field t "java/lang/String" "coder" "B") (.int 0)).value args s none s [] = some true)
    (ha : (Jvm.Cond.arrayOf (.field t "java/lang/String" "value" "[B") .byte).value args s none s [] = some true) (hl : (Jvm.Cond.eq (.length (.field t "java/lang/String" "value" "[B")) (.int (Int32.ofNat cs.length))).value args s none s [] = some true) (hn : cs.length ≤ 4000) (hL : ∀ c ∈ cs, b8 c = c ∧ IsL c)
    (he : ∀ i c, cs[i]? = some c → (Jvm.Cond.eq (.elem (.field t "java/lang/String" "value" "[B") (.int (Int32.ofNat i))) (.int c)).value args s none s [] = some true) : ∃ a, t.eval args s none [] s = some (.ref a) ∧ StrAt s s.heap a cs := by
  obtain ⟨a, ea, X⟩ := ex_ev hx
  obtain ⟨b, eb⟩ := arr_ev ha
  have hlat : lat cs = ints cs := by
    unfold lat ints; exact List.map_congr_left fun c hc => by rw [(hL c hc).1]
  have A : Arl s s.heap b .byte (lat cs) := by
    rw [hlat]
    refine arl_ev hf eb ha (by rw [ints_length]; exact hl) (by rw [ints_length]; omega) fun i v hv => ?_
    obtain ⟨c, hc1, rfl⟩ : ∃ c, cs[i]? = some c ∧ v = .int c := by
      unfold ints at hv; rw [List.getElem?_map] at hv
      cases hq : cs[i]? with
      | none => rw [hq] at hv; cases hv
      | some c => rw [hq] at hv; exact ⟨c, rfl, (Option.some.inj hv).symm⟩
    exact eq_int (he i c hc1)
  exact ⟨a, ea, b, 0, lat cs, X, fld_ev ea eb, fld_ev ea (eq_int hc), A, Or.inl ⟨rfl, rfl, fun c hc => (hL c hc).2.2⟩, fun c hc => (hL c hc).2.isC, hn⟩
end
end Jvm.OwnW
namespace Jvm.Pilot.@@N@@
open Jvm Jvm.ClassFile Sem Op Lib Jvm.Free Jvm.Stand Jvm.LawKit Jvm.RoadKit Bundle Jvm.Pilot.@@N@@.Jvm.D Jvm.OwnW
set_option maxRecDepth 65536
set_option maxHeartbeats 4000000
theorem tw0 : (Jvm.Cond.constant "com/example/inklingua/inklingua/lexicon/SubwordTypeFromRecordNamePinLaw" (7 : Nat) (2147483647 : Int32)) ∈ tables_1 := List.mem_of_getElem? (i := 0) rfl
theorem tw1 : (Jvm.Cond.methodLink "com/example/inklingua/inklingua/lexicon/SubwordTypeFromRecordNamePinLaw" (8 : Nat) ({ cls := "com/example/inklingua/inklingua/lexicon/SubwordTypeFromRecordNamePinLaw", name := "base", desc := "(I)[C" } : Jvm.MethodName)) ∈ tables_1 := List.mem_of_getElem? (i := 1) rfl
theorem tw2 : (Jvm.Cond.static ({ cls := "com/example/inklingua/inklingua/lexicon/SubwordTypeFromRecordNamePinLaw", name := "base", desc := "(I)[C" } : Jvm.MethodName)) ∈ tables_1 := List.mem_of_getElem? (i := 2) rfl
theorem tw3 : (Jvm.Cond.initialized "com/example/inklingua/inklingua/lexicon/SubwordTypeFromRecordNamePinLaw") ∈ tables_1 := List.mem_of_getElem? (i := 3) rfl
theorem tw4 : (Jvm.Cond.code ({ cls := "com/example/inklingua/inklingua/lexicon/SubwordTypeFromRecordNamePinLaw", name := "base", desc := "(I)[C" } : Jvm.MethodName) method_3_code (1 : Nat) (Option.some (Jvm.ClassFile.FieldType.array Jvm.ClassFile.FieldType.char))) ∈ tables_1 := List.mem_of_getElem? (i := 4) rfl
theorem tw5 : (Jvm.Cond.arrayClass Jvm.ClassFile.FieldType.char) ∈ tables_1 := List.mem_of_getElem? (i := 5) rfl
theorem tw6 : (Jvm.Cond.methodLink "com/example/inklingua/inklingua/lexicon/SubwordTypeFromRecordNamePinLaw" (14 : Nat) ({ cls := "com/example/inklingua/inklingua/lexicon/SubwordTypeFromRecordNamePinLaw", name := "type", desc := "(I)Lcom/example/inklingua/inklingua/lexicon/SubwordType;" } : Jvm.MethodName)) ∈ tables_1 := List.mem_of_getElem? (i := 6) rfl
theorem tw7 : (Jvm.Cond.static ({ cls := "com/example/inklingua/inklingua/lexicon/SubwordTypeFromRecordNamePinLaw", name := "type", desc := "(I)Lcom/example/inklingua/inklingua/lexicon/SubwordType;" } : Jvm.MethodName)) ∈ tables_1 := List.mem_of_getElem? (i := 7) rfl
theorem tw8 : (Jvm.Cond.code ({ cls := "com/example/inklingua/inklingua/lexicon/SubwordTypeFromRecordNamePinLaw", name := "type", desc := "(I)Lcom/example/inklingua/inklingua/lexicon/SubwordType;" } : Jvm.MethodName) method_4_code (1 : Nat) (Option.some (Jvm.ClassFile.FieldType.object "com/example/inklingua/inklingua/lexicon/SubwordType"))) ∈ tables_1 := List.mem_of_getElem? (i := 8) rfl
theorem tw9 : (Jvm.Cond.fieldLink "com/example/inklingua/inklingua/lexicon/SubwordTypeFromRecordNamePinLaw" (41 : Nat) "com/example/inklingua/inklingua/lexicon/SubwordType" "PREFIX" "Lcom/example/inklingua/inklingua/lexicon/SubwordType;") ∈ tables_1 := List.mem_of_getElem? (i := 9) rfl
theorem tw10 : (Jvm.Cond.initialized "com/example/inklingua/inklingua/lexicon/SubwordType") ∈ tables_1 := List.mem_of_getElem? (i := 10) rfl
theorem tw11 : (Jvm.Cond.laysStatic "com/example/inklingua/inklingua/lexicon/SubwordType" "PREFIX" "Lcom/example/inklingua/inklingua/lexicon/SubwordType;") ∈ tables_1 := List.mem_of_getElem? (i := 11) rfl
theorem tw12 : (Jvm.Cond.classLink "com/example/inklingua/inklingua/lexicon/SubwordTypeFromRecordNamePinLaw" (18 : Nat) "java/lang/String") ∈ tables_1 := List.mem_of_getElem? (i := 12) rfl
theorem tw13 : (Jvm.Cond.instantiable "java/lang/String" (4 : Nat)) ∈ tables_1 := List.mem_of_getElem? (i := 13) rfl
theorem tw14 : (Jvm.Cond.initialized "java/lang/String") ∈ tables_1 := List.mem_of_getElem? (i := 14) rfl
theorem tw15 : (Jvm.Cond.methodLink "com/example/inklingua/inklingua/lexicon/SubwordTypeFromRecordNamePinLaw" (20 : Nat) ({ cls := "com/example/inklingua/inklingua/lexicon/SubwordTypeFromRecordNamePinLaw", name := "build", desc := "([CIIC)[C" } : Jvm.MethodName)) ∈ tables_1 := List.mem_of_getElem? (i := 15) rfl
theorem tw16 : (Jvm.Cond.static ({ cls := "com/example/inklingua/inklingua/lexicon/SubwordTypeFromRecordNamePinLaw", name := "build", desc := "([CIIC)[C" } : Jvm.MethodName)) ∈ tables_1 := List.mem_of_getElem? (i := 16) rfl
theorem tw17 : (Jvm.Cond.code ({ cls := "com/example/inklingua/inklingua/lexicon/SubwordTypeFromRecordNamePinLaw", name := "build", desc := "([CIIC)[C" } : Jvm.MethodName) method_6_code (5 : Nat) (Option.some (Jvm.ClassFile.FieldType.array Jvm.ClassFile.FieldType.char))) ∈ tables_1 := List.mem_of_getElem? (i := 17) rfl
theorem tw18 : (Jvm.Cond.methodLink "com/example/inklingua/inklingua/lexicon/SubwordTypeFromRecordNamePinLaw" (57 : Nat) ({ cls := "com/example/inklingua/inklingua/lexicon/SubwordTypeFromRecordNamePinLaw", name := "pick", desc := "([CIIC)C" } : Jvm.MethodName)) ∈ tables_1 := List.mem_of_getElem? (i := 18) rfl
theorem tw19 : (Jvm.Cond.static ({ cls := "com/example/inklingua/inklingua/lexicon/SubwordTypeFromRecordNamePinLaw", name := "pick", desc := "([CIIC)C" } : Jvm.MethodName)) ∈ tables_1 := List.mem_of_getElem? (i := 19) rfl
theorem tw20 : (Jvm.Cond.code ({ cls := "com/example/inklingua/inklingua/lexicon/SubwordTypeFromRecordNamePinLaw", name := "pick", desc := "([CIIC)C" } : Jvm.MethodName) method_5_code (4 : Nat) (Option.some Jvm.ClassFile.FieldType.char)) ∈ tables_1 := List.mem_of_getElem? (i := 20) rfl
theorem tw21 : (Jvm.Cond.methodLink "com/example/inklingua/inklingua/lexicon/SubwordTypeFromRecordNamePinLaw" (24 : Nat) ({ cls := "java/lang/String", name := "<init>", desc := "([C)V" } : Jvm.MethodName)) ∈ tables_1 := List.mem_of_getElem? (i := 21) rfl
theorem tw22 : (Jvm.Cond.instanceMethod ({ cls := "java/lang/String", name := "<init>", desc := "([C)V" } : Jvm.MethodName)) ∈ tables_1 := List.mem_of_getElem? (i := 22) rfl
theorem tw23 : (Jvm.Cond.code ({ cls := "java/lang/String", name := "<init>", desc := "([C)V" } : Jvm.MethodName) jdk_42_method_3_code (2 : Nat) (Option.none : Option Jvm.ClassFile.FieldType)) ∈ tables_1 := List.mem_of_getElem? (i := 23) rfl
theorem tw24 : (Jvm.Cond.methodLink "java/lang/String" (27 : Nat) ({ cls := "java/lang/String", name := "<init>", desc := "([CIILjava/lang/Void;)V" } : Jvm.MethodName)) ∈ tables_1 := List.mem_of_getElem? (i := 24) rfl
theorem tw25 : (Jvm.Cond.instanceMethod ({ cls := "java/lang/String", name := "<init>", desc := "([CIILjava/lang/Void;)V" } : Jvm.MethodName)) ∈ tables_1 := List.mem_of_getElem? (i := 25) rfl
theorem tw27 : (Jvm.Cond.code ({ cls := "java/lang/String", name := "<init>", desc := "([CIILjava/lang/Void;)V" } : Jvm.MethodName) jdk_42_method_149_code (6 : Nat) (Option.none : Option Jvm.ClassFile.FieldType)) ∈ tables_1 := List.mem_of_getElem? (i := 27) rfl
theorem tw28 : (Jvm.Cond.methodLink "java/lang/String" (1 : Nat) ({ cls := "java/lang/Object", name := "<init>", desc := "()V" } : Jvm.MethodName)) ∈ tables_1 := List.mem_of_getElem? (i := 28) rfl
theorem tw29 : (Jvm.Cond.instanceMethod ({ cls := "java/lang/Object", name := "<init>", desc := "()V" } : Jvm.MethodName)) ∈ tables_1 := List.mem_of_getElem? (i := 29) rfl
theorem tw30 : (Jvm.Cond.code ({ cls := "java/lang/Object", name := "<init>", desc := "()V" } : Jvm.MethodName) object_method_1_code (1 : Nat) (Option.none : Option Jvm.ClassFile.FieldType)) ∈ tables_1 := List.mem_of_getElem? (i := 30) rfl
theorem tw31 : (Jvm.Cond.fieldLink "java/lang/String" (38 : Nat) "java/lang/String" "COMPACT_STRINGS" "Z") ∈ tables_1 := List.mem_of_getElem? (i := 31) rfl
theorem tw32 : (Jvm.Cond.methodLink "java/lang/String" (177 : Nat) ({ cls := "java/lang/StringUTF16", name := "compress", desc := "([CII)[B" } : Jvm.MethodName)) ∈ tables_1 := List.mem_of_getElem? (i := 32) rfl
theorem tw33 : (Jvm.Cond.static ({ cls := "java/lang/StringUTF16", name := "compress", desc := "([CII)[B" } : Jvm.MethodName)) ∈ tables_1 := List.mem_of_getElem? (i := 33) rfl
theorem tw34 : (Jvm.Cond.initialized "java/lang/StringUTF16") ∈ tables_1 := List.mem_of_getElem? (i := 34) rfl
theorem tw35 : (Jvm.Cond.code ({ cls := "java/lang/StringUTF16", name := "compress", desc := "([CII)[B" } : Jvm.MethodName) jdk_52_method_16_code (6 : Nat) (Option.some (Jvm.ClassFile.FieldType.array Jvm.ClassFile.FieldType.byte))) ∈ tables_1 := List.mem_of_getElem? (i := 35) rfl
theorem tw36 : (Jvm.Cond.arrayClass Jvm.ClassFile.FieldType.byte) ∈ tables_1 := List.mem_of_getElem? (i := 36) rfl
theorem tw37 : (Jvm.Cond.methodLink "java/lang/StringUTF16" (115 : Nat) ({ cls := "java/lang/StringUTF16", name := "compress", desc := "([CI[BII)I" } : Jvm.MethodName)) ∈ tables_1 := List.mem_of_getElem? (i := 37) rfl
theorem tw38 : (Jvm.Cond.static ({ cls := "java/lang/StringUTF16", name := "compress", desc := "([CI[BII)I" } : Jvm.MethodName)) ∈ tables_1 := List.mem_of_getElem? (i := 38) rfl
theorem tw39 : (Jvm.Cond.code ({ cls := "java/lang/StringUTF16", name := "compress", desc := "([CI[BII)I" } : Jvm.MethodName) jdk_52_method_21_code (7 : Nat) (Option.some Jvm.ClassFile.FieldType.int)) ∈ tables_1 := List.mem_of_getElem? (i := 39) rfl
theorem tw40 : (Jvm.Cond.methodLink "java/lang/String" (47 : Nat) ({ cls := "java/lang/StringUTF16", name := "coderFromArrayLen", desc := "([BI)B" } : Jvm.MethodName)) ∈ tables_1 := List.mem_of_getElem? (i := 40) rfl
theorem tw41 : (Jvm.Cond.static ({ cls := "java/lang/StringUTF16", name := "coderFromArrayLen", desc := "([BI)B" } : Jvm.MethodName)) ∈ tables_1 := List.mem_of_getElem? (i := 41) rfl
theorem tw42 : (Jvm.Cond.code ({ cls := "java/lang/StringUTF16", name := "coderFromArrayLen", desc := "([BI)B" } : Jvm.MethodName) jdk_52_method_15_code (2 : Nat) (Option.some Jvm.ClassFile.FieldType.byte)) ∈ tables_1 := List.mem_of_getElem? (i := 42) rfl
theorem tw43 : (Jvm.Cond.fieldLink "java/lang/String" (15 : Nat) "java/lang/String" "coder" "B") ∈ tables_1 := List.mem_of_getElem? (i := 43) rfl
theorem tw44 : (Jvm.Cond.laysFinal "java/lang/String" "java/lang/String" "coder" "B") ∈ tables_1 := List.mem_of_getElem? (i := 44) rfl
theorem tw45 : (Jvm.Cond.fieldLink "java/lang/String" (9 : Nat) "java/lang/String" "value" "[B") ∈ tables_1 := List.mem_of_getElem? (i := 45) rfl
theorem tw46 : (Jvm.Cond.laysFinal "java/lang/String" "java/lang/String" "value" "[B") ∈ tables_1 := List.mem_of_getElem? (i := 46) rfl
theorem tw47 : (Jvm.Cond.methodLink "com/example/inklingua/inklingua/lexicon/SubwordTypeFromRecordNamePinLaw" (27 : Nat) ({ cls := "com/example/inklingua/inklingua/lexicon/SubwordType", name := "fromRecordName", desc := "(Ljava/lang/String;)Lcom/example/inklingua/inklingua/lexicon/SubwordType;" } : Jvm.MethodName)) ∈ tables_1 := List.mem_of_getElem? (i := 47) rfl
theorem tw48 : (Jvm.Cond.static ({ cls := "com/example/inklingua/inklingua/lexicon/SubwordType", name := "fromRecordName", desc := "(Ljava/lang/String;)Lcom/example/inklingua/inklingua/lexicon/SubwordType;" } : Jvm.MethodName)) ∈ tables_1 := List.mem_of_getElem? (i := 48) rfl
theorem tw49 : (Jvm.Cond.code ({ cls := "com/example/inklingua/inklingua/lexicon/SubwordType", name := "fromRecordName", desc := "(Ljava/lang/String;)Lcom/example/inklingua/inklingua/lexicon/SubwordType;" } : Jvm.MethodName) prog_37_method_5_code (6 : Nat) (Option.some (Jvm.ClassFile.FieldType.object "com/example/inklingua/inklingua/lexicon/SubwordType"))) ∈ tables_1 := List.mem_of_getElem? (i := 49) rfl
theorem tw50 : (Jvm.Cond.methodLink "com/example/inklingua/inklingua/lexicon/SubwordType" (42 : Nat) ({ cls := "com/example/inklingua/inklingua/lexicon/SubwordType", name := "values", desc := "()[Lcom/example/inklingua/inklingua/lexicon/SubwordType;" } : Jvm.MethodName)) ∈ tables_1 := List.mem_of_getElem? (i := 50) rfl
theorem tw51 : (Jvm.Cond.static ({ cls := "com/example/inklingua/inklingua/lexicon/SubwordType", name := "values", desc := "()[Lcom/example/inklingua/inklingua/lexicon/SubwordType;" } : Jvm.MethodName)) ∈ tables_1 := List.mem_of_getElem? (i := 51) rfl
theorem tw52 : (Jvm.Cond.code ({ cls := "com/example/inklingua/inklingua/lexicon/SubwordType", name := "values", desc := "()[Lcom/example/inklingua/inklingua/lexicon/SubwordType;" } : Jvm.MethodName) prog_37_method_1_code (0 : Nat) (Option.some (Jvm.ClassFile.FieldType.array (Jvm.ClassFile.FieldType.object "com/example/inklingua/inklingua/lexicon/SubwordType")))) ∈ tables_1 := List.mem_of_getElem? (i := 52) rfl
theorem tw53 : (Jvm.Cond.fieldLink "com/example/inklingua/inklingua/lexicon/SubwordType" (19 : Nat) "com/example/inklingua/inklingua/lexicon/SubwordType" "$VALUES" "[Lcom/example/inklingua/inklingua/lexicon/SubwordType;") ∈ tables_1 := List.mem_of_getElem? (i := 53) rfl
theorem tw54 : (Jvm.Cond.laysStatic "com/example/inklingua/inklingua/lexicon/SubwordType" "$VALUES" "[Lcom/example/inklingua/inklingua/lexicon/SubwordType;") ∈ tables_1 := List.mem_of_getElem? (i := 54) rfl
theorem tw55 : (Jvm.Cond.methodLink "com/example/inklingua/inklingua/lexicon/SubwordType" (23 : Nat) ({ cls := "[Lcom/example/inklingua/inklingua/lexicon/SubwordType;", name := "clone", desc := "()Ljava/lang/Object;" } : Jvm.MethodName)) ∈ tables_1 := List.mem_of_getElem? (i := 55) rfl
theorem tw56 : (Jvm.Cond.sameMethod "[Lcom/example/inklingua/inklingua/lexicon/SubwordType;" "java/lang/Object" "clone" "()Ljava/lang/Object;") ∈ tables_1 := List.mem_of_getElem? (i := 56) rfl
theorem tw58 : (Jvm.Cond.instanceMethod ({ cls := "java/lang/Object", name := "clone", desc := "()Ljava/lang/Object;" } : Jvm.MethodName)) ∈ tables_1 := List.mem_of_getElem? (i := 58) rfl
theorem tw59 : (Jvm.Cond.selects "[Lcom/example/inklingua/inklingua/lexicon/SubwordType;" ({ cls := "[Lcom/example/inklingua/inklingua/lexicon/SubwordType;", name := "clone", desc := "()Ljava/lang/Object;" } : Jvm.MethodName) ({ cls := "java/lang/Object", name := "clone", desc := "()Ljava/lang/Object;" } : Jvm.MethodName)) ∈ tables_1 := List.mem_of_getElem? (i := 59) rfl
theorem tw60 : (Jvm.Cond.native ({ cls := "java/lang/Object", name := "clone", desc := "()Ljava/lang/Object;" } : Jvm.MethodName)) ∈ tables_1 := List.mem_of_getElem? (i := 60) rfl
theorem tw61 : (Jvm.Cond.castable "[Lcom/example/inklingua/inklingua/lexicon/SubwordType;" "java/lang/Cloneable") ∈ tables_1 := List.mem_of_getElem? (i := 61) rfl
theorem tw62 : (Jvm.Cond.laysStatic "com/example/inklingua/inklingua/lexicon/SubwordType" "STEM" "Lcom/example/inklingua/inklingua/lexicon/SubwordType;") ∈ tables_1 := List.mem_of_getElem? (i := 62) rfl
theorem tw63 : (Jvm.Cond.laysStatic "com/example/inklingua/inklingua/lexicon/SubwordType" "SUFFIX" "Lcom/example/inklingua/inklingua/lexicon/SubwordType;") ∈ tables_1 := List.mem_of_getElem? (i := 63) rfl
theorem tw64 : (Jvm.Cond.laysStatic "com/example/inklingua/inklingua/lexicon/SubwordType" "INVARIANT" "Lcom/example/inklingua/inklingua/lexicon/SubwordType;") ∈ tables_1 := List.mem_of_getElem? (i := 64) rfl
theorem tw65 : (Jvm.Cond.laysStatic "com/example/inklingua/inklingua/lexicon/SubwordType" "STOP" "Lcom/example/inklingua/inklingua/lexicon/SubwordType;") ∈ tables_1 := List.mem_of_getElem? (i := 65) rfl
theorem tw67 : (Jvm.Cond.classLink "com/example/inklingua/inklingua/lexicon/SubwordType" (24 : Nat) "[Lcom/example/inklingua/inklingua/lexicon/SubwordType;") ∈ tables_1 := List.mem_of_getElem? (i := 67) rfl
theorem tw69 : (Jvm.Cond.fieldLink "com/example/inklingua/inklingua/lexicon/SubwordType" (38 : Nat) "com/example/inklingua/inklingua/lexicon/SubwordType" "recordName" "Ljava/lang/String;") ∈ tables_1 := List.mem_of_getElem? (i := 69) rfl
theorem tw71 : (Jvm.Cond.methodLink "com/example/inklingua/inklingua/lexicon/SubwordType" (46 : Nat) ({ cls := "java/lang/String", name := "equals", desc := "(Ljava/lang/Object;)Z" } : Jvm.MethodName)) ∈ tables_1 := List.mem_of_getElem? (i := 71) rfl
theorem tw72 : (Jvm.Cond.declares ({ cls := "java/lang/String", name := "equals", desc := "(Ljava/lang/Object;)Z" } : Jvm.MethodName)) ∈ tables_1 := List.mem_of_getElem? (i := 72) rfl
theorem tw73 : (Jvm.Cond.instanceMethod ({ cls := "java/lang/String", name := "equals", desc := "(Ljava/lang/Object;)Z" } : Jvm.MethodName)) ∈ tables_1 := List.mem_of_getElem? (i := 73) rfl
theorem tw74 : (Jvm.Cond.selects "java/lang/String" ({ cls := "java/lang/String", name := "equals", desc := "(Ljava/lang/Object;)Z" } : Jvm.MethodName) ({ cls := "java/lang/String", name := "equals", desc := "(Ljava/lang/Object;)Z" } : Jvm.MethodName)) ∈ tables_1 := List.mem_of_getElem? (i := 74) rfl
theorem tw75 : (Jvm.Cond.code ({ cls := "java/lang/String", name := "equals", desc := "(Ljava/lang/Object;)Z" } : Jvm.MethodName) jdk_42_method_66_code (3 : Nat) (Option.some Jvm.ClassFile.FieldType.boolean)) ∈ tables_1 := List.mem_of_getElem? (i := 75) rfl
theorem tw76 : (Jvm.Cond.classLink "java/lang/String" (10 : Nat) "java/lang/String") ∈ tables_1 := List.mem_of_getElem? (i := 76) rfl
theorem tw77 : (Jvm.Cond.methodLink "java/lang/String" (541 : Nat) ({ cls := "java/lang/StringLatin1", name := "equals", desc := "([B[B)Z" } : Jvm.MethodName)) ∈ tables_1 := List.mem_of_getElem? (i := 77) rfl
theorem tw78 : (Jvm.Cond.static ({ cls := "java/lang/StringLatin1", name := "equals", desc := "([B[B)Z" } : Jvm.MethodName)) ∈ tables_1 := List.mem_of_getElem? (i := 78) rfl
theorem tw79 : (Jvm.Cond.initialized "java/lang/StringLatin1") ∈ tables_1 := List.mem_of_getElem? (i := 79) rfl
theorem tw80 : (Jvm.Cond.code ({ cls := "java/lang/StringLatin1", name := "equals", desc := "([B[B)Z" } : Jvm.MethodName) jdk_43_method_13_code (3 : Nat) (Option.some Jvm.ClassFile.FieldType.boolean)) ∈ tables_1 := List.mem_of_getElem? (i := 80) rfl
theorem tw81 : (Jvm.Cond.fieldLink "com/example/inklingua/inklingua/lexicon/SubwordTypeFromRecordNamePinLaw" (48 : Nat) "com/example/inklingua/inklingua/lexicon/SubwordType" "SUFFIX" "Lcom/example/inklingua/inklingua/lexicon/SubwordType;") ∈ tables_1 := List.mem_of_getElem? (i := 81) rfl
theorem tw82 : (Jvm.Cond.fieldLink "com/example/inklingua/inklingua/lexicon/SubwordTypeFromRecordNamePinLaw" (54 : Nat) "com/example/inklingua/inklingua/lexicon/SubwordType" "STOP" "Lcom/example/inklingua/inklingua/lexicon/SubwordType;") ∈ tables_1 := List.mem_of_getElem? (i := 82) rfl
theorem tw83 : (Jvm.Cond.fieldLink "com/example/inklingua/inklingua/lexicon/SubwordTypeFromRecordNamePinLaw" (45 : Nat) "com/example/inklingua/inklingua/lexicon/SubwordType" "STEM" "Lcom/example/inklingua/inklingua/lexicon/SubwordType;") ∈ tables_1 := List.mem_of_getElem? (i := 83) rfl
theorem tw84 : (Jvm.Cond.stringLink "java/lang/String" (7 : Nat) "") ∈ tables_1 := List.mem_of_getElem? (i := 84) rfl
theorem tw87 : (Jvm.Cond.fieldLink "com/example/inklingua/inklingua/lexicon/SubwordTypeFromRecordNamePinLaw" (51 : Nat) "com/example/inklingua/inklingua/lexicon/SubwordType" "INVARIANT" "Lcom/example/inklingua/inklingua/lexicon/SubwordType;") ∈ tables_1 := List.mem_of_getElem? (i := 87) rfl
theorem tw88 : (Jvm.Cond.methodLink "com/example/inklingua/inklingua/lexicon/SubwordTypeFromRecordNamePinLaw" (33 : Nat) ({ cls := "com/example/inklingua/inklingua/lexicon/SubwordType", name := "recordName", desc := "()Ljava/lang/String;" } : Jvm.MethodName)) ∈ tables_1 := List.mem_of_getElem? (i := 88) rfl
theorem tw89 : (Jvm.Cond.declares ({ cls := "com/example/inklingua/inklingua/lexicon/SubwordType", name := "recordName", desc := "()Ljava/lang/String;" } : Jvm.MethodName)) ∈ tables_1 := List.mem_of_getElem? (i := 89) rfl
theorem tw90 : (Jvm.Cond.instanceMethod ({ cls := "com/example/inklingua/inklingua/lexicon/SubwordType", name := "recordName", desc := "()Ljava/lang/String;" } : Jvm.MethodName)) ∈ tables_1 := List.mem_of_getElem? (i := 90) rfl
theorem tw91 : (Jvm.Cond.selects "com/example/inklingua/inklingua/lexicon/SubwordType" ({ cls := "com/example/inklingua/inklingua/lexicon/SubwordType", name := "recordName", desc := "()Ljava/lang/String;" } : Jvm.MethodName) ({ cls := "com/example/inklingua/inklingua/lexicon/SubwordType", name := "recordName", desc := "()Ljava/lang/String;" } : Jvm.MethodName)) ∈ tables_1 := List.mem_of_getElem? (i := 91) rfl
theorem tw92 : (Jvm.Cond.code ({ cls := "com/example/inklingua/inklingua/lexicon/SubwordType", name := "recordName", desc := "()Ljava/lang/String;" } : Jvm.MethodName) prog_37_method_4_code (1 : Nat) (Option.some (Jvm.ClassFile.FieldType.object "java/lang/String"))) ∈ tables_1 := List.mem_of_getElem? (i := 92) rfl
theorem tw93 : (Jvm.Cond.methodLink "com/example/inklingua/inklingua/lexicon/SubwordTypeFromRecordNamePinLaw" (37 : Nat) ({ cls := "java/lang/String", name := "equals", desc := "(Ljava/lang/Object;)Z" } : Jvm.MethodName)) ∈ tables_1 := List.mem_of_getElem? (i := 93) rfl
theorem db0_3 : Dec jdk_52_method_21_code 3 (.iload 5) 2 5 := ⟨by decide +kernel, rfl⟩
theorem db0_5 : Dec jdk_52_method_21_code 5 (.iload 4) 2 7 := ⟨by decide +kernel, rfl⟩
theorem db0_7 : DecJ jdk_52_method_21_code 7 (.if_icmp .ge 37) (37) 10 44 := ⟨by decide +kernel, rfl, by decide, by decide⟩
theorem db0_44 : Dec jdk_52_method_21_code 44 (.iload 4) 2 46 := ⟨by decide +kernel, rfl⟩
theorem db0_46 : Dec jdk_52_method_21_code 46 (.ireturn) 1 47 := ⟨by decide +kernel, rfl⟩
theorem db0_10 : Dec jdk_52_method_21_code 10 (.aload_n 0) 1 11 := ⟨by decide +kernel, rfl⟩
theorem db0_11 : Dec jdk_52_method_21_code 11 (.iload_n 1) 1 12 := ⟨by decide +kernel, rfl⟩
theorem db0_12 : Dec jdk_52_method_21_code 12 (.caload) 1 13 := ⟨by decide +kernel, rfl⟩
theorem db0_13 : Dec jdk_52_method_21_code 13 (.istore 6) 2 15 := ⟨by decide +kernel, rfl⟩
theorem db0_15 : Dec jdk_52_method_21_code 15 (.iload 6) 2 17 := ⟨by decide +kernel, rfl⟩
theorem db0_17 : Dec jdk_52_method_21_code 17 (.sipush 255) 3 20 := ⟨by decide +kernel, rfl⟩
theorem db0_20 : DecJ jdk_52_method_21_code 20 (.if_icmp .le 6) (6) 23 26 := ⟨by decide +kernel, rfl, by decide, by decide⟩
theorem db0_26 : Dec jdk_52_method_21_code 26 (.aload_n 2) 1 27 := ⟨by decide +kernel, rfl⟩
theorem db0_27 : Dec jdk_52_method_21_code 27 (.iload_n 3) 1 28 := ⟨by decide +kernel, rfl⟩
theorem db0_28 : Dec jdk_52_method_21_code 28 (.iload 6) 2 30 := ⟨by decide +kernel, rfl⟩
theorem db0_30 : Dec jdk_52_method_21_code 30 (.i2b) 1 31 := ⟨by decide +kernel, rfl⟩
theorem db0_31 : Dec jdk_52_method_21_code 31 (.bastore) 1 32 := ⟨by decide +kernel, rfl⟩
theorem db0_32 : Dec jdk_52_method_21_code 32 (.iinc 1 1) 3 35 := ⟨by decide +kernel, rfl⟩
theorem db0_35 : Dec jdk_52_method_21_code 35 (.iinc 3 1) 3 38 := ⟨by decide +kernel, rfl⟩
theorem db0_38 : Dec jdk_52_method_21_code 38 (.iinc 5 1) 3 41 := ⟨by decide +kernel, rfl⟩
theorem db0_41 : DecJ jdk_52_method_21_code 41 (.goto (-38)) (-38) 44 3 := ⟨by decide +kernel, rfl, by decide, by decide⟩
theorem db0_23 : Dec jdk_52_method_21_code 23 (.iload 5) 2 25 := ⟨by decide +kernel, rfl⟩
theorem db0_25 : Dec jdk_52_method_21_code 25 (.ireturn) 1 26 := ⟨by decide +kernel, rfl⟩
theorem db0_0 : Dec jdk_52_method_21_code 0 (.iconst 0) 1 1 := ⟨by decide +kernel, rfl⟩
theorem db0_1 : Dec jdk_52_method_21_code 1 (.istore 5) 2 3 := ⟨by decide +kernel, rfl⟩
theorem db1_0 : Dec jdk_52_method_15_code 0 (.iload_n 1) 1 1 := ⟨by decide +kernel, rfl⟩
theorem db1_1 : Dec jdk_52_method_15_code 1 (.aload_n 0) 1 2 := ⟨by decide +kernel, rfl⟩
theorem db1_2 : Dec jdk_52_method_15_code 2 (.arraylength) 1 3 := ⟨by decide +kernel, rfl⟩
theorem db1_3 : Dec jdk_52_method_15_code 3 (.isub) 1 4 := ⟨by decide +kernel, rfl⟩
theorem db1_4 : Dec jdk_52_method_15_code 4 (.bipush 31) 2 6 := ⟨by decide +kernel, rfl⟩
theorem db1_6 : Dec jdk_52_method_15_code 6 (.iushr) 1 7 := ⟨by decide +kernel, rfl⟩
theorem db1_7 : Dec jdk_52_method_15_code 7 (.i2b) 1 8 := ⟨by decide +kernel, rfl⟩
theorem db1_8 : Dec jdk_52_method_15_code 8 (.ireturn) 1 9 := ⟨by decide +kernel, rfl⟩
theorem db2_0 : Dec jdk_52_method_16_code 0 (.iload_n 2) 1 1 := ⟨by decide +kernel, rfl⟩
theorem db2_1 : Dec jdk_52_method_16_code 1 (.newarray .byte) 2 3 := ⟨by decide +kernel, rfl⟩
theorem db2_3 : Dec jdk_52_method_16_code 3 (.astore_n 3) 1 4 := ⟨by decide +kernel, rfl⟩
theorem db2_4 : Dec jdk_52_method_16_code 4 (.aload_n 0) 1 5 := ⟨by decide +kernel, rfl⟩
theorem db2_5 : Dec jdk_52_method_16_code 5 (.iload_n 1) 1 6 := ⟨by decide +kernel, rfl⟩
theorem db2_6 : Dec jdk_52_method_16_code 6 (.aload_n 3) 1 7 := ⟨by decide +kernel, rfl⟩
theorem db2_7 : Dec jdk_52_method_16_code 7 (.iconst 0) 1 8 := ⟨by decide +kernel, rfl⟩
theorem db2_8 : Dec jdk_52_method_16_code 8 (.iload_n 2) 1 9 := ⟨by decide +kernel, rfl⟩
theorem db2_9 : Dec jdk_52_method_16_code 9 (.invokestatic 115) 3 12 := ⟨by decide +kernel, rfl⟩
theorem db2_12 : Dec jdk_52_method_16_code 12 (.istore 4) 2 14 := ⟨by decide +kernel, rfl⟩
theorem db2_14 : Dec jdk_52_method_16_code 14 (.iload 4) 2 16 := ⟨by decide +kernel, rfl⟩
theorem db2_16 : Dec jdk_52_method_16_code 16 (.iload_n 2) 1 17 := ⟨by decide +kernel, rfl⟩
theorem db2_17 : DecJ jdk_52_method_16_code 17 (.if_icmp .eq 40) (40) 20 57 := ⟨by decide +kernel, rfl, by decide, by decide⟩
theorem db2_57 : Dec jdk_52_method_16_code 57 (.aload_n 3) 1 58 := ⟨by decide +kernel, rfl⟩
theorem db2_58 : Dec jdk_52_method_16_code 58 (.areturn) 1 59 := ⟨by decide +kernel, rfl⟩
theorem db3_0 : Dec jdk_42_method_149_code 0 (.aload_n 0) 1 1 := ⟨by decide +kernel, rfl⟩
theorem db3_1 : Dec jdk_42_method_149_code 1 (.invokespecial 1) 3 4 := ⟨by decide +kernel, rfl⟩
theorem db3_4 : Dec jdk_42_method_149_code 4 (.iload_n 3) 1 5 := ⟨by decide +kernel, rfl⟩
theorem db3_5 : DecJ jdk_42_method_149_code 5 (.ifCond .ne 22) (22) 8 27 := ⟨by decide +kernel, rfl, by decide, by decide⟩
theorem db3_27 : Dec jdk_42_method_149_code 27 (.getstatic 38) 3 30 := ⟨by decide +kernel, rfl⟩
theorem db3_30 : DecJ jdk_42_method_149_code 30 (.ifCond .eq 28) (28) 33 58 := ⟨by decide +kernel, rfl, by decide, by decide⟩
theorem db3_33 : Dec jdk_42_method_149_code 33 (.aload_n 1) 1 34 := ⟨by decide +kernel, rfl⟩
theorem db3_34 : Dec jdk_42_method_149_code 34 (.iload_n 2) 1 35 := ⟨by decide +kernel, rfl⟩
theorem db3_35 : Dec jdk_42_method_149_code 35 (.iload_n 3) 1 36 := ⟨by decide +kernel, rfl⟩
theorem db3_36 : Dec jdk_42_method_149_code 36 (.invokestatic 177) 3 39 := ⟨by decide +kernel, rfl⟩
theorem db3_39 : Dec jdk_42_method_149_code 39 (.astore 5) 2 41 := ⟨by decide +kernel, rfl⟩
theorem db3_41 : Dec jdk_42_method_149_code 41 (.aload_n 0) 1 42 := ⟨by decide +kernel, rfl⟩
theorem db3_42 : Dec jdk_42_method_149_code 42 (.aload 5) 2 44 := ⟨by decide +kernel, rfl⟩
theorem db3_44 : Dec jdk_42_method_149_code 44 (.iload_n 3) 1 45 := ⟨by decide +kernel, rfl⟩
theorem db3_45 : Dec jdk_42_method_149_code 45 (.invokestatic 47) 3 48 := ⟨by decide +kernel, rfl⟩
theorem db3_48 : Dec jdk_42_method_149_code 48 (.putfield 15) 3 51 := ⟨by decide +kernel, rfl⟩
theorem db3_51 : Dec jdk_42_method_149_code 51 (.aload_n 0) 1 52 := ⟨by decide +kernel, rfl⟩
theorem db3_52 : Dec jdk_42_method_149_code 52 (.aload 5) 2 54 := ⟨by decide +kernel, rfl⟩
theorem db3_54 : Dec jdk_42_method_149_code 54 (.putfield 9) 3 57 := ⟨by decide +kernel, rfl⟩
theorem db3_57 : Dec jdk_42_method_149_code 57 (.return_) 1 58 := ⟨by decide +kernel, rfl⟩
theorem db4_0 : Dec jdk_42_method_3_code 0 (.aload_n 0) 1 1 := ⟨by decide +kernel, rfl⟩
theorem db4_1 : Dec jdk_42_method_3_code 1 (.aload_n 1) 1 2 := ⟨by decide +kernel, rfl⟩
theorem db4_2 : Dec jdk_42_method_3_code 2 (.iconst 0) 1 3 := ⟨by decide +kernel, rfl⟩
theorem db4_3 : Dec jdk_42_method_3_code 3 (.aload_n 1) 1 4 := ⟨by decide +kernel, rfl⟩
theorem db4_4 : Dec jdk_42_method_3_code 4 (.arraylength) 1 5 := ⟨by decide +kernel, rfl⟩
theorem db4_5 : Dec jdk_42_method_3_code 5 (.aconst_null) 1 6 := ⟨by decide +kernel, rfl⟩
theorem db4_6 : Dec jdk_42_method_3_code 6 (.invokespecial 27) 3 9 := ⟨by decide +kernel, rfl⟩
theorem db4_9 : Dec jdk_42_method_3_code 9 (.return_) 1 10 := ⟨by decide +kernel, rfl⟩
theorem db5_9 : Dec jdk_43_method_13_code 9 (.iload_n 2) 1 10 := ⟨by decide +kernel, rfl⟩
theorem db5_10 : Dec jdk_43_method_13_code 10 (.aload_n 0) 1 11 := ⟨by decide +kernel, rfl⟩
theorem db5_11 : Dec jdk_43_method_13_code 11 (.arraylength) 1 12 := ⟨by decide +kernel, rfl⟩
theorem db5_12 : DecJ jdk_43_method_13_code 12 (.if_icmp .ge 20) (20) 15 32 := ⟨by decide +kernel, rfl, by decide, by decide⟩
theorem db5_32 : Dec jdk_43_method_13_code 32 (.iconst 1) 1 33 := ⟨by decide +kernel, rfl⟩
theorem db5_33 : Dec jdk_43_method_13_code 33 (.ireturn) 1 34 := ⟨by decide +kernel, rfl⟩
theorem db5_15 : Dec jdk_43_method_13_code 15 (.aload_n 0) 1 16 := ⟨by decide +kernel, rfl⟩
theorem db5_16 : Dec jdk_43_method_13_code 16 (.iload_n 2) 1 17 := ⟨by decide +kernel, rfl⟩
theorem db5_17 : Dec jdk_43_method_13_code 17 (.baload) 1 18 := ⟨by decide +kernel, rfl⟩
theorem db5_18 : Dec jdk_43_method_13_code 18 (.aload_n 1) 1 19 := ⟨by decide +kernel, rfl⟩
theorem db5_19 : Dec jdk_43_method_13_code 19 (.iload_n 2) 1 20 := ⟨by decide +kernel, rfl⟩
theorem db5_20 : Dec jdk_43_method_13_code 20 (.baload) 1 21 := ⟨by decide +kernel, rfl⟩
theorem db5_21 : DecJ jdk_43_method_13_code 21 (.if_icmp .eq 5) (5) 24 26 := ⟨by decide +kernel, rfl, by decide, by decide⟩
theorem db5_26 : Dec jdk_43_method_13_code 26 (.iinc 2 1) 3 29 := ⟨by decide +kernel, rfl⟩
theorem db5_29 : DecJ jdk_43_method_13_code 29 (.goto (-20)) (-20) 32 9 := ⟨by decide +kernel, rfl, by decide, by decide⟩
theorem db5_24 : Dec jdk_43_method_13_code 24 (.iconst 0) 1 25 := ⟨by decide +kernel, rfl⟩
theorem db5_25 : Dec jdk_43_method_13_code 25 (.ireturn) 1 26 := ⟨by decide +kernel, rfl⟩
theorem db5_0 : Dec jdk_43_method_13_code 0 (.aload_n 0) 1 1 := ⟨by decide +kernel, rfl⟩
theorem db5_1 : Dec jdk_43_method_13_code 1 (.arraylength) 1 2 := ⟨by decide +kernel, rfl⟩
theorem db5_2 : Dec jdk_43_method_13_code 2 (.aload_n 1) 1 3 := ⟨by decide +kernel, rfl⟩
theorem db5_3 : Dec jdk_43_method_13_code 3 (.arraylength) 1 4 := ⟨by decide +kernel, rfl⟩
theorem db5_4 : DecJ jdk_43_method_13_code 4 (.if_icmp .ne 30) (30) 7 34 := ⟨by decide +kernel, rfl, by decide, by decide⟩
theorem db5_34 : Dec jdk_43_method_13_code 34 (.iconst 0) 1 35 := ⟨by decide +kernel, rfl⟩
theorem db5_35 : Dec jdk_43_method_13_code 35 (.ireturn) 1 36 := ⟨by decide +kernel, rfl⟩
theorem db5_7 : Dec jdk_43_method_13_code 7 (.iconst 0) 1 8 := ⟨by decide +kernel, rfl⟩
theorem db5_8 : Dec jdk_43_method_13_code 8 (.istore_n 2) 1 9 := ⟨by decide +kernel, rfl⟩
theorem db6_0 : Dec jdk_42_method_66_code 0 (.aload_n 0) 1 1 := ⟨by decide +kernel, rfl⟩
theorem db6_1 : Dec jdk_42_method_66_code 1 (.aload_n 1) 1 2 := ⟨by decide +kernel, rfl⟩
theorem db6_2 : DecJ jdk_42_method_66_code 2 (.if_acmp .ne 5) (5) 5 7 := ⟨by decide +kernel, rfl, by decide, by decide⟩
theorem db6_5 : Dec jdk_42_method_66_code 5 (.iconst 1) 1 6 := ⟨by decide +kernel, rfl⟩
theorem db6_6 : Dec jdk_42_method_66_code 6 (.ireturn) 1 7 := ⟨by decide +kernel, rfl⟩
theorem db6_7 : Dec jdk_42_method_66_code 7 (.aload_n 1) 1 8 := ⟨by decide +kernel, rfl⟩
theorem db6_8 : Dec jdk_42_method_66_code 8 (.instanceof 10) 3 11 := ⟨by decide +kernel, rfl⟩
theorem db6_11 : DecJ jdk_42_method_66_code 11 (.ifCond .eq 43) (43) 14 54 := ⟨by decide +kernel, rfl, by decide, by decide⟩
theorem db6_14 : Dec jdk_42_method_66_code 14 (.aload_n 1) 1 15 := ⟨by decide +kernel, rfl⟩
theorem db6_15 : Dec jdk_42_method_66_code 15 (.checkcast 10) 3 18 := ⟨by decide +kernel, rfl⟩
theorem db6_18 : Dec jdk_42_method_66_code 18 (.astore_n 2) 1 19 := ⟨by decide +kernel, rfl⟩
theorem db6_19 : Dec jdk_42_method_66_code 19 (.getstatic 38) 3 22 := ⟨by decide +kernel, rfl⟩
theorem db6_22 : DecJ jdk_42_method_66_code 22 (.ifCond .eq 14) (14) 25 36 := ⟨by decide +kernel, rfl, by decide, by decide⟩
theorem db6_25 : Dec jdk_42_method_66_code 25 (.aload_n 0) 1 26 := ⟨by decide +kernel, rfl⟩
theorem db6_26 : Dec jdk_42_method_66_code 26 (.getfield 15) 3 29 := ⟨by decide +kernel, rfl⟩
theorem db6_29 : Dec jdk_42_method_66_code 29 (.aload_n 2) 1 30 := ⟨by decide +kernel, rfl⟩
theorem db6_30 : Dec jdk_42_method_66_code 30 (.getfield 15) 3 33 := ⟨by decide +kernel, rfl⟩
theorem db6_33 : DecJ jdk_42_method_66_code 33 (.if_icmp .ne 21) (21) 36 54 := ⟨by decide +kernel, rfl, by decide, by decide⟩
theorem db6_54 : Dec jdk_42_method_66_code 54 (.iconst 0) 1 55 := ⟨by decide +kernel, rfl⟩
theorem db6_55 : Dec jdk_42_method_66_code 55 (.ireturn) 1 56 := ⟨by decide +kernel, rfl⟩
theorem db6_36 : Dec jdk_42_method_66_code 36 (.aload_n 0) 1 37 := ⟨by decide +kernel, rfl⟩
theorem db6_37 : Dec jdk_42_method_66_code 37 (.getfield 9) 3 40 := ⟨by decide +kernel, rfl⟩
theorem db6_40 : Dec jdk_42_method_66_code 40 (.aload_n 2) 1 41 := ⟨by decide +kernel, rfl⟩
theorem db6_41 : Dec jdk_42_method_66_code 41 (.getfield 9) 3 44 := ⟨by decide +kernel, rfl⟩
theorem db6_44 : Dec jdk_42_method_66_code 44 (.invokestatic 541) 3 47 := ⟨by decide +kernel, rfl⟩
theorem db6_47 : DecJ jdk_42_method_66_code 47 (.ifCond .eq 7) (7) 50 54 := ⟨by decide +kernel, rfl, by decide, by decide⟩
theorem db6_50 : Dec jdk_42_method_66_code 50 (.iconst 1) 1 51 := ⟨by decide +kernel, rfl⟩
theorem db6_51 : DecJ jdk_42_method_66_code 51 (.goto 4) (4) 54 55 := ⟨by decide +kernel, rfl, by decide, by decide⟩
theorem db3_8 : Dec jdk_42_method_149_code 8 (.aload_n 0) 1 9 := ⟨by decide +kernel, rfl⟩
theorem db3_9 : Dec jdk_42_method_149_code 9 (.ldc 7) 2 11 := ⟨by decide +kernel, rfl⟩
theorem db3_11 : Dec jdk_42_method_149_code 11 (.getfield 9) 3 14 := ⟨by decide +kernel, rfl⟩
theorem db3_14 : Dec jdk_42_method_149_code 14 (.putfield 9) 3 17 := ⟨by decide +kernel, rfl⟩
theorem db3_17 : Dec jdk_42_method_149_code 17 (.aload_n 0) 1 18 := ⟨by decide +kernel, rfl⟩
theorem db3_18 : Dec jdk_42_method_149_code 18 (.ldc 7) 2 20 := ⟨by decide +kernel, rfl⟩
theorem db3_20 : Dec jdk_42_method_149_code 20 (.getfield 15) 3 23 := ⟨by decide +kernel, rfl⟩
theorem db3_23 : Dec jdk_42_method_149_code 23 (.putfield 15) 3 26 := ⟨by decide +kernel, rfl⟩
theorem db3_26 : Dec jdk_42_method_149_code 26 (.return_) 1 27 := ⟨by decide +kernel, rfl⟩
theorem db7_0 : Dec method_3_code 0 (.iload_n 0) 1 1 := ⟨by decide +kernel, rfl⟩
theorem db7_1 : DecJ method_3_code 1 (.ifCond .ne 38) (38) 4 39 := ⟨by decide +kernel, rfl, by decide, by decide⟩
theorem db7_4 : Dec method_3_code 4 (.bipush 6) 2 6 := ⟨by decide +kernel, rfl⟩
theorem db7_6 : Dec method_3_code 6 (.newarray .char) 2 8 := ⟨by decide +kernel, rfl⟩
theorem db7_8 : Dec method_3_code 8 (.dup) 1 9 := ⟨by decide +kernel, rfl⟩
theorem db7_9 : Dec method_3_code 9 (.iconst 0) 1 10 := ⟨by decide +kernel, rfl⟩
theorem db7_10 : Dec method_3_code 10 (.bipush 112) 2 12 := ⟨by decide +kernel, rfl⟩
theorem db7_12 : Dec method_3_code 12 (.castore) 1 13 := ⟨by decide +kernel, rfl⟩
theorem db7_13 : Dec method_3_code 13 (.dup) 1 14 := ⟨by decide +kernel, rfl⟩
theorem db7_14 : Dec method_3_code 14 (.iconst 1) 1 15 := ⟨by decide +kernel, rfl⟩
theorem db7_15 : Dec method_3_code 15 (.bipush 114) 2 17 := ⟨by decide +kernel, rfl⟩
theorem db7_17 : Dec method_3_code 17 (.castore) 1 18 := ⟨by decide +kernel, rfl⟩
theorem db7_18 : Dec method_3_code 18 (.dup) 1 19 := ⟨by decide +kernel, rfl⟩
theorem db7_19 : Dec method_3_code 19 (.iconst 2) 1 20 := ⟨by decide +kernel, rfl⟩
theorem db7_20 : Dec method_3_code 20 (.bipush 101) 2 22 := ⟨by decide +kernel, rfl⟩
theorem db7_22 : Dec method_3_code 22 (.castore) 1 23 := ⟨by decide +kernel, rfl⟩
theorem db7_23 : Dec method_3_code 23 (.dup) 1 24 := ⟨by decide +kernel, rfl⟩
theorem db7_24 : Dec method_3_code 24 (.iconst 3) 1 25 := ⟨by decide +kernel, rfl⟩
theorem db7_25 : Dec method_3_code 25 (.bipush 102) 2 27 := ⟨by decide +kernel, rfl⟩
theorem db7_27 : Dec method_3_code 27 (.castore) 1 28 := ⟨by decide +kernel, rfl⟩
theorem db7_28 : Dec method_3_code 28 (.dup) 1 29 := ⟨by decide +kernel, rfl⟩
theorem db7_29 : Dec method_3_code 29 (.iconst 4) 1 30 := ⟨by decide +kernel, rfl⟩
theorem db7_30 : Dec method_3_code 30 (.bipush 105) 2 32 := ⟨by decide +kernel, rfl⟩
theorem db7_32 : Dec method_3_code 32 (.castore) 1 33 := ⟨by decide +kernel, rfl⟩
theorem db7_33 : Dec method_3_code 33 (.dup) 1 34 := ⟨by decide +kernel, rfl⟩
theorem db7_34 : Dec method_3_code 34 (.iconst 5) 1 35 := ⟨by decide +kernel, rfl⟩
theorem db7_35 : Dec method_3_code 35 (.bipush 120) 2 37 := ⟨by decide +kernel, rfl⟩
theorem db7_37 : Dec method_3_code 37 (.castore) 1 38 := ⟨by decide +kernel, rfl⟩
theorem db7_38 : Dec method_3_code 38 (.areturn) 1 39 := ⟨by decide +kernel, rfl⟩
theorem db7_39 : Dec method_3_code 39 (.iload_n 0) 1 40 := ⟨by decide +kernel, rfl⟩
theorem db7_40 : Dec method_3_code 40 (.iconst 1) 1 41 := ⟨by decide +kernel, rfl⟩
theorem db7_41 : DecJ method_3_code 41 (.if_icmp .ne 27) (27) 44 68 := ⟨by decide +kernel, rfl, by decide, by decide⟩
theorem db7_44 : Dec method_3_code 44 (.iconst 4) 1 45 := ⟨by decide +kernel, rfl⟩
theorem db7_45 : Dec method_3_code 45 (.newarray .char) 2 47 := ⟨by decide +kernel, rfl⟩
theorem db7_47 : Dec method_3_code 47 (.dup) 1 48 := ⟨by decide +kernel, rfl⟩
theorem db7_48 : Dec method_3_code 48 (.iconst 0) 1 49 := ⟨by decide +kernel, rfl⟩
theorem db7_49 : Dec method_3_code 49 (.bipush 115) 2 51 := ⟨by decide +kernel, rfl⟩
theorem db7_51 : Dec method_3_code 51 (.castore) 1 52 := ⟨by decide +kernel, rfl⟩
theorem db7_52 : Dec method_3_code 52 (.dup) 1 53 := ⟨by decide +kernel, rfl⟩
theorem db7_53 : Dec method_3_code 53 (.iconst 1) 1 54 := ⟨by decide +kernel, rfl⟩
theorem db7_54 : Dec method_3_code 54 (.bipush 116) 2 56 := ⟨by decide +kernel, rfl⟩
theorem db7_56 : Dec method_3_code 56 (.castore) 1 57 := ⟨by decide +kernel, rfl⟩
theorem db7_57 : Dec method_3_code 57 (.dup) 1 58 := ⟨by decide +kernel, rfl⟩
theorem db7_58 : Dec method_3_code 58 (.iconst 2) 1 59 := ⟨by decide +kernel, rfl⟩
theorem db7_59 : Dec method_3_code 59 (.bipush 101) 2 61 := ⟨by decide +kernel, rfl⟩
theorem db7_61 : Dec method_3_code 61 (.castore) 1 62 := ⟨by decide +kernel, rfl⟩
theorem db7_62 : Dec method_3_code 62 (.dup) 1 63 := ⟨by decide +kernel, rfl⟩
theorem db7_63 : Dec method_3_code 63 (.iconst 3) 1 64 := ⟨by decide +kernel, rfl⟩
theorem db7_64 : Dec method_3_code 64 (.bipush 109) 2 66 := ⟨by decide +kernel, rfl⟩
theorem db7_66 : Dec method_3_code 66 (.castore) 1 67 := ⟨by decide +kernel, rfl⟩
theorem db7_67 : Dec method_3_code 67 (.areturn) 1 68 := ⟨by decide +kernel, rfl⟩
theorem db7_68 : Dec method_3_code 68 (.iload_n 0) 1 69 := ⟨by decide +kernel, rfl⟩
theorem db7_69 : Dec method_3_code 69 (.iconst 2) 1 70 := ⟨by decide +kernel, rfl⟩
theorem db7_70 : DecJ method_3_code 70 (.if_icmp .ne 38) (38) 73 108 := ⟨by decide +kernel, rfl, by decide, by decide⟩
theorem db7_73 : Dec method_3_code 73 (.bipush 6) 2 75 := ⟨by decide +kernel, rfl⟩
theorem db7_75 : Dec method_3_code 75 (.newarray .char) 2 77 := ⟨by decide +kernel, rfl⟩
theorem db7_77 : Dec method_3_code 77 (.dup) 1 78 := ⟨by decide +kernel, rfl⟩
theorem db7_78 : Dec method_3_code 78 (.iconst 0) 1 79 := ⟨by decide +kernel, rfl⟩
theorem db7_79 : Dec method_3_code 79 (.bipush 115) 2 81 := ⟨by decide +kernel, rfl⟩
theorem db7_81 : Dec method_3_code 81 (.castore) 1 82 := ⟨by decide +kernel, rfl⟩
theorem db7_82 : Dec method_3_code 82 (.dup) 1 83 := ⟨by decide +kernel, rfl⟩
theorem db7_83 : Dec method_3_code 83 (.iconst 1) 1 84 := ⟨by decide +kernel, rfl⟩
theorem db7_84 : Dec method_3_code 84 (.bipush 117) 2 86 := ⟨by decide +kernel, rfl⟩
theorem db7_86 : Dec method_3_code 86 (.castore) 1 87 := ⟨by decide +kernel, rfl⟩
theorem db7_87 : Dec method_3_code 87 (.dup) 1 88 := ⟨by decide +kernel, rfl⟩
theorem db7_88 : Dec method_3_code 88 (.iconst 2) 1 89 := ⟨by decide +kernel, rfl⟩
theorem db7_89 : Dec method_3_code 89 (.bipush 102) 2 91 := ⟨by decide +kernel, rfl⟩
theorem db7_91 : Dec method_3_code 91 (.castore) 1 92 := ⟨by decide +kernel, rfl⟩
theorem db7_92 : Dec method_3_code 92 (.dup) 1 93 := ⟨by decide +kernel, rfl⟩
theorem db7_93 : Dec method_3_code 93 (.iconst 3) 1 94 := ⟨by decide +kernel, rfl⟩
theorem db7_94 : Dec method_3_code 94 (.bipush 102) 2 96 := ⟨by decide +kernel, rfl⟩
theorem db7_96 : Dec method_3_code 96 (.castore) 1 97 := ⟨by decide +kernel, rfl⟩
theorem db7_97 : Dec method_3_code 97 (.dup) 1 98 := ⟨by decide +kernel, rfl⟩
theorem db7_98 : Dec method_3_code 98 (.iconst 4) 1 99 := ⟨by decide +kernel, rfl⟩
theorem db7_99 : Dec method_3_code 99 (.bipush 105) 2 101 := ⟨by decide +kernel, rfl⟩
theorem db7_101 : Dec method_3_code 101 (.castore) 1 102 := ⟨by decide +kernel, rfl⟩
theorem db7_102 : Dec method_3_code 102 (.dup) 1 103 := ⟨by decide +kernel, rfl⟩
theorem db7_103 : Dec method_3_code 103 (.iconst 5) 1 104 := ⟨by decide +kernel, rfl⟩
theorem db7_104 : Dec method_3_code 104 (.bipush 120) 2 106 := ⟨by decide +kernel, rfl⟩
theorem db7_106 : Dec method_3_code 106 (.castore) 1 107 := ⟨by decide +kernel, rfl⟩
theorem db7_107 : Dec method_3_code 107 (.areturn) 1 108 := ⟨by decide +kernel, rfl⟩
theorem db7_108 : Dec method_3_code 108 (.iload_n 0) 1 109 := ⟨by decide +kernel, rfl⟩
theorem db7_109 : Dec method_3_code 109 (.iconst 3) 1 110 := ⟨by decide +kernel, rfl⟩
theorem db7_110 : DecJ method_3_code 110 (.if_icmp .ne 56) (56) 113 166 := ⟨by decide +kernel, rfl, by decide, by decide⟩
theorem db7_113 : Dec method_3_code 113 (.bipush 9) 2 115 := ⟨by decide +kernel, rfl⟩
theorem db7_115 : Dec method_3_code 115 (.newarray .char) 2 117 := ⟨by decide +kernel, rfl⟩
theorem db7_117 : Dec method_3_code 117 (.dup) 1 118 := ⟨by decide +kernel, rfl⟩
theorem db7_118 : Dec method_3_code 118 (.iconst 0) 1 119 := ⟨by decide +kernel, rfl⟩
theorem db7_119 : Dec method_3_code 119 (.bipush 105) 2 121 := ⟨by decide +kernel, rfl⟩
theorem db7_121 : Dec method_3_code 121 (.castore) 1 122 := ⟨by decide +kernel, rfl⟩
theorem db7_122 : Dec method_3_code 122 (.dup) 1 123 := ⟨by decide +kernel, rfl⟩
theorem db7_123 : Dec method_3_code 123 (.iconst 1) 1 124 := ⟨by decide +kernel, rfl⟩
theorem db7_124 : Dec method_3_code 124 (.bipush 110) 2 126 := ⟨by decide +kernel, rfl⟩
theorem db7_126 : Dec method_3_code 126 (.castore) 1 127 := ⟨by decide +kernel, rfl⟩
theorem db7_127 : Dec method_3_code 127 (.dup) 1 128 := ⟨by decide +kernel, rfl⟩
theorem db7_128 : Dec method_3_code 128 (.iconst 2) 1 129 := ⟨by decide +kernel, rfl⟩
theorem db7_129 : Dec method_3_code 129 (.bipush 118) 2 131 := ⟨by decide +kernel, rfl⟩
theorem db7_131 : Dec method_3_code 131 (.castore) 1 132 := ⟨by decide +kernel, rfl⟩
theorem db7_132 : Dec method_3_code 132 (.dup) 1 133 := ⟨by decide +kernel, rfl⟩
theorem db7_133 : Dec method_3_code 133 (.iconst 3) 1 134 := ⟨by decide +kernel, rfl⟩
theorem db7_134 : Dec method_3_code 134 (.bipush 97) 2 136 := ⟨by decide +kernel, rfl⟩
theorem db7_136 : Dec method_3_code 136 (.castore) 1 137 := ⟨by decide +kernel, rfl⟩
theorem db7_137 : Dec method_3_code 137 (.dup) 1 138 := ⟨by decide +kernel, rfl⟩
theorem db7_138 : Dec method_3_code 138 (.iconst 4) 1 139 := ⟨by decide +kernel, rfl⟩
theorem db7_139 : Dec method_3_code 139 (.bipush 114) 2 141 := ⟨by decide +kernel, rfl⟩
theorem db7_141 : Dec method_3_code 141 (.castore) 1 142 := ⟨by decide +kernel, rfl⟩
theorem db7_142 : Dec method_3_code 142 (.dup) 1 143 := ⟨by decide +kernel, rfl⟩
theorem db7_143 : Dec method_3_code 143 (.iconst 5) 1 144 := ⟨by decide +kernel, rfl⟩
theorem db7_144 : Dec method_3_code 144 (.bipush 105) 2 146 := ⟨by decide +kernel, rfl⟩
theorem db7_146 : Dec method_3_code 146 (.castore) 1 147 := ⟨by decide +kernel, rfl⟩
theorem db7_147 : Dec method_3_code 147 (.dup) 1 148 := ⟨by decide +kernel, rfl⟩
theorem db7_148 : Dec method_3_code 148 (.bipush 6) 2 150 := ⟨by decide +kernel, rfl⟩
theorem db7_150 : Dec method_3_code 150 (.bipush 97) 2 152 := ⟨by decide +kernel, rfl⟩
theorem db7_152 : Dec method_3_code 152 (.castore) 1 153 := ⟨by decide +kernel, rfl⟩
theorem db7_153 : Dec method_3_code 153 (.dup) 1 154 := ⟨by decide +kernel, rfl⟩
theorem db7_154 : Dec method_3_code 154 (.bipush 7) 2 156 := ⟨by decide +kernel, rfl⟩
theorem db7_156 : Dec method_3_code 156 (.bipush 110) 2 158 := ⟨by decide +kernel, rfl⟩
theorem db7_158 : Dec method_3_code 158 (.castore) 1 159 := ⟨by decide +kernel, rfl⟩
theorem db7_159 : Dec method_3_code 159 (.dup) 1 160 := ⟨by decide +kernel, rfl⟩
theorem db7_160 : Dec method_3_code 160 (.bipush 8) 2 162 := ⟨by decide +kernel, rfl⟩
theorem db7_162 : Dec method_3_code 162 (.bipush 116) 2 164 := ⟨by decide +kernel, rfl⟩
theorem db7_164 : Dec method_3_code 164 (.castore) 1 165 := ⟨by decide +kernel, rfl⟩
theorem db7_165 : Dec method_3_code 165 (.areturn) 1 166 := ⟨by decide +kernel, rfl⟩
theorem db7_166 : Dec method_3_code 166 (.iconst 4) 1 167 := ⟨by decide +kernel, rfl⟩
theorem db7_167 : Dec method_3_code 167 (.newarray .char) 2 169 := ⟨by decide +kernel, rfl⟩
theorem db7_169 : Dec method_3_code 169 (.dup) 1 170 := ⟨by decide +kernel, rfl⟩
theorem db7_170 : Dec method_3_code 170 (.iconst 0) 1 171 := ⟨by decide +kernel, rfl⟩
theorem db7_171 : Dec method_3_code 171 (.bipush 115) 2 173 := ⟨by decide +kernel, rfl⟩
theorem db7_173 : Dec method_3_code 173 (.castore) 1 174 := ⟨by decide +kernel, rfl⟩
theorem db7_174 : Dec method_3_code 174 (.dup) 1 175 := ⟨by decide +kernel, rfl⟩
theorem db7_175 : Dec method_3_code 175 (.iconst 1) 1 176 := ⟨by decide +kernel, rfl⟩
theorem db7_176 : Dec method_3_code 176 (.bipush 116) 2 178 := ⟨by decide +kernel, rfl⟩
theorem db7_178 : Dec method_3_code 178 (.castore) 1 179 := ⟨by decide +kernel, rfl⟩
theorem db7_179 : Dec method_3_code 179 (.dup) 1 180 := ⟨by decide +kernel, rfl⟩
theorem db7_180 : Dec method_3_code 180 (.iconst 2) 1 181 := ⟨by decide +kernel, rfl⟩
theorem db7_181 : Dec method_3_code 181 (.bipush 111) 2 183 := ⟨by decide +kernel, rfl⟩
theorem db7_183 : Dec method_3_code 183 (.castore) 1 184 := ⟨by decide +kernel, rfl⟩
theorem db7_184 : Dec method_3_code 184 (.dup) 1 185 := ⟨by decide +kernel, rfl⟩
theorem db7_185 : Dec method_3_code 185 (.iconst 3) 1 186 := ⟨by decide +kernel, rfl⟩
theorem db7_186 : Dec method_3_code 186 (.bipush 112) 2 188 := ⟨by decide +kernel, rfl⟩
theorem db7_188 : Dec method_3_code 188 (.castore) 1 189 := ⟨by decide +kernel, rfl⟩
theorem db7_189 : Dec method_3_code 189 (.areturn) 1 190 := ⟨by decide +kernel, rfl⟩
theorem db8_0 : Dec method_4_code 0 (.iload_n 0) 1 1 := ⟨by decide +kernel, rfl⟩
theorem db8_1 : DecJ method_4_code 1 (.ifCond .ne 7) (7) 4 8 := ⟨by decide +kernel, rfl, by decide, by decide⟩
theorem db8_4 : Dec method_4_code 4 (.getstatic 41) 3 7 := ⟨by decide +kernel, rfl⟩
theorem db8_7 : Dec method_4_code 7 (.areturn) 1 8 := ⟨by decide +kernel, rfl⟩
theorem db8_8 : Dec method_4_code 8 (.iload_n 0) 1 9 := ⟨by decide +kernel, rfl⟩
theorem db8_9 : Dec method_4_code 9 (.iconst 1) 1 10 := ⟨by decide +kernel, rfl⟩
theorem db8_10 : DecJ method_4_code 10 (.if_icmp .ne 7) (7) 13 17 := ⟨by decide +kernel, rfl, by decide, by decide⟩
theorem db8_13 : Dec method_4_code 13 (.getstatic 45) 3 16 := ⟨by decide +kernel, rfl⟩
theorem db8_16 : Dec method_4_code 16 (.areturn) 1 17 := ⟨by decide +kernel, rfl⟩
theorem db8_17 : Dec method_4_code 17 (.iload_n 0) 1 18 := ⟨by decide +kernel, rfl⟩
theorem db8_18 : Dec method_4_code 18 (.iconst 2) 1 19 := ⟨by decide +kernel, rfl⟩
theorem db8_19 : DecJ method_4_code 19 (.if_icmp .ne 7) (7) 22 26 := ⟨by decide +kernel, rfl, by decide, by decide⟩
theorem db8_22 : Dec method_4_code 22 (.getstatic 48) 3 25 := ⟨by decide +kernel, rfl⟩
theorem db8_25 : Dec method_4_code 25 (.areturn) 1 26 := ⟨by decide +kernel, rfl⟩
theorem db8_26 : Dec method_4_code 26 (.iload_n 0) 1 27 := ⟨by decide +kernel, rfl⟩
theorem db8_27 : Dec method_4_code 27 (.iconst 3) 1 28 := ⟨by decide +kernel, rfl⟩
theorem db8_28 : DecJ method_4_code 28 (.if_icmp .ne 7) (7) 31 35 := ⟨by decide +kernel, rfl, by decide, by decide⟩
theorem db8_31 : Dec method_4_code 31 (.getstatic 51) 3 34 := ⟨by decide +kernel, rfl⟩
theorem db8_34 : Dec method_4_code 34 (.areturn) 1 35 := ⟨by decide +kernel, rfl⟩
theorem db8_35 : Dec method_4_code 35 (.getstatic 54) 3 38 := ⟨by decide +kernel, rfl⟩
theorem db8_38 : Dec method_4_code 38 (.areturn) 1 39 := ⟨by decide +kernel, rfl⟩
theorem db9_0 : Dec method_5_code 0 (.iload_n 1) 1 1 := ⟨by decide +kernel, rfl⟩
theorem db9_1 : Dec method_5_code 1 (.iload_n 2) 1 2 := ⟨by decide +kernel, rfl⟩
theorem db9_2 : DecJ method_5_code 2 (.if_icmp .ne 5) (5) 5 7 := ⟨by decide +kernel, rfl, by decide, by decide⟩
theorem db9_7 : Dec method_5_code 7 (.iload_n 1) 1 8 := ⟨by decide +kernel, rfl⟩
theorem db9_8 : Dec method_5_code 8 (.aload_n 0) 1 9 := ⟨by decide +kernel, rfl⟩
theorem db9_9 : Dec method_5_code 9 (.arraylength) 1 10 := ⟨by decide +kernel, rfl⟩
theorem db9_10 : DecJ method_5_code 10 (.if_icmp .ge 7) (7) 13 17 := ⟨by decide +kernel, rfl, by decide, by decide⟩
theorem db9_17 : Dec method_5_code 17 (.iload_n 3) 1 18 := ⟨by decide +kernel, rfl⟩
theorem db9_18 : Dec method_5_code 18 (.ireturn) 1 19 := ⟨by decide +kernel, rfl⟩
theorem db9_13 : Dec method_5_code 13 (.aload_n 0) 1 14 := ⟨by decide +kernel, rfl⟩
theorem db9_14 : Dec method_5_code 14 (.iload_n 1) 1 15 := ⟨by decide +kernel, rfl⟩
theorem db9_15 : Dec method_5_code 15 (.caload) 1 16 := ⟨by decide +kernel, rfl⟩
theorem db9_16 : Dec method_5_code 16 (.ireturn) 1 17 := ⟨by decide +kernel, rfl⟩
theorem db9_5 : Dec method_5_code 5 (.iload_n 3) 1 6 := ⟨by decide +kernel, rfl⟩
theorem db9_6 : Dec method_5_code 6 (.ireturn) 1 7 := ⟨by decide +kernel, rfl⟩
theorem db10_0 : Dec method_6_code 0 (.iload_n 1) 1 1 := ⟨by decide +kernel, rfl⟩
theorem db10_1 : Dec method_6_code 1 (.newarray .char) 2 3 := ⟨by decide +kernel, rfl⟩
theorem db10_3 : Dec method_6_code 3 (.astore 4) 2 5 := ⟨by decide +kernel, rfl⟩
theorem db10_176 : Dec method_6_code 176 (.aload 4) 2 178 := ⟨by decide +kernel, rfl⟩
theorem db10_178 : Dec method_6_code 178 (.areturn) 1 179 := ⟨by decide +kernel, rfl⟩
theorem db10_157 : Dec method_6_code 157 (.iload_n 1) 1 158 := ⟨by decide +kernel, rfl⟩
theorem db10_158 : Dec method_6_code 158 (.bipush 9) 2 160 := ⟨by decide +kernel, rfl⟩
theorem db10_160 : DecJ method_6_code 160 (.if_icmp .le 16) (16) 163 176 := ⟨by decide +kernel, rfl, by decide, by decide⟩
theorem db10_163 : Dec method_6_code 163 (.aload 4) 2 165 := ⟨by decide +kernel, rfl⟩
theorem db10_165 : Dec method_6_code 165 (.bipush 9) 2 167 := ⟨by decide +kernel, rfl⟩
theorem db10_167 : Dec method_6_code 167 (.aload_n 0) 1 168 := ⟨by decide +kernel, rfl⟩
theorem db10_168 : Dec method_6_code 168 (.bipush 9) 2 170 := ⟨by decide +kernel, rfl⟩
theorem db10_170 : Dec method_6_code 170 (.iload_n 2) 1 171 := ⟨by decide +kernel, rfl⟩
theorem db10_171 : Dec method_6_code 171 (.iload_n 3) 1 172 := ⟨by decide +kernel, rfl⟩
theorem db10_172 : Dec method_6_code 172 (.invokestatic 57) 3 175 := ⟨by decide +kernel, rfl⟩
theorem db10_175 : Dec method_6_code 175 (.castore) 1 176 := ⟨by decide +kernel, rfl⟩
theorem db10_138 : Dec method_6_code 138 (.iload_n 1) 1 139 := ⟨by decide +kernel, rfl⟩
theorem db10_139 : Dec method_6_code 139 (.bipush 8) 2 141 := ⟨by decide +kernel, rfl⟩
theorem db10_141 : DecJ method_6_code 141 (.if_icmp .le 16) (16) 144 157 := ⟨by decide +kernel, rfl, by decide, by decide⟩
theorem db10_144 : Dec method_6_code 144 (.aload 4) 2 146 := ⟨by decide +kernel, rfl⟩
theorem db10_146 : Dec method_6_code 146 (.bipush 8) 2 148 := ⟨by decide +kernel, rfl⟩
theorem db10_148 : Dec method_6_code 148 (.aload_n 0) 1 149 := ⟨by decide +kernel, rfl⟩
theorem db10_149 : Dec method_6_code 149 (.bipush 8) 2 151 := ⟨by decide +kernel, rfl⟩
theorem db10_151 : Dec method_6_code 151 (.iload_n 2) 1 152 := ⟨by decide +kernel, rfl⟩
theorem db10_152 : Dec method_6_code 152 (.iload_n 3) 1 153 := ⟨by decide +kernel, rfl⟩
theorem db10_153 : Dec method_6_code 153 (.invokestatic 57) 3 156 := ⟨by decide +kernel, rfl⟩
theorem db10_156 : Dec method_6_code 156 (.castore) 1 157 := ⟨by decide +kernel, rfl⟩
theorem db10_119 : Dec method_6_code 119 (.iload_n 1) 1 120 := ⟨by decide +kernel, rfl⟩
theorem db10_120 : Dec method_6_code 120 (.bipush 7) 2 122 := ⟨by decide +kernel, rfl⟩
theorem db10_122 : DecJ method_6_code 122 (.if_icmp .le 16) (16) 125 138 := ⟨by decide +kernel, rfl, by decide, by decide⟩
theorem db10_125 : Dec method_6_code 125 (.aload 4) 2 127 := ⟨by decide +kernel, rfl⟩
theorem db10_127 : Dec method_6_code 127 (.bipush 7) 2 129 := ⟨by decide +kernel, rfl⟩
theorem db10_129 : Dec method_6_code 129 (.aload_n 0) 1 130 := ⟨by decide +kernel, rfl⟩
theorem db10_130 : Dec method_6_code 130 (.bipush 7) 2 132 := ⟨by decide +kernel, rfl⟩
theorem db10_132 : Dec method_6_code 132 (.iload_n 2) 1 133 := ⟨by decide +kernel, rfl⟩
theorem db10_133 : Dec method_6_code 133 (.iload_n 3) 1 134 := ⟨by decide +kernel, rfl⟩
theorem db10_134 : Dec method_6_code 134 (.invokestatic 57) 3 137 := ⟨by decide +kernel, rfl⟩
theorem db10_137 : Dec method_6_code 137 (.castore) 1 138 := ⟨by decide +kernel, rfl⟩
theorem db10_100 : Dec method_6_code 100 (.iload_n 1) 1 101 := ⟨by decide +kernel, rfl⟩
theorem db10_101 : Dec method_6_code 101 (.bipush 6) 2 103 := ⟨by decide +kernel, rfl⟩
theorem db10_103 : DecJ method_6_code 103 (.if_icmp .le 16) (16) 106 119 := ⟨by decide +kernel, rfl, by decide, by decide⟩
theorem db10_106 : Dec method_6_code 106 (.aload 4) 2 108 := ⟨by decide +kernel, rfl⟩
theorem db10_108 : Dec method_6_code 108 (.bipush 6) 2 110 := ⟨by decide +kernel, rfl⟩
theorem db10_110 : Dec method_6_code 110 (.aload_n 0) 1 111 := ⟨by decide +kernel, rfl⟩
theorem db10_111 : Dec method_6_code 111 (.bipush 6) 2 113 := ⟨by decide +kernel, rfl⟩
theorem db10_113 : Dec method_6_code 113 (.iload_n 2) 1 114 := ⟨by decide +kernel, rfl⟩
theorem db10_114 : Dec method_6_code 114 (.iload_n 3) 1 115 := ⟨by decide +kernel, rfl⟩
theorem db10_115 : Dec method_6_code 115 (.invokestatic 57) 3 118 := ⟨by decide +kernel, rfl⟩
theorem db10_118 : Dec method_6_code 118 (.castore) 1 119 := ⟨by decide +kernel, rfl⟩
theorem db10_84 : Dec method_6_code 84 (.iload_n 1) 1 85 := ⟨by decide +kernel, rfl⟩
theorem db10_85 : Dec method_6_code 85 (.iconst 5) 1 86 := ⟨by decide +kernel, rfl⟩
theorem db10_86 : DecJ method_6_code 86 (.if_icmp .le 14) (14) 89 100 := ⟨by decide +kernel, rfl, by decide, by decide⟩
theorem db10_89 : Dec method_6_code 89 (.aload 4) 2 91 := ⟨by decide +kernel, rfl⟩
theorem db10_91 : Dec method_6_code 91 (.iconst 5) 1 92 := ⟨by decide +kernel, rfl⟩
theorem db10_92 : Dec method_6_code 92 (.aload_n 0) 1 93 := ⟨by decide +kernel, rfl⟩
theorem db10_93 : Dec method_6_code 93 (.iconst 5) 1 94 := ⟨by decide +kernel, rfl⟩
theorem db10_94 : Dec method_6_code 94 (.iload_n 2) 1 95 := ⟨by decide +kernel, rfl⟩
theorem db10_95 : Dec method_6_code 95 (.iload_n 3) 1 96 := ⟨by decide +kernel, rfl⟩
theorem db10_96 : Dec method_6_code 96 (.invokestatic 57) 3 99 := ⟨by decide +kernel, rfl⟩
theorem db10_99 : Dec method_6_code 99 (.castore) 1 100 := ⟨by decide +kernel, rfl⟩
theorem db10_68 : Dec method_6_code 68 (.iload_n 1) 1 69 := ⟨by decide +kernel, rfl⟩
theorem db10_69 : Dec method_6_code 69 (.iconst 4) 1 70 := ⟨by decide +kernel, rfl⟩
theorem db10_70 : DecJ method_6_code 70 (.if_icmp .le 14) (14) 73 84 := ⟨by decide +kernel, rfl, by decide, by decide⟩
theorem db10_73 : Dec method_6_code 73 (.aload 4) 2 75 := ⟨by decide +kernel, rfl⟩
theorem db10_75 : Dec method_6_code 75 (.iconst 4) 1 76 := ⟨by decide +kernel, rfl⟩
theorem db10_76 : Dec method_6_code 76 (.aload_n 0) 1 77 := ⟨by decide +kernel, rfl⟩
theorem db10_77 : Dec method_6_code 77 (.iconst 4) 1 78 := ⟨by decide +kernel, rfl⟩
theorem db10_78 : Dec method_6_code 78 (.iload_n 2) 1 79 := ⟨by decide +kernel, rfl⟩
theorem db10_79 : Dec method_6_code 79 (.iload_n 3) 1 80 := ⟨by decide +kernel, rfl⟩
theorem db10_80 : Dec method_6_code 80 (.invokestatic 57) 3 83 := ⟨by decide +kernel, rfl⟩
theorem db10_83 : Dec method_6_code 83 (.castore) 1 84 := ⟨by decide +kernel, rfl⟩
theorem db10_52 : Dec method_6_code 52 (.iload_n 1) 1 53 := ⟨by decide +kernel, rfl⟩
theorem db10_53 : Dec method_6_code 53 (.iconst 3) 1 54 := ⟨by decide +kernel, rfl⟩
theorem db10_54 : DecJ method_6_code 54 (.if_icmp .le 14) (14) 57 68 := ⟨by decide +kernel, rfl, by decide, by decide⟩
theorem db10_57 : Dec method_6_code 57 (.aload 4) 2 59 := ⟨by decide +kernel, rfl⟩
theorem db10_59 : Dec method_6_code 59 (.iconst 3) 1 60 := ⟨by decide +kernel, rfl⟩
theorem db10_60 : Dec method_6_code 60 (.aload_n 0) 1 61 := ⟨by decide +kernel, rfl⟩
theorem db10_61 : Dec method_6_code 61 (.iconst 3) 1 62 := ⟨by decide +kernel, rfl⟩
theorem db10_62 : Dec method_6_code 62 (.iload_n 2) 1 63 := ⟨by decide +kernel, rfl⟩
theorem db10_63 : Dec method_6_code 63 (.iload_n 3) 1 64 := ⟨by decide +kernel, rfl⟩
theorem db10_64 : Dec method_6_code 64 (.invokestatic 57) 3 67 := ⟨by decide +kernel, rfl⟩
theorem db10_67 : Dec method_6_code 67 (.castore) 1 68 := ⟨by decide +kernel, rfl⟩
theorem db10_36 : Dec method_6_code 36 (.iload_n 1) 1 37 := ⟨by decide +kernel, rfl⟩
theorem db10_37 : Dec method_6_code 37 (.iconst 2) 1 38 := ⟨by decide +kernel, rfl⟩
theorem db10_38 : DecJ method_6_code 38 (.if_icmp .le 14) (14) 41 52 := ⟨by decide +kernel, rfl, by decide, by decide⟩
theorem db10_41 : Dec method_6_code 41 (.aload 4) 2 43 := ⟨by decide +kernel, rfl⟩
theorem db10_43 : Dec method_6_code 43 (.iconst 2) 1 44 := ⟨by decide +kernel, rfl⟩
theorem db10_44 : Dec method_6_code 44 (.aload_n 0) 1 45 := ⟨by decide +kernel, rfl⟩
theorem db10_45 : Dec method_6_code 45 (.iconst 2) 1 46 := ⟨by decide +kernel, rfl⟩
theorem db10_46 : Dec method_6_code 46 (.iload_n 2) 1 47 := ⟨by decide +kernel, rfl⟩
theorem db10_47 : Dec method_6_code 47 (.iload_n 3) 1 48 := ⟨by decide +kernel, rfl⟩
theorem db10_48 : Dec method_6_code 48 (.invokestatic 57) 3 51 := ⟨by decide +kernel, rfl⟩
theorem db10_51 : Dec method_6_code 51 (.castore) 1 52 := ⟨by decide +kernel, rfl⟩
theorem db10_20 : Dec method_6_code 20 (.iload_n 1) 1 21 := ⟨by decide +kernel, rfl⟩
theorem db10_21 : Dec method_6_code 21 (.iconst 1) 1 22 := ⟨by decide +kernel, rfl⟩
theorem db10_22 : DecJ method_6_code 22 (.if_icmp .le 14) (14) 25 36 := ⟨by decide +kernel, rfl, by decide, by decide⟩
theorem db10_25 : Dec method_6_code 25 (.aload 4) 2 27 := ⟨by decide +kernel, rfl⟩
theorem db10_27 : Dec method_6_code 27 (.iconst 1) 1 28 := ⟨by decide +kernel, rfl⟩
theorem db10_28 : Dec method_6_code 28 (.aload_n 0) 1 29 := ⟨by decide +kernel, rfl⟩
theorem db10_29 : Dec method_6_code 29 (.iconst 1) 1 30 := ⟨by decide +kernel, rfl⟩
theorem db10_30 : Dec method_6_code 30 (.iload_n 2) 1 31 := ⟨by decide +kernel, rfl⟩
theorem db10_31 : Dec method_6_code 31 (.iload_n 3) 1 32 := ⟨by decide +kernel, rfl⟩
theorem db10_32 : Dec method_6_code 32 (.invokestatic 57) 3 35 := ⟨by decide +kernel, rfl⟩
theorem db10_35 : Dec method_6_code 35 (.castore) 1 36 := ⟨by decide +kernel, rfl⟩
theorem db10_5 : Dec method_6_code 5 (.iload_n 1) 1 6 := ⟨by decide +kernel, rfl⟩
theorem db10_6 : DecJ method_6_code 6 (.ifCond .le 14) (14) 9 20 := ⟨by decide +kernel, rfl, by decide, by decide⟩
theorem db10_9 : Dec method_6_code 9 (.aload 4) 2 11 := ⟨by decide +kernel, rfl⟩
theorem db10_11 : Dec method_6_code 11 (.iconst 0) 1 12 := ⟨by decide +kernel, rfl⟩
theorem db10_12 : Dec method_6_code 12 (.aload_n 0) 1 13 := ⟨by decide +kernel, rfl⟩
theorem db10_13 : Dec method_6_code 13 (.iconst 0) 1 14 := ⟨by decide +kernel, rfl⟩
theorem db10_14 : Dec method_6_code 14 (.iload_n 2) 1 15 := ⟨by decide +kernel, rfl⟩
theorem db10_15 : Dec method_6_code 15 (.iload_n 3) 1 16 := ⟨by decide +kernel, rfl⟩
theorem db10_16 : Dec method_6_code 16 (.invokestatic 57) 3 19 := ⟨by decide +kernel, rfl⟩
theorem db10_19 : Dec method_6_code 19 (.castore) 1 20 := ⟨by decide +kernel, rfl⟩
theorem db11_0 : Dec prog_37_method_1_code 0 (.getstatic 19) 3 3 := ⟨by decide +kernel, rfl⟩
theorem db11_3 : Dec prog_37_method_1_code 3 (.invokevirtual 23) 3 6 := ⟨by decide +kernel, rfl⟩
theorem db11_6 : Dec prog_37_method_1_code 6 (.checkcast 24) 3 9 := ⟨by decide +kernel, rfl⟩
theorem db11_9 : Dec prog_37_method_1_code 9 (.areturn) 1 10 := ⟨by decide +kernel, rfl⟩
theorem db12_12 : Dec prog_37_method_5_code 12 (.iload 4) 2 14 := ⟨by decide +kernel, rfl⟩
theorem db12_14 : Dec prog_37_method_5_code 14 (.iload_n 3) 1 15 := ⟨by decide +kernel, rfl⟩
theorem db12_15 : DecJ prog_37_method_5_code 15 (.if_icmp .ge 33) (33) 18 48 := ⟨by decide +kernel, rfl, by decide, by decide⟩
theorem db12_48 : Dec prog_37_method_5_code 48 (.aload_n 1) 1 49 := ⟨by decide +kernel, rfl⟩
theorem db12_49 : Dec prog_37_method_5_code 49 (.areturn) 1 50 := ⟨by decide +kernel, rfl⟩
theorem db12_18 : Dec prog_37_method_5_code 18 (.aload_n 2) 1 19 := ⟨by decide +kernel, rfl⟩
theorem db12_19 : Dec prog_37_method_5_code 19 (.iload 4) 2 21 := ⟨by decide +kernel, rfl⟩
theorem db12_21 : Dec prog_37_method_5_code 21 (.aaload) 1 22 := ⟨by decide +kernel, rfl⟩
theorem db12_22 : Dec prog_37_method_5_code 22 (.astore 5) 2 24 := ⟨by decide +kernel, rfl⟩
theorem db12_24 : Dec prog_37_method_5_code 24 (.aload 5) 2 26 := ⟨by decide +kernel, rfl⟩
theorem db12_26 : Dec prog_37_method_5_code 26 (.getfield 38) 3 29 := ⟨by decide +kernel, rfl⟩
theorem db12_29 : Dec prog_37_method_5_code 29 (.aload_n 0) 1 30 := ⟨by decide +kernel, rfl⟩
theorem db12_30 : Dec prog_37_method_5_code 30 (.invokevirtual 46) 3 33 := ⟨by decide +kernel, rfl⟩
theorem db12_33 : DecJ prog_37_method_5_code 33 (.ifCond .eq 9) (9) 36 42 := ⟨by decide +kernel, rfl, by decide, by decide⟩
theorem db12_36 : Dec prog_37_method_5_code 36 (.aload 5) 2 38 := ⟨by decide +kernel, rfl⟩
theorem db12_38 : Dec prog_37_method_5_code 38 (.astore_n 1) 1 39 := ⟨by decide +kernel, rfl⟩
theorem db12_39 : DecJ prog_37_method_5_code 39 (.goto 9) (9) 42 48 := ⟨by decide +kernel, rfl, by decide, by decide⟩
theorem db12_42 : Dec prog_37_method_5_code 42 (.iinc 4 1) 3 45 := ⟨by decide +kernel, rfl⟩
theorem db12_45 : DecJ prog_37_method_5_code 45 (.goto (-33)) (-33) 48 12 := ⟨by decide +kernel, rfl, by decide, by decide⟩
theorem db12_0 : Dec prog_37_method_5_code 0 (.aconst_null) 1 1 := ⟨by decide +kernel, rfl⟩
theorem db12_1 : Dec prog_37_method_5_code 1 (.astore_n 1) 1 2 := ⟨by decide +kernel, rfl⟩
theorem db12_2 : Dec prog_37_method_5_code 2 (.invokestatic 42) 3 5 := ⟨by decide +kernel, rfl⟩
theorem db12_5 : Dec prog_37_method_5_code 5 (.astore_n 2) 1 6 := ⟨by decide +kernel, rfl⟩
theorem db12_6 : Dec prog_37_method_5_code 6 (.aload_n 2) 1 7 := ⟨by decide +kernel, rfl⟩
theorem db12_7 : Dec prog_37_method_5_code 7 (.arraylength) 1 8 := ⟨by decide +kernel, rfl⟩
theorem db12_8 : Dec prog_37_method_5_code 8 (.istore_n 3) 1 9 := ⟨by decide +kernel, rfl⟩
theorem db12_9 : Dec prog_37_method_5_code 9 (.iconst 0) 1 10 := ⟨by decide +kernel, rfl⟩
theorem db12_10 : Dec prog_37_method_5_code 10 (.istore 4) 2 12 := ⟨by decide +kernel, rfl⟩
theorem db13_0 : Dec prog_37_method_4_code 0 (.aload_n 0) 1 1 := ⟨by decide +kernel, rfl⟩
theorem db13_1 : Dec prog_37_method_4_code 1 (.getfield 38) 3 4 := ⟨by decide +kernel, rfl⟩
theorem db13_4 : Dec prog_37_method_4_code 4 (.areturn) 1 5 := ⟨by decide +kernel, rfl⟩
theorem dL_227 : Dec code 227 (.aload 10) 2 229 := ⟨by decide +kernel, rfl⟩
theorem dL_229 : Dec code 229 (.invokestatic 27) 3 232 := ⟨by decide +kernel, rfl⟩
theorem dL_232 : Dec code 232 (.astore 12) 2 234 := ⟨by decide +kernel, rfl⟩
theorem dL_234 : Dec code 234 (.aload 12) 2 236 := ⟨by decide +kernel, rfl⟩
theorem dL_236 : Dec code 236 (.aload 11) 2 238 := ⟨by decide +kernel, rfl⟩
theorem dL_238 : DecJ code 238 (.if_acmp .eq 5) (5) 241 243 := ⟨by decide +kernel, rfl, by decide, by decide⟩
theorem dL_243 : Dec code 243 (.aload 12) 2 245 := ⟨by decide +kernel, rfl⟩
theorem dL_245 : DecJ code 245 (.ifnull 18) (18) 248 263 := ⟨by decide +kernel, rfl, by decide, by decide⟩
theorem dL_248 : Dec code 248 (.aload 12) 2 250 := ⟨by decide +kernel, rfl⟩
theorem dL_250 : Dec code 250 (.invokevirtual 33) 3 253 := ⟨by decide +kernel, rfl⟩
theorem dL_253 : Dec code 253 (.aload 10) 2 255 := ⟨by decide +kernel, rfl⟩
theorem dL_255 : Dec code 255 (.invokevirtual 37) 3 258 := ⟨by decide +kernel, rfl⟩
theorem dL_258 : DecJ code 258 (.ifCond .ne 5) (5) 261 263 := ⟨by decide +kernel, rfl, by decide, by decide⟩
theorem dL_263 : Dec code 263 (.iconst 1) 1 264 := ⟨by decide +kernel, rfl⟩
theorem dL_264 : Dec code 264 (.ireturn) 1 265 := ⟨by decide +kernel, rfl⟩
theorem dL_0 : Dec code 0 (.iload_n 0) 1 1 := ⟨by decide +kernel, rfl⟩
theorem dL_1 : Dec code 1 (.ldc 7) 2 3 := ⟨by decide +kernel, rfl⟩
theorem dL_3 : Dec code 3 (.iand) 1 4 := ⟨by decide +kernel, rfl⟩
theorem dL_4 : Dec code 4 (.iconst 5) 1 5 := ⟨by decide +kernel, rfl⟩
theorem dL_5 : Dec code 5 (.irem) 1 6 := ⟨by decide +kernel, rfl⟩
theorem dL_6 : Dec code 6 (.istore 4) 2 8 := ⟨by decide +kernel, rfl⟩
theorem dL_8 : Dec code 8 (.iload_n 1) 1 9 := ⟨by decide +kernel, rfl⟩
theorem dL_9 : Dec code 9 (.ldc 7) 2 11 := ⟨by decide +kernel, rfl⟩
theorem dL_11 : Dec code 11 (.iand) 1 12 := ⟨by decide +kernel, rfl⟩
theorem dL_12 : Dec code 12 (.bipush 6) 2 14 := ⟨by decide +kernel, rfl⟩
theorem dL_14 : Dec code 14 (.irem) 1 15 := ⟨by decide +kernel, rfl⟩
theorem dL_15 : Dec code 15 (.istore 5) 2 17 := ⟨by decide +kernel, rfl⟩
theorem dL_17 : Dec code 17 (.iload_n 3) 1 18 := ⟨by decide +kernel, rfl⟩
theorem dL_18 : Dec code 18 (.sipush 255) 3 21 := ⟨by decide +kernel, rfl⟩
theorem dL_21 : Dec code 21 (.iand) 1 22 := ⟨by decide +kernel, rfl⟩
theorem dL_22 : Dec code 22 (.i2c) 1 23 := ⟨by decide +kernel, rfl⟩
theorem dL_23 : Dec code 23 (.istore 6) 2 25 := ⟨by decide +kernel, rfl⟩
theorem dL_25 : Dec code 25 (.iload 4) 2 27 := ⟨by decide +kernel, rfl⟩
theorem dL_27 : Dec code 27 (.invokestatic 8) 3 30 := ⟨by decide +kernel, rfl⟩
theorem dL_30 : Dec code 30 (.astore 7) 2 32 := ⟨by decide +kernel, rfl⟩
theorem dL_32 : Dec code 32 (.aload 7) 2 34 := ⟨by decide +kernel, rfl⟩
theorem dL_34 : Dec code 34 (.arraylength) 1 35 := ⟨by decide +kernel, rfl⟩
theorem dL_35 : Dec code 35 (.istore 8) 2 37 := ⟨by decide +kernel, rfl⟩
theorem dL_37 : Dec code 37 (.iload 4) 2 39 := ⟨by decide +kernel, rfl⟩
theorem dL_39 : Dec code 39 (.invokestatic 14) 3 42 := ⟨by decide +kernel, rfl⟩
theorem dL_42 : Dec code 42 (.astore 9) 2 44 := ⟨by decide +kernel, rfl⟩
theorem dL_44 : Dec code 44 (.iload 5) 2 46 := ⟨by decide +kernel, rfl⟩
theorem dL_46 : DecJ code 46 (.ifCond .ne 29) (29) 49 75 := ⟨by decide +kernel, rfl, by decide, by decide⟩
theorem dL_49 : Dec code 49 (.new 18) 3 52 := ⟨by decide +kernel, rfl⟩
theorem dL_52 : Dec code 52 (.dup) 1 53 := ⟨by decide +kernel, rfl⟩
theorem dL_53 : Dec code 53 (.aload 7) 2 55 := ⟨by decide +kernel, rfl⟩
theorem dL_55 : Dec code 55 (.iload 8) 2 57 := ⟨by decide +kernel, rfl⟩
theorem dL_57 : Dec code 57 (.iconst (-1)) 1 58 := ⟨by decide +kernel, rfl⟩
theorem dL_58 : Dec code 58 (.iload 6) 2 60 := ⟨by decide +kernel, rfl⟩
theorem dL_60 : Dec code 60 (.invokestatic 20) 3 63 := ⟨by decide +kernel, rfl⟩
theorem dL_63 : Dec code 63 (.invokespecial 24) 3 66 := ⟨by decide +kernel, rfl⟩
theorem dL_66 : Dec code 66 (.astore 10) 2 68 := ⟨by decide +kernel, rfl⟩
theorem dL_68 : Dec code 68 (.aload 9) 2 70 := ⟨by decide +kernel, rfl⟩
theorem dL_70 : Dec code 70 (.astore 11) 2 72 := ⟨by decide +kernel, rfl⟩
theorem dL_72 : DecJ code 72 (.goto 155) (155) 75 227 := ⟨by decide +kernel, rfl, by decide, by decide⟩
theorem dL_75 : Dec code 75 (.iload 5) 2 77 := ⟨by decide +kernel, rfl⟩
theorem dL_77 : Dec code 77 (.iconst 1) 1 78 := ⟨by decide +kernel, rfl⟩
theorem dL_78 : DecJ code 78 (.if_icmp .ne 53) (53) 81 131 := ⟨by decide +kernel, rfl, by decide, by decide⟩
theorem dL_81 : Dec code 81 (.iload_n 2) 1 82 := ⟨by decide +kernel, rfl⟩
theorem dL_82 : Dec code 82 (.ldc 7) 2 84 := ⟨by decide +kernel, rfl⟩
theorem dL_84 : Dec code 84 (.iand) 1 85 := ⟨by decide +kernel, rfl⟩
theorem dL_85 : Dec code 85 (.iload 8) 2 87 := ⟨by decide +kernel, rfl⟩
theorem dL_87 : Dec code 87 (.irem) 1 88 := ⟨by decide +kernel, rfl⟩
theorem dL_88 : Dec code 88 (.istore 12) 2 90 := ⟨by decide +kernel, rfl⟩
theorem dL_90 : Dec code 90 (.new 18) 3 93 := ⟨by decide +kernel, rfl⟩
theorem dL_93 : Dec code 93 (.dup) 1 94 := ⟨by decide +kernel, rfl⟩
theorem dL_94 : Dec code 94 (.aload 7) 2 96 := ⟨by decide +kernel, rfl⟩
theorem dL_96 : Dec code 96 (.iload 8) 2 98 := ⟨by decide +kernel, rfl⟩
theorem dL_98 : Dec code 98 (.iload 12) 2 100 := ⟨by decide +kernel, rfl⟩
theorem dL_100 : Dec code 100 (.iload 6) 2 102 := ⟨by decide +kernel, rfl⟩
theorem dL_102 : Dec code 102 (.invokestatic 20) 3 105 := ⟨by decide +kernel, rfl⟩
theorem dL_105 : Dec code 105 (.invokespecial 24) 3 108 := ⟨by decide +kernel, rfl⟩
theorem dL_108 : Dec code 108 (.astore 10) 2 110 := ⟨by decide +kernel, rfl⟩
theorem dL_110 : Dec code 110 (.aload 7) 2 112 := ⟨by decide +kernel, rfl⟩
theorem dL_112 : Dec code 112 (.iload 12) 2 114 := ⟨by decide +kernel, rfl⟩
theorem dL_114 : Dec code 114 (.caload) 1 115 := ⟨by decide +kernel, rfl⟩
theorem dL_115 : Dec code 115 (.iload 6) 2 117 := ⟨by decide +kernel, rfl⟩
theorem dL_117 : DecJ code 117 (.if_icmp .ne 8) (8) 120 125 := ⟨by decide +kernel, rfl, by decide, by decide⟩
theorem dL_125 : Dec code 125 (.aconst_null) 1 126 := ⟨by decide +kernel, rfl⟩
theorem dL_126 : Dec code 126 (.astore 11) 2 128 := ⟨by decide +kernel, rfl⟩
theorem dL_128 : DecJ code 128 (.goto 99) (99) 131 227 := ⟨by decide +kernel, rfl, by decide, by decide⟩
theorem dL_120 : Dec code 120 (.aload 9) 2 122 := ⟨by decide +kernel, rfl⟩
theorem dL_122 : DecJ code 122 (.goto 4) (4) 125 126 := ⟨by decide +kernel, rfl, by decide, by decide⟩
theorem dL_131 : Dec code 131 (.iload 5) 2 133 := ⟨by decide +kernel, rfl⟩
theorem dL_133 : Dec code 133 (.iconst 2) 1 134 := ⟨by decide +kernel, rfl⟩
theorem dL_134 : DecJ code 134 (.if_icmp .ne 30) (30) 137 164 := ⟨by decide +kernel, rfl, by decide, by decide⟩
theorem dL_137 : Dec code 137 (.new 18) 3 140 := ⟨by decide +kernel, rfl⟩
theorem dL_140 : Dec code 140 (.dup) 1 141 := ⟨by decide +kernel, rfl⟩
theorem dL_141 : Dec code 141 (.aload 7) 2 143 := ⟨by decide +kernel, rfl⟩
theorem dL_143 : Dec code 143 (.iload 8) 2 145 := ⟨by decide +kernel, rfl⟩
theorem dL_145 : Dec code 145 (.iconst 1) 1 146 := ⟨by decide +kernel, rfl⟩
theorem dL_146 : Dec code 146 (.isub) 1 147 := ⟨by decide +kernel, rfl⟩
theorem dL_147 : Dec code 147 (.iconst (-1)) 1 148 := ⟨by decide +kernel, rfl⟩
theorem dL_148 : Dec code 148 (.iload 6) 2 150 := ⟨by decide +kernel, rfl⟩
theorem dL_150 : Dec code 150 (.invokestatic 20) 3 153 := ⟨by decide +kernel, rfl⟩
theorem dL_153 : Dec code 153 (.invokespecial 24) 3 156 := ⟨by decide +kernel, rfl⟩
theorem dL_156 : Dec code 156 (.astore 10) 2 158 := ⟨by decide +kernel, rfl⟩
theorem dL_158 : Dec code 158 (.aconst_null) 1 159 := ⟨by decide +kernel, rfl⟩
theorem dL_159 : Dec code 159 (.astore 11) 2 161 := ⟨by decide +kernel, rfl⟩
theorem dL_161 : DecJ code 161 (.goto 66) (66) 164 227 := ⟨by decide +kernel, rfl, by decide, by decide⟩
theorem dL_164 : Dec code 164 (.iload 5) 2 166 := ⟨by decide +kernel, rfl⟩
theorem dL_166 : Dec code 166 (.iconst 3) 1 167 := ⟨by decide +kernel, rfl⟩
theorem dL_167 : DecJ code 167 (.if_icmp .ne 30) (30) 170 197 := ⟨by decide +kernel, rfl, by decide, by decide⟩
theorem dL_170 : Dec code 170 (.new 18) 3 173 := ⟨by decide +kernel, rfl⟩
theorem dL_173 : Dec code 173 (.dup) 1 174 := ⟨by decide +kernel, rfl⟩
theorem dL_174 : Dec code 174 (.aload 7) 2 176 := ⟨by decide +kernel, rfl⟩
theorem dL_176 : Dec code 176 (.iload 8) 2 178 := ⟨by decide +kernel, rfl⟩
theorem dL_178 : Dec code 178 (.iconst 1) 1 179 := ⟨by decide +kernel, rfl⟩
theorem dL_179 : Dec code 179 (.iadd) 1 180 := ⟨by decide +kernel, rfl⟩
theorem dL_180 : Dec code 180 (.iconst (-1)) 1 181 := ⟨by decide +kernel, rfl⟩
theorem dL_181 : Dec code 181 (.iload 6) 2 183 := ⟨by decide +kernel, rfl⟩
theorem dL_183 : Dec code 183 (.invokestatic 20) 3 186 := ⟨by decide +kernel, rfl⟩
theorem dL_186 : Dec code 186 (.invokespecial 24) 3 189 := ⟨by decide +kernel, rfl⟩
theorem dL_189 : Dec code 189 (.astore 10) 2 191 := ⟨by decide +kernel, rfl⟩
theorem dL_191 : Dec code 191 (.aconst_null) 1 192 := ⟨by decide +kernel, rfl⟩
theorem dL_192 : Dec code 192 (.astore 11) 2 194 := ⟨by decide +kernel, rfl⟩
theorem dL_194 : DecJ code 194 (.goto 33) (33) 197 227 := ⟨by decide +kernel, rfl, by decide, by decide⟩
theorem dL_197 : Dec code 197 (.iload 5) 2 199 := ⟨by decide +kernel, rfl⟩
theorem dL_199 : Dec code 199 (.iconst 4) 1 200 := ⟨by decide +kernel, rfl⟩
theorem dL_200 : DecJ code 200 (.if_icmp .ne 12) (12) 203 212 := ⟨by decide +kernel, rfl, by decide, by decide⟩
theorem dL_203 : Dec code 203 (.aconst_null) 1 204 := ⟨by decide +kernel, rfl⟩
theorem dL_204 : Dec code 204 (.astore 10) 2 206 := ⟨by decide +kernel, rfl⟩
theorem dL_206 : Dec code 206 (.aconst_null) 1 207 := ⟨by decide +kernel, rfl⟩
theorem dL_207 : Dec code 207 (.astore 11) 2 209 := ⟨by decide +kernel, rfl⟩
theorem dL_209 : DecJ code 209 (.goto 18) (18) 212 227 := ⟨by decide +kernel, rfl, by decide, by decide⟩
theorem dL_212 : Dec code 212 (.new 18) 3 215 := ⟨by decide +kernel, rfl⟩
theorem dL_215 : Dec code 215 (.dup) 1 216 := ⟨by decide +kernel, rfl⟩
theorem dL_216 : Dec code 216 (.iconst 0) 1 217 := ⟨by decide +kernel, rfl⟩
theorem dL_217 : Dec code 217 (.newarray .char) 2 219 := ⟨by decide +kernel, rfl⟩
theorem dL_219 : Dec code 219 (.invokespecial 24) 3 222 := ⟨by decide +kernel, rfl⟩
theorem dL_222 : Dec code 222 (.astore 10) 2 224 := ⟨by decide +kernel, rfl⟩
theorem dL_224 : Dec code 224 (.aconst_null) 1 225 := ⟨by decide +kernel, rfl⟩
theorem dL_225 : Dec code 225 (.astore 11) 2 227 := ⟨by decide +kernel, rfl⟩
def Base (Z : State) (a0 : Array Value) (EL : List (String × Nat)) : Prop := (∀ d ∈ tables_1, d.before a0 Z = true) ∧ EW Z a0 EL ∧ (∃ z, Sta Z Z.heap ST "COMPACT_STRINGS" "Z" (.int z) ∧ ¬ z = 0) ∧ (∃ v, Sta Z Z.heap "jdk/internal/util/Preconditions" "SIOOBE_FORMATTER" "Ljava/util/function/BiFunction;" v ∧ v.isRef = true) ∧ True
section
variable {l : Launch} {Z : State} {a0 : Array Value} {EL : List (String × Nat)} {nw : Bool}
def Qcmp5 (Z : State) (h : Heap) (d : Addr) (cs : List Int32) : Value → Heap → Prop := fun v h' => Keep h h' [d] ∧ h'.size = h.size ∧ ((v = .int (Int32.ofNat cs.length) ∧ (∀ c ∈ cs, ¬ (255 : Int32) < c) ∧ Arl Z h' d .byte (lat cs)) ∨ (∃ i c, i < cs.length ∧ v = .int (Int32.ofNat i) ∧ cs[i]? = some c ∧ (255 : Int32) < c))
theorem J_cmp5L {p : Program} {e : Env} {R : Room} {s : State} {m : MethodId} {args : Array Value} {below : List Frame} {meth : Method} {c : Code} {own mn : String} {w : Nat} {h : Heap} {b d : Addr} {cs : List Int32} (C : Cxt p m meth c Z a0 EL own mn jdk_52_method_21_code 7 (some .int) tables_1) (A : Arl Z h b .char (ints cs)) (nd : Z.heap.size ≤ d) (hbd : b ≠ d) :
    ∀ (r i : Nat) (hi : Heap) (x6 : Slot), okS x6 = true → i + r = cs.length → Keep h hi [d] → hi.size = h.size → Arl Z hi d .byte (lat (cs.take i) ++ List.replicate r (.int 0)) → (∀ c ∈ cs.take i, ¬ (255 : Int32) < c) →
      Goes p l e R s m args below meth c Z EL nw (rR (Qcmp5 Z h d cs)) [d] w hi 0 0 (mkF m 3 ⟨[.val (.ref b), .val (.int (Int32.ofNat i)), .val (.ref d), .val (.int (Int32.ofNat i)), .val (.int (Int32.ofNat cs.length)), .val (.int (Int32.ofNat i)), x6]⟩ []) := by
  have hN : cs.length < 2 ^ 31 := by have := A.len; rwa [ints_length] at this
  intro r
  induction r with
  | zero =>
    intro i hi x6 hx hir K sz AD hl
    obtain rfl : i = cs.length := by omega
    refine C.iload db0_3 rfl ?_
    refine C.iload db0_5 rfl ?_
    refine C.icmp_ge db0_7 (fun _ => ?_) (fun q => absurd q (fun q => by rw [ofNat_lt hN hN] at q; omega))
    refine C.iload db0_44 rfl ?_
    exact C.ireturn db0_46 rfl (Or.inl rfl) rfl ⟨_, rfl, K, sz, Or.inl ⟨rfl, by simpa using hl, by simpa using AD⟩⟩ (Nat.zero_le _) (Nat.zero_le _)
  | succ r ih =>
    intro i hi x6 hx hir K sz AD hl
    have hlt : i < cs.length := by omega
    have hch : cs[i]? = some cs[i] := List.getElem?_eq_getElem hlt
    generalize cs[i] = ch at hch
    have hI := ofNat_idx (i := i) (by omega)
    refine C.iload db0_3 rfl ?_
    refine C.iload db0_5 rfl ?_
    refine C.icmp_ge db0_7 (fun q => absurd ((ofNat_lt (by omega) hN).mpr hlt) q) (fun _ => ?_)
    refine C.aloadN db0_10 rfl rfl ?_
    refine C.iloadN db0_11 rfl ?_
    refine C.caload db0_12 (A.keep K (by simpa using hbd)) hI.1 hI.2 (ints_get hch) ?_
    refine C.istore db0_13 rfl hx ?_
    refine C.iload db0_15 rfl ?_
    refine C.sipush (255) db0_17 rfl ?_
    refine C.icmp_le db0_20 (fun q => ?_) (fun q => ?_)
    · refine C.aloadN db0_26 rfl rfl ?_
      refine C.iloadN db0_27 rfl ?_
      refine C.iload db0_28 rfl ?_
      refine C.i2b db0_30 ?_
      refine C.bastore db0_31 AD hI.1 hI.2 (by simp [lat]; omega) nd (Or.inl (List.mem_singleton.mpr rfl)) ?_
      intro h2 W2 A2
      refine C.iinc (1) db0_32 rfl rfl ?_
      refine C.iinc (1) db0_35 rfl rfl ?_
      refine C.iinc (1) db0_38 rfl rfl ?_
      refine C.goto db0_41 ?_
      rw [ofNat_succ]
      refine ih (i + 1) h2 _ rfl (by omega) (K.wr W2 (Or.inl (List.mem_singleton.mpr rfl))) (W2.size.trans sz) ?_ ?_
      · have e : lat (cs.take (i + 1)) = lat (cs.take i) ++ [.int (nar .byte (b8 ch))] := by
          rw [List.take_add_one, hch]; simp [lat, nar_b8, b8_b8]
        rw [e, ← fill_step (i := i) (by rw [lat_length, List.length_take]; omega)]; exact A2
      · rw [List.take_add_one, hch]
        intro c hc
        rcases List.mem_append.mp hc with z | z
        · exact hl c z
        · simp at z; subst z; exact q
    · refine C.iload db0_23 rfl ?_
      exact C.ireturn db0_25 rfl (Or.inl rfl) rfl ⟨_, rfl, K, sz, Or.inr ⟨i, ch, hlt, rfl, hch, q⟩⟩ (Nat.zero_le _) (Nat.zero_le _)
theorem J_cmp5 (B : Base Z a0 EL) {h : Heap} {b d : Addr} {cs : List Int32} (A : Arl Z h b .char (ints cs)) (AD : Arl Z h d .byte (List.replicate cs.length (.int 0))) (nd : Z.heap.size ≤ d) (hbd : b ≠ d) :
    Con l Z EL nw (⟨"java/lang/StringUTF16", "compress", "([CI[BII)I"⟩ : MethodName) jdk_52_method_21_code 7 (some .int) (RM 0 0 0 0) [d] #[.ref b, .int 0, .ref d, .int 0, .int (Int32.ofNat cs.length)] h (rR (Qcmp5 Z h d cs)) := by
  refine Con.of (plainFor_of_name (by decide +kernel)) B.1 B.2.1 ⟨[.val (.ref b), .val (.int 0), .val (.ref d), .val (.int 0), .val (.int (Int32.ofNat cs.length)), .unset, .unset]⟩ (fun m => rfl) ?_
  intro p e s m below meth c _ C
  refine C.iconst (0) db0_0 rfl ?_
  refine C.istore db0_1 rfl rfl ?_
  exact J_cmp5L C A nd hbd cs.length 0 h .unset rfl (by omega) (Keep.refl _ _) rfl (by simpa [lat] using AD) (by simp)
theorem J_codl (B : Base Z a0 EL) {h : Heap} {d : Addr} {vs : List Value} {n : Nat} {r : Int32} (A : Arl Z h d .byte vs) (hr : b8 (XT.ushr (Int32.ofNat n - Int32.ofNat vs.length) 31) = r) :
    Con l Z EL nw (⟨"java/lang/StringUTF16", "coderFromArrayLen", "([BI)B"⟩ : MethodName) jdk_52_method_15_code 2 (some .byte) (RM 0 0 0 0) [] #[.ref d, .int (Int32.ofNat n)] h (rR fun v h' => v = .int r ∧ h = h') := by
  refine Con.of (plainFor_of_name (by decide +kernel)) B.1 B.2.1 ⟨[.val (.ref d), .val (.int (Int32.ofNat n))]⟩ (fun m => rfl) ?_
  intro p e s m below meth c _ C
  refine C.iloadN db1_0 rfl ?_
  refine C.aloadN db1_1 rfl rfl ?_
  refine C.arraylength db1_2 A ?_
  refine C.isub db1_3 ?_
  refine C.bipush (31) db1_4 rfl ?_
  refine C.iushr db1_6 ?_
  refine C.i2b db1_7 ?_
  exact C.ireturn db1_8 rfl (Or.inr (Or.inr (Or.inl rfl))) (narrow_byte _) ⟨_, rfl, by rw [hr], rfl⟩ (Nat.zero_le _) (Nat.zero_le _)
theorem J_cmp3 (B : Base Z a0 EL) {h : Heap} {b : Addr} {cs : List Int32} (hL : ∀ c ∈ cs, ¬ (255 : Int32) < c) (hn : cs.length ≤ 4000) (A : Arl Z h b .char (ints cs)) :
    Con l Z EL nw (⟨"java/lang/StringUTF16", "compress", "([CII)[B"⟩ : MethodName) jdk_52_method_16_code 6 (some (.array .byte)) (RM 1 18 1 cs.length) [] #[.ref b, .int 0, .int (Int32.ofNat cs.length)] h (rR fun v h' => ∃ t, v = .ref t ∧ h.size ≤ t ∧ Ext h h' ∧ Arl Z h' t .byte (lat cs)) := by
  have hI := ofNat_idx (i := cs.length) (by omega)
  refine Con.of (plainFor_of_name (by decide +kernel)) B.1 B.2.1 ⟨[.val (.ref b), .val (.int 0), .val (.int (Int32.ofNat cs.length)), .unset, .unset, .unset]⟩ (fun m => rfl) ?_
  intro p e s m below meth c _ C
  refine Goes.old fun O => ?_
  refine C.iloadN db2_0 rfl ?_
  refine C.newarray db2_1 tw36 hI.1 hI.2 (by omega) (le rfl) (by show 0 + cs.length ≤ cs.length; omega) ?_
  intro h1 d g1 E1 l1 A1
  have hbd : @Ne Nat b d := adr_ne A.lt (Nat.le_of_eq g1.symm)
  refine C.astoreN db2_3 rfl rfl rfl ?_
  refine C.aloadN db2_4 rfl rfl ?_
  refine C.iloadN db2_5 rfl ?_
  refine C.aloadN db2_6 rfl rfl ?_
  refine C.iconst (0) db2_7 rfl ?_
  refine C.iloadN db2_8 rfl ?_
  refine C.s5R db2_9 tw37 tw38 tw34 tw39 (by decide) (by decide +kernel) rfl (by simp) (J_cmp5 B (A.ext E1) A1 (by rw [g1]; exact O.1) hbd) (le rfl) (le rfl) (le rfl) (by show 0 + cs.length + 0 ≤ cs.length; omega) ?_
  rintro v h2 ⟨K2, sz2, hv⟩
  have hv' : v = .int (Int32.ofNat cs.length) ∧ Arl Z h2 d .byte (lat cs) := by
    rcases hv with ⟨q1, -, q3⟩ | ⟨i, c, -, -, q4, q5⟩
    · exact ⟨q1, q3⟩
    · exact absurd q5 (hL c (List.mem_of_getElem? q4))
  obtain ⟨rfl, A2⟩ := hv'
  refine C.istore db2_12 rfl rfl ?_
  refine C.iload db2_14 rfl ?_
  refine C.iloadN db2_16 rfl ?_
  refine C.icmp_eq db2_17 (fun _ => ?_) (fun q => absurd rfl q)
  refine C.aloadN db2_57 rfl rfl ?_
  exact C.areturn db2_58 rfl rfl rfl rfl ⟨_, rfl, d, rfl, by omega, ext_of_keep E1 K2 (by simp; omega), A2⟩ (le rfl) (by show 0 + cs.length + 0 ≤ cs.length; omega)
theorem J_new4l (B : Base Z a0 EL) {h : Heap} {a b : Addr} {cs : List Int32} (hc : ∀ c ∈ cs, IsC c) (h0 : cs ≠ []) (hL : ∀ c ∈ cs, ¬ (255 : Int32) < c) (hn : cs.length ≤ 4000) (A : Arl Z h b .char (ints cs)) (na : Z.heap.size ≤ a) (E : Exa Z h a ST) (Fv : Fld Z h a ST "value" "[B" .null) (Fc : Fld Z h a ST "coder" "B" (.int 0)) :
    Con l Z EL nw (⟨"java/lang/String", "<init>", "([CIILjava/lang/Void;)V"⟩ : MethodName) jdk_42_method_149_code 6 none (RM 2 35 1 cs.length) [a] #[.ref a, .ref b, .int 0, .int (Int32.ofNat cs.length), .null] h (rV fun h' => Keep h h' [a] ∧ StrAt Z h' a cs) := by
  obtain ⟨z, Sz, hz⟩ := B.2.2.1
  refine Con.of (plainFor_of_name (by decide +kernel)) B.1 B.2.1 ⟨[.val (.ref a), .val (.ref b), .val (.int 0), .val (.int (Int32.ofNat cs.length)), .val .null, .unset]⟩ (fun m => rfl) ?_
  intro p e s m below meth c _ C
  refine C.aloadN db3_0 rfl rfl ?_
  refine C.initO db3_1 tw28 tw29 tw30 rfl (le rfl) (le rfl) ?_
  refine C.iloadN db3_4 rfl ?_
  refine C.if_ne db3_5 (fun _ => ?_) (fun q => absurd (ofNat_inj (j := 0) (by omega) (by omega) q) (fun q => h0 (List.length_eq_zero_iff.mp q)))
  refine C.getS db3_27 tw31 Sz ?_
  refine C.if_eq db3_30 (fun q => absurd q hz) (fun _ => ?_)
  refine C.aloadN db3_33 rfl rfl ?_
  refine C.iloadN db3_34 rfl ?_
  refine C.iloadN db3_35 rfl ?_
  refine C.s3R db3_36 tw32 tw33 tw34 tw35 (by decide) (by decide +kernel) rfl nof (J_cmp3 B hL hn A) (le rfl) (le rfl) (le rfl) (by show 0 + cs.length ≤ cs.length; omega) ?_
  rintro v h1 ⟨t, rfl, nt, E1, A1⟩
  refine C.astore db3_39 rfl rfl rfl ?_
  refine C.aloadN db3_41 rfl rfl ?_
  refine C.aload db3_42 rfl rfl ?_
  refine C.iloadN db3_44 rfl ?_
  refine C.s2R db3_45 tw40 tw41 tw34 tw42 (by decide) (by decide +kernel) rfl nof (J_codl B (n := cs.length) (r := 0) A1 (by rw [lat_length, Int32.sub_self]; rfl)) (le rfl) (le rfl) (le rfl) (by show 0 + cs.length + 0 ≤ cs.length; omega) ?_
  rintro v h2 ⟨rfl, rfl⟩
  refine C.putF (ty := .byte) db3_48 tw43 (Fc.ext E1) (E.ext E1) (Or.inr ⟨tw44, rfl, rfl⟩) tw13 (by decide +kernel) rfl rfl na (Or.inl (List.mem_singleton.mpr rfl)) ?_
  intro h3 W3
  have nvc : RoadKit.slotOf Z ST "value" "[B" ≠ RoadKit.slotOf Z ST "coder" "B" := slot_ne (C := ST) (a0 := a0) (Or.inr (C.wrd tw46)) (Or.inr (C.wrd tw44)) (by decide) (t := .array .byte) (t' := .byte) (by decide +kernel) (by decide +kernel)
  refine C.aloadN db3_51 rfl rfl ?_
  refine C.aload db3_52 rfl rfl ?_
  refine C.putF (ty := (.array .byte)) db3_54 tw45 ((Fv.ext E1).other W3 (Or.inr nvc)) ((E.ext E1).wr W3) (Or.inr ⟨tw46, rfl, rfl⟩) tw13 (by decide +kernel) rfl rfl na (Or.inl (List.mem_singleton.mpr rfl)) ?_
  intro h4 W4
  have ta : @Ne Nat t a := (adr_ne E.lt nt).symm
  refine C.return_ db3_57 rfl ⟨rfl, ((keep_ext E1 [a]).wr W3 (Or.inl (List.mem_singleton.mpr rfl))).wr W4 (Or.inl (List.mem_singleton.mpr rfl)), t, 0, lat cs, ?_, ?_, ?_, ?_, Or.inl ⟨rfl, rfl, hL⟩, hc, hn⟩ (le rfl) (by show 0 + cs.length + 0 ≤ cs.length; omega)
  · exact ((E.ext E1).wr W3).wr W4
  · exact ((Fv.ext E1).other W3 (Or.inr nvc)).same W4
  · exact ((Fc.ext E1).same W3).other W4 (Or.inr nvc.symm)
  · exact (A1.other W3 ta).other W4 ta
theorem J_new1l (B : Base Z a0 EL) {h : Heap} {a b : Addr} {cs : List Int32} (hc : ∀ c ∈ cs, IsC c) (h0 : cs ≠ []) (hL : ∀ c ∈ cs, ¬ (255 : Int32) < c) (hn : cs.length ≤ 4000) (A : Arl Z h b .char (ints cs)) (na : Z.heap.size ≤ a) (E : Exa Z h a ST) (Fv : Fld Z h a ST "value" "[B" .null) (Fc : Fld Z h a ST "coder" "B" (.int 0)) :
    Con l Z EL nw (⟨"java/lang/String", "<init>", "([C)V"⟩ : MethodName) jdk_42_method_3_code 2 none (RM 3 52 1 cs.length) [a] #[.ref a, .ref b] h (rV fun h' => Keep h h' [a] ∧ StrAt Z h' a cs) := by
  refine Con.of (plainFor_of_name (by decide +kernel)) B.1 B.2.1 ⟨[.val (.ref a), .val (.ref b)]⟩ (fun m => rfl) ?_
  intro p e s m below meth c _ C
  refine C.aloadN db4_0 rfl rfl ?_
  refine C.aloadN db4_1 rfl rfl ?_
  refine C.iconst (0) db4_2 rfl ?_
  refine C.aloadN db4_3 rfl rfl ?_
  refine C.arraylength db4_4 A ?_
  rw [ints_length]
  refine C.aconst_null db4_5 ?_
  refine C.c4 db4_6 rfl tw24 tw25 tw14 tw27 (by decide) (by decide +kernel) rfl (fun _ q => Or.inl q) (J_new4l B hc h0 hL hn A na E Fv Fc) (le rfl) (le rfl) (le rfl) (by show 0 + cs.length ≤ cs.length; omega) ?_
  rintro h1 ⟨K1, S1⟩
  exact C.return_ db4_9 rfl ⟨rfl, K1, S1⟩ (le rfl) (by show 0 + cs.length ≤ cs.length; omega)
theorem J_atoms (B : Base Z a0 EL) : ∀ a ∈ Bundle.stringAtoms, a.before a0 Z = true := fun d hd => B.1 d ((by decide +kernel : ∀ d ∈ Bundle.stringAtoms, d ∈ tables_1) d hd)
def Qleq (h : Heap) (vs ws : List Value) : Value → Heap → Prop := fun v h' => ((v = .int 1 ∧ vs = ws) ∨ (v = .int 0 ∧ vs ≠ ws)) ∧ h = h'
theorem J_leqL {p : Program} {e : Env} {R : Room} {s : State} {m : MethodId} {args : Array Value} {below : List Frame} {meth : Method} {c : Code} {own mn : String} {w : Nat} {h : Heap} {t u : Addr} {vs ws : List Value} (C : Cxt p m meth c Z a0 EL own mn jdk_43_method_13_code 3 (some .boolean) tables_1) (A : Arl Z h t .byte vs) (D : Arl Z h u .byte ws) (hl : vs.length = ws.length) :
    ∀ (r i : Nat), i + r = vs.length → vs.take i = ws.take i → Goes p l e R s m args below meth c Z EL nw (rR (Qleq h vs ws)) [] w h 0 0 (mkF m 9 ⟨[.val (.ref t), .val (.ref u), .val (.int (Int32.ofNat i))]⟩ []) := by
  have hN := A.len
  intro r
  induction r with
  | zero =>
    intro i hir ht
    obtain rfl : i = vs.length := by omega
    refine C.iloadN db5_9 rfl ?_
    refine C.aloadN db5_10 rfl rfl ?_
    refine C.arraylength db5_11 A ?_
    refine C.icmp_ge db5_12 (fun _ => ?_) (fun q => absurd q (fun q => by rw [ofNat_lt hN hN] at q; omega))
    refine C.iconst (1) db5_32 rfl ?_
    exact C.ireturn db5_33 rfl (Or.inr (Or.inl rfl)) rfl ⟨_, rfl, Or.inl ⟨rfl, by rw [List.take_length, hl, List.take_length] at ht; exact ht⟩, rfl⟩ (Nat.zero_le _) (Nat.zero_le _)
  | succ r ih =>
    intro i hir ht
    have hlt : i < vs.length := by omega
    have hI := ofNat_idx (i := i) (by omega)
    have hv : vs[i]? = some vs[i] := List.getElem?_eq_getElem hlt
    have hw : ws[i]? = some (ws[i]'(by omega)) := List.getElem?_eq_getElem (by omega)
    obtain ⟨x, hx⟩ := A.intAt (List.mem_of_getElem? hv)
    obtain ⟨y, hy⟩ := D.intAt (List.mem_of_getElem? hw)
    rw [hx] at hv
    rw [hy] at hw
    refine C.iloadN db5_9 rfl ?_
    refine C.aloadN db5_10 rfl rfl ?_
    refine C.arraylength db5_11 A ?_
    refine C.icmp_ge db5_12 (fun q => absurd ((ofNat_lt (by omega) hN).mpr hlt) q) (fun _ => ?_)
    refine C.aloadN db5_15 rfl rfl ?_
    refine C.iloadN db5_16 rfl ?_
    refine C.baload db5_17 A hI.1 hI.2 hv ?_
    refine C.aloadN db5_18 rfl rfl ?_
    refine C.iloadN db5_19 rfl ?_
    refine C.baload db5_20 D hI.1 hI.2 hw ?_
    refine C.icmp_eq db5_21 (fun q => ?_) (fun q => ?_)
    · refine C.iinc (1) db5_26 rfl rfl ?_
      refine C.goto db5_29 ?_
      rw [ofNat_succ]
      refine ih (i + 1) (by omega) ?_
      rw [List.take_add_one, List.take_add_one, ht, hv, hw, q]
    · refine C.iconst (0) db5_24 rfl ?_
      exact C.ireturn db5_25 rfl (Or.inr (Or.inl rfl)) rfl ⟨_, rfl, Or.inr ⟨rfl, fun z => q (by rw [z, hw] at hv; simpa using hv.symm)⟩, rfl⟩ (Nat.zero_le _) (Nat.zero_le _)
theorem J_leq (B : Base Z a0 EL) {h : Heap} {t u : Addr} {vs ws : List Value} (A : Arl Z h t .byte vs) (D : Arl Z h u .byte ws) : Con l Z EL nw (⟨"java/lang/StringLatin1", "equals", "([B[B)Z"⟩ : MethodName) jdk_43_method_13_code 3 (some .boolean) (RM 0 0 0 0) [] #[.ref t, .ref u] h (rR (Qleq h vs ws)) := by
  refine Con.of (plainFor_of_name (by decide +kernel)) B.1 B.2.1 ⟨[.val (.ref t), .val (.ref u), .unset]⟩ (fun m => rfl) ?_
  intro p e s m below meth c _ C
  refine C.aloadN db5_0 rfl rfl ?_
  refine C.arraylength db5_1 A ?_
  refine C.aloadN db5_2 rfl rfl ?_
  refine C.arraylength db5_3 D ?_
  refine C.icmp_ne db5_4 (fun q => ?_) (fun q => ?_)
  · refine C.iconst (0) db5_34 rfl ?_
    exact C.ireturn db5_35 rfl (Or.inr (Or.inl rfl)) rfl ⟨_, rfl, Or.inr ⟨rfl, fun z => q (by rw [z])⟩, rfl⟩ (le rfl) (le rfl)
  · refine C.iconst (0) db5_7 rfl ?_
    refine C.istoreN db5_8 rfl rfl ?_
    exact J_leqL C A D (ofNat_inj A.len D.len q) vs.length 0 (by omega) rfl
theorem J_eq (B : Base Z a0 EL) {h : Heap} {a b : Addr} {cs ds : List Int32} (S : StrAt Z h a cs) (T : StrAt Z h b ds) : Con l Z EL nw (⟨"java/lang/String", "equals", "(Ljava/lang/Object;)Z"⟩ : MethodName) jdk_42_method_66_code 3 (some .boolean) (RM 1 14 0 0) [] #[.ref a, .ref b] h (rR fun v h' => ((v = .int 1 ∧ cs = ds) ∨ (v = .int 0 ∧ cs ≠ ds)) ∧ h = h') := by
  obtain ⟨z, Sz, hz⟩ := B.2.2.1
  by_cases hab : a = b
  · subst hab
    have hcd : cs = ds := S.uniq T
    refine Con.of (plainFor_of_name (by decide +kernel)) B.1 B.2.1 ⟨[.val (.ref a), .val (.ref a), .unset]⟩ (fun m => rfl) ?_
    intro p e s m below meth c _ C
    refine C.aloadN db6_0 rfl rfl ?_
    refine C.aloadN db6_1 rfl rfl ?_
    refine C.acmp_ne db6_2 rfl rfl (fun q => absurd rfl q) (fun _ => ?_)
    refine C.iconst (1) db6_5 rfl ?_
    exact C.ireturn db6_6 rfl (Or.inr (Or.inl rfl)) rfl ⟨_, rfl, Or.inl ⟨rfl, hcd⟩, rfl⟩ (Nat.zero_le _) (Nat.zero_le _)
  obtain ⟨t, cd, vs, X, Fv, Fc, A, Tx, hC, hn⟩ := id S
  obtain ⟨u, ce, ws, X', Fv', Fc', A', Tx', hC', hn'⟩ := id T
  refine Con.of (plainFor_of_name (by decide +kernel)) B.1 B.2.1 ⟨[.val (.ref a), .val (.ref b), .unset]⟩ (fun m => rfl) ?_
  intro p e s m below meth c _ C
  refine C.aloadN db6_0 rfl rfl ?_
  refine C.aloadN db6_1 rfl rfl ?_
  refine C.acmp_ne db6_2 rfl rfl (fun q => ?_) (fun q => absurd (Value.ref.inj q) hab)
  refine C.aloadN db6_7 rfl rfl ?_
  refine C.instY db6_8 tw76 (Ins.self X') ?_
  refine C.if_eq db6_11 (fun q => absurd q (by decide)) (fun _ => ?_)
  refine C.aloadN db6_14 rfl rfl ?_
  refine C.checkcast db6_15 tw76 (Ins.self X') ?_
  refine C.astoreN db6_18 rfl rfl rfl ?_
  refine C.getS db6_19 tw31 Sz ?_
  refine C.if_eq db6_22 (fun q => absurd q hz) (fun _ => ?_)
  refine C.aloadN db6_25 rfl rfl ?_
  refine C.getF db6_26 tw43 Fc ?_
  refine C.aloadN db6_29 rfl rfl ?_
  refine C.getF db6_30 tw43 Fc' ?_
  refine C.icmp_ne db6_33 (fun q => ?_) (fun q => ?_)
  · refine C.iconst (0) db6_54 rfl ?_
    exact C.ireturn db6_55 rfl (Or.inr (Or.inl rfl)) rfl ⟨_, rfl, Or.inr ⟨rfl, fun z => q (by subst z; exact Tx.coder Tx')⟩, rfl⟩ (le rfl) (le rfl)
  · subst q
    refine C.aloadN db6_36 rfl rfl ?_
    refine C.getF db6_37 tw45 Fv ?_
    refine C.aloadN db6_40 rfl rfl ?_
    refine C.getF db6_41 tw45 Fv' ?_
    refine C.s2R db6_44 tw77 tw78 tw79 tw80 (by decide) (by decide +kernel) rfl nof (J_leq B A A') (le rfl) (le rfl) (le rfl) (le rfl) ?_
    rintro v _ ⟨hv, rfl⟩
    rcases hv with ⟨rfl, q⟩ | ⟨rfl, q⟩
    · refine C.if_eq db6_47 (fun z => absurd z (by decide)) (fun _ => ?_)
      refine C.iconst (1) db6_50 rfl ?_
      refine C.goto db6_51 ?_
      exact C.ireturn db6_55 rfl (Or.inr (Or.inl rfl)) rfl ⟨_, rfl, Or.inl ⟨rfl, Txt.inj hC hC' Tx (q ▸ Tx')⟩, rfl⟩ (le rfl) (le rfl)
    · refine C.if_eq db6_47 (fun _ => ?_) (fun z => absurd rfl z)
      refine C.iconst (0) db6_54 rfl ?_
      exact C.ireturn db6_55 rfl (Or.inr (Or.inl rfl)) rfl ⟨_, rfl, Or.inr ⟨rfl, fun z => q (by subst z; exact Tx.bytes Tx')⟩, rfl⟩ (le rfl) (le rfl)
theorem J_new4e (B : Base Z a0 EL) (hmem : ("java/lang/String", 7) ∈ EL) {h : Heap} {a b : Addr} (na : Z.heap.size ≤ a) (E : Exa Z h a ST) (Fv : Fld Z h a ST "value" "[B" .null) (Fc : Fld Z h a ST "coder" "B" (.int 0)) :
    Con l Z EL false (⟨"java/lang/String", "<init>", "([CIILjava/lang/Void;)V"⟩ : MethodName) jdk_42_method_149_code 6 none (RM 1 12 4 8) [a] #[.ref a, .ref b, .int 0, .int 0, .null] h (rV fun h' => Keep h h' [a] ∧ StrAt Z h' a []) := by
  refine Con.of (plainFor_of_name (by decide +kernel)) B.1 B.2.1 ⟨[.val (.ref a), .val (.ref b), .val (.int 0), .val (.int 0), .val .null, .unset]⟩ (fun m => rfl) ?_
  intro p e s m below meth c _ C
  have nvc : RoadKit.slotOf Z ST "value" "[B" ≠ RoadKit.slotOf Z ST "coder" "B" := slot_ne (C := ST) (a0 := a0) (Or.inr (C.wrd tw46)) (Or.inr (C.wrd tw44)) (by decide) (t := .array .byte) (t' := .byte) (by decide +kernel) (by decide +kernel)
  refine C.aloadN db3_0 rfl rfl ?_
  refine C.initO db3_1 tw28 tw29 tw30 rfl (le rfl) (le rfl) ?_
  refine C.iloadN db3_4 rfl ?_
  refine C.if_ne db3_5 (fun q => absurd rfl q) (fun _ => ?_)
  refine C.aloadN db3_8 rfl rfl ?_
  refine C.ldcS (vs := []) 0 db3_9 rfl tw84 (J_atoms B) hmem ⟨by decide, rfl⟩ (by decide) (le rfl) (le rfl) (le rfl) (le rfl) ?_
  intro h1 s1 b1 E1 X1 c1 v1 A1 n1
  refine C.getF db3_11 tw45 v1 ?_
  refine C.putF (ty := (.array .byte)) db3_14 tw45 (Fv.ext E1) (E.ext E1) (Or.inr ⟨tw46, rfl, rfl⟩) tw13 (by decide +kernel) rfl rfl na (Or.inl (List.mem_singleton.mpr rfl)) ?_
  intro h2 W2
  have n1' := n1 a (List.mem_singleton.mpr rfl)
  refine C.aloadN db3_17 rfl rfl ?_
  refine C.ldcS (vs := []) 0 db3_18 rfl tw84 (J_atoms B) hmem ⟨by decide, rfl⟩ (by decide) (le rfl) (le rfl) (le rfl) (le rfl) ?_
  intro h3 s3 b3 E3 X3 c3 v3 A3 n3
  refine C.getF db3_20 tw43 c3 ?_
  refine C.putF (ty := .byte) db3_23 tw43 (((Fc.ext E1).other W2 (Or.inr nvc.symm)).ext E3) (((E.ext E1).wr W2).ext E3) (Or.inr ⟨tw44, rfl, rfl⟩) tw13 (by decide +kernel) rfl rfl na (Or.inl (List.mem_singleton.mpr rfl)) ?_
  intro h4 W4
  have A4 : Arl Z h4 b1 .byte [] := ((A1.other W2 n1'.2.symm).ext E3).other W4 n1'.2.symm
  refine C.return_ db3_26 rfl ⟨rfl, (((keep_ext E1 [a]).wr W2 (Or.inl (List.mem_singleton.mpr rfl))).ext E3).wr W4 (Or.inl (List.mem_singleton.mpr rfl)), b1, 0, [], ?_, ?_, ?_, A4, Or.inl ⟨rfl, rfl, by simp⟩, by simp, by simp⟩ (le rfl) (le rfl)
  · exact (((E.ext E1).wr W2).ext E3).wr W4
  · exact (((Fv.ext E1).same W2).ext E3).other W4 (Or.inr nvc)
  · exact (((Fc.ext E1).other W2 (Or.inr nvc.symm)).ext E3).same W4
theorem J_new1e (B : Base Z a0 EL) (hmem : ("java/lang/String", 7) ∈ EL) {h : Heap} {a b : Addr} (A : Arl Z h b .char []) (na : Z.heap.size ≤ a) (E : Exa Z h a ST) (Fv : Fld Z h a ST "value" "[B" .null) (Fc : Fld Z h a ST "coder" "B" (.int 0)) :
    Con l Z EL false (⟨"java/lang/String", "<init>", "([C)V"⟩ : MethodName) jdk_42_method_3_code 2 none (RM 2 29 4 8) [a] #[.ref a, .ref b] h (rV fun h' => Keep h h' [a] ∧ StrAt Z h' a []) := by
  refine Con.of (plainFor_of_name (by decide +kernel)) B.1 B.2.1 ⟨[.val (.ref a), .val (.ref b)]⟩ (fun m => rfl) ?_
  intro p e s m below meth c _ C
  refine C.aloadN db4_0 rfl rfl ?_
  refine C.aloadN db4_1 rfl rfl ?_
  refine C.iconst (0) db4_2 rfl ?_
  refine C.aloadN db4_3 rfl rfl ?_
  refine C.arraylength db4_4 A ?_
  refine C.aconst_null db4_5 ?_
  refine C.c4 db4_6 rfl tw24 tw25 tw14 tw27 (by decide) (by decide +kernel) rfl (fun _ q => Or.inl q) (J_new4e B hmem (b := b) na E Fv Fc) (le rfl) (le rfl) (le rfl) (le rfl) ?_
  rintro h1 ⟨K1, S1⟩
  exact C.return_ db4_9 rfl ⟨rfl, K1, S1⟩ (le rfl) (le rfl)
def n0 : List Int32 := [112, 114, 101, 102, 105, 120]
def n1 : List Int32 := [115, 116, 101, 109]
def n2 : List Int32 := [115, 117, 102, 102, 105, 120]
def n3 : List Int32 := [105, 110, 118, 97, 114, 105, 97, 110, 116]
def n4 : List Int32 := [115, 116, 111, 112]
def NS : List (List Int32) := [n0, n1, n2, n3, n4]
def mkes (e0 e1 e2 e3 e4 : Addr) : List (Addr × List Int32) := [(e0, n0), (e1, n1), (e2, n2), (e3, n3), (e4, n4)]
theorem es_ns {e0 e1 e2 e3 e4 ea : Addr} {i : Nat} {cs : List Int32} (h : (mkes e0 e1 e2 e3 e4)[i]? = some (ea, cs)) : NS[i]? = some cs := by
  match i, h with
  | 0, h => cases h; rfl
  | 1, h => cases h; rfl
  | 2, h => cases h; rfl
  | 3, h => cases h; rfl
  | 4, h => cases h; rfl
  | n + 5, h => simp [mkes] at h
theorem ns_lt {i : Nat} {cs : List Int32} (h : NS[i]? = some cs) : i < 5 := by
  have := (List.getElem?_eq_some_iff.mp h).1; simpa [NS] using this
theorem ns_inj {i j : Nat} {cs : List Int32} (h : NS[i]? = some cs) (g : NS[j]? = some cs) : i = j := by
  have hi := ns_lt h; have hj := ns_lt g
  have key : ∀ i, i < 5 → ∀ j, j < 5 → NS[i]? = NS[j]? → i = j := by decide +kernel
  exact key i hi j hj (h.trans g.symm)
theorem ns_mem {i : Nat} {cs : List Int32} (h : NS[i]? = some cs) : cs ∈ NS := List.mem_of_getElem? h
theorem ns_small : ∀ cs ∈ NS, 4 ≤ cs.length ∧ cs.length ≤ 9 ∧ ∀ c ∈ cs, b8 c = c ∧ ¬ c < 0 ∧ ¬ (255 : Int32) < c := by decide +kernel
theorem ns_cut : ∀ cs ∈ NS, cs.take (cs.length - 1) ∉ NS := by decide +kernel
theorem ns_len : ∀ cs ∈ NS, ∀ ds ∈ NS, ds.length ≠ cs.length + 1 := by decide +kernel
/-- two names of one length differ at two places at the least -/
theorem ns_far : ∀ cs ∈ NS, ∀ ds ∈ NS, ∀ q, q < 9 → cs.length = ds.length → (∀ i, i < 9 → i ≠ q → cs[i]? = ds[i]?) → cs = ds := by decide +kernel
def Exp (es : List (Addr × List Int32)) (p : Option (List Int32)) (v : Value) : Prop := (∃ (i : Nat) (ea : Addr) (cs : List Int32), es[i]? = some (ea, cs) ∧ v = .ref ea ∧ p = some cs) ∨ (v = .null ∧ ∀ (i : Nat) (ea : Addr) (cs : List Int32), es[i]? = some (ea, cs) → p ≠ some cs)
theorem Exp.isRef {es : List (Addr × List Int32)} {p : Option (List Int32)} {v : Value} (E : Exp es p v) : v.isRef = true := by rcases E with ⟨i, ea, cs, -, rfl, -⟩ | ⟨rfl, -⟩ <;> rfl
theorem Exp.uniq {e0 e1 e2 e3 e4 : Addr} {p : Option (List Int32)} {v w : Value} (E : Exp (mkes e0 e1 e2 e3 e4) p v) (G : Exp (mkes e0 e1 e2 e3 e4) p w) : v = w := by
  rcases E with ⟨i, ea, cs, h1, rfl, h3⟩ | ⟨rfl, h1⟩ <;> rcases G with ⟨j, eb, ds, g1, rfl, g3⟩ | ⟨rfl, g1⟩
  · rw [h3] at g3; cases Option.some.inj g3
    obtain rfl := ns_inj (es_ns h1) (es_ns g1)
    rw [h1] at g1; cases Option.some.inj g1; rfl
  · exact absurd h3 (g1 _ _ _ h1)
  · exact absurd g3 (h1 _ _ _ g1)
  · rfl
theorem Exp.no {e0 e1 e2 e3 e4 : Addr} {p : Option (List Int32)} (h : ∀ cs ∈ NS, p ≠ some cs) : Exp (mkes e0 e1 e2 e3 e4) p .null := Or.inr ⟨rfl, fun i ea cs q => h cs (ns_mem (es_ns q))⟩
/-- the String that a value names, or null -/
def PatAt (Z : State) (h : Heap) (v : Value) (p : Option (List Int32)) : Prop := (v = .null ∧ p = none) ∨ ∃ a cs, v = .ref a ∧ p = some cs ∧ StrAt Z h a cs
theorem PatAt.isRef {Z : State} {h : Heap} {v : Value} {p : Option (List Int32)} (P : PatAt Z h v p) : v.isRef = true := by rcases P with ⟨rfl, -⟩ | ⟨a, cs, rfl, -⟩ <;> rfl
theorem PatAt.ext {Z : State} {h h' : Heap} {v : Value} {p : Option (List Int32)} (P : PatAt Z h v p) (E : Ext h h') : PatAt Z h' v p := P.imp id fun ⟨a, cs, h1, h2, h3⟩ => ⟨a, cs, h1, h2, h3.ext E⟩
def pre (ws : List Int32) (i N : Nat) : List Value := ints (ws.take (min i N)) ++ List.replicate (N - min i N) (.int 0)
theorem pre_skip {cs : List Int32} {i N : Nat} (h : N ≤ i) : pre cs i N = pre cs (i + 1) N := by
  unfold pre; rw [Nat.min_eq_right h, Nat.min_eq_right (by omega)]
theorem pre_step {cs : List Int32} {i N : Nat} {c : Int32} (h : i < N) (hl : N ≤ cs.length) (hc : cs[i]? = some c) : (pre cs i N).set i (.int c) = pre cs (i + 1) N := by
  unfold pre
  rw [Nat.min_eq_left (by omega), Nat.min_eq_left (by omega)]
  obtain ⟨r, hr⟩ : ∃ r, N - i = r + 1 := ⟨N - i - 1, by omega⟩
  have hr' : N - (i + 1) = r := by omega
  rw [hr, hr', fill_step (i := i) (by rw [ints_length, List.length_take]; omega), List.take_add_one, hc]
  simp [ints]
theorem nat_of {x : Int32} {M : Nat} (h0 : 0 ≤ x.toInt) (h1 : x.toInt < M) (hM : M < 2 ^ 31) : ∃ i, i < M ∧ x = Int32.ofNat i := ⟨x.toInt.toNat, by omega, Int32.toInt_inj.mp (by rw [ofNat_toInt (by omega)]; omega)⟩
def pk (cs : List Int32) (ps ch : Int32) (i : Nat) : Int32 := if Int32.ofNat i = ps then ch else cs.getD i ch
def bl (cs : List Int32) (ps ch : Int32) (N : Nat) : List Int32 := (List.range N).map (pk cs ps ch)
theorem bl_len (cs : List Int32) (ps ch : Int32) (N : Nat) : (bl cs ps ch N).length = N := by simp [bl]
theorem bl_at {cs : List Int32} {ps ch : Int32} {N i : Nat} (h : i < N) : (bl cs ps ch N)[i]? = some (pk cs ps ch i) := by simp [bl, h]
theorem pk_L {cs : List Int32} {ps ch : Int32} {i : Nat} (hc : ∀ c ∈ cs, IsL c) (h : IsL ch) : IsL (pk cs ps ch i) := by
  unfold pk; split
  · exact h
  · rw [List.getD_eq_getElem?_getD]
    cases hq : cs[i]? with
    | none => exact h
    | some c => exact hc c (List.mem_of_getElem? hq)
theorem bl_L {cs : List Int32} {ps ch : Int32} {N : Nat} (hc : ∀ c ∈ cs, IsL c) (h : IsL ch) : ∀ c ∈ bl cs ps ch N, IsL c := by
  intro c hc'; obtain ⟨i, -, rfl⟩ := List.mem_map.mp hc'; exact pk_L hc h
theorem neg_ne {i : Nat} (h : i < 2 ^ 31) : ¬ Int32.ofNat i = -1 := fun q => by
  have := congrArg Int32.toInt q; rw [ofNat_toInt h] at this; have e : (-1 : Int32).toInt = -1 := rfl; omega
theorem bl_take {cs : List Int32} {ch : Int32} {N : Nat} (h : N ≤ cs.length) (hl : cs.length < 1000) : bl cs (-1) ch N = cs.take N := by
  apply List.ext_getElem?
  intro i
  by_cases hi : i < N
  · rw [bl_at hi, List.getElem?_take_of_lt hi, pk, if_neg (neg_ne (by omega)), List.getD_eq_getElem?_getD, List.getElem?_eq_getElem (by omega), Option.getD_some]
  · rw [List.getElem?_eq_none_iff.mpr (by rw [bl_len]; omega), List.getElem?_eq_none_iff.mpr (by rw [List.length_take]; omega)]
theorem ns_one {cs ds : List Int32} {q : Nat} {ch : Int32} (hc : cs ∈ NS) (hd : ds ∈ NS) (hq : q < cs.length) (e : bl cs (Int32.ofNat q) ch cs.length = ds) : cs[q]? = some ch ∧ cs = ds := by
  have s1 := ns_small cs hc
  have hl : cs.length = ds.length := by rw [← e, bl_len]
  have key : ∀ i, i < cs.length → i ≠ q → cs[i]? = ds[i]? := fun i hi hn => by
    rw [← e, bl_at hi, pk, if_neg (fun z => hn (ofNat_inj (by omega) (by omega) z)), List.getD_eq_getElem?_getD, List.getElem?_eq_getElem hi, Option.getD_some]
  have e2 := ns_far cs hc ds hd q (by omega) hl fun i hi hn => by
    by_cases z : i < cs.length
    · exact key i z hn
    · rw [List.getElem?_eq_none_iff.mpr (by omega), List.getElem?_eq_none_iff.mpr (by omega)]
  refine ⟨?_, e2⟩
  have : (bl cs (Int32.ofNat q) ch cs.length)[q]? = ds[q]? := by rw [e]
  rw [bl_at hq, pk, if_pos rfl, ← e2] at this
  exact this.symm
theorem bl_same {cs : List Int32} {q : Nat} {ch : Int32} (h : cs[q]? = some ch) (hl : cs.length < 1000) : bl cs (Int32.ofNat q) ch cs.length = cs := by
  have hq := (List.getElem?_eq_some_iff.mp h).1
  apply List.ext_getElem?
  intro i
  by_cases hi : i < cs.length
  · rw [bl_at hi, pk]
    by_cases z : i = q
    · rw [z, if_pos rfl, h]
    · rw [if_neg (fun y => z (ofNat_inj (by omega) (by omega) y)), List.getD_eq_getElem?_getD, List.getElem?_eq_getElem hi, Option.getD_some]
  · rw [List.getElem?_eq_none_iff.mpr (by rw [bl_len]; omega), List.getElem?_eq_none_iff.mpr (by omega)]
theorem P_base (B : Base Z a0 EL) {h : Heap} {t : Nat} {cs : List Int32} (ht : NS[t]? = some cs) : Con l Z EL nw (⟨"com/example/inklingua/inklingua/lexicon/SubwordTypeFromRecordNamePinLaw", "base", "(I)[C"⟩ : MethodName) method_3_code 1 (some (.array .char)) (RM 0 0 1 9) [] #[.int (Int32.ofNat t)] h (rR fun v h' => ∃ b, v = .ref b ∧ h.size ≤ b ∧ Ext h h' ∧ Arl Z h' b .char (ints cs)) := by
  refine Con.of (plainFor_of_name (by decide +kernel)) B.1 B.2.1 ⟨[.val (.int (Int32.ofNat t))]⟩ (fun m => rfl) ?_
  intro p e s m below meth c _ C
  refine Goes.old fun O => ?_
  match t, ht with
  | n + 5, ht => simp [NS] at ht
  | 0, ht =>
    obtain rfl : n0 = cs := Option.some.inj ht
    refine C.iloadN db7_0 rfl ?_
    refine C.if_ne db7_1 (fun q => absurd rfl q) (fun q => ?_)
    refine C.bipush (6) db7_4 rfl ?_
    refine C.newarray db7_6 tw5 (by decide) rfl (le rfl) (le rfl) (le rfl) ?_
    intro h1 b g1 E1 l1 A2
    have nb : Z.heap.size ≤ b := by have := O.1; omega
    have Eh := E1
    refine C.dup db7_8 rfl ?_
    refine C.iconst (0) db7_9 rfl ?_
    refine C.bipush (112) db7_10 rfl ?_
    refine C.castore (i := 0) db7_12 A2 (by decide) rfl (le rfl) nb ?_
    intro h2 W2 A2
    rw [show nar .char (112 : Int32) = 112 from by decide] at A2
    replace Eh := ext_of_wr Eh W2 (by omega)
    refine C.dup db7_13 rfl ?_
    refine C.iconst (1) db7_14 rfl ?_
    refine C.bipush (114) db7_15 rfl ?_
    refine C.castore (i := 1) db7_17 A2 (by decide) rfl (le rfl) nb ?_
    intro h3 W3 A3
    rw [show nar .char (114 : Int32) = 114 from by decide] at A3
    replace Eh := ext_of_wr Eh W3 (by omega)
    clear A2
    have A2 := A3
    clear A3
    refine C.dup db7_18 rfl ?_
    refine C.iconst (2) db7_19 rfl ?_
    refine C.bipush (101) db7_20 rfl ?_
    refine C.castore (i := 2) db7_22 A2 (by decide) rfl (le rfl) nb ?_
    intro h4 W4 A4
    rw [show nar .char (101 : Int32) = 101 from by decide] at A4
    replace Eh := ext_of_wr Eh W4 (by omega)
    clear A2
    have A2 := A4
    clear A4
    refine C.dup db7_23 rfl ?_
    refine C.iconst (3) db7_24 rfl ?_
    refine C.bipush (102) db7_25 rfl ?_
    refine C.castore (i := 3) db7_27 A2 (by decide) rfl (le rfl) nb ?_
    intro h5 W5 A5
    rw [show nar .char (102 : Int32) = 102 from by decide] at A5
    replace Eh := ext_of_wr Eh W5 (by omega)
    clear A2
    have A2 := A5
    clear A5
    refine C.dup db7_28 rfl ?_
    refine C.iconst (4) db7_29 rfl ?_
    refine C.bipush (105) db7_30 rfl ?_
    refine C.castore (i := 4) db7_32 A2 (by decide) rfl (le rfl) nb ?_
    intro h6 W6 A6
    rw [show nar .char (105 : Int32) = 105 from by decide] at A6
    replace Eh := ext_of_wr Eh W6 (by omega)
    clear A2
    have A2 := A6
    clear A6
    refine C.dup db7_33 rfl ?_
    refine C.iconst (5) db7_34 rfl ?_
    refine C.bipush (120) db7_35 rfl ?_
    refine C.castore (i := 5) db7_37 A2 (by decide) rfl (le rfl) nb ?_
    intro h7 W7 A7
    rw [show nar .char (120 : Int32) = 120 from by decide] at A7
    replace Eh := ext_of_wr Eh W7 (by omega)
    clear A2
    have A2 := A7
    clear A7
    exact C.areturn db7_38 rfl rfl rfl rfl ⟨_, rfl, b, rfl, Nat.le_of_eq g1.symm, Eh, A2⟩ (le rfl) (le rfl)
  | 1, ht =>
    obtain rfl : n1 = cs := Option.some.inj ht
    refine C.iloadN db7_0 rfl ?_
    refine C.if_ne db7_1 (fun q => ?_) (fun q => absurd q (by decide))
    refine C.iloadN db7_39 rfl ?_
    refine C.iconst (1) db7_40 rfl ?_
    refine C.icmp_ne db7_41 (fun q => absurd rfl q) (fun q => ?_)
    refine C.iconst (4) db7_44 rfl ?_
    refine C.newarray db7_45 tw5 (by decide) rfl (le rfl) (le rfl) (le rfl) ?_
    intro h1 b g1 E1 l1 A2
    have nb : Z.heap.size ≤ b := by have := O.1; omega
    have Eh := E1
    refine C.dup db7_47 rfl ?_
    refine C.iconst (0) db7_48 rfl ?_
    refine C.bipush (115) db7_49 rfl ?_
    refine C.castore (i := 0) db7_51 A2 (by decide) rfl (le rfl) nb ?_
    intro h2 W2 A2
    rw [show nar .char (115 : Int32) = 115 from by decide] at A2
    replace Eh := ext_of_wr Eh W2 (by omega)
    refine C.dup db7_52 rfl ?_
    refine C.iconst (1) db7_53 rfl ?_
    refine C.bipush (116) db7_54 rfl ?_
    refine C.castore (i := 1) db7_56 A2 (by decide) rfl (le rfl) nb ?_
    intro h3 W3 A3
    rw [show nar .char (116 : Int32) = 116 from by decide] at A3
    replace Eh := ext_of_wr Eh W3 (by omega)
    clear A2
    have A2 := A3
    clear A3
    refine C.dup db7_57 rfl ?_
    refine C.iconst (2) db7_58 rfl ?_
    refine C.bipush (101) db7_59 rfl ?_
    refine C.castore (i := 2) db7_61 A2 (by decide) rfl (le rfl) nb ?_
    intro h4 W4 A4
    rw [show nar .char (101 : Int32) = 101 from by decide] at A4
    replace Eh := ext_of_wr Eh W4 (by omega)
    clear A2
    have A2 := A4
    clear A4
    refine C.dup db7_62 rfl ?_
    refine C.iconst (3) db7_63 rfl ?_
    refine C.bipush (109) db7_64 rfl ?_
    refine C.castore (i := 3) db7_66 A2 (by decide) rfl (le rfl) nb ?_
    intro h5 W5 A5
    rw [show nar .char (109 : Int32) = 109 from by decide] at A5
    replace Eh := ext_of_wr Eh W5 (by omega)
    clear A2
    have A2 := A5
    clear A5
    exact C.areturn db7_67 rfl rfl rfl rfl ⟨_, rfl, b, rfl, Nat.le_of_eq g1.symm, Eh, A2⟩ (le rfl) (le rfl)
  | 2, ht =>
    obtain rfl : n2 = cs := Option.some.inj ht
    refine C.iloadN db7_0 rfl ?_
    refine C.if_ne db7_1 (fun q => ?_) (fun q => absurd q (by decide))
    refine C.iloadN db7_39 rfl ?_
    refine C.iconst (1) db7_40 rfl ?_
    refine C.icmp_ne db7_41 (fun q => ?_) (fun q => absurd q (by decide))
    refine C.iloadN db7_68 rfl ?_
    refine C.iconst (2) db7_69 rfl ?_
    refine C.icmp_ne db7_70 (fun q => absurd rfl q) (fun q => ?_)
    refine C.bipush (6) db7_73 rfl ?_
    refine C.newarray db7_75 tw5 (by decide) rfl (le rfl) (le rfl) (le rfl) ?_
    intro h1 b g1 E1 l1 A2
    have nb : Z.heap.size ≤ b := by have := O.1; omega
    have Eh := E1
    refine C.dup db7_77 rfl ?_
    refine C.iconst (0) db7_78 rfl ?_
    refine C.bipush (115) db7_79 rfl ?_
    refine C.castore (i := 0) db7_81 A2 (by decide) rfl (le rfl) nb ?_
    intro h2 W2 A2
    rw [show nar .char (115 : Int32) = 115 from by decide] at A2
    replace Eh := ext_of_wr Eh W2 (by omega)
    refine C.dup db7_82 rfl ?_
    refine C.iconst (1) db7_83 rfl ?_
    refine C.bipush (117) db7_84 rfl ?_
    refine C.castore (i := 1) db7_86 A2 (by decide) rfl (le rfl) nb ?_
    intro h3 W3 A3
    rw [show nar .char (117 : Int32) = 117 from by decide] at A3
    replace Eh := ext_of_wr Eh W3 (by omega)
    clear A2
    have A2 := A3
    clear A3
    refine C.dup db7_87 rfl ?_
    refine C.iconst (2) db7_88 rfl ?_
    refine C.bipush (102) db7_89 rfl ?_
    refine C.castore (i := 2) db7_91 A2 (by decide) rfl (le rfl) nb ?_
    intro h4 W4 A4
    rw [show nar .char (102 : Int32) = 102 from by decide] at A4
    replace Eh := ext_of_wr Eh W4 (by omega)
    clear A2
    have A2 := A4
    clear A4
    refine C.dup db7_92 rfl ?_
    refine C.iconst (3) db7_93 rfl ?_
    refine C.bipush (102) db7_94 rfl ?_
    refine C.castore (i := 3) db7_96 A2 (by decide) rfl (le rfl) nb ?_
    intro h5 W5 A5
    rw [show nar .char (102 : Int32) = 102 from by decide] at A5
    replace Eh := ext_of_wr Eh W5 (by omega)
    clear A2
    have A2 := A5
    clear A5
    refine C.dup db7_97 rfl ?_
    refine C.iconst (4) db7_98 rfl ?_
    refine C.bipush (105) db7_99 rfl ?_
    refine C.castore (i := 4) db7_101 A2 (by decide) rfl (le rfl) nb ?_
    intro h6 W6 A6
    rw [show nar .char (105 : Int32) = 105 from by decide] at A6
    replace Eh := ext_of_wr Eh W6 (by omega)
    clear A2
    have A2 := A6
    clear A6
    refine C.dup db7_102 rfl ?_
    refine C.iconst (5) db7_103 rfl ?_
    refine C.bipush (120) db7_104 rfl ?_
    refine C.castore (i := 5) db7_106 A2 (by decide) rfl (le rfl) nb ?_
    intro h7 W7 A7
    rw [show nar .char (120 : Int32) = 120 from by decide] at A7
    replace Eh := ext_of_wr Eh W7 (by omega)
    clear A2
    have A2 := A7
    clear A7
    exact C.areturn db7_107 rfl rfl rfl rfl ⟨_, rfl, b, rfl, Nat.le_of_eq g1.symm, Eh, A2⟩ (le rfl) (le rfl)
  | 3, ht =>
    obtain rfl : n3 = cs := Option.some.inj ht
    refine C.iloadN db7_0 rfl ?_
    refine C.if_ne db7_1 (fun q => ?_) (fun q => absurd q (by decide))
    refine C.iloadN db7_39 rfl ?_
    refine C.iconst (1) db7_40 rfl ?_
    refine C.icmp_ne db7_41 (fun q => ?_) (fun q => absurd q (by decide))
    refine C.iloadN db7_68 rfl ?_
    refine C.iconst (2) db7_69 rfl ?_
    refine C.icmp_ne db7_70 (fun q => ?_) (fun q => absurd q (by decide))
    refine C.iloadN db7_108 rfl ?_
    refine C.iconst (3) db7_109 rfl ?_
    refine C.icmp_ne db7_110 (fun q => absurd rfl q) (fun q => ?_)
    refine C.bipush (9) db7_113 rfl ?_
    refine C.newarray db7_115 tw5 (by decide) rfl (le rfl) (le rfl) (le rfl) ?_
    intro h1 b g1 E1 l1 A2
    have nb : Z.heap.size ≤ b := by have := O.1; omega
    have Eh := E1
    refine C.dup db7_117 rfl ?_
    refine C.iconst (0) db7_118 rfl ?_
    refine C.bipush (105) db7_119 rfl ?_
    refine C.castore (i := 0) db7_121 A2 (by decide) rfl (le rfl) nb ?_
    intro h2 W2 A2
    rw [show nar .char (105 : Int32) = 105 from by decide] at A2
    replace Eh := ext_of_wr Eh W2 (by omega)
    refine C.dup db7_122 rfl ?_
    refine C.iconst (1) db7_123 rfl ?_
    refine C.bipush (110) db7_124 rfl ?_
    refine C.castore (i := 1) db7_126 A2 (by decide) rfl (le rfl) nb ?_
    intro h3 W3 A3
    rw [show nar .char (110 : Int32) = 110 from by decide] at A3
    replace Eh := ext_of_wr Eh W3 (by omega)
    clear A2
    have A2 := A3
    clear A3
    refine C.dup db7_127 rfl ?_
    refine C.iconst (2) db7_128 rfl ?_
    refine C.bipush (118) db7_129 rfl ?_
    refine C.castore (i := 2) db7_131 A2 (by decide) rfl (le rfl) nb ?_
    intro h4 W4 A4
    rw [show nar .char (118 : Int32) = 118 from by decide] at A4
    replace Eh := ext_of_wr Eh W4 (by omega)
    clear A2
    have A2 := A4
    clear A4
    refine C.dup db7_132 rfl ?_
    refine C.iconst (3) db7_133 rfl ?_
    refine C.bipush (97) db7_134 rfl ?_
    refine C.castore (i := 3) db7_136 A2 (by decide) rfl (le rfl) nb ?_
    intro h5 W5 A5
    rw [show nar .char (97 : Int32) = 97 from by decide] at A5
    replace Eh := ext_of_wr Eh W5 (by omega)
    clear A2
    have A2 := A5
    clear A5
    refine C.dup db7_137 rfl ?_
    refine C.iconst (4) db7_138 rfl ?_
    refine C.bipush (114) db7_139 rfl ?_
    refine C.castore (i := 4) db7_141 A2 (by decide) rfl (le rfl) nb ?_
    intro h6 W6 A6
    rw [show nar .char (114 : Int32) = 114 from by decide] at A6
    replace Eh := ext_of_wr Eh W6 (by omega)
    clear A2
    have A2 := A6
    clear A6
    refine C.dup db7_142 rfl ?_
    refine C.iconst (5) db7_143 rfl ?_
    refine C.bipush (105) db7_144 rfl ?_
    refine C.castore (i := 5) db7_146 A2 (by decide) rfl (le rfl) nb ?_
    intro h7 W7 A7
    rw [show nar .char (105 : Int32) = 105 from by decide] at A7
    replace Eh := ext_of_wr Eh W7 (by omega)
    clear A2
    have A2 := A7
    clear A7
    refine C.dup db7_147 rfl ?_
    refine C.bipush (6) db7_148 rfl ?_
    refine C.bipush (97) db7_150 rfl ?_
    refine C.castore (i := 6) db7_152 A2 (by decide) rfl (le rfl) nb ?_
    intro h8 W8 A8
    rw [show nar .char (97 : Int32) = 97 from by decide] at A8
    replace Eh := ext_of_wr Eh W8 (by omega)
    clear A2
    have A2 := A8
    clear A8
    refine C.dup db7_153 rfl ?_
    refine C.bipush (7) db7_154 rfl ?_
    refine C.bipush (110) db7_156 rfl ?_
    refine C.castore (i := 7) db7_158 A2 (by decide) rfl (le rfl) nb ?_
    intro h9 W9 A9
    rw [show nar .char (110 : Int32) = 110 from by decide] at A9
    replace Eh := ext_of_wr Eh W9 (by omega)
    clear A2
    have A2 := A9
    clear A9
    refine C.dup db7_159 rfl ?_
    refine C.bipush (8) db7_160 rfl ?_
    refine C.bipush (116) db7_162 rfl ?_
    refine C.castore (i := 8) db7_164 A2 (by decide) rfl (le rfl) nb ?_
    intro h10 W10 A10
    rw [show nar .char (116 : Int32) = 116 from by decide] at A10
    replace Eh := ext_of_wr Eh W10 (by omega)
    clear A2
    have A2 := A10
    clear A10
    exact C.areturn db7_165 rfl rfl rfl rfl ⟨_, rfl, b, rfl, Nat.le_of_eq g1.symm, Eh, A2⟩ (le rfl) (le rfl)
  | 4, ht =>
    obtain rfl : n4 = cs := Option.some.inj ht
    refine C.iloadN db7_0 rfl ?_
    refine C.if_ne db7_1 (fun q => ?_) (fun q => absurd q (by decide))
    refine C.iloadN db7_39 rfl ?_
    refine C.iconst (1) db7_40 rfl ?_
    refine C.icmp_ne db7_41 (fun q => ?_) (fun q => absurd q (by decide))
    refine C.iloadN db7_68 rfl ?_
    refine C.iconst (2) db7_69 rfl ?_
    refine C.icmp_ne db7_70 (fun q => ?_) (fun q => absurd q (by decide))
    refine C.iloadN db7_108 rfl ?_
    refine C.iconst (3) db7_109 rfl ?_
    refine C.icmp_ne db7_110 (fun q => ?_) (fun q => absurd q (by decide))
    refine C.iconst (4) db7_166 rfl ?_
    refine C.newarray db7_167 tw5 (by decide) rfl (le rfl) (le rfl) (le rfl) ?_
    intro h1 b g1 E1 l1 A2
    have nb : Z.heap.size ≤ b := by have := O.1; omega
    have Eh := E1
    refine C.dup db7_169 rfl ?_
    refine C.iconst (0) db7_170 rfl ?_
    refine C.bipush (115) db7_171 rfl ?_
    refine C.castore (i := 0) db7_173 A2 (by decide) rfl (le rfl) nb ?_
    intro h2 W2 A2
    rw [show nar .char (115 : Int32) = 115 from by decide] at A2
    replace Eh := ext_of_wr Eh W2 (by omega)
    refine C.dup db7_174 rfl ?_
    refine C.iconst (1) db7_175 rfl ?_
    refine C.bipush (116) db7_176 rfl ?_
    refine C.castore (i := 1) db7_178 A2 (by decide) rfl (le rfl) nb ?_
    intro h3 W3 A3
    rw [show nar .char (116 : Int32) = 116 from by decide] at A3
    replace Eh := ext_of_wr Eh W3 (by omega)
    clear A2
    have A2 := A3
    clear A3
    refine C.dup db7_179 rfl ?_
    refine C.iconst (2) db7_180 rfl ?_
    refine C.bipush (111) db7_181 rfl ?_
    refine C.castore (i := 2) db7_183 A2 (by decide) rfl (le rfl) nb ?_
    intro h4 W4 A4
    rw [show nar .char (111 : Int32) = 111 from by decide] at A4
    replace Eh := ext_of_wr Eh W4 (by omega)
    clear A2
    have A2 := A4
    clear A4
    refine C.dup db7_184 rfl ?_
    refine C.iconst (3) db7_185 rfl ?_
    refine C.bipush (112) db7_186 rfl ?_
    refine C.castore (i := 3) db7_188 A2 (by decide) rfl (le rfl) nb ?_
    intro h5 W5 A5
    rw [show nar .char (112 : Int32) = 112 from by decide] at A5
    replace Eh := ext_of_wr Eh W5 (by omega)
    clear A2
    have A2 := A5
    clear A5
    exact C.areturn db7_189 rfl rfl rfl rfl ⟨_, rfl, b, rfl, Nat.le_of_eq g1.symm, Eh, A2⟩ (le rfl) (le rfl)
theorem P_type (B : Base Z a0 EL) {h : Heap} {t : Nat} {e0 e1 e2 e3 e4 ea : Addr} {cs : List Int32} (S0 : Sta Z Z.heap "com/example/inklingua/inklingua/lexicon/SubwordType" "PREFIX" "Lcom/example/inklingua/inklingua/lexicon/SubwordType;" (.ref e0)) (S1 : Sta Z Z.heap "com/example/inklingua/inklingua/lexicon/SubwordType" "STEM" "Lcom/example/inklingua/inklingua/lexicon/SubwordType;" (.ref e1)) (S2 : Sta Z Z.heap "com/example/inklingua/inklingua/lexicon/SubwordType" "SUFFIX" "Lcom/example/inklingua/inklingua/lexicon/SubwordType;" (.ref e2)) (S3 : Sta Z Z.heap "com/example/inklingua/inklingua/lexicon/SubwordType" "INVARIANT" "Lcom/example/inklingua/inklingua/lexicon/SubwordType;" (.ref e3)) (S4 : Sta Z Z.heap "com/example/inklingua/inklingua/lexicon/SubwordType" "STOP" "Lcom/example/inklingua/inklingua/lexicon/SubwordType;" (.ref e4)) (ht : (mkes e0 e1 e2 e3 e4)[t]? = some (ea, cs)) : Con l Z EL nw (⟨"com/example/inklingua/inklingua/lexicon/SubwordTypeFromRecordNamePinLaw", "type", "(I)Lcom/example/inklingua/inklingua/lexicon/SubwordType;"⟩ : MethodName) method_4_code 1 (some (.object "com/example/inklingua/inklingua/lexicon/SubwordType")) (RM 0 0 0 0) [] #[.int (Int32.ofNat t)] h (rR fun v h' => v = .ref ea ∧ h = h') := by
  refine Con.of (plainFor_of_name (by decide +kernel)) B.1 B.2.1 ⟨[.val (.int (Int32.ofNat t))]⟩ (fun m => rfl) ?_
  intro p e s m below meth c _ C
  match t, ht with
  | n + 5, ht => simp [mkes] at ht
  | 0, ht =>
    cases ht
    refine C.iloadN db8_0 rfl ?_
    refine C.if_ne db8_1 (fun q => absurd rfl q) (fun q => ?_)
    refine C.getS db8_4 tw9 S0 ?_
    exact C.areturn db8_7 rfl rfl rfl rfl ⟨_, rfl, rfl, rfl⟩ (le rfl) (le rfl)
  | 1, ht =>
    cases ht
    refine C.iloadN db8_0 rfl ?_
    refine C.if_ne db8_1 (fun q => ?_) (fun q => absurd q (by decide))
    refine C.iloadN db8_8 rfl ?_
    refine C.iconst (1) db8_9 rfl ?_
    refine C.icmp_ne db8_10 (fun q => absurd rfl q) (fun q => ?_)
    refine C.getS db8_13 tw83 S1 ?_
    exact C.areturn db8_16 rfl rfl rfl rfl ⟨_, rfl, rfl, rfl⟩ (le rfl) (le rfl)
  | 2, ht =>
    cases ht
    refine C.iloadN db8_0 rfl ?_
    refine C.if_ne db8_1 (fun q => ?_) (fun q => absurd q (by decide))
    refine C.iloadN db8_8 rfl ?_
    refine C.iconst (1) db8_9 rfl ?_
    refine C.icmp_ne db8_10 (fun q => ?_) (fun q => absurd q (by decide))
    refine C.iloadN db8_17 rfl ?_
    refine C.iconst (2) db8_18 rfl ?_
    refine C.icmp_ne db8_19 (fun q => absurd rfl q) (fun q => ?_)
    refine C.getS db8_22 tw81 S2 ?_
    exact C.areturn db8_25 rfl rfl rfl rfl ⟨_, rfl, rfl, rfl⟩ (le rfl) (le rfl)
  | 3, ht =>
    cases ht
    refine C.iloadN db8_0 rfl ?_
    refine C.if_ne db8_1 (fun q => ?_) (fun q => absurd q (by decide))
    refine C.iloadN db8_8 rfl ?_
    refine C.iconst (1) db8_9 rfl ?_
    refine C.icmp_ne db8_10 (fun q => ?_) (fun q => absurd q (by decide))
    refine C.iloadN db8_17 rfl ?_
    refine C.iconst (2) db8_18 rfl ?_
    refine C.icmp_ne db8_19 (fun q => ?_) (fun q => absurd q (by decide))
    refine C.iloadN db8_26 rfl ?_
    refine C.iconst (3) db8_27 rfl ?_
    refine C.icmp_ne db8_28 (fun q => absurd rfl q) (fun q => ?_)
    refine C.getS db8_31 tw87 S3 ?_
    exact C.areturn db8_34 rfl rfl rfl rfl ⟨_, rfl, rfl, rfl⟩ (le rfl) (le rfl)
  | 4, ht =>
    cases ht
    refine C.iloadN db8_0 rfl ?_
    refine C.if_ne db8_1 (fun q => ?_) (fun q => absurd q (by decide))
    refine C.iloadN db8_8 rfl ?_
    refine C.iconst (1) db8_9 rfl ?_
    refine C.icmp_ne db8_10 (fun q => ?_) (fun q => absurd q (by decide))
    refine C.iloadN db8_17 rfl ?_
    refine C.iconst (2) db8_18 rfl ?_
    refine C.icmp_ne db8_19 (fun q => ?_) (fun q => absurd q (by decide))
    refine C.iloadN db8_26 rfl ?_
    refine C.iconst (3) db8_27 rfl ?_
    refine C.icmp_ne db8_28 (fun q => ?_) (fun q => absurd q (by decide))
    refine C.getS db8_35 tw82 S4 ?_
    exact C.areturn db8_38 rfl rfl rfl rfl ⟨_, rfl, rfl, rfl⟩ (le rfl) (le rfl)
theorem P_pick (B : Base Z a0 EL) {h : Heap} {b : Addr} {cs : List Int32} {ps ch : Int32} {i : Nat} (A : Arl Z h b .char (ints cs)) (hC : ∀ c ∈ cs, IsL c) (hch : IsL ch) (hl : cs.length < 1000) (hi : i < 1000) : Con l Z EL nw (⟨"com/example/inklingua/inklingua/lexicon/SubwordTypeFromRecordNamePinLaw", "pick", "([CIIC)C"⟩ : MethodName) method_5_code 4 (some .char) (RM 0 0 0 0) [] #[.ref b, .int (Int32.ofNat i), .int ps, .int ch] h (rR fun v h' => v = .int (pk cs ps ch i) ∧ h = h') := by
  have hI := ofNat_idx (i := i) (by omega)
  refine Con.of (plainFor_of_name (by decide +kernel)) B.1 B.2.1 ⟨[.val (.ref b), .val (.int (Int32.ofNat i)), .val (.int ps), .val (.int ch)]⟩ (fun m => rfl) ?_
  intro p e s m below meth c _ C
  refine C.iloadN db9_0 rfl ?_
  refine C.iloadN db9_1 rfl ?_
  refine C.icmp_ne db9_2 (fun q => ?_) (fun q => ?_)
  · refine C.iloadN db9_7 rfl ?_
    refine C.aloadN db9_8 rfl rfl ?_
    refine C.arraylength db9_9 A ?_
    rw [ints_length]
    refine C.icmp_ge db9_10 (fun z => ?_) (fun z => ?_)
    · rw [ofNat_lt (by omega) (by omega)] at z
      refine C.iloadN db9_17 rfl ?_
      exact C.ireturn db9_18 rfl (Or.inr (Or.inr (Or.inr (Or.inl rfl)))) (narrow_char hch.isC) ⟨_, rfl, by rw [pk, if_neg q, List.getD_eq_getElem?_getD, List.getElem?_eq_none_iff.mpr (by omega)]; rfl, rfl⟩ (le rfl) (le rfl)
    · rw [ofNat_lt (by omega) (by omega)] at z
      have hc : cs[i]? = some cs[i] := List.getElem?_eq_getElem z
      have ic := hC _ (List.mem_of_getElem? hc)
      refine C.aloadN db9_13 rfl rfl ?_
      refine C.iloadN db9_14 rfl ?_
      refine C.caload db9_15 A hI.1 hI.2 (ints_get hc) ?_
      exact C.ireturn db9_16 rfl (Or.inr (Or.inr (Or.inr (Or.inl rfl)))) (narrow_char ic.isC) ⟨_, rfl, by rw [pk, if_neg q, List.getD_eq_getElem?_getD, hc]; rfl, rfl⟩ (le rfl) (le rfl)
  · refine C.iloadN db9_5 rfl ?_
    exact C.ireturn db9_6 rfl (Or.inr (Or.inr (Or.inr (Or.inl rfl)))) (narrow_char hch.isC) ⟨_, rfl, by rw [pk, if_pos q], rfl⟩ (le rfl) (le rfl)
theorem P_build (B : Base Z a0 EL) {h : Heap} {b : Addr} {cs : List Int32} {ps ch : Int32} {N : Nat} (A : Arl Z h b .char (ints cs)) (hC : ∀ c ∈ cs, IsL c) (hch : IsL ch) (hl : cs.length < 1000) (hN : N ≤ 10) : Con l Z EL nw (⟨"com/example/inklingua/inklingua/lexicon/SubwordTypeFromRecordNamePinLaw", "build", "([CIIC)[C"⟩ : MethodName) method_6_code 5 (some (.array .char)) (RM 1 20 1 10) [] #[.ref b, .int (Int32.ofNat N), .int ps, .int ch] h (rR fun v h' => ∃ t, v = .ref t ∧ h.size ≤ t ∧ Ext h h' ∧ Arl Z h' t .char (ints (bl cs ps ch N))) := by
  have hI := ofNat_idx (i := N) (by omega)
  refine Con.of (plainFor_of_name (by decide +kernel)) B.1 B.2.1 ⟨[.val (.ref b), .val (.int (Int32.ofNat N)), .val (.int ps), .val (.int ch), .unset]⟩ (fun m => rfl) ?_
  intro p e s m below meth c _ C
  refine Goes.old fun O => ?_
  refine C.iloadN db10_0 rfl ?_
  refine C.newarray db10_1 tw5 hI.1 hI.2 (by omega) (le rfl) (by show 0 + N ≤ 10; omega) ?_
  intro h1 o g1 E1 l1 A1
  refine C.astore db10_3 rfl rfl rfl ?_
  have no : Z.heap.size ≤ o := by have := O.1; omega
  have bL := bl_len cs ps ch N
  have g10 : ∀ w hi, Ext h hi → Arl Z hi o .char (pre (bl cs ps ch N) 10 N) → OwnW.Goes p l e (RM 1 20 1 10) s m #[.ref b, .int (Int32.ofNat N), .int ps, .int ch] below meth c Z EL nw (rR fun v h' => ∃ t, v = .ref t ∧ h.size ≤ t ∧ Ext h h' ∧ Arl Z h' t .char (ints (bl cs ps ch N))) [o] w hi (0 + 1) (0 + N) (mkF m 176 ⟨[.val (.ref b), .val (.int (Int32.ofNat N)), .val (.int ps), .val (.int ch), .val (.ref o)]⟩ []) := by
    intro w hi Ei Ai
    have e : pre (bl cs ps ch N) 10 N = ints (bl cs ps ch N) := by unfold pre; rw [Nat.min_eq_right hN, List.take_of_length_le (by omega)]; simp
    rw [e] at Ai
    refine C.aload db10_176 rfl rfl ?_
    exact C.areturn db10_178 rfl rfl rfl rfl ⟨_, rfl, o, rfl, Nat.le_of_eq g1.symm, Ei, Ai⟩ (le rfl) (by show 0 + N ≤ 10; omega)
  have g9 : ∀ w hi, Ext h hi → Arl Z hi o .char (pre (bl cs ps ch N) 9 N) → OwnW.Goes p l e (RM 1 20 1 10) s m #[.ref b, .int (Int32.ofNat N), .int ps, .int ch] below meth c Z EL nw (rR fun v h' => ∃ t, v = .ref t ∧ h.size ≤ t ∧ Ext h h' ∧ Arl Z h' t .char (ints (bl cs ps ch N))) [o] w hi (0 + 1) (0 + N) (mkF m 157 ⟨[.val (.ref b), .val (.int (Int32.ofNat N)), .val (.int ps), .val (.int ch), .val (.ref o)]⟩ []) := by
    intro w hi Ei Ai
    refine C.iloadN db10_157 rfl ?_
    refine C.bipush (9) db10_158 rfl ?_
    refine C.icmp_le db10_160 (fun q => ?_) (fun q => ?_)
    · refine g10 _ hi Ei ?_
      have q' : N ≤ 9 := by rw [nlt, ofNat_toInt (by omega)] at q; have e : (9 : Int32).toInt = 9 := rfl; omega
      rw [← pre_skip q']; exact Ai
    · have q' : 9 < N := by rw [ilt, ofNat_toInt (by omega)] at q; have e : (9 : Int32).toInt = 9 := rfl; omega
      refine C.aload db10_163 rfl rfl ?_
      refine C.bipush (9) db10_165 rfl ?_
      refine C.aloadN db10_167 rfl rfl ?_
      refine C.bipush (9) db10_168 rfl ?_
      refine C.iloadN db10_170 rfl ?_
      refine C.iloadN db10_171 rfl ?_
      refine C.s4R db10_172 tw18 tw19 tw3 tw20 (by decide) (by decide +kernel) rfl nof (P_pick (i := 9) B (A.ext Ei) hC hch hl (by decide)) (le rfl) (le rfl) (le rfl) (by show 0 + N + 0 ≤ 10; omega) ?_
      rintro _ _ ⟨rfl, rfl⟩
      refine C.castore (i := 9) db10_175 Ai (by decide) rfl (by unfold pre; rw [List.length_append, ints_length, List.length_take, List.length_replicate]; omega) no ?_
      intro h2 W2 A2
      rw [nar_char (pk_L hC hch).isC, pre_step (i := 9) q' (by omega) (bl_at q')] at A2
      exact g10 _ h2 (ext_of_wr Ei W2 (by omega)) A2
  have g8 : ∀ w hi, Ext h hi → Arl Z hi o .char (pre (bl cs ps ch N) 8 N) → OwnW.Goes p l e (RM 1 20 1 10) s m #[.ref b, .int (Int32.ofNat N), .int ps, .int ch] below meth c Z EL nw (rR fun v h' => ∃ t, v = .ref t ∧ h.size ≤ t ∧ Ext h h' ∧ Arl Z h' t .char (ints (bl cs ps ch N))) [o] w hi (0 + 1) (0 + N) (mkF m 138 ⟨[.val (.ref b), .val (.int (Int32.ofNat N)), .val (.int ps), .val (.int ch), .val (.ref o)]⟩ []) := by
    intro w hi Ei Ai
    refine C.iloadN db10_138 rfl ?_
    refine C.bipush (8) db10_139 rfl ?_
    refine C.icmp_le db10_141 (fun q => ?_) (fun q => ?_)
    · refine g9 _ hi Ei ?_
      have q' : N ≤ 8 := by rw [nlt, ofNat_toInt (by omega)] at q; have e : (8 : Int32).toInt = 8 := rfl; omega
      rw [← pre_skip q']; exact Ai
    · have q' : 8 < N := by rw [ilt, ofNat_toInt (by omega)] at q; have e : (8 : Int32).toInt = 8 := rfl; omega
      refine C.aload db10_144 rfl rfl ?_
      refine C.bipush (8) db10_146 rfl ?_
      refine C.aloadN db10_148 rfl rfl ?_
      refine C.bipush (8) db10_149 rfl ?_
      refine C.iloadN db10_151 rfl ?_
      refine C.iloadN db10_152 rfl ?_
      refine C.s4R db10_153 tw18 tw19 tw3 tw20 (by decide) (by decide +kernel) rfl nof (P_pick (i := 8) B (A.ext Ei) hC hch hl (by decide)) (le rfl) (le rfl) (le rfl) (by show 0 + N + 0 ≤ 10; omega) ?_
      rintro _ _ ⟨rfl, rfl⟩
      refine C.castore (i := 8) db10_156 Ai (by decide) rfl (by unfold pre; rw [List.length_append, ints_length, List.length_take, List.length_replicate]; omega) no ?_
      intro h2 W2 A2
      rw [nar_char (pk_L hC hch).isC, pre_step (i := 8) q' (by omega) (bl_at q')] at A2
      exact g9 _ h2 (ext_of_wr Ei W2 (by omega)) A2
  have g7 : ∀ w hi, Ext h hi → Arl Z hi o .char (pre (bl cs ps ch N) 7 N) → OwnW.Goes p l e (RM 1 20 1 10) s m #[.ref b, .int (Int32.ofNat N), .int ps, .int ch] below meth c Z EL nw (rR fun v h' => ∃ t, v = .ref t ∧ h.size ≤ t ∧ Ext h h' ∧ Arl Z h' t .char (ints (bl cs ps ch N))) [o] w hi (0 + 1) (0 + N) (mkF m 119 ⟨[.val (.ref b), .val (.int (Int32.ofNat N)), .val (.int ps), .val (.int ch), .val (.ref o)]⟩ []) := by
    intro w hi Ei Ai
    refine C.iloadN db10_119 rfl ?_
    refine C.bipush (7) db10_120 rfl ?_
    refine C.icmp_le db10_122 (fun q => ?_) (fun q => ?_)
    · refine g8 _ hi Ei ?_
      have q' : N ≤ 7 := by rw [nlt, ofNat_toInt (by omega)] at q; have e : (7 : Int32).toInt = 7 := rfl; omega
      rw [← pre_skip q']; exact Ai
    · have q' : 7 < N := by rw [ilt, ofNat_toInt (by omega)] at q; have e : (7 : Int32).toInt = 7 := rfl; omega
      refine C.aload db10_125 rfl rfl ?_
      refine C.bipush (7) db10_127 rfl ?_
      refine C.aloadN db10_129 rfl rfl ?_
      refine C.bipush (7) db10_130 rfl ?_
      refine C.iloadN db10_132 rfl ?_
      refine C.iloadN db10_133 rfl ?_
      refine C.s4R db10_134 tw18 tw19 tw3 tw20 (by decide) (by decide +kernel) rfl nof (P_pick (i := 7) B (A.ext Ei) hC hch hl (by decide)) (le rfl) (le rfl) (le rfl) (by show 0 + N + 0 ≤ 10; omega) ?_
      rintro _ _ ⟨rfl, rfl⟩
      refine C.castore (i := 7) db10_137 Ai (by decide) rfl (by unfold pre; rw [List.length_append, ints_length, List.length_take, List.length_replicate]; omega) no ?_
      intro h2 W2 A2
      rw [nar_char (pk_L hC hch).isC, pre_step (i := 7) q' (by omega) (bl_at q')] at A2
      exact g8 _ h2 (ext_of_wr Ei W2 (by omega)) A2
  have g6 : ∀ w hi, Ext h hi → Arl Z hi o .char (pre (bl cs ps ch N) 6 N) → OwnW.Goes p l e (RM 1 20 1 10) s m #[.ref b, .int (Int32.ofNat N), .int ps, .int ch] below meth c Z EL nw (rR fun v h' => ∃ t, v = .ref t ∧ h.size ≤ t ∧ Ext h h' ∧ Arl Z h' t .char (ints (bl cs ps ch N))) [o] w hi (0 + 1) (0 + N) (mkF m 100 ⟨[.val (.ref b), .val (.int (Int32.ofNat N)), .val (.int ps), .val (.int ch), .val (.ref o)]⟩ []) := by
    intro w hi Ei Ai
    refine C.iloadN db10_100 rfl ?_
    refine C.bipush (6) db10_101 rfl ?_
    refine C.icmp_le db10_103 (fun q => ?_) (fun q => ?_)
    · refine g7 _ hi Ei ?_
      have q' : N ≤ 6 := by rw [nlt, ofNat_toInt (by omega)] at q; have e : (6 : Int32).toInt = 6 := rfl; omega
      rw [← pre_skip q']; exact Ai
    · have q' : 6 < N := by rw [ilt, ofNat_toInt (by omega)] at q; have e : (6 : Int32).toInt = 6 := rfl; omega
      refine C.aload db10_106 rfl rfl ?_
      refine C.bipush (6) db10_108 rfl ?_
      refine C.aloadN db10_110 rfl rfl ?_
      refine C.bipush (6) db10_111 rfl ?_
      refine C.iloadN db10_113 rfl ?_
      refine C.iloadN db10_114 rfl ?_
      refine C.s4R db10_115 tw18 tw19 tw3 tw20 (by decide) (by decide +kernel) rfl nof (P_pick (i := 6) B (A.ext Ei) hC hch hl (by decide)) (le rfl) (le rfl) (le rfl) (by show 0 + N + 0 ≤ 10; omega) ?_
      rintro _ _ ⟨rfl, rfl⟩
      refine C.castore (i := 6) db10_118 Ai (by decide) rfl (by unfold pre; rw [List.length_append, ints_length, List.length_take, List.length_replicate]; omega) no ?_
      intro h2 W2 A2
      rw [nar_char (pk_L hC hch).isC, pre_step (i := 6) q' (by omega) (bl_at q')] at A2
      exact g7 _ h2 (ext_of_wr Ei W2 (by omega)) A2
  have g5 : ∀ w hi, Ext h hi → Arl Z hi o .char (pre (bl cs ps ch N) 5 N) → OwnW.Goes p l e (RM 1 20 1 10) s m #[.ref b, .int (Int32.ofNat N), .int ps, .int ch] below meth c Z EL nw (rR fun v h' => ∃ t, v = .ref t ∧ h.size ≤ t ∧ Ext h h' ∧ Arl Z h' t .char (ints (bl cs ps ch N))) [o] w hi (0 + 1) (0 + N) (mkF m 84 ⟨[.val (.ref b), .val (.int (Int32.ofNat N)), .val (.int ps), .val (.int ch), .val (.ref o)]⟩ []) := by
    intro w hi Ei Ai
    refine C.iloadN db10_84 rfl ?_
    refine C.iconst (5) db10_85 rfl ?_
    refine C.icmp_le db10_86 (fun q => ?_) (fun q => ?_)
    · refine g6 _ hi Ei ?_
      have q' : N ≤ 5 := by rw [nlt, ofNat_toInt (by omega)] at q; have e : (5 : Int32).toInt = 5 := rfl; omega
      rw [← pre_skip q']; exact Ai
    · have q' : 5 < N := by rw [ilt, ofNat_toInt (by omega)] at q; have e : (5 : Int32).toInt = 5 := rfl; omega
      refine C.aload db10_89 rfl rfl ?_
      refine C.iconst (5) db10_91 rfl ?_
      refine C.aloadN db10_92 rfl rfl ?_
      refine C.iconst (5) db10_93 rfl ?_
      refine C.iloadN db10_94 rfl ?_
      refine C.iloadN db10_95 rfl ?_
      refine C.s4R db10_96 tw18 tw19 tw3 tw20 (by decide) (by decide +kernel) rfl nof (P_pick (i := 5) B (A.ext Ei) hC hch hl (by decide)) (le rfl) (le rfl) (le rfl) (by show 0 + N + 0 ≤ 10; omega) ?_
      rintro _ _ ⟨rfl, rfl⟩
      refine C.castore (i := 5) db10_99 Ai (by decide) rfl (by unfold pre; rw [List.length_append, ints_length, List.length_take, List.length_replicate]; omega) no ?_
      intro h2 W2 A2
      rw [nar_char (pk_L hC hch).isC, pre_step (i := 5) q' (by omega) (bl_at q')] at A2
      exact g6 _ h2 (ext_of_wr Ei W2 (by omega)) A2
  have g4 : ∀ w hi, Ext h hi → Arl Z hi o .char (pre (bl cs ps ch N) 4 N) → OwnW.Goes p l e (RM 1 20 1 10) s m #[.ref b, .int (Int32.ofNat N), .int ps, .int ch] below meth c Z EL nw (rR fun v h' => ∃ t, v = .ref t ∧ h.size ≤ t ∧ Ext h h' ∧ Arl Z h' t .char (ints (bl cs ps ch N))) [o] w hi (0 + 1) (0 + N) (mkF m 68 ⟨[.val (.ref b), .val (.int (Int32.ofNat N)), .val (.int ps), .val (.int ch), .val (.ref o)]⟩ []) := by
    intro w hi Ei Ai
    refine C.iloadN db10_68 rfl ?_
    refine C.iconst (4) db10_69 rfl ?_
    refine C.icmp_le db10_70 (fun q => ?_) (fun q => ?_)
    · refine g5 _ hi Ei ?_
      have q' : N ≤ 4 := by rw [nlt, ofNat_toInt (by omega)] at q; have e : (4 : Int32).toInt = 4 := rfl; omega
      rw [← pre_skip q']; exact Ai
    · have q' : 4 < N := by rw [ilt, ofNat_toInt (by omega)] at q; have e : (4 : Int32).toInt = 4 := rfl; omega
      refine C.aload db10_73 rfl rfl ?_
      refine C.iconst (4) db10_75 rfl ?_
      refine C.aloadN db10_76 rfl rfl ?_
      refine C.iconst (4) db10_77 rfl ?_
      refine C.iloadN db10_78 rfl ?_
      refine C.iloadN db10_79 rfl ?_
      refine C.s4R db10_80 tw18 tw19 tw3 tw20 (by decide) (by decide +kernel) rfl nof (P_pick (i := 4) B (A.ext Ei) hC hch hl (by decide)) (le rfl) (le rfl) (le rfl) (by show 0 + N + 0 ≤ 10; omega) ?_
      rintro _ _ ⟨rfl, rfl⟩
      refine C.castore (i := 4) db10_83 Ai (by decide) rfl (by unfold pre; rw [List.length_append, ints_length, List.length_take, List.length_replicate]; omega) no ?_
      intro h2 W2 A2
      rw [nar_char (pk_L hC hch).isC, pre_step (i := 4) q' (by omega) (bl_at q')] at A2
      exact g5 _ h2 (ext_of_wr Ei W2 (by omega)) A2
  have g3 : ∀ w hi, Ext h hi → Arl Z hi o .char (pre (bl cs ps ch N) 3 N) → OwnW.Goes p l e (RM 1 20 1 10) s m #[.ref b, .int (Int32.ofNat N), .int ps, .int ch] below meth c Z EL nw (rR fun v h' => ∃ t, v = .ref t ∧ h.size ≤ t ∧ Ext h h' ∧ Arl Z h' t .char (ints (bl cs ps ch N))) [o] w hi (0 + 1) (0 + N) (mkF m 52 ⟨[.val (.ref b), .val (.int (Int32.ofNat N)), .val (.int ps), .val (.int ch), .val (.ref o)]⟩ []) := by
    intro w hi Ei Ai
    refine C.iloadN db10_52 rfl ?_
    refine C.iconst (3) db10_53 rfl ?_
    refine C.icmp_le db10_54 (fun q => ?_) (fun q => ?_)
    · refine g4 _ hi Ei ?_
      have q' : N ≤ 3 := by rw [nlt, ofNat_toInt (by omega)] at q; have e : (3 : Int32).toInt = 3 := rfl; omega
      rw [← pre_skip q']; exact Ai
    · have q' : 3 < N := by rw [ilt, ofNat_toInt (by omega)] at q; have e : (3 : Int32).toInt = 3 := rfl; omega
      refine C.aload db10_57 rfl rfl ?_
      refine C.iconst (3) db10_59 rfl ?_
      refine C.aloadN db10_60 rfl rfl ?_
      refine C.iconst (3) db10_61 rfl ?_
      refine C.iloadN db10_62 rfl ?_
      refine C.iloadN db10_63 rfl ?_
      refine C.s4R db10_64 tw18 tw19 tw3 tw20 (by decide) (by decide +kernel) rfl nof (P_pick (i := 3) B (A.ext Ei) hC hch hl (by decide)) (le rfl) (le rfl) (le rfl) (by show 0 + N + 0 ≤ 10; omega) ?_
      rintro _ _ ⟨rfl, rfl⟩
      refine C.castore (i := 3) db10_67 Ai (by decide) rfl (by unfold pre; rw [List.length_append, ints_length, List.length_take, List.length_replicate]; omega) no ?_
      intro h2 W2 A2
      rw [nar_char (pk_L hC hch).isC, pre_step (i := 3) q' (by omega) (bl_at q')] at A2
      exact g4 _ h2 (ext_of_wr Ei W2 (by omega)) A2
  have g2 : ∀ w hi, Ext h hi → Arl Z hi o .char (pre (bl cs ps ch N) 2 N) → OwnW.Goes p l e (RM 1 20 1 10) s m #[.ref b, .int (Int32.ofNat N), .int ps, .int ch] below meth c Z EL nw (rR fun v h' => ∃ t, v = .ref t ∧ h.size ≤ t ∧ Ext h h' ∧ Arl Z h' t .char (ints (bl cs ps ch N))) [o] w hi (0 + 1) (0 + N) (mkF m 36 ⟨[.val (.ref b), .val (.int (Int32.ofNat N)), .val (.int ps), .val (.int ch), .val (.ref o)]⟩ []) := by
    intro w hi Ei Ai
    refine C.iloadN db10_36 rfl ?_
    refine C.iconst (2) db10_37 rfl ?_
    refine C.icmp_le db10_38 (fun q => ?_) (fun q => ?_)
    · refine g3 _ hi Ei ?_
      have q' : N ≤ 2 := by rw [nlt, ofNat_toInt (by omega)] at q; have e : (2 : Int32).toInt = 2 := rfl; omega
      rw [← pre_skip q']; exact Ai
    · have q' : 2 < N := by rw [ilt, ofNat_toInt (by omega)] at q; have e : (2 : Int32).toInt = 2 := rfl; omega
      refine C.aload db10_41 rfl rfl ?_
      refine C.iconst (2) db10_43 rfl ?_
      refine C.aloadN db10_44 rfl rfl ?_
      refine C.iconst (2) db10_45 rfl ?_
      refine C.iloadN db10_46 rfl ?_
      refine C.iloadN db10_47 rfl ?_
      refine C.s4R db10_48 tw18 tw19 tw3 tw20 (by decide) (by decide +kernel) rfl nof (P_pick (i := 2) B (A.ext Ei) hC hch hl (by decide)) (le rfl) (le rfl) (le rfl) (by show 0 + N + 0 ≤ 10; omega) ?_
      rintro _ _ ⟨rfl, rfl⟩
      refine C.castore (i := 2) db10_51 Ai (by decide) rfl (by unfold pre; rw [List.length_append, ints_length, List.length_take, List.length_replicate]; omega) no ?_
      intro h2 W2 A2
      rw [nar_char (pk_L hC hch).isC, pre_step (i := 2) q' (by omega) (bl_at q')] at A2
      exact g3 _ h2 (ext_of_wr Ei W2 (by omega)) A2
  have g1 : ∀ w hi, Ext h hi → Arl Z hi o .char (pre (bl cs ps ch N) 1 N) → OwnW.Goes p l e (RM 1 20 1 10) s m #[.ref b, .int (Int32.ofNat N), .int ps, .int ch] below meth c Z EL nw (rR fun v h' => ∃ t, v = .ref t ∧ h.size ≤ t ∧ Ext h h' ∧ Arl Z h' t .char (ints (bl cs ps ch N))) [o] w hi (0 + 1) (0 + N) (mkF m 20 ⟨[.val (.ref b), .val (.int (Int32.ofNat N)), .val (.int ps), .val (.int ch), .val (.ref o)]⟩ []) := by
    intro w hi Ei Ai
    refine C.iloadN db10_20 rfl ?_
    refine C.iconst (1) db10_21 rfl ?_
    refine C.icmp_le db10_22 (fun q => ?_) (fun q => ?_)
    · refine g2 _ hi Ei ?_
      have q' : N ≤ 1 := by rw [nlt, ofNat_toInt (by omega)] at q; have e : (1 : Int32).toInt = 1 := rfl; omega
      rw [← pre_skip q']; exact Ai
    · have q' : 1 < N := by rw [ilt, ofNat_toInt (by omega)] at q; have e : (1 : Int32).toInt = 1 := rfl; omega
      refine C.aload db10_25 rfl rfl ?_
      refine C.iconst (1) db10_27 rfl ?_
      refine C.aloadN db10_28 rfl rfl ?_
      refine C.iconst (1) db10_29 rfl ?_
      refine C.iloadN db10_30 rfl ?_
      refine C.iloadN db10_31 rfl ?_
      refine C.s4R db10_32 tw18 tw19 tw3 tw20 (by decide) (by decide +kernel) rfl nof (P_pick (i := 1) B (A.ext Ei) hC hch hl (by decide)) (le rfl) (le rfl) (le rfl) (by show 0 + N + 0 ≤ 10; omega) ?_
      rintro _ _ ⟨rfl, rfl⟩
      refine C.castore (i := 1) db10_35 Ai (by decide) rfl (by unfold pre; rw [List.length_append, ints_length, List.length_take, List.length_replicate]; omega) no ?_
      intro h2 W2 A2
      rw [nar_char (pk_L hC hch).isC, pre_step (i := 1) q' (by omega) (bl_at q')] at A2
      exact g2 _ h2 (ext_of_wr Ei W2 (by omega)) A2
  have g0 : ∀ w hi, Ext h hi → Arl Z hi o .char (pre (bl cs ps ch N) 0 N) → OwnW.Goes p l e (RM 1 20 1 10) s m #[.ref b, .int (Int32.ofNat N), .int ps, .int ch] below meth c Z EL nw (rR fun v h' => ∃ t, v = .ref t ∧ h.size ≤ t ∧ Ext h h' ∧ Arl Z h' t .char (ints (bl cs ps ch N))) [o] w hi (0 + 1) (0 + N) (mkF m 5 ⟨[.val (.ref b), .val (.int (Int32.ofNat N)), .val (.int ps), .val (.int ch), .val (.ref o)]⟩ []) := by
    intro w hi Ei Ai
    refine C.iloadN db10_5 rfl ?_
    refine C.if_le db10_6 (fun q => ?_) (fun q => ?_)
    · refine g1 _ hi Ei ?_
      have q' : N ≤ 0 := by rw [nlt, ofNat_toInt (by omega)] at q; have e : (0 : Int32).toInt = 0 := rfl; omega
      rw [← pre_skip q']; exact Ai
    · have q' : 0 < N := by rw [ilt, ofNat_toInt (by omega)] at q; have e : (0 : Int32).toInt = 0 := rfl; omega
      refine C.aload db10_9 rfl rfl ?_
      refine C.iconst (0) db10_11 rfl ?_
      refine C.aloadN db10_12 rfl rfl ?_
      refine C.iconst (0) db10_13 rfl ?_
      refine C.iloadN db10_14 rfl ?_
      refine C.iloadN db10_15 rfl ?_
      refine C.s4R db10_16 tw18 tw19 tw3 tw20 (by decide) (by decide +kernel) rfl nof (P_pick (i := 0) B (A.ext Ei) hC hch hl (by decide)) (le rfl) (le rfl) (le rfl) (by show 0 + N + 0 ≤ 10; omega) ?_
      rintro _ _ ⟨rfl, rfl⟩
      refine C.castore (i := 0) db10_19 Ai (by decide) rfl (by unfold pre; rw [List.length_append, ints_length, List.length_take, List.length_replicate]; omega) no ?_
      intro h2 W2 A2
      rw [nar_char (pk_L hC hch).isC, pre_step (i := 0) q' (by omega) (bl_at q')] at A2
      exact g1 _ h2 (ext_of_wr Ei W2 (by omega)) A2
  refine g0 _ h1 E1 ?_
  have e : pre (bl cs ps ch N) 0 N = List.replicate N (.int 0) := by unfold pre; simp [ints]
  rw [e]; exact A1
theorem P_values (B : Base Z a0 EL) {h : Heap} {va : Addr} {vs : List Value} (S : Sta Z Z.heap "com/example/inklingua/inklingua/lexicon/SubwordType" "$VALUES" "[Lcom/example/inklingua/inklingua/lexicon/SubwordType;" (.ref va)) (A : Arl Z h va (.object "com/example/inklingua/inklingua/lexicon/SubwordType") vs) (X : Exa Z h va "[Lcom/example/inklingua/inklingua/lexicon/SubwordType;") (hq : vs.length = 5) : Con l Z EL nw (⟨"com/example/inklingua/inklingua/lexicon/SubwordType", "values", "()[Lcom/example/inklingua/inklingua/lexicon/SubwordType;"⟩ : MethodName) prog_37_method_1_code 0 (some (.array (.object "com/example/inklingua/inklingua/lexicon/SubwordType"))) (RM 1 14 1 5) [] #[] h (rR fun v h' => ∃ b, v = .ref b ∧ Ext h h' ∧ Arl Z h' b (.object "com/example/inklingua/inklingua/lexicon/SubwordType") vs) := by
  refine Con.of (plainFor_of_name (by decide +kernel)) B.1 B.2.1 ⟨[]⟩ (fun m => rfl) ?_
  intro p e s m below meth c _ C
  refine C.getS db11_0 tw53 S ?_
  refine C.cloneA db11_3 tw55 tw56 tw60 tw58 tw59 tw61 A X rfl (le rfl) (le rfl) hq (le rfl) (le rfl) ?_
  intro h1 b g1 E1 A1 X1
  refine C.checkcast db11_6 tw67 (Ins.self X1) ?_
  exact C.areturn db11_9 rfl rfl rfl rfl ⟨_, rfl, b, rfl, E1, A1⟩ (le rfl) (le rfl)
theorem J_eqP (B : Base Z a0 EL) {h : Heap} {a : Addr} {v : Value} {cs : List Int32} {pp : Option (List Int32)} (S : StrAt Z h a cs) (T : PatAt Z h v pp) : Con l Z EL nw (⟨"java/lang/String", "equals", "(Ljava/lang/Object;)Z"⟩ : MethodName) jdk_42_method_66_code 3 (some .boolean) (RM 1 14 0 0) [] #[.ref a, v] h (rR fun u h' => ((u = .int 1 ∧ pp = some cs) ∨ (u = .int 0 ∧ pp ≠ some cs)) ∧ h = h') := by
  rcases T with ⟨rfl, rfl⟩ | ⟨b, ds, rfl, rfl, T⟩
  · refine Con.of (plainFor_of_name (by decide +kernel)) B.1 B.2.1 ⟨[.val (.ref a), .val .null, .unset]⟩ (fun m => rfl) ?_
    intro p e s m below meth c _ C
    refine C.aloadN db6_0 rfl rfl ?_
    refine C.aloadN db6_1 rfl rfl ?_
    refine C.acmp_ne db6_2 rfl rfl (fun _ => ?_) (fun q => nomatch q)
    refine C.aloadN db6_7 rfl rfl ?_
    refine C.instNull db6_8 ?_
    refine C.if_eq db6_11 (fun _ => ?_) (fun q => absurd rfl q)
    refine C.iconst (0) db6_54 rfl ?_
    exact C.ireturn db6_55 rfl (Or.inr (Or.inl rfl)) rfl ⟨_, rfl, Or.inr ⟨rfl, fun q => nomatch q⟩, rfl⟩ (le rfl) (le rfl)
  · exact (J_eq B S T).weaken (fun v h' q => by
      obtain ⟨v, rfl, q, e⟩ := q
      refine ⟨v, rfl, ?_, e⟩
      rcases q with ⟨q1, q2⟩ | ⟨q1, q2⟩
      · exact Or.inl ⟨q1, by rw [q2]⟩
      · exact Or.inr ⟨q1, fun z => q2 (Option.some.inj z).symm⟩)
theorem P_fromL (B : Base Z a0 EL) {p : Program} {e : Env} {s : State} {m : MethodId} {args : Array Value} {below : List Frame} {meth : Method} {c : Code} {mn : String} {h h1 : Heap} {b : Addr} {sv : Value} {pp : Option (List Int32)} {es : List (Addr × List Int32)} (C : Cxt p m meth c Z a0 EL "com/example/inklingua/inklingua/lexicon/SubwordType" mn prog_37_method_5_code 6 (some (.object "com/example/inklingua/inklingua/lexicon/SubwordType")) tables_1) (T : PatAt Z h1 sv pp) (O : Ext Z.heap h1) (E1 : Ext h h1) (h5 : es.length = 5) (A : Arl Z h1 b (.object "com/example/inklingua/inklingua/lexicon/SubwordType") (es.map fun x => .ref x.1)) (HE : (∀ (i : Nat) (ea : Addr) (cs : List Int32), es[i]? = some (ea, cs) → ∃ pa, Fld Z Z.heap ea "com/example/inklingua/inklingua/lexicon/SubwordType" "recordName" "Ljava/lang/String;" (.ref pa) ∧ StrAt Z Z.heap pa cs)) :
    ∀ (r i w : Nat) (x5 : Slot), okS x5 = true → i + r = 5 → (∀ (j : Nat) (ea : Addr) (cs : List Int32), j < i → es[j]? = some (ea, cs) → pp ≠ some cs) → OwnW.Goes p l e (RM 2 33 1 5) s m args below meth c Z EL nw (rR fun v h' => Exp es pp v ∧ Ext h h') [] w h1 1 5 (mkF m 12 ⟨[.val sv, .val .null, .val (.ref b), .val (.int 5), .val (.int (Int32.ofNat i)), x5]⟩ []) := by
  have e5 : (5 : Int32) = Int32.ofNat 5 := rfl
  intro r
  induction r with
  | zero =>
    intro i w x5 h5x hir hno
    obtain rfl : i = 5 := by omega
    refine C.iload db12_12 rfl ?_
    refine C.iloadN db12_14 rfl ?_
    refine C.icmp_ge db12_15 (fun _ => ?_) (fun q => absurd q (by decide))
    refine C.aloadN db12_48 rfl rfl ?_
    exact C.areturn db12_49 rfl rfl rfl rfl ⟨_, rfl, Or.inr ⟨rfl, fun j ea cs hj => hno j ea cs (by have := (List.getElem?_eq_some_iff.mp hj).1; omega) hj⟩, E1⟩ (le rfl) (le rfl)
  | succ r ih =>
    intro i w x5 h5x hir hno
    have hI := ofNat_idx (i := i) (by omega)
    refine C.iload db12_12 rfl ?_
    refine C.iloadN db12_14 rfl ?_
    refine C.icmp_ge db12_15 (fun q => absurd (by rw [e5, ofNat_lt (by omega) (by omega)]; omega) q) (fun _ => ?_)
    have he : es[i]? = some es[i] := List.getElem?_eq_getElem (by omega)
    obtain ⟨⟨ea, cs⟩, hq⟩ : ∃ y, es[i] = y := ⟨_, rfl⟩
    rw [hq] at he
    obtain ⟨pa, Fp, Sp⟩ := HE i ea cs he
    refine C.aloadN db12_18 rfl rfl ?_
    refine C.iload db12_19 rfl ?_
    refine C.aaload db12_21 A rfl hI.1 hI.2 (v := .ref ea) (by rw [List.getElem?_map, he]; rfl) ?_
    refine C.astore db12_22 rfl rfl h5x ?_
    refine C.aload db12_24 rfl rfl ?_
    refine C.getF db12_26 tw69 (Fp.ext O) ?_
    refine C.aloadN db12_29 rfl T.isRef ?_
    refine C.v1R db12_30 tw71 tw72 tw74 tw73 tw14 tw75 (by decide) (by decide +kernel) rfl nof (Sp.ext O).exa (fun _ q => notFace_of_selects q) (J_eqP B (Sp.ext O) T) (le rfl) (le rfl) (le rfl) (le rfl) ?_
    rintro v _ ⟨hv, rfl⟩
    rcases hv with ⟨rfl, q⟩ | ⟨rfl, q⟩
    · refine C.if_eq db12_33 (fun z => absurd z (by decide)) (fun _ => ?_)
      refine C.aload db12_36 rfl rfl ?_
      refine C.astoreN db12_38 rfl rfl rfl ?_
      refine C.goto db12_39 ?_
      refine C.aloadN db12_48 rfl rfl ?_
      exact C.areturn db12_49 rfl rfl rfl rfl ⟨_, rfl, Or.inl ⟨i, ea, cs, he, rfl, q⟩, E1⟩ (le rfl) (le rfl)
    · refine C.if_eq db12_33 (fun _ => ?_) (fun z => absurd rfl z)
      refine C.iinc (1) db12_42 rfl rfl ?_
      refine C.goto db12_45 ?_
      rw [ofNat_succ]
      refine ih (i + 1) _ _ rfl (by omega) ?_
      intro j eb ds hj hd
      by_cases z : j = i
      · subst z; rw [he] at hd; cases Option.some.inj hd; exact q
      · exact hno j eb ds (by omega) hd
theorem P_from (B : Base Z a0 EL) {h : Heap} {va : Addr} {sv : Value} {pp : Option (List Int32)} {es : List (Addr × List Int32)} (S : Sta Z Z.heap "com/example/inklingua/inklingua/lexicon/SubwordType" "$VALUES" "[Lcom/example/inklingua/inklingua/lexicon/SubwordType;" (.ref va)) (A : Arl Z Z.heap va (.object "com/example/inklingua/inklingua/lexicon/SubwordType") (es.map fun x => .ref x.1)) (X : Exa Z Z.heap va "[Lcom/example/inklingua/inklingua/lexicon/SubwordType;") (HE : (∀ (i : Nat) (ea : Addr) (cs : List Int32), es[i]? = some (ea, cs) → ∃ pa, Fld Z Z.heap ea "com/example/inklingua/inklingua/lexicon/SubwordType" "recordName" "Ljava/lang/String;" (.ref pa) ∧ StrAt Z Z.heap pa cs)) (h5 : es.length = 5) (O : Ext Z.heap h) (T : PatAt Z h sv pp) : Con l Z EL nw (⟨"com/example/inklingua/inklingua/lexicon/SubwordType", "fromRecordName", "(Ljava/lang/String;)Lcom/example/inklingua/inklingua/lexicon/SubwordType;"⟩ : MethodName) prog_37_method_5_code 6 (some (.object "com/example/inklingua/inklingua/lexicon/SubwordType")) (RM 2 33 1 5) [] #[sv] h (rR fun v h' => Exp es pp v ∧ Ext h h') := by
  have go : ∀ sv, PatAt Z h sv pp → (∀ m, entryFrame m #[sv] 6 = mkF m 0 ⟨[.val sv, .unset, .unset, .unset, .unset, .unset]⟩ []) → Con l Z EL nw (⟨"com/example/inklingua/inklingua/lexicon/SubwordType", "fromRecordName", "(Ljava/lang/String;)Lcom/example/inklingua/inklingua/lexicon/SubwordType;"⟩ : MethodName) prog_37_method_5_code 6 (some (.object "com/example/inklingua/inklingua/lexicon/SubwordType")) (RM 2 33 1 5) [] #[sv] h (rR fun v h' => Exp es pp v ∧ Ext h h') := by
    intro sv T hv
    refine Con.of (plainFor_of_name (by decide +kernel)) B.1 B.2.1 ⟨[.val sv, .unset, .unset, .unset, .unset, .unset]⟩ hv ?_
    intro p e s m below meth c _ C
    refine C.aconst_null db12_0 ?_
    refine C.astoreN db12_1 rfl rfl rfl ?_
    refine C.s0R db12_2 tw50 tw51 tw10 tw52 (by decide) (by decide +kernel) rfl nof (P_values B S (A.ext O) (X.ext O) (by simp [h5])) (le rfl) (le rfl) (le rfl) (le rfl) ?_
    rintro _ h1 ⟨b, rfl, E1, A1⟩
    refine C.astoreN db12_5 rfl rfl rfl ?_
    refine C.aloadN db12_6 rfl rfl ?_
    refine C.arraylength db12_7 A1 ?_
    rw [show Int32.ofNat (es.map fun x => Value.ref x.1).length = 5 from by rw [List.length_map, h5]; rfl]
    refine C.istoreN db12_8 rfl rfl ?_
    refine C.iconst (0) db12_9 rfl ?_
    refine C.istore db12_10 rfl rfl ?_
    exact P_fromL B C (T.ext E1) (ext_trans O E1) E1 h5 A1 HE 5 0 _ _ rfl rfl (fun j ea cs hj => absurd hj (Nat.not_lt_zero _))
  rcases id T with ⟨rfl, -⟩ | ⟨a, cs, rfl, -⟩
  · exact go _ T (fun m => rfl)
  · exact go _ T (fun m => rfl)
theorem P_rn (B : Base Z a0 EL) {h : Heap} {a v : Addr} (F : Fld Z h a "com/example/inklingua/inklingua/lexicon/SubwordType" "recordName" "Ljava/lang/String;" (.ref v)) : Con l Z EL nw (⟨"com/example/inklingua/inklingua/lexicon/SubwordType", "recordName", "()Ljava/lang/String;"⟩ : MethodName) prog_37_method_4_code 1 (some (.object ST)) (RM 0 0 0 0) [] #[.ref a] h (rR fun w h' => w = .ref v ∧ h = h') := by
  refine Con.of (plainFor_of_name (by decide +kernel)) B.1 B.2.1 ⟨[.val (.ref a)]⟩ (fun m => rfl) ?_
  intro p e s m below meth c _ C
  refine C.aloadN db13_0 rfl rfl ?_
  refine C.getF db13_1 tw69 F ?_
  exact C.areturn db13_4 rfl rfl rfl rfl ⟨_, rfl, rfl, rfl⟩ (le rfl) (le rfl)
theorem P_law (B : Base Z a0 consts_1) {x0 x1 x2 x3 : Int32} {e0 e1 e2 e3 e4 va : Addr} (S0 : Sta Z Z.heap "com/example/inklingua/inklingua/lexicon/SubwordType" "PREFIX" "Lcom/example/inklingua/inklingua/lexicon/SubwordType;" (.ref e0)) (S1 : Sta Z Z.heap "com/example/inklingua/inklingua/lexicon/SubwordType" "STEM" "Lcom/example/inklingua/inklingua/lexicon/SubwordType;" (.ref e1)) (S2 : Sta Z Z.heap "com/example/inklingua/inklingua/lexicon/SubwordType" "SUFFIX" "Lcom/example/inklingua/inklingua/lexicon/SubwordType;" (.ref e2)) (S3 : Sta Z Z.heap "com/example/inklingua/inklingua/lexicon/SubwordType" "INVARIANT" "Lcom/example/inklingua/inklingua/lexicon/SubwordType;" (.ref e3)) (S4 : Sta Z Z.heap "com/example/inklingua/inklingua/lexicon/SubwordType" "STOP" "Lcom/example/inklingua/inklingua/lexicon/SubwordType;" (.ref e4)) (SV : Sta Z Z.heap "com/example/inklingua/inklingua/lexicon/SubwordType" "$VALUES" "[Lcom/example/inklingua/inklingua/lexicon/SubwordType;" (.ref va)) (AV : Arl Z Z.heap va (.object "com/example/inklingua/inklingua/lexicon/SubwordType") ((mkes e0 e1 e2 e3 e4).map fun x => .ref x.1)) (XV : Exa Z Z.heap va "[Lcom/example/inklingua/inklingua/lexicon/SubwordType;") (HE : (∀ (i : Nat) (ea : Addr) (cs : List Int32), (mkes e0 e1 e2 e3 e4)[i]? = some (ea, cs) → ∃ pa, Fld Z Z.heap ea "com/example/inklingua/inklingua/lexicon/SubwordType" "recordName" "Ljava/lang/String;" (.ref pa) ∧ StrAt Z Z.heap pa cs) ∧ ∀ (i : Nat) (ea : Addr) (cs : List Int32), (mkes e0 e1 e2 e3 e4)[i]? = some (ea, cs) → Exa Z Z.heap ea "com/example/inklingua/inklingua/lexicon/SubwordType") : Con l Z consts_1 false x code maxLocals ret room_1 [] #[.int x0, .int x1, .int x2, .int x3] Z.heap (rR fun v _ => v = .int 1) := by
  have hmem : ("java/lang/String", 7) ∈ consts_1 := List.mem_cons_self
  refine Con.of (plainFor_of_name (by decide +kernel)) B.1 B.2.1 ⟨[.val (.int x0), .val (.int x1), .val (.int x2), .val (.int x3), .unset, .unset, .unset, .unset, .unset, .unset, .unset, .unset, .unset]⟩ (fun m => rfl) ?_
  intro p e s m below meth c _ C
  have tail : ∀ (w : Nat) (h4 : Heap) (t : Nat) (md ch ln : Int32) (ar et : Addr) (sv xv : Value) (x12 : Slot) (pp : Option (List Int32)), okS x12 = true → Ext Z.heap h4 → PatAt Z h4 sv pp → Exp (mkes e0 e1 e2 e3 e4) pp xv → OwnW.Goes p l e room_1 s m #[.int x0, .int x1, .int x2, .int x3] below meth c Z consts_1 false (rR fun v _ => v = .int 1) [] w h4 16 800 (mkF m 227 ⟨[.val (.int x0), .val (.int x1), .val (.int x2), .val (.int x3), .val (.int (Int32.ofNat t)), .val (.int md), .val (.int ch), .val (.ref ar), .val (.int ln), .val (.ref et), .val sv, .val xv, x12]⟩ []) := by
    intro w h4 t md ch ln ar et sv xv x12 pp ok O4 T E
    refine C.aload dL_227 rfl T.isRef ?_
    refine C.s1R dL_229 tw47 tw48 tw10 tw49 (by decide) (by decide +kernel) rfl nof (P_from B SV AV XV HE.1 rfl O4 T) (le rfl) (le rfl) (le rfl) (le rfl) ?_
    rintro v h5 ⟨E', E5⟩
    obtain rfl := E'.uniq E
    refine C.astore dL_232 E.isRef rfl ok ?_
    refine C.aload dL_234 rfl E.isRef ?_
    refine C.aload dL_236 rfl E.isRef ?_
    refine C.acmp_eq dL_238 E.isRef E.isRef (fun _ => ?_) (fun q => absurd rfl q)
    refine C.aload dL_243 rfl E.isRef ?_
    rcases E with ⟨i, ea, cs, hi, rfl, rfl⟩ | ⟨rfl, -⟩
    · obtain ⟨pa, Fp, Sp⟩ := HE.1 i ea cs hi
      rcases T with ⟨-, q⟩ | ⟨a, ds, rfl, q, Sa⟩
      · cases q
      cases Option.some.inj q
      refine C.ifnullN dL_245 ?_
      refine C.aload dL_248 rfl rfl ?_
      refine C.v0R dL_250 tw88 tw89 tw91 tw90 tw10 tw92 (by decide) (by decide +kernel) rfl nof (((HE.2 i ea cs hi).ext O4).ext E5) (fun _ q => notFace_of_selects q) (P_rn B ((Fp.ext O4).ext E5)) (le rfl) (le rfl) (le rfl) (le rfl) ?_
      rintro _ _ ⟨rfl, rfl⟩
      refine C.aload dL_253 rfl rfl ?_
      refine C.v1R dL_255 tw93 tw72 tw74 tw73 tw14 tw75 (by decide) (by decide +kernel) rfl nof ((Sp.ext O4).ext E5).exa (fun _ q => notFace_of_selects q) (J_eq B ((Sp.ext O4).ext E5) (Sa.ext E5)) (le rfl) (le rfl) (le rfl) (le rfl) ?_
      rintro v _ ⟨hv, rfl⟩
      rcases hv with ⟨rfl, -⟩ | ⟨rfl, q⟩
      · refine C.if_ne dL_258 (fun _ => ?_) (fun z => absurd z (by decide))
        refine C.iconst (1) dL_263 rfl ?_
        exact C.ireturn dL_264 rfl (Or.inr (Or.inl rfl)) rfl ⟨_, rfl, rfl⟩ (le rfl) (le rfl)
      · exact absurd rfl q
    · refine C.ifnullY dL_245 ?_
      refine C.iconst (1) dL_263 rfl ?_
      exact C.ireturn dL_264 rfl (Or.inr (Or.inl rfl)) rfl ⟨_, rfl, rfl⟩ (le rfl) (le rfl)
  have ht := c_and x0 2147483647 (by decide)
  have hr := (c_irem (x0 &&& 2147483647) 5 5 rfl).1 ht.1
  obtain ⟨t, ht5, et⟩ := nat_of (M := 5) (by rw [hr]; omega) (by rw [hr]; omega) (by decide)
  have hm := c_and x1 2147483647 (by decide)
  have hmr := (c_irem (x1 &&& 2147483647) 6 6 rfl).1 hm.1
  obtain ⟨md, hm6, em⟩ := nat_of (M := 6) (by rw [hmr]; omega) (by rw [hmr]; omega) (by decide)
  have chL : IsL (c16 (x3 &&& 255)) := by rw [isC_isL (isL_and _)]; exact isL_and _
  refine C.iloadN dL_0 rfl ?_
  refine C.ldcInt dL_1 tw0 ?_
  refine C.iand dL_3 ?_
  refine C.iconst (5) dL_4 rfl ?_
  refine C.irem dL_5 (by decide) ?_
  rw [et]
  refine C.istore dL_6 rfl rfl ?_
  refine C.iloadN dL_8 rfl ?_
  refine C.ldcInt dL_9 tw0 ?_
  refine C.iand dL_11 ?_
  refine C.bipush (6) dL_12 rfl ?_
  refine C.irem dL_14 (by decide) ?_
  rw [em]
  refine C.istore dL_15 rfl rfl ?_
  refine C.iloadN dL_17 rfl ?_
  refine C.sipush (255) dL_18 rfl ?_
  refine C.iand dL_21 ?_
  refine C.i2c dL_22 ?_
  refine C.istore dL_23 rfl rfl ?_
  refine C.iload dL_25 rfl ?_
  generalize c16 (x3 &&& 255) = ch at chL
  obtain ⟨⟨ea, cs⟩, hes⟩ : ∃ y, (mkes e0 e1 e2 e3 e4)[t]? = some y := ⟨_, List.getElem?_eq_getElem (by show t < 5; exact ht5)⟩
  have hns := es_ns hes
  have hcm := ns_mem hns
  have hsm := ns_small cs hcm
  have hL : ∀ c ∈ cs, IsL c := fun c hc => (hsm.2.2 c hc).2
  refine C.s1R dL_27 tw1 tw2 tw3 tw4 (by decide) (by decide +kernel) rfl nof (P_base B hns) (le rfl) (le rfl) (le rfl) (le rfl) ?_
  rintro _ h1 ⟨ar, rfl, nar1, E1, A1⟩
  refine C.astore dL_30 rfl rfl rfl ?_
  refine C.aload dL_32 rfl rfl ?_
  refine C.arraylength dL_34 A1 ?_
  rw [ints_length]
  refine C.istore dL_35 rfl rfl ?_
  refine C.iload dL_37 rfl ?_
  refine C.s1R dL_39 tw6 tw7 tw3 tw8 (by decide) (by decide +kernel) rfl nof (P_type B S0 S1 S2 S3 S4 hes) (le rfl) (le rfl) (le rfl) (le rfl) ?_
  rintro _ _ ⟨rfl, rfl⟩
  refine C.astore dL_42 rfl rfl rfl ?_
  refine C.iload dL_44 rfl ?_
  match md, hm6 with
  | 0, _ =>
    refine C.if_ne dL_46 (fun q => absurd rfl q) (fun _ => ?_)
    refine C.new dL_49 tw12 tw13 tw14 (le rfl) (le rfl) ?_
    intro h2 a g2 E2 X2 D2
    have Fv := D2 (Or.inr (C.wrd tw46)) (ty := (.array .byte)) (by decide +kernel)
    have Fc := D2 (Or.inr (C.wrd tw44)) (ty := .byte) (by decide +kernel)
    have na : Z.heap.size ≤ a := by have := E1.1; omega
    refine C.dup dL_52 rfl ?_
    refine C.aload dL_53 rfl rfl ?_
    refine C.iload dL_55 rfl ?_
    refine C.iconst (-1) dL_57 rfl ?_
    refine C.iload dL_58 rfl ?_
    refine C.s4R dL_60 tw15 tw16 tw3 tw17 (by decide) (by decide +kernel) rfl nof (P_build (N := cs.length) B (A1.ext E2) hL chL (by omega) (by omega)) (le rfl) (le rfl) (le rfl) (le rfl) ?_
    rintro _ h3 ⟨b, rfl, nb, E3, A3⟩
    replace X2 := X2.ext E3
    replace Fv := Fv.ext E3
    replace Fc := Fc.ext E3
    have bL := bl_len cs (-1) ch (cs.length)
    refine C.c1 dL_63 rfl tw21 tw22 tw14 tw23 (by decide) (by decide +kernel) rfl (by simp) (J_new1l B (fun c hc => (bl_L hL chL c hc).isC) (fun z => by rw [z] at bL; simp at bL <;> omega) (fun c hc => (bl_L hL chL c hc).2) (by omega) A3 na X2 Fv Fc) (le rfl) (le rfl) (le rfl) (by rw [bL]; show 0 + 9 + 0 + _ + 10 + (cs.length) ≤ 1216; omega) ?_
    rintro h5 ⟨K5, S5⟩
    have E5 : Ext Z.heap h5 := ext_trans E1 (ext_of_keep (ext_trans E2 E3) K5 (by simp; omega))

    have e0' : bl cs (-1) ch cs.length = cs := by rw [bl_take (Nat.le_refl _) (by omega), List.take_length]
    refine C.astore dL_66 rfl rfl rfl ?_
    refine C.aload dL_68 rfl rfl ?_
    refine C.astore dL_70 rfl rfl rfl ?_
    refine C.goto dL_72 ?_
    exact Goes.more (le rfl) (by rw [bL]; show 0 + 9 + 0 + _ + 10 + (cs.length) ≤ 800; omega) (Goes.less (F' := []) nof0 (tail _ _ _ _ _ _ _ _ _ _ _ (some _) rfl E5 (Or.inr ⟨a, _, rfl, rfl, S5⟩) (Or.inl ⟨t, ea, cs, hes, rfl, by rw [e0']⟩)))
  | 1, _ =>
    refine C.if_ne dL_46 (fun _ => ?_) (fun q => absurd q (by decide))
    refine C.iload dL_75 rfl ?_
    refine C.iconst (1) dL_77 rfl ?_
    refine C.icmp_ne dL_78 (fun q => absurd rfl q) (fun _ => ?_)
    have hp := c_and x2 2147483647 (by decide)
    have hp2 := (c_irem (x2 &&& 2147483647) (Int32.ofNat cs.length) cs.length (ofNat_toInt (by omega))).1 hp.1
    obtain ⟨ps, hps, eps⟩ := nat_of (M := cs.length) (by rw [hp2]; exact Int.emod_nonneg _ (by omega)) (by rw [hp2]; exact Int.emod_lt_of_pos _ (by omega)) (by omega)
    refine C.iloadN dL_81 rfl ?_
    refine C.ldcInt dL_82 tw0 ?_
    refine C.iand dL_84 ?_
    refine C.iload dL_85 rfl ?_
    refine C.irem dL_87 (fun q => by have := congrArg Int32.toInt q; rw [ofNat_toInt (by omega)] at this; have e : (0 : Int32).toInt = 0 := rfl; omega) ?_
    rw [eps]
    refine C.istore dL_88 rfl rfl ?_
    refine C.new dL_90 tw12 tw13 tw14 (le rfl) (le rfl) ?_
    intro h2 a g2 E2 X2 D2
    have Fv := D2 (Or.inr (C.wrd tw46)) (ty := (.array .byte)) (by decide +kernel)
    have Fc := D2 (Or.inr (C.wrd tw44)) (ty := .byte) (by decide +kernel)
    have na : Z.heap.size ≤ a := by have := E1.1; omega
    refine C.dup dL_93 rfl ?_
    refine C.aload dL_94 rfl rfl ?_
    refine C.iload dL_96 rfl ?_
    refine C.iload dL_98 rfl ?_
    refine C.iload dL_100 rfl ?_
    refine C.s4R dL_102 tw15 tw16 tw3 tw17 (by decide) (by decide +kernel) rfl nof (P_build (N := cs.length) B (A1.ext E2) hL chL (by omega) (by omega)) (le rfl) (le rfl) (le rfl) (le rfl) ?_
    rintro _ h3 ⟨b, rfl, nb, E3, A3⟩
    replace X2 := X2.ext E3
    replace Fv := Fv.ext E3
    replace Fc := Fc.ext E3
    have bL := bl_len cs (Int32.ofNat ps) ch (cs.length)
    refine C.c1 dL_105 rfl tw21 tw22 tw14 tw23 (by decide) (by decide +kernel) rfl (by simp) (J_new1l B (fun c hc => (bl_L hL chL c hc).isC) (fun z => by rw [z] at bL; simp at bL <;> omega) (fun c hc => (bl_L hL chL c hc).2) (by omega) A3 na X2 Fv Fc) (le rfl) (le rfl) (le rfl) (by rw [bL]; show 0 + 9 + 0 + _ + 10 + (cs.length) ≤ 1216; omega) ?_
    rintro h5 ⟨K5, S5⟩
    have E5 : Ext Z.heap h5 := ext_trans E1 (ext_of_keep (ext_trans E2 E3) K5 (by simp; omega))

    have hcp : cs[ps]? = some cs[ps] := List.getElem?_eq_getElem hps
    have hP := ofNat_idx (i := ps) (by omega)
    have ne5 : ar ∉ [a] := fun z => adr_ne A1.lt (Nat.le_of_eq g2.symm) (List.mem_singleton.mp z)
    have A5 := ((A1.ext E2).ext E3).keep K5 ne5
    refine C.astore dL_108 rfl rfl rfl ?_
    refine C.aload dL_110 rfl rfl ?_
    refine C.iload dL_112 rfl ?_
    refine C.caload dL_114 A5 hP.1 hP.2 (ints_get hcp) ?_
    refine C.iload dL_115 rfl ?_
    refine C.icmp_ne dL_117 (fun q => ?_) (fun q => ?_)
    · refine C.aconst_null dL_125 ?_
      refine C.astore dL_126 rfl rfl rfl ?_
      refine C.goto dL_128 ?_
      exact Goes.more (le rfl) (by rw [bL]; show 0 + 9 + 0 + _ + 10 + (cs.length) ≤ 800; omega) (Goes.less (F' := []) nof0 (tail _ _ _ _ _ _ _ _ _ _ _ (some _) rfl E5 (Or.inr ⟨a, _, rfl, rfl, S5⟩) (Exp.no fun ds hd z => q (Option.some.inj (hcp.symm.trans (ns_one hcm hd hps (Option.some.inj z)).1)))))
    · refine C.aload dL_120 rfl rfl ?_
      refine C.goto dL_122 ?_
      refine C.astore dL_126 rfl rfl rfl ?_
      refine C.goto dL_128 ?_
      exact Goes.more (le rfl) (by rw [bL]; show 0 + 9 + 0 + _ + 10 + (cs.length) ≤ 800; omega) (Goes.less (F' := []) nof0 (tail _ _ _ _ _ _ _ _ _ _ _ (some _) rfl E5 (Or.inr ⟨a, _, rfl, rfl, S5⟩) (Or.inl ⟨t, ea, cs, hes, rfl, by rw [bl_same (by rw [hcp, q]) (by omega)]⟩)))
  | 2, _ =>
    refine C.if_ne dL_46 (fun _ => ?_) (fun q => absurd q (by decide))
    refine C.iload dL_75 rfl ?_
    refine C.iconst (1) dL_77 rfl ?_
    refine C.icmp_ne dL_78 (fun _ => ?_) (fun q => absurd q (by decide))
    refine C.iload dL_131 rfl ?_
    refine C.iconst (2) dL_133 rfl ?_
    refine C.icmp_ne dL_134 (fun q => absurd rfl q) (fun _ => ?_)
    have e1' : Int32.ofNat cs.length - 1 = Int32.ofNat (cs.length - 1) := by
      obtain ⟨k, hk⟩ : ∃ k, cs.length = k + 1 := ⟨cs.length - 1, by omega⟩
      rw [hk, ← ofNat_succ, Nat.add_sub_cancel]; exact Int32.add_sub_cancel _ _

    refine C.new dL_137 tw12 tw13 tw14 (le rfl) (le rfl) ?_
    intro h2 a g2 E2 X2 D2
    have Fv := D2 (Or.inr (C.wrd tw46)) (ty := (.array .byte)) (by decide +kernel)
    have Fc := D2 (Or.inr (C.wrd tw44)) (ty := .byte) (by decide +kernel)
    have na : Z.heap.size ≤ a := by have := E1.1; omega
    refine C.dup dL_140 rfl ?_
    refine C.aload dL_141 rfl rfl ?_
    refine C.iload dL_143 rfl ?_
    refine C.iconst (1) dL_145 rfl ?_
    refine C.isub dL_146 ?_
    rw [e1']
    refine C.iconst (-1) dL_147 rfl ?_
    refine C.iload dL_148 rfl ?_
    refine C.s4R dL_150 tw15 tw16 tw3 tw17 (by decide) (by decide +kernel) rfl nof (P_build (N := cs.length - 1) B (A1.ext E2) hL chL (by omega) (by omega)) (le rfl) (le rfl) (le rfl) (le rfl) ?_
    rintro _ h3 ⟨b, rfl, nb, E3, A3⟩
    replace X2 := X2.ext E3
    replace Fv := Fv.ext E3
    replace Fc := Fc.ext E3
    have bL := bl_len cs (-1) ch (cs.length - 1)
    refine C.c1 dL_153 rfl tw21 tw22 tw14 tw23 (by decide) (by decide +kernel) rfl (by simp) (J_new1l B (fun c hc => (bl_L hL chL c hc).isC) (fun z => by rw [z] at bL; simp at bL <;> omega) (fun c hc => (bl_L hL chL c hc).2) (by omega) A3 na X2 Fv Fc) (le rfl) (le rfl) (le rfl) (by rw [bL]; show 0 + 9 + 0 + _ + 10 + (cs.length - 1) ≤ 1216; omega) ?_
    rintro h5 ⟨K5, S5⟩
    have E5 : Ext Z.heap h5 := ext_trans E1 (ext_of_keep (ext_trans E2 E3) K5 (by simp; omega))

    refine C.astore dL_156 rfl rfl rfl ?_
    refine C.aconst_null dL_158 ?_
    refine C.astore dL_159 rfl rfl rfl ?_
    refine C.goto dL_161 ?_
    exact Goes.more (le rfl) (by rw [bL]; show 0 + 9 + 0 + _ + 10 + (cs.length - 1) ≤ 800; omega) (Goes.less (F' := []) nof0 (tail _ _ _ _ _ _ _ _ _ _ _ (some _) rfl E5 (Or.inr ⟨a, _, rfl, rfl, S5⟩) (Exp.no fun ds hd z => ns_cut cs hcm (by rw [← bl_take (ch := ch) (by omega) (by omega), Option.some.inj z]; exact hd))))
  | 3, _ =>
    refine C.if_ne dL_46 (fun _ => ?_) (fun q => absurd q (by decide))
    refine C.iload dL_75 rfl ?_
    refine C.iconst (1) dL_77 rfl ?_
    refine C.icmp_ne dL_78 (fun _ => ?_) (fun q => absurd q (by decide))
    refine C.iload dL_131 rfl ?_
    refine C.iconst (2) dL_133 rfl ?_
    refine C.icmp_ne dL_134 (fun _ => ?_) (fun q => absurd q (by decide))
    refine C.iload dL_164 rfl ?_
    refine C.iconst (3) dL_166 rfl ?_
    refine C.icmp_ne dL_167 (fun q => absurd rfl q) (fun _ => ?_)
    refine C.new dL_170 tw12 tw13 tw14 (le rfl) (le rfl) ?_
    intro h2 a g2 E2 X2 D2
    have Fv := D2 (Or.inr (C.wrd tw46)) (ty := (.array .byte)) (by decide +kernel)
    have Fc := D2 (Or.inr (C.wrd tw44)) (ty := .byte) (by decide +kernel)
    have na : Z.heap.size ≤ a := by have := E1.1; omega
    refine C.dup dL_173 rfl ?_
    refine C.aload dL_174 rfl rfl ?_
    refine C.iload dL_176 rfl ?_
    refine C.iconst (1) dL_178 rfl ?_
    refine C.iadd dL_179 ?_
    rw [ofNat_succ]
    refine C.iconst (-1) dL_180 rfl ?_
    refine C.iload dL_181 rfl ?_
    refine C.s4R dL_183 tw15 tw16 tw3 tw17 (by decide) (by decide +kernel) rfl nof (P_build (N := cs.length + 1) B (A1.ext E2) hL chL (by omega) (by omega)) (le rfl) (le rfl) (le rfl) (le rfl) ?_
    rintro _ h3 ⟨b, rfl, nb, E3, A3⟩
    replace X2 := X2.ext E3
    replace Fv := Fv.ext E3
    replace Fc := Fc.ext E3
    have bL := bl_len cs (-1) ch (cs.length + 1)
    refine C.c1 dL_186 rfl tw21 tw22 tw14 tw23 (by decide) (by decide +kernel) rfl (by simp) (J_new1l B (fun c hc => (bl_L hL chL c hc).isC) (fun z => by rw [z] at bL; simp at bL <;> omega) (fun c hc => (bl_L hL chL c hc).2) (by omega) A3 na X2 Fv Fc) (le rfl) (le rfl) (le rfl) (by rw [bL]; show 0 + 9 + 0 + _ + 10 + (cs.length + 1) ≤ 1216; omega) ?_
    rintro h5 ⟨K5, S5⟩
    have E5 : Ext Z.heap h5 := ext_trans E1 (ext_of_keep (ext_trans E2 E3) K5 (by simp; omega))

    refine C.astore dL_189 rfl rfl rfl ?_
    refine C.aconst_null dL_191 ?_
    refine C.astore dL_192 rfl rfl rfl ?_
    refine C.goto dL_194 ?_
    exact Goes.more (le rfl) (by rw [bL]; show 0 + 9 + 0 + _ + 10 + (cs.length + 1) ≤ 800; omega) (Goes.less (F' := []) nof0 (tail _ _ _ _ _ _ _ _ _ _ _ (some _) rfl E5 (Or.inr ⟨a, _, rfl, rfl, S5⟩) (Exp.no fun ds hd z => ns_len cs hcm ds hd (by rw [← Option.some.inj z, bL]))))
  | 4, _ =>
    refine C.if_ne dL_46 (fun _ => ?_) (fun q => absurd q (by decide))
    refine C.iload dL_75 rfl ?_
    refine C.iconst (1) dL_77 rfl ?_
    refine C.icmp_ne dL_78 (fun _ => ?_) (fun q => absurd q (by decide))
    refine C.iload dL_131 rfl ?_
    refine C.iconst (2) dL_133 rfl ?_
    refine C.icmp_ne dL_134 (fun _ => ?_) (fun q => absurd q (by decide))
    refine C.iload dL_164 rfl ?_
    refine C.iconst (3) dL_166 rfl ?_
    refine C.icmp_ne dL_167 (fun _ => ?_) (fun q => absurd q (by decide))
    refine C.iload dL_197 rfl ?_
    refine C.iconst (4) dL_199 rfl ?_
    refine C.icmp_ne dL_200 (fun q => absurd rfl q) (fun _ => ?_)
    refine C.aconst_null dL_203 ?_
    refine C.astore dL_204 rfl rfl rfl ?_
    refine C.aconst_null dL_206 ?_
    refine C.astore dL_207 rfl rfl rfl ?_
    refine C.goto dL_209 ?_
    exact Goes.more (le rfl) (le rfl) (tail _ _ _ _ _ _ _ _ _ _ _ none rfl E1 (Or.inl ⟨rfl, rfl⟩) (Exp.no fun ds hd z => nomatch z))
  | 5, _ =>
    refine C.if_ne dL_46 (fun _ => ?_) (fun q => absurd q (by decide))
    refine C.iload dL_75 rfl ?_
    refine C.iconst (1) dL_77 rfl ?_
    refine C.icmp_ne dL_78 (fun _ => ?_) (fun q => absurd q (by decide))
    refine C.iload dL_131 rfl ?_
    refine C.iconst (2) dL_133 rfl ?_
    refine C.icmp_ne dL_134 (fun _ => ?_) (fun q => absurd q (by decide))
    refine C.iload dL_164 rfl ?_
    refine C.iconst (3) dL_166 rfl ?_
    refine C.icmp_ne dL_167 (fun _ => ?_) (fun q => absurd q (by decide))
    refine C.iload dL_197 rfl ?_
    refine C.iconst (4) dL_199 rfl ?_
    refine C.icmp_ne dL_200 (fun _ => ?_) (fun q => absurd q (by decide))
    refine C.new dL_212 tw12 tw13 tw14 (le rfl) (le rfl) ?_
    intro h2 a g2 E2 X2 D2
    have Fv := D2 (Or.inr (C.wrd tw46)) (ty := (.array .byte)) (by decide +kernel)
    have Fc := D2 (Or.inr (C.wrd tw44)) (ty := .byte) (by decide +kernel)
    have na : Z.heap.size ≤ a := by have := E1.1; omega
    refine C.dup dL_215 rfl ?_
    refine C.iconst (0) dL_216 rfl ?_
    refine C.newarray dL_217 tw5 (by decide) rfl (le rfl) (le rfl) (le rfl) ?_
    intro h3 b g3 E3 l3 A3
    replace X2 := X2.ext E3
    replace Fv := Fv.ext E3
    replace Fc := Fc.ext E3
    refine C.c1 dL_219 rfl tw21 tw22 tw14 tw23 (by decide) (by decide +kernel) rfl (by simp) (J_new1e B hmem A3 na X2 Fv Fc) (le rfl) (le rfl) (le rfl) (le rfl) ?_
    rintro h5 ⟨K5, S5⟩
    have E5 : Ext Z.heap h5 := ext_trans E1 (ext_of_keep (ext_trans E2 E3) K5 (by simp; omega))
    refine C.astore dL_222 rfl rfl rfl ?_
    refine C.aconst_null dL_224 ?_
    refine C.astore dL_225 rfl rfl rfl ?_
    exact Goes.more (le rfl) (le rfl) (Goes.less (F' := []) nof0 (tail _ _ _ _ _ _ _ _ _ _ _ (some []) rfl E5 (Or.inr ⟨a, _, rfl, rfl, S5⟩) (Exp.no fun ds hd z => by have := (ns_small ds hd).1; rw [← Option.some.inj z] at this; simp at this)))
  | n + 6, hm6 => omega
theorem comes_1 {Post : Tables → Env → Array Value → State → Outcome → State → Prop} (hpost : ∀ tb e args s v u, (limb_1_1.after args s (.returned v) u = true ∧ limb_1_2.after args s (.returned v) u = true) → Jvm.D.FramedW s (.returned v) u (Jvm.fieldLocs frame_1_writes args s ++ Jvm.arrayLocs frame_1_arrays args s ++ Jvm.staticLocs frame_1_statics s) 24 1216 → Post tb e args s (.returned v) u) :
    ArmFor flags0 classFile x code maxLocals ret World_1 tables_1 room_1 Calls_1 rest_1 Pre_1 Post := by
  intro l hfl _ _ p e ha hc hk s m args below hf hA hF happ hP
  obtain ⟨hcalls, hrest, hpre⟩ := hP
  obtain ⟨-, -, -, hnamed, -, -, -, hat⟩ := (Spec.applies_iff hf).mp happ
  obtain ⟨hg0, hn⟩ := and_e (Cond.before_iff.mp (show (Jvm.Cond.and given_1 narrow_1).before args s = true from hpre))
  obtain ⟨hc0, hg1⟩ := and_e hg0
  obtain ⟨hc1, hg2⟩ := and_e hg1
  obtain ⟨hc2, hg3⟩ := and_e hg2
  obtain ⟨hc3, hg4⟩ := and_e hg3
  obtain ⟨w0, w1, w2, w3, rfl⟩ : ∃ w0 w1 w2 w3 : Value, args = #[w0, w1, w2, w3] := by
    have hs : args.size = 4 := by simpa [Cond.value, given_1] using hc0
    obtain ⟨L⟩ := args
    match L, hs with
    | [w0, w1, w2, w3], _ => exact ⟨w0, w1, w2, w3, rfl⟩
  have hw := fun d (hd : d ∈ tables_1) => atoms_spec (ws := Jvm.Cond.code x code maxLocals ret :: tables_1) hat d (List.mem_cons_of_mem _ hd)
  obtain ⟨hsets, hown0⟩ := atoms_of _ (rest_1_c_eq ▸ (show rest_1_c.before _ s = true from hrest))
  have hfit : Fit s := fun {y c} hc i hi => by
    obtain ⟨ha, rfl⟩ := Array.getElem?_eq_some_iff.mp hc
    have q := List.all_eq_true.mp ((Array.all_eq_true_iff_forall_mem.mp hF) _ (Array.getElem_mem ha)) i (List.mem_range.mpr hi)
    simpa [Array.getElem?_eq_getElem hi] using q
  obtain ⟨x0, ex0⟩ := is_v hc1
  obtain rfl : w0 = (.int x0) := Option.some.inj ex0
  obtain ⟨x1, ex1⟩ := is_v hc2
  obtain rfl : w1 = (.int x1) := Option.some.inj ex1
  obtain ⟨x2, ex2⟩ := is_v hc3
  obtain rfl : w2 = (.int x2) := Option.some.inj ex2
  obtain ⟨x3, ex3⟩ := is_v hg4
  obtain rfl : w3 = (.int x3) := Option.some.inj ex3
  obtain ⟨cz, ecz⟩ := is_v (Cond.before_iff.mp (hsets _ (List.mem_of_getElem? (i := 1) rfl)))
  have Scs : Sta s s.heap ST "COMPACT_STRINGS" "Z" (.int cz) := Sta.start ecz (Or.inl (hsets _ (List.mem_of_getElem? (i := 0) rfl)))
  have ncz : ¬ cz = 0 := gotF (Cond.eq_ints ecz (Term.int_eval (0))) (not_v (Cond.before_iff.mp (hsets _ (List.mem_of_getElem? (i := 2) rfl))))
  obtain ⟨sf, esf, rsf⟩ := isR_v (Cond.before_iff.mp (hsets _ (List.mem_of_getElem? (i := 8) rfl)))
  have Ssf : Sta s s.heap "jdk/internal/util/Preconditions" "SIOOBE_FORMATTER" "Ljava/util/function/BiFunction;" sf := Sta.start esf (Or.inl (hsets _ (List.mem_of_getElem? (i := 7) rfl)))
  obtain ⟨na0, hn⟩ := and_e hn
  obtain ⟨na1, hn⟩ := and_e hn
  obtain ⟨na2, hn⟩ := and_e hn
  obtain ⟨na3, hn⟩ := and_e hn
  obtain ⟨na4, hn⟩ := and_e hn
  obtain ⟨na5, hn⟩ := and_e hn
  obtain ⟨na6, hn⟩ := and_e hn
  obtain ⟨na7, hn⟩ := and_e hn
  obtain ⟨na8, hn⟩ := and_e hn
  obtain ⟨na9, hn⟩ := and_e hn
  obtain ⟨na10, hn⟩ := and_e hn
  obtain ⟨na11, hn⟩ := and_e hn
  obtain ⟨na12, hn⟩ := and_e hn
  obtain ⟨na13, hn⟩ := and_e hn
  obtain ⟨na14, hn⟩ := and_e hn
  obtain ⟨na15, hn⟩ := and_e hn
  obtain ⟨na16, hn⟩ := and_e hn
  obtain ⟨na17, hn⟩ := and_e hn
  obtain ⟨na18, hn⟩ := and_e hn
  obtain ⟨na19, hn⟩ := and_e hn
  obtain ⟨na20, hn⟩ := and_e hn
  obtain ⟨na21, hn⟩ := and_e hn
  obtain ⟨na22, hn⟩ := and_e hn
  obtain ⟨na23, hn⟩ := and_e hn
  obtain ⟨na24, hn⟩ := and_e hn
  obtain ⟨na25, hn⟩ := and_e hn
  obtain ⟨na26, hn⟩ := and_e hn
  obtain ⟨na27, hn⟩ := and_e hn
  obtain ⟨na28, hn⟩ := and_e hn
  obtain ⟨na29, hn⟩ := and_e hn
  obtain ⟨na30, hn⟩ := and_e hn
  obtain ⟨na31, hn⟩ := and_e hn
  obtain ⟨na32, hn⟩ := and_e hn
  obtain ⟨na33, hn⟩ := and_e hn
  obtain ⟨na34, hn⟩ := and_e hn
  obtain ⟨na35, hn⟩ := and_e hn
  obtain ⟨na36, hn⟩ := and_e hn
  obtain ⟨na37, hn⟩ := and_e hn
  obtain ⟨na38, hn⟩ := and_e hn
  obtain ⟨na39, hn⟩ := and_e hn
  obtain ⟨na40, hn⟩ := and_e hn
  obtain ⟨na41, hn⟩ := and_e hn
  obtain ⟨na42, hn⟩ := and_e hn
  obtain ⟨na43, hn⟩ := and_e hn
  obtain ⟨na44, hn⟩ := and_e hn
  obtain ⟨na45, hn⟩ := and_e hn
  obtain ⟨na46, hn⟩ := and_e hn
  obtain ⟨na47, hn⟩ := and_e hn
  obtain ⟨na48, hn⟩ := and_e hn
  obtain ⟨na49, hn⟩ := and_e hn
  obtain ⟨na50, hn⟩ := and_e hn
  obtain ⟨na51, hn⟩ := and_e hn
  obtain ⟨na52, hn⟩ := and_e hn
  obtain ⟨na53, hn⟩ := and_e hn
  obtain ⟨na54, hn⟩ := and_e hn
  obtain ⟨na55, hn⟩ := and_e hn
  obtain ⟨na56, hn⟩ := and_e hn
  obtain ⟨na57, hn⟩ := and_e hn
  obtain ⟨na58, hn⟩ := and_e hn
  obtain ⟨na59, hn⟩ := and_e hn
  obtain ⟨na60, hn⟩ := and_e hn
  have na61 := hn
  obtain ⟨r_PREFIX, ev_PREFIX, S_PREFIX, X_PREFIX⟩ := st_exact na0 (hw _ tw10) (hw _ tw11)
  obtain ⟨r_VALUES, ev_VALUES, S_VALUES, X_VALUES⟩ := st_exact na2 (hw _ tw10) (hw _ tw54)
  obtain ⟨r_STEM, ev_STEM, S_STEM, X_STEM⟩ := st_exact na5 (hw _ tw10) (hw _ tw62)
  obtain ⟨r_SUFFIX, ev_SUFFIX, S_SUFFIX, X_SUFFIX⟩ := st_exact na7 (hw _ tw10) (hw _ tw63)
  obtain ⟨r_INVARIANT, ev_INVARIANT, S_INVARIANT, X_INVARIANT⟩ := st_exact na9 (hw _ tw10) (hw _ tw64)
  obtain ⟨r_STOP, ev_STOP, S_STOP, X_STOP⟩ := st_exact na11 (hw _ tw10) (hw _ tw65)
  have A_V : Arl s s.heap r_VALUES (.object "com/example/inklingua/inklingua/lexicon/SubwordType") ((mkes r_PREFIX r_STEM r_SUFFIX r_INVARIANT r_STOP).map fun x => .ref x.1) := arl_ev hfit ev_VALUES na1 na3 (by simp [mkes]) (fun i v hv => by
    match i, hv with
    | 0, hv => cases hv; exact eq_refR ev_PREFIX na4
    | 1, hv => cases hv; exact eq_refR ev_STEM na6
    | 2, hv => cases hv; exact eq_refR ev_SUFFIX na8
    | 3, hv => cases hv; exact eq_refR ev_INVARIANT na10
    | 4, hv => cases hv; exact eq_refR ev_STOP na12
    | n + 5, hv => simp [mkes] at hv)
  obtain ⟨p0, ep0, Sp0⟩ := str_ev (cs := n0) hfit na13 na14 na15 na16 (by decide) (fun c hc => (ns_small n0 (ns_mem (i := 0) rfl)).2.2 c hc) (fun i c hc => by
    match i, hc with
    | 0, hc => cases hc; exact na41
    | 1, hc => cases hc; exact na42
    | 2, hc => cases hc; exact na43
    | 3, hc => cases hc; exact na44
    | 4, hc => cases hc; exact na45
    | 5, hc => cases hc; exact na46
    | n + 6, hc => simp [n0] at hc)
  obtain ⟨p1, ep1, Sp1⟩ := str_ev (cs := n1) hfit na17 na18 na19 na20 (by decide) (fun c hc => (ns_small n1 (ns_mem (i := 1) rfl)).2.2 c hc) (fun i c hc => by
    match i, hc with
    | 0, hc => cases hc; exact na33
    | 1, hc => cases hc; exact na35
    | 2, hc => cases hc; exact na36
    | 3, hc => cases hc; exact na37
    | n + 4, hc => simp [n1] at hc)
  obtain ⟨p2, ep2, Sp2⟩ := str_ev (cs := n2) hfit na21 na22 na23 na24 (by decide) (fun c hc => (ns_small n2 (ns_mem (i := 2) rfl)).2.2 c hc) (fun i c hc => by
    match i, hc with
    | 0, hc => cases hc; exact na47
    | 1, hc => cases hc; exact na48
    | 2, hc => cases hc; exact na49
    | 3, hc => cases hc; exact na50
    | 4, hc => cases hc; exact na51
    | 5, hc => cases hc; exact na52
    | n + 6, hc => simp [n2] at hc)
  obtain ⟨p3, ep3, Sp3⟩ := str_ev (cs := n3) hfit na25 na26 na27 na28 (by decide) (fun c hc => (ns_small n3 (ns_mem (i := 3) rfl)).2.2 c hc) (fun i c hc => by
    match i, hc with
    | 0, hc => cases hc; exact na53
    | 1, hc => cases hc; exact na54
    | 2, hc => cases hc; exact na55
    | 3, hc => cases hc; exact na56
    | 4, hc => cases hc; exact na57
    | 5, hc => cases hc; exact na58
    | 6, hc => cases hc; exact na59
    | 7, hc => cases hc; exact na60
    | 8, hc => cases hc; exact na61
    | n + 9, hc => simp [n3] at hc)
  obtain ⟨p4, ep4, Sp4⟩ := str_ev (cs := n4) hfit na29 na30 na31 na32 (by decide) (fun c hc => (ns_small n4 (ns_mem (i := 4) rfl)).2.2 c hc) (fun i c hc => by
    match i, hc with
    | 0, hc => cases hc; exact na34
    | 1, hc => cases hc; exact na38
    | 2, hc => cases hc; exact na39
    | 3, hc => cases hc; exact na40
    | n + 4, hc => simp [n4] at hc)
  have H_E : (∀ (i : Nat) (ea : Addr) (cs : List Int32), (mkes r_PREFIX r_STEM r_SUFFIX r_INVARIANT r_STOP)[i]? = some (ea, cs) → ∃ pa, Fld s s.heap ea "com/example/inklingua/inklingua/lexicon/SubwordType" "recordName" "Ljava/lang/String;" (.ref pa) ∧ StrAt s s.heap pa cs) ∧ ∀ (i : Nat) (ea : Addr) (cs : List Int32), (mkes r_PREFIX r_STEM r_SUFFIX r_INVARIANT r_STOP)[i]? = some (ea, cs) → Exa s s.heap ea "com/example/inklingua/inklingua/lexicon/SubwordType" := by
    constructor <;> intro i ea cs h
    · match i, h with
      | 0, h => cases h; exact ⟨p0, fld_ev ev_PREFIX ep0, Sp0⟩
      | 1, h => cases h; exact ⟨p1, fld_ev ev_STEM ep1, Sp1⟩
      | 2, h => cases h; exact ⟨p2, fld_ev ev_SUFFIX ep2, Sp2⟩
      | 3, h => cases h; exact ⟨p3, fld_ev ev_INVARIANT ep3, Sp3⟩
      | 4, h => cases h; exact ⟨p4, fld_ev ev_STOP ep4, Sp4⟩
      | n + 5, h => simp [mkes] at h
    · match i, h with
      | 0, h => cases h; exact X_PREFIX
      | 1, h => cases h; exact X_STEM
      | 2, h => cases h; exact X_SUFFIX
      | 3, h => cases h; exact X_INVARIANT
      | 4, h => cases h; exact X_STOP
      | n + 5, h => simp [mkes] at h
  have hEW : EW s #[.int x0, .int x1, .int x2, .int x3] consts_1 := (EW.cons (hw _ tw84) (by decide) EW.nil)
  have hCH : CHv s consts_1 s.vm s.heap := CHv.start hEW (fun p hp => hcalls.1 p hp) (hsets _ (List.mem_of_getElem? (i := 2) rfl)) (hw _ tw36) (hw _ tw13)
  have B : Base s #[.int x0, .int x1, .int x2, .int x3] consts_1 := ⟨hw, hEW, ⟨cz, Scs, ncz⟩, ⟨sf, Ssf, rsf⟩, trivial⟩
  obtain ⟨n, o, q1, q2, q3, v, L, rfl, ⟨v, rfl, rfl⟩, N, hCR, hWH, -, hq⟩ := P_law (l := l) B S_PREFIX S_STEM S_SUFFIX S_INVARIANT S_STOP S_VALUES A_V X_VALUES H_E tables_1 p e ha hc hk s m _ below hf ((Spec.applies_iff_loose hf).mp happ).1 ⟨rfl, State.Warmed39.refl s, rfl, hCH, fun _ q => (nomatch q), ext_refl _⟩ trivial
  exact ⟨n, _, q1, q2, q3, hpost _ _ _ _ _ _ ⟨Cond.after_iff.mpr rfl, Cond.after_iff.mpr (eq_i res_at (Term.int_eval (1)) rfl)⟩ ⟨hq.1, hq.2.1, hq.2.2.1, ((hq.2.2.2.sift fun y hy => Or.inr (N y hy)).mono (le rfl : room_1.cells ≤ 24) (le rfl : room_1.slots ≤ 1216))⟩⟩
theorem main_1_1 : Claimed_1_1 := comes_1 fun _ _ _ _ _ _ h hF => ⟨h.1, hF⟩
theorem main_1_2 : Claimed_1_2 := comes_1 fun _ _ _ _ _ _ h hF => ⟨h.2, hF⟩
end
end Jvm.Pilot.@@N@@
namespace Jvm.Pilot.@@N@@
open Jvm Jvm.ClassFile Sem Op Lib Jvm.Free Jvm.Stand Jvm.Pilot.@@N@@.Jvm.D
/-! MADE BY PROGRAM (witnessworld.py) out of the Statement's table words and the real class files: 22 classes; the members and pool entries that the words name. The judged class is class 1, her method 1. -/
namespace start1
open Jvm.ClassFile
def u (s : String) : CpInfo := .utf8 (stringToUtf16 s)
/-- a pool by its gaps: so many unusable entries, then the entry; so many at the end -/
def gap : Nat → List CpInfo → List CpInfo
  | 0, r => r
  | n + 1, r => .unusable :: gap n r
def poolList (es : List (Nat × CpInfo)) (last : Nat) : List CpInfo := es.foldr (fun e r => gap e.1 (e.2 :: r)) (gap last [])
def pool (es : List (Nat × CpInfo)) (last : Nat) : Array CpInfo := ⟨poolList es last⟩
def fileOf (pool : Array CpInfo) (this : Nat) (attrs : Array Attribute := #[]) (ms : Array MethodInfo := #[]) (fl : Nat := 33) (sup : Nat := 0) (ifs : Array Nat := #[]) (fds : Array FieldInfo := #[]) : ClassFile where
  minorVersion := 0
  majorVersion := 65
  constantPool := pool
  accessFlags := fl
  thisClass := this
  superClass := sup
  interfaces := ifs
  fields := fds
  methods := ms
  attributes := attrs
def plain (name : String) (sup : Option ClassId) : Class where
  name := name
  kind := .ordinary
  loader := none
  accessFlags := 33
  super := sup
  interfaces := #[]
  cf := none
  fields := #[]
  methods := #[]
  instanceTypes := #[]
  staticTypes := #[]
  resolved := #[]
  callSites := []
  init := .initialized
  statics := none
  mirror := none

def pool0 : Array CpInfo := pool [(5, u "<init>"), (0, u "()V"), (1, .class_ 10), (1, u "java/lang/Object"), (85, u "clone"), (0, u "()Ljava/lang/Object;")] 26

def k0c0 : Code := { maxStack := 0, maxLocals := 1, code := object_method_1_code, exceptionTable := #[], attributes := #[] }
def k0m0 : Method := { name := "<init>", desc := "()V", sig := { parameters := [], returnType := none }, accessFlags := 1, code := some k0c0 }
def k0m1 : Method := { name := "clone", desc := "()Ljava/lang/Object;", sig := { parameters := [], returnType := some (.object "java/lang/Object") }, accessFlags := 260, code := none }
/-- java/lang/Object -/
def k0 : Class := { plain "java/lang/Object" none with
  accessFlags := 33
  interfaces := #[]
  cf := some (fileOf pool0 8 #[] #[{ accessFlags := 1, nameIndex := 5, descriptorIndex := 6, attributes := #[] }, { accessFlags := 260, nameIndex := 96, descriptorIndex := 97, attributes := #[] }] 33 0 #[] #[])
  fields := #[]
  methods := #[k0m0, k0m1]
  instanceTypes := #[]
  staticTypes := #[]
  resolved := Array.replicate 124 none
  statics := none }

def pool1 : Array CpInfo := pool [(2, .class_ 4), (1, u "java/lang/Object"), (0, u "<init>"), (0, u "()V"), (0, .integer 2147483647), (0, .methodref 9 10), (0, .class_ 11), (0, .nameAndType 12 13), (0, u "com/example/inklingua/inklingua/lexicon/SubwordTypeFromRecordNamePinLaw"), (0, u "base"), (0, u "(I)[C"), (0, .methodref 9 15), (0, .nameAndType 16 17), (0, u "type"), (0, u "(I)Lcom/example/inklingua/inklingua/lexicon/SubwordType;"), (0, .class_ 19), (0, u "java/lang/String"), (0, .methodref 9 21), (0, .nameAndType 22 23), (0, u "build"), (0, u "([CIIC)[C"), (0, .methodref 18 25), (0, .nameAndType 5 26), (0, u "([C)V"), (0, .methodref 28 29), (0, .class_ 30), (0, .nameAndType 31 32), (0, u "com/example/inklingua/inklingua/lexicon/SubwordType"), (0, u "fromRecordName"), (0, u "(Ljava/lang/String;)Lcom/example/inklingua/inklingua/lexicon/SubwordType;"), (0, .methodref 28 34), (0, .nameAndType 35 36), (0, u "recordName"), (0, u "()Ljava/lang/String;"), (0, .methodref 18 38), (0, .nameAndType 39 40), (0, u "equals"), (0, u "(Ljava/lang/Object;)Z"), (0, .fieldref 28 42), (0, .nameAndType 43 44), (0, u "PREFIX"), (0, u "Lcom/example/inklingua/inklingua/lexicon/SubwordType;"), (0, .fieldref 28 46), (0, .nameAndType 47 44), (0, u "STEM"), (0, .fieldref 28 49), (0, .nameAndType 50 44), (0, u "SUFFIX"), (0, .fieldref 28 52), (0, .nameAndType 53 44), (0, u "INVARIANT"), (0, .fieldref 28 55), (0, .nameAndType 56 44), (0, u "STOP"), (0, .methodref 9 58), (0, .nameAndType 59 60), (0, u "pick"), (0, u "([CIIC)C"), (2, u "law"), (0, u "(IIII)Z")] 5

def k1m0 : Method := { name := "<init>", desc := "()V", sig := { parameters := [], returnType := none }, accessFlags := 1, code := none }
def k1c1 : Code := { maxStack := 6, maxLocals := 13, code := code, exceptionTable := #[], attributes := #[] }
def k1m1 : Method := { name := "law", desc := "(IIII)Z", sig := { parameters := [.int, .int, .int, .int], returnType := some .boolean }, accessFlags := 9, code := some k1c1 }
def k1c2 : Code := { maxStack := 4, maxLocals := 1, code := method_3_code, exceptionTable := #[], attributes := #[] }
def k1m2 : Method := { name := "base", desc := "(I)[C", sig := { parameters := [.int], returnType := some (.array .char) }, accessFlags := 10, code := some k1c2 }
def k1c3 : Code := { maxStack := 2, maxLocals := 1, code := method_4_code, exceptionTable := #[], attributes := #[] }
def k1m3 : Method := { name := "type", desc := "(I)Lcom/example/inklingua/inklingua/lexicon/SubwordType;", sig := { parameters := [.int], returnType := some (.object "com/example/inklingua/inklingua/lexicon/SubwordType") }, accessFlags := 10, code := some k1c3 }
def k1c4 : Code := { maxStack := 2, maxLocals := 4, code := method_5_code, exceptionTable := #[], attributes := #[] }
def k1m4 : Method := { name := "pick", desc := "([CIIC)C", sig := { parameters := [(.array .char), .int, .int, .char], returnType := some .char }, accessFlags := 10, code := some k1c4 }
def k1c5 : Code := { maxStack := 6, maxLocals := 5, code := method_6_code, exceptionTable := #[], attributes := #[] }
def k1m5 : Method := { name := "build", desc := "([CIIC)[C", sig := { parameters := [(.array .char), .int, .int, .char], returnType := some (.array .char) }, accessFlags := 10, code := some k1c5 }
/-- com/example/inklingua/inklingua/lexicon/SubwordTypeFromRecordNamePinLaw -/
def k1 : Class := { plain "com/example/inklingua/inklingua/lexicon/SubwordTypeFromRecordNamePinLaw" (some 0) with
  accessFlags := 49
  interfaces := #[]
  cf := some (fileOf pool1 9 #[] #[{ accessFlags := 1, nameIndex := 5, descriptorIndex := 6, attributes := #[] }, { accessFlags := 9, nameIndex := 63, descriptorIndex := 64, attributes := #[] }, { accessFlags := 10, nameIndex := 12, descriptorIndex := 13, attributes := #[] }, { accessFlags := 10, nameIndex := 16, descriptorIndex := 17, attributes := #[] }, { accessFlags := 10, nameIndex := 59, descriptorIndex := 60, attributes := #[] }, { accessFlags := 10, nameIndex := 22, descriptorIndex := 23, attributes := #[] }] 49 2 #[] #[])
  fields := #[]
  methods := #[k1m0, k1m1, k1m2, k1m3, k1m4, k1m5]
  instanceTypes := #[]
  staticTypes := #[]
  resolved := Array.replicate 70 none
  statics := none }

def pool2 : Array CpInfo := pool [(1, .class_ 2), (0, u "java/lang/constant/Constable"), (0, .class_ 4), (0, u "java/lang/Object")] 6

/-- java/lang/constant/Constable -/
def k2 : Class := { plain "java/lang/constant/Constable" (some 0) with
  accessFlags := 1537
  interfaces := #[]
  cf := some (fileOf pool2 1 #[] #[] 1537 3 #[] #[])
  fields := #[]
  methods := #[]
  instanceTypes := #[]
  staticTypes := #[]
  resolved := Array.replicate 11 none
  statics := none }

def pool3 : Array CpInfo := pool [(1, .class_ 2), (0, u "java/lang/Comparable"), (0, .class_ 4), (0, u "java/lang/Object")] 7

/-- java/lang/Comparable -/
def k3 : Class := { plain "java/lang/Comparable" (some 0) with
  accessFlags := 1537
  interfaces := #[]
  cf := some (fileOf pool3 1 #[] #[] 1537 3 #[] #[])
  fields := #[]
  methods := #[]
  instanceTypes := #[]
  staticTypes := #[]
  resolved := Array.replicate 12 none
  statics := none }

def pool4 : Array CpInfo := pool [(1, .class_ 2), (0, u "java/io/Serializable"), (0, .class_ 4), (0, u "java/lang/Object")] 2

/-- java/io/Serializable -/
def k4 : Class := { plain "java/io/Serializable" (some 0) with
  accessFlags := 1537
  interfaces := #[]
  cf := some (fileOf pool4 1 #[] #[] 1537 3 #[] #[])
  fields := #[]
  methods := #[]
  instanceTypes := #[]
  staticTypes := #[]
  resolved := Array.replicate 7 none
  statics := none }

def pool5 : Array CpInfo := pool [(2, .class_ 4), (1, u "java/lang/Enum"), (0, u "name"), (0, u "Ljava/lang/String;"), (2, u "ordinal"), (0, u "I"), (1, .class_ 14), (1, u "java/lang/Object"), (4, u "hash"), (86, .class_ 108), (1, u "java/lang/Enum$EnumDesc"), (2, .class_ 112), (0, u "java/lang/constant/Constable"), (0, .class_ 114), (0, u "java/lang/Comparable"), (0, .class_ 116), (0, u "java/io/Serializable")] 87

/-- java/lang/Enum -/
def k5 : Class := { plain "java/lang/Enum" (some 0) with
  accessFlags := 1057
  interfaces := #[2, 3, 4]
  cf := some (fileOf pool5 2 #[.nestMembers #[106]] #[] 1057 12 #[111, 113, 115] #[{ accessFlags := 18, nameIndex := 5, descriptorIndex := 6, attributes := #[] }, { accessFlags := 18, nameIndex := 9, descriptorIndex := 10, attributes := #[] }, { accessFlags := 2, nameIndex := 19, descriptorIndex := 10, attributes := #[] }])
  fields := #[{ name := "name", type := (.object "java/lang/String"), accessFlags := 18, slot := 0, constantValue := 0 }, { name := "ordinal", type := .int, accessFlags := 18, slot := 1, constantValue := 0 }, { name := "hash", type := .int, accessFlags := 2, slot := 2, constantValue := 0 }]
  methods := #[]
  instanceTypes := #[(.object "java/lang/String"), .int, .int]
  staticTypes := #[]
  resolved := Array.replicate 204 none
  statics := none }

def pool6 : Array CpInfo := pool [(1, .class_ 2), (0, u "com/example/inklingua/inklingua/lexicon/SubwordType"), (2, u "PREFIX"), (0, u "Lcom/example/inklingua/inklingua/lexicon/SubwordType;"), (2, u "STEM"), (2, u "SUFFIX"), (2, u "INVARIANT"), (2, u "STOP"), (0, .fieldref 1 20), (0, .nameAndType 21 22), (0, u "$VALUES"), (0, u "[Lcom/example/inklingua/inklingua/lexicon/SubwordType;"), (0, .methodref 24 25), (0, .class_ 22), (0, .nameAndType 26 27), (0, u "clone"), (0, u "()Ljava/lang/Object;"), (1, .class_ 31), (1, u "java/lang/Enum"), (6, .fieldref 1 39), (0, .nameAndType 40 41), (0, u "recordName"), (0, u "Ljava/lang/String;"), (0, .methodref 1 43), (0, .nameAndType 44 45), (0, u "values"), (0, u "()[Lcom/example/inklingua/inklingua/lexicon/SubwordType;"), (0, .methodref 47 48), (0, .class_ 49), (0, .nameAndType 50 51), (0, u "java/lang/String"), (0, u "equals"), (0, u "(Ljava/lang/Object;)Z"), (23, u "(Ljava/lang/String;)Lcom/example/inklingua/inklingua/lexicon/SubwordType;"), (3, u "()Ljava/lang/String;"), (0, u "fromRecordName")] 6

def k6c0 : Code := { maxStack := 1, maxLocals := 0, code := prog_37_method_1_code, exceptionTable := #[], attributes := #[] }
def k6m0 : Method := { name := "values", desc := "()[Lcom/example/inklingua/inklingua/lexicon/SubwordType;", sig := { parameters := [], returnType := some (.array (.object "com/example/inklingua/inklingua/lexicon/SubwordType")) }, accessFlags := 9, code := some k6c0 }
def k6c1 : Code := { maxStack := 1, maxLocals := 1, code := prog_37_method_4_code, exceptionTable := #[], attributes := #[] }
def k6m1 : Method := { name := "recordName", desc := "()Ljava/lang/String;", sig := { parameters := [], returnType := some (.object "java/lang/String") }, accessFlags := 1, code := some k6c1 }
def k6c2 : Code := { maxStack := 2, maxLocals := 6, code := prog_37_method_5_code, exceptionTable := #[], attributes := #[] }
def k6m2 : Method := { name := "fromRecordName", desc := "(Ljava/lang/String;)Lcom/example/inklingua/inklingua/lexicon/SubwordType;", sig := { parameters := [(.object "java/lang/String")], returnType := some (.object "com/example/inklingua/inklingua/lexicon/SubwordType") }, accessFlags := 9, code := some k6c2 }
/-- com/example/inklingua/inklingua/lexicon/SubwordType -/
def k6 : Class := { plain "com/example/inklingua/inklingua/lexicon/SubwordType" (some 5) with
  accessFlags := 16433
  interfaces := #[]
  cf := some (fileOf pool6 1 #[] #[{ accessFlags := 9, nameIndex := 44, descriptorIndex := 45, attributes := #[] }, { accessFlags := 1, nameIndex := 40, descriptorIndex := 79, attributes := #[] }, { accessFlags := 9, nameIndex := 80, descriptorIndex := 75, attributes := #[] }] 16433 29 #[] #[{ accessFlags := 16409, nameIndex := 5, descriptorIndex := 6, attributes := #[] }, { accessFlags := 16409, nameIndex := 9, descriptorIndex := 6, attributes := #[] }, { accessFlags := 16409, nameIndex := 12, descriptorIndex := 6, attributes := #[] }, { accessFlags := 16409, nameIndex := 15, descriptorIndex := 6, attributes := #[] }, { accessFlags := 16409, nameIndex := 18, descriptorIndex := 6, attributes := #[] }, { accessFlags := 18, nameIndex := 40, descriptorIndex := 41, attributes := #[] }, { accessFlags := 4122, nameIndex := 21, descriptorIndex := 22, attributes := #[] }])
  fields := #[{ name := "PREFIX", type := (.object "com/example/inklingua/inklingua/lexicon/SubwordType"), accessFlags := 16409, slot := 0, constantValue := 0 }, { name := "STEM", type := (.object "com/example/inklingua/inklingua/lexicon/SubwordType"), accessFlags := 16409, slot := 1, constantValue := 0 }, { name := "SUFFIX", type := (.object "com/example/inklingua/inklingua/lexicon/SubwordType"), accessFlags := 16409, slot := 2, constantValue := 0 }, { name := "INVARIANT", type := (.object "com/example/inklingua/inklingua/lexicon/SubwordType"), accessFlags := 16409, slot := 3, constantValue := 0 }, { name := "STOP", type := (.object "com/example/inklingua/inklingua/lexicon/SubwordType"), accessFlags := 16409, slot := 4, constantValue := 0 }, { name := "recordName", type := (.object "java/lang/String"), accessFlags := 18, slot := 3, constantValue := 0 }, { name := "$VALUES", type := (.array (.object "com/example/inklingua/inklingua/lexicon/SubwordType")), accessFlags := 4122, slot := 5, constantValue := 0 }]
  methods := #[k6m0, k6m1, k6m2]
  instanceTypes := #[(.object "java/lang/String"), .int, .int, (.object "java/lang/String")]
  staticTypes := #[(.object "com/example/inklingua/inklingua/lexicon/SubwordType"), (.object "com/example/inklingua/inklingua/lexicon/SubwordType"), (.object "com/example/inklingua/inklingua/lexicon/SubwordType"), (.object "com/example/inklingua/inklingua/lexicon/SubwordType"), (.object "com/example/inklingua/inklingua/lexicon/SubwordType"), (.array (.object "com/example/inklingua/inklingua/lexicon/SubwordType"))]
  resolved := Array.replicate 87 none
  statics := some 0 }

def pool7 : Array CpInfo := pool [(2, .class_ 4), (1, u "java/lang/CharSequence"), (42, .class_ 48), (0, u "java/lang/CharSequence$1CodePointIterator"), (10, .class_ 60), (0, u "java/lang/CharSequence$1CharIterator"), (5, .class_ 67), (0, u "java/lang/Object")] 63

/-- java/lang/CharSequence -/
def k7 : Class := { plain "java/lang/CharSequence" (some 0) with
  accessFlags := 1537
  interfaces := #[]
  cf := some (fileOf pool7 2 #[.nestMembers #[47, 59]] #[] 1537 66 #[] #[])
  fields := #[]
  methods := #[]
  instanceTypes := #[]
  staticTypes := #[]
  resolved := Array.replicate 131 none
  statics := none }

def pool8 : Array CpInfo := pool [(1, .class_ 2), (0, u "java/lang/constant/ConstantDesc"), (0, .class_ 4), (0, u "java/lang/Object")] 32

/-- java/lang/constant/ConstantDesc -/
def k8 : Class := { plain "java/lang/constant/ConstantDesc" (some 0) with
  accessFlags := 1537
  interfaces := #[]
  cf := some (fileOf pool8 1 #[] #[] 1537 3 #[] #[])
  fields := #[]
  methods := #[]
  instanceTypes := #[]
  staticTypes := #[]
  resolved := Array.replicate 37 none
  statics := none }

def pool9 : Array CpInfo := pool [(1, .methodref 2 3), (0, .class_ 4), (0, .nameAndType 5 6), (0, u "java/lang/Object"), (0, u "<init>"), (0, u "()V"), (0, .string 8), (0, u ""), (0, .fieldref 10 11), (0, .class_ 12), (0, .nameAndType 13 14), (0, u "java/lang/String"), (0, u "value"), (0, u "[B"), (0, .fieldref 10 16), (0, .nameAndType 17 18), (0, u "coder"), (0, u "B"), (2, u "hash"), (0, u "I"), (2, u "hashIsZero"), (0, u "Z"), (0, .methodref 10 28), (0, .nameAndType 5 29), (0, u "([CIILjava/lang/Void;)V"), (8, .fieldref 10 39), (0, .nameAndType 40 26), (0, u "COMPACT_STRINGS"), (1, .class_ 44), (1, u "java/lang/StringUTF16"), (0, u "compress"), (1, .methodref 42 48), (0, .nameAndType 49 50), (0, u "coderFromArrayLen"), (0, u "([BI)B"), (56, .class_ 109), (1, u "java/lang/StringLatin1"), (67, .methodref 42 178), (0, .nameAndType 45 179), (0, u "([CII)[B"), (361, .methodref 107 542), (0, .nameAndType 543 544), (0, u "equals"), (0, u "([B[B)Z"), (28, u "(Ljava/lang/Object;)Z"), (1, .class_ 576), (0, u "java/lang/CharSequence"), (22, u "CASE_INSENSITIVE_ORDER"), (0, u "Ljava/util/Comparator;"), (409, u "([C)V"), (90, u "serialPersistentFields"), (0, u "[Ljava/io/ObjectStreamField;"), (0, .class_ 1104), (0, u "java/lang/String$CaseInsensitiveComparator"), (1, .class_ 1107), (0, u "java/io/Serializable"), (0, .class_ 1109), (0, u "java/lang/Comparable"), (0, .class_ 1111), (0, u "java/lang/constant/Constable"), (0, .class_ 1113), (0, u "java/lang/constant/ConstantDesc"), (2, u "serialVersionUID"), (0, u "J"), (3, u "REPL"), (0, u "C"), (2, u "LATIN1"), (1, u "UTF16")] 323

def k9m0 : Method := { name := "<init>", desc := "()V", sig := { parameters := [], returnType := none }, accessFlags := 1, code := none }
def k9c1 : Code := { maxStack := 5, maxLocals := 2, code := jdk_42_method_3_code, exceptionTable := #[], attributes := #[] }
def k9m1 : Method := { name := "<init>", desc := "([C)V", sig := { parameters := [(.array .char)], returnType := none }, accessFlags := 1, code := some k9c1 }
def k9c2 : Code := { maxStack := 2, maxLocals := 3, code := jdk_42_method_66_code, exceptionTable := #[], attributes := #[] }
def k9m2 : Method := { name := "equals", desc := "(Ljava/lang/Object;)Z", sig := { parameters := [(.object "java/lang/Object")], returnType := some .boolean }, accessFlags := 1, code := some k9c2 }
def k9c3 : Code := { maxStack := 4, maxLocals := 6, code := jdk_42_method_149_code, exceptionTable := #[], attributes := #[] }
def k9m3 : Method := { name := "<init>", desc := "([CIILjava/lang/Void;)V", sig := { parameters := [(.array .char), .int, .int, (.object "java/lang/Void")], returnType := none }, accessFlags := 2, code := some k9c3 }
/-- java/lang/String -/
def k9 : Class := { plain "java/lang/String" (some 0) with
  accessFlags := 49
  interfaces := #[4, 3, 7, 2, 8]
  cf := some (fileOf pool9 10 #[.nestMembers #[1103]] #[{ accessFlags := 1, nameIndex := 5, descriptorIndex := 6, attributes := #[] }, { accessFlags := 1, nameIndex := 5, descriptorIndex := 1010, attributes := #[] }, { accessFlags := 1, nameIndex := 543, descriptorIndex := 573, attributes := #[] }, { accessFlags := 2, nameIndex := 5, descriptorIndex := 29, attributes := #[] }] 49 2 #[1106, 1108, 575, 1110, 1112] #[{ accessFlags := 18, nameIndex := 13, descriptorIndex := 14, attributes := #[] }, { accessFlags := 18, nameIndex := 17, descriptorIndex := 18, attributes := #[] }, { accessFlags := 2, nameIndex := 21, descriptorIndex := 22, attributes := #[] }, { accessFlags := 2, nameIndex := 25, descriptorIndex := 26, attributes := #[] }, { accessFlags := 26, nameIndex := 1116, descriptorIndex := 1117, attributes := #[] }, { accessFlags := 24, nameIndex := 40, descriptorIndex := 26, attributes := #[] }, { accessFlags := 26, nameIndex := 1101, descriptorIndex := 1102, attributes := #[] }, { accessFlags := 26, nameIndex := 1121, descriptorIndex := 1122, attributes := #[] }, { accessFlags := 25, nameIndex := 599, descriptorIndex := 600, attributes := #[] }, { accessFlags := 24, nameIndex := 1125, descriptorIndex := 18, attributes := #[] }, { accessFlags := 24, nameIndex := 1127, descriptorIndex := 18, attributes := #[] }])
  fields := #[{ name := "value", type := (.array .byte), accessFlags := 18, slot := 0, constantValue := 0 }, { name := "coder", type := .byte, accessFlags := 18, slot := 1, constantValue := 0 }, { name := "hash", type := .int, accessFlags := 2, slot := 2, constantValue := 0 }, { name := "hashIsZero", type := .boolean, accessFlags := 2, slot := 3, constantValue := 0 }, { name := "serialVersionUID", type := .long, accessFlags := 26, slot := 0, constantValue := 0 }, { name := "COMPACT_STRINGS", type := .boolean, accessFlags := 24, slot := 1, constantValue := 0 }, { name := "serialPersistentFields", type := (.array (.object "java/io/ObjectStreamField")), accessFlags := 26, slot := 2, constantValue := 0 }, { name := "REPL", type := .char, accessFlags := 26, slot := 3, constantValue := 0 }, { name := "CASE_INSENSITIVE_ORDER", type := (.object "java/util/Comparator"), accessFlags := 25, slot := 4, constantValue := 0 }, { name := "LATIN1", type := .byte, accessFlags := 24, slot := 5, constantValue := 0 }, { name := "UTF16", type := .byte, accessFlags := 24, slot := 6, constantValue := 0 }]
  methods := #[k9m0, k9m1, k9m2, k9m3]
  instanceTypes := #[(.array .byte), .byte, .int, .boolean]
  staticTypes := #[.long, .boolean, (.array (.object "java/io/ObjectStreamField")), .char, (.object "java/util/Comparator"), .byte, .byte]
  resolved := Array.replicate 1451 none
  statics := some 1 }

def pool10 : Array CpInfo := pool [(6, .class_ 8), (1, u "java/lang/Object"), (0, u "<init>"), (0, u "()V"), (1, .class_ 14), (1, u "java/lang/StringUTF16"), (31, u "$assertionsDisabled"), (0, u "Z"), (13, u "HI_BYTE_SHIFT"), (0, u "I"), (2, u "LO_BYTE_SHIFT"), (49, .methodref 12 116), (0, .nameAndType 117 118), (0, u "compress"), (0, u "([CI[BII)I"), (3, u "([CII)[B"), (138, u "coderFromArrayLen"), (0, u "([BI)B"), (106, .class_ 371), (1, u "java/lang/StringUTF16$LinesSpliterator"), (58, u "MAX_LENGTH"), (196, .class_ 628), (0, u "java/lang/StringUTF16$CodePointsSpliterator"), (0, .class_ 630), (0, u "java/lang/StringUTF16$CharsSpliterator")] 4

def k10m0 : Method := { name := "<init>", desc := "()V", sig := { parameters := [], returnType := none }, accessFlags := 0, code := none }
def k10c1 : Code := { maxStack := 2, maxLocals := 2, code := jdk_52_method_15_code, exceptionTable := #[], attributes := #[] }
def k10m1 : Method := { name := "coderFromArrayLen", desc := "([BI)B", sig := { parameters := [(.array .byte), .int], returnType := some .byte }, accessFlags := 8, code := some k10c1 }
def k10c2 : Code := { maxStack := 5, maxLocals := 6, code := jdk_52_method_16_code, exceptionTable := #[], attributes := #[] }
def k10m2 : Method := { name := "compress", desc := "([CII)[B", sig := { parameters := [(.array .char), .int, .int], returnType := some (.array .byte) }, accessFlags := 9, code := some k10c2 }
def k10c3 : Code := { maxStack := 3, maxLocals := 7, code := jdk_52_method_21_code, exceptionTable := #[], attributes := #[] }
def k10m3 : Method := { name := "compress", desc := "([CI[BII)I", sig := { parameters := [(.array .char), .int, (.array .byte), .int, .int], returnType := some .int }, accessFlags := 9, code := some k10c3 }
/-- java/lang/StringUTF16 -/
def k10 : Class := { plain "java/lang/StringUTF16" (some 0) with
  accessFlags := 48
  interfaces := #[]
  cf := some (fileOf pool10 12 #[.nestMembers #[627, 629, 369]] #[{ accessFlags := 0, nameIndex := 9, descriptorIndex := 10, attributes := #[] }, { accessFlags := 8, nameIndex := 261, descriptorIndex := 262, attributes := #[] }, { accessFlags := 9, nameIndex := 117, descriptorIndex := 122, attributes := #[] }, { accessFlags := 9, nameIndex := 117, descriptorIndex := 118, attributes := #[] }] 48 6 #[] #[{ accessFlags := 26, nameIndex := 61, descriptorIndex := 62, attributes := #[] }, { accessFlags := 26, nameIndex := 65, descriptorIndex := 62, attributes := #[] }, { accessFlags := 24, nameIndex := 430, descriptorIndex := 62, attributes := #[] }, { accessFlags := 4120, nameIndex := 46, descriptorIndex := 47, attributes := #[] }])
  fields := #[{ name := "HI_BYTE_SHIFT", type := .int, accessFlags := 26, slot := 0, constantValue := 0 }, { name := "LO_BYTE_SHIFT", type := .int, accessFlags := 26, slot := 1, constantValue := 0 }, { name := "MAX_LENGTH", type := .int, accessFlags := 24, slot := 2, constantValue := 0 }, { name := "$assertionsDisabled", type := .boolean, accessFlags := 4120, slot := 3, constantValue := 0 }]
  methods := #[k10m0, k10m1, k10m2, k10m3]
  instanceTypes := #[]
  staticTypes := #[.int, .int, .int, .boolean]
  resolved := Array.replicate 635 none
  statics := none }

def pool11 : Array CpInfo := pool [(1, .class_ 2), (0, u "java/lang/Cloneable"), (0, .class_ 4), (0, u "java/lang/Object")] 2

/-- java/lang/Cloneable -/
def k11 : Class := { plain "java/lang/Cloneable" (some 0) with
  accessFlags := 1537
  interfaces := #[]
  cf := some (fileOf pool11 1 #[] #[] 1537 3 #[] #[])
  fields := #[]
  methods := #[]
  instanceTypes := #[]
  staticTypes := #[]
  resolved := Array.replicate 7 none
  statics := none }

def pool12 : Array CpInfo := pool [(4, .class_ 6), (1, u "java/lang/Object"), (0, u "<init>"), (0, u "()V"), (5, .class_ 16), (1, u "java/lang/StringLatin1"), (104, u "$assertionsDisabled"), (0, u "Z"), (98, .class_ 223), (1, u "java/lang/StringLatin1$LinesSpliterator"), (57, u "equals"), (0, u "([B[B)Z"), (107, .class_ 391), (0, u "java/lang/StringLatin1$CharsSpliterator")] 3

def k12m0 : Method := { name := "<init>", desc := "()V", sig := { parameters := [], returnType := none }, accessFlags := 0, code := none }
def k12c1 : Code := { maxStack := 3, maxLocals := 3, code := jdk_43_method_13_code, exceptionTable := #[], attributes := #[] }
def k12m1 : Method := { name := "equals", desc := "([B[B)Z", sig := { parameters := [(.array .byte), (.array .byte)], returnType := some .boolean }, accessFlags := 9, code := some k12c1 }
/-- java/lang/StringLatin1 -/
def k12 : Class := { plain "java/lang/StringLatin1" (some 0) with
  accessFlags := 48
  interfaces := #[]
  cf := some (fileOf pool12 14 #[.nestMembers #[390, 221]] #[{ accessFlags := 0, nameIndex := 7, descriptorIndex := 8, attributes := #[] }, { accessFlags := 9, nameIndex := 281, descriptorIndex := 282, attributes := #[] }] 48 4 #[] #[{ accessFlags := 4120, nameIndex := 121, descriptorIndex := 122, attributes := #[] }])
  fields := #[{ name := "$assertionsDisabled", type := .boolean, accessFlags := 4120, slot := 0, constantValue := 0 }]
  methods := #[k12m0, k12m1]
  instanceTypes := #[]
  staticTypes := #[.boolean]
  resolved := Array.replicate 395 none
  statics := none }

def pool13 : Array CpInfo := pool [(2, .class_ 4), (1, u "java/lang/Object"), (0, u "<init>"), (0, u "()V"), (17, .class_ 26), (1, u "jdk/internal/util/Preconditions"), (28, .class_ 56), (0, u "jdk/internal/util/Preconditions$4"), (57, .class_ 115), (0, u "jdk/internal/util/Preconditions$1"), (7, u "SIOOBE_FORMATTER"), (0, u "Ljava/util/function/BiFunction;"), (0, .class_ 126), (0, u "jdk/internal/util/Preconditions$2"), (3, u "AIOOBE_FORMATTER"), (0, .class_ 132), (0, u "jdk/internal/util/Preconditions$3"), (3, u "IOOBE_FORMATTER")] 57

def k13m0 : Method := { name := "<init>", desc := "()V", sig := { parameters := [], returnType := none }, accessFlags := 1, code := none }
/-- jdk/internal/util/Preconditions -/
def k13 : Class := { plain "jdk/internal/util/Preconditions" (some 0) with
  accessFlags := 33
  interfaces := #[]
  cf := some (fileOf pool13 24 #[.nestMembers #[55, 131, 125, 114]] #[{ accessFlags := 1, nameIndex := 5, descriptorIndex := 6, attributes := #[] }] 33 2 #[] #[{ accessFlags := 25, nameIndex := 123, descriptorIndex := 124, attributes := #[] }, { accessFlags := 25, nameIndex := 130, descriptorIndex := 124, attributes := #[] }, { accessFlags := 25, nameIndex := 136, descriptorIndex := 124, attributes := #[] }])
  fields := #[{ name := "SIOOBE_FORMATTER", type := (.object "java/util/function/BiFunction"), accessFlags := 25, slot := 0, constantValue := 0 }, { name := "AIOOBE_FORMATTER", type := (.object "java/util/function/BiFunction"), accessFlags := 25, slot := 1, constantValue := 0 }, { name := "IOOBE_FORMATTER", type := (.object "java/util/function/BiFunction"), accessFlags := 25, slot := 2, constantValue := 0 }]
  methods := #[k13m0]
  instanceTypes := #[]
  staticTypes := #[(.object "java/util/function/BiFunction"), (.object "java/util/function/BiFunction"), (.object "java/util/function/BiFunction")]
  resolved := Array.replicate 194 none
  statics := some 2 }

def pool14 : Array CpInfo := pool [(9, u "<init>"), (6, .class_ 18), (1, u "java/lang/Object"), (0, u "()V"), (1, .class_ 23), (1, u "jdk/internal/util/ArraysSupport"), (0, u "LOG2_ARRAY_LONG_INDEX_SCALE"), (0, u "I"), (2, u "U"), (0, u "Ljdk/internal/misc/Unsafe;"), (8, u "BIG_ENDIAN"), (0, u "Z"), (8, u "LOG2_BYTE_BIT_SIZE"), (4, u "LOG2_ARRAY_INT_INDEX_SCALE"), (54, u "JLA"), (0, u "Ljdk/internal/access/JavaLangAccess;"), (11, u "LOG2_ARRAY_BOOLEAN_INDEX_SCALE"), (9, u "LOG2_ARRAY_BYTE_INDEX_SCALE"), (5, u "LOG2_ARRAY_CHAR_INDEX_SCALE"), (5, u "LOG2_ARRAY_SHORT_INDEX_SCALE"), (18, u "LOG2_ARRAY_FLOAT_INDEX_SCALE"), (24, u "LOG2_ARRAY_DOUBLE_INDEX_SCALE"), (89, u "T_BOOLEAN"), (2, u "T_CHAR"), (1, u "T_FLOAT"), (1, u "T_DOUBLE"), (1, u "T_BYTE"), (1, u "T_SHORT"), (1, u "T_INT"), (1, u "T_LONG"), (1, u "SOFT_MAX_ARRAY_LENGTH")] 83

def k14m0 : Method := { name := "<init>", desc := "()V", sig := { parameters := [], returnType := none }, accessFlags := 2, code := none }
/-- jdk/internal/util/ArraysSupport -/
def k14 : Class := { plain "jdk/internal/util/ArraysSupport" (some 0) with
  accessFlags := 33
  interfaces := #[]
  cf := some (fileOf pool14 21 #[] #[{ accessFlags := 2, nameIndex := 9, descriptorIndex := 19, attributes := #[] }] 33 16 #[] #[{ accessFlags := 24, nameIndex := 28, descriptorIndex := 29, attributes := #[] }, { accessFlags := 26, nameIndex := 38, descriptorIndex := 39, attributes := #[] }, { accessFlags := 25, nameIndex := 121, descriptorIndex := 25, attributes := #[] }, { accessFlags := 25, nameIndex := 131, descriptorIndex := 25, attributes := #[] }, { accessFlags := 25, nameIndex := 137, descriptorIndex := 25, attributes := #[] }, { accessFlags := 25, nameIndex := 143, descriptorIndex := 25, attributes := #[] }, { accessFlags := 25, nameIndex := 53, descriptorIndex := 25, attributes := #[] }, { accessFlags := 25, nameIndex := 24, descriptorIndex := 25, attributes := #[] }, { accessFlags := 25, nameIndex := 162, descriptorIndex := 25, attributes := #[] }, { accessFlags := 25, nameIndex := 187, descriptorIndex := 25, attributes := #[] }, { accessFlags := 26, nameIndex := 48, descriptorIndex := 25, attributes := #[] }, { accessFlags := 25, nameIndex := 277, descriptorIndex := 25, attributes := #[] }, { accessFlags := 25, nameIndex := 280, descriptorIndex := 25, attributes := #[] }, { accessFlags := 25, nameIndex := 282, descriptorIndex := 25, attributes := #[] }, { accessFlags := 25, nameIndex := 284, descriptorIndex := 25, attributes := #[] }, { accessFlags := 25, nameIndex := 286, descriptorIndex := 25, attributes := #[] }, { accessFlags := 25, nameIndex := 288, descriptorIndex := 25, attributes := #[] }, { accessFlags := 25, nameIndex := 290, descriptorIndex := 25, attributes := #[] }, { accessFlags := 25, nameIndex := 292, descriptorIndex := 25, attributes := #[] }, { accessFlags := 26, nameIndex := 108, descriptorIndex := 109, attributes := #[] }, { accessFlags := 25, nameIndex := 294, descriptorIndex := 25, attributes := #[] }])
  fields := #[{ name := "U", type := (.object "jdk/internal/misc/Unsafe"), accessFlags := 24, slot := 0, constantValue := 0 }, { name := "BIG_ENDIAN", type := .boolean, accessFlags := 26, slot := 1, constantValue := 0 }, { name := "LOG2_ARRAY_BOOLEAN_INDEX_SCALE", type := .int, accessFlags := 25, slot := 2, constantValue := 0 }, { name := "LOG2_ARRAY_BYTE_INDEX_SCALE", type := .int, accessFlags := 25, slot := 3, constantValue := 0 }, { name := "LOG2_ARRAY_CHAR_INDEX_SCALE", type := .int, accessFlags := 25, slot := 4, constantValue := 0 }, { name := "LOG2_ARRAY_SHORT_INDEX_SCALE", type := .int, accessFlags := 25, slot := 5, constantValue := 0 }, { name := "LOG2_ARRAY_INT_INDEX_SCALE", type := .int, accessFlags := 25, slot := 6, constantValue := 0 }, { name := "LOG2_ARRAY_LONG_INDEX_SCALE", type := .int, accessFlags := 25, slot := 7, constantValue := 0 }, { name := "LOG2_ARRAY_FLOAT_INDEX_SCALE", type := .int, accessFlags := 25, slot := 8, constantValue := 0 }, { name := "LOG2_ARRAY_DOUBLE_INDEX_SCALE", type := .int, accessFlags := 25, slot := 9, constantValue := 0 }, { name := "LOG2_BYTE_BIT_SIZE", type := .int, accessFlags := 26, slot := 10, constantValue := 0 }, { name := "T_BOOLEAN", type := .int, accessFlags := 25, slot := 11, constantValue := 0 }, { name := "T_CHAR", type := .int, accessFlags := 25, slot := 12, constantValue := 0 }, { name := "T_FLOAT", type := .int, accessFlags := 25, slot := 13, constantValue := 0 }, { name := "T_DOUBLE", type := .int, accessFlags := 25, slot := 14, constantValue := 0 }, { name := "T_BYTE", type := .int, accessFlags := 25, slot := 15, constantValue := 0 }, { name := "T_SHORT", type := .int, accessFlags := 25, slot := 16, constantValue := 0 }, { name := "T_INT", type := .int, accessFlags := 25, slot := 17, constantValue := 0 }, { name := "T_LONG", type := .int, accessFlags := 25, slot := 18, constantValue := 0 }, { name := "JLA", type := (.object "jdk/internal/access/JavaLangAccess"), accessFlags := 26, slot := 19, constantValue := 0 }, { name := "SOFT_MAX_ARRAY_LENGTH", type := .int, accessFlags := 25, slot := 20, constantValue := 0 }]
  methods := #[k14m0]
  instanceTypes := #[]
  staticTypes := #[(.object "jdk/internal/misc/Unsafe"), .boolean, .int, .int, .int, .int, .int, .int, .int, .int, .int, .int, .int, .int, .int, .int, .int, .int, .int, (.object "jdk/internal/access/JavaLangAccess"), .int]
  resolved := Array.replicate 378 none
  statics := none }

/-- the primitive byte -/
def k15 : Class := { plain "byte" none with kind := .primitive 'B', accessFlags := 0x411 }
/-- [B -/
def k16 : Class := { plain "[B" (some 0) with kind := .array 15 .byte, interfaces := #[11, 4], accessFlags := 1041 }

/-- the primitive char -/
def k17 : Class := { plain "char" none with kind := .primitive 'C', accessFlags := 0x411 }
/-- [C -/
def k18 : Class := { plain "[C" (some 0) with kind := .array 17 .char, interfaces := #[11, 4], accessFlags := 1041 }

/-- the primitive int -/
def k19 : Class := { plain "int" none with kind := .primitive 'I', accessFlags := 0x411 }
/-- [I -/
def k20 : Class := { plain "[I" (some 0) with kind := .array 19 .int, interfaces := #[11, 4], accessFlags := 1041 }

/-- [Lcom/example/inklingua/inklingua/lexicon/SubwordType; -/
def k21 : Class := { plain "[Lcom/example/inklingua/inklingua/lexicon/SubwordType;" (some 0) with kind := .array 6 (.object "com/example/inklingua/inklingua/lexicon/SubwordType"), interfaces := #[11, 4], accessFlags := 1041 }

def heap : Heap := #[{ cls := 6, slots := #[.ref 4, .ref 5, .ref 6, .ref 7, .ref 8, .ref 3], vm := .statics 6 },
  { cls := 9, slots := #[.long 0, .int 1, .null, .int 0, .null, .int 0, .int 0], vm := .statics 9 },
  { cls := 13, slots := #[.null, .null, .null], vm := .statics 13 },
  { cls := 21, slots := #[.ref 4, .ref 5, .ref 6, .ref 7, .ref 8], vm := .none },
  { cls := 6, slots := #[.null, .int 0, .int 0, .ref 9], vm := .none },
  { cls := 6, slots := #[.null, .int 1, .int 0, .ref 10], vm := .none },
  { cls := 6, slots := #[.null, .int 2, .int 0, .ref 11], vm := .none },
  { cls := 6, slots := #[.null, .int 3, .int 0, .ref 12], vm := .none },
  { cls := 6, slots := #[.null, .int 4, .int 0, .ref 13], vm := .none },
  { cls := 9, slots := #[.ref 14, .int 0, .int 0, .int 0], vm := .none },
  { cls := 9, slots := #[.ref 15, .int 0, .int 0, .int 0], vm := .none },
  { cls := 9, slots := #[.ref 16, .int 0, .int 0, .int 0], vm := .none },
  { cls := 9, slots := #[.ref 17, .int 0, .int 0, .int 0], vm := .none },
  { cls := 9, slots := #[.ref 18, .int 0, .int 0, .int 0], vm := .none },
  { cls := 16, slots := #[.int 112, .int 114, .int 101, .int 102, .int 105, .int 120], vm := .none },
  { cls := 16, slots := #[.int 115, .int 116, .int 101, .int 109], vm := .none },
  { cls := 16, slots := #[.int 115, .int 117, .int 102, .int 102, .int 105, .int 120], vm := .none },
  { cls := 16, slots := #[.int 105, .int 110, .int 118, .int 97, .int 114, .int 105, .int 97, .int 110, .int 116], vm := .none },
  { cls := 16, slots := #[.int 115, .int 116, .int 111, .int 112], vm := .none }]
def classes : Array Class := #[k0, k1, k2, k3, k4, k5, k6, k7, k8, k9, k10, k11, k12, k13, k14, k15, k16, k17, k18, k19, k20, k21]
def interned : List (Array UInt16 × Addr) := []
def slotsUsed : Nat := 90
def theMethod : MethodId := ⟨1, 1⟩
def args0 : Array Value := #[.int 5, .int 6, .int 7, .int 8]
def aboutOver (below : List Frame) : State where
  vm := { classes := classes, interned := interned.toArray }
  heap := heap
  slotsUsed := slotsUsed
  threads := #[{ frames := .invoking theMethod args0 :: below }]
def below0 : List Frame := [.native { method := ⟨0, 0⟩, args := #[] }]
def about1 : State := aboutOver below0
def p0 : Program := .bare "" "" ""
def e0 : Env := launch0.env 0 0 0
theorem w_frames : about1.frames = Frame.invoking theMethod args0 :: below0 := rfl
set_option maxRecDepth 65536 in
theorem w_args : argsFit about1.vm theMethod args0 = true := by decide +kernel
set_option maxRecDepth 65536 in
theorem w_heap : heapFits about1 = true := by decide +kernel
set_option maxRecDepth 65536 in
theorem w_runnable : about1.curStatus? = some .runnable := by decide +kernel
set_option maxRecDepth 65536 in
theorem w_alone : about1.alone = true := by decide +kernel
set_option maxRecDepth 65536 in
theorem w_named : about1.methodNamed? x = some theMethod := by decide +kernel
set_option maxRecDepth 65536 in
theorem w_hears : about1.hears theMethod below0 = true := by decide +kernel
set_option maxRecDepth 65536 in
theorem w_ripe : about1.ripe theMethod args0 below0 = true := by decide +kernel
theorem w_running : about1.status = .running := rfl
set_option maxRecDepth 65536 in
theorem w_room : about1.hasRoom e0.platform room_1 = true :=
  launch0.hasRoom_least _ room_1 (by decide +kernel) (by decide +kernel) (by decide +kernel) (by decide +kernel) (by decide +kernel) (by decide +kernel)
theorem allAtoms_all (ts : List Jvm.Cond) (a : Array Jvm.Value) (st : Jvm.State) : (allAtoms ts).before a st = ts.all (fun c => c.before a st) := by
  induction ts with
  | nil => rfl
  | cons c t ih =>
    show (Jvm.Cond.and c (allAtoms t)).before a st = _
    rw [Jvm.Cond.before_and, ih, List.all_cons]
def words1 : List Jvm.Cond := Jvm.Cond.code x code maxLocals ret :: tables_1
/-- a 'code' word, met by the world's own term for the bytes: nothing is compared byte by byte -/
theorem code_word {y : MethodName} {bytes : ByteArray} {mx : Nat} {rt : Option FieldType} {a : Array Value} {s : State} {m : MethodId} {meth : Method} {c : Code} (h1 : s.methodNamed? y = some m) (h2 : s.vm.method? m = some meth) (h3 : meth.code = some c) (h4 : c.code = bytes)
    (h5 : (c.maxLocals == mx && c.exceptionTable.isEmpty && decide (c.maxStack ≤ mostOperands) && decide (meth.sig.returnType = rt) && !meth.locks && decide (parseMethodDescriptor y.desc = some meth.sig)) = true) : (Jvm.Cond.code y bytes mx rt).before a s = true := by
  simp only [Bool.and_eq_true, beq_iff_eq, Bool.not_eq_true', decide_eq_true_eq] at h5
  obtain ⟨⟨⟨⟨⟨g1, g2⟩, g3⟩, g4⟩, g5⟩, g6⟩ := h5
  simp [Cond.before, Cond.holds, Cond.value, h1, h2, h3, h4, g1, g2, g3, g4, g5, g6]
def isCode : Jvm.Cond → Bool
  | .code _ _ _ _ => true
  | _ => false
theorem all_split {L : List Jvm.Cond} {P : Jvm.Cond → Bool} (h1 : L.all (fun c => isCode c || P c) = true) (h2 : ∀ c ∈ L.filter isCode, P c = true) : L.all P = true := by
  refine List.all_eq_true.mpr fun c hc => ?_
  have h := List.all_eq_true.mp h1 c hc
  rcases Bool.eq_false_or_eq_true (isCode c) with hi | hi
  · exact h2 c (List.mem_filter.mpr ⟨hc, hi⟩)
  · simpa [hi] using h
set_option maxRecDepth 65536 in
theorem w_c0 : (Jvm.Cond.code x code maxLocals ret).before args0 about1 = true := code_word (m := ⟨1, 1⟩) (meth := k1m1) (c := k1c1) (by decide +kernel) rfl rfl rfl (by decide +kernel)
set_option maxRecDepth 65536 in
theorem w_c1 : (Jvm.Cond.code ({ cls := "com/example/inklingua/inklingua/lexicon/SubwordTypeFromRecordNamePinLaw", name := "base", desc := "(I)[C" } : Jvm.MethodName) method_3_code (1 : Nat) (Option.some (Jvm.ClassFile.FieldType.array Jvm.ClassFile.FieldType.char))).before args0 about1 = true := code_word (m := ⟨1, 2⟩) (meth := k1m2) (c := k1c2) (by decide +kernel) rfl rfl rfl (by decide +kernel)
set_option maxRecDepth 65536 in
theorem w_c2 : (Jvm.Cond.code ({ cls := "com/example/inklingua/inklingua/lexicon/SubwordTypeFromRecordNamePinLaw", name := "type", desc := "(I)Lcom/example/inklingua/inklingua/lexicon/SubwordType;" } : Jvm.MethodName) method_4_code (1 : Nat) (Option.some (Jvm.ClassFile.FieldType.object "com/example/inklingua/inklingua/lexicon/SubwordType"))).before args0 about1 = true := code_word (m := ⟨1, 3⟩) (meth := k1m3) (c := k1c3) (by decide +kernel) rfl rfl rfl (by decide +kernel)
set_option maxRecDepth 65536 in
theorem w_c3 : (Jvm.Cond.code ({ cls := "com/example/inklingua/inklingua/lexicon/SubwordTypeFromRecordNamePinLaw", name := "build", desc := "([CIIC)[C" } : Jvm.MethodName) method_6_code (5 : Nat) (Option.some (Jvm.ClassFile.FieldType.array Jvm.ClassFile.FieldType.char))).before args0 about1 = true := code_word (m := ⟨1, 5⟩) (meth := k1m5) (c := k1c5) (by decide +kernel) rfl rfl rfl (by decide +kernel)
set_option maxRecDepth 65536 in
theorem w_c4 : (Jvm.Cond.code ({ cls := "com/example/inklingua/inklingua/lexicon/SubwordTypeFromRecordNamePinLaw", name := "pick", desc := "([CIIC)C" } : Jvm.MethodName) method_5_code (4 : Nat) (Option.some Jvm.ClassFile.FieldType.char)).before args0 about1 = true := code_word (m := ⟨1, 4⟩) (meth := k1m4) (c := k1c4) (by decide +kernel) rfl rfl rfl (by decide +kernel)
set_option maxRecDepth 65536 in
theorem w_c5 : (Jvm.Cond.code ({ cls := "java/lang/String", name := "<init>", desc := "([C)V" } : Jvm.MethodName) jdk_42_method_3_code (2 : Nat) (Option.none : Option Jvm.ClassFile.FieldType)).before args0 about1 = true := code_word (m := ⟨9, 1⟩) (meth := k9m1) (c := k9c1) (by decide +kernel) rfl rfl rfl (by decide +kernel)
set_option maxRecDepth 65536 in
theorem w_c6 : (Jvm.Cond.code ({ cls := "java/lang/String", name := "<init>", desc := "([CIILjava/lang/Void;)V" } : Jvm.MethodName) jdk_42_method_149_code (6 : Nat) (Option.none : Option Jvm.ClassFile.FieldType)).before args0 about1 = true := code_word (m := ⟨9, 3⟩) (meth := k9m3) (c := k9c3) (by decide +kernel) rfl rfl rfl (by decide +kernel)
set_option maxRecDepth 65536 in
theorem w_c7 : (Jvm.Cond.code ({ cls := "java/lang/Object", name := "<init>", desc := "()V" } : Jvm.MethodName) object_method_1_code (1 : Nat) (Option.none : Option Jvm.ClassFile.FieldType)).before args0 about1 = true := code_word (m := ⟨0, 0⟩) (meth := k0m0) (c := k0c0) (by decide +kernel) rfl rfl rfl (by decide +kernel)
set_option maxRecDepth 65536 in
theorem w_c8 : (Jvm.Cond.code ({ cls := "java/lang/StringUTF16", name := "compress", desc := "([CII)[B" } : Jvm.MethodName) jdk_52_method_16_code (6 : Nat) (Option.some (Jvm.ClassFile.FieldType.array Jvm.ClassFile.FieldType.byte))).before args0 about1 = true := code_word (m := ⟨10, 2⟩) (meth := k10m2) (c := k10c2) (by decide +kernel) rfl rfl rfl (by decide +kernel)
set_option maxRecDepth 65536 in
theorem w_c9 : (Jvm.Cond.code ({ cls := "java/lang/StringUTF16", name := "compress", desc := "([CI[BII)I" } : Jvm.MethodName) jdk_52_method_21_code (7 : Nat) (Option.some Jvm.ClassFile.FieldType.int)).before args0 about1 = true := code_word (m := ⟨10, 3⟩) (meth := k10m3) (c := k10c3) (by decide +kernel) rfl rfl rfl (by decide +kernel)
set_option maxRecDepth 65536 in
theorem w_c10 : (Jvm.Cond.code ({ cls := "java/lang/StringUTF16", name := "coderFromArrayLen", desc := "([BI)B" } : Jvm.MethodName) jdk_52_method_15_code (2 : Nat) (Option.some Jvm.ClassFile.FieldType.byte)).before args0 about1 = true := code_word (m := ⟨10, 1⟩) (meth := k10m1) (c := k10c1) (by decide +kernel) rfl rfl rfl (by decide +kernel)
set_option maxRecDepth 65536 in
theorem w_c11 : (Jvm.Cond.code ({ cls := "com/example/inklingua/inklingua/lexicon/SubwordType", name := "fromRecordName", desc := "(Ljava/lang/String;)Lcom/example/inklingua/inklingua/lexicon/SubwordType;" } : Jvm.MethodName) prog_37_method_5_code (6 : Nat) (Option.some (Jvm.ClassFile.FieldType.object "com/example/inklingua/inklingua/lexicon/SubwordType"))).before args0 about1 = true := code_word (m := ⟨6, 2⟩) (meth := k6m2) (c := k6c2) (by decide +kernel) rfl rfl rfl (by decide +kernel)
set_option maxRecDepth 65536 in
theorem w_c12 : (Jvm.Cond.code ({ cls := "com/example/inklingua/inklingua/lexicon/SubwordType", name := "values", desc := "()[Lcom/example/inklingua/inklingua/lexicon/SubwordType;" } : Jvm.MethodName) prog_37_method_1_code (0 : Nat) (Option.some (Jvm.ClassFile.FieldType.array (Jvm.ClassFile.FieldType.object "com/example/inklingua/inklingua/lexicon/SubwordType")))).before args0 about1 = true := code_word (m := ⟨6, 0⟩) (meth := k6m0) (c := k6c0) (by decide +kernel) rfl rfl rfl (by decide +kernel)
set_option maxRecDepth 65536 in
theorem w_c13 : (Jvm.Cond.code ({ cls := "java/lang/String", name := "equals", desc := "(Ljava/lang/Object;)Z" } : Jvm.MethodName) jdk_42_method_66_code (3 : Nat) (Option.some Jvm.ClassFile.FieldType.boolean)).before args0 about1 = true := code_word (m := ⟨9, 2⟩) (meth := k9m2) (c := k9c2) (by decide +kernel) rfl rfl rfl (by decide +kernel)
set_option maxRecDepth 65536 in
theorem w_c14 : (Jvm.Cond.code ({ cls := "java/lang/StringLatin1", name := "equals", desc := "([B[B)Z" } : Jvm.MethodName) jdk_43_method_13_code (3 : Nat) (Option.some Jvm.ClassFile.FieldType.boolean)).before args0 about1 = true := code_word (m := ⟨12, 1⟩) (meth := k12m1) (c := k12c1) (by decide +kernel) rfl rfl rfl (by decide +kernel)
set_option maxRecDepth 65536 in
theorem w_c15 : (Jvm.Cond.code ({ cls := "com/example/inklingua/inklingua/lexicon/SubwordType", name := "recordName", desc := "()Ljava/lang/String;" } : Jvm.MethodName) prog_37_method_4_code (1 : Nat) (Option.some (Jvm.ClassFile.FieldType.object "java/lang/String"))).before args0 about1 = true := code_word (m := ⟨6, 1⟩) (meth := k6m1) (c := k6c1) (by decide +kernel) rfl rfl rfl (by decide +kernel)
def codes1 : List Jvm.Cond := [Jvm.Cond.code x code maxLocals ret, Jvm.Cond.code ({ cls := "com/example/inklingua/inklingua/lexicon/SubwordTypeFromRecordNamePinLaw", name := "base", desc := "(I)[C" } : Jvm.MethodName) method_3_code (1 : Nat) (Option.some (Jvm.ClassFile.FieldType.array Jvm.ClassFile.FieldType.char)), Jvm.Cond.code ({ cls := "com/example/inklingua/inklingua/lexicon/SubwordTypeFromRecordNamePinLaw", name := "type", desc := "(I)Lcom/example/inklingua/inklingua/lexicon/SubwordType;" } : Jvm.MethodName) method_4_code (1 : Nat) (Option.some (Jvm.ClassFile.FieldType.object "com/example/inklingua/inklingua/lexicon/SubwordType")), Jvm.Cond.code ({ cls := "com/example/inklingua/inklingua/lexicon/SubwordTypeFromRecordNamePinLaw", name := "build", desc := "([CIIC)[C" } : Jvm.MethodName) method_6_code (5 : Nat) (Option.some (Jvm.ClassFile.FieldType.array Jvm.ClassFile.FieldType.char)), Jvm.Cond.code ({ cls := "com/example/inklingua/inklingua/lexicon/SubwordTypeFromRecordNamePinLaw", name := "pick", desc := "([CIIC)C" } : Jvm.MethodName) method_5_code (4 : Nat) (Option.some Jvm.ClassFile.FieldType.char), Jvm.Cond.code ({ cls := "java/lang/String", name := "<init>", desc := "([C)V" } : Jvm.MethodName) jdk_42_method_3_code (2 : Nat) (Option.none : Option Jvm.ClassFile.FieldType), Jvm.Cond.code ({ cls := "java/lang/String", name := "<init>", desc := "([CIILjava/lang/Void;)V" } : Jvm.MethodName) jdk_42_method_149_code (6 : Nat) (Option.none : Option Jvm.ClassFile.FieldType), Jvm.Cond.code ({ cls := "java/lang/Object", name := "<init>", desc := "()V" } : Jvm.MethodName) object_method_1_code (1 : Nat) (Option.none : Option Jvm.ClassFile.FieldType), Jvm.Cond.code ({ cls := "java/lang/StringUTF16", name := "compress", desc := "([CII)[B" } : Jvm.MethodName) jdk_52_method_16_code (6 : Nat) (Option.some (Jvm.ClassFile.FieldType.array Jvm.ClassFile.FieldType.byte)), Jvm.Cond.code ({ cls := "java/lang/StringUTF16", name := "compress", desc := "([CI[BII)I" } : Jvm.MethodName) jdk_52_method_21_code (7 : Nat) (Option.some Jvm.ClassFile.FieldType.int), Jvm.Cond.code ({ cls := "java/lang/StringUTF16", name := "coderFromArrayLen", desc := "([BI)B" } : Jvm.MethodName) jdk_52_method_15_code (2 : Nat) (Option.some Jvm.ClassFile.FieldType.byte), Jvm.Cond.code ({ cls := "com/example/inklingua/inklingua/lexicon/SubwordType", name := "fromRecordName", desc := "(Ljava/lang/String;)Lcom/example/inklingua/inklingua/lexicon/SubwordType;" } : Jvm.MethodName) prog_37_method_5_code (6 : Nat) (Option.some (Jvm.ClassFile.FieldType.object "com/example/inklingua/inklingua/lexicon/SubwordType")), Jvm.Cond.code ({ cls := "com/example/inklingua/inklingua/lexicon/SubwordType", name := "values", desc := "()[Lcom/example/inklingua/inklingua/lexicon/SubwordType;" } : Jvm.MethodName) prog_37_method_1_code (0 : Nat) (Option.some (Jvm.ClassFile.FieldType.array (Jvm.ClassFile.FieldType.object "com/example/inklingua/inklingua/lexicon/SubwordType"))), Jvm.Cond.code ({ cls := "java/lang/String", name := "equals", desc := "(Ljava/lang/Object;)Z" } : Jvm.MethodName) jdk_42_method_66_code (3 : Nat) (Option.some Jvm.ClassFile.FieldType.boolean), Jvm.Cond.code ({ cls := "java/lang/StringLatin1", name := "equals", desc := "([B[B)Z" } : Jvm.MethodName) jdk_43_method_13_code (3 : Nat) (Option.some Jvm.ClassFile.FieldType.boolean), Jvm.Cond.code ({ cls := "com/example/inklingua/inklingua/lexicon/SubwordType", name := "recordName", desc := "()Ljava/lang/String;" } : Jvm.MethodName) prog_37_method_4_code (1 : Nat) (Option.some (Jvm.ClassFile.FieldType.object "java/lang/String"))]
set_option maxRecDepth 65536 in
theorem codes_eq : words1.filter isCode = codes1 := rfl
theorem w_codes : ∀ c ∈ words1.filter isCode, c.before args0 about1 = true := by
  rw [codes_eq]
  intro c hc
  simp only [codes1, List.mem_cons, List.not_mem_nil, or_false] at hc
  rcases hc with rfl | rfl | rfl | rfl | rfl | rfl | rfl | rfl | rfl | rfl | rfl | rfl | rfl | rfl | rfl | rfl
  · exact w_c0
  · exact w_c1
  · exact w_c2
  · exact w_c3
  · exact w_c4
  · exact w_c5
  · exact w_c6
  · exact w_c7
  · exact w_c8
  · exact w_c9
  · exact w_c10
  · exact w_c11
  · exact w_c12
  · exact w_c13
  · exact w_c14
  · exact w_c15
set_option maxRecDepth 65536 in
theorem w_t1 : (words1.take 24).all (fun c => isCode c || c.before args0 about1) = true := by decide +kernel
set_option maxRecDepth 65536 in
theorem w_t2 : ((words1.drop 24).take 24).all (fun c => isCode c || c.before args0 about1) = true := by decide +kernel
set_option maxRecDepth 65536 in
theorem w_t3 : (((words1.drop 24).drop 24).take 24).all (fun c => isCode c || c.before args0 about1) = true := by decide +kernel
set_option maxRecDepth 65536 in
theorem w_t4 : (((words1.drop 24).drop 24).drop 24).all (fun c => isCode c || c.before args0 about1) = true := by decide +kernel
theorem w_tables : (allAtoms (Jvm.Cond.code x code maxLocals ret :: tables_1)).before args0 about1 = true := by
  rw [allAtoms_all]
  show words1.all (fun c => c.before args0 about1) = true
  refine all_split ?_ w_codes
  rw [← List.take_append_drop 24 words1, List.all_append, w_t1, ← List.take_append_drop 24 (words1.drop 24), List.all_append, w_t2, ← List.take_append_drop 24 ((words1.drop 24).drop 24), List.all_append, w_t3, w_t4]
  rfl
set_option maxRecDepth 65536 in
theorem w_rest : rest_1_c.before args0 about1 = true := by decide +kernel
set_option maxRecDepth 65536 in
theorem w_case : (Jvm.Cond.and given_1 narrow_1).before args0 about1 = true := by decide +kernel
set_option maxRecDepth 65536 in
theorem w_consts : constsHeld consts_1 about1 := Jvm.Lit.constsHeldB_iff.mp (by decide +kernel)
theorem w_applies : (headSpec (Jvm.Cond.code x code maxLocals ret :: tables_1) room_1).applies x e0.platform about1 = true :=
  (Spec.applies_iff w_frames).mpr ⟨w_running, w_runnable, w_alone, w_named, w_hears, w_ripe, w_room, w_tables⟩
theorem atStart : AtStart classFile x code maxLocals ret World_1 tables_1 room_1 Calls_1 rest_1 Pre_1 launch0 p0 e0 about1 theMethod args0 below0 :=
  ⟨lists_1, trivial, launch0.admits_env _ _ _, launch0.least_env, fairChoices_fair.cas, fairChoices_fair.clock, w_frames, w_args, w_heap, w_applies, ⟨w_consts, trivial⟩, w_rest, w_case⟩
end start1
theorem witness_1 : WitnessClaimed_1 := ⟨start1.p0, start1.e0, start1.about1, start1.theMethod, start1.args0, start1.below0, start1.atStart⟩
end Jvm.Pilot.@@N@@
