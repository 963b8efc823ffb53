import JvmDerived
import JvmDerived.Pilot.@@N@@Statement
import JvmDerived.Pilot.@@N@@Code
set_option linter.unusedVariables false
set_option linter.unusedSimpArgs false
namespace Jvm.OwnW
open Sem ClassFile Op Lib Jvm.Stand Jvm.Free Jvm.LawKit Jvm.RoadKit Bundle
def Dec (b : ByteArray) (pc : Nat) (i : Instr) (len nx : Nat) : Prop := decode b pc = .ok (i, len) ∧ pc + len = nx
def DecJ (b : ByteArray) (pc : Nat) (i : Instr) (o : Int) (nx tgt : Nat) : Prop := decode b pc = .ok (i, 3) ∧ pc + 3 = nx ∧ 0 ≤ (pc : Int) + o ∧ ((pc : Int) + o).toNat = tgt
theorem le {a b : Nat} (h : Nat.ble a b = true) : a ≤ b := Nat.le_of_ble_eq_true h
theorem ext_refl (h : Heap) : Ext h h := ⟨Nat.le_refl _, fun _ _ q => q⟩
theorem ext_trans {h h' h2 : Heap} (A : Ext h h') (B : Ext h' h2) : Ext h h2 := ⟨Nat.le_trans A.1 B.1, fun a c q => B.2 a c (A.2 a c q)⟩
theorem keep_ext {h h' : Heap} (E : Ext h h') (ws : List Addr) : Keep h h' ws := (Keep.refl h ws).ext E
theorem ext_keep {h h' : Heap} (K : Keep h h' []) : Ext h h' := ⟨K.1, fun a c q => K.2.1 a c q nin0⟩
def Here (p : Program) (l : Launch) (e : Env) (R : Room) (s : State) (m : MethodId) (args : Array Value) (below : List Frame) (meth : Method) (c : Code) (Z : State) (EL : List (String × Nat)) (nw : Bool)
    (F : List Addr) (w : Nat) (h : Heap) (k n : Nat) (T : State) (vm0 : Vm) (locs : List Loc) (k0 : Nat) : Prop :=
  Stand p l e R (s.setVm vm0) m args below meth c T locs k n ∧ T.heap = h ∧ Fr Z.heap.size locs ∧ s.Since vm0 k0 ∧ k0 ≤ h.size ∧ Z.Warmed39 vm0 ∧ CHr Z EL s.vm s.heap vm0 h ∧ (nw = true → s.WarmedH vm0) ∧ (∀ x ∈ F, x < h.size ∧ Safe Z EL vm0 h x) ∧ Ext Z.heap h ∧ (∀ x, w ≤ x → Safe Z EL vm0 h x) ∧ (nw = true → ∀ y, Bk Z EL vm0 h y → Bk Z EL s.vm s.heap y)
def wm (nwc : Bool) (w : Nat) (h : Heap) : Nat := match nwc with | true => w | false => h.size
def Ends (p : Program) (e : Env) (R : Room) (s : State) (below : List Frame) (Z : State) (EL : List (String × Nat)) (nw : Bool) (Q : Option Value → Heap → Prop) (t0 : State) : Prop :=
  ∃ t v L, Steps p.tables e below t0 t ∧ t.status = .running ∧ Ended t below (.returned v) ∧ Q v t.heap ∧ Fr Z.heap.size L ∧ CHr Z EL s.vm s.heap t.vm t.heap ∧ (nw = true → s.WarmedH t.vm ∧ ∀ y, Bk Z EL t.vm t.heap y → Bk Z EL s.vm s.heap y) ∧ Ext Z.heap t.heap ∧ ReturnedEndW s (.returned v) t L R.cells R.slots
def Goes (p : Program) (l : Launch) (e : Env) (R : Room) (s : State) (m : MethodId) (args : Array Value) (below : List Frame) (meth : Method) (c : Code) (Z : State) (EL : List (String × Nat)) (nw : Bool)
    (Q : Option Value → Heap → Prop) (F : List Addr) (w : Nat) (h : Heap) (k n : Nat) (f : JFrame) : Prop :=
  ∀ T vm0 locs k0, Here p l e R s m args below meth c Z EL nw F w h k n T vm0 locs k0 → Ends p e R s below Z EL nw Q (T.setTop f)
def Cxt (p : Program) (m : MethodId) (meth : Method) (c : Code) (Z : State) (a0 : Array Value) (EL : List (String × Nat)) (own mn : String) (bytes : ByteArray) (ml : Nat) (ret : Option FieldType) (Ws : List Jvm.Cond) : Prop :=
  p.tables.exec = Jvm.exec ∧ c.code = bytes ∧ c.maxLocals = ml ∧ Z.vm.findClass own = some m.cls ∧ meth.sig.returnType = ret ∧ meth.locks = false ∧ meth.name = mn ∧ (∀ d ∈ Ws, d.before a0 Z = true) ∧ EW Z a0 EL
/-- who pays a call -/
def Pays (p : Program) (l : Launch) (e : Env) (R : Room) (s : State) (args : Array Value) (below : List Frame) (Z : State) (EL : List (String × Nat)) (nw : Bool)
    (y : MethodName) (len W : Nat) (F : List Addr) (as' : Array Value) (h : Heap) (rc rs : Nat) (Qc : Option Value → Heap → Prop) : Prop :=
  ∀ vm0, Z.Warmed39 vm0 → CHv Z EL vm0 h → (∀ x ∈ F, x < h.size ∧ Safe Z EL vm0 h x) → Ext Z.heap h →
    BackS l R p e below (s.setVm vm0) args y len W (fun A a => a = as' ∧ A.U.heap = h ∧ A.cells + rc ≤ R.cells ∧ A.slots + rs ≤ R.slots)
      (fun A _ v B => ∃ L, Qc v B.U.heap ∧ Fr Z.heap.size L ∧ B.locs = A.locs ++ L ∧ B.cells = A.cells + rc ∧ B.slots = A.slots + rs ∧ CHr Z EL vm0 h B.U.vm B.U.heap ∧ (nw = true → (s.setVm vm0).WarmedH B.U.vm ∧ ∀ y, Bk Z EL B.U.vm B.U.heap y → Bk Z EL vm0 h y) ∧ Ext Z.heap B.U.heap)
/-- a method's contract -/
def Con (l : Launch) (Z : State) (EL : List (String × Nat)) (nw : Bool) (y : MethodName) (bytes : ByteArray) (maxL : Nat) (ret : Option FieldType) (rm : Room) (F : List Addr) (as' : Array Value) (h : Heap) (Q : Option Value → Heap → Prop) : Prop :=
  ∀ ws : List Jvm.Cond, MetFree l y (head1 (Jvm.Cond.code y bytes maxL ret :: ws) rm) (fun a U => a = as' ∧ Z.Warmed39 U.vm ∧ U.heap = h ∧ CHv Z EL U.vm h ∧ (∀ x ∈ F, x < h.size ∧ Safe Z EL U.vm h x) ∧ Ext Z.heap h) (fun _ _ _ _ _ => True)
    (fun _ U o U' => ∃ v L, o = .returned v ∧ Q v U'.heap ∧ Fr Z.heap.size L ∧ CHr Z EL U.vm U.heap U'.vm U'.heap ∧ (nw = true → U.WarmedH U'.vm ∧ ∀ y, Bk Z EL U'.vm U'.heap y → Bk Z EL U.vm U.heap y) ∧ Ext Z.heap U'.heap ∧ ReturnedEndW U o U' L rm.cells rm.slots)
section
variable {p : Program} {l : Launch} {e : Env} {R : Room} {s : State} {m : MethodId} {args : Array Value} {below : List Frame} {meth : Method} {c : Code} {Z : State} {a0 : Array Value} {EL : List (String × Nat)} {nw : Bool} {own mn : String} {bytes : ByteArray} {ml : Nat} {ret : Option FieldType} {Ws : List Jvm.Cond} {Q : Option Value → Heap → Prop} {F : List Addr} {w : Nat} {h : Heap} {k n : Nat} {pc nx : Nat} {Ls : Array Slot} {st : List Value}
theorem Cxt.own_at (C : Cxt p m meth c Z a0 EL own mn bytes ml ret Ws) {vm0 : Vm} (hZ : Z.Warmed39 vm0) : (s.setVm vm0).vm.findClass own = some m.cls := by
  show vm0.findClass own = _
  rw [hZ.alike.findClass]; exact C.2.2.2.1
theorem Cxt.wrd (C : Cxt p m meth c Z a0 EL own mn bytes ml ret Ws) {d : Jvm.Cond} (hd : d ∈ Ws) : d.before a0 Z = true := C.2.2.2.2.2.2.2.1 d hd
theorem Here.step {T T' : State} {vm0 : Vm} {locs locs' : List Loc} {k0 k' n' : Nat} {h' : Heap} {ws : List Addr} (H : Here p l e R s m args below meth c Z EL nw F w h k n T vm0 locs k0) (X' : Stand p l e R (s.setVm vm0) m args below meth c T' locs' k' n') (e' : T'.heap = h') (N' : Fr Z.heap.size locs') (K : Keep h h' ws) (hs : ∀ x ∈ ws, Safe Z EL vm0 h x ∧ Z.heap.size ≤ x) :
    Here p l e R s m args below meth c Z EL nw F w h' k' n' T' vm0 locs' k0 := by
  obtain ⟨X, eT, N, S, hk0, hZ, H1, hw, hF, O, hwm, hbk⟩ := H
  have hs1 : ∀ x ∈ ws, Safe Z EL vm0 h x := fun x hx => (hs x hx).1
  exact ⟨X', e', N', S, Nat.le_trans hk0 K.1, hZ, H1.trans (CHr.keep K hs1 H1.1), hw, fun x hx => ⟨Nat.lt_of_lt_of_le (hF x hx).1 K.1, (hF x hx).2.keep K hs1 H1.1⟩, (Old.keep (n0 := Z.heap.size) ⟨rfl, O⟩ K fun x hx => (hs x hx).2).2, fun x hx => (hwm x hx).keep K hs1 H1.1, fun q y hy => hbk q y ((H1.1.keepStep K hs1).2 y hy)⟩
theorem Goes.pure {f f' : JFrame} (stp : ∀ T vm0 locs, Stand p l e R (s.setVm vm0) m args below meth c T locs k n → ∀ t, Steps p.tables e below (T.setTop f') t → Steps p.tables e below (T.setTop f) t) (g : Goes p l e R s m args below meth c Z EL nw Q F w h k n f') : Goes p l e R s m args below meth c Z EL nw Q F w h k n f := by
  intro T vm0 locs k0 H
  obtain ⟨t, v, L, h1, r⟩ := g T vm0 locs k0 H
  exact ⟨t, v, L, stp T vm0 locs H.1 t h1, r⟩
theorem Goes.old {f : JFrame} (g : Ext Z.heap h → Goes p l e R s m args below meth c Z EL nw Q F w h k n f) : Goes p l e R s m args below meth c Z EL nw Q F w h k n f := fun T vm0 locs k0 H => g H.2.2.2.2.2.2.2.2.2.1 T vm0 locs k0 H
theorem Goes.more {f : JFrame} {k' n' : Nat} (hk : k ≤ k') (hn : n ≤ n') (g : Goes p l e R s m args below meth c Z EL nw Q F w h k' n' f) : Goes p l e R s m args below meth c Z EL nw Q F w h k n f := fun T vm0 locs k0 H => g T vm0 locs k0 ⟨H.1.more hk hn, H.2⟩
theorem Goes.less {f : JFrame} {F' : List Addr} (hF : ∀ x ∈ F', x ∈ F) (g : Goes p l e R s m args below meth c Z EL nw Q F' w h k n f) : Goes p l e R s m args below meth c Z EL nw Q F w h k n f := fun T vm0 locs k0 H => by
  obtain ⟨X, eT, N, S, hk0, hZ, H1, hw, hF1, O, hwm, hbk⟩ := H
  exact g T vm0 locs k0 ⟨X, eT, N, S, hk0, hZ, H1, hw, fun x hx => hF1 x (hF x hx), O, hwm, hbk⟩
theorem Goes.safeOf {f : JFrame} {a : Addr} (hs : ∀ vm0, Z.Warmed39 vm0 → CHr Z EL s.vm s.heap vm0 h → a < h.size ∧ Safe Z EL vm0 h a) (g : Goes p l e R s m args below meth c Z EL nw Q (a :: F) w h k n f) : Goes p l e R s m args below meth c Z EL nw Q F w h k n f := fun T vm0 locs k0 H => by
  obtain ⟨X, eT, N, S, hk0, hZ, H1, hw, hF1, O, hwm, hbk⟩ := H
  exact g T vm0 locs k0 ⟨X, eT, N, S, hk0, hZ, H1, hw, fun x hx => (List.mem_cons.mp hx).elim (fun q => by subst q; exact hs vm0 hZ H1) (hF1 x), O, hwm, hbk⟩
theorem Goes.cast {f f' : JFrame} (q : f = f') (g : Goes p l e R s m args below meth c Z EL nw Q F w h k n f') : Goes p l e R s m args below meth c Z EL nw Q F w h k n f := q ▸ g

/-- (char) x -/
def c16 (x : Int32) : Int32 := x.toUInt32.toUInt16.toUInt32.toInt32
/-- (byte) x -/
def b8 (x : Int32) : Int32 := x.toInt8.toInt32
theorem Cxt.aloadN (C : Cxt p m meth c Z a0 EL own mn bytes ml ret Ws) {i : Fin 4} {v : Value} (d : Dec bytes pc (.aload_n i) 1 nx) (hl : Ls[i.val]? = some (.val v)) (hv : v.isRef = true) (g : Goes p l e R s m args below meth c Z EL nw Q F w h k n (mkF m nx Ls (v :: st))) : Goes p l e R s m args below meth c Z EL nw Q F w h k n (mkF m pc Ls st) := by
  obtain ⟨d1, rfl⟩ := d
  exact Goes.pure (fun T vm0 locs X t ht => XS.aloadN X.here C.1 rfl (hb C.2.1 d1) hl hv ht) g
theorem Cxt.aload (C : Cxt p m meth c Z a0 EL own mn bytes ml ret Ws) {i : Nat} {v : Value} (d : Dec bytes pc (.aload i) 2 nx) (hl : Ls[i]? = some (.val v)) (hv : v.isRef = true) (g : Goes p l e R s m args below meth c Z EL nw Q F w h k n (mkF m nx Ls (v :: st))) : Goes p l e R s m args below meth c Z EL nw Q F w h k n (mkF m pc Ls st) := by
  obtain ⟨d1, rfl⟩ := d
  exact Goes.pure (fun T vm0 locs X t ht => XS.aload X.here C.1 rfl (hb C.2.1 d1) hl hv ht) g
theorem Cxt.iloadN (C : Cxt p m meth c Z a0 EL own mn bytes ml ret Ws) {i : Fin 4} {v : Int32} (d : Dec bytes pc (.iload_n i) 1 nx) (hl : Ls[i.val]? = some (.val (.int v))) (g : Goes p l e R s m args below meth c Z EL nw Q F w h k n (mkF m nx Ls (.int v :: st))) : Goes p l e R s m args below meth c Z EL nw Q F w h k n (mkF m pc Ls st) := by
  obtain ⟨d1, rfl⟩ := d
  exact Goes.pure (fun T vm0 locs X t ht => XS.iloadN X.here C.1 rfl (hb C.2.1 d1) hl ht) g
theorem Cxt.iload (C : Cxt p m meth c Z a0 EL own mn bytes ml ret Ws) {i : Nat} {v : Int32} (d : Dec bytes pc (.iload i) 2 nx) (hl : Ls[i]? = some (.val (.int v))) (g : Goes p l e R s m args below meth c Z EL nw Q F w h k n (mkF m nx Ls (.int v :: st))) : Goes p l e R s m args below meth c Z EL nw Q F w h k n (mkF m pc Ls st) := by
  obtain ⟨d1, rfl⟩ := d
  exact Goes.pure (fun T vm0 locs X t ht => XS.iload X.here C.1 rfl (hb C.2.1 d1) hl ht) g
theorem Cxt.lloadN (C : Cxt p m meth c Z a0 EL own mn bytes ml ret Ws) {i : Fin 4} {v : Int64} (d : Dec bytes pc (.lload_n i) 1 nx) (hl : Ls[i.val]? = some (.val (.long v))) (g : Goes p l e R s m args below meth c Z EL nw Q F w h k n (mkF m nx Ls (.long v :: st))) : Goes p l e R s m args below meth c Z EL nw Q F w h k n (mkF m pc Ls st) := by
  obtain ⟨d1, rfl⟩ := d
  exact Goes.pure (fun T vm0 locs X t ht => XT.lloadN X.here C.1 rfl (hb C.2.1 d1) hl ht) g
theorem Cxt.lload (C : Cxt p m meth c Z a0 EL own mn bytes ml ret Ws) {i : Nat} {v : Int64} (d : Dec bytes pc (.lload i) 2 nx) (hl : Ls[i]? = some (.val (.long v))) (g : Goes p l e R s m args below meth c Z EL nw Q F w h k n (mkF m nx Ls (.long v :: st))) : Goes p l e R s m args below meth c Z EL nw Q F w h k n (mkF m pc Ls st) := by
  obtain ⟨d1, rfl⟩ := d
  exact Goes.pure (fun T vm0 locs X t ht => XT.lload X.here C.1 rfl (hb C.2.1 d1) hl ht) g
theorem Cxt.iconst (C : Cxt p m meth c Z a0 EL own mn bytes ml ret Ws) {i : Int} (v : Int32) (d : Dec bytes pc (.iconst i) 1 nx) (hv : Int32.ofInt i = v) (g : Goes p l e R s m args below meth c Z EL nw Q F w h k n (mkF m nx Ls (.int v :: st))) : Goes p l e R s m args below meth c Z EL nw Q F w h k n (mkF m pc Ls st) := by
  subst hv; obtain ⟨d1, rfl⟩ := d
  exact Goes.pure (fun T vm0 locs X t ht => XS.iconst X.here C.1 rfl (hb C.2.1 d1) ht) g
theorem Cxt.bipush (C : Cxt p m meth c Z a0 EL own mn bytes ml ret Ws) {i : Int} (v : Int32) (d : Dec bytes pc (.bipush i) 2 nx) (hv : (Int8.ofInt i).toInt32 = v) (g : Goes p l e R s m args below meth c Z EL nw Q F w h k n (mkF m nx Ls (.int v :: st))) : Goes p l e R s m args below meth c Z EL nw Q F w h k n (mkF m pc Ls st) := by
  subst hv; obtain ⟨d1, rfl⟩ := d
  exact Goes.pure (fun T vm0 locs X t ht => XS.bipush X.here C.1 rfl (hb C.2.1 d1) ht) g
theorem Cxt.sipush (C : Cxt p m meth c Z a0 EL own mn bytes ml ret Ws) {i : Int} (v : Int32) (d : Dec bytes pc (.sipush i) 3 nx) (hv : (Int16.ofInt i).toInt32 = v) (g : Goes p l e R s m args below meth c Z EL nw Q F w h k n (mkF m nx Ls (.int v :: st))) : Goes p l e R s m args below meth c Z EL nw Q F w h k n (mkF m pc Ls st) := by
  subst hv; obtain ⟨d1, rfl⟩ := d
  exact Goes.pure (fun T vm0 locs X t ht => XS.sipush X.here C.1 rfl (hb C.2.1 d1) ht) g
theorem Cxt.aconst_null (C : Cxt p m meth c Z a0 EL own mn bytes ml ret Ws)  (d : Dec bytes pc (.aconst_null) 1 nx)  (g : Goes p l e R s m args below meth c Z EL nw Q F w h k n (mkF m nx Ls (.null :: st))) : Goes p l e R s m args below meth c Z EL nw Q F w h k n (mkF m pc Ls st) := by
  obtain ⟨d1, rfl⟩ := d
  exact Goes.pure (fun T vm0 locs X t ht => XS.aconstNull X.here C.1 rfl (hb C.2.1 d1) ht) g
theorem Cxt.lconst (C : Cxt p m meth c Z a0 EL own mn bytes ml ret Ws) {i : Fin 2} (d : Dec bytes pc (.lconst i) 1 nx)  (g : Goes p l e R s m args below meth c Z EL nw Q F w h k n (mkF m nx Ls (.long (Int64.ofNat i) :: st))) : Goes p l e R s m args below meth c Z EL nw Q F w h k n (mkF m pc Ls st) := by
  obtain ⟨d1, rfl⟩ := d
  exact Goes.pure (fun T vm0 locs X t ht => XT.lconst X.here C.1 rfl (hb C.2.1 d1) ht) g
theorem Cxt.iadd (C : Cxt p m meth c Z a0 EL own mn bytes ml ret Ws) {x y : Int32} (d : Dec bytes pc (.iadd) 1 nx)  (g : Goes p l e R s m args below meth c Z EL nw Q F w h k n (mkF m nx Ls (.int (x + y) :: st))) : Goes p l e R s m args below meth c Z EL nw Q F w h k n (mkF m pc Ls (.int y :: .int x :: st)) := by
  obtain ⟨d1, rfl⟩ := d
  exact Goes.pure (fun T vm0 locs X t ht => XS.iadd X.here C.1 rfl (hb C.2.1 d1) rfl ht) g
theorem Cxt.isub (C : Cxt p m meth c Z a0 EL own mn bytes ml ret Ws) {x y : Int32} (d : Dec bytes pc (.isub) 1 nx)  (g : Goes p l e R s m args below meth c Z EL nw Q F w h k n (mkF m nx Ls (.int (x - y) :: st))) : Goes p l e R s m args below meth c Z EL nw Q F w h k n (mkF m pc Ls (.int y :: .int x :: st)) := by
  obtain ⟨d1, rfl⟩ := d
  exact Goes.pure (fun T vm0 locs X t ht => XS.isub X.here C.1 rfl (hb C.2.1 d1) rfl ht) g
theorem Cxt.imul (C : Cxt p m meth c Z a0 EL own mn bytes ml ret Ws) {x y : Int32} (d : Dec bytes pc (.imul) 1 nx)  (g : Goes p l e R s m args below meth c Z EL nw Q F w h k n (mkF m nx Ls (.int (x * y) :: st))) : Goes p l e R s m args below meth c Z EL nw Q F w h k n (mkF m pc Ls (.int y :: .int x :: st)) := by
  obtain ⟨d1, rfl⟩ := d
  exact Goes.pure (fun T vm0 locs X t ht => XS.imul X.here C.1 rfl (hb C.2.1 d1) rfl ht) g
theorem Cxt.iand (C : Cxt p m meth c Z a0 EL own mn bytes ml ret Ws) {x y : Int32} (d : Dec bytes pc (.iand) 1 nx)  (g : Goes p l e R s m args below meth c Z EL nw Q F w h k n (mkF m nx Ls (.int (x &&& y) :: st))) : Goes p l e R s m args below meth c Z EL nw Q F w h k n (mkF m pc Ls (.int y :: .int x :: st)) := by
  obtain ⟨d1, rfl⟩ := d
  exact Goes.pure (fun T vm0 locs X t ht => XS.iand X.here C.1 rfl (hb C.2.1 d1) rfl ht) g
theorem Cxt.ior (C : Cxt p m meth c Z a0 EL own mn bytes ml ret Ws) {x y : Int32} (d : Dec bytes pc (.ior) 1 nx)  (g : Goes p l e R s m args below meth c Z EL nw Q F w h k n (mkF m nx Ls (.int (x ||| y) :: st))) : Goes p l e R s m args below meth c Z EL nw Q F w h k n (mkF m pc Ls (.int y :: .int x :: st)) := by
  obtain ⟨d1, rfl⟩ := d
  exact Goes.pure (fun T vm0 locs X t ht => XT.ior X.here C.1 rfl (hb C.2.1 d1) rfl ht) g
theorem Cxt.ixor (C : Cxt p m meth c Z a0 EL own mn bytes ml ret Ws) {x y : Int32} (d : Dec bytes pc (.ixor) 1 nx)  (g : Goes p l e R s m args below meth c Z EL nw Q F w h k n (mkF m nx Ls (.int (x ^^^ y) :: st))) : Goes p l e R s m args below meth c Z EL nw Q F w h k n (mkF m pc Ls (.int y :: .int x :: st)) := by
  obtain ⟨d1, rfl⟩ := d
  exact Goes.pure (fun T vm0 locs X t ht => XT.ixor X.here C.1 rfl (hb C.2.1 d1) rfl ht) g
theorem Cxt.ishl (C : Cxt p m meth c Z a0 EL own mn bytes ml ret Ws) {x y : Int32} (d : Dec bytes pc (.ishl) 1 nx)  (g : Goes p l e R s m args below meth c Z EL nw Q F w h k n (mkF m nx Ls (.int (x <<< (y &&& 31)) :: st))) : Goes p l e R s m args below meth c Z EL nw Q F w h k n (mkF m pc Ls (.int y :: .int x :: st)) := by
  obtain ⟨d1, rfl⟩ := d
  exact Goes.pure (fun T vm0 locs X t ht => XT.ishl X.here C.1 rfl (hb C.2.1 d1) rfl ht) g
theorem Cxt.ishr (C : Cxt p m meth c Z a0 EL own mn bytes ml ret Ws) {x y : Int32} (d : Dec bytes pc (.ishr) 1 nx)  (g : Goes p l e R s m args below meth c Z EL nw Q F w h k n (mkF m nx Ls (.int (x >>> (y &&& 31)) :: st))) : Goes p l e R s m args below meth c Z EL nw Q F w h k n (mkF m pc Ls (.int y :: .int x :: st)) := by
  obtain ⟨d1, rfl⟩ := d
  exact Goes.pure (fun T vm0 locs X t ht => XT.ishr X.here C.1 rfl (hb C.2.1 d1) rfl ht) g
theorem Cxt.iushr (C : Cxt p m meth c Z a0 EL own mn bytes ml ret Ws) {x y : Int32} (d : Dec bytes pc (.iushr) 1 nx)  (g : Goes p l e R s m args below meth c Z EL nw Q F w h k n (mkF m nx Ls (.int (XT.ushr x y) :: st))) : Goes p l e R s m args below meth c Z EL nw Q F w h k n (mkF m pc Ls (.int y :: .int x :: st)) := by
  obtain ⟨d1, rfl⟩ := d
  exact Goes.pure (fun T vm0 locs X t ht => XT.iushr X.here C.1 rfl (hb C.2.1 d1) rfl ht) g
theorem Cxt.idiv (C : Cxt p m meth c Z a0 EL own mn bytes ml ret Ws) {x y : Int32} (d : Dec bytes pc (.idiv) 1 nx) (hy : y ≠ 0) (g : Goes p l e R s m args below meth c Z EL nw Q F w h k n (mkF m nx Ls (.int (x / y) :: st))) : Goes p l e R s m args below meth c Z EL nw Q F w h k n (mkF m pc Ls (.int y :: .int x :: st)) := by
  obtain ⟨d1, rfl⟩ := d
  exact Goes.pure (fun T vm0 locs X t ht => XS.idiv X.here C.1 rfl (hb C.2.1 d1) rfl hy ht) g
theorem Cxt.irem (C : Cxt p m meth c Z a0 EL own mn bytes ml ret Ws) {x y : Int32} (d : Dec bytes pc (.irem) 1 nx) (hy : y ≠ 0) (g : Goes p l e R s m args below meth c Z EL nw Q F w h k n (mkF m nx Ls (.int (x % y) :: st))) : Goes p l e R s m args below meth c Z EL nw Q F w h k n (mkF m pc Ls (.int y :: .int x :: st)) := by
  obtain ⟨d1, rfl⟩ := d
  exact Goes.pure (fun T vm0 locs X t ht => iremM X C.1 rfl (hb C.2.1 d1) rfl hy ht) g
theorem Cxt.ineg (C : Cxt p m meth c Z a0 EL own mn bytes ml ret Ws) {x : Int32} (d : Dec bytes pc (.ineg) 1 nx)  (g : Goes p l e R s m args below meth c Z EL nw Q F w h k n (mkF m nx Ls (.int (-x) :: st))) : Goes p l e R s m args below meth c Z EL nw Q F w h k n (mkF m pc Ls (.int x :: st)) := by
  obtain ⟨d1, rfl⟩ := d
  exact Goes.pure (fun T vm0 locs X t ht => XS.ineg X.here C.1 rfl (hb C.2.1 d1) rfl ht) g
theorem Cxt.ladd (C : Cxt p m meth c Z a0 EL own mn bytes ml ret Ws) {x y : Int64} (d : Dec bytes pc (.ladd) 1 nx)  (g : Goes p l e R s m args below meth c Z EL nw Q F w h k n (mkF m nx Ls (.long (x + y) :: st))) : Goes p l e R s m args below meth c Z EL nw Q F w h k n (mkF m pc Ls (.long y :: .long x :: st)) := by
  obtain ⟨d1, rfl⟩ := d
  exact Goes.pure (fun T vm0 locs X t ht => XT.ladd X.here C.1 rfl (hb C.2.1 d1) rfl ht) g
theorem Cxt.lsub (C : Cxt p m meth c Z a0 EL own mn bytes ml ret Ws) {x y : Int64} (d : Dec bytes pc (.lsub) 1 nx)  (g : Goes p l e R s m args below meth c Z EL nw Q F w h k n (mkF m nx Ls (.long (x - y) :: st))) : Goes p l e R s m args below meth c Z EL nw Q F w h k n (mkF m pc Ls (.long y :: .long x :: st)) := by
  obtain ⟨d1, rfl⟩ := d
  exact Goes.pure (fun T vm0 locs X t ht => XT.lsub X.here C.1 rfl (hb C.2.1 d1) rfl ht) g
theorem Cxt.lmul (C : Cxt p m meth c Z a0 EL own mn bytes ml ret Ws) {x y : Int64} (d : Dec bytes pc (.lmul) 1 nx)  (g : Goes p l e R s m args below meth c Z EL nw Q F w h k n (mkF m nx Ls (.long (x * y) :: st))) : Goes p l e R s m args below meth c Z EL nw Q F w h k n (mkF m pc Ls (.long y :: .long x :: st)) := by
  obtain ⟨d1, rfl⟩ := d
  exact Goes.pure (fun T vm0 locs X t ht => XT.lmul X.here C.1 rfl (hb C.2.1 d1) rfl ht) g
theorem Cxt.land (C : Cxt p m meth c Z a0 EL own mn bytes ml ret Ws) {x y : Int64} (d : Dec bytes pc (.land) 1 nx)  (g : Goes p l e R s m args below meth c Z EL nw Q F w h k n (mkF m nx Ls (.long (x &&& y) :: st))) : Goes p l e R s m args below meth c Z EL nw Q F w h k n (mkF m pc Ls (.long y :: .long x :: st)) := by
  obtain ⟨d1, rfl⟩ := d
  exact Goes.pure (fun T vm0 locs X t ht => XT.land X.here C.1 rfl (hb C.2.1 d1) rfl ht) g
theorem Cxt.lor (C : Cxt p m meth c Z a0 EL own mn bytes ml ret Ws) {x y : Int64} (d : Dec bytes pc (.lor) 1 nx)  (g : Goes p l e R s m args below meth c Z EL nw Q F w h k n (mkF m nx Ls (.long (x ||| y) :: st))) : Goes p l e R s m args below meth c Z EL nw Q F w h k n (mkF m pc Ls (.long y :: .long x :: st)) := by
  obtain ⟨d1, rfl⟩ := d
  exact Goes.pure (fun T vm0 locs X t ht => XT.lor X.here C.1 rfl (hb C.2.1 d1) rfl ht) g
theorem Cxt.lxor (C : Cxt p m meth c Z a0 EL own mn bytes ml ret Ws) {x y : Int64} (d : Dec bytes pc (.lxor) 1 nx)  (g : Goes p l e R s m args below meth c Z EL nw Q F w h k n (mkF m nx Ls (.long (x ^^^ y) :: st))) : Goes p l e R s m args below meth c Z EL nw Q F w h k n (mkF m pc Ls (.long y :: .long x :: st)) := by
  obtain ⟨d1, rfl⟩ := d
  exact Goes.pure (fun T vm0 locs X t ht => XT.lxor X.here C.1 rfl (hb C.2.1 d1) rfl ht) g
theorem Cxt.lushr (C : Cxt p m meth c Z a0 EL own mn bytes ml ret Ws) {x : Int64} {y : Int32} (d : Dec bytes pc (.lushr) 1 nx)  (g : Goes p l e R s m args below meth c Z EL nw Q F w h k n (mkF m nx Ls (.long (XT.ushrL x y) :: st))) : Goes p l e R s m args below meth c Z EL nw Q F w h k n (mkF m pc Ls (.int y :: .long x :: st)) := by
  obtain ⟨d1, rfl⟩ := d
  exact Goes.pure (fun T vm0 locs X t ht => XT.lushr X.here C.1 rfl (hb C.2.1 d1) rfl ht) g
theorem Cxt.l2i (C : Cxt p m meth c Z a0 EL own mn bytes ml ret Ws) {x : Int64} (d : Dec bytes pc (.l2i) 1 nx)  (g : Goes p l e R s m args below meth c Z EL nw Q F w h k n (mkF m nx Ls (.int x.toInt32 :: st))) : Goes p l e R s m args below meth c Z EL nw Q F w h k n (mkF m pc Ls (.long x :: st)) := by
  obtain ⟨d1, rfl⟩ := d
  exact Goes.pure (fun T vm0 locs X t ht => XT.l2i X.here C.1 rfl (hb C.2.1 d1) rfl ht) g
theorem Cxt.i2l (C : Cxt p m meth c Z a0 EL own mn bytes ml ret Ws) {x : Int32} (d : Dec bytes pc (.i2l) 1 nx)  (g : Goes p l e R s m args below meth c Z EL nw Q F w h k n (mkF m nx Ls (.long x.toInt64 :: st))) : Goes p l e R s m args below meth c Z EL nw Q F w h k n (mkF m pc Ls (.int x :: st)) := by
  obtain ⟨d1, rfl⟩ := d
  exact Goes.pure (fun T vm0 locs X t ht => XT.i2l X.here C.1 rfl (hb C.2.1 d1) rfl ht) g
theorem Cxt.i2c (C : Cxt p m meth c Z a0 EL own mn bytes ml ret Ws) {x : Int32} (d : Dec bytes pc (.i2c) 1 nx)  (g : Goes p l e R s m args below meth c Z EL nw Q F w h k n (mkF m nx Ls (.int (c16 x) :: st))) : Goes p l e R s m args below meth c Z EL nw Q F w h k n (mkF m pc Ls (.int x :: st)) := by
  obtain ⟨d1, rfl⟩ := d
  exact Goes.pure (fun T vm0 locs X t ht => XT.i2c X.here C.1 rfl (hb C.2.1 d1) rfl ht) g
theorem Cxt.i2b (C : Cxt p m meth c Z a0 EL own mn bytes ml ret Ws) {x : Int32} (d : Dec bytes pc (.i2b) 1 nx)  (g : Goes p l e R s m args below meth c Z EL nw Q F w h k n (mkF m nx Ls (.int (b8 x) :: st))) : Goes p l e R s m args below meth c Z EL nw Q F w h k n (mkF m pc Ls (.int x :: st)) := by
  obtain ⟨d1, rfl⟩ := d
  exact Goes.pure (fun T vm0 locs X t ht => XT.i2b X.here C.1 rfl (hb C.2.1 d1) rfl ht) g
theorem Cxt.lcmp (C : Cxt p m meth c Z a0 EL own mn bytes ml ret Ws) {x y : Int64} (d : Dec bytes pc (.lcmp) 1 nx)  (g : Goes p l e R s m args below meth c Z EL nw Q F w h k n (mkF m nx Ls (.int (XT.cmpL x y) :: st))) : Goes p l e R s m args below meth c Z EL nw Q F w h k n (mkF m pc Ls (.long y :: .long x :: st)) := by
  obtain ⟨d1, rfl⟩ := d
  exact Goes.pure (fun T vm0 locs X t ht => XT.lcmp X.here C.1 rfl (hb C.2.1 d1) rfl ht) g
theorem Cxt.dup (C : Cxt p m meth c Z a0 EL own mn bytes ml ret Ws) {x : Value} (d : Dec bytes pc (.dup) 1 nx) (hc : x.category = 1) (g : Goes p l e R s m args below meth c Z EL nw Q F w h k n (mkF m nx Ls (x :: x :: st))) : Goes p l e R s m args below meth c Z EL nw Q F w h k n (mkF m pc Ls (x :: st)) := by
  obtain ⟨d1, rfl⟩ := d
  exact Goes.pure (fun T vm0 locs X t ht => XS.dup X.here C.1 rfl (hb C.2.1 d1) rfl hc ht) g
theorem Cxt.pop (C : Cxt p m meth c Z a0 EL own mn bytes ml ret Ws) {x : Value} (d : Dec bytes pc (.pop) 1 nx) (hc : x.category = 1) (g : Goes p l e R s m args below meth c Z EL nw Q F w h k n (mkF m nx Ls st)) : Goes p l e R s m args below meth c Z EL nw Q F w h k n (mkF m pc Ls (x :: st)) := by
  obtain ⟨d1, rfl⟩ := d
  exact Goes.pure (fun T vm0 locs X t ht => XT.pop X.here C.1 rfl (hb C.2.1 d1) rfl hc ht) g
theorem Cxt.dup_x1 (C : Cxt p m meth c Z a0 EL own mn bytes ml ret Ws) {x y : Value} (d : Dec bytes pc (.dup_x1) 1 nx) (hc : x.category = 1) (hc' : y.category = 1) (g : Goes p l e R s m args below meth c Z EL nw Q F w h k n (mkF m nx Ls (x :: y :: x :: st))) : Goes p l e R s m args below meth c Z EL nw Q F w h k n (mkF m pc Ls (x :: y :: st)) := by
  obtain ⟨d1, rfl⟩ := d
  exact Goes.pure (fun T vm0 locs X t ht => XT.dupX1 X.here C.1 rfl (hb C.2.1 d1) rfl hc hc' ht) g
theorem Cxt.dup2 (C : Cxt p m meth c Z a0 EL own mn bytes ml ret Ws) {x y : Value} (d : Dec bytes pc (.dup2) 1 nx) (hc : x.category = 1) (hc' : y.category = 1) (g : Goes p l e R s m args below meth c Z EL nw Q F w h k n (mkF m nx Ls (x :: y :: x :: y :: st))) : Goes p l e R s m args below meth c Z EL nw Q F w h k n (mkF m pc Ls (x :: y :: st)) := by
  obtain ⟨d1, rfl⟩ := d
  exact Goes.pure (fun T vm0 locs X t ht => XT.dup2 X.here C.1 rfl (hb C.2.1 d1) rfl hc hc' ht) g
theorem Cxt.lstoreN (C : Cxt p m meth c Z a0 EL own mn bytes ml ret Ws) {i : Fin 4} {x : Int64} {l' : Array Slot} (d : Dec bytes pc (.lstore_n i) 1 nx) (hl : storeLocals Ls i.val (.long x) = some l') (g : Goes p l e R s m args below meth c Z EL nw Q F w h k n (mkF m nx l' st)) : Goes p l e R s m args below meth c Z EL nw Q F w h k n (mkF m pc Ls (.long x :: st)) := by
  obtain ⟨d1, rfl⟩ := d
  exact Goes.pure (fun T vm0 locs X t ht => XT.lstoreN X.here C.1 rfl (hb C.2.1 d1) rfl hl ht) g
theorem Cxt.lstore (C : Cxt p m meth c Z a0 EL own mn bytes ml ret Ws) {i : Nat} {x : Int64} {l' : Array Slot} (d : Dec bytes pc (.lstore i) 2 nx) (hl : storeLocals Ls i (.long x) = some l') (g : Goes p l e R s m args below meth c Z EL nw Q F w h k n (mkF m nx l' st)) : Goes p l e R s m args below meth c Z EL nw Q F w h k n (mkF m pc Ls (.long x :: st)) := by
  obtain ⟨d1, rfl⟩ := d
  exact Goes.pure (fun T vm0 locs X t ht => XT.lstore X.here C.1 rfl (hb C.2.1 d1) rfl hl ht) g
def okS : Slot → Bool | .unset => true | .val w => w.category == 1 | .second => false
theorem store_ok {L : List Slot} {i : Nat} {o : Slot} {v : Value} (hold : L[i]? = some o) (ho : okS o = true) (hv : v.category = 1) : storeLocals ⟨L⟩ i v = some ⟨L.set i (.val v)⟩ := by
  have h1 : (⟨L⟩ : Array Slot)[i]? = some o := by simpa using hold
  have h2 : o = .unset ∨ ∃ w, o = .val w ∧ w.category = 1 := by
    cases o with
    | unset => exact Or.inl rfl
    | val w => exact Or.inr ⟨w, rfl, by simpa [okS] using ho⟩
    | second => simp [okS] at ho
  rw [XS.store1 h1 h2 hv]
  simp
theorem Cxt.istoreN (C : Cxt p m meth c Z a0 EL own mn bytes ml ret Ws) {L : List Slot} {o : Slot} {i : Fin 4} {x : Int32} (d : Dec bytes pc (.istore_n i) 1 nx) (hold : L[i.val]? = some o) (ho : okS o = true) (g : Goes p l e R s m args below meth c Z EL nw Q F w h k n (mkF m nx ⟨L.set i.val (.val (.int x))⟩ st)) : Goes p l e R s m args below meth c Z EL nw Q F w h k n (mkF m pc ⟨L⟩ (.int x :: st)) := by
  obtain ⟨d1, rfl⟩ := d
  exact Goes.pure (fun T vm0 locs X t ht => XS.istoreN X.here C.1 rfl (hb C.2.1 d1) rfl (store_ok hold ho rfl) ht) g
theorem Cxt.istore (C : Cxt p m meth c Z a0 EL own mn bytes ml ret Ws) {L : List Slot} {o : Slot} {i : Nat} {x : Int32} (d : Dec bytes pc (.istore i) 2 nx) (hold : L[i]? = some o) (ho : okS o = true) (g : Goes p l e R s m args below meth c Z EL nw Q F w h k n (mkF m nx ⟨L.set i (.val (.int x))⟩ st)) : Goes p l e R s m args below meth c Z EL nw Q F w h k n (mkF m pc ⟨L⟩ (.int x :: st)) := by
  obtain ⟨d1, rfl⟩ := d
  exact Goes.pure (fun T vm0 locs X t ht => XS.istore X.here C.1 rfl (hb C.2.1 d1) rfl (store_ok hold ho rfl) ht) g
theorem ref_cat {v : Value} (h : v.isRef = true) : v.category = 1 := by cases v <;> simp [Value.isRef] at h <;> rfl
theorem Cxt.astoreN (C : Cxt p m meth c Z a0 EL own mn bytes ml ret Ws) {L : List Slot} {o : Slot} {i : Fin 4} {x : Value} (d : Dec bytes pc (.astore_n i) 1 nx) (hv : x.isRef = true) (hold : L[i.val]? = some o) (ho : okS o = true) (g : Goes p l e R s m args below meth c Z EL nw Q F w h k n (mkF m nx ⟨L.set i.val (.val x)⟩ st)) : Goes p l e R s m args below meth c Z EL nw Q F w h k n (mkF m pc ⟨L⟩ (x :: st)) := by
  obtain ⟨d1, rfl⟩ := d
  exact Goes.pure (fun T vm0 locs X t ht => XS.astoreN X.here C.1 rfl (hb C.2.1 d1) rfl hv (store_ok hold ho (ref_cat hv)) ht) g
theorem Cxt.astore (C : Cxt p m meth c Z a0 EL own mn bytes ml ret Ws) {L : List Slot} {o : Slot} {i : Nat} {x : Value} (d : Dec bytes pc (.astore i) 2 nx) (hv : x.isRef = true) (hold : L[i]? = some o) (ho : okS o = true) (g : Goes p l e R s m args below meth c Z EL nw Q F w h k n (mkF m nx ⟨L.set i (.val x)⟩ st)) : Goes p l e R s m args below meth c Z EL nw Q F w h k n (mkF m pc ⟨L⟩ (x :: st)) := by
  obtain ⟨d1, rfl⟩ := d
  exact Goes.pure (fun T vm0 locs X t ht => XS.astore X.here C.1 rfl (hb C.2.1 d1) rfl hv (store_ok hold ho (ref_cat hv)) ht) g
theorem Cxt.iinc (C : Cxt p m meth c Z a0 EL own mn bytes ml ret Ws) {L : List Slot} {i : Nat} {cst : Int} {x : Int32} (y : Int32) (d : Dec bytes pc (.iinc i cst) 3 nx) (hy : Int32.ofInt cst = y) (hl : L[i]? = some (.val (.int x))) (g : Goes p l e R s m args below meth c Z EL nw Q F w h k n (mkF m nx ⟨L.set i (.val (.int (x + y)))⟩ st)) : Goes p l e R s m args below meth c Z EL nw Q F w h k n (mkF m pc ⟨L⟩ st) := by
  subst hy; obtain ⟨d1, rfl⟩ := d
  exact Goes.pure (fun T vm0 locs X t ht => XS.iinc X.here C.1 rfl (hb C.2.1 d1) (by simpa using hl) (store_ok hl rfl rfl) ht) g
theorem Cxt.goto (C : Cxt p m meth c Z a0 EL own mn bytes ml ret Ws) {o : Int} {tgt : Nat} (d : DecJ bytes pc (.goto o) o nx tgt) (g : Goes p l e R s m args below meth c Z EL nw Q F w h k n (mkF m tgt Ls st)) : Goes p l e R s m args below meth c Z EL nw Q F w h k n (mkF m pc Ls st) :=
  Goes.pure (fun T vm0 locs X t ht => XS.goto X.here C.1 rfl rfl (hb C.2.1 d.1) d.2.2.1 d.2.2.2 ht) g
theorem Cxt.if_eq (C : Cxt p m meth c Z a0 EL own mn bytes ml ret Ws) {o : Int} {tgt : Nat} {x : Int32} (d : DecJ bytes pc (.ifCond .eq o) o nx tgt) (g1 : x = 0 → Goes p l e R s m args below meth c Z EL nw Q F w h k n (mkF m tgt Ls st)) (g2 : ¬ x = 0 → Goes p l e R s m args below meth c Z EL nw Q F w h k n (mkF m nx Ls st)) : Goes p l e R s m args below meth c Z EL nw Q F w h k n (mkF m pc Ls (.int x :: st)) := by
  obtain ⟨d1, rfl, d3, d4⟩ := d
  by_cases q : x = 0
  · exact Goes.pure (fun T vm0 locs X t ht => XS.ifYes X.here C.1 rfl rfl (hb C.2.1 d1) rfl (XT.i0_eq_t q) d3 d4 ht) (g1 q)
  · exact Goes.pure (fun T vm0 locs X t ht => XS.ifNo X.here C.1 rfl (hb C.2.1 d1) rfl (XT.i0_eq_f q) ht) (g2 q)
theorem Cxt.if_ne (C : Cxt p m meth c Z a0 EL own mn bytes ml ret Ws) {o : Int} {tgt : Nat} {x : Int32} (d : DecJ bytes pc (.ifCond .ne o) o nx tgt) (g1 : ¬ x = 0 → Goes p l e R s m args below meth c Z EL nw Q F w h k n (mkF m tgt Ls st)) (g2 : x = 0 → Goes p l e R s m args below meth c Z EL nw Q F w h k n (mkF m nx Ls st)) : Goes p l e R s m args below meth c Z EL nw Q F w h k n (mkF m pc Ls (.int x :: st)) := by
  obtain ⟨d1, rfl, d3, d4⟩ := d
  by_cases q : x = 0
  · exact Goes.pure (fun T vm0 locs X t ht => XS.ifNo X.here C.1 rfl (hb C.2.1 d1) rfl (XT.i0_ne_f q) ht) (g2 q)
  · exact Goes.pure (fun T vm0 locs X t ht => XS.ifYes X.here C.1 rfl rfl (hb C.2.1 d1) rfl (XT.i0_ne_t q) d3 d4 ht) (g1 q)
theorem Cxt.if_lt (C : Cxt p m meth c Z a0 EL own mn bytes ml ret Ws) {o : Int} {tgt : Nat} {x : Int32} (d : DecJ bytes pc (.ifCond .lt o) o nx tgt) (g1 : x < 0 → Goes p l e R s m args below meth c Z EL nw Q F w h k n (mkF m tgt Ls st)) (g2 : ¬ x < 0 → Goes p l e R s m args below meth c Z EL nw Q F w h k n (mkF m nx Ls st)) : Goes p l e R s m args below meth c Z EL nw Q F w h k n (mkF m pc Ls (.int x :: st)) := by
  obtain ⟨d1, rfl, d3, d4⟩ := d
  by_cases q : x < 0
  · exact Goes.pure (fun T vm0 locs X t ht => XS.ifYes X.here C.1 rfl rfl (hb C.2.1 d1) rfl (XT.i0_lt_t q) d3 d4 ht) (g1 q)
  · exact Goes.pure (fun T vm0 locs X t ht => XS.ifNo X.here C.1 rfl (hb C.2.1 d1) rfl (XT.i0_lt_f q) ht) (g2 q)
theorem Cxt.if_ge (C : Cxt p m meth c Z a0 EL own mn bytes ml ret Ws) {o : Int} {tgt : Nat} {x : Int32} (d : DecJ bytes pc (.ifCond .ge o) o nx tgt) (g1 : ¬ x < 0 → Goes p l e R s m args below meth c Z EL nw Q F w h k n (mkF m tgt Ls st)) (g2 : x < 0 → Goes p l e R s m args below meth c Z EL nw Q F w h k n (mkF m nx Ls st)) : Goes p l e R s m args below meth c Z EL nw Q F w h k n (mkF m pc Ls (.int x :: st)) := by
  obtain ⟨d1, rfl, d3, d4⟩ := d
  by_cases q : x < 0
  · exact Goes.pure (fun T vm0 locs X t ht => XS.ifNo X.here C.1 rfl (hb C.2.1 d1) rfl (XT.i0_ge_f q) ht) (g2 q)
  · exact Goes.pure (fun T vm0 locs X t ht => XS.ifYes X.here C.1 rfl rfl (hb C.2.1 d1) rfl (XT.i0_ge_t q) d3 d4 ht) (g1 q)
theorem Cxt.if_gt (C : Cxt p m meth c Z a0 EL own mn bytes ml ret Ws) {o : Int} {tgt : Nat} {x : Int32} (d : DecJ bytes pc (.ifCond .gt o) o nx tgt) (g1 : 0 < x → Goes p l e R s m args below meth c Z EL nw Q F w h k n (mkF m tgt Ls st)) (g2 : ¬ 0 < x → Goes p l e R s m args below meth c Z EL nw Q F w h k n (mkF m nx Ls st)) : Goes p l e R s m args below meth c Z EL nw Q F w h k n (mkF m pc Ls (.int x :: st)) := by
  obtain ⟨d1, rfl, d3, d4⟩ := d
  by_cases q : 0 < x
  · exact Goes.pure (fun T vm0 locs X t ht => XS.ifYes X.here C.1 rfl rfl (hb C.2.1 d1) rfl (XT.i0_gt_t q) d3 d4 ht) (g1 q)
  · exact Goes.pure (fun T vm0 locs X t ht => XS.ifNo X.here C.1 rfl (hb C.2.1 d1) rfl (XT.i0_gt_f q) ht) (g2 q)
theorem Cxt.if_le (C : Cxt p m meth c Z a0 EL own mn bytes ml ret Ws) {o : Int} {tgt : Nat} {x : Int32} (d : DecJ bytes pc (.ifCond .le o) o nx tgt) (g1 : ¬ 0 < x → Goes p l e R s m args below meth c Z EL nw Q F w h k n (mkF m tgt Ls st)) (g2 : 0 < x → Goes p l e R s m args below meth c Z EL nw Q F w h k n (mkF m nx Ls st)) : Goes p l e R s m args below meth c Z EL nw Q F w h k n (mkF m pc Ls (.int x :: st)) := by
  obtain ⟨d1, rfl, d3, d4⟩ := d
  by_cases q : 0 < x
  · exact Goes.pure (fun T vm0 locs X t ht => XS.ifNo X.here C.1 rfl (hb C.2.1 d1) rfl (XT.i0_le_f q) ht) (g2 q)
  · exact Goes.pure (fun T vm0 locs X t ht => XS.ifYes X.here C.1 rfl rfl (hb C.2.1 d1) rfl (XT.i0_le_t q) d3 d4 ht) (g1 q)
theorem Cxt.icmp_eq (C : Cxt p m meth c Z a0 EL own mn bytes ml ret Ws) {o : Int} {tgt : Nat} {x y : Int32} (d : DecJ bytes pc (.if_icmp .eq o) o nx tgt) (g1 : x = y → Goes p l e R s m args below meth c Z EL nw Q F w h k n (mkF m tgt Ls st)) (g2 : ¬ x = y → Goes p l e R s m args below meth c Z EL nw Q F w h k n (mkF m nx Ls st)) : Goes p l e R s m args below meth c Z EL nw Q F w h k n (mkF m pc Ls (.int y :: .int x :: st)) := by
  obtain ⟨d1, rfl, d3, d4⟩ := d
  by_cases q : x = y
  · exact Goes.pure (fun T vm0 locs X t ht => XS.icmpYes X.here C.1 rfl rfl (hb C.2.1 d1) rfl (XT.ii_eq_t q) d3 d4 ht) (g1 q)
  · exact Goes.pure (fun T vm0 locs X t ht => XS.icmpNo X.here C.1 rfl (hb C.2.1 d1) rfl (XT.ii_eq_f q) ht) (g2 q)
theorem Cxt.icmp_ne (C : Cxt p m meth c Z a0 EL own mn bytes ml ret Ws) {o : Int} {tgt : Nat} {x y : Int32} (d : DecJ bytes pc (.if_icmp .ne o) o nx tgt) (g1 : ¬ x = y → Goes p l e R s m args below meth c Z EL nw Q F w h k n (mkF m tgt Ls st)) (g2 : x = y → Goes p l e R s m args below meth c Z EL nw Q F w h k n (mkF m nx Ls st)) : Goes p l e R s m args below meth c Z EL nw Q F w h k n (mkF m pc Ls (.int y :: .int x :: st)) := by
  obtain ⟨d1, rfl, d3, d4⟩ := d
  by_cases q : x = y
  · exact Goes.pure (fun T vm0 locs X t ht => XS.icmpNo X.here C.1 rfl (hb C.2.1 d1) rfl (XT.ii_ne_f q) ht) (g2 q)
  · exact Goes.pure (fun T vm0 locs X t ht => XS.icmpYes X.here C.1 rfl rfl (hb C.2.1 d1) rfl (XT.ii_ne_t q) d3 d4 ht) (g1 q)
theorem Cxt.icmp_lt (C : Cxt p m meth c Z a0 EL own mn bytes ml ret Ws) {o : Int} {tgt : Nat} {x y : Int32} (d : DecJ bytes pc (.if_icmp .lt o) o nx tgt) (g1 : x < y → Goes p l e R s m args below meth c Z EL nw Q F w h k n (mkF m tgt Ls st)) (g2 : ¬ x < y → Goes p l e R s m args below meth c Z EL nw Q F w h k n (mkF m nx Ls st)) : Goes p l e R s m args below meth c Z EL nw Q F w h k n (mkF m pc Ls (.int y :: .int x :: st)) := by
  obtain ⟨d1, rfl, d3, d4⟩ := d
  by_cases q : x < y
  · exact Goes.pure (fun T vm0 locs X t ht => XS.icmpYes X.here C.1 rfl rfl (hb C.2.1 d1) rfl (XT.ii_lt_t q) d3 d4 ht) (g1 q)
  · exact Goes.pure (fun T vm0 locs X t ht => XS.icmpNo X.here C.1 rfl (hb C.2.1 d1) rfl (XT.ii_lt_f q) ht) (g2 q)
theorem Cxt.icmp_ge (C : Cxt p m meth c Z a0 EL own mn bytes ml ret Ws) {o : Int} {tgt : Nat} {x y : Int32} (d : DecJ bytes pc (.if_icmp .ge o) o nx tgt) (g1 : ¬ x < y → Goes p l e R s m args below meth c Z EL nw Q F w h k n (mkF m tgt Ls st)) (g2 : x < y → Goes p l e R s m args below meth c Z EL nw Q F w h k n (mkF m nx Ls st)) : Goes p l e R s m args below meth c Z EL nw Q F w h k n (mkF m pc Ls (.int y :: .int x :: st)) := by
  obtain ⟨d1, rfl, d3, d4⟩ := d
  by_cases q : x < y
  · exact Goes.pure (fun T vm0 locs X t ht => XS.icmpNo X.here C.1 rfl (hb C.2.1 d1) rfl (XT.ii_ge_f q) ht) (g2 q)
  · exact Goes.pure (fun T vm0 locs X t ht => XS.icmpYes X.here C.1 rfl rfl (hb C.2.1 d1) rfl (XT.ii_ge_t q) d3 d4 ht) (g1 q)
theorem Cxt.icmp_gt (C : Cxt p m meth c Z a0 EL own mn bytes ml ret Ws) {o : Int} {tgt : Nat} {x y : Int32} (d : DecJ bytes pc (.if_icmp .gt o) o nx tgt) (g1 : y < x → Goes p l e R s m args below meth c Z EL nw Q F w h k n (mkF m tgt Ls st)) (g2 : ¬ y < x → Goes p l e R s m args below meth c Z EL nw Q F w h k n (mkF m nx Ls st)) : Goes p l e R s m args below meth c Z EL nw Q F w h k n (mkF m pc Ls (.int y :: .int x :: st)) := by
  obtain ⟨d1, rfl, d3, d4⟩ := d
  by_cases q : y < x
  · exact Goes.pure (fun T vm0 locs X t ht => XS.icmpYes X.here C.1 rfl rfl (hb C.2.1 d1) rfl (XT.ii_gt_t q) d3 d4 ht) (g1 q)
  · exact Goes.pure (fun T vm0 locs X t ht => XS.icmpNo X.here C.1 rfl (hb C.2.1 d1) rfl (XT.ii_gt_f q) ht) (g2 q)
theorem Cxt.icmp_le (C : Cxt p m meth c Z a0 EL own mn bytes ml ret Ws) {o : Int} {tgt : Nat} {x y : Int32} (d : DecJ bytes pc (.if_icmp .le o) o nx tgt) (g1 : ¬ y < x → Goes p l e R s m args below meth c Z EL nw Q F w h k n (mkF m tgt Ls st)) (g2 : y < x → Goes p l e R s m args below meth c Z EL nw Q F w h k n (mkF m nx Ls st)) : Goes p l e R s m args below meth c Z EL nw Q F w h k n (mkF m pc Ls (.int y :: .int x :: st)) := by
  obtain ⟨d1, rfl, d3, d4⟩ := d
  by_cases q : y < x
  · exact Goes.pure (fun T vm0 locs X t ht => XS.icmpNo X.here C.1 rfl (hb C.2.1 d1) rfl (XT.ii_le_f q) ht) (g2 q)
  · exact Goes.pure (fun T vm0 locs X t ht => XS.icmpYes X.here C.1 rfl rfl (hb C.2.1 d1) rfl (XT.ii_le_t q) d3 d4 ht) (g1 q)
theorem Cxt.ifnullY (C : Cxt p m meth c Z a0 EL own mn bytes ml ret Ws) {o : Int} {tgt : Nat} (d : DecJ bytes pc (.ifnull o) o nx tgt) (g : Goes p l e R s m args below meth c Z EL nw Q F w h k n (mkF m tgt Ls st)) : Goes p l e R s m args below meth c Z EL nw Q F w h k n (mkF m pc Ls (.null :: st)) :=
  Goes.pure (fun T vm0 locs X t ht => XS.ifnullYes X.here C.1 rfl rfl (hb C.2.1 d.1) rfl d.2.2.1 d.2.2.2 ht) g
theorem Cxt.ifnullN (C : Cxt p m meth c Z a0 EL own mn bytes ml ret Ws) {o : Int} {tgt : Nat} {b : Addr} (d : DecJ bytes pc (.ifnull o) o nx tgt) (g : Goes p l e R s m args below meth c Z EL nw Q F w h k n (mkF m nx Ls st)) : Goes p l e R s m args below meth c Z EL nw Q F w h k n (mkF m pc Ls (.ref b :: st)) := by
  obtain ⟨d1, rfl, d3, d4⟩ := d
  exact Goes.pure (fun T vm0 locs X t ht => XS.ifnullNo X.here C.1 rfl (hb C.2.1 d1) rfl ht) g
theorem Cxt.ifnonnullY (C : Cxt p m meth c Z a0 EL own mn bytes ml ret Ws) {o : Int} {tgt : Nat} {b : Addr} (d : DecJ bytes pc (.ifnonnull o) o nx tgt) (g : Goes p l e R s m args below meth c Z EL nw Q F w h k n (mkF m tgt Ls st)) : Goes p l e R s m args below meth c Z EL nw Q F w h k n (mkF m pc Ls (.ref b :: st)) :=
  Goes.pure (fun T vm0 locs X t ht => XT.ifnonnullYes X.here C.1 rfl rfl (hb C.2.1 d.1) rfl d.2.2.1 d.2.2.2 ht) g
theorem Cxt.ifnonnullN (C : Cxt p m meth c Z a0 EL own mn bytes ml ret Ws) {o : Int} {tgt : Nat} (d : DecJ bytes pc (.ifnonnull o) o nx tgt) (g : Goes p l e R s m args below meth c Z EL nw Q F w h k n (mkF m nx Ls st)) : Goes p l e R s m args below meth c Z EL nw Q F w h k n (mkF m pc Ls (.null :: st)) := by
  obtain ⟨d1, rfl, d3, d4⟩ := d
  exact Goes.pure (fun T vm0 locs X t ht => XT.ifnonnullNo X.here C.1 rfl (hb C.2.1 d1) rfl ht) g
theorem Cxt.acmp_eq (C : Cxt p m meth c Z a0 EL own mn bytes ml ret Ws) {o : Int} {tgt : Nat} {x y : Value} (d : DecJ bytes pc (.if_acmp .eq o) o nx tgt) (hx : x.isRef = true) (hy : y.isRef = true) (g1 : x = y → Goes p l e R s m args below meth c Z EL nw Q F w h k n (mkF m tgt Ls st)) (g2 : ¬ x = y → Goes p l e R s m args below meth c Z EL nw Q F w h k n (mkF m nx Ls st)) : Goes p l e R s m args below meth c Z EL nw Q F w h k n (mkF m pc Ls (y :: x :: st)) := by
  obtain ⟨d1, rfl, d3, d4⟩ := d
  by_cases q : x = y
  · exact Goes.pure (fun T vm0 locs X t ht => XT.acmpYes X.here C.1 rfl rfl (hb C.2.1 d1) rfl hx hy (by simp [XT.acmp, q]) d3 d4 ht) (g1 q)
  · exact Goes.pure (fun T vm0 locs X t ht => XT.acmpNo X.here C.1 rfl (hb C.2.1 d1) rfl hx hy (by simp [XT.acmp, q]) ht) (g2 q)
theorem Cxt.acmp_ne (C : Cxt p m meth c Z a0 EL own mn bytes ml ret Ws) {o : Int} {tgt : Nat} {x y : Value} (d : DecJ bytes pc (.if_acmp .ne o) o nx tgt) (hx : x.isRef = true) (hy : y.isRef = true) (g1 : ¬ x = y → Goes p l e R s m args below meth c Z EL nw Q F w h k n (mkF m tgt Ls st)) (g2 : x = y → Goes p l e R s m args below meth c Z EL nw Q F w h k n (mkF m nx Ls st)) : Goes p l e R s m args below meth c Z EL nw Q F w h k n (mkF m pc Ls (y :: x :: st)) := by
  obtain ⟨d1, rfl, d3, d4⟩ := d
  by_cases q : x = y
  · exact Goes.pure (fun T vm0 locs X t ht => XT.acmpNo X.here C.1 rfl (hb C.2.1 d1) rfl hx hy (by simp [XT.acmp, q]) ht) (g2 q)
  · exact Goes.pure (fun T vm0 locs X t ht => XT.acmpYes X.here C.1 rfl rfl (hb C.2.1 d1) rfl hx hy (by simp [XT.acmp, q]) d3 d4 ht) (g1 q)
theorem Cxt.ends (C : Cxt p m meth c Z a0 EL own mn bytes ml ret Ws) {T : State} {vm0 : Vm} {locs : List Loc} {k0 : Nat} (H : Here p l e R s m args below meth c Z EL nw F w h k n T vm0 locs k0) {v : Option Value} (hv : ret = none → v = none) (hq : Q v h) (hk : k ≤ R.cells) (hn : n ≤ R.slots) {f : JFrame}
    (stp : ∀ fs, (∀ (f : JFrame) (acts : List Action), f.method = m → f.locked = none → f.entered = [] → (doReturn e (T.setTop f) acts v).1 = T.setFrames fs) → Steps p.tables e below (T.setTop f) (T.setFrames fs)) : Ends p e R s below Z EL nw Q (T.setTop f) := by
  obtain ⟨X, eT, N, S, hk0, hZ, H1, hw, hF, O, hwm, hbk⟩ := H
  obtain ⟨fs, h1, h2, h3, h4⟩ := X.leaveW S (by rw [eT]; exact hk0) (v := v) (fun q => hv (C.2.2.2.2.1 ▸ q)) C.2.2.2.2.2.1
  have A := CHv.at X hZ C.2.2.2.2.2.2.2.2 H1.1
  refine ⟨T.setFrames fs, v, locs, stp fs h1, h2, h3, ?_, N, ?_, fun q => ⟨State.WarmedH.trans (hw q) X.warmed, ?_⟩, ?_, ⟨h4.1, h4.2.1, h4.2.2.1, h4.2.2.2.mono hk hn⟩⟩
  · show Q v T.heap; rw [eT]; exact hq
  · show CHr Z EL s.vm s.heap T.vm T.heap; rw [eT]; exact H1.trans A
  · intro y hy
    have hy' : Bk Z EL T.vm h y := eT ▸ hy
    rcases A.2.2 y hy' with z | z
    · exact hbk q y z
    · obtain ⟨cell, hcell⟩ := hy'.there
      exact absurd (Array.getElem?_eq_some_iff.mp hcell).1 (Nat.not_lt.mpr z)
  · show Ext Z.heap T.heap; rw [eT]; exact O
theorem Cxt.return_ (C : Cxt p m meth c Z a0 EL own mn bytes ml ret Ws) (d : Dec bytes pc .return_ 1 nx) (hr : ret = none) (hq : Q none h) (hk : k ≤ R.cells) (hn : n ≤ R.slots) : Goes p l e R s m args below meth c Z EL nw Q F w h k n (mkF m pc Ls []) := fun T vm0 locs k0 H =>
  C.ends H (fun _ => rfl) hq hk hn fun fs hl => H.1.returnOut C.1 (C.2.2.2.2.1.trans hr) (hb C.2.1 d.1) hl
theorem Cxt.ireturn (C : Cxt p m meth c Z a0 EL own mn bytes ml ret Ws) {t : FieldType} {v : Int32} (d : Dec bytes pc .ireturn 1 nx) (hr : ret = some t) (ht : t = .int ∨ t = .boolean ∨ t = .byte ∨ t = .char ∨ t = .short) (hnv : narrow t (.int v) = .int v) (hq : Q (some (.int v)) h) (hk : k ≤ R.cells) (hn : n ≤ R.slots) : Goes p l e R s m args below meth c Z EL nw Q F w h k n (mkF m pc Ls (.int v :: st)) := fun T vm0 locs k0 H =>
  C.ends H (fun q => by rw [hr] at q; cases q) hq hk hn fun fs hl => retOut H.1 C.1 (C.2.2.2.2.1.trans hr) hnv (Or.inl ⟨rfl, ht, v, rfl⟩) (hb C.2.1 d.1) hl
theorem Cxt.areturn (C : Cxt p m meth c Z a0 EL own mn bytes ml ret Ws) {t : FieldType} {v : Value} (d : Dec bytes pc .areturn 1 nx) (hr : ret = some t) (ht : t.isReference = true) (hv : v.isRef = true) (hnv : narrow t v = v) (hq : Q (some v) h) (hk : k ≤ R.cells) (hn : n ≤ R.slots) : Goes p l e R s m args below meth c Z EL nw Q F w h k n (mkF m pc Ls (v :: st)) := fun T vm0 locs k0 H =>
  C.ends H (fun q => by rw [hr] at q; cases q) hq hk hn fun fs hl => retOut H.1 C.1 (C.2.2.2.2.1.trans hr) hnv (Or.inr (Or.inr (Or.inr (Or.inr ⟨rfl, ht, hv⟩)))) (hb C.2.1 d.1) hl
theorem Cxt.new (C : Cxt p m meth c Z a0 EL own mn bytes ml ret Ws) {idx q : Nat} {cls : String} (d : Dec bytes pc (.new idx) 3 nx) (ww : Jvm.Cond.classLink own idx cls ∈ Ws) (wi : Jvm.Cond.instantiable cls q ∈ Ws) (wz : Jvm.Cond.initialized cls ∈ Ws) (hk : k + 1 ≤ R.cells) (hn : n + q ≤ R.slots)
    (g : ∀ h' a, @Eq Nat a h.size → Ext h h' → Exa Z h' a cls → (∀ {O nm d : String} {ty : FieldType}, Laid Z a0 cls O nm d → parseFieldDescriptor d = some ty → Fld Z h' a O nm d (defaultValue ty)) → Goes p l e R s m args below meth c Z EL nw Q (a :: F) w h' (k + 1) (n + q) (mkF m nx Ls (.ref a :: st))) : Goes p l e R s m args below meth c Z EL nw Q F w h k n (mkF m pc Ls st) := by
  obtain ⟨d1, rfl⟩ := d
  intro T vm0 locs k0 H
  obtain ⟨X, eT, N, S, hk0, hZ, H1, hw, hF, O, hwm, hbk⟩ := id H
  obtain ⟨T', h', X', e', E', A', D', -, st'⟩ := RoadKit.newO X C.1 hZ (C.own_at hZ) (C.wrd ww) (C.wrd wi) (C.wrd wz) eT (g := mkF m pc Ls st) rfl (hb C.2.1 d1) hk hn
  obtain ⟨X2, eT2, N2, S2, hk2, hZ2, H2, hw2, hF2, O2, hwm2, hbk2⟩ := H.step X' e' N (keep_ext E' []) (fun x hx => nomatch hx)
  obtain ⟨t, v, L, h1, r⟩ := g h' h.size rfl E' A' D' T' vm0 locs k0 ⟨X2, eT2, N2, S2, hk2, hZ2, H2, hw2, fun x hx => (List.mem_cons.mp hx).elim (fun q => by subst q; exact ⟨A'.lt, (Safe.new (Nat.le_refl _)).ext E' H1.1⟩) (hF2 x), O2, hwm2, hbk2⟩
  exact ⟨t, v, L, st' _ h1, r⟩
theorem Cxt.getF (C : Cxt p m meth c Z a0 EL own mn bytes ml ret Ws) {idx : Nat} {O fn fd : String} {a : Addr} {v : Value} (d : Dec bytes pc (.getfield idx) 3 nx) (ww : Jvm.Cond.fieldLink own idx O fn fd ∈ Ws) (A : Fld Z h a O fn fd v) (g : Goes p l e R s m args below meth c Z EL nw Q F w h k n (mkF m nx Ls (v :: st))) : Goes p l e R s m args below meth c Z EL nw Q F w h k n (mkF m pc Ls (.ref a :: st)) := by
  obtain ⟨d1, rfl⟩ := d
  intro T vm0 locs k0 H
  obtain ⟨T', X', e', st'⟩ := RoadKit.getF H.1 C.1 H.2.2.2.2.2.1 (C.own_at H.2.2.2.2.2.1) (host := "") (Or.inl (C.wrd ww)) Via.refl H.2.1 A (g := mkF m pc Ls (.ref a :: st)) rfl rfl (hb C.2.1 d1)
  obtain ⟨t, v, L, h1, r⟩ := g T' vm0 locs k0 (H.step X' e' H.2.2.1 (Keep.refl _ []) (fun x hx => nomatch hx))
  exact ⟨t, v, L, st' _ h1, r⟩
theorem Cxt.getFV (C : Cxt p m meth c Z a0 EL own mn bytes ml ret Ws) {idx : Nat} {R0 O fn fd : String} {a : Addr} {v : Value} (d : Dec bytes pc (.getfield idx) 3 nx) (ww : Jvm.Cond.fieldLink own idx R0 fn fd ∈ Ws) (wv : Jvm.Cond.sameField R0 O fn fd ∈ Ws) (A : Fld Z h a O fn fd v) (g : Goes p l e R s m args below meth c Z EL nw Q F w h k n (mkF m nx Ls (v :: st))) : Goes p l e R s m args below meth c Z EL nw Q F w h k n (mkF m pc Ls (.ref a :: st)) := by
  obtain ⟨d1, rfl⟩ := d
  intro T vm0 locs k0 H
  obtain ⟨T', X', e', st'⟩ := RoadKit.getF H.1 C.1 H.2.2.2.2.2.1 (C.own_at H.2.2.2.2.2.1) (host := "") (Or.inl (C.wrd ww)) (Via.of (C.wrd wv)) H.2.1 A (g := mkF m pc Ls (.ref a :: st)) rfl rfl (hb C.2.1 d1)
  obtain ⟨t, v, L, h1, r⟩ := g T' vm0 locs k0 (H.step X' e' H.2.2.1 (Keep.refl _ []) (fun x hx => nomatch hx))
  exact ⟨t, v, L, st' _ h1, r⟩
theorem Cxt.getS (C : Cxt p m meth c Z a0 EL own mn bytes ml ret Ws) {idx : Nat} {O fn fd : String} {v : Value} (d : Dec bytes pc (.getstatic idx) 3 nx) (ww : Jvm.Cond.fieldLink own idx O fn fd ∈ Ws) (A : Sta Z Z.heap O fn fd v) (g : Goes p l e R s m args below meth c Z EL nw Q F w h k n (mkF m nx Ls (v :: st))) : Goes p l e R s m args below meth c Z EL nw Q F w h k n (mkF m pc Ls st) := by
  obtain ⟨d1, rfl⟩ := d
  intro T vm0 locs k0 H
  obtain ⟨T', X', e', st'⟩ := RoadKit.getS H.1 C.1 H.2.2.2.2.2.1 (C.own_at H.2.2.2.2.2.1) (host := "") (C.wrd ww) Via.refl H.2.1 (A.ext H.2.2.2.2.2.2.2.2.2.1) (g := mkF m pc Ls st) rfl (hb C.2.1 d1)
  obtain ⟨t, v, L, h1, r⟩ := g T' vm0 locs k0 (H.step X' e' H.2.2.1 (Keep.refl _ []) (fun x hx => nomatch hx))
  exact ⟨t, v, L, st' _ h1, r⟩
theorem Cxt.putF (C : Cxt p m meth c Z a0 EL own mn bytes ml ret Ws) {idx kk : Nat} {O cls fn fd : String} {ty : FieldType} {a : Addr} {v old : Value} (d : Dec bytes pc (.putfield idx) 3 nx) (ww : Jvm.Cond.fieldLink own idx O fn fd ∈ Ws) (A : Fld Z h a O fn fd old) (E : Exa Z h a cls)
    (Ly : Jvm.Cond.lays cls O fn fd ∈ Ws ∨ (Jvm.Cond.laysFinal cls O fn fd ∈ Ws ∧ own = O ∧ mn = "<init>")) (wi : Jvm.Cond.instantiable cls kk ∈ Ws) (hty : parseFieldDescriptor fd = some ty) (hnv : narrow ty v = v) (hf : fits ty v = true) (na : Z.heap.size ≤ a) (sf : a ∈ F ∨ w ≤ a ∨ (cls ≠ "java/lang/String" ∧ cls ≠ "[B"))
    (g : ∀ h', Wr h h' a (RoadKit.slotOf Z O fn fd) v → Goes p l e R s m args below meth c Z EL nw Q F w h' k n (mkF m nx Ls st)) : Goes p l e R s m args below meth c Z EL nw Q F w h k n (mkF m pc Ls (v :: .ref a :: st)) := by
  obtain ⟨d1, rfl⟩ := d
  intro T vm0 locs k0 H
  obtain ⟨X, eT, N, S, hk0, hZ, H1, hw, hF, O', hwm, hbk⟩ := id H
  obtain ⟨T', h', X', e', W', st'⟩ := RoadKit.putF X C.1 hZ (C.own_at hZ) (host := "") (Or.inl (C.wrd ww)) Via.refl eT A E (Ly.imp C.wrd fun q => ⟨C.wrd q.1, q.2.1, C.2.2.2.2.2.2.1.trans q.2.2⟩) (C.wrd wi) hty hnv hf (g := mkF m pc Ls (v :: .ref a :: st)) rfl rfl (hb C.2.1 d1)
  have sa : Safe Z EL vm0 h a := sf.elim (fun q => (hF a q).2) fun q => q.elim (hwm a) fun q => Safe.exa hZ.alike E q.1 q.2
  obtain ⟨t, v, L, h1, r⟩ := g h' W' T' vm0 _ k0 (H.step X' e' (Fr.snoc X' N na) (Keep.of_wr W') (fun x hx => by cases List.mem_singleton.mp hx; exact ⟨sa, na⟩))
  exact ⟨t, v, L, st' _ h1, r⟩
theorem Cxt.initO (C : Cxt p m meth c Z a0 EL own mn bytes ml ret Ws) {idx : Nat} {a : Addr} (d : Dec bytes pc (.invokespecial idx) 3 nx) (w1 : Jvm.Cond.methodLink own idx Lib.objectInit ∈ Ws) (w2 : Jvm.Cond.instanceMethod Lib.objectInit ∈ Ws) (w3 : Jvm.Cond.code Lib.objectInit ⟨#[0xb1]⟩ 1 none ∈ Ws) (hsz : Ls.size = ml) (hf : 1 ≤ R.frames) (hl : (st.map fun v => v.category).sum + 12 ≤ R.locals)
    (g : Goes p l e R s m args below meth c Z EL nw Q F w h k n (mkF m nx Ls st)) : Goes p l e R s m args below meth c Z EL nw Q F w h k n (mkF m pc Ls (.ref a :: st)) := by
  obtain ⟨d1, rfl⟩ := d
  intro T vm0 locs k0 H
  obtain ⟨T', X', e', st'⟩ := RoadKit.initO H.1 C.1 H.2.2.2.2.2.1 (C.own_at H.2.2.2.2.2.1) (C.wrd w1) (C.wrd w2) (C.wrd w3) H.2.1 (g := mkF m pc Ls (.ref a :: st)) rfl (hsz.trans C.2.2.1.symm) rfl (hb C.2.1 d1) hf (W := (st.map fun v => v.category).sum) (by show 2 * 0 + _ ≤ _; omega) hl
  obtain ⟨t, v, L, h1, r⟩ := g T' vm0 locs k0 (H.step X' e' H.2.2.1 (Keep.refl _ []) (fun x hx => nomatch hx))
  exact ⟨t, v, L, st' _ h1, r⟩
/-- the array at a holds just these values -/
def Arl (Z : State) (h : Heap) (a : Addr) (ty : FieldType) (vs : List Value) : Prop := ∃ cl : Cell, Arr Z h a cl ty ∧ cl.slots.toList = vs ∧ vs.length < 2 ^ 31 ∧ ∀ v ∈ vs, fits ty v = true
theorem Arl.lt {a : Addr} {ty : FieldType} {vs : List Value} (A : Arl Z h a ty vs) : a < h.size := by obtain ⟨cl, A, -⟩ := A; exact A.lt
theorem Arl.ext {h' : Heap} {a : Addr} {ty : FieldType} {vs : List Value} (A : Arl Z h a ty vs) (E : Ext h h') : Arl Z h' a ty vs := by obtain ⟨cl, A, r⟩ := A; exact ⟨cl, A.ext E, r⟩
theorem Arl.other {h' : Heap} {a b : Addr} {sl : Nat} {w : Value} {ty : FieldType} {vs : List Value} (A : Arl Z h a ty vs) (W : Wr h h' b sl w) (q : a ≠ b) : Arl Z h' a ty vs := by obtain ⟨cl, A, r⟩ := A; exact ⟨cl, A.other W q, r⟩
theorem Arl.keep {h' : Heap} {a : Addr} {ws : List Addr} {ty : FieldType} {vs : List Value} (A : Arl Z h a ty vs) (K : Keep h h' ws) (q : a ∉ ws) : Arl Z h' a ty vs := by obtain ⟨cl, A, r⟩ := A; exact ⟨cl, ⟨K.2.1 a cl A.1 q, A.2⟩, r⟩
theorem Arl.len {a : Addr} {ty : FieldType} {vs : List Value} (A : Arl Z h a ty vs) : vs.length < 2 ^ 31 := by obtain ⟨cl, A, r⟩ := A; exact r.2.1
theorem Arl.set {h' : Heap} {a : Addr} {i : Nat} {w : Value} {ty : FieldType} {vs : List Value} (A : Arl Z h a ty vs) (W : Wr h h' a i w) (hw : fits ty w = true) : Arl Z h' a ty (vs.set i w) := by
  obtain ⟨cl, A, rfl, r2, r3⟩ := A
  refine ⟨_, A.same W, ?_, ?_, ?_⟩
  · simp [Cell.setSlot]
  · simpa using r2
  · intro v hv
    rcases List.mem_or_eq_of_mem_set hv with q | rfl
    · exact r3 v q
    · exact hw
theorem Arl.safe {vm0 : Vm} {a : Addr} {ty : FieldType} {vs : List Value} (hal : Z.vm.Alike vm0) (A : Arl Z h a ty vs) (ht : ty ≠ .byte) : Safe Z EL vm0 h a := by obtain ⟨cl, A, -⟩ := A; exact Safe.arr hal A ht
theorem Cxt.newarray (C : Cxt p m meth c Z a0 EL own mn bytes ml ret Ws) {aty : ArrayType} {q : Nat} {z : Int32} (d : Dec bytes pc (.newarray aty) 2 nx) (ww : Jvm.Cond.arrayClass (newarray.typeOf aty) ∈ Ws) (hz : ¬ z < 0) (hzq : z.toNatClampNeg = q) (hq : q ≤ 60000000) (hk : k + 1 ≤ R.cells) (hn : n + q ≤ R.slots)
    (g : ∀ h' a, @Eq Nat a h.size → Ext h h' → a < h'.size → Arl Z h' a (newarray.typeOf aty) (List.replicate q (defaultValue (newarray.typeOf aty))) → Goes p l e R s m args below meth c Z EL nw Q (a :: F) w h' (k + 1) (n + q) (mkF m nx Ls (.ref a :: st))) : Goes p l e R s m args below meth c Z EL nw Q F w h k n (mkF m pc Ls (.int z :: st)) := by
  obtain ⟨d1, rfl⟩ := d
  intro T vm0 locs k0 H
  obtain ⟨X, eT, N, S, hk0, hZ, H1, hw, hF, O, hwm, hbk⟩ := id H
  obtain ⟨T', h', cA, X', e', E', A', st'⟩ := newP X C.1 hZ (C.wrd ww) eT (g := mkF m pc Ls (.int z :: st)) rfl (hb C.2.1 d1) rfl hz (cap := q) (Nat.le_of_eq hzq) (by omega) hk hn
  obtain ⟨X2, eT2, N2, S2, hk2, hZ2, H2, hw2, hF2, O2, hwm2, hbk2⟩ := H.step X' e' N (keep_ext E' []) (fun x hx => nomatch hx)
  have AL : Arl Z h' h.size (newarray.typeOf aty) (List.replicate q (defaultValue (newarray.typeOf aty))) := ⟨_, A', by simp [newA, hzq], by rw [List.length_replicate]; omega, fun v hv => by rw [List.eq_of_mem_replicate hv]; cases aty <;> rfl⟩
  obtain ⟨t, v, L, h1, r⟩ := g h' h.size rfl E' A'.lt AL T' vm0 locs k0 ⟨X2, eT2, N2, S2, hk2, hZ2, H2, hw2, fun x hx => (List.mem_cons.mp hx).elim (fun q => by subst q; exact ⟨A'.lt, (Safe.new (Nat.le_refl _)).ext E' H1.1⟩) (hF2 x), O2, hwm2, hbk2⟩
  exact ⟨t, v, L, st' _ h1, r⟩
theorem Cxt.cloneA (C : Cxt p m meth c Z a0 EL own mn bytes ml ret Ws) {idx q : Nat} {ad : String} {a : Addr} {ty : FieldType} {vs : List Value} (d : Dec bytes pc (.invokevirtual idx) 3 nx) (w1 : Jvm.Cond.methodLink own idx ⟨ad, "clone", "()Ljava/lang/Object;"⟩ ∈ Ws) (w2 : Jvm.Cond.sameMethod ad "java/lang/Object" "clone" "()Ljava/lang/Object;" ∈ Ws) (w3 : Jvm.Cond.native ⟨"java/lang/Object", "clone", "()Ljava/lang/Object;"⟩ ∈ Ws) (w4 : Jvm.Cond.instanceMethod ⟨"java/lang/Object", "clone", "()Ljava/lang/Object;"⟩ ∈ Ws) (w5 : Jvm.Cond.selects ad ⟨ad, "clone", "()Ljava/lang/Object;"⟩ ⟨"java/lang/Object", "clone", "()Ljava/lang/Object;"⟩ ∈ Ws) (w6 : Jvm.Cond.castable ad "java/lang/Cloneable" ∈ Ws)
    (A : Arl Z h a ty vs) (E : Exa Z h a ad) (hsz : Ls.size = ml) (hf : 1 ≤ R.frames) (hl : (st.map fun v => v.category).sum + 14 ≤ R.locals) (hq : vs.length = q) (hk : k + 1 ≤ R.cells) (hn : n + q ≤ R.slots)
    (g : ∀ h' b, @Eq Nat b h.size → Ext h h' → Arl Z h' b ty vs → Exa Z h' b ad → Goes p l e R s m args below meth c Z EL nw Q (b :: F) w h' (k + 1) (n + q) (mkF m nx Ls (.ref b :: st))) : Goes p l e R s m args below meth c Z EL nw Q F w h k n (mkF m pc Ls (.ref a :: st)) := by
  obtain ⟨d1, rfl⟩ := d
  intro T vm0 locs k0 H
  obtain ⟨X, eT, N, S, hk0, hZ, H1, hw, hF, O, hwm, hbk⟩ := id H
  obtain ⟨cl, A0, q1, q2, q3⟩ := id A
  obtain ⟨T', h', X', e', E', A', X2', st'⟩ := RoadKit.cloneA X C.1 hZ (C.own_at hZ) (C.wrd w1) (C.wrd w2) (C.wrd w3) (C.wrd w4) (C.wrd w5) (C.wrd w6) eT A0 E (fitC_of A0 fun i hi v hv => q3 v (by rw [← q1]; exact List.mem_of_getElem? (i := i) (by rw [Array.getElem?_toList]; exact hv))) (g := mkF m pc Ls (.ref a :: st)) rfl (hsz.trans C.2.2.1.symm) rfl (hb C.2.1 d1) hf (W := (st.map fun v => v.category).sum) (by show 2 * 0 + _ ≤ _; omega) hl (cap := q) (by rw [← hq, ← q1]; simp) hk hn
  obtain ⟨X2, eT2, N2, S2, hk2, hZ2, H2, hw2, hF2, O2, hwm2, hbk2⟩ := H.step X' e' N (keep_ext E' []) (fun x hx => nomatch hx)
  obtain ⟨t, v, L, h1, r⟩ := g h' h.size rfl E' ⟨_, A', q1, q2, q3⟩ X2' T' vm0 locs k0 ⟨X2, eT2, N2, S2, hk2, hZ2, H2, hw2, fun x hx => (List.mem_cons.mp hx).elim (fun q => by subst q; exact ⟨A'.lt, (Safe.new (Nat.le_refl _)).ext E' H1.1⟩) (hF2 x), O2, hwm2, hbk2⟩
  exact ⟨t, v, L, st' _ h1, r⟩
theorem inb {cl : Cell} {j : Int32} {i : Nat} (hi : j.toNatClampNeg = i) (hj : ¬ j < 0) (hlt : i < cl.slots.toList.length) : ¬ (j < 0 ∨ cl.slots.size ≤ j.toNatClampNeg) := by
  rw [hi]; intro q; rcases q with q | q
  · exact hj q
  · simp at hlt; omega
theorem Cxt.arraylength (C : Cxt p m meth c Z a0 EL own mn bytes ml ret Ws) {a : Addr} {ty : FieldType} {vs : List Value} (d : Dec bytes pc .arraylength 1 nx) (A : Arl Z h a ty vs) (g : Goes p l e R s m args below meth c Z EL nw Q F w h k n (mkF m nx Ls (.int (Int32.ofNat vs.length) :: st))) : Goes p l e R s m args below meth c Z EL nw Q F w h k n (mkF m pc Ls (.ref a :: st)) := by
  obtain ⟨d1, rfl⟩ := d
  intro T vm0 locs k0 H
  obtain ⟨t, v, L, h1, r⟩ := g T vm0 locs k0 H
  obtain ⟨cl, A, rfl, r2, r3⟩ := A
  refine ⟨t, v, L, H.1.arraylength C.1 (by rw [H.2.1]; exact A.1) (State.isArrayOf_alike H.2.2.2.2.2.1.alike A.2.1) (g := mkF m pc Ls (.ref a :: st)) rfl rfl (hb C.2.1 d1) _ ?_, r⟩
  have q : cl.slots.size.toInt32 = Int32.ofNat cl.slots.toList.length := by simp
  rw [q]; exact h1
theorem Cxt.caload (C : Cxt p m meth c Z a0 EL own mn bytes ml ret Ws) {a : Addr} {vs : List Value} {j : Int32} {i : Nat} {v : Value} (d : Dec bytes pc .caload 1 nx) (A : Arl Z h a .char vs) (hj : ¬ j < 0) (hi : j.toNatClampNeg = i) (hv : vs[i]? = some v) (g : Goes p l e R s m args below meth c Z EL nw Q F w h k n (mkF m nx Ls (v :: st))) : Goes p l e R s m args below meth c Z EL nw Q F w h k n (mkF m pc Ls (.int j :: .ref a :: st)) := by
  obtain ⟨d1, rfl⟩ := d
  intro T vm0 locs k0 H
  obtain ⟨t, v', L, h1, r⟩ := g T vm0 locs k0 H
  obtain ⟨cl, A, rfl, r2, r3⟩ := A
  exact ⟨t, v', L, H.1.caload C.1 (by rw [H.2.1]; exact A.1) (State.isArrayOf_alike H.2.2.2.2.2.1.alike A.2.1) A.2.2 (inb hi hj (List.getElem?_eq_some_iff.mp hv).1) (v := v) (by rw [hi]; simpa using hv) (g := mkF m pc Ls (.int j :: .ref a :: st)) rfl rfl (hb C.2.1 d1) _ h1, r⟩
theorem Cxt.baload (C : Cxt p m meth c Z a0 EL own mn bytes ml ret Ws) {a : Addr} {vs : List Value} {j : Int32} {i : Nat} {v : Value} (d : Dec bytes pc .baload 1 nx) (A : Arl Z h a .byte vs) (hj : ¬ j < 0) (hi : j.toNatClampNeg = i) (hv : vs[i]? = some v) (g : Goes p l e R s m args below meth c Z EL nw Q F w h k n (mkF m nx Ls (v :: st))) : Goes p l e R s m args below meth c Z EL nw Q F w h k n (mkF m pc Ls (.int j :: .ref a :: st)) := by
  obtain ⟨d1, rfl⟩ := d
  intro T vm0 locs k0 H
  obtain ⟨t, v', L, h1, r⟩ := g T vm0 locs k0 H
  obtain ⟨cl, A, rfl, r2, r3⟩ := A
  exact ⟨t, v', L, H.1.baloadBytes C.1 (by rw [H.2.1]; exact A.1) (State.isArrayOf_alike H.2.2.2.2.2.1.alike A.2.1) A.2.2 (inb hi hj (List.getElem?_eq_some_iff.mp hv).1) (v := v) (by rw [hi]; simpa using hv) (g := mkF m pc Ls (.int j :: .ref a :: st)) rfl rfl (hb C.2.1 d1) _ h1, r⟩
theorem Cxt.iaload (C : Cxt p m meth c Z a0 EL own mn bytes ml ret Ws) {a : Addr} {vs : List Value} {j : Int32} {i : Nat} {v : Value} (d : Dec bytes pc .iaload 1 nx) (A : Arl Z h a .int vs) (hj : ¬ j < 0) (hi : j.toNatClampNeg = i) (hv : vs[i]? = some v) (g : Goes p l e R s m args below meth c Z EL nw Q F w h k n (mkF m nx Ls (v :: st))) : Goes p l e R s m args below meth c Z EL nw Q F w h k n (mkF m pc Ls (.int j :: .ref a :: st)) := by
  obtain ⟨d1, rfl⟩ := d
  intro T vm0 locs k0 H
  obtain ⟨t, v', L, h1, r⟩ := g T vm0 locs k0 H
  obtain ⟨cl, A, rfl, r2, r3⟩ := A
  exact ⟨t, v', L, H.1.iaload C.1 (by rw [H.2.1]; exact A.1) (State.isArrayOf_alike H.2.2.2.2.2.1.alike A.2.1) A.2.2 (inb hi hj (List.getElem?_eq_some_iff.mp hv).1) (v := v) (by rw [hi]; simpa using hv) (g := mkF m pc Ls (.int j :: .ref a :: st)) rfl rfl (hb C.2.1 d1) _ h1, r⟩
theorem Cxt.aaload (C : Cxt p m meth c Z a0 EL own mn bytes ml ret Ws) {a : Addr} {ty : FieldType} {vs : List Value} {j : Int32} {i : Nat} {v : Value} (d : Dec bytes pc .aaload 1 nx) (A : Arl Z h a ty vs) (hty : ty.isReference = true) (hj : ¬ j < 0) (hi : j.toNatClampNeg = i) (hv : vs[i]? = some v) (g : Goes p l e R s m args below meth c Z EL nw Q F w h k n (mkF m nx Ls (v :: st))) : Goes p l e R s m args below meth c Z EL nw Q F w h k n (mkF m pc Ls (.int j :: .ref a :: st)) := by
  obtain ⟨d1, rfl⟩ := d
  intro T vm0 locs k0 H
  obtain ⟨t, v', L, h1, r⟩ := g T vm0 locs k0 H
  obtain ⟨cl, A, rfl, r2, r3⟩ := A
  exact ⟨t, v', L, H.1.aaload C.1 (by rw [H.2.1]; exact A.1) (State.isArrayOf_alike H.2.2.2.2.2.1.alike A.2.1) hty A.2.2 (inb hi hj (List.getElem?_eq_some_iff.mp hv).1) (v := v) (by rw [hi]; simpa using hv) (g := mkF m pc Ls (.int j :: .ref a :: st)) rfl rfl (hb C.2.1 d1) _ h1, r⟩
theorem Cxt.castore (C : Cxt p m meth c Z a0 EL own mn bytes ml ret Ws) {a : Addr} {vs : List Value} {j x : Int32} {i : Nat} (d : Dec bytes pc .castore 1 nx) (A : Arl Z h a .char vs) (hj : ¬ j < 0) (hi : j.toNatClampNeg = i) (hlt : i < vs.length) (na : Z.heap.size ≤ a) 
    (g : ∀ h', Wr h h' a i (.int (nar .char x)) → Arl Z h' a .char (vs.set i (.int (nar .char x))) → Goes p l e R s m args below meth c Z EL nw Q F w h' k n (mkF m nx Ls st)) : Goes p l e R s m args below meth c Z EL nw Q F w h k n (mkF m pc Ls (.int x :: .int j :: .ref a :: st)) := by
  obtain ⟨d1, rfl⟩ := d
  intro T vm0 locs k0 H
  obtain ⟨X, eT, N, S, hk0, hZ, H1, hw, hF, O', hwm, hbk⟩ := id H
  have sa : Safe Z EL vm0 h a := Arl.safe hZ.alike A (by simp)
  obtain ⟨cl, A', q1, q2, q3⟩ := id A
  subst hi
  obtain ⟨T', h', X', e', W', st'⟩ := stC X C.1 hZ eT A' (j := j) (x := x) (inb rfl hj (by rw [q1]; exact hlt)) (g := mkF m pc Ls (.int x :: .int j :: .ref a :: st)) rfl rfl (hb C.2.1 d1)
  obtain ⟨t, v, L, h1, r⟩ := g h' W' (A.set W' (fits_nar_char _)) T' vm0 _ k0 (H.step X' e' (Fr.snoc X' N na) (Keep.of_wr W') (fun x hx => by cases List.mem_singleton.mp hx; exact ⟨sa, na⟩))
  exact ⟨t, v, L, st' _ h1, r⟩
theorem fits_b8' (x : Int32) : fits .byte (.int (nar .byte x)) = true := fits_nar_byte x
theorem Cxt.bastore (C : Cxt p m meth c Z a0 EL own mn bytes ml ret Ws) {a : Addr} {vs : List Value} {j x : Int32} {i : Nat} (d : Dec bytes pc .bastore 1 nx) (A : Arl Z h a .byte vs) (hj : ¬ j < 0) (hi : j.toNatClampNeg = i) (hlt : i < vs.length) (na : Z.heap.size ≤ a) (sf : a ∈ F ∨ w ≤ a) 
    (g : ∀ h', Wr h h' a i (.int (nar .byte x)) → Arl Z h' a .byte (vs.set i (.int (nar .byte x))) → Goes p l e R s m args below meth c Z EL nw Q F w h' k n (mkF m nx Ls st)) : Goes p l e R s m args below meth c Z EL nw Q F w h k n (mkF m pc Ls (.int x :: .int j :: .ref a :: st)) := by
  obtain ⟨d1, rfl⟩ := d
  intro T vm0 locs k0 H
  obtain ⟨X, eT, N, S, hk0, hZ, H1, hw, hF, O', hwm, hbk⟩ := id H
  have sa : Safe Z EL vm0 h a := sf.elim (fun q => (hF a q).2) (hwm a)
  obtain ⟨cl, A', q1, q2, q3⟩ := id A
  subst hi
  obtain ⟨T', h', X', e', W', st'⟩ := stB X C.1 hZ eT A' (j := j) (x := x) (inb rfl hj (by rw [q1]; exact hlt)) (g := mkF m pc Ls (.int x :: .int j :: .ref a :: st)) rfl rfl (hb C.2.1 d1)
  obtain ⟨t, v, L, h1, r⟩ := g h' W' (A.set W' (fits_b8' _)) T' vm0 _ k0 (H.step X' e' (Fr.snoc X' N na) (Keep.of_wr W') (fun x hx => by cases List.mem_singleton.mp hx; exact ⟨sa, na⟩))
  exact ⟨t, v, L, st' _ h1, r⟩
theorem Cxt.iastore (C : Cxt p m meth c Z a0 EL own mn bytes ml ret Ws) {a : Addr} {vs : List Value} {j x : Int32} {i : Nat} (d : Dec bytes pc .iastore 1 nx) (A : Arl Z h a .int vs) (hj : ¬ j < 0) (hi : j.toNatClampNeg = i) (hlt : i < vs.length) (na : Z.heap.size ≤ a) 
    (g : ∀ h', Wr h h' a i (.int (x)) → Arl Z h' a .int (vs.set i (.int (x))) → Goes p l e R s m args below meth c Z EL nw Q F w h' k n (mkF m nx Ls st)) : Goes p l e R s m args below meth c Z EL nw Q F w h k n (mkF m pc Ls (.int x :: .int j :: .ref a :: st)) := by
  obtain ⟨d1, rfl⟩ := d
  intro T vm0 locs k0 H
  obtain ⟨X, eT, N, S, hk0, hZ, H1, hw, hF, O', hwm, hbk⟩ := id H
  have sa : Safe Z EL vm0 h a := Arl.safe hZ.alike A (by simp)
  obtain ⟨cl, A', q1, q2, q3⟩ := id A
  subst hi
  obtain ⟨T', h', X', e', W', st'⟩ := stI X C.1 hZ eT A' (j := j) (x := x) (inb rfl hj (by rw [q1]; exact hlt)) (g := mkF m pc Ls (.int x :: .int j :: .ref a :: st)) rfl rfl (hb C.2.1 d1)
  obtain ⟨t, v, L, h1, r⟩ := g h' W' (A.set W' (rfl)) T' vm0 _ k0 (H.step X' e' (Fr.snoc X' N na) (Keep.of_wr W') (fun x hx => by cases List.mem_singleton.mp hx; exact ⟨sa, na⟩))
  exact ⟨t, v, L, st' _ h1, r⟩
theorem ofNat_idx {i : Nat} (h : i < 2 ^ 31) : ¬ (Int32.ofNat i) < 0 ∧ (Int32.ofNat i).toNatClampNeg = i := by
  have q := idx_in (i := i) (n := i + 1) (Nat.lt_succ_self i)
  have e : (Int32.ofNat i).toInt = i := by
    rw [Int32.toInt_ofNat']
    simp only [Int.bmod_def]
    have z : (Int32.size : Int) = 4294967296 := rfl
    rw [z]
    omega
  constructor
  · intro z; rw [Int32.lt_iff_toInt_lt, e] at z; simp at z; omega
  · simp [Int32.toNatClampNeg, e]
theorem arl_of_arv {Z : State} {h : Heap} {a : Addr} {kb : ClassId} {ty : FieldType} {z : Int32} {vs : List Value} {dv : Value} (A : Arv Z h a kb ty z vs dv) (hz : z.toNatClampNeg = vs.length) (hl : vs.length < 2 ^ 31) : Arl Z h a ty vs := by
  obtain ⟨cl, A, -, q2, -, H, G⟩ := A
  have e : cl.slots.toList = vs := by
    apply List.ext_getElem?
    intro i
    by_cases hi : i < cl.slots.size
    · have := H i hi
      rw [Array.getElem?_toList, this]
      have hi' : i < vs.length := by omega
      simp [List.getD_eq_getElem?_getD, hi']
    · rw [List.getElem?_eq_none (by simpa using hi), List.getElem?_eq_none (by omega)]
  refine ⟨cl, A, e, hl, fun v hv => ?_⟩
  obtain ⟨i, hi, rfl⟩ := List.mem_iff_getElem.mp hv
  have := G i (by omega)
  simpa [List.getD_eq_getElem?_getD, hi] using this
theorem Con.of {y : MethodName} {rm : Room} {as' : Array Value} (hy : plainFor y = true) (hw : ∀ d ∈ Ws, d.before a0 Z = true) (hEL : EW Z a0 EL) (Ls : Array Slot) (hef : ∀ m, entryFrame m as' ml = mkF m 0 Ls [])
    (g : ∀ (p : Program) (e : Env) (s : State) (m : MethodId) (below : List Frame) (meth : Method) (c : Code), s.heap = h → Cxt p m meth c Z a0 EL y.cls y.name bytes ml ret Ws → Goes p l e rm s m as' below meth c Z EL nw Q F h.size h 0 0 (mkF m 0 Ls [])) : Con l Z EL nw y bytes ml ret rm F as' h Q := by
  intro ws
  refine MetFree.of_bodySF hy hisR ?_
  intro p e s m args below meth c s₁ Bd hml0 hP hK
  obtain ⟨rfl, hZ, hh, hC, hF, hO⟩ := hP
  have C : Cxt p m meth c Z a0 EL y.cls y.name bytes ml ret Ws := ⟨Bd.exec, Bd.bytes, hml0, (hZ.alike.findClass _ _).symm.trans (findClass_of_methodNamed Bd.named), Bd.returns, Bd.notSynchronized, (name_of_methodNamed Bd.named Bd.method).1, hw, hEL⟩
  have X0 : Stand p l e rm s m args below meth c s₁ [] 0 0 := Stand.of_body Bd
  have e0 : s₁.heap = h := by rw [← hh, Bd.state]; rfl
  subst hh
  obtain ⟨t, v, L, h1, h2, h3, h4, h5, h6, h7, h8, h9⟩ := g p e s m below meth c rfl C s₁ s.vm [] 0 ⟨X0, e0, Fr.nil _, (State.WarmedH.refl s).since 0, Nat.zero_le _, hZ, CHr.refl hC, fun _ => State.WarmedH.refl s, hF, hO, fun x hx => Safe.new hx, fun _ y hy => hy⟩
  exact ⟨t, .returned v, castTop (hef m) h1, h2, h3, v, L, rfl, h4, h5, h6, h7, h8, h9⟩
theorem Con.pays {y : MethodName} {yb : ByteArray} {yl : Nat} {yr : Option FieldType} {rm : Room} {as' : Array Value} {len W : Nat} (K : Con l Z EL nw y yb yl yr rm F as' h Q) (wc : (Jvm.Cond.code y yb yl yr).before a0 Z = true) (wz : (Jvm.Cond.initialized y.cls).before a0 Z = true) (hEL : EW Z a0 EL) (hf : rm.frames + 1 ≤ R.frames) (hl : W + (yl + 11) + rm.locals ≤ R.locals) :
    Pays p l e R s args below Z EL nw y len W F as' h rm.cells rm.slots Q := by
  intro vm0 hZ H hF hO
  refine BackS.of_freeW (bytes := yb) (maxL := yl) (ret := yr) (E := fun _ first o t L k n => k = rm.cells ∧ n = rm.slots ∧ (∃ v, o = .returned v ∧ Q v t.heap) ∧ Fr Z.heap.size L ∧ CHr Z EL first.vm first.heap t.vm t.heap ∧ (nw = true → first.WarmedH t.vm ∧ ∀ y, Bk Z EL t.vm t.heap y → Bk Z EL first.vm first.heap y) ∧ Ext Z.heap t.heap) (K []) hf hl
    (fun m meth c A a Y hp => have hU : Z.Warmed39 A.U.vm := wtrans (s := s.setVm vm0) hZ Y.warmed
      ⟨by show (Jvm.Cond.and _ .tt).before a A.U = true; rw [Cond.before_and, mv hU wc]; rfl, mv hU wc, mv hU wz, hp.2.2.1, hp.2.2.2⟩)
    (fun m meth c A a g mk Y hp => ⟨hp.1, wtrans (s := s.setVm vm0) hZ Y.warmed, hp.2.1, (CHv.at Y hZ hEL H).1, fun x hx => ⟨(hF x hx).1, (CHv.at Y hZ hEL H).safe (hF x hx).1 (hF x hx).2⟩, hO⟩) (fun _ _ _ _ _ _ _ _ _ => trivial)
    (fun _ _ _ _ ⟨v, L, h1, h2, h3, h4, h5, h6, h7⟩ => ⟨L, _, _, h7, rfl, rfl, ⟨v, h1, h2⟩, h3, h4, h5, h6⟩)
    (fun m meth c A a g mk v t L k n Y hp _ _ ⟨e1, e2, ⟨v', e3, e4⟩, e5, e6, e7, e8⟩ => by
      cases e3; subst e1 e2
      refine ⟨L, e4, e5, rfl, rfl, rfl, (CHv.at Y hZ hEL H).trans ?_, fun q => ⟨State.WarmedH.trans Y.warmed (e7 q).1, fun y hy => ?_⟩, e8⟩
      · rw [← hp.2.1]; exact e6
      · have z := (e7 q).2 y hy
        have z' : Bk Z EL A.U.vm h y := by rw [← hp.2.1]; exact z
        rcases (CHv.at Y hZ hEL H).2.2 y z' with z2 | z2
        · exact z2
        · obtain ⟨cell, hcell⟩ := z'.there
          exact absurd (Array.getElem?_eq_some_iff.mp hcell).1 (Nat.not_lt.mpr z2))
theorem Pays.mono {y : MethodName} {as' : Array Value} {len W rc rs : Nat} {Q' : Option Value → Heap → Prop} (K : Pays p l e R s args below Z EL nw y len W F as' h rc rs Q) (hq : ∀ v h', Q v h' → Q' v h') : Pays p l e R s args below Z EL nw y len W F as' h rc rs Q' := by
  intro vm0 hZ H hF hO m meth c A g ig mk a X hg hsize hdg hW hn hp
  obtain ⟨v, B, X', S, gr, ⟨L, h1, r⟩, stp⟩ := K vm0 hZ H hF hO m meth c A g ig mk a X hg hsize hdg hW hn hp
  exact ⟨v, B, X', S, gr, ⟨L, hq _ _ h1, r⟩, stp⟩
theorem after {nwc : Bool} (hnw : nw = true → nwc = true) {T : State} {vm0 : Vm} {locs : List Loc} {k0 rc rs : Nat} {B : Pt} {vm1 : Vm} (H : Here p l e R s m args below meth c Z EL nw F w h k n T vm0 locs k0) (X' : Stand p l e R (s.setVm B.U.vm) m args below meth c B.U B.locs B.cells B.slots) (S' : (s.setVm vm0).Since B.U.vm B.U.heap.size) (gr : T.heap.size ≤ B.U.heap.size)
    (post : ∃ L, Fr Z.heap.size L ∧ B.locs = locs ++ L ∧ B.cells = k + rc ∧ B.slots = n + rs ∧ CHr Z EL vm0 h B.U.vm B.U.heap ∧ (nwc = true → (s.setVm vm0).WarmedH B.U.vm ∧ ∀ y, Bk Z EL B.U.vm B.U.heap y → Bk Z EL vm0 h y) ∧ Ext Z.heap B.U.heap) : Here p l e R s m args below meth c Z EL nw F (wm nwc w B.U.heap) B.U.heap (k + rc) (n + rs) B.U B.U.vm B.locs B.U.heap.size := by
  obtain ⟨X, eT, N, S, hk0, hZ, H1, hw, hF, O, hwm, hbk⟩ := H
  obtain ⟨L, p1, p2, p3, p4, p5, p6, p7⟩ := post
  rw [p3, p4] at X'
  rw [eT] at gr
  refine ⟨X', rfl, by rw [p2]; exact N.app p1, S.trans S' (Nat.le_trans hk0 gr), Nat.le_refl _, State.Warmed39.trans (t := s.setVm vm0) hZ S'.1, H1.trans p5, fun q => State.WarmedH.trans (t := s.setVm vm0) (hw q) (p6 (hnw q)).1, fun x hx => ⟨Nat.lt_of_lt_of_le (hF x hx).1 gr, p5.safe (hF x hx).1 (hF x hx).2⟩, p7, fun x hx => ?_, fun q y hy => hbk q y ((p6 (hnw q)).2 y hy)⟩
  cases nwc with
  | true => exact fun hy => hwm x hx ((p6 rfl).2 x hy)
  | false => exact Safe.new hx
theorem Cxt.static (C : Cxt p m meth c Z a0 EL own mn bytes ml ret Ws) {nwc : Bool} (hnw : nw = true → nwc = true) {F' : List Addr} (hF' : ∀ x ∈ F', x ∈ F ∨ (w ≤ x ∧ x < h.size)) {idx W rc rs : Nat} {y : MethodName} {yb : ByteArray} {yl : Nat} {yr : Option FieldType} {Qc : Option Value → Heap → Prop} {argsL rest : List Value} (d : Dec bytes pc (.invokestatic idx) 3 nx) (w1 : Jvm.Cond.methodLink own idx y ∈ Ws) (w2 : Jvm.Cond.static y ∈ Ws) (w3 : Jvm.Cond.initialized y.cls ∈ Ws) (w4 : Jvm.Cond.code y yb yl yr ∈ Ws)
    (hy : y.cls ≠ "java/lang/invoke/MethodHandle" ∧ y.cls ≠ "java/lang/invoke/VarHandle") (hlen : ∀ sig, parseMethodDescriptor y.desc = some sig → argsL.length = sig.parameters.length) (hst : st = argsL.reverse ++ rest) (hsz : Ls.size = ml) (hk : k + rc ≤ R.cells) (hn : n + rs ≤ R.slots)
    (K : Pays p l e R s args below Z EL nwc y 3 W F' argsL.toArray h rc rs Qc) (hW : (rest.map fun v => v.category).sum ≤ W) (g : ∀ v h', Qc v h' → Goes p l e R s m args below meth c Z EL nw Q F (wm nwc w h') h' (k + rc) (n + rs) (mkF m nx Ls (v.toList ++ rest))) : Goes p l e R s m args below meth c Z EL nw Q F w h k n (mkF m pc Ls st) := by
  obtain ⟨d1, rfl⟩ := d
  intro T vm0 locs k0 H
  obtain ⟨X, eT, N, S, hk0, hZ, H1, hw, hF, O, hwm, hbk⟩ := id H
  obtain ⟨v, vm1, B, hW1, X', S', gr, ⟨L, q, post⟩, st'⟩ := callSS X C.1 (C.own_at hZ) (mv hZ (C.wrd w1)) (mv hZ (C.wrd w2)) (mv hZ (C.wrd w3)) (mv hZ (C.wrd w4)) hy (K vm0 hZ H1.1 (fun x hx => (hF' x hx).elim (hF x) fun q => ⟨q.2, hwm x q.1⟩) O) (g := mkF m pc Ls st) rfl (hsz.trans C.2.2.1.symm) hlen hst (by show 2 * 0 + _ ≤ _; omega) (hb C.2.1 d1) (fun vm1 _ => ⟨rfl, eT, hk, hn⟩)
  obtain ⟨t, v, L, h1, r⟩ := g v B.U.heap q B.U B.U.vm B.locs B.U.heap.size (after (nwc := nwc) hnw (vm1 := vm1) H X' S' gr ⟨L, post⟩)
  exact ⟨t, v, L, st'.trans h1, r⟩
theorem Cxt.special (C : Cxt p m meth c Z a0 EL own mn bytes ml ret Ws) {nwc : Bool} (hnw : nw = true → nwc = true) {F' : List Addr} (hF' : ∀ x ∈ F', x ∈ F ∨ (w ≤ x ∧ x < h.size)) {idx W rc rs : Nat} {y : MethodName} {yb : ByteArray} {yl : Nat} {Qc : Option Value → Heap → Prop} {a : Addr} {argsL rest : List Value} (d : Dec bytes pc (.invokespecial idx) 3 nx) (hy1 : y.name = "<init>") (w1 : Jvm.Cond.methodLink own idx y ∈ Ws) (w2 : Jvm.Cond.instanceMethod y ∈ Ws) (w4 : Jvm.Cond.code y yb yl none ∈ Ws)
    (hy : y.cls ≠ "java/lang/invoke/MethodHandle" ∧ y.cls ≠ "java/lang/invoke/VarHandle") (hlen : ∀ sig, parseMethodDescriptor y.desc = some sig → argsL.length = sig.parameters.length) (hst : st = argsL.reverse ++ .ref a :: rest) (hsz : Ls.size = ml) (hk : k + rc ≤ R.cells) (hn : n + rs ≤ R.slots)
    (K : Pays p l e R s args below Z EL nwc y 3 W F' (.ref a :: argsL).toArray h rc rs Qc) (hW : (rest.map fun v => v.category).sum ≤ W) (g : ∀ v h', Qc v h' → Goes p l e R s m args below meth c Z EL nw Q F (wm nwc w h') h' (k + rc) (n + rs) (mkF m nx Ls (v.toList ++ rest))) : Goes p l e R s m args below meth c Z EL nw Q F w h k n (mkF m pc Ls st) := by
  obtain ⟨d1, rfl⟩ := d
  intro T vm0 locs k0 H
  obtain ⟨X, eT, N, S, hk0, hZ, H1, hw, hF, O, hwm, hbk⟩ := id H
  obtain ⟨v, vm1, B, hW1, X', S', gr, ⟨L, q, post⟩, st'⟩ := X.specialBackS C.1 hy1 (C.own_at hZ) (mv hZ (C.wrd w1)) (mv hZ (C.wrd w2)) (mv hZ (C.wrd w4)) hy (K vm0 hZ H1.1 (fun x hx => (hF' x hx).elim (hF x) fun q => ⟨q.2, hwm x q.1⟩) O) (g := mkF m pc Ls st) rfl (hsz.trans C.2.2.1.symm) (Steps.refl _) hlen hst (by show 2 * 0 + _ ≤ _; omega) (hb C.2.1 d1) (fun vm1 _ => ⟨rfl, eT, hk, hn⟩)
  obtain ⟨t, v, L, h1, r⟩ := g v B.U.heap q B.U B.U.vm B.locs B.U.heap.size (after (nwc := nwc) hnw (vm1 := vm1) H X' S' gr ⟨L, post⟩)
  exact ⟨t, v, L, st'.trans h1, r⟩
theorem Cxt.virtual (C : Cxt p m meth c Z a0 EL own mn bytes ml ret Ws) {nwc : Bool} (hnw : nw = true → nwc = true) {F' : List Addr} (hF' : ∀ x ∈ F', x ∈ F ∨ (w ≤ x ∧ x < h.size)) {idx W rc rs : Nat} {y z : MethodName} {cls : String} {Qc : Option Value → Heap → Prop} {a : Addr} {argsL rest : List Value} (d : Dec bytes pc (.invokevirtual idx) 3 nx) (w1 : Jvm.Cond.methodLink own idx y ∈ Ws) (w2 : Jvm.Cond.declares y ∈ Ws) (w3 : Jvm.Cond.selects cls y z ∈ Ws) (w4 : Jvm.Cond.instanceMethod z ∈ Ws)
    (hy : y.cls ≠ "java/lang/invoke/MethodHandle" ∧ y.cls ≠ "java/lang/invoke/VarHandle") (hlen : ∀ sig, parseMethodDescriptor y.desc = some sig → argsL.length = sig.parameters.length) (hst : st = argsL.reverse ++ .ref a :: rest) (hsz : Ls.size = ml) (hk : k + rc ≤ R.cells) (hn : n + rs ≤ R.slots) (E : Exa Z h a cls)
    (nf : ∀ vm0 : Vm, (Jvm.Cond.selects cls y z).before args (s.setVm vm0) = true → NotFace (s.setVm vm0) y)
    (K : Pays p l e R s args below Z EL nwc z 3 W F' (.ref a :: argsL).toArray h rc rs Qc) (hW : (rest.map fun v => v.category).sum ≤ W) (g : ∀ v h', Qc v h' → Goes p l e R s m args below meth c Z EL nw Q F (wm nwc w h') h' (k + rc) (n + rs) (mkF m nx Ls (v.toList ++ rest))) : Goes p l e R s m args below meth c Z EL nw Q F w h k n (mkF m pc Ls st) := by
  obtain ⟨d1, rfl⟩ := d
  intro T vm0 locs k0 H
  obtain ⟨X, eT, N, S, hk0, hZ, H1, hw, hF, O, hwm, hbk⟩ := id H
  obtain ⟨cq, kq, qa, qb, qc⟩ := isOf (s := s.setVm vm0) hZ eT E
  obtain ⟨v, vm1, B, hW1, X', S', gr, ⟨L, q, post⟩, st'⟩ := X.virtualBackS C.1 (C.own_at hZ) (mv hZ (C.wrd w1)) (mv hZ (C.wrd w2)) (nf vm0 (mv hZ (C.wrd w3))) (mv hZ (C.wrd w3)) (mv hZ (C.wrd w4)) hy (K vm0 hZ H1.1 (fun x hx => (hF' x hx).elim (hF x) fun q => ⟨q.2, hwm x q.1⟩) O) qa qc (g := mkF m pc Ls st) rfl (hsz.trans C.2.2.1.symm) (Steps.refl _) hlen hst (by show 2 * 0 + _ ≤ _; omega) (hb C.2.1 d1) (fun vm1 _ => ⟨rfl, eT, hk, hn⟩)
  obtain ⟨t, v, L, h1, r⟩ := g v B.U.heap q B.U B.U.vm B.locs B.U.heap.size (after (nwc := nwc) hnw (vm1 := vm1) H X' S' gr ⟨L, post⟩)
  exact ⟨t, v, L, st'.trans h1, r⟩
def rV (Q : Heap → Prop) : Option Value → Heap → Prop := fun o h => o = none ∧ Q h
def rR (Q : Value → Heap → Prop) : Option Value → Heap → Prop := fun o h => ∃ v, o = some v ∧ Q v h
theorem Pays.less {y : MethodName} {as' : Array Value} {len W rc rs : Nat} {F' : List Addr} (hF : ∀ x ∈ F', x ∈ F) (K : Pays p l e R s args below Z EL nw y len W F' as' h rc rs Q) : Pays p l e R s args below Z EL nw y len W F as' h rc rs Q := fun vm0 hZ H hF1 hO => K vm0 hZ H (fun x hx => hF1 x (hF x hx)) hO
theorem Con.weaken {y : MethodName} {yb : ByteArray} {yl : Nat} {yr : Option FieldType} {rm : Room} {as' : Array Value} {Q' : Option Value → Heap → Prop} (hq : ∀ v h', Q v h' → Q' v h') (K : Con l Z EL nw y yb yl yr rm F as' h Q) : Con l Z EL nw y yb yl yr rm F as' h Q' := by
  intro ws p e ha hc hk s m args below hf happ hP hK
  obtain ⟨n, o, h1, h2, h3, v, L, h4, h5, r⟩ := K ws p e ha hc hk s m args below hf happ hP hK
  exact ⟨n, o, h1, h2, h3, v, L, h4, hq _ _ h5, r⟩
theorem len_par {d : String} {k : Nat} (h : (parseMethodDescriptor d).map (fun sg => sg.parameters.length) = some k) {L : List Value} (hl : L.length = k) : ∀ sig, parseMethodDescriptor d = some sig → L.length = sig.parameters.length := fun sig hs => by
  rw [hs] at h; simp at h; omega
theorem Cxt.s0V (C : Cxt p m meth c Z a0 EL own mn bytes ml ret Ws) {idx : Nat} {y : MethodName} {yb : ByteArray} {yl : Nat} {yr : Option FieldType} {rm : Room} {F' : List Addr}  {Qc : Heap → Prop} {nwc : Bool} (d : Dec bytes pc (.invokestatic idx) 3 nx) (w1 : Jvm.Cond.methodLink own idx y ∈ Ws) (w2 : Jvm.Cond.static y ∈ Ws) (w3 : Jvm.Cond.initialized y.cls ∈ Ws) (w4 : Jvm.Cond.code y yb yl yr ∈ Ws) (hy : y.cls ≠ "java/lang/invoke/MethodHandle" ∧ y.cls ≠ "java/lang/invoke/VarHandle") (hpar : (parseMethodDescriptor y.desc).map (fun sg => sg.parameters.length) = some 0) (hsz : Ls.size = ml) (hF : ∀ x ∈ F', x ∈ F ∨ (w ≤ x ∧ x < h.size))
    (K : Con l Z EL nwc y yb yl yr rm F' #[] h (rV Qc)) (hf : rm.frames + 1 ≤ R.frames) (hl : (st.map fun v => v.category).sum + (yl + 11) + rm.locals ≤ R.locals) (hk : k + rm.cells ≤ R.cells) (hn : n + rm.slots ≤ R.slots) (g : ∀ h', Qc h' → Goes p l e R s m args below meth c Z EL nw Q F (wm nwc w h') h' (k + rm.cells) (n + rm.slots) (mkF m nx Ls st)) (hnw : nw = true → nwc = true := by first | exact id | exact fun _ => rfl) : Goes p l e R s m args below meth c Z EL nw Q F w h k n (mkF m pc Ls st) :=
  C.static hnw hF (argsL := []) (rest := st) d w1 w2 w3 w4 hy (len_par hpar rfl) rfl hsz hk hn (K.pays (C.wrd w4) (C.wrd w3) C.2.2.2.2.2.2.2.2 hf hl) (Nat.le_refl _) (fun v h' q => by obtain ⟨rfl, q⟩ := q; exact g h' q)
theorem Cxt.c0 (C : Cxt p m meth c Z a0 EL own mn bytes ml ret Ws) {idx : Nat} {y : MethodName} {yb : ByteArray} {yl : Nat} {rm : Room} {F' : List Addr} {a : Addr}  {Qc : Heap → Prop} {nwc : Bool} (d : Dec bytes pc (.invokespecial idx) 3 nx) (hy1 : y.name = "<init>") (w1 : Jvm.Cond.methodLink own idx y ∈ Ws) (w2 : Jvm.Cond.instanceMethod y ∈ Ws) (w3 : Jvm.Cond.initialized y.cls ∈ Ws) (w4 : Jvm.Cond.code y yb yl none ∈ Ws) (hy : y.cls ≠ "java/lang/invoke/MethodHandle" ∧ y.cls ≠ "java/lang/invoke/VarHandle") (hpar : (parseMethodDescriptor y.desc).map (fun sg => sg.parameters.length) = some 0) (hsz : Ls.size = ml) (hF : ∀ x ∈ F', x ∈ F ∨ (w ≤ x ∧ x < h.size))
    (K : Con l Z EL nwc y yb yl none rm F' #[.ref a] h (rV Qc)) (hf : rm.frames + 1 ≤ R.frames) (hl : (st.map fun v => v.category).sum + (yl + 11) + rm.locals ≤ R.locals) (hk : k + rm.cells ≤ R.cells) (hn : n + rm.slots ≤ R.slots) (g : ∀ h', Qc h' → Goes p l e R s m args below meth c Z EL nw Q F (wm nwc w h') h' (k + rm.cells) (n + rm.slots) (mkF m nx Ls st)) (hnw : nw = true → nwc = true := by first | exact id | exact fun _ => rfl) : Goes p l e R s m args below meth c Z EL nw Q F w h k n (mkF m pc Ls (.ref a :: st)) :=
  C.special hnw hF (argsL := []) (rest := st) d hy1 w1 w2 w4 hy (len_par hpar rfl) rfl hsz hk hn (K.pays (C.wrd w4) (C.wrd w3) C.2.2.2.2.2.2.2.2 hf hl) (Nat.le_refl _) (fun v h' q => by obtain ⟨rfl, q⟩ := q; exact g h' q)
theorem Cxt.v0V (C : Cxt p m meth c Z a0 EL own mn bytes ml ret Ws) {idx : Nat} {y z : MethodName} {yb : ByteArray} {yl : Nat} {yr : Option FieldType} {rm : Room} {F' : List Addr} {cls : String} {a : Addr}  {Qc : Heap → Prop} {nwc : Bool} (d : Dec bytes pc (.invokevirtual idx) 3 nx) (w1 : Jvm.Cond.methodLink own idx y ∈ Ws) (w2 : Jvm.Cond.declares y ∈ Ws) (w5 : Jvm.Cond.selects cls y z ∈ Ws) (w6 : Jvm.Cond.instanceMethod z ∈ Ws) (w3 : Jvm.Cond.initialized z.cls ∈ Ws) (w4 : Jvm.Cond.code z yb yl yr ∈ Ws) (hy : y.cls ≠ "java/lang/invoke/MethodHandle" ∧ y.cls ≠ "java/lang/invoke/VarHandle") (hpar : (parseMethodDescriptor y.desc).map (fun sg => sg.parameters.length) = some 0) (hsz : Ls.size = ml) (hF : ∀ x ∈ F', x ∈ F ∨ (w ≤ x ∧ x < h.size)) (E : Exa Z h a cls)
    (nf : ∀ vm0 : Vm, (Jvm.Cond.selects cls y z).before args (s.setVm vm0) = true → NotFace (s.setVm vm0) y)
    (K : Con l Z EL nwc z yb yl yr rm F' #[.ref a] h (rV Qc)) (hf : rm.frames + 1 ≤ R.frames) (hl : (st.map fun v => v.category).sum + (yl + 11) + rm.locals ≤ R.locals) (hk : k + rm.cells ≤ R.cells) (hn : n + rm.slots ≤ R.slots) (g : ∀ h', Qc h' → Goes p l e R s m args below meth c Z EL nw Q F (wm nwc w h') h' (k + rm.cells) (n + rm.slots) (mkF m nx Ls st)) (hnw : nw = true → nwc = true := by first | exact id | exact fun _ => rfl) : Goes p l e R s m args below meth c Z EL nw Q F w h k n (mkF m pc Ls (.ref a :: st)) :=
  C.virtual hnw hF (argsL := []) (rest := st) d w1 w2 w5 w6 hy (len_par hpar rfl) rfl hsz hk hn E nf (K.pays (C.wrd w4) (C.wrd w3) C.2.2.2.2.2.2.2.2 hf hl) (Nat.le_refl _) (fun v h' q => by obtain ⟨rfl, q⟩ := q; exact g h' q)
theorem Cxt.s0R (C : Cxt p m meth c Z a0 EL own mn bytes ml ret Ws) {idx : Nat} {y : MethodName} {yb : ByteArray} {yl : Nat} {yr : Option FieldType} {rm : Room} {F' : List Addr}  {Qc : Value → Heap → Prop} {nwc : Bool} (d : Dec bytes pc (.invokestatic idx) 3 nx) (w1 : Jvm.Cond.methodLink own idx y ∈ Ws) (w2 : Jvm.Cond.static y ∈ Ws) (w3 : Jvm.Cond.initialized y.cls ∈ Ws) (w4 : Jvm.Cond.code y yb yl yr ∈ Ws) (hy : y.cls ≠ "java/lang/invoke/MethodHandle" ∧ y.cls ≠ "java/lang/invoke/VarHandle") (hpar : (parseMethodDescriptor y.desc).map (fun sg => sg.parameters.length) = some 0) (hsz : Ls.size = ml) (hF : ∀ x ∈ F', x ∈ F ∨ (w ≤ x ∧ x < h.size))
    (K : Con l Z EL nwc y yb yl yr rm F' #[] h (rR Qc)) (hf : rm.frames + 1 ≤ R.frames) (hl : (st.map fun v => v.category).sum + (yl + 11) + rm.locals ≤ R.locals) (hk : k + rm.cells ≤ R.cells) (hn : n + rm.slots ≤ R.slots) (g : ∀ v h', Qc v h' → Goes p l e R s m args below meth c Z EL nw Q F (wm nwc w h') h' (k + rm.cells) (n + rm.slots) (mkF m nx Ls (v :: st))) (hnw : nw = true → nwc = true := by first | exact id | exact fun _ => rfl) : Goes p l e R s m args below meth c Z EL nw Q F w h k n (mkF m pc Ls st) :=
  C.static hnw hF (argsL := []) (rest := st) d w1 w2 w3 w4 hy (len_par hpar rfl) rfl hsz hk hn (K.pays (C.wrd w4) (C.wrd w3) C.2.2.2.2.2.2.2.2 hf hl) (Nat.le_refl _) (fun v h' q => by obtain ⟨v, rfl, q⟩ := q; exact g v h' q)
theorem Cxt.v0R (C : Cxt p m meth c Z a0 EL own mn bytes ml ret Ws) {idx : Nat} {y z : MethodName} {yb : ByteArray} {yl : Nat} {yr : Option FieldType} {rm : Room} {F' : List Addr} {cls : String} {a : Addr}  {Qc : Value → Heap → Prop} {nwc : Bool} (d : Dec bytes pc (.invokevirtual idx) 3 nx) (w1 : Jvm.Cond.methodLink own idx y ∈ Ws) (w2 : Jvm.Cond.declares y ∈ Ws) (w5 : Jvm.Cond.selects cls y z ∈ Ws) (w6 : Jvm.Cond.instanceMethod z ∈ Ws) (w3 : Jvm.Cond.initialized z.cls ∈ Ws) (w4 : Jvm.Cond.code z yb yl yr ∈ Ws) (hy : y.cls ≠ "java/lang/invoke/MethodHandle" ∧ y.cls ≠ "java/lang/invoke/VarHandle") (hpar : (parseMethodDescriptor y.desc).map (fun sg => sg.parameters.length) = some 0) (hsz : Ls.size = ml) (hF : ∀ x ∈ F', x ∈ F ∨ (w ≤ x ∧ x < h.size)) (E : Exa Z h a cls)
    (nf : ∀ vm0 : Vm, (Jvm.Cond.selects cls y z).before args (s.setVm vm0) = true → NotFace (s.setVm vm0) y)
    (K : Con l Z EL nwc z yb yl yr rm F' #[.ref a] h (rR Qc)) (hf : rm.frames + 1 ≤ R.frames) (hl : (st.map fun v => v.category).sum + (yl + 11) + rm.locals ≤ R.locals) (hk : k + rm.cells ≤ R.cells) (hn : n + rm.slots ≤ R.slots) (g : ∀ v h', Qc v h' → Goes p l e R s m args below meth c Z EL nw Q F (wm nwc w h') h' (k + rm.cells) (n + rm.slots) (mkF m nx Ls (v :: st))) (hnw : nw = true → nwc = true := by first | exact id | exact fun _ => rfl) : Goes p l e R s m args below meth c Z EL nw Q F w h k n (mkF m pc Ls (.ref a :: st)) :=
  C.virtual hnw hF (argsL := []) (rest := st) d w1 w2 w5 w6 hy (len_par hpar rfl) rfl hsz hk hn E nf (K.pays (C.wrd w4) (C.wrd w3) C.2.2.2.2.2.2.2.2 hf hl) (Nat.le_refl _) (fun v h' q => by obtain ⟨v, rfl, q⟩ := q; exact g v h' q)
theorem Cxt.s1V (C : Cxt p m meth c Z a0 EL own mn bytes ml ret Ws) {idx : Nat} {y : MethodName} {yb : ByteArray} {yl : Nat} {yr : Option FieldType} {rm : Room} {F' : List Addr} {x1 : Value} {Qc : Heap → Prop} {nwc : Bool} (d : Dec bytes pc (.invokestatic idx) 3 nx) (w1 : Jvm.Cond.methodLink own idx y ∈ Ws) (w2 : Jvm.Cond.static y ∈ Ws) (w3 : Jvm.Cond.initialized y.cls ∈ Ws) (w4 : Jvm.Cond.code y yb yl yr ∈ Ws) (hy : y.cls ≠ "java/lang/invoke/MethodHandle" ∧ y.cls ≠ "java/lang/invoke/VarHandle") (hpar : (parseMethodDescriptor y.desc).map (fun sg => sg.parameters.length) = some 1) (hsz : Ls.size = ml) (hF : ∀ x ∈ F', x ∈ F ∨ (w ≤ x ∧ x < h.size))
    (K : Con l Z EL nwc y yb yl yr rm F' #[x1] h (rV Qc)) (hf : rm.frames + 1 ≤ R.frames) (hl : (st.map fun v => v.category).sum + (yl + 11) + rm.locals ≤ R.locals) (hk : k + rm.cells ≤ R.cells) (hn : n + rm.slots ≤ R.slots) (g : ∀ h', Qc h' → Goes p l e R s m args below meth c Z EL nw Q F (wm nwc w h') h' (k + rm.cells) (n + rm.slots) (mkF m nx Ls st)) (hnw : nw = true → nwc = true := by first | exact id | exact fun _ => rfl) : Goes p l e R s m args below meth c Z EL nw Q F w h k n (mkF m pc Ls (x1 :: st)) :=
  C.static hnw hF (argsL := [x1]) (rest := st) d w1 w2 w3 w4 hy (len_par hpar rfl) rfl hsz hk hn (K.pays (C.wrd w4) (C.wrd w3) C.2.2.2.2.2.2.2.2 hf hl) (Nat.le_refl _) (fun v h' q => by obtain ⟨rfl, q⟩ := q; exact g h' q)
theorem Cxt.c1 (C : Cxt p m meth c Z a0 EL own mn bytes ml ret Ws) {idx : Nat} {y : MethodName} {yb : ByteArray} {yl : Nat} {rm : Room} {F' : List Addr} {a : Addr} {x1 : Value} {Qc : Heap → Prop} {nwc : Bool} (d : Dec bytes pc (.invokespecial idx) 3 nx) (hy1 : y.name = "<init>") (w1 : Jvm.Cond.methodLink own idx y ∈ Ws) (w2 : Jvm.Cond.instanceMethod y ∈ Ws) (w3 : Jvm.Cond.initialized y.cls ∈ Ws) (w4 : Jvm.Cond.code y yb yl none ∈ Ws) (hy : y.cls ≠ "java/lang/invoke/MethodHandle" ∧ y.cls ≠ "java/lang/invoke/VarHandle") (hpar : (parseMethodDescriptor y.desc).map (fun sg => sg.parameters.length) = some 1) (hsz : Ls.size = ml) (hF : ∀ x ∈ F', x ∈ F ∨ (w ≤ x ∧ x < h.size))
    (K : Con l Z EL nwc y yb yl none rm F' #[.ref a, x1] h (rV Qc)) (hf : rm.frames + 1 ≤ R.frames) (hl : (st.map fun v => v.category).sum + (yl + 11) + rm.locals ≤ R.locals) (hk : k + rm.cells ≤ R.cells) (hn : n + rm.slots ≤ R.slots) (g : ∀ h', Qc h' → Goes p l e R s m args below meth c Z EL nw Q F (wm nwc w h') h' (k + rm.cells) (n + rm.slots) (mkF m nx Ls st)) (hnw : nw = true → nwc = true := by first | exact id | exact fun _ => rfl) : Goes p l e R s m args below meth c Z EL nw Q F w h k n (mkF m pc Ls (x1 :: .ref a :: st)) :=
  C.special hnw hF (argsL := [x1]) (rest := st) d hy1 w1 w2 w4 hy (len_par hpar rfl) rfl hsz hk hn (K.pays (C.wrd w4) (C.wrd w3) C.2.2.2.2.2.2.2.2 hf hl) (Nat.le_refl _) (fun v h' q => by obtain ⟨rfl, q⟩ := q; exact g h' q)
theorem Cxt.v1V (C : Cxt p m meth c Z a0 EL own mn bytes ml ret Ws) {idx : Nat} {y z : MethodName} {yb : ByteArray} {yl : Nat} {yr : Option FieldType} {rm : Room} {F' : List Addr} {cls : String} {a : Addr} {x1 : Value} {Qc : Heap → Prop} {nwc : Bool} (d : Dec bytes pc (.invokevirtual idx) 3 nx) (w1 : Jvm.Cond.methodLink own idx y ∈ Ws) (w2 : Jvm.Cond.declares y ∈ Ws) (w5 : Jvm.Cond.selects cls y z ∈ Ws) (w6 : Jvm.Cond.instanceMethod z ∈ Ws) (w3 : Jvm.Cond.initialized z.cls ∈ Ws) (w4 : Jvm.Cond.code z yb yl yr ∈ Ws) (hy : y.cls ≠ "java/lang/invoke/MethodHandle" ∧ y.cls ≠ "java/lang/invoke/VarHandle") (hpar : (parseMethodDescriptor y.desc).map (fun sg => sg.parameters.length) = some 1) (hsz : Ls.size = ml) (hF : ∀ x ∈ F', x ∈ F ∨ (w ≤ x ∧ x < h.size)) (E : Exa Z h a cls)
    (nf : ∀ vm0 : Vm, (Jvm.Cond.selects cls y z).before args (s.setVm vm0) = true → NotFace (s.setVm vm0) y)
    (K : Con l Z EL nwc z yb yl yr rm F' #[.ref a, x1] h (rV Qc)) (hf : rm.frames + 1 ≤ R.frames) (hl : (st.map fun v => v.category).sum + (yl + 11) + rm.locals ≤ R.locals) (hk : k + rm.cells ≤ R.cells) (hn : n + rm.slots ≤ R.slots) (g : ∀ h', Qc h' → Goes p l e R s m args below meth c Z EL nw Q F (wm nwc w h') h' (k + rm.cells) (n + rm.slots) (mkF m nx Ls st)) (hnw : nw = true → nwc = true := by first | exact id | exact fun _ => rfl) : Goes p l e R s m args below meth c Z EL nw Q F w h k n (mkF m pc Ls (x1 :: .ref a :: st)) :=
  C.virtual hnw hF (argsL := [x1]) (rest := st) d w1 w2 w5 w6 hy (len_par hpar rfl) rfl hsz hk hn E nf (K.pays (C.wrd w4) (C.wrd w3) C.2.2.2.2.2.2.2.2 hf hl) (Nat.le_refl _) (fun v h' q => by obtain ⟨rfl, q⟩ := q; exact g h' q)
theorem Cxt.s1R (C : Cxt p m meth c Z a0 EL own mn bytes ml ret Ws) {idx : Nat} {y : MethodName} {yb : ByteArray} {yl : Nat} {yr : Option FieldType} {rm : Room} {F' : List Addr} {x1 : Value} {Qc : Value → Heap → Prop} {nwc : Bool} (d : Dec bytes pc (.invokestatic idx) 3 nx) (w1 : Jvm.Cond.methodLink own idx y ∈ Ws) (w2 : Jvm.Cond.static y ∈ Ws) (w3 : Jvm.Cond.initialized y.cls ∈ Ws) (w4 : Jvm.Cond.code y yb yl yr ∈ Ws) (hy : y.cls ≠ "java/lang/invoke/MethodHandle" ∧ y.cls ≠ "java/lang/invoke/VarHandle") (hpar : (parseMethodDescriptor y.desc).map (fun sg => sg.parameters.length) = some 1) (hsz : Ls.size = ml) (hF : ∀ x ∈ F', x ∈ F ∨ (w ≤ x ∧ x < h.size))
    (K : Con l Z EL nwc y yb yl yr rm F' #[x1] h (rR Qc)) (hf : rm.frames + 1 ≤ R.frames) (hl : (st.map fun v => v.category).sum + (yl + 11) + rm.locals ≤ R.locals) (hk : k + rm.cells ≤ R.cells) (hn : n + rm.slots ≤ R.slots) (g : ∀ v h', Qc v h' → Goes p l e R s m args below meth c Z EL nw Q F (wm nwc w h') h' (k + rm.cells) (n + rm.slots) (mkF m nx Ls (v :: st))) (hnw : nw = true → nwc = true := by first | exact id | exact fun _ => rfl) : Goes p l e R s m args below meth c Z EL nw Q F w h k n (mkF m pc Ls (x1 :: st)) :=
  C.static hnw hF (argsL := [x1]) (rest := st) d w1 w2 w3 w4 hy (len_par hpar rfl) rfl hsz hk hn (K.pays (C.wrd w4) (C.wrd w3) C.2.2.2.2.2.2.2.2 hf hl) (Nat.le_refl _) (fun v h' q => by obtain ⟨v, rfl, q⟩ := q; exact g v h' q)
theorem Cxt.v1R (C : Cxt p m meth c Z a0 EL own mn bytes ml ret Ws) {idx : Nat} {y z : MethodName} {yb : ByteArray} {yl : Nat} {yr : Option FieldType} {rm : Room} {F' : List Addr} {cls : String} {a : Addr} {x1 : Value} {Qc : Value → Heap → Prop} {nwc : Bool} (d : Dec bytes pc (.invokevirtual idx) 3 nx) (w1 : Jvm.Cond.methodLink own idx y ∈ Ws) (w2 : Jvm.Cond.declares y ∈ Ws) (w5 : Jvm.Cond.selects cls y z ∈ Ws) (w6 : Jvm.Cond.instanceMethod z ∈ Ws) (w3 : Jvm.Cond.initialized z.cls ∈ Ws) (w4 : Jvm.Cond.code z yb yl yr ∈ Ws) (hy : y.cls ≠ "java/lang/invoke/MethodHandle" ∧ y.cls ≠ "java/lang/invoke/VarHandle") (hpar : (parseMethodDescriptor y.desc).map (fun sg => sg.parameters.length) = some 1) (hsz : Ls.size = ml) (hF : ∀ x ∈ F', x ∈ F ∨ (w ≤ x ∧ x < h.size)) (E : Exa Z h a cls)
    (nf : ∀ vm0 : Vm, (Jvm.Cond.selects cls y z).before args (s.setVm vm0) = true → NotFace (s.setVm vm0) y)
    (K : Con l Z EL nwc z yb yl yr rm F' #[.ref a, x1] h (rR Qc)) (hf : rm.frames + 1 ≤ R.frames) (hl : (st.map fun v => v.category).sum + (yl + 11) + rm.locals ≤ R.locals) (hk : k + rm.cells ≤ R.cells) (hn : n + rm.slots ≤ R.slots) (g : ∀ v h', Qc v h' → Goes p l e R s m args below meth c Z EL nw Q F (wm nwc w h') h' (k + rm.cells) (n + rm.slots) (mkF m nx Ls (v :: st))) (hnw : nw = true → nwc = true := by first | exact id | exact fun _ => rfl) : Goes p l e R s m args below meth c Z EL nw Q F w h k n (mkF m pc Ls (x1 :: .ref a :: st)) :=
  C.virtual hnw hF (argsL := [x1]) (rest := st) d w1 w2 w5 w6 hy (len_par hpar rfl) rfl hsz hk hn E nf (K.pays (C.wrd w4) (C.wrd w3) C.2.2.2.2.2.2.2.2 hf hl) (Nat.le_refl _) (fun v h' q => by obtain ⟨v, rfl, q⟩ := q; exact g v h' q)
theorem Cxt.s2V (C : Cxt p m meth c Z a0 EL own mn bytes ml ret Ws) {idx : Nat} {y : MethodName} {yb : ByteArray} {yl : Nat} {yr : Option FieldType} {rm : Room} {F' : List Addr} {x1 x2 : Value} {Qc : Heap → Prop} {nwc : Bool} (d : Dec bytes pc (.invokestatic idx) 3 nx) (w1 : Jvm.Cond.methodLink own idx y ∈ Ws) (w2 : Jvm.Cond.static y ∈ Ws) (w3 : Jvm.Cond.initialized y.cls ∈ Ws) (w4 : Jvm.Cond.code y yb yl yr ∈ Ws) (hy : y.cls ≠ "java/lang/invoke/MethodHandle" ∧ y.cls ≠ "java/lang/invoke/VarHandle") (hpar : (parseMethodDescriptor y.desc).map (fun sg => sg.parameters.length) = some 2) (hsz : Ls.size = ml) (hF : ∀ x ∈ F', x ∈ F ∨ (w ≤ x ∧ x < h.size))
    (K : Con l Z EL nwc y yb yl yr rm F' #[x1, x2] h (rV Qc)) (hf : rm.frames + 1 ≤ R.frames) (hl : (st.map fun v => v.category).sum + (yl + 11) + rm.locals ≤ R.locals) (hk : k + rm.cells ≤ R.cells) (hn : n + rm.slots ≤ R.slots) (g : ∀ h', Qc h' → Goes p l e R s m args below meth c Z EL nw Q F (wm nwc w h') h' (k + rm.cells) (n + rm.slots) (mkF m nx Ls st)) (hnw : nw = true → nwc = true := by first | exact id | exact fun _ => rfl) : Goes p l e R s m args below meth c Z EL nw Q F w h k n (mkF m pc Ls (x2 :: x1 :: st)) :=
  C.static hnw hF (argsL := [x1, x2]) (rest := st) d w1 w2 w3 w4 hy (len_par hpar rfl) rfl hsz hk hn (K.pays (C.wrd w4) (C.wrd w3) C.2.2.2.2.2.2.2.2 hf hl) (Nat.le_refl _) (fun v h' q => by obtain ⟨rfl, q⟩ := q; exact g h' q)
theorem Cxt.c2 (C : Cxt p m meth c Z a0 EL own mn bytes ml ret Ws) {idx : Nat} {y : MethodName} {yb : ByteArray} {yl : Nat} {rm : Room} {F' : List Addr} {a : Addr} {x1 x2 : Value} {Qc : Heap → Prop} {nwc : Bool} (d : Dec bytes pc (.invokespecial idx) 3 nx) (hy1 : y.name = "<init>") (w1 : Jvm.Cond.methodLink own idx y ∈ Ws) (w2 : Jvm.Cond.instanceMethod y ∈ Ws) (w3 : Jvm.Cond.initialized y.cls ∈ Ws) (w4 : Jvm.Cond.code y yb yl none ∈ Ws) (hy : y.cls ≠ "java/lang/invoke/MethodHandle" ∧ y.cls ≠ "java/lang/invoke/VarHandle") (hpar : (parseMethodDescriptor y.desc).map (fun sg => sg.parameters.length) = some 2) (hsz : Ls.size = ml) (hF : ∀ x ∈ F', x ∈ F ∨ (w ≤ x ∧ x < h.size))
    (K : Con l Z EL nwc y yb yl none rm F' #[.ref a, x1, x2] h (rV Qc)) (hf : rm.frames + 1 ≤ R.frames) (hl : (st.map fun v => v.category).sum + (yl + 11) + rm.locals ≤ R.locals) (hk : k + rm.cells ≤ R.cells) (hn : n + rm.slots ≤ R.slots) (g : ∀ h', Qc h' → Goes p l e R s m args below meth c Z EL nw Q F (wm nwc w h') h' (k + rm.cells) (n + rm.slots) (mkF m nx Ls st)) (hnw : nw = true → nwc = true := by first | exact id | exact fun _ => rfl) : Goes p l e R s m args below meth c Z EL nw Q F w h k n (mkF m pc Ls (x2 :: x1 :: .ref a :: st)) :=
  C.special hnw hF (argsL := [x1, x2]) (rest := st) d hy1 w1 w2 w4 hy (len_par hpar rfl) rfl hsz hk hn (K.pays (C.wrd w4) (C.wrd w3) C.2.2.2.2.2.2.2.2 hf hl) (Nat.le_refl _) (fun v h' q => by obtain ⟨rfl, q⟩ := q; exact g h' q)
theorem Cxt.v2V (C : Cxt p m meth c Z a0 EL own mn bytes ml ret Ws) {idx : Nat} {y z : MethodName} {yb : ByteArray} {yl : Nat} {yr : Option FieldType} {rm : Room} {F' : List Addr} {cls : String} {a : Addr} {x1 x2 : Value} {Qc : Heap → Prop} {nwc : Bool} (d : Dec bytes pc (.invokevirtual idx) 3 nx) (w1 : Jvm.Cond.methodLink own idx y ∈ Ws) (w2 : Jvm.Cond.declares y ∈ Ws) (w5 : Jvm.Cond.selects cls y z ∈ Ws) (w6 : Jvm.Cond.instanceMethod z ∈ Ws) (w3 : Jvm.Cond.initialized z.cls ∈ Ws) (w4 : Jvm.Cond.code z yb yl yr ∈ Ws) (hy : y.cls ≠ "java/lang/invoke/MethodHandle" ∧ y.cls ≠ "java/lang/invoke/VarHandle") (hpar : (parseMethodDescriptor y.desc).map (fun sg => sg.parameters.length) = some 2) (hsz : Ls.size = ml) (hF : ∀ x ∈ F', x ∈ F ∨ (w ≤ x ∧ x < h.size)) (E : Exa Z h a cls)
    (nf : ∀ vm0 : Vm, (Jvm.Cond.selects cls y z).before args (s.setVm vm0) = true → NotFace (s.setVm vm0) y)
    (K : Con l Z EL nwc z yb yl yr rm F' #[.ref a, x1, x2] h (rV Qc)) (hf : rm.frames + 1 ≤ R.frames) (hl : (st.map fun v => v.category).sum + (yl + 11) + rm.locals ≤ R.locals) (hk : k + rm.cells ≤ R.cells) (hn : n + rm.slots ≤ R.slots) (g : ∀ h', Qc h' → Goes p l e R s m args below meth c Z EL nw Q F (wm nwc w h') h' (k + rm.cells) (n + rm.slots) (mkF m nx Ls st)) (hnw : nw = true → nwc = true := by first | exact id | exact fun _ => rfl) : Goes p l e R s m args below meth c Z EL nw Q F w h k n (mkF m pc Ls (x2 :: x1 :: .ref a :: st)) :=
  C.virtual hnw hF (argsL := [x1, x2]) (rest := st) d w1 w2 w5 w6 hy (len_par hpar rfl) rfl hsz hk hn E nf (K.pays (C.wrd w4) (C.wrd w3) C.2.2.2.2.2.2.2.2 hf hl) (Nat.le_refl _) (fun v h' q => by obtain ⟨rfl, q⟩ := q; exact g h' q)
theorem Cxt.s2R (C : Cxt p m meth c Z a0 EL own mn bytes ml ret Ws) {idx : Nat} {y : MethodName} {yb : ByteArray} {yl : Nat} {yr : Option FieldType} {rm : Room} {F' : List Addr} {x1 x2 : Value} {Qc : Value → Heap → Prop} {nwc : Bool} (d : Dec bytes pc (.invokestatic idx) 3 nx) (w1 : Jvm.Cond.methodLink own idx y ∈ Ws) (w2 : Jvm.Cond.static y ∈ Ws) (w3 : Jvm.Cond.initialized y.cls ∈ Ws) (w4 : Jvm.Cond.code y yb yl yr ∈ Ws) (hy : y.cls ≠ "java/lang/invoke/MethodHandle" ∧ y.cls ≠ "java/lang/invoke/VarHandle") (hpar : (parseMethodDescriptor y.desc).map (fun sg => sg.parameters.length) = some 2) (hsz : Ls.size = ml) (hF : ∀ x ∈ F', x ∈ F ∨ (w ≤ x ∧ x < h.size))
    (K : Con l Z EL nwc y yb yl yr rm F' #[x1, x2] h (rR Qc)) (hf : rm.frames + 1 ≤ R.frames) (hl : (st.map fun v => v.category).sum + (yl + 11) + rm.locals ≤ R.locals) (hk : k + rm.cells ≤ R.cells) (hn : n + rm.slots ≤ R.slots) (g : ∀ v h', Qc v h' → Goes p l e R s m args below meth c Z EL nw Q F (wm nwc w h') h' (k + rm.cells) (n + rm.slots) (mkF m nx Ls (v :: st))) (hnw : nw = true → nwc = true := by first | exact id | exact fun _ => rfl) : Goes p l e R s m args below meth c Z EL nw Q F w h k n (mkF m pc Ls (x2 :: x1 :: st)) :=
  C.static hnw hF (argsL := [x1, x2]) (rest := st) d w1 w2 w3 w4 hy (len_par hpar rfl) rfl hsz hk hn (K.pays (C.wrd w4) (C.wrd w3) C.2.2.2.2.2.2.2.2 hf hl) (Nat.le_refl _) (fun v h' q => by obtain ⟨v, rfl, q⟩ := q; exact g v h' q)
theorem Cxt.v2R (C : Cxt p m meth c Z a0 EL own mn bytes ml ret Ws) {idx : Nat} {y z : MethodName} {yb : ByteArray} {yl : Nat} {yr : Option FieldType} {rm : Room} {F' : List Addr} {cls : String} {a : Addr} {x1 x2 : Value} {Qc : Value → Heap → Prop} {nwc : Bool} (d : Dec bytes pc (.invokevirtual idx) 3 nx) (w1 : Jvm.Cond.methodLink own idx y ∈ Ws) (w2 : Jvm.Cond.declares y ∈ Ws) (w5 : Jvm.Cond.selects cls y z ∈ Ws) (w6 : Jvm.Cond.instanceMethod z ∈ Ws) (w3 : Jvm.Cond.initialized z.cls ∈ Ws) (w4 : Jvm.Cond.code z yb yl yr ∈ Ws) (hy : y.cls ≠ "java/lang/invoke/MethodHandle" ∧ y.cls ≠ "java/lang/invoke/VarHandle") (hpar : (parseMethodDescriptor y.desc).map (fun sg => sg.parameters.length) = some 2) (hsz : Ls.size = ml) (hF : ∀ x ∈ F', x ∈ F ∨ (w ≤ x ∧ x < h.size)) (E : Exa Z h a cls)
    (nf : ∀ vm0 : Vm, (Jvm.Cond.selects cls y z).before args (s.setVm vm0) = true → NotFace (s.setVm vm0) y)
    (K : Con l Z EL nwc z yb yl yr rm F' #[.ref a, x1, x2] h (rR Qc)) (hf : rm.frames + 1 ≤ R.frames) (hl : (st.map fun v => v.category).sum + (yl + 11) + rm.locals ≤ R.locals) (hk : k + rm.cells ≤ R.cells) (hn : n + rm.slots ≤ R.slots) (g : ∀ v h', Qc v h' → Goes p l e R s m args below meth c Z EL nw Q F (wm nwc w h') h' (k + rm.cells) (n + rm.slots) (mkF m nx Ls (v :: st))) (hnw : nw = true → nwc = true := by first | exact id | exact fun _ => rfl) : Goes p l e R s m args below meth c Z EL nw Q F w h k n (mkF m pc Ls (x2 :: x1 :: .ref a :: st)) :=
  C.virtual hnw hF (argsL := [x1, x2]) (rest := st) d w1 w2 w5 w6 hy (len_par hpar rfl) rfl hsz hk hn E nf (K.pays (C.wrd w4) (C.wrd w3) C.2.2.2.2.2.2.2.2 hf hl) (Nat.le_refl _) (fun v h' q => by obtain ⟨v, rfl, q⟩ := q; exact g v h' q)
theorem Cxt.s3V (C : Cxt p m meth c Z a0 EL own mn bytes ml ret Ws) {idx : Nat} {y : MethodName} {yb : ByteArray} {yl : Nat} {yr : Option FieldType} {rm : Room} {F' : List Addr} {x1 x2 x3 : Value} {Qc : Heap → Prop} {nwc : Bool} (d : Dec bytes pc (.invokestatic idx) 3 nx) (w1 : Jvm.Cond.methodLink own idx y ∈ Ws) (w2 : Jvm.Cond.static y ∈ Ws) (w3 : Jvm.Cond.initialized y.cls ∈ Ws) (w4 : Jvm.Cond.code y yb yl yr ∈ Ws) (hy : y.cls ≠ "java/lang/invoke/MethodHandle" ∧ y.cls ≠ "java/lang/invoke/VarHandle") (hpar : (parseMethodDescriptor y.desc).map (fun sg => sg.parameters.length) = some 3) (hsz : Ls.size = ml) (hF : ∀ x ∈ F', x ∈ F ∨ (w ≤ x ∧ x < h.size))
    (K : Con l Z EL nwc y yb yl yr rm F' #[x1, x2, x3] h (rV Qc)) (hf : rm.frames + 1 ≤ R.frames) (hl : (st.map fun v => v.category).sum + (yl + 11) + rm.locals ≤ R.locals) (hk : k + rm.cells ≤ R.cells) (hn : n + rm.slots ≤ R.slots) (g : ∀ h', Qc h' → Goes p l e R s m args below meth c Z EL nw Q F (wm nwc w h') h' (k + rm.cells) (n + rm.slots) (mkF m nx Ls st)) (hnw : nw = true → nwc = true := by first | exact id | exact fun _ => rfl) : Goes p l e R s m args below meth c Z EL nw Q F w h k n (mkF m pc Ls (x3 :: x2 :: x1 :: st)) :=
  C.static hnw hF (argsL := [x1, x2, x3]) (rest := st) d w1 w2 w3 w4 hy (len_par hpar rfl) rfl hsz hk hn (K.pays (C.wrd w4) (C.wrd w3) C.2.2.2.2.2.2.2.2 hf hl) (Nat.le_refl _) (fun v h' q => by obtain ⟨rfl, q⟩ := q; exact g h' q)
theorem Cxt.c3 (C : Cxt p m meth c Z a0 EL own mn bytes ml ret Ws) {idx : Nat} {y : MethodName} {yb : ByteArray} {yl : Nat} {rm : Room} {F' : List Addr} {a : Addr} {x1 x2 x3 : Value} {Qc : Heap → Prop} {nwc : Bool} (d : Dec bytes pc (.invokespecial idx) 3 nx) (hy1 : y.name = "<init>") (w1 : Jvm.Cond.methodLink own idx y ∈ Ws) (w2 : Jvm.Cond.instanceMethod y ∈ Ws) (w3 : Jvm.Cond.initialized y.cls ∈ Ws) (w4 : Jvm.Cond.code y yb yl none ∈ Ws) (hy : y.cls ≠ "java/lang/invoke/MethodHandle" ∧ y.cls ≠ "java/lang/invoke/VarHandle") (hpar : (parseMethodDescriptor y.desc).map (fun sg => sg.parameters.length) = some 3) (hsz : Ls.size = ml) (hF : ∀ x ∈ F', x ∈ F ∨ (w ≤ x ∧ x < h.size))
    (K : Con l Z EL nwc y yb yl none rm F' #[.ref a, x1, x2, x3] h (rV Qc)) (hf : rm.frames + 1 ≤ R.frames) (hl : (st.map fun v => v.category).sum + (yl + 11) + rm.locals ≤ R.locals) (hk : k + rm.cells ≤ R.cells) (hn : n + rm.slots ≤ R.slots) (g : ∀ h', Qc h' → Goes p l e R s m args below meth c Z EL nw Q F (wm nwc w h') h' (k + rm.cells) (n + rm.slots) (mkF m nx Ls st)) (hnw : nw = true → nwc = true := by first | exact id | exact fun _ => rfl) : Goes p l e R s m args below meth c Z EL nw Q F w h k n (mkF m pc Ls (x3 :: x2 :: x1 :: .ref a :: st)) :=
  C.special hnw hF (argsL := [x1, x2, x3]) (rest := st) d hy1 w1 w2 w4 hy (len_par hpar rfl) rfl hsz hk hn (K.pays (C.wrd w4) (C.wrd w3) C.2.2.2.2.2.2.2.2 hf hl) (Nat.le_refl _) (fun v h' q => by obtain ⟨rfl, q⟩ := q; exact g h' q)
theorem Cxt.v3V (C : Cxt p m meth c Z a0 EL own mn bytes ml ret Ws) {idx : Nat} {y z : MethodName} {yb : ByteArray} {yl : Nat} {yr : Option FieldType} {rm : Room} {F' : List Addr} {cls : String} {a : Addr} {x1 x2 x3 : Value} {Qc : Heap → Prop} {nwc : Bool} (d : Dec bytes pc (.invokevirtual idx) 3 nx) (w1 : Jvm.Cond.methodLink own idx y ∈ Ws) (w2 : Jvm.Cond.declares y ∈ Ws) (w5 : Jvm.Cond.selects cls y z ∈ Ws) (w6 : Jvm.Cond.instanceMethod z ∈ Ws) (w3 : Jvm.Cond.initialized z.cls ∈ Ws) (w4 : Jvm.Cond.code z yb yl yr ∈ Ws) (hy : y.cls ≠ "java/lang/invoke/MethodHandle" ∧ y.cls ≠ "java/lang/invoke/VarHandle") (hpar : (parseMethodDescriptor y.desc).map (fun sg => sg.parameters.length) = some 3) (hsz : Ls.size = ml) (hF : ∀ x ∈ F', x ∈ F ∨ (w ≤ x ∧ x < h.size)) (E : Exa Z h a cls)
    (nf : ∀ vm0 : Vm, (Jvm.Cond.selects cls y z).before args (s.setVm vm0) = true → NotFace (s.setVm vm0) y)
    (K : Con l Z EL nwc z yb yl yr rm F' #[.ref a, x1, x2, x3] h (rV Qc)) (hf : rm.frames + 1 ≤ R.frames) (hl : (st.map fun v => v.category).sum + (yl + 11) + rm.locals ≤ R.locals) (hk : k + rm.cells ≤ R.cells) (hn : n + rm.slots ≤ R.slots) (g : ∀ h', Qc h' → Goes p l e R s m args below meth c Z EL nw Q F (wm nwc w h') h' (k + rm.cells) (n + rm.slots) (mkF m nx Ls st)) (hnw : nw = true → nwc = true := by first | exact id | exact fun _ => rfl) : Goes p l e R s m args below meth c Z EL nw Q F w h k n (mkF m pc Ls (x3 :: x2 :: x1 :: .ref a :: st)) :=
  C.virtual hnw hF (argsL := [x1, x2, x3]) (rest := st) d w1 w2 w5 w6 hy (len_par hpar rfl) rfl hsz hk hn E nf (K.pays (C.wrd w4) (C.wrd w3) C.2.2.2.2.2.2.2.2 hf hl) (Nat.le_refl _) (fun v h' q => by obtain ⟨rfl, q⟩ := q; exact g h' q)
theorem Cxt.s3R (C : Cxt p m meth c Z a0 EL own mn bytes ml ret Ws) {idx : Nat} {y : MethodName} {yb : ByteArray} {yl : Nat} {yr : Option FieldType} {rm : Room} {F' : List Addr} {x1 x2 x3 : Value} {Qc : Value → Heap → Prop} {nwc : Bool} (d : Dec bytes pc (.invokestatic idx) 3 nx) (w1 : Jvm.Cond.methodLink own idx y ∈ Ws) (w2 : Jvm.Cond.static y ∈ Ws) (w3 : Jvm.Cond.initialized y.cls ∈ Ws) (w4 : Jvm.Cond.code y yb yl yr ∈ Ws) (hy : y.cls ≠ "java/lang/invoke/MethodHandle" ∧ y.cls ≠ "java/lang/invoke/VarHandle") (hpar : (parseMethodDescriptor y.desc).map (fun sg => sg.parameters.length) = some 3) (hsz : Ls.size = ml) (hF : ∀ x ∈ F', x ∈ F ∨ (w ≤ x ∧ x < h.size))
    (K : Con l Z EL nwc y yb yl yr rm F' #[x1, x2, x3] h (rR Qc)) (hf : rm.frames + 1 ≤ R.frames) (hl : (st.map fun v => v.category).sum + (yl + 11) + rm.locals ≤ R.locals) (hk : k + rm.cells ≤ R.cells) (hn : n + rm.slots ≤ R.slots) (g : ∀ v h', Qc v h' → Goes p l e R s m args below meth c Z EL nw Q F (wm nwc w h') h' (k + rm.cells) (n + rm.slots) (mkF m nx Ls (v :: st))) (hnw : nw = true → nwc = true := by first | exact id | exact fun _ => rfl) : Goes p l e R s m args below meth c Z EL nw Q F w h k n (mkF m pc Ls (x3 :: x2 :: x1 :: st)) :=
  C.static hnw hF (argsL := [x1, x2, x3]) (rest := st) d w1 w2 w3 w4 hy (len_par hpar rfl) rfl hsz hk hn (K.pays (C.wrd w4) (C.wrd w3) C.2.2.2.2.2.2.2.2 hf hl) (Nat.le_refl _) (fun v h' q => by obtain ⟨v, rfl, q⟩ := q; exact g v h' q)
theorem Cxt.v3R (C : Cxt p m meth c Z a0 EL own mn bytes ml ret Ws) {idx : Nat} {y z : MethodName} {yb : ByteArray} {yl : Nat} {yr : Option FieldType} {rm : Room} {F' : List Addr} {cls : String} {a : Addr} {x1 x2 x3 : Value} {Qc : Value → Heap → Prop} {nwc : Bool} (d : Dec bytes pc (.invokevirtual idx) 3 nx) (w1 : Jvm.Cond.methodLink own idx y ∈ Ws) (w2 : Jvm.Cond.declares y ∈ Ws) (w5 : Jvm.Cond.selects cls y z ∈ Ws) (w6 : Jvm.Cond.instanceMethod z ∈ Ws) (w3 : Jvm.Cond.initialized z.cls ∈ Ws) (w4 : Jvm.Cond.code z yb yl yr ∈ Ws) (hy : y.cls ≠ "java/lang/invoke/MethodHandle" ∧ y.cls ≠ "java/lang/invoke/VarHandle") (hpar : (parseMethodDescriptor y.desc).map (fun sg => sg.parameters.length) = some 3) (hsz : Ls.size = ml) (hF : ∀ x ∈ F', x ∈ F ∨ (w ≤ x ∧ x < h.size)) (E : Exa Z h a cls)
    (nf : ∀ vm0 : Vm, (Jvm.Cond.selects cls y z).before args (s.setVm vm0) = true → NotFace (s.setVm vm0) y)
    (K : Con l Z EL nwc z yb yl yr rm F' #[.ref a, x1, x2, x3] h (rR Qc)) (hf : rm.frames + 1 ≤ R.frames) (hl : (st.map fun v => v.category).sum + (yl + 11) + rm.locals ≤ R.locals) (hk : k + rm.cells ≤ R.cells) (hn : n + rm.slots ≤ R.slots) (g : ∀ v h', Qc v h' → Goes p l e R s m args below meth c Z EL nw Q F (wm nwc w h') h' (k + rm.cells) (n + rm.slots) (mkF m nx Ls (v :: st))) (hnw : nw = true → nwc = true := by first | exact id | exact fun _ => rfl) : Goes p l e R s m args below meth c Z EL nw Q F w h k n (mkF m pc Ls (x3 :: x2 :: x1 :: .ref a :: st)) :=
  C.virtual hnw hF (argsL := [x1, x2, x3]) (rest := st) d w1 w2 w5 w6 hy (len_par hpar rfl) rfl hsz hk hn E nf (K.pays (C.wrd w4) (C.wrd w3) C.2.2.2.2.2.2.2.2 hf hl) (Nat.le_refl _) (fun v h' q => by obtain ⟨v, rfl, q⟩ := q; exact g v h' q)
theorem Cxt.s4V (C : Cxt p m meth c Z a0 EL own mn bytes ml ret Ws) {idx : Nat} {y : MethodName} {yb : ByteArray} {yl : Nat} {yr : Option FieldType} {rm : Room} {F' : List Addr} {x1 x2 x3 x4 : Value} {Qc : Heap → Prop} {nwc : Bool} (d : Dec bytes pc (.invokestatic idx) 3 nx) (w1 : Jvm.Cond.methodLink own idx y ∈ Ws) (w2 : Jvm.Cond.static y ∈ Ws) (w3 : Jvm.Cond.initialized y.cls ∈ Ws) (w4 : Jvm.Cond.code y yb yl yr ∈ Ws) (hy : y.cls ≠ "java/lang/invoke/MethodHandle" ∧ y.cls ≠ "java/lang/invoke/VarHandle") (hpar : (parseMethodDescriptor y.desc).map (fun sg => sg.parameters.length) = some 4) (hsz : Ls.size = ml) (hF : ∀ x ∈ F', x ∈ F ∨ (w ≤ x ∧ x < h.size))
    (K : Con l Z EL nwc y yb yl yr rm F' #[x1, x2, x3, x4] h (rV Qc)) (hf : rm.frames + 1 ≤ R.frames) (hl : (st.map fun v => v.category).sum + (yl + 11) + rm.locals ≤ R.locals) (hk : k + rm.cells ≤ R.cells) (hn : n + rm.slots ≤ R.slots) (g : ∀ h', Qc h' → Goes p l e R s m args below meth c Z EL nw Q F (wm nwc w h') h' (k + rm.cells) (n + rm.slots) (mkF m nx Ls st)) (hnw : nw = true → nwc = true := by first | exact id | exact fun _ => rfl) : Goes p l e R s m args below meth c Z EL nw Q F w h k n (mkF m pc Ls (x4 :: x3 :: x2 :: x1 :: st)) :=
  C.static hnw hF (argsL := [x1, x2, x3, x4]) (rest := st) d w1 w2 w3 w4 hy (len_par hpar rfl) rfl hsz hk hn (K.pays (C.wrd w4) (C.wrd w3) C.2.2.2.2.2.2.2.2 hf hl) (Nat.le_refl _) (fun v h' q => by obtain ⟨rfl, q⟩ := q; exact g h' q)
theorem Cxt.c4 (C : Cxt p m meth c Z a0 EL own mn bytes ml ret Ws) {idx : Nat} {y : MethodName} {yb : ByteArray} {yl : Nat} {rm : Room} {F' : List Addr} {a : Addr} {x1 x2 x3 x4 : Value} {Qc : Heap → Prop} {nwc : Bool} (d : Dec bytes pc (.invokespecial idx) 3 nx) (hy1 : y.name = "<init>") (w1 : Jvm.Cond.methodLink own idx y ∈ Ws) (w2 : Jvm.Cond.instanceMethod y ∈ Ws) (w3 : Jvm.Cond.initialized y.cls ∈ Ws) (w4 : Jvm.Cond.code y yb yl none ∈ Ws) (hy : y.cls ≠ "java/lang/invoke/MethodHandle" ∧ y.cls ≠ "java/lang/invoke/VarHandle") (hpar : (parseMethodDescriptor y.desc).map (fun sg => sg.parameters.length) = some 4) (hsz : Ls.size = ml) (hF : ∀ x ∈ F', x ∈ F ∨ (w ≤ x ∧ x < h.size))
    (K : Con l Z EL nwc y yb yl none rm F' #[.ref a, x1, x2, x3, x4] h (rV Qc)) (hf : rm.frames + 1 ≤ R.frames) (hl : (st.map fun v => v.category).sum + (yl + 11) + rm.locals ≤ R.locals) (hk : k + rm.cells ≤ R.cells) (hn : n + rm.slots ≤ R.slots) (g : ∀ h', Qc h' → Goes p l e R s m args below meth c Z EL nw Q F (wm nwc w h') h' (k + rm.cells) (n + rm.slots) (mkF m nx Ls st)) (hnw : nw = true → nwc = true := by first | exact id | exact fun _ => rfl) : Goes p l e R s m args below meth c Z EL nw Q F w h k n (mkF m pc Ls (x4 :: x3 :: x2 :: x1 :: .ref a :: st)) :=
  C.special hnw hF (argsL := [x1, x2, x3, x4]) (rest := st) d hy1 w1 w2 w4 hy (len_par hpar rfl) rfl hsz hk hn (K.pays (C.wrd w4) (C.wrd w3) C.2.2.2.2.2.2.2.2 hf hl) (Nat.le_refl _) (fun v h' q => by obtain ⟨rfl, q⟩ := q; exact g h' q)
theorem Cxt.v4V (C : Cxt p m meth c Z a0 EL own mn bytes ml ret Ws) {idx : Nat} {y z : MethodName} {yb : ByteArray} {yl : Nat} {yr : Option FieldType} {rm : Room} {F' : List Addr} {cls : String} {a : Addr} {x1 x2 x3 x4 : Value} {Qc : Heap → Prop} {nwc : Bool} (d : Dec bytes pc (.invokevirtual idx) 3 nx) (w1 : Jvm.Cond.methodLink own idx y ∈ Ws) (w2 : Jvm.Cond.declares y ∈ Ws) (w5 : Jvm.Cond.selects cls y z ∈ Ws) (w6 : Jvm.Cond.instanceMethod z ∈ Ws) (w3 : Jvm.Cond.initialized z.cls ∈ Ws) (w4 : Jvm.Cond.code z yb yl yr ∈ Ws) (hy : y.cls ≠ "java/lang/invoke/MethodHandle" ∧ y.cls ≠ "java/lang/invoke/VarHandle") (hpar : (parseMethodDescriptor y.desc).map (fun sg => sg.parameters.length) = some 4) (hsz : Ls.size = ml) (hF : ∀ x ∈ F', x ∈ F ∨ (w ≤ x ∧ x < h.size)) (E : Exa Z h a cls)
    (nf : ∀ vm0 : Vm, (Jvm.Cond.selects cls y z).before args (s.setVm vm0) = true → NotFace (s.setVm vm0) y)
    (K : Con l Z EL nwc z yb yl yr rm F' #[.ref a, x1, x2, x3, x4] h (rV Qc)) (hf : rm.frames + 1 ≤ R.frames) (hl : (st.map fun v => v.category).sum + (yl + 11) + rm.locals ≤ R.locals) (hk : k + rm.cells ≤ R.cells) (hn : n + rm.slots ≤ R.slots) (g : ∀ h', Qc h' → Goes p l e R s m args below meth c Z EL nw Q F (wm nwc w h') h' (k + rm.cells) (n + rm.slots) (mkF m nx Ls st)) (hnw : nw = true → nwc = true := by first | exact id | exact fun _ => rfl) : Goes p l e R s m args below meth c Z EL nw Q F w h k n (mkF m pc Ls (x4 :: x3 :: x2 :: x1 :: .ref a :: st)) :=
  C.virtual hnw hF (argsL := [x1, x2, x3, x4]) (rest := st) d w1 w2 w5 w6 hy (len_par hpar rfl) rfl hsz hk hn E nf (K.pays (C.wrd w4) (C.wrd w3) C.2.2.2.2.2.2.2.2 hf hl) (Nat.le_refl _) (fun v h' q => by obtain ⟨rfl, q⟩ := q; exact g h' q)
theorem Cxt.s4R (C : Cxt p m meth c Z a0 EL own mn bytes ml ret Ws) {idx : Nat} {y : MethodName} {yb : ByteArray} {yl : Nat} {yr : Option FieldType} {rm : Room} {F' : List Addr} {x1 x2 x3 x4 : Value} {Qc : Value → Heap → Prop} {nwc : Bool} (d : Dec bytes pc (.invokestatic idx) 3 nx) (w1 : Jvm.Cond.methodLink own idx y ∈ Ws) (w2 : Jvm.Cond.static y ∈ Ws) (w3 : Jvm.Cond.initialized y.cls ∈ Ws) (w4 : Jvm.Cond.code y yb yl yr ∈ Ws) (hy : y.cls ≠ "java/lang/invoke/MethodHandle" ∧ y.cls ≠ "java/lang/invoke/VarHandle") (hpar : (parseMethodDescriptor y.desc).map (fun sg => sg.parameters.length) = some 4) (hsz : Ls.size = ml) (hF : ∀ x ∈ F', x ∈ F ∨ (w ≤ x ∧ x < h.size))
    (K : Con l Z EL nwc y yb yl yr rm F' #[x1, x2, x3, x4] h (rR Qc)) (hf : rm.frames + 1 ≤ R.frames) (hl : (st.map fun v => v.category).sum + (yl + 11) + rm.locals ≤ R.locals) (hk : k + rm.cells ≤ R.cells) (hn : n + rm.slots ≤ R.slots) (g : ∀ v h', Qc v h' → Goes p l e R s m args below meth c Z EL nw Q F (wm nwc w h') h' (k + rm.cells) (n + rm.slots) (mkF m nx Ls (v :: st))) (hnw : nw = true → nwc = true := by first | exact id | exact fun _ => rfl) : Goes p l e R s m args below meth c Z EL nw Q F w h k n (mkF m pc Ls (x4 :: x3 :: x2 :: x1 :: st)) :=
  C.static hnw hF (argsL := [x1, x2, x3, x4]) (rest := st) d w1 w2 w3 w4 hy (len_par hpar rfl) rfl hsz hk hn (K.pays (C.wrd w4) (C.wrd w3) C.2.2.2.2.2.2.2.2 hf hl) (Nat.le_refl _) (fun v h' q => by obtain ⟨v, rfl, q⟩ := q; exact g v h' q)
theorem Cxt.v4R (C : Cxt p m meth c Z a0 EL own mn bytes ml ret Ws) {idx : Nat} {y z : MethodName} {yb : ByteArray} {yl : Nat} {yr : Option FieldType} {rm : Room} {F' : List Addr} {cls : String} {a : Addr} {x1 x2 x3 x4 : Value} {Qc : Value → Heap → Prop} {nwc : Bool} (d : Dec bytes pc (.invokevirtual idx) 3 nx) (w1 : Jvm.Cond.methodLink own idx y ∈ Ws) (w2 : Jvm.Cond.declares y ∈ Ws) (w5 : Jvm.Cond.selects cls y z ∈ Ws) (w6 : Jvm.Cond.instanceMethod z ∈ Ws) (w3 : Jvm.Cond.initialized z.cls ∈ Ws) (w4 : Jvm.Cond.code z yb yl yr ∈ Ws) (hy : y.cls ≠ "java/lang/invoke/MethodHandle" ∧ y.cls ≠ "java/lang/invoke/VarHandle") (hpar : (parseMethodDescriptor y.desc).map (fun sg => sg.parameters.length) = some 4) (hsz : Ls.size = ml) (hF : ∀ x ∈ F', x ∈ F ∨ (w ≤ x ∧ x < h.size)) (E : Exa Z h a cls)
    (nf : ∀ vm0 : Vm, (Jvm.Cond.selects cls y z).before args (s.setVm vm0) = true → NotFace (s.setVm vm0) y)
    (K : Con l Z EL nwc z yb yl yr rm F' #[.ref a, x1, x2, x3, x4] h (rR Qc)) (hf : rm.frames + 1 ≤ R.frames) (hl : (st.map fun v => v.category).sum + (yl + 11) + rm.locals ≤ R.locals) (hk : k + rm.cells ≤ R.cells) (hn : n + rm.slots ≤ R.slots) (g : ∀ v h', Qc v h' → Goes p l e R s m args below meth c Z EL nw Q F (wm nwc w h') h' (k + rm.cells) (n + rm.slots) (mkF m nx Ls (v :: st))) (hnw : nw = true → nwc = true := by first | exact id | exact fun _ => rfl) : Goes p l e R s m args below meth c Z EL nw Q F w h k n (mkF m pc Ls (x4 :: x3 :: x2 :: x1 :: .ref a :: st)) :=
  C.virtual hnw hF (argsL := [x1, x2, x3, x4]) (rest := st) d w1 w2 w5 w6 hy (len_par hpar rfl) rfl hsz hk hn E nf (K.pays (C.wrd w4) (C.wrd w3) C.2.2.2.2.2.2.2.2 hf hl) (Nat.le_refl _) (fun v h' q => by obtain ⟨v, rfl, q⟩ := q; exact g v h' q)
theorem Cxt.s5V (C : Cxt p m meth c Z a0 EL own mn bytes ml ret Ws) {idx : Nat} {y : MethodName} {yb : ByteArray} {yl : Nat} {yr : Option FieldType} {rm : Room} {F' : List Addr} {x1 x2 x3 x4 x5 : Value} {Qc : Heap → Prop} {nwc : Bool} (d : Dec bytes pc (.invokestatic idx) 3 nx) (w1 : Jvm.Cond.methodLink own idx y ∈ Ws) (w2 : Jvm.Cond.static y ∈ Ws) (w3 : Jvm.Cond.initialized y.cls ∈ Ws) (w4 : Jvm.Cond.code y yb yl yr ∈ Ws) (hy : y.cls ≠ "java/lang/invoke/MethodHandle" ∧ y.cls ≠ "java/lang/invoke/VarHandle") (hpar : (parseMethodDescriptor y.desc).map (fun sg => sg.parameters.length) = some 5) (hsz : Ls.size = ml) (hF : ∀ x ∈ F', x ∈ F ∨ (w ≤ x ∧ x < h.size))
    (K : Con l Z EL nwc y yb yl yr rm F' #[x1, x2, x3, x4, x5] h (rV Qc)) (hf : rm.frames + 1 ≤ R.frames) (hl : (st.map fun v => v.category).sum + (yl + 11) + rm.locals ≤ R.locals) (hk : k + rm.cells ≤ R.cells) (hn : n + rm.slots ≤ R.slots) (g : ∀ h', Qc h' → Goes p l e R s m args below meth c Z EL nw Q F (wm nwc w h') h' (k + rm.cells) (n + rm.slots) (mkF m nx Ls st)) (hnw : nw = true → nwc = true := by first | exact id | exact fun _ => rfl) : Goes p l e R s m args below meth c Z EL nw Q F w h k n (mkF m pc Ls (x5 :: x4 :: x3 :: x2 :: x1 :: st)) :=
  C.static hnw hF (argsL := [x1, x2, x3, x4, x5]) (rest := st) d w1 w2 w3 w4 hy (len_par hpar rfl) rfl hsz hk hn (K.pays (C.wrd w4) (C.wrd w3) C.2.2.2.2.2.2.2.2 hf hl) (Nat.le_refl _) (fun v h' q => by obtain ⟨rfl, q⟩ := q; exact g h' q)
theorem Cxt.c5 (C : Cxt p m meth c Z a0 EL own mn bytes ml ret Ws) {idx : Nat} {y : MethodName} {yb : ByteArray} {yl : Nat} {rm : Room} {F' : List Addr} {a : Addr} {x1 x2 x3 x4 x5 : Value} {Qc : Heap → Prop} {nwc : Bool} (d : Dec bytes pc (.invokespecial idx) 3 nx) (hy1 : y.name = "<init>") (w1 : Jvm.Cond.methodLink own idx y ∈ Ws) (w2 : Jvm.Cond.instanceMethod y ∈ Ws) (w3 : Jvm.Cond.initialized y.cls ∈ Ws) (w4 : Jvm.Cond.code y yb yl none ∈ Ws) (hy : y.cls ≠ "java/lang/invoke/MethodHandle" ∧ y.cls ≠ "java/lang/invoke/VarHandle") (hpar : (parseMethodDescriptor y.desc).map (fun sg => sg.parameters.length) = some 5) (hsz : Ls.size = ml) (hF : ∀ x ∈ F', x ∈ F ∨ (w ≤ x ∧ x < h.size))
    (K : Con l Z EL nwc y yb yl none rm F' #[.ref a, x1, x2, x3, x4, x5] h (rV Qc)) (hf : rm.frames + 1 ≤ R.frames) (hl : (st.map fun v => v.category).sum + (yl + 11) + rm.locals ≤ R.locals) (hk : k + rm.cells ≤ R.cells) (hn : n + rm.slots ≤ R.slots) (g : ∀ h', Qc h' → Goes p l e R s m args below meth c Z EL nw Q F (wm nwc w h') h' (k + rm.cells) (n + rm.slots) (mkF m nx Ls st)) (hnw : nw = true → nwc = true := by first | exact id | exact fun _ => rfl) : Goes p l e R s m args below meth c Z EL nw Q F w h k n (mkF m pc Ls (x5 :: x4 :: x3 :: x2 :: x1 :: .ref a :: st)) :=
  C.special hnw hF (argsL := [x1, x2, x3, x4, x5]) (rest := st) d hy1 w1 w2 w4 hy (len_par hpar rfl) rfl hsz hk hn (K.pays (C.wrd w4) (C.wrd w3) C.2.2.2.2.2.2.2.2 hf hl) (Nat.le_refl _) (fun v h' q => by obtain ⟨rfl, q⟩ := q; exact g h' q)
theorem Cxt.s5R (C : Cxt p m meth c Z a0 EL own mn bytes ml ret Ws) {idx : Nat} {y : MethodName} {yb : ByteArray} {yl : Nat} {yr : Option FieldType} {rm : Room} {F' : List Addr} {x1 x2 x3 x4 x5 : Value} {Qc : Value → Heap → Prop} {nwc : Bool} (d : Dec bytes pc (.invokestatic idx) 3 nx) (w1 : Jvm.Cond.methodLink own idx y ∈ Ws) (w2 : Jvm.Cond.static y ∈ Ws) (w3 : Jvm.Cond.initialized y.cls ∈ Ws) (w4 : Jvm.Cond.code y yb yl yr ∈ Ws) (hy : y.cls ≠ "java/lang/invoke/MethodHandle" ∧ y.cls ≠ "java/lang/invoke/VarHandle") (hpar : (parseMethodDescriptor y.desc).map (fun sg => sg.parameters.length) = some 5) (hsz : Ls.size = ml) (hF : ∀ x ∈ F', x ∈ F ∨ (w ≤ x ∧ x < h.size))
    (K : Con l Z EL nwc y yb yl yr rm F' #[x1, x2, x3, x4, x5] h (rR Qc)) (hf : rm.frames + 1 ≤ R.frames) (hl : (st.map fun v => v.category).sum + (yl + 11) + rm.locals ≤ R.locals) (hk : k + rm.cells ≤ R.cells) (hn : n + rm.slots ≤ R.slots) (g : ∀ v h', Qc v h' → Goes p l e R s m args below meth c Z EL nw Q F (wm nwc w h') h' (k + rm.cells) (n + rm.slots) (mkF m nx Ls (v :: st))) (hnw : nw = true → nwc = true := by first | exact id | exact fun _ => rfl) : Goes p l e R s m args below meth c Z EL nw Q F w h k n (mkF m pc Ls (x5 :: x4 :: x3 :: x2 :: x1 :: st)) :=
  C.static hnw hF (argsL := [x1, x2, x3, x4, x5]) (rest := st) d w1 w2 w3 w4 hy (len_par hpar rfl) rfl hsz hk hn (K.pays (C.wrd w4) (C.wrd w3) C.2.2.2.2.2.2.2.2 hf hl) (Nat.le_refl _) (fun v h' q => by obtain ⟨v, rfl, q⟩ := q; exact g v h' q)
theorem Cxt.s6V (C : Cxt p m meth c Z a0 EL own mn bytes ml ret Ws) {idx : Nat} {y : MethodName} {yb : ByteArray} {yl : Nat} {yr : Option FieldType} {rm : Room} {F' : List Addr} {x1 x2 x3 x4 x5 x6 : Value} {Qc : Heap → Prop} {nwc : Bool} (d : Dec bytes pc (.invokestatic idx) 3 nx) (w1 : Jvm.Cond.methodLink own idx y ∈ Ws) (w2 : Jvm.Cond.static y ∈ Ws) (w3 : Jvm.Cond.initialized y.cls ∈ Ws) (w4 : Jvm.Cond.code y yb yl yr ∈ Ws) (hy : y.cls ≠ "java/lang/invoke/MethodHandle" ∧ y.cls ≠ "java/lang/invoke/VarHandle") (hpar : (parseMethodDescriptor y.desc).map (fun sg => sg.parameters.length) = some 6) (hsz : Ls.size = ml) (hF : ∀ x ∈ F', x ∈ F ∨ (w ≤ x ∧ x < h.size))
    (K : Con l Z EL nwc y yb yl yr rm F' #[x1, x2, x3, x4, x5, x6] h (rV Qc)) (hf : rm.frames + 1 ≤ R.frames) (hl : (st.map fun v => v.category).sum + (yl + 11) + rm.locals ≤ R.locals) (hk : k + rm.cells ≤ R.cells) (hn : n + rm.slots ≤ R.slots) (g : ∀ h', Qc h' → Goes p l e R s m args below meth c Z EL nw Q F (wm nwc w h') h' (k + rm.cells) (n + rm.slots) (mkF m nx Ls st)) (hnw : nw = true → nwc = true := by first | exact id | exact fun _ => rfl) : Goes p l e R s m args below meth c Z EL nw Q F w h k n (mkF m pc Ls (x6 :: x5 :: x4 :: x3 :: x2 :: x1 :: st)) :=
  C.static hnw hF (argsL := [x1, x2, x3, x4, x5, x6]) (rest := st) d w1 w2 w3 w4 hy (len_par hpar rfl) rfl hsz hk hn (K.pays (C.wrd w4) (C.wrd w3) C.2.2.2.2.2.2.2.2 hf hl) (Nat.le_refl _) (fun v h' q => by obtain ⟨rfl, q⟩ := q; exact g h' q)
theorem Cxt.c6 (C : Cxt p m meth c Z a0 EL own mn bytes ml ret Ws) {idx : Nat} {y : MethodName} {yb : ByteArray} {yl : Nat} {rm : Room} {F' : List Addr} {a : Addr} {x1 x2 x3 x4 x5 x6 : Value} {Qc : Heap → Prop} {nwc : Bool} (d : Dec bytes pc (.invokespecial idx) 3 nx) (hy1 : y.name = "<init>") (w1 : Jvm.Cond.methodLink own idx y ∈ Ws) (w2 : Jvm.Cond.instanceMethod y ∈ Ws) (w3 : Jvm.Cond.initialized y.cls ∈ Ws) (w4 : Jvm.Cond.code y yb yl none ∈ Ws) (hy : y.cls ≠ "java/lang/invoke/MethodHandle" ∧ y.cls ≠ "java/lang/invoke/VarHandle") (hpar : (parseMethodDescriptor y.desc).map (fun sg => sg.parameters.length) = some 6) (hsz : Ls.size = ml) (hF : ∀ x ∈ F', x ∈ F ∨ (w ≤ x ∧ x < h.size))
    (K : Con l Z EL nwc y yb yl none rm F' #[.ref a, x1, x2, x3, x4, x5, x6] h (rV Qc)) (hf : rm.frames + 1 ≤ R.frames) (hl : (st.map fun v => v.category).sum + (yl + 11) + rm.locals ≤ R.locals) (hk : k + rm.cells ≤ R.cells) (hn : n + rm.slots ≤ R.slots) (g : ∀ h', Qc h' → Goes p l e R s m args below meth c Z EL nw Q F (wm nwc w h') h' (k + rm.cells) (n + rm.slots) (mkF m nx Ls st)) (hnw : nw = true → nwc = true := by first | exact id | exact fun _ => rfl) : Goes p l e R s m args below meth c Z EL nw Q F w h k n (mkF m pc Ls (x6 :: x5 :: x4 :: x3 :: x2 :: x1 :: .ref a :: st)) :=
  C.special hnw hF (argsL := [x1, x2, x3, x4, x5, x6]) (rest := st) d hy1 w1 w2 w4 hy (len_par hpar rfl) rfl hsz hk hn (K.pays (C.wrd w4) (C.wrd w3) C.2.2.2.2.2.2.2.2 hf hl) (Nat.le_refl _) (fun v h' q => by obtain ⟨rfl, q⟩ := q; exact g h' q)
theorem Cxt.s6R (C : Cxt p m meth c Z a0 EL own mn bytes ml ret Ws) {idx : Nat} {y : MethodName} {yb : ByteArray} {yl : Nat} {yr : Option FieldType} {rm : Room} {F' : List Addr} {x1 x2 x3 x4 x5 x6 : Value} {Qc : Value → Heap → Prop} {nwc : Bool} (d : Dec bytes pc (.invokestatic idx) 3 nx) (w1 : Jvm.Cond.methodLink own idx y ∈ Ws) (w2 : Jvm.Cond.static y ∈ Ws) (w3 : Jvm.Cond.initialized y.cls ∈ Ws) (w4 : Jvm.Cond.code y yb yl yr ∈ Ws) (hy : y.cls ≠ "java/lang/invoke/MethodHandle" ∧ y.cls ≠ "java/lang/invoke/VarHandle") (hpar : (parseMethodDescriptor y.desc).map (fun sg => sg.parameters.length) = some 6) (hsz : Ls.size = ml) (hF : ∀ x ∈ F', x ∈ F ∨ (w ≤ x ∧ x < h.size))
    (K : Con l Z EL nwc y yb yl yr rm F' #[x1, x2, x3, x4, x5, x6] h (rR Qc)) (hf : rm.frames + 1 ≤ R.frames) (hl : (st.map fun v => v.category).sum + (yl + 11) + rm.locals ≤ R.locals) (hk : k + rm.cells ≤ R.cells) (hn : n + rm.slots ≤ R.slots) (g : ∀ v h', Qc v h' → Goes p l e R s m args below meth c Z EL nw Q F (wm nwc w h') h' (k + rm.cells) (n + rm.slots) (mkF m nx Ls (v :: st))) (hnw : nw = true → nwc = true := by first | exact id | exact fun _ => rfl) : Goes p l e R s m args below meth c Z EL nw Q F w h k n (mkF m pc Ls (x6 :: x5 :: x4 :: x3 :: x2 :: x1 :: st)) :=
  C.static hnw hF (argsL := [x1, x2, x3, x4, x5, x6]) (rest := st) d w1 w2 w3 w4 hy (len_par hpar rfl) rfl hsz hk hn (K.pays (C.wrd w4) (C.wrd w3) C.2.2.2.2.2.2.2.2 hf hl) (Nat.le_refl _) (fun v h' q => by obtain ⟨v, rfl, q⟩ := q; exact g v h' q)
theorem Cxt.ldcInt (C : Cxt p m meth c Z a0 EL own mn bytes ml ret Ws) {idx : Nat} {v : Int32} (d : Dec bytes pc (.ldc idx) 2 nx) (ww : Jvm.Cond.constant own idx v ∈ Ws) (g : Goes p l e R s m args below meth c Z EL nw Q F w h k n (mkF m nx Ls (.int v :: st))) : Goes p l e R s m args below meth c Z EL nw Q F w h k n (mkF m pc Ls st) := by
  obtain ⟨d1, rfl⟩ := d
  intro T vm0 locs k0 H
  obtain ⟨t, v', L, h1, r⟩ := g T vm0 locs k0 H
  exact ⟨t, v', L, H.1.ldcInt C.1 (C.own_at H.2.2.2.2.2.1) (mv H.2.2.2.2.2.1 (C.wrd ww)) (g := mkF m pc Ls st) rfl (hb C.2.1 d1) _ h1, r⟩
theorem Cxt.ldc2Long (C : Cxt p m meth c Z a0 EL own mn bytes ml ret Ws) {idx : Nat} {v : Int64} (d : Dec bytes pc (.ldc2_w idx) 3 nx) (ww : Jvm.Cond.constantLong own idx v ∈ Ws) (g : Goes p l e R s m args below meth c Z EL nw Q F w h k n (mkF m nx Ls (.long v :: st))) : Goes p l e R s m args below meth c Z EL nw Q F w h k n (mkF m pc Ls st) := by
  obtain ⟨d1, rfl⟩ := d
  intro T vm0 locs k0 H
  obtain ⟨t, v', L, h1, r⟩ := g T vm0 locs k0 H
  exact ⟨t, v', L, H.1.ldc2Long C.1 (C.own_at H.2.2.2.2.2.1) (mv H.2.2.2.2.2.1 (C.wrd ww)) (g := mkF m pc Ls st) rfl (hb C.2.1 d1) _ h1, r⟩
theorem Cxt.checkcast (C : Cxt p m meth c Z a0 EL own mn bytes ml ret Ws) {idx : Nat} {K : String} {a : Addr} (d : Dec bytes pc (.checkcast idx) 3 nx) (ww : Jvm.Cond.classLink own idx K ∈ Ws) (I : Ins Z h a K true) (g : Goes p l e R s m args below meth c Z EL nw Q F w h k n (mkF m nx Ls (.ref a :: st))) : Goes p l e R s m args below meth c Z EL nw Q F w h k n (mkF m pc Ls (.ref a :: st)) := by
  obtain ⟨d1, rfl⟩ := d
  intro T vm0 locs k0 H
  obtain ⟨T', X', e', st'⟩ := castY H.1 C.1 H.2.2.2.2.2.1 (C.own_at H.2.2.2.2.2.1) (C.wrd ww) H.2.1 I (g := mkF m pc Ls (.ref a :: st)) rfl rfl (hb C.2.1 d1)
  obtain ⟨t, v, L, h1, r⟩ := g T' vm0 locs k0 (H.step X' e' H.2.2.1 (Keep.refl _ []) (fun x hx => nomatch hx))
  exact ⟨t, v, L, st' _ h1, r⟩
theorem Cxt.checkcastNull (C : Cxt p m meth c Z a0 EL own mn bytes ml ret Ws) {idx : Nat} (d : Dec bytes pc (.checkcast idx) 3 nx) (g : Goes p l e R s m args below meth c Z EL nw Q F w h k n (mkF m nx Ls (.null :: st))) : Goes p l e R s m args below meth c Z EL nw Q F w h k n (mkF m pc Ls (.null :: st)) := by
  obtain ⟨d1, rfl⟩ := d
  intro T vm0 locs k0 H
  obtain ⟨t, v', L, h1, r⟩ := g T vm0 locs k0 H
  exact ⟨t, v', L, H.1.checkcastNull C.1 (g := mkF m pc Ls (.null :: st)) rfl rfl (hb C.2.1 d1) _ h1, r⟩
theorem Cxt.instY (C : Cxt p m meth c Z a0 EL own mn bytes ml ret Ws) {idx : Nat} {K : String} {a : Addr} (d : Dec bytes pc (.instanceof idx) 3 nx) (ww : Jvm.Cond.classLink own idx K ∈ Ws) (I : Ins Z h a K true) (g : Goes p l e R s m args below meth c Z EL nw Q F w h k n (mkF m nx Ls (.int 1 :: st))) : Goes p l e R s m args below meth c Z EL nw Q F w h k n (mkF m pc Ls (.ref a :: st)) := by
  obtain ⟨d1, rfl⟩ := d
  intro T vm0 locs k0 H
  obtain ⟨T', X', e', st'⟩ := instY H.1 C.1 H.2.2.2.2.2.1 (C.own_at H.2.2.2.2.2.1) (C.wrd ww) H.2.1 I (g := mkF m pc Ls (.ref a :: st)) rfl rfl (hb C.2.1 d1)
  obtain ⟨t, v, L, h1, r⟩ := g T' vm0 locs k0 (H.step X' e' H.2.2.1 (Keep.refl _ []) (fun x hx => nomatch hx))
  exact ⟨t, v, L, st' _ h1, r⟩
theorem Cxt.instN (C : Cxt p m meth c Z a0 EL own mn bytes ml ret Ws) {idx : Nat} {K cls : String} {a : Addr} (d : Dec bytes pc (.instanceof idx) 3 nx) (ww : Jvm.Cond.classLink own idx K ∈ Ws) (I : Ins Z s.heap a K false) (E : Exa Z s.heap a cls) (g : Goes p l e R s m args below meth c Z EL nw Q F w h k n (mkF m nx Ls (.int 0 :: st))) : Goes p l e R s m args below meth c Z EL nw Q F w h k n (mkF m pc Ls (.ref a :: st)) := by
  obtain ⟨d1, rfl⟩ := d
  intro T vm0 locs k0 H
  obtain ⟨T', X', e', st'⟩ := instN (s := s.setVm vm0) H.1 C.1 H.2.2.2.2.2.1 (C.own_at H.2.2.2.2.2.1) (C.wrd ww) H.2.1 I E (g := mkF m pc Ls (.ref a :: st)) rfl rfl (hb C.2.1 d1)
  obtain ⟨t, v, L, h1, r⟩ := g T' vm0 locs k0 (H.step X' e' H.2.2.1 (Keep.refl _ []) (fun x hx => nomatch hx))
  exact ⟨t, v, L, st' _ h1, r⟩
theorem Cxt.instNo (C : Cxt p m meth c Z a0 EL own mn bytes ml ret Ws) {idx : Nat} {K cls : String} {a : Addr} (d : Dec bytes pc (.instanceof idx) 3 nx) (ww : Jvm.Cond.classLink own idx K ∈ Ws) (E : Exa Z h a cls) (I : ∃ c t, Z.vm.findClass cls = some c ∧ Z.vm.findClass K = some t ∧ Z.vm.assignable c t = false) (g : Goes p l e R s m args below meth c Z EL nw Q F w h k n (mkF m nx Ls (.int 0 :: st))) : Goes p l e R s m args below meth c Z EL nw Q F w h k n (mkF m pc Ls (.ref a :: st)) := by
  obtain ⟨d1, rfl⟩ := d
  intro T vm0 locs k0 H
  obtain ⟨T', X', e', st'⟩ := instNo H.1 C.1 H.2.2.2.2.2.1 (C.own_at H.2.2.2.2.2.1) (C.wrd ww) H.2.1 E I (g := mkF m pc Ls (.ref a :: st)) rfl rfl (hb C.2.1 d1)
  obtain ⟨t, v, L, h1, r⟩ := g T' vm0 locs k0 (H.step X' e' H.2.2.1 (Keep.refl _ []) (fun x hx => nomatch hx))
  exact ⟨t, v, L, st' _ h1, r⟩
theorem Cxt.instNull (C : Cxt p m meth c Z a0 EL own mn bytes ml ret Ws) {idx : Nat} (d : Dec bytes pc (.instanceof idx) 3 nx) (g : Goes p l e R s m args below meth c Z EL nw Q F w h k n (mkF m nx Ls (.int 0 :: st))) : Goes p l e R s m args below meth c Z EL nw Q F w h k n (mkF m pc Ls (.null :: st)) := by
  obtain ⟨d1, rfl⟩ := d
  intro T vm0 locs k0 H
  obtain ⟨t, v', L, h1, r⟩ := g T vm0 locs k0 H
  exact ⟨t, v', L, H.1.instanceofNull C.1 (g := mkF m pc Ls (.null :: st)) rfl rfl (hb C.2.1 d1) _ h1, r⟩
/-- a String constant, its text unread -/
theorem Cxt.ldcO (C : Cxt p m meth c Z a0 EL own mn bytes ml ret Ws) {idx : Nat} {text : String} (q : Nat) (d : Dec bytes pc (.ldc idx) 2 nx) (hnw : nw = false) (ww : Jvm.Cond.stringLink own idx text ∈ Ws) (wS : ∀ a ∈ Bundle.stringAtoms, a.before a0 Z = true) (hq : 4 * text.toList.length ≤ q) (hq2 : q ≤ 536870912) (hk : k + 2 ≤ R.cells) (hn : n + (q + 4) ≤ R.slots)
    (g : ∀ h' a, Ext h h' → Goes p l e R s m args below meth c Z EL nw Q F h'.size h' (k + 2) (n + (q + 4)) (mkF m nx Ls (.ref a :: st))) : Goes p l e R s m args below meth c Z EL nw Q F w h k n (mkF m pc Ls st) := by
  obtain ⟨d1, rfl⟩ := d
  intro T vm0 locs k0 H
  obtain ⟨X, eT, N, S, hk0, hZ, H1, hw, hF, O, hwm, hbk⟩ := id H
  obtain ⟨a, T', h', k1, X', e', E, S', hk1, hW, hf, hC, hL, st'⟩ := ldcOH X C.1 hZ (C.own_at (s := s) hZ) (C.wrd ww) wS eT S hk0 C.2.2.2.2.2.2.2.2 H1.1 (g := mkF m pc Ls st) rfl (hb C.2.1 d1) hq hq2 hk hn
  obtain ⟨t, v, L, h1, r⟩ := g h' a E T' T'.vm locs k1 ⟨X', e', N, S', hk1, hW, H1.trans hC, fun q => (by rw [hnw] at q; cases q), fun x hx => ⟨Nat.lt_of_lt_of_le (hF x hx).1 E.1, hC.safe (hF x hx).1 (hF x hx).2⟩, ext_trans O E, fun x hx => Safe.new hx, fun q => (by rw [hnw] at q; cases q)⟩
  exact ⟨t, v, L, st' _ h1, r⟩
/-- a String constant of EL, its text read -/
theorem Cxt.ldcS (C : Cxt p m meth c Z a0 EL own mn bytes ml ret Ws) {idx : Nat} {text : String} {vs : List Value} (q : Nat) (d : Dec bytes pc (.ldc idx) 2 nx) (hnw : nw = false) (ww : Jvm.Cond.stringLink own idx text ∈ Ws) (wS : ∀ a ∈ Bundle.stringAtoms, a.before a0 Z = true) (hmem : (own, idx) ∈ EL) (ht : (∀ c ∈ text.toList, c.toNat < 256) ∧ text.toList.map (fun c => Value.int (Jvm.Lit.byteI c.toNat.toUInt16)) = vs) (hlt : vs.length < 1000000)
    (hq : 4 * text.toList.length ≤ q) (hq2 : q ≤ 536870912) (hk : k + 2 ≤ R.cells) (hn : n + (q + 4) ≤ R.slots)
    (g : ∀ h' a b, Ext h h' → Exa Z h' a "java/lang/String" → Fld Z h' a "java/lang/String" "coder" "B" (.int 0) → Fld Z h' a "java/lang/String" "value" "[B" (.ref b) → Arl Z h' b .byte vs → (∀ x ∈ F, x ≠ a ∧ x ≠ b) → Goes p l e R s m args below meth c Z EL nw Q F h'.size h' (k + 2) (n + (q + 4)) (mkF m nx Ls (.ref a :: st))) : Goes p l e R s m args below meth c Z EL nw Q F w h k n (mkF m pc Ls st) := by
  obtain ⟨d1, rfl⟩ := d
  intro T vm0 locs k0 H
  obtain ⟨X, eT, N, S, hk0, hZ, H1, hw, hF, O, hwm, hbk⟩ := id H
  have hz : ¬ (Int32.ofNat vs.length) < 0 ∧ (Int32.ofNat vs.length).toNatClampNeg = vs.length := ofNat_idx (by omega)
  obtain ⟨a, T', h', k1, b, kb, X', e', E, S', hk1, hW, hf, hE, hc, hv, hA, la, lb, hC, hL, hS, st'⟩ := ldcCH X C.1 hZ (C.own_at (s := s) hZ) (C.wrd ww) wS eT S hk0 C.2.2.2.2.2.2.2.2 hmem H1.1 ht hz.1 hz.2 (g := mkF m pc Ls st) rfl (hb C.2.1 d1) hq hq2 hk hn
  have hF' : ∀ x ∈ F, x < h'.size ∧ Safe Z EL T'.vm h' x := fun x hx => ⟨Nat.lt_of_lt_of_le (hF x hx).1 E.1, hC.safe (hF x hx).1 (hF x hx).2⟩
  obtain ⟨t, v, L, h1, r⟩ := g h' a b E hE hc hv (arl_of_arv hA hz.2 (by omega)) (fun x hx => hS x (hF' x hx).2) T' T'.vm locs k1 ⟨X', e', N, S', hk1, hW, H1.trans hC, fun q => (by rw [hnw] at q; cases q), hF', ext_trans O E, fun x hx => Safe.new hx, fun q => (by rw [hnw] at q; cases q)⟩
  exact ⟨t, v, L, st' _ h1, r⟩
end
end Jvm.OwnW
namespace Jvm.OwnW
open Sem ClassFile Op Lib Jvm.Stand Jvm.Free Jvm.LawKit Jvm.RoadKit Bundle
abbrev ST : String := "java/lang/String"
def IsC (x : Int32) : Prop := ¬ x < 0 ∧ ¬ (65535 : Int32) < x
def IsL (x : Int32) : Prop := ¬ x < 0 ∧ ¬ (255 : Int32) < x
theorem nlt {x y : Int32} : ¬ x < y ↔ y.toInt ≤ x.toInt := by rw [Int32.lt_iff_toInt_lt]; omega
theorem ilt {x y : Int32} : x < y ↔ x.toInt < y.toInt := Int32.lt_iff_toInt_lt
theorem isC_iff {x : Int32} : IsC x ↔ 0 ≤ x.toInt ∧ x.toInt ≤ 65535 := by
  unfold IsC; rw [nlt, nlt]; exact Iff.rfl
theorem isL_iff {x : Int32} : IsL x ↔ 0 ≤ x.toInt ∧ x.toInt ≤ 255 := by
  unfold IsL; rw [nlt, nlt]; exact Iff.rfl
theorem IsL.isC {x : Int32} (h : IsL x) : IsC x := by rw [isL_iff] at h; rw [isC_iff]; omega
theorem isC_c16 (x : Int32) : IsC (c16 x) := by
  rw [isC_iff]; have := c_i2c x; unfold c16; omega
theorem c16_of {x : Int32} (h : IsC x) : c16 x = x := by
  rw [isC_iff] at h
  have q := c_i2c x
  apply Int32.toInt_inj.mp
  unfold c16; omega
theorem nar_c16 (x : Int32) : nar .char x = c16 x := rfl
theorem nar_char {x : Int32} (h : IsC x) : nar .char x = x := (nar_c16 x).trans (c16_of h)
theorem nar_b8 (x : Int32) : nar .byte x = b8 x := rfl
theorem narrow_char {x : Int32} (h : IsC x) : narrow .char (.int x) = .int x := by
  show Value.int (nar .char x) = _; rw [nar_char h]
theorem b8_bounds (x : Int32) : -128 ≤ (b8 x).toInt ∧ (b8 x).toInt ≤ 127 := by
  have h := rng_byte (fits_nar_byte x)
  rw [nlt, nlt] at h
  exact h
theorem b8_mod (x : Int32) : ((b8 x).toInt - x.toInt) % 256 = 0 := by
  have e : (b8 x).toInt = x.toInt.bmod 256 := by
    unfold b8
    rw [Int8.toInt_toInt32, Int32.toInt_toInt8]
  rw [e, Int.bmod_def]
  split <;> omega
theorem b8_b8 (x : Int32) : b8 (b8 x) = b8 x := by
  apply Int32.toInt_inj.mp
  have h1 := b8_bounds x; have h2 := b8_bounds (b8 x); have h3 := b8_mod (b8 x)
  omega
theorem narrow_byte (x : Int32) : narrow .byte (.int (b8 x)) = .int (b8 x) := by
  show Value.int (nar .byte (b8 x)) = _; rw [nar_b8, b8_b8]
theorem ofNat_toInt {i : Nat} (h : i < 2 ^ 31) : (Int32.ofNat i).toInt = i := by
  rw [Int32.toInt_ofNat']
  simp only [Int.bmod_def]
  have z : (Int32.size : Int) = 4294967296 := rfl
  rw [z]
  omega
theorem ofNat_succ (i : Nat) : Int32.ofNat i + 1 = Int32.ofNat (i + 1) := (Int32.ofNat_add i 1).symm
theorem ofNat_lt {i j : Nat} (hi : i < 2 ^ 31) (hj : j < 2 ^ 31) : Int32.ofNat i < Int32.ofNat j ↔ i < j := by
  rw [ilt, ofNat_toInt hi, ofNat_toInt hj]; omega
theorem ofNat_inj {i j : Nat} (hi : i < 2 ^ 31) (hj : j < 2 ^ 31) (h : Int32.ofNat i = Int32.ofNat j) : i = j := by
  have := congrArg Int32.toInt h; rw [ofNat_toInt hi, ofNat_toInt hj] at this; omega
def lat (cs : List Int32) : List Value := cs.map fun c => .int (b8 c)
def wid (cs : List Int32) : List Value := cs.flatMap fun c => [.int (b8 c), .int (b8 (c >>> 8))]
def ints (cs : List Int32) : List Value := cs.map Value.int
/-- the bytes vs under the coder cd spell the chars cs -/
def Txt (cs : List Int32) (cd : Int32) (vs : List Value) : Prop := (cd = 0 ∧ vs = lat cs ∧ ∀ c ∈ cs, ¬ (255 : Int32) < c) ∨ (cd = 1 ∧ vs = wid cs ∧ ∃ c ∈ cs, (255 : Int32) < c)
/-- the String at a spells cs -/
def StrAt (Z : State) (h : Heap) (a : Addr) (cs : List Int32) : Prop :=
  ∃ t cd vs, Exa Z h a ST ∧ Fld Z h a ST "value" "[B" (.ref t) ∧ Fld Z h a ST "coder" "B" (.int cd) ∧ Arl Z h t .byte vs ∧ Txt cs cd vs ∧ (∀ c ∈ cs, IsC c) ∧ cs.length ≤ 4000
theorem StrAt.ext {Z : State} {h h' : Heap} {a : Addr} {cs : List Int32} (S : StrAt Z h a cs) (E : Ext h h') : StrAt Z h' a cs := by
  obtain ⟨t, cd, vs, h1, h2, h3, h4, r⟩ := S
  exact ⟨t, cd, vs, h1.ext E, h2.ext E, h3.ext E, h4.ext E, r⟩
theorem StrAt.lt {Z : State} {h : Heap} {a : Addr} {cs : List Int32} (S : StrAt Z h a cs) : a < h.size := by
  obtain ⟨t, cd, vs, h1, -⟩ := S; exact h1.lt
theorem StrAt.exa {Z : State} {h : Heap} {a : Addr} {cs : List Int32} (S : StrAt Z h a cs) : Exa Z h a ST := by
  obtain ⟨t, cd, vs, h1, -⟩ := S; exact h1
/-- over a call that writes one object that is no String -/
theorem StrAt.keep {Z : State} {h h' : Heap} {a o : Addr} {cs : List Int32} {cls : String} {a0 : Array Value} {kk : Nat} (S : StrAt Z h a cs) (K : Keep h h' [o]) (E : Exa Z h o cls) (hn : cls ≠ ST) (wi : (Jvm.Cond.instantiable cls kk).before a0 Z = true) : StrAt Z h' a cs := by
  obtain ⟨t, cd, vs, h1, h2, h3, h4, r⟩ := S
  have n1 : a ∉ [o] := by
    intro q; cases List.mem_singleton.mp q; exact ne_exa E h1 hn rfl
  have n2 : t ∉ [o] := by
    intro q; cases List.mem_singleton.mp q
    obtain ⟨cl, A, -⟩ := h4
    exact ne_arr E wi A rfl
  exact ⟨t, cd, vs, h1.keep K, h2.keep K n1, h3.keep K n1, h4.keep K n2, r⟩
theorem ext_of_keep {h0 h h' : Heap} {ws : List Addr} (E : Ext h0 h) (K : Keep h h' ws) (q : ∀ w ∈ ws, h0.size ≤ w) : Ext h0 h' :=
  ⟨Nat.le_trans E.1 K.1, fun a c r => K.2.1 a c (E.2 a c r) fun z => absurd (Array.getElem?_eq_some_iff.mp r).1 (Nat.not_lt.mpr (q a z))⟩
theorem ext_of_wr {h0 h h' : Heap} {a : Addr} {sl : Nat} {v : Value} (E : Ext h0 h) (W : Wr h h' a sl v) (q : h0.size ≤ a) : Ext h0 h' :=
  ext_of_keep E (Keep.of_wr W) fun w hw => by cases List.mem_singleton.mp hw; exact q
theorem wid_length (cs : List Int32) : (wid cs).length = 2 * cs.length := by
  unfold wid; induction cs with
  | nil => rfl
  | cons c r ih => simp only [List.flatMap_cons, List.length_append, ih, List.length_cons, List.length_nil]; omega
theorem lat_length (cs : List Int32) : (lat cs).length = cs.length := by simp [lat]
theorem ints_length (cs : List Int32) : (ints cs).length = cs.length := by simp [ints]
theorem ints_get {cs : List Int32} {i : Nat} {c : Int32} (h : cs[i]? = some c) : (ints cs)[i]? = some (.int c) := by simp [ints, h]
theorem lat_get {cs : List Int32} {i : Nat} {c : Int32} (h : cs[i]? = some c) : (lat cs)[i]? = some (.int (b8 c)) := by simp [lat, h]
end Jvm.OwnW
namespace Jvm.OwnW
open Sem ClassFile Op Lib Jvm.Stand Jvm.Free Jvm.LawKit Jvm.RoadKit Bundle
abbrev RM (f lo c s : Nat) : Room := { frames := f, cells := c, slots := s, locals := lo }
theorem adr_ne {a b n : Nat} (h : a < n) (h2 : n ≤ b) : a ≠ b := by omega
theorem nof0 {F : List Addr} : ∀ x ∈ ([] : List Addr), x ∈ F := fun _ q => nomatch q
theorem nof {F : List Addr} {w : Nat} {h : Heap} : ∀ x ∈ ([] : List Addr), x ∈ F ∨ (w ≤ x ∧ x < h.size) := fun _ q => nomatch q
theorem fill_step {pre : List Value} {i r : Nat} {z v : Value} (h : pre.length = i) : (pre ++ List.replicate (r + 1) z).set i v = (pre ++ [v]) ++ List.replicate r z := by
  subst h
  rw [List.set_append_right _ _ (Nat.le_refl _)]
  simp [List.replicate_succ]
end Jvm.OwnW
namespace Jvm.OwnW
open Sem ClassFile Op Lib Jvm.Stand Jvm.Free Jvm.LawKit Jvm.RoadKit Bundle
theorem eq_stat {args : Array Value} {s : State} {C n d : String} {v : Int32} (h : (Jvm.Cond.eq (.static C n d) (.int v)).value args s none s [] = some true) : (Term.static C n d).eval args s none [] s = some (.int v) := by
  simp only [Cond.value, Term.int_eval] at h
  cases hv : (Term.static C n d).eval args s none [] s with
  | none => simp [hv] at h
  | some w => cases w <;> simp [hv] at h <;> simp [h]
theorem isL_and (x : Int32) : IsL (x &&& 255) := by
  rw [isL_iff]; have := c_and x 255 (by decide); exact this
theorem isC_isL {x : Int32} (h : IsL x) : c16 x = x := c16_of h.isC
end Jvm.OwnW
namespace Jvm.OwnW
open Sem ClassFile Op Lib Jvm.Stand Jvm.Free Jvm.LawKit Jvm.RoadKit Bundle
theorem st_exact {args : Array Value} {s : State} {C n d K : String} (h : (Jvm.Cond.exactly (.static C n d) K).value args s none s [] = some true) (wi : (Jvm.Cond.initialized C).before args s = true) (wl : (Jvm.Cond.laysStatic C n d).before args s = true) :
    ∃ a, (Term.static C n d).eval args s none [] s = some (.ref a) ∧ Sta s s.heap C n d (.ref a) ∧ Exa s s.heap a K := by
  obtain ⟨a, _, _, _, e, -⟩ := Cond.exactly_spec (Cond.before_iff.mpr h)
  exact ⟨a, e, Sta.start e (Or.inr ⟨wi, wl⟩), Exa.start e h⟩
theorem st_field {args : Array Value} {s : State} {t : Term} {O f fd : String} {a : Addr} {v : Int32} (ev : t.eval args s none [] s = some (.ref a)) (h : (Jvm.Cond.eq (.field t O f fd) (.int v)).value args s none s [] = some true) : Fld s s.heap a O f fd (.int v) := by
  apply Fld.start
  have e : (Term.field t O f fd).eval args s none [] s = s.fieldOf? a O f fd := by simp [Term.eval, ev]
  simp only [Cond.value, Term.int_eval, e] at h
  cases hv : s.fieldOf? a O f fd with
  | none => simp [hv] at h
  | some w => cases w <;> simp [hv] at h <;> simp [h]
end Jvm.OwnW
namespace Jvm.OwnW
open Sem ClassFile Op Lib Jvm.Stand Jvm.Free Jvm.LawKit Jvm.RoadKit Bundle
theorem pos30 (x : Int32) : ¬ ((x &&& 1073741823) + 1) < 1 := by
  have h := c_and x 1073741823 (by decide)
  have e : (1073741823 : Int32).toInt = 1073741823 := rfl
  rw [e] at h
  rw [nlt, Int32.toInt_add]
  have e1 : (1 : Int32).toInt = 1 := rfl
  rw [e1, Int.bmod_def]
  split <;> omega
end Jvm.OwnW
namespace Jvm.OwnW
open Sem ClassFile Op Lib Jvm.Stand Jvm.Free Jvm.LawKit Jvm.RoadKit Bundle
theorem Arl.intAt {Z : State} {h : Heap} {a : Addr} {vs : List Value} {v : Value} (A : Arl Z h a .byte vs) (hv : v ∈ vs) : ∃ x, v = .int x := by
  obtain ⟨cl, -, -, -, r⟩ := A
  exact fit_I (r v hv) (Or.inr (Or.inr (Or.inl rfl)))
theorem Txt.cd01 {cs : List Int32} {cd : Int32} {vs : List Value} (T : Txt cs cd vs) : cd = 0 ∨ cd = 1 := T.imp (·.1) (·.1)
theorem Txt.vlen {cs : List Int32} {cd : Int32} {vs : List Value} (T : Txt cs cd vs) : vs.length = cs.length ∨ vs.length = 2 * cs.length := by
  rcases T with ⟨-, rfl, -⟩ | ⟨-, rfl, -⟩
  · exact Or.inl (lat_length cs)
  · exact Or.inr (wid_length cs)
theorem Txt.len {cs : List Int32} {cd : Int32} {vs : List Value} (T : Txt cs cd vs) (hn : cs.length ≤ 4000) : Int32.ofNat vs.length >>> (cd &&& 31) = Int32.ofNat cs.length := by
  apply Int32.toInt_inj.mp
  rcases T with ⟨rfl, rfl, -⟩ | ⟨rfl, rfl, -⟩
  · rw [c_ishr _ _ 0 (by decide), lat_length]; simp
  · rw [c_ishr _ _ 1 (by decide), wid_length, ofNat_toInt (by omega), ofNat_toInt (by omega)]; omega
theorem Txt.coder {cs : List Int32} {cd ce : Int32} {vs ws : List Value} (T : Txt cs cd vs) (U : Txt cs ce ws) : cd = ce := by
  rcases T with ⟨rfl, -, q⟩ | ⟨rfl, -, c, q1, q2⟩ <;> rcases U with ⟨rfl, -, z⟩ | ⟨rfl, -, d, z1, z2⟩
  · rfl
  · exact absurd z2 (q d z1)
  · exact absurd q2 (z c q1)
  · rfl
theorem Txt.bytes {cs : List Int32} {cd ce : Int32} {vs ws : List Value} (T : Txt cs cd vs) (U : Txt cs ce ws) : vs = ws := by
  rcases T with ⟨rfl, rfl, q⟩ | ⟨rfl, rfl, c, q1, q2⟩ <;> rcases U with ⟨rfl, rfl, z⟩ | ⟨rfl, rfl, d, z1, z2⟩
  · rfl
  · exact absurd z2 (q d z1)
  · exact absurd q2 (z c q1)
  · rfl
theorem b8_inj_L {x y : Int32} (hx : IsL x) (hy : IsL y) (h : b8 x = b8 y) : x = y := by
  rw [isL_iff] at hx hy
  have h1 := b8_mod x; have h2 := b8_mod y
  rw [h] at h1
  apply Int32.toInt_inj.mp; omega
theorem shr8 (x : Int32) : (x >>> 8).toInt = x.toInt / 256 := by
  have := c_ishr x 8 8 (by decide)
  have e : (8 : Int32) &&& 31 = 8 := by decide
  rw [e] at this
  simpa using this
theorem b8_inj_W {x y : Int32} (hx : IsC x) (hy : IsC y) (h : b8 x = b8 y) (h' : b8 (x >>> 8) = b8 (y >>> 8)) : x = y := by
  rw [isC_iff] at hx hy
  have h1 := b8_mod x; have h2 := b8_mod y
  have h3 := b8_mod (x >>> 8); have h4 := b8_mod (y >>> 8)
  rw [h] at h1; rw [h'] at h3
  rw [shr8] at h3 h4
  apply Int32.toInt_inj.mp; omega
theorem lat_inj : ∀ {cs ds : List Int32}, (∀ c ∈ cs, IsL c) → (∀ c ∈ ds, IsL c) → lat cs = lat ds → cs = ds
  | [], [], _, _, _ => rfl
  | [], d :: ds, _, _, h => by simp [lat] at h
  | c :: cs, [], _, _, h => by simp [lat] at h
  | c :: cs, d :: ds, h1, h2, h => by
    simp only [lat, List.map_cons, List.cons.injEq, Value.int.injEq] at h
    rw [b8_inj_L (h1 c (List.mem_cons_self ..)) (h2 d (List.mem_cons_self ..)) h.1, lat_inj (fun x hx => h1 x (List.mem_cons_of_mem _ hx)) (fun x hx => h2 x (List.mem_cons_of_mem _ hx)) h.2]
theorem wid_inj : ∀ {cs ds : List Int32}, (∀ c ∈ cs, IsC c) → (∀ c ∈ ds, IsC c) → wid cs = wid ds → cs = ds
  | [], [], _, _, _ => rfl
  | [], d :: ds, _, _, h => by simp [wid] at h
  | c :: cs, [], _, _, h => by simp [wid] at h
  | c :: cs, d :: ds, h1, h2, h => by
    simp only [wid, List.flatMap_cons, List.cons_append, List.nil_append, List.cons.injEq, Value.int.injEq] at h
    rw [b8_inj_W (h1 c (List.mem_cons_self ..)) (h2 d (List.mem_cons_self ..)) h.1 h.2.1, wid_inj (fun x hx => h1 x (List.mem_cons_of_mem _ hx)) (fun x hx => h2 x (List.mem_cons_of_mem _ hx)) h.2.2]
theorem Txt.inj {cs ds : List Int32} {cd : Int32} {vs : List Value} (hC : ∀ c ∈ cs, IsC c) (hD : ∀ c ∈ ds, IsC c) (T : Txt cs cd vs) (U : Txt ds cd vs) : cs = ds := by
  rcases T with ⟨rfl, rfl, q⟩ | ⟨rfl, rfl, q⟩ <;> rcases U with ⟨e, e', z⟩ | ⟨e, e', z⟩
  · exact lat_inj (fun c hc => ⟨(hC c hc).1, q c hc⟩) (fun c hc => ⟨(hD c hc).1, z c hc⟩) e'
  · exact absurd e (by decide)
  · exact absurd e (by decide)
  · exact wid_inj hC hD e'
theorem fld_uniq {Z : State} {h : Heap} {a : Addr} {C n d : String} {v w : Value} (F : Fld Z h a C n d v) (G : Fld Z h a C n d w) : v = w := by
  obtain ⟨c1, cf, k, i, f, h1, h2, -, -, -, -, h7⟩ := F
  obtain ⟨c2, cf', k', i', f', g1, g2, -, -, -, -, g7⟩ := G
  cases h1.symm.trans g1
  cases h2.symm.trans g2
  exact Option.some.inj (h7.symm.trans g7)
theorem arl_uniq {Z : State} {h : Heap} {a : Addr} {ty : FieldType} {vs ws : List Value} (A : Arl Z h a ty vs) (D : Arl Z h a ty ws) : vs = ws := by
  obtain ⟨c1, A1, rfl, -⟩ := A
  obtain ⟨c2, A2, rfl, -⟩ := D
  cases A1.1.symm.trans A2.1
  rfl
theorem StrAt.uniq {Z : State} {h : Heap} {a : Addr} {cs ds : List Int32} (S : StrAt Z h a cs) (T : StrAt Z h a ds) : cs = ds := by
  obtain ⟨t, cd, vs, X, Fv, Fc, A, Tx, hC, hn⟩ := S
  obtain ⟨u, ce, ws, X', Fv', Fc', A', Tx', hC', hn'⟩ := T
  cases fld_uniq Fv Fv'
  cases fld_uniq Fc Fc'
  cases arl_uniq A A'
  exact Txt.inj hC hC' Tx Tx'
theorem unb8 {x : Int32} (h : IsL x) : c16 (b8 x &&& 255) = x := by
  have e : b8 x &&& 255 = x := by
    rw [isL_iff] at h
    apply Int32.toInt_inj.mp
    rw [c_mask _ 255 8 (by decide) (by decide)]
    have := b8_mod x
    omega
  rw [e, c16_of h.isC]
end Jvm.OwnW
namespace Jvm.OwnW
open Sem ClassFile Op Lib Jvm.Stand Jvm.Free Jvm.LawKit Jvm.RoadKit Bundle
theorem i32_bounds (x : Int32) : -2147483648 ≤ x.toInt ∧ x.toInt < 2147483648 := ⟨Int32.le_toInt x, Int32.toInt_lt x⟩
theorem shl1' {n : Nat} (hn : 2 * n < 2 ^ 31) : Int32.ofNat n <<< ((1 : Int32) &&& 31) = Int32.ofNat (2 * n) := by
  apply Int32.toInt_inj.mp
  have h := c_ishl (Int32.ofNat n) 1 1 (by decide)
  rw [ofNat_toInt (i := n) (by omega)] at h
  rw [ofNat_toInt hn]
  have b := i32_bounds (Int32.ofNat n <<< ((1 : Int32) &&& 31))
  have e : ((2 ^ 1 : Nat) : Int) = 2 := rfl
  rw [e] at h
  omega
theorem shl1 {n : Nat} (hn : n ≤ 4000) : Int32.ofNat n <<< ((1 : Int32) &&& 31) = Int32.ofNat (2 * n) := shl1' (by omega)
theorem shr0 (x : Int32) : x >>> ((0 : Int32) &&& 31) = x := by
  apply Int32.toInt_inj.mp
  rw [c_ishr x 0 0 (by decide)]; simp
theorem shr1 {cs : List Int32} (hn : cs.length ≤ 4000) : Int32.ofNat (wid cs).length >>> ((1 : Int32) &&& 31) = Int32.ofNat cs.length := by
  apply Int32.toInt_inj.mp
  rw [c_ishr _ _ 1 (by decide), wid_length, ofNat_toInt (by omega), ofNat_toInt (by omega)]; omega
theorem fill_step2 {pre : List Value} {i r : Nat} {z u v : Value} (h : pre.length = 2 * i) : ((pre ++ List.replicate (2 * (r + 1)) z).set (2 * i) u).set (2 * i + 1) v = (pre ++ [u, v]) ++ List.replicate (2 * r) z := by
  rw [← h, List.set_append_right _ _ (Nat.le_refl _), List.set_append_right _ _ (by omega)]
  have e : 2 * (r + 1) = 2 * r + 1 + 1 := by omega
  rw [e]
  simp [List.replicate_succ]
theorem wid_cons (c : Int32) (cs : List Int32) : wid (c :: cs) = .int (b8 c) :: .int (b8 (c >>> 8)) :: wid cs := rfl
theorem wid_lo : ∀ {cs : List Int32} {i : Nat} {c : Int32}, cs[i]? = some c → (wid cs)[2 * i]? = some (.int (b8 c))
  | [], i, c, h => by simp at h
  | d :: cs, 0, c, h => by simp at h; subst h; rfl
  | d :: cs, i + 1, c, h => by
    have e : 2 * (i + 1) = 2 * i + 1 + 1 := by omega
    rw [wid_cons, e, List.getElem?_cons_succ, List.getElem?_cons_succ]
    exact wid_lo (by simpa using h)
theorem wid_hi : ∀ {cs : List Int32} {i : Nat} {c : Int32}, cs[i]? = some c → (wid cs)[2 * i + 1]? = some (.int (b8 (c >>> 8)))
  | [], i, c, h => by simp at h
  | d :: cs, 0, c, h => by simp at h; subst h; rfl
  | d :: cs, i + 1, c, h => by
    have e : 2 * (i + 1) + 1 = (2 * i + 1) + 1 + 1 := by omega
    rw [wid_cons, e, List.getElem?_cons_succ, List.getElem?_cons_succ]
    exact wid_hi (by simpa using h)
theorem unwide {x : Int32} (h : IsC x) : c16 ((b8 x &&& 255) <<< ((0 : Int32) &&& 31) ||| (b8 (x >>> 8) &&& 255) <<< ((8 : Int32) &&& 31)) = x := by
  have hx := isC_iff.mp h
  have e1 : (b8 x &&& 255).toInt = x.toInt % 256 := by
    rw [c_mask _ 255 8 (by decide) (by decide)]; have := b8_mod x; omega
  have e2 : (b8 (x >>> 8) &&& 255).toInt = x.toInt / 256 := by
    rw [c_mask _ 255 8 (by decide) (by decide)]; have := b8_mod (x >>> 8); rw [shr8] at this; omega
  have e3 := c_ishl (b8 x &&& 255) 0 0 (by decide)
  have e4 := c_ishl (b8 (x >>> 8) &&& 255) 8 8 (by decide)
  generalize hA : (b8 x &&& 255) <<< ((0 : Int32) &&& 31) = A at *
  generalize hB : (b8 (x >>> 8) &&& 255) <<< ((8 : Int32) &&& 31) = D at *
  rw [e1] at e3; rw [e2] at e4
  have bA := i32_bounds A; have bD := i32_bounds D
  have p0 : ((2 ^ 0 : Nat) : Int) = 1 := rfl
  have p8 : ((2 ^ 8 : Nat) : Int) = 256 := rfl
  rw [p0] at e3; rw [p8] at e4
  have a1 : A.toInt = x.toInt % 256 := by omega
  have a2 : D.toInt = x.toInt / 256 * 256 := by omega
  have e5 := c_or' A D 8 (by decide) 256 rfl (by omega) (by omega) (by omega)
  have bO := i32_bounds (A ||| D)
  have e6 : A ||| D = x := by apply Int32.toInt_inj.mp; omega
  rw [e6, c16_of h]
theorem codU {n : Nat} (h0 : 0 < n) (hn : n ≤ 4000) : b8 (XT.ushr (Int32.ofNat n - Int32.ofNat (2 * n)) 31) = 1 := by
  have e := c_isub (Int32.ofNat n) (Int32.ofNat (2 * n))
  rw [ofNat_toInt (i := n) (by omega), ofNat_toInt (i := 2 * n) (by omega)] at e
  have b := i32_bounds (Int32.ofNat n - Int32.ofNat (2 * n))
  have u := c_iushr (Int32.ofNat n - Int32.ofNat (2 * n)) 31 31 (by decide) (by decide)
  have p : ((2 ^ 31 : Nat) : Int) = 2147483648 := rfl
  rw [p] at u
  have v : (XT.ushr (Int32.ofNat n - Int32.ofNat (2 * n)) 31).toInt = 1 := by unfold XT.ushr; omega
  have w : XT.ushr (Int32.ofNat n - Int32.ofNat (2 * n)) 31 = 1 := by apply Int32.toInt_inj.mp; rw [v]; rfl
  rw [w]; rfl
end Jvm.OwnW
namespace Jvm.OwnW
open Sem ClassFile Op Lib Jvm.Stand Jvm.Free Jvm.LawKit Jvm.RoadKit Bundle
theorem no_inst {Z : State} {a0 : Array Value} {C S K : String} {q : Nat} (w : (Jvm.Cond.superclass C S).before a0 Z = true) (wr : (Jvm.Cond.noSuperclass S).before a0 Z = true) (wi : (Jvm.Cond.instantiable K q).before a0 Z = true) (hn : C ≠ K) (hs : S ≠ K) : ∃ c t, Z.vm.findClass C = some c ∧ Z.vm.findClass K = some t ∧ Z.vm.assignable c t = false := by
  obtain ⟨t, kt, g0, g2, g5, g7, -⟩ := Cond.instantiable_spec wi
  obtain ⟨c, h0⟩ := found_sup w
  obtain ⟨p, k, kp, h1, h2, h3, h4, h5, -, h7⟩ := Cond.superclass_spec h0 w
  obtain ⟨r, kr, r1, r2, r3, -, -⟩ := Cond.noSuperclass_spec wr
  cases h1.symm.trans r1
  have ne := ids_ne h0 g0 hn
  have ne2 := ids_ne r1 g0 hs
  have n3 : ∀ fuel, Z.vm.isSubclassAux fuel p t = false := fun fuel => by
    cases fuel with
    | zero => rfl
    | succ f => simp [Vm.isSubclassAux, ne2, r2, r3]
  have n4 : ∀ fuel, Z.vm.isSubclassAux fuel c t = false := fun fuel => by
    cases fuel with
    | zero => rfl
    | succ f => simp [Vm.isSubclassAux, ne, h2, h4, n3]
  simp only [Bool.or_eq_false_iff] at g7
  refine ⟨c, t, h0, g0, ?_⟩
  show Z.vm.assignableAux (255 + 1) c t = false
  simp [Vm.assignableAux, ne, h2, g2, h5, g5, g7.1, Vm.isSubclass, n4]
end Jvm.OwnW
namespace Jvm.OwnW
open Sem ClassFile Op Lib Jvm.Stand Jvm.Free Jvm.LawKit Jvm.RoadKit Bundle
theorem codT {cs : List Int32} {cd : Int32} {vs : List Value} (T : Txt cs cd vs) (h0 : 0 < cs.length) (hn : cs.length ≤ 4000) : b8 (XT.ushr (Int32.ofNat cs.length - Int32.ofNat vs.length) 31) = cd := by
  rcases T with ⟨rfl, rfl, -⟩ | ⟨rfl, rfl, -⟩
  · rw [lat_length, Int32.sub_self]; rfl
  · rw [wid_length]; exact codU h0 hn
end Jvm.OwnW
namespace Jvm.OwnW
open Sem ClassFile Op Lib Jvm.Stand Jvm.Free Jvm.LawKit Jvm.RoadKit Bundle
theorem nar_ref {v : Value} {n : String} (h : v.isRef = true) : narrow (.object n) v = v := by rcases ref_cases h with rfl | ⟨_, rfl⟩ <;> rfl
theorem fits_ref' {v : Value} {n : String} (h : v.isRef = true) : fits (.object n) v = true := by rcases ref_cases h with rfl | ⟨_, rfl⟩ <;> rfl
theorem catle {v : Value} {st : List Value} {A D C : Nat} (h : v.isRef = true) (g : Nat.ble ((List.map (fun v : Value => v.category) (.null :: st)).sum + A + D) C = true) : (List.map (fun v : Value => v.category) (v :: st)).sum + A + D ≤ C := by
  rcases ref_cases h with rfl | ⟨_, rfl⟩ <;> exact le g
theorem catle2 {v x : Value} {st : List Value} {A D C : Nat} (h : v.isRef = true) (g : Nat.ble ((List.map (fun v : Value => v.category) (x :: .null :: st)).sum + A + D) C = true) : (List.map (fun v : Value => v.category) (x :: v :: st)).sum + A + D ≤ C := by
  rcases ref_cases h with rfl | ⟨_, rfl⟩ <;> exact le g
theorem catle3 {v u x : Value} {st : List Value} {A D C : Nat} (h : v.isRef = true) (h' : u.isRef = true) (g : Nat.ble ((List.map (fun v : Value => v.category) (.null :: x :: .null :: st)).sum + A + D) C = true) : (List.map (fun v : Value => v.category) (u :: x :: v :: st)).sum + A + D ≤ C := by
  rcases ref_cases h with rfl | ⟨_, rfl⟩ <;> rcases ref_cases h' with rfl | ⟨_, rfl⟩ <;> exact le g
end Jvm.OwnW
namespace Jvm.OwnW
open Sem ClassFile Op Lib Jvm.Stand Jvm.Free Jvm.LawKit Jvm.RoadKit Bundle
section
variable {args : Array Value} {s : State}
theorem ex_ev {t : Term} {K : String} (h : (Jvm.Cond.exactly t K).value args s none s [] = some true) : ∃ a, t.eval args s none [] s = some (.ref a) ∧ Exa s s.heap a K := by
  obtain ⟨a, _, _, _, e, -⟩ := Cond.exactly_spec (Cond.before_iff.mpr h)
  exact ⟨a, e, Exa.start e h⟩
theorem arr_ev {t : Term} {ty : FieldType} (h : (Jvm.Cond.arrayOf t ty).value args s none s [] = some true) : ∃ a, t.eval args s none [] s = some (.ref a) := by
  simp only [Cond.value] at h
  cases hv : t.eval args s none [] s with
  | none => simp [hv] at h
  | some w => cases w <;> simp [hv] at h <;> exact ⟨_, rfl⟩
theorem eq_int {t : Term} {v : Int32} (h : (Jvm.Cond.eq t (.int v)).value args s none s [] = some true) : t.eval args s none [] s = some (.int v) := by
  simp only [Cond.value, Term.int_eval] at h
  cases hv : t.eval args s none [] s with
  | none => simp [hv] at h
  | some w => cases w <;> simp [hv] at h <;> simp [h]
theorem eq_refR {t u : Term} {a : Addr} (eu : u.eval args s none [] s = some (.ref a)) (h : (Jvm.Cond.eq t u).value args s none s [] = some true) : t.eval args s none [] s = some (.ref a) := by
  simp only [Cond.value, eu] at h
  cases hv : t.eval args s none [] s with
  | none => simp [hv] at h
  | some w => cases w <;> simp [hv] at h <;> simp [h]
theorem fld_ev {t : Term} {O f fd : String} {a : Addr} {v : Value} (ev : t.eval args s none [] s = some (.ref a)) (e : (Term.field t O f fd).eval args s none [] s = some v) : Fld s s.heap a O f fd v := by
  apply Fld.start
  rw [← e]; simp [Term.eval, ev]
theorem arl_ev {t : Term} {a : Addr} {ty : FieldType} {vs : List Value} (hf : Fit s) (ev : t.eval args s none [] s = some (.ref a)) (ha : (Jvm.Cond.arrayOf t ty).value args s none s [] = some true) (hl : (Jvm.Cond.eq (.length t) (.int (Int32.ofNat vs.length))).value args s none s [] = some true) (hn : vs.length < 2 ^ 31)
    (he : ∀ i v, vs[i]? = some v → (Term.elem t (.int (Int32.ofNat i))).eval args s none [] s = some v) : Arl s s.heap a ty vs := by
  obtain ⟨cl, A⟩ := Arr.start ev ha
  have hat : s.arrayAt? a = some cl := A.fin (Vm.Alike.refl _)
  have e1 := eq_int hl
  have sz : cl.slots.size = vs.length := by
    simp only [Term.eval, ev, hat, Option.bind_eq_bind, Option.bind_some, Option.pure_def] at e1
    split at e1
    · rename_i q
      simp only [Option.some.injEq, Value.int.injEq] at e1
      exact ofNat_inj q hn e1
    · cases e1
  have key : ∀ i v, vs[i]? = some v → cl.slots[i]? = some v := fun i v hv => by
    have hi := (List.getElem?_eq_some_iff.mp hv).1
    have e2 := he i v hv
    have q := ofNat_idx (i := i) (by omega)
    simp only [Term.eval, ev, hat, Option.bind_eq_bind, Option.bind_some, q.1, if_false, q.2] at e2
    exact e2
  refine ⟨cl, A, ?_, hn, fun v hv => ?_⟩
  · apply List.ext_getElem?
    intro i
    rw [Array.getElem?_toList]
    cases hv : vs[i]? with
    | none => rw [List.getElem?_eq_none_iff] at hv; rw [Array.getElem?_eq_none_iff]; omega
    | some v => exact key i v hv
  · obtain ⟨i, hv⟩ := List.mem_iff_getElem?.mp hv
    have hi := (List.getElem?_eq_some_iff.mp hv).1
    have q := ofNat_idx (i := i) (by omega)
    exact elem_fits (j := Int32.ofNat i) hf A (by rw [q.2]; intro z; rcases z with z | z; exact q.1 z; omega) (by rw [q.2]; exact key i v hv)
theorem str_ev {t : Term} {cs : List Int32} (hf : Fit s) (hx : (Jvm.Cond.exactly t "java/lang/String").value args s none s [] = some true) (hc : (Jvm.Cond.eq (.field t "java/lang/String" "coder" "B") (.int 0)).value args s none s [] = some true)
    (ha : (Jvm.Cond.arrayOf (.field t "java/lang/String" "value" "[B") .byte).value args s none s [] = some true) (hl : (Jvm.Cond.eq (.length (.field t "java/lang/String" "value" "[B")) (.int (Int32.ofNat cs.length))).value args s none s [] = some true) (hn : cs.length ≤ 4000) (hL : ∀ c ∈ cs, b8 c = c ∧ IsL c)
    (he : ∀ i c, cs[i]? = some c → (Jvm.Cond.eq (.elem (.field t "java/lang/String" "value" "[B") (.int (Int32.ofNat i))) (.int c)).value args s none s [] = some true) : ∃ a, t.eval args s none [] s = some (.ref a) ∧ StrAt s s.heap a cs := by
  obtain ⟨a, ea, X⟩ := ex_ev hx
  obtain ⟨b, eb⟩ := arr_ev ha
  have hlat : lat cs = ints cs := by
    unfold lat ints; exact List.map_congr_left fun c hc => by rw [(hL c hc).1]
  have A : Arl s s.heap b .byte (lat cs) := by
    rw [hlat]
    refine arl_ev hf eb ha (by rw [ints_length]; exact hl) (by rw [ints_length]; omega) fun i v hv => ?_
    obtain ⟨c, hc1, rfl⟩ : ∃ c, cs[i]? = some c ∧ v = .int c := by
      unfold ints at hv; rw [List.getElem?_map] at hv
      cases hq : cs[i]? with
      | none => rw [hq] at hv; cases hv
      | some c => rw [hq] at hv; exact ⟨c, rfl, (Option.some.inj hv).symm⟩
    exact eq_int (he i c hc1)
  exact ⟨a, ea, b, 0, lat cs, X, fld_ev ea eb, fld_ev ea (eq_int hc), A, Or.inl ⟨rfl, rfl, fun c hc => (hL c hc).2.2⟩, fun c hc => (hL c hc).2.isC, hn⟩
end
end Jvm.OwnW
namespace Jvm.Pilot.@@N@@
open Jvm Jvm.ClassFile Sem Op Lib Jvm.Free Jvm.Stand Jvm.LawKit Jvm.RoadKit Bundle Jvm.Pilot.@@N@@.Jvm.D Jvm.OwnW
set_option maxRecDepth 65536
set_option maxHeartbeats 4000000
theorem tw0 : (Jvm.Cond.constant "no/nordsegl/internal/xml/DomIsXmlWhitespacePinLaw" (8 : Nat) (2147483647 : Int32)) ∈ tables_1 := List.mem_of_getElem? (i := 0) rfl
theorem tw1 : (Jvm.Cond.methodLink "no/nordsegl/internal/xml/DomIsXmlWhitespacePinLaw" (9 : Nat) ({ cls := "no/nordsegl/internal/xml/DomIsXmlWhitespacePinLaw", name := "pick", desc := "(I)C" } : Jvm.MethodName)) ∈ tables_1 := List.mem_of_getElem? (i := 1) rfl
theorem tw2 : (Jvm.Cond.static ({ cls := "no/nordsegl/internal/xml/DomIsXmlWhitespacePinLaw", name := "pick", desc := "(I)C" } : Jvm.MethodName)) ∈ tables_1 := List.mem_of_getElem? (i := 2) rfl
theorem tw3 : (Jvm.Cond.initialized "no/nordsegl/internal/xml/DomIsXmlWhitespacePinLaw") ∈ tables_1 := List.mem_of_getElem? (i := 3) rfl
theorem tw4 : (Jvm.Cond.code ({ cls := "no/nordsegl/internal/xml/DomIsXmlWhitespacePinLaw", name := "pick", desc := "(I)C" } : Jvm.MethodName) method_2_code (2 : Nat) (Option.some Jvm.ClassFile.FieldType.char)) ∈ tables_1 := List.mem_of_getElem? (i := 4) rfl
theorem tw5 : (Jvm.Cond.constant "no/nordsegl/internal/xml/DomIsXmlWhitespacePinLaw" (7 : Nat) (65535 : Int32)) ∈ tables_1 := List.mem_of_getElem? (i := 5) rfl
theorem tw6 : (Jvm.Cond.classLink "no/nordsegl/internal/xml/DomIsXmlWhitespacePinLaw" (15 : Nat) "java/lang/String") ∈ tables_1 := List.mem_of_getElem? (i := 6) rfl
theorem tw7 : (Jvm.Cond.instantiable "java/lang/String" (4 : Nat)) ∈ tables_1 := List.mem_of_getElem? (i := 7) rfl
theorem tw8 : (Jvm.Cond.initialized "java/lang/String") ∈ tables_1 := List.mem_of_getElem? (i := 8) rfl
theorem tw9 : (Jvm.Cond.arrayClass Jvm.ClassFile.FieldType.char) ∈ tables_1 := List.mem_of_getElem? (i := 9) rfl
theorem tw10 : (Jvm.Cond.methodLink "no/nordsegl/internal/xml/DomIsXmlWhitespacePinLaw" (17 : Nat) ({ cls := "java/lang/String", name := "<init>", desc := "([C)V" } : Jvm.MethodName)) ∈ tables_1 := List.mem_of_getElem? (i := 10) rfl
theorem tw11 : (Jvm.Cond.instanceMethod ({ cls := "java/lang/String", name := "<init>", desc := "([C)V" } : Jvm.MethodName)) ∈ tables_1 := List.mem_of_getElem? (i := 11) rfl
theorem tw12 : (Jvm.Cond.code ({ cls := "java/lang/String", name := "<init>", desc := "([C)V" } : Jvm.MethodName) jdk_42_method_3_code (2 : Nat) (Option.none : Option Jvm.ClassFile.FieldType)) ∈ tables_1 := List.mem_of_getElem? (i := 12) rfl
theorem tw13 : (Jvm.Cond.methodLink "java/lang/String" (27 : Nat) ({ cls := "java/lang/String", name := "<init>", desc := "([CIILjava/lang/Void;)V" } : Jvm.MethodName)) ∈ tables_1 := List.mem_of_getElem? (i := 13) rfl
theorem tw14 : (Jvm.Cond.instanceMethod ({ cls := "java/lang/String", name := "<init>", desc := "([CIILjava/lang/Void;)V" } : Jvm.MethodName)) ∈ tables_1 := List.mem_of_getElem? (i := 14) rfl
theorem tw16 : (Jvm.Cond.code ({ cls := "java/lang/String", name := "<init>", desc := "([CIILjava/lang/Void;)V" } : Jvm.MethodName) jdk_42_method_149_code (6 : Nat) (Option.none : Option Jvm.ClassFile.FieldType)) ∈ tables_1 := List.mem_of_getElem? (i := 16) rfl
theorem tw17 : (Jvm.Cond.methodLink "java/lang/String" (1 : Nat) ({ cls := "java/lang/Object", name := "<init>", desc := "()V" } : Jvm.MethodName)) ∈ tables_1 := List.mem_of_getElem? (i := 17) rfl
theorem tw18 : (Jvm.Cond.instanceMethod ({ cls := "java/lang/Object", name := "<init>", desc := "()V" } : Jvm.MethodName)) ∈ tables_1 := List.mem_of_getElem? (i := 18) rfl
theorem tw19 : (Jvm.Cond.code ({ cls := "java/lang/Object", name := "<init>", desc := "()V" } : Jvm.MethodName) object_method_1_code (1 : Nat) (Option.none : Option Jvm.ClassFile.FieldType)) ∈ tables_1 := List.mem_of_getElem? (i := 19) rfl
theorem tw20 : (Jvm.Cond.stringLink "java/lang/String" (7 : Nat) "") ∈ tables_1 := List.mem_of_getElem? (i := 20) rfl
theorem tw21 : (Jvm.Cond.arrayClass Jvm.ClassFile.FieldType.byte) ∈ tables_1 := List.mem_of_getElem? (i := 21) rfl
theorem tw22 : (Jvm.Cond.laysFinal "java/lang/String" "java/lang/String" "value" "[B") ∈ tables_1 := List.mem_of_getElem? (i := 22) rfl
theorem tw23 : (Jvm.Cond.laysFinal "java/lang/String" "java/lang/String" "coder" "B") ∈ tables_1 := List.mem_of_getElem? (i := 23) rfl
theorem tw26 : (Jvm.Cond.fieldLink "java/lang/String" (9 : Nat) "java/lang/String" "value" "[B") ∈ tables_1 := List.mem_of_getElem? (i := 26) rfl
theorem tw27 : (Jvm.Cond.fieldLink "java/lang/String" (15 : Nat) "java/lang/String" "coder" "B") ∈ tables_1 := List.mem_of_getElem? (i := 27) rfl
theorem tw28 : (Jvm.Cond.methodLink "no/nordsegl/internal/xml/DomIsXmlWhitespacePinLaw" (24 : Nat) ({ cls := "no/nordsegl/internal/xml/Dom", name := "isXmlWhitespace", desc := "(Ljava/lang/String;)Z" } : Jvm.MethodName)) ∈ tables_1 := List.mem_of_getElem? (i := 28) rfl
theorem tw29 : (Jvm.Cond.static ({ cls := "no/nordsegl/internal/xml/Dom", name := "isXmlWhitespace", desc := "(Ljava/lang/String;)Z" } : Jvm.MethodName)) ∈ tables_1 := List.mem_of_getElem? (i := 29) rfl
theorem tw30 : (Jvm.Cond.initialized "no/nordsegl/internal/xml/Dom") ∈ tables_1 := List.mem_of_getElem? (i := 30) rfl
theorem tw31 : (Jvm.Cond.code ({ cls := "no/nordsegl/internal/xml/Dom", name := "isXmlWhitespace", desc := "(Ljava/lang/String;)Z" } : Jvm.MethodName) prog_29_method_13_code (2 : Nat) (Option.some Jvm.ClassFile.FieldType.boolean)) ∈ tables_1 := List.mem_of_getElem? (i := 31) rfl
theorem tw32 : (Jvm.Cond.methodLink "no/nordsegl/internal/xml/Dom" (110 : Nat) ({ cls := "java/lang/String", name := "length", desc := "()I" } : Jvm.MethodName)) ∈ tables_1 := List.mem_of_getElem? (i := 32) rfl
theorem tw33 : (Jvm.Cond.declares ({ cls := "java/lang/String", name := "length", desc := "()I" } : Jvm.MethodName)) ∈ tables_1 := List.mem_of_getElem? (i := 33) rfl
theorem tw34 : (Jvm.Cond.instanceMethod ({ cls := "java/lang/String", name := "length", desc := "()I" } : Jvm.MethodName)) ∈ tables_1 := List.mem_of_getElem? (i := 34) rfl
theorem tw35 : (Jvm.Cond.selects "java/lang/String" ({ cls := "java/lang/String", name := "length", desc := "()I" } : Jvm.MethodName) ({ cls := "java/lang/String", name := "length", desc := "()I" } : Jvm.MethodName)) ∈ tables_1 := List.mem_of_getElem? (i := 35) rfl
theorem tw36 : (Jvm.Cond.code ({ cls := "java/lang/String", name := "length", desc := "()I" } : Jvm.MethodName) jdk_42_method_54_code (1 : Nat) (Option.some Jvm.ClassFile.FieldType.int)) ∈ tables_1 := List.mem_of_getElem? (i := 36) rfl
theorem tw37 : (Jvm.Cond.methodLink "java/lang/String" (335 : Nat) ({ cls := "java/lang/String", name := "coder", desc := "()B" } : Jvm.MethodName)) ∈ tables_1 := List.mem_of_getElem? (i := 37) rfl
theorem tw38 : (Jvm.Cond.declares ({ cls := "java/lang/String", name := "coder", desc := "()B" } : Jvm.MethodName)) ∈ tables_1 := List.mem_of_getElem? (i := 38) rfl
theorem tw39 : (Jvm.Cond.instanceMethod ({ cls := "java/lang/String", name := "coder", desc := "()B" } : Jvm.MethodName)) ∈ tables_1 := List.mem_of_getElem? (i := 39) rfl
theorem tw40 : (Jvm.Cond.selects "java/lang/String" ({ cls := "java/lang/String", name := "coder", desc := "()B" } : Jvm.MethodName) ({ cls := "java/lang/String", name := "coder", desc := "()B" } : Jvm.MethodName)) ∈ tables_1 := List.mem_of_getElem? (i := 40) rfl
theorem tw41 : (Jvm.Cond.code ({ cls := "java/lang/String", name := "coder", desc := "()B" } : Jvm.MethodName) jdk_42_method_152_code (1 : Nat) (Option.some Jvm.ClassFile.FieldType.byte)) ∈ tables_1 := List.mem_of_getElem? (i := 41) rfl
theorem tw42 : (Jvm.Cond.fieldLink "java/lang/String" (38 : Nat) "java/lang/String" "COMPACT_STRINGS" "Z") ∈ tables_1 := List.mem_of_getElem? (i := 42) rfl
theorem tw43 : (Jvm.Cond.methodLink "java/lang/String" (177 : Nat) ({ cls := "java/lang/StringUTF16", name := "compress", desc := "([CII)[B" } : Jvm.MethodName)) ∈ tables_1 := List.mem_of_getElem? (i := 43) rfl
theorem tw44 : (Jvm.Cond.static ({ cls := "java/lang/StringUTF16", name := "compress", desc := "([CII)[B" } : Jvm.MethodName)) ∈ tables_1 := List.mem_of_getElem? (i := 44) rfl
theorem tw45 : (Jvm.Cond.initialized "java/lang/StringUTF16") ∈ tables_1 := List.mem_of_getElem? (i := 45) rfl
theorem tw46 : (Jvm.Cond.code ({ cls := "java/lang/StringUTF16", name := "compress", desc := "([CII)[B" } : Jvm.MethodName) jdk_52_method_16_code (6 : Nat) (Option.some (Jvm.ClassFile.FieldType.array Jvm.ClassFile.FieldType.byte))) ∈ tables_1 := List.mem_of_getElem? (i := 46) rfl
theorem tw47 : (Jvm.Cond.methodLink "java/lang/StringUTF16" (115 : Nat) ({ cls := "java/lang/StringUTF16", name := "compress", desc := "([CI[BII)I" } : Jvm.MethodName)) ∈ tables_1 := List.mem_of_getElem? (i := 47) rfl
theorem tw48 : (Jvm.Cond.static ({ cls := "java/lang/StringUTF16", name := "compress", desc := "([CI[BII)I" } : Jvm.MethodName)) ∈ tables_1 := List.mem_of_getElem? (i := 48) rfl
theorem tw49 : (Jvm.Cond.code ({ cls := "java/lang/StringUTF16", name := "compress", desc := "([CI[BII)I" } : Jvm.MethodName) jdk_52_method_21_code (7 : Nat) (Option.some Jvm.ClassFile.FieldType.int)) ∈ tables_1 := List.mem_of_getElem? (i := 49) rfl
theorem tw50 : (Jvm.Cond.methodLink "java/lang/String" (47 : Nat) ({ cls := "java/lang/StringUTF16", name := "coderFromArrayLen", desc := "([BI)B" } : Jvm.MethodName)) ∈ tables_1 := List.mem_of_getElem? (i := 50) rfl
theorem tw51 : (Jvm.Cond.static ({ cls := "java/lang/StringUTF16", name := "coderFromArrayLen", desc := "([BI)B" } : Jvm.MethodName)) ∈ tables_1 := List.mem_of_getElem? (i := 51) rfl
theorem tw52 : (Jvm.Cond.code ({ cls := "java/lang/StringUTF16", name := "coderFromArrayLen", desc := "([BI)B" } : Jvm.MethodName) jdk_52_method_15_code (2 : Nat) (Option.some Jvm.ClassFile.FieldType.byte)) ∈ tables_1 := List.mem_of_getElem? (i := 52) rfl
theorem tw53 : (Jvm.Cond.methodLink "no/nordsegl/internal/xml/DomIsXmlWhitespacePinLaw" (20 : Nat) ({ cls := "no/nordsegl/internal/xml/DomIsXmlWhitespacePinLaw", name := "ws", desc := "(C)Z" } : Jvm.MethodName)) ∈ tables_1 := List.mem_of_getElem? (i := 53) rfl
theorem tw54 : (Jvm.Cond.static ({ cls := "no/nordsegl/internal/xml/DomIsXmlWhitespacePinLaw", name := "ws", desc := "(C)Z" } : Jvm.MethodName)) ∈ tables_1 := List.mem_of_getElem? (i := 54) rfl
theorem tw55 : (Jvm.Cond.code ({ cls := "no/nordsegl/internal/xml/DomIsXmlWhitespacePinLaw", name := "ws", desc := "(C)Z" } : Jvm.MethodName) method_3_code (1 : Nat) (Option.some Jvm.ClassFile.FieldType.boolean)) ∈ tables_1 := List.mem_of_getElem? (i := 55) rfl
theorem tw56 : (Jvm.Cond.methodLink "no/nordsegl/internal/xml/Dom" (114 : Nat) ({ cls := "java/lang/String", name := "charAt", desc := "(I)C" } : Jvm.MethodName)) ∈ tables_1 := List.mem_of_getElem? (i := 56) rfl
theorem tw57 : (Jvm.Cond.declares ({ cls := "java/lang/String", name := "charAt", desc := "(I)C" } : Jvm.MethodName)) ∈ tables_1 := List.mem_of_getElem? (i := 57) rfl
theorem tw58 : (Jvm.Cond.instanceMethod ({ cls := "java/lang/String", name := "charAt", desc := "(I)C" } : Jvm.MethodName)) ∈ tables_1 := List.mem_of_getElem? (i := 58) rfl
theorem tw59 : (Jvm.Cond.selects "java/lang/String" ({ cls := "java/lang/String", name := "charAt", desc := "(I)C" } : Jvm.MethodName) ({ cls := "java/lang/String", name := "charAt", desc := "(I)C" } : Jvm.MethodName)) ∈ tables_1 := List.mem_of_getElem? (i := 59) rfl
theorem tw60 : (Jvm.Cond.code ({ cls := "java/lang/String", name := "charAt", desc := "(I)C" } : Jvm.MethodName) jdk_42_method_56_code (2 : Nat) (Option.some Jvm.ClassFile.FieldType.char)) ∈ tables_1 := List.mem_of_getElem? (i := 60) rfl
theorem tw61 : (Jvm.Cond.methodLink "java/lang/String" (492 : Nat) ({ cls := "java/lang/String", name := "isLatin1", desc := "()Z" } : Jvm.MethodName)) ∈ tables_1 := List.mem_of_getElem? (i := 61) rfl
theorem tw62 : (Jvm.Cond.declares ({ cls := "java/lang/String", name := "isLatin1", desc := "()Z" } : Jvm.MethodName)) ∈ tables_1 := List.mem_of_getElem? (i := 62) rfl
theorem tw63 : (Jvm.Cond.instanceMethod ({ cls := "java/lang/String", name := "isLatin1", desc := "()Z" } : Jvm.MethodName)) ∈ tables_1 := List.mem_of_getElem? (i := 63) rfl
theorem tw64 : (Jvm.Cond.selects "java/lang/String" ({ cls := "java/lang/String", name := "isLatin1", desc := "()Z" } : Jvm.MethodName) ({ cls := "java/lang/String", name := "isLatin1", desc := "()Z" } : Jvm.MethodName)) ∈ tables_1 := List.mem_of_getElem? (i := 64) rfl
theorem tw65 : (Jvm.Cond.code ({ cls := "java/lang/String", name := "isLatin1", desc := "()Z" } : Jvm.MethodName) jdk_42_method_154_code (1 : Nat) (Option.some Jvm.ClassFile.FieldType.boolean)) ∈ tables_1 := List.mem_of_getElem? (i := 65) rfl
theorem tw66 : (Jvm.Cond.methodLink "java/lang/String" (495 : Nat) ({ cls := "java/lang/StringLatin1", name := "charAt", desc := "([BI)C" } : Jvm.MethodName)) ∈ tables_1 := List.mem_of_getElem? (i := 66) rfl
theorem tw67 : (Jvm.Cond.static ({ cls := "java/lang/StringLatin1", name := "charAt", desc := "([BI)C" } : Jvm.MethodName)) ∈ tables_1 := List.mem_of_getElem? (i := 67) rfl
theorem tw68 : (Jvm.Cond.initialized "java/lang/StringLatin1") ∈ tables_1 := List.mem_of_getElem? (i := 68) rfl
theorem tw69 : (Jvm.Cond.code ({ cls := "java/lang/StringLatin1", name := "charAt", desc := "([BI)C" } : Jvm.MethodName) jdk_43_method_2_code (2 : Nat) (Option.some Jvm.ClassFile.FieldType.char)) ∈ tables_1 := List.mem_of_getElem? (i := 69) rfl
theorem tw70 : (Jvm.Cond.methodLink "java/lang/StringLatin1" (9 : Nat) ({ cls := "java/lang/String", name := "checkIndex", desc := "(II)V" } : Jvm.MethodName)) ∈ tables_1 := List.mem_of_getElem? (i := 70) rfl
theorem tw71 : (Jvm.Cond.static ({ cls := "java/lang/String", name := "checkIndex", desc := "(II)V" } : Jvm.MethodName)) ∈ tables_1 := List.mem_of_getElem? (i := 71) rfl
theorem tw72 : (Jvm.Cond.code ({ cls := "java/lang/String", name := "checkIndex", desc := "(II)V" } : Jvm.MethodName) jdk_42_method_155_code (2 : Nat) (Option.none : Option Jvm.ClassFile.FieldType)) ∈ tables_1 := List.mem_of_getElem? (i := 72) rfl
theorem tw73 : (Jvm.Cond.fieldLink "java/lang/String" (1053 : Nat) "jdk/internal/util/Preconditions" "SIOOBE_FORMATTER" "Ljava/util/function/BiFunction;") ∈ tables_1 := List.mem_of_getElem? (i := 73) rfl
theorem tw74 : (Jvm.Cond.initialized "jdk/internal/util/Preconditions") ∈ tables_1 := List.mem_of_getElem? (i := 74) rfl
theorem tw75 : (Jvm.Cond.methodLink "java/lang/String" (1059 : Nat) ({ cls := "jdk/internal/util/Preconditions", name := "checkIndex", desc := "(IILjava/util/function/BiFunction;)I" } : Jvm.MethodName)) ∈ tables_1 := List.mem_of_getElem? (i := 75) rfl
theorem tw76 : (Jvm.Cond.static ({ cls := "jdk/internal/util/Preconditions", name := "checkIndex", desc := "(IILjava/util/function/BiFunction;)I" } : Jvm.MethodName)) ∈ tables_1 := List.mem_of_getElem? (i := 76) rfl
theorem tw77 : (Jvm.Cond.code ({ cls := "jdk/internal/util/Preconditions", name := "checkIndex", desc := "(IILjava/util/function/BiFunction;)I" } : Jvm.MethodName) jdk_41_method_11_code (3 : Nat) (Option.some Jvm.ClassFile.FieldType.int)) ∈ tables_1 := List.mem_of_getElem? (i := 77) rfl
theorem tw78 : (Jvm.Cond.methodLink "no/nordsegl/internal/xml/Dom" (118 : Nat) ({ cls := "no/nordsegl/internal/xml/Dom", name := "isXmlWhitespace", desc := "(C)Z" } : Jvm.MethodName)) ∈ tables_1 := List.mem_of_getElem? (i := 78) rfl
theorem tw79 : (Jvm.Cond.static ({ cls := "no/nordsegl/internal/xml/Dom", name := "isXmlWhitespace", desc := "(C)Z" } : Jvm.MethodName)) ∈ tables_1 := List.mem_of_getElem? (i := 79) rfl
theorem tw80 : (Jvm.Cond.code ({ cls := "no/nordsegl/internal/xml/Dom", name := "isXmlWhitespace", desc := "(C)Z" } : Jvm.MethodName) prog_29_method_15_code (1 : Nat) (Option.some Jvm.ClassFile.FieldType.boolean)) ∈ tables_1 := List.mem_of_getElem? (i := 80) rfl
theorem tw81 : (Jvm.Cond.methodLink "java/lang/StringUTF16" (119 : Nat) ({ cls := "java/lang/StringUTF16", name := "toBytes", desc := "([CII)[B" } : Jvm.MethodName)) ∈ tables_1 := List.mem_of_getElem? (i := 81) rfl
theorem tw82 : (Jvm.Cond.static ({ cls := "java/lang/StringUTF16", name := "toBytes", desc := "([CII)[B" } : Jvm.MethodName)) ∈ tables_1 := List.mem_of_getElem? (i := 82) rfl
theorem tw83 : (Jvm.Cond.code ({ cls := "java/lang/StringUTF16", name := "toBytes", desc := "([CII)[B" } : Jvm.MethodName) jdk_52_method_14_code (5 : Nat) (Option.some (Jvm.ClassFile.FieldType.array Jvm.ClassFile.FieldType.byte))) ∈ tables_1 := List.mem_of_getElem? (i := 83) rfl
theorem tw84 : (Jvm.Cond.methodLink "java/lang/StringUTF16" (107 : Nat) ({ cls := "java/lang/StringUTF16", name := "newBytesFor", desc := "(I)[B" } : Jvm.MethodName)) ∈ tables_1 := List.mem_of_getElem? (i := 84) rfl
theorem tw85 : (Jvm.Cond.static ({ cls := "java/lang/StringUTF16", name := "newBytesFor", desc := "(I)[B" } : Jvm.MethodName)) ∈ tables_1 := List.mem_of_getElem? (i := 85) rfl
theorem tw86 : (Jvm.Cond.code ({ cls := "java/lang/StringUTF16", name := "newBytesFor", desc := "(I)[B" } : Jvm.MethodName) jdk_52_method_2_code (1 : Nat) (Option.some (Jvm.ClassFile.FieldType.array Jvm.ClassFile.FieldType.byte))) ∈ tables_1 := List.mem_of_getElem? (i := 86) rfl
theorem tw87 : (Jvm.Cond.methodLink "java/lang/StringUTF16" (11 : Nat) ({ cls := "java/lang/StringUTF16", name := "newBytesLength", desc := "(I)I" } : Jvm.MethodName)) ∈ tables_1 := List.mem_of_getElem? (i := 87) rfl
theorem tw88 : (Jvm.Cond.static ({ cls := "java/lang/StringUTF16", name := "newBytesLength", desc := "(I)I" } : Jvm.MethodName)) ∈ tables_1 := List.mem_of_getElem? (i := 88) rfl
theorem tw89 : (Jvm.Cond.code ({ cls := "java/lang/StringUTF16", name := "newBytesLength", desc := "(I)I" } : Jvm.MethodName) jdk_52_method_3_code (1 : Nat) (Option.some Jvm.ClassFile.FieldType.int)) ∈ tables_1 := List.mem_of_getElem? (i := 89) rfl
theorem tw90 : (Jvm.Cond.constant "java/lang/StringUTF16" (20 : Nat) (1073741823 : Int32)) ∈ tables_1 := List.mem_of_getElem? (i := 90) rfl
theorem tw91 : (Jvm.Cond.methodLink "java/lang/StringUTF16" (111 : Nat) ({ cls := "java/lang/StringUTF16", name := "putChar", desc := "([BII)V" } : Jvm.MethodName)) ∈ tables_1 := List.mem_of_getElem? (i := 91) rfl
theorem tw92 : (Jvm.Cond.static ({ cls := "java/lang/StringUTF16", name := "putChar", desc := "([BII)V" } : Jvm.MethodName)) ∈ tables_1 := List.mem_of_getElem? (i := 92) rfl
theorem tw93 : (Jvm.Cond.code ({ cls := "java/lang/StringUTF16", name := "putChar", desc := "([BII)V" } : Jvm.MethodName) jdk_52_method_4_code (3 : Nat) (Option.none : Option Jvm.ClassFile.FieldType)) ∈ tables_1 := List.mem_of_getElem? (i := 93) rfl
theorem tw94 : (Jvm.Cond.fieldLink "java/lang/StringUTF16" (44 : Nat) "java/lang/StringUTF16" "$assertionsDisabled" "Z") ∈ tables_1 := List.mem_of_getElem? (i := 94) rfl
theorem tw95 : (Jvm.Cond.fieldLink "java/lang/StringUTF16" (59 : Nat) "java/lang/StringUTF16" "HI_BYTE_SHIFT" "I") ∈ tables_1 := List.mem_of_getElem? (i := 95) rfl
theorem tw96 : (Jvm.Cond.fieldLink "java/lang/StringUTF16" (63 : Nat) "java/lang/StringUTF16" "LO_BYTE_SHIFT" "I") ∈ tables_1 := List.mem_of_getElem? (i := 96) rfl
theorem tw97 : (Jvm.Cond.methodLink "java/lang/StringUTF16" (71 : Nat) ({ cls := "java/lang/StringUTF16", name := "getChar", desc := "([BI)C" } : Jvm.MethodName)) ∈ tables_1 := List.mem_of_getElem? (i := 97) rfl
theorem tw98 : (Jvm.Cond.static ({ cls := "java/lang/StringUTF16", name := "getChar", desc := "([BI)C" } : Jvm.MethodName)) ∈ tables_1 := List.mem_of_getElem? (i := 98) rfl
theorem tw99 : (Jvm.Cond.code ({ cls := "java/lang/StringUTF16", name := "getChar", desc := "([BI)C" } : Jvm.MethodName) jdk_52_method_5_code (2 : Nat) (Option.some Jvm.ClassFile.FieldType.char)) ∈ tables_1 := List.mem_of_getElem? (i := 99) rfl
theorem tw100 : (Jvm.Cond.methodLink "java/lang/String" (498 : Nat) ({ cls := "java/lang/StringUTF16", name := "charAt", desc := "([BI)C" } : Jvm.MethodName)) ∈ tables_1 := List.mem_of_getElem? (i := 100) rfl
theorem tw101 : (Jvm.Cond.static ({ cls := "java/lang/StringUTF16", name := "charAt", desc := "([BI)C" } : Jvm.MethodName)) ∈ tables_1 := List.mem_of_getElem? (i := 101) rfl
theorem tw102 : (Jvm.Cond.code ({ cls := "java/lang/StringUTF16", name := "charAt", desc := "([BI)C" } : Jvm.MethodName) jdk_52_method_83_code (2 : Nat) (Option.some Jvm.ClassFile.FieldType.char)) ∈ tables_1 := List.mem_of_getElem? (i := 102) rfl
theorem tw103 : (Jvm.Cond.methodLink "java/lang/StringUTF16" (67 : Nat) ({ cls := "java/lang/StringUTF16", name := "checkIndex", desc := "(I[B)V" } : Jvm.MethodName)) ∈ tables_1 := List.mem_of_getElem? (i := 103) rfl
theorem tw104 : (Jvm.Cond.static ({ cls := "java/lang/StringUTF16", name := "checkIndex", desc := "(I[B)V" } : Jvm.MethodName)) ∈ tables_1 := List.mem_of_getElem? (i := 104) rfl
theorem tw105 : (Jvm.Cond.code ({ cls := "java/lang/StringUTF16", name := "checkIndex", desc := "(I[B)V" } : Jvm.MethodName) jdk_52_method_91_code (2 : Nat) (Option.none : Option Jvm.ClassFile.FieldType)) ∈ tables_1 := List.mem_of_getElem? (i := 105) rfl
theorem tw106 : (Jvm.Cond.methodLink "java/lang/StringUTF16" (48 : Nat) ({ cls := "java/lang/StringUTF16", name := "length", desc := "([B)I" } : Jvm.MethodName)) ∈ tables_1 := List.mem_of_getElem? (i := 106) rfl
theorem tw107 : (Jvm.Cond.static ({ cls := "java/lang/StringUTF16", name := "length", desc := "([B)I" } : Jvm.MethodName)) ∈ tables_1 := List.mem_of_getElem? (i := 107) rfl
theorem tw108 : (Jvm.Cond.code ({ cls := "java/lang/StringUTF16", name := "length", desc := "([B)I" } : Jvm.MethodName) jdk_52_method_6_code (1 : Nat) (Option.some Jvm.ClassFile.FieldType.int)) ∈ tables_1 := List.mem_of_getElem? (i := 108) rfl
theorem tw109 : (Jvm.Cond.methodLink "java/lang/StringUTF16" (414 : Nat) ({ cls := "java/lang/String", name := "checkIndex", desc := "(II)V" } : Jvm.MethodName)) ∈ tables_1 := List.mem_of_getElem? (i := 109) rfl
theorem db0_3 : Dec jdk_52_method_21_code 3 (.iload 5) 2 5 := ⟨by decide +kernel, rfl⟩
theorem db0_5 : Dec jdk_52_method_21_code 5 (.iload 4) 2 7 := ⟨by decide +kernel, rfl⟩
theorem db0_7 : DecJ jdk_52_method_21_code 7 (.if_icmp .ge 37) (37) 10 44 := ⟨by decide +kernel, rfl, by decide, by decide⟩
theorem db0_44 : Dec jdk_52_method_21_code 44 (.iload 4) 2 46 := ⟨by decide +kernel, rfl⟩
theorem db0_46 : Dec jdk_52_method_21_code 46 (.ireturn) 1 47 := ⟨by decide +kernel, rfl⟩
theorem db0_10 : Dec jdk_52_method_21_code 10 (.aload_n 0) 1 11 := ⟨by decide +kernel, rfl⟩
theorem db0_11 : Dec jdk_52_method_21_code 11 (.iload_n 1) 1 12 := ⟨by decide +kernel, rfl⟩
theorem db0_12 : Dec jdk_52_method_21_code 12 (.caload) 1 13 := ⟨by decide +kernel, rfl⟩
theorem db0_13 : Dec jdk_52_method_21_code 13 (.istore 6) 2 15 := ⟨by decide +kernel, rfl⟩
theorem db0_15 : Dec jdk_52_method_21_code 15 (.iload 6) 2 17 := ⟨by decide +kernel, rfl⟩
theorem db0_17 : Dec jdk_52_method_21_code 17 (.sipush 255) 3 20 := ⟨by decide +kernel, rfl⟩
theorem db0_20 : DecJ jdk_52_method_21_code 20 (.if_icmp .le 6) (6) 23 26 := ⟨by decide +kernel, rfl, by decide, by decide⟩
theorem db0_26 : Dec jdk_52_method_21_code 26 (.aload_n 2) 1 27 := ⟨by decide +kernel, rfl⟩
theorem db0_27 : Dec jdk_52_method_21_code 27 (.iload_n 3) 1 28 := ⟨by decide +kernel, rfl⟩
theorem db0_28 : Dec jdk_52_method_21_code 28 (.iload 6) 2 30 := ⟨by decide +kernel, rfl⟩
theorem db0_30 : Dec jdk_52_method_21_code 30 (.i2b) 1 31 := ⟨by decide +kernel, rfl⟩
theorem db0_31 : Dec jdk_52_method_21_code 31 (.bastore) 1 32 := ⟨by decide +kernel, rfl⟩
theorem db0_32 : Dec jdk_52_method_21_code 32 (.iinc 1 1) 3 35 := ⟨by decide +kernel, rfl⟩
theorem db0_35 : Dec jdk_52_method_21_code 35 (.iinc 3 1) 3 38 := ⟨by decide +kernel, rfl⟩
theorem db0_38 : Dec jdk_52_method_21_code 38 (.iinc 5 1) 3 41 := ⟨by decide +kernel, rfl⟩
theorem db0_41 : DecJ jdk_52_method_21_code 41 (.goto (-38)) (-38) 44 3 := ⟨by decide +kernel, rfl, by decide, by decide⟩
theorem db0_23 : Dec jdk_52_method_21_code 23 (.iload 5) 2 25 := ⟨by decide +kernel, rfl⟩
theorem db0_25 : Dec jdk_52_method_21_code 25 (.ireturn) 1 26 := ⟨by decide +kernel, rfl⟩
theorem db0_0 : Dec jdk_52_method_21_code 0 (.iconst 0) 1 1 := ⟨by decide +kernel, rfl⟩
theorem db0_1 : Dec jdk_52_method_21_code 1 (.istore 5) 2 3 := ⟨by decide +kernel, rfl⟩
theorem db1_0 : Dec jdk_52_method_15_code 0 (.iload_n 1) 1 1 := ⟨by decide +kernel, rfl⟩
theorem db1_1 : Dec jdk_52_method_15_code 1 (.aload_n 0) 1 2 := ⟨by decide +kernel, rfl⟩
theorem db1_2 : Dec jdk_52_method_15_code 2 (.arraylength) 1 3 := ⟨by decide +kernel, rfl⟩
theorem db1_3 : Dec jdk_52_method_15_code 3 (.isub) 1 4 := ⟨by decide +kernel, rfl⟩
theorem db1_4 : Dec jdk_52_method_15_code 4 (.bipush 31) 2 6 := ⟨by decide +kernel, rfl⟩
theorem db1_6 : Dec jdk_52_method_15_code 6 (.iushr) 1 7 := ⟨by decide +kernel, rfl⟩
theorem db1_7 : Dec jdk_52_method_15_code 7 (.i2b) 1 8 := ⟨by decide +kernel, rfl⟩
theorem db1_8 : Dec jdk_52_method_15_code 8 (.ireturn) 1 9 := ⟨by decide +kernel, rfl⟩
theorem db2_0 : Dec jdk_42_method_152_code 0 (.getstatic 38) 3 3 := ⟨by decide +kernel, rfl⟩
theorem db2_3 : DecJ jdk_42_method_152_code 3 (.ifCond .eq 10) (10) 6 13 := ⟨by decide +kernel, rfl, by decide, by decide⟩
theorem db2_6 : Dec jdk_42_method_152_code 6 (.aload_n 0) 1 7 := ⟨by decide +kernel, rfl⟩
theorem db2_7 : Dec jdk_42_method_152_code 7 (.getfield 15) 3 10 := ⟨by decide +kernel, rfl⟩
theorem db2_10 : DecJ jdk_42_method_152_code 10 (.goto 4) (4) 13 14 := ⟨by decide +kernel, rfl, by decide, by decide⟩
theorem db2_14 : Dec jdk_42_method_152_code 14 (.ireturn) 1 15 := ⟨by decide +kernel, rfl⟩
theorem db3_0 : Dec jdk_42_method_54_code 0 (.aload_n 0) 1 1 := ⟨by decide +kernel, rfl⟩
theorem db3_1 : Dec jdk_42_method_54_code 1 (.getfield 9) 3 4 := ⟨by decide +kernel, rfl⟩
theorem db3_4 : Dec jdk_42_method_54_code 4 (.arraylength) 1 5 := ⟨by decide +kernel, rfl⟩
theorem db3_5 : Dec jdk_42_method_54_code 5 (.aload_n 0) 1 6 := ⟨by decide +kernel, rfl⟩
theorem db3_6 : Dec jdk_42_method_54_code 6 (.invokevirtual 335) 3 9 := ⟨by decide +kernel, rfl⟩
theorem db3_9 : Dec jdk_42_method_54_code 9 (.ishr) 1 10 := ⟨by decide +kernel, rfl⟩
theorem db3_10 : Dec jdk_42_method_54_code 10 (.ireturn) 1 11 := ⟨by decide +kernel, rfl⟩
theorem db4_0 : Dec jdk_42_method_154_code 0 (.getstatic 38) 3 3 := ⟨by decide +kernel, rfl⟩
theorem db4_3 : DecJ jdk_42_method_154_code 3 (.ifCond .eq 14) (14) 6 17 := ⟨by decide +kernel, rfl, by decide, by decide⟩
theorem db4_6 : Dec jdk_42_method_154_code 6 (.aload_n 0) 1 7 := ⟨by decide +kernel, rfl⟩
theorem db4_7 : Dec jdk_42_method_154_code 7 (.getfield 15) 3 10 := ⟨by decide +kernel, rfl⟩
theorem db4_10 : DecJ jdk_42_method_154_code 10 (.ifCond .ne 7) (7) 13 17 := ⟨by decide +kernel, rfl, by decide, by decide⟩
theorem db4_17 : Dec jdk_42_method_154_code 17 (.iconst 0) 1 18 := ⟨by decide +kernel, rfl⟩
theorem db4_18 : Dec jdk_42_method_154_code 18 (.ireturn) 1 19 := ⟨by decide +kernel, rfl⟩
theorem db4_13 : Dec jdk_42_method_154_code 13 (.iconst 1) 1 14 := ⟨by decide +kernel, rfl⟩
theorem db4_14 : DecJ jdk_42_method_154_code 14 (.goto 4) (4) 17 18 := ⟨by decide +kernel, rfl, by decide, by decide⟩
theorem db5_0 : Dec jdk_41_method_11_code 0 (.iload_n 0) 1 1 := ⟨by decide +kernel, rfl⟩
theorem db5_1 : DecJ jdk_41_method_11_code 1 (.ifCond .lt 8) (8) 4 9 := ⟨by decide +kernel, rfl, by decide, by decide⟩
theorem db5_4 : Dec jdk_41_method_11_code 4 (.iload_n 0) 1 5 := ⟨by decide +kernel, rfl⟩
theorem db5_5 : Dec jdk_41_method_11_code 5 (.iload_n 1) 1 6 := ⟨by decide +kernel, rfl⟩
theorem db5_6 : DecJ jdk_41_method_11_code 6 (.if_icmp .lt 10) (10) 9 16 := ⟨by decide +kernel, rfl, by decide, by decide⟩
theorem db5_16 : Dec jdk_41_method_11_code 16 (.iload_n 0) 1 17 := ⟨by decide +kernel, rfl⟩
theorem db5_17 : Dec jdk_41_method_11_code 17 (.ireturn) 1 18 := ⟨by decide +kernel, rfl⟩
theorem db6_0 : Dec jdk_42_method_155_code 0 (.iload_n 0) 1 1 := ⟨by decide +kernel, rfl⟩
theorem db6_1 : Dec jdk_42_method_155_code 1 (.iload_n 1) 1 2 := ⟨by decide +kernel, rfl⟩
theorem db6_2 : Dec jdk_42_method_155_code 2 (.getstatic 1053) 3 5 := ⟨by decide +kernel, rfl⟩
theorem db6_5 : Dec jdk_42_method_155_code 5 (.invokestatic 1059) 3 8 := ⟨by decide +kernel, rfl⟩
theorem db6_8 : Dec jdk_42_method_155_code 8 (.pop) 1 9 := ⟨by decide +kernel, rfl⟩
theorem db6_9 : Dec jdk_42_method_155_code 9 (.return_) 1 10 := ⟨by decide +kernel, rfl⟩
theorem db7_0 : Dec jdk_43_method_2_code 0 (.iload_n 1) 1 1 := ⟨by decide +kernel, rfl⟩
theorem db7_1 : Dec jdk_43_method_2_code 1 (.aload_n 0) 1 2 := ⟨by decide +kernel, rfl⟩
theorem db7_2 : Dec jdk_43_method_2_code 2 (.arraylength) 1 3 := ⟨by decide +kernel, rfl⟩
theorem db7_3 : Dec jdk_43_method_2_code 3 (.invokestatic 9) 3 6 := ⟨by decide +kernel, rfl⟩
theorem db7_6 : Dec jdk_43_method_2_code 6 (.aload_n 0) 1 7 := ⟨by decide +kernel, rfl⟩
theorem db7_7 : Dec jdk_43_method_2_code 7 (.iload_n 1) 1 8 := ⟨by decide +kernel, rfl⟩
theorem db7_8 : Dec jdk_43_method_2_code 8 (.baload) 1 9 := ⟨by decide +kernel, rfl⟩
theorem db7_9 : Dec jdk_43_method_2_code 9 (.sipush 255) 3 12 := ⟨by decide +kernel, rfl⟩
theorem db7_12 : Dec jdk_43_method_2_code 12 (.iand) 1 13 := ⟨by decide +kernel, rfl⟩
theorem db7_13 : Dec jdk_43_method_2_code 13 (.i2c) 1 14 := ⟨by decide +kernel, rfl⟩
theorem db7_14 : Dec jdk_43_method_2_code 14 (.ireturn) 1 15 := ⟨by decide +kernel, rfl⟩
theorem db8_0 : Dec jdk_52_method_3_code 0 (.iload_n 0) 1 1 := ⟨by decide +kernel, rfl⟩
theorem db8_1 : DecJ jdk_52_method_3_code 1 (.ifCond .ge 11) (11) 4 12 := ⟨by decide +kernel, rfl, by decide, by decide⟩
theorem db8_12 : Dec jdk_52_method_3_code 12 (.iload_n 0) 1 13 := ⟨by decide +kernel, rfl⟩
theorem db8_13 : Dec jdk_52_method_3_code 13 (.ldc 20) 2 15 := ⟨by decide +kernel, rfl⟩
theorem db8_15 : DecJ jdk_52_method_3_code 15 (.if_icmp .lt 40) (40) 18 55 := ⟨by decide +kernel, rfl, by decide, by decide⟩
theorem db8_55 : Dec jdk_52_method_3_code 55 (.iload_n 0) 1 56 := ⟨by decide +kernel, rfl⟩
theorem db8_56 : Dec jdk_52_method_3_code 56 (.iconst 1) 1 57 := ⟨by decide +kernel, rfl⟩
theorem db8_57 : Dec jdk_52_method_3_code 57 (.ishl) 1 58 := ⟨by decide +kernel, rfl⟩
theorem db8_58 : Dec jdk_52_method_3_code 58 (.ireturn) 1 59 := ⟨by decide +kernel, rfl⟩
theorem db9_0 : Dec jdk_52_method_2_code 0 (.iload_n 0) 1 1 := ⟨by decide +kernel, rfl⟩
theorem db9_1 : Dec jdk_52_method_2_code 1 (.invokestatic 11) 3 4 := ⟨by decide +kernel, rfl⟩
theorem db9_4 : Dec jdk_52_method_2_code 4 (.newarray .byte) 2 6 := ⟨by decide +kernel, rfl⟩
theorem db9_6 : Dec jdk_52_method_2_code 6 (.areturn) 1 7 := ⟨by decide +kernel, rfl⟩
theorem db10_0 : Dec jdk_52_method_4_code 0 (.getstatic 44) 3 3 := ⟨by decide +kernel, rfl⟩
theorem db10_3 : DecJ jdk_52_method_4_code 3 (.ifCond .ne 25) (25) 6 28 := ⟨by decide +kernel, rfl, by decide, by decide⟩
theorem db10_28 : Dec jdk_52_method_4_code 28 (.iload_n 1) 1 29 := ⟨by decide +kernel, rfl⟩
theorem db10_29 : Dec jdk_52_method_4_code 29 (.iconst 1) 1 30 := ⟨by decide +kernel, rfl⟩
theorem db10_30 : Dec jdk_52_method_4_code 30 (.ishl) 1 31 := ⟨by decide +kernel, rfl⟩
theorem db10_31 : Dec jdk_52_method_4_code 31 (.istore_n 1) 1 32 := ⟨by decide +kernel, rfl⟩
theorem db10_32 : Dec jdk_52_method_4_code 32 (.aload_n 0) 1 33 := ⟨by decide +kernel, rfl⟩
theorem db10_33 : Dec jdk_52_method_4_code 33 (.iload_n 1) 1 34 := ⟨by decide +kernel, rfl⟩
theorem db10_34 : Dec jdk_52_method_4_code 34 (.iinc 1 1) 3 37 := ⟨by decide +kernel, rfl⟩
theorem db10_37 : Dec jdk_52_method_4_code 37 (.iload_n 2) 1 38 := ⟨by decide +kernel, rfl⟩
theorem db10_38 : Dec jdk_52_method_4_code 38 (.getstatic 59) 3 41 := ⟨by decide +kernel, rfl⟩
theorem db10_41 : Dec jdk_52_method_4_code 41 (.ishr) 1 42 := ⟨by decide +kernel, rfl⟩
theorem db10_42 : Dec jdk_52_method_4_code 42 (.i2b) 1 43 := ⟨by decide +kernel, rfl⟩
theorem db10_43 : Dec jdk_52_method_4_code 43 (.bastore) 1 44 := ⟨by decide +kernel, rfl⟩
theorem db10_44 : Dec jdk_52_method_4_code 44 (.aload_n 0) 1 45 := ⟨by decide +kernel, rfl⟩
theorem db10_45 : Dec jdk_52_method_4_code 45 (.iload_n 1) 1 46 := ⟨by decide +kernel, rfl⟩
theorem db10_46 : Dec jdk_52_method_4_code 46 (.iload_n 2) 1 47 := ⟨by decide +kernel, rfl⟩
theorem db10_47 : Dec jdk_52_method_4_code 47 (.getstatic 63) 3 50 := ⟨by decide +kernel, rfl⟩
theorem db10_50 : Dec jdk_52_method_4_code 50 (.ishr) 1 51 := ⟨by decide +kernel, rfl⟩
theorem db10_51 : Dec jdk_52_method_4_code 51 (.i2b) 1 52 := ⟨by decide +kernel, rfl⟩
theorem db10_52 : Dec jdk_52_method_4_code 52 (.bastore) 1 53 := ⟨by decide +kernel, rfl⟩
theorem db10_53 : Dec jdk_52_method_4_code 53 (.return_) 1 54 := ⟨by decide +kernel, rfl⟩
theorem db11_8 : Dec jdk_52_method_14_code 8 (.iload 4) 2 10 := ⟨by decide +kernel, rfl⟩
theorem db11_10 : Dec jdk_52_method_14_code 10 (.iload_n 2) 1 11 := ⟨by decide +kernel, rfl⟩
theorem db11_11 : DecJ jdk_52_method_14_code 11 (.if_icmp .ge 21) (21) 14 32 := ⟨by decide +kernel, rfl, by decide, by decide⟩
theorem db11_32 : Dec jdk_52_method_14_code 32 (.aload_n 3) 1 33 := ⟨by decide +kernel, rfl⟩
theorem db11_33 : Dec jdk_52_method_14_code 33 (.areturn) 1 34 := ⟨by decide +kernel, rfl⟩
theorem db11_14 : Dec jdk_52_method_14_code 14 (.aload_n 3) 1 15 := ⟨by decide +kernel, rfl⟩
theorem db11_15 : Dec jdk_52_method_14_code 15 (.iload 4) 2 17 := ⟨by decide +kernel, rfl⟩
theorem db11_17 : Dec jdk_52_method_14_code 17 (.aload_n 0) 1 18 := ⟨by decide +kernel, rfl⟩
theorem db11_18 : Dec jdk_52_method_14_code 18 (.iload_n 1) 1 19 := ⟨by decide +kernel, rfl⟩
theorem db11_19 : Dec jdk_52_method_14_code 19 (.caload) 1 20 := ⟨by decide +kernel, rfl⟩
theorem db11_20 : Dec jdk_52_method_14_code 20 (.invokestatic 111) 3 23 := ⟨by decide +kernel, rfl⟩
theorem db11_23 : Dec jdk_52_method_14_code 23 (.iinc 1 1) 3 26 := ⟨by decide +kernel, rfl⟩
theorem db11_26 : Dec jdk_52_method_14_code 26 (.iinc 4 1) 3 29 := ⟨by decide +kernel, rfl⟩
theorem db11_29 : DecJ jdk_52_method_14_code 29 (.goto (-21)) (-21) 32 8 := ⟨by decide +kernel, rfl, by decide, by decide⟩
theorem db11_0 : Dec jdk_52_method_14_code 0 (.iload_n 2) 1 1 := ⟨by decide +kernel, rfl⟩
theorem db11_1 : Dec jdk_52_method_14_code 1 (.invokestatic 107) 3 4 := ⟨by decide +kernel, rfl⟩
theorem db11_4 : Dec jdk_52_method_14_code 4 (.astore_n 3) 1 5 := ⟨by decide +kernel, rfl⟩
theorem db11_5 : Dec jdk_52_method_14_code 5 (.iconst 0) 1 6 := ⟨by decide +kernel, rfl⟩
theorem db11_6 : Dec jdk_52_method_14_code 6 (.istore 4) 2 8 := ⟨by decide +kernel, rfl⟩
theorem db12_0 : Dec jdk_52_method_5_code 0 (.getstatic 44) 3 3 := ⟨by decide +kernel, rfl⟩
theorem db12_3 : DecJ jdk_52_method_5_code 3 (.ifCond .ne 25) (25) 6 28 := ⟨by decide +kernel, rfl, by decide, by decide⟩
theorem db12_28 : Dec jdk_52_method_5_code 28 (.iload_n 1) 1 29 := ⟨by decide +kernel, rfl⟩
theorem db12_29 : Dec jdk_52_method_5_code 29 (.iconst 1) 1 30 := ⟨by decide +kernel, rfl⟩
theorem db12_30 : Dec jdk_52_method_5_code 30 (.ishl) 1 31 := ⟨by decide +kernel, rfl⟩
theorem db12_31 : Dec jdk_52_method_5_code 31 (.istore_n 1) 1 32 := ⟨by decide +kernel, rfl⟩
theorem db12_32 : Dec jdk_52_method_5_code 32 (.aload_n 0) 1 33 := ⟨by decide +kernel, rfl⟩
theorem db12_33 : Dec jdk_52_method_5_code 33 (.iload_n 1) 1 34 := ⟨by decide +kernel, rfl⟩
theorem db12_34 : Dec jdk_52_method_5_code 34 (.iinc 1 1) 3 37 := ⟨by decide +kernel, rfl⟩
theorem db12_37 : Dec jdk_52_method_5_code 37 (.baload) 1 38 := ⟨by decide +kernel, rfl⟩
theorem db12_38 : Dec jdk_52_method_5_code 38 (.sipush 255) 3 41 := ⟨by decide +kernel, rfl⟩
theorem db12_41 : Dec jdk_52_method_5_code 41 (.iand) 1 42 := ⟨by decide +kernel, rfl⟩
theorem db12_42 : Dec jdk_52_method_5_code 42 (.getstatic 59) 3 45 := ⟨by decide +kernel, rfl⟩
theorem db12_45 : Dec jdk_52_method_5_code 45 (.ishl) 1 46 := ⟨by decide +kernel, rfl⟩
theorem db12_46 : Dec jdk_52_method_5_code 46 (.aload_n 0) 1 47 := ⟨by decide +kernel, rfl⟩
theorem db12_47 : Dec jdk_52_method_5_code 47 (.iload_n 1) 1 48 := ⟨by decide +kernel, rfl⟩
theorem db12_48 : Dec jdk_52_method_5_code 48 (.baload) 1 49 := ⟨by decide +kernel, rfl⟩
theorem db12_49 : Dec jdk_52_method_5_code 49 (.sipush 255) 3 52 := ⟨by decide +kernel, rfl⟩
theorem db12_52 : Dec jdk_52_method_5_code 52 (.iand) 1 53 := ⟨by decide +kernel, rfl⟩
theorem db12_53 : Dec jdk_52_method_5_code 53 (.getstatic 63) 3 56 := ⟨by decide +kernel, rfl⟩
theorem db12_56 : Dec jdk_52_method_5_code 56 (.ishl) 1 57 := ⟨by decide +kernel, rfl⟩
theorem db12_57 : Dec jdk_52_method_5_code 57 (.ior) 1 58 := ⟨by decide +kernel, rfl⟩
theorem db12_58 : Dec jdk_52_method_5_code 58 (.i2c) 1 59 := ⟨by decide +kernel, rfl⟩
theorem db12_59 : Dec jdk_52_method_5_code 59 (.ireturn) 1 60 := ⟨by decide +kernel, rfl⟩
theorem db13_0 : Dec jdk_52_method_16_code 0 (.iload_n 2) 1 1 := ⟨by decide +kernel, rfl⟩
theorem db13_1 : Dec jdk_52_method_16_code 1 (.newarray .byte) 2 3 := ⟨by decide +kernel, rfl⟩
theorem db13_3 : Dec jdk_52_method_16_code 3 (.astore_n 3) 1 4 := ⟨by decide +kernel, rfl⟩
theorem db13_4 : Dec jdk_52_method_16_code 4 (.aload_n 0) 1 5 := ⟨by decide +kernel, rfl⟩
theorem db13_5 : Dec jdk_52_method_16_code 5 (.iload_n 1) 1 6 := ⟨by decide +kernel, rfl⟩
theorem db13_6 : Dec jdk_52_method_16_code 6 (.aload_n 3) 1 7 := ⟨by decide +kernel, rfl⟩
theorem db13_7 : Dec jdk_52_method_16_code 7 (.iconst 0) 1 8 := ⟨by decide +kernel, rfl⟩
theorem db13_8 : Dec jdk_52_method_16_code 8 (.iload_n 2) 1 9 := ⟨by decide +kernel, rfl⟩
theorem db13_9 : Dec jdk_52_method_16_code 9 (.invokestatic 115) 3 12 := ⟨by decide +kernel, rfl⟩
theorem db13_12 : Dec jdk_52_method_16_code 12 (.istore 4) 2 14 := ⟨by decide +kernel, rfl⟩
theorem db13_14 : Dec jdk_52_method_16_code 14 (.iload 4) 2 16 := ⟨by decide +kernel, rfl⟩
theorem db13_16 : Dec jdk_52_method_16_code 16 (.iload_n 2) 1 17 := ⟨by decide +kernel, rfl⟩
theorem db13_17 : DecJ jdk_52_method_16_code 17 (.if_icmp .eq 40) (40) 20 57 := ⟨by decide +kernel, rfl, by decide, by decide⟩
theorem db13_57 : Dec jdk_52_method_16_code 57 (.aload_n 3) 1 58 := ⟨by decide +kernel, rfl⟩
theorem db13_58 : Dec jdk_52_method_16_code 58 (.areturn) 1 59 := ⟨by decide +kernel, rfl⟩
theorem db13_20 : Dec jdk_52_method_16_code 20 (.aload_n 0) 1 21 := ⟨by decide +kernel, rfl⟩
theorem db13_21 : Dec jdk_52_method_16_code 21 (.iload_n 1) 1 22 := ⟨by decide +kernel, rfl⟩
theorem db13_22 : Dec jdk_52_method_16_code 22 (.iload_n 2) 1 23 := ⟨by decide +kernel, rfl⟩
theorem db13_23 : Dec jdk_52_method_16_code 23 (.invokestatic 119) 3 26 := ⟨by decide +kernel, rfl⟩
theorem db13_26 : Dec jdk_52_method_16_code 26 (.astore 5) 2 28 := ⟨by decide +kernel, rfl⟩
theorem db13_28 : Dec jdk_52_method_16_code 28 (.aload 5) 2 30 := ⟨by decide +kernel, rfl⟩
theorem db13_30 : Dec jdk_52_method_16_code 30 (.iload 4) 2 32 := ⟨by decide +kernel, rfl⟩
theorem db13_32 : Dec jdk_52_method_16_code 32 (.invokestatic 71) 3 35 := ⟨by decide +kernel, rfl⟩
theorem db13_35 : Dec jdk_52_method_16_code 35 (.sipush 255) 3 38 := ⟨by decide +kernel, rfl⟩
theorem db13_38 : DecJ jdk_52_method_16_code 38 (.if_icmp .gt 16) (16) 41 54 := ⟨by decide +kernel, rfl, by decide, by decide⟩
theorem db13_54 : Dec jdk_52_method_16_code 54 (.aload 5) 2 56 := ⟨by decide +kernel, rfl⟩
theorem db13_56 : Dec jdk_52_method_16_code 56 (.areturn) 1 57 := ⟨by decide +kernel, rfl⟩
theorem db14_0 : Dec jdk_42_method_149_code 0 (.aload_n 0) 1 1 := ⟨by decide +kernel, rfl⟩
theorem db14_1 : Dec jdk_42_method_149_code 1 (.invokespecial 1) 3 4 := ⟨by decide +kernel, rfl⟩
theorem db14_4 : Dec jdk_42_method_149_code 4 (.iload_n 3) 1 5 := ⟨by decide +kernel, rfl⟩
theorem db14_5 : DecJ jdk_42_method_149_code 5 (.ifCond .ne 22) (22) 8 27 := ⟨by decide +kernel, rfl, by decide, by decide⟩
theorem db14_27 : Dec jdk_42_method_149_code 27 (.getstatic 38) 3 30 := ⟨by decide +kernel, rfl⟩
theorem db14_30 : DecJ jdk_42_method_149_code 30 (.ifCond .eq 28) (28) 33 58 := ⟨by decide +kernel, rfl, by decide, by decide⟩
theorem db14_33 : Dec jdk_42_method_149_code 33 (.aload_n 1) 1 34 := ⟨by decide +kernel, rfl⟩
theorem db14_34 : Dec jdk_42_method_149_code 34 (.iload_n 2) 1 35 := ⟨by decide +kernel, rfl⟩
theorem db14_35 : Dec jdk_42_method_149_code 35 (.iload_n 3) 1 36 := ⟨by decide +kernel, rfl⟩
theorem db14_36 : Dec jdk_42_method_149_code 36 (.invokestatic 177) 3 39 := ⟨by decide +kernel, rfl⟩
theorem db14_39 : Dec jdk_42_method_149_code 39 (.astore 5) 2 41 := ⟨by decide +kernel, rfl⟩
theorem db14_41 : Dec jdk_42_method_149_code 41 (.aload_n 0) 1 42 := ⟨by decide +kernel, rfl⟩
theorem db14_42 : Dec jdk_42_method_149_code 42 (.aload 5) 2 44 := ⟨by decide +kernel, rfl⟩
theorem db14_44 : Dec jdk_42_method_149_code 44 (.iload_n 3) 1 45 := ⟨by decide +kernel, rfl⟩
theorem db14_45 : Dec jdk_42_method_149_code 45 (.invokestatic 47) 3 48 := ⟨by decide +kernel, rfl⟩
theorem db14_48 : Dec jdk_42_method_149_code 48 (.putfield 15) 3 51 := ⟨by decide +kernel, rfl⟩
theorem db14_51 : Dec jdk_42_method_149_code 51 (.aload_n 0) 1 52 := ⟨by decide +kernel, rfl⟩
theorem db14_52 : Dec jdk_42_method_149_code 52 (.aload 5) 2 54 := ⟨by decide +kernel, rfl⟩
theorem db14_54 : Dec jdk_42_method_149_code 54 (.putfield 9) 3 57 := ⟨by decide +kernel, rfl⟩
theorem db14_57 : Dec jdk_42_method_149_code 57 (.return_) 1 58 := ⟨by decide +kernel, rfl⟩
theorem db14_8 : Dec jdk_42_method_149_code 8 (.aload_n 0) 1 9 := ⟨by decide +kernel, rfl⟩
theorem db14_9 : Dec jdk_42_method_149_code 9 (.ldc 7) 2 11 := ⟨by decide +kernel, rfl⟩
theorem db14_11 : Dec jdk_42_method_149_code 11 (.getfield 9) 3 14 := ⟨by decide +kernel, rfl⟩
theorem db14_14 : Dec jdk_42_method_149_code 14 (.putfield 9) 3 17 := ⟨by decide +kernel, rfl⟩
theorem db14_17 : Dec jdk_42_method_149_code 17 (.aload_n 0) 1 18 := ⟨by decide +kernel, rfl⟩
theorem db14_18 : Dec jdk_42_method_149_code 18 (.ldc 7) 2 20 := ⟨by decide +kernel, rfl⟩
theorem db14_20 : Dec jdk_42_method_149_code 20 (.getfield 15) 3 23 := ⟨by decide +kernel, rfl⟩
theorem db14_23 : Dec jdk_42_method_149_code 23 (.putfield 15) 3 26 := ⟨by decide +kernel, rfl⟩
theorem db14_26 : Dec jdk_42_method_149_code 26 (.return_) 1 27 := ⟨by decide +kernel, rfl⟩
theorem db15_0 : Dec jdk_42_method_3_code 0 (.aload_n 0) 1 1 := ⟨by decide +kernel, rfl⟩
theorem db15_1 : Dec jdk_42_method_3_code 1 (.aload_n 1) 1 2 := ⟨by decide +kernel, rfl⟩
theorem db15_2 : Dec jdk_42_method_3_code 2 (.iconst 0) 1 3 := ⟨by decide +kernel, rfl⟩
theorem db15_3 : Dec jdk_42_method_3_code 3 (.aload_n 1) 1 4 := ⟨by decide +kernel, rfl⟩
theorem db15_4 : Dec jdk_42_method_3_code 4 (.arraylength) 1 5 := ⟨by decide +kernel, rfl⟩
theorem db15_5 : Dec jdk_42_method_3_code 5 (.aconst_null) 1 6 := ⟨by decide +kernel, rfl⟩
theorem db15_6 : Dec jdk_42_method_3_code 6 (.invokespecial 27) 3 9 := ⟨by decide +kernel, rfl⟩
theorem db15_9 : Dec jdk_42_method_3_code 9 (.return_) 1 10 := ⟨by decide +kernel, rfl⟩
theorem db16_0 : Dec jdk_52_method_6_code 0 (.aload_n 0) 1 1 := ⟨by decide +kernel, rfl⟩
theorem db16_1 : Dec jdk_52_method_6_code 1 (.arraylength) 1 2 := ⟨by decide +kernel, rfl⟩
theorem db16_2 : Dec jdk_52_method_6_code 2 (.iconst 1) 1 3 := ⟨by decide +kernel, rfl⟩
theorem db16_3 : Dec jdk_52_method_6_code 3 (.ishr) 1 4 := ⟨by decide +kernel, rfl⟩
theorem db16_4 : Dec jdk_52_method_6_code 4 (.ireturn) 1 5 := ⟨by decide +kernel, rfl⟩
theorem db17_0 : Dec jdk_52_method_91_code 0 (.iload_n 0) 1 1 := ⟨by decide +kernel, rfl⟩
theorem db17_1 : Dec jdk_52_method_91_code 1 (.aload_n 1) 1 2 := ⟨by decide +kernel, rfl⟩
theorem db17_2 : Dec jdk_52_method_91_code 2 (.invokestatic 48) 3 5 := ⟨by decide +kernel, rfl⟩
theorem db17_5 : Dec jdk_52_method_91_code 5 (.invokestatic 414) 3 8 := ⟨by decide +kernel, rfl⟩
theorem db17_8 : Dec jdk_52_method_91_code 8 (.return_) 1 9 := ⟨by decide +kernel, rfl⟩
theorem db18_0 : Dec jdk_52_method_83_code 0 (.iload_n 1) 1 1 := ⟨by decide +kernel, rfl⟩
theorem db18_1 : Dec jdk_52_method_83_code 1 (.aload_n 0) 1 2 := ⟨by decide +kernel, rfl⟩
theorem db18_2 : Dec jdk_52_method_83_code 2 (.invokestatic 67) 3 5 := ⟨by decide +kernel, rfl⟩
theorem db18_5 : Dec jdk_52_method_83_code 5 (.aload_n 0) 1 6 := ⟨by decide +kernel, rfl⟩
theorem db18_6 : Dec jdk_52_method_83_code 6 (.iload_n 1) 1 7 := ⟨by decide +kernel, rfl⟩
theorem db18_7 : Dec jdk_52_method_83_code 7 (.invokestatic 71) 3 10 := ⟨by decide +kernel, rfl⟩
theorem db18_10 : Dec jdk_52_method_83_code 10 (.ireturn) 1 11 := ⟨by decide +kernel, rfl⟩
theorem db19_0 : Dec jdk_42_method_56_code 0 (.aload_n 0) 1 1 := ⟨by decide +kernel, rfl⟩
theorem db19_1 : Dec jdk_42_method_56_code 1 (.invokevirtual 492) 3 4 := ⟨by decide +kernel, rfl⟩
theorem db19_4 : DecJ jdk_42_method_56_code 4 (.ifCond .eq 12) (12) 7 16 := ⟨by decide +kernel, rfl, by decide, by decide⟩
theorem db19_7 : Dec jdk_42_method_56_code 7 (.aload_n 0) 1 8 := ⟨by decide +kernel, rfl⟩
theorem db19_8 : Dec jdk_42_method_56_code 8 (.getfield 9) 3 11 := ⟨by decide +kernel, rfl⟩
theorem db19_11 : Dec jdk_42_method_56_code 11 (.iload_n 1) 1 12 := ⟨by decide +kernel, rfl⟩
theorem db19_12 : Dec jdk_42_method_56_code 12 (.invokestatic 495) 3 15 := ⟨by decide +kernel, rfl⟩
theorem db19_15 : Dec jdk_42_method_56_code 15 (.ireturn) 1 16 := ⟨by decide +kernel, rfl⟩
theorem db19_16 : Dec jdk_42_method_56_code 16 (.aload_n 0) 1 17 := ⟨by decide +kernel, rfl⟩
theorem db19_17 : Dec jdk_42_method_56_code 17 (.getfield 9) 3 20 := ⟨by decide +kernel, rfl⟩
theorem db19_20 : Dec jdk_42_method_56_code 20 (.iload_n 1) 1 21 := ⟨by decide +kernel, rfl⟩
theorem db19_21 : Dec jdk_42_method_56_code 21 (.invokestatic 498) 3 24 := ⟨by decide +kernel, rfl⟩
theorem db19_24 : Dec jdk_42_method_56_code 24 (.ireturn) 1 25 := ⟨by decide +kernel, rfl⟩
theorem db20_0 : Dec method_2_code 0 (.iload_n 0) 1 1 := ⟨by decide +kernel, rfl⟩
theorem db20_1 : Dec method_2_code 1 (.iconst 1) 1 2 := ⟨by decide +kernel, rfl⟩
theorem db20_2 : Dec method_2_code 2 (.iand) 1 3 := ⟨by decide +kernel, rfl⟩
theorem db20_3 : DecJ method_2_code 3 (.ifCond .ne 35) (35) 6 38 := ⟨by decide +kernel, rfl, by decide, by decide⟩
theorem db20_38 : Dec method_2_code 38 (.iload_n 0) 1 39 := ⟨by decide +kernel, rfl⟩
theorem db20_39 : Dec method_2_code 39 (.iconst 1) 1 40 := ⟨by decide +kernel, rfl⟩
theorem db20_40 : Dec method_2_code 40 (.iushr) 1 41 := ⟨by decide +kernel, rfl⟩
theorem db20_41 : Dec method_2_code 41 (.ldc 7) 2 43 := ⟨by decide +kernel, rfl⟩
theorem db20_43 : Dec method_2_code 43 (.iand) 1 44 := ⟨by decide +kernel, rfl⟩
theorem db20_44 : Dec method_2_code 44 (.i2c) 1 45 := ⟨by decide +kernel, rfl⟩
theorem db20_45 : Dec method_2_code 45 (.ireturn) 1 46 := ⟨by decide +kernel, rfl⟩
theorem db20_6 : Dec method_2_code 6 (.iload_n 0) 1 7 := ⟨by decide +kernel, rfl⟩
theorem db20_7 : Dec method_2_code 7 (.iconst 1) 1 8 := ⟨by decide +kernel, rfl⟩
theorem db20_8 : Dec method_2_code 8 (.iushr) 1 9 := ⟨by decide +kernel, rfl⟩
theorem db20_9 : Dec method_2_code 9 (.iconst 3) 1 10 := ⟨by decide +kernel, rfl⟩
theorem db20_10 : Dec method_2_code 10 (.iand) 1 11 := ⟨by decide +kernel, rfl⟩
theorem db20_11 : Dec method_2_code 11 (.istore_n 1) 1 12 := ⟨by decide +kernel, rfl⟩
theorem db20_12 : Dec method_2_code 12 (.iload_n 1) 1 13 := ⟨by decide +kernel, rfl⟩
theorem db20_13 : DecJ method_2_code 13 (.ifCond .ne 6) (6) 16 19 := ⟨by decide +kernel, rfl, by decide, by decide⟩
theorem db20_19 : Dec method_2_code 19 (.iload_n 1) 1 20 := ⟨by decide +kernel, rfl⟩
theorem db20_20 : Dec method_2_code 20 (.iconst 1) 1 21 := ⟨by decide +kernel, rfl⟩
theorem db20_21 : DecJ method_2_code 21 (.if_icmp .ne 6) (6) 24 27 := ⟨by decide +kernel, rfl, by decide, by decide⟩
theorem db20_27 : Dec method_2_code 27 (.iload_n 1) 1 28 := ⟨by decide +kernel, rfl⟩
theorem db20_28 : Dec method_2_code 28 (.iconst 2) 1 29 := ⟨by decide +kernel, rfl⟩
theorem db20_29 : DecJ method_2_code 29 (.if_icmp .ne 6) (6) 32 35 := ⟨by decide +kernel, rfl, by decide, by decide⟩
theorem db20_35 : Dec method_2_code 35 (.bipush 13) 2 37 := ⟨by decide +kernel, rfl⟩
theorem db20_37 : Dec method_2_code 37 (.ireturn) 1 38 := ⟨by decide +kernel, rfl⟩
theorem db20_32 : Dec method_2_code 32 (.bipush 10) 2 34 := ⟨by decide +kernel, rfl⟩
theorem db20_34 : Dec method_2_code 34 (.ireturn) 1 35 := ⟨by decide +kernel, rfl⟩
theorem db20_24 : Dec method_2_code 24 (.bipush 9) 2 26 := ⟨by decide +kernel, rfl⟩
theorem db20_26 : Dec method_2_code 26 (.ireturn) 1 27 := ⟨by decide +kernel, rfl⟩
theorem db20_16 : Dec method_2_code 16 (.bipush 32) 2 18 := ⟨by decide +kernel, rfl⟩
theorem db20_18 : Dec method_2_code 18 (.ireturn) 1 19 := ⟨by decide +kernel, rfl⟩
theorem db21_24 : Dec method_3_code 24 (.iconst 1) 1 25 := ⟨by decide +kernel, rfl⟩
theorem db21_25 : DecJ method_3_code 25 (.goto 4) (4) 28 29 := ⟨by decide +kernel, rfl, by decide, by decide⟩
theorem db21_29 : Dec method_3_code 29 (.ireturn) 1 30 := ⟨by decide +kernel, rfl⟩
theorem db21_0 : Dec method_3_code 0 (.iload_n 0) 1 1 := ⟨by decide +kernel, rfl⟩
theorem db21_1 : Dec method_3_code 1 (.bipush 32) 2 3 := ⟨by decide +kernel, rfl⟩
theorem db21_3 : DecJ method_3_code 3 (.if_icmp .eq 21) (21) 6 24 := ⟨by decide +kernel, rfl, by decide, by decide⟩
theorem db21_6 : Dec method_3_code 6 (.iload_n 0) 1 7 := ⟨by decide +kernel, rfl⟩
theorem db21_7 : Dec method_3_code 7 (.bipush 9) 2 9 := ⟨by decide +kernel, rfl⟩
theorem db21_9 : DecJ method_3_code 9 (.if_icmp .eq 15) (15) 12 24 := ⟨by decide +kernel, rfl, by decide, by decide⟩
theorem db21_12 : Dec method_3_code 12 (.iload_n 0) 1 13 := ⟨by decide +kernel, rfl⟩
theorem db21_13 : Dec method_3_code 13 (.bipush 10) 2 15 := ⟨by decide +kernel, rfl⟩
theorem db21_15 : DecJ method_3_code 15 (.if_icmp .eq 9) (9) 18 24 := ⟨by decide +kernel, rfl, by decide, by decide⟩
theorem db21_18 : Dec method_3_code 18 (.iload_n 0) 1 19 := ⟨by decide +kernel, rfl⟩
theorem db21_19 : Dec method_3_code 19 (.bipush 13) 2 21 := ⟨by decide +kernel, rfl⟩
theorem db21_21 : DecJ method_3_code 21 (.if_icmp .ne 7) (7) 24 28 := ⟨by decide +kernel, rfl, by decide, by decide⟩
theorem db21_28 : Dec method_3_code 28 (.iconst 0) 1 29 := ⟨by decide +kernel, rfl⟩
theorem db22_24 : Dec prog_29_method_15_code 24 (.iconst 1) 1 25 := ⟨by decide +kernel, rfl⟩
theorem db22_25 : DecJ prog_29_method_15_code 25 (.goto 4) (4) 28 29 := ⟨by decide +kernel, rfl, by decide, by decide⟩
theorem db22_29 : Dec prog_29_method_15_code 29 (.ireturn) 1 30 := ⟨by decide +kernel, rfl⟩
theorem db22_0 : Dec prog_29_method_15_code 0 (.iload_n 0) 1 1 := ⟨by decide +kernel, rfl⟩
theorem db22_1 : Dec prog_29_method_15_code 1 (.bipush 32) 2 3 := ⟨by decide +kernel, rfl⟩
theorem db22_3 : DecJ prog_29_method_15_code 3 (.if_icmp .eq 21) (21) 6 24 := ⟨by decide +kernel, rfl, by decide, by decide⟩
theorem db22_6 : Dec prog_29_method_15_code 6 (.iload_n 0) 1 7 := ⟨by decide +kernel, rfl⟩
theorem db22_7 : Dec prog_29_method_15_code 7 (.bipush 9) 2 9 := ⟨by decide +kernel, rfl⟩
theorem db22_9 : DecJ prog_29_method_15_code 9 (.if_icmp .eq 15) (15) 12 24 := ⟨by decide +kernel, rfl, by decide, by decide⟩
theorem db22_12 : Dec prog_29_method_15_code 12 (.iload_n 0) 1 13 := ⟨by decide +kernel, rfl⟩
theorem db22_13 : Dec prog_29_method_15_code 13 (.bipush 10) 2 15 := ⟨by decide +kernel, rfl⟩
theorem db22_15 : DecJ prog_29_method_15_code 15 (.if_icmp .eq 9) (9) 18 24 := ⟨by decide +kernel, rfl, by decide, by decide⟩
theorem db22_18 : Dec prog_29_method_15_code 18 (.iload_n 0) 1 19 := ⟨by decide +kernel, rfl⟩
theorem db22_19 : Dec prog_29_method_15_code 19 (.bipush 13) 2 21 := ⟨by decide +kernel, rfl⟩
theorem db22_21 : DecJ prog_29_method_15_code 21 (.if_icmp .ne 7) (7) 24 28 := ⟨by decide +kernel, rfl, by decide, by decide⟩
theorem db22_28 : Dec prog_29_method_15_code 28 (.iconst 0) 1 29 := ⟨by decide +kernel, rfl⟩
theorem db23_2 : Dec prog_29_method_13_code 2 (.iload_n 1) 1 3 := ⟨by decide +kernel, rfl⟩
theorem db23_3 : Dec prog_29_method_13_code 3 (.aload_n 0) 1 4 := ⟨by decide +kernel, rfl⟩
theorem db23_4 : Dec prog_29_method_13_code 4 (.invokevirtual 110) 3 7 := ⟨by decide +kernel, rfl⟩
theorem db23_7 : DecJ prog_29_method_13_code 7 (.if_icmp .ge 22) (22) 10 29 := ⟨by decide +kernel, rfl, by decide, by decide⟩
theorem db23_29 : Dec prog_29_method_13_code 29 (.iconst 1) 1 30 := ⟨by decide +kernel, rfl⟩
theorem db23_30 : Dec prog_29_method_13_code 30 (.ireturn) 1 31 := ⟨by decide +kernel, rfl⟩
theorem db23_10 : Dec prog_29_method_13_code 10 (.aload_n 0) 1 11 := ⟨by decide +kernel, rfl⟩
theorem db23_11 : Dec prog_29_method_13_code 11 (.iload_n 1) 1 12 := ⟨by decide +kernel, rfl⟩
theorem db23_12 : Dec prog_29_method_13_code 12 (.invokevirtual 114) 3 15 := ⟨by decide +kernel, rfl⟩
theorem db23_15 : Dec prog_29_method_13_code 15 (.invokestatic 118) 3 18 := ⟨by decide +kernel, rfl⟩
theorem db23_18 : DecJ prog_29_method_13_code 18 (.ifCond .ne 5) (5) 21 23 := ⟨by decide +kernel, rfl, by decide, by decide⟩
theorem db23_23 : Dec prog_29_method_13_code 23 (.iinc 1 1) 3 26 := ⟨by decide +kernel, rfl⟩
theorem db23_26 : DecJ prog_29_method_13_code 26 (.goto (-24)) (-24) 29 2 := ⟨by decide +kernel, rfl, by decide, by decide⟩
theorem db23_21 : Dec prog_29_method_13_code 21 (.iconst 0) 1 22 := ⟨by decide +kernel, rfl⟩
theorem db23_22 : Dec prog_29_method_13_code 22 (.ireturn) 1 23 := ⟨by decide +kernel, rfl⟩
theorem db23_0 : Dec prog_29_method_13_code 0 (.iconst 0) 1 1 := ⟨by decide +kernel, rfl⟩
theorem db23_1 : Dec prog_29_method_13_code 1 (.istore_n 1) 1 2 := ⟨by decide +kernel, rfl⟩
theorem dL_239 : Dec code 239 (.istore 11) 2 241 := ⟨by decide +kernel, rfl⟩
theorem dL_241 : Dec code 241 (.aload 10) 2 243 := ⟨by decide +kernel, rfl⟩
theorem dL_243 : Dec code 243 (.invokestatic 24) 3 246 := ⟨by decide +kernel, rfl⟩
theorem dL_246 : Dec code 246 (.iload 11) 2 248 := ⟨by decide +kernel, rfl⟩
theorem dL_248 : DecJ code 248 (.if_icmp .ne 7) (7) 251 255 := ⟨by decide +kernel, rfl, by decide, by decide⟩
theorem dL_251 : Dec code 251 (.iconst 1) 1 252 := ⟨by decide +kernel, rfl⟩
theorem dL_252 : DecJ code 252 (.goto 4) (4) 255 256 := ⟨by decide +kernel, rfl, by decide, by decide⟩
theorem dL_256 : Dec code 256 (.ireturn) 1 257 := ⟨by decide +kernel, rfl⟩
theorem dL_0 : Dec code 0 (.iload_n 0) 1 1 := ⟨by decide +kernel, rfl⟩
theorem dL_1 : Dec code 1 (.ldc 8) 2 3 := ⟨by decide +kernel, rfl⟩
theorem dL_3 : Dec code 3 (.iand) 1 4 := ⟨by decide +kernel, rfl⟩
theorem dL_4 : Dec code 4 (.iconst 5) 1 5 := ⟨by decide +kernel, rfl⟩
theorem dL_5 : Dec code 5 (.irem) 1 6 := ⟨by decide +kernel, rfl⟩
theorem dL_6 : Dec code 6 (.istore 5) 2 8 := ⟨by decide +kernel, rfl⟩
theorem dL_8 : Dec code 8 (.iload_n 1) 1 9 := ⟨by decide +kernel, rfl⟩
theorem dL_9 : Dec code 9 (.invokestatic 9) 3 12 := ⟨by decide +kernel, rfl⟩
theorem dL_12 : Dec code 12 (.istore 6) 2 14 := ⟨by decide +kernel, rfl⟩
theorem dL_14 : Dec code 14 (.iload_n 2) 1 15 := ⟨by decide +kernel, rfl⟩
theorem dL_15 : Dec code 15 (.invokestatic 9) 3 18 := ⟨by decide +kernel, rfl⟩
theorem dL_18 : Dec code 18 (.istore 7) 2 20 := ⟨by decide +kernel, rfl⟩
theorem dL_20 : Dec code 20 (.iload_n 3) 1 21 := ⟨by decide +kernel, rfl⟩
theorem dL_21 : Dec code 21 (.invokestatic 9) 3 24 := ⟨by decide +kernel, rfl⟩
theorem dL_24 : Dec code 24 (.istore 8) 2 26 := ⟨by decide +kernel, rfl⟩
theorem dL_26 : Dec code 26 (.iload 4) 2 28 := ⟨by decide +kernel, rfl⟩
theorem dL_28 : Dec code 28 (.invokestatic 9) 3 31 := ⟨by decide +kernel, rfl⟩
theorem dL_31 : Dec code 31 (.istore 9) 2 33 := ⟨by decide +kernel, rfl⟩
theorem dL_33 : Dec code 33 (.iload 5) 2 35 := ⟨by decide +kernel, rfl⟩
theorem dL_35 : DecJ code 35 (.ifCond .ne 18) (18) 38 53 := ⟨by decide +kernel, rfl, by decide, by decide⟩
theorem dL_38 : Dec code 38 (.new 15) 3 41 := ⟨by decide +kernel, rfl⟩
theorem dL_41 : Dec code 41 (.dup) 1 42 := ⟨by decide +kernel, rfl⟩
theorem dL_42 : Dec code 42 (.iconst 0) 1 43 := ⟨by decide +kernel, rfl⟩
theorem dL_43 : Dec code 43 (.newarray .char) 2 45 := ⟨by decide +kernel, rfl⟩
theorem dL_45 : Dec code 45 (.invokespecial 17) 3 48 := ⟨by decide +kernel, rfl⟩
theorem dL_48 : Dec code 48 (.astore 10) 2 50 := ⟨by decide +kernel, rfl⟩
theorem dL_50 : DecJ code 50 (.goto 128) (128) 53 178 := ⟨by decide +kernel, rfl, by decide, by decide⟩
theorem dL_178 : Dec code 178 (.iload 5) 2 180 := ⟨by decide +kernel, rfl⟩
theorem dL_180 : Dec code 180 (.iconst 1) 1 181 := ⟨by decide +kernel, rfl⟩
theorem dL_181 : DecJ code 181 (.if_icmp .lt 11) (11) 184 192 := ⟨by decide +kernel, rfl, by decide, by decide⟩
theorem dL_192 : Dec code 192 (.iload 5) 2 194 := ⟨by decide +kernel, rfl⟩
theorem dL_194 : Dec code 194 (.iconst 2) 1 195 := ⟨by decide +kernel, rfl⟩
theorem dL_195 : DecJ code 195 (.if_icmp .lt 11) (11) 198 206 := ⟨by decide +kernel, rfl, by decide, by decide⟩
theorem dL_206 : Dec code 206 (.iload 5) 2 208 := ⟨by decide +kernel, rfl⟩
theorem dL_208 : Dec code 208 (.iconst 3) 1 209 := ⟨by decide +kernel, rfl⟩
theorem dL_209 : DecJ code 209 (.if_icmp .lt 11) (11) 212 220 := ⟨by decide +kernel, rfl, by decide, by decide⟩
theorem dL_220 : Dec code 220 (.iload 5) 2 222 := ⟨by decide +kernel, rfl⟩
theorem dL_222 : Dec code 222 (.iconst 4) 1 223 := ⟨by decide +kernel, rfl⟩
theorem dL_223 : DecJ code 223 (.if_icmp .lt 11) (11) 226 234 := ⟨by decide +kernel, rfl, by decide, by decide⟩
theorem dL_234 : Dec code 234 (.iconst 1) 1 235 := ⟨by decide +kernel, rfl⟩
theorem dL_235 : DecJ code 235 (.goto 4) (4) 238 239 := ⟨by decide +kernel, rfl, by decide, by decide⟩
theorem dL_53 : Dec code 53 (.iload 5) 2 55 := ⟨by decide +kernel, rfl⟩
theorem dL_55 : Dec code 55 (.iconst 1) 1 56 := ⟨by decide +kernel, rfl⟩
theorem dL_56 : DecJ code 56 (.if_icmp .ne 23) (23) 59 79 := ⟨by decide +kernel, rfl, by decide, by decide⟩
theorem dL_59 : Dec code 59 (.new 15) 3 62 := ⟨by decide +kernel, rfl⟩
theorem dL_62 : Dec code 62 (.dup) 1 63 := ⟨by decide +kernel, rfl⟩
theorem dL_63 : Dec code 63 (.iconst 1) 1 64 := ⟨by decide +kernel, rfl⟩
theorem dL_64 : Dec code 64 (.newarray .char) 2 66 := ⟨by decide +kernel, rfl⟩
theorem dL_66 : Dec code 66 (.dup) 1 67 := ⟨by decide +kernel, rfl⟩
theorem dL_67 : Dec code 67 (.iconst 0) 1 68 := ⟨by decide +kernel, rfl⟩
theorem dL_68 : Dec code 68 (.iload 6) 2 70 := ⟨by decide +kernel, rfl⟩
theorem dL_70 : Dec code 70 (.castore) 1 71 := ⟨by decide +kernel, rfl⟩
theorem dL_71 : Dec code 71 (.invokespecial 17) 3 74 := ⟨by decide +kernel, rfl⟩
theorem dL_74 : Dec code 74 (.astore 10) 2 76 := ⟨by decide +kernel, rfl⟩
theorem dL_76 : DecJ code 76 (.goto 102) (102) 79 178 := ⟨by decide +kernel, rfl, by decide, by decide⟩
theorem dL_184 : Dec code 184 (.iload 6) 2 186 := ⟨by decide +kernel, rfl⟩
theorem dL_186 : Dec code 186 (.invokestatic 20) 3 189 := ⟨by decide +kernel, rfl⟩
theorem dL_189 : DecJ code 189 (.ifCond .eq 49) (49) 192 238 := ⟨by decide +kernel, rfl, by decide, by decide⟩
theorem dL_238 : Dec code 238 (.iconst 0) 1 239 := ⟨by decide +kernel, rfl⟩
theorem dL_79 : Dec code 79 (.iload 5) 2 81 := ⟨by decide +kernel, rfl⟩
theorem dL_81 : Dec code 81 (.iconst 2) 1 82 := ⟨by decide +kernel, rfl⟩
theorem dL_82 : DecJ code 82 (.if_icmp .ne 28) (28) 85 110 := ⟨by decide +kernel, rfl, by decide, by decide⟩
theorem dL_85 : Dec code 85 (.new 15) 3 88 := ⟨by decide +kernel, rfl⟩
theorem dL_88 : Dec code 88 (.dup) 1 89 := ⟨by decide +kernel, rfl⟩
theorem dL_89 : Dec code 89 (.iconst 2) 1 90 := ⟨by decide +kernel, rfl⟩
theorem dL_90 : Dec code 90 (.newarray .char) 2 92 := ⟨by decide +kernel, rfl⟩
theorem dL_92 : Dec code 92 (.dup) 1 93 := ⟨by decide +kernel, rfl⟩
theorem dL_93 : Dec code 93 (.iconst 0) 1 94 := ⟨by decide +kernel, rfl⟩
theorem dL_94 : Dec code 94 (.iload 6) 2 96 := ⟨by decide +kernel, rfl⟩
theorem dL_96 : Dec code 96 (.castore) 1 97 := ⟨by decide +kernel, rfl⟩
theorem dL_97 : Dec code 97 (.dup) 1 98 := ⟨by decide +kernel, rfl⟩
theorem dL_98 : Dec code 98 (.iconst 1) 1 99 := ⟨by decide +kernel, rfl⟩
theorem dL_99 : Dec code 99 (.iload 7) 2 101 := ⟨by decide +kernel, rfl⟩
theorem dL_101 : Dec code 101 (.castore) 1 102 := ⟨by decide +kernel, rfl⟩
theorem dL_102 : Dec code 102 (.invokespecial 17) 3 105 := ⟨by decide +kernel, rfl⟩
theorem dL_105 : Dec code 105 (.astore 10) 2 107 := ⟨by decide +kernel, rfl⟩
theorem dL_107 : DecJ code 107 (.goto 71) (71) 110 178 := ⟨by decide +kernel, rfl, by decide, by decide⟩
theorem dL_198 : Dec code 198 (.iload 7) 2 200 := ⟨by decide +kernel, rfl⟩
theorem dL_200 : Dec code 200 (.invokestatic 20) 3 203 := ⟨by decide +kernel, rfl⟩
theorem dL_203 : DecJ code 203 (.ifCond .eq 35) (35) 206 238 := ⟨by decide +kernel, rfl, by decide, by decide⟩
theorem dL_110 : Dec code 110 (.iload 5) 2 112 := ⟨by decide +kernel, rfl⟩
theorem dL_112 : Dec code 112 (.iconst 3) 1 113 := ⟨by decide +kernel, rfl⟩
theorem dL_113 : DecJ code 113 (.if_icmp .ne 33) (33) 116 146 := ⟨by decide +kernel, rfl, by decide, by decide⟩
theorem dL_116 : Dec code 116 (.new 15) 3 119 := ⟨by decide +kernel, rfl⟩
theorem dL_119 : Dec code 119 (.dup) 1 120 := ⟨by decide +kernel, rfl⟩
theorem dL_120 : Dec code 120 (.iconst 3) 1 121 := ⟨by decide +kernel, rfl⟩
theorem dL_121 : Dec code 121 (.newarray .char) 2 123 := ⟨by decide +kernel, rfl⟩
theorem dL_123 : Dec code 123 (.dup) 1 124 := ⟨by decide +kernel, rfl⟩
theorem dL_124 : Dec code 124 (.iconst 0) 1 125 := ⟨by decide +kernel, rfl⟩
theorem dL_125 : Dec code 125 (.iload 6) 2 127 := ⟨by decide +kernel, rfl⟩
theorem dL_127 : Dec code 127 (.castore) 1 128 := ⟨by decide +kernel, rfl⟩
theorem dL_128 : Dec code 128 (.dup) 1 129 := ⟨by decide +kernel, rfl⟩
theorem dL_129 : Dec code 129 (.iconst 1) 1 130 := ⟨by decide +kernel, rfl⟩
theorem dL_130 : Dec code 130 (.iload 7) 2 132 := ⟨by decide +kernel, rfl⟩
theorem dL_132 : Dec code 132 (.castore) 1 133 := ⟨by decide +kernel, rfl⟩
theorem dL_133 : Dec code 133 (.dup) 1 134 := ⟨by decide +kernel, rfl⟩
theorem dL_134 : Dec code 134 (.iconst 2) 1 135 := ⟨by decide +kernel, rfl⟩
theorem dL_135 : Dec code 135 (.iload 8) 2 137 := ⟨by decide +kernel, rfl⟩
theorem dL_137 : Dec code 137 (.castore) 1 138 := ⟨by decide +kernel, rfl⟩
theorem dL_138 : Dec code 138 (.invokespecial 17) 3 141 := ⟨by decide +kernel, rfl⟩
theorem dL_141 : Dec code 141 (.astore 10) 2 143 := ⟨by decide +kernel, rfl⟩
theorem dL_143 : DecJ code 143 (.goto 35) (35) 146 178 := ⟨by decide +kernel, rfl, by decide, by decide⟩
theorem dL_212 : Dec code 212 (.iload 8) 2 214 := ⟨by decide +kernel, rfl⟩
theorem dL_214 : Dec code 214 (.invokestatic 20) 3 217 := ⟨by decide +kernel, rfl⟩
theorem dL_217 : DecJ code 217 (.ifCond .eq 21) (21) 220 238 := ⟨by decide +kernel, rfl, by decide, by decide⟩
theorem dL_146 : Dec code 146 (.new 15) 3 149 := ⟨by decide +kernel, rfl⟩
theorem dL_149 : Dec code 149 (.dup) 1 150 := ⟨by decide +kernel, rfl⟩
theorem dL_150 : Dec code 150 (.iconst 4) 1 151 := ⟨by decide +kernel, rfl⟩
theorem dL_151 : Dec code 151 (.newarray .char) 2 153 := ⟨by decide +kernel, rfl⟩
theorem dL_153 : Dec code 153 (.dup) 1 154 := ⟨by decide +kernel, rfl⟩
theorem dL_154 : Dec code 154 (.iconst 0) 1 155 := ⟨by decide +kernel, rfl⟩
theorem dL_155 : Dec code 155 (.iload 6) 2 157 := ⟨by decide +kernel, rfl⟩
theorem dL_157 : Dec code 157 (.castore) 1 158 := ⟨by decide +kernel, rfl⟩
theorem dL_158 : Dec code 158 (.dup) 1 159 := ⟨by decide +kernel, rfl⟩
theorem dL_159 : Dec code 159 (.iconst 1) 1 160 := ⟨by decide +kernel, rfl⟩
theorem dL_160 : Dec code 160 (.iload 7) 2 162 := ⟨by decide +kernel, rfl⟩
theorem dL_162 : Dec code 162 (.castore) 1 163 := ⟨by decide +kernel, rfl⟩
theorem dL_163 : Dec code 163 (.dup) 1 164 := ⟨by decide +kernel, rfl⟩
theorem dL_164 : Dec code 164 (.iconst 2) 1 165 := ⟨by decide +kernel, rfl⟩
theorem dL_165 : Dec code 165 (.iload 8) 2 167 := ⟨by decide +kernel, rfl⟩
theorem dL_167 : Dec code 167 (.castore) 1 168 := ⟨by decide +kernel, rfl⟩
theorem dL_168 : Dec code 168 (.dup) 1 169 := ⟨by decide +kernel, rfl⟩
theorem dL_169 : Dec code 169 (.iconst 3) 1 170 := ⟨by decide +kernel, rfl⟩
theorem dL_170 : Dec code 170 (.iload 9) 2 172 := ⟨by decide +kernel, rfl⟩
theorem dL_172 : Dec code 172 (.castore) 1 173 := ⟨by decide +kernel, rfl⟩
theorem dL_173 : Dec code 173 (.invokespecial 17) 3 176 := ⟨by decide +kernel, rfl⟩
theorem dL_176 : Dec code 176 (.astore 10) 2 178 := ⟨by decide +kernel, rfl⟩
theorem dL_226 : Dec code 226 (.iload 9) 2 228 := ⟨by decide +kernel, rfl⟩
theorem dL_228 : Dec code 228 (.invokestatic 20) 3 231 := ⟨by decide +kernel, rfl⟩
theorem dL_231 : DecJ code 231 (.ifCond .eq 7) (7) 234 238 := ⟨by decide +kernel, rfl, by decide, by decide⟩
def Base (Z : State) (a0 : Array Value) (EL : List (String × Nat)) : Prop := (∀ d ∈ tables_1, d.before a0 Z = true) ∧ EW Z a0 EL ∧ (∃ z, Sta Z Z.heap ST "COMPACT_STRINGS" "Z" (.int z) ∧ ¬ z = 0) ∧ (∃ v, Sta Z Z.heap "jdk/internal/util/Preconditions" "SIOOBE_FORMATTER" "Ljava/util/function/BiFunction;" v ∧ v.isRef = true) ∧ (Sta Z Z.heap "java/lang/StringUTF16" "$assertionsDisabled" "Z" (.int 1) ∧ Sta Z Z.heap "java/lang/StringUTF16" "HI_BYTE_SHIFT" "I" (.int 0) ∧ Sta Z Z.heap "java/lang/StringUTF16" "LO_BYTE_SHIFT" "I" (.int 8))
section
variable {l : Launch} {Z : State} {a0 : Array Value} {EL : List (String × Nat)} {nw : Bool}
def Qcmp5 (Z : State) (h : Heap) (d : Addr) (cs : List Int32) : Value → Heap → Prop := fun v h' => Keep h h' [d] ∧ h'.size = h.size ∧ ((v = .int (Int32.ofNat cs.length) ∧ (∀ c ∈ cs, ¬ (255 : Int32) < c) ∧ Arl Z h' d .byte (lat cs)) ∨ (∃ i c, i < cs.length ∧ v = .int (Int32.ofNat i) ∧ cs[i]? = some c ∧ (255 : Int32) < c))
theorem J_cmp5L {p : Program} {e : Env} {R : Room} {s : State} {m : MethodId} {args : Array Value} {below : List Frame} {meth : Method} {c : Code} {own mn : String} {w : Nat} {h : Heap} {b d : Addr} {cs : List Int32} (C : Cxt p m meth c Z a0 EL own mn jdk_52_method_21_code 7 (some .int) tables_1) (A : Arl Z h b .char (ints cs)) (nd : Z.heap.size ≤ d) (hbd : b ≠ d) :
    ∀ (r i : Nat) (hi : Heap) (x6 : Slot), okS x6 = true → i + r = cs.length → Keep h hi [d] → hi.size = h.size → Arl Z hi d .byte (lat (cs.take i) ++ List.replicate r (.int 0)) → (∀ c ∈ cs.take i, ¬ (255 : Int32) < c) →
      Goes p l e R s m args below meth c Z EL nw (rR (Qcmp5 Z h d cs)) [d] w hi 0 0 (mkF m 3 ⟨[.val (.ref b), .val (.int (Int32.ofNat i)), .val (.ref d), .val (.int (Int32.ofNat i)), .val (.int (Int32.ofNat cs.length)), .val (.int (Int32.ofNat i)), x6]⟩ []) := by
  have hN : cs.length < 2 ^ 31 := by have := A.len; rwa [ints_length] at this
  intro r
  induction r with
  | zero =>
    intro i hi x6 hx hir K sz AD hl
    obtain rfl : i = cs.length := by omega
    refine C.iload db0_3 rfl ?_
    refine C.iload db0_5 rfl ?_
    refine C.icmp_ge db0_7 (fun _ => ?_) (fun q => absurd q (fun q => by rw [ofNat_lt hN hN] at q; omega))
    refine C.iload db0_44 rfl ?_
    exact C.ireturn db0_46 rfl (Or.inl rfl) rfl ⟨_, rfl, K, sz, Or.inl ⟨rfl, by simpa using hl, by simpa using AD⟩⟩ (Nat.zero_le _) (Nat.zero_le _)
  | succ r ih =>
    intro i hi x6 hx hir K sz AD hl
    have hlt : i < cs.length := by omega
    have hch : cs[i]? = some cs[i] := List.getElem?_eq_getElem hlt
    generalize cs[i] = ch at hch
    have hI := ofNat_idx (i := i) (by omega)
    refine C.iload db0_3 rfl ?_
    refine C.iload db0_5 rfl ?_
    refine C.icmp_ge db0_7 (fun q => absurd ((ofNat_lt (by omega) hN).mpr hlt) q) (fun _ => ?_)
    refine C.aloadN db0_10 rfl rfl ?_
    refine C.iloadN db0_11 rfl ?_
    refine C.caload db0_12 (A.keep K (by simpa using hbd)) hI.1 hI.2 (ints_get hch) ?_
    refine C.istore db0_13 rfl hx ?_
    refine C.iload db0_15 rfl ?_
    refine C.sipush (255) db0_17 rfl ?_
    refine C.icmp_le db0_20 (fun q => ?_) (fun q => ?_)
    · refine C.aloadN db0_26 rfl rfl ?_
      refine C.iloadN db0_27 rfl ?_
      refine C.iload db0_28 rfl ?_
      refine C.i2b db0_30 ?_
      refine C.bastore db0_31 AD hI.1 hI.2 (by simp [lat]; omega) nd (Or.inl (List.mem_singleton.mpr rfl)) ?_
      intro h2 W2 A2
      refine C.iinc (1) db0_32 rfl rfl ?_
      refine C.iinc (1) db0_35 rfl rfl ?_
      refine C.iinc (1) db0_38 rfl rfl ?_
      refine C.goto db0_41 ?_
      rw [ofNat_succ]
      refine ih (i + 1) h2 _ rfl (by omega) (K.wr W2 (Or.inl (List.mem_singleton.mpr rfl))) (W2.size.trans sz) ?_ ?_
      · have e : lat (cs.take (i + 1)) = lat (cs.take i) ++ [.int (nar .byte (b8 ch))] := by
          rw [List.take_add_one, hch]; simp [lat, nar_b8, b8_b8]
        rw [e, ← fill_step (i := i) (by rw [lat_length, List.length_take]; omega)]; exact A2
      · rw [List.take_add_one, hch]
        intro c hc
        rcases List.mem_append.mp hc with z | z
        · exact hl c z
        · simp at z; subst z; exact q
    · refine C.iload db0_23 rfl ?_
      exact C.ireturn db0_25 rfl (Or.inl rfl) rfl ⟨_, rfl, K, sz, Or.inr ⟨i, ch, hlt, rfl, hch, q⟩⟩ (Nat.zero_le _) (Nat.zero_le _)
theorem J_cmp5 (B : Base Z a0 EL) {h : Heap} {b d : Addr} {cs : List Int32} (A : Arl Z h b .char (ints cs)) (AD : Arl Z h d .byte (List.replicate cs.length (.int 0))) (nd : Z.heap.size ≤ d) (hbd : b ≠ d) :
    Con l Z EL nw (⟨"java/lang/StringUTF16", "compress", "([CI[BII)I"⟩ : MethodName) jdk_52_method_21_code 7 (some .int) (RM 0 0 0 0) [d] #[.ref b, .int 0, .ref d, .int 0, .int (Int32.ofNat cs.length)] h (rR (Qcmp5 Z h d cs)) := by
  refine Con.of (plainFor_of_name (by decide +kernel)) B.1 B.2.1 ⟨[.val (.ref b), .val (.int 0), .val (.ref d), .val (.int 0), .val (.int (Int32.ofNat cs.length)), .unset, .unset]⟩ (fun m => rfl) ?_
  intro p e s m below meth c _ C
  refine C.iconst (0) db0_0 rfl ?_
  refine C.istore db0_1 rfl rfl ?_
  exact J_cmp5L C A nd hbd cs.length 0 h .unset rfl (by omega) (Keep.refl _ _) rfl (by simpa [lat] using AD) (by simp)
theorem J_codl (B : Base Z a0 EL) {h : Heap} {d : Addr} {vs : List Value} {n : Nat} {r : Int32} (A : Arl Z h d .byte vs) (hr : b8 (XT.ushr (Int32.ofNat n - Int32.ofNat vs.length) 31) = r) :
    Con l Z EL nw (⟨"java/lang/StringUTF16", "coderFromArrayLen", "([BI)B"⟩ : MethodName) jdk_52_method_15_code 2 (some .byte) (RM 0 0 0 0) [] #[.ref d, .int (Int32.ofNat n)] h (rR fun v h' => v = .int r ∧ h = h') := by
  refine Con.of (plainFor_of_name (by decide +kernel)) B.1 B.2.1 ⟨[.val (.ref d), .val (.int (Int32.ofNat n))]⟩ (fun m => rfl) ?_
  intro p e s m below meth c _ C
  refine C.iloadN db1_0 rfl ?_
  refine C.aloadN db1_1 rfl rfl ?_
  refine C.arraylength db1_2 A ?_
  refine C.isub db1_3 ?_
  refine C.bipush (31) db1_4 rfl ?_
  refine C.iushr db1_6 ?_
  refine C.i2b db1_7 ?_
  exact C.ireturn db1_8 rfl (Or.inr (Or.inr (Or.inl rfl))) (narrow_byte _) ⟨_, rfl, by rw [hr], rfl⟩ (Nat.zero_le _) (Nat.zero_le _)
theorem J_atoms (B : Base Z a0 EL) : ∀ a ∈ Bundle.stringAtoms, a.before a0 Z = true := fun d hd => B.1 d ((by decide +kernel : ∀ d ∈ Bundle.stringAtoms, d ∈ tables_1) d hd)
theorem J_coder (B : Base Z a0 EL) {h : Heap} {a : Addr} {cd : Int32} (F : Fld Z h a ST "coder" "B" (.int cd)) (hcd : cd = 0 ∨ cd = 1) : Con l Z EL nw (⟨"java/lang/String", "coder", "()B"⟩ : MethodName) jdk_42_method_152_code 1 (some .byte) (RM 0 0 0 0) [] #[.ref a] h (rR fun v h' => v = .int cd ∧ h = h') := by
  obtain ⟨z, Sz, hz⟩ := B.2.2.1
  refine Con.of (plainFor_of_name (by decide +kernel)) B.1 B.2.1 ⟨[.val (.ref a)]⟩ (fun m => rfl) ?_
  intro p e s m below meth c _ C
  refine C.getS db2_0 tw42 Sz ?_
  refine C.if_eq db2_3 (fun q => absurd q hz) (fun _ => ?_)
  refine C.aloadN db2_6 rfl rfl ?_
  refine C.getF db2_7 tw27 F ?_
  refine C.goto db2_10 ?_
  exact C.ireturn db2_14 rfl (Or.inr (Or.inr (Or.inl rfl))) (by rcases hcd with rfl | rfl <;> rfl) ⟨_, rfl, rfl, rfl⟩ (le rfl) (le rfl)
theorem J_len (B : Base Z a0 EL) {h : Heap} {a : Addr} {cs : List Int32} (S : StrAt Z h a cs) : Con l Z EL nw (⟨"java/lang/String", "length", "()I"⟩ : MethodName) jdk_42_method_54_code 1 (some .int) (RM 1 13 0 0) [] #[.ref a] h (rR fun v h' => v = .int (Int32.ofNat cs.length) ∧ h = h') := by
  obtain ⟨t, cd, vs, X, Fv, Fc, A, T, hC, hn⟩ := S
  refine Con.of (plainFor_of_name (by decide +kernel)) B.1 B.2.1 ⟨[.val (.ref a)]⟩ (fun m => rfl) ?_
  intro p e s m below meth c _ C
  refine C.aloadN db3_0 rfl rfl ?_
  refine C.getF db3_1 tw26 Fv ?_
  refine C.arraylength db3_4 A ?_
  refine C.aloadN db3_5 rfl rfl ?_
  refine C.v0R db3_6 tw37 tw38 tw40 tw39 tw8 tw41 (by decide) (by decide +kernel) rfl nof X (fun _ q => notFace_of_selects q) (J_coder B Fc T.cd01) (le rfl) (le rfl) (le rfl) (le rfl) ?_
  rintro _ _ ⟨rfl, rfl⟩
  refine C.ishr db3_9 ?_
  exact C.ireturn db3_10 rfl (Or.inl rfl) rfl ⟨_, rfl, by rw [T.len hn], rfl⟩ (le rfl) (le rfl)
theorem J_isl (B : Base Z a0 EL) {h : Heap} {a : Addr} {cd : Int32} (F : Fld Z h a ST "coder" "B" (.int cd)) : Con l Z EL nw (⟨"java/lang/String", "isLatin1", "()Z"⟩ : MethodName) jdk_42_method_154_code 1 (some .boolean) (RM 0 0 0 0) [] #[.ref a] h (rR fun v h' => ((v = .int 1 ∧ cd = 0) ∨ (v = .int 0 ∧ ¬ cd = 0)) ∧ h = h') := by
  obtain ⟨z, Sz, hz⟩ := B.2.2.1
  refine Con.of (plainFor_of_name (by decide +kernel)) B.1 B.2.1 ⟨[.val (.ref a)]⟩ (fun m => rfl) ?_
  intro p e s m below meth c _ C
  refine C.getS db4_0 tw42 Sz ?_
  refine C.if_eq db4_3 (fun q => absurd q hz) (fun _ => ?_)
  refine C.aloadN db4_6 rfl rfl ?_
  refine C.getF db4_7 tw27 F ?_
  refine C.if_ne db4_10 (fun q => ?_) (fun q => ?_)
  · refine C.iconst (0) db4_17 rfl ?_
    exact C.ireturn db4_18 rfl (Or.inr (Or.inl rfl)) rfl ⟨_, rfl, Or.inr ⟨rfl, q⟩, rfl⟩ (le rfl) (le rfl)
  · refine C.iconst (1) db4_13 rfl ?_
    refine C.goto db4_14 ?_
    exact C.ireturn db4_18 rfl (Or.inr (Or.inl rfl)) rfl ⟨_, rfl, Or.inl ⟨rfl, q⟩, rfl⟩ (le rfl) (le rfl)
theorem J_pci' (B : Base Z a0 EL) {h : Heap} {i n : Int32} {v : Value} (h0 : ¬ i < 0) (h1 : i < n) (hv : ∀ m, entryFrame m #[.int i, .int n, v] 3 = mkF m 0 ⟨[.val (.int i), .val (.int n), .val v]⟩ []) : Con l Z EL nw (⟨"jdk/internal/util/Preconditions", "checkIndex", "(IILjava/util/function/BiFunction;)I"⟩ : MethodName) jdk_41_method_11_code 3 (some .int) (RM 0 0 0 0) [] #[.int i, .int n, v] h (rR fun w h' => w = .int i ∧ h = h') := by
  refine Con.of (plainFor_of_name (by decide +kernel)) B.1 B.2.1 ⟨[.val (.int i), .val (.int n), .val v]⟩ hv ?_
  intro p e s m below meth c _ C
  refine C.iloadN db5_0 rfl ?_
  refine C.if_lt db5_1 (fun q => absurd q h0) (fun _ => ?_)
  refine C.iloadN db5_4 rfl ?_
  refine C.iloadN db5_5 rfl ?_
  refine C.icmp_lt db5_6 (fun _ => ?_) (fun q => absurd h1 q)
  refine C.iloadN db5_16 rfl ?_
  exact C.ireturn db5_17 rfl (Or.inl rfl) rfl ⟨_, rfl, rfl, rfl⟩ (le rfl) (le rfl)
theorem J_pci (B : Base Z a0 EL) {h : Heap} {i n : Int32} {v : Value} (h0 : ¬ i < 0) (h1 : i < n) (hr : v.isRef = true) : Con l Z EL nw (⟨"jdk/internal/util/Preconditions", "checkIndex", "(IILjava/util/function/BiFunction;)I"⟩ : MethodName) jdk_41_method_11_code 3 (some .int) (RM 0 0 0 0) [] #[.int i, .int n, v] h (rR fun w h' => w = .int i ∧ h = h') := by
  cases v with
  | ref r => exact J_pci' B h0 h1 (fun m => rfl)
  | null => exact J_pci' B h0 h1 (fun m => rfl)
  | _ => cases hr
theorem J_sci (B : Base Z a0 EL) {h : Heap} {i n : Int32} (h0 : ¬ i < 0) (h1 : i < n) : Con l Z EL nw (⟨"java/lang/String", "checkIndex", "(II)V"⟩ : MethodName) jdk_42_method_155_code 2 none (RM 1 14 0 0) [] #[.int i, .int n] h (rV fun h' => h = h') := by
  obtain ⟨sf, Ssf, rsf⟩ := B.2.2.2.1
  refine Con.of (plainFor_of_name (by decide +kernel)) B.1 B.2.1 ⟨[.val (.int i), .val (.int n)]⟩ (fun m => rfl) ?_
  intro p e s m below meth c _ C
  refine C.iloadN db6_0 rfl ?_
  refine C.iloadN db6_1 rfl ?_
  refine C.getS db6_2 tw73 Ssf ?_
  refine C.s3R db6_5 tw75 tw76 tw74 tw77 (by decide) (by decide +kernel) rfl nof (J_pci B h0 h1 rsf) (le rfl) (le rfl) (le rfl) (le rfl) ?_
  rintro _ _ ⟨rfl, rfl⟩
  refine C.pop db6_8 rfl ?_
  exact C.return_ db6_9 rfl ⟨rfl, rfl⟩ (le rfl) (le rfl)
theorem J_lch (B : Base Z a0 EL) {h : Heap} {t : Addr} {vs : List Value} {i : Nat} {b : Int32} (A : Arl Z h t .byte vs) (hi : vs[i]? = some (.int b)) : Con l Z EL nw (⟨"java/lang/StringLatin1", "charAt", "([BI)C"⟩ : MethodName) jdk_43_method_2_code 2 (some .char) (RM 2 27 0 0) [] #[.ref t, .int (Int32.ofNat i)] h (rR fun v h' => v = .int (c16 (b &&& 255)) ∧ h = h') := by
  have hlt : i < vs.length := (List.getElem?_eq_some_iff.mp hi).1
  have hl := A.len
  have hI := ofNat_idx (i := i) (by omega)
  refine Con.of (plainFor_of_name (by decide +kernel)) B.1 B.2.1 ⟨[.val (.ref t), .val (.int (Int32.ofNat i))]⟩ (fun m => rfl) ?_
  intro p e s m below meth c _ C
  refine C.iloadN db7_0 rfl ?_
  refine C.aloadN db7_1 rfl rfl ?_
  refine C.arraylength db7_2 A ?_
  refine C.s2V db7_3 tw70 tw71 tw8 tw72 (by decide) (by decide +kernel) rfl nof (J_sci B hI.1 ((ofNat_lt (by omega) hl).mpr hlt)) (le rfl) (le rfl) (le rfl) (le rfl) ?_
  rintro _ rfl
  refine C.aloadN db7_6 rfl rfl ?_
  refine C.iloadN db7_7 rfl ?_
  refine C.baload db7_8 A hI.1 hI.2 hi ?_
  refine C.sipush (255) db7_9 rfl ?_
  refine C.iand db7_12 ?_
  refine C.i2c db7_13 ?_
  exact C.ireturn db7_14 rfl (Or.inr (Or.inr (Or.inr (Or.inl rfl)))) (narrow_char (isC_c16 _)) ⟨_, rfl, rfl, rfl⟩ (le rfl) (le rfl)
theorem J_nbl (B : Base Z a0 EL) {h : Heap} {n : Nat} (hn : n ≤ 4000) : Con l Z EL nw (⟨"java/lang/StringUTF16", "newBytesLength", "(I)I"⟩ : MethodName) jdk_52_method_3_code 1 (some .int) (RM 0 0 0 0) [] #[.int (Int32.ofNat n)] h (rR fun v h' => v = .int (Int32.ofNat (2 * n)) ∧ h = h') := by
  have hI := ofNat_idx (i := n) (by omega)
  refine Con.of (plainFor_of_name (by decide +kernel)) B.1 B.2.1 ⟨[.val (.int (Int32.ofNat n))]⟩ (fun m => rfl) ?_
  intro p e s m below meth c _ C
  refine C.iloadN db8_0 rfl ?_
  refine C.if_ge db8_1 (fun _ => ?_) (fun q => absurd q hI.1)
  refine C.iloadN db8_12 rfl ?_
  refine C.ldcInt db8_13 tw90 ?_
  refine C.icmp_lt db8_15 (fun _ => ?_) (fun q => absurd (ilt.mpr (by rw [ofNat_toInt (by omega)]; show (n : Int) < 1073741823; omega)) q)
  refine C.iloadN db8_55 rfl ?_
  refine C.iconst (1) db8_56 rfl ?_
  refine C.ishl db8_57 ?_
  exact C.ireturn db8_58 rfl (Or.inl rfl) rfl ⟨_, rfl, by rw [shl1 hn], rfl⟩ (le rfl) (le rfl)
theorem J_nbf (B : Base Z a0 EL) {h : Heap} {n : Nat} (hn : n ≤ 4000) : Con l Z EL nw (⟨"java/lang/StringUTF16", "newBytesFor", "(I)[B"⟩ : MethodName) jdk_52_method_2_code 1 (some (.array .byte)) (RM 1 12 1 (2 * n)) [] #[.int (Int32.ofNat n)] h (rR fun v h' => v = .ref h.size ∧ Ext h h' ∧ Arl Z h' h.size .byte (List.replicate (2 * n) (.int 0))) := by
  have hI := ofNat_idx (i := 2 * n) (by omega)
  refine Con.of (plainFor_of_name (by decide +kernel)) B.1 B.2.1 ⟨[.val (.int (Int32.ofNat n))]⟩ (fun m => rfl) ?_
  intro p e s m below meth c _ C
  refine C.iloadN db9_0 rfl ?_
  refine C.s1R db9_1 tw87 tw88 tw45 tw89 (by decide) (by decide +kernel) rfl nof (J_nbl B hn) (le rfl) (le rfl) (le rfl) (Nat.zero_le _) ?_
  rintro _ _ ⟨rfl, rfl⟩
  refine C.newarray db9_4 tw21 hI.1 hI.2 (by omega) (le rfl) (by show 0 + 0 + 2 * n ≤ 2 * n; omega) ?_
  intro h1 t g1 E1 l1 A1
  subst g1
  exact C.areturn db9_6 rfl rfl rfl rfl ⟨_, rfl, rfl, E1, A1⟩ (le rfl) (by show 0 + 0 + 2 * n ≤ 2 * n; omega)
theorem J_putc (B : Base Z a0 EL) {h : Heap} {t : Addr} {vs : List Value} {i : Nat} {ch : Int32} (A : Arl Z h t .byte vs) (hi : 2 * i + 1 < vs.length) (nt : Z.heap.size ≤ t) :
    Con l Z EL nw (⟨"java/lang/StringUTF16", "putChar", "([BII)V"⟩ : MethodName) jdk_52_method_4_code 3 none (RM 0 0 0 0) [t] #[.ref t, .int (Int32.ofNat i), .int ch] h (rV fun h' => Keep h h' [t] ∧ h'.size = h.size ∧ Arl Z h' t .byte ((vs.set (2 * i) (.int (b8 ch))).set (2 * i + 1) (.int (b8 (ch >>> 8))))) := by
  have hl := A.len
  have hI := ofNat_idx (i := 2 * i) (by omega)
  have hJ := ofNat_idx (i := 2 * i + 1) (by omega)
  obtain ⟨U1, U2, U3⟩ := B.2.2.2.2
  refine Con.of (plainFor_of_name (by decide +kernel)) B.1 B.2.1 ⟨[.val (.ref t), .val (.int (Int32.ofNat i)), .val (.int ch)]⟩ (fun m => rfl) ?_
  intro p e s m below meth c _ C
  refine C.getS db10_0 tw94 U1 ?_
  refine C.if_ne db10_3 (fun _ => ?_) (fun q => absurd q (by decide))
  refine C.iloadN db10_28 rfl ?_
  refine C.iconst (1) db10_29 rfl ?_
  refine C.ishl db10_30 ?_
  rw [shl1' (by omega)]
  refine C.istoreN db10_31 rfl rfl ?_
  refine C.aloadN db10_32 rfl rfl ?_
  refine C.iloadN db10_33 rfl ?_
  refine C.iinc (1) db10_34 rfl rfl ?_
  refine C.iloadN db10_37 rfl ?_
  refine C.getS db10_38 tw95 U2 ?_
  refine C.ishr db10_41 ?_
  refine C.i2b db10_42 ?_
  refine C.bastore db10_43 A hI.1 hI.2 (by omega) nt (Or.inl (List.mem_singleton.mpr rfl)) ?_
  intro h1 W1 A1
  rw [ofNat_succ]
  refine C.aloadN db10_44 rfl rfl ?_
  refine C.iloadN db10_45 rfl ?_
  refine C.iloadN db10_46 rfl ?_
  refine C.getS db10_47 tw96 U3 ?_
  refine C.ishr db10_50 ?_
  refine C.i2b db10_51 ?_
  refine C.bastore db10_52 A1 hJ.1 hJ.2 (by simpa using hi) nt (Or.inl (List.mem_singleton.mpr rfl)) ?_
  intro h2 W2 A2
  refine C.return_ db10_53 rfl ⟨rfl, ((Keep.of_wr W1).wr W2 (Or.inl (List.mem_singleton.mpr rfl))), W2.size.trans W1.size, ?_⟩ (le rfl) (le rfl)
  have e1 : (ch >>> ((0 : Int32) &&& 31)) = ch := shr0 ch
  have e2 : (ch >>> ((8 : Int32) &&& 31)) = ch >>> 8 := rfl
  rw [e1, e2, nar_b8, nar_b8, b8_b8, b8_b8] at A2
  exact A2
def Qtob (Z : State) (h : Heap) (cs : List Int32) : Value → Heap → Prop := fun v h' => v = .ref h.size ∧ Ext h h' ∧ Arl Z h' h.size .byte (wid cs)
theorem J_tobL (B : Base Z a0 EL) {p : Program} {e : Env} {s : State} {m : MethodId} {args : Array Value} {below : List Frame} {meth : Method} {c : Code} {own mn : String} {h h1 : Heap} {b : Addr} {cs : List Int32} (C : Cxt p m meth c Z a0 EL "java/lang/StringUTF16" mn jdk_52_method_14_code 5 (some (.array .byte)) tables_1) (hn : cs.length ≤ 4000) (A : Arl Z h b .char (ints cs)) (E1 : Ext h h1) (nt : Z.heap.size ≤ h.size) :
    ∀ (r i : Nat) (hi : Heap), i + r = cs.length → Ext h hi → Arl Z hi h.size .byte (wid (cs.take i) ++ List.replicate (2 * r) (.int 0)) →
      Goes p l e (RM 2 24 1 (2 * cs.length)) s m args below meth c Z EL nw (rR (Qtob Z h cs)) [] h.size hi 1 (2 * cs.length) (mkF m 8 ⟨[.val (.ref b), .val (.int (Int32.ofNat i)), .val (.int (Int32.ofNat cs.length)), .val (.ref h.size), .val (.int (Int32.ofNat i))]⟩ []) := by
  intro r
  induction r with
  | zero =>
    intro i hi hir Ei Ai
    obtain rfl : i = cs.length := by omega
    refine C.iload db11_8 rfl ?_
    refine C.iloadN db11_10 rfl ?_
    refine C.icmp_ge db11_11 (fun _ => ?_) (fun q => absurd q (fun q => by rw [ofNat_lt (by omega) (by omega)] at q; omega))
    refine C.aloadN db11_32 rfl rfl ?_
    exact C.areturn db11_33 rfl rfl rfl rfl ⟨_, rfl, rfl, Ei, by simpa using Ai⟩ (le rfl) (Nat.le_refl _)
  | succ r ih =>
    intro i hi hir Ei Ai
    have hlt : i < cs.length := by omega
    have hch : cs[i]? = some cs[i] := List.getElem?_eq_getElem hlt
    generalize cs[i] = ch at hch
    have hI := ofNat_idx (i := i) (by omega)
    refine C.iload db11_8 rfl ?_
    refine C.iloadN db11_10 rfl ?_
    refine C.icmp_ge db11_11 (fun q => absurd ((ofNat_lt (by omega) (by omega)).mpr hlt) q) (fun _ => ?_)
    refine C.aloadN db11_14 rfl rfl ?_
    refine C.iload db11_15 rfl ?_
    refine C.aloadN db11_17 rfl rfl ?_
    refine C.iloadN db11_18 rfl ?_
    refine C.caload db11_19 (A.ext Ei) hI.1 hI.2 (ints_get hch) ?_
    refine C.s3V db11_20 tw91 tw92 tw45 tw93 (by decide) (by decide +kernel) rfl (fun x q => by simp at q; subst q; exact Or.inr ⟨Nat.le_refl _, Ai.lt⟩) (J_putc (nw := true) B (i := i) (ch := ch) Ai (by rw [List.length_append, wid_length, List.length_take, List.length_replicate]; omega) nt) (le rfl) (le rfl) (le rfl) (Nat.le_refl _) ?_
    rintro h2 ⟨K2, sz2, A2⟩
    refine C.iinc (1) db11_23 rfl rfl ?_
    refine C.iinc (1) db11_26 rfl rfl ?_
    refine C.goto db11_29 ?_
    rw [ofNat_succ]
    refine ih (i + 1) h2 (by omega) (ext_of_keep Ei K2 (by simp)) ?_
    have e : wid (cs.take (i + 1)) = wid (cs.take i) ++ [.int (b8 ch), .int (b8 (ch >>> 8))] := by
      rw [List.take_add_one, hch]; simp [wid]
    rw [e, ← fill_step2 (i := i) (by rw [wid_length, List.length_take]; omega)]; exact A2
theorem J_tob (B : Base Z a0 EL) {h : Heap} {b : Addr} {cs : List Int32} (hn : cs.length ≤ 4000) (A : Arl Z h b .char (ints cs)) :
    Con l Z EL nw (⟨"java/lang/StringUTF16", "toBytes", "([CII)[B"⟩ : MethodName) jdk_52_method_14_code 5 (some (.array .byte)) (RM 2 24 1 (2 * cs.length)) [] #[.ref b, .int 0, .int (Int32.ofNat cs.length)] h (rR (Qtob Z h cs)) := by
  refine Con.of (plainFor_of_name (by decide +kernel)) B.1 B.2.1 ⟨[.val (.ref b), .val (.int 0), .val (.int (Int32.ofNat cs.length)), .unset, .unset]⟩ (fun m => rfl) ?_
  intro p e s m below meth c _ C
  refine Goes.old fun O => ?_
  refine C.iloadN db11_0 rfl ?_
  refine C.s1R db11_1 tw84 tw85 tw45 tw86 (by decide) (by decide +kernel) rfl nof (J_nbf (nw := true) B hn) (le rfl) (le rfl) (le rfl) (by show 0 + 2 * cs.length ≤ 2 * cs.length; omega) ?_
  rintro _ h1 ⟨rfl, E1, A1⟩
  refine C.astoreN db11_4 rfl rfl rfl ?_
  refine C.iconst (0) db11_5 rfl ?_
  refine C.istore db11_6 rfl rfl ?_
  refine Goes.more (k' := 1) (n' := 2 * cs.length) (le rfl) (by show 0 + 2 * cs.length ≤ _; omega) ?_
  exact J_tobL (own := "") B C hn A E1 O.1 cs.length 0 h1 (by omega) E1 (by simpa [wid] using A1)
theorem J_getc (B : Base Z a0 EL) {h : Heap} {t : Addr} {cs : List Int32} {i : Nat} {ch : Int32} (A : Arl Z h t .byte (wid cs)) (hi : cs[i]? = some ch) (hc : IsC ch) (hn : cs.length ≤ 4000) :
    Con l Z EL nw (⟨"java/lang/StringUTF16", "getChar", "([BI)C"⟩ : MethodName) jdk_52_method_5_code 2 (some .char) (RM 0 0 0 0) [] #[.ref t, .int (Int32.ofNat i)] h (rR fun v h' => v = .int ch ∧ h = h') := by
  have hlt : i < cs.length := (List.getElem?_eq_some_iff.mp hi).1
  have hI := ofNat_idx (i := 2 * i) (by omega)
  have hJ := ofNat_idx (i := 2 * i + 1) (by omega)
  obtain ⟨U1, U2, U3⟩ := B.2.2.2.2
  refine Con.of (plainFor_of_name (by decide +kernel)) B.1 B.2.1 ⟨[.val (.ref t), .val (.int (Int32.ofNat i))]⟩ (fun m => rfl) ?_
  intro p e s m below meth c _ C
  refine C.getS db12_0 tw94 U1 ?_
  refine C.if_ne db12_3 (fun _ => ?_) (fun q => absurd q (by decide))
  refine C.iloadN db12_28 rfl ?_
  refine C.iconst (1) db12_29 rfl ?_
  refine C.ishl db12_30 ?_
  rw [shl1' (by omega)]
  refine C.istoreN db12_31 rfl rfl ?_
  refine C.aloadN db12_32 rfl rfl ?_
  refine C.iloadN db12_33 rfl ?_
  refine C.iinc (1) db12_34 rfl rfl ?_
  refine C.baload db12_37 A hI.1 hI.2 (wid_lo hi) ?_
  refine C.sipush (255) db12_38 rfl ?_
  refine C.iand db12_41 ?_
  refine C.getS db12_42 tw95 U2 ?_
  rw [ofNat_succ]
  refine C.ishl db12_45 ?_
  refine C.aloadN db12_46 rfl rfl ?_
  refine C.iloadN db12_47 rfl ?_
  refine C.baload db12_48 A hJ.1 hJ.2 (wid_hi hi) ?_
  refine C.sipush (255) db12_49 rfl ?_
  refine C.iand db12_52 ?_
  refine C.getS db12_53 tw96 U3 ?_
  refine C.ishl db12_56 ?_
  refine C.ior db12_57 ?_
  refine C.i2c db12_58 ?_
  have e : c16 ((b8 ch &&& 255) <<< ((0 : Int32) &&& 31) ||| (b8 (ch >>> 8) &&& 255) <<< ((8 : Int32) &&& 31)) = ch := unwide hc
  rw [e]
  exact C.ireturn db12_59 rfl (Or.inr (Or.inr (Or.inr (Or.inl rfl)))) (narrow_char hc) ⟨_, rfl, rfl, rfl⟩ (le rfl) (le rfl)
theorem J_cmp3g (B : Base Z a0 EL) {h : Heap} {b : Addr} {cs : List Int32} (hC : ∀ c ∈ cs, IsC c) (hn : cs.length ≤ 4000) (A : Arl Z h b .char (ints cs)) :
    Con l Z EL nw (⟨"java/lang/StringUTF16", "compress", "([CII)[B"⟩ : MethodName) jdk_52_method_16_code 6 (some (.array .byte)) (RM 3 40 2 (3 * cs.length)) [] #[.ref b, .int 0, .int (Int32.ofNat cs.length)] h (rR fun v h' => ∃ t cd vs, v = .ref t ∧ h.size ≤ t ∧ Ext h h' ∧ Arl Z h' t .byte vs ∧ Txt cs cd vs) := by
  have hI := ofNat_idx (i := cs.length) (by omega)
  refine Con.of (plainFor_of_name (by decide +kernel)) B.1 B.2.1 ⟨[.val (.ref b), .val (.int 0), .val (.int (Int32.ofNat cs.length)), .unset, .unset, .unset]⟩ (fun m => rfl) ?_
  intro p e s m below meth c _ C
  refine Goes.old fun O => ?_
  refine C.iloadN db13_0 rfl ?_
  refine C.newarray db13_1 tw21 hI.1 hI.2 (by omega) (le rfl) (by show 0 + cs.length ≤ 3 * cs.length; omega) ?_
  intro h1 d g1 E1 l1 A1
  have hbd : @Ne Nat b d := adr_ne A.lt (Nat.le_of_eq g1.symm)
  refine C.astoreN db13_3 rfl rfl rfl ?_
  refine C.aloadN db13_4 rfl rfl ?_
  refine C.iloadN db13_5 rfl ?_
  refine C.aloadN db13_6 rfl rfl ?_
  refine C.iconst (0) db13_7 rfl ?_
  refine C.iloadN db13_8 rfl ?_
  refine C.s5R db13_9 tw47 tw48 tw45 tw49 (by decide) (by decide +kernel) rfl (by simp) (J_cmp5 B (A.ext E1) A1 (by rw [g1]; exact O.1) hbd) (le rfl) (le rfl) (le rfl) (by show 0 + cs.length + 0 ≤ 3 * cs.length; omega) ?_
  rintro v h2 ⟨K2, sz2, hv⟩
  have E2 : Ext h h2 := ext_of_keep E1 K2 (by simp; omega)
  rcases hv with ⟨rfl, hL, A2⟩ | ⟨i, ch, hlt, rfl, hch, hbig⟩
  · refine C.istore db13_12 rfl rfl ?_
    refine C.iload db13_14 rfl ?_
    refine C.iloadN db13_16 rfl ?_
    refine C.icmp_eq db13_17 (fun _ => ?_) (fun q => absurd rfl q)
    refine C.aloadN db13_57 rfl rfl ?_
    exact C.areturn db13_58 rfl rfl rfl rfl ⟨_, rfl, d, 0, lat cs, rfl, by omega, E2, A2, Or.inl ⟨rfl, rfl, hL⟩⟩ (le rfl) (by show 0 + cs.length + 0 ≤ 3 * cs.length; omega)
  refine C.istore db13_12 rfl rfl ?_
  refine C.iload db13_14 rfl ?_
  refine C.iloadN db13_16 rfl ?_
  refine C.icmp_eq db13_17 (fun q => absurd (ofNat_inj (by omega) (by omega) q) (by omega)) (fun _ => ?_)
  refine C.aloadN db13_20 rfl rfl ?_
  refine C.iloadN db13_21 rfl ?_
  refine C.iloadN db13_22 rfl ?_
  refine C.s3R db13_23 tw81 tw82 tw45 tw83 (by decide) (by decide +kernel) rfl nof (J_tob B hn (A.ext E2)) (le rfl) (le rfl) (le rfl) (by show 0 + cs.length + 0 + 2 * cs.length ≤ 3 * cs.length; omega) ?_
  rintro _ h3 ⟨rfl, E3, A3⟩
  refine C.astore db13_26 rfl rfl rfl ?_
  refine C.aload db13_28 rfl rfl ?_
  refine C.iload db13_30 rfl ?_
  refine C.s2R db13_32 tw97 tw98 tw45 tw99 (by decide) (by decide +kernel) rfl nof (J_getc B A3 hch (hC ch (List.mem_of_getElem? hch)) hn) (le rfl) (le rfl) (le rfl) (by show 0 + cs.length + 0 + 2 * cs.length + 0 ≤ 3 * cs.length; omega) ?_
  rintro _ _ ⟨rfl, rfl⟩
  refine C.sipush (255) db13_35 rfl ?_
  refine C.icmp_gt db13_38 (fun _ => ?_) (fun q => absurd hbig q)
  refine C.aload db13_54 rfl rfl ?_
  exact C.areturn db13_56 rfl rfl rfl rfl ⟨_, rfl, _, 1, wid cs, rfl, E2.1, ext_trans E2 E3, A3, Or.inr ⟨rfl, rfl, ch, List.mem_of_getElem? hch, hbig⟩⟩ (le rfl) (by show 0 + cs.length + 0 + 2 * cs.length + 0 ≤ 3 * cs.length; omega)
theorem J_new4g (B : Base Z a0 EL) {h : Heap} {a b : Addr} {cs : List Int32} (hc : ∀ c ∈ cs, IsC c) (h0 : 0 < cs.length) (hn : cs.length ≤ 4000) (A : Arl Z h b .char (ints cs)) (na : Z.heap.size ≤ a) (E : Exa Z h a ST) (Fv : Fld Z h a ST "value" "[B" .null) (Fc : Fld Z h a ST "coder" "B" (.int 0)) :
    Con l Z EL nw (⟨"java/lang/String", "<init>", "([CIILjava/lang/Void;)V"⟩ : MethodName) jdk_42_method_149_code 6 none (RM 4 57 2 (3 * cs.length)) [a] #[.ref a, .ref b, .int 0, .int (Int32.ofNat cs.length), .null] h (rV fun h' => Keep h h' [a] ∧ StrAt Z h' a cs) := by
  obtain ⟨z, Sz, hz⟩ := B.2.2.1
  refine Con.of (plainFor_of_name (by decide +kernel)) B.1 B.2.1 ⟨[.val (.ref a), .val (.ref b), .val (.int 0), .val (.int (Int32.ofNat cs.length)), .val .null, .unset]⟩ (fun m => rfl) ?_
  intro p e s m below meth c _ C
  refine C.aloadN db14_0 rfl rfl ?_
  refine C.initO db14_1 tw17 tw18 tw19 rfl (le rfl) (le rfl) ?_
  refine C.iloadN db14_4 rfl ?_
  refine C.if_ne db14_5 (fun _ => ?_) (fun q => absurd (ofNat_inj (j := 0) (by omega) (by omega) q) (by omega))
  refine C.getS db14_27 tw42 Sz ?_
  refine C.if_eq db14_30 (fun q => absurd q hz) (fun _ => ?_)
  refine C.aloadN db14_33 rfl rfl ?_
  refine C.iloadN db14_34 rfl ?_
  refine C.iloadN db14_35 rfl ?_
  refine C.s3R db14_36 tw43 tw44 tw45 tw46 (by decide) (by decide +kernel) rfl nof (J_cmp3g B hc hn A) (le rfl) (le rfl) (le rfl) (by show 0 + 3 * cs.length ≤ 3 * cs.length; omega) ?_
  rintro v h1 ⟨t, cd, vs, rfl, nt, E1, A1, TT⟩
  refine C.astore db14_39 rfl rfl rfl ?_
  refine C.aloadN db14_41 rfl rfl ?_
  refine C.aload db14_42 rfl rfl ?_
  refine C.iloadN db14_44 rfl ?_
  refine C.s2R db14_45 tw50 tw51 tw45 tw52 (by decide) (by decide +kernel) rfl nof (J_codl B (n := cs.length) (r := cd) A1 (codT TT h0 hn)) (le rfl) (le rfl) (le rfl) (by show 0 + 3 * cs.length + 0 ≤ 3 * cs.length; omega) ?_
  rintro v h2 ⟨rfl, rfl⟩
  refine C.putF (ty := .byte) db14_48 tw27 (Fc.ext E1) (E.ext E1) (Or.inr ⟨tw23, rfl, rfl⟩) tw7 (by decide +kernel) (by rcases TT.cd01 with rfl | rfl <;> rfl) (by rcases TT.cd01 with rfl | rfl <;> rfl) na (Or.inl (List.mem_singleton.mpr rfl)) ?_
  intro h3 W3
  have nvc : RoadKit.slotOf Z ST "value" "[B" ≠ RoadKit.slotOf Z ST "coder" "B" := slot_ne (C := ST) (a0 := a0) (Or.inr (C.wrd tw22)) (Or.inr (C.wrd tw23)) (by decide) (t := .array .byte) (t' := .byte) (by decide +kernel) (by decide +kernel)
  refine C.aloadN db14_51 rfl rfl ?_
  refine C.aload db14_52 rfl rfl ?_
  refine C.putF (ty := (.array .byte)) db14_54 tw26 ((Fv.ext E1).other W3 (Or.inr nvc)) ((E.ext E1).wr W3) (Or.inr ⟨tw22, rfl, rfl⟩) tw7 (by decide +kernel) rfl rfl na (Or.inl (List.mem_singleton.mpr rfl)) ?_
  intro h4 W4
  have ta : @Ne Nat t a := (adr_ne E.lt nt).symm
  refine C.return_ db14_57 rfl ⟨rfl, ((keep_ext E1 [a]).wr W3 (Or.inl (List.mem_singleton.mpr rfl))).wr W4 (Or.inl (List.mem_singleton.mpr rfl)), t, cd, vs, ?_, ?_, ?_, ?_, TT, hc, hn⟩ (le rfl) (by show 0 + 3 * cs.length + 0 ≤ 3 * cs.length; omega)
  · exact ((E.ext E1).wr W3).wr W4
  · exact ((Fv.ext E1).other W3 (Or.inr nvc)).same W4
  · exact ((Fc.ext E1).same W3).other W4 (Or.inr nvc.symm)
  · exact (A1.other W3 ta).other W4 ta
theorem J_new4e (B : Base Z a0 EL) (hmem : ("java/lang/String", 7) ∈ EL) {h : Heap} {a b : Addr} (na : Z.heap.size ≤ a) (E : Exa Z h a ST) (Fv : Fld Z h a ST "value" "[B" .null) (Fc : Fld Z h a ST "coder" "B" (.int 0)) :
    Con l Z EL false (⟨"java/lang/String", "<init>", "([CIILjava/lang/Void;)V"⟩ : MethodName) jdk_42_method_149_code 6 none (RM 1 12 4 8) [a] #[.ref a, .ref b, .int 0, .int 0, .null] h (rV fun h' => Keep h h' [a] ∧ StrAt Z h' a []) := by
  refine Con.of (plainFor_of_name (by decide +kernel)) B.1 B.2.1 ⟨[.val (.ref a), .val (.ref b), .val (.int 0), .val (.int 0), .val .null, .unset]⟩ (fun m => rfl) ?_
  intro p e s m below meth c _ C
  have nvc : RoadKit.slotOf Z ST "value" "[B" ≠ RoadKit.slotOf Z ST "coder" "B" := slot_ne (C := ST) (a0 := a0) (Or.inr (C.wrd tw22)) (Or.inr (C.wrd tw23)) (by decide) (t := .array .byte) (t' := .byte) (by decide +kernel) (by decide +kernel)
  refine C.aloadN db14_0 rfl rfl ?_
  refine C.initO db14_1 tw17 tw18 tw19 rfl (le rfl) (le rfl) ?_
  refine C.iloadN db14_4 rfl ?_
  refine C.if_ne db14_5 (fun q => absurd rfl q) (fun _ => ?_)
  refine C.aloadN db14_8 rfl rfl ?_
  refine C.ldcS (vs := []) 0 db14_9 rfl tw20 (J_atoms B) hmem ⟨by decide, rfl⟩ (by decide) (le rfl) (le rfl) (le rfl) (le rfl) ?_
  intro h1 s1 b1 E1 X1 c1 v1 A1 n1
  refine C.getF db14_11 tw26 v1 ?_
  refine C.putF (ty := (.array .byte)) db14_14 tw26 (Fv.ext E1) (E.ext E1) (Or.inr ⟨tw22, rfl, rfl⟩) tw7 (by decide +kernel) rfl rfl na (Or.inl (List.mem_singleton.mpr rfl)) ?_
  intro h2 W2
  have n1' := n1 a (List.mem_singleton.mpr rfl)
  refine C.aloadN db14_17 rfl rfl ?_
  refine C.ldcS (vs := []) 0 db14_18 rfl tw20 (J_atoms B) hmem ⟨by decide, rfl⟩ (by decide) (le rfl) (le rfl) (le rfl) (le rfl) ?_
  intro h3 s3 b3 E3 X3 c3 v3 A3 n3
  refine C.getF db14_20 tw27 c3 ?_
  refine C.putF (ty := .byte) db14_23 tw27 (((Fc.ext E1).other W2 (Or.inr nvc.symm)).ext E3) (((E.ext E1).wr W2).ext E3) (Or.inr ⟨tw23, rfl, rfl⟩) tw7 (by decide +kernel) rfl rfl na (Or.inl (List.mem_singleton.mpr rfl)) ?_
  intro h4 W4
  have A4 : Arl Z h4 b1 .byte [] := ((A1.other W2 n1'.2.symm).ext E3).other W4 n1'.2.symm
  refine C.return_ db14_26 rfl ⟨rfl, (((keep_ext E1 [a]).wr W2 (Or.inl (List.mem_singleton.mpr rfl))).ext E3).wr W4 (Or.inl (List.mem_singleton.mpr rfl)), b1, 0, [], ?_, ?_, ?_, A4, Or.inl ⟨rfl, rfl, by simp⟩, by simp, by simp⟩ (le rfl) (le rfl)
  · exact (((E.ext E1).wr W2).ext E3).wr W4
  · exact (((Fv.ext E1).same W2).ext E3).other W4 (Or.inr nvc)
  · exact (((Fc.ext E1).other W2 (Or.inr nvc.symm)).ext E3).same W4
theorem J_new1g (B : Base Z a0 EL) {h : Heap} {a b : Addr} {cs : List Int32} (hc : ∀ c ∈ cs, IsC c) (h0 : 0 < cs.length) (hn : cs.length ≤ 4000) (A : Arl Z h b .char (ints cs)) (na : Z.heap.size ≤ a) (E : Exa Z h a ST) (Fv : Fld Z h a ST "value" "[B" .null) (Fc : Fld Z h a ST "coder" "B" (.int 0)) :
    Con l Z EL nw (⟨"java/lang/String", "<init>", "([C)V"⟩ : MethodName) jdk_42_method_3_code 2 none (RM 5 74 2 (3 * cs.length)) [a] #[.ref a, .ref b] h (rV fun h' => Keep h h' [a] ∧ StrAt Z h' a cs) := by
  refine Con.of (plainFor_of_name (by decide +kernel)) B.1 B.2.1 ⟨[.val (.ref a), .val (.ref b)]⟩ (fun m => rfl) ?_
  intro p e s m below meth c _ C
  refine C.aloadN db15_0 rfl rfl ?_
  refine C.aloadN db15_1 rfl rfl ?_
  refine C.iconst (0) db15_2 rfl ?_
  refine C.aloadN db15_3 rfl rfl ?_
  refine C.arraylength db15_4 A ?_
  rw [ints_length]
  refine C.aconst_null db15_5 ?_
  refine C.c4 db15_6 rfl tw13 tw14 tw8 tw16 (by decide) (by decide +kernel) rfl (fun _ q => Or.inl q) (J_new4g B hc h0 hn A na E Fv Fc) (le rfl) (le rfl) (le rfl) (by show 0 + 3 * cs.length ≤ 3 * cs.length; omega) ?_
  rintro h1 ⟨K1, S1⟩
  exact C.return_ db15_9 rfl ⟨rfl, K1, S1⟩ (le rfl) (by show 0 + 3 * cs.length ≤ 3 * cs.length; omega)
theorem J_new1e (B : Base Z a0 EL) (hmem : ("java/lang/String", 7) ∈ EL) {h : Heap} {a b : Addr} (A : Arl Z h b .char []) (na : Z.heap.size ≤ a) (E : Exa Z h a ST) (Fv : Fld Z h a ST "value" "[B" .null) (Fc : Fld Z h a ST "coder" "B" (.int 0)) :
    Con l Z EL false (⟨"java/lang/String", "<init>", "([C)V"⟩ : MethodName) jdk_42_method_3_code 2 none (RM 2 29 4 8) [a] #[.ref a, .ref b] h (rV fun h' => Keep h h' [a] ∧ StrAt Z h' a []) := by
  refine Con.of (plainFor_of_name (by decide +kernel)) B.1 B.2.1 ⟨[.val (.ref a), .val (.ref b)]⟩ (fun m => rfl) ?_
  intro p e s m below meth c _ C
  refine C.aloadN db15_0 rfl rfl ?_
  refine C.aloadN db15_1 rfl rfl ?_
  refine C.iconst (0) db15_2 rfl ?_
  refine C.aloadN db15_3 rfl rfl ?_
  refine C.arraylength db15_4 A ?_
  refine C.aconst_null db15_5 ?_
  refine C.c4 db15_6 rfl tw13 tw14 tw8 tw16 (by decide) (by decide +kernel) rfl (fun _ q => Or.inl q) (J_new4e B hmem (b := b) na E Fv Fc) (le rfl) (le rfl) (le rfl) (le rfl) ?_
  rintro h1 ⟨K1, S1⟩
  exact C.return_ db15_9 rfl ⟨rfl, K1, S1⟩ (le rfl) (le rfl)
theorem J_ulen (B : Base Z a0 EL) {h : Heap} {t : Addr} {cs : List Int32} (A : Arl Z h t .byte (wid cs)) (hn : cs.length ≤ 4000) : Con l Z EL nw (⟨"java/lang/StringUTF16", "length", "([B)I"⟩ : MethodName) jdk_52_method_6_code 1 (some .int) (RM 0 0 0 0) [] #[.ref t] h (rR fun v h' => v = .int (Int32.ofNat cs.length) ∧ h = h') := by
  refine Con.of (plainFor_of_name (by decide +kernel)) B.1 B.2.1 ⟨[.val (.ref t)]⟩ (fun m => rfl) ?_
  intro p e s m below meth c _ C
  refine C.aloadN db16_0 rfl rfl ?_
  refine C.arraylength db16_1 A ?_
  refine C.iconst (1) db16_2 rfl ?_
  refine C.ishr db16_3 ?_
  exact C.ireturn db16_4 rfl (Or.inl rfl) rfl ⟨_, rfl, by rw [shr1 hn], rfl⟩ (le rfl) (le rfl)
theorem J_uci (B : Base Z a0 EL) {h : Heap} {t : Addr} {cs : List Int32} {i : Nat} (A : Arl Z h t .byte (wid cs)) (hn : cs.length ≤ 4000) (hi : i < cs.length) : Con l Z EL nw (⟨"java/lang/StringUTF16", "checkIndex", "(I[B)V"⟩ : MethodName) jdk_52_method_91_code 2 none (RM 2 27 0 0) [] #[.int (Int32.ofNat i), .ref t] h (rV fun h' => h = h') := by
  have hI := ofNat_idx (i := i) (by omega)
  refine Con.of (plainFor_of_name (by decide +kernel)) B.1 B.2.1 ⟨[.val (.int (Int32.ofNat i)), .val (.ref t)]⟩ (fun m => rfl) ?_
  intro p e s m below meth c _ C
  refine C.iloadN db17_0 rfl ?_
  refine C.aloadN db17_1 rfl rfl ?_
  refine C.s1R db17_2 tw106 tw107 tw45 tw108 (by decide) (by decide +kernel) rfl nof (J_ulen B A hn) (le rfl) (le rfl) (le rfl) (le rfl) ?_
  rintro _ _ ⟨rfl, rfl⟩
  refine C.s2V db17_5 tw109 tw71 tw8 tw72 (by decide) (by decide +kernel) rfl nof (J_sci B hI.1 ((ofNat_lt (by omega) (by omega)).mpr hi)) (le rfl) (le rfl) (le rfl) (le rfl) ?_
  rintro _ rfl
  exact C.return_ db17_8 rfl ⟨rfl, rfl⟩ (le rfl) (le rfl)
theorem J_uch (B : Base Z a0 EL) {h : Heap} {t : Addr} {cs : List Int32} {i : Nat} {ch : Int32} (A : Arl Z h t .byte (wid cs)) (hi : cs[i]? = some ch) (hc : IsC ch) (hn : cs.length ≤ 4000) : Con l Z EL nw (⟨"java/lang/StringUTF16", "charAt", "([BI)C"⟩ : MethodName) jdk_52_method_83_code 2 (some .char) (RM 3 40 0 0) [] #[.ref t, .int (Int32.ofNat i)] h (rR fun v h' => v = .int ch ∧ h = h') := by
  have hlt : i < cs.length := (List.getElem?_eq_some_iff.mp hi).1
  refine Con.of (plainFor_of_name (by decide +kernel)) B.1 B.2.1 ⟨[.val (.ref t), .val (.int (Int32.ofNat i))]⟩ (fun m => rfl) ?_
  intro p e s m below meth c _ C
  refine C.iloadN db18_0 rfl ?_
  refine C.aloadN db18_1 rfl rfl ?_
  refine C.s2V db18_2 tw103 tw104 tw45 tw105 (by decide) (by decide +kernel) rfl nof (J_uci B A hn hlt) (le rfl) (le rfl) (le rfl) (le rfl) ?_
  rintro _ rfl
  refine C.aloadN db18_5 rfl rfl ?_
  refine C.iloadN db18_6 rfl ?_
  refine C.s2R db18_7 tw97 tw98 tw45 tw99 (by decide) (by decide +kernel) rfl nof (J_getc B A hi hc hn) (le rfl) (le rfl) (le rfl) (le rfl) ?_
  rintro _ _ ⟨rfl, rfl⟩
  exact C.ireturn db18_10 rfl (Or.inr (Or.inr (Or.inr (Or.inl rfl)))) (narrow_char hc) ⟨_, rfl, rfl, rfl⟩ (le rfl) (le rfl)
theorem J_ch (B : Base Z a0 EL) {h : Heap} {a : Addr} {cs : List Int32} {i : Nat} {ch : Int32} (S : StrAt Z h a cs) (hi : cs[i]? = some ch) : Con l Z EL nw (⟨"java/lang/String", "charAt", "(I)C"⟩ : MethodName) jdk_42_method_56_code 2 (some .char) (RM 4 53 0 0) [] #[.ref a, .int (Int32.ofNat i)] h (rR fun v h' => v = .int ch ∧ h = h') := by
  obtain ⟨t, cd, vs, X, Fv, Fc, A, T, hC, hn⟩ := S
  have hm : ch ∈ cs := List.mem_of_getElem? hi
  refine Con.of (plainFor_of_name (by decide +kernel)) B.1 B.2.1 ⟨[.val (.ref a), .val (.int (Int32.ofNat i))]⟩ (fun m => rfl) ?_
  intro p e s m below meth c _ C
  refine C.aloadN db19_0 rfl rfl ?_
  refine C.v0R db19_1 tw61 tw62 tw64 tw63 tw8 tw65 (by decide) (by decide +kernel) rfl nof X (fun _ q => notFace_of_selects q) (J_isl B Fc) (le rfl) (le rfl) (le rfl) (le rfl) ?_
  rintro v _ ⟨hv, rfl⟩
  rcases T with ⟨rfl, rfl, hL⟩ | ⟨rfl, rfl, hU⟩
  · obtain rfl : v = .int 1 := hv.elim (fun q => q.1) (fun q => absurd rfl q.2)
    refine C.if_eq db19_4 (fun q => absurd q (by decide)) (fun _ => ?_)
    refine C.aloadN db19_7 rfl rfl ?_
    refine C.getF db19_8 tw26 Fv ?_
    refine C.iloadN db19_11 rfl ?_
    refine C.s2R db19_12 tw66 tw67 tw68 tw69 (by decide) (by decide +kernel) rfl nof (J_lch B A (lat_get hi)) (le rfl) (le rfl) (le rfl) (le rfl) ?_
    rintro _ _ ⟨rfl, rfl⟩
    have e : c16 (b8 ch &&& 255) = ch := unb8 ⟨(hC ch hm).1, hL ch hm⟩
    rw [e]
    exact C.ireturn db19_15 rfl (Or.inr (Or.inr (Or.inr (Or.inl rfl)))) (narrow_char (hC ch hm)) ⟨_, rfl, rfl, rfl⟩ (le rfl) (le rfl)
  · obtain rfl : v = .int 0 := hv.elim (fun q => absurd q.2 (by decide)) (fun q => q.1)
    refine C.if_eq db19_4 (fun _ => ?_) (fun q => absurd rfl q)
    refine C.aloadN db19_16 rfl rfl ?_
    refine C.getF db19_17 tw26 Fv ?_
    refine C.iloadN db19_20 rfl ?_
    refine C.s2R db19_21 tw100 tw101 tw45 tw102 (by decide) (by decide +kernel) rfl nof (J_uch B A hi (hC ch hm) hn) (le rfl) (le rfl) (le rfl) (le rfl) ?_
    rintro _ _ ⟨rfl, rfl⟩
    exact C.ireturn db19_24 rfl (Or.inr (Or.inr (Or.inr (Or.inl rfl)))) (narrow_char (hC ch hm)) ⟨_, rfl, rfl, rfl⟩ (le rfl) (le rfl)
def Wsp (c : Int32) : Prop := c = 32 ∨ c = 9 ∨ c = 10 ∨ c = 13
theorem rem5 (x : Int32) : (x &&& 2147483647) % 5 = 0 ∨ (x &&& 2147483647) % 5 = 1 ∨ (x &&& 2147483647) % 5 = 2 ∨ (x &&& 2147483647) % 5 = 3 ∨ (x &&& 2147483647) % 5 = 4 := by
  have h := c_and x 2147483647 (by decide)
  have q := (c_irem (x &&& 2147483647) 5 5 rfl).1 h.1
  generalize (x &&& 2147483647) % 5 = y at q
  have : y.toInt = 0 ∨ y.toInt = 1 ∨ y.toInt = 2 ∨ y.toInt = 3 ∨ y.toInt = 4 := by omega
  rcases this with q | q | q | q | q
  · exact Or.inl (Int32.toInt_inj.mp q)
  · exact Or.inr (Or.inl (Int32.toInt_inj.mp q))
  · exact Or.inr (Or.inr (Or.inl (Int32.toInt_inj.mp q)))
  · exact Or.inr (Or.inr (Or.inr (Or.inl (Int32.toInt_inj.mp q))))
  · exact Or.inr (Or.inr (Or.inr (Or.inr (Int32.toInt_inj.mp q))))
theorem P_pick (B : Base Z a0 EL) {h : Heap} {x : Int32} : Con l Z EL nw (⟨"no/nordsegl/internal/xml/DomIsXmlWhitespacePinLaw", "pick", "(I)C"⟩ : MethodName) method_2_code 2 (some .char) (RM 0 0 0 0) [] #[.int x] h (rR fun v h' => ∃ c, v = .int c ∧ IsC c ∧ h = h') := by
  refine Con.of (plainFor_of_name (by decide +kernel)) B.1 B.2.1 ⟨[.val (.int x), .unset]⟩ (fun m => rfl) ?_
  intro p e s m below meth c _ C
  refine C.iloadN db20_0 rfl ?_
  refine C.iconst (1) db20_1 rfl ?_
  refine C.iand db20_2 ?_
  refine C.if_ne db20_3 (fun _ => ?_) (fun _ => ?_)
  · refine C.iloadN db20_38 rfl ?_
    refine C.iconst (1) db20_39 rfl ?_
    refine C.iushr db20_40 ?_
    refine C.ldcInt db20_41 tw5 ?_
    refine C.iand db20_43 ?_
    refine C.i2c db20_44 ?_
    exact C.ireturn db20_45 rfl (Or.inr (Or.inr (Or.inr (Or.inl rfl)))) (narrow_char (isC_c16 _)) ⟨_, rfl, _, rfl, isC_c16 _, rfl⟩ (le rfl) (le rfl)
  · refine C.iloadN db20_6 rfl ?_
    refine C.iconst (1) db20_7 rfl ?_
    refine C.iushr db20_8 ?_
    refine C.iconst (3) db20_9 rfl ?_
    refine C.iand db20_10 ?_
    refine C.istoreN db20_11 rfl rfl ?_
    refine C.iloadN db20_12 rfl ?_
    refine C.if_ne db20_13 (fun _ => ?_) (fun _ => ?_)
    · refine C.iloadN db20_19 rfl ?_
      refine C.iconst (1) db20_20 rfl ?_
      refine C.icmp_ne db20_21 (fun _ => ?_) (fun _ => ?_)
      · refine C.iloadN db20_27 rfl ?_
        refine C.iconst (2) db20_28 rfl ?_
        refine C.icmp_ne db20_29 (fun _ => ?_) (fun _ => ?_)
        · refine C.bipush (13) db20_35 rfl ?_
          exact C.ireturn db20_37 rfl (Or.inr (Or.inr (Or.inr (Or.inl rfl)))) rfl ⟨_, rfl, _, rfl, by unfold IsC; decide, rfl⟩ (le rfl) (le rfl)
        · refine C.bipush (10) db20_32 rfl ?_
          exact C.ireturn db20_34 rfl (Or.inr (Or.inr (Or.inr (Or.inl rfl)))) rfl ⟨_, rfl, _, rfl, by unfold IsC; decide, rfl⟩ (le rfl) (le rfl)
      · refine C.bipush (9) db20_24 rfl ?_
        exact C.ireturn db20_26 rfl (Or.inr (Or.inr (Or.inr (Or.inl rfl)))) rfl ⟨_, rfl, _, rfl, by unfold IsC; decide, rfl⟩ (le rfl) (le rfl)
    · refine C.bipush (32) db20_16 rfl ?_
      exact C.ireturn db20_18 rfl (Or.inr (Or.inr (Or.inr (Or.inl rfl)))) rfl ⟨_, rfl, _, rfl, by unfold IsC; decide, rfl⟩ (le rfl) (le rfl)
theorem P_ws (B : Base Z a0 EL) {h : Heap} {v : Int32} : Con l Z EL nw (⟨"no/nordsegl/internal/xml/DomIsXmlWhitespacePinLaw", "ws", "(C)Z"⟩ : MethodName) method_3_code 1 (some .boolean) (RM 0 0 0 0) [] #[.int v] h (rR fun w h' => ((w = .int 1 ∧ Wsp v) ∨ (w = .int 0 ∧ ¬ Wsp v)) ∧ h = h') := by
  refine Con.of (plainFor_of_name (by decide +kernel)) B.1 B.2.1 ⟨[.val (.int v)]⟩ (fun m => rfl) ?_
  intro p e s m below meth c _ C
  have fin : Wsp v → Goes p l e (RM 0 0 0 0) s m #[.int v] below meth c Z EL nw (rR fun w h' => ((w = .int 1 ∧ Wsp v) ∨ (w = .int 0 ∧ ¬ Wsp v)) ∧ h = h') [] h.size h 0 0 (mkF m 24 ⟨[.val (.int v)]⟩ []) := by
    intro z
    refine C.iconst (1) db21_24 rfl ?_
    refine C.goto db21_25 ?_
    exact C.ireturn db21_29 rfl (Or.inr (Or.inl rfl)) rfl ⟨_, rfl, Or.inl ⟨rfl, z⟩, rfl⟩ (le rfl) (le rfl)
  refine C.iloadN db21_0 rfl ?_
  refine C.bipush (32) db21_1 rfl ?_
  refine C.icmp_eq db21_3 (fun q => fin (Or.inl q)) (fun q1 => ?_)
  refine C.iloadN db21_6 rfl ?_
  refine C.bipush (9) db21_7 rfl ?_
  refine C.icmp_eq db21_9 (fun q => fin (Or.inr (Or.inl q))) (fun q2 => ?_)
  refine C.iloadN db21_12 rfl ?_
  refine C.bipush (10) db21_13 rfl ?_
  refine C.icmp_eq db21_15 (fun q => fin (Or.inr (Or.inr (Or.inl q)))) (fun q3 => ?_)
  refine C.iloadN db21_18 rfl ?_
  refine C.bipush (13) db21_19 rfl ?_
  refine C.icmp_ne db21_21 (fun q4 => ?_) (fun q => fin (Or.inr (Or.inr (Or.inr q))))
  refine C.iconst (0) db21_28 rfl ?_
  exact C.ireturn db21_29 rfl (Or.inr (Or.inl rfl)) rfl ⟨_, rfl, Or.inr ⟨rfl, by rintro (z | z | z | z); exact q1 z; exact q2 z; exact q3 z; exact q4 z⟩, rfl⟩ (le rfl) (le rfl)
theorem P_dws (B : Base Z a0 EL) {h : Heap} {v : Int32} : Con l Z EL nw (⟨"no/nordsegl/internal/xml/Dom", "isXmlWhitespace", "(C)Z"⟩ : MethodName) prog_29_method_15_code 1 (some .boolean) (RM 0 0 0 0) [] #[.int v] h (rR fun w h' => ((w = .int 1 ∧ Wsp v) ∨ (w = .int 0 ∧ ¬ Wsp v)) ∧ h = h') := by
  refine Con.of (plainFor_of_name (by decide +kernel)) B.1 B.2.1 ⟨[.val (.int v)]⟩ (fun m => rfl) ?_
  intro p e s m below meth c _ C
  have fin : Wsp v → Goes p l e (RM 0 0 0 0) s m #[.int v] below meth c Z EL nw (rR fun w h' => ((w = .int 1 ∧ Wsp v) ∨ (w = .int 0 ∧ ¬ Wsp v)) ∧ h = h') [] h.size h 0 0 (mkF m 24 ⟨[.val (.int v)]⟩ []) := by
    intro z
    refine C.iconst (1) db22_24 rfl ?_
    refine C.goto db22_25 ?_
    exact C.ireturn db22_29 rfl (Or.inr (Or.inl rfl)) rfl ⟨_, rfl, Or.inl ⟨rfl, z⟩, rfl⟩ (le rfl) (le rfl)
  refine C.iloadN db22_0 rfl ?_
  refine C.bipush (32) db22_1 rfl ?_
  refine C.icmp_eq db22_3 (fun q => fin (Or.inl q)) (fun q1 => ?_)
  refine C.iloadN db22_6 rfl ?_
  refine C.bipush (9) db22_7 rfl ?_
  refine C.icmp_eq db22_9 (fun q => fin (Or.inr (Or.inl q))) (fun q2 => ?_)
  refine C.iloadN db22_12 rfl ?_
  refine C.bipush (10) db22_13 rfl ?_
  refine C.icmp_eq db22_15 (fun q => fin (Or.inr (Or.inr (Or.inl q)))) (fun q3 => ?_)
  refine C.iloadN db22_18 rfl ?_
  refine C.bipush (13) db22_19 rfl ?_
  refine C.icmp_ne db22_21 (fun q4 => ?_) (fun q => fin (Or.inr (Or.inr (Or.inr q))))
  refine C.iconst (0) db22_28 rfl ?_
  exact C.ireturn db22_29 rfl (Or.inr (Or.inl rfl)) rfl ⟨_, rfl, Or.inr ⟨rfl, by rintro (z | z | z | z); exact q1 z; exact q2 z; exact q3 z; exact q4 z⟩, rfl⟩ (le rfl) (le rfl)
def Qisw (h : Heap) (cs : List Int32) : Value → Heap → Prop := fun w h' => ((w = .int 1 ∧ ∀ c ∈ cs, Wsp c) ∨ (w = .int 0 ∧ ¬ ∀ c ∈ cs, Wsp c)) ∧ h = h'
theorem P_iswL (B : Base Z a0 EL) {p : Program} {e : Env} {s : State} {m : MethodId} {args : Array Value} {below : List Frame} {meth : Method} {c : Code} {h : Heap} {a : Addr} {cs : List Int32} (C : Cxt p m meth c Z a0 EL "no/nordsegl/internal/xml/Dom" "isXmlWhitespace" prog_29_method_13_code 2 (some .boolean) tables_1) (S : StrAt Z h a cs) :
    ∀ (r i w : Nat), i + r = cs.length → (∀ c ∈ cs.take i, Wsp c) → Goes p l e (RM 5 66 0 0) s m args below meth c Z EL nw (rR (Qisw h cs)) [] w h 0 0 (mkF m 2 ⟨[.val (.ref a), .val (.int (Int32.ofNat i))]⟩ []) := by
  have hn : cs.length ≤ 4000 := by obtain ⟨_, _, _, -, -, -, -, -, -, q⟩ := S; exact q
  intro r
  induction r with
  | zero =>
    intro i w hir hp
    obtain rfl : i = cs.length := by omega
    refine C.iloadN db23_2 rfl ?_
    refine C.aloadN db23_3 rfl rfl ?_
    refine C.v0R db23_4 tw32 tw33 tw35 tw34 tw8 tw36 (by decide) (by decide +kernel) rfl nof S.exa (fun _ q => notFace_of_selects q) (J_len B S) (le rfl) (le rfl) (le rfl) (le rfl) ?_
    rintro _ _ ⟨rfl, rfl⟩
    refine C.icmp_ge db23_7 (fun _ => ?_) (fun q => absurd q (fun q => by rw [ofNat_lt (by omega) (by omega)] at q; omega))
    refine C.iconst (1) db23_29 rfl ?_
    exact C.ireturn db23_30 rfl (Or.inr (Or.inl rfl)) rfl ⟨_, rfl, Or.inl ⟨rfl, by simpa using hp⟩, rfl⟩ (le rfl) (le rfl)
  | succ r ih =>
    intro i w hir hp
    have hlt : i < cs.length := by omega
    have hch : cs[i]? = some cs[i] := List.getElem?_eq_getElem hlt
    generalize cs[i] = ch at hch
    refine C.iloadN db23_2 rfl ?_
    refine C.aloadN db23_3 rfl rfl ?_
    refine C.v0R db23_4 tw32 tw33 tw35 tw34 tw8 tw36 (by decide) (by decide +kernel) rfl nof S.exa (fun _ q => notFace_of_selects q) (J_len B S) (le rfl) (le rfl) (le rfl) (le rfl) ?_
    rintro _ _ ⟨rfl, rfl⟩
    refine C.icmp_ge db23_7 (fun q => absurd ((ofNat_lt (by omega) (by omega)).mpr hlt) q) (fun _ => ?_)
    refine C.aloadN db23_10 rfl rfl ?_
    refine C.iloadN db23_11 rfl ?_
    refine C.v1R db23_12 tw56 tw57 tw59 tw58 tw8 tw60 (by decide) (by decide +kernel) rfl nof S.exa (fun _ q => notFace_of_selects q) (J_ch B S hch) (le rfl) (le rfl) (le rfl) (le rfl) ?_
    rintro _ _ ⟨rfl, rfl⟩
    refine C.s1R db23_15 tw78 tw79 tw30 tw80 (by decide) (by decide +kernel) rfl nof (P_dws B) (le rfl) (le rfl) (le rfl) (le rfl) ?_
    rintro v _ ⟨hv, rfl⟩
    rcases hv with ⟨rfl, z⟩ | ⟨rfl, z⟩
    · refine C.if_ne db23_18 (fun _ => ?_) (fun q => absurd q (by decide))
      refine C.iinc (1) db23_23 rfl rfl ?_
      refine C.goto db23_26 ?_
      rw [ofNat_succ]
      refine ih (i + 1) _ (by omega) ?_
      rw [List.take_add_one, hch]
      intro c hc
      rcases List.mem_append.mp hc with y | y
      · exact hp c y
      · simp at y; subst y; exact z
    · refine C.if_ne db23_18 (fun q => absurd rfl q) (fun _ => ?_)
      refine C.iconst (0) db23_21 rfl ?_
      exact C.ireturn db23_22 rfl (Or.inr (Or.inl rfl)) rfl ⟨_, rfl, Or.inr ⟨rfl, fun y => z (y ch (List.mem_of_getElem? hch))⟩, rfl⟩ (le rfl) (le rfl)
theorem P_isw (B : Base Z a0 EL) {h : Heap} {a : Addr} {cs : List Int32} (S : StrAt Z h a cs) : Con l Z EL nw (⟨"no/nordsegl/internal/xml/Dom", "isXmlWhitespace", "(Ljava/lang/String;)Z"⟩ : MethodName) prog_29_method_13_code 2 (some .boolean) (RM 5 66 0 0) [] #[.ref a] h (rR (Qisw h cs)) := by
  refine Con.of (plainFor_of_name (by decide +kernel)) B.1 B.2.1 ⟨[.val (.ref a), .unset]⟩ (fun m => rfl) ?_
  intro p e s m below meth c _ C
  refine C.iconst (0) db23_0 rfl ?_
  refine C.istoreN db23_1 rfl rfl ?_
  exact P_iswL B C S cs.length 0 _ (by omega) (by simp)
theorem P_law (B : Base Z a0 consts_1) {x0 x1 x2 x3 x4 : Int32} : Con l Z consts_1 false x code maxLocals ret room_1 [] #[.int x0, .int x1, .int x2, .int x3, .int x4] Z.heap (rR fun v _ => v = .int 1) := by
  have hmem : ("java/lang/String", 7) ∈ consts_1 := by decide
  refine Con.of (plainFor_of_name (by decide +kernel)) B.1 B.2.1 ⟨[.val (.int x0), .val (.int x1), .val (.int x2), .val (.int x3), .val (.int x4), .unset, .unset, .unset, .unset, .unset, .unset, .unset]⟩ (fun m => rfl) ?_
  intro p e s m below meth c _ C
  have tail : ∀ (w : Nat) (h2 : Heap) (kk u0 u1 u2 u3 ex : Int32) (a : Addr) (cs : List Int32), StrAt Z h2 a cs → ((ex = 1 ∧ ∀ c ∈ cs, Wsp c) ∨ (ex = 0 ∧ ¬ ∀ c ∈ cs, Wsp c)) → Goes p l e room_1 s m #[.int x0, .int x1, .int x2, .int x3, .int x4] below meth c Z consts_1 false (rR fun v _ => v = .int 1) [] w h2 6 20 (mkF m 239 ⟨[.val (.int x0), .val (.int x1), .val (.int x2), .val (.int x3), .val (.int x4), .val (.int kk), .val (.int u0), .val (.int u1), .val (.int u2), .val (.int u3), .val (.ref a), .unset]⟩ [.int ex]) := by
    intro w h2 kk u0 u1 u2 u3 ex a cs S hex
    refine C.istore dL_239 rfl rfl ?_
    refine C.aload dL_241 rfl rfl ?_
    refine C.s1R dL_243 tw28 tw29 tw30 tw31 (by decide) (by decide +kernel) rfl nof (P_isw B S) (le rfl) (le rfl) (le rfl) (le rfl) ?_
    rintro v _ ⟨hv, rfl⟩
    obtain rfl : v = .int ex := by
      rcases hv with ⟨rfl, z⟩ | ⟨rfl, z⟩ <;> rcases hex with ⟨rfl, y⟩ | ⟨rfl, y⟩
      · rfl
      · exact absurd z y
      · exact absurd y z
      · rfl
    refine C.iload dL_246 rfl ?_
    refine C.icmp_ne dL_248 (fun z => absurd rfl z) (fun _ => ?_)
    refine C.iconst (1) dL_251 rfl ?_
    refine C.goto dL_252 ?_
    exact C.ireturn dL_256 rfl (Or.inr (Or.inl rfl)) rfl ⟨_, rfl, rfl⟩ (le rfl) (le rfl)
  refine C.iloadN dL_0 rfl ?_
  refine C.ldcInt dL_1 tw0 ?_
  refine C.iand dL_3 ?_
  refine C.iconst (5) dL_4 rfl ?_
  refine C.irem dL_5 (by decide) ?_
  have hk := rem5 x0
  generalize (x0 &&& 2147483647) % 5 = kk at hk ⊢
  refine C.istore dL_6 rfl rfl ?_
  refine C.iloadN dL_8 rfl ?_
  refine C.s1R dL_9 tw1 tw2 tw3 tw4 (by decide) (by decide +kernel) rfl nof (P_pick (nw := true) B) (le rfl) (le rfl) (le rfl) (le rfl) ?_
  rintro _ _ ⟨u0, rfl, hu0, rfl⟩
  refine C.istore dL_12 rfl rfl ?_
  refine C.iloadN dL_14 rfl ?_
  refine C.s1R dL_15 tw1 tw2 tw3 tw4 (by decide) (by decide +kernel) rfl nof (P_pick (nw := true) B) (le rfl) (le rfl) (le rfl) (le rfl) ?_
  rintro _ _ ⟨u1, rfl, hu1, rfl⟩
  refine C.istore dL_18 rfl rfl ?_
  refine C.iloadN dL_20 rfl ?_
  refine C.s1R dL_21 tw1 tw2 tw3 tw4 (by decide) (by decide +kernel) rfl nof (P_pick (nw := true) B) (le rfl) (le rfl) (le rfl) (le rfl) ?_
  rintro _ _ ⟨u2, rfl, hu2, rfl⟩
  refine C.istore dL_24 rfl rfl ?_
  refine C.iload dL_26 rfl ?_
  refine C.s1R dL_28 tw1 tw2 tw3 tw4 (by decide) (by decide +kernel) rfl nof (P_pick (nw := true) B) (le rfl) (le rfl) (le rfl) (le rfl) ?_
  rintro _ _ ⟨u3, rfl, hu3, rfl⟩
  refine C.istore dL_31 rfl rfl ?_
  rcases hk with rfl | rfl | rfl | rfl | rfl
  · refine C.iload dL_33 rfl ?_
    refine C.if_ne dL_35 (fun q => absurd rfl q) (fun _ => ?_)
    refine Goes.old fun O => ?_
    refine C.new dL_38 tw6 tw7 tw8 (le rfl) (le rfl) ?_
    intro h1 a g1 E1 X1 D1
    have Fv := D1 (Or.inr (C.wrd tw22)) (ty := (.array .byte)) (by decide +kernel)
    have Fc := D1 (Or.inr (C.wrd tw23)) (ty := .byte) (by decide +kernel)
    have la := X1.lt
    refine C.dup dL_41 rfl ?_
    refine C.iconst (0) dL_42 rfl ?_
    refine C.newarray dL_43 tw9 (by decide) rfl (le rfl) (le rfl) (le rfl) ?_
    intro h2 b g2 E2 l2 A2
    have E9 : Ext Z.heap h2 := ext_trans E1 E2
    replace X1 := X1.ext E2
    replace Fv := Fv.ext E2
    replace Fc := Fc.ext E2
    have ab : @Ne Nat a b := adr_ne la (Nat.le_of_eq g2.symm)
    refine C.c1 dL_45 rfl tw10 tw11 tw8 tw12 (by decide) (by decide +kernel) rfl (by simp) (J_new1e B hmem A2 (by have := O.1; omega) X1 Fv Fc) (le rfl) (le rfl) (le rfl) (le rfl) ?_
    rintro h9 ⟨K9, S9⟩
    replace E9 := ext_of_keep E9 K9 (by simp; omega)
    refine C.astore dL_48 rfl rfl rfl ?_
    refine C.goto dL_50 ?_
    refine C.iload dL_178 rfl ?_
    refine C.iconst (1) dL_180 rfl ?_
    refine C.icmp_lt dL_181 (fun _ => ?_) (fun q => absurd (by decide) q)
    refine C.iload dL_192 rfl ?_
    refine C.iconst (2) dL_194 rfl ?_
    refine C.icmp_lt dL_195 (fun _ => ?_) (fun q => absurd (by decide) q)
    refine C.iload dL_206 rfl ?_
    refine C.iconst (3) dL_208 rfl ?_
    refine C.icmp_lt dL_209 (fun _ => ?_) (fun q => absurd (by decide) q)
    refine C.iload dL_220 rfl ?_
    refine C.iconst (4) dL_222 rfl ?_
    refine C.icmp_lt dL_223 (fun _ => ?_) (fun q => absurd (by decide) q)
    refine C.iconst (1) dL_234 rfl ?_
    refine C.goto dL_235 ?_
    exact Goes.more (le rfl) (le rfl) (Goes.less (F' := []) nof0 (tail _ _ _ _ _ _ _ _ _ _ S9 (Or.inl ⟨rfl, by intro c hc; simp at hc⟩)))
  · refine C.iload dL_33 rfl ?_
    refine C.if_ne dL_35 (fun _ => ?_) (fun q => absurd q (by decide))
    refine C.iload dL_53 rfl ?_
    refine C.iconst (1) dL_55 rfl ?_
    refine C.icmp_ne dL_56 (fun q => absurd rfl q) (fun _ => ?_)
    refine Goes.old fun O => ?_
    refine C.new dL_59 tw6 tw7 tw8 (le rfl) (le rfl) ?_
    intro h1 a g1 E1 X1 D1
    have Fv := D1 (Or.inr (C.wrd tw22)) (ty := (.array .byte)) (by decide +kernel)
    have Fc := D1 (Or.inr (C.wrd tw23)) (ty := .byte) (by decide +kernel)
    have la := X1.lt
    refine C.dup dL_62 rfl ?_
    refine C.iconst (1) dL_63 rfl ?_
    refine C.newarray dL_64 tw9 (by decide) rfl (le rfl) (le rfl) (le rfl) ?_
    intro h2 b g2 E2 l2 A2
    have E9 : Ext Z.heap h2 := ext_trans E1 E2
    replace X1 := X1.ext E2
    replace Fv := Fv.ext E2
    replace Fc := Fc.ext E2
    have ab : @Ne Nat a b := adr_ne la (Nat.le_of_eq g2.symm)
    refine C.dup dL_66 rfl ?_
    refine C.iconst (0) dL_67 rfl ?_
    refine C.iload dL_68 rfl ?_
    refine C.castore dL_70 A2 (by decide) rfl (le rfl) (by have := O.1; have := E1.1; omega) ?_
    intro h3 W3 A3
    replace X1 := X1.wr W3
    replace Fv := Fv.other W3 (Or.inl ab)
    replace Fc := Fc.other W3 (Or.inl ab)
    replace E9 := ext_of_wr E9 W3 (by have := E1.1; omega)
    rw [nar_char (hu0)] at A3
    clear A2
    have A2 := A3
    clear A3
    refine C.c1 dL_71 rfl tw10 tw11 tw8 tw12 (by decide) (by decide +kernel) rfl (by simp) (J_new1g (nw := true) B (cs := [u0]) (by intro c hc; simp at hc; subst hc; exact hu0) (by simp) (le rfl) A2 (by have := O.1; omega) X1 Fv Fc) (le rfl) (le rfl) (le rfl) (le rfl) ?_
    rintro h9 ⟨K9, S9⟩
    replace E9 := ext_of_keep E9 K9 (by simp; omega)
    refine C.astore dL_74 rfl rfl rfl ?_
    refine C.goto dL_76 ?_
    refine C.iload dL_178 rfl ?_
    refine C.iconst (1) dL_180 rfl ?_
    refine C.icmp_lt dL_181 (fun q => absurd q (by decide)) (fun _ => ?_)
    refine C.iload dL_184 rfl ?_
    refine C.s1R dL_186 tw53 tw54 tw3 tw55 (by decide) (by decide +kernel) rfl nof (P_ws B) (le rfl) (le rfl) (le rfl) (le rfl) ?_
    rintro w0 _ ⟨hw0, rfl⟩
    rcases hw0 with ⟨rfl, e0⟩ | ⟨rfl, e0⟩
    rotate_left
    · refine C.if_eq dL_189 (fun _ => ?_) (fun z => absurd rfl z)
      refine C.iconst (0) dL_238 rfl ?_
      exact Goes.more (le rfl) (le rfl) (Goes.less (F' := []) nof0 (tail _ _ _ _ _ _ _ _ _ _ S9 (Or.inr ⟨rfl, by intro z; exact e0 (z u0 (by simp))⟩)))
    refine C.if_eq dL_189 (fun z => absurd z (by decide)) (fun _ => ?_)
    refine C.iload dL_192 rfl ?_
    refine C.iconst (2) dL_194 rfl ?_
    refine C.icmp_lt dL_195 (fun _ => ?_) (fun q => absurd (by decide) q)
    refine C.iload dL_206 rfl ?_
    refine C.iconst (3) dL_208 rfl ?_
    refine C.icmp_lt dL_209 (fun _ => ?_) (fun q => absurd (by decide) q)
    refine C.iload dL_220 rfl ?_
    refine C.iconst (4) dL_222 rfl ?_
    refine C.icmp_lt dL_223 (fun _ => ?_) (fun q => absurd (by decide) q)
    refine C.iconst (1) dL_234 rfl ?_
    refine C.goto dL_235 ?_
    exact Goes.more (le rfl) (le rfl) (Goes.less (F' := []) nof0 (tail _ _ _ _ _ _ _ _ _ _ S9 (Or.inl ⟨rfl, by intro c hc; simp at hc; subst hc; exact e0⟩)))
  · refine C.iload dL_33 rfl ?_
    refine C.if_ne dL_35 (fun _ => ?_) (fun q => absurd q (by decide))
    refine C.iload dL_53 rfl ?_
    refine C.iconst (1) dL_55 rfl ?_
    refine C.icmp_ne dL_56 (fun _ => ?_) (fun q => absurd q (by decide))
    refine C.iload dL_79 rfl ?_
    refine C.iconst (2) dL_81 rfl ?_
    refine C.icmp_ne dL_82 (fun q => absurd rfl q) (fun _ => ?_)
    refine Goes.old fun O => ?_
    refine C.new dL_85 tw6 tw7 tw8 (le rfl) (le rfl) ?_
    intro h1 a g1 E1 X1 D1
    have Fv := D1 (Or.inr (C.wrd tw22)) (ty := (.array .byte)) (by decide +kernel)
    have Fc := D1 (Or.inr (C.wrd tw23)) (ty := .byte) (by decide +kernel)
    have la := X1.lt
    refine C.dup dL_88 rfl ?_
    refine C.iconst (2) dL_89 rfl ?_
    refine C.newarray dL_90 tw9 (by decide) rfl (le rfl) (le rfl) (le rfl) ?_
    intro h2 b g2 E2 l2 A2
    have E9 : Ext Z.heap h2 := ext_trans E1 E2
    replace X1 := X1.ext E2
    replace Fv := Fv.ext E2
    replace Fc := Fc.ext E2
    have ab : @Ne Nat a b := adr_ne la (Nat.le_of_eq g2.symm)
    refine C.dup dL_92 rfl ?_
    refine C.iconst (0) dL_93 rfl ?_
    refine C.iload dL_94 rfl ?_
    refine C.castore dL_96 A2 (by decide) rfl (le rfl) (by have := O.1; have := E1.1; omega) ?_
    intro h3 W3 A3
    replace X1 := X1.wr W3
    replace Fv := Fv.other W3 (Or.inl ab)
    replace Fc := Fc.other W3 (Or.inl ab)
    replace E9 := ext_of_wr E9 W3 (by have := E1.1; omega)
    rw [nar_char (hu0)] at A3
    clear A2
    have A2 := A3
    clear A3
    refine C.dup dL_97 rfl ?_
    refine C.iconst (1) dL_98 rfl ?_
    refine C.iload dL_99 rfl ?_
    refine C.castore dL_101 A2 (by decide) rfl (le rfl) (by have := O.1; have := E1.1; omega) ?_
    intro h4 W4 A4
    replace X1 := X1.wr W4
    replace Fv := Fv.other W4 (Or.inl ab)
    replace Fc := Fc.other W4 (Or.inl ab)
    replace E9 := ext_of_wr E9 W4 (by have := E1.1; omega)
    rw [nar_char (hu1)] at A4
    clear A2
    have A2 := A4
    clear A4
    refine C.c1 dL_102 rfl tw10 tw11 tw8 tw12 (by decide) (by decide +kernel) rfl (by simp) (J_new1g (nw := true) B (cs := [u0, u1]) (by intro c hc; simp at hc; rcases hc with rfl | rfl; exact hu0; exact hu1) (by simp) (le rfl) A2 (by have := O.1; omega) X1 Fv Fc) (le rfl) (le rfl) (le rfl) (le rfl) ?_
    rintro h9 ⟨K9, S9⟩
    replace E9 := ext_of_keep E9 K9 (by simp; omega)
    refine C.astore dL_105 rfl rfl rfl ?_
    refine C.goto dL_107 ?_
    refine C.iload dL_178 rfl ?_
    refine C.iconst (1) dL_180 rfl ?_
    refine C.icmp_lt dL_181 (fun q => absurd q (by decide)) (fun _ => ?_)
    refine C.iload dL_184 rfl ?_
    refine C.s1R dL_186 tw53 tw54 tw3 tw55 (by decide) (by decide +kernel) rfl nof (P_ws B) (le rfl) (le rfl) (le rfl) (le rfl) ?_
    rintro w0 _ ⟨hw0, rfl⟩
    rcases hw0 with ⟨rfl, e0⟩ | ⟨rfl, e0⟩
    rotate_left
    · refine C.if_eq dL_189 (fun _ => ?_) (fun z => absurd rfl z)
      refine C.iconst (0) dL_238 rfl ?_
      exact Goes.more (le rfl) (le rfl) (Goes.less (F' := []) nof0 (tail _ _ _ _ _ _ _ _ _ _ S9 (Or.inr ⟨rfl, by intro z; exact e0 (z u0 (by simp))⟩)))
    refine C.if_eq dL_189 (fun z => absurd z (by decide)) (fun _ => ?_)
    refine C.iload dL_192 rfl ?_
    refine C.iconst (2) dL_194 rfl ?_
    refine C.icmp_lt dL_195 (fun q => absurd q (by decide)) (fun _ => ?_)
    refine C.iload dL_198 rfl ?_
    refine C.s1R dL_200 tw53 tw54 tw3 tw55 (by decide) (by decide +kernel) rfl nof (P_ws B) (le rfl) (le rfl) (le rfl) (le rfl) ?_
    rintro w1 _ ⟨hw1, rfl⟩
    rcases hw1 with ⟨rfl, e1⟩ | ⟨rfl, e1⟩
    rotate_left
    · refine C.if_eq dL_203 (fun _ => ?_) (fun z => absurd rfl z)
      refine C.iconst (0) dL_238 rfl ?_
      exact Goes.more (le rfl) (le rfl) (Goes.less (F' := []) nof0 (tail _ _ _ _ _ _ _ _ _ _ S9 (Or.inr ⟨rfl, by intro z; exact e1 (z u1 (by simp))⟩)))
    refine C.if_eq dL_203 (fun z => absurd z (by decide)) (fun _ => ?_)
    refine C.iload dL_206 rfl ?_
    refine C.iconst (3) dL_208 rfl ?_
    refine C.icmp_lt dL_209 (fun _ => ?_) (fun q => absurd (by decide) q)
    refine C.iload dL_220 rfl ?_
    refine C.iconst (4) dL_222 rfl ?_
    refine C.icmp_lt dL_223 (fun _ => ?_) (fun q => absurd (by decide) q)
    refine C.iconst (1) dL_234 rfl ?_
    refine C.goto dL_235 ?_
    exact Goes.more (le rfl) (le rfl) (Goes.less (F' := []) nof0 (tail _ _ _ _ _ _ _ _ _ _ S9 (Or.inl ⟨rfl, by intro c hc; simp at hc; rcases hc with rfl | rfl; exact e0; exact e1⟩)))
  · refine C.iload dL_33 rfl ?_
    refine C.if_ne dL_35 (fun _ => ?_) (fun q => absurd q (by decide))
    refine C.iload dL_53 rfl ?_
    refine C.iconst (1) dL_55 rfl ?_
    refine C.icmp_ne dL_56 (fun _ => ?_) (fun q => absurd q (by decide))
    refine C.iload dL_79 rfl ?_
    refine C.iconst (2) dL_81 rfl ?_
    refine C.icmp_ne dL_82 (fun _ => ?_) (fun q => absurd q (by decide))
    refine C.iload dL_110 rfl ?_
    refine C.iconst (3) dL_112 rfl ?_
    refine C.icmp_ne dL_113 (fun q => absurd rfl q) (fun _ => ?_)
    refine Goes.old fun O => ?_
    refine C.new dL_116 tw6 tw7 tw8 (le rfl) (le rfl) ?_
    intro h1 a g1 E1 X1 D1
    have Fv := D1 (Or.inr (C.wrd tw22)) (ty := (.array .byte)) (by decide +kernel)
    have Fc := D1 (Or.inr (C.wrd tw23)) (ty := .byte) (by decide +kernel)
    have la := X1.lt
    refine C.dup dL_119 rfl ?_
    refine C.iconst (3) dL_120 rfl ?_
    refine C.newarray dL_121 tw9 (by decide) rfl (le rfl) (le rfl) (le rfl) ?_
    intro h2 b g2 E2 l2 A2
    have E9 : Ext Z.heap h2 := ext_trans E1 E2
    replace X1 := X1.ext E2
    replace Fv := Fv.ext E2
    replace Fc := Fc.ext E2
    have ab : @Ne Nat a b := adr_ne la (Nat.le_of_eq g2.symm)
    refine C.dup dL_123 rfl ?_
    refine C.iconst (0) dL_124 rfl ?_
    refine C.iload dL_125 rfl ?_
    refine C.castore dL_127 A2 (by decide) rfl (le rfl) (by have := O.1; have := E1.1; omega) ?_
    intro h3 W3 A3
    replace X1 := X1.wr W3
    replace Fv := Fv.other W3 (Or.inl ab)
    replace Fc := Fc.other W3 (Or.inl ab)
    replace E9 := ext_of_wr E9 W3 (by have := E1.1; omega)
    rw [nar_char (hu0)] at A3
    clear A2
    have A2 := A3
    clear A3
    refine C.dup dL_128 rfl ?_
    refine C.iconst (1) dL_129 rfl ?_
    refine C.iload dL_130 rfl ?_
    refine C.castore dL_132 A2 (by decide) rfl (le rfl) (by have := O.1; have := E1.1; omega) ?_
    intro h4 W4 A4
    replace X1 := X1.wr W4
    replace Fv := Fv.other W4 (Or.inl ab)
    replace Fc := Fc.other W4 (Or.inl ab)
    replace E9 := ext_of_wr E9 W4 (by have := E1.1; omega)
    rw [nar_char (hu1)] at A4
    clear A2
    have A2 := A4
    clear A4
    refine C.dup dL_133 rfl ?_
    refine C.iconst (2) dL_134 rfl ?_
    refine C.iload dL_135 rfl ?_
    refine C.castore dL_137 A2 (by decide) rfl (le rfl) (by have := O.1; have := E1.1; omega) ?_
    intro h5 W5 A5
    replace X1 := X1.wr W5
    replace Fv := Fv.other W5 (Or.inl ab)
    replace Fc := Fc.other W5 (Or.inl ab)
    replace E9 := ext_of_wr E9 W5 (by have := E1.1; omega)
    rw [nar_char (hu2)] at A5
    clear A2
    have A2 := A5
    clear A5
    refine C.c1 dL_138 rfl tw10 tw11 tw8 tw12 (by decide) (by decide +kernel) rfl (by simp) (J_new1g (nw := true) B (cs := [u0, u1, u2]) (by intro c hc; simp at hc; rcases hc with rfl | rfl | rfl; exact hu0; exact hu1; exact hu2) (by simp) (le rfl) A2 (by have := O.1; omega) X1 Fv Fc) (le rfl) (le rfl) (le rfl) (le rfl) ?_
    rintro h9 ⟨K9, S9⟩
    replace E9 := ext_of_keep E9 K9 (by simp; omega)
    refine C.astore dL_141 rfl rfl rfl ?_
    refine C.goto dL_143 ?_
    refine C.iload dL_178 rfl ?_
    refine C.iconst (1) dL_180 rfl ?_
    refine C.icmp_lt dL_181 (fun q => absurd q (by decide)) (fun _ => ?_)
    refine C.iload dL_184 rfl ?_
    refine C.s1R dL_186 tw53 tw54 tw3 tw55 (by decide) (by decide +kernel) rfl nof (P_ws B) (le rfl) (le rfl) (le rfl) (le rfl) ?_
    rintro w0 _ ⟨hw0, rfl⟩
    rcases hw0 with ⟨rfl, e0⟩ | ⟨rfl, e0⟩
    rotate_left
    · refine C.if_eq dL_189 (fun _ => ?_) (fun z => absurd rfl z)
      refine C.iconst (0) dL_238 rfl ?_
      exact Goes.more (le rfl) (le rfl) (Goes.less (F' := []) nof0 (tail _ _ _ _ _ _ _ _ _ _ S9 (Or.inr ⟨rfl, by intro z; exact e0 (z u0 (by simp))⟩)))
    refine C.if_eq dL_189 (fun z => absurd z (by decide)) (fun _ => ?_)
    refine C.iload dL_192 rfl ?_
    refine C.iconst (2) dL_194 rfl ?_
    refine C.icmp_lt dL_195 (fun q => absurd q (by decide)) (fun _ => ?_)
    refine C.iload dL_198 rfl ?_
    refine C.s1R dL_200 tw53 tw54 tw3 tw55 (by decide) (by decide +kernel) rfl nof (P_ws B) (le rfl) (le rfl) (le rfl) (le rfl) ?_
    rintro w1 _ ⟨hw1, rfl⟩
    rcases hw1 with ⟨rfl, e1⟩ | ⟨rfl, e1⟩
    rotate_left
    · refine C.if_eq dL_203 (fun _ => ?_) (fun z => absurd rfl z)
      refine C.iconst (0) dL_238 rfl ?_
      exact Goes.more (le rfl) (le rfl) (Goes.less (F' := []) nof0 (tail _ _ _ _ _ _ _ _ _ _ S9 (Or.inr ⟨rfl, by intro z; exact e1 (z u1 (by simp))⟩)))
    refine C.if_eq dL_203 (fun z => absurd z (by decide)) (fun _ => ?_)
    refine C.iload dL_206 rfl ?_
    refine C.iconst (3) dL_208 rfl ?_
    refine C.icmp_lt dL_209 (fun q => absurd q (by decide)) (fun _ => ?_)
    refine C.iload dL_212 rfl ?_
    refine C.s1R dL_214 tw53 tw54 tw3 tw55 (by decide) (by decide +kernel) rfl nof (P_ws B) (le rfl) (le rfl) (le rfl) (le rfl) ?_
    rintro w2 _ ⟨hw2, rfl⟩
    rcases hw2 with ⟨rfl, e2⟩ | ⟨rfl, e2⟩
    rotate_left
    · refine C.if_eq dL_217 (fun _ => ?_) (fun z => absurd rfl z)
      refine C.iconst (0) dL_238 rfl ?_
      exact Goes.more (le rfl) (le rfl) (Goes.less (F' := []) nof0 (tail _ _ _ _ _ _ _ _ _ _ S9 (Or.inr ⟨rfl, by intro z; exact e2 (z u2 (by simp))⟩)))
    refine C.if_eq dL_217 (fun z => absurd z (by decide)) (fun _ => ?_)
    refine C.iload dL_220 rfl ?_
    refine C.iconst (4) dL_222 rfl ?_
    refine C.icmp_lt dL_223 (fun _ => ?_) (fun q => absurd (by decide) q)
    refine C.iconst (1) dL_234 rfl ?_
    refine C.goto dL_235 ?_
    exact Goes.more (le rfl) (le rfl) (Goes.less (F' := []) nof0 (tail _ _ _ _ _ _ _ _ _ _ S9 (Or.inl ⟨rfl, by intro c hc; simp at hc; rcases hc with rfl | rfl | rfl; exact e0; exact e1; exact e2⟩)))
  · refine C.iload dL_33 rfl ?_
    refine C.if_ne dL_35 (fun _ => ?_) (fun q => absurd q (by decide))
    refine C.iload dL_53 rfl ?_
    refine C.iconst (1) dL_55 rfl ?_
    refine C.icmp_ne dL_56 (fun _ => ?_) (fun q => absurd q (by decide))
    refine C.iload dL_79 rfl ?_
    refine C.iconst (2) dL_81 rfl ?_
    refine C.icmp_ne dL_82 (fun _ => ?_) (fun q => absurd q (by decide))
    refine C.iload dL_110 rfl ?_
    refine C.iconst (3) dL_112 rfl ?_
    refine C.icmp_ne dL_113 (fun _ => ?_) (fun q => absurd q (by decide))
    refine Goes.old fun O => ?_
    refine C.new dL_146 tw6 tw7 tw8 (le rfl) (le rfl) ?_
    intro h1 a g1 E1 X1 D1
    have Fv := D1 (Or.inr (C.wrd tw22)) (ty := (.array .byte)) (by decide +kernel)
    have Fc := D1 (Or.inr (C.wrd tw23)) (ty := .byte) (by decide +kernel)
    have la := X1.lt
    refine C.dup dL_149 rfl ?_
    refine C.iconst (4) dL_150 rfl ?_
    refine C.newarray dL_151 tw9 (by decide) rfl (le rfl) (le rfl) (le rfl) ?_
    intro h2 b g2 E2 l2 A2
    have E9 : Ext Z.heap h2 := ext_trans E1 E2
    replace X1 := X1.ext E2
    replace Fv := Fv.ext E2
    replace Fc := Fc.ext E2
    have ab : @Ne Nat a b := adr_ne la (Nat.le_of_eq g2.symm)
    refine C.dup dL_153 rfl ?_
    refine C.iconst (0) dL_154 rfl ?_
    refine C.iload dL_155 rfl ?_
    refine C.castore dL_157 A2 (by decide) rfl (le rfl) (by have := O.1; have := E1.1; omega) ?_
    intro h3 W3 A3
    replace X1 := X1.wr W3
    replace Fv := Fv.other W3 (Or.inl ab)
    replace Fc := Fc.other W3 (Or.inl ab)
    replace E9 := ext_of_wr E9 W3 (by have := E1.1; omega)
    rw [nar_char (hu0)] at A3
    clear A2
    have A2 := A3
    clear A3
    refine C.dup dL_158 rfl ?_
    refine C.iconst (1) dL_159 rfl ?_
    refine C.iload dL_160 rfl ?_
    refine C.castore dL_162 A2 (by decide) rfl (le rfl) (by have := O.1; have := E1.1; omega) ?_
    intro h4 W4 A4
    replace X1 := X1.wr W4
    replace Fv := Fv.other W4 (Or.inl ab)
    replace Fc := Fc.other W4 (Or.inl ab)
    replace E9 := ext_of_wr E9 W4 (by have := E1.1; omega)
    rw [nar_char (hu1)] at A4
    clear A2
    have A2 := A4
    clear A4
    refine C.dup dL_163 rfl ?_
    refine C.iconst (2) dL_164 rfl ?_
    refine C.iload dL_165 rfl ?_
    refine C.castore dL_167 A2 (by decide) rfl (le rfl) (by have := O.1; have := E1.1; omega) ?_
    intro h5 W5 A5
    replace X1 := X1.wr W5
    replace Fv := Fv.other W5 (Or.inl ab)
    replace Fc := Fc.other W5 (Or.inl ab)
    replace E9 := ext_of_wr E9 W5 (by have := E1.1; omega)
    rw [nar_char (hu2)] at A5
    clear A2
    have A2 := A5
    clear A5
    refine C.dup dL_168 rfl ?_
    refine C.iconst (3) dL_169 rfl ?_
    refine C.iload dL_170 rfl ?_
    refine C.castore dL_172 A2 (by decide) rfl (le rfl) (by have := O.1; have := E1.1; omega) ?_
    intro h6 W6 A6
    replace X1 := X1.wr W6
    replace Fv := Fv.other W6 (Or.inl ab)
    replace Fc := Fc.other W6 (Or.inl ab)
    replace E9 := ext_of_wr E9 W6 (by have := E1.1; omega)
    rw [nar_char (hu3)] at A6
    clear A2
    have A2 := A6
    clear A6
    refine C.c1 dL_173 rfl tw10 tw11 tw8 tw12 (by decide) (by decide +kernel) rfl (by simp) (J_new1g (nw := true) B (cs := [u0, u1, u2, u3]) (by intro c hc; simp at hc; rcases hc with rfl | rfl | rfl | rfl; exact hu0; exact hu1; exact hu2; exact hu3) (by simp) (le rfl) A2 (by have := O.1; omega) X1 Fv Fc) (le rfl) (le rfl) (le rfl) (le rfl) ?_
    rintro h9 ⟨K9, S9⟩
    replace E9 := ext_of_keep E9 K9 (by simp; omega)
    refine C.astore dL_176 rfl rfl rfl ?_
    refine C.iload dL_178 rfl ?_
    refine C.iconst (1) dL_180 rfl ?_
    refine C.icmp_lt dL_181 (fun q => absurd q (by decide)) (fun _ => ?_)
    refine C.iload dL_184 rfl ?_
    refine C.s1R dL_186 tw53 tw54 tw3 tw55 (by decide) (by decide +kernel) rfl nof (P_ws B) (le rfl) (le rfl) (le rfl) (le rfl) ?_
    rintro w0 _ ⟨hw0, rfl⟩
    rcases hw0 with ⟨rfl, e0⟩ | ⟨rfl, e0⟩
    rotate_left
    · refine C.if_eq dL_189 (fun _ => ?_) (fun z => absurd rfl z)
      refine C.iconst (0) dL_238 rfl ?_
      exact Goes.more (le rfl) (le rfl) (Goes.less (F' := []) nof0 (tail _ _ _ _ _ _ _ _ _ _ S9 (Or.inr ⟨rfl, by intro z; exact e0 (z u0 (by simp))⟩)))
    refine C.if_eq dL_189 (fun z => absurd z (by decide)) (fun _ => ?_)
    refine C.iload dL_192 rfl ?_
    refine C.iconst (2) dL_194 rfl ?_
    refine C.icmp_lt dL_195 (fun q => absurd q (by decide)) (fun _ => ?_)
    refine C.iload dL_198 rfl ?_
    refine C.s1R dL_200 tw53 tw54 tw3 tw55 (by decide) (by decide +kernel) rfl nof (P_ws B) (le rfl) (le rfl) (le rfl) (le rfl) ?_
    rintro w1 _ ⟨hw1, rfl⟩
    rcases hw1 with ⟨rfl, e1⟩ | ⟨rfl, e1⟩
    rotate_left
    · refine C.if_eq dL_203 (fun _ => ?_) (fun z => absurd rfl z)
      refine C.iconst (0) dL_238 rfl ?_
      exact Goes.more (le rfl) (le rfl) (Goes.less (F' := []) nof0 (tail _ _ _ _ _ _ _ _ _ _ S9 (Or.inr ⟨rfl, by intro z; exact e1 (z u1 (by simp))⟩)))
    refine C.if_eq dL_203 (fun z => absurd z (by decide)) (fun _ => ?_)
    refine C.iload dL_206 rfl ?_
    refine C.iconst (3) dL_208 rfl ?_
    refine C.icmp_lt dL_209 (fun q => absurd q (by decide)) (fun _ => ?_)
    refine C.iload dL_212 rfl ?_
    refine C.s1R dL_214 tw53 tw54 tw3 tw55 (by decide) (by decide +kernel) rfl nof (P_ws B) (le rfl) (le rfl) (le rfl) (le rfl) ?_
    rintro w2 _ ⟨hw2, rfl⟩
    rcases hw2 with ⟨rfl, e2⟩ | ⟨rfl, e2⟩
    rotate_left
    · refine C.if_eq dL_217 (fun _ => ?_) (fun z => absurd rfl z)
      refine C.iconst (0) dL_238 rfl ?_
      exact Goes.more (le rfl) (le rfl) (Goes.less (F' := []) nof0 (tail _ _ _ _ _ _ _ _ _ _ S9 (Or.inr ⟨rfl, by intro z; exact e2 (z u2 (by simp))⟩)))
    refine C.if_eq dL_217 (fun z => absurd z (by decide)) (fun _ => ?_)
    refine C.iload dL_220 rfl ?_
    refine C.iconst (4) dL_222 rfl ?_
    refine C.icmp_lt dL_223 (fun q => absurd q (by decide)) (fun _ => ?_)
    refine C.iload dL_226 rfl ?_
    refine C.s1R dL_228 tw53 tw54 tw3 tw55 (by decide) (by decide +kernel) rfl nof (P_ws B) (le rfl) (le rfl) (le rfl) (le rfl) ?_
    rintro w3 _ ⟨hw3, rfl⟩
    rcases hw3 with ⟨rfl, e3⟩ | ⟨rfl, e3⟩
    rotate_left
    · refine C.if_eq dL_231 (fun _ => ?_) (fun z => absurd rfl z)
      refine C.iconst (0) dL_238 rfl ?_
      exact Goes.more (le rfl) (le rfl) (Goes.less (F' := []) nof0 (tail _ _ _ _ _ _ _ _ _ _ S9 (Or.inr ⟨rfl, by intro z; exact e3 (z u3 (by simp))⟩)))
    refine C.if_eq dL_231 (fun z => absurd z (by decide)) (fun _ => ?_)
    refine C.iconst (1) dL_234 rfl ?_
    refine C.goto dL_235 ?_
    exact Goes.more (le rfl) (le rfl) (Goes.less (F' := []) nof0 (tail _ _ _ _ _ _ _ _ _ _ S9 (Or.inl ⟨rfl, by intro c hc; simp at hc; rcases hc with rfl | rfl | rfl | rfl; exact e0; exact e1; exact e2; exact e3⟩)))

theorem comes_1 {Post : Tables → Env → Array Value → State → Outcome → State → Prop} (hpost : ∀ tb e args s v u, (limb_1_1.after args s (.returned v) u = true ∧ limb_1_2.after args s (.returned v) u = true) → Jvm.D.FramedW s (.returned v) u (Jvm.fieldLocs frame_1_writes args s ++ Jvm.arrayLocs frame_1_arrays args s ++ Jvm.staticLocs frame_1_statics s) 24 1152 → Post tb e args s (.returned v) u) :
    ArmFor flags0 classFile x code maxLocals ret World_1 tables_1 room_1 Calls_1 rest_1 Pre_1 Post := by
  intro l hfl _ _ p e ha hc hk s m args below hf hA hF happ hP
  obtain ⟨hcalls, hrest, hpre⟩ := hP
  obtain ⟨-, -, -, hnamed, -, -, -, hat⟩ := (Spec.applies_iff hf).mp happ
  obtain ⟨hg0, hn⟩ := and_e (Cond.before_iff.mp (show (Jvm.Cond.and given_1 narrow_1).before args s = true from hpre))
  obtain ⟨hc0, hg1⟩ := and_e hg0
  obtain ⟨hc1, hg2⟩ := and_e hg1
  obtain ⟨hc2, hg3⟩ := and_e hg2
  obtain ⟨hc3, hg4⟩ := and_e hg3
  obtain ⟨hc4, hg5⟩ := and_e hg4
  obtain ⟨w0, w1, w2, w3, w4, rfl⟩ : ∃ w0 w1 w2 w3 w4 : Value, args = #[w0, w1, w2, w3, w4] := by
    have hs : args.size = 5 := by simpa [Cond.value, given_1] using hc0
    obtain ⟨L⟩ := args
    match L, hs with
    | [w0, w1, w2, w3, w4], _ => exact ⟨w0, w1, w2, w3, w4, rfl⟩
  have hw := fun d (hd : d ∈ tables_1) => atoms_spec (ws := Jvm.Cond.code x code maxLocals ret :: tables_1) hat d (List.mem_cons_of_mem _ hd)
  obtain ⟨hsets, hown0⟩ := atoms_of _ (rest_1_c_eq ▸ (show rest_1_c.before _ s = true from hrest))
  have hfit : Fit s := fun {y c} hc i hi => by
    obtain ⟨ha, rfl⟩ := Array.getElem?_eq_some_iff.mp hc
    have q := List.all_eq_true.mp ((Array.all_eq_true_iff_forall_mem.mp hF) _ (Array.getElem_mem ha)) i (List.mem_range.mpr hi)
    simpa [Array.getElem?_eq_getElem hi] using q
  obtain ⟨x0, ex0⟩ := is_v hc1
  obtain rfl : w0 = (.int x0) := Option.some.inj ex0
  obtain ⟨x1, ex1⟩ := is_v hc2
  obtain rfl : w1 = (.int x1) := Option.some.inj ex1
  obtain ⟨x2, ex2⟩ := is_v hc3
  obtain rfl : w2 = (.int x2) := Option.some.inj ex2
  obtain ⟨x3, ex3⟩ := is_v hc4
  obtain rfl : w3 = (.int x3) := Option.some.inj ex3
  obtain ⟨x4, ex4⟩ := is_v hg5
  obtain rfl : w4 = (.int x4) := Option.some.inj ex4
  obtain ⟨cz, ecz⟩ := is_v (Cond.before_iff.mp (hsets _ (List.mem_of_getElem? (i := 1) rfl)))
  have Scs : Sta s s.heap ST "COMPACT_STRINGS" "Z" (.int cz) := Sta.start ecz (Or.inl (hsets _ (List.mem_of_getElem? (i := 0) rfl)))
  have ncz : ¬ cz = 0 := gotF (Cond.eq_ints ecz (Term.int_eval (0))) (not_v (Cond.before_iff.mp (hsets _ (List.mem_of_getElem? (i := 2) rfl))))
  obtain ⟨sf, esf, rsf⟩ := isR_v (Cond.before_iff.mp (hsets _ (List.mem_of_getElem? (i := 8) rfl)))
  have Ssf : Sta s s.heap "jdk/internal/util/Preconditions" "SIOOBE_FORMATTER" "Ljava/util/function/BiFunction;" sf := Sta.start esf (Or.inl (hsets _ (List.mem_of_getElem? (i := 7) rfl)))
  have UassertionsDisabled : Sta s s.heap "java/lang/StringUTF16" "$assertionsDisabled" "Z" (.int 1) := Sta.start (eq_stat (Cond.before_iff.mp (hsets _ (List.mem_of_getElem? (i := 12) rfl)))) (Or.inl (hsets _ (List.mem_of_getElem? (i := 11) rfl)))
  have UHI_BYTE_SHIFT : Sta s s.heap "java/lang/StringUTF16" "HI_BYTE_SHIFT" "I" (.int 0) := Sta.start (eq_stat (Cond.before_iff.mp (hsets _ (List.mem_of_getElem? (i := 15) rfl)))) (Or.inl (hsets _ (List.mem_of_getElem? (i := 14) rfl)))
  have ULO_BYTE_SHIFT : Sta s s.heap "java/lang/StringUTF16" "LO_BYTE_SHIFT" "I" (.int 8) := Sta.start (eq_stat (Cond.before_iff.mp (hsets _ (List.mem_of_getElem? (i := 18) rfl)))) (Or.inl (hsets _ (List.mem_of_getElem? (i := 17) rfl)))
  have hEW : EW s #[.int x0, .int x1, .int x2, .int x3, .int x4] consts_1 := (EW.cons (hw _ tw20) (by decide) EW.nil)
  have hCH : CHv s consts_1 s.vm s.heap := CHv.start hEW (fun p hp => hcalls.1 p hp) (hsets _ (List.mem_of_getElem? (i := 2) rfl)) (hw _ tw21) (hw _ tw7)
  have B : Base s #[.int x0, .int x1, .int x2, .int x3, .int x4] consts_1 := ⟨hw, hEW, ⟨cz, Scs, ncz⟩, ⟨sf, Ssf, rsf⟩, ⟨UassertionsDisabled, UHI_BYTE_SHIFT, ULO_BYTE_SHIFT⟩⟩
  obtain ⟨n, o, q1, q2, q3, v, L, rfl, ⟨v, rfl, rfl⟩, N, hCR, hWH, -, hq⟩ := P_law (l := l) B tables_1 p e ha hc hk s m _ below hf ((Spec.applies_iff_loose hf).mp happ).1 ⟨rfl, State.Warmed39.refl s, rfl, hCH, fun _ q => (nomatch q), ext_refl _⟩ trivial
  exact ⟨n, _, q1, q2, q3, hpost _ _ _ _ _ _ ⟨Cond.after_iff.mpr rfl, Cond.after_iff.mpr (eq_i res_at (Term.int_eval (1)) rfl)⟩ ⟨hq.1, hq.2.1, hq.2.2.1, ((hq.2.2.2.sift fun y hy => Or.inr (N y hy)).mono (le rfl : room_1.cells ≤ 24) (le rfl : room_1.slots ≤ 1152))⟩⟩
theorem main_1_1 : Claimed_1_1 := comes_1 fun _ _ _ _ _ _ h hF => ⟨h.1, hF⟩
theorem main_1_2 : Claimed_1_2 := comes_1 fun _ _ _ _ _ _ h hF => ⟨h.2, hF⟩
end
end Jvm.Pilot.@@N@@
namespace Jvm.Pilot.@@N@@
open Jvm Jvm.ClassFile Sem Op Lib Jvm.Free Jvm.Stand Jvm.Pilot.@@N@@.Jvm.D
/-! MADE BY PROGRAM (witnessworld.py) out of the Statement's table words and the real class files: 20 classes; the members and pool entries that the words name. The judged class is class 1, her method 3. -/
namespace start1
open Jvm.ClassFile
def u (s : String) : CpInfo := .utf8 (stringToUtf16 s)
/-- a pool by its gaps: so many unusable entries, then the entry; so many at the end -/
def gap : Nat → List CpInfo → List CpInfo
  | 0, r => r
  | n + 1, r => .unusable :: gap n r
def poolList (es : List (Nat × CpInfo)) (last : Nat) : List CpInfo := es.foldr (fun e r => gap e.1 (e.2 :: r)) (gap last [])
def pool (es : List (Nat × CpInfo)) (last : Nat) : Array CpInfo := ⟨poolList es last⟩
def fileOf (pool : Array CpInfo) (this : Nat) (attrs : Array Attribute := #[]) (ms : Array MethodInfo := #[]) (fl : Nat := 33) (sup : Nat := 0) (ifs : Array Nat := #[]) (fds : Array FieldInfo := #[]) : ClassFile where
  minorVersion := 0
  majorVersion := 65
  constantPool := pool
  accessFlags := fl
  thisClass := this
  superClass := sup
  interfaces := ifs
  fields := fds
  methods := ms
  attributes := attrs
def plain (name : String) (sup : Option ClassId) : Class where
  name := name
  kind := .ordinary
  loader := none
  accessFlags := 33
  super := sup
  interfaces := #[]
  cf := none
  fields := #[]
  methods := #[]
  instanceTypes := #[]
  staticTypes := #[]
  resolved := #[]
  callSites := []
  init := .initialized
  statics := none
  mirror := none

def pool0 : Array CpInfo := pool [(5, u "<init>"), (0, u "()V"), (1, .class_ 10), (1, u "java/lang/Object")] 113

def k0c0 : Code := { maxStack := 0, maxLocals := 1, code := object_method_1_code, exceptionTable := #[], attributes := #[] }
def k0m0 : Method := { name := "<init>", desc := "()V", sig := { parameters := [], returnType := none }, accessFlags := 1, code := some k0c0 }
/-- java/lang/Object -/
def k0 : Class := { plain "java/lang/Object" none with
  accessFlags := 33
  interfaces := #[]
  cf := some (fileOf pool0 8 #[] #[{ accessFlags := 1, nameIndex := 5, descriptorIndex := 6, attributes := #[] }] 33 0 #[] #[])
  fields := #[]
  methods := #[k0m0]
  instanceTypes := #[]
  staticTypes := #[]
  resolved := Array.replicate 124 none
  statics := none }

def pool1 : Array CpInfo := pool [(2, .class_ 4), (1, u "java/lang/Object"), (0, u "<init>"), (0, u "()V"), (0, .integer 65535), (0, .integer 2147483647), (0, .methodref 10 11), (0, .class_ 12), (0, .nameAndType 13 14), (0, u "no/nordsegl/internal/xml/DomIsXmlWhitespacePinLaw"), (0, u "pick"), (0, u "(I)C"), (0, .class_ 16), (0, u "java/lang/String"), (0, .methodref 15 18), (0, .nameAndType 5 19), (0, u "([C)V"), (0, .methodref 10 21), (0, .nameAndType 22 23), (0, u "ws"), (0, u "(C)Z"), (0, .methodref 25 26), (0, .class_ 27), (0, .nameAndType 28 29), (0, u "no/nordsegl/internal/xml/Dom"), (0, u "isXmlWhitespace"), (0, u "(Ljava/lang/String;)Z"), (3, u "law"), (0, u "(IIIII)Z")] 2

def k1m0 : Method := { name := "<init>", desc := "()V", sig := { parameters := [], returnType := none }, accessFlags := 2, code := none }
def k1c1 : Code := { maxStack := 2, maxLocals := 2, code := method_2_code, exceptionTable := #[], attributes := #[] }
def k1m1 : Method := { name := "pick", desc := "(I)C", sig := { parameters := [.int], returnType := some .char }, accessFlags := 10, code := some k1c1 }
def k1c2 : Code := { maxStack := 2, maxLocals := 1, code := method_3_code, exceptionTable := #[], attributes := #[] }
def k1m2 : Method := { name := "ws", desc := "(C)Z", sig := { parameters := [.char], returnType := some .boolean }, accessFlags := 10, code := some k1c2 }
def k1c3 : Code := { maxStack := 6, maxLocals := 12, code := code, exceptionTable := #[], attributes := #[] }
def k1m3 : Method := { name := "law", desc := "(IIIII)Z", sig := { parameters := [.int, .int, .int, .int, .int], returnType := some .boolean }, accessFlags := 9, code := some k1c3 }
/-- no/nordsegl/internal/xml/DomIsXmlWhitespacePinLaw -/
def k1 : Class := { plain "no/nordsegl/internal/xml/DomIsXmlWhitespacePinLaw" (some 0) with
  accessFlags := 49
  interfaces := #[]
  cf := some (fileOf pool1 10 #[] #[{ accessFlags := 2, nameIndex := 5, descriptorIndex := 6, attributes := #[] }, { accessFlags := 10, nameIndex := 13, descriptorIndex := 14, attributes := #[] }, { accessFlags := 10, nameIndex := 22, descriptorIndex := 23, attributes := #[] }, { accessFlags := 9, nameIndex := 33, descriptorIndex := 34, attributes := #[] }] 49 2 #[] #[])
  fields := #[]
  methods := #[k1m0, k1m1, k1m2, k1m3]
  instanceTypes := #[]
  staticTypes := #[]
  resolved := Array.replicate 37 none
  statics := none }

def pool2 : Array CpInfo := pool [(1, .class_ 2), (0, u "java/io/Serializable"), (0, .class_ 4), (0, u "java/lang/Object")] 2

/-- java/io/Serializable -/
def k2 : Class := { plain "java/io/Serializable" (some 0) with
  accessFlags := 1537
  interfaces := #[]
  cf := some (fileOf pool2 1 #[] #[] 1537 3 #[] #[])
  fields := #[]
  methods := #[]
  instanceTypes := #[]
  staticTypes := #[]
  resolved := Array.replicate 7 none
  statics := none }

def pool3 : Array CpInfo := pool [(1, .class_ 2), (0, u "java/lang/Comparable"), (0, .class_ 4), (0, u "java/lang/Object")] 7

/-- java/lang/Comparable -/
def k3 : Class := { plain "java/lang/Comparable" (some 0) with
  accessFlags := 1537
  interfaces := #[]
  cf := some (fileOf pool3 1 #[] #[] 1537 3 #[] #[])
  fields := #[]
  methods := #[]
  instanceTypes := #[]
  staticTypes := #[]
  resolved := Array.replicate 12 none
  statics := none }

def pool4 : Array CpInfo := pool [(2, .class_ 4), (1, u "java/lang/CharSequence"), (42, .class_ 48), (0, u "java/lang/CharSequence$1CodePointIterator"), (10, .class_ 60), (0, u "java/lang/CharSequence$1CharIterator"), (5, .class_ 67), (0, u "java/lang/Object")] 63

/-- java/lang/CharSequence -/
def k4 : Class := { plain "java/lang/CharSequence" (some 0) with
  accessFlags := 1537
  interfaces := #[]
  cf := some (fileOf pool4 2 #[.nestMembers #[47, 59]] #[] 1537 66 #[] #[])
  fields := #[]
  methods := #[]
  instanceTypes := #[]
  staticTypes := #[]
  resolved := Array.replicate 131 none
  statics := none }

def pool5 : Array CpInfo := pool [(1, .class_ 2), (0, u "java/lang/constant/Constable"), (0, .class_ 4), (0, u "java/lang/Object")] 6

/-- java/lang/constant/Constable -/
def k5 : Class := { plain "java/lang/constant/Constable" (some 0) with
  accessFlags := 1537
  interfaces := #[]
  cf := some (fileOf pool5 1 #[] #[] 1537 3 #[] #[])
  fields := #[]
  methods := #[]
  instanceTypes := #[]
  staticTypes := #[]
  resolved := Array.replicate 11 none
  statics := none }

def pool6 : Array CpInfo := pool [(1, .class_ 2), (0, u "java/lang/constant/ConstantDesc"), (0, .class_ 4), (0, u "java/lang/Object")] 32

/-- java/lang/constant/ConstantDesc -/
def k6 : Class := { plain "java/lang/constant/ConstantDesc" (some 0) with
  accessFlags := 1537
  interfaces := #[]
  cf := some (fileOf pool6 1 #[] #[] 1537 3 #[] #[])
  fields := #[]
  methods := #[]
  instanceTypes := #[]
  staticTypes := #[]
  resolved := Array.replicate 37 none
  statics := none }

def pool7 : Array CpInfo := pool [(1, .methodref 2 3), (0, .class_ 4), (0, .nameAndType 5 6), (0, u "java/lang/Object"), (0, u "<init>"), (0, u "()V"), (0, .string 8), (0, u ""), (0, .fieldref 10 11), (0, .class_ 12), (0, .nameAndType 13 14), (0, u "java/lang/String"), (0, u "value"), (0, u "[B"), (0, .fieldref 10 16), (0, .nameAndType 17 18), (0, u "coder"), (0, u "B"), (2, u "hash"), (0, u "I"), (2, u "hashIsZero"), (0, u "Z"), (0, .methodref 10 28), (0, .nameAndType 5 29), (0, u "([CIILjava/lang/Void;)V"), (8, .fieldref 10 39), (0, .nameAndType 40 26), (0, u "COMPACT_STRINGS"), (1, .class_ 44), (1, u "java/lang/StringUTF16"), (0, u "compress"), (1, .methodref 42 48), (0, .nameAndType 49 50), (0, u "coderFromArrayLen"), (0, u "([BI)B"), (56, .class_ 109), (1, u "java/lang/StringLatin1"), (32, u "()Z"), (34, .methodref 42 178), (0, .nameAndType 45 179), (0, u "([CII)[B"), (154, u "()I"), (0, .methodref 10 336), (0, .nameAndType 17 337), (0, u "()B"), (25, u "([BI)C"), (27, u "(II)V"), (35, u "(I)C"), (64, .methodref 10 493), (0, .nameAndType 494 142), (0, u "isLatin1"), (0, .methodref 107 496), (0, .nameAndType 497 363), (0, u "charAt"), (0, .methodref 42 496), (2, u "checkIndex"), (5, u "length"), (67, .class_ 576), (0, u "java/lang/CharSequence"), (22, u "CASE_INSENSITIVE_ORDER"), (0, u "Ljava/util/Comparator;"), (409, u "([C)V"), (42, .fieldref 1054 1055), (0, .class_ 1056), (0, .nameAndType 1057 1058), (0, u "jdk/internal/util/Preconditions"), (0, u "SIOOBE_FORMATTER"), (0, u "Ljava/util/function/BiFunction;"), (0, .methodref 1054 1060), (0, .nameAndType 501 1061), (0, u "(IILjava/util/function/BiFunction;)I"), (39, u "serialPersistentFields"), (0, u "[Ljava/io/ObjectStreamField;"), (0, .class_ 1104), (0, u "java/lang/String$CaseInsensitiveComparator"), (1, .class_ 1107), (0, u "java/io/Serializable"), (0, .class_ 1109), (0, u "java/lang/Comparable"), (0, .class_ 1111), (0, u "java/lang/constant/Constable"), (0, .class_ 1113), (0, u "java/lang/constant/ConstantDesc"), (2, u "serialVersionUID"), (0, u "J"), (3, u "REPL"), (0, u "C"), (2, u "LATIN1"), (1, u "UTF16")] 323

def k7m0 : Method := { name := "<init>", desc := "()V", sig := { parameters := [], returnType := none }, accessFlags := 1, code := none }
def k7c1 : Code := { maxStack := 5, maxLocals := 2, code := jdk_42_method_3_code, exceptionTable := #[], attributes := #[] }
def k7m1 : Method := { name := "<init>", desc := "([C)V", sig := { parameters := [(.array .char)], returnType := none }, accessFlags := 1, code := some k7c1 }
def k7c2 : Code := { maxStack := 2, maxLocals := 1, code := jdk_42_method_54_code, exceptionTable := #[], attributes := #[] }
def k7m2 : Method := { name := "length", desc := "()I", sig := { parameters := [], returnType := some .int }, accessFlags := 1, code := some k7c2 }
def k7c3 : Code := { maxStack := 2, maxLocals := 2, code := jdk_42_method_56_code, exceptionTable := #[], attributes := #[] }
def k7m3 : Method := { name := "charAt", desc := "(I)C", sig := { parameters := [.int], returnType := some .char }, accessFlags := 1, code := some k7c3 }
def k7c4 : Code := { maxStack := 4, maxLocals := 6, code := jdk_42_method_149_code, exceptionTable := #[], attributes := #[] }
def k7m4 : Method := { name := "<init>", desc := "([CIILjava/lang/Void;)V", sig := { parameters := [(.array .char), .int, .int, (.object "java/lang/Void")], returnType := none }, accessFlags := 2, code := some k7c4 }
def k7c5 : Code := { maxStack := 1, maxLocals := 1, code := jdk_42_method_152_code, exceptionTable := #[], attributes := #[] }
def k7m5 : Method := { name := "coder", desc := "()B", sig := { parameters := [], returnType := some .byte }, accessFlags := 0, code := some k7c5 }
def k7c6 : Code := { maxStack := 1, maxLocals := 1, code := jdk_42_method_154_code, exceptionTable := #[], attributes := #[] }
def k7m6 : Method := { name := "isLatin1", desc := "()Z", sig := { parameters := [], returnType := some .boolean }, accessFlags := 0, code := some k7c6 }
def k7c7 : Code := { maxStack := 3, maxLocals := 2, code := jdk_42_method_155_code, exceptionTable := #[], attributes := #[] }
def k7m7 : Method := { name := "checkIndex", desc := "(II)V", sig := { parameters := [.int, .int], returnType := none }, accessFlags := 8, code := some k7c7 }
/-- java/lang/String -/
def k7 : Class := { plain "java/lang/String" (some 0) with
  accessFlags := 49
  interfaces := #[2, 3, 4, 5, 6]
  cf := some (fileOf pool7 10 #[.nestMembers #[1103]] #[{ accessFlags := 1, nameIndex := 5, descriptorIndex := 6, attributes := #[] }, { accessFlags := 1, nameIndex := 5, descriptorIndex := 1010, attributes := #[] }, { accessFlags := 1, nameIndex := 507, descriptorIndex := 334, attributes := #[] }, { accessFlags := 1, nameIndex := 497, descriptorIndex := 427, attributes := #[] }, { accessFlags := 2, nameIndex := 5, descriptorIndex := 29, attributes := #[] }, { accessFlags := 0, nameIndex := 17, descriptorIndex := 337, attributes := #[] }, { accessFlags := 0, nameIndex := 494, descriptorIndex := 142, attributes := #[] }, { accessFlags := 8, nameIndex := 501, descriptorIndex := 391, attributes := #[] }] 49 2 #[1106, 1108, 575, 1110, 1112] #[{ accessFlags := 18, nameIndex := 13, descriptorIndex := 14, attributes := #[] }, { accessFlags := 18, nameIndex := 17, descriptorIndex := 18, attributes := #[] }, { accessFlags := 2, nameIndex := 21, descriptorIndex := 22, attributes := #[] }, { accessFlags := 2, nameIndex := 25, descriptorIndex := 26, attributes := #[] }, { accessFlags := 26, nameIndex := 1116, descriptorIndex := 1117, attributes := #[] }, { accessFlags := 24, nameIndex := 40, descriptorIndex := 26, attributes := #[] }, { accessFlags := 26, nameIndex := 1101, descriptorIndex := 1102, attributes := #[] }, { accessFlags := 26, nameIndex := 1121, descriptorIndex := 1122, attributes := #[] }, { accessFlags := 25, nameIndex := 599, descriptorIndex := 600, attributes := #[] }, { accessFlags := 24, nameIndex := 1125, descriptorIndex := 18, attributes := #[] }, { accessFlags := 24, nameIndex := 1127, descriptorIndex := 18, attributes := #[] }])
  fields := #[{ name := "value", type := (.array .byte), accessFlags := 18, slot := 0, constantValue := 0 }, { name := "coder", type := .byte, accessFlags := 18, slot := 1, constantValue := 0 }, { name := "hash", type := .int, accessFlags := 2, slot := 2, constantValue := 0 }, { name := "hashIsZero", type := .boolean, accessFlags := 2, slot := 3, constantValue := 0 }, { name := "serialVersionUID", type := .long, accessFlags := 26, slot := 0, constantValue := 0 }, { name := "COMPACT_STRINGS", type := .boolean, accessFlags := 24, slot := 1, constantValue := 0 }, { name := "serialPersistentFields", type := (.array (.object "java/io/ObjectStreamField")), accessFlags := 26, slot := 2, constantValue := 0 }, { name := "REPL", type := .char, accessFlags := 26, slot := 3, constantValue := 0 }, { name := "CASE_INSENSITIVE_ORDER", type := (.object "java/util/Comparator"), accessFlags := 25, slot := 4, constantValue := 0 }, { name := "LATIN1", type := .byte, accessFlags := 24, slot := 5, constantValue := 0 }, { name := "UTF16", type := .byte, accessFlags := 24, slot := 6, constantValue := 0 }]
  methods := #[k7m0, k7m1, k7m2, k7m3, k7m4, k7m5, k7m6, k7m7]
  instanceTypes := #[(.array .byte), .byte, .int, .boolean]
  staticTypes := #[.long, .boolean, (.array (.object "java/io/ObjectStreamField")), .char, (.object "java/util/Comparator"), .byte, .byte]
  resolved := Array.replicate 1451 none
  statics := some 0 }

def pool8 : Array CpInfo := pool [(2, .class_ 4), (1, u "java/lang/Object"), (0, u "<init>"), (0, u "()V"), (1, .class_ 10), (1, u "no/nordsegl/internal/xml/Dom"), (50, .class_ 63), (1, u "java/lang/String"), (27, u "NO_ATTRIBUTES"), (0, u "Lorg/w3c/dom/NamedNodeMap;"), (17, .methodref 61 111), (0, .nameAndType 112 113), (0, u "length"), (0, u "()I"), (0, .methodref 61 115), (0, .nameAndType 116 117), (0, u "charAt"), (0, u "(I)C"), (0, .methodref 8 119), (0, .nameAndType 120 121), (0, u "isXmlWhitespace"), (0, u "(C)Z"), (4, .class_ 127), (0, u "no/nordsegl/internal/xml/Dom$NoAttributes"), (18, u "(Ljava/lang/String;)Z")] 8

def k8m0 : Method := { name := "<init>", desc := "()V", sig := { parameters := [], returnType := none }, accessFlags := 2, code := none }
def k8c1 : Code := { maxStack := 2, maxLocals := 2, code := prog_29_method_13_code, exceptionTable := #[], attributes := #[] }
def k8m1 : Method := { name := "isXmlWhitespace", desc := "(Ljava/lang/String;)Z", sig := { parameters := [(.object "java/lang/String")], returnType := some .boolean }, accessFlags := 9, code := some k8c1 }
def k8c2 : Code := { maxStack := 2, maxLocals := 1, code := prog_29_method_15_code, exceptionTable := #[], attributes := #[] }
def k8m2 : Method := { name := "isXmlWhitespace", desc := "(C)Z", sig := { parameters := [.char], returnType := some .boolean }, accessFlags := 9, code := some k8c2 }
/-- no/nordsegl/internal/xml/Dom -/
def k8 : Class := { plain "no/nordsegl/internal/xml/Dom" (some 0) with
  accessFlags := 49
  interfaces := #[]
  cf := some (fileOf pool8 8 #[.nestMembers #[126]] #[{ accessFlags := 2, nameIndex := 5, descriptorIndex := 6, attributes := #[] }, { accessFlags := 9, nameIndex := 120, descriptorIndex := 146, attributes := #[] }, { accessFlags := 9, nameIndex := 120, descriptorIndex := 121, attributes := #[] }] 49 2 #[] #[{ accessFlags := 26, nameIndex := 91, descriptorIndex := 92, attributes := #[] }])
  fields := #[{ name := "NO_ATTRIBUTES", type := (.object "org/w3c/dom/NamedNodeMap"), accessFlags := 26, slot := 0, constantValue := 0 }]
  methods := #[k8m0, k8m1, k8m2]
  instanceTypes := #[]
  staticTypes := #[(.object "org/w3c/dom/NamedNodeMap")]
  resolved := Array.replicate 155 none
  statics := none }

def pool9 : Array CpInfo := pool [(3, .class_ 4), (0, u "java/lang/String"), (1, .class_ 8), (1, u "java/lang/Object"), (0, u "<init>"), (0, u "()V"), (0, .methodref 12 13), (0, .class_ 14), (0, .nameAndType 15 16), (0, u "java/lang/StringUTF16"), (0, u "newBytesLength"), (0, u "(I)I"), (3, .integer 1073741823), (23, .fieldref 12 45), (0, .nameAndType 46 47), (0, u "$assertionsDisabled"), (0, u "Z"), (0, .methodref 12 49), (0, .nameAndType 50 51), (0, u "length"), (0, u "([B)I"), (7, .fieldref 12 60), (0, .nameAndType 61 62), (0, u "HI_BYTE_SHIFT"), (0, u "I"), (0, .fieldref 12 64), (0, .nameAndType 65 62), (0, u "LO_BYTE_SHIFT"), (1, .methodref 12 68), (0, .nameAndType 69 70), (0, u "checkIndex"), (0, u "(I[B)V"), (0, .methodref 12 72), (0, .nameAndType 73 74), (0, u "getChar"), (0, u "([BI)C"), (32, .methodref 12 108), (0, .nameAndType 109 110), (0, u "newBytesFor"), (0, u "(I)[B"), (0, .methodref 12 112), (0, .nameAndType 113 114), (0, u "putChar"), (0, u "([BII)V"), (0, .methodref 12 116), (0, .nameAndType 117 118), (0, u "compress"), (0, u "([CI[BII)I"), (0, .methodref 12 120), (0, .nameAndType 121 122), (0, u "toBytes"), (0, u "([CII)[B"), (138, u "coderFromArrayLen"), (0, u "([BI)B"), (106, .class_ 371), (1, u "java/lang/StringUTF16$LinesSpliterator"), (20, u "charAt"), (21, .methodref 3 415), (0, .nameAndType 69 416), (0, u "(II)V"), (13, u "MAX_LENGTH"), (196, .class_ 628), (0, u "java/lang/StringUTF16$CodePointsSpliterator"), (0, .class_ 630), (0, u "java/lang/StringUTF16$CharsSpliterator")] 4

def k9m0 : Method := { name := "<init>", desc := "()V", sig := { parameters := [], returnType := none }, accessFlags := 0, code := none }
def k9c1 : Code := { maxStack := 1, maxLocals := 1, code := jdk_52_method_2_code, exceptionTable := #[], attributes := #[] }
def k9m1 : Method := { name := "newBytesFor", desc := "(I)[B", sig := { parameters := [.int], returnType := some (.array .byte) }, accessFlags := 9, code := some k9c1 }
def k9c2 : Code := { maxStack := 4, maxLocals := 1, code := jdk_52_method_3_code, exceptionTable := #[], attributes := #[] }
def k9m2 : Method := { name := "newBytesLength", desc := "(I)I", sig := { parameters := [.int], returnType := some .int }, accessFlags := 9, code := some k9c2 }
def k9c3 : Code := { maxStack := 4, maxLocals := 3, code := jdk_52_method_4_code, exceptionTable := #[], attributes := #[] }
def k9m3 : Method := { name := "putChar", desc := "([BII)V", sig := { parameters := [(.array .byte), .int, .int], returnType := none }, accessFlags := 8, code := some k9c3 }
def k9c4 : Code := { maxStack := 3, maxLocals := 2, code := jdk_52_method_5_code, exceptionTable := #[], attributes := #[] }
def k9m4 : Method := { name := "getChar", desc := "([BI)C", sig := { parameters := [(.array .byte), .int], returnType := some .char }, accessFlags := 8, code := some k9c4 }
def k9c5 : Code := { maxStack := 2, maxLocals := 1, code := jdk_52_method_6_code, exceptionTable := #[], attributes := #[] }
def k9m5 : Method := { name := "length", desc := "([B)I", sig := { parameters := [(.array .byte)], returnType := some .int }, accessFlags := 9, code := some k9c5 }
def k9c6 : Code := { maxStack := 4, maxLocals := 5, code := jdk_52_method_14_code, exceptionTable := #[], attributes := #[] }
def k9m6 : Method := { name := "toBytes", desc := "([CII)[B", sig := { parameters := [(.array .char), .int, .int], returnType := some (.array .byte) }, accessFlags := 9, code := some k9c6 }
def k9c7 : Code := { maxStack := 2, maxLocals := 2, code := jdk_52_method_15_code, exceptionTable := #[], attributes := #[] }
def k9m7 : Method := { name := "coderFromArrayLen", desc := "([BI)B", sig := { parameters := [(.array .byte), .int], returnType := some .byte }, accessFlags := 8, code := some k9c7 }
def k9c8 : Code := { maxStack := 5, maxLocals := 6, code := jdk_52_method_16_code, exceptionTable := #[], attributes := #[] }
def k9m8 : Method := { name := "compress", desc := "([CII)[B", sig := { parameters := [(.array .char), .int, .int], returnType := some (.array .byte) }, accessFlags := 9, code := some k9c8 }
def k9c9 : Code := { maxStack := 3, maxLocals := 7, code := jdk_52_method_21_code, exceptionTable := #[], attributes := #[] }
def k9m9 : Method := { name := "compress", desc := "([CI[BII)I", sig := { parameters := [(.array .char), .int, (.array .byte), .int, .int], returnType := some .int }, accessFlags := 9, code := some k9c9 }
def k9c10 : Code := { maxStack := 2, maxLocals := 2, code := jdk_52_method_83_code, exceptionTable := #[], attributes := #[] }
def k9m10 : Method := { name := "charAt", desc := "([BI)C", sig := { parameters := [(.array .byte), .int], returnType := some .char }, accessFlags := 9, code := some k9c10 }
def k9c11 : Code := { maxStack := 2, maxLocals := 2, code := jdk_52_method_91_code, exceptionTable := #[], attributes := #[] }
def k9m11 : Method := { name := "checkIndex", desc := "(I[B)V", sig := { parameters := [.int, (.array .byte)], returnType := none }, accessFlags := 9, code := some k9c11 }
/-- java/lang/StringUTF16 -/
def k9 : Class := { plain "java/lang/StringUTF16" (some 0) with
  accessFlags := 48
  interfaces := #[]
  cf := some (fileOf pool9 12 #[.nestMembers #[627, 629, 369]] #[{ accessFlags := 0, nameIndex := 9, descriptorIndex := 10, attributes := #[] }, { accessFlags := 9, nameIndex := 109, descriptorIndex := 110, attributes := #[] }, { accessFlags := 9, nameIndex := 15, descriptorIndex := 16, attributes := #[] }, { accessFlags := 8, nameIndex := 113, descriptorIndex := 114, attributes := #[] }, { accessFlags := 8, nameIndex := 73, descriptorIndex := 74, attributes := #[] }, { accessFlags := 9, nameIndex := 50, descriptorIndex := 51, attributes := #[] }, { accessFlags := 9, nameIndex := 121, descriptorIndex := 122, attributes := #[] }, { accessFlags := 8, nameIndex := 261, descriptorIndex := 262, attributes := #[] }, { accessFlags := 9, nameIndex := 117, descriptorIndex := 122, attributes := #[] }, { accessFlags := 9, nameIndex := 117, descriptorIndex := 118, attributes := #[] }, { accessFlags := 9, nameIndex := 392, descriptorIndex := 74, attributes := #[] }, { accessFlags := 9, nameIndex := 69, descriptorIndex := 70, attributes := #[] }] 48 6 #[] #[{ accessFlags := 26, nameIndex := 61, descriptorIndex := 62, attributes := #[] }, { accessFlags := 26, nameIndex := 65, descriptorIndex := 62, attributes := #[] }, { accessFlags := 24, nameIndex := 430, descriptorIndex := 62, attributes := #[] }, { accessFlags := 4120, nameIndex := 46, descriptorIndex := 47, attributes := #[] }])
  fields := #[{ name := "HI_BYTE_SHIFT", type := .int, accessFlags := 26, slot := 0, constantValue := 0 }, { name := "LO_BYTE_SHIFT", type := .int, accessFlags := 26, slot := 1, constantValue := 0 }, { name := "MAX_LENGTH", type := .int, accessFlags := 24, slot := 2, constantValue := 0 }, { name := "$assertionsDisabled", type := .boolean, accessFlags := 4120, slot := 3, constantValue := 0 }]
  methods := #[k9m0, k9m1, k9m2, k9m3, k9m4, k9m5, k9m6, k9m7, k9m8, k9m9, k9m10, k9m11]
  instanceTypes := #[]
  staticTypes := #[.int, .int, .int, .boolean]
  resolved := Array.replicate 635 none
  statics := some 1 }

def pool10 : Array CpInfo := pool [(1, .class_ 2), (0, u "java/lang/String"), (1, .class_ 6), (1, u "java/lang/Object"), (0, u "<init>"), (0, u "()V"), (0, .methodref 1 10), (0, .nameAndType 11 12), (0, u "checkIndex"), (0, u "(II)V"), (1, .class_ 16), (1, u "java/lang/StringLatin1"), (36, u "([BI)C"), (67, u "$assertionsDisabled"), (0, u "Z"), (98, .class_ 223), (1, u "java/lang/StringLatin1$LinesSpliterator"), (28, u "charAt"), (137, .class_ 391), (0, u "java/lang/StringLatin1$CharsSpliterator")] 3

def k10m0 : Method := { name := "<init>", desc := "()V", sig := { parameters := [], returnType := none }, accessFlags := 0, code := none }
def k10c1 : Code := { maxStack := 2, maxLocals := 2, code := jdk_43_method_2_code, exceptionTable := #[], attributes := #[] }
def k10m1 : Method := { name := "charAt", desc := "([BI)C", sig := { parameters := [(.array .byte), .int], returnType := some .char }, accessFlags := 9, code := some k10c1 }
/-- java/lang/StringLatin1 -/
def k10 : Class := { plain "java/lang/StringLatin1" (some 0) with
  accessFlags := 48
  interfaces := #[]
  cf := some (fileOf pool10 14 #[.nestMembers #[390, 221]] #[{ accessFlags := 0, nameIndex := 7, descriptorIndex := 8, attributes := #[] }, { accessFlags := 9, nameIndex := 252, descriptorIndex := 53, attributes := #[] }] 48 4 #[] #[{ accessFlags := 4120, nameIndex := 121, descriptorIndex := 122, attributes := #[] }])
  fields := #[{ name := "$assertionsDisabled", type := .boolean, accessFlags := 4120, slot := 0, constantValue := 0 }]
  methods := #[k10m0, k10m1]
  instanceTypes := #[]
  staticTypes := #[.boolean]
  resolved := Array.replicate 395 none
  statics := none }

def pool11 : Array CpInfo := pool [(2, .class_ 4), (1, u "java/lang/Object"), (0, u "<init>"), (0, u "()V"), (17, .class_ 26), (1, u "jdk/internal/util/Preconditions"), (6, u "checkIndex"), (21, .class_ 56), (0, u "jdk/internal/util/Preconditions$4"), (57, .class_ 115), (0, u "jdk/internal/util/Preconditions$1"), (7, u "SIOOBE_FORMATTER"), (0, u "Ljava/util/function/BiFunction;"), (0, .class_ 126), (0, u "jdk/internal/util/Preconditions$2"), (3, u "AIOOBE_FORMATTER"), (0, .class_ 132), (0, u "jdk/internal/util/Preconditions$3"), (3, u "IOOBE_FORMATTER"), (41, u "(IILjava/util/function/BiFunction;)I")] 15

def k11m0 : Method := { name := "<init>", desc := "()V", sig := { parameters := [], returnType := none }, accessFlags := 1, code := none }
def k11c1 : Code := { maxStack := 3, maxLocals := 3, code := jdk_41_method_11_code, exceptionTable := #[], attributes := #[] }
def k11m1 : Method := { name := "checkIndex", desc := "(IILjava/util/function/BiFunction;)I", sig := { parameters := [.int, .int, (.object "java/util/function/BiFunction")], returnType := some .int }, accessFlags := 9, code := some k11c1 }
/-- jdk/internal/util/Preconditions -/
def k11 : Class := { plain "jdk/internal/util/Preconditions" (some 0) with
  accessFlags := 33
  interfaces := #[]
  cf := some (fileOf pool11 24 #[.nestMembers #[55, 131, 125, 114]] #[{ accessFlags := 1, nameIndex := 5, descriptorIndex := 6, attributes := #[] }, { accessFlags := 9, nameIndex := 33, descriptorIndex := 178, attributes := #[] }] 33 2 #[] #[{ accessFlags := 25, nameIndex := 123, descriptorIndex := 124, attributes := #[] }, { accessFlags := 25, nameIndex := 130, descriptorIndex := 124, attributes := #[] }, { accessFlags := 25, nameIndex := 136, descriptorIndex := 124, attributes := #[] }])
  fields := #[{ name := "SIOOBE_FORMATTER", type := (.object "java/util/function/BiFunction"), accessFlags := 25, slot := 0, constantValue := 0 }, { name := "AIOOBE_FORMATTER", type := (.object "java/util/function/BiFunction"), accessFlags := 25, slot := 1, constantValue := 0 }, { name := "IOOBE_FORMATTER", type := (.object "java/util/function/BiFunction"), accessFlags := 25, slot := 2, constantValue := 0 }]
  methods := #[k11m0, k11m1]
  instanceTypes := #[]
  staticTypes := #[(.object "java/util/function/BiFunction"), (.object "java/util/function/BiFunction"), (.object "java/util/function/BiFunction")]
  resolved := Array.replicate 194 none
  statics := some 2 }

def pool12 : Array CpInfo := pool [(9, u "<init>"), (6, .class_ 18), (1, u "java/lang/Object"), (0, u "()V"), (1, .class_ 23), (1, u "jdk/internal/util/ArraysSupport"), (0, u "LOG2_ARRAY_LONG_INDEX_SCALE"), (0, u "I"), (2, u "U"), (0, u "Ljdk/internal/misc/Unsafe;"), (8, u "BIG_ENDIAN"), (0, u "Z"), (8, u "LOG2_BYTE_BIT_SIZE"), (4, u "LOG2_ARRAY_INT_INDEX_SCALE"), (54, u "JLA"), (0, u "Ljdk/internal/access/JavaLangAccess;"), (11, u "LOG2_ARRAY_BOOLEAN_INDEX_SCALE"), (9, u "LOG2_ARRAY_BYTE_INDEX_SCALE"), (5, u "LOG2_ARRAY_CHAR_INDEX_SCALE"), (5, u "LOG2_ARRAY_SHORT_INDEX_SCALE"), (18, u "LOG2_ARRAY_FLOAT_INDEX_SCALE"), (24, u "LOG2_ARRAY_DOUBLE_INDEX_SCALE"), (89, u "T_BOOLEAN"), (2, u "T_CHAR"), (1, u "T_FLOAT"), (1, u "T_DOUBLE"), (1, u "T_BYTE"), (1, u "T_SHORT"), (1, u "T_INT"), (1, u "T_LONG"), (1, u "SOFT_MAX_ARRAY_LENGTH")] 83

def k12m0 : Method := { name := "<init>", desc := "()V", sig := { parameters := [], returnType := none }, accessFlags := 2, code := none }
/-- jdk/internal/util/ArraysSupport -/
def k12 : Class := { plain "jdk/internal/util/ArraysSupport" (some 0) with
  accessFlags := 33
  interfaces := #[]
  cf := some (fileOf pool12 21 #[] #[{ accessFlags := 2, nameIndex := 9, descriptorIndex := 19, attributes := #[] }] 33 16 #[] #[{ accessFlags := 24, nameIndex := 28, descriptorIndex := 29, attributes := #[] }, { accessFlags := 26, nameIndex := 38, descriptorIndex := 39, attributes := #[] }, { accessFlags := 25, nameIndex := 121, descriptorIndex := 25, attributes := #[] }, { accessFlags := 25, nameIndex := 131, descriptorIndex := 25, attributes := #[] }, { accessFlags := 25, nameIndex := 137, descriptorIndex := 25, attributes := #[] }, { accessFlags := 25, nameIndex := 143, descriptorIndex := 25, attributes := #[] }, { accessFlags := 25, nameIndex := 53, descriptorIndex := 25, attributes := #[] }, { accessFlags := 25, nameIndex := 24, descriptorIndex := 25, attributes := #[] }, { accessFlags := 25, nameIndex := 162, descriptorIndex := 25, attributes := #[] }, { accessFlags := 25, nameIndex := 187, descriptorIndex := 25, attributes := #[] }, { accessFlags := 26, nameIndex := 48, descriptorIndex := 25, attributes := #[] }, { accessFlags := 25, nameIndex := 277, descriptorIndex := 25, attributes := #[] }, { accessFlags := 25, nameIndex := 280, descriptorIndex := 25, attributes := #[] }, { accessFlags := 25, nameIndex := 282, descriptorIndex := 25, attributes := #[] }, { accessFlags := 25, nameIndex := 284, descriptorIndex := 25, attributes := #[] }, { accessFlags := 25, nameIndex := 286, descriptorIndex := 25, attributes := #[] }, { accessFlags := 25, nameIndex := 288, descriptorIndex := 25, attributes := #[] }, { accessFlags := 25, nameIndex := 290, descriptorIndex := 25, attributes := #[] }, { accessFlags := 25, nameIndex := 292, descriptorIndex := 25, attributes := #[] }, { accessFlags := 26, nameIndex := 108, descriptorIndex := 109, attributes := #[] }, { accessFlags := 25, nameIndex := 294, descriptorIndex := 25, attributes := #[] }])
  fields := #[{ name := "U", type := (.object "jdk/internal/misc/Unsafe"), accessFlags := 24, slot := 0, constantValue := 0 }, { name := "BIG_ENDIAN", type := .boolean, accessFlags := 26, slot := 1, constantValue := 0 }, { name := "LOG2_ARRAY_BOOLEAN_INDEX_SCALE", type := .int, accessFlags := 25, slot := 2, constantValue := 0 }, { name := "LOG2_ARRAY_BYTE_INDEX_SCALE", type := .int, accessFlags := 25, slot := 3, constantValue := 0 }, { name := "LOG2_ARRAY_CHAR_INDEX_SCALE", type := .int, accessFlags := 25, slot := 4, constantValue := 0 }, { name := "LOG2_ARRAY_SHORT_INDEX_SCALE", type := .int, accessFlags := 25, slot := 5, constantValue := 0 }, { name := "LOG2_ARRAY_INT_INDEX_SCALE", type := .int, accessFlags := 25, slot := 6, constantValue := 0 }, { name := "LOG2_ARRAY_LONG_INDEX_SCALE", type := .int, accessFlags := 25, slot := 7, constantValue := 0 }, { name := "LOG2_ARRAY_FLOAT_INDEX_SCALE", type := .int, accessFlags := 25, slot := 8, constantValue := 0 }, { name := "LOG2_ARRAY_DOUBLE_INDEX_SCALE", type := .int, accessFlags := 25, slot := 9, constantValue := 0 }, { name := "LOG2_BYTE_BIT_SIZE", type := .int, accessFlags := 26, slot := 10, constantValue := 0 }, { name := "T_BOOLEAN", type := .int, accessFlags := 25, slot := 11, constantValue := 0 }, { name := "T_CHAR", type := .int, accessFlags := 25, slot := 12, constantValue := 0 }, { name := "T_FLOAT", type := .int, accessFlags := 25, slot := 13, constantValue := 0 }, { name := "T_DOUBLE", type := .int, accessFlags := 25, slot := 14, constantValue := 0 }, { name := "T_BYTE", type := .int, accessFlags := 25, slot := 15, constantValue := 0 }, { name := "T_SHORT", type := .int, accessFlags := 25, slot := 16, constantValue := 0 }, { name := "T_INT", type := .int, accessFlags := 25, slot := 17, constantValue := 0 }, { name := "T_LONG", type := .int, accessFlags := 25, slot := 18, constantValue := 0 }, { name := "JLA", type := (.object "jdk/internal/access/JavaLangAccess"), accessFlags := 26, slot := 19, constantValue := 0 }, { name := "SOFT_MAX_ARRAY_LENGTH", type := .int, accessFlags := 25, slot := 20, constantValue := 0 }]
  methods := #[k12m0]
  instanceTypes := #[]
  staticTypes := #[(.object "jdk/internal/misc/Unsafe"), .boolean, .int, .int, .int, .int, .int, .int, .int, .int, .int, .int, .int, .int, .int, .int, .int, .int, .int, (.object "jdk/internal/access/JavaLangAccess"), .int]
  resolved := Array.replicate 378 none
  statics := none }

def pool13 : Array CpInfo := pool [(1, u "java/lang/Cloneable"), (0, .class_ 1), (0, u "java/lang/Object"), (0, .class_ 3)] 3

/-- java/lang/Cloneable -/
def k13 : Class := { plain "java/lang/Cloneable" (some 0) with
  accessFlags := 1537
  interfaces := #[]
  cf := some (fileOf pool13 2 #[] #[] 1537 4 #[] #[])
  fields := #[]
  methods := #[]
  instanceTypes := #[]
  staticTypes := #[]
  resolved := Array.replicate 8 none
  statics := none }

/-- the primitive byte -/
def k14 : Class := { plain "byte" none with kind := .primitive 'B', accessFlags := 0x411 }
/-- [B -/
def k15 : Class := { plain "[B" (some 0) with kind := .array 14 .byte, interfaces := #[13, 2], accessFlags := 1041 }

/-- the primitive char -/
def k16 : Class := { plain "char" none with kind := .primitive 'C', accessFlags := 0x411 }
/-- [C -/
def k17 : Class := { plain "[C" (some 0) with kind := .array 16 .char, interfaces := #[13, 2], accessFlags := 1041 }

/-- the primitive int -/
def k18 : Class := { plain "int" none with kind := .primitive 'I', accessFlags := 0x411 }
/-- [I -/
def k19 : Class := { plain "[I" (some 0) with kind := .array 18 .int, interfaces := #[13, 2], accessFlags := 1041 }

def heap : Heap := #[{ cls := 7, slots := #[.long 0, .int 1, .null, .int 0, .null, .int 0, .int 0], vm := .statics 7 },
  { cls := 9, slots := #[.int 0, .int 8, .int 0, .int 1], vm := .statics 9 },
  { cls := 11, slots := #[.null, .null, .null], vm := .statics 11 }]
def classes : Array Class := #[k0, k1, k2, k3, k4, k5, k6, k7, k8, k9, k10, k11, k12, k13, k14, k15, k16, k17, k18, k19]
def interned : List (Array UInt16 × Addr) := []
def slotsUsed : Nat := 14
def theMethod : MethodId := ⟨1, 3⟩
def args0 : Array Value := #[.int 5, .int 6, .int 7, .int 8, .int 9]
def aboutOver (below : List Frame) : State where
  vm := { classes := classes, interned := interned.toArray }
  heap := heap
  slotsUsed := slotsUsed
  threads := #[{ frames := .invoking theMethod args0 :: below }]
def below0 : List Frame := [.native { method := ⟨0, 0⟩, args := #[] }]
def about1 : State := aboutOver below0
def p0 : Program := .bare "" "" ""
def e0 : Env := launch0.env 0 0 0
theorem w_frames : about1.frames = Frame.invoking theMethod args0 :: below0 := rfl
set_option maxRecDepth 65536 in
theorem w_args : argsFit about1.vm theMethod args0 = true := by decide +kernel
set_option maxRecDepth 65536 in
theorem w_heap : heapFits about1 = true := by decide +kernel
set_option maxRecDepth 65536 in
theorem w_runnable : about1.curStatus? = some .runnable := by decide +kernel
set_option maxRecDepth 65536 in
theorem w_alone : about1.alone = true := by decide +kernel
set_option maxRecDepth 65536 in
theorem w_named : about1.methodNamed? x = some theMethod := by decide +kernel
set_option maxRecDepth 65536 in
theorem w_hears : about1.hears theMethod below0 = true := by decide +kernel
set_option maxRecDepth 65536 in
theorem w_ripe : about1.ripe theMethod args0 below0 = true := by decide +kernel
theorem w_running : about1.status = .running := rfl
set_option maxRecDepth 65536 in
theorem w_room : about1.hasRoom e0.platform room_1 = true :=
  launch0.hasRoom_least _ room_1 (by decide +kernel) (by decide +kernel) (by decide +kernel) (by decide +kernel) (by decide +kernel) (by decide +kernel)
theorem allAtoms_all (ts : List Jvm.Cond) (a : Array Jvm.Value) (st : Jvm.State) : (allAtoms ts).before a st = ts.all (fun c => c.before a st) := by
  induction ts with
  | nil => rfl
  | cons c t ih =>
    show (Jvm.Cond.and c (allAtoms t)).before a st = _
    rw [Jvm.Cond.before_and, ih, List.all_cons]
def words1 : List Jvm.Cond := Jvm.Cond.code x code maxLocals ret :: tables_1
/-- a 'code' word, met by the world's own term for the bytes: nothing is compared byte by byte -/
theorem code_word {y : MethodName} {bytes : ByteArray} {mx : Nat} {rt : Option FieldType} {a : Array Value} {s : State} {m : MethodId} {meth : Method} {c : Code} (h1 : s.methodNamed? y = some m) (h2 : s.vm.method? m = some meth) (h3 : meth.code = some c) (h4 : c.code = bytes)
    (h5 : (c.maxLocals == mx && c.exceptionTable.isEmpty && decide (c.maxStack ≤ mostOperands) && decide (meth.sig.returnType = rt) && !meth.locks && decide (parseMethodDescriptor y.desc = some meth.sig)) = true) : (Jvm.Cond.code y bytes mx rt).before a s = true := by
  simp only [Bool.and_eq_true, beq_iff_eq, Bool.not_eq_true', decide_eq_true_eq] at h5
  obtain ⟨⟨⟨⟨⟨g1, g2⟩, g3⟩, g4⟩, g5⟩, g6⟩ := h5
  simp [Cond.before, Cond.holds, Cond.value, h1, h2, h3, h4, g1, g2, g3, g4, g5, g6]
def isCode : Jvm.Cond → Bool
  | .code _ _ _ _ => true
  | _ => false
theorem all_split {L : List Jvm.Cond} {P : Jvm.Cond → Bool} (h1 : L.all (fun c => isCode c || P c) = true) (h2 : ∀ c ∈ L.filter isCode, P c = true) : L.all P = true := by
  refine List.all_eq_true.mpr fun c hc => ?_
  have h := List.all_eq_true.mp h1 c hc
  rcases Bool.eq_false_or_eq_true (isCode c) with hi | hi
  · exact h2 c (List.mem_filter.mpr ⟨hc, hi⟩)
  · simpa [hi] using h
set_option maxRecDepth 65536 in
theorem w_c0 : (Jvm.Cond.code x code maxLocals ret).before args0 about1 = true := code_word (m := ⟨1, 3⟩) (meth := k1m3) (c := k1c3) (by decide +kernel) rfl rfl rfl (by decide +kernel)
set_option maxRecDepth 65536 in
theorem w_c1 : (Jvm.Cond.code ({ cls := "no/nordsegl/internal/xml/DomIsXmlWhitespacePinLaw", name := "pick", desc := "(I)C" } : Jvm.MethodName) method_2_code (2 : Nat) (Option.some Jvm.ClassFile.FieldType.char)).before args0 about1 = true := code_word (m := ⟨1, 1⟩) (meth := k1m1) (c := k1c1) (by decide +kernel) rfl rfl rfl (by decide +kernel)
set_option maxRecDepth 65536 in
theorem w_c2 : (Jvm.Cond.code ({ cls := "java/lang/String", name := "<init>", desc := "([C)V" } : Jvm.MethodName) jdk_42_method_3_code (2 : Nat) (Option.none : Option Jvm.ClassFile.FieldType)).before args0 about1 = true := code_word (m := ⟨7, 1⟩) (meth := k7m1) (c := k7c1) (by decide +kernel) rfl rfl rfl (by decide +kernel)
set_option maxRecDepth 65536 in
theorem w_c3 : (Jvm.Cond.code ({ cls := "java/lang/String", name := "<init>", desc := "([CIILjava/lang/Void;)V" } : Jvm.MethodName) jdk_42_method_149_code (6 : Nat) (Option.none : Option Jvm.ClassFile.FieldType)).before args0 about1 = true := code_word (m := ⟨7, 4⟩) (meth := k7m4) (c := k7c4) (by decide +kernel) rfl rfl rfl (by decide +kernel)
set_option maxRecDepth 65536 in
theorem w_c4 : (Jvm.Cond.code ({ cls := "java/lang/Object", name := "<init>", desc := "()V" } : Jvm.MethodName) object_method_1_code (1 : Nat) (Option.none : Option Jvm.ClassFile.FieldType)).before args0 about1 = true := code_word (m := ⟨0, 0⟩) (meth := k0m0) (c := k0c0) (by decide +kernel) rfl rfl rfl (by decide +kernel)
set_option maxRecDepth 65536 in
theorem w_c5 : (Jvm.Cond.code ({ cls := "no/nordsegl/internal/xml/Dom", name := "isXmlWhitespace", desc := "(Ljava/lang/String;)Z" } : Jvm.MethodName) prog_29_method_13_code (2 : Nat) (Option.some Jvm.ClassFile.FieldType.boolean)).before args0 about1 = true := code_word (m := ⟨8, 1⟩) (meth := k8m1) (c := k8c1) (by decide +kernel) rfl rfl rfl (by decide +kernel)
set_option maxRecDepth 65536 in
theorem w_c6 : (Jvm.Cond.code ({ cls := "java/lang/String", name := "length", desc := "()I" } : Jvm.MethodName) jdk_42_method_54_code (1 : Nat) (Option.some Jvm.ClassFile.FieldType.int)).before args0 about1 = true := code_word (m := ⟨7, 2⟩) (meth := k7m2) (c := k7c2) (by decide +kernel) rfl rfl rfl (by decide +kernel)
set_option maxRecDepth 65536 in
theorem w_c7 : (Jvm.Cond.code ({ cls := "java/lang/String", name := "coder", desc := "()B" } : Jvm.MethodName) jdk_42_method_152_code (1 : Nat) (Option.some Jvm.ClassFile.FieldType.byte)).before args0 about1 = true := code_word (m := ⟨7, 5⟩) (meth := k7m5) (c := k7c5) (by decide +kernel) rfl rfl rfl (by decide +kernel)
set_option maxRecDepth 65536 in
theorem w_c8 : (Jvm.Cond.code ({ cls := "java/lang/StringUTF16", name := "compress", desc := "([CII)[B" } : Jvm.MethodName) jdk_52_method_16_code (6 : Nat) (Option.some (Jvm.ClassFile.FieldType.array Jvm.ClassFile.FieldType.byte))).before args0 about1 = true := code_word (m := ⟨9, 8⟩) (meth := k9m8) (c := k9c8) (by decide +kernel) rfl rfl rfl (by decide +kernel)
set_option maxRecDepth 65536 in
theorem w_c9 : (Jvm.Cond.code ({ cls := "java/lang/StringUTF16", name := "compress", desc := "([CI[BII)I" } : Jvm.MethodName) jdk_52_method_21_code (7 : Nat) (Option.some Jvm.ClassFile.FieldType.int)).before args0 about1 = true := code_word (m := ⟨9, 9⟩) (meth := k9m9) (c := k9c9) (by decide +kernel) rfl rfl rfl (by decide +kernel)
set_option maxRecDepth 65536 in
theorem w_c10 : (Jvm.Cond.code ({ cls := "java/lang/StringUTF16", name := "coderFromArrayLen", desc := "([BI)B" } : Jvm.MethodName) jdk_52_method_15_code (2 : Nat) (Option.some Jvm.ClassFile.FieldType.byte)).before args0 about1 = true := code_word (m := ⟨9, 7⟩) (meth := k9m7) (c := k9c7) (by decide +kernel) rfl rfl rfl (by decide +kernel)
set_option maxRecDepth 65536 in
theorem w_c11 : (Jvm.Cond.code ({ cls := "no/nordsegl/internal/xml/DomIsXmlWhitespacePinLaw", name := "ws", desc := "(C)Z" } : Jvm.MethodName) method_3_code (1 : Nat) (Option.some Jvm.ClassFile.FieldType.boolean)).before args0 about1 = true := code_word (m := ⟨1, 2⟩) (meth := k1m2) (c := k1c2) (by decide +kernel) rfl rfl rfl (by decide +kernel)
set_option maxRecDepth 65536 in
theorem w_c12 : (Jvm.Cond.code ({ cls := "java/lang/String", name := "charAt", desc := "(I)C" } : Jvm.MethodName) jdk_42_method_56_code (2 : Nat) (Option.some Jvm.ClassFile.FieldType.char)).before args0 about1 = true := code_word (m := ⟨7, 3⟩) (meth := k7m3) (c := k7c3) (by decide +kernel) rfl rfl rfl (by decide +kernel)
set_option maxRecDepth 65536 in
theorem w_c13 : (Jvm.Cond.code ({ cls := "java/lang/String", name := "isLatin1", desc := "()Z" } : Jvm.MethodName) jdk_42_method_154_code (1 : Nat) (Option.some Jvm.ClassFile.FieldType.boolean)).before args0 about1 = true := code_word (m := ⟨7, 6⟩) (meth := k7m6) (c := k7c6) (by decide +kernel) rfl rfl rfl (by decide +kernel)
set_option maxRecDepth 65536 in
theorem w_c14 : (Jvm.Cond.code ({ cls := "java/lang/StringLatin1", name := "charAt", desc := "([BI)C" } : Jvm.MethodName) jdk_43_method_2_code (2 : Nat) (Option.some Jvm.ClassFile.FieldType.char)).before args0 about1 = true := code_word (m := ⟨10, 1⟩) (meth := k10m1) (c := k10c1) (by decide +kernel) rfl rfl rfl (by decide +kernel)
set_option maxRecDepth 65536 in
theorem w_c15 : (Jvm.Cond.code ({ cls := "java/lang/String", name := "checkIndex", desc := "(II)V" } : Jvm.MethodName) jdk_42_method_155_code (2 : Nat) (Option.none : Option Jvm.ClassFile.FieldType)).before args0 about1 = true := code_word (m := ⟨7, 7⟩) (meth := k7m7) (c := k7c7) (by decide +kernel) rfl rfl rfl (by decide +kernel)
set_option maxRecDepth 65536 in
theorem w_c16 : (Jvm.Cond.code ({ cls := "jdk/internal/util/Preconditions", name := "checkIndex", desc := "(IILjava/util/function/BiFunction;)I" } : Jvm.MethodName) jdk_41_method_11_code (3 : Nat) (Option.some Jvm.ClassFile.FieldType.int)).before args0 about1 = true := code_word (m := ⟨11, 1⟩) (meth := k11m1) (c := k11c1) (by decide +kernel) rfl rfl rfl (by decide +kernel)
set_option maxRecDepth 65536 in
theorem w_c17 : (Jvm.Cond.code ({ cls := "no/nordsegl/internal/xml/Dom", name := "isXmlWhitespace", desc := "(C)Z" } : Jvm.MethodName) prog_29_method_15_code (1 : Nat) (Option.some Jvm.ClassFile.FieldType.boolean)).before args0 about1 = true := code_word (m := ⟨8, 2⟩) (meth := k8m2) (c := k8c2) (by decide +kernel) rfl rfl rfl (by decide +kernel)
set_option maxRecDepth 65536 in
theorem w_c18 : (Jvm.Cond.code ({ cls := "java/lang/StringUTF16", name := "toBytes", desc := "([CII)[B" } : Jvm.MethodName) jdk_52_method_14_code (5 : Nat) (Option.some (Jvm.ClassFile.FieldType.array Jvm.ClassFile.FieldType.byte))).before args0 about1 = true := code_word (m := ⟨9, 6⟩) (meth := k9m6) (c := k9c6) (by decide +kernel) rfl rfl rfl (by decide +kernel)
set_option maxRecDepth 65536 in
theorem w_c19 : (Jvm.Cond.code ({ cls := "java/lang/StringUTF16", name := "newBytesFor", desc := "(I)[B" } : Jvm.MethodName) jdk_52_method_2_code (1 : Nat) (Option.some (Jvm.ClassFile.FieldType.array Jvm.ClassFile.FieldType.byte))).before args0 about1 = true := code_word (m := ⟨9, 1⟩) (meth := k9m1) (c := k9c1) (by decide +kernel) rfl rfl rfl (by decide +kernel)
set_option maxRecDepth 65536 in
theorem w_c20 : (Jvm.Cond.code ({ cls := "java/lang/StringUTF16", name := "newBytesLength", desc := "(I)I" } : Jvm.MethodName) jdk_52_method_3_code (1 : Nat) (Option.some Jvm.ClassFile.FieldType.int)).before args0 about1 = true := code_word (m := ⟨9, 2⟩) (meth := k9m2) (c := k9c2) (by decide +kernel) rfl rfl rfl (by decide +kernel)
set_option maxRecDepth 65536 in
theorem w_c21 : (Jvm.Cond.code ({ cls := "java/lang/StringUTF16", name := "putChar", desc := "([BII)V" } : Jvm.MethodName) jdk_52_method_4_code (3 : Nat) (Option.none : Option Jvm.ClassFile.FieldType)).before args0 about1 = true := code_word (m := ⟨9, 3⟩) (meth := k9m3) (c := k9c3) (by decide +kernel) rfl rfl rfl (by decide +kernel)
set_option maxRecDepth 65536 in
theorem w_c22 : (Jvm.Cond.code ({ cls := "java/lang/StringUTF16", name := "getChar", desc := "([BI)C" } : Jvm.MethodName) jdk_52_method_5_code (2 : Nat) (Option.some Jvm.ClassFile.FieldType.char)).before args0 about1 = true := code_word (m := ⟨9, 4⟩) (meth := k9m4) (c := k9c4) (by decide +kernel) rfl rfl rfl (by decide +kernel)
set_option maxRecDepth 65536 in
theorem w_c23 : (Jvm.Cond.code ({ cls := "java/lang/StringUTF16", name := "charAt", desc := "([BI)C" } : Jvm.MethodName) jdk_52_method_83_code (2 : Nat) (Option.some Jvm.ClassFile.FieldType.char)).before args0 about1 = true := code_word (m := ⟨9, 10⟩) (meth := k9m10) (c := k9c10) (by decide +kernel) rfl rfl rfl (by decide +kernel)
set_option maxRecDepth 65536 in
theorem w_c24 : (Jvm.Cond.code ({ cls := "java/lang/StringUTF16", name := "checkIndex", desc := "(I[B)V" } : Jvm.MethodName) jdk_52_method_91_code (2 : Nat) (Option.none : Option Jvm.ClassFile.FieldType)).before args0 about1 = true := code_word (m := ⟨9, 11⟩) (meth := k9m11) (c := k9c11) (by decide +kernel) rfl rfl rfl (by decide +kernel)
set_option maxRecDepth 65536 in
theorem w_c25 : (Jvm.Cond.code ({ cls := "java/lang/StringUTF16", name := "length", desc := "([B)I" } : Jvm.MethodName) jdk_52_method_6_code (1 : Nat) (Option.some Jvm.ClassFile.FieldType.int)).before args0 about1 = true := code_word (m := ⟨9, 5⟩) (meth := k9m5) (c := k9c5) (by decide +kernel) rfl rfl rfl (by decide +kernel)
def codes1 : List Jvm.Cond := [Jvm.Cond.code x code maxLocals ret, Jvm.Cond.code ({ cls := "no/nordsegl/internal/xml/DomIsXmlWhitespacePinLaw", name := "pick", desc := "(I)C" } : Jvm.MethodName) method_2_code (2 : Nat) (Option.some Jvm.ClassFile.FieldType.char), Jvm.Cond.code ({ cls := "java/lang/String", name := "<init>", desc := "([C)V" } : Jvm.MethodName) jdk_42_method_3_code (2 : Nat) (Option.none : Option Jvm.ClassFile.FieldType), Jvm.Cond.code ({ cls := "java/lang/String", name := "<init>", desc := "([CIILjava/lang/Void;)V" } : Jvm.MethodName) jdk_42_method_149_code (6 : Nat) (Option.none : Option Jvm.ClassFile.FieldType), Jvm.Cond.code ({ cls := "java/lang/Object", name := "<init>", desc := "()V" } : Jvm.MethodName) object_method_1_code (1 : Nat) (Option.none : Option Jvm.ClassFile.FieldType), Jvm.Cond.code ({ cls := "no/nordsegl/internal/xml/Dom", name := "isXmlWhitespace", desc := "(Ljava/lang/String;)Z" } : Jvm.MethodName) prog_29_method_13_code (2 : Nat) (Option.some Jvm.ClassFile.FieldType.boolean), Jvm.Cond.code ({ cls := "java/lang/String", name := "length", desc := "()I" } : Jvm.MethodName) jdk_42_method_54_code (1 : Nat) (Option.some Jvm.ClassFile.FieldType.int), Jvm.Cond.code ({ cls := "java/lang/String", name := "coder", desc := "()B" } : Jvm.MethodName) jdk_42_method_152_code (1 : Nat) (Option.some Jvm.ClassFile.FieldType.byte), Jvm.Cond.code ({ cls := "java/lang/StringUTF16", name := "compress", desc := "([CII)[B" } : Jvm.MethodName) jdk_52_method_16_code (6 : Nat) (Option.some (Jvm.ClassFile.FieldType.array Jvm.ClassFile.FieldType.byte)), Jvm.Cond.code ({ cls := "java/lang/StringUTF16", name := "compress", desc := "([CI[BII)I" } : Jvm.MethodName) jdk_52_method_21_code (7 : Nat) (Option.some Jvm.ClassFile.FieldType.int), Jvm.Cond.code ({ cls := "java/lang/StringUTF16", name := "coderFromArrayLen", desc := "([BI)B" } : Jvm.MethodName) jdk_52_method_15_code (2 : Nat) (Option.some Jvm.ClassFile.FieldType.byte), Jvm.Cond.code ({ cls := "no/nordsegl/internal/xml/DomIsXmlWhitespacePinLaw", name := "ws", desc := "(C)Z" } : Jvm.MethodName) method_3_code (1 : Nat) (Option.some Jvm.ClassFile.FieldType.boolean), Jvm.Cond.code ({ cls := "java/lang/String", name := "charAt", desc := "(I)C" } : Jvm.MethodName) jdk_42_method_56_code (2 : Nat) (Option.some Jvm.ClassFile.FieldType.char), Jvm.Cond.code ({ cls := "java/lang/String", name := "isLatin1", desc := "()Z" } : Jvm.MethodName) jdk_42_method_154_code (1 : Nat) (Option.some Jvm.ClassFile.FieldType.boolean), Jvm.Cond.code ({ cls := "java/lang/StringLatin1", name := "charAt", desc := "([BI)C" } : Jvm.MethodName) jdk_43_method_2_code (2 : Nat) (Option.some Jvm.ClassFile.FieldType.char), Jvm.Cond.code ({ cls := "java/lang/String", name := "checkIndex", desc := "(II)V" } : Jvm.MethodName) jdk_42_method_155_code (2 : Nat) (Option.none : Option Jvm.ClassFile.FieldType), Jvm.Cond.code ({ cls := "jdk/internal/util/Preconditions", name := "checkIndex", desc := "(IILjava/util/function/BiFunction;)I" } : Jvm.MethodName) jdk_41_method_11_code (3 : Nat) (Option.some Jvm.ClassFile.FieldType.int), Jvm.Cond.code ({ cls := "no/nordsegl/internal/xml/Dom", name := "isXmlWhitespace", desc := "(C)Z" } : Jvm.MethodName) prog_29_method_15_code (1 : Nat) (Option.some Jvm.ClassFile.FieldType.boolean), Jvm.Cond.code ({ cls := "java/lang/StringUTF16", name := "toBytes", desc := "([CII)[B" } : Jvm.MethodName) jdk_52_method_14_code (5 : Nat) (Option.some (Jvm.ClassFile.FieldType.array Jvm.ClassFile.FieldType.byte)), Jvm.Cond.code ({ cls := "java/lang/StringUTF16", name := "newBytesFor", desc := "(I)[B" } : Jvm.MethodName) jdk_52_method_2_code (1 : Nat) (Option.some (Jvm.ClassFile.FieldType.array Jvm.ClassFile.FieldType.byte)), Jvm.Cond.code ({ cls := "java/lang/StringUTF16", name := "newBytesLength", desc := "(I)I" } : Jvm.MethodName) jdk_52_method_3_code (1 : Nat) (Option.some Jvm.ClassFile.FieldType.int), Jvm.Cond.code ({ cls := "java/lang/StringUTF16", name := "putChar", desc := "([BII)V" } : Jvm.MethodName) jdk_52_method_4_code (3 : Nat) (Option.none : Option Jvm.ClassFile.FieldType), Jvm.Cond.code ({ cls := "java/lang/StringUTF16", name := "getChar", desc := "([BI)C" } : Jvm.MethodName) jdk_52_method_5_code (2 : Nat) (Option.some Jvm.ClassFile.FieldType.char), Jvm.Cond.code ({ cls := "java/lang/StringUTF16", name := "charAt", desc := "([BI)C" } : Jvm.MethodName) jdk_52_method_83_code (2 : Nat) (Option.some Jvm.ClassFile.FieldType.char), Jvm.Cond.code ({ cls := "java/lang/StringUTF16", name := "checkIndex", desc := "(I[B)V" } : Jvm.MethodName) jdk_52_method_91_code (2 : Nat) (Option.none : Option Jvm.ClassFile.FieldType), Jvm.Cond.code ({ cls := "java/lang/StringUTF16", name := "length", desc := "([B)I" } : Jvm.MethodName) jdk_52_method_6_code (1 : Nat) (Option.some Jvm.ClassFile.FieldType.int)]
set_option maxRecDepth 65536 in
theorem codes_eq : words1.filter isCode = codes1 := rfl
theorem w_codes : ∀ c ∈ words1.filter isCode, c.before args0 about1 = true := by
  rw [codes_eq]
  intro c hc
  simp only [codes1, List.mem_cons, List.not_mem_nil, or_false] at hc
  rcases hc with rfl | rfl | rfl | rfl | rfl | rfl | rfl | rfl | rfl | rfl | rfl | rfl | rfl | rfl | rfl | rfl | rfl | rfl | rfl | rfl | rfl | rfl | rfl | rfl | rfl | rfl
  · exact w_c0
  · exact w_c1
  · exact w_c2
  · exact w_c3
  · exact w_c4
  · exact w_c5
  · exact w_c6
  · exact w_c7
  · exact w_c8
  · exact w_c9
  · exact w_c10
  · exact w_c11
  · exact w_c12
  · exact w_c13
  · exact w_c14
  · exact w_c15
  · exact w_c16
  · exact w_c17
  · exact w_c18
  · exact w_c19
  · exact w_c20
  · exact w_c21
  · exact w_c22
  · exact w_c23
  · exact w_c24
  · exact w_c25
set_option maxRecDepth 65536 in
theorem w_t1 : (words1.take 24).all (fun c => isCode c || c.before args0 about1) = true := by decide +kernel
set_option maxRecDepth 65536 in
theorem w_t2 : ((words1.drop 24).take 24).all (fun c => isCode c || c.before args0 about1) = true := by decide +kernel
set_option maxRecDepth 65536 in
theorem w_t3 : (((words1.drop 24).drop 24).take 24).all (fun c => isCode c || c.before args0 about1) = true := by decide +kernel
set_option maxRecDepth 65536 in
theorem w_t4 : ((((words1.drop 24).drop 24).drop 24).take 24).all (fun c => isCode c || c.before args0 about1) = true := by decide +kernel
set_option maxRecDepth 65536 in
theorem w_t5 : ((((words1.drop 24).drop 24).drop 24).drop 24).all (fun c => isCode c || c.before args0 about1) = true := by decide +kernel
theorem w_tables : (allAtoms (Jvm.Cond.code x code maxLocals ret :: tables_1)).before args0 about1 = true := by
  rw [allAtoms_all]
  show words1.all (fun c => c.before args0 about1) = true
  refine all_split ?_ w_codes
  rw [← List.take_append_drop 24 words1, List.all_append, w_t1, ← List.take_append_drop 24 (words1.drop 24), List.all_append, w_t2, ← List.take_append_drop 24 ((words1.drop 24).drop 24), List.all_append, w_t3, ← List.take_append_drop 24 (((words1.drop 24).drop 24).drop 24), List.all_append, w_t4, w_t5]
  rfl
set_option maxRecDepth 65536 in
theorem w_rest : rest_1_c.before args0 about1 = true := by decide +kernel
set_option maxRecDepth 65536 in
theorem w_case : (Jvm.Cond.and given_1 narrow_1).before args0 about1 = true := by decide +kernel
set_option maxRecDepth 65536 in
theorem w_consts : constsHeld consts_1 about1 := Jvm.Lit.constsHeldB_iff.mp (by decide +kernel)
theorem w_applies : (headSpec (Jvm.Cond.code x code maxLocals ret :: tables_1) room_1).applies x e0.platform about1 = true :=
  (Spec.applies_iff w_frames).mpr ⟨w_running, w_runnable, w_alone, w_named, w_hears, w_ripe, w_room, w_tables⟩
theorem atStart : AtStart classFile x code maxLocals ret World_1 tables_1 room_1 Calls_1 rest_1 Pre_1 launch0 p0 e0 about1 theMethod args0 below0 :=
  ⟨lists_1, trivial, launch0.admits_env _ _ _, launch0.least_env, fairChoices_fair.cas, fairChoices_fair.clock, w_frames, w_args, w_heap, w_applies, ⟨w_consts, trivial⟩, w_rest, w_case⟩
end start1
theorem witness_1 : WitnessClaimed_1 := ⟨start1.p0, start1.e0, start1.about1, start1.theMethod, start1.args0, start1.below0, start1.atStart⟩
end Jvm.Pilot.@@N@@
