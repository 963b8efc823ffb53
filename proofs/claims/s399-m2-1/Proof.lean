import JvmDerived
import JvmDerived.Pilot.@@N@@Statement
import JvmDerived.Pilot.@@N@@Code
set_option linter.unusedVariables false
set_option linter.unusedSimpArgs false
namespace Jvm.OwnW
open Sem ClassFile Op Lib Jvm.Stand Jvm.Free Jvm.LawKit Jvm.RoadKit Bundle
def Dec (b : ByteArray) (pc : Nat) (i : Instr) (len nx : Nat) : Prop := decode b pc = .ok (i, len) ∧ pc + len = nx
def DecJ (b : ByteArray) (pc : Nat) (i : Instr) (o : Int) (nx tgt : Nat) : Prop := decode b pc = .ok (i, 3) ∧ pc + 3 = nx ∧ 0 ≤ (pc : Int) + o ∧ ((pc : Int) + o).toNat = tgt
theorem le {a b : Nat} (h : Nat.ble a b = true) : a ≤ b := Nat.le_of_ble_eq_true h
theorem ext_refl (h : Heap) : Ext h h := ⟨Nat.le_refl _, fun _ _ q => q⟩
theorem ext_trans {h h' h2 : Heap} (A : Ext h h') (B : Ext h' h2) : Ext h h2 := ⟨Nat.le_trans A.1 B.1, fun a c q => B.2 a c (A.2 a c q)⟩
theorem keep_ext {h h' : Heap} (E : Ext h h') (ws : List Addr) : Keep h h' ws := (Keep.refl h ws).ext E
theorem ext_keep {h h' : Heap} (K : Keep h h' []) : Ext h h' := ⟨K.1, fun a c q => K.2.1 a c q nin0⟩
def Here (p : Program) (l : Launch) (e : Env) (R : Room) (s : State) (m : MethodId) (args : Array Value) (below : List Frame) (meth : Method) (c : Code) (Z : State) (EL : List (String × Nat)) (nw : Bool)
    (F : List Addr) (w : Nat) (h : Heap) (k n : Nat) (T : State) (vm0 : Vm) (locs : List Loc) (k0 : Nat) : Prop :=
  Stand p l e R (s.setVm vm0) m args below meth c T locs k n ∧ T.heap = h ∧ Fr Z.heap.size locs ∧ s.Since vm0 k0 ∧ k0 ≤ h.size ∧ Z.Warmed39 vm0 ∧ CHr Z EL s.vm s.heap vm0 h ∧ (nw = true → s.WarmedH vm0) ∧ (∀ x ∈ F, x < h.size ∧ Safe Z EL vm0 h x) ∧ Ext Z.heap h ∧ (∀ x, w ≤ x → Safe Z EL vm0 h x) ∧ (nw = true → ∀ y, Bk Z EL vm0 h y → Bk Z EL s.vm s.heap y)
def wm (nwc : Bool) (w : Nat) (h : Heap) : Nat := match nwc with | true => w | false => h.size
def Ends (p : Program) (e : Env) (R : Room) (s : State) (below : List Frame) (Z : State) (EL : List (String × Nat)) (nw : Bool) (Q : Option Value → Heap → Prop) (t0 : State) : Prop :=
  ∃ t v L, Steps p.tables e below t0 t ∧ t.status = .running ∧ Ended t below (.returned v) ∧ Q v t.heap ∧ Fr Z.heap.size L ∧ CHr Z EL s.vm s.heap t.vm t.heap ∧ (nw = true → s.WarmedH t.vm ∧ ∀ y, Bk Z EL t.vm t.heap y → Bk Z EL s.vm s.heap y) ∧ Ext Z.heap t.heap ∧ ReturnedEndW s (.returned v) t L R.cells R.slots
def Goes (p : Program) (l : Launch) (e : Env) (R : Room) (s : State) (m : MethodId) (args : Array Value) (below : List Frame) (meth : Method) (c : Code) (Z : State) (EL : List (String × Nat)) (nw : Bool)
    (Q : Option Value → Heap → Prop) (F : List Addr) (w : Nat) (h : Heap) (k n : Nat) (f : JFrame) : Prop :=
  ∀ T vm0 locs k0, Here p l e R s m args below meth c Z EL nw F w h k n T vm0 locs k0 → Ends p e R s below Z EL nw Q (T.setTop f)
def Cxt (p : Program) (m : MethodId) (meth : Method) (c : Code) (Z : State) (a0 : Array Value) (EL : List (String × Nat)) (own mn : String) (bytes : ByteArray) (ml : Nat) (ret : Option FieldType) (Ws : List Jvm.Cond) : Prop :=
  p.tables.exec = Jvm.exec ∧ c.code = bytes ∧ c.maxLocals = ml ∧ Z.vm.findClass own = some m.cls ∧ meth.sig.returnType = ret ∧ meth.locks = false ∧ meth.name = mn ∧ (∀ d ∈ Ws, d.before a0 Z = true) ∧ EW Z a0 EL
/-- who pays a call -/
def Pays (p : Program) (l : Launch) (e : Env) (R : Room) (s : State) (args : Array Value) (below : List Frame) (Z : State) (EL : List (String × Nat)) (nw : Bool)
    (y : MethodName) (len W : Nat) (F : List Addr) (as' : Array Value) (h : Heap) (rc rs : Nat) (Qc : Option Value → Heap → Prop) : Prop :=
  ∀ vm0, Z.Warmed39 vm0 → CHv Z EL vm0 h → (∀ x ∈ F, x < h.size ∧ Safe Z EL vm0 h x) → Ext Z.heap h →
    BackS l R p e below (s.setVm vm0) args y len W (fun A a => a = as' ∧ A.U.heap = h ∧ A.cells + rc ≤ R.cells ∧ A.slots + rs ≤ R.slots)
      (fun A _ v B => ∃ L, Qc v B.U.heap ∧ Fr Z.heap.size L ∧ B.locs = A.locs ++ L ∧ B.cells = A.cells + rc ∧ B.slots = A.slots + rs ∧ CHr Z EL vm0 h B.U.vm B.U.heap ∧ (nw = true → (s.setVm vm0).WarmedH B.U.vm ∧ ∀ y, Bk Z EL B.U.vm B.U.heap y → Bk Z EL vm0 h y) ∧ Ext Z.heap B.U.heap)
/-- a method's contract -/
def Con (l : Launch) (Z : State) (EL : List (String × Nat)) (nw : Bool) (y : MethodName) (bytes : ByteArray) (maxL : Nat) (ret : Option FieldType) (rm : Room) (F : List Addr) (as' : Array Value) (h : Heap) (Q : Option Value → Heap → Prop) : Prop :=
  ∀ ws : List Jvm.Cond, MetFree l y (head1 (Jvm.Cond.code y bytes maxL ret :: ws) rm) (fun a U => a = as' ∧ Z.Warmed39 U.vm ∧ U.heap = h ∧ CHv Z EL U.vm h ∧ (∀ x ∈ F, x < h.size ∧ Safe Z EL U.vm h x) ∧ Ext Z.heap h) (fun _ _ _ _ _ => True)
    (fun _ U o U' => ∃ v L, o = .returned v ∧ Q v U'.heap ∧ Fr Z.heap.size L ∧ CHr Z EL U.vm U.heap U'.vm U'.heap ∧ (nw = true → U.WarmedH U'.vm ∧ ∀ y, Bk Z EL U'.vm U'.heap y → Bk Z EL U.vm U.heap y) ∧ Ext Z.heap U'.heap ∧ ReturnedEndW U o U' L rm.cells rm.slots)
section
variable {p : Program} {l : Launch} {e : Env} {R : Room} {s : State} {m : MethodId} {args : Array Value} {below : List Frame} {meth : Method} {c : Code} {Z : State} {a0 : Array Value} {EL : List (String × Nat)} {nw : Bool} {own mn : String} {bytes : ByteArray} {ml : Nat} {ret : Option FieldType} {Ws : List Jvm.Cond} {Q : Option Value → Heap → Prop} {F : List Addr} {w : Nat} {h : Heap} {k n : Nat} {pc nx : Nat} {Ls : Array Slot} {st : List Value}
theorem Cxt.own_at (C : Cxt p m meth c Z a0 EL own mn bytes ml ret Ws) {vm0 : Vm} (hZ : Z.Warmed39 vm0) : (s.setVm vm0).vm.findClass own = some m.cls := by
  show vm0.findClass own = _
  rw [hZ.alike.findClass]; exact C.2.2.2.1
theorem Cxt.wrd (C : Cxt p m meth c Z a0 EL own mn bytes ml ret Ws) {d : Jvm.Cond} (hd : d ∈ Ws) : d.before a0 Z = true := C.2.2.2.2.2.2.2.1 d hd
theorem Here.step {T T' : State} {vm0 : Vm} {locs locs' : List Loc} {k0 k' n' : Nat} {h' : Heap} {ws : List Addr} (H : Here p l e R s m args below meth c Z EL nw F w h k n T vm0 locs k0) (X' : Stand p l e R (s.setVm vm0) m args below meth c T' locs' k' n') (e' : T'.heap = h') (N' : Fr Z.heap.size locs') (K : Keep h h' ws) (hs : ∀ x ∈ ws, Safe Z EL vm0 h x ∧ Z.heap.size ≤ x) :
    Here p l e R s m args below meth c Z EL nw F w h' k' n' T' vm0 locs' k0 := by
  obtain ⟨X, eT, N, S, hk0, hZ, H1, hw, hF, O, hwm, hbk⟩ := H
  have hs1 : ∀ x ∈ ws, Safe Z EL vm0 h x := fun x hx => (hs x hx).1
  exact ⟨X', e', N', S, Nat.le_trans hk0 K.1, hZ, H1.trans (CHr.keep K hs1 H1.1), hw, fun x hx => ⟨Nat.lt_of_lt_of_le (hF x hx).1 K.1, (hF x hx).2.keep K hs1 H1.1⟩, (Old.keep (n0 := Z.heap.size) ⟨rfl, O⟩ K fun x hx => (hs x hx).2).2, fun x hx => (hwm x hx).keep K hs1 H1.1, fun q y hy => hbk q y ((H1.1.keepStep K hs1).2 y hy)⟩
theorem Goes.pure {f f' : JFrame} (stp : ∀ T vm0 locs, Stand p l e R (s.setVm vm0) m args below meth c T locs k n → ∀ t, Steps p.tables e below (T.setTop f') t → Steps p.tables e below (T.setTop f) t) (g : Goes p l e R s m args below meth c Z EL nw Q F w h k n f') : Goes p l e R s m args below meth c Z EL nw Q F w h k n f := by
  intro T vm0 locs k0 H
  obtain ⟨t, v, L, h1, r⟩ := g T vm0 locs k0 H
  exact ⟨t, v, L, stp T vm0 locs H.1 t h1, r⟩
theorem Goes.old {f : JFrame} (g : Ext Z.heap h → Goes p l e R s m args below meth c Z EL nw Q F w h k n f) : Goes p l e R s m args below meth c Z EL nw Q F w h k n f := fun T vm0 locs k0 H => g H.2.2.2.2.2.2.2.2.2.1 T vm0 locs k0 H
theorem Goes.more {f : JFrame} {k' n' : Nat} (hk : k ≤ k') (hn : n ≤ n') (g : Goes p l e R s m args below meth c Z EL nw Q F w h k' n' f) : Goes p l e R s m args below meth c Z EL nw Q F w h k n f := fun T vm0 locs k0 H => g T vm0 locs k0 ⟨H.1.more hk hn, H.2⟩
theorem Goes.less {f : JFrame} {F' : List Addr} (hF : ∀ x ∈ F', x ∈ F) (g : Goes p l e R s m args below meth c Z EL nw Q F' w h k n f) : Goes p l e R s m args below meth c Z EL nw Q F w h k n f := fun T vm0 locs k0 H => by
  obtain ⟨X, eT, N, S, hk0, hZ, H1, hw, hF1, O, hwm, hbk⟩ := H
  exact g T vm0 locs k0 ⟨X, eT, N, S, hk0, hZ, H1, hw, fun x hx => hF1 x (hF x hx), O, hwm, hbk⟩
theorem Goes.safeOf {f : JFrame} {a : Addr} (hs : ∀ vm0, Z.Warmed39 vm0 → CHr Z EL s.vm s.heap vm0 h → a < h.size ∧ Safe Z EL vm0 h a) (g : Goes p l e R s m args below meth c Z EL nw Q (a :: F) w h k n f) : Goes p l e R s m args below meth c Z EL nw Q F w h k n f := fun T vm0 locs k0 H => by
  obtain ⟨X, eT, N, S, hk0, hZ, H1, hw, hF1, O, hwm, hbk⟩ := H
  exact g T vm0 locs k0 ⟨X, eT, N, S, hk0, hZ, H1, hw, fun x hx => (List.mem_cons.mp hx).elim (fun q => by subst q; exact hs vm0 hZ H1) (hF1 x), O, hwm, hbk⟩
theorem Goes.cast {f f' : JFrame} (q : f = f') (g : Goes p l e R s m args below meth c Z EL nw Q F w h k n f') : Goes p l e R s m args below meth c Z EL nw Q F w h k n f := q ▸ g

/-- (char) x -/
def c16 (x : Int32) : Int32 := x.toUInt32.toUInt16.toUInt32.toInt32
/-- (byte) x -/
def b8 (x : Int32) : Int32 := x.toInt8.toInt32
theorem Cxt.aloadN (C : Cxt p m meth c Z a0 EL own mn bytes ml ret Ws) {i : Fin 4} {v : Value} (d : Dec bytes pc (.aload_n i) 1 nx) (hl : Ls[i.val]? = some (.val v)) (hv : v.isRef = true) (g : Goes p l e R s m args below meth c Z EL nw Q F w h k n (mkF m nx Ls (v :: st))) : Goes p l e R s m args below meth c Z EL nw Q F w h k n (mkF m pc Ls st) := by
  obtain ⟨d1, rfl⟩ := d
  exact Goes.pure (fun T vm0 locs X t ht => XS.aloadN X.here C.1 rfl (hb C.2.1 d1) hl hv ht) g
theorem Cxt.aload (C : Cxt p m meth c Z a0 EL own mn bytes ml ret Ws) {i : Nat} {v : Value} (d : Dec bytes pc (.aload i) 2 nx) (hl : Ls[i]? = some (.val v)) (hv : v.isRef = true) (g : Goes p l e R s m args below meth c Z EL nw Q F w h k n (mkF m nx Ls (v :: st))) : Goes p l e R s m args below meth c Z EL nw Q F w h k n (mkF m pc Ls st) := by
  obtain ⟨d1, rfl⟩ := d
  exact Goes.pure (fun T vm0 locs X t ht => XS.aload X.here C.1 rfl (hb C.2.1 d1) hl hv ht) g
theorem Cxt.iloadN (C : Cxt p m meth c Z a0 EL own mn bytes ml ret Ws) {i : Fin 4} {v : Int32} (d : Dec bytes pc (.iload_n i) 1 nx) (hl : Ls[i.val]? = some (.val (.int v))) (g : Goes p l e R s m args below meth c Z EL nw Q F w h k n (mkF m nx Ls (.int v :: st))) : Goes p l e R s m args below meth c Z EL nw Q F w h k n (mkF m pc Ls st) := by
  obtain ⟨d1, rfl⟩ := d
  exact Goes.pure (fun T vm0 locs X t ht => XS.iloadN X.here C.1 rfl (hb C.2.1 d1) hl ht) g
theorem Cxt.iload (C : Cxt p m meth c Z a0 EL own mn bytes ml ret Ws) {i : Nat} {v : Int32} (d : Dec bytes pc (.iload i) 2 nx) (hl : Ls[i]? = some (.val (.int v))) (g : Goes p l e R s m args below meth c Z EL nw Q F w h k n (mkF m nx Ls (.int v :: st))) : Goes p l e R s m args below meth c Z EL nw Q F w h k n (mkF m pc Ls st) := by
  obtain ⟨d1, rfl⟩ := d
  exact Goes.pure (fun T vm0 locs X t ht => XS.iload X.here C.1 rfl (hb C.2.1 d1) hl ht) g
theorem Cxt.lloadN (C : Cxt p m meth c Z a0 EL own mn bytes ml ret Ws) {i : Fin 4} {v : Int64} (d : Dec bytes pc (.lload_n i) 1 nx) (hl : Ls[i.val]? = some (.val (.long v))) (g : Goes p l e R s m args below meth c Z EL nw Q F w h k n (mkF m nx Ls (.long v :: st))) : Goes p l e R s m args below meth c Z EL nw Q F w h k n (mkF m pc Ls st) := by
  obtain ⟨d1, rfl⟩ := d
  exact Goes.pure (fun T vm0 locs X t ht => XT.lloadN X.here C.1 rfl (hb C.2.1 d1) hl ht) g
theorem Cxt.lload (C : Cxt p m meth c Z a0 EL own mn bytes ml ret Ws) {i : Nat} {v : Int64} (d : Dec bytes pc (.lload i) 2 nx) (hl : Ls[i]? = some (.val (.long v))) (g : Goes p l e R s m args below meth c Z EL nw Q F w h k n (mkF m nx Ls (.long v :: st))) : Goes p l e R s m args below meth c Z EL nw Q F w h k n (mkF m pc Ls st) := by
  obtain ⟨d1, rfl⟩ := d
  exact Goes.pure (fun T vm0 locs X t ht => XT.lload X.here C.1 rfl (hb C.2.1 d1) hl ht) g
theorem Cxt.iconst (C : Cxt p m meth c Z a0 EL own mn bytes ml ret Ws) {i : Int} (v : Int32) (d : Dec bytes pc (.iconst i) 1 nx) (hv : Int32.ofInt i = v) (g : Goes p l e R s m args below meth c Z EL nw Q F w h k n (mkF m nx Ls (.int v :: st))) : Goes p l e R s m args below meth c Z EL nw Q F w h k n (mkF m pc Ls st) := by
  subst hv; obtain ⟨d1, rfl⟩ := d
  exact Goes.pure (fun T vm0 locs X t ht => XS.iconst X.here C.1 rfl (hb C.2.1 d1) ht) g
theorem Cxt.bipush (C : Cxt p m meth c Z a0 EL own mn bytes ml ret Ws) {i : Int} (v : Int32) (d : Dec bytes pc (.bipush i) 2 nx) (hv : (Int8.ofInt i).toInt32 = v) (g : Goes p l e R s m args below meth c Z EL nw Q F w h k n (mkF m nx Ls (.int v :: st))) : Goes p l e R s m args below meth c Z EL nw Q F w h k n (mkF m pc Ls st) := by
  subst hv; obtain ⟨d1, rfl⟩ := d
  exact Goes.pure (fun T vm0 locs X t ht => XS.bipush X.here C.1 rfl (hb C.2.1 d1) ht) g
theorem Cxt.sipush (C : Cxt p m meth c Z a0 EL own mn bytes ml ret Ws) {i : Int} (v : Int32) (d : Dec bytes pc (.sipush i) 3 nx) (hv : (Int16.ofInt i).toInt32 = v) (g : Goes p l e R s m args below meth c Z EL nw Q F w h k n (mkF m nx Ls (.int v :: st))) : Goes p l e R s m args below meth c Z EL nw Q F w h k n (mkF m pc Ls st) := by
  subst hv; obtain ⟨d1, rfl⟩ := d
  exact Goes.pure (fun T vm0 locs X t ht => XS.sipush X.here C.1 rfl (hb C.2.1 d1) ht) g
theorem Cxt.aconst_null (C : Cxt p m meth c Z a0 EL own mn bytes ml ret Ws)  (d : Dec bytes pc (.aconst_null) 1 nx)  (g : Goes p l e R s m args below meth c Z EL nw Q F w h k n (mkF m nx Ls (.null :: st))) : Goes p l e R s m args below meth c Z EL nw Q F w h k n (mkF m pc Ls st) := by
  obtain ⟨d1, rfl⟩ := d
  exact Goes.pure (fun T vm0 locs X t ht => XS.aconstNull X.here C.1 rfl (hb C.2.1 d1) ht) g
theorem Cxt.lconst (C : Cxt p m meth c Z a0 EL own mn bytes ml ret Ws) {i : Fin 2} (d : Dec bytes pc (.lconst i) 1 nx)  (g : Goes p l e R s m args below meth c Z EL nw Q F w h k n (mkF m nx Ls (.long (Int64.ofNat i) :: st))) : Goes p l e R s m args below meth c Z EL nw Q F w h k n (mkF m pc Ls st) := by
  obtain ⟨d1, rfl⟩ := d
  exact Goes.pure (fun T vm0 locs X t ht => XT.lconst X.here C.1 rfl (hb C.2.1 d1) ht) g
theorem Cxt.iadd (C : Cxt p m meth c Z a0 EL own mn bytes ml ret Ws) {x y : Int32} (d : Dec bytes pc (.iadd) 1 nx)  (g : Goes p l e R s m args below meth c Z EL nw Q F w h k n (mkF m nx Ls (.int (x + y) :: st))) : Goes p l e R s m args below meth c Z EL nw Q F w h k n (mkF m pc Ls (.int y :: .int x :: st)) := by
  obtain ⟨d1, rfl⟩ := d
  exact Goes.pure (fun T vm0 locs X t ht => XS.iadd X.here C.1 rfl (hb C.2.1 d1) rfl ht) g
theorem Cxt.isub (C : Cxt p m meth c Z a0 EL own mn bytes ml ret Ws) {x y : Int32} (d : Dec bytes pc (.isub) 1 nx)  (g : Goes p l e R s m args below meth c Z EL nw Q F w h k n (mkF m nx Ls (.int (x - y) :: st))) : Goes p l e R s m args below meth c Z EL nw Q F w h k n (mkF m pc Ls (.int y :: .int x :: st)) := by
  obtain ⟨d1, rfl⟩ := d
  exact Goes.pure (fun T vm0 locs X t ht => XS.isub X.here C.1 rfl (hb C.2.1 d1) rfl ht) g
theorem Cxt.imul (C : Cxt p m meth c Z a0 EL own mn bytes ml ret Ws) {x y : Int32} (d : Dec bytes pc (.imul) 1 nx)  (g : Goes p l e R s m args below meth c Z EL nw Q F w h k n (mkF m nx Ls (.int (x * y) :: st))) : Goes p l e R s m args below meth c Z EL nw Q F w h k n (mkF m pc Ls (.int y :: .int x :: st)) := by
  obtain ⟨d1, rfl⟩ := d
  exact Goes.pure (fun T vm0 locs X t ht => XS.imul X.here C.1 rfl (hb C.2.1 d1) rfl ht) g
theorem Cxt.iand (C : Cxt p m meth c Z a0 EL own mn bytes ml ret Ws) {x y : Int32} (d : Dec bytes pc (.iand) 1 nx)  (g : Goes p l e R s m args below meth c Z EL nw Q F w h k n (mkF m nx Ls (.int (x &&& y) :: st))) : Goes p l e R s m args below meth c Z EL nw Q F w h k n (mkF m pc Ls (.int y :: .int x :: st)) := by
  obtain ⟨d1, rfl⟩ := d
  exact Goes.pure (fun T vm0 locs X t ht => XS.iand X.here C.1 rfl (hb C.2.1 d1) rfl ht) g
theorem Cxt.ior (C : Cxt p m meth c Z a0 EL own mn bytes ml ret Ws) {x y : Int32} (d : Dec bytes pc (.ior) 1 nx)  (g : Goes p l e R s m args below meth c Z EL nw Q F w h k n (mkF m nx Ls (.int (x ||| y) :: st))) : Goes p l e R s m args below meth c Z EL nw Q F w h k n (mkF m pc Ls (.int y :: .int x :: st)) := by
  obtain ⟨d1, rfl⟩ := d
  exact Goes.pure (fun T vm0 locs X t ht => XT.ior X.here C.1 rfl (hb C.2.1 d1) rfl ht) g
theorem Cxt.ixor (C : Cxt p m meth c Z a0 EL own mn bytes ml ret Ws) {x y : Int32} (d : Dec bytes pc (.ixor) 1 nx)  (g : Goes p l e R s m args below meth c Z EL nw Q F w h k n (mkF m nx Ls (.int (x ^^^ y) :: st))) : Goes p l e R s m args below meth c Z EL nw Q F w h k n (mkF m pc Ls (.int y :: .int x :: st)) := by
  obtain ⟨d1, rfl⟩ := d
  exact Goes.pure (fun T vm0 locs X t ht => XT.ixor X.here C.1 rfl (hb C.2.1 d1) rfl ht) g
theorem Cxt.ishl (C : Cxt p m meth c Z a0 EL own mn bytes ml ret Ws) {x y : Int32} (d : Dec bytes pc (.ishl) 1 nx)  (g : Goes p l e R s m args below meth c Z EL nw Q F w h k n (mkF m nx Ls (.int (x <<< (y &&& 31)) :: st))) : Goes p l e R s m args below meth c Z EL nw Q F w h k n (mkF m pc Ls (.int y :: .int x :: st)) := by
  obtain ⟨d1, rfl⟩ := d
  exact Goes.pure (fun T vm0 locs X t ht => XT.ishl X.here C.1 rfl (hb C.2.1 d1) rfl ht) g
theorem Cxt.ishr (C : Cxt p m meth c Z a0 EL own mn bytes ml ret Ws) {x y : Int32} (d : Dec bytes pc (.ishr) 1 nx)  (g : Goes p l e R s m args below meth c Z EL nw Q F w h k n (mkF m nx Ls (.int (x >>> (y &&& 31)) :: st))) : Goes p l e R s m args below meth c Z EL nw Q F w h k n (mkF m pc Ls (.int y :: .int x :: st)) := by
  obtain ⟨d1, rfl⟩ := d
  exact Goes.pure (fun T vm0 locs X t ht => XT.ishr X.here C.1 rfl (hb C.2.1 d1) rfl ht) g
theorem Cxt.iushr (C : Cxt p m meth c Z a0 EL own mn bytes ml ret Ws) {x y : Int32} (d : Dec bytes pc (.iushr) 1 nx)  (g : Goes p l e R s m args below meth c Z EL nw Q F w h k n (mkF m nx Ls (.int (XT.ushr x y) :: st))) : Goes p l e R s m args below meth c Z EL nw Q F w h k n (mkF m pc Ls (.int y :: .int x :: st)) := by
  obtain ⟨d1, rfl⟩ := d
  exact Goes.pure (fun T vm0 locs X t ht => XT.iushr X.here C.1 rfl (hb C.2.1 d1) rfl ht) g
theorem Cxt.idiv (C : Cxt p m meth c Z a0 EL own mn bytes ml ret Ws) {x y : Int32} (d : Dec bytes pc (.idiv) 1 nx) (hy : y ≠ 0) (g : Goes p l e R s m args below meth c Z EL nw Q F w h k n (mkF m nx Ls (.int (x / y) :: st))) : Goes p l e R s m args below meth c Z EL nw Q F w h k n (mkF m pc Ls (.int y :: .int x :: st)) := by
  obtain ⟨d1, rfl⟩ := d
  exact Goes.pure (fun T vm0 locs X t ht => XS.idiv X.here C.1 rfl (hb C.2.1 d1) rfl hy ht) g
theorem Cxt.irem (C : Cxt p m meth c Z a0 EL own mn bytes ml ret Ws) {x y : Int32} (d : Dec bytes pc (.irem) 1 nx) (hy : y ≠ 0) (g : Goes p l e R s m args below meth c Z EL nw Q F w h k n (mkF m nx Ls (.int (x % y) :: st))) : Goes p l e R s m args below meth c Z EL nw Q F w h k n (mkF m pc Ls (.int y :: .int x :: st)) := by
  obtain ⟨d1, rfl⟩ := d
  exact Goes.pure (fun T vm0 locs X t ht => iremM X C.1 rfl (hb C.2.1 d1) rfl hy ht) g
theorem Cxt.ineg (C : Cxt p m meth c Z a0 EL own mn bytes ml ret Ws) {x : Int32} (d : Dec bytes pc (.ineg) 1 nx)  (g : Goes p l e R s m args below meth c Z EL nw Q F w h k n (mkF m nx Ls (.int (-x) :: st))) : Goes p l e R s m args below meth c Z EL nw Q F w h k n (mkF m pc Ls (.int x :: st)) := by
  obtain ⟨d1, rfl⟩ := d
  exact Goes.pure (fun T vm0 locs X t ht => XS.ineg X.here C.1 rfl (hb C.2.1 d1) rfl ht) g
theorem Cxt.ladd (C : Cxt p m meth c Z a0 EL own mn bytes ml ret Ws) {x y : Int64} (d : Dec bytes pc (.ladd) 1 nx)  (g : Goes p l e R s m args below meth c Z EL nw Q F w h k n (mkF m nx Ls (.long (x + y) :: st))) : Goes p l e R s m args below meth c Z EL nw Q F w h k n (mkF m pc Ls (.long y :: .long x :: st)) := by
  obtain ⟨d1, rfl⟩ := d
  exact Goes.pure (fun T vm0 locs X t ht => XT.ladd X.here C.1 rfl (hb C.2.1 d1) rfl ht) g
theorem Cxt.lsub (C : Cxt p m meth c Z a0 EL own mn bytes ml ret Ws) {x y : Int64} (d : Dec bytes pc (.lsub) 1 nx)  (g : Goes p l e R s m args below meth c Z EL nw Q F w h k n (mkF m nx Ls (.long (x - y) :: st))) : Goes p l e R s m args below meth c Z EL nw Q F w h k n (mkF m pc Ls (.long y :: .long x :: st)) := by
  obtain ⟨d1, rfl⟩ := d
  exact Goes.pure (fun T vm0 locs X t ht => XT.lsub X.here C.1 rfl (hb C.2.1 d1) rfl ht) g
theorem Cxt.lmul (C : Cxt p m meth c Z a0 EL own mn bytes ml ret Ws) {x y : Int64} (d : Dec bytes pc (.lmul) 1 nx)  (g : Goes p l e R s m args below meth c Z EL nw Q F w h k n (mkF m nx Ls (.long (x * y) :: st))) : Goes p l e R s m args below meth c Z EL nw Q F w h k n (mkF m pc Ls (.long y :: .long x :: st)) := by
  obtain ⟨d1, rfl⟩ := d
  exact Goes.pure (fun T vm0 locs X t ht => XT.lmul X.here C.1 rfl (hb C.2.1 d1) rfl ht) g
theorem Cxt.land (C : Cxt p m meth c Z a0 EL own mn bytes ml ret Ws) {x y : Int64} (d : Dec bytes pc (.land) 1 nx)  (g : Goes p l e R s m args below meth c Z EL nw Q F w h k n (mkF m nx Ls (.long (x &&& y) :: st))) : Goes p l e R s m args below meth c Z EL nw Q F w h k n (mkF m pc Ls (.long y :: .long x :: st)) := by
  obtain ⟨d1, rfl⟩ := d
  exact Goes.pure (fun T vm0 locs X t ht => XT.land X.here C.1 rfl (hb C.2.1 d1) rfl ht) g
theorem Cxt.lor (C : Cxt p m meth c Z a0 EL own mn bytes ml ret Ws) {x y : Int64} (d : Dec bytes pc (.lor) 1 nx)  (g : Goes p l e R s m args below meth c Z EL nw Q F w h k n (mkF m nx Ls (.long (x ||| y) :: st))) : Goes p l e R s m args below meth c Z EL nw Q F w h k n (mkF m pc Ls (.long y :: .long x :: st)) := by
  obtain ⟨d1, rfl⟩ := d
  exact Goes.pure (fun T vm0 locs X t ht => XT.lor X.here C.1 rfl (hb C.2.1 d1) rfl ht) g
theorem Cxt.lxor (C : Cxt p m meth c Z a0 EL own mn bytes ml ret Ws) {x y : Int64} (d : Dec bytes pc (.lxor) 1 nx)  (g : Goes p l e R s m args below meth c Z EL nw Q F w h k n (mkF m nx Ls (.long (x ^^^ y) :: st))) : Goes p l e R s m args below meth c Z EL nw Q F w h k n (mkF m pc Ls (.long y :: .long x :: st)) := by
  obtain ⟨d1, rfl⟩ := d
  exact Goes.pure (fun T vm0 locs X t ht => XT.lxor X.here C.1 rfl (hb C.2.1 d1) rfl ht) g
theorem Cxt.lushr (C : Cxt p m meth c Z a0 EL own mn bytes ml ret Ws) {x : Int64} {y : Int32} (d : Dec bytes pc (.lushr) 1 nx)  (g : Goes p l e R s m args below meth c Z EL nw Q F w h k n (mkF m nx Ls (.long (XT.ushrL x y) :: st))) : Goes p l e R s m args below meth c Z EL nw Q F w h k n (mkF m pc Ls (.int y :: .long x :: st)) := by
  obtain ⟨d1, rfl⟩ := d
  exact Goes.pure (fun T vm0 locs X t ht => XT.lushr X.here C.1 rfl (hb C.2.1 d1) rfl ht) g
theorem Cxt.l2i (C : Cxt p m meth c Z a0 EL own mn bytes ml ret Ws) {x : Int64} (d : Dec bytes pc (.l2i) 1 nx)  (g : Goes p l e R s m args below meth c Z EL nw Q F w h k n (mkF m nx Ls (.int x.toInt32 :: st))) : Goes p l e R s m args below meth c Z EL nw Q F w h k n (mkF m pc Ls (.long x :: st)) := by
  obtain ⟨d1, rfl⟩ := d
  exact Goes.pure (fun T vm0 locs X t ht => XT.l2i X.here C.1 rfl (hb C.2.1 d1) rfl ht) g
theorem Cxt.i2l (C : Cxt p m meth c Z a0 EL own mn bytes ml ret Ws) {x : Int32} (d : Dec bytes pc (.i2l) 1 nx)  (g : Goes p l e R s m args below meth c Z EL nw Q F w h k n (mkF m nx Ls (.long x.toInt64 :: st))) : Goes p l e R s m args below meth c Z EL nw Q F w h k n (mkF m pc Ls (.int x :: st)) := by
  obtain ⟨d1, rfl⟩ := d
  exact Goes.pure (fun T vm0 locs X t ht => XT.i2l X.here C.1 rfl (hb C.2.1 d1) rfl ht) g
theorem Cxt.i2c (C : Cxt p m meth c Z a0 EL own mn bytes ml ret Ws) {x : Int32} (d : Dec bytes pc (.i2c) 1 nx)  (g : Goes p l e R s m args below meth c Z EL nw Q F w h k n (mkF m nx Ls (.int (c16 x) :: st))) : Goes p l e R s m args below meth c Z EL nw Q F w h k n (mkF m pc Ls (.int x :: st)) := by
  obtain ⟨d1, rfl⟩ := d
  exact Goes.pure (fun T vm0 locs X t ht => XT.i2c X.here C.1 rfl (hb C.2.1 d1) rfl ht) g
theorem Cxt.i2b (C : Cxt p m meth c Z a0 EL own mn bytes ml ret Ws) {x : Int32} (d : Dec bytes pc (.i2b) 1 nx)  (g : Goes p l e R s m args below meth c Z EL nw Q F w h k n (mkF m nx Ls (.int (b8 x) :: st))) : Goes p l e R s m args below meth c Z EL nw Q F w h k n (mkF m pc Ls (.int x :: st)) := by
  obtain ⟨d1, rfl⟩ := d
  exact Goes.pure (fun T vm0 locs X t ht => XT.i2b X.here C.1 rfl (hb C.2.1 d1) rfl ht) g
theorem Cxt.lcmp (C : Cxt p m meth c Z a0 EL own mn bytes ml ret Ws) {x y : Int64} (d : Dec bytes pc (.lcmp) 1 nx)  (g : Goes p l e R s m args below meth c Z EL nw Q F w h k n (mkF m nx Ls (.int (XT.cmpL x y) :: st))) : Goes p l e R s m args below meth c Z EL nw Q F w h k n (mkF m pc Ls (.long y :: .long x :: st)) := by
  obtain ⟨d1, rfl⟩ := d
  exact Goes.pure (fun T vm0 locs X t ht => XT.lcmp X.here C.1 rfl (hb C.2.1 d1) rfl ht) g
theorem Cxt.dup (C : Cxt p m meth c Z a0 EL own mn bytes ml ret Ws) {x : Value} (d : Dec bytes pc (.dup) 1 nx) (hc : x.category = 1) (g : Goes p l e R s m args below meth c Z EL nw Q F w h k n (mkF m nx Ls (x :: x :: st))) : Goes p l e R s m args below meth c Z EL nw Q F w h k n (mkF m pc Ls (x :: st)) := by
  obtain ⟨d1, rfl⟩ := d
  exact Goes.pure (fun T vm0 locs X t ht => XS.dup X.here C.1 rfl (hb C.2.1 d1) rfl hc ht) g
theorem Cxt.pop (C : Cxt p m meth c Z a0 EL own mn bytes ml ret Ws) {x : Value} (d : Dec bytes pc (.pop) 1 nx) (hc : x.category = 1) (g : Goes p l e R s m args below meth c Z EL nw Q F w h k n (mkF m nx Ls st)) : Goes p l e R s m args below meth c Z EL nw Q F w h k n (mkF m pc Ls (x :: st)) := by
  obtain ⟨d1, rfl⟩ := d
  exact Goes.pure (fun T vm0 locs X t ht => XT.pop X.here C.1 rfl (hb C.2.1 d1) rfl hc ht) g
theorem Cxt.dup_x1 (C : Cxt p m meth c Z a0 EL own mn bytes ml ret Ws) {x y : Value} (d : Dec bytes pc (.dup_x1) 1 nx) (hc : x.category = 1) (hc' : y.category = 1) (g : Goes p l e R s m args below meth c Z EL nw Q F w h k n (mkF m nx Ls (x :: y :: x :: st))) : Goes p l e R s m args below meth c Z EL nw Q F w h k n (mkF m pc Ls (x :: y :: st)) := by
  obtain ⟨d1, rfl⟩ := d
  exact Goes.pure (fun T vm0 locs X t ht => XT.dupX1 X.here C.1 rfl (hb C.2.1 d1) rfl hc hc' ht) g
theorem Cxt.dup2 (C : Cxt p m meth c Z a0 EL own mn bytes ml ret Ws) {x y : Value} (d : Dec bytes pc (.dup2) 1 nx) (hc : x.category = 1) (hc' : y.category = 1) (g : Goes p l e R s m args below meth c Z EL nw Q F w h k n (mkF m nx Ls (x :: y :: x :: y :: st))) : Goes p l e R s m args below meth c Z EL nw Q F w h k n (mkF m pc Ls (x :: y :: st)) := by
  obtain ⟨d1, rfl⟩ := d
  exact Goes.pure (fun T vm0 locs X t ht => XT.dup2 X.here C.1 rfl (hb C.2.1 d1) rfl hc hc' ht) g
theorem Cxt.lstoreN (C : Cxt p m meth c Z a0 EL own mn bytes ml ret Ws) {i : Fin 4} {x : Int64} {l' : Array Slot} (d : Dec bytes pc (.lstore_n i) 1 nx) (hl : storeLocals Ls i.val (.long x) = some l') (g : Goes p l e R s m args below meth c Z EL nw Q F w h k n (mkF m nx l' st)) : Goes p l e R s m args below meth c Z EL nw Q F w h k n (mkF m pc Ls (.long x :: st)) := by
  obtain ⟨d1, rfl⟩ := d
  exact Goes.pure (fun T vm0 locs X t ht => XT.lstoreN X.here C.1 rfl (hb C.2.1 d1) rfl hl ht) g
theorem Cxt.lstore (C : Cxt p m meth c Z a0 EL own mn bytes ml ret Ws) {i : Nat} {x : Int64} {l' : Array Slot} (d : Dec bytes pc (.lstore i) 2 nx) (hl : storeLocals Ls i (.long x) = some l') (g : Goes p l e R s m args below meth c Z EL nw Q F w h k n (mkF m nx l' st)) : Goes p l e R s m args below meth c Z EL nw Q F w h k n (mkF m pc Ls (.long x :: st)) := by
  obtain ⟨d1, rfl⟩ := d
  exact Goes.pure (fun T vm0 locs X t ht => XT.lstore X.here C.1 rfl (hb C.2.1 d1) rfl hl ht) g
def okS : Slot → Bool | .unset => true | .val w => w.category == 1 | .second => false
theorem store_ok {L : List Slot} {i : Nat} {o : Slot} {v : Value} (hold : L[i]? = some o) (ho : okS o = true) (hv : v.category = 1) : storeLocals ⟨L⟩ i v = some ⟨L.set i (.val v)⟩ := by
  have h1 : (⟨L⟩ : Array Slot)[i]? = some o := by simpa using hold
  have h2 : o = .unset ∨ ∃ w, o = .val w ∧ w.category = 1 := by
    cases o with
    | unset => exact Or.inl rfl
    | val w => exact Or.inr ⟨w, rfl, by simpa [okS] using ho⟩
    | second => simp [okS] at ho
  rw [XS.store1 h1 h2 hv]
  simp
theorem Cxt.istoreN (C : Cxt p m meth c Z a0 EL own mn bytes ml ret Ws) {L : List Slot} {o : Slot} {i : Fin 4} {x : Int32} (d : Dec bytes pc (.istore_n i) 1 nx) (hold : L[i.val]? = some o) (ho : okS o = true) (g : Goes p l e R s m args below meth c Z EL nw Q F w h k n (mkF m nx ⟨L.set i.val (.val (.int x))⟩ st)) : Goes p l e R s m args below meth c Z EL nw Q F w h k n (mkF m pc ⟨L⟩ (.int x :: st)) := by
  obtain ⟨d1, rfl⟩ := d
  exact Goes.pure (fun T vm0 locs X t ht => XS.istoreN X.here C.1 rfl (hb C.2.1 d1) rfl (store_ok hold ho rfl) ht) g
theorem Cxt.istore (C : Cxt p m meth c Z a0 EL own mn bytes ml ret Ws) {L : List Slot} {o : Slot} {i : Nat} {x : Int32} (d : Dec bytes pc (.istore i) 2 nx) (hold : L[i]? = some o) (ho : okS o = true) (g : Goes p l e R s m args below meth c Z EL nw Q F w h k n (mkF m nx ⟨L.set i (.val (.int x))⟩ st)) : Goes p l e R s m args below meth c Z EL nw Q F w h k n (mkF m pc ⟨L⟩ (.int x :: st)) := by
  obtain ⟨d1, rfl⟩ := d
  exact Goes.pure (fun T vm0 locs X t ht => XS.istore X.here C.1 rfl (hb C.2.1 d1) rfl (store_ok hold ho rfl) ht) g
theorem ref_cat {v : Value} (h : v.isRef = true) : v.category = 1 := by cases v <;> simp [Value.isRef] at h <;> rfl
theorem Cxt.astoreN (C : Cxt p m meth c Z a0 EL own mn bytes ml ret Ws) {L : List Slot} {o : Slot} {i : Fin 4} {x : Value} (d : Dec bytes pc (.astore_n i) 1 nx) (hv : x.isRef = true) (hold : L[i.val]? = some o) (ho : okS o = true) (g : Goes p l e R s m args below meth c Z EL nw Q F w h k n (mkF m nx ⟨L.set i.val (.val x)⟩ st)) : Goes p l e R s m args below meth c Z EL nw Q F w h k n (mkF m pc ⟨L⟩ (x :: st)) := by
  obtain ⟨d1, rfl⟩ := d
  exact Goes.pure (fun T vm0 locs X t ht => XS.astoreN X.here C.1 rfl (hb C.2.1 d1) rfl hv (store_ok hold ho (ref_cat hv)) ht) g
theorem Cxt.astore (C : Cxt p m meth c Z a0 EL own mn bytes ml ret Ws) {L : List Slot} {o : Slot} {i : Nat} {x : Value} (d : Dec bytes pc (.astore i) 2 nx) (hv : x.isRef = true) (hold : L[i]? = some o) (ho : okS o = true) (g : Goes p l e R s m args below meth c Z EL nw Q F w h k n (mkF m nx ⟨L.set i (.val x)⟩ st)) : Goes p l e R s m args below meth c Z EL nw Q F w h k n (mkF m pc ⟨L⟩ (x :: st)) := by
  obtain ⟨d1, rfl⟩ := d
  exact Goes.pure (fun T vm0 locs X t ht => XS.astore X.here C.1 rfl (hb C.2.1 d1) rfl hv (store_ok hold ho (ref_cat hv)) ht) g
theorem Cxt.iinc (C : Cxt p m meth c Z a0 EL own mn bytes ml ret Ws) {L : List Slot} {i : Nat} {cst : Int} {x : Int32} (y : Int32) (d : Dec bytes pc (.iinc i cst) 3 nx) (hy : Int32.ofInt cst = y) (hl : L[i]? = some (.val (.int x))) (g : Goes p l e R s m args below meth c Z EL nw Q F w h k n (mkF m nx ⟨L.set i (.val (.int (x + y)))⟩ st)) : Goes p l e R s m args below meth c Z EL nw Q F w h k n (mkF m pc ⟨L⟩ st) := by
  subst hy; obtain ⟨d1, rfl⟩ := d
  exact Goes.pure (fun T vm0 locs X t ht => XS.iinc X.here C.1 rfl (hb C.2.1 d1) (by simpa using hl) (store_ok hl rfl rfl) ht) g
theorem Cxt.goto (C : Cxt p m meth c Z a0 EL own mn bytes ml ret Ws) {o : Int} {tgt : Nat} (d : DecJ bytes pc (.goto o) o nx tgt) (g : Goes p l e R s m args below meth c Z EL nw Q F w h k n (mkF m tgt Ls st)) : Goes p l e R s m args below meth c Z EL nw Q F w h k n (mkF m pc Ls st) :=
  Goes.pure (fun T vm0 locs X t ht => XS.goto X.here C.1 rfl rfl (hb C.2.1 d.1) d.2.2.1 d.2.2.2 ht) g
theorem Cxt.if_eq (C : Cxt p m meth c Z a0 EL own mn bytes ml ret Ws) {o : Int} {tgt : Nat} {x : Int32} (d : DecJ bytes pc (.ifCond .eq o) o nx tgt) (g1 : x = 0 → Goes p l e R s m args below meth c Z EL nw Q F w h k n (mkF m tgt Ls st)) (g2 : ¬ x = 0 → Goes p l e R s m args below meth c Z EL nw Q F w h k n (mkF m nx Ls st)) : Goes p l e R s m args below meth c Z EL nw Q F w h k n (mkF m pc Ls (.int x :: st)) := by
  obtain ⟨d1, rfl, d3, d4⟩ := d
  by_cases q : x = 0
  · exact Goes.pure (fun T vm0 locs X t ht => XS.ifYes X.here C.1 rfl rfl (hb C.2.1 d1) rfl (XT.i0_eq_t q) d3 d4 ht) (g1 q)
  · exact Goes.pure (fun T vm0 locs X t ht => XS.ifNo X.here C.1 rfl (hb C.2.1 d1) rfl (XT.i0_eq_f q) ht) (g2 q)
theorem Cxt.if_ne (C : Cxt p m meth c Z a0 EL own mn bytes ml ret Ws) {o : Int} {tgt : Nat} {x : Int32} (d : DecJ bytes pc (.ifCond .ne o) o nx tgt) (g1 : ¬ x = 0 → Goes p l e R s m args below meth c Z EL nw Q F w h k n (mkF m tgt Ls st)) (g2 : x = 0 → Goes p l e R s m args below meth c Z EL nw Q F w h k n (mkF m nx Ls st)) : Goes p l e R s m args below meth c Z EL nw Q F w h k n (mkF m pc Ls (.int x :: st)) := by
  obtain ⟨d1, rfl, d3, d4⟩ := d
  by_cases q : x = 0
  · exact Goes.pure (fun T vm0 locs X t ht => XS.ifNo X.here C.1 rfl (hb C.2.1 d1) rfl (XT.i0_ne_f q) ht) (g2 q)
  · exact Goes.pure (fun T vm0 locs X t ht => XS.ifYes X.here C.1 rfl rfl (hb C.2.1 d1) rfl (XT.i0_ne_t q) d3 d4 ht) (g1 q)
theorem Cxt.if_lt (C : Cxt p m meth c Z a0 EL own mn bytes ml ret Ws) {o : Int} {tgt : Nat} {x : Int32} (d : DecJ bytes pc (.ifCond .lt o) o nx tgt) (g1 : x < 0 → Goes p l e R s m args below meth c Z EL nw Q F w h k n (mkF m tgt Ls st)) (g2 : ¬ x < 0 → Goes p l e R s m args below meth c Z EL nw Q F w h k n (mkF m nx Ls st)) : Goes p l e R s m args below meth c Z EL nw Q F w h k n (mkF m pc Ls (.int x :: st)) := by
  obtain ⟨d1, rfl, d3, d4⟩ := d
  by_cases q : x < 0
  · exact Goes.pure (fun T vm0 locs X t ht => XS.ifYes X.here C.1 rfl rfl (hb C.2.1 d1) rfl (XT.i0_lt_t q) d3 d4 ht) (g1 q)
  · exact Goes.pure (fun T vm0 locs X t ht => XS.ifNo X.here C.1 rfl (hb C.2.1 d1) rfl (XT.i0_lt_f q) ht) (g2 q)
theorem Cxt.if_ge (C : Cxt p m meth c Z a0 EL own mn bytes ml ret Ws) {o : Int} {tgt : Nat} {x : Int32} (d : DecJ bytes pc (.ifCond .ge o) o nx tgt) (g1 : ¬ x < 0 → Goes p l e R s m args below meth c Z EL nw Q F w h k n (mkF m tgt Ls st)) (g2 : x < 0 → Goes p l e R s m args below meth c Z EL nw Q F w h k n (mkF m nx Ls st)) : Goes p l e R s m args below meth c Z EL nw Q F w h k n (mkF m pc Ls (.int x :: st)) := by
  obtain ⟨d1, rfl, d3, d4⟩ := d
  by_cases q : x < 0
  · exact Goes.pure (fun T vm0 locs X t ht => XS.ifNo X.here C.1 rfl (hb C.2.1 d1) rfl (XT.i0_ge_f q) ht) (g2 q)
  · exact Goes.pure (fun T vm0 locs X t ht => XS.ifYes X.here C.1 rfl rfl (hb C.2.1 d1) rfl (XT.i0_ge_t q) d3 d4 ht) (g1 q)
theorem Cxt.if_gt (C : Cxt p m meth c Z a0 EL own mn bytes ml ret Ws) {o : Int} {tgt : Nat} {x : Int32} (d : DecJ bytes pc (.ifCond .gt o) o nx tgt) (g1 : 0 < x → Goes p l e R s m args below meth c Z EL nw Q F w h k n (mkF m tgt Ls st)) (g2 : ¬ 0 < x → Goes p l e R s m args below meth c Z EL nw Q F w h k n (mkF m nx Ls st)) : Goes p l e R s m args below meth c Z EL nw Q F w h k n (mkF m pc Ls (.int x :: st)) := by
  obtain ⟨d1, rfl, d3, d4⟩ := d
  by_cases q : 0 < x
  · exact Goes.pure (fun T vm0 locs X t ht => XS.ifYes X.here C.1 rfl rfl (hb C.2.1 d1) rfl (XT.i0_gt_t q) d3 d4 ht) (g1 q)
  · exact Goes.pure (fun T vm0 locs X t ht => XS.ifNo X.here C.1 rfl (hb C.2.1 d1) rfl (XT.i0_gt_f q) ht) (g2 q)
theorem Cxt.if_le (C : Cxt p m meth c Z a0 EL own mn bytes ml ret Ws) {o : Int} {tgt : Nat} {x : Int32} (d : DecJ bytes pc (.ifCond .le o) o nx tgt) (g1 : ¬ 0 < x → Goes p l e R s m args below meth c Z EL nw Q F w h k n (mkF m tgt Ls st)) (g2 : 0 < x → Goes p l e R s m args below meth c Z EL nw Q F w h k n (mkF m nx Ls st)) : Goes p l e R s m args below meth c Z EL nw Q F w h k n (mkF m pc Ls (.int x :: st)) := by
  obtain ⟨d1, rfl, d3, d4⟩ := d
  by_cases q : 0 < x
  · exact Goes.pure (fun T vm0 locs X t ht => XS.ifNo X.here C.1 rfl (hb C.2.1 d1) rfl (XT.i0_le_f q) ht) (g2 q)
  · exact Goes.pure (fun T vm0 locs X t ht => XS.ifYes X.here C.1 rfl rfl (hb C.2.1 d1) rfl (XT.i0_le_t q) d3 d4 ht) (g1 q)
theorem Cxt.icmp_eq (C : Cxt p m meth c Z a0 EL own mn bytes ml ret Ws) {o : Int} {tgt : Nat} {x y : Int32} (d : DecJ bytes pc (.if_icmp .eq o) o nx tgt) (g1 : x = y → Goes p l e R s m args below meth c Z EL nw Q F w h k n (mkF m tgt Ls st)) (g2 : ¬ x = y → Goes p l e R s m args below meth c Z EL nw Q F w h k n (mkF m nx Ls st)) : Goes p l e R s m args below meth c Z EL nw Q F w h k n (mkF m pc Ls (.int y :: .int x :: st)) := by
  obtain ⟨d1, rfl, d3, d4⟩ := d
  by_cases q : x = y
  · exact Goes.pure (fun T vm0 locs X t ht => XS.icmpYes X.here C.1 rfl rfl (hb C.2.1 d1) rfl (XT.ii_eq_t q) d3 d4 ht) (g1 q)
  · exact Goes.pure (fun T vm0 locs X t ht => XS.icmpNo X.here C.1 rfl (hb C.2.1 d1) rfl (XT.ii_eq_f q) ht) (g2 q)
theorem Cxt.icmp_ne (C : Cxt p m meth c Z a0 EL own mn bytes ml ret Ws) {o : Int} {tgt : Nat} {x y : Int32} (d : DecJ bytes pc (.if_icmp .ne o) o nx tgt) (g1 : ¬ x = y → Goes p l e R s m args below meth c Z EL nw Q F w h k n (mkF m tgt Ls st)) (g2 : x = y → Goes p l e R s m args below meth c Z EL nw Q F w h k n (mkF m nx Ls st)) : Goes p l e R s m args below meth c Z EL nw Q F w h k n (mkF m pc Ls (.int y :: .int x :: st)) := by
  obtain ⟨d1, rfl, d3, d4⟩ := d
  by_cases q : x = y
  · exact Goes.pure (fun T vm0 locs X t ht => XS.icmpNo X.here C.1 rfl (hb C.2.1 d1) rfl (XT.ii_ne_f q) ht) (g2 q)
  · exact Goes.pure (fun T vm0 locs X t ht => XS.icmpYes X.here C.1 rfl rfl (hb C.2.1 d1) rfl (XT.ii_ne_t q) d3 d4 ht) (g1 q)
theorem Cxt.icmp_lt (C : Cxt p m meth c Z a0 EL own mn bytes ml ret Ws) {o : Int} {tgt : Nat} {x y : Int32} (d : DecJ bytes pc (.if_icmp .lt o) o nx tgt) (g1 : x < y → Goes p l e R s m args below meth c Z EL nw Q F w h k n (mkF m tgt Ls st)) (g2 : ¬ x < y → Goes p l e R s m args below meth c Z EL nw Q F w h k n (mkF m nx Ls st)) : Goes p l e R s m args below meth c Z EL nw Q F w h k n (mkF m pc Ls (.int y :: .int x :: st)) := by
  obtain ⟨d1, rfl, d3, d4⟩ := d
  by_cases q : x < y
  · exact Goes.pure (fun T vm0 locs X t ht => XS.icmpYes X.here C.1 rfl rfl (hb C.2.1 d1) rfl (XT.ii_lt_t q) d3 d4 ht) (g1 q)
  · exact Goes.pure (fun T vm0 locs X t ht => XS.icmpNo X.here C.1 rfl (hb C.2.1 d1) rfl (XT.ii_lt_f q) ht) (g2 q)
theorem Cxt.icmp_ge (C : Cxt p m meth c Z a0 EL own mn bytes ml ret Ws) {o : Int} {tgt : Nat} {x y : Int32} (d : DecJ bytes pc (.if_icmp .ge o) o nx tgt) (g1 : ¬ x < y → Goes p l e R s m args below meth c Z EL nw Q F w h k n (mkF m tgt Ls st)) (g2 : x < y → Goes p l e R s m args below meth c Z EL nw Q F w h k n (mkF m nx Ls st)) : Goes p l e R s m args below meth c Z EL nw Q F w h k n (mkF m pc Ls (.int y :: .int x :: st)) := by
  obtain ⟨d1, rfl, d3, d4⟩ := d
  by_cases q : x < y
  · exact Goes.pure (fun T vm0 locs X t ht => XS.icmpNo X.here C.1 rfl (hb C.2.1 d1) rfl (XT.ii_ge_f q) ht) (g2 q)
  · exact Goes.pure (fun T vm0 locs X t ht => XS.icmpYes X.here C.1 rfl rfl (hb C.2.1 d1) rfl (XT.ii_ge_t q) d3 d4 ht) (g1 q)
theorem Cxt.icmp_gt (C : Cxt p m meth c Z a0 EL own mn bytes ml ret Ws) {o : Int} {tgt : Nat} {x y : Int32} (d : DecJ bytes pc (.if_icmp .gt o) o nx tgt) (g1 : y < x → Goes p l e R s m args below meth c Z EL nw Q F w h k n (mkF m tgt Ls st)) (g2 : ¬ y < x → Goes p l e R s m args below meth c Z EL nw Q F w h k n (mkF m nx Ls st)) : Goes p l e R s m args below meth c Z EL nw Q F w h k n (mkF m pc Ls (.int y :: .int x :: st)) := by
  obtain ⟨d1, rfl, d3, d4⟩ := d
  by_cases q : y < x
  · exact Goes.pure (fun T vm0 locs X t ht => XS.icmpYes X.here C.1 rfl rfl (hb C.2.1 d1) rfl (XT.ii_gt_t q) d3 d4 ht) (g1 q)
  · exact Goes.pure (fun T vm0 locs X t ht => XS.icmpNo X.here C.1 rfl (hb C.2.1 d1) rfl (XT.ii_gt_f q) ht) (g2 q)
theorem Cxt.icmp_le (C : Cxt p m meth c Z a0 EL own mn bytes ml ret Ws) {o : Int} {tgt : Nat} {x y : Int32} (d : DecJ bytes pc (.if_icmp .le o) o nx tgt) (g1 : ¬ y < x → Goes p l e R s m args below meth c Z EL nw Q F w h k n (mkF m tgt Ls st)) (g2 : y < x → Goes p l e R s m args below meth c Z EL nw Q F w h k n (mkF m nx Ls st)) : Goes p l e R s m args below meth c Z EL nw Q F w h k n (mkF m pc Ls (.int y :: .int x :: st)) := by
  obtain ⟨d1, rfl, d3, d4⟩ := d
  by_cases q : y < x
  · exact Goes.pure (fun T vm0 locs X t ht => XS.icmpNo X.here C.1 rfl (hb C.2.1 d1) rfl (XT.ii_le_f q) ht) (g2 q)
  · exact Goes.pure (fun T vm0 locs X t ht => XS.icmpYes X.here C.1 rfl rfl (hb C.2.1 d1) rfl (XT.ii_le_t q) d3 d4 ht) (g1 q)
theorem Cxt.ifnullY (C : Cxt p m meth c Z a0 EL own mn bytes ml ret Ws) {o : Int} {tgt : Nat} (d : DecJ bytes pc (.ifnull o) o nx tgt) (g : Goes p l e R s m args below meth c Z EL nw Q F w h k n (mkF m tgt Ls st)) : Goes p l e R s m args below meth c Z EL nw Q F w h k n (mkF m pc Ls (.null :: st)) :=
  Goes.pure (fun T vm0 locs X t ht => XS.ifnullYes X.here C.1 rfl rfl (hb C.2.1 d.1) rfl d.2.2.1 d.2.2.2 ht) g
theorem Cxt.ifnullN (C : Cxt p m meth c Z a0 EL own mn bytes ml ret Ws) {o : Int} {tgt : Nat} {b : Addr} (d : DecJ bytes pc (.ifnull o) o nx tgt) (g : Goes p l e R s m args below meth c Z EL nw Q F w h k n (mkF m nx Ls st)) : Goes p l e R s m args below meth c Z EL nw Q F w h k n (mkF m pc Ls (.ref b :: st)) := by
  obtain ⟨d1, rfl, d3, d4⟩ := d
  exact Goes.pure (fun T vm0 locs X t ht => XS.ifnullNo X.here C.1 rfl (hb C.2.1 d1) rfl ht) g
theorem Cxt.ifnonnullY (C : Cxt p m meth c Z a0 EL own mn bytes ml ret Ws) {o : Int} {tgt : Nat} {b : Addr} (d : DecJ bytes pc (.ifnonnull o) o nx tgt) (g : Goes p l e R s m args below meth c Z EL nw Q F w h k n (mkF m tgt Ls st)) : Goes p l e R s m args below meth c Z EL nw Q F w h k n (mkF m pc Ls (.ref b :: st)) :=
  Goes.pure (fun T vm0 locs X t ht => XT.ifnonnullYes X.here C.1 rfl rfl (hb C.2.1 d.1) rfl d.2.2.1 d.2.2.2 ht) g
theorem Cxt.ifnonnullN (C : Cxt p m meth c Z a0 EL own mn bytes ml ret Ws) {o : Int} {tgt : Nat} (d : DecJ bytes pc (.ifnonnull o) o nx tgt) (g : Goes p l e R s m args below meth c Z EL nw Q F w h k n (mkF m nx Ls st)) : Goes p l e R s m args below meth c Z EL nw Q F w h k n (mkF m pc Ls (.null :: st)) := by
  obtain ⟨d1, rfl, d3, d4⟩ := d
  exact Goes.pure (fun T vm0 locs X t ht => XT.ifnonnullNo X.here C.1 rfl (hb C.2.1 d1) rfl ht) g
theorem Cxt.acmp_eq (C : Cxt p m meth c Z a0 EL own mn bytes ml ret Ws) {o : Int} {tgt : Nat} {x y : Value} (d : DecJ bytes pc (.if_acmp .eq o) o nx tgt) (hx : x.isRef = true) (hy : y.isRef = true) (g1 : x = y → Goes p l e R s m args below meth c Z EL nw Q F w h k n (mkF m tgt Ls st)) (g2 : ¬ x = y → Goes p l e R s m args below meth c Z EL nw Q F w h k n (mkF m nx Ls st)) : Goes p l e R s m args below meth c Z EL nw Q F w h k n (mkF m pc Ls (y :: x :: st)) := by
  obtain ⟨d1, rfl, d3, d4⟩ := d
  by_cases q : x = y
  · exact Goes.pure (fun T vm0 locs X t ht => XT.acmpYes X.here C.1 rfl rfl (hb C.2.1 d1) rfl hx hy (by simp [XT.acmp, q]) d3 d4 ht) (g1 q)
  · exact Goes.pure (fun T vm0 locs X t ht => XT.acmpNo X.here C.1 rfl (hb C.2.1 d1) rfl hx hy (by simp [XT.acmp, q]) ht) (g2 q)
theorem Cxt.acmp_ne (C : Cxt p m meth c Z a0 EL own mn bytes ml ret Ws) {o : Int} {tgt : Nat} {x y : Value} (d : DecJ bytes pc (.if_acmp .ne o) o nx tgt) (hx : x.isRef = true) (hy : y.isRef = true) (g1 : ¬ x = y → Goes p l e R s m args below meth c Z EL nw Q F w h k n (mkF m tgt Ls st)) (g2 : x = y → Goes p l e R s m args below meth c Z EL nw Q F w h k n (mkF m nx Ls st)) : Goes p l e R s m args below meth c Z EL nw Q F w h k n (mkF m pc Ls (y :: x :: st)) := by
  obtain ⟨d1, rfl, d3, d4⟩ := d
  by_cases q : x = y
  · exact Goes.pure (fun T vm0 locs X t ht => XT.acmpNo X.here C.1 rfl (hb C.2.1 d1) rfl hx hy (by simp [XT.acmp, q]) ht) (g2 q)
  · exact Goes.pure (fun T vm0 locs X t ht => XT.acmpYes X.here C.1 rfl rfl (hb C.2.1 d1) rfl hx hy (by simp [XT.acmp, q]) d3 d4 ht) (g1 q)
theorem Cxt.ends (C : Cxt p m meth c Z a0 EL own mn bytes ml ret Ws) {T : State} {vm0 : Vm} {locs : List Loc} {k0 : Nat} (H : Here p l e R s m args below meth c Z EL nw F w h k n T vm0 locs k0) {v : Option Value} (hv : ret = none → v = none) (hq : Q v h) (hk : k ≤ R.cells) (hn : n ≤ R.slots) {f : JFrame}
    (stp : ∀ fs, (∀ (f : JFrame) (acts : List Action), f.method = m → f.locked = none → f.entered = [] → (doReturn e (T.setTop f) acts v).1 = T.setFrames fs) → Steps p.tables e below (T.setTop f) (T.setFrames fs)) : Ends p e R s below Z EL nw Q (T.setTop f) := by
  obtain ⟨X, eT, N, S, hk0, hZ, H1, hw, hF, O, hwm, hbk⟩ := H
  obtain ⟨fs, h1, h2, h3, h4⟩ := X.leaveW S (by rw [eT]; exact hk0) (v := v) (fun q => hv (C.2.2.2.2.1 ▸ q)) C.2.2.2.2.2.1
  have A := CHv.at X hZ C.2.2.2.2.2.2.2.2 H1.1
  refine ⟨T.setFrames fs, v, locs, stp fs h1, h2, h3, ?_, N, ?_, fun q => ⟨State.WarmedH.trans (hw q) X.warmed, ?_⟩, ?_, ⟨h4.1, h4.2.1, h4.2.2.1, h4.2.2.2.mono hk hn⟩⟩
  · show Q v T.heap; rw [eT]; exact hq
  · show CHr Z EL s.vm s.heap T.vm T.heap; rw [eT]; exact H1.trans A
  · intro y hy
    have hy' : Bk Z EL T.vm h y := eT ▸ hy
    rcases A.2.2 y hy' with z | z
    · exact hbk q y z
    · obtain ⟨cell, hcell⟩ := hy'.there
      exact absurd (Array.getElem?_eq_some_iff.mp hcell).1 (Nat.not_lt.mpr z)
  · show Ext Z.heap T.heap; rw [eT]; exact O
theorem Cxt.return_ (C : Cxt p m meth c Z a0 EL own mn bytes ml ret Ws) (d : Dec bytes pc .return_ 1 nx) (hr : ret = none) (hq : Q none h) (hk : k ≤ R.cells) (hn : n ≤ R.slots) : Goes p l e R s m args below meth c Z EL nw Q F w h k n (mkF m pc Ls []) := fun T vm0 locs k0 H =>
  C.ends H (fun _ => rfl) hq hk hn fun fs hl => H.1.returnOut C.1 (C.2.2.2.2.1.trans hr) (hb C.2.1 d.1) hl
theorem Cxt.ireturn (C : Cxt p m meth c Z a0 EL own mn bytes ml ret Ws) {t : FieldType} {v : Int32} (d : Dec bytes pc .ireturn 1 nx) (hr : ret = some t) (ht : t = .int ∨ t = .boolean ∨ t = .byte ∨ t = .char ∨ t = .short) (hnv : narrow t (.int v) = .int v) (hq : Q (some (.int v)) h) (hk : k ≤ R.cells) (hn : n ≤ R.slots) : Goes p l e R s m args below meth c Z EL nw Q F w h k n (mkF m pc Ls (.int v :: st)) := fun T vm0 locs k0 H =>
  C.ends H (fun q => by rw [hr] at q; cases q) hq hk hn fun fs hl => retOut H.1 C.1 (C.2.2.2.2.1.trans hr) hnv (Or.inl ⟨rfl, ht, v, rfl⟩) (hb C.2.1 d.1) hl
theorem Cxt.areturn (C : Cxt p m meth c Z a0 EL own mn bytes ml ret Ws) {t : FieldType} {v : Value} (d : Dec bytes pc .areturn 1 nx) (hr : ret = some t) (ht : t.isReference = true) (hv : v.isRef = true) (hnv : narrow t v = v) (hq : Q (some v) h) (hk : k ≤ R.cells) (hn : n ≤ R.slots) : Goes p l e R s m args below meth c Z EL nw Q F w h k n (mkF m pc Ls (v :: st)) := fun T vm0 locs k0 H =>
  C.ends H (fun q => by rw [hr] at q; cases q) hq hk hn fun fs hl => retOut H.1 C.1 (C.2.2.2.2.1.trans hr) hnv (Or.inr (Or.inr (Or.inr (Or.inr ⟨rfl, ht, hv⟩)))) (hb C.2.1 d.1) hl
theorem Cxt.new (C : Cxt p m meth c Z a0 EL own mn bytes ml ret Ws) {idx q : Nat} {cls : String} (d : Dec bytes pc (.new idx) 3 nx) (ww : Jvm.Cond.classLink own idx cls ∈ Ws) (wi : Jvm.Cond.instantiable cls q ∈ Ws) (wz : Jvm.Cond.initialized cls ∈ Ws) (hk : k + 1 ≤ R.cells) (hn : n + q ≤ R.slots)
    (g : ∀ h' a, @Eq Nat a h.size → Ext h h' → Exa Z h' a cls → (∀ {O nm d : String} {ty : FieldType}, Laid Z a0 cls O nm d → parseFieldDescriptor d = some ty → Fld Z h' a O nm d (defaultValue ty)) → Goes p l e R s m args below meth c Z EL nw Q (a :: F) w h' (k + 1) (n + q) (mkF m nx Ls (.ref a :: st))) : Goes p l e R s m args below meth c Z EL nw Q F w h k n (mkF m pc Ls st) := by
  obtain ⟨d1, rfl⟩ := d
  intro T vm0 locs k0 H
  obtain ⟨X, eT, N, S, hk0, hZ, H1, hw, hF, O, hwm, hbk⟩ := id H
  obtain ⟨T', h', X', e', E', A', D', -, st'⟩ := RoadKit.newO X C.1 hZ (C.own_at hZ) (C.wrd ww) (C.wrd wi) (C.wrd wz) eT (g := mkF m pc Ls st) rfl (hb C.2.1 d1) hk hn
  obtain ⟨X2, eT2, N2, S2, hk2, hZ2, H2, hw2, hF2, O2, hwm2, hbk2⟩ := H.step X' e' N (keep_ext E' []) (fun x hx => nomatch hx)
  obtain ⟨t, v, L, h1, r⟩ := g h' h.size rfl E' A' D' T' vm0 locs k0 ⟨X2, eT2, N2, S2, hk2, hZ2, H2, hw2, fun x hx => (List.mem_cons.mp hx).elim (fun q => by subst q; exact ⟨A'.lt, (Safe.new (Nat.le_refl _)).ext E' H1.1⟩) (hF2 x), O2, hwm2, hbk2⟩
  exact ⟨t, v, L, st' _ h1, r⟩
theorem Cxt.getF (C : Cxt p m meth c Z a0 EL own mn bytes ml ret Ws) {idx : Nat} {O fn fd : String} {a : Addr} {v : Value} (d : Dec bytes pc (.getfield idx) 3 nx) (ww : Jvm.Cond.fieldLink own idx O fn fd ∈ Ws) (A : Fld Z h a O fn fd v) (g : Goes p l e R s m args below meth c Z EL nw Q F w h k n (mkF m nx Ls (v :: st))) : Goes p l e R s m args below meth c Z EL nw Q F w h k n (mkF m pc Ls (.ref a :: st)) := by
  obtain ⟨d1, rfl⟩ := d
  intro T vm0 locs k0 H
  obtain ⟨T', X', e', st'⟩ := RoadKit.getF H.1 C.1 H.2.2.2.2.2.1 (C.own_at H.2.2.2.2.2.1) (host := "") (Or.inl (C.wrd ww)) Via.refl H.2.1 A (g := mkF m pc Ls (.ref a :: st)) rfl rfl (hb C.2.1 d1)
  obtain ⟨t, v, L, h1, r⟩ := g T' vm0 locs k0 (H.step X' e' H.2.2.1 (Keep.refl _ []) (fun x hx => nomatch hx))
  exact ⟨t, v, L, st' _ h1, r⟩
theorem Cxt.getFV (C : Cxt p m meth c Z a0 EL own mn bytes ml ret Ws) {idx : Nat} {R0 O fn fd : String} {a : Addr} {v : Value} (d : Dec bytes pc (.getfield idx) 3 nx) (ww : Jvm.Cond.fieldLink own idx R0 fn fd ∈ Ws) (wv : Jvm.Cond.sameField R0 O fn fd ∈ Ws) (A : Fld Z h a O fn fd v) (g : Goes p l e R s m args below meth c Z EL nw Q F w h k n (mkF m nx Ls (v :: st))) : Goes p l e R s m args below meth c Z EL nw Q F w h k n (mkF m pc Ls (.ref a :: st)) := by
  obtain ⟨d1, rfl⟩ := d
  intro T vm0 locs k0 H
  obtain ⟨T', X', e', st'⟩ := RoadKit.getF H.1 C.1 H.2.2.2.2.2.1 (C.own_at H.2.2.2.2.2.1) (host := "") (Or.inl (C.wrd ww)) (Via.of (C.wrd wv)) H.2.1 A (g := mkF m pc Ls (.ref a :: st)) rfl rfl (hb C.2.1 d1)
  obtain ⟨t, v, L, h1, r⟩ := g T' vm0 locs k0 (H.step X' e' H.2.2.1 (Keep.refl _ []) (fun x hx => nomatch hx))
  exact ⟨t, v, L, st' _ h1, r⟩
theorem Cxt.getS (C : Cxt p m meth c Z a0 EL own mn bytes ml ret Ws) {idx : Nat} {O fn fd : String} {v : Value} (d : Dec bytes pc (.getstatic idx) 3 nx) (ww : Jvm.Cond.fieldLink own idx O fn fd ∈ Ws) (A : Sta Z Z.heap O fn fd v) (g : Goes p l e R s m args below meth c Z EL nw Q F w h k n (mkF m nx Ls (v :: st))) : Goes p l e R s m args below meth c Z EL nw Q F w h k n (mkF m pc Ls st) := by
  obtain ⟨d1, rfl⟩ := d
  intro T vm0 locs k0 H
  obtain ⟨T', X', e', st'⟩ := RoadKit.getS H.1 C.1 H.2.2.2.2.2.1 (C.own_at H.2.2.2.2.2.1) (host := "") (C.wrd ww) Via.refl H.2.1 (A.ext H.2.2.2.2.2.2.2.2.2.1) (g := mkF m pc Ls st) rfl (hb C.2.1 d1)
  obtain ⟨t, v, L, h1, r⟩ := g T' vm0 locs k0 (H.step X' e' H.2.2.1 (Keep.refl _ []) (fun x hx => nomatch hx))
  exact ⟨t, v, L, st' _ h1, r⟩
theorem Cxt.putF (C : Cxt p m meth c Z a0 EL own mn bytes ml ret Ws) {idx kk : Nat} {O cls fn fd : String} {ty : FieldType} {a : Addr} {v old : Value} (d : Dec bytes pc (.putfield idx) 3 nx) (ww : Jvm.Cond.fieldLink own idx O fn fd ∈ Ws) (A : Fld Z h a O fn fd old) (E : Exa Z h a cls)
    (Ly : Jvm.Cond.lays cls O fn fd ∈ Ws ∨ (Jvm.Cond.laysFinal cls O fn fd ∈ Ws ∧ own = O ∧ mn = "<init>")) (wi : Jvm.Cond.instantiable cls kk ∈ Ws) (hty : parseFieldDescriptor fd = some ty) (hnv : narrow ty v = v) (hf : fits ty v = true) (na : Z.heap.size ≤ a) (sf : a ∈ F ∨ w ≤ a ∨ (cls ≠ "java/lang/String" ∧ cls ≠ "[B"))
    (g : ∀ h', Wr h h' a (RoadKit.slotOf Z O fn fd) v → Goes p l e R s m args below meth c Z EL nw Q F w h' k n (mkF m nx Ls st)) : Goes p l e R s m args below meth c Z EL nw Q F w h k n (mkF m pc Ls (v :: .ref a :: st)) := by
  obtain ⟨d1, rfl⟩ := d
  intro T vm0 locs k0 H
  obtain ⟨X, eT, N, S, hk0, hZ, H1, hw, hF, O', hwm, hbk⟩ := id H
  obtain ⟨T', h', X', e', W', st'⟩ := RoadKit.putF X C.1 hZ (C.own_at hZ) (host := "") (Or.inl (C.wrd ww)) Via.refl eT A E (Ly.imp C.wrd fun q => ⟨C.wrd q.1, q.2.1, C.2.2.2.2.2.2.1.trans q.2.2⟩) (C.wrd wi) hty hnv hf (g := mkF m pc Ls (v :: .ref a :: st)) rfl rfl (hb C.2.1 d1)
  have sa : Safe Z EL vm0 h a := sf.elim (fun q => (hF a q).2) fun q => q.elim (hwm a) fun q => Safe.exa hZ.alike E q.1 q.2
  obtain ⟨t, v, L, h1, r⟩ := g h' W' T' vm0 _ k0 (H.step X' e' (Fr.snoc X' N na) (Keep.of_wr W') (fun x hx => by cases List.mem_singleton.mp hx; exact ⟨sa, na⟩))
  exact ⟨t, v, L, st' _ h1, r⟩
theorem Cxt.initO (C : Cxt p m meth c Z a0 EL own mn bytes ml ret Ws) {idx : Nat} {a : Addr} (d : Dec bytes pc (.invokespecial idx) 3 nx) (w1 : Jvm.Cond.methodLink own idx Lib.objectInit ∈ Ws) (w2 : Jvm.Cond.instanceMethod Lib.objectInit ∈ Ws) (w3 : Jvm.Cond.code Lib.objectInit ⟨#[0xb1]⟩ 1 none ∈ Ws) (hsz : Ls.size = ml) (hf : 1 ≤ R.frames) (hl : (st.map fun v => v.category).sum + 12 ≤ R.locals)
    (g : Goes p l e R s m args below meth c Z EL nw Q F w h k n (mkF m nx Ls st)) : Goes p l e R s m args below meth c Z EL nw Q F w h k n (mkF m pc Ls (.ref a :: st)) := by
  obtain ⟨d1, rfl⟩ := d
  intro T vm0 locs k0 H
  obtain ⟨T', X', e', st'⟩ := RoadKit.initO H.1 C.1 H.2.2.2.2.2.1 (C.own_at H.2.2.2.2.2.1) (C.wrd w1) (C.wrd w2) (C.wrd w3) H.2.1 (g := mkF m pc Ls (.ref a :: st)) rfl (hsz.trans C.2.2.1.symm) rfl (hb C.2.1 d1) hf (W := (st.map fun v => v.category).sum) (by show 2 * 0 + _ ≤ _; omega) hl
  obtain ⟨t, v, L, h1, r⟩ := g T' vm0 locs k0 (H.step X' e' H.2.2.1 (Keep.refl _ []) (fun x hx => nomatch hx))
  exact ⟨t, v, L, st' _ h1, r⟩
/-- the array at a holds just these values -/
def Arl (Z : State) (h : Heap) (a : Addr) (ty : FieldType) (vs : List Value) : Prop := ∃ cl : Cell, Arr Z h a cl ty ∧ cl.slots.toList = vs ∧ vs.length < 2 ^ 31 ∧ ∀ v ∈ vs, fits ty v = true
theorem Arl.lt {a : Addr} {ty : FieldType} {vs : List Value} (A : Arl Z h a ty vs) : a < h.size := by obtain ⟨cl, A, -⟩ := A; exact A.lt
theorem Arl.ext {h' : Heap} {a : Addr} {ty : FieldType} {vs : List Value} (A : Arl Z h a ty vs) (E : Ext h h') : Arl Z h' a ty vs := by obtain ⟨cl, A, r⟩ := A; exact ⟨cl, A.ext E, r⟩
theorem Arl.other {h' : Heap} {a b : Addr} {sl : Nat} {w : Value} {ty : FieldType} {vs : List Value} (A : Arl Z h a ty vs) (W : Wr h h' b sl w) (q : a ≠ b) : Arl Z h' a ty vs := by obtain ⟨cl, A, r⟩ := A; exact ⟨cl, A.other W q, r⟩
theorem Arl.keep {h' : Heap} {a : Addr} {ws : List Addr} {ty : FieldType} {vs : List Value} (A : Arl Z h a ty vs) (K : Keep h h' ws) (q : a ∉ ws) : Arl Z h' a ty vs := by obtain ⟨cl, A, r⟩ := A; exact ⟨cl, ⟨K.2.1 a cl A.1 q, A.2⟩, r⟩
theorem Arl.len {a : Addr} {ty : FieldType} {vs : List Value} (A : Arl Z h a ty vs) : vs.length < 2 ^ 31 := by obtain ⟨cl, A, r⟩ := A; exact r.2.1
theorem Arl.set {h' : Heap} {a : Addr} {i : Nat} {w : Value} {ty : FieldType} {vs : List Value} (A : Arl Z h a ty vs) (W : Wr h h' a i w) (hw : fits ty w = true) : Arl Z h' a ty (vs.set i w) := by
  obtain ⟨cl, A, rfl, r2, r3⟩ := A
  refine ⟨_, A.same W, ?_, ?_, ?_⟩
  · simp [Cell.setSlot]
  · simpa using r2
  · intro v hv
    rcases List.mem_or_eq_of_mem_set hv with q | rfl
    · exact r3 v q
    · exact hw
theorem Arl.safe {vm0 : Vm} {a : Addr} {ty : FieldType} {vs : List Value} (hal : Z.vm.Alike vm0) (A : Arl Z h a ty vs) (ht : ty ≠ .byte) : Safe Z EL vm0 h a := by obtain ⟨cl, A, -⟩ := A; exact Safe.arr hal A ht
theorem Cxt.newarray (C : Cxt p m meth c Z a0 EL own mn bytes ml ret Ws) {aty : ArrayType} {q : Nat} {z : Int32} (d : Dec bytes pc (.newarray aty) 2 nx) (ww : Jvm.Cond.arrayClass (newarray.typeOf aty) ∈ Ws) (hz : ¬ z < 0) (hzq : z.toNatClampNeg = q) (hq : q ≤ 60000000) (hk : k + 1 ≤ R.cells) (hn : n + q ≤ R.slots)
    (g : ∀ h' a, @Eq Nat a h.size → Ext h h' → a < h'.size → Arl Z h' a (newarray.typeOf aty) (List.replicate q (defaultValue (newarray.typeOf aty))) → Goes p l e R s m args below meth c Z EL nw Q (a :: F) w h' (k + 1) (n + q) (mkF m nx Ls (.ref a :: st))) : Goes p l e R s m args below meth c Z EL nw Q F w h k n (mkF m pc Ls (.int z :: st)) := by
  obtain ⟨d1, rfl⟩ := d
  intro T vm0 locs k0 H
  obtain ⟨X, eT, N, S, hk0, hZ, H1, hw, hF, O, hwm, hbk⟩ := id H
  obtain ⟨T', h', cA, X', e', E', A', st'⟩ := newP X C.1 hZ (C.wrd ww) eT (g := mkF m pc Ls (.int z :: st)) rfl (hb C.2.1 d1) rfl hz (cap := q) (Nat.le_of_eq hzq) (by omega) hk hn
  obtain ⟨X2, eT2, N2, S2, hk2, hZ2, H2, hw2, hF2, O2, hwm2, hbk2⟩ := H.step X' e' N (keep_ext E' []) (fun x hx => nomatch hx)
  have AL : Arl Z h' h.size (newarray.typeOf aty) (List.replicate q (defaultValue (newarray.typeOf aty))) := ⟨_, A', by simp [newA, hzq], by rw [List.length_replicate]; omega, fun v hv => by rw [List.eq_of_mem_replicate hv]; cases aty <;> rfl⟩
  obtain ⟨t, v, L, h1, r⟩ := g h' h.size rfl E' A'.lt AL T' vm0 locs k0 ⟨X2, eT2, N2, S2, hk2, hZ2, H2, hw2, fun x hx => (List.mem_cons.mp hx).elim (fun q => by subst q; exact ⟨A'.lt, (Safe.new (Nat.le_refl _)).ext E' H1.1⟩) (hF2 x), O2, hwm2, hbk2⟩
  exact ⟨t, v, L, st' _ h1, r⟩
theorem Cxt.cloneA (C : Cxt p m meth c Z a0 EL own mn bytes ml ret Ws) {idx q : Nat} {ad : String} {a : Addr} {ty : FieldType} {vs : List Value} (d : Dec bytes pc (.invokevirtual idx) 3 nx) (w1 : Jvm.Cond.methodLink own idx ⟨ad, "clone", "()Ljava/lang/Object;"⟩ ∈ Ws) (w2 : Jvm.Cond.sameMethod ad "java/lang/Object" "clone" "()Ljava/lang/Object;" ∈ Ws) (w3 : Jvm.Cond.native ⟨"java/lang/Object", "clone", "()Ljava/lang/Object;"⟩ ∈ Ws) (w4 : Jvm.Cond.instanceMethod ⟨"java/lang/Object", "clone", "()Ljava/lang/Object;"⟩ ∈ Ws) (w5 : Jvm.Cond.selects ad ⟨ad, "clone", "()Ljava/lang/Object;"⟩ ⟨"java/lang/Object", "clone", "()Ljava/lang/Object;"⟩ ∈ Ws) (w6 : Jvm.Cond.castable ad "java/lang/Cloneable" ∈ Ws)
    (A : Arl Z h a ty vs) (E : Exa Z h a ad) (hsz : Ls.size = ml) (hf : 1 ≤ R.frames) (hl : (st.map fun v => v.category).sum + 14 ≤ R.locals) (hq : vs.length = q) (hk : k + 1 ≤ R.cells) (hn : n + q ≤ R.slots)
    (g : ∀ h' b, @Eq Nat b h.size → Ext h h' → Arl Z h' b ty vs → Exa Z h' b ad → Goes p l e R s m args below meth c Z EL nw Q (b :: F) w h' (k + 1) (n + q) (mkF m nx Ls (.ref b :: st))) : Goes p l e R s m args below meth c Z EL nw Q F w h k n (mkF m pc Ls (.ref a :: st)) := by
  obtain ⟨d1, rfl⟩ := d
  intro T vm0 locs k0 H
  obtain ⟨X, eT, N, S, hk0, hZ, H1, hw, hF, O, hwm, hbk⟩ := id H
  obtain ⟨cl, A0, q1, q2, q3⟩ := id A
  obtain ⟨T', h', X', e', E', A', X2', st'⟩ := RoadKit.cloneA X C.1 hZ (C.own_at hZ) (C.wrd w1) (C.wrd w2) (C.wrd w3) (C.wrd w4) (C.wrd w5) (C.wrd w6) eT A0 E (fitC_of A0 fun i hi v hv => q3 v (by rw [← q1]; exact List.mem_of_getElem? (i := i) (by rw [Array.getElem?_toList]; exact hv))) (g := mkF m pc Ls (.ref a :: st)) rfl (hsz.trans C.2.2.1.symm) rfl (hb C.2.1 d1) hf (W := (st.map fun v => v.category).sum) (by show 2 * 0 + _ ≤ _; omega) hl (cap := q) (by rw [← hq, ← q1]; simp) hk hn
  obtain ⟨X2, eT2, N2, S2, hk2, hZ2, H2, hw2, hF2, O2, hwm2, hbk2⟩ := H.step X' e' N (keep_ext E' []) (fun x hx => nomatch hx)
  obtain ⟨t, v, L, h1, r⟩ := g h' h.size rfl E' ⟨_, A', q1, q2, q3⟩ X2' T' vm0 locs k0 ⟨X2, eT2, N2, S2, hk2, hZ2, H2, hw2, fun x hx => (List.mem_cons.mp hx).elim (fun q => by subst q; exact ⟨A'.lt, (Safe.new (Nat.le_refl _)).ext E' H1.1⟩) (hF2 x), O2, hwm2, hbk2⟩
  exact ⟨t, v, L, st' _ h1, r⟩
theorem inb {cl : Cell} {j : Int32} {i : Nat} (hi : j.toNatClampNeg = i) (hj : ¬ j < 0) (hlt : i < cl.slots.toList.length) : ¬ (j < 0 ∨ cl.slots.size ≤ j.toNatClampNeg) := by
  rw [hi]; intro q; rcases q with q | q
  · exact hj q
  · simp at hlt; omega
theorem Cxt.arraylength (C : Cxt p m meth c Z a0 EL own mn bytes ml ret Ws) {a : Addr} {ty : FieldType} {vs : List Value} (d : Dec bytes pc .arraylength 1 nx) (A : Arl Z h a ty vs) (g : Goes p l e R s m args below meth c Z EL nw Q F w h k n (mkF m nx Ls (.int (Int32.ofNat vs.length) :: st))) : Goes p l e R s m args below meth c Z EL nw Q F w h k n (mkF m pc Ls (.ref a :: st)) := by
  obtain ⟨d1, rfl⟩ := d
  intro T vm0 locs k0 H
  obtain ⟨t, v, L, h1, r⟩ := g T vm0 locs k0 H
  obtain ⟨cl, A, rfl, r2, r3⟩ := A
  refine ⟨t, v, L, H.1.arraylength C.1 (by rw [H.2.1]; exact A.1) (State.isArrayOf_alike H.2.2.2.2.2.1.alike A.2.1) (g := mkF m pc Ls (.ref a :: st)) rfl rfl (hb C.2.1 d1) _ ?_, r⟩
  have q : cl.slots.size.toInt32 = Int32.ofNat cl.slots.toList.length := by simp
  rw [q]; exact h1
theorem Cxt.caload (C : Cxt p m meth c Z a0 EL own mn bytes ml ret Ws) {a : Addr} {vs : List Value} {j : Int32} {i : Nat} {v : Value} (d : Dec bytes pc .caload 1 nx) (A : Arl Z h a .char vs) (hj : ¬ j < 0) (hi : j.toNatClampNeg = i) (hv : vs[i]? = some v) (g : Goes p l e R s m args below meth c Z EL nw Q F w h k n (mkF m nx Ls (v :: st))) : Goes p l e R s m args below meth c Z EL nw Q F w h k n (mkF m pc Ls (.int j :: .ref a :: st)) := by
  obtain ⟨d1, rfl⟩ := d
  intro T vm0 locs k0 H
  obtain ⟨t, v', L, h1, r⟩ := g T vm0 locs k0 H
  obtain ⟨cl, A, rfl, r2, r3⟩ := A
  exact ⟨t, v', L, H.1.caload C.1 (by rw [H.2.1]; exact A.1) (State.isArrayOf_alike H.2.2.2.2.2.1.alike A.2.1) A.2.2 (inb hi hj (List.getElem?_eq_some_iff.mp hv).1) (v := v) (by rw [hi]; simpa using hv) (g := mkF m pc Ls (.int j :: .ref a :: st)) rfl rfl (hb C.2.1 d1) _ h1, r⟩
theorem Cxt.baload (C : Cxt p m meth c Z a0 EL own mn bytes ml ret Ws) {a : Addr} {vs : List Value} {j : Int32} {i : Nat} {v : Value} (d : Dec bytes pc .baload 1 nx) (A : Arl Z h a .byte vs) (hj : ¬ j < 0) (hi : j.toNatClampNeg = i) (hv : vs[i]? = some v) (g : Goes p l e R s m args below meth c Z EL nw Q F w h k n (mkF m nx Ls (v :: st))) : Goes p l e R s m args below meth c Z EL nw Q F w h k n (mkF m pc Ls (.int j :: .ref a :: st)) := by
  obtain ⟨d1, rfl⟩ := d
  intro T vm0 locs k0 H
  obtain ⟨t, v', L, h1, r⟩ := g T vm0 locs k0 H
  obtain ⟨cl, A, rfl, r2, r3⟩ := A
  exact ⟨t, v', L, H.1.baloadBytes C.1 (by rw [H.2.1]; exact A.1) (State.isArrayOf_alike H.2.2.2.2.2.1.alike A.2.1) A.2.2 (inb hi hj (List.getElem?_eq_some_iff.mp hv).1) (v := v) (by rw [hi]; simpa using hv) (g := mkF m pc Ls (.int j :: .ref a :: st)) rfl rfl (hb C.2.1 d1) _ h1, r⟩
theorem Cxt.iaload (C : Cxt p m meth c Z a0 EL own mn bytes ml ret Ws) {a : Addr} {vs : List Value} {j : Int32} {i : Nat} {v : Value} (d : Dec bytes pc .iaload 1 nx) (A : Arl Z h a .int vs) (hj : ¬ j < 0) (hi : j.toNatClampNeg = i) (hv : vs[i]? = some v) (g : Goes p l e R s m args below meth c Z EL nw Q F w h k n (mkF m nx Ls (v :: st))) : Goes p l e R s m args below meth c Z EL nw Q F w h k n (mkF m pc Ls (.int j :: .ref a :: st)) := by
  obtain ⟨d1, rfl⟩ := d
  intro T vm0 locs k0 H
  obtain ⟨t, v', L, h1, r⟩ := g T vm0 locs k0 H
  obtain ⟨cl, A, rfl, r2, r3⟩ := A
  exact ⟨t, v', L, H.1.iaload C.1 (by rw [H.2.1]; exact A.1) (State.isArrayOf_alike H.2.2.2.2.2.1.alike A.2.1) A.2.2 (inb hi hj (List.getElem?_eq_some_iff.mp hv).1) (v := v) (by rw [hi]; simpa using hv) (g := mkF m pc Ls (.int j :: .ref a :: st)) rfl rfl (hb C.2.1 d1) _ h1, r⟩
theorem Cxt.aaload (C : Cxt p m meth c Z a0 EL own mn bytes ml ret Ws) {a : Addr} {ty : FieldType} {vs : List Value} {j : Int32} {i : Nat} {v : Value} (d : Dec bytes pc .aaload 1 nx) (A : Arl Z h a ty vs) (hty : ty.isReference = true) (hj : ¬ j < 0) (hi : j.toNatClampNeg = i) (hv : vs[i]? = some v) (g : Goes p l e R s m args below meth c Z EL nw Q F w h k n (mkF m nx Ls (v :: st))) : Goes p l e R s m args below meth c Z EL nw Q F w h k n (mkF m pc Ls (.int j :: .ref a :: st)) := by
  obtain ⟨d1, rfl⟩ := d
  intro T vm0 locs k0 H
  obtain ⟨t, v', L, h1, r⟩ := g T vm0 locs k0 H
  obtain ⟨cl, A, rfl, r2, r3⟩ := A
  exact ⟨t, v', L, H.1.aaload C.1 (by rw [H.2.1]; exact A.1) (State.isArrayOf_alike H.2.2.2.2.2.1.alike A.2.1) hty A.2.2 (inb hi hj (List.getElem?_eq_some_iff.mp hv).1) (v := v) (by rw [hi]; simpa using hv) (g := mkF m pc Ls (.int j :: .ref a :: st)) rfl rfl (hb C.2.1 d1) _ h1, r⟩
theorem Cxt.castore (C : Cxt p m meth c Z a0 EL own mn bytes ml ret Ws) {a : Addr} {vs : List Value} {j x : Int32} {i : Nat} (d : Dec bytes pc .castore 1 nx) (A : Arl Z h a .char vs) (hj : ¬ j < 0) (hi : j.toNatClampNeg = i) (hlt : i < vs.length) (na : Z.heap.size ≤ a) 
    (g : ∀ h', Wr h h' a i (.int (nar .char x)) → Arl Z h' a .char (vs.set i (.int (nar .char x))) → Goes p l e R s m args below meth c Z EL nw Q F w h' k n (mkF m nx Ls st)) : Goes p l e R s m args below meth c Z EL nw Q F w h k n (mkF m pc Ls (.int x :: .int j :: .ref a :: st)) := by
  obtain ⟨d1, rfl⟩ := d
  intro T vm0 locs k0 H
  obtain ⟨X, eT, N, S, hk0, hZ, H1, hw, hF, O', hwm, hbk⟩ := id H
  have sa : Safe Z EL vm0 h a := Arl.safe hZ.alike A (by simp)
  obtain ⟨cl, A', q1, q2, q3⟩ := id A
  subst hi
  obtain ⟨T', h', X', e', W', st'⟩ := stC X C.1 hZ eT A' (j := j) (x := x) (inb rfl hj (by rw [q1]; exact hlt)) (g := mkF m pc Ls (.int x :: .int j :: .ref a :: st)) rfl rfl (hb C.2.1 d1)
  obtain ⟨t, v, L, h1, r⟩ := g h' W' (A.set W' (fits_nar_char _)) T' vm0 _ k0 (H.step X' e' (Fr.snoc X' N na) (Keep.of_wr W') (fun x hx => by cases List.mem_singleton.mp hx; exact ⟨sa, na⟩))
  exact ⟨t, v, L, st' _ h1, r⟩
theorem fits_b8' (x : Int32) : fits .byte (.int (nar .byte x)) = true := fits_nar_byte x
theorem Cxt.bastore (C : Cxt p m meth c Z a0 EL own mn bytes ml ret Ws) {a : Addr} {vs : List Value} {j x : Int32} {i : Nat} (d : Dec bytes pc .bastore 1 nx) (A : Arl Z h a .byte vs) (hj : ¬ j < 0) (hi : j.toNatClampNeg = i) (hlt : i < vs.length) (na : Z.heap.size ≤ a) (sf : a ∈ F ∨ w ≤ a) 
    (g : ∀ h', Wr h h' a i (.int (nar .byte x)) → Arl Z h' a .byte (vs.set i (.int (nar .byte x))) → Goes p l e R s m args below meth c Z EL nw Q F w h' k n (mkF m nx Ls st)) : Goes p l e R s m args below meth c Z EL nw Q F w h k n (mkF m pc Ls (.int x :: .int j :: .ref a :: st)) := by
  obtain ⟨d1, rfl⟩ := d
  intro T vm0 locs k0 H
  obtain ⟨X, eT, N, S, hk0, hZ, H1, hw, hF, O', hwm, hbk⟩ := id H
  have sa : Safe Z EL vm0 h a := sf.elim (fun q => (hF a q).2) (hwm a)
  obtain ⟨cl, A', q1, q2, q3⟩ := id A
  subst hi
  obtain ⟨T', h', X', e', W', st'⟩ := stB X C.1 hZ eT A' (j := j) (x := x) (inb rfl hj (by rw [q1]; exact hlt)) (g := mkF m pc Ls (.int x :: .int j :: .ref a :: st)) rfl rfl (hb C.2.1 d1)
  obtain ⟨t, v, L, h1, r⟩ := g h' W' (A.set W' (fits_b8' _)) T' vm0 _ k0 (H.step X' e' (Fr.snoc X' N na) (Keep.of_wr W') (fun x hx => by cases List.mem_singleton.mp hx; exact ⟨sa, na⟩))
  exact ⟨t, v, L, st' _ h1, r⟩
theorem Cxt.iastore (C : Cxt p m meth c Z a0 EL own mn bytes ml ret Ws) {a : Addr} {vs : List Value} {j x : Int32} {i : Nat} (d : Dec bytes pc .iastore 1 nx) (A : Arl Z h a .int vs) (hj : ¬ j < 0) (hi : j.toNatClampNeg = i) (hlt : i < vs.length) (na : Z.heap.size ≤ a) 
    (g : ∀ h', Wr h h' a i (.int (x)) → Arl Z h' a .int (vs.set i (.int (x))) → Goes p l e R s m args below meth c Z EL nw Q F w h' k n (mkF m nx Ls st)) : Goes p l e R s m args below meth c Z EL nw Q F w h k n (mkF m pc Ls (.int x :: .int j :: .ref a :: st)) := by
  obtain ⟨d1, rfl⟩ := d
  intro T vm0 locs k0 H
  obtain ⟨X, eT, N, S, hk0, hZ, H1, hw, hF, O', hwm, hbk⟩ := id H
  have sa : Safe Z EL vm0 h a := Arl.safe hZ.alike A (by simp)
  obtain ⟨cl, A', q1, q2, q3⟩ := id A
  subst hi
  obtain ⟨T', h', X', e', W', st'⟩ := stI X C.1 hZ eT A' (j := j) (x := x) (inb rfl hj (by rw [q1]; exact hlt)) (g := mkF m pc Ls (.int x :: .int j :: .ref a :: st)) rfl rfl (hb C.2.1 d1)
  obtain ⟨t, v, L, h1, r⟩ := g h' W' (A.set W' (rfl)) T' vm0 _ k0 (H.step X' e' (Fr.snoc X' N na) (Keep.of_wr W') (fun x hx => by cases List.mem_singleton.mp hx; exact ⟨sa, na⟩))
  exact ⟨t, v, L, st' _ h1, r⟩
theorem ofNat_idx {i : Nat} (h : i < 2 ^ 31) : ¬ (Int32.ofNat i) < 0 ∧ (Int32.ofNat i).toNatClampNeg = i := by
  have q := idx_in (i := i) (n := i + 1) (Nat.lt_succ_self i)
  have e : (Int32.ofNat i).toInt = i := by
    rw [Int32.toInt_ofNat']
    simp only [Int.bmod_def]
    have z : (Int32.size : Int) = 4294967296 := rfl
    rw [z]
    omega
  constructor
  · intro z; rw [Int32.lt_iff_toInt_lt, e] at z; simp at z; omega
  · simp [Int32.toNatClampNeg, e]
theorem arl_of_arv {Z : State} {h : Heap} {a : Addr} {kb : ClassId} {ty : FieldType} {z : Int32} {vs : List Value} {dv : Value} (A : Arv Z h a kb ty z vs dv) (hz : z.toNatClampNeg = vs.length) (hl : vs.length < 2 ^ 31) : Arl Z h a ty vs := by
  obtain ⟨cl, A, -, q2, -, H, G⟩ := A
  have e : cl.slots.toList = vs := by
    apply List.ext_getElem?
    intro i
    by_cases hi : i < cl.slots.size
    · have := H i hi
      rw [Array.getElem?_toList, this]
      have hi' : i < vs.length := by omega
      simp [List.getD_eq_getElem?_getD, hi']
    · rw [List.getElem?_eq_none (by simpa using hi), List.getElem?_eq_none (by omega)]
  refine ⟨cl, A, e, hl, fun v hv => ?_⟩
  obtain ⟨i, hi, rfl⟩ := List.mem_iff_getElem.mp hv
  have := G i (by omega)
  simpa [List.getD_eq_getElem?_getD, hi] using this
theorem Con.of {y : MethodName} {rm : Room} {as' : Array Value} (hy : plainFor y = true) (hw : ∀ d ∈ Ws, d.before a0 Z = true) (hEL : EW Z a0 EL) (Ls : Array Slot) (hef : ∀ m, entryFrame m as' ml = mkF m 0 Ls [])
    (g : ∀ (p : Program) (e : Env) (s : State) (m : MethodId) (below : List Frame) (meth : Method) (c : Code), s.heap = h → Cxt p m meth c Z a0 EL y.cls y.name bytes ml ret Ws → Goes p l e rm s m as' below meth c Z EL nw Q F h.size h 0 0 (mkF m 0 Ls [])) : Con l Z EL nw y bytes ml ret rm F as' h Q := by
  intro ws
  refine MetFree.of_bodySF hy hisR ?_
  intro p e s m args below meth c s₁ Bd hml0 hP hK
  obtain ⟨rfl, hZ, hh, hC, hF, hO⟩ := hP
  have C : Cxt p m meth c Z a0 EL y.cls y.name bytes ml ret Ws := ⟨Bd.exec, Bd.bytes, hml0, (hZ.alike.findClass _ _).symm.trans (findClass_of_methodNamed Bd.named), Bd.returns, Bd.notSynchronized, (name_of_methodNamed Bd.named Bd.method).1, hw, hEL⟩
  have X0 : Stand p l e rm s m args below meth c s₁ [] 0 0 := Stand.of_body Bd
  have e0 : s₁.heap = h := by rw [← hh, Bd.state]; rfl
  subst hh
  obtain ⟨t, v, L, h1, h2, h3, h4, h5, h6, h7, h8, h9⟩ := g p e s m below meth c rfl C s₁ s.vm [] 0 ⟨X0, e0, Fr.nil _, (State.WarmedH.refl s).since 0, Nat.zero_le _, hZ, CHr.refl hC, fun _ => State.WarmedH.refl s, hF, hO, fun x hx => Safe.new hx, fun _ y hy => hy⟩
  exact ⟨t, .returned v, castTop (hef m) h1, h2, h3, v, L, rfl, h4, h5, h6, h7, h8, h9⟩
theorem Con.pays {y : MethodName} {yb : ByteArray} {yl : Nat} {yr : Option FieldType} {rm : Room} {as' : Array Value} {len W : Nat} (K : Con l Z EL nw y yb yl yr rm F as' h Q) (wc : (Jvm.Cond.code y yb yl yr).before a0 Z = true) (wz : (Jvm.Cond.initialized y.cls).before a0 Z = true) (hEL : EW Z a0 EL) (hf : rm.frames + 1 ≤ R.frames) (hl : W + (yl + 11) + rm.locals ≤ R.locals) :
    Pays p l e R s args below Z EL nw y len W F as' h rm.cells rm.slots Q := by
  intro vm0 hZ H hF hO
  refine BackS.of_freeW (bytes := yb) (maxL := yl) (ret := yr) (E := fun _ first o t L k n => k = rm.cells ∧ n = rm.slots ∧ (∃ v, o = .returned v ∧ Q v t.heap) ∧ Fr Z.heap.size L ∧ CHr Z EL first.vm first.heap t.vm t.heap ∧ (nw = true → first.WarmedH t.vm ∧ ∀ y, Bk Z EL t.vm t.heap y → Bk Z EL first.vm first.heap y) ∧ Ext Z.heap t.heap) (K []) hf hl
    (fun m meth c A a Y hp => have hU : Z.Warmed39 A.U.vm := wtrans (s := s.setVm vm0) hZ Y.warmed
      ⟨by show (Jvm.Cond.and _ .tt).before a A.U = true; rw [Cond.before_and, mv hU wc]; rfl, mv hU wc, mv hU wz, hp.2.2.1, hp.2.2.2⟩)
    (fun m meth c A a g mk Y hp => ⟨hp.1, wtrans (s := s.setVm vm0) hZ Y.warmed, hp.2.1, (CHv.at Y hZ hEL H).1, fun x hx => ⟨(hF x hx).1, (CHv.at Y hZ hEL H).safe (hF x hx).1 (hF x hx).2⟩, hO⟩) (fun _ _ _ _ _ _ _ _ _ => trivial)
    (fun _ _ _ _ ⟨v, L, h1, h2, h3, h4, h5, h6, h7⟩ => ⟨L, _, _, h7, rfl, rfl, ⟨v, h1, h2⟩, h3, h4, h5, h6⟩)
    (fun m meth c A a g mk v t L k n Y hp _ _ ⟨e1, e2, ⟨v', e3, e4⟩, e5, e6, e7, e8⟩ => by
      cases e3; subst e1 e2
      refine ⟨L, e4, e5, rfl, rfl, rfl, (CHv.at Y hZ hEL H).trans ?_, fun q => ⟨State.WarmedH.trans Y.warmed (e7 q).1, fun y hy => ?_⟩, e8⟩
      · rw [← hp.2.1]; exact e6
      · have z := (e7 q).2 y hy
        have z' : Bk Z EL A.U.vm h y := by rw [← hp.2.1]; exact z
        rcases (CHv.at Y hZ hEL H).2.2 y z' with z2 | z2
        · exact z2
        · obtain ⟨cell, hcell⟩ := z'.there
          exact absurd (Array.getElem?_eq_some_iff.mp hcell).1 (Nat.not_lt.mpr z2))
theorem Pays.mono {y : MethodName} {as' : Array Value} {len W rc rs : Nat} {Q' : Option Value → Heap → Prop} (K : Pays p l e R s args below Z EL nw y len W F as' h rc rs Q) (hq : ∀ v h', Q v h' → Q' v h') : Pays p l e R s args below Z EL nw y len W F as' h rc rs Q' := by
  intro vm0 hZ H hF hO m meth c A g ig mk a X hg hsize hdg hW hn hp
  obtain ⟨v, B, X', S, gr, ⟨L, h1, r⟩, stp⟩ := K vm0 hZ H hF hO m meth c A g ig mk a X hg hsize hdg hW hn hp
  exact ⟨v, B, X', S, gr, ⟨L, hq _ _ h1, r⟩, stp⟩
theorem after {nwc : Bool} (hnw : nw = true → nwc = true) {T : State} {vm0 : Vm} {locs : List Loc} {k0 rc rs : Nat} {B : Pt} {vm1 : Vm} (H : Here p l e R s m args below meth c Z EL nw F w h k n T vm0 locs k0) (X' : Stand p l e R (s.setVm B.U.vm) m args below meth c B.U B.locs B.cells B.slots) (S' : (s.setVm vm0).Since B.U.vm B.U.heap.size) (gr : T.heap.size ≤ B.U.heap.size)
    (post : ∃ L, Fr Z.heap.size L ∧ B.locs = locs ++ L ∧ B.cells = k + rc ∧ B.slots = n + rs ∧ CHr Z EL vm0 h B.U.vm B.U.heap ∧ (nwc = true → (s.setVm vm0).WarmedH B.U.vm ∧ ∀ y, Bk Z EL B.U.vm B.U.heap y → Bk Z EL vm0 h y) ∧ Ext Z.heap B.U.heap) : Here p l e R s m args below meth c Z EL nw F (wm nwc w B.U.heap) B.U.heap (k + rc) (n + rs) B.U B.U.vm B.locs B.U.heap.size := by
  obtain ⟨X, eT, N, S, hk0, hZ, H1, hw, hF, O, hwm, hbk⟩ := H
  obtain ⟨L, p1, p2, p3, p4, p5, p6, p7⟩ := post
  rw [p3, p4] at X'
  rw [eT] at gr
  refine ⟨X', rfl, by rw [p2]; exact N.app p1, S.trans S' (Nat.le_trans hk0 gr), Nat.le_refl _, State.Warmed39.trans (t := s.setVm vm0) hZ S'.1, H1.trans p5, fun q => State.WarmedH.trans (t := s.setVm vm0) (hw q) (p6 (hnw q)).1, fun x hx => ⟨Nat.lt_of_lt_of_le (hF x hx).1 gr, p5.safe (hF x hx).1 (hF x hx).2⟩, p7, fun x hx => ?_, fun q y hy => hbk q y ((p6 (hnw q)).2 y hy)⟩
  cases nwc with
  | true => exact fun hy => hwm x hx ((p6 rfl).2 x hy)
  | false => exact Safe.new hx
theorem Cxt.static (C : Cxt p m meth c Z a0 EL own mn bytes ml ret Ws) {nwc : Bool} (hnw : nw = true → nwc = true) {F' : List Addr} (hF' : ∀ x ∈ F', x ∈ F ∨ (w ≤ x ∧ x < h.size)) {idx W rc rs : Nat} {y : MethodName} {yb : ByteArray} {yl : Nat} {yr : Option FieldType} {Qc : Option Value → Heap → Prop} {argsL rest : List Value} (d : Dec bytes pc (.invokestatic idx) 3 nx) (w1 : Jvm.Cond.methodLink own idx y ∈ Ws) (w2 : Jvm.Cond.static y ∈ Ws) (w3 : Jvm.Cond.initialized y.cls ∈ Ws) (w4 : Jvm.Cond.code y yb yl yr ∈ Ws)
    (hy : y.cls ≠ "java/lang/invoke/MethodHandle" ∧ y.cls ≠ "java/lang/invoke/VarHandle") (hlen : ∀ sig, parseMethodDescriptor y.desc = some sig → argsL.length = sig.parameters.length) (hst : st = argsL.reverse ++ rest) (hsz : Ls.size = ml) (hk : k + rc ≤ R.cells) (hn : n + rs ≤ R.slots)
    (K : Pays p l e R s args below Z EL nwc y 3 W F' argsL.toArray h rc rs Qc) (hW : (rest.map fun v => v.category).sum ≤ W) (g : ∀ v h', Qc v h' → Goes p l e R s m args below meth c Z EL nw Q F (wm nwc w h') h' (k + rc) (n + rs) (mkF m nx Ls (v.toList ++ rest))) : Goes p l e R s m args below meth c Z EL nw Q F w h k n (mkF m pc Ls st) := by
  obtain ⟨d1, rfl⟩ := d
  intro T vm0 locs k0 H
  obtain ⟨X, eT, N, S, hk0, hZ, H1, hw, hF, O, hwm, hbk⟩ := id H
  obtain ⟨v, vm1, B, hW1, X', S', gr, ⟨L, q, post⟩, st'⟩ := callSS X C.1 (C.own_at hZ) (mv hZ (C.wrd w1)) (mv hZ (C.wrd w2)) (mv hZ (C.wrd w3)) (mv hZ (C.wrd w4)) hy (K vm0 hZ H1.1 (fun x hx => (hF' x hx).elim (hF x) fun q => ⟨q.2, hwm x q.1⟩) O) (g := mkF m pc Ls st) rfl (hsz.trans C.2.2.1.symm) hlen hst (by show 2 * 0 + _ ≤ _; omega) (hb C.2.1 d1) (fun vm1 _ => ⟨rfl, eT, hk, hn⟩)
  obtain ⟨t, v, L, h1, r⟩ := g v B.U.heap q B.U B.U.vm B.locs B.U.heap.size (after (nwc := nwc) hnw (vm1 := vm1) H X' S' gr ⟨L, post⟩)
  exact ⟨t, v, L, st'.trans h1, r⟩
theorem Cxt.special (C : Cxt p m meth c Z a0 EL own mn bytes ml ret Ws) {nwc : Bool} (hnw : nw = true → nwc = true) {F' : List Addr} (hF' : ∀ x ∈ F', x ∈ F ∨ (w ≤ x ∧ x < h.size)) {idx W rc rs : Nat} {y : MethodName} {yb : ByteArray} {yl : Nat} {Qc : Option Value → Heap → Prop} {a : Addr} {argsL rest : List Value} (d : Dec bytes pc (.invokespecial idx) 3 nx) (hy1 : y.name = "<init>") (w1 : Jvm.Cond.methodLink own idx y ∈ Ws) (w2 : Jvm.Cond.instanceMethod y ∈ Ws) (w4 : Jvm.Cond.code y yb yl none ∈ Ws)
    (hy : y.cls ≠ "java/lang/invoke/MethodHandle" ∧ y.cls ≠ "java/lang/invoke/VarHandle") (hlen : ∀ sig, parseMethodDescriptor y.desc = some sig → argsL.length = sig.parameters.length) (hst : st = argsL.reverse ++ .ref a :: rest) (hsz : Ls.size = ml) (hk : k + rc ≤ R.cells) (hn : n + rs ≤ R.slots)
    (K : Pays p l e R s args below Z EL nwc y 3 W F' (.ref a :: argsL).toArray h rc rs Qc) (hW : (rest.map fun v => v.category).sum ≤ W) (g : ∀ v h', Qc v h' → Goes p l e R s m args below meth c Z EL nw Q F (wm nwc w h') h' (k + rc) (n + rs) (mkF m nx Ls (v.toList ++ rest))) : Goes p l e R s m args below meth c Z EL nw Q F w h k n (mkF m pc Ls st) := by
  obtain ⟨d1, rfl⟩ := d
  intro T vm0 locs k0 H
  obtain ⟨X, eT, N, S, hk0, hZ, H1, hw, hF, O, hwm, hbk⟩ := id H
  obtain ⟨v, vm1, B, hW1, X', S', gr, ⟨L, q, post⟩, st'⟩ := X.specialBackS C.1 hy1 (C.own_at hZ) (mv hZ (C.wrd w1)) (mv hZ (C.wrd w2)) (mv hZ (C.wrd w4)) hy (K vm0 hZ H1.1 (fun x hx => (hF' x hx).elim (hF x) fun q => ⟨q.2, hwm x q.1⟩) O) (g := mkF m pc Ls st) rfl (hsz.trans C.2.2.1.symm) (Steps.refl _) hlen hst (by show 2 * 0 + _ ≤ _; omega) (hb C.2.1 d1) (fun vm1 _ => ⟨rfl, eT, hk, hn⟩)
  obtain ⟨t, v, L, h1, r⟩ := g v B.U.heap q B.U B.U.vm B.locs B.U.heap.size (after (nwc := nwc) hnw (vm1 := vm1) H X' S' gr ⟨L, post⟩)
  exact ⟨t, v, L, st'.trans h1, r⟩
theorem Cxt.virtual (C : Cxt p m meth c Z a0 EL own mn bytes ml ret Ws) {nwc : Bool} (hnw : nw = true → nwc = true) {F' : List Addr} (hF' : ∀ x ∈ F', x ∈ F ∨ (w ≤ x ∧ x < h.size)) {idx W rc rs : Nat} {y z : MethodName} {cls : String} {Qc : Option Value → Heap → Prop} {a : Addr} {argsL rest : List Value} (d : Dec bytes pc (.invokevirtual idx) 3 nx) (w1 : Jvm.Cond.methodLink own idx y ∈ Ws) (w2 : Jvm.Cond.declares y ∈ Ws) (w3 : Jvm.Cond.selects cls y z ∈ Ws) (w4 : Jvm.Cond.instanceMethod z ∈ Ws)
    (hy : y.cls ≠ "java/lang/invoke/MethodHandle" ∧ y.cls ≠ "java/lang/invoke/VarHandle") (hlen : ∀ sig, parseMethodDescriptor y.desc = some sig → argsL.length = sig.parameters.length) (hst : st = argsL.reverse ++ .ref a :: rest) (hsz : Ls.size = ml) (hk : k + rc ≤ R.cells) (hn : n + rs ≤ R.slots) (E : Exa Z h a cls)
    (nf : ∀ vm0 : Vm, (Jvm.Cond.selects cls y z).before args (s.setVm vm0) = true → NotFace (s.setVm vm0) y)
    (K : Pays p l e R s args below Z EL nwc z 3 W F' (.ref a :: argsL).toArray h rc rs Qc) (hW : (rest.map fun v => v.category).sum ≤ W) (g : ∀ v h', Qc v h' → Goes p l e R s m args below meth c Z EL nw Q F (wm nwc w h') h' (k + rc) (n + rs) (mkF m nx Ls (v.toList ++ rest))) : Goes p l e R s m args below meth c Z EL nw Q F w h k n (mkF m pc Ls st) := by
  obtain ⟨d1, rfl⟩ := d
  intro T vm0 locs k0 H
  obtain ⟨X, eT, N, S, hk0, hZ, H1, hw, hF, O, hwm, hbk⟩ := id H
  obtain ⟨cq, kq, qa, qb, qc⟩ := isOf (s := s.setVm vm0) hZ eT E
  obtain ⟨v, vm1, B, hW1, X', S', gr, ⟨L, q, post⟩, st'⟩ := X.virtualBackS C.1 (C.own_at hZ) (mv hZ (C.wrd w1)) (mv hZ (C.wrd w2)) (nf vm0 (mv hZ (C.wrd w3))) (mv hZ (C.wrd w3)) (mv hZ (C.wrd w4)) hy (K vm0 hZ H1.1 (fun x hx => (hF' x hx).elim (hF x) fun q => ⟨q.2, hwm x q.1⟩) O) qa qc (g := mkF m pc Ls st) rfl (hsz.trans C.2.2.1.symm) (Steps.refl _) hlen hst (by show 2 * 0 + _ ≤ _; omega) (hb C.2.1 d1) (fun vm1 _ => ⟨rfl, eT, hk, hn⟩)
  obtain ⟨t, v, L, h1, r⟩ := g v B.U.heap q B.U B.U.vm B.locs B.U.heap.size (after (nwc := nwc) hnw (vm1 := vm1) H X' S' gr ⟨L, post⟩)
  exact ⟨t, v, L, st'.trans h1, r⟩
def rV (Q : Heap → Prop) : Option Value → Heap → Prop := fun o h => o = none ∧ Q h
def rR (Q : Value → Heap → Prop) : Option Value → Heap → Prop := fun o h => ∃ v, o = some v ∧ Q v h
theorem Pays.less {y : MethodName} {as' : Array Value} {len W rc rs : Nat} {F' : List Addr} (hF : ∀ x ∈ F', x ∈ F) (K : Pays p l e R s args below Z EL nw y len W F' as' h rc rs Q) : Pays p l e R s args below Z EL nw y len W F as' h rc rs Q := fun vm0 hZ H hF1 hO => K vm0 hZ H (fun x hx => hF1 x (hF x hx)) hO
theorem Con.weaken {y : MethodName} {yb : ByteArray} {yl : Nat} {yr : Option FieldType} {rm : Room} {as' : Array Value} {Q' : Option Value → Heap → Prop} (hq : ∀ v h', Q v h' → Q' v h') (K : Con l Z EL nw y yb yl yr rm F as' h Q) : Con l Z EL nw y yb yl yr rm F as' h Q' := by
  intro ws p e ha hc hk s m args below hf happ hP hK
  obtain ⟨n, o, h1, h2, h3, v, L, h4, h5, r⟩ := K ws p e ha hc hk s m args below hf happ hP hK
  exact ⟨n, o, h1, h2, h3, v, L, h4, hq _ _ h5, r⟩
theorem len_par {d : String} {k : Nat} (h : (parseMethodDescriptor d).map (fun sg => sg.parameters.length) = some k) {L : List Value} (hl : L.length = k) : ∀ sig, parseMethodDescriptor d = some sig → L.length = sig.parameters.length := fun sig hs => by
  rw [hs] at h; simp at h; omega
theorem Cxt.s0V (C : Cxt p m meth c Z a0 EL own mn bytes ml ret Ws) {idx : Nat} {y : MethodName} {yb : ByteArray} {yl : Nat} {yr : Option FieldType} {rm : Room} {F' : List Addr}  {Qc : Heap → Prop} {nwc : Bool} (d : Dec bytes pc (.invokestatic idx) 3 nx) (w1 : Jvm.Cond.methodLink own idx y ∈ Ws) (w2 : Jvm.Cond.static y ∈ Ws) (w3 : Jvm.Cond.initialized y.cls ∈ Ws) (w4 : Jvm.Cond.code y yb yl yr ∈ Ws) (hy : y.cls ≠ "java/lang/invoke/MethodHandle" ∧ y.cls ≠ "java/lang/invoke/VarHandle") (hpar : (parseMethodDescriptor y.desc).map (fun sg => sg.parameters.length) = some 0) (hsz : Ls.size = ml) (hF : ∀ x ∈ F', x ∈ F ∨ (w ≤ x ∧ x < h.size))
    (K : Con l Z EL nwc y yb yl yr rm F' #[] h (rV Qc)) (hf : rm.frames + 1 ≤ R.frames) (hl : (st.map fun v => v.category).sum + (yl + 11) + rm.locals ≤ R.locals) (hk : k + rm.cells ≤ R.cells) (hn : n + rm.slots ≤ R.slots) (g : ∀ h', Qc h' → Goes p l e R s m args below meth c Z EL nw Q F (wm nwc w h') h' (k + rm.cells) (n + rm.slots) (mkF m nx Ls st)) (hnw : nw = true → nwc = true := by first | exact id | exact fun _ => rfl) : Goes p l e R s m args below meth c Z EL nw Q F w h k n (mkF m pc Ls st) :=
  C.static hnw hF (argsL := []) (rest := st) d w1 w2 w3 w4 hy (len_par hpar rfl) rfl hsz hk hn (K.pays (C.wrd w4) (C.wrd w3) C.2.2.2.2.2.2.2.2 hf hl) (Nat.le_refl _) (fun v h' q => by obtain ⟨rfl, q⟩ := q; exact g h' q)
theorem Cxt.c0 (C : Cxt p m meth c Z a0 EL own mn bytes ml ret Ws) {idx : Nat} {y : MethodName} {yb : ByteArray} {yl : Nat} {rm : Room} {F' : List Addr} {a : Addr}  {Qc : Heap → Prop} {nwc : Bool} (d : Dec bytes pc (.invokespecial idx) 3 nx) (hy1 : y.name = "<init>") (w1 : Jvm.Cond.methodLink own idx y ∈ Ws) (w2 : Jvm.Cond.instanceMethod y ∈ Ws) (w3 : Jvm.Cond.initialized y.cls ∈ Ws) (w4 : Jvm.Cond.code y yb yl none ∈ Ws) (hy : y.cls ≠ "java/lang/invoke/MethodHandle" ∧ y.cls ≠ "java/lang/invoke/VarHandle") (hpar : (parseMethodDescriptor y.desc).map (fun sg => sg.parameters.length) = some 0) (hsz : Ls.size = ml) (hF : ∀ x ∈ F', x ∈ F ∨ (w ≤ x ∧ x < h.size))
    (K : Con l Z EL nwc y yb yl none rm F' #[.ref a] h (rV Qc)) (hf : rm.frames + 1 ≤ R.frames) (hl : (st.map fun v => v.category).sum + (yl + 11) + rm.locals ≤ R.locals) (hk : k + rm.cells ≤ R.cells) (hn : n + rm.slots ≤ R.slots) (g : ∀ h', Qc h' → Goes p l e R s m args below meth c Z EL nw Q F (wm nwc w h') h' (k + rm.cells) (n + rm.slots) (mkF m nx Ls st)) (hnw : nw = true → nwc = true := by first | exact id | exact fun _ => rfl) : Goes p l e R s m args below meth c Z EL nw Q F w h k n (mkF m pc Ls (.ref a :: st)) :=
  C.special hnw hF (argsL := []) (rest := st) d hy1 w1 w2 w4 hy (len_par hpar rfl) rfl hsz hk hn (K.pays (C.wrd w4) (C.wrd w3) C.2.2.2.2.2.2.2.2 hf hl) (Nat.le_refl _) (fun v h' q => by obtain ⟨rfl, q⟩ := q; exact g h' q)
theorem Cxt.v0V (C : Cxt p m meth c Z a0 EL own mn bytes ml ret Ws) {idx : Nat} {y z : MethodName} {yb : ByteArray} {yl : Nat} {yr : Option FieldType} {rm : Room} {F' : List Addr} {cls : String} {a : Addr}  {Qc : Heap → Prop} {nwc : Bool} (d : Dec bytes pc (.invokevirtual idx) 3 nx) (w1 : Jvm.Cond.methodLink own idx y ∈ Ws) (w2 : Jvm.Cond.declares y ∈ Ws) (w5 : Jvm.Cond.selects cls y z ∈ Ws) (w6 : Jvm.Cond.instanceMethod z ∈ Ws) (w3 : Jvm.Cond.initialized z.cls ∈ Ws) (w4 : Jvm.Cond.code z yb yl yr ∈ Ws) (hy : y.cls ≠ "java/lang/invoke/MethodHandle" ∧ y.cls ≠ "java/lang/invoke/VarHandle") (hpar : (parseMethodDescriptor y.desc).map (fun sg => sg.parameters.length) = some 0) (hsz : Ls.size = ml) (hF : ∀ x ∈ F', x ∈ F ∨ (w ≤ x ∧ x < h.size)) (E : Exa Z h a cls)
    (nf : ∀ vm0 : Vm, (Jvm.Cond.selects cls y z).before args (s.setVm vm0) = true → NotFace (s.setVm vm0) y)
    (K : Con l Z EL nwc z yb yl yr rm F' #[.ref a] h (rV Qc)) (hf : rm.frames + 1 ≤ R.frames) (hl : (st.map fun v => v.category).sum + (yl + 11) + rm.locals ≤ R.locals) (hk : k + rm.cells ≤ R.cells) (hn : n + rm.slots ≤ R.slots) (g : ∀ h', Qc h' → Goes p l e R s m args below meth c Z EL nw Q F (wm nwc w h') h' (k + rm.cells) (n + rm.slots) (mkF m nx Ls st)) (hnw : nw = true → nwc = true := by first | exact id | exact fun _ => rfl) : Goes p l e R s m args below meth c Z EL nw Q F w h k n (mkF m pc Ls (.ref a :: st)) :=
  C.virtual hnw hF (argsL := []) (rest := st) d w1 w2 w5 w6 hy (len_par hpar rfl) rfl hsz hk hn E nf (K.pays (C.wrd w4) (C.wrd w3) C.2.2.2.2.2.2.2.2 hf hl) (Nat.le_refl _) (fun v h' q => by obtain ⟨rfl, q⟩ := q; exact g h' q)
theorem Cxt.s0R (C : Cxt p m meth c Z a0 EL own mn bytes ml ret Ws) {idx : Nat} {y : MethodName} {yb : ByteArray} {yl : Nat} {yr : Option FieldType} {rm : Room} {F' : List Addr}  {Qc : Value → Heap → Prop} {nwc : Bool} (d : Dec bytes pc (.invokestatic idx) 3 nx) (w1 : Jvm.Cond.methodLink own idx y ∈ Ws) (w2 : Jvm.Cond.static y ∈ Ws) (w3 : Jvm.Cond.initialized y.cls ∈ Ws) (w4 : Jvm.Cond.code y yb yl yr ∈ Ws) (hy : y.cls ≠ "java/lang/invoke/MethodHandle" ∧ y.cls ≠ "java/lang/invoke/VarHandle") (hpar : (parseMethodDescriptor y.desc).map (fun sg => sg.parameters.length) = some 0) (hsz : Ls.size = ml) (hF : ∀ x ∈ F', x ∈ F ∨ (w ≤ x ∧ x < h.size))
    (K : Con l Z EL nwc y yb yl yr rm F' #[] h (rR Qc)) (hf : rm.frames + 1 ≤ R.frames) (hl : (st.map fun v => v.category).sum + (yl + 11) + rm.locals ≤ R.locals) (hk : k + rm.cells ≤ R.cells) (hn : n + rm.slots ≤ R.slots) (g : ∀ v h', Qc v h' → Goes p l e R s m args below meth c Z EL nw Q F (wm nwc w h') h' (k + rm.cells) (n + rm.slots) (mkF m nx Ls (v :: st))) (hnw : nw = true → nwc = true := by first | exact id | exact fun _ => rfl) : Goes p l e R s m args below meth c Z EL nw Q F w h k n (mkF m pc Ls st) :=
  C.static hnw hF (argsL := []) (rest := st) d w1 w2 w3 w4 hy (len_par hpar rfl) rfl hsz hk hn (K.pays (C.wrd w4) (C.wrd w3) C.2.2.2.2.2.2.2.2 hf hl) (Nat.le_refl _) (fun v h' q => by obtain ⟨v, rfl, q⟩ := q; exact g v h' q)
theorem Cxt.v0R (C : Cxt p m meth c Z a0 EL own mn bytes ml ret Ws) {idx : Nat} {y z : MethodName} {yb : ByteArray} {yl : Nat} {yr : Option FieldType} {rm : Room} {F' : List Addr} {cls : String} {a : Addr}  {Qc : Value → Heap → Prop} {nwc : Bool} (d : Dec bytes pc (.invokevirtual idx) 3 nx) (w1 : Jvm.Cond.methodLink own idx y ∈ Ws) (w2 : Jvm.Cond.declares y ∈ Ws) (w5 : Jvm.Cond.selects cls y z ∈ Ws) (w6 : Jvm.Cond.instanceMethod z ∈ Ws) (w3 : Jvm.Cond.initialized z.cls ∈ Ws) (w4 : Jvm.Cond.code z yb yl yr ∈ Ws) (hy : y.cls ≠ "java/lang/invoke/MethodHandle" ∧ y.cls ≠ "java/lang/invoke/VarHandle") (hpar : (parseMethodDescriptor y.desc).map (fun sg => sg.parameters.length) = some 0) (hsz : Ls.size = ml) (hF : ∀ x ∈ F', x ∈ F ∨ (w ≤ x ∧ x < h.size)) (E : Exa Z h a cls)
    (nf : ∀ vm0 : Vm, (Jvm.Cond.selects cls y z).before args (s.setVm vm0) = true → NotFace (s.setVm vm0) y)
    (K : Con l Z EL nwc z yb yl yr rm F' #[.ref a] h (rR Qc)) (hf : rm.frames + 1 ≤ R.frames) (hl : (st.map fun v => v.category).sum + (yl + 11) + rm.locals ≤ R.locals) (hk : k + rm.cells ≤ R.cells) (hn : n + rm.slots ≤ R.slots) (g : ∀ v h', Qc v h' → Goes p l e R s m args below meth c Z EL nw Q F (wm nwc w h') h' (k + rm.cells) (n + rm.slots) (mkF m nx Ls (v :: st))) (hnw : nw = true → nwc = true := by first | exact id | exact fun _ => rfl) : Goes p l e R s m args below meth c Z EL nw Q F w h k n (mkF m pc Ls (.ref a :: st)) :=
  C.virtual hnw hF (argsL := []) (rest := st) d w1 w2 w5 w6 hy (len_par hpar rfl) rfl hsz hk hn E nf (K.pays (C.wrd w4) (C.wrd w3) C.2.2.2.2.2.2.2.2 hf hl) (Nat.le_refl _) (fun v h' q => by obtain ⟨v, rfl, q⟩ := q; exact g v h' q)
theorem Cxt.s1V (C : Cxt p m meth c Z a0 EL own mn bytes ml ret Ws) {idx : Nat} {y : MethodName} {yb : ByteArray} {yl : Nat} {yr : Option FieldType} {rm : Room} {F' : List Addr} {x1 : Value} {Qc : Heap → Prop} {nwc : Bool} (d : Dec bytes pc (.invokestatic idx) 3 nx) (w1 : Jvm.Cond.methodLink own idx y ∈ Ws) (w2 : Jvm.Cond.static y ∈ Ws) (w3 : Jvm.Cond.initialized y.cls ∈ Ws) (w4 : Jvm.Cond.code y yb yl yr ∈ Ws) (hy : y.cls ≠ "java/lang/invoke/MethodHandle" ∧ y.cls ≠ "java/lang/invoke/VarHandle") (hpar : (parseMethodDescriptor y.desc).map (fun sg => sg.parameters.length) = some 1) (hsz : Ls.size = ml) (hF : ∀ x ∈ F', x ∈ F ∨ (w ≤ x ∧ x < h.size))
    (K : Con l Z EL nwc y yb yl yr rm F' #[x1] h (rV Qc)) (hf : rm.frames + 1 ≤ R.frames) (hl : (st.map fun v => v.category).sum + (yl + 11) + rm.locals ≤ R.locals) (hk : k + rm.cells ≤ R.cells) (hn : n + rm.slots ≤ R.slots) (g : ∀ h', Qc h' → Goes p l e R s m args below meth c Z EL nw Q F (wm nwc w h') h' (k + rm.cells) (n + rm.slots) (mkF m nx Ls st)) (hnw : nw = true → nwc = true := by first | exact id | exact fun _ => rfl) : Goes p l e R s m args below meth c Z EL nw Q F w h k n (mkF m pc Ls (x1 :: st)) :=
  C.static hnw hF (argsL := [x1]) (rest := st) d w1 w2 w3 w4 hy (len_par hpar rfl) rfl hsz hk hn (K.pays (C.wrd w4) (C.wrd w3) C.2.2.2.2.2.2.2.2 hf hl) (Nat.le_refl _) (fun v h' q => by obtain ⟨rfl, q⟩ := q; exact g h' q)
theorem Cxt.c1 (C : Cxt p m meth c Z a0 EL own mn bytes ml ret Ws) {idx : Nat} {y : MethodName} {yb : ByteArray} {yl : Nat} {rm : Room} {F' : List Addr} {a : Addr} {x1 : Value} {Qc : Heap → Prop} {nwc : Bool} (d : Dec bytes pc (.invokespecial idx) 3 nx) (hy1 : y.name = "<init>") (w1 : Jvm.Cond.methodLink own idx y ∈ Ws) (w2 : Jvm.Cond.instanceMethod y ∈ Ws) (w3 : Jvm.Cond.initialized y.cls ∈ Ws) (w4 : Jvm.Cond.code y yb yl none ∈ Ws) (hy : y.cls ≠ "java/lang/invoke/MethodHandle" ∧ y.cls ≠ "java/lang/invoke/VarHandle") (hpar : (parseMethodDescriptor y.desc).map (fun sg => sg.parameters.length) = some 1) (hsz : Ls.size = ml) (hF : ∀ x ∈ F', x ∈ F ∨ (w ≤ x ∧ x < h.size))
    (K : Con l Z EL nwc y yb yl none rm F' #[.ref a, x1] h (rV Qc)) (hf : rm.frames + 1 ≤ R.frames) (hl : (st.map fun v => v.category).sum + (yl + 11) + rm.locals ≤ R.locals) (hk : k + rm.cells ≤ R.cells) (hn : n + rm.slots ≤ R.slots) (g : ∀ h', Qc h' → Goes p l e R s m args below meth c Z EL nw Q F (wm nwc w h') h' (k + rm.cells) (n + rm.slots) (mkF m nx Ls st)) (hnw : nw = true → nwc = true := by first | exact id | exact fun _ => rfl) : Goes p l e R s m args below meth c Z EL nw Q F w h k n (mkF m pc Ls (x1 :: .ref a :: st)) :=
  C.special hnw hF (argsL := [x1]) (rest := st) d hy1 w1 w2 w4 hy (len_par hpar rfl) rfl hsz hk hn (K.pays (C.wrd w4) (C.wrd w3) C.2.2.2.2.2.2.2.2 hf hl) (Nat.le_refl _) (fun v h' q => by obtain ⟨rfl, q⟩ := q; exact g h' q)
theorem Cxt.v1V (C : Cxt p m meth c Z a0 EL own mn bytes ml ret Ws) {idx : Nat} {y z : MethodName} {yb : ByteArray} {yl : Nat} {yr : Option FieldType} {rm : Room} {F' : List Addr} {cls : String} {a : Addr} {x1 : Value} {Qc : Heap → Prop} {nwc : Bool} (d : Dec bytes pc (.invokevirtual idx) 3 nx) (w1 : Jvm.Cond.methodLink own idx y ∈ Ws) (w2 : Jvm.Cond.declares y ∈ Ws) (w5 : Jvm.Cond.selects cls y z ∈ Ws) (w6 : Jvm.Cond.instanceMethod z ∈ Ws) (w3 : Jvm.Cond.initialized z.cls ∈ Ws) (w4 : Jvm.Cond.code z yb yl yr ∈ Ws) (hy : y.cls ≠ "java/lang/invoke/MethodHandle" ∧ y.cls ≠ "java/lang/invoke/VarHandle") (hpar : (parseMethodDescriptor y.desc).map (fun sg => sg.parameters.length) = some 1) (hsz : Ls.size = ml) (hF : ∀ x ∈ F', x ∈ F ∨ (w ≤ x ∧ x < h.size)) (E : Exa Z h a cls)
    (nf : ∀ vm0 : Vm, (Jvm.Cond.selects cls y z).before args (s.setVm vm0) = true → NotFace (s.setVm vm0) y)
    (K : Con l Z EL nwc z yb yl yr rm F' #[.ref a, x1] h (rV Qc)) (hf : rm.frames + 1 ≤ R.frames) (hl : (st.map fun v => v.category).sum + (yl + 11) + rm.locals ≤ R.locals) (hk : k + rm.cells ≤ R.cells) (hn : n + rm.slots ≤ R.slots) (g : ∀ h', Qc h' → Goes p l e R s m args below meth c Z EL nw Q F (wm nwc w h') h' (k + rm.cells) (n + rm.slots) (mkF m nx Ls st)) (hnw : nw = true → nwc = true := by first | exact id | exact fun _ => rfl) : Goes p l e R s m args below meth c Z EL nw Q F w h k n (mkF m pc Ls (x1 :: .ref a :: st)) :=
  C.virtual hnw hF (argsL := [x1]) (rest := st) d w1 w2 w5 w6 hy (len_par hpar rfl) rfl hsz hk hn E nf (K.pays (C.wrd w4) (C.wrd w3) C.2.2.2.2.2.2.2.2 hf hl) (Nat.le_refl _) (fun v h' q => by obtain ⟨rfl, q⟩ := q; exact g h' q)
theorem Cxt.s1R (C : Cxt p m meth c Z a0 EL own mn bytes ml ret Ws) {idx : Nat} {y : MethodName} {yb : ByteArray} {yl : Nat} {yr : Option FieldType} {rm : Room} {F' : List Addr} {x1 : Value} {Qc : Value → Heap → Prop} {nwc : Bool} (d : Dec bytes pc (.invokestatic idx) 3 nx) (w1 : Jvm.Cond.methodLink own idx y ∈ Ws) (w2 : Jvm.Cond.static y ∈ Ws) (w3 : Jvm.Cond.initialized y.cls ∈ Ws) (w4 : Jvm.Cond.code y yb yl yr ∈ Ws) (hy : y.cls ≠ "java/lang/invoke/MethodHandle" ∧ y.cls ≠ "java/lang/invoke/VarHandle") (hpar : (parseMethodDescriptor y.desc).map (fun sg => sg.parameters.length) = some 1) (hsz : Ls.size = ml) (hF : ∀ x ∈ F', x ∈ F ∨ (w ≤ x ∧ x < h.size))
    (K : Con l Z EL nwc y yb yl yr rm F' #[x1] h (rR Qc)) (hf : rm.frames + 1 ≤ R.frames) (hl : (st.map fun v => v.category).sum + (yl + 11) + rm.locals ≤ R.locals) (hk : k + rm.cells ≤ R.cells) (hn : n + rm.slots ≤ R.slots) (g : ∀ v h', Qc v h' → Goes p l e R s m args below meth c Z EL nw Q F (wm nwc w h') h' (k + rm.cells) (n + rm.slots) (mkF m nx Ls (v :: st))) (hnw : nw = true → nwc = true := by first | exact id | exact fun _ => rfl) : Goes p l e R s m args below meth c Z EL nw Q F w h k n (mkF m pc Ls (x1 :: st)) :=
  C.static hnw hF (argsL := [x1]) (rest := st) d w1 w2 w3 w4 hy (len_par hpar rfl) rfl hsz hk hn (K.pays (C.wrd w4) (C.wrd w3) C.2.2.2.2.2.2.2.2 hf hl) (Nat.le_refl _) (fun v h' q => by obtain ⟨v, rfl, q⟩ := q; exact g v h' q)
theorem Cxt.v1R (C : Cxt p m meth c Z a0 EL own mn bytes ml ret Ws) {idx : Nat} {y z : MethodName} {yb : ByteArray} {yl : Nat} {yr : Option FieldType} {rm : Room} {F' : List Addr} {cls : String} {a : Addr} {x1 : Value} {Qc : Value → Heap → Prop} {nwc : Bool} (d : Dec bytes pc (.invokevirtual idx) 3 nx) (w1 : Jvm.Cond.methodLink own idx y ∈ Ws) (w2 : Jvm.Cond.declares y ∈ Ws) (w5 : Jvm.Cond.selects cls y z ∈ Ws) (w6 : Jvm.Cond.instanceMethod z ∈ Ws) (w3 : Jvm.Cond.initialized z.cls ∈ Ws) (w4 : Jvm.Cond.code z yb yl yr ∈ Ws) (hy : y.cls ≠ "java/lang/invoke/MethodHandle" ∧ y.cls ≠ "java/lang/invoke/VarHandle") (hpar : (parseMethodDescriptor y.desc).map (fun sg => sg.parameters.length) = some 1) (hsz : Ls.size = ml) (hF : ∀ x ∈ F', x ∈ F ∨ (w ≤ x ∧ x < h.size)) (E : Exa Z h a cls)
    (nf : ∀ vm0 : Vm, (Jvm.Cond.selects cls y z).before args (s.setVm vm0) = true → NotFace (s.setVm vm0) y)
    (K : Con l Z EL nwc z yb yl yr rm F' #[.ref a, x1] h (rR Qc)) (hf : rm.frames + 1 ≤ R.frames) (hl : (st.map fun v => v.category).sum + (yl + 11) + rm.locals ≤ R.locals) (hk : k + rm.cells ≤ R.cells) (hn : n + rm.slots ≤ R.slots) (g : ∀ v h', Qc v h' → Goes p l e R s m args below meth c Z EL nw Q F (wm nwc w h') h' (k + rm.cells) (n + rm.slots) (mkF m nx Ls (v :: st))) (hnw : nw = true → nwc = true := by first | exact id | exact fun _ => rfl) : Goes p l e R s m args below meth c Z EL nw Q F w h k n (mkF m pc Ls (x1 :: .ref a :: st)) :=
  C.virtual hnw hF (argsL := [x1]) (rest := st) d w1 w2 w5 w6 hy (len_par hpar rfl) rfl hsz hk hn E nf (K.pays (C.wrd w4) (C.wrd w3) C.2.2.2.2.2.2.2.2 hf hl) (Nat.le_refl _) (fun v h' q => by obtain ⟨v, rfl, q⟩ := q; exact g v h' q)
theorem Cxt.s2V (C : Cxt p m meth c Z a0 EL own mn bytes ml ret Ws) {idx : Nat} {y : MethodName} {yb : ByteArray} {yl : Nat} {yr : Option FieldType} {rm : Room} {F' : List Addr} {x1 x2 : Value} {Qc : Heap → Prop} {nwc : Bool} (d : Dec bytes pc (.invokestatic idx) 3 nx) (w1 : Jvm.Cond.methodLink own idx y ∈ Ws) (w2 : Jvm.Cond.static y ∈ Ws) (w3 : Jvm.Cond.initialized y.cls ∈ Ws) (w4 : Jvm.Cond.code y yb yl yr ∈ Ws) (hy : y.cls ≠ "java/lang/invoke/MethodHandle" ∧ y.cls ≠ "java/lang/invoke/VarHandle") (hpar : (parseMethodDescriptor y.desc).map (fun sg => sg.parameters.length) = some 2) (hsz : Ls.size = ml) (hF : ∀ x ∈ F', x ∈ F ∨ (w ≤ x ∧ x < h.size))
    (K : Con l Z EL nwc y yb yl yr rm F' #[x1, x2] h (rV Qc)) (hf : rm.frames + 1 ≤ R.frames) (hl : (st.map fun v => v.category).sum + (yl + 11) + rm.locals ≤ R.locals) (hk : k + rm.cells ≤ R.cells) (hn : n + rm.slots ≤ R.slots) (g : ∀ h', Qc h' → Goes p l e R s m args below meth c Z EL nw Q F (wm nwc w h') h' (k + rm.cells) (n + rm.slots) (mkF m nx Ls st)) (hnw : nw = true → nwc = true := by first | exact id | exact fun _ => rfl) : Goes p l e R s m args below meth c Z EL nw Q F w h k n (mkF m pc Ls (x2 :: x1 :: st)) :=
  C.static hnw hF (argsL := [x1, x2]) (rest := st) d w1 w2 w3 w4 hy (len_par hpar rfl) rfl hsz hk hn (K.pays (C.wrd w4) (C.wrd w3) C.2.2.2.2.2.2.2.2 hf hl) (Nat.le_refl _) (fun v h' q => by obtain ⟨rfl, q⟩ := q; exact g h' q)
theorem Cxt.c2 (C : Cxt p m meth c Z a0 EL own mn bytes ml ret Ws) {idx : Nat} {y : MethodName} {yb : ByteArray} {yl : Nat} {rm : Room} {F' : List Addr} {a : Addr} {x1 x2 : Value} {Qc : Heap → Prop} {nwc : Bool} (d : Dec bytes pc (.invokespecial idx) 3 nx) (hy1 : y.name = "<init>") (w1 : Jvm.Cond.methodLink own idx y ∈ Ws) (w2 : Jvm.Cond.instanceMethod y ∈ Ws) (w3 : Jvm.Cond.initialized y.cls ∈ Ws) (w4 : Jvm.Cond.code y yb yl none ∈ Ws) (hy : y.cls ≠ "java/lang/invoke/MethodHandle" ∧ y.cls ≠ "java/lang/invoke/VarHandle") (hpar : (parseMethodDescriptor y.desc).map (fun sg => sg.parameters.length) = some 2) (hsz : Ls.size = ml) (hF : ∀ x ∈ F', x ∈ F ∨ (w ≤ x ∧ x < h.size))
    (K : Con l Z EL nwc y yb yl none rm F' #[.ref a, x1, x2] h (rV Qc)) (hf : rm.frames + 1 ≤ R.frames) (hl : (st.map fun v => v.category).sum + (yl + 11) + rm.locals ≤ R.locals) (hk : k + rm.cells ≤ R.cells) (hn : n + rm.slots ≤ R.slots) (g : ∀ h', Qc h' → Goes p l e R s m args below meth c Z EL nw Q F (wm nwc w h') h' (k + rm.cells) (n + rm.slots) (mkF m nx Ls st)) (hnw : nw = true → nwc = true := by first | exact id | exact fun _ => rfl) : Goes p l e R s m args below meth c Z EL nw Q F w h k n (mkF m pc Ls (x2 :: x1 :: .ref a :: st)) :=
  C.special hnw hF (argsL := [x1, x2]) (rest := st) d hy1 w1 w2 w4 hy (len_par hpar rfl) rfl hsz hk hn (K.pays (C.wrd w4) (C.wrd w3) C.2.2.2.2.2.2.2.2 hf hl) (Nat.le_refl _) (fun v h' q => by obtain ⟨rfl, q⟩ := q; exact g h' q)
theorem Cxt.v2V (C : Cxt p m meth c Z a0 EL own mn bytes ml ret Ws) {idx : Nat} {y z : MethodName} {yb : ByteArray} {yl : Nat} {yr : Option FieldType} {rm : Room} {F' : List Addr} {cls : String} {a : Addr} {x1 x2 : Value} {Qc : Heap → Prop} {nwc : Bool} (d : Dec bytes pc (.invokevirtual idx) 3 nx) (w1 : Jvm.Cond.methodLink own idx y ∈ Ws) (w2 : Jvm.Cond.declares y ∈ Ws) (w5 : Jvm.Cond.selects cls y z ∈ Ws) (w6 : Jvm.Cond.instanceMethod z ∈ Ws) (w3 : Jvm.Cond.initialized z.cls ∈ Ws) (w4 : Jvm.Cond.code z yb yl yr ∈ Ws) (hy : y.cls ≠ "java/lang/invoke/MethodHandle" ∧ y.cls ≠ "java/lang/invoke/VarHandle") (hpar : (parseMethodDescriptor y.desc).map (fun sg => sg.parameters.length) = some 2) (hsz : Ls.size = ml) (hF : ∀ x ∈ F', x ∈ F ∨ (w ≤ x ∧ x < h.size)) (E : Exa Z h a cls)
    (nf : ∀ vm0 : Vm, (Jvm.Cond.selects cls y z).before args (s.setVm vm0) = true → NotFace (s.setVm vm0) y)
    (K : Con l Z EL nwc z yb yl yr rm F' #[.ref a, x1, x2] h (rV Qc)) (hf : rm.frames + 1 ≤ R.frames) (hl : (st.map fun v => v.category).sum + (yl + 11) + rm.locals ≤ R.locals) (hk : k + rm.cells ≤ R.cells) (hn : n + rm.slots ≤ R.slots) (g : ∀ h', Qc h' → Goes p l e R s m args below meth c Z EL nw Q F (wm nwc w h') h' (k + rm.cells) (n + rm.slots) (mkF m nx Ls st)) (hnw : nw = true → nwc = true := by first | exact id | exact fun _ => rfl) : Goes p l e R s m args below meth c Z EL nw Q F w h k n (mkF m pc Ls (x2 :: x1 :: .ref a :: st)) :=
  C.virtual hnw hF (argsL := [x1, x2]) (rest := st) d w1 w2 w5 w6 hy (len_par hpar rfl) rfl hsz hk hn E nf (K.pays (C.wrd w4) (C.wrd w3) C.2.2.2.2.2.2.2.2 hf hl) (Nat.le_refl _) (fun v h' q => by obtain ⟨rfl, q⟩ := q; exact g h' q)
theorem Cxt.s2R (C : Cxt p m meth c Z a0 EL own mn bytes ml ret Ws) {idx : Nat} {y : MethodName} {yb : ByteArray} {yl : Nat} {yr : Option FieldType} {rm : Room} {F' : List Addr} {x1 x2 : Value} {Qc : Value → Heap → Prop} {nwc : Bool} (d : Dec bytes pc (.invokestatic idx) 3 nx) (w1 : Jvm.Cond.methodLink own idx y ∈ Ws) (w2 : Jvm.Cond.static y ∈ Ws) (w3 : Jvm.Cond.initialized y.cls ∈ Ws) (w4 : Jvm.Cond.code y yb yl yr ∈ Ws) (hy : y.cls ≠ "java/lang/invoke/MethodHandle" ∧ y.cls ≠ "java/lang/invoke/VarHandle") (hpar : (parseMethodDescriptor y.desc).map (fun sg => sg.parameters.length) = some 2) (hsz : Ls.size = ml) (hF : ∀ x ∈ F', x ∈ F ∨ (w ≤ x ∧ x < h.size))
    (K : Con l Z EL nwc y yb yl yr rm F' #[x1, x2] h (rR Qc)) (hf : rm.frames + 1 ≤ R.frames) (hl : (st.map fun v => v.category).sum + (yl + 11) + rm.locals ≤ R.locals) (hk : k + rm.cells ≤ R.cells) (hn : n + rm.slots ≤ R.slots) (g : ∀ v h', Qc v h' → Goes p l e R s m args below meth c Z EL nw Q F (wm nwc w h') h' (k + rm.cells) (n + rm.slots) (mkF m nx Ls (v :: st))) (hnw : nw = true → nwc = true := by first | exact id | exact fun _ => rfl) : Goes p l e R s m args below meth c Z EL nw Q F w h k n (mkF m pc Ls (x2 :: x1 :: st)) :=
  C.static hnw hF (argsL := [x1, x2]) (rest := st) d w1 w2 w3 w4 hy (len_par hpar rfl) rfl hsz hk hn (K.pays (C.wrd w4) (C.wrd w3) C.2.2.2.2.2.2.2.2 hf hl) (Nat.le_refl _) (fun v h' q => by obtain ⟨v, rfl, q⟩ := q; exact g v h' q)
theorem Cxt.v2R (C : Cxt p m meth c Z a0 EL own mn bytes ml ret Ws) {idx : Nat} {y z : MethodName} {yb : ByteArray} {yl : Nat} {yr : Option FieldType} {rm : Room} {F' : List Addr} {cls : String} {a : Addr} {x1 x2 : Value} {Qc : Value → Heap → Prop} {nwc : Bool} (d : Dec bytes pc (.invokevirtual idx) 3 nx) (w1 : Jvm.Cond.methodLink own idx y ∈ Ws) (w2 : Jvm.Cond.declares y ∈ Ws) (w5 : Jvm.Cond.selects cls y z ∈ Ws) (w6 : Jvm.Cond.instanceMethod z ∈ Ws) (w3 : Jvm.Cond.initialized z.cls ∈ Ws) (w4 : Jvm.Cond.code z yb yl yr ∈ Ws) (hy : y.cls ≠ "java/lang/invoke/MethodHandle" ∧ y.cls ≠ "java/lang/invoke/VarHandle") (hpar : (parseMethodDescriptor y.desc).map (fun sg => sg.parameters.length) = some 2) (hsz : Ls.size = ml) (hF : ∀ x ∈ F', x ∈ F ∨ (w ≤ x ∧ x < h.size)) (E : Exa Z h a cls)
    (nf : ∀ vm0 : Vm, (Jvm.Cond.selects cls y z).before args (s.setVm vm0) = true → NotFace (s.setVm vm0) y)
    (K : Con l Z EL nwc z yb yl yr rm F' #[.ref a, x1, x2] h (rR Qc)) (hf : rm.frames + 1 ≤ R.frames) (hl : (st.map fun v => v.category).sum + (yl + 11) + rm.locals ≤ R.locals) (hk : k + rm.cells ≤ R.cells) (hn : n + rm.slots ≤ R.slots) (g : ∀ v h', Qc v h' → Goes p l e R s m args below meth c Z EL nw Q F (wm nwc w h') h' (k + rm.cells) (n + rm.slots) (mkF m nx Ls (v :: st))) (hnw : nw = true → nwc = true := by first | exact id | exact fun _ => rfl) : Goes p l e R s m args below meth c Z EL nw Q F w h k n (mkF m pc Ls (x2 :: x1 :: .ref a :: st)) :=
  C.virtual hnw hF (argsL := [x1, x2]) (rest := st) d w1 w2 w5 w6 hy (len_par hpar rfl) rfl hsz hk hn E nf (K.pays (C.wrd w4) (C.wrd w3) C.2.2.2.2.2.2.2.2 hf hl) (Nat.le_refl _) (fun v h' q => by obtain ⟨v, rfl, q⟩ := q; exact g v h' q)
theorem Cxt.s3V (C : Cxt p m meth c Z a0 EL own mn bytes ml ret Ws) {idx : Nat} {y : MethodName} {yb : ByteArray} {yl : Nat} {yr : Option FieldType} {rm : Room} {F' : List Addr} {x1 x2 x3 : Value} {Qc : Heap → Prop} {nwc : Bool} (d : Dec bytes pc (.invokestatic idx) 3 nx) (w1 : Jvm.Cond.methodLink own idx y ∈ Ws) (w2 : Jvm.Cond.static y ∈ Ws) (w3 : Jvm.Cond.initialized y.cls ∈ Ws) (w4 : Jvm.Cond.code y yb yl yr ∈ Ws) (hy : y.cls ≠ "java/lang/invoke/MethodHandle" ∧ y.cls ≠ "java/lang/invoke/VarHandle") (hpar : (parseMethodDescriptor y.desc).map (fun sg => sg.parameters.length) = some 3) (hsz : Ls.size = ml) (hF : ∀ x ∈ F', x ∈ F ∨ (w ≤ x ∧ x < h.size))
    (K : Con l Z EL nwc y yb yl yr rm F' #[x1, x2, x3] h (rV Qc)) (hf : rm.frames + 1 ≤ R.frames) (hl : (st.map fun v => v.category).sum + (yl + 11) + rm.locals ≤ R.locals) (hk : k + rm.cells ≤ R.cells) (hn : n + rm.slots ≤ R.slots) (g : ∀ h', Qc h' → Goes p l e R s m args below meth c Z EL nw Q F (wm nwc w h') h' (k + rm.cells) (n + rm.slots) (mkF m nx Ls st)) (hnw : nw = true → nwc = true := by first | exact id | exact fun _ => rfl) : Goes p l e R s m args below meth c Z EL nw Q F w h k n (mkF m pc Ls (x3 :: x2 :: x1 :: st)) :=
  C.static hnw hF (argsL := [x1, x2, x3]) (rest := st) d w1 w2 w3 w4 hy (len_par hpar rfl) rfl hsz hk hn (K.pays (C.wrd w4) (C.wrd w3) C.2.2.2.2.2.2.2.2 hf hl) (Nat.le_refl _) (fun v h' q => by obtain ⟨rfl, q⟩ := q; exact g h' q)
theorem Cxt.c3 (C : Cxt p m meth c Z a0 EL own mn bytes ml ret Ws) {idx : Nat} {y : MethodName} {yb : ByteArray} {yl : Nat} {rm : Room} {F' : List Addr} {a : Addr} {x1 x2 x3 : Value} {Qc : Heap → Prop} {nwc : Bool} (d : Dec bytes pc (.invokespecial idx) 3 nx) (hy1 : y.name = "<init>") (w1 : Jvm.Cond.methodLink own idx y ∈ Ws) (w2 : Jvm.Cond.instanceMethod y ∈ Ws) (w3 : Jvm.Cond.initialized y.cls ∈ Ws) (w4 : Jvm.Cond.code y yb yl none ∈ Ws) (hy : y.cls ≠ "java/lang/invoke/MethodHandle" ∧ y.cls ≠ "java/lang/invoke/VarHandle") (hpar : (parseMethodDescriptor y.desc).map (fun sg => sg.parameters.length) = some 3) (hsz : Ls.size = ml) (hF : ∀ x ∈ F', x ∈ F ∨ (w ≤ x ∧ x < h.size))
    (K : Con l Z EL nwc y yb yl none rm F' #[.ref a, x1, x2, x3] h (rV Qc)) (hf : rm.frames + 1 ≤ R.frames) (hl : (st.map fun v => v.category).sum + (yl + 11) + rm.locals ≤ R.locals) (hk : k + rm.cells ≤ R.cells) (hn : n + rm.slots ≤ R.slots) (g : ∀ h', Qc h' → Goes p l e R s m args below meth c Z EL nw Q F (wm nwc w h') h' (k + rm.cells) (n + rm.slots) (mkF m nx Ls st)) (hnw : nw = true → nwc = true := by first | exact id | exact fun _ => rfl) : Goes p l e R s m args below meth c Z EL nw Q F w h k n (mkF m pc Ls (x3 :: x2 :: x1 :: .ref a :: st)) :=
  C.special hnw hF (argsL := [x1, x2, x3]) (rest := st) d hy1 w1 w2 w4 hy (len_par hpar rfl) rfl hsz hk hn (K.pays (C.wrd w4) (C.wrd w3) C.2.2.2.2.2.2.2.2 hf hl) (Nat.le_refl _) (fun v h' q => by obtain ⟨rfl, q⟩ := q; exact g h' q)
theorem Cxt.v3V (C : Cxt p m meth c Z a0 EL own mn bytes ml ret Ws) {idx : Nat} {y z : MethodName} {yb : ByteArray} {yl : Nat} {yr : Option FieldType} {rm : Room} {F' : List Addr} {cls : String} {a : Addr} {x1 x2 x3 : Value} {Qc : Heap → Prop} {nwc : Bool} (d : Dec bytes pc (.invokevirtual idx) 3 nx) (w1 : Jvm.Cond.methodLink own idx y ∈ Ws) (w2 : Jvm.Cond.declares y ∈ Ws) (w5 : Jvm.Cond.selects cls y z ∈ Ws) (w6 : Jvm.Cond.instanceMethod z ∈ Ws) (w3 : Jvm.Cond.initialized z.cls ∈ Ws) (w4 : Jvm.Cond.code z yb yl yr ∈ Ws) (hy : y.cls ≠ "java/lang/invoke/MethodHandle" ∧ y.cls ≠ "java/lang/invoke/VarHandle") (hpar : (parseMethodDescriptor y.desc).map (fun sg => sg.parameters.length) = some 3) (hsz : Ls.size = ml) (hF : ∀ x ∈ F', x ∈ F ∨ (w ≤ x ∧ x < h.size)) (E : Exa Z h a cls)
    (nf : ∀ vm0 : Vm, (Jvm.Cond.selects cls y z).before args (s.setVm vm0) = true → NotFace (s.setVm vm0) y)
    (K : Con l Z EL nwc z yb yl yr rm F' #[.ref a, x1, x2, x3] h (rV Qc)) (hf : rm.frames + 1 ≤ R.frames) (hl : (st.map fun v => v.category).sum + (yl + 11) + rm.locals ≤ R.locals) (hk : k + rm.cells ≤ R.cells) (hn : n + rm.slots ≤ R.slots) (g : ∀ h', Qc h' → Goes p l e R s m args below meth c Z EL nw Q F (wm nwc w h') h' (k + rm.cells) (n + rm.slots) (mkF m nx Ls st)) (hnw : nw = true → nwc = true := by first | exact id | exact fun _ => rfl) : Goes p l e R s m args below meth c Z EL nw Q F w h k n (mkF m pc Ls (x3 :: x2 :: x1 :: .ref a :: st)) :=
  C.virtual hnw hF (argsL := [x1, x2, x3]) (rest := st) d w1 w2 w5 w6 hy (len_par hpar rfl) rfl hsz hk hn E nf (K.pays (C.wrd w4) (C.wrd w3) C.2.2.2.2.2.2.2.2 hf hl) (Nat.le_refl _) (fun v h' q => by obtain ⟨rfl, q⟩ := q; exact g h' q)
theorem Cxt.s3R (C : Cxt p m meth c Z a0 EL own mn bytes ml ret Ws) {idx : Nat} {y : MethodName} {yb : ByteArray} {yl : Nat} {yr : Option FieldType} {rm : Room} {F' : List Addr} {x1 x2 x3 : Value} {Qc : Value → Heap → Prop} {nwc : Bool} (d : Dec bytes pc (.invokestatic idx) 3 nx) (w1 : Jvm.Cond.methodLink own idx y ∈ Ws) (w2 : Jvm.Cond.static y ∈ Ws) (w3 : Jvm.Cond.initialized y.cls ∈ Ws) (w4 : Jvm.Cond.code y yb yl yr ∈ Ws) (hy : y.cls ≠ "java/lang/invoke/MethodHandle" ∧ y.cls ≠ "java/lang/invoke/VarHandle") (hpar : (parseMethodDescriptor y.desc).map (fun sg => sg.parameters.length) = some 3) (hsz : Ls.size = ml) (hF : ∀ x ∈ F', x ∈ F ∨ (w ≤ x ∧ x < h.size))
    (K : Con l Z EL nwc y yb yl yr rm F' #[x1, x2, x3] h (rR Qc)) (hf : rm.frames + 1 ≤ R.frames) (hl : (st.map fun v => v.category).sum + (yl + 11) + rm.locals ≤ R.locals) (hk : k + rm.cells ≤ R.cells) (hn : n + rm.slots ≤ R.slots) (g : ∀ v h', Qc v h' → Goes p l e R s m args below meth c Z EL nw Q F (wm nwc w h') h' (k + rm.cells) (n + rm.slots) (mkF m nx Ls (v :: st))) (hnw : nw = true → nwc = true := by first | exact id | exact fun _ => rfl) : Goes p l e R s m args below meth c Z EL nw Q F w h k n (mkF m pc Ls (x3 :: x2 :: x1 :: st)) :=
  C.static hnw hF (argsL := [x1, x2, x3]) (rest := st) d w1 w2 w3 w4 hy (len_par hpar rfl) rfl hsz hk hn (K.pays (C.wrd w4) (C.wrd w3) C.2.2.2.2.2.2.2.2 hf hl) (Nat.le_refl _) (fun v h' q => by obtain ⟨v, rfl, q⟩ := q; exact g v h' q)
theorem Cxt.v3R (C : Cxt p m meth c Z a0 EL own mn bytes ml ret Ws) {idx : Nat} {y z : MethodName} {yb : ByteArray} {yl : Nat} {yr : Option FieldType} {rm : Room} {F' : List Addr} {cls : String} {a : Addr} {x1 x2 x3 : Value} {Qc : Value → Heap → Prop} {nwc : Bool} (d : Dec bytes pc (.invokevirtual idx) 3 nx) (w1 : Jvm.Cond.methodLink own idx y ∈ Ws) (w2 : Jvm.Cond.declares y ∈ Ws) (w5 : Jvm.Cond.selects cls y z ∈ Ws) (w6 : Jvm.Cond.instanceMethod z ∈ Ws) (w3 : Jvm.Cond.initialized z.cls ∈ Ws) (w4 : Jvm.Cond.code z yb yl yr ∈ Ws) (hy : y.cls ≠ "java/lang/invoke/MethodHandle" ∧ y.cls ≠ "java/lang/invoke/VarHandle") (hpar : (parseMethodDescriptor y.desc).map (fun sg => sg.parameters.length) = some 3) (hsz : Ls.size = ml) (hF : ∀ x ∈ F', x ∈ F ∨ (w ≤ x ∧ x < h.size)) (E : Exa Z h a cls)
    (nf : ∀ vm0 : Vm, (Jvm.Cond.selects cls y z).before args (s.setVm vm0) = true → NotFace (s.setVm vm0) y)
    (K : Con l Z EL nwc z yb yl yr rm F' #[.ref a, x1, x2, x3] h (rR Qc)) (hf : rm.frames + 1 ≤ R.frames) (hl : (st.map fun v => v.category).sum + (yl + 11) + rm.locals ≤ R.locals) (hk : k + rm.cells ≤ R.cells) (hn : n + rm.slots ≤ R.slots) (g : ∀ v h', Qc v h' → Goes p l e R s m args below meth c Z EL nw Q F (wm nwc w h') h' (k + rm.cells) (n + rm.slots) (mkF m nx Ls (v :: st))) (hnw : nw = true → nwc = true := by first | exact id | exact fun _ => rfl) : Goes p l e R s m args below meth c Z EL nw Q F w h k n (mkF m pc Ls (x3 :: x2 :: x1 :: .ref a :: st)) :=
  C.virtual hnw hF (argsL := [x1, x2, x3]) (rest := st) d w1 w2 w5 w6 hy (len_par hpar rfl) rfl hsz hk hn E nf (K.pays (C.wrd w4) (C.wrd w3) C.2.2.2.2.2.2.2.2 hf hl) (Nat.le_refl _) (fun v h' q => by obtain ⟨v, rfl, q⟩ := q; exact g v h' q)
theorem Cxt.s4V (C : Cxt p m meth c Z a0 EL own mn bytes ml ret Ws) {idx : Nat} {y : MethodName} {yb : ByteArray} {yl : Nat} {yr : Option FieldType} {rm : Room} {F' : List Addr} {x1 x2 x3 x4 : Value} {Qc : Heap → Prop} {nwc : Bool} (d : Dec bytes pc (.invokestatic idx) 3 nx) (w1 : Jvm.Cond.methodLink own idx y ∈ Ws) (w2 : Jvm.Cond.static y ∈ Ws) (w3 : Jvm.Cond.initialized y.cls ∈ Ws) (w4 : Jvm.Cond.code y yb yl yr ∈ Ws) (hy : y.cls ≠ "java/lang/invoke/MethodHandle" ∧ y.cls ≠ "java/lang/invoke/VarHandle") (hpar : (parseMethodDescriptor y.desc).map (fun sg => sg.parameters.length) = some 4) (hsz : Ls.size = ml) (hF : ∀ x ∈ F', x ∈ F ∨ (w ≤ x ∧ x < h.size))
    (K : Con l Z EL nwc y yb yl yr rm F' #[x1, x2, x3, x4] h (rV Qc)) (hf : rm.frames + 1 ≤ R.frames) (hl : (st.map fun v => v.category).sum + (yl + 11) + rm.locals ≤ R.locals) (hk : k + rm.cells ≤ R.cells) (hn : n + rm.slots ≤ R.slots) (g : ∀ h', Qc h' → Goes p l e R s m args below meth c Z EL nw Q F (wm nwc w h') h' (k + rm.cells) (n + rm.slots) (mkF m nx Ls st)) (hnw : nw = true → nwc = true := by first | exact id | exact fun _ => rfl) : Goes p l e R s m args below meth c Z EL nw Q F w h k n (mkF m pc Ls (x4 :: x3 :: x2 :: x1 :: st)) :=
  C.static hnw hF (argsL := [x1, x2, x3, x4]) (rest := st) d w1 w2 w3 w4 hy (len_par hpar rfl) rfl hsz hk hn (K.pays (C.wrd w4) (C.wrd w3) C.2.2.2.2.2.2.2.2 hf hl) (Nat.le_refl _) (fun v h' q => by obtain ⟨rfl, q⟩ := q; exact g h' q)
theorem Cxt.c4 (C : Cxt p m meth c Z a0 EL own mn bytes ml ret Ws) {idx : Nat} {y : MethodName} {yb : ByteArray} {yl : Nat} {rm : Room} {F' : List Addr} {a : Addr} {x1 x2 x3 x4 : Value} {Qc : Heap → Prop} {nwc : Bool} (d : Dec bytes pc (.invokespecial idx) 3 nx) (hy1 : y.name = "<init>") (w1 : Jvm.Cond.methodLink own idx y ∈ Ws) (w2 : Jvm.Cond.instanceMethod y ∈ Ws) (w3 : Jvm.Cond.initialized y.cls ∈ Ws) (w4 : Jvm.Cond.code y yb yl none ∈ Ws) (hy : y.cls ≠ "java/lang/invoke/MethodHandle" ∧ y.cls ≠ "java/lang/invoke/VarHandle") (hpar : (parseMethodDescriptor y.desc).map (fun sg => sg.parameters.length) = some 4) (hsz : Ls.size = ml) (hF : ∀ x ∈ F', x ∈ F ∨ (w ≤ x ∧ x < h.size))
    (K : Con l Z EL nwc y yb yl none rm F' #[.ref a, x1, x2, x3, x4] h (rV Qc)) (hf : rm.frames + 1 ≤ R.frames) (hl : (st.map fun v => v.category).sum + (yl + 11) + rm.locals ≤ R.locals) (hk : k + rm.cells ≤ R.cells) (hn : n + rm.slots ≤ R.slots) (g : ∀ h', Qc h' → Goes p l e R s m args below meth c Z EL nw Q F (wm nwc w h') h' (k + rm.cells) (n + rm.slots) (mkF m nx Ls st)) (hnw : nw = true → nwc = true := by first | exact id | exact fun _ => rfl) : Goes p l e R s m args below meth c Z EL nw Q F w h k n (mkF m pc Ls (x4 :: x3 :: x2 :: x1 :: .ref a :: st)) :=
  C.special hnw hF (argsL := [x1, x2, x3, x4]) (rest := st) d hy1 w1 w2 w4 hy (len_par hpar rfl) rfl hsz hk hn (K.pays (C.wrd w4) (C.wrd w3) C.2.2.2.2.2.2.2.2 hf hl) (Nat.le_refl _) (fun v h' q => by obtain ⟨rfl, q⟩ := q; exact g h' q)
theorem Cxt.v4V (C : Cxt p m meth c Z a0 EL own mn bytes ml ret Ws) {idx : Nat} {y z : MethodName} {yb : ByteArray} {yl : Nat} {yr : Option FieldType} {rm : Room} {F' : List Addr} {cls : String} {a : Addr} {x1 x2 x3 x4 : Value} {Qc : Heap → Prop} {nwc : Bool} (d : Dec bytes pc (.invokevirtual idx) 3 nx) (w1 : Jvm.Cond.methodLink own idx y ∈ Ws) (w2 : Jvm.Cond.declares y ∈ Ws) (w5 : Jvm.Cond.selects cls y z ∈ Ws) (w6 : Jvm.Cond.instanceMethod z ∈ Ws) (w3 : Jvm.Cond.initialized z.cls ∈ Ws) (w4 : Jvm.Cond.code z yb yl yr ∈ Ws) (hy : y.cls ≠ "java/lang/invoke/MethodHandle" ∧ y.cls ≠ "java/lang/invoke/VarHandle") (hpar : (parseMethodDescriptor y.desc).map (fun sg => sg.parameters.length) = some 4) (hsz : Ls.size = ml) (hF : ∀ x ∈ F', x ∈ F ∨ (w ≤ x ∧ x < h.size)) (E : Exa Z h a cls)
    (nf : ∀ vm0 : Vm, (Jvm.Cond.selects cls y z).before args (s.setVm vm0) = true → NotFace (s.setVm vm0) y)
    (K : Con l Z EL nwc z yb yl yr rm F' #[.ref a, x1, x2, x3, x4] h (rV Qc)) (hf : rm.frames + 1 ≤ R.frames) (hl : (st.map fun v => v.category).sum + (yl + 11) + rm.locals ≤ R.locals) (hk : k + rm.cells ≤ R.cells) (hn : n + rm.slots ≤ R.slots) (g : ∀ h', Qc h' → Goes p l e R s m args below meth c Z EL nw Q F (wm nwc w h') h' (k + rm.cells) (n + rm.slots) (mkF m nx Ls st)) (hnw : nw = true → nwc = true := by first | exact id | exact fun _ => rfl) : Goes p l e R s m args below meth c Z EL nw Q F w h k n (mkF m pc Ls (x4 :: x3 :: x2 :: x1 :: .ref a :: st)) :=
  C.virtual hnw hF (argsL := [x1, x2, x3, x4]) (rest := st) d w1 w2 w5 w6 hy (len_par hpar rfl) rfl hsz hk hn E nf (K.pays (C.wrd w4) (C.wrd w3) C.2.2.2.2.2.2.2.2 hf hl) (Nat.le_refl _) (fun v h' q => by obtain ⟨rfl, q⟩ := q; exact g h' q)
theorem Cxt.s4R (C : Cxt p m meth c Z a0 EL own mn bytes ml ret Ws) {idx : Nat} {y : MethodName} {yb : ByteArray} {yl : Nat} {yr : Option FieldType} {rm : Room} {F' : List Addr} {x1 x2 x3 x4 : Value} {Qc : Value → Heap → Prop} {nwc : Bool} (d : Dec bytes pc (.invokestatic idx) 3 nx) (w1 : Jvm.Cond.methodLink own idx y ∈ Ws) (w2 : Jvm.Cond.static y ∈ Ws) (w3 : Jvm.Cond.initialized y.cls ∈ Ws) (w4 : Jvm.Cond.code y yb yl yr ∈ Ws) (hy : y.cls ≠ "java/lang/invoke/MethodHandle" ∧ y.cls ≠ "java/lang/invoke/VarHandle") (hpar : (parseMethodDescriptor y.desc).map (fun sg => sg.parameters.length) = some 4) (hsz : Ls.size = ml) (hF : ∀ x ∈ F', x ∈ F ∨ (w ≤ x ∧ x < h.size))
    (K : Con l Z EL nwc y yb yl yr rm F' #[x1, x2, x3, x4] h (rR Qc)) (hf : rm.frames + 1 ≤ R.frames) (hl : (st.map fun v => v.category).sum + (yl + 11) + rm.locals ≤ R.locals) (hk : k + rm.cells ≤ R.cells) (hn : n + rm.slots ≤ R.slots) (g : ∀ v h', Qc v h' → Goes p l e R s m args below meth c Z EL nw Q F (wm nwc w h') h' (k + rm.cells) (n + rm.slots) (mkF m nx Ls (v :: st))) (hnw : nw = true → nwc = true := by first | exact id | exact fun _ => rfl) : Goes p l e R s m args below meth c Z EL nw Q F w h k n (mkF m pc Ls (x4 :: x3 :: x2 :: x1 :: st)) :=
  C.static hnw hF (argsL := [x1, x2, x3, x4]) (rest := st) d w1 w2 w3 w4 hy (len_par hpar rfl) rfl hsz hk hn (K.pays (C.wrd w4) (C.wrd w3) C.2.2.2.2.2.2.2.2 hf hl) (Nat.le_refl _) (fun v h' q => by obtain ⟨v, rfl, q⟩ := q; exact g v h' q)
theorem Cxt.v4R (C : Cxt p m meth c Z a0 EL own mn bytes ml ret Ws) {idx : Nat} {y z : MethodName} {yb : ByteArray} {yl : Nat} {yr : Option FieldType} {rm : Room} {F' : List Addr} {cls : String} {a : Addr} {x1 x2 x3 x4 : Value} {Qc : Value → Heap → Prop} {nwc : Bool} (d : Dec bytes pc (.invokevirtual idx) 3 nx) (w1 : Jvm.Cond.methodLink own idx y ∈ Ws) (w2 : Jvm.Cond.declares y ∈ Ws) (w5 : Jvm.Cond.selects cls y z ∈ Ws) (w6 : Jvm.Cond.instanceMethod z ∈ Ws) (w3 : Jvm.Cond.initialized z.cls ∈ Ws) (w4 : Jvm.Cond.code z yb yl yr ∈ Ws) (hy : y.cls ≠ "java/lang/invoke/MethodHandle" ∧ y.cls ≠ "java/lang/invoke/VarHandle") (hpar : (parseMethodDescriptor y.desc).map (fun sg => sg.parameters.length) = some 4) (hsz : Ls.size = ml) (hF : ∀ x ∈ F', x ∈ F ∨ (w ≤ x ∧ x < h.size)) (E : Exa Z h a cls)
    (nf : ∀ vm0 : Vm, (Jvm.Cond.selects cls y z).before args (s.setVm vm0) = true → NotFace (s.setVm vm0) y)
    (K : Con l Z EL nwc z yb yl yr rm F' #[.ref a, x1, x2, x3, x4] h (rR Qc)) (hf : rm.frames + 1 ≤ R.frames) (hl : (st.map fun v => v.category).sum + (yl + 11) + rm.locals ≤ R.locals) (hk : k + rm.cells ≤ R.cells) (hn : n + rm.slots ≤ R.slots) (g : ∀ v h', Qc v h' → Goes p l e R s m args below meth c Z EL nw Q F (wm nwc w h') h' (k + rm.cells) (n + rm.slots) (mkF m nx Ls (v :: st))) (hnw : nw = true → nwc = true := by first | exact id | exact fun _ => rfl) : Goes p l e R s m args below meth c Z EL nw Q F w h k n (mkF m pc Ls (x4 :: x3 :: x2 :: x1 :: .ref a :: st)) :=
  C.virtual hnw hF (argsL := [x1, x2, x3, x4]) (rest := st) d w1 w2 w5 w6 hy (len_par hpar rfl) rfl hsz hk hn E nf (K.pays (C.wrd w4) (C.wrd w3) C.2.2.2.2.2.2.2.2 hf hl) (Nat.le_refl _) (fun v h' q => by obtain ⟨v, rfl, q⟩ := q; exact g v h' q)
theorem Cxt.s5V (C : Cxt p m meth c Z a0 EL own mn bytes ml ret Ws) {idx : Nat} {y : MethodName} {yb : ByteArray} {yl : Nat} {yr : Option FieldType} {rm : Room} {F' : List Addr} {x1 x2 x3 x4 x5 : Value} {Qc : Heap → Prop} {nwc : Bool} (d : Dec bytes pc (.invokestatic idx) 3 nx) (w1 : Jvm.Cond.methodLink own idx y ∈ Ws) (w2 : Jvm.Cond.static y ∈ Ws) (w3 : Jvm.Cond.initialized y.cls ∈ Ws) (w4 : Jvm.Cond.code y yb yl yr ∈ Ws) (hy : y.cls ≠ "java/lang/invoke/MethodHandle" ∧ y.cls ≠ "java/lang/invoke/VarHandle") (hpar : (parseMethodDescriptor y.desc).map (fun sg => sg.parameters.length) = some 5) (hsz : Ls.size = ml) (hF : ∀ x ∈ F', x ∈ F ∨ (w ≤ x ∧ x < h.size))
    (K : Con l Z EL nwc y yb yl yr rm F' #[x1, x2, x3, x4, x5] h (rV Qc)) (hf : rm.frames + 1 ≤ R.frames) (hl : (st.map fun v => v.category).sum + (yl + 11) + rm.locals ≤ R.locals) (hk : k + rm.cells ≤ R.cells) (hn : n + rm.slots ≤ R.slots) (g : ∀ h', Qc h' → Goes p l e R s m args below meth c Z EL nw Q F (wm nwc w h') h' (k + rm.cells) (n + rm.slots) (mkF m nx Ls st)) (hnw : nw = true → nwc = true := by first | exact id | exact fun _ => rfl) : Goes p l e R s m args below meth c Z EL nw Q F w h k n (mkF m pc Ls (x5 :: x4 :: x3 :: x2 :: x1 :: st)) :=
  C.static hnw hF (argsL := [x1, x2, x3, x4, x5]) (rest := st) d w1 w2 w3 w4 hy (len_par hpar rfl) rfl hsz hk hn (K.pays (C.wrd w4) (C.wrd w3) C.2.2.2.2.2.2.2.2 hf hl) (Nat.le_refl _) (fun v h' q => by obtain ⟨rfl, q⟩ := q; exact g h' q)
theorem Cxt.c5 (C : Cxt p m meth c Z a0 EL own mn bytes ml ret Ws) {idx : Nat} {y : MethodName} {yb : ByteArray} {yl : Nat} {rm : Room} {F' : List Addr} {a : Addr} {x1 x2 x3 x4 x5 : Value} {Qc : Heap → Prop} {nwc : Bool} (d : Dec bytes pc (.invokespecial idx) 3 nx) (hy1 : y.name = "<init>") (w1 : Jvm.Cond.methodLink own idx y ∈ Ws) (w2 : Jvm.Cond.instanceMethod y ∈ Ws) (w3 : Jvm.Cond.initialized y.cls ∈ Ws) (w4 : Jvm.Cond.code y yb yl none ∈ Ws) (hy : y.cls ≠ "java/lang/invoke/MethodHandle" ∧ y.cls ≠ "java/lang/invoke/VarHandle") (hpar : (parseMethodDescriptor y.desc).map (fun sg => sg.parameters.length) = some 5) (hsz : Ls.size = ml) (hF : ∀ x ∈ F', x ∈ F ∨ (w ≤ x ∧ x < h.size))
    (K : Con l Z EL nwc y yb yl none rm F' #[.ref a, x1, x2, x3, x4, x5] h (rV Qc)) (hf : rm.frames + 1 ≤ R.frames) (hl : (st.map fun v => v.category).sum + (yl + 11) + rm.locals ≤ R.locals) (hk : k + rm.cells ≤ R.cells) (hn : n + rm.slots ≤ R.slots) (g : ∀ h', Qc h' → Goes p l e R s m args below meth c Z EL nw Q F (wm nwc w h') h' (k + rm.cells) (n + rm.slots) (mkF m nx Ls st)) (hnw : nw = true → nwc = true := by first | exact id | exact fun _ => rfl) : Goes p l e R s m args below meth c Z EL nw Q F w h k n (mkF m pc Ls (x5 :: x4 :: x3 :: x2 :: x1 :: .ref a :: st)) :=
  C.special hnw hF (argsL := [x1, x2, x3, x4, x5]) (rest := st) d hy1 w1 w2 w4 hy (len_par hpar rfl) rfl hsz hk hn (K.pays (C.wrd w4) (C.wrd w3) C.2.2.2.2.2.2.2.2 hf hl) (Nat.le_refl _) (fun v h' q => by obtain ⟨rfl, q⟩ := q; exact g h' q)
theorem Cxt.s5R (C : Cxt p m meth c Z a0 EL own mn bytes ml ret Ws) {idx : Nat} {y : MethodName} {yb : ByteArray} {yl : Nat} {yr : Option FieldType} {rm : Room} {F' : List Addr} {x1 x2 x3 x4 x5 : Value} {Qc : Value → Heap → Prop} {nwc : Bool} (d : Dec bytes pc (.invokestatic idx) 3 nx) (w1 : Jvm.Cond.methodLink own idx y ∈ Ws) (w2 : Jvm.Cond.static y ∈ Ws) (w3 : Jvm.Cond.initialized y.cls ∈ Ws) (w4 : Jvm.Cond.code y yb yl yr ∈ Ws) (hy : y.cls ≠ "java/lang/invoke/MethodHandle" ∧ y.cls ≠ "java/lang/invoke/VarHandle") (hpar : (parseMethodDescriptor y.desc).map (fun sg => sg.parameters.length) = some 5) (hsz : Ls.size = ml) (hF : ∀ x ∈ F', x ∈ F ∨ (w ≤ x ∧ x < h.size))
    (K : Con l Z EL nwc y yb yl yr rm F' #[x1, x2, x3, x4, x5] h (rR Qc)) (hf : rm.frames + 1 ≤ R.frames) (hl : (st.map fun v => v.category).sum + (yl + 11) + rm.locals ≤ R.locals) (hk : k + rm.cells ≤ R.cells) (hn : n + rm.slots ≤ R.slots) (g : ∀ v h', Qc v h' → Goes p l e R s m args below meth c Z EL nw Q F (wm nwc w h') h' (k + rm.cells) (n + rm.slots) (mkF m nx Ls (v :: st))) (hnw : nw = true → nwc = true := by first | exact id | exact fun _ => rfl) : Goes p l e R s m args below meth c Z EL nw Q F w h k n (mkF m pc Ls (x5 :: x4 :: x3 :: x2 :: x1 :: st)) :=
  C.static hnw hF (argsL := [x1, x2, x3, x4, x5]) (rest := st) d w1 w2 w3 w4 hy (len_par hpar rfl) rfl hsz hk hn (K.pays (C.wrd w4) (C.wrd w3) C.2.2.2.2.2.2.2.2 hf hl) (Nat.le_refl _) (fun v h' q => by obtain ⟨v, rfl, q⟩ := q; exact g v h' q)
theorem Cxt.s6V (C : Cxt p m meth c Z a0 EL own mn bytes ml ret Ws) {idx : Nat} {y : MethodName} {yb : ByteArray} {yl : Nat} {yr : Option FieldType} {rm : Room} {F' : List Addr} {x1 x2 x3 x4 x5 x6 : Value} {Qc : Heap → Prop} {nwc : Bool} (d : Dec bytes pc (.invokestatic idx) 3 nx) (w1 : Jvm.Cond.methodLink own idx y ∈ Ws) (w2 : Jvm.Cond.static y ∈ Ws) (w3 : Jvm.Cond.initialized y.cls ∈ Ws) (w4 : Jvm.Cond.code y yb yl yr ∈ Ws) (hy : y.cls ≠ "java/lang/invoke/MethodHandle" ∧ y.cls ≠ "java/lang/invoke/VarHandle") (hpar : (parseMethodDescriptor y.desc).map (fun sg => sg.parameters.length) = some 6) (hsz : Ls.size = ml) (hF : ∀ x ∈ F', x ∈ F ∨ (w ≤ x ∧ x < h.size))
    (K : Con l Z EL nwc y yb yl yr rm F' #[x1, x2, x3, x4, x5, x6] h (rV Qc)) (hf : rm.frames + 1 ≤ R.frames) (hl : (st.map fun v => v.category).sum + (yl + 11) + rm.locals ≤ R.locals) (hk : k + rm.cells ≤ R.cells) (hn : n + rm.slots ≤ R.slots) (g : ∀ h', Qc h' → Goes p l e R s m args below meth c Z EL nw Q F (wm nwc w h') h' (k + rm.cells) (n + rm.slots) (mkF m nx Ls st)) (hnw : nw = true → nwc = true := by first | exact id | exact fun _ => rfl) : Goes p l e R s m args below meth c Z EL nw Q F w h k n (mkF m pc Ls (x6 :: x5 :: x4 :: x3 :: x2 :: x1 :: st)) :=
  C.static hnw hF (argsL := [x1, x2, x3, x4, x5, x6]) (rest := st) d w1 w2 w3 w4 hy (len_par hpar rfl) rfl hsz hk hn (K.pays (C.wrd w4) (C.wrd w3) C.2.2.2.2.2.2.2.2 hf hl) (Nat.le_refl _) (fun v h' q => by obtain ⟨rfl, q⟩ := q; exact g h' q)
theorem Cxt.c6 (C : Cxt p m meth c Z a0 EL own mn bytes ml ret Ws) {idx : Nat} {y : MethodName} {yb : ByteArray} {yl : Nat} {rm : Room} {F' : List Addr} {a : Addr} {x1 x2 x3 x4 x5 x6 : Value} {Qc : Heap → Prop} {nwc : Bool} (d : Dec bytes pc (.invokespecial idx) 3 nx) (hy1 : y.name = "<init>") (w1 : Jvm.Cond.methodLink own idx y ∈ Ws) (w2 : Jvm.Cond.instanceMethod y ∈ Ws) (w3 : Jvm.Cond.initialized y.cls ∈ Ws) (w4 : Jvm.Cond.code y yb yl none ∈ Ws) (hy : y.cls ≠ "java/lang/invoke/MethodHandle" ∧ y.cls ≠ "java/lang/invoke/VarHandle") (hpar : (parseMethodDescriptor y.desc).map (fun sg => sg.parameters.length) = some 6) (hsz : Ls.size = ml) (hF : ∀ x ∈ F', x ∈ F ∨ (w ≤ x ∧ x < h.size))
    (K : Con l Z EL nwc y yb yl none rm F' #[.ref a, x1, x2, x3, x4, x5, x6] h (rV Qc)) (hf : rm.frames + 1 ≤ R.frames) (hl : (st.map fun v => v.category).sum + (yl + 11) + rm.locals ≤ R.locals) (hk : k + rm.cells ≤ R.cells) (hn : n + rm.slots ≤ R.slots) (g : ∀ h', Qc h' → Goes p l e R s m args below meth c Z EL nw Q F (wm nwc w h') h' (k + rm.cells) (n + rm.slots) (mkF m nx Ls st)) (hnw : nw = true → nwc = true := by first | exact id | exact fun _ => rfl) : Goes p l e R s m args below meth c Z EL nw Q F w h k n (mkF m pc Ls (x6 :: x5 :: x4 :: x3 :: x2 :: x1 :: .ref a :: st)) :=
  C.special hnw hF (argsL := [x1, x2, x3, x4, x5, x6]) (rest := st) d hy1 w1 w2 w4 hy (len_par hpar rfl) rfl hsz hk hn (K.pays (C.wrd w4) (C.wrd w3) C.2.2.2.2.2.2.2.2 hf hl) (Nat.le_refl _) (fun v h' q => by obtain ⟨rfl, q⟩ := q; exact g h' q)
theorem Cxt.s6R (C : Cxt p m meth c Z a0 EL own mn bytes ml ret Ws) {idx : Nat} {y : MethodName} {yb : ByteArray} {yl : Nat} {yr : Option FieldType} {rm : Room} {F' : List Addr} {x1 x2 x3 x4 x5 x6 : Value} {Qc : Value → Heap → Prop} {nwc : Bool} (d : Dec bytes pc (.invokestatic idx) 3 nx) (w1 : Jvm.Cond.methodLink own idx y ∈ Ws) (w2 : Jvm.Cond.static y ∈ Ws) (w3 : Jvm.Cond.initialized y.cls ∈ Ws) (w4 : Jvm.Cond.code y yb yl yr ∈ Ws) (hy : y.cls ≠ "java/lang/invoke/MethodHandle" ∧ y.cls ≠ "java/lang/invoke/VarHandle") (hpar : (parseMethodDescriptor y.desc).map (fun sg => sg.parameters.length) = some 6) (hsz : Ls.size = ml) (hF : ∀ x ∈ F', x ∈ F ∨ (w ≤ x ∧ x < h.size))
    (K : Con l Z EL nwc y yb yl yr rm F' #[x1, x2, x3, x4, x5, x6] h (rR Qc)) (hf : rm.frames + 1 ≤ R.frames) (hl : (st.map fun v => v.category).sum + (yl + 11) + rm.locals ≤ R.locals) (hk : k + rm.cells ≤ R.cells) (hn : n + rm.slots ≤ R.slots) (g : ∀ v h', Qc v h' → Goes p l e R s m args below meth c Z EL nw Q F (wm nwc w h') h' (k + rm.cells) (n + rm.slots) (mkF m nx Ls (v :: st))) (hnw : nw = true → nwc = true := by first | exact id | exact fun _ => rfl) : Goes p l e R s m args below meth c Z EL nw Q F w h k n (mkF m pc Ls (x6 :: x5 :: x4 :: x3 :: x2 :: x1 :: st)) :=
  C.static hnw hF (argsL := [x1, x2, x3, x4, x5, x6]) (rest := st) d w1 w2 w3 w4 hy (len_par hpar rfl) rfl hsz hk hn (K.pays (C.wrd w4) (C.wrd w3) C.2.2.2.2.2.2.2.2 hf hl) (Nat.le_refl _) (fun v h' q => by obtain ⟨v, rfl, q⟩ := q; exact g v h' q)
theorem Cxt.ldcInt (C : Cxt p m meth c Z a0 EL own mn bytes ml ret Ws) {idx : Nat} {v : Int32} (d : Dec bytes pc (.ldc idx) 2 nx) (ww : Jvm.Cond.constant own idx v ∈ Ws) (g : Goes p l e R s m args below meth c Z EL nw Q F w h k n (mkF m nx Ls (.int v :: st))) : Goes p l e R s m args below meth c Z EL nw Q F w h k n (mkF m pc Ls st) := by
  obtain ⟨d1, rfl⟩ := d
  intro T vm0 locs k0 H
  obtain ⟨t, v', L, h1, r⟩ := g T vm0 locs k0 H
  exact ⟨t, v', L, H.1.ldcInt C.1 (C.own_at H.2.2.2.2.2.1) (mv H.2.2.2.2.2.1 (C.wrd ww)) (g := mkF m pc Ls st) rfl (hb C.2.1 d1) _ h1, r⟩
theorem Cxt.ldc2Long (C : Cxt p m meth c Z a0 EL own mn bytes ml ret Ws) {idx : Nat} {v : Int64} (d : Dec bytes pc (.ldc2_w idx) 3 nx) (ww : Jvm.Cond.constantLong own idx v ∈ Ws) (g : Goes p l e R s m args below meth c Z EL nw Q F w h k n (mkF m nx Ls (.long v :: st))) : Goes p l e R s m args below meth c Z EL nw Q F w h k n (mkF m pc Ls st) := by
  obtain ⟨d1, rfl⟩ := d
  intro T vm0 locs k0 H
  obtain ⟨t, v', L, h1, r⟩ := g T vm0 locs k0 H
  exact ⟨t, v', L, H.1.ldc2Long C.1 (C.own_at H.2.2.2.2.2.1) (mv H.2.2.2.2.2.1 (C.wrd ww)) (g := mkF m pc Ls st) rfl (hb C.2.1 d1) _ h1, r⟩
theorem Cxt.checkcast (C : Cxt p m meth c Z a0 EL own mn bytes ml ret Ws) {idx : Nat} {K : String} {a : Addr} (d : Dec bytes pc (.checkcast idx) 3 nx) (ww : Jvm.Cond.classLink own idx K ∈ Ws) (I : Ins Z h a K true) (g : Goes p l e R s m args below meth c Z EL nw Q F w h k n (mkF m nx Ls (.ref a :: st))) : Goes p l e R s m args below meth c Z EL nw Q F w h k n (mkF m pc Ls (.ref a :: st)) := by
  obtain ⟨d1, rfl⟩ := d
  intro T vm0 locs k0 H
  obtain ⟨T', X', e', st'⟩ := castY H.1 C.1 H.2.2.2.2.2.1 (C.own_at H.2.2.2.2.2.1) (C.wrd ww) H.2.1 I (g := mkF m pc Ls (.ref a :: st)) rfl rfl (hb C.2.1 d1)
  obtain ⟨t, v, L, h1, r⟩ := g T' vm0 locs k0 (H.step X' e' H.2.2.1 (Keep.refl _ []) (fun x hx => nomatch hx))
  exact ⟨t, v, L, st' _ h1, r⟩
theorem Cxt.checkcastNull (C : Cxt p m meth c Z a0 EL own mn bytes ml ret Ws) {idx : Nat} (d : Dec bytes pc (.checkcast idx) 3 nx) (g : Goes p l e R s m args below meth c Z EL nw Q F w h k n (mkF m nx Ls (.null :: st))) : Goes p l e R s m args below meth c Z EL nw Q F w h k n (mkF m pc Ls (.null :: st)) := by
  obtain ⟨d1, rfl⟩ := d
  intro T vm0 locs k0 H
  obtain ⟨t, v', L, h1, r⟩ := g T vm0 locs k0 H
  exact ⟨t, v', L, H.1.checkcastNull C.1 (g := mkF m pc Ls (.null :: st)) rfl rfl (hb C.2.1 d1) _ h1, r⟩
theorem Cxt.instY (C : Cxt p m meth c Z a0 EL own mn bytes ml ret Ws) {idx : Nat} {K : String} {a : Addr} (d : Dec bytes pc (.instanceof idx) 3 nx) (ww : Jvm.Cond.classLink own idx K ∈ Ws) (I : Ins Z h a K true) (g : Goes p l e R s m args below meth c Z EL nw Q F w h k n (mkF m nx Ls (.int 1 :: st))) : Goes p l e R s m args below meth c Z EL nw Q F w h k n (mkF m pc Ls (.ref a :: st)) := by
  obtain ⟨d1, rfl⟩ := d
  intro T vm0 locs k0 H
  obtain ⟨T', X', e', st'⟩ := instY H.1 C.1 H.2.2.2.2.2.1 (C.own_at H.2.2.2.2.2.1) (C.wrd ww) H.2.1 I (g := mkF m pc Ls (.ref a :: st)) rfl rfl (hb C.2.1 d1)
  obtain ⟨t, v, L, h1, r⟩ := g T' vm0 locs k0 (H.step X' e' H.2.2.1 (Keep.refl _ []) (fun x hx => nomatch hx))
  exact ⟨t, v, L, st' _ h1, r⟩
theorem Cxt.instN (C : Cxt p m meth c Z a0 EL own mn bytes ml ret Ws) {idx : Nat} {K cls : String} {a : Addr} (d : Dec bytes pc (.instanceof idx) 3 nx) (ww : Jvm.Cond.classLink own idx K ∈ Ws) (I : Ins Z s.heap a K false) (E : Exa Z s.heap a cls) (g : Goes p l e R s m args below meth c Z EL nw Q F w h k n (mkF m nx Ls (.int 0 :: st))) : Goes p l e R s m args below meth c Z EL nw Q F w h k n (mkF m pc Ls (.ref a :: st)) := by
  obtain ⟨d1, rfl⟩ := d
  intro T vm0 locs k0 H
  obtain ⟨T', X', e', st'⟩ := instN (s := s.setVm vm0) H.1 C.1 H.2.2.2.2.2.1 (C.own_at H.2.2.2.2.2.1) (C.wrd ww) H.2.1 I E (g := mkF m pc Ls (.ref a :: st)) rfl rfl (hb C.2.1 d1)
  obtain ⟨t, v, L, h1, r⟩ := g T' vm0 locs k0 (H.step X' e' H.2.2.1 (Keep.refl _ []) (fun x hx => nomatch hx))
  exact ⟨t, v, L, st' _ h1, r⟩
theorem Cxt.instNo (C : Cxt p m meth c Z a0 EL own mn bytes ml ret Ws) {idx : Nat} {K cls : String} {a : Addr} (d : Dec bytes pc (.instanceof idx) 3 nx) (ww : Jvm.Cond.classLink own idx K ∈ Ws) (E : Exa Z h a cls) (I : ∃ c t, Z.vm.findClass cls = some c ∧ Z.vm.findClass K = some t ∧ Z.vm.assignable c t = false) (g : Goes p l e R s m args below meth c Z EL nw Q F w h k n (mkF m nx Ls (.int 0 :: st))) : Goes p l e R s m args below meth c Z EL nw Q F w h k n (mkF m pc Ls (.ref a :: st)) := by
  obtain ⟨d1, rfl⟩ := d
  intro T vm0 locs k0 H
  obtain ⟨T', X', e', st'⟩ := instNo H.1 C.1 H.2.2.2.2.2.1 (C.own_at H.2.2.2.2.2.1) (C.wrd ww) H.2.1 E I (g := mkF m pc Ls (.ref a :: st)) rfl rfl (hb C.2.1 d1)
  obtain ⟨t, v, L, h1, r⟩ := g T' vm0 locs k0 (H.step X' e' H.2.2.1 (Keep.refl _ []) (fun x hx => nomatch hx))
  exact ⟨t, v, L, st' _ h1, r⟩
theorem Cxt.instNull (C : Cxt p m meth c Z a0 EL own mn bytes ml ret Ws) {idx : Nat} (d : Dec bytes pc (.instanceof idx) 3 nx) (g : Goes p l e R s m args below meth c Z EL nw Q F w h k n (mkF m nx Ls (.int 0 :: st))) : Goes p l e R s m args below meth c Z EL nw Q F w h k n (mkF m pc Ls (.null :: st)) := by
  obtain ⟨d1, rfl⟩ := d
  intro T vm0 locs k0 H
  obtain ⟨t, v', L, h1, r⟩ := g T vm0 locs k0 H
  exact ⟨t, v', L, H.1.instanceofNull C.1 (g := mkF m pc Ls (.null :: st)) rfl rfl (hb C.2.1 d1) _ h1, r⟩
/-- a String constant, its text unread -/
theorem Cxt.ldcO (C : Cxt p m meth c Z a0 EL own mn bytes ml ret Ws) {idx : Nat} {text : String} (q : Nat) (d : Dec bytes pc (.ldc idx) 2 nx) (hnw : nw = false) (ww : Jvm.Cond.stringLink own idx text ∈ Ws) (wS : ∀ a ∈ Bundle.stringAtoms, a.before a0 Z = true) (hq : 4 * text.toList.length ≤ q) (hq2 : q ≤ 536870912) (hk : k + 2 ≤ R.cells) (hn : n + (q + 4) ≤ R.slots)
    (g : ∀ h' a, Ext h h' → Goes p l e R s m args below meth c Z EL nw Q F h'.size h' (k + 2) (n + (q + 4)) (mkF m nx Ls (.ref a :: st))) : Goes p l e R s m args below meth c Z EL nw Q F w h k n (mkF m pc Ls st) := by
  obtain ⟨d1, rfl⟩ := d
  intro T vm0 locs k0 H
  obtain ⟨X, eT, N, S, hk0, hZ, H1, hw, hF, O, hwm, hbk⟩ := id H
  obtain ⟨a, T', h', k1, X', e', E, S', hk1, hW, hf, hC, hL, st'⟩ := ldcOH X C.1 hZ (C.own_at (s := s) hZ) (C.wrd ww) wS eT S hk0 C.2.2.2.2.2.2.2.2 H1.1 (g := mkF m pc Ls st) rfl (hb C.2.1 d1) hq hq2 hk hn
  obtain ⟨t, v, L, h1, r⟩ := g h' a E T' T'.vm locs k1 ⟨X', e', N, S', hk1, hW, H1.trans hC, fun q => (by rw [hnw] at q; cases q), fun x hx => ⟨Nat.lt_of_lt_of_le (hF x hx).1 E.1, hC.safe (hF x hx).1 (hF x hx).2⟩, ext_trans O E, fun x hx => Safe.new hx, fun q => (by rw [hnw] at q; cases q)⟩
  exact ⟨t, v, L, st' _ h1, r⟩
/-- a String constant of EL, its text read -/
theorem Cxt.ldcS (C : Cxt p m meth c Z a0 EL own mn bytes ml ret Ws) {idx : Nat} {text : String} {vs : List Value} (q : Nat) (d : Dec bytes pc (.ldc idx) 2 nx) (hnw : nw = false) (ww : Jvm.Cond.stringLink own idx text ∈ Ws) (wS : ∀ a ∈ Bundle.stringAtoms, a.before a0 Z = true) (hmem : (own, idx) ∈ EL) (ht : (∀ c ∈ text.toList, c.toNat < 256) ∧ text.toList.map (fun c => Value.int (Jvm.Lit.byteI c.toNat.toUInt16)) = vs) (hlt : vs.length < 1000000)
    (hq : 4 * text.toList.length ≤ q) (hq2 : q ≤ 536870912) (hk : k + 2 ≤ R.cells) (hn : n + (q + 4) ≤ R.slots)
    (g : ∀ h' a b, Ext h h' → Exa Z h' a "java/lang/String" → Fld Z h' a "java/lang/String" "coder" "B" (.int 0) → Fld Z h' a "java/lang/String" "value" "[B" (.ref b) → Arl Z h' b .byte vs → (∀ x ∈ F, x ≠ a ∧ x ≠ b) → Goes p l e R s m args below meth c Z EL nw Q F h'.size h' (k + 2) (n + (q + 4)) (mkF m nx Ls (.ref a :: st))) : Goes p l e R s m args below meth c Z EL nw Q F w h k n (mkF m pc Ls st) := by
  obtain ⟨d1, rfl⟩ := d
  intro T vm0 locs k0 H
  obtain ⟨X, eT, N, S, hk0, hZ, H1, hw, hF, O, hwm, hbk⟩ := id H
  have hz : ¬ (Int32.ofNat vs.length) < 0 ∧ (Int32.ofNat vs.length).toNatClampNeg = vs.length := ofNat_idx (by omega)
  obtain ⟨a, T', h', k1, b, kb, X', e', E, S', hk1, hW, hf, hE, hc, hv, hA, la, lb, hC, hL, hS, st'⟩ := ldcCH X C.1 hZ (C.own_at (s := s) hZ) (C.wrd ww) wS eT S hk0 C.2.2.2.2.2.2.2.2 hmem H1.1 ht hz.1 hz.2 (g := mkF m pc Ls st) rfl (hb C.2.1 d1) hq hq2 hk hn
  have hF' : ∀ x ∈ F, x < h'.size ∧ Safe Z EL T'.vm h' x := fun x hx => ⟨Nat.lt_of_lt_of_le (hF x hx).1 E.1, hC.safe (hF x hx).1 (hF x hx).2⟩
  obtain ⟨t, v, L, h1, r⟩ := g h' a b E hE hc hv (arl_of_arv hA hz.2 (by omega)) (fun x hx => hS x (hF' x hx).2) T' T'.vm locs k1 ⟨X', e', N, S', hk1, hW, H1.trans hC, fun q => (by rw [hnw] at q; cases q), hF', ext_trans O E, fun x hx => Safe.new hx, fun q => (by rw [hnw] at q; cases q)⟩
  exact ⟨t, v, L, st' _ h1, r⟩
end
end Jvm.OwnW
namespace Jvm.OwnW
open Sem ClassFile Op Lib Jvm.Stand Jvm.Free Jvm.LawKit Jvm.RoadKit Bundle
abbrev ST : String := "java/lang/String"
def IsC (x : Int32) : Prop := ¬ x < 0 ∧ ¬ (65535 : Int32) < x
def IsL (x : Int32) : Prop := ¬ x < 0 ∧ ¬ (255 : Int32) < x
theorem nlt {x y : Int32} : ¬ x < y ↔ y.toInt ≤ x.toInt := by rw [Int32.lt_iff_toInt_lt]; omega
theorem ilt {x y : Int32} : x < y ↔ x.toInt < y.toInt := Int32.lt_iff_toInt_lt
theorem isC_iff {x : Int32} : IsC x ↔ 0 ≤ x.toInt ∧ x.toInt ≤ 65535 := by
  unfold IsC; rw [nlt, nlt]; exact Iff.rfl
theorem isL_iff {x : Int32} : IsL x ↔ 0 ≤ x.toInt ∧ x.toInt ≤ 255 := by
  unfold IsL; rw [nlt, nlt]; exact Iff.rfl
theorem IsL.isC {x : Int32} (h : IsL x) : IsC x := by rw [isL_iff] at h; rw [isC_iff]; omega
theorem isC_c16 (x : Int32) : IsC (c16 x) := by
  rw [isC_iff]; have := c_i2c x; unfold c16; omega
theorem c16_of {x : Int32} (h : IsC x) : c16 x = x := by
  rw [isC_iff] at h
  have q := c_i2c x
  apply Int32.toInt_inj.mp
  unfold c16; omega
theorem nar_c16 (x : Int32) : nar .char x = c16 x := rfl
theorem nar_char {x : Int32} (h : IsC x) : nar .char x = x := (nar_c16 x).trans (c16_of h)
theorem nar_b8 (x : Int32) : nar .byte x = b8 x := rfl
theorem narrow_char {x : Int32} (h : IsC x) : narrow .char (.int x) = .int x := by
  show Value.int (nar .char x) = _; rw [nar_char h]
theorem b8_bounds (x : Int32) : -128 ≤ (b8 x).toInt ∧ (b8 x).toInt ≤ 127 := by
  have h := rng_byte (fits_nar_byte x)
  rw [nlt, nlt] at h
  exact h
theorem b8_mod (x : Int32) : ((b8 x).toInt - x.toInt) % 256 = 0 := by
  have e : (b8 x).toInt = x.toInt.bmod 256 := by
    unfold b8
    rw [Int8.toInt_toInt32, Int32.toInt_toInt8]
  rw [e, Int.bmod_def]
  split <;> omega
theorem b8_b8 (x : Int32) : b8 (b8 x) = b8 x := by
  apply Int32.toInt_inj.mp
  have h1 := b8_bounds x; have h2 := b8_bounds (b8 x); have h3 := b8_mod (b8 x)
  omega
theorem narrow_byte (x : Int32) : narrow .byte (.int (b8 x)) = .int (b8 x) := by
  show Value.int (nar .byte (b8 x)) = _; rw [nar_b8, b8_b8]
theorem ofNat_toInt {i : Nat} (h : i < 2 ^ 31) : (Int32.ofNat i).toInt = i := by
  rw [Int32.toInt_ofNat']
  simp only [Int.bmod_def]
  have z : (Int32.size : Int) = 4294967296 := rfl
  rw [z]
  omega
theorem ofNat_succ (i : Nat) : Int32.ofNat i + 1 = Int32.ofNat (i + 1) := (Int32.ofNat_add i 1).symm
theorem ofNat_lt {i j : Nat} (hi : i < 2 ^ 31) (hj : j < 2 ^ 31) : Int32.ofNat i < Int32.ofNat j ↔ i < j := by
  rw [ilt, ofNat_toInt hi, ofNat_toInt hj]; omega
theorem ofNat_inj {i j : Nat} (hi : i < 2 ^ 31) (hj : j < 2 ^ 31) (h : Int32.ofNat i = Int32.ofNat j) : i = j := by
  have := congrArg Int32.toInt h; rw [ofNat_toInt hi, ofNat_toInt hj] at this; omega
def lat (cs : List Int32) : List Value := cs.map fun c => .int (b8 c)
def wid (cs : List Int32) : List Value := cs.flatMap fun c => [.int (b8 c), .int (b8 (c >>> 8))]
def ints (cs : List Int32) : List Value := cs.map Value.int
/-- the bytes vs under the coder cd spell the chars cs -/
def Txt (cs : List Int32) (cd : Int32) (vs : List Value) : Prop := (cd = 0 ∧ vs = lat cs ∧ ∀ c ∈ cs, ¬ (255 : Int32) < c) ∨ (cd = 1 ∧ vs = wid cs ∧ ∃ c ∈ cs, (255 : Int32) < c)
/-- the String at a spells cs -/
def StrAt (Z : State) (h : Heap) (a : Addr) (cs : List Int32) : Prop :=
  ∃ t cd vs, Exa Z h a ST ∧ Fld Z h a ST "value" "[B" (.ref t) ∧ Fld Z h a ST "coder" "B" (.int cd) ∧ Arl Z h t .byte vs ∧ Txt cs cd vs ∧ (∀ c ∈ cs, IsC c) ∧ cs.length ≤ 4000
theorem StrAt.ext {Z : State} {h h' : Heap} {a : Addr} {cs : List Int32} (S : StrAt Z h a cs) (E : Ext h h') : StrAt Z h' a cs := by
  obtain ⟨t, cd, vs, h1, h2, h3, h4, r⟩ := S
  exact ⟨t, cd, vs, h1.ext E, h2.ext E, h3.ext E, h4.ext E, r⟩
theorem StrAt.lt {Z : State} {h : Heap} {a : Addr} {cs : List Int32} (S : StrAt Z h a cs) : a < h.size := by
  obtain ⟨t, cd, vs, h1, -⟩ := S; exact h1.lt
theorem StrAt.exa {Z : State} {h : Heap} {a : Addr} {cs : List Int32} (S : StrAt Z h a cs) : Exa Z h a ST := by
  obtain ⟨t, cd, vs, h1, -⟩ := S; exact h1
/-- over a call that writes one object that is no String -/
theorem StrAt.keep {Z : State} {h h' : Heap} {a o : Addr} {cs : List Int32} {cls : String} {a0 : Array Value} {kk : Nat} (S : StrAt Z h a cs) (K : Keep h h' [o]) (E : Exa Z h o cls) (hn : cls ≠ ST) (wi : (Jvm.Cond.instantiable cls kk).before a0 Z = true) : StrAt Z h' a cs := by
  obtain ⟨t, cd, vs, h1, h2, h3, h4, r⟩ := S
  have n1 : a ∉ [o] := by
    intro q; cases List.mem_singleton.mp q; exact ne_exa E h1 hn rfl
  have n2 : t ∉ [o] := by
    intro q; cases List.mem_singleton.mp q
    obtain ⟨cl, A, -⟩ := h4
    exact ne_arr E wi A rfl
  exact ⟨t, cd, vs, h1.keep K, h2.keep K n1, h3.keep K n1, h4.keep K n2, r⟩
theorem ext_of_keep {h0 h h' : Heap} {ws : List Addr} (E : Ext h0 h) (K : Keep h h' ws) (q : ∀ w ∈ ws, h0.size ≤ w) : Ext h0 h' :=
  ⟨Nat.le_trans E.1 K.1, fun a c r => K.2.1 a c (E.2 a c r) fun z => absurd (Array.getElem?_eq_some_iff.mp r).1 (Nat.not_lt.mpr (q a z))⟩
theorem ext_of_wr {h0 h h' : Heap} {a : Addr} {sl : Nat} {v : Value} (E : Ext h0 h) (W : Wr h h' a sl v) (q : h0.size ≤ a) : Ext h0 h' :=
  ext_of_keep E (Keep.of_wr W) fun w hw => by cases List.mem_singleton.mp hw; exact q
theorem wid_length (cs : List Int32) : (wid cs).length = 2 * cs.length := by
  unfold wid; induction cs with
  | nil => rfl
  | cons c r ih => simp only [List.flatMap_cons, List.length_append, ih, List.length_cons, List.length_nil]; omega
theorem lat_length (cs : List Int32) : (lat cs).length = cs.length := by simp [lat]
theorem ints_length (cs : List Int32) : (ints cs).length = cs.length := by simp [ints]
theorem ints_get {cs : List Int32} {i : Nat} {c : Int32} (h : cs[i]? = some c) : (ints cs)[i]? = some (.int c) := by simp [ints, h]
theorem lat_get {cs : List Int32} {i : Nat} {c : Int32} (h : cs[i]? = some c) : (lat cs)[i]? = some (.int (b8 c)) := by simp [lat, h]
end Jvm.OwnW
namespace Jvm.OwnW
open Sem ClassFile Op Lib Jvm.Stand Jvm.Free Jvm.LawKit Jvm.RoadKit Bundle
abbrev RM (f lo c s : Nat) : Room := { frames := f, cells := c, slots := s, locals := lo }
theorem adr_ne {a b n : Nat} (h : a < n) (h2 : n ≤ b) : a ≠ b := by omega
theorem nof0 {F : List Addr} : ∀ x ∈ ([] : List Addr), x ∈ F := fun _ q => nomatch q
theorem nof {F : List Addr} {w : Nat} {h : Heap} : ∀ x ∈ ([] : List Addr), x ∈ F ∨ (w ≤ x ∧ x < h.size) := fun _ q => nomatch q
theorem fill_step {pre : List Value} {i r : Nat} {z v : Value} (h : pre.length = i) : (pre ++ List.replicate (r + 1) z).set i v = (pre ++ [v]) ++ List.replicate r z := by
  subst h
  rw [List.set_append_right _ _ (Nat.le_refl _)]
  simp [List.replicate_succ]
end Jvm.OwnW
namespace Jvm.OwnW
open Sem ClassFile Op Lib Jvm.Stand Jvm.Free Jvm.LawKit Jvm.RoadKit Bundle
theorem eq_stat {args : Array Value} {s : State} {C n d : String} {v : Int32} (h : (Jvm.Cond.eq (.static C n d) (.int v)).value args s none s [] = some true) : (Term.static C n d).eval args s none [] s = some (.int v) := by
  simp only [Cond.value, Term.int_eval] at h
  cases hv : (Term.static C n d).eval args s none [] s with
  | none => simp [hv] at h
  | some w => cases w <;> simp [hv] at h <;> simp [h]
theorem isL_and (x : Int32) : IsL (x &&& 255) := by
  rw [isL_iff]; have := c_and x 255 (by decide); exact this
theorem isC_isL {x : Int32} (h : IsL x) : c16 x = x := c16_of h.isC
end Jvm.OwnW
namespace Jvm.OwnW
open Sem ClassFile Op Lib Jvm.Stand Jvm.Free Jvm.LawKit Jvm.RoadKit Bundle
theorem st_exact {args : Array Value} {s : State} {C n d K : String} (h : (Jvm.Cond.exactly (.static C n d) K).value args s none s [] = some true) (wi : (Jvm.Cond.initialized C).before args s = true) (wl : (Jvm.Cond.laysStatic C n d).before args s = true) :
    ∃ a, (Term.static C n d).eval args s none [] s = some (.ref a) ∧ Sta s s.heap C n d (.ref a) ∧ Exa s s.heap a K := by
  obtain ⟨a, _, _, _, e, -⟩ := Cond.exactly_spec (Cond.before_iff.mpr h)
  exact ⟨a, e, Sta.start e (Or.inr ⟨wi, wl⟩), Exa.start e h⟩
theorem st_field {args : Array Value} {s : State} {t : Term} {O f fd : String} {a : Addr} {v : Int32} (ev : t.eval args s none [] s = some (.ref a)) (h : (Jvm.Cond.eq (.field t O f fd) (.int v)).value args s none s [] = some true) : Fld s s.heap a O f fd (.int v) := by
  apply Fld.start
  have e : (Term.field t O f fd).eval args s none [] s = s.fieldOf? a O f fd := by simp [Term.eval, ev]
  simp only [Cond.value, Term.int_eval, e] at h
  cases hv : s.fieldOf? a O f fd with
  | none => simp [hv] at h
  | some w => cases w <;> simp [hv] at h <;> simp [h]
end Jvm.OwnW
namespace Jvm.OwnW
open Sem ClassFile Op Lib Jvm.Stand Jvm.Free Jvm.LawKit Jvm.RoadKit Bundle
theorem pos30 (x : Int32) : ¬ ((x &&& 1073741823) + 1) < 1 := by
  have h := c_and x 1073741823 (by decide)
  have e : (1073741823 : Int32).toInt = 1073741823 := rfl
  rw [e] at h
  rw [nlt, Int32.toInt_add]
  have e1 : (1 : Int32).toInt = 1 := rfl
  rw [e1, Int.bmod_def]
  split <;> omega
end Jvm.OwnW
namespace Jvm.OwnW
open Sem ClassFile Op Lib Jvm.Stand Jvm.Free Jvm.LawKit Jvm.RoadKit Bundle
theorem Arl.intAt {Z : State} {h : Heap} {a : Addr} {vs : List Value} {v : Value} (A : Arl Z h a .byte vs) (hv : v ∈ vs) : ∃ x, v = .int x := by
  obtain ⟨cl, -, -, -, r⟩ := A
  exact fit_I (r v hv) (Or.inr (Or.inr (Or.inl rfl)))
theorem Txt.cd01 {cs : List Int32} {cd : Int32} {vs : List Value} (T : Txt cs cd vs) : cd = 0 ∨ cd = 1 := T.imp (·.1) (·.1)
theorem Txt.vlen {cs : List Int32} {cd : Int32} {vs : List Value} (T : Txt cs cd vs) : vs.length = cs.length ∨ vs.length = 2 * cs.length := by
  rcases T with ⟨-, rfl, -⟩ | ⟨-, rfl, -⟩
  · exact Or.inl (lat_length cs)
  · exact Or.inr (wid_length cs)
theorem Txt.len {cs : List Int32} {cd : Int32} {vs : List Value} (T : Txt cs cd vs) (hn : cs.length ≤ 4000) : Int32.ofNat vs.length >>> (cd &&& 31) = Int32.ofNat cs.length := by
  apply Int32.toInt_inj.mp
  rcases T with ⟨rfl, rfl, -⟩ | ⟨rfl, rfl, -⟩
  · rw [c_ishr _ _ 0 (by decide), lat_length]; simp
  · rw [c_ishr _ _ 1 (by decide), wid_length, ofNat_toInt (by omega), ofNat_toInt (by omega)]; omega
theorem Txt.coder {cs : List Int32} {cd ce : Int32} {vs ws : List Value} (T : Txt cs cd vs) (U : Txt cs ce ws) : cd = ce := by
  rcases T with ⟨rfl, -, q⟩ | ⟨rfl, -, c, q1, q2⟩ <;> rcases U with ⟨rfl, -, z⟩ | ⟨rfl, -, d, z1, z2⟩
  · rfl
  · exact absurd z2 (q d z1)
  · exact absurd q2 (z c q1)
  · rfl
theorem Txt.bytes {cs : List Int32} {cd ce : Int32} {vs ws : List Value} (T : Txt cs cd vs) (U : Txt cs ce ws) : vs = ws := by
  rcases T with ⟨rfl, rfl, q⟩ | ⟨rfl, rfl, c, q1, q2⟩ <;> rcases U with ⟨rfl, rfl, z⟩ | ⟨rfl, rfl, d, z1, z2⟩
  · rfl
  · exact absurd z2 (q d z1)
  · exact absurd q2 (z c q1)
  · rfl
theorem b8_inj_L {x y : Int32} (hx : IsL x) (hy : IsL y) (h : b8 x = b8 y) : x = y := by
  rw [isL_iff] at hx hy
  have h1 := b8_mod x; have h2 := b8_mod y
  rw [h] at h1
  apply Int32.toInt_inj.mp; omega
theorem shr8 (x : Int32) : (x >>> 8).toInt = x.toInt / 256 := by
  have := c_ishr x 8 8 (by decide)
  have e : (8 : Int32) &&& 31 = 8 := by decide
  rw [e] at this
  simpa using this
theorem b8_inj_W {x y : Int32} (hx : IsC x) (hy : IsC y) (h : b8 x = b8 y) (h' : b8 (x >>> 8) = b8 (y >>> 8)) : x = y := by
  rw [isC_iff] at hx hy
  have h1 := b8_mod x; have h2 := b8_mod y
  have h3 := b8_mod (x >>> 8); have h4 := b8_mod (y >>> 8)
  rw [h] at h1; rw [h'] at h3
  rw [shr8] at h3 h4
  apply Int32.toInt_inj.mp; omega
theorem lat_inj : ∀ {cs ds : List Int32}, (∀ c ∈ cs, IsL c) → (∀ c ∈ ds, IsL c) → lat cs = lat ds → cs = ds
  | [], [], _, _, _ => rfl
  | [], d :: ds, _, _, h => by simp [lat] at h
  | c :: cs, [], _, _, h => by simp [lat] at h
  | c :: cs, d :: ds, h1, h2, h => by
    simp only [lat, List.map_cons, List.cons.injEq, Value.int.injEq] at h
    rw [b8_inj_L (h1 c (List.mem_cons_self ..)) (h2 d (List.mem_cons_self ..)) h.1, lat_inj (fun x hx => h1 x (List.mem_cons_of_mem _ hx)) (fun x hx => h2 x (List.mem_cons_of_mem _ hx)) h.2]
theorem wid_inj : ∀ {cs ds : List Int32}, (∀ c ∈ cs, IsC c) → (∀ c ∈ ds, IsC c) → wid cs = wid ds → cs = ds
  | [], [], _, _, _ => rfl
  | [], d :: ds, _, _, h => by simp [wid] at h
  | c :: cs, [], _, _, h => by simp [wid] at h
  | c :: cs, d :: ds, h1, h2, h => by
    simp only [wid, List.flatMap_cons, List.cons_append, List.nil_append, List.cons.injEq, Value.int.injEq] at h
    rw [b8_inj_W (h1 c (List.mem_cons_self ..)) (h2 d (List.mem_cons_self ..)) h.1 h.2.1, wid_inj (fun x hx => h1 x (List.mem_cons_of_mem _ hx)) (fun x hx => h2 x (List.mem_cons_of_mem _ hx)) h.2.2]
theorem Txt.inj {cs ds : List Int32} {cd : Int32} {vs : List Value} (hC : ∀ c ∈ cs, IsC c) (hD : ∀ c ∈ ds, IsC c) (T : Txt cs cd vs) (U : Txt ds cd vs) : cs = ds := by
  rcases T with ⟨rfl, rfl, q⟩ | ⟨rfl, rfl, q⟩ <;> rcases U with ⟨e, e', z⟩ | ⟨e, e', z⟩
  · exact lat_inj (fun c hc => ⟨(hC c hc).1, q c hc⟩) (fun c hc => ⟨(hD c hc).1, z c hc⟩) e'
  · exact absurd e (by decide)
  · exact absurd e (by decide)
  · exact wid_inj hC hD e'
theorem fld_uniq {Z : State} {h : Heap} {a : Addr} {C n d : String} {v w : Value} (F : Fld Z h a C n d v) (G : Fld Z h a C n d w) : v = w := by
  obtain ⟨c1, cf, k, i, f, h1, h2, -, -, -, -, h7⟩ := F
  obtain ⟨c2, cf', k', i', f', g1, g2, -, -, -, -, g7⟩ := G
  cases h1.symm.trans g1
  cases h2.symm.trans g2
  exact Option.some.inj (h7.symm.trans g7)
theorem arl_uniq {Z : State} {h : Heap} {a : Addr} {ty : FieldType} {vs ws : List Value} (A : Arl Z h a ty vs) (D : Arl Z h a ty ws) : vs = ws := by
  obtain ⟨c1, A1, rfl, -⟩ := A
  obtain ⟨c2, A2, rfl, -⟩ := D
  cases A1.1.symm.trans A2.1
  rfl
theorem StrAt.uniq {Z : State} {h : Heap} {a : Addr} {cs ds : List Int32} (S : StrAt Z h a cs) (T : StrAt Z h a ds) : cs = ds := by
  obtain ⟨t, cd, vs, X, Fv, Fc, A, Tx, hC, hn⟩ := S
  obtain ⟨u, ce, ws, X', Fv', Fc', A', Tx', hC', hn'⟩ := T
  cases fld_uniq Fv Fv'
  cases fld_uniq Fc Fc'
  cases arl_uniq A A'
  exact Txt.inj hC hC' Tx Tx'
theorem unb8 {x : Int32} (h : IsL x) : c16 (b8 x &&& 255) = x := by
  have e : b8 x &&& 255 = x := by
    rw [isL_iff] at h
    apply Int32.toInt_inj.mp
    rw [c_mask _ 255 8 (by decide) (by decide)]
    have := b8_mod x
    omega
  rw [e, c16_of h.isC]
end Jvm.OwnW
namespace Jvm.OwnW
open Sem ClassFile Op Lib Jvm.Stand Jvm.Free Jvm.LawKit Jvm.RoadKit Bundle
theorem i32_bounds (x : Int32) : -2147483648 ≤ x.toInt ∧ x.toInt < 2147483648 := ⟨Int32.le_toInt x, Int32.toInt_lt x⟩
theorem shl1' {n : Nat} (hn : 2 * n < 2 ^ 31) : Int32.ofNat n <<< ((1 : Int32) &&& 31) = Int32.ofNat (2 * n) := by
  apply Int32.toInt_inj.mp
  have h := c_ishl (Int32.ofNat n) 1 1 (by decide)
  rw [ofNat_toInt (i := n) (by omega)] at h
  rw [ofNat_toInt hn]
  have b := i32_bounds (Int32.ofNat n <<< ((1 : Int32) &&& 31))
  have e : ((2 ^ 1 : Nat) : Int) = 2 := rfl
  rw [e] at h
  omega
theorem shl1 {n : Nat} (hn : n ≤ 4000) : Int32.ofNat n <<< ((1 : Int32) &&& 31) = Int32.ofNat (2 * n) := shl1' (by omega)
theorem shr0 (x : Int32) : x >>> ((0 : Int32) &&& 31) = x := by
  apply Int32.toInt_inj.mp
  rw [c_ishr x 0 0 (by decide)]; simp
theorem shr1 {cs : List Int32} (hn : cs.length ≤ 4000) : Int32.ofNat (wid cs).length >>> ((1 : Int32) &&& 31) = Int32.ofNat cs.length := by
  apply Int32.toInt_inj.mp
  rw [c_ishr _ _ 1 (by decide), wid_length, ofNat_toInt (by omega), ofNat_toInt (by omega)]; omega
theorem fill_step2 {pre : List Value} {i r : Nat} {z u v : Value} (h : pre.length = 2 * i) : ((pre ++ List.replicate (2 * (r + 1)) z).set (2 * i) u).set (2 * i + 1) v = (pre ++ [u, v]) ++ List.replicate (2 * r) z := by
  rw [← h, List.set_append_right _ _ (Nat.le_refl _), List.set_append_right _ _ (by omega)]
  have e : 2 * (r + 1) = 2 * r + 1 + 1 := by omega
  rw [e]
  simp [List.replicate_succ]
theorem wid_cons (c : Int32) (cs : List Int32) : wid (c :: cs) = .int (b8 c) :: .int (b8 (c >>> 8)) :: wid cs := rfl
theorem wid_lo : ∀ {cs : List Int32} {i : Nat} {c : Int32}, cs[i]? = some c → (wid cs)[2 * i]? = some (.int (b8 c))
  | [], i, c, h => by simp at h
  | d :: cs, 0, c, h => by simp at h; subst h; rfl
  | d :: cs, i + 1, c, h => by
    have e : 2 * (i + 1) = 2 * i + 1 + 1 := by omega
    rw [wid_cons, e, List.getElem?_cons_succ, List.getElem?_cons_succ]
    exact wid_lo (by simpa using h)
theorem wid_hi : ∀ {cs : List Int32} {i : Nat} {c : Int32}, cs[i]? = some c → (wid cs)[2 * i + 1]? = some (.int (b8 (c >>> 8)))
  | [], i, c, h => by simp at h
  | d :: cs, 0, c, h => by simp at h; subst h; rfl
  | d :: cs, i + 1, c, h => by
    have e : 2 * (i + 1) + 1 = (2 * i + 1) + 1 + 1 := by omega
    rw [wid_cons, e, List.getElem?_cons_succ, List.getElem?_cons_succ]
    exact wid_hi (by simpa using h)
theorem unwide {x : Int32} (h : IsC x) : c16 ((b8 x &&& 255) <<< ((0 : Int32) &&& 31) ||| (b8 (x >>> 8) &&& 255) <<< ((8 : Int32) &&& 31)) = x := by
  have hx := isC_iff.mp h
  have e1 : (b8 x &&& 255).toInt = x.toInt % 256 := by
    rw [c_mask _ 255 8 (by decide) (by decide)]; have := b8_mod x; omega
  have e2 : (b8 (x >>> 8) &&& 255).toInt = x.toInt / 256 := by
    rw [c_mask _ 255 8 (by decide) (by decide)]; have := b8_mod (x >>> 8); rw [shr8] at this; omega
  have e3 := c_ishl (b8 x &&& 255) 0 0 (by decide)
  have e4 := c_ishl (b8 (x >>> 8) &&& 255) 8 8 (by decide)
  generalize hA : (b8 x &&& 255) <<< ((0 : Int32) &&& 31) = A at *
  generalize hB : (b8 (x >>> 8) &&& 255) <<< ((8 : Int32) &&& 31) = D at *
  rw [e1] at e3; rw [e2] at e4
  have bA := i32_bounds A; have bD := i32_bounds D
  have p0 : ((2 ^ 0 : Nat) : Int) = 1 := rfl
  have p8 : ((2 ^ 8 : Nat) : Int) = 256 := rfl
  rw [p0] at e3; rw [p8] at e4
  have a1 : A.toInt = x.toInt % 256 := by omega
  have a2 : D.toInt = x.toInt / 256 * 256 := by omega
  have e5 := c_or' A D 8 (by decide) 256 rfl (by omega) (by omega) (by omega)
  have bO := i32_bounds (A ||| D)
  have e6 : A ||| D = x := by apply Int32.toInt_inj.mp; omega
  rw [e6, c16_of h]
theorem codU {n : Nat} (h0 : 0 < n) (hn : n ≤ 4000) : b8 (XT.ushr (Int32.ofNat n - Int32.ofNat (2 * n)) 31) = 1 := by
  have e := c_isub (Int32.ofNat n) (Int32.ofNat (2 * n))
  rw [ofNat_toInt (i := n) (by omega), ofNat_toInt (i := 2 * n) (by omega)] at e
  have b := i32_bounds (Int32.ofNat n - Int32.ofNat (2 * n))
  have u := c_iushr (Int32.ofNat n - Int32.ofNat (2 * n)) 31 31 (by decide) (by decide)
  have p : ((2 ^ 31 : Nat) : Int) = 2147483648 := rfl
  rw [p] at u
  have v : (XT.ushr (Int32.ofNat n - Int32.ofNat (2 * n)) 31).toInt = 1 := by unfold XT.ushr; omega
  have w : XT.ushr (Int32.ofNat n - Int32.ofNat (2 * n)) 31 = 1 := by apply Int32.toInt_inj.mp; rw [v]; rfl
  rw [w]; rfl
end Jvm.OwnW
namespace Jvm.OwnW
open Sem ClassFile Op Lib Jvm.Stand Jvm.Free Jvm.LawKit Jvm.RoadKit Bundle
theorem no_inst {Z : State} {a0 : Array Value} {C S K : String} {q : Nat} (w : (Jvm.Cond.superclass C S).before a0 Z = true) (wr : (Jvm.Cond.noSuperclass S).before a0 Z = true) (wi : (Jvm.Cond.instantiable K q).before a0 Z = true) (hn : C ≠ K) (hs : S ≠ K) : ∃ c t, Z.vm.findClass C = some c ∧ Z.vm.findClass K = some t ∧ Z.vm.assignable c t = false := by
  obtain ⟨t, kt, g0, g2, g5, g7, -⟩ := Cond.instantiable_spec wi
  obtain ⟨c, h0⟩ := found_sup w
  obtain ⟨p, k, kp, h1, h2, h3, h4, h5, -, h7⟩ := Cond.superclass_spec h0 w
  obtain ⟨r, kr, r1, r2, r3, -, -⟩ := Cond.noSuperclass_spec wr
  cases h1.symm.trans r1
  have ne := ids_ne h0 g0 hn
  have ne2 := ids_ne r1 g0 hs
  have n3 : ∀ fuel, Z.vm.isSubclassAux fuel p t = false := fun fuel => by
    cases fuel with
    | zero => rfl
    | succ f => simp [Vm.isSubclassAux, ne2, r2, r3]
  have n4 : ∀ fuel, Z.vm.isSubclassAux fuel c t = false := fun fuel => by
    cases fuel with
    | zero => rfl
    | succ f => simp [Vm.isSubclassAux, ne, h2, h4, n3]
  simp only [Bool.or_eq_false_iff] at g7
  refine ⟨c, t, h0, g0, ?_⟩
  show Z.vm.assignableAux (255 + 1) c t = false
  simp [Vm.assignableAux, ne, h2, g2, h5, g5, g7.1, Vm.isSubclass, n4]
end Jvm.OwnW
namespace Jvm.OwnW
open Sem ClassFile Op Lib Jvm.Stand Jvm.Free Jvm.LawKit Jvm.RoadKit Bundle
theorem codT {cs : List Int32} {cd : Int32} {vs : List Value} (T : Txt cs cd vs) (h0 : 0 < cs.length) (hn : cs.length ≤ 4000) : b8 (XT.ushr (Int32.ofNat cs.length - Int32.ofNat vs.length) 31) = cd := by
  rcases T with ⟨rfl, rfl, -⟩ | ⟨rfl, rfl, -⟩
  · rw [lat_length, Int32.sub_self]; rfl
  · rw [wid_length]; exact codU h0 hn
end Jvm.OwnW
namespace Jvm.OwnW
open Sem ClassFile Op Lib Jvm.Stand Jvm.Free Jvm.LawKit Jvm.RoadKit Bundle
theorem nar_ref {v : Value} {n : String} (h : v.isRef = true) : narrow (.object n) v = v := by rcases ref_cases h with rfl | ⟨_, rfl⟩ <;> rfl
theorem fits_ref' {v : Value} {n : String} (h : v.isRef = true) : fits (.object n) v = true := by rcases ref_cases h with rfl | ⟨_, rfl⟩ <;> rfl
theorem catle {v : Value} {st : List Value} {A D C : Nat} (h : v.isRef = true) (g : Nat.ble ((List.map (fun v : Value => v.category) (.null :: st)).sum + A + D) C = true) : (List.map (fun v : Value => v.category) (v :: st)).sum + A + D ≤ C := by
  rcases ref_cases h with rfl | ⟨_, rfl⟩ <;> exact le g
theorem catle2 {v x : Value} {st : List Value} {A D C : Nat} (h : v.isRef = true) (g : Nat.ble ((List.map (fun v : Value => v.category) (x :: .null :: st)).sum + A + D) C = true) : (List.map (fun v : Value => v.category) (x :: v :: st)).sum + A + D ≤ C := by
  rcases ref_cases h with rfl | ⟨_, rfl⟩ <;> exact le g
theorem catle3 {v u x : Value} {st : List Value} {A D C : Nat} (h : v.isRef = true) (h' : u.isRef = true) (g : Nat.ble ((List.map (fun v : Value => v.category) (.null :: x :: .null :: st)).sum + A + D) C = true) : (List.map (fun v : Value => v.category) (u :: x :: v :: st)).sum + A + D ≤ C := by
  rcases ref_cases h with rfl | ⟨_, rfl⟩ <;> rcases ref_cases h' with rfl | ⟨_, rfl⟩ <;> exact le g
end Jvm.OwnW
namespace Jvm.OwnW
open Sem ClassFile Op Lib Jvm.Stand Jvm.Free Jvm.LawKit Jvm.RoadKit Bundle
section
variable {args : Array Value} {s : State}
theorem ex_ev {t : Term} {K : String} (h : (Jvm.Cond.exactly t K).value args s none s [] = some true) : ∃ a, t.eval args s none [] s = some (.ref a) ∧ Exa s s.heap a K := by
  obtain ⟨a, _, _, _, e, -⟩ := Cond.exactly_spec (Cond.before_iff.mpr h)
  exact ⟨a, e, Exa.start e h⟩
theorem arr_ev {t : Term} {ty : FieldType} (h : (Jvm.Cond.arrayOf t ty).value args s none s [] = some true) : ∃ a, t.eval args s none [] s = some (.ref a) := by
  simp only [Cond.value] at h
  cases hv : t.eval args s none [] s with
  | none => simp [hv] at h
  | some w => cases w <;> simp [hv] at h <;> exact ⟨_, rfl⟩
theorem eq_int {t : Term} {v : Int32} (h : (Jvm.Cond.eq t (.int v)).value args s none s [] = some true) : t.eval args s none [] s = some (.int v) := by
  simp only [Cond.value, Term.int_eval] at h
  cases hv : t.eval args s none [] s with
  | none => simp [hv] at h
  | some w => cases w <;> simp [hv] at h <;> simp [h]
theorem eq_refR {t u : Term} {a : Addr} (eu : u.eval args s none [] s = some (.ref a)) (h : (Jvm.Cond.eq t u).value args s none s [] = some true) : t.eval args s none [] s = some (.ref a) := by
  simp only [Cond.value, eu] at h
  cases hv : t.eval args s none [] s with
  | none => simp [hv] at h
  | some w => cases w <;> simp [hv] at h <;> simp [h]
theorem fld_ev {t : Term} {O f fd : String} {a : Addr} {v : Value} (ev : t.eval args s none [] s = some (.ref a)) (e : (Term.field t O f fd).eval args s none [] s = some v) : Fld s s.heap a O f fd v := by
  apply Fld.start
  rw [← e]; simp [Term.eval, ev]
theorem arl_ev {t : Term} {a : Addr} {ty : FieldType} {vs : List Value} (hf : Fit s) (ev : t.eval args s none [] s = some (.ref a)) (ha : (Jvm.Cond.arrayOf t ty).value args s none s [] = some true) (hl : (Jvm.Cond.eq (.length t) (.int (Int32.ofNat vs.length))).value args s none s [] = some true) (hn : vs.length < 2 ^ 31)
    (he : ∀ i v, vs[i]? = some v → (Term.elem t (.int (Int32.ofNat i))).eval args s none [] s = some v) : Arl s s.heap a ty vs := by
  obtain ⟨cl, A⟩ := Arr.start ev ha
  have hat : s.arrayAt? a = some cl := A.fin (Vm.Alike.refl _)
  have e1 := eq_int hl
  have sz : cl.slots.size = vs.length := by
    simp only [Term.eval, ev, hat, Option.bind_eq_bind, Option.bind_some, Option.pure_def] at e1
    split at e1
    · rename_i q
      simp only [Option.some.injEq, Value.int.injEq] at e1
      exact ofNat_inj q hn e1
    · cases e1
  have key : ∀ i v, vs[i]? = some v → cl.slots[i]? = some v := fun i v hv => by
    have hi := (List.getElem?_eq_some_iff.mp hv).1
    have e2 := he i v hv
    have q := ofNat_idx (i := i) (by omega)
    simp only [Term.eval, ev, hat, Option.bind_eq_bind, Option.bind_some, q.1, if_false, q.2] at e2
    exact e2
  refine ⟨cl, A, ?_, hn, fun v hv => ?_⟩
  · apply List.ext_getElem?
    intro i
    rw [Array.getElem?_toList]
    cases hv : vs[i]? with
    | none => rw [List.getElem?_eq_none_iff] at hv; rw [Array.getElem?_eq_none_iff]; omega
    | some v => exact key i v hv
  · obtain ⟨i, hv⟩ := List.mem_iff_getElem?.mp hv
    have hi := (List.getElem?_eq_some_iff.mp hv).1
    have q := ofNat_idx (i := i) (by omega)
    exact elem_fits (j := Int32.ofNat i) hf A (by rw [q.2]; intro z; rcases z with z | z; exact q.1 z; omega) (by rw [q.2]; exact key i v hv)
theorem str_ev {t : Term} {cs : List Int32} (hf : Fit s) (hx : (Jvm.Cond.exactly t "java/lang/String").value args s none s [] = some true) (hc : (Jvm.Cond.eq (.field t "java/lang/String" "coder" "B") (.int 0)).value args s none s [] = some true)
    (ha : (Jvm.Cond.arrayOf (.field t "java/lang/String" "value" "[B") .byte).value args s none s [] = some true) (hl : (Jvm.Cond.eq (.length (.field t "java/lang/String" "value" "[B")) (.int (Int32.ofNat cs.length))).value args s none s [] = some true) (hn : cs.length ≤ 4000) (hL : ∀ c ∈ cs, b8 c = c ∧ IsL c)
    (he : ∀ i c, cs[i]? = some c → (Jvm.Cond.eq (.elem (.field t "java/lang/String" "value" "[B") (.int (Int32.ofNat i))) (.int c)).value args s none s [] = some true) : ∃ a, t.eval args s none [] s = some (.ref a) ∧ StrAt s s.heap a cs := by
  obtain ⟨a, ea, X⟩ := ex_ev hx
  obtain ⟨b, eb⟩ := arr_ev ha
  have hlat : lat cs = ints cs := by
    unfold lat ints; exact List.map_congr_left fun c hc => by rw [(hL c hc).1]
  have A : Arl s s.heap b .byte (lat cs) := by
    rw [hlat]
    refine arl_ev hf eb ha (by rw [ints_length]; exact hl) (by rw [ints_length]; omega) fun i v hv => ?_
    obtain ⟨c, hc1, rfl⟩ : ∃ c, cs[i]? = some c ∧ v = .int c := by
      unfold ints at hv; rw [List.getElem?_map] at hv
      cases hq : cs[i]? with
      | none => rw [hq] at hv; cases hv
      | some c => rw [hq] at hv; exact ⟨c, rfl, (Option.some.inj hv).symm⟩
    exact eq_int (he i c hc1)
  exact ⟨a, ea, b, 0, lat cs, X, fld_ev ea eb, fld_ev ea (eq_int hc), A, Or.inl ⟨rfl, rfl, fun c hc => (hL c hc).2.2⟩, fun c hc => (hL c hc).2.isC, hn⟩
end
end Jvm.OwnW
namespace Jvm.Pilot.@@N@@
open Jvm Jvm.ClassFile Sem Op Lib Jvm.Free Jvm.Stand Jvm.LawKit Jvm.RoadKit Bundle Jvm.Pilot.@@N@@.Jvm.D Jvm.OwnW
set_option maxRecDepth 65536
set_option maxHeartbeats 4000000
theorem tw0 : (Jvm.Cond.stringLink "no/nordsegl/rules/SchemaTypeOfPinLaw" (7 : Nat) "Assertion@ID") ∈ tables_1 := List.mem_of_getElem? (i := 0) rfl
theorem tw1 : (Jvm.Cond.initialized "java/lang/String") ∈ tables_1 := List.mem_of_getElem? (i := 1) rfl
theorem tw2 : (Jvm.Cond.instantiable "java/lang/String" (4 : Nat)) ∈ tables_1 := List.mem_of_getElem? (i := 2) rfl
theorem tw3 : (Jvm.Cond.arrayClass Jvm.ClassFile.FieldType.byte) ∈ tables_1 := List.mem_of_getElem? (i := 3) rfl
theorem tw4 : (Jvm.Cond.laysFinal "java/lang/String" "java/lang/String" "value" "[B") ∈ tables_1 := List.mem_of_getElem? (i := 4) rfl
theorem tw5 : (Jvm.Cond.laysFinal "java/lang/String" "java/lang/String" "coder" "B") ∈ tables_1 := List.mem_of_getElem? (i := 5) rfl
theorem tw8 : (Jvm.Cond.arrayClass Jvm.ClassFile.FieldType.char) ∈ tables_1 := List.mem_of_getElem? (i := 8) rfl
theorem tw9 : (Jvm.Cond.arrayClass Jvm.ClassFile.FieldType.int) ∈ tables_1 := List.mem_of_getElem? (i := 9) rfl
theorem tw10 : (Jvm.Cond.constant "no/nordsegl/rules/SchemaTypeOfPinLaw" (9 : Nat) (2147483647 : Int32)) ∈ tables_1 := List.mem_of_getElem? (i := 10) rfl
theorem tw11 : (Jvm.Cond.classLink "no/nordsegl/rules/SchemaTypeOfPinLaw" (10 : Nat) "java/lang/String") ∈ tables_1 := List.mem_of_getElem? (i := 11) rfl
theorem tw12 : (Jvm.Cond.methodLink "no/nordsegl/rules/SchemaTypeOfPinLaw" (12 : Nat) ({ cls := "no/nordsegl/rules/SchemaTypeOfPinLaw", name := "prefix", desc := "([CI)[C" } : Jvm.MethodName)) ∈ tables_1 := List.mem_of_getElem? (i := 12) rfl
theorem tw13 : (Jvm.Cond.static ({ cls := "no/nordsegl/rules/SchemaTypeOfPinLaw", name := "prefix", desc := "([CI)[C" } : Jvm.MethodName)) ∈ tables_1 := List.mem_of_getElem? (i := 13) rfl
theorem tw14 : (Jvm.Cond.initialized "no/nordsegl/rules/SchemaTypeOfPinLaw") ∈ tables_1 := List.mem_of_getElem? (i := 14) rfl
theorem tw15 : (Jvm.Cond.code ({ cls := "no/nordsegl/rules/SchemaTypeOfPinLaw", name := "prefix", desc := "([CI)[C" } : Jvm.MethodName) method_2_code (3 : Nat) (Option.some (Jvm.ClassFile.FieldType.array Jvm.ClassFile.FieldType.char))) ∈ tables_1 := List.mem_of_getElem? (i := 15) rfl
theorem tw16 : (Jvm.Cond.methodLink "no/nordsegl/rules/SchemaTypeOfPinLaw" (18 : Nat) ({ cls := "java/lang/String", name := "<init>", desc := "([C)V" } : Jvm.MethodName)) ∈ tables_1 := List.mem_of_getElem? (i := 16) rfl
theorem tw17 : (Jvm.Cond.instanceMethod ({ cls := "java/lang/String", name := "<init>", desc := "([C)V" } : Jvm.MethodName)) ∈ tables_1 := List.mem_of_getElem? (i := 17) rfl
theorem tw18 : (Jvm.Cond.code ({ cls := "java/lang/String", name := "<init>", desc := "([C)V" } : Jvm.MethodName) jdk_42_method_3_code (2 : Nat) (Option.none : Option Jvm.ClassFile.FieldType)) ∈ tables_1 := List.mem_of_getElem? (i := 18) rfl
theorem tw19 : (Jvm.Cond.methodLink "java/lang/String" (27 : Nat) ({ cls := "java/lang/String", name := "<init>", desc := "([CIILjava/lang/Void;)V" } : Jvm.MethodName)) ∈ tables_1 := List.mem_of_getElem? (i := 19) rfl
theorem tw20 : (Jvm.Cond.instanceMethod ({ cls := "java/lang/String", name := "<init>", desc := "([CIILjava/lang/Void;)V" } : Jvm.MethodName)) ∈ tables_1 := List.mem_of_getElem? (i := 20) rfl
theorem tw22 : (Jvm.Cond.code ({ cls := "java/lang/String", name := "<init>", desc := "([CIILjava/lang/Void;)V" } : Jvm.MethodName) jdk_42_method_149_code (6 : Nat) (Option.none : Option Jvm.ClassFile.FieldType)) ∈ tables_1 := List.mem_of_getElem? (i := 22) rfl
theorem tw23 : (Jvm.Cond.methodLink "java/lang/String" (1 : Nat) ({ cls := "java/lang/Object", name := "<init>", desc := "()V" } : Jvm.MethodName)) ∈ tables_1 := List.mem_of_getElem? (i := 23) rfl
theorem tw24 : (Jvm.Cond.instanceMethod ({ cls := "java/lang/Object", name := "<init>", desc := "()V" } : Jvm.MethodName)) ∈ tables_1 := List.mem_of_getElem? (i := 24) rfl
theorem tw25 : (Jvm.Cond.code ({ cls := "java/lang/Object", name := "<init>", desc := "()V" } : Jvm.MethodName) object_method_1_code (1 : Nat) (Option.none : Option Jvm.ClassFile.FieldType)) ∈ tables_1 := List.mem_of_getElem? (i := 25) rfl
theorem tw26 : (Jvm.Cond.fieldLink "java/lang/String" (38 : Nat) "java/lang/String" "COMPACT_STRINGS" "Z") ∈ tables_1 := List.mem_of_getElem? (i := 26) rfl
theorem tw27 : (Jvm.Cond.methodLink "java/lang/String" (177 : Nat) ({ cls := "java/lang/StringUTF16", name := "compress", desc := "([CII)[B" } : Jvm.MethodName)) ∈ tables_1 := List.mem_of_getElem? (i := 27) rfl
theorem tw28 : (Jvm.Cond.static ({ cls := "java/lang/StringUTF16", name := "compress", desc := "([CII)[B" } : Jvm.MethodName)) ∈ tables_1 := List.mem_of_getElem? (i := 28) rfl
theorem tw29 : (Jvm.Cond.initialized "java/lang/StringUTF16") ∈ tables_1 := List.mem_of_getElem? (i := 29) rfl
theorem tw30 : (Jvm.Cond.code ({ cls := "java/lang/StringUTF16", name := "compress", desc := "([CII)[B" } : Jvm.MethodName) jdk_52_method_16_code (6 : Nat) (Option.some (Jvm.ClassFile.FieldType.array Jvm.ClassFile.FieldType.byte))) ∈ tables_1 := List.mem_of_getElem? (i := 30) rfl
theorem tw31 : (Jvm.Cond.methodLink "java/lang/StringUTF16" (115 : Nat) ({ cls := "java/lang/StringUTF16", name := "compress", desc := "([CI[BII)I" } : Jvm.MethodName)) ∈ tables_1 := List.mem_of_getElem? (i := 31) rfl
theorem tw32 : (Jvm.Cond.static ({ cls := "java/lang/StringUTF16", name := "compress", desc := "([CI[BII)I" } : Jvm.MethodName)) ∈ tables_1 := List.mem_of_getElem? (i := 32) rfl
theorem tw33 : (Jvm.Cond.code ({ cls := "java/lang/StringUTF16", name := "compress", desc := "([CI[BII)I" } : Jvm.MethodName) jdk_52_method_21_code (7 : Nat) (Option.some Jvm.ClassFile.FieldType.int)) ∈ tables_1 := List.mem_of_getElem? (i := 33) rfl
theorem tw34 : (Jvm.Cond.methodLink "java/lang/String" (47 : Nat) ({ cls := "java/lang/StringUTF16", name := "coderFromArrayLen", desc := "([BI)B" } : Jvm.MethodName)) ∈ tables_1 := List.mem_of_getElem? (i := 34) rfl
theorem tw35 : (Jvm.Cond.static ({ cls := "java/lang/StringUTF16", name := "coderFromArrayLen", desc := "([BI)B" } : Jvm.MethodName)) ∈ tables_1 := List.mem_of_getElem? (i := 35) rfl
theorem tw36 : (Jvm.Cond.code ({ cls := "java/lang/StringUTF16", name := "coderFromArrayLen", desc := "([BI)B" } : Jvm.MethodName) jdk_52_method_15_code (2 : Nat) (Option.some Jvm.ClassFile.FieldType.byte)) ∈ tables_1 := List.mem_of_getElem? (i := 36) rfl
theorem tw37 : (Jvm.Cond.fieldLink "java/lang/String" (15 : Nat) "java/lang/String" "coder" "B") ∈ tables_1 := List.mem_of_getElem? (i := 37) rfl
theorem tw38 : (Jvm.Cond.fieldLink "java/lang/String" (9 : Nat) "java/lang/String" "value" "[B") ∈ tables_1 := List.mem_of_getElem? (i := 38) rfl
theorem tw39 : (Jvm.Cond.methodLink "no/nordsegl/rules/SchemaTypeOfPinLaw" (25 : Nat) ({ cls := "no/nordsegl/rules/SchemaType", name := "of", desc := "(Ljava/lang/String;)Lno/nordsegl/rules/SchemaType;" } : Jvm.MethodName)) ∈ tables_1 := List.mem_of_getElem? (i := 39) rfl
theorem tw40 : (Jvm.Cond.static ({ cls := "no/nordsegl/rules/SchemaType", name := "of", desc := "(Ljava/lang/String;)Lno/nordsegl/rules/SchemaType;" } : Jvm.MethodName)) ∈ tables_1 := List.mem_of_getElem? (i := 40) rfl
theorem tw41 : (Jvm.Cond.initialized "no/nordsegl/rules/SchemaType") ∈ tables_1 := List.mem_of_getElem? (i := 41) rfl
theorem tw42 : (Jvm.Cond.code ({ cls := "no/nordsegl/rules/SchemaType", name := "of", desc := "(Ljava/lang/String;)Lno/nordsegl/rules/SchemaType;" } : Jvm.MethodName) prog_98_method_4_code (5 : Nat) (Option.some (Jvm.ClassFile.FieldType.object "no/nordsegl/rules/SchemaType"))) ∈ tables_1 := List.mem_of_getElem? (i := 42) rfl
theorem tw43 : (Jvm.Cond.methodLink "no/nordsegl/rules/SchemaType" (30 : Nat) ({ cls := "no/nordsegl/rules/SchemaType", name := "values", desc := "()[Lno/nordsegl/rules/SchemaType;" } : Jvm.MethodName)) ∈ tables_1 := List.mem_of_getElem? (i := 43) rfl
theorem tw44 : (Jvm.Cond.static ({ cls := "no/nordsegl/rules/SchemaType", name := "values", desc := "()[Lno/nordsegl/rules/SchemaType;" } : Jvm.MethodName)) ∈ tables_1 := List.mem_of_getElem? (i := 44) rfl
theorem tw45 : (Jvm.Cond.code ({ cls := "no/nordsegl/rules/SchemaType", name := "values", desc := "()[Lno/nordsegl/rules/SchemaType;" } : Jvm.MethodName) prog_98_method_1_code (0 : Nat) (Option.some (Jvm.ClassFile.FieldType.array (Jvm.ClassFile.FieldType.object "no/nordsegl/rules/SchemaType")))) ∈ tables_1 := List.mem_of_getElem? (i := 45) rfl
theorem tw46 : (Jvm.Cond.fieldLink "no/nordsegl/rules/SchemaType" (7 : Nat) "no/nordsegl/rules/SchemaType" "$VALUES" "[Lno/nordsegl/rules/SchemaType;") ∈ tables_1 := List.mem_of_getElem? (i := 46) rfl
theorem tw47 : (Jvm.Cond.laysStatic "no/nordsegl/rules/SchemaType" "$VALUES" "[Lno/nordsegl/rules/SchemaType;") ∈ tables_1 := List.mem_of_getElem? (i := 47) rfl
theorem tw48 : (Jvm.Cond.methodLink "no/nordsegl/rules/SchemaType" (11 : Nat) ({ cls := "[Lno/nordsegl/rules/SchemaType;", name := "clone", desc := "()Ljava/lang/Object;" } : Jvm.MethodName)) ∈ tables_1 := List.mem_of_getElem? (i := 48) rfl
theorem tw49 : (Jvm.Cond.sameMethod "[Lno/nordsegl/rules/SchemaType;" "java/lang/Object" "clone" "()Ljava/lang/Object;") ∈ tables_1 := List.mem_of_getElem? (i := 49) rfl
theorem tw51 : (Jvm.Cond.instanceMethod ({ cls := "java/lang/Object", name := "clone", desc := "()Ljava/lang/Object;" } : Jvm.MethodName)) ∈ tables_1 := List.mem_of_getElem? (i := 51) rfl
theorem tw52 : (Jvm.Cond.selects "[Lno/nordsegl/rules/SchemaType;" ({ cls := "[Lno/nordsegl/rules/SchemaType;", name := "clone", desc := "()Ljava/lang/Object;" } : Jvm.MethodName) ({ cls := "java/lang/Object", name := "clone", desc := "()Ljava/lang/Object;" } : Jvm.MethodName)) ∈ tables_1 := List.mem_of_getElem? (i := 52) rfl
theorem tw53 : (Jvm.Cond.native ({ cls := "java/lang/Object", name := "clone", desc := "()Ljava/lang/Object;" } : Jvm.MethodName)) ∈ tables_1 := List.mem_of_getElem? (i := 53) rfl
theorem tw54 : (Jvm.Cond.castable "[Lno/nordsegl/rules/SchemaType;" "java/lang/Cloneable") ∈ tables_1 := List.mem_of_getElem? (i := 54) rfl
theorem tw56 : (Jvm.Cond.classLink "no/nordsegl/rules/SchemaType" (12 : Nat) "[Lno/nordsegl/rules/SchemaType;") ∈ tables_1 := List.mem_of_getElem? (i := 56) rfl
theorem tw58 : (Jvm.Cond.fieldLink "no/nordsegl/rules/SchemaType" (26 : Nat) "no/nordsegl/rules/SchemaType" "path" "Ljava/lang/String;") ∈ tables_1 := List.mem_of_getElem? (i := 58) rfl
theorem tw60 : (Jvm.Cond.methodLink "no/nordsegl/rules/SchemaType" (34 : Nat) ({ cls := "java/lang/String", name := "equals", desc := "(Ljava/lang/Object;)Z" } : Jvm.MethodName)) ∈ tables_1 := List.mem_of_getElem? (i := 60) rfl
theorem tw61 : (Jvm.Cond.declares ({ cls := "java/lang/String", name := "equals", desc := "(Ljava/lang/Object;)Z" } : Jvm.MethodName)) ∈ tables_1 := List.mem_of_getElem? (i := 61) rfl
theorem tw62 : (Jvm.Cond.instanceMethod ({ cls := "java/lang/String", name := "equals", desc := "(Ljava/lang/Object;)Z" } : Jvm.MethodName)) ∈ tables_1 := List.mem_of_getElem? (i := 62) rfl
theorem tw63 : (Jvm.Cond.selects "java/lang/String" ({ cls := "java/lang/String", name := "equals", desc := "(Ljava/lang/Object;)Z" } : Jvm.MethodName) ({ cls := "java/lang/String", name := "equals", desc := "(Ljava/lang/Object;)Z" } : Jvm.MethodName)) ∈ tables_1 := List.mem_of_getElem? (i := 63) rfl
theorem tw64 : (Jvm.Cond.code ({ cls := "java/lang/String", name := "equals", desc := "(Ljava/lang/Object;)Z" } : Jvm.MethodName) jdk_42_method_66_code (3 : Nat) (Option.some Jvm.ClassFile.FieldType.boolean)) ∈ tables_1 := List.mem_of_getElem? (i := 64) rfl
theorem tw65 : (Jvm.Cond.classLink "java/lang/String" (10 : Nat) "java/lang/String") ∈ tables_1 := List.mem_of_getElem? (i := 65) rfl
theorem tw66 : (Jvm.Cond.methodLink "java/lang/String" (541 : Nat) ({ cls := "java/lang/StringLatin1", name := "equals", desc := "([B[B)Z" } : Jvm.MethodName)) ∈ tables_1 := List.mem_of_getElem? (i := 66) rfl
theorem tw67 : (Jvm.Cond.static ({ cls := "java/lang/StringLatin1", name := "equals", desc := "([B[B)Z" } : Jvm.MethodName)) ∈ tables_1 := List.mem_of_getElem? (i := 67) rfl
theorem tw68 : (Jvm.Cond.initialized "java/lang/StringLatin1") ∈ tables_1 := List.mem_of_getElem? (i := 68) rfl
theorem tw69 : (Jvm.Cond.code ({ cls := "java/lang/StringLatin1", name := "equals", desc := "([B[B)Z" } : Jvm.MethodName) jdk_43_method_13_code (3 : Nat) (Option.some Jvm.ClassFile.FieldType.boolean)) ∈ tables_1 := List.mem_of_getElem? (i := 69) rfl
theorem tw70 : (Jvm.Cond.fieldLink "no/nordsegl/rules/SchemaTypeOfPinLaw" (31 : Nat) "no/nordsegl/rules/SchemaType" "ID" "Lno/nordsegl/rules/SchemaType;") ∈ tables_1 := List.mem_of_getElem? (i := 70) rfl
theorem tw71 : (Jvm.Cond.laysStatic "no/nordsegl/rules/SchemaType" "ID" "Lno/nordsegl/rules/SchemaType;") ∈ tables_1 := List.mem_of_getElem? (i := 71) rfl
theorem tw72 : (Jvm.Cond.methodLink "no/nordsegl/rules/SchemaTypeOfPinLaw" (21 : Nat) ({ cls := "java/lang/String", name := "charAt", desc := "(I)C" } : Jvm.MethodName)) ∈ tables_1 := List.mem_of_getElem? (i := 72) rfl
theorem tw73 : (Jvm.Cond.declares ({ cls := "java/lang/String", name := "charAt", desc := "(I)C" } : Jvm.MethodName)) ∈ tables_1 := List.mem_of_getElem? (i := 73) rfl
theorem tw74 : (Jvm.Cond.instanceMethod ({ cls := "java/lang/String", name := "charAt", desc := "(I)C" } : Jvm.MethodName)) ∈ tables_1 := List.mem_of_getElem? (i := 74) rfl
theorem tw75 : (Jvm.Cond.selects "java/lang/String" ({ cls := "java/lang/String", name := "charAt", desc := "(I)C" } : Jvm.MethodName) ({ cls := "java/lang/String", name := "charAt", desc := "(I)C" } : Jvm.MethodName)) ∈ tables_1 := List.mem_of_getElem? (i := 75) rfl
theorem tw76 : (Jvm.Cond.code ({ cls := "java/lang/String", name := "charAt", desc := "(I)C" } : Jvm.MethodName) jdk_42_method_56_code (2 : Nat) (Option.some Jvm.ClassFile.FieldType.char)) ∈ tables_1 := List.mem_of_getElem? (i := 76) rfl
theorem tw77 : (Jvm.Cond.methodLink "java/lang/String" (492 : Nat) ({ cls := "java/lang/String", name := "isLatin1", desc := "()Z" } : Jvm.MethodName)) ∈ tables_1 := List.mem_of_getElem? (i := 77) rfl
theorem tw78 : (Jvm.Cond.declares ({ cls := "java/lang/String", name := "isLatin1", desc := "()Z" } : Jvm.MethodName)) ∈ tables_1 := List.mem_of_getElem? (i := 78) rfl
theorem tw79 : (Jvm.Cond.instanceMethod ({ cls := "java/lang/String", name := "isLatin1", desc := "()Z" } : Jvm.MethodName)) ∈ tables_1 := List.mem_of_getElem? (i := 79) rfl
theorem tw80 : (Jvm.Cond.selects "java/lang/String" ({ cls := "java/lang/String", name := "isLatin1", desc := "()Z" } : Jvm.MethodName) ({ cls := "java/lang/String", name := "isLatin1", desc := "()Z" } : Jvm.MethodName)) ∈ tables_1 := List.mem_of_getElem? (i := 80) rfl
theorem tw81 : (Jvm.Cond.code ({ cls := "java/lang/String", name := "isLatin1", desc := "()Z" } : Jvm.MethodName) jdk_42_method_154_code (1 : Nat) (Option.some Jvm.ClassFile.FieldType.boolean)) ∈ tables_1 := List.mem_of_getElem? (i := 81) rfl
theorem tw82 : (Jvm.Cond.methodLink "java/lang/String" (495 : Nat) ({ cls := "java/lang/StringLatin1", name := "charAt", desc := "([BI)C" } : Jvm.MethodName)) ∈ tables_1 := List.mem_of_getElem? (i := 82) rfl
theorem tw83 : (Jvm.Cond.static ({ cls := "java/lang/StringLatin1", name := "charAt", desc := "([BI)C" } : Jvm.MethodName)) ∈ tables_1 := List.mem_of_getElem? (i := 83) rfl
theorem tw84 : (Jvm.Cond.code ({ cls := "java/lang/StringLatin1", name := "charAt", desc := "([BI)C" } : Jvm.MethodName) jdk_43_method_2_code (2 : Nat) (Option.some Jvm.ClassFile.FieldType.char)) ∈ tables_1 := List.mem_of_getElem? (i := 84) rfl
theorem tw85 : (Jvm.Cond.methodLink "java/lang/StringLatin1" (9 : Nat) ({ cls := "java/lang/String", name := "checkIndex", desc := "(II)V" } : Jvm.MethodName)) ∈ tables_1 := List.mem_of_getElem? (i := 85) rfl
theorem tw86 : (Jvm.Cond.static ({ cls := "java/lang/String", name := "checkIndex", desc := "(II)V" } : Jvm.MethodName)) ∈ tables_1 := List.mem_of_getElem? (i := 86) rfl
theorem tw87 : (Jvm.Cond.code ({ cls := "java/lang/String", name := "checkIndex", desc := "(II)V" } : Jvm.MethodName) jdk_42_method_155_code (2 : Nat) (Option.none : Option Jvm.ClassFile.FieldType)) ∈ tables_1 := List.mem_of_getElem? (i := 87) rfl
theorem tw88 : (Jvm.Cond.fieldLink "java/lang/String" (1053 : Nat) "jdk/internal/util/Preconditions" "SIOOBE_FORMATTER" "Ljava/util/function/BiFunction;") ∈ tables_1 := List.mem_of_getElem? (i := 88) rfl
theorem tw89 : (Jvm.Cond.initialized "jdk/internal/util/Preconditions") ∈ tables_1 := List.mem_of_getElem? (i := 89) rfl
theorem tw90 : (Jvm.Cond.methodLink "java/lang/String" (1059 : Nat) ({ cls := "jdk/internal/util/Preconditions", name := "checkIndex", desc := "(IILjava/util/function/BiFunction;)I" } : Jvm.MethodName)) ∈ tables_1 := List.mem_of_getElem? (i := 90) rfl
theorem tw91 : (Jvm.Cond.static ({ cls := "jdk/internal/util/Preconditions", name := "checkIndex", desc := "(IILjava/util/function/BiFunction;)I" } : Jvm.MethodName)) ∈ tables_1 := List.mem_of_getElem? (i := 91) rfl
theorem tw92 : (Jvm.Cond.code ({ cls := "jdk/internal/util/Preconditions", name := "checkIndex", desc := "(IILjava/util/function/BiFunction;)I" } : Jvm.MethodName) jdk_41_method_11_code (3 : Nat) (Option.some Jvm.ClassFile.FieldType.int)) ∈ tables_1 := List.mem_of_getElem? (i := 92) rfl
theorem tw93 : (Jvm.Cond.stringLink "java/lang/String" (7 : Nat) "") ∈ tables_1 := List.mem_of_getElem? (i := 93) rfl
theorem db0_3 : Dec jdk_52_method_21_code 3 (.iload 5) 2 5 := ⟨by decide +kernel, rfl⟩
theorem db0_5 : Dec jdk_52_method_21_code 5 (.iload 4) 2 7 := ⟨by decide +kernel, rfl⟩
theorem db0_7 : DecJ jdk_52_method_21_code 7 (.if_icmp .ge 37) (37) 10 44 := ⟨by decide +kernel, rfl, by decide, by decide⟩
theorem db0_44 : Dec jdk_52_method_21_code 44 (.iload 4) 2 46 := ⟨by decide +kernel, rfl⟩
theorem db0_46 : Dec jdk_52_method_21_code 46 (.ireturn) 1 47 := ⟨by decide +kernel, rfl⟩
theorem db0_10 : Dec jdk_52_method_21_code 10 (.aload_n 0) 1 11 := ⟨by decide +kernel, rfl⟩
theorem db0_11 : Dec jdk_52_method_21_code 11 (.iload_n 1) 1 12 := ⟨by decide +kernel, rfl⟩
theorem db0_12 : Dec jdk_52_method_21_code 12 (.caload) 1 13 := ⟨by decide +kernel, rfl⟩
theorem db0_13 : Dec jdk_52_method_21_code 13 (.istore 6) 2 15 := ⟨by decide +kernel, rfl⟩
theorem db0_15 : Dec jdk_52_method_21_code 15 (.iload 6) 2 17 := ⟨by decide +kernel, rfl⟩
theorem db0_17 : Dec jdk_52_method_21_code 17 (.sipush 255) 3 20 := ⟨by decide +kernel, rfl⟩
theorem db0_20 : DecJ jdk_52_method_21_code 20 (.if_icmp .le 6) (6) 23 26 := ⟨by decide +kernel, rfl, by decide, by decide⟩
theorem db0_26 : Dec jdk_52_method_21_code 26 (.aload_n 2) 1 27 := ⟨by decide +kernel, rfl⟩
theorem db0_27 : Dec jdk_52_method_21_code 27 (.iload_n 3) 1 28 := ⟨by decide +kernel, rfl⟩
theorem db0_28 : Dec jdk_52_method_21_code 28 (.iload 6) 2 30 := ⟨by decide +kernel, rfl⟩
theorem db0_30 : Dec jdk_52_method_21_code 30 (.i2b) 1 31 := ⟨by decide +kernel, rfl⟩
theorem db0_31 : Dec jdk_52_method_21_code 31 (.bastore) 1 32 := ⟨by decide +kernel, rfl⟩
theorem db0_32 : Dec jdk_52_method_21_code 32 (.iinc 1 1) 3 35 := ⟨by decide +kernel, rfl⟩
theorem db0_35 : Dec jdk_52_method_21_code 35 (.iinc 3 1) 3 38 := ⟨by decide +kernel, rfl⟩
theorem db0_38 : Dec jdk_52_method_21_code 38 (.iinc 5 1) 3 41 := ⟨by decide +kernel, rfl⟩
theorem db0_41 : DecJ jdk_52_method_21_code 41 (.goto (-38)) (-38) 44 3 := ⟨by decide +kernel, rfl, by decide, by decide⟩
theorem db0_23 : Dec jdk_52_method_21_code 23 (.iload 5) 2 25 := ⟨by decide +kernel, rfl⟩
theorem db0_25 : Dec jdk_52_method_21_code 25 (.ireturn) 1 26 := ⟨by decide +kernel, rfl⟩
theorem db0_0 : Dec jdk_52_method_21_code 0 (.iconst 0) 1 1 := ⟨by decide +kernel, rfl⟩
theorem db0_1 : Dec jdk_52_method_21_code 1 (.istore 5) 2 3 := ⟨by decide +kernel, rfl⟩
theorem db1_0 : Dec jdk_52_method_15_code 0 (.iload_n 1) 1 1 := ⟨by decide +kernel, rfl⟩
theorem db1_1 : Dec jdk_52_method_15_code 1 (.aload_n 0) 1 2 := ⟨by decide +kernel, rfl⟩
theorem db1_2 : Dec jdk_52_method_15_code 2 (.arraylength) 1 3 := ⟨by decide +kernel, rfl⟩
theorem db1_3 : Dec jdk_52_method_15_code 3 (.isub) 1 4 := ⟨by decide +kernel, rfl⟩
theorem db1_4 : Dec jdk_52_method_15_code 4 (.bipush 31) 2 6 := ⟨by decide +kernel, rfl⟩
theorem db1_6 : Dec jdk_52_method_15_code 6 (.iushr) 1 7 := ⟨by decide +kernel, rfl⟩
theorem db1_7 : Dec jdk_52_method_15_code 7 (.i2b) 1 8 := ⟨by decide +kernel, rfl⟩
theorem db1_8 : Dec jdk_52_method_15_code 8 (.ireturn) 1 9 := ⟨by decide +kernel, rfl⟩
theorem db2_0 : Dec jdk_52_method_16_code 0 (.iload_n 2) 1 1 := ⟨by decide +kernel, rfl⟩
theorem db2_1 : Dec jdk_52_method_16_code 1 (.newarray .byte) 2 3 := ⟨by decide +kernel, rfl⟩
theorem db2_3 : Dec jdk_52_method_16_code 3 (.astore_n 3) 1 4 := ⟨by decide +kernel, rfl⟩
theorem db2_4 : Dec jdk_52_method_16_code 4 (.aload_n 0) 1 5 := ⟨by decide +kernel, rfl⟩
theorem db2_5 : Dec jdk_52_method_16_code 5 (.iload_n 1) 1 6 := ⟨by decide +kernel, rfl⟩
theorem db2_6 : Dec jdk_52_method_16_code 6 (.aload_n 3) 1 7 := ⟨by decide +kernel, rfl⟩
theorem db2_7 : Dec jdk_52_method_16_code 7 (.iconst 0) 1 8 := ⟨by decide +kernel, rfl⟩
theorem db2_8 : Dec jdk_52_method_16_code 8 (.iload_n 2) 1 9 := ⟨by decide +kernel, rfl⟩
theorem db2_9 : Dec jdk_52_method_16_code 9 (.invokestatic 115) 3 12 := ⟨by decide +kernel, rfl⟩
theorem db2_12 : Dec jdk_52_method_16_code 12 (.istore 4) 2 14 := ⟨by decide +kernel, rfl⟩
theorem db2_14 : Dec jdk_52_method_16_code 14 (.iload 4) 2 16 := ⟨by decide +kernel, rfl⟩
theorem db2_16 : Dec jdk_52_method_16_code 16 (.iload_n 2) 1 17 := ⟨by decide +kernel, rfl⟩
theorem db2_17 : DecJ jdk_52_method_16_code 17 (.if_icmp .eq 40) (40) 20 57 := ⟨by decide +kernel, rfl, by decide, by decide⟩
theorem db2_57 : Dec jdk_52_method_16_code 57 (.aload_n 3) 1 58 := ⟨by decide +kernel, rfl⟩
theorem db2_58 : Dec jdk_52_method_16_code 58 (.areturn) 1 59 := ⟨by decide +kernel, rfl⟩
theorem db3_0 : Dec jdk_42_method_149_code 0 (.aload_n 0) 1 1 := ⟨by decide +kernel, rfl⟩
theorem db3_1 : Dec jdk_42_method_149_code 1 (.invokespecial 1) 3 4 := ⟨by decide +kernel, rfl⟩
theorem db3_4 : Dec jdk_42_method_149_code 4 (.iload_n 3) 1 5 := ⟨by decide +kernel, rfl⟩
theorem db3_5 : DecJ jdk_42_method_149_code 5 (.ifCond .ne 22) (22) 8 27 := ⟨by decide +kernel, rfl, by decide, by decide⟩
theorem db3_27 : Dec jdk_42_method_149_code 27 (.getstatic 38) 3 30 := ⟨by decide +kernel, rfl⟩
theorem db3_30 : DecJ jdk_42_method_149_code 30 (.ifCond .eq 28) (28) 33 58 := ⟨by decide +kernel, rfl, by decide, by decide⟩
theorem db3_33 : Dec jdk_42_method_149_code 33 (.aload_n 1) 1 34 := ⟨by decide +kernel, rfl⟩
theorem db3_34 : Dec jdk_42_method_149_code 34 (.iload_n 2) 1 35 := ⟨by decide +kernel, rfl⟩
theorem db3_35 : Dec jdk_42_method_149_code 35 (.iload_n 3) 1 36 := ⟨by decide +kernel, rfl⟩
theorem db3_36 : Dec jdk_42_method_149_code 36 (.invokestatic 177) 3 39 := ⟨by decide +kernel, rfl⟩
theorem db3_39 : Dec jdk_42_method_149_code 39 (.astore 5) 2 41 := ⟨by decide +kernel, rfl⟩
theorem db3_41 : Dec jdk_42_method_149_code 41 (.aload_n 0) 1 42 := ⟨by decide +kernel, rfl⟩
theorem db3_42 : Dec jdk_42_method_149_code 42 (.aload 5) 2 44 := ⟨by decide +kernel, rfl⟩
theorem db3_44 : Dec jdk_42_method_149_code 44 (.iload_n 3) 1 45 := ⟨by decide +kernel, rfl⟩
theorem db3_45 : Dec jdk_42_method_149_code 45 (.invokestatic 47) 3 48 := ⟨by decide +kernel, rfl⟩
theorem db3_48 : Dec jdk_42_method_149_code 48 (.putfield 15) 3 51 := ⟨by decide +kernel, rfl⟩
theorem db3_51 : Dec jdk_42_method_149_code 51 (.aload_n 0) 1 52 := ⟨by decide +kernel, rfl⟩
theorem db3_52 : Dec jdk_42_method_149_code 52 (.aload 5) 2 54 := ⟨by decide +kernel, rfl⟩
theorem db3_54 : Dec jdk_42_method_149_code 54 (.putfield 9) 3 57 := ⟨by decide +kernel, rfl⟩
theorem db3_57 : Dec jdk_42_method_149_code 57 (.return_) 1 58 := ⟨by decide +kernel, rfl⟩
theorem db4_0 : Dec jdk_42_method_3_code 0 (.aload_n 0) 1 1 := ⟨by decide +kernel, rfl⟩
theorem db4_1 : Dec jdk_42_method_3_code 1 (.aload_n 1) 1 2 := ⟨by decide +kernel, rfl⟩
theorem db4_2 : Dec jdk_42_method_3_code 2 (.iconst 0) 1 3 := ⟨by decide +kernel, rfl⟩
theorem db4_3 : Dec jdk_42_method_3_code 3 (.aload_n 1) 1 4 := ⟨by decide +kernel, rfl⟩
theorem db4_4 : Dec jdk_42_method_3_code 4 (.arraylength) 1 5 := ⟨by decide +kernel, rfl⟩
theorem db4_5 : Dec jdk_42_method_3_code 5 (.aconst_null) 1 6 := ⟨by decide +kernel, rfl⟩
theorem db4_6 : Dec jdk_42_method_3_code 6 (.invokespecial 27) 3 9 := ⟨by decide +kernel, rfl⟩
theorem db4_9 : Dec jdk_42_method_3_code 9 (.return_) 1 10 := ⟨by decide +kernel, rfl⟩
theorem db5_0 : Dec jdk_42_method_154_code 0 (.getstatic 38) 3 3 := ⟨by decide +kernel, rfl⟩
theorem db5_3 : DecJ jdk_42_method_154_code 3 (.ifCond .eq 14) (14) 6 17 := ⟨by decide +kernel, rfl, by decide, by decide⟩
theorem db5_6 : Dec jdk_42_method_154_code 6 (.aload_n 0) 1 7 := ⟨by decide +kernel, rfl⟩
theorem db5_7 : Dec jdk_42_method_154_code 7 (.getfield 15) 3 10 := ⟨by decide +kernel, rfl⟩
theorem db5_10 : DecJ jdk_42_method_154_code 10 (.ifCond .ne 7) (7) 13 17 := ⟨by decide +kernel, rfl, by decide, by decide⟩
theorem db5_17 : Dec jdk_42_method_154_code 17 (.iconst 0) 1 18 := ⟨by decide +kernel, rfl⟩
theorem db5_18 : Dec jdk_42_method_154_code 18 (.ireturn) 1 19 := ⟨by decide +kernel, rfl⟩
theorem db5_13 : Dec jdk_42_method_154_code 13 (.iconst 1) 1 14 := ⟨by decide +kernel, rfl⟩
theorem db5_14 : DecJ jdk_42_method_154_code 14 (.goto 4) (4) 17 18 := ⟨by decide +kernel, rfl, by decide, by decide⟩
theorem db6_0 : Dec jdk_41_method_11_code 0 (.iload_n 0) 1 1 := ⟨by decide +kernel, rfl⟩
theorem db6_1 : DecJ jdk_41_method_11_code 1 (.ifCond .lt 8) (8) 4 9 := ⟨by decide +kernel, rfl, by decide, by decide⟩
theorem db6_4 : Dec jdk_41_method_11_code 4 (.iload_n 0) 1 5 := ⟨by decide +kernel, rfl⟩
theorem db6_5 : Dec jdk_41_method_11_code 5 (.iload_n 1) 1 6 := ⟨by decide +kernel, rfl⟩
theorem db6_6 : DecJ jdk_41_method_11_code 6 (.if_icmp .lt 10) (10) 9 16 := ⟨by decide +kernel, rfl, by decide, by decide⟩
theorem db6_16 : Dec jdk_41_method_11_code 16 (.iload_n 0) 1 17 := ⟨by decide +kernel, rfl⟩
theorem db6_17 : Dec jdk_41_method_11_code 17 (.ireturn) 1 18 := ⟨by decide +kernel, rfl⟩
theorem db7_0 : Dec jdk_42_method_155_code 0 (.iload_n 0) 1 1 := ⟨by decide +kernel, rfl⟩
theorem db7_1 : Dec jdk_42_method_155_code 1 (.iload_n 1) 1 2 := ⟨by decide +kernel, rfl⟩
theorem db7_2 : Dec jdk_42_method_155_code 2 (.getstatic 1053) 3 5 := ⟨by decide +kernel, rfl⟩
theorem db7_5 : Dec jdk_42_method_155_code 5 (.invokestatic 1059) 3 8 := ⟨by decide +kernel, rfl⟩
theorem db7_8 : Dec jdk_42_method_155_code 8 (.pop) 1 9 := ⟨by decide +kernel, rfl⟩
theorem db7_9 : Dec jdk_42_method_155_code 9 (.return_) 1 10 := ⟨by decide +kernel, rfl⟩
theorem db8_0 : Dec jdk_43_method_2_code 0 (.iload_n 1) 1 1 := ⟨by decide +kernel, rfl⟩
theorem db8_1 : Dec jdk_43_method_2_code 1 (.aload_n 0) 1 2 := ⟨by decide +kernel, rfl⟩
theorem db8_2 : Dec jdk_43_method_2_code 2 (.arraylength) 1 3 := ⟨by decide +kernel, rfl⟩
theorem db8_3 : Dec jdk_43_method_2_code 3 (.invokestatic 9) 3 6 := ⟨by decide +kernel, rfl⟩
theorem db8_6 : Dec jdk_43_method_2_code 6 (.aload_n 0) 1 7 := ⟨by decide +kernel, rfl⟩
theorem db8_7 : Dec jdk_43_method_2_code 7 (.iload_n 1) 1 8 := ⟨by decide +kernel, rfl⟩
theorem db8_8 : Dec jdk_43_method_2_code 8 (.baload) 1 9 := ⟨by decide +kernel, rfl⟩
theorem db8_9 : Dec jdk_43_method_2_code 9 (.sipush 255) 3 12 := ⟨by decide +kernel, rfl⟩
theorem db8_12 : Dec jdk_43_method_2_code 12 (.iand) 1 13 := ⟨by decide +kernel, rfl⟩
theorem db8_13 : Dec jdk_43_method_2_code 13 (.i2c) 1 14 := ⟨by decide +kernel, rfl⟩
theorem db8_14 : Dec jdk_43_method_2_code 14 (.ireturn) 1 15 := ⟨by decide +kernel, rfl⟩
theorem db9_0 : Dec jdk_42_method_56_code 0 (.aload_n 0) 1 1 := ⟨by decide +kernel, rfl⟩
theorem db9_1 : Dec jdk_42_method_56_code 1 (.invokevirtual 492) 3 4 := ⟨by decide +kernel, rfl⟩
theorem db9_4 : DecJ jdk_42_method_56_code 4 (.ifCond .eq 12) (12) 7 16 := ⟨by decide +kernel, rfl, by decide, by decide⟩
theorem db9_7 : Dec jdk_42_method_56_code 7 (.aload_n 0) 1 8 := ⟨by decide +kernel, rfl⟩
theorem db9_8 : Dec jdk_42_method_56_code 8 (.getfield 9) 3 11 := ⟨by decide +kernel, rfl⟩
theorem db9_11 : Dec jdk_42_method_56_code 11 (.iload_n 1) 1 12 := ⟨by decide +kernel, rfl⟩
theorem db9_12 : Dec jdk_42_method_56_code 12 (.invokestatic 495) 3 15 := ⟨by decide +kernel, rfl⟩
theorem db9_15 : Dec jdk_42_method_56_code 15 (.ireturn) 1 16 := ⟨by decide +kernel, rfl⟩
theorem db10_9 : Dec jdk_43_method_13_code 9 (.iload_n 2) 1 10 := ⟨by decide +kernel, rfl⟩
theorem db10_10 : Dec jdk_43_method_13_code 10 (.aload_n 0) 1 11 := ⟨by decide +kernel, rfl⟩
theorem db10_11 : Dec jdk_43_method_13_code 11 (.arraylength) 1 12 := ⟨by decide +kernel, rfl⟩
theorem db10_12 : DecJ jdk_43_method_13_code 12 (.if_icmp .ge 20) (20) 15 32 := ⟨by decide +kernel, rfl, by decide, by decide⟩
theorem db10_32 : Dec jdk_43_method_13_code 32 (.iconst 1) 1 33 := ⟨by decide +kernel, rfl⟩
theorem db10_33 : Dec jdk_43_method_13_code 33 (.ireturn) 1 34 := ⟨by decide +kernel, rfl⟩
theorem db10_15 : Dec jdk_43_method_13_code 15 (.aload_n 0) 1 16 := ⟨by decide +kernel, rfl⟩
theorem db10_16 : Dec jdk_43_method_13_code 16 (.iload_n 2) 1 17 := ⟨by decide +kernel, rfl⟩
theorem db10_17 : Dec jdk_43_method_13_code 17 (.baload) 1 18 := ⟨by decide +kernel, rfl⟩
theorem db10_18 : Dec jdk_43_method_13_code 18 (.aload_n 1) 1 19 := ⟨by decide +kernel, rfl⟩
theorem db10_19 : Dec jdk_43_method_13_code 19 (.iload_n 2) 1 20 := ⟨by decide +kernel, rfl⟩
theorem db10_20 : Dec jdk_43_method_13_code 20 (.baload) 1 21 := ⟨by decide +kernel, rfl⟩
theorem db10_21 : DecJ jdk_43_method_13_code 21 (.if_icmp .eq 5) (5) 24 26 := ⟨by decide +kernel, rfl, by decide, by decide⟩
theorem db10_26 : Dec jdk_43_method_13_code 26 (.iinc 2 1) 3 29 := ⟨by decide +kernel, rfl⟩
theorem db10_29 : DecJ jdk_43_method_13_code 29 (.goto (-20)) (-20) 32 9 := ⟨by decide +kernel, rfl, by decide, by decide⟩
theorem db10_24 : Dec jdk_43_method_13_code 24 (.iconst 0) 1 25 := ⟨by decide +kernel, rfl⟩
theorem db10_25 : Dec jdk_43_method_13_code 25 (.ireturn) 1 26 := ⟨by decide +kernel, rfl⟩
theorem db10_0 : Dec jdk_43_method_13_code 0 (.aload_n 0) 1 1 := ⟨by decide +kernel, rfl⟩
theorem db10_1 : Dec jdk_43_method_13_code 1 (.arraylength) 1 2 := ⟨by decide +kernel, rfl⟩
theorem db10_2 : Dec jdk_43_method_13_code 2 (.aload_n 1) 1 3 := ⟨by decide +kernel, rfl⟩
theorem db10_3 : Dec jdk_43_method_13_code 3 (.arraylength) 1 4 := ⟨by decide +kernel, rfl⟩
theorem db10_4 : DecJ jdk_43_method_13_code 4 (.if_icmp .ne 30) (30) 7 34 := ⟨by decide +kernel, rfl, by decide, by decide⟩
theorem db10_34 : Dec jdk_43_method_13_code 34 (.iconst 0) 1 35 := ⟨by decide +kernel, rfl⟩
theorem db10_35 : Dec jdk_43_method_13_code 35 (.ireturn) 1 36 := ⟨by decide +kernel, rfl⟩
theorem db10_7 : Dec jdk_43_method_13_code 7 (.iconst 0) 1 8 := ⟨by decide +kernel, rfl⟩
theorem db10_8 : Dec jdk_43_method_13_code 8 (.istore_n 2) 1 9 := ⟨by decide +kernel, rfl⟩
theorem db11_0 : Dec jdk_42_method_66_code 0 (.aload_n 0) 1 1 := ⟨by decide +kernel, rfl⟩
theorem db11_1 : Dec jdk_42_method_66_code 1 (.aload_n 1) 1 2 := ⟨by decide +kernel, rfl⟩
theorem db11_2 : DecJ jdk_42_method_66_code 2 (.if_acmp .ne 5) (5) 5 7 := ⟨by decide +kernel, rfl, by decide, by decide⟩
theorem db11_5 : Dec jdk_42_method_66_code 5 (.iconst 1) 1 6 := ⟨by decide +kernel, rfl⟩
theorem db11_6 : Dec jdk_42_method_66_code 6 (.ireturn) 1 7 := ⟨by decide +kernel, rfl⟩
theorem db11_7 : Dec jdk_42_method_66_code 7 (.aload_n 1) 1 8 := ⟨by decide +kernel, rfl⟩
theorem db11_8 : Dec jdk_42_method_66_code 8 (.instanceof 10) 3 11 := ⟨by decide +kernel, rfl⟩
theorem db11_11 : DecJ jdk_42_method_66_code 11 (.ifCond .eq 43) (43) 14 54 := ⟨by decide +kernel, rfl, by decide, by decide⟩
theorem db11_14 : Dec jdk_42_method_66_code 14 (.aload_n 1) 1 15 := ⟨by decide +kernel, rfl⟩
theorem db11_15 : Dec jdk_42_method_66_code 15 (.checkcast 10) 3 18 := ⟨by decide +kernel, rfl⟩
theorem db11_18 : Dec jdk_42_method_66_code 18 (.astore_n 2) 1 19 := ⟨by decide +kernel, rfl⟩
theorem db11_19 : Dec jdk_42_method_66_code 19 (.getstatic 38) 3 22 := ⟨by decide +kernel, rfl⟩
theorem db11_22 : DecJ jdk_42_method_66_code 22 (.ifCond .eq 14) (14) 25 36 := ⟨by decide +kernel, rfl, by decide, by decide⟩
theorem db11_25 : Dec jdk_42_method_66_code 25 (.aload_n 0) 1 26 := ⟨by decide +kernel, rfl⟩
theorem db11_26 : Dec jdk_42_method_66_code 26 (.getfield 15) 3 29 := ⟨by decide +kernel, rfl⟩
theorem db11_29 : Dec jdk_42_method_66_code 29 (.aload_n 2) 1 30 := ⟨by decide +kernel, rfl⟩
theorem db11_30 : Dec jdk_42_method_66_code 30 (.getfield 15) 3 33 := ⟨by decide +kernel, rfl⟩
theorem db11_33 : DecJ jdk_42_method_66_code 33 (.if_icmp .ne 21) (21) 36 54 := ⟨by decide +kernel, rfl, by decide, by decide⟩
theorem db11_54 : Dec jdk_42_method_66_code 54 (.iconst 0) 1 55 := ⟨by decide +kernel, rfl⟩
theorem db11_55 : Dec jdk_42_method_66_code 55 (.ireturn) 1 56 := ⟨by decide +kernel, rfl⟩
theorem db11_36 : Dec jdk_42_method_66_code 36 (.aload_n 0) 1 37 := ⟨by decide +kernel, rfl⟩
theorem db11_37 : Dec jdk_42_method_66_code 37 (.getfield 9) 3 40 := ⟨by decide +kernel, rfl⟩
theorem db11_40 : Dec jdk_42_method_66_code 40 (.aload_n 2) 1 41 := ⟨by decide +kernel, rfl⟩
theorem db11_41 : Dec jdk_42_method_66_code 41 (.getfield 9) 3 44 := ⟨by decide +kernel, rfl⟩
theorem db11_44 : Dec jdk_42_method_66_code 44 (.invokestatic 541) 3 47 := ⟨by decide +kernel, rfl⟩
theorem db11_47 : DecJ jdk_42_method_66_code 47 (.ifCond .eq 7) (7) 50 54 := ⟨by decide +kernel, rfl, by decide, by decide⟩
theorem db11_50 : Dec jdk_42_method_66_code 50 (.iconst 1) 1 51 := ⟨by decide +kernel, rfl⟩
theorem db11_51 : DecJ jdk_42_method_66_code 51 (.goto 4) (4) 54 55 := ⟨by decide +kernel, rfl, by decide, by decide⟩
theorem db3_8 : Dec jdk_42_method_149_code 8 (.aload_n 0) 1 9 := ⟨by decide +kernel, rfl⟩
theorem db3_9 : Dec jdk_42_method_149_code 9 (.ldc 7) 2 11 := ⟨by decide +kernel, rfl⟩
theorem db3_11 : Dec jdk_42_method_149_code 11 (.getfield 9) 3 14 := ⟨by decide +kernel, rfl⟩
theorem db3_14 : Dec jdk_42_method_149_code 14 (.putfield 9) 3 17 := ⟨by decide +kernel, rfl⟩
theorem db3_17 : Dec jdk_42_method_149_code 17 (.aload_n 0) 1 18 := ⟨by decide +kernel, rfl⟩
theorem db3_18 : Dec jdk_42_method_149_code 18 (.ldc 7) 2 20 := ⟨by decide +kernel, rfl⟩
theorem db3_20 : Dec jdk_42_method_149_code 20 (.getfield 15) 3 23 := ⟨by decide +kernel, rfl⟩
theorem db3_23 : Dec jdk_42_method_149_code 23 (.putfield 15) 3 26 := ⟨by decide +kernel, rfl⟩
theorem db3_26 : Dec jdk_42_method_149_code 26 (.return_) 1 27 := ⟨by decide +kernel, rfl⟩
theorem db12_0 : Dec method_2_code 0 (.iload_n 1) 1 1 := ⟨by decide +kernel, rfl⟩
theorem db12_1 : Dec method_2_code 1 (.newarray .char) 2 3 := ⟨by decide +kernel, rfl⟩
theorem db12_3 : Dec method_2_code 3 (.astore_n 2) 1 4 := ⟨by decide +kernel, rfl⟩
theorem db12_167 : Dec method_2_code 167 (.aload_n 2) 1 168 := ⟨by decide +kernel, rfl⟩
theorem db12_168 : Dec method_2_code 168 (.areturn) 1 169 := ⟨by decide +kernel, rfl⟩
theorem db12_153 : Dec method_2_code 153 (.iload_n 1) 1 154 := ⟨by decide +kernel, rfl⟩
theorem db12_154 : Dec method_2_code 154 (.bipush 12) 2 156 := ⟨by decide +kernel, rfl⟩
theorem db12_156 : DecJ method_2_code 156 (.if_icmp .le 11) (11) 159 167 := ⟨by decide +kernel, rfl, by decide, by decide⟩
theorem db12_159 : Dec method_2_code 159 (.aload_n 2) 1 160 := ⟨by decide +kernel, rfl⟩
theorem db12_160 : Dec method_2_code 160 (.bipush 12) 2 162 := ⟨by decide +kernel, rfl⟩
theorem db12_162 : Dec method_2_code 162 (.aload_n 0) 1 163 := ⟨by decide +kernel, rfl⟩
theorem db12_163 : Dec method_2_code 163 (.bipush 12) 2 165 := ⟨by decide +kernel, rfl⟩
theorem db12_165 : Dec method_2_code 165 (.caload) 1 166 := ⟨by decide +kernel, rfl⟩
theorem db12_166 : Dec method_2_code 166 (.castore) 1 167 := ⟨by decide +kernel, rfl⟩
theorem db12_139 : Dec method_2_code 139 (.iload_n 1) 1 140 := ⟨by decide +kernel, rfl⟩
theorem db12_140 : Dec method_2_code 140 (.bipush 11) 2 142 := ⟨by decide +kernel, rfl⟩
theorem db12_142 : DecJ method_2_code 142 (.if_icmp .le 11) (11) 145 153 := ⟨by decide +kernel, rfl, by decide, by decide⟩
theorem db12_145 : Dec method_2_code 145 (.aload_n 2) 1 146 := ⟨by decide +kernel, rfl⟩
theorem db12_146 : Dec method_2_code 146 (.bipush 11) 2 148 := ⟨by decide +kernel, rfl⟩
theorem db12_148 : Dec method_2_code 148 (.aload_n 0) 1 149 := ⟨by decide +kernel, rfl⟩
theorem db12_149 : Dec method_2_code 149 (.bipush 11) 2 151 := ⟨by decide +kernel, rfl⟩
theorem db12_151 : Dec method_2_code 151 (.caload) 1 152 := ⟨by decide +kernel, rfl⟩
theorem db12_152 : Dec method_2_code 152 (.castore) 1 153 := ⟨by decide +kernel, rfl⟩
theorem db12_125 : Dec method_2_code 125 (.iload_n 1) 1 126 := ⟨by decide +kernel, rfl⟩
theorem db12_126 : Dec method_2_code 126 (.bipush 10) 2 128 := ⟨by decide +kernel, rfl⟩
theorem db12_128 : DecJ method_2_code 128 (.if_icmp .le 11) (11) 131 139 := ⟨by decide +kernel, rfl, by decide, by decide⟩
theorem db12_131 : Dec method_2_code 131 (.aload_n 2) 1 132 := ⟨by decide +kernel, rfl⟩
theorem db12_132 : Dec method_2_code 132 (.bipush 10) 2 134 := ⟨by decide +kernel, rfl⟩
theorem db12_134 : Dec method_2_code 134 (.aload_n 0) 1 135 := ⟨by decide +kernel, rfl⟩
theorem db12_135 : Dec method_2_code 135 (.bipush 10) 2 137 := ⟨by decide +kernel, rfl⟩
theorem db12_137 : Dec method_2_code 137 (.caload) 1 138 := ⟨by decide +kernel, rfl⟩
theorem db12_138 : Dec method_2_code 138 (.castore) 1 139 := ⟨by decide +kernel, rfl⟩
theorem db12_111 : Dec method_2_code 111 (.iload_n 1) 1 112 := ⟨by decide +kernel, rfl⟩
theorem db12_112 : Dec method_2_code 112 (.bipush 9) 2 114 := ⟨by decide +kernel, rfl⟩
theorem db12_114 : DecJ method_2_code 114 (.if_icmp .le 11) (11) 117 125 := ⟨by decide +kernel, rfl, by decide, by decide⟩
theorem db12_117 : Dec method_2_code 117 (.aload_n 2) 1 118 := ⟨by decide +kernel, rfl⟩
theorem db12_118 : Dec method_2_code 118 (.bipush 9) 2 120 := ⟨by decide +kernel, rfl⟩
theorem db12_120 : Dec method_2_code 120 (.aload_n 0) 1 121 := ⟨by decide +kernel, rfl⟩
theorem db12_121 : Dec method_2_code 121 (.bipush 9) 2 123 := ⟨by decide +kernel, rfl⟩
theorem db12_123 : Dec method_2_code 123 (.caload) 1 124 := ⟨by decide +kernel, rfl⟩
theorem db12_124 : Dec method_2_code 124 (.castore) 1 125 := ⟨by decide +kernel, rfl⟩
theorem db12_97 : Dec method_2_code 97 (.iload_n 1) 1 98 := ⟨by decide +kernel, rfl⟩
theorem db12_98 : Dec method_2_code 98 (.bipush 8) 2 100 := ⟨by decide +kernel, rfl⟩
theorem db12_100 : DecJ method_2_code 100 (.if_icmp .le 11) (11) 103 111 := ⟨by decide +kernel, rfl, by decide, by decide⟩
theorem db12_103 : Dec method_2_code 103 (.aload_n 2) 1 104 := ⟨by decide +kernel, rfl⟩
theorem db12_104 : Dec method_2_code 104 (.bipush 8) 2 106 := ⟨by decide +kernel, rfl⟩
theorem db12_106 : Dec method_2_code 106 (.aload_n 0) 1 107 := ⟨by decide +kernel, rfl⟩
theorem db12_107 : Dec method_2_code 107 (.bipush 8) 2 109 := ⟨by decide +kernel, rfl⟩
theorem db12_109 : Dec method_2_code 109 (.caload) 1 110 := ⟨by decide +kernel, rfl⟩
theorem db12_110 : Dec method_2_code 110 (.castore) 1 111 := ⟨by decide +kernel, rfl⟩
theorem db12_83 : Dec method_2_code 83 (.iload_n 1) 1 84 := ⟨by decide +kernel, rfl⟩
theorem db12_84 : Dec method_2_code 84 (.bipush 7) 2 86 := ⟨by decide +kernel, rfl⟩
theorem db12_86 : DecJ method_2_code 86 (.if_icmp .le 11) (11) 89 97 := ⟨by decide +kernel, rfl, by decide, by decide⟩
theorem db12_89 : Dec method_2_code 89 (.aload_n 2) 1 90 := ⟨by decide +kernel, rfl⟩
theorem db12_90 : Dec method_2_code 90 (.bipush 7) 2 92 := ⟨by decide +kernel, rfl⟩
theorem db12_92 : Dec method_2_code 92 (.aload_n 0) 1 93 := ⟨by decide +kernel, rfl⟩
theorem db12_93 : Dec method_2_code 93 (.bipush 7) 2 95 := ⟨by decide +kernel, rfl⟩
theorem db12_95 : Dec method_2_code 95 (.caload) 1 96 := ⟨by decide +kernel, rfl⟩
theorem db12_96 : Dec method_2_code 96 (.castore) 1 97 := ⟨by decide +kernel, rfl⟩
theorem db12_69 : Dec method_2_code 69 (.iload_n 1) 1 70 := ⟨by decide +kernel, rfl⟩
theorem db12_70 : Dec method_2_code 70 (.bipush 6) 2 72 := ⟨by decide +kernel, rfl⟩
theorem db12_72 : DecJ method_2_code 72 (.if_icmp .le 11) (11) 75 83 := ⟨by decide +kernel, rfl, by decide, by decide⟩
theorem db12_75 : Dec method_2_code 75 (.aload_n 2) 1 76 := ⟨by decide +kernel, rfl⟩
theorem db12_76 : Dec method_2_code 76 (.bipush 6) 2 78 := ⟨by decide +kernel, rfl⟩
theorem db12_78 : Dec method_2_code 78 (.aload_n 0) 1 79 := ⟨by decide +kernel, rfl⟩
theorem db12_79 : Dec method_2_code 79 (.bipush 6) 2 81 := ⟨by decide +kernel, rfl⟩
theorem db12_81 : Dec method_2_code 81 (.caload) 1 82 := ⟨by decide +kernel, rfl⟩
theorem db12_82 : Dec method_2_code 82 (.castore) 1 83 := ⟨by decide +kernel, rfl⟩
theorem db12_58 : Dec method_2_code 58 (.iload_n 1) 1 59 := ⟨by decide +kernel, rfl⟩
theorem db12_59 : Dec method_2_code 59 (.iconst 5) 1 60 := ⟨by decide +kernel, rfl⟩
theorem db12_60 : DecJ method_2_code 60 (.if_icmp .le 9) (9) 63 69 := ⟨by decide +kernel, rfl, by decide, by decide⟩
theorem db12_63 : Dec method_2_code 63 (.aload_n 2) 1 64 := ⟨by decide +kernel, rfl⟩
theorem db12_64 : Dec method_2_code 64 (.iconst 5) 1 65 := ⟨by decide +kernel, rfl⟩
theorem db12_65 : Dec method_2_code 65 (.aload_n 0) 1 66 := ⟨by decide +kernel, rfl⟩
theorem db12_66 : Dec method_2_code 66 (.iconst 5) 1 67 := ⟨by decide +kernel, rfl⟩
theorem db12_67 : Dec method_2_code 67 (.caload) 1 68 := ⟨by decide +kernel, rfl⟩
theorem db12_68 : Dec method_2_code 68 (.castore) 1 69 := ⟨by decide +kernel, rfl⟩
theorem db12_47 : Dec method_2_code 47 (.iload_n 1) 1 48 := ⟨by decide +kernel, rfl⟩
theorem db12_48 : Dec method_2_code 48 (.iconst 4) 1 49 := ⟨by decide +kernel, rfl⟩
theorem db12_49 : DecJ method_2_code 49 (.if_icmp .le 9) (9) 52 58 := ⟨by decide +kernel, rfl, by decide, by decide⟩
theorem db12_52 : Dec method_2_code 52 (.aload_n 2) 1 53 := ⟨by decide +kernel, rfl⟩
theorem db12_53 : Dec method_2_code 53 (.iconst 4) 1 54 := ⟨by decide +kernel, rfl⟩
theorem db12_54 : Dec method_2_code 54 (.aload_n 0) 1 55 := ⟨by decide +kernel, rfl⟩
theorem db12_55 : Dec method_2_code 55 (.iconst 4) 1 56 := ⟨by decide +kernel, rfl⟩
theorem db12_56 : Dec method_2_code 56 (.caload) 1 57 := ⟨by decide +kernel, rfl⟩
theorem db12_57 : Dec method_2_code 57 (.castore) 1 58 := ⟨by decide +kernel, rfl⟩
theorem db12_36 : Dec method_2_code 36 (.iload_n 1) 1 37 := ⟨by decide +kernel, rfl⟩
theorem db12_37 : Dec method_2_code 37 (.iconst 3) 1 38 := ⟨by decide +kernel, rfl⟩
theorem db12_38 : DecJ method_2_code 38 (.if_icmp .le 9) (9) 41 47 := ⟨by decide +kernel, rfl, by decide, by decide⟩
theorem db12_41 : Dec method_2_code 41 (.aload_n 2) 1 42 := ⟨by decide +kernel, rfl⟩
theorem db12_42 : Dec method_2_code 42 (.iconst 3) 1 43 := ⟨by decide +kernel, rfl⟩
theorem db12_43 : Dec method_2_code 43 (.aload_n 0) 1 44 := ⟨by decide +kernel, rfl⟩
theorem db12_44 : Dec method_2_code 44 (.iconst 3) 1 45 := ⟨by decide +kernel, rfl⟩
theorem db12_45 : Dec method_2_code 45 (.caload) 1 46 := ⟨by decide +kernel, rfl⟩
theorem db12_46 : Dec method_2_code 46 (.castore) 1 47 := ⟨by decide +kernel, rfl⟩
theorem db12_25 : Dec method_2_code 25 (.iload_n 1) 1 26 := ⟨by decide +kernel, rfl⟩
theorem db12_26 : Dec method_2_code 26 (.iconst 2) 1 27 := ⟨by decide +kernel, rfl⟩
theorem db12_27 : DecJ method_2_code 27 (.if_icmp .le 9) (9) 30 36 := ⟨by decide +kernel, rfl, by decide, by decide⟩
theorem db12_30 : Dec method_2_code 30 (.aload_n 2) 1 31 := ⟨by decide +kernel, rfl⟩
theorem db12_31 : Dec method_2_code 31 (.iconst 2) 1 32 := ⟨by decide +kernel, rfl⟩
theorem db12_32 : Dec method_2_code 32 (.aload_n 0) 1 33 := ⟨by decide +kernel, rfl⟩
theorem db12_33 : Dec method_2_code 33 (.iconst 2) 1 34 := ⟨by decide +kernel, rfl⟩
theorem db12_34 : Dec method_2_code 34 (.caload) 1 35 := ⟨by decide +kernel, rfl⟩
theorem db12_35 : Dec method_2_code 35 (.castore) 1 36 := ⟨by decide +kernel, rfl⟩
theorem db12_14 : Dec method_2_code 14 (.iload_n 1) 1 15 := ⟨by decide +kernel, rfl⟩
theorem db12_15 : Dec method_2_code 15 (.iconst 1) 1 16 := ⟨by decide +kernel, rfl⟩
theorem db12_16 : DecJ method_2_code 16 (.if_icmp .le 9) (9) 19 25 := ⟨by decide +kernel, rfl, by decide, by decide⟩
theorem db12_19 : Dec method_2_code 19 (.aload_n 2) 1 20 := ⟨by decide +kernel, rfl⟩
theorem db12_20 : Dec method_2_code 20 (.iconst 1) 1 21 := ⟨by decide +kernel, rfl⟩
theorem db12_21 : Dec method_2_code 21 (.aload_n 0) 1 22 := ⟨by decide +kernel, rfl⟩
theorem db12_22 : Dec method_2_code 22 (.iconst 1) 1 23 := ⟨by decide +kernel, rfl⟩
theorem db12_23 : Dec method_2_code 23 (.caload) 1 24 := ⟨by decide +kernel, rfl⟩
theorem db12_24 : Dec method_2_code 24 (.castore) 1 25 := ⟨by decide +kernel, rfl⟩
theorem db12_4 : Dec method_2_code 4 (.iload_n 1) 1 5 := ⟨by decide +kernel, rfl⟩
theorem db12_5 : DecJ method_2_code 5 (.ifCond .le 9) (9) 8 14 := ⟨by decide +kernel, rfl, by decide, by decide⟩
theorem db12_8 : Dec method_2_code 8 (.aload_n 2) 1 9 := ⟨by decide +kernel, rfl⟩
theorem db12_9 : Dec method_2_code 9 (.iconst 0) 1 10 := ⟨by decide +kernel, rfl⟩
theorem db12_10 : Dec method_2_code 10 (.aload_n 0) 1 11 := ⟨by decide +kernel, rfl⟩
theorem db12_11 : Dec method_2_code 11 (.iconst 0) 1 12 := ⟨by decide +kernel, rfl⟩
theorem db12_12 : Dec method_2_code 12 (.caload) 1 13 := ⟨by decide +kernel, rfl⟩
theorem db12_13 : Dec method_2_code 13 (.castore) 1 14 := ⟨by decide +kernel, rfl⟩
theorem db13_0 : Dec prog_98_method_1_code 0 (.getstatic 7) 3 3 := ⟨by decide +kernel, rfl⟩
theorem db13_3 : Dec prog_98_method_1_code 3 (.invokevirtual 11) 3 6 := ⟨by decide +kernel, rfl⟩
theorem db13_6 : Dec prog_98_method_1_code 6 (.checkcast 12) 3 9 := ⟨by decide +kernel, rfl⟩
theorem db13_9 : Dec prog_98_method_1_code 9 (.areturn) 1 10 := ⟨by decide +kernel, rfl⟩
theorem db14_0 : Dec prog_98_method_4_code 0 (.invokestatic 30) 3 3 := ⟨by decide +kernel, rfl⟩
theorem db14_3 : Dec prog_98_method_4_code 3 (.astore_n 1) 1 4 := ⟨by decide +kernel, rfl⟩
theorem db14_4 : Dec prog_98_method_4_code 4 (.aload_n 1) 1 5 := ⟨by decide +kernel, rfl⟩
theorem db14_5 : Dec prog_98_method_4_code 5 (.arraylength) 1 6 := ⟨by decide +kernel, rfl⟩
theorem db14_6 : Dec prog_98_method_4_code 6 (.istore_n 2) 1 7 := ⟨by decide +kernel, rfl⟩
theorem db14_7 : Dec prog_98_method_4_code 7 (.iconst 0) 1 8 := ⟨by decide +kernel, rfl⟩
theorem db14_8 : Dec prog_98_method_4_code 8 (.istore_n 3) 1 9 := ⟨by decide +kernel, rfl⟩
theorem db14_9 : Dec prog_98_method_4_code 9 (.iload_n 3) 1 10 := ⟨by decide +kernel, rfl⟩
theorem db14_10 : Dec prog_98_method_4_code 10 (.iload_n 2) 1 11 := ⟨by decide +kernel, rfl⟩
theorem db14_11 : DecJ prog_98_method_4_code 11 (.if_icmp .ge 29) (29) 14 40 := ⟨by decide +kernel, rfl, by decide, by decide⟩
theorem db14_14 : Dec prog_98_method_4_code 14 (.aload_n 1) 1 15 := ⟨by decide +kernel, rfl⟩
theorem db14_15 : Dec prog_98_method_4_code 15 (.iload_n 3) 1 16 := ⟨by decide +kernel, rfl⟩
theorem db14_16 : Dec prog_98_method_4_code 16 (.aaload) 1 17 := ⟨by decide +kernel, rfl⟩
theorem db14_17 : Dec prog_98_method_4_code 17 (.astore 4) 2 19 := ⟨by decide +kernel, rfl⟩
theorem db14_19 : Dec prog_98_method_4_code 19 (.aload 4) 2 21 := ⟨by decide +kernel, rfl⟩
theorem db14_21 : Dec prog_98_method_4_code 21 (.getfield 26) 3 24 := ⟨by decide +kernel, rfl⟩
theorem db14_24 : Dec prog_98_method_4_code 24 (.aload_n 0) 1 25 := ⟨by decide +kernel, rfl⟩
theorem db14_25 : Dec prog_98_method_4_code 25 (.invokevirtual 34) 3 28 := ⟨by decide +kernel, rfl⟩
theorem db14_28 : DecJ prog_98_method_4_code 28 (.ifCond .eq 6) (6) 31 34 := ⟨by decide +kernel, rfl, by decide, by decide⟩
theorem db14_31 : Dec prog_98_method_4_code 31 (.aload 4) 2 33 := ⟨by decide +kernel, rfl⟩
theorem db14_33 : Dec prog_98_method_4_code 33 (.areturn) 1 34 := ⟨by decide +kernel, rfl⟩
theorem db14_34 : Dec prog_98_method_4_code 34 (.iinc 3 1) 3 37 := ⟨by decide +kernel, rfl⟩
theorem db14_37 : DecJ prog_98_method_4_code 37 (.goto (-28)) (-28) 40 9 := ⟨by decide +kernel, rfl, by decide, by decide⟩
theorem db14_40 : Dec prog_98_method_4_code 40 (.aconst_null) 1 41 := ⟨by decide +kernel, rfl⟩
theorem db14_41 : Dec prog_98_method_4_code 41 (.areturn) 1 42 := ⟨by decide +kernel, rfl⟩
theorem dL_251 : Dec code 251 (.aload 11) 2 253 := ⟨by decide +kernel, rfl⟩
theorem dL_253 : Dec code 253 (.invokestatic 25) 3 256 := ⟨by decide +kernel, rfl⟩
theorem dL_256 : Dec code 256 (.astore 13) 2 258 := ⟨by decide +kernel, rfl⟩
theorem dL_258 : Dec code 258 (.iload 12) 2 260 := ⟨by decide +kernel, rfl⟩
theorem dL_260 : DecJ code 260 (.ifCond .eq 19) (19) 263 279 := ⟨by decide +kernel, rfl, by decide, by decide⟩
theorem dL_263 : Dec code 263 (.aload 13) 2 265 := ⟨by decide +kernel, rfl⟩
theorem dL_265 : Dec code 265 (.getstatic 31) 3 268 := ⟨by decide +kernel, rfl⟩
theorem dL_268 : DecJ code 268 (.if_acmp .ne 7) (7) 271 275 := ⟨by decide +kernel, rfl, by decide, by decide⟩
theorem dL_271 : Dec code 271 (.iconst 1) 1 272 := ⟨by decide +kernel, rfl⟩
theorem dL_272 : DecJ code 272 (.goto 17) (17) 275 289 := ⟨by decide +kernel, rfl, by decide, by decide⟩
theorem dL_289 : Dec code 289 (.ireturn) 1 290 := ⟨by decide +kernel, rfl⟩
theorem dL_279 : Dec code 279 (.aload 13) 2 281 := ⟨by decide +kernel, rfl⟩
theorem dL_281 : DecJ code 281 (.ifnonnull 7) (7) 284 288 := ⟨by decide +kernel, rfl, by decide, by decide⟩
theorem dL_284 : Dec code 284 (.iconst 1) 1 285 := ⟨by decide +kernel, rfl⟩
theorem dL_285 : DecJ code 285 (.goto 4) (4) 288 289 := ⟨by decide +kernel, rfl, by decide, by decide⟩
theorem dL_201 : Dec code 201 (.iload 7) 2 203 := ⟨by decide +kernel, rfl⟩
theorem dL_203 : Dec code 203 (.bipush 12) 2 205 := ⟨by decide +kernel, rfl⟩
theorem dL_205 : DecJ code 205 (.if_icmp .eq 9) (9) 208 214 := ⟨by decide +kernel, rfl, by decide, by decide⟩
theorem dL_214 : Dec code 214 (.iload 8) 2 216 := ⟨by decide +kernel, rfl⟩
theorem dL_216 : DecJ code 216 (.ifCond .eq 10) (10) 219 226 := ⟨by decide +kernel, rfl, by decide, by decide⟩
theorem dL_226 : Dec code 226 (.iconst 1) 1 227 := ⟨by decide +kernel, rfl⟩
theorem dL_227 : Dec code 227 (.istore 12) 2 229 := ⟨by decide +kernel, rfl⟩
theorem dL_229 : DecJ code 229 (.goto 22) (22) 232 251 := ⟨by decide +kernel, rfl, by decide, by decide⟩
theorem dL_219 : Dec code 219 (.iload 9) 2 221 := ⟨by decide +kernel, rfl⟩
theorem dL_221 : Dec code 221 (.bipush 12) 2 223 := ⟨by decide +kernel, rfl⟩
theorem dL_223 : DecJ code 223 (.if_icmp .lt 9) (9) 226 232 := ⟨by decide +kernel, rfl, by decide, by decide⟩
theorem dL_232 : Dec code 232 (.iload 10) 2 234 := ⟨by decide +kernel, rfl⟩
theorem dL_234 : Dec code 234 (.aload 4) 2 236 := ⟨by decide +kernel, rfl⟩
theorem dL_236 : Dec code 236 (.iload 9) 2 238 := ⟨by decide +kernel, rfl⟩
theorem dL_238 : Dec code 238 (.invokevirtual 21) 3 241 := ⟨by decide +kernel, rfl⟩
theorem dL_241 : DecJ code 241 (.if_icmp .ne 7) (7) 244 248 := ⟨by decide +kernel, rfl, by decide, by decide⟩
theorem dL_248 : Dec code 248 (.iconst 0) 1 249 := ⟨by decide +kernel, rfl⟩
theorem dL_249 : Dec code 249 (.istore 12) 2 251 := ⟨by decide +kernel, rfl⟩
theorem dL_244 : Dec code 244 (.iconst 1) 1 245 := ⟨by decide +kernel, rfl⟩
theorem dL_245 : DecJ code 245 (.goto 4) (4) 248 249 := ⟨by decide +kernel, rfl, by decide, by decide⟩
theorem dL_208 : Dec code 208 (.iconst 0) 1 209 := ⟨by decide +kernel, rfl⟩
theorem dL_209 : Dec code 209 (.istore 12) 2 211 := ⟨by decide +kernel, rfl⟩
theorem dL_211 : DecJ code 211 (.goto 40) (40) 214 251 := ⟨by decide +kernel, rfl, by decide, by decide⟩
theorem dL_185 : Dec code 185 (.new 10) 3 188 := ⟨by decide +kernel, rfl⟩
theorem dL_188 : Dec code 188 (.dup) 1 189 := ⟨by decide +kernel, rfl⟩
theorem dL_189 : Dec code 189 (.aload 5) 2 191 := ⟨by decide +kernel, rfl⟩
theorem dL_191 : Dec code 191 (.iload 7) 2 193 := ⟨by decide +kernel, rfl⟩
theorem dL_193 : Dec code 193 (.invokestatic 12) 3 196 := ⟨by decide +kernel, rfl⟩
theorem dL_196 : Dec code 196 (.invokespecial 18) 3 199 := ⟨by decide +kernel, rfl⟩
theorem dL_199 : Dec code 199 (.astore 11) 2 201 := ⟨by decide +kernel, rfl⟩
theorem dL_0 : Dec code 0 (.ldc 7) 2 2 := ⟨by decide +kernel, rfl⟩
theorem dL_2 : Dec code 2 (.astore 4) 2 4 := ⟨by decide +kernel, rfl⟩
theorem dL_4 : Dec code 4 (.bipush 13) 2 6 := ⟨by decide +kernel, rfl⟩
theorem dL_6 : Dec code 6 (.newarray .char) 2 8 := ⟨by decide +kernel, rfl⟩
theorem dL_8 : Dec code 8 (.dup) 1 9 := ⟨by decide +kernel, rfl⟩
theorem dL_9 : Dec code 9 (.iconst 0) 1 10 := ⟨by decide +kernel, rfl⟩
theorem dL_10 : Dec code 10 (.bipush 65) 2 12 := ⟨by decide +kernel, rfl⟩
theorem dL_12 : Dec code 12 (.castore) 1 13 := ⟨by decide +kernel, rfl⟩
theorem dL_13 : Dec code 13 (.dup) 1 14 := ⟨by decide +kernel, rfl⟩
theorem dL_14 : Dec code 14 (.iconst 1) 1 15 := ⟨by decide +kernel, rfl⟩
theorem dL_15 : Dec code 15 (.bipush 115) 2 17 := ⟨by decide +kernel, rfl⟩
theorem dL_17 : Dec code 17 (.castore) 1 18 := ⟨by decide +kernel, rfl⟩
theorem dL_18 : Dec code 18 (.dup) 1 19 := ⟨by decide +kernel, rfl⟩
theorem dL_19 : Dec code 19 (.iconst 2) 1 20 := ⟨by decide +kernel, rfl⟩
theorem dL_20 : Dec code 20 (.bipush 115) 2 22 := ⟨by decide +kernel, rfl⟩
theorem dL_22 : Dec code 22 (.castore) 1 23 := ⟨by decide +kernel, rfl⟩
theorem dL_23 : Dec code 23 (.dup) 1 24 := ⟨by decide +kernel, rfl⟩
theorem dL_24 : Dec code 24 (.iconst 3) 1 25 := ⟨by decide +kernel, rfl⟩
theorem dL_25 : Dec code 25 (.bipush 101) 2 27 := ⟨by decide +kernel, rfl⟩
theorem dL_27 : Dec code 27 (.castore) 1 28 := ⟨by decide +kernel, rfl⟩
theorem dL_28 : Dec code 28 (.dup) 1 29 := ⟨by decide +kernel, rfl⟩
theorem dL_29 : Dec code 29 (.iconst 4) 1 30 := ⟨by decide +kernel, rfl⟩
theorem dL_30 : Dec code 30 (.bipush 114) 2 32 := ⟨by decide +kernel, rfl⟩
theorem dL_32 : Dec code 32 (.castore) 1 33 := ⟨by decide +kernel, rfl⟩
theorem dL_33 : Dec code 33 (.dup) 1 34 := ⟨by decide +kernel, rfl⟩
theorem dL_34 : Dec code 34 (.iconst 5) 1 35 := ⟨by decide +kernel, rfl⟩
theorem dL_35 : Dec code 35 (.bipush 116) 2 37 := ⟨by decide +kernel, rfl⟩
theorem dL_37 : Dec code 37 (.castore) 1 38 := ⟨by decide +kernel, rfl⟩
theorem dL_38 : Dec code 38 (.dup) 1 39 := ⟨by decide +kernel, rfl⟩
theorem dL_39 : Dec code 39 (.bipush 6) 2 41 := ⟨by decide +kernel, rfl⟩
theorem dL_41 : Dec code 41 (.bipush 105) 2 43 := ⟨by decide +kernel, rfl⟩
theorem dL_43 : Dec code 43 (.castore) 1 44 := ⟨by decide +kernel, rfl⟩
theorem dL_44 : Dec code 44 (.dup) 1 45 := ⟨by decide +kernel, rfl⟩
theorem dL_45 : Dec code 45 (.bipush 7) 2 47 := ⟨by decide +kernel, rfl⟩
theorem dL_47 : Dec code 47 (.bipush 111) 2 49 := ⟨by decide +kernel, rfl⟩
theorem dL_49 : Dec code 49 (.castore) 1 50 := ⟨by decide +kernel, rfl⟩
theorem dL_50 : Dec code 50 (.dup) 1 51 := ⟨by decide +kernel, rfl⟩
theorem dL_51 : Dec code 51 (.bipush 8) 2 53 := ⟨by decide +kernel, rfl⟩
theorem dL_53 : Dec code 53 (.bipush 110) 2 55 := ⟨by decide +kernel, rfl⟩
theorem dL_55 : Dec code 55 (.castore) 1 56 := ⟨by decide +kernel, rfl⟩
theorem dL_56 : Dec code 56 (.dup) 1 57 := ⟨by decide +kernel, rfl⟩
theorem dL_57 : Dec code 57 (.bipush 9) 2 59 := ⟨by decide +kernel, rfl⟩
theorem dL_59 : Dec code 59 (.bipush 64) 2 61 := ⟨by decide +kernel, rfl⟩
theorem dL_61 : Dec code 61 (.castore) 1 62 := ⟨by decide +kernel, rfl⟩
theorem dL_62 : Dec code 62 (.dup) 1 63 := ⟨by decide +kernel, rfl⟩
theorem dL_63 : Dec code 63 (.bipush 10) 2 65 := ⟨by decide +kernel, rfl⟩
theorem dL_65 : Dec code 65 (.bipush 73) 2 67 := ⟨by decide +kernel, rfl⟩
theorem dL_67 : Dec code 67 (.castore) 1 68 := ⟨by decide +kernel, rfl⟩
theorem dL_68 : Dec code 68 (.dup) 1 69 := ⟨by decide +kernel, rfl⟩
theorem dL_69 : Dec code 69 (.bipush 11) 2 71 := ⟨by decide +kernel, rfl⟩
theorem dL_71 : Dec code 71 (.bipush 68) 2 73 := ⟨by decide +kernel, rfl⟩
theorem dL_73 : Dec code 73 (.castore) 1 74 := ⟨by decide +kernel, rfl⟩
theorem dL_74 : Dec code 74 (.dup) 1 75 := ⟨by decide +kernel, rfl⟩
theorem dL_75 : Dec code 75 (.bipush 12) 2 77 := ⟨by decide +kernel, rfl⟩
theorem dL_77 : Dec code 77 (.iload_n 3) 1 78 := ⟨by decide +kernel, rfl⟩
theorem dL_78 : Dec code 78 (.sipush 255) 3 81 := ⟨by decide +kernel, rfl⟩
theorem dL_81 : Dec code 81 (.iand) 1 82 := ⟨by decide +kernel, rfl⟩
theorem dL_82 : Dec code 82 (.i2c) 1 83 := ⟨by decide +kernel, rfl⟩
theorem dL_83 : Dec code 83 (.castore) 1 84 := ⟨by decide +kernel, rfl⟩
theorem dL_84 : Dec code 84 (.astore 5) 2 86 := ⟨by decide +kernel, rfl⟩
theorem dL_86 : Dec code 86 (.bipush 8) 2 88 := ⟨by decide +kernel, rfl⟩
theorem dL_88 : Dec code 88 (.newarray .int) 2 90 := ⟨by decide +kernel, rfl⟩
theorem dL_90 : Dec code 90 (.dup) 1 91 := ⟨by decide +kernel, rfl⟩
theorem dL_91 : Dec code 91 (.iconst 0) 1 92 := ⟨by decide +kernel, rfl⟩
theorem dL_92 : Dec code 92 (.bipush 12) 2 94 := ⟨by decide +kernel, rfl⟩
theorem dL_94 : Dec code 94 (.iastore) 1 95 := ⟨by decide +kernel, rfl⟩
theorem dL_95 : Dec code 95 (.dup) 1 96 := ⟨by decide +kernel, rfl⟩
theorem dL_96 : Dec code 96 (.iconst 1) 1 97 := ⟨by decide +kernel, rfl⟩
theorem dL_97 : Dec code 97 (.bipush 12) 2 99 := ⟨by decide +kernel, rfl⟩
theorem dL_99 : Dec code 99 (.iastore) 1 100 := ⟨by decide +kernel, rfl⟩
theorem dL_100 : Dec code 100 (.dup) 1 101 := ⟨by decide +kernel, rfl⟩
theorem dL_101 : Dec code 101 (.iconst 2) 1 102 := ⟨by decide +kernel, rfl⟩
theorem dL_102 : Dec code 102 (.bipush 12) 2 104 := ⟨by decide +kernel, rfl⟩
theorem dL_104 : Dec code 104 (.iastore) 1 105 := ⟨by decide +kernel, rfl⟩
theorem dL_105 : Dec code 105 (.dup) 1 106 := ⟨by decide +kernel, rfl⟩
theorem dL_106 : Dec code 106 (.iconst 3) 1 107 := ⟨by decide +kernel, rfl⟩
theorem dL_107 : Dec code 107 (.bipush 12) 2 109 := ⟨by decide +kernel, rfl⟩
theorem dL_109 : Dec code 109 (.iastore) 1 110 := ⟨by decide +kernel, rfl⟩
theorem dL_110 : Dec code 110 (.dup) 1 111 := ⟨by decide +kernel, rfl⟩
theorem dL_111 : Dec code 111 (.iconst 4) 1 112 := ⟨by decide +kernel, rfl⟩
theorem dL_112 : Dec code 112 (.bipush 11) 2 114 := ⟨by decide +kernel, rfl⟩
theorem dL_114 : Dec code 114 (.iastore) 1 115 := ⟨by decide +kernel, rfl⟩
theorem dL_115 : Dec code 115 (.dup) 1 116 := ⟨by decide +kernel, rfl⟩
theorem dL_116 : Dec code 116 (.iconst 5) 1 117 := ⟨by decide +kernel, rfl⟩
theorem dL_117 : Dec code 117 (.bipush 13) 2 119 := ⟨by decide +kernel, rfl⟩
theorem dL_119 : Dec code 119 (.iastore) 1 120 := ⟨by decide +kernel, rfl⟩
theorem dL_120 : Dec code 120 (.dup) 1 121 := ⟨by decide +kernel, rfl⟩
theorem dL_121 : Dec code 121 (.bipush 6) 2 123 := ⟨by decide +kernel, rfl⟩
theorem dL_123 : Dec code 123 (.iconst 0) 1 124 := ⟨by decide +kernel, rfl⟩
theorem dL_124 : Dec code 124 (.iastore) 1 125 := ⟨by decide +kernel, rfl⟩
theorem dL_125 : Dec code 125 (.dup) 1 126 := ⟨by decide +kernel, rfl⟩
theorem dL_126 : Dec code 126 (.bipush 7) 2 128 := ⟨by decide +kernel, rfl⟩
theorem dL_128 : Dec code 128 (.bipush 12) 2 130 := ⟨by decide +kernel, rfl⟩
theorem dL_130 : Dec code 130 (.iastore) 1 131 := ⟨by decide +kernel, rfl⟩
theorem dL_131 : Dec code 131 (.astore 6) 2 133 := ⟨by decide +kernel, rfl⟩
theorem dL_133 : Dec code 133 (.aload 6) 2 135 := ⟨by decide +kernel, rfl⟩
theorem dL_135 : Dec code 135 (.iload_n 0) 1 136 := ⟨by decide +kernel, rfl⟩
theorem dL_136 : Dec code 136 (.bipush 7) 2 138 := ⟨by decide +kernel, rfl⟩
theorem dL_138 : Dec code 138 (.iand) 1 139 := ⟨by decide +kernel, rfl⟩
theorem dL_139 : Dec code 139 (.iaload) 1 140 := ⟨by decide +kernel, rfl⟩
theorem dL_156 : Dec code 156 (.iload_n 1) 1 157 := ⟨by decide +kernel, rfl⟩
theorem dL_157 : Dec code 157 (.ldc 9) 2 159 := ⟨by decide +kernel, rfl⟩
theorem dL_159 : Dec code 159 (.iand) 1 160 := ⟨by decide +kernel, rfl⟩
theorem dL_160 : Dec code 160 (.bipush 13) 2 162 := ⟨by decide +kernel, rfl⟩
theorem dL_162 : Dec code 162 (.irem) 1 163 := ⟨by decide +kernel, rfl⟩
theorem dL_163 : Dec code 163 (.istore 9) 2 165 := ⟨by decide +kernel, rfl⟩
theorem dL_165 : Dec code 165 (.iload_n 2) 1 166 := ⟨by decide +kernel, rfl⟩
theorem dL_166 : Dec code 166 (.sipush 255) 3 169 := ⟨by decide +kernel, rfl⟩
theorem dL_169 : Dec code 169 (.iand) 1 170 := ⟨by decide +kernel, rfl⟩
theorem dL_170 : Dec code 170 (.i2c) 1 171 := ⟨by decide +kernel, rfl⟩
theorem dL_171 : Dec code 171 (.istore 10) 2 173 := ⟨by decide +kernel, rfl⟩
theorem dL_173 : Dec code 173 (.iload 8) 2 175 := ⟨by decide +kernel, rfl⟩
theorem dL_175 : DecJ code 175 (.ifCond .eq 10) (10) 178 185 := ⟨by decide +kernel, rfl, by decide, by decide⟩
theorem dL_178 : Dec code 178 (.aload 5) 2 180 := ⟨by decide +kernel, rfl⟩
theorem dL_180 : Dec code 180 (.iload 9) 2 182 := ⟨by decide +kernel, rfl⟩
theorem dL_182 : Dec code 182 (.iload 10) 2 184 := ⟨by decide +kernel, rfl⟩
theorem dL_184 : Dec code 184 (.castore) 1 185 := ⟨by decide +kernel, rfl⟩
theorem dL_140 : Dec code 140 (.istore 7) 2 142 := ⟨by decide +kernel, rfl⟩
theorem dL_142 : Dec code 142 (.iload_n 0) 1 143 := ⟨by decide +kernel, rfl⟩
theorem dL_143 : Dec code 143 (.bipush 8) 2 145 := ⟨by decide +kernel, rfl⟩
theorem dL_145 : Dec code 145 (.iand) 1 146 := ⟨by decide +kernel, rfl⟩
theorem dL_146 : DecJ code 146 (.ifCond .eq 7) (7) 149 153 := ⟨by decide +kernel, rfl, by decide, by decide⟩
theorem dL_153 : Dec code 153 (.iconst 0) 1 154 := ⟨by decide +kernel, rfl⟩
theorem dL_154 : Dec code 154 (.istore 8) 2 156 := ⟨by decide +kernel, rfl⟩
theorem dL_149 : Dec code 149 (.iconst 1) 1 150 := ⟨by decide +kernel, rfl⟩
theorem dL_150 : DecJ code 150 (.goto 4) (4) 153 154 := ⟨by decide +kernel, rfl, by decide, by decide⟩
def Base (Z : State) (a0 : Array Value) (EL : List (String × Nat)) : Prop := (∀ d ∈ tables_1, d.before a0 Z = true) ∧ EW Z a0 EL ∧ (∃ z, Sta Z Z.heap ST "COMPACT_STRINGS" "Z" (.int z) ∧ ¬ z = 0) ∧ (∃ v, Sta Z Z.heap "jdk/internal/util/Preconditions" "SIOOBE_FORMATTER" "Ljava/util/function/BiFunction;" v ∧ v.isRef = true) ∧ True
section
variable {l : Launch} {Z : State} {a0 : Array Value} {EL : List (String × Nat)} {nw : Bool}
def Qcmp5 (Z : State) (h : Heap) (d : Addr) (cs : List Int32) : Value → Heap → Prop := fun v h' => Keep h h' [d] ∧ h'.size = h.size ∧ ((v = .int (Int32.ofNat cs.length) ∧ (∀ c ∈ cs, ¬ (255 : Int32) < c) ∧ Arl Z h' d .byte (lat cs)) ∨ (∃ i c, i < cs.length ∧ v = .int (Int32.ofNat i) ∧ cs[i]? = some c ∧ (255 : Int32) < c))
theorem J_cmp5L {p : Program} {e : Env} {R : Room} {s : State} {m : MethodId} {args : Array Value} {below : List Frame} {meth : Method} {c : Code} {own mn : String} {w : Nat} {h : Heap} {b d : Addr} {cs : List Int32} (C : Cxt p m meth c Z a0 EL own mn jdk_52_method_21_code 7 (some .int) tables_1) (A : Arl Z h b .char (ints cs)) (nd : Z.heap.size ≤ d) (hbd : b ≠ d) :
    ∀ (r i : Nat) (hi : Heap) (x6 : Slot), okS x6 = true → i + r = cs.length → Keep h hi [d] → hi.size = h.size → Arl Z hi d .byte (lat (cs.take i) ++ List.replicate r (.int 0)) → (∀ c ∈ cs.take i, ¬ (255 : Int32) < c) →
      Goes p l e R s m args below meth c Z EL nw (rR (Qcmp5 Z h d cs)) [d] w hi 0 0 (mkF m 3 ⟨[.val (.ref b), .val (.int (Int32.ofNat i)), .val (.ref d), .val (.int (Int32.ofNat i)), .val (.int (Int32.ofNat cs.length)), .val (.int (Int32.ofNat i)), x6]⟩ []) := by
  have hN : cs.length < 2 ^ 31 := by have := A.len; rwa [ints_length] at this
  intro r
  induction r with
  | zero =>
    intro i hi x6 hx hir K sz AD hl
    obtain rfl : i = cs.length := by omega
    refine C.iload db0_3 rfl ?_
    refine C.iload db0_5 rfl ?_
    refine C.icmp_ge db0_7 (fun _ => ?_) (fun q => absurd q (fun q => by rw [ofNat_lt hN hN] at q; omega))
    refine C.iload db0_44 rfl ?_
    exact C.ireturn db0_46 rfl (Or.inl rfl) rfl ⟨_, rfl, K, sz, Or.inl ⟨rfl, by simpa using hl, by simpa using AD⟩⟩ (Nat.zero_le _) (Nat.zero_le _)
  | succ r ih =>
    intro i hi x6 hx hir K sz AD hl
    have hlt : i < cs.length := by omega
    have hch : cs[i]? = some cs[i] := List.getElem?_eq_getElem hlt
    generalize cs[i] = ch at hch
    have hI := ofNat_idx (i := i) (by omega)
    refine C.iload db0_3 rfl ?_
    refine C.iload db0_5 rfl ?_
    refine C.icmp_ge db0_7 (fun q => absurd ((ofNat_lt (by omega) hN).mpr hlt) q) (fun _ => ?_)
    refine C.aloadN db0_10 rfl rfl ?_
    refine C.iloadN db0_11 rfl ?_
    refine C.caload db0_12 (A.keep K (by simpa using hbd)) hI.1 hI.2 (ints_get hch) ?_
    refine C.istore db0_13 rfl hx ?_
    refine C.iload db0_15 rfl ?_
    refine C.sipush (255) db0_17 rfl ?_
    refine C.icmp_le db0_20 (fun q => ?_) (fun q => ?_)
    · refine C.aloadN db0_26 rfl rfl ?_
      refine C.iloadN db0_27 rfl ?_
      refine C.iload db0_28 rfl ?_
      refine C.i2b db0_30 ?_
      refine C.bastore db0_31 AD hI.1 hI.2 (by simp [lat]; omega) nd (Or.inl (List.mem_singleton.mpr rfl)) ?_
      intro h2 W2 A2
      refine C.iinc (1) db0_32 rfl rfl ?_
      refine C.iinc (1) db0_35 rfl rfl ?_
      refine C.iinc (1) db0_38 rfl rfl ?_
      refine C.goto db0_41 ?_
      rw [ofNat_succ]
      refine ih (i + 1) h2 _ rfl (by omega) (K.wr W2 (Or.inl (List.mem_singleton.mpr rfl))) (W2.size.trans sz) ?_ ?_
      · have e : lat (cs.take (i + 1)) = lat (cs.take i) ++ [.int (nar .byte (b8 ch))] := by
          rw [List.take_add_one, hch]; simp [lat, nar_b8, b8_b8]
        rw [e, ← fill_step (i := i) (by rw [lat_length, List.length_take]; omega)]; exact A2
      · rw [List.take_add_one, hch]
        intro c hc
        rcases List.mem_append.mp hc with z | z
        · exact hl c z
        · simp at z; subst z; exact q
    · refine C.iload db0_23 rfl ?_
      exact C.ireturn db0_25 rfl (Or.inl rfl) rfl ⟨_, rfl, K, sz, Or.inr ⟨i, ch, hlt, rfl, hch, q⟩⟩ (Nat.zero_le _) (Nat.zero_le _)
theorem J_cmp5 (B : Base Z a0 EL) {h : Heap} {b d : Addr} {cs : List Int32} (A : Arl Z h b .char (ints cs)) (AD : Arl Z h d .byte (List.replicate cs.length (.int 0))) (nd : Z.heap.size ≤ d) (hbd : b ≠ d) :
    Con l Z EL nw (⟨"java/lang/StringUTF16", "compress", "([CI[BII)I"⟩ : MethodName) jdk_52_method_21_code 7 (some .int) (RM 0 0 0 0) [d] #[.ref b, .int 0, .ref d, .int 0, .int (Int32.ofNat cs.length)] h (rR (Qcmp5 Z h d cs)) := by
  refine Con.of (plainFor_of_name (by decide +kernel)) B.1 B.2.1 ⟨[.val (.ref b), .val (.int 0), .val (.ref d), .val (.int 0), .val (.int (Int32.ofNat cs.length)), .unset, .unset]⟩ (fun m => rfl) ?_
  intro p e s m below meth c _ C
  refine C.iconst (0) db0_0 rfl ?_
  refine C.istore db0_1 rfl rfl ?_
  exact J_cmp5L C A nd hbd cs.length 0 h .unset rfl (by omega) (Keep.refl _ _) rfl (by simpa [lat] using AD) (by simp)
theorem J_codl (B : Base Z a0 EL) {h : Heap} {d : Addr} {vs : List Value} {n : Nat} {r : Int32} (A : Arl Z h d .byte vs) (hr : b8 (XT.ushr (Int32.ofNat n - Int32.ofNat vs.length) 31) = r) :
    Con l Z EL nw (⟨"java/lang/StringUTF16", "coderFromArrayLen", "([BI)B"⟩ : MethodName) jdk_52_method_15_code 2 (some .byte) (RM 0 0 0 0) [] #[.ref d, .int (Int32.ofNat n)] h (rR fun v h' => v = .int r ∧ h = h') := by
  refine Con.of (plainFor_of_name (by decide +kernel)) B.1 B.2.1 ⟨[.val (.ref d), .val (.int (Int32.ofNat n))]⟩ (fun m => rfl) ?_
  intro p e s m below meth c _ C
  refine C.iloadN db1_0 rfl ?_
  refine C.aloadN db1_1 rfl rfl ?_
  refine C.arraylength db1_2 A ?_
  refine C.isub db1_3 ?_
  refine C.bipush (31) db1_4 rfl ?_
  refine C.iushr db1_6 ?_
  refine C.i2b db1_7 ?_
  exact C.ireturn db1_8 rfl (Or.inr (Or.inr (Or.inl rfl))) (narrow_byte _) ⟨_, rfl, by rw [hr], rfl⟩ (Nat.zero_le _) (Nat.zero_le _)
theorem J_cmp3 (B : Base Z a0 EL) {h : Heap} {b : Addr} {cs : List Int32} (hL : ∀ c ∈ cs, ¬ (255 : Int32) < c) (hn : cs.length ≤ 4000) (A : Arl Z h b .char (ints cs)) :
    Con l Z EL nw (⟨"java/lang/StringUTF16", "compress", "([CII)[B"⟩ : MethodName) jdk_52_method_16_code 6 (some (.array .byte)) (RM 1 18 1 cs.length) [] #[.ref b, .int 0, .int (Int32.ofNat cs.length)] h (rR fun v h' => ∃ t, v = .ref t ∧ h.size ≤ t ∧ Ext h h' ∧ Arl Z h' t .byte (lat cs)) := by
  have hI := ofNat_idx (i := cs.length) (by omega)
  refine Con.of (plainFor_of_name (by decide +kernel)) B.1 B.2.1 ⟨[.val (.ref b), .val (.int 0), .val (.int (Int32.ofNat cs.length)), .unset, .unset, .unset]⟩ (fun m => rfl) ?_
  intro p e s m below meth c _ C
  refine Goes.old fun O => ?_
  refine C.iloadN db2_0 rfl ?_
  refine C.newarray db2_1 tw3 hI.1 hI.2 (by omega) (le rfl) (by show 0 + cs.length ≤ cs.length; omega) ?_
  intro h1 d g1 E1 l1 A1
  have hbd : @Ne Nat b d := adr_ne A.lt (Nat.le_of_eq g1.symm)
  refine C.astoreN db2_3 rfl rfl rfl ?_
  refine C.aloadN db2_4 rfl rfl ?_
  refine C.iloadN db2_5 rfl ?_
  refine C.aloadN db2_6 rfl rfl ?_
  refine C.iconst (0) db2_7 rfl ?_
  refine C.iloadN db2_8 rfl ?_
  refine C.s5R db2_9 tw31 tw32 tw29 tw33 (by decide) (by decide +kernel) rfl (by simp) (J_cmp5 B (A.ext E1) A1 (by rw [g1]; exact O.1) hbd) (le rfl) (le rfl) (le rfl) (by show 0 + cs.length + 0 ≤ cs.length; omega) ?_
  rintro v h2 ⟨K2, sz2, hv⟩
  have hv' : v = .int (Int32.ofNat cs.length) ∧ Arl Z h2 d .byte (lat cs) := by
    rcases hv with ⟨q1, -, q3⟩ | ⟨i, c, -, -, q4, q5⟩
    · exact ⟨q1, q3⟩
    · exact absurd q5 (hL c (List.mem_of_getElem? q4))
  obtain ⟨rfl, A2⟩ := hv'
  refine C.istore db2_12 rfl rfl ?_
  refine C.iload db2_14 rfl ?_
  refine C.iloadN db2_16 rfl ?_
  refine C.icmp_eq db2_17 (fun _ => ?_) (fun q => absurd rfl q)
  refine C.aloadN db2_57 rfl rfl ?_
  exact C.areturn db2_58 rfl rfl rfl rfl ⟨_, rfl, d, rfl, by omega, ext_of_keep E1 K2 (by simp; omega), A2⟩ (le rfl) (by show 0 + cs.length + 0 ≤ cs.length; omega)
theorem J_new4l (B : Base Z a0 EL) {h : Heap} {a b : Addr} {cs : List Int32} (hc : ∀ c ∈ cs, IsC c) (h0 : cs ≠ []) (hL : ∀ c ∈ cs, ¬ (255 : Int32) < c) (hn : cs.length ≤ 4000) (A : Arl Z h b .char (ints cs)) (na : Z.heap.size ≤ a) (E : Exa Z h a ST) (Fv : Fld Z h a ST "value" "[B" .null) (Fc : Fld Z h a ST "coder" "B" (.int 0)) :
    Con l Z EL nw (⟨"java/lang/String", "<init>", "([CIILjava/lang/Void;)V"⟩ : MethodName) jdk_42_method_149_code 6 none (RM 2 35 1 cs.length) [a] #[.ref a, .ref b, .int 0, .int (Int32.ofNat cs.length), .null] h (rV fun h' => Keep h h' [a] ∧ StrAt Z h' a cs) := by
  obtain ⟨z, Sz, hz⟩ := B.2.2.1
  refine Con.of (plainFor_of_name (by decide +kernel)) B.1 B.2.1 ⟨[.val (.ref a), .val (.ref b), .val (.int 0), .val (.int (Int32.ofNat cs.length)), .val .null, .unset]⟩ (fun m => rfl) ?_
  intro p e s m below meth c _ C
  refine C.aloadN db3_0 rfl rfl ?_
  refine C.initO db3_1 tw23 tw24 tw25 rfl (le rfl) (le rfl) ?_
  refine C.iloadN db3_4 rfl ?_
  refine C.if_ne db3_5 (fun _ => ?_) (fun q => absurd (ofNat_inj (j := 0) (by omega) (by omega) q) (fun q => h0 (List.length_eq_zero_iff.mp q)))
  refine C.getS db3_27 tw26 Sz ?_
  refine C.if_eq db3_30 (fun q => absurd q hz) (fun _ => ?_)
  refine C.aloadN db3_33 rfl rfl ?_
  refine C.iloadN db3_34 rfl ?_
  refine C.iloadN db3_35 rfl ?_
  refine C.s3R db3_36 tw27 tw28 tw29 tw30 (by decide) (by decide +kernel) rfl nof (J_cmp3 B hL hn A) (le rfl) (le rfl) (le rfl) (by show 0 + cs.length ≤ cs.length; omega) ?_
  rintro v h1 ⟨t, rfl, nt, E1, A1⟩
  refine C.astore db3_39 rfl rfl rfl ?_
  refine C.aloadN db3_41 rfl rfl ?_
  refine C.aload db3_42 rfl rfl ?_
  refine C.iloadN db3_44 rfl ?_
  refine C.s2R db3_45 tw34 tw35 tw29 tw36 (by decide) (by decide +kernel) rfl nof (J_codl B (n := cs.length) (r := 0) A1 (by rw [lat_length, Int32.sub_self]; rfl)) (le rfl) (le rfl) (le rfl) (by show 0 + cs.length + 0 ≤ cs.length; omega) ?_
  rintro v h2 ⟨rfl, rfl⟩
  refine C.putF (ty := .byte) db3_48 tw37 (Fc.ext E1) (E.ext E1) (Or.inr ⟨tw5, rfl, rfl⟩) tw2 (by decide +kernel) rfl rfl na (Or.inl (List.mem_singleton.mpr rfl)) ?_
  intro h3 W3
  have nvc : RoadKit.slotOf Z ST "value" "[B" ≠ RoadKit.slotOf Z ST "coder" "B" := slot_ne (C := ST) (a0 := a0) (Or.inr (C.wrd tw4)) (Or.inr (C.wrd tw5)) (by decide) (t := .array .byte) (t' := .byte) (by decide +kernel) (by decide +kernel)
  refine C.aloadN db3_51 rfl rfl ?_
  refine C.aload db3_52 rfl rfl ?_
  refine C.putF (ty := (.array .byte)) db3_54 tw38 ((Fv.ext E1).other W3 (Or.inr nvc)) ((E.ext E1).wr W3) (Or.inr ⟨tw4, rfl, rfl⟩) tw2 (by decide +kernel) rfl rfl na (Or.inl (List.mem_singleton.mpr rfl)) ?_
  intro h4 W4
  have ta : @Ne Nat t a := (adr_ne E.lt nt).symm
  refine C.return_ db3_57 rfl ⟨rfl, ((keep_ext E1 [a]).wr W3 (Or.inl (List.mem_singleton.mpr rfl))).wr W4 (Or.inl (List.mem_singleton.mpr rfl)), t, 0, lat cs, ?_, ?_, ?_, ?_, Or.inl ⟨rfl, rfl, hL⟩, hc, hn⟩ (le rfl) (by show 0 + cs.length + 0 ≤ cs.length; omega)
  · exact ((E.ext E1).wr W3).wr W4
  · exact ((Fv.ext E1).other W3 (Or.inr nvc)).same W4
  · exact ((Fc.ext E1).same W3).other W4 (Or.inr nvc.symm)
  · exact (A1.other W3 ta).other W4 ta
theorem J_new1l (B : Base Z a0 EL) {h : Heap} {a b : Addr} {cs : List Int32} (hc : ∀ c ∈ cs, IsC c) (h0 : cs ≠ []) (hL : ∀ c ∈ cs, ¬ (255 : Int32) < c) (hn : cs.length ≤ 4000) (A : Arl Z h b .char (ints cs)) (na : Z.heap.size ≤ a) (E : Exa Z h a ST) (Fv : Fld Z h a ST "value" "[B" .null) (Fc : Fld Z h a ST "coder" "B" (.int 0)) :
    Con l Z EL nw (⟨"java/lang/String", "<init>", "([C)V"⟩ : MethodName) jdk_42_method_3_code 2 none (RM 3 52 1 cs.length) [a] #[.ref a, .ref b] h (rV fun h' => Keep h h' [a] ∧ StrAt Z h' a cs) := by
  refine Con.of (plainFor_of_name (by decide +kernel)) B.1 B.2.1 ⟨[.val (.ref a), .val (.ref b)]⟩ (fun m => rfl) ?_
  intro p e s m below meth c _ C
  refine C.aloadN db4_0 rfl rfl ?_
  refine C.aloadN db4_1 rfl rfl ?_
  refine C.iconst (0) db4_2 rfl ?_
  refine C.aloadN db4_3 rfl rfl ?_
  refine C.arraylength db4_4 A ?_
  rw [ints_length]
  refine C.aconst_null db4_5 ?_
  refine C.c4 db4_6 rfl tw19 tw20 tw1 tw22 (by decide) (by decide +kernel) rfl (fun _ q => Or.inl q) (J_new4l B hc h0 hL hn A na E Fv Fc) (le rfl) (le rfl) (le rfl) (by show 0 + cs.length ≤ cs.length; omega) ?_
  rintro h1 ⟨K1, S1⟩
  exact C.return_ db4_9 rfl ⟨rfl, K1, S1⟩ (le rfl) (by show 0 + cs.length ≤ cs.length; omega)
theorem J_atoms (B : Base Z a0 EL) : ∀ a ∈ Bundle.stringAtoms, a.before a0 Z = true := fun d hd => B.1 d ((by decide +kernel : ∀ d ∈ Bundle.stringAtoms, d ∈ tables_1) d hd)
theorem J_isl (B : Base Z a0 EL) {h : Heap} {a : Addr} {cd : Int32} (F : Fld Z h a ST "coder" "B" (.int cd)) : Con l Z EL nw (⟨"java/lang/String", "isLatin1", "()Z"⟩ : MethodName) jdk_42_method_154_code 1 (some .boolean) (RM 0 0 0 0) [] #[.ref a] h (rR fun v h' => ((v = .int 1 ∧ cd = 0) ∨ (v = .int 0 ∧ ¬ cd = 0)) ∧ h = h') := by
  obtain ⟨z, Sz, hz⟩ := B.2.2.1
  refine Con.of (plainFor_of_name (by decide +kernel)) B.1 B.2.1 ⟨[.val (.ref a)]⟩ (fun m => rfl) ?_
  intro p e s m below meth c _ C
  refine C.getS db5_0 tw26 Sz ?_
  refine C.if_eq db5_3 (fun q => absurd q hz) (fun _ => ?_)
  refine C.aloadN db5_6 rfl rfl ?_
  refine C.getF db5_7 tw37 F ?_
  refine C.if_ne db5_10 (fun q => ?_) (fun q => ?_)
  · refine C.iconst (0) db5_17 rfl ?_
    exact C.ireturn db5_18 rfl (Or.inr (Or.inl rfl)) rfl ⟨_, rfl, Or.inr ⟨rfl, q⟩, rfl⟩ (le rfl) (le rfl)
  · refine C.iconst (1) db5_13 rfl ?_
    refine C.goto db5_14 ?_
    exact C.ireturn db5_18 rfl (Or.inr (Or.inl rfl)) rfl ⟨_, rfl, Or.inl ⟨rfl, q⟩, rfl⟩ (le rfl) (le rfl)
theorem J_pci' (B : Base Z a0 EL) {h : Heap} {i n : Int32} {v : Value} (h0 : ¬ i < 0) (h1 : i < n) (hv : ∀ m, entryFrame m #[.int i, .int n, v] 3 = mkF m 0 ⟨[.val (.int i), .val (.int n), .val v]⟩ []) : Con l Z EL nw (⟨"jdk/internal/util/Preconditions", "checkIndex", "(IILjava/util/function/BiFunction;)I"⟩ : MethodName) jdk_41_method_11_code 3 (some .int) (RM 0 0 0 0) [] #[.int i, .int n, v] h (rR fun w h' => w = .int i ∧ h = h') := by
  refine Con.of (plainFor_of_name (by decide +kernel)) B.1 B.2.1 ⟨[.val (.int i), .val (.int n), .val v]⟩ hv ?_
  intro p e s m below meth c _ C
  refine C.iloadN db6_0 rfl ?_
  refine C.if_lt db6_1 (fun q => absurd q h0) (fun _ => ?_)
  refine C.iloadN db6_4 rfl ?_
  refine C.iloadN db6_5 rfl ?_
  refine C.icmp_lt db6_6 (fun _ => ?_) (fun q => absurd h1 q)
  refine C.iloadN db6_16 rfl ?_
  exact C.ireturn db6_17 rfl (Or.inl rfl) rfl ⟨_, rfl, rfl, rfl⟩ (le rfl) (le rfl)
theorem J_pci (B : Base Z a0 EL) {h : Heap} {i n : Int32} {v : Value} (h0 : ¬ i < 0) (h1 : i < n) (hr : v.isRef = true) : Con l Z EL nw (⟨"jdk/internal/util/Preconditions", "checkIndex", "(IILjava/util/function/BiFunction;)I"⟩ : MethodName) jdk_41_method_11_code 3 (some .int) (RM 0 0 0 0) [] #[.int i, .int n, v] h (rR fun w h' => w = .int i ∧ h = h') := by
  cases v with
  | ref r => exact J_pci' B h0 h1 (fun m => rfl)
  | null => exact J_pci' B h0 h1 (fun m => rfl)
  | _ => cases hr
theorem J_sci (B : Base Z a0 EL) {h : Heap} {i n : Int32} (h0 : ¬ i < 0) (h1 : i < n) : Con l Z EL nw (⟨"java/lang/String", "checkIndex", "(II)V"⟩ : MethodName) jdk_42_method_155_code 2 none (RM 1 14 0 0) [] #[.int i, .int n] h (rV fun h' => h = h') := by
  obtain ⟨sf, Ssf, rsf⟩ := B.2.2.2.1
  refine Con.of (plainFor_of_name (by decide +kernel)) B.1 B.2.1 ⟨[.val (.int i), .val (.int n)]⟩ (fun m => rfl) ?_
  intro p e s m below meth c _ C
  refine C.iloadN db7_0 rfl ?_
  refine C.iloadN db7_1 rfl ?_
  refine C.getS db7_2 tw88 Ssf ?_
  refine C.s3R db7_5 tw90 tw91 tw89 tw92 (by decide) (by decide +kernel) rfl nof (J_pci B h0 h1 rsf) (le rfl) (le rfl) (le rfl) (le rfl) ?_
  rintro _ _ ⟨rfl, rfl⟩
  refine C.pop db7_8 rfl ?_
  exact C.return_ db7_9 rfl ⟨rfl, rfl⟩ (le rfl) (le rfl)
theorem J_lch (B : Base Z a0 EL) {h : Heap} {t : Addr} {vs : List Value} {i : Nat} {b : Int32} (A : Arl Z h t .byte vs) (hi : vs[i]? = some (.int b)) : Con l Z EL nw (⟨"java/lang/StringLatin1", "charAt", "([BI)C"⟩ : MethodName) jdk_43_method_2_code 2 (some .char) (RM 2 27 0 0) [] #[.ref t, .int (Int32.ofNat i)] h (rR fun v h' => v = .int (c16 (b &&& 255)) ∧ h = h') := by
  have hlt : i < vs.length := (List.getElem?_eq_some_iff.mp hi).1
  have hl := A.len
  have hI := ofNat_idx (i := i) (by omega)
  refine Con.of (plainFor_of_name (by decide +kernel)) B.1 B.2.1 ⟨[.val (.ref t), .val (.int (Int32.ofNat i))]⟩ (fun m => rfl) ?_
  intro p e s m below meth c _ C
  refine C.iloadN db8_0 rfl ?_
  refine C.aloadN db8_1 rfl rfl ?_
  refine C.arraylength db8_2 A ?_
  refine C.s2V db8_3 tw85 tw86 tw1 tw87 (by decide) (by decide +kernel) rfl nof (J_sci B hI.1 ((ofNat_lt (by omega) hl).mpr hlt)) (le rfl) (le rfl) (le rfl) (le rfl) ?_
  rintro _ rfl
  refine C.aloadN db8_6 rfl rfl ?_
  refine C.iloadN db8_7 rfl ?_
  refine C.baload db8_8 A hI.1 hI.2 hi ?_
  refine C.sipush (255) db8_9 rfl ?_
  refine C.iand db8_12 ?_
  refine C.i2c db8_13 ?_
  exact C.ireturn db8_14 rfl (Or.inr (Or.inr (Or.inr (Or.inl rfl)))) (narrow_char (isC_c16 _)) ⟨_, rfl, rfl, rfl⟩ (le rfl) (le rfl)
theorem J_chl (B : Base Z a0 EL) {h : Heap} {a : Addr} {cs : List Int32} {i : Nat} {ch : Int32} (S : StrAt Z h a cs) (hL : ∀ c ∈ cs, ¬ (255 : Int32) < c) (hi : cs[i]? = some ch) : Con l Z EL nw (⟨"java/lang/String", "charAt", "(I)C"⟩ : MethodName) jdk_42_method_56_code 2 (some .char) (RM 3 40 0 0) [] #[.ref a, .int (Int32.ofNat i)] h (rR fun v h' => v = .int ch ∧ h = h') := by
  obtain ⟨t, cd, vs, X, Fv, Fc, A, T, hC, hn⟩ := S
  have hm : ch ∈ cs := List.mem_of_getElem? hi
  obtain ⟨rfl, rfl⟩ : cd = 0 ∧ vs = lat cs := by
    rcases T with ⟨q1, q2, -⟩ | ⟨-, -, c, q1, q2⟩
    · exact ⟨q1, q2⟩
    · exact absurd q2 (hL c q1)
  refine Con.of (plainFor_of_name (by decide +kernel)) B.1 B.2.1 ⟨[.val (.ref a), .val (.int (Int32.ofNat i))]⟩ (fun m => rfl) ?_
  intro p e s m below meth c _ C
  refine C.aloadN db9_0 rfl rfl ?_
  refine C.v0R db9_1 tw77 tw78 tw80 tw79 tw1 tw81 (by decide) (by decide +kernel) rfl nof X (fun _ q => notFace_of_selects q) (J_isl B Fc) (le rfl) (le rfl) (le rfl) (le rfl) ?_
  rintro v _ ⟨hv, rfl⟩
  obtain rfl : v = .int 1 := hv.elim (fun q => q.1) (fun q => absurd rfl q.2)
  refine C.if_eq db9_4 (fun q => absurd q (by decide)) (fun _ => ?_)
  refine C.aloadN db9_7 rfl rfl ?_
  refine C.getF db9_8 tw38 Fv ?_
  refine C.iloadN db9_11 rfl ?_
  refine C.s2R db9_12 tw82 tw83 tw68 tw84 (by decide) (by decide +kernel) rfl nof (J_lch B A (lat_get hi)) (le rfl) (le rfl) (le rfl) (le rfl) ?_
  rintro _ _ ⟨rfl, rfl⟩
  have e : c16 (b8 ch &&& 255) = ch := unb8 ⟨(hC ch hm).1, hL ch hm⟩
  rw [e]
  exact C.ireturn db9_15 rfl (Or.inr (Or.inr (Or.inr (Or.inl rfl)))) (narrow_char (hC ch hm)) ⟨_, rfl, rfl, rfl⟩ (le rfl) (le rfl)
def Qleq (h : Heap) (vs ws : List Value) : Value → Heap → Prop := fun v h' => ((v = .int 1 ∧ vs = ws) ∨ (v = .int 0 ∧ vs ≠ ws)) ∧ h = h'
theorem J_leqL {p : Program} {e : Env} {R : Room} {s : State} {m : MethodId} {args : Array Value} {below : List Frame} {meth : Method} {c : Code} {own mn : String} {w : Nat} {h : Heap} {t u : Addr} {vs ws : List Value} (C : Cxt p m meth c Z a0 EL own mn jdk_43_method_13_code 3 (some .boolean) tables_1) (A : Arl Z h t .byte vs) (D : Arl Z h u .byte ws) (hl : vs.length = ws.length) :
    ∀ (r i : Nat), i + r = vs.length → vs.take i = ws.take i → Goes p l e R s m args below meth c Z EL nw (rR (Qleq h vs ws)) [] w h 0 0 (mkF m 9 ⟨[.val (.ref t), .val (.ref u), .val (.int (Int32.ofNat i))]⟩ []) := by
  have hN := A.len
  intro r
  induction r with
  | zero =>
    intro i hir ht
    obtain rfl : i = vs.length := by omega
    refine C.iloadN db10_9 rfl ?_
    refine C.aloadN db10_10 rfl rfl ?_
    refine C.arraylength db10_11 A ?_
    refine C.icmp_ge db10_12 (fun _ => ?_) (fun q => absurd q (fun q => by rw [ofNat_lt hN hN] at q; omega))
    refine C.iconst (1) db10_32 rfl ?_
    exact C.ireturn db10_33 rfl (Or.inr (Or.inl rfl)) rfl ⟨_, rfl, Or.inl ⟨rfl, by rw [List.take_length, hl, List.take_length] at ht; exact ht⟩, rfl⟩ (Nat.zero_le _) (Nat.zero_le _)
  | succ r ih =>
    intro i hir ht
    have hlt : i < vs.length := by omega
    have hI := ofNat_idx (i := i) (by omega)
    have hv : vs[i]? = some vs[i] := List.getElem?_eq_getElem hlt
    have hw : ws[i]? = some (ws[i]'(by omega)) := List.getElem?_eq_getElem (by omega)
    obtain ⟨x, hx⟩ := A.intAt (List.mem_of_getElem? hv)
    obtain ⟨y, hy⟩ := D.intAt (List.mem_of_getElem? hw)
    rw [hx] at hv
    rw [hy] at hw
    refine C.iloadN db10_9 rfl ?_
    refine C.aloadN db10_10 rfl rfl ?_
    refine C.arraylength db10_11 A ?_
    refine C.icmp_ge db10_12 (fun q => absurd ((ofNat_lt (by omega) hN).mpr hlt) q) (fun _ => ?_)
    refine C.aloadN db10_15 rfl rfl ?_
    refine C.iloadN db10_16 rfl ?_
    refine C.baload db10_17 A hI.1 hI.2 hv ?_
    refine C.aloadN db10_18 rfl rfl ?_
    refine C.iloadN db10_19 rfl ?_
    refine C.baload db10_20 D hI.1 hI.2 hw ?_
    refine C.icmp_eq db10_21 (fun q => ?_) (fun q => ?_)
    · refine C.iinc (1) db10_26 rfl rfl ?_
      refine C.goto db10_29 ?_
      rw [ofNat_succ]
      refine ih (i + 1) (by omega) ?_
      rw [List.take_add_one, List.take_add_one, ht, hv, hw, q]
    · refine C.iconst (0) db10_24 rfl ?_
      exact C.ireturn db10_25 rfl (Or.inr (Or.inl rfl)) rfl ⟨_, rfl, Or.inr ⟨rfl, fun z => q (by rw [z, hw] at hv; simpa using hv.symm)⟩, rfl⟩ (Nat.zero_le _) (Nat.zero_le _)
theorem J_leq (B : Base Z a0 EL) {h : Heap} {t u : Addr} {vs ws : List Value} (A : Arl Z h t .byte vs) (D : Arl Z h u .byte ws) : Con l Z EL nw (⟨"java/lang/StringLatin1", "equals", "([B[B)Z"⟩ : MethodName) jdk_43_method_13_code 3 (some .boolean) (RM 0 0 0 0) [] #[.ref t, .ref u] h (rR (Qleq h vs ws)) := by
  refine Con.of (plainFor_of_name (by decide +kernel)) B.1 B.2.1 ⟨[.val (.ref t), .val (.ref u), .unset]⟩ (fun m => rfl) ?_
  intro p e s m below meth c _ C
  refine C.aloadN db10_0 rfl rfl ?_
  refine C.arraylength db10_1 A ?_
  refine C.aloadN db10_2 rfl rfl ?_
  refine C.arraylength db10_3 D ?_
  refine C.icmp_ne db10_4 (fun q => ?_) (fun q => ?_)
  · refine C.iconst (0) db10_34 rfl ?_
    exact C.ireturn db10_35 rfl (Or.inr (Or.inl rfl)) rfl ⟨_, rfl, Or.inr ⟨rfl, fun z => q (by rw [z])⟩, rfl⟩ (le rfl) (le rfl)
  · refine C.iconst (0) db10_7 rfl ?_
    refine C.istoreN db10_8 rfl rfl ?_
    exact J_leqL C A D (ofNat_inj A.len D.len q) vs.length 0 (by omega) rfl
theorem J_eq (B : Base Z a0 EL) {h : Heap} {a b : Addr} {cs ds : List Int32} (S : StrAt Z h a cs) (T : StrAt Z h b ds) : Con l Z EL nw (⟨"java/lang/String", "equals", "(Ljava/lang/Object;)Z"⟩ : MethodName) jdk_42_method_66_code 3 (some .boolean) (RM 1 14 0 0) [] #[.ref a, .ref b] h (rR fun v h' => ((v = .int 1 ∧ cs = ds) ∨ (v = .int 0 ∧ cs ≠ ds)) ∧ h = h') := by
  obtain ⟨z, Sz, hz⟩ := B.2.2.1
  by_cases hab : a = b
  · subst hab
    have hcd : cs = ds := S.uniq T
    refine Con.of (plainFor_of_name (by decide +kernel)) B.1 B.2.1 ⟨[.val (.ref a), .val (.ref a), .unset]⟩ (fun m => rfl) ?_
    intro p e s m below meth c _ C
    refine C.aloadN db11_0 rfl rfl ?_
    refine C.aloadN db11_1 rfl rfl ?_
    refine C.acmp_ne db11_2 rfl rfl (fun q => absurd rfl q) (fun _ => ?_)
    refine C.iconst (1) db11_5 rfl ?_
    exact C.ireturn db11_6 rfl (Or.inr (Or.inl rfl)) rfl ⟨_, rfl, Or.inl ⟨rfl, hcd⟩, rfl⟩ (Nat.zero_le _) (Nat.zero_le _)
  obtain ⟨t, cd, vs, X, Fv, Fc, A, Tx, hC, hn⟩ := id S
  obtain ⟨u, ce, ws, X', Fv', Fc', A', Tx', hC', hn'⟩ := id T
  refine Con.of (plainFor_of_name (by decide +kernel)) B.1 B.2.1 ⟨[.val (.ref a), .val (.ref b), .unset]⟩ (fun m => rfl) ?_
  intro p e s m below meth c _ C
  refine C.aloadN db11_0 rfl rfl ?_
  refine C.aloadN db11_1 rfl rfl ?_
  refine C.acmp_ne db11_2 rfl rfl (fun q => ?_) (fun q => absurd (Value.ref.inj q) hab)
  refine C.aloadN db11_7 rfl rfl ?_
  refine C.instY db11_8 tw65 (Ins.self X') ?_
  refine C.if_eq db11_11 (fun q => absurd q (by decide)) (fun _ => ?_)
  refine C.aloadN db11_14 rfl rfl ?_
  refine C.checkcast db11_15 tw65 (Ins.self X') ?_
  refine C.astoreN db11_18 rfl rfl rfl ?_
  refine C.getS db11_19 tw26 Sz ?_
  refine C.if_eq db11_22 (fun q => absurd q hz) (fun _ => ?_)
  refine C.aloadN db11_25 rfl rfl ?_
  refine C.getF db11_26 tw37 Fc ?_
  refine C.aloadN db11_29 rfl rfl ?_
  refine C.getF db11_30 tw37 Fc' ?_
  refine C.icmp_ne db11_33 (fun q => ?_) (fun q => ?_)
  · refine C.iconst (0) db11_54 rfl ?_
    exact C.ireturn db11_55 rfl (Or.inr (Or.inl rfl)) rfl ⟨_, rfl, Or.inr ⟨rfl, fun z => q (by subst z; exact Tx.coder Tx')⟩, rfl⟩ (le rfl) (le rfl)
  · subst q
    refine C.aloadN db11_36 rfl rfl ?_
    refine C.getF db11_37 tw38 Fv ?_
    refine C.aloadN db11_40 rfl rfl ?_
    refine C.getF db11_41 tw38 Fv' ?_
    refine C.s2R db11_44 tw66 tw67 tw68 tw69 (by decide) (by decide +kernel) rfl nof (J_leq B A A') (le rfl) (le rfl) (le rfl) (le rfl) ?_
    rintro v _ ⟨hv, rfl⟩
    rcases hv with ⟨rfl, q⟩ | ⟨rfl, q⟩
    · refine C.if_eq db11_47 (fun z => absurd z (by decide)) (fun _ => ?_)
      refine C.iconst (1) db11_50 rfl ?_
      refine C.goto db11_51 ?_
      exact C.ireturn db11_55 rfl (Or.inr (Or.inl rfl)) rfl ⟨_, rfl, Or.inl ⟨rfl, Txt.inj hC hC' Tx (q ▸ Tx')⟩, rfl⟩ (le rfl) (le rfl)
    · refine C.if_eq db11_47 (fun _ => ?_) (fun z => absurd rfl z)
      refine C.iconst (0) db11_54 rfl ?_
      exact C.ireturn db11_55 rfl (Or.inr (Or.inl rfl)) rfl ⟨_, rfl, Or.inr ⟨rfl, fun z => q (by subst z; exact Tx.bytes Tx')⟩, rfl⟩ (le rfl) (le rfl)
theorem J_new4e (B : Base Z a0 EL) (hmem : ("java/lang/String", 7) ∈ EL) {h : Heap} {a b : Addr} (na : Z.heap.size ≤ a) (E : Exa Z h a ST) (Fv : Fld Z h a ST "value" "[B" .null) (Fc : Fld Z h a ST "coder" "B" (.int 0)) :
    Con l Z EL false (⟨"java/lang/String", "<init>", "([CIILjava/lang/Void;)V"⟩ : MethodName) jdk_42_method_149_code 6 none (RM 1 12 4 8) [a] #[.ref a, .ref b, .int 0, .int 0, .null] h (rV fun h' => Keep h h' [a] ∧ StrAt Z h' a []) := by
  refine Con.of (plainFor_of_name (by decide +kernel)) B.1 B.2.1 ⟨[.val (.ref a), .val (.ref b), .val (.int 0), .val (.int 0), .val .null, .unset]⟩ (fun m => rfl) ?_
  intro p e s m below meth c _ C
  have nvc : RoadKit.slotOf Z ST "value" "[B" ≠ RoadKit.slotOf Z ST "coder" "B" := slot_ne (C := ST) (a0 := a0) (Or.inr (C.wrd tw4)) (Or.inr (C.wrd tw5)) (by decide) (t := .array .byte) (t' := .byte) (by decide +kernel) (by decide +kernel)
  refine C.aloadN db3_0 rfl rfl ?_
  refine C.initO db3_1 tw23 tw24 tw25 rfl (le rfl) (le rfl) ?_
  refine C.iloadN db3_4 rfl ?_
  refine C.if_ne db3_5 (fun q => absurd rfl q) (fun _ => ?_)
  refine C.aloadN db3_8 rfl rfl ?_
  refine C.ldcS (vs := []) 0 db3_9 rfl tw93 (J_atoms B) hmem ⟨by decide, rfl⟩ (by decide) (le rfl) (le rfl) (le rfl) (le rfl) ?_
  intro h1 s1 b1 E1 X1 c1 v1 A1 n1
  refine C.getF db3_11 tw38 v1 ?_
  refine C.putF (ty := (.array .byte)) db3_14 tw38 (Fv.ext E1) (E.ext E1) (Or.inr ⟨tw4, rfl, rfl⟩) tw2 (by decide +kernel) rfl rfl na (Or.inl (List.mem_singleton.mpr rfl)) ?_
  intro h2 W2
  have n1' := n1 a (List.mem_singleton.mpr rfl)
  refine C.aloadN db3_17 rfl rfl ?_
  refine C.ldcS (vs := []) 0 db3_18 rfl tw93 (J_atoms B) hmem ⟨by decide, rfl⟩ (by decide) (le rfl) (le rfl) (le rfl) (le rfl) ?_
  intro h3 s3 b3 E3 X3 c3 v3 A3 n3
  refine C.getF db3_20 tw37 c3 ?_
  refine C.putF (ty := .byte) db3_23 tw37 (((Fc.ext E1).other W2 (Or.inr nvc.symm)).ext E3) (((E.ext E1).wr W2).ext E3) (Or.inr ⟨tw5, rfl, rfl⟩) tw2 (by decide +kernel) rfl rfl na (Or.inl (List.mem_singleton.mpr rfl)) ?_
  intro h4 W4
  have A4 : Arl Z h4 b1 .byte [] := ((A1.other W2 n1'.2.symm).ext E3).other W4 n1'.2.symm
  refine C.return_ db3_26 rfl ⟨rfl, (((keep_ext E1 [a]).wr W2 (Or.inl (List.mem_singleton.mpr rfl))).ext E3).wr W4 (Or.inl (List.mem_singleton.mpr rfl)), b1, 0, [], ?_, ?_, ?_, A4, Or.inl ⟨rfl, rfl, by simp⟩, by simp, by simp⟩ (le rfl) (le rfl)
  · exact (((E.ext E1).wr W2).ext E3).wr W4
  · exact (((Fv.ext E1).same W2).ext E3).other W4 (Or.inr nvc)
  · exact (((Fc.ext E1).other W2 (Or.inr nvc.symm)).ext E3).same W4
theorem J_new1e (B : Base Z a0 EL) (hmem : ("java/lang/String", 7) ∈ EL) {h : Heap} {a b : Addr} (A : Arl Z h b .char []) (na : Z.heap.size ≤ a) (E : Exa Z h a ST) (Fv : Fld Z h a ST "value" "[B" .null) (Fc : Fld Z h a ST "coder" "B" (.int 0)) :
    Con l Z EL false (⟨"java/lang/String", "<init>", "([C)V"⟩ : MethodName) jdk_42_method_3_code 2 none (RM 2 29 4 8) [a] #[.ref a, .ref b] h (rV fun h' => Keep h h' [a] ∧ StrAt Z h' a []) := by
  refine Con.of (plainFor_of_name (by decide +kernel)) B.1 B.2.1 ⟨[.val (.ref a), .val (.ref b)]⟩ (fun m => rfl) ?_
  intro p e s m below meth c _ C
  refine C.aloadN db4_0 rfl rfl ?_
  refine C.aloadN db4_1 rfl rfl ?_
  refine C.iconst (0) db4_2 rfl ?_
  refine C.aloadN db4_3 rfl rfl ?_
  refine C.arraylength db4_4 A ?_
  refine C.aconst_null db4_5 ?_
  refine C.c4 db4_6 rfl tw19 tw20 tw1 tw22 (by decide) (by decide +kernel) rfl (fun _ q => Or.inl q) (J_new4e B hmem (b := b) na E Fv Fc) (le rfl) (le rfl) (le rfl) (le rfl) ?_
  rintro h1 ⟨K1, S1⟩
  exact C.return_ db4_9 rfl ⟨rfl, K1, S1⟩ (le rfl) (le rfl)
def bs : List Int32 := [65, 115, 115, 101, 114, 116, 105, 111, 110, 64, 73, 68]
def pre (cs : List Int32) (i N : Nat) : List Value := ints (cs.take (min i N)) ++ List.replicate (N - min i N) (.int 0)
theorem pre_skip {cs : List Int32} {i N : Nat} (h : N ≤ i) : pre cs i N = pre cs (i + 1) N := by
  unfold pre; rw [Nat.min_eq_right h, Nat.min_eq_right (by omega)]
theorem pre_step {cs : List Int32} {i N : Nat} {c : Int32} (h : i < N) (hl : N ≤ cs.length) (hc : cs[i]? = some c) : (pre cs i N).set i (.int c) = pre cs (i + 1) N := by
  unfold pre
  rw [Nat.min_eq_left (by omega), Nat.min_eq_left (by omega)]
  obtain ⟨r, hr⟩ : ∃ r, N - i = r + 1 := ⟨N - i - 1, by omega⟩
  have hr' : N - (i + 1) = r := by omega
  rw [hr, hr', fill_step (i := i) (by rw [ints_length, List.length_take]; omega), List.take_add_one, hc]
  simp [ints]
theorem nat_of {x : Int32} {M : Nat} (h0 : 0 ≤ x.toInt) (h1 : x.toInt < M) (hM : M < 2 ^ 31) : ∃ i, i < M ∧ x = Int32.ofNat i := ⟨x.toInt.toNat, by omega, Int32.toInt_inj.mp (by rw [ofNat_toInt (by omega)]; omega)⟩
theorem bsL : ∀ c ∈ bs, b8 c = c ∧ IsL c := by
  intro c hc
  simp only [bs, List.mem_cons, List.not_mem_nil, or_false] at hc
  rcases hc with rfl | rfl | rfl | rfl | rfl | rfl | rfl | rfl | rfl | rfl | rfl | rfl <;> exact ⟨by decide, by decide, by decide⟩
theorem tbl_at (x : Int32) : ∃ i N, i < 8 ∧ x &&& 7 = Int32.ofNat i ∧ ([12, 12, 12, 12, 11, 13, 0, 12] : List Int32)[i]? = some (Int32.ofNat N) ∧ (N = 0 ∨ N = 11 ∨ N = 12 ∨ N = 13) := by
  have h := c_and x 7 (by decide)
  obtain ⟨i, hi, e⟩ := nat_of (M := 8) h.1 (by have e7 : (7 : Int32).toInt = 7 := rfl; omega) (by decide)
  match i, hi with
  | 0, _ => exact ⟨0, 12, by decide, e, rfl, by decide⟩
  | 1, _ => exact ⟨1, 12, by decide, e, rfl, by decide⟩
  | 2, _ => exact ⟨2, 12, by decide, e, rfl, by decide⟩
  | 3, _ => exact ⟨3, 12, by decide, e, rfl, by decide⟩
  | 4, _ => exact ⟨4, 11, by decide, e, rfl, by decide⟩
  | 5, _ => exact ⟨5, 13, by decide, e, rfl, by decide⟩
  | 6, _ => exact ⟨6, 0, by decide, e, rfl, by decide⟩
  | 7, _ => exact ⟨7, 12, by decide, e, rfl, by decide⟩
  | n + 8, q => omega
theorem P_prefix (B : Base Z a0 EL) {h : Heap} {b : Addr} {cs : List Int32} {N : Nat} (hl : cs.length = 13) (hC : ∀ c ∈ cs, IsC c) (hN : N ≤ 13) (A : Arl Z h b .char (ints cs)) : Con l Z EL nw (⟨"no/nordsegl/rules/SchemaTypeOfPinLaw", "prefix", "([CI)[C"⟩ : MethodName) method_2_code 3 (some (.array .char)) (RM 0 0 1 13) [] #[.ref b, .int (Int32.ofNat N)] h (rR fun v h' => ∃ t, v = .ref t ∧ h.size ≤ t ∧ Ext h h' ∧ Arl Z h' t .char (ints (cs.take N))) := by
  have hI := ofNat_idx (i := N) (by omega)
  refine Con.of (plainFor_of_name (by decide +kernel)) B.1 B.2.1 ⟨[.val (.ref b), .val (.int (Int32.ofNat N)), .unset]⟩ (fun m => rfl) ?_
  intro p e s m below meth c _ C
  refine Goes.old fun O => ?_
  refine C.iloadN db12_0 rfl ?_
  refine C.newarray db12_1 tw8 hI.1 hI.2 (by omega) (le rfl) (by show 0 + N ≤ 13; omega) ?_
  intro h1 o g1 E1 l1 A1
  refine C.astoreN db12_3 rfl rfl rfl ?_
  have no : Z.heap.size ≤ o := by have := O.1; omega
  have g13 : ∀ hi, Ext h hi → Arl Z hi o .char (pre cs 13 N) → OwnW.Goes p l e (RM 0 0 1 13) s m #[.ref b, .int (Int32.ofNat N)] below meth c Z EL nw (rR fun v h' => ∃ t, v = .ref t ∧ h.size ≤ t ∧ Ext h h' ∧ Arl Z h' t .char (ints (cs.take N))) [o] h.size hi (0 + 1) (0 + N) (mkF m 167 ⟨[.val (.ref b), .val (.int (Int32.ofNat N)), .val (.ref o)]⟩ []) := by
    intro hi Ei Ai
    have e : pre cs 13 N = ints (cs.take N) := by unfold pre; rw [Nat.min_eq_right hN]; simp
    rw [e] at Ai
    refine C.aloadN db12_167 rfl rfl ?_
    exact C.areturn db12_168 rfl rfl rfl rfl ⟨_, rfl, o, rfl, Nat.le_of_eq g1.symm, Ei, Ai⟩ (le rfl) (by show 0 + N ≤ 13; omega)
  have g12 : ∀ hi, Ext h hi → Arl Z hi o .char (pre cs 12 N) → OwnW.Goes p l e (RM 0 0 1 13) s m #[.ref b, .int (Int32.ofNat N)] below meth c Z EL nw (rR fun v h' => ∃ t, v = .ref t ∧ h.size ≤ t ∧ Ext h h' ∧ Arl Z h' t .char (ints (cs.take N))) [o] h.size hi (0 + 1) (0 + N) (mkF m 153 ⟨[.val (.ref b), .val (.int (Int32.ofNat N)), .val (.ref o)]⟩ []) := by
    intro hi Ei Ai
    refine C.iloadN db12_153 rfl ?_
    refine C.bipush (12) db12_154 rfl ?_
    refine C.icmp_le db12_156 (fun q => ?_) (fun q => ?_)
    · refine g13 hi Ei ?_
      have q' : N ≤ 12 := by rw [nlt, ofNat_toInt (by omega)] at q; have e : (12 : Int32).toInt = 12 := rfl; omega
      rw [← pre_skip q']; exact Ai
    · have q' : 12 < N := by rw [ilt, ofNat_toInt (by omega)] at q; have e : (12 : Int32).toInt = 12 := rfl; omega
      have hc : cs[12]? = some cs[12] := List.getElem?_eq_getElem (by omega)
      have ic := hC _ (List.getElem_mem (l := cs) (n := 12) (by omega))
      generalize cs[12] = ch at hc ic
      refine C.aloadN db12_159 rfl rfl ?_
      refine C.bipush (12) db12_160 rfl ?_
      refine C.aloadN db12_162 rfl rfl ?_
      refine C.bipush (12) db12_163 rfl ?_
      refine C.caload db12_165 (A.ext Ei) (by decide) rfl (ints_get hc) ?_
      refine C.castore (i := 12) db12_166 Ai (by decide) rfl (by unfold pre; rw [List.length_append, ints_length, List.length_take, List.length_replicate]; omega) no ?_
      intro h2 W2 A2
      rw [nar_char ic, pre_step (i := 12) q' (by omega) hc] at A2
      exact g13 h2 (ext_of_wr Ei W2 (by omega)) A2
  have g11 : ∀ hi, Ext h hi → Arl Z hi o .char (pre cs 11 N) → OwnW.Goes p l e (RM 0 0 1 13) s m #[.ref b, .int (Int32.ofNat N)] below meth c Z EL nw (rR fun v h' => ∃ t, v = .ref t ∧ h.size ≤ t ∧ Ext h h' ∧ Arl Z h' t .char (ints (cs.take N))) [o] h.size hi (0 + 1) (0 + N) (mkF m 139 ⟨[.val (.ref b), .val (.int (Int32.ofNat N)), .val (.ref o)]⟩ []) := by
    intro hi Ei Ai
    refine C.iloadN db12_139 rfl ?_
    refine C.bipush (11) db12_140 rfl ?_
    refine C.icmp_le db12_142 (fun q => ?_) (fun q => ?_)
    · refine g12 hi Ei ?_
      have q' : N ≤ 11 := by rw [nlt, ofNat_toInt (by omega)] at q; have e : (11 : Int32).toInt = 11 := rfl; omega
      rw [← pre_skip q']; exact Ai
    · have q' : 11 < N := by rw [ilt, ofNat_toInt (by omega)] at q; have e : (11 : Int32).toInt = 11 := rfl; omega
      have hc : cs[11]? = some cs[11] := List.getElem?_eq_getElem (by omega)
      have ic := hC _ (List.getElem_mem (l := cs) (n := 11) (by omega))
      generalize cs[11] = ch at hc ic
      refine C.aloadN db12_145 rfl rfl ?_
      refine C.bipush (11) db12_146 rfl ?_
      refine C.aloadN db12_148 rfl rfl ?_
      refine C.bipush (11) db12_149 rfl ?_
      refine C.caload db12_151 (A.ext Ei) (by decide) rfl (ints_get hc) ?_
      refine C.castore (i := 11) db12_152 Ai (by decide) rfl (by unfold pre; rw [List.length_append, ints_length, List.length_take, List.length_replicate]; omega) no ?_
      intro h2 W2 A2
      rw [nar_char ic, pre_step (i := 11) q' (by omega) hc] at A2
      exact g12 h2 (ext_of_wr Ei W2 (by omega)) A2
  have g10 : ∀ hi, Ext h hi → Arl Z hi o .char (pre cs 10 N) → OwnW.Goes p l e (RM 0 0 1 13) s m #[.ref b, .int (Int32.ofNat N)] below meth c Z EL nw (rR fun v h' => ∃ t, v = .ref t ∧ h.size ≤ t ∧ Ext h h' ∧ Arl Z h' t .char (ints (cs.take N))) [o] h.size hi (0 + 1) (0 + N) (mkF m 125 ⟨[.val (.ref b), .val (.int (Int32.ofNat N)), .val (.ref o)]⟩ []) := by
    intro hi Ei Ai
    refine C.iloadN db12_125 rfl ?_
    refine C.bipush (10) db12_126 rfl ?_
    refine C.icmp_le db12_128 (fun q => ?_) (fun q => ?_)
    · refine g11 hi Ei ?_
      have q' : N ≤ 10 := by rw [nlt, ofNat_toInt (by omega)] at q; have e : (10 : Int32).toInt = 10 := rfl; omega
      rw [← pre_skip q']; exact Ai
    · have q' : 10 < N := by rw [ilt, ofNat_toInt (by omega)] at q; have e : (10 : Int32).toInt = 10 := rfl; omega
      have hc : cs[10]? = some cs[10] := List.getElem?_eq_getElem (by omega)
      have ic := hC _ (List.getElem_mem (l := cs) (n := 10) (by omega))
      generalize cs[10] = ch at hc ic
      refine C.aloadN db12_131 rfl rfl ?_
      refine C.bipush (10) db12_132 rfl ?_
      refine C.aloadN db12_134 rfl rfl ?_
      refine C.bipush (10) db12_135 rfl ?_
      refine C.caload db12_137 (A.ext Ei) (by decide) rfl (ints_get hc) ?_
      refine C.castore (i := 10) db12_138 Ai (by decide) rfl (by unfold pre; rw [List.length_append, ints_length, List.length_take, List.length_replicate]; omega) no ?_
      intro h2 W2 A2
      rw [nar_char ic, pre_step (i := 10) q' (by omega) hc] at A2
      exact g11 h2 (ext_of_wr Ei W2 (by omega)) A2
  have g9 : ∀ hi, Ext h hi → Arl Z hi o .char (pre cs 9 N) → OwnW.Goes p l e (RM 0 0 1 13) s m #[.ref b, .int (Int32.ofNat N)] below meth c Z EL nw (rR fun v h' => ∃ t, v = .ref t ∧ h.size ≤ t ∧ Ext h h' ∧ Arl Z h' t .char (ints (cs.take N))) [o] h.size hi (0 + 1) (0 + N) (mkF m 111 ⟨[.val (.ref b), .val (.int (Int32.ofNat N)), .val (.ref o)]⟩ []) := by
    intro hi Ei Ai
    refine C.iloadN db12_111 rfl ?_
    refine C.bipush (9) db12_112 rfl ?_
    refine C.icmp_le db12_114 (fun q => ?_) (fun q => ?_)
    · refine g10 hi Ei ?_
      have q' : N ≤ 9 := by rw [nlt, ofNat_toInt (by omega)] at q; have e : (9 : Int32).toInt = 9 := rfl; omega
      rw [← pre_skip q']; exact Ai
    · have q' : 9 < N := by rw [ilt, ofNat_toInt (by omega)] at q; have e : (9 : Int32).toInt = 9 := rfl; omega
      have hc : cs[9]? = some cs[9] := List.getElem?_eq_getElem (by omega)
      have ic := hC _ (List.getElem_mem (l := cs) (n := 9) (by omega))
      generalize cs[9] = ch at hc ic
      refine C.aloadN db12_117 rfl rfl ?_
      refine C.bipush (9) db12_118 rfl ?_
      refine C.aloadN db12_120 rfl rfl ?_
      refine C.bipush (9) db12_121 rfl ?_
      refine C.caload db12_123 (A.ext Ei) (by decide) rfl (ints_get hc) ?_
      refine C.castore (i := 9) db12_124 Ai (by decide) rfl (by unfold pre; rw [List.length_append, ints_length, List.length_take, List.length_replicate]; omega) no ?_
      intro h2 W2 A2
      rw [nar_char ic, pre_step (i := 9) q' (by omega) hc] at A2
      exact g10 h2 (ext_of_wr Ei W2 (by omega)) A2
  have g8 : ∀ hi, Ext h hi → Arl Z hi o .char (pre cs 8 N) → OwnW.Goes p l e (RM 0 0 1 13) s m #[.ref b, .int (Int32.ofNat N)] below meth c Z EL nw (rR fun v h' => ∃ t, v = .ref t ∧ h.size ≤ t ∧ Ext h h' ∧ Arl Z h' t .char (ints (cs.take N))) [o] h.size hi (0 + 1) (0 + N) (mkF m 97 ⟨[.val (.ref b), .val (.int (Int32.ofNat N)), .val (.ref o)]⟩ []) := by
    intro hi Ei Ai
    refine C.iloadN db12_97 rfl ?_
    refine C.bipush (8) db12_98 rfl ?_
    refine C.icmp_le db12_100 (fun q => ?_) (fun q => ?_)
    · refine g9 hi Ei ?_
      have q' : N ≤ 8 := by rw [nlt, ofNat_toInt (by omega)] at q; have e : (8 : Int32).toInt = 8 := rfl; omega
      rw [← pre_skip q']; exact Ai
    · have q' : 8 < N := by rw [ilt, ofNat_toInt (by omega)] at q; have e : (8 : Int32).toInt = 8 := rfl; omega
      have hc : cs[8]? = some cs[8] := List.getElem?_eq_getElem (by omega)
      have ic := hC _ (List.getElem_mem (l := cs) (n := 8) (by omega))
      generalize cs[8] = ch at hc ic
      refine C.aloadN db12_103 rfl rfl ?_
      refine C.bipush (8) db12_104 rfl ?_
      refine C.aloadN db12_106 rfl rfl ?_
      refine C.bipush (8) db12_107 rfl ?_
      refine C.caload db12_109 (A.ext Ei) (by decide) rfl (ints_get hc) ?_
      refine C.castore (i := 8) db12_110 Ai (by decide) rfl (by unfold pre; rw [List.length_append, ints_length, List.length_take, List.length_replicate]; omega) no ?_
      intro h2 W2 A2
      rw [nar_char ic, pre_step (i := 8) q' (by omega) hc] at A2
      exact g9 h2 (ext_of_wr Ei W2 (by omega)) A2
  have g7 : ∀ hi, Ext h hi → Arl Z hi o .char (pre cs 7 N) → OwnW.Goes p l e (RM 0 0 1 13) s m #[.ref b, .int (Int32.ofNat N)] below meth c Z EL nw (rR fun v h' => ∃ t, v = .ref t ∧ h.size ≤ t ∧ Ext h h' ∧ Arl Z h' t .char (ints (cs.take N))) [o] h.size hi (0 + 1) (0 + N) (mkF m 83 ⟨[.val (.ref b), .val (.int (Int32.ofNat N)), .val (.ref o)]⟩ []) := by
    intro hi Ei Ai
    refine C.iloadN db12_83 rfl ?_
    refine C.bipush (7) db12_84 rfl ?_
    refine C.icmp_le db12_86 (fun q => ?_) (fun q => ?_)
    · refine g8 hi Ei ?_
      have q' : N ≤ 7 := by rw [nlt, ofNat_toInt (by omega)] at q; have e : (7 : Int32).toInt = 7 := rfl; omega
      rw [← pre_skip q']; exact Ai
    · have q' : 7 < N := by rw [ilt, ofNat_toInt (by omega)] at q; have e : (7 : Int32).toInt = 7 := rfl; omega
      have hc : cs[7]? = some cs[7] := List.getElem?_eq_getElem (by omega)
      have ic := hC _ (List.getElem_mem (l := cs) (n := 7) (by omega))
      generalize cs[7] = ch at hc ic
      refine C.aloadN db12_89 rfl rfl ?_
      refine C.bipush (7) db12_90 rfl ?_
      refine C.aloadN db12_92 rfl rfl ?_
      refine C.bipush (7) db12_93 rfl ?_
      refine C.caload db12_95 (A.ext Ei) (by decide) rfl (ints_get hc) ?_
      refine C.castore (i := 7) db12_96 Ai (by decide) rfl (by unfold pre; rw [List.length_append, ints_length, List.length_take, List.length_replicate]; omega) no ?_
      intro h2 W2 A2
      rw [nar_char ic, pre_step (i := 7) q' (by omega) hc] at A2
      exact g8 h2 (ext_of_wr Ei W2 (by omega)) A2
  have g6 : ∀ hi, Ext h hi → Arl Z hi o .char (pre cs 6 N) → OwnW.Goes p l e (RM 0 0 1 13) s m #[.ref b, .int (Int32.ofNat N)] below meth c Z EL nw (rR fun v h' => ∃ t, v = .ref t ∧ h.size ≤ t ∧ Ext h h' ∧ Arl Z h' t .char (ints (cs.take N))) [o] h.size hi (0 + 1) (0 + N) (mkF m 69 ⟨[.val (.ref b), .val (.int (Int32.ofNat N)), .val (.ref o)]⟩ []) := by
    intro hi Ei Ai
    refine C.iloadN db12_69 rfl ?_
    refine C.bipush (6) db12_70 rfl ?_
    refine C.icmp_le db12_72 (fun q => ?_) (fun q => ?_)
    · refine g7 hi Ei ?_
      have q' : N ≤ 6 := by rw [nlt, ofNat_toInt (by omega)] at q; have e : (6 : Int32).toInt = 6 := rfl; omega
      rw [← pre_skip q']; exact Ai
    · have q' : 6 < N := by rw [ilt, ofNat_toInt (by omega)] at q; have e : (6 : Int32).toInt = 6 := rfl; omega
      have hc : cs[6]? = some cs[6] := List.getElem?_eq_getElem (by omega)
      have ic := hC _ (List.getElem_mem (l := cs) (n := 6) (by omega))
      generalize cs[6] = ch at hc ic
      refine C.aloadN db12_75 rfl rfl ?_
      refine C.bipush (6) db12_76 rfl ?_
      refine C.aloadN db12_78 rfl rfl ?_
      refine C.bipush (6) db12_79 rfl ?_
      refine C.caload db12_81 (A.ext Ei) (by decide) rfl (ints_get hc) ?_
      refine C.castore (i := 6) db12_82 Ai (by decide) rfl (by unfold pre; rw [List.length_append, ints_length, List.length_take, List.length_replicate]; omega) no ?_
      intro h2 W2 A2
      rw [nar_char ic, pre_step (i := 6) q' (by omega) hc] at A2
      exact g7 h2 (ext_of_wr Ei W2 (by omega)) A2
  have g5 : ∀ hi, Ext h hi → Arl Z hi o .char (pre cs 5 N) → OwnW.Goes p l e (RM 0 0 1 13) s m #[.ref b, .int (Int32.ofNat N)] below meth c Z EL nw (rR fun v h' => ∃ t, v = .ref t ∧ h.size ≤ t ∧ Ext h h' ∧ Arl Z h' t .char (ints (cs.take N))) [o] h.size hi (0 + 1) (0 + N) (mkF m 58 ⟨[.val (.ref b), .val (.int (Int32.ofNat N)), .val (.ref o)]⟩ []) := by
    intro hi Ei Ai
    refine C.iloadN db12_58 rfl ?_
    refine C.iconst (5) db12_59 rfl ?_
    refine C.icmp_le db12_60 (fun q => ?_) (fun q => ?_)
    · refine g6 hi Ei ?_
      have q' : N ≤ 5 := by rw [nlt, ofNat_toInt (by omega)] at q; have e : (5 : Int32).toInt = 5 := rfl; omega
      rw [← pre_skip q']; exact Ai
    · have q' : 5 < N := by rw [ilt, ofNat_toInt (by omega)] at q; have e : (5 : Int32).toInt = 5 := rfl; omega
      have hc : cs[5]? = some cs[5] := List.getElem?_eq_getElem (by omega)
      have ic := hC _ (List.getElem_mem (l := cs) (n := 5) (by omega))
      generalize cs[5] = ch at hc ic
      refine C.aloadN db12_63 rfl rfl ?_
      refine C.iconst (5) db12_64 rfl ?_
      refine C.aloadN db12_65 rfl rfl ?_
      refine C.iconst (5) db12_66 rfl ?_
      refine C.caload db12_67 (A.ext Ei) (by decide) rfl (ints_get hc) ?_
      refine C.castore (i := 5) db12_68 Ai (by decide) rfl (by unfold pre; rw [List.length_append, ints_length, List.length_take, List.length_replicate]; omega) no ?_
      intro h2 W2 A2
      rw [nar_char ic, pre_step (i := 5) q' (by omega) hc] at A2
      exact g6 h2 (ext_of_wr Ei W2 (by omega)) A2
  have g4 : ∀ hi, Ext h hi → Arl Z hi o .char (pre cs 4 N) → OwnW.Goes p l e (RM 0 0 1 13) s m #[.ref b, .int (Int32.ofNat N)] below meth c Z EL nw (rR fun v h' => ∃ t, v = .ref t ∧ h.size ≤ t ∧ Ext h h' ∧ Arl Z h' t .char (ints (cs.take N))) [o] h.size hi (0 + 1) (0 + N) (mkF m 47 ⟨[.val (.ref b), .val (.int (Int32.ofNat N)), .val (.ref o)]⟩ []) := by
    intro hi Ei Ai
    refine C.iloadN db12_47 rfl ?_
    refine C.iconst (4) db12_48 rfl ?_
    refine C.icmp_le db12_49 (fun q => ?_) (fun q => ?_)
    · refine g5 hi Ei ?_
      have q' : N ≤ 4 := by rw [nlt, ofNat_toInt (by omega)] at q; have e : (4 : Int32).toInt = 4 := rfl; omega
      rw [← pre_skip q']; exact Ai
    · have q' : 4 < N := by rw [ilt, ofNat_toInt (by omega)] at q; have e : (4 : Int32).toInt = 4 := rfl; omega
      have hc : cs[4]? = some cs[4] := List.getElem?_eq_getElem (by omega)
      have ic := hC _ (List.getElem_mem (l := cs) (n := 4) (by omega))
      generalize cs[4] = ch at hc ic
      refine C.aloadN db12_52 rfl rfl ?_
      refine C.iconst (4) db12_53 rfl ?_
      refine C.aloadN db12_54 rfl rfl ?_
      refine C.iconst (4) db12_55 rfl ?_
      refine C.caload db12_56 (A.ext Ei) (by decide) rfl (ints_get hc) ?_
      refine C.castore (i := 4) db12_57 Ai (by decide) rfl (by unfold pre; rw [List.length_append, ints_length, List.length_take, List.length_replicate]; omega) no ?_
      intro h2 W2 A2
      rw [nar_char ic, pre_step (i := 4) q' (by omega) hc] at A2
      exact g5 h2 (ext_of_wr Ei W2 (by omega)) A2
  have g3 : ∀ hi, Ext h hi → Arl Z hi o .char (pre cs 3 N) → OwnW.Goes p l e (RM 0 0 1 13) s m #[.ref b, .int (Int32.ofNat N)] below meth c Z EL nw (rR fun v h' => ∃ t, v = .ref t ∧ h.size ≤ t ∧ Ext h h' ∧ Arl Z h' t .char (ints (cs.take N))) [o] h.size hi (0 + 1) (0 + N) (mkF m 36 ⟨[.val (.ref b), .val (.int (Int32.ofNat N)), .val (.ref o)]⟩ []) := by
    intro hi Ei Ai
    refine C.iloadN db12_36 rfl ?_
    refine C.iconst (3) db12_37 rfl ?_
    refine C.icmp_le db12_38 (fun q => ?_) (fun q => ?_)
    · refine g4 hi Ei ?_
      have q' : N ≤ 3 := by rw [nlt, ofNat_toInt (by omega)] at q; have e : (3 : Int32).toInt = 3 := rfl; omega
      rw [← pre_skip q']; exact Ai
    · have q' : 3 < N := by rw [ilt, ofNat_toInt (by omega)] at q; have e : (3 : Int32).toInt = 3 := rfl; omega
      have hc : cs[3]? = some cs[3] := List.getElem?_eq_getElem (by omega)
      have ic := hC _ (List.getElem_mem (l := cs) (n := 3) (by omega))
      generalize cs[3] = ch at hc ic
      refine C.aloadN db12_41 rfl rfl ?_
      refine C.iconst (3) db12_42 rfl ?_
      refine C.aloadN db12_43 rfl rfl ?_
      refine C.iconst (3) db12_44 rfl ?_
      refine C.caload db12_45 (A.ext Ei) (by decide) rfl (ints_get hc) ?_
      refine C.castore (i := 3) db12_46 Ai (by decide) rfl (by unfold pre; rw [List.length_append, ints_length, List.length_take, List.length_replicate]; omega) no ?_
      intro h2 W2 A2
      rw [nar_char ic, pre_step (i := 3) q' (by omega) hc] at A2
      exact g4 h2 (ext_of_wr Ei W2 (by omega)) A2
  have g2 : ∀ hi, Ext h hi → Arl Z hi o .char (pre cs 2 N) → OwnW.Goes p l e (RM 0 0 1 13) s m #[.ref b, .int (Int32.ofNat N)] below meth c Z EL nw (rR fun v h' => ∃ t, v = .ref t ∧ h.size ≤ t ∧ Ext h h' ∧ Arl Z h' t .char (ints (cs.take N))) [o] h.size hi (0 + 1) (0 + N) (mkF m 25 ⟨[.val (.ref b), .val (.int (Int32.ofNat N)), .val (.ref o)]⟩ []) := by
    intro hi Ei Ai
    refine C.iloadN db12_25 rfl ?_
    refine C.iconst (2) db12_26 rfl ?_
    refine C.icmp_le db12_27 (fun q => ?_) (fun q => ?_)
    · refine g3 hi Ei ?_
      have q' : N ≤ 2 := by rw [nlt, ofNat_toInt (by omega)] at q; have e : (2 : Int32).toInt = 2 := rfl; omega
      rw [← pre_skip q']; exact Ai
    · have q' : 2 < N := by rw [ilt, ofNat_toInt (by omega)] at q; have e : (2 : Int32).toInt = 2 := rfl; omega
      have hc : cs[2]? = some cs[2] := List.getElem?_eq_getElem (by omega)
      have ic := hC _ (List.getElem_mem (l := cs) (n := 2) (by omega))
      generalize cs[2] = ch at hc ic
      refine C.aloadN db12_30 rfl rfl ?_
      refine C.iconst (2) db12_31 rfl ?_
      refine C.aloadN db12_32 rfl rfl ?_
      refine C.iconst (2) db12_33 rfl ?_
      refine C.caload db12_34 (A.ext Ei) (by decide) rfl (ints_get hc) ?_
      refine C.castore (i := 2) db12_35 Ai (by decide) rfl (by unfold pre; rw [List.length_append, ints_length, List.length_take, List.length_replicate]; omega) no ?_
      intro h2 W2 A2
      rw [nar_char ic, pre_step (i := 2) q' (by omega) hc] at A2
      exact g3 h2 (ext_of_wr Ei W2 (by omega)) A2
  have g1 : ∀ hi, Ext h hi → Arl Z hi o .char (pre cs 1 N) → OwnW.Goes p l e (RM 0 0 1 13) s m #[.ref b, .int (Int32.ofNat N)] below meth c Z EL nw (rR fun v h' => ∃ t, v = .ref t ∧ h.size ≤ t ∧ Ext h h' ∧ Arl Z h' t .char (ints (cs.take N))) [o] h.size hi (0 + 1) (0 + N) (mkF m 14 ⟨[.val (.ref b), .val (.int (Int32.ofNat N)), .val (.ref o)]⟩ []) := by
    intro hi Ei Ai
    refine C.iloadN db12_14 rfl ?_
    refine C.iconst (1) db12_15 rfl ?_
    refine C.icmp_le db12_16 (fun q => ?_) (fun q => ?_)
    · refine g2 hi Ei ?_
      have q' : N ≤ 1 := by rw [nlt, ofNat_toInt (by omega)] at q; have e : (1 : Int32).toInt = 1 := rfl; omega
      rw [← pre_skip q']; exact Ai
    · have q' : 1 < N := by rw [ilt, ofNat_toInt (by omega)] at q; have e : (1 : Int32).toInt = 1 := rfl; omega
      have hc : cs[1]? = some cs[1] := List.getElem?_eq_getElem (by omega)
      have ic := hC _ (List.getElem_mem (l := cs) (n := 1) (by omega))
      generalize cs[1] = ch at hc ic
      refine C.aloadN db12_19 rfl rfl ?_
      refine C.iconst (1) db12_20 rfl ?_
      refine C.aloadN db12_21 rfl rfl ?_
      refine C.iconst (1) db12_22 rfl ?_
      refine C.caload db12_23 (A.ext Ei) (by decide) rfl (ints_get hc) ?_
      refine C.castore (i := 1) db12_24 Ai (by decide) rfl (by unfold pre; rw [List.length_append, ints_length, List.length_take, List.length_replicate]; omega) no ?_
      intro h2 W2 A2
      rw [nar_char ic, pre_step (i := 1) q' (by omega) hc] at A2
      exact g2 h2 (ext_of_wr Ei W2 (by omega)) A2
  have g0 : ∀ hi, Ext h hi → Arl Z hi o .char (pre cs 0 N) → OwnW.Goes p l e (RM 0 0 1 13) s m #[.ref b, .int (Int32.ofNat N)] below meth c Z EL nw (rR fun v h' => ∃ t, v = .ref t ∧ h.size ≤ t ∧ Ext h h' ∧ Arl Z h' t .char (ints (cs.take N))) [o] h.size hi (0 + 1) (0 + N) (mkF m 4 ⟨[.val (.ref b), .val (.int (Int32.ofNat N)), .val (.ref o)]⟩ []) := by
    intro hi Ei Ai
    refine C.iloadN db12_4 rfl ?_
    refine C.if_le db12_5 (fun q => ?_) (fun q => ?_)
    · refine g1 hi Ei ?_
      have q' : N ≤ 0 := by rw [nlt, ofNat_toInt (by omega)] at q; have e : (0 : Int32).toInt = 0 := rfl; omega
      rw [← pre_skip q']; exact Ai
    · have q' : 0 < N := by rw [ilt, ofNat_toInt (by omega)] at q; have e : (0 : Int32).toInt = 0 := rfl; omega
      have hc : cs[0]? = some cs[0] := List.getElem?_eq_getElem (by omega)
      have ic := hC _ (List.getElem_mem (l := cs) (n := 0) (by omega))
      generalize cs[0] = ch at hc ic
      refine C.aloadN db12_8 rfl rfl ?_
      refine C.iconst (0) db12_9 rfl ?_
      refine C.aloadN db12_10 rfl rfl ?_
      refine C.iconst (0) db12_11 rfl ?_
      refine C.caload db12_12 (A.ext Ei) (by decide) rfl (ints_get hc) ?_
      refine C.castore (i := 0) db12_13 Ai (by decide) rfl (by unfold pre; rw [List.length_append, ints_length, List.length_take, List.length_replicate]; omega) no ?_
      intro h2 W2 A2
      rw [nar_char ic, pre_step (i := 0) q' (by omega) hc] at A2
      exact g1 h2 (ext_of_wr Ei W2 (by omega)) A2
  refine g0 h1 E1 ?_
  have e : pre cs 0 N = List.replicate N (.int 0) := by unfold pre; simp [ints]
  rw [e]; exact A1
theorem P_values (B : Base Z a0 EL) {h : Heap} {va : Addr} {vs : List Value} (S : Sta Z Z.heap "no/nordsegl/rules/SchemaType" "$VALUES" "[Lno/nordsegl/rules/SchemaType;" (.ref va)) (A : Arl Z h va (.object "no/nordsegl/rules/SchemaType") vs) (X : Exa Z h va "[Lno/nordsegl/rules/SchemaType;") (hq : vs.length = 1) : Con l Z EL nw (⟨"no/nordsegl/rules/SchemaType", "values", "()[Lno/nordsegl/rules/SchemaType;"⟩ : MethodName) prog_98_method_1_code 0 (some (.array (.object "no/nordsegl/rules/SchemaType"))) (RM 1 14 1 1) [] #[] h (rR fun v h' => ∃ b, v = .ref b ∧ Ext h h' ∧ Arl Z h' b (.object "no/nordsegl/rules/SchemaType") vs) := by
  refine Con.of (plainFor_of_name (by decide +kernel)) B.1 B.2.1 ⟨[]⟩ (fun m => rfl) ?_
  intro p e s m below meth c _ C
  refine C.getS db13_0 tw46 S ?_
  refine C.cloneA db13_3 tw48 tw49 tw53 tw51 tw52 tw54 A X rfl (le rfl) (le rfl) hq (le rfl) (le rfl) ?_
  intro h1 b g1 E1 A1 X1
  refine C.checkcast db13_6 tw56 (Ins.self X1) ?_
  exact C.areturn db13_9 rfl rfl rfl rfl ⟨_, rfl, b, rfl, E1, A1⟩ (le rfl) (le rfl)
theorem P_of (B : Base Z a0 EL) {h : Heap} {a : Addr} {cs : List Int32} {va ea pa : Addr} (S : Sta Z Z.heap "no/nordsegl/rules/SchemaType" "$VALUES" "[Lno/nordsegl/rules/SchemaType;" (.ref va)) (A : Arl Z Z.heap va (.object "no/nordsegl/rules/SchemaType") [.ref ea]) (X : Exa Z Z.heap va "[Lno/nordsegl/rules/SchemaType;") (Fp : Fld Z Z.heap ea "no/nordsegl/rules/SchemaType" "path" "Ljava/lang/String;" (.ref pa)) (Sp : StrAt Z Z.heap pa bs) (O : Ext Z.heap h) (Sa : StrAt Z h a cs) : Con l Z EL nw (⟨"no/nordsegl/rules/SchemaType", "of", "(Ljava/lang/String;)Lno/nordsegl/rules/SchemaType;"⟩ : MethodName) prog_98_method_4_code 5 (some (.object "no/nordsegl/rules/SchemaType")) (RM 2 32 1 1) [] #[.ref a] h (rR fun v h' => ((v = .ref ea ∧ bs = cs) ∨ (v = .null ∧ bs ≠ cs)) ∧ Ext h h') := by
  refine Con.of (plainFor_of_name (by decide +kernel)) B.1 B.2.1 ⟨[.val (.ref a), .unset, .unset, .unset, .unset]⟩ (fun m => rfl) ?_
  intro p e s m below meth c _ C
  refine C.s0R db14_0 tw43 tw44 tw41 tw45 (by decide) (by decide +kernel) rfl nof (P_values B S (A.ext O) (X.ext O) rfl) (le rfl) (le rfl) (le rfl) (le rfl) ?_
  rintro _ h1 ⟨b, rfl, E1, A1⟩
  refine C.astoreN db14_3 rfl rfl rfl ?_
  refine C.aloadN db14_4 rfl rfl ?_
  refine C.arraylength db14_5 A1 ?_
  rw [show Int32.ofNat [Value.ref ea].length = 1 from rfl]
  refine C.istoreN db14_6 rfl rfl ?_
  refine C.iconst (0) db14_7 rfl ?_
  refine C.istoreN db14_8 rfl rfl ?_
  refine C.iloadN db14_9 rfl ?_
  refine C.iloadN db14_10 rfl ?_
  refine C.icmp_ge db14_11 (fun q => absurd (by decide) q) (fun _ => ?_)
  refine C.aloadN db14_14 rfl rfl ?_
  refine C.iloadN db14_15 rfl ?_
  refine C.aaload db14_16 A1 rfl (by decide) rfl rfl ?_
  refine C.astore db14_17 rfl rfl rfl ?_
  refine C.aload db14_19 rfl rfl ?_
  refine C.getF db14_21 tw58 ((Fp.ext O).ext E1) ?_
  refine C.aloadN db14_24 rfl rfl ?_
  refine C.v1R db14_25 tw60 tw61 tw63 tw62 tw1 tw64 (by decide) (by decide +kernel) rfl nof ((Sp.ext O).ext E1).exa (fun _ q => notFace_of_selects q) (J_eq B ((Sp.ext O).ext E1) (Sa.ext E1)) (le rfl) (le rfl) (le rfl) (le rfl) ?_
  rintro v _ ⟨hv, rfl⟩
  rcases hv with ⟨rfl, q⟩ | ⟨rfl, q⟩
  · refine C.if_eq db14_28 (fun z => absurd z (by decide)) (fun _ => ?_)
    refine C.aload db14_31 rfl rfl ?_
    exact C.areturn db14_33 rfl rfl rfl rfl ⟨_, rfl, Or.inl ⟨rfl, q⟩, E1⟩ (le rfl) (le rfl)
  · refine C.if_eq db14_28 (fun _ => ?_) (fun z => absurd rfl z)
    refine C.iinc (1) db14_34 rfl rfl ?_
    refine C.goto db14_37 ?_
    refine C.iloadN db14_9 rfl ?_
    refine C.iloadN db14_10 rfl ?_
    refine C.icmp_ge db14_11 (fun _ => ?_) (fun q => absurd q (by decide))
    refine C.aconst_null db14_40 ?_
    exact C.areturn db14_41 rfl rfl rfl rfl ⟨_, rfl, Or.inr ⟨rfl, q⟩, E1⟩ (le rfl) (le rfl)
theorem P_law (B : Base Z a0 consts_1) {x0 x1 x2 x3 : Int32} {va ea pa : Addr} (S : Sta Z Z.heap "no/nordsegl/rules/SchemaType" "$VALUES" "[Lno/nordsegl/rules/SchemaType;" (.ref va)) (A : Arl Z Z.heap va (.object "no/nordsegl/rules/SchemaType") [.ref ea]) (X : Exa Z Z.heap va "[Lno/nordsegl/rules/SchemaType;") (Fp : Fld Z Z.heap ea "no/nordsegl/rules/SchemaType" "path" "Ljava/lang/String;" (.ref pa)) (Sp : StrAt Z Z.heap pa bs) (Sid : Sta Z Z.heap "no/nordsegl/rules/SchemaType" "ID" "Lno/nordsegl/rules/SchemaType;" (.ref ea)) : Con l Z consts_1 false x code maxLocals ret room_1 [] #[.int x0, .int x1, .int x2, .int x3] Z.heap (rR fun v _ => v = .int 1) := by
  have hmem : ("java/lang/String", 7) ∈ consts_1 := List.mem_cons_self
  refine Con.of (plainFor_of_name (by decide +kernel)) B.1 B.2.1 ⟨[.val (.int x0), .val (.int x1), .val (.int x2), .val (.int x3), .unset, .unset, .unset, .unset, .unset, .unset, .unset, .unset, .unset, .unset]⟩ (fun m => rfl) ?_
  intro p e s m below meth c _ C
  have tail4 : ∀ (w : Nat) (h4 : Heap) (sc ar ti a : Addr) (N ps : Nat) (mu ch ex : Int32) (cs : List Int32), Ext Z.heap h4 → StrAt Z h4 a cs → ((ex = 1 ∧ bs = cs) ∨ (ex = 0 ∧ bs ≠ cs)) → OwnW.Goes p l e room_1 s m #[.int x0, .int x1, .int x2, .int x3] below meth c Z consts_1 false (rR fun v _ => v = .int 1) [] w h4 14 400 (mkF m 251 ⟨[.val (.int x0), .val (.int x1), .val (.int x2), .val (.int x3), .val (.ref sc), .val (.ref ar), .val (.ref ti), .val (.int (Int32.ofNat N)), .val (.int mu), .val (.int (Int32.ofNat ps)), .val (.int ch), .val (.ref a), .val (.int ex), .unset]⟩ []) := by
    intro w h4 sc ar ti a N ps mu ch ex cs O4 Sa hex
    refine C.aload dL_251 rfl rfl ?_
    refine C.s1R dL_253 tw39 tw40 tw41 tw42 (by decide) (by decide +kernel) rfl nof (P_of B S A X Fp Sp O4 Sa) (le rfl) (le rfl) (le rfl) (le rfl) ?_
    rintro v h5 ⟨hv, E5⟩
    rcases hv with ⟨rfl, q⟩ | ⟨rfl, q⟩
    · rcases hex with ⟨rfl, y⟩ | ⟨rfl, y⟩
      · refine C.astore dL_256 rfl rfl rfl ?_
        refine C.iload dL_258 rfl ?_
        refine C.if_eq dL_260 (fun z => absurd z (by decide)) (fun _ => ?_)
        refine C.aload dL_263 rfl rfl ?_
        refine C.getS dL_265 tw70 Sid ?_
        refine C.acmp_ne dL_268 rfl rfl (fun z => absurd rfl z) (fun _ => ?_)
        refine C.iconst (1) dL_271 rfl ?_
        refine C.goto dL_272 ?_
        exact C.ireturn dL_289 rfl (Or.inr (Or.inl rfl)) rfl ⟨_, rfl, rfl⟩ (le rfl) (le rfl)
      · exact absurd q y
    · rcases hex with ⟨rfl, y⟩ | ⟨rfl, y⟩
      · exact absurd y q
      · refine C.astore dL_256 rfl rfl rfl ?_
        refine C.iload dL_258 rfl ?_
        refine C.if_eq dL_260 (fun _ => ?_) (fun z => absurd rfl z)
        refine C.aload dL_279 rfl rfl ?_
        refine C.ifnonnullN dL_281 ?_
        refine C.iconst (1) dL_284 rfl ?_
        refine C.goto dL_285 ?_
        exact C.ireturn dL_289 rfl (Or.inr (Or.inl rfl)) rfl ⟨_, rfl, rfl⟩ (le rfl) (le rfl)
  have tail3 : ∀ (w : Nat) (h3 : Heap) (sc ar ti a : Addr) (cs : List Int32) (N ps : Nat) (mu ch c3 : Int32), (N = 0 ∨ N = 11 ∨ N = 12 ∨ N = 13) → ps < 13 → IsL ch → IsL c3 → ((mu = 0 ∧ cs = bs ++ [c3]) ∨ (mu = 1 ∧ cs = (bs ++ [c3]).set ps ch)) → Ext Z.heap h3 → StrAt Z h3 sc bs → StrAt Z h3 a (cs.take N) → OwnW.Goes p l e room_1 s m #[.int x0, .int x1, .int x2, .int x3] below meth c Z consts_1 false (rR fun v _ => v = .int 1) [] w h3 14 400 (mkF m 201 ⟨[.val (.int x0), .val (.int x1), .val (.int x2), .val (.int x3), .val (.ref sc), .val (.ref ar), .val (.ref ti), .val (.int (Int32.ofNat N)), .val (.int mu), .val (.int (Int32.ofNat ps)), .val (.int ch), .val (.ref a), .unset, .unset]⟩ []) := by
    intro w h3 sc ar ti a cs N ps mu ch c3 hN hps hch hc3 hcs O3 Sc Sa
    have bl : bs.length = 12 := rfl
    have e12 : (12 : Int32) = Int32.ofNat 12 := rfl
    refine C.iload dL_201 rfl ?_
    refine C.bipush (12) dL_203 rfl ?_
    refine C.icmp_eq dL_205 (fun q => ?_) (fun q => ?_)
    · rw [e12] at q
      have q' : N = 12 := ofNat_inj (by omega) (by omega) q
      subst q'
      refine C.iload dL_214 rfl ?_
      rcases hcs with ⟨rfl, rfl⟩ | ⟨rfl, rfl⟩
      · refine C.if_eq dL_216 (fun _ => ?_) (fun z => absurd rfl z)
        refine C.iconst (1) dL_226 rfl ?_
        refine C.istore dL_227 rfl rfl ?_
        refine C.goto dL_229 ?_
        exact tail4 _ _ _ _ _ _ _ _ _ _ _ _ O3 Sa (Or.inl ⟨rfl, rfl⟩)
      · refine C.if_eq dL_216 (fun z => absurd z (by decide)) (fun _ => ?_)
        refine C.iload dL_219 rfl ?_
        refine C.bipush (12) dL_221 rfl ?_
        refine C.icmp_lt dL_223 (fun z => ?_) (fun z => ?_)
        · rw [e12, ofNat_lt (by omega) (by omega)] at z
          have hb : bs[ps]? = some bs[ps] := List.getElem?_eq_getElem (by omega)
          have e0 : (bs ++ [c3]).set ps ch = bs.set ps ch ++ [c3] := List.set_append_left _ _ (by omega)
          have e1 : ((bs ++ [c3]).set ps ch).take 12 = bs.set ps ch := by rw [e0, List.take_append_of_le_length (by simp [bl])]; exact List.take_of_length_le (by simp [bl])
          rw [e1] at Sa
          refine C.iload dL_232 rfl ?_
          refine C.aload dL_234 rfl rfl ?_
          refine C.iload dL_236 rfl ?_
          refine C.v1R dL_238 tw72 tw73 tw75 tw74 tw1 tw76 (by decide) (by decide +kernel) rfl nof Sc.exa (fun _ q => notFace_of_selects q) (J_chl B (i := ps) Sc (fun c hc => (bsL c hc).2.2) hb) (le rfl) (le rfl) (le rfl) (le rfl) ?_
          rintro _ _ ⟨rfl, rfl⟩
          refine C.icmp_ne dL_241 (fun y => ?_) (fun y => ?_)
          · refine C.iconst (0) dL_248 rfl ?_
            refine C.istore dL_249 rfl rfl ?_
            refine tail4 _ _ _ _ _ _ _ _ _ _ _ _ O3 Sa (Or.inr ⟨rfl, fun u => y ?_⟩)
            have u' := congrArg (fun l => l[ps]?) u
            simp only [hb, List.getElem?_set_self (show ps < bs.length by omega), Option.some.injEq] at u'
            exact u'.symm
          · refine C.iconst (1) dL_244 rfl ?_
            refine C.goto dL_245 ?_
            refine C.istore dL_249 rfl rfl ?_
            refine tail4 _ _ _ _ _ _ _ _ _ _ _ _ O3 Sa (Or.inl ⟨rfl, ?_⟩)
            rw [y]; exact (List.set_getElem_self (by omega)).symm
        · rw [e12, ofNat_lt (by omega) (by omega)] at z
          obtain rfl : ps = 12 := by omega
          refine C.iconst (1) dL_226 rfl ?_
          refine C.istore dL_227 rfl rfl ?_
          refine C.goto dL_229 ?_
          exact tail4 _ _ _ _ _ _ _ _ _ _ _ _ O3 Sa (Or.inl ⟨rfl, rfl⟩)
    · have q' : N ≠ 12 := fun z => q (by rw [z]; rfl)
      refine C.iconst (0) dL_208 rfl ?_
      refine C.istore dL_209 rfl rfl ?_
      refine C.goto dL_211 ?_
      refine tail4 _ _ _ _ _ _ _ _ _ _ _ _ O3 Sa (Or.inr ⟨rfl, fun u => q' ?_⟩)
      have hl : cs.length = 13 := by rcases hcs with ⟨-, rfl⟩ | ⟨-, rfl⟩ <;> simp [bl]
      have u' := congrArg List.length u
      rw [bl, List.length_take, hl] at u'
      omega
  have tail2 : ∀ (w : Nat) (h2 : Heap) (sc ar ti : Addr) (cs : List Int32) (N ps : Nat) (mu ch c3 : Int32), (N = 0 ∨ N = 11 ∨ N = 12 ∨ N = 13) → ps < 13 → IsL ch → IsL c3 → ((mu = 0 ∧ cs = bs ++ [c3]) ∨ (mu = 1 ∧ cs = (bs ++ [c3]).set ps ch)) → Ext Z.heap h2 → StrAt Z h2 sc bs → Arl Z h2 ar .char (ints cs) → OwnW.Goes p l e room_1 s m #[.int x0, .int x1, .int x2, .int x3] below meth c Z consts_1 false (rR fun v _ => v = .int 1) [] w h2 4 73 (mkF m 185 ⟨[.val (.int x0), .val (.int x1), .val (.int x2), .val (.int x3), .val (.ref sc), .val (.ref ar), .val (.ref ti), .val (.int (Int32.ofNat N)), .val (.int mu), .val (.int (Int32.ofNat ps)), .val (.int ch), .unset, .unset, .unset]⟩ []) := by
    intro w h2 sc ar ti cs N ps mu ch c3 hN hps hch hc3 hcs O2 Sc A2
    have bl : bs.length = 12 := rfl
    have hl : cs.length = 13 := by rcases hcs with ⟨-, rfl⟩ | ⟨-, rfl⟩ <;> simp [bl]
    have hC : ∀ c ∈ cs, IsL c := by
      have h0 : ∀ c ∈ bs ++ [c3], IsL c := by
        intro c hc; simp only [List.mem_append, List.mem_singleton] at hc
        rcases hc with hc | rfl
        · exact (bsL c hc).2
        · exact hc3
      rcases hcs with ⟨-, rfl⟩ | ⟨-, rfl⟩
      · exact h0
      · intro c hc
        rcases List.mem_or_eq_of_mem_set hc with hc | rfl
        · exact h0 c hc
        · exact hch
    refine C.new dL_185 tw11 tw2 tw1 (le rfl) (le rfl) ?_
    intro h3 a g3 E3 X3 D3
    have Fv := D3 (Or.inr (C.wrd tw4)) (ty := (.array .byte)) (by decide +kernel)
    have Fc := D3 (Or.inr (C.wrd tw5)) (ty := .byte) (by decide +kernel)
    have na : Z.heap.size ≤ a := by have := O2.1; omega
    refine C.dup dL_188 rfl ?_
    refine C.aload dL_189 rfl rfl ?_
    refine C.iload dL_191 rfl ?_
    refine C.s2R dL_193 tw12 tw13 tw14 tw15 (by decide) (by decide +kernel) rfl nof (P_prefix B hl (fun c hc => (hC c hc).isC) (by omega) (A2.ext E3)) (le rfl) (le rfl) (le rfl) (le rfl) ?_
    rintro _ h4 ⟨t, rfl, nt, E4, A4⟩
    replace X3 := X3.ext E4
    replace Fv := Fv.ext E4
    replace Fc := Fc.ext E4
    have O4 : Ext h2 h4 := ext_trans E3 E4
    rcases Nat.eq_zero_or_pos N with rfl | hp
    · refine C.c1 dL_196 rfl tw16 tw17 tw1 tw18 (by decide) (by decide +kernel) rfl (by simp) (J_new1e B hmem A4 na X3 Fv Fc) (le rfl) (le rfl) (le rfl) (le rfl) ?_
      rintro h5 ⟨K5, S5⟩
      have E5 : Ext h2 h5 := ext_of_keep O4 K5 (by simp; omega)
      refine C.astore dL_199 rfl rfl rfl ?_
      exact Goes.more (le rfl) (le rfl) (Goes.less (F' := []) nof0 (tail3 _ _ _ _ _ _ _ _ _ _ _ _ hN hps hch hc3 hcs (ext_trans O2 E5) (Sc.ext E5) S5))
    · have tl : (cs.take N).length = N := by rw [List.length_take]; omega
      refine C.c1 dL_196 rfl tw16 tw17 tw1 tw18 (by decide) (by decide +kernel) rfl (by simp) (J_new1l B (fun c hc => (hC c (List.mem_of_mem_take hc)).isC) (fun z => by rw [z] at tl; simp at tl; omega) (fun c hc => (hC c (List.mem_of_mem_take hc)).2) (by omega) A4 na X3 Fv Fc) (le rfl) (le rfl) (le rfl) (by rw [tl]; show 73 + _ + 13 + N ≤ 2240; omega) ?_
      rintro h5 ⟨K5, S5⟩
      have E5 : Ext h2 h5 := ext_of_keep O4 K5 (by simp; omega)
      refine C.astore dL_199 rfl rfl rfl ?_
      exact Goes.more (le rfl) (by rw [tl]; show 73 + _ + 13 + N ≤ 400; omega) (Goes.less (F' := []) nof0 (tail3 _ _ _ _ _ _ _ _ _ _ _ _ hN hps hch hc3 hcs (ext_trans O2 E5) (Sc.ext E5) S5))
  refine C.ldcS (vs := lat bs) 48 dL_0 rfl tw0 (J_atoms B) (by decide) ⟨by decide +kernel, by decide +kernel⟩ (by decide) (by decide +kernel) (le rfl) (le rfl) (le rfl) ?_
  intro h1 sc sb E1 X1 Fc1 Fv1 A1 _
  have Sc : StrAt Z h1 sc bs := ⟨sb, 0, lat bs, X1, Fv1, Fc1, A1, Or.inl ⟨rfl, rfl, fun c hc => (bsL c hc).2.2⟩, fun c hc => (bsL c hc).2.isC, by decide⟩
  refine C.astore dL_2 rfl rfl rfl ?_
  refine C.bipush (13) dL_4 rfl ?_
  refine C.newarray dL_6 tw8 (by decide) rfl (le rfl) (le rfl) (le rfl) ?_
  intro h2 ar g2 E2 l2 A2
  have nar' : Z.heap.size ≤ ar := by have := E1.1; omega
  have Eh := ext_trans E1 E2
  have Es : Ext h1 h2 := E2
  refine C.dup dL_8 rfl ?_
  refine C.iconst (0) dL_9 rfl ?_
  refine C.bipush (65) dL_10 rfl ?_
  refine C.castore dL_12 A2 (by decide) rfl (le rfl) nar' ?_
  intro h10 W10 A10
  rw [show nar .char (65 : Int32) = 65 from by decide] at A10
  replace Eh := ext_of_wr Eh W10 nar'
  replace Es := ext_of_wr Es W10 (by omega)
  clear A2
  have A2 := A10
  clear A10
  refine C.dup dL_13 rfl ?_
  refine C.iconst (1) dL_14 rfl ?_
  refine C.bipush (115) dL_15 rfl ?_
  refine C.castore dL_17 A2 (by decide) rfl (le rfl) nar' ?_
  intro h11 W11 A11
  rw [show nar .char (115 : Int32) = 115 from by decide] at A11
  replace Eh := ext_of_wr Eh W11 nar'
  replace Es := ext_of_wr Es W11 (by omega)
  clear A2
  have A2 := A11
  clear A11
  refine C.dup dL_18 rfl ?_
  refine C.iconst (2) dL_19 rfl ?_
  refine C.bipush (115) dL_20 rfl ?_
  refine C.castore dL_22 A2 (by decide) rfl (le rfl) nar' ?_
  intro h12 W12 A12
  rw [show nar .char (115 : Int32) = 115 from by decide] at A12
  replace Eh := ext_of_wr Eh W12 nar'
  replace Es := ext_of_wr Es W12 (by omega)
  clear A2
  have A2 := A12
  clear A12
  refine C.dup dL_23 rfl ?_
  refine C.iconst (3) dL_24 rfl ?_
  refine C.bipush (101) dL_25 rfl ?_
  refine C.castore dL_27 A2 (by decide) rfl (le rfl) nar' ?_
  intro h13 W13 A13
  rw [show nar .char (101 : Int32) = 101 from by decide] at A13
  replace Eh := ext_of_wr Eh W13 nar'
  replace Es := ext_of_wr Es W13 (by omega)
  clear A2
  have A2 := A13
  clear A13
  refine C.dup dL_28 rfl ?_
  refine C.iconst (4) dL_29 rfl ?_
  refine C.bipush (114) dL_30 rfl ?_
  refine C.castore dL_32 A2 (by decide) rfl (le rfl) nar' ?_
  intro h14 W14 A14
  rw [show nar .char (114 : Int32) = 114 from by decide] at A14
  replace Eh := ext_of_wr Eh W14 nar'
  replace Es := ext_of_wr Es W14 (by omega)
  clear A2
  have A2 := A14
  clear A14
  refine C.dup dL_33 rfl ?_
  refine C.iconst (5) dL_34 rfl ?_
  refine C.bipush (116) dL_35 rfl ?_
  refine C.castore dL_37 A2 (by decide) rfl (le rfl) nar' ?_
  intro h15 W15 A15
  rw [show nar .char (116 : Int32) = 116 from by decide] at A15
  replace Eh := ext_of_wr Eh W15 nar'
  replace Es := ext_of_wr Es W15 (by omega)
  clear A2
  have A2 := A15
  clear A15
  refine C.dup dL_38 rfl ?_
  refine C.bipush (6) dL_39 rfl ?_
  refine C.bipush (105) dL_41 rfl ?_
  refine C.castore dL_43 A2 (by decide) rfl (le rfl) nar' ?_
  intro h16 W16 A16
  rw [show nar .char (105 : Int32) = 105 from by decide] at A16
  replace Eh := ext_of_wr Eh W16 nar'
  replace Es := ext_of_wr Es W16 (by omega)
  clear A2
  have A2 := A16
  clear A16
  refine C.dup dL_44 rfl ?_
  refine C.bipush (7) dL_45 rfl ?_
  refine C.bipush (111) dL_47 rfl ?_
  refine C.castore dL_49 A2 (by decide) rfl (le rfl) nar' ?_
  intro h17 W17 A17
  rw [show nar .char (111 : Int32) = 111 from by decide] at A17
  replace Eh := ext_of_wr Eh W17 nar'
  replace Es := ext_of_wr Es W17 (by omega)
  clear A2
  have A2 := A17
  clear A17
  refine C.dup dL_50 rfl ?_
  refine C.bipush (8) dL_51 rfl ?_
  refine C.bipush (110) dL_53 rfl ?_
  refine C.castore dL_55 A2 (by decide) rfl (le rfl) nar' ?_
  intro h18 W18 A18
  rw [show nar .char (110 : Int32) = 110 from by decide] at A18
  replace Eh := ext_of_wr Eh W18 nar'
  replace Es := ext_of_wr Es W18 (by omega)
  clear A2
  have A2 := A18
  clear A18
  refine C.dup dL_56 rfl ?_
  refine C.bipush (9) dL_57 rfl ?_
  refine C.bipush (64) dL_59 rfl ?_
  refine C.castore dL_61 A2 (by decide) rfl (le rfl) nar' ?_
  intro h19 W19 A19
  rw [show nar .char (64 : Int32) = 64 from by decide] at A19
  replace Eh := ext_of_wr Eh W19 nar'
  replace Es := ext_of_wr Es W19 (by omega)
  clear A2
  have A2 := A19
  clear A19
  refine C.dup dL_62 rfl ?_
  refine C.bipush (10) dL_63 rfl ?_
  refine C.bipush (73) dL_65 rfl ?_
  refine C.castore dL_67 A2 (by decide) rfl (le rfl) nar' ?_
  intro h20 W20 A20
  rw [show nar .char (73 : Int32) = 73 from by decide] at A20
  replace Eh := ext_of_wr Eh W20 nar'
  replace Es := ext_of_wr Es W20 (by omega)
  clear A2
  have A2 := A20
  clear A20
  refine C.dup dL_68 rfl ?_
  refine C.bipush (11) dL_69 rfl ?_
  refine C.bipush (68) dL_71 rfl ?_
  refine C.castore dL_73 A2 (by decide) rfl (le rfl) nar' ?_
  intro h21 W21 A21
  rw [show nar .char (68 : Int32) = 68 from by decide] at A21
  replace Eh := ext_of_wr Eh W21 nar'
  replace Es := ext_of_wr Es W21 (by omega)
  clear A2
  have A2 := A21
  clear A21
  refine C.dup dL_74 rfl ?_
  refine C.bipush (12) dL_75 rfl ?_
  refine C.iloadN dL_77 rfl ?_
  refine C.sipush (255) dL_78 rfl ?_
  refine C.iand dL_81 ?_
  refine C.i2c dL_82 ?_
  refine C.castore dL_83 A2 (by decide) rfl (le rfl) nar' ?_
  intro h22 W22 A22
  rw [nar_char (isC_c16 _)] at A22
  replace Eh := ext_of_wr Eh W22 nar'
  replace Es := ext_of_wr Es W22 (by omega)
  clear A2
  have A2 := A22
  clear A22
  refine C.astore dL_84 rfl rfl rfl ?_
  refine C.bipush (8) dL_86 rfl ?_
  have c3L : IsL (c16 (x3 &&& 255)) := by rw [isC_isL (isL_and _)]; exact isL_and _
  generalize c16 (x3 &&& 255) = c3 at A2 c3L
  have A3 : Arl Z h22 ar .char (ints (bs ++ [c3])) := A2
  clear A2
  refine C.newarray dL_88 tw9 (by decide) rfl (le rfl) (le rfl) (le rfl) ?_
  intro h30 ti g30 E30 l30 A30
  have nti : Z.heap.size ≤ ti := by have := Eh.1; omega
  have at' : @Ne Nat ar ti := adr_ne A3.lt (Nat.le_of_eq g30.symm)
  have Eg := E30
  have A3' := A3.ext E30
  refine C.dup dL_90 rfl ?_
  refine C.iconst (0) dL_91 rfl ?_
  refine C.bipush (12) dL_92 rfl ?_
  refine C.iastore dL_94 A30 (by decide) rfl (le rfl) nti ?_
  intro h31 W31 A31
  replace Eg := ext_of_wr Eg W31 (by omega)
  clear A30
  have A30 := A31
  clear A31
  refine C.dup dL_95 rfl ?_
  refine C.iconst (1) dL_96 rfl ?_
  refine C.bipush (12) dL_97 rfl ?_
  refine C.iastore dL_99 A30 (by decide) rfl (le rfl) nti ?_
  intro h32 W32 A32
  replace Eg := ext_of_wr Eg W32 (by omega)
  clear A30
  have A30 := A32
  clear A32
  refine C.dup dL_100 rfl ?_
  refine C.iconst (2) dL_101 rfl ?_
  refine C.bipush (12) dL_102 rfl ?_
  refine C.iastore dL_104 A30 (by decide) rfl (le rfl) nti ?_
  intro h33 W33 A33
  replace Eg := ext_of_wr Eg W33 (by omega)
  clear A30
  have A30 := A33
  clear A33
  refine C.dup dL_105 rfl ?_
  refine C.iconst (3) dL_106 rfl ?_
  refine C.bipush (12) dL_107 rfl ?_
  refine C.iastore dL_109 A30 (by decide) rfl (le rfl) nti ?_
  intro h34 W34 A34
  replace Eg := ext_of_wr Eg W34 (by omega)
  clear A30
  have A30 := A34
  clear A34
  refine C.dup dL_110 rfl ?_
  refine C.iconst (4) dL_111 rfl ?_
  refine C.bipush (11) dL_112 rfl ?_
  refine C.iastore dL_114 A30 (by decide) rfl (le rfl) nti ?_
  intro h35 W35 A35
  replace Eg := ext_of_wr Eg W35 (by omega)
  clear A30
  have A30 := A35
  clear A35
  refine C.dup dL_115 rfl ?_
  refine C.iconst (5) dL_116 rfl ?_
  refine C.bipush (13) dL_117 rfl ?_
  refine C.iastore dL_119 A30 (by decide) rfl (le rfl) nti ?_
  intro h36 W36 A36
  replace Eg := ext_of_wr Eg W36 (by omega)
  clear A30
  have A30 := A36
  clear A36
  refine C.dup dL_120 rfl ?_
  refine C.bipush (6) dL_121 rfl ?_
  refine C.iconst (0) dL_123 rfl ?_
  refine C.iastore dL_124 A30 (by decide) rfl (le rfl) nti ?_
  intro h37 W37 A37
  replace Eg := ext_of_wr Eg W37 (by omega)
  clear A30
  have A30 := A37
  clear A37
  refine C.dup dL_125 rfl ?_
  refine C.bipush (7) dL_126 rfl ?_
  refine C.bipush (12) dL_128 rfl ?_
  refine C.iastore dL_130 A30 (by decide) rfl (le rfl) nti ?_
  intro h38 W38 A38
  replace Eg := ext_of_wr Eg W38 (by omega)
  clear A30
  have A30 := A38
  clear A38
  refine C.astore dL_131 rfl rfl rfl ?_
  refine C.aload dL_133 rfl rfl ?_
  refine C.iloadN dL_135 rfl ?_
  refine C.bipush (7) dL_136 rfl ?_
  refine C.iand dL_138 ?_
  have A4 : Arl Z h38 ti .int (ints [12, 12, 12, 12, 11, 13, 0, 12]) := A30
  replace A3 := A3.ext Eg
  have Sc1 := Sc
  have Es' := ext_trans Es Eg
  replace Sc := Sc1.ext Es'
  have O4 : Ext Z.heap h38 := ext_trans Eh Eg
  obtain ⟨i, N, hi, ei, ht, hN⟩ := tbl_at x0
  have hI := ofNat_idx (i := i) (by omega)
  refine C.iaload dL_139 A4 (by rw [ei]; exact hI.1) (by rw [ei]; exact hI.2) (ints_get ht) ?_
  have hps := c_and x1 2147483647 (by decide)
  have hr := (c_irem (x1 &&& 2147483647) 13 13 rfl).1 hps.1
  obtain ⟨ps, hps2, eps⟩ := nat_of (M := 13) (by rw [hr]; omega) (by rw [hr]; omega) (by decide)
  have chL : IsL (c16 (x2 &&& 255)) := by rw [isC_isL (isL_and _)]; exact isL_and _
  have tail1 : ∀ mu : Int32, (mu = 0 ∨ mu = 1) → OwnW.Goes p l e room_1 s m #[.int x0, .int x1, .int x2, .int x3] below meth c Z consts_1 false (rR fun v _ => v = .int 1) [] h1.size h38 (0 + 2 + 1 + 1) (0 + (48 + 4) + 13 + 8) (mkF m 156 ⟨[.val (.int x0), .val (.int x1), .val (.int x2), .val (.int x3), .val (.ref sc), .val (.ref ar), .val (.ref ti), .val (.int (Int32.ofNat N)), .val (.int mu), .unset, .unset, .unset, .unset, .unset]⟩ []) := by
    intro mu hmu
    refine C.iloadN dL_156 rfl ?_
    refine C.ldcInt dL_157 tw10 ?_
    refine C.iand dL_159 ?_
    refine C.bipush (13) dL_160 rfl ?_
    refine C.irem dL_162 (by decide) ?_
    refine C.istore dL_163 rfl rfl ?_
    refine C.iloadN dL_165 rfl ?_
    refine C.sipush (255) dL_166 rfl ?_
    refine C.iand dL_169 ?_
    refine C.i2c dL_170 ?_
    rw [eps]
    refine C.istore dL_171 rfl rfl ?_
    refine C.iload dL_173 rfl ?_
    generalize c16 (x2 &&& 255) = ch at chL
    rcases hmu with rfl | rfl
    · refine C.if_eq dL_175 (fun _ => ?_) (fun z => absurd rfl z)
      exact tail2 _ _ _ _ _ _ _ _ _ _ _ hN hps2 chL c3L (Or.inl ⟨rfl, rfl⟩) O4 Sc A3
    · refine C.if_eq dL_175 (fun z => absurd z (by decide)) (fun _ => ?_)
      have hP := ofNat_idx (i := ps) (by omega)
      refine C.aload dL_178 rfl rfl ?_
      refine C.iload dL_180 rfl ?_
      refine C.iload dL_182 rfl ?_
      refine C.castore dL_184 A3 hP.1 hP.2 (by rw [ints_length]; show ps < 13; exact hps2) nar' ?_
      intro h40 W40 A40
      rw [nar_char chL.isC] at A40
      have e40 : (ints (bs ++ [c3])).set ps (.int ch) = ints ((bs ++ [c3]).set ps ch) := by unfold ints; rw [List.map_set]
      rw [e40] at A40
      exact tail2 _ _ _ _ _ _ _ _ _ _ _ hN hps2 chL c3L (Or.inr ⟨rfl, rfl⟩) (ext_of_wr O4 W40 nar') (Sc1.ext (ext_of_wr Es' W40 (by omega))) A40
  refine C.istore dL_140 rfl rfl ?_
  refine C.iloadN dL_142 rfl ?_
  refine C.bipush (8) dL_143 rfl ?_
  refine C.iand dL_145 ?_
  refine C.if_eq dL_146 (fun _ => ?_) (fun _ => ?_)
  · refine C.iconst (0) dL_153 rfl ?_
    refine C.istore dL_154 rfl rfl ?_
    exact Goes.less (F' := []) nof0 (tail1 _ (Or.inl rfl))
  · refine C.iconst (1) dL_149 rfl ?_
    refine C.goto dL_150 ?_
    refine C.istore dL_154 rfl rfl ?_
    exact Goes.less (F' := []) nof0 (tail1 _ (Or.inr rfl))
theorem comes_1 {Post : Tables → Env → Array Value → State → Outcome → State → Prop} (hpost : ∀ tb e args s v u, (limb_1_1.after args s (.returned v) u = true ∧ limb_1_2.after args s (.returned v) u = true) → Jvm.D.FramedW s (.returned v) u (Jvm.fieldLocs frame_1_writes args s ++ Jvm.arrayLocs frame_1_arrays args s ++ Jvm.staticLocs frame_1_statics s) 24 2240 → Post tb e args s (.returned v) u) :
    ArmFor flags0 classFile x code maxLocals ret World_1 tables_1 room_1 Calls_1 rest_1 Pre_1 Post := by
  intro l hfl _ _ p e ha hc hk s m args below hf hA hF happ hP
  obtain ⟨hcalls, hrest, hpre⟩ := hP
  obtain ⟨-, -, -, hnamed, -, -, -, hat⟩ := (Spec.applies_iff hf).mp happ
  obtain ⟨hg0, hn⟩ := and_e (Cond.before_iff.mp (show (Jvm.Cond.and given_1 narrow_1).before args s = true from hpre))
  obtain ⟨hc0, hg1⟩ := and_e hg0
  obtain ⟨hc1, hg2⟩ := and_e hg1
  obtain ⟨hc2, hg3⟩ := and_e hg2
  obtain ⟨hc3, hg4⟩ := and_e hg3
  obtain ⟨w0, w1, w2, w3, rfl⟩ : ∃ w0 w1 w2 w3 : Value, args = #[w0, w1, w2, w3] := by
    have hs : args.size = 4 := by simpa [Cond.value, given_1] using hc0
    obtain ⟨L⟩ := args
    match L, hs with
    | [w0, w1, w2, w3], _ => exact ⟨w0, w1, w2, w3, rfl⟩
  have hw := fun d (hd : d ∈ tables_1) => atoms_spec (ws := Jvm.Cond.code x code maxLocals ret :: tables_1) hat d (List.mem_cons_of_mem _ hd)
  obtain ⟨hsets, hown0⟩ := atoms_of _ (rest_1_c_eq ▸ (show rest_1_c.before _ s = true from hrest))
  have hfit : Fit s := fun {y c} hc i hi => by
    obtain ⟨ha, rfl⟩ := Array.getElem?_eq_some_iff.mp hc
    have q := List.all_eq_true.mp ((Array.all_eq_true_iff_forall_mem.mp hF) _ (Array.getElem_mem ha)) i (List.mem_range.mpr hi)
    simpa [Array.getElem?_eq_getElem hi] using q
  obtain ⟨x0, ex0⟩ := is_v hc1
  obtain rfl : w0 = (.int x0) := Option.some.inj ex0
  obtain ⟨x1, ex1⟩ := is_v hc2
  obtain rfl : w1 = (.int x1) := Option.some.inj ex1
  obtain ⟨x2, ex2⟩ := is_v hc3
  obtain rfl : w2 = (.int x2) := Option.some.inj ex2
  obtain ⟨x3, ex3⟩ := is_v hg4
  obtain rfl : w3 = (.int x3) := Option.some.inj ex3
  obtain ⟨cz, ecz⟩ := is_v (Cond.before_iff.mp (hsets _ (List.mem_of_getElem? (i := 1) rfl)))
  have Scs : Sta s s.heap ST "COMPACT_STRINGS" "Z" (.int cz) := Sta.start ecz (Or.inl (hsets _ (List.mem_of_getElem? (i := 0) rfl)))
  have ncz : ¬ cz = 0 := gotF (Cond.eq_ints ecz (Term.int_eval (0))) (not_v (Cond.before_iff.mp (hsets _ (List.mem_of_getElem? (i := 2) rfl))))
  obtain ⟨sf, esf, rsf⟩ := isR_v (Cond.before_iff.mp (hsets _ (List.mem_of_getElem? (i := 8) rfl)))
  have Ssf : Sta s s.heap "jdk/internal/util/Preconditions" "SIOOBE_FORMATTER" "Ljava/util/function/BiFunction;" sf := Sta.start esf (Or.inl (hsets _ (List.mem_of_getElem? (i := 7) rfl)))
  obtain ⟨na0, hn⟩ := and_e hn
  obtain ⟨na1, hn⟩ := and_e hn
  obtain ⟨na2, hn⟩ := and_e hn
  obtain ⟨na3, hn⟩ := and_e hn
  obtain ⟨na4, hn⟩ := and_e hn
  obtain ⟨na5, hn⟩ := and_e hn
  obtain ⟨na6, hn⟩ := and_e hn
  obtain ⟨na7, hn⟩ := and_e hn
  obtain ⟨na8, hn⟩ := and_e hn
  obtain ⟨na9, hn⟩ := and_e hn
  obtain ⟨na10, hn⟩ := and_e hn
  obtain ⟨na11, hn⟩ := and_e hn
  obtain ⟨na12, hn⟩ := and_e hn
  obtain ⟨na13, hn⟩ := and_e hn
  obtain ⟨na14, hn⟩ := and_e hn
  obtain ⟨na15, hn⟩ := and_e hn
  obtain ⟨na16, hn⟩ := and_e hn
  obtain ⟨na17, hn⟩ := and_e hn
  obtain ⟨na18, hn⟩ := and_e hn
  obtain ⟨na19, hn⟩ := and_e hn
  have na20 := hn
  obtain ⟨r_VALUES, ev_VALUES, S_VALUES, X_VALUES⟩ := st_exact na1 (hw _ tw41) (hw _ tw47)
  obtain ⟨va, e_va, X_V⟩ := ex_ev na1
  have S_V : Sta s s.heap "no/nordsegl/rules/SchemaType" "$VALUES" "[Lno/nordsegl/rules/SchemaType;" (.ref va) := Sta.start e_va (Or.inr ⟨hw _ tw41, hw _ tw47⟩)
  obtain ⟨ea, e_ea, X_E⟩ := ex_ev na3
  have A_V : Arl s s.heap va (.object "no/nordsegl/rules/SchemaType") [.ref ea] := arl_ev hfit e_va na0 na2 (by simp) (fun i v hv => by
    match i, hv with
    | 0, hv => cases Option.some.inj hv; exact e_ea
    | n + 1, hv => simp at hv)
  obtain ⟨pa, e_pa, S_P⟩ := str_ev (cs := bs) hfit na4 na5 na6 na7 (by decide) bsL (fun i c hc => by
    match i, hc with
    | 0, hc => cases Option.some.inj hc; exact na9
    | 1, hc => cases Option.some.inj hc; exact na10
    | 2, hc => cases Option.some.inj hc; exact na11
    | 3, hc => cases Option.some.inj hc; exact na12
    | 4, hc => cases Option.some.inj hc; exact na13
    | 5, hc => cases Option.some.inj hc; exact na14
    | 6, hc => cases Option.some.inj hc; exact na15
    | 7, hc => cases Option.some.inj hc; exact na16
    | 8, hc => cases Option.some.inj hc; exact na17
    | 9, hc => cases Option.some.inj hc; exact na18
    | 10, hc => cases Option.some.inj hc; exact na19
    | 11, hc => cases Option.some.inj hc; exact na20
    | n + 12, hc => simp [bs] at hc)
  have F_P := fld_ev e_ea e_pa
  have S_ID : Sta s s.heap "no/nordsegl/rules/SchemaType" "ID" "Lno/nordsegl/rules/SchemaType;" (.ref ea) := Sta.start (eq_refR e_ea na8) (Or.inr ⟨hw _ tw41, hw _ tw71⟩)
  have hEW : EW s #[.int x0, .int x1, .int x2, .int x3] consts_1 := (EW.cons (hw _ tw93) (by decide) (EW.cons (hw _ tw0) (by decide) EW.nil))
  have hCH : CHv s consts_1 s.vm s.heap := CHv.start hEW (fun p hp => hcalls.1 p hp) (hsets _ (List.mem_of_getElem? (i := 2) rfl)) (hw _ tw3) (hw _ tw2)
  have B : Base s #[.int x0, .int x1, .int x2, .int x3] consts_1 := ⟨hw, hEW, ⟨cz, Scs, ncz⟩, ⟨sf, Ssf, rsf⟩, trivial⟩
  obtain ⟨n, o, q1, q2, q3, v, L, rfl, ⟨v, rfl, rfl⟩, N, hCR, hWH, -, hq⟩ := P_law (l := l) B S_V A_V X_V F_P S_P S_ID tables_1 p e ha hc hk s m _ below hf ((Spec.applies_iff_loose hf).mp happ).1 ⟨rfl, State.Warmed39.refl s, rfl, hCH, fun _ q => (nomatch q), ext_refl _⟩ trivial
  exact ⟨n, _, q1, q2, q3, hpost _ _ _ _ _ _ ⟨Cond.after_iff.mpr rfl, Cond.after_iff.mpr (eq_i res_at (Term.int_eval (1)) rfl)⟩ ⟨hq.1, hq.2.1, hq.2.2.1, ((hq.2.2.2.sift fun y hy => Or.inr (N y hy)).mono (le rfl : room_1.cells ≤ 24) (le rfl : room_1.slots ≤ 2240))⟩⟩
theorem main_1_1 : Claimed_1_1 := comes_1 fun _ _ _ _ _ _ h hF => ⟨h.1, hF⟩
theorem main_1_2 : Claimed_1_2 := comes_1 fun _ _ _ _ _ _ h hF => ⟨h.2, hF⟩
end
end Jvm.Pilot.@@N@@
namespace Jvm.Pilot.@@N@@
open Jvm Jvm.ClassFile Sem Op Lib Jvm.Free Jvm.Stand Jvm.Pilot.@@N@@.Jvm.D
/-! MADE BY PROGRAM (witnessworld.py) out of the Statement's table words and the real class files: 23 classes; the members and pool entries that the words name. The judged class is class 1, her method 2. -/
namespace start1
open Jvm.ClassFile
def u (s : String) : CpInfo := .utf8 (stringToUtf16 s)
/-- a pool by its gaps: so many unusable entries, then the entry; so many at the end -/
def gap : Nat → List CpInfo → List CpInfo
  | 0, r => r
  | n + 1, r => .unusable :: gap n r
def poolList (es : List (Nat × CpInfo)) (last : Nat) : List CpInfo := es.foldr (fun e r => gap e.1 (e.2 :: r)) (gap last [])
def pool (es : List (Nat × CpInfo)) (last : Nat) : Array CpInfo := ⟨poolList es last⟩
def fileOf (pool : Array CpInfo) (this : Nat) (attrs : Array Attribute := #[]) (ms : Array MethodInfo := #[]) (fl : Nat := 33) (sup : Nat := 0) (ifs : Array Nat := #[]) (fds : Array FieldInfo := #[]) : ClassFile where
  minorVersion := 0
  majorVersion := 65
  constantPool := pool
  accessFlags := fl
  thisClass := this
  superClass := sup
  interfaces := ifs
  fields := fds
  methods := ms
  attributes := attrs
def plain (name : String) (sup : Option ClassId) : Class where
  name := name
  kind := .ordinary
  loader := none
  accessFlags := 33
  super := sup
  interfaces := #[]
  cf := none
  fields := #[]
  methods := #[]
  instanceTypes := #[]
  staticTypes := #[]
  resolved := #[]
  callSites := []
  init := .initialized
  statics := none
  mirror := none

def pool0 : Array CpInfo := pool [(5, u "<init>"), (0, u "()V"), (1, .class_ 10), (1, u "java/lang/Object"), (85, u "clone"), (0, u "()Ljava/lang/Object;")] 26

def k0c0 : Code := { maxStack := 0, maxLocals := 1, code := object_method_1_code, exceptionTable := #[], attributes := #[] }
def k0m0 : Method := { name := "<init>", desc := "()V", sig := { parameters := [], returnType := none }, accessFlags := 1, code := some k0c0 }
def k0m1 : Method := { name := "clone", desc := "()Ljava/lang/Object;", sig := { parameters := [], returnType := some (.object "java/lang/Object") }, accessFlags := 260, code := none }
/-- java/lang/Object -/
def k0 : Class := { plain "java/lang/Object" none with
  accessFlags := 33
  interfaces := #[]
  cf := some (fileOf pool0 8 #[] #[{ accessFlags := 1, nameIndex := 5, descriptorIndex := 6, attributes := #[] }, { accessFlags := 260, nameIndex := 96, descriptorIndex := 97, attributes := #[] }] 33 0 #[] #[])
  fields := #[]
  methods := #[k0m0, k0m1]
  instanceTypes := #[]
  staticTypes := #[]
  resolved := Array.replicate 124 none
  statics := none }

def pool1 : Array CpInfo := pool [(2, .class_ 4), (1, u "java/lang/Object"), (0, u "<init>"), (0, u "()V"), (0, .string 8), (0, u "Assertion@ID"), (0, .integer 2147483647), (0, .class_ 11), (0, u "java/lang/String"), (0, .methodref 13 14), (0, .class_ 15), (0, .nameAndType 16 17), (0, u "no/nordsegl/rules/SchemaTypeOfPinLaw"), (0, u "prefix"), (0, u "([CI)[C"), (0, .methodref 10 19), (0, .nameAndType 5 20), (0, u "([C)V"), (0, .methodref 10 22), (0, .nameAndType 23 24), (0, u "charAt"), (0, u "(I)C"), (0, .methodref 26 27), (0, .class_ 28), (0, .nameAndType 29 30), (0, u "no/nordsegl/rules/SchemaType"), (0, u "of"), (0, u "(Ljava/lang/String;)Lno/nordsegl/rules/SchemaType;"), (0, .fieldref 26 32), (0, .nameAndType 33 34), (0, u "ID"), (0, u "Lno/nordsegl/rules/SchemaType;"), (5, u "law"), (0, u "(IIII)Z")] 4

def k1m0 : Method := { name := "<init>", desc := "()V", sig := { parameters := [], returnType := none }, accessFlags := 1, code := none }
def k1c1 : Code := { maxStack := 4, maxLocals := 3, code := method_2_code, exceptionTable := #[], attributes := #[] }
def k1m1 : Method := { name := "prefix", desc := "([CI)[C", sig := { parameters := [(.array .char), .int], returnType := some (.array .char) }, accessFlags := 10, code := some k1c1 }
def k1c2 : Code := { maxStack := 5, maxLocals := 14, code := code, exceptionTable := #[], attributes := #[] }
def k1m2 : Method := { name := "law", desc := "(IIII)Z", sig := { parameters := [.int, .int, .int, .int], returnType := some .boolean }, accessFlags := 9, code := some k1c2 }
/-- no/nordsegl/rules/SchemaTypeOfPinLaw -/
def k1 : Class := { plain "no/nordsegl/rules/SchemaTypeOfPinLaw" (some 0) with
  accessFlags := 49
  interfaces := #[]
  cf := some (fileOf pool1 13 #[] #[{ accessFlags := 1, nameIndex := 5, descriptorIndex := 6, attributes := #[] }, { accessFlags := 10, nameIndex := 16, descriptorIndex := 17, attributes := #[] }, { accessFlags := 9, nameIndex := 40, descriptorIndex := 41, attributes := #[] }] 49 2 #[] #[])
  fields := #[]
  methods := #[k1m0, k1m1, k1m2]
  instanceTypes := #[]
  staticTypes := #[]
  resolved := Array.replicate 46 none
  statics := none }

def pool2 : Array CpInfo := pool [(1, .class_ 2), (0, u "java/io/Serializable"), (0, .class_ 4), (0, u "java/lang/Object")] 2

/-- java/io/Serializable -/
def k2 : Class := { plain "java/io/Serializable" (some 0) with
  accessFlags := 1537
  interfaces := #[]
  cf := some (fileOf pool2 1 #[] #[] 1537 3 #[] #[])
  fields := #[]
  methods := #[]
  instanceTypes := #[]
  staticTypes := #[]
  resolved := Array.replicate 7 none
  statics := none }

def pool3 : Array CpInfo := pool [(1, .class_ 2), (0, u "java/lang/Comparable"), (0, .class_ 4), (0, u "java/lang/Object")] 7

/-- java/lang/Comparable -/
def k3 : Class := { plain "java/lang/Comparable" (some 0) with
  accessFlags := 1537
  interfaces := #[]
  cf := some (fileOf pool3 1 #[] #[] 1537 3 #[] #[])
  fields := #[]
  methods := #[]
  instanceTypes := #[]
  staticTypes := #[]
  resolved := Array.replicate 12 none
  statics := none }

def pool4 : Array CpInfo := pool [(2, .class_ 4), (1, u "java/lang/CharSequence"), (42, .class_ 48), (0, u "java/lang/CharSequence$1CodePointIterator"), (10, .class_ 60), (0, u "java/lang/CharSequence$1CharIterator"), (5, .class_ 67), (0, u "java/lang/Object")] 63

/-- java/lang/CharSequence -/
def k4 : Class := { plain "java/lang/CharSequence" (some 0) with
  accessFlags := 1537
  interfaces := #[]
  cf := some (fileOf pool4 2 #[.nestMembers #[47, 59]] #[] 1537 66 #[] #[])
  fields := #[]
  methods := #[]
  instanceTypes := #[]
  staticTypes := #[]
  resolved := Array.replicate 131 none
  statics := none }

def pool5 : Array CpInfo := pool [(1, .class_ 2), (0, u "java/lang/constant/Constable"), (0, .class_ 4), (0, u "java/lang/Object")] 6

/-- java/lang/constant/Constable -/
def k5 : Class := { plain "java/lang/constant/Constable" (some 0) with
  accessFlags := 1537
  interfaces := #[]
  cf := some (fileOf pool5 1 #[] #[] 1537 3 #[] #[])
  fields := #[]
  methods := #[]
  instanceTypes := #[]
  staticTypes := #[]
  resolved := Array.replicate 11 none
  statics := none }

def pool6 : Array CpInfo := pool [(1, .class_ 2), (0, u "java/lang/constant/ConstantDesc"), (0, .class_ 4), (0, u "java/lang/Object")] 32

/-- java/lang/constant/ConstantDesc -/
def k6 : Class := { plain "java/lang/constant/ConstantDesc" (some 0) with
  accessFlags := 1537
  interfaces := #[]
  cf := some (fileOf pool6 1 #[] #[] 1537 3 #[] #[])
  fields := #[]
  methods := #[]
  instanceTypes := #[]
  staticTypes := #[]
  resolved := Array.replicate 37 none
  statics := none }

def pool7 : Array CpInfo := pool [(1, .methodref 2 3), (0, .class_ 4), (0, .nameAndType 5 6), (0, u "java/lang/Object"), (0, u "<init>"), (0, u "()V"), (0, .string 8), (0, u ""), (0, .fieldref 10 11), (0, .class_ 12), (0, .nameAndType 13 14), (0, u "java/lang/String"), (0, u "value"), (0, u "[B"), (0, .fieldref 10 16), (0, .nameAndType 17 18), (0, u "coder"), (0, u "B"), (2, u "hash"), (0, u "I"), (2, u "hashIsZero"), (0, u "Z"), (0, .methodref 10 28), (0, .nameAndType 5 29), (0, u "([CIILjava/lang/Void;)V"), (8, .fieldref 10 39), (0, .nameAndType 40 26), (0, u "COMPACT_STRINGS"), (1, .class_ 44), (1, u "java/lang/StringUTF16"), (0, u "compress"), (1, .methodref 42 48), (0, .nameAndType 49 50), (0, u "coderFromArrayLen"), (0, u "([BI)B"), (56, .class_ 109), (1, u "java/lang/StringLatin1"), (32, u "()Z"), (34, .methodref 42 178), (0, .nameAndType 45 179), (0, u "([CII)[B"), (183, u "([BI)C"), (27, u "(II)V"), (35, u "(I)C"), (64, .methodref 10 493), (0, .nameAndType 494 142), (0, u "isLatin1"), (0, .methodref 107 496), (0, .nameAndType 497 363), (0, u "charAt"), (3, u "checkIndex"), (39, .methodref 107 542), (0, .nameAndType 543 544), (0, u "equals"), (0, u "([B[B)Z"), (28, u "(Ljava/lang/Object;)Z"), (1, .class_ 576), (0, u "java/lang/CharSequence"), (22, u "CASE_INSENSITIVE_ORDER"), (0, u "Ljava/util/Comparator;"), (409, u "([C)V"), (42, .fieldref 1054 1055), (0, .class_ 1056), (0, .nameAndType 1057 1058), (0, u "jdk/internal/util/Preconditions"), (0, u "SIOOBE_FORMATTER"), (0, u "Ljava/util/function/BiFunction;"), (0, .methodref 1054 1060), (0, .nameAndType 501 1061), (0, u "(IILjava/util/function/BiFunction;)I"), (39, u "serialPersistentFields"), (0, u "[Ljava/io/ObjectStreamField;"), (0, .class_ 1104), (0, u "java/lang/String$CaseInsensitiveComparator"), (1, .class_ 1107), (0, u "java/io/Serializable"), (0, .class_ 1109), (0, u "java/lang/Comparable"), (0, .class_ 1111), (0, u "java/lang/constant/Constable"), (0, .class_ 1113), (0, u "java/lang/constant/ConstantDesc"), (2, u "serialVersionUID"), (0, u "J"), (3, u "REPL"), (0, u "C"), (2, u "LATIN1"), (1, u "UTF16")] 323

def k7m0 : Method := { name := "<init>", desc := "()V", sig := { parameters := [], returnType := none }, accessFlags := 1, code := none }
def k7c1 : Code := { maxStack := 5, maxLocals := 2, code := jdk_42_method_3_code, exceptionTable := #[], attributes := #[] }
def k7m1 : Method := { name := "<init>", desc := "([C)V", sig := { parameters := [(.array .char)], returnType := none }, accessFlags := 1, code := some k7c1 }
def k7c2 : Code := { maxStack := 2, maxLocals := 2, code := jdk_42_method_56_code, exceptionTable := #[], attributes := #[] }
def k7m2 : Method := { name := "charAt", desc := "(I)C", sig := { parameters := [.int], returnType := some .char }, accessFlags := 1, code := some k7c2 }
def k7c3 : Code := { maxStack := 2, maxLocals := 3, code := jdk_42_method_66_code, exceptionTable := #[], attributes := #[] }
def k7m3 : Method := { name := "equals", desc := "(Ljava/lang/Object;)Z", sig := { parameters := [(.object "java/lang/Object")], returnType := some .boolean }, accessFlags := 1, code := some k7c3 }
def k7c4 : Code := { maxStack := 4, maxLocals := 6, code := jdk_42_method_149_code, exceptionTable := #[], attributes := #[] }
def k7m4 : Method := { name := "<init>", desc := "([CIILjava/lang/Void;)V", sig := { parameters := [(.array .char), .int, .int, (.object "java/lang/Void")], returnType := none }, accessFlags := 2, code := some k7c4 }
def k7c5 : Code := { maxStack := 1, maxLocals := 1, code := jdk_42_method_154_code, exceptionTable := #[], attributes := #[] }
def k7m5 : Method := { name := "isLatin1", desc := "()Z", sig := { parameters := [], returnType := some .boolean }, accessFlags := 0, code := some k7c5 }
def k7c6 : Code := { maxStack := 3, maxLocals := 2, code := jdk_42_method_155_code, exceptionTable := #[], attributes := #[] }
def k7m6 : Method := { name := "checkIndex", desc := "(II)V", sig := { parameters := [.int, .int], returnType := none }, accessFlags := 8, code := some k7c6 }
/-- java/lang/String -/
def k7 : Class := { plain "java/lang/String" (some 0) with
  accessFlags := 49
  interfaces := #[2, 3, 4, 5, 6]
  cf := some (fileOf pool7 10 #[.nestMembers #[1103]] #[{ accessFlags := 1, nameIndex := 5, descriptorIndex := 6, attributes := #[] }, { accessFlags := 1, nameIndex := 5, descriptorIndex := 1010, attributes := #[] }, { accessFlags := 1, nameIndex := 497, descriptorIndex := 427, attributes := #[] }, { accessFlags := 1, nameIndex := 543, descriptorIndex := 573, attributes := #[] }, { accessFlags := 2, nameIndex := 5, descriptorIndex := 29, attributes := #[] }, { accessFlags := 0, nameIndex := 494, descriptorIndex := 142, attributes := #[] }, { accessFlags := 8, nameIndex := 501, descriptorIndex := 391, attributes := #[] }] 49 2 #[1106, 1108, 575, 1110, 1112] #[{ accessFlags := 18, nameIndex := 13, descriptorIndex := 14, attributes := #[] }, { accessFlags := 18, nameIndex := 17, descriptorIndex := 18, attributes := #[] }, { accessFlags := 2, nameIndex := 21, descriptorIndex := 22, attributes := #[] }, { accessFlags := 2, nameIndex := 25, descriptorIndex := 26, attributes := #[] }, { accessFlags := 26, nameIndex := 1116, descriptorIndex := 1117, attributes := #[] }, { accessFlags := 24, nameIndex := 40, descriptorIndex := 26, attributes := #[] }, { accessFlags := 26, nameIndex := 1101, descriptorIndex := 1102, attributes := #[] }, { accessFlags := 26, nameIndex := 1121, descriptorIndex := 1122, attributes := #[] }, { accessFlags := 25, nameIndex := 599, descriptorIndex := 600, attributes := #[] }, { accessFlags := 24, nameIndex := 1125, descriptorIndex := 18, attributes := #[] }, { accessFlags := 24, nameIndex := 1127, descriptorIndex := 18, attributes := #[] }])
  fields := #[{ name := "value", type := (.array .byte), accessFlags := 18, slot := 0, constantValue := 0 }, { name := "coder", type := .byte, accessFlags := 18, slot := 1, constantValue := 0 }, { name := "hash", type := .int, accessFlags := 2, slot := 2, constantValue := 0 }, { name := "hashIsZero", type := .boolean, accessFlags := 2, slot := 3, constantValue := 0 }, { name := "serialVersionUID", type := .long, accessFlags := 26, slot := 0, constantValue := 0 }, { name := "COMPACT_STRINGS", type := .boolean, accessFlags := 24, slot := 1, constantValue := 0 }, { name := "serialPersistentFields", type := (.array (.object "java/io/ObjectStreamField")), accessFlags := 26, slot := 2, constantValue := 0 }, { name := "REPL", type := .char, accessFlags := 26, slot := 3, constantValue := 0 }, { name := "CASE_INSENSITIVE_ORDER", type := (.object "java/util/Comparator"), accessFlags := 25, slot := 4, constantValue := 0 }, { name := "LATIN1", type := .byte, accessFlags := 24, slot := 5, constantValue := 0 }, { name := "UTF16", type := .byte, accessFlags := 24, slot := 6, constantValue := 0 }]
  methods := #[k7m0, k7m1, k7m2, k7m3, k7m4, k7m5, k7m6]
  instanceTypes := #[(.array .byte), .byte, .int, .boolean]
  staticTypes := #[.long, .boolean, (.array (.object "java/io/ObjectStreamField")), .char, (.object "java/util/Comparator"), .byte, .byte]
  resolved := Array.replicate 1451 none
  statics := some 0 }

def pool8 : Array CpInfo := pool [(6, .class_ 8), (1, u "java/lang/Object"), (0, u "<init>"), (0, u "()V"), (1, .class_ 14), (1, u "java/lang/StringUTF16"), (31, u "$assertionsDisabled"), (0, u "Z"), (13, u "HI_BYTE_SHIFT"), (0, u "I"), (2, u "LO_BYTE_SHIFT"), (49, .methodref 12 116), (0, .nameAndType 117 118), (0, u "compress"), (0, u "([CI[BII)I"), (3, u "([CII)[B"), (138, u "coderFromArrayLen"), (0, u "([BI)B"), (106, .class_ 371), (1, u "java/lang/StringUTF16$LinesSpliterator"), (58, u "MAX_LENGTH"), (196, .class_ 628), (0, u "java/lang/StringUTF16$CodePointsSpliterator"), (0, .class_ 630), (0, u "java/lang/StringUTF16$CharsSpliterator")] 4

def k8m0 : Method := { name := "<init>", desc := "()V", sig := { parameters := [], returnType := none }, accessFlags := 0, code := none }
def k8c1 : Code := { maxStack := 2, maxLocals := 2, code := jdk_52_method_15_code, exceptionTable := #[], attributes := #[] }
def k8m1 : Method := { name := "coderFromArrayLen", desc := "([BI)B", sig := { parameters := [(.array .byte), .int], returnType := some .byte }, accessFlags := 8, code := some k8c1 }
def k8c2 : Code := { maxStack := 5, maxLocals := 6, code := jdk_52_method_16_code, exceptionTable := #[], attributes := #[] }
def k8m2 : Method := { name := "compress", desc := "([CII)[B", sig := { parameters := [(.array .char), .int, .int], returnType := some (.array .byte) }, accessFlags := 9, code := some k8c2 }
def k8c3 : Code := { maxStack := 3, maxLocals := 7, code := jdk_52_method_21_code, exceptionTable := #[], attributes := #[] }
def k8m3 : Method := { name := "compress", desc := "([CI[BII)I", sig := { parameters := [(.array .char), .int, (.array .byte), .int, .int], returnType := some .int }, accessFlags := 9, code := some k8c3 }
/-- java/lang/StringUTF16 -/
def k8 : Class := { plain "java/lang/StringUTF16" (some 0) with
  accessFlags := 48
  interfaces := #[]
  cf := some (fileOf pool8 12 #[.nestMembers #[627, 629, 369]] #[{ accessFlags := 0, nameIndex := 9, descriptorIndex := 10, attributes := #[] }, { accessFlags := 8, nameIndex := 261, descriptorIndex := 262, attributes := #[] }, { accessFlags := 9, nameIndex := 117, descriptorIndex := 122, attributes := #[] }, { accessFlags := 9, nameIndex := 117, descriptorIndex := 118, attributes := #[] }] 48 6 #[] #[{ accessFlags := 26, nameIndex := 61, descriptorIndex := 62, attributes := #[] }, { accessFlags := 26, nameIndex := 65, descriptorIndex := 62, attributes := #[] }, { accessFlags := 24, nameIndex := 430, descriptorIndex := 62, attributes := #[] }, { accessFlags := 4120, nameIndex := 46, descriptorIndex := 47, attributes := #[] }])
  fields := #[{ name := "HI_BYTE_SHIFT", type := .int, accessFlags := 26, slot := 0, constantValue := 0 }, { name := "LO_BYTE_SHIFT", type := .int, accessFlags := 26, slot := 1, constantValue := 0 }, { name := "MAX_LENGTH", type := .int, accessFlags := 24, slot := 2, constantValue := 0 }, { name := "$assertionsDisabled", type := .boolean, accessFlags := 4120, slot := 3, constantValue := 0 }]
  methods := #[k8m0, k8m1, k8m2, k8m3]
  instanceTypes := #[]
  staticTypes := #[.int, .int, .int, .boolean]
  resolved := Array.replicate 635 none
  statics := none }

def pool9 : Array CpInfo := pool [(2, .class_ 4), (1, u "java/lang/Enum"), (0, u "name"), (0, u "Ljava/lang/String;"), (2, u "ordinal"), (0, u "I"), (1, .class_ 14), (1, u "java/lang/Object"), (4, u "hash"), (86, .class_ 108), (1, u "java/lang/Enum$EnumDesc"), (2, .class_ 112), (0, u "java/lang/constant/Constable"), (0, .class_ 114), (0, u "java/lang/Comparable"), (0, .class_ 116), (0, u "java/io/Serializable")] 87

/-- java/lang/Enum -/
def k9 : Class := { plain "java/lang/Enum" (some 0) with
  accessFlags := 1057
  interfaces := #[5, 3, 2]
  cf := some (fileOf pool9 2 #[.nestMembers #[106]] #[] 1057 12 #[111, 113, 115] #[{ accessFlags := 18, nameIndex := 5, descriptorIndex := 6, attributes := #[] }, { accessFlags := 18, nameIndex := 9, descriptorIndex := 10, attributes := #[] }, { accessFlags := 2, nameIndex := 19, descriptorIndex := 10, attributes := #[] }])
  fields := #[{ name := "name", type := (.object "java/lang/String"), accessFlags := 18, slot := 0, constantValue := 0 }, { name := "ordinal", type := .int, accessFlags := 18, slot := 1, constantValue := 0 }, { name := "hash", type := .int, accessFlags := 2, slot := 2, constantValue := 0 }]
  methods := #[]
  instanceTypes := #[(.object "java/lang/String"), .int, .int]
  staticTypes := #[]
  resolved := Array.replicate 204 none
  statics := none }

def pool10 : Array CpInfo := pool [(1, .class_ 2), (0, u "no/nordsegl/rules/SchemaType"), (2, u "ID"), (0, u "Lno/nordsegl/rules/SchemaType;"), (0, .fieldref 1 8), (0, .nameAndType 9 10), (0, u "$VALUES"), (0, u "[Lno/nordsegl/rules/SchemaType;"), (0, .methodref 12 13), (0, .class_ 10), (0, .nameAndType 14 15), (0, u "clone"), (0, u "()Ljava/lang/Object;"), (1, .class_ 19), (1, u "java/lang/Enum"), (6, .fieldref 1 27), (0, .nameAndType 28 29), (0, u "path"), (0, u "Ljava/lang/String;"), (0, .methodref 1 31), (0, .nameAndType 32 33), (0, u "values"), (0, u "()[Lno/nordsegl/rules/SchemaType;"), (0, .methodref 35 36), (0, .class_ 37), (0, .nameAndType 38 39), (0, u "java/lang/String"), (0, u "equals"), (0, u "(Ljava/lang/Object;)Z"), (0, .class_ 41), (0, u "no/nordsegl/rules/SchemaType$1"), (11, u "(Ljava/lang/String;)Lno/nordsegl/rules/SchemaType;"), (3, u "of")] 11

def k10c0 : Code := { maxStack := 1, maxLocals := 0, code := prog_98_method_1_code, exceptionTable := #[], attributes := #[] }
def k10m0 : Method := { name := "values", desc := "()[Lno/nordsegl/rules/SchemaType;", sig := { parameters := [], returnType := some (.array (.object "no/nordsegl/rules/SchemaType")) }, accessFlags := 9, code := some k10c0 }
def k10c1 : Code := { maxStack := 2, maxLocals := 5, code := prog_98_method_4_code, exceptionTable := #[], attributes := #[] }
def k10m1 : Method := { name := "of", desc := "(Ljava/lang/String;)Lno/nordsegl/rules/SchemaType;", sig := { parameters := [(.object "java/lang/String")], returnType := some (.object "no/nordsegl/rules/SchemaType") }, accessFlags := 8, code := some k10c1 }
/-- no/nordsegl/rules/SchemaType -/
def k10 : Class := { plain "no/nordsegl/rules/SchemaType" (some 9) with
  accessFlags := 17440
  interfaces := #[]
  cf := some (fileOf pool10 1 #[.nestMembers #[40]] #[{ accessFlags := 9, nameIndex := 32, descriptorIndex := 33, attributes := #[] }, { accessFlags := 8, nameIndex := 57, descriptorIndex := 53, attributes := #[] }] 17440 17 #[] #[{ accessFlags := 16409, nameIndex := 5, descriptorIndex := 6, attributes := #[] }, { accessFlags := 18, nameIndex := 28, descriptorIndex := 29, attributes := #[] }, { accessFlags := 4122, nameIndex := 9, descriptorIndex := 10, attributes := #[] }])
  fields := #[{ name := "ID", type := (.object "no/nordsegl/rules/SchemaType"), accessFlags := 16409, slot := 0, constantValue := 0 }, { name := "path", type := (.object "java/lang/String"), accessFlags := 18, slot := 3, constantValue := 0 }, { name := "$VALUES", type := (.array (.object "no/nordsegl/rules/SchemaType")), accessFlags := 4122, slot := 1, constantValue := 0 }]
  methods := #[k10m0, k10m1]
  instanceTypes := #[(.object "java/lang/String"), .int, .int, (.object "java/lang/String")]
  staticTypes := #[(.object "no/nordsegl/rules/SchemaType"), (.array (.object "no/nordsegl/rules/SchemaType"))]
  resolved := Array.replicate 69 none
  statics := some 1 }

def pool11 : Array CpInfo := pool [(1, .class_ 2), (0, u "java/lang/Cloneable"), (0, .class_ 4), (0, u "java/lang/Object")] 2

/-- java/lang/Cloneable -/
def k11 : Class := { plain "java/lang/Cloneable" (some 0) with
  accessFlags := 1537
  interfaces := #[]
  cf := some (fileOf pool11 1 #[] #[] 1537 3 #[] #[])
  fields := #[]
  methods := #[]
  instanceTypes := #[]
  staticTypes := #[]
  resolved := Array.replicate 7 none
  statics := none }

def pool12 : Array CpInfo := pool [(2, .class_ 4), (1, u "no/nordsegl/rules/SchemaType"), (22, .class_ 28), (0, u "no/nordsegl/rules/SchemaType$1")] 26

/-- no/nordsegl/rules/SchemaType$1 -/
def k12 : Class := { plain "no/nordsegl/rules/SchemaType$1" (some 10) with
  accessFlags := 16432
  interfaces := #[]
  cf := some (fileOf pool12 27 #[.nestHost 2] #[] 16432 2 #[] #[])
  fields := #[]
  methods := #[]
  instanceTypes := #[(.object "java/lang/String"), .int, .int, (.object "java/lang/String")]
  staticTypes := #[]
  resolved := Array.replicate 55 none
  statics := none }

def pool13 : Array CpInfo := pool [(1, .class_ 2), (0, u "java/lang/String"), (1, .class_ 6), (1, u "java/lang/Object"), (0, u "<init>"), (0, u "()V"), (0, .methodref 1 10), (0, .nameAndType 11 12), (0, u "checkIndex"), (0, u "(II)V"), (1, .class_ 16), (1, u "java/lang/StringLatin1"), (36, u "([BI)C"), (67, u "$assertionsDisabled"), (0, u "Z"), (98, .class_ 223), (1, u "java/lang/StringLatin1$LinesSpliterator"), (28, u "charAt"), (28, u "equals"), (0, u "([B[B)Z"), (107, .class_ 391), (0, u "java/lang/StringLatin1$CharsSpliterator")] 3

def k13m0 : Method := { name := "<init>", desc := "()V", sig := { parameters := [], returnType := none }, accessFlags := 0, code := none }
def k13c1 : Code := { maxStack := 2, maxLocals := 2, code := jdk_43_method_2_code, exceptionTable := #[], attributes := #[] }
def k13m1 : Method := { name := "charAt", desc := "([BI)C", sig := { parameters := [(.array .byte), .int], returnType := some .char }, accessFlags := 9, code := some k13c1 }
def k13c2 : Code := { maxStack := 3, maxLocals := 3, code := jdk_43_method_13_code, exceptionTable := #[], attributes := #[] }
def k13m2 : Method := { name := "equals", desc := "([B[B)Z", sig := { parameters := [(.array .byte), (.array .byte)], returnType := some .boolean }, accessFlags := 9, code := some k13c2 }
/-- java/lang/StringLatin1 -/
def k13 : Class := { plain "java/lang/StringLatin1" (some 0) with
  accessFlags := 48
  interfaces := #[]
  cf := some (fileOf pool13 14 #[.nestMembers #[390, 221]] #[{ accessFlags := 0, nameIndex := 7, descriptorIndex := 8, attributes := #[] }, { accessFlags := 9, nameIndex := 252, descriptorIndex := 53, attributes := #[] }, { accessFlags := 9, nameIndex := 281, descriptorIndex := 282, attributes := #[] }] 48 4 #[] #[{ accessFlags := 4120, nameIndex := 121, descriptorIndex := 122, attributes := #[] }])
  fields := #[{ name := "$assertionsDisabled", type := .boolean, accessFlags := 4120, slot := 0, constantValue := 0 }]
  methods := #[k13m0, k13m1, k13m2]
  instanceTypes := #[]
  staticTypes := #[.boolean]
  resolved := Array.replicate 395 none
  statics := none }

def pool14 : Array CpInfo := pool [(2, .class_ 4), (1, u "java/lang/Object"), (0, u "<init>"), (0, u "()V"), (17, .class_ 26), (1, u "jdk/internal/util/Preconditions"), (6, u "checkIndex"), (21, .class_ 56), (0, u "jdk/internal/util/Preconditions$4"), (57, .class_ 115), (0, u "jdk/internal/util/Preconditions$1"), (7, u "SIOOBE_FORMATTER"), (0, u "Ljava/util/function/BiFunction;"), (0, .class_ 126), (0, u "jdk/internal/util/Preconditions$2"), (3, u "AIOOBE_FORMATTER"), (0, .class_ 132), (0, u "jdk/internal/util/Preconditions$3"), (3, u "IOOBE_FORMATTER"), (41, u "(IILjava/util/function/BiFunction;)I")] 15

def k14m0 : Method := { name := "<init>", desc := "()V", sig := { parameters := [], returnType := none }, accessFlags := 1, code := none }
def k14c1 : Code := { maxStack := 3, maxLocals := 3, code := jdk_41_method_11_code, exceptionTable := #[], attributes := #[] }
def k14m1 : Method := { name := "checkIndex", desc := "(IILjava/util/function/BiFunction;)I", sig := { parameters := [.int, .int, (.object "java/util/function/BiFunction")], returnType := some .int }, accessFlags := 9, code := some k14c1 }
/-- jdk/internal/util/Preconditions -/
def k14 : Class := { plain "jdk/internal/util/Preconditions" (some 0) with
  accessFlags := 33
  interfaces := #[]
  cf := some (fileOf pool14 24 #[.nestMembers #[55, 131, 125, 114]] #[{ accessFlags := 1, nameIndex := 5, descriptorIndex := 6, attributes := #[] }, { accessFlags := 9, nameIndex := 33, descriptorIndex := 178, attributes := #[] }] 33 2 #[] #[{ accessFlags := 25, nameIndex := 123, descriptorIndex := 124, attributes := #[] }, { accessFlags := 25, nameIndex := 130, descriptorIndex := 124, attributes := #[] }, { accessFlags := 25, nameIndex := 136, descriptorIndex := 124, attributes := #[] }])
  fields := #[{ name := "SIOOBE_FORMATTER", type := (.object "java/util/function/BiFunction"), accessFlags := 25, slot := 0, constantValue := 0 }, { name := "AIOOBE_FORMATTER", type := (.object "java/util/function/BiFunction"), accessFlags := 25, slot := 1, constantValue := 0 }, { name := "IOOBE_FORMATTER", type := (.object "java/util/function/BiFunction"), accessFlags := 25, slot := 2, constantValue := 0 }]
  methods := #[k14m0, k14m1]
  instanceTypes := #[]
  staticTypes := #[(.object "java/util/function/BiFunction"), (.object "java/util/function/BiFunction"), (.object "java/util/function/BiFunction")]
  resolved := Array.replicate 194 none
  statics := some 2 }

def pool15 : Array CpInfo := pool [(9, u "<init>"), (6, .class_ 18), (1, u "java/lang/Object"), (0, u "()V"), (1, .class_ 23), (1, u "jdk/internal/util/ArraysSupport"), (0, u "LOG2_ARRAY_LONG_INDEX_SCALE"), (0, u "I"), (2, u "U"), (0, u "Ljdk/internal/misc/Unsafe;"), (8, u "BIG_ENDIAN"), (0, u "Z"), (8, u "LOG2_BYTE_BIT_SIZE"), (4, u "LOG2_ARRAY_INT_INDEX_SCALE"), (54, u "JLA"), (0, u "Ljdk/internal/access/JavaLangAccess;"), (11, u "LOG2_ARRAY_BOOLEAN_INDEX_SCALE"), (9, u "LOG2_ARRAY_BYTE_INDEX_SCALE"), (5, u "LOG2_ARRAY_CHAR_INDEX_SCALE"), (5, u "LOG2_ARRAY_SHORT_INDEX_SCALE"), (18, u "LOG2_ARRAY_FLOAT_INDEX_SCALE"), (24, u "LOG2_ARRAY_DOUBLE_INDEX_SCALE"), (89, u "T_BOOLEAN"), (2, u "T_CHAR"), (1, u "T_FLOAT"), (1, u "T_DOUBLE"), (1, u "T_BYTE"), (1, u "T_SHORT"), (1, u "T_INT"), (1, u "T_LONG"), (1, u "SOFT_MAX_ARRAY_LENGTH")] 83

def k15m0 : Method := { name := "<init>", desc := "()V", sig := { parameters := [], returnType := none }, accessFlags := 2, code := none }
/-- jdk/internal/util/ArraysSupport -/
def k15 : Class := { plain "jdk/internal/util/ArraysSupport" (some 0) with
  accessFlags := 33
  interfaces := #[]
  cf := some (fileOf pool15 21 #[] #[{ accessFlags := 2, nameIndex := 9, descriptorIndex := 19, attributes := #[] }] 33 16 #[] #[{ accessFlags := 24, nameIndex := 28, descriptorIndex := 29, attributes := #[] }, { accessFlags := 26, nameIndex := 38, descriptorIndex := 39, attributes := #[] }, { accessFlags := 25, nameIndex := 121, descriptorIndex := 25, attributes := #[] }, { accessFlags := 25, nameIndex := 131, descriptorIndex := 25, attributes := #[] }, { accessFlags := 25, nameIndex := 137, descriptorIndex := 25, attributes := #[] }, { accessFlags := 25, nameIndex := 143, descriptorIndex := 25, attributes := #[] }, { accessFlags := 25, nameIndex := 53, descriptorIndex := 25, attributes := #[] }, { accessFlags := 25, nameIndex := 24, descriptorIndex := 25, attributes := #[] }, { accessFlags := 25, nameIndex := 162, descriptorIndex := 25, attributes := #[] }, { accessFlags := 25, nameIndex := 187, descriptorIndex := 25, attributes := #[] }, { accessFlags := 26, nameIndex := 48, descriptorIndex := 25, attributes := #[] }, { accessFlags := 25, nameIndex := 277, descriptorIndex := 25, attributes := #[] }, { accessFlags := 25, nameIndex := 280, descriptorIndex := 25, attributes := #[] }, { accessFlags := 25, nameIndex := 282, descriptorIndex := 25, attributes := #[] }, { accessFlags := 25, nameIndex := 284, descriptorIndex := 25, attributes := #[] }, { accessFlags := 25, nameIndex := 286, descriptorIndex := 25, attributes := #[] }, { accessFlags := 25, nameIndex := 288, descriptorIndex := 25, attributes := #[] }, { accessFlags := 25, nameIndex := 290, descriptorIndex := 25, attributes := #[] }, { accessFlags := 25, nameIndex := 292, descriptorIndex := 25, attributes := #[] }, { accessFlags := 26, nameIndex := 108, descriptorIndex := 109, attributes := #[] }, { accessFlags := 25, nameIndex := 294, descriptorIndex := 25, attributes := #[] }])
  fields := #[{ name := "U", type := (.object "jdk/internal/misc/Unsafe"), accessFlags := 24, slot := 0, constantValue := 0 }, { name := "BIG_ENDIAN", type := .boolean, accessFlags := 26, slot := 1, constantValue := 0 }, { name := "LOG2_ARRAY_BOOLEAN_INDEX_SCALE", type := .int, accessFlags := 25, slot := 2, constantValue := 0 }, { name := "LOG2_ARRAY_BYTE_INDEX_SCALE", type := .int, accessFlags := 25, slot := 3, constantValue := 0 }, { name := "LOG2_ARRAY_CHAR_INDEX_SCALE", type := .int, accessFlags := 25, slot := 4, constantValue := 0 }, { name := "LOG2_ARRAY_SHORT_INDEX_SCALE", type := .int, accessFlags := 25, slot := 5, constantValue := 0 }, { name := "LOG2_ARRAY_INT_INDEX_SCALE", type := .int, accessFlags := 25, slot := 6, constantValue := 0 }, { name := "LOG2_ARRAY_LONG_INDEX_SCALE", type := .int, accessFlags := 25, slot := 7, constantValue := 0 }, { name := "LOG2_ARRAY_FLOAT_INDEX_SCALE", type := .int, accessFlags := 25, slot := 8, constantValue := 0 }, { name := "LOG2_ARRAY_DOUBLE_INDEX_SCALE", type := .int, accessFlags := 25, slot := 9, constantValue := 0 }, { name := "LOG2_BYTE_BIT_SIZE", type := .int, accessFlags := 26, slot := 10, constantValue := 0 }, { name := "T_BOOLEAN", type := .int, accessFlags := 25, slot := 11, constantValue := 0 }, { name := "T_CHAR", type := .int, accessFlags := 25, slot := 12, constantValue := 0 }, { name := "T_FLOAT", type := .int, accessFlags := 25, slot := 13, constantValue := 0 }, { name := "T_DOUBLE", type := .int, accessFlags := 25, slot := 14, constantValue := 0 }, { name := "T_BYTE", type := .int, accessFlags := 25, slot := 15, constantValue := 0 }, { name := "T_SHORT", type := .int, accessFlags := 25, slot := 16, constantValue := 0 }, { name := "T_INT", type := .int, accessFlags := 25, slot := 17, constantValue := 0 }, { name := "T_LONG", type := .int, accessFlags := 25, slot := 18, constantValue := 0 }, { name := "JLA", type := (.object "jdk/internal/access/JavaLangAccess"), accessFlags := 26, slot := 19, constantValue := 0 }, { name := "SOFT_MAX_ARRAY_LENGTH", type := .int, accessFlags := 25, slot := 20, constantValue := 0 }]
  methods := #[k15m0]
  instanceTypes := #[]
  staticTypes := #[(.object "jdk/internal/misc/Unsafe"), .boolean, .int, .int, .int, .int, .int, .int, .int, .int, .int, .int, .int, .int, .int, .int, .int, .int, .int, (.object "jdk/internal/access/JavaLangAccess"), .int]
  resolved := Array.replicate 378 none
  statics := none }

/-- the primitive byte -/
def k16 : Class := { plain "byte" none with kind := .primitive 'B', accessFlags := 0x411 }
/-- [B -/
def k17 : Class := { plain "[B" (some 0) with kind := .array 16 .byte, interfaces := #[11, 2], accessFlags := 1041 }

/-- the primitive char -/
def k18 : Class := { plain "char" none with kind := .primitive 'C', accessFlags := 0x411 }
/-- [C -/
def k19 : Class := { plain "[C" (some 0) with kind := .array 18 .char, interfaces := #[11, 2], accessFlags := 1041 }

/-- the primitive int -/
def k20 : Class := { plain "int" none with kind := .primitive 'I', accessFlags := 0x411 }
/-- [I -/
def k21 : Class := { plain "[I" (some 0) with kind := .array 20 .int, interfaces := #[11, 2], accessFlags := 1041 }

/-- [Lno/nordsegl/rules/SchemaType; -/
def k22 : Class := { plain "[Lno/nordsegl/rules/SchemaType;" (some 0) with kind := .array 10 (.object "no/nordsegl/rules/SchemaType"), interfaces := #[11, 2], accessFlags := 1041 }

def heap : Heap := #[{ cls := 7, slots := #[.long 0, .int 1, .null, .int 0, .null, .int 0, .int 0], vm := .statics 7 },
  { cls := 10, slots := #[.ref 4, .ref 3], vm := .statics 10 },
  { cls := 14, slots := #[.null, .null, .null], vm := .statics 14 },
  { cls := 22, slots := #[.ref 4], vm := .none },
  { cls := 12, slots := #[.null, .int 0, .int 0, .ref 5], vm := .none },
  { cls := 7, slots := #[.ref 6, .int 0, .int 0, .int 0], vm := .none },
  { cls := 17, slots := #[.int 65, .int 115, .int 115, .int 101, .int 114, .int 116, .int 105, .int 111, .int 110, .int 64, .int 73, .int 68], vm := .none }]
def classes : Array Class := #[k0, k1, k2, k3, k4, k5, k6, k7, k8, k9, k10, k11, k12, k13, k14, k15, k16, k17, k18, k19, k20, k21, k22]
def interned : List (Array UInt16 × Addr) := []
def slotsUsed : Nat := 33
def theMethod : MethodId := ⟨1, 2⟩
def args0 : Array Value := #[.int 5, .int 6, .int 7, .int 8]
def aboutOver (below : List Frame) : State where
  vm := { classes := classes, interned := interned.toArray }
  heap := heap
  slotsUsed := slotsUsed
  threads := #[{ frames := .invoking theMethod args0 :: below }]
def below0 : List Frame := [.native { method := ⟨0, 0⟩, args := #[] }]
def about1 : State := aboutOver below0
def p0 : Program := .bare "" "" ""
def e0 : Env := launch0.env 0 0 0
theorem w_frames : about1.frames = Frame.invoking theMethod args0 :: below0 := rfl
set_option maxRecDepth 65536 in
theorem w_args : argsFit about1.vm theMethod args0 = true := by decide +kernel
set_option maxRecDepth 65536 in
theorem w_heap : heapFits about1 = true := by decide +kernel
set_option maxRecDepth 65536 in
theorem w_runnable : about1.curStatus? = some .runnable := by decide +kernel
set_option maxRecDepth 65536 in
theorem w_alone : about1.alone = true := by decide +kernel
set_option maxRecDepth 65536 in
theorem w_named : about1.methodNamed? x = some theMethod := by decide +kernel
set_option maxRecDepth 65536 in
theorem w_hears : about1.hears theMethod below0 = true := by decide +kernel
set_option maxRecDepth 65536 in
theorem w_ripe : about1.ripe theMethod args0 below0 = true := by decide +kernel
theorem w_running : about1.status = .running := rfl
set_option maxRecDepth 65536 in
theorem w_room : about1.hasRoom e0.platform room_1 = true :=
  launch0.hasRoom_least _ room_1 (by decide +kernel) (by decide +kernel) (by decide +kernel) (by decide +kernel) (by decide +kernel) (by decide +kernel)
theorem allAtoms_all (ts : List Jvm.Cond) (a : Array Jvm.Value) (st : Jvm.State) : (allAtoms ts).before a st = ts.all (fun c => c.before a st) := by
  induction ts with
  | nil => rfl
  | cons c t ih =>
    show (Jvm.Cond.and c (allAtoms t)).before a st = _
    rw [Jvm.Cond.before_and, ih, List.all_cons]
def words1 : List Jvm.Cond := Jvm.Cond.code x code maxLocals ret :: tables_1
/-- a 'code' word, met by the world's own term for the bytes: nothing is compared byte by byte -/
theorem code_word {y : MethodName} {bytes : ByteArray} {mx : Nat} {rt : Option FieldType} {a : Array Value} {s : State} {m : MethodId} {meth : Method} {c : Code} (h1 : s.methodNamed? y = some m) (h2 : s.vm.method? m = some meth) (h3 : meth.code = some c) (h4 : c.code = bytes)
    (h5 : (c.maxLocals == mx && c.exceptionTable.isEmpty && decide (c.maxStack ≤ mostOperands) && decide (meth.sig.returnType = rt) && !meth.locks && decide (parseMethodDescriptor y.desc = some meth.sig)) = true) : (Jvm.Cond.code y bytes mx rt).before a s = true := by
  simp only [Bool.and_eq_true, beq_iff_eq, Bool.not_eq_true', decide_eq_true_eq] at h5
  obtain ⟨⟨⟨⟨⟨g1, g2⟩, g3⟩, g4⟩, g5⟩, g6⟩ := h5
  simp [Cond.before, Cond.holds, Cond.value, h1, h2, h3, h4, g1, g2, g3, g4, g5, g6]
def isCode : Jvm.Cond → Bool
  | .code _ _ _ _ => true
  | _ => false
theorem all_split {L : List Jvm.Cond} {P : Jvm.Cond → Bool} (h1 : L.all (fun c => isCode c || P c) = true) (h2 : ∀ c ∈ L.filter isCode, P c = true) : L.all P = true := by
  refine List.all_eq_true.mpr fun c hc => ?_
  have h := List.all_eq_true.mp h1 c hc
  rcases Bool.eq_false_or_eq_true (isCode c) with hi | hi
  · exact h2 c (List.mem_filter.mpr ⟨hc, hi⟩)
  · simpa [hi] using h
set_option maxRecDepth 65536 in
theorem w_c0 : (Jvm.Cond.code x code maxLocals ret).before args0 about1 = true := code_word (m := ⟨1, 2⟩) (meth := k1m2) (c := k1c2) (by decide +kernel) rfl rfl rfl (by decide +kernel)
set_option maxRecDepth 65536 in
theorem w_c1 : (Jvm.Cond.code ({ cls := "no/nordsegl/rules/SchemaTypeOfPinLaw", name := "prefix", desc := "([CI)[C" } : Jvm.MethodName) method_2_code (3 : Nat) (Option.some (Jvm.ClassFile.FieldType.array Jvm.ClassFile.FieldType.char))).before args0 about1 = true := code_word (m := ⟨1, 1⟩) (meth := k1m1) (c := k1c1) (by decide +kernel) rfl rfl rfl (by decide +kernel)
set_option maxRecDepth 65536 in
theorem w_c2 : (Jvm.Cond.code ({ cls := "java/lang/String", name := "<init>", desc := "([C)V" } : Jvm.MethodName) jdk_42_method_3_code (2 : Nat) (Option.none : Option Jvm.ClassFile.FieldType)).before args0 about1 = true := code_word (m := ⟨7, 1⟩) (meth := k7m1) (c := k7c1) (by decide +kernel) rfl rfl rfl (by decide +kernel)
set_option maxRecDepth 65536 in
theorem w_c3 : (Jvm.Cond.code ({ cls := "java/lang/String", name := "<init>", desc := "([CIILjava/lang/Void;)V" } : Jvm.MethodName) jdk_42_method_149_code (6 : Nat) (Option.none : Option Jvm.ClassFile.FieldType)).before args0 about1 = true := code_word (m := ⟨7, 4⟩) (meth := k7m4) (c := k7c4) (by decide +kernel) rfl rfl rfl (by decide +kernel)
set_option maxRecDepth 65536 in
theorem w_c4 : (Jvm.Cond.code ({ cls := "java/lang/Object", name := "<init>", desc := "()V" } : Jvm.MethodName) object_method_1_code (1 : Nat) (Option.none : Option Jvm.ClassFile.FieldType)).before args0 about1 = true := code_word (m := ⟨0, 0⟩) (meth := k0m0) (c := k0c0) (by decide +kernel) rfl rfl rfl (by decide +kernel)
set_option maxRecDepth 65536 in
theorem w_c5 : (Jvm.Cond.code ({ cls := "java/lang/StringUTF16", name := "compress", desc := "([CII)[B" } : Jvm.MethodName) jdk_52_method_16_code (6 : Nat) (Option.some (Jvm.ClassFile.FieldType.array Jvm.ClassFile.FieldType.byte))).before args0 about1 = true := code_word (m := ⟨8, 2⟩) (meth := k8m2) (c := k8c2) (by decide +kernel) rfl rfl rfl (by decide +kernel)
set_option maxRecDepth 65536 in
theorem w_c6 : (Jvm.Cond.code ({ cls := "java/lang/StringUTF16", name := "compress", desc := "([CI[BII)I" } : Jvm.MethodName) jdk_52_method_21_code (7 : Nat) (Option.some Jvm.ClassFile.FieldType.int)).before args0 about1 = true := code_word (m := ⟨8, 3⟩) (meth := k8m3) (c := k8c3) (by decide +kernel) rfl rfl rfl (by decide +kernel)
set_option maxRecDepth 65536 in
theorem w_c7 : (Jvm.Cond.code ({ cls := "java/lang/StringUTF16", name := "coderFromArrayLen", desc := "([BI)B" } : Jvm.MethodName) jdk_52_method_15_code (2 : Nat) (Option.some Jvm.ClassFile.FieldType.byte)).before args0 about1 = true := code_word (m := ⟨8, 1⟩) (meth := k8m1) (c := k8c1) (by decide +kernel) rfl rfl rfl (by decide +kernel)
set_option maxRecDepth 65536 in
theorem w_c8 : (Jvm.Cond.code ({ cls := "no/nordsegl/rules/SchemaType", name := "of", desc := "(Ljava/lang/String;)Lno/nordsegl/rules/SchemaType;" } : Jvm.MethodName) prog_98_method_4_code (5 : Nat) (Option.some (Jvm.ClassFile.FieldType.object "no/nordsegl/rules/SchemaType"))).before args0 about1 = true := code_word (m := ⟨10, 1⟩) (meth := k10m1) (c := k10c1) (by decide +kernel) rfl rfl rfl (by decide +kernel)
set_option maxRecDepth 65536 in
theorem w_c9 : (Jvm.Cond.code ({ cls := "no/nordsegl/rules/SchemaType", name := "values", desc := "()[Lno/nordsegl/rules/SchemaType;" } : Jvm.MethodName) prog_98_method_1_code (0 : Nat) (Option.some (Jvm.ClassFile.FieldType.array (Jvm.ClassFile.FieldType.object "no/nordsegl/rules/SchemaType")))).before args0 about1 = true := code_word (m := ⟨10, 0⟩) (meth := k10m0) (c := k10c0) (by decide +kernel) rfl rfl rfl (by decide +kernel)
set_option maxRecDepth 65536 in
theorem w_c10 : (Jvm.Cond.code ({ cls := "java/lang/String", name := "equals", desc := "(Ljava/lang/Object;)Z" } : Jvm.MethodName) jdk_42_method_66_code (3 : Nat) (Option.some Jvm.ClassFile.FieldType.boolean)).before args0 about1 = true := code_word (m := ⟨7, 3⟩) (meth := k7m3) (c := k7c3) (by decide +kernel) rfl rfl rfl (by decide +kernel)
set_option maxRecDepth 65536 in
theorem w_c11 : (Jvm.Cond.code ({ cls := "java/lang/StringLatin1", name := "equals", desc := "([B[B)Z" } : Jvm.MethodName) jdk_43_method_13_code (3 : Nat) (Option.some Jvm.ClassFile.FieldType.boolean)).before args0 about1 = true := code_word (m := ⟨13, 2⟩) (meth := k13m2) (c := k13c2) (by decide +kernel) rfl rfl rfl (by decide +kernel)
set_option maxRecDepth 65536 in
theorem w_c12 : (Jvm.Cond.code ({ cls := "java/lang/String", name := "charAt", desc := "(I)C" } : Jvm.MethodName) jdk_42_method_56_code (2 : Nat) (Option.some Jvm.ClassFile.FieldType.char)).before args0 about1 = true := code_word (m := ⟨7, 2⟩) (meth := k7m2) (c := k7c2) (by decide +kernel) rfl rfl rfl (by decide +kernel)
set_option maxRecDepth 65536 in
theorem w_c13 : (Jvm.Cond.code ({ cls := "java/lang/String", name := "isLatin1", desc := "()Z" } : Jvm.MethodName) jdk_42_method_154_code (1 : Nat) (Option.some Jvm.ClassFile.FieldType.boolean)).before args0 about1 = true := code_word (m := ⟨7, 5⟩) (meth := k7m5) (c := k7c5) (by decide +kernel) rfl rfl rfl (by decide +kernel)
set_option maxRecDepth 65536 in
theorem w_c14 : (Jvm.Cond.code ({ cls := "java/lang/StringLatin1", name := "charAt", desc := "([BI)C" } : Jvm.MethodName) jdk_43_method_2_code (2 : Nat) (Option.some Jvm.ClassFile.FieldType.char)).before args0 about1 = true := code_word (m := ⟨13, 1⟩) (meth := k13m1) (c := k13c1) (by decide +kernel) rfl rfl rfl (by decide +kernel)
set_option maxRecDepth 65536 in
theorem w_c15 : (Jvm.Cond.code ({ cls := "java/lang/String", name := "checkIndex", desc := "(II)V" } : Jvm.MethodName) jdk_42_method_155_code (2 : Nat) (Option.none : Option Jvm.ClassFile.FieldType)).before args0 about1 = true := code_word (m := ⟨7, 6⟩) (meth := k7m6) (c := k7c6) (by decide +kernel) rfl rfl rfl (by decide +kernel)
set_option maxRecDepth 65536 in
theorem w_c16 : (Jvm.Cond.code ({ cls := "jdk/internal/util/Preconditions", name := "checkIndex", desc := "(IILjava/util/function/BiFunction;)I" } : Jvm.MethodName) jdk_41_method_11_code (3 : Nat) (Option.some Jvm.ClassFile.FieldType.int)).before args0 about1 = true := code_word (m := ⟨14, 1⟩) (meth := k14m1) (c := k14c1) (by decide +kernel) rfl rfl rfl (by decide +kernel)
def codes1 : List Jvm.Cond := [Jvm.Cond.code x code maxLocals ret, Jvm.Cond.code ({ cls := "no/nordsegl/rules/SchemaTypeOfPinLaw", name := "prefix", desc := "([CI)[C" } : Jvm.MethodName) method_2_code (3 : Nat) (Option.some (Jvm.ClassFile.FieldType.array Jvm.ClassFile.FieldType.char)), Jvm.Cond.code ({ cls := "java/lang/String", name := "<init>", desc := "([C)V" } : Jvm.MethodName) jdk_42_method_3_code (2 : Nat) (Option.none : Option Jvm.ClassFile.FieldType), Jvm.Cond.code ({ cls := "java/lang/String", name := "<init>", desc := "([CIILjava/lang/Void;)V" } : Jvm.MethodName) jdk_42_method_149_code (6 : Nat) (Option.none : Option Jvm.ClassFile.FieldType), Jvm.Cond.code ({ cls := "java/lang/Object", name := "<init>", desc := "()V" } : Jvm.MethodName) object_method_1_code (1 : Nat) (Option.none : Option Jvm.ClassFile.FieldType), Jvm.Cond.code ({ cls := "java/lang/StringUTF16", name := "compress", desc := "([CII)[B" } : Jvm.MethodName) jdk_52_method_16_code (6 : Nat) (Option.some (Jvm.ClassFile.FieldType.array Jvm.ClassFile.FieldType.byte)), Jvm.Cond.code ({ cls := "java/lang/StringUTF16", name := "compress", desc := "([CI[BII)I" } : Jvm.MethodName) jdk_52_method_21_code (7 : Nat) (Option.some Jvm.ClassFile.FieldType.int), Jvm.Cond.code ({ cls := "java/lang/StringUTF16", name := "coderFromArrayLen", desc := "([BI)B" } : Jvm.MethodName) jdk_52_method_15_code (2 : Nat) (Option.some Jvm.ClassFile.FieldType.byte), Jvm.Cond.code ({ cls := "no/nordsegl/rules/SchemaType", name := "of", desc := "(Ljava/lang/String;)Lno/nordsegl/rules/SchemaType;" } : Jvm.MethodName) prog_98_method_4_code (5 : Nat) (Option.some (Jvm.ClassFile.FieldType.object "no/nordsegl/rules/SchemaType")), Jvm.Cond.code ({ cls := "no/nordsegl/rules/SchemaType", name := "values", desc := "()[Lno/nordsegl/rules/SchemaType;" } : Jvm.MethodName) prog_98_method_1_code (0 : Nat) (Option.some (Jvm.ClassFile.FieldType.array (Jvm.ClassFile.FieldType.object "no/nordsegl/rules/SchemaType"))), Jvm.Cond.code ({ cls := "java/lang/String", name := "equals", desc := "(Ljava/lang/Object;)Z" } : Jvm.MethodName) jdk_42_method_66_code (3 : Nat) (Option.some Jvm.ClassFile.FieldType.boolean), Jvm.Cond.code ({ cls := "java/lang/StringLatin1", name := "equals", desc := "([B[B)Z" } : Jvm.MethodName) jdk_43_method_13_code (3 : Nat) (Option.some Jvm.ClassFile.FieldType.boolean), Jvm.Cond.code ({ cls := "java/lang/String", name := "charAt", desc := "(I)C" } : Jvm.MethodName) jdk_42_method_56_code (2 : Nat) (Option.some Jvm.ClassFile.FieldType.char), Jvm.Cond.code ({ cls := "java/lang/String", name := "isLatin1", desc := "()Z" } : Jvm.MethodName) jdk_42_method_154_code (1 : Nat) (Option.some Jvm.ClassFile.FieldType.boolean), Jvm.Cond.code ({ cls := "java/lang/StringLatin1", name := "charAt", desc := "([BI)C" } : Jvm.MethodName) jdk_43_method_2_code (2 : Nat) (Option.some Jvm.ClassFile.FieldType.char), Jvm.Cond.code ({ cls := "java/lang/String", name := "checkIndex", desc := "(II)V" } : Jvm.MethodName) jdk_42_method_155_code (2 : Nat) (Option.none : Option Jvm.ClassFile.FieldType), Jvm.Cond.code ({ cls := "jdk/internal/util/Preconditions", name := "checkIndex", desc := "(IILjava/util/function/BiFunction;)I" } : Jvm.MethodName) jdk_41_method_11_code (3 : Nat) (Option.some Jvm.ClassFile.FieldType.int)]
set_option maxRecDepth 65536 in
theorem codes_eq : words1.filter isCode = codes1 := rfl
theorem w_codes : ∀ c ∈ words1.filter isCode, c.before args0 about1 = true := by
  rw [codes_eq]
  intro c hc
  simp only [codes1, List.mem_cons, List.not_mem_nil, or_false] at hc
  rcases hc with rfl | rfl | rfl | rfl | rfl | rfl | rfl | rfl | rfl | rfl | rfl | rfl | rfl | rfl | rfl | rfl | rfl
  · exact w_c0
  · exact w_c1
  · exact w_c2
  · exact w_c3
  · exact w_c4
  · exact w_c5
  · exact w_c6
  · exact w_c7
  · exact w_c8
  · exact w_c9
  · exact w_c10
  · exact w_c11
  · exact w_c12
  · exact w_c13
  · exact w_c14
  · exact w_c15
  · exact w_c16
set_option maxRecDepth 65536 in
theorem w_t1 : (words1.take 24).all (fun c => isCode c || c.before args0 about1) = true := by decide +kernel
set_option maxRecDepth 65536 in
theorem w_t2 : ((words1.drop 24).take 24).all (fun c => isCode c || c.before args0 about1) = true := by decide +kernel
set_option maxRecDepth 65536 in
theorem w_t3 : (((words1.drop 24).drop 24).take 24).all (fun c => isCode c || c.before args0 about1) = true := by decide +kernel
set_option maxRecDepth 65536 in
theorem w_t4 : (((words1.drop 24).drop 24).drop 24).all (fun c => isCode c || c.before args0 about1) = true := by decide +kernel
theorem w_tables : (allAtoms (Jvm.Cond.code x code maxLocals ret :: tables_1)).before args0 about1 = true := by
  rw [allAtoms_all]
  show words1.all (fun c => c.before args0 about1) = true
  refine all_split ?_ w_codes
  rw [← List.take_append_drop 24 words1, List.all_append, w_t1, ← List.take_append_drop 24 (words1.drop 24), List.all_append, w_t2, ← List.take_append_drop 24 ((words1.drop 24).drop 24), List.all_append, w_t3, w_t4]
  rfl
set_option maxRecDepth 65536 in
theorem w_rest : rest_1_c.before args0 about1 = true := by decide +kernel
set_option maxRecDepth 65536 in
theorem w_case : (Jvm.Cond.and given_1 narrow_1).before args0 about1 = true := by decide +kernel
set_option maxRecDepth 65536 in
theorem w_consts : constsHeld consts_1 about1 := Jvm.Lit.constsHeldB_iff.mp (by decide +kernel)
theorem w_applies : (headSpec (Jvm.Cond.code x code maxLocals ret :: tables_1) room_1).applies x e0.platform about1 = true :=
  (Spec.applies_iff w_frames).mpr ⟨w_running, w_runnable, w_alone, w_named, w_hears, w_ripe, w_room, w_tables⟩
theorem atStart : AtStart classFile x code maxLocals ret World_1 tables_1 room_1 Calls_1 rest_1 Pre_1 launch0 p0 e0 about1 theMethod args0 below0 :=
  ⟨lists_1, trivial, launch0.admits_env _ _ _, launch0.least_env, fairChoices_fair.cas, fairChoices_fair.clock, w_frames, w_args, w_heap, w_applies, ⟨w_consts, trivial⟩, w_rest, w_case⟩
end start1
theorem witness_1 : WitnessClaimed_1 := ⟨start1.p0, start1.e0, start1.about1, start1.theMethod, start1.args0, start1.below0, start1.atStart⟩
end Jvm.Pilot.@@N@@
