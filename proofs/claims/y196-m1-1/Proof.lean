import JvmDerived
import JvmDerived.Pilot.@@N@@Statement
import JvmDerived.Pilot.@@N@@Code
set_option linter.unusedVariables false
set_option linter.unusedSimpArgs false
namespace Jvm.Pilot.@@N@@
open Jvm Jvm.ClassFile Sem Op Lib Jvm.Free Jvm.Stand Jvm.LawKit Jvm.RoadKit Bundle Jvm.Pilot.@@N@@.Jvm.D
/-! ## A body, its walk (Wk) and its contract (Cn) -/
abbrev Bdy : Type := MethodName × ByteArray × Nat × Option FieldType × Room
abbrev Bdy.y (b : Bdy) : MethodName := b.1
abbrev Bdy.code (b : Bdy) : ByteArray := b.2.1
abbrev Bdy.maxL (b : Bdy) : Nat := b.2.2.1
abbrev Bdy.ret (b : Bdy) : Option FieldType := b.2.2.2.1
abbrev Bdy.room (b : Bdy) : Room := b.2.2.2.2
/-- what is known of the VM's tables: none: only warmer; some: which texts were interned, which literals are resolved -/
abbrev Lts : Type := Option (List String × List (String × Nat × Addr))
def VI (Z : State) (I : Lts) (vm : Vm) : Prop := match I with
  | none => Z.WarmedH vm
  | some q => IB Z vm q.1 ∧ ∀ u ∈ q.2, Lit (Z.setVm vm) u.1 u.2.1 u.2.2
theorem VI.warm {Z s : State} {I : Lts} {vm' : Vm} (hV : VI Z I s.vm) (hW : s.WarmedH vm') : VI Z I vm' := by
  cases I with
  | none => exact State.WarmedH.trans hV hW
  | some q =>
    refine ⟨?_, fun u hu => ?_⟩
    · obtain ⟨more, h1, h2⟩ := hV.1
      exact ⟨more, by rw [hW.interned_eq]; exact h1, h2⟩
    · exact Lit.stays (vm0 := s.vm) (hV.2 u hu) (by exact hW.wide)
abbrev Cx : Type := Launch × State × Nat × Nat × Bdy × (Option Value → Heap → Lts → Prop)
abbrev Cx.l (c : Cx) : Launch := c.1
abbrev Cx.Z (c : Cx) : State := c.2.1
abbrev Cx.N (c : Cx) : Nat := c.2.2.1
abbrev Cx.M (c : Cx) : Nat := c.2.2.2.1
abbrev Cx.b (c : Cx) : Bdy := c.2.2.2.2.1
abbrev Cx.Q (c : Cx) : Option Value → Heap → Lts → Prop := c.2.2.2.2.2
def Fini (C : Cx) (s : State) (o : Outcome) (t : State) : Prop :=
  ∃ v L J, o = .returned v ∧ C.Q v t.heap J ∧ VI C.Z J t.vm ∧ Fr C.N L ∧ Ext C.Z.heap t.heap ∧ ReturnedEndW s o t L C.b.room.cells C.b.room.slots
def St (C : Cx) (p : Program) (e : Env) (s : State) (vm0 : Vm) (m : MethodId) (args : Array Value) (below : List Frame) (meth : Method) (c : Code) (T : State) (locs : List Loc) (k0 : Nat) (h : Heap) (k n : Nat) (I : Lts) : Prop :=
  (p.tables.exec = Jvm.exec ∧ c.code = C.b.code ∧ c.maxLocals = C.b.maxL ∧ meth.sig.returnType = C.b.ret ∧ meth.locks = false ∧ meth.name = C.b.y.name ∧ C.Z.heap.size ≤ C.N ∧ s.heap.size = C.M ∧ Ext C.Z.heap s.heap) ∧
  (vm0.findClass C.b.y.cls = some m.cls ∧ C.Z.Warmed39 vm0 ∧ s.Since vm0 k0 ∧ VI C.Z I vm0) ∧
  (k0 ≤ h.size ∧ Stand p C.l e C.b.room (s.setVm vm0) m args below meth c T locs k n ∧ T.heap = h ∧ Ext C.Z.heap h ∧ C.N ≤ h.size ∧ Fr C.N locs)
def Wk (C : Cx) (h : Heap) (k n : Nat) (I : Lts) (pc : Nat) (Ls : Array Slot) (st : List Value) : Prop :=
  ∀ (p : Program) (e : Env) (s : State) (vm0 : Vm) (m : MethodId) (args : Array Value) (below : List Frame) (meth : Method) (c : Code) (T : State) (locs : List Loc) (k0 : Nat),
    St C p e s vm0 m args below meth c T locs k0 h k n I →
    ∃ t o, Steps p.tables e below (T.setTop (mkF m pc Ls st)) t ∧ t.status = .running ∧ Ended t below o ∧ Fini C s o t
def Cn (l : Launch) (Z : State) (N : Nat) (b : Bdy) (as : Array Value) (h : Heap) (I : Lts) (Q : Option Value → Heap → Lts → Prop) : Prop :=
  ∀ ws : List Jvm.Cond, MetFree l b.y (head1 (Jvm.Cond.code b.y b.code b.maxL b.ret :: ws) b.room) (fun a U => a = as ∧ Z.Warmed39 U.vm ∧ U.heap = h ∧ VI Z I U.vm ∧ Ext Z.heap h ∧ N ≤ h.size ∧ Z.heap.size ≤ N) (fun _ _ _ _ _ => True) (fun _ U o U' => Fini (l, Z, N, h.size, b, Q) U o U')
theorem own_ext {h0 h : Heap} (K : Keep h0 h []) : Ext h0 h := ⟨K.1, fun a c q => K.2.1 a c q nin0⟩
section Kit
variable {C : Cx} {h h' : Heap} {k n k' n' : Nat} {I : Lts} {pc pc' : Nat} {Ls Ls' : Array Slot} {st st' rest : List Value} {a0 : Array Value}
theorem Wk.step (hs : ∀ (p : Program) (e : Env) (m : MethodId) (below : List Frame) (c : Code) (T t : State), At T m c below → p.tables.exec = Jvm.exec → c.code = C.b.code → Steps p.tables e below (T.setTop (mkF m pc' Ls' st')) t → Steps p.tables e below (T.setTop (mkF m pc Ls st)) t)
    (r : Wk C h k n I pc' Ls' st') : Wk C h k n I pc Ls st := fun p e s vm0 m args below meth c T locs k0 S => by
  obtain ⟨t, o, h1, h2⟩ := r p e s vm0 m args below meth c T locs k0 S
  exact ⟨t, o, hs p e m below c T t S.2.2.2.1.here S.1.1 S.1.2.1 h1, h2⟩
/-- a step over the Stand, the heap as it is -/
theorem Wk.law (hs : ∀ (p : Program) (e : Env) (s : State) (vm0 : Vm) (m : MethodId) (args : Array Value) (below : List Frame) (meth : Method) (c : Code) (T : State) (locs : List Loc) (k0 : Nat), St C p e s vm0 m args below meth c T locs k0 h k n I →
      ∃ T', Stand p C.l e C.b.room (s.setVm vm0) m args below meth c T' locs k n ∧ T'.heap = h ∧ ∀ t, Steps p.tables e below (T'.setTop (mkF m pc' Ls' st')) t → Steps p.tables e below (T.setTop (mkF m pc Ls st)) t)
    (r : Wk C h k n I pc' Ls' st') : Wk C h k n I pc Ls st := fun p e s vm0 m args below meth c T locs k0 S => by
  obtain ⟨T', X', e', st⟩ := hs p e s vm0 m args below meth c T locs k0 S
  obtain ⟨t, o, h1, h2⟩ := r p e s vm0 m args below meth c T' locs k0 ⟨S.1, S.2.1, S.2.2.1, X', e', S.2.2.2.2.2⟩
  exact ⟨t, o, st t h1, h2⟩
/-- a step that writes one place -/
theorem Wk.lawW {a : Addr} {sl : Nat} {v : Value} (ha : C.N ≤ a) (hs : ∀ (p : Program) (e : Env) (s : State) (vm0 : Vm) (m : MethodId) (args : Array Value) (below : List Frame) (meth : Method) (c : Code) (T : State) (locs : List Loc) (k0 : Nat), St C p e s vm0 m args below meth c T locs k0 h k n I →
      ∃ T' h', Stand p C.l e C.b.room (s.setVm vm0) m args below meth c T' (locs ++ [⟨a, sl⟩]) k n ∧ T'.heap = h' ∧ Wr h h' a sl v ∧ ∀ t, Steps p.tables e below (T'.setTop (mkF m pc' Ls' st')) t → Steps p.tables e below (T.setTop (mkF m pc Ls st)) t)
    (r : ∀ h', Wr h h' a sl v → Wk C h' k n I pc' Ls' st') : Wk C h k n I pc Ls st := fun p e s vm0 m args below meth c T locs k0 S => by
  obtain ⟨T', h', X', e', W, st⟩ := hs p e s vm0 m args below meth c T locs k0 S
  obtain ⟨A, B, q1, q2, q3, q4, q5, q6⟩ := S
  have hO : Old C.Z C.Z.heap.size h := ⟨rfl, q4⟩
  obtain ⟨t, o, h1, h2⟩ := r h' W p e s vm0 m args below meth c T' _ k0 ⟨A, B, by rw [W.size]; exact q1, X', e', (hO.wr W (Nat.le_trans A.2.2.2.2.2.2.1 ha)).2, by rw [W.size]; exact q5, Fr.snoc X' q6 ha⟩
  exact ⟨t, o, st t h1, h2⟩
/-- a step that makes a cell -/
theorem Wk.lawE {P : Heap → Prop} (hs : ∀ (p : Program) (e : Env) (s : State) (vm0 : Vm) (m : MethodId) (args : Array Value) (below : List Frame) (meth : Method) (c : Code) (T : State) (locs : List Loc) (k0 : Nat), St C p e s vm0 m args below meth c T locs k0 h k n I →
      ∃ T' h', Stand p C.l e C.b.room (s.setVm vm0) m args below meth c T' locs k' n' ∧ T'.heap = h' ∧ Ext h h' ∧ P h' ∧ ∀ t, Steps p.tables e below (T'.setTop (mkF m pc' Ls' st')) t → Steps p.tables e below (T.setTop (mkF m pc Ls st)) t)
    (r : ∀ h', Ext h h' → P h' → Wk C h' k' n' I pc' Ls' st') : Wk C h k n I pc Ls st := fun p e s vm0 m args below meth c T locs k0 S => by
  obtain ⟨T', h', X', e', E, hp, st⟩ := hs p e s vm0 m args below meth c T locs k0 S
  obtain ⟨A, B, q1, q2, q3, q4, q5, q6⟩ := S
  obtain ⟨t, o, h1, h2⟩ := r h' E hp p e s vm0 m args below meth c T' _ k0 ⟨A, B, Nat.le_trans q1 E.1, X', e', ⟨Nat.le_trans q4.1 E.1, fun x c hx => E.2 _ _ (q4.2 _ _ hx)⟩, Nat.le_trans q5 E.1, q6⟩
  exact ⟨t, o, st t h1, h2⟩
/-- what stands at every point -/
theorem Wk.see (r : Ext C.Z.heap h → C.N ≤ h.size → C.Z.heap.size ≤ C.N → Wk C h k n I pc Ls st) : Wk C h k n I pc Ls st := fun p e s vm0 m args below meth c T locs k0 S =>
  r S.2.2.2.2.2.1 S.2.2.2.2.2.2.1 S.1.2.2.2.2.2.2.1 p e s vm0 m args below meth c T locs k0 S
theorem Wk.more (hk : k ≤ k') (hn : n ≤ n') (r : Wk C h k' n' I pc Ls st) : Wk C h k n I pc Ls st := fun p e s vm0 m args below meth c T locs k0 S =>
  r p e s vm0 m args below meth c T locs k0 ⟨S.1, S.2.1, S.2.2.1, S.2.2.2.1.mono hk hn, S.2.2.2.2⟩
theorem Wk.iadd {x y : Int32} (hd : decode C.b.code pc = .ok (.iadd, 1)) (hp : pc + 1 = pc') (r : Wk C h k n I pc' Ls (.int (x + y) :: rest)) : Wk C h k n I pc Ls (.int y :: .int x :: rest) := by
  subst hp
  exact Wk.step (fun _ _ _ _ _ _ _ ha hx hby kt => XS.iadd ha hx rfl (hb hby hd) rfl kt) r
theorem Wk.isub {x y : Int32} (hd : decode C.b.code pc = .ok (.isub, 1)) (hp : pc + 1 = pc') (r : Wk C h k n I pc' Ls (.int (x - y) :: rest)) : Wk C h k n I pc Ls (.int y :: .int x :: rest) := by
  subst hp
  exact Wk.step (fun _ _ _ _ _ _ _ ha hx hby kt => XS.isub ha hx rfl (hb hby hd) rfl kt) r
theorem Wk.imul {x y : Int32} (hd : decode C.b.code pc = .ok (.imul, 1)) (hp : pc + 1 = pc') (r : Wk C h k n I pc' Ls (.int (x * y) :: rest)) : Wk C h k n I pc Ls (.int y :: .int x :: rest) := by
  subst hp
  exact Wk.step (fun _ _ _ _ _ _ _ ha hx hby kt => XS.imul ha hx rfl (hb hby hd) rfl kt) r
theorem Wk.iand {x y : Int32} (hd : decode C.b.code pc = .ok (.iand, 1)) (hp : pc + 1 = pc') (r : Wk C h k n I pc' Ls (.int (x &&& y) :: rest)) : Wk C h k n I pc Ls (.int y :: .int x :: rest) := by
  subst hp
  exact Wk.step (fun _ _ _ _ _ _ _ ha hx hby kt => XS.iand ha hx rfl (hb hby hd) rfl kt) r
theorem Wk.ior {x y : Int32} (hd : decode C.b.code pc = .ok (.ior, 1)) (hp : pc + 1 = pc') (r : Wk C h k n I pc' Ls (.int (x ||| y) :: rest)) : Wk C h k n I pc Ls (.int y :: .int x :: rest) := by
  subst hp
  exact Wk.step (fun _ _ _ _ _ _ _ ha hx hby kt => XS.ior ha hx rfl (hb hby hd) rfl kt) r
theorem Wk.ixor {x y : Int32} (hd : decode C.b.code pc = .ok (.ixor, 1)) (hp : pc + 1 = pc') (r : Wk C h k n I pc' Ls (.int (x ^^^ y) :: rest)) : Wk C h k n I pc Ls (.int y :: .int x :: rest) := by
  subst hp
  exact Wk.step (fun _ _ _ _ _ _ _ ha hx hby kt => XS.ixor ha hx rfl (hb hby hd) rfl kt) r
theorem Wk.ishl {x y : Int32} (hd : decode C.b.code pc = .ok (.ishl, 1)) (hp : pc + 1 = pc') (r : Wk C h k n I pc' Ls (.int (x <<< (y &&& 31)) :: rest)) : Wk C h k n I pc Ls (.int y :: .int x :: rest) := by
  subst hp
  exact Wk.step (fun _ _ _ _ _ _ _ ha hx hby kt => XS.ishl ha hx rfl (hb hby hd) rfl kt) r
theorem Wk.ishr {x y : Int32} (hd : decode C.b.code pc = .ok (.ishr, 1)) (hp : pc + 1 = pc') (r : Wk C h k n I pc' Ls (.int (x >>> (y &&& 31)) :: rest)) : Wk C h k n I pc Ls (.int y :: .int x :: rest) := by
  subst hp
  exact Wk.step (fun _ _ _ _ _ _ _ ha hx hby kt => XS.ishr ha hx rfl (hb hby hd) rfl kt) r
theorem Wk.iushr {x y : Int32} (hd : decode C.b.code pc = .ok (.iushr, 1)) (hp : pc + 1 = pc') (r : Wk C h k n I pc' Ls (.int ((x.toUInt32 >>> (y &&& 31).toUInt32).toInt32) :: rest)) : Wk C h k n I pc Ls (.int y :: .int x :: rest) := by
  subst hp
  exact Wk.step (fun _ _ _ _ _ _ _ ha hx hby kt => XS.iushr ha hx rfl (hb hby hd) rfl kt) r
theorem Wk.ladd {x y : Int64} (hd : decode C.b.code pc = .ok (.ladd, 1)) (hp : pc + 1 = pc') (r : Wk C h k n I pc' Ls (.long (x + y) :: rest)) : Wk C h k n I pc Ls (.long y :: .long x :: rest) := by
  subst hp
  exact Wk.step (fun _ _ _ _ _ _ _ ha hx hby kt => XS.ladd ha hx rfl (hb hby hd) rfl kt) r
theorem Wk.lsub {x y : Int64} (hd : decode C.b.code pc = .ok (.lsub, 1)) (hp : pc + 1 = pc') (r : Wk C h k n I pc' Ls (.long (x - y) :: rest)) : Wk C h k n I pc Ls (.long y :: .long x :: rest) := by
  subst hp
  exact Wk.step (fun _ _ _ _ _ _ _ ha hx hby kt => XS.lsub ha hx rfl (hb hby hd) rfl kt) r
theorem Wk.lmul {x y : Int64} (hd : decode C.b.code pc = .ok (.lmul, 1)) (hp : pc + 1 = pc') (r : Wk C h k n I pc' Ls (.long (x * y) :: rest)) : Wk C h k n I pc Ls (.long y :: .long x :: rest) := by
  subst hp
  exact Wk.step (fun _ _ _ _ _ _ _ ha hx hby kt => XS.lmul ha hx rfl (hb hby hd) rfl kt) r
theorem Wk.land {x y : Int64} (hd : decode C.b.code pc = .ok (.land, 1)) (hp : pc + 1 = pc') (r : Wk C h k n I pc' Ls (.long (x &&& y) :: rest)) : Wk C h k n I pc Ls (.long y :: .long x :: rest) := by
  subst hp
  exact Wk.step (fun _ _ _ _ _ _ _ ha hx hby kt => XS.land ha hx rfl (hb hby hd) rfl kt) r
theorem Wk.lor {x y : Int64} (hd : decode C.b.code pc = .ok (.lor, 1)) (hp : pc + 1 = pc') (r : Wk C h k n I pc' Ls (.long (x ||| y) :: rest)) : Wk C h k n I pc Ls (.long y :: .long x :: rest) := by
  subst hp
  exact Wk.step (fun _ _ _ _ _ _ _ ha hx hby kt => XS.lor ha hx rfl (hb hby hd) rfl kt) r
theorem Wk.lxor {x y : Int64} (hd : decode C.b.code pc = .ok (.lxor, 1)) (hp : pc + 1 = pc') (r : Wk C h k n I pc' Ls (.long (x ^^^ y) :: rest)) : Wk C h k n I pc Ls (.long y :: .long x :: rest) := by
  subst hp
  exact Wk.step (fun _ _ _ _ _ _ _ ha hx hby kt => XS.lxor ha hx rfl (hb hby hd) rfl kt) r
theorem Wk.lshl {x : Int64} {y : Int32} (hd : decode C.b.code pc = .ok (.lshl, 1)) (hp : pc + 1 = pc') (r : Wk C h k n I pc' Ls (.long (x <<< (y &&& 0x3f).toInt64) :: rest)) : Wk C h k n I pc Ls (.int y :: .long x :: rest) := by
  subst hp
  exact Wk.step (fun _ _ _ _ _ _ _ ha hx hby kt => XS.lshl ha hx rfl (hb hby hd) rfl kt) r
theorem Wk.lshr {x : Int64} {y : Int32} (hd : decode C.b.code pc = .ok (.lshr, 1)) (hp : pc + 1 = pc') (r : Wk C h k n I pc' Ls (.long (x >>> (y &&& 0x3f).toInt64) :: rest)) : Wk C h k n I pc Ls (.int y :: .long x :: rest) := by
  subst hp
  exact Wk.step (fun _ _ _ _ _ _ _ ha hx hby kt => XS.lshr ha hx rfl (hb hby hd) rfl kt) r
theorem Wk.lushr {x : Int64} {y : Int32} (hd : decode C.b.code pc = .ok (.lushr, 1)) (hp : pc + 1 = pc') (r : Wk C h k n I pc' Ls (.long ((x.toUInt64 >>> (y &&& 0x3f).toInt64.toUInt64).toInt64) :: rest)) : Wk C h k n I pc Ls (.int y :: .long x :: rest) := by
  subst hp
  exact Wk.step (fun _ _ _ _ _ _ _ ha hx hby kt => XS.lushr ha hx rfl (hb hby hd) rfl kt) r
theorem Wk.idiv {x y : Int32} (hd : decode C.b.code pc = .ok (.idiv, 1)) (hp : pc + 1 = pc') (hy : y ≠ 0) (r : Wk C h k n I pc' Ls (.int (x / y) :: rest)) : Wk C h k n I pc Ls (.int y :: .int x :: rest) := by
  subst hp
  exact Wk.step (fun _ _ _ _ _ _ _ ha hx hby kt => XS.idiv ha hx rfl (hb hby hd) rfl hy kt) r
theorem Wk.ldiv {x y : Int64} (hd : decode C.b.code pc = .ok (.ldiv, 1)) (hp : pc + 1 = pc') (hy : y ≠ 0) (r : Wk C h k n I pc' Ls (.long (x / y) :: rest)) : Wk C h k n I pc Ls (.long y :: .long x :: rest) := by
  subst hp
  exact Wk.step (fun _ _ _ _ _ _ _ ha hx hby kt => XS.ldiv ha hx rfl (hb hby hd) rfl hy kt) r
theorem Wk.lrem {x y : Int64} (hd : decode C.b.code pc = .ok (.lrem, 1)) (hp : pc + 1 = pc') (hy : y ≠ 0) (r : Wk C h k n I pc' Ls (.long (x - (x / y) * y) :: rest)) : Wk C h k n I pc Ls (.long y :: .long x :: rest) := by
  subst hp
  exact Wk.step (fun _ _ _ _ _ _ _ ha hx hby kt => XS.lrem ha hx rfl (hb hby hd) rfl hy kt) r
theorem Wk.ineg {x : Int32} (hd : decode C.b.code pc = .ok (.ineg, 1)) (hp : pc + 1 = pc') (r : Wk C h k n I pc' Ls (.int (-x) :: rest)) : Wk C h k n I pc Ls (.int x :: rest) := by
  subst hp
  exact Wk.step (fun _ _ _ _ _ _ _ ha hx hby kt => XS.ineg ha hx rfl (hb hby hd) rfl kt) r
theorem Wk.lneg {x : Int64} (hd : decode C.b.code pc = .ok (.lneg, 1)) (hp : pc + 1 = pc') (r : Wk C h k n I pc' Ls (.long (-x) :: rest)) : Wk C h k n I pc Ls (.long x :: rest) := by
  subst hp
  exact Wk.step (fun _ _ _ _ _ _ _ ha hx hby kt => XS.lneg ha hx rfl (hb hby hd) rfl kt) r
theorem Wk.i2l {x : Int32} (hd : decode C.b.code pc = .ok (.i2l, 1)) (hp : pc + 1 = pc') (r : Wk C h k n I pc' Ls (.long x.toInt64 :: rest)) : Wk C h k n I pc Ls (.int x :: rest) := by
  subst hp
  exact Wk.step (fun _ _ _ _ _ _ _ ha hx hby kt => XS.i2l ha hx rfl (hb hby hd) rfl kt) r
theorem Wk.l2i {x : Int64} (hd : decode C.b.code pc = .ok (.l2i, 1)) (hp : pc + 1 = pc') (r : Wk C h k n I pc' Ls (.int x.toInt32 :: rest)) : Wk C h k n I pc Ls (.long x :: rest) := by
  subst hp
  exact Wk.step (fun _ _ _ _ _ _ _ ha hx hby kt => XS.l2i ha hx rfl (hb hby hd) rfl kt) r
theorem Wk.i2b {x : Int32} (hd : decode C.b.code pc = .ok (.i2b, 1)) (hp : pc + 1 = pc') (r : Wk C h k n I pc' Ls (.int x.toInt8.toInt32 :: rest)) : Wk C h k n I pc Ls (.int x :: rest) := by
  subst hp
  exact Wk.step (fun _ _ _ _ _ _ _ ha hx hby kt => XS.i2b ha hx rfl (hb hby hd) rfl kt) r
theorem Wk.i2c {x : Int32} (hd : decode C.b.code pc = .ok (.i2c, 1)) (hp : pc + 1 = pc') (r : Wk C h k n I pc' Ls (.int x.toUInt32.toUInt16.toUInt32.toInt32 :: rest)) : Wk C h k n I pc Ls (.int x :: rest) := by
  subst hp
  exact Wk.step (fun _ _ _ _ _ _ _ ha hx hby kt => XS.i2c ha hx rfl (hb hby hd) rfl kt) r
theorem Wk.i2s {x : Int32} (hd : decode C.b.code pc = .ok (.i2s, 1)) (hp : pc + 1 = pc') (r : Wk C h k n I pc' Ls (.int x.toInt16.toInt32 :: rest)) : Wk C h k n I pc Ls (.int x :: rest) := by
  subst hp
  exact Wk.step (fun _ _ _ _ _ _ _ ha hx hby kt => XS.i2s ha hx rfl (hb hby hd) rfl kt) r
theorem Wk.lcmp {x y : Int64} (hd : decode C.b.code pc = .ok (.lcmp, 1)) (hp : pc + 1 = pc') (r : Wk C h k n I pc' Ls (.int (lcmpW x y) :: rest)) : Wk C h k n I pc Ls (.long y :: .long x :: rest) := by
  subst hp
  exact Wk.step (fun _ _ _ _ _ _ _ ha hx hby kt => XS.lcmp ha hx rfl (hb hby hd) rfl kt) r
theorem Wk.dup {x : Value} (hd : decode C.b.code pc = .ok (.dup, 1)) (hp : pc + 1 = pc') (hc : x.category = 1) (r : Wk C h k n I pc' Ls (x :: x :: rest)) : Wk C h k n I pc Ls (x :: rest) := by
  subst hp
  exact Wk.step (fun _ _ _ _ _ _ _ ha hx hby kt => XS.dup ha hx rfl (hb hby hd) rfl hc kt) r
theorem Wk.dupX1 {x y : Value} (hd : decode C.b.code pc = .ok (.dup_x1, 1)) (hp : pc + 1 = pc') (hc : x.category = 1) (hc2 : y.category = 1) (r : Wk C h k n I pc' Ls (x :: y :: x :: rest)) : Wk C h k n I pc Ls (x :: y :: rest) := by
  subst hp
  exact Wk.step (fun _ _ _ _ _ _ _ ha hx hby kt => XS.dupX1 ha hx rfl (hb hby hd) rfl hc hc2 kt) r
theorem Wk.dup2 {x y : Value} (hd : decode C.b.code pc = .ok (.dup2, 1)) (hp : pc + 1 = pc') (hc : x.category = 1) (hc2 : y.category = 1) (r : Wk C h k n I pc' Ls (x :: y :: x :: y :: rest)) : Wk C h k n I pc Ls (x :: y :: rest) := by
  subst hp
  exact Wk.step (fun _ _ _ _ _ _ _ ha hx hby kt => Jvm.Free.XT.dup2 ha hx rfl (hb hby hd) rfl hc hc2 kt) r
theorem Wk.dup2L {x : Int64} (hd : decode C.b.code pc = .ok (.dup2, 1)) (hp : pc + 1 = pc') (r : Wk C h k n I pc' Ls (.long x :: .long x :: rest)) : Wk C h k n I pc Ls (.long x :: rest) := by
  subst hp
  exact Wk.step (fun _ _ _ _ _ _ _ ha hx hby kt => Jvm.Free.XT.dup2L ha hx rfl (hb hby hd) rfl kt) r
theorem Wk.pop {x : Value} (hd : decode C.b.code pc = .ok (.pop, 1)) (hp : pc + 1 = pc') (hc : x.category = 1) (r : Wk C h k n I pc' Ls (rest)) : Wk C h k n I pc Ls (x :: rest) := by
  subst hp
  exact Wk.step (fun _ _ _ _ _ _ _ ha hx hby kt => XS.pop ha hx rfl (hb hby hd) rfl hc kt) r
theorem Wk.swap {x y : Value} (hd : decode C.b.code pc = .ok (.swap, 1)) (hp : pc + 1 = pc') (hc : x.category = 1) (hc2 : y.category = 1) (r : Wk C h k n I pc' Ls (y :: x :: rest)) : Wk C h k n I pc Ls (x :: y :: rest) := by
  subst hp
  exact Wk.step (fun _ _ _ _ _ _ _ ha hx hby kt => XS.swap ha hx rfl (hb hby hd) rfl hc hc2 kt) r
theorem Wk.aconstNull  (hd : decode C.b.code pc = .ok (.aconst_null, 1)) (hp : pc + 1 = pc') (r : Wk C h k n I pc' Ls (.null :: st)) : Wk C h k n I pc Ls (st) := by
  subst hp
  exact Wk.step (fun _ _ _ _ _ _ _ ha hx hby kt => XS.aconstNull ha hx rfl (hb hby hd)  kt) r
theorem Wk.i2d {x : Int32} (hd : decode C.b.code pc = .ok (.i2d, 1)) (hp : pc + 1 = pc') (r : Wk C h k n I pc' Ls (.double (FP.i2d x) :: rest)) : Wk C h k n I pc Ls (.int x :: rest) := by
  subst hp
  exact Wk.step (fun _ _ _ _ _ _ _ ha hx hby kt => XS.i2dS ha hx rfl (hb hby hd) rfl rfl kt) r
theorem Wk.l2d {x : Int64} (hd : decode C.b.code pc = .ok (.l2d, 1)) (hp : pc + 1 = pc') (r : Wk C h k n I pc' Ls (.double (FP.l2d x) :: rest)) : Wk C h k n I pc Ls (.long x :: rest) := by
  subst hp
  exact Wk.step (fun _ _ _ _ _ _ _ ha hx hby kt => XS.l2dS ha hx rfl (hb hby hd) rfl rfl kt) r
theorem Wk.dadd {x y : UInt64} (hd : decode C.b.code pc = .ok (.dadd, 1)) (hp : pc + 1 = pc') (hn : Jvm.Free.Fl.NoNaN64 (FP.dadd x y)) (r : Wk C h k n I pc' Ls (.double (FP.dadd x y) :: rest)) : Wk C h k n I pc Ls (.double y :: .double x :: rest) := by
  subst hp
  exact Wk.step (fun _ _ _ _ _ _ _ ha hx hby kt => XS.daddS ha hx rfl (hb hby hd) rfl hn rfl kt) r
theorem Wk.dcmpl {x y : UInt64} (hd : decode C.b.code pc = .ok (.dcmp .l, 1)) (hp : pc + 1 = pc') (r : Wk C h k n I pc' Ls (.int (cmpValue (FP.dcmp x y) .l) :: rest)) : Wk C h k n I pc Ls (.double y :: .double x :: rest) := by
  subst hp
  exact Wk.step (fun _ _ _ _ _ _ _ ha hx hby kt => XS.dcmpS ha hx rfl (hb hby hd) rfl rfl kt) r
theorem Wk.iconst {i : Int} {v : Int32} (hd : decode C.b.code pc = .ok (.iconst i, 1)) (hp : pc + 1 = pc') (hv : Int32.ofInt i = v) (r : Wk C h k n I pc' Ls (.int v :: st)) : Wk C h k n I pc Ls st := by
  subst hp hv
  exact Wk.step (fun _ _ _ _ _ _ _ ha hx hby kt => XS.iconst ha hx rfl (hb hby hd) kt) r
theorem Wk.bipush {i : Int} {v : Int32} (hd : decode C.b.code pc = .ok (.bipush i, 2)) (hp : pc + 2 = pc') (hv : (Int8.ofInt i).toInt32 = v) (r : Wk C h k n I pc' Ls (.int v :: st)) : Wk C h k n I pc Ls st := by
  subst hp hv
  exact Wk.step (fun _ _ _ _ _ _ _ ha hx hby kt => XS.bipush ha hx rfl (hb hby hd) kt) r
theorem Wk.sipush {i : Int} {v : Int32} (hd : decode C.b.code pc = .ok (.sipush i, 3)) (hp : pc + 3 = pc') (hv : (Int16.ofInt i).toInt32 = v) (r : Wk C h k n I pc' Ls (.int v :: st)) : Wk C h k n I pc Ls st := by
  subst hp hv
  exact Wk.step (fun _ _ _ _ _ _ _ ha hx hby kt => XS.sipush ha hx rfl (hb hby hd) kt) r
theorem Wk.lconst {i : Fin 2} {v : Int64} (hd : decode C.b.code pc = .ok (.lconst i, 1)) (hp : pc + 1 = pc') (hv : Int64.ofNat i = v) (r : Wk C h k n I pc' Ls (.long v :: st)) : Wk C h k n I pc Ls st := by
  subst hp hv
  exact Wk.step (fun _ _ _ _ _ _ _ ha hx hby kt => XS.lconst ha hx rfl (hb hby hd) kt) r
theorem Wk.iinc {j : Nat} {i : Int} {v x : Int32} (hd : decode C.b.code pc = .ok (.iinc j i, 3)) (hp : pc + 3 = pc') (hv : Int32.ofInt i = v) (hl : Ls[j]? = some (.val (.int x))) (hl' : storeLocals Ls j (.int (x + v)) = some Ls') (r : Wk C h k n I pc' Ls' st) : Wk C h k n I pc Ls st := by
  subst hp hv
  exact Wk.step (fun _ _ _ _ _ _ _ ha hx hby kt => XS.iinc ha hx rfl (hb hby hd) hl hl' kt) r
theorem Wk.goto {o : Int} (hd : decode C.b.code pc = .ok (.goto o, 3)) (hp : (pc : Int) + o = (pc' : Int)) (r : Wk C h k n I pc' Ls st) : Wk C h k n I pc Ls st :=
  Wk.step (fun _ _ _ _ _ _ _ ha hx hby kt => XS.goto (pc0 := pc) (pc' := pc') ha hx rfl rfl (hb hby hd) (by omega) (by omega) kt) r
theorem Wk.irem {x y : Int32} (hd : decode C.b.code pc = .ok (.irem, 1)) (hp : pc + 1 = pc') (hy : y ≠ 0) (r : Wk C h k n I pc' Ls (.int (x % y) :: rest)) : Wk C h k n I pc Ls (.int y :: .int x :: rest) := by
  subst hp
  refine Wk.law (fun p e s vm0 m args below meth c T locs k0 S => ⟨T, S.2.2.2.1, S.2.2.2.2.1, fun t kt => ?_⟩) r
  exact iremM S.2.2.2.1 S.1.1 rfl (hb S.1.2.1 hd) rfl hy kt
theorem Wk.iloadN {j : Fin 4} {v : Int32} (hd : decode C.b.code pc = .ok (.iload_n j, 1)) (hp : pc + 1 = pc') (hl : Ls[j.val]? = some (.val (.int v))) (r : Wk C h k n I pc' Ls (.int v :: st)) : Wk C h k n I pc Ls st := by
  subst hp
  exact Wk.step (fun _ _ _ _ _ _ _ ha hx hby kt => XS.iloadN ha hx rfl (hb hby hd) hl kt) r
theorem Wk.iload {j : Nat} {v : Int32} (hd : decode C.b.code pc = .ok (.iload j, 2)) (hp : pc + 2 = pc') (hl : Ls[j]? = some (.val (.int v))) (r : Wk C h k n I pc' Ls (.int v :: st)) : Wk C h k n I pc Ls st := by
  subst hp
  exact Wk.step (fun _ _ _ _ _ _ _ ha hx hby kt => XS.iload ha hx rfl (hb hby hd) hl kt) r
theorem Wk.lloadN {j : Fin 4} {v : Int64} (hd : decode C.b.code pc = .ok (.lload_n j, 1)) (hp : pc + 1 = pc') (hl : Ls[j.val]? = some (.val (.long v))) (r : Wk C h k n I pc' Ls (.long v :: st)) : Wk C h k n I pc Ls st := by
  subst hp
  exact Wk.step (fun _ _ _ _ _ _ _ ha hx hby kt => XS.lloadN ha hx rfl (hb hby hd) hl kt) r
theorem Wk.lload {j : Nat} {v : Int64} (hd : decode C.b.code pc = .ok (.lload j, 2)) (hp : pc + 2 = pc') (hl : Ls[j]? = some (.val (.long v))) (r : Wk C h k n I pc' Ls (.long v :: st)) : Wk C h k n I pc Ls st := by
  subst hp
  exact Wk.step (fun _ _ _ _ _ _ _ ha hx hby kt => XS.lload ha hx rfl (hb hby hd) hl kt) r
theorem Wk.dloadN {j : Fin 4} {v : UInt64} (hd : decode C.b.code pc = .ok (.dload_n j, 1)) (hp : pc + 1 = pc') (hl : Ls[j.val]? = some (.val (.double v))) (r : Wk C h k n I pc' Ls (.double v :: st)) : Wk C h k n I pc Ls st := by
  subst hp
  exact Wk.step (fun _ _ _ _ _ _ _ ha hx hby kt => XS.dloadN ha hx rfl (hb hby hd) hl kt) r
theorem Wk.dload {j : Nat} {v : UInt64} (hd : decode C.b.code pc = .ok (.dload j, 2)) (hp : pc + 2 = pc') (hl : Ls[j]? = some (.val (.double v))) (r : Wk C h k n I pc' Ls (.double v :: st)) : Wk C h k n I pc Ls st := by
  subst hp
  exact Wk.step (fun _ _ _ _ _ _ _ ha hx hby kt => XS.dload ha hx rfl (hb hby hd) hl kt) r
theorem Wk.aloadN {j : Fin 4} {v : Value} (hd : decode C.b.code pc = .ok (.aload_n j, 1)) (hp : pc + 1 = pc') (hl : Ls[j.val]? = some (.val v)) (hv : v.isRef = true) (r : Wk C h k n I pc' Ls (v :: st)) : Wk C h k n I pc Ls st := by
  subst hp
  exact Wk.step (fun _ _ _ _ _ _ _ ha hx hby kt => XS.aloadN ha hx rfl (hb hby hd) hl hv kt) r
theorem Wk.aload {j : Nat} {v : Value} (hd : decode C.b.code pc = .ok (.aload j, 2)) (hp : pc + 2 = pc') (hl : Ls[j]? = some (.val v)) (hv : v.isRef = true) (r : Wk C h k n I pc' Ls (v :: st)) : Wk C h k n I pc Ls st := by
  subst hp
  exact Wk.step (fun _ _ _ _ _ _ _ ha hx hby kt => XS.aload ha hx rfl (hb hby hd) hl hv kt) r
theorem Wk.istoreN {j : Fin 4} {v : Int32} (Ls' : Array Slot) (hd : decode C.b.code pc = .ok (.istore_n j, 1)) (hp : pc + 1 = pc') (hl : storeLocals Ls j.val (.int v) = some Ls') (r : Wk C h k n I pc' Ls' st) : Wk C h k n I pc Ls (.int v :: st) := by
  subst hp
  exact Wk.step (fun _ _ _ _ _ _ _ ha hx hby kt => XS.istoreN ha hx rfl (hb hby hd) rfl hl kt) r
theorem Wk.istore {j : Nat} {v : Int32} (Ls' : Array Slot) (hd : decode C.b.code pc = .ok (.istore j, 2)) (hp : pc + 2 = pc') (hl : storeLocals Ls j (.int v) = some Ls') (r : Wk C h k n I pc' Ls' st) : Wk C h k n I pc Ls (.int v :: st) := by
  subst hp
  exact Wk.step (fun _ _ _ _ _ _ _ ha hx hby kt => XS.istore ha hx rfl (hb hby hd) rfl hl kt) r
theorem Wk.lstoreN {j : Fin 4} {v : Int64} (Ls' : Array Slot) (hd : decode C.b.code pc = .ok (.lstore_n j, 1)) (hp : pc + 1 = pc') (hl : storeLocals Ls j.val (.long v) = some Ls') (r : Wk C h k n I pc' Ls' st) : Wk C h k n I pc Ls (.long v :: st) := by
  subst hp
  exact Wk.step (fun _ _ _ _ _ _ _ ha hx hby kt => XS.lstoreN ha hx rfl (hb hby hd) rfl hl kt) r
theorem Wk.lstore {j : Nat} {v : Int64} (Ls' : Array Slot) (hd : decode C.b.code pc = .ok (.lstore j, 2)) (hp : pc + 2 = pc') (hl : storeLocals Ls j (.long v) = some Ls') (r : Wk C h k n I pc' Ls' st) : Wk C h k n I pc Ls (.long v :: st) := by
  subst hp
  exact Wk.step (fun _ _ _ _ _ _ _ ha hx hby kt => XS.lstore ha hx rfl (hb hby hd) rfl hl kt) r
theorem Wk.dstoreN {j : Fin 4} {v : UInt64} (Ls' : Array Slot) (hd : decode C.b.code pc = .ok (.dstore_n j, 1)) (hp : pc + 1 = pc') (hl : storeLocals Ls j.val (.double v) = some Ls') (r : Wk C h k n I pc' Ls' st) : Wk C h k n I pc Ls (.double v :: st) := by
  subst hp
  exact Wk.step (fun _ _ _ _ _ _ _ ha hx hby kt => XS.dstoreN ha hx rfl (hb hby hd) rfl hl kt) r
theorem Wk.dstore {j : Nat} {v : UInt64} (Ls' : Array Slot) (hd : decode C.b.code pc = .ok (.dstore j, 2)) (hp : pc + 2 = pc') (hl : storeLocals Ls j (.double v) = some Ls') (r : Wk C h k n I pc' Ls' st) : Wk C h k n I pc Ls (.double v :: st) := by
  subst hp
  exact Wk.step (fun _ _ _ _ _ _ _ ha hx hby kt => XS.dstore ha hx rfl (hb hby hd) rfl hl kt) r
theorem Wk.astoreN {j : Fin 4} {v : Value} (Ls' : Array Slot) (hd : decode C.b.code pc = .ok (.astore_n j, 1)) (hp : pc + 1 = pc') (hv : v.isRef = true) (hl : storeLocals Ls j.val v = some Ls') (r : Wk C h k n I pc' Ls' st) : Wk C h k n I pc Ls (v :: st) := by
  subst hp
  exact Wk.step (fun _ _ _ _ _ _ _ ha hx hby kt => XS.astoreN ha hx rfl (hb hby hd) rfl hv hl kt) r
theorem Wk.astore {j : Nat} {v : Value} (Ls' : Array Slot) (hd : decode C.b.code pc = .ok (.astore j, 2)) (hp : pc + 2 = pc') (hv : v.isRef = true) (hl : storeLocals Ls j v = some Ls') (r : Wk C h k n I pc' Ls' st) : Wk C h k n I pc Ls (v :: st) := by
  subst hp
  exact Wk.step (fun _ _ _ _ _ _ _ ha hx hby kt => XS.astore ha hx rfl (hb hby hd) rfl hv hl kt) r
theorem Wk.icmp_eqY {x y : Int32} {o : Int} (hd : decode C.b.code pc = .ok (.if_icmp .eq o, 3)) (hp : (pc : Int) + o = (pc' : Int)) (hc : x = y) (r : Wk C h k n I pc' Ls st) : Wk C h k n I pc Ls (.int y :: .int x :: st) :=
  Wk.step (fun _ _ _ _ _ _ _ ha hx hby kt => XS.icmpYes (pc0 := pc) (pc' := pc') ha hx rfl rfl (hb hby hd) rfl ((teq hc).1) (by omega) (by omega) kt) r
theorem Wk.if_eqY {x : Int32} {o : Int} (hd : decode C.b.code pc = .ok (.ifCond .eq o, 3)) (hp : (pc : Int) + o = (pc' : Int)) (hc : x = (0 : Int32)) (r : Wk C h k n I pc' Ls st) : Wk C h k n I pc Ls (.int x :: st) :=
  Wk.step (fun _ _ _ _ _ _ _ ha hx hby kt => XS.ifYes (pc0 := pc) (pc' := pc') ha hx rfl rfl (hb hby hd) rfl ((if0 _ _).trans (teq hc).1) (by omega) (by omega) kt) r
theorem Wk.icmp_eqN {x y : Int32} {o : Int} (hd : decode C.b.code pc = .ok (.if_icmp .eq o, 3)) (hp : pc + 3 = pc') (hc : ¬ x = y) (r : Wk C h k n I pc' Ls st) : Wk C h k n I pc Ls (.int y :: .int x :: st) := by
  subst hp
  exact Wk.step (fun _ _ _ _ _ _ _ ha hx hby kt => XS.icmpNo ha hx rfl (hb hby hd) rfl ((feq hc).1) kt) r
theorem Wk.if_eqN {x : Int32} {o : Int} (hd : decode C.b.code pc = .ok (.ifCond .eq o, 3)) (hp : pc + 3 = pc') (hc : ¬ x = (0 : Int32)) (r : Wk C h k n I pc' Ls st) : Wk C h k n I pc Ls (.int x :: st) := by
  subst hp
  exact Wk.step (fun _ _ _ _ _ _ _ ha hx hby kt => XS.ifNo ha hx rfl (hb hby hd) rfl ((if0 _ _).trans (feq hc).1) kt) r
theorem Wk.icmp_neY {x y : Int32} {o : Int} (hd : decode C.b.code pc = .ok (.if_icmp .ne o, 3)) (hp : (pc : Int) + o = (pc' : Int)) (hc : ¬ x = y) (r : Wk C h k n I pc' Ls st) : Wk C h k n I pc Ls (.int y :: .int x :: st) :=
  Wk.step (fun _ _ _ _ _ _ _ ha hx hby kt => XS.icmpYes (pc0 := pc) (pc' := pc') ha hx rfl rfl (hb hby hd) rfl ((feq hc).2) (by omega) (by omega) kt) r
theorem Wk.if_neY {x : Int32} {o : Int} (hd : decode C.b.code pc = .ok (.ifCond .ne o, 3)) (hp : (pc : Int) + o = (pc' : Int)) (hc : ¬ x = (0 : Int32)) (r : Wk C h k n I pc' Ls st) : Wk C h k n I pc Ls (.int x :: st) :=
  Wk.step (fun _ _ _ _ _ _ _ ha hx hby kt => XS.ifYes (pc0 := pc) (pc' := pc') ha hx rfl rfl (hb hby hd) rfl ((if0 _ _).trans (feq hc).2) (by omega) (by omega) kt) r
theorem Wk.icmp_neN {x y : Int32} {o : Int} (hd : decode C.b.code pc = .ok (.if_icmp .ne o, 3)) (hp : pc + 3 = pc') (hc : x = y) (r : Wk C h k n I pc' Ls st) : Wk C h k n I pc Ls (.int y :: .int x :: st) := by
  subst hp
  exact Wk.step (fun _ _ _ _ _ _ _ ha hx hby kt => XS.icmpNo ha hx rfl (hb hby hd) rfl ((teq hc).2) kt) r
theorem Wk.if_neN {x : Int32} {o : Int} (hd : decode C.b.code pc = .ok (.ifCond .ne o, 3)) (hp : pc + 3 = pc') (hc : x = (0 : Int32)) (r : Wk C h k n I pc' Ls st) : Wk C h k n I pc Ls (.int x :: st) := by
  subst hp
  exact Wk.step (fun _ _ _ _ _ _ _ ha hx hby kt => XS.ifNo ha hx rfl (hb hby hd) rfl ((if0 _ _).trans (teq hc).2) kt) r
theorem Wk.icmp_ltY {x y : Int32} {o : Int} (hd : decode C.b.code pc = .ok (.if_icmp .lt o, 3)) (hp : (pc : Int) + o = (pc' : Int)) (hc : x < y) (r : Wk C h k n I pc' Ls st) : Wk C h k n I pc Ls (.int y :: .int x :: st) :=
  Wk.step (fun _ _ _ _ _ _ _ ha hx hby kt => XS.icmpYes (pc0 := pc) (pc' := pc') ha hx rfl rfl (hb hby hd) rfl ((tlt hc).1) (by omega) (by omega) kt) r
theorem Wk.if_ltY {x : Int32} {o : Int} (hd : decode C.b.code pc = .ok (.ifCond .lt o, 3)) (hp : (pc : Int) + o = (pc' : Int)) (hc : x < (0 : Int32)) (r : Wk C h k n I pc' Ls st) : Wk C h k n I pc Ls (.int x :: st) :=
  Wk.step (fun _ _ _ _ _ _ _ ha hx hby kt => XS.ifYes (pc0 := pc) (pc' := pc') ha hx rfl rfl (hb hby hd) rfl ((if0 _ _).trans (tlt hc).1) (by omega) (by omega) kt) r
theorem Wk.icmp_ltN {x y : Int32} {o : Int} (hd : decode C.b.code pc = .ok (.if_icmp .lt o, 3)) (hp : pc + 3 = pc') (hc : ¬ x < y) (r : Wk C h k n I pc' Ls st) : Wk C h k n I pc Ls (.int y :: .int x :: st) := by
  subst hp
  exact Wk.step (fun _ _ _ _ _ _ _ ha hx hby kt => XS.icmpNo ha hx rfl (hb hby hd) rfl ((flt hc).1) kt) r
theorem Wk.if_ltN {x : Int32} {o : Int} (hd : decode C.b.code pc = .ok (.ifCond .lt o, 3)) (hp : pc + 3 = pc') (hc : ¬ x < (0 : Int32)) (r : Wk C h k n I pc' Ls st) : Wk C h k n I pc Ls (.int x :: st) := by
  subst hp
  exact Wk.step (fun _ _ _ _ _ _ _ ha hx hby kt => XS.ifNo ha hx rfl (hb hby hd) rfl ((if0 _ _).trans (flt hc).1) kt) r
theorem Wk.icmp_geY {x y : Int32} {o : Int} (hd : decode C.b.code pc = .ok (.if_icmp .ge o, 3)) (hp : (pc : Int) + o = (pc' : Int)) (hc : ¬ x < y) (r : Wk C h k n I pc' Ls st) : Wk C h k n I pc Ls (.int y :: .int x :: st) :=
  Wk.step (fun _ _ _ _ _ _ _ ha hx hby kt => XS.icmpYes (pc0 := pc) (pc' := pc') ha hx rfl rfl (hb hby hd) rfl ((flt hc).2.1) (by omega) (by omega) kt) r
theorem Wk.if_geY {x : Int32} {o : Int} (hd : decode C.b.code pc = .ok (.ifCond .ge o, 3)) (hp : (pc : Int) + o = (pc' : Int)) (hc : ¬ x < (0 : Int32)) (r : Wk C h k n I pc' Ls st) : Wk C h k n I pc Ls (.int x :: st) :=
  Wk.step (fun _ _ _ _ _ _ _ ha hx hby kt => XS.ifYes (pc0 := pc) (pc' := pc') ha hx rfl rfl (hb hby hd) rfl ((if0 _ _).trans (flt hc).2.1) (by omega) (by omega) kt) r
theorem Wk.icmp_geN {x y : Int32} {o : Int} (hd : decode C.b.code pc = .ok (.if_icmp .ge o, 3)) (hp : pc + 3 = pc') (hc : x < y) (r : Wk C h k n I pc' Ls st) : Wk C h k n I pc Ls (.int y :: .int x :: st) := by
  subst hp
  exact Wk.step (fun _ _ _ _ _ _ _ ha hx hby kt => XS.icmpNo ha hx rfl (hb hby hd) rfl ((tlt hc).2.1) kt) r
theorem Wk.if_geN {x : Int32} {o : Int} (hd : decode C.b.code pc = .ok (.ifCond .ge o, 3)) (hp : pc + 3 = pc') (hc : x < (0 : Int32)) (r : Wk C h k n I pc' Ls st) : Wk C h k n I pc Ls (.int x :: st) := by
  subst hp
  exact Wk.step (fun _ _ _ _ _ _ _ ha hx hby kt => XS.ifNo ha hx rfl (hb hby hd) rfl ((if0 _ _).trans (tlt hc).2.1) kt) r
theorem Wk.icmp_gtY {x y : Int32} {o : Int} (hd : decode C.b.code pc = .ok (.if_icmp .gt o, 3)) (hp : (pc : Int) + o = (pc' : Int)) (hc : y < x) (r : Wk C h k n I pc' Ls st) : Wk C h k n I pc Ls (.int y :: .int x :: st) :=
  Wk.step (fun _ _ _ _ _ _ _ ha hx hby kt => XS.icmpYes (pc0 := pc) (pc' := pc') ha hx rfl rfl (hb hby hd) rfl ((tlt hc).2.2.1) (by omega) (by omega) kt) r
theorem Wk.if_gtY {x : Int32} {o : Int} (hd : decode C.b.code pc = .ok (.ifCond .gt o, 3)) (hp : (pc : Int) + o = (pc' : Int)) (hc : (0 : Int32) < x) (r : Wk C h k n I pc' Ls st) : Wk C h k n I pc Ls (.int x :: st) :=
  Wk.step (fun _ _ _ _ _ _ _ ha hx hby kt => XS.ifYes (pc0 := pc) (pc' := pc') ha hx rfl rfl (hb hby hd) rfl ((if0 _ _).trans (tlt hc).2.2.1) (by omega) (by omega) kt) r
theorem Wk.icmp_gtN {x y : Int32} {o : Int} (hd : decode C.b.code pc = .ok (.if_icmp .gt o, 3)) (hp : pc + 3 = pc') (hc : ¬ y < x) (r : Wk C h k n I pc' Ls st) : Wk C h k n I pc Ls (.int y :: .int x :: st) := by
  subst hp
  exact Wk.step (fun _ _ _ _ _ _ _ ha hx hby kt => XS.icmpNo ha hx rfl (hb hby hd) rfl ((flt hc).2.2.1) kt) r
theorem Wk.if_gtN {x : Int32} {o : Int} (hd : decode C.b.code pc = .ok (.ifCond .gt o, 3)) (hp : pc + 3 = pc') (hc : ¬ (0 : Int32) < x) (r : Wk C h k n I pc' Ls st) : Wk C h k n I pc Ls (.int x :: st) := by
  subst hp
  exact Wk.step (fun _ _ _ _ _ _ _ ha hx hby kt => XS.ifNo ha hx rfl (hb hby hd) rfl ((if0 _ _).trans (flt hc).2.2.1) kt) r
theorem Wk.icmp_leY {x y : Int32} {o : Int} (hd : decode C.b.code pc = .ok (.if_icmp .le o, 3)) (hp : (pc : Int) + o = (pc' : Int)) (hc : ¬ y < x) (r : Wk C h k n I pc' Ls st) : Wk C h k n I pc Ls (.int y :: .int x :: st) :=
  Wk.step (fun _ _ _ _ _ _ _ ha hx hby kt => XS.icmpYes (pc0 := pc) (pc' := pc') ha hx rfl rfl (hb hby hd) rfl ((flt hc).2.2.2) (by omega) (by omega) kt) r
theorem Wk.if_leY {x : Int32} {o : Int} (hd : decode C.b.code pc = .ok (.ifCond .le o, 3)) (hp : (pc : Int) + o = (pc' : Int)) (hc : ¬ (0 : Int32) < x) (r : Wk C h k n I pc' Ls st) : Wk C h k n I pc Ls (.int x :: st) :=
  Wk.step (fun _ _ _ _ _ _ _ ha hx hby kt => XS.ifYes (pc0 := pc) (pc' := pc') ha hx rfl rfl (hb hby hd) rfl ((if0 _ _).trans (flt hc).2.2.2) (by omega) (by omega) kt) r
theorem Wk.icmp_leN {x y : Int32} {o : Int} (hd : decode C.b.code pc = .ok (.if_icmp .le o, 3)) (hp : pc + 3 = pc') (hc : y < x) (r : Wk C h k n I pc' Ls st) : Wk C h k n I pc Ls (.int y :: .int x :: st) := by
  subst hp
  exact Wk.step (fun _ _ _ _ _ _ _ ha hx hby kt => XS.icmpNo ha hx rfl (hb hby hd) rfl ((tlt hc).2.2.2) kt) r
theorem Wk.if_leN {x : Int32} {o : Int} (hd : decode C.b.code pc = .ok (.ifCond .le o, 3)) (hp : pc + 3 = pc') (hc : (0 : Int32) < x) (r : Wk C h k n I pc' Ls st) : Wk C h k n I pc Ls (.int x :: st) := by
  subst hp
  exact Wk.step (fun _ _ _ _ _ _ _ ha hx hby kt => XS.ifNo ha hx rfl (hb hby hd) rfl ((if0 _ _).trans (tlt hc).2.2.2) kt) r
theorem Wk.ifnullY {o : Int} (hd : decode C.b.code pc = .ok (.ifnull o, 3)) (hp : (pc : Int) + o = (pc' : Int)) (r : Wk C h k n I pc' Ls st) : Wk C h k n I pc Ls (.null :: st) :=
  Wk.step (fun _ _ _ _ _ _ _ ha hx hby kt => XS.ifnullYes (pc0 := pc) (pc' := pc') ha hx rfl rfl (hb hby hd) rfl (by omega) (by omega) kt) r
theorem Wk.ifnullN {o : Int} {a : Addr} (hd : decode C.b.code pc = .ok (.ifnull o, 3)) (hp : pc + 3 = pc') (r : Wk C h k n I pc' Ls st) : Wk C h k n I pc Ls (.ref a :: st) := by
  subst hp
  exact Wk.step (fun _ _ _ _ _ _ _ ha hx hby kt => XS.ifnullNo ha hx rfl (hb hby hd) rfl kt) r
theorem Wk.ifnonnullY {o : Int} {a : Addr} (hd : decode C.b.code pc = .ok (.ifnonnull o, 3)) (hp : (pc : Int) + o = (pc' : Int)) (r : Wk C h k n I pc' Ls st) : Wk C h k n I pc Ls (.ref a :: st) :=
  Wk.step (fun _ _ _ _ _ _ _ ha hx hby kt => XS.ifnonnullYes (pc0 := pc) (pc' := pc') ha hx rfl rfl (hb hby hd) rfl (by omega) (by omega) kt) r
theorem Wk.ifnonnullN {o : Int} (hd : decode C.b.code pc = .ok (.ifnonnull o, 3)) (hp : pc + 3 = pc') (r : Wk C h k n I pc' Ls st) : Wk C h k n I pc Ls (.null :: st) := by
  subst hp
  exact Wk.step (fun _ _ _ _ _ _ _ ha hx hby kt => XS.ifnonnullNo ha hx rfl (hb hby hd) rfl kt) r
theorem Wk.acmp {cd : ACond} {o : Int} {u v : Value} {same : Bool} (hd : decode C.b.code pc = .ok (.if_acmp cd o, 3)) (hu : u.isRef = true) (hv : v.isRef = true) (hq : decide (u = v) = same) (ho : 0 ≤ (pc : Int) + o) (hp : pc' = if acV cd same = true then ((pc : Int) + o).toNat else pc + 3) (r : Wk C h k n I pc' Ls st) : Wk C h k n I pc Ls (v :: u :: st) :=
  Wk.law (fun p e s vm0 m args below meth c T locs k0 S => ⟨T, S.2.2.2.1, S.2.2.2.2.1, fun t kt => Jvm.RoadKit.acmp (g := mkF m pc Ls (v :: u :: st)) S.2.2.2.1 S.1.1 rfl hu hv (pc0 := pc) (pc' := pc') rfl (hb S.1.2.1 hd) rfl hq ho hp kt⟩) r
theorem Wk.getF {R0 O f d host : String} {idx : Nat} {a : Addr} {v : Value} (w : (Jvm.Cond.fieldLink C.b.y.cls idx R0 f d).before a0 C.Z = true ∨ (Jvm.Cond.fieldLinkNest C.b.y.cls idx R0 f d host).before a0 C.Z = true) (via : Via C.Z R0 O f d) (F : Fld C.Z h a O f d v) (hd : decode C.b.code pc = .ok (.getfield idx, 3)) (hp : pc + 3 = pc') (r : Wk C h k n I pc' Ls (v :: st)) : Wk C h k n I pc Ls (.ref a :: st) := by
  subst hp
  exact Wk.law (fun p e s vm0 m args below meth c T locs k0 S => Jvm.RoadKit.getF (g := mkF m pc Ls (.ref a :: st)) S.2.2.2.1 S.1.1 S.2.1.2.1 S.2.1.1 w via S.2.2.2.2.1 F rfl rfl (hb S.1.2.1 hd)) r
theorem Wk.getS {R0 O f d host : String} {idx : Nat} {v : Value} (w : (Jvm.Cond.fieldLink C.b.y.cls idx R0 f d).before a0 C.Z = true ∨ (Jvm.Cond.fieldLinkNest C.b.y.cls idx R0 f d host).before a0 C.Z = true) (via : Via C.Z R0 O f d) (F : Sta C.Z C.Z.heap O f d v) (hd : decode C.b.code pc = .ok (.getstatic idx, 3)) (hp : pc + 3 = pc') (r : Wk C h k n I pc' Ls (v :: st)) : Wk C h k n I pc Ls st := by
  subst hp
  exact Wk.law (fun p e s vm0 m args below meth c T locs k0 S => getS2 (g := mkF m pc Ls st) S.2.2.2.1 S.1.1 S.2.1.2.1 S.2.1.1 w via S.2.2.2.2.1 (F.ext S.2.2.2.2.2.1) rfl (hb S.1.2.1 hd)) r
theorem Wk.putF {R0 O f d host K : String} {idx kk : Nat} {a : Addr} {v old : Value} {ty : FieldType} (w : (Jvm.Cond.fieldLink C.b.y.cls idx R0 f d).before a0 C.Z = true ∨ (Jvm.Cond.fieldLinkNest C.b.y.cls idx R0 f d host).before a0 C.Z = true) (via : Via C.Z R0 O f d) (ha : C.N ≤ a) (F : Fld C.Z h a O f d old) (E : Exa C.Z h a K)
    (L : (Jvm.Cond.lays K O f d).before a0 C.Z = true ∨ ((Jvm.Cond.laysFinal K O f d).before a0 C.Z = true ∧ C.b.y.cls = O ∧ C.b.y.name = "<init>")) (wi : (Jvm.Cond.instantiable K kk).before a0 C.Z = true) (hty : parseFieldDescriptor d = some ty) (hn : narrow ty v = v) (hf : fits ty v = true) (hd : decode C.b.code pc = .ok (.putfield idx, 3)) (hp : pc + 3 = pc')
    (r : ∀ h', Wr h h' a (Jvm.RoadKit.slotOf C.Z O f d) v → Wk C h' k n I pc' Ls st) : Wk C h k n I pc Ls (v :: .ref a :: st) := by
  subst hp
  exact Wk.lawW ha (fun p e s vm0 m args below meth c T locs k0 S => Jvm.RoadKit.putF (g := mkF m pc Ls (v :: .ref a :: st)) S.2.2.2.1 S.1.1 S.2.1.2.1 S.2.1.1 w via S.2.2.2.2.1 F E (L.imp id fun q => ⟨q.1, q.2.1, S.1.2.2.2.2.2.1.trans q.2.2⟩) wi hty hn hf rfl rfl (hb S.1.2.1 hd)) r
theorem Wk.putFN {R0 O f d K : String} {idx kk : Nat} {a : Addr} {v v' old : Value} {ty : FieldType} (w : (Jvm.Cond.fieldLink C.b.y.cls idx R0 f d).before a0 C.Z = true) (via : Via C.Z R0 O f d) (ha : C.N ≤ a) (F : Fld C.Z h a O f d old) (E : Exa C.Z h a K)
    (L : (Jvm.Cond.lays K O f d).before a0 C.Z = true ∨ ((Jvm.Cond.laysFinal K O f d).before a0 C.Z = true ∧ C.b.y.cls = O ∧ C.b.y.name = "<init>")) (wi : (Jvm.Cond.instantiable K kk).before a0 C.Z = true) (hty : parseFieldDescriptor d = some ty) (hn : narrow ty v = v') (hf : fits ty v' = true) (hd : decode C.b.code pc = .ok (.putfield idx, 3)) (hp : pc + 3 = pc')
    (r : ∀ h', Wr h h' a (Jvm.RoadKit.slotOf C.Z O f d) v' → Wk C h' k n I pc' Ls st) : Wk C h k n I pc Ls (v :: .ref a :: st) := by
  subst hp
  exact Wk.lawW ha (fun p e s vm0 m args below meth c T locs k0 S => Jvm.RoadKit.putFN (g := mkF m pc Ls (v :: .ref a :: st)) S.2.2.2.1 S.1.1 S.2.1.2.1 S.2.1.1 w via S.2.2.2.2.1 F E (L.imp id fun q => ⟨q.1, q.2.1, S.1.2.2.2.2.2.1.trans q.2.2⟩) wi hty hn hf rfl rfl (hb S.1.2.1 hd)) r
theorem Wk.newO {K : String} {idx j : Nat} (w : (Jvm.Cond.classLink C.b.y.cls idx K).before a0 C.Z = true) (wi : (Jvm.Cond.instantiable K j).before a0 C.Z = true) (wz : (Jvm.Cond.initialized K).before a0 C.Z = true) (hd : decode C.b.code pc = .ok (.new idx, 3)) (hp : pc + 3 = pc') (hk : k + 1 = k') (hn : n + j = n') (hc : k' ≤ C.b.room.cells) (hl : n' ≤ C.b.room.slots)
    (r : ∀ a h', h.size ≤ a → C.N ≤ a → Ext h h' → Exa C.Z h' a K → (∀ {O nm d : String} {ty : FieldType}, Laid C.Z a0 K O nm d → parseFieldDescriptor d = some ty → Fld C.Z h' a O nm d (defaultValue ty)) → Wk C h' k' n' I pc' Ls (.ref a :: st)) : Wk C h k n I pc Ls st := by
  subst hp hk hn
  refine Wk.see fun _ z2 _ => ?_
  refine Wk.lawE (P := fun h' => Exa C.Z h' h.size K ∧ ∀ {O nm d : String} {ty : FieldType}, Laid C.Z a0 K O nm d → parseFieldDescriptor d = some ty → Fld C.Z h' h.size O nm d (defaultValue ty)) (fun p e s vm0 m args below meth c T locs k0 S => ?_) (fun h' E q => r h.size h' (Nat.le_refl _) z2 E q.1 q.2)
  obtain ⟨T', h', X', e', E, A, D, -, st⟩ := Jvm.RoadKit.newO (g := mkF m pc Ls st) S.2.2.2.1 S.1.1 S.2.1.2.1 S.2.1.1 w wi wz S.2.2.2.2.1 rfl (hb S.1.2.1 hd) hc hl
  exact ⟨T', h', X', e', E, ⟨A, D⟩, st⟩
theorem Wk.initO {idx W : Nat} {a : Addr} (w1 : (Jvm.Cond.methodLink C.b.y.cls idx Lib.objectInit).before a0 C.Z = true) (w2 : (Jvm.Cond.instanceMethod Lib.objectInit).before a0 C.Z = true) (w3 : (Jvm.Cond.code Lib.objectInit ⟨#[0xb1]⟩ 1 none).before a0 C.Z = true) (hsz : Ls.size = C.b.maxL) (hd : decode C.b.code pc = .ok (.invokespecial idx, 3)) (hp : pc + 3 = pc') (hf : 1 ≤ C.b.room.frames) (hW : (st.map fun v => v.category).sum ≤ W) (hl : W + 12 ≤ C.b.room.locals)
    (r : Wk C h k n I pc' Ls st) : Wk C h k n I pc Ls (.ref a :: st) := by
  subst hp
  exact Wk.law (fun p e s vm0 m args below meth c T locs k0 S => Jvm.RoadKit.initO (g := mkF m pc Ls (.ref a :: st)) S.2.2.2.1 S.1.1 S.2.1.2.1 S.2.1.1 w1 w2 w3 S.2.2.2.2.1 rfl (hsz.trans S.1.2.2.1.symm) rfl (hb S.1.2.1 hd) hf (W := W) (by show 2 * 0 + _ ≤ _; omega) hl) r
theorem Wk.newP {aty : ArrayType} {z : Int32} {cap : Nat} (w : (Jvm.Cond.arrayClass (newarray.typeOf aty)).before a0 C.Z = true) (hd : decode C.b.code pc = .ok (.newarray aty, 2)) (hp : pc + 2 = pc') (hz : ¬ z < 0) (hcap : z.toNatClampNeg ≤ cap) (hbg : cap * 8 ≤ 536870912) (hk : k + 1 = k') (hn : n + cap = n') (hc : k' ≤ C.b.room.cells) (hl : n' ≤ C.b.room.slots)
    (r : ∀ a h' q, h.size ≤ a → C.N ≤ a → Ext h h' → Arv C.Z h' a q (newarray.typeOf aty) z [] (defaultValue (newarray.typeOf aty)) → Wk C h' k' n' I pc' Ls (.ref a :: st)) : Wk C h k n I pc Ls (.int z :: st) := by
  subst hp hk hn
  refine Wk.see fun _ z2 _ => ?_
  refine Wk.lawE (P := fun h' => ∃ q, Arv C.Z h' h.size q (newarray.typeOf aty) z [] (defaultValue (newarray.typeOf aty))) (fun p e s vm0 m args below meth c T locs k0 S => ?_) (fun h' E ⟨q, A⟩ => r h.size h' q (Nat.le_refl _) z2 E A)
  obtain ⟨T', h', cA, X', e', E, A, st⟩ := Jvm.RoadKit.newP (g := mkF m pc Ls (.int z :: st)) S.2.2.2.1 S.1.1 S.2.1.2.1 w S.2.2.2.2.1 rfl (hb S.1.2.1 hd) rfl hz hcap hbg hc hl
  exact ⟨T', h', X', e', E, ⟨cA, Arv.new A hz⟩, st⟩
theorem Wk.newR {K : String} {idx : Nat} {z : Int32} {cap : Nat} (w1 : (Jvm.Cond.classLink C.b.y.cls idx K).before a0 C.Z = true) (w2 : (Jvm.Cond.arrayOver (.object K)).before a0 C.Z = true) (hd : decode C.b.code pc = .ok (.anewarray idx, 3)) (hp : pc + 3 = pc') (hz : ¬ z < 0) (hcap : z.toNatClampNeg ≤ cap) (hbg : cap * 8 ≤ 536870912) (hk : k + 1 = k') (hn : n + cap = n') (hc : k' ≤ C.b.room.cells) (hl : n' ≤ C.b.room.slots) {ad : String} (had : "[" ++ (FieldType.object K).toString = ad)
    (r : ∀ a h' q, h.size ≤ a → C.N ≤ a → Ext h h' → Arv C.Z h' a q (.object K) z [] .null → Exa C.Z h' a ad → Ovr C.Z q K → Wk C h' k' n' I pc' Ls (.ref a :: st)) : Wk C h k n I pc Ls (.int z :: st) := by
  subst hp hk hn
  refine Wk.see fun _ z2 _ => ?_
  refine Wk.lawE (P := fun h' => ∃ q, Arv C.Z h' h.size q (.object K) z [] .null ∧ Exa C.Z h' h.size ad ∧ Ovr C.Z q K) (fun p e s vm0 m args below meth c T locs k0 S => ?_) (fun h' E ⟨q, A, B, D⟩ => r h.size h' q (Nat.le_refl _) z2 E A B D)
  obtain ⟨T', h', cA, X', e', E, A, B, D, st⟩ := newRE (g := mkF m pc Ls (.int z :: st)) S.2.2.2.1 S.1.1 S.2.1.2.1 S.2.1.1 w1 w2 S.2.2.2.2.1 rfl (hb S.1.2.1 hd) rfl hz hcap hbg hc hl had
  exact ⟨T', h', X', e', E, ⟨cA, Arv.new A hz, B, D⟩, st⟩
theorem Wk.arraylength {a : Addr} {q : ClassId} {ty : FieldType} {z : Int32} {vs : List Value} {dv : Value} (V : Arv C.Z h a q ty z vs dv) (hd : decode C.b.code pc = .ok (.arraylength, 1)) (hp : pc + 1 = pc') (r : Wk C h k n I pc' Ls (.int z :: st)) : Wk C h k n I pc Ls (.ref a :: st) := by
  subst hp
  obtain ⟨c, A, q1, q2, q3, q4, q5⟩ := V
  refine Wk.law (fun p e s vm0 m args below meth cc T locs k0 S => ⟨T, S.2.2.2.1, S.2.2.2.2.1, fun t kt => ?_⟩) r
  refine S.2.2.2.1.arraylength (g := mkF m pc Ls (.ref a :: st)) S.1.1 (by rw [S.2.2.2.2.1]; exact A.1) (State.isArrayOf_alike S.2.1.2.1.alike A.2.1) rfl rfl (hb S.1.2.1 hd) t ?_
  rw [len_of q2 q3]
  exact kt
theorem Wk.iaload {a : Addr} {q : ClassId} {z j : Int32} {vs : List Value} {dv v : Value} (V : Arv C.Z h a q .int z vs dv) (hj : ¬ j < 0 ∧ j < z) (hv : vs.getD j.toNatClampNeg dv = v) (hd : decode C.b.code pc = .ok (.iaload, 1)) (hp : pc + 1 = pc') (r : Wk C h k n I pc' Ls (v :: st)) : Wk C h k n I pc Ls (.int j :: .ref a :: st) := by
  subst hp
  obtain ⟨c, A, q1, q2, q3, q4, q5⟩ := V
  have hin := inb_of q2 hj
  refine Wk.law (fun p e s vm0 m args below meth cc T locs k0 S => ⟨T, S.2.2.2.1, S.2.2.2.2.1, fun t kt => ?_⟩) r
  exact S.2.2.2.1.iaload (g := mkF m pc Ls (.int j :: .ref a :: st)) S.1.1 (by rw [S.2.2.2.2.1]; exact A.1) (State.isArrayOf_alike S.2.1.2.1.alike A.2.1) A.2.2 hin (q4.at hin hv) rfl rfl (hb S.1.2.1 hd) t kt
theorem Wk.laload {a : Addr} {q : ClassId} {z j : Int32} {vs : List Value} {dv v : Value} (V : Arv C.Z h a q .long z vs dv) (hj : ¬ j < 0 ∧ j < z) (hv : vs.getD j.toNatClampNeg dv = v) (hd : decode C.b.code pc = .ok (.laload, 1)) (hp : pc + 1 = pc') (r : Wk C h k n I pc' Ls (v :: st)) : Wk C h k n I pc Ls (.int j :: .ref a :: st) := by
  subst hp
  obtain ⟨c, A, q1, q2, q3, q4, q5⟩ := V
  have hin := inb_of q2 hj
  refine Wk.law (fun p e s vm0 m args below meth cc T locs k0 S => ⟨T, S.2.2.2.1, S.2.2.2.2.1, fun t kt => ?_⟩) r
  exact S.2.2.2.1.laload (g := mkF m pc Ls (.int j :: .ref a :: st)) S.1.1 (by rw [S.2.2.2.2.1]; exact A.1) (State.isArrayOf_alike S.2.1.2.1.alike A.2.1) A.2.2 hin (q4.at hin hv) rfl rfl (hb S.1.2.1 hd) t kt
theorem Wk.caload {a : Addr} {q : ClassId} {z j : Int32} {vs : List Value} {dv v : Value} (V : Arv C.Z h a q .char z vs dv) (hj : ¬ j < 0 ∧ j < z) (hv : vs.getD j.toNatClampNeg dv = v) (hd : decode C.b.code pc = .ok (.caload, 1)) (hp : pc + 1 = pc') (r : Wk C h k n I pc' Ls (v :: st)) : Wk C h k n I pc Ls (.int j :: .ref a :: st) := by
  subst hp
  obtain ⟨c, A, q1, q2, q3, q4, q5⟩ := V
  have hin := inb_of q2 hj
  refine Wk.law (fun p e s vm0 m args below meth cc T locs k0 S => ⟨T, S.2.2.2.1, S.2.2.2.2.1, fun t kt => ?_⟩) r
  exact S.2.2.2.1.caload (g := mkF m pc Ls (.int j :: .ref a :: st)) S.1.1 (by rw [S.2.2.2.2.1]; exact A.1) (State.isArrayOf_alike S.2.1.2.1.alike A.2.1) A.2.2 hin (q4.at hin hv) rfl rfl (hb S.1.2.1 hd) t kt
theorem Wk.baload {a : Addr} {q : ClassId} {z j : Int32} {vs : List Value} {dv v : Value} (V : Arv C.Z h a q .byte z vs dv) (hj : ¬ j < 0 ∧ j < z) (hv : vs.getD j.toNatClampNeg dv = v) (hd : decode C.b.code pc = .ok (.baload, 1)) (hp : pc + 1 = pc') (r : Wk C h k n I pc' Ls (v :: st)) : Wk C h k n I pc Ls (.int j :: .ref a :: st) := by
  subst hp
  obtain ⟨c, A, q1, q2, q3, q4, q5⟩ := V
  have hin := inb_of q2 hj
  refine Wk.law (fun p e s vm0 m args below meth cc T locs k0 S => ⟨T, S.2.2.2.1, S.2.2.2.2.1, fun t kt => ?_⟩) r
  exact S.2.2.2.1.baloadBytes (g := mkF m pc Ls (.int j :: .ref a :: st)) S.1.1 (by rw [S.2.2.2.2.1]; exact A.1) (State.isArrayOf_alike S.2.1.2.1.alike A.2.1) A.2.2 hin (q4.at hin hv) rfl rfl (hb S.1.2.1 hd) t kt
theorem Wk.zaload {a : Addr} {q : ClassId} {z j : Int32} {vs : List Value} {dv v : Value} (V : Arv C.Z h a q .boolean z vs dv) (hj : ¬ j < 0 ∧ j < z) (hv : vs.getD j.toNatClampNeg dv = v) (hd : decode C.b.code pc = .ok (.baload, 1)) (hp : pc + 1 = pc') (r : Wk C h k n I pc' Ls (v :: st)) : Wk C h k n I pc Ls (.int j :: .ref a :: st) := by
  subst hp
  obtain ⟨c, A, q1, q2, q3, q4, q5⟩ := V
  have hin := inb_of q2 hj
  refine Wk.law (fun p e s vm0 m args below meth cc T locs k0 S => ⟨T, S.2.2.2.1, S.2.2.2.2.1, fun t kt => ?_⟩) r
  exact S.2.2.2.1.baloadBooleans (g := mkF m pc Ls (.int j :: .ref a :: st)) S.1.1 (by rw [S.2.2.2.2.1]; exact A.1) (State.isArrayOf_alike S.2.1.2.1.alike A.2.1) A.2.2 hin (q4.at hin hv) rfl rfl (hb S.1.2.1 hd) t kt
theorem Wk.aaload {a : Addr} {q : ClassId} {ty : FieldType} {z j : Int32} {vs : List Value} {dv v : Value} (V : Arv C.Z h a q ty z vs dv) (hty : ty.isReference = true) (hj : ¬ j < 0 ∧ j < z) (hv : vs.getD j.toNatClampNeg dv = v) (hd : decode C.b.code pc = .ok (.aaload, 1)) (hp : pc + 1 = pc') (r : Wk C h k n I pc' Ls (v :: st)) : Wk C h k n I pc Ls (.int j :: .ref a :: st) := by
  subst hp
  obtain ⟨c, A, q1, q2, q3, q4, q5⟩ := V
  have hin := inb_of q2 hj
  refine Wk.law (fun p e s vm0 m args below meth cc T locs k0 S => ⟨T, S.2.2.2.1, S.2.2.2.2.1, fun t kt => ?_⟩) r
  exact S.2.2.2.1.aaload (g := mkF m pc Ls (.int j :: .ref a :: st)) S.1.1 (by rw [S.2.2.2.2.1]; exact A.1) (State.isArrayOf_alike S.2.1.2.1.alike A.2.1) hty A.2.2 hin (q4.at hin hv) rfl rfl (hb S.1.2.1 hd) t kt
theorem Wk.iastore {a : Addr} {q : ClassId} {z j : Int32} {x : Int32} {vs : List Value} {dv : Value} (V : Arv C.Z h a q .int z vs dv) (ha : C.N ≤ a) (hj : ¬ j < 0 ∧ j < z) (i : Nat) (hi : j.toNatClampNeg = i) (hlt : i < vs.length) (hd : decode C.b.code pc = .ok (.iastore, 1)) (hp : pc + 1 = pc')
    (r : ∀ h', Wr h h' a j.toNatClampNeg (.int x) → Arv C.Z h' a q .int z (vs.set i (.int x)) dv → Wk C h' k n I pc' Ls st) : Wk C h k n I pc Ls (.int x :: .int j :: .ref a :: st) := by
  subst hp
  obtain ⟨c, A, q1, q2, q3, q4, q5⟩ := V
  have hin := inb_of q2 hj
  exact Wk.lawW ha (fun p e s vm0 m args below meth cc T locs k0 S => stI (g := mkF m pc Ls (.int x :: .int j :: .ref a :: st)) S.2.2.2.1 S.1.1 S.2.1.2.1 S.2.2.2.2.1 A hin rfl rfl (hb S.1.2.1 hd)) (fun h' W => r h' W (Arv.set A q1 q2 q3 q4 q5 (rfl) W i hi hlt))
theorem Wk.lastore {a : Addr} {q : ClassId} {z j : Int32} {x : Int64} {vs : List Value} {dv : Value} (V : Arv C.Z h a q .long z vs dv) (ha : C.N ≤ a) (hj : ¬ j < 0 ∧ j < z) (i : Nat) (hi : j.toNatClampNeg = i) (hlt : i < vs.length) (hd : decode C.b.code pc = .ok (.lastore, 1)) (hp : pc + 1 = pc')
    (r : ∀ h', Wr h h' a j.toNatClampNeg (.long x) → Arv C.Z h' a q .long z (vs.set i (.long x)) dv → Wk C h' k n I pc' Ls st) : Wk C h k n I pc Ls (.long x :: .int j :: .ref a :: st) := by
  subst hp
  obtain ⟨c, A, q1, q2, q3, q4, q5⟩ := V
  have hin := inb_of q2 hj
  exact Wk.lawW ha (fun p e s vm0 m args below meth cc T locs k0 S => stJ (g := mkF m pc Ls (.long x :: .int j :: .ref a :: st)) S.2.2.2.1 S.1.1 S.2.1.2.1 S.2.2.2.2.1 A hin rfl rfl (hb S.1.2.1 hd)) (fun h' W => r h' W (Arv.set A q1 q2 q3 q4 q5 (rfl) W i hi hlt))
theorem Wk.castore {a : Addr} {q : ClassId} {z j : Int32} {x : Int32} {vs : List Value} {dv : Value} (V : Arv C.Z h a q .char z vs dv) (ha : C.N ≤ a) (hj : ¬ j < 0 ∧ j < z) (i : Nat) (hi : j.toNatClampNeg = i) (hlt : i < vs.length) (hd : decode C.b.code pc = .ok (.castore, 1)) (hp : pc + 1 = pc')
    (r : ∀ h', Wr h h' a j.toNatClampNeg (.int (nar .char x)) → Arv C.Z h' a q .char z (vs.set i (.int (nar .char x))) dv → Wk C h' k n I pc' Ls st) : Wk C h k n I pc Ls (.int x :: .int j :: .ref a :: st) := by
  subst hp
  obtain ⟨c, A, q1, q2, q3, q4, q5⟩ := V
  have hin := inb_of q2 hj
  exact Wk.lawW ha (fun p e s vm0 m args below meth cc T locs k0 S => stC (g := mkF m pc Ls (.int x :: .int j :: .ref a :: st)) S.2.2.2.1 S.1.1 S.2.1.2.1 S.2.2.2.2.1 A hin rfl rfl (hb S.1.2.1 hd)) (fun h' W => r h' W (Arv.set A q1 q2 q3 q4 q5 (fits_nar_char x) W i hi hlt))
theorem Wk.bastore {a : Addr} {q : ClassId} {z j : Int32} {x : Int32} {vs : List Value} {dv : Value} (V : Arv C.Z h a q .byte z vs dv) (ha : C.N ≤ a) (hj : ¬ j < 0 ∧ j < z) (i : Nat) (hi : j.toNatClampNeg = i) (hlt : i < vs.length) (hd : decode C.b.code pc = .ok (.bastore, 1)) (hp : pc + 1 = pc')
    (r : ∀ h', Wr h h' a j.toNatClampNeg (.int (nar .byte x)) → Arv C.Z h' a q .byte z (vs.set i (.int (nar .byte x))) dv → Wk C h' k n I pc' Ls st) : Wk C h k n I pc Ls (.int x :: .int j :: .ref a :: st) := by
  subst hp
  obtain ⟨c, A, q1, q2, q3, q4, q5⟩ := V
  have hin := inb_of q2 hj
  exact Wk.lawW ha (fun p e s vm0 m args below meth cc T locs k0 S => stB (g := mkF m pc Ls (.int x :: .int j :: .ref a :: st)) S.2.2.2.1 S.1.1 S.2.1.2.1 S.2.2.2.2.1 A hin rfl rfl (hb S.1.2.1 hd)) (fun h' W => r h' W (Arv.set A q1 q2 q3 q4 q5 (fits_nar_byte x) W i hi hlt))
theorem Wk.zastore {a : Addr} {q : ClassId} {z j : Int32} {x : Int32} {vs : List Value} {dv : Value} (V : Arv C.Z h a q .boolean z vs dv) (ha : C.N ≤ a) (hj : ¬ j < 0 ∧ j < z) (i : Nat) (hi : j.toNatClampNeg = i) (hlt : i < vs.length) (hd : decode C.b.code pc = .ok (.bastore, 1)) (hp : pc + 1 = pc')
    (r : ∀ h', Wr h h' a j.toNatClampNeg (.int (nar .boolean x)) → Arv C.Z h' a q .boolean z (vs.set i (.int (nar .boolean x))) dv → Wk C h' k n I pc' Ls st) : Wk C h k n I pc Ls (.int x :: .int j :: .ref a :: st) := by
  subst hp
  obtain ⟨c, A, q1, q2, q3, q4, q5⟩ := V
  have hin := inb_of q2 hj
  exact Wk.lawW ha (fun p e s vm0 m args below meth cc T locs k0 S => stZ (g := mkF m pc Ls (.int x :: .int j :: .ref a :: st)) S.2.2.2.1 S.1.1 S.2.1.2.1 S.2.2.2.2.1 A hin rfl rfl (hb S.1.2.1 hd)) (fun h' W => r h' W (Arv.set A q1 q2 q3 q4 q5 (fits_nar_bool x) W i hi hlt))
theorem Wk.aastore {a : Addr} {q : ClassId} {ty : FieldType} {z j : Int32} {v : Value} {vs : List Value} {dv : Value} (V : Arv C.Z h a q ty z vs dv) (hty : ty.isReference = true) (hf : fits ty v = true) (ha : C.N ≤ a) (hj : ¬ j < 0 ∧ j < z) (i : Nat) (hi : j.toNatClampNeg = i) (hlt : i < vs.length) (F : Sto C.Z h a v) (hd : decode C.b.code pc = .ok (.aastore, 1)) (hp : pc + 1 = pc')
    (r : ∀ h', Wr h h' a j.toNatClampNeg v → Arv C.Z h' a q ty z (vs.set i v) dv → Wk C h' k n I pc' Ls st) : Wk C h k n I pc Ls (v :: .int j :: .ref a :: st) := by
  subst hp
  obtain ⟨c, A, q1, q2, q3, q4, q5⟩ := V
  have hin := inb_of q2 hj
  exact Wk.lawW ha (fun p e s vm0 m args below meth cc T locs k0 S => stR (g := mkF m pc Ls (v :: .int j :: .ref a :: st)) S.2.2.2.1 S.1.1 S.2.1.2.1 S.2.2.2.2.1 A hin hty F rfl rfl (hb S.1.2.1 hd)) (fun h' W => r h' W (Arv.set A q1 q2 q3 q4 q5 hf W i hi hlt))
theorem Wk.ldcI {idx : Nat} {v : Int32} (w : (Jvm.Cond.constant C.b.y.cls idx v).before a0 C.Z = true) (hd : decode C.b.code pc = .ok (.ldc idx, 2)) (hp : pc + 2 = pc') (r : Wk C h k n I pc' Ls (.int v :: st)) : Wk C h k n I pc Ls st := by
  subst hp
  exact Wk.law (fun p e s vm0 m args below meth c T locs k0 S => ⟨T, S.2.2.2.1, S.2.2.2.2.1, fun t kt => S.2.2.2.1.ldcI (g := mkF m pc Ls st) S.1.1 S.2.1.1 (mv (s := s.setVm vm0) S.2.1.2.1 w) rfl (hb S.1.2.1 hd) kt⟩) r
theorem Wk.ldcWI {idx : Nat} {v : Int32} (w : (Jvm.Cond.constant C.b.y.cls idx v).before a0 C.Z = true) (hd : decode C.b.code pc = .ok (.ldc_w idx, 3)) (hp : pc + 3 = pc') (r : Wk C h k n I pc' Ls (.int v :: st)) : Wk C h k n I pc Ls st := by
  subst hp
  exact Wk.law (fun p e s vm0 m args below meth c T locs k0 S => ⟨T, S.2.2.2.1, S.2.2.2.2.1, fun t kt => S.2.2.2.1.ldcWI (g := mkF m pc Ls st) S.1.1 S.2.1.1 (mv (s := s.setVm vm0) S.2.1.2.1 w) rfl (hb S.1.2.1 hd) kt⟩) r
theorem Wk.ldc2J {idx : Nat} {v : Int64} (w : (Jvm.Cond.constantLong C.b.y.cls idx v).before a0 C.Z = true) (hd : decode C.b.code pc = .ok (.ldc2_w idx, 3)) (hp : pc + 3 = pc') (r : Wk C h k n I pc' Ls (.long v :: st)) : Wk C h k n I pc Ls st := by
  subst hp
  exact Wk.law (fun p e s vm0 m args below meth c T locs k0 S => ⟨T, S.2.2.2.1, S.2.2.2.2.1, fun t kt => S.2.2.2.1.ldc2J (g := mkF m pc Ls st) S.1.1 S.2.1.1 (mv (s := s.setVm vm0) S.2.1.2.1 w) rfl (hb S.1.2.1 hd) kt⟩) r
theorem Wk.castY {K : String} {idx : Nat} {a : Addr} (w : (Jvm.Cond.classLink C.b.y.cls idx K).before a0 C.Z = true) (F : Ins C.Z h a K true) (hd : decode C.b.code pc = .ok (.checkcast idx, 3)) (hp : pc + 3 = pc') (r : Wk C h k n I pc' Ls (.ref a :: st)) : Wk C h k n I pc Ls (.ref a :: st) := by
  subst hp
  exact Wk.law (fun p e s vm0 m args below meth c T locs k0 S => Jvm.RoadKit.castY (g := mkF m pc Ls (.ref a :: st)) S.2.2.2.1 S.1.1 S.2.1.2.1 S.2.1.1 w S.2.2.2.2.1 F rfl rfl (hb S.1.2.1 hd)) r
theorem Wk.instY {K : String} {idx : Nat} {a : Addr} (w : (Jvm.Cond.classLink C.b.y.cls idx K).before a0 C.Z = true) (F : Ins C.Z h a K true) (hd : decode C.b.code pc = .ok (.instanceof idx, 3)) (hp : pc + 3 = pc') (r : Wk C h k n I pc' Ls (.int 1 :: st)) : Wk C h k n I pc Ls (.ref a :: st) := by
  subst hp
  exact Wk.law (fun p e s vm0 m args below meth c T locs k0 S => Jvm.RoadKit.instY (g := mkF m pc Ls (.ref a :: st)) S.2.2.2.1 S.1.1 S.2.1.2.1 S.2.1.1 w S.2.2.2.2.1 F rfl rfl (hb S.1.2.1 hd)) r
theorem Wk.leaveW {v : Option Value} (hv : C.b.ret = none → v = none) (hk : k ≤ C.b.room.cells) (hn : n ≤ C.b.room.slots) (q : C.Q v h I)
    (hs : ∀ (p : Program) (e : Env) (s : State) (vm0 : Vm) (m : MethodId) (args : Array Value) (below : List Frame) (meth : Method) (c : Code) (T : State) (locs : List Loc) (k0 : Nat) (fs : List Frame), St C p e s vm0 m args below meth c T locs k0 h k n I →
      (∀ (f : JFrame) (acts : List Action), f.method = m → f.locked = none → f.entered = [] → (doReturn e (T.setTop f) acts v).1 = T.setFrames fs) → Steps p.tables e below (T.setTop (mkF m pc Ls st)) (T.setFrames fs)) : Wk C h k n I pc Ls st := fun p e s vm0 m args below meth c T locs k0 S => by
  obtain ⟨fs, hr, hrun, hended, hW, hsame⟩ := S.2.2.2.1.leave (v := v) (fun q => hv (S.1.2.2.2.1 ▸ q)) S.1.2.2.2.2.1
  have hst := hs p e s vm0 m args below meth c T locs k0 fs S hr
  obtain ⟨A, ⟨b1, b2, b3, b4⟩, q1, q2, q3, q4, q5, q6⟩ := S
  have eh : (T.setFrames fs).heap = h := q3
  obtain ⟨u1, u2, u3⟩ := b3.ended hW (by rw [eh]; exact q1) hsame
  exact ⟨_, _, hst, hrun, hended, v, locs, I, rfl, by rw [eh]; exact q, VI.warm (s := s.setVm vm0) b4 hW, q6, by rw [eh]; exact q4, ⟨v, rfl⟩, u1, u2, u3.mono hk hn⟩
theorem Wk.ireturn {z : Int32} (hret : C.b.ret = some .int) (hd : decode C.b.code pc = .ok (.ireturn, 1)) (hk : k ≤ C.b.room.cells) (hn : n ≤ C.b.room.slots) (q : C.Q (some (.int z)) h I) : Wk C h k n I pc Ls (.int z :: st) :=
  Wk.leaveW (v := some (.int z)) (fun e => by rw [hret] at e; cases e) hk hn q fun p e s vm0 m args below meth c T locs k0 fs S hr =>
    retOut S.2.2.2.1 S.1.1 (S.1.2.2.2.1.trans hret) rfl (Or.inl ⟨rfl, Or.inl rfl, _, rfl⟩) (hb S.1.2.1 hd) hr
theorem Wk.zreturn {z : Int32} {t : FieldType} (hret : C.b.ret = some t) (ht : t = .boolean ∨ t = .byte ∨ t = .char ∨ t = .short) (hd : decode C.b.code pc = .ok (.ireturn, 1)) (hk : k ≤ C.b.room.cells) (hn : n ≤ C.b.room.slots) (q : C.Q (some (.int (nar t z))) h I) : Wk C h k n I pc Ls (.int z :: st) :=
  Wk.leaveW (v := some (.int (nar t z))) (fun e => by rw [hret] at e; cases e) hk hn q fun p e s vm0 m args below meth c T locs k0 fs S hr =>
    retN S.2.2.2.1 S.1.1 (S.1.2.2.2.1.trans hret) ht (hb S.1.2.1 hd) hr
theorem Wk.lreturn {z : Int64} (hret : C.b.ret = some .long) (hd : decode C.b.code pc = .ok (.lreturn, 1)) (hk : k ≤ C.b.room.cells) (hn : n ≤ C.b.room.slots) (q : C.Q (some (.long z)) h I) : Wk C h k n I pc Ls (.long z :: st) :=
  Wk.leaveW (v := some (.long z)) (fun e => by rw [hret] at e; cases e) hk hn q fun p e s vm0 m args below meth c T locs k0 fs S hr =>
    retOut S.2.2.2.1 S.1.1 (S.1.2.2.2.1.trans hret) rfl (Or.inr (Or.inl ⟨rfl, rfl, _, rfl⟩)) (hb S.1.2.1 hd) hr
theorem Wk.dreturn {z : UInt64} (hret : C.b.ret = some .double) (hd : decode C.b.code pc = .ok (.dreturn, 1)) (hk : k ≤ C.b.room.cells) (hn : n ≤ C.b.room.slots) (q : C.Q (some (.double z)) h I) : Wk C h k n I pc Ls (.double z :: st) :=
  Wk.leaveW (v := some (.double z)) (fun e => by rw [hret] at e; cases e) hk hn q fun p e s vm0 m args below meth c T locs k0 fs S hr =>
    retOut S.2.2.2.1 S.1.1 (S.1.2.2.2.1.trans hret) rfl (Or.inr (Or.inr (Or.inl ⟨rfl, rfl, _, rfl⟩))) (hb S.1.2.1 hd) hr
theorem narrow_refl {t : FieldType} {w : Value} (ht : t.isReference = true) : narrow t w = w := by cases t <;> simp [FieldType.isReference] at ht <;> cases w <;> rfl
theorem Wk.areturn {w : Value} {t : FieldType} (hret : C.b.ret = some t) (ht : t.isReference = true) (hw : w.isRef = true) (hd : decode C.b.code pc = .ok (.areturn, 1)) (hk : k ≤ C.b.room.cells) (hn : n ≤ C.b.room.slots) (q : C.Q (some w) h I) : Wk C h k n I pc Ls (w :: st) :=
  Wk.leaveW (v := some w) (fun e => by rw [hret] at e; cases e) hk hn q fun p e s vm0 m args below meth c T locs k0 fs S hr =>
    retOut S.2.2.2.1 S.1.1 (S.1.2.2.2.1.trans hret) (narrow_refl ht) (Or.inr (Or.inr (Or.inr (Or.inr ⟨rfl, ht, hw⟩)))) (hb S.1.2.1 hd) hr
theorem Wk.return_ (hret : C.b.ret = none) (hd : decode C.b.code pc = .ok (.return_, 1)) (hk : k ≤ C.b.room.cells) (hn : n ≤ C.b.room.slots) (q : C.Q none h I) : Wk C h k n I pc Ls [] :=
  Wk.leaveW (v := none) (fun _ => rfl) hk hn q fun p e s vm0 m args below meth c T locs k0 fs S hr =>
    S.2.2.2.1.returnOut S.1.1 (S.1.2.2.2.1.trans hret) (hb S.1.2.1 hd) hr
theorem Cn.of_wk {l : Launch} {Z : State} {N : Nat} {b : Bdy} {as : Array Value} {Q : Option Value → Heap → Lts → Prop} (hp : plainFor b.y = true) (he : ∀ m, entryFrame m as b.maxL = mkF m 0 Ls []) (r : Wk (l, Z, N, h.size, b, Q) h 0 0 I 0 Ls []) : Cn l Z N b as h I Q := by
  intro ws
  refine MetFree.of_bodySF hp hisR ?_
  intro p e s m args below meth c s₁ Bd hml0 hP hK
  obtain ⟨rfl, hZ, hh, hV, hE, hN, hZN⟩ := hP
  have X0 : Stand p l e b.room (s.setVm s.vm) m args below meth c s₁ [] 0 0 := Stand.of_body Bd
  have e0 : s₁.heap = h := by rw [← hh, Bd.state]; rfl
  obtain ⟨t, o, h1, h2⟩ := r p e s s.vm m args below meth c s₁ [] s.heap.size ⟨⟨Bd.exec, Bd.bytes, hml0, Bd.returns, Bd.notSynchronized, (name_of_methodNamed Bd.named Bd.method).1, hZN, by rw [hh], by rw [hh]; exact hE⟩, ⟨findClass_of_methodNamed Bd.named, hZ, (State.WarmedH.refl s).since _, hV⟩, by rw [hh]; exact Nat.le_refl _, X0, e0, hE, hN, Fr.nil _⟩
  exact ⟨t, o, castTop (he m) h1, h2⟩
theorem Cn.back {l : Launch} {Z : State} {N : Nat} {b : Bdy} {as : Array Value} {Q : Option Value → Heap → Lts → Prop} (M : Cn l Z N b as h I Q) {R : Room} {p : Program} {e : Env} {below : List Frame} {s : State} {args : Array Value} {len W : Nat} (hZ : Z.Warmed39 s.vm) (hV : VI Z I s.vm) (hE : Ext Z.heap h) (hN : N ≤ h.size) (hZN : Z.heap.size ≤ N)
    (wc : (Jvm.Cond.code b.y b.code b.maxL b.ret).before a0 Z = true) (wz : (Jvm.Cond.initialized b.y.cls).before a0 Z = true) (hf : b.room.frames + 1 ≤ R.frames) (hl : W + (b.maxL + 11) + b.room.locals ≤ R.locals) :
    BackS l R p e below s args b.y len W (fun A a => a = as ∧ A.U.heap = h ∧ A.cells + b.room.cells ≤ R.cells ∧ A.slots + b.room.slots ≤ R.slots)
      (fun A _ v B => ∃ L J, Q v B.U.heap J ∧ VI Z J B.U.vm ∧ Fr N L ∧ Ext Z.heap B.U.heap ∧ B.locs = A.locs ++ L ∧ B.cells = A.cells + b.room.cells ∧ B.slots = A.slots + b.room.slots) :=
  BackS.of_freeW (bytes := b.code) (maxL := b.maxL) (ret := b.ret) (E := fun _ _ o t L k n => k = b.room.cells ∧ n = b.room.slots ∧ ∃ v J, o = .returned v ∧ Q v t.heap J ∧ VI Z J t.vm ∧ Fr N L ∧ Ext Z.heap t.heap) (M []) hf hl
    (fun m meth c A a Y hp => have hU : Z.Warmed39 A.U.vm := wtrans hZ Y.warmed
      ⟨by show (Cond.and _ .tt).before a A.U = true; rw [Cond.before_and, mv hU wc]; rfl, mv hU wc, mv hU wz, hp.2.2.1, hp.2.2.2⟩)
    (fun m meth c A a g mk Y hp => ⟨hp.1, wtrans hZ Y.warmed, hp.2.1, VI.warm hV Y.warmed, hE, hN, hZN⟩) (fun _ _ _ _ _ _ _ _ _ => trivial)
    (fun _ _ _ _ ⟨v, L, J, h1, h2, h3, h4, h5, h6⟩ => ⟨L, _, _, h6, rfl, rfl, v, J, h1, h2, h3, h4, h5⟩)
    (fun m meth c A a g mk v t L k n Y hp _ _ ⟨e1, e2, v', J, e3, e4, e5, e6, e7⟩ => by cases e3; subst e1 e2; exact ⟨L, J, e4, e5, e6, e7, rfl, rfl, rfl⟩)
/-- behind a call -/
theorem Wk.behind {b : Bdy} {N' : Nat} {Q' : Option Value → Heap → Lts → Prop} (hN : C.N ≤ N') (hk : k + b.room.cells = k') (hn : n + b.room.slots = n') (r : ∀ v h' J, h.size ≤ h'.size → Q' v h' J → Wk C h' k' n' J pc' Ls (v.toList ++ rest))
    {p : Program} {e : Env} {s : State} {vm0 : Vm} {m : MethodId} {args : Array Value} {below : List Frame} {meth : Method} {c : Code} {T : State} {locs : List Loc} {k0 : Nat} (S : St C p e s vm0 m args below meth c T locs k0 h k n I)
    {U0 : State} (q : ∃ (v : Option Value) (vm₁ : Vm) (B : Pt), (s.setVm vm0).WarmedH vm₁ ∧ Stand p C.l e C.b.room ((s.setVm vm0).setVm B.U.vm) m args below meth c B.U B.locs B.cells B.slots ∧ (s.setVm vm0).Since B.U.vm B.U.heap.size ∧ T.heap.size ≤ B.U.heap.size ∧
      (∃ L J, Q' v B.U.heap J ∧ VI C.Z J B.U.vm ∧ Fr N' L ∧ Ext C.Z.heap B.U.heap ∧ B.locs = locs ++ L ∧ B.cells = k + b.room.cells ∧ B.slots = n + b.room.slots) ∧ Steps p.tables e below U0 (B.U.setTop (mkF m pc' Ls (v.toList ++ rest)))) :
    ∃ t o, Steps p.tables e below U0 t ∧ t.status = .running ∧ Ended t below o ∧ Fini C s o t := by
  obtain ⟨v, vm₁, ⟨U, L2, k2, n2⟩, hW, X', hS', hg, ⟨L, J, y1, y2, y3, y4, y5, y6, y7⟩, hst⟩ := q
  dsimp only [Pt.U, Pt.locs, Pt.cells, Pt.slots] at X' hS' hg y1 y2 y3 y4 y5 y6 y7 hst
  subst y5 y6 y7 hk hn
  obtain ⟨A, ⟨b1, b2, b3, b4⟩, q1, q2, q3, q4, q5, q6⟩ := S
  have hg' : h.size ≤ U.heap.size := by rw [← q3]; exact hg
  obtain ⟨x1, x2, x3, x4⟩ := rebS b3 q1 X' hS' hg' b2 b1
  obtain ⟨t, o, h1, h2⟩ := r v U.heap J hg' y1 p e s U.vm m args below meth c U _ U.heap.size ⟨A, ⟨x4, x3, x2, y2⟩, Nat.le_refl _, x1, rfl, y4, Nat.le_trans q5 hg', Fr.app q6 fun y hy => Nat.le_trans hN (y3 y hy)⟩
  exact ⟨t, o, hst.trans h1, h2⟩
abbrev NoPoly (y : MethodName) : Prop := y.cls ≠ "java/lang/invoke/MethodHandle" ∧ y.cls ≠ "java/lang/invoke/VarHandle"
theorem Wk.callS {b : Bdy} {N' : Nat} {as : Array Value} {Q' : Option Value → Heap → Lts → Prop} {idx W : Nat} {ps : List FieldType} {rt : Option FieldType} {argsL : List Value} (M : Cn C.l C.Z N' b as h I Q')
    (w1 : (Jvm.Cond.methodLink C.b.y.cls idx b.y).before a0 C.Z = true) (w2 : (Jvm.Cond.static b.y).before a0 C.Z = true) (w3 : (Jvm.Cond.initialized b.y.cls).before a0 C.Z = true) (w4 : (Jvm.Cond.code b.y b.code b.maxL b.ret).before a0 C.Z = true) (hy : NoPoly b.y)
    (hN : C.N ≤ N') (hN' : C.N ≤ h.size → N' ≤ h.size) (hf : b.room.frames + 1 ≤ C.b.room.frames) (hl : W + (b.maxL + 11) + b.room.locals ≤ C.b.room.locals) (hk : k + b.room.cells = k') (hn : n + b.room.slots = n') (hkc : k' ≤ C.b.room.cells) (hnc : n' ≤ C.b.room.slots)
    (hsz : Ls.size = C.b.maxL) (hpd : parseMethodDescriptor b.y.desc = some ⟨ps, rt⟩) (hlen : argsL.length = ps.length) (has : as = argsL.toArray) (hst : st = argsL.reverse ++ rest) (hW : (rest.map fun v => v.category).sum ≤ W) (hd : decode C.b.code pc = .ok (.invokestatic idx, 3)) (hp : pc + 3 = pc')
    (r : ∀ v h' J, h.size ≤ h'.size → Q' v h' J → Wk C h' k' n' J pc' Ls (v.toList ++ rest)) : Wk C h k n I pc Ls st := by
  subst hp has hst hk hn
  intro p e s vm0 m args below meth c T locs k0 S
  refine Wk.behind (b := b) hN rfl rfl r S ?_
  have hZ : C.Z.Warmed39 (s.setVm vm0).vm := S.2.1.2.1
  exact callSS S.2.2.2.1 S.1.1 (own := C.b.y.cls) S.2.1.1 (mvT hZ w1) (mvT hZ w2) (mvT hZ w3) (mvT hZ w4) hy (Cn.back (a0 := a0) (W := W) M hZ S.2.1.2.2.2 S.2.2.2.2.2.1 (hN' S.2.2.2.2.2.2.1) (Nat.le_trans S.1.2.2.2.2.2.2.1 hN) w4 w3 hf hl) (g := mkF m pc Ls (argsL.reverse ++ rest)) rfl (hsz.trans S.1.2.2.1.symm) (argsL := argsL) (rest := rest) (lenOf hpd hlen) rfl (by show 2 * 0 + _ ≤ _; omega) (hb S.1.2.1 hd) (fun _ _ => ⟨rfl, S.2.2.2.2.1, hkc, hnc⟩)
theorem Wk.callN {b : Bdy} {N' : Nat} {as : Array Value} {Q' : Option Value → Heap → Lts → Prop} {idx W : Nat} {ps : List FieldType} {rt : Option FieldType} {argsL : List Value} {a : Addr} (M : Cn C.l C.Z N' b as h I Q') (hini : b.y.name = "<init>") (hrt : b.ret = none)
    (w1 : (Jvm.Cond.methodLink C.b.y.cls idx b.y).before a0 C.Z = true) (w2 : (Jvm.Cond.instanceMethod b.y).before a0 C.Z = true) (w3 : (Jvm.Cond.initialized b.y.cls).before a0 C.Z = true) (w4 : (Jvm.Cond.code b.y b.code b.maxL b.ret).before a0 C.Z = true) (hy : NoPoly b.y)
    (hN : C.N ≤ N') (hN' : C.N ≤ h.size → N' ≤ h.size) (hf : b.room.frames + 1 ≤ C.b.room.frames) (hl : W + (b.maxL + 11) + b.room.locals ≤ C.b.room.locals) (hk : k + b.room.cells = k') (hn : n + b.room.slots = n') (hkc : k' ≤ C.b.room.cells) (hnc : n' ≤ C.b.room.slots)
    (hsz : Ls.size = C.b.maxL) (hpd : parseMethodDescriptor b.y.desc = some ⟨ps, rt⟩) (hlen : argsL.length = ps.length) (has : as = (.ref a :: argsL).toArray) (hst : st = argsL.reverse ++ .ref a :: rest) (hW : (rest.map fun v => v.category).sum ≤ W) (hd : decode C.b.code pc = .ok (.invokespecial idx, 3)) (hp : pc + 3 = pc')
    (r : ∀ v h' J, h.size ≤ h'.size → Q' v h' J → Wk C h' k' n' J pc' Ls (v.toList ++ rest)) : Wk C h k n I pc Ls st := by
  subst hp has hst hk hn
  intro p e s vm0 m args below meth c T locs k0 S
  refine Wk.behind (b := b) hN rfl rfl r S ?_
  have hZ : C.Z.Warmed39 (s.setVm vm0).vm := S.2.1.2.1
  have w4' : (Jvm.Cond.code b.y b.code b.maxL none).before a0 C.Z = true := by rw [← hrt]; exact w4
  exact S.2.2.2.1.specialBackS S.1.1 (own := C.b.y.cls) hini S.2.1.1 (mvT hZ w1) (mvT hZ w2) (mvT hZ w4') hy (Cn.back (a0 := a0) (W := W) M hZ S.2.1.2.2.2 S.2.2.2.2.2.1 (hN' S.2.2.2.2.2.2.1) (Nat.le_trans S.1.2.2.2.2.2.2.1 hN) w4 w3 hf hl) (g := mkF m pc Ls (argsL.reverse ++ .ref a :: rest)) rfl (hsz.trans S.1.2.2.1.symm) (Steps.refl _) (argsL := argsL) (rest := rest) (lenOf hpd hlen) rfl (by show 2 * 0 + _ ≤ _; omega) (hb S.1.2.1 hd) (fun _ _ => ⟨rfl, S.2.2.2.2.1, hkc, hnc⟩)
theorem Wk.callV {b : Bdy} {N' : Nat} {as : Array Value} {Q' : Option Value → Heap → Lts → Prop} {idx W : Nat} {ps : List FieldType} {rt : Option FieldType} {argsL : List Value} {a : Addr} {y : MethodName} {K K' : String} (M : Cn C.l C.Z N' b as h I Q') (E : Exa C.Z h a K)
    (w1 : (Jvm.Cond.methodLink C.b.y.cls idx y).before a0 C.Z = true) (wd : (Jvm.Cond.declares y).before a0 C.Z = true) (wn : (Jvm.Cond.selects K' y y).before a0 C.Z = true) (ws : (Jvm.Cond.selects K y b.y).before a0 C.Z = true) (w2 : (Jvm.Cond.instanceMethod b.y).before a0 C.Z = true) (w3 : (Jvm.Cond.initialized b.y.cls).before a0 C.Z = true) (w4 : (Jvm.Cond.code b.y b.code b.maxL b.ret).before a0 C.Z = true) (hy : NoPoly y)
    (hN : C.N ≤ N') (hN' : C.N ≤ h.size → N' ≤ h.size) (hf : b.room.frames + 1 ≤ C.b.room.frames) (hl : W + (b.maxL + 11) + b.room.locals ≤ C.b.room.locals) (hk : k + b.room.cells = k') (hn : n + b.room.slots = n') (hkc : k' ≤ C.b.room.cells) (hnc : n' ≤ C.b.room.slots)
    (hsz : Ls.size = C.b.maxL) (hpd : parseMethodDescriptor y.desc = some ⟨ps, rt⟩) (hlen : argsL.length = ps.length) (has : as = (.ref a :: argsL).toArray) (hst : st = argsL.reverse ++ .ref a :: rest) (hW : (rest.map fun v => v.category).sum ≤ W) (hd : decode C.b.code pc = .ok (.invokevirtual idx, 3)) (hp : pc + 3 = pc')
    (r : ∀ v h' J, h.size ≤ h'.size → Q' v h' J → Wk C h' k' n' J pc' Ls (v.toList ++ rest)) : Wk C h k n I pc Ls st := by
  subst hp has hst hk hn
  intro p e s vm0 m args below meth c T locs k0 S
  refine Wk.behind (b := b) hN rfl rfl r S ?_
  have hZ : C.Z.Warmed39 (s.setVm vm0).vm := S.2.1.2.1
  obtain ⟨cq, kq, qa, qb, qc⟩ := isOf (s := s.setVm vm0) hZ S.2.2.2.2.1 E
  exact S.2.2.2.1.virtualBackS S.1.1 (own := C.b.y.cls) (y := y) (z := b.y) S.2.1.1 (mvT hZ w1) (mvT hZ wd) (notFace_of_selects (args := #[]) (mvT hZ wn)) (mvT hZ ws) (mvT hZ w2) hy (Cn.back (a0 := a0) (W := W) M hZ S.2.1.2.2.2 S.2.2.2.2.2.1 (hN' S.2.2.2.2.2.2.1) (Nat.le_trans S.1.2.2.2.2.2.2.1 hN) w4 w3 hf hl) qa qc (g := mkF m pc Ls (argsL.reverse ++ .ref a :: rest)) rfl (hsz.trans S.1.2.2.1.symm) (Steps.refl _) (argsL := argsL) (rest := rest) (lenOf hpd hlen) rfl (by show 2 * 0 + _ ≤ _; omega) (hb S.1.2.1 hd) (fun _ _ => ⟨rfl, S.2.2.2.2.1, hkc, hnc⟩)
theorem Wk.callI {b : Bdy} {N' : Nat} {as : Array Value} {Q' : Option Value → Heap → Lts → Prop} {idx cnt W : Nat} {ps : List FieldType} {rt : Option FieldType} {argsL : List Value} {a : Addr} {y : MethodName} {K : String} (M : Cn C.l C.Z N' b as h I Q') (E : Exa C.Z h a K)
    (w1 : (Jvm.Cond.methodLink C.b.y.cls idx y).before a0 C.Z = true) (wd : (Jvm.Cond.declares y).before a0 C.Z = true) (wf : (Jvm.Cond.interfaceMethod y.cls y.cls y.name y.desc).before a0 C.Z = true) (ws : (Jvm.Cond.selects K y b.y).before a0 C.Z = true) (w2 : (Jvm.Cond.instanceMethod b.y).before a0 C.Z = true) (wp : (Jvm.Cond.publicMethod b.y).before a0 C.Z = true) (wu : (Jvm.Cond.unhidden K y.name y.desc).before a0 C.Z = true) (wk : (Jvm.Cond.castable K y.cls).before a0 C.Z = true) (w3 : (Jvm.Cond.initialized b.y.cls).before a0 C.Z = true) (w4 : (Jvm.Cond.code b.y b.code b.maxL b.ret).before a0 C.Z = true) (hy : NoPoly y)
    (hN : C.N ≤ N') (hN' : C.N ≤ h.size → N' ≤ h.size) (hf : b.room.frames + 1 ≤ C.b.room.frames) (hl : W + (b.maxL + 11) + b.room.locals ≤ C.b.room.locals) (hk : k + b.room.cells = k') (hn : n + b.room.slots = n') (hkc : k' ≤ C.b.room.cells) (hnc : n' ≤ C.b.room.slots)
    (hsz : Ls.size = C.b.maxL) (hpd : parseMethodDescriptor y.desc = some ⟨ps, rt⟩) (hlen : argsL.length = ps.length) (has : as = (.ref a :: argsL).toArray) (hst : st = argsL.reverse ++ .ref a :: rest) (hW : (rest.map fun v => v.category).sum ≤ W) (hd : decode C.b.code pc = .ok (.invokeinterface idx cnt, 5)) (hp : pc + 5 = pc')
    (r : ∀ v h' J, h.size ≤ h'.size → Q' v h' J → Wk C h' k' n' J pc' Ls (v.toList ++ rest)) : Wk C h k n I pc Ls st := by
  subst hp has hst hk hn
  intro p e s vm0 m args below meth c T locs k0 S
  refine Wk.behind (b := b) hN rfl rfl r S ?_
  have hZ : C.Z.Warmed39 (s.setVm vm0).vm := S.2.1.2.1
  obtain ⟨cq, kq, qa, qb, qc⟩ := isOf (s := s.setVm vm0) hZ S.2.2.2.2.1 E
  exact S.2.2.2.1.interfaceBackS S.1.1 (own := C.b.y.cls) (xi := y) (y := b.y) S.2.1.1 (mvT hZ w1) (mvT hZ wd) (mvT hZ wf (by simp [Cond.onTables, Cond.keepsFace, Cond.keeps, Cond.steady, Cond.faceAtom, hy.1, hy.2])) (mvT hZ ws) (mvT hZ w2) (mvT hZ wp) (mvT hZ wu) (mvT hZ wk) hy (Cn.back (a0 := a0) (W := W) M hZ S.2.1.2.2.2 S.2.2.2.2.2.1 (hN' S.2.2.2.2.2.2.1) (Nat.le_trans S.1.2.2.2.2.2.2.1 hN) w4 w3 hf hl) qa qb qc (g := mkF m pc Ls (argsL.reverse ++ .ref a :: rest)) rfl (hsz.trans S.1.2.2.1.symm) (Steps.refl _) (argsL := argsL) (rest := rest) (lenOf hpd hlen) rfl (by show 2 * 0 + _ ≤ _; omega) (hb S.1.2.1 hd) (fun _ _ => ⟨rfl, S.2.2.2.2.1, hkc, hnc⟩)
end Kit

theorem w0 {Z : State} {a0 : Array Value} (hw : ∀ d ∈ tables_1, d.before a0 Z = true) : (Jvm.Cond.classLink "com/example/gravamen/gravamen/benchmarks/ResultThenPinLaw" (7 : Nat) "com/example/gravamen/gravamen/benchmarks/Load$Result").before a0 Z = true := hw _ (List.mem_of_getElem? (i := 0) rfl)
theorem w1 {Z : State} {a0 : Array Value} (hw : ∀ d ∈ tables_1, d.before a0 Z = true) : (Jvm.Cond.instantiable "com/example/gravamen/gravamen/benchmarks/Load$Result" (3 : Nat)).before a0 Z = true := hw _ (List.mem_of_getElem? (i := 1) rfl)
theorem w2 {Z : State} {a0 : Array Value} (hw : ∀ d ∈ tables_1, d.before a0 Z = true) : (Jvm.Cond.initialized "com/example/gravamen/gravamen/benchmarks/Load$Result").before a0 Z = true := hw _ (List.mem_of_getElem? (i := 2) rfl)
theorem w3 {Z : State} {a0 : Array Value} (hw : ∀ d ∈ tables_1, d.before a0 Z = true) : (Jvm.Cond.methodLink "com/example/gravamen/gravamen/benchmarks/ResultThenPinLaw" (9 : Nat) ({ cls := "com/example/gravamen/gravamen/benchmarks/Load$Result", name := "<init>", desc := "(JJD)V" } : Jvm.MethodName)).before a0 Z = true := hw _ (List.mem_of_getElem? (i := 3) rfl)
theorem w4 {Z : State} {a0 : Array Value} (hw : ∀ d ∈ tables_1, d.before a0 Z = true) : (Jvm.Cond.instanceMethod ({ cls := "com/example/gravamen/gravamen/benchmarks/Load$Result", name := "<init>", desc := "(JJD)V" } : Jvm.MethodName)).before a0 Z = true := hw _ (List.mem_of_getElem? (i := 4) rfl)
theorem w5 {Z : State} {a0 : Array Value} (hw : ∀ d ∈ tables_1, d.before a0 Z = true) : (Jvm.Cond.code ({ cls := "com/example/gravamen/gravamen/benchmarks/Load$Result", name := "<init>", desc := "(JJD)V" } : Jvm.MethodName) prog_18_method_1_code (7 : Nat) (Option.none : Option Jvm.ClassFile.FieldType)).before a0 Z = true := hw _ (List.mem_of_getElem? (i := 5) rfl)
theorem w6 {Z : State} {a0 : Array Value} (hw : ∀ d ∈ tables_1, d.before a0 Z = true) : (Jvm.Cond.methodLink "com/example/gravamen/gravamen/benchmarks/Load$Result" (1 : Nat) ({ cls := "java/lang/Record", name := "<init>", desc := "()V" } : Jvm.MethodName)).before a0 Z = true := hw _ (List.mem_of_getElem? (i := 6) rfl)
theorem w7 {Z : State} {a0 : Array Value} (hw : ∀ d ∈ tables_1, d.before a0 Z = true) : (Jvm.Cond.instanceMethod ({ cls := "java/lang/Record", name := "<init>", desc := "()V" } : Jvm.MethodName)).before a0 Z = true := hw _ (List.mem_of_getElem? (i := 7) rfl)
theorem w9 {Z : State} {a0 : Array Value} (hw : ∀ d ∈ tables_1, d.before a0 Z = true) : (Jvm.Cond.initialized "java/lang/Record").before a0 Z = true := hw _ (List.mem_of_getElem? (i := 9) rfl)
theorem w10 {Z : State} {a0 : Array Value} (hw : ∀ d ∈ tables_1, d.before a0 Z = true) : (Jvm.Cond.code ({ cls := "java/lang/Record", name := "<init>", desc := "()V" } : Jvm.MethodName) jdk_30_method_1_code (1 : Nat) (Option.none : Option Jvm.ClassFile.FieldType)).before a0 Z = true := hw _ (List.mem_of_getElem? (i := 10) rfl)
theorem w11 {Z : State} {a0 : Array Value} (hw : ∀ d ∈ tables_1, d.before a0 Z = true) : (Jvm.Cond.methodLink "java/lang/Record" (1 : Nat) ({ cls := "java/lang/Object", name := "<init>", desc := "()V" } : Jvm.MethodName)).before a0 Z = true := hw _ (List.mem_of_getElem? (i := 11) rfl)
theorem w12 {Z : State} {a0 : Array Value} (hw : ∀ d ∈ tables_1, d.before a0 Z = true) : (Jvm.Cond.instanceMethod ({ cls := "java/lang/Object", name := "<init>", desc := "()V" } : Jvm.MethodName)).before a0 Z = true := hw _ (List.mem_of_getElem? (i := 12) rfl)
theorem w13 {Z : State} {a0 : Array Value} (hw : ∀ d ∈ tables_1, d.before a0 Z = true) : (Jvm.Cond.code ({ cls := "java/lang/Object", name := "<init>", desc := "()V" } : Jvm.MethodName) object_method_1_code (1 : Nat) (Option.none : Option Jvm.ClassFile.FieldType)).before a0 Z = true := hw _ (List.mem_of_getElem? (i := 13) rfl)
theorem w14 {Z : State} {a0 : Array Value} (hw : ∀ d ∈ tables_1, d.before a0 Z = true) : (Jvm.Cond.fieldLink "com/example/gravamen/gravamen/benchmarks/Load$Result" (7 : Nat) "com/example/gravamen/gravamen/benchmarks/Load$Result" "answered" "J").before a0 Z = true := hw _ (List.mem_of_getElem? (i := 14) rfl)
theorem w15 {Z : State} {a0 : Array Value} (hw : ∀ d ∈ tables_1, d.before a0 Z = true) : (Jvm.Cond.laysFinal "com/example/gravamen/gravamen/benchmarks/Load$Result" "com/example/gravamen/gravamen/benchmarks/Load$Result" "answered" "J").before a0 Z = true := hw _ (List.mem_of_getElem? (i := 15) rfl)
theorem w16 {Z : State} {a0 : Array Value} (hw : ∀ d ∈ tables_1, d.before a0 Z = true) : (Jvm.Cond.fieldLink "com/example/gravamen/gravamen/benchmarks/Load$Result" (13 : Nat) "com/example/gravamen/gravamen/benchmarks/Load$Result" "resets" "J").before a0 Z = true := hw _ (List.mem_of_getElem? (i := 16) rfl)
theorem w17 {Z : State} {a0 : Array Value} (hw : ∀ d ∈ tables_1, d.before a0 Z = true) : (Jvm.Cond.laysFinal "com/example/gravamen/gravamen/benchmarks/Load$Result" "com/example/gravamen/gravamen/benchmarks/Load$Result" "resets" "J").before a0 Z = true := hw _ (List.mem_of_getElem? (i := 17) rfl)
theorem w18 {Z : State} {a0 : Array Value} (hw : ∀ d ∈ tables_1, d.before a0 Z = true) : (Jvm.Cond.fieldLink "com/example/gravamen/gravamen/benchmarks/Load$Result" (16 : Nat) "com/example/gravamen/gravamen/benchmarks/Load$Result" "seconds" "D").before a0 Z = true := hw _ (List.mem_of_getElem? (i := 18) rfl)
theorem w19 {Z : State} {a0 : Array Value} (hw : ∀ d ∈ tables_1, d.before a0 Z = true) : (Jvm.Cond.laysFinal "com/example/gravamen/gravamen/benchmarks/Load$Result" "com/example/gravamen/gravamen/benchmarks/Load$Result" "seconds" "D").before a0 Z = true := hw _ (List.mem_of_getElem? (i := 19) rfl)
theorem w20 {Z : State} {a0 : Array Value} (hw : ∀ d ∈ tables_1, d.before a0 Z = true) : (Jvm.Cond.methodLink "com/example/gravamen/gravamen/benchmarks/ResultThenPinLaw" (12 : Nat) ({ cls := "com/example/gravamen/gravamen/benchmarks/Load$Result", name := "then", desc := "(Lcom/example/gravamen/gravamen/benchmarks/Load$Result;)Lcom/example/gravamen/gravamen/benchmarks/Load$Result;" } : Jvm.MethodName)).before a0 Z = true := hw _ (List.mem_of_getElem? (i := 20) rfl)
theorem w21 {Z : State} {a0 : Array Value} (hw : ∀ d ∈ tables_1, d.before a0 Z = true) : (Jvm.Cond.declares ({ cls := "com/example/gravamen/gravamen/benchmarks/Load$Result", name := "then", desc := "(Lcom/example/gravamen/gravamen/benchmarks/Load$Result;)Lcom/example/gravamen/gravamen/benchmarks/Load$Result;" } : Jvm.MethodName)).before a0 Z = true := hw _ (List.mem_of_getElem? (i := 21) rfl)
theorem w22 {Z : State} {a0 : Array Value} (hw : ∀ d ∈ tables_1, d.before a0 Z = true) : (Jvm.Cond.instanceMethod ({ cls := "com/example/gravamen/gravamen/benchmarks/Load$Result", name := "then", desc := "(Lcom/example/gravamen/gravamen/benchmarks/Load$Result;)Lcom/example/gravamen/gravamen/benchmarks/Load$Result;" } : Jvm.MethodName)).before a0 Z = true := hw _ (List.mem_of_getElem? (i := 22) rfl)
theorem w23 {Z : State} {a0 : Array Value} (hw : ∀ d ∈ tables_1, d.before a0 Z = true) : (Jvm.Cond.selects "com/example/gravamen/gravamen/benchmarks/Load$Result" ({ cls := "com/example/gravamen/gravamen/benchmarks/Load$Result", name := "then", desc := "(Lcom/example/gravamen/gravamen/benchmarks/Load$Result;)Lcom/example/gravamen/gravamen/benchmarks/Load$Result;" } : Jvm.MethodName) ({ cls := "com/example/gravamen/gravamen/benchmarks/Load$Result", name := "then", desc := "(Lcom/example/gravamen/gravamen/benchmarks/Load$Result;)Lcom/example/gravamen/gravamen/benchmarks/Load$Result;" } : Jvm.MethodName)).before a0 Z = true := hw _ (List.mem_of_getElem? (i := 23) rfl)
theorem w24 {Z : State} {a0 : Array Value} (hw : ∀ d ∈ tables_1, d.before a0 Z = true) : (Jvm.Cond.code ({ cls := "com/example/gravamen/gravamen/benchmarks/Load$Result", name := "then", desc := "(Lcom/example/gravamen/gravamen/benchmarks/Load$Result;)Lcom/example/gravamen/gravamen/benchmarks/Load$Result;" } : Jvm.MethodName) prog_18_method_4_code (2 : Nat) (Option.some (Jvm.ClassFile.FieldType.object "com/example/gravamen/gravamen/benchmarks/Load$Result"))).before a0 Z = true := hw _ (List.mem_of_getElem? (i := 24) rfl)
theorem w25 {Z : State} {a0 : Array Value} (hw : ∀ d ∈ tables_1, d.before a0 Z = true) : (Jvm.Cond.classLink "com/example/gravamen/gravamen/benchmarks/Load$Result" (8 : Nat) "com/example/gravamen/gravamen/benchmarks/Load$Result").before a0 Z = true := hw _ (List.mem_of_getElem? (i := 25) rfl)
theorem w26 {Z : State} {a0 : Array Value} (hw : ∀ d ∈ tables_1, d.before a0 Z = true) : (Jvm.Cond.methodLink "com/example/gravamen/gravamen/benchmarks/Load$Result" (20 : Nat) ({ cls := "com/example/gravamen/gravamen/benchmarks/Load$Result", name := "<init>", desc := "(JJD)V" } : Jvm.MethodName)).before a0 Z = true := hw _ (List.mem_of_getElem? (i := 26) rfl)
theorem w27 {Z : State} {a0 : Array Value} (hw : ∀ d ∈ tables_1, d.before a0 Z = true) : (Jvm.Cond.methodLink "com/example/gravamen/gravamen/benchmarks/ResultThenPinLaw" (16 : Nat) ({ cls := "com/example/gravamen/gravamen/benchmarks/Load$Result", name := "answered", desc := "()J" } : Jvm.MethodName)).before a0 Z = true := hw _ (List.mem_of_getElem? (i := 27) rfl)
theorem w28 {Z : State} {a0 : Array Value} (hw : ∀ d ∈ tables_1, d.before a0 Z = true) : (Jvm.Cond.declares ({ cls := "com/example/gravamen/gravamen/benchmarks/Load$Result", name := "answered", desc := "()J" } : Jvm.MethodName)).before a0 Z = true := hw _ (List.mem_of_getElem? (i := 28) rfl)
theorem w29 {Z : State} {a0 : Array Value} (hw : ∀ d ∈ tables_1, d.before a0 Z = true) : (Jvm.Cond.instanceMethod ({ cls := "com/example/gravamen/gravamen/benchmarks/Load$Result", name := "answered", desc := "()J" } : Jvm.MethodName)).before a0 Z = true := hw _ (List.mem_of_getElem? (i := 29) rfl)
theorem w30 {Z : State} {a0 : Array Value} (hw : ∀ d ∈ tables_1, d.before a0 Z = true) : (Jvm.Cond.selects "com/example/gravamen/gravamen/benchmarks/Load$Result" ({ cls := "com/example/gravamen/gravamen/benchmarks/Load$Result", name := "answered", desc := "()J" } : Jvm.MethodName) ({ cls := "com/example/gravamen/gravamen/benchmarks/Load$Result", name := "answered", desc := "()J" } : Jvm.MethodName)).before a0 Z = true := hw _ (List.mem_of_getElem? (i := 30) rfl)
theorem w31 {Z : State} {a0 : Array Value} (hw : ∀ d ∈ tables_1, d.before a0 Z = true) : (Jvm.Cond.code ({ cls := "com/example/gravamen/gravamen/benchmarks/Load$Result", name := "answered", desc := "()J" } : Jvm.MethodName) prog_18_method_8_code (1 : Nat) (Option.some Jvm.ClassFile.FieldType.long)).before a0 Z = true := hw _ (List.mem_of_getElem? (i := 31) rfl)
theorem w32 {Z : State} {a0 : Array Value} (hw : ∀ d ∈ tables_1, d.before a0 Z = true) : (Jvm.Cond.methodLink "com/example/gravamen/gravamen/benchmarks/ResultThenPinLaw" (20 : Nat) ({ cls := "com/example/gravamen/gravamen/benchmarks/Load$Result", name := "resets", desc := "()J" } : Jvm.MethodName)).before a0 Z = true := hw _ (List.mem_of_getElem? (i := 32) rfl)
theorem w33 {Z : State} {a0 : Array Value} (hw : ∀ d ∈ tables_1, d.before a0 Z = true) : (Jvm.Cond.declares ({ cls := "com/example/gravamen/gravamen/benchmarks/Load$Result", name := "resets", desc := "()J" } : Jvm.MethodName)).before a0 Z = true := hw _ (List.mem_of_getElem? (i := 33) rfl)
theorem w34 {Z : State} {a0 : Array Value} (hw : ∀ d ∈ tables_1, d.before a0 Z = true) : (Jvm.Cond.instanceMethod ({ cls := "com/example/gravamen/gravamen/benchmarks/Load$Result", name := "resets", desc := "()J" } : Jvm.MethodName)).before a0 Z = true := hw _ (List.mem_of_getElem? (i := 34) rfl)
theorem w35 {Z : State} {a0 : Array Value} (hw : ∀ d ∈ tables_1, d.before a0 Z = true) : (Jvm.Cond.selects "com/example/gravamen/gravamen/benchmarks/Load$Result" ({ cls := "com/example/gravamen/gravamen/benchmarks/Load$Result", name := "resets", desc := "()J" } : Jvm.MethodName) ({ cls := "com/example/gravamen/gravamen/benchmarks/Load$Result", name := "resets", desc := "()J" } : Jvm.MethodName)).before a0 Z = true := hw _ (List.mem_of_getElem? (i := 35) rfl)
theorem w36 {Z : State} {a0 : Array Value} (hw : ∀ d ∈ tables_1, d.before a0 Z = true) : (Jvm.Cond.code ({ cls := "com/example/gravamen/gravamen/benchmarks/Load$Result", name := "resets", desc := "()J" } : Jvm.MethodName) prog_18_method_9_code (1 : Nat) (Option.some Jvm.ClassFile.FieldType.long)).before a0 Z = true := hw _ (List.mem_of_getElem? (i := 36) rfl)
theorem w37 {Z : State} {a0 : Array Value} (hw : ∀ d ∈ tables_1, d.before a0 Z = true) : (Jvm.Cond.methodLink "com/example/gravamen/gravamen/benchmarks/ResultThenPinLaw" (23 : Nat) ({ cls := "com/example/gravamen/gravamen/benchmarks/Load$Result", name := "seconds", desc := "()D" } : Jvm.MethodName)).before a0 Z = true := hw _ (List.mem_of_getElem? (i := 37) rfl)
theorem w38 {Z : State} {a0 : Array Value} (hw : ∀ d ∈ tables_1, d.before a0 Z = true) : (Jvm.Cond.declares ({ cls := "com/example/gravamen/gravamen/benchmarks/Load$Result", name := "seconds", desc := "()D" } : Jvm.MethodName)).before a0 Z = true := hw _ (List.mem_of_getElem? (i := 38) rfl)
theorem w39 {Z : State} {a0 : Array Value} (hw : ∀ d ∈ tables_1, d.before a0 Z = true) : (Jvm.Cond.instanceMethod ({ cls := "com/example/gravamen/gravamen/benchmarks/Load$Result", name := "seconds", desc := "()D" } : Jvm.MethodName)).before a0 Z = true := hw _ (List.mem_of_getElem? (i := 39) rfl)
theorem w40 {Z : State} {a0 : Array Value} (hw : ∀ d ∈ tables_1, d.before a0 Z = true) : (Jvm.Cond.selects "com/example/gravamen/gravamen/benchmarks/Load$Result" ({ cls := "com/example/gravamen/gravamen/benchmarks/Load$Result", name := "seconds", desc := "()D" } : Jvm.MethodName) ({ cls := "com/example/gravamen/gravamen/benchmarks/Load$Result", name := "seconds", desc := "()D" } : Jvm.MethodName)).before a0 Z = true := hw _ (List.mem_of_getElem? (i := 40) rfl)
theorem w41 {Z : State} {a0 : Array Value} (hw : ∀ d ∈ tables_1, d.before a0 Z = true) : (Jvm.Cond.code ({ cls := "com/example/gravamen/gravamen/benchmarks/Load$Result", name := "seconds", desc := "()D" } : Jvm.MethodName) prog_18_method_10_code (1 : Nat) (Option.some Jvm.ClassFile.FieldType.double)).before a0 Z = true := hw _ (List.mem_of_getElem? (i := 41) rfl)
theorem pd0 : parseMethodDescriptor "()V" = some ⟨[], none⟩ := by decide +kernel
theorem pd1 : parseMethodDescriptor "(JJD)V" = some ⟨[.long, .long, .double], none⟩ := by decide +kernel
theorem pd2 : parseMethodDescriptor "(Lcom/example/gravamen/gravamen/benchmarks/Load$Result;)Lcom/example/gravamen/gravamen/benchmarks/Load$Result;" = some ⟨[(.object "com/example/gravamen/gravamen/benchmarks/Load$Result")], some (.object "com/example/gravamen/gravamen/benchmarks/Load$Result")⟩ := by decide +kernel
theorem pd3 : parseMethodDescriptor "()J" = some ⟨[], some .long⟩ := by decide +kernel
theorem pd4 : parseMethodDescriptor "()D" = some ⟨[], some .double⟩ := by decide +kernel
theorem d1_0 : decode prog_18_method_1_code 0 = .ok (.aload_n 0, 1) := by decide +kernel
theorem d1_1 : decode prog_18_method_1_code 1 = .ok (.invokespecial 1, 3) := by decide +kernel
theorem d1_4 : decode prog_18_method_1_code 4 = .ok (.aload_n 0, 1) := by decide +kernel
theorem d1_5 : decode prog_18_method_1_code 5 = .ok (.lload_n 1, 1) := by decide +kernel
theorem d1_6 : decode prog_18_method_1_code 6 = .ok (.putfield 7, 3) := by decide +kernel
theorem d1_9 : decode prog_18_method_1_code 9 = .ok (.aload_n 0, 1) := by decide +kernel
theorem d1_10 : decode prog_18_method_1_code 10 = .ok (.lload_n 3, 1) := by decide +kernel
theorem d1_11 : decode prog_18_method_1_code 11 = .ok (.putfield 13, 3) := by decide +kernel
theorem d1_14 : decode prog_18_method_1_code 14 = .ok (.aload_n 0, 1) := by decide +kernel
theorem d1_15 : decode prog_18_method_1_code 15 = .ok (.dload 5, 2) := by decide +kernel
theorem d1_17 : decode prog_18_method_1_code 17 = .ok (.putfield 16, 3) := by decide +kernel
theorem d1_20 : decode prog_18_method_1_code 20 = .ok (.return_, 1) := by decide +kernel
theorem d2_0 : decode jdk_30_method_1_code 0 = .ok (.aload_n 0, 1) := by decide +kernel
theorem d2_1 : decode jdk_30_method_1_code 1 = .ok (.invokespecial 1, 3) := by decide +kernel
theorem d2_4 : decode jdk_30_method_1_code 4 = .ok (.return_, 1) := by decide +kernel
theorem d4_0 : decode prog_18_method_4_code 0 = .ok (.new 8, 3) := by decide +kernel
theorem d4_3 : decode prog_18_method_4_code 3 = .ok (.dup, 1) := by decide +kernel
theorem d4_4 : decode prog_18_method_4_code 4 = .ok (.aload_n 0, 1) := by decide +kernel
theorem d4_5 : decode prog_18_method_4_code 5 = .ok (.getfield 7, 3) := by decide +kernel
theorem d4_8 : decode prog_18_method_4_code 8 = .ok (.aload_n 1, 1) := by decide +kernel
theorem d4_9 : decode prog_18_method_4_code 9 = .ok (.getfield 7, 3) := by decide +kernel
theorem d4_12 : decode prog_18_method_4_code 12 = .ok (.ladd, 1) := by decide +kernel
theorem d4_13 : decode prog_18_method_4_code 13 = .ok (.aload_n 0, 1) := by decide +kernel
theorem d4_14 : decode prog_18_method_4_code 14 = .ok (.getfield 13, 3) := by decide +kernel
theorem d4_17 : decode prog_18_method_4_code 17 = .ok (.aload_n 1, 1) := by decide +kernel
theorem d4_18 : decode prog_18_method_4_code 18 = .ok (.getfield 13, 3) := by decide +kernel
theorem d4_21 : decode prog_18_method_4_code 21 = .ok (.ladd, 1) := by decide +kernel
theorem d4_22 : decode prog_18_method_4_code 22 = .ok (.aload_n 0, 1) := by decide +kernel
theorem d4_23 : decode prog_18_method_4_code 23 = .ok (.getfield 16, 3) := by decide +kernel
theorem d4_26 : decode prog_18_method_4_code 26 = .ok (.aload_n 1, 1) := by decide +kernel
theorem d4_27 : decode prog_18_method_4_code 27 = .ok (.getfield 16, 3) := by decide +kernel
theorem d4_30 : decode prog_18_method_4_code 30 = .ok (.dadd, 1) := by decide +kernel
theorem d4_31 : decode prog_18_method_4_code 31 = .ok (.invokespecial 20, 3) := by decide +kernel
theorem d4_34 : decode prog_18_method_4_code 34 = .ok (.areturn, 1) := by decide +kernel
theorem d5_0 : decode prog_18_method_8_code 0 = .ok (.aload_n 0, 1) := by decide +kernel
theorem d5_1 : decode prog_18_method_8_code 1 = .ok (.getfield 7, 3) := by decide +kernel
theorem d5_4 : decode prog_18_method_8_code 4 = .ok (.lreturn, 1) := by decide +kernel
theorem d6_0 : decode prog_18_method_9_code 0 = .ok (.aload_n 0, 1) := by decide +kernel
theorem d6_1 : decode prog_18_method_9_code 1 = .ok (.getfield 13, 3) := by decide +kernel
theorem d6_4 : decode prog_18_method_9_code 4 = .ok (.lreturn, 1) := by decide +kernel
theorem d7_0 : decode prog_18_method_10_code 0 = .ok (.aload_n 0, 1) := by decide +kernel
theorem d7_1 : decode prog_18_method_10_code 1 = .ok (.getfield 16, 3) := by decide +kernel
theorem d7_4 : decode prog_18_method_10_code 4 = .ok (.dreturn, 1) := by decide +kernel
theorem own_b (u : Int32) : B53 u.toInt64 := by
  have h1 := rng32 u
  have h2 := c_i2l u
  unfold B53
  omega
theorem own_sum (u v : Int32) : FP.dadd (FP.i2d u) (FP.i2d v) = FP.l2d (u.toInt64 + v.toInt64) := by
  rw [i2d_w, i2d_w]
  exact dadd_w (own_b u) (own_b v)
theorem ef_rec (m : MethodId) (x0 : Addr) : entryFrame m #[(.ref x0)] 1 = mkF m 0 #[.val (.ref x0)] [] := by first | (simp [entryFrame, mkF, argsToLocals, Value.category]; done) | rfl
abbrev b_rec : Bdy := ((⟨"java/lang/Record", "<init>", "()V"⟩ : MethodName), jdk_30_method_1_code, 1, (Option.none : Option Jvm.ClassFile.FieldType), ({ frames := 1, cells := 0, slots := 0, locals := 12 } : Room))
def Q_rec (Z : State) (N : Nat) (a : Addr) (h0 : Heap) (I : Lts) (v : Option Value) (h : Heap) (J : Lts) : Prop := I = J ∧ v = none ∧ h0 = h
set_option maxRecDepth 65536 in
set_option maxHeartbeats 40000000 in
theorem rm_rec {l : Launch} {Z : State} {a0 : Array Value} {N : Nat} (hw : ∀ d ∈ tables_1, d.before a0 Z = true) (a : Addr) (h0 : Heap) (I : Lts) :
    Cn l Z N b_rec #[(.ref a)] h0 I (Q_rec Z N a h0 I) := by
  refine Cn.of_wk (Ls := #[.val (.ref a)]) (plainFor_of_name (by first | (simp [plainName, overriddenIn]; done) | decide +kernel)) (fun m => ef_rec m a) ?_
  refine Wk.aloadN (pc' := 1) d2_0 rfl rfl rfl ?_
  refine Wk.initO (a0 := a0) (pc' := 4) (W := 0) (w11 hw) (w12 hw) (w13 hw) rfl d2_1 rfl (Nat.le_of_ble_eq_true rfl) (Nat.le_of_ble_eq_true rfl) (Nat.le_of_ble_eq_true rfl) ?_
  exact Wk.return_ rfl d2_4 (Nat.le_of_ble_eq_true rfl) (Nat.le_of_ble_eq_true rfl) ⟨rfl, rfl, rfl⟩
theorem ef_ini (m : MethodId) (x0 : Addr) (x1 : Int64) (x2 : Int64) (x3 : UInt64) : entryFrame m #[(.ref x0), (.long x1), (.long x2), (.double x3)] 7 = mkF m 0 #[.val (.ref x0), .val (.long x1), .second, .val (.long x2), .second, .val (.double x3), .second] [] := by first | (simp [entryFrame, mkF, argsToLocals, Value.category]; done) | rfl
abbrev b_ini : Bdy := ((⟨"com/example/gravamen/gravamen/benchmarks/Load$Result", "<init>", "(JJD)V"⟩ : MethodName), prog_18_method_1_code, 7, (Option.none : Option Jvm.ClassFile.FieldType), ({ frames := 2, cells := 0, slots := 0, locals := 24 } : Room))
def Q_ini (Z : State) (N : Nat) (a : Addr) (u : Int64) (y : Int64) (z : UInt64) (h0 : Heap) (I : Lts) (v : Option Value) (h : Heap) (J : Lts) : Prop := I = J ∧ v = none ∧ Keep h0 h [a] ∧ Fld Z h a "com/example/gravamen/gravamen/benchmarks/Load$Result" "answered" "J" (.long u) ∧ Fld Z h a "com/example/gravamen/gravamen/benchmarks/Load$Result" "resets" "J" (.long y) ∧ Fld Z h a "com/example/gravamen/gravamen/benchmarks/Load$Result" "seconds" "D" (.double z)
set_option maxRecDepth 65536 in
set_option maxHeartbeats 40000000 in
theorem rm_ini {l : Launch} {Z : State} {a0 : Array Value} {N : Nat} (hw : ∀ d ∈ tables_1, d.before a0 Z = true) (a : Addr) (u : Int64) (y : Int64) (z : UInt64) (h0 : Heap) (I : Lts) (P0 : Exa Z h0 a "com/example/gravamen/gravamen/benchmarks/Load$Result") (P1 : Fld Z h0 a "com/example/gravamen/gravamen/benchmarks/Load$Result" "answered" "J" (.long (0 : Int64))) (P2 : Fld Z h0 a "com/example/gravamen/gravamen/benchmarks/Load$Result" "resets" "J" (.long (0 : Int64))) (P3 : Fld Z h0 a "com/example/gravamen/gravamen/benchmarks/Load$Result" "seconds" "D" (.double (0 : UInt64))) (P4 : N ≤ a) :
    Cn l Z N b_ini #[(.ref a), (.long u), (.long y), (.double z)] h0 I (Q_ini Z N a u y z h0 I) := by
  refine Cn.of_wk (Ls := #[.val (.ref a), .val (.long u), .second, .val (.long y), .second, .val (.double z), .second]) (plainFor_of_name (by first | (simp [plainName, overriddenIn]; done) | decide +kernel)) (fun m => ef_ini m a u y z) ?_
  refine Wk.aloadN (pc' := 1) d1_0 rfl rfl rfl ?_
  refine Wk.callN (a0 := a0) (pc' := 4) (k' := 0) (n' := 0) (W := 0) (b := b_rec) (argsL := []) (rest := []) (rm_rec hw a h0 I ) rfl rfl (w6 hw) (w7 hw) (w9 hw) (w10 hw) (by decide) (Nat.le_refl _) id (Nat.le_of_ble_eq_true rfl) (Nat.le_of_ble_eq_true rfl) rfl rfl (Nat.le_of_ble_eq_true rfl) (Nat.le_of_ble_eq_true rfl) rfl pd0 rfl rfl rfl (Nat.le_of_ble_eq_true rfl) d1_1 rfl fun v1 h2 J3 hs4 hQ5 => ?_
  obtain ⟨rfl, rfl, rfl⟩ := hQ5
  show Wk _ h0 0 0 I 4 #[.val (.ref a), .val (.long u), .second, .val (.long y), .second, .val (.double z), .second] []
  refine Wk.aloadN (pc' := 5) d1_4 rfl rfl rfl ?_
  refine Wk.lloadN (pc' := 6) d1_5 rfl rfl ?_
  refine Wk.putF (a0 := a0) (pc' := 9) (host := "") (Or.inl (w14 hw)) Via.refl P4 P1 P0 (Or.inr ⟨(w15 hw), rfl, rfl⟩) (w1 hw) (ty := .long) (by decide) rfl rfl d1_6 rfl fun h6 W7 => ?_
  have F8 := P1.same W7
  refine Wk.aloadN (pc' := 10) d1_9 rfl rfl rfl ?_
  refine Wk.lloadN (pc' := 11) d1_10 rfl rfl ?_
  have f9 := (P0.wr W7)
  have f10 := (P2.other W7 (Or.inr (slot_ne (Or.inr (w17 hw)) (Or.inr (w15 hw)) (by decide) (t := .long) (t' := .long) (by decide) (by decide))))
  refine Wk.putF (a0 := a0) (pc' := 14) (host := "") (Or.inl (w16 hw)) Via.refl P4 f10 f9 (Or.inr ⟨(w17 hw), rfl, rfl⟩) (w1 hw) (ty := .long) (by decide) rfl rfl d1_11 rfl fun h11 W12 => ?_
  have F13 := f10.same W12
  refine Wk.aloadN (pc' := 15) d1_14 rfl rfl rfl ?_
  refine Wk.dload (pc' := 17) d1_15 rfl rfl ?_
  have f14 := (f9.wr W12)
  have f15 := ((P3.other W7 (Or.inr (slot_ne (Or.inr (w19 hw)) (Or.inr (w15 hw)) (by decide) (t := .double) (t' := .long) (by decide) (by decide)))).other W12 (Or.inr (slot_ne (Or.inr (w19 hw)) (Or.inr (w17 hw)) (by decide) (t := .double) (t' := .long) (by decide) (by decide))))
  refine Wk.putF (a0 := a0) (pc' := 20) (host := "") (Or.inl (w18 hw)) Via.refl P4 f15 f14 (Or.inr ⟨(w19 hw), rfl, rfl⟩) (w1 hw) (ty := .double) (by decide) rfl rfl d1_17 rfl fun h16 W17 => ?_
  have F18 := f15.same W17
  have f19 := ((F8.other W12 (Or.inr (slot_ne (Or.inr (w15 hw)) (Or.inr (w17 hw)) (by decide) (t := .long) (t' := .long) (by decide) (by decide)))).other W17 (Or.inr (slot_ne (Or.inr (w15 hw)) (Or.inr (w19 hw)) (by decide) (t := .long) (t' := .double) (by decide) (by decide))))
  have f20 := (F13.other W17 (Or.inr (slot_ne (Or.inr (w17 hw)) (Or.inr (w19 hw)) (by decide) (t := .long) (t' := .double) (by decide) (by decide))))
  exact Wk.return_ rfl d1_20 (Nat.le_of_ble_eq_true rfl) (Nat.le_of_ble_eq_true rfl) ⟨rfl, rfl, ((((Keep.refl h0 [a]).wr W7 (Or.inl (by simp))).wr W12 (Or.inl (by simp))).wr W17 (Or.inl (by simp))), f19, f20, F18⟩
theorem ef_ans (m : MethodId) (x0 : Addr) : entryFrame m #[(.ref x0)] 1 = mkF m 0 #[.val (.ref x0)] [] := by first | (simp [entryFrame, mkF, argsToLocals, Value.category]; done) | rfl
abbrev b_ans : Bdy := ((⟨"com/example/gravamen/gravamen/benchmarks/Load$Result", "answered", "()J"⟩ : MethodName), prog_18_method_8_code, 1, (Option.some Jvm.ClassFile.FieldType.long), ({ frames := 0, cells := 0, slots := 0, locals := 0 } : Room))
def Q_ans (Z : State) (N : Nat) (a : Addr) (u : Int64) (h0 : Heap) (I : Lts) (v : Option Value) (h : Heap) (J : Lts) : Prop := I = J ∧ v = some (.long u) ∧ h0 = h
set_option maxRecDepth 65536 in
set_option maxHeartbeats 40000000 in
theorem rm_ans {l : Launch} {Z : State} {a0 : Array Value} {N : Nat} (hw : ∀ d ∈ tables_1, d.before a0 Z = true) (a : Addr) (u : Int64) (h0 : Heap) (I : Lts) (P0 : Fld Z h0 a "com/example/gravamen/gravamen/benchmarks/Load$Result" "answered" "J" (.long u)) :
    Cn l Z N b_ans #[(.ref a)] h0 I (Q_ans Z N a u h0 I) := by
  refine Cn.of_wk (Ls := #[.val (.ref a)]) (plainFor_of_name (by first | (simp [plainName, overriddenIn]; done) | decide +kernel)) (fun m => ef_ans m a) ?_
  refine Wk.aloadN (pc' := 1) d5_0 rfl rfl rfl ?_
  refine Wk.getF (a0 := a0) (pc' := 4) (host := "") (Or.inl (w14 hw)) Via.refl P0 d5_1 rfl ?_
  exact Wk.lreturn rfl d5_4 (Nat.le_of_ble_eq_true rfl) (Nat.le_of_ble_eq_true rfl) ⟨rfl, rfl, rfl⟩
theorem ef_res (m : MethodId) (x0 : Addr) : entryFrame m #[(.ref x0)] 1 = mkF m 0 #[.val (.ref x0)] [] := by first | (simp [entryFrame, mkF, argsToLocals, Value.category]; done) | rfl
abbrev b_res : Bdy := ((⟨"com/example/gravamen/gravamen/benchmarks/Load$Result", "resets", "()J"⟩ : MethodName), prog_18_method_9_code, 1, (Option.some Jvm.ClassFile.FieldType.long), ({ frames := 0, cells := 0, slots := 0, locals := 0 } : Room))
def Q_res (Z : State) (N : Nat) (a : Addr) (u : Int64) (h0 : Heap) (I : Lts) (v : Option Value) (h : Heap) (J : Lts) : Prop := I = J ∧ v = some (.long u) ∧ h0 = h
set_option maxRecDepth 65536 in
set_option maxHeartbeats 40000000 in
theorem rm_res {l : Launch} {Z : State} {a0 : Array Value} {N : Nat} (hw : ∀ d ∈ tables_1, d.before a0 Z = true) (a : Addr) (u : Int64) (h0 : Heap) (I : Lts) (P0 : Fld Z h0 a "com/example/gravamen/gravamen/benchmarks/Load$Result" "resets" "J" (.long u)) :
    Cn l Z N b_res #[(.ref a)] h0 I (Q_res Z N a u h0 I) := by
  refine Cn.of_wk (Ls := #[.val (.ref a)]) (plainFor_of_name (by first | (simp [plainName, overriddenIn]; done) | decide +kernel)) (fun m => ef_res m a) ?_
  refine Wk.aloadN (pc' := 1) d6_0 rfl rfl rfl ?_
  refine Wk.getF (a0 := a0) (pc' := 4) (host := "") (Or.inl (w16 hw)) Via.refl P0 d6_1 rfl ?_
  exact Wk.lreturn rfl d6_4 (Nat.le_of_ble_eq_true rfl) (Nat.le_of_ble_eq_true rfl) ⟨rfl, rfl, rfl⟩
theorem ef_sec (m : MethodId) (x0 : Addr) : entryFrame m #[(.ref x0)] 1 = mkF m 0 #[.val (.ref x0)] [] := by first | (simp [entryFrame, mkF, argsToLocals, Value.category]; done) | rfl
abbrev b_sec : Bdy := ((⟨"com/example/gravamen/gravamen/benchmarks/Load$Result", "seconds", "()D"⟩ : MethodName), prog_18_method_10_code, 1, (Option.some Jvm.ClassFile.FieldType.double), ({ frames := 0, cells := 0, slots := 0, locals := 0 } : Room))
def Q_sec (Z : State) (N : Nat) (a : Addr) (u : UInt64) (h0 : Heap) (I : Lts) (v : Option Value) (h : Heap) (J : Lts) : Prop := I = J ∧ v = some (.double u) ∧ h0 = h
set_option maxRecDepth 65536 in
set_option maxHeartbeats 40000000 in
theorem rm_sec {l : Launch} {Z : State} {a0 : Array Value} {N : Nat} (hw : ∀ d ∈ tables_1, d.before a0 Z = true) (a : Addr) (u : UInt64) (h0 : Heap) (I : Lts) (P0 : Fld Z h0 a "com/example/gravamen/gravamen/benchmarks/Load$Result" "seconds" "D" (.double u)) :
    Cn l Z N b_sec #[(.ref a)] h0 I (Q_sec Z N a u h0 I) := by
  refine Cn.of_wk (Ls := #[.val (.ref a)]) (plainFor_of_name (by first | (simp [plainName, overriddenIn]; done) | decide +kernel)) (fun m => ef_sec m a) ?_
  refine Wk.aloadN (pc' := 1) d7_0 rfl rfl rfl ?_
  refine Wk.getF (a0 := a0) (pc' := 4) (host := "") (Or.inl (w18 hw)) Via.refl P0 d7_1 rfl ?_
  exact Wk.dreturn rfl d7_4 (Nat.le_of_ble_eq_true rfl) (Nat.le_of_ble_eq_true rfl) ⟨rfl, rfl, rfl⟩
theorem ef_thn (m : MethodId) (x0 : Addr) (x1 : Addr) : entryFrame m #[(.ref x0), (.ref x1)] 2 = mkF m 0 #[.val (.ref x0), .val (.ref x1)] [] := by first | (simp [entryFrame, mkF, argsToLocals, Value.category]; done) | rfl
abbrev b_thn : Bdy := ((⟨"com/example/gravamen/gravamen/benchmarks/Load$Result", "then", "(Lcom/example/gravamen/gravamen/benchmarks/Load$Result;)Lcom/example/gravamen/gravamen/benchmarks/Load$Result;"⟩ : MethodName), prog_18_method_4_code, 2, (Option.some (Jvm.ClassFile.FieldType.object "com/example/gravamen/gravamen/benchmarks/Load$Result")), ({ frames := 3, cells := 1, slots := 3, locals := 60 } : Room))
def Q_thn (Z : State) (N : Nat) (a : Addr) (b : Addr) (u : Int64) (u' : Int64) (y : Int64) (y' : Int64) (z : UInt64) (z' : UInt64) (h0 : Heap) (I : Lts) (v : Option Value) (h : Heap) (J : Lts) : Prop := ∃ r : Addr, I = J ∧ v = some (.ref r) ∧ Ext h0 h ∧ h0.size ≤ r ∧ N ≤ r ∧ Exa Z h r "com/example/gravamen/gravamen/benchmarks/Load$Result" ∧ Fld Z h r "com/example/gravamen/gravamen/benchmarks/Load$Result" "answered" "J" (.long (u + u')) ∧ Fld Z h r "com/example/gravamen/gravamen/benchmarks/Load$Result" "resets" "J" (.long (y + y')) ∧ Fld Z h r "com/example/gravamen/gravamen/benchmarks/Load$Result" "seconds" "D" (.double (FP.dadd z z'))
set_option maxRecDepth 65536 in
set_option maxHeartbeats 40000000 in
theorem rm_thn {l : Launch} {Z : State} {a0 : Array Value} {N : Nat} (hw : ∀ d ∈ tables_1, d.before a0 Z = true) (a : Addr) (b : Addr) (u : Int64) (u' : Int64) (y : Int64) (y' : Int64) (z : UInt64) (z' : UInt64) (h0 : Heap) (I : Lts) (P0 : Fld Z h0 a "com/example/gravamen/gravamen/benchmarks/Load$Result" "answered" "J" (.long u)) (P1 : Fld Z h0 b "com/example/gravamen/gravamen/benchmarks/Load$Result" "answered" "J" (.long u')) (P2 : Fld Z h0 a "com/example/gravamen/gravamen/benchmarks/Load$Result" "resets" "J" (.long y)) (P3 : Fld Z h0 b "com/example/gravamen/gravamen/benchmarks/Load$Result" "resets" "J" (.long y')) (P4 : Fld Z h0 a "com/example/gravamen/gravamen/benchmarks/Load$Result" "seconds" "D" (.double z)) (P5 : Fld Z h0 b "com/example/gravamen/gravamen/benchmarks/Load$Result" "seconds" "D" (.double z')) (hn : Jvm.Free.Fl.NoNaN64 (FP.dadd z z')) :
    Cn l Z N b_thn #[(.ref a), (.ref b)] h0 I (Q_thn Z N a b u u' y y' z z' h0 I) := by
  refine Cn.of_wk (Ls := #[.val (.ref a), .val (.ref b)]) (plainFor_of_name (by first | (simp [plainName, overriddenIn]; done) | decide +kernel)) (fun m => ef_thn m a b) ?_
  refine Wk.newO (a0 := a0) (pc' := 3) (k' := 1) (n' := 3) (w25 hw) (w1 hw) (w2 hw) d4_0 rfl rfl rfl (Nat.le_of_ble_eq_true rfl) (Nat.le_of_ble_eq_true rfl) fun a1 h2 hg3 hN4 E5 A6 D7 => ?_
  have ne8 : a ≠ a1 := Nat.ne_of_lt (Nat.lt_of_lt_of_le P0.lt hg3)
  have ne9 : b ≠ a1 := Nat.ne_of_lt (Nat.lt_of_lt_of_le P1.lt hg3)
  have F10 : Fld Z h2 a1 "com/example/gravamen/gravamen/benchmarks/Load$Result" "answered" "J" (.long (0 : Int64)) := D7 (Or.inr (w15 hw)) (ty := .long) (by decide)
  have F11 : Fld Z h2 a1 "com/example/gravamen/gravamen/benchmarks/Load$Result" "resets" "J" (.long (0 : Int64)) := D7 (Or.inr (w17 hw)) (ty := .long) (by decide)
  have F12 : Fld Z h2 a1 "com/example/gravamen/gravamen/benchmarks/Load$Result" "seconds" "D" (.double (0 : UInt64)) := D7 (Or.inr (w19 hw)) (ty := .double) (by decide)
  refine Wk.dup (pc' := 4) d4_3 rfl rfl ?_
  refine Wk.aloadN (pc' := 5) d4_4 rfl rfl rfl ?_
  have f13 := (P0.ext E5)
  refine Wk.getF (a0 := a0) (pc' := 8) (host := "") (Or.inl (w14 hw)) Via.refl f13 d4_5 rfl ?_
  refine Wk.aloadN (pc' := 9) d4_8 rfl rfl rfl ?_
  have f14 := (P1.ext E5)
  refine Wk.getF (a0 := a0) (pc' := 12) (host := "") (Or.inl (w14 hw)) Via.refl f14 d4_9 rfl ?_
  refine Wk.ladd (pc' := 13) d4_12 rfl ?_
  refine Wk.aloadN (pc' := 14) d4_13 rfl rfl rfl ?_
  have f15 := (P2.ext E5)
  refine Wk.getF (a0 := a0) (pc' := 17) (host := "") (Or.inl (w16 hw)) Via.refl f15 d4_14 rfl ?_
  refine Wk.aloadN (pc' := 18) d4_17 rfl rfl rfl ?_
  have f16 := (P3.ext E5)
  refine Wk.getF (a0 := a0) (pc' := 21) (host := "") (Or.inl (w16 hw)) Via.refl f16 d4_18 rfl ?_
  refine Wk.ladd (pc' := 22) d4_21 rfl ?_
  refine Wk.aloadN (pc' := 23) d4_22 rfl rfl rfl ?_
  have f17 := (P4.ext E5)
  refine Wk.getF (a0 := a0) (pc' := 26) (host := "") (Or.inl (w18 hw)) Via.refl f17 d4_23 rfl ?_
  refine Wk.aloadN (pc' := 27) d4_26 rfl rfl rfl ?_
  have f18 := (P5.ext E5)
  refine Wk.getF (a0 := a0) (pc' := 30) (host := "") (Or.inl (w18 hw)) Via.refl f18 d4_27 rfl ?_
  refine Wk.dadd (pc' := 31) d4_30 rfl hn ?_
  refine Wk.callN (a0 := a0) (pc' := 34) (k' := 1) (n' := 3) (W := 1) (b := b_ini) (argsL := [(.long (u + u')), (.long (y + y')), (.double (FP.dadd z z'))]) (rest := [(.ref a1)]) (rm_ini hw a1 (u + u') (y + y') (FP.dadd z z') h2 I A6 F10 F11 F12 hN4) rfl rfl (w26 hw) (w4 hw) (w2 hw) (w5 hw) (by decide) (Nat.le_refl _) id (Nat.le_of_ble_eq_true rfl) (Nat.le_of_ble_eq_true rfl) rfl rfl (Nat.le_of_ble_eq_true rfl) (Nat.le_of_ble_eq_true rfl) rfl pd1 rfl rfl rfl (Nat.le_of_ble_eq_true rfl) d4_31 rfl fun v19 h20 J21 hs22 hQ23 => ?_
  obtain ⟨rfl, rfl, K24, g25, g26, g27⟩ := hQ23
  show Wk _ h20 1 3 I 34 #[.val (.ref a), .val (.ref b)] [(.ref a1)]
  have f28 := (A6.keep K24)
  exact Wk.areturn rfl rfl rfl d4_34 (Nat.le_of_ble_eq_true rfl) (Nat.le_of_ble_eq_true rfl) ⟨a1, rfl, rfl, (own_ext (((Keep.refl h0 []).ext E5).trans K24 (allS (Or.inr hg3) all0))), hg3, hN4, f28, g25, g26, g27⟩
theorem ef_law (m : MethodId) (x0 : Int64) (x1 : Int64) (x2 : Int32) (x3 : Int64) (x4 : Int64) (x5 : Int32) : entryFrame m #[(.long x0), (.long x1), (.int x2), (.long x3), (.long x4), (.int x5)] maxLocals = mkF m 0 #[.val (.long x0), .second, .val (.long x1), .second, .val (.int x2), .val (.long x3), .second, .val (.long x4), .second, .val (.int x5), .unset, .unset, .unset, .unset, .unset, .unset, .unset, .unset, .unset, .unset, .unset, .unset, .unset] [] := by first | (simp [entryFrame, mkF, argsToLocals, Value.category, maxLocals]; done) | rfl
abbrev b_law : Bdy := (x, code, maxLocals, ret, room_1)
def Q_law (Z : State) (N : Nat) (p1 : Int64) (p2 : Int64) (p3 : Int32) (p4 : Int64) (p5 : Int64) (p6 : Int32) (h0 : Heap) (I : Lts) (v : Option Value) (h : Heap) (J : Lts) : Prop := I = J ∧ v = some (.int (1 : Int32))
set_option maxRecDepth 65536 in
set_option maxHeartbeats 40000000 in
theorem rm_law {l : Launch} {Z : State} {a0 : Array Value} {N : Nat} (hw : ∀ d ∈ tables_1, d.before a0 Z = true) (p1 : Int64) (p2 : Int64) (p3 : Int32) (p4 : Int64) (p5 : Int64) (p6 : Int32) (h0 : Heap) (I : Lts) :
    Cn l Z N b_law #[(.long p1), (.long p2), (.int p3), (.long p4), (.long p5), (.int p6)] h0 I (Q_law Z N p1 p2 p3 p4 p5 p6 h0 I) := by
  refine Cn.of_wk (Ls := #[.val (.long p1), .second, .val (.long p2), .second, .val (.int p3), .val (.long p4), .second, .val (.long p5), .second, .val (.int p6), .unset, .unset, .unset, .unset, .unset, .unset, .unset, .unset, .unset, .unset, .unset, .unset, .unset]) (plainFor_of_name (by first | (simp [plainName, overriddenIn]; done) | decide +kernel)) (fun m => ef_law m p1 p2 p3 p4 p5 p6) ?_
  refine Wk.iload (pc' := 2) at_0 rfl rfl ?_
  refine Wk.i2d (pc' := 3) at_2 rfl ?_
  refine Wk.dstore (pc' := 5) #[.val (.long p1), .second, .val (.long p2), .second, .val (.int p3), .val (.long p4), .second, .val (.long p5), .second, .val (.int p6), .val (.double (FP.i2d p3)), .second, .unset, .unset, .unset, .unset, .unset, .unset, .unset, .unset, .unset, .unset, .unset] at_3 rfl rfl ?_
  refine Wk.iload (pc' := 7) at_5 rfl rfl ?_
  refine Wk.i2d (pc' := 8) at_7 rfl ?_
  refine Wk.dstore (pc' := 10) #[.val (.long p1), .second, .val (.long p2), .second, .val (.int p3), .val (.long p4), .second, .val (.long p5), .second, .val (.int p6), .val (.double (FP.i2d p3)), .second, .val (.double (FP.i2d p6)), .second, .unset, .unset, .unset, .unset, .unset, .unset, .unset, .unset, .unset] at_8 rfl rfl ?_
  refine Wk.newO (a0 := a0) (pc' := 13) (k' := 1) (n' := 3) (w0 hw) (w1 hw) (w2 hw) at_10 rfl rfl rfl (Nat.le_of_ble_eq_true rfl) (Nat.le_of_ble_eq_true rfl) fun a1 h2 hg3 hN4 E5 A6 D7 => ?_
  have F8 : Fld Z h2 a1 "com/example/gravamen/gravamen/benchmarks/Load$Result" "answered" "J" (.long (0 : Int64)) := D7 (Or.inr (w15 hw)) (ty := .long) (by decide)
  have F9 : Fld Z h2 a1 "com/example/gravamen/gravamen/benchmarks/Load$Result" "resets" "J" (.long (0 : Int64)) := D7 (Or.inr (w17 hw)) (ty := .long) (by decide)
  have F10 : Fld Z h2 a1 "com/example/gravamen/gravamen/benchmarks/Load$Result" "seconds" "D" (.double (0 : UInt64)) := D7 (Or.inr (w19 hw)) (ty := .double) (by decide)
  refine Wk.dup (pc' := 14) at_13 rfl rfl ?_
  refine Wk.lloadN (pc' := 15) at_14 rfl rfl ?_
  refine Wk.lloadN (pc' := 16) at_15 rfl rfl ?_
  refine Wk.dload (pc' := 18) at_16 rfl rfl ?_
  refine Wk.callN (a0 := a0) (pc' := 21) (k' := 1) (n' := 3) (W := 1) (b := b_ini) (argsL := [(.long p1), (.long p2), (.double (FP.i2d p3))]) (rest := [(.ref a1)]) (rm_ini hw a1 p1 p2 (FP.i2d p3) h2 I A6 F8 F9 F10 hN4) rfl rfl (w3 hw) (w4 hw) (w2 hw) (w5 hw) (by decide) (Nat.le_refl _) id (Nat.le_of_ble_eq_true rfl) (Nat.le_of_ble_eq_true rfl) rfl rfl (Nat.le_of_ble_eq_true rfl) (Nat.le_of_ble_eq_true rfl) rfl pd1 rfl rfl rfl (Nat.le_of_ble_eq_true rfl) at_18 rfl fun v11 h12 J13 hs14 hQ15 => ?_
  obtain ⟨rfl, rfl, K16, g17, g18, g19⟩ := hQ15
  show Wk _ h12 1 3 I 21 #[.val (.long p1), .second, .val (.long p2), .second, .val (.int p3), .val (.long p4), .second, .val (.long p5), .second, .val (.int p6), .val (.double (FP.i2d p3)), .second, .val (.double (FP.i2d p6)), .second, .unset, .unset, .unset, .unset, .unset, .unset, .unset, .unset, .unset] [(.ref a1)]
  refine Wk.astore (pc' := 23) #[.val (.long p1), .second, .val (.long p2), .second, .val (.int p3), .val (.long p4), .second, .val (.long p5), .second, .val (.int p6), .val (.double (FP.i2d p3)), .second, .val (.double (FP.i2d p6)), .second, .val (.ref a1), .unset, .unset, .unset, .unset, .unset, .unset, .unset, .unset] at_21 rfl rfl rfl ?_
  refine Wk.newO (a0 := a0) (pc' := 26) (k' := 2) (n' := 6) (w0 hw) (w1 hw) (w2 hw) at_23 rfl rfl rfl (Nat.le_of_ble_eq_true rfl) (Nat.le_of_ble_eq_true rfl) fun a20 h21 hg22 hN23 E24 A25 D26 => ?_
  have f27 := (A6.keep K16)
  have ne28 : a1 ≠ a20 := Nat.ne_of_lt (Nat.lt_of_lt_of_le f27.lt hg22)
  have F29 : Fld Z h21 a20 "com/example/gravamen/gravamen/benchmarks/Load$Result" "answered" "J" (.long (0 : Int64)) := D26 (Or.inr (w15 hw)) (ty := .long) (by decide)
  have F30 : Fld Z h21 a20 "com/example/gravamen/gravamen/benchmarks/Load$Result" "resets" "J" (.long (0 : Int64)) := D26 (Or.inr (w17 hw)) (ty := .long) (by decide)
  have F31 : Fld Z h21 a20 "com/example/gravamen/gravamen/benchmarks/Load$Result" "seconds" "D" (.double (0 : UInt64)) := D26 (Or.inr (w19 hw)) (ty := .double) (by decide)
  refine Wk.dup (pc' := 27) at_26 rfl rfl ?_
  refine Wk.lload (pc' := 29) at_27 rfl rfl ?_
  refine Wk.lload (pc' := 31) at_29 rfl rfl ?_
  refine Wk.dload (pc' := 33) at_31 rfl rfl ?_
  refine Wk.callN (a0 := a0) (pc' := 36) (k' := 2) (n' := 6) (W := 1) (b := b_ini) (argsL := [(.long p4), (.long p5), (.double (FP.i2d p6))]) (rest := [(.ref a20)]) (rm_ini hw a20 p4 p5 (FP.i2d p6) h21 I A25 F29 F30 F31 hN23) rfl rfl (w3 hw) (w4 hw) (w2 hw) (w5 hw) (by decide) (Nat.le_refl _) id (Nat.le_of_ble_eq_true rfl) (Nat.le_of_ble_eq_true rfl) rfl rfl (Nat.le_of_ble_eq_true rfl) (Nat.le_of_ble_eq_true rfl) rfl pd1 rfl rfl rfl (Nat.le_of_ble_eq_true rfl) at_33 rfl fun v32 h33 J34 hs35 hQ36 => ?_
  obtain ⟨rfl, rfl, K37, g38, g39, g40⟩ := hQ36
  show Wk _ h33 2 6 I 36 #[.val (.long p1), .second, .val (.long p2), .second, .val (.int p3), .val (.long p4), .second, .val (.long p5), .second, .val (.int p6), .val (.double (FP.i2d p3)), .second, .val (.double (FP.i2d p6)), .second, .val (.ref a1), .unset, .unset, .unset, .unset, .unset, .unset, .unset, .unset] [(.ref a20)]
  refine Wk.astore (pc' := 38) #[.val (.long p1), .second, .val (.long p2), .second, .val (.int p3), .val (.long p4), .second, .val (.long p5), .second, .val (.int p6), .val (.double (FP.i2d p3)), .second, .val (.double (FP.i2d p6)), .second, .val (.ref a1), .val (.ref a20), .unset, .unset, .unset, .unset, .unset, .unset, .unset] at_36 rfl rfl rfl ?_
  refine Wk.aload (pc' := 40) at_38 rfl rfl rfl ?_
  refine Wk.aload (pc' := 42) at_40 rfl rfl rfl ?_
  have f41 := ((g17.ext E24).keep K37 (ninS ne28 nin0))
  have f42 := ((g18.ext E24).keep K37 (ninS ne28 nin0))
  have f43 := ((g19.ext E24).keep K37 (ninS ne28 nin0))
  have f49 := ((f27.ext E24).keep K37)
  refine Wk.callV (a0 := a0) (pc' := 45) (k' := 3) (n' := 9) (W := 0) (b := b_thn) (argsL := [(.ref a20)]) (rest := []) (y := (⟨"com/example/gravamen/gravamen/benchmarks/Load$Result", "then", "(Lcom/example/gravamen/gravamen/benchmarks/Load$Result;)Lcom/example/gravamen/gravamen/benchmarks/Load$Result;"⟩ : MethodName)) (rm_thn hw a1 a20 p1 p4 p2 p5 (FP.i2d p3) (FP.i2d p6) h33 I f41 g38 f42 g39 f43 g40 (nn_w (own_sum p3 p6))) f49 (w20 hw) (w21 hw) (w23 hw) (w23 hw) (w22 hw) (w2 hw) (w24 hw) (by decide) (Nat.le_refl _) id (Nat.le_of_ble_eq_true rfl) (Nat.le_of_ble_eq_true rfl) rfl rfl (Nat.le_of_ble_eq_true rfl) (Nat.le_of_ble_eq_true rfl) rfl pd2 rfl rfl rfl (Nat.le_of_ble_eq_true rfl) at_42 rfl fun v44 h45 J46 hs47 hQ48 => ?_
  obtain ⟨r50, rfl, rfl, E51, g52, g53, g54, g55, g56, g57⟩ := hQ48
  have ne58 : a1 ≠ r50 := Nat.ne_of_lt (Nat.lt_of_lt_of_le f49.lt g52)
  have ne59 : a20 ≠ r50 := Nat.ne_of_lt (Nat.lt_of_lt_of_le (A25.keep K37).lt g52)
  show Wk _ h45 3 9 I 45 #[.val (.long p1), .second, .val (.long p2), .second, .val (.int p3), .val (.long p4), .second, .val (.long p5), .second, .val (.int p6), .val (.double (FP.i2d p3)), .second, .val (.double (FP.i2d p6)), .second, .val (.ref a1), .val (.ref a20), .unset, .unset, .unset, .unset, .unset, .unset, .unset] [(.ref r50)]
  refine Wk.astore (pc' := 47) #[.val (.long p1), .second, .val (.long p2), .second, .val (.int p3), .val (.long p4), .second, .val (.long p5), .second, .val (.int p6), .val (.double (FP.i2d p3)), .second, .val (.double (FP.i2d p6)), .second, .val (.ref a1), .val (.ref a20), .val (.ref r50), .unset, .unset, .unset, .unset, .unset, .unset] at_45 rfl rfl rfl ?_
  refine Wk.lloadN (pc' := 48) at_47 rfl rfl ?_
  refine Wk.lload (pc' := 50) at_48 rfl rfl ?_
  refine Wk.ladd (pc' := 51) at_50 rfl ?_
  refine Wk.lstore (pc' := 53) #[.val (.long p1), .second, .val (.long p2), .second, .val (.int p3), .val (.long p4), .second, .val (.long p5), .second, .val (.int p6), .val (.double (FP.i2d p3)), .second, .val (.double (FP.i2d p6)), .second, .val (.ref a1), .val (.ref a20), .val (.ref r50), .val (.long (p1 + p4)), .second, .unset, .unset, .unset, .unset] at_51 rfl rfl ?_
  refine Wk.lloadN (pc' := 54) at_53 rfl rfl ?_
  refine Wk.lload (pc' := 56) at_54 rfl rfl ?_
  refine Wk.ladd (pc' := 57) at_56 rfl ?_
  refine Wk.lstore (pc' := 59) #[.val (.long p1), .second, .val (.long p2), .second, .val (.int p3), .val (.long p4), .second, .val (.long p5), .second, .val (.int p6), .val (.double (FP.i2d p3)), .second, .val (.double (FP.i2d p6)), .second, .val (.ref a1), .val (.ref a20), .val (.ref r50), .val (.long (p1 + p4)), .second, .val (.long (p2 + p5)), .second, .unset, .unset] at_57 rfl rfl ?_
  refine Wk.iload (pc' := 61) at_59 rfl rfl ?_
  refine Wk.i2l (pc' := 62) at_61 rfl ?_
  refine Wk.iload (pc' := 64) at_62 rfl rfl ?_
  refine Wk.i2l (pc' := 65) at_64 rfl ?_
  refine Wk.ladd (pc' := 66) at_65 rfl ?_
  refine Wk.lstore (pc' := 68) #[.val (.long p1), .second, .val (.long p2), .second, .val (.int p3), .val (.long p4), .second, .val (.long p5), .second, .val (.int p6), .val (.double (FP.i2d p3)), .second, .val (.double (FP.i2d p6)), .second, .val (.ref a1), .val (.ref a20), .val (.ref r50), .val (.long (p1 + p4)), .second, .val (.long (p2 + p5)), .second, .val (.long ((p3.toInt64) + (p6.toInt64))), .second] at_66 rfl rfl ?_
  refine Wk.aload (pc' := 70) at_68 rfl rfl rfl ?_
  refine Wk.callV (a0 := a0) (pc' := 73) (k' := 3) (n' := 9) (W := 0) (b := b_ans) (argsL := []) (rest := []) (y := (⟨"com/example/gravamen/gravamen/benchmarks/Load$Result", "answered", "()J"⟩ : MethodName)) (rm_ans hw r50 (p1 + p4) h45 I g55) g54 (w27 hw) (w28 hw) (w30 hw) (w30 hw) (w29 hw) (w2 hw) (w31 hw) (by decide) (Nat.le_refl _) id (Nat.le_of_ble_eq_true rfl) (Nat.le_of_ble_eq_true rfl) rfl rfl (Nat.le_of_ble_eq_true rfl) (Nat.le_of_ble_eq_true rfl) rfl pd3 rfl rfl rfl (Nat.le_of_ble_eq_true rfl) at_70 rfl fun v60 h61 J62 hs63 hQ64 => ?_
  obtain ⟨rfl, rfl, rfl⟩ := hQ64
  show Wk _ h45 3 9 I 73 #[.val (.long p1), .second, .val (.long p2), .second, .val (.int p3), .val (.long p4), .second, .val (.long p5), .second, .val (.int p6), .val (.double (FP.i2d p3)), .second, .val (.double (FP.i2d p6)), .second, .val (.ref a1), .val (.ref a20), .val (.ref r50), .val (.long (p1 + p4)), .second, .val (.long (p2 + p5)), .second, .val (.long ((p3.toInt64) + (p6.toInt64))), .second] [(.long (p1 + p4))]
  refine Wk.lload (pc' := 75) at_73 rfl rfl ?_
  refine Wk.lcmp (pc' := 76) at_75 rfl ?_
  refine Wk.if_neN (pc' := 79) at_76 rfl ((lw_eq _ _).mpr rfl) ?_
  refine Wk.aload (pc' := 81) at_79 rfl rfl rfl ?_
  refine Wk.callV (a0 := a0) (pc' := 84) (k' := 3) (n' := 9) (W := 0) (b := b_res) (argsL := []) (rest := []) (y := (⟨"com/example/gravamen/gravamen/benchmarks/Load$Result", "resets", "()J"⟩ : MethodName)) (rm_res hw r50 (p2 + p5) h45 I g56) g54 (w32 hw) (w33 hw) (w35 hw) (w35 hw) (w34 hw) (w2 hw) (w36 hw) (by decide) (Nat.le_refl _) id (Nat.le_of_ble_eq_true rfl) (Nat.le_of_ble_eq_true rfl) rfl rfl (Nat.le_of_ble_eq_true rfl) (Nat.le_of_ble_eq_true rfl) rfl pd3 rfl rfl rfl (Nat.le_of_ble_eq_true rfl) at_81 rfl fun v65 h66 J67 hs68 hQ69 => ?_
  obtain ⟨rfl, rfl, rfl⟩ := hQ69
  show Wk _ h45 3 9 I 84 #[.val (.long p1), .second, .val (.long p2), .second, .val (.int p3), .val (.long p4), .second, .val (.long p5), .second, .val (.int p6), .val (.double (FP.i2d p3)), .second, .val (.double (FP.i2d p6)), .second, .val (.ref a1), .val (.ref a20), .val (.ref r50), .val (.long (p1 + p4)), .second, .val (.long (p2 + p5)), .second, .val (.long ((p3.toInt64) + (p6.toInt64))), .second] [(.long (p2 + p5))]
  refine Wk.lload (pc' := 86) at_84 rfl rfl ?_
  refine Wk.lcmp (pc' := 87) at_86 rfl ?_
  refine Wk.if_neN (pc' := 90) at_87 rfl ((lw_eq _ _).mpr rfl) ?_
  refine Wk.aload (pc' := 92) at_90 rfl rfl rfl ?_
  refine Wk.callV (a0 := a0) (pc' := 95) (k' := 3) (n' := 9) (W := 0) (b := b_sec) (argsL := []) (rest := []) (y := (⟨"com/example/gravamen/gravamen/benchmarks/Load$Result", "seconds", "()D"⟩ : MethodName)) (rm_sec hw r50 (FP.dadd (FP.i2d p3) (FP.i2d p6)) h45 I g57) g54 (w37 hw) (w38 hw) (w40 hw) (w40 hw) (w39 hw) (w2 hw) (w41 hw) (by decide) (Nat.le_refl _) id (Nat.le_of_ble_eq_true rfl) (Nat.le_of_ble_eq_true rfl) rfl rfl (Nat.le_of_ble_eq_true rfl) (Nat.le_of_ble_eq_true rfl) rfl pd4 rfl rfl rfl (Nat.le_of_ble_eq_true rfl) at_92 rfl fun v70 h71 J72 hs73 hQ74 => ?_
  obtain ⟨rfl, rfl, rfl⟩ := hQ74
  show Wk _ h45 3 9 I 95 #[.val (.long p1), .second, .val (.long p2), .second, .val (.int p3), .val (.long p4), .second, .val (.long p5), .second, .val (.int p6), .val (.double (FP.i2d p3)), .second, .val (.double (FP.i2d p6)), .second, .val (.ref a1), .val (.ref a20), .val (.ref r50), .val (.long (p1 + p4)), .second, .val (.long (p2 + p5)), .second, .val (.long ((p3.toInt64) + (p6.toInt64))), .second] [(.double (FP.dadd (FP.i2d p3) (FP.i2d p6)))]
  refine Wk.lload (pc' := 97) at_95 rfl rfl ?_
  refine Wk.l2d (pc' := 98) at_97 rfl ?_
  refine Wk.dcmpl (pc' := 99) at_98 rfl ?_
  refine Wk.if_neN (pc' := 102) at_99 rfl (dcmpV_eq (own_sum p3 p6) (nn_w (own_sum p3 p6)) _) ?_
  refine Wk.iconst (pc' := 103) (v := 1) at_102 rfl rfl ?_
  refine Wk.goto (pc' := 107) at_103 (by decide) ?_
  exact Wk.zreturn rfl (by simp) at_107 (Nat.le_of_ble_eq_true rfl) (Nat.le_of_ble_eq_true rfl) ⟨rfl, rfl⟩
set_option maxRecDepth 65536 in
set_option maxHeartbeats 40000000 in
theorem comes_1 {Post : Tables → Env → Array Value → State → Outcome → State → Prop} (hpost : ∀ tb e args s v u, (limb_1_1.after args s (.returned v) u = true ∧ limb_1_2.after args s (.returned v) u = true ∧ True) → FrameEnd s (.returned v) u (Jvm.fieldLocs frame_1_writes args s ++ Jvm.arrayLocs frame_1_arrays args s ++ Jvm.staticLocs frame_1_statics s) 16 128 → Post tb e args s (.returned v) u) :
    ArmFor flags0 classFile x code maxLocals ret World_1 tables_1 room_1 Calls_1 rest_1 Pre_1 Post := by
  intro l hfl _ _ p e ha hc hk s m args below hf hA hF happ hP
  obtain ⟨hcalls, hrest, hpre⟩ := hP
  obtain ⟨-, -, -, hnamed, -, -, -, hat⟩ := (Spec.applies_iff hf).mp happ
  obtain ⟨hg, hn⟩ := and_e (Cond.before_iff.mp (show (Jvm.Cond.and given_1 narrow_1).before args s = true from hpre))
  obtain ⟨g1, g2⟩ := and_e hg
  obtain ⟨g3, g4⟩ := and_e g2
  obtain ⟨g5, g6⟩ := and_e g4
  obtain ⟨g7, g8⟩ := and_e g6
  obtain ⟨g9, g10⟩ := and_e g8
  obtain ⟨g11, g12⟩ := and_e g10
  obtain ⟨a_0, a_1, a_2, a_3, a_4, a_5, rfl⟩ : ∃ a_0 a_1 a_2 a_3 a_4 a_5 : Value, args = #[a_0, a_1, a_2, a_3, a_4, a_5] := by
    have hs : args.size = 6 := by simpa [Cond.value, given_1] using g1
    obtain ⟨L⟩ := args
    match L, hs with
    | [a_0, a_1, a_2, a_3, a_4, a_5], _ => exact ⟨a_0, a_1, a_2, a_3, a_4, a_5, rfl⟩
  have hw := fun d (hd : d ∈ tables_1) => atoms_spec (ws := Jvm.Cond.code x code maxLocals ret :: tables_1) hat d (List.mem_cons_of_mem _ hd)
  have hfit : Fit s := fun {y c} hc i hi => by
    obtain ⟨ha, rfl⟩ := Array.getElem?_eq_some_iff.mp hc
    have q := List.all_eq_true.mp ((Array.all_eq_true_iff_forall_mem.mp hF) _ (Array.getElem_mem ha)) i (List.mem_range.mpr hi)
    simpa [Array.getElem?_eq_getElem hi] using q
  obtain ⟨i0, ei0⟩ := isL_v g3
  obtain rfl : a_0 = (.long i0) := Option.some.inj ei0
  obtain ⟨i1, ei1⟩ := isL_v g5
  obtain rfl : a_1 = (.long i1) := Option.some.inj ei1
  obtain ⟨i2, ei2⟩ := is_v g7
  obtain rfl : a_2 = (.int i2) := Option.some.inj ei2
  obtain ⟨i3, ei3⟩ := isL_v g9
  obtain rfl : a_3 = (.long i3) := Option.some.inj ei3
  obtain ⟨i4, ei4⟩ := isL_v g11
  obtain rfl : a_4 = (.long i4) := Option.some.inj ei4
  obtain ⟨i5, ei5⟩ := is_v g12
  obtain rfl : a_5 = (.int i5) := Option.some.inj ei5
  obtain ⟨n, o, h1, h2, h3, v, L, J, rfl, hQ, hV, N, hE, hq⟩ := rm_law (l := l) (Z := s) hw i0 i1 i2 i3 i4 i5 s.heap none  tables_1 p e ha hc hk s m _ below hf ((Spec.applies_iff_loose hf).mp happ).1 ⟨rfl, State.Warmed39.refl s, rfl, State.WarmedH.refl s, ⟨Nat.le_refl _, fun _ _ h => h⟩, Nat.le_refl _, Nat.le_refl _⟩ trivial
  obtain ⟨rfl, rfl⟩ := hQ
  refine ⟨n, _, h1, h2, h3, hpost _ _ _ _ _ _ ⟨Cond.after_iff.mpr rfl, Cond.after_iff.mpr (eq_i res_at (Term.int_eval (1)) rfl), trivial⟩ ⟨⟨_, rfl⟩, hV, (hq.2.2.2.sift fun y hy => Or.inr (N y hy)).mono (Nat.le_of_ble_eq_true rfl) (Nat.le_of_ble_eq_true rfl)⟩⟩
theorem main_1_1 : Claimed_1_1 := comes_1 fun _ _ _ _ _ _ h hF => ⟨h.1, hF⟩
theorem main_1_2 : Claimed_1_2 := comes_1 fun _ _ _ _ _ _ h hF => ⟨h.2.1, hF⟩
end Jvm.Pilot.@@N@@
namespace Jvm.Pilot.@@N@@
open Jvm Jvm.ClassFile Sem Op Lib Jvm.Free Jvm.Stand Jvm.Pilot.@@N@@.Jvm.D
/-! MADE BY PROGRAM (witnessworld.py) out of the Statement's table words and the real class files: 10 classes; the members and pool entries that the words name. The judged class is class 1, her method 1. -/
namespace start1
open Jvm.ClassFile
def u (s : String) : CpInfo := .utf8 (stringToUtf16 s)
/-- a pool by its gaps: so many unusable entries, then the entry; so many at the end -/
def gap : Nat → List CpInfo → List CpInfo
  | 0, r => r
  | n + 1, r => .unusable :: gap n r
def poolList (es : List (Nat × CpInfo)) (last : Nat) : List CpInfo := es.foldr (fun e r => gap e.1 (e.2 :: r)) (gap last [])
def pool (es : List (Nat × CpInfo)) (last : Nat) : Array CpInfo := ⟨poolList es last⟩
def fileOf (pool : Array CpInfo) (this : Nat) (attrs : Array Attribute := #[]) (ms : Array MethodInfo := #[]) (fl : Nat := 33) (sup : Nat := 0) (ifs : Array Nat := #[]) (fds : Array FieldInfo := #[]) : ClassFile where
  minorVersion := 0
  majorVersion := 65
  constantPool := pool
  accessFlags := fl
  thisClass := this
  superClass := sup
  interfaces := ifs
  fields := fds
  methods := ms
  attributes := attrs
def plain (name : String) (sup : Option ClassId) : Class where
  name := name
  kind := .ordinary
  loader := none
  accessFlags := 33
  super := sup
  interfaces := #[]
  cf := none
  fields := #[]
  methods := #[]
  instanceTypes := #[]
  staticTypes := #[]
  resolved := #[]
  callSites := []
  init := .initialized
  statics := none
  mirror := none

def pool0 : Array CpInfo := pool [(5, u "<init>"), (0, u "()V"), (1, .class_ 10), (1, u "java/lang/Object")] 113

def k0c0 : Code := { maxStack := 0, maxLocals := 1, code := object_method_1_code, exceptionTable := #[], attributes := #[] }
def k0m0 : Method := { name := "<init>", desc := "()V", sig := { parameters := [], returnType := none }, accessFlags := 1, code := some k0c0 }
/-- java/lang/Object -/
def k0 : Class := { plain "java/lang/Object" none with
  accessFlags := 33
  interfaces := #[]
  cf := some (fileOf pool0 8 #[] #[{ accessFlags := 1, nameIndex := 5, descriptorIndex := 6, attributes := #[] }] 33 0 #[] #[])
  fields := #[]
  methods := #[k0m0]
  instanceTypes := #[]
  staticTypes := #[]
  resolved := Array.replicate 124 none
  statics := none }

def pool1 : Array CpInfo := pool [(2, .class_ 4), (1, u "java/lang/Object"), (0, u "<init>"), (0, u "()V"), (0, .class_ 8), (0, u "com/example/gravamen/gravamen/benchmarks/Load$Result"), (0, .methodref 7 10), (0, .nameAndType 5 11), (0, u "(JJD)V"), (0, .methodref 7 13), (0, .nameAndType 14 15), (0, u "then"), (0, u "(Lcom/example/gravamen/gravamen/benchmarks/Load$Result;)Lcom/example/gravamen/gravamen/benchmarks/Load$Result;"), (0, .methodref 7 17), (0, .nameAndType 18 19), (0, u "answered"), (0, u "()J"), (0, .methodref 7 21), (0, .nameAndType 22 19), (0, u "resets"), (0, .methodref 7 24), (0, .nameAndType 25 26), (0, u "seconds"), (0, u "()D"), (0, .class_ 28), (0, u "com/example/gravamen/gravamen/benchmarks/ResultThenPinLaw"), (2, u "law"), (0, u "(JJIJJI)Z")] 7

def k1m0 : Method := { name := "<init>", desc := "()V", sig := { parameters := [], returnType := none }, accessFlags := 2, code := none }
def k1c1 : Code := { maxStack := 8, maxLocals := 23, code := code, exceptionTable := #[], attributes := #[] }
def k1m1 : Method := { name := "law", desc := "(JJIJJI)Z", sig := { parameters := [.long, .long, .int, .long, .long, .int], returnType := some .boolean }, accessFlags := 9, code := some k1c1 }
/-- com/example/gravamen/gravamen/benchmarks/ResultThenPinLaw -/
def k1 : Class := { plain "com/example/gravamen/gravamen/benchmarks/ResultThenPinLaw" (some 0) with
  accessFlags := 49
  interfaces := #[]
  cf := some (fileOf pool1 27 #[] #[{ accessFlags := 2, nameIndex := 5, descriptorIndex := 6, attributes := #[] }, { accessFlags := 9, nameIndex := 31, descriptorIndex := 32, attributes := #[] }] 49 2 #[] #[])
  fields := #[]
  methods := #[k1m0, k1m1]
  instanceTypes := #[]
  staticTypes := #[]
  resolved := Array.replicate 40 none
  statics := none }

def pool2 : Array CpInfo := pool [(1, .methodref 2 3), (0, .class_ 4), (0, .nameAndType 5 6), (0, u "java/lang/Object"), (0, u "<init>"), (0, u "()V"), (0, .class_ 8), (0, u "java/lang/Record")] 13

def k2c0 : Code := { maxStack := 1, maxLocals := 1, code := jdk_30_method_1_code, exceptionTable := #[], attributes := #[] }
def k2m0 : Method := { name := "<init>", desc := "()V", sig := { parameters := [], returnType := none }, accessFlags := 4, code := some k2c0 }
/-- java/lang/Record -/
def k2 : Class := { plain "java/lang/Record" (some 0) with
  accessFlags := 1057
  interfaces := #[]
  cf := some (fileOf pool2 7 #[] #[{ accessFlags := 4, nameIndex := 5, descriptorIndex := 6, attributes := #[] }] 1057 2 #[] #[])
  fields := #[]
  methods := #[k2m0]
  instanceTypes := #[]
  staticTypes := #[]
  resolved := Array.replicate 22 none
  statics := none }

def pool3 : Array CpInfo := pool [(1, .methodref 2 3), (0, .class_ 4), (0, .nameAndType 5 6), (0, u "java/lang/Record"), (0, u "<init>"), (0, u "()V"), (0, .fieldref 8 9), (0, .class_ 10), (0, .nameAndType 11 12), (0, u "com/example/gravamen/gravamen/benchmarks/Load$Result"), (0, u "answered"), (0, u "J"), (0, .fieldref 8 14), (0, .nameAndType 15 12), (0, u "resets"), (0, .fieldref 8 17), (0, .nameAndType 18 19), (0, u "seconds"), (0, u "D"), (0, .methodref 8 21), (0, .nameAndType 5 22), (0, u "(JJD)V"), (16, u "()D"), (1, u "(Lcom/example/gravamen/gravamen/benchmarks/Load$Result;)Lcom/example/gravamen/gravamen/benchmarks/Load$Result;"), (0, u "then"), (3, u "()J"), (3, .class_ 51), (0, u "com/example/gravamen/gravamen/benchmarks/Load")] 21

def k3c0 : Code := { maxStack := 3, maxLocals := 7, code := prog_18_method_1_code, exceptionTable := #[], attributes := #[] }
def k3m0 : Method := { name := "<init>", desc := "(JJD)V", sig := { parameters := [.long, .long, .double], returnType := none }, accessFlags := 0, code := some k3c0 }
def k3c1 : Code := { maxStack := 10, maxLocals := 2, code := prog_18_method_4_code, exceptionTable := #[], attributes := #[] }
def k3m1 : Method := { name := "then", desc := "(Lcom/example/gravamen/gravamen/benchmarks/Load$Result;)Lcom/example/gravamen/gravamen/benchmarks/Load$Result;", sig := { parameters := [(.object "com/example/gravamen/gravamen/benchmarks/Load$Result")], returnType := some (.object "com/example/gravamen/gravamen/benchmarks/Load$Result") }, accessFlags := 0, code := some k3c1 }
def k3c2 : Code := { maxStack := 2, maxLocals := 1, code := prog_18_method_8_code, exceptionTable := #[], attributes := #[] }
def k3m2 : Method := { name := "answered", desc := "()J", sig := { parameters := [], returnType := some .long }, accessFlags := 1, code := some k3c2 }
def k3c3 : Code := { maxStack := 2, maxLocals := 1, code := prog_18_method_9_code, exceptionTable := #[], attributes := #[] }
def k3m3 : Method := { name := "resets", desc := "()J", sig := { parameters := [], returnType := some .long }, accessFlags := 1, code := some k3c3 }
def k3c4 : Code := { maxStack := 2, maxLocals := 1, code := prog_18_method_10_code, exceptionTable := #[], attributes := #[] }
def k3m4 : Method := { name := "seconds", desc := "()D", sig := { parameters := [], returnType := some .double }, accessFlags := 1, code := some k3c4 }
/-- com/example/gravamen/gravamen/benchmarks/Load$Result -/
def k3 : Class := { plain "com/example/gravamen/gravamen/benchmarks/Load$Result" (some 2) with
  accessFlags := 48
  interfaces := #[]
  cf := some (fileOf pool3 8 #[.nestHost 50] #[{ accessFlags := 0, nameIndex := 5, descriptorIndex := 22, attributes := #[] }, { accessFlags := 0, nameIndex := 42, descriptorIndex := 41, attributes := #[] }, { accessFlags := 1, nameIndex := 11, descriptorIndex := 46, attributes := #[] }, { accessFlags := 1, nameIndex := 15, descriptorIndex := 46, attributes := #[] }, { accessFlags := 1, nameIndex := 18, descriptorIndex := 39, attributes := #[] }] 48 2 #[] #[{ accessFlags := 18, nameIndex := 11, descriptorIndex := 12, attributes := #[] }, { accessFlags := 18, nameIndex := 15, descriptorIndex := 12, attributes := #[] }, { accessFlags := 18, nameIndex := 18, descriptorIndex := 19, attributes := #[] }])
  fields := #[{ name := "answered", type := .long, accessFlags := 18, slot := 0, constantValue := 0 }, { name := "resets", type := .long, accessFlags := 18, slot := 1, constantValue := 0 }, { name := "seconds", type := .double, accessFlags := 18, slot := 2, constantValue := 0 }]
  methods := #[k3m0, k3m1, k3m2, k3m3, k3m4]
  instanceTypes := #[.long, .long, .double]
  staticTypes := #[]
  resolved := Array.replicate 73 none
  statics := none }

def pool4 : Array CpInfo := pool [(1, u "java/lang/Cloneable"), (0, .class_ 1), (0, u "java/lang/Object"), (0, .class_ 3)] 3

/-- java/lang/Cloneable -/
def k4 : Class := { plain "java/lang/Cloneable" (some 0) with
  accessFlags := 1537
  interfaces := #[]
  cf := some (fileOf pool4 2 #[] #[] 1537 4 #[] #[])
  fields := #[]
  methods := #[]
  instanceTypes := #[]
  staticTypes := #[]
  resolved := Array.replicate 8 none
  statics := none }

def pool5 : Array CpInfo := pool [(1, u "java/io/Serializable"), (0, .class_ 1), (0, u "java/lang/Object"), (0, .class_ 3)] 3

/-- java/io/Serializable -/
def k5 : Class := { plain "java/io/Serializable" (some 0) with
  accessFlags := 1537
  interfaces := #[]
  cf := some (fileOf pool5 2 #[] #[] 1537 4 #[] #[])
  fields := #[]
  methods := #[]
  instanceTypes := #[]
  staticTypes := #[]
  resolved := Array.replicate 8 none
  statics := none }

/-- the primitive byte -/
def k6 : Class := { plain "byte" none with kind := .primitive 'B', accessFlags := 0x411 }
/-- [B -/
def k7 : Class := { plain "[B" (some 0) with kind := .array 6 .byte, interfaces := #[4, 5], accessFlags := 1041 }

/-- the primitive int -/
def k8 : Class := { plain "int" none with kind := .primitive 'I', accessFlags := 0x411 }
/-- [I -/
def k9 : Class := { plain "[I" (some 0) with kind := .array 8 .int, interfaces := #[4, 5], accessFlags := 1041 }

def heap : Heap := #[]
def classes : Array Class := #[k0, k1, k2, k3, k4, k5, k6, k7, k8, k9]
def interned : List (Array UInt16 × Addr) := []
def slotsUsed : Nat := 0
def theMethod : MethodId := ⟨1, 1⟩
def args0 : Array Value := #[.long 5, .long 6, .int 7, .long 8, .long 9, .int 10]
def aboutOver (below : List Frame) : State where
  vm := { classes := classes, interned := interned.toArray }
  heap := heap
  slotsUsed := slotsUsed
  threads := #[{ frames := .invoking theMethod args0 :: below }]
def below0 : List Frame := [.native { method := ⟨0, 0⟩, args := #[] }]
def about1 : State := aboutOver below0
def p0 : Program := .bare "" "" ""
def e0 : Env := launch0.env 0 0 0
theorem w_frames : about1.frames = Frame.invoking theMethod args0 :: below0 := rfl
set_option maxRecDepth 65536 in
theorem w_args : argsFit about1.vm theMethod args0 = true := by decide +kernel
set_option maxRecDepth 65536 in
theorem w_heap : heapFits about1 = true := by decide +kernel
set_option maxRecDepth 65536 in
theorem w_runnable : about1.curStatus? = some .runnable := by decide +kernel
set_option maxRecDepth 65536 in
theorem w_alone : about1.alone = true := by decide +kernel
set_option maxRecDepth 65536 in
theorem w_named : about1.methodNamed? x = some theMethod := by decide +kernel
set_option maxRecDepth 65536 in
theorem w_hears : about1.hears theMethod below0 = true := by decide +kernel
set_option maxRecDepth 65536 in
theorem w_ripe : about1.ripe theMethod args0 below0 = true := by decide +kernel
theorem w_running : about1.status = .running := rfl
set_option maxRecDepth 65536 in
theorem w_room : about1.hasRoom e0.platform room_1 = true :=
  launch0.hasRoom_least _ room_1 (by decide +kernel) (by decide +kernel) (by decide +kernel) (by decide +kernel) (by decide +kernel) (by decide +kernel)
theorem allAtoms_all (ts : List Jvm.Cond) (a : Array Jvm.Value) (st : Jvm.State) : (allAtoms ts).before a st = ts.all (fun c => c.before a st) := by
  induction ts with
  | nil => rfl
  | cons c t ih =>
    show (Jvm.Cond.and c (allAtoms t)).before a st = _
    rw [Jvm.Cond.before_and, ih, List.all_cons]
def words1 : List Jvm.Cond := Jvm.Cond.code x code maxLocals ret :: tables_1
/-- a 'code' word, met by the world's own term for the bytes: nothing is compared byte by byte -/
theorem code_word {y : MethodName} {bytes : ByteArray} {mx : Nat} {rt : Option FieldType} {a : Array Value} {s : State} {m : MethodId} {meth : Method} {c : Code} (h1 : s.methodNamed? y = some m) (h2 : s.vm.method? m = some meth) (h3 : meth.code = some c) (h4 : c.code = bytes)
    (h5 : (c.maxLocals == mx && c.exceptionTable.isEmpty && decide (c.maxStack ≤ mostOperands) && decide (meth.sig.returnType = rt) && !meth.locks && decide (parseMethodDescriptor y.desc = some meth.sig)) = true) : (Jvm.Cond.code y bytes mx rt).before a s = true := by
  simp only [Bool.and_eq_true, beq_iff_eq, Bool.not_eq_true', decide_eq_true_eq] at h5
  obtain ⟨⟨⟨⟨⟨g1, g2⟩, g3⟩, g4⟩, g5⟩, g6⟩ := h5
  simp [Cond.before, Cond.holds, Cond.value, h1, h2, h3, h4, g1, g2, g3, g4, g5, g6]
def isCode : Jvm.Cond → Bool
  | .code _ _ _ _ => true
  | _ => false
theorem all_split {L : List Jvm.Cond} {P : Jvm.Cond → Bool} (h1 : L.all (fun c => isCode c || P c) = true) (h2 : ∀ c ∈ L.filter isCode, P c = true) : L.all P = true := by
  refine List.all_eq_true.mpr fun c hc => ?_
  have h := List.all_eq_true.mp h1 c hc
  rcases Bool.eq_false_or_eq_true (isCode c) with hi | hi
  · exact h2 c (List.mem_filter.mpr ⟨hc, hi⟩)
  · simpa [hi] using h
set_option maxRecDepth 65536 in
theorem w_c0 : (Jvm.Cond.code x code maxLocals ret).before args0 about1 = true := code_word (m := ⟨1, 1⟩) (meth := k1m1) (c := k1c1) (by decide +kernel) rfl rfl rfl (by decide +kernel)
set_option maxRecDepth 65536 in
theorem w_c1 : (Jvm.Cond.code ({ cls := "com/example/gravamen/gravamen/benchmarks/Load$Result", name := "<init>", desc := "(JJD)V" } : Jvm.MethodName) prog_18_method_1_code (7 : Nat) (Option.none : Option Jvm.ClassFile.FieldType)).before args0 about1 = true := code_word (m := ⟨3, 0⟩) (meth := k3m0) (c := k3c0) (by decide +kernel) rfl rfl rfl (by decide +kernel)
set_option maxRecDepth 65536 in
theorem w_c2 : (Jvm.Cond.code ({ cls := "java/lang/Record", name := "<init>", desc := "()V" } : Jvm.MethodName) jdk_30_method_1_code (1 : Nat) (Option.none : Option Jvm.ClassFile.FieldType)).before args0 about1 = true := code_word (m := ⟨2, 0⟩) (meth := k2m0) (c := k2c0) (by decide +kernel) rfl rfl rfl (by decide +kernel)
set_option maxRecDepth 65536 in
theorem w_c3 : (Jvm.Cond.code ({ cls := "java/lang/Object", name := "<init>", desc := "()V" } : Jvm.MethodName) object_method_1_code (1 : Nat) (Option.none : Option Jvm.ClassFile.FieldType)).before args0 about1 = true := code_word (m := ⟨0, 0⟩) (meth := k0m0) (c := k0c0) (by decide +kernel) rfl rfl rfl (by decide +kernel)
set_option maxRecDepth 65536 in
theorem w_c4 : (Jvm.Cond.code ({ cls := "com/example/gravamen/gravamen/benchmarks/Load$Result", name := "then", desc := "(Lcom/example/gravamen/gravamen/benchmarks/Load$Result;)Lcom/example/gravamen/gravamen/benchmarks/Load$Result;" } : Jvm.MethodName) prog_18_method_4_code (2 : Nat) (Option.some (Jvm.ClassFile.FieldType.object "com/example/gravamen/gravamen/benchmarks/Load$Result"))).before args0 about1 = true := code_word (m := ⟨3, 1⟩) (meth := k3m1) (c := k3c1) (by decide +kernel) rfl rfl rfl (by decide +kernel)
set_option maxRecDepth 65536 in
theorem w_c5 : (Jvm.Cond.code ({ cls := "com/example/gravamen/gravamen/benchmarks/Load$Result", name := "answered", desc := "()J" } : Jvm.MethodName) prog_18_method_8_code (1 : Nat) (Option.some Jvm.ClassFile.FieldType.long)).before args0 about1 = true := code_word (m := ⟨3, 2⟩) (meth := k3m2) (c := k3c2) (by decide +kernel) rfl rfl rfl (by decide +kernel)
set_option maxRecDepth 65536 in
theorem w_c6 : (Jvm.Cond.code ({ cls := "com/example/gravamen/gravamen/benchmarks/Load$Result", name := "resets", desc := "()J" } : Jvm.MethodName) prog_18_method_9_code (1 : Nat) (Option.some Jvm.ClassFile.FieldType.long)).before args0 about1 = true := code_word (m := ⟨3, 3⟩) (meth := k3m3) (c := k3c3) (by decide +kernel) rfl rfl rfl (by decide +kernel)
set_option maxRecDepth 65536 in
theorem w_c7 : (Jvm.Cond.code ({ cls := "com/example/gravamen/gravamen/benchmarks/Load$Result", name := "seconds", desc := "()D" } : Jvm.MethodName) prog_18_method_10_code (1 : Nat) (Option.some Jvm.ClassFile.FieldType.double)).before args0 about1 = true := code_word (m := ⟨3, 4⟩) (meth := k3m4) (c := k3c4) (by decide +kernel) rfl rfl rfl (by decide +kernel)
def codes1 : List Jvm.Cond := [Jvm.Cond.code x code maxLocals ret, Jvm.Cond.code ({ cls := "com/example/gravamen/gravamen/benchmarks/Load$Result", name := "<init>", desc := "(JJD)V" } : Jvm.MethodName) prog_18_method_1_code (7 : Nat) (Option.none : Option Jvm.ClassFile.FieldType), Jvm.Cond.code ({ cls := "java/lang/Record", name := "<init>", desc := "()V" } : Jvm.MethodName) jdk_30_method_1_code (1 : Nat) (Option.none : Option Jvm.ClassFile.FieldType), Jvm.Cond.code ({ cls := "java/lang/Object", name := "<init>", desc := "()V" } : Jvm.MethodName) object_method_1_code (1 : Nat) (Option.none : Option Jvm.ClassFile.FieldType), Jvm.Cond.code ({ cls := "com/example/gravamen/gravamen/benchmarks/Load$Result", name := "then", desc := "(Lcom/example/gravamen/gravamen/benchmarks/Load$Result;)Lcom/example/gravamen/gravamen/benchmarks/Load$Result;" } : Jvm.MethodName) prog_18_method_4_code (2 : Nat) (Option.some (Jvm.ClassFile.FieldType.object "com/example/gravamen/gravamen/benchmarks/Load$Result")), Jvm.Cond.code ({ cls := "com/example/gravamen/gravamen/benchmarks/Load$Result", name := "answered", desc := "()J" } : Jvm.MethodName) prog_18_method_8_code (1 : Nat) (Option.some Jvm.ClassFile.FieldType.long), Jvm.Cond.code ({ cls := "com/example/gravamen/gravamen/benchmarks/Load$Result", name := "resets", desc := "()J" } : Jvm.MethodName) prog_18_method_9_code (1 : Nat) (Option.some Jvm.ClassFile.FieldType.long), Jvm.Cond.code ({ cls := "com/example/gravamen/gravamen/benchmarks/Load$Result", name := "seconds", desc := "()D" } : Jvm.MethodName) prog_18_method_10_code (1 : Nat) (Option.some Jvm.ClassFile.FieldType.double)]
set_option maxRecDepth 65536 in
theorem codes_eq : words1.filter isCode = codes1 := rfl
theorem w_codes : ∀ c ∈ words1.filter isCode, c.before args0 about1 = true := by
  rw [codes_eq]
  intro c hc
  simp only [codes1, List.mem_cons, List.not_mem_nil, or_false] at hc
  rcases hc with rfl | rfl | rfl | rfl | rfl | rfl | rfl | rfl
  · exact w_c0
  · exact w_c1
  · exact w_c2
  · exact w_c3
  · exact w_c4
  · exact w_c5
  · exact w_c6
  · exact w_c7
set_option maxRecDepth 65536 in
theorem w_t1 : (words1.take 24).all (fun c => isCode c || c.before args0 about1) = true := by decide +kernel
set_option maxRecDepth 65536 in
theorem w_t2 : (words1.drop 24).all (fun c => isCode c || c.before args0 about1) = true := by decide +kernel
theorem w_tables : (allAtoms (Jvm.Cond.code x code maxLocals ret :: tables_1)).before args0 about1 = true := by
  rw [allAtoms_all]
  show words1.all (fun c => c.before args0 about1) = true
  refine all_split ?_ w_codes
  rw [← List.take_append_drop 24 words1, List.all_append, w_t1, w_t2]
  rfl
set_option maxRecDepth 65536 in
theorem w_case : (Jvm.Cond.and given_1 narrow_1).before args0 about1 = true := by decide +kernel
theorem w_applies : (headSpec (Jvm.Cond.code x code maxLocals ret :: tables_1) room_1).applies x e0.platform about1 = true :=
  (Spec.applies_iff w_frames).mpr ⟨w_running, w_runnable, w_alone, w_named, w_hears, w_ripe, w_room, w_tables⟩
theorem atStart : AtStart classFile x code maxLocals ret World_1 tables_1 room_1 Calls_1 rest_1 Pre_1 launch0 p0 e0 about1 theMethod args0 below0 :=
  ⟨lists_1, trivial, launch0.admits_env _ _ _, launch0.least_env, fairChoices_fair.cas, fairChoices_fair.clock, w_frames, w_args, w_heap, w_applies, trivial, trivial, w_case⟩
end start1
theorem witness_1 : WitnessClaimed_1 := ⟨start1.p0, start1.e0, start1.about1, start1.theMethod, start1.args0, start1.below0, start1.atStart⟩
end Jvm.Pilot.@@N@@
