import JvmDerived
import JvmDerived.Pilot.@@N@@Statement
import JvmDerived.Pilot.@@N@@Code
set_option linter.unusedVariables false
set_option linter.unusedSimpArgs false
namespace Jvm.Pilot.@@N@@
open Jvm Jvm.ClassFile Sem Op Lib Jvm.Free Jvm.Stand Jvm.LawKit Jvm.RoadKit Bundle Jvm.Pilot.@@N@@.Jvm.D
/-! ## A body, its walk (Wk) and its contract (Cn) -/
abbrev Bdy : Type := MethodName × ByteArray × Nat × Option FieldType × Room
abbrev Bdy.y (b : Bdy) : MethodName := b.1
abbrev Bdy.code (b : Bdy) : ByteArray := b.2.1
abbrev Bdy.maxL (b : Bdy) : Nat := b.2.2.1
abbrev Bdy.ret (b : Bdy) : Option FieldType := b.2.2.2.1
abbrev Bdy.room (b : Bdy) : Room := b.2.2.2.2
/-- what is known of the VM's tables: none: only warmer; some: which texts were interned, which literals are resolved -/
abbrev Lts : Type := Option (List String × List (String × Nat × Addr))
def VI (Z : State) (I : Lts) (vm : Vm) : Prop := match I with
  | none => Z.WarmedH vm
  | some q => IB Z vm q.1 ∧ ∀ u ∈ q.2, Lit (Z.setVm vm) u.1 u.2.1 u.2.2
theorem VI.warm {Z s : State} {I : Lts} {vm' : Vm} (hV : VI Z I s.vm) (hW : s.WarmedH vm') : VI Z I vm' := by
  cases I with
  | none => exact State.WarmedH.trans hV hW
  | some q =>
    refine ⟨?_, fun u hu => ?_⟩
    · obtain ⟨more, h1, h2⟩ := hV.1
      exact ⟨more, by rw [hW.interned_eq]; exact h1, h2⟩
    · exact Lit.stays (vm0 := s.vm) (hV.2 u hu) (by exact hW.wide)
abbrev Cx : Type := Launch × State × Nat × Nat × Bdy × (Option Value → Heap → Lts → Prop)
abbrev Cx.l (c : Cx) : Launch := c.1
abbrev Cx.Z (c : Cx) : State := c.2.1
abbrev Cx.N (c : Cx) : Nat := c.2.2.1
abbrev Cx.M (c : Cx) : Nat := c.2.2.2.1
abbrev Cx.b (c : Cx) : Bdy := c.2.2.2.2.1
abbrev Cx.Q (c : Cx) : Option Value → Heap → Lts → Prop := c.2.2.2.2.2
def Fini (C : Cx) (s : State) (o : Outcome) (t : State) : Prop :=
  ∃ v L J, o = .returned v ∧ C.Q v t.heap J ∧ VI C.Z J t.vm ∧ Fr C.N L ∧ Ext C.Z.heap t.heap ∧ ReturnedEndW s o t L C.b.room.cells C.b.room.slots
def St (C : Cx) (p : Program) (e : Env) (s : State) (vm0 : Vm) (m : MethodId) (args : Array Value) (below : List Frame) (meth : Method) (c : Code) (T : State) (locs : List Loc) (k0 : Nat) (h : Heap) (k n : Nat) (I : Lts) : Prop :=
  (p.tables.exec = Jvm.exec ∧ c.code = C.b.code ∧ c.maxLocals = C.b.maxL ∧ meth.sig.returnType = C.b.ret ∧ meth.locks = false ∧ meth.name = C.b.y.name ∧ C.Z.heap.size ≤ C.N ∧ s.heap.size = C.M ∧ Ext C.Z.heap s.heap) ∧
  (vm0.findClass C.b.y.cls = some m.cls ∧ C.Z.Warmed39 vm0 ∧ s.Since vm0 k0 ∧ VI C.Z I vm0) ∧
  (k0 ≤ h.size ∧ Stand p C.l e C.b.room (s.setVm vm0) m args below meth c T locs k n ∧ T.heap = h ∧ Ext C.Z.heap h ∧ C.N ≤ h.size ∧ Fr C.N locs)
def Wk (C : Cx) (h : Heap) (k n : Nat) (I : Lts) (pc : Nat) (Ls : Array Slot) (st : List Value) : Prop :=
  ∀ (p : Program) (e : Env) (s : State) (vm0 : Vm) (m : MethodId) (args : Array Value) (below : List Frame) (meth : Method) (c : Code) (T : State) (locs : List Loc) (k0 : Nat),
    St C p e s vm0 m args below meth c T locs k0 h k n I →
    ∃ t o, Steps p.tables e below (T.setTop (mkF m pc Ls st)) t ∧ t.status = .running ∧ Ended t below o ∧ Fini C s o t
def Cn (l : Launch) (Z : State) (N : Nat) (b : Bdy) (as : Array Value) (h : Heap) (I : Lts) (Q : Option Value → Heap → Lts → Prop) : Prop :=
  ∀ ws : List Jvm.Cond, MetFree l b.y (head1 (Jvm.Cond.code b.y b.code b.maxL b.ret :: ws) b.room) (fun a U => a = as ∧ Z.Warmed39 U.vm ∧ U.heap = h ∧ VI Z I U.vm ∧ Ext Z.heap h ∧ N ≤ h.size ∧ Z.heap.size ≤ N) (fun _ _ _ _ _ => True) (fun _ U o U' => Fini (l, Z, N, h.size, b, Q) U o U')
theorem own_ext {h0 h : Heap} (K : Keep h0 h []) : Ext h0 h := ⟨K.1, fun a c q => K.2.1 a c q nin0⟩
section Kit
variable {C : Cx} {h h' : Heap} {k n k' n' : Nat} {I : Lts} {pc pc' : Nat} {Ls Ls' : Array Slot} {st st' rest : List Value} {a0 : Array Value}
theorem Wk.step (hs : ∀ (p : Program) (e : Env) (m : MethodId) (below : List Frame) (c : Code) (T t : State), At T m c below → p.tables.exec = Jvm.exec → c.code = C.b.code → Steps p.tables e below (T.setTop (mkF m pc' Ls' st')) t → Steps p.tables e below (T.setTop (mkF m pc Ls st)) t)
    (r : Wk C h k n I pc' Ls' st') : Wk C h k n I pc Ls st := fun p e s vm0 m args below meth c T locs k0 S => by
  obtain ⟨t, o, h1, h2⟩ := r p e s vm0 m args below meth c T locs k0 S
  exact ⟨t, o, hs p e m below c T t S.2.2.2.1.here S.1.1 S.1.2.1 h1, h2⟩
/-- a step over the Stand, the heap as it is -/
theorem Wk.law (hs : ∀ (p : Program) (e : Env) (s : State) (vm0 : Vm) (m : MethodId) (args : Array Value) (below : List Frame) (meth : Method) (c : Code) (T : State) (locs : List Loc) (k0 : Nat), St C p e s vm0 m args below meth c T locs k0 h k n I →
      ∃ T', Stand p C.l e C.b.room (s.setVm vm0) m args below meth c T' locs k n ∧ T'.heap = h ∧ ∀ t, Steps p.tables e below (T'.setTop (mkF m pc' Ls' st')) t → Steps p.tables e below (T.setTop (mkF m pc Ls st)) t)
    (r : Wk C h k n I pc' Ls' st') : Wk C h k n I pc Ls st := fun p e s vm0 m args below meth c T locs k0 S => by
  obtain ⟨T', X', e', st⟩ := hs p e s vm0 m args below meth c T locs k0 S
  obtain ⟨t, o, h1, h2⟩ := r p e s vm0 m args below meth c T' locs k0 ⟨S.1, S.2.1, S.2.2.1, X', e', S.2.2.2.2.2⟩
  exact ⟨t, o, st t h1, h2⟩
/-- a step that writes one place -/
theorem Wk.lawW {a : Addr} {sl : Nat} {v : Value} (ha : C.N ≤ a) (hs : ∀ (p : Program) (e : Env) (s : State) (vm0 : Vm) (m : MethodId) (args : Array Value) (below : List Frame) (meth : Method) (c : Code) (T : State) (locs : List Loc) (k0 : Nat), St C p e s vm0 m args below meth c T locs k0 h k n I →
      ∃ T' h', Stand p C.l e C.b.room (s.setVm vm0) m args below meth c T' (locs ++ [⟨a, sl⟩]) k n ∧ T'.heap = h' ∧ Wr h h' a sl v ∧ ∀ t, Steps p.tables e below (T'.setTop (mkF m pc' Ls' st')) t → Steps p.tables e below (T.setTop (mkF m pc Ls st)) t)
    (r : ∀ h', Wr h h' a sl v → Wk C h' k n I pc' Ls' st') : Wk C h k n I pc Ls st := fun p e s vm0 m args below meth c T locs k0 S => by
  obtain ⟨T', h', X', e', W, st⟩ := hs p e s vm0 m args below meth c T locs k0 S
  obtain ⟨A, B, q1, q2, q3, q4, q5, q6⟩ := S
  have hO : Old C.Z C.Z.heap.size h := ⟨rfl, q4⟩
  obtain ⟨t, o, h1, h2⟩ := r h' W p e s vm0 m args below meth c T' _ k0 ⟨A, B, by rw [W.size]; exact q1, X', e', (hO.wr W (Nat.le_trans A.2.2.2.2.2.2.1 ha)).2, by rw [W.size]; exact q5, Fr.snoc X' q6 ha⟩
  exact ⟨t, o, st t h1, h2⟩
/-- a step that makes a cell -/
theorem Wk.lawE {P : Heap → Prop} (hs : ∀ (p : Program) (e : Env) (s : State) (vm0 : Vm) (m : MethodId) (args : Array Value) (below : List Frame) (meth : Method) (c : Code) (T : State) (locs : List Loc) (k0 : Nat), St C p e s vm0 m args below meth c T locs k0 h k n I →
      ∃ T' h', Stand p C.l e C.b.room (s.setVm vm0) m args below meth c T' locs k' n' ∧ T'.heap = h' ∧ Ext h h' ∧ P h' ∧ ∀ t, Steps p.tables e below (T'.setTop (mkF m pc' Ls' st')) t → Steps p.tables e below (T.setTop (mkF m pc Ls st)) t)
    (r : ∀ h', Ext h h' → P h' → Wk C h' k' n' I pc' Ls' st') : Wk C h k n I pc Ls st := fun p e s vm0 m args below meth c T locs k0 S => by
  obtain ⟨T', h', X', e', E, hp, st⟩ := hs p e s vm0 m args below meth c T locs k0 S
  obtain ⟨A, B, q1, q2, q3, q4, q5, q6⟩ := S
  obtain ⟨t, o, h1, h2⟩ := r h' E hp p e s vm0 m args below meth c T' _ k0 ⟨A, B, Nat.le_trans q1 E.1, X', e', ⟨Nat.le_trans q4.1 E.1, fun x c hx => E.2 _ _ (q4.2 _ _ hx)⟩, Nat.le_trans q5 E.1, q6⟩
  exact ⟨t, o, st t h1, h2⟩
/-- what stands at every point -/
theorem Wk.see (r : Ext C.Z.heap h → C.N ≤ h.size → C.Z.heap.size ≤ C.N → Wk C h k n I pc Ls st) : Wk C h k n I pc Ls st := fun p e s vm0 m args below meth c T locs k0 S =>
  r S.2.2.2.2.2.1 S.2.2.2.2.2.2.1 S.1.2.2.2.2.2.2.1 p e s vm0 m args below meth c T locs k0 S
theorem Wk.more (hk : k ≤ k') (hn : n ≤ n') (r : Wk C h k' n' I pc Ls st) : Wk C h k n I pc Ls st := fun p e s vm0 m args below meth c T locs k0 S =>
  r p e s vm0 m args below meth c T locs k0 ⟨S.1, S.2.1, S.2.2.1, S.2.2.2.1.mono hk hn, S.2.2.2.2⟩
theorem Wk.iadd {x y : Int32} (hd : decode C.b.code pc = .ok (.iadd, 1)) (hp : pc + 1 = pc') (r : Wk C h k n I pc' Ls (.int (x + y) :: rest)) : Wk C h k n I pc Ls (.int y :: .int x :: rest) := by
  subst hp
  exact Wk.step (fun _ _ _ _ _ _ _ ha hx hby kt => XS.iadd ha hx rfl (hb hby hd) rfl kt) r
theorem Wk.isub {x y : Int32} (hd : decode C.b.code pc = .ok (.isub, 1)) (hp : pc + 1 = pc') (r : Wk C h k n I pc' Ls (.int (x - y) :: rest)) : Wk C h k n I pc Ls (.int y :: .int x :: rest) := by
  subst hp
  exact Wk.step (fun _ _ _ _ _ _ _ ha hx hby kt => XS.isub ha hx rfl (hb hby hd) rfl kt) r
theorem Wk.imul {x y : Int32} (hd : decode C.b.code pc = .ok (.imul, 1)) (hp : pc + 1 = pc') (r : Wk C h k n I pc' Ls (.int (x * y) :: rest)) : Wk C h k n I pc Ls (.int y :: .int x :: rest) := by
  subst hp
  exact Wk.step (fun _ _ _ _ _ _ _ ha hx hby kt => XS.imul ha hx rfl (hb hby hd) rfl kt) r
theorem Wk.iand {x y : Int32} (hd : decode C.b.code pc = .ok (.iand, 1)) (hp : pc + 1 = pc') (r : Wk C h k n I pc' Ls (.int (x &&& y) :: rest)) : Wk C h k n I pc Ls (.int y :: .int x :: rest) := by
  subst hp
  exact Wk.step (fun _ _ _ _ _ _ _ ha hx hby kt => XS.iand ha hx rfl (hb hby hd) rfl kt) r
theorem Wk.ior {x y : Int32} (hd : decode C.b.code pc = .ok (.ior, 1)) (hp : pc + 1 = pc') (r : Wk C h k n I pc' Ls (.int (x ||| y) :: rest)) : Wk C h k n I pc Ls (.int y :: .int x :: rest) := by
  subst hp
  exact Wk.step (fun _ _ _ _ _ _ _ ha hx hby kt => XS.ior ha hx rfl (hb hby hd) rfl kt) r
theorem Wk.ixor {x y : Int32} (hd : decode C.b.code pc = .ok (.ixor, 1)) (hp : pc + 1 = pc') (r : Wk C h k n I pc' Ls (.int (x ^^^ y) :: rest)) : Wk C h k n I pc Ls (.int y :: .int x :: rest) := by
  subst hp
  exact Wk.step (fun _ _ _ _ _ _ _ ha hx hby kt => XS.ixor ha hx rfl (hb hby hd) rfl kt) r
theorem Wk.ishl {x y : Int32} (hd : decode C.b.code pc = .ok (.ishl, 1)) (hp : pc + 1 = pc') (r : Wk C h k n I pc' Ls (.int (x <<< (y &&& 31)) :: rest)) : Wk C h k n I pc Ls (.int y :: .int x :: rest) := by
  subst hp
  exact Wk.step (fun _ _ _ _ _ _ _ ha hx hby kt => XS.ishl ha hx rfl (hb hby hd) rfl kt) r
theorem Wk.ishr {x y : Int32} (hd : decode C.b.code pc = .ok (.ishr, 1)) (hp : pc + 1 = pc') (r : Wk C h k n I pc' Ls (.int (x >>> (y &&& 31)) :: rest)) : Wk C h k n I pc Ls (.int y :: .int x :: rest) := by
  subst hp
  exact Wk.step (fun _ _ _ _ _ _ _ ha hx hby kt => XS.ishr ha hx rfl (hb hby hd) rfl kt) r
theorem Wk.iushr {x y : Int32} (hd : decode C.b.code pc = .ok (.iushr, 1)) (hp : pc + 1 = pc') (r : Wk C h k n I pc' Ls (.int ((x.toUInt32 >>> (y &&& 31).toUInt32).toInt32) :: rest)) : Wk C h k n I pc Ls (.int y :: .int x :: rest) := by
  subst hp
  exact Wk.step (fun _ _ _ _ _ _ _ ha hx hby kt => XS.iushr ha hx rfl (hb hby hd) rfl kt) r
theorem Wk.ladd {x y : Int64} (hd : decode C.b.code pc = .ok (.ladd, 1)) (hp : pc + 1 = pc') (r : Wk C h k n I pc' Ls (.long (x + y) :: rest)) : Wk C h k n I pc Ls (.long y :: .long x :: rest) := by
  subst hp
  exact Wk.step (fun _ _ _ _ _ _ _ ha hx hby kt => XS.ladd ha hx rfl (hb hby hd) rfl kt) r
theorem Wk.lsub {x y : Int64} (hd : decode C.b.code pc = .ok (.lsub, 1)) (hp : pc + 1 = pc') (r : Wk C h k n I pc' Ls (.long (x - y) :: rest)) : Wk C h k n I pc Ls (.long y :: .long x :: rest) := by
  subst hp
  exact Wk.step (fun _ _ _ _ _ _ _ ha hx hby kt => XS.lsub ha hx rfl (hb hby hd) rfl kt) r
theorem Wk.lmul {x y : Int64} (hd : decode C.b.code pc = .ok (.lmul, 1)) (hp : pc + 1 = pc') (r : Wk C h k n I pc' Ls (.long (x * y) :: rest)) : Wk C h k n I pc Ls (.long y :: .long x :: rest) := by
  subst hp
  exact Wk.step (fun _ _ _ _ _ _ _ ha hx hby kt => XS.lmul ha hx rfl (hb hby hd) rfl kt) r
theorem Wk.land {x y : Int64} (hd : decode C.b.code pc = .ok (.land, 1)) (hp : pc + 1 = pc') (r : Wk C h k n I pc' Ls (.long (x &&& y) :: rest)) : Wk C h k n I pc Ls (.long y :: .long x :: rest) := by
  subst hp
  exact Wk.step (fun _ _ _ _ _ _ _ ha hx hby kt => XS.land ha hx rfl (hb hby hd) rfl kt) r
theorem Wk.lor {x y : Int64} (hd : decode C.b.code pc = .ok (.lor, 1)) (hp : pc + 1 = pc') (r : Wk C h k n I pc' Ls (.long (x ||| y) :: rest)) : Wk C h k n I pc Ls (.long y :: .long x :: rest) := by
  subst hp
  exact Wk.step (fun _ _ _ _ _ _ _ ha hx hby kt => XS.lor ha hx rfl (hb hby hd) rfl kt) r
theorem Wk.lxor {x y : Int64} (hd : decode C.b.code pc = .ok (.lxor, 1)) (hp : pc + 1 = pc') (r : Wk C h k n I pc' Ls (.long (x ^^^ y) :: rest)) : Wk C h k n I pc Ls (.long y :: .long x :: rest) := by
  subst hp
  exact Wk.step (fun _ _ _ _ _ _ _ ha hx hby kt => XS.lxor ha hx rfl (hb hby hd) rfl kt) r
theorem Wk.lshl {x : Int64} {y : Int32} (hd : decode C.b.code pc = .ok (.lshl, 1)) (hp : pc + 1 = pc') (r : Wk C h k n I pc' Ls (.long (x <<< (y &&& 0x3f).toInt64) :: rest)) : Wk C h k n I pc Ls (.int y :: .long x :: rest) := by
  subst hp
  exact Wk.step (fun _ _ _ _ _ _ _ ha hx hby kt => XS.lshl ha hx rfl (hb hby hd) rfl kt) r
theorem Wk.lshr {x : Int64} {y : Int32} (hd : decode C.b.code pc = .ok (.lshr, 1)) (hp : pc + 1 = pc') (r : Wk C h k n I pc' Ls (.long (x >>> (y &&& 0x3f).toInt64) :: rest)) : Wk C h k n I pc Ls (.int y :: .long x :: rest) := by
  subst hp
  exact Wk.step (fun _ _ _ _ _ _ _ ha hx hby kt => XS.lshr ha hx rfl (hb hby hd) rfl kt) r
theorem Wk.lushr {x : Int64} {y : Int32} (hd : decode C.b.code pc = .ok (.lushr, 1)) (hp : pc + 1 = pc') (r : Wk C h k n I pc' Ls (.long ((x.toUInt64 >>> (y &&& 0x3f).toInt64.toUInt64).toInt64) :: rest)) : Wk C h k n I pc Ls (.int y :: .long x :: rest) := by
  subst hp
  exact Wk.step (fun _ _ _ _ _ _ _ ha hx hby kt => XS.lushr ha hx rfl (hb hby hd) rfl kt) r
theorem Wk.idiv {x y : Int32} (hd : decode C.b.code pc = .ok (.idiv, 1)) (hp : pc + 1 = pc') (hy : y ≠ 0) (r : Wk C h k n I pc' Ls (.int (x / y) :: rest)) : Wk C h k n I pc Ls (.int y :: .int x :: rest) := by
  subst hp
  exact Wk.step (fun _ _ _ _ _ _ _ ha hx hby kt => XS.idiv ha hx rfl (hb hby hd) rfl hy kt) r
theorem Wk.ldiv {x y : Int64} (hd : decode C.b.code pc = .ok (.ldiv, 1)) (hp : pc + 1 = pc') (hy : y ≠ 0) (r : Wk C h k n I pc' Ls (.long (x / y) :: rest)) : Wk C h k n I pc Ls (.long y :: .long x :: rest) := by
  subst hp
  exact Wk.step (fun _ _ _ _ _ _ _ ha hx hby kt => XS.ldiv ha hx rfl (hb hby hd) rfl hy kt) r
theorem Wk.lrem {x y : Int64} (hd : decode C.b.code pc = .ok (.lrem, 1)) (hp : pc + 1 = pc') (hy : y ≠ 0) (r : Wk C h k n I pc' Ls (.long (x - (x / y) * y) :: rest)) : Wk C h k n I pc Ls (.long y :: .long x :: rest) := by
  subst hp
  exact Wk.step (fun _ _ _ _ _ _ _ ha hx hby kt => XS.lrem ha hx rfl (hb hby hd) rfl hy kt) r
theorem Wk.ineg {x : Int32} (hd : decode C.b.code pc = .ok (.ineg, 1)) (hp : pc + 1 = pc') (r : Wk C h k n I pc' Ls (.int (-x) :: rest)) : Wk C h k n I pc Ls (.int x :: rest) := by
  subst hp
  exact Wk.step (fun _ _ _ _ _ _ _ ha hx hby kt => XS.ineg ha hx rfl (hb hby hd) rfl kt) r
theorem Wk.lneg {x : Int64} (hd : decode C.b.code pc = .ok (.lneg, 1)) (hp : pc + 1 = pc') (r : Wk C h k n I pc' Ls (.long (-x) :: rest)) : Wk C h k n I pc Ls (.long x :: rest) := by
  subst hp
  exact Wk.step (fun _ _ _ _ _ _ _ ha hx hby kt => XS.lneg ha hx rfl (hb hby hd) rfl kt) r
theorem Wk.i2l {x : Int32} (hd : decode C.b.code pc = .ok (.i2l, 1)) (hp : pc + 1 = pc') (r : Wk C h k n I pc' Ls (.long x.toInt64 :: rest)) : Wk C h k n I pc Ls (.int x :: rest) := by
  subst hp
  exact Wk.step (fun _ _ _ _ _ _ _ ha hx hby kt => XS.i2l ha hx rfl (hb hby hd) rfl kt) r
theorem Wk.l2i {x : Int64} (hd : decode C.b.code pc = .ok (.l2i, 1)) (hp : pc + 1 = pc') (r : Wk C h k n I pc' Ls (.int x.toInt32 :: rest)) : Wk C h k n I pc Ls (.long x :: rest) := by
  subst hp
  exact Wk.step (fun _ _ _ _ _ _ _ ha hx hby kt => XS.l2i ha hx rfl (hb hby hd) rfl kt) r
theorem Wk.i2b {x : Int32} (hd : decode C.b.code pc = .ok (.i2b, 1)) (hp : pc + 1 = pc') (r : Wk C h k n I pc' Ls (.int x.toInt8.toInt32 :: rest)) : Wk C h k n I pc Ls (.int x :: rest) := by
  subst hp
  exact Wk.step (fun _ _ _ _ _ _ _ ha hx hby kt => XS.i2b ha hx rfl (hb hby hd) rfl kt) r
theorem Wk.i2c {x : Int32} (hd : decode C.b.code pc = .ok (.i2c, 1)) (hp : pc + 1 = pc') (r : Wk C h k n I pc' Ls (.int x.toUInt32.toUInt16.toUInt32.toInt32 :: rest)) : Wk C h k n I pc Ls (.int x :: rest) := by
  subst hp
  exact Wk.step (fun _ _ _ _ _ _ _ ha hx hby kt => XS.i2c ha hx rfl (hb hby hd) rfl kt) r
theorem Wk.i2s {x : Int32} (hd : decode C.b.code pc = .ok (.i2s, 1)) (hp : pc + 1 = pc') (r : Wk C h k n I pc' Ls (.int x.toInt16.toInt32 :: rest)) : Wk C h k n I pc Ls (.int x :: rest) := by
  subst hp
  exact Wk.step (fun _ _ _ _ _ _ _ ha hx hby kt => XS.i2s ha hx rfl (hb hby hd) rfl kt) r
theorem Wk.lcmp {x y : Int64} (hd : decode C.b.code pc = .ok (.lcmp, 1)) (hp : pc + 1 = pc') (r : Wk C h k n I pc' Ls (.int (lcmpW x y) :: rest)) : Wk C h k n I pc Ls (.long y :: .long x :: rest) := by
  subst hp
  exact Wk.step (fun _ _ _ _ _ _ _ ha hx hby kt => XS.lcmp ha hx rfl (hb hby hd) rfl kt) r
theorem Wk.dup {x : Value} (hd : decode C.b.code pc = .ok (.dup, 1)) (hp : pc + 1 = pc') (hc : x.category = 1) (r : Wk C h k n I pc' Ls (x :: x :: rest)) : Wk C h k n I pc Ls (x :: rest) := by
  subst hp
  exact Wk.step (fun _ _ _ _ _ _ _ ha hx hby kt => XS.dup ha hx rfl (hb hby hd) rfl hc kt) r
theorem Wk.dupX1 {x y : Value} (hd : decode C.b.code pc = .ok (.dup_x1, 1)) (hp : pc + 1 = pc') (hc : x.category = 1) (hc2 : y.category = 1) (r : Wk C h k n I pc' Ls (x :: y :: x :: rest)) : Wk C h k n I pc Ls (x :: y :: rest) := by
  subst hp
  exact Wk.step (fun _ _ _ _ _ _ _ ha hx hby kt => XS.dupX1 ha hx rfl (hb hby hd) rfl hc hc2 kt) r
theorem Wk.dup2 {x y : Value} (hd : decode C.b.code pc = .ok (.dup2, 1)) (hp : pc + 1 = pc') (hc : x.category = 1) (hc2 : y.category = 1) (r : Wk C h k n I pc' Ls (x :: y :: x :: y :: rest)) : Wk C h k n I pc Ls (x :: y :: rest) := by
  subst hp
  exact Wk.step (fun _ _ _ _ _ _ _ ha hx hby kt => Jvm.Free.XT.dup2 ha hx rfl (hb hby hd) rfl hc hc2 kt) r
theorem Wk.dup2L {x : Int64} (hd : decode C.b.code pc = .ok (.dup2, 1)) (hp : pc + 1 = pc') (r : Wk C h k n I pc' Ls (.long x :: .long x :: rest)) : Wk C h k n I pc Ls (.long x :: rest) := by
  subst hp
  exact Wk.step (fun _ _ _ _ _ _ _ ha hx hby kt => Jvm.Free.XT.dup2L ha hx rfl (hb hby hd) rfl kt) r
theorem Wk.pop {x : Value} (hd : decode C.b.code pc = .ok (.pop, 1)) (hp : pc + 1 = pc') (hc : x.category = 1) (r : Wk C h k n I pc' Ls (rest)) : Wk C h k n I pc Ls (x :: rest) := by
  subst hp
  exact Wk.step (fun _ _ _ _ _ _ _ ha hx hby kt => XS.pop ha hx rfl (hb hby hd) rfl hc kt) r
theorem Wk.swap {x y : Value} (hd : decode C.b.code pc = .ok (.swap, 1)) (hp : pc + 1 = pc') (hc : x.category = 1) (hc2 : y.category = 1) (r : Wk C h k n I pc' Ls (y :: x :: rest)) : Wk C h k n I pc Ls (x :: y :: rest) := by
  subst hp
  exact Wk.step (fun _ _ _ _ _ _ _ ha hx hby kt => XS.swap ha hx rfl (hb hby hd) rfl hc hc2 kt) r
theorem Wk.aconstNull  (hd : decode C.b.code pc = .ok (.aconst_null, 1)) (hp : pc + 1 = pc') (r : Wk C h k n I pc' Ls (.null :: st)) : Wk C h k n I pc Ls (st) := by
  subst hp
  exact Wk.step (fun _ _ _ _ _ _ _ ha hx hby kt => XS.aconstNull ha hx rfl (hb hby hd)  kt) r
theorem Wk.i2d {x : Int32} (hd : decode C.b.code pc = .ok (.i2d, 1)) (hp : pc + 1 = pc') (r : Wk C h k n I pc' Ls (.double (FP.i2d x) :: rest)) : Wk C h k n I pc Ls (.int x :: rest) := by
  subst hp
  exact Wk.step (fun _ _ _ _ _ _ _ ha hx hby kt => XS.i2dS ha hx rfl (hb hby hd) rfl rfl kt) r
theorem Wk.l2d {x : Int64} (hd : decode C.b.code pc = .ok (.l2d, 1)) (hp : pc + 1 = pc') (r : Wk C h k n I pc' Ls (.double (FP.l2d x) :: rest)) : Wk C h k n I pc Ls (.long x :: rest) := by
  subst hp
  exact Wk.step (fun _ _ _ _ _ _ _ ha hx hby kt => XS.l2dS ha hx rfl (hb hby hd) rfl rfl kt) r
theorem Wk.dadd {x y : UInt64} (hd : decode C.b.code pc = .ok (.dadd, 1)) (hp : pc + 1 = pc') (hn : Jvm.Free.Fl.NoNaN64 (FP.dadd x y)) (r : Wk C h k n I pc' Ls (.double (FP.dadd x y) :: rest)) : Wk C h k n I pc Ls (.double y :: .double x :: rest) := by
  subst hp
  exact Wk.step (fun _ _ _ _ _ _ _ ha hx hby kt => XS.daddS ha hx rfl (hb hby hd) rfl hn rfl kt) r
theorem Wk.dcmpl {x y : UInt64} (hd : decode C.b.code pc = .ok (.dcmp .l, 1)) (hp : pc + 1 = pc') (r : Wk C h k n I pc' Ls (.int (cmpValue (FP.dcmp x y) .l) :: rest)) : Wk C h k n I pc Ls (.double y :: .double x :: rest) := by
  subst hp
  exact Wk.step (fun _ _ _ _ _ _ _ ha hx hby kt => XS.dcmpS ha hx rfl (hb hby hd) rfl rfl kt) r
theorem Wk.iconst {i : Int} {v : Int32} (hd : decode C.b.code pc = .ok (.iconst i, 1)) (hp : pc + 1 = pc') (hv : Int32.ofInt i = v) (r : Wk C h k n I pc' Ls (.int v :: st)) : Wk C h k n I pc Ls st := by
  subst hp hv
  exact Wk.step (fun _ _ _ _ _ _ _ ha hx hby kt => XS.iconst ha hx rfl (hb hby hd) kt) r
theorem Wk.bipush {i : Int} {v : Int32} (hd : decode C.b.code pc = .ok (.bipush i, 2)) (hp : pc + 2 = pc') (hv : (Int8.ofInt i).toInt32 = v) (r : Wk C h k n I pc' Ls (.int v :: st)) : Wk C h k n I pc Ls st := by
  subst hp hv
  exact Wk.step (fun _ _ _ _ _ _ _ ha hx hby kt => XS.bipush ha hx rfl (hb hby hd) kt) r
theorem Wk.sipush {i : Int} {v : Int32} (hd : decode C.b.code pc = .ok (.sipush i, 3)) (hp : pc + 3 = pc') (hv : (Int16.ofInt i).toInt32 = v) (r : Wk C h k n I pc' Ls (.int v :: st)) : Wk C h k n I pc Ls st := by
  subst hp hv
  exact Wk.step (fun _ _ _ _ _ _ _ ha hx hby kt => XS.sipush ha hx rfl (hb hby hd) kt) r
theorem Wk.lconst {i : Fin 2} {v : Int64} (hd : decode C.b.code pc = .ok (.lconst i, 1)) (hp : pc + 1 = pc') (hv : Int64.ofNat i = v) (r : Wk C h k n I pc' Ls (.long v :: st)) : Wk C h k n I pc Ls st := by
  subst hp hv
  exact Wk.step (fun _ _ _ _ _ _ _ ha hx hby kt => XS.lconst ha hx rfl (hb hby hd) kt) r
theorem Wk.iinc {j : Nat} {i : Int} {v x : Int32} (hd : decode C.b.code pc = .ok (.iinc j i, 3)) (hp : pc + 3 = pc') (hv : Int32.ofInt i = v) (hl : Ls[j]? = some (.val (.int x))) (hl' : storeLocals Ls j (.int (x + v)) = some Ls') (r : Wk C h k n I pc' Ls' st) : Wk C h k n I pc Ls st := by
  subst hp hv
  exact Wk.step (fun _ _ _ _ _ _ _ ha hx hby kt => XS.iinc ha hx rfl (hb hby hd) hl hl' kt) r
theorem Wk.goto {o : Int} (hd : decode C.b.code pc = .ok (.goto o, 3)) (hp : (pc : Int) + o = (pc' : Int)) (r : Wk C h k n I pc' Ls st) : Wk C h k n I pc Ls st :=
  Wk.step (fun _ _ _ _ _ _ _ ha hx hby kt => XS.goto (pc0 := pc) (pc' := pc') ha hx rfl rfl (hb hby hd) (by omega) (by omega) kt) r
theorem Wk.irem {x y : Int32} (hd : decode C.b.code pc = .ok (.irem, 1)) (hp : pc + 1 = pc') (hy : y ≠ 0) (r : Wk C h k n I pc' Ls (.int (x % y) :: rest)) : Wk C h k n I pc Ls (.int y :: .int x :: rest) := by
  subst hp
  refine Wk.law (fun p e s vm0 m args below meth c T locs k0 S => ⟨T, S.2.2.2.1, S.2.2.2.2.1, fun t kt => ?_⟩) r
  exact iremM S.2.2.2.1 S.1.1 rfl (hb S.1.2.1 hd) rfl hy kt
theorem Wk.iloadN {j : Fin 4} {v : Int32} (hd : decode C.b.code pc = .ok (.iload_n j, 1)) (hp : pc + 1 = pc') (hl : Ls[j.val]? = some (.val (.int v))) (r : Wk C h k n I pc' Ls (.int v :: st)) : Wk C h k n I pc Ls st := by
  subst hp
  exact Wk.step (fun _ _ _ _ _ _ _ ha hx hby kt => XS.iloadN ha hx rfl (hb hby hd) hl kt) r
theorem Wk.iload {j : Nat} {v : Int32} (hd : decode C.b.code pc = .ok (.iload j, 2)) (hp : pc + 2 = pc') (hl : Ls[j]? = some (.val (.int v))) (r : Wk C h k n I pc' Ls (.int v :: st)) : Wk C h k n I pc Ls st := by
  subst hp
  exact Wk.step (fun _ _ _ _ _ _ _ ha hx hby kt => XS.iload ha hx rfl (hb hby hd) hl kt) r
theorem Wk.lloadN {j : Fin 4} {v : Int64} (hd : decode C.b.code pc = .ok (.lload_n j, 1)) (hp : pc + 1 = pc') (hl : Ls[j.val]? = some (.val (.long v))) (r : Wk C h k n I pc' Ls (.long v :: st)) : Wk C h k n I pc Ls st := by
  subst hp
  exact Wk.step (fun _ _ _ _ _ _ _ ha hx hby kt => XS.lloadN ha hx rfl (hb hby hd) hl kt) r
theorem Wk.lload {j : Nat} {v : Int64} (hd : decode C.b.code pc = .ok (.lload j, 2)) (hp : pc + 2 = pc') (hl : Ls[j]? = some (.val (.long v))) (r : Wk C h k n I pc' Ls (.long v :: st)) : Wk C h k n I pc Ls st := by
  subst hp
  exact Wk.step (fun _ _ _ _ _ _ _ ha hx hby kt => XS.lload ha hx rfl (hb hby hd) hl kt) r
theorem Wk.dloadN {j : Fin 4} {v : UInt64} (hd : decode C.b.code pc = .ok (.dload_n j, 1)) (hp : pc + 1 = pc') (hl : Ls[j.val]? = some (.val (.double v))) (r : Wk C h k n I pc' Ls (.double v :: st)) : Wk C h k n I pc Ls st := by
  subst hp
  exact Wk.step (fun _ _ _ _ _ _ _ ha hx hby kt => XS.dloadN ha hx rfl (hb hby hd) hl kt) r
theorem Wk.dload {j : Nat} {v : UInt64} (hd : decode C.b.code pc = .ok (.dload j, 2)) (hp : pc + 2 = pc') (hl : Ls[j]? = some (.val (.double v))) (r : Wk C h k n I pc' Ls (.double v :: st)) : Wk C h k n I pc Ls st := by
  subst hp
  exact Wk.step (fun _ _ _ _ _ _ _ ha hx hby kt => XS.dload ha hx rfl (hb hby hd) hl kt) r
theorem Wk.aloadN {j : Fin 4} {v : Value} (hd : decode C.b.code pc = .ok (.aload_n j, 1)) (hp : pc + 1 = pc') (hl : Ls[j.val]? = some (.val v)) (hv : v.isRef = true) (r : Wk C h k n I pc' Ls (v :: st)) : Wk C h k n I pc Ls st := by
  subst hp
  exact Wk.step (fun _ _ _ _ _ _ _ ha hx hby kt => XS.aloadN ha hx rfl (hb hby hd) hl hv kt) r
theorem Wk.aload {j : Nat} {v : Value} (hd : decode C.b.code pc = .ok (.aload j, 2)) (hp : pc + 2 = pc') (hl : Ls[j]? = some (.val v)) (hv : v.isRef = true) (r : Wk C h k n I pc' Ls (v :: st)) : Wk C h k n I pc Ls st := by
  subst hp
  exact Wk.step (fun _ _ _ _ _ _ _ ha hx hby kt => XS.aload ha hx rfl (hb hby hd) hl hv kt) r
theorem Wk.istoreN {j : Fin 4} {v : Int32} (Ls' : Array Slot) (hd : decode C.b.code pc = .ok (.istore_n j, 1)) (hp : pc + 1 = pc') (hl : storeLocals Ls j.val (.int v) = some Ls') (r : Wk C h k n I pc' Ls' st) : Wk C h k n I pc Ls (.int v :: st) := by
  subst hp
  exact Wk.step (fun _ _ _ _ _ _ _ ha hx hby kt => XS.istoreN ha hx rfl (hb hby hd) rfl hl kt) r
theorem Wk.istore {j : Nat} {v : Int32} (Ls' : Array Slot) (hd : decode C.b.code pc = .ok (.istore j, 2)) (hp : pc + 2 = pc') (hl : storeLocals Ls j (.int v) = some Ls') (r : Wk C h k n I pc' Ls' st) : Wk C h k n I pc Ls (.int v :: st) := by
  subst hp
  exact Wk.step (fun _ _ _ _ _ _ _ ha hx hby kt => XS.istore ha hx rfl (hb hby hd) rfl hl kt) r
theorem Wk.lstoreN {j : Fin 4} {v : Int64} (Ls' : Array Slot) (hd : decode C.b.code pc = .ok (.lstore_n j, 1)) (hp : pc + 1 = pc') (hl : storeLocals Ls j.val (.long v) = some Ls') (r : Wk C h k n I pc' Ls' st) : Wk C h k n I pc Ls (.long v :: st) := by
  subst hp
  exact Wk.step (fun _ _ _ _ _ _ _ ha hx hby kt => XS.lstoreN ha hx rfl (hb hby hd) rfl hl kt) r
theorem Wk.lstore {j : Nat} {v : Int64} (Ls' : Array Slot) (hd : decode C.b.code pc = .ok (.lstore j, 2)) (hp : pc + 2 = pc') (hl : storeLocals Ls j (.long v) = some Ls') (r : Wk C h k n I pc' Ls' st) : Wk C h k n I pc Ls (.long v :: st) := by
  subst hp
  exact Wk.step (fun _ _ _ _ _ _ _ ha hx hby kt => XS.lstore ha hx rfl (hb hby hd) rfl hl kt) r
theorem Wk.dstoreN {j : Fin 4} {v : UInt64} (Ls' : Array Slot) (hd : decode C.b.code pc = .ok (.dstore_n j, 1)) (hp : pc + 1 = pc') (hl : storeLocals Ls j.val (.double v) = some Ls') (r : Wk C h k n I pc' Ls' st) : Wk C h k n I pc Ls (.double v :: st) := by
  subst hp
  exact Wk.step (fun _ _ _ _ _ _ _ ha hx hby kt => XS.dstoreN ha hx rfl (hb hby hd) rfl hl kt) r
theorem Wk.dstore {j : Nat} {v : UInt64} (Ls' : Array Slot) (hd : decode C.b.code pc = .ok (.dstore j, 2)) (hp : pc + 2 = pc') (hl : storeLocals Ls j (.double v) = some Ls') (r : Wk C h k n I pc' Ls' st) : Wk C h k n I pc Ls (.double v :: st) := by
  subst hp
  exact Wk.step (fun _ _ _ _ _ _ _ ha hx hby kt => XS.dstore ha hx rfl (hb hby hd) rfl hl kt) r
theorem Wk.astoreN {j : Fin 4} {v : Value} (Ls' : Array Slot) (hd : decode C.b.code pc = .ok (.astore_n j, 1)) (hp : pc + 1 = pc') (hv : v.isRef = true) (hl : storeLocals Ls j.val v = some Ls') (r : Wk C h k n I pc' Ls' st) : Wk C h k n I pc Ls (v :: st) := by
  subst hp
  exact Wk.step (fun _ _ _ _ _ _ _ ha hx hby kt => XS.astoreN ha hx rfl (hb hby hd) rfl hv hl kt) r
theorem Wk.astore {j : Nat} {v : Value} (Ls' : Array Slot) (hd : decode C.b.code pc = .ok (.astore j, 2)) (hp : pc + 2 = pc') (hv : v.isRef = true) (hl : storeLocals Ls j v = some Ls') (r : Wk C h k n I pc' Ls' st) : Wk C h k n I pc Ls (v :: st) := by
  subst hp
  exact Wk.step (fun _ _ _ _ _ _ _ ha hx hby kt => XS.astore ha hx rfl (hb hby hd) rfl hv hl kt) r
theorem Wk.icmp_eqY {x y : Int32} {o : Int} (hd : decode C.b.code pc = .ok (.if_icmp .eq o, 3)) (hp : (pc : Int) + o = (pc' : Int)) (hc : x = y) (r : Wk C h k n I pc' Ls st) : Wk C h k n I pc Ls (.int y :: .int x :: st) :=
  Wk.step (fun _ _ _ _ _ _ _ ha hx hby kt => XS.icmpYes (pc0 := pc) (pc' := pc') ha hx rfl rfl (hb hby hd) rfl ((teq hc).1) (by omega) (by omega) kt) r
theorem Wk.if_eqY {x : Int32} {o : Int} (hd : decode C.b.code pc = .ok (.ifCond .eq o, 3)) (hp : (pc : Int) + o = (pc' : Int)) (hc : x = (0 : Int32)) (r : Wk C h k n I pc' Ls st) : Wk C h k n I pc Ls (.int x :: st) :=
  Wk.step (fun _ _ _ _ _ _ _ ha hx hby kt => XS.ifYes (pc0 := pc) (pc' := pc') ha hx rfl rfl (hb hby hd) rfl ((if0 _ _).trans (teq hc).1) (by omega) (by omega) kt) r
theorem Wk.icmp_eqN {x y : Int32} {o : Int} (hd : decode C.b.code pc = .ok (.if_icmp .eq o, 3)) (hp : pc + 3 = pc') (hc : ¬ x = y) (r : Wk C h k n I pc' Ls st) : Wk C h k n I pc Ls (.int y :: .int x :: st) := by
  subst hp
  exact Wk.step (fun _ _ _ _ _ _ _ ha hx hby kt => XS.icmpNo ha hx rfl (hb hby hd) rfl ((feq hc).1) kt) r
theorem Wk.if_eqN {x : Int32} {o : Int} (hd : decode C.b.code pc = .ok (.ifCond .eq o, 3)) (hp : pc + 3 = pc') (hc : ¬ x = (0 : Int32)) (r : Wk C h k n I pc' Ls st) : Wk C h k n I pc Ls (.int x :: st) := by
  subst hp
  exact Wk.step (fun _ _ _ _ _ _ _ ha hx hby kt => XS.ifNo ha hx rfl (hb hby hd) rfl ((if0 _ _).trans (feq hc).1) kt) r
theorem Wk.icmp_neY {x y : Int32} {o : Int} (hd : decode C.b.code pc = .ok (.if_icmp .ne o, 3)) (hp : (pc : Int) + o = (pc' : Int)) (hc : ¬ x = y) (r : Wk C h k n I pc' Ls st) : Wk C h k n I pc Ls (.int y :: .int x :: st) :=
  Wk.step (fun _ _ _ _ _ _ _ ha hx hby kt => XS.icmpYes (pc0 := pc) (pc' := pc') ha hx rfl rfl (hb hby hd) rfl ((feq hc).2) (by omega) (by omega) kt) r
theorem Wk.if_neY {x : Int32} {o : Int} (hd : decode C.b.code pc = .ok (.ifCond .ne o, 3)) (hp : (pc : Int) + o = (pc' : Int)) (hc : ¬ x = (0 : Int32)) (r : Wk C h k n I pc' Ls st) : Wk C h k n I pc Ls (.int x :: st) :=
  Wk.step (fun _ _ _ _ _ _ _ ha hx hby kt => XS.ifYes (pc0 := pc) (pc' := pc') ha hx rfl rfl (hb hby hd) rfl ((if0 _ _).trans (feq hc).2) (by omega) (by omega) kt) r
theorem Wk.icmp_neN {x y : Int32} {o : Int} (hd : decode C.b.code pc = .ok (.if_icmp .ne o, 3)) (hp : pc + 3 = pc') (hc : x = y) (r : Wk C h k n I pc' Ls st) : Wk C h k n I pc Ls (.int y :: .int x :: st) := by
  subst hp
  exact Wk.step (fun _ _ _ _ _ _ _ ha hx hby kt => XS.icmpNo ha hx rfl (hb hby hd) rfl ((teq hc).2) kt) r
theorem Wk.if_neN {x : Int32} {o : Int} (hd : decode C.b.code pc = .ok (.ifCond .ne o, 3)) (hp : pc + 3 = pc') (hc : x = (0 : Int32)) (r : Wk C h k n I pc' Ls st) : Wk C h k n I pc Ls (.int x :: st) := by
  subst hp
  exact Wk.step (fun _ _ _ _ _ _ _ ha hx hby kt => XS.ifNo ha hx rfl (hb hby hd) rfl ((if0 _ _).trans (teq hc).2) kt) r
theorem Wk.icmp_ltY {x y : Int32} {o : Int} (hd : decode C.b.code pc = .ok (.if_icmp .lt o, 3)) (hp : (pc : Int) + o = (pc' : Int)) (hc : x < y) (r : Wk C h k n I pc' Ls st) : Wk C h k n I pc Ls (.int y :: .int x :: st) :=
  Wk.step (fun _ _ _ _ _ _ _ ha hx hby kt => XS.icmpYes (pc0 := pc) (pc' := pc') ha hx rfl rfl (hb hby hd) rfl ((tlt hc).1) (by omega) (by omega) kt) r
theorem Wk.if_ltY {x : Int32} {o : Int} (hd : decode C.b.code pc = .ok (.ifCond .lt o, 3)) (hp : (pc : Int) + o = (pc' : Int)) (hc : x < (0 : Int32)) (r : Wk C h k n I pc' Ls st) : Wk C h k n I pc Ls (.int x :: st) :=
  Wk.step (fun _ _ _ _ _ _ _ ha hx hby kt => XS.ifYes (pc0 := pc) (pc' := pc') ha hx rfl rfl (hb hby hd) rfl ((if0 _ _).trans (tlt hc).1) (by omega) (by omega) kt) r
theorem Wk.icmp_ltN {x y : Int32} {o : Int} (hd : decode C.b.code pc = .ok (.if_icmp .lt o, 3)) (hp : pc + 3 = pc') (hc : ¬ x < y) (r : Wk C h k n I pc' Ls st) : Wk C h k n I pc Ls (.int y :: .int x :: st) := by
  subst hp
  exact Wk.step (fun _ _ _ _ _ _ _ ha hx hby kt => XS.icmpNo ha hx rfl (hb hby hd) rfl ((flt hc).1) kt) r
theorem Wk.if_ltN {x : Int32} {o : Int} (hd : decode C.b.code pc = .ok (.ifCond .lt o, 3)) (hp : pc + 3 = pc') (hc : ¬ x < (0 : Int32)) (r : Wk C h k n I pc' Ls st) : Wk C h k n I pc Ls (.int x :: st) := by
  subst hp
  exact Wk.step (fun _ _ _ _ _ _ _ ha hx hby kt => XS.ifNo ha hx rfl (hb hby hd) rfl ((if0 _ _).trans (flt hc).1) kt) r
theorem Wk.icmp_geY {x y : Int32} {o : Int} (hd : decode C.b.code pc = .ok (.if_icmp .ge o, 3)) (hp : (pc : Int) + o = (pc' : Int)) (hc : ¬ x < y) (r : Wk C h k n I pc' Ls st) : Wk C h k n I pc Ls (.int y :: .int x :: st) :=
  Wk.step (fun _ _ _ _ _ _ _ ha hx hby kt => XS.icmpYes (pc0 := pc) (pc' := pc') ha hx rfl rfl (hb hby hd) rfl ((flt hc).2.1) (by omega) (by omega) kt) r
theorem Wk.if_geY {x : Int32} {o : Int} (hd : decode C.b.code pc = .ok (.ifCond .ge o, 3)) (hp : (pc : Int) + o = (pc' : Int)) (hc : ¬ x < (0 : Int32)) (r : Wk C h k n I pc' Ls st) : Wk C h k n I pc Ls (.int x :: st) :=
  Wk.step (fun _ _ _ _ _ _ _ ha hx hby kt => XS.ifYes (pc0 := pc) (pc' := pc') ha hx rfl rfl (hb hby hd) rfl ((if0 _ _).trans (flt hc).2.1) (by omega) (by omega) kt) r
theorem Wk.icmp_geN {x y : Int32} {o : Int} (hd : decode C.b.code pc = .ok (.if_icmp .ge o, 3)) (hp : pc + 3 = pc') (hc : x < y) (r : Wk C h k n I pc' Ls st) : Wk C h k n I pc Ls (.int y :: .int x :: st) := by
  subst hp
  exact Wk.step (fun _ _ _ _ _ _ _ ha hx hby kt => XS.icmpNo ha hx rfl (hb hby hd) rfl ((tlt hc).2.1) kt) r
theorem Wk.if_geN {x : Int32} {o : Int} (hd : decode C.b.code pc = .ok (.ifCond .ge o, 3)) (hp : pc + 3 = pc') (hc : x < (0 : Int32)) (r : Wk C h k n I pc' Ls st) : Wk C h k n I pc Ls (.int x :: st) := by
  subst hp
  exact Wk.step (fun _ _ _ _ _ _ _ ha hx hby kt => XS.ifNo ha hx rfl (hb hby hd) rfl ((if0 _ _).trans (tlt hc).2.1) kt) r
theorem Wk.icmp_gtY {x y : Int32} {o : Int} (hd : decode C.b.code pc = .ok (.if_icmp .gt o, 3)) (hp : (pc : Int) + o = (pc' : Int)) (hc : y < x) (r : Wk C h k n I pc' Ls st) : Wk C h k n I pc Ls (.int y :: .int x :: st) :=
  Wk.step (fun _ _ _ _ _ _ _ ha hx hby kt => XS.icmpYes (pc0 := pc) (pc' := pc') ha hx rfl rfl (hb hby hd) rfl ((tlt hc).2.2.1) (by omega) (by omega) kt) r
theorem Wk.if_gtY {x : Int32} {o : Int} (hd : decode C.b.code pc = .ok (.ifCond .gt o, 3)) (hp : (pc : Int) + o = (pc' : Int)) (hc : (0 : Int32) < x) (r : Wk C h k n I pc' Ls st) : Wk C h k n I pc Ls (.int x :: st) :=
  Wk.step (fun _ _ _ _ _ _ _ ha hx hby kt => XS.ifYes (pc0 := pc) (pc' := pc') ha hx rfl rfl (hb hby hd) rfl ((if0 _ _).trans (tlt hc).2.2.1) (by omega) (by omega) kt) r
theorem Wk.icmp_gtN {x y : Int32} {o : Int} (hd : decode C.b.code pc = .ok (.if_icmp .gt o, 3)) (hp : pc + 3 = pc') (hc : ¬ y < x) (r : Wk C h k n I pc' Ls st) : Wk C h k n I pc Ls (.int y :: .int x :: st) := by
  subst hp
  exact Wk.step (fun _ _ _ _ _ _ _ ha hx hby kt => XS.icmpNo ha hx rfl (hb hby hd) rfl ((flt hc).2.2.1) kt) r
theorem Wk.if_gtN {x : Int32} {o : Int} (hd : decode C.b.code pc = .ok (.ifCond .gt o, 3)) (hp : pc + 3 = pc') (hc : ¬ (0 : Int32) < x) (r : Wk C h k n I pc' Ls st) : Wk C h k n I pc Ls (.int x :: st) := by
  subst hp
  exact Wk.step (fun _ _ _ _ _ _ _ ha hx hby kt => XS.ifNo ha hx rfl (hb hby hd) rfl ((if0 _ _).trans (flt hc).2.2.1) kt) r
theorem Wk.icmp_leY {x y : Int32} {o : Int} (hd : decode C.b.code pc = .ok (.if_icmp .le o, 3)) (hp : (pc : Int) + o = (pc' : Int)) (hc : ¬ y < x) (r : Wk C h k n I pc' Ls st) : Wk C h k n I pc Ls (.int y :: .int x :: st) :=
  Wk.step (fun _ _ _ _ _ _ _ ha hx hby kt => XS.icmpYes (pc0 := pc) (pc' := pc') ha hx rfl rfl (hb hby hd) rfl ((flt hc).2.2.2) (by omega) (by omega) kt) r
theorem Wk.if_leY {x : Int32} {o : Int} (hd : decode C.b.code pc = .ok (.ifCond .le o, 3)) (hp : (pc : Int) + o = (pc' : Int)) (hc : ¬ (0 : Int32) < x) (r : Wk C h k n I pc' Ls st) : Wk C h k n I pc Ls (.int x :: st) :=
  Wk.step (fun _ _ _ _ _ _ _ ha hx hby kt => XS.ifYes (pc0 := pc) (pc' := pc') ha hx rfl rfl (hb hby hd) rfl ((if0 _ _).trans (flt hc).2.2.2) (by omega) (by omega) kt) r
theorem Wk.icmp_leN {x y : Int32} {o : Int} (hd : decode C.b.code pc = .ok (.if_icmp .le o, 3)) (hp : pc + 3 = pc') (hc : y < x) (r : Wk C h k n I pc' Ls st) : Wk C h k n I pc Ls (.int y :: .int x :: st) := by
  subst hp
  exact Wk.step (fun _ _ _ _ _ _ _ ha hx hby kt => XS.icmpNo ha hx rfl (hb hby hd) rfl ((tlt hc).2.2.2) kt) r
theorem Wk.if_leN {x : Int32} {o : Int} (hd : decode C.b.code pc = .ok (.ifCond .le o, 3)) (hp : pc + 3 = pc') (hc : (0 : Int32) < x) (r : Wk C h k n I pc' Ls st) : Wk C h k n I pc Ls (.int x :: st) := by
  subst hp
  exact Wk.step (fun _ _ _ _ _ _ _ ha hx hby kt => XS.ifNo ha hx rfl (hb hby hd) rfl ((if0 _ _).trans (tlt hc).2.2.2) kt) r
theorem Wk.ifnullY {o : Int} (hd : decode C.b.code pc = .ok (.ifnull o, 3)) (hp : (pc : Int) + o = (pc' : Int)) (r : Wk C h k n I pc' Ls st) : Wk C h k n I pc Ls (.null :: st) :=
  Wk.step (fun _ _ _ _ _ _ _ ha hx hby kt => XS.ifnullYes (pc0 := pc) (pc' := pc') ha hx rfl rfl (hb hby hd) rfl (by omega) (by omega) kt) r
theorem Wk.ifnullN {o : Int} {a : Addr} (hd : decode C.b.code pc = .ok (.ifnull o, 3)) (hp : pc + 3 = pc') (r : Wk C h k n I pc' Ls st) : Wk C h k n I pc Ls (.ref a :: st) := by
  subst hp
  exact Wk.step (fun _ _ _ _ _ _ _ ha hx hby kt => XS.ifnullNo ha hx rfl (hb hby hd) rfl kt) r
theorem Wk.ifnonnullY {o : Int} {a : Addr} (hd : decode C.b.code pc = .ok (.ifnonnull o, 3)) (hp : (pc : Int) + o = (pc' : Int)) (r : Wk C h k n I pc' Ls st) : Wk C h k n I pc Ls (.ref a :: st) :=
  Wk.step (fun _ _ _ _ _ _ _ ha hx hby kt => XS.ifnonnullYes (pc0 := pc) (pc' := pc') ha hx rfl rfl (hb hby hd) rfl (by omega) (by omega) kt) r
theorem Wk.ifnonnullN {o : Int} (hd : decode C.b.code pc = .ok (.ifnonnull o, 3)) (hp : pc + 3 = pc') (r : Wk C h k n I pc' Ls st) : Wk C h k n I pc Ls (.null :: st) := by
  subst hp
  exact Wk.step (fun _ _ _ _ _ _ _ ha hx hby kt => XS.ifnonnullNo ha hx rfl (hb hby hd) rfl kt) r
theorem Wk.acmp {cd : ACond} {o : Int} {u v : Value} {same : Bool} (hd : decode C.b.code pc = .ok (.if_acmp cd o, 3)) (hu : u.isRef = true) (hv : v.isRef = true) (hq : decide (u = v) = same) (ho : 0 ≤ (pc : Int) + o) (hp : pc' = if acV cd same = true then ((pc : Int) + o).toNat else pc + 3) (r : Wk C h k n I pc' Ls st) : Wk C h k n I pc Ls (v :: u :: st) :=
  Wk.law (fun p e s vm0 m args below meth c T locs k0 S => ⟨T, S.2.2.2.1, S.2.2.2.2.1, fun t kt => Jvm.RoadKit.acmp (g := mkF m pc Ls (v :: u :: st)) S.2.2.2.1 S.1.1 rfl hu hv (pc0 := pc) (pc' := pc') rfl (hb S.1.2.1 hd) rfl hq ho hp kt⟩) r
theorem Wk.getF {R0 O f d host : String} {idx : Nat} {a : Addr} {v : Value} (w : (Jvm.Cond.fieldLink C.b.y.cls idx R0 f d).before a0 C.Z = true ∨ (Jvm.Cond.fieldLinkNest C.b.y.cls idx R0 f d host).before a0 C.Z = true) (via : Via C.Z R0 O f d) (F : Fld C.Z h a O f d v) (hd : decode C.b.code pc = .ok (.getfield idx, 3)) (hp : pc + 3 = pc') (r : Wk C h k n I pc' Ls (v :: st)) : Wk C h k n I pc Ls (.ref a :: st) := by
  subst hp
  exact Wk.law (fun p e s vm0 m args below meth c T locs k0 S => Jvm.RoadKit.getF (g := mkF m pc Ls (.ref a :: st)) S.2.2.2.1 S.1.1 S.2.1.2.1 S.2.1.1 w via S.2.2.2.2.1 F rfl rfl (hb S.1.2.1 hd)) r
theorem Wk.getS {R0 O f d host : String} {idx : Nat} {v : Value} (w : (Jvm.Cond.fieldLink C.b.y.cls idx R0 f d).before a0 C.Z = true ∨ (Jvm.Cond.fieldLinkNest C.b.y.cls idx R0 f d host).before a0 C.Z = true) (via : Via C.Z R0 O f d) (F : Sta C.Z C.Z.heap O f d v) (hd : decode C.b.code pc = .ok (.getstatic idx, 3)) (hp : pc + 3 = pc') (r : Wk C h k n I pc' Ls (v :: st)) : Wk C h k n I pc Ls st := by
  subst hp
  exact Wk.law (fun p e s vm0 m args below meth c T locs k0 S => getS2 (g := mkF m pc Ls st) S.2.2.2.1 S.1.1 S.2.1.2.1 S.2.1.1 w via S.2.2.2.2.1 (F.ext S.2.2.2.2.2.1) rfl (hb S.1.2.1 hd)) r
theorem Wk.putF {R0 O f d host K : String} {idx kk : Nat} {a : Addr} {v old : Value} {ty : FieldType} (w : (Jvm.Cond.fieldLink C.b.y.cls idx R0 f d).before a0 C.Z = true ∨ (Jvm.Cond.fieldLinkNest C.b.y.cls idx R0 f d host).before a0 C.Z = true) (via : Via C.Z R0 O f d) (ha : C.N ≤ a) (F : Fld C.Z h a O f d old) (E : Exa C.Z h a K)
    (L : (Jvm.Cond.lays K O f d).before a0 C.Z = true ∨ ((Jvm.Cond.laysFinal K O f d).before a0 C.Z = true ∧ C.b.y.cls = O ∧ C.b.y.name = "<init>")) (wi : (Jvm.Cond.instantiable K kk).before a0 C.Z = true) (hty : parseFieldDescriptor d = some ty) (hn : narrow ty v = v) (hf : fits ty v = true) (hd : decode C.b.code pc = .ok (.putfield idx, 3)) (hp : pc + 3 = pc')
    (r : ∀ h', Wr h h' a (Jvm.RoadKit.slotOf C.Z O f d) v → Wk C h' k n I pc' Ls st) : Wk C h k n I pc Ls (v :: .ref a :: st) := by
  subst hp
  exact Wk.lawW ha (fun p e s vm0 m args below meth c T locs k0 S => Jvm.RoadKit.putF (g := mkF m pc Ls (v :: .ref a :: st)) S.2.2.2.1 S.1.1 S.2.1.2.1 S.2.1.1 w via S.2.2.2.2.1 F E (L.imp id fun q => ⟨q.1, q.2.1, S.1.2.2.2.2.2.1.trans q.2.2⟩) wi hty hn hf rfl rfl (hb S.1.2.1 hd)) r
theorem Wk.putFN {R0 O f d K : String} {idx kk : Nat} {a : Addr} {v v' old : Value} {ty : FieldType} (w : (Jvm.Cond.fieldLink C.b.y.cls idx R0 f d).before a0 C.Z = true) (via : Via C.Z R0 O f d) (ha : C.N ≤ a) (F : Fld C.Z h a O f d old) (E : Exa C.Z h a K)
    (L : (Jvm.Cond.lays K O f d).before a0 C.Z = true ∨ ((Jvm.Cond.laysFinal K O f d).before a0 C.Z = true ∧ C.b.y.cls = O ∧ C.b.y.name = "<init>")) (wi : (Jvm.Cond.instantiable K kk).before a0 C.Z = true) (hty : parseFieldDescriptor d = some ty) (hn : narrow ty v = v') (hf : fits ty v' = true) (hd : decode C.b.code pc = .ok (.putfield idx, 3)) (hp : pc + 3 = pc')
    (r : ∀ h', Wr h h' a (Jvm.RoadKit.slotOf C.Z O f d) v' → Wk C h' k n I pc' Ls st) : Wk C h k n I pc Ls (v :: .ref a :: st) := by
  subst hp
  exact Wk.lawW ha (fun p e s vm0 m args below meth c T locs k0 S => Jvm.RoadKit.putFN (g := mkF m pc Ls (v :: .ref a :: st)) S.2.2.2.1 S.1.1 S.2.1.2.1 S.2.1.1 w via S.2.2.2.2.1 F E (L.imp id fun q => ⟨q.1, q.2.1, S.1.2.2.2.2.2.1.trans q.2.2⟩) wi hty hn hf rfl rfl (hb S.1.2.1 hd)) r
theorem Wk.newO {K : String} {idx j : Nat} (w : (Jvm.Cond.classLink C.b.y.cls idx K).before a0 C.Z = true) (wi : (Jvm.Cond.instantiable K j).before a0 C.Z = true) (wz : (Jvm.Cond.initialized K).before a0 C.Z = true) (hd : decode C.b.code pc = .ok (.new idx, 3)) (hp : pc + 3 = pc') (hk : k + 1 = k') (hn : n + j = n') (hc : k' ≤ C.b.room.cells) (hl : n' ≤ C.b.room.slots)
    (r : ∀ a h', h.size ≤ a → C.N ≤ a → Ext h h' → Exa C.Z h' a K → (∀ {O nm d : String} {ty : FieldType}, Laid C.Z a0 K O nm d → parseFieldDescriptor d = some ty → Fld C.Z h' a O nm d (defaultValue ty)) → Wk C h' k' n' I pc' Ls (.ref a :: st)) : Wk C h k n I pc Ls st := by
  subst hp hk hn
  refine Wk.see fun _ z2 _ => ?_
  refine Wk.lawE (P := fun h' => Exa C.Z h' h.size K ∧ ∀ {O nm d : String} {ty : FieldType}, Laid C.Z a0 K O nm d → parseFieldDescriptor d = some ty → Fld C.Z h' h.size O nm d (defaultValue ty)) (fun p e s vm0 m args below meth c T locs k0 S => ?_) (fun h' E q => r h.size h' (Nat.le_refl _) z2 E q.1 q.2)
  obtain ⟨T', h', X', e', E, A, D, -, st⟩ := Jvm.RoadKit.newO (g := mkF m pc Ls st) S.2.2.2.1 S.1.1 S.2.1.2.1 S.2.1.1 w wi wz S.2.2.2.2.1 rfl (hb S.1.2.1 hd) hc hl
  exact ⟨T', h', X', e', E, ⟨A, D⟩, st⟩
theorem Wk.initO {idx W : Nat} {a : Addr} (w1 : (Jvm.Cond.methodLink C.b.y.cls idx Lib.objectInit).before a0 C.Z = true) (w2 : (Jvm.Cond.instanceMethod Lib.objectInit).before a0 C.Z = true) (w3 : (Jvm.Cond.code Lib.objectInit ⟨#[0xb1]⟩ 1 none).before a0 C.Z = true) (hsz : Ls.size = C.b.maxL) (hd : decode C.b.code pc = .ok (.invokespecial idx, 3)) (hp : pc + 3 = pc') (hf : 1 ≤ C.b.room.frames) (hW : (st.map fun v => v.category).sum ≤ W) (hl : W + 12 ≤ C.b.room.locals)
    (r : Wk C h k n I pc' Ls st) : Wk C h k n I pc Ls (.ref a :: st) := by
  subst hp
  exact Wk.law (fun p e s vm0 m args below meth c T locs k0 S => Jvm.RoadKit.initO (g := mkF m pc Ls (.ref a :: st)) S.2.2.2.1 S.1.1 S.2.1.2.1 S.2.1.1 w1 w2 w3 S.2.2.2.2.1 rfl (hsz.trans S.1.2.2.1.symm) rfl (hb S.1.2.1 hd) hf (W := W) (by show 2 * 0 + _ ≤ _; omega) hl) r
theorem Wk.newP {aty : ArrayType} {z : Int32} {cap : Nat} (w : (Jvm.Cond.arrayClass (newarray.typeOf aty)).before a0 C.Z = true) (hd : decode C.b.code pc = .ok (.newarray aty, 2)) (hp : pc + 2 = pc') (hz : ¬ z < 0) (hcap : z.toNatClampNeg ≤ cap) (hbg : cap * 8 ≤ 536870912) (hk : k + 1 = k') (hn : n + cap = n') (hc : k' ≤ C.b.room.cells) (hl : n' ≤ C.b.room.slots)
    (r : ∀ a h' q, h.size ≤ a → C.N ≤ a → Ext h h' → Arv C.Z h' a q (newarray.typeOf aty) z [] (defaultValue (newarray.typeOf aty)) → Wk C h' k' n' I pc' Ls (.ref a :: st)) : Wk C h k n I pc Ls (.int z :: st) := by
  subst hp hk hn
  refine Wk.see fun _ z2 _ => ?_
  refine Wk.lawE (P := fun h' => ∃ q, Arv C.Z h' h.size q (newarray.typeOf aty) z [] (defaultValue (newarray.typeOf aty))) (fun p e s vm0 m args below meth c T locs k0 S => ?_) (fun h' E ⟨q, A⟩ => r h.size h' q (Nat.le_refl _) z2 E A)
  obtain ⟨T', h', cA, X', e', E, A, st⟩ := Jvm.RoadKit.newP (g := mkF m pc Ls (.int z :: st)) S.2.2.2.1 S.1.1 S.2.1.2.1 w S.2.2.2.2.1 rfl (hb S.1.2.1 hd) rfl hz hcap hbg hc hl
  exact ⟨T', h', X', e', E, ⟨cA, Arv.new A hz⟩, st⟩
theorem Wk.newR {K : String} {idx : Nat} {z : Int32} {cap : Nat} (w1 : (Jvm.Cond.classLink C.b.y.cls idx K).before a0 C.Z = true) (w2 : (Jvm.Cond.arrayOver (.object K)).before a0 C.Z = true) (hd : decode C.b.code pc = .ok (.anewarray idx, 3)) (hp : pc + 3 = pc') (hz : ¬ z < 0) (hcap : z.toNatClampNeg ≤ cap) (hbg : cap * 8 ≤ 536870912) (hk : k + 1 = k') (hn : n + cap = n') (hc : k' ≤ C.b.room.cells) (hl : n' ≤ C.b.room.slots) {ad : String} (had : "[" ++ (FieldType.object K).toString = ad)
    (r : ∀ a h' q, h.size ≤ a → C.N ≤ a → Ext h h' → Arv C.Z h' a q (.object K) z [] .null → Exa C.Z h' a ad → Ovr C.Z q K → Wk C h' k' n' I pc' Ls (.ref a :: st)) : Wk C h k n I pc Ls (.int z :: st) := by
  subst hp hk hn
  refine Wk.see fun _ z2 _ => ?_
  refine Wk.lawE (P := fun h' => ∃ q, Arv C.Z h' h.size q (.object K) z [] .null ∧ Exa C.Z h' h.size ad ∧ Ovr C.Z q K) (fun p e s vm0 m args below meth c T locs k0 S => ?_) (fun h' E ⟨q, A, B, D⟩ => r h.size h' q (Nat.le_refl _) z2 E A B D)
  obtain ⟨T', h', cA, X', e', E, A, B, D, st⟩ := newRE (g := mkF m pc Ls (.int z :: st)) S.2.2.2.1 S.1.1 S.2.1.2.1 S.2.1.1 w1 w2 S.2.2.2.2.1 rfl (hb S.1.2.1 hd) rfl hz hcap hbg hc hl had
  exact ⟨T', h', X', e', E, ⟨cA, Arv.new A hz, B, D⟩, st⟩
theorem Wk.arraylength {a : Addr} {q : ClassId} {ty : FieldType} {z : Int32} {vs : List Value} {dv : Value} (V : Arv C.Z h a q ty z vs dv) (hd : decode C.b.code pc = .ok (.arraylength, 1)) (hp : pc + 1 = pc') (r : Wk C h k n I pc' Ls (.int z :: st)) : Wk C h k n I pc Ls (.ref a :: st) := by
  subst hp
  obtain ⟨c, A, q1, q2, q3, q4, q5⟩ := V
  refine Wk.law (fun p e s vm0 m args below meth cc T locs k0 S => ⟨T, S.2.2.2.1, S.2.2.2.2.1, fun t kt => ?_⟩) r
  refine S.2.2.2.1.arraylength (g := mkF m pc Ls (.ref a :: st)) S.1.1 (by rw [S.2.2.2.2.1]; exact A.1) (State.isArrayOf_alike S.2.1.2.1.alike A.2.1) rfl rfl (hb S.1.2.1 hd) t ?_
  rw [len_of q2 q3]
  exact kt
theorem Wk.iaload {a : Addr} {q : ClassId} {z j : Int32} {vs : List Value} {dv v : Value} (V : Arv C.Z h a q .int z vs dv) (hj : ¬ j < 0 ∧ j < z) (hv : vs.getD j.toNatClampNeg dv = v) (hd : decode C.b.code pc = .ok (.iaload, 1)) (hp : pc + 1 = pc') (r : Wk C h k n I pc' Ls (v :: st)) : Wk C h k n I pc Ls (.int j :: .ref a :: st) := by
  subst hp
  obtain ⟨c, A, q1, q2, q3, q4, q5⟩ := V
  have hin := inb_of q2 hj
  refine Wk.law (fun p e s vm0 m args below meth cc T locs k0 S => ⟨T, S.2.2.2.1, S.2.2.2.2.1, fun t kt => ?_⟩) r
  exact S.2.2.2.1.iaload (g := mkF m pc Ls (.int j :: .ref a :: st)) S.1.1 (by rw [S.2.2.2.2.1]; exact A.1) (State.isArrayOf_alike S.2.1.2.1.alike A.2.1) A.2.2 hin (q4.at hin hv) rfl rfl (hb S.1.2.1 hd) t kt
theorem Wk.laload {a : Addr} {q : ClassId} {z j : Int32} {vs : List Value} {dv v : Value} (V : Arv C.Z h a q .long z vs dv) (hj : ¬ j < 0 ∧ j < z) (hv : vs.getD j.toNatClampNeg dv = v) (hd : decode C.b.code pc = .ok (.laload, 1)) (hp : pc + 1 = pc') (r : Wk C h k n I pc' Ls (v :: st)) : Wk C h k n I pc Ls (.int j :: .ref a :: st) := by
  subst hp
  obtain ⟨c, A, q1, q2, q3, q4, q5⟩ := V
  have hin := inb_of q2 hj
  refine Wk.law (fun p e s vm0 m args below meth cc T locs k0 S => ⟨T, S.2.2.2.1, S.2.2.2.2.1, fun t kt => ?_⟩) r
  exact S.2.2.2.1.laload (g := mkF m pc Ls (.int j :: .ref a :: st)) S.1.1 (by rw [S.2.2.2.2.1]; exact A.1) (State.isArrayOf_alike S.2.1.2.1.alike A.2.1) A.2.2 hin (q4.at hin hv) rfl rfl (hb S.1.2.1 hd) t kt
theorem Wk.caload {a : Addr} {q : ClassId} {z j : Int32} {vs : List Value} {dv v : Value} (V : Arv C.Z h a q .char z vs dv) (hj : ¬ j < 0 ∧ j < z) (hv : vs.getD j.toNatClampNeg dv = v) (hd : decode C.b.code pc = .ok (.caload, 1)) (hp : pc + 1 = pc') (r : Wk C h k n I pc' Ls (v :: st)) : Wk C h k n I pc Ls (.int j :: .ref a :: st) := by
  subst hp
  obtain ⟨c, A, q1, q2, q3, q4, q5⟩ := V
  have hin := inb_of q2 hj
  refine Wk.law (fun p e s vm0 m args below meth cc T locs k0 S => ⟨T, S.2.2.2.1, S.2.2.2.2.1, fun t kt => ?_⟩) r
  exact S.2.2.2.1.caload (g := mkF m pc Ls (.int j :: .ref a :: st)) S.1.1 (by rw [S.2.2.2.2.1]; exact A.1) (State.isArrayOf_alike S.2.1.2.1.alike A.2.1) A.2.2 hin (q4.at hin hv) rfl rfl (hb S.1.2.1 hd) t kt
theorem Wk.baload {a : Addr} {q : ClassId} {z j : Int32} {vs : List Value} {dv v : Value} (V : Arv C.Z h a q .byte z vs dv) (hj : ¬ j < 0 ∧ j < z) (hv : vs.getD j.toNatClampNeg dv = v) (hd : decode C.b.code pc = .ok (.baload, 1)) (hp : pc + 1 = pc') (r : Wk C h k n I pc' Ls (v :: st)) : Wk C h k n I pc Ls (.int j :: .ref a :: st) := by
  subst hp
  obtain ⟨c, A, q1, q2, q3, q4, q5⟩ := V
  have hin := inb_of q2 hj
  refine Wk.law (fun p e s vm0 m args below meth cc T locs k0 S => ⟨T, S.2.2.2.1, S.2.2.2.2.1, fun t kt => ?_⟩) r
  exact S.2.2.2.1.baloadBytes (g := mkF m pc Ls (.int j :: .ref a :: st)) S.1.1 (by rw [S.2.2.2.2.1]; exact A.1) (State.isArrayOf_alike S.2.1.2.1.alike A.2.1) A.2.2 hin (q4.at hin hv) rfl rfl (hb S.1.2.1 hd) t kt
theorem Wk.zaload {a : Addr} {q : ClassId} {z j : Int32} {vs : List Value} {dv v : Value} (V : Arv C.Z h a q .boolean z vs dv) (hj : ¬ j < 0 ∧ j < z) (hv : vs.getD j.toNatClampNeg dv = v) (hd : decode C.b.code pc = .ok (.baload, 1)) (hp : pc + 1 = pc') (r : Wk C h k n I pc' Ls (v :: st)) : Wk C h k n I pc Ls (.int j :: .ref a :: st) := by
  subst hp
  obtain ⟨c, A, q1, q2, q3, q4, q5⟩ := V
  have hin := inb_of q2 hj
  refine Wk.law (fun p e s vm0 m args below meth cc T locs k0 S => ⟨T, S.2.2.2.1, S.2.2.2.2.1, fun t kt => ?_⟩) r
  exact S.2.2.2.1.baloadBooleans (g := mkF m pc Ls (.int j :: .ref a :: st)) S.1.1 (by rw [S.2.2.2.2.1]; exact A.1) (State.isArrayOf_alike S.2.1.2.1.alike A.2.1) A.2.2 hin (q4.at hin hv) rfl rfl (hb S.1.2.1 hd) t kt
theorem Wk.aaload {a : Addr} {q : ClassId} {ty : FieldType} {z j : Int32} {vs : List Value} {dv v : Value} (V : Arv C.Z h a q ty z vs dv) (hty : ty.isReference = true) (hj : ¬ j < 0 ∧ j < z) (hv : vs.getD j.toNatClampNeg dv = v) (hd : decode C.b.code pc = .ok (.aaload, 1)) (hp : pc + 1 = pc') (r : Wk C h k n I pc' Ls (v :: st)) : Wk C h k n I pc Ls (.int j :: .ref a :: st) := by
  subst hp
  obtain ⟨c, A, q1, q2, q3, q4, q5⟩ := V
  have hin := inb_of q2 hj
  refine Wk.law (fun p e s vm0 m args below meth cc T locs k0 S => ⟨T, S.2.2.2.1, S.2.2.2.2.1, fun t kt => ?_⟩) r
  exact S.2.2.2.1.aaload (g := mkF m pc Ls (.int j :: .ref a :: st)) S.1.1 (by rw [S.2.2.2.2.1]; exact A.1) (State.isArrayOf_alike S.2.1.2.1.alike A.2.1) hty A.2.2 hin (q4.at hin hv) rfl rfl (hb S.1.2.1 hd) t kt
theorem Wk.iastore {a : Addr} {q : ClassId} {z j : Int32} {x : Int32} {vs : List Value} {dv : Value} (V : Arv C.Z h a q .int z vs dv) (ha : C.N ≤ a) (hj : ¬ j < 0 ∧ j < z) (i : Nat) (hi : j.toNatClampNeg = i) (hlt : i < vs.length) (hd : decode C.b.code pc = .ok (.iastore, 1)) (hp : pc + 1 = pc')
    (r : ∀ h', Wr h h' a j.toNatClampNeg (.int x) → Arv C.Z h' a q .int z (vs.set i (.int x)) dv → Wk C h' k n I pc' Ls st) : Wk C h k n I pc Ls (.int x :: .int j :: .ref a :: st) := by
  subst hp
  obtain ⟨c, A, q1, q2, q3, q4, q5⟩ := V
  have hin := inb_of q2 hj
  exact Wk.lawW ha (fun p e s vm0 m args below meth cc T locs k0 S => stI (g := mkF m pc Ls (.int x :: .int j :: .ref a :: st)) S.2.2.2.1 S.1.1 S.2.1.2.1 S.2.2.2.2.1 A hin rfl rfl (hb S.1.2.1 hd)) (fun h' W => r h' W (Arv.set A q1 q2 q3 q4 q5 (rfl) W i hi hlt))
theorem Wk.lastore {a : Addr} {q : ClassId} {z j : Int32} {x : Int64} {vs : List Value} {dv : Value} (V : Arv C.Z h a q .long z vs dv) (ha : C.N ≤ a) (hj : ¬ j < 0 ∧ j < z) (i : Nat) (hi : j.toNatClampNeg = i) (hlt : i < vs.length) (hd : decode C.b.code pc = .ok (.lastore, 1)) (hp : pc + 1 = pc')
    (r : ∀ h', Wr h h' a j.toNatClampNeg (.long x) → Arv C.Z h' a q .long z (vs.set i (.long x)) dv → Wk C h' k n I pc' Ls st) : Wk C h k n I pc Ls (.long x :: .int j :: .ref a :: st) := by
  subst hp
  obtain ⟨c, A, q1, q2, q3, q4, q5⟩ := V
  have hin := inb_of q2 hj
  exact Wk.lawW ha (fun p e s vm0 m args below meth cc T locs k0 S => stJ (g := mkF m pc Ls (.long x :: .int j :: .ref a :: st)) S.2.2.2.1 S.1.1 S.2.1.2.1 S.2.2.2.2.1 A hin rfl rfl (hb S.1.2.1 hd)) (fun h' W => r h' W (Arv.set A q1 q2 q3 q4 q5 (rfl) W i hi hlt))
theorem Wk.castore {a : Addr} {q : ClassId} {z j : Int32} {x : Int32} {vs : List Value} {dv : Value} (V : Arv C.Z h a q .char z vs dv) (ha : C.N ≤ a) (hj : ¬ j < 0 ∧ j < z) (i : Nat) (hi : j.toNatClampNeg = i) (hlt : i < vs.length) (hd : decode C.b.code pc = .ok (.castore, 1)) (hp : pc + 1 = pc')
    (r : ∀ h', Wr h h' a j.toNatClampNeg (.int (nar .char x)) → Arv C.Z h' a q .char z (vs.set i (.int (nar .char x))) dv → Wk C h' k n I pc' Ls st) : Wk C h k n I pc Ls (.int x :: .int j :: .ref a :: st) := by
  subst hp
  obtain ⟨c, A, q1, q2, q3, q4, q5⟩ := V
  have hin := inb_of q2 hj
  exact Wk.lawW ha (fun p e s vm0 m args below meth cc T locs k0 S => stC (g := mkF m pc Ls (.int x :: .int j :: .ref a :: st)) S.2.2.2.1 S.1.1 S.2.1.2.1 S.2.2.2.2.1 A hin rfl rfl (hb S.1.2.1 hd)) (fun h' W => r h' W (Arv.set A q1 q2 q3 q4 q5 (fits_nar_char x) W i hi hlt))
theorem Wk.bastore {a : Addr} {q : ClassId} {z j : Int32} {x : Int32} {vs : List Value} {dv : Value} (V : Arv C.Z h a q .byte z vs dv) (ha : C.N ≤ a) (hj : ¬ j < 0 ∧ j < z) (i : Nat) (hi : j.toNatClampNeg = i) (hlt : i < vs.length) (hd : decode C.b.code pc = .ok (.bastore, 1)) (hp : pc + 1 = pc')
    (r : ∀ h', Wr h h' a j.toNatClampNeg (.int (nar .byte x)) → Arv C.Z h' a q .byte z (vs.set i (.int (nar .byte x))) dv → Wk C h' k n I pc' Ls st) : Wk C h k n I pc Ls (.int x :: .int j :: .ref a :: st) := by
  subst hp
  obtain ⟨c, A, q1, q2, q3, q4, q5⟩ := V
  have hin := inb_of q2 hj
  exact Wk.lawW ha (fun p e s vm0 m args below meth cc T locs k0 S => stB (g := mkF m pc Ls (.int x :: .int j :: .ref a :: st)) S.2.2.2.1 S.1.1 S.2.1.2.1 S.2.2.2.2.1 A hin rfl rfl (hb S.1.2.1 hd)) (fun h' W => r h' W (Arv.set A q1 q2 q3 q4 q5 (fits_nar_byte x) W i hi hlt))
theorem Wk.zastore {a : Addr} {q : ClassId} {z j : Int32} {x : Int32} {vs : List Value} {dv : Value} (V : Arv C.Z h a q .boolean z vs dv) (ha : C.N ≤ a) (hj : ¬ j < 0 ∧ j < z) (i : Nat) (hi : j.toNatClampNeg = i) (hlt : i < vs.length) (hd : decode C.b.code pc = .ok (.bastore, 1)) (hp : pc + 1 = pc')
    (r : ∀ h', Wr h h' a j.toNatClampNeg (.int (nar .boolean x)) → Arv C.Z h' a q .boolean z (vs.set i (.int (nar .boolean x))) dv → Wk C h' k n I pc' Ls st) : Wk C h k n I pc Ls (.int x :: .int j :: .ref a :: st) := by
  subst hp
  obtain ⟨c, A, q1, q2, q3, q4, q5⟩ := V
  have hin := inb_of q2 hj
  exact Wk.lawW ha (fun p e s vm0 m args below meth cc T locs k0 S => stZ (g := mkF m pc Ls (.int x :: .int j :: .ref a :: st)) S.2.2.2.1 S.1.1 S.2.1.2.1 S.2.2.2.2.1 A hin rfl rfl (hb S.1.2.1 hd)) (fun h' W => r h' W (Arv.set A q1 q2 q3 q4 q5 (fits_nar_bool x) W i hi hlt))
theorem Wk.aastore {a : Addr} {q : ClassId} {ty : FieldType} {z j : Int32} {v : Value} {vs : List Value} {dv : Value} (V : Arv C.Z h a q ty z vs dv) (hty : ty.isReference = true) (hf : fits ty v = true) (ha : C.N ≤ a) (hj : ¬ j < 0 ∧ j < z) (i : Nat) (hi : j.toNatClampNeg = i) (hlt : i < vs.length) (F : Sto C.Z h a v) (hd : decode C.b.code pc = .ok (.aastore, 1)) (hp : pc + 1 = pc')
    (r : ∀ h', Wr h h' a j.toNatClampNeg v → Arv C.Z h' a q ty z (vs.set i v) dv → Wk C h' k n I pc' Ls st) : Wk C h k n I pc Ls (v :: .int j :: .ref a :: st) := by
  subst hp
  obtain ⟨c, A, q1, q2, q3, q4, q5⟩ := V
  have hin := inb_of q2 hj
  exact Wk.lawW ha (fun p e s vm0 m args below meth cc T locs k0 S => stR (g := mkF m pc Ls (v :: .int j :: .ref a :: st)) S.2.2.2.1 S.1.1 S.2.1.2.1 S.2.2.2.2.1 A hin hty F rfl rfl (hb S.1.2.1 hd)) (fun h' W => r h' W (Arv.set A q1 q2 q3 q4 q5 hf W i hi hlt))
theorem Wk.ldcI {idx : Nat} {v : Int32} (w : (Jvm.Cond.constant C.b.y.cls idx v).before a0 C.Z = true) (hd : decode C.b.code pc = .ok (.ldc idx, 2)) (hp : pc + 2 = pc') (r : Wk C h k n I pc' Ls (.int v :: st)) : Wk C h k n I pc Ls st := by
  subst hp
  exact Wk.law (fun p e s vm0 m args below meth c T locs k0 S => ⟨T, S.2.2.2.1, S.2.2.2.2.1, fun t kt => S.2.2.2.1.ldcI (g := mkF m pc Ls st) S.1.1 S.2.1.1 (mv (s := s.setVm vm0) S.2.1.2.1 w) rfl (hb S.1.2.1 hd) kt⟩) r
theorem Wk.ldcWI {idx : Nat} {v : Int32} (w : (Jvm.Cond.constant C.b.y.cls idx v).before a0 C.Z = true) (hd : decode C.b.code pc = .ok (.ldc_w idx, 3)) (hp : pc + 3 = pc') (r : Wk C h k n I pc' Ls (.int v :: st)) : Wk C h k n I pc Ls st := by
  subst hp
  exact Wk.law (fun p e s vm0 m args below meth c T locs k0 S => ⟨T, S.2.2.2.1, S.2.2.2.2.1, fun t kt => S.2.2.2.1.ldcWI (g := mkF m pc Ls st) S.1.1 S.2.1.1 (mv (s := s.setVm vm0) S.2.1.2.1 w) rfl (hb S.1.2.1 hd) kt⟩) r
theorem Wk.ldc2J {idx : Nat} {v : Int64} (w : (Jvm.Cond.constantLong C.b.y.cls idx v).before a0 C.Z = true) (hd : decode C.b.code pc = .ok (.ldc2_w idx, 3)) (hp : pc + 3 = pc') (r : Wk C h k n I pc' Ls (.long v :: st)) : Wk C h k n I pc Ls st := by
  subst hp
  exact Wk.law (fun p e s vm0 m args below meth c T locs k0 S => ⟨T, S.2.2.2.1, S.2.2.2.2.1, fun t kt => S.2.2.2.1.ldc2J (g := mkF m pc Ls st) S.1.1 S.2.1.1 (mv (s := s.setVm vm0) S.2.1.2.1 w) rfl (hb S.1.2.1 hd) kt⟩) r
theorem Wk.castY {K : String} {idx : Nat} {a : Addr} (w : (Jvm.Cond.classLink C.b.y.cls idx K).before a0 C.Z = true) (F : Ins C.Z h a K true) (hd : decode C.b.code pc = .ok (.checkcast idx, 3)) (hp : pc + 3 = pc') (r : Wk C h k n I pc' Ls (.ref a :: st)) : Wk C h k n I pc Ls (.ref a :: st) := by
  subst hp
  exact Wk.law (fun p e s vm0 m args below meth c T locs k0 S => Jvm.RoadKit.castY (g := mkF m pc Ls (.ref a :: st)) S.2.2.2.1 S.1.1 S.2.1.2.1 S.2.1.1 w S.2.2.2.2.1 F rfl rfl (hb S.1.2.1 hd)) r
theorem Wk.instY {K : String} {idx : Nat} {a : Addr} (w : (Jvm.Cond.classLink C.b.y.cls idx K).before a0 C.Z = true) (F : Ins C.Z h a K true) (hd : decode C.b.code pc = .ok (.instanceof idx, 3)) (hp : pc + 3 = pc') (r : Wk C h k n I pc' Ls (.int 1 :: st)) : Wk C h k n I pc Ls (.ref a :: st) := by
  subst hp
  exact Wk.law (fun p e s vm0 m args below meth c T locs k0 S => Jvm.RoadKit.instY (g := mkF m pc Ls (.ref a :: st)) S.2.2.2.1 S.1.1 S.2.1.2.1 S.2.1.1 w S.2.2.2.2.1 F rfl rfl (hb S.1.2.1 hd)) r
theorem Wk.leaveW {v : Option Value} (hv : C.b.ret = none → v = none) (hk : k ≤ C.b.room.cells) (hn : n ≤ C.b.room.slots) (q : C.Q v h I)
    (hs : ∀ (p : Program) (e : Env) (s : State) (vm0 : Vm) (m : MethodId) (args : Array Value) (below : List Frame) (meth : Method) (c : Code) (T : State) (locs : List Loc) (k0 : Nat) (fs : List Frame), St C p e s vm0 m args below meth c T locs k0 h k n I →
      (∀ (f : JFrame) (acts : List Action), f.method = m → f.locked = none → f.entered = [] → (doReturn e (T.setTop f) acts v).1 = T.setFrames fs) → Steps p.tables e below (T.setTop (mkF m pc Ls st)) (T.setFrames fs)) : Wk C h k n I pc Ls st := fun p e s vm0 m args below meth c T locs k0 S => by
  obtain ⟨fs, hr, hrun, hended, hW, hsame⟩ := S.2.2.2.1.leave (v := v) (fun q => hv (S.1.2.2.2.1 ▸ q)) S.1.2.2.2.2.1
  have hst := hs p e s vm0 m args below meth c T locs k0 fs S hr
  obtain ⟨A, ⟨b1, b2, b3, b4⟩, q1, q2, q3, q4, q5, q6⟩ := S
  have eh : (T.setFrames fs).heap = h := q3
  obtain ⟨u1, u2, u3⟩ := b3.ended hW (by rw [eh]; exact q1) hsame
  exact ⟨_, _, hst, hrun, hended, v, locs, I, rfl, by rw [eh]; exact q, VI.warm (s := s.setVm vm0) b4 hW, q6, by rw [eh]; exact q4, ⟨v, rfl⟩, u1, u2, u3.mono hk hn⟩
theorem Wk.ireturn {z : Int32} (hret : C.b.ret = some .int) (hd : decode C.b.code pc = .ok (.ireturn, 1)) (hk : k ≤ C.b.room.cells) (hn : n ≤ C.b.room.slots) (q : C.Q (some (.int z)) h I) : Wk C h k n I pc Ls (.int z :: st) :=
  Wk.leaveW (v := some (.int z)) (fun e => by rw [hret] at e; cases e) hk hn q fun p e s vm0 m args below meth c T locs k0 fs S hr =>
    retOut S.2.2.2.1 S.1.1 (S.1.2.2.2.1.trans hret) rfl (Or.inl ⟨rfl, Or.inl rfl, _, rfl⟩) (hb S.1.2.1 hd) hr
theorem Wk.zreturn {z : Int32} {t : FieldType} (hret : C.b.ret = some t) (ht : t = .boolean ∨ t = .byte ∨ t = .char ∨ t = .short) (hd : decode C.b.code pc = .ok (.ireturn, 1)) (hk : k ≤ C.b.room.cells) (hn : n ≤ C.b.room.slots) (q : C.Q (some (.int (nar t z))) h I) : Wk C h k n I pc Ls (.int z :: st) :=
  Wk.leaveW (v := some (.int (nar t z))) (fun e => by rw [hret] at e; cases e) hk hn q fun p e s vm0 m args below meth c T locs k0 fs S hr =>
    retN S.2.2.2.1 S.1.1 (S.1.2.2.2.1.trans hret) ht (hb S.1.2.1 hd) hr
theorem Wk.lreturn {z : Int64} (hret : C.b.ret = some .long) (hd : decode C.b.code pc = .ok (.lreturn, 1)) (hk : k ≤ C.b.room.cells) (hn : n ≤ C.b.room.slots) (q : C.Q (some (.long z)) h I) : Wk C h k n I pc Ls (.long z :: st) :=
  Wk.leaveW (v := some (.long z)) (fun e => by rw [hret] at e; cases e) hk hn q fun p e s vm0 m args below meth c T locs k0 fs S hr =>
    retOut S.2.2.2.1 S.1.1 (S.1.2.2.2.1.trans hret) rfl (Or.inr (Or.inl ⟨rfl, rfl, _, rfl⟩)) (hb S.1.2.1 hd) hr
theorem Wk.dreturn {z : UInt64} (hret : C.b.ret = some .double) (hd : decode C.b.code pc = .ok (.dreturn, 1)) (hk : k ≤ C.b.room.cells) (hn : n ≤ C.b.room.slots) (q : C.Q (some (.double z)) h I) : Wk C h k n I pc Ls (.double z :: st) :=
  Wk.leaveW (v := some (.double z)) (fun e => by rw [hret] at e; cases e) hk hn q fun p e s vm0 m args below meth c T locs k0 fs S hr =>
    retOut S.2.2.2.1 S.1.1 (S.1.2.2.2.1.trans hret) rfl (Or.inr (Or.inr (Or.inl ⟨rfl, rfl, _, rfl⟩))) (hb S.1.2.1 hd) hr
theorem narrow_refl {t : FieldType} {w : Value} (ht : t.isReference = true) : narrow t w = w := by cases t <;> simp [FieldType.isReference] at ht <;> cases w <;> rfl
theorem Wk.areturn {w : Value} {t : FieldType} (hret : C.b.ret = some t) (ht : t.isReference = true) (hw : w.isRef = true) (hd : decode C.b.code pc = .ok (.areturn, 1)) (hk : k ≤ C.b.room.cells) (hn : n ≤ C.b.room.slots) (q : C.Q (some w) h I) : Wk C h k n I pc Ls (w :: st) :=
  Wk.leaveW (v := some w) (fun e => by rw [hret] at e; cases e) hk hn q fun p e s vm0 m args below meth c T locs k0 fs S hr =>
    retOut S.2.2.2.1 S.1.1 (S.1.2.2.2.1.trans hret) (narrow_refl ht) (Or.inr (Or.inr (Or.inr (Or.inr ⟨rfl, ht, hw⟩)))) (hb S.1.2.1 hd) hr
theorem Wk.return_ (hret : C.b.ret = none) (hd : decode C.b.code pc = .ok (.return_, 1)) (hk : k ≤ C.b.room.cells) (hn : n ≤ C.b.room.slots) (q : C.Q none h I) : Wk C h k n I pc Ls [] :=
  Wk.leaveW (v := none) (fun _ => rfl) hk hn q fun p e s vm0 m args below meth c T locs k0 fs S hr =>
    S.2.2.2.1.returnOut S.1.1 (S.1.2.2.2.1.trans hret) (hb S.1.2.1 hd) hr
theorem Cn.of_wk {l : Launch} {Z : State} {N : Nat} {b : Bdy} {as : Array Value} {Q : Option Value → Heap → Lts → Prop} (hp : plainFor b.y = true) (he : ∀ m, entryFrame m as b.maxL = mkF m 0 Ls []) (r : Wk (l, Z, N, h.size, b, Q) h 0 0 I 0 Ls []) : Cn l Z N b as h I Q := by
  intro ws
  refine MetFree.of_bodySF hp hisR ?_
  intro p e s m args below meth c s₁ Bd hml0 hP hK
  obtain ⟨rfl, hZ, hh, hV, hE, hN, hZN⟩ := hP
  have X0 : Stand p l e b.room (s.setVm s.vm) m args below meth c s₁ [] 0 0 := Stand.of_body Bd
  have e0 : s₁.heap = h := by rw [← hh, Bd.state]; rfl
  obtain ⟨t, o, h1, h2⟩ := r p e s s.vm m args below meth c s₁ [] s.heap.size ⟨⟨Bd.exec, Bd.bytes, hml0, Bd.returns, Bd.notSynchronized, (name_of_methodNamed Bd.named Bd.method).1, hZN, by rw [hh], by rw [hh]; exact hE⟩, ⟨findClass_of_methodNamed Bd.named, hZ, (State.WarmedH.refl s).since _, hV⟩, by rw [hh]; exact Nat.le_refl _, X0, e0, hE, hN, Fr.nil _⟩
  exact ⟨t, o, castTop (he m) h1, h2⟩
theorem Cn.back {l : Launch} {Z : State} {N : Nat} {b : Bdy} {as : Array Value} {Q : Option Value → Heap → Lts → Prop} (M : Cn l Z N b as h I Q) {R : Room} {p : Program} {e : Env} {below : List Frame} {s : State} {args : Array Value} {len W : Nat} (hZ : Z.Warmed39 s.vm) (hV : VI Z I s.vm) (hE : Ext Z.heap h) (hN : N ≤ h.size) (hZN : Z.heap.size ≤ N)
    (wc : (Jvm.Cond.code b.y b.code b.maxL b.ret).before a0 Z = true) (wz : (Jvm.Cond.initialized b.y.cls).before a0 Z = true) (hf : b.room.frames + 1 ≤ R.frames) (hl : W + (b.maxL + 11) + b.room.locals ≤ R.locals) :
    BackS l R p e below s args b.y len W (fun A a => a = as ∧ A.U.heap = h ∧ A.cells + b.room.cells ≤ R.cells ∧ A.slots + b.room.slots ≤ R.slots)
      (fun A _ v B => ∃ L J, Q v B.U.heap J ∧ VI Z J B.U.vm ∧ Fr N L ∧ Ext Z.heap B.U.heap ∧ B.locs = A.locs ++ L ∧ B.cells = A.cells + b.room.cells ∧ B.slots = A.slots + b.room.slots) :=
  BackS.of_freeW (bytes := b.code) (maxL := b.maxL) (ret := b.ret) (E := fun _ _ o t L k n => k = b.room.cells ∧ n = b.room.slots ∧ ∃ v J, o = .returned v ∧ Q v t.heap J ∧ VI Z J t.vm ∧ Fr N L ∧ Ext Z.heap t.heap) (M []) hf hl
    (fun m meth c A a Y hp => have hU : Z.Warmed39 A.U.vm := wtrans hZ Y.warmed
      ⟨by show (Cond.and _ .tt).before a A.U = true; rw [Cond.before_and, mv hU wc]; rfl, mv hU wc, mv hU wz, hp.2.2.1, hp.2.2.2⟩)
    (fun m meth c A a g mk Y hp => ⟨hp.1, wtrans hZ Y.warmed, hp.2.1, VI.warm hV Y.warmed, hE, hN, hZN⟩) (fun _ _ _ _ _ _ _ _ _ => trivial)
    (fun _ _ _ _ ⟨v, L, J, h1, h2, h3, h4, h5, h6⟩ => ⟨L, _, _, h6, rfl, rfl, v, J, h1, h2, h3, h4, h5⟩)
    (fun m meth c A a g mk v t L k n Y hp _ _ ⟨e1, e2, v', J, e3, e4, e5, e6, e7⟩ => by cases e3; subst e1 e2; exact ⟨L, J, e4, e5, e6, e7, rfl, rfl, rfl⟩)
/-- behind a call -/
theorem Wk.behind {b : Bdy} {N' : Nat} {Q' : Option Value → Heap → Lts → Prop} (hN : C.N ≤ N') (hk : k + b.room.cells = k') (hn : n + b.room.slots = n') (r : ∀ v h' J, h.size ≤ h'.size → Q' v h' J → Wk C h' k' n' J pc' Ls (v.toList ++ rest))
    {p : Program} {e : Env} {s : State} {vm0 : Vm} {m : MethodId} {args : Array Value} {below : List Frame} {meth : Method} {c : Code} {T : State} {locs : List Loc} {k0 : Nat} (S : St C p e s vm0 m args below meth c T locs k0 h k n I)
    {U0 : State} (q : ∃ (v : Option Value) (vm₁ : Vm) (B : Pt), (s.setVm vm0).WarmedH vm₁ ∧ Stand p C.l e C.b.room ((s.setVm vm0).setVm B.U.vm) m args below meth c B.U B.locs B.cells B.slots ∧ (s.setVm vm0).Since B.U.vm B.U.heap.size ∧ T.heap.size ≤ B.U.heap.size ∧
      (∃ L J, Q' v B.U.heap J ∧ VI C.Z J B.U.vm ∧ Fr N' L ∧ Ext C.Z.heap B.U.heap ∧ B.locs = locs ++ L ∧ B.cells = k + b.room.cells ∧ B.slots = n + b.room.slots) ∧ Steps p.tables e below U0 (B.U.setTop (mkF m pc' Ls (v.toList ++ rest)))) :
    ∃ t o, Steps p.tables e below U0 t ∧ t.status = .running ∧ Ended t below o ∧ Fini C s o t := by
  obtain ⟨v, vm₁, ⟨U, L2, k2, n2⟩, hW, X', hS', hg, ⟨L, J, y1, y2, y3, y4, y5, y6, y7⟩, hst⟩ := q
  dsimp only [Pt.U, Pt.locs, Pt.cells, Pt.slots] at X' hS' hg y1 y2 y3 y4 y5 y6 y7 hst
  subst y5 y6 y7 hk hn
  obtain ⟨A, ⟨b1, b2, b3, b4⟩, q1, q2, q3, q4, q5, q6⟩ := S
  have hg' : h.size ≤ U.heap.size := by rw [← q3]; exact hg
  obtain ⟨x1, x2, x3, x4⟩ := rebS b3 q1 X' hS' hg' b2 b1
  obtain ⟨t, o, h1, h2⟩ := r v U.heap J hg' y1 p e s U.vm m args below meth c U _ U.heap.size ⟨A, ⟨x4, x3, x2, y2⟩, Nat.le_refl _, x1, rfl, y4, Nat.le_trans q5 hg', Fr.app q6 fun y hy => Nat.le_trans hN (y3 y hy)⟩
  exact ⟨t, o, hst.trans h1, h2⟩
abbrev NoPoly (y : MethodName) : Prop := y.cls ≠ "java/lang/invoke/MethodHandle" ∧ y.cls ≠ "java/lang/invoke/VarHandle"
theorem Wk.callS {b : Bdy} {N' : Nat} {as : Array Value} {Q' : Option Value → Heap → Lts → Prop} {idx W : Nat} {ps : List FieldType} {rt : Option FieldType} {argsL : List Value} (M : Cn C.l C.Z N' b as h I Q')
    (w1 : (Jvm.Cond.methodLink C.b.y.cls idx b.y).before a0 C.Z = true) (w2 : (Jvm.Cond.static b.y).before a0 C.Z = true) (w3 : (Jvm.Cond.initialized b.y.cls).before a0 C.Z = true) (w4 : (Jvm.Cond.code b.y b.code b.maxL b.ret).before a0 C.Z = true) (hy : NoPoly b.y)
    (hN : C.N ≤ N') (hN' : C.N ≤ h.size → N' ≤ h.size) (hf : b.room.frames + 1 ≤ C.b.room.frames) (hl : W + (b.maxL + 11) + b.room.locals ≤ C.b.room.locals) (hk : k + b.room.cells = k') (hn : n + b.room.slots = n') (hkc : k' ≤ C.b.room.cells) (hnc : n' ≤ C.b.room.slots)
    (hsz : Ls.size = C.b.maxL) (hpd : parseMethodDescriptor b.y.desc = some ⟨ps, rt⟩) (hlen : argsL.length = ps.length) (has : as = argsL.toArray) (hst : st = argsL.reverse ++ rest) (hW : (rest.map fun v => v.category).sum ≤ W) (hd : decode C.b.code pc = .ok (.invokestatic idx, 3)) (hp : pc + 3 = pc')
    (r : ∀ v h' J, h.size ≤ h'.size → Q' v h' J → Wk C h' k' n' J pc' Ls (v.toList ++ rest)) : Wk C h k n I pc Ls st := by
  subst hp has hst hk hn
  intro p e s vm0 m args below meth c T locs k0 S
  refine Wk.behind (b := b) hN rfl rfl r S ?_
  have hZ : C.Z.Warmed39 (s.setVm vm0).vm := S.2.1.2.1
  exact callSS S.2.2.2.1 S.1.1 (own := C.b.y.cls) S.2.1.1 (mvT hZ w1) (mvT hZ w2) (mvT hZ w3) (mvT hZ w4) hy (Cn.back (a0 := a0) (W := W) M hZ S.2.1.2.2.2 S.2.2.2.2.2.1 (hN' S.2.2.2.2.2.2.1) (Nat.le_trans S.1.2.2.2.2.2.2.1 hN) w4 w3 hf hl) (g := mkF m pc Ls (argsL.reverse ++ rest)) rfl (hsz.trans S.1.2.2.1.symm) (argsL := argsL) (rest := rest) (lenOf hpd hlen) rfl (by show 2 * 0 + _ ≤ _; omega) (hb S.1.2.1 hd) (fun _ _ => ⟨rfl, S.2.2.2.2.1, hkc, hnc⟩)
theorem Wk.callN {b : Bdy} {N' : Nat} {as : Array Value} {Q' : Option Value → Heap → Lts → Prop} {idx W : Nat} {ps : List FieldType} {rt : Option FieldType} {argsL : List Value} {a : Addr} (M : Cn C.l C.Z N' b as h I Q') (hini : b.y.name = "<init>") (hrt : b.ret = none)
    (w1 : (Jvm.Cond.methodLink C.b.y.cls idx b.y).before a0 C.Z = true) (w2 : (Jvm.Cond.instanceMethod b.y).before a0 C.Z = true) (w3 : (Jvm.Cond.initialized b.y.cls).before a0 C.Z = true) (w4 : (Jvm.Cond.code b.y b.code b.maxL b.ret).before a0 C.Z = true) (hy : NoPoly b.y)
    (hN : C.N ≤ N') (hN' : C.N ≤ h.size → N' ≤ h.size) (hf : b.room.frames + 1 ≤ C.b.room.frames) (hl : W + (b.maxL + 11) + b.room.locals ≤ C.b.room.locals) (hk : k + b.room.cells = k') (hn : n + b.room.slots = n') (hkc : k' ≤ C.b.room.cells) (hnc : n' ≤ C.b.room.slots)
    (hsz : Ls.size = C.b.maxL) (hpd : parseMethodDescriptor b.y.desc = some ⟨ps, rt⟩) (hlen : argsL.length = ps.length) (has : as = (.ref a :: argsL).toArray) (hst : st = argsL.reverse ++ .ref a :: rest) (hW : (rest.map fun v => v.category).sum ≤ W) (hd : decode C.b.code pc = .ok (.invokespecial idx, 3)) (hp : pc + 3 = pc')
    (r : ∀ v h' J, h.size ≤ h'.size → Q' v h' J → Wk C h' k' n' J pc' Ls (v.toList ++ rest)) : Wk C h k n I pc Ls st := by
  subst hp has hst hk hn
  intro p e s vm0 m args below meth c T locs k0 S
  refine Wk.behind (b := b) hN rfl rfl r S ?_
  have hZ : C.Z.Warmed39 (s.setVm vm0).vm := S.2.1.2.1
  have w4' : (Jvm.Cond.code b.y b.code b.maxL none).before a0 C.Z = true := by rw [← hrt]; exact w4
  exact S.2.2.2.1.specialBackS S.1.1 (own := C.b.y.cls) hini S.2.1.1 (mvT hZ w1) (mvT hZ w2) (mvT hZ w4') hy (Cn.back (a0 := a0) (W := W) M hZ S.2.1.2.2.2 S.2.2.2.2.2.1 (hN' S.2.2.2.2.2.2.1) (Nat.le_trans S.1.2.2.2.2.2.2.1 hN) w4 w3 hf hl) (g := mkF m pc Ls (argsL.reverse ++ .ref a :: rest)) rfl (hsz.trans S.1.2.2.1.symm) (Steps.refl _) (argsL := argsL) (rest := rest) (lenOf hpd hlen) rfl (by show 2 * 0 + _ ≤ _; omega) (hb S.1.2.1 hd) (fun _ _ => ⟨rfl, S.2.2.2.2.1, hkc, hnc⟩)
theorem Wk.callV {b : Bdy} {N' : Nat} {as : Array Value} {Q' : Option Value → Heap → Lts → Prop} {idx W : Nat} {ps : List FieldType} {rt : Option FieldType} {argsL : List Value} {a : Addr} {y : MethodName} {K K' : String} (M : Cn C.l C.Z N' b as h I Q') (E : Exa C.Z h a K)
    (w1 : (Jvm.Cond.methodLink C.b.y.cls idx y).before a0 C.Z = true) (wd : (Jvm.Cond.declares y).before a0 C.Z = true) (wn : (Jvm.Cond.selects K' y y).before a0 C.Z = true) (ws : (Jvm.Cond.selects K y b.y).before a0 C.Z = true) (w2 : (Jvm.Cond.instanceMethod b.y).before a0 C.Z = true) (w3 : (Jvm.Cond.initialized b.y.cls).before a0 C.Z = true) (w4 : (Jvm.Cond.code b.y b.code b.maxL b.ret).before a0 C.Z = true) (hy : NoPoly y)
    (hN : C.N ≤ N') (hN' : C.N ≤ h.size → N' ≤ h.size) (hf : b.room.frames + 1 ≤ C.b.room.frames) (hl : W + (b.maxL + 11) + b.room.locals ≤ C.b.room.locals) (hk : k + b.room.cells = k') (hn : n + b.room.slots = n') (hkc : k' ≤ C.b.room.cells) (hnc : n' ≤ C.b.room.slots)
    (hsz : Ls.size = C.b.maxL) (hpd : parseMethodDescriptor y.desc = some ⟨ps, rt⟩) (hlen : argsL.length = ps.length) (has : as = (.ref a :: argsL).toArray) (hst : st = argsL.reverse ++ .ref a :: rest) (hW : (rest.map fun v => v.category).sum ≤ W) (hd : decode C.b.code pc = .ok (.invokevirtual idx, 3)) (hp : pc + 3 = pc')
    (r : ∀ v h' J, h.size ≤ h'.size → Q' v h' J → Wk C h' k' n' J pc' Ls (v.toList ++ rest)) : Wk C h k n I pc Ls st := by
  subst hp has hst hk hn
  intro p e s vm0 m args below meth c T locs k0 S
  refine Wk.behind (b := b) hN rfl rfl r S ?_
  have hZ : C.Z.Warmed39 (s.setVm vm0).vm := S.2.1.2.1
  obtain ⟨cq, kq, qa, qb, qc⟩ := isOf (s := s.setVm vm0) hZ S.2.2.2.2.1 E
  exact S.2.2.2.1.virtualBackS S.1.1 (own := C.b.y.cls) (y := y) (z := b.y) S.2.1.1 (mvT hZ w1) (mvT hZ wd) (notFace_of_selects (args := #[]) (mvT hZ wn)) (mvT hZ ws) (mvT hZ w2) hy (Cn.back (a0 := a0) (W := W) M hZ S.2.1.2.2.2 S.2.2.2.2.2.1 (hN' S.2.2.2.2.2.2.1) (Nat.le_trans S.1.2.2.2.2.2.2.1 hN) w4 w3 hf hl) qa qc (g := mkF m pc Ls (argsL.reverse ++ .ref a :: rest)) rfl (hsz.trans S.1.2.2.1.symm) (Steps.refl _) (argsL := argsL) (rest := rest) (lenOf hpd hlen) rfl (by show 2 * 0 + _ ≤ _; omega) (hb S.1.2.1 hd) (fun _ _ => ⟨rfl, S.2.2.2.2.1, hkc, hnc⟩)
theorem Wk.callI {b : Bdy} {N' : Nat} {as : Array Value} {Q' : Option Value → Heap → Lts → Prop} {idx cnt W : Nat} {ps : List FieldType} {rt : Option FieldType} {argsL : List Value} {a : Addr} {y : MethodName} {K : String} (M : Cn C.l C.Z N' b as h I Q') (E : Exa C.Z h a K)
    (w1 : (Jvm.Cond.methodLink C.b.y.cls idx y).before a0 C.Z = true) (wd : (Jvm.Cond.declares y).before a0 C.Z = true) (wf : (Jvm.Cond.interfaceMethod y.cls y.cls y.name y.desc).before a0 C.Z = true) (ws : (Jvm.Cond.selects K y b.y).before a0 C.Z = true) (w2 : (Jvm.Cond.instanceMethod b.y).before a0 C.Z = true) (wp : (Jvm.Cond.publicMethod b.y).before a0 C.Z = true) (wu : (Jvm.Cond.unhidden K y.name y.desc).before a0 C.Z = true) (wk : (Jvm.Cond.castable K y.cls).before a0 C.Z = true) (w3 : (Jvm.Cond.initialized b.y.cls).before a0 C.Z = true) (w4 : (Jvm.Cond.code b.y b.code b.maxL b.ret).before a0 C.Z = true) (hy : NoPoly y)
    (hN : C.N ≤ N') (hN' : C.N ≤ h.size → N' ≤ h.size) (hf : b.room.frames + 1 ≤ C.b.room.frames) (hl : W + (b.maxL + 11) + b.room.locals ≤ C.b.room.locals) (hk : k + b.room.cells = k') (hn : n + b.room.slots = n') (hkc : k' ≤ C.b.room.cells) (hnc : n' ≤ C.b.room.slots)
    (hsz : Ls.size = C.b.maxL) (hpd : parseMethodDescriptor y.desc = some ⟨ps, rt⟩) (hlen : argsL.length = ps.length) (has : as = (.ref a :: argsL).toArray) (hst : st = argsL.reverse ++ .ref a :: rest) (hW : (rest.map fun v => v.category).sum ≤ W) (hd : decode C.b.code pc = .ok (.invokeinterface idx cnt, 5)) (hp : pc + 5 = pc')
    (r : ∀ v h' J, h.size ≤ h'.size → Q' v h' J → Wk C h' k' n' J pc' Ls (v.toList ++ rest)) : Wk C h k n I pc Ls st := by
  subst hp has hst hk hn
  intro p e s vm0 m args below meth c T locs k0 S
  refine Wk.behind (b := b) hN rfl rfl r S ?_
  have hZ : C.Z.Warmed39 (s.setVm vm0).vm := S.2.1.2.1
  obtain ⟨cq, kq, qa, qb, qc⟩ := isOf (s := s.setVm vm0) hZ S.2.2.2.2.1 E
  exact S.2.2.2.1.interfaceBackS S.1.1 (own := C.b.y.cls) (xi := y) (y := b.y) S.2.1.1 (mvT hZ w1) (mvT hZ wd) (mvT hZ wf (by simp [Cond.onTables, Cond.keepsFace, Cond.keeps, Cond.steady, Cond.faceAtom, hy.1, hy.2])) (mvT hZ ws) (mvT hZ w2) (mvT hZ wp) (mvT hZ wu) (mvT hZ wk) hy (Cn.back (a0 := a0) (W := W) M hZ S.2.1.2.2.2 S.2.2.2.2.2.1 (hN' S.2.2.2.2.2.2.1) (Nat.le_trans S.1.2.2.2.2.2.2.1 hN) w4 w3 hf hl) qa qb qc (g := mkF m pc Ls (argsL.reverse ++ .ref a :: rest)) rfl (hsz.trans S.1.2.2.1.symm) (Steps.refl _) (argsL := argsL) (rest := rest) (lenOf hpd hlen) rfl (by show 2 * 0 + _ ≤ _; omega) (hb S.1.2.1 hd) (fun _ _ => ⟨rfl, S.2.2.2.2.1, hkc, hnc⟩)
end Kit

section Kit2
variable {C : Cx} {h h' : Heap} {k n k' n' : Nat} {I : Lts} {pc pc' : Nat} {Ls Ls' : Array Slot} {st st' rest : List Value} {a0 : Array Value}
theorem Wk.ldcLit {idx cap : Nat} {text : String} {vs : List Value} {z : Int32} {Ts : List String} {Lk : List (String × Nat × Addr)} (w : (Jvm.Cond.stringLink C.b.y.cls idx text).before a0 C.Z = true) (wS : ∀ a ∈ Bundle.stringAtoms, a.before a0 C.Z = true) (hMN : C.M ≤ C.N) (hnot : text ∉ Ts) (hh : Jvm.Lit.constHeld C.Z C.b.y.cls idx) (hcw : Jvm.Lit.compactW.before a0 C.Z = true)
    (ht : (∀ c ∈ text.toList, c.toNat < 256) ∧ text.toList.map (fun c => Value.int (Jvm.Lit.byteI c.toNat.toUInt16)) = vs) (hz : ¬ z < 0) (hzl : z.toNatClampNeg = vs.length) (hd : decode C.b.code pc = .ok (.ldc idx, 2)) (hp : pc + 2 = pc') (hcap : 4 * text.toList.length ≤ cap) (hbig : cap ≤ 536870912) (hk : k + 2 = k') (hn : n + (cap + 4) = n') (hc : k' ≤ C.b.room.cells) (hl : n' ≤ C.b.room.slots)
    (r : ∀ a b q h', Ext h h' → Exa C.Z h' a "java/lang/String" → Fld C.Z h' a "java/lang/String" "coder" "B" (.int 0) → Fld C.Z h' a "java/lang/String" "value" "[B" (.ref b) → Arv C.Z h' b q .byte z vs (.int 0) → ((a < C.M ∧ b < C.M) ∨ (h.size ≤ a ∧ h.size ≤ b)) → Wk C h' k' n' (some (text :: Ts, [(C.b.y.cls, idx, a)])) pc' Ls (.ref a :: st)) : Wk C h k n (some (Ts, Lk)) pc Ls st := by
  subst hp hk hn
  intro p e s vm0 m args below meth c T locs k0 S
  obtain ⟨A, ⟨b1, b2, b3, b4⟩, q1, q2, q3, q4, q5, q6⟩ := S
  have hM : s.heap.size ≤ C.N := by rw [A.2.2.2.2.2.2.2.1]; exact hMN
  obtain ⟨a, T', h', k1, b, q, X', e', E, hS', hk1, hZ', ho', x1, x2, x3, x4, -, -, hI, hL, hpos, st'⟩ := ldcSVd q2 A.1 b2 b1 w wS q3 b3 q1 (fun y hy => Nat.le_trans hM (q6 y hy)) A.2.2.2.2.2.2.2.2.2 b4.1 hnot hh hcw ht hz hzl (g := mkF m pc Ls st) rfl (hb A.2.1 hd) hcap hbig hc hl
  obtain ⟨t, o, h1, h2⟩ := r a b q h' E x1 x2 x3 x4 (by rw [← A.2.2.2.2.2.2.2.1]; exact hpos) p e s T'.vm m args below meth c T' locs k1 ⟨A, ⟨ho', hZ', hS', hI, fun u hu => by rw [List.mem_singleton.mp hu]; exact hL⟩, hk1, X', e', ⟨Nat.le_trans q4.1 E.1, fun x c hx => E.2 _ _ (q4.2 _ _ hx)⟩, Nat.le_trans q5 E.1, q6⟩
  exact ⟨t, o, st' t h1, h2⟩
theorem Wk.ldcAgain {idx : Nat} {a : Addr} {text : String} {Ts : List String} {Lk : List (String × Nat × Addr)} (w : (Jvm.Cond.stringLink C.b.y.cls idx text).before a0 C.Z = true) (hm : (C.b.y.cls, idx, a) ∈ Lk) (hd : decode C.b.code pc = .ok (.ldc idx, 2)) (hp : pc + 2 = pc') (r : Wk C h k n (some (Ts, Lk)) pc' Ls (.ref a :: st)) : Wk C h k n (some (Ts, Lk)) pc Ls st := by
  subst hp
  refine Wk.law (fun p e s vm0 m args below meth c T locs k0 S => ⟨T, S.2.2.2.1, S.2.2.2.2.1, fun t kt => ?_⟩) r
  exact Jvm.RoadKit.ldcAgain S.2.2.2.1 S.1.1 S.2.1.2.1 S.2.1.1 w (S.2.1.2.2.2.2 _ hm) (g := mkF m pc Ls st) rfl (hb S.1.2.1 hd) t kt
/-- a walk that has written nothing below F yet -/
def WkM (F : Nat) (C : Cx) (h : Heap) (k n : Nat) (I : Lts) (pc : Nat) (Ls : Array Slot) (st : List Value) : Prop :=
  ∀ (p : Program) (e : Env) (s : State) (vm0 : Vm) (m : MethodId) (args : Array Value) (below : List Frame) (meth : Method) (c : Code) (T : State) (locs : List Loc) (k0 : Nat),
    St C p e s vm0 m args below meth c T locs k0 h k n I → Fr F locs →
    ∃ t o, Steps p.tables e below (T.setTop (mkF m pc Ls st)) t ∧ t.status = .running ∧ Ended t below o ∧ Fini C s o t
theorem Wk.toM {F : Nat} (r : Wk C h k n I pc Ls st) : WkM F C h k n I pc Ls st := fun p e s vm0 m args below meth c T locs k0 S _ => r p e s vm0 m args below meth c T locs k0 S
theorem WkM.law {F : Nat} (hs : ∀ (p : Program) (e : Env) (s : State) (vm0 : Vm) (m : MethodId) (args : Array Value) (below : List Frame) (meth : Method) (c : Code) (T : State) (locs : List Loc) (k0 : Nat), St C p e s vm0 m args below meth c T locs k0 h k n I →
      ∃ T', Stand p C.l e C.b.room (s.setVm vm0) m args below meth c T' locs k n ∧ T'.heap = h ∧ ∀ t, Steps p.tables e below (T'.setTop (mkF m pc' Ls' st')) t → Steps p.tables e below (T.setTop (mkF m pc Ls st)) t)
    (r : WkM F C h k n I pc' Ls' st') : WkM F C h k n I pc Ls st := fun p e s vm0 m args below meth c T locs k0 S hF => by
  obtain ⟨T', X', e', st⟩ := hs p e s vm0 m args below meth c T locs k0 S
  obtain ⟨t, o, h1, h2⟩ := r p e s vm0 m args below meth c T' locs k0 ⟨S.1, S.2.1, S.2.2.1, X', e', S.2.2.2.2.2⟩ hF
  exact ⟨t, o, st t h1, h2⟩
theorem WkM.step {F : Nat} (hs : ∀ (p : Program) (e : Env) (m : MethodId) (below : List Frame) (c : Code) (T t : State), At T m c below → p.tables.exec = Jvm.exec → c.code = C.b.code → Steps p.tables e below (T.setTop (mkF m pc' Ls' st')) t → Steps p.tables e below (T.setTop (mkF m pc Ls st)) t)
    (r : WkM F C h k n I pc' Ls' st') : WkM F C h k n I pc Ls st := fun p e s vm0 m args below meth c T locs k0 S hF => by
  obtain ⟨t, o, h1, h2⟩ := r p e s vm0 m args below meth c T locs k0 S hF
  exact ⟨t, o, hs p e m below c T t S.2.2.2.1.here S.1.1 S.1.2.1 h1, h2⟩
theorem WkM.iloadN {F : Nat} {j : Fin 4} {v : Int32} (hd : decode C.b.code pc = .ok (.iload_n j, 1)) (hp : pc + 1 = pc') (hl : Ls[j.val]? = some (.val (.int v))) (r : WkM F C h k n I pc' Ls (.int v :: st)) : WkM F C h k n I pc Ls st := by
  subst hp
  exact WkM.step (fun _ _ _ _ _ _ _ ha hx hby kt => XS.iloadN ha hx rfl (hb hby hd) hl kt) r
theorem WkM.aloadN {F : Nat} {j : Fin 4} {v : Value} (hd : decode C.b.code pc = .ok (.aload_n j, 1)) (hp : pc + 1 = pc') (hl : Ls[j.val]? = some (.val v)) (hv : v.isRef = true) (r : WkM F C h k n I pc' Ls (v :: st)) : WkM F C h k n I pc Ls st := by
  subst hp
  exact WkM.step (fun _ _ _ _ _ _ _ ha hx hby kt => XS.aloadN ha hx rfl (hb hby hd) hl hv kt) r
theorem WkM.if_neN {F : Nat} {x : Int32} {o : Int} (hd : decode C.b.code pc = .ok (.ifCond .ne o, 3)) (hp : pc + 3 = pc') (hc : x = (0 : Int32)) (r : WkM F C h k n I pc' Ls st) : WkM F C h k n I pc Ls (.int x :: st) := by
  subst hp
  exact WkM.step (fun _ _ _ _ _ _ _ ha hx hby kt => XS.ifNo ha hx rfl (hb hby hd) rfl ((if0 _ _).trans (teq hc).2) kt) r
theorem WkM.initO {F : Nat} {idx W : Nat} {a : Addr} (w1 : (Jvm.Cond.methodLink C.b.y.cls idx Lib.objectInit).before a0 C.Z = true) (w2 : (Jvm.Cond.instanceMethod Lib.objectInit).before a0 C.Z = true) (w3 : (Jvm.Cond.code Lib.objectInit ⟨#[0xb1]⟩ 1 none).before a0 C.Z = true) (hsz : Ls.size = C.b.maxL) (hd : decode C.b.code pc = .ok (.invokespecial idx, 3)) (hp : pc + 3 = pc') (hf : 1 ≤ C.b.room.frames) (hW : (st.map fun v => v.category).sum ≤ W) (hl : W + 12 ≤ C.b.room.locals)
    (r : WkM F C h k n I pc' Ls st) : WkM F C h k n I pc Ls (.ref a :: st) := by
  subst hp
  exact WkM.law (fun p e s vm0 m args below meth c T locs k0 S => Jvm.RoadKit.initO (g := mkF m pc Ls (.ref a :: st)) S.2.2.2.1 S.1.1 S.2.1.2.1 S.2.1.1 w1 w2 w3 S.2.2.2.2.1 rfl (hsz.trans S.1.2.2.1.symm) rfl (hb S.1.2.1 hd) hf (W := W) (by show 2 * 0 + _ ≤ _; omega) hl) r
theorem WkM.ldcLit {F idx cap : Nat} {text : String} {vs : List Value} {z : Int32} {Ts : List String} {Lk : List (String × Nat × Addr)} (w : (Jvm.Cond.stringLink C.b.y.cls idx text).before a0 C.Z = true) (wS : ∀ a ∈ Bundle.stringAtoms, a.before a0 C.Z = true) (hMN : C.M ≤ F) (hnot : text ∉ Ts) (hh : Jvm.Lit.constHeld C.Z C.b.y.cls idx) (hcw : Jvm.Lit.compactW.before a0 C.Z = true)
    (ht : (∀ c ∈ text.toList, c.toNat < 256) ∧ text.toList.map (fun c => Value.int (Jvm.Lit.byteI c.toNat.toUInt16)) = vs) (hz : ¬ z < 0) (hzl : z.toNatClampNeg = vs.length) (hd : decode C.b.code pc = .ok (.ldc idx, 2)) (hp : pc + 2 = pc') (hcap : 4 * text.toList.length ≤ cap) (hbig : cap ≤ 536870912) (hk : k + 2 = k') (hn : n + (cap + 4) = n') (hc : k' ≤ C.b.room.cells) (hl : n' ≤ C.b.room.slots)
    (r : ∀ a b q h', Ext h h' → Exa C.Z h' a "java/lang/String" → Fld C.Z h' a "java/lang/String" "coder" "B" (.int 0) → Fld C.Z h' a "java/lang/String" "value" "[B" (.ref b) → Arv C.Z h' b q .byte z vs (.int 0) → ((a < C.M ∧ b < C.M) ∨ (h.size ≤ a ∧ h.size ≤ b)) → Wk C h' k' n' (some (text :: Ts, [(C.b.y.cls, idx, a)])) pc' Ls (.ref a :: st)) : WkM F C h k n (some (Ts, Lk)) pc Ls st := by
  subst hp hk hn
  intro p e s vm0 m args below meth c T locs k0 S hF
  obtain ⟨A, ⟨b1, b2, b3, b4⟩, q1, q2, q3, q4, q5, q6⟩ := S
  have hM : s.heap.size ≤ F := by rw [A.2.2.2.2.2.2.2.1]; exact hMN
  obtain ⟨a, T', h', k1, b, q, X', e', E, hS', hk1, hZ', ho', x1, x2, x3, x4, -, -, hI, hL, hpos, st'⟩ := ldcSVd q2 A.1 b2 b1 w wS q3 b3 q1 (fun y hy => Nat.le_trans hM (hF y hy)) A.2.2.2.2.2.2.2.2.2 b4.1 hnot hh hcw ht hz hzl (g := mkF m pc Ls st) rfl (hb A.2.1 hd) hcap hbig hc hl
  obtain ⟨t, o, h1, h2⟩ := r a b q h' E x1 x2 x3 x4 (by rw [← A.2.2.2.2.2.2.2.1]; exact hpos) p e s T'.vm m args below meth c T' locs k1 ⟨A, ⟨ho', hZ', hS', hI, fun u hu => by rw [List.mem_singleton.mp hu]; exact hL⟩, hk1, X', e', ⟨Nat.le_trans q4.1 E.1, fun x c hx => E.2 _ _ (q4.2 _ _ hx)⟩, Nat.le_trans q5 E.1, q6⟩
  exact ⟨t, o, st' t h1, h2⟩
theorem Cn.of_wkM {l : Launch} {Z : State} {N : Nat} {b : Bdy} {as : Array Value} {Q : Option Value → Heap → Lts → Prop} (hp : plainFor b.y = true) (he : ∀ m, entryFrame m as b.maxL = mkF m 0 Ls []) (r : WkM h.size (l, Z, N, h.size, b, Q) h 0 0 I 0 Ls []) : Cn l Z N b as h I Q := by
  intro ws
  refine MetFree.of_bodySF hp hisR ?_
  intro p e s m args below meth c s₁ Bd hml0 hP hK
  obtain ⟨rfl, hZ, hh, hV, hE, hN, hZN⟩ := hP
  have X0 : Stand p l e b.room (s.setVm s.vm) m args below meth c s₁ [] 0 0 := Stand.of_body Bd
  have e0 : s₁.heap = h := by rw [← hh, Bd.state]; rfl
  obtain ⟨t, o, h1, h2⟩ := r p e s s.vm m args below meth c s₁ [] s.heap.size ⟨⟨Bd.exec, Bd.bytes, hml0, Bd.returns, Bd.notSynchronized, (name_of_methodNamed Bd.named Bd.method).1, hZN, by rw [hh], by rw [hh]; exact hE⟩, ⟨findClass_of_methodNamed Bd.named, hZ, (State.WarmedH.refl s).since _, hV⟩, by rw [hh]; exact Nat.le_refl _, X0, e0, hE, hN, Fr.nil _⟩ (Fr.nil _)
  exact ⟨t, o, castTop (he m) h1, h2⟩
end Kit2
theorem w0 {Z : State} {a0 : Array Value} (hw : ∀ d ∈ tables_1, d.before a0 Z = true) : (Jvm.Cond.constant "com/example/gravamen/gravamen/HttpSyntaxIsTokenPinLaw" (7 : Nat) (2147483647 : Int32)).before a0 Z = true := hw _ (List.mem_of_getElem? (i := 0) rfl)
theorem w1 {Z : State} {a0 : Array Value} (hw : ∀ d ∈ tables_1, d.before a0 Z = true) : (Jvm.Cond.constant "com/example/gravamen/gravamen/HttpSyntaxIsTokenPinLaw" (8 : Nat) (65535 : Int32)).before a0 Z = true := hw _ (List.mem_of_getElem? (i := 1) rfl)
theorem w2 {Z : State} {a0 : Array Value} (hw : ∀ d ∈ tables_1, d.before a0 Z = true) : (Jvm.Cond.methodLink "com/example/gravamen/gravamen/HttpSyntaxIsTokenPinLaw" (9 : Nat) ({ cls := "com/example/gravamen/gravamen/HttpSyntaxIsTokenPinLaw", name := "make", desc := "(ICCCC)Ljava/lang/String;" } : Jvm.MethodName)).before a0 Z = true := hw _ (List.mem_of_getElem? (i := 2) rfl)
theorem w3 {Z : State} {a0 : Array Value} (hw : ∀ d ∈ tables_1, d.before a0 Z = true) : (Jvm.Cond.static ({ cls := "com/example/gravamen/gravamen/HttpSyntaxIsTokenPinLaw", name := "make", desc := "(ICCCC)Ljava/lang/String;" } : Jvm.MethodName)).before a0 Z = true := hw _ (List.mem_of_getElem? (i := 3) rfl)
theorem w4 {Z : State} {a0 : Array Value} (hw : ∀ d ∈ tables_1, d.before a0 Z = true) : (Jvm.Cond.initialized "com/example/gravamen/gravamen/HttpSyntaxIsTokenPinLaw").before a0 Z = true := hw _ (List.mem_of_getElem? (i := 4) rfl)
theorem w5 {Z : State} {a0 : Array Value} (hw : ∀ d ∈ tables_1, d.before a0 Z = true) : (Jvm.Cond.code ({ cls := "com/example/gravamen/gravamen/HttpSyntaxIsTokenPinLaw", name := "make", desc := "(ICCCC)Ljava/lang/String;" } : Jvm.MethodName) method_3_code (5 : Nat) (Option.some (Jvm.ClassFile.FieldType.object "java/lang/String"))).before a0 Z = true := hw _ (List.mem_of_getElem? (i := 5) rfl)
theorem w6 {Z : State} {a0 : Array Value} (hw : ∀ d ∈ tables_1, d.before a0 Z = true) : (Jvm.Cond.classLink "com/example/gravamen/gravamen/HttpSyntaxIsTokenPinLaw" (25 : Nat) "java/lang/String").before a0 Z = true := hw _ (List.mem_of_getElem? (i := 6) rfl)
theorem w7 {Z : State} {a0 : Array Value} (hw : ∀ d ∈ tables_1, d.before a0 Z = true) : (Jvm.Cond.instantiable "java/lang/String" (4 : Nat)).before a0 Z = true := hw _ (List.mem_of_getElem? (i := 7) rfl)
theorem w8 {Z : State} {a0 : Array Value} (hw : ∀ d ∈ tables_1, d.before a0 Z = true) : (Jvm.Cond.initialized "java/lang/String").before a0 Z = true := hw _ (List.mem_of_getElem? (i := 8) rfl)
theorem w9 {Z : State} {a0 : Array Value} (hw : ∀ d ∈ tables_1, d.before a0 Z = true) : (Jvm.Cond.arrayClass Jvm.ClassFile.FieldType.char).before a0 Z = true := hw _ (List.mem_of_getElem? (i := 9) rfl)
theorem w10 {Z : State} {a0 : Array Value} (hw : ∀ d ∈ tables_1, d.before a0 Z = true) : (Jvm.Cond.methodLink "com/example/gravamen/gravamen/HttpSyntaxIsTokenPinLaw" (27 : Nat) ({ cls := "java/lang/String", name := "<init>", desc := "([C)V" } : Jvm.MethodName)).before a0 Z = true := hw _ (List.mem_of_getElem? (i := 10) rfl)
theorem w11 {Z : State} {a0 : Array Value} (hw : ∀ d ∈ tables_1, d.before a0 Z = true) : (Jvm.Cond.instanceMethod ({ cls := "java/lang/String", name := "<init>", desc := "([C)V" } : Jvm.MethodName)).before a0 Z = true := hw _ (List.mem_of_getElem? (i := 11) rfl)
theorem w12 {Z : State} {a0 : Array Value} (hw : ∀ d ∈ tables_1, d.before a0 Z = true) : (Jvm.Cond.code ({ cls := "java/lang/String", name := "<init>", desc := "([C)V" } : Jvm.MethodName) jdk_42_method_3_code (2 : Nat) (Option.none : Option Jvm.ClassFile.FieldType)).before a0 Z = true := hw _ (List.mem_of_getElem? (i := 12) rfl)
theorem w13 {Z : State} {a0 : Array Value} (hw : ∀ d ∈ tables_1, d.before a0 Z = true) : (Jvm.Cond.methodLink "java/lang/String" (27 : Nat) ({ cls := "java/lang/String", name := "<init>", desc := "([CIILjava/lang/Void;)V" } : Jvm.MethodName)).before a0 Z = true := hw _ (List.mem_of_getElem? (i := 13) rfl)
theorem w14 {Z : State} {a0 : Array Value} (hw : ∀ d ∈ tables_1, d.before a0 Z = true) : (Jvm.Cond.instanceMethod ({ cls := "java/lang/String", name := "<init>", desc := "([CIILjava/lang/Void;)V" } : Jvm.MethodName)).before a0 Z = true := hw _ (List.mem_of_getElem? (i := 14) rfl)
theorem w16 {Z : State} {a0 : Array Value} (hw : ∀ d ∈ tables_1, d.before a0 Z = true) : (Jvm.Cond.code ({ cls := "java/lang/String", name := "<init>", desc := "([CIILjava/lang/Void;)V" } : Jvm.MethodName) jdk_42_method_149_code (6 : Nat) (Option.none : Option Jvm.ClassFile.FieldType)).before a0 Z = true := hw _ (List.mem_of_getElem? (i := 16) rfl)
theorem w17 {Z : State} {a0 : Array Value} (hw : ∀ d ∈ tables_1, d.before a0 Z = true) : (Jvm.Cond.methodLink "java/lang/String" (1 : Nat) ({ cls := "java/lang/Object", name := "<init>", desc := "()V" } : Jvm.MethodName)).before a0 Z = true := hw _ (List.mem_of_getElem? (i := 17) rfl)
theorem w18 {Z : State} {a0 : Array Value} (hw : ∀ d ∈ tables_1, d.before a0 Z = true) : (Jvm.Cond.instanceMethod ({ cls := "java/lang/Object", name := "<init>", desc := "()V" } : Jvm.MethodName)).before a0 Z = true := hw _ (List.mem_of_getElem? (i := 18) rfl)
theorem w19 {Z : State} {a0 : Array Value} (hw : ∀ d ∈ tables_1, d.before a0 Z = true) : (Jvm.Cond.code ({ cls := "java/lang/Object", name := "<init>", desc := "()V" } : Jvm.MethodName) object_method_1_code (1 : Nat) (Option.none : Option Jvm.ClassFile.FieldType)).before a0 Z = true := hw _ (List.mem_of_getElem? (i := 19) rfl)
theorem w20 {Z : State} {a0 : Array Value} (hw : ∀ d ∈ tables_1, d.before a0 Z = true) : (Jvm.Cond.stringLink "java/lang/String" (7 : Nat) "").before a0 Z = true := hw _ (List.mem_of_getElem? (i := 20) rfl)
theorem w21 {Z : State} {a0 : Array Value} (hw : ∀ d ∈ tables_1, d.before a0 Z = true) : (Jvm.Cond.arrayClass Jvm.ClassFile.FieldType.byte).before a0 Z = true := hw _ (List.mem_of_getElem? (i := 21) rfl)
theorem w22 {Z : State} {a0 : Array Value} (hw : ∀ d ∈ tables_1, d.before a0 Z = true) : (Jvm.Cond.laysFinal "java/lang/String" "java/lang/String" "value" "[B").before a0 Z = true := hw _ (List.mem_of_getElem? (i := 22) rfl)
theorem w23 {Z : State} {a0 : Array Value} (hw : ∀ d ∈ tables_1, d.before a0 Z = true) : (Jvm.Cond.laysFinal "java/lang/String" "java/lang/String" "coder" "B").before a0 Z = true := hw _ (List.mem_of_getElem? (i := 23) rfl)
theorem w24 {Z : State} {a0 : Array Value} (hw : ∀ d ∈ tables_1, d.before a0 Z = true) : (Jvm.Cond.soleField "java/lang/String" "value").before a0 Z = true := hw _ (List.mem_of_getElem? (i := 24) rfl)
theorem w25 {Z : State} {a0 : Array Value} (hw : ∀ d ∈ tables_1, d.before a0 Z = true) : (Jvm.Cond.soleField "java/lang/String" "coder").before a0 Z = true := hw _ (List.mem_of_getElem? (i := 25) rfl)
theorem w26 {Z : State} {a0 : Array Value} (hw : ∀ d ∈ tables_1, d.before a0 Z = true) : (Jvm.Cond.fieldLink "java/lang/String" (9 : Nat) "java/lang/String" "value" "[B").before a0 Z = true := hw _ (List.mem_of_getElem? (i := 26) rfl)
theorem w27 {Z : State} {a0 : Array Value} (hw : ∀ d ∈ tables_1, d.before a0 Z = true) : (Jvm.Cond.fieldLink "java/lang/String" (15 : Nat) "java/lang/String" "coder" "B").before a0 Z = true := hw _ (List.mem_of_getElem? (i := 27) rfl)
theorem w28 {Z : State} {a0 : Array Value} (hw : ∀ d ∈ tables_1, d.before a0 Z = true) : (Jvm.Cond.methodLink "com/example/gravamen/gravamen/HttpSyntaxIsTokenPinLaw" (19 : Nat) ({ cls := "com/example/gravamen/gravamen/HttpSyntax", name := "isToken", desc := "(Ljava/lang/String;)Z" } : Jvm.MethodName)).before a0 Z = true := hw _ (List.mem_of_getElem? (i := 28) rfl)
theorem w29 {Z : State} {a0 : Array Value} (hw : ∀ d ∈ tables_1, d.before a0 Z = true) : (Jvm.Cond.static ({ cls := "com/example/gravamen/gravamen/HttpSyntax", name := "isToken", desc := "(Ljava/lang/String;)Z" } : Jvm.MethodName)).before a0 Z = true := hw _ (List.mem_of_getElem? (i := 29) rfl)
theorem w30 {Z : State} {a0 : Array Value} (hw : ∀ d ∈ tables_1, d.before a0 Z = true) : (Jvm.Cond.initialized "com/example/gravamen/gravamen/HttpSyntax").before a0 Z = true := hw _ (List.mem_of_getElem? (i := 30) rfl)
theorem w31 {Z : State} {a0 : Array Value} (hw : ∀ d ∈ tables_1, d.before a0 Z = true) : (Jvm.Cond.code ({ cls := "com/example/gravamen/gravamen/HttpSyntax", name := "isToken", desc := "(Ljava/lang/String;)Z" } : Jvm.MethodName) prog_2_method_2_code (1 : Nat) (Option.some Jvm.ClassFile.FieldType.boolean)).before a0 Z = true := hw _ (List.mem_of_getElem? (i := 31) rfl)
theorem w32 {Z : State} {a0 : Array Value} (hw : ∀ d ∈ tables_1, d.before a0 Z = true) : (Jvm.Cond.methodLink "com/example/gravamen/gravamen/HttpSyntax" (7 : Nat) ({ cls := "java/lang/String", name := "isEmpty", desc := "()Z" } : Jvm.MethodName)).before a0 Z = true := hw _ (List.mem_of_getElem? (i := 32) rfl)
theorem w33 {Z : State} {a0 : Array Value} (hw : ∀ d ∈ tables_1, d.before a0 Z = true) : (Jvm.Cond.declares ({ cls := "java/lang/String", name := "isEmpty", desc := "()Z" } : Jvm.MethodName)).before a0 Z = true := hw _ (List.mem_of_getElem? (i := 33) rfl)
theorem w34 {Z : State} {a0 : Array Value} (hw : ∀ d ∈ tables_1, d.before a0 Z = true) : (Jvm.Cond.instanceMethod ({ cls := "java/lang/String", name := "isEmpty", desc := "()Z" } : Jvm.MethodName)).before a0 Z = true := hw _ (List.mem_of_getElem? (i := 34) rfl)
theorem w35 {Z : State} {a0 : Array Value} (hw : ∀ d ∈ tables_1, d.before a0 Z = true) : (Jvm.Cond.selects "java/lang/String" ({ cls := "java/lang/String", name := "isEmpty", desc := "()Z" } : Jvm.MethodName) ({ cls := "java/lang/String", name := "isEmpty", desc := "()Z" } : Jvm.MethodName)).before a0 Z = true := hw _ (List.mem_of_getElem? (i := 35) rfl)
theorem w36 {Z : State} {a0 : Array Value} (hw : ∀ d ∈ tables_1, d.before a0 Z = true) : (Jvm.Cond.code ({ cls := "java/lang/String", name := "isEmpty", desc := "()Z" } : Jvm.MethodName) jdk_42_method_55_code (1 : Nat) (Option.some Jvm.ClassFile.FieldType.boolean)).before a0 Z = true := hw _ (List.mem_of_getElem? (i := 36) rfl)
theorem w37 {Z : State} {a0 : Array Value} (hw : ∀ d ∈ tables_1, d.before a0 Z = true) : (Jvm.Cond.methodLink "com/example/gravamen/gravamen/HttpSyntaxIsTokenPinLaw" (30 : Nat) ({ cls := "java/lang/String", name := "valueOf", desc := "(C)Ljava/lang/String;" } : Jvm.MethodName)).before a0 Z = true := hw _ (List.mem_of_getElem? (i := 37) rfl)
theorem w38 {Z : State} {a0 : Array Value} (hw : ∀ d ∈ tables_1, d.before a0 Z = true) : (Jvm.Cond.static ({ cls := "java/lang/String", name := "valueOf", desc := "(C)Ljava/lang/String;" } : Jvm.MethodName)).before a0 Z = true := hw _ (List.mem_of_getElem? (i := 38) rfl)
theorem w39 {Z : State} {a0 : Array Value} (hw : ∀ d ∈ tables_1, d.before a0 Z = true) : (Jvm.Cond.code ({ cls := "java/lang/String", name := "valueOf", desc := "(C)Ljava/lang/String;" } : Jvm.MethodName) jdk_42_method_139_code (1 : Nat) (Option.some (Jvm.ClassFile.FieldType.object "java/lang/String"))).before a0 Z = true := hw _ (List.mem_of_getElem? (i := 39) rfl)
theorem w40 {Z : State} {a0 : Array Value} (hw : ∀ d ∈ tables_1, d.before a0 Z = true) : (Jvm.Cond.fieldLink "java/lang/String" (38 : Nat) "java/lang/String" "COMPACT_STRINGS" "Z").before a0 Z = true := hw _ (List.mem_of_getElem? (i := 40) rfl)
theorem w41 {Z : State} {a0 : Array Value} (hw : ∀ d ∈ tables_1, d.before a0 Z = true) : (Jvm.Cond.methodLink "java/lang/String" (1015 : Nat) ({ cls := "java/lang/StringLatin1", name := "canEncode", desc := "(C)Z" } : Jvm.MethodName)).before a0 Z = true := hw _ (List.mem_of_getElem? (i := 41) rfl)
theorem w42 {Z : State} {a0 : Array Value} (hw : ∀ d ∈ tables_1, d.before a0 Z = true) : (Jvm.Cond.static ({ cls := "java/lang/StringLatin1", name := "canEncode", desc := "(C)Z" } : Jvm.MethodName)).before a0 Z = true := hw _ (List.mem_of_getElem? (i := 42) rfl)
theorem w43 {Z : State} {a0 : Array Value} (hw : ∀ d ∈ tables_1, d.before a0 Z = true) : (Jvm.Cond.initialized "java/lang/StringLatin1").before a0 Z = true := hw _ (List.mem_of_getElem? (i := 43) rfl)
theorem w44 {Z : State} {a0 : Array Value} (hw : ∀ d ∈ tables_1, d.before a0 Z = true) : (Jvm.Cond.code ({ cls := "java/lang/StringLatin1", name := "canEncode", desc := "(C)Z" } : Jvm.MethodName) jdk_43_method_3_code (1 : Nat) (Option.some Jvm.ClassFile.FieldType.boolean)).before a0 Z = true := hw _ (List.mem_of_getElem? (i := 44) rfl)
theorem w45 {Z : State} {a0 : Array Value} (hw : ∀ d ∈ tables_1, d.before a0 Z = true) : (Jvm.Cond.classLink "java/lang/String" (10 : Nat) "java/lang/String").before a0 Z = true := hw _ (List.mem_of_getElem? (i := 45) rfl)
theorem w46 {Z : State} {a0 : Array Value} (hw : ∀ d ∈ tables_1, d.before a0 Z = true) : (Jvm.Cond.methodLink "java/lang/String" (1018 : Nat) ({ cls := "java/lang/StringLatin1", name := "toBytes", desc := "(C)[B" } : Jvm.MethodName)).before a0 Z = true := hw _ (List.mem_of_getElem? (i := 46) rfl)
theorem w47 {Z : State} {a0 : Array Value} (hw : ∀ d ∈ tables_1, d.before a0 Z = true) : (Jvm.Cond.static ({ cls := "java/lang/StringLatin1", name := "toBytes", desc := "(C)[B" } : Jvm.MethodName)).before a0 Z = true := hw _ (List.mem_of_getElem? (i := 47) rfl)
theorem w48 {Z : State} {a0 : Array Value} (hw : ∀ d ∈ tables_1, d.before a0 Z = true) : (Jvm.Cond.code ({ cls := "java/lang/StringLatin1", name := "toBytes", desc := "(C)[B" } : Jvm.MethodName) jdk_43_method_46_code (1 : Nat) (Option.some (Jvm.ClassFile.FieldType.array Jvm.ClassFile.FieldType.byte))).before a0 Z = true := hw _ (List.mem_of_getElem? (i := 48) rfl)
theorem w49 {Z : State} {a0 : Array Value} (hw : ∀ d ∈ tables_1, d.before a0 Z = true) : (Jvm.Cond.methodLink "java/lang/String" (209 : Nat) ({ cls := "java/lang/String", name := "<init>", desc := "([BB)V" } : Jvm.MethodName)).before a0 Z = true := hw _ (List.mem_of_getElem? (i := 49) rfl)
theorem w50 {Z : State} {a0 : Array Value} (hw : ∀ d ∈ tables_1, d.before a0 Z = true) : (Jvm.Cond.instanceMethod ({ cls := "java/lang/String", name := "<init>", desc := "([BB)V" } : Jvm.MethodName)).before a0 Z = true := hw _ (List.mem_of_getElem? (i := 50) rfl)
theorem w51 {Z : State} {a0 : Array Value} (hw : ∀ d ∈ tables_1, d.before a0 Z = true) : (Jvm.Cond.code ({ cls := "java/lang/String", name := "<init>", desc := "([BB)V" } : Jvm.MethodName) jdk_42_method_151_code (3 : Nat) (Option.none : Option Jvm.ClassFile.FieldType)).before a0 Z = true := hw _ (List.mem_of_getElem? (i := 51) rfl)
theorem w52 {Z : State} {a0 : Array Value} (hw : ∀ d ∈ tables_1, d.before a0 Z = true) : (Jvm.Cond.methodLink "com/example/gravamen/gravamen/HttpSyntaxIsTokenPinLaw" (15 : Nat) ({ cls := "com/example/gravamen/gravamen/HttpSyntaxIsTokenPinLaw", name := "tchar", desc := "(C)Z" } : Jvm.MethodName)).before a0 Z = true := hw _ (List.mem_of_getElem? (i := 52) rfl)
theorem w53 {Z : State} {a0 : Array Value} (hw : ∀ d ∈ tables_1, d.before a0 Z = true) : (Jvm.Cond.static ({ cls := "com/example/gravamen/gravamen/HttpSyntaxIsTokenPinLaw", name := "tchar", desc := "(C)Z" } : Jvm.MethodName)).before a0 Z = true := hw _ (List.mem_of_getElem? (i := 53) rfl)
theorem w54 {Z : State} {a0 : Array Value} (hw : ∀ d ∈ tables_1, d.before a0 Z = true) : (Jvm.Cond.code ({ cls := "com/example/gravamen/gravamen/HttpSyntaxIsTokenPinLaw", name := "tchar", desc := "(C)Z" } : Jvm.MethodName) method_4_code (1 : Nat) (Option.some Jvm.ClassFile.FieldType.boolean)).before a0 Z = true := hw _ (List.mem_of_getElem? (i := 54) rfl)
theorem w55 {Z : State} {a0 : Array Value} (hw : ∀ d ∈ tables_1, d.before a0 Z = true) : (Jvm.Cond.fieldLink "com/example/gravamen/gravamen/HttpSyntax" (13 : Nat) "com/example/gravamen/gravamen/HttpSyntax" "TOKEN" "[Z").before a0 Z = true := hw _ (List.mem_of_getElem? (i := 55) rfl)
theorem w56 {Z : State} {a0 : Array Value} (hw : ∀ d ∈ tables_1, d.before a0 Z = true) : (Jvm.Cond.laysStatic "com/example/gravamen/gravamen/HttpSyntax" "TOKEN" "[Z").before a0 Z = true := hw _ (List.mem_of_getElem? (i := 56) rfl)
theorem w57 {Z : State} {a0 : Array Value} (hw : ∀ d ∈ tables_1, d.before a0 Z = true) : (Jvm.Cond.methodLink "com/example/gravamen/gravamen/HttpSyntax" (19 : Nat) ({ cls := "com/example/gravamen/gravamen/HttpSyntax", name := "consistsOf", desc := "(Ljava/lang/String;[Z)Z" } : Jvm.MethodName)).before a0 Z = true := hw _ (List.mem_of_getElem? (i := 57) rfl)
theorem w58 {Z : State} {a0 : Array Value} (hw : ∀ d ∈ tables_1, d.before a0 Z = true) : (Jvm.Cond.static ({ cls := "com/example/gravamen/gravamen/HttpSyntax", name := "consistsOf", desc := "(Ljava/lang/String;[Z)Z" } : Jvm.MethodName)).before a0 Z = true := hw _ (List.mem_of_getElem? (i := 58) rfl)
theorem w59 {Z : State} {a0 : Array Value} (hw : ∀ d ∈ tables_1, d.before a0 Z = true) : (Jvm.Cond.code ({ cls := "com/example/gravamen/gravamen/HttpSyntax", name := "consistsOf", desc := "(Ljava/lang/String;[Z)Z" } : Jvm.MethodName) prog_2_method_12_code (4 : Nat) (Option.some Jvm.ClassFile.FieldType.boolean)).before a0 Z = true := hw _ (List.mem_of_getElem? (i := 59) rfl)
theorem w60 {Z : State} {a0 : Array Value} (hw : ∀ d ∈ tables_1, d.before a0 Z = true) : (Jvm.Cond.methodLink "com/example/gravamen/gravamen/HttpSyntax" (29 : Nat) ({ cls := "java/lang/String", name := "length", desc := "()I" } : Jvm.MethodName)).before a0 Z = true := hw _ (List.mem_of_getElem? (i := 60) rfl)
theorem w61 {Z : State} {a0 : Array Value} (hw : ∀ d ∈ tables_1, d.before a0 Z = true) : (Jvm.Cond.declares ({ cls := "java/lang/String", name := "length", desc := "()I" } : Jvm.MethodName)).before a0 Z = true := hw _ (List.mem_of_getElem? (i := 61) rfl)
theorem w62 {Z : State} {a0 : Array Value} (hw : ∀ d ∈ tables_1, d.before a0 Z = true) : (Jvm.Cond.instanceMethod ({ cls := "java/lang/String", name := "length", desc := "()I" } : Jvm.MethodName)).before a0 Z = true := hw _ (List.mem_of_getElem? (i := 62) rfl)
theorem w63 {Z : State} {a0 : Array Value} (hw : ∀ d ∈ tables_1, d.before a0 Z = true) : (Jvm.Cond.selects "java/lang/String" ({ cls := "java/lang/String", name := "length", desc := "()I" } : Jvm.MethodName) ({ cls := "java/lang/String", name := "length", desc := "()I" } : Jvm.MethodName)).before a0 Z = true := hw _ (List.mem_of_getElem? (i := 63) rfl)
theorem w64 {Z : State} {a0 : Array Value} (hw : ∀ d ∈ tables_1, d.before a0 Z = true) : (Jvm.Cond.code ({ cls := "java/lang/String", name := "length", desc := "()I" } : Jvm.MethodName) jdk_42_method_54_code (1 : Nat) (Option.some Jvm.ClassFile.FieldType.int)).before a0 Z = true := hw _ (List.mem_of_getElem? (i := 64) rfl)
theorem w65 {Z : State} {a0 : Array Value} (hw : ∀ d ∈ tables_1, d.before a0 Z = true) : (Jvm.Cond.methodLink "java/lang/String" (335 : Nat) ({ cls := "java/lang/String", name := "coder", desc := "()B" } : Jvm.MethodName)).before a0 Z = true := hw _ (List.mem_of_getElem? (i := 65) rfl)
theorem w66 {Z : State} {a0 : Array Value} (hw : ∀ d ∈ tables_1, d.before a0 Z = true) : (Jvm.Cond.declares ({ cls := "java/lang/String", name := "coder", desc := "()B" } : Jvm.MethodName)).before a0 Z = true := hw _ (List.mem_of_getElem? (i := 66) rfl)
theorem w67 {Z : State} {a0 : Array Value} (hw : ∀ d ∈ tables_1, d.before a0 Z = true) : (Jvm.Cond.instanceMethod ({ cls := "java/lang/String", name := "coder", desc := "()B" } : Jvm.MethodName)).before a0 Z = true := hw _ (List.mem_of_getElem? (i := 67) rfl)
theorem w68 {Z : State} {a0 : Array Value} (hw : ∀ d ∈ tables_1, d.before a0 Z = true) : (Jvm.Cond.selects "java/lang/String" ({ cls := "java/lang/String", name := "coder", desc := "()B" } : Jvm.MethodName) ({ cls := "java/lang/String", name := "coder", desc := "()B" } : Jvm.MethodName)).before a0 Z = true := hw _ (List.mem_of_getElem? (i := 68) rfl)
theorem w69 {Z : State} {a0 : Array Value} (hw : ∀ d ∈ tables_1, d.before a0 Z = true) : (Jvm.Cond.code ({ cls := "java/lang/String", name := "coder", desc := "()B" } : Jvm.MethodName) jdk_42_method_152_code (1 : Nat) (Option.some Jvm.ClassFile.FieldType.byte)).before a0 Z = true := hw _ (List.mem_of_getElem? (i := 69) rfl)
theorem w70 {Z : State} {a0 : Array Value} (hw : ∀ d ∈ tables_1, d.before a0 Z = true) : (Jvm.Cond.methodLink "com/example/gravamen/gravamen/HttpSyntax" (74 : Nat) ({ cls := "java/lang/String", name := "charAt", desc := "(I)C" } : Jvm.MethodName)).before a0 Z = true := hw _ (List.mem_of_getElem? (i := 70) rfl)
theorem w71 {Z : State} {a0 : Array Value} (hw : ∀ d ∈ tables_1, d.before a0 Z = true) : (Jvm.Cond.declares ({ cls := "java/lang/String", name := "charAt", desc := "(I)C" } : Jvm.MethodName)).before a0 Z = true := hw _ (List.mem_of_getElem? (i := 71) rfl)
theorem w72 {Z : State} {a0 : Array Value} (hw : ∀ d ∈ tables_1, d.before a0 Z = true) : (Jvm.Cond.instanceMethod ({ cls := "java/lang/String", name := "charAt", desc := "(I)C" } : Jvm.MethodName)).before a0 Z = true := hw _ (List.mem_of_getElem? (i := 72) rfl)
theorem w73 {Z : State} {a0 : Array Value} (hw : ∀ d ∈ tables_1, d.before a0 Z = true) : (Jvm.Cond.selects "java/lang/String" ({ cls := "java/lang/String", name := "charAt", desc := "(I)C" } : Jvm.MethodName) ({ cls := "java/lang/String", name := "charAt", desc := "(I)C" } : Jvm.MethodName)).before a0 Z = true := hw _ (List.mem_of_getElem? (i := 73) rfl)
theorem w74 {Z : State} {a0 : Array Value} (hw : ∀ d ∈ tables_1, d.before a0 Z = true) : (Jvm.Cond.code ({ cls := "java/lang/String", name := "charAt", desc := "(I)C" } : Jvm.MethodName) jdk_42_method_56_code (2 : Nat) (Option.some Jvm.ClassFile.FieldType.char)).before a0 Z = true := hw _ (List.mem_of_getElem? (i := 74) rfl)
theorem w75 {Z : State} {a0 : Array Value} (hw : ∀ d ∈ tables_1, d.before a0 Z = true) : (Jvm.Cond.methodLink "java/lang/String" (492 : Nat) ({ cls := "java/lang/String", name := "isLatin1", desc := "()Z" } : Jvm.MethodName)).before a0 Z = true := hw _ (List.mem_of_getElem? (i := 75) rfl)
theorem w76 {Z : State} {a0 : Array Value} (hw : ∀ d ∈ tables_1, d.before a0 Z = true) : (Jvm.Cond.declares ({ cls := "java/lang/String", name := "isLatin1", desc := "()Z" } : Jvm.MethodName)).before a0 Z = true := hw _ (List.mem_of_getElem? (i := 76) rfl)
theorem w77 {Z : State} {a0 : Array Value} (hw : ∀ d ∈ tables_1, d.before a0 Z = true) : (Jvm.Cond.instanceMethod ({ cls := "java/lang/String", name := "isLatin1", desc := "()Z" } : Jvm.MethodName)).before a0 Z = true := hw _ (List.mem_of_getElem? (i := 77) rfl)
theorem w78 {Z : State} {a0 : Array Value} (hw : ∀ d ∈ tables_1, d.before a0 Z = true) : (Jvm.Cond.selects "java/lang/String" ({ cls := "java/lang/String", name := "isLatin1", desc := "()Z" } : Jvm.MethodName) ({ cls := "java/lang/String", name := "isLatin1", desc := "()Z" } : Jvm.MethodName)).before a0 Z = true := hw _ (List.mem_of_getElem? (i := 78) rfl)
theorem w79 {Z : State} {a0 : Array Value} (hw : ∀ d ∈ tables_1, d.before a0 Z = true) : (Jvm.Cond.code ({ cls := "java/lang/String", name := "isLatin1", desc := "()Z" } : Jvm.MethodName) jdk_42_method_154_code (1 : Nat) (Option.some Jvm.ClassFile.FieldType.boolean)).before a0 Z = true := hw _ (List.mem_of_getElem? (i := 79) rfl)
theorem w80 {Z : State} {a0 : Array Value} (hw : ∀ d ∈ tables_1, d.before a0 Z = true) : (Jvm.Cond.methodLink "java/lang/String" (495 : Nat) ({ cls := "java/lang/StringLatin1", name := "charAt", desc := "([BI)C" } : Jvm.MethodName)).before a0 Z = true := hw _ (List.mem_of_getElem? (i := 80) rfl)
theorem w81 {Z : State} {a0 : Array Value} (hw : ∀ d ∈ tables_1, d.before a0 Z = true) : (Jvm.Cond.static ({ cls := "java/lang/StringLatin1", name := "charAt", desc := "([BI)C" } : Jvm.MethodName)).before a0 Z = true := hw _ (List.mem_of_getElem? (i := 81) rfl)
theorem w82 {Z : State} {a0 : Array Value} (hw : ∀ d ∈ tables_1, d.before a0 Z = true) : (Jvm.Cond.code ({ cls := "java/lang/StringLatin1", name := "charAt", desc := "([BI)C" } : Jvm.MethodName) jdk_43_method_2_code (2 : Nat) (Option.some Jvm.ClassFile.FieldType.char)).before a0 Z = true := hw _ (List.mem_of_getElem? (i := 82) rfl)
theorem w83 {Z : State} {a0 : Array Value} (hw : ∀ d ∈ tables_1, d.before a0 Z = true) : (Jvm.Cond.methodLink "java/lang/StringLatin1" (9 : Nat) ({ cls := "java/lang/String", name := "checkIndex", desc := "(II)V" } : Jvm.MethodName)).before a0 Z = true := hw _ (List.mem_of_getElem? (i := 83) rfl)
theorem w84 {Z : State} {a0 : Array Value} (hw : ∀ d ∈ tables_1, d.before a0 Z = true) : (Jvm.Cond.static ({ cls := "java/lang/String", name := "checkIndex", desc := "(II)V" } : Jvm.MethodName)).before a0 Z = true := hw _ (List.mem_of_getElem? (i := 84) rfl)
theorem w85 {Z : State} {a0 : Array Value} (hw : ∀ d ∈ tables_1, d.before a0 Z = true) : (Jvm.Cond.code ({ cls := "java/lang/String", name := "checkIndex", desc := "(II)V" } : Jvm.MethodName) jdk_42_method_155_code (2 : Nat) (Option.none : Option Jvm.ClassFile.FieldType)).before a0 Z = true := hw _ (List.mem_of_getElem? (i := 85) rfl)
theorem w86 {Z : State} {a0 : Array Value} (hw : ∀ d ∈ tables_1, d.before a0 Z = true) : (Jvm.Cond.fieldLink "java/lang/String" (1053 : Nat) "jdk/internal/util/Preconditions" "SIOOBE_FORMATTER" "Ljava/util/function/BiFunction;").before a0 Z = true := hw _ (List.mem_of_getElem? (i := 86) rfl)
theorem w87 {Z : State} {a0 : Array Value} (hw : ∀ d ∈ tables_1, d.before a0 Z = true) : (Jvm.Cond.initialized "jdk/internal/util/Preconditions").before a0 Z = true := hw _ (List.mem_of_getElem? (i := 87) rfl)
theorem w88 {Z : State} {a0 : Array Value} (hw : ∀ d ∈ tables_1, d.before a0 Z = true) : (Jvm.Cond.methodLink "java/lang/String" (1059 : Nat) ({ cls := "jdk/internal/util/Preconditions", name := "checkIndex", desc := "(IILjava/util/function/BiFunction;)I" } : Jvm.MethodName)).before a0 Z = true := hw _ (List.mem_of_getElem? (i := 88) rfl)
theorem w89 {Z : State} {a0 : Array Value} (hw : ∀ d ∈ tables_1, d.before a0 Z = true) : (Jvm.Cond.static ({ cls := "jdk/internal/util/Preconditions", name := "checkIndex", desc := "(IILjava/util/function/BiFunction;)I" } : Jvm.MethodName)).before a0 Z = true := hw _ (List.mem_of_getElem? (i := 89) rfl)
theorem w90 {Z : State} {a0 : Array Value} (hw : ∀ d ∈ tables_1, d.before a0 Z = true) : (Jvm.Cond.code ({ cls := "jdk/internal/util/Preconditions", name := "checkIndex", desc := "(IILjava/util/function/BiFunction;)I" } : Jvm.MethodName) jdk_41_method_11_code (3 : Nat) (Option.some Jvm.ClassFile.FieldType.int)).before a0 Z = true := hw _ (List.mem_of_getElem? (i := 90) rfl)
theorem w91 {Z : State} {a0 : Array Value} (hw : ∀ d ∈ tables_1, d.before a0 Z = true) : (Jvm.Cond.methodLink "java/lang/String" (177 : Nat) ({ cls := "java/lang/StringUTF16", name := "compress", desc := "([CII)[B" } : Jvm.MethodName)).before a0 Z = true := hw _ (List.mem_of_getElem? (i := 91) rfl)
theorem w92 {Z : State} {a0 : Array Value} (hw : ∀ d ∈ tables_1, d.before a0 Z = true) : (Jvm.Cond.static ({ cls := "java/lang/StringUTF16", name := "compress", desc := "([CII)[B" } : Jvm.MethodName)).before a0 Z = true := hw _ (List.mem_of_getElem? (i := 92) rfl)
theorem w93 {Z : State} {a0 : Array Value} (hw : ∀ d ∈ tables_1, d.before a0 Z = true) : (Jvm.Cond.initialized "java/lang/StringUTF16").before a0 Z = true := hw _ (List.mem_of_getElem? (i := 93) rfl)
theorem w94 {Z : State} {a0 : Array Value} (hw : ∀ d ∈ tables_1, d.before a0 Z = true) : (Jvm.Cond.code ({ cls := "java/lang/StringUTF16", name := "compress", desc := "([CII)[B" } : Jvm.MethodName) jdk_52_method_16_code (6 : Nat) (Option.some (Jvm.ClassFile.FieldType.array Jvm.ClassFile.FieldType.byte))).before a0 Z = true := hw _ (List.mem_of_getElem? (i := 94) rfl)
theorem w95 {Z : State} {a0 : Array Value} (hw : ∀ d ∈ tables_1, d.before a0 Z = true) : (Jvm.Cond.methodLink "java/lang/StringUTF16" (115 : Nat) ({ cls := "java/lang/StringUTF16", name := "compress", desc := "([CI[BII)I" } : Jvm.MethodName)).before a0 Z = true := hw _ (List.mem_of_getElem? (i := 95) rfl)
theorem w96 {Z : State} {a0 : Array Value} (hw : ∀ d ∈ tables_1, d.before a0 Z = true) : (Jvm.Cond.static ({ cls := "java/lang/StringUTF16", name := "compress", desc := "([CI[BII)I" } : Jvm.MethodName)).before a0 Z = true := hw _ (List.mem_of_getElem? (i := 96) rfl)
theorem w97 {Z : State} {a0 : Array Value} (hw : ∀ d ∈ tables_1, d.before a0 Z = true) : (Jvm.Cond.code ({ cls := "java/lang/StringUTF16", name := "compress", desc := "([CI[BII)I" } : Jvm.MethodName) jdk_52_method_21_code (7 : Nat) (Option.some Jvm.ClassFile.FieldType.int)).before a0 Z = true := hw _ (List.mem_of_getElem? (i := 97) rfl)
theorem w98 {Z : State} {a0 : Array Value} (hw : ∀ d ∈ tables_1, d.before a0 Z = true) : (Jvm.Cond.methodLink "java/lang/String" (47 : Nat) ({ cls := "java/lang/StringUTF16", name := "coderFromArrayLen", desc := "([BI)B" } : Jvm.MethodName)).before a0 Z = true := hw _ (List.mem_of_getElem? (i := 98) rfl)
theorem w99 {Z : State} {a0 : Array Value} (hw : ∀ d ∈ tables_1, d.before a0 Z = true) : (Jvm.Cond.static ({ cls := "java/lang/StringUTF16", name := "coderFromArrayLen", desc := "([BI)B" } : Jvm.MethodName)).before a0 Z = true := hw _ (List.mem_of_getElem? (i := 99) rfl)
theorem w100 {Z : State} {a0 : Array Value} (hw : ∀ d ∈ tables_1, d.before a0 Z = true) : (Jvm.Cond.code ({ cls := "java/lang/StringUTF16", name := "coderFromArrayLen", desc := "([BI)B" } : Jvm.MethodName) jdk_52_method_15_code (2 : Nat) (Option.some Jvm.ClassFile.FieldType.byte)).before a0 Z = true := hw _ (List.mem_of_getElem? (i := 100) rfl)
theorem w101 {Z : State} {a0 : Array Value} (hw : ∀ d ∈ tables_1, d.before a0 Z = true) : (Jvm.Cond.methodLink "java/lang/StringUTF16" (119 : Nat) ({ cls := "java/lang/StringUTF16", name := "toBytes", desc := "([CII)[B" } : Jvm.MethodName)).before a0 Z = true := hw _ (List.mem_of_getElem? (i := 101) rfl)
theorem w102 {Z : State} {a0 : Array Value} (hw : ∀ d ∈ tables_1, d.before a0 Z = true) : (Jvm.Cond.static ({ cls := "java/lang/StringUTF16", name := "toBytes", desc := "([CII)[B" } : Jvm.MethodName)).before a0 Z = true := hw _ (List.mem_of_getElem? (i := 102) rfl)
theorem w103 {Z : State} {a0 : Array Value} (hw : ∀ d ∈ tables_1, d.before a0 Z = true) : (Jvm.Cond.code ({ cls := "java/lang/StringUTF16", name := "toBytes", desc := "([CII)[B" } : Jvm.MethodName) jdk_52_method_14_code (5 : Nat) (Option.some (Jvm.ClassFile.FieldType.array Jvm.ClassFile.FieldType.byte))).before a0 Z = true := hw _ (List.mem_of_getElem? (i := 103) rfl)
theorem w104 {Z : State} {a0 : Array Value} (hw : ∀ d ∈ tables_1, d.before a0 Z = true) : (Jvm.Cond.methodLink "java/lang/StringUTF16" (107 : Nat) ({ cls := "java/lang/StringUTF16", name := "newBytesFor", desc := "(I)[B" } : Jvm.MethodName)).before a0 Z = true := hw _ (List.mem_of_getElem? (i := 104) rfl)
theorem w105 {Z : State} {a0 : Array Value} (hw : ∀ d ∈ tables_1, d.before a0 Z = true) : (Jvm.Cond.static ({ cls := "java/lang/StringUTF16", name := "newBytesFor", desc := "(I)[B" } : Jvm.MethodName)).before a0 Z = true := hw _ (List.mem_of_getElem? (i := 105) rfl)
theorem w106 {Z : State} {a0 : Array Value} (hw : ∀ d ∈ tables_1, d.before a0 Z = true) : (Jvm.Cond.code ({ cls := "java/lang/StringUTF16", name := "newBytesFor", desc := "(I)[B" } : Jvm.MethodName) jdk_52_method_2_code (1 : Nat) (Option.some (Jvm.ClassFile.FieldType.array Jvm.ClassFile.FieldType.byte))).before a0 Z = true := hw _ (List.mem_of_getElem? (i := 106) rfl)
theorem w107 {Z : State} {a0 : Array Value} (hw : ∀ d ∈ tables_1, d.before a0 Z = true) : (Jvm.Cond.methodLink "java/lang/StringUTF16" (11 : Nat) ({ cls := "java/lang/StringUTF16", name := "newBytesLength", desc := "(I)I" } : Jvm.MethodName)).before a0 Z = true := hw _ (List.mem_of_getElem? (i := 107) rfl)
theorem w108 {Z : State} {a0 : Array Value} (hw : ∀ d ∈ tables_1, d.before a0 Z = true) : (Jvm.Cond.static ({ cls := "java/lang/StringUTF16", name := "newBytesLength", desc := "(I)I" } : Jvm.MethodName)).before a0 Z = true := hw _ (List.mem_of_getElem? (i := 108) rfl)
theorem w109 {Z : State} {a0 : Array Value} (hw : ∀ d ∈ tables_1, d.before a0 Z = true) : (Jvm.Cond.code ({ cls := "java/lang/StringUTF16", name := "newBytesLength", desc := "(I)I" } : Jvm.MethodName) jdk_52_method_3_code (1 : Nat) (Option.some Jvm.ClassFile.FieldType.int)).before a0 Z = true := hw _ (List.mem_of_getElem? (i := 109) rfl)
theorem w110 {Z : State} {a0 : Array Value} (hw : ∀ d ∈ tables_1, d.before a0 Z = true) : (Jvm.Cond.constant "java/lang/StringUTF16" (20 : Nat) (1073741823 : Int32)).before a0 Z = true := hw _ (List.mem_of_getElem? (i := 110) rfl)
theorem w111 {Z : State} {a0 : Array Value} (hw : ∀ d ∈ tables_1, d.before a0 Z = true) : (Jvm.Cond.methodLink "java/lang/StringUTF16" (111 : Nat) ({ cls := "java/lang/StringUTF16", name := "putChar", desc := "([BII)V" } : Jvm.MethodName)).before a0 Z = true := hw _ (List.mem_of_getElem? (i := 111) rfl)
theorem w112 {Z : State} {a0 : Array Value} (hw : ∀ d ∈ tables_1, d.before a0 Z = true) : (Jvm.Cond.static ({ cls := "java/lang/StringUTF16", name := "putChar", desc := "([BII)V" } : Jvm.MethodName)).before a0 Z = true := hw _ (List.mem_of_getElem? (i := 112) rfl)
theorem w113 {Z : State} {a0 : Array Value} (hw : ∀ d ∈ tables_1, d.before a0 Z = true) : (Jvm.Cond.code ({ cls := "java/lang/StringUTF16", name := "putChar", desc := "([BII)V" } : Jvm.MethodName) jdk_52_method_4_code (3 : Nat) (Option.none : Option Jvm.ClassFile.FieldType)).before a0 Z = true := hw _ (List.mem_of_getElem? (i := 113) rfl)
theorem w114 {Z : State} {a0 : Array Value} (hw : ∀ d ∈ tables_1, d.before a0 Z = true) : (Jvm.Cond.fieldLink "java/lang/StringUTF16" (44 : Nat) "java/lang/StringUTF16" "$assertionsDisabled" "Z").before a0 Z = true := hw _ (List.mem_of_getElem? (i := 114) rfl)
theorem w115 {Z : State} {a0 : Array Value} (hw : ∀ d ∈ tables_1, d.before a0 Z = true) : (Jvm.Cond.fieldLink "java/lang/StringUTF16" (59 : Nat) "java/lang/StringUTF16" "HI_BYTE_SHIFT" "I").before a0 Z = true := hw _ (List.mem_of_getElem? (i := 115) rfl)
theorem w116 {Z : State} {a0 : Array Value} (hw : ∀ d ∈ tables_1, d.before a0 Z = true) : (Jvm.Cond.fieldLink "java/lang/StringUTF16" (63 : Nat) "java/lang/StringUTF16" "LO_BYTE_SHIFT" "I").before a0 Z = true := hw _ (List.mem_of_getElem? (i := 116) rfl)
theorem w117 {Z : State} {a0 : Array Value} (hw : ∀ d ∈ tables_1, d.before a0 Z = true) : (Jvm.Cond.methodLink "java/lang/StringUTF16" (71 : Nat) ({ cls := "java/lang/StringUTF16", name := "getChar", desc := "([BI)C" } : Jvm.MethodName)).before a0 Z = true := hw _ (List.mem_of_getElem? (i := 117) rfl)
theorem w118 {Z : State} {a0 : Array Value} (hw : ∀ d ∈ tables_1, d.before a0 Z = true) : (Jvm.Cond.static ({ cls := "java/lang/StringUTF16", name := "getChar", desc := "([BI)C" } : Jvm.MethodName)).before a0 Z = true := hw _ (List.mem_of_getElem? (i := 118) rfl)
theorem w119 {Z : State} {a0 : Array Value} (hw : ∀ d ∈ tables_1, d.before a0 Z = true) : (Jvm.Cond.code ({ cls := "java/lang/StringUTF16", name := "getChar", desc := "([BI)C" } : Jvm.MethodName) jdk_52_method_5_code (2 : Nat) (Option.some Jvm.ClassFile.FieldType.char)).before a0 Z = true := hw _ (List.mem_of_getElem? (i := 119) rfl)
theorem w120 {Z : State} {a0 : Array Value} (hw : ∀ d ∈ tables_1, d.before a0 Z = true) : (Jvm.Cond.methodLink "java/lang/String" (498 : Nat) ({ cls := "java/lang/StringUTF16", name := "charAt", desc := "([BI)C" } : Jvm.MethodName)).before a0 Z = true := hw _ (List.mem_of_getElem? (i := 120) rfl)
theorem w121 {Z : State} {a0 : Array Value} (hw : ∀ d ∈ tables_1, d.before a0 Z = true) : (Jvm.Cond.static ({ cls := "java/lang/StringUTF16", name := "charAt", desc := "([BI)C" } : Jvm.MethodName)).before a0 Z = true := hw _ (List.mem_of_getElem? (i := 121) rfl)
theorem w122 {Z : State} {a0 : Array Value} (hw : ∀ d ∈ tables_1, d.before a0 Z = true) : (Jvm.Cond.code ({ cls := "java/lang/StringUTF16", name := "charAt", desc := "([BI)C" } : Jvm.MethodName) jdk_52_method_83_code (2 : Nat) (Option.some Jvm.ClassFile.FieldType.char)).before a0 Z = true := hw _ (List.mem_of_getElem? (i := 122) rfl)
theorem w123 {Z : State} {a0 : Array Value} (hw : ∀ d ∈ tables_1, d.before a0 Z = true) : (Jvm.Cond.methodLink "java/lang/StringUTF16" (67 : Nat) ({ cls := "java/lang/StringUTF16", name := "checkIndex", desc := "(I[B)V" } : Jvm.MethodName)).before a0 Z = true := hw _ (List.mem_of_getElem? (i := 123) rfl)
theorem w124 {Z : State} {a0 : Array Value} (hw : ∀ d ∈ tables_1, d.before a0 Z = true) : (Jvm.Cond.static ({ cls := "java/lang/StringUTF16", name := "checkIndex", desc := "(I[B)V" } : Jvm.MethodName)).before a0 Z = true := hw _ (List.mem_of_getElem? (i := 124) rfl)
theorem w125 {Z : State} {a0 : Array Value} (hw : ∀ d ∈ tables_1, d.before a0 Z = true) : (Jvm.Cond.code ({ cls := "java/lang/StringUTF16", name := "checkIndex", desc := "(I[B)V" } : Jvm.MethodName) jdk_52_method_91_code (2 : Nat) (Option.none : Option Jvm.ClassFile.FieldType)).before a0 Z = true := hw _ (List.mem_of_getElem? (i := 125) rfl)
theorem w126 {Z : State} {a0 : Array Value} (hw : ∀ d ∈ tables_1, d.before a0 Z = true) : (Jvm.Cond.methodLink "java/lang/StringUTF16" (48 : Nat) ({ cls := "java/lang/StringUTF16", name := "length", desc := "([B)I" } : Jvm.MethodName)).before a0 Z = true := hw _ (List.mem_of_getElem? (i := 126) rfl)
theorem w127 {Z : State} {a0 : Array Value} (hw : ∀ d ∈ tables_1, d.before a0 Z = true) : (Jvm.Cond.static ({ cls := "java/lang/StringUTF16", name := "length", desc := "([B)I" } : Jvm.MethodName)).before a0 Z = true := hw _ (List.mem_of_getElem? (i := 127) rfl)
theorem w128 {Z : State} {a0 : Array Value} (hw : ∀ d ∈ tables_1, d.before a0 Z = true) : (Jvm.Cond.code ({ cls := "java/lang/StringUTF16", name := "length", desc := "([B)I" } : Jvm.MethodName) jdk_52_method_6_code (1 : Nat) (Option.some Jvm.ClassFile.FieldType.int)).before a0 Z = true := hw _ (List.mem_of_getElem? (i := 128) rfl)
theorem w129 {Z : State} {a0 : Array Value} (hw : ∀ d ∈ tables_1, d.before a0 Z = true) : (Jvm.Cond.methodLink "java/lang/StringUTF16" (414 : Nat) ({ cls := "java/lang/String", name := "checkIndex", desc := "(II)V" } : Jvm.MethodName)).before a0 Z = true := hw _ (List.mem_of_getElem? (i := 129) rfl)
theorem w130 {Z : State} {a0 : Array Value} (hw : ∀ d ∈ tables_1, d.before a0 Z = true) : (Jvm.Cond.methodLink "java/lang/String" (1021 : Nat) ({ cls := "java/lang/StringUTF16", name := "toBytes", desc := "(C)[B" } : Jvm.MethodName)).before a0 Z = true := hw _ (List.mem_of_getElem? (i := 130) rfl)
theorem w131 {Z : State} {a0 : Array Value} (hw : ∀ d ∈ tables_1, d.before a0 Z = true) : (Jvm.Cond.static ({ cls := "java/lang/StringUTF16", name := "toBytes", desc := "(C)[B" } : Jvm.MethodName)).before a0 Z = true := hw _ (List.mem_of_getElem? (i := 131) rfl)
theorem w132 {Z : State} {a0 : Array Value} (hw : ∀ d ∈ tables_1, d.before a0 Z = true) : (Jvm.Cond.code ({ cls := "java/lang/StringUTF16", name := "toBytes", desc := "(C)[B" } : Jvm.MethodName) jdk_52_method_24_code (2 : Nat) (Option.some (Jvm.ClassFile.FieldType.array Jvm.ClassFile.FieldType.byte))).before a0 Z = true := hw _ (List.mem_of_getElem? (i := 132) rfl)
theorem pd0 : parseMethodDescriptor "()B" = some ⟨[], some .byte⟩ := by decide +kernel
theorem pd1 : parseMethodDescriptor "(IILjava/util/function/BiFunction;)I" = some ⟨[.int, .int, (.object "java/util/function/BiFunction")], some .int⟩ := by decide +kernel
theorem pd2 : parseMethodDescriptor "(II)V" = some ⟨[.int, .int], none⟩ := by decide +kernel
theorem pd3 : parseMethodDescriptor "()Z" = some ⟨[], some .boolean⟩ := by decide +kernel
theorem pd4 : parseMethodDescriptor "([BI)C" = some ⟨[(.array .byte), .int], some .char⟩ := by decide +kernel
theorem pd5 : parseMethodDescriptor "([CI[BII)I" = some ⟨[(.array .char), .int, (.array .byte), .int, .int], some .int⟩ := by decide +kernel
theorem pd6 : parseMethodDescriptor "([CII)[B" = some ⟨[(.array .char), .int, .int], some (.array .byte)⟩ := by decide +kernel
theorem pd7 : parseMethodDescriptor "([BI)B" = some ⟨[(.array .byte), .int], some .byte⟩ := by decide +kernel
theorem pd8 : parseMethodDescriptor "([CIILjava/lang/Void;)V" = some ⟨[(.array .char), .int, .int, (.object "java/lang/Void")], none⟩ := by decide +kernel
theorem pd9 : parseMethodDescriptor "(I)I" = some ⟨[.int], some .int⟩ := by decide +kernel
theorem pd10 : parseMethodDescriptor "(I)[B" = some ⟨[.int], some (.array .byte)⟩ := by decide +kernel
theorem pd11 : parseMethodDescriptor "([BII)V" = some ⟨[(.array .byte), .int, .int], none⟩ := by decide +kernel
theorem pd12 : parseMethodDescriptor "([B)I" = some ⟨[(.array .byte)], some .int⟩ := by decide +kernel
theorem pd13 : parseMethodDescriptor "(I[B)V" = some ⟨[.int, (.array .byte)], none⟩ := by decide +kernel
theorem pd14 : parseMethodDescriptor "(C)Z" = some ⟨[.char], some .boolean⟩ := by decide +kernel
theorem pd15 : parseMethodDescriptor "(C)[B" = some ⟨[.char], some (.array .byte)⟩ := by decide +kernel
theorem pd16 : parseMethodDescriptor "([BB)V" = some ⟨[(.array .byte), .byte], none⟩ := by decide +kernel
theorem pd17 : parseMethodDescriptor "([C)V" = some ⟨[(.array .char)], none⟩ := by decide +kernel
theorem pd18 : parseMethodDescriptor "(C)Ljava/lang/String;" = some ⟨[.char], some (.object "java/lang/String")⟩ := by decide +kernel
theorem pd19 : parseMethodDescriptor "()I" = some ⟨[], some .int⟩ := by decide +kernel
theorem pd20 : parseMethodDescriptor "(I)C" = some ⟨[.int], some .char⟩ := by decide +kernel
theorem pd21 : parseMethodDescriptor "(Ljava/lang/String;[Z)Z" = some ⟨[(.object "java/lang/String"), (.array .boolean)], some .boolean⟩ := by decide +kernel
theorem pd22 : parseMethodDescriptor "(ICCCC)Ljava/lang/String;" = some ⟨[.int, .char, .char, .char, .char], some (.object "java/lang/String")⟩ := by decide +kernel
theorem pd23 : parseMethodDescriptor "(Ljava/lang/String;)Z" = some ⟨[(.object "java/lang/String")], some .boolean⟩ := by decide +kernel
theorem d1_0 : decode method_3_code 0 = .ok (.iload_n 0, 1) := by decide +kernel
theorem d1_1 : decode method_3_code 1 = .ok (.ifCond .ne 14, 3) := by decide +kernel
theorem d1_4 : decode method_3_code 4 = .ok (.new 25, 3) := by decide +kernel
theorem d1_7 : decode method_3_code 7 = .ok (.dup, 1) := by decide +kernel
theorem d1_8 : decode method_3_code 8 = .ok (.iconst 0, 1) := by decide +kernel
theorem d1_9 : decode method_3_code 9 = .ok (.newarray .char, 2) := by decide +kernel
theorem d1_11 : decode method_3_code 11 = .ok (.invokespecial 27, 3) := by decide +kernel
theorem d1_14 : decode method_3_code 14 = .ok (.areturn, 1) := by decide +kernel
theorem d1_15 : decode method_3_code 15 = .ok (.iload_n 0, 1) := by decide +kernel
theorem d1_16 : decode method_3_code 16 = .ok (.iconst 1, 1) := by decide +kernel
theorem d1_17 : decode method_3_code 17 = .ok (.if_icmp .ne 8, 3) := by decide +kernel
theorem d1_20 : decode method_3_code 20 = .ok (.iload_n 1, 1) := by decide +kernel
theorem d1_21 : decode method_3_code 21 = .ok (.invokestatic 30, 3) := by decide +kernel
theorem d1_24 : decode method_3_code 24 = .ok (.areturn, 1) := by decide +kernel
theorem d1_25 : decode method_3_code 25 = .ok (.iload_n 0, 1) := by decide +kernel
theorem d1_26 : decode method_3_code 26 = .ok (.iconst 2, 1) := by decide +kernel
theorem d1_27 : decode method_3_code 27 = .ok (.if_icmp .ne 22, 3) := by decide +kernel
theorem d1_30 : decode method_3_code 30 = .ok (.new 25, 3) := by decide +kernel
theorem d1_33 : decode method_3_code 33 = .ok (.dup, 1) := by decide +kernel
theorem d1_34 : decode method_3_code 34 = .ok (.iconst 2, 1) := by decide +kernel
theorem d1_35 : decode method_3_code 35 = .ok (.newarray .char, 2) := by decide +kernel
theorem d1_37 : decode method_3_code 37 = .ok (.dup, 1) := by decide +kernel
theorem d1_38 : decode method_3_code 38 = .ok (.iconst 0, 1) := by decide +kernel
theorem d1_39 : decode method_3_code 39 = .ok (.iload_n 1, 1) := by decide +kernel
theorem d1_40 : decode method_3_code 40 = .ok (.castore, 1) := by decide +kernel
theorem d1_41 : decode method_3_code 41 = .ok (.dup, 1) := by decide +kernel
theorem d1_42 : decode method_3_code 42 = .ok (.iconst 1, 1) := by decide +kernel
theorem d1_43 : decode method_3_code 43 = .ok (.iload_n 2, 1) := by decide +kernel
theorem d1_44 : decode method_3_code 44 = .ok (.castore, 1) := by decide +kernel
theorem d1_45 : decode method_3_code 45 = .ok (.invokespecial 27, 3) := by decide +kernel
theorem d1_48 : decode method_3_code 48 = .ok (.areturn, 1) := by decide +kernel
theorem d1_49 : decode method_3_code 49 = .ok (.iload_n 0, 1) := by decide +kernel
theorem d1_50 : decode method_3_code 50 = .ok (.iconst 3, 1) := by decide +kernel
theorem d1_51 : decode method_3_code 51 = .ok (.if_icmp .ne 26, 3) := by decide +kernel
theorem d1_54 : decode method_3_code 54 = .ok (.new 25, 3) := by decide +kernel
theorem d1_57 : decode method_3_code 57 = .ok (.dup, 1) := by decide +kernel
theorem d1_58 : decode method_3_code 58 = .ok (.iconst 3, 1) := by decide +kernel
theorem d1_59 : decode method_3_code 59 = .ok (.newarray .char, 2) := by decide +kernel
theorem d1_61 : decode method_3_code 61 = .ok (.dup, 1) := by decide +kernel
theorem d1_62 : decode method_3_code 62 = .ok (.iconst 0, 1) := by decide +kernel
theorem d1_63 : decode method_3_code 63 = .ok (.iload_n 1, 1) := by decide +kernel
theorem d1_64 : decode method_3_code 64 = .ok (.castore, 1) := by decide +kernel
theorem d1_65 : decode method_3_code 65 = .ok (.dup, 1) := by decide +kernel
theorem d1_66 : decode method_3_code 66 = .ok (.iconst 1, 1) := by decide +kernel
theorem d1_67 : decode method_3_code 67 = .ok (.iload_n 2, 1) := by decide +kernel
theorem d1_68 : decode method_3_code 68 = .ok (.castore, 1) := by decide +kernel
theorem d1_69 : decode method_3_code 69 = .ok (.dup, 1) := by decide +kernel
theorem d1_70 : decode method_3_code 70 = .ok (.iconst 2, 1) := by decide +kernel
theorem d1_71 : decode method_3_code 71 = .ok (.iload_n 3, 1) := by decide +kernel
theorem d1_72 : decode method_3_code 72 = .ok (.castore, 1) := by decide +kernel
theorem d1_73 : decode method_3_code 73 = .ok (.invokespecial 27, 3) := by decide +kernel
theorem d1_76 : decode method_3_code 76 = .ok (.areturn, 1) := by decide +kernel
theorem d1_77 : decode method_3_code 77 = .ok (.new 25, 3) := by decide +kernel
theorem d1_80 : decode method_3_code 80 = .ok (.dup, 1) := by decide +kernel
theorem d1_81 : decode method_3_code 81 = .ok (.iconst 4, 1) := by decide +kernel
theorem d1_82 : decode method_3_code 82 = .ok (.newarray .char, 2) := by decide +kernel
theorem d1_84 : decode method_3_code 84 = .ok (.dup, 1) := by decide +kernel
theorem d1_85 : decode method_3_code 85 = .ok (.iconst 0, 1) := by decide +kernel
theorem d1_86 : decode method_3_code 86 = .ok (.iload_n 1, 1) := by decide +kernel
theorem d1_87 : decode method_3_code 87 = .ok (.castore, 1) := by decide +kernel
theorem d1_88 : decode method_3_code 88 = .ok (.dup, 1) := by decide +kernel
theorem d1_89 : decode method_3_code 89 = .ok (.iconst 1, 1) := by decide +kernel
theorem d1_90 : decode method_3_code 90 = .ok (.iload_n 2, 1) := by decide +kernel
theorem d1_91 : decode method_3_code 91 = .ok (.castore, 1) := by decide +kernel
theorem d1_92 : decode method_3_code 92 = .ok (.dup, 1) := by decide +kernel
theorem d1_93 : decode method_3_code 93 = .ok (.iconst 2, 1) := by decide +kernel
theorem d1_94 : decode method_3_code 94 = .ok (.iload_n 3, 1) := by decide +kernel
theorem d1_95 : decode method_3_code 95 = .ok (.castore, 1) := by decide +kernel
theorem d1_96 : decode method_3_code 96 = .ok (.dup, 1) := by decide +kernel
theorem d1_97 : decode method_3_code 97 = .ok (.iconst 3, 1) := by decide +kernel
theorem d1_98 : decode method_3_code 98 = .ok (.iload 4, 2) := by decide +kernel
theorem d1_100 : decode method_3_code 100 = .ok (.castore, 1) := by decide +kernel
theorem d1_101 : decode method_3_code 101 = .ok (.invokespecial 27, 3) := by decide +kernel
theorem d1_104 : decode method_3_code 104 = .ok (.areturn, 1) := by decide +kernel
theorem d2_0 : decode jdk_42_method_3_code 0 = .ok (.aload_n 0, 1) := by decide +kernel
theorem d2_1 : decode jdk_42_method_3_code 1 = .ok (.aload_n 1, 1) := by decide +kernel
theorem d2_2 : decode jdk_42_method_3_code 2 = .ok (.iconst 0, 1) := by decide +kernel
theorem d2_3 : decode jdk_42_method_3_code 3 = .ok (.aload_n 1, 1) := by decide +kernel
theorem d2_4 : decode jdk_42_method_3_code 4 = .ok (.arraylength, 1) := by decide +kernel
theorem d2_5 : decode jdk_42_method_3_code 5 = .ok (.aconst_null, 1) := by decide +kernel
theorem d2_6 : decode jdk_42_method_3_code 6 = .ok (.invokespecial 27, 3) := by decide +kernel
theorem d2_9 : decode jdk_42_method_3_code 9 = .ok (.return_, 1) := by decide +kernel
theorem d3_0 : decode jdk_42_method_149_code 0 = .ok (.aload_n 0, 1) := by decide +kernel
theorem d3_1 : decode jdk_42_method_149_code 1 = .ok (.invokespecial 1, 3) := by decide +kernel
theorem d3_4 : decode jdk_42_method_149_code 4 = .ok (.iload_n 3, 1) := by decide +kernel
theorem d3_5 : decode jdk_42_method_149_code 5 = .ok (.ifCond .ne 22, 3) := by decide +kernel
theorem d3_8 : decode jdk_42_method_149_code 8 = .ok (.aload_n 0, 1) := by decide +kernel
theorem d3_9 : decode jdk_42_method_149_code 9 = .ok (.ldc 7, 2) := by decide +kernel
theorem d3_11 : decode jdk_42_method_149_code 11 = .ok (.getfield 9, 3) := by decide +kernel
theorem d3_14 : decode jdk_42_method_149_code 14 = .ok (.putfield 9, 3) := by decide +kernel
theorem d3_17 : decode jdk_42_method_149_code 17 = .ok (.aload_n 0, 1) := by decide +kernel
theorem d3_18 : decode jdk_42_method_149_code 18 = .ok (.ldc 7, 2) := by decide +kernel
theorem d3_20 : decode jdk_42_method_149_code 20 = .ok (.getfield 15, 3) := by decide +kernel
theorem d3_23 : decode jdk_42_method_149_code 23 = .ok (.putfield 15, 3) := by decide +kernel
theorem d3_26 : decode jdk_42_method_149_code 26 = .ok (.return_, 1) := by decide +kernel
theorem d3_27 : decode jdk_42_method_149_code 27 = .ok (.getstatic 38, 3) := by decide +kernel
theorem d3_30 : decode jdk_42_method_149_code 30 = .ok (.ifCond .eq 28, 3) := by decide +kernel
theorem d3_33 : decode jdk_42_method_149_code 33 = .ok (.aload_n 1, 1) := by decide +kernel
theorem d3_34 : decode jdk_42_method_149_code 34 = .ok (.iload_n 2, 1) := by decide +kernel
theorem d3_35 : decode jdk_42_method_149_code 35 = .ok (.iload_n 3, 1) := by decide +kernel
theorem d3_36 : decode jdk_42_method_149_code 36 = .ok (.invokestatic 177, 3) := by decide +kernel
theorem d3_39 : decode jdk_42_method_149_code 39 = .ok (.astore 5, 2) := by decide +kernel
theorem d3_41 : decode jdk_42_method_149_code 41 = .ok (.aload_n 0, 1) := by decide +kernel
theorem d3_42 : decode jdk_42_method_149_code 42 = .ok (.aload 5, 2) := by decide +kernel
theorem d3_44 : decode jdk_42_method_149_code 44 = .ok (.iload_n 3, 1) := by decide +kernel
theorem d3_45 : decode jdk_42_method_149_code 45 = .ok (.invokestatic 47, 3) := by decide +kernel
theorem d3_48 : decode jdk_42_method_149_code 48 = .ok (.putfield 15, 3) := by decide +kernel
theorem d3_51 : decode jdk_42_method_149_code 51 = .ok (.aload_n 0, 1) := by decide +kernel
theorem d3_52 : decode jdk_42_method_149_code 52 = .ok (.aload 5, 2) := by decide +kernel
theorem d3_54 : decode jdk_42_method_149_code 54 = .ok (.putfield 9, 3) := by decide +kernel
theorem d3_57 : decode jdk_42_method_149_code 57 = .ok (.return_, 1) := by decide +kernel
theorem d5_0 : decode prog_2_method_2_code 0 = .ok (.aload_n 0, 1) := by decide +kernel
theorem d5_1 : decode prog_2_method_2_code 1 = .ok (.invokevirtual 7, 3) := by decide +kernel
theorem d5_4 : decode prog_2_method_2_code 4 = .ok (.ifCond .ne 17, 3) := by decide +kernel
theorem d5_7 : decode prog_2_method_2_code 7 = .ok (.aload_n 0, 1) := by decide +kernel
theorem d5_8 : decode prog_2_method_2_code 8 = .ok (.getstatic 13, 3) := by decide +kernel
theorem d5_11 : decode prog_2_method_2_code 11 = .ok (.invokestatic 19, 3) := by decide +kernel
theorem d5_14 : decode prog_2_method_2_code 14 = .ok (.ifCond .eq 7, 3) := by decide +kernel
theorem d5_17 : decode prog_2_method_2_code 17 = .ok (.iconst 1, 1) := by decide +kernel
theorem d5_18 : decode prog_2_method_2_code 18 = .ok (.goto 4, 3) := by decide +kernel
theorem d5_21 : decode prog_2_method_2_code 21 = .ok (.iconst 0, 1) := by decide +kernel
theorem d5_22 : decode prog_2_method_2_code 22 = .ok (.ireturn, 1) := by decide +kernel
theorem d6_0 : decode jdk_42_method_55_code 0 = .ok (.aload_n 0, 1) := by decide +kernel
theorem d6_1 : decode jdk_42_method_55_code 1 = .ok (.getfield 9, 3) := by decide +kernel
theorem d6_4 : decode jdk_42_method_55_code 4 = .ok (.arraylength, 1) := by decide +kernel
theorem d6_5 : decode jdk_42_method_55_code 5 = .ok (.ifCond .ne 7, 3) := by decide +kernel
theorem d6_8 : decode jdk_42_method_55_code 8 = .ok (.iconst 1, 1) := by decide +kernel
theorem d6_9 : decode jdk_42_method_55_code 9 = .ok (.goto 4, 3) := by decide +kernel
theorem d6_12 : decode jdk_42_method_55_code 12 = .ok (.iconst 0, 1) := by decide +kernel
theorem d6_13 : decode jdk_42_method_55_code 13 = .ok (.ireturn, 1) := by decide +kernel
theorem d7_0 : decode jdk_42_method_139_code 0 = .ok (.getstatic 38, 3) := by decide +kernel
theorem d7_3 : decode jdk_42_method_139_code 3 = .ok (.ifCond .eq 23, 3) := by decide +kernel
theorem d7_6 : decode jdk_42_method_139_code 6 = .ok (.iload_n 0, 1) := by decide +kernel
theorem d7_7 : decode jdk_42_method_139_code 7 = .ok (.invokestatic 1015, 3) := by decide +kernel
theorem d7_10 : decode jdk_42_method_139_code 10 = .ok (.ifCond .eq 16, 3) := by decide +kernel
theorem d7_13 : decode jdk_42_method_139_code 13 = .ok (.new 10, 3) := by decide +kernel
theorem d7_16 : decode jdk_42_method_139_code 16 = .ok (.dup, 1) := by decide +kernel
theorem d7_17 : decode jdk_42_method_139_code 17 = .ok (.iload_n 0, 1) := by decide +kernel
theorem d7_18 : decode jdk_42_method_139_code 18 = .ok (.invokestatic 1018, 3) := by decide +kernel
theorem d7_21 : decode jdk_42_method_139_code 21 = .ok (.iconst 0, 1) := by decide +kernel
theorem d7_22 : decode jdk_42_method_139_code 22 = .ok (.invokespecial 209, 3) := by decide +kernel
theorem d7_25 : decode jdk_42_method_139_code 25 = .ok (.areturn, 1) := by decide +kernel
theorem d7_26 : decode jdk_42_method_139_code 26 = .ok (.new 10, 3) := by decide +kernel
theorem d7_29 : decode jdk_42_method_139_code 29 = .ok (.dup, 1) := by decide +kernel
theorem d7_30 : decode jdk_42_method_139_code 30 = .ok (.iload_n 0, 1) := by decide +kernel
theorem d7_31 : decode jdk_42_method_139_code 31 = .ok (.invokestatic 1021, 3) := by decide +kernel
theorem d7_34 : decode jdk_42_method_139_code 34 = .ok (.iconst 1, 1) := by decide +kernel
theorem d7_35 : decode jdk_42_method_139_code 35 = .ok (.invokespecial 209, 3) := by decide +kernel
theorem d7_38 : decode jdk_42_method_139_code 38 = .ok (.areturn, 1) := by decide +kernel
theorem d8_0 : decode jdk_43_method_3_code 0 = .ok (.iload_n 0, 1) := by decide +kernel
theorem d8_1 : decode jdk_43_method_3_code 1 = .ok (.sipush 255, 3) := by decide +kernel
theorem d8_4 : decode jdk_43_method_3_code 4 = .ok (.if_icmp .gt 7, 3) := by decide +kernel
theorem d8_7 : decode jdk_43_method_3_code 7 = .ok (.iconst 1, 1) := by decide +kernel
theorem d8_8 : decode jdk_43_method_3_code 8 = .ok (.goto 4, 3) := by decide +kernel
theorem d8_11 : decode jdk_43_method_3_code 11 = .ok (.iconst 0, 1) := by decide +kernel
theorem d8_12 : decode jdk_43_method_3_code 12 = .ok (.ireturn, 1) := by decide +kernel
theorem d9_0 : decode jdk_43_method_46_code 0 = .ok (.iconst 1, 1) := by decide +kernel
theorem d9_1 : decode jdk_43_method_46_code 1 = .ok (.newarray .byte, 2) := by decide +kernel
theorem d9_3 : decode jdk_43_method_46_code 3 = .ok (.dup, 1) := by decide +kernel
theorem d9_4 : decode jdk_43_method_46_code 4 = .ok (.iconst 0, 1) := by decide +kernel
theorem d9_5 : decode jdk_43_method_46_code 5 = .ok (.iload_n 0, 1) := by decide +kernel
theorem d9_6 : decode jdk_43_method_46_code 6 = .ok (.i2b, 1) := by decide +kernel
theorem d9_7 : decode jdk_43_method_46_code 7 = .ok (.bastore, 1) := by decide +kernel
theorem d9_8 : decode jdk_43_method_46_code 8 = .ok (.areturn, 1) := by decide +kernel
theorem d10_0 : decode jdk_42_method_151_code 0 = .ok (.aload_n 0, 1) := by decide +kernel
theorem d10_1 : decode jdk_42_method_151_code 1 = .ok (.invokespecial 1, 3) := by decide +kernel
theorem d10_4 : decode jdk_42_method_151_code 4 = .ok (.aload_n 0, 1) := by decide +kernel
theorem d10_5 : decode jdk_42_method_151_code 5 = .ok (.aload_n 1, 1) := by decide +kernel
theorem d10_6 : decode jdk_42_method_151_code 6 = .ok (.putfield 9, 3) := by decide +kernel
theorem d10_9 : decode jdk_42_method_151_code 9 = .ok (.aload_n 0, 1) := by decide +kernel
theorem d10_10 : decode jdk_42_method_151_code 10 = .ok (.iload_n 2, 1) := by decide +kernel
theorem d10_11 : decode jdk_42_method_151_code 11 = .ok (.putfield 15, 3) := by decide +kernel
theorem d10_14 : decode jdk_42_method_151_code 14 = .ok (.return_, 1) := by decide +kernel
theorem d11_0 : decode method_4_code 0 = .ok (.iload_n 0, 1) := by decide +kernel
theorem d11_1 : decode method_4_code 1 = .ok (.bipush 48, 2) := by decide +kernel
theorem d11_3 : decode method_4_code 3 = .ok (.if_icmp .lt 11, 3) := by decide +kernel
theorem d11_6 : decode method_4_code 6 = .ok (.iload_n 0, 1) := by decide +kernel
theorem d11_7 : decode method_4_code 7 = .ok (.bipush 57, 2) := by decide +kernel
theorem d11_9 : decode method_4_code 9 = .ok (.if_icmp .gt 5, 3) := by decide +kernel
theorem d11_12 : decode method_4_code 12 = .ok (.iconst 1, 1) := by decide +kernel
theorem d11_13 : decode method_4_code 13 = .ok (.ireturn, 1) := by decide +kernel
theorem d11_14 : decode method_4_code 14 = .ok (.iload_n 0, 1) := by decide +kernel
theorem d11_15 : decode method_4_code 15 = .ok (.bipush 65, 2) := by decide +kernel
theorem d11_17 : decode method_4_code 17 = .ok (.if_icmp .lt 11, 3) := by decide +kernel
theorem d11_20 : decode method_4_code 20 = .ok (.iload_n 0, 1) := by decide +kernel
theorem d11_21 : decode method_4_code 21 = .ok (.bipush 90, 2) := by decide +kernel
theorem d11_23 : decode method_4_code 23 = .ok (.if_icmp .gt 5, 3) := by decide +kernel
theorem d11_26 : decode method_4_code 26 = .ok (.iconst 1, 1) := by decide +kernel
theorem d11_27 : decode method_4_code 27 = .ok (.ireturn, 1) := by decide +kernel
theorem d11_28 : decode method_4_code 28 = .ok (.iload_n 0, 1) := by decide +kernel
theorem d11_29 : decode method_4_code 29 = .ok (.bipush 97, 2) := by decide +kernel
theorem d11_31 : decode method_4_code 31 = .ok (.if_icmp .lt 11, 3) := by decide +kernel
theorem d11_34 : decode method_4_code 34 = .ok (.iload_n 0, 1) := by decide +kernel
theorem d11_35 : decode method_4_code 35 = .ok (.bipush 122, 2) := by decide +kernel
theorem d11_37 : decode method_4_code 37 = .ok (.if_icmp .gt 5, 3) := by decide +kernel
theorem d11_40 : decode method_4_code 40 = .ok (.iconst 1, 1) := by decide +kernel
theorem d11_41 : decode method_4_code 41 = .ok (.ireturn, 1) := by decide +kernel
theorem d11_42 : decode method_4_code 42 = .ok (.iload_n 0, 1) := by decide +kernel
theorem d11_43 : decode method_4_code 43 = .ok (.bipush 33, 2) := by decide +kernel
theorem d11_45 : decode method_4_code 45 = .ok (.if_icmp .eq 87, 3) := by decide +kernel
theorem d11_48 : decode method_4_code 48 = .ok (.iload_n 0, 1) := by decide +kernel
theorem d11_49 : decode method_4_code 49 = .ok (.bipush 35, 2) := by decide +kernel
theorem d11_51 : decode method_4_code 51 = .ok (.if_icmp .eq 81, 3) := by decide +kernel
theorem d11_54 : decode method_4_code 54 = .ok (.iload_n 0, 1) := by decide +kernel
theorem d11_55 : decode method_4_code 55 = .ok (.bipush 36, 2) := by decide +kernel
theorem d11_57 : decode method_4_code 57 = .ok (.if_icmp .eq 75, 3) := by decide +kernel
theorem d11_60 : decode method_4_code 60 = .ok (.iload_n 0, 1) := by decide +kernel
theorem d11_61 : decode method_4_code 61 = .ok (.bipush 37, 2) := by decide +kernel
theorem d11_63 : decode method_4_code 63 = .ok (.if_icmp .eq 69, 3) := by decide +kernel
theorem d11_66 : decode method_4_code 66 = .ok (.iload_n 0, 1) := by decide +kernel
theorem d11_67 : decode method_4_code 67 = .ok (.bipush 38, 2) := by decide +kernel
theorem d11_69 : decode method_4_code 69 = .ok (.if_icmp .eq 63, 3) := by decide +kernel
theorem d11_72 : decode method_4_code 72 = .ok (.iload_n 0, 1) := by decide +kernel
theorem d11_73 : decode method_4_code 73 = .ok (.bipush 39, 2) := by decide +kernel
theorem d11_75 : decode method_4_code 75 = .ok (.if_icmp .eq 57, 3) := by decide +kernel
theorem d11_78 : decode method_4_code 78 = .ok (.iload_n 0, 1) := by decide +kernel
theorem d11_79 : decode method_4_code 79 = .ok (.bipush 42, 2) := by decide +kernel
theorem d11_81 : decode method_4_code 81 = .ok (.if_icmp .eq 51, 3) := by decide +kernel
theorem d11_84 : decode method_4_code 84 = .ok (.iload_n 0, 1) := by decide +kernel
theorem d11_85 : decode method_4_code 85 = .ok (.bipush 43, 2) := by decide +kernel
theorem d11_87 : decode method_4_code 87 = .ok (.if_icmp .eq 45, 3) := by decide +kernel
theorem d11_90 : decode method_4_code 90 = .ok (.iload_n 0, 1) := by decide +kernel
theorem d11_91 : decode method_4_code 91 = .ok (.bipush 46, 2) := by decide +kernel
theorem d11_93 : decode method_4_code 93 = .ok (.if_icmp .eq 39, 3) := by decide +kernel
theorem d11_96 : decode method_4_code 96 = .ok (.iload_n 0, 1) := by decide +kernel
theorem d11_97 : decode method_4_code 97 = .ok (.bipush 94, 2) := by decide +kernel
theorem d11_99 : decode method_4_code 99 = .ok (.if_icmp .eq 33, 3) := by decide +kernel
theorem d11_102 : decode method_4_code 102 = .ok (.iload_n 0, 1) := by decide +kernel
theorem d11_103 : decode method_4_code 103 = .ok (.bipush 95, 2) := by decide +kernel
theorem d11_105 : decode method_4_code 105 = .ok (.if_icmp .eq 27, 3) := by decide +kernel
theorem d11_108 : decode method_4_code 108 = .ok (.iload_n 0, 1) := by decide +kernel
theorem d11_109 : decode method_4_code 109 = .ok (.bipush 96, 2) := by decide +kernel
theorem d11_111 : decode method_4_code 111 = .ok (.if_icmp .eq 21, 3) := by decide +kernel
theorem d11_114 : decode method_4_code 114 = .ok (.iload_n 0, 1) := by decide +kernel
theorem d11_115 : decode method_4_code 115 = .ok (.bipush 124, 2) := by decide +kernel
theorem d11_117 : decode method_4_code 117 = .ok (.if_icmp .eq 15, 3) := by decide +kernel
theorem d11_120 : decode method_4_code 120 = .ok (.iload_n 0, 1) := by decide +kernel
theorem d11_121 : decode method_4_code 121 = .ok (.bipush 126, 2) := by decide +kernel
theorem d11_123 : decode method_4_code 123 = .ok (.if_icmp .eq 9, 3) := by decide +kernel
theorem d11_126 : decode method_4_code 126 = .ok (.iload_n 0, 1) := by decide +kernel
theorem d11_127 : decode method_4_code 127 = .ok (.bipush 45, 2) := by decide +kernel
theorem d11_129 : decode method_4_code 129 = .ok (.if_icmp .ne 7, 3) := by decide +kernel
theorem d11_132 : decode method_4_code 132 = .ok (.iconst 1, 1) := by decide +kernel
theorem d11_133 : decode method_4_code 133 = .ok (.goto 4, 3) := by decide +kernel
theorem d11_136 : decode method_4_code 136 = .ok (.iconst 0, 1) := by decide +kernel
theorem d11_137 : decode method_4_code 137 = .ok (.ireturn, 1) := by decide +kernel
theorem d12_0 : decode prog_2_method_12_code 0 = .ok (.iconst 0, 1) := by decide +kernel
theorem d12_1 : decode prog_2_method_12_code 1 = .ok (.istore_n 2, 1) := by decide +kernel
theorem d12_2 : decode prog_2_method_12_code 2 = .ok (.iload_n 2, 1) := by decide +kernel
theorem d12_3 : decode prog_2_method_12_code 3 = .ok (.aload_n 0, 1) := by decide +kernel
theorem d12_4 : decode prog_2_method_12_code 4 = .ok (.invokevirtual 29, 3) := by decide +kernel
theorem d12_7 : decode prog_2_method_12_code 7 = .ok (.if_icmp .ge 29, 3) := by decide +kernel
theorem d12_10 : decode prog_2_method_12_code 10 = .ok (.aload_n 0, 1) := by decide +kernel
theorem d12_11 : decode prog_2_method_12_code 11 = .ok (.iload_n 2, 1) := by decide +kernel
theorem d12_12 : decode prog_2_method_12_code 12 = .ok (.invokevirtual 74, 3) := by decide +kernel
theorem d12_15 : decode prog_2_method_12_code 15 = .ok (.istore_n 3, 1) := by decide +kernel
theorem d12_16 : decode prog_2_method_12_code 16 = .ok (.iload_n 3, 1) := by decide +kernel
theorem d12_17 : decode prog_2_method_12_code 17 = .ok (.aload_n 1, 1) := by decide +kernel
theorem d12_18 : decode prog_2_method_12_code 18 = .ok (.arraylength, 1) := by decide +kernel
theorem d12_19 : decode prog_2_method_12_code 19 = .ok (.if_icmp .ge 9, 3) := by decide +kernel
theorem d12_22 : decode prog_2_method_12_code 22 = .ok (.aload_n 1, 1) := by decide +kernel
theorem d12_23 : decode prog_2_method_12_code 23 = .ok (.iload_n 3, 1) := by decide +kernel
theorem d12_24 : decode prog_2_method_12_code 24 = .ok (.baload, 1) := by decide +kernel
theorem d12_25 : decode prog_2_method_12_code 25 = .ok (.ifCond .ne 5, 3) := by decide +kernel
theorem d12_28 : decode prog_2_method_12_code 28 = .ok (.iconst 0, 1) := by decide +kernel
theorem d12_29 : decode prog_2_method_12_code 29 = .ok (.ireturn, 1) := by decide +kernel
theorem d12_30 : decode prog_2_method_12_code 30 = .ok (.iinc 2 1, 3) := by decide +kernel
theorem d12_33 : decode prog_2_method_12_code 33 = .ok (.goto (-31), 3) := by decide +kernel
theorem d12_36 : decode prog_2_method_12_code 36 = .ok (.iconst 1, 1) := by decide +kernel
theorem d12_37 : decode prog_2_method_12_code 37 = .ok (.ireturn, 1) := by decide +kernel
theorem d13_0 : decode jdk_42_method_54_code 0 = .ok (.aload_n 0, 1) := by decide +kernel
theorem d13_1 : decode jdk_42_method_54_code 1 = .ok (.getfield 9, 3) := by decide +kernel
theorem d13_4 : decode jdk_42_method_54_code 4 = .ok (.arraylength, 1) := by decide +kernel
theorem d13_5 : decode jdk_42_method_54_code 5 = .ok (.aload_n 0, 1) := by decide +kernel
theorem d13_6 : decode jdk_42_method_54_code 6 = .ok (.invokevirtual 335, 3) := by decide +kernel
theorem d13_9 : decode jdk_42_method_54_code 9 = .ok (.ishr, 1) := by decide +kernel
theorem d13_10 : decode jdk_42_method_54_code 10 = .ok (.ireturn, 1) := by decide +kernel
theorem d14_0 : decode jdk_42_method_152_code 0 = .ok (.getstatic 38, 3) := by decide +kernel
theorem d14_3 : decode jdk_42_method_152_code 3 = .ok (.ifCond .eq 10, 3) := by decide +kernel
theorem d14_6 : decode jdk_42_method_152_code 6 = .ok (.aload_n 0, 1) := by decide +kernel
theorem d14_7 : decode jdk_42_method_152_code 7 = .ok (.getfield 15, 3) := by decide +kernel
theorem d14_10 : decode jdk_42_method_152_code 10 = .ok (.goto 4, 3) := by decide +kernel
theorem d14_14 : decode jdk_42_method_152_code 14 = .ok (.ireturn, 1) := by decide +kernel
theorem d15_0 : decode jdk_42_method_56_code 0 = .ok (.aload_n 0, 1) := by decide +kernel
theorem d15_1 : decode jdk_42_method_56_code 1 = .ok (.invokevirtual 492, 3) := by decide +kernel
theorem d15_4 : decode jdk_42_method_56_code 4 = .ok (.ifCond .eq 12, 3) := by decide +kernel
theorem d15_7 : decode jdk_42_method_56_code 7 = .ok (.aload_n 0, 1) := by decide +kernel
theorem d15_8 : decode jdk_42_method_56_code 8 = .ok (.getfield 9, 3) := by decide +kernel
theorem d15_11 : decode jdk_42_method_56_code 11 = .ok (.iload_n 1, 1) := by decide +kernel
theorem d15_12 : decode jdk_42_method_56_code 12 = .ok (.invokestatic 495, 3) := by decide +kernel
theorem d15_15 : decode jdk_42_method_56_code 15 = .ok (.ireturn, 1) := by decide +kernel
theorem d15_16 : decode jdk_42_method_56_code 16 = .ok (.aload_n 0, 1) := by decide +kernel
theorem d15_17 : decode jdk_42_method_56_code 17 = .ok (.getfield 9, 3) := by decide +kernel
theorem d15_20 : decode jdk_42_method_56_code 20 = .ok (.iload_n 1, 1) := by decide +kernel
theorem d15_21 : decode jdk_42_method_56_code 21 = .ok (.invokestatic 498, 3) := by decide +kernel
theorem d15_24 : decode jdk_42_method_56_code 24 = .ok (.ireturn, 1) := by decide +kernel
theorem d16_0 : decode jdk_42_method_154_code 0 = .ok (.getstatic 38, 3) := by decide +kernel
theorem d16_3 : decode jdk_42_method_154_code 3 = .ok (.ifCond .eq 14, 3) := by decide +kernel
theorem d16_6 : decode jdk_42_method_154_code 6 = .ok (.aload_n 0, 1) := by decide +kernel
theorem d16_7 : decode jdk_42_method_154_code 7 = .ok (.getfield 15, 3) := by decide +kernel
theorem d16_10 : decode jdk_42_method_154_code 10 = .ok (.ifCond .ne 7, 3) := by decide +kernel
theorem d16_13 : decode jdk_42_method_154_code 13 = .ok (.iconst 1, 1) := by decide +kernel
theorem d16_14 : decode jdk_42_method_154_code 14 = .ok (.goto 4, 3) := by decide +kernel
theorem d16_17 : decode jdk_42_method_154_code 17 = .ok (.iconst 0, 1) := by decide +kernel
theorem d16_18 : decode jdk_42_method_154_code 18 = .ok (.ireturn, 1) := by decide +kernel
theorem d17_0 : decode jdk_43_method_2_code 0 = .ok (.iload_n 1, 1) := by decide +kernel
theorem d17_1 : decode jdk_43_method_2_code 1 = .ok (.aload_n 0, 1) := by decide +kernel
theorem d17_2 : decode jdk_43_method_2_code 2 = .ok (.arraylength, 1) := by decide +kernel
theorem d17_3 : decode jdk_43_method_2_code 3 = .ok (.invokestatic 9, 3) := by decide +kernel
theorem d17_6 : decode jdk_43_method_2_code 6 = .ok (.aload_n 0, 1) := by decide +kernel
theorem d17_7 : decode jdk_43_method_2_code 7 = .ok (.iload_n 1, 1) := by decide +kernel
theorem d17_8 : decode jdk_43_method_2_code 8 = .ok (.baload, 1) := by decide +kernel
theorem d17_9 : decode jdk_43_method_2_code 9 = .ok (.sipush 255, 3) := by decide +kernel
theorem d17_12 : decode jdk_43_method_2_code 12 = .ok (.iand, 1) := by decide +kernel
theorem d17_13 : decode jdk_43_method_2_code 13 = .ok (.i2c, 1) := by decide +kernel
theorem d17_14 : decode jdk_43_method_2_code 14 = .ok (.ireturn, 1) := by decide +kernel
theorem d18_0 : decode jdk_42_method_155_code 0 = .ok (.iload_n 0, 1) := by decide +kernel
theorem d18_1 : decode jdk_42_method_155_code 1 = .ok (.iload_n 1, 1) := by decide +kernel
theorem d18_2 : decode jdk_42_method_155_code 2 = .ok (.getstatic 1053, 3) := by decide +kernel
theorem d18_5 : decode jdk_42_method_155_code 5 = .ok (.invokestatic 1059, 3) := by decide +kernel
theorem d18_8 : decode jdk_42_method_155_code 8 = .ok (.pop, 1) := by decide +kernel
theorem d18_9 : decode jdk_42_method_155_code 9 = .ok (.return_, 1) := by decide +kernel
theorem d19_0 : decode jdk_41_method_11_code 0 = .ok (.iload_n 0, 1) := by decide +kernel
theorem d19_1 : decode jdk_41_method_11_code 1 = .ok (.ifCond .lt 8, 3) := by decide +kernel
theorem d19_4 : decode jdk_41_method_11_code 4 = .ok (.iload_n 0, 1) := by decide +kernel
theorem d19_5 : decode jdk_41_method_11_code 5 = .ok (.iload_n 1, 1) := by decide +kernel
theorem d19_6 : decode jdk_41_method_11_code 6 = .ok (.if_icmp .lt 10, 3) := by decide +kernel
theorem d19_16 : decode jdk_41_method_11_code 16 = .ok (.iload_n 0, 1) := by decide +kernel
theorem d19_17 : decode jdk_41_method_11_code 17 = .ok (.ireturn, 1) := by decide +kernel
theorem d20_0 : decode jdk_52_method_16_code 0 = .ok (.iload_n 2, 1) := by decide +kernel
theorem d20_1 : decode jdk_52_method_16_code 1 = .ok (.newarray .byte, 2) := by decide +kernel
theorem d20_3 : decode jdk_52_method_16_code 3 = .ok (.astore_n 3, 1) := by decide +kernel
theorem d20_4 : decode jdk_52_method_16_code 4 = .ok (.aload_n 0, 1) := by decide +kernel
theorem d20_5 : decode jdk_52_method_16_code 5 = .ok (.iload_n 1, 1) := by decide +kernel
theorem d20_6 : decode jdk_52_method_16_code 6 = .ok (.aload_n 3, 1) := by decide +kernel
theorem d20_7 : decode jdk_52_method_16_code 7 = .ok (.iconst 0, 1) := by decide +kernel
theorem d20_8 : decode jdk_52_method_16_code 8 = .ok (.iload_n 2, 1) := by decide +kernel
theorem d20_9 : decode jdk_52_method_16_code 9 = .ok (.invokestatic 115, 3) := by decide +kernel
theorem d20_12 : decode jdk_52_method_16_code 12 = .ok (.istore 4, 2) := by decide +kernel
theorem d20_14 : decode jdk_52_method_16_code 14 = .ok (.iload 4, 2) := by decide +kernel
theorem d20_16 : decode jdk_52_method_16_code 16 = .ok (.iload_n 2, 1) := by decide +kernel
theorem d20_17 : decode jdk_52_method_16_code 17 = .ok (.if_icmp .eq 40, 3) := by decide +kernel
theorem d20_20 : decode jdk_52_method_16_code 20 = .ok (.aload_n 0, 1) := by decide +kernel
theorem d20_21 : decode jdk_52_method_16_code 21 = .ok (.iload_n 1, 1) := by decide +kernel
theorem d20_22 : decode jdk_52_method_16_code 22 = .ok (.iload_n 2, 1) := by decide +kernel
theorem d20_23 : decode jdk_52_method_16_code 23 = .ok (.invokestatic 119, 3) := by decide +kernel
theorem d20_26 : decode jdk_52_method_16_code 26 = .ok (.astore 5, 2) := by decide +kernel
theorem d20_28 : decode jdk_52_method_16_code 28 = .ok (.aload 5, 2) := by decide +kernel
theorem d20_30 : decode jdk_52_method_16_code 30 = .ok (.iload 4, 2) := by decide +kernel
theorem d20_32 : decode jdk_52_method_16_code 32 = .ok (.invokestatic 71, 3) := by decide +kernel
theorem d20_35 : decode jdk_52_method_16_code 35 = .ok (.sipush 255, 3) := by decide +kernel
theorem d20_38 : decode jdk_52_method_16_code 38 = .ok (.if_icmp .gt 16, 3) := by decide +kernel
theorem d20_54 : decode jdk_52_method_16_code 54 = .ok (.aload 5, 2) := by decide +kernel
theorem d20_56 : decode jdk_52_method_16_code 56 = .ok (.areturn, 1) := by decide +kernel
theorem d20_57 : decode jdk_52_method_16_code 57 = .ok (.aload_n 3, 1) := by decide +kernel
theorem d20_58 : decode jdk_52_method_16_code 58 = .ok (.areturn, 1) := by decide +kernel
theorem d21_0 : decode jdk_52_method_21_code 0 = .ok (.iconst 0, 1) := by decide +kernel
theorem d21_1 : decode jdk_52_method_21_code 1 = .ok (.istore 5, 2) := by decide +kernel
theorem d21_3 : decode jdk_52_method_21_code 3 = .ok (.iload 5, 2) := by decide +kernel
theorem d21_5 : decode jdk_52_method_21_code 5 = .ok (.iload 4, 2) := by decide +kernel
theorem d21_7 : decode jdk_52_method_21_code 7 = .ok (.if_icmp .ge 37, 3) := by decide +kernel
theorem d21_10 : decode jdk_52_method_21_code 10 = .ok (.aload_n 0, 1) := by decide +kernel
theorem d21_11 : decode jdk_52_method_21_code 11 = .ok (.iload_n 1, 1) := by decide +kernel
theorem d21_12 : decode jdk_52_method_21_code 12 = .ok (.caload, 1) := by decide +kernel
theorem d21_13 : decode jdk_52_method_21_code 13 = .ok (.istore 6, 2) := by decide +kernel
theorem d21_15 : decode jdk_52_method_21_code 15 = .ok (.iload 6, 2) := by decide +kernel
theorem d21_17 : decode jdk_52_method_21_code 17 = .ok (.sipush 255, 3) := by decide +kernel
theorem d21_20 : decode jdk_52_method_21_code 20 = .ok (.if_icmp .le 6, 3) := by decide +kernel
theorem d21_23 : decode jdk_52_method_21_code 23 = .ok (.iload 5, 2) := by decide +kernel
theorem d21_25 : decode jdk_52_method_21_code 25 = .ok (.ireturn, 1) := by decide +kernel
theorem d21_26 : decode jdk_52_method_21_code 26 = .ok (.aload_n 2, 1) := by decide +kernel
theorem d21_27 : decode jdk_52_method_21_code 27 = .ok (.iload_n 3, 1) := by decide +kernel
theorem d21_28 : decode jdk_52_method_21_code 28 = .ok (.iload 6, 2) := by decide +kernel
theorem d21_30 : decode jdk_52_method_21_code 30 = .ok (.i2b, 1) := by decide +kernel
theorem d21_31 : decode jdk_52_method_21_code 31 = .ok (.bastore, 1) := by decide +kernel
theorem d21_32 : decode jdk_52_method_21_code 32 = .ok (.iinc 1 1, 3) := by decide +kernel
theorem d21_35 : decode jdk_52_method_21_code 35 = .ok (.iinc 3 1, 3) := by decide +kernel
theorem d21_38 : decode jdk_52_method_21_code 38 = .ok (.iinc 5 1, 3) := by decide +kernel
theorem d21_41 : decode jdk_52_method_21_code 41 = .ok (.goto (-38), 3) := by decide +kernel
theorem d21_44 : decode jdk_52_method_21_code 44 = .ok (.iload 4, 2) := by decide +kernel
theorem d21_46 : decode jdk_52_method_21_code 46 = .ok (.ireturn, 1) := by decide +kernel
theorem d22_0 : decode jdk_52_method_15_code 0 = .ok (.iload_n 1, 1) := by decide +kernel
theorem d22_1 : decode jdk_52_method_15_code 1 = .ok (.aload_n 0, 1) := by decide +kernel
theorem d22_2 : decode jdk_52_method_15_code 2 = .ok (.arraylength, 1) := by decide +kernel
theorem d22_3 : decode jdk_52_method_15_code 3 = .ok (.isub, 1) := by decide +kernel
theorem d22_4 : decode jdk_52_method_15_code 4 = .ok (.bipush 31, 2) := by decide +kernel
theorem d22_6 : decode jdk_52_method_15_code 6 = .ok (.iushr, 1) := by decide +kernel
theorem d22_7 : decode jdk_52_method_15_code 7 = .ok (.i2b, 1) := by decide +kernel
theorem d22_8 : decode jdk_52_method_15_code 8 = .ok (.ireturn, 1) := by decide +kernel
theorem d23_0 : decode jdk_52_method_14_code 0 = .ok (.iload_n 2, 1) := by decide +kernel
theorem d23_1 : decode jdk_52_method_14_code 1 = .ok (.invokestatic 107, 3) := by decide +kernel
theorem d23_4 : decode jdk_52_method_14_code 4 = .ok (.astore_n 3, 1) := by decide +kernel
theorem d23_5 : decode jdk_52_method_14_code 5 = .ok (.iconst 0, 1) := by decide +kernel
theorem d23_6 : decode jdk_52_method_14_code 6 = .ok (.istore 4, 2) := by decide +kernel
theorem d23_8 : decode jdk_52_method_14_code 8 = .ok (.iload 4, 2) := by decide +kernel
theorem d23_10 : decode jdk_52_method_14_code 10 = .ok (.iload_n 2, 1) := by decide +kernel
theorem d23_11 : decode jdk_52_method_14_code 11 = .ok (.if_icmp .ge 21, 3) := by decide +kernel
theorem d23_14 : decode jdk_52_method_14_code 14 = .ok (.aload_n 3, 1) := by decide +kernel
theorem d23_15 : decode jdk_52_method_14_code 15 = .ok (.iload 4, 2) := by decide +kernel
theorem d23_17 : decode jdk_52_method_14_code 17 = .ok (.aload_n 0, 1) := by decide +kernel
theorem d23_18 : decode jdk_52_method_14_code 18 = .ok (.iload_n 1, 1) := by decide +kernel
theorem d23_19 : decode jdk_52_method_14_code 19 = .ok (.caload, 1) := by decide +kernel
theorem d23_20 : decode jdk_52_method_14_code 20 = .ok (.invokestatic 111, 3) := by decide +kernel
theorem d23_23 : decode jdk_52_method_14_code 23 = .ok (.iinc 1 1, 3) := by decide +kernel
theorem d23_26 : decode jdk_52_method_14_code 26 = .ok (.iinc 4 1, 3) := by decide +kernel
theorem d23_29 : decode jdk_52_method_14_code 29 = .ok (.goto (-21), 3) := by decide +kernel
theorem d23_32 : decode jdk_52_method_14_code 32 = .ok (.aload_n 3, 1) := by decide +kernel
theorem d23_33 : decode jdk_52_method_14_code 33 = .ok (.areturn, 1) := by decide +kernel
theorem d24_0 : decode jdk_52_method_2_code 0 = .ok (.iload_n 0, 1) := by decide +kernel
theorem d24_1 : decode jdk_52_method_2_code 1 = .ok (.invokestatic 11, 3) := by decide +kernel
theorem d24_4 : decode jdk_52_method_2_code 4 = .ok (.newarray .byte, 2) := by decide +kernel
theorem d24_6 : decode jdk_52_method_2_code 6 = .ok (.areturn, 1) := by decide +kernel
theorem d25_0 : decode jdk_52_method_3_code 0 = .ok (.iload_n 0, 1) := by decide +kernel
theorem d25_1 : decode jdk_52_method_3_code 1 = .ok (.ifCond .ge 11, 3) := by decide +kernel
theorem d25_12 : decode jdk_52_method_3_code 12 = .ok (.iload_n 0, 1) := by decide +kernel
theorem d25_13 : decode jdk_52_method_3_code 13 = .ok (.ldc 20, 2) := by decide +kernel
theorem d25_15 : decode jdk_52_method_3_code 15 = .ok (.if_icmp .lt 40, 3) := by decide +kernel
theorem d25_55 : decode jdk_52_method_3_code 55 = .ok (.iload_n 0, 1) := by decide +kernel
theorem d25_56 : decode jdk_52_method_3_code 56 = .ok (.iconst 1, 1) := by decide +kernel
theorem d25_57 : decode jdk_52_method_3_code 57 = .ok (.ishl, 1) := by decide +kernel
theorem d25_58 : decode jdk_52_method_3_code 58 = .ok (.ireturn, 1) := by decide +kernel
theorem d26_0 : decode jdk_52_method_4_code 0 = .ok (.getstatic 44, 3) := by decide +kernel
theorem d26_3 : decode jdk_52_method_4_code 3 = .ok (.ifCond .ne 25, 3) := by decide +kernel
theorem d26_28 : decode jdk_52_method_4_code 28 = .ok (.iload_n 1, 1) := by decide +kernel
theorem d26_29 : decode jdk_52_method_4_code 29 = .ok (.iconst 1, 1) := by decide +kernel
theorem d26_30 : decode jdk_52_method_4_code 30 = .ok (.ishl, 1) := by decide +kernel
theorem d26_31 : decode jdk_52_method_4_code 31 = .ok (.istore_n 1, 1) := by decide +kernel
theorem d26_32 : decode jdk_52_method_4_code 32 = .ok (.aload_n 0, 1) := by decide +kernel
theorem d26_33 : decode jdk_52_method_4_code 33 = .ok (.iload_n 1, 1) := by decide +kernel
theorem d26_34 : decode jdk_52_method_4_code 34 = .ok (.iinc 1 1, 3) := by decide +kernel
theorem d26_37 : decode jdk_52_method_4_code 37 = .ok (.iload_n 2, 1) := by decide +kernel
theorem d26_38 : decode jdk_52_method_4_code 38 = .ok (.getstatic 59, 3) := by decide +kernel
theorem d26_41 : decode jdk_52_method_4_code 41 = .ok (.ishr, 1) := by decide +kernel
theorem d26_42 : decode jdk_52_method_4_code 42 = .ok (.i2b, 1) := by decide +kernel
theorem d26_43 : decode jdk_52_method_4_code 43 = .ok (.bastore, 1) := by decide +kernel
theorem d26_44 : decode jdk_52_method_4_code 44 = .ok (.aload_n 0, 1) := by decide +kernel
theorem d26_45 : decode jdk_52_method_4_code 45 = .ok (.iload_n 1, 1) := by decide +kernel
theorem d26_46 : decode jdk_52_method_4_code 46 = .ok (.iload_n 2, 1) := by decide +kernel
theorem d26_47 : decode jdk_52_method_4_code 47 = .ok (.getstatic 63, 3) := by decide +kernel
theorem d26_50 : decode jdk_52_method_4_code 50 = .ok (.ishr, 1) := by decide +kernel
theorem d26_51 : decode jdk_52_method_4_code 51 = .ok (.i2b, 1) := by decide +kernel
theorem d26_52 : decode jdk_52_method_4_code 52 = .ok (.bastore, 1) := by decide +kernel
theorem d26_53 : decode jdk_52_method_4_code 53 = .ok (.return_, 1) := by decide +kernel
theorem d27_0 : decode jdk_52_method_5_code 0 = .ok (.getstatic 44, 3) := by decide +kernel
theorem d27_3 : decode jdk_52_method_5_code 3 = .ok (.ifCond .ne 25, 3) := by decide +kernel
theorem d27_28 : decode jdk_52_method_5_code 28 = .ok (.iload_n 1, 1) := by decide +kernel
theorem d27_29 : decode jdk_52_method_5_code 29 = .ok (.iconst 1, 1) := by decide +kernel
theorem d27_30 : decode jdk_52_method_5_code 30 = .ok (.ishl, 1) := by decide +kernel
theorem d27_31 : decode jdk_52_method_5_code 31 = .ok (.istore_n 1, 1) := by decide +kernel
theorem d27_32 : decode jdk_52_method_5_code 32 = .ok (.aload_n 0, 1) := by decide +kernel
theorem d27_33 : decode jdk_52_method_5_code 33 = .ok (.iload_n 1, 1) := by decide +kernel
theorem d27_34 : decode jdk_52_method_5_code 34 = .ok (.iinc 1 1, 3) := by decide +kernel
theorem d27_37 : decode jdk_52_method_5_code 37 = .ok (.baload, 1) := by decide +kernel
theorem d27_38 : decode jdk_52_method_5_code 38 = .ok (.sipush 255, 3) := by decide +kernel
theorem d27_41 : decode jdk_52_method_5_code 41 = .ok (.iand, 1) := by decide +kernel
theorem d27_42 : decode jdk_52_method_5_code 42 = .ok (.getstatic 59, 3) := by decide +kernel
theorem d27_45 : decode jdk_52_method_5_code 45 = .ok (.ishl, 1) := by decide +kernel
theorem d27_46 : decode jdk_52_method_5_code 46 = .ok (.aload_n 0, 1) := by decide +kernel
theorem d27_47 : decode jdk_52_method_5_code 47 = .ok (.iload_n 1, 1) := by decide +kernel
theorem d27_48 : decode jdk_52_method_5_code 48 = .ok (.baload, 1) := by decide +kernel
theorem d27_49 : decode jdk_52_method_5_code 49 = .ok (.sipush 255, 3) := by decide +kernel
theorem d27_52 : decode jdk_52_method_5_code 52 = .ok (.iand, 1) := by decide +kernel
theorem d27_53 : decode jdk_52_method_5_code 53 = .ok (.getstatic 63, 3) := by decide +kernel
theorem d27_56 : decode jdk_52_method_5_code 56 = .ok (.ishl, 1) := by decide +kernel
theorem d27_57 : decode jdk_52_method_5_code 57 = .ok (.ior, 1) := by decide +kernel
theorem d27_58 : decode jdk_52_method_5_code 58 = .ok (.i2c, 1) := by decide +kernel
theorem d27_59 : decode jdk_52_method_5_code 59 = .ok (.ireturn, 1) := by decide +kernel
theorem d28_0 : decode jdk_52_method_83_code 0 = .ok (.iload_n 1, 1) := by decide +kernel
theorem d28_1 : decode jdk_52_method_83_code 1 = .ok (.aload_n 0, 1) := by decide +kernel
theorem d28_2 : decode jdk_52_method_83_code 2 = .ok (.invokestatic 67, 3) := by decide +kernel
theorem d28_5 : decode jdk_52_method_83_code 5 = .ok (.aload_n 0, 1) := by decide +kernel
theorem d28_6 : decode jdk_52_method_83_code 6 = .ok (.iload_n 1, 1) := by decide +kernel
theorem d28_7 : decode jdk_52_method_83_code 7 = .ok (.invokestatic 71, 3) := by decide +kernel
theorem d28_10 : decode jdk_52_method_83_code 10 = .ok (.ireturn, 1) := by decide +kernel
theorem d29_0 : decode jdk_52_method_91_code 0 = .ok (.iload_n 0, 1) := by decide +kernel
theorem d29_1 : decode jdk_52_method_91_code 1 = .ok (.aload_n 1, 1) := by decide +kernel
theorem d29_2 : decode jdk_52_method_91_code 2 = .ok (.invokestatic 48, 3) := by decide +kernel
theorem d29_5 : decode jdk_52_method_91_code 5 = .ok (.invokestatic 414, 3) := by decide +kernel
theorem d29_8 : decode jdk_52_method_91_code 8 = .ok (.return_, 1) := by decide +kernel
theorem d30_0 : decode jdk_52_method_6_code 0 = .ok (.aload_n 0, 1) := by decide +kernel
theorem d30_1 : decode jdk_52_method_6_code 1 = .ok (.arraylength, 1) := by decide +kernel
theorem d30_2 : decode jdk_52_method_6_code 2 = .ok (.iconst 1, 1) := by decide +kernel
theorem d30_3 : decode jdk_52_method_6_code 3 = .ok (.ishr, 1) := by decide +kernel
theorem d30_4 : decode jdk_52_method_6_code 4 = .ok (.ireturn, 1) := by decide +kernel
theorem d31_0 : decode jdk_52_method_24_code 0 = .ok (.iconst 2, 1) := by decide +kernel
theorem d31_1 : decode jdk_52_method_24_code 1 = .ok (.newarray .byte, 2) := by decide +kernel
theorem d31_3 : decode jdk_52_method_24_code 3 = .ok (.astore_n 1, 1) := by decide +kernel
theorem d31_4 : decode jdk_52_method_24_code 4 = .ok (.aload_n 1, 1) := by decide +kernel
theorem d31_5 : decode jdk_52_method_24_code 5 = .ok (.iconst 0, 1) := by decide +kernel
theorem d31_6 : decode jdk_52_method_24_code 6 = .ok (.iload_n 0, 1) := by decide +kernel
theorem d31_7 : decode jdk_52_method_24_code 7 = .ok (.invokestatic 111, 3) := by decide +kernel
theorem d31_10 : decode jdk_52_method_24_code 10 = .ok (.aload_n 1, 1) := by decide +kernel
theorem d31_11 : decode jdk_52_method_24_code 11 = .ok (.areturn, 1) := by decide +kernel
theorem own_on {i : Nat} (h : i < 2147483648) : (Int32.ofNat i).toInt = i := Int32.toInt_ofNat_of_lt (by simpa using h)
theorem own_eqi {x y : Int32} (h : x.toInt = y.toInt) : x = y := Int32.toInt_inj.mp h
theorem own_clamp {i : Nat} (h : i < 2147483648) : (Int32.ofNat i).toNatClampNeg = i := by
  rw [Int32.toNatClampNeg, own_on h]; rfl
theorem own_lt {i j : Nat} (hi : i < 2147483648) (hj : j < 2147483648) : Int32.ofNat i < Int32.ofNat j ↔ i < j := by
  rw [Int32.lt_iff_toInt_lt, own_on hi, own_on hj]; omega
theorem own_eq {i j : Nat} (hi : i < 2147483648) (hj : j < 2147483648) : Int32.ofNat i = Int32.ofNat j ↔ i = j := by
  rw [← Int32.toInt_inj, own_on hi, own_on hj]; omega
theorem own_in {i n : Nat} (h : i < n) (hn : n < 2147483648) : ¬ Int32.ofNat i < 0 ∧ Int32.ofNat i < Int32.ofNat n := by
  refine ⟨fun q => ?_, (own_lt (by omega) hn).mpr h⟩
  rw [Int32.lt_iff_toInt_lt, own_on (by omega)] at q
  have : (0 : Int32).toInt = 0 := rfl
  omega
theorem own_succ {i : Nat} (h : i < 2147483647) : Int32.ofNat i + (1 : Int32) = Int32.ofNat (i + 1) := by
  apply own_eqi
  have h1 := c_iadd (Int32.ofNat i) 1
  have h2 := rng32 (Int32.ofNat i + 1)
  rw [own_on (by omega)] at h1 ⊢
  have h3 : (1 : Int32).toInt = 1 := rfl
  push_cast
  omega
theorem own_pred {i : Nat} (h : i < 2147483648) (h0 : 0 < i) : Int32.ofNat i - (1 : Int32) = Int32.ofNat (i - 1) := by
  apply own_eqi
  have h1 := c_isub (Int32.ofNat i) 1
  have h2 := rng32 (Int32.ofNat i - 1)
  rw [own_on h] at h1
  rw [own_on (by omega)]
  have h3 : (1 : Int32).toInt = 1 := rfl
  omega
theorem own_high {i : Nat} (h : i < 1073741824) : (Int32.ofNat i - (1 : Int32)).toInt = (i : Int) - 1 := by
  have h1 := c_isub (Int32.ofNat i) 1
  have h2 := rng32 (Int32.ofNat i - 1)
  rw [own_on (by omega)] at h1
  have h3 : (1 : Int32).toInt = 1 := rfl
  omega
theorem own_mid {i j : Nat} (h : i < j) (hj : j < 1073741824) : ((Int32.ofNat i + (Int32.ofNat j - (1 : Int32))).toUInt32 >>> ((1 : Int32) &&& 31).toUInt32).toInt32 = Int32.ofNat ((i + j - 1) / 2) := by
  apply own_eqi
  have h1 := c_iadd (Int32.ofNat i) (Int32.ofNat j - 1)
  have h2 := rng32 (Int32.ofNat i + (Int32.ofNat j - 1))
  rw [own_on (by omega), own_high hj] at h1
  rw [c_iushr _ 1 1 (by decide) (by decide), own_on (by omega)]
  omega
theorem own_past {i j : Nat} (hi : i < 1073741824) (hj : j < 1073741824) : Int32.ofNat j - (1 : Int32) < Int32.ofNat i ↔ j ≤ i := by
  rw [Int32.lt_iff_toInt_lt, own_high hj, own_on (by omega)]; omega
theorem own_getm {α : Type} (g : α → Value) (l : List α) (d0 : α) (dv : Value) {i : Nat} (hi : i < l.length) (hb : i < 2147483648) : (l.map g).getD (Int32.ofNat i).toNatClampNeg dv = g (l.getD i d0) := by
  rw [own_clamp hb]
  simp [hi]
def own_b8 (c : Int32) : Int32 := c.toInt8.toInt32
def own_by (c : Int32) : Value := .int (own_b8 c)
def own_c (c : Int32) : Prop := ¬ c < 0 ∧ ¬ 255 < c
def own_L (cs : List Int32) : Prop := ∀ c ∈ cs, own_c c
abbrev own_bi (d : Bool) : Int32 := if d then 1 else 0
theorem own_ci {c : Int32} (h : own_c c) : 0 ≤ c.toInt ∧ c.toInt ≤ 255 := by
  obtain ⟨h1, h2⟩ := h
  rw [Int32.lt_iff_toInt_lt] at h1 h2
  have e1 : (0 : Int32).toInt = 0 := rfl
  have e2 : (255 : Int32).toInt = 255 := rfl
  omega
theorem own_ic {c : Int32} (h1 : 0 ≤ c.toInt) (h2 : c.toInt ≤ 255) : own_c c := by
  have e1 : (0 : Int32).toInt = 0 := rfl
  have e2 : (255 : Int32).toInt = 255 := rfl
  refine ⟨fun q => ?_, fun q => ?_⟩ <;> rw [Int32.lt_iff_toInt_lt] at q <;> omega
theorem own_nc {c : Int32} (h : own_c c) : nar .char c = c := by
  apply Int32.toInt_inj.mp
  have h1 := own_ci h
  have h2 := c_i2c c
  show (c.toUInt32.toUInt16.toUInt32.toInt32).toInt = c.toInt
  omega
theorem own_nb (c : Int32) : nar .byte (own_b8 c) = own_b8 c := by
  apply Int32.toInt_inj.mp
  have h1 := c_i2b c
  have h2 := c_i2b (own_b8 c)
  have e : (own_b8 c).toInt = (c.toInt8.toInt32).toInt := rfl
  show ((own_b8 c).toInt8.toInt32).toInt = (own_b8 c).toInt
  omega
theorem own_m255 (x : Int32) : (x &&& 255).toInt = x.toInt % 256 := c_mask x 255 8 (by decide) (by decide)
theorem own_cand (x : Int32) : own_c ((x &&& 255).toUInt32.toUInt16.toUInt32.toInt32) := by
  have h3 := own_m255 x
  have h4 := c_i2c (x &&& 255)
  exact own_ic (by omega) (by omega)
theorem own_cb {c : Int32} (h : own_c c) : nar .char ((own_b8 c &&& 255).toUInt32.toUInt16.toUInt32.toInt32) = c := by
  rw [own_nc (own_cand _)]
  apply Int32.toInt_inj.mp
  have h1 := own_ci h
  have h2 := c_i2b c
  have h3 := own_m255 (own_b8 c)
  have h4 := c_i2c (own_b8 c &&& 255)
  have e : (own_b8 c).toInt = (c.toInt8.toInt32).toInt := rfl
  omega
theorem own_b8inj {c d : Int32} (hc : own_c c) (hd : own_c d) (h : own_b8 c = own_b8 d) : c = d := by
  rw [← own_cb hc, ← own_cb hd, h]
theorem own_shr0 (z : Int32) : z >>> ((0 : Int32) &&& 31) = z := by
  apply Int32.toInt_inj.mp
  rw [c_ishr z 0 0 (by decide)]
  simp
def own_fill (cs : List Int32) (i : Nat) : List Value := (cs.take i).map own_by ++ List.replicate (cs.length - i) (.int 0)
theorem own_fill0 (cs : List Int32) : own_fill cs 0 = List.replicate cs.length (.int 0) := by simp [own_fill]
theorem own_filln (cs : List Int32) : own_fill cs cs.length = cs.map own_by := by simp [own_fill]
theorem own_fill_len {cs : List Int32} {i : Nat} (h : i ≤ cs.length) : (own_fill cs i).length = cs.length := by simp [own_fill]; omega
theorem own_fill_cons (c : Int32) (cs : List Int32) (i : Nat) : own_fill (c :: cs) (i + 1) = own_by c :: own_fill cs i := by simp [own_fill]
theorem own_fill_set : ∀ (cs : List Int32) (i : Nat), i < cs.length → (own_fill cs i).set i (own_by (cs.getD i 0)) = own_fill cs (i + 1)
  | [], _, h => by simp at h
  | c :: cs, 0, _ => by simp [own_fill, List.replicate_succ]
  | c :: cs, i + 1, h => by
    have q := own_fill_set cs i (by simpa using h)
    rw [own_fill_cons, own_fill_cons, List.set_cons_succ, ← q]
    simp
theorem own_getb (cs : List Int32) (i : Nat) : (cs.map own_by).getD i (.int 0) = own_by (cs.getD i 0) := by
  rw [List.getD_eq_getElem?_getD, List.getD_eq_getElem?_getD, List.getElem?_map]; cases cs[i]? <;> rfl
theorem own_geti (cs : List Int32) (i : Nat) : (cs.map Value.int).getD i (.int 0) = .int (cs.getD i 0) := by
  rw [List.getD_eq_getElem?_getD, List.getD_eq_getElem?_getD, List.getElem?_map]; cases cs[i]? <;> rfl
theorem own_eqx {ca cb : List Int32} (hl : ca.length = cb.length) (h : ∀ j, j < ca.length → ca.getD j 0 = cb.getD j 0) : ca = cb := by
  apply List.ext_getElem hl
  intro i q1 q2
  have := h i q1
  simpa [q1, q2] using this
theorem own_Lget {cs : List Int32} (h : own_L cs) (i : Nat) : own_c (cs.getD i 0) := by
  rw [List.getD_eq_getElem?_getD]
  cases q : cs[i]? with
  | none => exact ⟨by decide, by decide⟩
  | some c => exact h c (List.mem_of_getElem? q)
theorem own_bi0 {d : Bool} (h : own_bi d = 0) : d = false := by cases d with | false => rfl | true => exact absurd h (by decide)
theorem own_bi1 {d : Bool} (h : ¬ own_bi d = 0) : d = true := by cases d with | true => rfl | false => exact absurd rfl h
theorem own_cfal (z : Int32) : nar .byte (((z - z).toUInt32 >>> ((31 : Int32) &&& 31).toUInt32).toInt32.toInt8.toInt32) = 0 := by rw [Int32.sub_self]; decide
theorem own_Ln : own_L [] := fun c h => by cases h
theorem own_Lc {c : Int32} {cs : List Int32} (h : own_c c) (hs : own_L cs) : own_L (c :: cs) := fun d hd => by
  rcases List.mem_cons.mp hd with rfl | q
  · exact h
  · exact hs d q
theorem own_Ltake {X : List Int32} {j : Nat} (h : own_L X) : own_L (List.take j X) := fun c hc => h c (List.mem_of_mem_take hc)
theorem own_Lset {X : List Int32} {j : Nat} {c : Int32} (h : own_L X) (hc : own_c c) : own_L (X.set j c) := fun d hd => by
  rcases List.mem_or_eq_of_mem_set hd with q | rfl
  · exact h d q
  · exact hc
theorem own_idx {i : Nat} {l : List Int32} (h : i < l.length) (hl : l.length < 2147483648) : ¬ Int32.ofNat i < 0 ∧ Int32.ofNat i < Int32.ofNat l.length := own_in h hl
def own_HE (f : Int32 → Option Value) : Nat → List Value → Prop
  | _, [] => True
  | i, v :: r => f (Int32.ofNat i) = some v ∧ own_HE f (i + 1) r
theorem own_eqI {t : Term} {n : Int32} {args : Array Value} {s : State} (h : (Cond.eq t (.int n)).value args s none s [] = some true) : t.eval args s none [] s = some (.int n) := by
  have hn : (Term.int n).eval args s none [] s = some (.int n) := rfl
  simp only [Cond.value] at h
  rw [hn] at h
  cases hv : t.eval args s none [] s with
  | none => simp [hv] at h
  | some v =>
    cases v with
    | int x => simp [hv] at h; rw [h]
    | _ => simp [hv] at h
theorem own_eqR {t u : Term} {y : Addr} {args : Array Value} {s : State} (h : (Cond.eq t u).value args s none s [] = some true) (hu : u.eval args s none [] s = some (.ref y)) : t.eval args s none [] s = some (.ref y) := by
  simp only [Cond.value] at h
  rw [hu] at h
  cases hv : t.eval args s none [] s with
  | none => simp [hv] at h
  | some v =>
    cases v with
    | ref x => simp [hv] at h; rw [h]
    | _ => simp [hv] at h
theorem own_HL {args : Array Value} {s : State} {t : Term} {a : Addr} {c : Cell} (ev : t.eval args s none [] s = some (.ref a)) (hc : s.heap[a]? = some c) : ∀ (vs : List Value) (i : Nat), i + vs.length < 2147483648 → own_HE (fun j => (Term.elem t (.int j)).eval args s none [] s) i vs → HasL c i vs
  | [], _, _, _ => trivial
  | v :: r, i, hi, H => by
    have hi' : i + 1 + r.length < 2147483648 := by simp at hi; omega
    have q := (elem_in H.1 ev (j := Int32.ofNat i) rfl hc).2
    rw [own_clamp (by omega)] at q
    exact ⟨q, own_HL ev hc r (i + 1) hi' H.2⟩
theorem own_sz {args : Array Value} {s : State} {t : Term} {a : Addr} {c : Cell} {z : Int32} (ev : t.eval args s none [] s = some (.ref a)) (ha : s.arrayAt? a = some c) (h2 : (Term.length t).eval args s none [] s = some (.int z)) : c.slots.size < 2 ^ 31 ∧ c.slots.size.toInt32 = z := by
  have hq : c.slots.size < 2 ^ 31 := by
    by_cases q : c.slots.size < 2147483648
    · exact q
    · simp [Term.eval, ev, ha, q] at h2
  have e := h2.symm.trans (len_f ev ha hq)
  exact ⟨hq, (Value.int.inj (Option.some.inj e)).symm⟩
theorem own_arv0 {args : Array Value} {s : State} {t : Term} {a : Addr} {ty : FieldType} {z : Int32} {vs : List Value} {dv : Value} (hf : Fit s) (ev : t.eval args s none [] s = some (.ref a)) (h1 : (Cond.arrayOf t ty).value args s none s [] = some true) (h2 : (Term.length t).eval args s none [] s = some (.int z)) (hz : ¬ z < 0) (hl : z.toNatClampNeg = vs.length) (hb : vs.length < 2147483648) (H : own_HE (fun j => (Term.elem t (.int j)).eval args s none [] s) 0 vs) : ∃ q, Arv s s.heap a q ty z vs dv := by
  obtain ⟨c, A⟩ := Arr.start ev h1
  have ha : s.arrayAt? a = some c := Arr.fin (Vm.Alike.refl _) A
  obtain ⟨hq, e⟩ := own_sz ev ha h2
  exact ⟨c.cls, Arv.start hf A hq e hz hl (own_HL ev A.1 vs 0 (by omega) H)⟩
def own_d (c : Int32) : Prop := ¬ c < 0 ∧ ¬ 65535 < c
def own_D (cs : List Int32) : Prop := ∀ c ∈ cs, own_d c
theorem own_di {c : Int32} (h : own_d c) : 0 ≤ c.toInt ∧ c.toInt ≤ 65535 := by
  obtain ⟨h1, h2⟩ := h
  rw [Int32.lt_iff_toInt_lt] at h1 h2
  have e1 : (0 : Int32).toInt = 0 := rfl
  have e2 : (65535 : Int32).toInt = 65535 := rfl
  omega
theorem own_id {c : Int32} (h1 : 0 ≤ c.toInt) (h2 : c.toInt ≤ 65535) : own_d c := by
  have e1 : (0 : Int32).toInt = 0 := rfl
  have e2 : (65535 : Int32).toInt = 65535 := rfl
  refine ⟨fun q => ?_, fun q => ?_⟩ <;> rw [Int32.lt_iff_toInt_lt] at q <;> omega
theorem own_nd {c : Int32} (h : own_d c) : nar .char c = c := by
  apply Int32.toInt_inj.mp
  have h1 := own_di h
  have h2 := c_i2c c
  show (c.toUInt32.toUInt16.toUInt32.toInt32).toInt = c.toInt
  omega
theorem own_Dget {cs : List Int32} (h : own_D cs) (i : Nat) : own_d (cs.getD i 0) := by
  rw [List.getD_eq_getElem?_getD]
  cases q : cs[i]? with
  | none => exact ⟨by decide, by decide⟩
  | some c => exact h c (List.mem_of_getElem? q)
theorem own_Lall {cs : List Int32} (hD : own_D cs) (h : ∀ j, j < cs.length → ¬ 255 < cs.getD j 0) : own_L cs := fun c hc => by
  obtain ⟨j, hj, e⟩ := List.getElem_of_mem hc
  refine ⟨(hD c hc).1, ?_⟩
  have := h j hj
  simpa [hj, e] using this
def own_lo (c : Int32) : Int32 := (c >>> ((0 : Int32) &&& 31)).toInt8.toInt32
def own_hi (c : Int32) : Int32 := (c >>> ((8 : Int32) &&& 31)).toInt8.toInt32
def own_u : List Int32 → List Value
  | [] => []
  | c :: r => .int (own_lo c) :: .int (own_hi c) :: own_u r
theorem own_u_len : ∀ cs : List Int32, (own_u cs).length = 2 * cs.length
  | [] => rfl
  | c :: r => by simp [own_u, own_u_len r]; omega
theorem own_u0 : ∀ (cs : List Int32) (i : Nat), (own_u cs).getD (2 * i) (.int 0) = .int (own_lo (cs.getD i 0))
  | [], i => by simp [own_u]; rfl
  | c :: r, 0 => by simp [own_u]
  | c :: r, i + 1 => by
    have q := own_u0 r i
    rw [show 2 * (i + 1) = 2 * i + 1 + 1 by omega]
    simpa [own_u] using q
theorem own_u1 : ∀ (cs : List Int32) (i : Nat), (own_u cs).getD (2 * i + 1) (.int 0) = .int (own_hi (cs.getD i 0))
  | [], i => by simp [own_u]; rfl
  | c :: r, 0 => by simp [own_u]
  | c :: r, i + 1 => by
    have q := own_u1 r i
    rw [show 2 * (i + 1) + 1 = 2 * i + 1 + 1 + 1 by omega]
    simpa [own_u] using q
def own_uf (cs : List Int32) (i : Nat) : List Value := own_u (cs.take i) ++ List.replicate (2 * (cs.length - i)) (.int 0)
theorem own_uf0 (cs : List Int32) : own_uf cs 0 = List.replicate (2 * cs.length) (.int 0) := by simp [own_uf, own_u]
theorem own_ufn (cs : List Int32) : own_uf cs cs.length = own_u cs := by simp [own_uf]
theorem own_uf_len {cs : List Int32} {i : Nat} (h : i ≤ cs.length) : (own_uf cs i).length = 2 * cs.length := by simp [own_uf, own_u_len]; omega
theorem own_uf_cons (c : Int32) (cs : List Int32) (i : Nat) : own_uf (c :: cs) (i + 1) = .int (own_lo c) :: .int (own_hi c) :: own_uf cs i := by simp [own_uf, own_u]
theorem own_uf_set : ∀ (cs : List Int32) (i : Nat), i < cs.length → ((own_uf cs i).set (2 * i) (.int (own_lo (cs.getD i 0)))).set (2 * i + 1) (.int (own_hi (cs.getD i 0))) = own_uf cs (i + 1)
  | [], _, h => by simp at h
  | c :: cs, 0, _ => by
    rw [own_uf_cons, own_uf0, own_uf0, show 2 * (c :: cs).length = 2 * cs.length + 1 + 1 by simp; omega]
    simp [List.replicate_succ]
  | c :: cs, i + 1, h => by
    have q := own_uf_set cs i (by simpa using h)
    rw [own_uf_cons, own_uf_cons, ← q, show 2 * (i + 1) = 2 * i + 1 + 1 by omega]
    simp
theorem own_shl1 {i : Nat} (h : i < 1073741824) : Int32.ofNat i <<< ((1 : Int32) &&& 31) = Int32.ofNat (2 * i) := by
  apply own_eqi
  have h1 := c_ishl (Int32.ofNat i) 1 1 (by decide)
  have h2 := rng32 (Int32.ofNat i <<< ((1 : Int32) &&& 31))
  rw [own_on (by omega)] at h1
  rw [own_on (by omega)]
  omega
theorem own_shr1 {i : Nat} (h : i < 1073741824) : Int32.ofNat (2 * i) >>> ((1 : Int32) &&& 31) = Int32.ofNat i := by
  apply own_eqi
  rw [c_ishr (Int32.ofNat (2 * i)) 1 1 (by decide), own_on (by omega), own_on (by omega)]
  omega
theorem own_gc {c : Int32} (h : own_d c) : nar .char ((((own_lo c &&& 255) <<< ((0 : Int32) &&& 31)) ||| ((own_hi c &&& 255) <<< ((8 : Int32) &&& 31))).toUInt32.toUInt16.toUInt32.toInt32) = c := by
  have h1 := own_di h
  have a1 := c_ishr c 0 0 (by decide)
  have a2 := c_i2b (c >>> ((0 : Int32) &&& 31))
  have a3 := own_m255 (own_lo c)
  have a4 := c_ishl (own_lo c &&& 255) 0 0 (by decide)
  have a5 := rng32 ((own_lo c &&& 255) <<< ((0 : Int32) &&& 31))
  have b1 := c_ishr c 8 8 (by decide)
  have b2 := c_i2b (c >>> ((8 : Int32) &&& 31))
  have b3 := own_m255 (own_hi c)
  have b4 := c_ishl (own_hi c &&& 255) 8 8 (by decide)
  have b5 := rng32 ((own_hi c &&& 255) <<< ((8 : Int32) &&& 31))
  have ea : (own_lo c).toInt = ((c >>> ((0 : Int32) &&& 31)).toInt8.toInt32).toInt := rfl
  have eb : (own_hi c).toInt = ((c >>> ((8 : Int32) &&& 31)).toInt8.toInt32).toInt := rfl
  have p8 : ((2 ^ 8 : Nat) : Int) = 256 := rfl
  have p0 : ((2 ^ 0 : Nat) : Int) = 1 := rfl
  rw [p0] at a1 a4
  rw [p8] at b1 b4
  have ha : ((own_lo c &&& 255) <<< ((0 : Int32) &&& 31)).toInt = c.toInt % 256 := by omega
  have hb : ((own_hi c &&& 255) <<< ((8 : Int32) &&& 31)).toInt = (c.toInt / 256) * 256 := by omega
  have d1 := c_or' ((own_lo c &&& 255) <<< ((0 : Int32) &&& 31)) ((own_hi c &&& 255) <<< ((8 : Int32) &&& 31)) 8 (by decide) 256 rfl (by omega) (by omega) (by omega)
  have d2 := rng32 (((own_lo c &&& 255) <<< ((0 : Int32) &&& 31)) ||| ((own_hi c &&& 255) <<< ((8 : Int32) &&& 31)))
  have d3 : (((own_lo c &&& 255) <<< ((0 : Int32) &&& 31)) ||| ((own_hi c &&& 255) <<< ((8 : Int32) &&& 31))) = c := own_eqi (by omega)
  rw [d3]
  have e2 := c_i2c c
  have e3 : c.toUInt32.toUInt16.toUInt32.toInt32 = c := own_eqi (by omega)
  rw [e3]
  exact own_nd h
theorem own_cfau {n : Nat} (h0 : 0 < n) (h : n < 1073741824) : nar .byte (((Int32.ofNat n - Int32.ofNat (2 * n)).toUInt32 >>> ((31 : Int32) &&& 31).toUInt32).toInt32.toInt8.toInt32) = 1 := by
  have h1 := c_isub (Int32.ofNat n) (Int32.ofNat (2 * n))
  have h2 := rng32 (Int32.ofNat n - Int32.ofNat (2 * n))
  rw [own_on (by omega), own_on (by omega)] at h1
  have h3 := c_iushr (Int32.ofNat n - Int32.ofNat (2 * n)) 31 31 (by decide) (by decide)
  have p : ((2 ^ 31 : Nat) : Int) = 2147483648 := rfl
  rw [p] at h3
  have h4 : ((Int32.ofNat n - Int32.ofNat (2 * n)).toUInt32 >>> ((31 : Int32) &&& 31).toUInt32).toInt32 = 1 := own_eqi (by
    have e : (1 : Int32).toInt = 1 := rfl
    omega)
  rw [h4]
  decide
def StrA (Z : State) (h : Heap) (a : Addr) (cl : List Int32) : Prop := Exa Z h a "java/lang/String" ∧ ∃ v q, Fld Z h a "java/lang/String" "value" "[B" (.ref v) ∧
  ((own_L cl ∧ Fld Z h a "java/lang/String" "coder" "B" (.int 0) ∧ Arv Z h v q .byte (Int32.ofNat cl.length) (cl.map own_by) (.int 0)) ∨
   (own_D cl ∧ cl ≠ [] ∧ Fld Z h a "java/lang/String" "coder" "B" (.int 1) ∧ Arv Z h v q .byte (Int32.ofNat (2 * cl.length)) (own_u cl) (.int 0)))
theorem StrA.ext {Z : State} {h h' : Heap} {a : Addr} {cl : List Int32} (S : StrA Z h a cl) (E : Ext h h') : StrA Z h' a cl := by
  obtain ⟨x, v, q, V, r⟩ := S
  refine ⟨x.ext E, v, q, V.ext E, ?_⟩
  rcases r with ⟨r1, r2, r3⟩ | ⟨r1, r2, r3, r4⟩
  · exact Or.inl ⟨r1, r2.ext E, r3.ext E⟩
  · exact Or.inr ⟨r1, r2, r3.ext E, r4.ext E⟩
theorem StrA.lt {Z : State} {h : Heap} {a : Addr} {cl : List Int32} (S : StrA Z h a cl) : a < h.size := S.1.lt
theorem own_rem5 (x : Int32) : ∃ j : Nat, j < 5 ∧ (x &&& (2147483647 : Int32)) % (5 : Int32) = Int32.ofNat j := by
  have h1 : (x &&& (2147483647 : Int32)).toInt = x.toInt % 2147483648 := c_mask x 2147483647 31 (by decide) (by decide)
  have h2 := (c_irem (x &&& (2147483647 : Int32)) 5 5 rfl).1 (by omega)
  refine ⟨((x &&& (2147483647 : Int32)) % (5 : Int32)).toInt.toNat, by omega, own_eqi ?_⟩
  rw [own_on (by omega)]
  omega
theorem own_di2c (x : Int32) : own_d (x.toUInt32.toUInt16.toUInt32.toInt32) := by
  have h := c_i2c x
  exact own_id (by omega) (by omega)
theorem own_Dn : own_D [] := fun c h => by cases h
theorem own_Dc {c : Int32} {cs : List Int32} (h : own_d c) (hs : own_D cs) : own_D (c :: cs) := fun d hd => by
  rcases List.mem_cons.mp hd with rfl | q
  · exact h
  · exact hs d q
def own_t (c : Int32) : Bool := (!decide (c < 48) && !decide (57 < c)) || (!decide (c < 65) && !decide (90 < c)) || (!decide (c < 97) && !decide (122 < c)) || decide (c = 33) || decide (c = 35) || decide (c = 36) || decide (c = 37) || decide (c = 38) || decide (c = 39) || decide (c = 42) || decide (c = 43) || decide (c = 46) || decide (c = 94) || decide (c = 95) || decide (c = 96) || decide (c = 124) || decide (c = 126) || decide (c = 45)
def own_tok : List Value := [(.int (0 : Int32)), (.int (0 : Int32)), (.int (0 : Int32)), (.int (0 : Int32)), (.int (0 : Int32)), (.int (0 : Int32)), (.int (0 : Int32)), (.int (0 : Int32)), (.int (0 : Int32)), (.int (0 : Int32)), (.int (0 : Int32)), (.int (0 : Int32)), (.int (0 : Int32)), (.int (0 : Int32)), (.int (0 : Int32)), (.int (0 : Int32)), (.int (0 : Int32)), (.int (0 : Int32)), (.int (0 : Int32)), (.int (0 : Int32)), (.int (0 : Int32)), (.int (0 : Int32)), (.int (0 : Int32)), (.int (0 : Int32)), (.int (0 : Int32)), (.int (0 : Int32)), (.int (0 : Int32)), (.int (0 : Int32)), (.int (0 : Int32)), (.int (0 : Int32)), (.int (0 : Int32)), (.int (0 : Int32)), (.int (0 : Int32)), (.int (1 : Int32)), (.int (0 : Int32)), (.int (1 : Int32)), (.int (1 : Int32)), (.int (1 : Int32)), (.int (1 : Int32)), (.int (1 : Int32)), (.int (0 : Int32)), (.int (0 : Int32)), (.int (1 : Int32)), (.int (1 : Int32)), (.int (0 : Int32)), (.int (1 : Int32)), (.int (1 : Int32)), (.int (0 : Int32)), (.int (1 : Int32)), (.int (1 : Int32)), (.int (1 : Int32)), (.int (1 : Int32)), (.int (1 : Int32)), (.int (1 : Int32)), (.int (1 : Int32)), (.int (1 : Int32)), (.int (1 : Int32)), (.int (1 : Int32)), (.int (0 : Int32)), (.int (0 : Int32)), (.int (0 : Int32)), (.int (0 : Int32)), (.int (0 : Int32)), (.int (0 : Int32)), (.int (0 : Int32)), (.int (1 : Int32)), (.int (1 : Int32)), (.int (1 : Int32)), (.int (1 : Int32)), (.int (1 : Int32)), (.int (1 : Int32)), (.int (1 : Int32)), (.int (1 : Int32)), (.int (1 : Int32)), (.int (1 : Int32)), (.int (1 : Int32)), (.int (1 : Int32)), (.int (1 : Int32)), (.int (1 : Int32)), (.int (1 : Int32)), (.int (1 : Int32)), (.int (1 : Int32)), (.int (1 : Int32)), (.int (1 : Int32)), (.int (1 : Int32)), (.int (1 : Int32)), (.int (1 : Int32)), (.int (1 : Int32)), (.int (1 : Int32)), (.int (1 : Int32)), (.int (1 : Int32)), (.int (0 : Int32)), (.int (0 : Int32)), (.int (0 : Int32)), (.int (1 : Int32)), (.int (1 : Int32)), (.int (1 : Int32)), (.int (1 : Int32)), (.int (1 : Int32)), (.int (1 : Int32)), (.int (1 : Int32)), (.int (1 : Int32)), (.int (1 : Int32)), (.int (1 : Int32)), (.int (1 : Int32)), (.int (1 : Int32)), (.int (1 : Int32)), (.int (1 : Int32)), (.int (1 : Int32)), (.int (1 : Int32)), (.int (1 : Int32)), (.int (1 : Int32)), (.int (1 : Int32)), (.int (1 : Int32)), (.int (1 : Int32)), (.int (1 : Int32)), (.int (1 : Int32)), (.int (1 : Int32)), (.int (1 : Int32)), (.int (1 : Int32)), (.int (1 : Int32)), (.int (1 : Int32)), (.int (1 : Int32)), (.int (0 : Int32)), (.int (1 : Int32)), (.int (0 : Int32)), (.int (1 : Int32)), (.int (0 : Int32))]
theorem own_tok_ok : ∀ i : Fin 128, own_tok.getD i.val (.int 0) = .int (own_bi (own_t (Int32.ofNat i.val))) := by decide +kernel
theorem own_tok_get {c : Int32} (h1 : ¬ c < 0) (h2 : c < 128) : own_tok.getD c.toNatClampNeg (.int 0) = .int (own_bi (own_t c)) := by
  rw [Int32.lt_iff_toInt_lt] at h1 h2
  have e1 : (0 : Int32).toInt = 0 := rfl
  have e2 : (128 : Int32).toInt = 128 := rfl
  have e3 : c = Int32.ofNat c.toInt.toNat := own_eqi (by rw [own_on (by omega)]; omega)
  have q := own_tok_ok ⟨c.toInt.toNat, by omega⟩
  rw [e3, own_clamp (by omega)]
  exact q
theorem own_t_hi {c : Int32} (h : ¬ c < 128) : own_t c = false := by
  rw [Int32.lt_iff_toInt_lt] at h
  have e2 : (128 : Int32).toInt = 128 := rfl
  have ne : ∀ k : Int32, k.toInt < 128 → ¬ c = k := fun k hk q => by subst q; omega
  have gt : ∀ k : Int32, k.toInt < 128 → k < c := fun k hk => by rw [Int32.lt_iff_toInt_lt]; omega
  simp [own_t, gt 57 (by decide), gt 90 (by decide), gt 122 (by decide), ne 33 (by decide), ne 35 (by decide), ne 36 (by decide), ne 37 (by decide), ne 38 (by decide), ne 39 (by decide), ne 42 (by decide), ne 43 (by decide), ne 46 (by decide), ne 94 (by decide), ne 95 (by decide), ne 96 (by decide), ne 124 (by decide), ne 126 (by decide), ne 45 (by decide)]
def own_all (cl : List Int32) : Bool := !cl.isEmpty && cl.all own_t
theorem own_all_t {cl : List Int32} (h : ∀ j, j < cl.length → own_t (cl.getD j 0) = true) : cl.all own_t = true := by
  rw [List.all_eq_true]
  intro c hc
  obtain ⟨j, hj, e⟩ := List.getElem_of_mem hc
  have := h j hj
  simpa [hj, e] using this
theorem own_all_f {cl : List Int32} {j : Nat} (hj : j < cl.length) (h : own_t (cl.getD j 0) = false) : cl.all own_t = false := by
  rw [List.all_eq_false]
  exact ⟨cl[j], List.getElem_mem hj, by simpa [hj] using h⟩
theorem own_or {args : Array Value} {s : State} {idx : List Nat} {a b : Cond} (h : (Cond.or a b).value args s none s idx = some true) (ha : a.value args s none s idx = some false) : b.value args s none s idx = some true := by
  simp only [Cond.value, ha] at h
  cases hb : b.value args s none s idx with
  | none => simp [hb] at h
  | some x => simp [hb] at h; rw [h]
theorem own_elx {args : Array Value} {s : State} {C n d : String} {i : Nat} {v : Int32} (hi : i < 128) (h : (Cond.eq (.elem (.static C n d) (.index 0)) (.int v)).value args s none s [i] = some true) : (Term.elem (.static C n d) (.int (Int32.ofNat i))).eval args s none [] s = some (.int v) := by
  have e : (Term.elem (.static C n d) (.index 0)).eval args s none [i] s = (Term.elem (.static C n d) (.int (Int32.ofNat i))).eval args s none [] s := by
    simp [Term.eval]
  simp only [Cond.value] at h
  rw [e, show (Term.int v).eval args s none [i] s = some (.int v) from rfl] at h
  cases hv : (Term.elem (.static C n d) (.int (Int32.ofNat i))).eval args s none [] s with
  | none => simp [hv] at h
  | some x =>
    cases x with
    | int y => simp [hv] at h; rw [h]
    | _ => simp [hv] at h
theorem own_le {args : Array Value} {s : State} {k : Int32} {i : Nat} : (Cond.le (.int k) (.index 0)).value args s none s [i] = some (decide (k ≤ Int32.ofNat i)) := by simp [Cond.value, Term.eval]
theorem own_ltx {args : Array Value} {s : State} {k : Int32} {i : Nat} : (Cond.lt (.index 0) (.int k)).value args s none s [i] = some (decide (Int32.ofNat i < k)) := by simp [Cond.value, Term.eval]
theorem own_wS {Z : State} {a0 : Array Value} (hw : ∀ d ∈ tables_1, d.before a0 Z = true) : ∀ a ∈ Bundle.stringAtoms, a.before a0 Z = true := by
  intro a ha
  simp only [Bundle.stringAtoms, List.mem_cons, List.not_mem_nil, or_false] at ha
  rcases ha with rfl | rfl | rfl | rfl | rfl | rfl | rfl
  · exact (w8 hw)
  · exact (w7 hw)
  · exact (w21 hw)
  · exact (w22 hw)
  · exact (w23 hw)
  · exact (w24 hw)
  · exact (w25 hw)
theorem ef_s_cod (m : MethodId) (x0 : Addr) : entryFrame m #[(.ref x0)] 1 = mkF m 0 #[.val (.ref x0)] [] := by first | (simp [entryFrame, mkF, argsToLocals, Value.category]; done) | rfl
abbrev b_s_cod : Bdy := ((⟨"java/lang/String", "coder", "()B"⟩ : MethodName), jdk_42_method_152_code, 1, (Option.some Jvm.ClassFile.FieldType.byte), ({ frames := 0, cells := 0, slots := 0, locals := 0 } : Room))
def Q_s_cod (Z : State) (N : Nat) (a : Addr) (cs : Int32) (h0 : Heap) (I : Lts) (v : Option Value) (h : Heap) (J : Lts) : Prop := I = J ∧ v = some (.int (0 : Int32)) ∧ h0 = h
set_option maxRecDepth 65536 in
set_option maxHeartbeats 40000000 in
theorem rm_s_cod {l : Launch} {Z : State} {a0 : Array Value} {N : Nat} (hw : ∀ d ∈ tables_1, d.before a0 Z = true) (a : Addr) (cs : Int32) (h0 : Heap) (I : Lts) (P0 : Sta Z Z.heap "java/lang/String" "COMPACT_STRINGS" "Z" (.int cs)) (G_cs : ¬ cs = (0 : Int32)) (P2 : Fld Z h0 a "java/lang/String" "coder" "B" (.int (0 : Int32))) :
    Cn l Z N b_s_cod #[(.ref a)] h0 I (Q_s_cod Z N a cs h0 I) := by
  refine Cn.of_wk (Ls := #[.val (.ref a)]) (plainFor_of_name (by first | (simp [plainName, overriddenIn]; done) | decide +kernel)) (fun m => ef_s_cod m a) ?_
  refine Wk.getS (a0 := a0) (pc' := 3) (host := "") (Or.inl (w40 hw)) Via.refl P0 d14_0 rfl ?_
  refine Wk.if_eqN (pc' := 6) d14_3 rfl G_cs ?_
  refine Wk.aloadN (pc' := 7) d14_6 rfl rfl rfl ?_
  refine Wk.getF (a0 := a0) (pc' := 10) (host := "") (Or.inl (w27 hw)) Via.refl P2 d14_7 rfl ?_
  refine Wk.goto (pc' := 14) d14_10 (by decide) ?_
  exact Wk.zreturn rfl (by simp) d14_14 (Nat.le_of_ble_eq_true rfl) (Nat.le_of_ble_eq_true rfl) ⟨rfl, rfl, rfl⟩
theorem ef_s_len (m : MethodId) (x0 : Addr) : entryFrame m #[(.ref x0)] 1 = mkF m 0 #[.val (.ref x0)] [] := by first | (simp [entryFrame, mkF, argsToLocals, Value.category]; done) | rfl
abbrev b_s_len : Bdy := ((⟨"java/lang/String", "length", "()I"⟩ : MethodName), jdk_42_method_54_code, 1, (Option.some Jvm.ClassFile.FieldType.int), ({ frames := 1, cells := 0, slots := 0, locals := 13 } : Room))
def Q_s_len (Z : State) (N : Nat) (a : Addr) (v' : Addr) (q : ClassId) (cl : List Int32) (cs : Int32) (h0 : Heap) (I : Lts) (v : Option Value) (h : Heap) (J : Lts) : Prop := I = J ∧ v = some (.int (Int32.ofNat cl.length)) ∧ h0 = h
set_option maxRecDepth 65536 in
set_option maxHeartbeats 40000000 in
theorem rm_s_len {l : Launch} {Z : State} {a0 : Array Value} {N : Nat} (hw : ∀ d ∈ tables_1, d.before a0 Z = true) (a : Addr) (v' : Addr) (q : ClassId) (cl : List Int32) (cs : Int32) (h0 : Heap) (I : Lts) (P0 : Sta Z Z.heap "java/lang/String" "COMPACT_STRINGS" "Z" (.int cs)) (G_cs : ¬ cs = (0 : Int32)) (P2 : Exa Z h0 a "java/lang/String") (P3 : Fld Z h0 a "java/lang/String" "value" "[B" (.ref v')) (P4 : Fld Z h0 a "java/lang/String" "coder" "B" (.int (0 : Int32))) (P5 : Arv Z h0 v' q .byte (Int32.ofNat cl.length) (cl.map own_by) (.int (0 : Int32))) :
    Cn l Z N b_s_len #[(.ref a)] h0 I (Q_s_len Z N a v' q cl cs h0 I) := by
  refine Cn.of_wk (Ls := #[.val (.ref a)]) (plainFor_of_name (by first | (simp [plainName, overriddenIn]; done) | decide +kernel)) (fun m => ef_s_len m a) ?_
  refine Wk.aloadN (pc' := 1) d13_0 rfl rfl rfl ?_
  refine Wk.getF (a0 := a0) (pc' := 4) (host := "") (Or.inl (w26 hw)) Via.refl P3 d13_1 rfl ?_
  refine Wk.arraylength (pc' := 5) P5 d13_4 rfl ?_
  refine Wk.aloadN (pc' := 6) d13_5 rfl rfl rfl ?_
  refine Wk.callV (a0 := a0) (pc' := 9) (k' := 0) (n' := 0) (W := 1) (b := b_s_cod) (argsL := []) (rest := [(.int (Int32.ofNat cl.length))]) (y := (⟨"java/lang/String", "coder", "()B"⟩ : MethodName)) (rm_s_cod hw a cs h0 I P0 G_cs P4) P2 (w65 hw) (w66 hw) (w68 hw) (w68 hw) (w67 hw) (w8 hw) (w69 hw) (by decide) (Nat.le_refl _) id (Nat.le_of_ble_eq_true rfl) (Nat.le_of_ble_eq_true rfl) rfl rfl (Nat.le_of_ble_eq_true rfl) (Nat.le_of_ble_eq_true rfl) rfl pd0 rfl rfl rfl (Nat.le_of_ble_eq_true rfl) d13_6 rfl fun v1 h2 J3 hs4 hQ5 => ?_
  obtain ⟨rfl, rfl, rfl⟩ := hQ5
  show Wk _ h0 0 0 I 9 #[.val (.ref a)] [(.int (0 : Int32)), (.int (Int32.ofNat cl.length))]
  refine Wk.ishr (pc' := 10) d13_9 rfl ?_
  exact Wk.ireturn rfl d13_10 (Nat.le_of_ble_eq_true rfl) (Nat.le_of_ble_eq_true rfl) ⟨rfl, (by rw [own_shr0]), rfl⟩
theorem ef_s_emp (m : MethodId) (x0 : Addr) : entryFrame m #[(.ref x0)] 1 = mkF m 0 #[.val (.ref x0)] [] := by first | (simp [entryFrame, mkF, argsToLocals, Value.category]; done) | rfl
abbrev b_s_emp : Bdy := ((⟨"java/lang/String", "isEmpty", "()Z"⟩ : MethodName), jdk_42_method_55_code, 1, (Option.some Jvm.ClassFile.FieldType.boolean), ({ frames := 0, cells := 0, slots := 0, locals := 0 } : Room))
def Q_s_emp (Z : State) (N : Nat) (a : Addr) (v' : Addr) (q : ClassId) (cl : List Int32) (h0 : Heap) (I : Lts) (v : Option Value) (h : Heap) (J : Lts) : Prop := I = J ∧ v = some (.int (own_bi (decide (cl = [])))) ∧ h0 = h
set_option maxRecDepth 65536 in
set_option maxHeartbeats 40000000 in
theorem rm_s_emp {l : Launch} {Z : State} {a0 : Array Value} {N : Nat} (hw : ∀ d ∈ tables_1, d.before a0 Z = true) (a : Addr) (v' : Addr) (q : ClassId) (cl : List Int32) (h0 : Heap) (I : Lts) (P0 : Exa Z h0 a "java/lang/String") (P1 : Fld Z h0 a "java/lang/String" "value" "[B" (.ref v')) (P2 : Fld Z h0 a "java/lang/String" "coder" "B" (.int (0 : Int32))) (P3 : Arv Z h0 v' q .byte (Int32.ofNat cl.length) (cl.map own_by) (.int (0 : Int32))) (hn : cl.length < 2147483648) :
    Cn l Z N b_s_emp #[(.ref a)] h0 I (Q_s_emp Z N a v' q cl h0 I) := by
  refine Cn.of_wk (Ls := #[.val (.ref a)]) (plainFor_of_name (by first | (simp [plainName, overriddenIn]; done) | decide +kernel)) (fun m => ef_s_emp m a) ?_
  by_cases he : cl = []
  · skip
    refine Wk.aloadN (pc' := 1) d6_0 rfl rfl rfl ?_
    refine Wk.getF (a0 := a0) (pc' := 4) (host := "") (Or.inl (w26 hw)) Via.refl P1 d6_1 rfl ?_
    refine Wk.arraylength (pc' := 5) P3 d6_4 rfl ?_
    refine Wk.if_neN (pc' := 8) d6_5 rfl (by rw [he]; rfl) ?_
    refine Wk.iconst (pc' := 9) (v := 1) d6_8 rfl rfl ?_
    refine Wk.goto (pc' := 13) d6_9 (by decide) ?_
    exact Wk.zreturn rfl (by simp) d6_13 (Nat.le_of_ble_eq_true rfl) (Nat.le_of_ble_eq_true rfl) ⟨rfl, (by simp [he] <;> rfl), rfl⟩
  · skip
    refine Wk.aloadN (pc' := 1) d6_0 rfl rfl rfl ?_
    refine Wk.getF (a0 := a0) (pc' := 4) (host := "") (Or.inl (w26 hw)) Via.refl P1 d6_1 rfl ?_
    refine Wk.arraylength (pc' := 5) P3 d6_4 rfl ?_
    refine Wk.if_neY (pc' := 12) d6_5 (by decide) (fun q => he (List.length_eq_zero_iff.mp ((own_eq (j := 0) hn (by decide)).mp q))) ?_
    refine Wk.iconst (pc' := 13) (v := 0) d6_12 rfl rfl ?_
    exact Wk.zreturn rfl (by simp) d6_13 (Nat.le_of_ble_eq_true rfl) (Nat.le_of_ble_eq_true rfl) ⟨rfl, (by simp [he] <;> rfl), rfl⟩
theorem ef_s_lat (m : MethodId) (x0 : Addr) : entryFrame m #[(.ref x0)] 1 = mkF m 0 #[.val (.ref x0)] [] := by first | (simp [entryFrame, mkF, argsToLocals, Value.category]; done) | rfl
abbrev b_s_lat : Bdy := ((⟨"java/lang/String", "isLatin1", "()Z"⟩ : MethodName), jdk_42_method_154_code, 1, (Option.some Jvm.ClassFile.FieldType.boolean), ({ frames := 0, cells := 0, slots := 0, locals := 0 } : Room))
def Q_s_lat (Z : State) (N : Nat) (a : Addr) (cs : Int32) (h0 : Heap) (I : Lts) (v : Option Value) (h : Heap) (J : Lts) : Prop := I = J ∧ v = some (.int (1 : Int32)) ∧ h0 = h
set_option maxRecDepth 65536 in
set_option maxHeartbeats 40000000 in
theorem rm_s_lat {l : Launch} {Z : State} {a0 : Array Value} {N : Nat} (hw : ∀ d ∈ tables_1, d.before a0 Z = true) (a : Addr) (cs : Int32) (h0 : Heap) (I : Lts) (P0 : Sta Z Z.heap "java/lang/String" "COMPACT_STRINGS" "Z" (.int cs)) (G_cs : ¬ cs = (0 : Int32)) (P2 : Fld Z h0 a "java/lang/String" "coder" "B" (.int (0 : Int32))) :
    Cn l Z N b_s_lat #[(.ref a)] h0 I (Q_s_lat Z N a cs h0 I) := by
  refine Cn.of_wk (Ls := #[.val (.ref a)]) (plainFor_of_name (by first | (simp [plainName, overriddenIn]; done) | decide +kernel)) (fun m => ef_s_lat m a) ?_
  refine Wk.getS (a0 := a0) (pc' := 3) (host := "") (Or.inl (w40 hw)) Via.refl P0 d16_0 rfl ?_
  refine Wk.if_eqN (pc' := 6) d16_3 rfl G_cs ?_
  refine Wk.aloadN (pc' := 7) d16_6 rfl rfl rfl ?_
  refine Wk.getF (a0 := a0) (pc' := 10) (host := "") (Or.inl (w27 hw)) Via.refl P2 d16_7 rfl ?_
  refine Wk.if_neN (pc' := 13) d16_10 rfl rfl ?_
  refine Wk.iconst (pc' := 14) (v := 1) d16_13 rfl rfl ?_
  refine Wk.goto (pc' := 18) d16_14 (by decide) ?_
  exact Wk.zreturn rfl (by simp) d16_18 (Nat.le_of_ble_eq_true rfl) (Nat.le_of_ble_eq_true rfl) ⟨rfl, rfl, rfl⟩
theorem ef_s_chk (m : MethodId) (x0 : Int32) (x1 : Int32) (x2 : Value) (r2 : x2.isRef = true) : entryFrame m #[(.int x0), (.int x1), x2] 3 = mkF m 0 #[.val (.int x0), .val (.int x1), .val x2] [] := by
  cases x2 <;> first | (simp [Value.isRef] at r2; done) | (simp [entryFrame, mkF, argsToLocals, Value.category]; done) | rfl
abbrev b_s_chk : Bdy := ((⟨"jdk/internal/util/Preconditions", "checkIndex", "(IILjava/util/function/BiFunction;)I"⟩ : MethodName), jdk_41_method_11_code, 3, (Option.some Jvm.ClassFile.FieldType.int), ({ frames := 0, cells := 0, slots := 0, locals := 0 } : Room))
def Q_s_chk (Z : State) (N : Nat) (i : Int32) (n : Int32) (sf : Value) (h0 : Heap) (I : Lts) (v : Option Value) (h : Heap) (J : Lts) : Prop := I = J ∧ v = some (.int i) ∧ h0 = h
set_option maxRecDepth 65536 in
set_option maxHeartbeats 40000000 in
theorem rm_s_chk {l : Launch} {Z : State} {a0 : Array Value} {N : Nat} (hw : ∀ d ∈ tables_1, d.before a0 Z = true) (i : Int32) (n : Int32) (sf : Value) (h0 : Heap) (I : Lts) (G_sf : sf.isRef = true) (h1 : ¬ i < (0 : Int32)) (h2 : i < n) :
    Cn l Z N b_s_chk #[(.int i), (.int n), sf] h0 I (Q_s_chk Z N i n sf h0 I) := by
  refine Cn.of_wk (Ls := #[.val (.int i), .val (.int n), .val sf]) (plainFor_of_name (by first | (simp [plainName, overriddenIn]; done) | decide +kernel)) (fun m => ef_s_chk m i n sf G_sf) ?_
  refine Wk.iloadN (pc' := 1) d19_0 rfl rfl ?_
  refine Wk.if_ltN (pc' := 4) d19_1 rfl h1 ?_
  refine Wk.iloadN (pc' := 5) d19_4 rfl rfl ?_
  refine Wk.iloadN (pc' := 6) d19_5 rfl rfl ?_
  refine Wk.icmp_ltY (pc' := 16) d19_6 (by decide) h2 ?_
  refine Wk.iloadN (pc' := 17) d19_16 rfl rfl ?_
  exact Wk.ireturn rfl d19_17 (Nat.le_of_ble_eq_true rfl) (Nat.le_of_ble_eq_true rfl) ⟨rfl, rfl, rfl⟩
theorem ef_s_chk2 (m : MethodId) (x0 : Int32) (x1 : Int32) : entryFrame m #[(.int x0), (.int x1)] 2 = mkF m 0 #[.val (.int x0), .val (.int x1)] [] := by first | (simp [entryFrame, mkF, argsToLocals, Value.category]; done) | rfl
abbrev b_s_chk2 : Bdy := ((⟨"java/lang/String", "checkIndex", "(II)V"⟩ : MethodName), jdk_42_method_155_code, 2, (Option.none : Option Jvm.ClassFile.FieldType), ({ frames := 1, cells := 0, slots := 0, locals := 14 } : Room))
def Q_s_chk2 (Z : State) (N : Nat) (i : Int32) (n : Int32) (sf : Value) (h0 : Heap) (I : Lts) (v : Option Value) (h : Heap) (J : Lts) : Prop := I = J ∧ v = none ∧ h0 = h
set_option maxRecDepth 65536 in
set_option maxHeartbeats 40000000 in
theorem rm_s_chk2 {l : Launch} {Z : State} {a0 : Array Value} {N : Nat} (hw : ∀ d ∈ tables_1, d.before a0 Z = true) (i : Int32) (n : Int32) (sf : Value) (h0 : Heap) (I : Lts) (P0 : Sta Z Z.heap "jdk/internal/util/Preconditions" "SIOOBE_FORMATTER" "Ljava/util/function/BiFunction;" sf) (G_sf : sf.isRef = true) (h1 : ¬ i < (0 : Int32)) (h2 : i < n) :
    Cn l Z N b_s_chk2 #[(.int i), (.int n)] h0 I (Q_s_chk2 Z N i n sf h0 I) := by
  refine Cn.of_wk (Ls := #[.val (.int i), .val (.int n)]) (plainFor_of_name (by first | (simp [plainName, overriddenIn]; done) | decide +kernel)) (fun m => ef_s_chk2 m i n) ?_
  refine Wk.iloadN (pc' := 1) d18_0 rfl rfl ?_
  refine Wk.iloadN (pc' := 2) d18_1 rfl rfl ?_
  refine Wk.getS (a0 := a0) (pc' := 5) (host := "") (Or.inl (w86 hw)) Via.refl P0 d18_2 rfl ?_
  refine Wk.callS (a0 := a0) (pc' := 8) (k' := 0) (n' := 0) (W := 0) (b := b_s_chk) (argsL := [(.int i), (.int n), sf]) (rest := []) (rm_s_chk hw i n sf h0 I G_sf h1 h2) (w88 hw) (w89 hw) (w87 hw) (w90 hw) (by decide) (Nat.le_refl _) id (Nat.le_of_ble_eq_true rfl) (Nat.le_of_ble_eq_true rfl) rfl rfl (Nat.le_of_ble_eq_true rfl) (Nat.le_of_ble_eq_true rfl) rfl pd1 rfl rfl rfl (Nat.le_of_ble_eq_true rfl) d18_5 rfl fun v1 h2 J3 hs4 hQ5 => ?_
  obtain ⟨rfl, rfl, rfl⟩ := hQ5
  show Wk _ h0 0 0 I 8 #[.val (.int i), .val (.int n)] [(.int i)]
  refine Wk.pop (pc' := 9) d18_8 rfl rfl ?_
  exact Wk.return_ rfl d18_9 (Nat.le_of_ble_eq_true rfl) (Nat.le_of_ble_eq_true rfl) ⟨rfl, rfl, rfl⟩
theorem ef_s_cha (m : MethodId) (x0 : Addr) (x1 : Int32) : entryFrame m #[(.ref x0), (.int x1)] 2 = mkF m 0 #[.val (.ref x0), .val (.int x1)] [] := by first | (simp [entryFrame, mkF, argsToLocals, Value.category]; done) | rfl
abbrev b_s_cha : Bdy := ((⟨"java/lang/StringLatin1", "charAt", "([BI)C"⟩ : MethodName), jdk_43_method_2_code, 2, (Option.some Jvm.ClassFile.FieldType.char), ({ frames := 2, cells := 0, slots := 0, locals := 27 } : Room))
def Q_s_cha (Z : State) (N : Nat) (v' : Addr) (q : ClassId) (cl : List Int32) (i : Nat) (sf : Value) (h0 : Heap) (I : Lts) (v : Option Value) (h : Heap) (J : Lts) : Prop := I = J ∧ v = some (.int (cl.getD i 0)) ∧ h0 = h
set_option maxRecDepth 65536 in
set_option maxHeartbeats 40000000 in
theorem rm_s_cha {l : Launch} {Z : State} {a0 : Array Value} {N : Nat} (hw : ∀ d ∈ tables_1, d.before a0 Z = true) (v' : Addr) (q : ClassId) (cl : List Int32) (i : Nat) (sf : Value) (h0 : Heap) (I : Lts) (P0 : Sta Z Z.heap "jdk/internal/util/Preconditions" "SIOOBE_FORMATTER" "Ljava/util/function/BiFunction;" sf) (G_sf : sf.isRef = true) (P2 : Arv Z h0 v' q .byte (Int32.ofNat cl.length) (cl.map own_by) (.int (0 : Int32))) (hi : i < cl.length) (hn : cl.length < 2147483648) (hL : own_L cl) :
    Cn l Z N b_s_cha #[(.ref v'), (.int (Int32.ofNat i))] h0 I (Q_s_cha Z N v' q cl i sf h0 I) := by
  refine Cn.of_wk (Ls := #[.val (.ref v'), .val (.int (Int32.ofNat i))]) (plainFor_of_name (by first | (simp [plainName, overriddenIn]; done) | decide +kernel)) (fun m => ef_s_cha m v' (Int32.ofNat i)) ?_
  refine Wk.iloadN (pc' := 1) d17_0 rfl rfl ?_
  refine Wk.aloadN (pc' := 2) d17_1 rfl rfl rfl ?_
  refine Wk.arraylength (pc' := 3) P2 d17_2 rfl ?_
  refine Wk.callS (a0 := a0) (pc' := 6) (k' := 0) (n' := 0) (W := 0) (b := b_s_chk2) (argsL := [(.int (Int32.ofNat i)), (.int (Int32.ofNat cl.length))]) (rest := []) (rm_s_chk2 hw (Int32.ofNat i) (Int32.ofNat cl.length) sf h0 I P0 G_sf (own_idx hi hn).1 (own_idx hi hn).2) (w83 hw) (w84 hw) (w8 hw) (w85 hw) (by decide) (Nat.le_refl _) id (Nat.le_of_ble_eq_true rfl) (Nat.le_of_ble_eq_true rfl) rfl rfl (Nat.le_of_ble_eq_true rfl) (Nat.le_of_ble_eq_true rfl) rfl pd2 rfl rfl rfl (Nat.le_of_ble_eq_true rfl) d17_3 rfl fun v1 h2 J3 hs4 hQ5 => ?_
  obtain ⟨rfl, rfl, rfl⟩ := hQ5
  show Wk _ h0 0 0 I 6 #[.val (.ref v'), .val (.int (Int32.ofNat i))] []
  refine Wk.aloadN (pc' := 7) d17_6 rfl rfl rfl ?_
  refine Wk.iloadN (pc' := 8) d17_7 rfl rfl ?_
  refine Wk.baload (pc' := 9) (v := (.int (own_b8 (cl.getD i 0)))) P2 (own_idx hi hn) (by rw [own_clamp (by omega)]; exact own_getb cl i) d17_8 rfl ?_
  refine Wk.sipush (pc' := 12) (v := 255) d17_9 rfl rfl ?_
  refine Wk.iand (pc' := 13) d17_12 rfl ?_
  refine Wk.i2c (pc' := 14) d17_13 rfl ?_
  exact Wk.zreturn rfl (by simp) d17_14 (Nat.le_of_ble_eq_true rfl) (Nat.le_of_ble_eq_true rfl) ⟨rfl, (by rw [own_cb (own_Lget hL i)]), rfl⟩
theorem ef_s_chr (m : MethodId) (x0 : Addr) (x1 : Int32) : entryFrame m #[(.ref x0), (.int x1)] 2 = mkF m 0 #[.val (.ref x0), .val (.int x1)] [] := by first | (simp [entryFrame, mkF, argsToLocals, Value.category]; done) | rfl
abbrev b_s_chr : Bdy := ((⟨"java/lang/String", "charAt", "(I)C"⟩ : MethodName), jdk_42_method_56_code, 2, (Option.some Jvm.ClassFile.FieldType.char), ({ frames := 4, cells := 0, slots := 0, locals := 53 } : Room))
def Q_s_chr (Z : State) (N : Nat) (a : Addr) (v' : Addr) (q : ClassId) (cl : List Int32) (i : Nat) (sf : Value) (cs : Int32) (h0 : Heap) (I : Lts) (v : Option Value) (h : Heap) (J : Lts) : Prop := I = J ∧ v = some (.int (cl.getD i 0)) ∧ h0 = h
set_option maxRecDepth 65536 in
set_option maxHeartbeats 40000000 in
theorem rm_s_chr {l : Launch} {Z : State} {a0 : Array Value} {N : Nat} (hw : ∀ d ∈ tables_1, d.before a0 Z = true) (a : Addr) (v' : Addr) (q : ClassId) (cl : List Int32) (i : Nat) (sf : Value) (cs : Int32) (h0 : Heap) (I : Lts) (P0 : Sta Z Z.heap "java/lang/String" "COMPACT_STRINGS" "Z" (.int cs)) (G_cs : ¬ cs = (0 : Int32)) (P2 : Sta Z Z.heap "jdk/internal/util/Preconditions" "SIOOBE_FORMATTER" "Ljava/util/function/BiFunction;" sf) (G_sf : sf.isRef = true) (P4 : Exa Z h0 a "java/lang/String") (P5 : Fld Z h0 a "java/lang/String" "value" "[B" (.ref v')) (P6 : Fld Z h0 a "java/lang/String" "coder" "B" (.int (0 : Int32))) (P7 : Arv Z h0 v' q .byte (Int32.ofNat cl.length) (cl.map own_by) (.int (0 : Int32))) (hi : i < cl.length) (hn : cl.length < 2147483648) (hL : own_L cl) :
    Cn l Z N b_s_chr #[(.ref a), (.int (Int32.ofNat i))] h0 I (Q_s_chr Z N a v' q cl i sf cs h0 I) := by
  refine Cn.of_wk (Ls := #[.val (.ref a), .val (.int (Int32.ofNat i))]) (plainFor_of_name (by first | (simp [plainName, overriddenIn]; done) | decide +kernel)) (fun m => ef_s_chr m a (Int32.ofNat i)) ?_
  refine Wk.aloadN (pc' := 1) d15_0 rfl rfl rfl ?_
  refine Wk.callV (a0 := a0) (pc' := 4) (k' := 0) (n' := 0) (W := 0) (b := b_s_lat) (argsL := []) (rest := []) (y := (⟨"java/lang/String", "isLatin1", "()Z"⟩ : MethodName)) (rm_s_lat hw a cs h0 I P0 G_cs P6) P4 (w75 hw) (w76 hw) (w78 hw) (w78 hw) (w77 hw) (w8 hw) (w79 hw) (by decide) (Nat.le_refl _) id (Nat.le_of_ble_eq_true rfl) (Nat.le_of_ble_eq_true rfl) rfl rfl (Nat.le_of_ble_eq_true rfl) (Nat.le_of_ble_eq_true rfl) rfl pd3 rfl rfl rfl (Nat.le_of_ble_eq_true rfl) d15_1 rfl fun v1 h2 J3 hs4 hQ5 => ?_
  obtain ⟨rfl, rfl, rfl⟩ := hQ5
  show Wk _ h0 0 0 I 4 #[.val (.ref a), .val (.int (Int32.ofNat i))] [(.int (1 : Int32))]
  refine Wk.if_eqN (pc' := 7) d15_4 rfl (by decide) ?_
  refine Wk.aloadN (pc' := 8) d15_7 rfl rfl rfl ?_
  refine Wk.getF (a0 := a0) (pc' := 11) (host := "") (Or.inl (w26 hw)) Via.refl P5 d15_8 rfl ?_
  refine Wk.iloadN (pc' := 12) d15_11 rfl rfl ?_
  refine Wk.callS (a0 := a0) (pc' := 15) (k' := 0) (n' := 0) (W := 0) (b := b_s_cha) (argsL := [(.ref v'), (.int (Int32.ofNat i))]) (rest := []) (rm_s_cha hw v' q cl i sf h0 I P2 G_sf P7 hi hn hL) (w80 hw) (w81 hw) (w43 hw) (w82 hw) (by decide) (Nat.le_refl _) id (Nat.le_of_ble_eq_true rfl) (Nat.le_of_ble_eq_true rfl) rfl rfl (Nat.le_of_ble_eq_true rfl) (Nat.le_of_ble_eq_true rfl) rfl pd4 rfl rfl rfl (Nat.le_of_ble_eq_true rfl) d15_12 rfl fun v6 h7 J8 hs9 hQ10 => ?_
  obtain ⟨rfl, rfl, rfl⟩ := hQ10
  show Wk _ h0 0 0 I 15 #[.val (.ref a), .val (.int (Int32.ofNat i))] [(.int (cl.getD i 0))]
  exact Wk.zreturn rfl (by simp) d15_15 (Nat.le_of_ble_eq_true rfl) (Nat.le_of_ble_eq_true rfl) ⟨rfl, (by rw [own_nc (own_Lget hL i)]), rfl⟩
theorem ef_s_cm5 (m : MethodId) (x0 : Addr) (x1 : Int32) (x2 : Addr) (x3 : Int32) (x4 : Int32) : entryFrame m #[(.ref x0), (.int x1), (.ref x2), (.int x3), (.int x4)] 7 = mkF m 0 #[.val (.ref x0), .val (.int x1), .val (.ref x2), .val (.int x3), .val (.int x4), .unset, .unset] [] := by first | (simp [entryFrame, mkF, argsToLocals, Value.category]; done) | rfl
abbrev b_s_cm5 : Bdy := ((⟨"java/lang/StringUTF16", "compress", "([CI[BII)I"⟩ : MethodName), jdk_52_method_21_code, 7, (Option.some Jvm.ClassFile.FieldType.int), ({ frames := 0, cells := 0, slots := 0, locals := 0 } : Room))
def Q_s_cm5 (Z : State) (N : Nat) (c : Addr) (b : Addr) (q : ClassId) (qb : ClassId) (cl : List Int32) (h0 : Heap) (I : Lts) (v : Option Value) (h : Heap) (J : Lts) : Prop := I = J ∧ v = some (.int (Int32.ofNat cl.length)) ∧ Keep h0 h [b] ∧ Arv Z h b qb .byte (Int32.ofNat cl.length) (cl.map own_by) (.int (0 : Int32))
set_option maxRecDepth 65536 in
set_option maxHeartbeats 40000000 in
theorem rm_s_cm5 {l : Launch} {Z : State} {a0 : Array Value} {N : Nat} (hw : ∀ d ∈ tables_1, d.before a0 Z = true) (c : Addr) (b : Addr) (q : ClassId) (qb : ClassId) (cl : List Int32) (h0 : Heap) (I : Lts) (P0 : Arv Z h0 c q .char (Int32.ofNat cl.length) (cl.map Value.int) (.int (0 : Int32))) (P1 : Arv Z h0 b qb .byte (Int32.ofNat cl.length) (own_fill cl 0) (.int (0 : Int32))) (P2 : N ≤ b) (P3 : c ≠ b) (hn : cl.length < 2147483647) (hL : own_L cl) :
    Cn l Z N b_s_cm5 #[(.ref c), (.int (0 : Int32)), (.ref b), (.int (0 : Int32)), (.int (Int32.ofNat cl.length))] h0 I (Q_s_cm5 Z N c b q qb cl h0 I) := by
  refine Cn.of_wk (Ls := #[.val (.ref c), .val (.int (0 : Int32)), .val (.ref b), .val (.int (0 : Int32)), .val (.int (Int32.ofNat cl.length)), .unset, .unset]) (plainFor_of_name (by first | (simp [plainName, overriddenIn]; done) | decide +kernel)) (fun m => ef_s_cm5 m c (0 : Int32) b (0 : Int32) (Int32.ofNat cl.length)) ?_
  refine Wk.iconst (pc' := 1) (v := 0) d21_0 rfl rfl ?_
  refine Wk.istore (pc' := 3) #[.val (.ref c), .val (.int (0 : Int32)), .val (.ref b), .val (.int (0 : Int32)), .val (.int (Int32.ofNat cl.length)), .val (.int (0 : Int32)), .unset] d21_1 rfl rfl ?_
  have loop : ∀ (d : Nat) (i : Nat) (s6 : Slot) (hX1 : Heap), (Arv Z hX1 b qb .byte (Int32.ofNat cl.length) (own_fill cl i) (.int (0 : Int32))) → (i + d = cl.length) → (s6 = .unset ∨ ∃ z : Int32, s6 = .val (.int z)) → (Keep h0 hX1 [b]) → Wk (l, Z, N, h0.size, b_s_cm5, Q_s_cm5 Z N c b q qb cl h0 I) hX1 0 0 I 3 #[.val (.ref c), .val (.int (Int32.ofNat i)), .val (.ref b), .val (.int (Int32.ofNat i)), .val (.int (Int32.ofNat cl.length)), .val (.int (Int32.ofNat i)), s6] [] := by
    intro d
    induction d with
    | zero =>
      intro i s6 hX1 y2 hi hs6 K3
      refine Wk.iload (pc' := 5) d21_3 rfl rfl ?_
      refine Wk.iload (pc' := 7) d21_5 rfl rfl ?_
      refine Wk.icmp_geY (pc' := 44) d21_7 (by decide) (mt (own_lt (by omega) (by omega)).mp (by omega)) ?_
      have A4 : Arv Z hX1 b qb .byte (Int32.ofNat cl.length) (cl.map own_by) (.int (0 : Int32)) := by
        have q := y2
        rw [show i = cl.length from by omega, own_filln] at q
        exact q
      refine Wk.iload (pc' := 46) d21_44 rfl rfl ?_
      exact Wk.ireturn rfl d21_46 (Nat.le_of_ble_eq_true rfl) (Nat.le_of_ble_eq_true rfl) ⟨rfl, rfl, ((Keep.refl h0 [b]).trans K3 (allS (Or.inl (by simp)) all0)), A4⟩
    | succ d ih =>
      intro i s6 hX1 y2 hi hs6 K3
      refine Wk.iload (pc' := 5) d21_3 rfl rfl ?_
      refine Wk.iload (pc' := 7) d21_5 rfl rfl ?_
      refine Wk.icmp_geN (pc' := 10) d21_7 rfl ((own_lt (by omega) (by omega)).mpr (by omega)) ?_
      refine Wk.aloadN (pc' := 11) d21_10 rfl rfl rfl ?_
      refine Wk.iloadN (pc' := 12) d21_11 rfl rfl ?_
      have f5 := (P0.keep K3 (ninS P3 nin0))
      refine Wk.caload (pc' := 13) (v := (.int (cl.getD i 0))) f5 (own_in (by omega) (by omega)) (by rw [own_clamp (by omega)]; exact own_geti cl i) d21_12 rfl ?_
      refine Wk.istore (pc' := 15) #[.val (.ref c), .val (.int (Int32.ofNat i)), .val (.ref b), .val (.int (Int32.ofNat i)), .val (.int (Int32.ofNat cl.length)), .val (.int (Int32.ofNat i)), .val (.int (cl.getD i 0))] d21_13 rfl (by rcases hs6 with rfl | ⟨z, rfl⟩ <;> rfl) ?_
      refine Wk.iload (pc' := 17) d21_15 rfl rfl ?_
      refine Wk.sipush (pc' := 20) (v := 255) d21_17 rfl rfl ?_
      refine Wk.icmp_leY (pc' := 26) d21_20 (by decide) (own_Lget hL i).2 ?_
      refine Wk.aloadN (pc' := 27) d21_26 rfl rfl rfl ?_
      refine Wk.iloadN (pc' := 28) d21_27 rfl rfl ?_
      refine Wk.iload (pc' := 30) d21_28 rfl rfl ?_
      refine Wk.i2b (pc' := 31) d21_30 rfl ?_
      refine Wk.bastore (pc' := 32) y2 P2 (own_in (by omega) (by omega)) i (own_clamp (by omega)) (by rw [own_fill_len (by omega)]; omega) d21_31 rfl fun h6 W7 A8 => ?_
      have A9 : Arv Z h6 b qb .byte (Int32.ofNat cl.length) (own_fill cl (i + 1)) (.int (0 : Int32)) := by
        rw [← own_fill_set cl i (by omega), show own_by (cl.getD i 0) = .int (nar .byte (own_b8 (cl.getD i 0))) from by rw [own_nb]; rfl]
        exact A8
      refine Wk.iinc (pc' := 35) (v := 1) (Ls' := #[.val (.ref c), .val (.int ((Int32.ofNat i) + (1 : Int32))), .val (.ref b), .val (.int (Int32.ofNat i)), .val (.int (Int32.ofNat cl.length)), .val (.int (Int32.ofNat i)), .val (.int (cl.getD i 0))]) d21_32 rfl rfl rfl rfl ?_
      refine Wk.iinc (pc' := 38) (v := 1) (Ls' := #[.val (.ref c), .val (.int ((Int32.ofNat i) + (1 : Int32))), .val (.ref b), .val (.int ((Int32.ofNat i) + (1 : Int32))), .val (.int (Int32.ofNat cl.length)), .val (.int (Int32.ofNat i)), .val (.int (cl.getD i 0))]) d21_35 rfl rfl rfl rfl ?_
      refine Wk.iinc (pc' := 41) (v := 1) (Ls' := #[.val (.ref c), .val (.int ((Int32.ofNat i) + (1 : Int32))), .val (.ref b), .val (.int ((Int32.ofNat i) + (1 : Int32))), .val (.int (Int32.ofNat cl.length)), .val (.int ((Int32.ofNat i) + (1 : Int32))), .val (.int (cl.getD i 0))]) d21_38 rfl rfl rfl rfl ?_
      rw [own_succ (by omega)]
      refine Wk.goto (pc' := 3) d21_41 (by decide) ?_
      exact ih (i + 1) _ h6 A9 (by omega) (Or.inr ⟨_, rfl⟩) (((Keep.refl h0 [b]).trans K3 (allS (Or.inl (by simp)) all0)).wr W7 (Or.inl (by simp)))
  exact loop cl.length 0 _ h0 P1 (by omega) (Or.inl rfl) (Keep.refl h0 [b])
theorem ef_s_cm3 (m : MethodId) (x0 : Addr) (x1 : Int32) (x2 : Int32) : entryFrame m #[(.ref x0), (.int x1), (.int x2)] 6 = mkF m 0 #[.val (.ref x0), .val (.int x1), .val (.int x2), .unset, .unset, .unset] [] := by first | (simp [entryFrame, mkF, argsToLocals, Value.category]; done) | rfl
abbrev b_s_cm3 : Bdy := ((⟨"java/lang/StringUTF16", "compress", "([CII)[B"⟩ : MethodName), jdk_52_method_16_code, 6, (Option.some (Jvm.ClassFile.FieldType.array Jvm.ClassFile.FieldType.byte)), ({ frames := 1, cells := 1, slots := 4, locals := 18 } : Room))
def Q_s_cm3 (Z : State) (N : Nat) (c : Addr) (q : ClassId) (cl : List Int32) (h0 : Heap) (I : Lts) (v : Option Value) (h : Heap) (J : Lts) : Prop := ∃ b : Addr, ∃ qb : ClassId, I = J ∧ v = some (.ref b) ∧ Ext h0 h ∧ h0.size ≤ b ∧ N ≤ b ∧ Arv Z h b qb .byte (Int32.ofNat cl.length) (cl.map own_by) (.int (0 : Int32))
set_option maxRecDepth 65536 in
set_option maxHeartbeats 40000000 in
theorem rm_s_cm3 {l : Launch} {Z : State} {a0 : Array Value} {N : Nat} (hw : ∀ d ∈ tables_1, d.before a0 Z = true) (c : Addr) (q : ClassId) (cl : List Int32) (h0 : Heap) (I : Lts) (P0 : Arv Z h0 c q .char (Int32.ofNat cl.length) (cl.map Value.int) (.int (0 : Int32))) (hn : cl.length ≤ 4) (hL : own_L cl) :
    Cn l Z N b_s_cm3 #[(.ref c), (.int (0 : Int32)), (.int (Int32.ofNat cl.length))] h0 I (Q_s_cm3 Z N c q cl h0 I) := by
  refine Cn.of_wk (Ls := #[.val (.ref c), .val (.int (0 : Int32)), .val (.int (Int32.ofNat cl.length)), .unset, .unset, .unset]) (plainFor_of_name (by first | (simp [plainName, overriddenIn]; done) | decide +kernel)) (fun m => ef_s_cm3 m c (0 : Int32) (Int32.ofNat cl.length)) ?_
  refine Wk.iloadN (pc' := 1) d20_0 rfl rfl ?_
  refine Wk.newP (a0 := a0) (aty := .byte) (pc' := 3) (k' := 1) (n' := 4) (cap := 4) (w21 hw) d20_1 rfl (own_in (n := 5) (by omega) (by decide)).1 (by rw [own_clamp (by omega)]; exact hn) (by decide) rfl rfl (Nat.le_of_ble_eq_true rfl) (Nat.le_of_ble_eq_true rfl) fun a1 h2 q3 hg4 hN5 E6 A7 => ?_
  have ne8 : c ≠ a1 := Nat.ne_of_lt (Nat.lt_of_lt_of_le P0.lt hg4)
  have A9 : Arv Z h2 a1 q3 .byte (Int32.ofNat cl.length) (own_fill cl 0) (.int (0 : Int32)) := by rw [own_fill0]; exact A7.pad (pad_rep [] _ cl.length)
  refine Wk.astoreN (pc' := 4) #[.val (.ref c), .val (.int (0 : Int32)), .val (.int (Int32.ofNat cl.length)), .val (.ref a1), .unset, .unset] d20_3 rfl rfl rfl ?_
  refine Wk.aloadN (pc' := 5) d20_4 rfl rfl rfl ?_
  refine Wk.iloadN (pc' := 6) d20_5 rfl rfl ?_
  refine Wk.aloadN (pc' := 7) d20_6 rfl rfl rfl ?_
  refine Wk.iconst (pc' := 8) (v := 0) d20_7 rfl rfl ?_
  refine Wk.iloadN (pc' := 9) d20_8 rfl rfl ?_
  have f10 := (P0.ext E6)
  refine Wk.callS (a0 := a0) (pc' := 12) (k' := 1) (n' := 4) (W := 0) (b := b_s_cm5) (argsL := [(.ref c), (.int (0 : Int32)), (.ref a1), (.int (0 : Int32)), (.int (Int32.ofNat cl.length))]) (rest := []) (rm_s_cm5 hw c a1 q q3 cl h2 I f10 A9 hN5 ne8 (by omega) hL) (w95 hw) (w96 hw) (w93 hw) (w97 hw) (by decide) (Nat.le_refl _) id (Nat.le_of_ble_eq_true rfl) (Nat.le_of_ble_eq_true rfl) rfl rfl (Nat.le_of_ble_eq_true rfl) (Nat.le_of_ble_eq_true rfl) rfl pd5 rfl rfl rfl (Nat.le_of_ble_eq_true rfl) d20_9 rfl fun v11 h12 J13 hs14 hQ15 => ?_
  obtain ⟨rfl, rfl, K16, g17⟩ := hQ15
  show Wk _ h12 1 4 I 12 #[.val (.ref c), .val (.int (0 : Int32)), .val (.int (Int32.ofNat cl.length)), .val (.ref a1), .unset, .unset] [(.int (Int32.ofNat cl.length))]
  refine Wk.istore (pc' := 14) #[.val (.ref c), .val (.int (0 : Int32)), .val (.int (Int32.ofNat cl.length)), .val (.ref a1), .val (.int (Int32.ofNat cl.length)), .unset] d20_12 rfl rfl ?_
  refine Wk.iload (pc' := 16) d20_14 rfl rfl ?_
  refine Wk.iloadN (pc' := 17) d20_16 rfl rfl ?_
  refine Wk.icmp_eqY (pc' := 57) d20_17 (by decide) rfl ?_
  refine Wk.aloadN (pc' := 58) d20_57 rfl rfl rfl ?_
  exact Wk.areturn rfl rfl rfl d20_58 (Nat.le_of_ble_eq_true rfl) (Nat.le_of_ble_eq_true rfl) ⟨a1, q3, rfl, rfl, (own_ext (((Keep.refl h0 []).ext E6).trans K16 (allS (Or.inr hg4) all0))), hg4, hN5, g17⟩
theorem ef_s_cfa (m : MethodId) (x0 : Addr) (x1 : Int32) : entryFrame m #[(.ref x0), (.int x1)] 2 = mkF m 0 #[.val (.ref x0), .val (.int x1)] [] := by first | (simp [entryFrame, mkF, argsToLocals, Value.category]; done) | rfl
abbrev b_s_cfa : Bdy := ((⟨"java/lang/StringUTF16", "coderFromArrayLen", "([BI)B"⟩ : MethodName), jdk_52_method_15_code, 2, (Option.some Jvm.ClassFile.FieldType.byte), ({ frames := 0, cells := 0, slots := 0, locals := 0 } : Room))
def Q_s_cfa (Z : State) (N : Nat) (b : Addr) (qb : ClassId) (cl : List Int32) (h0 : Heap) (I : Lts) (v : Option Value) (h : Heap) (J : Lts) : Prop := I = J ∧ v = some (.int (0 : Int32)) ∧ h0 = h
set_option maxRecDepth 65536 in
set_option maxHeartbeats 40000000 in
theorem rm_s_cfa {l : Launch} {Z : State} {a0 : Array Value} {N : Nat} (hw : ∀ d ∈ tables_1, d.before a0 Z = true) (b : Addr) (qb : ClassId) (cl : List Int32) (h0 : Heap) (I : Lts) (P0 : Arv Z h0 b qb .byte (Int32.ofNat cl.length) (cl.map own_by) (.int (0 : Int32))) :
    Cn l Z N b_s_cfa #[(.ref b), (.int (Int32.ofNat cl.length))] h0 I (Q_s_cfa Z N b qb cl h0 I) := by
  refine Cn.of_wk (Ls := #[.val (.ref b), .val (.int (Int32.ofNat cl.length))]) (plainFor_of_name (by first | (simp [plainName, overriddenIn]; done) | decide +kernel)) (fun m => ef_s_cfa m b (Int32.ofNat cl.length)) ?_
  refine Wk.iloadN (pc' := 1) d22_0 rfl rfl ?_
  refine Wk.aloadN (pc' := 2) d22_1 rfl rfl rfl ?_
  refine Wk.arraylength (pc' := 3) P0 d22_2 rfl ?_
  refine Wk.isub (pc' := 4) d22_3 rfl ?_
  refine Wk.bipush (pc' := 6) (v := 31) d22_4 rfl rfl ?_
  refine Wk.iushr (pc' := 7) d22_6 rfl ?_
  refine Wk.i2b (pc' := 8) d22_7 rfl ?_
  exact Wk.zreturn rfl (by simp) d22_8 (Nat.le_of_ble_eq_true rfl) (Nat.le_of_ble_eq_true rfl) ⟨rfl, (by rw [own_cfal]), rfl⟩
theorem ef_s_in5e (m : MethodId) (x0 : Addr) (x1 : Addr) (x2 : Int32) (x3 : Int32) : entryFrame m #[(.ref x0), (.ref x1), (.int x2), (.int x3), .null] 6 = mkF m 0 #[.val (.ref x0), .val (.ref x1), .val (.int x2), .val (.int x3), .val .null, .unset] [] := by first | (simp [entryFrame, mkF, argsToLocals, Value.category]; done) | rfl
abbrev b_s_in5e : Bdy := ((⟨"java/lang/String", "<init>", "([CIILjava/lang/Void;)V"⟩ : MethodName), jdk_42_method_149_code, 6, (Option.none : Option Jvm.ClassFile.FieldType), ({ frames := 2, cells := 2, slots := 4, locals := 35 } : Room))
def Q_s_in5e (Z : State) (N : Nat) (a : Addr) (c : Addr) (q : ClassId) (cl : List Int32) (cs : Int32) (Ts : List String) (Lk : List (String × Nat × Addr)) (h0 : Heap) (I : Lts) (v : Option Value) (h : Heap) (J : Lts) : Prop := ∃ v' : Addr, ∃ q' : ClassId, True ∧ v = none ∧ Keep h0 h [a] ∧ Fld Z h a "java/lang/String" "value" "[B" (.ref v') ∧ Fld Z h a "java/lang/String" "coder" "B" (.int (0 : Int32)) ∧ Arv Z h v' q' .byte (Int32.ofNat cl.length) (cl.map own_by) (.int (0 : Int32))
set_option maxRecDepth 65536 in
set_option maxHeartbeats 40000000 in
theorem rm_s_in5e {l : Launch} {Z : State} {a0 : Array Value} {N : Nat} (hw : ∀ d ∈ tables_1, d.before a0 Z = true) (a : Addr) (c : Addr) (q : ClassId) (cl : List Int32) (cs : Int32) (Ts : List String) (Lk : List (String × Nat × Addr)) (h0 : Heap) (P0 : Sta Z Z.heap "java/lang/String" "COMPACT_STRINGS" "Z" (.int cs)) (G_cs : ¬ cs = (0 : Int32)) (P2 : Exa Z h0 a "java/lang/String") (P3 : Fld Z h0 a "java/lang/String" "value" "[B" .null) (P4 : Fld Z h0 a "java/lang/String" "coder" "B" (.int (0 : Int32))) (P5 : Arv Z h0 c q .char (Int32.ofNat cl.length) (cl.map Value.int) (.int (0 : Int32))) (P6 : N ≤ a) (hn : cl.length ≤ 4) (hL : own_L cl) (hT : "" ∉ Ts) (G_h7 : Jvm.Lit.constHeld Z "java/lang/String" 7) (G_cw : Jvm.Lit.compactW.before a0 Z = true) :
    Cn l Z N b_s_in5e #[(.ref a), (.ref c), (.int (0 : Int32)), (.int (Int32.ofNat cl.length)), .null] h0 (some (Ts, Lk)) (Q_s_in5e Z N a c q cl cs Ts Lk h0 (some (Ts, Lk))) := by
  refine Cn.of_wkM (Ls := #[.val (.ref a), .val (.ref c), .val (.int (0 : Int32)), .val (.int (Int32.ofNat cl.length)), .val .null, .unset]) (plainFor_of_name (by first | (simp [plainName, overriddenIn]; done) | decide +kernel)) (fun m => ef_s_in5e m a c (0 : Int32) (Int32.ofNat cl.length)) ?_
  refine WkM.aloadN (pc' := 1) d3_0 rfl rfl rfl ?_
  refine WkM.initO (a0 := a0) (pc' := 4) (W := 0) (w17 hw) (w18 hw) (w19 hw) rfl d3_1 rfl (Nat.le_of_ble_eq_true rfl) (Nat.le_of_ble_eq_true rfl) (Nat.le_of_ble_eq_true rfl) ?_
  refine WkM.iloadN (pc' := 5) d3_4 rfl rfl ?_
  by_cases he : cl = []
  · skip
    refine WkM.if_neN (pc' := 8) d3_5 rfl (by rw [he]; rfl) ?_
    refine WkM.aloadN (pc' := 9) d3_8 rfl rfl rfl ?_
    refine WkM.ldcLit (a0 := a0) (pc' := 11) (k' := 2) (n' := 4) (cap := 0) (vs := []) (z := 0) (w20 hw) (own_wS hw) (Nat.le_refl _) hT G_h7 G_cw ⟨by decide, rfl⟩ (by decide) rfl d3_9 rfl (by decide) (by decide) rfl rfl (Nat.le_of_ble_eq_true rfl) (Nat.le_of_ble_eq_true rfl) fun al1 bl2 ql3 h4 E5 X6 C7 V8 A9 p10 => ?_
    have f11 := (P2.ext E5)
    have ne12 : a ≠ bl2 := by obtain ⟨c0, A0, -⟩ := A9; exact ne_arr f11 (w7 hw) A0
    show Wk _ h4 2 4 (some ("" :: Ts, [("java/lang/String", 7, al1)])) 11 #[.val (.ref a), .val (.ref c), .val (.int (0 : Int32)), .val (.int (Int32.ofNat cl.length)), .val .null, .unset] [(.ref al1), (.ref a)]
    refine Wk.getF (a0 := a0) (pc' := 14) (host := "") (Or.inl (w26 hw)) Via.refl V8 d3_11 rfl ?_
    have f13 := (P3.ext E5)
    refine Wk.putF (a0 := a0) (pc' := 17) (host := "") (Or.inl (w26 hw)) Via.refl P6 f13 f11 (Or.inr ⟨(w22 hw), rfl, rfl⟩) (w7 hw) (ty := (.array .byte)) (by decide) rfl rfl d3_14 rfl fun h14 W15 => ?_
    have F16 := f13.same W15
    refine Wk.aloadN (pc' := 18) d3_17 rfl rfl rfl ?_
    have F17 := C7.other W15 (Or.inr (slot_ne (Or.inr (w23 hw)) (Or.inr (w22 hw)) (by decide) (t := .byte) (t' := .array .byte) (by decide) (by decide)))
    refine Wk.ldcAgain (a0 := a0) (pc' := 20) (w20 hw) (List.mem_singleton.mpr rfl) d3_18 rfl ?_
    refine Wk.getF (a0 := a0) (pc' := 23) (host := "") (Or.inl (w27 hw)) Via.refl F17 d3_20 rfl ?_
    have f18 := (f11.wr W15)
    have f19 := ((P4.ext E5).other W15 (Or.inr (slot_ne (Or.inr (w23 hw)) (Or.inr (w22 hw)) (by decide) (t := .byte) (t' := (.array .byte)) (by decide) (by decide))))
    refine Wk.putFN (a0 := a0) (pc' := 26) (v' := (.int (0 : Int32))) (w27 hw) Via.refl P6 f19 f18 (Or.inr ⟨(w23 hw), rfl, rfl⟩) (w7 hw) (ty := .byte) (by decide) rfl rfl d3_23 rfl fun h20 W21 => ?_
    have F22 := f19.same W21
    have f23 := ((A9.other W15 (Ne.symm ne12)).other W21 (Ne.symm ne12))
    have A24 : Arv Z h20 bl2 ql3 .byte (Int32.ofNat cl.length) (cl.map own_by) (.int (0 : Int32)) := by rw [he]; exact f23
    have f25 := (F16.other W21 (Or.inr (slot_ne (Or.inr (w22 hw)) (Or.inr (w23 hw)) (by decide) (t := (.array .byte)) (t' := .byte) (by decide) (by decide))))
    exact Wk.return_ rfl d3_26 (Nat.le_of_ble_eq_true rfl) (Nat.le_of_ble_eq_true rfl) ⟨bl2, ql3, trivial, rfl, ((((Keep.refl h0 [a]).ext E5).wr W15 (Or.inl (by simp))).wr W21 (Or.inl (by simp))), f25, F22, A24⟩
  · skip
    refine Wk.toM ?_
    refine Wk.if_neY (pc' := 27) d3_5 (by decide) (fun q => he (List.length_eq_zero_iff.mp ((own_eq (j := 0) (by omega) (by decide)).mp q))) ?_
    refine Wk.getS (a0 := a0) (pc' := 30) (host := "") (Or.inl (w40 hw)) Via.refl P0 d3_27 rfl ?_
    refine Wk.if_eqN (pc' := 33) d3_30 rfl G_cs ?_
    refine Wk.aloadN (pc' := 34) d3_33 rfl rfl rfl ?_
    refine Wk.iloadN (pc' := 35) d3_34 rfl rfl ?_
    refine Wk.iloadN (pc' := 36) d3_35 rfl rfl ?_
    refine Wk.callS (a0 := a0) (pc' := 39) (k' := 1) (n' := 4) (W := 0) (b := b_s_cm3) (argsL := [(.ref c), (.int (0 : Int32)), (.int (Int32.ofNat cl.length))]) (rest := []) (rm_s_cm3 hw c q cl h0 (some (Ts, Lk)) P5 hn hL) (w91 hw) (w92 hw) (w93 hw) (w94 hw) (by decide) (Nat.le_refl _) id (Nat.le_of_ble_eq_true rfl) (Nat.le_of_ble_eq_true rfl) rfl rfl (Nat.le_of_ble_eq_true rfl) (Nat.le_of_ble_eq_true rfl) rfl pd6 rfl rfl rfl (Nat.le_of_ble_eq_true rfl) d3_36 rfl fun v26 h27 J28 hs29 hQ30 => ?_
    obtain ⟨b31, qb32, rfl, rfl, E33, g34, g35, g36⟩ := hQ30
    have ne37 : a ≠ b31 := Nat.ne_of_lt (Nat.lt_of_lt_of_le P2.lt g34)
    have ne38 : c ≠ b31 := Nat.ne_of_lt (Nat.lt_of_lt_of_le P5.lt g34)
    show Wk _ h27 1 4 (some (Ts, Lk)) 39 #[.val (.ref a), .val (.ref c), .val (.int (0 : Int32)), .val (.int (Int32.ofNat cl.length)), .val .null, .unset] [(.ref b31)]
    refine Wk.astore (pc' := 41) #[.val (.ref a), .val (.ref c), .val (.int (0 : Int32)), .val (.int (Int32.ofNat cl.length)), .val .null, .val (.ref b31)] d3_39 rfl rfl rfl ?_
    refine Wk.aloadN (pc' := 42) d3_41 rfl rfl rfl ?_
    refine Wk.aload (pc' := 44) d3_42 rfl rfl rfl ?_
    refine Wk.iloadN (pc' := 45) d3_44 rfl rfl ?_
    refine Wk.callS (a0 := a0) (pc' := 48) (k' := 1) (n' := 4) (W := 1) (b := b_s_cfa) (argsL := [(.ref b31), (.int (Int32.ofNat cl.length))]) (rest := [(.ref a)]) (rm_s_cfa hw b31 qb32 cl h27 (some (Ts, Lk)) g36) (w98 hw) (w99 hw) (w93 hw) (w100 hw) (by decide) (Nat.le_refl _) id (Nat.le_of_ble_eq_true rfl) (Nat.le_of_ble_eq_true rfl) rfl rfl (Nat.le_of_ble_eq_true rfl) (Nat.le_of_ble_eq_true rfl) rfl pd7 rfl rfl rfl (Nat.le_of_ble_eq_true rfl) d3_45 rfl fun v39 h40 J41 hs42 hQ43 => ?_
    obtain ⟨rfl, rfl, rfl⟩ := hQ43
    show Wk _ h27 1 4 (some (Ts, Lk)) 48 #[.val (.ref a), .val (.ref c), .val (.int (0 : Int32)), .val (.int (Int32.ofNat cl.length)), .val .null, .val (.ref b31)] [(.int (0 : Int32)), (.ref a)]
    have f44 := (P2.ext E33)
    have f45 := (P4.ext E33)
    refine Wk.putFN (a0 := a0) (pc' := 51) (v' := (.int (0 : Int32))) (w27 hw) Via.refl P6 f45 f44 (Or.inr ⟨(w23 hw), rfl, rfl⟩) (w7 hw) (ty := .byte) (by decide) rfl rfl d3_48 rfl fun h46 W47 => ?_
    have F48 := f45.same W47
    refine Wk.aloadN (pc' := 52) d3_51 rfl rfl rfl ?_
    refine Wk.aload (pc' := 54) d3_52 rfl rfl rfl ?_
    have f49 := (f44.wr W47)
    have f50 := ((P3.ext E33).other W47 (Or.inr (slot_ne (Or.inr (w22 hw)) (Or.inr (w23 hw)) (by decide) (t := (.array .byte)) (t' := .byte) (by decide) (by decide))))
    refine Wk.putF (a0 := a0) (pc' := 57) (host := "") (Or.inl (w26 hw)) Via.refl P6 f50 f49 (Or.inr ⟨(w22 hw), rfl, rfl⟩) (w7 hw) (ty := (.array .byte)) (by decide) rfl rfl d3_54 rfl fun h51 W52 => ?_
    have F53 := f50.same W52
    have f54 := ((g36.other W47 (Ne.symm ne37)).other W52 (Ne.symm ne37))
    have f55 := (F48.other W52 (Or.inr (slot_ne (Or.inr (w23 hw)) (Or.inr (w22 hw)) (by decide) (t := .byte) (t' := (.array .byte)) (by decide) (by decide))))
    exact Wk.return_ rfl d3_57 (Nat.le_of_ble_eq_true rfl) (Nat.le_of_ble_eq_true rfl) ⟨b31, qb32, trivial, rfl, ((((Keep.refl h0 [a]).ext E33).wr W47 (Or.inl (by simp))).wr W52 (Or.inl (by simp))), F53, f55, f54⟩
theorem ef_s_in1e (m : MethodId) (x0 : Addr) (x1 : Addr) : entryFrame m #[(.ref x0), (.ref x1)] 2 = mkF m 0 #[.val (.ref x0), .val (.ref x1)] [] := by first | (simp [entryFrame, mkF, argsToLocals, Value.category]; done) | rfl
abbrev b_s_in1e : Bdy := ((⟨"java/lang/String", "<init>", "([C)V"⟩ : MethodName), jdk_42_method_3_code, 2, (Option.none : Option Jvm.ClassFile.FieldType), ({ frames := 3, cells := 2, slots := 4, locals := 52 } : Room))
def Q_s_in1e (Z : State) (N : Nat) (a : Addr) (c : Addr) (q : ClassId) (cl : List Int32) (cs : Int32) (Ts : List String) (Lk : List (String × Nat × Addr)) (h0 : Heap) (I : Lts) (v : Option Value) (h : Heap) (J : Lts) : Prop := ∃ v' : Addr, ∃ q' : ClassId, True ∧ v = none ∧ Keep h0 h [a] ∧ Fld Z h a "java/lang/String" "value" "[B" (.ref v') ∧ Fld Z h a "java/lang/String" "coder" "B" (.int (0 : Int32)) ∧ Arv Z h v' q' .byte (Int32.ofNat cl.length) (cl.map own_by) (.int (0 : Int32))
set_option maxRecDepth 65536 in
set_option maxHeartbeats 40000000 in
theorem rm_s_in1e {l : Launch} {Z : State} {a0 : Array Value} {N : Nat} (hw : ∀ d ∈ tables_1, d.before a0 Z = true) (a : Addr) (c : Addr) (q : ClassId) (cl : List Int32) (cs : Int32) (Ts : List String) (Lk : List (String × Nat × Addr)) (h0 : Heap) (P0 : Sta Z Z.heap "java/lang/String" "COMPACT_STRINGS" "Z" (.int cs)) (G_cs : ¬ cs = (0 : Int32)) (P2 : Exa Z h0 a "java/lang/String") (P3 : Fld Z h0 a "java/lang/String" "value" "[B" .null) (P4 : Fld Z h0 a "java/lang/String" "coder" "B" (.int (0 : Int32))) (P5 : Arv Z h0 c q .char (Int32.ofNat cl.length) (cl.map Value.int) (.int (0 : Int32))) (P6 : N ≤ a) (hn : cl.length ≤ 4) (hL : own_L cl) (hT : "" ∉ Ts) (G_h7 : Jvm.Lit.constHeld Z "java/lang/String" 7) (G_cw : Jvm.Lit.compactW.before a0 Z = true) :
    Cn l Z N b_s_in1e #[(.ref a), (.ref c)] h0 (some (Ts, Lk)) (Q_s_in1e Z N a c q cl cs Ts Lk h0 (some (Ts, Lk))) := by
  refine Cn.of_wk (Ls := #[.val (.ref a), .val (.ref c)]) (plainFor_of_name (by first | (simp [plainName, overriddenIn]; done) | decide +kernel)) (fun m => ef_s_in1e m a c) ?_
  refine Wk.aloadN (pc' := 1) d2_0 rfl rfl rfl ?_
  refine Wk.aloadN (pc' := 2) d2_1 rfl rfl rfl ?_
  refine Wk.iconst (pc' := 3) (v := 0) d2_2 rfl rfl ?_
  refine Wk.aloadN (pc' := 4) d2_3 rfl rfl rfl ?_
  refine Wk.arraylength (pc' := 5) P5 d2_4 rfl ?_
  refine Wk.aconstNull (pc' := 6) d2_5 rfl ?_
  refine Wk.callN (a0 := a0) (pc' := 9) (k' := 2) (n' := 4) (W := 0) (b := b_s_in5e) (argsL := [(.ref c), (.int (0 : Int32)), (.int (Int32.ofNat cl.length)), .null]) (rest := []) (rm_s_in5e hw a c q cl cs Ts Lk h0  P0 G_cs P2 P3 P4 P5 P6 hn hL hT G_h7 G_cw) rfl rfl (w13 hw) (w14 hw) (w8 hw) (w16 hw) (by decide) (Nat.le_refl _) id (Nat.le_of_ble_eq_true rfl) (Nat.le_of_ble_eq_true rfl) rfl rfl (Nat.le_of_ble_eq_true rfl) (Nat.le_of_ble_eq_true rfl) rfl pd8 rfl rfl rfl (Nat.le_of_ble_eq_true rfl) d2_6 rfl fun v1 h2 J3 hs4 hQ5 => ?_
  obtain ⟨v'6, q'7, -, rfl, K8, g9, g10, g11⟩ := hQ5
  show Wk _ h2 2 4 J3 9 #[.val (.ref a), .val (.ref c)] []
  exact Wk.return_ rfl d2_9 (Nat.le_of_ble_eq_true rfl) (Nat.le_of_ble_eq_true rfl) ⟨v'6, q'7, trivial, rfl, ((Keep.refl h0 [a]).trans K8 (allS (Or.inl (by simp)) all0)), g9, g10, g11⟩
theorem ef_s_in5 (m : MethodId) (x0 : Addr) (x1 : Addr) (x2 : Int32) (x3 : Int32) : entryFrame m #[(.ref x0), (.ref x1), (.int x2), (.int x3), .null] 6 = mkF m 0 #[.val (.ref x0), .val (.ref x1), .val (.int x2), .val (.int x3), .val .null, .unset] [] := by first | (simp [entryFrame, mkF, argsToLocals, Value.category]; done) | rfl
abbrev b_s_in5 : Bdy := ((⟨"java/lang/String", "<init>", "([CIILjava/lang/Void;)V"⟩ : MethodName), jdk_42_method_149_code, 6, (Option.none : Option Jvm.ClassFile.FieldType), ({ frames := 2, cells := 1, slots := 4, locals := 35 } : Room))
def Q_s_in5 (Z : State) (N : Nat) (a : Addr) (c : Addr) (q : ClassId) (cl : List Int32) (cs : Int32) (h0 : Heap) (I : Lts) (v : Option Value) (h : Heap) (J : Lts) : Prop := ∃ v' : Addr, ∃ q' : ClassId, I = J ∧ v = none ∧ Keep h0 h [a] ∧ Fld Z h a "java/lang/String" "value" "[B" (.ref v') ∧ Fld Z h a "java/lang/String" "coder" "B" (.int (0 : Int32)) ∧ Arv Z h v' q' .byte (Int32.ofNat cl.length) (cl.map own_by) (.int (0 : Int32))
set_option maxRecDepth 65536 in
set_option maxHeartbeats 40000000 in
theorem rm_s_in5 {l : Launch} {Z : State} {a0 : Array Value} {N : Nat} (hw : ∀ d ∈ tables_1, d.before a0 Z = true) (a : Addr) (c : Addr) (q : ClassId) (cl : List Int32) (cs : Int32) (h0 : Heap) (I : Lts) (P0 : Sta Z Z.heap "java/lang/String" "COMPACT_STRINGS" "Z" (.int cs)) (G_cs : ¬ cs = (0 : Int32)) (P2 : Exa Z h0 a "java/lang/String") (P3 : Fld Z h0 a "java/lang/String" "value" "[B" .null) (P4 : Fld Z h0 a "java/lang/String" "coder" "B" (.int (0 : Int32))) (P5 : Arv Z h0 c q .char (Int32.ofNat cl.length) (cl.map Value.int) (.int (0 : Int32))) (P6 : N ≤ a) (hn : cl.length ≤ 4) (hL : own_L cl) (he : ¬ cl = []) :
    Cn l Z N b_s_in5 #[(.ref a), (.ref c), (.int (0 : Int32)), (.int (Int32.ofNat cl.length)), .null] h0 I (Q_s_in5 Z N a c q cl cs h0 I) := by
  refine Cn.of_wk (Ls := #[.val (.ref a), .val (.ref c), .val (.int (0 : Int32)), .val (.int (Int32.ofNat cl.length)), .val .null, .unset]) (plainFor_of_name (by first | (simp [plainName, overriddenIn]; done) | decide +kernel)) (fun m => ef_s_in5 m a c (0 : Int32) (Int32.ofNat cl.length)) ?_
  refine Wk.aloadN (pc' := 1) d3_0 rfl rfl rfl ?_
  refine Wk.initO (a0 := a0) (pc' := 4) (W := 0) (w17 hw) (w18 hw) (w19 hw) rfl d3_1 rfl (Nat.le_of_ble_eq_true rfl) (Nat.le_of_ble_eq_true rfl) (Nat.le_of_ble_eq_true rfl) ?_
  refine Wk.iloadN (pc' := 5) d3_4 rfl rfl ?_
  refine Wk.if_neY (pc' := 27) d3_5 (by decide) (fun q => he (List.length_eq_zero_iff.mp ((own_eq (j := 0) (by omega) (by decide)).mp q))) ?_
  refine Wk.getS (a0 := a0) (pc' := 30) (host := "") (Or.inl (w40 hw)) Via.refl P0 d3_27 rfl ?_
  refine Wk.if_eqN (pc' := 33) d3_30 rfl G_cs ?_
  refine Wk.aloadN (pc' := 34) d3_33 rfl rfl rfl ?_
  refine Wk.iloadN (pc' := 35) d3_34 rfl rfl ?_
  refine Wk.iloadN (pc' := 36) d3_35 rfl rfl ?_
  refine Wk.callS (a0 := a0) (pc' := 39) (k' := 1) (n' := 4) (W := 0) (b := b_s_cm3) (argsL := [(.ref c), (.int (0 : Int32)), (.int (Int32.ofNat cl.length))]) (rest := []) (rm_s_cm3 hw c q cl h0 I P5 hn hL) (w91 hw) (w92 hw) (w93 hw) (w94 hw) (by decide) (Nat.le_refl _) id (Nat.le_of_ble_eq_true rfl) (Nat.le_of_ble_eq_true rfl) rfl rfl (Nat.le_of_ble_eq_true rfl) (Nat.le_of_ble_eq_true rfl) rfl pd6 rfl rfl rfl (Nat.le_of_ble_eq_true rfl) d3_36 rfl fun v1 h2 J3 hs4 hQ5 => ?_
  obtain ⟨b6, qb7, rfl, rfl, E8, g9, g10, g11⟩ := hQ5
  have ne12 : a ≠ b6 := Nat.ne_of_lt (Nat.lt_of_lt_of_le P2.lt g9)
  have ne13 : c ≠ b6 := Nat.ne_of_lt (Nat.lt_of_lt_of_le P5.lt g9)
  show Wk _ h2 1 4 I 39 #[.val (.ref a), .val (.ref c), .val (.int (0 : Int32)), .val (.int (Int32.ofNat cl.length)), .val .null, .unset] [(.ref b6)]
  refine Wk.astore (pc' := 41) #[.val (.ref a), .val (.ref c), .val (.int (0 : Int32)), .val (.int (Int32.ofNat cl.length)), .val .null, .val (.ref b6)] d3_39 rfl rfl rfl ?_
  refine Wk.aloadN (pc' := 42) d3_41 rfl rfl rfl ?_
  refine Wk.aload (pc' := 44) d3_42 rfl rfl rfl ?_
  refine Wk.iloadN (pc' := 45) d3_44 rfl rfl ?_
  refine Wk.callS (a0 := a0) (pc' := 48) (k' := 1) (n' := 4) (W := 1) (b := b_s_cfa) (argsL := [(.ref b6), (.int (Int32.ofNat cl.length))]) (rest := [(.ref a)]) (rm_s_cfa hw b6 qb7 cl h2 I g11) (w98 hw) (w99 hw) (w93 hw) (w100 hw) (by decide) (Nat.le_refl _) id (Nat.le_of_ble_eq_true rfl) (Nat.le_of_ble_eq_true rfl) rfl rfl (Nat.le_of_ble_eq_true rfl) (Nat.le_of_ble_eq_true rfl) rfl pd7 rfl rfl rfl (Nat.le_of_ble_eq_true rfl) d3_45 rfl fun v14 h15 J16 hs17 hQ18 => ?_
  obtain ⟨rfl, rfl, rfl⟩ := hQ18
  show Wk _ h2 1 4 I 48 #[.val (.ref a), .val (.ref c), .val (.int (0 : Int32)), .val (.int (Int32.ofNat cl.length)), .val .null, .val (.ref b6)] [(.int (0 : Int32)), (.ref a)]
  have f19 := (P2.ext E8)
  have f20 := (P4.ext E8)
  refine Wk.putFN (a0 := a0) (pc' := 51) (v' := (.int (0 : Int32))) (w27 hw) Via.refl P6 f20 f19 (Or.inr ⟨(w23 hw), rfl, rfl⟩) (w7 hw) (ty := .byte) (by decide) rfl rfl d3_48 rfl fun h21 W22 => ?_
  have F23 := f20.same W22
  refine Wk.aloadN (pc' := 52) d3_51 rfl rfl rfl ?_
  refine Wk.aload (pc' := 54) d3_52 rfl rfl rfl ?_
  have f24 := (f19.wr W22)
  have f25 := ((P3.ext E8).other W22 (Or.inr (slot_ne (Or.inr (w22 hw)) (Or.inr (w23 hw)) (by decide) (t := (.array .byte)) (t' := .byte) (by decide) (by decide))))
  refine Wk.putF (a0 := a0) (pc' := 57) (host := "") (Or.inl (w26 hw)) Via.refl P6 f25 f24 (Or.inr ⟨(w22 hw), rfl, rfl⟩) (w7 hw) (ty := (.array .byte)) (by decide) rfl rfl d3_54 rfl fun h26 W27 => ?_
  have F28 := f25.same W27
  have f29 := ((g11.other W22 (Ne.symm ne12)).other W27 (Ne.symm ne12))
  have f30 := (F23.other W27 (Or.inr (slot_ne (Or.inr (w23 hw)) (Or.inr (w22 hw)) (by decide) (t := .byte) (t' := (.array .byte)) (by decide) (by decide))))
  exact Wk.return_ rfl d3_57 (Nat.le_of_ble_eq_true rfl) (Nat.le_of_ble_eq_true rfl) ⟨b6, qb7, rfl, rfl, ((((Keep.refl h0 [a]).ext E8).wr W22 (Or.inl (by simp))).wr W27 (Or.inl (by simp))), F28, f30, f29⟩
theorem ef_s_in1 (m : MethodId) (x0 : Addr) (x1 : Addr) : entryFrame m #[(.ref x0), (.ref x1)] 2 = mkF m 0 #[.val (.ref x0), .val (.ref x1)] [] := by first | (simp [entryFrame, mkF, argsToLocals, Value.category]; done) | rfl
abbrev b_s_in1 : Bdy := ((⟨"java/lang/String", "<init>", "([C)V"⟩ : MethodName), jdk_42_method_3_code, 2, (Option.none : Option Jvm.ClassFile.FieldType), ({ frames := 3, cells := 1, slots := 4, locals := 52 } : Room))
def Q_s_in1 (Z : State) (N : Nat) (a : Addr) (c : Addr) (q : ClassId) (cl : List Int32) (cs : Int32) (h0 : Heap) (I : Lts) (v : Option Value) (h : Heap) (J : Lts) : Prop := ∃ v' : Addr, ∃ q' : ClassId, I = J ∧ v = none ∧ Keep h0 h [a] ∧ Fld Z h a "java/lang/String" "value" "[B" (.ref v') ∧ Fld Z h a "java/lang/String" "coder" "B" (.int (0 : Int32)) ∧ Arv Z h v' q' .byte (Int32.ofNat cl.length) (cl.map own_by) (.int (0 : Int32))
set_option maxRecDepth 65536 in
set_option maxHeartbeats 40000000 in
theorem rm_s_in1 {l : Launch} {Z : State} {a0 : Array Value} {N : Nat} (hw : ∀ d ∈ tables_1, d.before a0 Z = true) (a : Addr) (c : Addr) (q : ClassId) (cl : List Int32) (cs : Int32) (h0 : Heap) (I : Lts) (P0 : Sta Z Z.heap "java/lang/String" "COMPACT_STRINGS" "Z" (.int cs)) (G_cs : ¬ cs = (0 : Int32)) (P2 : Exa Z h0 a "java/lang/String") (P3 : Fld Z h0 a "java/lang/String" "value" "[B" .null) (P4 : Fld Z h0 a "java/lang/String" "coder" "B" (.int (0 : Int32))) (P5 : Arv Z h0 c q .char (Int32.ofNat cl.length) (cl.map Value.int) (.int (0 : Int32))) (P6 : N ≤ a) (hn : cl.length ≤ 4) (hL : own_L cl) (he : ¬ cl = []) :
    Cn l Z N b_s_in1 #[(.ref a), (.ref c)] h0 I (Q_s_in1 Z N a c q cl cs h0 I) := by
  refine Cn.of_wk (Ls := #[.val (.ref a), .val (.ref c)]) (plainFor_of_name (by first | (simp [plainName, overriddenIn]; done) | decide +kernel)) (fun m => ef_s_in1 m a c) ?_
  refine Wk.aloadN (pc' := 1) d2_0 rfl rfl rfl ?_
  refine Wk.aloadN (pc' := 2) d2_1 rfl rfl rfl ?_
  refine Wk.iconst (pc' := 3) (v := 0) d2_2 rfl rfl ?_
  refine Wk.aloadN (pc' := 4) d2_3 rfl rfl rfl ?_
  refine Wk.arraylength (pc' := 5) P5 d2_4 rfl ?_
  refine Wk.aconstNull (pc' := 6) d2_5 rfl ?_
  refine Wk.callN (a0 := a0) (pc' := 9) (k' := 1) (n' := 4) (W := 0) (b := b_s_in5) (argsL := [(.ref c), (.int (0 : Int32)), (.int (Int32.ofNat cl.length)), .null]) (rest := []) (rm_s_in5 hw a c q cl cs h0 I P0 G_cs P2 P3 P4 P5 P6 hn hL he) rfl rfl (w13 hw) (w14 hw) (w8 hw) (w16 hw) (by decide) (Nat.le_refl _) id (Nat.le_of_ble_eq_true rfl) (Nat.le_of_ble_eq_true rfl) rfl rfl (Nat.le_of_ble_eq_true rfl) (Nat.le_of_ble_eq_true rfl) rfl pd8 rfl rfl rfl (Nat.le_of_ble_eq_true rfl) d2_6 rfl fun v1 h2 J3 hs4 hQ5 => ?_
  obtain ⟨v'6, q'7, rfl, rfl, K8, g9, g10, g11⟩ := hQ5
  show Wk _ h2 1 4 I 9 #[.val (.ref a), .val (.ref c)] []
  exact Wk.return_ rfl d2_9 (Nat.le_of_ble_eq_true rfl) (Nat.le_of_ble_eq_true rfl) ⟨v'6, q'7, rfl, rfl, ((Keep.refl h0 [a]).trans K8 (allS (Or.inl (by simp)) all0)), g9, g10, g11⟩
theorem ef_u_cm5 (m : MethodId) (x0 : Addr) (x1 : Int32) (x2 : Addr) (x3 : Int32) (x4 : Int32) : entryFrame m #[(.ref x0), (.int x1), (.ref x2), (.int x3), (.int x4)] 7 = mkF m 0 #[.val (.ref x0), .val (.int x1), .val (.ref x2), .val (.int x3), .val (.int x4), .unset, .unset] [] := by first | (simp [entryFrame, mkF, argsToLocals, Value.category]; done) | rfl
abbrev b_u_cm5 : Bdy := ((⟨"java/lang/StringUTF16", "compress", "([CI[BII)I"⟩ : MethodName), jdk_52_method_21_code, 7, (Option.some Jvm.ClassFile.FieldType.int), ({ frames := 0, cells := 0, slots := 0, locals := 0 } : Room))
def Q_u_cm5 (Z : State) (N : Nat) (c : Addr) (b : Addr) (q : ClassId) (qb : ClassId) (cl : List Int32) (h0 : Heap) (I : Lts) (v : Option Value) (h : Heap) (J : Lts) : Prop := ∃ k : Nat, I = J ∧ v = some (.int (Int32.ofNat k)) ∧ Keep h0 h [b] ∧ k < cl.length ∧ 255 < cl.getD k 0
set_option maxRecDepth 65536 in
set_option maxHeartbeats 40000000 in
theorem rm_u_cm5 {l : Launch} {Z : State} {a0 : Array Value} {N : Nat} (hw : ∀ d ∈ tables_1, d.before a0 Z = true) (c : Addr) (b : Addr) (q : ClassId) (qb : ClassId) (cl : List Int32) (h0 : Heap) (I : Lts) (P0 : Arv Z h0 c q .char (Int32.ofNat cl.length) (cl.map Value.int) (.int (0 : Int32))) (P1 : Arv Z h0 b qb .byte (Int32.ofNat cl.length) (own_fill cl 0) (.int (0 : Int32))) (P2 : N ≤ b) (P3 : c ≠ b) (hn : cl.length < 2147483647) (hD : own_D cl) (hL : ¬ own_L cl) :
    Cn l Z N b_u_cm5 #[(.ref c), (.int (0 : Int32)), (.ref b), (.int (0 : Int32)), (.int (Int32.ofNat cl.length))] h0 I (Q_u_cm5 Z N c b q qb cl h0 I) := by
  refine Cn.of_wk (Ls := #[.val (.ref c), .val (.int (0 : Int32)), .val (.ref b), .val (.int (0 : Int32)), .val (.int (Int32.ofNat cl.length)), .unset, .unset]) (plainFor_of_name (by first | (simp [plainName, overriddenIn]; done) | decide +kernel)) (fun m => ef_u_cm5 m c (0 : Int32) b (0 : Int32) (Int32.ofNat cl.length)) ?_
  refine Wk.iconst (pc' := 1) (v := 0) d21_0 rfl rfl ?_
  refine Wk.istore (pc' := 3) #[.val (.ref c), .val (.int (0 : Int32)), .val (.ref b), .val (.int (0 : Int32)), .val (.int (Int32.ofNat cl.length)), .val (.int (0 : Int32)), .unset] d21_1 rfl rfl ?_
  have loop : ∀ (d : Nat) (i : Nat) (s6 : Slot) (hX1 : Heap), (Arv Z hX1 b qb .byte (Int32.ofNat cl.length) (own_fill cl i) (.int (0 : Int32))) → (i + d = cl.length) → (∀ j, j < i → ¬ 255 < cl.getD j 0) → (s6 = .unset ∨ ∃ z : Int32, s6 = .val (.int z)) → (Keep h0 hX1 [b]) → Wk (l, Z, N, h0.size, b_u_cm5, Q_u_cm5 Z N c b q qb cl h0 I) hX1 0 0 I 3 #[.val (.ref c), .val (.int (Int32.ofNat i)), .val (.ref b), .val (.int (Int32.ofNat i)), .val (.int (Int32.ofNat cl.length)), .val (.int (Int32.ofNat i)), s6] [] := by
    intro d
    induction d with
    | zero =>
      intro i s6 hX1 y2 hi hj hs6 K3
      exact absurd (own_Lall hD (fun j q => hj j (by omega))) hL
    | succ d ih =>
      intro i s6 hX1 y2 hi hj hs6 K3
      refine Wk.iload (pc' := 5) d21_3 rfl rfl ?_
      refine Wk.iload (pc' := 7) d21_5 rfl rfl ?_
      refine Wk.icmp_geN (pc' := 10) d21_7 rfl ((own_lt (by omega) (by omega)).mpr (by omega)) ?_
      refine Wk.aloadN (pc' := 11) d21_10 rfl rfl rfl ?_
      refine Wk.iloadN (pc' := 12) d21_11 rfl rfl ?_
      have f4 := (P0.keep K3 (ninS P3 nin0))
      refine Wk.caload (pc' := 13) (v := (.int (cl.getD i 0))) f4 (own_in (by omega) (by omega)) (by rw [own_clamp (by omega)]; exact own_geti cl i) d21_12 rfl ?_
      refine Wk.istore (pc' := 15) #[.val (.ref c), .val (.int (Int32.ofNat i)), .val (.ref b), .val (.int (Int32.ofNat i)), .val (.int (Int32.ofNat cl.length)), .val (.int (Int32.ofNat i)), .val (.int (cl.getD i 0))] d21_13 rfl (by rcases hs6 with rfl | ⟨z, rfl⟩ <;> rfl) ?_
      refine Wk.iload (pc' := 17) d21_15 rfl rfl ?_
      refine Wk.sipush (pc' := 20) (v := 255) d21_17 rfl rfl ?_
      by_cases c20_5 : (255 : Int32) < (cl.getD i 0)
      · refine Wk.icmp_leN (pc' := 23) d21_20 rfl c20_5 ?_
        refine Wk.iload (pc' := 25) d21_23 rfl rfl ?_
        exact Wk.ireturn rfl d21_25 (Nat.le_of_ble_eq_true rfl) (Nat.le_of_ble_eq_true rfl) ⟨i, rfl, rfl, ((Keep.refl h0 [b]).trans K3 (allS (Or.inl (by simp)) all0)), ⟨by omega, c20_5⟩⟩
      · refine Wk.icmp_leY (pc' := 26) d21_20 (by decide) c20_5 ?_
        refine Wk.aloadN (pc' := 27) d21_26 rfl rfl rfl ?_
        refine Wk.iloadN (pc' := 28) d21_27 rfl rfl ?_
        refine Wk.iload (pc' := 30) d21_28 rfl rfl ?_
        refine Wk.i2b (pc' := 31) d21_30 rfl ?_
        refine Wk.bastore (pc' := 32) y2 P2 (own_in (by omega) (by omega)) i (own_clamp (by omega)) (by rw [own_fill_len (by omega)]; omega) d21_31 rfl fun h6 W7 A8 => ?_
        have A9 : Arv Z h6 b qb .byte (Int32.ofNat cl.length) (own_fill cl (i + 1)) (.int (0 : Int32)) := by
          rw [← own_fill_set cl i (by omega), show own_by (cl.getD i 0) = .int (nar .byte (own_b8 (cl.getD i 0))) from by rw [own_nb]; rfl]
          exact A8
        refine Wk.iinc (pc' := 35) (v := 1) (Ls' := #[.val (.ref c), .val (.int ((Int32.ofNat i) + (1 : Int32))), .val (.ref b), .val (.int (Int32.ofNat i)), .val (.int (Int32.ofNat cl.length)), .val (.int (Int32.ofNat i)), .val (.int (cl.getD i 0))]) d21_32 rfl rfl rfl rfl ?_
        refine Wk.iinc (pc' := 38) (v := 1) (Ls' := #[.val (.ref c), .val (.int ((Int32.ofNat i) + (1 : Int32))), .val (.ref b), .val (.int ((Int32.ofNat i) + (1 : Int32))), .val (.int (Int32.ofNat cl.length)), .val (.int (Int32.ofNat i)), .val (.int (cl.getD i 0))]) d21_35 rfl rfl rfl rfl ?_
        refine Wk.iinc (pc' := 41) (v := 1) (Ls' := #[.val (.ref c), .val (.int ((Int32.ofNat i) + (1 : Int32))), .val (.ref b), .val (.int ((Int32.ofNat i) + (1 : Int32))), .val (.int (Int32.ofNat cl.length)), .val (.int ((Int32.ofNat i) + (1 : Int32))), .val (.int (cl.getD i 0))]) d21_38 rfl rfl rfl rfl ?_
        rw [own_succ (by omega)]
        refine Wk.goto (pc' := 3) d21_41 (by decide) ?_
        exact ih (i + 1) _ h6 A9 (by omega) (fun j q => by
          by_cases e : j = i
          · subst e; exact c20_5
          · exact hj j (by omega)) (Or.inr ⟨_, rfl⟩) (((Keep.refl h0 [b]).trans K3 (allS (Or.inl (by simp)) all0)).wr W7 (Or.inl (by simp)))
  exact loop cl.length 0 _ h0 P1 (by omega) (fun j q => absurd q (Nat.not_lt_zero j)) (Or.inl rfl) (Keep.refl h0 [b])
theorem ef_u_nbl (m : MethodId) (x0 : Int32) : entryFrame m #[(.int x0)] 1 = mkF m 0 #[.val (.int x0)] [] := by first | (simp [entryFrame, mkF, argsToLocals, Value.category]; done) | rfl
abbrev b_u_nbl : Bdy := ((⟨"java/lang/StringUTF16", "newBytesLength", "(I)I"⟩ : MethodName), jdk_52_method_3_code, 1, (Option.some Jvm.ClassFile.FieldType.int), ({ frames := 0, cells := 0, slots := 0, locals := 0 } : Room))
def Q_u_nbl (Z : State) (N : Nat) (n : Nat) (h0 : Heap) (I : Lts) (v : Option Value) (h : Heap) (J : Lts) : Prop := I = J ∧ v = some (.int (Int32.ofNat (2 * n))) ∧ h0 = h
set_option maxRecDepth 65536 in
set_option maxHeartbeats 40000000 in
theorem rm_u_nbl {l : Launch} {Z : State} {a0 : Array Value} {N : Nat} (hw : ∀ d ∈ tables_1, d.before a0 Z = true) (n : Nat) (h0 : Heap) (I : Lts) (hn : n < 1000000) :
    Cn l Z N b_u_nbl #[(.int (Int32.ofNat n))] h0 I (Q_u_nbl Z N n h0 I) := by
  refine Cn.of_wk (Ls := #[.val (.int (Int32.ofNat n))]) (plainFor_of_name (by first | (simp [plainName, overriddenIn]; done) | decide +kernel)) (fun m => ef_u_nbl m (Int32.ofNat n)) ?_
  refine Wk.iloadN (pc' := 1) d25_0 rfl rfl ?_
  refine Wk.if_geY (pc' := 12) d25_1 (by decide) (own_in (n := 1000000) hn (by decide)).1 ?_
  refine Wk.iloadN (pc' := 13) d25_12 rfl rfl ?_
  refine Wk.ldcI (a0 := a0) (pc' := 15) (w110 hw) d25_13 rfl ?_
  refine Wk.icmp_ltY (pc' := 55) d25_15 (by decide) ((own_lt (j := 1073741823) (by omega) (by decide)).mpr (by omega)) ?_
  refine Wk.iloadN (pc' := 56) d25_55 rfl rfl ?_
  refine Wk.iconst (pc' := 57) (v := 1) d25_56 rfl rfl ?_
  refine Wk.ishl (pc' := 58) d25_57 rfl ?_
  exact Wk.ireturn rfl d25_58 (Nat.le_of_ble_eq_true rfl) (Nat.le_of_ble_eq_true rfl) ⟨rfl, (by rw [own_shl1 (by omega)]), rfl⟩
theorem ef_u_nbf (m : MethodId) (x0 : Int32) : entryFrame m #[(.int x0)] 1 = mkF m 0 #[.val (.int x0)] [] := by first | (simp [entryFrame, mkF, argsToLocals, Value.category]; done) | rfl
abbrev b_u_nbf : Bdy := ((⟨"java/lang/StringUTF16", "newBytesFor", "(I)[B"⟩ : MethodName), jdk_52_method_2_code, 1, (Option.some (Jvm.ClassFile.FieldType.array Jvm.ClassFile.FieldType.byte)), ({ frames := 1, cells := 1, slots := 8, locals := 12 } : Room))
def Q_u_nbf (Z : State) (N : Nat) (cl : List Int32) (h0 : Heap) (I : Lts) (v : Option Value) (h : Heap) (J : Lts) : Prop := ∃ b : Addr, ∃ qb : ClassId, I = J ∧ v = some (.ref b) ∧ Ext h0 h ∧ h0.size ≤ b ∧ N ≤ b ∧ Arv Z h b qb .byte (Int32.ofNat (2 * cl.length)) (own_uf cl 0) (.int (0 : Int32))
set_option maxRecDepth 65536 in
set_option maxHeartbeats 40000000 in
theorem rm_u_nbf {l : Launch} {Z : State} {a0 : Array Value} {N : Nat} (hw : ∀ d ∈ tables_1, d.before a0 Z = true) (cl : List Int32) (h0 : Heap) (I : Lts) (hn : cl.length ≤ 4) :
    Cn l Z N b_u_nbf #[(.int (Int32.ofNat cl.length))] h0 I (Q_u_nbf Z N cl h0 I) := by
  refine Cn.of_wk (Ls := #[.val (.int (Int32.ofNat cl.length))]) (plainFor_of_name (by first | (simp [plainName, overriddenIn]; done) | decide +kernel)) (fun m => ef_u_nbf m (Int32.ofNat cl.length)) ?_
  refine Wk.iloadN (pc' := 1) d24_0 rfl rfl ?_
  refine Wk.callS (a0 := a0) (pc' := 4) (k' := 0) (n' := 0) (W := 0) (b := b_u_nbl) (argsL := [(.int (Int32.ofNat cl.length))]) (rest := []) (rm_u_nbl hw cl.length h0 I (by omega)) (w107 hw) (w108 hw) (w93 hw) (w109 hw) (by decide) (Nat.le_refl _) id (Nat.le_of_ble_eq_true rfl) (Nat.le_of_ble_eq_true rfl) rfl rfl (Nat.le_of_ble_eq_true rfl) (Nat.le_of_ble_eq_true rfl) rfl pd9 rfl rfl rfl (Nat.le_of_ble_eq_true rfl) d24_1 rfl fun v1 h2 J3 hs4 hQ5 => ?_
  obtain ⟨rfl, rfl, rfl⟩ := hQ5
  show Wk _ h0 0 0 I 4 #[.val (.int (Int32.ofNat cl.length))] [(.int (Int32.ofNat (2 * cl.length)))]
  refine Wk.newP (a0 := a0) (aty := .byte) (pc' := 6) (k' := 1) (n' := 8) (cap := 8) (w21 hw) d24_4 rfl (own_in (n := 9) (by omega) (by decide)).1 (by rw [own_clamp (by omega)]; omega) (by decide) rfl rfl (Nat.le_of_ble_eq_true rfl) (Nat.le_of_ble_eq_true rfl) fun a6 h7 q8 hg9 hN10 E11 A12 => ?_
  have A13 : Arv Z h7 a6 q8 .byte (Int32.ofNat (2 * cl.length)) (own_uf cl 0) (.int (0 : Int32)) := by rw [own_uf0]; exact A12.pad (pad_rep [] _ (2 * cl.length))
  exact Wk.areturn rfl rfl rfl d24_6 (Nat.le_of_ble_eq_true rfl) (Nat.le_of_ble_eq_true rfl) ⟨a6, q8, rfl, rfl, (own_ext ((Keep.refl h0 []).ext E11)), hg9, hN10, A13⟩
theorem ef_u_put (m : MethodId) (x0 : Addr) (x1 : Int32) (x2 : Int32) : entryFrame m #[(.ref x0), (.int x1), (.int x2)] 3 = mkF m 0 #[.val (.ref x0), .val (.int x1), .val (.int x2)] [] := by first | (simp [entryFrame, mkF, argsToLocals, Value.category]; done) | rfl
abbrev b_u_put : Bdy := ((⟨"java/lang/StringUTF16", "putChar", "([BII)V"⟩ : MethodName), jdk_52_method_4_code, 3, (Option.none : Option Jvm.ClassFile.FieldType), ({ frames := 0, cells := 0, slots := 0, locals := 0 } : Room))
def Q_u_put (Z : State) (N : Nat) (b : Addr) (qb : ClassId) (n : Nat) (vs : List Value) (i : Nat) (x : Int32) (h0 : Heap) (I : Lts) (v : Option Value) (h : Heap) (J : Lts) : Prop := I = J ∧ v = none ∧ Keep h0 h [b] ∧ Arv Z h b qb .byte (Int32.ofNat (2 * n)) ((vs.set (2 * i) (.int (own_lo x))).set (2 * i + 1) (.int (own_hi x))) (.int (0 : Int32))
set_option maxRecDepth 65536 in
set_option maxHeartbeats 40000000 in
theorem rm_u_put {l : Launch} {Z : State} {a0 : Array Value} {N : Nat} (hw : ∀ d ∈ tables_1, d.before a0 Z = true) (b : Addr) (qb : ClassId) (n : Nat) (vs : List Value) (i : Nat) (x : Int32) (h0 : Heap) (I : Lts) (P0 : Sta Z Z.heap "java/lang/StringUTF16" "$assertionsDisabled" "Z" (.int (1 : Int32))) (P1 : Sta Z Z.heap "java/lang/StringUTF16" "HI_BYTE_SHIFT" "I" (.int (0 : Int32))) (P2 : Sta Z Z.heap "java/lang/StringUTF16" "LO_BYTE_SHIFT" "I" (.int (8 : Int32))) (P3 : Arv Z h0 b qb .byte (Int32.ofNat (2 * n)) vs (.int (0 : Int32))) (P4 : N ≤ b) (hl : vs.length = 2 * n) (hi : i < n) (hn : n < 1000000) :
    Cn l Z N b_u_put #[(.ref b), (.int (Int32.ofNat i)), (.int x)] h0 I (Q_u_put Z N b qb n vs i x h0 I) := by
  refine Cn.of_wk (Ls := #[.val (.ref b), .val (.int (Int32.ofNat i)), .val (.int x)]) (plainFor_of_name (by first | (simp [plainName, overriddenIn]; done) | decide +kernel)) (fun m => ef_u_put m b (Int32.ofNat i) x) ?_
  refine Wk.getS (a0 := a0) (pc' := 3) (host := "") (Or.inl (w114 hw)) Via.refl P0 d26_0 rfl ?_
  refine Wk.if_neY (pc' := 28) d26_3 (by decide) (by decide) ?_
  refine Wk.iloadN (pc' := 29) d26_28 rfl rfl ?_
  refine Wk.iconst (pc' := 30) (v := 1) d26_29 rfl rfl ?_
  refine Wk.ishl (pc' := 31) d26_30 rfl ?_
  rw [own_shl1 (show i < 1073741824 by omega)]
  refine Wk.istoreN (pc' := 32) #[.val (.ref b), .val (.int (Int32.ofNat (2 * i))), .val (.int x)] d26_31 rfl rfl ?_
  refine Wk.aloadN (pc' := 33) d26_32 rfl rfl rfl ?_
  refine Wk.iloadN (pc' := 34) d26_33 rfl rfl ?_
  refine Wk.iinc (pc' := 37) (v := 1) (Ls' := #[.val (.ref b), .val (.int ((Int32.ofNat (2 * i)) + (1 : Int32))), .val (.int x)]) d26_34 rfl rfl rfl rfl ?_
  rw [own_succ (show 2 * i < 2147483647 by omega)]
  refine Wk.iloadN (pc' := 38) d26_37 rfl rfl ?_
  refine Wk.getS (a0 := a0) (pc' := 41) (host := "") (Or.inl (w115 hw)) Via.refl P1 d26_38 rfl ?_
  refine Wk.ishr (pc' := 42) d26_41 rfl ?_
  refine Wk.i2b (pc' := 43) d26_42 rfl ?_
  refine Wk.bastore (pc' := 44) P3 P4 (own_in (by omega) (by omega)) (2 * i) (own_clamp (by omega)) (by rw [hl]; omega) d26_43 rfl fun h1 W2 A3 => ?_
  have A4 : Arv Z h1 b qb .byte (Int32.ofNat (2 * n)) (vs.set (2 * i) (.int (own_lo x))) (.int (0 : Int32)) := by
    have q : Arv Z h1 b qb .byte (Int32.ofNat (2 * n)) (vs.set (2 * i) (.int (nar .byte (own_lo x)))) (.int (0 : Int32)) := A3
    rw [show nar .byte (own_lo x) = own_lo x from own_nb _] at q
    exact q
  refine Wk.aloadN (pc' := 45) d26_44 rfl rfl rfl ?_
  refine Wk.iloadN (pc' := 46) d26_45 rfl rfl ?_
  refine Wk.iloadN (pc' := 47) d26_46 rfl rfl ?_
  refine Wk.getS (a0 := a0) (pc' := 50) (host := "") (Or.inl (w116 hw)) Via.refl P2 d26_47 rfl ?_
  refine Wk.ishr (pc' := 51) d26_50 rfl ?_
  refine Wk.i2b (pc' := 52) d26_51 rfl ?_
  refine Wk.bastore (pc' := 53) A4 P4 (own_in (by omega) (by omega)) (2 * i + 1) (own_clamp (by omega)) (by rw [List.length_set, hl]; omega) d26_52 rfl fun h5 W6 A7 => ?_
  have A8 : Arv Z h5 b qb .byte (Int32.ofNat (2 * n)) ((vs.set (2 * i) (.int (own_lo x))).set (2 * i + 1) (.int (own_hi x))) (.int (0 : Int32)) := by
    have q : Arv Z h5 b qb .byte (Int32.ofNat (2 * n)) ((vs.set (2 * i) (.int (own_lo x))).set (2 * i + 1) (.int (nar .byte (own_hi x)))) (.int (0 : Int32)) := A7
    rw [show nar .byte (own_hi x) = own_hi x from own_nb _] at q
    exact q
  exact Wk.return_ rfl d26_53 (Nat.le_of_ble_eq_true rfl) (Nat.le_of_ble_eq_true rfl) ⟨rfl, rfl, (((Keep.refl h0 [b]).wr W2 (Or.inl (by simp))).wr W6 (Or.inl (by simp))), A8⟩
theorem ef_u_tb (m : MethodId) (x0 : Addr) (x1 : Int32) (x2 : Int32) : entryFrame m #[(.ref x0), (.int x1), (.int x2)] 5 = mkF m 0 #[.val (.ref x0), .val (.int x1), .val (.int x2), .unset, .unset] [] := by first | (simp [entryFrame, mkF, argsToLocals, Value.category]; done) | rfl
abbrev b_u_tb : Bdy := ((⟨"java/lang/StringUTF16", "toBytes", "([CII)[B"⟩ : MethodName), jdk_52_method_14_code, 5, (Option.some (Jvm.ClassFile.FieldType.array Jvm.ClassFile.FieldType.byte)), ({ frames := 2, cells := 1, slots := 8, locals := 30 } : Room))
def Q_u_tb (Z : State) (N : Nat) (c : Addr) (q : ClassId) (cl : List Int32) (h0 : Heap) (I : Lts) (v : Option Value) (h : Heap) (J : Lts) : Prop := ∃ b : Addr, ∃ qb : ClassId, I = J ∧ v = some (.ref b) ∧ Ext h0 h ∧ h0.size ≤ b ∧ N ≤ b ∧ Arv Z h b qb .byte (Int32.ofNat (2 * cl.length)) (own_u cl) (.int (0 : Int32))
set_option maxRecDepth 65536 in
set_option maxHeartbeats 40000000 in
theorem rm_u_tb {l : Launch} {Z : State} {a0 : Array Value} {N : Nat} (hw : ∀ d ∈ tables_1, d.before a0 Z = true) (c : Addr) (q : ClassId) (cl : List Int32) (h0 : Heap) (I : Lts) (P0 : Sta Z Z.heap "java/lang/StringUTF16" "$assertionsDisabled" "Z" (.int (1 : Int32))) (P1 : Sta Z Z.heap "java/lang/StringUTF16" "HI_BYTE_SHIFT" "I" (.int (0 : Int32))) (P2 : Sta Z Z.heap "java/lang/StringUTF16" "LO_BYTE_SHIFT" "I" (.int (8 : Int32))) (P3 : Arv Z h0 c q .char (Int32.ofNat cl.length) (cl.map Value.int) (.int (0 : Int32))) (hn : cl.length ≤ 4) (hD : own_D cl) :
    Cn l Z N b_u_tb #[(.ref c), (.int (0 : Int32)), (.int (Int32.ofNat cl.length))] h0 I (Q_u_tb Z N c q cl h0 I) := by
  refine Cn.of_wk (Ls := #[.val (.ref c), .val (.int (0 : Int32)), .val (.int (Int32.ofNat cl.length)), .unset, .unset]) (plainFor_of_name (by first | (simp [plainName, overriddenIn]; done) | decide +kernel)) (fun m => ef_u_tb m c (0 : Int32) (Int32.ofNat cl.length)) ?_
  refine Wk.iloadN (pc' := 1) d23_0 rfl rfl ?_
  refine Wk.callS (a0 := a0) (pc' := 4) (k' := 1) (n' := 8) (W := 0) (b := b_u_nbf) (argsL := [(.int (Int32.ofNat cl.length))]) (rest := []) (rm_u_nbf hw cl h0 I hn) (w104 hw) (w105 hw) (w93 hw) (w106 hw) (by decide) (Nat.le_refl _) id (Nat.le_of_ble_eq_true rfl) (Nat.le_of_ble_eq_true rfl) rfl rfl (Nat.le_of_ble_eq_true rfl) (Nat.le_of_ble_eq_true rfl) rfl pd10 rfl rfl rfl (Nat.le_of_ble_eq_true rfl) d23_1 rfl fun v1 h2 J3 hs4 hQ5 => ?_
  obtain ⟨b6, qb7, rfl, rfl, E8, g9, g10, g11⟩ := hQ5
  have ne12 : c ≠ b6 := Nat.ne_of_lt (Nat.lt_of_lt_of_le P3.lt g9)
  show Wk _ h2 1 8 I 4 #[.val (.ref c), .val (.int (0 : Int32)), .val (.int (Int32.ofNat cl.length)), .unset, .unset] [(.ref b6)]
  refine Wk.astoreN (pc' := 5) #[.val (.ref c), .val (.int (0 : Int32)), .val (.int (Int32.ofNat cl.length)), .val (.ref b6), .unset] d23_4 rfl rfl rfl ?_
  refine Wk.iconst (pc' := 6) (v := 0) d23_5 rfl rfl ?_
  refine Wk.istore (pc' := 8) #[.val (.ref c), .val (.int (0 : Int32)), .val (.int (Int32.ofNat cl.length)), .val (.ref b6), .val (.int (0 : Int32))] d23_6 rfl rfl ?_
  have loop : ∀ (d : Nat) (i : Nat) (hX13 : Heap), (Arv Z hX13 b6 qb7 .byte (Int32.ofNat (2 * cl.length)) (own_uf cl i) (.int (0 : Int32))) → (i + d = cl.length) → (Keep h0 hX13 []) → Wk (l, Z, N, h0.size, b_u_tb, Q_u_tb Z N c q cl h0 I) hX13 1 8 I 8 #[.val (.ref c), .val (.int (Int32.ofNat i)), .val (.int (Int32.ofNat cl.length)), .val (.ref b6), .val (.int (Int32.ofNat i))] [] := by
    intro d
    induction d with
    | zero =>
      intro i hX13 y14 hi K15
      refine Wk.iload (pc' := 10) d23_8 rfl rfl ?_
      refine Wk.iloadN (pc' := 11) d23_10 rfl rfl ?_
      refine Wk.icmp_geY (pc' := 32) d23_11 (by decide) (mt (own_lt (by omega) (by omega)).mp (by omega)) ?_
      have A16 : Arv Z hX13 b6 qb7 .byte (Int32.ofNat (2 * cl.length)) (own_u cl) (.int (0 : Int32)) := by
        have q := y14
        rw [show i = cl.length from by omega, own_ufn] at q
        exact q
      refine Wk.aloadN (pc' := 33) d23_32 rfl rfl rfl ?_
      exact Wk.areturn rfl rfl rfl d23_33 (Nat.le_of_ble_eq_true rfl) (Nat.le_of_ble_eq_true rfl) ⟨b6, qb7, rfl, rfl, (own_ext ((Keep.refl h0 []).trans K15 all0)), g9, g10, A16⟩
    | succ d ih =>
      intro i hX13 y14 hi K15
      refine Wk.iload (pc' := 10) d23_8 rfl rfl ?_
      refine Wk.iloadN (pc' := 11) d23_10 rfl rfl ?_
      refine Wk.icmp_geN (pc' := 14) d23_11 rfl ((own_lt (by omega) (by omega)).mpr (by omega)) ?_
      refine Wk.aloadN (pc' := 15) d23_14 rfl rfl rfl ?_
      refine Wk.iload (pc' := 17) d23_15 rfl rfl ?_
      refine Wk.aloadN (pc' := 18) d23_17 rfl rfl rfl ?_
      refine Wk.iloadN (pc' := 19) d23_18 rfl rfl ?_
      have f17 := (P3.keep K15 nin0)
      refine Wk.caload (pc' := 20) (v := (.int (cl.getD i 0))) f17 (own_in (by omega) (by omega)) (by rw [own_clamp (by omega)]; exact own_geti cl i) d23_19 rfl ?_
      refine Wk.callS (a0 := a0) (pc' := 23) (k' := 1) (n' := 8) (W := 0) (b := b_u_put) (argsL := [(.ref b6), (.int (Int32.ofNat i)), (.int (cl.getD i 0))]) (rest := []) (rm_u_put hw b6 qb7 cl.length (own_uf cl i) i (cl.getD i 0) hX13 I P0 P1 P2 y14 g10 (own_uf_len (by omega)) (by omega) (by omega)) (w111 hw) (w112 hw) (w93 hw) (w113 hw) (by decide) (Nat.le_refl _) id (Nat.le_of_ble_eq_true rfl) (Nat.le_of_ble_eq_true rfl) rfl rfl (Nat.le_of_ble_eq_true rfl) (Nat.le_of_ble_eq_true rfl) rfl pd11 rfl rfl rfl (Nat.le_of_ble_eq_true rfl) d23_20 rfl fun v18 h19 J20 hs21 hQ22 => ?_
      obtain ⟨rfl, rfl, K23, g24⟩ := hQ22
      show Wk _ h19 1 8 I 23 #[.val (.ref c), .val (.int (Int32.ofNat i)), .val (.int (Int32.ofNat cl.length)), .val (.ref b6), .val (.int (Int32.ofNat i))] []
      have A25 : Arv Z h19 b6 qb7 .byte (Int32.ofNat (2 * cl.length)) (own_uf cl (i + 1)) (.int (0 : Int32)) := by rw [← own_uf_set cl i (by omega)]; exact g24
      refine Wk.iinc (pc' := 26) (v := 1) (Ls' := #[.val (.ref c), .val (.int ((Int32.ofNat i) + (1 : Int32))), .val (.int (Int32.ofNat cl.length)), .val (.ref b6), .val (.int (Int32.ofNat i))]) d23_23 rfl rfl rfl rfl ?_
      refine Wk.iinc (pc' := 29) (v := 1) (Ls' := #[.val (.ref c), .val (.int ((Int32.ofNat i) + (1 : Int32))), .val (.int (Int32.ofNat cl.length)), .val (.ref b6), .val (.int ((Int32.ofNat i) + (1 : Int32)))]) d23_26 rfl rfl rfl rfl ?_
      rw [own_succ (show i < 2147483647 by omega)]
      refine Wk.goto (pc' := 8) d23_29 (by decide) ?_
      exact ih (i + 1) h19 A25 (by omega) (((Keep.refl h0 []).trans K15 all0).trans K23 (allS (Or.inr g9) all0))
  exact loop cl.length 0 h2 g11 (by omega) ((Keep.refl h0 []).ext E8)
theorem ef_u_get (m : MethodId) (x0 : Addr) (x1 : Int32) : entryFrame m #[(.ref x0), (.int x1)] 2 = mkF m 0 #[.val (.ref x0), .val (.int x1)] [] := by first | (simp [entryFrame, mkF, argsToLocals, Value.category]; done) | rfl
abbrev b_u_get : Bdy := ((⟨"java/lang/StringUTF16", "getChar", "([BI)C"⟩ : MethodName), jdk_52_method_5_code, 2, (Option.some Jvm.ClassFile.FieldType.char), ({ frames := 0, cells := 0, slots := 0, locals := 0 } : Room))
def Q_u_get (Z : State) (N : Nat) (b : Addr) (qb : ClassId) (cl : List Int32) (i : Nat) (h0 : Heap) (I : Lts) (v : Option Value) (h : Heap) (J : Lts) : Prop := I = J ∧ v = some (.int (cl.getD i 0)) ∧ h0 = h
set_option maxRecDepth 65536 in
set_option maxHeartbeats 40000000 in
theorem rm_u_get {l : Launch} {Z : State} {a0 : Array Value} {N : Nat} (hw : ∀ d ∈ tables_1, d.before a0 Z = true) (b : Addr) (qb : ClassId) (cl : List Int32) (i : Nat) (h0 : Heap) (I : Lts) (P0 : Sta Z Z.heap "java/lang/StringUTF16" "$assertionsDisabled" "Z" (.int (1 : Int32))) (P1 : Sta Z Z.heap "java/lang/StringUTF16" "HI_BYTE_SHIFT" "I" (.int (0 : Int32))) (P2 : Sta Z Z.heap "java/lang/StringUTF16" "LO_BYTE_SHIFT" "I" (.int (8 : Int32))) (P3 : Arv Z h0 b qb .byte (Int32.ofNat (2 * cl.length)) (own_u cl) (.int (0 : Int32))) (hi : i < cl.length) (hn : cl.length < 1000000) (hD : own_D cl) :
    Cn l Z N b_u_get #[(.ref b), (.int (Int32.ofNat i))] h0 I (Q_u_get Z N b qb cl i h0 I) := by
  refine Cn.of_wk (Ls := #[.val (.ref b), .val (.int (Int32.ofNat i))]) (plainFor_of_name (by first | (simp [plainName, overriddenIn]; done) | decide +kernel)) (fun m => ef_u_get m b (Int32.ofNat i)) ?_
  refine Wk.getS (a0 := a0) (pc' := 3) (host := "") (Or.inl (w114 hw)) Via.refl P0 d27_0 rfl ?_
  refine Wk.if_neY (pc' := 28) d27_3 (by decide) (by decide) ?_
  refine Wk.iloadN (pc' := 29) d27_28 rfl rfl ?_
  refine Wk.iconst (pc' := 30) (v := 1) d27_29 rfl rfl ?_
  refine Wk.ishl (pc' := 31) d27_30 rfl ?_
  rw [own_shl1 (show i < 1073741824 by omega)]
  refine Wk.istoreN (pc' := 32) #[.val (.ref b), .val (.int (Int32.ofNat (2 * i)))] d27_31 rfl rfl ?_
  refine Wk.aloadN (pc' := 33) d27_32 rfl rfl rfl ?_
  refine Wk.iloadN (pc' := 34) d27_33 rfl rfl ?_
  refine Wk.iinc (pc' := 37) (v := 1) (Ls' := #[.val (.ref b), .val (.int ((Int32.ofNat (2 * i)) + (1 : Int32)))]) d27_34 rfl rfl rfl rfl ?_
  rw [own_succ (show 2 * i < 2147483647 by omega)]
  refine Wk.baload (pc' := 38) (v := (.int (own_lo (cl.getD i 0)))) P3 (own_in (by omega) (by omega)) (by rw [own_clamp (by omega)]; exact own_u0 cl i) d27_37 rfl ?_
  refine Wk.sipush (pc' := 41) (v := 255) d27_38 rfl rfl ?_
  refine Wk.iand (pc' := 42) d27_41 rfl ?_
  refine Wk.getS (a0 := a0) (pc' := 45) (host := "") (Or.inl (w115 hw)) Via.refl P1 d27_42 rfl ?_
  refine Wk.ishl (pc' := 46) d27_45 rfl ?_
  refine Wk.aloadN (pc' := 47) d27_46 rfl rfl rfl ?_
  refine Wk.iloadN (pc' := 48) d27_47 rfl rfl ?_
  refine Wk.baload (pc' := 49) (v := (.int (own_hi (cl.getD i 0)))) P3 (own_in (by omega) (by omega)) (by rw [own_clamp (by omega)]; exact own_u1 cl i) d27_48 rfl ?_
  refine Wk.sipush (pc' := 52) (v := 255) d27_49 rfl rfl ?_
  refine Wk.iand (pc' := 53) d27_52 rfl ?_
  refine Wk.getS (a0 := a0) (pc' := 56) (host := "") (Or.inl (w116 hw)) Via.refl P2 d27_53 rfl ?_
  refine Wk.ishl (pc' := 57) d27_56 rfl ?_
  refine Wk.ior (pc' := 58) d27_57 rfl ?_
  refine Wk.i2c (pc' := 59) d27_58 rfl ?_
  exact Wk.zreturn rfl (by simp) d27_59 (Nat.le_of_ble_eq_true rfl) (Nat.le_of_ble_eq_true rfl) ⟨rfl, (by rw [own_gc (own_Dget hD i)]), rfl⟩
theorem ef_u_cm3 (m : MethodId) (x0 : Addr) (x1 : Int32) (x2 : Int32) : entryFrame m #[(.ref x0), (.int x1), (.int x2)] 6 = mkF m 0 #[.val (.ref x0), .val (.int x1), .val (.int x2), .unset, .unset, .unset] [] := by first | (simp [entryFrame, mkF, argsToLocals, Value.category]; done) | rfl
abbrev b_u_cm3 : Bdy := ((⟨"java/lang/StringUTF16", "compress", "([CII)[B"⟩ : MethodName), jdk_52_method_16_code, 6, (Option.some (Jvm.ClassFile.FieldType.array Jvm.ClassFile.FieldType.byte)), ({ frames := 3, cells := 2, slots := 12, locals := 46 } : Room))
def Q_u_cm3 (Z : State) (N : Nat) (c : Addr) (q : ClassId) (cl : List Int32) (h0 : Heap) (I : Lts) (v : Option Value) (h : Heap) (J : Lts) : Prop := ∃ b : Addr, ∃ qb : ClassId, I = J ∧ v = some (.ref b) ∧ Ext h0 h ∧ h0.size ≤ b ∧ N ≤ b ∧ Arv Z h b qb .byte (Int32.ofNat (2 * cl.length)) (own_u cl) (.int (0 : Int32))
set_option maxRecDepth 65536 in
set_option maxHeartbeats 40000000 in
theorem rm_u_cm3 {l : Launch} {Z : State} {a0 : Array Value} {N : Nat} (hw : ∀ d ∈ tables_1, d.before a0 Z = true) (c : Addr) (q : ClassId) (cl : List Int32) (h0 : Heap) (I : Lts) (P0 : Sta Z Z.heap "java/lang/StringUTF16" "$assertionsDisabled" "Z" (.int (1 : Int32))) (P1 : Sta Z Z.heap "java/lang/StringUTF16" "HI_BYTE_SHIFT" "I" (.int (0 : Int32))) (P2 : Sta Z Z.heap "java/lang/StringUTF16" "LO_BYTE_SHIFT" "I" (.int (8 : Int32))) (P3 : Arv Z h0 c q .char (Int32.ofNat cl.length) (cl.map Value.int) (.int (0 : Int32))) (hn : cl.length ≤ 4) (hD : own_D cl) (hL : ¬ own_L cl) :
    Cn l Z N b_u_cm3 #[(.ref c), (.int (0 : Int32)), (.int (Int32.ofNat cl.length))] h0 I (Q_u_cm3 Z N c q cl h0 I) := by
  refine Cn.of_wk (Ls := #[.val (.ref c), .val (.int (0 : Int32)), .val (.int (Int32.ofNat cl.length)), .unset, .unset, .unset]) (plainFor_of_name (by first | (simp [plainName, overriddenIn]; done) | decide +kernel)) (fun m => ef_u_cm3 m c (0 : Int32) (Int32.ofNat cl.length)) ?_
  refine Wk.iloadN (pc' := 1) d20_0 rfl rfl ?_
  refine Wk.newP (a0 := a0) (aty := .byte) (pc' := 3) (k' := 1) (n' := 4) (cap := 4) (w21 hw) d20_1 rfl (own_in (n := 5) (by omega) (by decide)).1 (by rw [own_clamp (by omega)]; exact hn) (by decide) rfl rfl (Nat.le_of_ble_eq_true rfl) (Nat.le_of_ble_eq_true rfl) fun a1 h2 q3 hg4 hN5 E6 A7 => ?_
  have ne8 : c ≠ a1 := Nat.ne_of_lt (Nat.lt_of_lt_of_le P3.lt hg4)
  have A9 : Arv Z h2 a1 q3 .byte (Int32.ofNat cl.length) (own_fill cl 0) (.int (0 : Int32)) := by rw [own_fill0]; exact A7.pad (pad_rep [] _ cl.length)
  refine Wk.astoreN (pc' := 4) #[.val (.ref c), .val (.int (0 : Int32)), .val (.int (Int32.ofNat cl.length)), .val (.ref a1), .unset, .unset] d20_3 rfl rfl rfl ?_
  refine Wk.aloadN (pc' := 5) d20_4 rfl rfl rfl ?_
  refine Wk.iloadN (pc' := 6) d20_5 rfl rfl ?_
  refine Wk.aloadN (pc' := 7) d20_6 rfl rfl rfl ?_
  refine Wk.iconst (pc' := 8) (v := 0) d20_7 rfl rfl ?_
  refine Wk.iloadN (pc' := 9) d20_8 rfl rfl ?_
  have f10 := (P3.ext E6)
  refine Wk.callS (a0 := a0) (pc' := 12) (k' := 1) (n' := 4) (W := 0) (b := b_u_cm5) (argsL := [(.ref c), (.int (0 : Int32)), (.ref a1), (.int (0 : Int32)), (.int (Int32.ofNat cl.length))]) (rest := []) (rm_u_cm5 hw c a1 q q3 cl h2 I f10 A9 hN5 ne8 (by omega) hD hL) (w95 hw) (w96 hw) (w93 hw) (w97 hw) (by decide) (Nat.le_refl _) id (Nat.le_of_ble_eq_true rfl) (Nat.le_of_ble_eq_true rfl) rfl rfl (Nat.le_of_ble_eq_true rfl) (Nat.le_of_ble_eq_true rfl) rfl pd5 rfl rfl rfl (Nat.le_of_ble_eq_true rfl) d20_9 rfl fun v11 h12 J13 hs14 hQ15 => ?_
  obtain ⟨k16, rfl, rfl, K17, g18⟩ := hQ15
  show Wk _ h12 1 4 I 12 #[.val (.ref c), .val (.int (0 : Int32)), .val (.int (Int32.ofNat cl.length)), .val (.ref a1), .unset, .unset] [(.int (Int32.ofNat k16))]
  refine Wk.istore (pc' := 14) #[.val (.ref c), .val (.int (0 : Int32)), .val (.int (Int32.ofNat cl.length)), .val (.ref a1), .val (.int (Int32.ofNat k16)), .unset] d20_12 rfl rfl ?_
  refine Wk.iload (pc' := 16) d20_14 rfl rfl ?_
  refine Wk.iloadN (pc' := 17) d20_16 rfl rfl ?_
  refine Wk.icmp_eqN (pc' := 20) d20_17 rfl (mt (own_eq (by have := g18.1; omega) (by omega)).mp (by have := g18.1; omega)) ?_
  refine Wk.aloadN (pc' := 21) d20_20 rfl rfl rfl ?_
  refine Wk.iloadN (pc' := 22) d20_21 rfl rfl ?_
  refine Wk.iloadN (pc' := 23) d20_22 rfl rfl ?_
  have f19 := (f10.keep K17 (ninS ne8 nin0))
  refine Wk.callS (a0 := a0) (pc' := 26) (k' := 2) (n' := 12) (W := 0) (b := b_u_tb) (argsL := [(.ref c), (.int (0 : Int32)), (.int (Int32.ofNat cl.length))]) (rest := []) (rm_u_tb hw c q cl h12 I P0 P1 P2 f19 hn hD) (w101 hw) (w102 hw) (w93 hw) (w103 hw) (by decide) (Nat.le_refl _) id (Nat.le_of_ble_eq_true rfl) (Nat.le_of_ble_eq_true rfl) rfl rfl (Nat.le_of_ble_eq_true rfl) (Nat.le_of_ble_eq_true rfl) rfl pd6 rfl rfl rfl (Nat.le_of_ble_eq_true rfl) d20_23 rfl fun v20 h21 J22 hs23 hQ24 => ?_
  obtain ⟨b25, qb26, rfl, rfl, E27, g28, g29, g30⟩ := hQ24
  have ne31 : c ≠ b25 := Nat.ne_of_lt (Nat.lt_of_lt_of_le f19.lt g28)
  show Wk _ h21 2 12 I 26 #[.val (.ref c), .val (.int (0 : Int32)), .val (.int (Int32.ofNat cl.length)), .val (.ref a1), .val (.int (Int32.ofNat k16)), .unset] [(.ref b25)]
  refine Wk.astore (pc' := 28) #[.val (.ref c), .val (.int (0 : Int32)), .val (.int (Int32.ofNat cl.length)), .val (.ref a1), .val (.int (Int32.ofNat k16)), .val (.ref b25)] d20_26 rfl rfl rfl ?_
  refine Wk.aload (pc' := 30) d20_28 rfl rfl rfl ?_
  refine Wk.iload (pc' := 32) d20_30 rfl rfl ?_
  refine Wk.callS (a0 := a0) (pc' := 35) (k' := 2) (n' := 12) (W := 0) (b := b_u_get) (argsL := [(.ref b25), (.int (Int32.ofNat k16))]) (rest := []) (rm_u_get hw b25 qb26 cl k16 h21 I P0 P1 P2 g30 g18.1 (by omega) hD) (w117 hw) (w118 hw) (w93 hw) (w119 hw) (by decide) (Nat.le_refl _) id (Nat.le_of_ble_eq_true rfl) (Nat.le_of_ble_eq_true rfl) rfl rfl (Nat.le_of_ble_eq_true rfl) (Nat.le_of_ble_eq_true rfl) rfl pd4 rfl rfl rfl (Nat.le_of_ble_eq_true rfl) d20_32 rfl fun v32 h33 J34 hs35 hQ36 => ?_
  obtain ⟨rfl, rfl, rfl⟩ := hQ36
  show Wk _ h21 2 12 I 35 #[.val (.ref c), .val (.int (0 : Int32)), .val (.int (Int32.ofNat cl.length)), .val (.ref a1), .val (.int (Int32.ofNat k16)), .val (.ref b25)] [(.int (cl.getD k16 0))]
  refine Wk.sipush (pc' := 38) (v := 255) d20_35 rfl rfl ?_
  refine Wk.icmp_gtY (pc' := 54) d20_38 (by decide) g18.2 ?_
  refine Wk.aload (pc' := 56) d20_54 rfl rfl rfl ?_
  exact Wk.areturn rfl rfl rfl d20_56 (Nat.le_of_ble_eq_true rfl) (Nat.le_of_ble_eq_true rfl) ⟨b25, qb26, rfl, rfl, (own_ext ((((Keep.refl h0 []).ext E6).trans K17 (allS (Or.inr hg4) all0)).ext E27)), (Nat.le_trans (Nat.le_trans E6.1 K17.1) g28), g29, g30⟩
theorem ef_u_cfa (m : MethodId) (x0 : Addr) (x1 : Int32) : entryFrame m #[(.ref x0), (.int x1)] 2 = mkF m 0 #[.val (.ref x0), .val (.int x1)] [] := by first | (simp [entryFrame, mkF, argsToLocals, Value.category]; done) | rfl
abbrev b_u_cfa : Bdy := ((⟨"java/lang/StringUTF16", "coderFromArrayLen", "([BI)B"⟩ : MethodName), jdk_52_method_15_code, 2, (Option.some Jvm.ClassFile.FieldType.byte), ({ frames := 0, cells := 0, slots := 0, locals := 0 } : Room))
def Q_u_cfa (Z : State) (N : Nat) (b : Addr) (qb : ClassId) (cl : List Int32) (h0 : Heap) (I : Lts) (v : Option Value) (h : Heap) (J : Lts) : Prop := I = J ∧ v = some (.int (1 : Int32)) ∧ h0 = h
set_option maxRecDepth 65536 in
set_option maxHeartbeats 40000000 in
theorem rm_u_cfa {l : Launch} {Z : State} {a0 : Array Value} {N : Nat} (hw : ∀ d ∈ tables_1, d.before a0 Z = true) (b : Addr) (qb : ClassId) (cl : List Int32) (h0 : Heap) (I : Lts) (P0 : Arv Z h0 b qb .byte (Int32.ofNat (2 * cl.length)) (own_u cl) (.int (0 : Int32))) (hp0 : 0 < cl.length) (hn : cl.length < 1000000) :
    Cn l Z N b_u_cfa #[(.ref b), (.int (Int32.ofNat cl.length))] h0 I (Q_u_cfa Z N b qb cl h0 I) := by
  refine Cn.of_wk (Ls := #[.val (.ref b), .val (.int (Int32.ofNat cl.length))]) (plainFor_of_name (by first | (simp [plainName, overriddenIn]; done) | decide +kernel)) (fun m => ef_u_cfa m b (Int32.ofNat cl.length)) ?_
  refine Wk.iloadN (pc' := 1) d22_0 rfl rfl ?_
  refine Wk.aloadN (pc' := 2) d22_1 rfl rfl rfl ?_
  refine Wk.arraylength (pc' := 3) P0 d22_2 rfl ?_
  refine Wk.isub (pc' := 4) d22_3 rfl ?_
  refine Wk.bipush (pc' := 6) (v := 31) d22_4 rfl rfl ?_
  refine Wk.iushr (pc' := 7) d22_6 rfl ?_
  refine Wk.i2b (pc' := 8) d22_7 rfl ?_
  exact Wk.zreturn rfl (by simp) d22_8 (Nat.le_of_ble_eq_true rfl) (Nat.le_of_ble_eq_true rfl) ⟨rfl, (by rw [own_cfau hp0 (by omega)]), rfl⟩
theorem ef_u_in5 (m : MethodId) (x0 : Addr) (x1 : Addr) (x2 : Int32) (x3 : Int32) : entryFrame m #[(.ref x0), (.ref x1), (.int x2), (.int x3), .null] 6 = mkF m 0 #[.val (.ref x0), .val (.ref x1), .val (.int x2), .val (.int x3), .val .null, .unset] [] := by first | (simp [entryFrame, mkF, argsToLocals, Value.category]; done) | rfl
abbrev b_u_in5 : Bdy := ((⟨"java/lang/String", "<init>", "([CIILjava/lang/Void;)V"⟩ : MethodName), jdk_42_method_149_code, 6, (Option.none : Option Jvm.ClassFile.FieldType), ({ frames := 4, cells := 2, slots := 12, locals := 63 } : Room))
def Q_u_in5 (Z : State) (N : Nat) (a : Addr) (c : Addr) (q : ClassId) (cl : List Int32) (cs : Int32) (h0 : Heap) (I : Lts) (v : Option Value) (h : Heap) (J : Lts) : Prop := ∃ v' : Addr, ∃ q' : ClassId, I = J ∧ v = none ∧ Keep h0 h [a] ∧ Fld Z h a "java/lang/String" "value" "[B" (.ref v') ∧ Fld Z h a "java/lang/String" "coder" "B" (.int (1 : Int32)) ∧ Arv Z h v' q' .byte (Int32.ofNat (2 * cl.length)) (own_u cl) (.int (0 : Int32))
set_option maxRecDepth 65536 in
set_option maxHeartbeats 40000000 in
theorem rm_u_in5 {l : Launch} {Z : State} {a0 : Array Value} {N : Nat} (hw : ∀ d ∈ tables_1, d.before a0 Z = true) (a : Addr) (c : Addr) (q : ClassId) (cl : List Int32) (cs : Int32) (h0 : Heap) (I : Lts) (P0 : Sta Z Z.heap "java/lang/String" "COMPACT_STRINGS" "Z" (.int cs)) (G_cs : ¬ cs = (0 : Int32)) (P2 : Sta Z Z.heap "java/lang/StringUTF16" "$assertionsDisabled" "Z" (.int (1 : Int32))) (P3 : Sta Z Z.heap "java/lang/StringUTF16" "HI_BYTE_SHIFT" "I" (.int (0 : Int32))) (P4 : Sta Z Z.heap "java/lang/StringUTF16" "LO_BYTE_SHIFT" "I" (.int (8 : Int32))) (P5 : Exa Z h0 a "java/lang/String") (P6 : Fld Z h0 a "java/lang/String" "value" "[B" .null) (P7 : Fld Z h0 a "java/lang/String" "coder" "B" (.int (0 : Int32))) (P8 : Arv Z h0 c q .char (Int32.ofNat cl.length) (cl.map Value.int) (.int (0 : Int32))) (P9 : N ≤ a) (hn : cl.length ≤ 4) (hD : own_D cl) (hL : ¬ own_L cl) (he : ¬ cl = []) :
    Cn l Z N b_u_in5 #[(.ref a), (.ref c), (.int (0 : Int32)), (.int (Int32.ofNat cl.length)), .null] h0 I (Q_u_in5 Z N a c q cl cs h0 I) := by
  refine Cn.of_wk (Ls := #[.val (.ref a), .val (.ref c), .val (.int (0 : Int32)), .val (.int (Int32.ofNat cl.length)), .val .null, .unset]) (plainFor_of_name (by first | (simp [plainName, overriddenIn]; done) | decide +kernel)) (fun m => ef_u_in5 m a c (0 : Int32) (Int32.ofNat cl.length)) ?_
  refine Wk.aloadN (pc' := 1) d3_0 rfl rfl rfl ?_
  refine Wk.initO (a0 := a0) (pc' := 4) (W := 0) (w17 hw) (w18 hw) (w19 hw) rfl d3_1 rfl (Nat.le_of_ble_eq_true rfl) (Nat.le_of_ble_eq_true rfl) (Nat.le_of_ble_eq_true rfl) ?_
  refine Wk.iloadN (pc' := 5) d3_4 rfl rfl ?_
  refine Wk.if_neY (pc' := 27) d3_5 (by decide) (fun q => he (List.length_eq_zero_iff.mp ((own_eq (j := 0) (by omega) (by decide)).mp q))) ?_
  refine Wk.getS (a0 := a0) (pc' := 30) (host := "") (Or.inl (w40 hw)) Via.refl P0 d3_27 rfl ?_
  refine Wk.if_eqN (pc' := 33) d3_30 rfl G_cs ?_
  refine Wk.aloadN (pc' := 34) d3_33 rfl rfl rfl ?_
  refine Wk.iloadN (pc' := 35) d3_34 rfl rfl ?_
  refine Wk.iloadN (pc' := 36) d3_35 rfl rfl ?_
  refine Wk.callS (a0 := a0) (pc' := 39) (k' := 2) (n' := 12) (W := 0) (b := b_u_cm3) (argsL := [(.ref c), (.int (0 : Int32)), (.int (Int32.ofNat cl.length))]) (rest := []) (rm_u_cm3 hw c q cl h0 I P2 P3 P4 P8 hn hD hL) (w91 hw) (w92 hw) (w93 hw) (w94 hw) (by decide) (Nat.le_refl _) id (Nat.le_of_ble_eq_true rfl) (Nat.le_of_ble_eq_true rfl) rfl rfl (Nat.le_of_ble_eq_true rfl) (Nat.le_of_ble_eq_true rfl) rfl pd6 rfl rfl rfl (Nat.le_of_ble_eq_true rfl) d3_36 rfl fun v1 h2 J3 hs4 hQ5 => ?_
  obtain ⟨b6, qb7, rfl, rfl, E8, g9, g10, g11⟩ := hQ5
  have ne12 : a ≠ b6 := Nat.ne_of_lt (Nat.lt_of_lt_of_le P5.lt g9)
  have ne13 : c ≠ b6 := Nat.ne_of_lt (Nat.lt_of_lt_of_le P8.lt g9)
  show Wk _ h2 2 12 I 39 #[.val (.ref a), .val (.ref c), .val (.int (0 : Int32)), .val (.int (Int32.ofNat cl.length)), .val .null, .unset] [(.ref b6)]
  refine Wk.astore (pc' := 41) #[.val (.ref a), .val (.ref c), .val (.int (0 : Int32)), .val (.int (Int32.ofNat cl.length)), .val .null, .val (.ref b6)] d3_39 rfl rfl rfl ?_
  refine Wk.aloadN (pc' := 42) d3_41 rfl rfl rfl ?_
  refine Wk.aload (pc' := 44) d3_42 rfl rfl rfl ?_
  refine Wk.iloadN (pc' := 45) d3_44 rfl rfl ?_
  refine Wk.callS (a0 := a0) (pc' := 48) (k' := 2) (n' := 12) (W := 1) (b := b_u_cfa) (argsL := [(.ref b6), (.int (Int32.ofNat cl.length))]) (rest := [(.ref a)]) (rm_u_cfa hw b6 qb7 cl h2 I g11 (List.length_pos_iff.mpr he) (by omega)) (w98 hw) (w99 hw) (w93 hw) (w100 hw) (by decide) (Nat.le_refl _) id (Nat.le_of_ble_eq_true rfl) (Nat.le_of_ble_eq_true rfl) rfl rfl (Nat.le_of_ble_eq_true rfl) (Nat.le_of_ble_eq_true rfl) rfl pd7 rfl rfl rfl (Nat.le_of_ble_eq_true rfl) d3_45 rfl fun v14 h15 J16 hs17 hQ18 => ?_
  obtain ⟨rfl, rfl, rfl⟩ := hQ18
  show Wk _ h2 2 12 I 48 #[.val (.ref a), .val (.ref c), .val (.int (0 : Int32)), .val (.int (Int32.ofNat cl.length)), .val .null, .val (.ref b6)] [(.int (1 : Int32)), (.ref a)]
  have f19 := (P5.ext E8)
  have f20 := (P7.ext E8)
  refine Wk.putFN (a0 := a0) (pc' := 51) (v' := (.int (1 : Int32))) (w27 hw) Via.refl P9 f20 f19 (Or.inr ⟨(w23 hw), rfl, rfl⟩) (w7 hw) (ty := .byte) (by decide) rfl rfl d3_48 rfl fun h21 W22 => ?_
  have F23 := f20.same W22
  refine Wk.aloadN (pc' := 52) d3_51 rfl rfl rfl ?_
  refine Wk.aload (pc' := 54) d3_52 rfl rfl rfl ?_
  have f24 := (f19.wr W22)
  have f25 := ((P6.ext E8).other W22 (Or.inr (slot_ne (Or.inr (w22 hw)) (Or.inr (w23 hw)) (by decide) (t := (.array .byte)) (t' := .byte) (by decide) (by decide))))
  refine Wk.putF (a0 := a0) (pc' := 57) (host := "") (Or.inl (w26 hw)) Via.refl P9 f25 f24 (Or.inr ⟨(w22 hw), rfl, rfl⟩) (w7 hw) (ty := (.array .byte)) (by decide) rfl rfl d3_54 rfl fun h26 W27 => ?_
  have F28 := f25.same W27
  have f29 := ((g11.other W22 (Ne.symm ne12)).other W27 (Ne.symm ne12))
  have f30 := (F23.other W27 (Or.inr (slot_ne (Or.inr (w23 hw)) (Or.inr (w22 hw)) (by decide) (t := .byte) (t' := (.array .byte)) (by decide) (by decide))))
  exact Wk.return_ rfl d3_57 (Nat.le_of_ble_eq_true rfl) (Nat.le_of_ble_eq_true rfl) ⟨b6, qb7, rfl, rfl, ((((Keep.refl h0 [a]).ext E8).wr W22 (Or.inl (by simp))).wr W27 (Or.inl (by simp))), F28, f30, f29⟩
theorem ef_u_in1 (m : MethodId) (x0 : Addr) (x1 : Addr) : entryFrame m #[(.ref x0), (.ref x1)] 2 = mkF m 0 #[.val (.ref x0), .val (.ref x1)] [] := by first | (simp [entryFrame, mkF, argsToLocals, Value.category]; done) | rfl
abbrev b_u_in1 : Bdy := ((⟨"java/lang/String", "<init>", "([C)V"⟩ : MethodName), jdk_42_method_3_code, 2, (Option.none : Option Jvm.ClassFile.FieldType), ({ frames := 5, cells := 2, slots := 12, locals := 80 } : Room))
def Q_u_in1 (Z : State) (N : Nat) (a : Addr) (c : Addr) (q : ClassId) (cl : List Int32) (cs : Int32) (h0 : Heap) (I : Lts) (v : Option Value) (h : Heap) (J : Lts) : Prop := ∃ v' : Addr, ∃ q' : ClassId, I = J ∧ v = none ∧ Keep h0 h [a] ∧ Fld Z h a "java/lang/String" "value" "[B" (.ref v') ∧ Fld Z h a "java/lang/String" "coder" "B" (.int (1 : Int32)) ∧ Arv Z h v' q' .byte (Int32.ofNat (2 * cl.length)) (own_u cl) (.int (0 : Int32))
set_option maxRecDepth 65536 in
set_option maxHeartbeats 40000000 in
theorem rm_u_in1 {l : Launch} {Z : State} {a0 : Array Value} {N : Nat} (hw : ∀ d ∈ tables_1, d.before a0 Z = true) (a : Addr) (c : Addr) (q : ClassId) (cl : List Int32) (cs : Int32) (h0 : Heap) (I : Lts) (P0 : Sta Z Z.heap "java/lang/String" "COMPACT_STRINGS" "Z" (.int cs)) (G_cs : ¬ cs = (0 : Int32)) (P2 : Sta Z Z.heap "java/lang/StringUTF16" "$assertionsDisabled" "Z" (.int (1 : Int32))) (P3 : Sta Z Z.heap "java/lang/StringUTF16" "HI_BYTE_SHIFT" "I" (.int (0 : Int32))) (P4 : Sta Z Z.heap "java/lang/StringUTF16" "LO_BYTE_SHIFT" "I" (.int (8 : Int32))) (P5 : Exa Z h0 a "java/lang/String") (P6 : Fld Z h0 a "java/lang/String" "value" "[B" .null) (P7 : Fld Z h0 a "java/lang/String" "coder" "B" (.int (0 : Int32))) (P8 : Arv Z h0 c q .char (Int32.ofNat cl.length) (cl.map Value.int) (.int (0 : Int32))) (P9 : N ≤ a) (hn : cl.length ≤ 4) (hD : own_D cl) (hL : ¬ own_L cl) (he : ¬ cl = []) :
    Cn l Z N b_u_in1 #[(.ref a), (.ref c)] h0 I (Q_u_in1 Z N a c q cl cs h0 I) := by
  refine Cn.of_wk (Ls := #[.val (.ref a), .val (.ref c)]) (plainFor_of_name (by first | (simp [plainName, overriddenIn]; done) | decide +kernel)) (fun m => ef_u_in1 m a c) ?_
  refine Wk.aloadN (pc' := 1) d2_0 rfl rfl rfl ?_
  refine Wk.aloadN (pc' := 2) d2_1 rfl rfl rfl ?_
  refine Wk.iconst (pc' := 3) (v := 0) d2_2 rfl rfl ?_
  refine Wk.aloadN (pc' := 4) d2_3 rfl rfl rfl ?_
  refine Wk.arraylength (pc' := 5) P8 d2_4 rfl ?_
  refine Wk.aconstNull (pc' := 6) d2_5 rfl ?_
  refine Wk.callN (a0 := a0) (pc' := 9) (k' := 2) (n' := 12) (W := 0) (b := b_u_in5) (argsL := [(.ref c), (.int (0 : Int32)), (.int (Int32.ofNat cl.length)), .null]) (rest := []) (rm_u_in5 hw a c q cl cs h0 I P0 G_cs P2 P3 P4 P5 P6 P7 P8 P9 hn hD hL he) rfl rfl (w13 hw) (w14 hw) (w8 hw) (w16 hw) (by decide) (Nat.le_refl _) id (Nat.le_of_ble_eq_true rfl) (Nat.le_of_ble_eq_true rfl) rfl rfl (Nat.le_of_ble_eq_true rfl) (Nat.le_of_ble_eq_true rfl) rfl pd8 rfl rfl rfl (Nat.le_of_ble_eq_true rfl) d2_6 rfl fun v1 h2 J3 hs4 hQ5 => ?_
  obtain ⟨v'6, q'7, rfl, rfl, K8, g9, g10, g11⟩ := hQ5
  show Wk _ h2 2 12 I 9 #[.val (.ref a), .val (.ref c)] []
  exact Wk.return_ rfl d2_9 (Nat.le_of_ble_eq_true rfl) (Nat.le_of_ble_eq_true rfl) ⟨v'6, q'7, rfl, rfl, ((Keep.refl h0 [a]).trans K8 (allS (Or.inl (by simp)) all0)), g9, g10, g11⟩
theorem ef_u_cod (m : MethodId) (x0 : Addr) : entryFrame m #[(.ref x0)] 1 = mkF m 0 #[.val (.ref x0)] [] := by first | (simp [entryFrame, mkF, argsToLocals, Value.category]; done) | rfl
abbrev b_u_cod : Bdy := ((⟨"java/lang/String", "coder", "()B"⟩ : MethodName), jdk_42_method_152_code, 1, (Option.some Jvm.ClassFile.FieldType.byte), ({ frames := 0, cells := 0, slots := 0, locals := 0 } : Room))
def Q_u_cod (Z : State) (N : Nat) (a : Addr) (cs : Int32) (h0 : Heap) (I : Lts) (v : Option Value) (h : Heap) (J : Lts) : Prop := I = J ∧ v = some (.int (1 : Int32)) ∧ h0 = h
set_option maxRecDepth 65536 in
set_option maxHeartbeats 40000000 in
theorem rm_u_cod {l : Launch} {Z : State} {a0 : Array Value} {N : Nat} (hw : ∀ d ∈ tables_1, d.before a0 Z = true) (a : Addr) (cs : Int32) (h0 : Heap) (I : Lts) (P0 : Sta Z Z.heap "java/lang/String" "COMPACT_STRINGS" "Z" (.int cs)) (G_cs : ¬ cs = (0 : Int32)) (P2 : Fld Z h0 a "java/lang/String" "coder" "B" (.int (1 : Int32))) :
    Cn l Z N b_u_cod #[(.ref a)] h0 I (Q_u_cod Z N a cs h0 I) := by
  refine Cn.of_wk (Ls := #[.val (.ref a)]) (plainFor_of_name (by first | (simp [plainName, overriddenIn]; done) | decide +kernel)) (fun m => ef_u_cod m a) ?_
  refine Wk.getS (a0 := a0) (pc' := 3) (host := "") (Or.inl (w40 hw)) Via.refl P0 d14_0 rfl ?_
  refine Wk.if_eqN (pc' := 6) d14_3 rfl G_cs ?_
  refine Wk.aloadN (pc' := 7) d14_6 rfl rfl rfl ?_
  refine Wk.getF (a0 := a0) (pc' := 10) (host := "") (Or.inl (w27 hw)) Via.refl P2 d14_7 rfl ?_
  refine Wk.goto (pc' := 14) d14_10 (by decide) ?_
  exact Wk.zreturn rfl (by simp) d14_14 (Nat.le_of_ble_eq_true rfl) (Nat.le_of_ble_eq_true rfl) ⟨rfl, rfl, rfl⟩
theorem ef_u_len (m : MethodId) (x0 : Addr) : entryFrame m #[(.ref x0)] 1 = mkF m 0 #[.val (.ref x0)] [] := by first | (simp [entryFrame, mkF, argsToLocals, Value.category]; done) | rfl
abbrev b_u_len : Bdy := ((⟨"java/lang/String", "length", "()I"⟩ : MethodName), jdk_42_method_54_code, 1, (Option.some Jvm.ClassFile.FieldType.int), ({ frames := 1, cells := 0, slots := 0, locals := 13 } : Room))
def Q_u_len (Z : State) (N : Nat) (a : Addr) (v' : Addr) (q : ClassId) (cl : List Int32) (cs : Int32) (h0 : Heap) (I : Lts) (v : Option Value) (h : Heap) (J : Lts) : Prop := I = J ∧ v = some (.int (Int32.ofNat cl.length)) ∧ h0 = h
set_option maxRecDepth 65536 in
set_option maxHeartbeats 40000000 in
theorem rm_u_len {l : Launch} {Z : State} {a0 : Array Value} {N : Nat} (hw : ∀ d ∈ tables_1, d.before a0 Z = true) (a : Addr) (v' : Addr) (q : ClassId) (cl : List Int32) (cs : Int32) (h0 : Heap) (I : Lts) (P0 : Sta Z Z.heap "java/lang/String" "COMPACT_STRINGS" "Z" (.int cs)) (G_cs : ¬ cs = (0 : Int32)) (P2 : Exa Z h0 a "java/lang/String") (P3 : Fld Z h0 a "java/lang/String" "value" "[B" (.ref v')) (P4 : Fld Z h0 a "java/lang/String" "coder" "B" (.int (1 : Int32))) (P5 : Arv Z h0 v' q .byte (Int32.ofNat (2 * cl.length)) (own_u cl) (.int (0 : Int32))) (hn : cl.length < 1000000) :
    Cn l Z N b_u_len #[(.ref a)] h0 I (Q_u_len Z N a v' q cl cs h0 I) := by
  refine Cn.of_wk (Ls := #[.val (.ref a)]) (plainFor_of_name (by first | (simp [plainName, overriddenIn]; done) | decide +kernel)) (fun m => ef_u_len m a) ?_
  refine Wk.aloadN (pc' := 1) d13_0 rfl rfl rfl ?_
  refine Wk.getF (a0 := a0) (pc' := 4) (host := "") (Or.inl (w26 hw)) Via.refl P3 d13_1 rfl ?_
  refine Wk.arraylength (pc' := 5) P5 d13_4 rfl ?_
  refine Wk.aloadN (pc' := 6) d13_5 rfl rfl rfl ?_
  refine Wk.callV (a0 := a0) (pc' := 9) (k' := 0) (n' := 0) (W := 1) (b := b_u_cod) (argsL := []) (rest := [(.int (Int32.ofNat (2 * cl.length)))]) (y := (⟨"java/lang/String", "coder", "()B"⟩ : MethodName)) (rm_u_cod hw a cs h0 I P0 G_cs P4) P2 (w65 hw) (w66 hw) (w68 hw) (w68 hw) (w67 hw) (w8 hw) (w69 hw) (by decide) (Nat.le_refl _) id (Nat.le_of_ble_eq_true rfl) (Nat.le_of_ble_eq_true rfl) rfl rfl (Nat.le_of_ble_eq_true rfl) (Nat.le_of_ble_eq_true rfl) rfl pd0 rfl rfl rfl (Nat.le_of_ble_eq_true rfl) d13_6 rfl fun v1 h2 J3 hs4 hQ5 => ?_
  obtain ⟨rfl, rfl, rfl⟩ := hQ5
  show Wk _ h0 0 0 I 9 #[.val (.ref a)] [(.int (1 : Int32)), (.int (Int32.ofNat (2 * cl.length)))]
  refine Wk.ishr (pc' := 10) d13_9 rfl ?_
  exact Wk.ireturn rfl d13_10 (Nat.le_of_ble_eq_true rfl) (Nat.le_of_ble_eq_true rfl) ⟨rfl, (by rw [own_shr1 (by omega)]), rfl⟩
theorem ef_u_emp (m : MethodId) (x0 : Addr) : entryFrame m #[(.ref x0)] 1 = mkF m 0 #[.val (.ref x0)] [] := by first | (simp [entryFrame, mkF, argsToLocals, Value.category]; done) | rfl
abbrev b_u_emp : Bdy := ((⟨"java/lang/String", "isEmpty", "()Z"⟩ : MethodName), jdk_42_method_55_code, 1, (Option.some Jvm.ClassFile.FieldType.boolean), ({ frames := 0, cells := 0, slots := 0, locals := 0 } : Room))
def Q_u_emp (Z : State) (N : Nat) (a : Addr) (v' : Addr) (q : ClassId) (cl : List Int32) (h0 : Heap) (I : Lts) (v : Option Value) (h : Heap) (J : Lts) : Prop := I = J ∧ v = some (.int (own_bi (decide (cl = [])))) ∧ h0 = h
set_option maxRecDepth 65536 in
set_option maxHeartbeats 40000000 in
theorem rm_u_emp {l : Launch} {Z : State} {a0 : Array Value} {N : Nat} (hw : ∀ d ∈ tables_1, d.before a0 Z = true) (a : Addr) (v' : Addr) (q : ClassId) (cl : List Int32) (h0 : Heap) (I : Lts) (P0 : Exa Z h0 a "java/lang/String") (P1 : Fld Z h0 a "java/lang/String" "value" "[B" (.ref v')) (P2 : Fld Z h0 a "java/lang/String" "coder" "B" (.int (1 : Int32))) (P3 : Arv Z h0 v' q .byte (Int32.ofNat (2 * cl.length)) (own_u cl) (.int (0 : Int32))) (he : ¬ cl = []) (hn : cl.length < 1000000) :
    Cn l Z N b_u_emp #[(.ref a)] h0 I (Q_u_emp Z N a v' q cl h0 I) := by
  refine Cn.of_wk (Ls := #[.val (.ref a)]) (plainFor_of_name (by first | (simp [plainName, overriddenIn]; done) | decide +kernel)) (fun m => ef_u_emp m a) ?_
  refine Wk.aloadN (pc' := 1) d6_0 rfl rfl rfl ?_
  refine Wk.getF (a0 := a0) (pc' := 4) (host := "") (Or.inl (w26 hw)) Via.refl P1 d6_1 rfl ?_
  refine Wk.arraylength (pc' := 5) P3 d6_4 rfl ?_
  refine Wk.if_neY (pc' := 12) d6_5 (by decide) (fun q => he (List.length_eq_zero_iff.mp (by have := (own_eq (j := 0) (by omega) (by decide)).mp q; omega))) ?_
  refine Wk.iconst (pc' := 13) (v := 0) d6_12 rfl rfl ?_
  exact Wk.zreturn rfl (by simp) d6_13 (Nat.le_of_ble_eq_true rfl) (Nat.le_of_ble_eq_true rfl) ⟨rfl, (by rw [decide_eq_false he]; rfl), rfl⟩
theorem ef_u_lat (m : MethodId) (x0 : Addr) : entryFrame m #[(.ref x0)] 1 = mkF m 0 #[.val (.ref x0)] [] := by first | (simp [entryFrame, mkF, argsToLocals, Value.category]; done) | rfl
abbrev b_u_lat : Bdy := ((⟨"java/lang/String", "isLatin1", "()Z"⟩ : MethodName), jdk_42_method_154_code, 1, (Option.some Jvm.ClassFile.FieldType.boolean), ({ frames := 0, cells := 0, slots := 0, locals := 0 } : Room))
def Q_u_lat (Z : State) (N : Nat) (a : Addr) (cs : Int32) (h0 : Heap) (I : Lts) (v : Option Value) (h : Heap) (J : Lts) : Prop := I = J ∧ v = some (.int (0 : Int32)) ∧ h0 = h
set_option maxRecDepth 65536 in
set_option maxHeartbeats 40000000 in
theorem rm_u_lat {l : Launch} {Z : State} {a0 : Array Value} {N : Nat} (hw : ∀ d ∈ tables_1, d.before a0 Z = true) (a : Addr) (cs : Int32) (h0 : Heap) (I : Lts) (P0 : Sta Z Z.heap "java/lang/String" "COMPACT_STRINGS" "Z" (.int cs)) (G_cs : ¬ cs = (0 : Int32)) (P2 : Fld Z h0 a "java/lang/String" "coder" "B" (.int (1 : Int32))) :
    Cn l Z N b_u_lat #[(.ref a)] h0 I (Q_u_lat Z N a cs h0 I) := by
  refine Cn.of_wk (Ls := #[.val (.ref a)]) (plainFor_of_name (by first | (simp [plainName, overriddenIn]; done) | decide +kernel)) (fun m => ef_u_lat m a) ?_
  refine Wk.getS (a0 := a0) (pc' := 3) (host := "") (Or.inl (w40 hw)) Via.refl P0 d16_0 rfl ?_
  refine Wk.if_eqN (pc' := 6) d16_3 rfl G_cs ?_
  refine Wk.aloadN (pc' := 7) d16_6 rfl rfl rfl ?_
  refine Wk.getF (a0 := a0) (pc' := 10) (host := "") (Or.inl (w27 hw)) Via.refl P2 d16_7 rfl ?_
  refine Wk.if_neY (pc' := 17) d16_10 (by decide) (by decide) ?_
  refine Wk.iconst (pc' := 18) (v := 0) d16_17 rfl rfl ?_
  exact Wk.zreturn rfl (by simp) d16_18 (Nat.le_of_ble_eq_true rfl) (Nat.le_of_ble_eq_true rfl) ⟨rfl, rfl, rfl⟩
theorem ef_u_bl (m : MethodId) (x0 : Addr) : entryFrame m #[(.ref x0)] 1 = mkF m 0 #[.val (.ref x0)] [] := by first | (simp [entryFrame, mkF, argsToLocals, Value.category]; done) | rfl
abbrev b_u_bl : Bdy := ((⟨"java/lang/StringUTF16", "length", "([B)I"⟩ : MethodName), jdk_52_method_6_code, 1, (Option.some Jvm.ClassFile.FieldType.int), ({ frames := 0, cells := 0, slots := 0, locals := 0 } : Room))
def Q_u_bl (Z : State) (N : Nat) (b : Addr) (qb : ClassId) (cl : List Int32) (h0 : Heap) (I : Lts) (v : Option Value) (h : Heap) (J : Lts) : Prop := I = J ∧ v = some (.int (Int32.ofNat cl.length)) ∧ h0 = h
set_option maxRecDepth 65536 in
set_option maxHeartbeats 40000000 in
theorem rm_u_bl {l : Launch} {Z : State} {a0 : Array Value} {N : Nat} (hw : ∀ d ∈ tables_1, d.before a0 Z = true) (b : Addr) (qb : ClassId) (cl : List Int32) (h0 : Heap) (I : Lts) (P0 : Arv Z h0 b qb .byte (Int32.ofNat (2 * cl.length)) (own_u cl) (.int (0 : Int32))) (hn : cl.length < 1000000) :
    Cn l Z N b_u_bl #[(.ref b)] h0 I (Q_u_bl Z N b qb cl h0 I) := by
  refine Cn.of_wk (Ls := #[.val (.ref b)]) (plainFor_of_name (by first | (simp [plainName, overriddenIn]; done) | decide +kernel)) (fun m => ef_u_bl m b) ?_
  refine Wk.aloadN (pc' := 1) d30_0 rfl rfl rfl ?_
  refine Wk.arraylength (pc' := 2) P0 d30_1 rfl ?_
  refine Wk.iconst (pc' := 3) (v := 1) d30_2 rfl rfl ?_
  refine Wk.ishr (pc' := 4) d30_3 rfl ?_
  exact Wk.ireturn rfl d30_4 (Nat.le_of_ble_eq_true rfl) (Nat.le_of_ble_eq_true rfl) ⟨rfl, (by rw [own_shr1 (by omega)]), rfl⟩
theorem ef_u_chk (m : MethodId) (x0 : Int32) (x1 : Addr) : entryFrame m #[(.int x0), (.ref x1)] 2 = mkF m 0 #[.val (.int x0), .val (.ref x1)] [] := by first | (simp [entryFrame, mkF, argsToLocals, Value.category]; done) | rfl
abbrev b_u_chk : Bdy := ((⟨"java/lang/StringUTF16", "checkIndex", "(I[B)V"⟩ : MethodName), jdk_52_method_91_code, 2, (Option.none : Option Jvm.ClassFile.FieldType), ({ frames := 2, cells := 0, slots := 0, locals := 27 } : Room))
def Q_u_chk (Z : State) (N : Nat) (i : Nat) (b : Addr) (qb : ClassId) (cl : List Int32) (sf : Value) (h0 : Heap) (I : Lts) (v : Option Value) (h : Heap) (J : Lts) : Prop := I = J ∧ v = none ∧ h0 = h
set_option maxRecDepth 65536 in
set_option maxHeartbeats 40000000 in
theorem rm_u_chk {l : Launch} {Z : State} {a0 : Array Value} {N : Nat} (hw : ∀ d ∈ tables_1, d.before a0 Z = true) (i : Nat) (b : Addr) (qb : ClassId) (cl : List Int32) (sf : Value) (h0 : Heap) (I : Lts) (P0 : Sta Z Z.heap "jdk/internal/util/Preconditions" "SIOOBE_FORMATTER" "Ljava/util/function/BiFunction;" sf) (G_sf : sf.isRef = true) (P2 : Arv Z h0 b qb .byte (Int32.ofNat (2 * cl.length)) (own_u cl) (.int (0 : Int32))) (hi : i < cl.length) (hn : cl.length < 1000000) :
    Cn l Z N b_u_chk #[(.int (Int32.ofNat i)), (.ref b)] h0 I (Q_u_chk Z N i b qb cl sf h0 I) := by
  refine Cn.of_wk (Ls := #[.val (.int (Int32.ofNat i)), .val (.ref b)]) (plainFor_of_name (by first | (simp [plainName, overriddenIn]; done) | decide +kernel)) (fun m => ef_u_chk m (Int32.ofNat i) b) ?_
  refine Wk.iloadN (pc' := 1) d29_0 rfl rfl ?_
  refine Wk.aloadN (pc' := 2) d29_1 rfl rfl rfl ?_
  refine Wk.callS (a0 := a0) (pc' := 5) (k' := 0) (n' := 0) (W := 1) (b := b_u_bl) (argsL := [(.ref b)]) (rest := [(.int (Int32.ofNat i))]) (rm_u_bl hw b qb cl h0 I P2 hn) (w126 hw) (w127 hw) (w93 hw) (w128 hw) (by decide) (Nat.le_refl _) id (Nat.le_of_ble_eq_true rfl) (Nat.le_of_ble_eq_true rfl) rfl rfl (Nat.le_of_ble_eq_true rfl) (Nat.le_of_ble_eq_true rfl) rfl pd12 rfl rfl rfl (Nat.le_of_ble_eq_true rfl) d29_2 rfl fun v1 h2 J3 hs4 hQ5 => ?_
  obtain ⟨rfl, rfl, rfl⟩ := hQ5
  show Wk _ h0 0 0 I 5 #[.val (.int (Int32.ofNat i)), .val (.ref b)] [(.int (Int32.ofNat cl.length)), (.int (Int32.ofNat i))]
  refine Wk.callS (a0 := a0) (pc' := 8) (k' := 0) (n' := 0) (W := 0) (b := b_s_chk2) (argsL := [(.int (Int32.ofNat i)), (.int (Int32.ofNat cl.length))]) (rest := []) (rm_s_chk2 hw (Int32.ofNat i) (Int32.ofNat cl.length) sf h0 I P0 G_sf (own_idx hi (by omega)).1 (own_idx hi (by omega)).2) (w129 hw) (w84 hw) (w8 hw) (w85 hw) (by decide) (Nat.le_refl _) id (Nat.le_of_ble_eq_true rfl) (Nat.le_of_ble_eq_true rfl) rfl rfl (Nat.le_of_ble_eq_true rfl) (Nat.le_of_ble_eq_true rfl) rfl pd2 rfl rfl rfl (Nat.le_of_ble_eq_true rfl) d29_5 rfl fun v6 h7 J8 hs9 hQ10 => ?_
  obtain ⟨rfl, rfl, rfl⟩ := hQ10
  show Wk _ h0 0 0 I 8 #[.val (.int (Int32.ofNat i)), .val (.ref b)] []
  exact Wk.return_ rfl d29_8 (Nat.le_of_ble_eq_true rfl) (Nat.le_of_ble_eq_true rfl) ⟨rfl, rfl, rfl⟩
theorem ef_u_cha (m : MethodId) (x0 : Addr) (x1 : Int32) : entryFrame m #[(.ref x0), (.int x1)] 2 = mkF m 0 #[.val (.ref x0), .val (.int x1)] [] := by first | (simp [entryFrame, mkF, argsToLocals, Value.category]; done) | rfl
abbrev b_u_cha : Bdy := ((⟨"java/lang/StringUTF16", "charAt", "([BI)C"⟩ : MethodName), jdk_52_method_83_code, 2, (Option.some Jvm.ClassFile.FieldType.char), ({ frames := 3, cells := 0, slots := 0, locals := 40 } : Room))
def Q_u_cha (Z : State) (N : Nat) (b : Addr) (qb : ClassId) (cl : List Int32) (i : Nat) (sf : Value) (h0 : Heap) (I : Lts) (v : Option Value) (h : Heap) (J : Lts) : Prop := I = J ∧ v = some (.int (cl.getD i 0)) ∧ h0 = h
set_option maxRecDepth 65536 in
set_option maxHeartbeats 40000000 in
theorem rm_u_cha {l : Launch} {Z : State} {a0 : Array Value} {N : Nat} (hw : ∀ d ∈ tables_1, d.before a0 Z = true) (b : Addr) (qb : ClassId) (cl : List Int32) (i : Nat) (sf : Value) (h0 : Heap) (I : Lts) (P0 : Sta Z Z.heap "java/lang/StringUTF16" "$assertionsDisabled" "Z" (.int (1 : Int32))) (P1 : Sta Z Z.heap "java/lang/StringUTF16" "HI_BYTE_SHIFT" "I" (.int (0 : Int32))) (P2 : Sta Z Z.heap "java/lang/StringUTF16" "LO_BYTE_SHIFT" "I" (.int (8 : Int32))) (P3 : Sta Z Z.heap "jdk/internal/util/Preconditions" "SIOOBE_FORMATTER" "Ljava/util/function/BiFunction;" sf) (G_sf : sf.isRef = true) (P5 : Arv Z h0 b qb .byte (Int32.ofNat (2 * cl.length)) (own_u cl) (.int (0 : Int32))) (hi : i < cl.length) (hn : cl.length < 1000000) (hD : own_D cl) :
    Cn l Z N b_u_cha #[(.ref b), (.int (Int32.ofNat i))] h0 I (Q_u_cha Z N b qb cl i sf h0 I) := by
  refine Cn.of_wk (Ls := #[.val (.ref b), .val (.int (Int32.ofNat i))]) (plainFor_of_name (by first | (simp [plainName, overriddenIn]; done) | decide +kernel)) (fun m => ef_u_cha m b (Int32.ofNat i)) ?_
  refine Wk.iloadN (pc' := 1) d28_0 rfl rfl ?_
  refine Wk.aloadN (pc' := 2) d28_1 rfl rfl rfl ?_
  refine Wk.callS (a0 := a0) (pc' := 5) (k' := 0) (n' := 0) (W := 0) (b := b_u_chk) (argsL := [(.int (Int32.ofNat i)), (.ref b)]) (rest := []) (rm_u_chk hw i b qb cl sf h0 I P3 G_sf P5 hi hn) (w123 hw) (w124 hw) (w93 hw) (w125 hw) (by decide) (Nat.le_refl _) id (Nat.le_of_ble_eq_true rfl) (Nat.le_of_ble_eq_true rfl) rfl rfl (Nat.le_of_ble_eq_true rfl) (Nat.le_of_ble_eq_true rfl) rfl pd13 rfl rfl rfl (Nat.le_of_ble_eq_true rfl) d28_2 rfl fun v1 h2 J3 hs4 hQ5 => ?_
  obtain ⟨rfl, rfl, rfl⟩ := hQ5
  show Wk _ h0 0 0 I 5 #[.val (.ref b), .val (.int (Int32.ofNat i))] []
  refine Wk.aloadN (pc' := 6) d28_5 rfl rfl rfl ?_
  refine Wk.iloadN (pc' := 7) d28_6 rfl rfl ?_
  refine Wk.callS (a0 := a0) (pc' := 10) (k' := 0) (n' := 0) (W := 0) (b := b_u_get) (argsL := [(.ref b), (.int (Int32.ofNat i))]) (rest := []) (rm_u_get hw b qb cl i h0 I P0 P1 P2 P5 hi hn hD) (w117 hw) (w118 hw) (w93 hw) (w119 hw) (by decide) (Nat.le_refl _) id (Nat.le_of_ble_eq_true rfl) (Nat.le_of_ble_eq_true rfl) rfl rfl (Nat.le_of_ble_eq_true rfl) (Nat.le_of_ble_eq_true rfl) rfl pd4 rfl rfl rfl (Nat.le_of_ble_eq_true rfl) d28_7 rfl fun v6 h7 J8 hs9 hQ10 => ?_
  obtain ⟨rfl, rfl, rfl⟩ := hQ10
  show Wk _ h0 0 0 I 10 #[.val (.ref b), .val (.int (Int32.ofNat i))] [(.int (cl.getD i 0))]
  exact Wk.zreturn rfl (by simp) d28_10 (Nat.le_of_ble_eq_true rfl) (Nat.le_of_ble_eq_true rfl) ⟨rfl, (by rw [own_nd (own_Dget hD i)]), rfl⟩
theorem ef_u_chr (m : MethodId) (x0 : Addr) (x1 : Int32) : entryFrame m #[(.ref x0), (.int x1)] 2 = mkF m 0 #[.val (.ref x0), .val (.int x1)] [] := by first | (simp [entryFrame, mkF, argsToLocals, Value.category]; done) | rfl
abbrev b_u_chr : Bdy := ((⟨"java/lang/String", "charAt", "(I)C"⟩ : MethodName), jdk_42_method_56_code, 2, (Option.some Jvm.ClassFile.FieldType.char), ({ frames := 4, cells := 0, slots := 0, locals := 53 } : Room))
def Q_u_chr (Z : State) (N : Nat) (a : Addr) (v' : Addr) (q : ClassId) (cl : List Int32) (i : Nat) (sf : Value) (cs : Int32) (h0 : Heap) (I : Lts) (v : Option Value) (h : Heap) (J : Lts) : Prop := I = J ∧ v = some (.int (cl.getD i 0)) ∧ h0 = h
set_option maxRecDepth 65536 in
set_option maxHeartbeats 40000000 in
theorem rm_u_chr {l : Launch} {Z : State} {a0 : Array Value} {N : Nat} (hw : ∀ d ∈ tables_1, d.before a0 Z = true) (a : Addr) (v' : Addr) (q : ClassId) (cl : List Int32) (i : Nat) (sf : Value) (cs : Int32) (h0 : Heap) (I : Lts) (P0 : Sta Z Z.heap "java/lang/String" "COMPACT_STRINGS" "Z" (.int cs)) (G_cs : ¬ cs = (0 : Int32)) (P2 : Sta Z Z.heap "java/lang/StringUTF16" "$assertionsDisabled" "Z" (.int (1 : Int32))) (P3 : Sta Z Z.heap "java/lang/StringUTF16" "HI_BYTE_SHIFT" "I" (.int (0 : Int32))) (P4 : Sta Z Z.heap "java/lang/StringUTF16" "LO_BYTE_SHIFT" "I" (.int (8 : Int32))) (P5 : Sta Z Z.heap "jdk/internal/util/Preconditions" "SIOOBE_FORMATTER" "Ljava/util/function/BiFunction;" sf) (G_sf : sf.isRef = true) (P7 : Exa Z h0 a "java/lang/String") (P8 : Fld Z h0 a "java/lang/String" "value" "[B" (.ref v')) (P9 : Fld Z h0 a "java/lang/String" "coder" "B" (.int (1 : Int32))) (P10 : Arv Z h0 v' q .byte (Int32.ofNat (2 * cl.length)) (own_u cl) (.int (0 : Int32))) (hi : i < cl.length) (hn : cl.length < 1000000) (hD : own_D cl) :
    Cn l Z N b_u_chr #[(.ref a), (.int (Int32.ofNat i))] h0 I (Q_u_chr Z N a v' q cl i sf cs h0 I) := by
  refine Cn.of_wk (Ls := #[.val (.ref a), .val (.int (Int32.ofNat i))]) (plainFor_of_name (by first | (simp [plainName, overriddenIn]; done) | decide +kernel)) (fun m => ef_u_chr m a (Int32.ofNat i)) ?_
  refine Wk.aloadN (pc' := 1) d15_0 rfl rfl rfl ?_
  refine Wk.callV (a0 := a0) (pc' := 4) (k' := 0) (n' := 0) (W := 0) (b := b_u_lat) (argsL := []) (rest := []) (y := (⟨"java/lang/String", "isLatin1", "()Z"⟩ : MethodName)) (rm_u_lat hw a cs h0 I P0 G_cs P9) P7 (w75 hw) (w76 hw) (w78 hw) (w78 hw) (w77 hw) (w8 hw) (w79 hw) (by decide) (Nat.le_refl _) id (Nat.le_of_ble_eq_true rfl) (Nat.le_of_ble_eq_true rfl) rfl rfl (Nat.le_of_ble_eq_true rfl) (Nat.le_of_ble_eq_true rfl) rfl pd3 rfl rfl rfl (Nat.le_of_ble_eq_true rfl) d15_1 rfl fun v1 h2 J3 hs4 hQ5 => ?_
  obtain ⟨rfl, rfl, rfl⟩ := hQ5
  show Wk _ h0 0 0 I 4 #[.val (.ref a), .val (.int (Int32.ofNat i))] [(.int (0 : Int32))]
  refine Wk.if_eqY (pc' := 16) d15_4 (by decide) rfl ?_
  refine Wk.aloadN (pc' := 17) d15_16 rfl rfl rfl ?_
  refine Wk.getF (a0 := a0) (pc' := 20) (host := "") (Or.inl (w26 hw)) Via.refl P8 d15_17 rfl ?_
  refine Wk.iloadN (pc' := 21) d15_20 rfl rfl ?_
  refine Wk.callS (a0 := a0) (pc' := 24) (k' := 0) (n' := 0) (W := 0) (b := b_u_cha) (argsL := [(.ref v'), (.int (Int32.ofNat i))]) (rest := []) (rm_u_cha hw v' q cl i sf h0 I P2 P3 P4 P5 G_sf P10 hi hn hD) (w120 hw) (w121 hw) (w93 hw) (w122 hw) (by decide) (Nat.le_refl _) id (Nat.le_of_ble_eq_true rfl) (Nat.le_of_ble_eq_true rfl) rfl rfl (Nat.le_of_ble_eq_true rfl) (Nat.le_of_ble_eq_true rfl) rfl pd4 rfl rfl rfl (Nat.le_of_ble_eq_true rfl) d15_21 rfl fun v6 h7 J8 hs9 hQ10 => ?_
  obtain ⟨rfl, rfl, rfl⟩ := hQ10
  show Wk _ h0 0 0 I 24 #[.val (.ref a), .val (.int (Int32.ofNat i))] [(.int (cl.getD i 0))]
  exact Wk.zreturn rfl (by simp) d15_24 (Nat.le_of_ble_eq_true rfl) (Nat.le_of_ble_eq_true rfl) ⟨rfl, (by rw [own_nd (own_Dget hD i)]), rfl⟩
def Q_a_len (Z : State) (N : Nat) (a : Addr) (cl : List Int32) (cs : Int32) (h0 : Heap) (I : Lts) (v : Option Value) (h : Heap) (J : Lts) : Prop := I = J ∧ v = some (.int (Int32.ofNat cl.length)) ∧ h0 = h
theorem rm_a_len {l : Launch} {Z : State} {a0 : Array Value} {N : Nat} (hw : ∀ d ∈ tables_1, d.before a0 Z = true) (a : Addr) (cl : List Int32) (cs : Int32) (h0 : Heap) (I : Lts) (P0 : Sta Z Z.heap "java/lang/String" "COMPACT_STRINGS" "Z" (.int cs)) (G_cs : ¬ cs = (0 : Int32)) (SA : StrA Z h0 a cl) (hn : cl.length < 1000000) :
    Cn l Z N b_s_len #[(.ref a)] h0 I (Q_a_len Z N a cl cs h0 I) := by
  obtain ⟨E, v, q, V, r⟩ := SA
  rcases r with ⟨r1, r2, r3⟩ | ⟨r1, r2, r3, r4⟩
  · exact rm_s_len hw a v q cl cs h0 I P0 G_cs E V r2 r3
  · exact rm_u_len hw a v q cl cs h0 I P0 G_cs E V r3 r4 hn
def Q_a_emp (Z : State) (N : Nat) (a : Addr) (cl : List Int32) (h0 : Heap) (I : Lts) (v : Option Value) (h : Heap) (J : Lts) : Prop := I = J ∧ v = some (.int (own_bi (decide (cl = [])))) ∧ h0 = h
theorem rm_a_emp {l : Launch} {Z : State} {a0 : Array Value} {N : Nat} (hw : ∀ d ∈ tables_1, d.before a0 Z = true) (a : Addr) (cl : List Int32) (h0 : Heap) (I : Lts) (SA : StrA Z h0 a cl) (hn : cl.length < 1000000) :
    Cn l Z N b_s_emp #[(.ref a)] h0 I (Q_a_emp Z N a cl h0 I) := by
  obtain ⟨E, v, q, V, r⟩ := SA
  rcases r with ⟨r1, r2, r3⟩ | ⟨r1, r2, r3, r4⟩
  · exact rm_s_emp hw a v q cl h0 I E V r2 r3 (by omega)
  · exact rm_u_emp hw a v q cl h0 I E V r3 r4 r2 hn
def Q_a_chr (Z : State) (N : Nat) (a : Addr) (cl : List Int32) (i : Nat) (sf : Value) (cs : Int32) (h0 : Heap) (I : Lts) (v : Option Value) (h : Heap) (J : Lts) : Prop := I = J ∧ v = some (.int (cl.getD i 0)) ∧ h0 = h
theorem rm_a_chr {l : Launch} {Z : State} {a0 : Array Value} {N : Nat} (hw : ∀ d ∈ tables_1, d.before a0 Z = true) (a : Addr) (cl : List Int32) (i : Nat) (sf : Value) (cs : Int32) (h0 : Heap) (I : Lts) (P0 : Sta Z Z.heap "java/lang/String" "COMPACT_STRINGS" "Z" (.int cs)) (G_cs : ¬ cs = (0 : Int32)) (P2 : Sta Z Z.heap "java/lang/StringUTF16" "$assertionsDisabled" "Z" (.int (1 : Int32))) (P3 : Sta Z Z.heap "java/lang/StringUTF16" "HI_BYTE_SHIFT" "I" (.int (0 : Int32))) (P4 : Sta Z Z.heap "java/lang/StringUTF16" "LO_BYTE_SHIFT" "I" (.int (8 : Int32))) (P5 : Sta Z Z.heap "jdk/internal/util/Preconditions" "SIOOBE_FORMATTER" "Ljava/util/function/BiFunction;" sf) (G_sf : sf.isRef = true) (SA : StrA Z h0 a cl) (hi : i < cl.length) (hn : cl.length < 1000000) :
    Cn l Z N b_s_chr #[(.ref a), (.int (Int32.ofNat i))] h0 I (Q_a_chr Z N a cl i sf cs h0 I) := by
  obtain ⟨E, v, q, V, r⟩ := SA
  rcases r with ⟨r1, r2, r3⟩ | ⟨r1, r2, r3, r4⟩
  · exact rm_s_chr hw a v q cl i sf cs h0 I P0 G_cs P5 G_sf E V r2 r3 hi (by omega) r1
  · exact rm_u_chr hw a v q cl i sf cs h0 I P0 G_cs P2 P3 P4 P5 G_sf E V r3 r4 hi hn r1
theorem ef_v_in0 (m : MethodId) (x0 : Addr) (x1 : Addr) (x2 : Int32) : entryFrame m #[(.ref x0), (.ref x1), (.int x2)] 3 = mkF m 0 #[.val (.ref x0), .val (.ref x1), .val (.int x2)] [] := by first | (simp [entryFrame, mkF, argsToLocals, Value.category]; done) | rfl
abbrev b_v_in0 : Bdy := ((⟨"java/lang/String", "<init>", "([BB)V"⟩ : MethodName), jdk_42_method_151_code, 3, (Option.none : Option Jvm.ClassFile.FieldType), ({ frames := 1, cells := 0, slots := 0, locals := 12 } : Room))
def Q_v_in0 (Z : State) (N : Nat) (a : Addr) (b : Addr) (h0 : Heap) (I : Lts) (v : Option Value) (h : Heap) (J : Lts) : Prop := I = J ∧ v = none ∧ Keep h0 h [a] ∧ Fld Z h a "java/lang/String" "value" "[B" (.ref b) ∧ Fld Z h a "java/lang/String" "coder" "B" (.int (0 : Int32))
set_option maxRecDepth 65536 in
set_option maxHeartbeats 40000000 in
theorem rm_v_in0 {l : Launch} {Z : State} {a0 : Array Value} {N : Nat} (hw : ∀ d ∈ tables_1, d.before a0 Z = true) (a : Addr) (b : Addr) (h0 : Heap) (I : Lts) (P0 : Exa Z h0 a "java/lang/String") (P1 : Fld Z h0 a "java/lang/String" "value" "[B" .null) (P2 : Fld Z h0 a "java/lang/String" "coder" "B" (.int (0 : Int32))) (P3 : N ≤ a) :
    Cn l Z N b_v_in0 #[(.ref a), (.ref b), (.int (0 : Int32))] h0 I (Q_v_in0 Z N a b h0 I) := by
  refine Cn.of_wk (Ls := #[.val (.ref a), .val (.ref b), .val (.int (0 : Int32))]) (plainFor_of_name (by first | (simp [plainName, overriddenIn]; done) | decide +kernel)) (fun m => ef_v_in0 m a b (0 : Int32)) ?_
  refine Wk.aloadN (pc' := 1) d10_0 rfl rfl rfl ?_
  refine Wk.initO (a0 := a0) (pc' := 4) (W := 0) (w17 hw) (w18 hw) (w19 hw) rfl d10_1 rfl (Nat.le_of_ble_eq_true rfl) (Nat.le_of_ble_eq_true rfl) (Nat.le_of_ble_eq_true rfl) ?_
  refine Wk.aloadN (pc' := 5) d10_4 rfl rfl rfl ?_
  refine Wk.aloadN (pc' := 6) d10_5 rfl rfl rfl ?_
  refine Wk.putF (a0 := a0) (pc' := 9) (host := "") (Or.inl (w26 hw)) Via.refl P3 P1 P0 (Or.inr ⟨(w22 hw), rfl, rfl⟩) (w7 hw) (ty := (.array .byte)) (by decide) rfl rfl d10_6 rfl fun h1 W2 => ?_
  have F3 := P1.same W2
  refine Wk.aloadN (pc' := 10) d10_9 rfl rfl rfl ?_
  refine Wk.iloadN (pc' := 11) d10_10 rfl rfl ?_
  have f4 := (P0.wr W2)
  have f5 := (P2.other W2 (Or.inr (slot_ne (Or.inr (w23 hw)) (Or.inr (w22 hw)) (by decide) (t := .byte) (t' := (.array .byte)) (by decide) (by decide))))
  refine Wk.putFN (a0 := a0) (pc' := 14) (v' := (.int (0 : Int32))) (w27 hw) Via.refl P3 f5 f4 (Or.inr ⟨(w23 hw), rfl, rfl⟩) (w7 hw) (ty := .byte) (by decide) rfl rfl d10_11 rfl fun h6 W7 => ?_
  have F8 := f5.same W7
  have f9 := (F3.other W7 (Or.inr (slot_ne (Or.inr (w22 hw)) (Or.inr (w23 hw)) (by decide) (t := (.array .byte)) (t' := .byte) (by decide) (by decide))))
  exact Wk.return_ rfl d10_14 (Nat.le_of_ble_eq_true rfl) (Nat.le_of_ble_eq_true rfl) ⟨rfl, rfl, (((Keep.refl h0 [a]).wr W2 (Or.inl (by simp))).wr W7 (Or.inl (by simp))), f9, F8⟩
theorem ef_v_in1 (m : MethodId) (x0 : Addr) (x1 : Addr) (x2 : Int32) : entryFrame m #[(.ref x0), (.ref x1), (.int x2)] 3 = mkF m 0 #[.val (.ref x0), .val (.ref x1), .val (.int x2)] [] := by first | (simp [entryFrame, mkF, argsToLocals, Value.category]; done) | rfl
abbrev b_v_in1 : Bdy := ((⟨"java/lang/String", "<init>", "([BB)V"⟩ : MethodName), jdk_42_method_151_code, 3, (Option.none : Option Jvm.ClassFile.FieldType), ({ frames := 1, cells := 0, slots := 0, locals := 12 } : Room))
def Q_v_in1 (Z : State) (N : Nat) (a : Addr) (b : Addr) (h0 : Heap) (I : Lts) (v : Option Value) (h : Heap) (J : Lts) : Prop := I = J ∧ v = none ∧ Keep h0 h [a] ∧ Fld Z h a "java/lang/String" "value" "[B" (.ref b) ∧ Fld Z h a "java/lang/String" "coder" "B" (.int (1 : Int32))
set_option maxRecDepth 65536 in
set_option maxHeartbeats 40000000 in
theorem rm_v_in1 {l : Launch} {Z : State} {a0 : Array Value} {N : Nat} (hw : ∀ d ∈ tables_1, d.before a0 Z = true) (a : Addr) (b : Addr) (h0 : Heap) (I : Lts) (P0 : Exa Z h0 a "java/lang/String") (P1 : Fld Z h0 a "java/lang/String" "value" "[B" .null) (P2 : Fld Z h0 a "java/lang/String" "coder" "B" (.int (0 : Int32))) (P3 : N ≤ a) :
    Cn l Z N b_v_in1 #[(.ref a), (.ref b), (.int (1 : Int32))] h0 I (Q_v_in1 Z N a b h0 I) := by
  refine Cn.of_wk (Ls := #[.val (.ref a), .val (.ref b), .val (.int (1 : Int32))]) (plainFor_of_name (by first | (simp [plainName, overriddenIn]; done) | decide +kernel)) (fun m => ef_v_in1 m a b (1 : Int32)) ?_
  refine Wk.aloadN (pc' := 1) d10_0 rfl rfl rfl ?_
  refine Wk.initO (a0 := a0) (pc' := 4) (W := 0) (w17 hw) (w18 hw) (w19 hw) rfl d10_1 rfl (Nat.le_of_ble_eq_true rfl) (Nat.le_of_ble_eq_true rfl) (Nat.le_of_ble_eq_true rfl) ?_
  refine Wk.aloadN (pc' := 5) d10_4 rfl rfl rfl ?_
  refine Wk.aloadN (pc' := 6) d10_5 rfl rfl rfl ?_
  refine Wk.putF (a0 := a0) (pc' := 9) (host := "") (Or.inl (w26 hw)) Via.refl P3 P1 P0 (Or.inr ⟨(w22 hw), rfl, rfl⟩) (w7 hw) (ty := (.array .byte)) (by decide) rfl rfl d10_6 rfl fun h1 W2 => ?_
  have F3 := P1.same W2
  refine Wk.aloadN (pc' := 10) d10_9 rfl rfl rfl ?_
  refine Wk.iloadN (pc' := 11) d10_10 rfl rfl ?_
  have f4 := (P0.wr W2)
  have f5 := (P2.other W2 (Or.inr (slot_ne (Or.inr (w23 hw)) (Or.inr (w22 hw)) (by decide) (t := .byte) (t' := (.array .byte)) (by decide) (by decide))))
  refine Wk.putFN (a0 := a0) (pc' := 14) (v' := (.int (1 : Int32))) (w27 hw) Via.refl P3 f5 f4 (Or.inr ⟨(w23 hw), rfl, rfl⟩) (w7 hw) (ty := .byte) (by decide) rfl rfl d10_11 rfl fun h6 W7 => ?_
  have F8 := f5.same W7
  have f9 := (F3.other W7 (Or.inr (slot_ne (Or.inr (w22 hw)) (Or.inr (w23 hw)) (by decide) (t := (.array .byte)) (t' := .byte) (by decide) (by decide))))
  exact Wk.return_ rfl d10_14 (Nat.le_of_ble_eq_true rfl) (Nat.le_of_ble_eq_true rfl) ⟨rfl, rfl, (((Keep.refl h0 [a]).wr W2 (Or.inl (by simp))).wr W7 (Or.inl (by simp))), f9, F8⟩
theorem ef_v_ce0 (m : MethodId) (x0 : Int32) : entryFrame m #[(.int x0)] 1 = mkF m 0 #[.val (.int x0)] [] := by first | (simp [entryFrame, mkF, argsToLocals, Value.category]; done) | rfl
abbrev b_v_ce0 : Bdy := ((⟨"java/lang/StringLatin1", "canEncode", "(C)Z"⟩ : MethodName), jdk_43_method_3_code, 1, (Option.some Jvm.ClassFile.FieldType.boolean), ({ frames := 0, cells := 0, slots := 0, locals := 0 } : Room))
def Q_v_ce0 (Z : State) (N : Nat) (x : Int32) (h0 : Heap) (I : Lts) (v : Option Value) (h : Heap) (J : Lts) : Prop := I = J ∧ v = some (.int (1 : Int32)) ∧ h0 = h
set_option maxRecDepth 65536 in
set_option maxHeartbeats 40000000 in
theorem rm_v_ce0 {l : Launch} {Z : State} {a0 : Array Value} {N : Nat} (hw : ∀ d ∈ tables_1, d.before a0 Z = true) (x : Int32) (h0 : Heap) (I : Lts) (hx : ¬ 255 < x) :
    Cn l Z N b_v_ce0 #[(.int x)] h0 I (Q_v_ce0 Z N x h0 I) := by
  refine Cn.of_wk (Ls := #[.val (.int x)]) (plainFor_of_name (by first | (simp [plainName, overriddenIn]; done) | decide +kernel)) (fun m => ef_v_ce0 m x) ?_
  refine Wk.iloadN (pc' := 1) d8_0 rfl rfl ?_
  refine Wk.sipush (pc' := 4) (v := 255) d8_1 rfl rfl ?_
  refine Wk.icmp_gtN (pc' := 7) d8_4 rfl hx ?_
  refine Wk.iconst (pc' := 8) (v := 1) d8_7 rfl rfl ?_
  refine Wk.goto (pc' := 12) d8_8 (by decide) ?_
  exact Wk.zreturn rfl (by simp) d8_12 (Nat.le_of_ble_eq_true rfl) (Nat.le_of_ble_eq_true rfl) ⟨rfl, rfl, rfl⟩
theorem ef_v_ce1 (m : MethodId) (x0 : Int32) : entryFrame m #[(.int x0)] 1 = mkF m 0 #[.val (.int x0)] [] := by first | (simp [entryFrame, mkF, argsToLocals, Value.category]; done) | rfl
abbrev b_v_ce1 : Bdy := ((⟨"java/lang/StringLatin1", "canEncode", "(C)Z"⟩ : MethodName), jdk_43_method_3_code, 1, (Option.some Jvm.ClassFile.FieldType.boolean), ({ frames := 0, cells := 0, slots := 0, locals := 0 } : Room))
def Q_v_ce1 (Z : State) (N : Nat) (x : Int32) (h0 : Heap) (I : Lts) (v : Option Value) (h : Heap) (J : Lts) : Prop := I = J ∧ v = some (.int (0 : Int32)) ∧ h0 = h
set_option maxRecDepth 65536 in
set_option maxHeartbeats 40000000 in
theorem rm_v_ce1 {l : Launch} {Z : State} {a0 : Array Value} {N : Nat} (hw : ∀ d ∈ tables_1, d.before a0 Z = true) (x : Int32) (h0 : Heap) (I : Lts) (hx : 255 < x) :
    Cn l Z N b_v_ce1 #[(.int x)] h0 I (Q_v_ce1 Z N x h0 I) := by
  refine Cn.of_wk (Ls := #[.val (.int x)]) (plainFor_of_name (by first | (simp [plainName, overriddenIn]; done) | decide +kernel)) (fun m => ef_v_ce1 m x) ?_
  refine Wk.iloadN (pc' := 1) d8_0 rfl rfl ?_
  refine Wk.sipush (pc' := 4) (v := 255) d8_1 rfl rfl ?_
  refine Wk.icmp_gtY (pc' := 11) d8_4 (by decide) hx ?_
  refine Wk.iconst (pc' := 12) (v := 0) d8_11 rfl rfl ?_
  exact Wk.zreturn rfl (by simp) d8_12 (Nat.le_of_ble_eq_true rfl) (Nat.le_of_ble_eq_true rfl) ⟨rfl, rfl, rfl⟩
theorem ef_v_tbl (m : MethodId) (x0 : Int32) : entryFrame m #[(.int x0)] 1 = mkF m 0 #[.val (.int x0)] [] := by first | (simp [entryFrame, mkF, argsToLocals, Value.category]; done) | rfl
abbrev b_v_tbl : Bdy := ((⟨"java/lang/StringLatin1", "toBytes", "(C)[B"⟩ : MethodName), jdk_43_method_46_code, 1, (Option.some (Jvm.ClassFile.FieldType.array Jvm.ClassFile.FieldType.byte)), ({ frames := 0, cells := 1, slots := 1, locals := 0 } : Room))
def Q_v_tbl (Z : State) (N : Nat) (x : Int32) (h0 : Heap) (I : Lts) (v : Option Value) (h : Heap) (J : Lts) : Prop := ∃ b : Addr, ∃ qb : ClassId, I = J ∧ v = some (.ref b) ∧ Ext h0 h ∧ h0.size ≤ b ∧ N ≤ b ∧ Arv Z h b qb .byte (1 : Int32) [(own_by x)] (.int (0 : Int32))
set_option maxRecDepth 65536 in
set_option maxHeartbeats 40000000 in
theorem rm_v_tbl {l : Launch} {Z : State} {a0 : Array Value} {N : Nat} (hw : ∀ d ∈ tables_1, d.before a0 Z = true) (x : Int32) (h0 : Heap) (I : Lts) :
    Cn l Z N b_v_tbl #[(.int x)] h0 I (Q_v_tbl Z N x h0 I) := by
  refine Cn.of_wk (Ls := #[.val (.int x)]) (plainFor_of_name (by first | (simp [plainName, overriddenIn]; done) | decide +kernel)) (fun m => ef_v_tbl m x) ?_
  refine Wk.iconst (pc' := 1) (v := 1) d9_0 rfl rfl ?_
  refine Wk.newP (a0 := a0) (aty := .byte) (pc' := 3) (k' := 1) (n' := 1) (cap := 1) (w21 hw) d9_1 rfl (by decide) (by decide) (by decide) rfl rfl (Nat.le_of_ble_eq_true rfl) (Nat.le_of_ble_eq_true rfl) fun a1 h2 q3 hg4 hN5 E6 A7 => ?_
  have A8 : Arv Z h2 a1 q3 .byte (1 : Int32) [(.int (0 : Int32))] (.int (0 : Int32)) := A7.pad (pad_rep [] (.int (0 : Int32)) 1)
  refine Wk.dup (pc' := 4) d9_3 rfl rfl ?_
  refine Wk.iconst (pc' := 5) (v := 0) d9_4 rfl rfl ?_
  refine Wk.iloadN (pc' := 6) d9_5 rfl rfl ?_
  refine Wk.i2b (pc' := 7) d9_6 rfl ?_
  refine Wk.bastore (pc' := 8) A8 hN5 ⟨by decide, by decide⟩ 0 (by decide) (Nat.le_of_ble_eq_true rfl) d9_7 rfl fun h9 W10 A11 => ?_
  have A12 : Arv Z h9 a1 q3 .byte (1 : Int32) [(.int (nar .byte (x.toInt8.toInt32)))] (.int (0 : Int32)) := A11
  have A13 : Arv Z h9 a1 q3 .byte (1 : Int32) [(own_by x)] (.int (0 : Int32)) := by
    rw [show own_by x = .int (nar .byte (own_b8 x)) from by rw [own_nb]; rfl]
    exact A12
  exact Wk.areturn rfl rfl rfl d9_8 (Nat.le_of_ble_eq_true rfl) (Nat.le_of_ble_eq_true rfl) ⟨a1, q3, rfl, rfl, (own_ext (((Keep.refl h0 []).ext E6).wr W10 (Or.inr hg4))), hg4, hN5, A13⟩
theorem ef_v_tbu (m : MethodId) (x0 : Int32) : entryFrame m #[(.int x0)] 2 = mkF m 0 #[.val (.int x0), .unset] [] := by first | (simp [entryFrame, mkF, argsToLocals, Value.category]; done) | rfl
abbrev b_v_tbu : Bdy := ((⟨"java/lang/StringUTF16", "toBytes", "(C)[B"⟩ : MethodName), jdk_52_method_24_code, 2, (Option.some (Jvm.ClassFile.FieldType.array Jvm.ClassFile.FieldType.byte)), ({ frames := 1, cells := 1, slots := 2, locals := 14 } : Room))
def Q_v_tbu (Z : State) (N : Nat) (x : Int32) (h0 : Heap) (I : Lts) (v : Option Value) (h : Heap) (J : Lts) : Prop := ∃ b : Addr, ∃ qb : ClassId, I = J ∧ v = some (.ref b) ∧ Ext h0 h ∧ h0.size ≤ b ∧ N ≤ b ∧ Arv Z h b qb .byte (Int32.ofNat (2 * 1)) (own_u [x]) (.int (0 : Int32))
set_option maxRecDepth 65536 in
set_option maxHeartbeats 40000000 in
theorem rm_v_tbu {l : Launch} {Z : State} {a0 : Array Value} {N : Nat} (hw : ∀ d ∈ tables_1, d.before a0 Z = true) (x : Int32) (h0 : Heap) (I : Lts) (P0 : Sta Z Z.heap "java/lang/StringUTF16" "$assertionsDisabled" "Z" (.int (1 : Int32))) (P1 : Sta Z Z.heap "java/lang/StringUTF16" "HI_BYTE_SHIFT" "I" (.int (0 : Int32))) (P2 : Sta Z Z.heap "java/lang/StringUTF16" "LO_BYTE_SHIFT" "I" (.int (8 : Int32))) :
    Cn l Z N b_v_tbu #[(.int x)] h0 I (Q_v_tbu Z N x h0 I) := by
  refine Cn.of_wk (Ls := #[.val (.int x), .unset]) (plainFor_of_name (by first | (simp [plainName, overriddenIn]; done) | decide +kernel)) (fun m => ef_v_tbu m x) ?_
  refine Wk.iconst (pc' := 1) (v := 2) d31_0 rfl rfl ?_
  refine Wk.newP (a0 := a0) (aty := .byte) (pc' := 3) (k' := 1) (n' := 2) (cap := 2) (w21 hw) d31_1 rfl (by decide) (by decide) (by decide) rfl rfl (Nat.le_of_ble_eq_true rfl) (Nat.le_of_ble_eq_true rfl) fun a1 h2 q3 hg4 hN5 E6 A7 => ?_
  have A8 : Arv Z h2 a1 q3 .byte (2 : Int32) [(.int (0 : Int32)), (.int (0 : Int32))] (.int (0 : Int32)) := A7.pad (pad_rep [] (.int (0 : Int32)) 2)
  refine Wk.astoreN (pc' := 4) #[.val (.int x), .val (.ref a1)] d31_3 rfl rfl rfl ?_
  refine Wk.aloadN (pc' := 5) d31_4 rfl rfl rfl ?_
  refine Wk.iconst (pc' := 6) (v := 0) d31_5 rfl rfl ?_
  refine Wk.iloadN (pc' := 7) d31_6 rfl rfl ?_
  have A9 : Arv Z h2 a1 q3 .byte (Int32.ofNat (2 * 1)) [(.int (0 : Int32)), (.int (0 : Int32))] (.int (0 : Int32)) := A8
  refine Wk.callS (a0 := a0) (pc' := 10) (k' := 1) (n' := 2) (W := 0) (b := b_u_put) (argsL := [(.ref a1), (.int (0 : Int32)), (.int x)]) (rest := []) (rm_u_put hw a1 q3 1 [(.int (0 : Int32)), (.int (0 : Int32))] 0 x h2 I P0 P1 P2 A9 hN5 rfl (by decide) (by decide)) (w111 hw) (w112 hw) (w93 hw) (w113 hw) (by decide) (Nat.le_refl _) id (Nat.le_of_ble_eq_true rfl) (Nat.le_of_ble_eq_true rfl) rfl rfl (Nat.le_of_ble_eq_true rfl) (Nat.le_of_ble_eq_true rfl) rfl pd11 rfl rfl rfl (Nat.le_of_ble_eq_true rfl) d31_7 rfl fun v10 h11 J12 hs13 hQ14 => ?_
  obtain ⟨rfl, rfl, K15, g16⟩ := hQ14
  show Wk _ h11 1 2 I 10 #[.val (.int x), .val (.ref a1)] []
  have A17 : Arv Z h11 a1 q3 .byte (Int32.ofNat (2 * 1)) (own_u [x]) (.int (0 : Int32)) := g16
  refine Wk.aloadN (pc' := 11) d31_10 rfl rfl rfl ?_
  exact Wk.areturn rfl rfl rfl d31_11 (Nat.le_of_ble_eq_true rfl) (Nat.le_of_ble_eq_true rfl) ⟨a1, q3, rfl, rfl, (own_ext (((Keep.refl h0 []).ext E6).trans K15 (allS (Or.inr hg4) all0))), hg4, hN5, A17⟩
theorem ef_v_of0 (m : MethodId) (x0 : Int32) : entryFrame m #[(.int x0)] 1 = mkF m 0 #[.val (.int x0)] [] := by first | (simp [entryFrame, mkF, argsToLocals, Value.category]; done) | rfl
abbrev b_v_of0 : Bdy := ((⟨"java/lang/String", "valueOf", "(C)Ljava/lang/String;"⟩ : MethodName), jdk_42_method_139_code, 1, (Option.some (Jvm.ClassFile.FieldType.object "java/lang/String")), ({ frames := 2, cells := 2, slots := 6, locals := 41 } : Room))
def Q_v_of0 (Z : State) (N : Nat) (x : Int32) (cs : Int32) (h0 : Heap) (I : Lts) (v : Option Value) (h : Heap) (J : Lts) : Prop := ∃ r : Addr, I = J ∧ v = some (.ref r) ∧ Ext h0 h ∧ h0.size ≤ r ∧ Exa Z h r "java/lang/String" ∧ StrA Z h r [x]
set_option maxRecDepth 65536 in
set_option maxHeartbeats 40000000 in
theorem rm_v_of0 {l : Launch} {Z : State} {a0 : Array Value} {N : Nat} (hw : ∀ d ∈ tables_1, d.before a0 Z = true) (x : Int32) (cs : Int32) (h0 : Heap) (I : Lts) (P0 : Sta Z Z.heap "java/lang/String" "COMPACT_STRINGS" "Z" (.int cs)) (G_cs : ¬ cs = (0 : Int32)) (P2 : Sta Z Z.heap "java/lang/StringUTF16" "$assertionsDisabled" "Z" (.int (1 : Int32))) (P3 : Sta Z Z.heap "java/lang/StringUTF16" "HI_BYTE_SHIFT" "I" (.int (0 : Int32))) (P4 : Sta Z Z.heap "java/lang/StringUTF16" "LO_BYTE_SHIFT" "I" (.int (8 : Int32))) (hd : own_d x) (hx : ¬ 255 < x) :
    Cn l Z N b_v_of0 #[(.int x)] h0 I (Q_v_of0 Z N x cs h0 I) := by
  refine Cn.of_wk (Ls := #[.val (.int x)]) (plainFor_of_name (by first | (simp [plainName, overriddenIn]; done) | decide +kernel)) (fun m => ef_v_of0 m x) ?_
  refine Wk.getS (a0 := a0) (pc' := 3) (host := "") (Or.inl (w40 hw)) Via.refl P0 d7_0 rfl ?_
  refine Wk.if_eqN (pc' := 6) d7_3 rfl G_cs ?_
  refine Wk.iloadN (pc' := 7) d7_6 rfl rfl ?_
  refine Wk.callS (a0 := a0) (pc' := 10) (k' := 0) (n' := 0) (W := 0) (b := b_v_ce0) (argsL := [(.int x)]) (rest := []) (rm_v_ce0 hw x h0 I hx) (w41 hw) (w42 hw) (w43 hw) (w44 hw) (by decide) (Nat.le_refl _) id (Nat.le_of_ble_eq_true rfl) (Nat.le_of_ble_eq_true rfl) rfl rfl (Nat.le_of_ble_eq_true rfl) (Nat.le_of_ble_eq_true rfl) rfl pd14 rfl rfl rfl (Nat.le_of_ble_eq_true rfl) d7_7 rfl fun v1 h2 J3 hs4 hQ5 => ?_
  obtain ⟨rfl, rfl, rfl⟩ := hQ5
  show Wk _ h0 0 0 I 10 #[.val (.int x)] [(.int (1 : Int32))]
  refine Wk.if_eqN (pc' := 13) d7_10 rfl (by decide) ?_
  refine Wk.newO (a0 := a0) (pc' := 16) (k' := 1) (n' := 4) (w45 hw) (w7 hw) (w8 hw) d7_13 rfl rfl rfl (Nat.le_of_ble_eq_true rfl) (Nat.le_of_ble_eq_true rfl) fun a6 h7 hg8 hN9 E10 A11 D12 => ?_
  have F13 : Fld Z h7 a6 "java/lang/String" "value" "[B" .null := D12 (Or.inr (w22 hw)) (ty := (.array .byte)) (by decide)
  have F14 : Fld Z h7 a6 "java/lang/String" "coder" "B" (.int (0 : Int32)) := D12 (Or.inr (w23 hw)) (ty := .byte) (by decide)
  refine Wk.dup (pc' := 17) d7_16 rfl rfl ?_
  refine Wk.iloadN (pc' := 18) d7_17 rfl rfl ?_
  refine Wk.callS (a0 := a0) (pc' := 21) (k' := 2) (n' := 5) (W := 2) (b := b_v_tbl) (argsL := [(.int x)]) (rest := [(.ref a6), (.ref a6)]) (rm_v_tbl hw x h7 I ) (w46 hw) (w47 hw) (w43 hw) (w48 hw) (by decide) (Nat.le_refl _) id (Nat.le_of_ble_eq_true rfl) (Nat.le_of_ble_eq_true rfl) rfl rfl (Nat.le_of_ble_eq_true rfl) (Nat.le_of_ble_eq_true rfl) rfl pd15 rfl rfl rfl (Nat.le_of_ble_eq_true rfl) d7_18 rfl fun v15 h16 J17 hs18 hQ19 => ?_
  obtain ⟨b20, qb21, rfl, rfl, E22, g23, g24, g25⟩ := hQ19
  have ne26 : a6 ≠ b20 := Nat.ne_of_lt (Nat.lt_of_lt_of_le A11.lt g23)
  show Wk _ h16 2 5 I 21 #[.val (.int x)] [(.ref b20), (.ref a6), (.ref a6)]
  refine Wk.iconst (pc' := 22) (v := 0) d7_21 rfl rfl ?_
  have f27 := (A11.ext E22)
  have f28 := (F13.ext E22)
  have f29 := (F14.ext E22)
  refine Wk.callN (a0 := a0) (pc' := 25) (k' := 2) (n' := 5) (W := 1) (b := b_v_in0) (argsL := [(.ref b20), (.int (0 : Int32))]) (rest := [(.ref a6)]) (rm_v_in0 hw a6 b20 h16 I f27 f28 f29 hN9) rfl rfl (w49 hw) (w50 hw) (w8 hw) (w51 hw) (by decide) (Nat.le_refl _) id (Nat.le_of_ble_eq_true rfl) (Nat.le_of_ble_eq_true rfl) rfl rfl (Nat.le_of_ble_eq_true rfl) (Nat.le_of_ble_eq_true rfl) rfl pd16 rfl rfl rfl (Nat.le_of_ble_eq_true rfl) d7_22 rfl fun v30 h31 J32 hs33 hQ34 => ?_
  obtain ⟨rfl, rfl, K35, g36, g37⟩ := hQ34
  show Wk _ h31 2 5 I 25 #[.val (.int x)] [(.ref a6)]
  have f38 := (f27.keep K35)
  have f39 := (g25.keep K35 (ninS (Ne.symm ne26) nin0))
  have SA40 : StrA Z h31 a6 [x] := ⟨f38, b20, qb21, g36, Or.inl ⟨own_Lc ⟨hd.1, hx⟩ own_Ln, g37, f39⟩⟩
  exact Wk.areturn rfl rfl rfl d7_25 (Nat.le_of_ble_eq_true rfl) (Nat.le_of_ble_eq_true rfl) ⟨a6, rfl, rfl, (own_ext ((((Keep.refl h0 []).ext E10).ext E22).trans K35 (allS (Or.inr hg8) all0))), hg8, f38, SA40⟩
theorem ef_v_of1 (m : MethodId) (x0 : Int32) : entryFrame m #[(.int x0)] 1 = mkF m 0 #[.val (.int x0)] [] := by first | (simp [entryFrame, mkF, argsToLocals, Value.category]; done) | rfl
abbrev b_v_of1 : Bdy := ((⟨"java/lang/String", "valueOf", "(C)Ljava/lang/String;"⟩ : MethodName), jdk_42_method_139_code, 1, (Option.some (Jvm.ClassFile.FieldType.object "java/lang/String")), ({ frames := 2, cells := 2, slots := 6, locals := 41 } : Room))
def Q_v_of1 (Z : State) (N : Nat) (x : Int32) (cs : Int32) (h0 : Heap) (I : Lts) (v : Option Value) (h : Heap) (J : Lts) : Prop := ∃ r : Addr, I = J ∧ v = some (.ref r) ∧ Ext h0 h ∧ h0.size ≤ r ∧ Exa Z h r "java/lang/String" ∧ StrA Z h r [x]
set_option maxRecDepth 65536 in
set_option maxHeartbeats 40000000 in
theorem rm_v_of1 {l : Launch} {Z : State} {a0 : Array Value} {N : Nat} (hw : ∀ d ∈ tables_1, d.before a0 Z = true) (x : Int32) (cs : Int32) (h0 : Heap) (I : Lts) (P0 : Sta Z Z.heap "java/lang/String" "COMPACT_STRINGS" "Z" (.int cs)) (G_cs : ¬ cs = (0 : Int32)) (P2 : Sta Z Z.heap "java/lang/StringUTF16" "$assertionsDisabled" "Z" (.int (1 : Int32))) (P3 : Sta Z Z.heap "java/lang/StringUTF16" "HI_BYTE_SHIFT" "I" (.int (0 : Int32))) (P4 : Sta Z Z.heap "java/lang/StringUTF16" "LO_BYTE_SHIFT" "I" (.int (8 : Int32))) (hd : own_d x) (hx : 255 < x) :
    Cn l Z N b_v_of1 #[(.int x)] h0 I (Q_v_of1 Z N x cs h0 I) := by
  refine Cn.of_wk (Ls := #[.val (.int x)]) (plainFor_of_name (by first | (simp [plainName, overriddenIn]; done) | decide +kernel)) (fun m => ef_v_of1 m x) ?_
  refine Wk.getS (a0 := a0) (pc' := 3) (host := "") (Or.inl (w40 hw)) Via.refl P0 d7_0 rfl ?_
  refine Wk.if_eqN (pc' := 6) d7_3 rfl G_cs ?_
  refine Wk.iloadN (pc' := 7) d7_6 rfl rfl ?_
  refine Wk.callS (a0 := a0) (pc' := 10) (k' := 0) (n' := 0) (W := 0) (b := b_v_ce1) (argsL := [(.int x)]) (rest := []) (rm_v_ce1 hw x h0 I hx) (w41 hw) (w42 hw) (w43 hw) (w44 hw) (by decide) (Nat.le_refl _) id (Nat.le_of_ble_eq_true rfl) (Nat.le_of_ble_eq_true rfl) rfl rfl (Nat.le_of_ble_eq_true rfl) (Nat.le_of_ble_eq_true rfl) rfl pd14 rfl rfl rfl (Nat.le_of_ble_eq_true rfl) d7_7 rfl fun v1 h2 J3 hs4 hQ5 => ?_
  obtain ⟨rfl, rfl, rfl⟩ := hQ5
  show Wk _ h0 0 0 I 10 #[.val (.int x)] [(.int (0 : Int32))]
  refine Wk.if_eqY (pc' := 26) d7_10 (by decide) rfl ?_
  refine Wk.newO (a0 := a0) (pc' := 29) (k' := 1) (n' := 4) (w45 hw) (w7 hw) (w8 hw) d7_26 rfl rfl rfl (Nat.le_of_ble_eq_true rfl) (Nat.le_of_ble_eq_true rfl) fun a6 h7 hg8 hN9 E10 A11 D12 => ?_
  have F13 : Fld Z h7 a6 "java/lang/String" "value" "[B" .null := D12 (Or.inr (w22 hw)) (ty := (.array .byte)) (by decide)
  have F14 : Fld Z h7 a6 "java/lang/String" "coder" "B" (.int (0 : Int32)) := D12 (Or.inr (w23 hw)) (ty := .byte) (by decide)
  refine Wk.dup (pc' := 30) d7_29 rfl rfl ?_
  refine Wk.iloadN (pc' := 31) d7_30 rfl rfl ?_
  refine Wk.callS (a0 := a0) (pc' := 34) (k' := 2) (n' := 6) (W := 2) (b := b_v_tbu) (argsL := [(.int x)]) (rest := [(.ref a6), (.ref a6)]) (rm_v_tbu hw x h7 I P2 P3 P4) (w130 hw) (w131 hw) (w93 hw) (w132 hw) (by decide) (Nat.le_refl _) id (Nat.le_of_ble_eq_true rfl) (Nat.le_of_ble_eq_true rfl) rfl rfl (Nat.le_of_ble_eq_true rfl) (Nat.le_of_ble_eq_true rfl) rfl pd15 rfl rfl rfl (Nat.le_of_ble_eq_true rfl) d7_31 rfl fun v15 h16 J17 hs18 hQ19 => ?_
  obtain ⟨b20, qb21, rfl, rfl, E22, g23, g24, g25⟩ := hQ19
  have ne26 : a6 ≠ b20 := Nat.ne_of_lt (Nat.lt_of_lt_of_le A11.lt g23)
  show Wk _ h16 2 6 I 34 #[.val (.int x)] [(.ref b20), (.ref a6), (.ref a6)]
  refine Wk.iconst (pc' := 35) (v := 1) d7_34 rfl rfl ?_
  have f27 := (A11.ext E22)
  have f28 := (F13.ext E22)
  have f29 := (F14.ext E22)
  refine Wk.callN (a0 := a0) (pc' := 38) (k' := 2) (n' := 6) (W := 1) (b := b_v_in1) (argsL := [(.ref b20), (.int (1 : Int32))]) (rest := [(.ref a6)]) (rm_v_in1 hw a6 b20 h16 I f27 f28 f29 hN9) rfl rfl (w49 hw) (w50 hw) (w8 hw) (w51 hw) (by decide) (Nat.le_refl _) id (Nat.le_of_ble_eq_true rfl) (Nat.le_of_ble_eq_true rfl) rfl rfl (Nat.le_of_ble_eq_true rfl) (Nat.le_of_ble_eq_true rfl) rfl pd16 rfl rfl rfl (Nat.le_of_ble_eq_true rfl) d7_35 rfl fun v30 h31 J32 hs33 hQ34 => ?_
  obtain ⟨rfl, rfl, K35, g36, g37⟩ := hQ34
  show Wk _ h31 2 6 I 38 #[.val (.int x)] [(.ref a6)]
  have f38 := (f27.keep K35)
  have f39 := (g25.keep K35 (ninS (Ne.symm ne26) nin0))
  have SA40 : StrA Z h31 a6 [x] := ⟨f38, b20, qb21, g36, Or.inr ⟨own_Dc hd own_Dn, (by simp), g37, f39⟩⟩
  exact Wk.areturn rfl rfl rfl d7_38 (Nat.le_of_ble_eq_true rfl) (Nat.le_of_ble_eq_true rfl) ⟨a6, rfl, rfl, (own_ext ((((Keep.refl h0 []).ext E10).ext E22).trans K35 (allS (Or.inr hg8) all0))), hg8, f38, SA40⟩
theorem ef_mk (m : MethodId) (x0 : Int32) (x1 : Int32) (x2 : Int32) (x3 : Int32) (x4 : Int32) : entryFrame m #[(.int x0), (.int x1), (.int x2), (.int x3), (.int x4)] 5 = mkF m 0 #[.val (.int x0), .val (.int x1), .val (.int x2), .val (.int x3), .val (.int x4)] [] := by first | (simp [entryFrame, mkF, argsToLocals, Value.category]; done) | rfl
abbrev b_mk : Bdy := ((⟨"com/example/gravamen/gravamen/HttpSyntaxIsTokenPinLaw", "make", "(ICCCC)Ljava/lang/String;"⟩ : MethodName), method_3_code, 5, (Option.some (Jvm.ClassFile.FieldType.object "java/lang/String")), ({ frames := 6, cells := 4, slots := 24, locals := 94 } : Room))
def Q_mk (Z : State) (N : Nat) (j : Nat) (x0 : Int32) (x1 : Int32) (x2 : Int32) (x3 : Int32) (cs : Int32) (Ts : List String) (Lk : List (String × Nat × Addr)) (h0 : Heap) (I : Lts) (v : Option Value) (h : Heap) (J : Lts) : Prop := ∃ r : Addr, True ∧ v = some (.ref r) ∧ Ext h0 h ∧ h0.size ≤ r ∧ Exa Z h r "java/lang/String" ∧ StrA Z h r (List.take j [x0, x1, x2, x3])
set_option maxRecDepth 65536 in
set_option maxHeartbeats 40000000 in
theorem rm_mk {l : Launch} {Z : State} {a0 : Array Value} {N : Nat} (hw : ∀ d ∈ tables_1, d.before a0 Z = true) (j : Nat) (x0 : Int32) (x1 : Int32) (x2 : Int32) (x3 : Int32) (cs : Int32) (Ts : List String) (Lk : List (String × Nat × Addr)) (h0 : Heap) (P0 : Sta Z Z.heap "java/lang/String" "COMPACT_STRINGS" "Z" (.int cs)) (G_cs : ¬ cs = (0 : Int32)) (P2 : Sta Z Z.heap "java/lang/StringUTF16" "$assertionsDisabled" "Z" (.int (1 : Int32))) (P3 : Sta Z Z.heap "java/lang/StringUTF16" "HI_BYTE_SHIFT" "I" (.int (0 : Int32))) (P4 : Sta Z Z.heap "java/lang/StringUTF16" "LO_BYTE_SHIFT" "I" (.int (8 : Int32))) (hx0 : own_d x0) (hx1 : own_d x1) (hx2 : own_d x2) (hx3 : own_d x3) (hj : j < 5) (hT : "" ∉ Ts) (G_h7 : Jvm.Lit.constHeld Z "java/lang/String" 7) (G_cw : Jvm.Lit.compactW.before a0 Z = true) :
    Cn l Z N b_mk #[(.int (Int32.ofNat j)), (.int x0), (.int x1), (.int x2), (.int x3)] h0 (some (Ts, Lk)) (Q_mk Z N j x0 x1 x2 x3 cs Ts Lk h0 (some (Ts, Lk))) := by
  refine Cn.of_wk (Ls := #[.val (.int (Int32.ofNat j)), .val (.int x0), .val (.int x1), .val (.int x2), .val (.int x3)]) (plainFor_of_name (by first | (simp [plainName, overriddenIn]; done) | decide +kernel)) (fun m => ef_mk m (Int32.ofNat j) x0 x1 x2 x3) ?_
  rcases (show j = 0 ∨ j = 1 ∨ j = 2 ∨ j = 3 ∨ j = 4 by omega) with rfl | rfl | rfl | rfl | rfl
  · skip
    show Wk _ h0 0 0 (some (Ts, Lk)) 0 #[.val (.int (0 : Int32)), .val (.int x0), .val (.int x1), .val (.int x2), .val (.int x3)] []
    refine Wk.iloadN (pc' := 1) d1_0 rfl rfl ?_
    refine Wk.if_neN (pc' := 4) d1_1 rfl rfl ?_
    refine Wk.newO (a0 := a0) (pc' := 7) (k' := 1) (n' := 4) (w6 hw) (w7 hw) (w8 hw) d1_4 rfl rfl rfl (Nat.le_of_ble_eq_true rfl) (Nat.le_of_ble_eq_true rfl) fun a1 h2 hg3 hN4 E5 A6 D7 => ?_
    have F8 : Fld Z h2 a1 "java/lang/String" "value" "[B" .null := D7 (Or.inr (w22 hw)) (ty := (.array .byte)) (by decide)
    have F9 : Fld Z h2 a1 "java/lang/String" "coder" "B" (.int (0 : Int32)) := D7 (Or.inr (w23 hw)) (ty := .byte) (by decide)
    refine Wk.dup (pc' := 8) d1_7 rfl rfl ?_
    refine Wk.iconst (pc' := 9) (v := 0) d1_8 rfl rfl ?_
    refine Wk.newP (a0 := a0) (aty := .char) (pc' := 11) (k' := 2) (n' := 4) (cap := 0) (w9 hw) d1_9 rfl (by decide) (by decide) (by decide) rfl rfl (Nat.le_of_ble_eq_true rfl) (Nat.le_of_ble_eq_true rfl) fun a10 h11 q12 hg13 hN14 E15 A16 => ?_
    have ne17 : a1 ≠ a10 := Nat.ne_of_lt (Nat.lt_of_lt_of_le A6.lt hg13)
    have A18 : Arv Z h11 a10 q12 .char (Int32.ofNat ([] : List Int32).length) (([] : List Int32).map Value.int) (.int (0 : Int32)) := A16
    have f19 := (A6.ext E15)
    have f20 := (F8.ext E15)
    have f21 := (F9.ext E15)
    refine Wk.callN (a0 := a0) (pc' := 14) (k' := 4) (n' := 8) (W := 1) (b := b_s_in1e) (argsL := [(.ref a10)]) (rest := [(.ref a1)]) (rm_s_in1e hw a1 a10 q12 ([] : List Int32) cs Ts Lk h11  P0 G_cs f19 f20 f21 A18 hN4 (by decide) own_Ln hT G_h7 G_cw) rfl rfl (w10 hw) (w11 hw) (w8 hw) (w12 hw) (by decide) (Nat.le_refl _) id (Nat.le_of_ble_eq_true rfl) (Nat.le_of_ble_eq_true rfl) rfl rfl (Nat.le_of_ble_eq_true rfl) (Nat.le_of_ble_eq_true rfl) rfl pd17 rfl rfl rfl (Nat.le_of_ble_eq_true rfl) d1_11 rfl fun v22 h23 J24 hs25 hQ26 => ?_
    obtain ⟨v'27, q'28, -, rfl, K29, g30, g31, g32⟩ := hQ26
    show Wk _ h23 4 8 J24 14 #[.val (.int (0 : Int32)), .val (.int x0), .val (.int x1), .val (.int x2), .val (.int x3)] [(.ref a1)]
    have f33 := (f19.keep K29)
    have SA34 : StrA Z h23 a1 ([] : List Int32) := ⟨f33, v'27, q'28, g30, Or.inl ⟨own_Ln, g31, g32⟩⟩
    exact Wk.areturn rfl rfl rfl d1_14 (Nat.le_of_ble_eq_true rfl) (Nat.le_of_ble_eq_true rfl) ⟨a1, trivial, rfl, (own_ext ((((Keep.refl h0 []).ext E5).ext E15).trans K29 (allS (Or.inr hg3) all0))), hg3, f33, SA34⟩
  · skip
    show Wk _ h0 0 0 (some (Ts, Lk)) 0 #[.val (.int (1 : Int32)), .val (.int x0), .val (.int x1), .val (.int x2), .val (.int x3)] []
    refine Wk.iloadN (pc' := 1) d1_0 rfl rfl ?_
    refine Wk.if_neY (pc' := 15) d1_1 (by decide) (by decide) ?_
    refine Wk.iloadN (pc' := 16) d1_15 rfl rfl ?_
    refine Wk.iconst (pc' := 17) (v := 1) d1_16 rfl rfl ?_
    refine Wk.icmp_neN (pc' := 20) d1_17 rfl rfl ?_
    refine Wk.iloadN (pc' := 21) d1_20 rfl rfl ?_
    by_cases hx : 255 < x0
    · skip
      refine Wk.callS (a0 := a0) (pc' := 24) (k' := 2) (n' := 6) (W := 0) (b := b_v_of1) (argsL := [(.int x0)]) (rest := []) (rm_v_of1 hw x0 cs h0 (some (Ts, Lk)) P0 G_cs P2 P3 P4 hx0 hx) (w37 hw) (w38 hw) (w8 hw) (w39 hw) (by decide) (Nat.le_refl _) id (Nat.le_of_ble_eq_true rfl) (Nat.le_of_ble_eq_true rfl) rfl rfl (Nat.le_of_ble_eq_true rfl) (Nat.le_of_ble_eq_true rfl) rfl pd18 rfl rfl rfl (Nat.le_of_ble_eq_true rfl) d1_21 rfl fun v35 h36 J37 hs38 hQ39 => ?_
      obtain ⟨r40, rfl, rfl, E41, g42, g43, g44⟩ := hQ39
      show Wk _ h36 2 6 (some (Ts, Lk)) 24 #[.val (.int (1 : Int32)), .val (.int x0), .val (.int x1), .val (.int x2), .val (.int x3)] [(.ref r40)]
      exact Wk.areturn rfl rfl rfl d1_24 (Nat.le_of_ble_eq_true rfl) (Nat.le_of_ble_eq_true rfl) ⟨r40, trivial, rfl, (own_ext ((Keep.refl h0 []).ext E41)), g42, g43, g44⟩
    · skip
      refine Wk.callS (a0 := a0) (pc' := 24) (k' := 2) (n' := 6) (W := 0) (b := b_v_of0) (argsL := [(.int x0)]) (rest := []) (rm_v_of0 hw x0 cs h0 (some (Ts, Lk)) P0 G_cs P2 P3 P4 hx0 hx) (w37 hw) (w38 hw) (w8 hw) (w39 hw) (by decide) (Nat.le_refl _) id (Nat.le_of_ble_eq_true rfl) (Nat.le_of_ble_eq_true rfl) rfl rfl (Nat.le_of_ble_eq_true rfl) (Nat.le_of_ble_eq_true rfl) rfl pd18 rfl rfl rfl (Nat.le_of_ble_eq_true rfl) d1_21 rfl fun v45 h46 J47 hs48 hQ49 => ?_
      obtain ⟨r50, rfl, rfl, E51, g52, g53, g54⟩ := hQ49
      show Wk _ h46 2 6 (some (Ts, Lk)) 24 #[.val (.int (1 : Int32)), .val (.int x0), .val (.int x1), .val (.int x2), .val (.int x3)] [(.ref r50)]
      exact Wk.areturn rfl rfl rfl d1_24 (Nat.le_of_ble_eq_true rfl) (Nat.le_of_ble_eq_true rfl) ⟨r50, trivial, rfl, (own_ext ((Keep.refl h0 []).ext E51)), g52, g53, g54⟩
  · skip
    show Wk _ h0 0 0 (some (Ts, Lk)) 0 #[.val (.int (2 : Int32)), .val (.int x0), .val (.int x1), .val (.int x2), .val (.int x3)] []
    refine Wk.iloadN (pc' := 1) d1_0 rfl rfl ?_
    refine Wk.if_neY (pc' := 15) d1_1 (by decide) (by decide) ?_
    refine Wk.iloadN (pc' := 16) d1_15 rfl rfl ?_
    refine Wk.iconst (pc' := 17) (v := 1) d1_16 rfl rfl ?_
    refine Wk.icmp_neY (pc' := 25) d1_17 (by decide) (by decide) ?_
    refine Wk.iloadN (pc' := 26) d1_25 rfl rfl ?_
    refine Wk.iconst (pc' := 27) (v := 2) d1_26 rfl rfl ?_
    refine Wk.icmp_neN (pc' := 30) d1_27 rfl rfl ?_
    refine Wk.newO (a0 := a0) (pc' := 33) (k' := 1) (n' := 4) (w6 hw) (w7 hw) (w8 hw) d1_30 rfl rfl rfl (Nat.le_of_ble_eq_true rfl) (Nat.le_of_ble_eq_true rfl) fun a55 h56 hg57 hN58 E59 A60 D61 => ?_
    have F62 : Fld Z h56 a55 "java/lang/String" "value" "[B" .null := D61 (Or.inr (w22 hw)) (ty := (.array .byte)) (by decide)
    have F63 : Fld Z h56 a55 "java/lang/String" "coder" "B" (.int (0 : Int32)) := D61 (Or.inr (w23 hw)) (ty := .byte) (by decide)
    refine Wk.dup (pc' := 34) d1_33 rfl rfl ?_
    refine Wk.iconst (pc' := 35) (v := 2) d1_34 rfl rfl ?_
    refine Wk.newP (a0 := a0) (aty := .char) (pc' := 37) (k' := 2) (n' := 6) (cap := 2) (w9 hw) d1_35 rfl (by decide) (by decide) (by decide) rfl rfl (Nat.le_of_ble_eq_true rfl) (Nat.le_of_ble_eq_true rfl) fun a64 h65 q66 hg67 hN68 E69 A70 => ?_
    have ne71 : a55 ≠ a64 := Nat.ne_of_lt (Nat.lt_of_lt_of_le A60.lt hg67)
    have A72 : Arv Z h65 a64 q66 .char (2 : Int32) [(.int (0 : Int32)), (.int (0 : Int32))] (.int (0 : Int32)) := A70.pad (pad_rep [] (.int (0 : Int32)) 2)
    refine Wk.dup (pc' := 38) d1_37 rfl rfl ?_
    refine Wk.iconst (pc' := 39) (v := 0) d1_38 rfl rfl ?_
    refine Wk.iloadN (pc' := 40) d1_39 rfl rfl ?_
    refine Wk.castore (pc' := 41) A72 hN68 ⟨by decide, by decide⟩ 0 (by decide) (Nat.le_of_ble_eq_true rfl) d1_40 rfl fun h73 W74 A75 => ?_
    have A76 : Arv Z h73 a64 q66 .char (2 : Int32) [(.int x0), (.int (0 : Int32))] (.int (0 : Int32)) := by have q := A75; rw [own_nd hx0] at q; exact q
    refine Wk.dup (pc' := 42) d1_41 rfl rfl ?_
    refine Wk.iconst (pc' := 43) (v := 1) d1_42 rfl rfl ?_
    refine Wk.iloadN (pc' := 44) d1_43 rfl rfl ?_
    refine Wk.castore (pc' := 45) A76 hN68 ⟨by decide, by decide⟩ 1 (by decide) (Nat.le_of_ble_eq_true rfl) d1_44 rfl fun h77 W78 A79 => ?_
    have A80 : Arv Z h77 a64 q66 .char (2 : Int32) [(.int x0), (.int x1)] (.int (0 : Int32)) := by have q := A79; rw [own_nd hx1] at q; exact q
    by_cases hL : own_L [x0, x1]
    · skip
      have A81 : Arv Z h77 a64 q66 .char (Int32.ofNat [x0, x1].length) ([x0, x1].map Value.int) (.int (0 : Int32)) := A80
      have f82 := (((A60.ext E69).wr W74).wr W78)
      have f83 := (((F62.ext E69).other W74 (Or.inl ne71)).other W78 (Or.inl ne71))
      have f84 := (((F63.ext E69).other W74 (Or.inl ne71)).other W78 (Or.inl ne71))
      refine Wk.callN (a0 := a0) (pc' := 48) (k' := 3) (n' := 10) (W := 1) (b := b_s_in1) (argsL := [(.ref a64)]) (rest := [(.ref a55)]) (rm_s_in1 hw a55 a64 q66 [x0, x1] cs h77 (some (Ts, Lk)) P0 G_cs f82 f83 f84 A81 hN58 (Nat.le_of_ble_eq_true rfl) hL (by simp)) rfl rfl (w10 hw) (w11 hw) (w8 hw) (w12 hw) (by decide) (Nat.le_refl _) id (Nat.le_of_ble_eq_true rfl) (Nat.le_of_ble_eq_true rfl) rfl rfl (Nat.le_of_ble_eq_true rfl) (Nat.le_of_ble_eq_true rfl) rfl pd17 rfl rfl rfl (Nat.le_of_ble_eq_true rfl) d1_45 rfl fun v85 h86 J87 hs88 hQ89 => ?_
      obtain ⟨v'90, q'91, rfl, rfl, K92, g93, g94, g95⟩ := hQ89
      show Wk _ h86 3 10 (some (Ts, Lk)) 48 #[.val (.int (2 : Int32)), .val (.int x0), .val (.int x1), .val (.int x2), .val (.int x3)] [(.ref a55)]
      have f96 := (f82.keep K92)
      have SA97 : StrA Z h86 a55 [x0, x1] := ⟨f96, v'90, q'91, g93, Or.inl ⟨hL, g94, g95⟩⟩
      exact Wk.areturn rfl rfl rfl d1_48 (Nat.le_of_ble_eq_true rfl) (Nat.le_of_ble_eq_true rfl) ⟨a55, trivial, rfl, (own_ext ((((((Keep.refl h0 []).ext E59).ext E69).wr W74 (Or.inr (Nat.le_trans E59.1 hg67))).wr W78 (Or.inr (Nat.le_trans E59.1 hg67))).trans K92 (allS (Or.inr hg57) all0))), hg57, f96, SA97⟩
    · skip
      have A98 : Arv Z h77 a64 q66 .char (Int32.ofNat [x0, x1].length) ([x0, x1].map Value.int) (.int (0 : Int32)) := A80
      have f99 := (((A60.ext E69).wr W74).wr W78)
      have f100 := (((F62.ext E69).other W74 (Or.inl ne71)).other W78 (Or.inl ne71))
      have f101 := (((F63.ext E69).other W74 (Or.inl ne71)).other W78 (Or.inl ne71))
      refine Wk.callN (a0 := a0) (pc' := 48) (k' := 4) (n' := 18) (W := 1) (b := b_u_in1) (argsL := [(.ref a64)]) (rest := [(.ref a55)]) (rm_u_in1 hw a55 a64 q66 [x0, x1] cs h77 (some (Ts, Lk)) P0 G_cs P2 P3 P4 f99 f100 f101 A98 hN58 (Nat.le_of_ble_eq_true rfl) (own_Dc hx0 (own_Dc hx1 own_Dn)) hL (by simp)) rfl rfl (w10 hw) (w11 hw) (w8 hw) (w12 hw) (by decide) (Nat.le_refl _) id (Nat.le_of_ble_eq_true rfl) (Nat.le_of_ble_eq_true rfl) rfl rfl (Nat.le_of_ble_eq_true rfl) (Nat.le_of_ble_eq_true rfl) rfl pd17 rfl rfl rfl (Nat.le_of_ble_eq_true rfl) d1_45 rfl fun v102 h103 J104 hs105 hQ106 => ?_
      obtain ⟨v'107, q'108, rfl, rfl, K109, g110, g111, g112⟩ := hQ106
      show Wk _ h103 4 18 (some (Ts, Lk)) 48 #[.val (.int (2 : Int32)), .val (.int x0), .val (.int x1), .val (.int x2), .val (.int x3)] [(.ref a55)]
      have f113 := (f99.keep K109)
      have SA114 : StrA Z h103 a55 [x0, x1] := ⟨f113, v'107, q'108, g110, Or.inr ⟨(own_Dc hx0 (own_Dc hx1 own_Dn)), (by simp), g111, g112⟩⟩
      exact Wk.areturn rfl rfl rfl d1_48 (Nat.le_of_ble_eq_true rfl) (Nat.le_of_ble_eq_true rfl) ⟨a55, trivial, rfl, (own_ext ((((((Keep.refl h0 []).ext E59).ext E69).wr W74 (Or.inr (Nat.le_trans E59.1 hg67))).wr W78 (Or.inr (Nat.le_trans E59.1 hg67))).trans K109 (allS (Or.inr hg57) all0))), hg57, f113, SA114⟩
  · skip
    show Wk _ h0 0 0 (some (Ts, Lk)) 0 #[.val (.int (3 : Int32)), .val (.int x0), .val (.int x1), .val (.int x2), .val (.int x3)] []
    refine Wk.iloadN (pc' := 1) d1_0 rfl rfl ?_
    refine Wk.if_neY (pc' := 15) d1_1 (by decide) (by decide) ?_
    refine Wk.iloadN (pc' := 16) d1_15 rfl rfl ?_
    refine Wk.iconst (pc' := 17) (v := 1) d1_16 rfl rfl ?_
    refine Wk.icmp_neY (pc' := 25) d1_17 (by decide) (by decide) ?_
    refine Wk.iloadN (pc' := 26) d1_25 rfl rfl ?_
    refine Wk.iconst (pc' := 27) (v := 2) d1_26 rfl rfl ?_
    refine Wk.icmp_neY (pc' := 49) d1_27 (by decide) (by decide) ?_
    refine Wk.iloadN (pc' := 50) d1_49 rfl rfl ?_
    refine Wk.iconst (pc' := 51) (v := 3) d1_50 rfl rfl ?_
    refine Wk.icmp_neN (pc' := 54) d1_51 rfl rfl ?_
    refine Wk.newO (a0 := a0) (pc' := 57) (k' := 1) (n' := 4) (w6 hw) (w7 hw) (w8 hw) d1_54 rfl rfl rfl (Nat.le_of_ble_eq_true rfl) (Nat.le_of_ble_eq_true rfl) fun a115 h116 hg117 hN118 E119 A120 D121 => ?_
    have F122 : Fld Z h116 a115 "java/lang/String" "value" "[B" .null := D121 (Or.inr (w22 hw)) (ty := (.array .byte)) (by decide)
    have F123 : Fld Z h116 a115 "java/lang/String" "coder" "B" (.int (0 : Int32)) := D121 (Or.inr (w23 hw)) (ty := .byte) (by decide)
    refine Wk.dup (pc' := 58) d1_57 rfl rfl ?_
    refine Wk.iconst (pc' := 59) (v := 3) d1_58 rfl rfl ?_
    refine Wk.newP (a0 := a0) (aty := .char) (pc' := 61) (k' := 2) (n' := 7) (cap := 3) (w9 hw) d1_59 rfl (by decide) (by decide) (by decide) rfl rfl (Nat.le_of_ble_eq_true rfl) (Nat.le_of_ble_eq_true rfl) fun a124 h125 q126 hg127 hN128 E129 A130 => ?_
    have ne131 : a115 ≠ a124 := Nat.ne_of_lt (Nat.lt_of_lt_of_le A120.lt hg127)
    have A132 : Arv Z h125 a124 q126 .char (3 : Int32) [(.int (0 : Int32)), (.int (0 : Int32)), (.int (0 : Int32))] (.int (0 : Int32)) := A130.pad (pad_rep [] (.int (0 : Int32)) 3)
    refine Wk.dup (pc' := 62) d1_61 rfl rfl ?_
    refine Wk.iconst (pc' := 63) (v := 0) d1_62 rfl rfl ?_
    refine Wk.iloadN (pc' := 64) d1_63 rfl rfl ?_
    refine Wk.castore (pc' := 65) A132 hN128 ⟨by decide, by decide⟩ 0 (by decide) (Nat.le_of_ble_eq_true rfl) d1_64 rfl fun h133 W134 A135 => ?_
    have A136 : Arv Z h133 a124 q126 .char (3 : Int32) [(.int x0), (.int (0 : Int32)), (.int (0 : Int32))] (.int (0 : Int32)) := by have q := A135; rw [own_nd hx0] at q; exact q
    refine Wk.dup (pc' := 66) d1_65 rfl rfl ?_
    refine Wk.iconst (pc' := 67) (v := 1) d1_66 rfl rfl ?_
    refine Wk.iloadN (pc' := 68) d1_67 rfl rfl ?_
    refine Wk.castore (pc' := 69) A136 hN128 ⟨by decide, by decide⟩ 1 (by decide) (Nat.le_of_ble_eq_true rfl) d1_68 rfl fun h137 W138 A139 => ?_
    have A140 : Arv Z h137 a124 q126 .char (3 : Int32) [(.int x0), (.int x1), (.int (0 : Int32))] (.int (0 : Int32)) := by have q := A139; rw [own_nd hx1] at q; exact q
    refine Wk.dup (pc' := 70) d1_69 rfl rfl ?_
    refine Wk.iconst (pc' := 71) (v := 2) d1_70 rfl rfl ?_
    refine Wk.iloadN (pc' := 72) d1_71 rfl rfl ?_
    refine Wk.castore (pc' := 73) A140 hN128 ⟨by decide, by decide⟩ 2 (by decide) (Nat.le_of_ble_eq_true rfl) d1_72 rfl fun h141 W142 A143 => ?_
    have A144 : Arv Z h141 a124 q126 .char (3 : Int32) [(.int x0), (.int x1), (.int x2)] (.int (0 : Int32)) := by have q := A143; rw [own_nd hx2] at q; exact q
    by_cases hL : own_L [x0, x1, x2]
    · skip
      have A145 : Arv Z h141 a124 q126 .char (Int32.ofNat [x0, x1, x2].length) ([x0, x1, x2].map Value.int) (.int (0 : Int32)) := A144
      have f146 := ((((A120.ext E129).wr W134).wr W138).wr W142)
      have f147 := ((((F122.ext E129).other W134 (Or.inl ne131)).other W138 (Or.inl ne131)).other W142 (Or.inl ne131))
      have f148 := ((((F123.ext E129).other W134 (Or.inl ne131)).other W138 (Or.inl ne131)).other W142 (Or.inl ne131))
      refine Wk.callN (a0 := a0) (pc' := 76) (k' := 3) (n' := 11) (W := 1) (b := b_s_in1) (argsL := [(.ref a124)]) (rest := [(.ref a115)]) (rm_s_in1 hw a115 a124 q126 [x0, x1, x2] cs h141 (some (Ts, Lk)) P0 G_cs f146 f147 f148 A145 hN118 (Nat.le_of_ble_eq_true rfl) hL (by simp)) rfl rfl (w10 hw) (w11 hw) (w8 hw) (w12 hw) (by decide) (Nat.le_refl _) id (Nat.le_of_ble_eq_true rfl) (Nat.le_of_ble_eq_true rfl) rfl rfl (Nat.le_of_ble_eq_true rfl) (Nat.le_of_ble_eq_true rfl) rfl pd17 rfl rfl rfl (Nat.le_of_ble_eq_true rfl) d1_73 rfl fun v149 h150 J151 hs152 hQ153 => ?_
      obtain ⟨v'154, q'155, rfl, rfl, K156, g157, g158, g159⟩ := hQ153
      show Wk _ h150 3 11 (some (Ts, Lk)) 76 #[.val (.int (3 : Int32)), .val (.int x0), .val (.int x1), .val (.int x2), .val (.int x3)] [(.ref a115)]
      have f160 := (f146.keep K156)
      have SA161 : StrA Z h150 a115 [x0, x1, x2] := ⟨f160, v'154, q'155, g157, Or.inl ⟨hL, g158, g159⟩⟩
      exact Wk.areturn rfl rfl rfl d1_76 (Nat.le_of_ble_eq_true rfl) (Nat.le_of_ble_eq_true rfl) ⟨a115, trivial, rfl, (own_ext (((((((Keep.refl h0 []).ext E119).ext E129).wr W134 (Or.inr (Nat.le_trans E119.1 hg127))).wr W138 (Or.inr (Nat.le_trans E119.1 hg127))).wr W142 (Or.inr (Nat.le_trans E119.1 hg127))).trans K156 (allS (Or.inr hg117) all0))), hg117, f160, SA161⟩
    · skip
      have A162 : Arv Z h141 a124 q126 .char (Int32.ofNat [x0, x1, x2].length) ([x0, x1, x2].map Value.int) (.int (0 : Int32)) := A144
      have f163 := ((((A120.ext E129).wr W134).wr W138).wr W142)
      have f164 := ((((F122.ext E129).other W134 (Or.inl ne131)).other W138 (Or.inl ne131)).other W142 (Or.inl ne131))
      have f165 := ((((F123.ext E129).other W134 (Or.inl ne131)).other W138 (Or.inl ne131)).other W142 (Or.inl ne131))
      refine Wk.callN (a0 := a0) (pc' := 76) (k' := 4) (n' := 19) (W := 1) (b := b_u_in1) (argsL := [(.ref a124)]) (rest := [(.ref a115)]) (rm_u_in1 hw a115 a124 q126 [x0, x1, x2] cs h141 (some (Ts, Lk)) P0 G_cs P2 P3 P4 f163 f164 f165 A162 hN118 (Nat.le_of_ble_eq_true rfl) (own_Dc hx0 (own_Dc hx1 (own_Dc hx2 own_Dn))) hL (by simp)) rfl rfl (w10 hw) (w11 hw) (w8 hw) (w12 hw) (by decide) (Nat.le_refl _) id (Nat.le_of_ble_eq_true rfl) (Nat.le_of_ble_eq_true rfl) rfl rfl (Nat.le_of_ble_eq_true rfl) (Nat.le_of_ble_eq_true rfl) rfl pd17 rfl rfl rfl (Nat.le_of_ble_eq_true rfl) d1_73 rfl fun v166 h167 J168 hs169 hQ170 => ?_
      obtain ⟨v'171, q'172, rfl, rfl, K173, g174, g175, g176⟩ := hQ170
      show Wk _ h167 4 19 (some (Ts, Lk)) 76 #[.val (.int (3 : Int32)), .val (.int x0), .val (.int x1), .val (.int x2), .val (.int x3)] [(.ref a115)]
      have f177 := (f163.keep K173)
      have SA178 : StrA Z h167 a115 [x0, x1, x2] := ⟨f177, v'171, q'172, g174, Or.inr ⟨(own_Dc hx0 (own_Dc hx1 (own_Dc hx2 own_Dn))), (by simp), g175, g176⟩⟩
      exact Wk.areturn rfl rfl rfl d1_76 (Nat.le_of_ble_eq_true rfl) (Nat.le_of_ble_eq_true rfl) ⟨a115, trivial, rfl, (own_ext (((((((Keep.refl h0 []).ext E119).ext E129).wr W134 (Or.inr (Nat.le_trans E119.1 hg127))).wr W138 (Or.inr (Nat.le_trans E119.1 hg127))).wr W142 (Or.inr (Nat.le_trans E119.1 hg127))).trans K173 (allS (Or.inr hg117) all0))), hg117, f177, SA178⟩
  · skip
    show Wk _ h0 0 0 (some (Ts, Lk)) 0 #[.val (.int (4 : Int32)), .val (.int x0), .val (.int x1), .val (.int x2), .val (.int x3)] []
    refine Wk.iloadN (pc' := 1) d1_0 rfl rfl ?_
    refine Wk.if_neY (pc' := 15) d1_1 (by decide) (by decide) ?_
    refine Wk.iloadN (pc' := 16) d1_15 rfl rfl ?_
    refine Wk.iconst (pc' := 17) (v := 1) d1_16 rfl rfl ?_
    refine Wk.icmp_neY (pc' := 25) d1_17 (by decide) (by decide) ?_
    refine Wk.iloadN (pc' := 26) d1_25 rfl rfl ?_
    refine Wk.iconst (pc' := 27) (v := 2) d1_26 rfl rfl ?_
    refine Wk.icmp_neY (pc' := 49) d1_27 (by decide) (by decide) ?_
    refine Wk.iloadN (pc' := 50) d1_49 rfl rfl ?_
    refine Wk.iconst (pc' := 51) (v := 3) d1_50 rfl rfl ?_
    refine Wk.icmp_neY (pc' := 77) d1_51 (by decide) (by decide) ?_
    refine Wk.newO (a0 := a0) (pc' := 80) (k' := 1) (n' := 4) (w6 hw) (w7 hw) (w8 hw) d1_77 rfl rfl rfl (Nat.le_of_ble_eq_true rfl) (Nat.le_of_ble_eq_true rfl) fun a179 h180 hg181 hN182 E183 A184 D185 => ?_
    have F186 : Fld Z h180 a179 "java/lang/String" "value" "[B" .null := D185 (Or.inr (w22 hw)) (ty := (.array .byte)) (by decide)
    have F187 : Fld Z h180 a179 "java/lang/String" "coder" "B" (.int (0 : Int32)) := D185 (Or.inr (w23 hw)) (ty := .byte) (by decide)
    refine Wk.dup (pc' := 81) d1_80 rfl rfl ?_
    refine Wk.iconst (pc' := 82) (v := 4) d1_81 rfl rfl ?_
    refine Wk.newP (a0 := a0) (aty := .char) (pc' := 84) (k' := 2) (n' := 8) (cap := 4) (w9 hw) d1_82 rfl (by decide) (by decide) (by decide) rfl rfl (Nat.le_of_ble_eq_true rfl) (Nat.le_of_ble_eq_true rfl) fun a188 h189 q190 hg191 hN192 E193 A194 => ?_
    have ne195 : a179 ≠ a188 := Nat.ne_of_lt (Nat.lt_of_lt_of_le A184.lt hg191)
    have A196 : Arv Z h189 a188 q190 .char (4 : Int32) [(.int (0 : Int32)), (.int (0 : Int32)), (.int (0 : Int32)), (.int (0 : Int32))] (.int (0 : Int32)) := A194.pad (pad_rep [] (.int (0 : Int32)) 4)
    refine Wk.dup (pc' := 85) d1_84 rfl rfl ?_
    refine Wk.iconst (pc' := 86) (v := 0) d1_85 rfl rfl ?_
    refine Wk.iloadN (pc' := 87) d1_86 rfl rfl ?_
    refine Wk.castore (pc' := 88) A196 hN192 ⟨by decide, by decide⟩ 0 (by decide) (Nat.le_of_ble_eq_true rfl) d1_87 rfl fun h197 W198 A199 => ?_
    have A200 : Arv Z h197 a188 q190 .char (4 : Int32) [(.int x0), (.int (0 : Int32)), (.int (0 : Int32)), (.int (0 : Int32))] (.int (0 : Int32)) := by have q := A199; rw [own_nd hx0] at q; exact q
    refine Wk.dup (pc' := 89) d1_88 rfl rfl ?_
    refine Wk.iconst (pc' := 90) (v := 1) d1_89 rfl rfl ?_
    refine Wk.iloadN (pc' := 91) d1_90 rfl rfl ?_
    refine Wk.castore (pc' := 92) A200 hN192 ⟨by decide, by decide⟩ 1 (by decide) (Nat.le_of_ble_eq_true rfl) d1_91 rfl fun h201 W202 A203 => ?_
    have A204 : Arv Z h201 a188 q190 .char (4 : Int32) [(.int x0), (.int x1), (.int (0 : Int32)), (.int (0 : Int32))] (.int (0 : Int32)) := by have q := A203; rw [own_nd hx1] at q; exact q
    refine Wk.dup (pc' := 93) d1_92 rfl rfl ?_
    refine Wk.iconst (pc' := 94) (v := 2) d1_93 rfl rfl ?_
    refine Wk.iloadN (pc' := 95) d1_94 rfl rfl ?_
    refine Wk.castore (pc' := 96) A204 hN192 ⟨by decide, by decide⟩ 2 (by decide) (Nat.le_of_ble_eq_true rfl) d1_95 rfl fun h205 W206 A207 => ?_
    have A208 : Arv Z h205 a188 q190 .char (4 : Int32) [(.int x0), (.int x1), (.int x2), (.int (0 : Int32))] (.int (0 : Int32)) := by have q := A207; rw [own_nd hx2] at q; exact q
    refine Wk.dup (pc' := 97) d1_96 rfl rfl ?_
    refine Wk.iconst (pc' := 98) (v := 3) d1_97 rfl rfl ?_
    refine Wk.iload (pc' := 100) d1_98 rfl rfl ?_
    refine Wk.castore (pc' := 101) A208 hN192 ⟨by decide, by decide⟩ 3 (by decide) (Nat.le_of_ble_eq_true rfl) d1_100 rfl fun h209 W210 A211 => ?_
    have A212 : Arv Z h209 a188 q190 .char (4 : Int32) [(.int x0), (.int x1), (.int x2), (.int x3)] (.int (0 : Int32)) := by have q := A211; rw [own_nd hx3] at q; exact q
    by_cases hL : own_L [x0, x1, x2, x3]
    · skip
      have A213 : Arv Z h209 a188 q190 .char (Int32.ofNat [x0, x1, x2, x3].length) ([x0, x1, x2, x3].map Value.int) (.int (0 : Int32)) := A212
      have f214 := (((((A184.ext E193).wr W198).wr W202).wr W206).wr W210)
      have f215 := (((((F186.ext E193).other W198 (Or.inl ne195)).other W202 (Or.inl ne195)).other W206 (Or.inl ne195)).other W210 (Or.inl ne195))
      have f216 := (((((F187.ext E193).other W198 (Or.inl ne195)).other W202 (Or.inl ne195)).other W206 (Or.inl ne195)).other W210 (Or.inl ne195))
      refine Wk.callN (a0 := a0) (pc' := 104) (k' := 3) (n' := 12) (W := 1) (b := b_s_in1) (argsL := [(.ref a188)]) (rest := [(.ref a179)]) (rm_s_in1 hw a179 a188 q190 [x0, x1, x2, x3] cs h209 (some (Ts, Lk)) P0 G_cs f214 f215 f216 A213 hN182 (Nat.le_of_ble_eq_true rfl) hL (by simp)) rfl rfl (w10 hw) (w11 hw) (w8 hw) (w12 hw) (by decide) (Nat.le_refl _) id (Nat.le_of_ble_eq_true rfl) (Nat.le_of_ble_eq_true rfl) rfl rfl (Nat.le_of_ble_eq_true rfl) (Nat.le_of_ble_eq_true rfl) rfl pd17 rfl rfl rfl (Nat.le_of_ble_eq_true rfl) d1_101 rfl fun v217 h218 J219 hs220 hQ221 => ?_
      obtain ⟨v'222, q'223, rfl, rfl, K224, g225, g226, g227⟩ := hQ221
      show Wk _ h218 3 12 (some (Ts, Lk)) 104 #[.val (.int (4 : Int32)), .val (.int x0), .val (.int x1), .val (.int x2), .val (.int x3)] [(.ref a179)]
      have f228 := (f214.keep K224)
      have SA229 : StrA Z h218 a179 [x0, x1, x2, x3] := ⟨f228, v'222, q'223, g225, Or.inl ⟨hL, g226, g227⟩⟩
      exact Wk.areturn rfl rfl rfl d1_104 (Nat.le_of_ble_eq_true rfl) (Nat.le_of_ble_eq_true rfl) ⟨a179, trivial, rfl, (own_ext ((((((((Keep.refl h0 []).ext E183).ext E193).wr W198 (Or.inr (Nat.le_trans E183.1 hg191))).wr W202 (Or.inr (Nat.le_trans E183.1 hg191))).wr W206 (Or.inr (Nat.le_trans E183.1 hg191))).wr W210 (Or.inr (Nat.le_trans E183.1 hg191))).trans K224 (allS (Or.inr hg181) all0))), hg181, f228, SA229⟩
    · skip
      have A230 : Arv Z h209 a188 q190 .char (Int32.ofNat [x0, x1, x2, x3].length) ([x0, x1, x2, x3].map Value.int) (.int (0 : Int32)) := A212
      have f231 := (((((A184.ext E193).wr W198).wr W202).wr W206).wr W210)
      have f232 := (((((F186.ext E193).other W198 (Or.inl ne195)).other W202 (Or.inl ne195)).other W206 (Or.inl ne195)).other W210 (Or.inl ne195))
      have f233 := (((((F187.ext E193).other W198 (Or.inl ne195)).other W202 (Or.inl ne195)).other W206 (Or.inl ne195)).other W210 (Or.inl ne195))
      refine Wk.callN (a0 := a0) (pc' := 104) (k' := 4) (n' := 20) (W := 1) (b := b_u_in1) (argsL := [(.ref a188)]) (rest := [(.ref a179)]) (rm_u_in1 hw a179 a188 q190 [x0, x1, x2, x3] cs h209 (some (Ts, Lk)) P0 G_cs P2 P3 P4 f231 f232 f233 A230 hN182 (Nat.le_of_ble_eq_true rfl) (own_Dc hx0 (own_Dc hx1 (own_Dc hx2 (own_Dc hx3 own_Dn)))) hL (by simp)) rfl rfl (w10 hw) (w11 hw) (w8 hw) (w12 hw) (by decide) (Nat.le_refl _) id (Nat.le_of_ble_eq_true rfl) (Nat.le_of_ble_eq_true rfl) rfl rfl (Nat.le_of_ble_eq_true rfl) (Nat.le_of_ble_eq_true rfl) rfl pd17 rfl rfl rfl (Nat.le_of_ble_eq_true rfl) d1_101 rfl fun v234 h235 J236 hs237 hQ238 => ?_
      obtain ⟨v'239, q'240, rfl, rfl, K241, g242, g243, g244⟩ := hQ238
      show Wk _ h235 4 20 (some (Ts, Lk)) 104 #[.val (.int (4 : Int32)), .val (.int x0), .val (.int x1), .val (.int x2), .val (.int x3)] [(.ref a179)]
      have f245 := (f231.keep K241)
      have SA246 : StrA Z h235 a179 [x0, x1, x2, x3] := ⟨f245, v'239, q'240, g242, Or.inr ⟨(own_Dc hx0 (own_Dc hx1 (own_Dc hx2 (own_Dc hx3 own_Dn)))), (by simp), g243, g244⟩⟩
      exact Wk.areturn rfl rfl rfl d1_104 (Nat.le_of_ble_eq_true rfl) (Nat.le_of_ble_eq_true rfl) ⟨a179, trivial, rfl, (own_ext ((((((((Keep.refl h0 []).ext E183).ext E193).wr W198 (Or.inr (Nat.le_trans E183.1 hg191))).wr W202 (Or.inr (Nat.le_trans E183.1 hg191))).wr W206 (Or.inr (Nat.le_trans E183.1 hg191))).wr W210 (Or.inr (Nat.le_trans E183.1 hg191))).trans K241 (allS (Or.inr hg181) all0))), hg181, f245, SA246⟩
theorem ef_tch (m : MethodId) (x0 : Int32) : entryFrame m #[(.int x0)] 1 = mkF m 0 #[.val (.int x0)] [] := by first | (simp [entryFrame, mkF, argsToLocals, Value.category]; done) | rfl
abbrev b_tch : Bdy := ((⟨"com/example/gravamen/gravamen/HttpSyntaxIsTokenPinLaw", "tchar", "(C)Z"⟩ : MethodName), method_4_code, 1, (Option.some Jvm.ClassFile.FieldType.boolean), ({ frames := 0, cells := 0, slots := 0, locals := 0 } : Room))
def Q_tch (Z : State) (N : Nat) (x : Int32) (h0 : Heap) (I : Lts) (v : Option Value) (h : Heap) (J : Lts) : Prop := I = J ∧ v = some (.int (own_bi (own_t x))) ∧ h0 = h
set_option maxRecDepth 65536 in
set_option maxHeartbeats 40000000 in
theorem rm_tch {l : Launch} {Z : State} {a0 : Array Value} {N : Nat} (hw : ∀ d ∈ tables_1, d.before a0 Z = true) (x : Int32) (h0 : Heap) (I : Lts) :
    Cn l Z N b_tch #[(.int x)] h0 I (Q_tch Z N x h0 I) := by
  refine Cn.of_wk (Ls := #[.val (.int x)]) (plainFor_of_name (by first | (simp [plainName, overriddenIn]; done) | decide +kernel)) (fun m => ef_tch m x) ?_
  refine Wk.iloadN (pc' := 1) d11_0 rfl rfl ?_
  refine Wk.bipush (pc' := 3) (v := 48) d11_1 rfl rfl ?_
  by_cases c3_1 : x < (48 : Int32)
  · refine Wk.icmp_ltY (pc' := 14) d11_3 (by decide) c3_1 ?_
    refine Wk.iloadN (pc' := 15) d11_14 rfl rfl ?_
    refine Wk.bipush (pc' := 17) (v := 65) d11_15 rfl rfl ?_
    by_cases c17_2 : x < (65 : Int32)
    · refine Wk.icmp_ltY (pc' := 28) d11_17 (by decide) c17_2 ?_
      refine Wk.iloadN (pc' := 29) d11_28 rfl rfl ?_
      refine Wk.bipush (pc' := 31) (v := 97) d11_29 rfl rfl ?_
      by_cases c31_3 : x < (97 : Int32)
      · refine Wk.icmp_ltY (pc' := 42) d11_31 (by decide) c31_3 ?_
        refine Wk.iloadN (pc' := 43) d11_42 rfl rfl ?_
        refine Wk.bipush (pc' := 45) (v := 33) d11_43 rfl rfl ?_
        by_cases c45_4 : x = (33 : Int32)
        · refine Wk.icmp_eqY (pc' := 132) d11_45 (by decide) c45_4 ?_
          refine Wk.iconst (pc' := 133) (v := 1) d11_132 rfl rfl ?_
          refine Wk.goto (pc' := 137) d11_133 (by decide) ?_
          exact Wk.zreturn rfl (by simp) d11_137 (Nat.le_of_ble_eq_true rfl) (Nat.le_of_ble_eq_true rfl) ⟨rfl, (by rw [show own_t x = true from by simp [own_t, c3_1, c17_2, c31_3, c45_4]]; rfl), rfl⟩
        · refine Wk.icmp_eqN (pc' := 48) d11_45 rfl c45_4 ?_
          refine Wk.iloadN (pc' := 49) d11_48 rfl rfl ?_
          refine Wk.bipush (pc' := 51) (v := 35) d11_49 rfl rfl ?_
          by_cases c51_5 : x = (35 : Int32)
          · refine Wk.icmp_eqY (pc' := 132) d11_51 (by decide) c51_5 ?_
            refine Wk.iconst (pc' := 133) (v := 1) d11_132 rfl rfl ?_
            refine Wk.goto (pc' := 137) d11_133 (by decide) ?_
            exact Wk.zreturn rfl (by simp) d11_137 (Nat.le_of_ble_eq_true rfl) (Nat.le_of_ble_eq_true rfl) ⟨rfl, (by rw [show own_t x = true from by simp [own_t, c3_1, c17_2, c31_3, c45_4, c51_5]]; rfl), rfl⟩
          · refine Wk.icmp_eqN (pc' := 54) d11_51 rfl c51_5 ?_
            refine Wk.iloadN (pc' := 55) d11_54 rfl rfl ?_
            refine Wk.bipush (pc' := 57) (v := 36) d11_55 rfl rfl ?_
            by_cases c57_6 : x = (36 : Int32)
            · refine Wk.icmp_eqY (pc' := 132) d11_57 (by decide) c57_6 ?_
              refine Wk.iconst (pc' := 133) (v := 1) d11_132 rfl rfl ?_
              refine Wk.goto (pc' := 137) d11_133 (by decide) ?_
              exact Wk.zreturn rfl (by simp) d11_137 (Nat.le_of_ble_eq_true rfl) (Nat.le_of_ble_eq_true rfl) ⟨rfl, (by rw [show own_t x = true from by simp [own_t, c3_1, c17_2, c31_3, c45_4, c51_5, c57_6]]; rfl), rfl⟩
            · refine Wk.icmp_eqN (pc' := 60) d11_57 rfl c57_6 ?_
              refine Wk.iloadN (pc' := 61) d11_60 rfl rfl ?_
              refine Wk.bipush (pc' := 63) (v := 37) d11_61 rfl rfl ?_
              by_cases c63_7 : x = (37 : Int32)
              · refine Wk.icmp_eqY (pc' := 132) d11_63 (by decide) c63_7 ?_
                refine Wk.iconst (pc' := 133) (v := 1) d11_132 rfl rfl ?_
                refine Wk.goto (pc' := 137) d11_133 (by decide) ?_
                exact Wk.zreturn rfl (by simp) d11_137 (Nat.le_of_ble_eq_true rfl) (Nat.le_of_ble_eq_true rfl) ⟨rfl, (by rw [show own_t x = true from by simp [own_t, c3_1, c17_2, c31_3, c45_4, c51_5, c57_6, c63_7]]; rfl), rfl⟩
              · refine Wk.icmp_eqN (pc' := 66) d11_63 rfl c63_7 ?_
                refine Wk.iloadN (pc' := 67) d11_66 rfl rfl ?_
                refine Wk.bipush (pc' := 69) (v := 38) d11_67 rfl rfl ?_
                by_cases c69_8 : x = (38 : Int32)
                · refine Wk.icmp_eqY (pc' := 132) d11_69 (by decide) c69_8 ?_
                  refine Wk.iconst (pc' := 133) (v := 1) d11_132 rfl rfl ?_
                  refine Wk.goto (pc' := 137) d11_133 (by decide) ?_
                  exact Wk.zreturn rfl (by simp) d11_137 (Nat.le_of_ble_eq_true rfl) (Nat.le_of_ble_eq_true rfl) ⟨rfl, (by rw [show own_t x = true from by simp [own_t, c3_1, c17_2, c31_3, c45_4, c51_5, c57_6, c63_7, c69_8]]; rfl), rfl⟩
                · refine Wk.icmp_eqN (pc' := 72) d11_69 rfl c69_8 ?_
                  refine Wk.iloadN (pc' := 73) d11_72 rfl rfl ?_
                  refine Wk.bipush (pc' := 75) (v := 39) d11_73 rfl rfl ?_
                  by_cases c75_9 : x = (39 : Int32)
                  · refine Wk.icmp_eqY (pc' := 132) d11_75 (by decide) c75_9 ?_
                    refine Wk.iconst (pc' := 133) (v := 1) d11_132 rfl rfl ?_
                    refine Wk.goto (pc' := 137) d11_133 (by decide) ?_
                    exact Wk.zreturn rfl (by simp) d11_137 (Nat.le_of_ble_eq_true rfl) (Nat.le_of_ble_eq_true rfl) ⟨rfl, (by rw [show own_t x = true from by simp [own_t, c3_1, c17_2, c31_3, c45_4, c51_5, c57_6, c63_7, c69_8, c75_9]]; rfl), rfl⟩
                  · refine Wk.icmp_eqN (pc' := 78) d11_75 rfl c75_9 ?_
                    refine Wk.iloadN (pc' := 79) d11_78 rfl rfl ?_
                    refine Wk.bipush (pc' := 81) (v := 42) d11_79 rfl rfl ?_
                    by_cases c81_10 : x = (42 : Int32)
                    · refine Wk.icmp_eqY (pc' := 132) d11_81 (by decide) c81_10 ?_
                      refine Wk.iconst (pc' := 133) (v := 1) d11_132 rfl rfl ?_
                      refine Wk.goto (pc' := 137) d11_133 (by decide) ?_
                      exact Wk.zreturn rfl (by simp) d11_137 (Nat.le_of_ble_eq_true rfl) (Nat.le_of_ble_eq_true rfl) ⟨rfl, (by rw [show own_t x = true from by simp [own_t, c3_1, c17_2, c31_3, c45_4, c51_5, c57_6, c63_7, c69_8, c75_9, c81_10]]; rfl), rfl⟩
                    · refine Wk.icmp_eqN (pc' := 84) d11_81 rfl c81_10 ?_
                      refine Wk.iloadN (pc' := 85) d11_84 rfl rfl ?_
                      refine Wk.bipush (pc' := 87) (v := 43) d11_85 rfl rfl ?_
                      by_cases c87_11 : x = (43 : Int32)
                      · refine Wk.icmp_eqY (pc' := 132) d11_87 (by decide) c87_11 ?_
                        refine Wk.iconst (pc' := 133) (v := 1) d11_132 rfl rfl ?_
                        refine Wk.goto (pc' := 137) d11_133 (by decide) ?_
                        exact Wk.zreturn rfl (by simp) d11_137 (Nat.le_of_ble_eq_true rfl) (Nat.le_of_ble_eq_true rfl) ⟨rfl, (by rw [show own_t x = true from by simp [own_t, c3_1, c17_2, c31_3, c45_4, c51_5, c57_6, c63_7, c69_8, c75_9, c81_10, c87_11]]; rfl), rfl⟩
                      · refine Wk.icmp_eqN (pc' := 90) d11_87 rfl c87_11 ?_
                        refine Wk.iloadN (pc' := 91) d11_90 rfl rfl ?_
                        refine Wk.bipush (pc' := 93) (v := 46) d11_91 rfl rfl ?_
                        by_cases c93_12 : x = (46 : Int32)
                        · refine Wk.icmp_eqY (pc' := 132) d11_93 (by decide) c93_12 ?_
                          refine Wk.iconst (pc' := 133) (v := 1) d11_132 rfl rfl ?_
                          refine Wk.goto (pc' := 137) d11_133 (by decide) ?_
                          exact Wk.zreturn rfl (by simp) d11_137 (Nat.le_of_ble_eq_true rfl) (Nat.le_of_ble_eq_true rfl) ⟨rfl, (by rw [show own_t x = true from by simp [own_t, c3_1, c17_2, c31_3, c45_4, c51_5, c57_6, c63_7, c69_8, c75_9, c81_10, c87_11, c93_12]]; rfl), rfl⟩
                        · refine Wk.icmp_eqN (pc' := 96) d11_93 rfl c93_12 ?_
                          refine Wk.iloadN (pc' := 97) d11_96 rfl rfl ?_
                          refine Wk.bipush (pc' := 99) (v := 94) d11_97 rfl rfl ?_
                          by_cases c99_13 : x = (94 : Int32)
                          · refine Wk.icmp_eqY (pc' := 132) d11_99 (by decide) c99_13 ?_
                            refine Wk.iconst (pc' := 133) (v := 1) d11_132 rfl rfl ?_
                            refine Wk.goto (pc' := 137) d11_133 (by decide) ?_
                            exact Wk.zreturn rfl (by simp) d11_137 (Nat.le_of_ble_eq_true rfl) (Nat.le_of_ble_eq_true rfl) ⟨rfl, (by rw [show own_t x = true from by simp [own_t, c3_1, c17_2, c31_3, c45_4, c51_5, c57_6, c63_7, c69_8, c75_9, c81_10, c87_11, c93_12, c99_13]]; rfl), rfl⟩
                          · refine Wk.icmp_eqN (pc' := 102) d11_99 rfl c99_13 ?_
                            refine Wk.iloadN (pc' := 103) d11_102 rfl rfl ?_
                            refine Wk.bipush (pc' := 105) (v := 95) d11_103 rfl rfl ?_
                            by_cases c105_14 : x = (95 : Int32)
                            · refine Wk.icmp_eqY (pc' := 132) d11_105 (by decide) c105_14 ?_
                              refine Wk.iconst (pc' := 133) (v := 1) d11_132 rfl rfl ?_
                              refine Wk.goto (pc' := 137) d11_133 (by decide) ?_
                              exact Wk.zreturn rfl (by simp) d11_137 (Nat.le_of_ble_eq_true rfl) (Nat.le_of_ble_eq_true rfl) ⟨rfl, (by rw [show own_t x = true from by simp [own_t, c3_1, c17_2, c31_3, c45_4, c51_5, c57_6, c63_7, c69_8, c75_9, c81_10, c87_11, c93_12, c99_13, c105_14]]; rfl), rfl⟩
                            · refine Wk.icmp_eqN (pc' := 108) d11_105 rfl c105_14 ?_
                              refine Wk.iloadN (pc' := 109) d11_108 rfl rfl ?_
                              refine Wk.bipush (pc' := 111) (v := 96) d11_109 rfl rfl ?_
                              by_cases c111_15 : x = (96 : Int32)
                              · refine Wk.icmp_eqY (pc' := 132) d11_111 (by decide) c111_15 ?_
                                refine Wk.iconst (pc' := 133) (v := 1) d11_132 rfl rfl ?_
                                refine Wk.goto (pc' := 137) d11_133 (by decide) ?_
                                exact Wk.zreturn rfl (by simp) d11_137 (Nat.le_of_ble_eq_true rfl) (Nat.le_of_ble_eq_true rfl) ⟨rfl, (by rw [show own_t x = true from by simp [own_t, c3_1, c17_2, c31_3, c45_4, c51_5, c57_6, c63_7, c69_8, c75_9, c81_10, c87_11, c93_12, c99_13, c105_14, c111_15]]; rfl), rfl⟩
                              · refine Wk.icmp_eqN (pc' := 114) d11_111 rfl c111_15 ?_
                                refine Wk.iloadN (pc' := 115) d11_114 rfl rfl ?_
                                refine Wk.bipush (pc' := 117) (v := 124) d11_115 rfl rfl ?_
                                by_cases c117_16 : x = (124 : Int32)
                                · refine Wk.icmp_eqY (pc' := 132) d11_117 (by decide) c117_16 ?_
                                  refine Wk.iconst (pc' := 133) (v := 1) d11_132 rfl rfl ?_
                                  refine Wk.goto (pc' := 137) d11_133 (by decide) ?_
                                  exact Wk.zreturn rfl (by simp) d11_137 (Nat.le_of_ble_eq_true rfl) (Nat.le_of_ble_eq_true rfl) ⟨rfl, (by rw [show own_t x = true from by simp [own_t, c3_1, c17_2, c31_3, c45_4, c51_5, c57_6, c63_7, c69_8, c75_9, c81_10, c87_11, c93_12, c99_13, c105_14, c111_15, c117_16]]; rfl), rfl⟩
                                · refine Wk.icmp_eqN (pc' := 120) d11_117 rfl c117_16 ?_
                                  refine Wk.iloadN (pc' := 121) d11_120 rfl rfl ?_
                                  refine Wk.bipush (pc' := 123) (v := 126) d11_121 rfl rfl ?_
                                  by_cases c123_17 : x = (126 : Int32)
                                  · refine Wk.icmp_eqY (pc' := 132) d11_123 (by decide) c123_17 ?_
                                    refine Wk.iconst (pc' := 133) (v := 1) d11_132 rfl rfl ?_
                                    refine Wk.goto (pc' := 137) d11_133 (by decide) ?_
                                    exact Wk.zreturn rfl (by simp) d11_137 (Nat.le_of_ble_eq_true rfl) (Nat.le_of_ble_eq_true rfl) ⟨rfl, (by rw [show own_t x = true from by simp [own_t, c3_1, c17_2, c31_3, c45_4, c51_5, c57_6, c63_7, c69_8, c75_9, c81_10, c87_11, c93_12, c99_13, c105_14, c111_15, c117_16, c123_17]]; rfl), rfl⟩
                                  · refine Wk.icmp_eqN (pc' := 126) d11_123 rfl c123_17 ?_
                                    refine Wk.iloadN (pc' := 127) d11_126 rfl rfl ?_
                                    refine Wk.bipush (pc' := 129) (v := 45) d11_127 rfl rfl ?_
                                    by_cases c129_18 : x = (45 : Int32)
                                    · refine Wk.icmp_neN (pc' := 132) d11_129 rfl c129_18 ?_
                                      refine Wk.iconst (pc' := 133) (v := 1) d11_132 rfl rfl ?_
                                      refine Wk.goto (pc' := 137) d11_133 (by decide) ?_
                                      exact Wk.zreturn rfl (by simp) d11_137 (Nat.le_of_ble_eq_true rfl) (Nat.le_of_ble_eq_true rfl) ⟨rfl, (by rw [show own_t x = true from by simp [own_t, c3_1, c17_2, c31_3, c45_4, c51_5, c57_6, c63_7, c69_8, c75_9, c81_10, c87_11, c93_12, c99_13, c105_14, c111_15, c117_16, c123_17, c129_18]]; rfl), rfl⟩
                                    · refine Wk.icmp_neY (pc' := 136) d11_129 (by decide) c129_18 ?_
                                      refine Wk.iconst (pc' := 137) (v := 0) d11_136 rfl rfl ?_
                                      exact Wk.zreturn rfl (by simp) d11_137 (Nat.le_of_ble_eq_true rfl) (Nat.le_of_ble_eq_true rfl) ⟨rfl, (by rw [show own_t x = false from by simp [own_t, c3_1, c17_2, c31_3, c45_4, c51_5, c57_6, c63_7, c69_8, c75_9, c81_10, c87_11, c93_12, c99_13, c105_14, c111_15, c117_16, c123_17, c129_18]]; rfl), rfl⟩
      · refine Wk.icmp_ltN (pc' := 34) d11_31 rfl c31_3 ?_
        refine Wk.iloadN (pc' := 35) d11_34 rfl rfl ?_
        refine Wk.bipush (pc' := 37) (v := 122) d11_35 rfl rfl ?_
        by_cases c37_19 : (122 : Int32) < x
        · refine Wk.icmp_gtY (pc' := 42) d11_37 (by decide) c37_19 ?_
          refine Wk.iloadN (pc' := 43) d11_42 rfl rfl ?_
          refine Wk.bipush (pc' := 45) (v := 33) d11_43 rfl rfl ?_
          by_cases c45_20 : x = (33 : Int32)
          · refine Wk.icmp_eqY (pc' := 132) d11_45 (by decide) c45_20 ?_
            refine Wk.iconst (pc' := 133) (v := 1) d11_132 rfl rfl ?_
            refine Wk.goto (pc' := 137) d11_133 (by decide) ?_
            exact Wk.zreturn rfl (by simp) d11_137 (Nat.le_of_ble_eq_true rfl) (Nat.le_of_ble_eq_true rfl) ⟨rfl, (by rw [show own_t x = true from by simp [own_t, c3_1, c17_2, c31_3, c37_19, c45_20]]; rfl), rfl⟩
          · refine Wk.icmp_eqN (pc' := 48) d11_45 rfl c45_20 ?_
            refine Wk.iloadN (pc' := 49) d11_48 rfl rfl ?_
            refine Wk.bipush (pc' := 51) (v := 35) d11_49 rfl rfl ?_
            by_cases c51_21 : x = (35 : Int32)
            · refine Wk.icmp_eqY (pc' := 132) d11_51 (by decide) c51_21 ?_
              refine Wk.iconst (pc' := 133) (v := 1) d11_132 rfl rfl ?_
              refine Wk.goto (pc' := 137) d11_133 (by decide) ?_
              exact Wk.zreturn rfl (by simp) d11_137 (Nat.le_of_ble_eq_true rfl) (Nat.le_of_ble_eq_true rfl) ⟨rfl, (by rw [show own_t x = true from by simp [own_t, c3_1, c17_2, c31_3, c37_19, c45_20, c51_21]]; rfl), rfl⟩
            · refine Wk.icmp_eqN (pc' := 54) d11_51 rfl c51_21 ?_
              refine Wk.iloadN (pc' := 55) d11_54 rfl rfl ?_
              refine Wk.bipush (pc' := 57) (v := 36) d11_55 rfl rfl ?_
              by_cases c57_22 : x = (36 : Int32)
              · refine Wk.icmp_eqY (pc' := 132) d11_57 (by decide) c57_22 ?_
                refine Wk.iconst (pc' := 133) (v := 1) d11_132 rfl rfl ?_
                refine Wk.goto (pc' := 137) d11_133 (by decide) ?_
                exact Wk.zreturn rfl (by simp) d11_137 (Nat.le_of_ble_eq_true rfl) (Nat.le_of_ble_eq_true rfl) ⟨rfl, (by rw [show own_t x = true from by simp [own_t, c3_1, c17_2, c31_3, c37_19, c45_20, c51_21, c57_22]]; rfl), rfl⟩
              · refine Wk.icmp_eqN (pc' := 60) d11_57 rfl c57_22 ?_
                refine Wk.iloadN (pc' := 61) d11_60 rfl rfl ?_
                refine Wk.bipush (pc' := 63) (v := 37) d11_61 rfl rfl ?_
                by_cases c63_23 : x = (37 : Int32)
                · refine Wk.icmp_eqY (pc' := 132) d11_63 (by decide) c63_23 ?_
                  refine Wk.iconst (pc' := 133) (v := 1) d11_132 rfl rfl ?_
                  refine Wk.goto (pc' := 137) d11_133 (by decide) ?_
                  exact Wk.zreturn rfl (by simp) d11_137 (Nat.le_of_ble_eq_true rfl) (Nat.le_of_ble_eq_true rfl) ⟨rfl, (by rw [show own_t x = true from by simp [own_t, c3_1, c17_2, c31_3, c37_19, c45_20, c51_21, c57_22, c63_23]]; rfl), rfl⟩
                · refine Wk.icmp_eqN (pc' := 66) d11_63 rfl c63_23 ?_
                  refine Wk.iloadN (pc' := 67) d11_66 rfl rfl ?_
                  refine Wk.bipush (pc' := 69) (v := 38) d11_67 rfl rfl ?_
                  by_cases c69_24 : x = (38 : Int32)
                  · refine Wk.icmp_eqY (pc' := 132) d11_69 (by decide) c69_24 ?_
                    refine Wk.iconst (pc' := 133) (v := 1) d11_132 rfl rfl ?_
                    refine Wk.goto (pc' := 137) d11_133 (by decide) ?_
                    exact Wk.zreturn rfl (by simp) d11_137 (Nat.le_of_ble_eq_true rfl) (Nat.le_of_ble_eq_true rfl) ⟨rfl, (by rw [show own_t x = true from by simp [own_t, c3_1, c17_2, c31_3, c37_19, c45_20, c51_21, c57_22, c63_23, c69_24]]; rfl), rfl⟩
                  · refine Wk.icmp_eqN (pc' := 72) d11_69 rfl c69_24 ?_
                    refine Wk.iloadN (pc' := 73) d11_72 rfl rfl ?_
                    refine Wk.bipush (pc' := 75) (v := 39) d11_73 rfl rfl ?_
                    by_cases c75_25 : x = (39 : Int32)
                    · refine Wk.icmp_eqY (pc' := 132) d11_75 (by decide) c75_25 ?_
                      refine Wk.iconst (pc' := 133) (v := 1) d11_132 rfl rfl ?_
                      refine Wk.goto (pc' := 137) d11_133 (by decide) ?_
                      exact Wk.zreturn rfl (by simp) d11_137 (Nat.le_of_ble_eq_true rfl) (Nat.le_of_ble_eq_true rfl) ⟨rfl, (by rw [show own_t x = true from by simp [own_t, c3_1, c17_2, c31_3, c37_19, c45_20, c51_21, c57_22, c63_23, c69_24, c75_25]]; rfl), rfl⟩
                    · refine Wk.icmp_eqN (pc' := 78) d11_75 rfl c75_25 ?_
                      refine Wk.iloadN (pc' := 79) d11_78 rfl rfl ?_
                      refine Wk.bipush (pc' := 81) (v := 42) d11_79 rfl rfl ?_
                      by_cases c81_26 : x = (42 : Int32)
                      · refine Wk.icmp_eqY (pc' := 132) d11_81 (by decide) c81_26 ?_
                        refine Wk.iconst (pc' := 133) (v := 1) d11_132 rfl rfl ?_
                        refine Wk.goto (pc' := 137) d11_133 (by decide) ?_
                        exact Wk.zreturn rfl (by simp) d11_137 (Nat.le_of_ble_eq_true rfl) (Nat.le_of_ble_eq_true rfl) ⟨rfl, (by rw [show own_t x = true from by simp [own_t, c3_1, c17_2, c31_3, c37_19, c45_20, c51_21, c57_22, c63_23, c69_24, c75_25, c81_26]]; rfl), rfl⟩
                      · refine Wk.icmp_eqN (pc' := 84) d11_81 rfl c81_26 ?_
                        refine Wk.iloadN (pc' := 85) d11_84 rfl rfl ?_
                        refine Wk.bipush (pc' := 87) (v := 43) d11_85 rfl rfl ?_
                        by_cases c87_27 : x = (43 : Int32)
                        · refine Wk.icmp_eqY (pc' := 132) d11_87 (by decide) c87_27 ?_
                          refine Wk.iconst (pc' := 133) (v := 1) d11_132 rfl rfl ?_
                          refine Wk.goto (pc' := 137) d11_133 (by decide) ?_
                          exact Wk.zreturn rfl (by simp) d11_137 (Nat.le_of_ble_eq_true rfl) (Nat.le_of_ble_eq_true rfl) ⟨rfl, (by rw [show own_t x = true from by simp [own_t, c3_1, c17_2, c31_3, c37_19, c45_20, c51_21, c57_22, c63_23, c69_24, c75_25, c81_26, c87_27]]; rfl), rfl⟩
                        · refine Wk.icmp_eqN (pc' := 90) d11_87 rfl c87_27 ?_
                          refine Wk.iloadN (pc' := 91) d11_90 rfl rfl ?_
                          refine Wk.bipush (pc' := 93) (v := 46) d11_91 rfl rfl ?_
                          by_cases c93_28 : x = (46 : Int32)
                          · refine Wk.icmp_eqY (pc' := 132) d11_93 (by decide) c93_28 ?_
                            refine Wk.iconst (pc' := 133) (v := 1) d11_132 rfl rfl ?_
                            refine Wk.goto (pc' := 137) d11_133 (by decide) ?_
                            exact Wk.zreturn rfl (by simp) d11_137 (Nat.le_of_ble_eq_true rfl) (Nat.le_of_ble_eq_true rfl) ⟨rfl, (by rw [show own_t x = true from by simp [own_t, c3_1, c17_2, c31_3, c37_19, c45_20, c51_21, c57_22, c63_23, c69_24, c75_25, c81_26, c87_27, c93_28]]; rfl), rfl⟩
                          · refine Wk.icmp_eqN (pc' := 96) d11_93 rfl c93_28 ?_
                            refine Wk.iloadN (pc' := 97) d11_96 rfl rfl ?_
                            refine Wk.bipush (pc' := 99) (v := 94) d11_97 rfl rfl ?_
                            by_cases c99_29 : x = (94 : Int32)
                            · refine Wk.icmp_eqY (pc' := 132) d11_99 (by decide) c99_29 ?_
                              refine Wk.iconst (pc' := 133) (v := 1) d11_132 rfl rfl ?_
                              refine Wk.goto (pc' := 137) d11_133 (by decide) ?_
                              exact Wk.zreturn rfl (by simp) d11_137 (Nat.le_of_ble_eq_true rfl) (Nat.le_of_ble_eq_true rfl) ⟨rfl, (by rw [show own_t x = true from by simp [own_t, c3_1, c17_2, c31_3, c37_19, c45_20, c51_21, c57_22, c63_23, c69_24, c75_25, c81_26, c87_27, c93_28, c99_29]]; rfl), rfl⟩
                            · refine Wk.icmp_eqN (pc' := 102) d11_99 rfl c99_29 ?_
                              refine Wk.iloadN (pc' := 103) d11_102 rfl rfl ?_
                              refine Wk.bipush (pc' := 105) (v := 95) d11_103 rfl rfl ?_
                              by_cases c105_30 : x = (95 : Int32)
                              · refine Wk.icmp_eqY (pc' := 132) d11_105 (by decide) c105_30 ?_
                                refine Wk.iconst (pc' := 133) (v := 1) d11_132 rfl rfl ?_
                                refine Wk.goto (pc' := 137) d11_133 (by decide) ?_
                                exact Wk.zreturn rfl (by simp) d11_137 (Nat.le_of_ble_eq_true rfl) (Nat.le_of_ble_eq_true rfl) ⟨rfl, (by rw [show own_t x = true from by simp [own_t, c3_1, c17_2, c31_3, c37_19, c45_20, c51_21, c57_22, c63_23, c69_24, c75_25, c81_26, c87_27, c93_28, c99_29, c105_30]]; rfl), rfl⟩
                              · refine Wk.icmp_eqN (pc' := 108) d11_105 rfl c105_30 ?_
                                refine Wk.iloadN (pc' := 109) d11_108 rfl rfl ?_
                                refine Wk.bipush (pc' := 111) (v := 96) d11_109 rfl rfl ?_
                                by_cases c111_31 : x = (96 : Int32)
                                · refine Wk.icmp_eqY (pc' := 132) d11_111 (by decide) c111_31 ?_
                                  refine Wk.iconst (pc' := 133) (v := 1) d11_132 rfl rfl ?_
                                  refine Wk.goto (pc' := 137) d11_133 (by decide) ?_
                                  exact Wk.zreturn rfl (by simp) d11_137 (Nat.le_of_ble_eq_true rfl) (Nat.le_of_ble_eq_true rfl) ⟨rfl, (by rw [show own_t x = true from by simp [own_t, c3_1, c17_2, c31_3, c37_19, c45_20, c51_21, c57_22, c63_23, c69_24, c75_25, c81_26, c87_27, c93_28, c99_29, c105_30, c111_31]]; rfl), rfl⟩
                                · refine Wk.icmp_eqN (pc' := 114) d11_111 rfl c111_31 ?_
                                  refine Wk.iloadN (pc' := 115) d11_114 rfl rfl ?_
                                  refine Wk.bipush (pc' := 117) (v := 124) d11_115 rfl rfl ?_
                                  by_cases c117_32 : x = (124 : Int32)
                                  · refine Wk.icmp_eqY (pc' := 132) d11_117 (by decide) c117_32 ?_
                                    refine Wk.iconst (pc' := 133) (v := 1) d11_132 rfl rfl ?_
                                    refine Wk.goto (pc' := 137) d11_133 (by decide) ?_
                                    exact Wk.zreturn rfl (by simp) d11_137 (Nat.le_of_ble_eq_true rfl) (Nat.le_of_ble_eq_true rfl) ⟨rfl, (by rw [show own_t x = true from by simp [own_t, c3_1, c17_2, c31_3, c37_19, c45_20, c51_21, c57_22, c63_23, c69_24, c75_25, c81_26, c87_27, c93_28, c99_29, c105_30, c111_31, c117_32]]; rfl), rfl⟩
                                  · refine Wk.icmp_eqN (pc' := 120) d11_117 rfl c117_32 ?_
                                    refine Wk.iloadN (pc' := 121) d11_120 rfl rfl ?_
                                    refine Wk.bipush (pc' := 123) (v := 126) d11_121 rfl rfl ?_
                                    by_cases c123_33 : x = (126 : Int32)
                                    · refine Wk.icmp_eqY (pc' := 132) d11_123 (by decide) c123_33 ?_
                                      refine Wk.iconst (pc' := 133) (v := 1) d11_132 rfl rfl ?_
                                      refine Wk.goto (pc' := 137) d11_133 (by decide) ?_
                                      exact Wk.zreturn rfl (by simp) d11_137 (Nat.le_of_ble_eq_true rfl) (Nat.le_of_ble_eq_true rfl) ⟨rfl, (by rw [show own_t x = true from by simp [own_t, c3_1, c17_2, c31_3, c37_19, c45_20, c51_21, c57_22, c63_23, c69_24, c75_25, c81_26, c87_27, c93_28, c99_29, c105_30, c111_31, c117_32, c123_33]]; rfl), rfl⟩
                                    · refine Wk.icmp_eqN (pc' := 126) d11_123 rfl c123_33 ?_
                                      refine Wk.iloadN (pc' := 127) d11_126 rfl rfl ?_
                                      refine Wk.bipush (pc' := 129) (v := 45) d11_127 rfl rfl ?_
                                      by_cases c129_34 : x = (45 : Int32)
                                      · refine Wk.icmp_neN (pc' := 132) d11_129 rfl c129_34 ?_
                                        refine Wk.iconst (pc' := 133) (v := 1) d11_132 rfl rfl ?_
                                        refine Wk.goto (pc' := 137) d11_133 (by decide) ?_
                                        exact Wk.zreturn rfl (by simp) d11_137 (Nat.le_of_ble_eq_true rfl) (Nat.le_of_ble_eq_true rfl) ⟨rfl, (by rw [show own_t x = true from by simp [own_t, c3_1, c17_2, c31_3, c37_19, c45_20, c51_21, c57_22, c63_23, c69_24, c75_25, c81_26, c87_27, c93_28, c99_29, c105_30, c111_31, c117_32, c123_33, c129_34]]; rfl), rfl⟩
                                      · refine Wk.icmp_neY (pc' := 136) d11_129 (by decide) c129_34 ?_
                                        refine Wk.iconst (pc' := 137) (v := 0) d11_136 rfl rfl ?_
                                        exact Wk.zreturn rfl (by simp) d11_137 (Nat.le_of_ble_eq_true rfl) (Nat.le_of_ble_eq_true rfl) ⟨rfl, (by rw [show own_t x = false from by simp [own_t, c3_1, c17_2, c31_3, c37_19, c45_20, c51_21, c57_22, c63_23, c69_24, c75_25, c81_26, c87_27, c93_28, c99_29, c105_30, c111_31, c117_32, c123_33, c129_34]]; rfl), rfl⟩
        · refine Wk.icmp_gtN (pc' := 40) d11_37 rfl c37_19 ?_
          refine Wk.iconst (pc' := 41) (v := 1) d11_40 rfl rfl ?_
          exact Wk.zreturn rfl (by simp) d11_41 (Nat.le_of_ble_eq_true rfl) (Nat.le_of_ble_eq_true rfl) ⟨rfl, (by rw [show own_t x = true from by simp [own_t, c3_1, c17_2, c31_3, c37_19]]; rfl), rfl⟩
    · refine Wk.icmp_ltN (pc' := 20) d11_17 rfl c17_2 ?_
      refine Wk.iloadN (pc' := 21) d11_20 rfl rfl ?_
      refine Wk.bipush (pc' := 23) (v := 90) d11_21 rfl rfl ?_
      by_cases c23_35 : (90 : Int32) < x
      · refine Wk.icmp_gtY (pc' := 28) d11_23 (by decide) c23_35 ?_
        refine Wk.iloadN (pc' := 29) d11_28 rfl rfl ?_
        refine Wk.bipush (pc' := 31) (v := 97) d11_29 rfl rfl ?_
        by_cases c31_36 : x < (97 : Int32)
        · refine Wk.icmp_ltY (pc' := 42) d11_31 (by decide) c31_36 ?_
          refine Wk.iloadN (pc' := 43) d11_42 rfl rfl ?_
          refine Wk.bipush (pc' := 45) (v := 33) d11_43 rfl rfl ?_
          by_cases c45_37 : x = (33 : Int32)
          · refine Wk.icmp_eqY (pc' := 132) d11_45 (by decide) c45_37 ?_
            refine Wk.iconst (pc' := 133) (v := 1) d11_132 rfl rfl ?_
            refine Wk.goto (pc' := 137) d11_133 (by decide) ?_
            exact Wk.zreturn rfl (by simp) d11_137 (Nat.le_of_ble_eq_true rfl) (Nat.le_of_ble_eq_true rfl) ⟨rfl, (by rw [show own_t x = true from by simp [own_t, c3_1, c17_2, c23_35, c31_36, c45_37]]; rfl), rfl⟩
          · refine Wk.icmp_eqN (pc' := 48) d11_45 rfl c45_37 ?_
            refine Wk.iloadN (pc' := 49) d11_48 rfl rfl ?_
            refine Wk.bipush (pc' := 51) (v := 35) d11_49 rfl rfl ?_
            by_cases c51_38 : x = (35 : Int32)
            · refine Wk.icmp_eqY (pc' := 132) d11_51 (by decide) c51_38 ?_
              refine Wk.iconst (pc' := 133) (v := 1) d11_132 rfl rfl ?_
              refine Wk.goto (pc' := 137) d11_133 (by decide) ?_
              exact Wk.zreturn rfl (by simp) d11_137 (Nat.le_of_ble_eq_true rfl) (Nat.le_of_ble_eq_true rfl) ⟨rfl, (by rw [show own_t x = true from by simp [own_t, c3_1, c17_2, c23_35, c31_36, c45_37, c51_38]]; rfl), rfl⟩
            · refine Wk.icmp_eqN (pc' := 54) d11_51 rfl c51_38 ?_
              refine Wk.iloadN (pc' := 55) d11_54 rfl rfl ?_
              refine Wk.bipush (pc' := 57) (v := 36) d11_55 rfl rfl ?_
              by_cases c57_39 : x = (36 : Int32)
              · refine Wk.icmp_eqY (pc' := 132) d11_57 (by decide) c57_39 ?_
                refine Wk.iconst (pc' := 133) (v := 1) d11_132 rfl rfl ?_
                refine Wk.goto (pc' := 137) d11_133 (by decide) ?_
                exact Wk.zreturn rfl (by simp) d11_137 (Nat.le_of_ble_eq_true rfl) (Nat.le_of_ble_eq_true rfl) ⟨rfl, (by rw [show own_t x = true from by simp [own_t, c3_1, c17_2, c23_35, c31_36, c45_37, c51_38, c57_39]]; rfl), rfl⟩
              · refine Wk.icmp_eqN (pc' := 60) d11_57 rfl c57_39 ?_
                refine Wk.iloadN (pc' := 61) d11_60 rfl rfl ?_
                refine Wk.bipush (pc' := 63) (v := 37) d11_61 rfl rfl ?_
                by_cases c63_40 : x = (37 : Int32)
                · refine Wk.icmp_eqY (pc' := 132) d11_63 (by decide) c63_40 ?_
                  refine Wk.iconst (pc' := 133) (v := 1) d11_132 rfl rfl ?_
                  refine Wk.goto (pc' := 137) d11_133 (by decide) ?_
                  exact Wk.zreturn rfl (by simp) d11_137 (Nat.le_of_ble_eq_true rfl) (Nat.le_of_ble_eq_true rfl) ⟨rfl, (by rw [show own_t x = true from by simp [own_t, c3_1, c17_2, c23_35, c31_36, c45_37, c51_38, c57_39, c63_40]]; rfl), rfl⟩
                · refine Wk.icmp_eqN (pc' := 66) d11_63 rfl c63_40 ?_
                  refine Wk.iloadN (pc' := 67) d11_66 rfl rfl ?_
                  refine Wk.bipush (pc' := 69) (v := 38) d11_67 rfl rfl ?_
                  by_cases c69_41 : x = (38 : Int32)
                  · refine Wk.icmp_eqY (pc' := 132) d11_69 (by decide) c69_41 ?_
                    refine Wk.iconst (pc' := 133) (v := 1) d11_132 rfl rfl ?_
                    refine Wk.goto (pc' := 137) d11_133 (by decide) ?_
                    exact Wk.zreturn rfl (by simp) d11_137 (Nat.le_of_ble_eq_true rfl) (Nat.le_of_ble_eq_true rfl) ⟨rfl, (by rw [show own_t x = true from by simp [own_t, c3_1, c17_2, c23_35, c31_36, c45_37, c51_38, c57_39, c63_40, c69_41]]; rfl), rfl⟩
                  · refine Wk.icmp_eqN (pc' := 72) d11_69 rfl c69_41 ?_
                    refine Wk.iloadN (pc' := 73) d11_72 rfl rfl ?_
                    refine Wk.bipush (pc' := 75) (v := 39) d11_73 rfl rfl ?_
                    by_cases c75_42 : x = (39 : Int32)
                    · refine Wk.icmp_eqY (pc' := 132) d11_75 (by decide) c75_42 ?_
                      refine Wk.iconst (pc' := 133) (v := 1) d11_132 rfl rfl ?_
                      refine Wk.goto (pc' := 137) d11_133 (by decide) ?_
                      exact Wk.zreturn rfl (by simp) d11_137 (Nat.le_of_ble_eq_true rfl) (Nat.le_of_ble_eq_true rfl) ⟨rfl, (by rw [show own_t x = true from by simp [own_t, c3_1, c17_2, c23_35, c31_36, c45_37, c51_38, c57_39, c63_40, c69_41, c75_42]]; rfl), rfl⟩
                    · refine Wk.icmp_eqN (pc' := 78) d11_75 rfl c75_42 ?_
                      refine Wk.iloadN (pc' := 79) d11_78 rfl rfl ?_
                      refine Wk.bipush (pc' := 81) (v := 42) d11_79 rfl rfl ?_
                      by_cases c81_43 : x = (42 : Int32)
                      · refine Wk.icmp_eqY (pc' := 132) d11_81 (by decide) c81_43 ?_
                        refine Wk.iconst (pc' := 133) (v := 1) d11_132 rfl rfl ?_
                        refine Wk.goto (pc' := 137) d11_133 (by decide) ?_
                        exact Wk.zreturn rfl (by simp) d11_137 (Nat.le_of_ble_eq_true rfl) (Nat.le_of_ble_eq_true rfl) ⟨rfl, (by rw [show own_t x = true from by simp [own_t, c3_1, c17_2, c23_35, c31_36, c45_37, c51_38, c57_39, c63_40, c69_41, c75_42, c81_43]]; rfl), rfl⟩
                      · refine Wk.icmp_eqN (pc' := 84) d11_81 rfl c81_43 ?_
                        refine Wk.iloadN (pc' := 85) d11_84 rfl rfl ?_
                        refine Wk.bipush (pc' := 87) (v := 43) d11_85 rfl rfl ?_
                        by_cases c87_44 : x = (43 : Int32)
                        · refine Wk.icmp_eqY (pc' := 132) d11_87 (by decide) c87_44 ?_
                          refine Wk.iconst (pc' := 133) (v := 1) d11_132 rfl rfl ?_
                          refine Wk.goto (pc' := 137) d11_133 (by decide) ?_
                          exact Wk.zreturn rfl (by simp) d11_137 (Nat.le_of_ble_eq_true rfl) (Nat.le_of_ble_eq_true rfl) ⟨rfl, (by rw [show own_t x = true from by simp [own_t, c3_1, c17_2, c23_35, c31_36, c45_37, c51_38, c57_39, c63_40, c69_41, c75_42, c81_43, c87_44]]; rfl), rfl⟩
                        · refine Wk.icmp_eqN (pc' := 90) d11_87 rfl c87_44 ?_
                          refine Wk.iloadN (pc' := 91) d11_90 rfl rfl ?_
                          refine Wk.bipush (pc' := 93) (v := 46) d11_91 rfl rfl ?_
                          by_cases c93_45 : x = (46 : Int32)
                          · refine Wk.icmp_eqY (pc' := 132) d11_93 (by decide) c93_45 ?_
                            refine Wk.iconst (pc' := 133) (v := 1) d11_132 rfl rfl ?_
                            refine Wk.goto (pc' := 137) d11_133 (by decide) ?_
                            exact Wk.zreturn rfl (by simp) d11_137 (Nat.le_of_ble_eq_true rfl) (Nat.le_of_ble_eq_true rfl) ⟨rfl, (by rw [show own_t x = true from by simp [own_t, c3_1, c17_2, c23_35, c31_36, c45_37, c51_38, c57_39, c63_40, c69_41, c75_42, c81_43, c87_44, c93_45]]; rfl), rfl⟩
                          · refine Wk.icmp_eqN (pc' := 96) d11_93 rfl c93_45 ?_
                            refine Wk.iloadN (pc' := 97) d11_96 rfl rfl ?_
                            refine Wk.bipush (pc' := 99) (v := 94) d11_97 rfl rfl ?_
                            by_cases c99_46 : x = (94 : Int32)
                            · refine Wk.icmp_eqY (pc' := 132) d11_99 (by decide) c99_46 ?_
                              refine Wk.iconst (pc' := 133) (v := 1) d11_132 rfl rfl ?_
                              refine Wk.goto (pc' := 137) d11_133 (by decide) ?_
                              exact Wk.zreturn rfl (by simp) d11_137 (Nat.le_of_ble_eq_true rfl) (Nat.le_of_ble_eq_true rfl) ⟨rfl, (by rw [show own_t x = true from by simp [own_t, c3_1, c17_2, c23_35, c31_36, c45_37, c51_38, c57_39, c63_40, c69_41, c75_42, c81_43, c87_44, c93_45, c99_46]]; rfl), rfl⟩
                            · refine Wk.icmp_eqN (pc' := 102) d11_99 rfl c99_46 ?_
                              refine Wk.iloadN (pc' := 103) d11_102 rfl rfl ?_
                              refine Wk.bipush (pc' := 105) (v := 95) d11_103 rfl rfl ?_
                              by_cases c105_47 : x = (95 : Int32)
                              · refine Wk.icmp_eqY (pc' := 132) d11_105 (by decide) c105_47 ?_
                                refine Wk.iconst (pc' := 133) (v := 1) d11_132 rfl rfl ?_
                                refine Wk.goto (pc' := 137) d11_133 (by decide) ?_
                                exact Wk.zreturn rfl (by simp) d11_137 (Nat.le_of_ble_eq_true rfl) (Nat.le_of_ble_eq_true rfl) ⟨rfl, (by rw [show own_t x = true from by simp [own_t, c3_1, c17_2, c23_35, c31_36, c45_37, c51_38, c57_39, c63_40, c69_41, c75_42, c81_43, c87_44, c93_45, c99_46, c105_47]]; rfl), rfl⟩
                              · refine Wk.icmp_eqN (pc' := 108) d11_105 rfl c105_47 ?_
                                refine Wk.iloadN (pc' := 109) d11_108 rfl rfl ?_
                                refine Wk.bipush (pc' := 111) (v := 96) d11_109 rfl rfl ?_
                                by_cases c111_48 : x = (96 : Int32)
                                · refine Wk.icmp_eqY (pc' := 132) d11_111 (by decide) c111_48 ?_
                                  refine Wk.iconst (pc' := 133) (v := 1) d11_132 rfl rfl ?_
                                  refine Wk.goto (pc' := 137) d11_133 (by decide) ?_
                                  exact Wk.zreturn rfl (by simp) d11_137 (Nat.le_of_ble_eq_true rfl) (Nat.le_of_ble_eq_true rfl) ⟨rfl, (by rw [show own_t x = true from by simp [own_t, c3_1, c17_2, c23_35, c31_36, c45_37, c51_38, c57_39, c63_40, c69_41, c75_42, c81_43, c87_44, c93_45, c99_46, c105_47, c111_48]]; rfl), rfl⟩
                                · refine Wk.icmp_eqN (pc' := 114) d11_111 rfl c111_48 ?_
                                  refine Wk.iloadN (pc' := 115) d11_114 rfl rfl ?_
                                  refine Wk.bipush (pc' := 117) (v := 124) d11_115 rfl rfl ?_
                                  by_cases c117_49 : x = (124 : Int32)
                                  · refine Wk.icmp_eqY (pc' := 132) d11_117 (by decide) c117_49 ?_
                                    refine Wk.iconst (pc' := 133) (v := 1) d11_132 rfl rfl ?_
                                    refine Wk.goto (pc' := 137) d11_133 (by decide) ?_
                                    exact Wk.zreturn rfl (by simp) d11_137 (Nat.le_of_ble_eq_true rfl) (Nat.le_of_ble_eq_true rfl) ⟨rfl, (by rw [show own_t x = true from by simp [own_t, c3_1, c17_2, c23_35, c31_36, c45_37, c51_38, c57_39, c63_40, c69_41, c75_42, c81_43, c87_44, c93_45, c99_46, c105_47, c111_48, c117_49]]; rfl), rfl⟩
                                  · refine Wk.icmp_eqN (pc' := 120) d11_117 rfl c117_49 ?_
                                    refine Wk.iloadN (pc' := 121) d11_120 rfl rfl ?_
                                    refine Wk.bipush (pc' := 123) (v := 126) d11_121 rfl rfl ?_
                                    by_cases c123_50 : x = (126 : Int32)
                                    · refine Wk.icmp_eqY (pc' := 132) d11_123 (by decide) c123_50 ?_
                                      refine Wk.iconst (pc' := 133) (v := 1) d11_132 rfl rfl ?_
                                      refine Wk.goto (pc' := 137) d11_133 (by decide) ?_
                                      exact Wk.zreturn rfl (by simp) d11_137 (Nat.le_of_ble_eq_true rfl) (Nat.le_of_ble_eq_true rfl) ⟨rfl, (by rw [show own_t x = true from by simp [own_t, c3_1, c17_2, c23_35, c31_36, c45_37, c51_38, c57_39, c63_40, c69_41, c75_42, c81_43, c87_44, c93_45, c99_46, c105_47, c111_48, c117_49, c123_50]]; rfl), rfl⟩
                                    · refine Wk.icmp_eqN (pc' := 126) d11_123 rfl c123_50 ?_
                                      refine Wk.iloadN (pc' := 127) d11_126 rfl rfl ?_
                                      refine Wk.bipush (pc' := 129) (v := 45) d11_127 rfl rfl ?_
                                      by_cases c129_51 : x = (45 : Int32)
                                      · refine Wk.icmp_neN (pc' := 132) d11_129 rfl c129_51 ?_
                                        refine Wk.iconst (pc' := 133) (v := 1) d11_132 rfl rfl ?_
                                        refine Wk.goto (pc' := 137) d11_133 (by decide) ?_
                                        exact Wk.zreturn rfl (by simp) d11_137 (Nat.le_of_ble_eq_true rfl) (Nat.le_of_ble_eq_true rfl) ⟨rfl, (by rw [show own_t x = true from by simp [own_t, c3_1, c17_2, c23_35, c31_36, c45_37, c51_38, c57_39, c63_40, c69_41, c75_42, c81_43, c87_44, c93_45, c99_46, c105_47, c111_48, c117_49, c123_50, c129_51]]; rfl), rfl⟩
                                      · refine Wk.icmp_neY (pc' := 136) d11_129 (by decide) c129_51 ?_
                                        refine Wk.iconst (pc' := 137) (v := 0) d11_136 rfl rfl ?_
                                        exact Wk.zreturn rfl (by simp) d11_137 (Nat.le_of_ble_eq_true rfl) (Nat.le_of_ble_eq_true rfl) ⟨rfl, (by rw [show own_t x = false from by simp [own_t, c3_1, c17_2, c23_35, c31_36, c45_37, c51_38, c57_39, c63_40, c69_41, c75_42, c81_43, c87_44, c93_45, c99_46, c105_47, c111_48, c117_49, c123_50, c129_51]]; rfl), rfl⟩
        · refine Wk.icmp_ltN (pc' := 34) d11_31 rfl c31_36 ?_
          refine Wk.iloadN (pc' := 35) d11_34 rfl rfl ?_
          refine Wk.bipush (pc' := 37) (v := 122) d11_35 rfl rfl ?_
          by_cases c37_52 : (122 : Int32) < x
          · refine Wk.icmp_gtY (pc' := 42) d11_37 (by decide) c37_52 ?_
            refine Wk.iloadN (pc' := 43) d11_42 rfl rfl ?_
            refine Wk.bipush (pc' := 45) (v := 33) d11_43 rfl rfl ?_
            by_cases c45_53 : x = (33 : Int32)
            · refine Wk.icmp_eqY (pc' := 132) d11_45 (by decide) c45_53 ?_
              refine Wk.iconst (pc' := 133) (v := 1) d11_132 rfl rfl ?_
              refine Wk.goto (pc' := 137) d11_133 (by decide) ?_
              exact Wk.zreturn rfl (by simp) d11_137 (Nat.le_of_ble_eq_true rfl) (Nat.le_of_ble_eq_true rfl) ⟨rfl, (by rw [show own_t x = true from by simp [own_t, c3_1, c17_2, c23_35, c31_36, c37_52, c45_53]]; rfl), rfl⟩
            · refine Wk.icmp_eqN (pc' := 48) d11_45 rfl c45_53 ?_
              refine Wk.iloadN (pc' := 49) d11_48 rfl rfl ?_
              refine Wk.bipush (pc' := 51) (v := 35) d11_49 rfl rfl ?_
              by_cases c51_54 : x = (35 : Int32)
              · refine Wk.icmp_eqY (pc' := 132) d11_51 (by decide) c51_54 ?_
                refine Wk.iconst (pc' := 133) (v := 1) d11_132 rfl rfl ?_
                refine Wk.goto (pc' := 137) d11_133 (by decide) ?_
                exact Wk.zreturn rfl (by simp) d11_137 (Nat.le_of_ble_eq_true rfl) (Nat.le_of_ble_eq_true rfl) ⟨rfl, (by rw [show own_t x = true from by simp [own_t, c3_1, c17_2, c23_35, c31_36, c37_52, c45_53, c51_54]]; rfl), rfl⟩
              · refine Wk.icmp_eqN (pc' := 54) d11_51 rfl c51_54 ?_
                refine Wk.iloadN (pc' := 55) d11_54 rfl rfl ?_
                refine Wk.bipush (pc' := 57) (v := 36) d11_55 rfl rfl ?_
                by_cases c57_55 : x = (36 : Int32)
                · refine Wk.icmp_eqY (pc' := 132) d11_57 (by decide) c57_55 ?_
                  refine Wk.iconst (pc' := 133) (v := 1) d11_132 rfl rfl ?_
                  refine Wk.goto (pc' := 137) d11_133 (by decide) ?_
                  exact Wk.zreturn rfl (by simp) d11_137 (Nat.le_of_ble_eq_true rfl) (Nat.le_of_ble_eq_true rfl) ⟨rfl, (by rw [show own_t x = true from by simp [own_t, c3_1, c17_2, c23_35, c31_36, c37_52, c45_53, c51_54, c57_55]]; rfl), rfl⟩
                · refine Wk.icmp_eqN (pc' := 60) d11_57 rfl c57_55 ?_
                  refine Wk.iloadN (pc' := 61) d11_60 rfl rfl ?_
                  refine Wk.bipush (pc' := 63) (v := 37) d11_61 rfl rfl ?_
                  by_cases c63_56 : x = (37 : Int32)
                  · refine Wk.icmp_eqY (pc' := 132) d11_63 (by decide) c63_56 ?_
                    refine Wk.iconst (pc' := 133) (v := 1) d11_132 rfl rfl ?_
                    refine Wk.goto (pc' := 137) d11_133 (by decide) ?_
                    exact Wk.zreturn rfl (by simp) d11_137 (Nat.le_of_ble_eq_true rfl) (Nat.le_of_ble_eq_true rfl) ⟨rfl, (by rw [show own_t x = true from by simp [own_t, c3_1, c17_2, c23_35, c31_36, c37_52, c45_53, c51_54, c57_55, c63_56]]; rfl), rfl⟩
                  · refine Wk.icmp_eqN (pc' := 66) d11_63 rfl c63_56 ?_
                    refine Wk.iloadN (pc' := 67) d11_66 rfl rfl ?_
                    refine Wk.bipush (pc' := 69) (v := 38) d11_67 rfl rfl ?_
                    by_cases c69_57 : x = (38 : Int32)
                    · refine Wk.icmp_eqY (pc' := 132) d11_69 (by decide) c69_57 ?_
                      refine Wk.iconst (pc' := 133) (v := 1) d11_132 rfl rfl ?_
                      refine Wk.goto (pc' := 137) d11_133 (by decide) ?_
                      exact Wk.zreturn rfl (by simp) d11_137 (Nat.le_of_ble_eq_true rfl) (Nat.le_of_ble_eq_true rfl) ⟨rfl, (by rw [show own_t x = true from by simp [own_t, c3_1, c17_2, c23_35, c31_36, c37_52, c45_53, c51_54, c57_55, c63_56, c69_57]]; rfl), rfl⟩
                    · refine Wk.icmp_eqN (pc' := 72) d11_69 rfl c69_57 ?_
                      refine Wk.iloadN (pc' := 73) d11_72 rfl rfl ?_
                      refine Wk.bipush (pc' := 75) (v := 39) d11_73 rfl rfl ?_
                      by_cases c75_58 : x = (39 : Int32)
                      · refine Wk.icmp_eqY (pc' := 132) d11_75 (by decide) c75_58 ?_
                        refine Wk.iconst (pc' := 133) (v := 1) d11_132 rfl rfl ?_
                        refine Wk.goto (pc' := 137) d11_133 (by decide) ?_
                        exact Wk.zreturn rfl (by simp) d11_137 (Nat.le_of_ble_eq_true rfl) (Nat.le_of_ble_eq_true rfl) ⟨rfl, (by rw [show own_t x = true from by simp [own_t, c3_1, c17_2, c23_35, c31_36, c37_52, c45_53, c51_54, c57_55, c63_56, c69_57, c75_58]]; rfl), rfl⟩
                      · refine Wk.icmp_eqN (pc' := 78) d11_75 rfl c75_58 ?_
                        refine Wk.iloadN (pc' := 79) d11_78 rfl rfl ?_
                        refine Wk.bipush (pc' := 81) (v := 42) d11_79 rfl rfl ?_
                        by_cases c81_59 : x = (42 : Int32)
                        · refine Wk.icmp_eqY (pc' := 132) d11_81 (by decide) c81_59 ?_
                          refine Wk.iconst (pc' := 133) (v := 1) d11_132 rfl rfl ?_
                          refine Wk.goto (pc' := 137) d11_133 (by decide) ?_
                          exact Wk.zreturn rfl (by simp) d11_137 (Nat.le_of_ble_eq_true rfl) (Nat.le_of_ble_eq_true rfl) ⟨rfl, (by rw [show own_t x = true from by simp [own_t, c3_1, c17_2, c23_35, c31_36, c37_52, c45_53, c51_54, c57_55, c63_56, c69_57, c75_58, c81_59]]; rfl), rfl⟩
                        · refine Wk.icmp_eqN (pc' := 84) d11_81 rfl c81_59 ?_
                          refine Wk.iloadN (pc' := 85) d11_84 rfl rfl ?_
                          refine Wk.bipush (pc' := 87) (v := 43) d11_85 rfl rfl ?_
                          by_cases c87_60 : x = (43 : Int32)
                          · refine Wk.icmp_eqY (pc' := 132) d11_87 (by decide) c87_60 ?_
                            refine Wk.iconst (pc' := 133) (v := 1) d11_132 rfl rfl ?_
                            refine Wk.goto (pc' := 137) d11_133 (by decide) ?_
                            exact Wk.zreturn rfl (by simp) d11_137 (Nat.le_of_ble_eq_true rfl) (Nat.le_of_ble_eq_true rfl) ⟨rfl, (by rw [show own_t x = true from by simp [own_t, c3_1, c17_2, c23_35, c31_36, c37_52, c45_53, c51_54, c57_55, c63_56, c69_57, c75_58, c81_59, c87_60]]; rfl), rfl⟩
                          · refine Wk.icmp_eqN (pc' := 90) d11_87 rfl c87_60 ?_
                            refine Wk.iloadN (pc' := 91) d11_90 rfl rfl ?_
                            refine Wk.bipush (pc' := 93) (v := 46) d11_91 rfl rfl ?_
                            by_cases c93_61 : x = (46 : Int32)
                            · refine Wk.icmp_eqY (pc' := 132) d11_93 (by decide) c93_61 ?_
                              refine Wk.iconst (pc' := 133) (v := 1) d11_132 rfl rfl ?_
                              refine Wk.goto (pc' := 137) d11_133 (by decide) ?_
                              exact Wk.zreturn rfl (by simp) d11_137 (Nat.le_of_ble_eq_true rfl) (Nat.le_of_ble_eq_true rfl) ⟨rfl, (by rw [show own_t x = true from by simp [own_t, c3_1, c17_2, c23_35, c31_36, c37_52, c45_53, c51_54, c57_55, c63_56, c69_57, c75_58, c81_59, c87_60, c93_61]]; rfl), rfl⟩
                            · refine Wk.icmp_eqN (pc' := 96) d11_93 rfl c93_61 ?_
                              refine Wk.iloadN (pc' := 97) d11_96 rfl rfl ?_
                              refine Wk.bipush (pc' := 99) (v := 94) d11_97 rfl rfl ?_
                              by_cases c99_62 : x = (94 : Int32)
                              · refine Wk.icmp_eqY (pc' := 132) d11_99 (by decide) c99_62 ?_
                                refine Wk.iconst (pc' := 133) (v := 1) d11_132 rfl rfl ?_
                                refine Wk.goto (pc' := 137) d11_133 (by decide) ?_
                                exact Wk.zreturn rfl (by simp) d11_137 (Nat.le_of_ble_eq_true rfl) (Nat.le_of_ble_eq_true rfl) ⟨rfl, (by rw [show own_t x = true from by simp [own_t, c3_1, c17_2, c23_35, c31_36, c37_52, c45_53, c51_54, c57_55, c63_56, c69_57, c75_58, c81_59, c87_60, c93_61, c99_62]]; rfl), rfl⟩
                              · refine Wk.icmp_eqN (pc' := 102) d11_99 rfl c99_62 ?_
                                refine Wk.iloadN (pc' := 103) d11_102 rfl rfl ?_
                                refine Wk.bipush (pc' := 105) (v := 95) d11_103 rfl rfl ?_
                                by_cases c105_63 : x = (95 : Int32)
                                · refine Wk.icmp_eqY (pc' := 132) d11_105 (by decide) c105_63 ?_
                                  refine Wk.iconst (pc' := 133) (v := 1) d11_132 rfl rfl ?_
                                  refine Wk.goto (pc' := 137) d11_133 (by decide) ?_
                                  exact Wk.zreturn rfl (by simp) d11_137 (Nat.le_of_ble_eq_true rfl) (Nat.le_of_ble_eq_true rfl) ⟨rfl, (by rw [show own_t x = true from by simp [own_t, c3_1, c17_2, c23_35, c31_36, c37_52, c45_53, c51_54, c57_55, c63_56, c69_57, c75_58, c81_59, c87_60, c93_61, c99_62, c105_63]]; rfl), rfl⟩
                                · refine Wk.icmp_eqN (pc' := 108) d11_105 rfl c105_63 ?_
                                  refine Wk.iloadN (pc' := 109) d11_108 rfl rfl ?_
                                  refine Wk.bipush (pc' := 111) (v := 96) d11_109 rfl rfl ?_
                                  by_cases c111_64 : x = (96 : Int32)
                                  · refine Wk.icmp_eqY (pc' := 132) d11_111 (by decide) c111_64 ?_
                                    refine Wk.iconst (pc' := 133) (v := 1) d11_132 rfl rfl ?_
                                    refine Wk.goto (pc' := 137) d11_133 (by decide) ?_
                                    exact Wk.zreturn rfl (by simp) d11_137 (Nat.le_of_ble_eq_true rfl) (Nat.le_of_ble_eq_true rfl) ⟨rfl, (by rw [show own_t x = true from by simp [own_t, c3_1, c17_2, c23_35, c31_36, c37_52, c45_53, c51_54, c57_55, c63_56, c69_57, c75_58, c81_59, c87_60, c93_61, c99_62, c105_63, c111_64]]; rfl), rfl⟩
                                  · refine Wk.icmp_eqN (pc' := 114) d11_111 rfl c111_64 ?_
                                    refine Wk.iloadN (pc' := 115) d11_114 rfl rfl ?_
                                    refine Wk.bipush (pc' := 117) (v := 124) d11_115 rfl rfl ?_
                                    by_cases c117_65 : x = (124 : Int32)
                                    · refine Wk.icmp_eqY (pc' := 132) d11_117 (by decide) c117_65 ?_
                                      refine Wk.iconst (pc' := 133) (v := 1) d11_132 rfl rfl ?_
                                      refine Wk.goto (pc' := 137) d11_133 (by decide) ?_
                                      exact Wk.zreturn rfl (by simp) d11_137 (Nat.le_of_ble_eq_true rfl) (Nat.le_of_ble_eq_true rfl) ⟨rfl, (by rw [show own_t x = true from by simp [own_t, c3_1, c17_2, c23_35, c31_36, c37_52, c45_53, c51_54, c57_55, c63_56, c69_57, c75_58, c81_59, c87_60, c93_61, c99_62, c105_63, c111_64, c117_65]]; rfl), rfl⟩
                                    · refine Wk.icmp_eqN (pc' := 120) d11_117 rfl c117_65 ?_
                                      refine Wk.iloadN (pc' := 121) d11_120 rfl rfl ?_
                                      refine Wk.bipush (pc' := 123) (v := 126) d11_121 rfl rfl ?_
                                      by_cases c123_66 : x = (126 : Int32)
                                      · refine Wk.icmp_eqY (pc' := 132) d11_123 (by decide) c123_66 ?_
                                        refine Wk.iconst (pc' := 133) (v := 1) d11_132 rfl rfl ?_
                                        refine Wk.goto (pc' := 137) d11_133 (by decide) ?_
                                        exact Wk.zreturn rfl (by simp) d11_137 (Nat.le_of_ble_eq_true rfl) (Nat.le_of_ble_eq_true rfl) ⟨rfl, (by rw [show own_t x = true from by simp [own_t, c3_1, c17_2, c23_35, c31_36, c37_52, c45_53, c51_54, c57_55, c63_56, c69_57, c75_58, c81_59, c87_60, c93_61, c99_62, c105_63, c111_64, c117_65, c123_66]]; rfl), rfl⟩
                                      · refine Wk.icmp_eqN (pc' := 126) d11_123 rfl c123_66 ?_
                                        refine Wk.iloadN (pc' := 127) d11_126 rfl rfl ?_
                                        refine Wk.bipush (pc' := 129) (v := 45) d11_127 rfl rfl ?_
                                        by_cases c129_67 : x = (45 : Int32)
                                        · refine Wk.icmp_neN (pc' := 132) d11_129 rfl c129_67 ?_
                                          refine Wk.iconst (pc' := 133) (v := 1) d11_132 rfl rfl ?_
                                          refine Wk.goto (pc' := 137) d11_133 (by decide) ?_
                                          exact Wk.zreturn rfl (by simp) d11_137 (Nat.le_of_ble_eq_true rfl) (Nat.le_of_ble_eq_true rfl) ⟨rfl, (by rw [show own_t x = true from by simp [own_t, c3_1, c17_2, c23_35, c31_36, c37_52, c45_53, c51_54, c57_55, c63_56, c69_57, c75_58, c81_59, c87_60, c93_61, c99_62, c105_63, c111_64, c117_65, c123_66, c129_67]]; rfl), rfl⟩
                                        · refine Wk.icmp_neY (pc' := 136) d11_129 (by decide) c129_67 ?_
                                          refine Wk.iconst (pc' := 137) (v := 0) d11_136 rfl rfl ?_
                                          exact Wk.zreturn rfl (by simp) d11_137 (Nat.le_of_ble_eq_true rfl) (Nat.le_of_ble_eq_true rfl) ⟨rfl, (by rw [show own_t x = false from by simp [own_t, c3_1, c17_2, c23_35, c31_36, c37_52, c45_53, c51_54, c57_55, c63_56, c69_57, c75_58, c81_59, c87_60, c93_61, c99_62, c105_63, c111_64, c117_65, c123_66, c129_67]]; rfl), rfl⟩
          · refine Wk.icmp_gtN (pc' := 40) d11_37 rfl c37_52 ?_
            refine Wk.iconst (pc' := 41) (v := 1) d11_40 rfl rfl ?_
            exact Wk.zreturn rfl (by simp) d11_41 (Nat.le_of_ble_eq_true rfl) (Nat.le_of_ble_eq_true rfl) ⟨rfl, (by rw [show own_t x = true from by simp [own_t, c3_1, c17_2, c23_35, c31_36, c37_52]]; rfl), rfl⟩
      · refine Wk.icmp_gtN (pc' := 26) d11_23 rfl c23_35 ?_
        refine Wk.iconst (pc' := 27) (v := 1) d11_26 rfl rfl ?_
        exact Wk.zreturn rfl (by simp) d11_27 (Nat.le_of_ble_eq_true rfl) (Nat.le_of_ble_eq_true rfl) ⟨rfl, (by rw [show own_t x = true from by simp [own_t, c3_1, c17_2, c23_35]]; rfl), rfl⟩
  · refine Wk.icmp_ltN (pc' := 6) d11_3 rfl c3_1 ?_
    refine Wk.iloadN (pc' := 7) d11_6 rfl rfl ?_
    refine Wk.bipush (pc' := 9) (v := 57) d11_7 rfl rfl ?_
    by_cases c9_68 : (57 : Int32) < x
    · refine Wk.icmp_gtY (pc' := 14) d11_9 (by decide) c9_68 ?_
      refine Wk.iloadN (pc' := 15) d11_14 rfl rfl ?_
      refine Wk.bipush (pc' := 17) (v := 65) d11_15 rfl rfl ?_
      by_cases c17_69 : x < (65 : Int32)
      · refine Wk.icmp_ltY (pc' := 28) d11_17 (by decide) c17_69 ?_
        refine Wk.iloadN (pc' := 29) d11_28 rfl rfl ?_
        refine Wk.bipush (pc' := 31) (v := 97) d11_29 rfl rfl ?_
        by_cases c31_70 : x < (97 : Int32)
        · refine Wk.icmp_ltY (pc' := 42) d11_31 (by decide) c31_70 ?_
          refine Wk.iloadN (pc' := 43) d11_42 rfl rfl ?_
          refine Wk.bipush (pc' := 45) (v := 33) d11_43 rfl rfl ?_
          by_cases c45_71 : x = (33 : Int32)
          · refine Wk.icmp_eqY (pc' := 132) d11_45 (by decide) c45_71 ?_
            refine Wk.iconst (pc' := 133) (v := 1) d11_132 rfl rfl ?_
            refine Wk.goto (pc' := 137) d11_133 (by decide) ?_
            exact Wk.zreturn rfl (by simp) d11_137 (Nat.le_of_ble_eq_true rfl) (Nat.le_of_ble_eq_true rfl) ⟨rfl, (by rw [show own_t x = true from by simp [own_t, c3_1, c9_68, c17_69, c31_70, c45_71]]; rfl), rfl⟩
          · refine Wk.icmp_eqN (pc' := 48) d11_45 rfl c45_71 ?_
            refine Wk.iloadN (pc' := 49) d11_48 rfl rfl ?_
            refine Wk.bipush (pc' := 51) (v := 35) d11_49 rfl rfl ?_
            by_cases c51_72 : x = (35 : Int32)
            · refine Wk.icmp_eqY (pc' := 132) d11_51 (by decide) c51_72 ?_
              refine Wk.iconst (pc' := 133) (v := 1) d11_132 rfl rfl ?_
              refine Wk.goto (pc' := 137) d11_133 (by decide) ?_
              exact Wk.zreturn rfl (by simp) d11_137 (Nat.le_of_ble_eq_true rfl) (Nat.le_of_ble_eq_true rfl) ⟨rfl, (by rw [show own_t x = true from by simp [own_t, c3_1, c9_68, c17_69, c31_70, c45_71, c51_72]]; rfl), rfl⟩
            · refine Wk.icmp_eqN (pc' := 54) d11_51 rfl c51_72 ?_
              refine Wk.iloadN (pc' := 55) d11_54 rfl rfl ?_
              refine Wk.bipush (pc' := 57) (v := 36) d11_55 rfl rfl ?_
              by_cases c57_73 : x = (36 : Int32)
              · refine Wk.icmp_eqY (pc' := 132) d11_57 (by decide) c57_73 ?_
                refine Wk.iconst (pc' := 133) (v := 1) d11_132 rfl rfl ?_
                refine Wk.goto (pc' := 137) d11_133 (by decide) ?_
                exact Wk.zreturn rfl (by simp) d11_137 (Nat.le_of_ble_eq_true rfl) (Nat.le_of_ble_eq_true rfl) ⟨rfl, (by rw [show own_t x = true from by simp [own_t, c3_1, c9_68, c17_69, c31_70, c45_71, c51_72, c57_73]]; rfl), rfl⟩
              · refine Wk.icmp_eqN (pc' := 60) d11_57 rfl c57_73 ?_
                refine Wk.iloadN (pc' := 61) d11_60 rfl rfl ?_
                refine Wk.bipush (pc' := 63) (v := 37) d11_61 rfl rfl ?_
                by_cases c63_74 : x = (37 : Int32)
                · refine Wk.icmp_eqY (pc' := 132) d11_63 (by decide) c63_74 ?_
                  refine Wk.iconst (pc' := 133) (v := 1) d11_132 rfl rfl ?_
                  refine Wk.goto (pc' := 137) d11_133 (by decide) ?_
                  exact Wk.zreturn rfl (by simp) d11_137 (Nat.le_of_ble_eq_true rfl) (Nat.le_of_ble_eq_true rfl) ⟨rfl, (by rw [show own_t x = true from by simp [own_t, c3_1, c9_68, c17_69, c31_70, c45_71, c51_72, c57_73, c63_74]]; rfl), rfl⟩
                · refine Wk.icmp_eqN (pc' := 66) d11_63 rfl c63_74 ?_
                  refine Wk.iloadN (pc' := 67) d11_66 rfl rfl ?_
                  refine Wk.bipush (pc' := 69) (v := 38) d11_67 rfl rfl ?_
                  by_cases c69_75 : x = (38 : Int32)
                  · refine Wk.icmp_eqY (pc' := 132) d11_69 (by decide) c69_75 ?_
                    refine Wk.iconst (pc' := 133) (v := 1) d11_132 rfl rfl ?_
                    refine Wk.goto (pc' := 137) d11_133 (by decide) ?_
                    exact Wk.zreturn rfl (by simp) d11_137 (Nat.le_of_ble_eq_true rfl) (Nat.le_of_ble_eq_true rfl) ⟨rfl, (by rw [show own_t x = true from by simp [own_t, c3_1, c9_68, c17_69, c31_70, c45_71, c51_72, c57_73, c63_74, c69_75]]; rfl), rfl⟩
                  · refine Wk.icmp_eqN (pc' := 72) d11_69 rfl c69_75 ?_
                    refine Wk.iloadN (pc' := 73) d11_72 rfl rfl ?_
                    refine Wk.bipush (pc' := 75) (v := 39) d11_73 rfl rfl ?_
                    by_cases c75_76 : x = (39 : Int32)
                    · refine Wk.icmp_eqY (pc' := 132) d11_75 (by decide) c75_76 ?_
                      refine Wk.iconst (pc' := 133) (v := 1) d11_132 rfl rfl ?_
                      refine Wk.goto (pc' := 137) d11_133 (by decide) ?_
                      exact Wk.zreturn rfl (by simp) d11_137 (Nat.le_of_ble_eq_true rfl) (Nat.le_of_ble_eq_true rfl) ⟨rfl, (by rw [show own_t x = true from by simp [own_t, c3_1, c9_68, c17_69, c31_70, c45_71, c51_72, c57_73, c63_74, c69_75, c75_76]]; rfl), rfl⟩
                    · refine Wk.icmp_eqN (pc' := 78) d11_75 rfl c75_76 ?_
                      refine Wk.iloadN (pc' := 79) d11_78 rfl rfl ?_
                      refine Wk.bipush (pc' := 81) (v := 42) d11_79 rfl rfl ?_
                      by_cases c81_77 : x = (42 : Int32)
                      · refine Wk.icmp_eqY (pc' := 132) d11_81 (by decide) c81_77 ?_
                        refine Wk.iconst (pc' := 133) (v := 1) d11_132 rfl rfl ?_
                        refine Wk.goto (pc' := 137) d11_133 (by decide) ?_
                        exact Wk.zreturn rfl (by simp) d11_137 (Nat.le_of_ble_eq_true rfl) (Nat.le_of_ble_eq_true rfl) ⟨rfl, (by rw [show own_t x = true from by simp [own_t, c3_1, c9_68, c17_69, c31_70, c45_71, c51_72, c57_73, c63_74, c69_75, c75_76, c81_77]]; rfl), rfl⟩
                      · refine Wk.icmp_eqN (pc' := 84) d11_81 rfl c81_77 ?_
                        refine Wk.iloadN (pc' := 85) d11_84 rfl rfl ?_
                        refine Wk.bipush (pc' := 87) (v := 43) d11_85 rfl rfl ?_
                        by_cases c87_78 : x = (43 : Int32)
                        · refine Wk.icmp_eqY (pc' := 132) d11_87 (by decide) c87_78 ?_
                          refine Wk.iconst (pc' := 133) (v := 1) d11_132 rfl rfl ?_
                          refine Wk.goto (pc' := 137) d11_133 (by decide) ?_
                          exact Wk.zreturn rfl (by simp) d11_137 (Nat.le_of_ble_eq_true rfl) (Nat.le_of_ble_eq_true rfl) ⟨rfl, (by rw [show own_t x = true from by simp [own_t, c3_1, c9_68, c17_69, c31_70, c45_71, c51_72, c57_73, c63_74, c69_75, c75_76, c81_77, c87_78]]; rfl), rfl⟩
                        · refine Wk.icmp_eqN (pc' := 90) d11_87 rfl c87_78 ?_
                          refine Wk.iloadN (pc' := 91) d11_90 rfl rfl ?_
                          refine Wk.bipush (pc' := 93) (v := 46) d11_91 rfl rfl ?_
                          by_cases c93_79 : x = (46 : Int32)
                          · refine Wk.icmp_eqY (pc' := 132) d11_93 (by decide) c93_79 ?_
                            refine Wk.iconst (pc' := 133) (v := 1) d11_132 rfl rfl ?_
                            refine Wk.goto (pc' := 137) d11_133 (by decide) ?_
                            exact Wk.zreturn rfl (by simp) d11_137 (Nat.le_of_ble_eq_true rfl) (Nat.le_of_ble_eq_true rfl) ⟨rfl, (by rw [show own_t x = true from by simp [own_t, c3_1, c9_68, c17_69, c31_70, c45_71, c51_72, c57_73, c63_74, c69_75, c75_76, c81_77, c87_78, c93_79]]; rfl), rfl⟩
                          · refine Wk.icmp_eqN (pc' := 96) d11_93 rfl c93_79 ?_
                            refine Wk.iloadN (pc' := 97) d11_96 rfl rfl ?_
                            refine Wk.bipush (pc' := 99) (v := 94) d11_97 rfl rfl ?_
                            by_cases c99_80 : x = (94 : Int32)
                            · refine Wk.icmp_eqY (pc' := 132) d11_99 (by decide) c99_80 ?_
                              refine Wk.iconst (pc' := 133) (v := 1) d11_132 rfl rfl ?_
                              refine Wk.goto (pc' := 137) d11_133 (by decide) ?_
                              exact Wk.zreturn rfl (by simp) d11_137 (Nat.le_of_ble_eq_true rfl) (Nat.le_of_ble_eq_true rfl) ⟨rfl, (by rw [show own_t x = true from by simp [own_t, c3_1, c9_68, c17_69, c31_70, c45_71, c51_72, c57_73, c63_74, c69_75, c75_76, c81_77, c87_78, c93_79, c99_80]]; rfl), rfl⟩
                            · refine Wk.icmp_eqN (pc' := 102) d11_99 rfl c99_80 ?_
                              refine Wk.iloadN (pc' := 103) d11_102 rfl rfl ?_
                              refine Wk.bipush (pc' := 105) (v := 95) d11_103 rfl rfl ?_
                              by_cases c105_81 : x = (95 : Int32)
                              · refine Wk.icmp_eqY (pc' := 132) d11_105 (by decide) c105_81 ?_
                                refine Wk.iconst (pc' := 133) (v := 1) d11_132 rfl rfl ?_
                                refine Wk.goto (pc' := 137) d11_133 (by decide) ?_
                                exact Wk.zreturn rfl (by simp) d11_137 (Nat.le_of_ble_eq_true rfl) (Nat.le_of_ble_eq_true rfl) ⟨rfl, (by rw [show own_t x = true from by simp [own_t, c3_1, c9_68, c17_69, c31_70, c45_71, c51_72, c57_73, c63_74, c69_75, c75_76, c81_77, c87_78, c93_79, c99_80, c105_81]]; rfl), rfl⟩
                              · refine Wk.icmp_eqN (pc' := 108) d11_105 rfl c105_81 ?_
                                refine Wk.iloadN (pc' := 109) d11_108 rfl rfl ?_
                                refine Wk.bipush (pc' := 111) (v := 96) d11_109 rfl rfl ?_
                                by_cases c111_82 : x = (96 : Int32)
                                · refine Wk.icmp_eqY (pc' := 132) d11_111 (by decide) c111_82 ?_
                                  refine Wk.iconst (pc' := 133) (v := 1) d11_132 rfl rfl ?_
                                  refine Wk.goto (pc' := 137) d11_133 (by decide) ?_
                                  exact Wk.zreturn rfl (by simp) d11_137 (Nat.le_of_ble_eq_true rfl) (Nat.le_of_ble_eq_true rfl) ⟨rfl, (by rw [show own_t x = true from by simp [own_t, c3_1, c9_68, c17_69, c31_70, c45_71, c51_72, c57_73, c63_74, c69_75, c75_76, c81_77, c87_78, c93_79, c99_80, c105_81, c111_82]]; rfl), rfl⟩
                                · refine Wk.icmp_eqN (pc' := 114) d11_111 rfl c111_82 ?_
                                  refine Wk.iloadN (pc' := 115) d11_114 rfl rfl ?_
                                  refine Wk.bipush (pc' := 117) (v := 124) d11_115 rfl rfl ?_
                                  by_cases c117_83 : x = (124 : Int32)
                                  · refine Wk.icmp_eqY (pc' := 132) d11_117 (by decide) c117_83 ?_
                                    refine Wk.iconst (pc' := 133) (v := 1) d11_132 rfl rfl ?_
                                    refine Wk.goto (pc' := 137) d11_133 (by decide) ?_
                                    exact Wk.zreturn rfl (by simp) d11_137 (Nat.le_of_ble_eq_true rfl) (Nat.le_of_ble_eq_true rfl) ⟨rfl, (by rw [show own_t x = true from by simp [own_t, c3_1, c9_68, c17_69, c31_70, c45_71, c51_72, c57_73, c63_74, c69_75, c75_76, c81_77, c87_78, c93_79, c99_80, c105_81, c111_82, c117_83]]; rfl), rfl⟩
                                  · refine Wk.icmp_eqN (pc' := 120) d11_117 rfl c117_83 ?_
                                    refine Wk.iloadN (pc' := 121) d11_120 rfl rfl ?_
                                    refine Wk.bipush (pc' := 123) (v := 126) d11_121 rfl rfl ?_
                                    by_cases c123_84 : x = (126 : Int32)
                                    · refine Wk.icmp_eqY (pc' := 132) d11_123 (by decide) c123_84 ?_
                                      refine Wk.iconst (pc' := 133) (v := 1) d11_132 rfl rfl ?_
                                      refine Wk.goto (pc' := 137) d11_133 (by decide) ?_
                                      exact Wk.zreturn rfl (by simp) d11_137 (Nat.le_of_ble_eq_true rfl) (Nat.le_of_ble_eq_true rfl) ⟨rfl, (by rw [show own_t x = true from by simp [own_t, c3_1, c9_68, c17_69, c31_70, c45_71, c51_72, c57_73, c63_74, c69_75, c75_76, c81_77, c87_78, c93_79, c99_80, c105_81, c111_82, c117_83, c123_84]]; rfl), rfl⟩
                                    · refine Wk.icmp_eqN (pc' := 126) d11_123 rfl c123_84 ?_
                                      refine Wk.iloadN (pc' := 127) d11_126 rfl rfl ?_
                                      refine Wk.bipush (pc' := 129) (v := 45) d11_127 rfl rfl ?_
                                      by_cases c129_85 : x = (45 : Int32)
                                      · refine Wk.icmp_neN (pc' := 132) d11_129 rfl c129_85 ?_
                                        refine Wk.iconst (pc' := 133) (v := 1) d11_132 rfl rfl ?_
                                        refine Wk.goto (pc' := 137) d11_133 (by decide) ?_
                                        exact Wk.zreturn rfl (by simp) d11_137 (Nat.le_of_ble_eq_true rfl) (Nat.le_of_ble_eq_true rfl) ⟨rfl, (by rw [show own_t x = true from by simp [own_t, c3_1, c9_68, c17_69, c31_70, c45_71, c51_72, c57_73, c63_74, c69_75, c75_76, c81_77, c87_78, c93_79, c99_80, c105_81, c111_82, c117_83, c123_84, c129_85]]; rfl), rfl⟩
                                      · refine Wk.icmp_neY (pc' := 136) d11_129 (by decide) c129_85 ?_
                                        refine Wk.iconst (pc' := 137) (v := 0) d11_136 rfl rfl ?_
                                        exact Wk.zreturn rfl (by simp) d11_137 (Nat.le_of_ble_eq_true rfl) (Nat.le_of_ble_eq_true rfl) ⟨rfl, (by rw [show own_t x = false from by simp [own_t, c3_1, c9_68, c17_69, c31_70, c45_71, c51_72, c57_73, c63_74, c69_75, c75_76, c81_77, c87_78, c93_79, c99_80, c105_81, c111_82, c117_83, c123_84, c129_85]]; rfl), rfl⟩
        · refine Wk.icmp_ltN (pc' := 34) d11_31 rfl c31_70 ?_
          refine Wk.iloadN (pc' := 35) d11_34 rfl rfl ?_
          refine Wk.bipush (pc' := 37) (v := 122) d11_35 rfl rfl ?_
          by_cases c37_86 : (122 : Int32) < x
          · refine Wk.icmp_gtY (pc' := 42) d11_37 (by decide) c37_86 ?_
            refine Wk.iloadN (pc' := 43) d11_42 rfl rfl ?_
            refine Wk.bipush (pc' := 45) (v := 33) d11_43 rfl rfl ?_
            by_cases c45_87 : x = (33 : Int32)
            · refine Wk.icmp_eqY (pc' := 132) d11_45 (by decide) c45_87 ?_
              refine Wk.iconst (pc' := 133) (v := 1) d11_132 rfl rfl ?_
              refine Wk.goto (pc' := 137) d11_133 (by decide) ?_
              exact Wk.zreturn rfl (by simp) d11_137 (Nat.le_of_ble_eq_true rfl) (Nat.le_of_ble_eq_true rfl) ⟨rfl, (by rw [show own_t x = true from by simp [own_t, c3_1, c9_68, c17_69, c31_70, c37_86, c45_87]]; rfl), rfl⟩
            · refine Wk.icmp_eqN (pc' := 48) d11_45 rfl c45_87 ?_
              refine Wk.iloadN (pc' := 49) d11_48 rfl rfl ?_
              refine Wk.bipush (pc' := 51) (v := 35) d11_49 rfl rfl ?_
              by_cases c51_88 : x = (35 : Int32)
              · refine Wk.icmp_eqY (pc' := 132) d11_51 (by decide) c51_88 ?_
                refine Wk.iconst (pc' := 133) (v := 1) d11_132 rfl rfl ?_
                refine Wk.goto (pc' := 137) d11_133 (by decide) ?_
                exact Wk.zreturn rfl (by simp) d11_137 (Nat.le_of_ble_eq_true rfl) (Nat.le_of_ble_eq_true rfl) ⟨rfl, (by rw [show own_t x = true from by simp [own_t, c3_1, c9_68, c17_69, c31_70, c37_86, c45_87, c51_88]]; rfl), rfl⟩
              · refine Wk.icmp_eqN (pc' := 54) d11_51 rfl c51_88 ?_
                refine Wk.iloadN (pc' := 55) d11_54 rfl rfl ?_
                refine Wk.bipush (pc' := 57) (v := 36) d11_55 rfl rfl ?_
                by_cases c57_89 : x = (36 : Int32)
                · refine Wk.icmp_eqY (pc' := 132) d11_57 (by decide) c57_89 ?_
                  refine Wk.iconst (pc' := 133) (v := 1) d11_132 rfl rfl ?_
                  refine Wk.goto (pc' := 137) d11_133 (by decide) ?_
                  exact Wk.zreturn rfl (by simp) d11_137 (Nat.le_of_ble_eq_true rfl) (Nat.le_of_ble_eq_true rfl) ⟨rfl, (by rw [show own_t x = true from by simp [own_t, c3_1, c9_68, c17_69, c31_70, c37_86, c45_87, c51_88, c57_89]]; rfl), rfl⟩
                · refine Wk.icmp_eqN (pc' := 60) d11_57 rfl c57_89 ?_
                  refine Wk.iloadN (pc' := 61) d11_60 rfl rfl ?_
                  refine Wk.bipush (pc' := 63) (v := 37) d11_61 rfl rfl ?_
                  by_cases c63_90 : x = (37 : Int32)
                  · refine Wk.icmp_eqY (pc' := 132) d11_63 (by decide) c63_90 ?_
                    refine Wk.iconst (pc' := 133) (v := 1) d11_132 rfl rfl ?_
                    refine Wk.goto (pc' := 137) d11_133 (by decide) ?_
                    exact Wk.zreturn rfl (by simp) d11_137 (Nat.le_of_ble_eq_true rfl) (Nat.le_of_ble_eq_true rfl) ⟨rfl, (by rw [show own_t x = true from by simp [own_t, c3_1, c9_68, c17_69, c31_70, c37_86, c45_87, c51_88, c57_89, c63_90]]; rfl), rfl⟩
                  · refine Wk.icmp_eqN (pc' := 66) d11_63 rfl c63_90 ?_
                    refine Wk.iloadN (pc' := 67) d11_66 rfl rfl ?_
                    refine Wk.bipush (pc' := 69) (v := 38) d11_67 rfl rfl ?_
                    by_cases c69_91 : x = (38 : Int32)
                    · refine Wk.icmp_eqY (pc' := 132) d11_69 (by decide) c69_91 ?_
                      refine Wk.iconst (pc' := 133) (v := 1) d11_132 rfl rfl ?_
                      refine Wk.goto (pc' := 137) d11_133 (by decide) ?_
                      exact Wk.zreturn rfl (by simp) d11_137 (Nat.le_of_ble_eq_true rfl) (Nat.le_of_ble_eq_true rfl) ⟨rfl, (by rw [show own_t x = true from by simp [own_t, c3_1, c9_68, c17_69, c31_70, c37_86, c45_87, c51_88, c57_89, c63_90, c69_91]]; rfl), rfl⟩
                    · refine Wk.icmp_eqN (pc' := 72) d11_69 rfl c69_91 ?_
                      refine Wk.iloadN (pc' := 73) d11_72 rfl rfl ?_
                      refine Wk.bipush (pc' := 75) (v := 39) d11_73 rfl rfl ?_
                      by_cases c75_92 : x = (39 : Int32)
                      · refine Wk.icmp_eqY (pc' := 132) d11_75 (by decide) c75_92 ?_
                        refine Wk.iconst (pc' := 133) (v := 1) d11_132 rfl rfl ?_
                        refine Wk.goto (pc' := 137) d11_133 (by decide) ?_
                        exact Wk.zreturn rfl (by simp) d11_137 (Nat.le_of_ble_eq_true rfl) (Nat.le_of_ble_eq_true rfl) ⟨rfl, (by rw [show own_t x = true from by simp [own_t, c3_1, c9_68, c17_69, c31_70, c37_86, c45_87, c51_88, c57_89, c63_90, c69_91, c75_92]]; rfl), rfl⟩
                      · refine Wk.icmp_eqN (pc' := 78) d11_75 rfl c75_92 ?_
                        refine Wk.iloadN (pc' := 79) d11_78 rfl rfl ?_
                        refine Wk.bipush (pc' := 81) (v := 42) d11_79 rfl rfl ?_
                        by_cases c81_93 : x = (42 : Int32)
                        · refine Wk.icmp_eqY (pc' := 132) d11_81 (by decide) c81_93 ?_
                          refine Wk.iconst (pc' := 133) (v := 1) d11_132 rfl rfl ?_
                          refine Wk.goto (pc' := 137) d11_133 (by decide) ?_
                          exact Wk.zreturn rfl (by simp) d11_137 (Nat.le_of_ble_eq_true rfl) (Nat.le_of_ble_eq_true rfl) ⟨rfl, (by rw [show own_t x = true from by simp [own_t, c3_1, c9_68, c17_69, c31_70, c37_86, c45_87, c51_88, c57_89, c63_90, c69_91, c75_92, c81_93]]; rfl), rfl⟩
                        · refine Wk.icmp_eqN (pc' := 84) d11_81 rfl c81_93 ?_
                          refine Wk.iloadN (pc' := 85) d11_84 rfl rfl ?_
                          refine Wk.bipush (pc' := 87) (v := 43) d11_85 rfl rfl ?_
                          by_cases c87_94 : x = (43 : Int32)
                          · refine Wk.icmp_eqY (pc' := 132) d11_87 (by decide) c87_94 ?_
                            refine Wk.iconst (pc' := 133) (v := 1) d11_132 rfl rfl ?_
                            refine Wk.goto (pc' := 137) d11_133 (by decide) ?_
                            exact Wk.zreturn rfl (by simp) d11_137 (Nat.le_of_ble_eq_true rfl) (Nat.le_of_ble_eq_true rfl) ⟨rfl, (by rw [show own_t x = true from by simp [own_t, c3_1, c9_68, c17_69, c31_70, c37_86, c45_87, c51_88, c57_89, c63_90, c69_91, c75_92, c81_93, c87_94]]; rfl), rfl⟩
                          · refine Wk.icmp_eqN (pc' := 90) d11_87 rfl c87_94 ?_
                            refine Wk.iloadN (pc' := 91) d11_90 rfl rfl ?_
                            refine Wk.bipush (pc' := 93) (v := 46) d11_91 rfl rfl ?_
                            by_cases c93_95 : x = (46 : Int32)
                            · refine Wk.icmp_eqY (pc' := 132) d11_93 (by decide) c93_95 ?_
                              refine Wk.iconst (pc' := 133) (v := 1) d11_132 rfl rfl ?_
                              refine Wk.goto (pc' := 137) d11_133 (by decide) ?_
                              exact Wk.zreturn rfl (by simp) d11_137 (Nat.le_of_ble_eq_true rfl) (Nat.le_of_ble_eq_true rfl) ⟨rfl, (by rw [show own_t x = true from by simp [own_t, c3_1, c9_68, c17_69, c31_70, c37_86, c45_87, c51_88, c57_89, c63_90, c69_91, c75_92, c81_93, c87_94, c93_95]]; rfl), rfl⟩
                            · refine Wk.icmp_eqN (pc' := 96) d11_93 rfl c93_95 ?_
                              refine Wk.iloadN (pc' := 97) d11_96 rfl rfl ?_
                              refine Wk.bipush (pc' := 99) (v := 94) d11_97 rfl rfl ?_
                              by_cases c99_96 : x = (94 : Int32)
                              · refine Wk.icmp_eqY (pc' := 132) d11_99 (by decide) c99_96 ?_
                                refine Wk.iconst (pc' := 133) (v := 1) d11_132 rfl rfl ?_
                                refine Wk.goto (pc' := 137) d11_133 (by decide) ?_
                                exact Wk.zreturn rfl (by simp) d11_137 (Nat.le_of_ble_eq_true rfl) (Nat.le_of_ble_eq_true rfl) ⟨rfl, (by rw [show own_t x = true from by simp [own_t, c3_1, c9_68, c17_69, c31_70, c37_86, c45_87, c51_88, c57_89, c63_90, c69_91, c75_92, c81_93, c87_94, c93_95, c99_96]]; rfl), rfl⟩
                              · refine Wk.icmp_eqN (pc' := 102) d11_99 rfl c99_96 ?_
                                refine Wk.iloadN (pc' := 103) d11_102 rfl rfl ?_
                                refine Wk.bipush (pc' := 105) (v := 95) d11_103 rfl rfl ?_
                                by_cases c105_97 : x = (95 : Int32)
                                · refine Wk.icmp_eqY (pc' := 132) d11_105 (by decide) c105_97 ?_
                                  refine Wk.iconst (pc' := 133) (v := 1) d11_132 rfl rfl ?_
                                  refine Wk.goto (pc' := 137) d11_133 (by decide) ?_
                                  exact Wk.zreturn rfl (by simp) d11_137 (Nat.le_of_ble_eq_true rfl) (Nat.le_of_ble_eq_true rfl) ⟨rfl, (by rw [show own_t x = true from by simp [own_t, c3_1, c9_68, c17_69, c31_70, c37_86, c45_87, c51_88, c57_89, c63_90, c69_91, c75_92, c81_93, c87_94, c93_95, c99_96, c105_97]]; rfl), rfl⟩
                                · refine Wk.icmp_eqN (pc' := 108) d11_105 rfl c105_97 ?_
                                  refine Wk.iloadN (pc' := 109) d11_108 rfl rfl ?_
                                  refine Wk.bipush (pc' := 111) (v := 96) d11_109 rfl rfl ?_
                                  by_cases c111_98 : x = (96 : Int32)
                                  · refine Wk.icmp_eqY (pc' := 132) d11_111 (by decide) c111_98 ?_
                                    refine Wk.iconst (pc' := 133) (v := 1) d11_132 rfl rfl ?_
                                    refine Wk.goto (pc' := 137) d11_133 (by decide) ?_
                                    exact Wk.zreturn rfl (by simp) d11_137 (Nat.le_of_ble_eq_true rfl) (Nat.le_of_ble_eq_true rfl) ⟨rfl, (by rw [show own_t x = true from by simp [own_t, c3_1, c9_68, c17_69, c31_70, c37_86, c45_87, c51_88, c57_89, c63_90, c69_91, c75_92, c81_93, c87_94, c93_95, c99_96, c105_97, c111_98]]; rfl), rfl⟩
                                  · refine Wk.icmp_eqN (pc' := 114) d11_111 rfl c111_98 ?_
                                    refine Wk.iloadN (pc' := 115) d11_114 rfl rfl ?_
                                    refine Wk.bipush (pc' := 117) (v := 124) d11_115 rfl rfl ?_
                                    by_cases c117_99 : x = (124 : Int32)
                                    · refine Wk.icmp_eqY (pc' := 132) d11_117 (by decide) c117_99 ?_
                                      refine Wk.iconst (pc' := 133) (v := 1) d11_132 rfl rfl ?_
                                      refine Wk.goto (pc' := 137) d11_133 (by decide) ?_
                                      exact Wk.zreturn rfl (by simp) d11_137 (Nat.le_of_ble_eq_true rfl) (Nat.le_of_ble_eq_true rfl) ⟨rfl, (by rw [show own_t x = true from by simp [own_t, c3_1, c9_68, c17_69, c31_70, c37_86, c45_87, c51_88, c57_89, c63_90, c69_91, c75_92, c81_93, c87_94, c93_95, c99_96, c105_97, c111_98, c117_99]]; rfl), rfl⟩
                                    · refine Wk.icmp_eqN (pc' := 120) d11_117 rfl c117_99 ?_
                                      refine Wk.iloadN (pc' := 121) d11_120 rfl rfl ?_
                                      refine Wk.bipush (pc' := 123) (v := 126) d11_121 rfl rfl ?_
                                      by_cases c123_100 : x = (126 : Int32)
                                      · refine Wk.icmp_eqY (pc' := 132) d11_123 (by decide) c123_100 ?_
                                        refine Wk.iconst (pc' := 133) (v := 1) d11_132 rfl rfl ?_
                                        refine Wk.goto (pc' := 137) d11_133 (by decide) ?_
                                        exact Wk.zreturn rfl (by simp) d11_137 (Nat.le_of_ble_eq_true rfl) (Nat.le_of_ble_eq_true rfl) ⟨rfl, (by rw [show own_t x = true from by simp [own_t, c3_1, c9_68, c17_69, c31_70, c37_86, c45_87, c51_88, c57_89, c63_90, c69_91, c75_92, c81_93, c87_94, c93_95, c99_96, c105_97, c111_98, c117_99, c123_100]]; rfl), rfl⟩
                                      · refine Wk.icmp_eqN (pc' := 126) d11_123 rfl c123_100 ?_
                                        refine Wk.iloadN (pc' := 127) d11_126 rfl rfl ?_
                                        refine Wk.bipush (pc' := 129) (v := 45) d11_127 rfl rfl ?_
                                        by_cases c129_101 : x = (45 : Int32)
                                        · refine Wk.icmp_neN (pc' := 132) d11_129 rfl c129_101 ?_
                                          refine Wk.iconst (pc' := 133) (v := 1) d11_132 rfl rfl ?_
                                          refine Wk.goto (pc' := 137) d11_133 (by decide) ?_
                                          exact Wk.zreturn rfl (by simp) d11_137 (Nat.le_of_ble_eq_true rfl) (Nat.le_of_ble_eq_true rfl) ⟨rfl, (by rw [show own_t x = true from by simp [own_t, c3_1, c9_68, c17_69, c31_70, c37_86, c45_87, c51_88, c57_89, c63_90, c69_91, c75_92, c81_93, c87_94, c93_95, c99_96, c105_97, c111_98, c117_99, c123_100, c129_101]]; rfl), rfl⟩
                                        · refine Wk.icmp_neY (pc' := 136) d11_129 (by decide) c129_101 ?_
                                          refine Wk.iconst (pc' := 137) (v := 0) d11_136 rfl rfl ?_
                                          exact Wk.zreturn rfl (by simp) d11_137 (Nat.le_of_ble_eq_true rfl) (Nat.le_of_ble_eq_true rfl) ⟨rfl, (by rw [show own_t x = false from by simp [own_t, c3_1, c9_68, c17_69, c31_70, c37_86, c45_87, c51_88, c57_89, c63_90, c69_91, c75_92, c81_93, c87_94, c93_95, c99_96, c105_97, c111_98, c117_99, c123_100, c129_101]]; rfl), rfl⟩
          · refine Wk.icmp_gtN (pc' := 40) d11_37 rfl c37_86 ?_
            refine Wk.iconst (pc' := 41) (v := 1) d11_40 rfl rfl ?_
            exact Wk.zreturn rfl (by simp) d11_41 (Nat.le_of_ble_eq_true rfl) (Nat.le_of_ble_eq_true rfl) ⟨rfl, (by rw [show own_t x = true from by simp [own_t, c3_1, c9_68, c17_69, c31_70, c37_86]]; rfl), rfl⟩
      · refine Wk.icmp_ltN (pc' := 20) d11_17 rfl c17_69 ?_
        refine Wk.iloadN (pc' := 21) d11_20 rfl rfl ?_
        refine Wk.bipush (pc' := 23) (v := 90) d11_21 rfl rfl ?_
        by_cases c23_102 : (90 : Int32) < x
        · refine Wk.icmp_gtY (pc' := 28) d11_23 (by decide) c23_102 ?_
          refine Wk.iloadN (pc' := 29) d11_28 rfl rfl ?_
          refine Wk.bipush (pc' := 31) (v := 97) d11_29 rfl rfl ?_
          by_cases c31_103 : x < (97 : Int32)
          · refine Wk.icmp_ltY (pc' := 42) d11_31 (by decide) c31_103 ?_
            refine Wk.iloadN (pc' := 43) d11_42 rfl rfl ?_
            refine Wk.bipush (pc' := 45) (v := 33) d11_43 rfl rfl ?_
            by_cases c45_104 : x = (33 : Int32)
            · refine Wk.icmp_eqY (pc' := 132) d11_45 (by decide) c45_104 ?_
              refine Wk.iconst (pc' := 133) (v := 1) d11_132 rfl rfl ?_
              refine Wk.goto (pc' := 137) d11_133 (by decide) ?_
              exact Wk.zreturn rfl (by simp) d11_137 (Nat.le_of_ble_eq_true rfl) (Nat.le_of_ble_eq_true rfl) ⟨rfl, (by rw [show own_t x = true from by simp [own_t, c3_1, c9_68, c17_69, c23_102, c31_103, c45_104]]; rfl), rfl⟩
            · refine Wk.icmp_eqN (pc' := 48) d11_45 rfl c45_104 ?_
              refine Wk.iloadN (pc' := 49) d11_48 rfl rfl ?_
              refine Wk.bipush (pc' := 51) (v := 35) d11_49 rfl rfl ?_
              by_cases c51_105 : x = (35 : Int32)
              · refine Wk.icmp_eqY (pc' := 132) d11_51 (by decide) c51_105 ?_
                refine Wk.iconst (pc' := 133) (v := 1) d11_132 rfl rfl ?_
                refine Wk.goto (pc' := 137) d11_133 (by decide) ?_
                exact Wk.zreturn rfl (by simp) d11_137 (Nat.le_of_ble_eq_true rfl) (Nat.le_of_ble_eq_true rfl) ⟨rfl, (by rw [show own_t x = true from by simp [own_t, c3_1, c9_68, c17_69, c23_102, c31_103, c45_104, c51_105]]; rfl), rfl⟩
              · refine Wk.icmp_eqN (pc' := 54) d11_51 rfl c51_105 ?_
                refine Wk.iloadN (pc' := 55) d11_54 rfl rfl ?_
                refine Wk.bipush (pc' := 57) (v := 36) d11_55 rfl rfl ?_
                by_cases c57_106 : x = (36 : Int32)
                · refine Wk.icmp_eqY (pc' := 132) d11_57 (by decide) c57_106 ?_
                  refine Wk.iconst (pc' := 133) (v := 1) d11_132 rfl rfl ?_
                  refine Wk.goto (pc' := 137) d11_133 (by decide) ?_
                  exact Wk.zreturn rfl (by simp) d11_137 (Nat.le_of_ble_eq_true rfl) (Nat.le_of_ble_eq_true rfl) ⟨rfl, (by rw [show own_t x = true from by simp [own_t, c3_1, c9_68, c17_69, c23_102, c31_103, c45_104, c51_105, c57_106]]; rfl), rfl⟩
                · refine Wk.icmp_eqN (pc' := 60) d11_57 rfl c57_106 ?_
                  refine Wk.iloadN (pc' := 61) d11_60 rfl rfl ?_
                  refine Wk.bipush (pc' := 63) (v := 37) d11_61 rfl rfl ?_
                  by_cases c63_107 : x = (37 : Int32)
                  · refine Wk.icmp_eqY (pc' := 132) d11_63 (by decide) c63_107 ?_
                    refine Wk.iconst (pc' := 133) (v := 1) d11_132 rfl rfl ?_
                    refine Wk.goto (pc' := 137) d11_133 (by decide) ?_
                    exact Wk.zreturn rfl (by simp) d11_137 (Nat.le_of_ble_eq_true rfl) (Nat.le_of_ble_eq_true rfl) ⟨rfl, (by rw [show own_t x = true from by simp [own_t, c3_1, c9_68, c17_69, c23_102, c31_103, c45_104, c51_105, c57_106, c63_107]]; rfl), rfl⟩
                  · refine Wk.icmp_eqN (pc' := 66) d11_63 rfl c63_107 ?_
                    refine Wk.iloadN (pc' := 67) d11_66 rfl rfl ?_
                    refine Wk.bipush (pc' := 69) (v := 38) d11_67 rfl rfl ?_
                    by_cases c69_108 : x = (38 : Int32)
                    · refine Wk.icmp_eqY (pc' := 132) d11_69 (by decide) c69_108 ?_
                      refine Wk.iconst (pc' := 133) (v := 1) d11_132 rfl rfl ?_
                      refine Wk.goto (pc' := 137) d11_133 (by decide) ?_
                      exact Wk.zreturn rfl (by simp) d11_137 (Nat.le_of_ble_eq_true rfl) (Nat.le_of_ble_eq_true rfl) ⟨rfl, (by rw [show own_t x = true from by simp [own_t, c3_1, c9_68, c17_69, c23_102, c31_103, c45_104, c51_105, c57_106, c63_107, c69_108]]; rfl), rfl⟩
                    · refine Wk.icmp_eqN (pc' := 72) d11_69 rfl c69_108 ?_
                      refine Wk.iloadN (pc' := 73) d11_72 rfl rfl ?_
                      refine Wk.bipush (pc' := 75) (v := 39) d11_73 rfl rfl ?_
                      by_cases c75_109 : x = (39 : Int32)
                      · refine Wk.icmp_eqY (pc' := 132) d11_75 (by decide) c75_109 ?_
                        refine Wk.iconst (pc' := 133) (v := 1) d11_132 rfl rfl ?_
                        refine Wk.goto (pc' := 137) d11_133 (by decide) ?_
                        exact Wk.zreturn rfl (by simp) d11_137 (Nat.le_of_ble_eq_true rfl) (Nat.le_of_ble_eq_true rfl) ⟨rfl, (by rw [show own_t x = true from by simp [own_t, c3_1, c9_68, c17_69, c23_102, c31_103, c45_104, c51_105, c57_106, c63_107, c69_108, c75_109]]; rfl), rfl⟩
                      · refine Wk.icmp_eqN (pc' := 78) d11_75 rfl c75_109 ?_
                        refine Wk.iloadN (pc' := 79) d11_78 rfl rfl ?_
                        refine Wk.bipush (pc' := 81) (v := 42) d11_79 rfl rfl ?_
                        by_cases c81_110 : x = (42 : Int32)
                        · refine Wk.icmp_eqY (pc' := 132) d11_81 (by decide) c81_110 ?_
                          refine Wk.iconst (pc' := 133) (v := 1) d11_132 rfl rfl ?_
                          refine Wk.goto (pc' := 137) d11_133 (by decide) ?_
                          exact Wk.zreturn rfl (by simp) d11_137 (Nat.le_of_ble_eq_true rfl) (Nat.le_of_ble_eq_true rfl) ⟨rfl, (by rw [show own_t x = true from by simp [own_t, c3_1, c9_68, c17_69, c23_102, c31_103, c45_104, c51_105, c57_106, c63_107, c69_108, c75_109, c81_110]]; rfl), rfl⟩
                        · refine Wk.icmp_eqN (pc' := 84) d11_81 rfl c81_110 ?_
                          refine Wk.iloadN (pc' := 85) d11_84 rfl rfl ?_
                          refine Wk.bipush (pc' := 87) (v := 43) d11_85 rfl rfl ?_
                          by_cases c87_111 : x = (43 : Int32)
                          · refine Wk.icmp_eqY (pc' := 132) d11_87 (by decide) c87_111 ?_
                            refine Wk.iconst (pc' := 133) (v := 1) d11_132 rfl rfl ?_
                            refine Wk.goto (pc' := 137) d11_133 (by decide) ?_
                            exact Wk.zreturn rfl (by simp) d11_137 (Nat.le_of_ble_eq_true rfl) (Nat.le_of_ble_eq_true rfl) ⟨rfl, (by rw [show own_t x = true from by simp [own_t, c3_1, c9_68, c17_69, c23_102, c31_103, c45_104, c51_105, c57_106, c63_107, c69_108, c75_109, c81_110, c87_111]]; rfl), rfl⟩
                          · refine Wk.icmp_eqN (pc' := 90) d11_87 rfl c87_111 ?_
                            refine Wk.iloadN (pc' := 91) d11_90 rfl rfl ?_
                            refine Wk.bipush (pc' := 93) (v := 46) d11_91 rfl rfl ?_
                            by_cases c93_112 : x = (46 : Int32)
                            · refine Wk.icmp_eqY (pc' := 132) d11_93 (by decide) c93_112 ?_
                              refine Wk.iconst (pc' := 133) (v := 1) d11_132 rfl rfl ?_
                              refine Wk.goto (pc' := 137) d11_133 (by decide) ?_
                              exact Wk.zreturn rfl (by simp) d11_137 (Nat.le_of_ble_eq_true rfl) (Nat.le_of_ble_eq_true rfl) ⟨rfl, (by rw [show own_t x = true from by simp [own_t, c3_1, c9_68, c17_69, c23_102, c31_103, c45_104, c51_105, c57_106, c63_107, c69_108, c75_109, c81_110, c87_111, c93_112]]; rfl), rfl⟩
                            · refine Wk.icmp_eqN (pc' := 96) d11_93 rfl c93_112 ?_
                              refine Wk.iloadN (pc' := 97) d11_96 rfl rfl ?_
                              refine Wk.bipush (pc' := 99) (v := 94) d11_97 rfl rfl ?_
                              by_cases c99_113 : x = (94 : Int32)
                              · refine Wk.icmp_eqY (pc' := 132) d11_99 (by decide) c99_113 ?_
                                refine Wk.iconst (pc' := 133) (v := 1) d11_132 rfl rfl ?_
                                refine Wk.goto (pc' := 137) d11_133 (by decide) ?_
                                exact Wk.zreturn rfl (by simp) d11_137 (Nat.le_of_ble_eq_true rfl) (Nat.le_of_ble_eq_true rfl) ⟨rfl, (by rw [show own_t x = true from by simp [own_t, c3_1, c9_68, c17_69, c23_102, c31_103, c45_104, c51_105, c57_106, c63_107, c69_108, c75_109, c81_110, c87_111, c93_112, c99_113]]; rfl), rfl⟩
                              · refine Wk.icmp_eqN (pc' := 102) d11_99 rfl c99_113 ?_
                                refine Wk.iloadN (pc' := 103) d11_102 rfl rfl ?_
                                refine Wk.bipush (pc' := 105) (v := 95) d11_103 rfl rfl ?_
                                by_cases c105_114 : x = (95 : Int32)
                                · refine Wk.icmp_eqY (pc' := 132) d11_105 (by decide) c105_114 ?_
                                  refine Wk.iconst (pc' := 133) (v := 1) d11_132 rfl rfl ?_
                                  refine Wk.goto (pc' := 137) d11_133 (by decide) ?_
                                  exact Wk.zreturn rfl (by simp) d11_137 (Nat.le_of_ble_eq_true rfl) (Nat.le_of_ble_eq_true rfl) ⟨rfl, (by rw [show own_t x = true from by simp [own_t, c3_1, c9_68, c17_69, c23_102, c31_103, c45_104, c51_105, c57_106, c63_107, c69_108, c75_109, c81_110, c87_111, c93_112, c99_113, c105_114]]; rfl), rfl⟩
                                · refine Wk.icmp_eqN (pc' := 108) d11_105 rfl c105_114 ?_
                                  refine Wk.iloadN (pc' := 109) d11_108 rfl rfl ?_
                                  refine Wk.bipush (pc' := 111) (v := 96) d11_109 rfl rfl ?_
                                  by_cases c111_115 : x = (96 : Int32)
                                  · refine Wk.icmp_eqY (pc' := 132) d11_111 (by decide) c111_115 ?_
                                    refine Wk.iconst (pc' := 133) (v := 1) d11_132 rfl rfl ?_
                                    refine Wk.goto (pc' := 137) d11_133 (by decide) ?_
                                    exact Wk.zreturn rfl (by simp) d11_137 (Nat.le_of_ble_eq_true rfl) (Nat.le_of_ble_eq_true rfl) ⟨rfl, (by rw [show own_t x = true from by simp [own_t, c3_1, c9_68, c17_69, c23_102, c31_103, c45_104, c51_105, c57_106, c63_107, c69_108, c75_109, c81_110, c87_111, c93_112, c99_113, c105_114, c111_115]]; rfl), rfl⟩
                                  · refine Wk.icmp_eqN (pc' := 114) d11_111 rfl c111_115 ?_
                                    refine Wk.iloadN (pc' := 115) d11_114 rfl rfl ?_
                                    refine Wk.bipush (pc' := 117) (v := 124) d11_115 rfl rfl ?_
                                    by_cases c117_116 : x = (124 : Int32)
                                    · refine Wk.icmp_eqY (pc' := 132) d11_117 (by decide) c117_116 ?_
                                      refine Wk.iconst (pc' := 133) (v := 1) d11_132 rfl rfl ?_
                                      refine Wk.goto (pc' := 137) d11_133 (by decide) ?_
                                      exact Wk.zreturn rfl (by simp) d11_137 (Nat.le_of_ble_eq_true rfl) (Nat.le_of_ble_eq_true rfl) ⟨rfl, (by rw [show own_t x = true from by simp [own_t, c3_1, c9_68, c17_69, c23_102, c31_103, c45_104, c51_105, c57_106, c63_107, c69_108, c75_109, c81_110, c87_111, c93_112, c99_113, c105_114, c111_115, c117_116]]; rfl), rfl⟩
                                    · refine Wk.icmp_eqN (pc' := 120) d11_117 rfl c117_116 ?_
                                      refine Wk.iloadN (pc' := 121) d11_120 rfl rfl ?_
                                      refine Wk.bipush (pc' := 123) (v := 126) d11_121 rfl rfl ?_
                                      by_cases c123_117 : x = (126 : Int32)
                                      · refine Wk.icmp_eqY (pc' := 132) d11_123 (by decide) c123_117 ?_
                                        refine Wk.iconst (pc' := 133) (v := 1) d11_132 rfl rfl ?_
                                        refine Wk.goto (pc' := 137) d11_133 (by decide) ?_
                                        exact Wk.zreturn rfl (by simp) d11_137 (Nat.le_of_ble_eq_true rfl) (Nat.le_of_ble_eq_true rfl) ⟨rfl, (by rw [show own_t x = true from by simp [own_t, c3_1, c9_68, c17_69, c23_102, c31_103, c45_104, c51_105, c57_106, c63_107, c69_108, c75_109, c81_110, c87_111, c93_112, c99_113, c105_114, c111_115, c117_116, c123_117]]; rfl), rfl⟩
                                      · refine Wk.icmp_eqN (pc' := 126) d11_123 rfl c123_117 ?_
                                        refine Wk.iloadN (pc' := 127) d11_126 rfl rfl ?_
                                        refine Wk.bipush (pc' := 129) (v := 45) d11_127 rfl rfl ?_
                                        by_cases c129_118 : x = (45 : Int32)
                                        · refine Wk.icmp_neN (pc' := 132) d11_129 rfl c129_118 ?_
                                          refine Wk.iconst (pc' := 133) (v := 1) d11_132 rfl rfl ?_
                                          refine Wk.goto (pc' := 137) d11_133 (by decide) ?_
                                          exact Wk.zreturn rfl (by simp) d11_137 (Nat.le_of_ble_eq_true rfl) (Nat.le_of_ble_eq_true rfl) ⟨rfl, (by rw [show own_t x = true from by simp [own_t, c3_1, c9_68, c17_69, c23_102, c31_103, c45_104, c51_105, c57_106, c63_107, c69_108, c75_109, c81_110, c87_111, c93_112, c99_113, c105_114, c111_115, c117_116, c123_117, c129_118]]; rfl), rfl⟩
                                        · refine Wk.icmp_neY (pc' := 136) d11_129 (by decide) c129_118 ?_
                                          refine Wk.iconst (pc' := 137) (v := 0) d11_136 rfl rfl ?_
                                          exact Wk.zreturn rfl (by simp) d11_137 (Nat.le_of_ble_eq_true rfl) (Nat.le_of_ble_eq_true rfl) ⟨rfl, (by rw [show own_t x = false from by simp [own_t, c3_1, c9_68, c17_69, c23_102, c31_103, c45_104, c51_105, c57_106, c63_107, c69_108, c75_109, c81_110, c87_111, c93_112, c99_113, c105_114, c111_115, c117_116, c123_117, c129_118]]; rfl), rfl⟩
          · refine Wk.icmp_ltN (pc' := 34) d11_31 rfl c31_103 ?_
            refine Wk.iloadN (pc' := 35) d11_34 rfl rfl ?_
            refine Wk.bipush (pc' := 37) (v := 122) d11_35 rfl rfl ?_
            by_cases c37_119 : (122 : Int32) < x
            · refine Wk.icmp_gtY (pc' := 42) d11_37 (by decide) c37_119 ?_
              refine Wk.iloadN (pc' := 43) d11_42 rfl rfl ?_
              refine Wk.bipush (pc' := 45) (v := 33) d11_43 rfl rfl ?_
              by_cases c45_120 : x = (33 : Int32)
              · refine Wk.icmp_eqY (pc' := 132) d11_45 (by decide) c45_120 ?_
                refine Wk.iconst (pc' := 133) (v := 1) d11_132 rfl rfl ?_
                refine Wk.goto (pc' := 137) d11_133 (by decide) ?_
                exact Wk.zreturn rfl (by simp) d11_137 (Nat.le_of_ble_eq_true rfl) (Nat.le_of_ble_eq_true rfl) ⟨rfl, (by rw [show own_t x = true from by simp [own_t, c3_1, c9_68, c17_69, c23_102, c31_103, c37_119, c45_120]]; rfl), rfl⟩
              · refine Wk.icmp_eqN (pc' := 48) d11_45 rfl c45_120 ?_
                refine Wk.iloadN (pc' := 49) d11_48 rfl rfl ?_
                refine Wk.bipush (pc' := 51) (v := 35) d11_49 rfl rfl ?_
                by_cases c51_121 : x = (35 : Int32)
                · refine Wk.icmp_eqY (pc' := 132) d11_51 (by decide) c51_121 ?_
                  refine Wk.iconst (pc' := 133) (v := 1) d11_132 rfl rfl ?_
                  refine Wk.goto (pc' := 137) d11_133 (by decide) ?_
                  exact Wk.zreturn rfl (by simp) d11_137 (Nat.le_of_ble_eq_true rfl) (Nat.le_of_ble_eq_true rfl) ⟨rfl, (by rw [show own_t x = true from by simp [own_t, c3_1, c9_68, c17_69, c23_102, c31_103, c37_119, c45_120, c51_121]]; rfl), rfl⟩
                · refine Wk.icmp_eqN (pc' := 54) d11_51 rfl c51_121 ?_
                  refine Wk.iloadN (pc' := 55) d11_54 rfl rfl ?_
                  refine Wk.bipush (pc' := 57) (v := 36) d11_55 rfl rfl ?_
                  by_cases c57_122 : x = (36 : Int32)
                  · refine Wk.icmp_eqY (pc' := 132) d11_57 (by decide) c57_122 ?_
                    refine Wk.iconst (pc' := 133) (v := 1) d11_132 rfl rfl ?_
                    refine Wk.goto (pc' := 137) d11_133 (by decide) ?_
                    exact Wk.zreturn rfl (by simp) d11_137 (Nat.le_of_ble_eq_true rfl) (Nat.le_of_ble_eq_true rfl) ⟨rfl, (by rw [show own_t x = true from by simp [own_t, c3_1, c9_68, c17_69, c23_102, c31_103, c37_119, c45_120, c51_121, c57_122]]; rfl), rfl⟩
                  · refine Wk.icmp_eqN (pc' := 60) d11_57 rfl c57_122 ?_
                    refine Wk.iloadN (pc' := 61) d11_60 rfl rfl ?_
                    refine Wk.bipush (pc' := 63) (v := 37) d11_61 rfl rfl ?_
                    by_cases c63_123 : x = (37 : Int32)
                    · refine Wk.icmp_eqY (pc' := 132) d11_63 (by decide) c63_123 ?_
                      refine Wk.iconst (pc' := 133) (v := 1) d11_132 rfl rfl ?_
                      refine Wk.goto (pc' := 137) d11_133 (by decide) ?_
                      exact Wk.zreturn rfl (by simp) d11_137 (Nat.le_of_ble_eq_true rfl) (Nat.le_of_ble_eq_true rfl) ⟨rfl, (by rw [show own_t x = true from by simp [own_t, c3_1, c9_68, c17_69, c23_102, c31_103, c37_119, c45_120, c51_121, c57_122, c63_123]]; rfl), rfl⟩
                    · refine Wk.icmp_eqN (pc' := 66) d11_63 rfl c63_123 ?_
                      refine Wk.iloadN (pc' := 67) d11_66 rfl rfl ?_
                      refine Wk.bipush (pc' := 69) (v := 38) d11_67 rfl rfl ?_
                      by_cases c69_124 : x = (38 : Int32)
                      · refine Wk.icmp_eqY (pc' := 132) d11_69 (by decide) c69_124 ?_
                        refine Wk.iconst (pc' := 133) (v := 1) d11_132 rfl rfl ?_
                        refine Wk.goto (pc' := 137) d11_133 (by decide) ?_
                        exact Wk.zreturn rfl (by simp) d11_137 (Nat.le_of_ble_eq_true rfl) (Nat.le_of_ble_eq_true rfl) ⟨rfl, (by rw [show own_t x = true from by simp [own_t, c3_1, c9_68, c17_69, c23_102, c31_103, c37_119, c45_120, c51_121, c57_122, c63_123, c69_124]]; rfl), rfl⟩
                      · refine Wk.icmp_eqN (pc' := 72) d11_69 rfl c69_124 ?_
                        refine Wk.iloadN (pc' := 73) d11_72 rfl rfl ?_
                        refine Wk.bipush (pc' := 75) (v := 39) d11_73 rfl rfl ?_
                        by_cases c75_125 : x = (39 : Int32)
                        · refine Wk.icmp_eqY (pc' := 132) d11_75 (by decide) c75_125 ?_
                          refine Wk.iconst (pc' := 133) (v := 1) d11_132 rfl rfl ?_
                          refine Wk.goto (pc' := 137) d11_133 (by decide) ?_
                          exact Wk.zreturn rfl (by simp) d11_137 (Nat.le_of_ble_eq_true rfl) (Nat.le_of_ble_eq_true rfl) ⟨rfl, (by rw [show own_t x = true from by simp [own_t, c3_1, c9_68, c17_69, c23_102, c31_103, c37_119, c45_120, c51_121, c57_122, c63_123, c69_124, c75_125]]; rfl), rfl⟩
                        · refine Wk.icmp_eqN (pc' := 78) d11_75 rfl c75_125 ?_
                          refine Wk.iloadN (pc' := 79) d11_78 rfl rfl ?_
                          refine Wk.bipush (pc' := 81) (v := 42) d11_79 rfl rfl ?_
                          by_cases c81_126 : x = (42 : Int32)
                          · refine Wk.icmp_eqY (pc' := 132) d11_81 (by decide) c81_126 ?_
                            refine Wk.iconst (pc' := 133) (v := 1) d11_132 rfl rfl ?_
                            refine Wk.goto (pc' := 137) d11_133 (by decide) ?_
                            exact Wk.zreturn rfl (by simp) d11_137 (Nat.le_of_ble_eq_true rfl) (Nat.le_of_ble_eq_true rfl) ⟨rfl, (by rw [show own_t x = true from by simp [own_t, c3_1, c9_68, c17_69, c23_102, c31_103, c37_119, c45_120, c51_121, c57_122, c63_123, c69_124, c75_125, c81_126]]; rfl), rfl⟩
                          · refine Wk.icmp_eqN (pc' := 84) d11_81 rfl c81_126 ?_
                            refine Wk.iloadN (pc' := 85) d11_84 rfl rfl ?_
                            refine Wk.bipush (pc' := 87) (v := 43) d11_85 rfl rfl ?_
                            by_cases c87_127 : x = (43 : Int32)
                            · refine Wk.icmp_eqY (pc' := 132) d11_87 (by decide) c87_127 ?_
                              refine Wk.iconst (pc' := 133) (v := 1) d11_132 rfl rfl ?_
                              refine Wk.goto (pc' := 137) d11_133 (by decide) ?_
                              exact Wk.zreturn rfl (by simp) d11_137 (Nat.le_of_ble_eq_true rfl) (Nat.le_of_ble_eq_true rfl) ⟨rfl, (by rw [show own_t x = true from by simp [own_t, c3_1, c9_68, c17_69, c23_102, c31_103, c37_119, c45_120, c51_121, c57_122, c63_123, c69_124, c75_125, c81_126, c87_127]]; rfl), rfl⟩
                            · refine Wk.icmp_eqN (pc' := 90) d11_87 rfl c87_127 ?_
                              refine Wk.iloadN (pc' := 91) d11_90 rfl rfl ?_
                              refine Wk.bipush (pc' := 93) (v := 46) d11_91 rfl rfl ?_
                              by_cases c93_128 : x = (46 : Int32)
                              · refine Wk.icmp_eqY (pc' := 132) d11_93 (by decide) c93_128 ?_
                                refine Wk.iconst (pc' := 133) (v := 1) d11_132 rfl rfl ?_
                                refine Wk.goto (pc' := 137) d11_133 (by decide) ?_
                                exact Wk.zreturn rfl (by simp) d11_137 (Nat.le_of_ble_eq_true rfl) (Nat.le_of_ble_eq_true rfl) ⟨rfl, (by rw [show own_t x = true from by simp [own_t, c3_1, c9_68, c17_69, c23_102, c31_103, c37_119, c45_120, c51_121, c57_122, c63_123, c69_124, c75_125, c81_126, c87_127, c93_128]]; rfl), rfl⟩
                              · refine Wk.icmp_eqN (pc' := 96) d11_93 rfl c93_128 ?_
                                refine Wk.iloadN (pc' := 97) d11_96 rfl rfl ?_
                                refine Wk.bipush (pc' := 99) (v := 94) d11_97 rfl rfl ?_
                                by_cases c99_129 : x = (94 : Int32)
                                · refine Wk.icmp_eqY (pc' := 132) d11_99 (by decide) c99_129 ?_
                                  refine Wk.iconst (pc' := 133) (v := 1) d11_132 rfl rfl ?_
                                  refine Wk.goto (pc' := 137) d11_133 (by decide) ?_
                                  exact Wk.zreturn rfl (by simp) d11_137 (Nat.le_of_ble_eq_true rfl) (Nat.le_of_ble_eq_true rfl) ⟨rfl, (by rw [show own_t x = true from by simp [own_t, c3_1, c9_68, c17_69, c23_102, c31_103, c37_119, c45_120, c51_121, c57_122, c63_123, c69_124, c75_125, c81_126, c87_127, c93_128, c99_129]]; rfl), rfl⟩
                                · refine Wk.icmp_eqN (pc' := 102) d11_99 rfl c99_129 ?_
                                  refine Wk.iloadN (pc' := 103) d11_102 rfl rfl ?_
                                  refine Wk.bipush (pc' := 105) (v := 95) d11_103 rfl rfl ?_
                                  by_cases c105_130 : x = (95 : Int32)
                                  · refine Wk.icmp_eqY (pc' := 132) d11_105 (by decide) c105_130 ?_
                                    refine Wk.iconst (pc' := 133) (v := 1) d11_132 rfl rfl ?_
                                    refine Wk.goto (pc' := 137) d11_133 (by decide) ?_
                                    exact Wk.zreturn rfl (by simp) d11_137 (Nat.le_of_ble_eq_true rfl) (Nat.le_of_ble_eq_true rfl) ⟨rfl, (by rw [show own_t x = true from by simp [own_t, c3_1, c9_68, c17_69, c23_102, c31_103, c37_119, c45_120, c51_121, c57_122, c63_123, c69_124, c75_125, c81_126, c87_127, c93_128, c99_129, c105_130]]; rfl), rfl⟩
                                  · refine Wk.icmp_eqN (pc' := 108) d11_105 rfl c105_130 ?_
                                    refine Wk.iloadN (pc' := 109) d11_108 rfl rfl ?_
                                    refine Wk.bipush (pc' := 111) (v := 96) d11_109 rfl rfl ?_
                                    by_cases c111_131 : x = (96 : Int32)
                                    · refine Wk.icmp_eqY (pc' := 132) d11_111 (by decide) c111_131 ?_
                                      refine Wk.iconst (pc' := 133) (v := 1) d11_132 rfl rfl ?_
                                      refine Wk.goto (pc' := 137) d11_133 (by decide) ?_
                                      exact Wk.zreturn rfl (by simp) d11_137 (Nat.le_of_ble_eq_true rfl) (Nat.le_of_ble_eq_true rfl) ⟨rfl, (by rw [show own_t x = true from by simp [own_t, c3_1, c9_68, c17_69, c23_102, c31_103, c37_119, c45_120, c51_121, c57_122, c63_123, c69_124, c75_125, c81_126, c87_127, c93_128, c99_129, c105_130, c111_131]]; rfl), rfl⟩
                                    · refine Wk.icmp_eqN (pc' := 114) d11_111 rfl c111_131 ?_
                                      refine Wk.iloadN (pc' := 115) d11_114 rfl rfl ?_
                                      refine Wk.bipush (pc' := 117) (v := 124) d11_115 rfl rfl ?_
                                      by_cases c117_132 : x = (124 : Int32)
                                      · refine Wk.icmp_eqY (pc' := 132) d11_117 (by decide) c117_132 ?_
                                        refine Wk.iconst (pc' := 133) (v := 1) d11_132 rfl rfl ?_
                                        refine Wk.goto (pc' := 137) d11_133 (by decide) ?_
                                        exact Wk.zreturn rfl (by simp) d11_137 (Nat.le_of_ble_eq_true rfl) (Nat.le_of_ble_eq_true rfl) ⟨rfl, (by rw [show own_t x = true from by simp [own_t, c3_1, c9_68, c17_69, c23_102, c31_103, c37_119, c45_120, c51_121, c57_122, c63_123, c69_124, c75_125, c81_126, c87_127, c93_128, c99_129, c105_130, c111_131, c117_132]]; rfl), rfl⟩
                                      · refine Wk.icmp_eqN (pc' := 120) d11_117 rfl c117_132 ?_
                                        refine Wk.iloadN (pc' := 121) d11_120 rfl rfl ?_
                                        refine Wk.bipush (pc' := 123) (v := 126) d11_121 rfl rfl ?_
                                        by_cases c123_133 : x = (126 : Int32)
                                        · refine Wk.icmp_eqY (pc' := 132) d11_123 (by decide) c123_133 ?_
                                          refine Wk.iconst (pc' := 133) (v := 1) d11_132 rfl rfl ?_
                                          refine Wk.goto (pc' := 137) d11_133 (by decide) ?_
                                          exact Wk.zreturn rfl (by simp) d11_137 (Nat.le_of_ble_eq_true rfl) (Nat.le_of_ble_eq_true rfl) ⟨rfl, (by rw [show own_t x = true from by simp [own_t, c3_1, c9_68, c17_69, c23_102, c31_103, c37_119, c45_120, c51_121, c57_122, c63_123, c69_124, c75_125, c81_126, c87_127, c93_128, c99_129, c105_130, c111_131, c117_132, c123_133]]; rfl), rfl⟩
                                        · refine Wk.icmp_eqN (pc' := 126) d11_123 rfl c123_133 ?_
                                          refine Wk.iloadN (pc' := 127) d11_126 rfl rfl ?_
                                          refine Wk.bipush (pc' := 129) (v := 45) d11_127 rfl rfl ?_
                                          by_cases c129_134 : x = (45 : Int32)
                                          · refine Wk.icmp_neN (pc' := 132) d11_129 rfl c129_134 ?_
                                            refine Wk.iconst (pc' := 133) (v := 1) d11_132 rfl rfl ?_
                                            refine Wk.goto (pc' := 137) d11_133 (by decide) ?_
                                            exact Wk.zreturn rfl (by simp) d11_137 (Nat.le_of_ble_eq_true rfl) (Nat.le_of_ble_eq_true rfl) ⟨rfl, (by rw [show own_t x = true from by simp [own_t, c3_1, c9_68, c17_69, c23_102, c31_103, c37_119, c45_120, c51_121, c57_122, c63_123, c69_124, c75_125, c81_126, c87_127, c93_128, c99_129, c105_130, c111_131, c117_132, c123_133, c129_134]]; rfl), rfl⟩
                                          · refine Wk.icmp_neY (pc' := 136) d11_129 (by decide) c129_134 ?_
                                            refine Wk.iconst (pc' := 137) (v := 0) d11_136 rfl rfl ?_
                                            exact Wk.zreturn rfl (by simp) d11_137 (Nat.le_of_ble_eq_true rfl) (Nat.le_of_ble_eq_true rfl) ⟨rfl, (by rw [show own_t x = false from by simp [own_t, c3_1, c9_68, c17_69, c23_102, c31_103, c37_119, c45_120, c51_121, c57_122, c63_123, c69_124, c75_125, c81_126, c87_127, c93_128, c99_129, c105_130, c111_131, c117_132, c123_133, c129_134]]; rfl), rfl⟩
            · refine Wk.icmp_gtN (pc' := 40) d11_37 rfl c37_119 ?_
              refine Wk.iconst (pc' := 41) (v := 1) d11_40 rfl rfl ?_
              exact Wk.zreturn rfl (by simp) d11_41 (Nat.le_of_ble_eq_true rfl) (Nat.le_of_ble_eq_true rfl) ⟨rfl, (by rw [show own_t x = true from by simp [own_t, c3_1, c9_68, c17_69, c23_102, c31_103, c37_119]]; rfl), rfl⟩
        · refine Wk.icmp_gtN (pc' := 26) d11_23 rfl c23_102 ?_
          refine Wk.iconst (pc' := 27) (v := 1) d11_26 rfl rfl ?_
          exact Wk.zreturn rfl (by simp) d11_27 (Nat.le_of_ble_eq_true rfl) (Nat.le_of_ble_eq_true rfl) ⟨rfl, (by rw [show own_t x = true from by simp [own_t, c3_1, c9_68, c17_69, c23_102]]; rfl), rfl⟩
    · refine Wk.icmp_gtN (pc' := 12) d11_9 rfl c9_68 ?_
      refine Wk.iconst (pc' := 13) (v := 1) d11_12 rfl rfl ?_
      exact Wk.zreturn rfl (by simp) d11_13 (Nat.le_of_ble_eq_true rfl) (Nat.le_of_ble_eq_true rfl) ⟨rfl, (by rw [show own_t x = true from by simp [own_t, c3_1, c9_68]]; rfl), rfl⟩
theorem ef_con (m : MethodId) (x0 : Addr) (x1 : Addr) : entryFrame m #[(.ref x0), (.ref x1)] 4 = mkF m 0 #[.val (.ref x0), .val (.ref x1), .unset, .unset] [] := by first | (simp [entryFrame, mkF, argsToLocals, Value.category]; done) | rfl
abbrev b_con : Bdy := ((⟨"com/example/gravamen/gravamen/HttpSyntax", "consistsOf", "(Ljava/lang/String;[Z)Z"⟩ : MethodName), prog_2_method_12_code, 4, (Option.some Jvm.ClassFile.FieldType.boolean), ({ frames := 5, cells := 0, slots := 0, locals := 66 } : Room))
def Q_con (Z : State) (N : Nat) (a : Addr) (tk : Addr) (qt : ClassId) (cl : List Int32) (sf : Value) (cs : Int32) (h0 : Heap) (I : Lts) (v : Option Value) (h : Heap) (J : Lts) : Prop := I = J ∧ v = some (.int (own_bi (cl.all own_t))) ∧ h0 = h
set_option maxRecDepth 65536 in
set_option maxHeartbeats 40000000 in
theorem rm_con {l : Launch} {Z : State} {a0 : Array Value} {N : Nat} (hw : ∀ d ∈ tables_1, d.before a0 Z = true) (a : Addr) (tk : Addr) (qt : ClassId) (cl : List Int32) (sf : Value) (cs : Int32) (h0 : Heap) (I : Lts) (P0 : Sta Z Z.heap "java/lang/String" "COMPACT_STRINGS" "Z" (.int cs)) (G_cs : ¬ cs = (0 : Int32)) (P2 : Sta Z Z.heap "java/lang/StringUTF16" "$assertionsDisabled" "Z" (.int (1 : Int32))) (P3 : Sta Z Z.heap "java/lang/StringUTF16" "HI_BYTE_SHIFT" "I" (.int (0 : Int32))) (P4 : Sta Z Z.heap "java/lang/StringUTF16" "LO_BYTE_SHIFT" "I" (.int (8 : Int32))) (P5 : Sta Z Z.heap "jdk/internal/util/Preconditions" "SIOOBE_FORMATTER" "Ljava/util/function/BiFunction;" sf) (G_sf : sf.isRef = true) (P7 : Exa Z h0 a "java/lang/String") (P8 : StrA Z h0 a cl) (P9 : Arv Z h0 tk qt .boolean (128 : Int32) own_tok (.int (0 : Int32))) (hn : cl.length < 1000000) (hD : own_D cl) :
    Cn l Z N b_con #[(.ref a), (.ref tk)] h0 I (Q_con Z N a tk qt cl sf cs h0 I) := by
  refine Cn.of_wk (Ls := #[.val (.ref a), .val (.ref tk), .unset, .unset]) (plainFor_of_name (by first | (simp [plainName, overriddenIn]; done) | decide +kernel)) (fun m => ef_con m a tk) ?_
  refine Wk.iconst (pc' := 1) (v := 0) d12_0 rfl rfl ?_
  refine Wk.istoreN (pc' := 2) #[.val (.ref a), .val (.ref tk), .val (.int (0 : Int32)), .unset] d12_1 rfl rfl ?_
  suffices loop : ∀ (d : Nat) (i : Nat) (s3 : Slot), (i + d = cl.length) → (∀ j, j < i → own_t (cl.getD j 0) = true) → (s3 = .unset ∨ ∃ z : Int32, s3 = .val (.int z)) → Wk (l, Z, N, h0.size, b_con, Q_con Z N a tk qt cl sf cs h0 I) h0 0 0 I 2 #[.val (.ref a), .val (.ref tk), .val (.int (Int32.ofNat i)), s3] [] by
    exact loop cl.length 0 _ (by omega) (fun j q => absurd q (Nat.not_lt_zero j)) (Or.inl rfl)
  intro d
  induction d with
  | zero =>
    intro i s3 hi hj hs3
    refine Wk.iloadN (pc' := 3) d12_2 rfl rfl ?_
    refine Wk.aloadN (pc' := 4) d12_3 rfl rfl rfl ?_
    refine Wk.callV (a0 := a0) (pc' := 7) (k' := 0) (n' := 0) (W := 1) (b := b_s_len) (argsL := []) (rest := [(.int (Int32.ofNat i))]) (y := (⟨"java/lang/String", "length", "()I"⟩ : MethodName)) (rm_a_len hw a cl cs h0 I P0 G_cs P8 hn) P7 (w60 hw) (w61 hw) (w63 hw) (w63 hw) (w62 hw) (w8 hw) (w64 hw) (by decide) (Nat.le_refl _) id (Nat.le_of_ble_eq_true rfl) (Nat.le_of_ble_eq_true rfl) rfl rfl (Nat.le_of_ble_eq_true rfl) (Nat.le_of_ble_eq_true rfl) rfl pd19 rfl rfl rfl (Nat.le_of_ble_eq_true rfl) d12_4 rfl fun v1 h2 J3 hs4 hQ5 => ?_
    obtain ⟨rfl, rfl, rfl⟩ := hQ5
    show Wk _ h0 0 0 I 7 #[.val (.ref a), .val (.ref tk), .val (.int (Int32.ofNat i)), s3] [(.int (Int32.ofNat cl.length)), (.int (Int32.ofNat i))]
    refine Wk.icmp_geY (pc' := 36) d12_7 (by decide) (mt (own_lt (by omega) (by omega)).mp (by omega)) ?_
    refine Wk.iconst (pc' := 37) (v := 1) d12_36 rfl rfl ?_
    exact Wk.zreturn rfl (by simp) d12_37 (Nat.le_of_ble_eq_true rfl) (Nat.le_of_ble_eq_true rfl) ⟨rfl, (by rw [own_all_t (fun j q => hj j (by omega))]; rfl), rfl⟩
  | succ d ih =>
    intro i s3 hi hj hs3
    refine Wk.iloadN (pc' := 3) d12_2 rfl rfl ?_
    refine Wk.aloadN (pc' := 4) d12_3 rfl rfl rfl ?_
    refine Wk.callV (a0 := a0) (pc' := 7) (k' := 0) (n' := 0) (W := 1) (b := b_s_len) (argsL := []) (rest := [(.int (Int32.ofNat i))]) (y := (⟨"java/lang/String", "length", "()I"⟩ : MethodName)) (rm_a_len hw a cl cs h0 I P0 G_cs P8 hn) P7 (w60 hw) (w61 hw) (w63 hw) (w63 hw) (w62 hw) (w8 hw) (w64 hw) (by decide) (Nat.le_refl _) id (Nat.le_of_ble_eq_true rfl) (Nat.le_of_ble_eq_true rfl) rfl rfl (Nat.le_of_ble_eq_true rfl) (Nat.le_of_ble_eq_true rfl) rfl pd19 rfl rfl rfl (Nat.le_of_ble_eq_true rfl) d12_4 rfl fun v6 h7 J8 hs9 hQ10 => ?_
    obtain ⟨rfl, rfl, rfl⟩ := hQ10
    show Wk _ h0 0 0 I 7 #[.val (.ref a), .val (.ref tk), .val (.int (Int32.ofNat i)), s3] [(.int (Int32.ofNat cl.length)), (.int (Int32.ofNat i))]
    refine Wk.icmp_geN (pc' := 10) d12_7 rfl ((own_lt (by omega) (by omega)).mpr (by omega)) ?_
    refine Wk.aloadN (pc' := 11) d12_10 rfl rfl rfl ?_
    refine Wk.iloadN (pc' := 12) d12_11 rfl rfl ?_
    refine Wk.callV (a0 := a0) (pc' := 15) (k' := 0) (n' := 0) (W := 0) (b := b_s_chr) (argsL := [(.int (Int32.ofNat i))]) (rest := []) (y := (⟨"java/lang/String", "charAt", "(I)C"⟩ : MethodName)) (rm_a_chr hw a cl i sf cs h0 I P0 G_cs P2 P3 P4 P5 G_sf P8 (by omega) hn) P7 (w70 hw) (w71 hw) (w73 hw) (w73 hw) (w72 hw) (w8 hw) (w74 hw) (by decide) (Nat.le_refl _) id (Nat.le_of_ble_eq_true rfl) (Nat.le_of_ble_eq_true rfl) rfl rfl (Nat.le_of_ble_eq_true rfl) (Nat.le_of_ble_eq_true rfl) rfl pd20 rfl rfl rfl (Nat.le_of_ble_eq_true rfl) d12_12 rfl fun v11 h12 J13 hs14 hQ15 => ?_
    obtain ⟨rfl, rfl, rfl⟩ := hQ15
    show Wk _ h0 0 0 I 15 #[.val (.ref a), .val (.ref tk), .val (.int (Int32.ofNat i)), s3] [(.int (cl.getD i 0))]
    refine Wk.istoreN (pc' := 16) #[.val (.ref a), .val (.ref tk), .val (.int (Int32.ofNat i)), .val (.int (cl.getD i 0))] d12_15 rfl (by rcases hs3 with rfl | ⟨z, rfl⟩ <;> rfl) ?_
    refine Wk.iloadN (pc' := 17) d12_16 rfl rfl ?_
    refine Wk.aloadN (pc' := 18) d12_17 rfl rfl rfl ?_
    refine Wk.arraylength (pc' := 19) P9 d12_18 rfl ?_
    by_cases c19_16 : (cl.getD i 0) < (128 : Int32)
    · refine Wk.icmp_geN (pc' := 22) d12_19 rfl c19_16 ?_
      refine Wk.aloadN (pc' := 23) d12_22 rfl rfl rfl ?_
      refine Wk.iloadN (pc' := 24) d12_23 rfl rfl ?_
      refine Wk.zaload (pc' := 25) (v := (.int (own_bi (own_t (cl.getD i 0))))) P9 ⟨(own_Dget hD i).1, c19_16⟩ (own_tok_get (own_Dget hD i).1 c19_16) d12_24 rfl ?_
      by_cases c25_17 : (own_bi (own_t (cl.getD i 0))) = (0 : Int32)
      · refine Wk.if_neN (pc' := 28) d12_25 rfl c25_17 ?_
        refine Wk.iconst (pc' := 29) (v := 0) d12_28 rfl rfl ?_
        exact Wk.zreturn rfl (by simp) d12_29 (Nat.le_of_ble_eq_true rfl) (Nat.le_of_ble_eq_true rfl) ⟨rfl, (by rw [own_all_f (j := i) (by omega) (own_bi0 c25_17)]; rfl), rfl⟩
      · refine Wk.if_neY (pc' := 30) d12_25 (by decide) c25_17 ?_
        refine Wk.iinc (pc' := 33) (v := 1) (Ls' := #[.val (.ref a), .val (.ref tk), .val (.int ((Int32.ofNat i) + (1 : Int32))), .val (.int (cl.getD i 0))]) d12_30 rfl rfl rfl rfl ?_
        rw [own_succ (by omega)]
        refine Wk.goto (pc' := 2) d12_33 (by decide) ?_
        exact ih (i + 1) _ (by omega) (fun j q => by
          by_cases e : j = i
          · subst e; exact own_bi1 c25_17
          · exact hj j (by omega)) (Or.inr ⟨_, rfl⟩)
    · refine Wk.icmp_geY (pc' := 28) d12_19 (by decide) c19_16 ?_
      refine Wk.iconst (pc' := 29) (v := 0) d12_28 rfl rfl ?_
      exact Wk.zreturn rfl (by simp) d12_29 (Nat.le_of_ble_eq_true rfl) (Nat.le_of_ble_eq_true rfl) ⟨rfl, (by rw [own_all_f (j := i) (by omega) (own_t_hi c19_16)]; rfl), rfl⟩
theorem ef_ist (m : MethodId) (x0 : Addr) : entryFrame m #[(.ref x0)] 1 = mkF m 0 #[.val (.ref x0)] [] := by first | (simp [entryFrame, mkF, argsToLocals, Value.category]; done) | rfl
abbrev b_ist : Bdy := ((⟨"com/example/gravamen/gravamen/HttpSyntax", "isToken", "(Ljava/lang/String;)Z"⟩ : MethodName), prog_2_method_2_code, 1, (Option.some Jvm.ClassFile.FieldType.boolean), ({ frames := 6, cells := 0, slots := 0, locals := 81 } : Room))
def Q_ist (Z : State) (N : Nat) (a : Addr) (tk : Addr) (qt : ClassId) (cl : List Int32) (sf : Value) (cs : Int32) (h0 : Heap) (I : Lts) (v : Option Value) (h : Heap) (J : Lts) : Prop := I = J ∧ v = some (.int (own_bi (own_all cl))) ∧ h0 = h
set_option maxRecDepth 65536 in
set_option maxHeartbeats 40000000 in
theorem rm_ist {l : Launch} {Z : State} {a0 : Array Value} {N : Nat} (hw : ∀ d ∈ tables_1, d.before a0 Z = true) (a : Addr) (tk : Addr) (qt : ClassId) (cl : List Int32) (sf : Value) (cs : Int32) (h0 : Heap) (I : Lts) (P0 : Sta Z Z.heap "java/lang/String" "COMPACT_STRINGS" "Z" (.int cs)) (G_cs : ¬ cs = (0 : Int32)) (P2 : Sta Z Z.heap "java/lang/StringUTF16" "$assertionsDisabled" "Z" (.int (1 : Int32))) (P3 : Sta Z Z.heap "java/lang/StringUTF16" "HI_BYTE_SHIFT" "I" (.int (0 : Int32))) (P4 : Sta Z Z.heap "java/lang/StringUTF16" "LO_BYTE_SHIFT" "I" (.int (8 : Int32))) (P5 : Sta Z Z.heap "jdk/internal/util/Preconditions" "SIOOBE_FORMATTER" "Ljava/util/function/BiFunction;" sf) (G_sf : sf.isRef = true) (P7 : Sta Z Z.heap "com/example/gravamen/gravamen/HttpSyntax" "TOKEN" "[Z" (.ref tk)) (P8 : Exa Z h0 a "java/lang/String") (P9 : StrA Z h0 a cl) (P10 : Arv Z h0 tk qt .boolean (128 : Int32) own_tok (.int (0 : Int32))) (hn : cl.length < 1000000) (hD : own_D cl) :
    Cn l Z N b_ist #[(.ref a)] h0 I (Q_ist Z N a tk qt cl sf cs h0 I) := by
  refine Cn.of_wk (Ls := #[.val (.ref a)]) (plainFor_of_name (by first | (simp [plainName, overriddenIn]; done) | decide +kernel)) (fun m => ef_ist m a) ?_
  refine Wk.aloadN (pc' := 1) d5_0 rfl rfl rfl ?_
  refine Wk.callV (a0 := a0) (pc' := 4) (k' := 0) (n' := 0) (W := 0) (b := b_s_emp) (argsL := []) (rest := []) (y := (⟨"java/lang/String", "isEmpty", "()Z"⟩ : MethodName)) (rm_a_emp hw a cl h0 I P9 hn) P8 (w32 hw) (w33 hw) (w35 hw) (w35 hw) (w34 hw) (w8 hw) (w36 hw) (by decide) (Nat.le_refl _) id (Nat.le_of_ble_eq_true rfl) (Nat.le_of_ble_eq_true rfl) rfl rfl (Nat.le_of_ble_eq_true rfl) (Nat.le_of_ble_eq_true rfl) rfl pd3 rfl rfl rfl (Nat.le_of_ble_eq_true rfl) d5_1 rfl fun v1 h2 J3 hs4 hQ5 => ?_
  obtain ⟨rfl, rfl, rfl⟩ := hQ5
  show Wk _ h0 0 0 I 4 #[.val (.ref a)] [(.int (own_bi (decide (cl = []))))]
  by_cases c4_6 : (own_bi (decide (cl = []))) = (0 : Int32)
  · refine Wk.if_neN (pc' := 7) d5_4 rfl c4_6 ?_
    refine Wk.aloadN (pc' := 8) d5_7 rfl rfl rfl ?_
    refine Wk.getS (a0 := a0) (pc' := 11) (host := "") (Or.inl (w55 hw)) Via.refl P7 d5_8 rfl ?_
    refine Wk.callS (a0 := a0) (pc' := 14) (k' := 0) (n' := 0) (W := 0) (b := b_con) (argsL := [(.ref a), (.ref tk)]) (rest := []) (rm_con hw a tk qt cl sf cs h0 I P0 G_cs P2 P3 P4 P5 G_sf P8 P9 P10 hn hD) (w57 hw) (w58 hw) (w30 hw) (w59 hw) (by decide) (Nat.le_refl _) id (Nat.le_of_ble_eq_true rfl) (Nat.le_of_ble_eq_true rfl) rfl rfl (Nat.le_of_ble_eq_true rfl) (Nat.le_of_ble_eq_true rfl) rfl pd21 rfl rfl rfl (Nat.le_of_ble_eq_true rfl) d5_11 rfl fun v7 h8 J9 hs10 hQ11 => ?_
    obtain ⟨rfl, rfl, rfl⟩ := hQ11
    show Wk _ h0 0 0 I 14 #[.val (.ref a)] [(.int (own_bi (cl.all own_t)))]
    by_cases c14_12 : (own_bi (cl.all own_t)) = (0 : Int32)
    · refine Wk.if_eqY (pc' := 21) d5_14 (by decide) c14_12 ?_
      refine Wk.iconst (pc' := 22) (v := 0) d5_21 rfl rfl ?_
      exact Wk.zreturn rfl (by simp) d5_22 (Nat.le_of_ble_eq_true rfl) (Nat.le_of_ble_eq_true rfl) ⟨rfl, (by rw [show own_all cl = false from by rw [own_all, own_bi0 c14_12]; simp [of_decide_eq_false (own_bi0 c4_6)]]; rfl), rfl⟩
    · refine Wk.if_eqN (pc' := 17) d5_14 rfl c14_12 ?_
      refine Wk.iconst (pc' := 18) (v := 1) d5_17 rfl rfl ?_
      refine Wk.goto (pc' := 22) d5_18 (by decide) ?_
      exact Wk.zreturn rfl (by simp) d5_22 (Nat.le_of_ble_eq_true rfl) (Nat.le_of_ble_eq_true rfl) ⟨rfl, (by rw [show own_all cl = true from by rw [own_all, own_bi1 c14_12]; simp [of_decide_eq_false (own_bi0 c4_6)]]; rfl), rfl⟩
  · refine Wk.if_neY (pc' := 21) d5_4 (by decide) c4_6 ?_
    refine Wk.iconst (pc' := 22) (v := 0) d5_21 rfl rfl ?_
    exact Wk.zreturn rfl (by simp) d5_22 (Nat.le_of_ble_eq_true rfl) (Nat.le_of_ble_eq_true rfl) ⟨rfl, (by rw [show own_all cl = false from by simp [own_all, of_decide_eq_true (own_bi1 c4_6)]]; rfl), rfl⟩
theorem ef_law (m : MethodId) (x0 : Int32) (x1 : Int32) (x2 : Int32) : entryFrame m #[(.int x0), (.int x1), (.int x2)] maxLocals = mkF m 0 #[.val (.int x0), .val (.int x1), .val (.int x2), .unset, .unset, .unset, .unset, .unset, .unset, .unset] [] := by first | (simp [entryFrame, mkF, argsToLocals, Value.category, maxLocals]; done) | rfl
abbrev b_law : Bdy := (x, code, maxLocals, ret, room_1)
def Q_law (Z : State) (N : Nat) (u1 : Int32) (u2 : Int32) (u3 : Int32) (tk : Addr) (qt : ClassId) (sf : Value) (cs : Int32) (h0 : Heap) (I : Lts) (v : Option Value) (h : Heap) (J : Lts) : Prop := True ∧ v = some (.int (1 : Int32))
set_option maxRecDepth 65536 in
set_option maxHeartbeats 40000000 in
theorem rm_law {l : Launch} {Z : State} {a0 : Array Value} {N : Nat} (hw : ∀ d ∈ tables_1, d.before a0 Z = true) (u1 : Int32) (u2 : Int32) (u3 : Int32) (tk : Addr) (qt : ClassId) (sf : Value) (cs : Int32) (h0 : Heap) (P0 : Sta Z Z.heap "java/lang/String" "COMPACT_STRINGS" "Z" (.int cs)) (G_cs : ¬ cs = (0 : Int32)) (P2 : Sta Z Z.heap "java/lang/StringUTF16" "$assertionsDisabled" "Z" (.int (1 : Int32))) (P3 : Sta Z Z.heap "java/lang/StringUTF16" "HI_BYTE_SHIFT" "I" (.int (0 : Int32))) (P4 : Sta Z Z.heap "java/lang/StringUTF16" "LO_BYTE_SHIFT" "I" (.int (8 : Int32))) (P5 : Sta Z Z.heap "jdk/internal/util/Preconditions" "SIOOBE_FORMATTER" "Ljava/util/function/BiFunction;" sf) (G_sf : sf.isRef = true) (P7 : Sta Z Z.heap "com/example/gravamen/gravamen/HttpSyntax" "TOKEN" "[Z" (.ref tk)) (P8 : Arv Z h0 tk qt .boolean (128 : Int32) own_tok (.int (0 : Int32))) (G_h7 : Jvm.Lit.constHeld Z "java/lang/String" 7) (G_cw : Jvm.Lit.compactW.before a0 Z = true) :
    Cn l Z N b_law #[(.int u1), (.int u2), (.int u3)] h0 (some ([], [])) (Q_law Z N u1 u2 u3 tk qt sf cs h0 (some ([], []))) := by
  refine Cn.of_wk (Ls := #[.val (.int u1), .val (.int u2), .val (.int u3), .unset, .unset, .unset, .unset, .unset, .unset, .unset]) (plainFor_of_name (by first | (simp [plainName, overriddenIn]; done) | decide +kernel)) (fun m => ef_law m u1 u2 u3) ?_
  refine Wk.iloadN (pc' := 1) at_0 rfl rfl ?_
  refine Wk.ldcI (a0 := a0) (pc' := 3) (w0 hw) at_1 rfl ?_
  refine Wk.iand (pc' := 4) at_3 rfl ?_
  refine Wk.iconst (pc' := 5) (v := 5) at_4 rfl rfl ?_
  refine Wk.irem (pc' := 6) at_5 rfl (by decide) ?_
  obtain ⟨j, hj, ej⟩ := own_rem5 u1
  rw [ej]
  refine Wk.istoreN (pc' := 7) #[.val (.int u1), .val (.int u2), .val (.int u3), .val (.int (Int32.ofNat j)), .unset, .unset, .unset, .unset, .unset, .unset] at_6 rfl rfl ?_
  refine Wk.iloadN (pc' := 8) at_7 rfl rfl ?_
  refine Wk.ldcI (a0 := a0) (pc' := 10) (w1 hw) at_8 rfl ?_
  refine Wk.iand (pc' := 11) at_10 rfl ?_
  refine Wk.i2c (pc' := 12) at_11 rfl ?_
  obtain ⟨x0, e_x0⟩ : ∃ z, z = ((u2 &&& (65535 : Int32)).toUInt32.toUInt16.toUInt32.toInt32) := ⟨_, rfl⟩
  rw [← e_x0]
  have hx0 : own_d x0 := by rw [e_x0]; exact own_di2c _
  refine Wk.istore (pc' := 14) #[.val (.int u1), .val (.int u2), .val (.int u3), .val (.int (Int32.ofNat j)), .val (.int x0), .unset, .unset, .unset, .unset, .unset] at_12 rfl rfl ?_
  refine Wk.iloadN (pc' := 15) at_14 rfl rfl ?_
  refine Wk.bipush (pc' := 17) (v := 16) at_15 rfl rfl ?_
  refine Wk.iushr (pc' := 18) at_17 rfl ?_
  refine Wk.i2c (pc' := 19) at_18 rfl ?_
  obtain ⟨x1, e_x1⟩ : ∃ z, z = (((u2.toUInt32 >>> ((16 : Int32) &&& 31).toUInt32).toInt32).toUInt32.toUInt16.toUInt32.toInt32) := ⟨_, rfl⟩
  rw [← e_x1]
  have hx1 : own_d x1 := by rw [e_x1]; exact own_di2c _
  refine Wk.istore (pc' := 21) #[.val (.int u1), .val (.int u2), .val (.int u3), .val (.int (Int32.ofNat j)), .val (.int x0), .val (.int x1), .unset, .unset, .unset, .unset] at_19 rfl rfl ?_
  refine Wk.iloadN (pc' := 22) at_21 rfl rfl ?_
  refine Wk.ldcI (a0 := a0) (pc' := 24) (w1 hw) at_22 rfl ?_
  refine Wk.iand (pc' := 25) at_24 rfl ?_
  refine Wk.i2c (pc' := 26) at_25 rfl ?_
  obtain ⟨x2, e_x2⟩ : ∃ z, z = ((u3 &&& (65535 : Int32)).toUInt32.toUInt16.toUInt32.toInt32) := ⟨_, rfl⟩
  rw [← e_x2]
  have hx2 : own_d x2 := by rw [e_x2]; exact own_di2c _
  refine Wk.istore (pc' := 28) #[.val (.int u1), .val (.int u2), .val (.int u3), .val (.int (Int32.ofNat j)), .val (.int x0), .val (.int x1), .val (.int x2), .unset, .unset, .unset] at_26 rfl rfl ?_
  refine Wk.iloadN (pc' := 29) at_28 rfl rfl ?_
  refine Wk.bipush (pc' := 31) (v := 16) at_29 rfl rfl ?_
  refine Wk.iushr (pc' := 32) at_31 rfl ?_
  refine Wk.i2c (pc' := 33) at_32 rfl ?_
  obtain ⟨x3, e_x3⟩ : ∃ z, z = (((u3.toUInt32 >>> ((16 : Int32) &&& 31).toUInt32).toInt32).toUInt32.toUInt16.toUInt32.toInt32) := ⟨_, rfl⟩
  rw [← e_x3]
  have hx3 : own_d x3 := by rw [e_x3]; exact own_di2c _
  refine Wk.istore (pc' := 35) #[.val (.int u1), .val (.int u2), .val (.int u3), .val (.int (Int32.ofNat j)), .val (.int x0), .val (.int x1), .val (.int x2), .val (.int x3), .unset, .unset] at_33 rfl rfl ?_
  refine Wk.iloadN (pc' := 36) at_35 rfl rfl ?_
  refine Wk.iload (pc' := 38) at_36 rfl rfl ?_
  refine Wk.iload (pc' := 40) at_38 rfl rfl ?_
  refine Wk.iload (pc' := 42) at_40 rfl rfl ?_
  refine Wk.iload (pc' := 44) at_42 rfl rfl ?_
  refine Wk.callS (a0 := a0) (pc' := 47) (k' := 4) (n' := 24) (W := 0) (b := b_mk) (argsL := [(.int (Int32.ofNat j)), (.int x0), (.int x1), (.int x2), (.int x3)]) (rest := []) (rm_mk hw j x0 x1 x2 x3 cs [] [] h0  P0 G_cs P2 P3 P4 hx0 hx1 hx2 hx3 hj (by simp) G_h7 G_cw) (w2 hw) (w3 hw) (w4 hw) (w5 hw) (by decide) (Nat.le_refl _) id (Nat.le_of_ble_eq_true rfl) (Nat.le_of_ble_eq_true rfl) rfl rfl (Nat.le_of_ble_eq_true rfl) (Nat.le_of_ble_eq_true rfl) rfl pd22 rfl rfl rfl (Nat.le_of_ble_eq_true rfl) at_44 rfl fun v1 h2 J3 hs4 hQ5 => ?_
  obtain ⟨r6, -, rfl, E7, g8, g9, g10⟩ := hQ5
  have ne11 : tk ≠ r6 := Nat.ne_of_lt (Nat.lt_of_lt_of_le P8.lt g8)
  show Wk _ h2 4 24 J3 47 #[.val (.int u1), .val (.int u2), .val (.int u3), .val (.int (Int32.ofNat j)), .val (.int x0), .val (.int x1), .val (.int x2), .val (.int x3), .unset, .unset] [(.ref r6)]
  have hD4 : own_D [x0, x1, x2, x3] := (own_Dc hx0 (own_Dc hx1 (own_Dc hx2 (own_Dc hx3 own_Dn))))
  have hn : (List.take j [x0, x1, x2, x3]).length < 1000000 := by rw [List.length_take]; simp; omega
  have hD : own_D (List.take j [x0, x1, x2, x3]) := fun c hc => hD4 c (List.mem_of_mem_take hc)
  refine Wk.astore (pc' := 49) #[.val (.int u1), .val (.int u2), .val (.int u3), .val (.int (Int32.ofNat j)), .val (.int x0), .val (.int x1), .val (.int x2), .val (.int x3), .val (.ref r6), .unset] at_47 rfl rfl rfl ?_
  have J105 : ∀ (b : Bool), (b = own_all (List.take j [x0, x1, x2, x3])) → Wk (l, Z, N, h0.size, b_law, Q_law Z N u1 u2 u3 tk qt sf cs h0 (some ([], []))) h2 4 24 J3 105 #[.val (.int u1), .val (.int u2), .val (.int u3), .val (.int (Int32.ofNat j)), .val (.int x0), .val (.int x1), .val (.int x2), .val (.int x3), .val (.ref r6), .unset] [(.int (own_bi b))] := by
    intro b hb
    refine Wk.istore (pc' := 107) #[.val (.int u1), .val (.int u2), .val (.int u3), .val (.int (Int32.ofNat j)), .val (.int x0), .val (.int x1), .val (.int x2), .val (.int x3), .val (.ref r6), .val (.int (own_bi b))] at_105 rfl rfl ?_
    refine Wk.aload (pc' := 109) at_107 rfl rfl rfl ?_
    have f12 := (P8.ext E7)
    refine Wk.callS (a0 := a0) (pc' := 112) (k' := 4) (n' := 24) (W := 0) (b := b_ist) (argsL := [(.ref r6)]) (rest := []) (rm_ist hw r6 tk qt (List.take j [x0, x1, x2, x3]) sf cs h2 J3 P0 G_cs P2 P3 P4 P5 G_sf P7 g9 g10 f12 hn hD) (w28 hw) (w29 hw) (w30 hw) (w31 hw) (by decide) (Nat.le_refl _) id (Nat.le_of_ble_eq_true rfl) (Nat.le_of_ble_eq_true rfl) rfl rfl (Nat.le_of_ble_eq_true rfl) (Nat.le_of_ble_eq_true rfl) rfl pd23 rfl rfl rfl (Nat.le_of_ble_eq_true rfl) at_109 rfl fun v13 h14 J15 hs16 hQ17 => ?_
    obtain ⟨rfl, rfl, rfl⟩ := hQ17
    show Wk _ h2 4 24 J3 112 #[.val (.int u1), .val (.int u2), .val (.int u3), .val (.int (Int32.ofNat j)), .val (.int x0), .val (.int x1), .val (.int x2), .val (.int x3), .val (.ref r6), .val (.int (own_bi b))] [(.int (own_bi (own_all (List.take j [x0, x1, x2, x3]))))]
    refine Wk.iload (pc' := 114) at_112 rfl rfl ?_
    refine Wk.icmp_neN (pc' := 117) at_114 rfl (by rw [hb]) ?_
    refine Wk.iconst (pc' := 118) (v := 1) at_117 rfl rfl ?_
    refine Wk.goto (pc' := 122) at_118 (by decide) ?_
    exact Wk.zreturn rfl (by simp) at_122 (Nat.le_of_ble_eq_true rfl) (Nat.le_of_ble_eq_true rfl) ⟨trivial, rfl⟩
  rcases (show j = 0 ∨ j = 1 ∨ j = 2 ∨ j = 3 ∨ j = 4 by omega) with rfl | rfl | rfl | rfl | rfl
  · skip
    show Wk _ h2 4 24 J3 49 #[.val (.int u1), .val (.int u2), .val (.int u3), .val (.int (0 : Int32)), .val (.int x0), .val (.int x1), .val (.int x2), .val (.int x3), .val (.ref r6), .unset] []
    refine Wk.iloadN (pc' := 50) at_49 rfl rfl ?_
    refine Wk.if_leY (pc' := 104) at_50 (by decide) (by decide) ?_
    refine Wk.iconst (pc' := 105) (v := 0) at_104 rfl rfl ?_
    exact J105 false rfl
  · skip
    show Wk _ h2 4 24 J3 49 #[.val (.int u1), .val (.int u2), .val (.int u3), .val (.int (1 : Int32)), .val (.int x0), .val (.int x1), .val (.int x2), .val (.int x3), .val (.ref r6), .unset] []
    refine Wk.iloadN (pc' := 50) at_49 rfl rfl ?_
    refine Wk.if_leN (pc' := 53) at_50 rfl (by decide) ?_
    refine Wk.iload (pc' := 55) at_53 rfl rfl ?_
    refine Wk.callS (a0 := a0) (pc' := 58) (k' := 4) (n' := 24) (W := 0) (b := b_tch) (argsL := [(.int x0)]) (rest := []) (rm_tch hw x0 h2 J3 ) (w52 hw) (w53 hw) (w4 hw) (w54 hw) (by decide) (Nat.le_refl _) id (Nat.le_of_ble_eq_true rfl) (Nat.le_of_ble_eq_true rfl) rfl rfl (Nat.le_of_ble_eq_true rfl) (Nat.le_of_ble_eq_true rfl) rfl pd14 rfl rfl rfl (Nat.le_of_ble_eq_true rfl) at_55 rfl fun v18 h19 J20 hs21 hQ22 => ?_
    obtain ⟨rfl, rfl, rfl⟩ := hQ22
    show Wk _ h2 4 24 J3 58 #[.val (.int u1), .val (.int u2), .val (.int u3), .val (.int (1 : Int32)), .val (.int x0), .val (.int x1), .val (.int x2), .val (.int x3), .val (.ref r6), .unset] [(.int (own_bi (own_t x0)))]
    by_cases c58_23 : (own_bi (own_t x0)) = (0 : Int32)
    · refine Wk.if_eqY (pc' := 104) at_58 (by decide) c58_23 ?_
      refine Wk.iconst (pc' := 105) (v := 0) at_104 rfl rfl ?_
      exact J105 false (by simp [own_all, own_bi0 c58_23])
    · refine Wk.if_eqN (pc' := 61) at_58 rfl c58_23 ?_
      refine Wk.iloadN (pc' := 62) at_61 rfl rfl ?_
      refine Wk.iconst (pc' := 63) (v := 2) at_62 rfl rfl ?_
      refine Wk.icmp_ltY (pc' := 74) at_63 (by decide) (by decide) ?_
      refine Wk.iloadN (pc' := 75) at_74 rfl rfl ?_
      refine Wk.iconst (pc' := 76) (v := 3) at_75 rfl rfl ?_
      refine Wk.icmp_ltY (pc' := 87) at_76 (by decide) (by decide) ?_
      refine Wk.iloadN (pc' := 88) at_87 rfl rfl ?_
      refine Wk.iconst (pc' := 89) (v := 4) at_88 rfl rfl ?_
      refine Wk.icmp_ltY (pc' := 100) at_89 (by decide) (by decide) ?_
      refine Wk.iconst (pc' := 101) (v := 1) at_100 rfl rfl ?_
      refine Wk.goto (pc' := 105) at_101 (by decide) ?_
      exact J105 true (by simp [own_all, own_bi1 c58_23])
  · skip
    show Wk _ h2 4 24 J3 49 #[.val (.int u1), .val (.int u2), .val (.int u3), .val (.int (2 : Int32)), .val (.int x0), .val (.int x1), .val (.int x2), .val (.int x3), .val (.ref r6), .unset] []
    refine Wk.iloadN (pc' := 50) at_49 rfl rfl ?_
    refine Wk.if_leN (pc' := 53) at_50 rfl (by decide) ?_
    refine Wk.iload (pc' := 55) at_53 rfl rfl ?_
    refine Wk.callS (a0 := a0) (pc' := 58) (k' := 4) (n' := 24) (W := 0) (b := b_tch) (argsL := [(.int x0)]) (rest := []) (rm_tch hw x0 h2 J3 ) (w52 hw) (w53 hw) (w4 hw) (w54 hw) (by decide) (Nat.le_refl _) id (Nat.le_of_ble_eq_true rfl) (Nat.le_of_ble_eq_true rfl) rfl rfl (Nat.le_of_ble_eq_true rfl) (Nat.le_of_ble_eq_true rfl) rfl pd14 rfl rfl rfl (Nat.le_of_ble_eq_true rfl) at_55 rfl fun v24 h25 J26 hs27 hQ28 => ?_
    obtain ⟨rfl, rfl, rfl⟩ := hQ28
    show Wk _ h2 4 24 J3 58 #[.val (.int u1), .val (.int u2), .val (.int u3), .val (.int (2 : Int32)), .val (.int x0), .val (.int x1), .val (.int x2), .val (.int x3), .val (.ref r6), .unset] [(.int (own_bi (own_t x0)))]
    by_cases c58_29 : (own_bi (own_t x0)) = (0 : Int32)
    · refine Wk.if_eqY (pc' := 104) at_58 (by decide) c58_29 ?_
      refine Wk.iconst (pc' := 105) (v := 0) at_104 rfl rfl ?_
      exact J105 false (by simp [own_all, own_bi0 c58_29])
    · refine Wk.if_eqN (pc' := 61) at_58 rfl c58_29 ?_
      refine Wk.iloadN (pc' := 62) at_61 rfl rfl ?_
      refine Wk.iconst (pc' := 63) (v := 2) at_62 rfl rfl ?_
      refine Wk.icmp_ltN (pc' := 66) at_63 rfl (by decide) ?_
      refine Wk.iload (pc' := 68) at_66 rfl rfl ?_
      refine Wk.callS (a0 := a0) (pc' := 71) (k' := 4) (n' := 24) (W := 0) (b := b_tch) (argsL := [(.int x1)]) (rest := []) (rm_tch hw x1 h2 J3 ) (w52 hw) (w53 hw) (w4 hw) (w54 hw) (by decide) (Nat.le_refl _) id (Nat.le_of_ble_eq_true rfl) (Nat.le_of_ble_eq_true rfl) rfl rfl (Nat.le_of_ble_eq_true rfl) (Nat.le_of_ble_eq_true rfl) rfl pd14 rfl rfl rfl (Nat.le_of_ble_eq_true rfl) at_68 rfl fun v30 h31 J32 hs33 hQ34 => ?_
      obtain ⟨rfl, rfl, rfl⟩ := hQ34
      show Wk _ h2 4 24 J3 71 #[.val (.int u1), .val (.int u2), .val (.int u3), .val (.int (2 : Int32)), .val (.int x0), .val (.int x1), .val (.int x2), .val (.int x3), .val (.ref r6), .unset] [(.int (own_bi (own_t x1)))]
      by_cases c71_35 : (own_bi (own_t x1)) = (0 : Int32)
      · refine Wk.if_eqY (pc' := 104) at_71 (by decide) c71_35 ?_
        refine Wk.iconst (pc' := 105) (v := 0) at_104 rfl rfl ?_
        exact J105 false (by simp [own_all, own_bi1 c58_29, own_bi0 c71_35])
      · refine Wk.if_eqN (pc' := 74) at_71 rfl c71_35 ?_
        refine Wk.iloadN (pc' := 75) at_74 rfl rfl ?_
        refine Wk.iconst (pc' := 76) (v := 3) at_75 rfl rfl ?_
        refine Wk.icmp_ltY (pc' := 87) at_76 (by decide) (by decide) ?_
        refine Wk.iloadN (pc' := 88) at_87 rfl rfl ?_
        refine Wk.iconst (pc' := 89) (v := 4) at_88 rfl rfl ?_
        refine Wk.icmp_ltY (pc' := 100) at_89 (by decide) (by decide) ?_
        refine Wk.iconst (pc' := 101) (v := 1) at_100 rfl rfl ?_
        refine Wk.goto (pc' := 105) at_101 (by decide) ?_
        exact J105 true (by simp [own_all, own_bi1 c58_29, own_bi1 c71_35])
  · skip
    show Wk _ h2 4 24 J3 49 #[.val (.int u1), .val (.int u2), .val (.int u3), .val (.int (3 : Int32)), .val (.int x0), .val (.int x1), .val (.int x2), .val (.int x3), .val (.ref r6), .unset] []
    refine Wk.iloadN (pc' := 50) at_49 rfl rfl ?_
    refine Wk.if_leN (pc' := 53) at_50 rfl (by decide) ?_
    refine Wk.iload (pc' := 55) at_53 rfl rfl ?_
    refine Wk.callS (a0 := a0) (pc' := 58) (k' := 4) (n' := 24) (W := 0) (b := b_tch) (argsL := [(.int x0)]) (rest := []) (rm_tch hw x0 h2 J3 ) (w52 hw) (w53 hw) (w4 hw) (w54 hw) (by decide) (Nat.le_refl _) id (Nat.le_of_ble_eq_true rfl) (Nat.le_of_ble_eq_true rfl) rfl rfl (Nat.le_of_ble_eq_true rfl) (Nat.le_of_ble_eq_true rfl) rfl pd14 rfl rfl rfl (Nat.le_of_ble_eq_true rfl) at_55 rfl fun v36 h37 J38 hs39 hQ40 => ?_
    obtain ⟨rfl, rfl, rfl⟩ := hQ40
    show Wk _ h2 4 24 J3 58 #[.val (.int u1), .val (.int u2), .val (.int u3), .val (.int (3 : Int32)), .val (.int x0), .val (.int x1), .val (.int x2), .val (.int x3), .val (.ref r6), .unset] [(.int (own_bi (own_t x0)))]
    by_cases c58_41 : (own_bi (own_t x0)) = (0 : Int32)
    · refine Wk.if_eqY (pc' := 104) at_58 (by decide) c58_41 ?_
      refine Wk.iconst (pc' := 105) (v := 0) at_104 rfl rfl ?_
      exact J105 false (by simp [own_all, own_bi0 c58_41])
    · refine Wk.if_eqN (pc' := 61) at_58 rfl c58_41 ?_
      refine Wk.iloadN (pc' := 62) at_61 rfl rfl ?_
      refine Wk.iconst (pc' := 63) (v := 2) at_62 rfl rfl ?_
      refine Wk.icmp_ltN (pc' := 66) at_63 rfl (by decide) ?_
      refine Wk.iload (pc' := 68) at_66 rfl rfl ?_
      refine Wk.callS (a0 := a0) (pc' := 71) (k' := 4) (n' := 24) (W := 0) (b := b_tch) (argsL := [(.int x1)]) (rest := []) (rm_tch hw x1 h2 J3 ) (w52 hw) (w53 hw) (w4 hw) (w54 hw) (by decide) (Nat.le_refl _) id (Nat.le_of_ble_eq_true rfl) (Nat.le_of_ble_eq_true rfl) rfl rfl (Nat.le_of_ble_eq_true rfl) (Nat.le_of_ble_eq_true rfl) rfl pd14 rfl rfl rfl (Nat.le_of_ble_eq_true rfl) at_68 rfl fun v42 h43 J44 hs45 hQ46 => ?_
      obtain ⟨rfl, rfl, rfl⟩ := hQ46
      show Wk _ h2 4 24 J3 71 #[.val (.int u1), .val (.int u2), .val (.int u3), .val (.int (3 : Int32)), .val (.int x0), .val (.int x1), .val (.int x2), .val (.int x3), .val (.ref r6), .unset] [(.int (own_bi (own_t x1)))]
      by_cases c71_47 : (own_bi (own_t x1)) = (0 : Int32)
      · refine Wk.if_eqY (pc' := 104) at_71 (by decide) c71_47 ?_
        refine Wk.iconst (pc' := 105) (v := 0) at_104 rfl rfl ?_
        exact J105 false (by simp [own_all, own_bi1 c58_41, own_bi0 c71_47])
      · refine Wk.if_eqN (pc' := 74) at_71 rfl c71_47 ?_
        refine Wk.iloadN (pc' := 75) at_74 rfl rfl ?_
        refine Wk.iconst (pc' := 76) (v := 3) at_75 rfl rfl ?_
        refine Wk.icmp_ltN (pc' := 79) at_76 rfl (by decide) ?_
        refine Wk.iload (pc' := 81) at_79 rfl rfl ?_
        refine Wk.callS (a0 := a0) (pc' := 84) (k' := 4) (n' := 24) (W := 0) (b := b_tch) (argsL := [(.int x2)]) (rest := []) (rm_tch hw x2 h2 J3 ) (w52 hw) (w53 hw) (w4 hw) (w54 hw) (by decide) (Nat.le_refl _) id (Nat.le_of_ble_eq_true rfl) (Nat.le_of_ble_eq_true rfl) rfl rfl (Nat.le_of_ble_eq_true rfl) (Nat.le_of_ble_eq_true rfl) rfl pd14 rfl rfl rfl (Nat.le_of_ble_eq_true rfl) at_81 rfl fun v48 h49 J50 hs51 hQ52 => ?_
        obtain ⟨rfl, rfl, rfl⟩ := hQ52
        show Wk _ h2 4 24 J3 84 #[.val (.int u1), .val (.int u2), .val (.int u3), .val (.int (3 : Int32)), .val (.int x0), .val (.int x1), .val (.int x2), .val (.int x3), .val (.ref r6), .unset] [(.int (own_bi (own_t x2)))]
        by_cases c84_53 : (own_bi (own_t x2)) = (0 : Int32)
        · refine Wk.if_eqY (pc' := 104) at_84 (by decide) c84_53 ?_
          refine Wk.iconst (pc' := 105) (v := 0) at_104 rfl rfl ?_
          exact J105 false (by simp [own_all, own_bi1 c58_41, own_bi1 c71_47, own_bi0 c84_53])
        · refine Wk.if_eqN (pc' := 87) at_84 rfl c84_53 ?_
          refine Wk.iloadN (pc' := 88) at_87 rfl rfl ?_
          refine Wk.iconst (pc' := 89) (v := 4) at_88 rfl rfl ?_
          refine Wk.icmp_ltY (pc' := 100) at_89 (by decide) (by decide) ?_
          refine Wk.iconst (pc' := 101) (v := 1) at_100 rfl rfl ?_
          refine Wk.goto (pc' := 105) at_101 (by decide) ?_
          exact J105 true (by simp [own_all, own_bi1 c58_41, own_bi1 c71_47, own_bi1 c84_53])
  · skip
    show Wk _ h2 4 24 J3 49 #[.val (.int u1), .val (.int u2), .val (.int u3), .val (.int (4 : Int32)), .val (.int x0), .val (.int x1), .val (.int x2), .val (.int x3), .val (.ref r6), .unset] []
    refine Wk.iloadN (pc' := 50) at_49 rfl rfl ?_
    refine Wk.if_leN (pc' := 53) at_50 rfl (by decide) ?_
    refine Wk.iload (pc' := 55) at_53 rfl rfl ?_
    refine Wk.callS (a0 := a0) (pc' := 58) (k' := 4) (n' := 24) (W := 0) (b := b_tch) (argsL := [(.int x0)]) (rest := []) (rm_tch hw x0 h2 J3 ) (w52 hw) (w53 hw) (w4 hw) (w54 hw) (by decide) (Nat.le_refl _) id (Nat.le_of_ble_eq_true rfl) (Nat.le_of_ble_eq_true rfl) rfl rfl (Nat.le_of_ble_eq_true rfl) (Nat.le_of_ble_eq_true rfl) rfl pd14 rfl rfl rfl (Nat.le_of_ble_eq_true rfl) at_55 rfl fun v54 h55 J56 hs57 hQ58 => ?_
    obtain ⟨rfl, rfl, rfl⟩ := hQ58
    show Wk _ h2 4 24 J3 58 #[.val (.int u1), .val (.int u2), .val (.int u3), .val (.int (4 : Int32)), .val (.int x0), .val (.int x1), .val (.int x2), .val (.int x3), .val (.ref r6), .unset] [(.int (own_bi (own_t x0)))]
    by_cases c58_59 : (own_bi (own_t x0)) = (0 : Int32)
    · refine Wk.if_eqY (pc' := 104) at_58 (by decide) c58_59 ?_
      refine Wk.iconst (pc' := 105) (v := 0) at_104 rfl rfl ?_
      exact J105 false (by simp [own_all, own_bi0 c58_59])
    · refine Wk.if_eqN (pc' := 61) at_58 rfl c58_59 ?_
      refine Wk.iloadN (pc' := 62) at_61 rfl rfl ?_
      refine Wk.iconst (pc' := 63) (v := 2) at_62 rfl rfl ?_
      refine Wk.icmp_ltN (pc' := 66) at_63 rfl (by decide) ?_
      refine Wk.iload (pc' := 68) at_66 rfl rfl ?_
      refine Wk.callS (a0 := a0) (pc' := 71) (k' := 4) (n' := 24) (W := 0) (b := b_tch) (argsL := [(.int x1)]) (rest := []) (rm_tch hw x1 h2 J3 ) (w52 hw) (w53 hw) (w4 hw) (w54 hw) (by decide) (Nat.le_refl _) id (Nat.le_of_ble_eq_true rfl) (Nat.le_of_ble_eq_true rfl) rfl rfl (Nat.le_of_ble_eq_true rfl) (Nat.le_of_ble_eq_true rfl) rfl pd14 rfl rfl rfl (Nat.le_of_ble_eq_true rfl) at_68 rfl fun v60 h61 J62 hs63 hQ64 => ?_
      obtain ⟨rfl, rfl, rfl⟩ := hQ64
      show Wk _ h2 4 24 J3 71 #[.val (.int u1), .val (.int u2), .val (.int u3), .val (.int (4 : Int32)), .val (.int x0), .val (.int x1), .val (.int x2), .val (.int x3), .val (.ref r6), .unset] [(.int (own_bi (own_t x1)))]
      by_cases c71_65 : (own_bi (own_t x1)) = (0 : Int32)
      · refine Wk.if_eqY (pc' := 104) at_71 (by decide) c71_65 ?_
        refine Wk.iconst (pc' := 105) (v := 0) at_104 rfl rfl ?_
        exact J105 false (by simp [own_all, own_bi1 c58_59, own_bi0 c71_65])
      · refine Wk.if_eqN (pc' := 74) at_71 rfl c71_65 ?_
        refine Wk.iloadN (pc' := 75) at_74 rfl rfl ?_
        refine Wk.iconst (pc' := 76) (v := 3) at_75 rfl rfl ?_
        refine Wk.icmp_ltN (pc' := 79) at_76 rfl (by decide) ?_
        refine Wk.iload (pc' := 81) at_79 rfl rfl ?_
        refine Wk.callS (a0 := a0) (pc' := 84) (k' := 4) (n' := 24) (W := 0) (b := b_tch) (argsL := [(.int x2)]) (rest := []) (rm_tch hw x2 h2 J3 ) (w52 hw) (w53 hw) (w4 hw) (w54 hw) (by decide) (Nat.le_refl _) id (Nat.le_of_ble_eq_true rfl) (Nat.le_of_ble_eq_true rfl) rfl rfl (Nat.le_of_ble_eq_true rfl) (Nat.le_of_ble_eq_true rfl) rfl pd14 rfl rfl rfl (Nat.le_of_ble_eq_true rfl) at_81 rfl fun v66 h67 J68 hs69 hQ70 => ?_
        obtain ⟨rfl, rfl, rfl⟩ := hQ70
        show Wk _ h2 4 24 J3 84 #[.val (.int u1), .val (.int u2), .val (.int u3), .val (.int (4 : Int32)), .val (.int x0), .val (.int x1), .val (.int x2), .val (.int x3), .val (.ref r6), .unset] [(.int (own_bi (own_t x2)))]
        by_cases c84_71 : (own_bi (own_t x2)) = (0 : Int32)
        · refine Wk.if_eqY (pc' := 104) at_84 (by decide) c84_71 ?_
          refine Wk.iconst (pc' := 105) (v := 0) at_104 rfl rfl ?_
          exact J105 false (by simp [own_all, own_bi1 c58_59, own_bi1 c71_65, own_bi0 c84_71])
        · refine Wk.if_eqN (pc' := 87) at_84 rfl c84_71 ?_
          refine Wk.iloadN (pc' := 88) at_87 rfl rfl ?_
          refine Wk.iconst (pc' := 89) (v := 4) at_88 rfl rfl ?_
          refine Wk.icmp_ltN (pc' := 92) at_89 rfl (by decide) ?_
          refine Wk.iload (pc' := 94) at_92 rfl rfl ?_
          refine Wk.callS (a0 := a0) (pc' := 97) (k' := 4) (n' := 24) (W := 0) (b := b_tch) (argsL := [(.int x3)]) (rest := []) (rm_tch hw x3 h2 J3 ) (w52 hw) (w53 hw) (w4 hw) (w54 hw) (by decide) (Nat.le_refl _) id (Nat.le_of_ble_eq_true rfl) (Nat.le_of_ble_eq_true rfl) rfl rfl (Nat.le_of_ble_eq_true rfl) (Nat.le_of_ble_eq_true rfl) rfl pd14 rfl rfl rfl (Nat.le_of_ble_eq_true rfl) at_94 rfl fun v72 h73 J74 hs75 hQ76 => ?_
          obtain ⟨rfl, rfl, rfl⟩ := hQ76
          show Wk _ h2 4 24 J3 97 #[.val (.int u1), .val (.int u2), .val (.int u3), .val (.int (4 : Int32)), .val (.int x0), .val (.int x1), .val (.int x2), .val (.int x3), .val (.ref r6), .unset] [(.int (own_bi (own_t x3)))]
          by_cases c97_77 : (own_bi (own_t x3)) = (0 : Int32)
          · refine Wk.if_eqY (pc' := 104) at_97 (by decide) c97_77 ?_
            refine Wk.iconst (pc' := 105) (v := 0) at_104 rfl rfl ?_
            exact J105 false (by simp [own_all, own_bi1 c58_59, own_bi1 c71_65, own_bi1 c84_71, own_bi0 c97_77])
          · refine Wk.if_eqN (pc' := 100) at_97 rfl c97_77 ?_
            refine Wk.iconst (pc' := 101) (v := 1) at_100 rfl rfl ?_
            refine Wk.goto (pc' := 105) at_101 (by decide) ?_
            exact J105 true (by simp [own_all, own_bi1 c58_59, own_bi1 c71_65, own_bi1 c84_71, own_bi1 c97_77])
set_option maxRecDepth 65536 in
set_option maxHeartbeats 40000000 in
theorem comes_1 {Post : Tables → Env → Array Value → State → Outcome → State → Prop} (hpost : ∀ tb e args s v u, (limb_1_1.after args s (.returned v) u = true ∧ limb_1_2.after args s (.returned v) u = true ∧ True) → ReturnedEndW s (.returned v) u (Jvm.fieldLocs frame_1_writes args s ++ Jvm.arrayLocs frame_1_arrays args s ++ Jvm.staticLocs frame_1_statics s) 24 1152 → Post tb e args s (.returned v) u) :
    ArmFor flags0 classFile x code maxLocals ret World_1 tables_1 room_1 Calls_1 rest_1 Pre_1 Post := by
  intro l hfl _ _ p e ha hc hk s m args below hf hA hF happ hP
  obtain ⟨hcalls, hrest, hpre⟩ := hP
  obtain ⟨-, -, -, hnamed, -, -, -, hat⟩ := (Spec.applies_iff hf).mp happ
  obtain ⟨hg, hn⟩ := and_e (Cond.before_iff.mp (show (Jvm.Cond.and given_1 narrow_1).before args s = true from hpre))
  obtain ⟨g1, g2⟩ := and_e hg
  obtain ⟨g3, g4⟩ := and_e g2
  obtain ⟨g5, g6⟩ := and_e g4
  obtain ⟨a_0, a_1, a_2, rfl⟩ : ∃ a_0 a_1 a_2 : Value, args = #[a_0, a_1, a_2] := by
    have hs : args.size = 3 := by simpa [Cond.value, given_1] using g1
    obtain ⟨L⟩ := args
    match L, hs with
    | [a_0, a_1, a_2], _ => exact ⟨a_0, a_1, a_2, rfl⟩
  have hw := fun d (hd : d ∈ tables_1) => atoms_spec (ws := Jvm.Cond.code x code maxLocals ret :: tables_1) hat d (List.mem_cons_of_mem _ hd)
  have hfit : Fit s := fun {y c} hc i hi => by
    obtain ⟨ha, rfl⟩ := Array.getElem?_eq_some_iff.mp hc
    have q := List.all_eq_true.mp ((Array.all_eq_true_iff_forall_mem.mp hF) _ (Array.getElem_mem ha)) i (List.mem_range.mpr hi)
    simpa [Array.getElem?_eq_getElem hi] using q
  obtain ⟨hsets, hown0⟩ := atoms_of _ (rest_1_c_eq ▸ (show rest_1_c.before _ s = true from hrest))
  obtain ⟨i0, ei0⟩ := is_v g3
  obtain rfl : a_0 = (.int i0) := Option.some.inj ei0
  obtain ⟨i1, ei1⟩ := is_v g5
  obtain rfl : a_1 = (.int i1) := Option.some.inj ei1
  obtain ⟨i2, ei2⟩ := is_v g6
  obtain rfl : a_2 = (.int i2) := Option.some.inj ei2
  obtain ⟨n_1, n_2⟩ := and_e hn
  obtain ⟨n_3, n_4⟩ := and_e n_2
  obtain ⟨n_5, n_6⟩ := and_e n_4
  obtain ⟨n_7, n_8⟩ := and_e n_6
  obtain ⟨n_9, n_10⟩ := and_e n_8
  obtain ⟨n_11, n_12⟩ := and_e n_10
  obtain ⟨n_13, n_14⟩ := and_e n_12
  obtain ⟨n_15, n_16⟩ := and_e n_14
  obtain ⟨n_17, n_18⟩ := and_e n_16
  obtain ⟨n_19, n_20⟩ := and_e n_18
  obtain ⟨n_21, n_22⟩ := and_e n_20
  obtain ⟨n_23, n_24⟩ := and_e n_22
  obtain ⟨n_25, n_26⟩ := and_e n_24
  obtain ⟨n_27, n_28⟩ := and_e n_26
  obtain ⟨n_29, n_30⟩ := and_e n_28
  obtain ⟨n_31, n_32⟩ := and_e n_30
  obtain ⟨n_33, n_34⟩ := and_e n_32
  obtain ⟨n_35, n_36⟩ := and_e n_34
  obtain ⟨n_37, n_38⟩ := and_e n_36
  obtain ⟨n_39, n_40⟩ := and_e n_38
  obtain ⟨n_41, n_42⟩ := and_e n_40
  obtain ⟨n_43, n_44⟩ := and_e n_42
  obtain ⟨n_45, n_46⟩ := and_e n_44
  obtain ⟨n_47, n_48⟩ := and_e n_46
  obtain ⟨n_49, n_50⟩ := and_e n_48
  obtain ⟨i_51, e_52⟩ := is_v (Cond.before_iff.mp (hsets _ (List.mem_of_getElem? (i := 1) rfl)))
  have S_53 : Sta s s.heap "java/lang/String" "COMPACT_STRINGS" "Z" (.int i_51) := Sta.start e_52 (Or.inl (hsets _ (List.mem_of_getElem? (i := 0) rfl)))
  have c_54 : ¬ (i_51 = (0 : Int32)) := gotF (Cond.eq_ints e_52 (Term.int_eval (0))) (not_v (Cond.before_iff.mp (hsets _ (List.mem_of_getElem? (i := 2) rfl))))
  obtain ⟨v_55, e_56, r_57⟩ := isR_v (Cond.before_iff.mp (hsets _ (List.mem_of_getElem? (i := 8) rfl)))
  have S_58 : Sta s s.heap "jdk/internal/util/Preconditions" "SIOOBE_FORMATTER" "Ljava/util/function/BiFunction;" v_55 := Sta.start e_56 (Or.inl (hsets _ (List.mem_of_getElem? (i := 7) rfl)))
  have S_59 : Sta s s.heap "java/lang/StringUTF16" "$assertionsDisabled" "Z" (.int (1 : Int32)) := Sta.start (own_eqI (Cond.before_iff.mp (hsets _ (List.mem_of_getElem? (i := 12) rfl)))) (Or.inl (hsets _ (List.mem_of_getElem? (i := 11) rfl)))
  have S_60 : Sta s s.heap "java/lang/StringUTF16" "HI_BYTE_SHIFT" "I" (.int (0 : Int32)) := Sta.start (own_eqI (Cond.before_iff.mp (hsets _ (List.mem_of_getElem? (i := 15) rfl)))) (Or.inl (hsets _ (List.mem_of_getElem? (i := 14) rfl)))
  have S_61 : Sta s s.heap "java/lang/StringUTF16" "LO_BYTE_SHIFT" "I" (.int (8 : Int32)) := Sta.start (own_eqI (Cond.before_iff.mp (hsets _ (List.mem_of_getElem? (i := 18) rfl)))) (Or.inl (hsets _ (List.mem_of_getElem? (i := 17) rfl)))
  obtain ⟨A_62, eA_62⟩ := arr_v n_1
  have S_63 : Sta s s.heap "com/example/gravamen/gravamen/HttpSyntax" "TOKEN" "[Z" (.ref A_62) := Sta.start eA_62 (Or.inr ⟨(w30 hw), (w56 hw)⟩)
  obtain ⟨c0, A0⟩ := Arr.start eA_62 n_1
  have hat0 : s.arrayAt? A_62 = some c0 := Arr.fin (Vm.Alike.refl _) A0
  have hsz : c0.slots.size = 128 := by
    obtain ⟨hq, e2⟩ := own_sz eA_62 hat0 (own_eqI n_3)
    have e3 : Int32.ofNat c0.slots.size = Int32.ofNat 128 := e2
    exact (own_eq hq (by decide)).mp e3
  obtain ⟨qt, TKV⟩ := own_arv0 (vs := own_tok) (dv := .int 0) hfit eA_62 n_1 (own_eqI n_3) (by decide) rfl (Nat.le_of_ble_eq_true rfl) ⟨own_elx (by decide) (own_or (Cond.all_elim eA_62 hat0 n_5 0 (by rw [hsz]; decide)) (own_le.trans (by decide))), own_elx (by decide) (own_or (Cond.all_elim eA_62 hat0 n_5 1 (by rw [hsz]; decide)) (own_le.trans (by decide))), own_elx (by decide) (own_or (Cond.all_elim eA_62 hat0 n_5 2 (by rw [hsz]; decide)) (own_le.trans (by decide))), own_elx (by decide) (own_or (Cond.all_elim eA_62 hat0 n_5 3 (by rw [hsz]; decide)) (own_le.trans (by decide))), own_elx (by decide) (own_or (Cond.all_elim eA_62 hat0 n_5 4 (by rw [hsz]; decide)) (own_le.trans (by decide))), own_elx (by decide) (own_or (Cond.all_elim eA_62 hat0 n_5 5 (by rw [hsz]; decide)) (own_le.trans (by decide))), own_elx (by decide) (own_or (Cond.all_elim eA_62 hat0 n_5 6 (by rw [hsz]; decide)) (own_le.trans (by decide))), own_elx (by decide) (own_or (Cond.all_elim eA_62 hat0 n_5 7 (by rw [hsz]; decide)) (own_le.trans (by decide))), own_elx (by decide) (own_or (Cond.all_elim eA_62 hat0 n_5 8 (by rw [hsz]; decide)) (own_le.trans (by decide))), own_elx (by decide) (own_or (Cond.all_elim eA_62 hat0 n_5 9 (by rw [hsz]; decide)) (own_le.trans (by decide))), own_elx (by decide) (own_or (Cond.all_elim eA_62 hat0 n_5 10 (by rw [hsz]; decide)) (own_le.trans (by decide))), own_elx (by decide) (own_or (Cond.all_elim eA_62 hat0 n_5 11 (by rw [hsz]; decide)) (own_le.trans (by decide))), own_elx (by decide) (own_or (Cond.all_elim eA_62 hat0 n_5 12 (by rw [hsz]; decide)) (own_le.trans (by decide))), own_elx (by decide) (own_or (Cond.all_elim eA_62 hat0 n_5 13 (by rw [hsz]; decide)) (own_le.trans (by decide))), own_elx (by decide) (own_or (Cond.all_elim eA_62 hat0 n_5 14 (by rw [hsz]; decide)) (own_le.trans (by decide))), own_elx (by decide) (own_or (Cond.all_elim eA_62 hat0 n_5 15 (by rw [hsz]; decide)) (own_le.trans (by decide))), own_elx (by decide) (own_or (Cond.all_elim eA_62 hat0 n_5 16 (by rw [hsz]; decide)) (own_le.trans (by decide))), own_elx (by decide) (own_or (Cond.all_elim eA_62 hat0 n_5 17 (by rw [hsz]; decide)) (own_le.trans (by decide))), own_elx (by decide) (own_or (Cond.all_elim eA_62 hat0 n_5 18 (by rw [hsz]; decide)) (own_le.trans (by decide))), own_elx (by decide) (own_or (Cond.all_elim eA_62 hat0 n_5 19 (by rw [hsz]; decide)) (own_le.trans (by decide))), own_elx (by decide) (own_or (Cond.all_elim eA_62 hat0 n_5 20 (by rw [hsz]; decide)) (own_le.trans (by decide))), own_elx (by decide) (own_or (Cond.all_elim eA_62 hat0 n_5 21 (by rw [hsz]; decide)) (own_le.trans (by decide))), own_elx (by decide) (own_or (Cond.all_elim eA_62 hat0 n_5 22 (by rw [hsz]; decide)) (own_le.trans (by decide))), own_elx (by decide) (own_or (Cond.all_elim eA_62 hat0 n_5 23 (by rw [hsz]; decide)) (own_le.trans (by decide))), own_elx (by decide) (own_or (Cond.all_elim eA_62 hat0 n_5 24 (by rw [hsz]; decide)) (own_le.trans (by decide))), own_elx (by decide) (own_or (Cond.all_elim eA_62 hat0 n_5 25 (by rw [hsz]; decide)) (own_le.trans (by decide))), own_elx (by decide) (own_or (Cond.all_elim eA_62 hat0 n_5 26 (by rw [hsz]; decide)) (own_le.trans (by decide))), own_elx (by decide) (own_or (Cond.all_elim eA_62 hat0 n_5 27 (by rw [hsz]; decide)) (own_le.trans (by decide))), own_elx (by decide) (own_or (Cond.all_elim eA_62 hat0 n_5 28 (by rw [hsz]; decide)) (own_le.trans (by decide))), own_elx (by decide) (own_or (Cond.all_elim eA_62 hat0 n_5 29 (by rw [hsz]; decide)) (own_le.trans (by decide))), own_elx (by decide) (own_or (Cond.all_elim eA_62 hat0 n_5 30 (by rw [hsz]; decide)) (own_le.trans (by decide))), own_elx (by decide) (own_or (Cond.all_elim eA_62 hat0 n_5 31 (by rw [hsz]; decide)) (own_le.trans (by decide))), own_elx (by decide) (own_or (Cond.all_elim eA_62 hat0 n_5 32 (by rw [hsz]; decide)) (own_le.trans (by decide))), own_eqI n_7, own_eqI n_9, own_elx (by decide) (own_or (own_or (Cond.all_elim eA_62 hat0 n_11 35 (by rw [hsz]; decide)) (own_ltx.trans (by decide))) (own_le.trans (by decide))), own_elx (by decide) (own_or (own_or (Cond.all_elim eA_62 hat0 n_11 36 (by rw [hsz]; decide)) (own_ltx.trans (by decide))) (own_le.trans (by decide))), own_elx (by decide) (own_or (own_or (Cond.all_elim eA_62 hat0 n_11 37 (by rw [hsz]; decide)) (own_ltx.trans (by decide))) (own_le.trans (by decide))), own_elx (by decide) (own_or (own_or (Cond.all_elim eA_62 hat0 n_11 38 (by rw [hsz]; decide)) (own_ltx.trans (by decide))) (own_le.trans (by decide))), own_elx (by decide) (own_or (own_or (Cond.all_elim eA_62 hat0 n_11 39 (by rw [hsz]; decide)) (own_ltx.trans (by decide))) (own_le.trans (by decide))), own_eqI n_13, own_eqI n_15, own_eqI n_17, own_eqI n_19, own_eqI n_21, own_eqI n_23, own_eqI n_25, own_eqI n_27, own_elx (by decide) (own_or (own_or (Cond.all_elim eA_62 hat0 n_29 48 (by rw [hsz]; decide)) (own_ltx.trans (by decide))) (own_le.trans (by decide))), own_elx (by decide) (own_or (own_or (Cond.all_elim eA_62 hat0 n_29 49 (by rw [hsz]; decide)) (own_ltx.trans (by decide))) (own_le.trans (by decide))), own_elx (by decide) (own_or (own_or (Cond.all_elim eA_62 hat0 n_29 50 (by rw [hsz]; decide)) (own_ltx.trans (by decide))) (own_le.trans (by decide))), own_elx (by decide) (own_or (own_or (Cond.all_elim eA_62 hat0 n_29 51 (by rw [hsz]; decide)) (own_ltx.trans (by decide))) (own_le.trans (by decide))), own_elx (by decide) (own_or (own_or (Cond.all_elim eA_62 hat0 n_29 52 (by rw [hsz]; decide)) (own_ltx.trans (by decide))) (own_le.trans (by decide))), own_elx (by decide) (own_or (own_or (Cond.all_elim eA_62 hat0 n_29 53 (by rw [hsz]; decide)) (own_ltx.trans (by decide))) (own_le.trans (by decide))), own_elx (by decide) (own_or (own_or (Cond.all_elim eA_62 hat0 n_29 54 (by rw [hsz]; decide)) (own_ltx.trans (by decide))) (own_le.trans (by decide))), own_elx (by decide) (own_or (own_or (Cond.all_elim eA_62 hat0 n_29 55 (by rw [hsz]; decide)) (own_ltx.trans (by decide))) (own_le.trans (by decide))), own_elx (by decide) (own_or (own_or (Cond.all_elim eA_62 hat0 n_29 56 (by rw [hsz]; decide)) (own_ltx.trans (by decide))) (own_le.trans (by decide))), own_elx (by decide) (own_or (own_or (Cond.all_elim eA_62 hat0 n_29 57 (by rw [hsz]; decide)) (own_ltx.trans (by decide))) (own_le.trans (by decide))), own_elx (by decide) (own_or (own_or (Cond.all_elim eA_62 hat0 n_31 58 (by rw [hsz]; decide)) (own_ltx.trans (by decide))) (own_le.trans (by decide))), own_elx (by decide) (own_or (own_or (Cond.all_elim eA_62 hat0 n_31 59 (by rw [hsz]; decide)) (own_ltx.trans (by decide))) (own_le.trans (by decide))), own_elx (by decide) (own_or (own_or (Cond.all_elim eA_62 hat0 n_31 60 (by rw [hsz]; decide)) (own_ltx.trans (by decide))) (own_le.trans (by decide))), own_elx (by decide) (own_or (own_or (Cond.all_elim eA_62 hat0 n_31 61 (by rw [hsz]; decide)) (own_ltx.trans (by decide))) (own_le.trans (by decide))), own_elx (by decide) (own_or (own_or (Cond.all_elim eA_62 hat0 n_31 62 (by rw [hsz]; decide)) (own_ltx.trans (by decide))) (own_le.trans (by decide))), own_elx (by decide) (own_or (own_or (Cond.all_elim eA_62 hat0 n_31 63 (by rw [hsz]; decide)) (own_ltx.trans (by decide))) (own_le.trans (by decide))), own_elx (by decide) (own_or (own_or (Cond.all_elim eA_62 hat0 n_31 64 (by rw [hsz]; decide)) (own_ltx.trans (by decide))) (own_le.trans (by decide))), own_elx (by decide) (own_or (own_or (Cond.all_elim eA_62 hat0 n_33 65 (by rw [hsz]; decide)) (own_ltx.trans (by decide))) (own_le.trans (by decide))), own_elx (by decide) (own_or (own_or (Cond.all_elim eA_62 hat0 n_33 66 (by rw [hsz]; decide)) (own_ltx.trans (by decide))) (own_le.trans (by decide))), own_elx (by decide) (own_or (own_or (Cond.all_elim eA_62 hat0 n_33 67 (by rw [hsz]; decide)) (own_ltx.trans (by decide))) (own_le.trans (by decide))), own_elx (by decide) (own_or (own_or (Cond.all_elim eA_62 hat0 n_33 68 (by rw [hsz]; decide)) (own_ltx.trans (by decide))) (own_le.trans (by decide))), own_elx (by decide) (own_or (own_or (Cond.all_elim eA_62 hat0 n_33 69 (by rw [hsz]; decide)) (own_ltx.trans (by decide))) (own_le.trans (by decide))), own_elx (by decide) (own_or (own_or (Cond.all_elim eA_62 hat0 n_33 70 (by rw [hsz]; decide)) (own_ltx.trans (by decide))) (own_le.trans (by decide))), own_elx (by decide) (own_or (own_or (Cond.all_elim eA_62 hat0 n_33 71 (by rw [hsz]; decide)) (own_ltx.trans (by decide))) (own_le.trans (by decide))), own_elx (by decide) (own_or (own_or (Cond.all_elim eA_62 hat0 n_33 72 (by rw [hsz]; decide)) (own_ltx.trans (by decide))) (own_le.trans (by decide))), own_elx (by decide) (own_or (own_or (Cond.all_elim eA_62 hat0 n_33 73 (by rw [hsz]; decide)) (own_ltx.trans (by decide))) (own_le.trans (by decide))), own_elx (by decide) (own_or (own_or (Cond.all_elim eA_62 hat0 n_33 74 (by rw [hsz]; decide)) (own_ltx.trans (by decide))) (own_le.trans (by decide))), own_elx (by decide) (own_or (own_or (Cond.all_elim eA_62 hat0 n_33 75 (by rw [hsz]; decide)) (own_ltx.trans (by decide))) (own_le.trans (by decide))), own_elx (by decide) (own_or (own_or (Cond.all_elim eA_62 hat0 n_33 76 (by rw [hsz]; decide)) (own_ltx.trans (by decide))) (own_le.trans (by decide))), own_elx (by decide) (own_or (own_or (Cond.all_elim eA_62 hat0 n_33 77 (by rw [hsz]; decide)) (own_ltx.trans (by decide))) (own_le.trans (by decide))), own_elx (by decide) (own_or (own_or (Cond.all_elim eA_62 hat0 n_33 78 (by rw [hsz]; decide)) (own_ltx.trans (by decide))) (own_le.trans (by decide))), own_elx (by decide) (own_or (own_or (Cond.all_elim eA_62 hat0 n_33 79 (by rw [hsz]; decide)) (own_ltx.trans (by decide))) (own_le.trans (by decide))), own_elx (by decide) (own_or (own_or (Cond.all_elim eA_62 hat0 n_33 80 (by rw [hsz]; decide)) (own_ltx.trans (by decide))) (own_le.trans (by decide))), own_elx (by decide) (own_or (own_or (Cond.all_elim eA_62 hat0 n_33 81 (by rw [hsz]; decide)) (own_ltx.trans (by decide))) (own_le.trans (by decide))), own_elx (by decide) (own_or (own_or (Cond.all_elim eA_62 hat0 n_33 82 (by rw [hsz]; decide)) (own_ltx.trans (by decide))) (own_le.trans (by decide))), own_elx (by decide) (own_or (own_or (Cond.all_elim eA_62 hat0 n_33 83 (by rw [hsz]; decide)) (own_ltx.trans (by decide))) (own_le.trans (by decide))), own_elx (by decide) (own_or (own_or (Cond.all_elim eA_62 hat0 n_33 84 (by rw [hsz]; decide)) (own_ltx.trans (by decide))) (own_le.trans (by decide))), own_elx (by decide) (own_or (own_or (Cond.all_elim eA_62 hat0 n_33 85 (by rw [hsz]; decide)) (own_ltx.trans (by decide))) (own_le.trans (by decide))), own_elx (by decide) (own_or (own_or (Cond.all_elim eA_62 hat0 n_33 86 (by rw [hsz]; decide)) (own_ltx.trans (by decide))) (own_le.trans (by decide))), own_elx (by decide) (own_or (own_or (Cond.all_elim eA_62 hat0 n_33 87 (by rw [hsz]; decide)) (own_ltx.trans (by decide))) (own_le.trans (by decide))), own_elx (by decide) (own_or (own_or (Cond.all_elim eA_62 hat0 n_33 88 (by rw [hsz]; decide)) (own_ltx.trans (by decide))) (own_le.trans (by decide))), own_elx (by decide) (own_or (own_or (Cond.all_elim eA_62 hat0 n_33 89 (by rw [hsz]; decide)) (own_ltx.trans (by decide))) (own_le.trans (by decide))), own_elx (by decide) (own_or (own_or (Cond.all_elim eA_62 hat0 n_33 90 (by rw [hsz]; decide)) (own_ltx.trans (by decide))) (own_le.trans (by decide))), own_eqI n_35, own_eqI n_37, own_eqI n_39, own_elx (by decide) (own_or (own_or (Cond.all_elim eA_62 hat0 n_41 94 (by rw [hsz]; decide)) (own_ltx.trans (by decide))) (own_le.trans (by decide))), own_elx (by decide) (own_or (own_or (Cond.all_elim eA_62 hat0 n_41 95 (by rw [hsz]; decide)) (own_ltx.trans (by decide))) (own_le.trans (by decide))), own_elx (by decide) (own_or (own_or (Cond.all_elim eA_62 hat0 n_41 96 (by rw [hsz]; decide)) (own_ltx.trans (by decide))) (own_le.trans (by decide))), own_elx (by decide) (own_or (own_or (Cond.all_elim eA_62 hat0 n_41 97 (by rw [hsz]; decide)) (own_ltx.trans (by decide))) (own_le.trans (by decide))), own_elx (by decide) (own_or (own_or (Cond.all_elim eA_62 hat0 n_41 98 (by rw [hsz]; decide)) (own_ltx.trans (by decide))) (own_le.trans (by decide))), own_elx (by decide) (own_or (own_or (Cond.all_elim eA_62 hat0 n_41 99 (by rw [hsz]; decide)) (own_ltx.trans (by decide))) (own_le.trans (by decide))), own_elx (by decide) (own_or (own_or (Cond.all_elim eA_62 hat0 n_41 100 (by rw [hsz]; decide)) (own_ltx.trans (by decide))) (own_le.trans (by decide))), own_elx (by decide) (own_or (own_or (Cond.all_elim eA_62 hat0 n_41 101 (by rw [hsz]; decide)) (own_ltx.trans (by decide))) (own_le.trans (by decide))), own_elx (by decide) (own_or (own_or (Cond.all_elim eA_62 hat0 n_41 102 (by rw [hsz]; decide)) (own_ltx.trans (by decide))) (own_le.trans (by decide))), own_elx (by decide) (own_or (own_or (Cond.all_elim eA_62 hat0 n_41 103 (by rw [hsz]; decide)) (own_ltx.trans (by decide))) (own_le.trans (by decide))), own_elx (by decide) (own_or (own_or (Cond.all_elim eA_62 hat0 n_41 104 (by rw [hsz]; decide)) (own_ltx.trans (by decide))) (own_le.trans (by decide))), own_elx (by decide) (own_or (own_or (Cond.all_elim eA_62 hat0 n_41 105 (by rw [hsz]; decide)) (own_ltx.trans (by decide))) (own_le.trans (by decide))), own_elx (by decide) (own_or (own_or (Cond.all_elim eA_62 hat0 n_41 106 (by rw [hsz]; decide)) (own_ltx.trans (by decide))) (own_le.trans (by decide))), own_elx (by decide) (own_or (own_or (Cond.all_elim eA_62 hat0 n_41 107 (by rw [hsz]; decide)) (own_ltx.trans (by decide))) (own_le.trans (by decide))), own_elx (by decide) (own_or (own_or (Cond.all_elim eA_62 hat0 n_41 108 (by rw [hsz]; decide)) (own_ltx.trans (by decide))) (own_le.trans (by decide))), own_elx (by decide) (own_or (own_or (Cond.all_elim eA_62 hat0 n_41 109 (by rw [hsz]; decide)) (own_ltx.trans (by decide))) (own_le.trans (by decide))), own_elx (by decide) (own_or (own_or (Cond.all_elim eA_62 hat0 n_41 110 (by rw [hsz]; decide)) (own_ltx.trans (by decide))) (own_le.trans (by decide))), own_elx (by decide) (own_or (own_or (Cond.all_elim eA_62 hat0 n_41 111 (by rw [hsz]; decide)) (own_ltx.trans (by decide))) (own_le.trans (by decide))), own_elx (by decide) (own_or (own_or (Cond.all_elim eA_62 hat0 n_41 112 (by rw [hsz]; decide)) (own_ltx.trans (by decide))) (own_le.trans (by decide))), own_elx (by decide) (own_or (own_or (Cond.all_elim eA_62 hat0 n_41 113 (by rw [hsz]; decide)) (own_ltx.trans (by decide))) (own_le.trans (by decide))), own_elx (by decide) (own_or (own_or (Cond.all_elim eA_62 hat0 n_41 114 (by rw [hsz]; decide)) (own_ltx.trans (by decide))) (own_le.trans (by decide))), own_elx (by decide) (own_or (own_or (Cond.all_elim eA_62 hat0 n_41 115 (by rw [hsz]; decide)) (own_ltx.trans (by decide))) (own_le.trans (by decide))), own_elx (by decide) (own_or (own_or (Cond.all_elim eA_62 hat0 n_41 116 (by rw [hsz]; decide)) (own_ltx.trans (by decide))) (own_le.trans (by decide))), own_elx (by decide) (own_or (own_or (Cond.all_elim eA_62 hat0 n_41 117 (by rw [hsz]; decide)) (own_ltx.trans (by decide))) (own_le.trans (by decide))), own_elx (by decide) (own_or (own_or (Cond.all_elim eA_62 hat0 n_41 118 (by rw [hsz]; decide)) (own_ltx.trans (by decide))) (own_le.trans (by decide))), own_elx (by decide) (own_or (own_or (Cond.all_elim eA_62 hat0 n_41 119 (by rw [hsz]; decide)) (own_ltx.trans (by decide))) (own_le.trans (by decide))), own_elx (by decide) (own_or (own_or (Cond.all_elim eA_62 hat0 n_41 120 (by rw [hsz]; decide)) (own_ltx.trans (by decide))) (own_le.trans (by decide))), own_elx (by decide) (own_or (own_or (Cond.all_elim eA_62 hat0 n_41 121 (by rw [hsz]; decide)) (own_ltx.trans (by decide))) (own_le.trans (by decide))), own_elx (by decide) (own_or (own_or (Cond.all_elim eA_62 hat0 n_41 122 (by rw [hsz]; decide)) (own_ltx.trans (by decide))) (own_le.trans (by decide))), own_eqI n_43, own_eqI n_45, own_eqI n_47, own_eqI n_49, own_eqI n_50, trivial⟩
  have hH7 : Jvm.Lit.constHeld s "java/lang/String" 7 := hcalls.1 ("java/lang/String", 7) (by simp [consts_1])
  obtain ⟨n, o, h1, h2, h3, v, L, J, rfl, hQ, hV, N, hE, hq⟩ := rm_law (l := l) (Z := s) hw i0 i1 i2 A_62 qt v_55 i_51 s.heap  S_53 c_54 S_59 S_60 S_61 S_58 r_57 S_63 TKV hH7 (hsets _ (List.mem_of_getElem? (i := 2) rfl)) tables_1 p e ha hc hk s m _ below hf ((Spec.applies_iff_loose hf).mp happ).1 ⟨rfl, State.Warmed39.refl s, rfl, ⟨IB.start, fun u hu => by cases hu⟩, ⟨Nat.le_refl _, fun _ _ h => h⟩, Nat.le_refl _, Nat.le_refl _⟩ trivial
  obtain ⟨-, rfl⟩ := hQ
  refine ⟨n, _, h1, h2, h3, hpost _ _ _ _ _ _ ⟨Cond.after_iff.mpr rfl, Cond.after_iff.mpr (eq_i res_at (Term.int_eval (1)) rfl), trivial⟩ ⟨⟨_, rfl⟩, hq.2.1, hq.2.2.1, (hq.2.2.2.sift fun y hy => Or.inr (N y hy)).mono (Nat.le_of_ble_eq_true rfl) (Nat.le_of_ble_eq_true rfl)⟩⟩
theorem main_1_1 : Claimed_1_1 := comes_1 fun _ _ _ _ _ _ h hF => ⟨h.1, hF⟩
theorem main_1_2 : Claimed_1_2 := comes_1 fun _ _ _ _ _ _ h hF => ⟨h.2.1, hF⟩
end Jvm.Pilot.@@N@@
namespace Jvm.Pilot.@@N@@
open Jvm Jvm.ClassFile Sem Op Lib Jvm.Free Jvm.Stand Jvm.Pilot.@@N@@.Jvm.D
/-! MADE BY PROGRAM (witnessworld.py) out of the Statement's table words and the real class files: 22 classes; the members and pool entries that the words name. The judged class is class 1, her method 1. -/
namespace start1
open Jvm.ClassFile
def u (s : String) : CpInfo := .utf8 (stringToUtf16 s)
/-- a pool by its gaps: so many unusable entries, then the entry; so many at the end -/
def gap : Nat → List CpInfo → List CpInfo
  | 0, r => r
  | n + 1, r => .unusable :: gap n r
def poolList (es : List (Nat × CpInfo)) (last : Nat) : List CpInfo := es.foldr (fun e r => gap e.1 (e.2 :: r)) (gap last [])
def pool (es : List (Nat × CpInfo)) (last : Nat) : Array CpInfo := ⟨poolList es last⟩
def fileOf (pool : Array CpInfo) (this : Nat) (attrs : Array Attribute := #[]) (ms : Array MethodInfo := #[]) (fl : Nat := 33) (sup : Nat := 0) (ifs : Array Nat := #[]) (fds : Array FieldInfo := #[]) : ClassFile where
  minorVersion := 0
  majorVersion := 65
  constantPool := pool
  accessFlags := fl
  thisClass := this
  superClass := sup
  interfaces := ifs
  fields := fds
  methods := ms
  attributes := attrs
def plain (name : String) (sup : Option ClassId) : Class where
  name := name
  kind := .ordinary
  loader := none
  accessFlags := 33
  super := sup
  interfaces := #[]
  cf := none
  fields := #[]
  methods := #[]
  instanceTypes := #[]
  staticTypes := #[]
  resolved := #[]
  callSites := []
  init := .initialized
  statics := none
  mirror := none

def pool0 : Array CpInfo := pool [(5, u "<init>"), (0, u "()V"), (1, .class_ 10), (1, u "java/lang/Object")] 113

def k0c0 : Code := { maxStack := 0, maxLocals := 1, code := object_method_1_code, exceptionTable := #[], attributes := #[] }
def k0m0 : Method := { name := "<init>", desc := "()V", sig := { parameters := [], returnType := none }, accessFlags := 1, code := some k0c0 }
/-- java/lang/Object -/
def k0 : Class := { plain "java/lang/Object" none with
  accessFlags := 33
  interfaces := #[]
  cf := some (fileOf pool0 8 #[] #[{ accessFlags := 1, nameIndex := 5, descriptorIndex := 6, attributes := #[] }] 33 0 #[] #[])
  fields := #[]
  methods := #[k0m0]
  instanceTypes := #[]
  staticTypes := #[]
  resolved := Array.replicate 124 none
  statics := none }

def pool1 : Array CpInfo := pool [(2, .class_ 4), (1, u "java/lang/Object"), (0, u "<init>"), (0, u "()V"), (0, .integer 2147483647), (0, .integer 65535), (0, .methodref 10 11), (0, .class_ 12), (0, .nameAndType 13 14), (0, u "com/example/gravamen/gravamen/HttpSyntaxIsTokenPinLaw"), (0, u "make"), (0, u "(ICCCC)Ljava/lang/String;"), (0, .methodref 10 16), (0, .nameAndType 17 18), (0, u "tchar"), (0, u "(C)Z"), (0, .methodref 20 21), (0, .class_ 22), (0, .nameAndType 23 24), (0, u "com/example/gravamen/gravamen/HttpSyntax"), (0, u "isToken"), (0, u "(Ljava/lang/String;)Z"), (0, .class_ 26), (0, u "java/lang/String"), (0, .methodref 25 28), (0, .nameAndType 5 29), (0, u "([C)V"), (0, .methodref 25 31), (0, .nameAndType 32 33), (0, u "valueOf"), (0, u "(C)Ljava/lang/String;"), (2, u "law"), (0, u "(III)Z")] 3

def k1m0 : Method := { name := "<init>", desc := "()V", sig := { parameters := [], returnType := none }, accessFlags := 1, code := none }
def k1c1 : Code := { maxStack := 5, maxLocals := 10, code := code, exceptionTable := #[], attributes := #[] }
def k1m1 : Method := { name := "law", desc := "(III)Z", sig := { parameters := [.int, .int, .int], returnType := some .boolean }, accessFlags := 9, code := some k1c1 }
def k1c2 : Code := { maxStack := 6, maxLocals := 5, code := method_3_code, exceptionTable := #[], attributes := #[] }
def k1m2 : Method := { name := "make", desc := "(ICCCC)Ljava/lang/String;", sig := { parameters := [.int, .char, .char, .char, .char], returnType := some (.object "java/lang/String") }, accessFlags := 10, code := some k1c2 }
def k1c3 : Code := { maxStack := 2, maxLocals := 1, code := method_4_code, exceptionTable := #[], attributes := #[] }
def k1m3 : Method := { name := "tchar", desc := "(C)Z", sig := { parameters := [.char], returnType := some .boolean }, accessFlags := 10, code := some k1c3 }
/-- com/example/gravamen/gravamen/HttpSyntaxIsTokenPinLaw -/
def k1 : Class := { plain "com/example/gravamen/gravamen/HttpSyntaxIsTokenPinLaw" (some 0) with
  accessFlags := 49
  interfaces := #[]
  cf := some (fileOf pool1 10 #[] #[{ accessFlags := 1, nameIndex := 5, descriptorIndex := 6, attributes := #[] }, { accessFlags := 9, nameIndex := 36, descriptorIndex := 37, attributes := #[] }, { accessFlags := 10, nameIndex := 13, descriptorIndex := 14, attributes := #[] }, { accessFlags := 10, nameIndex := 17, descriptorIndex := 18, attributes := #[] }] 49 2 #[] #[])
  fields := #[]
  methods := #[k1m0, k1m1, k1m2, k1m3]
  instanceTypes := #[]
  staticTypes := #[]
  resolved := Array.replicate 41 none
  statics := none }

def pool2 : Array CpInfo := pool [(1, .class_ 2), (0, u "java/io/Serializable"), (0, .class_ 4), (0, u "java/lang/Object")] 2

/-- java/io/Serializable -/
def k2 : Class := { plain "java/io/Serializable" (some 0) with
  accessFlags := 1537
  interfaces := #[]
  cf := some (fileOf pool2 1 #[] #[] 1537 3 #[] #[])
  fields := #[]
  methods := #[]
  instanceTypes := #[]
  staticTypes := #[]
  resolved := Array.replicate 7 none
  statics := none }

def pool3 : Array CpInfo := pool [(1, .class_ 2), (0, u "java/lang/Comparable"), (0, .class_ 4), (0, u "java/lang/Object")] 7

/-- java/lang/Comparable -/
def k3 : Class := { plain "java/lang/Comparable" (some 0) with
  accessFlags := 1537
  interfaces := #[]
  cf := some (fileOf pool3 1 #[] #[] 1537 3 #[] #[])
  fields := #[]
  methods := #[]
  instanceTypes := #[]
  staticTypes := #[]
  resolved := Array.replicate 12 none
  statics := none }

def pool4 : Array CpInfo := pool [(2, .class_ 4), (1, u "java/lang/CharSequence"), (42, .class_ 48), (0, u "java/lang/CharSequence$1CodePointIterator"), (10, .class_ 60), (0, u "java/lang/CharSequence$1CharIterator"), (5, .class_ 67), (0, u "java/lang/Object")] 63

/-- java/lang/CharSequence -/
def k4 : Class := { plain "java/lang/CharSequence" (some 0) with
  accessFlags := 1537
  interfaces := #[]
  cf := some (fileOf pool4 2 #[.nestMembers #[47, 59]] #[] 1537 66 #[] #[])
  fields := #[]
  methods := #[]
  instanceTypes := #[]
  staticTypes := #[]
  resolved := Array.replicate 131 none
  statics := none }

def pool5 : Array CpInfo := pool [(1, .class_ 2), (0, u "java/lang/constant/Constable"), (0, .class_ 4), (0, u "java/lang/Object")] 6

/-- java/lang/constant/Constable -/
def k5 : Class := { plain "java/lang/constant/Constable" (some 0) with
  accessFlags := 1537
  interfaces := #[]
  cf := some (fileOf pool5 1 #[] #[] 1537 3 #[] #[])
  fields := #[]
  methods := #[]
  instanceTypes := #[]
  staticTypes := #[]
  resolved := Array.replicate 11 none
  statics := none }

def pool6 : Array CpInfo := pool [(1, .class_ 2), (0, u "java/lang/constant/ConstantDesc"), (0, .class_ 4), (0, u "java/lang/Object")] 32

/-- java/lang/constant/ConstantDesc -/
def k6 : Class := { plain "java/lang/constant/ConstantDesc" (some 0) with
  accessFlags := 1537
  interfaces := #[]
  cf := some (fileOf pool6 1 #[] #[] 1537 3 #[] #[])
  fields := #[]
  methods := #[]
  instanceTypes := #[]
  staticTypes := #[]
  resolved := Array.replicate 37 none
  statics := none }

def pool7 : Array CpInfo := pool [(1, .methodref 2 3), (0, .class_ 4), (0, .nameAndType 5 6), (0, u "java/lang/Object"), (0, u "<init>"), (0, u "()V"), (0, .string 8), (0, u ""), (0, .fieldref 10 11), (0, .class_ 12), (0, .nameAndType 13 14), (0, u "java/lang/String"), (0, u "value"), (0, u "[B"), (0, .fieldref 10 16), (0, .nameAndType 17 18), (0, u "coder"), (0, u "B"), (2, u "hash"), (0, u "I"), (2, u "hashIsZero"), (0, u "Z"), (0, .methodref 10 28), (0, .nameAndType 5 29), (0, u "([CIILjava/lang/Void;)V"), (8, .fieldref 10 39), (0, .nameAndType 40 26), (0, u "COMPACT_STRINGS"), (1, .class_ 44), (1, u "java/lang/StringUTF16"), (0, u "compress"), (1, .methodref 42 48), (0, .nameAndType 49 50), (0, u "coderFromArrayLen"), (0, u "([BI)B"), (2, u "toBytes"), (53, .class_ 109), (1, u "java/lang/StringLatin1"), (32, u "()Z"), (34, .methodref 42 178), (0, .nameAndType 45 179), (0, u "([CII)[B"), (29, .methodref 10 210), (0, .nameAndType 5 211), (0, u "([BB)V"), (122, u "()I"), (0, .methodref 10 336), (0, .nameAndType 17 337), (0, u "()B"), (25, u "([BI)C"), (5, u "(C)Z"), (21, u "(II)V"), (35, u "(I)C"), (64, .methodref 10 493), (0, .nameAndType 494 142), (0, u "isLatin1"), (0, .methodref 107 496), (0, .nameAndType 497 363), (0, u "charAt"), (0, .methodref 42 496), (2, u "checkIndex"), (5, u "length"), (67, .class_ 576), (0, u "java/lang/CharSequence"), (22, u "CASE_INSENSITIVE_ORDER"), (0, u "Ljava/util/Comparator;"), (91, u "isEmpty"), (89, u "valueOf"), (0, u "(C)Ljava/lang/String;"), (226, u "([C)V"), (4, .methodref 107 1016), (0, .nameAndType 1017 369), (0, u "canEncode"), (0, .methodref 107 1019), (0, .nameAndType 53 1020), (0, u "(C)[B"), (0, .methodref 42 1019), (31, .fieldref 1054 1055), (0, .class_ 1056), (0, .nameAndType 1057 1058), (0, u "jdk/internal/util/Preconditions"), (0, u "SIOOBE_FORMATTER"), (0, u "Ljava/util/function/BiFunction;"), (0, .methodref 1054 1060), (0, .nameAndType 501 1061), (0, u "(IILjava/util/function/BiFunction;)I"), (39, u "serialPersistentFields"), (0, u "[Ljava/io/ObjectStreamField;"), (0, .class_ 1104), (0, u "java/lang/String$CaseInsensitiveComparator"), (1, .class_ 1107), (0, u "java/io/Serializable"), (0, .class_ 1109), (0, u "java/lang/Comparable"), (0, .class_ 1111), (0, u "java/lang/constant/Constable"), (0, .class_ 1113), (0, u "java/lang/constant/ConstantDesc"), (2, u "serialVersionUID"), (0, u "J"), (3, u "REPL"), (0, u "C"), (2, u "LATIN1"), (1, u "UTF16")] 323

def k7m0 : Method := { name := "<init>", desc := "()V", sig := { parameters := [], returnType := none }, accessFlags := 1, code := none }
def k7c1 : Code := { maxStack := 5, maxLocals := 2, code := jdk_42_method_3_code, exceptionTable := #[], attributes := #[] }
def k7m1 : Method := { name := "<init>", desc := "([C)V", sig := { parameters := [(.array .char)], returnType := none }, accessFlags := 1, code := some k7c1 }
def k7c2 : Code := { maxStack := 2, maxLocals := 1, code := jdk_42_method_54_code, exceptionTable := #[], attributes := #[] }
def k7m2 : Method := { name := "length", desc := "()I", sig := { parameters := [], returnType := some .int }, accessFlags := 1, code := some k7c2 }
def k7c3 : Code := { maxStack := 1, maxLocals := 1, code := jdk_42_method_55_code, exceptionTable := #[], attributes := #[] }
def k7m3 : Method := { name := "isEmpty", desc := "()Z", sig := { parameters := [], returnType := some .boolean }, accessFlags := 1, code := some k7c3 }
def k7c4 : Code := { maxStack := 2, maxLocals := 2, code := jdk_42_method_56_code, exceptionTable := #[], attributes := #[] }
def k7m4 : Method := { name := "charAt", desc := "(I)C", sig := { parameters := [.int], returnType := some .char }, accessFlags := 1, code := some k7c4 }
def k7c5 : Code := { maxStack := 4, maxLocals := 1, code := jdk_42_method_139_code, exceptionTable := #[], attributes := #[] }
def k7m5 : Method := { name := "valueOf", desc := "(C)Ljava/lang/String;", sig := { parameters := [.char], returnType := some (.object "java/lang/String") }, accessFlags := 9, code := some k7c5 }
def k7c6 : Code := { maxStack := 4, maxLocals := 6, code := jdk_42_method_149_code, exceptionTable := #[], attributes := #[] }
def k7m6 : Method := { name := "<init>", desc := "([CIILjava/lang/Void;)V", sig := { parameters := [(.array .char), .int, .int, (.object "java/lang/Void")], returnType := none }, accessFlags := 2, code := some k7c6 }
def k7c7 : Code := { maxStack := 2, maxLocals := 3, code := jdk_42_method_151_code, exceptionTable := #[], attributes := #[] }
def k7m7 : Method := { name := "<init>", desc := "([BB)V", sig := { parameters := [(.array .byte), .byte], returnType := none }, accessFlags := 0, code := some k7c7 }
def k7c8 : Code := { maxStack := 1, maxLocals := 1, code := jdk_42_method_152_code, exceptionTable := #[], attributes := #[] }
def k7m8 : Method := { name := "coder", desc := "()B", sig := { parameters := [], returnType := some .byte }, accessFlags := 0, code := some k7c8 }
def k7c9 : Code := { maxStack := 1, maxLocals := 1, code := jdk_42_method_154_code, exceptionTable := #[], attributes := #[] }
def k7m9 : Method := { name := "isLatin1", desc := "()Z", sig := { parameters := [], returnType := some .boolean }, accessFlags := 0, code := some k7c9 }
def k7c10 : Code := { maxStack := 3, maxLocals := 2, code := jdk_42_method_155_code, exceptionTable := #[], attributes := #[] }
def k7m10 : Method := { name := "checkIndex", desc := "(II)V", sig := { parameters := [.int, .int], returnType := none }, accessFlags := 8, code := some k7c10 }
/-- java/lang/String -/
def k7 : Class := { plain "java/lang/String" (some 0) with
  accessFlags := 49
  interfaces := #[2, 3, 4, 5, 6]
  cf := some (fileOf pool7 10 #[.nestMembers #[1103]] #[{ accessFlags := 1, nameIndex := 5, descriptorIndex := 6, attributes := #[] }, { accessFlags := 1, nameIndex := 5, descriptorIndex := 1010, attributes := #[] }, { accessFlags := 1, nameIndex := 507, descriptorIndex := 334, attributes := #[] }, { accessFlags := 1, nameIndex := 692, descriptorIndex := 142, attributes := #[] }, { accessFlags := 1, nameIndex := 497, descriptorIndex := 427, attributes := #[] }, { accessFlags := 9, nameIndex := 782, descriptorIndex := 783, attributes := #[] }, { accessFlags := 2, nameIndex := 5, descriptorIndex := 29, attributes := #[] }, { accessFlags := 0, nameIndex := 5, descriptorIndex := 211, attributes := #[] }, { accessFlags := 0, nameIndex := 17, descriptorIndex := 337, attributes := #[] }, { accessFlags := 0, nameIndex := 494, descriptorIndex := 142, attributes := #[] }, { accessFlags := 8, nameIndex := 501, descriptorIndex := 391, attributes := #[] }] 49 2 #[1106, 1108, 575, 1110, 1112] #[{ accessFlags := 18, nameIndex := 13, descriptorIndex := 14, attributes := #[] }, { accessFlags := 18, nameIndex := 17, descriptorIndex := 18, attributes := #[] }, { accessFlags := 2, nameIndex := 21, descriptorIndex := 22, attributes := #[] }, { accessFlags := 2, nameIndex := 25, descriptorIndex := 26, attributes := #[] }, { accessFlags := 26, nameIndex := 1116, descriptorIndex := 1117, attributes := #[] }, { accessFlags := 24, nameIndex := 40, descriptorIndex := 26, attributes := #[] }, { accessFlags := 26, nameIndex := 1101, descriptorIndex := 1102, attributes := #[] }, { accessFlags := 26, nameIndex := 1121, descriptorIndex := 1122, attributes := #[] }, { accessFlags := 25, nameIndex := 599, descriptorIndex := 600, attributes := #[] }, { accessFlags := 24, nameIndex := 1125, descriptorIndex := 18, attributes := #[] }, { accessFlags := 24, nameIndex := 1127, descriptorIndex := 18, attributes := #[] }])
  fields := #[{ name := "value", type := (.array .byte), accessFlags := 18, slot := 0, constantValue := 0 }, { name := "coder", type := .byte, accessFlags := 18, slot := 1, constantValue := 0 }, { name := "hash", type := .int, accessFlags := 2, slot := 2, constantValue := 0 }, { name := "hashIsZero", type := .boolean, accessFlags := 2, slot := 3, constantValue := 0 }, { name := "serialVersionUID", type := .long, accessFlags := 26, slot := 0, constantValue := 0 }, { name := "COMPACT_STRINGS", type := .boolean, accessFlags := 24, slot := 1, constantValue := 0 }, { name := "serialPersistentFields", type := (.array (.object "java/io/ObjectStreamField")), accessFlags := 26, slot := 2, constantValue := 0 }, { name := "REPL", type := .char, accessFlags := 26, slot := 3, constantValue := 0 }, { name := "CASE_INSENSITIVE_ORDER", type := (.object "java/util/Comparator"), accessFlags := 25, slot := 4, constantValue := 0 }, { name := "LATIN1", type := .byte, accessFlags := 24, slot := 5, constantValue := 0 }, { name := "UTF16", type := .byte, accessFlags := 24, slot := 6, constantValue := 0 }]
  methods := #[k7m0, k7m1, k7m2, k7m3, k7m4, k7m5, k7m6, k7m7, k7m8, k7m9, k7m10]
  instanceTypes := #[(.array .byte), .byte, .int, .boolean]
  staticTypes := #[.long, .boolean, (.array (.object "java/io/ObjectStreamField")), .char, (.object "java/util/Comparator"), .byte, .byte]
  resolved := Array.replicate 1451 none
  statics := some 0 }

def pool8 : Array CpInfo := pool [(2, .class_ 4), (1, u "java/lang/Object"), (0, u "<init>"), (0, u "()V"), (0, .methodref 8 9), (0, .class_ 10), (0, .nameAndType 11 12), (0, u "java/lang/String"), (0, u "isEmpty"), (0, u "()Z"), (0, .fieldref 14 15), (0, .class_ 16), (0, .nameAndType 17 18), (0, u "com/example/gravamen/gravamen/HttpSyntax"), (0, u "TOKEN"), (0, u "[Z"), (0, .methodref 14 20), (0, .nameAndType 21 22), (0, u "consistsOf"), (0, u "(Ljava/lang/String;[Z)Z"), (2, u "FIELD_VALUE"), (3, .methodref 8 30), (0, .nameAndType 31 32), (0, u "length"), (0, u "()I"), (41, .methodref 8 75), (0, .nameAndType 76 77), (0, u "charAt"), (0, u "(I)C"), (11, .class_ 91), (1, u "com/example/gravamen/gravamen/HttpSyntax$ElementConsumer"), (14, .class_ 107), (0, u "com/example/gravamen/gravamen/HttpSyntax$Weighted"), (11, u "NO_WEIGHT"), (0, u "I"), (4, u "isToken"), (0, u "(Ljava/lang/String;)Z")] 38

def k8m0 : Method := { name := "<init>", desc := "()V", sig := { parameters := [], returnType := none }, accessFlags := 2, code := none }
def k8c1 : Code := { maxStack := 2, maxLocals := 1, code := prog_2_method_2_code, exceptionTable := #[], attributes := #[] }
def k8m1 : Method := { name := "isToken", desc := "(Ljava/lang/String;)Z", sig := { parameters := [(.object "java/lang/String")], returnType := some .boolean }, accessFlags := 8, code := some k8c1 }
def k8c2 : Code := { maxStack := 2, maxLocals := 4, code := prog_2_method_12_code, exceptionTable := #[], attributes := #[] }
def k8m2 : Method := { name := "consistsOf", desc := "(Ljava/lang/String;[Z)Z", sig := { parameters := [(.object "java/lang/String"), (.array .boolean)], returnType := some .boolean }, accessFlags := 10, code := some k8c2 }
/-- com/example/gravamen/gravamen/HttpSyntax -/
def k8 : Class := { plain "com/example/gravamen/gravamen/HttpSyntax" (some 0) with
  accessFlags := 48
  interfaces := #[]
  cf := some (fileOf pool8 14 #[.nestMembers #[106, 89]] #[{ accessFlags := 2, nameIndex := 5, descriptorIndex := 6, attributes := #[] }, { accessFlags := 8, nameIndex := 125, descriptorIndex := 126, attributes := #[] }, { accessFlags := 10, nameIndex := 21, descriptorIndex := 22, attributes := #[] }] 48 2 #[] #[{ accessFlags := 26, nameIndex := 17, descriptorIndex := 18, attributes := #[] }, { accessFlags := 26, nameIndex := 25, descriptorIndex := 18, attributes := #[] }, { accessFlags := 26, nameIndex := 119, descriptorIndex := 120, attributes := #[] }])
  fields := #[{ name := "TOKEN", type := (.array .boolean), accessFlags := 26, slot := 0, constantValue := 0 }, { name := "FIELD_VALUE", type := (.array .boolean), accessFlags := 26, slot := 1, constantValue := 0 }, { name := "NO_WEIGHT", type := .int, accessFlags := 26, slot := 2, constantValue := 0 }]
  methods := #[k8m0, k8m1, k8m2]
  instanceTypes := #[]
  staticTypes := #[(.array .boolean), (.array .boolean), .int]
  resolved := Array.replicate 165 none
  statics := some 1 }

def pool9 : Array CpInfo := pool [(1, .class_ 2), (0, u "java/lang/String"), (1, .class_ 6), (1, u "java/lang/Object"), (0, u "<init>"), (0, u "()V"), (0, .methodref 1 10), (0, .nameAndType 11 12), (0, u "checkIndex"), (0, u "(II)V"), (1, .class_ 16), (1, u "java/lang/StringLatin1"), (36, u "([BI)C"), (36, u "canEncode"), (14, u "(C)Z"), (15, u "$assertionsDisabled"), (0, u "Z"), (98, .class_ 223), (1, u "java/lang/StringLatin1$LinesSpliterator"), (28, u "charAt"), (127, u "toBytes"), (1, u "(C)[B"), (7, .class_ 391), (0, u "java/lang/StringLatin1$CharsSpliterator")] 3

def k9m0 : Method := { name := "<init>", desc := "()V", sig := { parameters := [], returnType := none }, accessFlags := 0, code := none }
def k9c1 : Code := { maxStack := 2, maxLocals := 2, code := jdk_43_method_2_code, exceptionTable := #[], attributes := #[] }
def k9m1 : Method := { name := "charAt", desc := "([BI)C", sig := { parameters := [(.array .byte), .int], returnType := some .char }, accessFlags := 9, code := some k9c1 }
def k9c2 : Code := { maxStack := 2, maxLocals := 1, code := jdk_43_method_3_code, exceptionTable := #[], attributes := #[] }
def k9m2 : Method := { name := "canEncode", desc := "(C)Z", sig := { parameters := [.char], returnType := some .boolean }, accessFlags := 9, code := some k9c2 }
def k9c3 : Code := { maxStack := 4, maxLocals := 1, code := jdk_43_method_46_code, exceptionTable := #[], attributes := #[] }
def k9m3 : Method := { name := "toBytes", desc := "(C)[B", sig := { parameters := [.char], returnType := some (.array .byte) }, accessFlags := 9, code := some k9c3 }
/-- java/lang/StringLatin1 -/
def k9 : Class := { plain "java/lang/StringLatin1" (some 0) with
  accessFlags := 48
  interfaces := #[]
  cf := some (fileOf pool9 14 #[.nestMembers #[390, 221]] #[{ accessFlags := 0, nameIndex := 7, descriptorIndex := 8, attributes := #[] }, { accessFlags := 9, nameIndex := 252, descriptorIndex := 53, attributes := #[] }, { accessFlags := 9, nameIndex := 90, descriptorIndex := 105, attributes := #[] }, { accessFlags := 9, nameIndex := 380, descriptorIndex := 382, attributes := #[] }] 48 4 #[] #[{ accessFlags := 4120, nameIndex := 121, descriptorIndex := 122, attributes := #[] }])
  fields := #[{ name := "$assertionsDisabled", type := .boolean, accessFlags := 4120, slot := 0, constantValue := 0 }]
  methods := #[k9m0, k9m1, k9m2, k9m3]
  instanceTypes := #[]
  staticTypes := #[.boolean]
  resolved := Array.replicate 395 none
  statics := none }

def pool10 : Array CpInfo := pool [(2, .class_ 4), (1, u "java/lang/Object"), (0, u "<init>"), (0, u "()V"), (17, .class_ 26), (1, u "jdk/internal/util/Preconditions"), (6, u "checkIndex"), (21, .class_ 56), (0, u "jdk/internal/util/Preconditions$4"), (57, .class_ 115), (0, u "jdk/internal/util/Preconditions$1"), (7, u "SIOOBE_FORMATTER"), (0, u "Ljava/util/function/BiFunction;"), (0, .class_ 126), (0, u "jdk/internal/util/Preconditions$2"), (3, u "AIOOBE_FORMATTER"), (0, .class_ 132), (0, u "jdk/internal/util/Preconditions$3"), (3, u "IOOBE_FORMATTER"), (41, u "(IILjava/util/function/BiFunction;)I")] 15

def k10m0 : Method := { name := "<init>", desc := "()V", sig := { parameters := [], returnType := none }, accessFlags := 1, code := none }
def k10c1 : Code := { maxStack := 3, maxLocals := 3, code := jdk_41_method_11_code, exceptionTable := #[], attributes := #[] }
def k10m1 : Method := { name := "checkIndex", desc := "(IILjava/util/function/BiFunction;)I", sig := { parameters := [.int, .int, (.object "java/util/function/BiFunction")], returnType := some .int }, accessFlags := 9, code := some k10c1 }
/-- jdk/internal/util/Preconditions -/
def k10 : Class := { plain "jdk/internal/util/Preconditions" (some 0) with
  accessFlags := 33
  interfaces := #[]
  cf := some (fileOf pool10 24 #[.nestMembers #[55, 131, 125, 114]] #[{ accessFlags := 1, nameIndex := 5, descriptorIndex := 6, attributes := #[] }, { accessFlags := 9, nameIndex := 33, descriptorIndex := 178, attributes := #[] }] 33 2 #[] #[{ accessFlags := 25, nameIndex := 123, descriptorIndex := 124, attributes := #[] }, { accessFlags := 25, nameIndex := 130, descriptorIndex := 124, attributes := #[] }, { accessFlags := 25, nameIndex := 136, descriptorIndex := 124, attributes := #[] }])
  fields := #[{ name := "SIOOBE_FORMATTER", type := (.object "java/util/function/BiFunction"), accessFlags := 25, slot := 0, constantValue := 0 }, { name := "AIOOBE_FORMATTER", type := (.object "java/util/function/BiFunction"), accessFlags := 25, slot := 1, constantValue := 0 }, { name := "IOOBE_FORMATTER", type := (.object "java/util/function/BiFunction"), accessFlags := 25, slot := 2, constantValue := 0 }]
  methods := #[k10m0, k10m1]
  instanceTypes := #[]
  staticTypes := #[(.object "java/util/function/BiFunction"), (.object "java/util/function/BiFunction"), (.object "java/util/function/BiFunction")]
  resolved := Array.replicate 194 none
  statics := some 2 }

def pool11 : Array CpInfo := pool [(3, .class_ 4), (0, u "java/lang/String"), (1, .class_ 8), (1, u "java/lang/Object"), (0, u "<init>"), (0, u "()V"), (0, .methodref 12 13), (0, .class_ 14), (0, .nameAndType 15 16), (0, u "java/lang/StringUTF16"), (0, u "newBytesLength"), (0, u "(I)I"), (3, .integer 1073741823), (23, .fieldref 12 45), (0, .nameAndType 46 47), (0, u "$assertionsDisabled"), (0, u "Z"), (0, .methodref 12 49), (0, .nameAndType 50 51), (0, u "length"), (0, u "([B)I"), (7, .fieldref 12 60), (0, .nameAndType 61 62), (0, u "HI_BYTE_SHIFT"), (0, u "I"), (0, .fieldref 12 64), (0, .nameAndType 65 62), (0, u "LO_BYTE_SHIFT"), (1, .methodref 12 68), (0, .nameAndType 69 70), (0, u "checkIndex"), (0, u "(I[B)V"), (0, .methodref 12 72), (0, .nameAndType 73 74), (0, u "getChar"), (0, u "([BI)C"), (32, .methodref 12 108), (0, .nameAndType 109 110), (0, u "newBytesFor"), (0, u "(I)[B"), (0, .methodref 12 112), (0, .nameAndType 113 114), (0, u "putChar"), (0, u "([BII)V"), (0, .methodref 12 116), (0, .nameAndType 117 118), (0, u "compress"), (0, u "([CI[BII)I"), (0, .methodref 12 120), (0, .nameAndType 121 122), (0, u "toBytes"), (0, u "([CII)[B"), (138, u "coderFromArrayLen"), (0, u "([BI)B"), (106, .class_ 371), (1, u "java/lang/StringUTF16$LinesSpliterator"), (20, u "charAt"), (21, .methodref 3 415), (0, .nameAndType 69 416), (0, u "(II)V"), (13, u "MAX_LENGTH"), (44, u "(C)[B"), (151, .class_ 628), (0, u "java/lang/StringUTF16$CodePointsSpliterator"), (0, .class_ 630), (0, u "java/lang/StringUTF16$CharsSpliterator")] 4

def k11m0 : Method := { name := "<init>", desc := "()V", sig := { parameters := [], returnType := none }, accessFlags := 0, code := none }
def k11c1 : Code := { maxStack := 1, maxLocals := 1, code := jdk_52_method_2_code, exceptionTable := #[], attributes := #[] }
def k11m1 : Method := { name := "newBytesFor", desc := "(I)[B", sig := { parameters := [.int], returnType := some (.array .byte) }, accessFlags := 9, code := some k11c1 }
def k11c2 : Code := { maxStack := 4, maxLocals := 1, code := jdk_52_method_3_code, exceptionTable := #[], attributes := #[] }
def k11m2 : Method := { name := "newBytesLength", desc := "(I)I", sig := { parameters := [.int], returnType := some .int }, accessFlags := 9, code := some k11c2 }
def k11c3 : Code := { maxStack := 4, maxLocals := 3, code := jdk_52_method_4_code, exceptionTable := #[], attributes := #[] }
def k11m3 : Method := { name := "putChar", desc := "([BII)V", sig := { parameters := [(.array .byte), .int, .int], returnType := none }, accessFlags := 8, code := some k11c3 }
def k11c4 : Code := { maxStack := 3, maxLocals := 2, code := jdk_52_method_5_code, exceptionTable := #[], attributes := #[] }
def k11m4 : Method := { name := "getChar", desc := "([BI)C", sig := { parameters := [(.array .byte), .int], returnType := some .char }, accessFlags := 8, code := some k11c4 }
def k11c5 : Code := { maxStack := 2, maxLocals := 1, code := jdk_52_method_6_code, exceptionTable := #[], attributes := #[] }
def k11m5 : Method := { name := "length", desc := "([B)I", sig := { parameters := [(.array .byte)], returnType := some .int }, accessFlags := 9, code := some k11c5 }
def k11c6 : Code := { maxStack := 4, maxLocals := 5, code := jdk_52_method_14_code, exceptionTable := #[], attributes := #[] }
def k11m6 : Method := { name := "toBytes", desc := "([CII)[B", sig := { parameters := [(.array .char), .int, .int], returnType := some (.array .byte) }, accessFlags := 9, code := some k11c6 }
def k11c7 : Code := { maxStack := 2, maxLocals := 2, code := jdk_52_method_15_code, exceptionTable := #[], attributes := #[] }
def k11m7 : Method := { name := "coderFromArrayLen", desc := "([BI)B", sig := { parameters := [(.array .byte), .int], returnType := some .byte }, accessFlags := 8, code := some k11c7 }
def k11c8 : Code := { maxStack := 5, maxLocals := 6, code := jdk_52_method_16_code, exceptionTable := #[], attributes := #[] }
def k11m8 : Method := { name := "compress", desc := "([CII)[B", sig := { parameters := [(.array .char), .int, .int], returnType := some (.array .byte) }, accessFlags := 9, code := some k11c8 }
def k11c9 : Code := { maxStack := 3, maxLocals := 7, code := jdk_52_method_21_code, exceptionTable := #[], attributes := #[] }
def k11m9 : Method := { name := "compress", desc := "([CI[BII)I", sig := { parameters := [(.array .char), .int, (.array .byte), .int, .int], returnType := some .int }, accessFlags := 9, code := some k11c9 }
def k11c10 : Code := { maxStack := 3, maxLocals := 2, code := jdk_52_method_24_code, exceptionTable := #[], attributes := #[] }
def k11m10 : Method := { name := "toBytes", desc := "(C)[B", sig := { parameters := [.char], returnType := some (.array .byte) }, accessFlags := 9, code := some k11c10 }
def k11c11 : Code := { maxStack := 2, maxLocals := 2, code := jdk_52_method_83_code, exceptionTable := #[], attributes := #[] }
def k11m11 : Method := { name := "charAt", desc := "([BI)C", sig := { parameters := [(.array .byte), .int], returnType := some .char }, accessFlags := 9, code := some k11c11 }
def k11c12 : Code := { maxStack := 2, maxLocals := 2, code := jdk_52_method_91_code, exceptionTable := #[], attributes := #[] }
def k11m12 : Method := { name := "checkIndex", desc := "(I[B)V", sig := { parameters := [.int, (.array .byte)], returnType := none }, accessFlags := 9, code := some k11c12 }
/-- java/lang/StringUTF16 -/
def k11 : Class := { plain "java/lang/StringUTF16" (some 0) with
  accessFlags := 48
  interfaces := #[]
  cf := some (fileOf pool11 12 #[.nestMembers #[627, 629, 369]] #[{ accessFlags := 0, nameIndex := 9, descriptorIndex := 10, attributes := #[] }, { accessFlags := 9, nameIndex := 109, descriptorIndex := 110, attributes := #[] }, { accessFlags := 9, nameIndex := 15, descriptorIndex := 16, attributes := #[] }, { accessFlags := 8, nameIndex := 113, descriptorIndex := 114, attributes := #[] }, { accessFlags := 8, nameIndex := 73, descriptorIndex := 74, attributes := #[] }, { accessFlags := 9, nameIndex := 50, descriptorIndex := 51, attributes := #[] }, { accessFlags := 9, nameIndex := 121, descriptorIndex := 122, attributes := #[] }, { accessFlags := 8, nameIndex := 261, descriptorIndex := 262, attributes := #[] }, { accessFlags := 9, nameIndex := 117, descriptorIndex := 122, attributes := #[] }, { accessFlags := 9, nameIndex := 117, descriptorIndex := 118, attributes := #[] }, { accessFlags := 9, nameIndex := 121, descriptorIndex := 475, attributes := #[] }, { accessFlags := 9, nameIndex := 392, descriptorIndex := 74, attributes := #[] }, { accessFlags := 9, nameIndex := 69, descriptorIndex := 70, attributes := #[] }] 48 6 #[] #[{ accessFlags := 26, nameIndex := 61, descriptorIndex := 62, attributes := #[] }, { accessFlags := 26, nameIndex := 65, descriptorIndex := 62, attributes := #[] }, { accessFlags := 24, nameIndex := 430, descriptorIndex := 62, attributes := #[] }, { accessFlags := 4120, nameIndex := 46, descriptorIndex := 47, attributes := #[] }])
  fields := #[{ name := "HI_BYTE_SHIFT", type := .int, accessFlags := 26, slot := 0, constantValue := 0 }, { name := "LO_BYTE_SHIFT", type := .int, accessFlags := 26, slot := 1, constantValue := 0 }, { name := "MAX_LENGTH", type := .int, accessFlags := 24, slot := 2, constantValue := 0 }, { name := "$assertionsDisabled", type := .boolean, accessFlags := 4120, slot := 3, constantValue := 0 }]
  methods := #[k11m0, k11m1, k11m2, k11m3, k11m4, k11m5, k11m6, k11m7, k11m8, k11m9, k11m10, k11m11, k11m12]
  instanceTypes := #[]
  staticTypes := #[.int, .int, .int, .boolean]
  resolved := Array.replicate 635 none
  statics := some 3 }

def pool12 : Array CpInfo := pool [(9, u "<init>"), (6, .class_ 18), (1, u "java/lang/Object"), (0, u "()V"), (1, .class_ 23), (1, u "jdk/internal/util/ArraysSupport"), (0, u "LOG2_ARRAY_LONG_INDEX_SCALE"), (0, u "I"), (2, u "U"), (0, u "Ljdk/internal/misc/Unsafe;"), (8, u "BIG_ENDIAN"), (0, u "Z"), (8, u "LOG2_BYTE_BIT_SIZE"), (4, u "LOG2_ARRAY_INT_INDEX_SCALE"), (54, u "JLA"), (0, u "Ljdk/internal/access/JavaLangAccess;"), (11, u "LOG2_ARRAY_BOOLEAN_INDEX_SCALE"), (9, u "LOG2_ARRAY_BYTE_INDEX_SCALE"), (5, u "LOG2_ARRAY_CHAR_INDEX_SCALE"), (5, u "LOG2_ARRAY_SHORT_INDEX_SCALE"), (18, u "LOG2_ARRAY_FLOAT_INDEX_SCALE"), (24, u "LOG2_ARRAY_DOUBLE_INDEX_SCALE"), (89, u "T_BOOLEAN"), (2, u "T_CHAR"), (1, u "T_FLOAT"), (1, u "T_DOUBLE"), (1, u "T_BYTE"), (1, u "T_SHORT"), (1, u "T_INT"), (1, u "T_LONG"), (1, u "SOFT_MAX_ARRAY_LENGTH")] 83

def k12m0 : Method := { name := "<init>", desc := "()V", sig := { parameters := [], returnType := none }, accessFlags := 2, code := none }
/-- jdk/internal/util/ArraysSupport -/
def k12 : Class := { plain "jdk/internal/util/ArraysSupport" (some 0) with
  accessFlags := 33
  interfaces := #[]
  cf := some (fileOf pool12 21 #[] #[{ accessFlags := 2, nameIndex := 9, descriptorIndex := 19, attributes := #[] }] 33 16 #[] #[{ accessFlags := 24, nameIndex := 28, descriptorIndex := 29, attributes := #[] }, { accessFlags := 26, nameIndex := 38, descriptorIndex := 39, attributes := #[] }, { accessFlags := 25, nameIndex := 121, descriptorIndex := 25, attributes := #[] }, { accessFlags := 25, nameIndex := 131, descriptorIndex := 25, attributes := #[] }, { accessFlags := 25, nameIndex := 137, descriptorIndex := 25, attributes := #[] }, { accessFlags := 25, nameIndex := 143, descriptorIndex := 25, attributes := #[] }, { accessFlags := 25, nameIndex := 53, descriptorIndex := 25, attributes := #[] }, { accessFlags := 25, nameIndex := 24, descriptorIndex := 25, attributes := #[] }, { accessFlags := 25, nameIndex := 162, descriptorIndex := 25, attributes := #[] }, { accessFlags := 25, nameIndex := 187, descriptorIndex := 25, attributes := #[] }, { accessFlags := 26, nameIndex := 48, descriptorIndex := 25, attributes := #[] }, { accessFlags := 25, nameIndex := 277, descriptorIndex := 25, attributes := #[] }, { accessFlags := 25, nameIndex := 280, descriptorIndex := 25, attributes := #[] }, { accessFlags := 25, nameIndex := 282, descriptorIndex := 25, attributes := #[] }, { accessFlags := 25, nameIndex := 284, descriptorIndex := 25, attributes := #[] }, { accessFlags := 25, nameIndex := 286, descriptorIndex := 25, attributes := #[] }, { accessFlags := 25, nameIndex := 288, descriptorIndex := 25, attributes := #[] }, { accessFlags := 25, nameIndex := 290, descriptorIndex := 25, attributes := #[] }, { accessFlags := 25, nameIndex := 292, descriptorIndex := 25, attributes := #[] }, { accessFlags := 26, nameIndex := 108, descriptorIndex := 109, attributes := #[] }, { accessFlags := 25, nameIndex := 294, descriptorIndex := 25, attributes := #[] }])
  fields := #[{ name := "U", type := (.object "jdk/internal/misc/Unsafe"), accessFlags := 24, slot := 0, constantValue := 0 }, { name := "BIG_ENDIAN", type := .boolean, accessFlags := 26, slot := 1, constantValue := 0 }, { name := "LOG2_ARRAY_BOOLEAN_INDEX_SCALE", type := .int, accessFlags := 25, slot := 2, constantValue := 0 }, { name := "LOG2_ARRAY_BYTE_INDEX_SCALE", type := .int, accessFlags := 25, slot := 3, constantValue := 0 }, { name := "LOG2_ARRAY_CHAR_INDEX_SCALE", type := .int, accessFlags := 25, slot := 4, constantValue := 0 }, { name := "LOG2_ARRAY_SHORT_INDEX_SCALE", type := .int, accessFlags := 25, slot := 5, constantValue := 0 }, { name := "LOG2_ARRAY_INT_INDEX_SCALE", type := .int, accessFlags := 25, slot := 6, constantValue := 0 }, { name := "LOG2_ARRAY_LONG_INDEX_SCALE", type := .int, accessFlags := 25, slot := 7, constantValue := 0 }, { name := "LOG2_ARRAY_FLOAT_INDEX_SCALE", type := .int, accessFlags := 25, slot := 8, constantValue := 0 }, { name := "LOG2_ARRAY_DOUBLE_INDEX_SCALE", type := .int, accessFlags := 25, slot := 9, constantValue := 0 }, { name := "LOG2_BYTE_BIT_SIZE", type := .int, accessFlags := 26, slot := 10, constantValue := 0 }, { name := "T_BOOLEAN", type := .int, accessFlags := 25, slot := 11, constantValue := 0 }, { name := "T_CHAR", type := .int, accessFlags := 25, slot := 12, constantValue := 0 }, { name := "T_FLOAT", type := .int, accessFlags := 25, slot := 13, constantValue := 0 }, { name := "T_DOUBLE", type := .int, accessFlags := 25, slot := 14, constantValue := 0 }, { name := "T_BYTE", type := .int, accessFlags := 25, slot := 15, constantValue := 0 }, { name := "T_SHORT", type := .int, accessFlags := 25, slot := 16, constantValue := 0 }, { name := "T_INT", type := .int, accessFlags := 25, slot := 17, constantValue := 0 }, { name := "T_LONG", type := .int, accessFlags := 25, slot := 18, constantValue := 0 }, { name := "JLA", type := (.object "jdk/internal/access/JavaLangAccess"), accessFlags := 26, slot := 19, constantValue := 0 }, { name := "SOFT_MAX_ARRAY_LENGTH", type := .int, accessFlags := 25, slot := 20, constantValue := 0 }]
  methods := #[k12m0]
  instanceTypes := #[]
  staticTypes := #[(.object "jdk/internal/misc/Unsafe"), .boolean, .int, .int, .int, .int, .int, .int, .int, .int, .int, .int, .int, .int, .int, .int, .int, .int, .int, (.object "jdk/internal/access/JavaLangAccess"), .int]
  resolved := Array.replicate 378 none
  statics := none }

def pool13 : Array CpInfo := pool [(1, u "java/lang/Cloneable"), (0, .class_ 1), (0, u "java/lang/Object"), (0, .class_ 3)] 3

/-- java/lang/Cloneable -/
def k13 : Class := { plain "java/lang/Cloneable" (some 0) with
  accessFlags := 1537
  interfaces := #[]
  cf := some (fileOf pool13 2 #[] #[] 1537 4 #[] #[])
  fields := #[]
  methods := #[]
  instanceTypes := #[]
  staticTypes := #[]
  resolved := Array.replicate 8 none
  statics := none }

/-- the primitive boolean -/
def k14 : Class := { plain "boolean" none with kind := .primitive 'Z', accessFlags := 0x411 }
/-- [Z -/
def k15 : Class := { plain "[Z" (some 0) with kind := .array 14 .boolean, interfaces := #[13, 2], accessFlags := 1041 }

/-- the primitive byte -/
def k16 : Class := { plain "byte" none with kind := .primitive 'B', accessFlags := 0x411 }
/-- [B -/
def k17 : Class := { plain "[B" (some 0) with kind := .array 16 .byte, interfaces := #[13, 2], accessFlags := 1041 }

/-- the primitive char -/
def k18 : Class := { plain "char" none with kind := .primitive 'C', accessFlags := 0x411 }
/-- [C -/
def k19 : Class := { plain "[C" (some 0) with kind := .array 18 .char, interfaces := #[13, 2], accessFlags := 1041 }

/-- the primitive int -/
def k20 : Class := { plain "int" none with kind := .primitive 'I', accessFlags := 0x411 }
/-- [I -/
def k21 : Class := { plain "[I" (some 0) with kind := .array 20 .int, interfaces := #[13, 2], accessFlags := 1041 }

def heap : Heap := #[{ cls := 7, slots := #[.long 0, .int 1, .null, .int 0, .null, .int 0, .int 0], vm := .statics 7 },
  { cls := 8, slots := #[.ref 4, .null, .int 0], vm := .statics 8 },
  { cls := 10, slots := #[.null, .null, .null], vm := .statics 10 },
  { cls := 11, slots := #[.int 0, .int 8, .int 0, .int 1], vm := .statics 11 },
  { cls := 15, slots := #[.int 0, .int 0, .int 0, .int 0, .int 0, .int 0, .int 0, .int 0, .int 0, .int 0, .int 0, .int 0, .int 0, .int 0, .int 0, .int 0, .int 0, .int 0, .int 0, .int 0, .int 0, .int 0, .int 0, .int 0, .int 0, .int 0, .int 0, .int 0, .int 0, .int 0, .int 0, .int 0, .int 0, .int 1, .int 0, .int 1, .int 1, .int 1, .int 1, .int 1, .int 0, .int 0, .int 1, .int 1, .int 0, .int 1, .int 1, .int 0, .int 1, .int 1, .int 1, .int 1, .int 1, .int 1, .int 1, .int 1, .int 1, .int 1, .int 0, .int 0, .int 0, .int 0, .int 0, .int 0, .int 0, .int 1, .int 1, .int 1, .int 1, .int 1, .int 1, .int 1, .int 1, .int 1, .int 1, .int 1, .int 1, .int 1, .int 1, .int 1, .int 1, .int 1, .int 1, .int 1, .int 1, .int 1, .int 1, .int 1, .int 1, .int 1, .int 1, .int 0, .int 0, .int 0, .int 1, .int 1, .int 1, .int 1, .int 1, .int 1, .int 1, .int 1, .int 1, .int 1, .int 1, .int 1, .int 1, .int 1, .int 1, .int 1, .int 1, .int 1, .int 1, .int 1, .int 1, .int 1, .int 1, .int 1, .int 1, .int 1, .int 1, .int 1, .int 1, .int 0, .int 1, .int 0, .int 1, .int 0], vm := .none }]
def classes : Array Class := #[k0, k1, k2, k3, k4, k5, k6, k7, k8, k9, k10, k11, k12, k13, k14, k15, k16, k17, k18, k19, k20, k21]
def interned : List (Array UInt16 × Addr) := []
def slotsUsed : Nat := 145
def theMethod : MethodId := ⟨1, 1⟩
def args0 : Array Value := #[.int 5, .int 6, .int 7]
def aboutOver (below : List Frame) : State where
  vm := { classes := classes, interned := interned.toArray }
  heap := heap
  slotsUsed := slotsUsed
  threads := #[{ frames := .invoking theMethod args0 :: below }]
def below0 : List Frame := [.native { method := ⟨0, 0⟩, args := #[] }]
def about1 : State := aboutOver below0
def p0 : Program := .bare "" "" ""
def e0 : Env := launch0.env 0 0 0
theorem w_frames : about1.frames = Frame.invoking theMethod args0 :: below0 := rfl
set_option maxRecDepth 65536 in
theorem w_args : argsFit about1.vm theMethod args0 = true := by decide +kernel
set_option maxRecDepth 65536 in
theorem w_heap : heapFits about1 = true := by decide +kernel
set_option maxRecDepth 65536 in
theorem w_runnable : about1.curStatus? = some .runnable := by decide +kernel
set_option maxRecDepth 65536 in
theorem w_alone : about1.alone = true := by decide +kernel
set_option maxRecDepth 65536 in
theorem w_named : about1.methodNamed? x = some theMethod := by decide +kernel
set_option maxRecDepth 65536 in
theorem w_hears : about1.hears theMethod below0 = true := by decide +kernel
set_option maxRecDepth 65536 in
theorem w_ripe : about1.ripe theMethod args0 below0 = true := by decide +kernel
theorem w_running : about1.status = .running := rfl
set_option maxRecDepth 65536 in
theorem w_room : about1.hasRoom e0.platform room_1 = true :=
  launch0.hasRoom_least _ room_1 (by decide +kernel) (by decide +kernel) (by decide +kernel) (by decide +kernel) (by decide +kernel) (by decide +kernel)
theorem allAtoms_all (ts : List Jvm.Cond) (a : Array Jvm.Value) (st : Jvm.State) : (allAtoms ts).before a st = ts.all (fun c => c.before a st) := by
  induction ts with
  | nil => rfl
  | cons c t ih =>
    show (Jvm.Cond.and c (allAtoms t)).before a st = _
    rw [Jvm.Cond.before_and, ih, List.all_cons]
def words1 : List Jvm.Cond := Jvm.Cond.code x code maxLocals ret :: tables_1
/-- a 'code' word, met by the world's own term for the bytes: nothing is compared byte by byte -/
theorem code_word {y : MethodName} {bytes : ByteArray} {mx : Nat} {rt : Option FieldType} {a : Array Value} {s : State} {m : MethodId} {meth : Method} {c : Code} (h1 : s.methodNamed? y = some m) (h2 : s.vm.method? m = some meth) (h3 : meth.code = some c) (h4 : c.code = bytes)
    (h5 : (c.maxLocals == mx && c.exceptionTable.isEmpty && decide (c.maxStack ≤ mostOperands) && decide (meth.sig.returnType = rt) && !meth.locks && decide (parseMethodDescriptor y.desc = some meth.sig)) = true) : (Jvm.Cond.code y bytes mx rt).before a s = true := by
  simp only [Bool.and_eq_true, beq_iff_eq, Bool.not_eq_true', decide_eq_true_eq] at h5
  obtain ⟨⟨⟨⟨⟨g1, g2⟩, g3⟩, g4⟩, g5⟩, g6⟩ := h5
  simp [Cond.before, Cond.holds, Cond.value, h1, h2, h3, h4, g1, g2, g3, g4, g5, g6]
def isCode : Jvm.Cond → Bool
  | .code _ _ _ _ => true
  | _ => false
theorem all_split {L : List Jvm.Cond} {P : Jvm.Cond → Bool} (h1 : L.all (fun c => isCode c || P c) = true) (h2 : ∀ c ∈ L.filter isCode, P c = true) : L.all P = true := by
  refine List.all_eq_true.mpr fun c hc => ?_
  have h := List.all_eq_true.mp h1 c hc
  rcases Bool.eq_false_or_eq_true (isCode c) with hi | hi
  · exact h2 c (List.mem_filter.mpr ⟨hc, hi⟩)
  · simpa [hi] using h
set_option maxRecDepth 65536 in
theorem w_c0 : (Jvm.Cond.code x code maxLocals ret).before args0 about1 = true := code_word (m := ⟨1, 1⟩) (meth := k1m1) (c := k1c1) (by decide +kernel) rfl rfl rfl (by decide +kernel)
set_option maxRecDepth 65536 in
theorem w_c1 : (Jvm.Cond.code ({ cls := "com/example/gravamen/gravamen/HttpSyntaxIsTokenPinLaw", name := "make", desc := "(ICCCC)Ljava/lang/String;" } : Jvm.MethodName) method_3_code (5 : Nat) (Option.some (Jvm.ClassFile.FieldType.object "java/lang/String"))).before args0 about1 = true := code_word (m := ⟨1, 2⟩) (meth := k1m2) (c := k1c2) (by decide +kernel) rfl rfl rfl (by decide +kernel)
set_option maxRecDepth 65536 in
theorem w_c2 : (Jvm.Cond.code ({ cls := "java/lang/String", name := "<init>", desc := "([C)V" } : Jvm.MethodName) jdk_42_method_3_code (2 : Nat) (Option.none : Option Jvm.ClassFile.FieldType)).before args0 about1 = true := code_word (m := ⟨7, 1⟩) (meth := k7m1) (c := k7c1) (by decide +kernel) rfl rfl rfl (by decide +kernel)
set_option maxRecDepth 65536 in
theorem w_c3 : (Jvm.Cond.code ({ cls := "java/lang/String", name := "<init>", desc := "([CIILjava/lang/Void;)V" } : Jvm.MethodName) jdk_42_method_149_code (6 : Nat) (Option.none : Option Jvm.ClassFile.FieldType)).before args0 about1 = true := code_word (m := ⟨7, 6⟩) (meth := k7m6) (c := k7c6) (by decide +kernel) rfl rfl rfl (by decide +kernel)
set_option maxRecDepth 65536 in
theorem w_c4 : (Jvm.Cond.code ({ cls := "java/lang/Object", name := "<init>", desc := "()V" } : Jvm.MethodName) object_method_1_code (1 : Nat) (Option.none : Option Jvm.ClassFile.FieldType)).before args0 about1 = true := code_word (m := ⟨0, 0⟩) (meth := k0m0) (c := k0c0) (by decide +kernel) rfl rfl rfl (by decide +kernel)
set_option maxRecDepth 65536 in
theorem w_c5 : (Jvm.Cond.code ({ cls := "com/example/gravamen/gravamen/HttpSyntax", name := "isToken", desc := "(Ljava/lang/String;)Z" } : Jvm.MethodName) prog_2_method_2_code (1 : Nat) (Option.some Jvm.ClassFile.FieldType.boolean)).before args0 about1 = true := code_word (m := ⟨8, 1⟩) (meth := k8m1) (c := k8c1) (by decide +kernel) rfl rfl rfl (by decide +kernel)
set_option maxRecDepth 65536 in
theorem w_c6 : (Jvm.Cond.code ({ cls := "java/lang/String", name := "isEmpty", desc := "()Z" } : Jvm.MethodName) jdk_42_method_55_code (1 : Nat) (Option.some Jvm.ClassFile.FieldType.boolean)).before args0 about1 = true := code_word (m := ⟨7, 3⟩) (meth := k7m3) (c := k7c3) (by decide +kernel) rfl rfl rfl (by decide +kernel)
set_option maxRecDepth 65536 in
theorem w_c7 : (Jvm.Cond.code ({ cls := "java/lang/String", name := "valueOf", desc := "(C)Ljava/lang/String;" } : Jvm.MethodName) jdk_42_method_139_code (1 : Nat) (Option.some (Jvm.ClassFile.FieldType.object "java/lang/String"))).before args0 about1 = true := code_word (m := ⟨7, 5⟩) (meth := k7m5) (c := k7c5) (by decide +kernel) rfl rfl rfl (by decide +kernel)
set_option maxRecDepth 65536 in
theorem w_c8 : (Jvm.Cond.code ({ cls := "java/lang/StringLatin1", name := "canEncode", desc := "(C)Z" } : Jvm.MethodName) jdk_43_method_3_code (1 : Nat) (Option.some Jvm.ClassFile.FieldType.boolean)).before args0 about1 = true := code_word (m := ⟨9, 2⟩) (meth := k9m2) (c := k9c2) (by decide +kernel) rfl rfl rfl (by decide +kernel)
set_option maxRecDepth 65536 in
theorem w_c9 : (Jvm.Cond.code ({ cls := "java/lang/StringLatin1", name := "toBytes", desc := "(C)[B" } : Jvm.MethodName) jdk_43_method_46_code (1 : Nat) (Option.some (Jvm.ClassFile.FieldType.array Jvm.ClassFile.FieldType.byte))).before args0 about1 = true := code_word (m := ⟨9, 3⟩) (meth := k9m3) (c := k9c3) (by decide +kernel) rfl rfl rfl (by decide +kernel)
set_option maxRecDepth 65536 in
theorem w_c10 : (Jvm.Cond.code ({ cls := "java/lang/String", name := "<init>", desc := "([BB)V" } : Jvm.MethodName) jdk_42_method_151_code (3 : Nat) (Option.none : Option Jvm.ClassFile.FieldType)).before args0 about1 = true := code_word (m := ⟨7, 7⟩) (meth := k7m7) (c := k7c7) (by decide +kernel) rfl rfl rfl (by decide +kernel)
set_option maxRecDepth 65536 in
theorem w_c11 : (Jvm.Cond.code ({ cls := "com/example/gravamen/gravamen/HttpSyntaxIsTokenPinLaw", name := "tchar", desc := "(C)Z" } : Jvm.MethodName) method_4_code (1 : Nat) (Option.some Jvm.ClassFile.FieldType.boolean)).before args0 about1 = true := code_word (m := ⟨1, 3⟩) (meth := k1m3) (c := k1c3) (by decide +kernel) rfl rfl rfl (by decide +kernel)
set_option maxRecDepth 65536 in
theorem w_c12 : (Jvm.Cond.code ({ cls := "com/example/gravamen/gravamen/HttpSyntax", name := "consistsOf", desc := "(Ljava/lang/String;[Z)Z" } : Jvm.MethodName) prog_2_method_12_code (4 : Nat) (Option.some Jvm.ClassFile.FieldType.boolean)).before args0 about1 = true := code_word (m := ⟨8, 2⟩) (meth := k8m2) (c := k8c2) (by decide +kernel) rfl rfl rfl (by decide +kernel)
set_option maxRecDepth 65536 in
theorem w_c13 : (Jvm.Cond.code ({ cls := "java/lang/String", name := "length", desc := "()I" } : Jvm.MethodName) jdk_42_method_54_code (1 : Nat) (Option.some Jvm.ClassFile.FieldType.int)).before args0 about1 = true := code_word (m := ⟨7, 2⟩) (meth := k7m2) (c := k7c2) (by decide +kernel) rfl rfl rfl (by decide +kernel)
set_option maxRecDepth 65536 in
theorem w_c14 : (Jvm.Cond.code ({ cls := "java/lang/String", name := "coder", desc := "()B" } : Jvm.MethodName) jdk_42_method_152_code (1 : Nat) (Option.some Jvm.ClassFile.FieldType.byte)).before args0 about1 = true := code_word (m := ⟨7, 8⟩) (meth := k7m8) (c := k7c8) (by decide +kernel) rfl rfl rfl (by decide +kernel)
set_option maxRecDepth 65536 in
theorem w_c15 : (Jvm.Cond.code ({ cls := "java/lang/String", name := "charAt", desc := "(I)C" } : Jvm.MethodName) jdk_42_method_56_code (2 : Nat) (Option.some Jvm.ClassFile.FieldType.char)).before args0 about1 = true := code_word (m := ⟨7, 4⟩) (meth := k7m4) (c := k7c4) (by decide +kernel) rfl rfl rfl (by decide +kernel)
set_option maxRecDepth 65536 in
theorem w_c16 : (Jvm.Cond.code ({ cls := "java/lang/String", name := "isLatin1", desc := "()Z" } : Jvm.MethodName) jdk_42_method_154_code (1 : Nat) (Option.some Jvm.ClassFile.FieldType.boolean)).before args0 about1 = true := code_word (m := ⟨7, 9⟩) (meth := k7m9) (c := k7c9) (by decide +kernel) rfl rfl rfl (by decide +kernel)
set_option maxRecDepth 65536 in
theorem w_c17 : (Jvm.Cond.code ({ cls := "java/lang/StringLatin1", name := "charAt", desc := "([BI)C" } : Jvm.MethodName) jdk_43_method_2_code (2 : Nat) (Option.some Jvm.ClassFile.FieldType.char)).before args0 about1 = true := code_word (m := ⟨9, 1⟩) (meth := k9m1) (c := k9c1) (by decide +kernel) rfl rfl rfl (by decide +kernel)
set_option maxRecDepth 65536 in
theorem w_c18 : (Jvm.Cond.code ({ cls := "java/lang/String", name := "checkIndex", desc := "(II)V" } : Jvm.MethodName) jdk_42_method_155_code (2 : Nat) (Option.none : Option Jvm.ClassFile.FieldType)).before args0 about1 = true := code_word (m := ⟨7, 10⟩) (meth := k7m10) (c := k7c10) (by decide +kernel) rfl rfl rfl (by decide +kernel)
set_option maxRecDepth 65536 in
theorem w_c19 : (Jvm.Cond.code ({ cls := "jdk/internal/util/Preconditions", name := "checkIndex", desc := "(IILjava/util/function/BiFunction;)I" } : Jvm.MethodName) jdk_41_method_11_code (3 : Nat) (Option.some Jvm.ClassFile.FieldType.int)).before args0 about1 = true := code_word (m := ⟨10, 1⟩) (meth := k10m1) (c := k10c1) (by decide +kernel) rfl rfl rfl (by decide +kernel)
set_option maxRecDepth 65536 in
theorem w_c20 : (Jvm.Cond.code ({ cls := "java/lang/StringUTF16", name := "compress", desc := "([CII)[B" } : Jvm.MethodName) jdk_52_method_16_code (6 : Nat) (Option.some (Jvm.ClassFile.FieldType.array Jvm.ClassFile.FieldType.byte))).before args0 about1 = true := code_word (m := ⟨11, 8⟩) (meth := k11m8) (c := k11c8) (by decide +kernel) rfl rfl rfl (by decide +kernel)
set_option maxRecDepth 65536 in
theorem w_c21 : (Jvm.Cond.code ({ cls := "java/lang/StringUTF16", name := "compress", desc := "([CI[BII)I" } : Jvm.MethodName) jdk_52_method_21_code (7 : Nat) (Option.some Jvm.ClassFile.FieldType.int)).before args0 about1 = true := code_word (m := ⟨11, 9⟩) (meth := k11m9) (c := k11c9) (by decide +kernel) rfl rfl rfl (by decide +kernel)
set_option maxRecDepth 65536 in
theorem w_c22 : (Jvm.Cond.code ({ cls := "java/lang/StringUTF16", name := "coderFromArrayLen", desc := "([BI)B" } : Jvm.MethodName) jdk_52_method_15_code (2 : Nat) (Option.some Jvm.ClassFile.FieldType.byte)).before args0 about1 = true := code_word (m := ⟨11, 7⟩) (meth := k11m7) (c := k11c7) (by decide +kernel) rfl rfl rfl (by decide +kernel)
set_option maxRecDepth 65536 in
theorem w_c23 : (Jvm.Cond.code ({ cls := "java/lang/StringUTF16", name := "toBytes", desc := "([CII)[B" } : Jvm.MethodName) jdk_52_method_14_code (5 : Nat) (Option.some (Jvm.ClassFile.FieldType.array Jvm.ClassFile.FieldType.byte))).before args0 about1 = true := code_word (m := ⟨11, 6⟩) (meth := k11m6) (c := k11c6) (by decide +kernel) rfl rfl rfl (by decide +kernel)
set_option maxRecDepth 65536 in
theorem w_c24 : (Jvm.Cond.code ({ cls := "java/lang/StringUTF16", name := "newBytesFor", desc := "(I)[B" } : Jvm.MethodName) jdk_52_method_2_code (1 : Nat) (Option.some (Jvm.ClassFile.FieldType.array Jvm.ClassFile.FieldType.byte))).before args0 about1 = true := code_word (m := ⟨11, 1⟩) (meth := k11m1) (c := k11c1) (by decide +kernel) rfl rfl rfl (by decide +kernel)
set_option maxRecDepth 65536 in
theorem w_c25 : (Jvm.Cond.code ({ cls := "java/lang/StringUTF16", name := "newBytesLength", desc := "(I)I" } : Jvm.MethodName) jdk_52_method_3_code (1 : Nat) (Option.some Jvm.ClassFile.FieldType.int)).before args0 about1 = true := code_word (m := ⟨11, 2⟩) (meth := k11m2) (c := k11c2) (by decide +kernel) rfl rfl rfl (by decide +kernel)
set_option maxRecDepth 65536 in
theorem w_c26 : (Jvm.Cond.code ({ cls := "java/lang/StringUTF16", name := "putChar", desc := "([BII)V" } : Jvm.MethodName) jdk_52_method_4_code (3 : Nat) (Option.none : Option Jvm.ClassFile.FieldType)).before args0 about1 = true := code_word (m := ⟨11, 3⟩) (meth := k11m3) (c := k11c3) (by decide +kernel) rfl rfl rfl (by decide +kernel)
set_option maxRecDepth 65536 in
theorem w_c27 : (Jvm.Cond.code ({ cls := "java/lang/StringUTF16", name := "getChar", desc := "([BI)C" } : Jvm.MethodName) jdk_52_method_5_code (2 : Nat) (Option.some Jvm.ClassFile.FieldType.char)).before args0 about1 = true := code_word (m := ⟨11, 4⟩) (meth := k11m4) (c := k11c4) (by decide +kernel) rfl rfl rfl (by decide +kernel)
set_option maxRecDepth 65536 in
theorem w_c28 : (Jvm.Cond.code ({ cls := "java/lang/StringUTF16", name := "charAt", desc := "([BI)C" } : Jvm.MethodName) jdk_52_method_83_code (2 : Nat) (Option.some Jvm.ClassFile.FieldType.char)).before args0 about1 = true := code_word (m := ⟨11, 11⟩) (meth := k11m11) (c := k11c11) (by decide +kernel) rfl rfl rfl (by decide +kernel)
set_option maxRecDepth 65536 in
theorem w_c29 : (Jvm.Cond.code ({ cls := "java/lang/StringUTF16", name := "checkIndex", desc := "(I[B)V" } : Jvm.MethodName) jdk_52_method_91_code (2 : Nat) (Option.none : Option Jvm.ClassFile.FieldType)).before args0 about1 = true := code_word (m := ⟨11, 12⟩) (meth := k11m12) (c := k11c12) (by decide +kernel) rfl rfl rfl (by decide +kernel)
set_option maxRecDepth 65536 in
theorem w_c30 : (Jvm.Cond.code ({ cls := "java/lang/StringUTF16", name := "length", desc := "([B)I" } : Jvm.MethodName) jdk_52_method_6_code (1 : Nat) (Option.some Jvm.ClassFile.FieldType.int)).before args0 about1 = true := code_word (m := ⟨11, 5⟩) (meth := k11m5) (c := k11c5) (by decide +kernel) rfl rfl rfl (by decide +kernel)
set_option maxRecDepth 65536 in
theorem w_c31 : (Jvm.Cond.code ({ cls := "java/lang/StringUTF16", name := "toBytes", desc := "(C)[B" } : Jvm.MethodName) jdk_52_method_24_code (2 : Nat) (Option.some (Jvm.ClassFile.FieldType.array Jvm.ClassFile.FieldType.byte))).before args0 about1 = true := code_word (m := ⟨11, 10⟩) (meth := k11m10) (c := k11c10) (by decide +kernel) rfl rfl rfl (by decide +kernel)
def codes1 : List Jvm.Cond := [Jvm.Cond.code x code maxLocals ret, Jvm.Cond.code ({ cls := "com/example/gravamen/gravamen/HttpSyntaxIsTokenPinLaw", name := "make", desc := "(ICCCC)Ljava/lang/String;" } : Jvm.MethodName) method_3_code (5 : Nat) (Option.some (Jvm.ClassFile.FieldType.object "java/lang/String")), Jvm.Cond.code ({ cls := "java/lang/String", name := "<init>", desc := "([C)V" } : Jvm.MethodName) jdk_42_method_3_code (2 : Nat) (Option.none : Option Jvm.ClassFile.FieldType), Jvm.Cond.code ({ cls := "java/lang/String", name := "<init>", desc := "([CIILjava/lang/Void;)V" } : Jvm.MethodName) jdk_42_method_149_code (6 : Nat) (Option.none : Option Jvm.ClassFile.FieldType), Jvm.Cond.code ({ cls := "java/lang/Object", name := "<init>", desc := "()V" } : Jvm.MethodName) object_method_1_code (1 : Nat) (Option.none : Option Jvm.ClassFile.FieldType), Jvm.Cond.code ({ cls := "com/example/gravamen/gravamen/HttpSyntax", name := "isToken", desc := "(Ljava/lang/String;)Z" } : Jvm.MethodName) prog_2_method_2_code (1 : Nat) (Option.some Jvm.ClassFile.FieldType.boolean), Jvm.Cond.code ({ cls := "java/lang/String", name := "isEmpty", desc := "()Z" } : Jvm.MethodName) jdk_42_method_55_code (1 : Nat) (Option.some Jvm.ClassFile.FieldType.boolean), Jvm.Cond.code ({ cls := "java/lang/String", name := "valueOf", desc := "(C)Ljava/lang/String;" } : Jvm.MethodName) jdk_42_method_139_code (1 : Nat) (Option.some (Jvm.ClassFile.FieldType.object "java/lang/String")), Jvm.Cond.code ({ cls := "java/lang/StringLatin1", name := "canEncode", desc := "(C)Z" } : Jvm.MethodName) jdk_43_method_3_code (1 : Nat) (Option.some Jvm.ClassFile.FieldType.boolean), Jvm.Cond.code ({ cls := "java/lang/StringLatin1", name := "toBytes", desc := "(C)[B" } : Jvm.MethodName) jdk_43_method_46_code (1 : Nat) (Option.some (Jvm.ClassFile.FieldType.array Jvm.ClassFile.FieldType.byte)), Jvm.Cond.code ({ cls := "java/lang/String", name := "<init>", desc := "([BB)V" } : Jvm.MethodName) jdk_42_method_151_code (3 : Nat) (Option.none : Option Jvm.ClassFile.FieldType), Jvm.Cond.code ({ cls := "com/example/gravamen/gravamen/HttpSyntaxIsTokenPinLaw", name := "tchar", desc := "(C)Z" } : Jvm.MethodName) method_4_code (1 : Nat) (Option.some Jvm.ClassFile.FieldType.boolean), Jvm.Cond.code ({ cls := "com/example/gravamen/gravamen/HttpSyntax", name := "consistsOf", desc := "(Ljava/lang/String;[Z)Z" } : Jvm.MethodName) prog_2_method_12_code (4 : Nat) (Option.some Jvm.ClassFile.FieldType.boolean), Jvm.Cond.code ({ cls := "java/lang/String", name := "length", desc := "()I" } : Jvm.MethodName) jdk_42_method_54_code (1 : Nat) (Option.some Jvm.ClassFile.FieldType.int), Jvm.Cond.code ({ cls := "java/lang/String", name := "coder", desc := "()B" } : Jvm.MethodName) jdk_42_method_152_code (1 : Nat) (Option.some Jvm.ClassFile.FieldType.byte), Jvm.Cond.code ({ cls := "java/lang/String", name := "charAt", desc := "(I)C" } : Jvm.MethodName) jdk_42_method_56_code (2 : Nat) (Option.some Jvm.ClassFile.FieldType.char), Jvm.Cond.code ({ cls := "java/lang/String", name := "isLatin1", desc := "()Z" } : Jvm.MethodName) jdk_42_method_154_code (1 : Nat) (Option.some Jvm.ClassFile.FieldType.boolean), Jvm.Cond.code ({ cls := "java/lang/StringLatin1", name := "charAt", desc := "([BI)C" } : Jvm.MethodName) jdk_43_method_2_code (2 : Nat) (Option.some Jvm.ClassFile.FieldType.char), Jvm.Cond.code ({ cls := "java/lang/String", name := "checkIndex", desc := "(II)V" } : Jvm.MethodName) jdk_42_method_155_code (2 : Nat) (Option.none : Option Jvm.ClassFile.FieldType), Jvm.Cond.code ({ cls := "jdk/internal/util/Preconditions", name := "checkIndex", desc := "(IILjava/util/function/BiFunction;)I" } : Jvm.MethodName) jdk_41_method_11_code (3 : Nat) (Option.some Jvm.ClassFile.FieldType.int), Jvm.Cond.code ({ cls := "java/lang/StringUTF16", name := "compress", desc := "([CII)[B" } : Jvm.MethodName) jdk_52_method_16_code (6 : Nat) (Option.some (Jvm.ClassFile.FieldType.array Jvm.ClassFile.FieldType.byte)), Jvm.Cond.code ({ cls := "java/lang/StringUTF16", name := "compress", desc := "([CI[BII)I" } : Jvm.MethodName) jdk_52_method_21_code (7 : Nat) (Option.some Jvm.ClassFile.FieldType.int), Jvm.Cond.code ({ cls := "java/lang/StringUTF16", name := "coderFromArrayLen", desc := "([BI)B" } : Jvm.MethodName) jdk_52_method_15_code (2 : Nat) (Option.some Jvm.ClassFile.FieldType.byte), Jvm.Cond.code ({ cls := "java/lang/StringUTF16", name := "toBytes", desc := "([CII)[B" } : Jvm.MethodName) jdk_52_method_14_code (5 : Nat) (Option.some (Jvm.ClassFile.FieldType.array Jvm.ClassFile.FieldType.byte)), Jvm.Cond.code ({ cls := "java/lang/StringUTF16", name := "newBytesFor", desc := "(I)[B" } : Jvm.MethodName) jdk_52_method_2_code (1 : Nat) (Option.some (Jvm.ClassFile.FieldType.array Jvm.ClassFile.FieldType.byte)), Jvm.Cond.code ({ cls := "java/lang/StringUTF16", name := "newBytesLength", desc := "(I)I" } : Jvm.MethodName) jdk_52_method_3_code (1 : Nat) (Option.some Jvm.ClassFile.FieldType.int), Jvm.Cond.code ({ cls := "java/lang/StringUTF16", name := "putChar", desc := "([BII)V" } : Jvm.MethodName) jdk_52_method_4_code (3 : Nat) (Option.none : Option Jvm.ClassFile.FieldType), Jvm.Cond.code ({ cls := "java/lang/StringUTF16", name := "getChar", desc := "([BI)C" } : Jvm.MethodName) jdk_52_method_5_code (2 : Nat) (Option.some Jvm.ClassFile.FieldType.char), Jvm.Cond.code ({ cls := "java/lang/StringUTF16", name := "charAt", desc := "([BI)C" } : Jvm.MethodName) jdk_52_method_83_code (2 : Nat) (Option.some Jvm.ClassFile.FieldType.char), Jvm.Cond.code ({ cls := "java/lang/StringUTF16", name := "checkIndex", desc := "(I[B)V" } : Jvm.MethodName) jdk_52_method_91_code (2 : Nat) (Option.none : Option Jvm.ClassFile.FieldType), Jvm.Cond.code ({ cls := "java/lang/StringUTF16", name := "length", desc := "([B)I" } : Jvm.MethodName) jdk_52_method_6_code (1 : Nat) (Option.some Jvm.ClassFile.FieldType.int), Jvm.Cond.code ({ cls := "java/lang/StringUTF16", name := "toBytes", desc := "(C)[B" } : Jvm.MethodName) jdk_52_method_24_code (2 : Nat) (Option.some (Jvm.ClassFile.FieldType.array Jvm.ClassFile.FieldType.byte))]
set_option maxRecDepth 65536 in
theorem codes_eq : words1.filter isCode = codes1 := rfl
theorem w_codes : ∀ c ∈ words1.filter isCode, c.before args0 about1 = true := by
  rw [codes_eq]
  intro c hc
  simp only [codes1, List.mem_cons, List.not_mem_nil, or_false] at hc
  rcases hc with rfl | rfl | rfl | rfl | rfl | rfl | rfl | rfl | rfl | rfl | rfl | rfl | rfl | rfl | rfl | rfl | rfl | rfl | rfl | rfl | rfl | rfl | rfl | rfl | rfl | rfl | rfl | rfl | rfl | rfl | rfl | rfl
  · exact w_c0
  · exact w_c1
  · exact w_c2
  · exact w_c3
  · exact w_c4
  · exact w_c5
  · exact w_c6
  · exact w_c7
  · exact w_c8
  · exact w_c9
  · exact w_c10
  · exact w_c11
  · exact w_c12
  · exact w_c13
  · exact w_c14
  · exact w_c15
  · exact w_c16
  · exact w_c17
  · exact w_c18
  · exact w_c19
  · exact w_c20
  · exact w_c21
  · exact w_c22
  · exact w_c23
  · exact w_c24
  · exact w_c25
  · exact w_c26
  · exact w_c27
  · exact w_c28
  · exact w_c29
  · exact w_c30
  · exact w_c31
set_option maxRecDepth 65536 in
theorem w_t1 : (words1.take 24).all (fun c => isCode c || c.before args0 about1) = true := by decide +kernel
set_option maxRecDepth 65536 in
theorem w_t2 : ((words1.drop 24).take 24).all (fun c => isCode c || c.before args0 about1) = true := by decide +kernel
set_option maxRecDepth 65536 in
theorem w_t3 : (((words1.drop 24).drop 24).take 24).all (fun c => isCode c || c.before args0 about1) = true := by decide +kernel
set_option maxRecDepth 65536 in
theorem w_t4 : ((((words1.drop 24).drop 24).drop 24).take 24).all (fun c => isCode c || c.before args0 about1) = true := by decide +kernel
set_option maxRecDepth 65536 in
theorem w_t5 : (((((words1.drop 24).drop 24).drop 24).drop 24).take 24).all (fun c => isCode c || c.before args0 about1) = true := by decide +kernel
set_option maxRecDepth 65536 in
theorem w_t6 : (((((words1.drop 24).drop 24).drop 24).drop 24).drop 24).all (fun c => isCode c || c.before args0 about1) = true := by decide +kernel
theorem w_tables : (allAtoms (Jvm.Cond.code x code maxLocals ret :: tables_1)).before args0 about1 = true := by
  rw [allAtoms_all]
  show words1.all (fun c => c.before args0 about1) = true
  refine all_split ?_ w_codes
  rw [← List.take_append_drop 24 words1, List.all_append, w_t1, ← List.take_append_drop 24 (words1.drop 24), List.all_append, w_t2, ← List.take_append_drop 24 ((words1.drop 24).drop 24), List.all_append, w_t3, ← List.take_append_drop 24 (((words1.drop 24).drop 24).drop 24), List.all_append, w_t4, ← List.take_append_drop 24 ((((words1.drop 24).drop 24).drop 24).drop 24), List.all_append, w_t5, w_t6]
  rfl
set_option maxRecDepth 65536 in
theorem w_rest : rest_1_c.before args0 about1 = true := by decide +kernel
set_option maxRecDepth 65536 in
theorem w_case : (Jvm.Cond.and given_1 narrow_1).before args0 about1 = true := by decide +kernel
set_option maxRecDepth 65536 in
theorem w_consts : constsHeld consts_1 about1 := Jvm.Lit.constsHeldB_iff.mp (by decide +kernel)
theorem w_applies : (headSpec (Jvm.Cond.code x code maxLocals ret :: tables_1) room_1).applies x e0.platform about1 = true :=
  (Spec.applies_iff w_frames).mpr ⟨w_running, w_runnable, w_alone, w_named, w_hears, w_ripe, w_room, w_tables⟩
theorem atStart : AtStart classFile x code maxLocals ret World_1 tables_1 room_1 Calls_1 rest_1 Pre_1 launch0 p0 e0 about1 theMethod args0 below0 :=
  ⟨lists_1, trivial, launch0.admits_env _ _ _, launch0.least_env, fairChoices_fair.cas, fairChoices_fair.clock, w_frames, w_args, w_heap, w_applies, ⟨w_consts, trivial⟩, w_rest, w_case⟩
end start1
theorem witness_1 : WitnessClaimed_1 := ⟨start1.p0, start1.e0, start1.about1, start1.theMethod, start1.args0, start1.below0, start1.atStart⟩
end Jvm.Pilot.@@N@@
