import JvmDerived
import JvmDerived.Pilot.@@N@@Statement
import JvmDerived.Pilot.@@N@@Code
set_option linter.unusedVariables false
set_option linter.unusedSimpArgs false
namespace Jvm.Pilot.@@N@@
open Jvm Jvm.ClassFile Sem Op Lib Jvm.Free Jvm.Stand Jvm.LawKit Jvm.RoadKit Bundle Jvm.Pilot.@@N@@.Jvm.D
/-! ## A body, its walk (Wk) and its contract (Cn) -/
abbrev Bdy : Type := MethodName × ByteArray × Nat × Option FieldType × Room
abbrev Bdy.y (b : Bdy) : MethodName := b.1
abbrev Bdy.code (b : Bdy) : ByteArray := b.2.1
abbrev Bdy.maxL (b : Bdy) : Nat := b.2.2.1
abbrev Bdy.ret (b : Bdy) : Option FieldType := b.2.2.2.1
abbrev Bdy.room (b : Bdy) : Room := b.2.2.2.2
/-- what is known of the VM's tables: none: only warmer; some: which texts were interned, which literals are resolved -/
abbrev Lts : Type := Option (List String × List (String × Nat × Addr))
def VI (Z : State) (I : Lts) (vm : Vm) : Prop := match I with
  | none => Z.WarmedH vm
  | some q => IB Z vm q.1 ∧ ∀ u ∈ q.2, Lit (Z.setVm vm) u.1 u.2.1 u.2.2
theorem VI.warm {Z s : State} {I : Lts} {vm' : Vm} (hV : VI Z I s.vm) (hW : s.WarmedH vm') : VI Z I vm' := by
  cases I with
  | none => exact State.WarmedH.trans hV hW
  | some q =>
    refine ⟨?_, fun u hu => ?_⟩
    · obtain ⟨more, h1, h2⟩ := hV.1
      exact ⟨more, by rw [hW.interned_eq]; exact h1, h2⟩
    · exact Lit.stays (vm0 := s.vm) (hV.2 u hu) (by exact hW.wide)
abbrev Cx : Type := Launch × State × Nat × Nat × Bdy × (Option Value → Heap → Lts → Prop)
abbrev Cx.l (c : Cx) : Launch := c.1
abbrev Cx.Z (c : Cx) : State := c.2.1
abbrev Cx.N (c : Cx) : Nat := c.2.2.1
abbrev Cx.M (c : Cx) : Nat := c.2.2.2.1
abbrev Cx.b (c : Cx) : Bdy := c.2.2.2.2.1
abbrev Cx.Q (c : Cx) : Option Value → Heap → Lts → Prop := c.2.2.2.2.2
def Fini (C : Cx) (s : State) (o : Outcome) (t : State) : Prop :=
  ∃ v L J, o = .returned v ∧ C.Q v t.heap J ∧ VI C.Z J t.vm ∧ Fr C.N L ∧ Ext C.Z.heap t.heap ∧ ReturnedEndW s o t L C.b.room.cells C.b.room.slots
def St (C : Cx) (p : Program) (e : Env) (s : State) (vm0 : Vm) (m : MethodId) (args : Array Value) (below : List Frame) (meth : Method) (c : Code) (T : State) (locs : List Loc) (k0 : Nat) (h : Heap) (k n : Nat) (I : Lts) : Prop :=
  (p.tables.exec = Jvm.exec ∧ c.code = C.b.code ∧ c.maxLocals = C.b.maxL ∧ meth.sig.returnType = C.b.ret ∧ meth.locks = false ∧ meth.name = C.b.y.name ∧ C.Z.heap.size ≤ C.N ∧ s.heap.size = C.M ∧ Ext C.Z.heap s.heap) ∧
  (vm0.findClass C.b.y.cls = some m.cls ∧ C.Z.Warmed39 vm0 ∧ s.Since vm0 k0 ∧ VI C.Z I vm0) ∧
  (k0 ≤ h.size ∧ Stand p C.l e C.b.room (s.setVm vm0) m args below meth c T locs k n ∧ T.heap = h ∧ Ext C.Z.heap h ∧ C.N ≤ h.size ∧ Fr C.N locs)
def Wk (C : Cx) (h : Heap) (k n : Nat) (I : Lts) (pc : Nat) (Ls : Array Slot) (st : List Value) : Prop :=
  ∀ (p : Program) (e : Env) (s : State) (vm0 : Vm) (m : MethodId) (args : Array Value) (below : List Frame) (meth : Method) (c : Code) (T : State) (locs : List Loc) (k0 : Nat),
    St C p e s vm0 m args below meth c T locs k0 h k n I →
    ∃ t o, Steps p.tables e below (T.setTop (mkF m pc Ls st)) t ∧ t.status = .running ∧ Ended t below o ∧ Fini C s o t
def Cn (l : Launch) (Z : State) (N : Nat) (b : Bdy) (as : Array Value) (h : Heap) (I : Lts) (Q : Option Value → Heap → Lts → Prop) : Prop :=
  ∀ ws : List Jvm.Cond, MetFree l b.y (head1 (Jvm.Cond.code b.y b.code b.maxL b.ret :: ws) b.room) (fun a U => a = as ∧ Z.Warmed39 U.vm ∧ U.heap = h ∧ VI Z I U.vm ∧ Ext Z.heap h ∧ N ≤ h.size ∧ Z.heap.size ≤ N) (fun _ _ _ _ _ => True) (fun _ U o U' => Fini (l, Z, N, h.size, b, Q) U o U')
theorem own_ext {h0 h : Heap} (K : Keep h0 h []) : Ext h0 h := ⟨K.1, fun a c q => K.2.1 a c q nin0⟩
section Kit
variable {C : Cx} {h h' : Heap} {k n k' n' : Nat} {I : Lts} {pc pc' : Nat} {Ls Ls' : Array Slot} {st st' rest : List Value} {a0 : Array Value}
theorem Wk.step (hs : ∀ (p : Program) (e : Env) (m : MethodId) (below : List Frame) (c : Code) (T t : State), At T m c below → p.tables.exec = Jvm.exec → c.code = C.b.code → Steps p.tables e below (T.setTop (mkF m pc' Ls' st')) t → Steps p.tables e below (T.setTop (mkF m pc Ls st)) t)
    (r : Wk C h k n I pc' Ls' st') : Wk C h k n I pc Ls st := fun p e s vm0 m args below meth c T locs k0 S => by
  obtain ⟨t, o, h1, h2⟩ := r p e s vm0 m args below meth c T locs k0 S
  exact ⟨t, o, hs p e m below c T t S.2.2.2.1.here S.1.1 S.1.2.1 h1, h2⟩
/-- a step over the Stand, the heap as it is -/
theorem Wk.law (hs : ∀ (p : Program) (e : Env) (s : State) (vm0 : Vm) (m : MethodId) (args : Array Value) (below : List Frame) (meth : Method) (c : Code) (T : State) (locs : List Loc) (k0 : Nat), St C p e s vm0 m args below meth c T locs k0 h k n I →
      ∃ T', Stand p C.l e C.b.room (s.setVm vm0) m args below meth c T' locs k n ∧ T'.heap = h ∧ ∀ t, Steps p.tables e below (T'.setTop (mkF m pc' Ls' st')) t → Steps p.tables e below (T.setTop (mkF m pc Ls st)) t)
    (r : Wk C h k n I pc' Ls' st') : Wk C h k n I pc Ls st := fun p e s vm0 m args below meth c T locs k0 S => by
  obtain ⟨T', X', e', st⟩ := hs p e s vm0 m args below meth c T locs k0 S
  obtain ⟨t, o, h1, h2⟩ := r p e s vm0 m args below meth c T' locs k0 ⟨S.1, S.2.1, S.2.2.1, X', e', S.2.2.2.2.2⟩
  exact ⟨t, o, st t h1, h2⟩
/-- a step that writes one place -/
theorem Wk.lawW {a : Addr} {sl : Nat} {v : Value} (ha : C.N ≤ a) (hs : ∀ (p : Program) (e : Env) (s : State) (vm0 : Vm) (m : MethodId) (args : Array Value) (below : List Frame) (meth : Method) (c : Code) (T : State) (locs : List Loc) (k0 : Nat), St C p e s vm0 m args below meth c T locs k0 h k n I →
      ∃ T' h', Stand p C.l e C.b.room (s.setVm vm0) m args below meth c T' (locs ++ [⟨a, sl⟩]) k n ∧ T'.heap = h' ∧ Wr h h' a sl v ∧ ∀ t, Steps p.tables e below (T'.setTop (mkF m pc' Ls' st')) t → Steps p.tables e below (T.setTop (mkF m pc Ls st)) t)
    (r : ∀ h', Wr h h' a sl v → Wk C h' k n I pc' Ls' st') : Wk C h k n I pc Ls st := fun p e s vm0 m args below meth c T locs k0 S => by
  obtain ⟨T', h', X', e', W, st⟩ := hs p e s vm0 m args below meth c T locs k0 S
  obtain ⟨A, B, q1, q2, q3, q4, q5, q6⟩ := S
  have hO : Old C.Z C.Z.heap.size h := ⟨rfl, q4⟩
  obtain ⟨t, o, h1, h2⟩ := r h' W p e s vm0 m args below meth c T' _ k0 ⟨A, B, by rw [W.size]; exact q1, X', e', (hO.wr W (Nat.le_trans A.2.2.2.2.2.2.1 ha)).2, by rw [W.size]; exact q5, Fr.snoc X' q6 ha⟩
  exact ⟨t, o, st t h1, h2⟩
/-- a step that makes a cell -/
theorem Wk.lawE {P : Heap → Prop} (hs : ∀ (p : Program) (e : Env) (s : State) (vm0 : Vm) (m : MethodId) (args : Array Value) (below : List Frame) (meth : Method) (c : Code) (T : State) (locs : List Loc) (k0 : Nat), St C p e s vm0 m args below meth c T locs k0 h k n I →
      ∃ T' h', Stand p C.l e C.b.room (s.setVm vm0) m args below meth c T' locs k' n' ∧ T'.heap = h' ∧ Ext h h' ∧ P h' ∧ ∀ t, Steps p.tables e below (T'.setTop (mkF m pc' Ls' st')) t → Steps p.tables e below (T.setTop (mkF m pc Ls st)) t)
    (r : ∀ h', Ext h h' → P h' → Wk C h' k' n' I pc' Ls' st') : Wk C h k n I pc Ls st := fun p e s vm0 m args below meth c T locs k0 S => by
  obtain ⟨T', h', X', e', E, hp, st⟩ := hs p e s vm0 m args below meth c T locs k0 S
  obtain ⟨A, B, q1, q2, q3, q4, q5, q6⟩ := S
  obtain ⟨t, o, h1, h2⟩ := r h' E hp p e s vm0 m args below meth c T' _ k0 ⟨A, B, Nat.le_trans q1 E.1, X', e', ⟨Nat.le_trans q4.1 E.1, fun x c hx => E.2 _ _ (q4.2 _ _ hx)⟩, Nat.le_trans q5 E.1, q6⟩
  exact ⟨t, o, st t h1, h2⟩
/-- what stands at every point -/
theorem Wk.see (r : Ext C.Z.heap h → C.N ≤ h.size → C.Z.heap.size ≤ C.N → Wk C h k n I pc Ls st) : Wk C h k n I pc Ls st := fun p e s vm0 m args below meth c T locs k0 S =>
  r S.2.2.2.2.2.1 S.2.2.2.2.2.2.1 S.1.2.2.2.2.2.2.1 p e s vm0 m args below meth c T locs k0 S
theorem Wk.more (hk : k ≤ k') (hn : n ≤ n') (r : Wk C h k' n' I pc Ls st) : Wk C h k n I pc Ls st := fun p e s vm0 m args below meth c T locs k0 S =>
  r p e s vm0 m args below meth c T locs k0 ⟨S.1, S.2.1, S.2.2.1, S.2.2.2.1.mono hk hn, S.2.2.2.2⟩
theorem Wk.iadd {x y : Int32} (hd : decode C.b.code pc = .ok (.iadd, 1)) (hp : pc + 1 = pc') (r : Wk C h k n I pc' Ls (.int (x + y) :: rest)) : Wk C h k n I pc Ls (.int y :: .int x :: rest) := by
  subst hp
  exact Wk.step (fun _ _ _ _ _ _ _ ha hx hby kt => XS.iadd ha hx rfl (hb hby hd) rfl kt) r
theorem Wk.isub {x y : Int32} (hd : decode C.b.code pc = .ok (.isub, 1)) (hp : pc + 1 = pc') (r : Wk C h k n I pc' Ls (.int (x - y) :: rest)) : Wk C h k n I pc Ls (.int y :: .int x :: rest) := by
  subst hp
  exact Wk.step (fun _ _ _ _ _ _ _ ha hx hby kt => XS.isub ha hx rfl (hb hby hd) rfl kt) r
theorem Wk.imul {x y : Int32} (hd : decode C.b.code pc = .ok (.imul, 1)) (hp : pc + 1 = pc') (r : Wk C h k n I pc' Ls (.int (x * y) :: rest)) : Wk C h k n I pc Ls (.int y :: .int x :: rest) := by
  subst hp
  exact Wk.step (fun _ _ _ _ _ _ _ ha hx hby kt => XS.imul ha hx rfl (hb hby hd) rfl kt) r
theorem Wk.iand {x y : Int32} (hd : decode C.b.code pc = .ok (.iand, 1)) (hp : pc + 1 = pc') (r : Wk C h k n I pc' Ls (.int (x &&& y) :: rest)) : Wk C h k n I pc Ls (.int y :: .int x :: rest) := by
  subst hp
  exact Wk.step (fun _ _ _ _ _ _ _ ha hx hby kt => XS.iand ha hx rfl (hb hby hd) rfl kt) r
theorem Wk.ior {x y : Int32} (hd : decode C.b.code pc = .ok (.ior, 1)) (hp : pc + 1 = pc') (r : Wk C h k n I pc' Ls (.int (x ||| y) :: rest)) : Wk C h k n I pc Ls (.int y :: .int x :: rest) := by
  subst hp
  exact Wk.step (fun _ _ _ _ _ _ _ ha hx hby kt => XS.ior ha hx rfl (hb hby hd) rfl kt) r
theorem Wk.ixor {x y : Int32} (hd : decode C.b.code pc = .ok (.ixor, 1)) (hp : pc + 1 = pc') (r : Wk C h k n I pc' Ls (.int (x ^^^ y) :: rest)) : Wk C h k n I pc Ls (.int y :: .int x :: rest) := by
  subst hp
  exact Wk.step (fun _ _ _ _ _ _ _ ha hx hby kt => XS.ixor ha hx rfl (hb hby hd) rfl kt) r
theorem Wk.ishl {x y : Int32} (hd : decode C.b.code pc = .ok (.ishl, 1)) (hp : pc + 1 = pc') (r : Wk C h k n I pc' Ls (.int (x <<< (y &&& 31)) :: rest)) : Wk C h k n I pc Ls (.int y :: .int x :: rest) := by
  subst hp
  exact Wk.step (fun _ _ _ _ _ _ _ ha hx hby kt => XS.ishl ha hx rfl (hb hby hd) rfl kt) r
theorem Wk.ishr {x y : Int32} (hd : decode C.b.code pc = .ok (.ishr, 1)) (hp : pc + 1 = pc') (r : Wk C h k n I pc' Ls (.int (x >>> (y &&& 31)) :: rest)) : Wk C h k n I pc Ls (.int y :: .int x :: rest) := by
  subst hp
  exact Wk.step (fun _ _ _ _ _ _ _ ha hx hby kt => XS.ishr ha hx rfl (hb hby hd) rfl kt) r
theorem Wk.iushr {x y : Int32} (hd : decode C.b.code pc = .ok (.iushr, 1)) (hp : pc + 1 = pc') (r : Wk C h k n I pc' Ls (.int ((x.toUInt32 >>> (y &&& 31).toUInt32).toInt32) :: rest)) : Wk C h k n I pc Ls (.int y :: .int x :: rest) := by
  subst hp
  exact Wk.step (fun _ _ _ _ _ _ _ ha hx hby kt => XS.iushr ha hx rfl (hb hby hd) rfl kt) r
theorem Wk.ladd {x y : Int64} (hd : decode C.b.code pc = .ok (.ladd, 1)) (hp : pc + 1 = pc') (r : Wk C h k n I pc' Ls (.long (x + y) :: rest)) : Wk C h k n I pc Ls (.long y :: .long x :: rest) := by
  subst hp
  exact Wk.step (fun _ _ _ _ _ _ _ ha hx hby kt => XS.ladd ha hx rfl (hb hby hd) rfl kt) r
theorem Wk.lsub {x y : Int64} (hd : decode C.b.code pc = .ok (.lsub, 1)) (hp : pc + 1 = pc') (r : Wk C h k n I pc' Ls (.long (x - y) :: rest)) : Wk C h k n I pc Ls (.long y :: .long x :: rest) := by
  subst hp
  exact Wk.step (fun _ _ _ _ _ _ _ ha hx hby kt => XS.lsub ha hx rfl (hb hby hd) rfl kt) r
theorem Wk.lmul {x y : Int64} (hd : decode C.b.code pc = .ok (.lmul, 1)) (hp : pc + 1 = pc') (r : Wk C h k n I pc' Ls (.long (x * y) :: rest)) : Wk C h k n I pc Ls (.long y :: .long x :: rest) := by
  subst hp
  exact Wk.step (fun _ _ _ _ _ _ _ ha hx hby kt => XS.lmul ha hx rfl (hb hby hd) rfl kt) r
theorem Wk.land {x y : Int64} (hd : decode C.b.code pc = .ok (.land, 1)) (hp : pc + 1 = pc') (r : Wk C h k n I pc' Ls (.long (x &&& y) :: rest)) : Wk C h k n I pc Ls (.long y :: .long x :: rest) := by
  subst hp
  exact Wk.step (fun _ _ _ _ _ _ _ ha hx hby kt => XS.land ha hx rfl (hb hby hd) rfl kt) r
theorem Wk.lor {x y : Int64} (hd : decode C.b.code pc = .ok (.lor, 1)) (hp : pc + 1 = pc') (r : Wk C h k n I pc' Ls (.long (x ||| y) :: rest)) : Wk C h k n I pc Ls (.long y :: .long x :: rest) := by
  subst hp
  exact Wk.step (fun _ _ _ _ _ _ _ ha hx hby kt => XS.lor ha hx rfl (hb hby hd) rfl kt) r
theorem Wk.lxor {x y : Int64} (hd : decode C.b.code pc = .ok (.lxor, 1)) (hp : pc + 1 = pc') (r : Wk C h k n I pc' Ls (.long (x ^^^ y) :: rest)) : Wk C h k n I pc Ls (.long y :: .long x :: rest) := by
  subst hp
  exact Wk.step (fun _ _ _ _ _ _ _ ha hx hby kt => XS.lxor ha hx rfl (hb hby hd) rfl kt) r
theorem Wk.lshl {x : Int64} {y : Int32} (hd : decode C.b.code pc = .ok (.lshl, 1)) (hp : pc + 1 = pc') (r : Wk C h k n I pc' Ls (.long (x <<< (y &&& 0x3f).toInt64) :: rest)) : Wk C h k n I pc Ls (.int y :: .long x :: rest) := by
  subst hp
  exact Wk.step (fun _ _ _ _ _ _ _ ha hx hby kt => XS.lshl ha hx rfl (hb hby hd) rfl kt) r
theorem Wk.lshr {x : Int64} {y : Int32} (hd : decode C.b.code pc = .ok (.lshr, 1)) (hp : pc + 1 = pc') (r : Wk C h k n I pc' Ls (.long (x >>> (y &&& 0x3f).toInt64) :: rest)) : Wk C h k n I pc Ls (.int y :: .long x :: rest) := by
  subst hp
  exact Wk.step (fun _ _ _ _ _ _ _ ha hx hby kt => XS.lshr ha hx rfl (hb hby hd) rfl kt) r
theorem Wk.lushr {x : Int64} {y : Int32} (hd : decode C.b.code pc = .ok (.lushr, 1)) (hp : pc + 1 = pc') (r : Wk C h k n I pc' Ls (.long ((x.toUInt64 >>> (y &&& 0x3f).toInt64.toUInt64).toInt64) :: rest)) : Wk C h k n I pc Ls (.int y :: .long x :: rest) := by
  subst hp
  exact Wk.step (fun _ _ _ _ _ _ _ ha hx hby kt => XS.lushr ha hx rfl (hb hby hd) rfl kt) r
theorem Wk.idiv {x y : Int32} (hd : decode C.b.code pc = .ok (.idiv, 1)) (hp : pc + 1 = pc') (hy : y ≠ 0) (r : Wk C h k n I pc' Ls (.int (x / y) :: rest)) : Wk C h k n I pc Ls (.int y :: .int x :: rest) := by
  subst hp
  exact Wk.step (fun _ _ _ _ _ _ _ ha hx hby kt => XS.idiv ha hx rfl (hb hby hd) rfl hy kt) r
theorem Wk.ldiv {x y : Int64} (hd : decode C.b.code pc = .ok (.ldiv, 1)) (hp : pc + 1 = pc') (hy : y ≠ 0) (r : Wk C h k n I pc' Ls (.long (x / y) :: rest)) : Wk C h k n I pc Ls (.long y :: .long x :: rest) := by
  subst hp
  exact Wk.step (fun _ _ _ _ _ _ _ ha hx hby kt => XS.ldiv ha hx rfl (hb hby hd) rfl hy kt) r
theorem Wk.lrem {x y : Int64} (hd : decode C.b.code pc = .ok (.lrem, 1)) (hp : pc + 1 = pc') (hy : y ≠ 0) (r : Wk C h k n I pc' Ls (.long (x - (x / y) * y) :: rest)) : Wk C h k n I pc Ls (.long y :: .long x :: rest) := by
  subst hp
  exact Wk.step (fun _ _ _ _ _ _ _ ha hx hby kt => XS.lrem ha hx rfl (hb hby hd) rfl hy kt) r
theorem Wk.ineg {x : Int32} (hd : decode C.b.code pc = .ok (.ineg, 1)) (hp : pc + 1 = pc') (r : Wk C h k n I pc' Ls (.int (-x) :: rest)) : Wk C h k n I pc Ls (.int x :: rest) := by
  subst hp
  exact Wk.step (fun _ _ _ _ _ _ _ ha hx hby kt => XS.ineg ha hx rfl (hb hby hd) rfl kt) r
theorem Wk.lneg {x : Int64} (hd : decode C.b.code pc = .ok (.lneg, 1)) (hp : pc + 1 = pc') (r : Wk C h k n I pc' Ls (.long (-x) :: rest)) : Wk C h k n I pc Ls (.long x :: rest) := by
  subst hp
  exact Wk.step (fun _ _ _ _ _ _ _ ha hx hby kt => XS.lneg ha hx rfl (hb hby hd) rfl kt) r
theorem Wk.i2l {x : Int32} (hd : decode C.b.code pc = .ok (.i2l, 1)) (hp : pc + 1 = pc') (r : Wk C h k n I pc' Ls (.long x.toInt64 :: rest)) : Wk C h k n I pc Ls (.int x :: rest) := by
  subst hp
  exact Wk.step (fun _ _ _ _ _ _ _ ha hx hby kt => XS.i2l ha hx rfl (hb hby hd) rfl kt) r
theorem Wk.l2i {x : Int64} (hd : decode C.b.code pc = .ok (.l2i, 1)) (hp : pc + 1 = pc') (r : Wk C h k n I pc' Ls (.int x.toInt32 :: rest)) : Wk C h k n I pc Ls (.long x :: rest) := by
  subst hp
  exact Wk.step (fun _ _ _ _ _ _ _ ha hx hby kt => XS.l2i ha hx rfl (hb hby hd) rfl kt) r
theorem Wk.i2b {x : Int32} (hd : decode C.b.code pc = .ok (.i2b, 1)) (hp : pc + 1 = pc') (r : Wk C h k n I pc' Ls (.int x.toInt8.toInt32 :: rest)) : Wk C h k n I pc Ls (.int x :: rest) := by
  subst hp
  exact Wk.step (fun _ _ _ _ _ _ _ ha hx hby kt => XS.i2b ha hx rfl (hb hby hd) rfl kt) r
theorem Wk.i2c {x : Int32} (hd : decode C.b.code pc = .ok (.i2c, 1)) (hp : pc + 1 = pc') (r : Wk C h k n I pc' Ls (.int x.toUInt32.toUInt16.toUInt32.toInt32 :: rest)) : Wk C h k n I pc Ls (.int x :: rest) := by
  subst hp
  exact Wk.step (fun _ _ _ _ _ _ _ ha hx hby kt => XS.i2c ha hx rfl (hb hby hd) rfl kt) r
theorem Wk.i2s {x : Int32} (hd : decode C.b.code pc = .ok (.i2s, 1)) (hp : pc + 1 = pc') (r : Wk C h k n I pc' Ls (.int x.toInt16.toInt32 :: rest)) : Wk C h k n I pc Ls (.int x :: rest) := by
  subst hp
  exact Wk.step (fun _ _ _ _ _ _ _ ha hx hby kt => XS.i2s ha hx rfl (hb hby hd) rfl kt) r
theorem Wk.lcmp {x y : Int64} (hd : decode C.b.code pc = .ok (.lcmp, 1)) (hp : pc + 1 = pc') (r : Wk C h k n I pc' Ls (.int (lcmpW x y) :: rest)) : Wk C h k n I pc Ls (.long y :: .long x :: rest) := by
  subst hp
  exact Wk.step (fun _ _ _ _ _ _ _ ha hx hby kt => XS.lcmp ha hx rfl (hb hby hd) rfl kt) r
theorem Wk.dup {x : Value} (hd : decode C.b.code pc = .ok (.dup, 1)) (hp : pc + 1 = pc') (hc : x.category = 1) (r : Wk C h k n I pc' Ls (x :: x :: rest)) : Wk C h k n I pc Ls (x :: rest) := by
  subst hp
  exact Wk.step (fun _ _ _ _ _ _ _ ha hx hby kt => XS.dup ha hx rfl (hb hby hd) rfl hc kt) r
theorem Wk.dupX1 {x y : Value} (hd : decode C.b.code pc = .ok (.dup_x1, 1)) (hp : pc + 1 = pc') (hc : x.category = 1) (hc2 : y.category = 1) (r : Wk C h k n I pc' Ls (x :: y :: x :: rest)) : Wk C h k n I pc Ls (x :: y :: rest) := by
  subst hp
  exact Wk.step (fun _ _ _ _ _ _ _ ha hx hby kt => XS.dupX1 ha hx rfl (hb hby hd) rfl hc hc2 kt) r
theorem Wk.dup2 {x y : Value} (hd : decode C.b.code pc = .ok (.dup2, 1)) (hp : pc + 1 = pc') (hc : x.category = 1) (hc2 : y.category = 1) (r : Wk C h k n I pc' Ls (x :: y :: x :: y :: rest)) : Wk C h k n I pc Ls (x :: y :: rest) := by
  subst hp
  exact Wk.step (fun _ _ _ _ _ _ _ ha hx hby kt => Jvm.Free.XT.dup2 ha hx rfl (hb hby hd) rfl hc hc2 kt) r
theorem Wk.dup2L {x : Int64} (hd : decode C.b.code pc = .ok (.dup2, 1)) (hp : pc + 1 = pc') (r : Wk C h k n I pc' Ls (.long x :: .long x :: rest)) : Wk C h k n I pc Ls (.long x :: rest) := by
  subst hp
  exact Wk.step (fun _ _ _ _ _ _ _ ha hx hby kt => Jvm.Free.XT.dup2L ha hx rfl (hb hby hd) rfl kt) r
theorem Wk.pop {x : Value} (hd : decode C.b.code pc = .ok (.pop, 1)) (hp : pc + 1 = pc') (hc : x.category = 1) (r : Wk C h k n I pc' Ls (rest)) : Wk C h k n I pc Ls (x :: rest) := by
  subst hp
  exact Wk.step (fun _ _ _ _ _ _ _ ha hx hby kt => XS.pop ha hx rfl (hb hby hd) rfl hc kt) r
theorem Wk.swap {x y : Value} (hd : decode C.b.code pc = .ok (.swap, 1)) (hp : pc + 1 = pc') (hc : x.category = 1) (hc2 : y.category = 1) (r : Wk C h k n I pc' Ls (y :: x :: rest)) : Wk C h k n I pc Ls (x :: y :: rest) := by
  subst hp
  exact Wk.step (fun _ _ _ _ _ _ _ ha hx hby kt => XS.swap ha hx rfl (hb hby hd) rfl hc hc2 kt) r
theorem Wk.aconstNull  (hd : decode C.b.code pc = .ok (.aconst_null, 1)) (hp : pc + 1 = pc') (r : Wk C h k n I pc' Ls (.null :: st)) : Wk C h k n I pc Ls (st) := by
  subst hp
  exact Wk.step (fun _ _ _ _ _ _ _ ha hx hby kt => XS.aconstNull ha hx rfl (hb hby hd)  kt) r
theorem Wk.i2d {x : Int32} (hd : decode C.b.code pc = .ok (.i2d, 1)) (hp : pc + 1 = pc') (r : Wk C h k n I pc' Ls (.double (FP.i2d x) :: rest)) : Wk C h k n I pc Ls (.int x :: rest) := by
  subst hp
  exact Wk.step (fun _ _ _ _ _ _ _ ha hx hby kt => XS.i2dS ha hx rfl (hb hby hd) rfl rfl kt) r
theorem Wk.l2d {x : Int64} (hd : decode C.b.code pc = .ok (.l2d, 1)) (hp : pc + 1 = pc') (r : Wk C h k n I pc' Ls (.double (FP.l2d x) :: rest)) : Wk C h k n I pc Ls (.long x :: rest) := by
  subst hp
  exact Wk.step (fun _ _ _ _ _ _ _ ha hx hby kt => XS.l2dS ha hx rfl (hb hby hd) rfl rfl kt) r
theorem Wk.dadd {x y : UInt64} (hd : decode C.b.code pc = .ok (.dadd, 1)) (hp : pc + 1 = pc') (hn : Jvm.Free.Fl.NoNaN64 (FP.dadd x y)) (r : Wk C h k n I pc' Ls (.double (FP.dadd x y) :: rest)) : Wk C h k n I pc Ls (.double y :: .double x :: rest) := by
  subst hp
  exact Wk.step (fun _ _ _ _ _ _ _ ha hx hby kt => XS.daddS ha hx rfl (hb hby hd) rfl hn rfl kt) r
theorem Wk.dcmpl {x y : UInt64} (hd : decode C.b.code pc = .ok (.dcmp .l, 1)) (hp : pc + 1 = pc') (r : Wk C h k n I pc' Ls (.int (cmpValue (FP.dcmp x y) .l) :: rest)) : Wk C h k n I pc Ls (.double y :: .double x :: rest) := by
  subst hp
  exact Wk.step (fun _ _ _ _ _ _ _ ha hx hby kt => XS.dcmpS ha hx rfl (hb hby hd) rfl rfl kt) r
theorem Wk.iconst {i : Int} {v : Int32} (hd : decode C.b.code pc = .ok (.iconst i, 1)) (hp : pc + 1 = pc') (hv : Int32.ofInt i = v) (r : Wk C h k n I pc' Ls (.int v :: st)) : Wk C h k n I pc Ls st := by
  subst hp hv
  exact Wk.step (fun _ _ _ _ _ _ _ ha hx hby kt => XS.iconst ha hx rfl (hb hby hd) kt) r
theorem Wk.bipush {i : Int} {v : Int32} (hd : decode C.b.code pc = .ok (.bipush i, 2)) (hp : pc + 2 = pc') (hv : (Int8.ofInt i).toInt32 = v) (r : Wk C h k n I pc' Ls (.int v :: st)) : Wk C h k n I pc Ls st := by
  subst hp hv
  exact Wk.step (fun _ _ _ _ _ _ _ ha hx hby kt => XS.bipush ha hx rfl (hb hby hd) kt) r
theorem Wk.sipush {i : Int} {v : Int32} (hd : decode C.b.code pc = .ok (.sipush i, 3)) (hp : pc + 3 = pc') (hv : (Int16.ofInt i).toInt32 = v) (r : Wk C h k n I pc' Ls (.int v :: st)) : Wk C h k n I pc Ls st := by
  subst hp hv
  exact Wk.step (fun _ _ _ _ _ _ _ ha hx hby kt => XS.sipush ha hx rfl (hb hby hd) kt) r
theorem Wk.lconst {i : Fin 2} {v : Int64} (hd : decode C.b.code pc = .ok (.lconst i, 1)) (hp : pc + 1 = pc') (hv : Int64.ofNat i = v) (r : Wk C h k n I pc' Ls (.long v :: st)) : Wk C h k n I pc Ls st := by
  subst hp hv
  exact Wk.step (fun _ _ _ _ _ _ _ ha hx hby kt => XS.lconst ha hx rfl (hb hby hd) kt) r
theorem Wk.iinc {j : Nat} {i : Int} {v x : Int32} (hd : decode C.b.code pc = .ok (.iinc j i, 3)) (hp : pc + 3 = pc') (hv : Int32.ofInt i = v) (hl : Ls[j]? = some (.val (.int x))) (hl' : storeLocals Ls j (.int (x + v)) = some Ls') (r : Wk C h k n I pc' Ls' st) : Wk C h k n I pc Ls st := by
  subst hp hv
  exact Wk.step (fun _ _ _ _ _ _ _ ha hx hby kt => XS.iinc ha hx rfl (hb hby hd) hl hl' kt) r
theorem Wk.goto {o : Int} (hd : decode C.b.code pc = .ok (.goto o, 3)) (hp : (pc : Int) + o = (pc' : Int)) (r : Wk C h k n I pc' Ls st) : Wk C h k n I pc Ls st :=
  Wk.step (fun _ _ _ _ _ _ _ ha hx hby kt => XS.goto (pc0 := pc) (pc' := pc') ha hx rfl rfl (hb hby hd) (by omega) (by omega) kt) r
theorem Wk.irem {x y : Int32} (hd : decode C.b.code pc = .ok (.irem, 1)) (hp : pc + 1 = pc') (hy : y ≠ 0) (r : Wk C h k n I pc' Ls (.int (x % y) :: rest)) : Wk C h k n I pc Ls (.int y :: .int x :: rest) := by
  subst hp
  refine Wk.law (fun p e s vm0 m args below meth c T locs k0 S => ⟨T, S.2.2.2.1, S.2.2.2.2.1, fun t kt => ?_⟩) r
  exact iremM S.2.2.2.1 S.1.1 rfl (hb S.1.2.1 hd) rfl hy kt
theorem Wk.iloadN {j : Fin 4} {v : Int32} (hd : decode C.b.code pc = .ok (.iload_n j, 1)) (hp : pc + 1 = pc') (hl : Ls[j.val]? = some (.val (.int v))) (r : Wk C h k n I pc' Ls (.int v :: st)) : Wk C h k n I pc Ls st := by
  subst hp
  exact Wk.step (fun _ _ _ _ _ _ _ ha hx hby kt => XS.iloadN ha hx rfl (hb hby hd) hl kt) r
theorem Wk.iload {j : Nat} {v : Int32} (hd : decode C.b.code pc = .ok (.iload j, 2)) (hp : pc + 2 = pc') (hl : Ls[j]? = some (.val (.int v))) (r : Wk C h k n I pc' Ls (.int v :: st)) : Wk C h k n I pc Ls st := by
  subst hp
  exact Wk.step (fun _ _ _ _ _ _ _ ha hx hby kt => XS.iload ha hx rfl (hb hby hd) hl kt) r
theorem Wk.lloadN {j : Fin 4} {v : Int64} (hd : decode C.b.code pc = .ok (.lload_n j, 1)) (hp : pc + 1 = pc') (hl : Ls[j.val]? = some (.val (.long v))) (r : Wk C h k n I pc' Ls (.long v :: st)) : Wk C h k n I pc Ls st := by
  subst hp
  exact Wk.step (fun _ _ _ _ _ _ _ ha hx hby kt => XS.lloadN ha hx rfl (hb hby hd) hl kt) r
theorem Wk.lload {j : Nat} {v : Int64} (hd : decode C.b.code pc = .ok (.lload j, 2)) (hp : pc + 2 = pc') (hl : Ls[j]? = some (.val (.long v))) (r : Wk C h k n I pc' Ls (.long v :: st)) : Wk C h k n I pc Ls st := by
  subst hp
  exact Wk.step (fun _ _ _ _ _ _ _ ha hx hby kt => XS.lload ha hx rfl (hb hby hd) hl kt) r
theorem Wk.dloadN {j : Fin 4} {v : UInt64} (hd : decode C.b.code pc = .ok (.dload_n j, 1)) (hp : pc + 1 = pc') (hl : Ls[j.val]? = some (.val (.double v))) (r : Wk C h k n I pc' Ls (.double v :: st)) : Wk C h k n I pc Ls st := by
  subst hp
  exact Wk.step (fun _ _ _ _ _ _ _ ha hx hby kt => XS.dloadN ha hx rfl (hb hby hd) hl kt) r
theorem Wk.dload {j : Nat} {v : UInt64} (hd : decode C.b.code pc = .ok (.dload j, 2)) (hp : pc + 2 = pc') (hl : Ls[j]? = some (.val (.double v))) (r : Wk C h k n I pc' Ls (.double v :: st)) : Wk C h k n I pc Ls st := by
  subst hp
  exact Wk.step (fun _ _ _ _ _ _ _ ha hx hby kt => XS.dload ha hx rfl (hb hby hd) hl kt) r
theorem Wk.aloadN {j : Fin 4} {v : Value} (hd : decode C.b.code pc = .ok (.aload_n j, 1)) (hp : pc + 1 = pc') (hl : Ls[j.val]? = some (.val v)) (hv : v.isRef = true) (r : Wk C h k n I pc' Ls (v :: st)) : Wk C h k n I pc Ls st := by
  subst hp
  exact Wk.step (fun _ _ _ _ _ _ _ ha hx hby kt => XS.aloadN ha hx rfl (hb hby hd) hl hv kt) r
theorem Wk.aload {j : Nat} {v : Value} (hd : decode C.b.code pc = .ok (.aload j, 2)) (hp : pc + 2 = pc') (hl : Ls[j]? = some (.val v)) (hv : v.isRef = true) (r : Wk C h k n I pc' Ls (v :: st)) : Wk C h k n I pc Ls st := by
  subst hp
  exact Wk.step (fun _ _ _ _ _ _ _ ha hx hby kt => XS.aload ha hx rfl (hb hby hd) hl hv kt) r
theorem Wk.istoreN {j : Fin 4} {v : Int32} (Ls' : Array Slot) (hd : decode C.b.code pc = .ok (.istore_n j, 1)) (hp : pc + 1 = pc') (hl : storeLocals Ls j.val (.int v) = some Ls') (r : Wk C h k n I pc' Ls' st) : Wk C h k n I pc Ls (.int v :: st) := by
  subst hp
  exact Wk.step (fun _ _ _ _ _ _ _ ha hx hby kt => XS.istoreN ha hx rfl (hb hby hd) rfl hl kt) r
theorem Wk.istore {j : Nat} {v : Int32} (Ls' : Array Slot) (hd : decode C.b.code pc = .ok (.istore j, 2)) (hp : pc + 2 = pc') (hl : storeLocals Ls j (.int v) = some Ls') (r : Wk C h k n I pc' Ls' st) : Wk C h k n I pc Ls (.int v :: st) := by
  subst hp
  exact Wk.step (fun _ _ _ _ _ _ _ ha hx hby kt => XS.istore ha hx rfl (hb hby hd) rfl hl kt) r
theorem Wk.lstoreN {j : Fin 4} {v : Int64} (Ls' : Array Slot) (hd : decode C.b.code pc = .ok (.lstore_n j, 1)) (hp : pc + 1 = pc') (hl : storeLocals Ls j.val (.long v) = some Ls') (r : Wk C h k n I pc' Ls' st) : Wk C h k n I pc Ls (.long v :: st) := by
  subst hp
  exact Wk.step (fun _ _ _ _ _ _ _ ha hx hby kt => XS.lstoreN ha hx rfl (hb hby hd) rfl hl kt) r
theorem Wk.lstore {j : Nat} {v : Int64} (Ls' : Array Slot) (hd : decode C.b.code pc = .ok (.lstore j, 2)) (hp : pc + 2 = pc') (hl : storeLocals Ls j (.long v) = some Ls') (r : Wk C h k n I pc' Ls' st) : Wk C h k n I pc Ls (.long v :: st) := by
  subst hp
  exact Wk.step (fun _ _ _ _ _ _ _ ha hx hby kt => XS.lstore ha hx rfl (hb hby hd) rfl hl kt) r
theorem Wk.dstoreN {j : Fin 4} {v : UInt64} (Ls' : Array Slot) (hd : decode C.b.code pc = .ok (.dstore_n j, 1)) (hp : pc + 1 = pc') (hl : storeLocals Ls j.val (.double v) = some Ls') (r : Wk C h k n I pc' Ls' st) : Wk C h k n I pc Ls (.double v :: st) := by
  subst hp
  exact Wk.step (fun _ _ _ _ _ _ _ ha hx hby kt => XS.dstoreN ha hx rfl (hb hby hd) rfl hl kt) r
theorem Wk.dstore {j : Nat} {v : UInt64} (Ls' : Array Slot) (hd : decode C.b.code pc = .ok (.dstore j, 2)) (hp : pc + 2 = pc') (hl : storeLocals Ls j (.double v) = some Ls') (r : Wk C h k n I pc' Ls' st) : Wk C h k n I pc Ls (.double v :: st) := by
  subst hp
  exact Wk.step (fun _ _ _ _ _ _ _ ha hx hby kt => XS.dstore ha hx rfl (hb hby hd) rfl hl kt) r
theorem Wk.astoreN {j : Fin 4} {v : Value} (Ls' : Array Slot) (hd : decode C.b.code pc = .ok (.astore_n j, 1)) (hp : pc + 1 = pc') (hv : v.isRef = true) (hl : storeLocals Ls j.val v = some Ls') (r : Wk C h k n I pc' Ls' st) : Wk C h k n I pc Ls (v :: st) := by
  subst hp
  exact Wk.step (fun _ _ _ _ _ _ _ ha hx hby kt => XS.astoreN ha hx rfl (hb hby hd) rfl hv hl kt) r
theorem Wk.astore {j : Nat} {v : Value} (Ls' : Array Slot) (hd : decode C.b.code pc = .ok (.astore j, 2)) (hp : pc + 2 = pc') (hv : v.isRef = true) (hl : storeLocals Ls j v = some Ls') (r : Wk C h k n I pc' Ls' st) : Wk C h k n I pc Ls (v :: st) := by
  subst hp
  exact Wk.step (fun _ _ _ _ _ _ _ ha hx hby kt => XS.astore ha hx rfl (hb hby hd) rfl hv hl kt) r
theorem Wk.icmp_eqY {x y : Int32} {o : Int} (hd : decode C.b.code pc = .ok (.if_icmp .eq o, 3)) (hp : (pc : Int) + o = (pc' : Int)) (hc : x = y) (r : Wk C h k n I pc' Ls st) : Wk C h k n I pc Ls (.int y :: .int x :: st) :=
  Wk.step (fun _ _ _ _ _ _ _ ha hx hby kt => XS.icmpYes (pc0 := pc) (pc' := pc') ha hx rfl rfl (hb hby hd) rfl ((teq hc).1) (by omega) (by omega) kt) r
theorem Wk.if_eqY {x : Int32} {o : Int} (hd : decode C.b.code pc = .ok (.ifCond .eq o, 3)) (hp : (pc : Int) + o = (pc' : Int)) (hc : x = (0 : Int32)) (r : Wk C h k n I pc' Ls st) : Wk C h k n I pc Ls (.int x :: st) :=
  Wk.step (fun _ _ _ _ _ _ _ ha hx hby kt => XS.ifYes (pc0 := pc) (pc' := pc') ha hx rfl rfl (hb hby hd) rfl ((if0 _ _).trans (teq hc).1) (by omega) (by omega) kt) r
theorem Wk.icmp_eqN {x y : Int32} {o : Int} (hd : decode C.b.code pc = .ok (.if_icmp .eq o, 3)) (hp : pc + 3 = pc') (hc : ¬ x = y) (r : Wk C h k n I pc' Ls st) : Wk C h k n I pc Ls (.int y :: .int x :: st) := by
  subst hp
  exact Wk.step (fun _ _ _ _ _ _ _ ha hx hby kt => XS.icmpNo ha hx rfl (hb hby hd) rfl ((feq hc).1) kt) r
theorem Wk.if_eqN {x : Int32} {o : Int} (hd : decode C.b.code pc = .ok (.ifCond .eq o, 3)) (hp : pc + 3 = pc') (hc : ¬ x = (0 : Int32)) (r : Wk C h k n I pc' Ls st) : Wk C h k n I pc Ls (.int x :: st) := by
  subst hp
  exact Wk.step (fun _ _ _ _ _ _ _ ha hx hby kt => XS.ifNo ha hx rfl (hb hby hd) rfl ((if0 _ _).trans (feq hc).1) kt) r
theorem Wk.icmp_neY {x y : Int32} {o : Int} (hd : decode C.b.code pc = .ok (.if_icmp .ne o, 3)) (hp : (pc : Int) + o = (pc' : Int)) (hc : ¬ x = y) (r : Wk C h k n I pc' Ls st) : Wk C h k n I pc Ls (.int y :: .int x :: st) :=
  Wk.step (fun _ _ _ _ _ _ _ ha hx hby kt => XS.icmpYes (pc0 := pc) (pc' := pc') ha hx rfl rfl (hb hby hd) rfl ((feq hc).2) (by omega) (by omega) kt) r
theorem Wk.if_neY {x : Int32} {o : Int} (hd : decode C.b.code pc = .ok (.ifCond .ne o, 3)) (hp : (pc : Int) + o = (pc' : Int)) (hc : ¬ x = (0 : Int32)) (r : Wk C h k n I pc' Ls st) : Wk C h k n I pc Ls (.int x :: st) :=
  Wk.step (fun _ _ _ _ _ _ _ ha hx hby kt => XS.ifYes (pc0 := pc) (pc' := pc') ha hx rfl rfl (hb hby hd) rfl ((if0 _ _).trans (feq hc).2) (by omega) (by omega) kt) r
theorem Wk.icmp_neN {x y : Int32} {o : Int} (hd : decode C.b.code pc = .ok (.if_icmp .ne o, 3)) (hp : pc + 3 = pc') (hc : x = y) (r : Wk C h k n I pc' Ls st) : Wk C h k n I pc Ls (.int y :: .int x :: st) := by
  subst hp
  exact Wk.step (fun _ _ _ _ _ _ _ ha hx hby kt => XS.icmpNo ha hx rfl (hb hby hd) rfl ((teq hc).2) kt) r
theorem Wk.if_neN {x : Int32} {o : Int} (hd : decode C.b.code pc = .ok (.ifCond .ne o, 3)) (hp : pc + 3 = pc') (hc : x = (0 : Int32)) (r : Wk C h k n I pc' Ls st) : Wk C h k n I pc Ls (.int x :: st) := by
  subst hp
  exact Wk.step (fun _ _ _ _ _ _ _ ha hx hby kt => XS.ifNo ha hx rfl (hb hby hd) rfl ((if0 _ _).trans (teq hc).2) kt) r
theorem Wk.icmp_ltY {x y : Int32} {o : Int} (hd : decode C.b.code pc = .ok (.if_icmp .lt o, 3)) (hp : (pc : Int) + o = (pc' : Int)) (hc : x < y) (r : Wk C h k n I pc' Ls st) : Wk C h k n I pc Ls (.int y :: .int x :: st) :=
  Wk.step (fun _ _ _ _ _ _ _ ha hx hby kt => XS.icmpYes (pc0 := pc) (pc' := pc') ha hx rfl rfl (hb hby hd) rfl ((tlt hc).1) (by omega) (by omega) kt) r
theorem Wk.if_ltY {x : Int32} {o : Int} (hd : decode C.b.code pc = .ok (.ifCond .lt o, 3)) (hp : (pc : Int) + o = (pc' : Int)) (hc : x < (0 : Int32)) (r : Wk C h k n I pc' Ls st) : Wk C h k n I pc Ls (.int x :: st) :=
  Wk.step (fun _ _ _ _ _ _ _ ha hx hby kt => XS.ifYes (pc0 := pc) (pc' := pc') ha hx rfl rfl (hb hby hd) rfl ((if0 _ _).trans (tlt hc).1) (by omega) (by omega) kt) r
theorem Wk.icmp_ltN {x y : Int32} {o : Int} (hd : decode C.b.code pc = .ok (.if_icmp .lt o, 3)) (hp : pc + 3 = pc') (hc : ¬ x < y) (r : Wk C h k n I pc' Ls st) : Wk C h k n I pc Ls (.int y :: .int x :: st) := by
  subst hp
  exact Wk.step (fun _ _ _ _ _ _ _ ha hx hby kt => XS.icmpNo ha hx rfl (hb hby hd) rfl ((flt hc).1) kt) r
theorem Wk.if_ltN {x : Int32} {o : Int} (hd : decode C.b.code pc = .ok (.ifCond .lt o, 3)) (hp : pc + 3 = pc') (hc : ¬ x < (0 : Int32)) (r : Wk C h k n I pc' Ls st) : Wk C h k n I pc Ls (.int x :: st) := by
  subst hp
  exact Wk.step (fun _ _ _ _ _ _ _ ha hx hby kt => XS.ifNo ha hx rfl (hb hby hd) rfl ((if0 _ _).trans (flt hc).1) kt) r
theorem Wk.icmp_geY {x y : Int32} {o : Int} (hd : decode C.b.code pc = .ok (.if_icmp .ge o, 3)) (hp : (pc : Int) + o = (pc' : Int)) (hc : ¬ x < y) (r : Wk C h k n I pc' Ls st) : Wk C h k n I pc Ls (.int y :: .int x :: st) :=
  Wk.step (fun _ _ _ _ _ _ _ ha hx hby kt => XS.icmpYes (pc0 := pc) (pc' := pc') ha hx rfl rfl (hb hby hd) rfl ((flt hc).2.1) (by omega) (by omega) kt) r
theorem Wk.if_geY {x : Int32} {o : Int} (hd : decode C.b.code pc = .ok (.ifCond .ge o, 3)) (hp : (pc : Int) + o = (pc' : Int)) (hc : ¬ x < (0 : Int32)) (r : Wk C h k n I pc' Ls st) : Wk C h k n I pc Ls (.int x :: st) :=
  Wk.step (fun _ _ _ _ _ _ _ ha hx hby kt => XS.ifYes (pc0 := pc) (pc' := pc') ha hx rfl rfl (hb hby hd) rfl ((if0 _ _).trans (flt hc).2.1) (by omega) (by omega) kt) r
theorem Wk.icmp_geN {x y : Int32} {o : Int} (hd : decode C.b.code pc = .ok (.if_icmp .ge o, 3)) (hp : pc + 3 = pc') (hc : x < y) (r : Wk C h k n I pc' Ls st) : Wk C h k n I pc Ls (.int y :: .int x :: st) := by
  subst hp
  exact Wk.step (fun _ _ _ _ _ _ _ ha hx hby kt => XS.icmpNo ha hx rfl (hb hby hd) rfl ((tlt hc).2.1) kt) r
theorem Wk.if_geN {x : Int32} {o : Int} (hd : decode C.b.code pc = .ok (.ifCond .ge o, 3)) (hp : pc + 3 = pc') (hc : x < (0 : Int32)) (r : Wk C h k n I pc' Ls st) : Wk C h k n I pc Ls (.int x :: st) := by
  subst hp
  exact Wk.step (fun _ _ _ _ _ _ _ ha hx hby kt => XS.ifNo ha hx rfl (hb hby hd) rfl ((if0 _ _).trans (tlt hc).2.1) kt) r
theorem Wk.icmp_gtY {x y : Int32} {o : Int} (hd : decode C.b.code pc = .ok (.if_icmp .gt o, 3)) (hp : (pc : Int) + o = (pc' : Int)) (hc : y < x) (r : Wk C h k n I pc' Ls st) : Wk C h k n I pc Ls (.int y :: .int x :: st) :=
  Wk.step (fun _ _ _ _ _ _ _ ha hx hby kt => XS.icmpYes (pc0 := pc) (pc' := pc') ha hx rfl rfl (hb hby hd) rfl ((tlt hc).2.2.1) (by omega) (by omega) kt) r
theorem Wk.if_gtY {x : Int32} {o : Int} (hd : decode C.b.code pc = .ok (.ifCond .gt o, 3)) (hp : (pc : Int) + o = (pc' : Int)) (hc : (0 : Int32) < x) (r : Wk C h k n I pc' Ls st) : Wk C h k n I pc Ls (.int x :: st) :=
  Wk.step (fun _ _ _ _ _ _ _ ha hx hby kt => XS.ifYes (pc0 := pc) (pc' := pc') ha hx rfl rfl (hb hby hd) rfl ((if0 _ _).trans (tlt hc).2.2.1) (by omega) (by omega) kt) r
theorem Wk.icmp_gtN {x y : Int32} {o : Int} (hd : decode C.b.code pc = .ok (.if_icmp .gt o, 3)) (hp : pc + 3 = pc') (hc : ¬ y < x) (r : Wk C h k n I pc' Ls st) : Wk C h k n I pc Ls (.int y :: .int x :: st) := by
  subst hp
  exact Wk.step (fun _ _ _ _ _ _ _ ha hx hby kt => XS.icmpNo ha hx rfl (hb hby hd) rfl ((flt hc).2.2.1) kt) r
theorem Wk.if_gtN {x : Int32} {o : Int} (hd : decode C.b.code pc = .ok (.ifCond .gt o, 3)) (hp : pc + 3 = pc') (hc : ¬ (0 : Int32) < x) (r : Wk C h k n I pc' Ls st) : Wk C h k n I pc Ls (.int x :: st) := by
  subst hp
  exact Wk.step (fun _ _ _ _ _ _ _ ha hx hby kt => XS.ifNo ha hx rfl (hb hby hd) rfl ((if0 _ _).trans (flt hc).2.2.1) kt) r
theorem Wk.icmp_leY {x y : Int32} {o : Int} (hd : decode C.b.code pc = .ok (.if_icmp .le o, 3)) (hp : (pc : Int) + o = (pc' : Int)) (hc : ¬ y < x) (r : Wk C h k n I pc' Ls st) : Wk C h k n I pc Ls (.int y :: .int x :: st) :=
  Wk.step (fun _ _ _ _ _ _ _ ha hx hby kt => XS.icmpYes (pc0 := pc) (pc' := pc') ha hx rfl rfl (hb hby hd) rfl ((flt hc).2.2.2) (by omega) (by omega) kt) r
theorem Wk.if_leY {x : Int32} {o : Int} (hd : decode C.b.code pc = .ok (.ifCond .le o, 3)) (hp : (pc : Int) + o = (pc' : Int)) (hc : ¬ (0 : Int32) < x) (r : Wk C h k n I pc' Ls st) : Wk C h k n I pc Ls (.int x :: st) :=
  Wk.step (fun _ _ _ _ _ _ _ ha hx hby kt => XS.ifYes (pc0 := pc) (pc' := pc') ha hx rfl rfl (hb hby hd) rfl ((if0 _ _).trans (flt hc).2.2.2) (by omega) (by omega) kt) r
theorem Wk.icmp_leN {x y : Int32} {o : Int} (hd : decode C.b.code pc = .ok (.if_icmp .le o, 3)) (hp : pc + 3 = pc') (hc : y < x) (r : Wk C h k n I pc' Ls st) : Wk C h k n I pc Ls (.int y :: .int x :: st) := by
  subst hp
  exact Wk.step (fun _ _ _ _ _ _ _ ha hx hby kt => XS.icmpNo ha hx rfl (hb hby hd) rfl ((tlt hc).2.2.2) kt) r
theorem Wk.if_leN {x : Int32} {o : Int} (hd : decode C.b.code pc = .ok (.ifCond .le o, 3)) (hp : pc + 3 = pc') (hc : (0 : Int32) < x) (r : Wk C h k n I pc' Ls st) : Wk C h k n I pc Ls (.int x :: st) := by
  subst hp
  exact Wk.step (fun _ _ _ _ _ _ _ ha hx hby kt => XS.ifNo ha hx rfl (hb hby hd) rfl ((if0 _ _).trans (tlt hc).2.2.2) kt) r
theorem Wk.ifnullY {o : Int} (hd : decode C.b.code pc = .ok (.ifnull o, 3)) (hp : (pc : Int) + o = (pc' : Int)) (r : Wk C h k n I pc' Ls st) : Wk C h k n I pc Ls (.null :: st) :=
  Wk.step (fun _ _ _ _ _ _ _ ha hx hby kt => XS.ifnullYes (pc0 := pc) (pc' := pc') ha hx rfl rfl (hb hby hd) rfl (by omega) (by omega) kt) r
theorem Wk.ifnullN {o : Int} {a : Addr} (hd : decode C.b.code pc = .ok (.ifnull o, 3)) (hp : pc + 3 = pc') (r : Wk C h k n I pc' Ls st) : Wk C h k n I pc Ls (.ref a :: st) := by
  subst hp
  exact Wk.step (fun _ _ _ _ _ _ _ ha hx hby kt => XS.ifnullNo ha hx rfl (hb hby hd) rfl kt) r
theorem Wk.ifnonnullY {o : Int} {a : Addr} (hd : decode C.b.code pc = .ok (.ifnonnull o, 3)) (hp : (pc : Int) + o = (pc' : Int)) (r : Wk C h k n I pc' Ls st) : Wk C h k n I pc Ls (.ref a :: st) :=
  Wk.step (fun _ _ _ _ _ _ _ ha hx hby kt => XS.ifnonnullYes (pc0 := pc) (pc' := pc') ha hx rfl rfl (hb hby hd) rfl (by omega) (by omega) kt) r
theorem Wk.ifnonnullN {o : Int} (hd : decode C.b.code pc = .ok (.ifnonnull o, 3)) (hp : pc + 3 = pc') (r : Wk C h k n I pc' Ls st) : Wk C h k n I pc Ls (.null :: st) := by
  subst hp
  exact Wk.step (fun _ _ _ _ _ _ _ ha hx hby kt => XS.ifnonnullNo ha hx rfl (hb hby hd) rfl kt) r
theorem Wk.acmp {cd : ACond} {o : Int} {u v : Value} {same : Bool} (hd : decode C.b.code pc = .ok (.if_acmp cd o, 3)) (hu : u.isRef = true) (hv : v.isRef = true) (hq : decide (u = v) = same) (ho : 0 ≤ (pc : Int) + o) (hp : pc' = if acV cd same = true then ((pc : Int) + o).toNat else pc + 3) (r : Wk C h k n I pc' Ls st) : Wk C h k n I pc Ls (v :: u :: st) :=
  Wk.law (fun p e s vm0 m args below meth c T locs k0 S => ⟨T, S.2.2.2.1, S.2.2.2.2.1, fun t kt => Jvm.RoadKit.acmp (g := mkF m pc Ls (v :: u :: st)) S.2.2.2.1 S.1.1 rfl hu hv (pc0 := pc) (pc' := pc') rfl (hb S.1.2.1 hd) rfl hq ho hp kt⟩) r
theorem Wk.getF {R0 O f d host : String} {idx : Nat} {a : Addr} {v : Value} (w : (Jvm.Cond.fieldLink C.b.y.cls idx R0 f d).before a0 C.Z = true ∨ (Jvm.Cond.fieldLinkNest C.b.y.cls idx R0 f d host).before a0 C.Z = true) (via : Via C.Z R0 O f d) (F : Fld C.Z h a O f d v) (hd : decode C.b.code pc = .ok (.getfield idx, 3)) (hp : pc + 3 = pc') (r : Wk C h k n I pc' Ls (v :: st)) : Wk C h k n I pc Ls (.ref a :: st) := by
  subst hp
  exact Wk.law (fun p e s vm0 m args below meth c T locs k0 S => Jvm.RoadKit.getF (g := mkF m pc Ls (.ref a :: st)) S.2.2.2.1 S.1.1 S.2.1.2.1 S.2.1.1 w via S.2.2.2.2.1 F rfl rfl (hb S.1.2.1 hd)) r
theorem Wk.getS {R0 O f d host : String} {idx : Nat} {v : Value} (w : (Jvm.Cond.fieldLink C.b.y.cls idx R0 f d).before a0 C.Z = true ∨ (Jvm.Cond.fieldLinkNest C.b.y.cls idx R0 f d host).before a0 C.Z = true) (via : Via C.Z R0 O f d) (F : Sta C.Z C.Z.heap O f d v) (hd : decode C.b.code pc = .ok (.getstatic idx, 3)) (hp : pc + 3 = pc') (r : Wk C h k n I pc' Ls (v :: st)) : Wk C h k n I pc Ls st := by
  subst hp
  exact Wk.law (fun p e s vm0 m args below meth c T locs k0 S => getS2 (g := mkF m pc Ls st) S.2.2.2.1 S.1.1 S.2.1.2.1 S.2.1.1 w via S.2.2.2.2.1 (F.ext S.2.2.2.2.2.1) rfl (hb S.1.2.1 hd)) r
theorem Wk.putF {R0 O f d host K : String} {idx kk : Nat} {a : Addr} {v old : Value} {ty : FieldType} (w : (Jvm.Cond.fieldLink C.b.y.cls idx R0 f d).before a0 C.Z = true ∨ (Jvm.Cond.fieldLinkNest C.b.y.cls idx R0 f d host).before a0 C.Z = true) (via : Via C.Z R0 O f d) (ha : C.N ≤ a) (F : Fld C.Z h a O f d old) (E : Exa C.Z h a K)
    (L : (Jvm.Cond.lays K O f d).before a0 C.Z = true ∨ ((Jvm.Cond.laysFinal K O f d).before a0 C.Z = true ∧ C.b.y.cls = O ∧ C.b.y.name = "<init>")) (wi : (Jvm.Cond.instantiable K kk).before a0 C.Z = true) (hty : parseFieldDescriptor d = some ty) (hn : narrow ty v = v) (hf : fits ty v = true) (hd : decode C.b.code pc = .ok (.putfield idx, 3)) (hp : pc + 3 = pc')
    (r : ∀ h', Wr h h' a (Jvm.RoadKit.slotOf C.Z O f d) v → Wk C h' k n I pc' Ls st) : Wk C h k n I pc Ls (v :: .ref a :: st) := by
  subst hp
  exact Wk.lawW ha (fun p e s vm0 m args below meth c T locs k0 S => Jvm.RoadKit.putF (g := mkF m pc Ls (v :: .ref a :: st)) S.2.2.2.1 S.1.1 S.2.1.2.1 S.2.1.1 w via S.2.2.2.2.1 F E (L.imp id fun q => ⟨q.1, q.2.1, S.1.2.2.2.2.2.1.trans q.2.2⟩) wi hty hn hf rfl rfl (hb S.1.2.1 hd)) r
theorem Wk.putFN {R0 O f d K : String} {idx kk : Nat} {a : Addr} {v v' old : Value} {ty : FieldType} (w : (Jvm.Cond.fieldLink C.b.y.cls idx R0 f d).before a0 C.Z = true) (via : Via C.Z R0 O f d) (ha : C.N ≤ a) (F : Fld C.Z h a O f d old) (E : Exa C.Z h a K)
    (L : (Jvm.Cond.lays K O f d).before a0 C.Z = true ∨ ((Jvm.Cond.laysFinal K O f d).before a0 C.Z = true ∧ C.b.y.cls = O ∧ C.b.y.name = "<init>")) (wi : (Jvm.Cond.instantiable K kk).before a0 C.Z = true) (hty : parseFieldDescriptor d = some ty) (hn : narrow ty v = v') (hf : fits ty v' = true) (hd : decode C.b.code pc = .ok (.putfield idx, 3)) (hp : pc + 3 = pc')
    (r : ∀ h', Wr h h' a (Jvm.RoadKit.slotOf C.Z O f d) v' → Wk C h' k n I pc' Ls st) : Wk C h k n I pc Ls (v :: .ref a :: st) := by
  subst hp
  exact Wk.lawW ha (fun p e s vm0 m args below meth c T locs k0 S => Jvm.RoadKit.putFN (g := mkF m pc Ls (v :: .ref a :: st)) S.2.2.2.1 S.1.1 S.2.1.2.1 S.2.1.1 w via S.2.2.2.2.1 F E (L.imp id fun q => ⟨q.1, q.2.1, S.1.2.2.2.2.2.1.trans q.2.2⟩) wi hty hn hf rfl rfl (hb S.1.2.1 hd)) r
theorem Wk.newO {K : String} {idx j : Nat} (w : (Jvm.Cond.classLink C.b.y.cls idx K).before a0 C.Z = true) (wi : (Jvm.Cond.instantiable K j).before a0 C.Z = true) (wz : (Jvm.Cond.initialized K).before a0 C.Z = true) (hd : decode C.b.code pc = .ok (.new idx, 3)) (hp : pc + 3 = pc') (hk : k + 1 = k') (hn : n + j = n') (hc : k' ≤ C.b.room.cells) (hl : n' ≤ C.b.room.slots)
    (r : ∀ a h', h.size ≤ a → C.N ≤ a → Ext h h' → Exa C.Z h' a K → (∀ {O nm d : String} {ty : FieldType}, Laid C.Z a0 K O nm d → parseFieldDescriptor d = some ty → Fld C.Z h' a O nm d (defaultValue ty)) → Wk C h' k' n' I pc' Ls (.ref a :: st)) : Wk C h k n I pc Ls st := by
  subst hp hk hn
  refine Wk.see fun _ z2 _ => ?_
  refine Wk.lawE (P := fun h' => Exa C.Z h' h.size K ∧ ∀ {O nm d : String} {ty : FieldType}, Laid C.Z a0 K O nm d → parseFieldDescriptor d = some ty → Fld C.Z h' h.size O nm d (defaultValue ty)) (fun p e s vm0 m args below meth c T locs k0 S => ?_) (fun h' E q => r h.size h' (Nat.le_refl _) z2 E q.1 q.2)
  obtain ⟨T', h', X', e', E, A, D, -, st⟩ := Jvm.RoadKit.newO (g := mkF m pc Ls st) S.2.2.2.1 S.1.1 S.2.1.2.1 S.2.1.1 w wi wz S.2.2.2.2.1 rfl (hb S.1.2.1 hd) hc hl
  exact ⟨T', h', X', e', E, ⟨A, D⟩, st⟩
theorem Wk.initO {idx W : Nat} {a : Addr} (w1 : (Jvm.Cond.methodLink C.b.y.cls idx Lib.objectInit).before a0 C.Z = true) (w2 : (Jvm.Cond.instanceMethod Lib.objectInit).before a0 C.Z = true) (w3 : (Jvm.Cond.code Lib.objectInit ⟨#[0xb1]⟩ 1 none).before a0 C.Z = true) (hsz : Ls.size = C.b.maxL) (hd : decode C.b.code pc = .ok (.invokespecial idx, 3)) (hp : pc + 3 = pc') (hf : 1 ≤ C.b.room.frames) (hW : (st.map fun v => v.category).sum ≤ W) (hl : W + 12 ≤ C.b.room.locals)
    (r : Wk C h k n I pc' Ls st) : Wk C h k n I pc Ls (.ref a :: st) := by
  subst hp
  exact Wk.law (fun p e s vm0 m args below meth c T locs k0 S => Jvm.RoadKit.initO (g := mkF m pc Ls (.ref a :: st)) S.2.2.2.1 S.1.1 S.2.1.2.1 S.2.1.1 w1 w2 w3 S.2.2.2.2.1 rfl (hsz.trans S.1.2.2.1.symm) rfl (hb S.1.2.1 hd) hf (W := W) (by show 2 * 0 + _ ≤ _; omega) hl) r
theorem Wk.newP {aty : ArrayType} {z : Int32} {cap : Nat} (w : (Jvm.Cond.arrayClass (newarray.typeOf aty)).before a0 C.Z = true) (hd : decode C.b.code pc = .ok (.newarray aty, 2)) (hp : pc + 2 = pc') (hz : ¬ z < 0) (hcap : z.toNatClampNeg ≤ cap) (hbg : cap * 8 ≤ 536870912) (hk : k + 1 = k') (hn : n + cap = n') (hc : k' ≤ C.b.room.cells) (hl : n' ≤ C.b.room.slots)
    (r : ∀ a h' q, h.size ≤ a → C.N ≤ a → Ext h h' → Arv C.Z h' a q (newarray.typeOf aty) z [] (defaultValue (newarray.typeOf aty)) → Wk C h' k' n' I pc' Ls (.ref a :: st)) : Wk C h k n I pc Ls (.int z :: st) := by
  subst hp hk hn
  refine Wk.see fun _ z2 _ => ?_
  refine Wk.lawE (P := fun h' => ∃ q, Arv C.Z h' h.size q (newarray.typeOf aty) z [] (defaultValue (newarray.typeOf aty))) (fun p e s vm0 m args below meth c T locs k0 S => ?_) (fun h' E ⟨q, A⟩ => r h.size h' q (Nat.le_refl _) z2 E A)
  obtain ⟨T', h', cA, X', e', E, A, st⟩ := Jvm.RoadKit.newP (g := mkF m pc Ls (.int z :: st)) S.2.2.2.1 S.1.1 S.2.1.2.1 w S.2.2.2.2.1 rfl (hb S.1.2.1 hd) rfl hz hcap hbg hc hl
  exact ⟨T', h', X', e', E, ⟨cA, Arv.new A hz⟩, st⟩
theorem Wk.newR {K : String} {idx : Nat} {z : Int32} {cap : Nat} (w1 : (Jvm.Cond.classLink C.b.y.cls idx K).before a0 C.Z = true) (w2 : (Jvm.Cond.arrayOver (.object K)).before a0 C.Z = true) (hd : decode C.b.code pc = .ok (.anewarray idx, 3)) (hp : pc + 3 = pc') (hz : ¬ z < 0) (hcap : z.toNatClampNeg ≤ cap) (hbg : cap * 8 ≤ 536870912) (hk : k + 1 = k') (hn : n + cap = n') (hc : k' ≤ C.b.room.cells) (hl : n' ≤ C.b.room.slots) {ad : String} (had : "[" ++ (FieldType.object K).toString = ad)
    (r : ∀ a h' q, h.size ≤ a → C.N ≤ a → Ext h h' → Arv C.Z h' a q (.object K) z [] .null → Exa C.Z h' a ad → Ovr C.Z q K → Wk C h' k' n' I pc' Ls (.ref a :: st)) : Wk C h k n I pc Ls (.int z :: st) := by
  subst hp hk hn
  refine Wk.see fun _ z2 _ => ?_
  refine Wk.lawE (P := fun h' => ∃ q, Arv C.Z h' h.size q (.object K) z [] .null ∧ Exa C.Z h' h.size ad ∧ Ovr C.Z q K) (fun p e s vm0 m args below meth c T locs k0 S => ?_) (fun h' E ⟨q, A, B, D⟩ => r h.size h' q (Nat.le_refl _) z2 E A B D)
  obtain ⟨T', h', cA, X', e', E, A, B, D, st⟩ := newRE (g := mkF m pc Ls (.int z :: st)) S.2.2.2.1 S.1.1 S.2.1.2.1 S.2.1.1 w1 w2 S.2.2.2.2.1 rfl (hb S.1.2.1 hd) rfl hz hcap hbg hc hl had
  exact ⟨T', h', X', e', E, ⟨cA, Arv.new A hz, B, D⟩, st⟩
theorem Wk.arraylength {a : Addr} {q : ClassId} {ty : FieldType} {z : Int32} {vs : List Value} {dv : Value} (V : Arv C.Z h a q ty z vs dv) (hd : decode C.b.code pc = .ok (.arraylength, 1)) (hp : pc + 1 = pc') (r : Wk C h k n I pc' Ls (.int z :: st)) : Wk C h k n I pc Ls (.ref a :: st) := by
  subst hp
  obtain ⟨c, A, q1, q2, q3, q4, q5⟩ := V
  refine Wk.law (fun p e s vm0 m args below meth cc T locs k0 S => ⟨T, S.2.2.2.1, S.2.2.2.2.1, fun t kt => ?_⟩) r
  refine S.2.2.2.1.arraylength (g := mkF m pc Ls (.ref a :: st)) S.1.1 (by rw [S.2.2.2.2.1]; exact A.1) (State.isArrayOf_alike S.2.1.2.1.alike A.2.1) rfl rfl (hb S.1.2.1 hd) t ?_
  rw [len_of q2 q3]
  exact kt
theorem Wk.iaload {a : Addr} {q : ClassId} {z j : Int32} {vs : List Value} {dv v : Value} (V : Arv C.Z h a q .int z vs dv) (hj : ¬ j < 0 ∧ j < z) (hv : vs.getD j.toNatClampNeg dv = v) (hd : decode C.b.code pc = .ok (.iaload, 1)) (hp : pc + 1 = pc') (r : Wk C h k n I pc' Ls (v :: st)) : Wk C h k n I pc Ls (.int j :: .ref a :: st) := by
  subst hp
  obtain ⟨c, A, q1, q2, q3, q4, q5⟩ := V
  have hin := inb_of q2 hj
  refine Wk.law (fun p e s vm0 m args below meth cc T locs k0 S => ⟨T, S.2.2.2.1, S.2.2.2.2.1, fun t kt => ?_⟩) r
  exact S.2.2.2.1.iaload (g := mkF m pc Ls (.int j :: .ref a :: st)) S.1.1 (by rw [S.2.2.2.2.1]; exact A.1) (State.isArrayOf_alike S.2.1.2.1.alike A.2.1) A.2.2 hin (q4.at hin hv) rfl rfl (hb S.1.2.1 hd) t kt
theorem Wk.laload {a : Addr} {q : ClassId} {z j : Int32} {vs : List Value} {dv v : Value} (V : Arv C.Z h a q .long z vs dv) (hj : ¬ j < 0 ∧ j < z) (hv : vs.getD j.toNatClampNeg dv = v) (hd : decode C.b.code pc = .ok (.laload, 1)) (hp : pc + 1 = pc') (r : Wk C h k n I pc' Ls (v :: st)) : Wk C h k n I pc Ls (.int j :: .ref a :: st) := by
  subst hp
  obtain ⟨c, A, q1, q2, q3, q4, q5⟩ := V
  have hin := inb_of q2 hj
  refine Wk.law (fun p e s vm0 m args below meth cc T locs k0 S => ⟨T, S.2.2.2.1, S.2.2.2.2.1, fun t kt => ?_⟩) r
  exact S.2.2.2.1.laload (g := mkF m pc Ls (.int j :: .ref a :: st)) S.1.1 (by rw [S.2.2.2.2.1]; exact A.1) (State.isArrayOf_alike S.2.1.2.1.alike A.2.1) A.2.2 hin (q4.at hin hv) rfl rfl (hb S.1.2.1 hd) t kt
theorem Wk.caload {a : Addr} {q : ClassId} {z j : Int32} {vs : List Value} {dv v : Value} (V : Arv C.Z h a q .char z vs dv) (hj : ¬ j < 0 ∧ j < z) (hv : vs.getD j.toNatClampNeg dv = v) (hd : decode C.b.code pc = .ok (.caload, 1)) (hp : pc + 1 = pc') (r : Wk C h k n I pc' Ls (v :: st)) : Wk C h k n I pc Ls (.int j :: .ref a :: st) := by
  subst hp
  obtain ⟨c, A, q1, q2, q3, q4, q5⟩ := V
  have hin := inb_of q2 hj
  refine Wk.law (fun p e s vm0 m args below meth cc T locs k0 S => ⟨T, S.2.2.2.1, S.2.2.2.2.1, fun t kt => ?_⟩) r
  exact S.2.2.2.1.caload (g := mkF m pc Ls (.int j :: .ref a :: st)) S.1.1 (by rw [S.2.2.2.2.1]; exact A.1) (State.isArrayOf_alike S.2.1.2.1.alike A.2.1) A.2.2 hin (q4.at hin hv) rfl rfl (hb S.1.2.1 hd) t kt
theorem Wk.baload {a : Addr} {q : ClassId} {z j : Int32} {vs : List Value} {dv v : Value} (V : Arv C.Z h a q .byte z vs dv) (hj : ¬ j < 0 ∧ j < z) (hv : vs.getD j.toNatClampNeg dv = v) (hd : decode C.b.code pc = .ok (.baload, 1)) (hp : pc + 1 = pc') (r : Wk C h k n I pc' Ls (v :: st)) : Wk C h k n I pc Ls (.int j :: .ref a :: st) := by
  subst hp
  obtain ⟨c, A, q1, q2, q3, q4, q5⟩ := V
  have hin := inb_of q2 hj
  refine Wk.law (fun p e s vm0 m args below meth cc T locs k0 S => ⟨T, S.2.2.2.1, S.2.2.2.2.1, fun t kt => ?_⟩) r
  exact S.2.2.2.1.baloadBytes (g := mkF m pc Ls (.int j :: .ref a :: st)) S.1.1 (by rw [S.2.2.2.2.1]; exact A.1) (State.isArrayOf_alike S.2.1.2.1.alike A.2.1) A.2.2 hin (q4.at hin hv) rfl rfl (hb S.1.2.1 hd) t kt
theorem Wk.zaload {a : Addr} {q : ClassId} {z j : Int32} {vs : List Value} {dv v : Value} (V : Arv C.Z h a q .boolean z vs dv) (hj : ¬ j < 0 ∧ j < z) (hv : vs.getD j.toNatClampNeg dv = v) (hd : decode C.b.code pc = .ok (.baload, 1)) (hp : pc + 1 = pc') (r : Wk C h k n I pc' Ls (v :: st)) : Wk C h k n I pc Ls (.int j :: .ref a :: st) := by
  subst hp
  obtain ⟨c, A, q1, q2, q3, q4, q5⟩ := V
  have hin := inb_of q2 hj
  refine Wk.law (fun p e s vm0 m args below meth cc T locs k0 S => ⟨T, S.2.2.2.1, S.2.2.2.2.1, fun t kt => ?_⟩) r
  exact S.2.2.2.1.baloadBooleans (g := mkF m pc Ls (.int j :: .ref a :: st)) S.1.1 (by rw [S.2.2.2.2.1]; exact A.1) (State.isArrayOf_alike S.2.1.2.1.alike A.2.1) A.2.2 hin (q4.at hin hv) rfl rfl (hb S.1.2.1 hd) t kt
theorem Wk.aaload {a : Addr} {q : ClassId} {ty : FieldType} {z j : Int32} {vs : List Value} {dv v : Value} (V : Arv C.Z h a q ty z vs dv) (hty : ty.isReference = true) (hj : ¬ j < 0 ∧ j < z) (hv : vs.getD j.toNatClampNeg dv = v) (hd : decode C.b.code pc = .ok (.aaload, 1)) (hp : pc + 1 = pc') (r : Wk C h k n I pc' Ls (v :: st)) : Wk C h k n I pc Ls (.int j :: .ref a :: st) := by
  subst hp
  obtain ⟨c, A, q1, q2, q3, q4, q5⟩ := V
  have hin := inb_of q2 hj
  refine Wk.law (fun p e s vm0 m args below meth cc T locs k0 S => ⟨T, S.2.2.2.1, S.2.2.2.2.1, fun t kt => ?_⟩) r
  exact S.2.2.2.1.aaload (g := mkF m pc Ls (.int j :: .ref a :: st)) S.1.1 (by rw [S.2.2.2.2.1]; exact A.1) (State.isArrayOf_alike S.2.1.2.1.alike A.2.1) hty A.2.2 hin (q4.at hin hv) rfl rfl (hb S.1.2.1 hd) t kt
theorem Wk.iastore {a : Addr} {q : ClassId} {z j : Int32} {x : Int32} {vs : List Value} {dv : Value} (V : Arv C.Z h a q .int z vs dv) (ha : C.N ≤ a) (hj : ¬ j < 0 ∧ j < z) (i : Nat) (hi : j.toNatClampNeg = i) (hlt : i < vs.length) (hd : decode C.b.code pc = .ok (.iastore, 1)) (hp : pc + 1 = pc')
    (r : ∀ h', Wr h h' a j.toNatClampNeg (.int x) → Arv C.Z h' a q .int z (vs.set i (.int x)) dv → Wk C h' k n I pc' Ls st) : Wk C h k n I pc Ls (.int x :: .int j :: .ref a :: st) := by
  subst hp
  obtain ⟨c, A, q1, q2, q3, q4, q5⟩ := V
  have hin := inb_of q2 hj
  exact Wk.lawW ha (fun p e s vm0 m args below meth cc T locs k0 S => stI (g := mkF m pc Ls (.int x :: .int j :: .ref a :: st)) S.2.2.2.1 S.1.1 S.2.1.2.1 S.2.2.2.2.1 A hin rfl rfl (hb S.1.2.1 hd)) (fun h' W => r h' W (Arv.set A q1 q2 q3 q4 q5 (rfl) W i hi hlt))
theorem Wk.lastore {a : Addr} {q : ClassId} {z j : Int32} {x : Int64} {vs : List Value} {dv : Value} (V : Arv C.Z h a q .long z vs dv) (ha : C.N ≤ a) (hj : ¬ j < 0 ∧ j < z) (i : Nat) (hi : j.toNatClampNeg = i) (hlt : i < vs.length) (hd : decode C.b.code pc = .ok (.lastore, 1)) (hp : pc + 1 = pc')
    (r : ∀ h', Wr h h' a j.toNatClampNeg (.long x) → Arv C.Z h' a q .long z (vs.set i (.long x)) dv → Wk C h' k n I pc' Ls st) : Wk C h k n I pc Ls (.long x :: .int j :: .ref a :: st) := by
  subst hp
  obtain ⟨c, A, q1, q2, q3, q4, q5⟩ := V
  have hin := inb_of q2 hj
  exact Wk.lawW ha (fun p e s vm0 m args below meth cc T locs k0 S => stJ (g := mkF m pc Ls (.long x :: .int j :: .ref a :: st)) S.2.2.2.1 S.1.1 S.2.1.2.1 S.2.2.2.2.1 A hin rfl rfl (hb S.1.2.1 hd)) (fun h' W => r h' W (Arv.set A q1 q2 q3 q4 q5 (rfl) W i hi hlt))
theorem Wk.castore {a : Addr} {q : ClassId} {z j : Int32} {x : Int32} {vs : List Value} {dv : Value} (V : Arv C.Z h a q .char z vs dv) (ha : C.N ≤ a) (hj : ¬ j < 0 ∧ j < z) (i : Nat) (hi : j.toNatClampNeg = i) (hlt : i < vs.length) (hd : decode C.b.code pc = .ok (.castore, 1)) (hp : pc + 1 = pc')
    (r : ∀ h', Wr h h' a j.toNatClampNeg (.int (nar .char x)) → Arv C.Z h' a q .char z (vs.set i (.int (nar .char x))) dv → Wk C h' k n I pc' Ls st) : Wk C h k n I pc Ls (.int x :: .int j :: .ref a :: st) := by
  subst hp
  obtain ⟨c, A, q1, q2, q3, q4, q5⟩ := V
  have hin := inb_of q2 hj
  exact Wk.lawW ha (fun p e s vm0 m args below meth cc T locs k0 S => stC (g := mkF m pc Ls (.int x :: .int j :: .ref a :: st)) S.2.2.2.1 S.1.1 S.2.1.2.1 S.2.2.2.2.1 A hin rfl rfl (hb S.1.2.1 hd)) (fun h' W => r h' W (Arv.set A q1 q2 q3 q4 q5 (fits_nar_char x) W i hi hlt))
theorem Wk.bastore {a : Addr} {q : ClassId} {z j : Int32} {x : Int32} {vs : List Value} {dv : Value} (V : Arv C.Z h a q .byte z vs dv) (ha : C.N ≤ a) (hj : ¬ j < 0 ∧ j < z) (i : Nat) (hi : j.toNatClampNeg = i) (hlt : i < vs.length) (hd : decode C.b.code pc = .ok (.bastore, 1)) (hp : pc + 1 = pc')
    (r : ∀ h', Wr h h' a j.toNatClampNeg (.int (nar .byte x)) → Arv C.Z h' a q .byte z (vs.set i (.int (nar .byte x))) dv → Wk C h' k n I pc' Ls st) : Wk C h k n I pc Ls (.int x :: .int j :: .ref a :: st) := by
  subst hp
  obtain ⟨c, A, q1, q2, q3, q4, q5⟩ := V
  have hin := inb_of q2 hj
  exact Wk.lawW ha (fun p e s vm0 m args below meth cc T locs k0 S => stB (g := mkF m pc Ls (.int x :: .int j :: .ref a :: st)) S.2.2.2.1 S.1.1 S.2.1.2.1 S.2.2.2.2.1 A hin rfl rfl (hb S.1.2.1 hd)) (fun h' W => r h' W (Arv.set A q1 q2 q3 q4 q5 (fits_nar_byte x) W i hi hlt))
theorem Wk.zastore {a : Addr} {q : ClassId} {z j : Int32} {x : Int32} {vs : List Value} {dv : Value} (V : Arv C.Z h a q .boolean z vs dv) (ha : C.N ≤ a) (hj : ¬ j < 0 ∧ j < z) (i : Nat) (hi : j.toNatClampNeg = i) (hlt : i < vs.length) (hd : decode C.b.code pc = .ok (.bastore, 1)) (hp : pc + 1 = pc')
    (r : ∀ h', Wr h h' a j.toNatClampNeg (.int (nar .boolean x)) → Arv C.Z h' a q .boolean z (vs.set i (.int (nar .boolean x))) dv → Wk C h' k n I pc' Ls st) : Wk C h k n I pc Ls (.int x :: .int j :: .ref a :: st) := by
  subst hp
  obtain ⟨c, A, q1, q2, q3, q4, q5⟩ := V
  have hin := inb_of q2 hj
  exact Wk.lawW ha (fun p e s vm0 m args below meth cc T locs k0 S => stZ (g := mkF m pc Ls (.int x :: .int j :: .ref a :: st)) S.2.2.2.1 S.1.1 S.2.1.2.1 S.2.2.2.2.1 A hin rfl rfl (hb S.1.2.1 hd)) (fun h' W => r h' W (Arv.set A q1 q2 q3 q4 q5 (fits_nar_bool x) W i hi hlt))
theorem Wk.aastore {a : Addr} {q : ClassId} {ty : FieldType} {z j : Int32} {v : Value} {vs : List Value} {dv : Value} (V : Arv C.Z h a q ty z vs dv) (hty : ty.isReference = true) (hf : fits ty v = true) (ha : C.N ≤ a) (hj : ¬ j < 0 ∧ j < z) (i : Nat) (hi : j.toNatClampNeg = i) (hlt : i < vs.length) (F : Sto C.Z h a v) (hd : decode C.b.code pc = .ok (.aastore, 1)) (hp : pc + 1 = pc')
    (r : ∀ h', Wr h h' a j.toNatClampNeg v → Arv C.Z h' a q ty z (vs.set i v) dv → Wk C h' k n I pc' Ls st) : Wk C h k n I pc Ls (v :: .int j :: .ref a :: st) := by
  subst hp
  obtain ⟨c, A, q1, q2, q3, q4, q5⟩ := V
  have hin := inb_of q2 hj
  exact Wk.lawW ha (fun p e s vm0 m args below meth cc T locs k0 S => stR (g := mkF m pc Ls (v :: .int j :: .ref a :: st)) S.2.2.2.1 S.1.1 S.2.1.2.1 S.2.2.2.2.1 A hin hty F rfl rfl (hb S.1.2.1 hd)) (fun h' W => r h' W (Arv.set A q1 q2 q3 q4 q5 hf W i hi hlt))
theorem Wk.ldcI {idx : Nat} {v : Int32} (w : (Jvm.Cond.constant C.b.y.cls idx v).before a0 C.Z = true) (hd : decode C.b.code pc = .ok (.ldc idx, 2)) (hp : pc + 2 = pc') (r : Wk C h k n I pc' Ls (.int v :: st)) : Wk C h k n I pc Ls st := by
  subst hp
  exact Wk.law (fun p e s vm0 m args below meth c T locs k0 S => ⟨T, S.2.2.2.1, S.2.2.2.2.1, fun t kt => S.2.2.2.1.ldcI (g := mkF m pc Ls st) S.1.1 S.2.1.1 (mv (s := s.setVm vm0) S.2.1.2.1 w) rfl (hb S.1.2.1 hd) kt⟩) r
theorem Wk.ldcWI {idx : Nat} {v : Int32} (w : (Jvm.Cond.constant C.b.y.cls idx v).before a0 C.Z = true) (hd : decode C.b.code pc = .ok (.ldc_w idx, 3)) (hp : pc + 3 = pc') (r : Wk C h k n I pc' Ls (.int v :: st)) : Wk C h k n I pc Ls st := by
  subst hp
  exact Wk.law (fun p e s vm0 m args below meth c T locs k0 S => ⟨T, S.2.2.2.1, S.2.2.2.2.1, fun t kt => S.2.2.2.1.ldcWI (g := mkF m pc Ls st) S.1.1 S.2.1.1 (mv (s := s.setVm vm0) S.2.1.2.1 w) rfl (hb S.1.2.1 hd) kt⟩) r
theorem Wk.ldc2J {idx : Nat} {v : Int64} (w : (Jvm.Cond.constantLong C.b.y.cls idx v).before a0 C.Z = true) (hd : decode C.b.code pc = .ok (.ldc2_w idx, 3)) (hp : pc + 3 = pc') (r : Wk C h k n I pc' Ls (.long v :: st)) : Wk C h k n I pc Ls st := by
  subst hp
  exact Wk.law (fun p e s vm0 m args below meth c T locs k0 S => ⟨T, S.2.2.2.1, S.2.2.2.2.1, fun t kt => S.2.2.2.1.ldc2J (g := mkF m pc Ls st) S.1.1 S.2.1.1 (mv (s := s.setVm vm0) S.2.1.2.1 w) rfl (hb S.1.2.1 hd) kt⟩) r
theorem Wk.castY {K : String} {idx : Nat} {a : Addr} (w : (Jvm.Cond.classLink C.b.y.cls idx K).before a0 C.Z = true) (F : Ins C.Z h a K true) (hd : decode C.b.code pc = .ok (.checkcast idx, 3)) (hp : pc + 3 = pc') (r : Wk C h k n I pc' Ls (.ref a :: st)) : Wk C h k n I pc Ls (.ref a :: st) := by
  subst hp
  exact Wk.law (fun p e s vm0 m args below meth c T locs k0 S => Jvm.RoadKit.castY (g := mkF m pc Ls (.ref a :: st)) S.2.2.2.1 S.1.1 S.2.1.2.1 S.2.1.1 w S.2.2.2.2.1 F rfl rfl (hb S.1.2.1 hd)) r
theorem Wk.instY {K : String} {idx : Nat} {a : Addr} (w : (Jvm.Cond.classLink C.b.y.cls idx K).before a0 C.Z = true) (F : Ins C.Z h a K true) (hd : decode C.b.code pc = .ok (.instanceof idx, 3)) (hp : pc + 3 = pc') (r : Wk C h k n I pc' Ls (.int 1 :: st)) : Wk C h k n I pc Ls (.ref a :: st) := by
  subst hp
  exact Wk.law (fun p e s vm0 m args below meth c T locs k0 S => Jvm.RoadKit.instY (g := mkF m pc Ls (.ref a :: st)) S.2.2.2.1 S.1.1 S.2.1.2.1 S.2.1.1 w S.2.2.2.2.1 F rfl rfl (hb S.1.2.1 hd)) r
theorem Wk.leaveW {v : Option Value} (hv : C.b.ret = none → v = none) (hk : k ≤ C.b.room.cells) (hn : n ≤ C.b.room.slots) (q : C.Q v h I)
    (hs : ∀ (p : Program) (e : Env) (s : State) (vm0 : Vm) (m : MethodId) (args : Array Value) (below : List Frame) (meth : Method) (c : Code) (T : State) (locs : List Loc) (k0 : Nat) (fs : List Frame), St C p e s vm0 m args below meth c T locs k0 h k n I →
      (∀ (f : JFrame) (acts : List Action), f.method = m → f.locked = none → f.entered = [] → (doReturn e (T.setTop f) acts v).1 = T.setFrames fs) → Steps p.tables e below (T.setTop (mkF m pc Ls st)) (T.setFrames fs)) : Wk C h k n I pc Ls st := fun p e s vm0 m args below meth c T locs k0 S => by
  obtain ⟨fs, hr, hrun, hended, hW, hsame⟩ := S.2.2.2.1.leave (v := v) (fun q => hv (S.1.2.2.2.1 ▸ q)) S.1.2.2.2.2.1
  have hst := hs p e s vm0 m args below meth c T locs k0 fs S hr
  obtain ⟨A, ⟨b1, b2, b3, b4⟩, q1, q2, q3, q4, q5, q6⟩ := S
  have eh : (T.setFrames fs).heap = h := q3
  obtain ⟨u1, u2, u3⟩ := b3.ended hW (by rw [eh]; exact q1) hsame
  exact ⟨_, _, hst, hrun, hended, v, locs, I, rfl, by rw [eh]; exact q, VI.warm (s := s.setVm vm0) b4 hW, q6, by rw [eh]; exact q4, ⟨v, rfl⟩, u1, u2, u3.mono hk hn⟩
theorem Wk.ireturn {z : Int32} (hret : C.b.ret = some .int) (hd : decode C.b.code pc = .ok (.ireturn, 1)) (hk : k ≤ C.b.room.cells) (hn : n ≤ C.b.room.slots) (q : C.Q (some (.int z)) h I) : Wk C h k n I pc Ls (.int z :: st) :=
  Wk.leaveW (v := some (.int z)) (fun e => by rw [hret] at e; cases e) hk hn q fun p e s vm0 m args below meth c T locs k0 fs S hr =>
    retOut S.2.2.2.1 S.1.1 (S.1.2.2.2.1.trans hret) rfl (Or.inl ⟨rfl, Or.inl rfl, _, rfl⟩) (hb S.1.2.1 hd) hr
theorem Wk.zreturn {z : Int32} {t : FieldType} (hret : C.b.ret = some t) (ht : t = .boolean ∨ t = .byte ∨ t = .char ∨ t = .short) (hd : decode C.b.code pc = .ok (.ireturn, 1)) (hk : k ≤ C.b.room.cells) (hn : n ≤ C.b.room.slots) (q : C.Q (some (.int (nar t z))) h I) : Wk C h k n I pc Ls (.int z :: st) :=
  Wk.leaveW (v := some (.int (nar t z))) (fun e => by rw [hret] at e; cases e) hk hn q fun p e s vm0 m args below meth c T locs k0 fs S hr =>
    retN S.2.2.2.1 S.1.1 (S.1.2.2.2.1.trans hret) ht (hb S.1.2.1 hd) hr
theorem Wk.lreturn {z : Int64} (hret : C.b.ret = some .long) (hd : decode C.b.code pc = .ok (.lreturn, 1)) (hk : k ≤ C.b.room.cells) (hn : n ≤ C.b.room.slots) (q : C.Q (some (.long z)) h I) : Wk C h k n I pc Ls (.long z :: st) :=
  Wk.leaveW (v := some (.long z)) (fun e => by rw [hret] at e; cases e) hk hn q fun p e s vm0 m args below meth c T locs k0 fs S hr =>
    retOut S.2.2.2.1 S.1.1 (S.1.2.2.2.1.trans hret) rfl (Or.inr (Or.inl ⟨rfl, rfl, _, rfl⟩)) (hb S.1.2.1 hd) hr
theorem Wk.dreturn {z : UInt64} (hret : C.b.ret = some .double) (hd : decode C.b.code pc = .ok (.dreturn, 1)) (hk : k ≤ C.b.room.cells) (hn : n ≤ C.b.room.slots) (q : C.Q (some (.double z)) h I) : Wk C h k n I pc Ls (.double z :: st) :=
  Wk.leaveW (v := some (.double z)) (fun e => by rw [hret] at e; cases e) hk hn q fun p e s vm0 m args below meth c T locs k0 fs S hr =>
    retOut S.2.2.2.1 S.1.1 (S.1.2.2.2.1.trans hret) rfl (Or.inr (Or.inr (Or.inl ⟨rfl, rfl, _, rfl⟩))) (hb S.1.2.1 hd) hr
theorem narrow_refl {t : FieldType} {w : Value} (ht : t.isReference = true) : narrow t w = w := by cases t <;> simp [FieldType.isReference] at ht <;> cases w <;> rfl
theorem Wk.areturn {w : Value} {t : FieldType} (hret : C.b.ret = some t) (ht : t.isReference = true) (hw : w.isRef = true) (hd : decode C.b.code pc = .ok (.areturn, 1)) (hk : k ≤ C.b.room.cells) (hn : n ≤ C.b.room.slots) (q : C.Q (some w) h I) : Wk C h k n I pc Ls (w :: st) :=
  Wk.leaveW (v := some w) (fun e => by rw [hret] at e; cases e) hk hn q fun p e s vm0 m args below meth c T locs k0 fs S hr =>
    retOut S.2.2.2.1 S.1.1 (S.1.2.2.2.1.trans hret) (narrow_refl ht) (Or.inr (Or.inr (Or.inr (Or.inr ⟨rfl, ht, hw⟩)))) (hb S.1.2.1 hd) hr
theorem Wk.return_ (hret : C.b.ret = none) (hd : decode C.b.code pc = .ok (.return_, 1)) (hk : k ≤ C.b.room.cells) (hn : n ≤ C.b.room.slots) (q : C.Q none h I) : Wk C h k n I pc Ls [] :=
  Wk.leaveW (v := none) (fun _ => rfl) hk hn q fun p e s vm0 m args below meth c T locs k0 fs S hr =>
    S.2.2.2.1.returnOut S.1.1 (S.1.2.2.2.1.trans hret) (hb S.1.2.1 hd) hr
theorem Cn.of_wk {l : Launch} {Z : State} {N : Nat} {b : Bdy} {as : Array Value} {Q : Option Value → Heap → Lts → Prop} (hp : plainFor b.y = true) (he : ∀ m, entryFrame m as b.maxL = mkF m 0 Ls []) (r : Wk (l, Z, N, h.size, b, Q) h 0 0 I 0 Ls []) : Cn l Z N b as h I Q := by
  intro ws
  refine MetFree.of_bodySF hp hisR ?_
  intro p e s m args below meth c s₁ Bd hml0 hP hK
  obtain ⟨rfl, hZ, hh, hV, hE, hN, hZN⟩ := hP
  have X0 : Stand p l e b.room (s.setVm s.vm) m args below meth c s₁ [] 0 0 := Stand.of_body Bd
  have e0 : s₁.heap = h := by rw [← hh, Bd.state]; rfl
  obtain ⟨t, o, h1, h2⟩ := r p e s s.vm m args below meth c s₁ [] s.heap.size ⟨⟨Bd.exec, Bd.bytes, hml0, Bd.returns, Bd.notSynchronized, (name_of_methodNamed Bd.named Bd.method).1, hZN, by rw [hh], by rw [hh]; exact hE⟩, ⟨findClass_of_methodNamed Bd.named, hZ, (State.WarmedH.refl s).since _, hV⟩, by rw [hh]; exact Nat.le_refl _, X0, e0, hE, hN, Fr.nil _⟩
  exact ⟨t, o, castTop (he m) h1, h2⟩
theorem Cn.back {l : Launch} {Z : State} {N : Nat} {b : Bdy} {as : Array Value} {Q : Option Value → Heap → Lts → Prop} (M : Cn l Z N b as h I Q) {R : Room} {p : Program} {e : Env} {below : List Frame} {s : State} {args : Array Value} {len W : Nat} (hZ : Z.Warmed39 s.vm) (hV : VI Z I s.vm) (hE : Ext Z.heap h) (hN : N ≤ h.size) (hZN : Z.heap.size ≤ N)
    (wc : (Jvm.Cond.code b.y b.code b.maxL b.ret).before a0 Z = true) (wz : (Jvm.Cond.initialized b.y.cls).before a0 Z = true) (hf : b.room.frames + 1 ≤ R.frames) (hl : W + (b.maxL + 11) + b.room.locals ≤ R.locals) :
    BackS l R p e below s args b.y len W (fun A a => a = as ∧ A.U.heap = h ∧ A.cells + b.room.cells ≤ R.cells ∧ A.slots + b.room.slots ≤ R.slots)
      (fun A _ v B => ∃ L J, Q v B.U.heap J ∧ VI Z J B.U.vm ∧ Fr N L ∧ Ext Z.heap B.U.heap ∧ B.locs = A.locs ++ L ∧ B.cells = A.cells + b.room.cells ∧ B.slots = A.slots + b.room.slots) :=
  BackS.of_freeW (bytes := b.code) (maxL := b.maxL) (ret := b.ret) (E := fun _ _ o t L k n => k = b.room.cells ∧ n = b.room.slots ∧ ∃ v J, o = .returned v ∧ Q v t.heap J ∧ VI Z J t.vm ∧ Fr N L ∧ Ext Z.heap t.heap) (M []) hf hl
    (fun m meth c A a Y hp => have hU : Z.Warmed39 A.U.vm := wtrans hZ Y.warmed
      ⟨by show (Cond.and _ .tt).before a A.U = true; rw [Cond.before_and, mv hU wc]; rfl, mv hU wc, mv hU wz, hp.2.2.1, hp.2.2.2⟩)
    (fun m meth c A a g mk Y hp => ⟨hp.1, wtrans hZ Y.warmed, hp.2.1, VI.warm hV Y.warmed, hE, hN, hZN⟩) (fun _ _ _ _ _ _ _ _ _ => trivial)
    (fun _ _ _ _ ⟨v, L, J, h1, h2, h3, h4, h5, h6⟩ => ⟨L, _, _, h6, rfl, rfl, v, J, h1, h2, h3, h4, h5⟩)
    (fun m meth c A a g mk v t L k n Y hp _ _ ⟨e1, e2, v', J, e3, e4, e5, e6, e7⟩ => by cases e3; subst e1 e2; exact ⟨L, J, e4, e5, e6, e7, rfl, rfl, rfl⟩)
/-- behind a call -/
theorem Wk.behind {b : Bdy} {N' : Nat} {Q' : Option Value → Heap → Lts → Prop} (hN : C.N ≤ N') (hk : k + b.room.cells = k') (hn : n + b.room.slots = n') (r : ∀ v h' J, h.size ≤ h'.size → Q' v h' J → Wk C h' k' n' J pc' Ls (v.toList ++ rest))
    {p : Program} {e : Env} {s : State} {vm0 : Vm} {m : MethodId} {args : Array Value} {below : List Frame} {meth : Method} {c : Code} {T : State} {locs : List Loc} {k0 : Nat} (S : St C p e s vm0 m args below meth c T locs k0 h k n I)
    {U0 : State} (q : ∃ (v : Option Value) (vm₁ : Vm) (B : Pt), (s.setVm vm0).WarmedH vm₁ ∧ Stand p C.l e C.b.room ((s.setVm vm0).setVm B.U.vm) m args below meth c B.U B.locs B.cells B.slots ∧ (s.setVm vm0).Since B.U.vm B.U.heap.size ∧ T.heap.size ≤ B.U.heap.size ∧
      (∃ L J, Q' v B.U.heap J ∧ VI C.Z J B.U.vm ∧ Fr N' L ∧ Ext C.Z.heap B.U.heap ∧ B.locs = locs ++ L ∧ B.cells = k + b.room.cells ∧ B.slots = n + b.room.slots) ∧ Steps p.tables e below U0 (B.U.setTop (mkF m pc' Ls (v.toList ++ rest)))) :
    ∃ t o, Steps p.tables e below U0 t ∧ t.status = .running ∧ Ended t below o ∧ Fini C s o t := by
  obtain ⟨v, vm₁, ⟨U, L2, k2, n2⟩, hW, X', hS', hg, ⟨L, J, y1, y2, y3, y4, y5, y6, y7⟩, hst⟩ := q
  dsimp only [Pt.U, Pt.locs, Pt.cells, Pt.slots] at X' hS' hg y1 y2 y3 y4 y5 y6 y7 hst
  subst y5 y6 y7 hk hn
  obtain ⟨A, ⟨b1, b2, b3, b4⟩, q1, q2, q3, q4, q5, q6⟩ := S
  have hg' : h.size ≤ U.heap.size := by rw [← q3]; exact hg
  obtain ⟨x1, x2, x3, x4⟩ := rebS b3 q1 X' hS' hg' b2 b1
  obtain ⟨t, o, h1, h2⟩ := r v U.heap J hg' y1 p e s U.vm m args below meth c U _ U.heap.size ⟨A, ⟨x4, x3, x2, y2⟩, Nat.le_refl _, x1, rfl, y4, Nat.le_trans q5 hg', Fr.app q6 fun y hy => Nat.le_trans hN (y3 y hy)⟩
  exact ⟨t, o, hst.trans h1, h2⟩
abbrev NoPoly (y : MethodName) : Prop := y.cls ≠ "java/lang/invoke/MethodHandle" ∧ y.cls ≠ "java/lang/invoke/VarHandle"
theorem Wk.callS {b : Bdy} {N' : Nat} {as : Array Value} {Q' : Option Value → Heap → Lts → Prop} {idx W : Nat} {ps : List FieldType} {rt : Option FieldType} {argsL : List Value} (M : Cn C.l C.Z N' b as h I Q')
    (w1 : (Jvm.Cond.methodLink C.b.y.cls idx b.y).before a0 C.Z = true) (w2 : (Jvm.Cond.static b.y).before a0 C.Z = true) (w3 : (Jvm.Cond.initialized b.y.cls).before a0 C.Z = true) (w4 : (Jvm.Cond.code b.y b.code b.maxL b.ret).before a0 C.Z = true) (hy : NoPoly b.y)
    (hN : C.N ≤ N') (hN' : C.N ≤ h.size → N' ≤ h.size) (hf : b.room.frames + 1 ≤ C.b.room.frames) (hl : W + (b.maxL + 11) + b.room.locals ≤ C.b.room.locals) (hk : k + b.room.cells = k') (hn : n + b.room.slots = n') (hkc : k' ≤ C.b.room.cells) (hnc : n' ≤ C.b.room.slots)
    (hsz : Ls.size = C.b.maxL) (hpd : parseMethodDescriptor b.y.desc = some ⟨ps, rt⟩) (hlen : argsL.length = ps.length) (has : as = argsL.toArray) (hst : st = argsL.reverse ++ rest) (hW : (rest.map fun v => v.category).sum ≤ W) (hd : decode C.b.code pc = .ok (.invokestatic idx, 3)) (hp : pc + 3 = pc')
    (r : ∀ v h' J, h.size ≤ h'.size → Q' v h' J → Wk C h' k' n' J pc' Ls (v.toList ++ rest)) : Wk C h k n I pc Ls st := by
  subst hp has hst hk hn
  intro p e s vm0 m args below meth c T locs k0 S
  refine Wk.behind (b := b) hN rfl rfl r S ?_
  have hZ : C.Z.Warmed39 (s.setVm vm0).vm := S.2.1.2.1
  exact callSS S.2.2.2.1 S.1.1 (own := C.b.y.cls) S.2.1.1 (mvT hZ w1) (mvT hZ w2) (mvT hZ w3) (mvT hZ w4) hy (Cn.back (a0 := a0) (W := W) M hZ S.2.1.2.2.2 S.2.2.2.2.2.1 (hN' S.2.2.2.2.2.2.1) (Nat.le_trans S.1.2.2.2.2.2.2.1 hN) w4 w3 hf hl) (g := mkF m pc Ls (argsL.reverse ++ rest)) rfl (hsz.trans S.1.2.2.1.symm) (argsL := argsL) (rest := rest) (lenOf hpd hlen) rfl (by show 2 * 0 + _ ≤ _; omega) (hb S.1.2.1 hd) (fun _ _ => ⟨rfl, S.2.2.2.2.1, hkc, hnc⟩)
theorem Wk.callN {b : Bdy} {N' : Nat} {as : Array Value} {Q' : Option Value → Heap → Lts → Prop} {idx W : Nat} {ps : List FieldType} {rt : Option FieldType} {argsL : List Value} {a : Addr} (M : Cn C.l C.Z N' b as h I Q') (hini : b.y.name = "<init>") (hrt : b.ret = none)
    (w1 : (Jvm.Cond.methodLink C.b.y.cls idx b.y).before a0 C.Z = true) (w2 : (Jvm.Cond.instanceMethod b.y).before a0 C.Z = true) (w3 : (Jvm.Cond.initialized b.y.cls).before a0 C.Z = true) (w4 : (Jvm.Cond.code b.y b.code b.maxL b.ret).before a0 C.Z = true) (hy : NoPoly b.y)
    (hN : C.N ≤ N') (hN' : C.N ≤ h.size → N' ≤ h.size) (hf : b.room.frames + 1 ≤ C.b.room.frames) (hl : W + (b.maxL + 11) + b.room.locals ≤ C.b.room.locals) (hk : k + b.room.cells = k') (hn : n + b.room.slots = n') (hkc : k' ≤ C.b.room.cells) (hnc : n' ≤ C.b.room.slots)
    (hsz : Ls.size = C.b.maxL) (hpd : parseMethodDescriptor b.y.desc = some ⟨ps, rt⟩) (hlen : argsL.length = ps.length) (has : as = (.ref a :: argsL).toArray) (hst : st = argsL.reverse ++ .ref a :: rest) (hW : (rest.map fun v => v.category).sum ≤ W) (hd : decode C.b.code pc = .ok (.invokespecial idx, 3)) (hp : pc + 3 = pc')
    (r : ∀ v h' J, h.size ≤ h'.size → Q' v h' J → Wk C h' k' n' J pc' Ls (v.toList ++ rest)) : Wk C h k n I pc Ls st := by
  subst hp has hst hk hn
  intro p e s vm0 m args below meth c T locs k0 S
  refine Wk.behind (b := b) hN rfl rfl r S ?_
  have hZ : C.Z.Warmed39 (s.setVm vm0).vm := S.2.1.2.1
  have w4' : (Jvm.Cond.code b.y b.code b.maxL none).before a0 C.Z = true := by rw [← hrt]; exact w4
  exact S.2.2.2.1.specialBackS S.1.1 (own := C.b.y.cls) hini S.2.1.1 (mvT hZ w1) (mvT hZ w2) (mvT hZ w4') hy (Cn.back (a0 := a0) (W := W) M hZ S.2.1.2.2.2 S.2.2.2.2.2.1 (hN' S.2.2.2.2.2.2.1) (Nat.le_trans S.1.2.2.2.2.2.2.1 hN) w4 w3 hf hl) (g := mkF m pc Ls (argsL.reverse ++ .ref a :: rest)) rfl (hsz.trans S.1.2.2.1.symm) (Steps.refl _) (argsL := argsL) (rest := rest) (lenOf hpd hlen) rfl (by show 2 * 0 + _ ≤ _; omega) (hb S.1.2.1 hd) (fun _ _ => ⟨rfl, S.2.2.2.2.1, hkc, hnc⟩)
theorem Wk.callV {b : Bdy} {N' : Nat} {as : Array Value} {Q' : Option Value → Heap → Lts → Prop} {idx W : Nat} {ps : List FieldType} {rt : Option FieldType} {argsL : List Value} {a : Addr} {y : MethodName} {K K' : String} (M : Cn C.l C.Z N' b as h I Q') (E : Exa C.Z h a K)
    (w1 : (Jvm.Cond.methodLink C.b.y.cls idx y).before a0 C.Z = true) (wd : (Jvm.Cond.declares y).before a0 C.Z = true) (wn : (Jvm.Cond.selects K' y y).before a0 C.Z = true) (ws : (Jvm.Cond.selects K y b.y).before a0 C.Z = true) (w2 : (Jvm.Cond.instanceMethod b.y).before a0 C.Z = true) (w3 : (Jvm.Cond.initialized b.y.cls).before a0 C.Z = true) (w4 : (Jvm.Cond.code b.y b.code b.maxL b.ret).before a0 C.Z = true) (hy : NoPoly y)
    (hN : C.N ≤ N') (hN' : C.N ≤ h.size → N' ≤ h.size) (hf : b.room.frames + 1 ≤ C.b.room.frames) (hl : W + (b.maxL + 11) + b.room.locals ≤ C.b.room.locals) (hk : k + b.room.cells = k') (hn : n + b.room.slots = n') (hkc : k' ≤ C.b.room.cells) (hnc : n' ≤ C.b.room.slots)
    (hsz : Ls.size = C.b.maxL) (hpd : parseMethodDescriptor y.desc = some ⟨ps, rt⟩) (hlen : argsL.length = ps.length) (has : as = (.ref a :: argsL).toArray) (hst : st = argsL.reverse ++ .ref a :: rest) (hW : (rest.map fun v => v.category).sum ≤ W) (hd : decode C.b.code pc = .ok (.invokevirtual idx, 3)) (hp : pc + 3 = pc')
    (r : ∀ v h' J, h.size ≤ h'.size → Q' v h' J → Wk C h' k' n' J pc' Ls (v.toList ++ rest)) : Wk C h k n I pc Ls st := by
  subst hp has hst hk hn
  intro p e s vm0 m args below meth c T locs k0 S
  refine Wk.behind (b := b) hN rfl rfl r S ?_
  have hZ : C.Z.Warmed39 (s.setVm vm0).vm := S.2.1.2.1
  obtain ⟨cq, kq, qa, qb, qc⟩ := isOf (s := s.setVm vm0) hZ S.2.2.2.2.1 E
  exact S.2.2.2.1.virtualBackS S.1.1 (own := C.b.y.cls) (y := y) (z := b.y) S.2.1.1 (mvT hZ w1) (mvT hZ wd) (notFace_of_selects (args := #[]) (mvT hZ wn)) (mvT hZ ws) (mvT hZ w2) hy (Cn.back (a0 := a0) (W := W) M hZ S.2.1.2.2.2 S.2.2.2.2.2.1 (hN' S.2.2.2.2.2.2.1) (Nat.le_trans S.1.2.2.2.2.2.2.1 hN) w4 w3 hf hl) qa qc (g := mkF m pc Ls (argsL.reverse ++ .ref a :: rest)) rfl (hsz.trans S.1.2.2.1.symm) (Steps.refl _) (argsL := argsL) (rest := rest) (lenOf hpd hlen) rfl (by show 2 * 0 + _ ≤ _; omega) (hb S.1.2.1 hd) (fun _ _ => ⟨rfl, S.2.2.2.2.1, hkc, hnc⟩)
theorem Wk.callI {b : Bdy} {N' : Nat} {as : Array Value} {Q' : Option Value → Heap → Lts → Prop} {idx cnt W : Nat} {ps : List FieldType} {rt : Option FieldType} {argsL : List Value} {a : Addr} {y : MethodName} {K : String} (M : Cn C.l C.Z N' b as h I Q') (E : Exa C.Z h a K)
    (w1 : (Jvm.Cond.methodLink C.b.y.cls idx y).before a0 C.Z = true) (wd : (Jvm.Cond.declares y).before a0 C.Z = true) (wf : (Jvm.Cond.interfaceMethod y.cls y.cls y.name y.desc).before a0 C.Z = true) (ws : (Jvm.Cond.selects K y b.y).before a0 C.Z = true) (w2 : (Jvm.Cond.instanceMethod b.y).before a0 C.Z = true) (wp : (Jvm.Cond.publicMethod b.y).before a0 C.Z = true) (wu : (Jvm.Cond.unhidden K y.name y.desc).before a0 C.Z = true) (wk : (Jvm.Cond.castable K y.cls).before a0 C.Z = true) (w3 : (Jvm.Cond.initialized b.y.cls).before a0 C.Z = true) (w4 : (Jvm.Cond.code b.y b.code b.maxL b.ret).before a0 C.Z = true) (hy : NoPoly y)
    (hN : C.N ≤ N') (hN' : C.N ≤ h.size → N' ≤ h.size) (hf : b.room.frames + 1 ≤ C.b.room.frames) (hl : W + (b.maxL + 11) + b.room.locals ≤ C.b.room.locals) (hk : k + b.room.cells = k') (hn : n + b.room.slots = n') (hkc : k' ≤ C.b.room.cells) (hnc : n' ≤ C.b.room.slots)
    (hsz : Ls.size = C.b.maxL) (hpd : parseMethodDescriptor y.desc = some ⟨ps, rt⟩) (hlen : argsL.length = ps.length) (has : as = (.ref a :: argsL).toArray) (hst : st = argsL.reverse ++ .ref a :: rest) (hW : (rest.map fun v => v.category).sum ≤ W) (hd : decode C.b.code pc = .ok (.invokeinterface idx cnt, 5)) (hp : pc + 5 = pc')
    (r : ∀ v h' J, h.size ≤ h'.size → Q' v h' J → Wk C h' k' n' J pc' Ls (v.toList ++ rest)) : Wk C h k n I pc Ls st := by
  subst hp has hst hk hn
  intro p e s vm0 m args below meth c T locs k0 S
  refine Wk.behind (b := b) hN rfl rfl r S ?_
  have hZ : C.Z.Warmed39 (s.setVm vm0).vm := S.2.1.2.1
  obtain ⟨cq, kq, qa, qb, qc⟩ := isOf (s := s.setVm vm0) hZ S.2.2.2.2.1 E
  exact S.2.2.2.1.interfaceBackS S.1.1 (own := C.b.y.cls) (xi := y) (y := b.y) S.2.1.1 (mvT hZ w1) (mvT hZ wd) (mvT hZ wf (by simp [Cond.onTables, Cond.keepsFace, Cond.keeps, Cond.steady, Cond.faceAtom, hy.1, hy.2])) (mvT hZ ws) (mvT hZ w2) (mvT hZ wp) (mvT hZ wu) (mvT hZ wk) hy (Cn.back (a0 := a0) (W := W) M hZ S.2.1.2.2.2 S.2.2.2.2.2.1 (hN' S.2.2.2.2.2.2.1) (Nat.le_trans S.1.2.2.2.2.2.2.1 hN) w4 w3 hf hl) qa qb qc (g := mkF m pc Ls (argsL.reverse ++ .ref a :: rest)) rfl (hsz.trans S.1.2.2.1.symm) (Steps.refl _) (argsL := argsL) (rest := rest) (lenOf hpd hlen) rfl (by show 2 * 0 + _ ≤ _; omega) (hb S.1.2.1 hd) (fun _ _ => ⟨rfl, S.2.2.2.2.1, hkc, hnc⟩)
end Kit

section Kit2
variable {C : Cx} {h h' : Heap} {k n k' n' : Nat} {I : Lts} {pc pc' : Nat} {Ls Ls' : Array Slot} {st st' rest : List Value} {a0 : Array Value}
theorem own_nf {s : State} {args : Array Value} {y y' : MethodName} {K' : String} (hsel : (Jvm.Cond.selects K' y' y').before args s = true) (hc : y'.cls = y.cls) : NotFace s y := fun r0 hr0 => by
  obtain ⟨c2, r2, m2, q1, q2, q3, q4, kP, hkP, hkPi⟩ := Cond.selects_spec hsel
  have e1 := findClass_of_methodNamed q3
  have e2 := findClass_of_methodNamed hr0
  rw [hc, e2] at e1
  exact ⟨kP, by rw [Option.some.inj e1]; exact hkP, hkPi⟩
theorem Wk.callP {b : Bdy} {N' : Nat} {as : Array Value} {Q' : Option Value → Heap → Lts → Prop} {idx W : Nat} {ps : List FieldType} {rt : Option FieldType} {argsL : List Value} {a : Addr} {y' : MethodName} {K K' : String} (M : Cn C.l C.Z N' b as h I Q') (E : Exa C.Z h a K)
    (w1 : (Jvm.Cond.methodLink C.b.y.cls idx b.y).before a0 C.Z = true) (wn : (Jvm.Cond.selects K' y' y').before a0 C.Z = true) (hyc : y'.cls = b.y.cls) (wp : (Jvm.Cond.privateMethod b.y).before a0 C.Z = true) (w2 : (Jvm.Cond.instanceMethod b.y).before a0 C.Z = true) (w3 : (Jvm.Cond.initialized b.y.cls).before a0 C.Z = true) (w4 : (Jvm.Cond.code b.y b.code b.maxL b.ret).before a0 C.Z = true) (hy : NoPoly b.y)
    (hN : C.N ≤ N') (hN' : C.N ≤ h.size → N' ≤ h.size) (hf : b.room.frames + 1 ≤ C.b.room.frames) (hl : W + (b.maxL + 11) + b.room.locals ≤ C.b.room.locals) (hk : k + b.room.cells = k') (hn : n + b.room.slots = n') (hkc : k' ≤ C.b.room.cells) (hnc : n' ≤ C.b.room.slots)
    (hsz : Ls.size = C.b.maxL) (hpd : parseMethodDescriptor b.y.desc = some ⟨ps, rt⟩) (hlen : argsL.length = ps.length) (has : as = (.ref a :: argsL).toArray) (hst : st = argsL.reverse ++ .ref a :: rest) (hW : (rest.map fun v => v.category).sum ≤ W) (hd : decode C.b.code pc = .ok (.invokevirtual idx, 3)) (hp : pc + 3 = pc')
    (r : ∀ v h' J, h.size ≤ h'.size → Q' v h' J → Wk C h' k' n' J pc' Ls (v.toList ++ rest)) : Wk C h k n I pc Ls st := by
  subst hp has hst hk hn
  intro p e s vm0 m args below meth c T locs k0 S
  refine Wk.behind (b := b) hN rfl rfl r S ?_
  have hZ : C.Z.Warmed39 (s.setVm vm0).vm := S.2.1.2.1
  obtain ⟨mk, methM, hnamed, hmethM, hstM, habM⟩ := Cond.instanceMethod_spec (s := s.setVm vm0) (args := args) (mvT hZ w2)
  obtain ⟨methM', cM, hmethM', -, -, -, -, -, -, hsigM⟩ := Cond.code_spec hnamed (mvT (args := args) (s := s.setVm vm0) hZ w4)
  cases hmethM.symm.trans hmethM'
  obtain ⟨kP, hkP, hkPi⟩ := own_nf (args := args) (s := s.setVm vm0) (mvT hZ wn) hyc mk hnamed
  obtain ⟨cell, hcell, hobj⟩ := E.cell
  have hcell' : T.heap[a]? = some cell := by rw [S.2.2.2.2.1]; exact hcell
  have hselP : selectMethod e.platform (s.setVm vm0).vm cell.cls mk = .method mk := selectMethod_private hmethM (Cond.privateMethod_at (args := args) (mvP hZ wp) mk methM hnamed hmethM)
  obtain ⟨vm₁, X₁, hstep₁⟩ := S.2.2.2.1.invokevirtual S.1.1 (own := C.b.y.cls) S.2.1.1 (mvT hZ w1) hnamed hmethM hstM hkP hkPi hy (a := a) (cell := cell) hcell' hobj hselP hmethM habM hkP hkPi (g := mkF m pc Ls (argsL.reverse ++ .ref a :: rest)) rfl (argsL := argsL) (rest := rest) (lenOf hpd hlen _ hsigM) rfl (hb S.1.2.1 hd)
  have hW₁ : (s.setVm vm0).WarmedH vm₁ := X₁.warmed
  obtain ⟨v, B, X', hS, hgr, hpost, hsteps⟩ := Cn.back (a0 := a0) (W := W) (R := C.b.room) (p := p) (e := e) (below := below) (s := s.setVm vm0) (args := args) (len := 3) M hZ S.2.1.2.2.2 S.2.2.2.2.2.1 (hN' S.2.2.2.2.2.2.1) (Nat.le_trans S.1.2.2.2.2.2.2.1 hN) w4 w3 hf hl m meth c ⟨T.setVm vm₁, locs, k, n⟩ (mkF m pc Ls rest) (.invokevirtual idx) mk (.ref a :: argsL).toArray X₁ rfl (hsz.trans S.1.2.2.1.symm) (hb S.1.2.1 hd) (by show 2 * 0 + (rest.map fun v => v.category).sum ≤ W; omega) (X₁.named hnamed) ⟨rfl, S.2.2.2.2.1, hkc, hnc⟩
  exact ⟨v, vm₁, B, hW₁, X', hS, hgr, hpost, (hstep₁ _ fun acts => by rw [doInvoke_state]; exact Steps.refl _).trans hsteps⟩
theorem Wk.ldcLit {idx cap : Nat} {text : String} {vs : List Value} {z : Int32} {Ts : List String} {Lk : List (String × Nat × Addr)} (w : (Jvm.Cond.stringLink C.b.y.cls idx text).before a0 C.Z = true) (wS : ∀ a ∈ Bundle.stringAtoms, a.before a0 C.Z = true) (hMN : C.M ≤ C.N) (hnot : text ∉ Ts) (hh : Jvm.Lit.constHeld C.Z C.b.y.cls idx) (hcw : Jvm.Lit.compactW.before a0 C.Z = true)
    (ht : (∀ c ∈ text.toList, c.toNat < 256) ∧ text.toList.map (fun c => Value.int (Jvm.Lit.byteI c.toNat.toUInt16)) = vs) (hz : ¬ z < 0) (hzl : z.toNatClampNeg = vs.length) (hd : decode C.b.code pc = .ok (.ldc idx, 2)) (hp : pc + 2 = pc') (hcap : 4 * text.toList.length ≤ cap) (hbig : cap ≤ 536870912) (hk : k + 2 = k') (hn : n + (cap + 4) = n') (hc : k' ≤ C.b.room.cells) (hl : n' ≤ C.b.room.slots)
    (r : ∀ a b q h', Ext h h' → Exa C.Z h' a "java/lang/String" → Fld C.Z h' a "java/lang/String" "coder" "B" (.int 0) → Fld C.Z h' a "java/lang/String" "value" "[B" (.ref b) → Arv C.Z h' b q .byte z vs (.int 0) → ((a < C.M ∧ b < C.M) ∨ (h.size ≤ a ∧ h.size ≤ b)) → Wk C h' k' n' (some (text :: Ts, [(C.b.y.cls, idx, a)])) pc' Ls (.ref a :: st)) : Wk C h k n (some (Ts, Lk)) pc Ls st := by
  subst hp hk hn
  intro p e s vm0 m args below meth c T locs k0 S
  obtain ⟨A, ⟨b1, b2, b3, b4⟩, q1, q2, q3, q4, q5, q6⟩ := S
  have hM : s.heap.size ≤ C.N := by rw [A.2.2.2.2.2.2.2.1]; exact hMN
  obtain ⟨a, T', h', k1, b, q, X', e', E, hS', hk1, hZ', ho', x1, x2, x3, x4, -, -, hI, hL, hpos, st'⟩ := ldcSVd q2 A.1 b2 b1 w wS q3 b3 q1 (fun y hy => Nat.le_trans hM (q6 y hy)) A.2.2.2.2.2.2.2.2.2 b4.1 hnot hh hcw ht hz hzl (g := mkF m pc Ls st) rfl (hb A.2.1 hd) hcap hbig hc hl
  obtain ⟨t, o, h1, h2⟩ := r a b q h' E x1 x2 x3 x4 (by rw [← A.2.2.2.2.2.2.2.1]; exact hpos) p e s T'.vm m args below meth c T' locs k1 ⟨A, ⟨ho', hZ', hS', hI, fun u hu => by rw [List.mem_singleton.mp hu]; exact hL⟩, hk1, X', e', ⟨Nat.le_trans q4.1 E.1, fun x c hx => E.2 _ _ (q4.2 _ _ hx)⟩, Nat.le_trans q5 E.1, q6⟩
  exact ⟨t, o, st' t h1, h2⟩
theorem Wk.ldcAgain {idx : Nat} {a : Addr} {text : String} {Ts : List String} {Lk : List (String × Nat × Addr)} (w : (Jvm.Cond.stringLink C.b.y.cls idx text).before a0 C.Z = true) (hm : (C.b.y.cls, idx, a) ∈ Lk) (hd : decode C.b.code pc = .ok (.ldc idx, 2)) (hp : pc + 2 = pc') (r : Wk C h k n (some (Ts, Lk)) pc' Ls (.ref a :: st)) : Wk C h k n (some (Ts, Lk)) pc Ls st := by
  subst hp
  refine Wk.law (fun p e s vm0 m args below meth c T locs k0 S => ⟨T, S.2.2.2.1, S.2.2.2.2.1, fun t kt => ?_⟩) r
  exact Jvm.RoadKit.ldcAgain S.2.2.2.1 S.1.1 S.2.1.2.1 S.2.1.1 w (S.2.1.2.2.2.2 _ hm) (g := mkF m pc Ls st) rfl (hb S.1.2.1 hd) t kt
/-- a walk that has written nothing below F yet -/
def WkM (F : Nat) (C : Cx) (h : Heap) (k n : Nat) (I : Lts) (pc : Nat) (Ls : Array Slot) (st : List Value) : Prop :=
  ∀ (p : Program) (e : Env) (s : State) (vm0 : Vm) (m : MethodId) (args : Array Value) (below : List Frame) (meth : Method) (c : Code) (T : State) (locs : List Loc) (k0 : Nat),
    St C p e s vm0 m args below meth c T locs k0 h k n I → Fr F locs →
    ∃ t o, Steps p.tables e below (T.setTop (mkF m pc Ls st)) t ∧ t.status = .running ∧ Ended t below o ∧ Fini C s o t
theorem Wk.toM {F : Nat} (r : Wk C h k n I pc Ls st) : WkM F C h k n I pc Ls st := fun p e s vm0 m args below meth c T locs k0 S _ => r p e s vm0 m args below meth c T locs k0 S
theorem WkM.law {F : Nat} (hs : ∀ (p : Program) (e : Env) (s : State) (vm0 : Vm) (m : MethodId) (args : Array Value) (below : List Frame) (meth : Method) (c : Code) (T : State) (locs : List Loc) (k0 : Nat), St C p e s vm0 m args below meth c T locs k0 h k n I →
      ∃ T', Stand p C.l e C.b.room (s.setVm vm0) m args below meth c T' locs k n ∧ T'.heap = h ∧ ∀ t, Steps p.tables e below (T'.setTop (mkF m pc' Ls' st')) t → Steps p.tables e below (T.setTop (mkF m pc Ls st)) t)
    (r : WkM F C h k n I pc' Ls' st') : WkM F C h k n I pc Ls st := fun p e s vm0 m args below meth c T locs k0 S hF => by
  obtain ⟨T', X', e', st⟩ := hs p e s vm0 m args below meth c T locs k0 S
  obtain ⟨t, o, h1, h2⟩ := r p e s vm0 m args below meth c T' locs k0 ⟨S.1, S.2.1, S.2.2.1, X', e', S.2.2.2.2.2⟩ hF
  exact ⟨t, o, st t h1, h2⟩
theorem WkM.step {F : Nat} (hs : ∀ (p : Program) (e : Env) (m : MethodId) (below : List Frame) (c : Code) (T t : State), At T m c below → p.tables.exec = Jvm.exec → c.code = C.b.code → Steps p.tables e below (T.setTop (mkF m pc' Ls' st')) t → Steps p.tables e below (T.setTop (mkF m pc Ls st)) t)
    (r : WkM F C h k n I pc' Ls' st') : WkM F C h k n I pc Ls st := fun p e s vm0 m args below meth c T locs k0 S hF => by
  obtain ⟨t, o, h1, h2⟩ := r p e s vm0 m args below meth c T locs k0 S hF
  exact ⟨t, o, hs p e m below c T t S.2.2.2.1.here S.1.1 S.1.2.1 h1, h2⟩
theorem WkM.iloadN {F : Nat} {j : Fin 4} {v : Int32} (hd : decode C.b.code pc = .ok (.iload_n j, 1)) (hp : pc + 1 = pc') (hl : Ls[j.val]? = some (.val (.int v))) (r : WkM F C h k n I pc' Ls (.int v :: st)) : WkM F C h k n I pc Ls st := by
  subst hp
  exact WkM.step (fun _ _ _ _ _ _ _ ha hx hby kt => XS.iloadN ha hx rfl (hb hby hd) hl kt) r
theorem WkM.aloadN {F : Nat} {j : Fin 4} {v : Value} (hd : decode C.b.code pc = .ok (.aload_n j, 1)) (hp : pc + 1 = pc') (hl : Ls[j.val]? = some (.val v)) (hv : v.isRef = true) (r : WkM F C h k n I pc' Ls (v :: st)) : WkM F C h k n I pc Ls st := by
  subst hp
  exact WkM.step (fun _ _ _ _ _ _ _ ha hx hby kt => XS.aloadN ha hx rfl (hb hby hd) hl hv kt) r
theorem WkM.if_neN {F : Nat} {x : Int32} {o : Int} (hd : decode C.b.code pc = .ok (.ifCond .ne o, 3)) (hp : pc + 3 = pc') (hc : x = (0 : Int32)) (r : WkM F C h k n I pc' Ls st) : WkM F C h k n I pc Ls (.int x :: st) := by
  subst hp
  exact WkM.step (fun _ _ _ _ _ _ _ ha hx hby kt => XS.ifNo ha hx rfl (hb hby hd) rfl ((if0 _ _).trans (teq hc).2) kt) r
theorem WkM.initO {F : Nat} {idx W : Nat} {a : Addr} (w1 : (Jvm.Cond.methodLink C.b.y.cls idx Lib.objectInit).before a0 C.Z = true) (w2 : (Jvm.Cond.instanceMethod Lib.objectInit).before a0 C.Z = true) (w3 : (Jvm.Cond.code Lib.objectInit ⟨#[0xb1]⟩ 1 none).before a0 C.Z = true) (hsz : Ls.size = C.b.maxL) (hd : decode C.b.code pc = .ok (.invokespecial idx, 3)) (hp : pc + 3 = pc') (hf : 1 ≤ C.b.room.frames) (hW : (st.map fun v => v.category).sum ≤ W) (hl : W + 12 ≤ C.b.room.locals)
    (r : WkM F C h k n I pc' Ls st) : WkM F C h k n I pc Ls (.ref a :: st) := by
  subst hp
  exact WkM.law (fun p e s vm0 m args below meth c T locs k0 S => Jvm.RoadKit.initO (g := mkF m pc Ls (.ref a :: st)) S.2.2.2.1 S.1.1 S.2.1.2.1 S.2.1.1 w1 w2 w3 S.2.2.2.2.1 rfl (hsz.trans S.1.2.2.1.symm) rfl (hb S.1.2.1 hd) hf (W := W) (by show 2 * 0 + _ ≤ _; omega) hl) r
theorem WkM.ldcLit {F idx cap : Nat} {text : String} {vs : List Value} {z : Int32} {Ts : List String} {Lk : List (String × Nat × Addr)} (w : (Jvm.Cond.stringLink C.b.y.cls idx text).before a0 C.Z = true) (wS : ∀ a ∈ Bundle.stringAtoms, a.before a0 C.Z = true) (hMN : C.M ≤ F) (hnot : text ∉ Ts) (hh : Jvm.Lit.constHeld C.Z C.b.y.cls idx) (hcw : Jvm.Lit.compactW.before a0 C.Z = true)
    (ht : (∀ c ∈ text.toList, c.toNat < 256) ∧ text.toList.map (fun c => Value.int (Jvm.Lit.byteI c.toNat.toUInt16)) = vs) (hz : ¬ z < 0) (hzl : z.toNatClampNeg = vs.length) (hd : decode C.b.code pc = .ok (.ldc idx, 2)) (hp : pc + 2 = pc') (hcap : 4 * text.toList.length ≤ cap) (hbig : cap ≤ 536870912) (hk : k + 2 = k') (hn : n + (cap + 4) = n') (hc : k' ≤ C.b.room.cells) (hl : n' ≤ C.b.room.slots)
    (r : ∀ a b q h', Ext h h' → Exa C.Z h' a "java/lang/String" → Fld C.Z h' a "java/lang/String" "coder" "B" (.int 0) → Fld C.Z h' a "java/lang/String" "value" "[B" (.ref b) → Arv C.Z h' b q .byte z vs (.int 0) → ((a < C.M ∧ b < C.M) ∨ (h.size ≤ a ∧ h.size ≤ b)) → Wk C h' k' n' (some (text :: Ts, [(C.b.y.cls, idx, a)])) pc' Ls (.ref a :: st)) : WkM F C h k n (some (Ts, Lk)) pc Ls st := by
  subst hp hk hn
  intro p e s vm0 m args below meth c T locs k0 S hF
  obtain ⟨A, ⟨b1, b2, b3, b4⟩, q1, q2, q3, q4, q5, q6⟩ := S
  have hM : s.heap.size ≤ F := by rw [A.2.2.2.2.2.2.2.1]; exact hMN
  obtain ⟨a, T', h', k1, b, q, X', e', E, hS', hk1, hZ', ho', x1, x2, x3, x4, -, -, hI, hL, hpos, st'⟩ := ldcSVd q2 A.1 b2 b1 w wS q3 b3 q1 (fun y hy => Nat.le_trans hM (hF y hy)) A.2.2.2.2.2.2.2.2.2 b4.1 hnot hh hcw ht hz hzl (g := mkF m pc Ls st) rfl (hb A.2.1 hd) hcap hbig hc hl
  obtain ⟨t, o, h1, h2⟩ := r a b q h' E x1 x2 x3 x4 (by rw [← A.2.2.2.2.2.2.2.1]; exact hpos) p e s T'.vm m args below meth c T' locs k1 ⟨A, ⟨ho', hZ', hS', hI, fun u hu => by rw [List.mem_singleton.mp hu]; exact hL⟩, hk1, X', e', ⟨Nat.le_trans q4.1 E.1, fun x c hx => E.2 _ _ (q4.2 _ _ hx)⟩, Nat.le_trans q5 E.1, q6⟩
  exact ⟨t, o, st' t h1, h2⟩
theorem Cn.of_wkM {l : Launch} {Z : State} {N : Nat} {b : Bdy} {as : Array Value} {Q : Option Value → Heap → Lts → Prop} (hp : plainFor b.y = true) (he : ∀ m, entryFrame m as b.maxL = mkF m 0 Ls []) (r : WkM h.size (l, Z, N, h.size, b, Q) h 0 0 I 0 Ls []) : Cn l Z N b as h I Q := by
  intro ws
  refine MetFree.of_bodySF hp hisR ?_
  intro p e s m args below meth c s₁ Bd hml0 hP hK
  obtain ⟨rfl, hZ, hh, hV, hE, hN, hZN⟩ := hP
  have X0 : Stand p l e b.room (s.setVm s.vm) m args below meth c s₁ [] 0 0 := Stand.of_body Bd
  have e0 : s₁.heap = h := by rw [← hh, Bd.state]; rfl
  obtain ⟨t, o, h1, h2⟩ := r p e s s.vm m args below meth c s₁ [] s.heap.size ⟨⟨Bd.exec, Bd.bytes, hml0, Bd.returns, Bd.notSynchronized, (name_of_methodNamed Bd.named Bd.method).1, hZN, by rw [hh], by rw [hh]; exact hE⟩, ⟨findClass_of_methodNamed Bd.named, hZ, (State.WarmedH.refl s).since _, hV⟩, by rw [hh]; exact Nat.le_refl _, X0, e0, hE, hN, Fr.nil _⟩ (Fr.nil _)
  exact ⟨t, o, castTop (he m) h1, h2⟩
/-- a step that writes some places of one array -/
theorem Wk.lawK {b : Addr} {P : Heap → Prop} (hs : ∀ (p : Program) (e : Env) (s : State) (vm0 : Vm) (m : MethodId) (args : Array Value) (below : List Frame) (meth : Method) (c : Code) (T : State) (locs : List Loc) (k0 : Nat), St C p e s vm0 m args below meth c T locs k0 h k n I →
      ∃ T' h' L, Stand p C.l e C.b.room (s.setVm vm0) m args below meth c T' L k n ∧ T'.heap = h' ∧ Fr C.N L ∧ Keep h h' [b] ∧ P h' ∧ ∀ t, Steps p.tables e below (T'.setTop (mkF m pc' Ls' st')) t → Steps p.tables e below (T.setTop (mkF m pc Ls st)) t)
    (hb : C.N ≤ b) (r : ∀ h', Keep h h' [b] → P h' → Wk C h' k n I pc' Ls' st') : Wk C h k n I pc Ls st := fun p e s vm0 m args below meth c T locs k0 S => by
  obtain ⟨T', h', L, X', e', F', K, hp, st⟩ := hs p e s vm0 m args below meth c T locs k0 S
  obtain ⟨A, B, q1, q2, q3, q4, q5, q6⟩ := S
  have hO : Old C.Z C.Z.heap.size h := ⟨rfl, q4⟩
  obtain ⟨t, o, h1, h2⟩ := r h' K hp p e s vm0 m args below meth c T' L k0 ⟨A, B, Nat.le_trans q1 K.1, X', e', (hO.keep K (allS (Nat.le_trans A.2.2.2.2.2.2.1 hb) all0)).2, Nat.le_trans q5 K.1, F'⟩
  exact ⟨t, o, st t h1, h2⟩
theorem Wk.arraycopy {idx W : Nat} {a b : Addr} {q q' : ClassId} {ty ty' : FieldType} {z z' sp dp nn : Int32} {vs vd us : List Value} {dv dd : Value} (A : Arv C.Z h a q ty z vs dv) (B : Arv C.Z h b q' ty' z' vd dd) (hty : (ty = ty' ∧ refKind ty = false) ∨ (refKind ty = true ∧ refKind ty' = true ∧ StoL C.Z h b us)) (hN : C.N ≤ b)
    (w1 : (Jvm.Cond.methodLink C.b.y.cls idx Jvm.Stand.acN).before a0 C.Z = true) (w2 : (Jvm.Cond.native Jvm.Stand.acN).before a0 C.Z = true) (w3 : (Jvm.Cond.static Jvm.Stand.acN).before a0 C.Z = true) (w4 : (Jvm.Cond.initialized "java/lang/System").before a0 C.Z = true)
    (h1 : ¬ sp < 0) (h2 : ¬ dp < 0) (h3 : ¬ nn < 0) (h4 : sp.toNatClampNeg + nn.toNatClampNeg ≤ z.toNatClampNeg) (h5 : dp.toNatClampNeg + nn.toNatClampNeg ≤ z'.toNatClampNeg) (hus : us = (List.range nn.toNatClampNeg).map fun i => vs.getD (sp.toNatClampNeg + i) dv) (hlv : dp.toNatClampNeg + nn.toNatClampNeg ≤ vd.length)
    (hsz : Ls.size = C.b.maxL) (hd : decode C.b.code pc = .ok (.invokestatic idx, 3)) (hp : pc + 3 = pc') (hf : 1 ≤ C.b.room.frames) (hW : (st.map fun v => v.category).sum ≤ W) (hlo : W + (nativeFrameWords "java/lang/System" "arraycopy" 5 + 11) ≤ C.b.room.locals)
    (r : ∀ h', Keep h h' [b] → Arv C.Z h' b q' ty' z' (vd.take dp.toNatClampNeg ++ us ++ vd.drop (dp.toNatClampNeg + nn.toNatClampNeg)) dd → Wk C h' k n I pc' Ls st) : Wk C h k n I pc Ls (.int nn :: .int dp :: .ref b :: .int sp :: .ref a :: st) := by
  subst hp
  exact Wk.lawK (P := fun h' => Arv C.Z h' b q' ty' z' (vd.take dp.toNatClampNeg ++ us ++ vd.drop (dp.toNatClampNeg + nn.toNatClampNeg)) dd) (fun p e s vm0 m args below meth c T locs k0 S => cpA (g := mkF m pc Ls (.int nn :: .int dp :: .ref b :: .int sp :: .ref a :: st)) S.2.2.2.1 S.1.1 S.2.1.2.1 S.2.1.1 w1 w2 w3 w4 S.2.2.2.2.1 A B hty h1 h2 h3 h4 h5 hus hlv S.2.2.2.2.2.2.2 hN rfl (hsz.trans S.1.2.2.1.symm) rfl (hb S.1.2.1 hd) hf (W := W) (by show 2 * 0 + _ ≤ _; omega) hlo) hN r
theorem own_sm {s : State} {args : Array Value} {y y' : MethodName} {K' : String} (w2 : (Jvm.Cond.instanceMethod y).before args s = true) (hsel : (Jvm.Cond.selects K' y' y').before args s = true) (hc : y'.cls = y.cls) (hy : y.cls ≠ "java/lang/invoke/MethodHandle" ∧ y.cls ≠ "java/lang/invoke/VarHandle") : (Jvm.Cond.sameMethod y.cls y.cls y.name y.desc).before args s = true := by
  obtain ⟨mk, methM, hnamed, hmethM, hstM, habM⟩ := Cond.instanceMethod_spec w2
  obtain ⟨c2, r2, m2, q1, q2, q3, q4, kP, hkP, hkPi⟩ := Cond.selects_spec hsel
  have e1 := findClass_of_methodNamed q3
  have e2 := findClass_of_methodNamed hnamed
  rw [hc, e2] at e1
  have e3 := Option.some.inj e1
  have hf := State.methodFound?_of_named hnamed hy
  have hn : s.methodNamed? ⟨y.cls, y.name, y.desc⟩ = some mk := hnamed
  have hk : s.vm.classes[mk.cls]? = some kP := by rw [e3]; exact hkP
  simp only [Cond.before, Cond.holds, Cond.value, e2, hf, hn, hk]
  simp [hkPi]
theorem Wk.callZ {b : Bdy} {N' : Nat} {as : Array Value} {Q' : Option Value → Heap → Lts → Prop} {idx W : Nat} {ps : List FieldType} {rt : Option FieldType} {argsL : List Value} {a : Addr} {K : String} (M : Cn C.l C.Z N' b as h I Q') (F : Ins C.Z h a K true)
    (w1 : (Jvm.Cond.methodLink C.b.y.cls idx b.y).before a0 C.Z = true) {K' : String} {y' : MethodName} (wn : (Jvm.Cond.selects K' y' y').before a0 C.Z = true) (hyc : y'.cls = b.y.cls) (hpo : NoPoly b.y) (w2 : (Jvm.Cond.instanceMethod b.y).before a0 C.Z = true) (wu : (Jvm.Cond.superclass C.b.y.cls b.y.cls).before a0 C.Z = true) (hni : b.y.name ≠ "<init>") (w3 : (Jvm.Cond.initialized b.y.cls).before a0 C.Z = true) (w4 : (Jvm.Cond.code b.y b.code b.maxL b.ret).before a0 C.Z = true)
    (hN : C.N ≤ N') (hN' : C.N ≤ h.size → N' ≤ h.size) (hf : b.room.frames + 1 ≤ C.b.room.frames) (hl : W + (b.maxL + 11) + b.room.locals ≤ C.b.room.locals) (hk : k + b.room.cells = k') (hn : n + b.room.slots = n') (hkc : k' ≤ C.b.room.cells) (hnc : n' ≤ C.b.room.slots)
    (hsz : Ls.size = C.b.maxL) (hpd : parseMethodDescriptor b.y.desc = some ⟨ps, rt⟩) (hlen : argsL.length = ps.length) (has : as = (.ref a :: argsL).toArray) (hst : st = argsL.reverse ++ .ref a :: rest) (hW : (rest.map fun v => v.category).sum ≤ W) (hd : decode C.b.code pc = .ok (.invokespecial idx, 3)) (hp : pc + 3 = pc')
    (r : ∀ v h' J, h.size ≤ h'.size → Q' v h' J → Wk C h' k' n' J pc' Ls (v.toList ++ rest)) : Wk C h k n I pc Ls st := by
  subst hp has hst hk hn
  intro p e s vm0 m args below meth c T locs k0 S
  refine Wk.behind (b := b) hN rfl rfl r S ?_
  have hZ : C.Z.Warmed39 (s.setVm vm0).vm := S.2.1.2.1
  exact superBackS (a0 := a0) S.2.2.2.1 S.1.1 hZ (own := C.b.y.cls) S.2.1.1 w1 (own_sm w2 wn hyc hpo) w2 wu hni (Cn.back (a0 := a0) (W := W) M hZ S.2.1.2.2.2 S.2.2.2.2.2.1 (hN' S.2.2.2.2.2.2.1) (Nat.le_trans S.1.2.2.2.2.2.2.1 hN) w4 w3 hf hl) S.2.2.2.2.1 F (g := mkF m pc Ls (argsL.reverse ++ .ref a :: rest)) rfl (hsz.trans S.1.2.2.1.symm) w4 (argsL := argsL) (rest := rest) (lenOf hpd hlen) rfl (by show 2 * 0 + _ ≤ _; omega) (hb S.1.2.1 hd) (fun _ _ => ⟨rfl, S.2.2.2.2.1, hkc, hnc⟩)
theorem Wk.callV2 {b : Bdy} {N' : Nat} {as : Array Value} {Q' : Option Value → Heap → Lts → Prop} {idx W : Nat} {ps : List FieldType} {rt : Option FieldType} {argsL : List Value} {a : Addr} {y y' : MethodName} {K K' : String} (M : Cn C.l C.Z N' b as h I Q') (E : Exa C.Z h a K)
    (w1 : (Jvm.Cond.methodLink C.b.y.cls idx y).before a0 C.Z = true) (wd : (Jvm.Cond.declares y).before a0 C.Z = true) (wn : (Jvm.Cond.selects K' y' y').before a0 C.Z = true) (hyc : y'.cls = y.cls) (ws : (Jvm.Cond.selects K y b.y).before a0 C.Z = true) (w2 : (Jvm.Cond.instanceMethod b.y).before a0 C.Z = true) (w3 : (Jvm.Cond.initialized b.y.cls).before a0 C.Z = true) (w4 : (Jvm.Cond.code b.y b.code b.maxL b.ret).before a0 C.Z = true) (hy : NoPoly y)
    (hN : C.N ≤ N') (hN' : C.N ≤ h.size → N' ≤ h.size) (hf : b.room.frames + 1 ≤ C.b.room.frames) (hl : W + (b.maxL + 11) + b.room.locals ≤ C.b.room.locals) (hk : k + b.room.cells = k') (hn : n + b.room.slots = n') (hkc : k' ≤ C.b.room.cells) (hnc : n' ≤ C.b.room.slots)
    (hsz : Ls.size = C.b.maxL) (hpd : parseMethodDescriptor y.desc = some ⟨ps, rt⟩) (hlen : argsL.length = ps.length) (has : as = (.ref a :: argsL).toArray) (hst : st = argsL.reverse ++ .ref a :: rest) (hW : (rest.map fun v => v.category).sum ≤ W) (hd : decode C.b.code pc = .ok (.invokevirtual idx, 3)) (hp : pc + 3 = pc')
    (r : ∀ v h' J, h.size ≤ h'.size → Q' v h' J → Wk C h' k' n' J pc' Ls (v.toList ++ rest)) : Wk C h k n I pc Ls st := by
  subst hp has hst hk hn
  intro p e s vm0 m args below meth c T locs k0 S
  refine Wk.behind (b := b) hN rfl rfl r S ?_
  have hZ : C.Z.Warmed39 (s.setVm vm0).vm := S.2.1.2.1
  obtain ⟨cq, kq, qa, qb, qc⟩ := isOf (s := s.setVm vm0) hZ S.2.2.2.2.1 E
  exact S.2.2.2.1.virtualBackS S.1.1 (own := C.b.y.cls) (y := y) (z := b.y) S.2.1.1 (mvT hZ w1) (mvT hZ wd) (own_nf (args := #[]) (mvT hZ wn) hyc) (mvT hZ ws) (mvT hZ w2) hy (Cn.back (a0 := a0) (W := W) M hZ S.2.1.2.2.2 S.2.2.2.2.2.1 (hN' S.2.2.2.2.2.2.1) (Nat.le_trans S.1.2.2.2.2.2.2.1 hN) w4 w3 hf hl) qa qc (g := mkF m pc Ls (argsL.reverse ++ .ref a :: rest)) rfl (hsz.trans S.1.2.2.1.symm) (Steps.refl _) (argsL := argsL) (rest := rest) (lenOf hpd hlen) rfl (by show 2 * 0 + _ ≤ _; omega) (hb S.1.2.1 hd) (fun _ _ => ⟨rfl, S.2.2.2.2.1, hkc, hnc⟩)
end Kit2
theorem w0 {Z : State} {a0 : Array Value} (hw : ∀ d ∈ tables_1, d.before a0 Z = true) : (Jvm.Cond.methodLink "com/example/portcullis/portcullis/gate/ChallengeWithRealmPinLaw" (27 : Nat) ({ cls := "com/example/portcullis/portcullis/gate/ChallengeWithRealmPinLaw", name := "printable", desc := "(I)C" } : Jvm.MethodName)).before a0 Z = true := hw _ (List.mem_of_getElem? (i := 0) rfl)
theorem w1 {Z : State} {a0 : Array Value} (hw : ∀ d ∈ tables_1, d.before a0 Z = true) : (Jvm.Cond.static ({ cls := "com/example/portcullis/portcullis/gate/ChallengeWithRealmPinLaw", name := "printable", desc := "(I)C" } : Jvm.MethodName)).before a0 Z = true := hw _ (List.mem_of_getElem? (i := 1) rfl)
theorem w2 {Z : State} {a0 : Array Value} (hw : ∀ d ∈ tables_1, d.before a0 Z = true) : (Jvm.Cond.initialized "com/example/portcullis/portcullis/gate/ChallengeWithRealmPinLaw").before a0 Z = true := hw _ (List.mem_of_getElem? (i := 2) rfl)
theorem w3 {Z : State} {a0 : Array Value} (hw : ∀ d ∈ tables_1, d.before a0 Z = true) : (Jvm.Cond.code ({ cls := "com/example/portcullis/portcullis/gate/ChallengeWithRealmPinLaw", name := "printable", desc := "(I)C" } : Jvm.MethodName) method_3_code (1 : Nat) (Option.some Jvm.ClassFile.FieldType.char)).before a0 Z = true := hw _ (List.mem_of_getElem? (i := 3) rfl)
theorem w4 {Z : State} {a0 : Array Value} (hw : ∀ d ∈ tables_1, d.before a0 Z = true) : (Jvm.Cond.constant "com/example/portcullis/portcullis/gate/ChallengeWithRealmPinLaw" (12 : Nat) (2147483647 : Int32)).before a0 Z = true := hw _ (List.mem_of_getElem? (i := 4) rfl)
theorem w5 {Z : State} {a0 : Array Value} (hw : ∀ d ∈ tables_1, d.before a0 Z = true) : (Jvm.Cond.methodLink "com/example/portcullis/portcullis/gate/ChallengeWithRealmPinLaw" (30 : Nat) ({ cls := "com/example/portcullis/portcullis/gate/ChallengeWithRealmPinLaw", name := "mk", desc := "(ICCC)Ljava/lang/String;" } : Jvm.MethodName)).before a0 Z = true := hw _ (List.mem_of_getElem? (i := 5) rfl)
theorem w6 {Z : State} {a0 : Array Value} (hw : ∀ d ∈ tables_1, d.before a0 Z = true) : (Jvm.Cond.static ({ cls := "com/example/portcullis/portcullis/gate/ChallengeWithRealmPinLaw", name := "mk", desc := "(ICCC)Ljava/lang/String;" } : Jvm.MethodName)).before a0 Z = true := hw _ (List.mem_of_getElem? (i := 6) rfl)
theorem w7 {Z : State} {a0 : Array Value} (hw : ∀ d ∈ tables_1, d.before a0 Z = true) : (Jvm.Cond.code ({ cls := "com/example/portcullis/portcullis/gate/ChallengeWithRealmPinLaw", name := "mk", desc := "(ICCC)Ljava/lang/String;" } : Jvm.MethodName) method_2_code (4 : Nat) (Option.some (Jvm.ClassFile.FieldType.object "java/lang/String"))).before a0 Z = true := hw _ (List.mem_of_getElem? (i := 7) rfl)
theorem w8 {Z : State} {a0 : Array Value} (hw : ∀ d ∈ tables_1, d.before a0 Z = true) : (Jvm.Cond.classLink "com/example/portcullis/portcullis/gate/ChallengeWithRealmPinLaw" (7 : Nat) "java/lang/String").before a0 Z = true := hw _ (List.mem_of_getElem? (i := 8) rfl)
theorem w9 {Z : State} {a0 : Array Value} (hw : ∀ d ∈ tables_1, d.before a0 Z = true) : (Jvm.Cond.instantiable "java/lang/String" (4 : Nat)).before a0 Z = true := hw _ (List.mem_of_getElem? (i := 9) rfl)
theorem w10 {Z : State} {a0 : Array Value} (hw : ∀ d ∈ tables_1, d.before a0 Z = true) : (Jvm.Cond.initialized "java/lang/String").before a0 Z = true := hw _ (List.mem_of_getElem? (i := 10) rfl)
theorem w11 {Z : State} {a0 : Array Value} (hw : ∀ d ∈ tables_1, d.before a0 Z = true) : (Jvm.Cond.arrayClass Jvm.ClassFile.FieldType.char).before a0 Z = true := hw _ (List.mem_of_getElem? (i := 11) rfl)
theorem w12 {Z : State} {a0 : Array Value} (hw : ∀ d ∈ tables_1, d.before a0 Z = true) : (Jvm.Cond.methodLink "com/example/portcullis/portcullis/gate/ChallengeWithRealmPinLaw" (9 : Nat) ({ cls := "java/lang/String", name := "<init>", desc := "([C)V" } : Jvm.MethodName)).before a0 Z = true := hw _ (List.mem_of_getElem? (i := 12) rfl)
theorem w13 {Z : State} {a0 : Array Value} (hw : ∀ d ∈ tables_1, d.before a0 Z = true) : (Jvm.Cond.instanceMethod ({ cls := "java/lang/String", name := "<init>", desc := "([C)V" } : Jvm.MethodName)).before a0 Z = true := hw _ (List.mem_of_getElem? (i := 13) rfl)
theorem w14 {Z : State} {a0 : Array Value} (hw : ∀ d ∈ tables_1, d.before a0 Z = true) : (Jvm.Cond.code ({ cls := "java/lang/String", name := "<init>", desc := "([C)V" } : Jvm.MethodName) jdk_42_method_3_code (2 : Nat) (Option.none : Option Jvm.ClassFile.FieldType)).before a0 Z = true := hw _ (List.mem_of_getElem? (i := 14) rfl)
theorem w15 {Z : State} {a0 : Array Value} (hw : ∀ d ∈ tables_1, d.before a0 Z = true) : (Jvm.Cond.methodLink "java/lang/String" (27 : Nat) ({ cls := "java/lang/String", name := "<init>", desc := "([CIILjava/lang/Void;)V" } : Jvm.MethodName)).before a0 Z = true := hw _ (List.mem_of_getElem? (i := 15) rfl)
theorem w16 {Z : State} {a0 : Array Value} (hw : ∀ d ∈ tables_1, d.before a0 Z = true) : (Jvm.Cond.instanceMethod ({ cls := "java/lang/String", name := "<init>", desc := "([CIILjava/lang/Void;)V" } : Jvm.MethodName)).before a0 Z = true := hw _ (List.mem_of_getElem? (i := 16) rfl)
theorem w18 {Z : State} {a0 : Array Value} (hw : ∀ d ∈ tables_1, d.before a0 Z = true) : (Jvm.Cond.code ({ cls := "java/lang/String", name := "<init>", desc := "([CIILjava/lang/Void;)V" } : Jvm.MethodName) jdk_42_method_149_code (6 : Nat) (Option.none : Option Jvm.ClassFile.FieldType)).before a0 Z = true := hw _ (List.mem_of_getElem? (i := 18) rfl)
theorem w19 {Z : State} {a0 : Array Value} (hw : ∀ d ∈ tables_1, d.before a0 Z = true) : (Jvm.Cond.methodLink "java/lang/String" (1 : Nat) ({ cls := "java/lang/Object", name := "<init>", desc := "()V" } : Jvm.MethodName)).before a0 Z = true := hw _ (List.mem_of_getElem? (i := 19) rfl)
theorem w20 {Z : State} {a0 : Array Value} (hw : ∀ d ∈ tables_1, d.before a0 Z = true) : (Jvm.Cond.instanceMethod ({ cls := "java/lang/Object", name := "<init>", desc := "()V" } : Jvm.MethodName)).before a0 Z = true := hw _ (List.mem_of_getElem? (i := 20) rfl)
theorem w21 {Z : State} {a0 : Array Value} (hw : ∀ d ∈ tables_1, d.before a0 Z = true) : (Jvm.Cond.code ({ cls := "java/lang/Object", name := "<init>", desc := "()V" } : Jvm.MethodName) object_method_1_code (1 : Nat) (Option.none : Option Jvm.ClassFile.FieldType)).before a0 Z = true := hw _ (List.mem_of_getElem? (i := 21) rfl)
theorem w22 {Z : State} {a0 : Array Value} (hw : ∀ d ∈ tables_1, d.before a0 Z = true) : (Jvm.Cond.stringLink "java/lang/String" (7 : Nat) "").before a0 Z = true := hw _ (List.mem_of_getElem? (i := 22) rfl)
theorem w23 {Z : State} {a0 : Array Value} (hw : ∀ d ∈ tables_1, d.before a0 Z = true) : (Jvm.Cond.arrayClass Jvm.ClassFile.FieldType.byte).before a0 Z = true := hw _ (List.mem_of_getElem? (i := 23) rfl)
theorem w24 {Z : State} {a0 : Array Value} (hw : ∀ d ∈ tables_1, d.before a0 Z = true) : (Jvm.Cond.laysFinal "java/lang/String" "java/lang/String" "value" "[B").before a0 Z = true := hw _ (List.mem_of_getElem? (i := 24) rfl)
theorem w25 {Z : State} {a0 : Array Value} (hw : ∀ d ∈ tables_1, d.before a0 Z = true) : (Jvm.Cond.laysFinal "java/lang/String" "java/lang/String" "coder" "B").before a0 Z = true := hw _ (List.mem_of_getElem? (i := 25) rfl)
theorem w26 {Z : State} {a0 : Array Value} (hw : ∀ d ∈ tables_1, d.before a0 Z = true) : (Jvm.Cond.soleField "java/lang/String" "value").before a0 Z = true := hw _ (List.mem_of_getElem? (i := 26) rfl)
theorem w27 {Z : State} {a0 : Array Value} (hw : ∀ d ∈ tables_1, d.before a0 Z = true) : (Jvm.Cond.soleField "java/lang/String" "coder").before a0 Z = true := hw _ (List.mem_of_getElem? (i := 27) rfl)
theorem w28 {Z : State} {a0 : Array Value} (hw : ∀ d ∈ tables_1, d.before a0 Z = true) : (Jvm.Cond.fieldLink "java/lang/String" (9 : Nat) "java/lang/String" "value" "[B").before a0 Z = true := hw _ (List.mem_of_getElem? (i := 28) rfl)
theorem w29 {Z : State} {a0 : Array Value} (hw : ∀ d ∈ tables_1, d.before a0 Z = true) : (Jvm.Cond.fieldLink "java/lang/String" (15 : Nat) "java/lang/String" "coder" "B").before a0 Z = true := hw _ (List.mem_of_getElem? (i := 29) rfl)
theorem w30 {Z : State} {a0 : Array Value} (hw : ∀ d ∈ tables_1, d.before a0 Z = true) : (Jvm.Cond.methodLink "com/example/portcullis/portcullis/gate/ChallengeWithRealmPinLaw" (34 : Nat) ({ cls := "com/example/portcullis/portcullis/gate/Challenge", name := "withRealm", desc := "(Ljava/lang/String;Ljava/lang/String;)Ljava/lang/String;" } : Jvm.MethodName)).before a0 Z = true := hw _ (List.mem_of_getElem? (i := 30) rfl)
theorem w31 {Z : State} {a0 : Array Value} (hw : ∀ d ∈ tables_1, d.before a0 Z = true) : (Jvm.Cond.static ({ cls := "com/example/portcullis/portcullis/gate/Challenge", name := "withRealm", desc := "(Ljava/lang/String;Ljava/lang/String;)Ljava/lang/String;" } : Jvm.MethodName)).before a0 Z = true := hw _ (List.mem_of_getElem? (i := 31) rfl)
theorem w32 {Z : State} {a0 : Array Value} (hw : ∀ d ∈ tables_1, d.before a0 Z = true) : (Jvm.Cond.initialized "com/example/portcullis/portcullis/gate/Challenge").before a0 Z = true := hw _ (List.mem_of_getElem? (i := 32) rfl)
theorem w33 {Z : State} {a0 : Array Value} (hw : ∀ d ∈ tables_1, d.before a0 Z = true) : (Jvm.Cond.code ({ cls := "com/example/portcullis/portcullis/gate/Challenge", name := "withRealm", desc := "(Ljava/lang/String;Ljava/lang/String;)Ljava/lang/String;" } : Jvm.MethodName) prog_11_method_2_code (5 : Nat) (Option.some (Jvm.ClassFile.FieldType.object "java/lang/String"))).before a0 Z = true := hw _ (List.mem_of_getElem? (i := 33) rfl)
theorem w34 {Z : State} {a0 : Array Value} (hw : ∀ d ∈ tables_1, d.before a0 Z = true) : (Jvm.Cond.classLink "com/example/portcullis/portcullis/gate/Challenge" (7 : Nat) "java/lang/StringBuilder").before a0 Z = true := hw _ (List.mem_of_getElem? (i := 34) rfl)
theorem w35 {Z : State} {a0 : Array Value} (hw : ∀ d ∈ tables_1, d.before a0 Z = true) : (Jvm.Cond.instantiable "java/lang/StringBuilder" (4 : Nat)).before a0 Z = true := hw _ (List.mem_of_getElem? (i := 35) rfl)
theorem w36 {Z : State} {a0 : Array Value} (hw : ∀ d ∈ tables_1, d.before a0 Z = true) : (Jvm.Cond.initialized "java/lang/StringBuilder").before a0 Z = true := hw _ (List.mem_of_getElem? (i := 36) rfl)
theorem w37 {Z : State} {a0 : Array Value} (hw : ∀ d ∈ tables_1, d.before a0 Z = true) : (Jvm.Cond.methodLink "com/example/portcullis/portcullis/gate/Challenge" (9 : Nat) ({ cls := "java/lang/StringBuilder", name := "<init>", desc := "(Ljava/lang/String;)V" } : Jvm.MethodName)).before a0 Z = true := hw _ (List.mem_of_getElem? (i := 37) rfl)
theorem w38 {Z : State} {a0 : Array Value} (hw : ∀ d ∈ tables_1, d.before a0 Z = true) : (Jvm.Cond.instanceMethod ({ cls := "java/lang/StringBuilder", name := "<init>", desc := "(Ljava/lang/String;)V" } : Jvm.MethodName)).before a0 Z = true := hw _ (List.mem_of_getElem? (i := 38) rfl)
theorem w39 {Z : State} {a0 : Array Value} (hw : ∀ d ∈ tables_1, d.before a0 Z = true) : (Jvm.Cond.code ({ cls := "java/lang/StringBuilder", name := "<init>", desc := "(Ljava/lang/String;)V" } : Jvm.MethodName) jdk_67_method_3_code (2 : Nat) (Option.none : Option Jvm.ClassFile.FieldType)).before a0 Z = true := hw _ (List.mem_of_getElem? (i := 39) rfl)
theorem w40 {Z : State} {a0 : Array Value} (hw : ∀ d ∈ tables_1, d.before a0 Z = true) : (Jvm.Cond.methodLink "java/lang/StringBuilder" (7 : Nat) ({ cls := "java/lang/AbstractStringBuilder", name := "<init>", desc := "(Ljava/lang/String;)V" } : Jvm.MethodName)).before a0 Z = true := hw _ (List.mem_of_getElem? (i := 40) rfl)
theorem w41 {Z : State} {a0 : Array Value} (hw : ∀ d ∈ tables_1, d.before a0 Z = true) : (Jvm.Cond.instanceMethod ({ cls := "java/lang/AbstractStringBuilder", name := "<init>", desc := "(Ljava/lang/String;)V" } : Jvm.MethodName)).before a0 Z = true := hw _ (List.mem_of_getElem? (i := 41) rfl)
theorem w44 {Z : State} {a0 : Array Value} (hw : ∀ d ∈ tables_1, d.before a0 Z = true) : (Jvm.Cond.initialized "java/lang/AbstractStringBuilder").before a0 Z = true := hw _ (List.mem_of_getElem? (i := 44) rfl)
theorem w45 {Z : State} {a0 : Array Value} (hw : ∀ d ∈ tables_1, d.before a0 Z = true) : (Jvm.Cond.code ({ cls := "java/lang/AbstractStringBuilder", name := "<init>", desc := "(Ljava/lang/String;)V" } : Jvm.MethodName) jdk_68_method_3_code (5 : Nat) (Option.none : Option Jvm.ClassFile.FieldType)).before a0 Z = true := hw _ (List.mem_of_getElem? (i := 45) rfl)
theorem w46 {Z : State} {a0 : Array Value} (hw : ∀ d ∈ tables_1, d.before a0 Z = true) : (Jvm.Cond.methodLink "java/lang/AbstractStringBuilder" (3 : Nat) ({ cls := "java/lang/Object", name := "<init>", desc := "()V" } : Jvm.MethodName)).before a0 Z = true := hw _ (List.mem_of_getElem? (i := 46) rfl)
theorem w47 {Z : State} {a0 : Array Value} (hw : ∀ d ∈ tables_1, d.before a0 Z = true) : (Jvm.Cond.methodLink "java/lang/AbstractStringBuilder" (32 : Nat) ({ cls := "java/lang/String", name := "length", desc := "()I" } : Jvm.MethodName)).before a0 Z = true := hw _ (List.mem_of_getElem? (i := 47) rfl)
theorem w48 {Z : State} {a0 : Array Value} (hw : ∀ d ∈ tables_1, d.before a0 Z = true) : (Jvm.Cond.declares ({ cls := "java/lang/String", name := "length", desc := "()I" } : Jvm.MethodName)).before a0 Z = true := hw _ (List.mem_of_getElem? (i := 48) rfl)
theorem w49 {Z : State} {a0 : Array Value} (hw : ∀ d ∈ tables_1, d.before a0 Z = true) : (Jvm.Cond.instanceMethod ({ cls := "java/lang/String", name := "length", desc := "()I" } : Jvm.MethodName)).before a0 Z = true := hw _ (List.mem_of_getElem? (i := 49) rfl)
theorem w50 {Z : State} {a0 : Array Value} (hw : ∀ d ∈ tables_1, d.before a0 Z = true) : (Jvm.Cond.selects "java/lang/String" ({ cls := "java/lang/String", name := "length", desc := "()I" } : Jvm.MethodName) ({ cls := "java/lang/String", name := "length", desc := "()I" } : Jvm.MethodName)).before a0 Z = true := hw _ (List.mem_of_getElem? (i := 50) rfl)
theorem w51 {Z : State} {a0 : Array Value} (hw : ∀ d ∈ tables_1, d.before a0 Z = true) : (Jvm.Cond.code ({ cls := "java/lang/String", name := "length", desc := "()I" } : Jvm.MethodName) jdk_42_method_54_code (1 : Nat) (Option.some Jvm.ClassFile.FieldType.int)).before a0 Z = true := hw _ (List.mem_of_getElem? (i := 51) rfl)
theorem w52 {Z : State} {a0 : Array Value} (hw : ∀ d ∈ tables_1, d.before a0 Z = true) : (Jvm.Cond.methodLink "java/lang/String" (335 : Nat) ({ cls := "java/lang/String", name := "coder", desc := "()B" } : Jvm.MethodName)).before a0 Z = true := hw _ (List.mem_of_getElem? (i := 52) rfl)
theorem w53 {Z : State} {a0 : Array Value} (hw : ∀ d ∈ tables_1, d.before a0 Z = true) : (Jvm.Cond.declares ({ cls := "java/lang/String", name := "coder", desc := "()B" } : Jvm.MethodName)).before a0 Z = true := hw _ (List.mem_of_getElem? (i := 53) rfl)
theorem w54 {Z : State} {a0 : Array Value} (hw : ∀ d ∈ tables_1, d.before a0 Z = true) : (Jvm.Cond.instanceMethod ({ cls := "java/lang/String", name := "coder", desc := "()B" } : Jvm.MethodName)).before a0 Z = true := hw _ (List.mem_of_getElem? (i := 54) rfl)
theorem w55 {Z : State} {a0 : Array Value} (hw : ∀ d ∈ tables_1, d.before a0 Z = true) : (Jvm.Cond.selects "java/lang/String" ({ cls := "java/lang/String", name := "coder", desc := "()B" } : Jvm.MethodName) ({ cls := "java/lang/String", name := "coder", desc := "()B" } : Jvm.MethodName)).before a0 Z = true := hw _ (List.mem_of_getElem? (i := 55) rfl)
theorem w56 {Z : State} {a0 : Array Value} (hw : ∀ d ∈ tables_1, d.before a0 Z = true) : (Jvm.Cond.code ({ cls := "java/lang/String", name := "coder", desc := "()B" } : Jvm.MethodName) jdk_42_method_152_code (1 : Nat) (Option.some Jvm.ClassFile.FieldType.byte)).before a0 Z = true := hw _ (List.mem_of_getElem? (i := 56) rfl)
theorem w57 {Z : State} {a0 : Array Value} (hw : ∀ d ∈ tables_1, d.before a0 Z = true) : (Jvm.Cond.fieldLink "java/lang/String" (38 : Nat) "java/lang/String" "COMPACT_STRINGS" "Z").before a0 Z = true := hw _ (List.mem_of_getElem? (i := 57) rfl)
theorem w58 {Z : State} {a0 : Array Value} (hw : ∀ d ∈ tables_1, d.before a0 Z = true) : (Jvm.Cond.constant "java/lang/AbstractStringBuilder" (38 : Nat) (2147483631 : Int32)).before a0 Z = true := hw _ (List.mem_of_getElem? (i := 58) rfl)
theorem w59 {Z : State} {a0 : Array Value} (hw : ∀ d ∈ tables_1, d.before a0 Z = true) : (Jvm.Cond.methodLink "java/lang/AbstractStringBuilder" (40 : Nat) ({ cls := "java/lang/String", name := "coder", desc := "()B" } : Jvm.MethodName)).before a0 Z = true := hw _ (List.mem_of_getElem? (i := 59) rfl)
theorem w60 {Z : State} {a0 : Array Value} (hw : ∀ d ∈ tables_1, d.before a0 Z = true) : (Jvm.Cond.fieldLink "java/lang/AbstractStringBuilder" (22 : Nat) "java/lang/AbstractStringBuilder" "coder" "B").before a0 Z = true := hw _ (List.mem_of_getElem? (i := 60) rfl)
theorem w61 {Z : State} {a0 : Array Value} (hw : ∀ d ∈ tables_1, d.before a0 Z = true) : (Jvm.Cond.lays "java/lang/StringBuilder" "java/lang/AbstractStringBuilder" "coder" "B").before a0 Z = true := hw _ (List.mem_of_getElem? (i := 61) rfl)
theorem w62 {Z : State} {a0 : Array Value} (hw : ∀ d ∈ tables_1, d.before a0 Z = true) : (Jvm.Cond.fieldLink "java/lang/AbstractStringBuilder" (15 : Nat) "java/lang/AbstractStringBuilder" "value" "[B").before a0 Z = true := hw _ (List.mem_of_getElem? (i := 62) rfl)
theorem w63 {Z : State} {a0 : Array Value} (hw : ∀ d ∈ tables_1, d.before a0 Z = true) : (Jvm.Cond.lays "java/lang/StringBuilder" "java/lang/AbstractStringBuilder" "value" "[B").before a0 Z = true := hw _ (List.mem_of_getElem? (i := 63) rfl)
theorem w64 {Z : State} {a0 : Array Value} (hw : ∀ d ∈ tables_1, d.before a0 Z = true) : (Jvm.Cond.methodLink "java/lang/AbstractStringBuilder" (43 : Nat) ({ cls := "java/lang/AbstractStringBuilder", name := "append", desc := "(Ljava/lang/String;)Ljava/lang/AbstractStringBuilder;" } : Jvm.MethodName)).before a0 Z = true := hw _ (List.mem_of_getElem? (i := 64) rfl)
theorem w65 {Z : State} {a0 : Array Value} (hw : ∀ d ∈ tables_1, d.before a0 Z = true) : (Jvm.Cond.declares ({ cls := "java/lang/AbstractStringBuilder", name := "append", desc := "(Ljava/lang/String;)Ljava/lang/AbstractStringBuilder;" } : Jvm.MethodName)).before a0 Z = true := hw _ (List.mem_of_getElem? (i := 65) rfl)
theorem w66 {Z : State} {a0 : Array Value} (hw : ∀ d ∈ tables_1, d.before a0 Z = true) : (Jvm.Cond.instanceMethod ({ cls := "java/lang/AbstractStringBuilder", name := "append", desc := "(Ljava/lang/String;)Ljava/lang/AbstractStringBuilder;" } : Jvm.MethodName)).before a0 Z = true := hw _ (List.mem_of_getElem? (i := 66) rfl)
theorem w67 {Z : State} {a0 : Array Value} (hw : ∀ d ∈ tables_1, d.before a0 Z = true) : (Jvm.Cond.selects "java/lang/StringBuilder" ({ cls := "java/lang/AbstractStringBuilder", name := "append", desc := "(Ljava/lang/String;)Ljava/lang/AbstractStringBuilder;" } : Jvm.MethodName) ({ cls := "java/lang/StringBuilder", name := "append", desc := "(Ljava/lang/String;)Ljava/lang/AbstractStringBuilder;" } : Jvm.MethodName)).before a0 Z = true := hw _ (List.mem_of_getElem? (i := 67) rfl)
theorem w68 {Z : State} {a0 : Array Value} (hw : ∀ d ∈ tables_1, d.before a0 Z = true) : (Jvm.Cond.instanceMethod ({ cls := "java/lang/StringBuilder", name := "append", desc := "(Ljava/lang/String;)Ljava/lang/AbstractStringBuilder;" } : Jvm.MethodName)).before a0 Z = true := hw _ (List.mem_of_getElem? (i := 68) rfl)
theorem w69 {Z : State} {a0 : Array Value} (hw : ∀ d ∈ tables_1, d.before a0 Z = true) : (Jvm.Cond.code ({ cls := "java/lang/StringBuilder", name := "append", desc := "(Ljava/lang/String;)Ljava/lang/AbstractStringBuilder;" } : Jvm.MethodName) jdk_67_method_80_code (2 : Nat) (Option.some (Jvm.ClassFile.FieldType.object "java/lang/AbstractStringBuilder"))).before a0 Z = true := hw _ (List.mem_of_getElem? (i := 69) rfl)
theorem w70 {Z : State} {a0 : Array Value} (hw : ∀ d ∈ tables_1, d.before a0 Z = true) : (Jvm.Cond.methodLink "java/lang/StringBuilder" (23 : Nat) ({ cls := "java/lang/StringBuilder", name := "append", desc := "(Ljava/lang/String;)Ljava/lang/StringBuilder;" } : Jvm.MethodName)).before a0 Z = true := hw _ (List.mem_of_getElem? (i := 70) rfl)
theorem w71 {Z : State} {a0 : Array Value} (hw : ∀ d ∈ tables_1, d.before a0 Z = true) : (Jvm.Cond.declares ({ cls := "java/lang/StringBuilder", name := "append", desc := "(Ljava/lang/String;)Ljava/lang/StringBuilder;" } : Jvm.MethodName)).before a0 Z = true := hw _ (List.mem_of_getElem? (i := 71) rfl)
theorem w72 {Z : State} {a0 : Array Value} (hw : ∀ d ∈ tables_1, d.before a0 Z = true) : (Jvm.Cond.instanceMethod ({ cls := "java/lang/StringBuilder", name := "append", desc := "(Ljava/lang/String;)Ljava/lang/StringBuilder;" } : Jvm.MethodName)).before a0 Z = true := hw _ (List.mem_of_getElem? (i := 72) rfl)
theorem w73 {Z : State} {a0 : Array Value} (hw : ∀ d ∈ tables_1, d.before a0 Z = true) : (Jvm.Cond.selects "java/lang/StringBuilder" ({ cls := "java/lang/StringBuilder", name := "append", desc := "(Ljava/lang/String;)Ljava/lang/StringBuilder;" } : Jvm.MethodName) ({ cls := "java/lang/StringBuilder", name := "append", desc := "(Ljava/lang/String;)Ljava/lang/StringBuilder;" } : Jvm.MethodName)).before a0 Z = true := hw _ (List.mem_of_getElem? (i := 73) rfl)
theorem w74 {Z : State} {a0 : Array Value} (hw : ∀ d ∈ tables_1, d.before a0 Z = true) : (Jvm.Cond.code ({ cls := "java/lang/StringBuilder", name := "append", desc := "(Ljava/lang/String;)Ljava/lang/StringBuilder;" } : Jvm.MethodName) jdk_67_method_7_code (2 : Nat) (Option.some (Jvm.ClassFile.FieldType.object "java/lang/StringBuilder"))).before a0 Z = true := hw _ (List.mem_of_getElem? (i := 74) rfl)
theorem w75 {Z : State} {a0 : Array Value} (hw : ∀ d ∈ tables_1, d.before a0 Z = true) : (Jvm.Cond.methodLink "java/lang/StringBuilder" (29 : Nat) ({ cls := "java/lang/AbstractStringBuilder", name := "append", desc := "(Ljava/lang/String;)Ljava/lang/AbstractStringBuilder;" } : Jvm.MethodName)).before a0 Z = true := hw _ (List.mem_of_getElem? (i := 75) rfl)
theorem w76 {Z : State} {a0 : Array Value} (hw : ∀ d ∈ tables_1, d.before a0 Z = true) : (Jvm.Cond.superclass "java/lang/StringBuilder" "java/lang/AbstractStringBuilder").before a0 Z = true := hw _ (List.mem_of_getElem? (i := 76) rfl)
theorem w77 {Z : State} {a0 : Array Value} (hw : ∀ d ∈ tables_1, d.before a0 Z = true) : (Jvm.Cond.code ({ cls := "java/lang/AbstractStringBuilder", name := "append", desc := "(Ljava/lang/String;)Ljava/lang/AbstractStringBuilder;" } : Jvm.MethodName) jdk_68_method_22_code (3 : Nat) (Option.some (Jvm.ClassFile.FieldType.object "java/lang/AbstractStringBuilder"))).before a0 Z = true := hw _ (List.mem_of_getElem? (i := 77) rfl)
theorem w78 {Z : State} {a0 : Array Value} (hw : ∀ d ∈ tables_1, d.before a0 Z = true) : (Jvm.Cond.fieldLink "java/lang/AbstractStringBuilder" (79 : Nat) "java/lang/AbstractStringBuilder" "count" "I").before a0 Z = true := hw _ (List.mem_of_getElem? (i := 78) rfl)
theorem w79 {Z : State} {a0 : Array Value} (hw : ∀ d ∈ tables_1, d.before a0 Z = true) : (Jvm.Cond.lays "java/lang/StringBuilder" "java/lang/AbstractStringBuilder" "count" "I").before a0 Z = true := hw _ (List.mem_of_getElem? (i := 79) rfl)
theorem w80 {Z : State} {a0 : Array Value} (hw : ∀ d ∈ tables_1, d.before a0 Z = true) : (Jvm.Cond.methodLink "java/lang/AbstractStringBuilder" (100 : Nat) ({ cls := "java/lang/AbstractStringBuilder", name := "ensureCapacityInternal", desc := "(I)V" } : Jvm.MethodName)).before a0 Z = true := hw _ (List.mem_of_getElem? (i := 80) rfl)
theorem w81 {Z : State} {a0 : Array Value} (hw : ∀ d ∈ tables_1, d.before a0 Z = true) : (Jvm.Cond.instanceMethod ({ cls := "java/lang/AbstractStringBuilder", name := "ensureCapacityInternal", desc := "(I)V" } : Jvm.MethodName)).before a0 Z = true := hw _ (List.mem_of_getElem? (i := 81) rfl)
theorem w82 {Z : State} {a0 : Array Value} (hw : ∀ d ∈ tables_1, d.before a0 Z = true) : (Jvm.Cond.privateMethod ({ cls := "java/lang/AbstractStringBuilder", name := "ensureCapacityInternal", desc := "(I)V" } : Jvm.MethodName)).before a0 Z = true := hw _ (List.mem_of_getElem? (i := 82) rfl)
theorem w83 {Z : State} {a0 : Array Value} (hw : ∀ d ∈ tables_1, d.before a0 Z = true) : (Jvm.Cond.selects "java/lang/StringBuilder" ({ cls := "java/lang/AbstractStringBuilder", name := "ensureCapacityInternal", desc := "(I)V" } : Jvm.MethodName) ({ cls := "java/lang/AbstractStringBuilder", name := "ensureCapacityInternal", desc := "(I)V" } : Jvm.MethodName)).before a0 Z = true := hw _ (List.mem_of_getElem? (i := 83) rfl)
theorem w84 {Z : State} {a0 : Array Value} (hw : ∀ d ∈ tables_1, d.before a0 Z = true) : (Jvm.Cond.code ({ cls := "java/lang/AbstractStringBuilder", name := "ensureCapacityInternal", desc := "(I)V" } : Jvm.MethodName) jdk_68_method_9_code (3 : Nat) (Option.none : Option Jvm.ClassFile.FieldType)).before a0 Z = true := hw _ (List.mem_of_getElem? (i := 84) rfl)
theorem w85 {Z : State} {a0 : Array Value} (hw : ∀ d ∈ tables_1, d.before a0 Z = true) : (Jvm.Cond.methodLink "java/lang/AbstractStringBuilder" (208 : Nat) ({ cls := "java/lang/AbstractStringBuilder", name := "putStringAt", desc := "(ILjava/lang/String;)V" } : Jvm.MethodName)).before a0 Z = true := hw _ (List.mem_of_getElem? (i := 85) rfl)
theorem w86 {Z : State} {a0 : Array Value} (hw : ∀ d ∈ tables_1, d.before a0 Z = true) : (Jvm.Cond.instanceMethod ({ cls := "java/lang/AbstractStringBuilder", name := "putStringAt", desc := "(ILjava/lang/String;)V" } : Jvm.MethodName)).before a0 Z = true := hw _ (List.mem_of_getElem? (i := 86) rfl)
theorem w87 {Z : State} {a0 : Array Value} (hw : ∀ d ∈ tables_1, d.before a0 Z = true) : (Jvm.Cond.privateMethod ({ cls := "java/lang/AbstractStringBuilder", name := "putStringAt", desc := "(ILjava/lang/String;)V" } : Jvm.MethodName)).before a0 Z = true := hw _ (List.mem_of_getElem? (i := 87) rfl)
theorem w89 {Z : State} {a0 : Array Value} (hw : ∀ d ∈ tables_1, d.before a0 Z = true) : (Jvm.Cond.code ({ cls := "java/lang/AbstractStringBuilder", name := "putStringAt", desc := "(ILjava/lang/String;)V" } : Jvm.MethodName) jdk_68_method_73_code (3 : Nat) (Option.none : Option Jvm.ClassFile.FieldType)).before a0 Z = true := hw _ (List.mem_of_getElem? (i := 89) rfl)
theorem w90 {Z : State} {a0 : Array Value} (hw : ∀ d ∈ tables_1, d.before a0 Z = true) : (Jvm.Cond.methodLink "java/lang/AbstractStringBuilder" (397 : Nat) ({ cls := "java/lang/AbstractStringBuilder", name := "inflateIfNeededFor", desc := "(Ljava/lang/String;)V" } : Jvm.MethodName)).before a0 Z = true := hw _ (List.mem_of_getElem? (i := 90) rfl)
theorem w91 {Z : State} {a0 : Array Value} (hw : ∀ d ∈ tables_1, d.before a0 Z = true) : (Jvm.Cond.instanceMethod ({ cls := "java/lang/AbstractStringBuilder", name := "inflateIfNeededFor", desc := "(Ljava/lang/String;)V" } : Jvm.MethodName)).before a0 Z = true := hw _ (List.mem_of_getElem? (i := 91) rfl)
theorem w92 {Z : State} {a0 : Array Value} (hw : ∀ d ∈ tables_1, d.before a0 Z = true) : (Jvm.Cond.privateMethod ({ cls := "java/lang/AbstractStringBuilder", name := "inflateIfNeededFor", desc := "(Ljava/lang/String;)V" } : Jvm.MethodName)).before a0 Z = true := hw _ (List.mem_of_getElem? (i := 92) rfl)
theorem w94 {Z : State} {a0 : Array Value} (hw : ∀ d ∈ tables_1, d.before a0 Z = true) : (Jvm.Cond.code ({ cls := "java/lang/AbstractStringBuilder", name := "inflateIfNeededFor", desc := "(Ljava/lang/String;)V" } : Jvm.MethodName) jdk_68_method_71_code (2 : Nat) (Option.none : Option Jvm.ClassFile.FieldType)).before a0 Z = true := hw _ (List.mem_of_getElem? (i := 94) rfl)
theorem w95 {Z : State} {a0 : Array Value} (hw : ∀ d ∈ tables_1, d.before a0 Z = true) : (Jvm.Cond.fieldLink "java/lang/AbstractStringBuilder" (18 : Nat) "java/lang/String" "COMPACT_STRINGS" "Z").before a0 Z = true := hw _ (List.mem_of_getElem? (i := 95) rfl)
theorem w96 {Z : State} {a0 : Array Value} (hw : ∀ d ∈ tables_1, d.before a0 Z = true) : (Jvm.Cond.methodLink "java/lang/AbstractStringBuilder" (399 : Nat) ({ cls := "java/lang/String", name := "getBytes", desc := "([BIB)V" } : Jvm.MethodName)).before a0 Z = true := hw _ (List.mem_of_getElem? (i := 96) rfl)
theorem w97 {Z : State} {a0 : Array Value} (hw : ∀ d ∈ tables_1, d.before a0 Z = true) : (Jvm.Cond.declares ({ cls := "java/lang/String", name := "getBytes", desc := "([BIB)V" } : Jvm.MethodName)).before a0 Z = true := hw _ (List.mem_of_getElem? (i := 97) rfl)
theorem w98 {Z : State} {a0 : Array Value} (hw : ∀ d ∈ tables_1, d.before a0 Z = true) : (Jvm.Cond.instanceMethod ({ cls := "java/lang/String", name := "getBytes", desc := "([BIB)V" } : Jvm.MethodName)).before a0 Z = true := hw _ (List.mem_of_getElem? (i := 98) rfl)
theorem w99 {Z : State} {a0 : Array Value} (hw : ∀ d ∈ tables_1, d.before a0 Z = true) : (Jvm.Cond.selects "java/lang/String" ({ cls := "java/lang/String", name := "getBytes", desc := "([BIB)V" } : Jvm.MethodName) ({ cls := "java/lang/String", name := "getBytes", desc := "([BIB)V" } : Jvm.MethodName)).before a0 Z = true := hw _ (List.mem_of_getElem? (i := 99) rfl)
theorem w100 {Z : State} {a0 : Array Value} (hw : ∀ d ∈ tables_1, d.before a0 Z = true) : (Jvm.Cond.code ({ cls := "java/lang/String", name := "getBytes", desc := "([BIB)V" } : Jvm.MethodName) jdk_42_method_147_code (4 : Nat) (Option.none : Option Jvm.ClassFile.FieldType)).before a0 Z = true := hw _ (List.mem_of_getElem? (i := 100) rfl)
theorem w101 {Z : State} {a0 : Array Value} (hw : ∀ d ∈ tables_1, d.before a0 Z = true) : (Jvm.Cond.methodLink "java/lang/String" (212 : Nat) ({ cls := "java/lang/System", name := "arraycopy", desc := "(Ljava/lang/Object;ILjava/lang/Object;II)V" } : Jvm.MethodName)).before a0 Z = true := hw _ (List.mem_of_getElem? (i := 101) rfl)
theorem w102 {Z : State} {a0 : Array Value} (hw : ∀ d ∈ tables_1, d.before a0 Z = true) : (Jvm.Cond.static ({ cls := "java/lang/System", name := "arraycopy", desc := "(Ljava/lang/Object;ILjava/lang/Object;II)V" } : Jvm.MethodName)).before a0 Z = true := hw _ (List.mem_of_getElem? (i := 102) rfl)
theorem w103 {Z : State} {a0 : Array Value} (hw : ∀ d ∈ tables_1, d.before a0 Z = true) : (Jvm.Cond.initialized "java/lang/System").before a0 Z = true := hw _ (List.mem_of_getElem? (i := 103) rfl)
theorem w104 {Z : State} {a0 : Array Value} (hw : ∀ d ∈ tables_1, d.before a0 Z = true) : (Jvm.Cond.native ({ cls := "java/lang/System", name := "arraycopy", desc := "(Ljava/lang/Object;ILjava/lang/Object;II)V" } : Jvm.MethodName)).before a0 Z = true := hw _ (List.mem_of_getElem? (i := 104) rfl)
theorem w105 {Z : State} {a0 : Array Value} (hw : ∀ d ∈ tables_1, d.before a0 Z = true) : (Jvm.Cond.stringLink "com/example/portcullis/portcullis/gate/Challenge" (12 : Nat) " realm=\"").before a0 Z = true := hw _ (List.mem_of_getElem? (i := 105) rfl)
theorem w106 {Z : State} {a0 : Array Value} (hw : ∀ d ∈ tables_1, d.before a0 Z = true) : (Jvm.Cond.methodLink "com/example/portcullis/portcullis/gate/Challenge" (14 : Nat) ({ cls := "java/lang/StringBuilder", name := "append", desc := "(Ljava/lang/String;)Ljava/lang/StringBuilder;" } : Jvm.MethodName)).before a0 Z = true := hw _ (List.mem_of_getElem? (i := 106) rfl)
theorem w107 {Z : State} {a0 : Array Value} (hw : ∀ d ∈ tables_1, d.before a0 Z = true) : (Jvm.Cond.methodLink "com/example/portcullis/portcullis/gate/Challenge" (18 : Nat) ({ cls := "java/lang/String", name := "length", desc := "()I" } : Jvm.MethodName)).before a0 Z = true := hw _ (List.mem_of_getElem? (i := 107) rfl)
theorem w108 {Z : State} {a0 : Array Value} (hw : ∀ d ∈ tables_1, d.before a0 Z = true) : (Jvm.Cond.methodLink "com/example/portcullis/portcullis/gate/Challenge" (35 : Nat) ({ cls := "java/lang/StringBuilder", name := "append", desc := "(C)Ljava/lang/StringBuilder;" } : Jvm.MethodName)).before a0 Z = true := hw _ (List.mem_of_getElem? (i := 108) rfl)
theorem w109 {Z : State} {a0 : Array Value} (hw : ∀ d ∈ tables_1, d.before a0 Z = true) : (Jvm.Cond.declares ({ cls := "java/lang/StringBuilder", name := "append", desc := "(C)Ljava/lang/StringBuilder;" } : Jvm.MethodName)).before a0 Z = true := hw _ (List.mem_of_getElem? (i := 109) rfl)
theorem w110 {Z : State} {a0 : Array Value} (hw : ∀ d ∈ tables_1, d.before a0 Z = true) : (Jvm.Cond.instanceMethod ({ cls := "java/lang/StringBuilder", name := "append", desc := "(C)Ljava/lang/StringBuilder;" } : Jvm.MethodName)).before a0 Z = true := hw _ (List.mem_of_getElem? (i := 110) rfl)
theorem w111 {Z : State} {a0 : Array Value} (hw : ∀ d ∈ tables_1, d.before a0 Z = true) : (Jvm.Cond.selects "java/lang/StringBuilder" ({ cls := "java/lang/StringBuilder", name := "append", desc := "(C)Ljava/lang/StringBuilder;" } : Jvm.MethodName) ({ cls := "java/lang/StringBuilder", name := "append", desc := "(C)Ljava/lang/StringBuilder;" } : Jvm.MethodName)).before a0 Z = true := hw _ (List.mem_of_getElem? (i := 111) rfl)
theorem w112 {Z : State} {a0 : Array Value} (hw : ∀ d ∈ tables_1, d.before a0 Z = true) : (Jvm.Cond.code ({ cls := "java/lang/StringBuilder", name := "append", desc := "(C)Ljava/lang/StringBuilder;" } : Jvm.MethodName) jdk_67_method_14_code (2 : Nat) (Option.some (Jvm.ClassFile.FieldType.object "java/lang/StringBuilder"))).before a0 Z = true := hw _ (List.mem_of_getElem? (i := 112) rfl)
theorem w113 {Z : State} {a0 : Array Value} (hw : ∀ d ∈ tables_1, d.before a0 Z = true) : (Jvm.Cond.methodLink "java/lang/StringBuilder" (50 : Nat) ({ cls := "java/lang/AbstractStringBuilder", name := "append", desc := "(C)Ljava/lang/AbstractStringBuilder;" } : Jvm.MethodName)).before a0 Z = true := hw _ (List.mem_of_getElem? (i := 113) rfl)
theorem w114 {Z : State} {a0 : Array Value} (hw : ∀ d ∈ tables_1, d.before a0 Z = true) : (Jvm.Cond.instanceMethod ({ cls := "java/lang/AbstractStringBuilder", name := "append", desc := "(C)Ljava/lang/AbstractStringBuilder;" } : Jvm.MethodName)).before a0 Z = true := hw _ (List.mem_of_getElem? (i := 114) rfl)
theorem w116 {Z : State} {a0 : Array Value} (hw : ∀ d ∈ tables_1, d.before a0 Z = true) : (Jvm.Cond.code ({ cls := "java/lang/AbstractStringBuilder", name := "append", desc := "(C)Ljava/lang/AbstractStringBuilder;" } : Jvm.MethodName) jdk_68_method_31_code (2 : Nat) (Option.some (Jvm.ClassFile.FieldType.object "java/lang/AbstractStringBuilder"))).before a0 Z = true := hw _ (List.mem_of_getElem? (i := 116) rfl)
theorem w117 {Z : State} {a0 : Array Value} (hw : ∀ d ∈ tables_1, d.before a0 Z = true) : (Jvm.Cond.methodLink "java/lang/AbstractStringBuilder" (83 : Nat) ({ cls := "java/lang/AbstractStringBuilder", name := "isLatin1", desc := "()Z" } : Jvm.MethodName)).before a0 Z = true := hw _ (List.mem_of_getElem? (i := 117) rfl)
theorem w118 {Z : State} {a0 : Array Value} (hw : ∀ d ∈ tables_1, d.before a0 Z = true) : (Jvm.Cond.declares ({ cls := "java/lang/AbstractStringBuilder", name := "isLatin1", desc := "()Z" } : Jvm.MethodName)).before a0 Z = true := hw _ (List.mem_of_getElem? (i := 118) rfl)
theorem w119 {Z : State} {a0 : Array Value} (hw : ∀ d ∈ tables_1, d.before a0 Z = true) : (Jvm.Cond.instanceMethod ({ cls := "java/lang/AbstractStringBuilder", name := "isLatin1", desc := "()Z" } : Jvm.MethodName)).before a0 Z = true := hw _ (List.mem_of_getElem? (i := 119) rfl)
theorem w120 {Z : State} {a0 : Array Value} (hw : ∀ d ∈ tables_1, d.before a0 Z = true) : (Jvm.Cond.selects "java/lang/StringBuilder" ({ cls := "java/lang/AbstractStringBuilder", name := "isLatin1", desc := "()Z" } : Jvm.MethodName) ({ cls := "java/lang/AbstractStringBuilder", name := "isLatin1", desc := "()Z" } : Jvm.MethodName)).before a0 Z = true := hw _ (List.mem_of_getElem? (i := 120) rfl)
theorem w121 {Z : State} {a0 : Array Value} (hw : ∀ d ∈ tables_1, d.before a0 Z = true) : (Jvm.Cond.code ({ cls := "java/lang/AbstractStringBuilder", name := "isLatin1", desc := "()Z" } : Jvm.MethodName) jdk_68_method_68_code (1 : Nat) (Option.some Jvm.ClassFile.FieldType.boolean)).before a0 Z = true := hw _ (List.mem_of_getElem? (i := 121) rfl)
theorem w122 {Z : State} {a0 : Array Value} (hw : ∀ d ∈ tables_1, d.before a0 Z = true) : (Jvm.Cond.methodLink "java/lang/AbstractStringBuilder" (191 : Nat) ({ cls := "java/lang/StringLatin1", name := "canEncode", desc := "(C)Z" } : Jvm.MethodName)).before a0 Z = true := hw _ (List.mem_of_getElem? (i := 122) rfl)
theorem w123 {Z : State} {a0 : Array Value} (hw : ∀ d ∈ tables_1, d.before a0 Z = true) : (Jvm.Cond.static ({ cls := "java/lang/StringLatin1", name := "canEncode", desc := "(C)Z" } : Jvm.MethodName)).before a0 Z = true := hw _ (List.mem_of_getElem? (i := 123) rfl)
theorem w124 {Z : State} {a0 : Array Value} (hw : ∀ d ∈ tables_1, d.before a0 Z = true) : (Jvm.Cond.initialized "java/lang/StringLatin1").before a0 Z = true := hw _ (List.mem_of_getElem? (i := 124) rfl)
theorem w125 {Z : State} {a0 : Array Value} (hw : ∀ d ∈ tables_1, d.before a0 Z = true) : (Jvm.Cond.code ({ cls := "java/lang/StringLatin1", name := "canEncode", desc := "(C)Z" } : Jvm.MethodName) jdk_43_method_3_code (1 : Nat) (Option.some Jvm.ClassFile.FieldType.boolean)).before a0 Z = true := hw _ (List.mem_of_getElem? (i := 125) rfl)
theorem w126 {Z : State} {a0 : Array Value} (hw : ∀ d ∈ tables_1, d.before a0 Z = true) : (Jvm.Cond.methodLink "com/example/portcullis/portcullis/gate/Challenge" (38 : Nat) ({ cls := "java/lang/StringBuilder", name := "toString", desc := "()Ljava/lang/String;" } : Jvm.MethodName)).before a0 Z = true := hw _ (List.mem_of_getElem? (i := 126) rfl)
theorem w127 {Z : State} {a0 : Array Value} (hw : ∀ d ∈ tables_1, d.before a0 Z = true) : (Jvm.Cond.declares ({ cls := "java/lang/StringBuilder", name := "toString", desc := "()Ljava/lang/String;" } : Jvm.MethodName)).before a0 Z = true := hw _ (List.mem_of_getElem? (i := 127) rfl)
theorem w128 {Z : State} {a0 : Array Value} (hw : ∀ d ∈ tables_1, d.before a0 Z = true) : (Jvm.Cond.instanceMethod ({ cls := "java/lang/StringBuilder", name := "toString", desc := "()Ljava/lang/String;" } : Jvm.MethodName)).before a0 Z = true := hw _ (List.mem_of_getElem? (i := 128) rfl)
theorem w129 {Z : State} {a0 : Array Value} (hw : ∀ d ∈ tables_1, d.before a0 Z = true) : (Jvm.Cond.selects "java/lang/StringBuilder" ({ cls := "java/lang/StringBuilder", name := "toString", desc := "()Ljava/lang/String;" } : Jvm.MethodName) ({ cls := "java/lang/StringBuilder", name := "toString", desc := "()Ljava/lang/String;" } : Jvm.MethodName)).before a0 Z = true := hw _ (List.mem_of_getElem? (i := 129) rfl)
theorem w130 {Z : State} {a0 : Array Value} (hw : ∀ d ∈ tables_1, d.before a0 Z = true) : (Jvm.Cond.code ({ cls := "java/lang/StringBuilder", name := "toString", desc := "()Ljava/lang/String;" } : Jvm.MethodName) jdk_67_method_42_code (1 : Nat) (Option.some (Jvm.ClassFile.FieldType.object "java/lang/String"))).before a0 Z = true := hw _ (List.mem_of_getElem? (i := 130) rfl)
theorem w131 {Z : State} {a0 : Array Value} (hw : ∀ d ∈ tables_1, d.before a0 Z = true) : (Jvm.Cond.classLink "java/lang/StringBuilder" (18 : Nat) "java/lang/String").before a0 Z = true := hw _ (List.mem_of_getElem? (i := 131) rfl)
theorem w132 {Z : State} {a0 : Array Value} (hw : ∀ d ∈ tables_1, d.before a0 Z = true) : (Jvm.Cond.methodLink "java/lang/StringBuilder" (137 : Nat) ({ cls := "java/lang/String", name := "<init>", desc := "(Ljava/lang/StringBuilder;)V" } : Jvm.MethodName)).before a0 Z = true := hw _ (List.mem_of_getElem? (i := 132) rfl)
theorem w133 {Z : State} {a0 : Array Value} (hw : ∀ d ∈ tables_1, d.before a0 Z = true) : (Jvm.Cond.instanceMethod ({ cls := "java/lang/String", name := "<init>", desc := "(Ljava/lang/StringBuilder;)V" } : Jvm.MethodName)).before a0 Z = true := hw _ (List.mem_of_getElem? (i := 133) rfl)
theorem w134 {Z : State} {a0 : Array Value} (hw : ∀ d ∈ tables_1, d.before a0 Z = true) : (Jvm.Cond.code ({ cls := "java/lang/String", name := "<init>", desc := "(Ljava/lang/StringBuilder;)V" } : Jvm.MethodName) jdk_42_method_53_code (2 : Nat) (Option.none : Option Jvm.ClassFile.FieldType)).before a0 Z = true := hw _ (List.mem_of_getElem? (i := 134) rfl)
theorem w135 {Z : State} {a0 : Array Value} (hw : ∀ d ∈ tables_1, d.before a0 Z = true) : (Jvm.Cond.methodLink "java/lang/String" (489 : Nat) ({ cls := "java/lang/String", name := "<init>", desc := "(Ljava/lang/AbstractStringBuilder;Ljava/lang/Void;)V" } : Jvm.MethodName)).before a0 Z = true := hw _ (List.mem_of_getElem? (i := 135) rfl)
theorem w136 {Z : State} {a0 : Array Value} (hw : ∀ d ∈ tables_1, d.before a0 Z = true) : (Jvm.Cond.instanceMethod ({ cls := "java/lang/String", name := "<init>", desc := "(Ljava/lang/AbstractStringBuilder;Ljava/lang/Void;)V" } : Jvm.MethodName)).before a0 Z = true := hw _ (List.mem_of_getElem? (i := 136) rfl)
theorem w137 {Z : State} {a0 : Array Value} (hw : ∀ d ∈ tables_1, d.before a0 Z = true) : (Jvm.Cond.code ({ cls := "java/lang/String", name := "<init>", desc := "(Ljava/lang/AbstractStringBuilder;Ljava/lang/Void;)V" } : Jvm.MethodName) jdk_42_method_150_code (5 : Nat) (Option.none : Option Jvm.ClassFile.FieldType)).before a0 Z = true := hw _ (List.mem_of_getElem? (i := 137) rfl)
theorem w138 {Z : State} {a0 : Array Value} (hw : ∀ d ∈ tables_1, d.before a0 Z = true) : (Jvm.Cond.methodLink "java/lang/String" (552 : Nat) ({ cls := "java/lang/AbstractStringBuilder", name := "getValue", desc := "()[B" } : Jvm.MethodName)).before a0 Z = true := hw _ (List.mem_of_getElem? (i := 138) rfl)
theorem w139 {Z : State} {a0 : Array Value} (hw : ∀ d ∈ tables_1, d.before a0 Z = true) : (Jvm.Cond.declares ({ cls := "java/lang/AbstractStringBuilder", name := "getValue", desc := "()[B" } : Jvm.MethodName)).before a0 Z = true := hw _ (List.mem_of_getElem? (i := 139) rfl)
theorem w140 {Z : State} {a0 : Array Value} (hw : ∀ d ∈ tables_1, d.before a0 Z = true) : (Jvm.Cond.instanceMethod ({ cls := "java/lang/AbstractStringBuilder", name := "getValue", desc := "()[B" } : Jvm.MethodName)).before a0 Z = true := hw _ (List.mem_of_getElem? (i := 140) rfl)
theorem w141 {Z : State} {a0 : Array Value} (hw : ∀ d ∈ tables_1, d.before a0 Z = true) : (Jvm.Cond.selects "java/lang/StringBuilder" ({ cls := "java/lang/AbstractStringBuilder", name := "getValue", desc := "()[B" } : Jvm.MethodName) ({ cls := "java/lang/AbstractStringBuilder", name := "getValue", desc := "()[B" } : Jvm.MethodName)).before a0 Z = true := hw _ (List.mem_of_getElem? (i := 141) rfl)
theorem w142 {Z : State} {a0 : Array Value} (hw : ∀ d ∈ tables_1, d.before a0 Z = true) : (Jvm.Cond.code ({ cls := "java/lang/AbstractStringBuilder", name := "getValue", desc := "()[B" } : Jvm.MethodName) jdk_68_method_64_code (1 : Nat) (Option.some (Jvm.ClassFile.FieldType.array Jvm.ClassFile.FieldType.byte))).before a0 Z = true := hw _ (List.mem_of_getElem? (i := 142) rfl)
theorem w143 {Z : State} {a0 : Array Value} (hw : ∀ d ∈ tables_1, d.before a0 Z = true) : (Jvm.Cond.methodLink "java/lang/String" (549 : Nat) ({ cls := "java/lang/AbstractStringBuilder", name := "length", desc := "()I" } : Jvm.MethodName)).before a0 Z = true := hw _ (List.mem_of_getElem? (i := 143) rfl)
theorem w144 {Z : State} {a0 : Array Value} (hw : ∀ d ∈ tables_1, d.before a0 Z = true) : (Jvm.Cond.declares ({ cls := "java/lang/AbstractStringBuilder", name := "length", desc := "()I" } : Jvm.MethodName)).before a0 Z = true := hw _ (List.mem_of_getElem? (i := 144) rfl)
theorem w145 {Z : State} {a0 : Array Value} (hw : ∀ d ∈ tables_1, d.before a0 Z = true) : (Jvm.Cond.instanceMethod ({ cls := "java/lang/AbstractStringBuilder", name := "length", desc := "()I" } : Jvm.MethodName)).before a0 Z = true := hw _ (List.mem_of_getElem? (i := 145) rfl)
theorem w146 {Z : State} {a0 : Array Value} (hw : ∀ d ∈ tables_1, d.before a0 Z = true) : (Jvm.Cond.selects "java/lang/StringBuilder" ({ cls := "java/lang/AbstractStringBuilder", name := "length", desc := "()I" } : Jvm.MethodName) ({ cls := "java/lang/StringBuilder", name := "length", desc := "()I" } : Jvm.MethodName)).before a0 Z = true := hw _ (List.mem_of_getElem? (i := 146) rfl)
theorem w147 {Z : State} {a0 : Array Value} (hw : ∀ d ∈ tables_1, d.before a0 Z = true) : (Jvm.Cond.instanceMethod ({ cls := "java/lang/StringBuilder", name := "length", desc := "()I" } : Jvm.MethodName)).before a0 Z = true := hw _ (List.mem_of_getElem? (i := 147) rfl)
theorem w148 {Z : State} {a0 : Array Value} (hw : ∀ d ∈ tables_1, d.before a0 Z = true) : (Jvm.Cond.code ({ cls := "java/lang/StringBuilder", name := "length", desc := "()I" } : Jvm.MethodName) jdk_67_method_93_code (1 : Nat) (Option.some Jvm.ClassFile.FieldType.int)).before a0 Z = true := hw _ (List.mem_of_getElem? (i := 148) rfl)
theorem w149 {Z : State} {a0 : Array Value} (hw : ∀ d ∈ tables_1, d.before a0 Z = true) : (Jvm.Cond.methodLink "java/lang/StringBuilder" (343 : Nat) ({ cls := "java/lang/AbstractStringBuilder", name := "length", desc := "()I" } : Jvm.MethodName)).before a0 Z = true := hw _ (List.mem_of_getElem? (i := 149) rfl)
theorem w150 {Z : State} {a0 : Array Value} (hw : ∀ d ∈ tables_1, d.before a0 Z = true) : (Jvm.Cond.code ({ cls := "java/lang/AbstractStringBuilder", name := "length", desc := "()I" } : Jvm.MethodName) jdk_68_method_6_code (1 : Nat) (Option.some Jvm.ClassFile.FieldType.int)).before a0 Z = true := hw _ (List.mem_of_getElem? (i := 150) rfl)
theorem w151 {Z : State} {a0 : Array Value} (hw : ∀ d ∈ tables_1, d.before a0 Z = true) : (Jvm.Cond.methodLink "java/lang/String" (1047 : Nat) ({ cls := "java/lang/AbstractStringBuilder", name := "isLatin1", desc := "()Z" } : Jvm.MethodName)).before a0 Z = true := hw _ (List.mem_of_getElem? (i := 151) rfl)
theorem w152 {Z : State} {a0 : Array Value} (hw : ∀ d ∈ tables_1, d.before a0 Z = true) : (Jvm.Cond.methodLink "java/lang/String" (54 : Nat) ({ cls := "java/util/Arrays", name := "copyOfRange", desc := "([BII)[B" } : Jvm.MethodName)).before a0 Z = true := hw _ (List.mem_of_getElem? (i := 152) rfl)
theorem w153 {Z : State} {a0 : Array Value} (hw : ∀ d ∈ tables_1, d.before a0 Z = true) : (Jvm.Cond.static ({ cls := "java/util/Arrays", name := "copyOfRange", desc := "([BII)[B" } : Jvm.MethodName)).before a0 Z = true := hw _ (List.mem_of_getElem? (i := 153) rfl)
theorem w154 {Z : State} {a0 : Array Value} (hw : ∀ d ∈ tables_1, d.before a0 Z = true) : (Jvm.Cond.initialized "java/util/Arrays").before a0 Z = true := hw _ (List.mem_of_getElem? (i := 154) rfl)
theorem w155 {Z : State} {a0 : Array Value} (hw : ∀ d ∈ tables_1, d.before a0 Z = true) : (Jvm.Cond.code ({ cls := "java/util/Arrays", name := "copyOfRange", desc := "([BII)[B" } : Jvm.MethodName) jdk_65_method_132_code (3 : Nat) (Option.some (Jvm.ClassFile.FieldType.array Jvm.ClassFile.FieldType.byte))).before a0 Z = true := hw _ (List.mem_of_getElem? (i := 155) rfl)
theorem w156 {Z : State} {a0 : Array Value} (hw : ∀ d ∈ tables_1, d.before a0 Z = true) : (Jvm.Cond.methodLink "java/util/Arrays" (339 : Nat) ({ cls := "java/util/Arrays", name := "copyOfRangeByte", desc := "([BII)[B" } : Jvm.MethodName)).before a0 Z = true := hw _ (List.mem_of_getElem? (i := 156) rfl)
theorem w157 {Z : State} {a0 : Array Value} (hw : ∀ d ∈ tables_1, d.before a0 Z = true) : (Jvm.Cond.static ({ cls := "java/util/Arrays", name := "copyOfRangeByte", desc := "([BII)[B" } : Jvm.MethodName)).before a0 Z = true := hw _ (List.mem_of_getElem? (i := 157) rfl)
theorem w158 {Z : State} {a0 : Array Value} (hw : ∀ d ∈ tables_1, d.before a0 Z = true) : (Jvm.Cond.code ({ cls := "java/util/Arrays", name := "copyOfRangeByte", desc := "([BII)[B" } : Jvm.MethodName) jdk_65_method_133_code (5 : Nat) (Option.some (Jvm.ClassFile.FieldType.array Jvm.ClassFile.FieldType.byte))).before a0 Z = true := hw _ (List.mem_of_getElem? (i := 158) rfl)
theorem w159 {Z : State} {a0 : Array Value} (hw : ∀ d ∈ tables_1, d.before a0 Z = true) : (Jvm.Cond.methodLink "java/util/Arrays" (343 : Nat) ({ cls := "java/util/Arrays", name := "checkLength", desc := "(II)V" } : Jvm.MethodName)).before a0 Z = true := hw _ (List.mem_of_getElem? (i := 159) rfl)
theorem w160 {Z : State} {a0 : Array Value} (hw : ∀ d ∈ tables_1, d.before a0 Z = true) : (Jvm.Cond.static ({ cls := "java/util/Arrays", name := "checkLength", desc := "(II)V" } : Jvm.MethodName)).before a0 Z = true := hw _ (List.mem_of_getElem? (i := 160) rfl)
theorem w161 {Z : State} {a0 : Array Value} (hw : ∀ d ∈ tables_1, d.before a0 Z = true) : (Jvm.Cond.code ({ cls := "java/util/Arrays", name := "checkLength", desc := "(II)V" } : Jvm.MethodName) jdk_65_method_131_code (2 : Nat) (Option.none : Option Jvm.ClassFile.FieldType)).before a0 Z = true := hw _ (List.mem_of_getElem? (i := 161) rfl)
theorem w162 {Z : State} {a0 : Array Value} (hw : ∀ d ∈ tables_1, d.before a0 Z = true) : (Jvm.Cond.methodLink "java/util/Arrays" (304 : Nat) ({ cls := "java/lang/Math", name := "min", desc := "(II)I" } : Jvm.MethodName)).before a0 Z = true := hw _ (List.mem_of_getElem? (i := 162) rfl)
theorem w163 {Z : State} {a0 : Array Value} (hw : ∀ d ∈ tables_1, d.before a0 Z = true) : (Jvm.Cond.static ({ cls := "java/lang/Math", name := "min", desc := "(II)I" } : Jvm.MethodName)).before a0 Z = true := hw _ (List.mem_of_getElem? (i := 163) rfl)
theorem w164 {Z : State} {a0 : Array Value} (hw : ∀ d ∈ tables_1, d.before a0 Z = true) : (Jvm.Cond.initialized "java/lang/Math").before a0 Z = true := hw _ (List.mem_of_getElem? (i := 164) rfl)
theorem w165 {Z : State} {a0 : Array Value} (hw : ∀ d ∈ tables_1, d.before a0 Z = true) : (Jvm.Cond.code ({ cls := "java/lang/Math", name := "min", desc := "(II)I" } : Jvm.MethodName) jdk_29_method_69_code (2 : Nat) (Option.some Jvm.ClassFile.FieldType.int)).before a0 Z = true := hw _ (List.mem_of_getElem? (i := 165) rfl)
theorem w166 {Z : State} {a0 : Array Value} (hw : ∀ d ∈ tables_1, d.before a0 Z = true) : (Jvm.Cond.methodLink "java/util/Arrays" (150 : Nat) ({ cls := "java/lang/System", name := "arraycopy", desc := "(Ljava/lang/Object;ILjava/lang/Object;II)V" } : Jvm.MethodName)).before a0 Z = true := hw _ (List.mem_of_getElem? (i := 166) rfl)
theorem w167 {Z : State} {a0 : Array Value} (hw : ∀ d ∈ tables_1, d.before a0 Z = true) : (Jvm.Cond.methodLink "com/example/portcullis/portcullis/gate/ChallengeWithRealmPinLaw" (21 : Nat) ({ cls := "com/example/portcullis/portcullis/gate/ChallengeWithRealmPinLaw", name := "at", desc := "(Ljava/lang/String;IC)Z" } : Jvm.MethodName)).before a0 Z = true := hw _ (List.mem_of_getElem? (i := 167) rfl)
theorem w168 {Z : State} {a0 : Array Value} (hw : ∀ d ∈ tables_1, d.before a0 Z = true) : (Jvm.Cond.static ({ cls := "com/example/portcullis/portcullis/gate/ChallengeWithRealmPinLaw", name := "at", desc := "(Ljava/lang/String;IC)Z" } : Jvm.MethodName)).before a0 Z = true := hw _ (List.mem_of_getElem? (i := 168) rfl)
theorem w169 {Z : State} {a0 : Array Value} (hw : ∀ d ∈ tables_1, d.before a0 Z = true) : (Jvm.Cond.code ({ cls := "com/example/portcullis/portcullis/gate/ChallengeWithRealmPinLaw", name := "at", desc := "(Ljava/lang/String;IC)Z" } : Jvm.MethodName) method_4_code (3 : Nat) (Option.some Jvm.ClassFile.FieldType.boolean)).before a0 Z = true := hw _ (List.mem_of_getElem? (i := 169) rfl)
theorem w170 {Z : State} {a0 : Array Value} (hw : ∀ d ∈ tables_1, d.before a0 Z = true) : (Jvm.Cond.methodLink "com/example/portcullis/portcullis/gate/ChallengeWithRealmPinLaw" (13 : Nat) ({ cls := "java/lang/String", name := "length", desc := "()I" } : Jvm.MethodName)).before a0 Z = true := hw _ (List.mem_of_getElem? (i := 170) rfl)
theorem w171 {Z : State} {a0 : Array Value} (hw : ∀ d ∈ tables_1, d.before a0 Z = true) : (Jvm.Cond.methodLink "com/example/portcullis/portcullis/gate/ChallengeWithRealmPinLaw" (17 : Nat) ({ cls := "java/lang/String", name := "charAt", desc := "(I)C" } : Jvm.MethodName)).before a0 Z = true := hw _ (List.mem_of_getElem? (i := 171) rfl)
theorem w172 {Z : State} {a0 : Array Value} (hw : ∀ d ∈ tables_1, d.before a0 Z = true) : (Jvm.Cond.declares ({ cls := "java/lang/String", name := "charAt", desc := "(I)C" } : Jvm.MethodName)).before a0 Z = true := hw _ (List.mem_of_getElem? (i := 172) rfl)
theorem w173 {Z : State} {a0 : Array Value} (hw : ∀ d ∈ tables_1, d.before a0 Z = true) : (Jvm.Cond.instanceMethod ({ cls := "java/lang/String", name := "charAt", desc := "(I)C" } : Jvm.MethodName)).before a0 Z = true := hw _ (List.mem_of_getElem? (i := 173) rfl)
theorem w174 {Z : State} {a0 : Array Value} (hw : ∀ d ∈ tables_1, d.before a0 Z = true) : (Jvm.Cond.selects "java/lang/String" ({ cls := "java/lang/String", name := "charAt", desc := "(I)C" } : Jvm.MethodName) ({ cls := "java/lang/String", name := "charAt", desc := "(I)C" } : Jvm.MethodName)).before a0 Z = true := hw _ (List.mem_of_getElem? (i := 174) rfl)
theorem w175 {Z : State} {a0 : Array Value} (hw : ∀ d ∈ tables_1, d.before a0 Z = true) : (Jvm.Cond.code ({ cls := "java/lang/String", name := "charAt", desc := "(I)C" } : Jvm.MethodName) jdk_42_method_56_code (2 : Nat) (Option.some Jvm.ClassFile.FieldType.char)).before a0 Z = true := hw _ (List.mem_of_getElem? (i := 175) rfl)
theorem w176 {Z : State} {a0 : Array Value} (hw : ∀ d ∈ tables_1, d.before a0 Z = true) : (Jvm.Cond.methodLink "java/lang/String" (492 : Nat) ({ cls := "java/lang/String", name := "isLatin1", desc := "()Z" } : Jvm.MethodName)).before a0 Z = true := hw _ (List.mem_of_getElem? (i := 176) rfl)
theorem w177 {Z : State} {a0 : Array Value} (hw : ∀ d ∈ tables_1, d.before a0 Z = true) : (Jvm.Cond.declares ({ cls := "java/lang/String", name := "isLatin1", desc := "()Z" } : Jvm.MethodName)).before a0 Z = true := hw _ (List.mem_of_getElem? (i := 177) rfl)
theorem w178 {Z : State} {a0 : Array Value} (hw : ∀ d ∈ tables_1, d.before a0 Z = true) : (Jvm.Cond.instanceMethod ({ cls := "java/lang/String", name := "isLatin1", desc := "()Z" } : Jvm.MethodName)).before a0 Z = true := hw _ (List.mem_of_getElem? (i := 178) rfl)
theorem w179 {Z : State} {a0 : Array Value} (hw : ∀ d ∈ tables_1, d.before a0 Z = true) : (Jvm.Cond.selects "java/lang/String" ({ cls := "java/lang/String", name := "isLatin1", desc := "()Z" } : Jvm.MethodName) ({ cls := "java/lang/String", name := "isLatin1", desc := "()Z" } : Jvm.MethodName)).before a0 Z = true := hw _ (List.mem_of_getElem? (i := 179) rfl)
theorem w180 {Z : State} {a0 : Array Value} (hw : ∀ d ∈ tables_1, d.before a0 Z = true) : (Jvm.Cond.code ({ cls := "java/lang/String", name := "isLatin1", desc := "()Z" } : Jvm.MethodName) jdk_42_method_154_code (1 : Nat) (Option.some Jvm.ClassFile.FieldType.boolean)).before a0 Z = true := hw _ (List.mem_of_getElem? (i := 180) rfl)
theorem w181 {Z : State} {a0 : Array Value} (hw : ∀ d ∈ tables_1, d.before a0 Z = true) : (Jvm.Cond.methodLink "java/lang/String" (495 : Nat) ({ cls := "java/lang/StringLatin1", name := "charAt", desc := "([BI)C" } : Jvm.MethodName)).before a0 Z = true := hw _ (List.mem_of_getElem? (i := 181) rfl)
theorem w182 {Z : State} {a0 : Array Value} (hw : ∀ d ∈ tables_1, d.before a0 Z = true) : (Jvm.Cond.static ({ cls := "java/lang/StringLatin1", name := "charAt", desc := "([BI)C" } : Jvm.MethodName)).before a0 Z = true := hw _ (List.mem_of_getElem? (i := 182) rfl)
theorem w183 {Z : State} {a0 : Array Value} (hw : ∀ d ∈ tables_1, d.before a0 Z = true) : (Jvm.Cond.code ({ cls := "java/lang/StringLatin1", name := "charAt", desc := "([BI)C" } : Jvm.MethodName) jdk_43_method_2_code (2 : Nat) (Option.some Jvm.ClassFile.FieldType.char)).before a0 Z = true := hw _ (List.mem_of_getElem? (i := 183) rfl)
theorem w184 {Z : State} {a0 : Array Value} (hw : ∀ d ∈ tables_1, d.before a0 Z = true) : (Jvm.Cond.methodLink "java/lang/StringLatin1" (9 : Nat) ({ cls := "java/lang/String", name := "checkIndex", desc := "(II)V" } : Jvm.MethodName)).before a0 Z = true := hw _ (List.mem_of_getElem? (i := 184) rfl)
theorem w185 {Z : State} {a0 : Array Value} (hw : ∀ d ∈ tables_1, d.before a0 Z = true) : (Jvm.Cond.static ({ cls := "java/lang/String", name := "checkIndex", desc := "(II)V" } : Jvm.MethodName)).before a0 Z = true := hw _ (List.mem_of_getElem? (i := 185) rfl)
theorem w186 {Z : State} {a0 : Array Value} (hw : ∀ d ∈ tables_1, d.before a0 Z = true) : (Jvm.Cond.code ({ cls := "java/lang/String", name := "checkIndex", desc := "(II)V" } : Jvm.MethodName) jdk_42_method_155_code (2 : Nat) (Option.none : Option Jvm.ClassFile.FieldType)).before a0 Z = true := hw _ (List.mem_of_getElem? (i := 186) rfl)
theorem w187 {Z : State} {a0 : Array Value} (hw : ∀ d ∈ tables_1, d.before a0 Z = true) : (Jvm.Cond.fieldLink "java/lang/String" (1053 : Nat) "jdk/internal/util/Preconditions" "SIOOBE_FORMATTER" "Ljava/util/function/BiFunction;").before a0 Z = true := hw _ (List.mem_of_getElem? (i := 187) rfl)
theorem w188 {Z : State} {a0 : Array Value} (hw : ∀ d ∈ tables_1, d.before a0 Z = true) : (Jvm.Cond.initialized "jdk/internal/util/Preconditions").before a0 Z = true := hw _ (List.mem_of_getElem? (i := 188) rfl)
theorem w189 {Z : State} {a0 : Array Value} (hw : ∀ d ∈ tables_1, d.before a0 Z = true) : (Jvm.Cond.methodLink "java/lang/String" (1059 : Nat) ({ cls := "jdk/internal/util/Preconditions", name := "checkIndex", desc := "(IILjava/util/function/BiFunction;)I" } : Jvm.MethodName)).before a0 Z = true := hw _ (List.mem_of_getElem? (i := 189) rfl)
theorem w190 {Z : State} {a0 : Array Value} (hw : ∀ d ∈ tables_1, d.before a0 Z = true) : (Jvm.Cond.static ({ cls := "jdk/internal/util/Preconditions", name := "checkIndex", desc := "(IILjava/util/function/BiFunction;)I" } : Jvm.MethodName)).before a0 Z = true := hw _ (List.mem_of_getElem? (i := 190) rfl)
theorem w191 {Z : State} {a0 : Array Value} (hw : ∀ d ∈ tables_1, d.before a0 Z = true) : (Jvm.Cond.code ({ cls := "jdk/internal/util/Preconditions", name := "checkIndex", desc := "(IILjava/util/function/BiFunction;)I" } : Jvm.MethodName) jdk_41_method_11_code (3 : Nat) (Option.some Jvm.ClassFile.FieldType.int)).before a0 Z = true := hw _ (List.mem_of_getElem? (i := 191) rfl)
theorem w192 {Z : State} {a0 : Array Value} (hw : ∀ d ∈ tables_1, d.before a0 Z = true) : (Jvm.Cond.methodLink "java/lang/String" (177 : Nat) ({ cls := "java/lang/StringUTF16", name := "compress", desc := "([CII)[B" } : Jvm.MethodName)).before a0 Z = true := hw _ (List.mem_of_getElem? (i := 192) rfl)
theorem w193 {Z : State} {a0 : Array Value} (hw : ∀ d ∈ tables_1, d.before a0 Z = true) : (Jvm.Cond.static ({ cls := "java/lang/StringUTF16", name := "compress", desc := "([CII)[B" } : Jvm.MethodName)).before a0 Z = true := hw _ (List.mem_of_getElem? (i := 193) rfl)
theorem w194 {Z : State} {a0 : Array Value} (hw : ∀ d ∈ tables_1, d.before a0 Z = true) : (Jvm.Cond.initialized "java/lang/StringUTF16").before a0 Z = true := hw _ (List.mem_of_getElem? (i := 194) rfl)
theorem w195 {Z : State} {a0 : Array Value} (hw : ∀ d ∈ tables_1, d.before a0 Z = true) : (Jvm.Cond.code ({ cls := "java/lang/StringUTF16", name := "compress", desc := "([CII)[B" } : Jvm.MethodName) jdk_52_method_16_code (6 : Nat) (Option.some (Jvm.ClassFile.FieldType.array Jvm.ClassFile.FieldType.byte))).before a0 Z = true := hw _ (List.mem_of_getElem? (i := 195) rfl)
theorem w196 {Z : State} {a0 : Array Value} (hw : ∀ d ∈ tables_1, d.before a0 Z = true) : (Jvm.Cond.methodLink "java/lang/StringUTF16" (115 : Nat) ({ cls := "java/lang/StringUTF16", name := "compress", desc := "([CI[BII)I" } : Jvm.MethodName)).before a0 Z = true := hw _ (List.mem_of_getElem? (i := 196) rfl)
theorem w197 {Z : State} {a0 : Array Value} (hw : ∀ d ∈ tables_1, d.before a0 Z = true) : (Jvm.Cond.static ({ cls := "java/lang/StringUTF16", name := "compress", desc := "([CI[BII)I" } : Jvm.MethodName)).before a0 Z = true := hw _ (List.mem_of_getElem? (i := 197) rfl)
theorem w198 {Z : State} {a0 : Array Value} (hw : ∀ d ∈ tables_1, d.before a0 Z = true) : (Jvm.Cond.code ({ cls := "java/lang/StringUTF16", name := "compress", desc := "([CI[BII)I" } : Jvm.MethodName) jdk_52_method_21_code (7 : Nat) (Option.some Jvm.ClassFile.FieldType.int)).before a0 Z = true := hw _ (List.mem_of_getElem? (i := 198) rfl)
theorem w199 {Z : State} {a0 : Array Value} (hw : ∀ d ∈ tables_1, d.before a0 Z = true) : (Jvm.Cond.methodLink "java/lang/String" (47 : Nat) ({ cls := "java/lang/StringUTF16", name := "coderFromArrayLen", desc := "([BI)B" } : Jvm.MethodName)).before a0 Z = true := hw _ (List.mem_of_getElem? (i := 199) rfl)
theorem w200 {Z : State} {a0 : Array Value} (hw : ∀ d ∈ tables_1, d.before a0 Z = true) : (Jvm.Cond.static ({ cls := "java/lang/StringUTF16", name := "coderFromArrayLen", desc := "([BI)B" } : Jvm.MethodName)).before a0 Z = true := hw _ (List.mem_of_getElem? (i := 200) rfl)
theorem w201 {Z : State} {a0 : Array Value} (hw : ∀ d ∈ tables_1, d.before a0 Z = true) : (Jvm.Cond.code ({ cls := "java/lang/StringUTF16", name := "coderFromArrayLen", desc := "([BI)B" } : Jvm.MethodName) jdk_52_method_15_code (2 : Nat) (Option.some Jvm.ClassFile.FieldType.byte)).before a0 Z = true := hw _ (List.mem_of_getElem? (i := 201) rfl)
theorem w202 {Z : State} {a0 : Array Value} (hw : ∀ d ∈ tables_1, d.before a0 Z = true) : (Jvm.Cond.methodLink "com/example/portcullis/portcullis/gate/Challenge" (24 : Nat) ({ cls := "java/lang/String", name := "charAt", desc := "(I)C" } : Jvm.MethodName)).before a0 Z = true := hw _ (List.mem_of_getElem? (i := 202) rfl)
theorem w203 {Z : State} {a0 : Array Value} (hw : ∀ d ∈ tables_1, d.before a0 Z = true) : (Jvm.Cond.methodLink "com/example/portcullis/portcullis/gate/ChallengeWithRealmPinLaw" (40 : Nat) ({ cls := "com/example/portcullis/portcullis/gate/ChallengeWithRealmPinLaw", name := "step", desc := "(Ljava/lang/String;IC)I" } : Jvm.MethodName)).before a0 Z = true := hw _ (List.mem_of_getElem? (i := 203) rfl)
theorem w204 {Z : State} {a0 : Array Value} (hw : ∀ d ∈ tables_1, d.before a0 Z = true) : (Jvm.Cond.static ({ cls := "com/example/portcullis/portcullis/gate/ChallengeWithRealmPinLaw", name := "step", desc := "(Ljava/lang/String;IC)I" } : Jvm.MethodName)).before a0 Z = true := hw _ (List.mem_of_getElem? (i := 204) rfl)
theorem w205 {Z : State} {a0 : Array Value} (hw : ∀ d ∈ tables_1, d.before a0 Z = true) : (Jvm.Cond.code ({ cls := "com/example/portcullis/portcullis/gate/ChallengeWithRealmPinLaw", name := "step", desc := "(Ljava/lang/String;IC)I" } : Jvm.MethodName) method_5_code (4 : Nat) (Option.some Jvm.ClassFile.FieldType.int)).before a0 Z = true := hw _ (List.mem_of_getElem? (i := 205) rfl)
theorem pd0 : parseMethodDescriptor "()B" = some ⟨[], some .byte⟩ := by decide +kernel
theorem pd1 : parseMethodDescriptor "(IILjava/util/function/BiFunction;)I" = some ⟨[.int, .int, (.object "java/util/function/BiFunction")], some .int⟩ := by decide +kernel
theorem pd2 : parseMethodDescriptor "(II)V" = some ⟨[.int, .int], none⟩ := by decide +kernel
theorem pd3 : parseMethodDescriptor "()Z" = some ⟨[], some .boolean⟩ := by decide +kernel
theorem pd4 : parseMethodDescriptor "([BI)C" = some ⟨[(.array .byte), .int], some .char⟩ := by decide +kernel
theorem pd5 : parseMethodDescriptor "([CI[BII)I" = some ⟨[(.array .char), .int, (.array .byte), .int, .int], some .int⟩ := by decide +kernel
theorem pd6 : parseMethodDescriptor "([CII)[B" = some ⟨[(.array .char), .int, .int], some (.array .byte)⟩ := by decide +kernel
theorem pd7 : parseMethodDescriptor "([BI)B" = some ⟨[(.array .byte), .int], some .byte⟩ := by decide +kernel
theorem pd8 : parseMethodDescriptor "([CIILjava/lang/Void;)V" = some ⟨[(.array .char), .int, .int, (.object "java/lang/Void")], none⟩ := by decide +kernel
theorem pd9 : parseMethodDescriptor "()I" = some ⟨[], some .int⟩ := by decide +kernel
theorem pd10 : parseMethodDescriptor "(Ljava/lang/String;)V" = some ⟨[(.object "java/lang/String")], none⟩ := by decide +kernel
theorem pd11 : parseMethodDescriptor "([BIB)V" = some ⟨[(.array .byte), .int, .byte], none⟩ := by decide +kernel
theorem pd12 : parseMethodDescriptor "(I)V" = some ⟨[.int], none⟩ := by decide +kernel
theorem pd13 : parseMethodDescriptor "(ILjava/lang/String;)V" = some ⟨[.int, (.object "java/lang/String")], none⟩ := by decide +kernel
theorem pd14 : parseMethodDescriptor "(Ljava/lang/String;)Ljava/lang/AbstractStringBuilder;" = some ⟨[(.object "java/lang/String")], some (.object "java/lang/AbstractStringBuilder")⟩ := by decide +kernel
theorem pd15 : parseMethodDescriptor "(Ljava/lang/String;)Ljava/lang/StringBuilder;" = some ⟨[(.object "java/lang/String")], some (.object "java/lang/StringBuilder")⟩ := by decide +kernel
theorem pd16 : parseMethodDescriptor "(C)Z" = some ⟨[.char], some .boolean⟩ := by decide +kernel
theorem pd17 : parseMethodDescriptor "(C)Ljava/lang/AbstractStringBuilder;" = some ⟨[.char], some (.object "java/lang/AbstractStringBuilder")⟩ := by decide +kernel
theorem pd18 : parseMethodDescriptor "(II)I" = some ⟨[.int, .int], some .int⟩ := by decide +kernel
theorem pd19 : parseMethodDescriptor "([BII)[B" = some ⟨[(.array .byte), .int, .int], some (.array .byte)⟩ := by decide +kernel
theorem pd20 : parseMethodDescriptor "()[B" = some ⟨[], some (.array .byte)⟩ := by decide +kernel
theorem pd21 : parseMethodDescriptor "(Ljava/lang/AbstractStringBuilder;Ljava/lang/Void;)V" = some ⟨[(.object "java/lang/AbstractStringBuilder"), (.object "java/lang/Void")], none⟩ := by decide +kernel
theorem pd22 : parseMethodDescriptor "(Ljava/lang/StringBuilder;)V" = some ⟨[(.object "java/lang/StringBuilder")], none⟩ := by decide +kernel
theorem pd23 : parseMethodDescriptor "([C)V" = some ⟨[(.array .char)], none⟩ := by decide +kernel
theorem pd24 : parseMethodDescriptor "(C)Ljava/lang/StringBuilder;" = some ⟨[.char], some (.object "java/lang/StringBuilder")⟩ := by decide +kernel
theorem pd25 : parseMethodDescriptor "()Ljava/lang/String;" = some ⟨[], some (.object "java/lang/String")⟩ := by decide +kernel
theorem pd26 : parseMethodDescriptor "(I)C" = some ⟨[.int], some .char⟩ := by decide +kernel
theorem pd27 : parseMethodDescriptor "(Ljava/lang/String;IC)Z" = some ⟨[(.object "java/lang/String"), .int, .char], some .boolean⟩ := by decide +kernel
theorem pd28 : parseMethodDescriptor "(Ljava/lang/String;Ljava/lang/String;)Ljava/lang/String;" = some ⟨[(.object "java/lang/String"), (.object "java/lang/String")], some (.object "java/lang/String")⟩ := by decide +kernel
theorem pd29 : parseMethodDescriptor "(Ljava/lang/String;IC)I" = some ⟨[(.object "java/lang/String"), .int, .char], some .int⟩ := by decide +kernel
theorem pd30 : parseMethodDescriptor "(ICCC)Ljava/lang/String;" = some ⟨[.int, .char, .char, .char], some (.object "java/lang/String")⟩ := by decide +kernel
theorem d1_0 : decode method_3_code 0 = .ok (.bipush 32, 2) := by decide +kernel
theorem d1_2 : decode method_3_code 2 = .ok (.iload_n 0, 1) := by decide +kernel
theorem d1_3 : decode method_3_code 3 = .ok (.ldc 12, 2) := by decide +kernel
theorem d1_5 : decode method_3_code 5 = .ok (.iand, 1) := by decide +kernel
theorem d1_6 : decode method_3_code 6 = .ok (.bipush 95, 2) := by decide +kernel
theorem d1_8 : decode method_3_code 8 = .ok (.irem, 1) := by decide +kernel
theorem d1_9 : decode method_3_code 9 = .ok (.iadd, 1) := by decide +kernel
theorem d1_10 : decode method_3_code 10 = .ok (.i2c, 1) := by decide +kernel
theorem d1_11 : decode method_3_code 11 = .ok (.ireturn, 1) := by decide +kernel
theorem d2_0 : decode method_2_code 0 = .ok (.iload_n 0, 1) := by decide +kernel
theorem d2_1 : decode method_2_code 1 = .ok (.ifCond .ne 14, 3) := by decide +kernel
theorem d2_4 : decode method_2_code 4 = .ok (.new 7, 3) := by decide +kernel
theorem d2_7 : decode method_2_code 7 = .ok (.dup, 1) := by decide +kernel
theorem d2_8 : decode method_2_code 8 = .ok (.iconst 0, 1) := by decide +kernel
theorem d2_9 : decode method_2_code 9 = .ok (.newarray .char, 2) := by decide +kernel
theorem d2_11 : decode method_2_code 11 = .ok (.invokespecial 9, 3) := by decide +kernel
theorem d2_14 : decode method_2_code 14 = .ok (.areturn, 1) := by decide +kernel
theorem d2_15 : decode method_2_code 15 = .ok (.iload_n 0, 1) := by decide +kernel
theorem d2_16 : decode method_2_code 16 = .ok (.iconst 1, 1) := by decide +kernel
theorem d2_17 : decode method_2_code 17 = .ok (.if_icmp .ne 18, 3) := by decide +kernel
theorem d2_20 : decode method_2_code 20 = .ok (.new 7, 3) := by decide +kernel
theorem d2_23 : decode method_2_code 23 = .ok (.dup, 1) := by decide +kernel
theorem d2_24 : decode method_2_code 24 = .ok (.iconst 1, 1) := by decide +kernel
theorem d2_25 : decode method_2_code 25 = .ok (.newarray .char, 2) := by decide +kernel
theorem d2_27 : decode method_2_code 27 = .ok (.dup, 1) := by decide +kernel
theorem d2_28 : decode method_2_code 28 = .ok (.iconst 0, 1) := by decide +kernel
theorem d2_29 : decode method_2_code 29 = .ok (.iload_n 1, 1) := by decide +kernel
theorem d2_30 : decode method_2_code 30 = .ok (.castore, 1) := by decide +kernel
theorem d2_31 : decode method_2_code 31 = .ok (.invokespecial 9, 3) := by decide +kernel
theorem d2_34 : decode method_2_code 34 = .ok (.areturn, 1) := by decide +kernel
theorem d2_35 : decode method_2_code 35 = .ok (.iload_n 0, 1) := by decide +kernel
theorem d2_36 : decode method_2_code 36 = .ok (.iconst 2, 1) := by decide +kernel
theorem d2_37 : decode method_2_code 37 = .ok (.if_icmp .ne 22, 3) := by decide +kernel
theorem d2_40 : decode method_2_code 40 = .ok (.new 7, 3) := by decide +kernel
theorem d2_43 : decode method_2_code 43 = .ok (.dup, 1) := by decide +kernel
theorem d2_44 : decode method_2_code 44 = .ok (.iconst 2, 1) := by decide +kernel
theorem d2_45 : decode method_2_code 45 = .ok (.newarray .char, 2) := by decide +kernel
theorem d2_47 : decode method_2_code 47 = .ok (.dup, 1) := by decide +kernel
theorem d2_48 : decode method_2_code 48 = .ok (.iconst 0, 1) := by decide +kernel
theorem d2_49 : decode method_2_code 49 = .ok (.iload_n 1, 1) := by decide +kernel
theorem d2_50 : decode method_2_code 50 = .ok (.castore, 1) := by decide +kernel
theorem d2_51 : decode method_2_code 51 = .ok (.dup, 1) := by decide +kernel
theorem d2_52 : decode method_2_code 52 = .ok (.iconst 1, 1) := by decide +kernel
theorem d2_53 : decode method_2_code 53 = .ok (.iload_n 2, 1) := by decide +kernel
theorem d2_54 : decode method_2_code 54 = .ok (.castore, 1) := by decide +kernel
theorem d2_55 : decode method_2_code 55 = .ok (.invokespecial 9, 3) := by decide +kernel
theorem d2_58 : decode method_2_code 58 = .ok (.areturn, 1) := by decide +kernel
theorem d2_59 : decode method_2_code 59 = .ok (.new 7, 3) := by decide +kernel
theorem d2_62 : decode method_2_code 62 = .ok (.dup, 1) := by decide +kernel
theorem d2_63 : decode method_2_code 63 = .ok (.iconst 3, 1) := by decide +kernel
theorem d2_64 : decode method_2_code 64 = .ok (.newarray .char, 2) := by decide +kernel
theorem d2_66 : decode method_2_code 66 = .ok (.dup, 1) := by decide +kernel
theorem d2_67 : decode method_2_code 67 = .ok (.iconst 0, 1) := by decide +kernel
theorem d2_68 : decode method_2_code 68 = .ok (.iload_n 1, 1) := by decide +kernel
theorem d2_69 : decode method_2_code 69 = .ok (.castore, 1) := by decide +kernel
theorem d2_70 : decode method_2_code 70 = .ok (.dup, 1) := by decide +kernel
theorem d2_71 : decode method_2_code 71 = .ok (.iconst 1, 1) := by decide +kernel
theorem d2_72 : decode method_2_code 72 = .ok (.iload_n 2, 1) := by decide +kernel
theorem d2_73 : decode method_2_code 73 = .ok (.castore, 1) := by decide +kernel
theorem d2_74 : decode method_2_code 74 = .ok (.dup, 1) := by decide +kernel
theorem d2_75 : decode method_2_code 75 = .ok (.iconst 2, 1) := by decide +kernel
theorem d2_76 : decode method_2_code 76 = .ok (.iload_n 3, 1) := by decide +kernel
theorem d2_77 : decode method_2_code 77 = .ok (.castore, 1) := by decide +kernel
theorem d2_78 : decode method_2_code 78 = .ok (.invokespecial 9, 3) := by decide +kernel
theorem d2_81 : decode method_2_code 81 = .ok (.areturn, 1) := by decide +kernel
theorem d3_0 : decode jdk_42_method_3_code 0 = .ok (.aload_n 0, 1) := by decide +kernel
theorem d3_1 : decode jdk_42_method_3_code 1 = .ok (.aload_n 1, 1) := by decide +kernel
theorem d3_2 : decode jdk_42_method_3_code 2 = .ok (.iconst 0, 1) := by decide +kernel
theorem d3_3 : decode jdk_42_method_3_code 3 = .ok (.aload_n 1, 1) := by decide +kernel
theorem d3_4 : decode jdk_42_method_3_code 4 = .ok (.arraylength, 1) := by decide +kernel
theorem d3_5 : decode jdk_42_method_3_code 5 = .ok (.aconst_null, 1) := by decide +kernel
theorem d3_6 : decode jdk_42_method_3_code 6 = .ok (.invokespecial 27, 3) := by decide +kernel
theorem d3_9 : decode jdk_42_method_3_code 9 = .ok (.return_, 1) := by decide +kernel
theorem d4_0 : decode jdk_42_method_149_code 0 = .ok (.aload_n 0, 1) := by decide +kernel
theorem d4_1 : decode jdk_42_method_149_code 1 = .ok (.invokespecial 1, 3) := by decide +kernel
theorem d4_4 : decode jdk_42_method_149_code 4 = .ok (.iload_n 3, 1) := by decide +kernel
theorem d4_5 : decode jdk_42_method_149_code 5 = .ok (.ifCond .ne 22, 3) := by decide +kernel
theorem d4_8 : decode jdk_42_method_149_code 8 = .ok (.aload_n 0, 1) := by decide +kernel
theorem d4_9 : decode jdk_42_method_149_code 9 = .ok (.ldc 7, 2) := by decide +kernel
theorem d4_11 : decode jdk_42_method_149_code 11 = .ok (.getfield 9, 3) := by decide +kernel
theorem d4_14 : decode jdk_42_method_149_code 14 = .ok (.putfield 9, 3) := by decide +kernel
theorem d4_17 : decode jdk_42_method_149_code 17 = .ok (.aload_n 0, 1) := by decide +kernel
theorem d4_18 : decode jdk_42_method_149_code 18 = .ok (.ldc 7, 2) := by decide +kernel
theorem d4_20 : decode jdk_42_method_149_code 20 = .ok (.getfield 15, 3) := by decide +kernel
theorem d4_23 : decode jdk_42_method_149_code 23 = .ok (.putfield 15, 3) := by decide +kernel
theorem d4_26 : decode jdk_42_method_149_code 26 = .ok (.return_, 1) := by decide +kernel
theorem d4_27 : decode jdk_42_method_149_code 27 = .ok (.getstatic 38, 3) := by decide +kernel
theorem d4_30 : decode jdk_42_method_149_code 30 = .ok (.ifCond .eq 28, 3) := by decide +kernel
theorem d4_33 : decode jdk_42_method_149_code 33 = .ok (.aload_n 1, 1) := by decide +kernel
theorem d4_34 : decode jdk_42_method_149_code 34 = .ok (.iload_n 2, 1) := by decide +kernel
theorem d4_35 : decode jdk_42_method_149_code 35 = .ok (.iload_n 3, 1) := by decide +kernel
theorem d4_36 : decode jdk_42_method_149_code 36 = .ok (.invokestatic 177, 3) := by decide +kernel
theorem d4_39 : decode jdk_42_method_149_code 39 = .ok (.astore 5, 2) := by decide +kernel
theorem d4_41 : decode jdk_42_method_149_code 41 = .ok (.aload_n 0, 1) := by decide +kernel
theorem d4_42 : decode jdk_42_method_149_code 42 = .ok (.aload 5, 2) := by decide +kernel
theorem d4_44 : decode jdk_42_method_149_code 44 = .ok (.iload_n 3, 1) := by decide +kernel
theorem d4_45 : decode jdk_42_method_149_code 45 = .ok (.invokestatic 47, 3) := by decide +kernel
theorem d4_48 : decode jdk_42_method_149_code 48 = .ok (.putfield 15, 3) := by decide +kernel
theorem d4_51 : decode jdk_42_method_149_code 51 = .ok (.aload_n 0, 1) := by decide +kernel
theorem d4_52 : decode jdk_42_method_149_code 52 = .ok (.aload 5, 2) := by decide +kernel
theorem d4_54 : decode jdk_42_method_149_code 54 = .ok (.putfield 9, 3) := by decide +kernel
theorem d4_57 : decode jdk_42_method_149_code 57 = .ok (.return_, 1) := by decide +kernel
theorem d6_0 : decode prog_11_method_2_code 0 = .ok (.new 7, 3) := by decide +kernel
theorem d6_3 : decode prog_11_method_2_code 3 = .ok (.dup, 1) := by decide +kernel
theorem d6_4 : decode prog_11_method_2_code 4 = .ok (.aload_n 0, 1) := by decide +kernel
theorem d6_5 : decode prog_11_method_2_code 5 = .ok (.invokespecial 9, 3) := by decide +kernel
theorem d6_8 : decode prog_11_method_2_code 8 = .ok (.ldc 12, 2) := by decide +kernel
theorem d6_10 : decode prog_11_method_2_code 10 = .ok (.invokevirtual 14, 3) := by decide +kernel
theorem d6_13 : decode prog_11_method_2_code 13 = .ok (.astore_n 2, 1) := by decide +kernel
theorem d6_14 : decode prog_11_method_2_code 14 = .ok (.iconst 0, 1) := by decide +kernel
theorem d6_15 : decode prog_11_method_2_code 15 = .ok (.istore_n 3, 1) := by decide +kernel
theorem d6_16 : decode prog_11_method_2_code 16 = .ok (.iload_n 3, 1) := by decide +kernel
theorem d6_17 : decode prog_11_method_2_code 17 = .ok (.aload_n 1, 1) := by decide +kernel
theorem d6_18 : decode prog_11_method_2_code 18 = .ok (.invokevirtual 18, 3) := by decide +kernel
theorem d6_21 : decode prog_11_method_2_code 21 = .ok (.if_icmp .ge 72, 3) := by decide +kernel
theorem d6_24 : decode prog_11_method_2_code 24 = .ok (.aload_n 1, 1) := by decide +kernel
theorem d6_25 : decode prog_11_method_2_code 25 = .ok (.iload_n 3, 1) := by decide +kernel
theorem d6_26 : decode prog_11_method_2_code 26 = .ok (.invokevirtual 24, 3) := by decide +kernel
theorem d6_29 : decode prog_11_method_2_code 29 = .ok (.istore 4, 2) := by decide +kernel
theorem d6_31 : decode prog_11_method_2_code 31 = .ok (.iload 4, 2) := by decide +kernel
theorem d6_33 : decode prog_11_method_2_code 33 = .ok (.bipush 32, 2) := by decide +kernel
theorem d6_35 : decode prog_11_method_2_code 35 = .ok (.if_icmp .lt 10, 3) := by decide +kernel
theorem d6_38 : decode prog_11_method_2_code 38 = .ok (.iload 4, 2) := by decide +kernel
theorem d6_40 : decode prog_11_method_2_code 40 = .ok (.bipush 126, 2) := by decide +kernel
theorem d6_42 : decode prog_11_method_2_code 42 = .ok (.if_icmp .le 17, 3) := by decide +kernel
theorem d6_59 : decode prog_11_method_2_code 59 = .ok (.iload 4, 2) := by decide +kernel
theorem d6_61 : decode prog_11_method_2_code 61 = .ok (.bipush 34, 2) := by decide +kernel
theorem d6_63 : decode prog_11_method_2_code 63 = .ok (.if_icmp .eq 10, 3) := by decide +kernel
theorem d6_66 : decode prog_11_method_2_code 66 = .ok (.iload 4, 2) := by decide +kernel
theorem d6_68 : decode prog_11_method_2_code 68 = .ok (.bipush 92, 2) := by decide +kernel
theorem d6_70 : decode prog_11_method_2_code 70 = .ok (.if_icmp .ne 10, 3) := by decide +kernel
theorem d6_73 : decode prog_11_method_2_code 73 = .ok (.aload_n 2, 1) := by decide +kernel
theorem d6_74 : decode prog_11_method_2_code 74 = .ok (.bipush 92, 2) := by decide +kernel
theorem d6_76 : decode prog_11_method_2_code 76 = .ok (.invokevirtual 35, 3) := by decide +kernel
theorem d6_79 : decode prog_11_method_2_code 79 = .ok (.pop, 1) := by decide +kernel
theorem d6_80 : decode prog_11_method_2_code 80 = .ok (.aload_n 2, 1) := by decide +kernel
theorem d6_81 : decode prog_11_method_2_code 81 = .ok (.iload 4, 2) := by decide +kernel
theorem d6_83 : decode prog_11_method_2_code 83 = .ok (.invokevirtual 35, 3) := by decide +kernel
theorem d6_86 : decode prog_11_method_2_code 86 = .ok (.pop, 1) := by decide +kernel
theorem d6_87 : decode prog_11_method_2_code 87 = .ok (.iinc 3 1, 3) := by decide +kernel
theorem d6_90 : decode prog_11_method_2_code 90 = .ok (.goto (-74), 3) := by decide +kernel
theorem d6_93 : decode prog_11_method_2_code 93 = .ok (.aload_n 2, 1) := by decide +kernel
theorem d6_94 : decode prog_11_method_2_code 94 = .ok (.bipush 34, 2) := by decide +kernel
theorem d6_96 : decode prog_11_method_2_code 96 = .ok (.invokevirtual 35, 3) := by decide +kernel
theorem d6_99 : decode prog_11_method_2_code 99 = .ok (.invokevirtual 38, 3) := by decide +kernel
theorem d6_102 : decode prog_11_method_2_code 102 = .ok (.areturn, 1) := by decide +kernel
theorem d7_0 : decode jdk_67_method_3_code 0 = .ok (.aload_n 0, 1) := by decide +kernel
theorem d7_1 : decode jdk_67_method_3_code 1 = .ok (.aload_n 1, 1) := by decide +kernel
theorem d7_2 : decode jdk_67_method_3_code 2 = .ok (.invokespecial 7, 3) := by decide +kernel
theorem d7_5 : decode jdk_67_method_3_code 5 = .ok (.return_, 1) := by decide +kernel
theorem d8_0 : decode jdk_68_method_3_code 0 = .ok (.aload_n 0, 1) := by decide +kernel
theorem d8_1 : decode jdk_68_method_3_code 1 = .ok (.invokespecial 3, 3) := by decide +kernel
theorem d8_4 : decode jdk_68_method_3_code 4 = .ok (.aload_n 1, 1) := by decide +kernel
theorem d8_5 : decode jdk_68_method_3_code 5 = .ok (.invokevirtual 32, 3) := by decide +kernel
theorem d8_8 : decode jdk_68_method_3_code 8 = .ok (.istore_n 2, 1) := by decide +kernel
theorem d8_9 : decode jdk_68_method_3_code 9 = .ok (.iload_n 2, 1) := by decide +kernel
theorem d8_10 : decode jdk_68_method_3_code 10 = .ok (.ldc 38, 2) := by decide +kernel
theorem d8_12 : decode jdk_68_method_3_code 12 = .ok (.if_icmp .ge 10, 3) := by decide +kernel
theorem d8_15 : decode jdk_68_method_3_code 15 = .ok (.iload_n 2, 1) := by decide +kernel
theorem d8_16 : decode jdk_68_method_3_code 16 = .ok (.bipush 16, 2) := by decide +kernel
theorem d8_18 : decode jdk_68_method_3_code 18 = .ok (.iadd, 1) := by decide +kernel
theorem d8_19 : decode jdk_68_method_3_code 19 = .ok (.goto 5, 3) := by decide +kernel
theorem d8_24 : decode jdk_68_method_3_code 24 = .ok (.istore_n 3, 1) := by decide +kernel
theorem d8_25 : decode jdk_68_method_3_code 25 = .ok (.aload_n 1, 1) := by decide +kernel
theorem d8_26 : decode jdk_68_method_3_code 26 = .ok (.invokevirtual 40, 3) := by decide +kernel
theorem d8_29 : decode jdk_68_method_3_code 29 = .ok (.istore 4, 2) := by decide +kernel
theorem d8_31 : decode jdk_68_method_3_code 31 = .ok (.aload_n 0, 1) := by decide +kernel
theorem d8_32 : decode jdk_68_method_3_code 32 = .ok (.iload 4, 2) := by decide +kernel
theorem d8_34 : decode jdk_68_method_3_code 34 = .ok (.putfield 22, 3) := by decide +kernel
theorem d8_37 : decode jdk_68_method_3_code 37 = .ok (.aload_n 0, 1) := by decide +kernel
theorem d8_38 : decode jdk_68_method_3_code 38 = .ok (.iload 4, 2) := by decide +kernel
theorem d8_40 : decode jdk_68_method_3_code 40 = .ok (.ifCond .ne 9, 3) := by decide +kernel
theorem d8_43 : decode jdk_68_method_3_code 43 = .ok (.iload_n 3, 1) := by decide +kernel
theorem d8_44 : decode jdk_68_method_3_code 44 = .ok (.newarray .byte, 2) := by decide +kernel
theorem d8_46 : decode jdk_68_method_3_code 46 = .ok (.goto 7, 3) := by decide +kernel
theorem d8_53 : decode jdk_68_method_3_code 53 = .ok (.putfield 15, 3) := by decide +kernel
theorem d8_56 : decode jdk_68_method_3_code 56 = .ok (.aload_n 0, 1) := by decide +kernel
theorem d8_57 : decode jdk_68_method_3_code 57 = .ok (.aload_n 1, 1) := by decide +kernel
theorem d8_58 : decode jdk_68_method_3_code 58 = .ok (.invokevirtual 43, 3) := by decide +kernel
theorem d8_61 : decode jdk_68_method_3_code 61 = .ok (.pop, 1) := by decide +kernel
theorem d8_62 : decode jdk_68_method_3_code 62 = .ok (.return_, 1) := by decide +kernel
theorem d9_0 : decode jdk_42_method_54_code 0 = .ok (.aload_n 0, 1) := by decide +kernel
theorem d9_1 : decode jdk_42_method_54_code 1 = .ok (.getfield 9, 3) := by decide +kernel
theorem d9_4 : decode jdk_42_method_54_code 4 = .ok (.arraylength, 1) := by decide +kernel
theorem d9_5 : decode jdk_42_method_54_code 5 = .ok (.aload_n 0, 1) := by decide +kernel
theorem d9_6 : decode jdk_42_method_54_code 6 = .ok (.invokevirtual 335, 3) := by decide +kernel
theorem d9_9 : decode jdk_42_method_54_code 9 = .ok (.ishr, 1) := by decide +kernel
theorem d9_10 : decode jdk_42_method_54_code 10 = .ok (.ireturn, 1) := by decide +kernel
theorem d10_0 : decode jdk_42_method_152_code 0 = .ok (.getstatic 38, 3) := by decide +kernel
theorem d10_3 : decode jdk_42_method_152_code 3 = .ok (.ifCond .eq 10, 3) := by decide +kernel
theorem d10_6 : decode jdk_42_method_152_code 6 = .ok (.aload_n 0, 1) := by decide +kernel
theorem d10_7 : decode jdk_42_method_152_code 7 = .ok (.getfield 15, 3) := by decide +kernel
theorem d10_10 : decode jdk_42_method_152_code 10 = .ok (.goto 4, 3) := by decide +kernel
theorem d10_14 : decode jdk_42_method_152_code 14 = .ok (.ireturn, 1) := by decide +kernel
theorem d11_0 : decode jdk_67_method_80_code 0 = .ok (.aload_n 0, 1) := by decide +kernel
theorem d11_1 : decode jdk_67_method_80_code 1 = .ok (.aload_n 1, 1) := by decide +kernel
theorem d11_2 : decode jdk_67_method_80_code 2 = .ok (.invokevirtual 23, 3) := by decide +kernel
theorem d11_5 : decode jdk_67_method_80_code 5 = .ok (.areturn, 1) := by decide +kernel
theorem d12_0 : decode jdk_67_method_7_code 0 = .ok (.aload_n 0, 1) := by decide +kernel
theorem d12_1 : decode jdk_67_method_7_code 1 = .ok (.aload_n 1, 1) := by decide +kernel
theorem d12_2 : decode jdk_67_method_7_code 2 = .ok (.invokespecial 29, 3) := by decide +kernel
theorem d12_5 : decode jdk_67_method_7_code 5 = .ok (.pop, 1) := by decide +kernel
theorem d12_6 : decode jdk_67_method_7_code 6 = .ok (.aload_n 0, 1) := by decide +kernel
theorem d12_7 : decode jdk_67_method_7_code 7 = .ok (.areturn, 1) := by decide +kernel
theorem d13_0 : decode jdk_68_method_22_code 0 = .ok (.aload_n 1, 1) := by decide +kernel
theorem d13_1 : decode jdk_68_method_22_code 1 = .ok (.ifnonnull 8, 3) := by decide +kernel
theorem d13_9 : decode jdk_68_method_22_code 9 = .ok (.aload_n 1, 1) := by decide +kernel
theorem d13_10 : decode jdk_68_method_22_code 10 = .ok (.invokevirtual 32, 3) := by decide +kernel
theorem d13_13 : decode jdk_68_method_22_code 13 = .ok (.istore_n 2, 1) := by decide +kernel
theorem d13_14 : decode jdk_68_method_22_code 14 = .ok (.aload_n 0, 1) := by decide +kernel
theorem d13_15 : decode jdk_68_method_22_code 15 = .ok (.aload_n 0, 1) := by decide +kernel
theorem d13_16 : decode jdk_68_method_22_code 16 = .ok (.getfield 79, 3) := by decide +kernel
theorem d13_19 : decode jdk_68_method_22_code 19 = .ok (.iload_n 2, 1) := by decide +kernel
theorem d13_20 : decode jdk_68_method_22_code 20 = .ok (.iadd, 1) := by decide +kernel
theorem d13_21 : decode jdk_68_method_22_code 21 = .ok (.invokevirtual 100, 3) := by decide +kernel
theorem d13_24 : decode jdk_68_method_22_code 24 = .ok (.aload_n 0, 1) := by decide +kernel
theorem d13_25 : decode jdk_68_method_22_code 25 = .ok (.aload_n 0, 1) := by decide +kernel
theorem d13_26 : decode jdk_68_method_22_code 26 = .ok (.getfield 79, 3) := by decide +kernel
theorem d13_29 : decode jdk_68_method_22_code 29 = .ok (.aload_n 1, 1) := by decide +kernel
theorem d13_30 : decode jdk_68_method_22_code 30 = .ok (.invokevirtual 208, 3) := by decide +kernel
theorem d13_33 : decode jdk_68_method_22_code 33 = .ok (.aload_n 0, 1) := by decide +kernel
theorem d13_34 : decode jdk_68_method_22_code 34 = .ok (.dup, 1) := by decide +kernel
theorem d13_35 : decode jdk_68_method_22_code 35 = .ok (.getfield 79, 3) := by decide +kernel
theorem d13_38 : decode jdk_68_method_22_code 38 = .ok (.iload_n 2, 1) := by decide +kernel
theorem d13_39 : decode jdk_68_method_22_code 39 = .ok (.iadd, 1) := by decide +kernel
theorem d13_40 : decode jdk_68_method_22_code 40 = .ok (.putfield 79, 3) := by decide +kernel
theorem d13_43 : decode jdk_68_method_22_code 43 = .ok (.aload_n 0, 1) := by decide +kernel
theorem d13_44 : decode jdk_68_method_22_code 44 = .ok (.areturn, 1) := by decide +kernel
theorem d14_0 : decode jdk_68_method_9_code 0 = .ok (.aload_n 0, 1) := by decide +kernel
theorem d14_1 : decode jdk_68_method_9_code 1 = .ok (.getfield 15, 3) := by decide +kernel
theorem d14_4 : decode jdk_68_method_9_code 4 = .ok (.arraylength, 1) := by decide +kernel
theorem d14_5 : decode jdk_68_method_9_code 5 = .ok (.aload_n 0, 1) := by decide +kernel
theorem d14_6 : decode jdk_68_method_9_code 6 = .ok (.getfield 22, 3) := by decide +kernel
theorem d14_9 : decode jdk_68_method_9_code 9 = .ok (.ishr, 1) := by decide +kernel
theorem d14_10 : decode jdk_68_method_9_code 10 = .ok (.istore_n 2, 1) := by decide +kernel
theorem d14_11 : decode jdk_68_method_9_code 11 = .ok (.iload_n 1, 1) := by decide +kernel
theorem d14_12 : decode jdk_68_method_9_code 12 = .ok (.iload_n 2, 1) := by decide +kernel
theorem d14_13 : decode jdk_68_method_9_code 13 = .ok (.isub, 1) := by decide +kernel
theorem d14_14 : decode jdk_68_method_9_code 14 = .ok (.ifCond .le 24, 3) := by decide +kernel
theorem d14_38 : decode jdk_68_method_9_code 38 = .ok (.return_, 1) := by decide +kernel
theorem d15_0 : decode jdk_68_method_73_code 0 = .ok (.aload_n 0, 1) := by decide +kernel
theorem d15_1 : decode jdk_68_method_73_code 1 = .ok (.aload_n 2, 1) := by decide +kernel
theorem d15_2 : decode jdk_68_method_73_code 2 = .ok (.invokevirtual 397, 3) := by decide +kernel
theorem d15_5 : decode jdk_68_method_73_code 5 = .ok (.aload_n 2, 1) := by decide +kernel
theorem d15_6 : decode jdk_68_method_73_code 6 = .ok (.aload_n 0, 1) := by decide +kernel
theorem d15_7 : decode jdk_68_method_73_code 7 = .ok (.getfield 15, 3) := by decide +kernel
theorem d15_10 : decode jdk_68_method_73_code 10 = .ok (.iload_n 1, 1) := by decide +kernel
theorem d15_11 : decode jdk_68_method_73_code 11 = .ok (.aload_n 0, 1) := by decide +kernel
theorem d15_12 : decode jdk_68_method_73_code 12 = .ok (.getfield 22, 3) := by decide +kernel
theorem d15_15 : decode jdk_68_method_73_code 15 = .ok (.invokevirtual 399, 3) := by decide +kernel
theorem d15_18 : decode jdk_68_method_73_code 18 = .ok (.return_, 1) := by decide +kernel
theorem d16_0 : decode jdk_68_method_71_code 0 = .ok (.getstatic 18, 3) := by decide +kernel
theorem d16_3 : decode jdk_68_method_71_code 3 = .ok (.ifCond .eq 18, 3) := by decide +kernel
theorem d16_6 : decode jdk_68_method_71_code 6 = .ok (.aload_n 0, 1) := by decide +kernel
theorem d16_7 : decode jdk_68_method_71_code 7 = .ok (.getfield 22, 3) := by decide +kernel
theorem d16_10 : decode jdk_68_method_71_code 10 = .ok (.aload_n 1, 1) := by decide +kernel
theorem d16_11 : decode jdk_68_method_71_code 11 = .ok (.invokevirtual 40, 3) := by decide +kernel
theorem d16_14 : decode jdk_68_method_71_code 14 = .ok (.if_icmp .eq 7, 3) := by decide +kernel
theorem d16_21 : decode jdk_68_method_71_code 21 = .ok (.return_, 1) := by decide +kernel
theorem d17_0 : decode jdk_42_method_147_code 0 = .ok (.aload_n 0, 1) := by decide +kernel
theorem d17_1 : decode jdk_42_method_147_code 1 = .ok (.invokevirtual 335, 3) := by decide +kernel
theorem d17_4 : decode jdk_42_method_147_code 4 = .ok (.iload_n 3, 1) := by decide +kernel
theorem d17_5 : decode jdk_42_method_147_code 5 = .ok (.if_icmp .ne 23, 3) := by decide +kernel
theorem d17_8 : decode jdk_42_method_147_code 8 = .ok (.aload_n 0, 1) := by decide +kernel
theorem d17_9 : decode jdk_42_method_147_code 9 = .ok (.getfield 9, 3) := by decide +kernel
theorem d17_12 : decode jdk_42_method_147_code 12 = .ok (.iconst 0, 1) := by decide +kernel
theorem d17_13 : decode jdk_42_method_147_code 13 = .ok (.aload_n 1, 1) := by decide +kernel
theorem d17_14 : decode jdk_42_method_147_code 14 = .ok (.iload_n 2, 1) := by decide +kernel
theorem d17_15 : decode jdk_42_method_147_code 15 = .ok (.iload_n 3, 1) := by decide +kernel
theorem d17_16 : decode jdk_42_method_147_code 16 = .ok (.ishl, 1) := by decide +kernel
theorem d17_17 : decode jdk_42_method_147_code 17 = .ok (.aload_n 0, 1) := by decide +kernel
theorem d17_18 : decode jdk_42_method_147_code 18 = .ok (.getfield 9, 3) := by decide +kernel
theorem d17_21 : decode jdk_42_method_147_code 21 = .ok (.arraylength, 1) := by decide +kernel
theorem d17_22 : decode jdk_42_method_147_code 22 = .ok (.invokestatic 212, 3) := by decide +kernel
theorem d17_25 : decode jdk_42_method_147_code 25 = .ok (.goto 18, 3) := by decide +kernel
theorem d17_43 : decode jdk_42_method_147_code 43 = .ok (.return_, 1) := by decide +kernel
theorem d18_0 : decode jdk_67_method_14_code 0 = .ok (.aload_n 0, 1) := by decide +kernel
theorem d18_1 : decode jdk_67_method_14_code 1 = .ok (.iload_n 1, 1) := by decide +kernel
theorem d18_2 : decode jdk_67_method_14_code 2 = .ok (.invokespecial 50, 3) := by decide +kernel
theorem d18_5 : decode jdk_67_method_14_code 5 = .ok (.pop, 1) := by decide +kernel
theorem d18_6 : decode jdk_67_method_14_code 6 = .ok (.aload_n 0, 1) := by decide +kernel
theorem d18_7 : decode jdk_67_method_14_code 7 = .ok (.areturn, 1) := by decide +kernel
theorem d19_0 : decode jdk_68_method_31_code 0 = .ok (.aload_n 0, 1) := by decide +kernel
theorem d19_1 : decode jdk_68_method_31_code 1 = .ok (.aload_n 0, 1) := by decide +kernel
theorem d19_2 : decode jdk_68_method_31_code 2 = .ok (.getfield 79, 3) := by decide +kernel
theorem d19_5 : decode jdk_68_method_31_code 5 = .ok (.iconst 1, 1) := by decide +kernel
theorem d19_6 : decode jdk_68_method_31_code 6 = .ok (.iadd, 1) := by decide +kernel
theorem d19_7 : decode jdk_68_method_31_code 7 = .ok (.invokevirtual 100, 3) := by decide +kernel
theorem d19_10 : decode jdk_68_method_31_code 10 = .ok (.aload_n 0, 1) := by decide +kernel
theorem d19_11 : decode jdk_68_method_31_code 11 = .ok (.invokevirtual 83, 3) := by decide +kernel
theorem d19_14 : decode jdk_68_method_31_code 14 = .ok (.ifCond .eq 31, 3) := by decide +kernel
theorem d19_17 : decode jdk_68_method_31_code 17 = .ok (.iload_n 1, 1) := by decide +kernel
theorem d19_18 : decode jdk_68_method_31_code 18 = .ok (.invokestatic 191, 3) := by decide +kernel
theorem d19_21 : decode jdk_68_method_31_code 21 = .ok (.ifCond .eq 24, 3) := by decide +kernel
theorem d19_24 : decode jdk_68_method_31_code 24 = .ok (.aload_n 0, 1) := by decide +kernel
theorem d19_25 : decode jdk_68_method_31_code 25 = .ok (.getfield 15, 3) := by decide +kernel
theorem d19_28 : decode jdk_68_method_31_code 28 = .ok (.aload_n 0, 1) := by decide +kernel
theorem d19_29 : decode jdk_68_method_31_code 29 = .ok (.dup, 1) := by decide +kernel
theorem d19_30 : decode jdk_68_method_31_code 30 = .ok (.getfield 79, 3) := by decide +kernel
theorem d19_33 : decode jdk_68_method_31_code 33 = .ok (.dup_x1, 1) := by decide +kernel
theorem d19_34 : decode jdk_68_method_31_code 34 = .ok (.iconst 1, 1) := by decide +kernel
theorem d19_35 : decode jdk_68_method_31_code 35 = .ok (.iadd, 1) := by decide +kernel
theorem d19_36 : decode jdk_68_method_31_code 36 = .ok (.putfield 79, 3) := by decide +kernel
theorem d19_39 : decode jdk_68_method_31_code 39 = .ok (.iload_n 1, 1) := by decide +kernel
theorem d19_40 : decode jdk_68_method_31_code 40 = .ok (.i2b, 1) := by decide +kernel
theorem d19_41 : decode jdk_68_method_31_code 41 = .ok (.bastore, 1) := by decide +kernel
theorem d19_42 : decode jdk_68_method_31_code 42 = .ok (.goto 33, 3) := by decide +kernel
theorem d19_75 : decode jdk_68_method_31_code 75 = .ok (.aload_n 0, 1) := by decide +kernel
theorem d19_76 : decode jdk_68_method_31_code 76 = .ok (.areturn, 1) := by decide +kernel
theorem d20_0 : decode jdk_68_method_68_code 0 = .ok (.getstatic 18, 3) := by decide +kernel
theorem d20_3 : decode jdk_68_method_68_code 3 = .ok (.ifCond .eq 14, 3) := by decide +kernel
theorem d20_6 : decode jdk_68_method_68_code 6 = .ok (.aload_n 0, 1) := by decide +kernel
theorem d20_7 : decode jdk_68_method_68_code 7 = .ok (.getfield 22, 3) := by decide +kernel
theorem d20_10 : decode jdk_68_method_68_code 10 = .ok (.ifCond .ne 7, 3) := by decide +kernel
theorem d20_13 : decode jdk_68_method_68_code 13 = .ok (.iconst 1, 1) := by decide +kernel
theorem d20_14 : decode jdk_68_method_68_code 14 = .ok (.goto 4, 3) := by decide +kernel
theorem d20_18 : decode jdk_68_method_68_code 18 = .ok (.ireturn, 1) := by decide +kernel
theorem d21_0 : decode jdk_43_method_3_code 0 = .ok (.iload_n 0, 1) := by decide +kernel
theorem d21_1 : decode jdk_43_method_3_code 1 = .ok (.sipush 255, 3) := by decide +kernel
theorem d21_4 : decode jdk_43_method_3_code 4 = .ok (.if_icmp .gt 7, 3) := by decide +kernel
theorem d21_7 : decode jdk_43_method_3_code 7 = .ok (.iconst 1, 1) := by decide +kernel
theorem d21_8 : decode jdk_43_method_3_code 8 = .ok (.goto 4, 3) := by decide +kernel
theorem d21_12 : decode jdk_43_method_3_code 12 = .ok (.ireturn, 1) := by decide +kernel
theorem d22_0 : decode jdk_67_method_42_code 0 = .ok (.new 18, 3) := by decide +kernel
theorem d22_3 : decode jdk_67_method_42_code 3 = .ok (.dup, 1) := by decide +kernel
theorem d22_4 : decode jdk_67_method_42_code 4 = .ok (.aload_n 0, 1) := by decide +kernel
theorem d22_5 : decode jdk_67_method_42_code 5 = .ok (.invokespecial 137, 3) := by decide +kernel
theorem d22_8 : decode jdk_67_method_42_code 8 = .ok (.areturn, 1) := by decide +kernel
theorem d23_0 : decode jdk_42_method_53_code 0 = .ok (.aload_n 0, 1) := by decide +kernel
theorem d23_1 : decode jdk_42_method_53_code 1 = .ok (.aload_n 1, 1) := by decide +kernel
theorem d23_2 : decode jdk_42_method_53_code 2 = .ok (.aconst_null, 1) := by decide +kernel
theorem d23_3 : decode jdk_42_method_53_code 3 = .ok (.invokespecial 489, 3) := by decide +kernel
theorem d23_6 : decode jdk_42_method_53_code 6 = .ok (.return_, 1) := by decide +kernel
theorem d24_0 : decode jdk_42_method_150_code 0 = .ok (.aload_n 0, 1) := by decide +kernel
theorem d24_1 : decode jdk_42_method_150_code 1 = .ok (.invokespecial 1, 3) := by decide +kernel
theorem d24_4 : decode jdk_42_method_150_code 4 = .ok (.aload_n 1, 1) := by decide +kernel
theorem d24_5 : decode jdk_42_method_150_code 5 = .ok (.invokevirtual 552, 3) := by decide +kernel
theorem d24_8 : decode jdk_42_method_150_code 8 = .ok (.astore_n 3, 1) := by decide +kernel
theorem d24_9 : decode jdk_42_method_150_code 9 = .ok (.aload_n 1, 1) := by decide +kernel
theorem d24_10 : decode jdk_42_method_150_code 10 = .ok (.invokevirtual 549, 3) := by decide +kernel
theorem d24_13 : decode jdk_42_method_150_code 13 = .ok (.istore 4, 2) := by decide +kernel
theorem d24_15 : decode jdk_42_method_150_code 15 = .ok (.aload_n 1, 1) := by decide +kernel
theorem d24_16 : decode jdk_42_method_150_code 16 = .ok (.invokevirtual 1047, 3) := by decide +kernel
theorem d24_19 : decode jdk_42_method_150_code 19 = .ok (.ifCond .eq 22, 3) := by decide +kernel
theorem d24_22 : decode jdk_42_method_150_code 22 = .ok (.aload_n 0, 1) := by decide +kernel
theorem d24_23 : decode jdk_42_method_150_code 23 = .ok (.iconst 0, 1) := by decide +kernel
theorem d24_24 : decode jdk_42_method_150_code 24 = .ok (.putfield 15, 3) := by decide +kernel
theorem d24_27 : decode jdk_42_method_150_code 27 = .ok (.aload_n 0, 1) := by decide +kernel
theorem d24_28 : decode jdk_42_method_150_code 28 = .ok (.aload_n 3, 1) := by decide +kernel
theorem d24_29 : decode jdk_42_method_150_code 29 = .ok (.iconst 0, 1) := by decide +kernel
theorem d24_30 : decode jdk_42_method_150_code 30 = .ok (.iload 4, 2) := by decide +kernel
theorem d24_32 : decode jdk_42_method_150_code 32 = .ok (.invokestatic 54, 3) := by decide +kernel
theorem d24_35 : decode jdk_42_method_150_code 35 = .ok (.putfield 9, 3) := by decide +kernel
theorem d24_38 : decode jdk_42_method_150_code 38 = .ok (.goto 59, 3) := by decide +kernel
theorem d24_97 : decode jdk_42_method_150_code 97 = .ok (.return_, 1) := by decide +kernel
theorem d25_0 : decode jdk_68_method_64_code 0 = .ok (.aload_n 0, 1) := by decide +kernel
theorem d25_1 : decode jdk_68_method_64_code 1 = .ok (.getfield 15, 3) := by decide +kernel
theorem d25_4 : decode jdk_68_method_64_code 4 = .ok (.areturn, 1) := by decide +kernel
theorem d26_0 : decode jdk_67_method_93_code 0 = .ok (.aload_n 0, 1) := by decide +kernel
theorem d26_1 : decode jdk_67_method_93_code 1 = .ok (.invokespecial 343, 3) := by decide +kernel
theorem d26_4 : decode jdk_67_method_93_code 4 = .ok (.ireturn, 1) := by decide +kernel
theorem d27_0 : decode jdk_68_method_6_code 0 = .ok (.aload_n 0, 1) := by decide +kernel
theorem d27_1 : decode jdk_68_method_6_code 1 = .ok (.getfield 79, 3) := by decide +kernel
theorem d27_4 : decode jdk_68_method_6_code 4 = .ok (.ireturn, 1) := by decide +kernel
theorem d28_0 : decode jdk_65_method_132_code 0 = .ok (.iload_n 1, 1) := by decide +kernel
theorem d28_1 : decode jdk_65_method_132_code 1 = .ok (.ifCond .ne 9, 3) := by decide +kernel
theorem d28_4 : decode jdk_65_method_132_code 4 = .ok (.iload_n 2, 1) := by decide +kernel
theorem d28_5 : decode jdk_65_method_132_code 5 = .ok (.aload_n 0, 1) := by decide +kernel
theorem d28_6 : decode jdk_65_method_132_code 6 = .ok (.arraylength, 1) := by decide +kernel
theorem d28_7 : decode jdk_65_method_132_code 7 = .ok (.if_icmp .eq 10, 3) := by decide +kernel
theorem d28_10 : decode jdk_65_method_132_code 10 = .ok (.aload_n 0, 1) := by decide +kernel
theorem d28_11 : decode jdk_65_method_132_code 11 = .ok (.iload_n 1, 1) := by decide +kernel
theorem d28_12 : decode jdk_65_method_132_code 12 = .ok (.iload_n 2, 1) := by decide +kernel
theorem d28_13 : decode jdk_65_method_132_code 13 = .ok (.invokestatic 339, 3) := by decide +kernel
theorem d28_16 : decode jdk_65_method_132_code 16 = .ok (.areturn, 1) := by decide +kernel
theorem d29_0 : decode jdk_65_method_133_code 0 = .ok (.iload_n 1, 1) := by decide +kernel
theorem d29_1 : decode jdk_65_method_133_code 1 = .ok (.iload_n 2, 1) := by decide +kernel
theorem d29_2 : decode jdk_65_method_133_code 2 = .ok (.invokestatic 343, 3) := by decide +kernel
theorem d29_5 : decode jdk_65_method_133_code 5 = .ok (.iload_n 2, 1) := by decide +kernel
theorem d29_6 : decode jdk_65_method_133_code 6 = .ok (.iload_n 1, 1) := by decide +kernel
theorem d29_7 : decode jdk_65_method_133_code 7 = .ok (.isub, 1) := by decide +kernel
theorem d29_8 : decode jdk_65_method_133_code 8 = .ok (.istore_n 3, 1) := by decide +kernel
theorem d29_9 : decode jdk_65_method_133_code 9 = .ok (.iload_n 3, 1) := by decide +kernel
theorem d29_10 : decode jdk_65_method_133_code 10 = .ok (.newarray .byte, 2) := by decide +kernel
theorem d29_12 : decode jdk_65_method_133_code 12 = .ok (.astore 4, 2) := by decide +kernel
theorem d29_14 : decode jdk_65_method_133_code 14 = .ok (.aload_n 0, 1) := by decide +kernel
theorem d29_15 : decode jdk_65_method_133_code 15 = .ok (.iload_n 1, 1) := by decide +kernel
theorem d29_16 : decode jdk_65_method_133_code 16 = .ok (.aload 4, 2) := by decide +kernel
theorem d29_18 : decode jdk_65_method_133_code 18 = .ok (.iconst 0, 1) := by decide +kernel
theorem d29_19 : decode jdk_65_method_133_code 19 = .ok (.aload_n 0, 1) := by decide +kernel
theorem d29_20 : decode jdk_65_method_133_code 20 = .ok (.arraylength, 1) := by decide +kernel
theorem d29_21 : decode jdk_65_method_133_code 21 = .ok (.iload_n 1, 1) := by decide +kernel
theorem d29_22 : decode jdk_65_method_133_code 22 = .ok (.isub, 1) := by decide +kernel
theorem d29_23 : decode jdk_65_method_133_code 23 = .ok (.iload_n 3, 1) := by decide +kernel
theorem d29_24 : decode jdk_65_method_133_code 24 = .ok (.invokestatic 304, 3) := by decide +kernel
theorem d29_27 : decode jdk_65_method_133_code 27 = .ok (.invokestatic 150, 3) := by decide +kernel
theorem d29_30 : decode jdk_65_method_133_code 30 = .ok (.aload 4, 2) := by decide +kernel
theorem d29_32 : decode jdk_65_method_133_code 32 = .ok (.areturn, 1) := by decide +kernel
theorem d30_0 : decode jdk_65_method_131_code 0 = .ok (.iload_n 1, 1) := by decide +kernel
theorem d30_1 : decode jdk_65_method_131_code 1 = .ok (.iload_n 0, 1) := by decide +kernel
theorem d30_2 : decode jdk_65_method_131_code 2 = .ok (.if_icmp .ge 35, 3) := by decide +kernel
theorem d30_37 : decode jdk_65_method_131_code 37 = .ok (.return_, 1) := by decide +kernel
theorem d31_0 : decode jdk_29_method_69_code 0 = .ok (.iload_n 0, 1) := by decide +kernel
theorem d31_1 : decode jdk_29_method_69_code 1 = .ok (.iload_n 1, 1) := by decide +kernel
theorem d31_2 : decode jdk_29_method_69_code 2 = .ok (.if_icmp .gt 7, 3) := by decide +kernel
theorem d31_5 : decode jdk_29_method_69_code 5 = .ok (.iload_n 0, 1) := by decide +kernel
theorem d31_6 : decode jdk_29_method_69_code 6 = .ok (.goto 4, 3) := by decide +kernel
theorem d31_9 : decode jdk_29_method_69_code 9 = .ok (.iload_n 1, 1) := by decide +kernel
theorem d31_10 : decode jdk_29_method_69_code 10 = .ok (.ireturn, 1) := by decide +kernel
theorem d32_0 : decode method_4_code 0 = .ok (.iload_n 1, 1) := by decide +kernel
theorem d32_1 : decode method_4_code 1 = .ok (.ifCond .lt 24, 3) := by decide +kernel
theorem d32_4 : decode method_4_code 4 = .ok (.iload_n 1, 1) := by decide +kernel
theorem d32_5 : decode method_4_code 5 = .ok (.aload_n 0, 1) := by decide +kernel
theorem d32_6 : decode method_4_code 6 = .ok (.invokevirtual 13, 3) := by decide +kernel
theorem d32_9 : decode method_4_code 9 = .ok (.if_icmp .ge 16, 3) := by decide +kernel
theorem d32_12 : decode method_4_code 12 = .ok (.aload_n 0, 1) := by decide +kernel
theorem d32_13 : decode method_4_code 13 = .ok (.iload_n 1, 1) := by decide +kernel
theorem d32_14 : decode method_4_code 14 = .ok (.invokevirtual 17, 3) := by decide +kernel
theorem d32_17 : decode method_4_code 17 = .ok (.iload_n 2, 1) := by decide +kernel
theorem d32_18 : decode method_4_code 18 = .ok (.if_icmp .ne 7, 3) := by decide +kernel
theorem d32_21 : decode method_4_code 21 = .ok (.iconst 1, 1) := by decide +kernel
theorem d32_22 : decode method_4_code 22 = .ok (.goto 4, 3) := by decide +kernel
theorem d32_26 : decode method_4_code 26 = .ok (.ireturn, 1) := by decide +kernel
theorem d33_0 : decode jdk_42_method_56_code 0 = .ok (.aload_n 0, 1) := by decide +kernel
theorem d33_1 : decode jdk_42_method_56_code 1 = .ok (.invokevirtual 492, 3) := by decide +kernel
theorem d33_4 : decode jdk_42_method_56_code 4 = .ok (.ifCond .eq 12, 3) := by decide +kernel
theorem d33_7 : decode jdk_42_method_56_code 7 = .ok (.aload_n 0, 1) := by decide +kernel
theorem d33_8 : decode jdk_42_method_56_code 8 = .ok (.getfield 9, 3) := by decide +kernel
theorem d33_11 : decode jdk_42_method_56_code 11 = .ok (.iload_n 1, 1) := by decide +kernel
theorem d33_12 : decode jdk_42_method_56_code 12 = .ok (.invokestatic 495, 3) := by decide +kernel
theorem d33_15 : decode jdk_42_method_56_code 15 = .ok (.ireturn, 1) := by decide +kernel
theorem d34_0 : decode jdk_42_method_154_code 0 = .ok (.getstatic 38, 3) := by decide +kernel
theorem d34_3 : decode jdk_42_method_154_code 3 = .ok (.ifCond .eq 14, 3) := by decide +kernel
theorem d34_6 : decode jdk_42_method_154_code 6 = .ok (.aload_n 0, 1) := by decide +kernel
theorem d34_7 : decode jdk_42_method_154_code 7 = .ok (.getfield 15, 3) := by decide +kernel
theorem d34_10 : decode jdk_42_method_154_code 10 = .ok (.ifCond .ne 7, 3) := by decide +kernel
theorem d34_13 : decode jdk_42_method_154_code 13 = .ok (.iconst 1, 1) := by decide +kernel
theorem d34_14 : decode jdk_42_method_154_code 14 = .ok (.goto 4, 3) := by decide +kernel
theorem d34_18 : decode jdk_42_method_154_code 18 = .ok (.ireturn, 1) := by decide +kernel
theorem d35_0 : decode jdk_43_method_2_code 0 = .ok (.iload_n 1, 1) := by decide +kernel
theorem d35_1 : decode jdk_43_method_2_code 1 = .ok (.aload_n 0, 1) := by decide +kernel
theorem d35_2 : decode jdk_43_method_2_code 2 = .ok (.arraylength, 1) := by decide +kernel
theorem d35_3 : decode jdk_43_method_2_code 3 = .ok (.invokestatic 9, 3) := by decide +kernel
theorem d35_6 : decode jdk_43_method_2_code 6 = .ok (.aload_n 0, 1) := by decide +kernel
theorem d35_7 : decode jdk_43_method_2_code 7 = .ok (.iload_n 1, 1) := by decide +kernel
theorem d35_8 : decode jdk_43_method_2_code 8 = .ok (.baload, 1) := by decide +kernel
theorem d35_9 : decode jdk_43_method_2_code 9 = .ok (.sipush 255, 3) := by decide +kernel
theorem d35_12 : decode jdk_43_method_2_code 12 = .ok (.iand, 1) := by decide +kernel
theorem d35_13 : decode jdk_43_method_2_code 13 = .ok (.i2c, 1) := by decide +kernel
theorem d35_14 : decode jdk_43_method_2_code 14 = .ok (.ireturn, 1) := by decide +kernel
theorem d36_0 : decode jdk_42_method_155_code 0 = .ok (.iload_n 0, 1) := by decide +kernel
theorem d36_1 : decode jdk_42_method_155_code 1 = .ok (.iload_n 1, 1) := by decide +kernel
theorem d36_2 : decode jdk_42_method_155_code 2 = .ok (.getstatic 1053, 3) := by decide +kernel
theorem d36_5 : decode jdk_42_method_155_code 5 = .ok (.invokestatic 1059, 3) := by decide +kernel
theorem d36_8 : decode jdk_42_method_155_code 8 = .ok (.pop, 1) := by decide +kernel
theorem d36_9 : decode jdk_42_method_155_code 9 = .ok (.return_, 1) := by decide +kernel
theorem d37_0 : decode jdk_41_method_11_code 0 = .ok (.iload_n 0, 1) := by decide +kernel
theorem d37_1 : decode jdk_41_method_11_code 1 = .ok (.ifCond .lt 8, 3) := by decide +kernel
theorem d37_4 : decode jdk_41_method_11_code 4 = .ok (.iload_n 0, 1) := by decide +kernel
theorem d37_5 : decode jdk_41_method_11_code 5 = .ok (.iload_n 1, 1) := by decide +kernel
theorem d37_6 : decode jdk_41_method_11_code 6 = .ok (.if_icmp .lt 10, 3) := by decide +kernel
theorem d37_16 : decode jdk_41_method_11_code 16 = .ok (.iload_n 0, 1) := by decide +kernel
theorem d37_17 : decode jdk_41_method_11_code 17 = .ok (.ireturn, 1) := by decide +kernel
theorem d38_0 : decode jdk_52_method_16_code 0 = .ok (.iload_n 2, 1) := by decide +kernel
theorem d38_1 : decode jdk_52_method_16_code 1 = .ok (.newarray .byte, 2) := by decide +kernel
theorem d38_3 : decode jdk_52_method_16_code 3 = .ok (.astore_n 3, 1) := by decide +kernel
theorem d38_4 : decode jdk_52_method_16_code 4 = .ok (.aload_n 0, 1) := by decide +kernel
theorem d38_5 : decode jdk_52_method_16_code 5 = .ok (.iload_n 1, 1) := by decide +kernel
theorem d38_6 : decode jdk_52_method_16_code 6 = .ok (.aload_n 3, 1) := by decide +kernel
theorem d38_7 : decode jdk_52_method_16_code 7 = .ok (.iconst 0, 1) := by decide +kernel
theorem d38_8 : decode jdk_52_method_16_code 8 = .ok (.iload_n 2, 1) := by decide +kernel
theorem d38_9 : decode jdk_52_method_16_code 9 = .ok (.invokestatic 115, 3) := by decide +kernel
theorem d38_12 : decode jdk_52_method_16_code 12 = .ok (.istore 4, 2) := by decide +kernel
theorem d38_14 : decode jdk_52_method_16_code 14 = .ok (.iload 4, 2) := by decide +kernel
theorem d38_16 : decode jdk_52_method_16_code 16 = .ok (.iload_n 2, 1) := by decide +kernel
theorem d38_17 : decode jdk_52_method_16_code 17 = .ok (.if_icmp .eq 40, 3) := by decide +kernel
theorem d38_57 : decode jdk_52_method_16_code 57 = .ok (.aload_n 3, 1) := by decide +kernel
theorem d38_58 : decode jdk_52_method_16_code 58 = .ok (.areturn, 1) := by decide +kernel
theorem d39_0 : decode jdk_52_method_21_code 0 = .ok (.iconst 0, 1) := by decide +kernel
theorem d39_1 : decode jdk_52_method_21_code 1 = .ok (.istore 5, 2) := by decide +kernel
theorem d39_3 : decode jdk_52_method_21_code 3 = .ok (.iload 5, 2) := by decide +kernel
theorem d39_5 : decode jdk_52_method_21_code 5 = .ok (.iload 4, 2) := by decide +kernel
theorem d39_7 : decode jdk_52_method_21_code 7 = .ok (.if_icmp .ge 37, 3) := by decide +kernel
theorem d39_10 : decode jdk_52_method_21_code 10 = .ok (.aload_n 0, 1) := by decide +kernel
theorem d39_11 : decode jdk_52_method_21_code 11 = .ok (.iload_n 1, 1) := by decide +kernel
theorem d39_12 : decode jdk_52_method_21_code 12 = .ok (.caload, 1) := by decide +kernel
theorem d39_13 : decode jdk_52_method_21_code 13 = .ok (.istore 6, 2) := by decide +kernel
theorem d39_15 : decode jdk_52_method_21_code 15 = .ok (.iload 6, 2) := by decide +kernel
theorem d39_17 : decode jdk_52_method_21_code 17 = .ok (.sipush 255, 3) := by decide +kernel
theorem d39_20 : decode jdk_52_method_21_code 20 = .ok (.if_icmp .le 6, 3) := by decide +kernel
theorem d39_26 : decode jdk_52_method_21_code 26 = .ok (.aload_n 2, 1) := by decide +kernel
theorem d39_27 : decode jdk_52_method_21_code 27 = .ok (.iload_n 3, 1) := by decide +kernel
theorem d39_28 : decode jdk_52_method_21_code 28 = .ok (.iload 6, 2) := by decide +kernel
theorem d39_30 : decode jdk_52_method_21_code 30 = .ok (.i2b, 1) := by decide +kernel
theorem d39_31 : decode jdk_52_method_21_code 31 = .ok (.bastore, 1) := by decide +kernel
theorem d39_32 : decode jdk_52_method_21_code 32 = .ok (.iinc 1 1, 3) := by decide +kernel
theorem d39_35 : decode jdk_52_method_21_code 35 = .ok (.iinc 3 1, 3) := by decide +kernel
theorem d39_38 : decode jdk_52_method_21_code 38 = .ok (.iinc 5 1, 3) := by decide +kernel
theorem d39_41 : decode jdk_52_method_21_code 41 = .ok (.goto (-38), 3) := by decide +kernel
theorem d39_44 : decode jdk_52_method_21_code 44 = .ok (.iload 4, 2) := by decide +kernel
theorem d39_46 : decode jdk_52_method_21_code 46 = .ok (.ireturn, 1) := by decide +kernel
theorem d40_0 : decode jdk_52_method_15_code 0 = .ok (.iload_n 1, 1) := by decide +kernel
theorem d40_1 : decode jdk_52_method_15_code 1 = .ok (.aload_n 0, 1) := by decide +kernel
theorem d40_2 : decode jdk_52_method_15_code 2 = .ok (.arraylength, 1) := by decide +kernel
theorem d40_3 : decode jdk_52_method_15_code 3 = .ok (.isub, 1) := by decide +kernel
theorem d40_4 : decode jdk_52_method_15_code 4 = .ok (.bipush 31, 2) := by decide +kernel
theorem d40_6 : decode jdk_52_method_15_code 6 = .ok (.iushr, 1) := by decide +kernel
theorem d40_7 : decode jdk_52_method_15_code 7 = .ok (.i2b, 1) := by decide +kernel
theorem d40_8 : decode jdk_52_method_15_code 8 = .ok (.ireturn, 1) := by decide +kernel
theorem d41_0 : decode method_5_code 0 = .ok (.iload_n 1, 1) := by decide +kernel
theorem d41_1 : decode method_5_code 1 = .ok (.ifCond .ge 5, 3) := by decide +kernel
theorem d41_6 : decode method_5_code 6 = .ok (.iload_n 1, 1) := by decide +kernel
theorem d41_7 : decode method_5_code 7 = .ok (.istore_n 3, 1) := by decide +kernel
theorem d41_8 : decode method_5_code 8 = .ok (.iload_n 2, 1) := by decide +kernel
theorem d41_9 : decode method_5_code 9 = .ok (.bipush 34, 2) := by decide +kernel
theorem d41_11 : decode method_5_code 11 = .ok (.if_icmp .eq 9, 3) := by decide +kernel
theorem d41_14 : decode method_5_code 14 = .ok (.iload_n 2, 1) := by decide +kernel
theorem d41_15 : decode method_5_code 15 = .ok (.bipush 92, 2) := by decide +kernel
theorem d41_17 : decode method_5_code 17 = .ok (.if_icmp .ne 19, 3) := by decide +kernel
theorem d41_20 : decode method_5_code 20 = .ok (.aload_n 0, 1) := by decide +kernel
theorem d41_21 : decode method_5_code 21 = .ok (.iload_n 3, 1) := by decide +kernel
theorem d41_22 : decode method_5_code 22 = .ok (.bipush 92, 2) := by decide +kernel
theorem d41_24 : decode method_5_code 24 = .ok (.invokestatic 21, 3) := by decide +kernel
theorem d41_27 : decode method_5_code 27 = .ok (.ifCond .ne 5, 3) := by decide +kernel
theorem d41_32 : decode method_5_code 32 = .ok (.iload_n 3, 1) := by decide +kernel
theorem d41_33 : decode method_5_code 33 = .ok (.iconst 1, 1) := by decide +kernel
theorem d41_34 : decode method_5_code 34 = .ok (.iadd, 1) := by decide +kernel
theorem d41_35 : decode method_5_code 35 = .ok (.istore_n 3, 1) := by decide +kernel
theorem d41_36 : decode method_5_code 36 = .ok (.aload_n 0, 1) := by decide +kernel
theorem d41_37 : decode method_5_code 37 = .ok (.iload_n 3, 1) := by decide +kernel
theorem d41_38 : decode method_5_code 38 = .ok (.iload_n 2, 1) := by decide +kernel
theorem d41_39 : decode method_5_code 39 = .ok (.invokestatic 21, 3) := by decide +kernel
theorem d41_42 : decode method_5_code 42 = .ok (.ifCond .ne 5, 3) := by decide +kernel
theorem d41_47 : decode method_5_code 47 = .ok (.iload_n 3, 1) := by decide +kernel
theorem d41_48 : decode method_5_code 48 = .ok (.iconst 1, 1) := by decide +kernel
theorem d41_49 : decode method_5_code 49 = .ok (.iadd, 1) := by decide +kernel
theorem d41_50 : decode method_5_code 50 = .ok (.ireturn, 1) := by decide +kernel
theorem own_on {i : Nat} (h : i < 2147483648) : (Int32.ofNat i).toInt = i := Int32.toInt_ofNat_of_lt (by simpa using h)
theorem own_eqi {x y : Int32} (h : x.toInt = y.toInt) : x = y := Int32.toInt_inj.mp h
theorem own_clamp {i : Nat} (h : i < 2147483648) : (Int32.ofNat i).toNatClampNeg = i := by
  rw [Int32.toNatClampNeg, own_on h]; rfl
theorem own_lt {i j : Nat} (hi : i < 2147483648) (hj : j < 2147483648) : Int32.ofNat i < Int32.ofNat j ↔ i < j := by
  rw [Int32.lt_iff_toInt_lt, own_on hi, own_on hj]; omega
theorem own_eq {i j : Nat} (hi : i < 2147483648) (hj : j < 2147483648) : Int32.ofNat i = Int32.ofNat j ↔ i = j := by
  rw [← Int32.toInt_inj, own_on hi, own_on hj]; omega
theorem own_in {i n : Nat} (h : i < n) (hn : n < 2147483648) : ¬ Int32.ofNat i < 0 ∧ Int32.ofNat i < Int32.ofNat n := by
  refine ⟨fun q => ?_, (own_lt (by omega) hn).mpr h⟩
  rw [Int32.lt_iff_toInt_lt, own_on (by omega)] at q
  have : (0 : Int32).toInt = 0 := rfl
  omega
theorem own_succ {i : Nat} (h : i < 2147483647) : Int32.ofNat i + (1 : Int32) = Int32.ofNat (i + 1) := by
  apply own_eqi
  have h1 := c_iadd (Int32.ofNat i) 1
  have h2 := rng32 (Int32.ofNat i + 1)
  rw [own_on (by omega)] at h1 ⊢
  have h3 : (1 : Int32).toInt = 1 := rfl
  push_cast
  omega
theorem own_pred {i : Nat} (h : i < 2147483648) (h0 : 0 < i) : Int32.ofNat i - (1 : Int32) = Int32.ofNat (i - 1) := by
  apply own_eqi
  have h1 := c_isub (Int32.ofNat i) 1
  have h2 := rng32 (Int32.ofNat i - 1)
  rw [own_on h] at h1
  rw [own_on (by omega)]
  have h3 : (1 : Int32).toInt = 1 := rfl
  omega
theorem own_high {i : Nat} (h : i < 1073741824) : (Int32.ofNat i - (1 : Int32)).toInt = (i : Int) - 1 := by
  have h1 := c_isub (Int32.ofNat i) 1
  have h2 := rng32 (Int32.ofNat i - 1)
  rw [own_on (by omega)] at h1
  have h3 : (1 : Int32).toInt = 1 := rfl
  omega
theorem own_mid {i j : Nat} (h : i < j) (hj : j < 1073741824) : ((Int32.ofNat i + (Int32.ofNat j - (1 : Int32))).toUInt32 >>> ((1 : Int32) &&& 31).toUInt32).toInt32 = Int32.ofNat ((i + j - 1) / 2) := by
  apply own_eqi
  have h1 := c_iadd (Int32.ofNat i) (Int32.ofNat j - 1)
  have h2 := rng32 (Int32.ofNat i + (Int32.ofNat j - 1))
  rw [own_on (by omega), own_high hj] at h1
  rw [c_iushr _ 1 1 (by decide) (by decide), own_on (by omega)]
  omega
theorem own_past {i j : Nat} (hi : i < 1073741824) (hj : j < 1073741824) : Int32.ofNat j - (1 : Int32) < Int32.ofNat i ↔ j ≤ i := by
  rw [Int32.lt_iff_toInt_lt, own_high hj, own_on (by omega)]; omega
theorem own_getm {α : Type} (g : α → Value) (l : List α) (d0 : α) (dv : Value) {i : Nat} (hi : i < l.length) (hb : i < 2147483648) : (l.map g).getD (Int32.ofNat i).toNatClampNeg dv = g (l.getD i d0) := by
  rw [own_clamp hb]
  simp [hi]
def own_b8 (c : Int32) : Int32 := c.toInt8.toInt32
def own_by (c : Int32) : Value := .int (own_b8 c)
def own_c (c : Int32) : Prop := ¬ c < 0 ∧ ¬ 255 < c
def own_L (cs : List Int32) : Prop := ∀ c ∈ cs, own_c c
abbrev own_bi (d : Bool) : Int32 := if d then 1 else 0
theorem own_ci {c : Int32} (h : own_c c) : 0 ≤ c.toInt ∧ c.toInt ≤ 255 := by
  obtain ⟨h1, h2⟩ := h
  rw [Int32.lt_iff_toInt_lt] at h1 h2
  have e1 : (0 : Int32).toInt = 0 := rfl
  have e2 : (255 : Int32).toInt = 255 := rfl
  omega
theorem own_ic {c : Int32} (h1 : 0 ≤ c.toInt) (h2 : c.toInt ≤ 255) : own_c c := by
  have e1 : (0 : Int32).toInt = 0 := rfl
  have e2 : (255 : Int32).toInt = 255 := rfl
  refine ⟨fun q => ?_, fun q => ?_⟩ <;> rw [Int32.lt_iff_toInt_lt] at q <;> omega
theorem own_nc {c : Int32} (h : own_c c) : nar .char c = c := by
  apply Int32.toInt_inj.mp
  have h1 := own_ci h
  have h2 := c_i2c c
  show (c.toUInt32.toUInt16.toUInt32.toInt32).toInt = c.toInt
  omega
theorem own_nb (c : Int32) : nar .byte (own_b8 c) = own_b8 c := by
  apply Int32.toInt_inj.mp
  have h1 := c_i2b c
  have h2 := c_i2b (own_b8 c)
  have e : (own_b8 c).toInt = (c.toInt8.toInt32).toInt := rfl
  show ((own_b8 c).toInt8.toInt32).toInt = (own_b8 c).toInt
  omega
theorem own_m255 (x : Int32) : (x &&& 255).toInt = x.toInt % 256 := c_mask x 255 8 (by decide) (by decide)
theorem own_cand (x : Int32) : own_c ((x &&& 255).toUInt32.toUInt16.toUInt32.toInt32) := by
  have h3 := own_m255 x
  have h4 := c_i2c (x &&& 255)
  exact own_ic (by omega) (by omega)
theorem own_cb {c : Int32} (h : own_c c) : nar .char ((own_b8 c &&& 255).toUInt32.toUInt16.toUInt32.toInt32) = c := by
  rw [own_nc (own_cand _)]
  apply Int32.toInt_inj.mp
  have h1 := own_ci h
  have h2 := c_i2b c
  have h3 := own_m255 (own_b8 c)
  have h4 := c_i2c (own_b8 c &&& 255)
  have e : (own_b8 c).toInt = (c.toInt8.toInt32).toInt := rfl
  omega
theorem own_b8inj {c d : Int32} (hc : own_c c) (hd : own_c d) (h : own_b8 c = own_b8 d) : c = d := by
  rw [← own_cb hc, ← own_cb hd, h]
theorem own_shr0 (z : Int32) : z >>> ((0 : Int32) &&& 31) = z := by
  apply Int32.toInt_inj.mp
  rw [c_ishr z 0 0 (by decide)]
  simp
def own_fill (cs : List Int32) (i : Nat) : List Value := (cs.take i).map own_by ++ List.replicate (cs.length - i) (.int 0)
theorem own_fill0 (cs : List Int32) : own_fill cs 0 = List.replicate cs.length (.int 0) := by simp [own_fill]
theorem own_filln (cs : List Int32) : own_fill cs cs.length = cs.map own_by := by simp [own_fill]
theorem own_fill_len {cs : List Int32} {i : Nat} (h : i ≤ cs.length) : (own_fill cs i).length = cs.length := by simp [own_fill]; omega
theorem own_fill_cons (c : Int32) (cs : List Int32) (i : Nat) : own_fill (c :: cs) (i + 1) = own_by c :: own_fill cs i := by simp [own_fill]
theorem own_fill_set : ∀ (cs : List Int32) (i : Nat), i < cs.length → (own_fill cs i).set i (own_by (cs.getD i 0)) = own_fill cs (i + 1)
  | [], _, h => by simp at h
  | c :: cs, 0, _ => by simp [own_fill, List.replicate_succ]
  | c :: cs, i + 1, h => by
    have q := own_fill_set cs i (by simpa using h)
    rw [own_fill_cons, own_fill_cons, List.set_cons_succ, ← q]
    simp
theorem own_getb (cs : List Int32) (i : Nat) : (cs.map own_by).getD i (.int 0) = own_by (cs.getD i 0) := by
  rw [List.getD_eq_getElem?_getD, List.getD_eq_getElem?_getD, List.getElem?_map]; cases cs[i]? <;> rfl
theorem own_geti (cs : List Int32) (i : Nat) : (cs.map Value.int).getD i (.int 0) = .int (cs.getD i 0) := by
  rw [List.getD_eq_getElem?_getD, List.getD_eq_getElem?_getD, List.getElem?_map]; cases cs[i]? <;> rfl
theorem own_eqx {ca cb : List Int32} (hl : ca.length = cb.length) (h : ∀ j, j < ca.length → ca.getD j 0 = cb.getD j 0) : ca = cb := by
  apply List.ext_getElem hl
  intro i q1 q2
  have := h i q1
  simpa [q1, q2] using this
theorem own_Lget {cs : List Int32} (h : own_L cs) (i : Nat) : own_c (cs.getD i 0) := by
  rw [List.getD_eq_getElem?_getD]
  cases q : cs[i]? with
  | none => exact ⟨by decide, by decide⟩
  | some c => exact h c (List.mem_of_getElem? q)
theorem own_bi0 {d : Bool} (h : own_bi d = 0) : d = false := by cases d with | false => rfl | true => exact absurd h (by decide)
theorem own_bi1 {d : Bool} (h : ¬ own_bi d = 0) : d = true := by cases d with | true => rfl | false => exact absurd rfl h
theorem own_cfal (z : Int32) : nar .byte (((z - z).toUInt32 >>> ((31 : Int32) &&& 31).toUInt32).toInt32.toInt8.toInt32) = 0 := by rw [Int32.sub_self]; decide
theorem own_Ln : own_L [] := fun c h => by cases h
theorem own_Lc {c : Int32} {cs : List Int32} (h : own_c c) (hs : own_L cs) : own_L (c :: cs) := fun d hd => by
  rcases List.mem_cons.mp hd with rfl | q
  · exact h
  · exact hs d q
theorem own_Ltake {X : List Int32} {j : Nat} (h : own_L X) : own_L (List.take j X) := fun c hc => h c (List.mem_of_mem_take hc)
theorem own_Lset {X : List Int32} {j : Nat} {c : Int32} (h : own_L X) (hc : own_c c) : own_L (X.set j c) := fun d hd => by
  rcases List.mem_or_eq_of_mem_set hd with q | rfl
  · exact h d q
  · exact hc
theorem own_idx {i : Nat} {l : List Int32} (h : i < l.length) (hl : l.length < 2147483648) : ¬ Int32.ofNat i < 0 ∧ Int32.ofNat i < Int32.ofNat l.length := own_in h hl
abbrev own_nil : List Int32 := []
theorem own_shl0 (z : Int32) : z <<< ((0 : Int32) &&& 31) = z := by
  have e : ((0 : Int32) &&& 31) = 0 := by decide
  rw [e]; exact Int32.shiftLeft_zero
theorem own_nn {i : Nat} (h : i < 2147483648) : ¬ Int32.ofNat i < 0 := fun q => by
  rw [Int32.lt_iff_toInt_lt, own_on h] at q
  have : (0 : Int32).toInt = 0 := rfl
  omega
theorem own_c0 : (0 : Int32).toNatClampNeg = 0 := by decide
theorem own_addn (a b : Nat) : Int32.ofNat a + Int32.ofNat b = Int32.ofNat (a + b) := (Int32.ofNat_add a b).symm
theorem own_addl (a b : List Int32) : Int32.ofNat a.length + Int32.ofNat b.length = Int32.ofNat (a ++ b).length := by rw [own_addn, List.length_append]
theorem own_snl (a : List Int32) (c : Int32) : Int32.ofNat a.length + (1 : Int32) = Int32.ofNat (a ++ [c]).length := own_addl a [c]
theorem own_subn {m c : Nat} (h : m ≤ c) (hc : c < 2147483648) : ¬ (0 : Int32) < Int32.ofNat m - Int32.ofNat c := by
  have h1 := c_isub (Int32.ofNat m) (Int32.ofNat c)
  have h2 := rng32 (Int32.ofNat m - Int32.ofNat c)
  rw [own_on (by omega), own_on hc] at h1
  have h3 : (0 : Int32).toInt = 0 := rfl
  rw [Int32.lt_iff_toInt_lt]
  omega
theorem own_sub0 (x : Int32) : x - (0 : Int32) = x := Int32.sub_zero x
def own_sb (cl : List Int32) (cap : Nat) : List Value := cl.map own_by ++ List.replicate (cap - cl.length) (.int 0)
theorem own_sb0 (cap : Nat) : own_sb [] cap = List.replicate cap (.int 0) := by simp [own_sb]
theorem own_sbl {cl : List Int32} {cap : Nat} (h : cl.length ≤ cap) : (own_sb cl cap).length = cap := by simp [own_sb]; omega
theorem own_sbapp {cl dl : List Int32} {cap : Nat} (h : cl.length + dl.length ≤ cap) : (own_sb cl cap).take cl.length ++ dl.map own_by ++ (own_sb cl cap).drop (cl.length + dl.length) = own_sb (cl ++ dl) cap := by
  have e1 : (own_sb cl cap).take cl.length = cl.map own_by := by
    rw [own_sb, List.take_append_of_le_length (by simp), List.take_of_length_le (by simp)]
  have e2 : (own_sb cl cap).drop (cl.length + dl.length) = List.replicate (cap - (cl ++ dl).length) (.int 0) := by
    rw [own_sb, List.drop_append, List.drop_eq_nil_of_le (by simp), List.nil_append, List.drop_replicate]
    congr 1
    simp
    omega
  rw [e1, e2]
  simp [own_sb]
theorem own_sbset {cl : List Int32} {c : Int32} {cap : Nat} (h : cl.length < cap) : (own_sb cl cap).set cl.length (own_by c) = own_sb (cl ++ [c]) cap := by
  have e : cap - cl.length = (cap - (cl ++ [c]).length) + 1 := by simp; omega
  rw [own_sb, own_sb, e, List.set_append_right _ _ (by simp), List.length_map, Nat.sub_self, List.replicate_succ, List.set_cons_zero]
  simp
theorem own_cp5 {a b c : Nat} (h : a + b ≤ c) (hc : c < 2147483648) : (Int32.ofNat a).toNatClampNeg + (Int32.ofNat b).toNatClampNeg ≤ (Int32.ofNat c).toNatClampNeg := by
  rw [own_clamp (by omega), own_clamp (by omega), own_clamp hc]; exact h
theorem own_cp5z {b c : Nat} (h : b ≤ c) (hc : c < 2147483648) : (0 : Int32).toNatClampNeg + (Int32.ofNat b).toNatClampNeg ≤ (Int32.ofNat c).toNatClampNeg := by
  rw [own_c0, own_clamp (by omega), own_clamp hc]; omega
theorem own_us0 {l m : List Value} {n : Nat} {d : Value} (hm : m = l.take n) (hn : n ≤ l.length) (hb : n < 2147483648) : m = (List.range (Int32.ofNat n).toNatClampNeg).map fun i => l.getD ((0 : Int32).toNatClampNeg + i) d := by
  subst hm
  rw [own_c0, own_clamp hb]
  apply List.ext_getElem
  · simp; omega
  · intro i h1 h2
    simp at h1 h2 ⊢
    rw [List.getElem?_eq_getElem (by omega)]
    rfl
theorem own_sbtake {cl : List Int32} {cap : Nat} (h : cl.length ≤ cap) : cl.map own_by = (own_sb cl cap).take cl.length := by
  rw [own_sb, List.take_append_of_le_length (by simp), List.take_of_length_le (by simp)]
theorem own_cpfull {us : List Value} {n : Nat} (h : us.length = n) : (List.replicate n (Value.int 0)).take 0 ++ us ++ (List.replicate n (Value.int 0)).drop (0 + n) = us := by simp
theorem own_wS {Z : State} {a0 : Array Value} (hw : ∀ d ∈ tables_1, d.before a0 Z = true) : ∀ a ∈ Bundle.stringAtoms, a.before a0 Z = true := by
  intro a ha
  simp only [Bundle.stringAtoms, List.mem_cons, List.not_mem_nil, or_false] at ha
  rcases ha with rfl | rfl | rfl | rfl | rfl | rfl | rfl
  · exact (w10 hw)
  · exact (w9 hw)
  · exact (w23 hw)
  · exact (w24 hw)
  · exact (w25 hw)
  · exact (w26 hw)
  · exact (w27 hw)
def own_HE (f : Int32 → Option Value) : Nat → List Value → Prop
  | _, [] => True
  | i, v :: r => f (Int32.ofNat i) = some v ∧ own_HE f (i + 1) r
theorem own_eqI {t : Term} {n : Int32} {args : Array Value} {s : State} (h : (Cond.eq t (.int n)).value args s none s [] = some true) : t.eval args s none [] s = some (.int n) := by
  have hn : (Term.int n).eval args s none [] s = some (.int n) := rfl
  simp only [Cond.value] at h
  rw [hn] at h
  cases hv : t.eval args s none [] s with
  | none => simp [hv] at h
  | some v =>
    cases v with
    | int x => simp [hv] at h; rw [h]
    | _ => simp [hv] at h
theorem own_eqR {t u : Term} {y : Addr} {args : Array Value} {s : State} (h : (Cond.eq t u).value args s none s [] = some true) (hu : u.eval args s none [] s = some (.ref y)) : t.eval args s none [] s = some (.ref y) := by
  simp only [Cond.value] at h
  rw [hu] at h
  cases hv : t.eval args s none [] s with
  | none => simp [hv] at h
  | some v =>
    cases v with
    | ref x => simp [hv] at h; rw [h]
    | _ => simp [hv] at h
theorem own_HL {args : Array Value} {s : State} {t : Term} {a : Addr} {c : Cell} (ev : t.eval args s none [] s = some (.ref a)) (hc : s.heap[a]? = some c) : ∀ (vs : List Value) (i : Nat), i + vs.length < 2147483648 → own_HE (fun j => (Term.elem t (.int j)).eval args s none [] s) i vs → HasL c i vs
  | [], _, _, _ => trivial
  | v :: r, i, hi, H => by
    have hi' : i + 1 + r.length < 2147483648 := by simp at hi; omega
    have q := (elem_in H.1 ev (j := Int32.ofNat i) rfl hc).2
    rw [own_clamp (by omega)] at q
    exact ⟨q, own_HL ev hc r (i + 1) hi' H.2⟩
theorem own_sz {args : Array Value} {s : State} {t : Term} {a : Addr} {c : Cell} {z : Int32} (ev : t.eval args s none [] s = some (.ref a)) (ha : s.arrayAt? a = some c) (h2 : (Term.length t).eval args s none [] s = some (.int z)) : c.slots.size < 2 ^ 31 ∧ c.slots.size.toInt32 = z := by
  have hq : c.slots.size < 2 ^ 31 := by
    by_cases q : c.slots.size < 2147483648
    · exact q
    · simp [Term.eval, ev, ha, q] at h2
  have e := h2.symm.trans (len_f ev ha hq)
  exact ⟨hq, (Value.int.inj (Option.some.inj e)).symm⟩
theorem own_arv0 {args : Array Value} {s : State} {t : Term} {a : Addr} {ty : FieldType} {z : Int32} {vs : List Value} {dv : Value} (hf : Fit s) (ev : t.eval args s none [] s = some (.ref a)) (h1 : (Cond.arrayOf t ty).value args s none s [] = some true) (h2 : (Term.length t).eval args s none [] s = some (.int z)) (hz : ¬ z < 0) (hl : z.toNatClampNeg = vs.length) (hb : vs.length < 2147483648) (H : own_HE (fun j => (Term.elem t (.int j)).eval args s none [] s) 0 vs) : ∃ q, Arv s s.heap a q ty z vs dv := by
  obtain ⟨c, A⟩ := Arr.start ev h1
  have ha : s.arrayAt? a = some c := Arr.fin (Vm.Alike.refl _) A
  obtain ⟨hq, e⟩ := own_sz ev ha h2
  exact ⟨c.cls, Arv.start hf A hq e hz hl (own_HL ev A.1 vs 0 (by omega) H)⟩
def own_mkl : Nat → Int32 → Int32 → Int32 → List Int32
  | 0, _, _, _ => []
  | 1, x, _, _ => [x]
  | 2, x, y, _ => [x, y]
  | _ + 3, x, y, z => [x, y, z]
theorem own_mkn {n : Nat} {x y z : Int32} (h : n ≤ 3) : (own_mkl n x y z).length = n := by
  rcases (show n = 0 ∨ n = 1 ∨ n = 2 ∨ n = 3 by omega) with rfl | rfl | rfl | rfl <;> rfl
theorem own_mkP {P : Int32 → Prop} {n : Nat} {x y z : Int32} (hx : P x) (hy : P y) (hz : P z) : ∀ c ∈ own_mkl n x y z, P c := by
  intro c hc
  match n with
  | 0 => simp [own_mkl] at hc
  | 1 => simp [own_mkl] at hc; subst hc; exact hx
  | 2 => simp [own_mkl] at hc; rcases hc with rfl | rfl <;> assumption
  | _ + 3 => simp [own_mkl] at hc; rcases hc with rfl | rfl | rfl <;> assumption
theorem own_and3 (x : Int32) : ∃ n : Nat, n ≤ 3 ∧ x &&& (3 : Int32) = Int32.ofNat n := by
  have h1 : (x &&& (3 : Int32)).toInt = x.toInt % 4 := c_mask x 3 2 (by decide) (by decide)
  refine ⟨(x &&& (3 : Int32)).toInt.toNat, by omega, own_eqi ?_⟩
  rw [own_on (by omega)]
  omega
abbrev own_p (c : Int32) : Prop := ¬ c < 32 ∧ ¬ 126 < c
theorem own_pc {c : Int32} (h : own_p c) : own_c c := by
  obtain ⟨h1, h2⟩ := h
  rw [Int32.lt_iff_toInt_lt] at h1 h2
  have e1 : (32 : Int32).toInt = 32 := rfl
  have e2 : (126 : Int32).toInt = 126 := rfl
  exact own_ic (by omega) (by omega)
theorem own_pr (v : Int32) : own_p (nar .char (((32 : Int32) + ((v &&& (2147483647 : Int32)) % (95 : Int32))).toUInt32.toUInt16.toUInt32.toInt32)) := by
  have h1 : (v &&& (2147483647 : Int32)).toInt = v.toInt % 2147483648 := c_mask v 2147483647 31 (by decide) (by decide)
  have h2 := (c_irem (v &&& (2147483647 : Int32)) 95 95 rfl).1 (by omega)
  have h3 := c_iadd 32 ((v &&& (2147483647 : Int32)) % 95)
  have h5 := rng32 ((32 : Int32) + ((v &&& (2147483647 : Int32)) % 95))
  have h4 := c_i2c ((32 : Int32) + ((v &&& (2147483647 : Int32)) % 95))
  have e1 : (32 : Int32).toInt = 32 := rfl
  have e2 : (126 : Int32).toInt = 126 := rfl
  have hc : own_c (((32 : Int32) + ((v &&& (2147483647 : Int32)) % (95 : Int32))).toUInt32.toUInt16.toUInt32.toInt32) := own_ic (by omega) (by omega)
  rw [own_nc hc]
  refine ⟨?_, ?_⟩ <;> rw [Int32.lt_iff_toInt_lt] <;> omega
def own_esc (c : Int32) : List Int32 := if c = 34 ∨ c = 92 then [92, c] else [c]
theorem own_esc1 {c : Int32} (h : c = 34 ∨ c = 92) : own_esc c = [92, c] := if_pos h
theorem own_esc0 {c : Int32} (h1 : ¬ c = 34) (h2 : ¬ c = 92) : own_esc c = [c] := if_neg (fun q => q.elim h1 h2)
theorem own_escl (c : Int32) : (own_esc c).length ≤ 2 := by unfold own_esc; split <;> simp
theorem own_escL {c : Int32} (h : own_c c) : own_L (own_esc c) := by
  unfold own_esc
  split
  · exact own_Lc ⟨by decide, by decide⟩ (own_Lc h own_Ln)
  · exact own_Lc h own_Ln
abbrev own_lit : List Int32 := [32, 114, 101, 97, 108, 109, 61, 34]
def own_B (S R : List Int32) (i : Nat) : List Int32 := (S ++ own_lit) ++ (R.take i).flatMap own_esc
theorem own_B0 (S R : List Int32) : own_B S R 0 = S ++ own_lit := by simp [own_B]
theorem own_Bs {S R : List Int32} {i : Nat} (h : i < R.length) : own_B S R (i + 1) = own_B S R i ++ own_esc (R.getD i 0) := by
  have e : R.take (i + 1) = R.take i ++ [R.getD i 0] := by
    rw [List.take_succ_eq_append_getElem h]; simp [h]
  simp [own_B, e, List.flatMap_append]
theorem own_fml : ∀ R : List Int32, (R.flatMap own_esc).length ≤ 2 * R.length
  | [] => by simp
  | c :: R => by
    have h1 := own_fml R
    have h2 := own_escl c
    simp only [List.flatMap_cons, List.length_append, List.length_cons]
    omega
theorem own_Bl (S R : List Int32) (i : Nat) : (own_B S R i).length ≤ S.length + 8 + 2 * i := by
  have h1 := own_fml (R.take i)
  have h2 : (R.take i).length ≤ i := by simp; omega
  simp only [own_B, List.length_append]
  have h3 : own_lit.length = 8 := rfl
  omega
def own_tail : List Int32 → List Int32
  | [] => [34]
  | c :: R => own_esc c ++ own_tail R
theorem own_tl : ∀ R : List Int32, R.flatMap own_esc ++ [34] = own_tail R
  | [] => rfl
  | c :: R => by rw [List.flatMap_cons, List.append_assoc, own_tl R]; rfl
def own_X (S R : List Int32) : List Int32 := own_B S R R.length ++ [34]
theorem own_Xe (S R : List Int32) : own_X S R = S ++ (own_lit ++ own_tail R) := by
  rw [own_X, own_B, List.take_length, List.append_assoc, own_tl, List.append_assoc]
theorem own_Lapp {A B : List Int32} (h1 : own_L A) (h2 : own_L B) : own_L (A ++ B) := fun c hc => (List.mem_append.mp hc).elim (h1 c) (h2 c)
theorem own_tailL : ∀ {R : List Int32}, own_L R → own_L (own_tail R)
  | [], _ => own_Lc ⟨by decide, by decide⟩ own_Ln
  | c :: R, h => own_Lapp (own_escL (h c (by simp))) (own_tailL fun d hd => h d (by simp [hd]))
theorem own_litL : own_L own_lit := by
  intro c hc
  simp at hc
  rcases hc with rfl | rfl | rfl | rfl | rfl | rfl | rfl | rfl <;> exact ⟨by decide, by decide⟩
theorem own_Xl {S R : List Int32} (h1 : S.length ≤ 3) (h2 : R.length ≤ 3) : (own_X S R).length ≤ 24 := by
  have := own_Bl S R R.length
  simp only [own_X, List.length_append, List.length_singleton]
  omega
theorem own_XL {S R : List Int32} (h1 : own_L S) (h2 : own_L R) : own_L (own_X S R) := by rw [own_Xe]; exact own_Lapp h1 (own_Lapp own_litL (own_tailL h2))
theorem own_pget {P : Int32 → Prop} {R : List Int32} {i : Nat} (h : ∀ c ∈ R, P c) (hi : i < R.length) : P (R.getD i 0) := by
  have e : R.getD i 0 = R[i] := by simp [hi]
  rw [e]; exact h _ (List.getElem_mem hi)
theorem own_getA {X A B : List Int32} {c : Int32} {p : Nat} (h : X = A ++ c :: B) (hp : A.length = p) : X.getD p 0 = c := by
  subst hp; rw [h]; simp
theorem own_ltA {X A B : List Int32} {c : Int32} {p : Nat} (h : X = A ++ c :: B) (hp : A.length = p) : p < X.length := by
  subst hp; rw [h]; simp
theorem own_getk {S T : List Int32} {n k : Nat} {c : Int32} (h : S.length = n) (hT : T.getD k 0 = c) : (S ++ T).getD (n + k) 0 = c := by
  subst h hT
  rw [List.getD_eq_getElem?_getD, List.getD_eq_getElem?_getD, List.getElem?_append_right (by omega), Nat.add_sub_cancel_left]
theorem own_escne (c : Int32) (B : List Int32) : ∃ d D, own_esc c ++ B = d :: D := by
  unfold own_esc; split <;> exact ⟨_, _, rfl⟩
theorem ef_s_cod (m : MethodId) (x0 : Addr) : entryFrame m #[(.ref x0)] 1 = mkF m 0 #[.val (.ref x0)] [] := by first | (simp [entryFrame, mkF, argsToLocals, Value.category]; done) | rfl
abbrev b_s_cod : Bdy := ((⟨"java/lang/String", "coder", "()B"⟩ : MethodName), jdk_42_method_152_code, 1, (Option.some Jvm.ClassFile.FieldType.byte), ({ frames := 0, cells := 0, slots := 0, locals := 0 } : Room))
def Q_s_cod (Z : State) (N : Nat) (a : Addr) (cs : Int32) (h0 : Heap) (I : Lts) (v : Option Value) (h : Heap) (J : Lts) : Prop := I = J ∧ v = some (.int (0 : Int32)) ∧ h0 = h
set_option maxRecDepth 65536 in
set_option maxHeartbeats 40000000 in
theorem rm_s_cod {l : Launch} {Z : State} {a0 : Array Value} {N : Nat} (hw : ∀ d ∈ tables_1, d.before a0 Z = true) (a : Addr) (cs : Int32) (h0 : Heap) (I : Lts) (P0 : Sta Z Z.heap "java/lang/String" "COMPACT_STRINGS" "Z" (.int cs)) (G_cs : ¬ cs = (0 : Int32)) (P2 : Fld Z h0 a "java/lang/String" "coder" "B" (.int (0 : Int32))) :
    Cn l Z N b_s_cod #[(.ref a)] h0 I (Q_s_cod Z N a cs h0 I) := by
  refine Cn.of_wk (Ls := #[.val (.ref a)]) (plainFor_of_name (by first | (simp [plainName, overriddenIn]; done) | decide +kernel)) (fun m => ef_s_cod m a) ?_
  refine Wk.getS (a0 := a0) (pc' := 3) (host := "") (Or.inl (w57 hw)) Via.refl P0 d10_0 rfl ?_
  refine Wk.if_eqN (pc' := 6) d10_3 rfl G_cs ?_
  refine Wk.aloadN (pc' := 7) d10_6 rfl rfl rfl ?_
  refine Wk.getF (a0 := a0) (pc' := 10) (host := "") (Or.inl (w29 hw)) Via.refl P2 d10_7 rfl ?_
  refine Wk.goto (pc' := 14) d10_10 (by decide) ?_
  exact Wk.zreturn rfl (by simp) d10_14 (Nat.le_of_ble_eq_true rfl) (Nat.le_of_ble_eq_true rfl) ⟨rfl, rfl, rfl⟩
theorem ef_s_len (m : MethodId) (x0 : Addr) : entryFrame m #[(.ref x0)] 1 = mkF m 0 #[.val (.ref x0)] [] := by first | (simp [entryFrame, mkF, argsToLocals, Value.category]; done) | rfl
abbrev b_s_len : Bdy := ((⟨"java/lang/String", "length", "()I"⟩ : MethodName), jdk_42_method_54_code, 1, (Option.some Jvm.ClassFile.FieldType.int), ({ frames := 1, cells := 0, slots := 0, locals := 13 } : Room))
def Q_s_len (Z : State) (N : Nat) (a : Addr) (v' : Addr) (q : ClassId) (cl : List Int32) (cs : Int32) (h0 : Heap) (I : Lts) (v : Option Value) (h : Heap) (J : Lts) : Prop := I = J ∧ v = some (.int (Int32.ofNat cl.length)) ∧ h0 = h
set_option maxRecDepth 65536 in
set_option maxHeartbeats 40000000 in
theorem rm_s_len {l : Launch} {Z : State} {a0 : Array Value} {N : Nat} (hw : ∀ d ∈ tables_1, d.before a0 Z = true) (a : Addr) (v' : Addr) (q : ClassId) (cl : List Int32) (cs : Int32) (h0 : Heap) (I : Lts) (P0 : Sta Z Z.heap "java/lang/String" "COMPACT_STRINGS" "Z" (.int cs)) (G_cs : ¬ cs = (0 : Int32)) (P2 : Exa Z h0 a "java/lang/String") (P3 : Fld Z h0 a "java/lang/String" "value" "[B" (.ref v')) (P4 : Fld Z h0 a "java/lang/String" "coder" "B" (.int (0 : Int32))) (P5 : Arv Z h0 v' q .byte (Int32.ofNat cl.length) (cl.map own_by) (.int (0 : Int32))) :
    Cn l Z N b_s_len #[(.ref a)] h0 I (Q_s_len Z N a v' q cl cs h0 I) := by
  refine Cn.of_wk (Ls := #[.val (.ref a)]) (plainFor_of_name (by first | (simp [plainName, overriddenIn]; done) | decide +kernel)) (fun m => ef_s_len m a) ?_
  refine Wk.aloadN (pc' := 1) d9_0 rfl rfl rfl ?_
  refine Wk.getF (a0 := a0) (pc' := 4) (host := "") (Or.inl (w28 hw)) Via.refl P3 d9_1 rfl ?_
  refine Wk.arraylength (pc' := 5) P5 d9_4 rfl ?_
  refine Wk.aloadN (pc' := 6) d9_5 rfl rfl rfl ?_
  refine Wk.callV (a0 := a0) (pc' := 9) (k' := 0) (n' := 0) (W := 1) (b := b_s_cod) (argsL := []) (rest := [(.int (Int32.ofNat cl.length))]) (y := (⟨"java/lang/String", "coder", "()B"⟩ : MethodName)) (rm_s_cod hw a cs h0 I P0 G_cs P4) P2 (w52 hw) (w53 hw) (w55 hw) (w55 hw) (w54 hw) (w10 hw) (w56 hw) (by decide) (Nat.le_refl _) id (Nat.le_of_ble_eq_true rfl) (Nat.le_of_ble_eq_true rfl) rfl rfl (Nat.le_of_ble_eq_true rfl) (Nat.le_of_ble_eq_true rfl) rfl pd0 rfl rfl rfl (Nat.le_of_ble_eq_true rfl) d9_6 rfl fun v1 h2 J3 hs4 hQ5 => ?_
  obtain ⟨rfl, rfl, rfl⟩ := hQ5
  show Wk _ h0 0 0 I 9 #[.val (.ref a)] [(.int (0 : Int32)), (.int (Int32.ofNat cl.length))]
  refine Wk.ishr (pc' := 10) d9_9 rfl ?_
  exact Wk.ireturn rfl d9_10 (Nat.le_of_ble_eq_true rfl) (Nat.le_of_ble_eq_true rfl) ⟨rfl, (by rw [own_shr0]), rfl⟩
theorem ef_s_lat (m : MethodId) (x0 : Addr) : entryFrame m #[(.ref x0)] 1 = mkF m 0 #[.val (.ref x0)] [] := by first | (simp [entryFrame, mkF, argsToLocals, Value.category]; done) | rfl
abbrev b_s_lat : Bdy := ((⟨"java/lang/String", "isLatin1", "()Z"⟩ : MethodName), jdk_42_method_154_code, 1, (Option.some Jvm.ClassFile.FieldType.boolean), ({ frames := 0, cells := 0, slots := 0, locals := 0 } : Room))
def Q_s_lat (Z : State) (N : Nat) (a : Addr) (cs : Int32) (h0 : Heap) (I : Lts) (v : Option Value) (h : Heap) (J : Lts) : Prop := I = J ∧ v = some (.int (1 : Int32)) ∧ h0 = h
set_option maxRecDepth 65536 in
set_option maxHeartbeats 40000000 in
theorem rm_s_lat {l : Launch} {Z : State} {a0 : Array Value} {N : Nat} (hw : ∀ d ∈ tables_1, d.before a0 Z = true) (a : Addr) (cs : Int32) (h0 : Heap) (I : Lts) (P0 : Sta Z Z.heap "java/lang/String" "COMPACT_STRINGS" "Z" (.int cs)) (G_cs : ¬ cs = (0 : Int32)) (P2 : Fld Z h0 a "java/lang/String" "coder" "B" (.int (0 : Int32))) :
    Cn l Z N b_s_lat #[(.ref a)] h0 I (Q_s_lat Z N a cs h0 I) := by
  refine Cn.of_wk (Ls := #[.val (.ref a)]) (plainFor_of_name (by first | (simp [plainName, overriddenIn]; done) | decide +kernel)) (fun m => ef_s_lat m a) ?_
  refine Wk.getS (a0 := a0) (pc' := 3) (host := "") (Or.inl (w57 hw)) Via.refl P0 d34_0 rfl ?_
  refine Wk.if_eqN (pc' := 6) d34_3 rfl G_cs ?_
  refine Wk.aloadN (pc' := 7) d34_6 rfl rfl rfl ?_
  refine Wk.getF (a0 := a0) (pc' := 10) (host := "") (Or.inl (w29 hw)) Via.refl P2 d34_7 rfl ?_
  refine Wk.if_neN (pc' := 13) d34_10 rfl rfl ?_
  refine Wk.iconst (pc' := 14) (v := 1) d34_13 rfl rfl ?_
  refine Wk.goto (pc' := 18) d34_14 (by decide) ?_
  exact Wk.zreturn rfl (by simp) d34_18 (Nat.le_of_ble_eq_true rfl) (Nat.le_of_ble_eq_true rfl) ⟨rfl, rfl, rfl⟩
theorem ef_s_chk (m : MethodId) (x0 : Int32) (x1 : Int32) (x2 : Value) (r2 : x2.isRef = true) : entryFrame m #[(.int x0), (.int x1), x2] 3 = mkF m 0 #[.val (.int x0), .val (.int x1), .val x2] [] := by
  cases x2 <;> first | (simp [Value.isRef] at r2; done) | (simp [entryFrame, mkF, argsToLocals, Value.category]; done) | rfl
abbrev b_s_chk : Bdy := ((⟨"jdk/internal/util/Preconditions", "checkIndex", "(IILjava/util/function/BiFunction;)I"⟩ : MethodName), jdk_41_method_11_code, 3, (Option.some Jvm.ClassFile.FieldType.int), ({ frames := 0, cells := 0, slots := 0, locals := 0 } : Room))
def Q_s_chk (Z : State) (N : Nat) (i : Int32) (n : Int32) (sf : Value) (h0 : Heap) (I : Lts) (v : Option Value) (h : Heap) (J : Lts) : Prop := I = J ∧ v = some (.int i) ∧ h0 = h
set_option maxRecDepth 65536 in
set_option maxHeartbeats 40000000 in
theorem rm_s_chk {l : Launch} {Z : State} {a0 : Array Value} {N : Nat} (hw : ∀ d ∈ tables_1, d.before a0 Z = true) (i : Int32) (n : Int32) (sf : Value) (h0 : Heap) (I : Lts) (G_sf : sf.isRef = true) (h1 : ¬ i < (0 : Int32)) (h2 : i < n) :
    Cn l Z N b_s_chk #[(.int i), (.int n), sf] h0 I (Q_s_chk Z N i n sf h0 I) := by
  refine Cn.of_wk (Ls := #[.val (.int i), .val (.int n), .val sf]) (plainFor_of_name (by first | (simp [plainName, overriddenIn]; done) | decide +kernel)) (fun m => ef_s_chk m i n sf G_sf) ?_
  refine Wk.iloadN (pc' := 1) d37_0 rfl rfl ?_
  refine Wk.if_ltN (pc' := 4) d37_1 rfl h1 ?_
  refine Wk.iloadN (pc' := 5) d37_4 rfl rfl ?_
  refine Wk.iloadN (pc' := 6) d37_5 rfl rfl ?_
  refine Wk.icmp_ltY (pc' := 16) d37_6 (by decide) h2 ?_
  refine Wk.iloadN (pc' := 17) d37_16 rfl rfl ?_
  exact Wk.ireturn rfl d37_17 (Nat.le_of_ble_eq_true rfl) (Nat.le_of_ble_eq_true rfl) ⟨rfl, rfl, rfl⟩
theorem ef_s_chk2 (m : MethodId) (x0 : Int32) (x1 : Int32) : entryFrame m #[(.int x0), (.int x1)] 2 = mkF m 0 #[.val (.int x0), .val (.int x1)] [] := by first | (simp [entryFrame, mkF, argsToLocals, Value.category]; done) | rfl
abbrev b_s_chk2 : Bdy := ((⟨"java/lang/String", "checkIndex", "(II)V"⟩ : MethodName), jdk_42_method_155_code, 2, (Option.none : Option Jvm.ClassFile.FieldType), ({ frames := 1, cells := 0, slots := 0, locals := 14 } : Room))
def Q_s_chk2 (Z : State) (N : Nat) (i : Int32) (n : Int32) (sf : Value) (h0 : Heap) (I : Lts) (v : Option Value) (h : Heap) (J : Lts) : Prop := I = J ∧ v = none ∧ h0 = h
set_option maxRecDepth 65536 in
set_option maxHeartbeats 40000000 in
theorem rm_s_chk2 {l : Launch} {Z : State} {a0 : Array Value} {N : Nat} (hw : ∀ d ∈ tables_1, d.before a0 Z = true) (i : Int32) (n : Int32) (sf : Value) (h0 : Heap) (I : Lts) (P0 : Sta Z Z.heap "jdk/internal/util/Preconditions" "SIOOBE_FORMATTER" "Ljava/util/function/BiFunction;" sf) (G_sf : sf.isRef = true) (h1 : ¬ i < (0 : Int32)) (h2 : i < n) :
    Cn l Z N b_s_chk2 #[(.int i), (.int n)] h0 I (Q_s_chk2 Z N i n sf h0 I) := by
  refine Cn.of_wk (Ls := #[.val (.int i), .val (.int n)]) (plainFor_of_name (by first | (simp [plainName, overriddenIn]; done) | decide +kernel)) (fun m => ef_s_chk2 m i n) ?_
  refine Wk.iloadN (pc' := 1) d36_0 rfl rfl ?_
  refine Wk.iloadN (pc' := 2) d36_1 rfl rfl ?_
  refine Wk.getS (a0 := a0) (pc' := 5) (host := "") (Or.inl (w187 hw)) Via.refl P0 d36_2 rfl ?_
  refine Wk.callS (a0 := a0) (pc' := 8) (k' := 0) (n' := 0) (W := 0) (b := b_s_chk) (argsL := [(.int i), (.int n), sf]) (rest := []) (rm_s_chk hw i n sf h0 I G_sf h1 h2) (w189 hw) (w190 hw) (w188 hw) (w191 hw) (by decide) (Nat.le_refl _) id (Nat.le_of_ble_eq_true rfl) (Nat.le_of_ble_eq_true rfl) rfl rfl (Nat.le_of_ble_eq_true rfl) (Nat.le_of_ble_eq_true rfl) rfl pd1 rfl rfl rfl (Nat.le_of_ble_eq_true rfl) d36_5 rfl fun v1 h2 J3 hs4 hQ5 => ?_
  obtain ⟨rfl, rfl, rfl⟩ := hQ5
  show Wk _ h0 0 0 I 8 #[.val (.int i), .val (.int n)] [(.int i)]
  refine Wk.pop (pc' := 9) d36_8 rfl rfl ?_
  exact Wk.return_ rfl d36_9 (Nat.le_of_ble_eq_true rfl) (Nat.le_of_ble_eq_true rfl) ⟨rfl, rfl, rfl⟩
theorem ef_s_cha (m : MethodId) (x0 : Addr) (x1 : Int32) : entryFrame m #[(.ref x0), (.int x1)] 2 = mkF m 0 #[.val (.ref x0), .val (.int x1)] [] := by first | (simp [entryFrame, mkF, argsToLocals, Value.category]; done) | rfl
abbrev b_s_cha : Bdy := ((⟨"java/lang/StringLatin1", "charAt", "([BI)C"⟩ : MethodName), jdk_43_method_2_code, 2, (Option.some Jvm.ClassFile.FieldType.char), ({ frames := 2, cells := 0, slots := 0, locals := 27 } : Room))
def Q_s_cha (Z : State) (N : Nat) (v' : Addr) (q : ClassId) (cl : List Int32) (i : Nat) (sf : Value) (h0 : Heap) (I : Lts) (v : Option Value) (h : Heap) (J : Lts) : Prop := I = J ∧ v = some (.int (cl.getD i 0)) ∧ h0 = h
set_option maxRecDepth 65536 in
set_option maxHeartbeats 40000000 in
theorem rm_s_cha {l : Launch} {Z : State} {a0 : Array Value} {N : Nat} (hw : ∀ d ∈ tables_1, d.before a0 Z = true) (v' : Addr) (q : ClassId) (cl : List Int32) (i : Nat) (sf : Value) (h0 : Heap) (I : Lts) (P0 : Sta Z Z.heap "jdk/internal/util/Preconditions" "SIOOBE_FORMATTER" "Ljava/util/function/BiFunction;" sf) (G_sf : sf.isRef = true) (P2 : Arv Z h0 v' q .byte (Int32.ofNat cl.length) (cl.map own_by) (.int (0 : Int32))) (hi : i < cl.length) (hn : cl.length < 2147483648) (hL : own_L cl) :
    Cn l Z N b_s_cha #[(.ref v'), (.int (Int32.ofNat i))] h0 I (Q_s_cha Z N v' q cl i sf h0 I) := by
  refine Cn.of_wk (Ls := #[.val (.ref v'), .val (.int (Int32.ofNat i))]) (plainFor_of_name (by first | (simp [plainName, overriddenIn]; done) | decide +kernel)) (fun m => ef_s_cha m v' (Int32.ofNat i)) ?_
  refine Wk.iloadN (pc' := 1) d35_0 rfl rfl ?_
  refine Wk.aloadN (pc' := 2) d35_1 rfl rfl rfl ?_
  refine Wk.arraylength (pc' := 3) P2 d35_2 rfl ?_
  refine Wk.callS (a0 := a0) (pc' := 6) (k' := 0) (n' := 0) (W := 0) (b := b_s_chk2) (argsL := [(.int (Int32.ofNat i)), (.int (Int32.ofNat cl.length))]) (rest := []) (rm_s_chk2 hw (Int32.ofNat i) (Int32.ofNat cl.length) sf h0 I P0 G_sf (own_idx hi hn).1 (own_idx hi hn).2) (w184 hw) (w185 hw) (w10 hw) (w186 hw) (by decide) (Nat.le_refl _) id (Nat.le_of_ble_eq_true rfl) (Nat.le_of_ble_eq_true rfl) rfl rfl (Nat.le_of_ble_eq_true rfl) (Nat.le_of_ble_eq_true rfl) rfl pd2 rfl rfl rfl (Nat.le_of_ble_eq_true rfl) d35_3 rfl fun v1 h2 J3 hs4 hQ5 => ?_
  obtain ⟨rfl, rfl, rfl⟩ := hQ5
  show Wk _ h0 0 0 I 6 #[.val (.ref v'), .val (.int (Int32.ofNat i))] []
  refine Wk.aloadN (pc' := 7) d35_6 rfl rfl rfl ?_
  refine Wk.iloadN (pc' := 8) d35_7 rfl rfl ?_
  refine Wk.baload (pc' := 9) (v := (.int (own_b8 (cl.getD i 0)))) P2 (own_idx hi hn) (by rw [own_clamp (by omega)]; exact own_getb cl i) d35_8 rfl ?_
  refine Wk.sipush (pc' := 12) (v := 255) d35_9 rfl rfl ?_
  refine Wk.iand (pc' := 13) d35_12 rfl ?_
  refine Wk.i2c (pc' := 14) d35_13 rfl ?_
  exact Wk.zreturn rfl (by simp) d35_14 (Nat.le_of_ble_eq_true rfl) (Nat.le_of_ble_eq_true rfl) ⟨rfl, (by rw [own_cb (own_Lget hL i)]), rfl⟩
theorem ef_s_chr (m : MethodId) (x0 : Addr) (x1 : Int32) : entryFrame m #[(.ref x0), (.int x1)] 2 = mkF m 0 #[.val (.ref x0), .val (.int x1)] [] := by first | (simp [entryFrame, mkF, argsToLocals, Value.category]; done) | rfl
abbrev b_s_chr : Bdy := ((⟨"java/lang/String", "charAt", "(I)C"⟩ : MethodName), jdk_42_method_56_code, 2, (Option.some Jvm.ClassFile.FieldType.char), ({ frames := 3, cells := 0, slots := 0, locals := 40 } : Room))
def Q_s_chr (Z : State) (N : Nat) (a : Addr) (v' : Addr) (q : ClassId) (cl : List Int32) (i : Nat) (sf : Value) (cs : Int32) (h0 : Heap) (I : Lts) (v : Option Value) (h : Heap) (J : Lts) : Prop := I = J ∧ v = some (.int (cl.getD i 0)) ∧ h0 = h
set_option maxRecDepth 65536 in
set_option maxHeartbeats 40000000 in
theorem rm_s_chr {l : Launch} {Z : State} {a0 : Array Value} {N : Nat} (hw : ∀ d ∈ tables_1, d.before a0 Z = true) (a : Addr) (v' : Addr) (q : ClassId) (cl : List Int32) (i : Nat) (sf : Value) (cs : Int32) (h0 : Heap) (I : Lts) (P0 : Sta Z Z.heap "java/lang/String" "COMPACT_STRINGS" "Z" (.int cs)) (G_cs : ¬ cs = (0 : Int32)) (P2 : Sta Z Z.heap "jdk/internal/util/Preconditions" "SIOOBE_FORMATTER" "Ljava/util/function/BiFunction;" sf) (G_sf : sf.isRef = true) (P4 : Exa Z h0 a "java/lang/String") (P5 : Fld Z h0 a "java/lang/String" "value" "[B" (.ref v')) (P6 : Fld Z h0 a "java/lang/String" "coder" "B" (.int (0 : Int32))) (P7 : Arv Z h0 v' q .byte (Int32.ofNat cl.length) (cl.map own_by) (.int (0 : Int32))) (hi : i < cl.length) (hn : cl.length < 2147483648) (hL : own_L cl) :
    Cn l Z N b_s_chr #[(.ref a), (.int (Int32.ofNat i))] h0 I (Q_s_chr Z N a v' q cl i sf cs h0 I) := by
  refine Cn.of_wk (Ls := #[.val (.ref a), .val (.int (Int32.ofNat i))]) (plainFor_of_name (by first | (simp [plainName, overriddenIn]; done) | decide +kernel)) (fun m => ef_s_chr m a (Int32.ofNat i)) ?_
  refine Wk.aloadN (pc' := 1) d33_0 rfl rfl rfl ?_
  refine Wk.callV (a0 := a0) (pc' := 4) (k' := 0) (n' := 0) (W := 0) (b := b_s_lat) (argsL := []) (rest := []) (y := (⟨"java/lang/String", "isLatin1", "()Z"⟩ : MethodName)) (rm_s_lat hw a cs h0 I P0 G_cs P6) P4 (w176 hw) (w177 hw) (w179 hw) (w179 hw) (w178 hw) (w10 hw) (w180 hw) (by decide) (Nat.le_refl _) id (Nat.le_of_ble_eq_true rfl) (Nat.le_of_ble_eq_true rfl) rfl rfl (Nat.le_of_ble_eq_true rfl) (Nat.le_of_ble_eq_true rfl) rfl pd3 rfl rfl rfl (Nat.le_of_ble_eq_true rfl) d33_1 rfl fun v1 h2 J3 hs4 hQ5 => ?_
  obtain ⟨rfl, rfl, rfl⟩ := hQ5
  show Wk _ h0 0 0 I 4 #[.val (.ref a), .val (.int (Int32.ofNat i))] [(.int (1 : Int32))]
  refine Wk.if_eqN (pc' := 7) d33_4 rfl (by decide) ?_
  refine Wk.aloadN (pc' := 8) d33_7 rfl rfl rfl ?_
  refine Wk.getF (a0 := a0) (pc' := 11) (host := "") (Or.inl (w28 hw)) Via.refl P5 d33_8 rfl ?_
  refine Wk.iloadN (pc' := 12) d33_11 rfl rfl ?_
  refine Wk.callS (a0 := a0) (pc' := 15) (k' := 0) (n' := 0) (W := 0) (b := b_s_cha) (argsL := [(.ref v'), (.int (Int32.ofNat i))]) (rest := []) (rm_s_cha hw v' q cl i sf h0 I P2 G_sf P7 hi hn hL) (w181 hw) (w182 hw) (w124 hw) (w183 hw) (by decide) (Nat.le_refl _) id (Nat.le_of_ble_eq_true rfl) (Nat.le_of_ble_eq_true rfl) rfl rfl (Nat.le_of_ble_eq_true rfl) (Nat.le_of_ble_eq_true rfl) rfl pd4 rfl rfl rfl (Nat.le_of_ble_eq_true rfl) d33_12 rfl fun v6 h7 J8 hs9 hQ10 => ?_
  obtain ⟨rfl, rfl, rfl⟩ := hQ10
  show Wk _ h0 0 0 I 15 #[.val (.ref a), .val (.int (Int32.ofNat i))] [(.int (cl.getD i 0))]
  exact Wk.zreturn rfl (by simp) d33_15 (Nat.le_of_ble_eq_true rfl) (Nat.le_of_ble_eq_true rfl) ⟨rfl, (by rw [own_nc (own_Lget hL i)]), rfl⟩
theorem ef_s_cm5 (m : MethodId) (x0 : Addr) (x1 : Int32) (x2 : Addr) (x3 : Int32) (x4 : Int32) : entryFrame m #[(.ref x0), (.int x1), (.ref x2), (.int x3), (.int x4)] 7 = mkF m 0 #[.val (.ref x0), .val (.int x1), .val (.ref x2), .val (.int x3), .val (.int x4), .unset, .unset] [] := by first | (simp [entryFrame, mkF, argsToLocals, Value.category]; done) | rfl
abbrev b_s_cm5 : Bdy := ((⟨"java/lang/StringUTF16", "compress", "([CI[BII)I"⟩ : MethodName), jdk_52_method_21_code, 7, (Option.some Jvm.ClassFile.FieldType.int), ({ frames := 0, cells := 0, slots := 0, locals := 0 } : Room))
def Q_s_cm5 (Z : State) (N : Nat) (c : Addr) (b : Addr) (q : ClassId) (qb : ClassId) (cl : List Int32) (h0 : Heap) (I : Lts) (v : Option Value) (h : Heap) (J : Lts) : Prop := I = J ∧ v = some (.int (Int32.ofNat cl.length)) ∧ Keep h0 h [b] ∧ Arv Z h b qb .byte (Int32.ofNat cl.length) (cl.map own_by) (.int (0 : Int32))
set_option maxRecDepth 65536 in
set_option maxHeartbeats 40000000 in
theorem rm_s_cm5 {l : Launch} {Z : State} {a0 : Array Value} {N : Nat} (hw : ∀ d ∈ tables_1, d.before a0 Z = true) (c : Addr) (b : Addr) (q : ClassId) (qb : ClassId) (cl : List Int32) (h0 : Heap) (I : Lts) (P0 : Arv Z h0 c q .char (Int32.ofNat cl.length) (cl.map Value.int) (.int (0 : Int32))) (P1 : Arv Z h0 b qb .byte (Int32.ofNat cl.length) (own_fill cl 0) (.int (0 : Int32))) (P2 : N ≤ b) (P3 : c ≠ b) (hn : cl.length < 2147483647) (hL : own_L cl) :
    Cn l Z N b_s_cm5 #[(.ref c), (.int (0 : Int32)), (.ref b), (.int (0 : Int32)), (.int (Int32.ofNat cl.length))] h0 I (Q_s_cm5 Z N c b q qb cl h0 I) := by
  refine Cn.of_wk (Ls := #[.val (.ref c), .val (.int (0 : Int32)), .val (.ref b), .val (.int (0 : Int32)), .val (.int (Int32.ofNat cl.length)), .unset, .unset]) (plainFor_of_name (by first | (simp [plainName, overriddenIn]; done) | decide +kernel)) (fun m => ef_s_cm5 m c (0 : Int32) b (0 : Int32) (Int32.ofNat cl.length)) ?_
  refine Wk.iconst (pc' := 1) (v := 0) d39_0 rfl rfl ?_
  refine Wk.istore (pc' := 3) #[.val (.ref c), .val (.int (0 : Int32)), .val (.ref b), .val (.int (0 : Int32)), .val (.int (Int32.ofNat cl.length)), .val (.int (0 : Int32)), .unset] d39_1 rfl rfl ?_
  have loop : ∀ (d : Nat) (i : Nat) (s6 : Slot) (hX1 : Heap), (Arv Z hX1 b qb .byte (Int32.ofNat cl.length) (own_fill cl i) (.int (0 : Int32))) → (i + d = cl.length) → ((s6 = .unset ∨ ∃ z : Int32, s6 = .val (.int z))) → (Keep h0 hX1 [b]) → Wk (l, Z, N, h0.size, b_s_cm5, Q_s_cm5 Z N c b q qb cl h0 I) hX1 0 0 I 3 #[.val (.ref c), .val (.int (Int32.ofNat i)), .val (.ref b), .val (.int (Int32.ofNat i)), .val (.int (Int32.ofNat cl.length)), .val (.int (Int32.ofNat i)), s6] [] := by
    intro d
    induction d with
    | zero =>
      intro i s6 hX1 y2 hi hs6 K3
      refine Wk.iload (pc' := 5) d39_3 rfl rfl ?_
      refine Wk.iload (pc' := 7) d39_5 rfl rfl ?_
      refine Wk.icmp_geY (pc' := 44) d39_7 (by decide) (mt (own_lt (by omega) (by omega)).mp (by omega)) ?_
      have A4 : Arv Z hX1 b qb .byte (Int32.ofNat cl.length) (cl.map own_by) (.int (0 : Int32)) := by
        have q := y2
        rw [show i = cl.length from by omega, own_filln] at q
        exact q
      refine Wk.iload (pc' := 46) d39_44 rfl rfl ?_
      exact Wk.ireturn rfl d39_46 (Nat.le_of_ble_eq_true rfl) (Nat.le_of_ble_eq_true rfl) ⟨rfl, rfl, ((Keep.refl h0 [b]).trans K3 (allS (Or.inl (by simp)) all0)), A4⟩
    | succ d ih =>
      intro i s6 hX1 y2 hi hs6 K3
      refine Wk.iload (pc' := 5) d39_3 rfl rfl ?_
      refine Wk.iload (pc' := 7) d39_5 rfl rfl ?_
      refine Wk.icmp_geN (pc' := 10) d39_7 rfl ((own_lt (by omega) (by omega)).mpr (by omega)) ?_
      refine Wk.aloadN (pc' := 11) d39_10 rfl rfl rfl ?_
      refine Wk.iloadN (pc' := 12) d39_11 rfl rfl ?_
      have f5 := (P0.keep K3 (ninS P3 nin0))
      refine Wk.caload (pc' := 13) (v := (.int (cl.getD i 0))) f5 (own_in (by omega) (by omega)) (by rw [own_clamp (by omega)]; exact own_geti cl i) d39_12 rfl ?_
      refine Wk.istore (pc' := 15) #[.val (.ref c), .val (.int (Int32.ofNat i)), .val (.ref b), .val (.int (Int32.ofNat i)), .val (.int (Int32.ofNat cl.length)), .val (.int (Int32.ofNat i)), .val (.int (cl.getD i 0))] d39_13 rfl (by rcases hs6 with rfl | ⟨z, rfl⟩ <;> rfl) ?_
      refine Wk.iload (pc' := 17) d39_15 rfl rfl ?_
      refine Wk.sipush (pc' := 20) (v := 255) d39_17 rfl rfl ?_
      refine Wk.icmp_leY (pc' := 26) d39_20 (by decide) (own_Lget hL i).2 ?_
      refine Wk.aloadN (pc' := 27) d39_26 rfl rfl rfl ?_
      refine Wk.iloadN (pc' := 28) d39_27 rfl rfl ?_
      refine Wk.iload (pc' := 30) d39_28 rfl rfl ?_
      refine Wk.i2b (pc' := 31) d39_30 rfl ?_
      refine Wk.bastore (pc' := 32) y2 P2 (own_in (by omega) (by omega)) i (own_clamp (by omega)) (by rw [own_fill_len (by omega)]; omega) d39_31 rfl fun h6 W7 A8 => ?_
      have A9 : Arv Z h6 b qb .byte (Int32.ofNat cl.length) (own_fill cl (i + 1)) (.int (0 : Int32)) := by
        rw [← own_fill_set cl i (by omega), show own_by (cl.getD i 0) = .int (nar .byte (own_b8 (cl.getD i 0))) from by rw [own_nb]; rfl]
        exact A8
      refine Wk.iinc (pc' := 35) (v := 1) (Ls' := #[.val (.ref c), .val (.int ((Int32.ofNat i) + (1 : Int32))), .val (.ref b), .val (.int (Int32.ofNat i)), .val (.int (Int32.ofNat cl.length)), .val (.int (Int32.ofNat i)), .val (.int (cl.getD i 0))]) d39_32 rfl rfl rfl rfl ?_
      refine Wk.iinc (pc' := 38) (v := 1) (Ls' := #[.val (.ref c), .val (.int ((Int32.ofNat i) + (1 : Int32))), .val (.ref b), .val (.int ((Int32.ofNat i) + (1 : Int32))), .val (.int (Int32.ofNat cl.length)), .val (.int (Int32.ofNat i)), .val (.int (cl.getD i 0))]) d39_35 rfl rfl rfl rfl ?_
      refine Wk.iinc (pc' := 41) (v := 1) (Ls' := #[.val (.ref c), .val (.int ((Int32.ofNat i) + (1 : Int32))), .val (.ref b), .val (.int ((Int32.ofNat i) + (1 : Int32))), .val (.int (Int32.ofNat cl.length)), .val (.int ((Int32.ofNat i) + (1 : Int32))), .val (.int (cl.getD i 0))]) d39_38 rfl rfl rfl rfl ?_
      rw [own_succ (by omega)]
      refine Wk.goto (pc' := 3) d39_41 (by decide) ?_
      exact ih (i + 1) _ h6 A9 (by omega) (Or.inr ⟨_, rfl⟩) (((Keep.refl h0 [b]).trans K3 (allS (Or.inl (by simp)) all0)).wr W7 (Or.inl (by simp)))
  exact loop cl.length 0 _ h0 P1 (by omega) (Or.inl rfl) (Keep.refl h0 [b])
theorem ef_s_cm3 (m : MethodId) (x0 : Addr) (x1 : Int32) (x2 : Int32) : entryFrame m #[(.ref x0), (.int x1), (.int x2)] 6 = mkF m 0 #[.val (.ref x0), .val (.int x1), .val (.int x2), .unset, .unset, .unset] [] := by first | (simp [entryFrame, mkF, argsToLocals, Value.category]; done) | rfl
abbrev b_s_cm3 : Bdy := ((⟨"java/lang/StringUTF16", "compress", "([CII)[B"⟩ : MethodName), jdk_52_method_16_code, 6, (Option.some (Jvm.ClassFile.FieldType.array Jvm.ClassFile.FieldType.byte)), ({ frames := 1, cells := 1, slots := 3, locals := 18 } : Room))
def Q_s_cm3 (Z : State) (N : Nat) (c : Addr) (q : ClassId) (cl : List Int32) (h0 : Heap) (I : Lts) (v : Option Value) (h : Heap) (J : Lts) : Prop := ∃ b : Addr, ∃ qb : ClassId, I = J ∧ v = some (.ref b) ∧ Ext h0 h ∧ h0.size ≤ b ∧ N ≤ b ∧ Arv Z h b qb .byte (Int32.ofNat cl.length) (cl.map own_by) (.int (0 : Int32))
set_option maxRecDepth 65536 in
set_option maxHeartbeats 40000000 in
theorem rm_s_cm3 {l : Launch} {Z : State} {a0 : Array Value} {N : Nat} (hw : ∀ d ∈ tables_1, d.before a0 Z = true) (c : Addr) (q : ClassId) (cl : List Int32) (h0 : Heap) (I : Lts) (P0 : Arv Z h0 c q .char (Int32.ofNat cl.length) (cl.map Value.int) (.int (0 : Int32))) (hn : cl.length ≤ 3) (hL : own_L cl) :
    Cn l Z N b_s_cm3 #[(.ref c), (.int (0 : Int32)), (.int (Int32.ofNat cl.length))] h0 I (Q_s_cm3 Z N c q cl h0 I) := by
  refine Cn.of_wk (Ls := #[.val (.ref c), .val (.int (0 : Int32)), .val (.int (Int32.ofNat cl.length)), .unset, .unset, .unset]) (plainFor_of_name (by first | (simp [plainName, overriddenIn]; done) | decide +kernel)) (fun m => ef_s_cm3 m c (0 : Int32) (Int32.ofNat cl.length)) ?_
  refine Wk.iloadN (pc' := 1) d38_0 rfl rfl ?_
  refine Wk.newP (a0 := a0) (aty := .byte) (pc' := 3) (k' := 1) (n' := 3) (cap := 3) (w23 hw) d38_1 rfl (own_in (n := 4) (by omega) (by decide)).1 (by rw [own_clamp (by omega)]; exact hn) (by decide) rfl rfl (Nat.le_of_ble_eq_true rfl) (Nat.le_of_ble_eq_true rfl) fun a1 h2 q3 hg4 hN5 E6 A7 => ?_
  have ne8 : c ≠ a1 := Nat.ne_of_lt (Nat.lt_of_lt_of_le P0.lt hg4)
  have A9 : Arv Z h2 a1 q3 .byte (Int32.ofNat cl.length) (own_fill cl 0) (.int (0 : Int32)) := by rw [own_fill0]; exact A7.pad (pad_rep [] _ cl.length)
  refine Wk.astoreN (pc' := 4) #[.val (.ref c), .val (.int (0 : Int32)), .val (.int (Int32.ofNat cl.length)), .val (.ref a1), .unset, .unset] d38_3 rfl rfl rfl ?_
  refine Wk.aloadN (pc' := 5) d38_4 rfl rfl rfl ?_
  refine Wk.iloadN (pc' := 6) d38_5 rfl rfl ?_
  refine Wk.aloadN (pc' := 7) d38_6 rfl rfl rfl ?_
  refine Wk.iconst (pc' := 8) (v := 0) d38_7 rfl rfl ?_
  refine Wk.iloadN (pc' := 9) d38_8 rfl rfl ?_
  have f10 := (P0.ext E6)
  refine Wk.callS (a0 := a0) (pc' := 12) (k' := 1) (n' := 3) (W := 0) (b := b_s_cm5) (argsL := [(.ref c), (.int (0 : Int32)), (.ref a1), (.int (0 : Int32)), (.int (Int32.ofNat cl.length))]) (rest := []) (rm_s_cm5 hw c a1 q q3 cl h2 I f10 A9 hN5 ne8 (by omega) hL) (w196 hw) (w197 hw) (w194 hw) (w198 hw) (by decide) (Nat.le_refl _) id (Nat.le_of_ble_eq_true rfl) (Nat.le_of_ble_eq_true rfl) rfl rfl (Nat.le_of_ble_eq_true rfl) (Nat.le_of_ble_eq_true rfl) rfl pd5 rfl rfl rfl (Nat.le_of_ble_eq_true rfl) d38_9 rfl fun v11 h12 J13 hs14 hQ15 => ?_
  obtain ⟨rfl, rfl, K16, g17⟩ := hQ15
  show Wk _ h12 1 3 I 12 #[.val (.ref c), .val (.int (0 : Int32)), .val (.int (Int32.ofNat cl.length)), .val (.ref a1), .unset, .unset] [(.int (Int32.ofNat cl.length))]
  refine Wk.istore (pc' := 14) #[.val (.ref c), .val (.int (0 : Int32)), .val (.int (Int32.ofNat cl.length)), .val (.ref a1), .val (.int (Int32.ofNat cl.length)), .unset] d38_12 rfl rfl ?_
  refine Wk.iload (pc' := 16) d38_14 rfl rfl ?_
  refine Wk.iloadN (pc' := 17) d38_16 rfl rfl ?_
  refine Wk.icmp_eqY (pc' := 57) d38_17 (by decide) rfl ?_
  refine Wk.aloadN (pc' := 58) d38_57 rfl rfl rfl ?_
  exact Wk.areturn rfl rfl rfl d38_58 (Nat.le_of_ble_eq_true rfl) (Nat.le_of_ble_eq_true rfl) ⟨a1, q3, rfl, rfl, (own_ext (((Keep.refl h0 []).ext E6).trans K16 (allS (Or.inr hg4) all0))), hg4, hN5, g17⟩
theorem ef_s_cfa (m : MethodId) (x0 : Addr) (x1 : Int32) : entryFrame m #[(.ref x0), (.int x1)] 2 = mkF m 0 #[.val (.ref x0), .val (.int x1)] [] := by first | (simp [entryFrame, mkF, argsToLocals, Value.category]; done) | rfl
abbrev b_s_cfa : Bdy := ((⟨"java/lang/StringUTF16", "coderFromArrayLen", "([BI)B"⟩ : MethodName), jdk_52_method_15_code, 2, (Option.some Jvm.ClassFile.FieldType.byte), ({ frames := 0, cells := 0, slots := 0, locals := 0 } : Room))
def Q_s_cfa (Z : State) (N : Nat) (b : Addr) (qb : ClassId) (cl : List Int32) (h0 : Heap) (I : Lts) (v : Option Value) (h : Heap) (J : Lts) : Prop := I = J ∧ v = some (.int (0 : Int32)) ∧ h0 = h
set_option maxRecDepth 65536 in
set_option maxHeartbeats 40000000 in
theorem rm_s_cfa {l : Launch} {Z : State} {a0 : Array Value} {N : Nat} (hw : ∀ d ∈ tables_1, d.before a0 Z = true) (b : Addr) (qb : ClassId) (cl : List Int32) (h0 : Heap) (I : Lts) (P0 : Arv Z h0 b qb .byte (Int32.ofNat cl.length) (cl.map own_by) (.int (0 : Int32))) :
    Cn l Z N b_s_cfa #[(.ref b), (.int (Int32.ofNat cl.length))] h0 I (Q_s_cfa Z N b qb cl h0 I) := by
  refine Cn.of_wk (Ls := #[.val (.ref b), .val (.int (Int32.ofNat cl.length))]) (plainFor_of_name (by first | (simp [plainName, overriddenIn]; done) | decide +kernel)) (fun m => ef_s_cfa m b (Int32.ofNat cl.length)) ?_
  refine Wk.iloadN (pc' := 1) d40_0 rfl rfl ?_
  refine Wk.aloadN (pc' := 2) d40_1 rfl rfl rfl ?_
  refine Wk.arraylength (pc' := 3) P0 d40_2 rfl ?_
  refine Wk.isub (pc' := 4) d40_3 rfl ?_
  refine Wk.bipush (pc' := 6) (v := 31) d40_4 rfl rfl ?_
  refine Wk.iushr (pc' := 7) d40_6 rfl ?_
  refine Wk.i2b (pc' := 8) d40_7 rfl ?_
  exact Wk.zreturn rfl (by simp) d40_8 (Nat.le_of_ble_eq_true rfl) (Nat.le_of_ble_eq_true rfl) ⟨rfl, (by rw [own_cfal]), rfl⟩
theorem ef_s_in5 (m : MethodId) (x0 : Addr) (x1 : Addr) (x2 : Int32) (x3 : Int32) : entryFrame m #[(.ref x0), (.ref x1), (.int x2), (.int x3), .null] 6 = mkF m 0 #[.val (.ref x0), .val (.ref x1), .val (.int x2), .val (.int x3), .val .null, .unset] [] := by first | (simp [entryFrame, mkF, argsToLocals, Value.category]; done) | rfl
abbrev b_s_in5 : Bdy := ((⟨"java/lang/String", "<init>", "([CIILjava/lang/Void;)V"⟩ : MethodName), jdk_42_method_149_code, 6, (Option.none : Option Jvm.ClassFile.FieldType), ({ frames := 2, cells := 1, slots := 3, locals := 35 } : Room))
def Q_s_in5 (Z : State) (N : Nat) (a : Addr) (c : Addr) (q : ClassId) (cl : List Int32) (cs : Int32) (h0 : Heap) (I : Lts) (v : Option Value) (h : Heap) (J : Lts) : Prop := ∃ v' : Addr, ∃ q' : ClassId, I = J ∧ v = none ∧ Keep h0 h [a] ∧ Fld Z h a "java/lang/String" "value" "[B" (.ref v') ∧ Fld Z h a "java/lang/String" "coder" "B" (.int (0 : Int32)) ∧ Arv Z h v' q' .byte (Int32.ofNat cl.length) (cl.map own_by) (.int (0 : Int32))
set_option maxRecDepth 65536 in
set_option maxHeartbeats 40000000 in
theorem rm_s_in5 {l : Launch} {Z : State} {a0 : Array Value} {N : Nat} (hw : ∀ d ∈ tables_1, d.before a0 Z = true) (a : Addr) (c : Addr) (q : ClassId) (cl : List Int32) (cs : Int32) (h0 : Heap) (I : Lts) (P0 : Sta Z Z.heap "java/lang/String" "COMPACT_STRINGS" "Z" (.int cs)) (G_cs : ¬ cs = (0 : Int32)) (P2 : Exa Z h0 a "java/lang/String") (P3 : Fld Z h0 a "java/lang/String" "value" "[B" .null) (P4 : Fld Z h0 a "java/lang/String" "coder" "B" (.int (0 : Int32))) (P5 : Arv Z h0 c q .char (Int32.ofNat cl.length) (cl.map Value.int) (.int (0 : Int32))) (P6 : N ≤ a) (hn : cl.length ≤ 3) (hL : own_L cl) (he : ¬ cl = []) :
    Cn l Z N b_s_in5 #[(.ref a), (.ref c), (.int (0 : Int32)), (.int (Int32.ofNat cl.length)), .null] h0 I (Q_s_in5 Z N a c q cl cs h0 I) := by
  refine Cn.of_wk (Ls := #[.val (.ref a), .val (.ref c), .val (.int (0 : Int32)), .val (.int (Int32.ofNat cl.length)), .val .null, .unset]) (plainFor_of_name (by first | (simp [plainName, overriddenIn]; done) | decide +kernel)) (fun m => ef_s_in5 m a c (0 : Int32) (Int32.ofNat cl.length)) ?_
  refine Wk.aloadN (pc' := 1) d4_0 rfl rfl rfl ?_
  refine Wk.initO (a0 := a0) (pc' := 4) (W := 0) (w19 hw) (w20 hw) (w21 hw) rfl d4_1 rfl (Nat.le_of_ble_eq_true rfl) (Nat.le_of_ble_eq_true rfl) (Nat.le_of_ble_eq_true rfl) ?_
  refine Wk.iloadN (pc' := 5) d4_4 rfl rfl ?_
  refine Wk.if_neY (pc' := 27) d4_5 (by decide) (fun q => he (List.length_eq_zero_iff.mp ((own_eq (j := 0) (by omega) (by decide)).mp q))) ?_
  refine Wk.getS (a0 := a0) (pc' := 30) (host := "") (Or.inl (w57 hw)) Via.refl P0 d4_27 rfl ?_
  refine Wk.if_eqN (pc' := 33) d4_30 rfl G_cs ?_
  refine Wk.aloadN (pc' := 34) d4_33 rfl rfl rfl ?_
  refine Wk.iloadN (pc' := 35) d4_34 rfl rfl ?_
  refine Wk.iloadN (pc' := 36) d4_35 rfl rfl ?_
  refine Wk.callS (a0 := a0) (pc' := 39) (k' := 1) (n' := 3) (W := 0) (b := b_s_cm3) (argsL := [(.ref c), (.int (0 : Int32)), (.int (Int32.ofNat cl.length))]) (rest := []) (rm_s_cm3 hw c q cl h0 I P5 hn hL) (w192 hw) (w193 hw) (w194 hw) (w195 hw) (by decide) (Nat.le_refl _) id (Nat.le_of_ble_eq_true rfl) (Nat.le_of_ble_eq_true rfl) rfl rfl (Nat.le_of_ble_eq_true rfl) (Nat.le_of_ble_eq_true rfl) rfl pd6 rfl rfl rfl (Nat.le_of_ble_eq_true rfl) d4_36 rfl fun v1 h2 J3 hs4 hQ5 => ?_
  obtain ⟨b6, qb7, rfl, rfl, E8, g9, g10, g11⟩ := hQ5
  have ne12 : a ≠ b6 := Nat.ne_of_lt (Nat.lt_of_lt_of_le P2.lt g9)
  have ne13 : c ≠ b6 := Nat.ne_of_lt (Nat.lt_of_lt_of_le P5.lt g9)
  show Wk _ h2 1 3 I 39 #[.val (.ref a), .val (.ref c), .val (.int (0 : Int32)), .val (.int (Int32.ofNat cl.length)), .val .null, .unset] [(.ref b6)]
  refine Wk.astore (pc' := 41) #[.val (.ref a), .val (.ref c), .val (.int (0 : Int32)), .val (.int (Int32.ofNat cl.length)), .val .null, .val (.ref b6)] d4_39 rfl rfl rfl ?_
  refine Wk.aloadN (pc' := 42) d4_41 rfl rfl rfl ?_
  refine Wk.aload (pc' := 44) d4_42 rfl rfl rfl ?_
  refine Wk.iloadN (pc' := 45) d4_44 rfl rfl ?_
  refine Wk.callS (a0 := a0) (pc' := 48) (k' := 1) (n' := 3) (W := 1) (b := b_s_cfa) (argsL := [(.ref b6), (.int (Int32.ofNat cl.length))]) (rest := [(.ref a)]) (rm_s_cfa hw b6 qb7 cl h2 I g11) (w199 hw) (w200 hw) (w194 hw) (w201 hw) (by decide) (Nat.le_refl _) id (Nat.le_of_ble_eq_true rfl) (Nat.le_of_ble_eq_true rfl) rfl rfl (Nat.le_of_ble_eq_true rfl) (Nat.le_of_ble_eq_true rfl) rfl pd7 rfl rfl rfl (Nat.le_of_ble_eq_true rfl) d4_45 rfl fun v14 h15 J16 hs17 hQ18 => ?_
  obtain ⟨rfl, rfl, rfl⟩ := hQ18
  show Wk _ h2 1 3 I 48 #[.val (.ref a), .val (.ref c), .val (.int (0 : Int32)), .val (.int (Int32.ofNat cl.length)), .val .null, .val (.ref b6)] [(.int (0 : Int32)), (.ref a)]
  have f19 := (P2.ext E8)
  have f20 := (P4.ext E8)
  refine Wk.putFN (a0 := a0) (pc' := 51) (v' := (.int (0 : Int32))) (w29 hw) Via.refl P6 f20 f19 (Or.inr ⟨(w25 hw), rfl, rfl⟩) (w9 hw) (ty := .byte) (by decide) rfl rfl d4_48 rfl fun h21 W22 => ?_
  have F23 := f20.same W22
  refine Wk.aloadN (pc' := 52) d4_51 rfl rfl rfl ?_
  refine Wk.aload (pc' := 54) d4_52 rfl rfl rfl ?_
  have f24 := (f19.wr W22)
  have f25 := ((P3.ext E8).other W22 (Or.inr (slot_ne (Or.inr (w24 hw)) (Or.inr (w25 hw)) (by decide) (t := (.array .byte)) (t' := .byte) (by decide) (by decide))))
  refine Wk.putF (a0 := a0) (pc' := 57) (host := "") (Or.inl (w28 hw)) Via.refl P6 f25 f24 (Or.inr ⟨(w24 hw), rfl, rfl⟩) (w9 hw) (ty := (.array .byte)) (by decide) rfl rfl d4_54 rfl fun h26 W27 => ?_
  have F28 := f25.same W27
  have f29 := ((g11.other W22 (Ne.symm ne12)).other W27 (Ne.symm ne12))
  have f30 := (F23.other W27 (Or.inr (slot_ne (Or.inr (w25 hw)) (Or.inr (w24 hw)) (by decide) (t := .byte) (t' := (.array .byte)) (by decide) (by decide))))
  exact Wk.return_ rfl d4_57 (Nat.le_of_ble_eq_true rfl) (Nat.le_of_ble_eq_true rfl) ⟨b6, qb7, rfl, rfl, ((((Keep.refl h0 [a]).ext E8).wr W22 (Or.inl (by simp))).wr W27 (Or.inl (by simp))), F28, f30, f29⟩
theorem ef_s_in1 (m : MethodId) (x0 : Addr) (x1 : Addr) : entryFrame m #[(.ref x0), (.ref x1)] 2 = mkF m 0 #[.val (.ref x0), .val (.ref x1)] [] := by first | (simp [entryFrame, mkF, argsToLocals, Value.category]; done) | rfl
abbrev b_s_in1 : Bdy := ((⟨"java/lang/String", "<init>", "([C)V"⟩ : MethodName), jdk_42_method_3_code, 2, (Option.none : Option Jvm.ClassFile.FieldType), ({ frames := 3, cells := 1, slots := 3, locals := 52 } : Room))
def Q_s_in1 (Z : State) (N : Nat) (a : Addr) (c : Addr) (q : ClassId) (cl : List Int32) (cs : Int32) (h0 : Heap) (I : Lts) (v : Option Value) (h : Heap) (J : Lts) : Prop := ∃ v' : Addr, ∃ q' : ClassId, I = J ∧ v = none ∧ Keep h0 h [a] ∧ Fld Z h a "java/lang/String" "value" "[B" (.ref v') ∧ Fld Z h a "java/lang/String" "coder" "B" (.int (0 : Int32)) ∧ Arv Z h v' q' .byte (Int32.ofNat cl.length) (cl.map own_by) (.int (0 : Int32))
set_option maxRecDepth 65536 in
set_option maxHeartbeats 40000000 in
theorem rm_s_in1 {l : Launch} {Z : State} {a0 : Array Value} {N : Nat} (hw : ∀ d ∈ tables_1, d.before a0 Z = true) (a : Addr) (c : Addr) (q : ClassId) (cl : List Int32) (cs : Int32) (h0 : Heap) (I : Lts) (P0 : Sta Z Z.heap "java/lang/String" "COMPACT_STRINGS" "Z" (.int cs)) (G_cs : ¬ cs = (0 : Int32)) (P2 : Exa Z h0 a "java/lang/String") (P3 : Fld Z h0 a "java/lang/String" "value" "[B" .null) (P4 : Fld Z h0 a "java/lang/String" "coder" "B" (.int (0 : Int32))) (P5 : Arv Z h0 c q .char (Int32.ofNat cl.length) (cl.map Value.int) (.int (0 : Int32))) (P6 : N ≤ a) (hn : cl.length ≤ 3) (hL : own_L cl) (he : ¬ cl = []) :
    Cn l Z N b_s_in1 #[(.ref a), (.ref c)] h0 I (Q_s_in1 Z N a c q cl cs h0 I) := by
  refine Cn.of_wk (Ls := #[.val (.ref a), .val (.ref c)]) (plainFor_of_name (by first | (simp [plainName, overriddenIn]; done) | decide +kernel)) (fun m => ef_s_in1 m a c) ?_
  refine Wk.aloadN (pc' := 1) d3_0 rfl rfl rfl ?_
  refine Wk.aloadN (pc' := 2) d3_1 rfl rfl rfl ?_
  refine Wk.iconst (pc' := 3) (v := 0) d3_2 rfl rfl ?_
  refine Wk.aloadN (pc' := 4) d3_3 rfl rfl rfl ?_
  refine Wk.arraylength (pc' := 5) P5 d3_4 rfl ?_
  refine Wk.aconstNull (pc' := 6) d3_5 rfl ?_
  refine Wk.callN (a0 := a0) (pc' := 9) (k' := 1) (n' := 3) (W := 0) (b := b_s_in5) (argsL := [(.ref c), (.int (0 : Int32)), (.int (Int32.ofNat cl.length)), .null]) (rest := []) (rm_s_in5 hw a c q cl cs h0 I P0 G_cs P2 P3 P4 P5 P6 hn hL he) rfl rfl (w15 hw) (w16 hw) (w10 hw) (w18 hw) (by decide) (Nat.le_refl _) id (Nat.le_of_ble_eq_true rfl) (Nat.le_of_ble_eq_true rfl) rfl rfl (Nat.le_of_ble_eq_true rfl) (Nat.le_of_ble_eq_true rfl) rfl pd8 rfl rfl rfl (Nat.le_of_ble_eq_true rfl) d3_6 rfl fun v1 h2 J3 hs4 hQ5 => ?_
  obtain ⟨v'6, q'7, rfl, rfl, K8, g9, g10, g11⟩ := hQ5
  show Wk _ h2 1 3 I 9 #[.val (.ref a), .val (.ref c)] []
  exact Wk.return_ rfl d3_9 (Nat.le_of_ble_eq_true rfl) (Nat.le_of_ble_eq_true rfl) ⟨v'6, q'7, rfl, rfl, ((Keep.refl h0 [a]).trans K8 (allS (Or.inl (by simp)) all0)), g9, g10, g11⟩
theorem ef_b_ens (m : MethodId) (x0 : Addr) (x1 : Int32) : entryFrame m #[(.ref x0), (.int x1)] 3 = mkF m 0 #[.val (.ref x0), .val (.int x1), .unset] [] := by first | (simp [entryFrame, mkF, argsToLocals, Value.category]; done) | rfl
abbrev b_b_ens : Bdy := ((⟨"java/lang/AbstractStringBuilder", "ensureCapacityInternal", "(I)V"⟩ : MethodName), jdk_68_method_9_code, 3, (Option.none : Option Jvm.ClassFile.FieldType), ({ frames := 0, cells := 0, slots := 0, locals := 0 } : Room))
def Q_b_ens (Z : State) (N : Nat) (a : Addr) (b : Addr) (qb : ClassId) (mc : Nat) (cap : Nat) (vs : List Value) (h0 : Heap) (I : Lts) (v : Option Value) (h : Heap) (J : Lts) : Prop := I = J ∧ v = none ∧ h0 = h
set_option maxRecDepth 65536 in
set_option maxHeartbeats 40000000 in
theorem rm_b_ens {l : Launch} {Z : State} {a0 : Array Value} {N : Nat} (hw : ∀ d ∈ tables_1, d.before a0 Z = true) (a : Addr) (b : Addr) (qb : ClassId) (mc : Nat) (cap : Nat) (vs : List Value) (h0 : Heap) (I : Lts) (P0 : Fld Z h0 a "java/lang/AbstractStringBuilder" "value" "[B" (.ref b)) (P1 : Fld Z h0 a "java/lang/AbstractStringBuilder" "coder" "B" (.int (0 : Int32))) (P2 : Arv Z h0 b qb .byte (Int32.ofNat cap) vs (.int (0 : Int32))) (hm : mc ≤ cap) (hcap : cap < 2147483648) :
    Cn l Z N b_b_ens #[(.ref a), (.int (Int32.ofNat mc))] h0 I (Q_b_ens Z N a b qb mc cap vs h0 I) := by
  refine Cn.of_wk (Ls := #[.val (.ref a), .val (.int (Int32.ofNat mc)), .unset]) (plainFor_of_name (by first | (simp [plainName, overriddenIn]; done) | decide +kernel)) (fun m => ef_b_ens m a (Int32.ofNat mc)) ?_
  refine Wk.aloadN (pc' := 1) d14_0 rfl rfl rfl ?_
  refine Wk.getF (a0 := a0) (pc' := 4) (host := "") (Or.inl (w62 hw)) Via.refl P0 d14_1 rfl ?_
  refine Wk.arraylength (pc' := 5) P2 d14_4 rfl ?_
  refine Wk.aloadN (pc' := 6) d14_5 rfl rfl rfl ?_
  refine Wk.getF (a0 := a0) (pc' := 9) (host := "") (Or.inl (w60 hw)) Via.refl P1 d14_6 rfl ?_
  refine Wk.ishr (pc' := 10) d14_9 rfl ?_
  refine Wk.istoreN (pc' := 11) #[.val (.ref a), .val (.int (Int32.ofNat mc)), .val (.int ((Int32.ofNat cap) >>> ((0 : Int32) &&& 31)))] d14_10 rfl rfl ?_
  refine Wk.iloadN (pc' := 12) d14_11 rfl rfl ?_
  refine Wk.iloadN (pc' := 13) d14_12 rfl rfl ?_
  refine Wk.isub (pc' := 14) d14_13 rfl ?_
  refine Wk.if_leY (pc' := 38) d14_14 (by decide) (by rw [own_shr0]; exact own_subn hm hcap) ?_
  exact Wk.return_ rfl d14_38 (Nat.le_of_ble_eq_true rfl) (Nat.le_of_ble_eq_true rfl) ⟨rfl, rfl, rfl⟩
theorem ef_b_lat (m : MethodId) (x0 : Addr) : entryFrame m #[(.ref x0)] 1 = mkF m 0 #[.val (.ref x0)] [] := by first | (simp [entryFrame, mkF, argsToLocals, Value.category]; done) | rfl
abbrev b_b_lat : Bdy := ((⟨"java/lang/AbstractStringBuilder", "isLatin1", "()Z"⟩ : MethodName), jdk_68_method_68_code, 1, (Option.some Jvm.ClassFile.FieldType.boolean), ({ frames := 0, cells := 0, slots := 0, locals := 0 } : Room))
def Q_b_lat (Z : State) (N : Nat) (a : Addr) (cs : Int32) (h0 : Heap) (I : Lts) (v : Option Value) (h : Heap) (J : Lts) : Prop := I = J ∧ v = some (.int (1 : Int32)) ∧ h0 = h
set_option maxRecDepth 65536 in
set_option maxHeartbeats 40000000 in
theorem rm_b_lat {l : Launch} {Z : State} {a0 : Array Value} {N : Nat} (hw : ∀ d ∈ tables_1, d.before a0 Z = true) (a : Addr) (cs : Int32) (h0 : Heap) (I : Lts) (P0 : Sta Z Z.heap "java/lang/String" "COMPACT_STRINGS" "Z" (.int cs)) (G_cs : ¬ cs = (0 : Int32)) (P2 : Fld Z h0 a "java/lang/AbstractStringBuilder" "coder" "B" (.int (0 : Int32))) :
    Cn l Z N b_b_lat #[(.ref a)] h0 I (Q_b_lat Z N a cs h0 I) := by
  refine Cn.of_wk (Ls := #[.val (.ref a)]) (plainFor_of_name (by first | (simp [plainName, overriddenIn]; done) | decide +kernel)) (fun m => ef_b_lat m a) ?_
  refine Wk.getS (a0 := a0) (pc' := 3) (host := "") (Or.inl (w95 hw)) Via.refl P0 d20_0 rfl ?_
  refine Wk.if_eqN (pc' := 6) d20_3 rfl G_cs ?_
  refine Wk.aloadN (pc' := 7) d20_6 rfl rfl rfl ?_
  refine Wk.getF (a0 := a0) (pc' := 10) (host := "") (Or.inl (w60 hw)) Via.refl P2 d20_7 rfl ?_
  refine Wk.if_neN (pc' := 13) d20_10 rfl rfl ?_
  refine Wk.iconst (pc' := 14) (v := 1) d20_13 rfl rfl ?_
  refine Wk.goto (pc' := 18) d20_14 (by decide) ?_
  exact Wk.zreturn rfl (by simp) d20_18 (Nat.le_of_ble_eq_true rfl) (Nat.le_of_ble_eq_true rfl) ⟨rfl, rfl, rfl⟩
theorem ef_b_len (m : MethodId) (x0 : Addr) : entryFrame m #[(.ref x0)] 1 = mkF m 0 #[.val (.ref x0)] [] := by first | (simp [entryFrame, mkF, argsToLocals, Value.category]; done) | rfl
abbrev b_b_len : Bdy := ((⟨"java/lang/AbstractStringBuilder", "length", "()I"⟩ : MethodName), jdk_68_method_6_code, 1, (Option.some Jvm.ClassFile.FieldType.int), ({ frames := 0, cells := 0, slots := 0, locals := 0 } : Room))
def Q_b_len (Z : State) (N : Nat) (a : Addr) (cl : List Int32) (h0 : Heap) (I : Lts) (v : Option Value) (h : Heap) (J : Lts) : Prop := I = J ∧ v = some (.int (Int32.ofNat cl.length)) ∧ h0 = h
set_option maxRecDepth 65536 in
set_option maxHeartbeats 40000000 in
theorem rm_b_len {l : Launch} {Z : State} {a0 : Array Value} {N : Nat} (hw : ∀ d ∈ tables_1, d.before a0 Z = true) (a : Addr) (cl : List Int32) (h0 : Heap) (I : Lts) (P0 : Fld Z h0 a "java/lang/AbstractStringBuilder" "count" "I" (.int (Int32.ofNat cl.length))) :
    Cn l Z N b_b_len #[(.ref a)] h0 I (Q_b_len Z N a cl h0 I) := by
  refine Cn.of_wk (Ls := #[.val (.ref a)]) (plainFor_of_name (by first | (simp [plainName, overriddenIn]; done) | decide +kernel)) (fun m => ef_b_len m a) ?_
  refine Wk.aloadN (pc' := 1) d27_0 rfl rfl rfl ?_
  refine Wk.getF (a0 := a0) (pc' := 4) (host := "") (Or.inl (w78 hw)) Via.refl P0 d27_1 rfl ?_
  exact Wk.ireturn rfl d27_4 (Nat.le_of_ble_eq_true rfl) (Nat.le_of_ble_eq_true rfl) ⟨rfl, rfl, rfl⟩
theorem ef_b_len2 (m : MethodId) (x0 : Addr) : entryFrame m #[(.ref x0)] 1 = mkF m 0 #[.val (.ref x0)] [] := by first | (simp [entryFrame, mkF, argsToLocals, Value.category]; done) | rfl
abbrev b_b_len2 : Bdy := ((⟨"java/lang/StringBuilder", "length", "()I"⟩ : MethodName), jdk_67_method_93_code, 1, (Option.some Jvm.ClassFile.FieldType.int), ({ frames := 1, cells := 0, slots := 0, locals := 12 } : Room))
def Q_b_len2 (Z : State) (N : Nat) (a : Addr) (cl : List Int32) (h0 : Heap) (I : Lts) (v : Option Value) (h : Heap) (J : Lts) : Prop := I = J ∧ v = some (.int (Int32.ofNat cl.length)) ∧ h0 = h
set_option maxRecDepth 65536 in
set_option maxHeartbeats 40000000 in
theorem rm_b_len2 {l : Launch} {Z : State} {a0 : Array Value} {N : Nat} (hw : ∀ d ∈ tables_1, d.before a0 Z = true) (a : Addr) (cl : List Int32) (h0 : Heap) (I : Lts) (P0 : Exa Z h0 a "java/lang/StringBuilder") (P1 : Fld Z h0 a "java/lang/AbstractStringBuilder" "count" "I" (.int (Int32.ofNat cl.length))) :
    Cn l Z N b_b_len2 #[(.ref a)] h0 I (Q_b_len2 Z N a cl h0 I) := by
  refine Cn.of_wk (Ls := #[.val (.ref a)]) (plainFor_of_name (by first | (simp [plainName, overriddenIn]; done) | decide +kernel)) (fun m => ef_b_len2 m a) ?_
  refine Wk.aloadN (pc' := 1) d26_0 rfl rfl rfl ?_
  refine Wk.callZ (a0 := a0) (pc' := 4) (k' := 0) (n' := 0) (W := 0) (b := b_b_len) (argsL := []) (rest := []) (rm_b_len hw a cl h0 I P1) (Ins.self P0) (w149 hw) (w83 hw) rfl (by decide) (w145 hw) (w76 hw) (by decide) (w44 hw) (w150 hw) (Nat.le_refl _) id (Nat.le_of_ble_eq_true rfl) (Nat.le_of_ble_eq_true rfl) rfl rfl (Nat.le_of_ble_eq_true rfl) (Nat.le_of_ble_eq_true rfl) rfl pd9 rfl rfl rfl (Nat.le_of_ble_eq_true rfl) d26_1 rfl fun v1 h2 J3 hs4 hQ5 => ?_
  obtain ⟨rfl, rfl, rfl⟩ := hQ5
  show Wk _ h0 0 0 I 4 #[.val (.ref a)] [(.int (Int32.ofNat cl.length))]
  exact Wk.ireturn rfl d26_4 (Nat.le_of_ble_eq_true rfl) (Nat.le_of_ble_eq_true rfl) ⟨rfl, rfl, rfl⟩
theorem ef_b_val (m : MethodId) (x0 : Addr) : entryFrame m #[(.ref x0)] 1 = mkF m 0 #[.val (.ref x0)] [] := by first | (simp [entryFrame, mkF, argsToLocals, Value.category]; done) | rfl
abbrev b_b_val : Bdy := ((⟨"java/lang/AbstractStringBuilder", "getValue", "()[B"⟩ : MethodName), jdk_68_method_64_code, 1, (Option.some (Jvm.ClassFile.FieldType.array Jvm.ClassFile.FieldType.byte)), ({ frames := 0, cells := 0, slots := 0, locals := 0 } : Room))
def Q_b_val (Z : State) (N : Nat) (a : Addr) (b : Addr) (h0 : Heap) (I : Lts) (v : Option Value) (h : Heap) (J : Lts) : Prop := I = J ∧ v = some (.ref b) ∧ h0 = h
set_option maxRecDepth 65536 in
set_option maxHeartbeats 40000000 in
theorem rm_b_val {l : Launch} {Z : State} {a0 : Array Value} {N : Nat} (hw : ∀ d ∈ tables_1, d.before a0 Z = true) (a : Addr) (b : Addr) (h0 : Heap) (I : Lts) (P0 : Fld Z h0 a "java/lang/AbstractStringBuilder" "value" "[B" (.ref b)) :
    Cn l Z N b_b_val #[(.ref a)] h0 I (Q_b_val Z N a b h0 I) := by
  refine Cn.of_wk (Ls := #[.val (.ref a)]) (plainFor_of_name (by first | (simp [plainName, overriddenIn]; done) | decide +kernel)) (fun m => ef_b_val m a) ?_
  refine Wk.aloadN (pc' := 1) d25_0 rfl rfl rfl ?_
  refine Wk.getF (a0 := a0) (pc' := 4) (host := "") (Or.inl (w62 hw)) Via.refl P0 d25_1 rfl ?_
  exact Wk.areturn rfl rfl rfl d25_4 (Nat.le_of_ble_eq_true rfl) (Nat.le_of_ble_eq_true rfl) ⟨rfl, rfl, rfl⟩
theorem ef_b_inf (m : MethodId) (x0 : Addr) (x1 : Addr) : entryFrame m #[(.ref x0), (.ref x1)] 2 = mkF m 0 #[.val (.ref x0), .val (.ref x1)] [] := by first | (simp [entryFrame, mkF, argsToLocals, Value.category]; done) | rfl
abbrev b_b_inf : Bdy := ((⟨"java/lang/AbstractStringBuilder", "inflateIfNeededFor", "(Ljava/lang/String;)V"⟩ : MethodName), jdk_68_method_71_code, 2, (Option.none : Option Jvm.ClassFile.FieldType), ({ frames := 1, cells := 0, slots := 0, locals := 13 } : Room))
def Q_b_inf (Z : State) (N : Nat) (a : Addr) (s : Addr) (cs : Int32) (h0 : Heap) (I : Lts) (v : Option Value) (h : Heap) (J : Lts) : Prop := I = J ∧ v = none ∧ h0 = h
set_option maxRecDepth 65536 in
set_option maxHeartbeats 40000000 in
theorem rm_b_inf {l : Launch} {Z : State} {a0 : Array Value} {N : Nat} (hw : ∀ d ∈ tables_1, d.before a0 Z = true) (a : Addr) (s : Addr) (cs : Int32) (h0 : Heap) (I : Lts) (P0 : Sta Z Z.heap "java/lang/String" "COMPACT_STRINGS" "Z" (.int cs)) (G_cs : ¬ cs = (0 : Int32)) (P2 : Fld Z h0 a "java/lang/AbstractStringBuilder" "coder" "B" (.int (0 : Int32))) (P3 : Exa Z h0 s "java/lang/String") (P4 : Fld Z h0 s "java/lang/String" "coder" "B" (.int (0 : Int32))) :
    Cn l Z N b_b_inf #[(.ref a), (.ref s)] h0 I (Q_b_inf Z N a s cs h0 I) := by
  refine Cn.of_wk (Ls := #[.val (.ref a), .val (.ref s)]) (plainFor_of_name (by first | (simp [plainName, overriddenIn]; done) | decide +kernel)) (fun m => ef_b_inf m a s) ?_
  refine Wk.getS (a0 := a0) (pc' := 3) (host := "") (Or.inl (w95 hw)) Via.refl P0 d16_0 rfl ?_
  refine Wk.if_eqN (pc' := 6) d16_3 rfl G_cs ?_
  refine Wk.aloadN (pc' := 7) d16_6 rfl rfl rfl ?_
  refine Wk.getF (a0 := a0) (pc' := 10) (host := "") (Or.inl (w60 hw)) Via.refl P2 d16_7 rfl ?_
  refine Wk.aloadN (pc' := 11) d16_10 rfl rfl rfl ?_
  refine Wk.callV (a0 := a0) (pc' := 14) (k' := 0) (n' := 0) (W := 1) (b := b_s_cod) (argsL := []) (rest := [(.int (0 : Int32))]) (y := (⟨"java/lang/String", "coder", "()B"⟩ : MethodName)) (rm_s_cod hw s cs h0 I P0 G_cs P4) P3 (w59 hw) (w53 hw) (w55 hw) (w55 hw) (w54 hw) (w10 hw) (w56 hw) (by decide) (Nat.le_refl _) id (Nat.le_of_ble_eq_true rfl) (Nat.le_of_ble_eq_true rfl) rfl rfl (Nat.le_of_ble_eq_true rfl) (Nat.le_of_ble_eq_true rfl) rfl pd0 rfl rfl rfl (Nat.le_of_ble_eq_true rfl) d16_11 rfl fun v1 h2 J3 hs4 hQ5 => ?_
  obtain ⟨rfl, rfl, rfl⟩ := hQ5
  show Wk _ h0 0 0 I 14 #[.val (.ref a), .val (.ref s)] [(.int (0 : Int32)), (.int (0 : Int32))]
  refine Wk.icmp_eqY (pc' := 21) d16_14 (by decide) rfl ?_
  exact Wk.return_ rfl d16_21 (Nat.le_of_ble_eq_true rfl) (Nat.le_of_ble_eq_true rfl) ⟨rfl, rfl, rfl⟩
theorem ef_b_gby (m : MethodId) (x0 : Addr) (x1 : Addr) (x2 : Int32) (x3 : Int32) : entryFrame m #[(.ref x0), (.ref x1), (.int x2), (.int x3)] 4 = mkF m 0 #[.val (.ref x0), .val (.ref x1), .val (.int x2), .val (.int x3)] [] := by first | (simp [entryFrame, mkF, argsToLocals, Value.category]; done) | rfl
abbrev b_b_gby : Bdy := ((⟨"java/lang/String", "getBytes", "([BIB)V"⟩ : MethodName), jdk_42_method_147_code, 4, (Option.none : Option Jvm.ClassFile.FieldType), ({ frames := 1, cells := 0, slots := 0, locals := 18 } : Room))
def Q_b_gby (Z : State) (N : Nat) (b : Addr) (qb : ClassId) (cl : List Int32) (cap : Nat) (s : Addr) (v' : Addr) (q : ClassId) (dl : List Int32) (cs : Int32) (h0 : Heap) (I : Lts) (v : Option Value) (h : Heap) (J : Lts) : Prop := I = J ∧ v = none ∧ Keep h0 h [b] ∧ Arv Z h b qb .byte (Int32.ofNat cap) (own_sb (cl ++ dl) cap) (.int (0 : Int32))
set_option maxRecDepth 65536 in
set_option maxHeartbeats 40000000 in
theorem rm_b_gby {l : Launch} {Z : State} {a0 : Array Value} {N : Nat} (hw : ∀ d ∈ tables_1, d.before a0 Z = true) (b : Addr) (qb : ClassId) (cl : List Int32) (cap : Nat) (s : Addr) (v' : Addr) (q : ClassId) (dl : List Int32) (cs : Int32) (h0 : Heap) (I : Lts) (P0 : Sta Z Z.heap "java/lang/String" "COMPACT_STRINGS" "Z" (.int cs)) (G_cs : ¬ cs = (0 : Int32)) (P2 : Exa Z h0 s "java/lang/String") (P3 : Fld Z h0 s "java/lang/String" "value" "[B" (.ref v')) (P4 : Fld Z h0 s "java/lang/String" "coder" "B" (.int (0 : Int32))) (P5 : Arv Z h0 v' q .byte (Int32.ofNat dl.length) (dl.map own_by) (.int (0 : Int32))) (P6 : Arv Z h0 b qb .byte (Int32.ofNat cap) (own_sb cl cap) (.int (0 : Int32))) (P7 : N ≤ b) (P8 : v' ≠ b) (hl : cl.length + dl.length ≤ cap) (hcap : cap < 2147483648) :
    Cn l Z N b_b_gby #[(.ref s), (.ref b), (.int (Int32.ofNat cl.length)), (.int (0 : Int32))] h0 I (Q_b_gby Z N b qb cl cap s v' q dl cs h0 I) := by
  refine Cn.of_wk (Ls := #[.val (.ref s), .val (.ref b), .val (.int (Int32.ofNat cl.length)), .val (.int (0 : Int32))]) (plainFor_of_name (by first | (simp [plainName, overriddenIn]; done) | decide +kernel)) (fun m => ef_b_gby m s b (Int32.ofNat cl.length) (0 : Int32)) ?_
  refine Wk.aloadN (pc' := 1) d17_0 rfl rfl rfl ?_
  refine Wk.callV (a0 := a0) (pc' := 4) (k' := 0) (n' := 0) (W := 0) (b := b_s_cod) (argsL := []) (rest := []) (y := (⟨"java/lang/String", "coder", "()B"⟩ : MethodName)) (rm_s_cod hw s cs h0 I P0 G_cs P4) P2 (w52 hw) (w53 hw) (w55 hw) (w55 hw) (w54 hw) (w10 hw) (w56 hw) (by decide) (Nat.le_refl _) id (Nat.le_of_ble_eq_true rfl) (Nat.le_of_ble_eq_true rfl) rfl rfl (Nat.le_of_ble_eq_true rfl) (Nat.le_of_ble_eq_true rfl) rfl pd0 rfl rfl rfl (Nat.le_of_ble_eq_true rfl) d17_1 rfl fun v1 h2 J3 hs4 hQ5 => ?_
  obtain ⟨rfl, rfl, rfl⟩ := hQ5
  show Wk _ h0 0 0 I 4 #[.val (.ref s), .val (.ref b), .val (.int (Int32.ofNat cl.length)), .val (.int (0 : Int32))] [(.int (0 : Int32))]
  refine Wk.iloadN (pc' := 5) d17_4 rfl rfl ?_
  refine Wk.icmp_neN (pc' := 8) d17_5 rfl rfl ?_
  refine Wk.aloadN (pc' := 9) d17_8 rfl rfl rfl ?_
  refine Wk.getF (a0 := a0) (pc' := 12) (host := "") (Or.inl (w28 hw)) Via.refl P3 d17_9 rfl ?_
  refine Wk.iconst (pc' := 13) (v := 0) d17_12 rfl rfl ?_
  refine Wk.aloadN (pc' := 14) d17_13 rfl rfl rfl ?_
  refine Wk.iloadN (pc' := 15) d17_14 rfl rfl ?_
  refine Wk.iloadN (pc' := 16) d17_15 rfl rfl ?_
  refine Wk.ishl (pc' := 17) d17_16 rfl ?_
  rw [own_shl0]
  refine Wk.aloadN (pc' := 18) d17_17 rfl rfl rfl ?_
  refine Wk.getF (a0 := a0) (pc' := 21) (host := "") (Or.inl (w28 hw)) Via.refl P3 d17_18 rfl ?_
  refine Wk.arraylength (pc' := 22) P5 d17_21 rfl ?_
  refine Wk.arraycopy (a0 := a0) (pc' := 25) (W := 0) (us := (dl.map own_by)) P5 P6 (Or.inl ⟨rfl, rfl⟩) P7 (w101 hw) (w104 hw) (w102 hw) (w103 hw) (by decide) (own_nn (by omega)) (own_nn (by omega)) (own_cp5z (Nat.le_refl _) (by omega)) (own_cp5 hl hcap) (own_us0 (n := dl.length) (List.take_of_length_le (by rw [List.length_map]; exact Nat.le_refl _)).symm (by rw [List.length_map]; exact Nat.le_refl _) (by omega)) (by rw [own_clamp (by omega), own_clamp (by omega), own_sbl (by omega)]; exact hl) rfl d17_22 rfl (Nat.le_of_ble_eq_true rfl) (Nat.le_of_ble_eq_true rfl) (Nat.le_of_ble_eq_true rfl) fun h6 K7 A8 => ?_
  have A9 : Arv Z h6 b qb .byte (Int32.ofNat cap) (own_sb (cl ++ dl) cap) (.int (0 : Int32)) := by
    have q := A8
    rw [own_clamp (by omega), own_clamp (by omega), own_sbapp hl] at q
    exact q
  refine Wk.goto (pc' := 43) d17_25 (by decide) ?_
  exact Wk.return_ rfl d17_43 (Nat.le_of_ble_eq_true rfl) (Nat.le_of_ble_eq_true rfl) ⟨rfl, rfl, ((Keep.refl h0 [b]).trans K7 (allS (Or.inl (by simp)) all0)), A9⟩
theorem ef_b_put (m : MethodId) (x0 : Addr) (x1 : Int32) (x2 : Addr) : entryFrame m #[(.ref x0), (.int x1), (.ref x2)] 3 = mkF m 0 #[.val (.ref x0), .val (.int x1), .val (.ref x2)] [] := by first | (simp [entryFrame, mkF, argsToLocals, Value.category]; done) | rfl
abbrev b_b_put : Bdy := ((⟨"java/lang/AbstractStringBuilder", "putStringAt", "(ILjava/lang/String;)V"⟩ : MethodName), jdk_68_method_73_code, 3, (Option.none : Option Jvm.ClassFile.FieldType), ({ frames := 2, cells := 0, slots := 0, locals := 33 } : Room))
def Q_b_put (Z : State) (N : Nat) (a : Addr) (b : Addr) (qb : ClassId) (cl : List Int32) (cap : Nat) (s : Addr) (v' : Addr) (q : ClassId) (dl : List Int32) (cs : Int32) (h0 : Heap) (I : Lts) (v : Option Value) (h : Heap) (J : Lts) : Prop := I = J ∧ v = none ∧ Keep h0 h [b] ∧ Arv Z h b qb .byte (Int32.ofNat cap) (own_sb (cl ++ dl) cap) (.int (0 : Int32))
set_option maxRecDepth 65536 in
set_option maxHeartbeats 40000000 in
theorem rm_b_put {l : Launch} {Z : State} {a0 : Array Value} {N : Nat} (hw : ∀ d ∈ tables_1, d.before a0 Z = true) (a : Addr) (b : Addr) (qb : ClassId) (cl : List Int32) (cap : Nat) (s : Addr) (v' : Addr) (q : ClassId) (dl : List Int32) (cs : Int32) (h0 : Heap) (I : Lts) (P0 : Sta Z Z.heap "java/lang/String" "COMPACT_STRINGS" "Z" (.int cs)) (G_cs : ¬ cs = (0 : Int32)) (P2 : Exa Z h0 a "java/lang/StringBuilder") (P3 : Fld Z h0 a "java/lang/AbstractStringBuilder" "value" "[B" (.ref b)) (P4 : Fld Z h0 a "java/lang/AbstractStringBuilder" "coder" "B" (.int (0 : Int32))) (P5 : Fld Z h0 a "java/lang/AbstractStringBuilder" "count" "I" (.int (Int32.ofNat cl.length))) (P6 : Arv Z h0 b qb .byte (Int32.ofNat cap) (own_sb cl cap) (.int (0 : Int32))) (P7 : Exa Z h0 s "java/lang/String") (P8 : Fld Z h0 s "java/lang/String" "value" "[B" (.ref v')) (P9 : Fld Z h0 s "java/lang/String" "coder" "B" (.int (0 : Int32))) (P10 : Arv Z h0 v' q .byte (Int32.ofNat dl.length) (dl.map own_by) (.int (0 : Int32))) (P11 : N ≤ b) (P12 : v' ≠ b) (hl : cl.length + dl.length ≤ cap) (hcap : cap < 2147483648) :
    Cn l Z N b_b_put #[(.ref a), (.int (Int32.ofNat cl.length)), (.ref s)] h0 I (Q_b_put Z N a b qb cl cap s v' q dl cs h0 I) := by
  refine Cn.of_wk (Ls := #[.val (.ref a), .val (.int (Int32.ofNat cl.length)), .val (.ref s)]) (plainFor_of_name (by first | (simp [plainName, overriddenIn]; done) | decide +kernel)) (fun m => ef_b_put m a (Int32.ofNat cl.length) s) ?_
  refine Wk.aloadN (pc' := 1) d15_0 rfl rfl rfl ?_
  refine Wk.aloadN (pc' := 2) d15_1 rfl rfl rfl ?_
  refine Wk.callP (a0 := a0) (pc' := 5) (k' := 0) (n' := 0) (W := 0) (b := b_b_inf) (argsL := [(.ref s)]) (rest := []) (rm_b_inf hw a s cs h0 I P0 G_cs P4 P7 P9) P2 (w90 hw) (w83 hw) rfl (w92 hw) (w91 hw) (w44 hw) (w94 hw) (by decide) (Nat.le_refl _) id (Nat.le_of_ble_eq_true rfl) (Nat.le_of_ble_eq_true rfl) rfl rfl (Nat.le_of_ble_eq_true rfl) (Nat.le_of_ble_eq_true rfl) rfl pd10 rfl rfl rfl (Nat.le_of_ble_eq_true rfl) d15_2 rfl fun v1 h2 J3 hs4 hQ5 => ?_
  obtain ⟨rfl, rfl, rfl⟩ := hQ5
  show Wk _ h0 0 0 I 5 #[.val (.ref a), .val (.int (Int32.ofNat cl.length)), .val (.ref s)] []
  refine Wk.aloadN (pc' := 6) d15_5 rfl rfl rfl ?_
  refine Wk.aloadN (pc' := 7) d15_6 rfl rfl rfl ?_
  refine Wk.getF (a0 := a0) (pc' := 10) (host := "") (Or.inl (w62 hw)) Via.refl P3 d15_7 rfl ?_
  refine Wk.iloadN (pc' := 11) d15_10 rfl rfl ?_
  refine Wk.aloadN (pc' := 12) d15_11 rfl rfl rfl ?_
  refine Wk.getF (a0 := a0) (pc' := 15) (host := "") (Or.inl (w60 hw)) Via.refl P4 d15_12 rfl ?_
  refine Wk.callV (a0 := a0) (pc' := 18) (k' := 0) (n' := 0) (W := 0) (b := b_b_gby) (argsL := [(.ref b), (.int (Int32.ofNat cl.length)), (.int (0 : Int32))]) (rest := []) (y := (⟨"java/lang/String", "getBytes", "([BIB)V"⟩ : MethodName)) (rm_b_gby hw b qb cl cap s v' q dl cs h0 I P0 G_cs P7 P8 P9 P10 P6 P11 P12 hl hcap) P7 (w96 hw) (w97 hw) (w99 hw) (w99 hw) (w98 hw) (w10 hw) (w100 hw) (by decide) (Nat.le_refl _) id (Nat.le_of_ble_eq_true rfl) (Nat.le_of_ble_eq_true rfl) rfl rfl (Nat.le_of_ble_eq_true rfl) (Nat.le_of_ble_eq_true rfl) rfl pd11 rfl rfl rfl (Nat.le_of_ble_eq_true rfl) d15_15 rfl fun v6 h7 J8 hs9 hQ10 => ?_
  obtain ⟨rfl, rfl, K11, g12⟩ := hQ10
  show Wk _ h7 0 0 I 18 #[.val (.ref a), .val (.int (Int32.ofNat cl.length)), .val (.ref s)] []
  exact Wk.return_ rfl d15_18 (Nat.le_of_ble_eq_true rfl) (Nat.le_of_ble_eq_true rfl) ⟨rfl, rfl, ((Keep.refl h0 [b]).trans K11 (allS (Or.inl (by simp)) all0)), g12⟩
theorem ef_b_aps (m : MethodId) (x0 : Addr) (x1 : Addr) : entryFrame m #[(.ref x0), (.ref x1)] 3 = mkF m 0 #[.val (.ref x0), .val (.ref x1), .unset] [] := by first | (simp [entryFrame, mkF, argsToLocals, Value.category]; done) | rfl
abbrev b_b_aps : Bdy := ((⟨"java/lang/AbstractStringBuilder", "append", "(Ljava/lang/String;)Ljava/lang/AbstractStringBuilder;"⟩ : MethodName), jdk_68_method_22_code, 3, (Option.some (Jvm.ClassFile.FieldType.object "java/lang/AbstractStringBuilder")), ({ frames := 3, cells := 0, slots := 0, locals := 47 } : Room))
def Q_b_aps (Z : State) (N : Nat) (a : Addr) (b : Addr) (qb : ClassId) (cl : List Int32) (cap : Nat) (s : Addr) (v' : Addr) (q : ClassId) (dl : List Int32) (cs : Int32) (h0 : Heap) (I : Lts) (v : Option Value) (h : Heap) (J : Lts) : Prop := I = J ∧ v = some (.ref a) ∧ Keep h0 h [a, b] ∧ Fld Z h a "java/lang/AbstractStringBuilder" "value" "[B" (.ref b) ∧ Fld Z h a "java/lang/AbstractStringBuilder" "coder" "B" (.int (0 : Int32)) ∧ Fld Z h a "java/lang/AbstractStringBuilder" "count" "I" (.int (Int32.ofNat (cl ++ dl).length)) ∧ Arv Z h b qb .byte (Int32.ofNat cap) (own_sb (cl ++ dl) cap) (.int (0 : Int32))
set_option maxRecDepth 65536 in
set_option maxHeartbeats 40000000 in
theorem rm_b_aps {l : Launch} {Z : State} {a0 : Array Value} {N : Nat} (hw : ∀ d ∈ tables_1, d.before a0 Z = true) (a : Addr) (b : Addr) (qb : ClassId) (cl : List Int32) (cap : Nat) (s : Addr) (v' : Addr) (q : ClassId) (dl : List Int32) (cs : Int32) (h0 : Heap) (I : Lts) (P0 : Sta Z Z.heap "java/lang/String" "COMPACT_STRINGS" "Z" (.int cs)) (G_cs : ¬ cs = (0 : Int32)) (P2 : Exa Z h0 a "java/lang/StringBuilder") (P3 : Fld Z h0 a "java/lang/AbstractStringBuilder" "value" "[B" (.ref b)) (P4 : Fld Z h0 a "java/lang/AbstractStringBuilder" "coder" "B" (.int (0 : Int32))) (P5 : Fld Z h0 a "java/lang/AbstractStringBuilder" "count" "I" (.int (Int32.ofNat cl.length))) (P6 : Arv Z h0 b qb .byte (Int32.ofNat cap) (own_sb cl cap) (.int (0 : Int32))) (P7 : Exa Z h0 s "java/lang/String") (P8 : Fld Z h0 s "java/lang/String" "value" "[B" (.ref v')) (P9 : Fld Z h0 s "java/lang/String" "coder" "B" (.int (0 : Int32))) (P10 : Arv Z h0 v' q .byte (Int32.ofNat dl.length) (dl.map own_by) (.int (0 : Int32))) (P11 : N ≤ a) (P12 : N ≤ b) (P13 : a ≠ b) (P14 : s ≠ b) (P15 : v' ≠ b) (hl : cl.length + dl.length ≤ cap) (hcap : cap < 2147483648) :
    Cn l Z N b_b_aps #[(.ref a), (.ref s)] h0 I (Q_b_aps Z N a b qb cl cap s v' q dl cs h0 I) := by
  refine Cn.of_wk (Ls := #[.val (.ref a), .val (.ref s), .unset]) (plainFor_of_name (by first | (simp [plainName, overriddenIn]; done) | decide +kernel)) (fun m => ef_b_aps m a s) ?_
  refine Wk.aloadN (pc' := 1) d13_0 rfl rfl rfl ?_
  refine Wk.ifnonnullY (pc' := 9) d13_1 (by decide) ?_
  refine Wk.aloadN (pc' := 10) d13_9 rfl rfl rfl ?_
  refine Wk.callV (a0 := a0) (pc' := 13) (k' := 0) (n' := 0) (W := 0) (b := b_s_len) (argsL := []) (rest := []) (y := (⟨"java/lang/String", "length", "()I"⟩ : MethodName)) (rm_s_len hw s v' q dl cs h0 I P0 G_cs P7 P8 P9 P10) P7 (w47 hw) (w48 hw) (w50 hw) (w50 hw) (w49 hw) (w10 hw) (w51 hw) (by decide) (Nat.le_refl _) id (Nat.le_of_ble_eq_true rfl) (Nat.le_of_ble_eq_true rfl) rfl rfl (Nat.le_of_ble_eq_true rfl) (Nat.le_of_ble_eq_true rfl) rfl pd9 rfl rfl rfl (Nat.le_of_ble_eq_true rfl) d13_10 rfl fun v1 h2 J3 hs4 hQ5 => ?_
  obtain ⟨rfl, rfl, rfl⟩ := hQ5
  show Wk _ h0 0 0 I 13 #[.val (.ref a), .val (.ref s), .unset] [(.int (Int32.ofNat dl.length))]
  refine Wk.istoreN (pc' := 14) #[.val (.ref a), .val (.ref s), .val (.int (Int32.ofNat dl.length))] d13_13 rfl rfl ?_
  refine Wk.aloadN (pc' := 15) d13_14 rfl rfl rfl ?_
  refine Wk.aloadN (pc' := 16) d13_15 rfl rfl rfl ?_
  refine Wk.getF (a0 := a0) (pc' := 19) (host := "") (Or.inl (w78 hw)) Via.refl P5 d13_16 rfl ?_
  refine Wk.iloadN (pc' := 20) d13_19 rfl rfl ?_
  refine Wk.iadd (pc' := 21) d13_20 rfl ?_
  rw [own_addl]
  refine Wk.callP (a0 := a0) (pc' := 24) (k' := 0) (n' := 0) (W := 0) (b := b_b_ens) (argsL := [(.int (Int32.ofNat (cl ++ dl).length))]) (rest := []) (rm_b_ens hw a b qb (cl ++ dl).length cap (own_sb cl cap) h0 I P3 P4 P6 (by rw [List.length_append]; exact hl) hcap) P2 (w80 hw) (w83 hw) rfl (w82 hw) (w81 hw) (w44 hw) (w84 hw) (by decide) (Nat.le_refl _) id (Nat.le_of_ble_eq_true rfl) (Nat.le_of_ble_eq_true rfl) rfl rfl (Nat.le_of_ble_eq_true rfl) (Nat.le_of_ble_eq_true rfl) rfl pd12 rfl rfl rfl (Nat.le_of_ble_eq_true rfl) d13_21 rfl fun v6 h7 J8 hs9 hQ10 => ?_
  obtain ⟨rfl, rfl, rfl⟩ := hQ10
  show Wk _ h0 0 0 I 24 #[.val (.ref a), .val (.ref s), .val (.int (Int32.ofNat dl.length))] []
  refine Wk.aloadN (pc' := 25) d13_24 rfl rfl rfl ?_
  refine Wk.aloadN (pc' := 26) d13_25 rfl rfl rfl ?_
  refine Wk.getF (a0 := a0) (pc' := 29) (host := "") (Or.inl (w78 hw)) Via.refl P5 d13_26 rfl ?_
  refine Wk.aloadN (pc' := 30) d13_29 rfl rfl rfl ?_
  refine Wk.callP (a0 := a0) (pc' := 33) (k' := 0) (n' := 0) (W := 0) (b := b_b_put) (argsL := [(.int (Int32.ofNat cl.length)), (.ref s)]) (rest := []) (rm_b_put hw a b qb cl cap s v' q dl cs h0 I P0 G_cs P2 P3 P4 P5 P6 P7 P8 P9 P10 P12 P15 hl hcap) P2 (w85 hw) (w83 hw) rfl (w87 hw) (w86 hw) (w44 hw) (w89 hw) (by decide) (Nat.le_refl _) id (Nat.le_of_ble_eq_true rfl) (Nat.le_of_ble_eq_true rfl) rfl rfl (Nat.le_of_ble_eq_true rfl) (Nat.le_of_ble_eq_true rfl) rfl pd13 rfl rfl rfl (Nat.le_of_ble_eq_true rfl) d13_30 rfl fun v11 h12 J13 hs14 hQ15 => ?_
  obtain ⟨rfl, rfl, K16, g17⟩ := hQ15
  show Wk _ h12 0 0 I 33 #[.val (.ref a), .val (.ref s), .val (.int (Int32.ofNat dl.length))] []
  refine Wk.aloadN (pc' := 34) d13_33 rfl rfl rfl ?_
  refine Wk.dup (pc' := 35) d13_34 rfl rfl ?_
  have f18 := (P5.keep K16 (ninS P13 nin0))
  refine Wk.getF (a0 := a0) (pc' := 38) (host := "") (Or.inl (w78 hw)) Via.refl f18 d13_35 rfl ?_
  refine Wk.iloadN (pc' := 39) d13_38 rfl rfl ?_
  refine Wk.iadd (pc' := 40) d13_39 rfl ?_
  rw [own_addl]
  have f19 := (P2.keep K16)
  refine Wk.putF (a0 := a0) (pc' := 43) (host := "") (Or.inl (w78 hw)) Via.refl P11 f18 f19 (Or.inl (w79 hw)) (w35 hw) (ty := .int) (by decide) rfl rfl d13_40 rfl fun h20 W21 => ?_
  have F22 := f18.same W21
  refine Wk.aloadN (pc' := 44) d13_43 rfl rfl rfl ?_
  have f23 := ((P3.keep K16 (ninS P13 nin0)).other W21 (Or.inr (slot_ne (Or.inl (w63 hw)) (Or.inl (w79 hw)) (by decide) (t := (.array .byte)) (t' := .int) (by decide) (by decide))))
  have f24 := ((P4.keep K16 (ninS P13 nin0)).other W21 (Or.inr (slot_ne (Or.inl (w61 hw)) (Or.inl (w79 hw)) (by decide) (t := .byte) (t' := .int) (by decide) (by decide))))
  have f25 := (g17.other W21 (Ne.symm P13))
  exact Wk.areturn rfl rfl rfl d13_44 (Nat.le_of_ble_eq_true rfl) (Nat.le_of_ble_eq_true rfl) ⟨rfl, rfl, (((Keep.refl h0 [a, b]).trans K16 (allS (Or.inl (by simp)) all0)).wr W21 (Or.inl (by simp))), f23, f24, F22, f25⟩
theorem ef_b_apS (m : MethodId) (x0 : Addr) (x1 : Addr) : entryFrame m #[(.ref x0), (.ref x1)] 2 = mkF m 0 #[.val (.ref x0), .val (.ref x1)] [] := by first | (simp [entryFrame, mkF, argsToLocals, Value.category]; done) | rfl
abbrev b_b_apS : Bdy := ((⟨"java/lang/StringBuilder", "append", "(Ljava/lang/String;)Ljava/lang/StringBuilder;"⟩ : MethodName), jdk_67_method_7_code, 2, (Option.some (Jvm.ClassFile.FieldType.object "java/lang/StringBuilder")), ({ frames := 4, cells := 0, slots := 0, locals := 61 } : Room))
def Q_b_apS (Z : State) (N : Nat) (a : Addr) (b : Addr) (qb : ClassId) (cl : List Int32) (cap : Nat) (s : Addr) (v' : Addr) (q : ClassId) (dl : List Int32) (cs : Int32) (h0 : Heap) (I : Lts) (v : Option Value) (h : Heap) (J : Lts) : Prop := I = J ∧ v = some (.ref a) ∧ Keep h0 h [a, b] ∧ Fld Z h a "java/lang/AbstractStringBuilder" "value" "[B" (.ref b) ∧ Fld Z h a "java/lang/AbstractStringBuilder" "coder" "B" (.int (0 : Int32)) ∧ Fld Z h a "java/lang/AbstractStringBuilder" "count" "I" (.int (Int32.ofNat (cl ++ dl).length)) ∧ Arv Z h b qb .byte (Int32.ofNat cap) (own_sb (cl ++ dl) cap) (.int (0 : Int32))
set_option maxRecDepth 65536 in
set_option maxHeartbeats 40000000 in
theorem rm_b_apS {l : Launch} {Z : State} {a0 : Array Value} {N : Nat} (hw : ∀ d ∈ tables_1, d.before a0 Z = true) (a : Addr) (b : Addr) (qb : ClassId) (cl : List Int32) (cap : Nat) (s : Addr) (v' : Addr) (q : ClassId) (dl : List Int32) (cs : Int32) (h0 : Heap) (I : Lts) (P0 : Sta Z Z.heap "java/lang/String" "COMPACT_STRINGS" "Z" (.int cs)) (G_cs : ¬ cs = (0 : Int32)) (P2 : Exa Z h0 a "java/lang/StringBuilder") (P3 : Fld Z h0 a "java/lang/AbstractStringBuilder" "value" "[B" (.ref b)) (P4 : Fld Z h0 a "java/lang/AbstractStringBuilder" "coder" "B" (.int (0 : Int32))) (P5 : Fld Z h0 a "java/lang/AbstractStringBuilder" "count" "I" (.int (Int32.ofNat cl.length))) (P6 : Arv Z h0 b qb .byte (Int32.ofNat cap) (own_sb cl cap) (.int (0 : Int32))) (P7 : Exa Z h0 s "java/lang/String") (P8 : Fld Z h0 s "java/lang/String" "value" "[B" (.ref v')) (P9 : Fld Z h0 s "java/lang/String" "coder" "B" (.int (0 : Int32))) (P10 : Arv Z h0 v' q .byte (Int32.ofNat dl.length) (dl.map own_by) (.int (0 : Int32))) (P11 : N ≤ a) (P12 : N ≤ b) (P13 : a ≠ b) (P14 : s ≠ b) (P15 : v' ≠ b) (hl : cl.length + dl.length ≤ cap) (hcap : cap < 2147483648) :
    Cn l Z N b_b_apS #[(.ref a), (.ref s)] h0 I (Q_b_apS Z N a b qb cl cap s v' q dl cs h0 I) := by
  refine Cn.of_wk (Ls := #[.val (.ref a), .val (.ref s)]) (plainFor_of_name (by first | (simp [plainName, overriddenIn]; done) | decide +kernel)) (fun m => ef_b_apS m a s) ?_
  refine Wk.aloadN (pc' := 1) d12_0 rfl rfl rfl ?_
  refine Wk.aloadN (pc' := 2) d12_1 rfl rfl rfl ?_
  refine Wk.callZ (a0 := a0) (pc' := 5) (k' := 0) (n' := 0) (W := 0) (b := b_b_aps) (argsL := [(.ref s)]) (rest := []) (rm_b_aps hw a b qb cl cap s v' q dl cs h0 I P0 G_cs P2 P3 P4 P5 P6 P7 P8 P9 P10 P11 P12 P13 P14 P15 hl hcap) (Ins.self P2) (w75 hw) (w83 hw) rfl (by decide) (w66 hw) (w76 hw) (by decide) (w44 hw) (w77 hw) (Nat.le_refl _) id (Nat.le_of_ble_eq_true rfl) (Nat.le_of_ble_eq_true rfl) rfl rfl (Nat.le_of_ble_eq_true rfl) (Nat.le_of_ble_eq_true rfl) rfl pd14 rfl rfl rfl (Nat.le_of_ble_eq_true rfl) d12_2 rfl fun v1 h2 J3 hs4 hQ5 => ?_
  obtain ⟨rfl, rfl, K6, g7, g8, g9, g10⟩ := hQ5
  show Wk _ h2 0 0 I 5 #[.val (.ref a), .val (.ref s)] [(.ref a)]
  refine Wk.pop (pc' := 6) d12_5 rfl rfl ?_
  refine Wk.aloadN (pc' := 7) d12_6 rfl rfl rfl ?_
  exact Wk.areturn rfl rfl rfl d12_7 (Nat.le_of_ble_eq_true rfl) (Nat.le_of_ble_eq_true rfl) ⟨rfl, rfl, ((Keep.refl h0 [a, b]).trans K6 (allS (Or.inl (by simp)) (allS (Or.inl (by simp)) all0))), g7, g8, g9, g10⟩
theorem ef_b_apB (m : MethodId) (x0 : Addr) (x1 : Addr) : entryFrame m #[(.ref x0), (.ref x1)] 2 = mkF m 0 #[.val (.ref x0), .val (.ref x1)] [] := by first | (simp [entryFrame, mkF, argsToLocals, Value.category]; done) | rfl
abbrev b_b_apB : Bdy := ((⟨"java/lang/StringBuilder", "append", "(Ljava/lang/String;)Ljava/lang/AbstractStringBuilder;"⟩ : MethodName), jdk_67_method_80_code, 2, (Option.some (Jvm.ClassFile.FieldType.object "java/lang/AbstractStringBuilder")), ({ frames := 5, cells := 0, slots := 0, locals := 74 } : Room))
def Q_b_apB (Z : State) (N : Nat) (a : Addr) (b : Addr) (qb : ClassId) (cl : List Int32) (cap : Nat) (s : Addr) (v' : Addr) (q : ClassId) (dl : List Int32) (cs : Int32) (h0 : Heap) (I : Lts) (v : Option Value) (h : Heap) (J : Lts) : Prop := I = J ∧ v = some (.ref a) ∧ Keep h0 h [a, b] ∧ Fld Z h a "java/lang/AbstractStringBuilder" "value" "[B" (.ref b) ∧ Fld Z h a "java/lang/AbstractStringBuilder" "coder" "B" (.int (0 : Int32)) ∧ Fld Z h a "java/lang/AbstractStringBuilder" "count" "I" (.int (Int32.ofNat (cl ++ dl).length)) ∧ Arv Z h b qb .byte (Int32.ofNat cap) (own_sb (cl ++ dl) cap) (.int (0 : Int32))
set_option maxRecDepth 65536 in
set_option maxHeartbeats 40000000 in
theorem rm_b_apB {l : Launch} {Z : State} {a0 : Array Value} {N : Nat} (hw : ∀ d ∈ tables_1, d.before a0 Z = true) (a : Addr) (b : Addr) (qb : ClassId) (cl : List Int32) (cap : Nat) (s : Addr) (v' : Addr) (q : ClassId) (dl : List Int32) (cs : Int32) (h0 : Heap) (I : Lts) (P0 : Sta Z Z.heap "java/lang/String" "COMPACT_STRINGS" "Z" (.int cs)) (G_cs : ¬ cs = (0 : Int32)) (P2 : Exa Z h0 a "java/lang/StringBuilder") (P3 : Fld Z h0 a "java/lang/AbstractStringBuilder" "value" "[B" (.ref b)) (P4 : Fld Z h0 a "java/lang/AbstractStringBuilder" "coder" "B" (.int (0 : Int32))) (P5 : Fld Z h0 a "java/lang/AbstractStringBuilder" "count" "I" (.int (Int32.ofNat cl.length))) (P6 : Arv Z h0 b qb .byte (Int32.ofNat cap) (own_sb cl cap) (.int (0 : Int32))) (P7 : Exa Z h0 s "java/lang/String") (P8 : Fld Z h0 s "java/lang/String" "value" "[B" (.ref v')) (P9 : Fld Z h0 s "java/lang/String" "coder" "B" (.int (0 : Int32))) (P10 : Arv Z h0 v' q .byte (Int32.ofNat dl.length) (dl.map own_by) (.int (0 : Int32))) (P11 : N ≤ a) (P12 : N ≤ b) (P13 : a ≠ b) (P14 : s ≠ b) (P15 : v' ≠ b) (hl : cl.length + dl.length ≤ cap) (hcap : cap < 2147483648) :
    Cn l Z N b_b_apB #[(.ref a), (.ref s)] h0 I (Q_b_apB Z N a b qb cl cap s v' q dl cs h0 I) := by
  refine Cn.of_wk (Ls := #[.val (.ref a), .val (.ref s)]) (plainFor_of_name (by first | (simp [plainName, overriddenIn]; done) | decide +kernel)) (fun m => ef_b_apB m a s) ?_
  refine Wk.aloadN (pc' := 1) d11_0 rfl rfl rfl ?_
  refine Wk.aloadN (pc' := 2) d11_1 rfl rfl rfl ?_
  refine Wk.callV (a0 := a0) (pc' := 5) (k' := 0) (n' := 0) (W := 0) (b := b_b_apS) (argsL := [(.ref s)]) (rest := []) (y := (⟨"java/lang/StringBuilder", "append", "(Ljava/lang/String;)Ljava/lang/StringBuilder;"⟩ : MethodName)) (rm_b_apS hw a b qb cl cap s v' q dl cs h0 I P0 G_cs P2 P3 P4 P5 P6 P7 P8 P9 P10 P11 P12 P13 P14 P15 hl hcap) P2 (w70 hw) (w71 hw) (w73 hw) (w73 hw) (w72 hw) (w36 hw) (w74 hw) (by decide) (Nat.le_refl _) id (Nat.le_of_ble_eq_true rfl) (Nat.le_of_ble_eq_true rfl) rfl rfl (Nat.le_of_ble_eq_true rfl) (Nat.le_of_ble_eq_true rfl) rfl pd15 rfl rfl rfl (Nat.le_of_ble_eq_true rfl) d11_2 rfl fun v1 h2 J3 hs4 hQ5 => ?_
  obtain ⟨rfl, rfl, K6, g7, g8, g9, g10⟩ := hQ5
  show Wk _ h2 0 0 I 5 #[.val (.ref a), .val (.ref s)] [(.ref a)]
  exact Wk.areturn rfl rfl rfl d11_5 (Nat.le_of_ble_eq_true rfl) (Nat.le_of_ble_eq_true rfl) ⟨rfl, rfl, ((Keep.refl h0 [a, b]).trans K6 (allS (Or.inl (by simp)) (allS (Or.inl (by simp)) all0))), g7, g8, g9, g10⟩
theorem ef_b_can (m : MethodId) (x0 : Int32) : entryFrame m #[(.int x0)] 1 = mkF m 0 #[.val (.int x0)] [] := by first | (simp [entryFrame, mkF, argsToLocals, Value.category]; done) | rfl
abbrev b_b_can : Bdy := ((⟨"java/lang/StringLatin1", "canEncode", "(C)Z"⟩ : MethodName), jdk_43_method_3_code, 1, (Option.some Jvm.ClassFile.FieldType.boolean), ({ frames := 0, cells := 0, slots := 0, locals := 0 } : Room))
def Q_b_can (Z : State) (N : Nat) (c : Int32) (h0 : Heap) (I : Lts) (v : Option Value) (h : Heap) (J : Lts) : Prop := I = J ∧ v = some (.int (1 : Int32)) ∧ h0 = h
set_option maxRecDepth 65536 in
set_option maxHeartbeats 40000000 in
theorem rm_b_can {l : Launch} {Z : State} {a0 : Array Value} {N : Nat} (hw : ∀ d ∈ tables_1, d.before a0 Z = true) (c : Int32) (h0 : Heap) (I : Lts) (hc : own_c c) :
    Cn l Z N b_b_can #[(.int c)] h0 I (Q_b_can Z N c h0 I) := by
  refine Cn.of_wk (Ls := #[.val (.int c)]) (plainFor_of_name (by first | (simp [plainName, overriddenIn]; done) | decide +kernel)) (fun m => ef_b_can m c) ?_
  refine Wk.iloadN (pc' := 1) d21_0 rfl rfl ?_
  refine Wk.sipush (pc' := 4) (v := 255) d21_1 rfl rfl ?_
  refine Wk.icmp_gtN (pc' := 7) d21_4 rfl hc.2 ?_
  refine Wk.iconst (pc' := 8) (v := 1) d21_7 rfl rfl ?_
  refine Wk.goto (pc' := 12) d21_8 (by decide) ?_
  exact Wk.zreturn rfl (by simp) d21_12 (Nat.le_of_ble_eq_true rfl) (Nat.le_of_ble_eq_true rfl) ⟨rfl, rfl, rfl⟩
theorem ef_b_apc (m : MethodId) (x0 : Addr) (x1 : Int32) : entryFrame m #[(.ref x0), (.int x1)] 2 = mkF m 0 #[.val (.ref x0), .val (.int x1)] [] := by first | (simp [entryFrame, mkF, argsToLocals, Value.category]; done) | rfl
abbrev b_b_apc : Bdy := ((⟨"java/lang/AbstractStringBuilder", "append", "(C)Ljava/lang/AbstractStringBuilder;"⟩ : MethodName), jdk_68_method_31_code, 2, (Option.some (Jvm.ClassFile.FieldType.object "java/lang/AbstractStringBuilder")), ({ frames := 1, cells := 0, slots := 0, locals := 14 } : Room))
def Q_b_apc (Z : State) (N : Nat) (a : Addr) (b : Addr) (qb : ClassId) (cl : List Int32) (cap : Nat) (c : Int32) (cs : Int32) (h0 : Heap) (I : Lts) (v : Option Value) (h : Heap) (J : Lts) : Prop := I = J ∧ v = some (.ref a) ∧ Keep h0 h [a, b] ∧ Fld Z h a "java/lang/AbstractStringBuilder" "value" "[B" (.ref b) ∧ Fld Z h a "java/lang/AbstractStringBuilder" "coder" "B" (.int (0 : Int32)) ∧ Fld Z h a "java/lang/AbstractStringBuilder" "count" "I" (.int (Int32.ofNat (cl ++ [c]).length)) ∧ Arv Z h b qb .byte (Int32.ofNat cap) (own_sb (cl ++ [c]) cap) (.int (0 : Int32))
set_option maxRecDepth 65536 in
set_option maxHeartbeats 40000000 in
theorem rm_b_apc {l : Launch} {Z : State} {a0 : Array Value} {N : Nat} (hw : ∀ d ∈ tables_1, d.before a0 Z = true) (a : Addr) (b : Addr) (qb : ClassId) (cl : List Int32) (cap : Nat) (c : Int32) (cs : Int32) (h0 : Heap) (I : Lts) (P0 : Sta Z Z.heap "java/lang/String" "COMPACT_STRINGS" "Z" (.int cs)) (G_cs : ¬ cs = (0 : Int32)) (P2 : Exa Z h0 a "java/lang/StringBuilder") (P3 : Fld Z h0 a "java/lang/AbstractStringBuilder" "value" "[B" (.ref b)) (P4 : Fld Z h0 a "java/lang/AbstractStringBuilder" "coder" "B" (.int (0 : Int32))) (P5 : Fld Z h0 a "java/lang/AbstractStringBuilder" "count" "I" (.int (Int32.ofNat cl.length))) (P6 : Arv Z h0 b qb .byte (Int32.ofNat cap) (own_sb cl cap) (.int (0 : Int32))) (P7 : N ≤ a) (P8 : N ≤ b) (P9 : a ≠ b) (hl : cl.length < cap) (hcap : cap < 2147483648) (hc : own_c c) :
    Cn l Z N b_b_apc #[(.ref a), (.int c)] h0 I (Q_b_apc Z N a b qb cl cap c cs h0 I) := by
  refine Cn.of_wk (Ls := #[.val (.ref a), .val (.int c)]) (plainFor_of_name (by first | (simp [plainName, overriddenIn]; done) | decide +kernel)) (fun m => ef_b_apc m a c) ?_
  refine Wk.aloadN (pc' := 1) d19_0 rfl rfl rfl ?_
  refine Wk.aloadN (pc' := 2) d19_1 rfl rfl rfl ?_
  refine Wk.getF (a0 := a0) (pc' := 5) (host := "") (Or.inl (w78 hw)) Via.refl P5 d19_2 rfl ?_
  refine Wk.iconst (pc' := 6) (v := 1) d19_5 rfl rfl ?_
  refine Wk.iadd (pc' := 7) d19_6 rfl ?_
  rw [own_snl cl c]
  refine Wk.callP (a0 := a0) (pc' := 10) (k' := 0) (n' := 0) (W := 0) (b := b_b_ens) (argsL := [(.int (Int32.ofNat (cl ++ [c]).length))]) (rest := []) (rm_b_ens hw a b qb (cl ++ [c]).length cap (own_sb cl cap) h0 I P3 P4 P6 (by rw [List.length_append]; exact hl) hcap) P2 (w80 hw) (w83 hw) rfl (w82 hw) (w81 hw) (w44 hw) (w84 hw) (by decide) (Nat.le_refl _) id (Nat.le_of_ble_eq_true rfl) (Nat.le_of_ble_eq_true rfl) rfl rfl (Nat.le_of_ble_eq_true rfl) (Nat.le_of_ble_eq_true rfl) rfl pd12 rfl rfl rfl (Nat.le_of_ble_eq_true rfl) d19_7 rfl fun v1 h2 J3 hs4 hQ5 => ?_
  obtain ⟨rfl, rfl, rfl⟩ := hQ5
  show Wk _ h0 0 0 I 10 #[.val (.ref a), .val (.int c)] []
  refine Wk.aloadN (pc' := 11) d19_10 rfl rfl rfl ?_
  refine Wk.callV (a0 := a0) (pc' := 14) (k' := 0) (n' := 0) (W := 0) (b := b_b_lat) (argsL := []) (rest := []) (y := (⟨"java/lang/AbstractStringBuilder", "isLatin1", "()Z"⟩ : MethodName)) (rm_b_lat hw a cs h0 I P0 G_cs P4) P2 (w117 hw) (w118 hw) (w120 hw) (w120 hw) (w119 hw) (w44 hw) (w121 hw) (by decide) (Nat.le_refl _) id (Nat.le_of_ble_eq_true rfl) (Nat.le_of_ble_eq_true rfl) rfl rfl (Nat.le_of_ble_eq_true rfl) (Nat.le_of_ble_eq_true rfl) rfl pd3 rfl rfl rfl (Nat.le_of_ble_eq_true rfl) d19_11 rfl fun v6 h7 J8 hs9 hQ10 => ?_
  obtain ⟨rfl, rfl, rfl⟩ := hQ10
  show Wk _ h0 0 0 I 14 #[.val (.ref a), .val (.int c)] [(.int (1 : Int32))]
  refine Wk.if_eqN (pc' := 17) d19_14 rfl (by decide) ?_
  refine Wk.iloadN (pc' := 18) d19_17 rfl rfl ?_
  refine Wk.callS (a0 := a0) (pc' := 21) (k' := 0) (n' := 0) (W := 0) (b := b_b_can) (argsL := [(.int c)]) (rest := []) (rm_b_can hw c h0 I hc) (w122 hw) (w123 hw) (w124 hw) (w125 hw) (by decide) (Nat.le_refl _) id (Nat.le_of_ble_eq_true rfl) (Nat.le_of_ble_eq_true rfl) rfl rfl (Nat.le_of_ble_eq_true rfl) (Nat.le_of_ble_eq_true rfl) rfl pd16 rfl rfl rfl (Nat.le_of_ble_eq_true rfl) d19_18 rfl fun v11 h12 J13 hs14 hQ15 => ?_
  obtain ⟨rfl, rfl, rfl⟩ := hQ15
  show Wk _ h0 0 0 I 21 #[.val (.ref a), .val (.int c)] [(.int (1 : Int32))]
  refine Wk.if_eqN (pc' := 24) d19_21 rfl (by decide) ?_
  refine Wk.aloadN (pc' := 25) d19_24 rfl rfl rfl ?_
  refine Wk.getF (a0 := a0) (pc' := 28) (host := "") (Or.inl (w62 hw)) Via.refl P3 d19_25 rfl ?_
  refine Wk.aloadN (pc' := 29) d19_28 rfl rfl rfl ?_
  refine Wk.dup (pc' := 30) d19_29 rfl rfl ?_
  refine Wk.getF (a0 := a0) (pc' := 33) (host := "") (Or.inl (w78 hw)) Via.refl P5 d19_30 rfl ?_
  refine Wk.dupX1 (pc' := 34) d19_33 rfl rfl rfl ?_
  refine Wk.iconst (pc' := 35) (v := 1) d19_34 rfl rfl ?_
  refine Wk.iadd (pc' := 36) d19_35 rfl ?_
  rw [own_snl cl c]
  refine Wk.putF (a0 := a0) (pc' := 39) (host := "") (Or.inl (w78 hw)) Via.refl P7 P5 P2 (Or.inl (w79 hw)) (w35 hw) (ty := .int) (by decide) rfl rfl d19_36 rfl fun h16 W17 => ?_
  have F18 := P5.same W17
  refine Wk.iloadN (pc' := 40) d19_39 rfl rfl ?_
  refine Wk.i2b (pc' := 41) d19_40 rfl ?_
  have f19 := (P6.other W17 (Ne.symm P9))
  refine Wk.bastore (pc' := 42) f19 P8 (own_in hl hcap) cl.length (own_clamp (by omega)) (by rw [own_sbl (by omega)]; exact hl) d19_41 rfl fun h20 W21 A22 => ?_
  have A23 : Arv Z h20 b qb .byte (Int32.ofNat cap) (own_sb (cl ++ [c]) cap) (.int (0 : Int32)) := by
    rw [← own_sbset hl, show own_by c = .int (nar .byte (own_b8 c)) from by rw [own_nb]; rfl]
    exact A22
  refine Wk.goto (pc' := 75) d19_42 (by decide) ?_
  refine Wk.aloadN (pc' := 76) d19_75 rfl rfl rfl ?_
  have f24 := ((P3.other W17 (Or.inr (slot_ne (Or.inl (w63 hw)) (Or.inl (w79 hw)) (by decide) (t := (.array .byte)) (t' := .int) (by decide) (by decide)))).other W21 (Or.inl P9))
  have f25 := ((P4.other W17 (Or.inr (slot_ne (Or.inl (w61 hw)) (Or.inl (w79 hw)) (by decide) (t := .byte) (t' := .int) (by decide) (by decide)))).other W21 (Or.inl P9))
  have f26 := (F18.other W21 (Or.inl P9))
  exact Wk.areturn rfl rfl rfl d19_76 (Nat.le_of_ble_eq_true rfl) (Nat.le_of_ble_eq_true rfl) ⟨rfl, rfl, (((Keep.refl h0 [a, b]).wr W17 (Or.inl (by simp))).wr W21 (Or.inl (by simp))), f24, f25, f26, A23⟩
theorem ef_b_apC (m : MethodId) (x0 : Addr) (x1 : Int32) : entryFrame m #[(.ref x0), (.int x1)] 2 = mkF m 0 #[.val (.ref x0), .val (.int x1)] [] := by first | (simp [entryFrame, mkF, argsToLocals, Value.category]; done) | rfl
abbrev b_b_apC : Bdy := ((⟨"java/lang/StringBuilder", "append", "(C)Ljava/lang/StringBuilder;"⟩ : MethodName), jdk_67_method_14_code, 2, (Option.some (Jvm.ClassFile.FieldType.object "java/lang/StringBuilder")), ({ frames := 2, cells := 0, slots := 0, locals := 27 } : Room))
def Q_b_apC (Z : State) (N : Nat) (a : Addr) (b : Addr) (qb : ClassId) (cl : List Int32) (cap : Nat) (c : Int32) (cs : Int32) (h0 : Heap) (I : Lts) (v : Option Value) (h : Heap) (J : Lts) : Prop := I = J ∧ v = some (.ref a) ∧ Keep h0 h [a, b] ∧ Fld Z h a "java/lang/AbstractStringBuilder" "value" "[B" (.ref b) ∧ Fld Z h a "java/lang/AbstractStringBuilder" "coder" "B" (.int (0 : Int32)) ∧ Fld Z h a "java/lang/AbstractStringBuilder" "count" "I" (.int (Int32.ofNat (cl ++ [c]).length)) ∧ Arv Z h b qb .byte (Int32.ofNat cap) (own_sb (cl ++ [c]) cap) (.int (0 : Int32))
set_option maxRecDepth 65536 in
set_option maxHeartbeats 40000000 in
theorem rm_b_apC {l : Launch} {Z : State} {a0 : Array Value} {N : Nat} (hw : ∀ d ∈ tables_1, d.before a0 Z = true) (a : Addr) (b : Addr) (qb : ClassId) (cl : List Int32) (cap : Nat) (c : Int32) (cs : Int32) (h0 : Heap) (I : Lts) (P0 : Sta Z Z.heap "java/lang/String" "COMPACT_STRINGS" "Z" (.int cs)) (G_cs : ¬ cs = (0 : Int32)) (P2 : Exa Z h0 a "java/lang/StringBuilder") (P3 : Fld Z h0 a "java/lang/AbstractStringBuilder" "value" "[B" (.ref b)) (P4 : Fld Z h0 a "java/lang/AbstractStringBuilder" "coder" "B" (.int (0 : Int32))) (P5 : Fld Z h0 a "java/lang/AbstractStringBuilder" "count" "I" (.int (Int32.ofNat cl.length))) (P6 : Arv Z h0 b qb .byte (Int32.ofNat cap) (own_sb cl cap) (.int (0 : Int32))) (P7 : N ≤ a) (P8 : N ≤ b) (P9 : a ≠ b) (hl : cl.length < cap) (hcap : cap < 2147483648) (hc : own_c c) :
    Cn l Z N b_b_apC #[(.ref a), (.int c)] h0 I (Q_b_apC Z N a b qb cl cap c cs h0 I) := by
  refine Cn.of_wk (Ls := #[.val (.ref a), .val (.int c)]) (plainFor_of_name (by first | (simp [plainName, overriddenIn]; done) | decide +kernel)) (fun m => ef_b_apC m a c) ?_
  refine Wk.aloadN (pc' := 1) d18_0 rfl rfl rfl ?_
  refine Wk.iloadN (pc' := 2) d18_1 rfl rfl ?_
  refine Wk.callZ (a0 := a0) (pc' := 5) (k' := 0) (n' := 0) (W := 0) (b := b_b_apc) (argsL := [(.int c)]) (rest := []) (rm_b_apc hw a b qb cl cap c cs h0 I P0 G_cs P2 P3 P4 P5 P6 P7 P8 P9 hl hcap hc) (Ins.self P2) (w113 hw) (w83 hw) rfl (by decide) (w114 hw) (w76 hw) (by decide) (w44 hw) (w116 hw) (Nat.le_refl _) id (Nat.le_of_ble_eq_true rfl) (Nat.le_of_ble_eq_true rfl) rfl rfl (Nat.le_of_ble_eq_true rfl) (Nat.le_of_ble_eq_true rfl) rfl pd17 rfl rfl rfl (Nat.le_of_ble_eq_true rfl) d18_2 rfl fun v1 h2 J3 hs4 hQ5 => ?_
  obtain ⟨rfl, rfl, K6, g7, g8, g9, g10⟩ := hQ5
  show Wk _ h2 0 0 I 5 #[.val (.ref a), .val (.int c)] [(.ref a)]
  refine Wk.pop (pc' := 6) d18_5 rfl rfl ?_
  refine Wk.aloadN (pc' := 7) d18_6 rfl rfl rfl ?_
  exact Wk.areturn rfl rfl rfl d18_7 (Nat.le_of_ble_eq_true rfl) (Nat.le_of_ble_eq_true rfl) ⟨rfl, rfl, ((Keep.refl h0 [a, b]).trans K6 (allS (Or.inl (by simp)) (allS (Or.inl (by simp)) all0))), g7, g8, g9, g10⟩
theorem ef_b_ini (m : MethodId) (x0 : Addr) (x1 : Addr) : entryFrame m #[(.ref x0), (.ref x1)] 5 = mkF m 0 #[.val (.ref x0), .val (.ref x1), .unset, .unset, .unset] [] := by first | (simp [entryFrame, mkF, argsToLocals, Value.category]; done) | rfl
abbrev b_b_ini : Bdy := ((⟨"java/lang/AbstractStringBuilder", "<init>", "(Ljava/lang/String;)V"⟩ : MethodName), jdk_68_method_3_code, 5, (Option.none : Option Jvm.ClassFile.FieldType), ({ frames := 6, cells := 1, slots := 24, locals := 87 } : Room))
def Q_b_ini (Z : State) (N : Nat) (a : Addr) (s : Addr) (v' : Addr) (q : ClassId) (cl : List Int32) (cs : Int32) (h0 : Heap) (I : Lts) (v : Option Value) (h : Heap) (J : Lts) : Prop := ∃ b : Addr, ∃ qb : ClassId, I = J ∧ v = none ∧ Keep h0 h [a] ∧ h0.size ≤ b ∧ N ≤ b ∧ a ≠ b ∧ Fld Z h a "java/lang/AbstractStringBuilder" "value" "[B" (.ref b) ∧ Fld Z h a "java/lang/AbstractStringBuilder" "coder" "B" (.int (0 : Int32)) ∧ Fld Z h a "java/lang/AbstractStringBuilder" "count" "I" (.int (Int32.ofNat cl.length)) ∧ Arv Z h b qb .byte (Int32.ofNat (cl.length + 16)) (own_sb cl (cl.length + 16)) (.int (0 : Int32))
set_option maxRecDepth 65536 in
set_option maxHeartbeats 40000000 in
theorem rm_b_ini {l : Launch} {Z : State} {a0 : Array Value} {N : Nat} (hw : ∀ d ∈ tables_1, d.before a0 Z = true) (a : Addr) (s : Addr) (v' : Addr) (q : ClassId) (cl : List Int32) (cs : Int32) (h0 : Heap) (I : Lts) (P0 : Sta Z Z.heap "java/lang/String" "COMPACT_STRINGS" "Z" (.int cs)) (G_cs : ¬ cs = (0 : Int32)) (P2 : Exa Z h0 a "java/lang/StringBuilder") (P3 : Fld Z h0 a "java/lang/AbstractStringBuilder" "value" "[B" .null) (P4 : Fld Z h0 a "java/lang/AbstractStringBuilder" "coder" "B" (.int (0 : Int32))) (P5 : Fld Z h0 a "java/lang/AbstractStringBuilder" "count" "I" (.int (0 : Int32))) (P6 : Exa Z h0 s "java/lang/String") (P7 : Fld Z h0 s "java/lang/String" "value" "[B" (.ref v')) (P8 : Fld Z h0 s "java/lang/String" "coder" "B" (.int (0 : Int32))) (P9 : Arv Z h0 v' q .byte (Int32.ofNat cl.length) (cl.map own_by) (.int (0 : Int32))) (P10 : N ≤ a) (P11 : s ≠ a) (P12 : v' ≠ a) (hs : cl.length ≤ 8) :
    Cn l Z N b_b_ini #[(.ref a), (.ref s)] h0 I (Q_b_ini Z N a s v' q cl cs h0 I) := by
  refine Cn.of_wk (Ls := #[.val (.ref a), .val (.ref s), .unset, .unset, .unset]) (plainFor_of_name (by first | (simp [plainName, overriddenIn]; done) | decide +kernel)) (fun m => ef_b_ini m a s) ?_
  refine Wk.aloadN (pc' := 1) d8_0 rfl rfl rfl ?_
  refine Wk.initO (a0 := a0) (pc' := 4) (W := 0) (w46 hw) (w20 hw) (w21 hw) rfl d8_1 rfl (Nat.le_of_ble_eq_true rfl) (Nat.le_of_ble_eq_true rfl) (Nat.le_of_ble_eq_true rfl) ?_
  refine Wk.aloadN (pc' := 5) d8_4 rfl rfl rfl ?_
  refine Wk.callV (a0 := a0) (pc' := 8) (k' := 0) (n' := 0) (W := 0) (b := b_s_len) (argsL := []) (rest := []) (y := (⟨"java/lang/String", "length", "()I"⟩ : MethodName)) (rm_s_len hw s v' q cl cs h0 I P0 G_cs P6 P7 P8 P9) P6 (w47 hw) (w48 hw) (w50 hw) (w50 hw) (w49 hw) (w10 hw) (w51 hw) (by decide) (Nat.le_refl _) id (Nat.le_of_ble_eq_true rfl) (Nat.le_of_ble_eq_true rfl) rfl rfl (Nat.le_of_ble_eq_true rfl) (Nat.le_of_ble_eq_true rfl) rfl pd9 rfl rfl rfl (Nat.le_of_ble_eq_true rfl) d8_5 rfl fun v1 h2 J3 hs4 hQ5 => ?_
  obtain ⟨rfl, rfl, rfl⟩ := hQ5
  show Wk _ h0 0 0 I 8 #[.val (.ref a), .val (.ref s), .unset, .unset, .unset] [(.int (Int32.ofNat cl.length))]
  refine Wk.istoreN (pc' := 9) #[.val (.ref a), .val (.ref s), .val (.int (Int32.ofNat cl.length)), .unset, .unset] d8_8 rfl rfl ?_
  refine Wk.iloadN (pc' := 10) d8_9 rfl rfl ?_
  refine Wk.ldcI (a0 := a0) (pc' := 12) (w58 hw) d8_10 rfl ?_
  refine Wk.icmp_geN (pc' := 15) d8_12 rfl ((own_lt (j := 2147483631) (by omega) (by decide)).mpr (by omega)) ?_
  refine Wk.iloadN (pc' := 16) d8_15 rfl rfl ?_
  refine Wk.bipush (pc' := 18) (v := 16) d8_16 rfl rfl ?_
  refine Wk.iadd (pc' := 19) d8_18 rfl ?_
  rw [(show Int32.ofNat cl.length + (16 : Int32) = Int32.ofNat (cl.length + 16) from own_addn _ 16)]
  refine Wk.goto (pc' := 24) d8_19 (by decide) ?_
  refine Wk.istoreN (pc' := 25) #[.val (.ref a), .val (.ref s), .val (.int (Int32.ofNat cl.length)), .val (.int (Int32.ofNat (cl.length + 16))), .unset] d8_24 rfl rfl ?_
  refine Wk.aloadN (pc' := 26) d8_25 rfl rfl rfl ?_
  refine Wk.callV (a0 := a0) (pc' := 29) (k' := 0) (n' := 0) (W := 0) (b := b_s_cod) (argsL := []) (rest := []) (y := (⟨"java/lang/String", "coder", "()B"⟩ : MethodName)) (rm_s_cod hw s cs h0 I P0 G_cs P8) P6 (w59 hw) (w53 hw) (w55 hw) (w55 hw) (w54 hw) (w10 hw) (w56 hw) (by decide) (Nat.le_refl _) id (Nat.le_of_ble_eq_true rfl) (Nat.le_of_ble_eq_true rfl) rfl rfl (Nat.le_of_ble_eq_true rfl) (Nat.le_of_ble_eq_true rfl) rfl pd0 rfl rfl rfl (Nat.le_of_ble_eq_true rfl) d8_26 rfl fun v6 h7 J8 hs9 hQ10 => ?_
  obtain ⟨rfl, rfl, rfl⟩ := hQ10
  show Wk _ h0 0 0 I 29 #[.val (.ref a), .val (.ref s), .val (.int (Int32.ofNat cl.length)), .val (.int (Int32.ofNat (cl.length + 16))), .unset] [(.int (0 : Int32))]
  refine Wk.istore (pc' := 31) #[.val (.ref a), .val (.ref s), .val (.int (Int32.ofNat cl.length)), .val (.int (Int32.ofNat (cl.length + 16))), .val (.int (0 : Int32))] d8_29 rfl rfl ?_
  refine Wk.aloadN (pc' := 32) d8_31 rfl rfl rfl ?_
  refine Wk.iload (pc' := 34) d8_32 rfl rfl ?_
  refine Wk.putFN (a0 := a0) (pc' := 37) (v' := (.int (0 : Int32))) (w60 hw) Via.refl P10 P4 P2 (Or.inl (w61 hw)) (w35 hw) (ty := .byte) (by decide) rfl rfl d8_34 rfl fun h11 W12 => ?_
  have F13 := P4.same W12
  refine Wk.aloadN (pc' := 38) d8_37 rfl rfl rfl ?_
  refine Wk.iload (pc' := 40) d8_38 rfl rfl ?_
  refine Wk.if_neN (pc' := 43) d8_40 rfl rfl ?_
  refine Wk.iloadN (pc' := 44) d8_43 rfl rfl ?_
  refine Wk.newP (a0 := a0) (aty := .byte) (pc' := 46) (k' := 1) (n' := 24) (cap := 24) (w23 hw) d8_44 rfl (own_nn (by omega)) (by rw [own_clamp (by omega)]; omega) (by decide) rfl rfl (Nat.le_of_ble_eq_true rfl) (Nat.le_of_ble_eq_true rfl) fun a14 h15 q16 hg17 hN18 E19 A20 => ?_
  have f21 := (P2.wr W12)
  have ne22 : a ≠ a14 := Nat.ne_of_lt (Nat.lt_of_lt_of_le f21.lt hg17)
  have f23 := (P6.wr W12)
  have ne24 : s ≠ a14 := Nat.ne_of_lt (Nat.lt_of_lt_of_le f23.lt hg17)
  have f25 := (P9.other W12 P12)
  have ne26 : v' ≠ a14 := Nat.ne_of_lt (Nat.lt_of_lt_of_le f25.lt hg17)
  have A27 : Arv Z h15 a14 q16 .byte (Int32.ofNat (cl.length + 16)) (own_sb own_nil (cl.length + 16)) (.int (0 : Int32)) := by rw [own_sb0]; exact A20.pad (pad_rep [] _ (cl.length + 16))
  refine Wk.goto (pc' := 53) d8_46 (by decide) ?_
  have f28 := (f21.ext E19)
  have f29 := ((P3.other W12 (Or.inr (slot_ne (Or.inl (w63 hw)) (Or.inl (w61 hw)) (by decide) (t := (.array .byte)) (t' := .byte) (by decide) (by decide)))).ext E19)
  refine Wk.putF (a0 := a0) (pc' := 56) (host := "") (Or.inl (w62 hw)) Via.refl P10 f29 f28 (Or.inl (w63 hw)) (w35 hw) (ty := (.array .byte)) (by decide) rfl rfl d8_53 rfl fun h30 W31 => ?_
  have F32 := f29.same W31
  refine Wk.aloadN (pc' := 57) d8_56 rfl rfl rfl ?_
  refine Wk.aloadN (pc' := 58) d8_57 rfl rfl rfl ?_
  have f33 := (f28.wr W31)
  have f34 := ((F13.ext E19).other W31 (Or.inr (slot_ne (Or.inl (w61 hw)) (Or.inl (w63 hw)) (by decide) (t := .byte) (t' := (.array .byte)) (by decide) (by decide))))
  have f35 := (((P5.other W12 (Or.inr (slot_ne (Or.inl (w79 hw)) (Or.inl (w61 hw)) (by decide) (t := .int) (t' := .byte) (by decide) (by decide)))).ext E19).other W31 (Or.inr (slot_ne (Or.inl (w79 hw)) (Or.inl (w63 hw)) (by decide) (t := .int) (t' := (.array .byte)) (by decide) (by decide))))
  have f36 := (A27.other W31 (Ne.symm ne22))
  have f37 := ((f23.ext E19).wr W31)
  have f38 := (((P7.other W12 (Or.inl P11)).ext E19).other W31 (Or.inl P11))
  have f39 := (((P8.other W12 (Or.inl P11)).ext E19).other W31 (Or.inl P11))
  have f40 := ((f25.ext E19).other W31 P12)
  refine Wk.callV2 (a0 := a0) (pc' := 61) (k' := 1) (n' := 24) (W := 0) (b := b_b_apB) (argsL := [(.ref s)]) (rest := []) (y := (⟨"java/lang/AbstractStringBuilder", "append", "(Ljava/lang/String;)Ljava/lang/AbstractStringBuilder;"⟩ : MethodName)) (rm_b_apB hw a a14 q16 own_nil (cl.length + 16) s v' q cl cs h30 I P0 G_cs f33 F32 f34 f35 f36 f37 f38 f39 f40 P10 hN18 ne22 ne24 ne26 (by simp) (by omega)) f33 (w64 hw) (w65 hw) (w83 hw) rfl (w67 hw) (w68 hw) (w36 hw) (w69 hw) (by decide) (Nat.le_refl _) id (Nat.le_of_ble_eq_true rfl) (Nat.le_of_ble_eq_true rfl) rfl rfl (Nat.le_of_ble_eq_true rfl) (Nat.le_of_ble_eq_true rfl) rfl pd14 rfl rfl rfl (Nat.le_of_ble_eq_true rfl) d8_58 rfl fun v41 h42 J43 hs44 hQ45 => ?_
  obtain ⟨rfl, rfl, K46, g47, g48, g49, g50⟩ := hQ45
  show Wk _ h42 1 24 I 61 #[.val (.ref a), .val (.ref s), .val (.int (Int32.ofNat cl.length)), .val (.int (Int32.ofNat (cl.length + 16))), .val (.int (0 : Int32))] [(.ref a)]
  refine Wk.pop (pc' := 62) d8_61 rfl rfl ?_
  exact Wk.return_ rfl d8_62 (Nat.le_of_ble_eq_true rfl) (Nat.le_of_ble_eq_true rfl) ⟨a14, q16, rfl, rfl, (((((Keep.refl h0 [a]).wr W12 (Or.inl (by simp))).ext E19).wr W31 (Or.inl (by simp))).trans K46 (allS (Or.inl (by simp)) (allS (Or.inr (Nat.le_trans (Keep.of_wr W12).1 hg17)) all0))), (Nat.le_trans (Keep.of_wr W12).1 hg17), hN18, ne22, g47, g48, g49, g50⟩
theorem ef_b_inS (m : MethodId) (x0 : Addr) (x1 : Addr) : entryFrame m #[(.ref x0), (.ref x1)] 2 = mkF m 0 #[.val (.ref x0), .val (.ref x1)] [] := by first | (simp [entryFrame, mkF, argsToLocals, Value.category]; done) | rfl
abbrev b_b_inS : Bdy := ((⟨"java/lang/StringBuilder", "<init>", "(Ljava/lang/String;)V"⟩ : MethodName), jdk_67_method_3_code, 2, (Option.none : Option Jvm.ClassFile.FieldType), ({ frames := 7, cells := 1, slots := 24, locals := 103 } : Room))
def Q_b_inS (Z : State) (N : Nat) (a : Addr) (s : Addr) (v' : Addr) (q : ClassId) (cl : List Int32) (cs : Int32) (h0 : Heap) (I : Lts) (v : Option Value) (h : Heap) (J : Lts) : Prop := ∃ b : Addr, ∃ qb : ClassId, I = J ∧ v = none ∧ Keep h0 h [a] ∧ h0.size ≤ b ∧ N ≤ b ∧ a ≠ b ∧ Fld Z h a "java/lang/AbstractStringBuilder" "value" "[B" (.ref b) ∧ Fld Z h a "java/lang/AbstractStringBuilder" "coder" "B" (.int (0 : Int32)) ∧ Fld Z h a "java/lang/AbstractStringBuilder" "count" "I" (.int (Int32.ofNat cl.length)) ∧ Arv Z h b qb .byte (Int32.ofNat (cl.length + 16)) (own_sb cl (cl.length + 16)) (.int (0 : Int32))
set_option maxRecDepth 65536 in
set_option maxHeartbeats 40000000 in
theorem rm_b_inS {l : Launch} {Z : State} {a0 : Array Value} {N : Nat} (hw : ∀ d ∈ tables_1, d.before a0 Z = true) (a : Addr) (s : Addr) (v' : Addr) (q : ClassId) (cl : List Int32) (cs : Int32) (h0 : Heap) (I : Lts) (P0 : Sta Z Z.heap "java/lang/String" "COMPACT_STRINGS" "Z" (.int cs)) (G_cs : ¬ cs = (0 : Int32)) (P2 : Exa Z h0 a "java/lang/StringBuilder") (P3 : Fld Z h0 a "java/lang/AbstractStringBuilder" "value" "[B" .null) (P4 : Fld Z h0 a "java/lang/AbstractStringBuilder" "coder" "B" (.int (0 : Int32))) (P5 : Fld Z h0 a "java/lang/AbstractStringBuilder" "count" "I" (.int (0 : Int32))) (P6 : Exa Z h0 s "java/lang/String") (P7 : Fld Z h0 s "java/lang/String" "value" "[B" (.ref v')) (P8 : Fld Z h0 s "java/lang/String" "coder" "B" (.int (0 : Int32))) (P9 : Arv Z h0 v' q .byte (Int32.ofNat cl.length) (cl.map own_by) (.int (0 : Int32))) (P10 : N ≤ a) (P11 : s ≠ a) (P12 : v' ≠ a) (hs : cl.length ≤ 8) :
    Cn l Z N b_b_inS #[(.ref a), (.ref s)] h0 I (Q_b_inS Z N a s v' q cl cs h0 I) := by
  refine Cn.of_wk (Ls := #[.val (.ref a), .val (.ref s)]) (plainFor_of_name (by first | (simp [plainName, overriddenIn]; done) | decide +kernel)) (fun m => ef_b_inS m a s) ?_
  refine Wk.aloadN (pc' := 1) d7_0 rfl rfl rfl ?_
  refine Wk.aloadN (pc' := 2) d7_1 rfl rfl rfl ?_
  refine Wk.callN (a0 := a0) (pc' := 5) (k' := 1) (n' := 24) (W := 0) (b := b_b_ini) (argsL := [(.ref s)]) (rest := []) (rm_b_ini hw a s v' q cl cs h0 I P0 G_cs P2 P3 P4 P5 P6 P7 P8 P9 P10 P11 P12 hs) rfl rfl (w40 hw) (w41 hw) (w44 hw) (w45 hw) (by decide) (Nat.le_refl _) id (Nat.le_of_ble_eq_true rfl) (Nat.le_of_ble_eq_true rfl) rfl rfl (Nat.le_of_ble_eq_true rfl) (Nat.le_of_ble_eq_true rfl) rfl pd10 rfl rfl rfl (Nat.le_of_ble_eq_true rfl) d7_2 rfl fun v1 h2 J3 hs4 hQ5 => ?_
  obtain ⟨b6, qb7, rfl, rfl, K8, g9, g10, g11, g12, g13, g14, g15⟩ := hQ5
  have ne16 : a ≠ b6 := Nat.ne_of_lt (Nat.lt_of_lt_of_le P2.lt g9)
  have ne17 : s ≠ b6 := Nat.ne_of_lt (Nat.lt_of_lt_of_le P6.lt g9)
  have ne18 : v' ≠ b6 := Nat.ne_of_lt (Nat.lt_of_lt_of_le P9.lt g9)
  show Wk _ h2 1 24 I 5 #[.val (.ref a), .val (.ref s)] []
  exact Wk.return_ rfl d7_5 (Nat.le_of_ble_eq_true rfl) (Nat.le_of_ble_eq_true rfl) ⟨b6, qb7, rfl, rfl, ((Keep.refl h0 [a]).trans K8 (allS (Or.inl (by simp)) all0)), g9, g10, g11, g12, g13, g14, g15⟩
theorem ef_m_min (m : MethodId) (x0 : Int32) (x1 : Int32) : entryFrame m #[(.int x0), (.int x1)] 2 = mkF m 0 #[.val (.int x0), .val (.int x1)] [] := by first | (simp [entryFrame, mkF, argsToLocals, Value.category]; done) | rfl
abbrev b_m_min : Bdy := ((⟨"java/lang/Math", "min", "(II)I"⟩ : MethodName), jdk_29_method_69_code, 2, (Option.some Jvm.ClassFile.FieldType.int), ({ frames := 0, cells := 0, slots := 0, locals := 0 } : Room))
def Q_m_min (Z : State) (N : Nat) (i : Nat) (j : Nat) (h0 : Heap) (I : Lts) (v : Option Value) (h : Heap) (J : Lts) : Prop := I = J ∧ v = some (.int (Int32.ofNat j)) ∧ h0 = h
set_option maxRecDepth 65536 in
set_option maxHeartbeats 40000000 in
theorem rm_m_min {l : Launch} {Z : State} {a0 : Array Value} {N : Nat} (hw : ∀ d ∈ tables_1, d.before a0 Z = true) (i : Nat) (j : Nat) (h0 : Heap) (I : Lts) (hij : j ≤ i) (hi : i < 2147483648) :
    Cn l Z N b_m_min #[(.int (Int32.ofNat i)), (.int (Int32.ofNat j))] h0 I (Q_m_min Z N i j h0 I) := by
  refine Cn.of_wk (Ls := #[.val (.int (Int32.ofNat i)), .val (.int (Int32.ofNat j))]) (Jvm.Free.JP.mathPlain rfl (by decide +kernel)) (fun m => ef_m_min m (Int32.ofNat i) (Int32.ofNat j)) ?_
  refine Wk.iloadN (pc' := 1) d31_0 rfl rfl ?_
  refine Wk.iloadN (pc' := 2) d31_1 rfl rfl ?_
  by_cases c2_1 : (Int32.ofNat j) < (Int32.ofNat i)
  · refine Wk.icmp_gtY (pc' := 9) d31_2 (by decide) c2_1 ?_
    refine Wk.iloadN (pc' := 10) d31_9 rfl rfl ?_
    exact Wk.ireturn rfl d31_10 (Nat.le_of_ble_eq_true rfl) (Nat.le_of_ble_eq_true rfl) ⟨rfl, rfl, rfl⟩
  · refine Wk.icmp_gtN (pc' := 5) d31_2 rfl c2_1 ?_
    refine Wk.iloadN (pc' := 6) d31_5 rfl rfl ?_
    refine Wk.goto (pc' := 10) d31_6 (by decide) ?_
    exact Wk.ireturn rfl d31_10 (Nat.le_of_ble_eq_true rfl) (Nat.le_of_ble_eq_true rfl) ⟨rfl, (by rw [show i = j from by have := mt (own_lt (by omega) (by omega)).mpr c2_1; omega]), rfl⟩
theorem ef_a_chk (m : MethodId) (x0 : Int32) (x1 : Int32) : entryFrame m #[(.int x0), (.int x1)] 2 = mkF m 0 #[.val (.int x0), .val (.int x1)] [] := by first | (simp [entryFrame, mkF, argsToLocals, Value.category]; done) | rfl
abbrev b_a_chk : Bdy := ((⟨"java/util/Arrays", "checkLength", "(II)V"⟩ : MethodName), jdk_65_method_131_code, 2, (Option.none : Option Jvm.ClassFile.FieldType), ({ frames := 0, cells := 0, slots := 0, locals := 0 } : Room))
def Q_a_chk (Z : State) (N : Nat) (j : Nat) (h0 : Heap) (I : Lts) (v : Option Value) (h : Heap) (J : Lts) : Prop := I = J ∧ v = none ∧ h0 = h
set_option maxRecDepth 65536 in
set_option maxHeartbeats 40000000 in
theorem rm_a_chk {l : Launch} {Z : State} {a0 : Array Value} {N : Nat} (hw : ∀ d ∈ tables_1, d.before a0 Z = true) (j : Nat) (h0 : Heap) (I : Lts) (hj : j < 2147483648) :
    Cn l Z N b_a_chk #[(.int (0 : Int32)), (.int (Int32.ofNat j))] h0 I (Q_a_chk Z N j h0 I) := by
  refine Cn.of_wk (Ls := #[.val (.int (0 : Int32)), .val (.int (Int32.ofNat j))]) (plainFor_of_name (by first | (simp [plainName, overriddenIn]; done) | decide +kernel)) (fun m => ef_a_chk m (0 : Int32) (Int32.ofNat j)) ?_
  refine Wk.iloadN (pc' := 1) d30_0 rfl rfl ?_
  refine Wk.iloadN (pc' := 2) d30_1 rfl rfl ?_
  refine Wk.icmp_geY (pc' := 37) d30_2 (by decide) (own_nn hj) ?_
  exact Wk.return_ rfl d30_37 (Nat.le_of_ble_eq_true rfl) (Nat.le_of_ble_eq_true rfl) ⟨rfl, rfl, rfl⟩
theorem ef_a_crb (m : MethodId) (x0 : Addr) (x1 : Int32) (x2 : Int32) : entryFrame m #[(.ref x0), (.int x1), (.int x2)] 5 = mkF m 0 #[.val (.ref x0), .val (.int x1), .val (.int x2), .unset, .unset] [] := by first | (simp [entryFrame, mkF, argsToLocals, Value.category]; done) | rfl
abbrev b_a_crb : Bdy := ((⟨"java/util/Arrays", "copyOfRangeByte", "([BII)[B"⟩ : MethodName), jdk_65_method_133_code, 5, (Option.some (Jvm.ClassFile.FieldType.array Jvm.ClassFile.FieldType.byte)), ({ frames := 1, cells := 1, slots := 24, locals := 18 } : Room))
def Q_a_crb (Z : State) (N : Nat) (b : Addr) (qb : ClassId) (cl : List Int32) (cap : Nat) (h0 : Heap) (I : Lts) (v : Option Value) (h : Heap) (J : Lts) : Prop := ∃ r : Addr, ∃ qr : ClassId, I = J ∧ v = some (.ref r) ∧ Ext h0 h ∧ h0.size ≤ r ∧ N ≤ r ∧ Arv Z h r qr .byte (Int32.ofNat cl.length) (cl.map own_by) (.int (0 : Int32))
set_option maxRecDepth 65536 in
set_option maxHeartbeats 40000000 in
theorem rm_a_crb {l : Launch} {Z : State} {a0 : Array Value} {N : Nat} (hw : ∀ d ∈ tables_1, d.before a0 Z = true) (b : Addr) (qb : ClassId) (cl : List Int32) (cap : Nat) (h0 : Heap) (I : Lts) (P0 : Arv Z h0 b qb .byte (Int32.ofNat cap) (own_sb cl cap) (.int (0 : Int32))) (hl : cl.length < cap) (hcap : cap < 2147483648) (hm : cl.length ≤ 24) :
    Cn l Z N b_a_crb #[(.ref b), (.int (0 : Int32)), (.int (Int32.ofNat cl.length))] h0 I (Q_a_crb Z N b qb cl cap h0 I) := by
  refine Cn.of_wk (Ls := #[.val (.ref b), .val (.int (0 : Int32)), .val (.int (Int32.ofNat cl.length)), .unset, .unset]) (plainFor_of_name (by first | (simp [plainName, overriddenIn]; done) | decide +kernel)) (fun m => ef_a_crb m b (0 : Int32) (Int32.ofNat cl.length)) ?_
  refine Wk.iloadN (pc' := 1) d29_0 rfl rfl ?_
  refine Wk.iloadN (pc' := 2) d29_1 rfl rfl ?_
  refine Wk.callS (a0 := a0) (pc' := 5) (k' := 0) (n' := 0) (W := 0) (b := b_a_chk) (argsL := [(.int (0 : Int32)), (.int (Int32.ofNat cl.length))]) (rest := []) (rm_a_chk hw cl.length h0 I (by omega)) (w159 hw) (w160 hw) (w154 hw) (w161 hw) (by decide) (Nat.le_refl _) id (Nat.le_of_ble_eq_true rfl) (Nat.le_of_ble_eq_true rfl) rfl rfl (Nat.le_of_ble_eq_true rfl) (Nat.le_of_ble_eq_true rfl) rfl pd2 rfl rfl rfl (Nat.le_of_ble_eq_true rfl) d29_2 rfl fun v1 h2 J3 hs4 hQ5 => ?_
  obtain ⟨rfl, rfl, rfl⟩ := hQ5
  show Wk _ h0 0 0 I 5 #[.val (.ref b), .val (.int (0 : Int32)), .val (.int (Int32.ofNat cl.length)), .unset, .unset] []
  refine Wk.iloadN (pc' := 6) d29_5 rfl rfl ?_
  refine Wk.iloadN (pc' := 7) d29_6 rfl rfl ?_
  refine Wk.isub (pc' := 8) d29_7 rfl ?_
  rw [own_sub0]
  refine Wk.istoreN (pc' := 9) #[.val (.ref b), .val (.int (0 : Int32)), .val (.int (Int32.ofNat cl.length)), .val (.int (Int32.ofNat cl.length)), .unset] d29_8 rfl rfl ?_
  refine Wk.iloadN (pc' := 10) d29_9 rfl rfl ?_
  refine Wk.newP (a0 := a0) (aty := .byte) (pc' := 12) (k' := 1) (n' := 24) (cap := 24) (w23 hw) d29_10 rfl (own_nn (by omega)) (by rw [own_clamp (by omega)]; exact hm) (by decide) rfl rfl (Nat.le_of_ble_eq_true rfl) (Nat.le_of_ble_eq_true rfl) fun a6 h7 q8 hg9 hN10 E11 A12 => ?_
  have ne13 : b ≠ a6 := Nat.ne_of_lt (Nat.lt_of_lt_of_le P0.lt hg9)
  have A14 : Arv Z h7 a6 q8 .byte (Int32.ofNat cl.length) (List.replicate cl.length (.int 0)) (.int (0 : Int32)) := A12.pad (pad_rep [] _ cl.length)
  refine Wk.astore (pc' := 14) #[.val (.ref b), .val (.int (0 : Int32)), .val (.int (Int32.ofNat cl.length)), .val (.int (Int32.ofNat cl.length)), .val (.ref a6)] d29_12 rfl rfl rfl ?_
  refine Wk.aloadN (pc' := 15) d29_14 rfl rfl rfl ?_
  refine Wk.iloadN (pc' := 16) d29_15 rfl rfl ?_
  refine Wk.aload (pc' := 18) d29_16 rfl rfl rfl ?_
  refine Wk.iconst (pc' := 19) (v := 0) d29_18 rfl rfl ?_
  refine Wk.aloadN (pc' := 20) d29_19 rfl rfl rfl ?_
  have f15 := (P0.ext E11)
  refine Wk.arraylength (pc' := 21) f15 d29_20 rfl ?_
  refine Wk.iloadN (pc' := 22) d29_21 rfl rfl ?_
  refine Wk.isub (pc' := 23) d29_22 rfl ?_
  rw [own_sub0]
  refine Wk.iloadN (pc' := 24) d29_23 rfl rfl ?_
  refine Wk.callS (a0 := a0) (pc' := 27) (k' := 1) (n' := 24) (W := 4) (b := b_m_min) (argsL := [(.int (Int32.ofNat cap)), (.int (Int32.ofNat cl.length))]) (rest := [(.int (0 : Int32)), (.ref a6), (.int (0 : Int32)), (.ref b)]) (rm_m_min hw cap cl.length h7 I (by omega) hcap) (w162 hw) (w163 hw) (w164 hw) (w165 hw) (by decide) (Nat.le_refl _) id (Nat.le_of_ble_eq_true rfl) (Nat.le_of_ble_eq_true rfl) rfl rfl (Nat.le_of_ble_eq_true rfl) (Nat.le_of_ble_eq_true rfl) rfl pd18 rfl rfl rfl (Nat.le_of_ble_eq_true rfl) d29_24 rfl fun v16 h17 J18 hs19 hQ20 => ?_
  obtain ⟨rfl, rfl, rfl⟩ := hQ20
  show Wk _ h7 1 24 I 27 #[.val (.ref b), .val (.int (0 : Int32)), .val (.int (Int32.ofNat cl.length)), .val (.int (Int32.ofNat cl.length)), .val (.ref a6)] [(.int (Int32.ofNat cl.length)), (.int (0 : Int32)), (.ref a6), (.int (0 : Int32)), (.ref b)]
  refine Wk.arraycopy (a0 := a0) (pc' := 30) (W := 0) (us := (cl.map own_by)) f15 A14 (Or.inl ⟨rfl, rfl⟩) hN10 (w166 hw) (w104 hw) (w102 hw) (w103 hw) (by decide) (by decide) (own_nn (by omega)) (own_cp5z (by omega) hcap) (own_cp5z (Nat.le_refl _) (by omega)) (own_us0 (own_sbtake (by omega)) (by rw [own_sbl (by omega)]; omega) (by omega)) (by rw [own_c0, own_clamp (by omega), List.length_replicate]; omega) rfl d29_27 rfl (Nat.le_of_ble_eq_true rfl) (Nat.le_of_ble_eq_true rfl) (Nat.le_of_ble_eq_true rfl) fun h21 K22 A23 => ?_
  have A24 : Arv Z h21 a6 q8 .byte (Int32.ofNat cl.length) (cl.map own_by) (.int (0 : Int32)) := by
    have q := A23
    rw [own_c0, own_clamp (by omega), own_cpfull (by simp)] at q
    exact q
  refine Wk.aload (pc' := 32) d29_30 rfl rfl rfl ?_
  exact Wk.areturn rfl rfl rfl d29_32 (Nat.le_of_ble_eq_true rfl) (Nat.le_of_ble_eq_true rfl) ⟨a6, q8, rfl, rfl, (own_ext (((Keep.refl h0 []).ext E11).trans K22 (allS (Or.inr hg9) all0))), hg9, hN10, A24⟩
theorem ef_a_cor (m : MethodId) (x0 : Addr) (x1 : Int32) (x2 : Int32) : entryFrame m #[(.ref x0), (.int x1), (.int x2)] 3 = mkF m 0 #[.val (.ref x0), .val (.int x1), .val (.int x2)] [] := by first | (simp [entryFrame, mkF, argsToLocals, Value.category]; done) | rfl
abbrev b_a_cor : Bdy := ((⟨"java/util/Arrays", "copyOfRange", "([BII)[B"⟩ : MethodName), jdk_65_method_132_code, 3, (Option.some (Jvm.ClassFile.FieldType.array Jvm.ClassFile.FieldType.byte)), ({ frames := 2, cells := 1, slots := 24, locals := 34 } : Room))
def Q_a_cor (Z : State) (N : Nat) (b : Addr) (qb : ClassId) (cl : List Int32) (cap : Nat) (h0 : Heap) (I : Lts) (v : Option Value) (h : Heap) (J : Lts) : Prop := ∃ r : Addr, ∃ qr : ClassId, I = J ∧ v = some (.ref r) ∧ Ext h0 h ∧ h0.size ≤ r ∧ N ≤ r ∧ Arv Z h r qr .byte (Int32.ofNat cl.length) (cl.map own_by) (.int (0 : Int32))
set_option maxRecDepth 65536 in
set_option maxHeartbeats 40000000 in
theorem rm_a_cor {l : Launch} {Z : State} {a0 : Array Value} {N : Nat} (hw : ∀ d ∈ tables_1, d.before a0 Z = true) (b : Addr) (qb : ClassId) (cl : List Int32) (cap : Nat) (h0 : Heap) (I : Lts) (P0 : Arv Z h0 b qb .byte (Int32.ofNat cap) (own_sb cl cap) (.int (0 : Int32))) (hl : cl.length < cap) (hcap : cap < 2147483648) (hm : cl.length ≤ 24) :
    Cn l Z N b_a_cor #[(.ref b), (.int (0 : Int32)), (.int (Int32.ofNat cl.length))] h0 I (Q_a_cor Z N b qb cl cap h0 I) := by
  refine Cn.of_wk (Ls := #[.val (.ref b), .val (.int (0 : Int32)), .val (.int (Int32.ofNat cl.length))]) (plainFor_of_name (by first | (simp [plainName, overriddenIn]; done) | decide +kernel)) (fun m => ef_a_cor m b (0 : Int32) (Int32.ofNat cl.length)) ?_
  refine Wk.iloadN (pc' := 1) d28_0 rfl rfl ?_
  refine Wk.if_neN (pc' := 4) d28_1 rfl rfl ?_
  refine Wk.iloadN (pc' := 5) d28_4 rfl rfl ?_
  refine Wk.aloadN (pc' := 6) d28_5 rfl rfl rfl ?_
  refine Wk.arraylength (pc' := 7) P0 d28_6 rfl ?_
  refine Wk.icmp_eqN (pc' := 10) d28_7 rfl (mt (own_eq (by omega) hcap).mp (by omega)) ?_
  refine Wk.aloadN (pc' := 11) d28_10 rfl rfl rfl ?_
  refine Wk.iloadN (pc' := 12) d28_11 rfl rfl ?_
  refine Wk.iloadN (pc' := 13) d28_12 rfl rfl ?_
  refine Wk.callS (a0 := a0) (pc' := 16) (k' := 1) (n' := 24) (W := 0) (b := b_a_crb) (argsL := [(.ref b), (.int (0 : Int32)), (.int (Int32.ofNat cl.length))]) (rest := []) (rm_a_crb hw b qb cl cap h0 I P0 hl hcap hm) (w156 hw) (w157 hw) (w154 hw) (w158 hw) (by decide) (Nat.le_refl _) id (Nat.le_of_ble_eq_true rfl) (Nat.le_of_ble_eq_true rfl) rfl rfl (Nat.le_of_ble_eq_true rfl) (Nat.le_of_ble_eq_true rfl) rfl pd19 rfl rfl rfl (Nat.le_of_ble_eq_true rfl) d28_13 rfl fun v1 h2 J3 hs4 hQ5 => ?_
  obtain ⟨r6, qr7, rfl, rfl, E8, g9, g10, g11⟩ := hQ5
  have ne12 : b ≠ r6 := Nat.ne_of_lt (Nat.lt_of_lt_of_le P0.lt g9)
  show Wk _ h2 1 24 I 16 #[.val (.ref b), .val (.int (0 : Int32)), .val (.int (Int32.ofNat cl.length))] [(.ref r6)]
  exact Wk.areturn rfl rfl rfl d28_16 (Nat.le_of_ble_eq_true rfl) (Nat.le_of_ble_eq_true rfl) ⟨r6, qr7, rfl, rfl, (own_ext ((Keep.refl h0 []).ext E8)), g9, g10, g11⟩
theorem ef_t_in2 (m : MethodId) (x0 : Addr) (x1 : Addr) : entryFrame m #[(.ref x0), (.ref x1), .null] 5 = mkF m 0 #[.val (.ref x0), .val (.ref x1), .val .null, .unset, .unset] [] := by first | (simp [entryFrame, mkF, argsToLocals, Value.category]; done) | rfl
abbrev b_t_in2 : Bdy := ((⟨"java/lang/String", "<init>", "(Ljava/lang/AbstractStringBuilder;Ljava/lang/Void;)V"⟩ : MethodName), jdk_42_method_150_code, 5, (Option.none : Option Jvm.ClassFile.FieldType), ({ frames := 3, cells := 1, slots := 24, locals := 49 } : Room))
def Q_t_in2 (Z : State) (N : Nat) (t : Addr) (a : Addr) (b : Addr) (qb : ClassId) (cl : List Int32) (cap : Nat) (cs : Int32) (h0 : Heap) (I : Lts) (v : Option Value) (h : Heap) (J : Lts) : Prop := ∃ v' : Addr, ∃ q' : ClassId, I = J ∧ v = none ∧ Keep h0 h [t] ∧ Fld Z h t "java/lang/String" "value" "[B" (.ref v') ∧ Fld Z h t "java/lang/String" "coder" "B" (.int (0 : Int32)) ∧ Arv Z h v' q' .byte (Int32.ofNat cl.length) (cl.map own_by) (.int (0 : Int32))
set_option maxRecDepth 65536 in
set_option maxHeartbeats 40000000 in
theorem rm_t_in2 {l : Launch} {Z : State} {a0 : Array Value} {N : Nat} (hw : ∀ d ∈ tables_1, d.before a0 Z = true) (t : Addr) (a : Addr) (b : Addr) (qb : ClassId) (cl : List Int32) (cap : Nat) (cs : Int32) (h0 : Heap) (I : Lts) (P0 : Sta Z Z.heap "java/lang/String" "COMPACT_STRINGS" "Z" (.int cs)) (G_cs : ¬ cs = (0 : Int32)) (P2 : Exa Z h0 t "java/lang/String") (P3 : Fld Z h0 t "java/lang/String" "value" "[B" .null) (P4 : Fld Z h0 t "java/lang/String" "coder" "B" (.int (0 : Int32))) (P5 : N ≤ t) (P6 : Exa Z h0 a "java/lang/StringBuilder") (P7 : Fld Z h0 a "java/lang/AbstractStringBuilder" "value" "[B" (.ref b)) (P8 : Fld Z h0 a "java/lang/AbstractStringBuilder" "coder" "B" (.int (0 : Int32))) (P9 : Fld Z h0 a "java/lang/AbstractStringBuilder" "count" "I" (.int (Int32.ofNat cl.length))) (P10 : Arv Z h0 b qb .byte (Int32.ofNat cap) (own_sb cl cap) (.int (0 : Int32))) (P11 : t ≠ a) (P12 : t ≠ b) (hl : cl.length < cap) (hcap : cap < 2147483648) (hm : cl.length ≤ 24) :
    Cn l Z N b_t_in2 #[(.ref t), (.ref a), .null] h0 I (Q_t_in2 Z N t a b qb cl cap cs h0 I) := by
  refine Cn.of_wk (Ls := #[.val (.ref t), .val (.ref a), .val .null, .unset, .unset]) (plainFor_of_name (by first | (simp [plainName, overriddenIn]; done) | decide +kernel)) (fun m => ef_t_in2 m t a) ?_
  refine Wk.aloadN (pc' := 1) d24_0 rfl rfl rfl ?_
  refine Wk.initO (a0 := a0) (pc' := 4) (W := 0) (w19 hw) (w20 hw) (w21 hw) rfl d24_1 rfl (Nat.le_of_ble_eq_true rfl) (Nat.le_of_ble_eq_true rfl) (Nat.le_of_ble_eq_true rfl) ?_
  refine Wk.aloadN (pc' := 5) d24_4 rfl rfl rfl ?_
  refine Wk.callV (a0 := a0) (pc' := 8) (k' := 0) (n' := 0) (W := 0) (b := b_b_val) (argsL := []) (rest := []) (y := (⟨"java/lang/AbstractStringBuilder", "getValue", "()[B"⟩ : MethodName)) (rm_b_val hw a b h0 I P7) P6 (w138 hw) (w139 hw) (w141 hw) (w141 hw) (w140 hw) (w44 hw) (w142 hw) (by decide) (Nat.le_refl _) id (Nat.le_of_ble_eq_true rfl) (Nat.le_of_ble_eq_true rfl) rfl rfl (Nat.le_of_ble_eq_true rfl) (Nat.le_of_ble_eq_true rfl) rfl pd20 rfl rfl rfl (Nat.le_of_ble_eq_true rfl) d24_5 rfl fun v1 h2 J3 hs4 hQ5 => ?_
  obtain ⟨rfl, rfl, rfl⟩ := hQ5
  show Wk _ h0 0 0 I 8 #[.val (.ref t), .val (.ref a), .val .null, .unset, .unset] [(.ref b)]
  refine Wk.astoreN (pc' := 9) #[.val (.ref t), .val (.ref a), .val .null, .val (.ref b), .unset] d24_8 rfl rfl rfl ?_
  refine Wk.aloadN (pc' := 10) d24_9 rfl rfl rfl ?_
  refine Wk.callV2 (a0 := a0) (pc' := 13) (k' := 0) (n' := 0) (W := 0) (b := b_b_len2) (argsL := []) (rest := []) (y := (⟨"java/lang/AbstractStringBuilder", "length", "()I"⟩ : MethodName)) (rm_b_len2 hw a cl h0 I P6 P9) P6 (w143 hw) (w144 hw) (w83 hw) rfl (w146 hw) (w147 hw) (w36 hw) (w148 hw) (by decide) (Nat.le_refl _) id (Nat.le_of_ble_eq_true rfl) (Nat.le_of_ble_eq_true rfl) rfl rfl (Nat.le_of_ble_eq_true rfl) (Nat.le_of_ble_eq_true rfl) rfl pd9 rfl rfl rfl (Nat.le_of_ble_eq_true rfl) d24_10 rfl fun v6 h7 J8 hs9 hQ10 => ?_
  obtain ⟨rfl, rfl, rfl⟩ := hQ10
  show Wk _ h0 0 0 I 13 #[.val (.ref t), .val (.ref a), .val .null, .val (.ref b), .unset] [(.int (Int32.ofNat cl.length))]
  refine Wk.istore (pc' := 15) #[.val (.ref t), .val (.ref a), .val .null, .val (.ref b), .val (.int (Int32.ofNat cl.length))] d24_13 rfl rfl ?_
  refine Wk.aloadN (pc' := 16) d24_15 rfl rfl rfl ?_
  refine Wk.callV (a0 := a0) (pc' := 19) (k' := 0) (n' := 0) (W := 0) (b := b_b_lat) (argsL := []) (rest := []) (y := (⟨"java/lang/AbstractStringBuilder", "isLatin1", "()Z"⟩ : MethodName)) (rm_b_lat hw a cs h0 I P0 G_cs P8) P6 (w151 hw) (w118 hw) (w120 hw) (w120 hw) (w119 hw) (w44 hw) (w121 hw) (by decide) (Nat.le_refl _) id (Nat.le_of_ble_eq_true rfl) (Nat.le_of_ble_eq_true rfl) rfl rfl (Nat.le_of_ble_eq_true rfl) (Nat.le_of_ble_eq_true rfl) rfl pd3 rfl rfl rfl (Nat.le_of_ble_eq_true rfl) d24_16 rfl fun v11 h12 J13 hs14 hQ15 => ?_
  obtain ⟨rfl, rfl, rfl⟩ := hQ15
  show Wk _ h0 0 0 I 19 #[.val (.ref t), .val (.ref a), .val .null, .val (.ref b), .val (.int (Int32.ofNat cl.length))] [(.int (1 : Int32))]
  refine Wk.if_eqN (pc' := 22) d24_19 rfl (by decide) ?_
  refine Wk.aloadN (pc' := 23) d24_22 rfl rfl rfl ?_
  refine Wk.iconst (pc' := 24) (v := 0) d24_23 rfl rfl ?_
  refine Wk.putFN (a0 := a0) (pc' := 27) (v' := (.int (0 : Int32))) (w29 hw) Via.refl P5 P4 P2 (Or.inr ⟨(w25 hw), rfl, rfl⟩) (w9 hw) (ty := .byte) (by decide) rfl rfl d24_24 rfl fun h16 W17 => ?_
  have F18 := P4.same W17
  refine Wk.aloadN (pc' := 28) d24_27 rfl rfl rfl ?_
  refine Wk.aloadN (pc' := 29) d24_28 rfl rfl rfl ?_
  refine Wk.iconst (pc' := 30) (v := 0) d24_29 rfl rfl ?_
  refine Wk.iload (pc' := 32) d24_30 rfl rfl ?_
  have f19 := (P10.other W17 (Ne.symm P12))
  refine Wk.callS (a0 := a0) (pc' := 35) (k' := 1) (n' := 24) (W := 1) (b := b_a_cor) (argsL := [(.ref b), (.int (0 : Int32)), (.int (Int32.ofNat cl.length))]) (rest := [(.ref t)]) (rm_a_cor hw b qb cl cap h16 I f19 hl hcap hm) (w152 hw) (w153 hw) (w154 hw) (w155 hw) (by decide) (Nat.le_refl _) id (Nat.le_of_ble_eq_true rfl) (Nat.le_of_ble_eq_true rfl) rfl rfl (Nat.le_of_ble_eq_true rfl) (Nat.le_of_ble_eq_true rfl) rfl pd19 rfl rfl rfl (Nat.le_of_ble_eq_true rfl) d24_32 rfl fun v20 h21 J22 hs23 hQ24 => ?_
  obtain ⟨r25, qr26, rfl, rfl, E27, g28, g29, g30⟩ := hQ24
  have ne31 : t ≠ r25 := Nat.ne_of_lt (Nat.lt_of_lt_of_le (P2.wr W17).lt g28)
  have ne32 : a ≠ r25 := Nat.ne_of_lt (Nat.lt_of_lt_of_le (P6.wr W17).lt g28)
  have ne33 : b ≠ r25 := Nat.ne_of_lt (Nat.lt_of_lt_of_le f19.lt g28)
  show Wk _ h21 1 24 I 35 #[.val (.ref t), .val (.ref a), .val .null, .val (.ref b), .val (.int (Int32.ofNat cl.length))] [(.ref r25), (.ref t)]
  have f34 := ((P2.wr W17).ext E27)
  have f35 := ((P3.other W17 (Or.inr (slot_ne (Or.inr (w24 hw)) (Or.inr (w25 hw)) (by decide) (t := (.array .byte)) (t' := .byte) (by decide) (by decide)))).ext E27)
  refine Wk.putF (a0 := a0) (pc' := 38) (host := "") (Or.inl (w28 hw)) Via.refl P5 f35 f34 (Or.inr ⟨(w24 hw), rfl, rfl⟩) (w9 hw) (ty := (.array .byte)) (by decide) rfl rfl d24_35 rfl fun h36 W37 => ?_
  have F38 := f35.same W37
  refine Wk.goto (pc' := 97) d24_38 (by decide) ?_
  have f39 := (g30.other W37 (Ne.symm ne31))
  have f40 := ((F18.ext E27).other W37 (Or.inr (slot_ne (Or.inr (w25 hw)) (Or.inr (w24 hw)) (by decide) (t := .byte) (t' := (.array .byte)) (by decide) (by decide))))
  exact Wk.return_ rfl d24_97 (Nat.le_of_ble_eq_true rfl) (Nat.le_of_ble_eq_true rfl) ⟨r25, qr26, rfl, rfl, ((((Keep.refl h0 [t]).wr W17 (Or.inl (by simp))).ext E27).wr W37 (Or.inl (by simp))), F38, f40, f39⟩
theorem ef_t_in1 (m : MethodId) (x0 : Addr) (x1 : Addr) : entryFrame m #[(.ref x0), (.ref x1)] 2 = mkF m 0 #[.val (.ref x0), .val (.ref x1)] [] := by first | (simp [entryFrame, mkF, argsToLocals, Value.category]; done) | rfl
abbrev b_t_in1 : Bdy := ((⟨"java/lang/String", "<init>", "(Ljava/lang/StringBuilder;)V"⟩ : MethodName), jdk_42_method_53_code, 2, (Option.none : Option Jvm.ClassFile.FieldType), ({ frames := 4, cells := 1, slots := 24, locals := 65 } : Room))
def Q_t_in1 (Z : State) (N : Nat) (t : Addr) (a : Addr) (b : Addr) (qb : ClassId) (cl : List Int32) (cap : Nat) (cs : Int32) (h0 : Heap) (I : Lts) (v : Option Value) (h : Heap) (J : Lts) : Prop := ∃ v' : Addr, ∃ q' : ClassId, I = J ∧ v = none ∧ Keep h0 h [t] ∧ Fld Z h t "java/lang/String" "value" "[B" (.ref v') ∧ Fld Z h t "java/lang/String" "coder" "B" (.int (0 : Int32)) ∧ Arv Z h v' q' .byte (Int32.ofNat cl.length) (cl.map own_by) (.int (0 : Int32))
set_option maxRecDepth 65536 in
set_option maxHeartbeats 40000000 in
theorem rm_t_in1 {l : Launch} {Z : State} {a0 : Array Value} {N : Nat} (hw : ∀ d ∈ tables_1, d.before a0 Z = true) (t : Addr) (a : Addr) (b : Addr) (qb : ClassId) (cl : List Int32) (cap : Nat) (cs : Int32) (h0 : Heap) (I : Lts) (P0 : Sta Z Z.heap "java/lang/String" "COMPACT_STRINGS" "Z" (.int cs)) (G_cs : ¬ cs = (0 : Int32)) (P2 : Exa Z h0 t "java/lang/String") (P3 : Fld Z h0 t "java/lang/String" "value" "[B" .null) (P4 : Fld Z h0 t "java/lang/String" "coder" "B" (.int (0 : Int32))) (P5 : N ≤ t) (P6 : Exa Z h0 a "java/lang/StringBuilder") (P7 : Fld Z h0 a "java/lang/AbstractStringBuilder" "value" "[B" (.ref b)) (P8 : Fld Z h0 a "java/lang/AbstractStringBuilder" "coder" "B" (.int (0 : Int32))) (P9 : Fld Z h0 a "java/lang/AbstractStringBuilder" "count" "I" (.int (Int32.ofNat cl.length))) (P10 : Arv Z h0 b qb .byte (Int32.ofNat cap) (own_sb cl cap) (.int (0 : Int32))) (P11 : t ≠ a) (P12 : t ≠ b) (hl : cl.length < cap) (hcap : cap < 2147483648) (hm : cl.length ≤ 24) :
    Cn l Z N b_t_in1 #[(.ref t), (.ref a)] h0 I (Q_t_in1 Z N t a b qb cl cap cs h0 I) := by
  refine Cn.of_wk (Ls := #[.val (.ref t), .val (.ref a)]) (plainFor_of_name (by first | (simp [plainName, overriddenIn]; done) | decide +kernel)) (fun m => ef_t_in1 m t a) ?_
  refine Wk.aloadN (pc' := 1) d23_0 rfl rfl rfl ?_
  refine Wk.aloadN (pc' := 2) d23_1 rfl rfl rfl ?_
  refine Wk.aconstNull (pc' := 3) d23_2 rfl ?_
  refine Wk.callN (a0 := a0) (pc' := 6) (k' := 1) (n' := 24) (W := 0) (b := b_t_in2) (argsL := [(.ref a), .null]) (rest := []) (rm_t_in2 hw t a b qb cl cap cs h0 I P0 G_cs P2 P3 P4 P5 P6 P7 P8 P9 P10 P11 P12 hl hcap hm) rfl rfl (w135 hw) (w136 hw) (w10 hw) (w137 hw) (by decide) (Nat.le_refl _) id (Nat.le_of_ble_eq_true rfl) (Nat.le_of_ble_eq_true rfl) rfl rfl (Nat.le_of_ble_eq_true rfl) (Nat.le_of_ble_eq_true rfl) rfl pd21 rfl rfl rfl (Nat.le_of_ble_eq_true rfl) d23_3 rfl fun v1 h2 J3 hs4 hQ5 => ?_
  obtain ⟨v'6, q'7, rfl, rfl, K8, g9, g10, g11⟩ := hQ5
  show Wk _ h2 1 24 I 6 #[.val (.ref t), .val (.ref a)] []
  exact Wk.return_ rfl d23_6 (Nat.le_of_ble_eq_true rfl) (Nat.le_of_ble_eq_true rfl) ⟨v'6, q'7, rfl, rfl, ((Keep.refl h0 [t]).trans K8 (allS (Or.inl (by simp)) all0)), g9, g10, g11⟩
theorem ef_t_str (m : MethodId) (x0 : Addr) : entryFrame m #[(.ref x0)] 1 = mkF m 0 #[.val (.ref x0)] [] := by first | (simp [entryFrame, mkF, argsToLocals, Value.category]; done) | rfl
abbrev b_t_str : Bdy := ((⟨"java/lang/StringBuilder", "toString", "()Ljava/lang/String;"⟩ : MethodName), jdk_67_method_42_code, 1, (Option.some (Jvm.ClassFile.FieldType.object "java/lang/String")), ({ frames := 5, cells := 2, slots := 28, locals := 79 } : Room))
def Q_t_str (Z : State) (N : Nat) (a : Addr) (b : Addr) (qb : ClassId) (cl : List Int32) (cap : Nat) (cs : Int32) (h0 : Heap) (I : Lts) (v : Option Value) (h : Heap) (J : Lts) : Prop := ∃ r : Addr, ∃ v' : Addr, ∃ q' : ClassId, I = J ∧ v = some (.ref r) ∧ Ext h0 h ∧ h0.size ≤ r ∧ Exa Z h r "java/lang/String" ∧ Fld Z h r "java/lang/String" "value" "[B" (.ref v') ∧ Fld Z h r "java/lang/String" "coder" "B" (.int (0 : Int32)) ∧ Arv Z h v' q' .byte (Int32.ofNat cl.length) (cl.map own_by) (.int (0 : Int32))
set_option maxRecDepth 65536 in
set_option maxHeartbeats 40000000 in
theorem rm_t_str {l : Launch} {Z : State} {a0 : Array Value} {N : Nat} (hw : ∀ d ∈ tables_1, d.before a0 Z = true) (a : Addr) (b : Addr) (qb : ClassId) (cl : List Int32) (cap : Nat) (cs : Int32) (h0 : Heap) (I : Lts) (P0 : Sta Z Z.heap "java/lang/String" "COMPACT_STRINGS" "Z" (.int cs)) (G_cs : ¬ cs = (0 : Int32)) (P2 : Exa Z h0 a "java/lang/StringBuilder") (P3 : Fld Z h0 a "java/lang/AbstractStringBuilder" "value" "[B" (.ref b)) (P4 : Fld Z h0 a "java/lang/AbstractStringBuilder" "coder" "B" (.int (0 : Int32))) (P5 : Fld Z h0 a "java/lang/AbstractStringBuilder" "count" "I" (.int (Int32.ofNat cl.length))) (P6 : Arv Z h0 b qb .byte (Int32.ofNat cap) (own_sb cl cap) (.int (0 : Int32))) (hl : cl.length < cap) (hcap : cap < 2147483648) (hm : cl.length ≤ 24) :
    Cn l Z N b_t_str #[(.ref a)] h0 I (Q_t_str Z N a b qb cl cap cs h0 I) := by
  refine Cn.of_wk (Ls := #[.val (.ref a)]) (plainFor_of_name (by first | (simp [plainName, overriddenIn]; done) | decide +kernel)) (fun m => ef_t_str m a) ?_
  refine Wk.newO (a0 := a0) (pc' := 3) (k' := 1) (n' := 4) (w131 hw) (w9 hw) (w10 hw) d22_0 rfl rfl rfl (Nat.le_of_ble_eq_true rfl) (Nat.le_of_ble_eq_true rfl) fun a1 h2 hg3 hN4 E5 A6 D7 => ?_
  have ne8 : a ≠ a1 := Nat.ne_of_lt (Nat.lt_of_lt_of_le P2.lt hg3)
  have ne9 : b ≠ a1 := Nat.ne_of_lt (Nat.lt_of_lt_of_le P6.lt hg3)
  have F10 : Fld Z h2 a1 "java/lang/String" "value" "[B" .null := D7 (Or.inr (w24 hw)) (ty := (.array .byte)) (by decide)
  have F11 : Fld Z h2 a1 "java/lang/String" "coder" "B" (.int (0 : Int32)) := D7 (Or.inr (w25 hw)) (ty := .byte) (by decide)
  refine Wk.dup (pc' := 4) d22_3 rfl rfl ?_
  refine Wk.aloadN (pc' := 5) d22_4 rfl rfl rfl ?_
  have f12 := (P2.ext E5)
  have f13 := (P3.ext E5)
  have f14 := (P4.ext E5)
  have f15 := (P5.ext E5)
  have f16 := (P6.ext E5)
  refine Wk.callN (a0 := a0) (pc' := 8) (k' := 2) (n' := 28) (W := 1) (b := b_t_in1) (argsL := [(.ref a)]) (rest := [(.ref a1)]) (rm_t_in1 hw a1 a b qb cl cap cs h2 I P0 G_cs A6 F10 F11 hN4 f12 f13 f14 f15 f16 (Ne.symm ne8) (Ne.symm ne9) hl hcap hm) rfl rfl (w132 hw) (w133 hw) (w10 hw) (w134 hw) (by decide) (Nat.le_refl _) id (Nat.le_of_ble_eq_true rfl) (Nat.le_of_ble_eq_true rfl) rfl rfl (Nat.le_of_ble_eq_true rfl) (Nat.le_of_ble_eq_true rfl) rfl pd22 rfl rfl rfl (Nat.le_of_ble_eq_true rfl) d22_5 rfl fun v17 h18 J19 hs20 hQ21 => ?_
  obtain ⟨v'22, q'23, rfl, rfl, K24, g25, g26, g27⟩ := hQ21
  show Wk _ h18 2 28 I 8 #[.val (.ref a)] [(.ref a1)]
  have f28 := (A6.keep K24)
  exact Wk.areturn rfl rfl rfl d22_8 (Nat.le_of_ble_eq_true rfl) (Nat.le_of_ble_eq_true rfl) ⟨a1, v'22, q'23, rfl, rfl, (own_ext (((Keep.refl h0 []).ext E5).trans K24 (allS (Or.inr hg3) all0))), hg3, f28, g25, g26, g27⟩
theorem ef_e_5a (m : MethodId) (x0 : Addr) (x1 : Addr) (x2 : Int32) (x3 : Int32) : entryFrame m #[(.ref x0), (.ref x1), (.int x2), (.int x3), .null] 6 = mkF m 0 #[.val (.ref x0), .val (.ref x1), .val (.int x2), .val (.int x3), .val .null, .unset] [] := by first | (simp [entryFrame, mkF, argsToLocals, Value.category]; done) | rfl
abbrev b_e_5a : Bdy := ((⟨"java/lang/String", "<init>", "([CIILjava/lang/Void;)V"⟩ : MethodName), jdk_42_method_149_code, 6, (Option.none : Option Jvm.ClassFile.FieldType), ({ frames := 1, cells := 2, slots := 4, locals := 12 } : Room))
def Q_e_5a (Z : State) (N : Nat) (a : Addr) (c : Addr) (Ts : List String) (Lk : List (String × Nat × Addr)) (h0 : Heap) (I : Lts) (v : Option Value) (h : Heap) (J : Lts) : Prop := ∃ al : Addr, ∃ bl : Addr, ∃ ql : ClassId, (some (("" :: Ts), [("java/lang/String", 7, al)]) : Lts) = J ∧ v = none ∧ Keep h0 h [a] ∧ Fld Z h a "java/lang/String" "value" "[B" (.ref bl) ∧ Fld Z h a "java/lang/String" "coder" "B" (.int (0 : Int32)) ∧ Exa Z h al "java/lang/String" ∧ Fld Z h al "java/lang/String" "value" "[B" (.ref bl) ∧ Fld Z h al "java/lang/String" "coder" "B" (.int (0 : Int32)) ∧ Arv Z h bl ql .byte (0 : Int32) [] (.int (0 : Int32))
set_option maxRecDepth 65536 in
set_option maxHeartbeats 40000000 in
theorem rm_e_5a {l : Launch} {Z : State} {a0 : Array Value} {N : Nat} (hw : ∀ d ∈ tables_1, d.before a0 Z = true) (a : Addr) (c : Addr) (Ts : List String) (Lk : List (String × Nat × Addr)) (h0 : Heap) (P0 : Exa Z h0 a "java/lang/String") (P1 : Fld Z h0 a "java/lang/String" "value" "[B" .null) (P2 : Fld Z h0 a "java/lang/String" "coder" "B" (.int (0 : Int32))) (P3 : N ≤ a) (hT : "" ∉ Ts) (G_h7 : Jvm.Lit.constHeld Z "java/lang/String" 7) (G_cw : Jvm.Lit.compactW.before a0 Z = true) :
    Cn l Z N b_e_5a #[(.ref a), (.ref c), (.int (0 : Int32)), (.int (0 : Int32)), .null] h0 (some (Ts, Lk)) (Q_e_5a Z N a c Ts Lk h0 (some (Ts, Lk))) := by
  refine Cn.of_wkM (Ls := #[.val (.ref a), .val (.ref c), .val (.int (0 : Int32)), .val (.int (0 : Int32)), .val .null, .unset]) (plainFor_of_name (by first | (simp [plainName, overriddenIn]; done) | decide +kernel)) (fun m => ef_e_5a m a c (0 : Int32) (0 : Int32)) ?_
  refine WkM.aloadN (pc' := 1) d4_0 rfl rfl rfl ?_
  refine WkM.initO (a0 := a0) (pc' := 4) (W := 0) (w19 hw) (w20 hw) (w21 hw) rfl d4_1 rfl (Nat.le_of_ble_eq_true rfl) (Nat.le_of_ble_eq_true rfl) (Nat.le_of_ble_eq_true rfl) ?_
  refine WkM.iloadN (pc' := 5) d4_4 rfl rfl ?_
  refine WkM.if_neN (pc' := 8) d4_5 rfl rfl ?_
  refine WkM.aloadN (pc' := 9) d4_8 rfl rfl rfl ?_
  refine WkM.ldcLit (a0 := a0) (pc' := 11) (k' := 2) (n' := 4) (cap := 0) (vs := []) (z := 0) (w22 hw) (own_wS hw) (Nat.le_refl _) hT G_h7 G_cw ⟨by decide, rfl⟩ (by decide) rfl d4_9 rfl (by decide) (by decide) rfl rfl (Nat.le_of_ble_eq_true rfl) (Nat.le_of_ble_eq_true rfl) fun al1 bl2 ql3 h4 E5 X6 C7 V8 A9 p10 => ?_
  have f11 := (P0.ext E5)
  have ne12 : a ≠ bl2 := by obtain ⟨c0, A0, -⟩ := A9; exact ne_arr f11 (w9 hw) A0
  show Wk _ h4 2 4 (some ("" :: Ts, [("java/lang/String", 7, al1)])) 11 #[.val (.ref a), .val (.ref c), .val (.int (0 : Int32)), .val (.int (0 : Int32)), .val .null, .unset] [(.ref al1), (.ref a)]
  refine Wk.getF (a0 := a0) (pc' := 14) (host := "") (Or.inl (w28 hw)) Via.refl V8 d4_11 rfl ?_
  have f13 := (P1.ext E5)
  refine Wk.putF (a0 := a0) (pc' := 17) (host := "") (Or.inl (w28 hw)) Via.refl P3 f13 f11 (Or.inr ⟨(w24 hw), rfl, rfl⟩) (w9 hw) (ty := (.array .byte)) (by decide) rfl rfl d4_14 rfl fun h14 W15 => ?_
  have F16 := f13.same W15
  have F17 := C7.other W15 (Or.inr (slot_ne (Or.inr (w25 hw)) (Or.inr (w24 hw)) (by decide) (t := .byte) (t' := (.array .byte)) (by decide) (by decide)))
  have F18 : Fld Z h14 al1 "java/lang/String" "value" "[B" (.ref bl2) := by
    rcases Decidable.em (al1 = a) with q | q
    · rw [q]; exact F16
    · exact V8.other W15 (Or.inl q)
  refine Wk.aloadN (pc' := 18) d4_17 rfl rfl rfl ?_
  refine Wk.ldcAgain (a0 := a0) (pc' := 20) (w22 hw) (List.mem_singleton.mpr rfl) d4_18 rfl ?_
  refine Wk.getF (a0 := a0) (pc' := 23) (host := "") (Or.inl (w29 hw)) Via.refl F17 d4_20 rfl ?_
  have f19 := (f11.wr W15)
  have f20 := ((P2.ext E5).other W15 (Or.inr (slot_ne (Or.inr (w25 hw)) (Or.inr (w24 hw)) (by decide) (t := .byte) (t' := (.array .byte)) (by decide) (by decide))))
  refine Wk.putFN (a0 := a0) (pc' := 26) (v' := (.int (0 : Int32))) (w29 hw) Via.refl P3 f20 f19 (Or.inr ⟨(w25 hw), rfl, rfl⟩) (w9 hw) (ty := .byte) (by decide) rfl rfl d4_23 rfl fun h21 W22 => ?_
  have F23 := f20.same W22
  have F24 := F18.other W22 (Or.inr (slot_ne (Or.inr (w24 hw)) (Or.inr (w25 hw)) (by decide) (t := (.array .byte)) (t' := .byte) (by decide) (by decide)))
  have F25 : Fld Z h21 al1 "java/lang/String" "coder" "B" (.int (0 : Int32)) := by
    rcases Decidable.em (al1 = a) with q | q
    · rw [q]; exact F23
    · exact F17.other W22 (Or.inl q)
  have f26 := (F16.other W22 (Or.inr (slot_ne (Or.inr (w24 hw)) (Or.inr (w25 hw)) (by decide) (t := (.array .byte)) (t' := .byte) (by decide) (by decide))))
  have f27 := ((X6.wr W15).wr W22)
  have f28 := ((A9.other W15 (Ne.symm ne12)).other W22 (Ne.symm ne12))
  exact Wk.return_ rfl d4_26 (Nat.le_of_ble_eq_true rfl) (Nat.le_of_ble_eq_true rfl) ⟨al1, bl2, ql3, rfl, rfl, ((((Keep.refl h0 [a]).ext E5).wr W15 (Or.inl (by simp))).wr W22 (Or.inl (by simp))), f26, F23, f27, F24, F25, f28⟩
theorem ef_e_1a (m : MethodId) (x0 : Addr) (x1 : Addr) : entryFrame m #[(.ref x0), (.ref x1)] 2 = mkF m 0 #[.val (.ref x0), .val (.ref x1)] [] := by first | (simp [entryFrame, mkF, argsToLocals, Value.category]; done) | rfl
abbrev b_e_1a : Bdy := ((⟨"java/lang/String", "<init>", "([C)V"⟩ : MethodName), jdk_42_method_3_code, 2, (Option.none : Option Jvm.ClassFile.FieldType), ({ frames := 2, cells := 2, slots := 4, locals := 29 } : Room))
def Q_e_1a (Z : State) (N : Nat) (a : Addr) (c : Addr) (q : ClassId) (Ts : List String) (Lk : List (String × Nat × Addr)) (h0 : Heap) (I : Lts) (v : Option Value) (h : Heap) (J : Lts) : Prop := ∃ al : Addr, ∃ bl : Addr, ∃ ql : ClassId, (some (("" :: Ts), [("java/lang/String", 7, al)]) : Lts) = J ∧ v = none ∧ Keep h0 h [a] ∧ Fld Z h a "java/lang/String" "value" "[B" (.ref bl) ∧ Fld Z h a "java/lang/String" "coder" "B" (.int (0 : Int32)) ∧ Exa Z h al "java/lang/String" ∧ Fld Z h al "java/lang/String" "value" "[B" (.ref bl) ∧ Fld Z h al "java/lang/String" "coder" "B" (.int (0 : Int32)) ∧ Arv Z h bl ql .byte (0 : Int32) [] (.int (0 : Int32))
set_option maxRecDepth 65536 in
set_option maxHeartbeats 40000000 in
theorem rm_e_1a {l : Launch} {Z : State} {a0 : Array Value} {N : Nat} (hw : ∀ d ∈ tables_1, d.before a0 Z = true) (a : Addr) (c : Addr) (q : ClassId) (Ts : List String) (Lk : List (String × Nat × Addr)) (h0 : Heap) (P0 : Arv Z h0 c q .char (0 : Int32) [] (.int (0 : Int32))) (P1 : Exa Z h0 a "java/lang/String") (P2 : Fld Z h0 a "java/lang/String" "value" "[B" .null) (P3 : Fld Z h0 a "java/lang/String" "coder" "B" (.int (0 : Int32))) (P4 : N ≤ a) (hT : "" ∉ Ts) (G_h7 : Jvm.Lit.constHeld Z "java/lang/String" 7) (G_cw : Jvm.Lit.compactW.before a0 Z = true) :
    Cn l Z N b_e_1a #[(.ref a), (.ref c)] h0 (some (Ts, Lk)) (Q_e_1a Z N a c q Ts Lk h0 (some (Ts, Lk))) := by
  refine Cn.of_wk (Ls := #[.val (.ref a), .val (.ref c)]) (plainFor_of_name (by first | (simp [plainName, overriddenIn]; done) | decide +kernel)) (fun m => ef_e_1a m a c) ?_
  refine Wk.aloadN (pc' := 1) d3_0 rfl rfl rfl ?_
  refine Wk.aloadN (pc' := 2) d3_1 rfl rfl rfl ?_
  refine Wk.iconst (pc' := 3) (v := 0) d3_2 rfl rfl ?_
  refine Wk.aloadN (pc' := 4) d3_3 rfl rfl rfl ?_
  refine Wk.arraylength (pc' := 5) P0 d3_4 rfl ?_
  refine Wk.aconstNull (pc' := 6) d3_5 rfl ?_
  refine Wk.callN (a0 := a0) (pc' := 9) (k' := 2) (n' := 4) (W := 0) (b := b_e_5a) (argsL := [(.ref c), (.int (0 : Int32)), (.int (0 : Int32)), .null]) (rest := []) (rm_e_5a hw a c Ts Lk h0  P1 P2 P3 P4 hT G_h7 G_cw) rfl rfl (w15 hw) (w16 hw) (w10 hw) (w18 hw) (by decide) (Nat.le_refl _) id (Nat.le_of_ble_eq_true rfl) (Nat.le_of_ble_eq_true rfl) rfl rfl (Nat.le_of_ble_eq_true rfl) (Nat.le_of_ble_eq_true rfl) rfl pd8 rfl rfl rfl (Nat.le_of_ble_eq_true rfl) d3_6 rfl fun v1 h2 J3 hs4 hQ5 => ?_
  obtain ⟨al6, bl7, ql8, rfl, rfl, K9, g10, g11, g12, g13, g14, g15⟩ := hQ5
  show Wk _ h2 2 4 (some (("" :: Ts), [("java/lang/String", 7, al6)])) 9 #[.val (.ref a), .val (.ref c)] []
  exact Wk.return_ rfl d3_9 (Nat.le_of_ble_eq_true rfl) (Nat.le_of_ble_eq_true rfl) ⟨al6, bl7, ql8, rfl, rfl, ((Keep.refl h0 [a]).trans K9 (allS (Or.inl (by simp)) all0)), g10, g11, g12, g13, g14, g15⟩
theorem ef_e_5b (m : MethodId) (x0 : Addr) (x1 : Addr) (x2 : Int32) (x3 : Int32) : entryFrame m #[(.ref x0), (.ref x1), (.int x2), (.int x3), .null] 6 = mkF m 0 #[.val (.ref x0), .val (.ref x1), .val (.int x2), .val (.int x3), .val .null, .unset] [] := by first | (simp [entryFrame, mkF, argsToLocals, Value.category]; done) | rfl
abbrev b_e_5b : Bdy := ((⟨"java/lang/String", "<init>", "([CIILjava/lang/Void;)V"⟩ : MethodName), jdk_42_method_149_code, 6, (Option.none : Option Jvm.ClassFile.FieldType), ({ frames := 1, cells := 0, slots := 0, locals := 12 } : Room))
def Q_e_5b (Z : State) (N : Nat) (a : Addr) (c : Addr) (al : Addr) (bl : Addr) (ql : ClassId) (Ts : List String) (Lk : List (String × Nat × Addr)) (h0 : Heap) (I : Lts) (v : Option Value) (h : Heap) (J : Lts) : Prop := I = J ∧ v = none ∧ Keep h0 h [a] ∧ Fld Z h a "java/lang/String" "value" "[B" (.ref bl) ∧ Fld Z h a "java/lang/String" "coder" "B" (.int (0 : Int32))
set_option maxRecDepth 65536 in
set_option maxHeartbeats 40000000 in
theorem rm_e_5b {l : Launch} {Z : State} {a0 : Array Value} {N : Nat} (hw : ∀ d ∈ tables_1, d.before a0 Z = true) (a : Addr) (c : Addr) (al : Addr) (bl : Addr) (ql : ClassId) (Ts : List String) (Lk : List (String × Nat × Addr)) (h0 : Heap) (P0 : Exa Z h0 a "java/lang/String") (P1 : Fld Z h0 a "java/lang/String" "value" "[B" .null) (P2 : Fld Z h0 a "java/lang/String" "coder" "B" (.int (0 : Int32))) (P3 : N ≤ a) (P4 : Exa Z h0 al "java/lang/String") (P5 : Fld Z h0 al "java/lang/String" "value" "[B" (.ref bl)) (P6 : Fld Z h0 al "java/lang/String" "coder" "B" (.int (0 : Int32))) (P7 : Arv Z h0 bl ql .byte (0 : Int32) [] (.int (0 : Int32))) (P8 : a ≠ al) (P9 : a ≠ bl) (hm : ("java/lang/String", 7, al) ∈ Lk) :
    Cn l Z N b_e_5b #[(.ref a), (.ref c), (.int (0 : Int32)), (.int (0 : Int32)), .null] h0 (some (Ts, Lk)) (Q_e_5b Z N a c al bl ql Ts Lk h0 (some (Ts, Lk))) := by
  refine Cn.of_wk (Ls := #[.val (.ref a), .val (.ref c), .val (.int (0 : Int32)), .val (.int (0 : Int32)), .val .null, .unset]) (plainFor_of_name (by first | (simp [plainName, overriddenIn]; done) | decide +kernel)) (fun m => ef_e_5b m a c (0 : Int32) (0 : Int32)) ?_
  refine Wk.aloadN (pc' := 1) d4_0 rfl rfl rfl ?_
  refine Wk.initO (a0 := a0) (pc' := 4) (W := 0) (w19 hw) (w20 hw) (w21 hw) rfl d4_1 rfl (Nat.le_of_ble_eq_true rfl) (Nat.le_of_ble_eq_true rfl) (Nat.le_of_ble_eq_true rfl) ?_
  refine Wk.iloadN (pc' := 5) d4_4 rfl rfl ?_
  refine Wk.if_neN (pc' := 8) d4_5 rfl rfl ?_
  refine Wk.aloadN (pc' := 9) d4_8 rfl rfl rfl ?_
  refine Wk.ldcAgain (a0 := a0) (pc' := 11) (w22 hw) hm d4_9 rfl ?_
  refine Wk.getF (a0 := a0) (pc' := 14) (host := "") (Or.inl (w28 hw)) Via.refl P5 d4_11 rfl ?_
  refine Wk.putF (a0 := a0) (pc' := 17) (host := "") (Or.inl (w28 hw)) Via.refl P3 P1 P0 (Or.inr ⟨(w24 hw), rfl, rfl⟩) (w9 hw) (ty := (.array .byte)) (by decide) rfl rfl d4_14 rfl fun h1 W2 => ?_
  have F3 := P1.same W2
  refine Wk.aloadN (pc' := 18) d4_17 rfl rfl rfl ?_
  refine Wk.ldcAgain (a0 := a0) (pc' := 20) (w22 hw) hm d4_18 rfl ?_
  have f4 := (P6.other W2 (Or.inl (Ne.symm P8)))
  refine Wk.getF (a0 := a0) (pc' := 23) (host := "") (Or.inl (w29 hw)) Via.refl f4 d4_20 rfl ?_
  have f5 := (P0.wr W2)
  have f6 := (P2.other W2 (Or.inr (slot_ne (Or.inr (w25 hw)) (Or.inr (w24 hw)) (by decide) (t := .byte) (t' := (.array .byte)) (by decide) (by decide))))
  refine Wk.putFN (a0 := a0) (pc' := 26) (v' := (.int (0 : Int32))) (w29 hw) Via.refl P3 f6 f5 (Or.inr ⟨(w25 hw), rfl, rfl⟩) (w9 hw) (ty := .byte) (by decide) rfl rfl d4_23 rfl fun h7 W8 => ?_
  have F9 := f6.same W8
  have f10 := (F3.other W8 (Or.inr (slot_ne (Or.inr (w24 hw)) (Or.inr (w25 hw)) (by decide) (t := (.array .byte)) (t' := .byte) (by decide) (by decide))))
  exact Wk.return_ rfl d4_26 (Nat.le_of_ble_eq_true rfl) (Nat.le_of_ble_eq_true rfl) ⟨rfl, rfl, (((Keep.refl h0 [a]).wr W2 (Or.inl (by simp))).wr W8 (Or.inl (by simp))), f10, F9⟩
theorem ef_e_1b (m : MethodId) (x0 : Addr) (x1 : Addr) : entryFrame m #[(.ref x0), (.ref x1)] 2 = mkF m 0 #[.val (.ref x0), .val (.ref x1)] [] := by first | (simp [entryFrame, mkF, argsToLocals, Value.category]; done) | rfl
abbrev b_e_1b : Bdy := ((⟨"java/lang/String", "<init>", "([C)V"⟩ : MethodName), jdk_42_method_3_code, 2, (Option.none : Option Jvm.ClassFile.FieldType), ({ frames := 2, cells := 0, slots := 0, locals := 29 } : Room))
def Q_e_1b (Z : State) (N : Nat) (a : Addr) (c : Addr) (q : ClassId) (al : Addr) (bl : Addr) (ql : ClassId) (Ts : List String) (Lk : List (String × Nat × Addr)) (h0 : Heap) (I : Lts) (v : Option Value) (h : Heap) (J : Lts) : Prop := I = J ∧ v = none ∧ Keep h0 h [a] ∧ Fld Z h a "java/lang/String" "value" "[B" (.ref bl) ∧ Fld Z h a "java/lang/String" "coder" "B" (.int (0 : Int32))
set_option maxRecDepth 65536 in
set_option maxHeartbeats 40000000 in
theorem rm_e_1b {l : Launch} {Z : State} {a0 : Array Value} {N : Nat} (hw : ∀ d ∈ tables_1, d.before a0 Z = true) (a : Addr) (c : Addr) (q : ClassId) (al : Addr) (bl : Addr) (ql : ClassId) (Ts : List String) (Lk : List (String × Nat × Addr)) (h0 : Heap) (P0 : Arv Z h0 c q .char (0 : Int32) [] (.int (0 : Int32))) (P1 : Exa Z h0 a "java/lang/String") (P2 : Fld Z h0 a "java/lang/String" "value" "[B" .null) (P3 : Fld Z h0 a "java/lang/String" "coder" "B" (.int (0 : Int32))) (P4 : N ≤ a) (P5 : Exa Z h0 al "java/lang/String") (P6 : Fld Z h0 al "java/lang/String" "value" "[B" (.ref bl)) (P7 : Fld Z h0 al "java/lang/String" "coder" "B" (.int (0 : Int32))) (P8 : Arv Z h0 bl ql .byte (0 : Int32) [] (.int (0 : Int32))) (P9 : a ≠ al) (P10 : a ≠ bl) (hm : ("java/lang/String", 7, al) ∈ Lk) :
    Cn l Z N b_e_1b #[(.ref a), (.ref c)] h0 (some (Ts, Lk)) (Q_e_1b Z N a c q al bl ql Ts Lk h0 (some (Ts, Lk))) := by
  refine Cn.of_wk (Ls := #[.val (.ref a), .val (.ref c)]) (plainFor_of_name (by first | (simp [plainName, overriddenIn]; done) | decide +kernel)) (fun m => ef_e_1b m a c) ?_
  refine Wk.aloadN (pc' := 1) d3_0 rfl rfl rfl ?_
  refine Wk.aloadN (pc' := 2) d3_1 rfl rfl rfl ?_
  refine Wk.iconst (pc' := 3) (v := 0) d3_2 rfl rfl ?_
  refine Wk.aloadN (pc' := 4) d3_3 rfl rfl rfl ?_
  refine Wk.arraylength (pc' := 5) P0 d3_4 rfl ?_
  refine Wk.aconstNull (pc' := 6) d3_5 rfl ?_
  refine Wk.callN (a0 := a0) (pc' := 9) (k' := 0) (n' := 0) (W := 0) (b := b_e_5b) (argsL := [(.ref c), (.int (0 : Int32)), (.int (0 : Int32)), .null]) (rest := []) (rm_e_5b hw a c al bl ql Ts Lk h0  P1 P2 P3 P4 P5 P6 P7 P8 P9 P10 hm) rfl rfl (w15 hw) (w16 hw) (w10 hw) (w18 hw) (by decide) (Nat.le_refl _) id (Nat.le_of_ble_eq_true rfl) (Nat.le_of_ble_eq_true rfl) rfl rfl (Nat.le_of_ble_eq_true rfl) (Nat.le_of_ble_eq_true rfl) rfl pd8 rfl rfl rfl (Nat.le_of_ble_eq_true rfl) d3_6 rfl fun v1 h2 J3 hs4 hQ5 => ?_
  obtain ⟨rfl, rfl, K6, g7, g8⟩ := hQ5
  show Wk _ h2 0 0 (some (Ts, Lk)) 9 #[.val (.ref a), .val (.ref c)] []
  exact Wk.return_ rfl d3_9 (Nat.le_of_ble_eq_true rfl) (Nat.le_of_ble_eq_true rfl) ⟨rfl, rfl, ((Keep.refl h0 [a]).trans K6 (allS (Or.inl (by simp)) all0)), g7, g8⟩
theorem ef_prn (m : MethodId) (x0 : Int32) : entryFrame m #[(.int x0)] 1 = mkF m 0 #[.val (.int x0)] [] := by first | (simp [entryFrame, mkF, argsToLocals, Value.category]; done) | rfl
abbrev b_prn : Bdy := ((⟨"com/example/portcullis/portcullis/gate/ChallengeWithRealmPinLaw", "printable", "(I)C"⟩ : MethodName), method_3_code, 1, (Option.some Jvm.ClassFile.FieldType.char), ({ frames := 0, cells := 0, slots := 0, locals := 0 } : Room))
def Q_prn (Z : State) (N : Nat) (u : Int32) (h0 : Heap) (I : Lts) (v : Option Value) (h : Heap) (J : Lts) : Prop := ∃ c : Int32, I = J ∧ v = some (.int c) ∧ h0 = h ∧ own_p c
set_option maxRecDepth 65536 in
set_option maxHeartbeats 40000000 in
theorem rm_prn {l : Launch} {Z : State} {a0 : Array Value} {N : Nat} (hw : ∀ d ∈ tables_1, d.before a0 Z = true) (u : Int32) (h0 : Heap) (I : Lts) :
    Cn l Z N b_prn #[(.int u)] h0 I (Q_prn Z N u h0 I) := by
  refine Cn.of_wk (Ls := #[.val (.int u)]) (plainFor_of_name (by first | (simp [plainName, overriddenIn]; done) | decide +kernel)) (fun m => ef_prn m u) ?_
  refine Wk.bipush (pc' := 2) (v := 32) d1_0 rfl rfl ?_
  refine Wk.iloadN (pc' := 3) d1_2 rfl rfl ?_
  refine Wk.ldcI (a0 := a0) (pc' := 5) (w4 hw) d1_3 rfl ?_
  refine Wk.iand (pc' := 6) d1_5 rfl ?_
  refine Wk.bipush (pc' := 8) (v := 95) d1_6 rfl rfl ?_
  refine Wk.irem (pc' := 9) d1_8 rfl (by decide) ?_
  refine Wk.iadd (pc' := 10) d1_9 rfl ?_
  refine Wk.i2c (pc' := 11) d1_10 rfl ?_
  exact Wk.zreturn rfl (by simp) d1_11 (Nat.le_of_ble_eq_true rfl) (Nat.le_of_ble_eq_true rfl) ⟨_, rfl, rfl, rfl, own_pr u⟩
theorem ef_mka (m : MethodId) (x0 : Int32) (x1 : Int32) (x2 : Int32) (x3 : Int32) : entryFrame m #[(.int x0), (.int x1), (.int x2), (.int x3)] 4 = mkF m 0 #[.val (.int x0), .val (.int x1), .val (.int x2), .val (.int x3)] [] := by first | (simp [entryFrame, mkF, argsToLocals, Value.category]; done) | rfl
abbrev b_mka : Bdy := ((⟨"com/example/portcullis/portcullis/gate/ChallengeWithRealmPinLaw", "mk", "(ICCC)Ljava/lang/String;"⟩ : MethodName), method_2_code, 4, (Option.some (Jvm.ClassFile.FieldType.object "java/lang/String")), ({ frames := 3, cells := 4, slots := 8, locals := 43 } : Room))
def Q_mka (Z : State) (N : Nat) (n : Nat) (x : Int32) (y : Int32) (z : Int32) (Ts : List String) (Lk : List (String × Nat × Addr)) (h0 : Heap) (I : Lts) (v : Option Value) (h : Heap) (J : Lts) : Prop := ∃ r : Addr, ∃ al : Addr, ∃ bl : Addr, ∃ ql : ClassId, (some (("" :: Ts), [("java/lang/String", 7, al)]) : Lts) = J ∧ v = some (.ref r) ∧ Ext h0 h ∧ h0.size ≤ r ∧ Exa Z h r "java/lang/String" ∧ Fld Z h r "java/lang/String" "value" "[B" (.ref bl) ∧ Fld Z h r "java/lang/String" "coder" "B" (.int (0 : Int32)) ∧ Exa Z h al "java/lang/String" ∧ Fld Z h al "java/lang/String" "value" "[B" (.ref bl) ∧ Fld Z h al "java/lang/String" "coder" "B" (.int (0 : Int32)) ∧ Arv Z h bl ql .byte (0 : Int32) [] (.int (0 : Int32))
set_option maxRecDepth 65536 in
set_option maxHeartbeats 40000000 in
theorem rm_mka {l : Launch} {Z : State} {a0 : Array Value} {N : Nat} (hw : ∀ d ∈ tables_1, d.before a0 Z = true) (n : Nat) (x : Int32) (y : Int32) (z : Int32) (Ts : List String) (Lk : List (String × Nat × Addr)) (h0 : Heap) (hn0 : n = 0) (hT : "" ∉ Ts) (G_h7 : Jvm.Lit.constHeld Z "java/lang/String" 7) (G_cw : Jvm.Lit.compactW.before a0 Z = true) :
    Cn l Z N b_mka #[(.int (Int32.ofNat n)), (.int x), (.int y), (.int z)] h0 (some (Ts, Lk)) (Q_mka Z N n x y z Ts Lk h0 (some (Ts, Lk))) := by
  refine Cn.of_wk (Ls := #[.val (.int (Int32.ofNat n)), .val (.int x), .val (.int y), .val (.int z)]) (plainFor_of_name (by first | (simp [plainName, overriddenIn]; done) | decide +kernel)) (fun m => ef_mka m (Int32.ofNat n) x y z) ?_
  refine Wk.iloadN (pc' := 1) d2_0 rfl rfl ?_
  refine Wk.if_neN (pc' := 4) d2_1 rfl (by rw [hn0]; rfl) ?_
  refine Wk.newO (a0 := a0) (pc' := 7) (k' := 1) (n' := 4) (w8 hw) (w9 hw) (w10 hw) d2_4 rfl rfl rfl (Nat.le_of_ble_eq_true rfl) (Nat.le_of_ble_eq_true rfl) fun a1 h2 hg3 hN4 E5 A6 D7 => ?_
  have F8 : Fld Z h2 a1 "java/lang/String" "value" "[B" .null := D7 (Or.inr (w24 hw)) (ty := (.array .byte)) (by decide)
  have F9 : Fld Z h2 a1 "java/lang/String" "coder" "B" (.int (0 : Int32)) := D7 (Or.inr (w25 hw)) (ty := .byte) (by decide)
  refine Wk.dup (pc' := 8) d2_7 rfl rfl ?_
  refine Wk.iconst (pc' := 9) (v := 0) d2_8 rfl rfl ?_
  refine Wk.newP (a0 := a0) (aty := .char) (pc' := 11) (k' := 2) (n' := 4) (cap := 0) (w11 hw) d2_9 rfl (by decide) (by decide) (by decide) rfl rfl (Nat.le_of_ble_eq_true rfl) (Nat.le_of_ble_eq_true rfl) fun a10 h11 q12 hg13 hN14 E15 A16 => ?_
  have ne17 : a1 ≠ a10 := Nat.ne_of_lt (Nat.lt_of_lt_of_le A6.lt hg13)
  have f18 := (A6.ext E15)
  have f19 := (F8.ext E15)
  have f20 := (F9.ext E15)
  refine Wk.callN (a0 := a0) (pc' := 14) (k' := 4) (n' := 8) (W := 1) (b := b_e_1a) (argsL := [(.ref a10)]) (rest := [(.ref a1)]) (rm_e_1a hw a1 a10 q12 Ts Lk h11  A16 f18 f19 f20 hN4 hT G_h7 G_cw) rfl rfl (w12 hw) (w13 hw) (w10 hw) (w14 hw) (by decide) (Nat.le_refl _) id (Nat.le_of_ble_eq_true rfl) (Nat.le_of_ble_eq_true rfl) rfl rfl (Nat.le_of_ble_eq_true rfl) (Nat.le_of_ble_eq_true rfl) rfl pd23 rfl rfl rfl (Nat.le_of_ble_eq_true rfl) d2_11 rfl fun v21 h22 J23 hs24 hQ25 => ?_
  obtain ⟨al26, bl27, ql28, rfl, rfl, K29, g30, g31, g32, g33, g34, g35⟩ := hQ25
  show Wk _ h22 4 8 (some (("" :: Ts), [("java/lang/String", 7, al26)])) 14 #[.val (.int (Int32.ofNat n)), .val (.int x), .val (.int y), .val (.int z)] [(.ref a1)]
  have f36 := (f18.keep K29)
  exact Wk.areturn rfl rfl rfl d2_14 (Nat.le_of_ble_eq_true rfl) (Nat.le_of_ble_eq_true rfl) ⟨a1, al26, bl27, ql28, rfl, rfl, (own_ext ((((Keep.refl h0 []).ext E5).ext E15).trans K29 (allS (Or.inr hg3) all0))), hg3, f36, g30, g31, g32, g33, g34, g35⟩
theorem ef_mkb (m : MethodId) (x0 : Int32) (x1 : Int32) (x2 : Int32) (x3 : Int32) : entryFrame m #[(.int x0), (.int x1), (.int x2), (.int x3)] 4 = mkF m 0 #[.val (.int x0), .val (.int x1), .val (.int x2), .val (.int x3)] [] := by first | (simp [entryFrame, mkF, argsToLocals, Value.category]; done) | rfl
abbrev b_mkb : Bdy := ((⟨"com/example/portcullis/portcullis/gate/ChallengeWithRealmPinLaw", "mk", "(ICCC)Ljava/lang/String;"⟩ : MethodName), method_2_code, 4, (Option.some (Jvm.ClassFile.FieldType.object "java/lang/String")), ({ frames := 3, cells := 2, slots := 4, locals := 43 } : Room))
def Q_mkb (Z : State) (N : Nat) (n : Nat) (x : Int32) (y : Int32) (z : Int32) (al : Addr) (bl : Addr) (ql : ClassId) (Ts : List String) (Lk : List (String × Nat × Addr)) (h0 : Heap) (I : Lts) (v : Option Value) (h : Heap) (J : Lts) : Prop := ∃ r : Addr, I = J ∧ v = some (.ref r) ∧ Ext h0 h ∧ h0.size ≤ r ∧ Exa Z h r "java/lang/String" ∧ Fld Z h r "java/lang/String" "value" "[B" (.ref bl) ∧ Fld Z h r "java/lang/String" "coder" "B" (.int (0 : Int32))
set_option maxRecDepth 65536 in
set_option maxHeartbeats 40000000 in
theorem rm_mkb {l : Launch} {Z : State} {a0 : Array Value} {N : Nat} (hw : ∀ d ∈ tables_1, d.before a0 Z = true) (n : Nat) (x : Int32) (y : Int32) (z : Int32) (al : Addr) (bl : Addr) (ql : ClassId) (Ts : List String) (Lk : List (String × Nat × Addr)) (h0 : Heap) (hn0 : n = 0) (P1 : Exa Z h0 al "java/lang/String") (P2 : Fld Z h0 al "java/lang/String" "value" "[B" (.ref bl)) (P3 : Fld Z h0 al "java/lang/String" "coder" "B" (.int (0 : Int32))) (P4 : Arv Z h0 bl ql .byte (0 : Int32) [] (.int (0 : Int32))) (hm : ("java/lang/String", 7, al) ∈ Lk) :
    Cn l Z N b_mkb #[(.int (Int32.ofNat n)), (.int x), (.int y), (.int z)] h0 (some (Ts, Lk)) (Q_mkb Z N n x y z al bl ql Ts Lk h0 (some (Ts, Lk))) := by
  refine Cn.of_wk (Ls := #[.val (.int (Int32.ofNat n)), .val (.int x), .val (.int y), .val (.int z)]) (plainFor_of_name (by first | (simp [plainName, overriddenIn]; done) | decide +kernel)) (fun m => ef_mkb m (Int32.ofNat n) x y z) ?_
  refine Wk.iloadN (pc' := 1) d2_0 rfl rfl ?_
  refine Wk.if_neN (pc' := 4) d2_1 rfl (by rw [hn0]; rfl) ?_
  refine Wk.newO (a0 := a0) (pc' := 7) (k' := 1) (n' := 4) (w8 hw) (w9 hw) (w10 hw) d2_4 rfl rfl rfl (Nat.le_of_ble_eq_true rfl) (Nat.le_of_ble_eq_true rfl) fun a1 h2 hg3 hN4 E5 A6 D7 => ?_
  have ne8 : al ≠ a1 := Nat.ne_of_lt (Nat.lt_of_lt_of_le P1.lt hg3)
  have ne9 : bl ≠ a1 := Nat.ne_of_lt (Nat.lt_of_lt_of_le P4.lt hg3)
  have F10 : Fld Z h2 a1 "java/lang/String" "value" "[B" .null := D7 (Or.inr (w24 hw)) (ty := (.array .byte)) (by decide)
  have F11 : Fld Z h2 a1 "java/lang/String" "coder" "B" (.int (0 : Int32)) := D7 (Or.inr (w25 hw)) (ty := .byte) (by decide)
  refine Wk.dup (pc' := 8) d2_7 rfl rfl ?_
  refine Wk.iconst (pc' := 9) (v := 0) d2_8 rfl rfl ?_
  refine Wk.newP (a0 := a0) (aty := .char) (pc' := 11) (k' := 2) (n' := 4) (cap := 0) (w11 hw) d2_9 rfl (by decide) (by decide) (by decide) rfl rfl (Nat.le_of_ble_eq_true rfl) (Nat.le_of_ble_eq_true rfl) fun a12 h13 q14 hg15 hN16 E17 A18 => ?_
  have f19 := (P1.ext E5)
  have ne20 : al ≠ a12 := Nat.ne_of_lt (Nat.lt_of_lt_of_le f19.lt hg15)
  have f21 := (P4.ext E5)
  have ne22 : bl ≠ a12 := Nat.ne_of_lt (Nat.lt_of_lt_of_le f21.lt hg15)
  have ne23 : a1 ≠ a12 := Nat.ne_of_lt (Nat.lt_of_lt_of_le A6.lt hg15)
  have f24 := (A6.ext E17)
  have f25 := (F10.ext E17)
  have f26 := (F11.ext E17)
  have f27 := (f19.ext E17)
  have f28 := ((P2.ext E5).ext E17)
  have f29 := ((P3.ext E5).ext E17)
  have f30 := (f21.ext E17)
  refine Wk.callN (a0 := a0) (pc' := 14) (k' := 2) (n' := 4) (W := 1) (b := b_e_1b) (argsL := [(.ref a12)]) (rest := [(.ref a1)]) (rm_e_1b hw a1 a12 q14 al bl ql Ts Lk h13  A18 f24 f25 f26 hN4 f27 f28 f29 f30 (Ne.symm ne8) (Ne.symm ne9) hm) rfl rfl (w12 hw) (w13 hw) (w10 hw) (w14 hw) (by decide) (Nat.le_refl _) id (Nat.le_of_ble_eq_true rfl) (Nat.le_of_ble_eq_true rfl) rfl rfl (Nat.le_of_ble_eq_true rfl) (Nat.le_of_ble_eq_true rfl) rfl pd23 rfl rfl rfl (Nat.le_of_ble_eq_true rfl) d2_11 rfl fun v31 h32 J33 hs34 hQ35 => ?_
  obtain ⟨rfl, rfl, K36, g37, g38⟩ := hQ35
  show Wk _ h32 2 4 (some (Ts, Lk)) 14 #[.val (.int (Int32.ofNat n)), .val (.int x), .val (.int y), .val (.int z)] [(.ref a1)]
  have f39 := (f24.keep K36)
  exact Wk.areturn rfl rfl rfl d2_14 (Nat.le_of_ble_eq_true rfl) (Nat.le_of_ble_eq_true rfl) ⟨a1, rfl, rfl, (own_ext ((((Keep.refl h0 []).ext E5).ext E17).trans K36 (allS (Or.inr hg3) all0))), hg3, f39, g37, g38⟩
theorem ef_mkc (m : MethodId) (x0 : Int32) (x1 : Int32) (x2 : Int32) (x3 : Int32) : entryFrame m #[(.int x0), (.int x1), (.int x2), (.int x3)] 4 = mkF m 0 #[.val (.int x0), .val (.int x1), .val (.int x2), .val (.int x3)] [] := by first | (simp [entryFrame, mkF, argsToLocals, Value.category]; done) | rfl
abbrev b_mkc : Bdy := ((⟨"com/example/portcullis/portcullis/gate/ChallengeWithRealmPinLaw", "mk", "(ICCC)Ljava/lang/String;"⟩ : MethodName), method_2_code, 4, (Option.some (Jvm.ClassFile.FieldType.object "java/lang/String")), ({ frames := 4, cells := 3, slots := 10, locals := 66 } : Room))
def Q_mkc (Z : State) (N : Nat) (n : Nat) (x : Int32) (y : Int32) (z : Int32) (cs : Int32) (h0 : Heap) (I : Lts) (v : Option Value) (h : Heap) (J : Lts) : Prop := ∃ r : Addr, ∃ v' : Addr, ∃ q' : ClassId, I = J ∧ v = some (.ref r) ∧ Ext h0 h ∧ h0.size ≤ r ∧ Exa Z h r "java/lang/String" ∧ Fld Z h r "java/lang/String" "value" "[B" (.ref v') ∧ Fld Z h r "java/lang/String" "coder" "B" (.int (0 : Int32)) ∧ Arv Z h v' q' .byte (Int32.ofNat (own_mkl n x y z).length) ((own_mkl n x y z).map own_by) (.int (0 : Int32))
set_option maxRecDepth 65536 in
set_option maxHeartbeats 40000000 in
theorem rm_mkc {l : Launch} {Z : State} {a0 : Array Value} {N : Nat} (hw : ∀ d ∈ tables_1, d.before a0 Z = true) (n : Nat) (x : Int32) (y : Int32) (z : Int32) (cs : Int32) (h0 : Heap) (I : Lts) (P0 : Sta Z Z.heap "java/lang/String" "COMPACT_STRINGS" "Z" (.int cs)) (G_cs : ¬ cs = (0 : Int32)) (h0' : ¬ n = 0) (h3' : n ≤ 3) (hx : own_c x) (hy : own_c y) (hz : own_c z) :
    Cn l Z N b_mkc #[(.int (Int32.ofNat n)), (.int x), (.int y), (.int z)] h0 I (Q_mkc Z N n x y z cs h0 I) := by
  refine Cn.of_wk (Ls := #[.val (.int (Int32.ofNat n)), .val (.int x), .val (.int y), .val (.int z)]) (plainFor_of_name (by first | (simp [plainName, overriddenIn]; done) | decide +kernel)) (fun m => ef_mkc m (Int32.ofNat n) x y z) ?_
  refine Wk.iloadN (pc' := 1) d2_0 rfl rfl ?_
  refine Wk.if_neY (pc' := 15) d2_1 (by decide) (mt (own_eq (j := 0) (by omega) (by decide)).mp h0') ?_
  by_cases hn1 : n = 1
  · skip
    refine Wk.iloadN (pc' := 16) d2_15 rfl rfl ?_
    refine Wk.iconst (pc' := 17) (v := 1) d2_16 rfl rfl ?_
    refine Wk.icmp_neN (pc' := 20) d2_17 rfl (by rw [hn1]; rfl) ?_
    refine Wk.newO (a0 := a0) (pc' := 23) (k' := 1) (n' := 4) (w8 hw) (w9 hw) (w10 hw) d2_20 rfl rfl rfl (Nat.le_of_ble_eq_true rfl) (Nat.le_of_ble_eq_true rfl) fun a1 h2 hg3 hN4 E5 A6 D7 => ?_
    have F8 : Fld Z h2 a1 "java/lang/String" "value" "[B" .null := D7 (Or.inr (w24 hw)) (ty := (.array .byte)) (by decide)
    have F9 : Fld Z h2 a1 "java/lang/String" "coder" "B" (.int (0 : Int32)) := D7 (Or.inr (w25 hw)) (ty := .byte) (by decide)
    refine Wk.dup (pc' := 24) d2_23 rfl rfl ?_
    refine Wk.iconst (pc' := 25) (v := 1) d2_24 rfl rfl ?_
    refine Wk.newP (a0 := a0) (aty := .char) (pc' := 27) (k' := 2) (n' := 5) (cap := 1) (w11 hw) d2_25 rfl (by decide) (by decide) (by decide) rfl rfl (Nat.le_of_ble_eq_true rfl) (Nat.le_of_ble_eq_true rfl) fun a10 h11 q12 hg13 hN14 E15 A16 => ?_
    have ne17 : a1 ≠ a10 := Nat.ne_of_lt (Nat.lt_of_lt_of_le A6.lt hg13)
    have A18 : Arv Z h11 a10 q12 .char (1 : Int32) [(.int (0 : Int32))] (.int (0 : Int32)) := A16.pad (pad_rep [] (.int (0 : Int32)) 1)
    refine Wk.dup (pc' := 28) d2_27 rfl rfl ?_
    refine Wk.iconst (pc' := 29) (v := 0) d2_28 rfl rfl ?_
    refine Wk.iloadN (pc' := 30) d2_29 rfl rfl ?_
    refine Wk.castore (pc' := 31) A18 hN14 ⟨by decide, by decide⟩ 0 (by decide) (Nat.le_of_ble_eq_true rfl) d2_30 rfl fun h19 W20 A21 => ?_
    have A22 : Arv Z h19 a10 q12 .char (1 : Int32) [(.int x)] (.int (0 : Int32)) := by have q := A21; rw [own_nc hx] at q; exact q
    have f23 := ((A6.ext E15).wr W20)
    have f24 := ((F8.ext E15).other W20 (Or.inl ne17))
    have f25 := ((F9.ext E15).other W20 (Or.inl ne17))
    refine Wk.callN (a0 := a0) (pc' := 34) (k' := 3) (n' := 8) (W := 1) (b := b_s_in1) (argsL := [(.ref a10)]) (rest := [(.ref a1)]) (rm_s_in1 hw a1 a10 q12 [x] cs h19 I P0 G_cs f23 f24 f25 A22 hN4 (Nat.le_of_ble_eq_true rfl) (own_Lc hx own_Ln) (by simp)) rfl rfl (w12 hw) (w13 hw) (w10 hw) (w14 hw) (by decide) (Nat.le_refl _) id (Nat.le_of_ble_eq_true rfl) (Nat.le_of_ble_eq_true rfl) rfl rfl (Nat.le_of_ble_eq_true rfl) (Nat.le_of_ble_eq_true rfl) rfl pd23 rfl rfl rfl (Nat.le_of_ble_eq_true rfl) d2_31 rfl fun v26 h27 J28 hs29 hQ30 => ?_
    obtain ⟨v'31, q'32, rfl, rfl, K33, g34, g35, g36⟩ := hQ30
    show Wk _ h27 3 8 I 34 #[.val (.int (Int32.ofNat n)), .val (.int x), .val (.int y), .val (.int z)] [(.ref a1)]
    have A37 : Arv Z h27 v'31 q'32 .byte (Int32.ofNat (own_mkl n x y z).length) ((own_mkl n x y z).map own_by) (.int (0 : Int32)) := by rw [show own_mkl n x y z = [x] from by rw [hn1]; rfl]; exact g36
    have f38 := (f23.keep K33)
    exact Wk.areturn rfl rfl rfl d2_34 (Nat.le_of_ble_eq_true rfl) (Nat.le_of_ble_eq_true rfl) ⟨a1, v'31, q'32, rfl, rfl, (own_ext (((((Keep.refl h0 []).ext E5).ext E15).wr W20 (Or.inr (Nat.le_trans E5.1 hg13))).trans K33 (allS (Or.inr hg3) all0))), hg3, f38, g34, g35, A37⟩
  · skip
    refine Wk.iloadN (pc' := 16) d2_15 rfl rfl ?_
    refine Wk.iconst (pc' := 17) (v := 1) d2_16 rfl rfl ?_
    refine Wk.icmp_neY (pc' := 35) d2_17 (by decide) (mt (own_eq (j := 1) (by omega) (by decide)).mp hn1) ?_
    by_cases hn2 : n = 2
    · skip
      refine Wk.iloadN (pc' := 36) d2_35 rfl rfl ?_
      refine Wk.iconst (pc' := 37) (v := 2) d2_36 rfl rfl ?_
      refine Wk.icmp_neN (pc' := 40) d2_37 rfl (by rw [hn2]; rfl) ?_
      refine Wk.newO (a0 := a0) (pc' := 43) (k' := 1) (n' := 4) (w8 hw) (w9 hw) (w10 hw) d2_40 rfl rfl rfl (Nat.le_of_ble_eq_true rfl) (Nat.le_of_ble_eq_true rfl) fun a39 h40 hg41 hN42 E43 A44 D45 => ?_
      have F46 : Fld Z h40 a39 "java/lang/String" "value" "[B" .null := D45 (Or.inr (w24 hw)) (ty := (.array .byte)) (by decide)
      have F47 : Fld Z h40 a39 "java/lang/String" "coder" "B" (.int (0 : Int32)) := D45 (Or.inr (w25 hw)) (ty := .byte) (by decide)
      refine Wk.dup (pc' := 44) d2_43 rfl rfl ?_
      refine Wk.iconst (pc' := 45) (v := 2) d2_44 rfl rfl ?_
      refine Wk.newP (a0 := a0) (aty := .char) (pc' := 47) (k' := 2) (n' := 6) (cap := 2) (w11 hw) d2_45 rfl (by decide) (by decide) (by decide) rfl rfl (Nat.le_of_ble_eq_true rfl) (Nat.le_of_ble_eq_true rfl) fun a48 h49 q50 hg51 hN52 E53 A54 => ?_
      have ne55 : a39 ≠ a48 := Nat.ne_of_lt (Nat.lt_of_lt_of_le A44.lt hg51)
      have A56 : Arv Z h49 a48 q50 .char (2 : Int32) [(.int (0 : Int32)), (.int (0 : Int32))] (.int (0 : Int32)) := A54.pad (pad_rep [] (.int (0 : Int32)) 2)
      refine Wk.dup (pc' := 48) d2_47 rfl rfl ?_
      refine Wk.iconst (pc' := 49) (v := 0) d2_48 rfl rfl ?_
      refine Wk.iloadN (pc' := 50) d2_49 rfl rfl ?_
      refine Wk.castore (pc' := 51) A56 hN52 ⟨by decide, by decide⟩ 0 (by decide) (Nat.le_of_ble_eq_true rfl) d2_50 rfl fun h57 W58 A59 => ?_
      have A60 : Arv Z h57 a48 q50 .char (2 : Int32) [(.int x), (.int (0 : Int32))] (.int (0 : Int32)) := by have q := A59; rw [own_nc hx] at q; exact q
      refine Wk.dup (pc' := 52) d2_51 rfl rfl ?_
      refine Wk.iconst (pc' := 53) (v := 1) d2_52 rfl rfl ?_
      refine Wk.iloadN (pc' := 54) d2_53 rfl rfl ?_
      refine Wk.castore (pc' := 55) A60 hN52 ⟨by decide, by decide⟩ 1 (by decide) (Nat.le_of_ble_eq_true rfl) d2_54 rfl fun h61 W62 A63 => ?_
      have A64 : Arv Z h61 a48 q50 .char (2 : Int32) [(.int x), (.int y)] (.int (0 : Int32)) := by have q := A63; rw [own_nc hy] at q; exact q
      have f65 := (((A44.ext E53).wr W58).wr W62)
      have f66 := (((F46.ext E53).other W58 (Or.inl ne55)).other W62 (Or.inl ne55))
      have f67 := (((F47.ext E53).other W58 (Or.inl ne55)).other W62 (Or.inl ne55))
      refine Wk.callN (a0 := a0) (pc' := 58) (k' := 3) (n' := 9) (W := 1) (b := b_s_in1) (argsL := [(.ref a48)]) (rest := [(.ref a39)]) (rm_s_in1 hw a39 a48 q50 [x, y] cs h61 I P0 G_cs f65 f66 f67 A64 hN42 (Nat.le_of_ble_eq_true rfl) (own_Lc hx (own_Lc hy own_Ln)) (by simp)) rfl rfl (w12 hw) (w13 hw) (w10 hw) (w14 hw) (by decide) (Nat.le_refl _) id (Nat.le_of_ble_eq_true rfl) (Nat.le_of_ble_eq_true rfl) rfl rfl (Nat.le_of_ble_eq_true rfl) (Nat.le_of_ble_eq_true rfl) rfl pd23 rfl rfl rfl (Nat.le_of_ble_eq_true rfl) d2_55 rfl fun v68 h69 J70 hs71 hQ72 => ?_
      obtain ⟨v'73, q'74, rfl, rfl, K75, g76, g77, g78⟩ := hQ72
      show Wk _ h69 3 9 I 58 #[.val (.int (Int32.ofNat n)), .val (.int x), .val (.int y), .val (.int z)] [(.ref a39)]
      have A79 : Arv Z h69 v'73 q'74 .byte (Int32.ofNat (own_mkl n x y z).length) ((own_mkl n x y z).map own_by) (.int (0 : Int32)) := by rw [show own_mkl n x y z = [x, y] from by rw [hn2]; rfl]; exact g78
      have f80 := (f65.keep K75)
      exact Wk.areturn rfl rfl rfl d2_58 (Nat.le_of_ble_eq_true rfl) (Nat.le_of_ble_eq_true rfl) ⟨a39, v'73, q'74, rfl, rfl, (own_ext ((((((Keep.refl h0 []).ext E43).ext E53).wr W58 (Or.inr (Nat.le_trans E43.1 hg51))).wr W62 (Or.inr (Nat.le_trans E43.1 hg51))).trans K75 (allS (Or.inr hg41) all0))), hg41, f80, g76, g77, A79⟩
    · skip
      refine Wk.iloadN (pc' := 36) d2_35 rfl rfl ?_
      refine Wk.iconst (pc' := 37) (v := 2) d2_36 rfl rfl ?_
      refine Wk.icmp_neY (pc' := 59) d2_37 (by decide) (mt (own_eq (j := 2) (by omega) (by decide)).mp hn2) ?_
      refine Wk.newO (a0 := a0) (pc' := 62) (k' := 1) (n' := 4) (w8 hw) (w9 hw) (w10 hw) d2_59 rfl rfl rfl (Nat.le_of_ble_eq_true rfl) (Nat.le_of_ble_eq_true rfl) fun a81 h82 hg83 hN84 E85 A86 D87 => ?_
      have F88 : Fld Z h82 a81 "java/lang/String" "value" "[B" .null := D87 (Or.inr (w24 hw)) (ty := (.array .byte)) (by decide)
      have F89 : Fld Z h82 a81 "java/lang/String" "coder" "B" (.int (0 : Int32)) := D87 (Or.inr (w25 hw)) (ty := .byte) (by decide)
      refine Wk.dup (pc' := 63) d2_62 rfl rfl ?_
      refine Wk.iconst (pc' := 64) (v := 3) d2_63 rfl rfl ?_
      refine Wk.newP (a0 := a0) (aty := .char) (pc' := 66) (k' := 2) (n' := 7) (cap := 3) (w11 hw) d2_64 rfl (by decide) (by decide) (by decide) rfl rfl (Nat.le_of_ble_eq_true rfl) (Nat.le_of_ble_eq_true rfl) fun a90 h91 q92 hg93 hN94 E95 A96 => ?_
      have ne97 : a81 ≠ a90 := Nat.ne_of_lt (Nat.lt_of_lt_of_le A86.lt hg93)
      have A98 : Arv Z h91 a90 q92 .char (3 : Int32) [(.int (0 : Int32)), (.int (0 : Int32)), (.int (0 : Int32))] (.int (0 : Int32)) := A96.pad (pad_rep [] (.int (0 : Int32)) 3)
      refine Wk.dup (pc' := 67) d2_66 rfl rfl ?_
      refine Wk.iconst (pc' := 68) (v := 0) d2_67 rfl rfl ?_
      refine Wk.iloadN (pc' := 69) d2_68 rfl rfl ?_
      refine Wk.castore (pc' := 70) A98 hN94 ⟨by decide, by decide⟩ 0 (by decide) (Nat.le_of_ble_eq_true rfl) d2_69 rfl fun h99 W100 A101 => ?_
      have A102 : Arv Z h99 a90 q92 .char (3 : Int32) [(.int x), (.int (0 : Int32)), (.int (0 : Int32))] (.int (0 : Int32)) := by have q := A101; rw [own_nc hx] at q; exact q
      refine Wk.dup (pc' := 71) d2_70 rfl rfl ?_
      refine Wk.iconst (pc' := 72) (v := 1) d2_71 rfl rfl ?_
      refine Wk.iloadN (pc' := 73) d2_72 rfl rfl ?_
      refine Wk.castore (pc' := 74) A102 hN94 ⟨by decide, by decide⟩ 1 (by decide) (Nat.le_of_ble_eq_true rfl) d2_73 rfl fun h103 W104 A105 => ?_
      have A106 : Arv Z h103 a90 q92 .char (3 : Int32) [(.int x), (.int y), (.int (0 : Int32))] (.int (0 : Int32)) := by have q := A105; rw [own_nc hy] at q; exact q
      refine Wk.dup (pc' := 75) d2_74 rfl rfl ?_
      refine Wk.iconst (pc' := 76) (v := 2) d2_75 rfl rfl ?_
      refine Wk.iloadN (pc' := 77) d2_76 rfl rfl ?_
      refine Wk.castore (pc' := 78) A106 hN94 ⟨by decide, by decide⟩ 2 (by decide) (Nat.le_of_ble_eq_true rfl) d2_77 rfl fun h107 W108 A109 => ?_
      have A110 : Arv Z h107 a90 q92 .char (3 : Int32) [(.int x), (.int y), (.int z)] (.int (0 : Int32)) := by have q := A109; rw [own_nc hz] at q; exact q
      have f111 := ((((A86.ext E95).wr W100).wr W104).wr W108)
      have f112 := ((((F88.ext E95).other W100 (Or.inl ne97)).other W104 (Or.inl ne97)).other W108 (Or.inl ne97))
      have f113 := ((((F89.ext E95).other W100 (Or.inl ne97)).other W104 (Or.inl ne97)).other W108 (Or.inl ne97))
      refine Wk.callN (a0 := a0) (pc' := 81) (k' := 3) (n' := 10) (W := 1) (b := b_s_in1) (argsL := [(.ref a90)]) (rest := [(.ref a81)]) (rm_s_in1 hw a81 a90 q92 [x, y, z] cs h107 I P0 G_cs f111 f112 f113 A110 hN84 (Nat.le_of_ble_eq_true rfl) (own_Lc hx (own_Lc hy (own_Lc hz own_Ln))) (by simp)) rfl rfl (w12 hw) (w13 hw) (w10 hw) (w14 hw) (by decide) (Nat.le_refl _) id (Nat.le_of_ble_eq_true rfl) (Nat.le_of_ble_eq_true rfl) rfl rfl (Nat.le_of_ble_eq_true rfl) (Nat.le_of_ble_eq_true rfl) rfl pd23 rfl rfl rfl (Nat.le_of_ble_eq_true rfl) d2_78 rfl fun v114 h115 J116 hs117 hQ118 => ?_
      obtain ⟨v'119, q'120, rfl, rfl, K121, g122, g123, g124⟩ := hQ118
      show Wk _ h115 3 10 I 81 #[.val (.int (Int32.ofNat n)), .val (.int x), .val (.int y), .val (.int z)] [(.ref a81)]
      have A125 : Arv Z h115 v'119 q'120 .byte (Int32.ofNat (own_mkl n x y z).length) ((own_mkl n x y z).map own_by) (.int (0 : Int32)) := by rw [show own_mkl n x y z = [x, y, z] from by rw [show n = 3 by omega]; rfl]; exact g124
      have f126 := (f111.keep K121)
      exact Wk.areturn rfl rfl rfl d2_81 (Nat.le_of_ble_eq_true rfl) (Nat.le_of_ble_eq_true rfl) ⟨a81, v'119, q'120, rfl, rfl, (own_ext (((((((Keep.refl h0 []).ext E85).ext E95).wr W100 (Or.inr (Nat.le_trans E85.1 hg93))).wr W104 (Or.inr (Nat.le_trans E85.1 hg93))).wr W108 (Or.inr (Nat.le_trans E85.1 hg93))).trans K121 (allS (Or.inr hg83) all0))), hg83, f126, g122, g123, A125⟩
theorem ef_wre (m : MethodId) (x0 : Addr) (x1 : Addr) : entryFrame m #[(.ref x0), (.ref x1)] 5 = mkF m 0 #[.val (.ref x0), .val (.ref x1), .unset, .unset, .unset] [] := by first | (simp [entryFrame, mkF, argsToLocals, Value.category]; done) | rfl
abbrev b_wre : Bdy := ((⟨"com/example/portcullis/portcullis/gate/Challenge", "withRealm", "(Ljava/lang/String;Ljava/lang/String;)Ljava/lang/String;"⟩ : MethodName), prog_11_method_2_code, 5, (Option.some (Jvm.ClassFile.FieldType.object "java/lang/String")), ({ frames := 8, cells := 6, slots := 92, locals := 117 } : Room))
def Q_wre (Z : State) (N : Nat) (s1 : Addr) (v1 : Addr) (q1 : ClassId) (S : List Int32) (s2 : Addr) (v2 : Addr) (q2 : ClassId) (R : List Int32) (cs : Int32) (sf : Value) (Ts : List String) (Lk : List (String × Nat × Addr)) (h0 : Heap) (I : Lts) (v : Option Value) (h : Heap) (J : Lts) : Prop := ∃ r : Addr, ∃ v' : Addr, ∃ q' : ClassId, True ∧ v = some (.ref r) ∧ Ext h0 h ∧ Exa Z h r "java/lang/String" ∧ Fld Z h r "java/lang/String" "value" "[B" (.ref v') ∧ Fld Z h r "java/lang/String" "coder" "B" (.int (0 : Int32)) ∧ Arv Z h v' q' .byte (Int32.ofNat (own_X S R).length) ((own_X S R).map own_by) (.int (0 : Int32))
set_option maxRecDepth 65536 in
set_option maxHeartbeats 40000000 in
theorem rm_wre {l : Launch} {Z : State} {a0 : Array Value} (hw : ∀ d ∈ tables_1, d.before a0 Z = true) (s1 : Addr) (v1 : Addr) (q1 : ClassId) (S : List Int32) (s2 : Addr) (v2 : Addr) (q2 : ClassId) (R : List Int32) (cs : Int32) (sf : Value) (Ts : List String) (Lk : List (String × Nat × Addr)) (h0 : Heap) (P0 : Sta Z Z.heap "java/lang/String" "COMPACT_STRINGS" "Z" (.int cs)) (G_cs : ¬ cs = (0 : Int32)) (P2 : Sta Z Z.heap "jdk/internal/util/Preconditions" "SIOOBE_FORMATTER" "Ljava/util/function/BiFunction;" sf) (G_sf : sf.isRef = true) (P4 : Exa Z h0 s1 "java/lang/String") (P5 : Fld Z h0 s1 "java/lang/String" "value" "[B" (.ref v1)) (P6 : Fld Z h0 s1 "java/lang/String" "coder" "B" (.int (0 : Int32))) (P7 : Arv Z h0 v1 q1 .byte (Int32.ofNat S.length) (S.map own_by) (.int (0 : Int32))) (P8 : Exa Z h0 s2 "java/lang/String") (P9 : Fld Z h0 s2 "java/lang/String" "value" "[B" (.ref v2)) (P10 : Fld Z h0 s2 "java/lang/String" "coder" "B" (.int (0 : Int32))) (P11 : Arv Z h0 v2 q2 .byte (Int32.ofNat R.length) (R.map own_by) (.int (0 : Int32))) (hS : S.length ≤ 3) (hR : R.length ≤ 3) (hRp : ∀ c ∈ R, own_p c) (hT : " realm=\"" ∉ Ts) (G_h12 : Jvm.Lit.constHeld Z "com/example/portcullis/portcullis/gate/Challenge" 12) (G_cw : Jvm.Lit.compactW.before a0 Z = true) :
    Cn l Z h0.size b_wre #[(.ref s1), (.ref s2)] h0 (some (Ts, Lk)) (Q_wre Z h0.size s1 v1 q1 S s2 v2 q2 R cs sf Ts Lk h0 (some (Ts, Lk))) := by
  refine Cn.of_wk (Ls := #[.val (.ref s1), .val (.ref s2), .unset, .unset, .unset]) (plainFor_of_name (by first | (simp [plainName, overriddenIn]; done) | decide +kernel)) (fun m => ef_wre m s1 s2) ?_
  have hRL : own_L R := fun c hc => own_pc (hRp c hc)
  refine Wk.newO (a0 := a0) (pc' := 3) (k' := 1) (n' := 4) (w34 hw) (w35 hw) (w36 hw) d6_0 rfl rfl rfl (Nat.le_of_ble_eq_true rfl) (Nat.le_of_ble_eq_true rfl) fun a1 h2 hg3 hN4 E5 A6 D7 => ?_
  have ne8 : s1 ≠ a1 := Nat.ne_of_lt (Nat.lt_of_lt_of_le P4.lt hg3)
  have ne9 : v1 ≠ a1 := Nat.ne_of_lt (Nat.lt_of_lt_of_le P7.lt hg3)
  have ne10 : s2 ≠ a1 := Nat.ne_of_lt (Nat.lt_of_lt_of_le P8.lt hg3)
  have ne11 : v2 ≠ a1 := Nat.ne_of_lt (Nat.lt_of_lt_of_le P11.lt hg3)
  have F12 : Fld Z h2 a1 "java/lang/AbstractStringBuilder" "coder" "B" (.int (0 : Int32)) := D7 (Or.inl (w61 hw)) (ty := .byte) (by decide)
  have F13 : Fld Z h2 a1 "java/lang/AbstractStringBuilder" "value" "[B" .null := D7 (Or.inl (w63 hw)) (ty := (.array .byte)) (by decide)
  have F14 : Fld Z h2 a1 "java/lang/AbstractStringBuilder" "count" "I" (.int (0 : Int32)) := D7 (Or.inl (w79 hw)) (ty := .int) (by decide)
  refine Wk.dup (pc' := 4) d6_3 rfl rfl ?_
  refine Wk.aloadN (pc' := 5) d6_4 rfl rfl rfl ?_
  have f15 := (P4.ext E5)
  have f16 := (P5.ext E5)
  have f17 := (P6.ext E5)
  have f18 := (P7.ext E5)
  refine Wk.callN (a0 := a0) (pc' := 8) (k' := 2) (n' := 28) (W := 1) (b := b_b_inS) (argsL := [(.ref s1)]) (rest := [(.ref a1)]) (rm_b_inS hw a1 s1 v1 q1 S cs h2 (some (Ts, Lk)) P0 G_cs A6 F13 F12 F14 f15 f16 f17 f18 hN4 ne8 ne9 (by omega)) rfl rfl (w37 hw) (w38 hw) (w36 hw) (w39 hw) (by decide) (Nat.le_refl _) id (Nat.le_of_ble_eq_true rfl) (Nat.le_of_ble_eq_true rfl) rfl rfl (Nat.le_of_ble_eq_true rfl) (Nat.le_of_ble_eq_true rfl) rfl pd10 rfl rfl rfl (Nat.le_of_ble_eq_true rfl) d6_5 rfl fun v19 h20 J21 hs22 hQ23 => ?_
  obtain ⟨b24, qb25, rfl, rfl, K26, g27, g28, g29, g30, g31, g32, g33⟩ := hQ23
  have ne34 : s1 ≠ b24 := Nat.ne_of_lt (Nat.lt_of_lt_of_le f15.lt g27)
  have ne35 : v1 ≠ b24 := Nat.ne_of_lt (Nat.lt_of_lt_of_le f18.lt g27)
  have ne36 : s2 ≠ b24 := Nat.ne_of_lt (Nat.lt_of_lt_of_le (P8.ext E5).lt g27)
  have ne37 : v2 ≠ b24 := Nat.ne_of_lt (Nat.lt_of_lt_of_le (P11.ext E5).lt g27)
  have ne38 : a1 ≠ b24 := Nat.ne_of_lt (Nat.lt_of_lt_of_le A6.lt g27)
  show Wk _ h20 2 28 (some (Ts, Lk)) 8 #[.val (.ref s1), .val (.ref s2), .unset, .unset, .unset] [(.ref a1)]
  have f49 := (A6.keep K26)
  have fr50 : h0.size ≤ b24 := (Nat.le_trans E5.1 g27)
  refine Wk.ldcLit (a0 := a0) (pc' := 10) (k' := 4) (n' := 64) (cap := 32) (vs := own_lit.map own_by) (z := (Int32.ofNat own_lit.length)) (w105 hw) (own_wS hw) (Nat.le_refl _) hT G_h12 G_cw ⟨by decide, by decide⟩ (by decide) rfl d6_8 rfl (by decide) (by decide) rfl rfl (Nat.le_of_ble_eq_true rfl) (Nat.le_of_ble_eq_true rfl) fun al39 bl40 ql41 h42 E43 X44 C45 V46 A47 p48 => ?_
  have ne51 : al39 ≠ a1 := by
    rcases p48 with ⟨p1, p2⟩ | ⟨p1, p2⟩
    · exact Nat.ne_of_lt (Nat.lt_of_lt_of_le p1 hg3)
    · exact (Nat.ne_of_lt (Nat.lt_of_lt_of_le f49.lt p1)).symm
  have ne52 : al39 ≠ b24 := by
    rcases p48 with ⟨p1, p2⟩ | ⟨p1, p2⟩
    · exact Nat.ne_of_lt (Nat.lt_of_lt_of_le p1 fr50)
    · exact (Nat.ne_of_lt (Nat.lt_of_lt_of_le g33.lt p1)).symm
  have ne53 : bl40 ≠ a1 := by
    rcases p48 with ⟨p1, p2⟩ | ⟨p1, p2⟩
    · exact Nat.ne_of_lt (Nat.lt_of_lt_of_le p2 hg3)
    · exact (Nat.ne_of_lt (Nat.lt_of_lt_of_le f49.lt p2)).symm
  have ne54 : bl40 ≠ b24 := by
    rcases p48 with ⟨p1, p2⟩ | ⟨p1, p2⟩
    · exact Nat.ne_of_lt (Nat.lt_of_lt_of_le p2 fr50)
    · exact (Nat.ne_of_lt (Nat.lt_of_lt_of_le g33.lt p2)).symm
  show Wk _ h42 4 64 (some (" realm=\"" :: Ts, [("com/example/portcullis/portcullis/gate/Challenge", 12, al39)])) 10 #[.val (.ref s1), .val (.ref s2), .unset, .unset, .unset] [(.ref al39), (.ref a1)]
  have f55 := (f49.ext E43)
  have f56 := (g30.ext E43)
  have f57 := (g31.ext E43)
  have f58 := (g32.ext E43)
  have f59 := (g33.ext E43)
  refine Wk.callV (a0 := a0) (pc' := 13) (k' := 4) (n' := 64) (W := 0) (b := b_b_apS) (argsL := [(.ref al39)]) (rest := []) (y := (⟨"java/lang/StringBuilder", "append", "(Ljava/lang/String;)Ljava/lang/StringBuilder;"⟩ : MethodName)) (rm_b_apS hw a1 b24 qb25 S (S.length + 16) al39 bl40 ql41 own_lit cs h42 (some (" realm=\"" :: Ts, [("com/example/portcullis/portcullis/gate/Challenge", 12, al39)])) P0 G_cs f55 f56 f57 f58 f59 X44 V46 C45 A47 hN4 g28 g29 ne52 ne54 (by show S.length + 8 ≤ _; omega) (by omega)) f55 (w106 hw) (w71 hw) (w73 hw) (w73 hw) (w72 hw) (w36 hw) (w74 hw) (by decide) (Nat.le_refl _) id (Nat.le_of_ble_eq_true rfl) (Nat.le_of_ble_eq_true rfl) rfl rfl (Nat.le_of_ble_eq_true rfl) (Nat.le_of_ble_eq_true rfl) rfl pd15 rfl rfl rfl (Nat.le_of_ble_eq_true rfl) d6_10 rfl fun v60 h61 J62 hs63 hQ64 => ?_
  obtain ⟨rfl, rfl, K65, g66, g67, g68, g69⟩ := hQ64
  show Wk _ h61 4 64 (some (" realm=\"" :: Ts, [("com/example/portcullis/portcullis/gate/Challenge", 12, al39)])) 13 #[.val (.ref s1), .val (.ref s2), .unset, .unset, .unset] [(.ref a1)]
  refine Wk.astoreN (pc' := 14) #[.val (.ref s1), .val (.ref s2), .val (.ref a1), .unset, .unset] d6_13 rfl rfl rfl ?_
  refine Wk.iconst (pc' := 15) (v := 0) d6_14 rfl rfl ?_
  refine Wk.istoreN (pc' := 16) #[.val (.ref s1), .val (.ref s2), .val (.ref a1), .val (.int (0 : Int32)), .unset] d6_15 rfl rfl ?_
  have F70 : Fld Z h61 a1 "java/lang/AbstractStringBuilder" "count" "I" (.int (Int32.ofNat (own_B S R 0).length)) := by
    rw [own_B0]
    exact g68
  have F71 : Arv Z h61 b24 qb25 .byte (Int32.ofNat (S.length + 16)) (own_sb (own_B S R 0) (S.length + 16)) (.int (0 : Int32)) := by
    rw [own_B0]
    exact g69
  have loop : ∀ (d : Nat) (i : Nat) (s4 : Slot) (hX72 : Heap), (Exa Z hX72 a1 "java/lang/StringBuilder") → (Fld Z hX72 a1 "java/lang/AbstractStringBuilder" "value" "[B" (.ref b24)) → (Fld Z hX72 a1 "java/lang/AbstractStringBuilder" "coder" "B" (.int (0 : Int32))) → (Fld Z hX72 a1 "java/lang/AbstractStringBuilder" "count" "I" (.int (Int32.ofNat (own_B S R i).length))) → (Arv Z hX72 b24 qb25 .byte (Int32.ofNat (S.length + 16)) (own_sb (own_B S R i) (S.length + 16)) (.int (0 : Int32))) → (i + d = R.length) → ((s4 = .unset ∨ ∃ z : Int32, s4 = .val (.int z))) → (Keep h0 hX72 []) → Wk (l, Z, h0.size, h0.size, b_wre, Q_wre Z h0.size s1 v1 q1 S s2 v2 q2 R cs sf Ts Lk h0 (some (Ts, Lk))) hX72 4 64 (some (" realm=\"" :: Ts, [("com/example/portcullis/portcullis/gate/Challenge", 12, al39)])) 16 #[.val (.ref s1), .val (.ref s2), .val (.ref a1), .val (.int (Int32.ofNat i)), s4] [] := by
    intro d
    induction d with
    | zero =>
      intro i s4 hX72 y73 y74 y75 y76 y77 hi hs4 K78
      have hBl := own_Bl S R i
      refine Wk.iloadN (pc' := 17) d6_16 rfl rfl ?_
      refine Wk.aloadN (pc' := 18) d6_17 rfl rfl rfl ?_
      have f79 := (P8.keep K78)
      have f80 := (P9.keep K78 nin0)
      have f81 := (P10.keep K78 nin0)
      have f82 := (P11.keep K78 nin0)
      refine Wk.callV (a0 := a0) (pc' := 21) (k' := 4) (n' := 64) (W := 1) (b := b_s_len) (argsL := []) (rest := [(.int (Int32.ofNat i))]) (y := (⟨"java/lang/String", "length", "()I"⟩ : MethodName)) (rm_s_len hw s2 v2 q2 R cs hX72 (some (" realm=\"" :: Ts, [("com/example/portcullis/portcullis/gate/Challenge", 12, al39)])) P0 G_cs f79 f80 f81 f82) f79 (w107 hw) (w48 hw) (w50 hw) (w50 hw) (w49 hw) (w10 hw) (w51 hw) (by decide) (Nat.le_refl _) id (Nat.le_of_ble_eq_true rfl) (Nat.le_of_ble_eq_true rfl) rfl rfl (Nat.le_of_ble_eq_true rfl) (Nat.le_of_ble_eq_true rfl) rfl pd9 rfl rfl rfl (Nat.le_of_ble_eq_true rfl) d6_18 rfl fun v83 h84 J85 hs86 hQ87 => ?_
      obtain ⟨rfl, rfl, rfl⟩ := hQ87
      show Wk _ hX72 4 64 (some (" realm=\"" :: Ts, [("com/example/portcullis/portcullis/gate/Challenge", 12, al39)])) 21 #[.val (.ref s1), .val (.ref s2), .val (.ref a1), .val (.int (Int32.ofNat i)), s4] [(.int (Int32.ofNat R.length)), (.int (Int32.ofNat i))]
      refine Wk.icmp_geY (pc' := 93) d6_21 (by decide) (mt (own_lt (by omega) (by omega)).mp (by omega)) ?_
      refine Wk.aloadN (pc' := 94) d6_93 rfl rfl rfl ?_
      refine Wk.bipush (pc' := 96) (v := 34) d6_94 rfl rfl ?_
      refine Wk.callV (a0 := a0) (pc' := 99) (k' := 4) (n' := 64) (W := 0) (b := b_b_apC) (argsL := [(.int (34 : Int32))]) (rest := []) (y := (⟨"java/lang/StringBuilder", "append", "(C)Ljava/lang/StringBuilder;"⟩ : MethodName)) (rm_b_apC hw a1 b24 qb25 (own_B S R i) (S.length + 16) (34 : Int32) cs hX72 (some (" realm=\"" :: Ts, [("com/example/portcullis/portcullis/gate/Challenge", 12, al39)])) P0 G_cs y73 y74 y75 y76 y77 hN4 g28 g29 (by omega) (by omega) ⟨by decide, by decide⟩) y73 (w108 hw) (w109 hw) (w111 hw) (w111 hw) (w110 hw) (w36 hw) (w112 hw) (by decide) (Nat.le_refl _) id (Nat.le_of_ble_eq_true rfl) (Nat.le_of_ble_eq_true rfl) rfl rfl (Nat.le_of_ble_eq_true rfl) (Nat.le_of_ble_eq_true rfl) rfl pd24 rfl rfl rfl (Nat.le_of_ble_eq_true rfl) d6_96 rfl fun v88 h89 J90 hs91 hQ92 => ?_
      obtain ⟨rfl, rfl, K93, g94, g95, g96, g97⟩ := hQ92
      show Wk _ h89 4 64 (some (" realm=\"" :: Ts, [("com/example/portcullis/portcullis/gate/Challenge", 12, al39)])) 99 #[.val (.ref s1), .val (.ref s2), .val (.ref a1), .val (.int (Int32.ofNat i)), s4] [(.ref a1)]
      have f98 := (y73.keep K93)
      refine Wk.callV (a0 := a0) (pc' := 102) (k' := 6) (n' := 92) (W := 0) (b := b_t_str) (argsL := []) (rest := []) (y := (⟨"java/lang/StringBuilder", "toString", "()Ljava/lang/String;"⟩ : MethodName)) (rm_t_str hw a1 b24 qb25 (own_B S R i ++ [(34 : Int32)]) (S.length + 16) cs h89 (some (" realm=\"" :: Ts, [("com/example/portcullis/portcullis/gate/Challenge", 12, al39)])) P0 G_cs f98 g94 g95 g96 g97 (by simp only [List.length_append, List.length_singleton]; omega) (by omega) (by simp only [List.length_append, List.length_singleton]; omega)) f98 (w126 hw) (w127 hw) (w129 hw) (w129 hw) (w128 hw) (w36 hw) (w130 hw) (by decide) (Nat.le_refl _) id (Nat.le_of_ble_eq_true rfl) (Nat.le_of_ble_eq_true rfl) rfl rfl (Nat.le_of_ble_eq_true rfl) (Nat.le_of_ble_eq_true rfl) rfl pd25 rfl rfl rfl (Nat.le_of_ble_eq_true rfl) d6_99 rfl fun v99 h100 J101 hs102 hQ103 => ?_
      obtain ⟨r104, v'105, q'106, rfl, rfl, E107, g108, g109, g110, g111, g112⟩ := hQ103
      have ne113 : s1 ≠ r104 := Nat.ne_of_lt (Nat.lt_of_lt_of_le ((P4.keep K78).keep K93).lt g108)
      have ne114 : v1 ≠ r104 := Nat.ne_of_lt (Nat.lt_of_lt_of_le ((P7.keep K78 nin0).keep K93 (ninS ne9 (ninS ne35 nin0))).lt g108)
      have ne115 : s2 ≠ r104 := Nat.ne_of_lt (Nat.lt_of_lt_of_le (f79.keep K93).lt g108)
      have ne116 : v2 ≠ r104 := Nat.ne_of_lt (Nat.lt_of_lt_of_le (f82.keep K93 (ninS ne11 (ninS ne37 nin0))).lt g108)
      have ne117 : a1 ≠ r104 := Nat.ne_of_lt (Nat.lt_of_lt_of_le f98.lt g108)
      have ne118 : b24 ≠ r104 := Nat.ne_of_lt (Nat.lt_of_lt_of_le g97.lt g108)
      show Wk _ h100 6 92 (some (" realm=\"" :: Ts, [("com/example/portcullis/portcullis/gate/Challenge", 12, al39)])) 102 #[.val (.ref s1), .val (.ref s2), .val (.ref a1), .val (.int (Int32.ofNat i)), s4] [(.ref r104)]
      have A119 : Arv Z h100 v'105 q'106 .byte (Int32.ofNat (own_X S R).length) ((own_X S R).map own_by) (.int (0 : Int32)) := by rw [own_X, show R.length = i by omega]; exact g112
      exact Wk.areturn rfl rfl rfl d6_102 (Nat.le_of_ble_eq_true rfl) (Nat.le_of_ble_eq_true rfl) ⟨r104, v'105, q'106, trivial, rfl, (own_ext ((((Keep.refl h0 []).trans K78 all0).trans K93 (allS (Or.inr hg3) (allS (Or.inr fr50) all0))).ext E107)), g109, g110, g111, A119⟩
    | succ d ih =>
      intro i s4 hX72 y73 y74 y75 y76 y77 hi hs4 K78
      have hBl := own_Bl S R i
      refine Wk.iloadN (pc' := 17) d6_16 rfl rfl ?_
      refine Wk.aloadN (pc' := 18) d6_17 rfl rfl rfl ?_
      have f120 := (P8.keep K78)
      have f121 := (P9.keep K78 nin0)
      have f122 := (P10.keep K78 nin0)
      have f123 := (P11.keep K78 nin0)
      refine Wk.callV (a0 := a0) (pc' := 21) (k' := 4) (n' := 64) (W := 1) (b := b_s_len) (argsL := []) (rest := [(.int (Int32.ofNat i))]) (y := (⟨"java/lang/String", "length", "()I"⟩ : MethodName)) (rm_s_len hw s2 v2 q2 R cs hX72 (some (" realm=\"" :: Ts, [("com/example/portcullis/portcullis/gate/Challenge", 12, al39)])) P0 G_cs f120 f121 f122 f123) f120 (w107 hw) (w48 hw) (w50 hw) (w50 hw) (w49 hw) (w10 hw) (w51 hw) (by decide) (Nat.le_refl _) id (Nat.le_of_ble_eq_true rfl) (Nat.le_of_ble_eq_true rfl) rfl rfl (Nat.le_of_ble_eq_true rfl) (Nat.le_of_ble_eq_true rfl) rfl pd9 rfl rfl rfl (Nat.le_of_ble_eq_true rfl) d6_18 rfl fun v124 h125 J126 hs127 hQ128 => ?_
      obtain ⟨rfl, rfl, rfl⟩ := hQ128
      show Wk _ hX72 4 64 (some (" realm=\"" :: Ts, [("com/example/portcullis/portcullis/gate/Challenge", 12, al39)])) 21 #[.val (.ref s1), .val (.ref s2), .val (.ref a1), .val (.int (Int32.ofNat i)), s4] [(.int (Int32.ofNat R.length)), (.int (Int32.ofNat i))]
      refine Wk.icmp_geN (pc' := 24) d6_21 rfl ((own_lt (by omega) (by omega)).mpr (by omega)) ?_
      refine Wk.aloadN (pc' := 25) d6_24 rfl rfl rfl ?_
      refine Wk.iloadN (pc' := 26) d6_25 rfl rfl ?_
      refine Wk.callV (a0 := a0) (pc' := 29) (k' := 4) (n' := 64) (W := 0) (b := b_s_chr) (argsL := [(.int (Int32.ofNat i))]) (rest := []) (y := (⟨"java/lang/String", "charAt", "(I)C"⟩ : MethodName)) (rm_s_chr hw s2 v2 q2 R i sf cs hX72 (some (" realm=\"" :: Ts, [("com/example/portcullis/portcullis/gate/Challenge", 12, al39)])) P0 G_cs P2 G_sf f120 f121 f122 f123 (by omega) (by omega) hRL) f120 (w202 hw) (w172 hw) (w174 hw) (w174 hw) (w173 hw) (w10 hw) (w175 hw) (by decide) (Nat.le_refl _) id (Nat.le_of_ble_eq_true rfl) (Nat.le_of_ble_eq_true rfl) rfl rfl (Nat.le_of_ble_eq_true rfl) (Nat.le_of_ble_eq_true rfl) rfl pd26 rfl rfl rfl (Nat.le_of_ble_eq_true rfl) d6_26 rfl fun v129 h130 J131 hs132 hQ133 => ?_
      obtain ⟨rfl, rfl, rfl⟩ := hQ133
      show Wk _ hX72 4 64 (some (" realm=\"" :: Ts, [("com/example/portcullis/portcullis/gate/Challenge", 12, al39)])) 29 #[.val (.ref s1), .val (.ref s2), .val (.ref a1), .val (.int (Int32.ofNat i)), s4] [(.int (R.getD i 0))]
      have hP : own_p (R.getD i 0) := own_pget hRp (by omega)
      refine Wk.istore (pc' := 31) #[.val (.ref s1), .val (.ref s2), .val (.ref a1), .val (.int (Int32.ofNat i)), .val (.int (R.getD i 0))] d6_29 rfl (by rcases hs4 with rfl | ⟨z, rfl⟩ <;> rfl) ?_
      refine Wk.iload (pc' := 33) d6_31 rfl rfl ?_
      refine Wk.bipush (pc' := 35) (v := 32) d6_33 rfl rfl ?_
      refine Wk.icmp_ltN (pc' := 38) d6_35 rfl hP.1 ?_
      refine Wk.iload (pc' := 40) d6_38 rfl rfl ?_
      refine Wk.bipush (pc' := 42) (v := 126) d6_40 rfl rfl ?_
      refine Wk.icmp_leY (pc' := 59) d6_42 (by decide) hP.2 ?_
      refine Wk.iload (pc' := 61) d6_59 rfl rfl ?_
      refine Wk.bipush (pc' := 63) (v := 34) d6_61 rfl rfl ?_
      by_cases c63_134 : (R.getD i 0) = (34 : Int32)
      · refine Wk.icmp_eqY (pc' := 73) d6_63 (by decide) c63_134 ?_
        refine Wk.aloadN (pc' := 74) d6_73 rfl rfl rfl ?_
        refine Wk.bipush (pc' := 76) (v := 92) d6_74 rfl rfl ?_
        refine Wk.callV (a0 := a0) (pc' := 79) (k' := 4) (n' := 64) (W := 0) (b := b_b_apC) (argsL := [(.int (92 : Int32))]) (rest := []) (y := (⟨"java/lang/StringBuilder", "append", "(C)Ljava/lang/StringBuilder;"⟩ : MethodName)) (rm_b_apC hw a1 b24 qb25 (own_B S R i) (S.length + 16) (92 : Int32) cs hX72 (some (" realm=\"" :: Ts, [("com/example/portcullis/portcullis/gate/Challenge", 12, al39)])) P0 G_cs y73 y74 y75 y76 y77 hN4 g28 g29 (by omega) (by omega) ⟨by decide, by decide⟩) y73 (w108 hw) (w109 hw) (w111 hw) (w111 hw) (w110 hw) (w36 hw) (w112 hw) (by decide) (Nat.le_refl _) id (Nat.le_of_ble_eq_true rfl) (Nat.le_of_ble_eq_true rfl) rfl rfl (Nat.le_of_ble_eq_true rfl) (Nat.le_of_ble_eq_true rfl) rfl pd24 rfl rfl rfl (Nat.le_of_ble_eq_true rfl) d6_76 rfl fun v135 h136 J137 hs138 hQ139 => ?_
        obtain ⟨rfl, rfl, K140, g141, g142, g143, g144⟩ := hQ139
        show Wk _ h136 4 64 (some (" realm=\"" :: Ts, [("com/example/portcullis/portcullis/gate/Challenge", 12, al39)])) 79 #[.val (.ref s1), .val (.ref s2), .val (.ref a1), .val (.int (Int32.ofNat i)), .val (.int (R.getD i 0))] [(.ref a1)]
        refine Wk.pop (pc' := 80) d6_79 rfl rfl ?_
        refine Wk.aloadN (pc' := 81) d6_80 rfl rfl rfl ?_
        refine Wk.iload (pc' := 83) d6_81 rfl rfl ?_
        have f145 := (y73.keep K140)
        refine Wk.callV (a0 := a0) (pc' := 86) (k' := 4) (n' := 64) (W := 0) (b := b_b_apC) (argsL := [(.int (R.getD i 0))]) (rest := []) (y := (⟨"java/lang/StringBuilder", "append", "(C)Ljava/lang/StringBuilder;"⟩ : MethodName)) (rm_b_apC hw a1 b24 qb25 ((own_B S R i) ++ [(92 : Int32)]) (S.length + 16) (R.getD i 0) cs h136 (some (" realm=\"" :: Ts, [("com/example/portcullis/portcullis/gate/Challenge", 12, al39)])) P0 G_cs f145 g141 g142 g143 g144 hN4 g28 g29 (by simp only [List.length_append, List.length_singleton]; omega) (by omega) (own_pc hP)) f145 (w108 hw) (w109 hw) (w111 hw) (w111 hw) (w110 hw) (w36 hw) (w112 hw) (by decide) (Nat.le_refl _) id (Nat.le_of_ble_eq_true rfl) (Nat.le_of_ble_eq_true rfl) rfl rfl (Nat.le_of_ble_eq_true rfl) (Nat.le_of_ble_eq_true rfl) rfl pd24 rfl rfl rfl (Nat.le_of_ble_eq_true rfl) d6_83 rfl fun v146 h147 J148 hs149 hQ150 => ?_
        obtain ⟨rfl, rfl, K151, g152, g153, g154, g155⟩ := hQ150
        show Wk _ h147 4 64 (some (" realm=\"" :: Ts, [("com/example/portcullis/portcullis/gate/Challenge", 12, al39)])) 86 #[.val (.ref s1), .val (.ref s2), .val (.ref a1), .val (.int (Int32.ofNat i)), .val (.int (R.getD i 0))] [(.ref a1)]
        refine Wk.pop (pc' := 87) d6_86 rfl rfl ?_
        refine Wk.iinc (pc' := 90) (v := 1) (Ls' := #[.val (.ref s1), .val (.ref s2), .val (.ref a1), .val (.int ((Int32.ofNat i) + (1 : Int32))), .val (.int (R.getD i 0))]) d6_87 rfl rfl rfl rfl ?_
        rw [own_succ (by omega)]
        refine Wk.goto (pc' := 16) d6_90 (by decide) ?_
        have F156 : Fld Z h147 a1 "java/lang/AbstractStringBuilder" "count" "I" (.int (Int32.ofNat (own_B S R (i + 1)).length)) := by
          rw [own_Bs (by omega), own_esc1 (Or.inl c63_134), show ([92, R.getD i 0] : List Int32) = [92] ++ [R.getD i 0] from rfl, ← List.append_assoc]
          exact g154
        have F157 : Arv Z h147 b24 qb25 .byte (Int32.ofNat (S.length + 16)) (own_sb (own_B S R (i + 1)) (S.length + 16)) (.int (0 : Int32)) := by
          rw [own_Bs (by omega), own_esc1 (Or.inl c63_134), show ([92, R.getD i 0] : List Int32) = [92] ++ [R.getD i 0] from rfl, ← List.append_assoc]
          exact g155
        have f158 := (f145.keep K151)
        exact ih (i + 1) _ h147 f158 g152 g153 F156 F157 (by omega) (Or.inr ⟨_, rfl⟩) ((((Keep.refl h0 []).trans K78 all0).trans K140 (allS (Or.inr hg3) (allS (Or.inr fr50) all0))).trans K151 (allS (Or.inr hg3) (allS (Or.inr fr50) all0)))
      · refine Wk.icmp_eqN (pc' := 66) d6_63 rfl c63_134 ?_
        refine Wk.iload (pc' := 68) d6_66 rfl rfl ?_
        refine Wk.bipush (pc' := 70) (v := 92) d6_68 rfl rfl ?_
        by_cases c70_159 : (R.getD i 0) = (92 : Int32)
        · refine Wk.icmp_neN (pc' := 73) d6_70 rfl c70_159 ?_
          refine Wk.aloadN (pc' := 74) d6_73 rfl rfl rfl ?_
          refine Wk.bipush (pc' := 76) (v := 92) d6_74 rfl rfl ?_
          refine Wk.callV (a0 := a0) (pc' := 79) (k' := 4) (n' := 64) (W := 0) (b := b_b_apC) (argsL := [(.int (92 : Int32))]) (rest := []) (y := (⟨"java/lang/StringBuilder", "append", "(C)Ljava/lang/StringBuilder;"⟩ : MethodName)) (rm_b_apC hw a1 b24 qb25 (own_B S R i) (S.length + 16) (92 : Int32) cs hX72 (some (" realm=\"" :: Ts, [("com/example/portcullis/portcullis/gate/Challenge", 12, al39)])) P0 G_cs y73 y74 y75 y76 y77 hN4 g28 g29 (by omega) (by omega) ⟨by decide, by decide⟩) y73 (w108 hw) (w109 hw) (w111 hw) (w111 hw) (w110 hw) (w36 hw) (w112 hw) (by decide) (Nat.le_refl _) id (Nat.le_of_ble_eq_true rfl) (Nat.le_of_ble_eq_true rfl) rfl rfl (Nat.le_of_ble_eq_true rfl) (Nat.le_of_ble_eq_true rfl) rfl pd24 rfl rfl rfl (Nat.le_of_ble_eq_true rfl) d6_76 rfl fun v160 h161 J162 hs163 hQ164 => ?_
          obtain ⟨rfl, rfl, K165, g166, g167, g168, g169⟩ := hQ164
          show Wk _ h161 4 64 (some (" realm=\"" :: Ts, [("com/example/portcullis/portcullis/gate/Challenge", 12, al39)])) 79 #[.val (.ref s1), .val (.ref s2), .val (.ref a1), .val (.int (Int32.ofNat i)), .val (.int (R.getD i 0))] [(.ref a1)]
          refine Wk.pop (pc' := 80) d6_79 rfl rfl ?_
          refine Wk.aloadN (pc' := 81) d6_80 rfl rfl rfl ?_
          refine Wk.iload (pc' := 83) d6_81 rfl rfl ?_
          have f170 := (y73.keep K165)
          refine Wk.callV (a0 := a0) (pc' := 86) (k' := 4) (n' := 64) (W := 0) (b := b_b_apC) (argsL := [(.int (R.getD i 0))]) (rest := []) (y := (⟨"java/lang/StringBuilder", "append", "(C)Ljava/lang/StringBuilder;"⟩ : MethodName)) (rm_b_apC hw a1 b24 qb25 ((own_B S R i) ++ [(92 : Int32)]) (S.length + 16) (R.getD i 0) cs h161 (some (" realm=\"" :: Ts, [("com/example/portcullis/portcullis/gate/Challenge", 12, al39)])) P0 G_cs f170 g166 g167 g168 g169 hN4 g28 g29 (by simp only [List.length_append, List.length_singleton]; omega) (by omega) (own_pc hP)) f170 (w108 hw) (w109 hw) (w111 hw) (w111 hw) (w110 hw) (w36 hw) (w112 hw) (by decide) (Nat.le_refl _) id (Nat.le_of_ble_eq_true rfl) (Nat.le_of_ble_eq_true rfl) rfl rfl (Nat.le_of_ble_eq_true rfl) (Nat.le_of_ble_eq_true rfl) rfl pd24 rfl rfl rfl (Nat.le_of_ble_eq_true rfl) d6_83 rfl fun v171 h172 J173 hs174 hQ175 => ?_
          obtain ⟨rfl, rfl, K176, g177, g178, g179, g180⟩ := hQ175
          show Wk _ h172 4 64 (some (" realm=\"" :: Ts, [("com/example/portcullis/portcullis/gate/Challenge", 12, al39)])) 86 #[.val (.ref s1), .val (.ref s2), .val (.ref a1), .val (.int (Int32.ofNat i)), .val (.int (R.getD i 0))] [(.ref a1)]
          refine Wk.pop (pc' := 87) d6_86 rfl rfl ?_
          refine Wk.iinc (pc' := 90) (v := 1) (Ls' := #[.val (.ref s1), .val (.ref s2), .val (.ref a1), .val (.int ((Int32.ofNat i) + (1 : Int32))), .val (.int (R.getD i 0))]) d6_87 rfl rfl rfl rfl ?_
          rw [own_succ (by omega)]
          refine Wk.goto (pc' := 16) d6_90 (by decide) ?_
          have F181 : Fld Z h172 a1 "java/lang/AbstractStringBuilder" "count" "I" (.int (Int32.ofNat (own_B S R (i + 1)).length)) := by
            rw [own_Bs (by omega), own_esc1 (Or.inr c70_159), show ([92, R.getD i 0] : List Int32) = [92] ++ [R.getD i 0] from rfl, ← List.append_assoc]
            exact g179
          have F182 : Arv Z h172 b24 qb25 .byte (Int32.ofNat (S.length + 16)) (own_sb (own_B S R (i + 1)) (S.length + 16)) (.int (0 : Int32)) := by
            rw [own_Bs (by omega), own_esc1 (Or.inr c70_159), show ([92, R.getD i 0] : List Int32) = [92] ++ [R.getD i 0] from rfl, ← List.append_assoc]
            exact g180
          have f183 := (f170.keep K176)
          exact ih (i + 1) _ h172 f183 g177 g178 F181 F182 (by omega) (Or.inr ⟨_, rfl⟩) ((((Keep.refl h0 []).trans K78 all0).trans K165 (allS (Or.inr hg3) (allS (Or.inr fr50) all0))).trans K176 (allS (Or.inr hg3) (allS (Or.inr fr50) all0)))
        · refine Wk.icmp_neY (pc' := 80) d6_70 (by decide) c70_159 ?_
          refine Wk.aloadN (pc' := 81) d6_80 rfl rfl rfl ?_
          refine Wk.iload (pc' := 83) d6_81 rfl rfl ?_
          refine Wk.callV (a0 := a0) (pc' := 86) (k' := 4) (n' := 64) (W := 0) (b := b_b_apC) (argsL := [(.int (R.getD i 0))]) (rest := []) (y := (⟨"java/lang/StringBuilder", "append", "(C)Ljava/lang/StringBuilder;"⟩ : MethodName)) (rm_b_apC hw a1 b24 qb25 (own_B S R i) (S.length + 16) (R.getD i 0) cs hX72 (some (" realm=\"" :: Ts, [("com/example/portcullis/portcullis/gate/Challenge", 12, al39)])) P0 G_cs y73 y74 y75 y76 y77 hN4 g28 g29 (by omega) (by omega) (own_pc hP)) y73 (w108 hw) (w109 hw) (w111 hw) (w111 hw) (w110 hw) (w36 hw) (w112 hw) (by decide) (Nat.le_refl _) id (Nat.le_of_ble_eq_true rfl) (Nat.le_of_ble_eq_true rfl) rfl rfl (Nat.le_of_ble_eq_true rfl) (Nat.le_of_ble_eq_true rfl) rfl pd24 rfl rfl rfl (Nat.le_of_ble_eq_true rfl) d6_83 rfl fun v184 h185 J186 hs187 hQ188 => ?_
          obtain ⟨rfl, rfl, K189, g190, g191, g192, g193⟩ := hQ188
          show Wk _ h185 4 64 (some (" realm=\"" :: Ts, [("com/example/portcullis/portcullis/gate/Challenge", 12, al39)])) 86 #[.val (.ref s1), .val (.ref s2), .val (.ref a1), .val (.int (Int32.ofNat i)), .val (.int (R.getD i 0))] [(.ref a1)]
          refine Wk.pop (pc' := 87) d6_86 rfl rfl ?_
          refine Wk.iinc (pc' := 90) (v := 1) (Ls' := #[.val (.ref s1), .val (.ref s2), .val (.ref a1), .val (.int ((Int32.ofNat i) + (1 : Int32))), .val (.int (R.getD i 0))]) d6_87 rfl rfl rfl rfl ?_
          rw [own_succ (by omega)]
          refine Wk.goto (pc' := 16) d6_90 (by decide) ?_
          have F194 : Fld Z h185 a1 "java/lang/AbstractStringBuilder" "count" "I" (.int (Int32.ofNat (own_B S R (i + 1)).length)) := by
            rw [own_Bs (by omega), own_esc0 c63_134 c70_159]
            exact g192
          have F195 : Arv Z h185 b24 qb25 .byte (Int32.ofNat (S.length + 16)) (own_sb (own_B S R (i + 1)) (S.length + 16)) (.int (0 : Int32)) := by
            rw [own_Bs (by omega), own_esc0 c63_134 c70_159]
            exact g193
          have f196 := (y73.keep K189)
          exact ih (i + 1) _ h185 f196 g190 g191 F194 F195 (by omega) (Or.inr ⟨_, rfl⟩) (((Keep.refl h0 []).trans K78 all0).trans K189 (allS (Or.inr hg3) (allS (Or.inr fr50) all0)))
  have f197 := (f55.keep K65)
  exact loop R.length 0 _ h61 f197 g66 g67 F70 F71 (by omega) (Or.inl rfl) (((((Keep.refl h0 []).ext E5).trans K26 (allS (Or.inr hg3) all0)).ext E43).trans K65 (allS (Or.inr hg3) (allS (Or.inr fr50) all0)))
theorem ef_at_ (m : MethodId) (x0 : Addr) (x1 : Int32) (x2 : Int32) : entryFrame m #[(.ref x0), (.int x1), (.int x2)] 3 = mkF m 0 #[.val (.ref x0), .val (.int x1), .val (.int x2)] [] := by first | (simp [entryFrame, mkF, argsToLocals, Value.category]; done) | rfl
abbrev b_at_ : Bdy := ((⟨"com/example/portcullis/portcullis/gate/ChallengeWithRealmPinLaw", "at", "(Ljava/lang/String;IC)Z"⟩ : MethodName), method_4_code, 3, (Option.some Jvm.ClassFile.FieldType.boolean), ({ frames := 4, cells := 0, slots := 0, locals := 53 } : Room))
def Q_at_ (Z : State) (N : Nat) (r : Addr) (v' : Addr) (q : ClassId) (X : List Int32) (i : Nat) (c : Int32) (cs : Int32) (sf : Value) (h0 : Heap) (I : Lts) (v : Option Value) (h : Heap) (J : Lts) : Prop := I = J ∧ v = some (.int (1 : Int32)) ∧ h0 = h
set_option maxRecDepth 65536 in
set_option maxHeartbeats 40000000 in
theorem rm_at_ {l : Launch} {Z : State} {a0 : Array Value} {N : Nat} (hw : ∀ d ∈ tables_1, d.before a0 Z = true) (r : Addr) (v' : Addr) (q : ClassId) (X : List Int32) (i : Nat) (c : Int32) (cs : Int32) (sf : Value) (h0 : Heap) (I : Lts) (P0 : Sta Z Z.heap "java/lang/String" "COMPACT_STRINGS" "Z" (.int cs)) (G_cs : ¬ cs = (0 : Int32)) (P2 : Sta Z Z.heap "jdk/internal/util/Preconditions" "SIOOBE_FORMATTER" "Ljava/util/function/BiFunction;" sf) (G_sf : sf.isRef = true) (P4 : Exa Z h0 r "java/lang/String") (P5 : Fld Z h0 r "java/lang/String" "value" "[B" (.ref v')) (P6 : Fld Z h0 r "java/lang/String" "coder" "B" (.int (0 : Int32))) (P7 : Arv Z h0 v' q .byte (Int32.ofNat X.length) (X.map own_by) (.int (0 : Int32))) (hXl : X.length ≤ 24) (hXL : own_L X) (hi : i < X.length) (hc : X.getD i 0 = c) :
    Cn l Z N b_at_ #[(.ref r), (.int (Int32.ofNat i)), (.int c)] h0 I (Q_at_ Z N r v' q X i c cs sf h0 I) := by
  refine Cn.of_wk (Ls := #[.val (.ref r), .val (.int (Int32.ofNat i)), .val (.int c)]) (plainFor_of_name (by first | (simp [plainName, overriddenIn]; done) | decide +kernel)) (fun m => ef_at_ m r (Int32.ofNat i) c) ?_
  refine Wk.iloadN (pc' := 1) d32_0 rfl rfl ?_
  refine Wk.if_ltN (pc' := 4) d32_1 rfl (own_nn (by omega)) ?_
  refine Wk.iloadN (pc' := 5) d32_4 rfl rfl ?_
  refine Wk.aloadN (pc' := 6) d32_5 rfl rfl rfl ?_
  refine Wk.callV (a0 := a0) (pc' := 9) (k' := 0) (n' := 0) (W := 1) (b := b_s_len) (argsL := []) (rest := [(.int (Int32.ofNat i))]) (y := (⟨"java/lang/String", "length", "()I"⟩ : MethodName)) (rm_s_len hw r v' q X cs h0 I P0 G_cs P4 P5 P6 P7) P4 (w170 hw) (w48 hw) (w50 hw) (w50 hw) (w49 hw) (w10 hw) (w51 hw) (by decide) (Nat.le_refl _) id (Nat.le_of_ble_eq_true rfl) (Nat.le_of_ble_eq_true rfl) rfl rfl (Nat.le_of_ble_eq_true rfl) (Nat.le_of_ble_eq_true rfl) rfl pd9 rfl rfl rfl (Nat.le_of_ble_eq_true rfl) d32_6 rfl fun v1 h2 J3 hs4 hQ5 => ?_
  obtain ⟨rfl, rfl, rfl⟩ := hQ5
  show Wk _ h0 0 0 I 9 #[.val (.ref r), .val (.int (Int32.ofNat i)), .val (.int c)] [(.int (Int32.ofNat X.length)), (.int (Int32.ofNat i))]
  refine Wk.icmp_geN (pc' := 12) d32_9 rfl ((own_lt (by omega) (by omega)).mpr hi) ?_
  refine Wk.aloadN (pc' := 13) d32_12 rfl rfl rfl ?_
  refine Wk.iloadN (pc' := 14) d32_13 rfl rfl ?_
  refine Wk.callV (a0 := a0) (pc' := 17) (k' := 0) (n' := 0) (W := 0) (b := b_s_chr) (argsL := [(.int (Int32.ofNat i))]) (rest := []) (y := (⟨"java/lang/String", "charAt", "(I)C"⟩ : MethodName)) (rm_s_chr hw r v' q X i sf cs h0 I P0 G_cs P2 G_sf P4 P5 P6 P7 hi (by omega) hXL) P4 (w171 hw) (w172 hw) (w174 hw) (w174 hw) (w173 hw) (w10 hw) (w175 hw) (by decide) (Nat.le_refl _) id (Nat.le_of_ble_eq_true rfl) (Nat.le_of_ble_eq_true rfl) rfl rfl (Nat.le_of_ble_eq_true rfl) (Nat.le_of_ble_eq_true rfl) rfl pd26 rfl rfl rfl (Nat.le_of_ble_eq_true rfl) d32_14 rfl fun v6 h7 J8 hs9 hQ10 => ?_
  obtain ⟨rfl, rfl, rfl⟩ := hQ10
  show Wk _ h0 0 0 I 17 #[.val (.ref r), .val (.int (Int32.ofNat i)), .val (.int c)] [(.int (X.getD i 0))]
  refine Wk.iloadN (pc' := 18) d32_17 rfl rfl ?_
  refine Wk.icmp_neN (pc' := 21) d32_18 rfl hc ?_
  refine Wk.iconst (pc' := 22) (v := 1) d32_21 rfl rfl ?_
  refine Wk.goto (pc' := 26) d32_22 (by decide) ?_
  exact Wk.zreturn rfl (by simp) d32_26 (Nat.le_of_ble_eq_true rfl) (Nat.le_of_ble_eq_true rfl) ⟨rfl, rfl, rfl⟩
theorem ef_stp (m : MethodId) (x0 : Addr) (x1 : Int32) (x2 : Int32) : entryFrame m #[(.ref x0), (.int x1), (.int x2)] 4 = mkF m 0 #[.val (.ref x0), .val (.int x1), .val (.int x2), .unset] [] := by first | (simp [entryFrame, mkF, argsToLocals, Value.category]; done) | rfl
abbrev b_stp : Bdy := ((⟨"com/example/portcullis/portcullis/gate/ChallengeWithRealmPinLaw", "step", "(Ljava/lang/String;IC)I"⟩ : MethodName), method_5_code, 4, (Option.some Jvm.ClassFile.FieldType.int), ({ frames := 5, cells := 0, slots := 0, locals := 67 } : Room))
def Q_stp (Z : State) (N : Nat) (r : Addr) (v' : Addr) (q : ClassId) (X : List Int32) (i : Nat) (c : Int32) (cs : Int32) (sf : Value) (A : List Int32) (D : List Int32) (h0 : Heap) (I : Lts) (v : Option Value) (h : Heap) (J : Lts) : Prop := I = J ∧ v = some (.int (Int32.ofNat (i + (own_esc c).length))) ∧ h0 = h
set_option maxRecDepth 65536 in
set_option maxHeartbeats 40000000 in
theorem rm_stp {l : Launch} {Z : State} {a0 : Array Value} {N : Nat} (hw : ∀ d ∈ tables_1, d.before a0 Z = true) (r : Addr) (v' : Addr) (q : ClassId) (X : List Int32) (i : Nat) (c : Int32) (cs : Int32) (sf : Value) (A : List Int32) (D : List Int32) (h0 : Heap) (I : Lts) (P0 : Sta Z Z.heap "java/lang/String" "COMPACT_STRINGS" "Z" (.int cs)) (G_cs : ¬ cs = (0 : Int32)) (P2 : Sta Z Z.heap "jdk/internal/util/Preconditions" "SIOOBE_FORMATTER" "Ljava/util/function/BiFunction;" sf) (G_sf : sf.isRef = true) (P4 : Exa Z h0 r "java/lang/String") (P5 : Fld Z h0 r "java/lang/String" "value" "[B" (.ref v')) (P6 : Fld Z h0 r "java/lang/String" "coder" "B" (.int (0 : Int32))) (P7 : Arv Z h0 v' q .byte (Int32.ofNat X.length) (X.map own_by) (.int (0 : Int32))) (hXl : X.length ≤ 24) (hXL : own_L X) (hX : X = A ++ (own_esc c ++ D)) (hA : A.length = i) :
    Cn l Z N b_stp #[(.ref r), (.int (Int32.ofNat i)), (.int c)] h0 I (Q_stp Z N r v' q X i c cs sf A D h0 I) := by
  refine Cn.of_wk (Ls := #[.val (.ref r), .val (.int (Int32.ofNat i)), .val (.int c), .unset]) (plainFor_of_name (by first | (simp [plainName, overriddenIn]; done) | decide +kernel)) (fun m => ef_stp m r (Int32.ofNat i) c) ?_
  have hi : i < X.length := by
    obtain ⟨d, D', e⟩ := own_escne c D
    exact own_ltA (hX.trans (by rw [e])) hA
  refine Wk.iloadN (pc' := 1) d41_0 rfl rfl ?_
  refine Wk.if_geY (pc' := 6) d41_1 (by decide) (own_nn (by omega)) ?_
  refine Wk.iloadN (pc' := 7) d41_6 rfl rfl ?_
  refine Wk.istoreN (pc' := 8) #[.val (.ref r), .val (.int (Int32.ofNat i)), .val (.int c), .val (.int (Int32.ofNat i))] d41_7 rfl rfl ?_
  refine Wk.iloadN (pc' := 9) d41_8 rfl rfl ?_
  refine Wk.bipush (pc' := 11) (v := 34) d41_9 rfl rfl ?_
  by_cases c11_1 : c = (34 : Int32)
  · refine Wk.icmp_eqY (pc' := 20) d41_11 (by decide) c11_1 ?_
    refine Wk.aloadN (pc' := 21) d41_20 rfl rfl rfl ?_
    refine Wk.iloadN (pc' := 22) d41_21 rfl rfl ?_
    refine Wk.bipush (pc' := 24) (v := 92) d41_22 rfl rfl ?_
    have hX1 : X = A ++ 92 :: (c :: D) := by rw [hX, own_esc1 (Or.inl c11_1)]; rfl
    have hX2 : X = (A ++ [92]) ++ c :: D := by rw [hX1]; simp
    refine Wk.callS (a0 := a0) (pc' := 27) (k' := 0) (n' := 0) (W := 0) (b := b_at_) (argsL := [(.ref r), (.int (Int32.ofNat i)), (.int (92 : Int32))]) (rest := []) (rm_at_ hw r v' q X i (92 : Int32) cs sf h0 I P0 G_cs P2 G_sf P4 P5 P6 P7 hXl hXL hi (own_getA hX1 hA)) (w167 hw) (w168 hw) (w2 hw) (w169 hw) (by decide) (Nat.le_refl _) id (Nat.le_of_ble_eq_true rfl) (Nat.le_of_ble_eq_true rfl) rfl rfl (Nat.le_of_ble_eq_true rfl) (Nat.le_of_ble_eq_true rfl) rfl pd27 rfl rfl rfl (Nat.le_of_ble_eq_true rfl) d41_24 rfl fun v2 h3 J4 hs5 hQ6 => ?_
    obtain ⟨rfl, rfl, rfl⟩ := hQ6
    show Wk _ h0 0 0 I 27 #[.val (.ref r), .val (.int (Int32.ofNat i)), .val (.int c), .val (.int (Int32.ofNat i))] [(.int (1 : Int32))]
    refine Wk.if_neY (pc' := 32) d41_27 (by decide) (by decide) ?_
    refine Wk.iloadN (pc' := 33) d41_32 rfl rfl ?_
    refine Wk.iconst (pc' := 34) (v := 1) d41_33 rfl rfl ?_
    refine Wk.iadd (pc' := 35) d41_34 rfl ?_
    rw [own_succ (by omega)]
    refine Wk.istoreN (pc' := 36) #[.val (.ref r), .val (.int (Int32.ofNat i)), .val (.int c), .val (.int (Int32.ofNat (i + 1)))] d41_35 rfl rfl ?_
    refine Wk.aloadN (pc' := 37) d41_36 rfl rfl rfl ?_
    refine Wk.iloadN (pc' := 38) d41_37 rfl rfl ?_
    refine Wk.iloadN (pc' := 39) d41_38 rfl rfl ?_
    refine Wk.callS (a0 := a0) (pc' := 42) (k' := 0) (n' := 0) (W := 0) (b := b_at_) (argsL := [(.ref r), (.int (Int32.ofNat (i + 1))), (.int c)]) (rest := []) (rm_at_ hw r v' q X (i + 1) c cs sf h0 I P0 G_cs P2 G_sf P4 P5 P6 P7 hXl hXL (own_ltA hX2 (by simp; omega)) (own_getA hX2 (by simp; omega))) (w167 hw) (w168 hw) (w2 hw) (w169 hw) (by decide) (Nat.le_refl _) id (Nat.le_of_ble_eq_true rfl) (Nat.le_of_ble_eq_true rfl) rfl rfl (Nat.le_of_ble_eq_true rfl) (Nat.le_of_ble_eq_true rfl) rfl pd27 rfl rfl rfl (Nat.le_of_ble_eq_true rfl) d41_39 rfl fun v7 h8 J9 hs10 hQ11 => ?_
    obtain ⟨rfl, rfl, rfl⟩ := hQ11
    show Wk _ h0 0 0 I 42 #[.val (.ref r), .val (.int (Int32.ofNat i)), .val (.int c), .val (.int (Int32.ofNat (i + 1)))] [(.int (1 : Int32))]
    refine Wk.if_neY (pc' := 47) d41_42 (by decide) (by decide) ?_
    refine Wk.iloadN (pc' := 48) d41_47 rfl rfl ?_
    refine Wk.iconst (pc' := 49) (v := 1) d41_48 rfl rfl ?_
    refine Wk.iadd (pc' := 50) d41_49 rfl ?_
    exact Wk.ireturn rfl d41_50 (Nat.le_of_ble_eq_true rfl) (Nat.le_of_ble_eq_true rfl) ⟨rfl, (by rw [own_esc1 (Or.inl c11_1)]; exact congrArg (fun z => some (Value.int z)) (own_addn (i + 1) 1)), rfl⟩
  · refine Wk.icmp_eqN (pc' := 14) d41_11 rfl c11_1 ?_
    refine Wk.iloadN (pc' := 15) d41_14 rfl rfl ?_
    refine Wk.bipush (pc' := 17) (v := 92) d41_15 rfl rfl ?_
    by_cases c17_12 : c = (92 : Int32)
    · refine Wk.icmp_neN (pc' := 20) d41_17 rfl c17_12 ?_
      refine Wk.aloadN (pc' := 21) d41_20 rfl rfl rfl ?_
      refine Wk.iloadN (pc' := 22) d41_21 rfl rfl ?_
      refine Wk.bipush (pc' := 24) (v := 92) d41_22 rfl rfl ?_
      have hX1 : X = A ++ 92 :: (c :: D) := by rw [hX, own_esc1 (Or.inr c17_12)]; rfl
      have hX2 : X = (A ++ [92]) ++ c :: D := by rw [hX1]; simp
      refine Wk.callS (a0 := a0) (pc' := 27) (k' := 0) (n' := 0) (W := 0) (b := b_at_) (argsL := [(.ref r), (.int (Int32.ofNat i)), (.int (92 : Int32))]) (rest := []) (rm_at_ hw r v' q X i (92 : Int32) cs sf h0 I P0 G_cs P2 G_sf P4 P5 P6 P7 hXl hXL hi (own_getA hX1 hA)) (w167 hw) (w168 hw) (w2 hw) (w169 hw) (by decide) (Nat.le_refl _) id (Nat.le_of_ble_eq_true rfl) (Nat.le_of_ble_eq_true rfl) rfl rfl (Nat.le_of_ble_eq_true rfl) (Nat.le_of_ble_eq_true rfl) rfl pd27 rfl rfl rfl (Nat.le_of_ble_eq_true rfl) d41_24 rfl fun v13 h14 J15 hs16 hQ17 => ?_
      obtain ⟨rfl, rfl, rfl⟩ := hQ17
      show Wk _ h0 0 0 I 27 #[.val (.ref r), .val (.int (Int32.ofNat i)), .val (.int c), .val (.int (Int32.ofNat i))] [(.int (1 : Int32))]
      refine Wk.if_neY (pc' := 32) d41_27 (by decide) (by decide) ?_
      refine Wk.iloadN (pc' := 33) d41_32 rfl rfl ?_
      refine Wk.iconst (pc' := 34) (v := 1) d41_33 rfl rfl ?_
      refine Wk.iadd (pc' := 35) d41_34 rfl ?_
      rw [own_succ (by omega)]
      refine Wk.istoreN (pc' := 36) #[.val (.ref r), .val (.int (Int32.ofNat i)), .val (.int c), .val (.int (Int32.ofNat (i + 1)))] d41_35 rfl rfl ?_
      refine Wk.aloadN (pc' := 37) d41_36 rfl rfl rfl ?_
      refine Wk.iloadN (pc' := 38) d41_37 rfl rfl ?_
      refine Wk.iloadN (pc' := 39) d41_38 rfl rfl ?_
      refine Wk.callS (a0 := a0) (pc' := 42) (k' := 0) (n' := 0) (W := 0) (b := b_at_) (argsL := [(.ref r), (.int (Int32.ofNat (i + 1))), (.int c)]) (rest := []) (rm_at_ hw r v' q X (i + 1) c cs sf h0 I P0 G_cs P2 G_sf P4 P5 P6 P7 hXl hXL (own_ltA hX2 (by simp; omega)) (own_getA hX2 (by simp; omega))) (w167 hw) (w168 hw) (w2 hw) (w169 hw) (by decide) (Nat.le_refl _) id (Nat.le_of_ble_eq_true rfl) (Nat.le_of_ble_eq_true rfl) rfl rfl (Nat.le_of_ble_eq_true rfl) (Nat.le_of_ble_eq_true rfl) rfl pd27 rfl rfl rfl (Nat.le_of_ble_eq_true rfl) d41_39 rfl fun v18 h19 J20 hs21 hQ22 => ?_
      obtain ⟨rfl, rfl, rfl⟩ := hQ22
      show Wk _ h0 0 0 I 42 #[.val (.ref r), .val (.int (Int32.ofNat i)), .val (.int c), .val (.int (Int32.ofNat (i + 1)))] [(.int (1 : Int32))]
      refine Wk.if_neY (pc' := 47) d41_42 (by decide) (by decide) ?_
      refine Wk.iloadN (pc' := 48) d41_47 rfl rfl ?_
      refine Wk.iconst (pc' := 49) (v := 1) d41_48 rfl rfl ?_
      refine Wk.iadd (pc' := 50) d41_49 rfl ?_
      exact Wk.ireturn rfl d41_50 (Nat.le_of_ble_eq_true rfl) (Nat.le_of_ble_eq_true rfl) ⟨rfl, (by rw [own_esc1 (Or.inr c17_12)]; exact congrArg (fun z => some (Value.int z)) (own_addn (i + 1) 1)), rfl⟩
    · refine Wk.icmp_neY (pc' := 36) d41_17 (by decide) c17_12 ?_
      refine Wk.aloadN (pc' := 37) d41_36 rfl rfl rfl ?_
      refine Wk.iloadN (pc' := 38) d41_37 rfl rfl ?_
      refine Wk.iloadN (pc' := 39) d41_38 rfl rfl ?_
      have hX1 : X = A ++ c :: D := by rw [hX, own_esc0 c11_1 c17_12]; rfl
      refine Wk.callS (a0 := a0) (pc' := 42) (k' := 0) (n' := 0) (W := 0) (b := b_at_) (argsL := [(.ref r), (.int (Int32.ofNat i)), (.int c)]) (rest := []) (rm_at_ hw r v' q X i c cs sf h0 I P0 G_cs P2 G_sf P4 P5 P6 P7 hXl hXL hi (own_getA hX1 hA)) (w167 hw) (w168 hw) (w2 hw) (w169 hw) (by decide) (Nat.le_refl _) id (Nat.le_of_ble_eq_true rfl) (Nat.le_of_ble_eq_true rfl) rfl rfl (Nat.le_of_ble_eq_true rfl) (Nat.le_of_ble_eq_true rfl) rfl pd27 rfl rfl rfl (Nat.le_of_ble_eq_true rfl) d41_39 rfl fun v23 h24 J25 hs26 hQ27 => ?_
      obtain ⟨rfl, rfl, rfl⟩ := hQ27
      show Wk _ h0 0 0 I 42 #[.val (.ref r), .val (.int (Int32.ofNat i)), .val (.int c), .val (.int (Int32.ofNat i))] [(.int (1 : Int32))]
      refine Wk.if_neY (pc' := 47) d41_42 (by decide) (by decide) ?_
      refine Wk.iloadN (pc' := 48) d41_47 rfl rfl ?_
      refine Wk.iconst (pc' := 49) (v := 1) d41_48 rfl rfl ?_
      refine Wk.iadd (pc' := 50) d41_49 rfl ?_
      exact Wk.ireturn rfl d41_50 (Nat.le_of_ble_eq_true rfl) (Nat.le_of_ble_eq_true rfl) ⟨rfl, (by rw [own_esc0 c11_1 c17_12]; exact congrArg (fun z => some (Value.int z)) (own_addn i 1)), rfl⟩
theorem ef_law (m : MethodId) (x0 : Int32) (x1 : Int32) (x2 : Int32) (x3 : Int32) (x4 : Int32) : entryFrame m #[(.int x0), (.int x1), (.int x2), (.int x3), (.int x4)] maxLocals = mkF m 0 #[.val (.int x0), .val (.int x1), .val (.int x2), .val (.int x3), .val (.int x4), .unset, .unset, .unset, .unset, .unset, .unset, .unset, .unset, .unset, .unset, .unset, .unset, .unset] [] := by first | (simp [entryFrame, mkF, argsToLocals, Value.category, maxLocals]; done) | rfl
abbrev b_law : Bdy := (x, code, maxLocals, ret, room_1)
def Q_law (Z : State) (N : Nat) (p1' : Int32) (p2' : Int32) (p3' : Int32) (p4' : Int32) (p5' : Int32) (cs : Int32) (sf : Value) (h0 : Heap) (I : Lts) (v : Option Value) (h : Heap) (J : Lts) : Prop := True ∧ v = some (.int (1 : Int32))
set_option maxRecDepth 65536 in
set_option maxHeartbeats 40000000 in
theorem rm_law {l : Launch} {Z : State} {a0 : Array Value} {N : Nat} (hw : ∀ d ∈ tables_1, d.before a0 Z = true) (p1' : Int32) (p2' : Int32) (p3' : Int32) (p4' : Int32) (p5' : Int32) (cs : Int32) (sf : Value) (h0 : Heap) (P0 : Sta Z Z.heap "java/lang/String" "COMPACT_STRINGS" "Z" (.int cs)) (G_cs : ¬ cs = (0 : Int32)) (P2 : Sta Z Z.heap "jdk/internal/util/Preconditions" "SIOOBE_FORMATTER" "Ljava/util/function/BiFunction;" sf) (G_sf : sf.isRef = true) (G_h7 : Jvm.Lit.constHeld Z "java/lang/String" 7) (G_cw : Jvm.Lit.compactW.before a0 Z = true) (G_h12 : Jvm.Lit.constHeld Z "com/example/portcullis/portcullis/gate/Challenge" 12) :
    Cn l Z N b_law #[(.int p1'), (.int p2'), (.int p3'), (.int p4'), (.int p5')] h0 (some ([], [])) (Q_law Z N p1' p2' p3' p4' p5' cs sf h0 (some ([], []))) := by
  refine Cn.of_wk (Ls := #[.val (.int p1'), .val (.int p2'), .val (.int p3'), .val (.int p4'), .val (.int p5'), .unset, .unset, .unset, .unset, .unset, .unset, .unset, .unset, .unset, .unset, .unset, .unset, .unset]) (plainFor_of_name (by first | (simp [plainName, overriddenIn]; done) | decide +kernel)) (fun m => ef_law m p1' p2' p3' p4' p5') ?_
  refine Wk.iloadN (pc' := 1) at_0 rfl rfl ?_
  refine Wk.iconst (pc' := 2) (v := 3) at_1 rfl rfl ?_
  refine Wk.iand (pc' := 3) at_2 rfl ?_
  obtain ⟨sn, hsn, e_sn⟩ := own_and3 p1'
  rw [e_sn]
  refine Wk.istore (pc' := 5) #[.val (.int p1'), .val (.int p2'), .val (.int p3'), .val (.int p4'), .val (.int p5'), .val (.int (Int32.ofNat sn)), .unset, .unset, .unset, .unset, .unset, .unset, .unset, .unset, .unset, .unset, .unset, .unset] at_3 rfl rfl ?_
  refine Wk.iloadN (pc' := 6) at_5 rfl rfl ?_
  refine Wk.iconst (pc' := 7) (v := 2) at_6 rfl rfl ?_
  refine Wk.iushr (pc' := 8) at_7 rfl ?_
  refine Wk.sipush (pc' := 11) (v := 255) at_8 rfl rfl ?_
  refine Wk.iand (pc' := 12) at_11 rfl ?_
  refine Wk.i2c (pc' := 13) at_12 rfl ?_
  obtain ⟨s0, e_s0⟩ : ∃ z, z = ((((p1'.toUInt32 >>> ((2 : Int32) &&& 31).toUInt32).toInt32) &&& (255 : Int32)).toUInt32.toUInt16.toUInt32.toInt32) := ⟨_, rfl⟩
  rw [← e_s0]
  have hs0 : own_c s0 := by rw [e_s0]; exact own_cand _
  refine Wk.istore (pc' := 15) #[.val (.int p1'), .val (.int p2'), .val (.int p3'), .val (.int p4'), .val (.int p5'), .val (.int (Int32.ofNat sn)), .val (.int s0), .unset, .unset, .unset, .unset, .unset, .unset, .unset, .unset, .unset, .unset, .unset] at_13 rfl rfl ?_
  refine Wk.iloadN (pc' := 16) at_15 rfl rfl ?_
  refine Wk.bipush (pc' := 18) (v := 10) at_16 rfl rfl ?_
  refine Wk.iushr (pc' := 19) at_18 rfl ?_
  refine Wk.sipush (pc' := 22) (v := 255) at_19 rfl rfl ?_
  refine Wk.iand (pc' := 23) at_22 rfl ?_
  refine Wk.i2c (pc' := 24) at_23 rfl ?_
  obtain ⟨s1, e_s1⟩ : ∃ z, z = ((((p1'.toUInt32 >>> ((10 : Int32) &&& 31).toUInt32).toInt32) &&& (255 : Int32)).toUInt32.toUInt16.toUInt32.toInt32) := ⟨_, rfl⟩
  rw [← e_s1]
  have hs1 : own_c s1 := by rw [e_s1]; exact own_cand _
  refine Wk.istore (pc' := 26) #[.val (.int p1'), .val (.int p2'), .val (.int p3'), .val (.int p4'), .val (.int p5'), .val (.int (Int32.ofNat sn)), .val (.int s0), .val (.int s1), .unset, .unset, .unset, .unset, .unset, .unset, .unset, .unset, .unset, .unset] at_24 rfl rfl ?_
  refine Wk.iloadN (pc' := 27) at_26 rfl rfl ?_
  refine Wk.bipush (pc' := 29) (v := 18) at_27 rfl rfl ?_
  refine Wk.iushr (pc' := 30) at_29 rfl ?_
  refine Wk.sipush (pc' := 33) (v := 255) at_30 rfl rfl ?_
  refine Wk.iand (pc' := 34) at_33 rfl ?_
  refine Wk.i2c (pc' := 35) at_34 rfl ?_
  obtain ⟨s2, e_s2⟩ : ∃ z, z = ((((p1'.toUInt32 >>> ((18 : Int32) &&& 31).toUInt32).toInt32) &&& (255 : Int32)).toUInt32.toUInt16.toUInt32.toInt32) := ⟨_, rfl⟩
  rw [← e_s2]
  have hs2 : own_c s2 := by rw [e_s2]; exact own_cand _
  refine Wk.istore (pc' := 37) #[.val (.int p1'), .val (.int p2'), .val (.int p3'), .val (.int p4'), .val (.int p5'), .val (.int (Int32.ofNat sn)), .val (.int s0), .val (.int s1), .val (.int s2), .unset, .unset, .unset, .unset, .unset, .unset, .unset, .unset, .unset] at_35 rfl rfl ?_
  refine Wk.iload (pc' := 39) at_37 rfl rfl ?_
  refine Wk.iconst (pc' := 40) (v := 3) at_39 rfl rfl ?_
  refine Wk.iand (pc' := 41) at_40 rfl ?_
  obtain ⟨rn, hrn, e_rn⟩ := own_and3 p5'
  rw [e_rn]
  refine Wk.istore (pc' := 43) #[.val (.int p1'), .val (.int p2'), .val (.int p3'), .val (.int p4'), .val (.int p5'), .val (.int (Int32.ofNat sn)), .val (.int s0), .val (.int s1), .val (.int s2), .val (.int (Int32.ofNat rn)), .unset, .unset, .unset, .unset, .unset, .unset, .unset, .unset] at_41 rfl rfl ?_
  refine Wk.iloadN (pc' := 44) at_43 rfl rfl ?_
  refine Wk.callS (a0 := a0) (pc' := 47) (k' := 0) (n' := 0) (W := 0) (b := b_prn) (argsL := [(.int p2')]) (rest := []) (rm_prn hw p2' h0 (some ([], [])) ) (w0 hw) (w1 hw) (w2 hw) (w3 hw) (by decide) (Nat.le_refl _) id (Nat.le_of_ble_eq_true rfl) (Nat.le_of_ble_eq_true rfl) rfl rfl (Nat.le_of_ble_eq_true rfl) (Nat.le_of_ble_eq_true rfl) rfl pd26 rfl rfl rfl (Nat.le_of_ble_eq_true rfl) at_44 rfl fun v1 h2 J3 hs4 hQ5 => ?_
  obtain ⟨c6, rfl, rfl, rfl, g7⟩ := hQ5
  show Wk _ h0 0 0 (some ([], [])) 47 #[.val (.int p1'), .val (.int p2'), .val (.int p3'), .val (.int p4'), .val (.int p5'), .val (.int (Int32.ofNat sn)), .val (.int s0), .val (.int s1), .val (.int s2), .val (.int (Int32.ofNat rn)), .unset, .unset, .unset, .unset, .unset, .unset, .unset, .unset] [(.int c6)]
  refine Wk.istore (pc' := 49) #[.val (.int p1'), .val (.int p2'), .val (.int p3'), .val (.int p4'), .val (.int p5'), .val (.int (Int32.ofNat sn)), .val (.int s0), .val (.int s1), .val (.int s2), .val (.int (Int32.ofNat rn)), .val (.int c6), .unset, .unset, .unset, .unset, .unset, .unset, .unset] at_47 rfl rfl ?_
  refine Wk.iloadN (pc' := 50) at_49 rfl rfl ?_
  refine Wk.callS (a0 := a0) (pc' := 53) (k' := 0) (n' := 0) (W := 0) (b := b_prn) (argsL := [(.int p3')]) (rest := []) (rm_prn hw p3' h0 (some ([], [])) ) (w0 hw) (w1 hw) (w2 hw) (w3 hw) (by decide) (Nat.le_refl _) id (Nat.le_of_ble_eq_true rfl) (Nat.le_of_ble_eq_true rfl) rfl rfl (Nat.le_of_ble_eq_true rfl) (Nat.le_of_ble_eq_true rfl) rfl pd26 rfl rfl rfl (Nat.le_of_ble_eq_true rfl) at_50 rfl fun v8 h9 J10 hs11 hQ12 => ?_
  obtain ⟨c13, rfl, rfl, rfl, g14⟩ := hQ12
  show Wk _ h0 0 0 (some ([], [])) 53 #[.val (.int p1'), .val (.int p2'), .val (.int p3'), .val (.int p4'), .val (.int p5'), .val (.int (Int32.ofNat sn)), .val (.int s0), .val (.int s1), .val (.int s2), .val (.int (Int32.ofNat rn)), .val (.int c6), .unset, .unset, .unset, .unset, .unset, .unset, .unset] [(.int c13)]
  refine Wk.istore (pc' := 55) #[.val (.int p1'), .val (.int p2'), .val (.int p3'), .val (.int p4'), .val (.int p5'), .val (.int (Int32.ofNat sn)), .val (.int s0), .val (.int s1), .val (.int s2), .val (.int (Int32.ofNat rn)), .val (.int c6), .val (.int c13), .unset, .unset, .unset, .unset, .unset, .unset] at_53 rfl rfl ?_
  refine Wk.iloadN (pc' := 56) at_55 rfl rfl ?_
  refine Wk.callS (a0 := a0) (pc' := 59) (k' := 0) (n' := 0) (W := 0) (b := b_prn) (argsL := [(.int p4')]) (rest := []) (rm_prn hw p4' h0 (some ([], [])) ) (w0 hw) (w1 hw) (w2 hw) (w3 hw) (by decide) (Nat.le_refl _) id (Nat.le_of_ble_eq_true rfl) (Nat.le_of_ble_eq_true rfl) rfl rfl (Nat.le_of_ble_eq_true rfl) (Nat.le_of_ble_eq_true rfl) rfl pd26 rfl rfl rfl (Nat.le_of_ble_eq_true rfl) at_56 rfl fun v15 h16 J17 hs18 hQ19 => ?_
  obtain ⟨c20, rfl, rfl, rfl, g21⟩ := hQ19
  show Wk _ h0 0 0 (some ([], [])) 59 #[.val (.int p1'), .val (.int p2'), .val (.int p3'), .val (.int p4'), .val (.int p5'), .val (.int (Int32.ofNat sn)), .val (.int s0), .val (.int s1), .val (.int s2), .val (.int (Int32.ofNat rn)), .val (.int c6), .val (.int c13), .unset, .unset, .unset, .unset, .unset, .unset] [(.int c20)]
  refine Wk.istore (pc' := 61) #[.val (.int p1'), .val (.int p2'), .val (.int p3'), .val (.int p4'), .val (.int p5'), .val (.int (Int32.ofNat sn)), .val (.int s0), .val (.int s1), .val (.int s2), .val (.int (Int32.ofNat rn)), .val (.int c6), .val (.int c13), .val (.int c20), .unset, .unset, .unset, .unset, .unset] at_59 rfl rfl ?_
  have J87 : ∀ (a1 : Addr) (v1 : Addr) (q1 : ClassId) (a2 : Addr) (v2 : Addr) (q2 : ClassId) (Ts : List String) (Lk : List (String × Nat × Addr)) (hX22 : Heap), (Exa Z hX22 a1 "java/lang/String") → (Fld Z hX22 a1 "java/lang/String" "value" "[B" (.ref v1)) → (Fld Z hX22 a1 "java/lang/String" "coder" "B" (.int (0 : Int32))) → (Arv Z hX22 v1 q1 .byte (Int32.ofNat (own_mkl sn s0 s1 s2).length) ((own_mkl sn s0 s1 s2).map own_by) (.int (0 : Int32))) → (Exa Z hX22 a2 "java/lang/String") → (Fld Z hX22 a2 "java/lang/String" "value" "[B" (.ref v2)) → (Fld Z hX22 a2 "java/lang/String" "coder" "B" (.int (0 : Int32))) → (Arv Z hX22 v2 q2 .byte (Int32.ofNat (own_mkl rn c6 c13 c20).length) ((own_mkl rn c6 c13 c20).map own_by) (.int (0 : Int32))) → (" realm=\"" ∉ Ts) → (Keep h0 hX22 []) → Wk (l, Z, N, h0.size, b_law, Q_law Z N p1' p2' p3' p4' p5' cs sf h0 (some ([], []))) hX22 8 20 (some (Ts, Lk)) 87 #[.val (.int p1'), .val (.int p2'), .val (.int p3'), .val (.int p4'), .val (.int p5'), .val (.int (Int32.ofNat sn)), .val (.int s0), .val (.int s1), .val (.int s2), .val (.int (Int32.ofNat rn)), .val (.int c6), .val (.int c13), .val (.int c20), .val (.ref a1), .val (.ref a2), .unset, .unset, .unset] [] := by
    intro a1 v1 q1 a2 v2 q2 Ts Lk hX22 y23 y24 y25 y26 y27 y28 y29 y30 hT K31
    refine Wk.aload (pc' := 89) at_87 rfl rfl rfl ?_
    refine Wk.aload (pc' := 91) at_89 rfl rfl rfl ?_
    refine Wk.see fun zE32 zN33 zZ34 => ?_
    refine Wk.callS (a0 := a0) (pc' := 94) (k' := 14) (n' := 112) (W := 0) (b := b_wre) (argsL := [(.ref a1), (.ref a2)]) (rest := []) (rm_wre hw a1 v1 q1 (own_mkl sn s0 s1 s2) a2 v2 q2 (own_mkl rn c6 c13 c20) cs sf Ts Lk hX22  P0 G_cs P2 G_sf y23 y24 y25 y26 y27 y28 y29 y30 (by rw [own_mkn hsn]; exact hsn) (by rw [own_mkn hrn]; exact hrn) (own_mkP g7 g14 g21) hT G_h12 G_cw) (w30 hw) (w31 hw) (w32 hw) (w33 hw) (by decide) zN33 (fun _ => Nat.le_refl _) (Nat.le_of_ble_eq_true rfl) (Nat.le_of_ble_eq_true rfl) rfl rfl (Nat.le_of_ble_eq_true rfl) (Nat.le_of_ble_eq_true rfl) rfl pd28 rfl rfl rfl (Nat.le_of_ble_eq_true rfl) at_91 rfl fun v35 h36 J37 hs38 hQ39 => ?_
    obtain ⟨r40, v'41, q'42, -, rfl, E43, g44, g45, g46, g47⟩ := hQ39
    show Wk _ h36 14 112 J37 94 #[.val (.int p1'), .val (.int p2'), .val (.int p3'), .val (.int p4'), .val (.int p5'), .val (.int (Int32.ofNat sn)), .val (.int s0), .val (.int s1), .val (.int s2), .val (.int (Int32.ofNat rn)), .val (.int c6), .val (.int c13), .val (.int c20), .val (.ref a1), .val (.ref a2), .unset, .unset, .unset] [(.ref r40)]
    have hXX := own_Xe (own_mkl sn s0 s1 s2) (own_mkl rn c6 c13 c20)
    have hSl : (own_mkl sn s0 s1 s2).length = sn := own_mkn hsn
    have hXl : (own_X (own_mkl sn s0 s1 s2) (own_mkl rn c6 c13 c20)).length ≤ 24 := own_Xl (by rw [own_mkn hsn]; exact hsn) (by rw [own_mkn hrn]; exact hrn)
    have hXL : own_L (own_X (own_mkl sn s0 s1 s2) (own_mkl rn c6 c13 c20)) := own_XL (own_mkP hs0 hs1 hs2) (own_mkP (own_pc g7) (own_pc g14) (own_pc g21))
    have hX8 : sn + 9 ≤ (own_X (own_mkl sn s0 s1 s2) (own_mkl rn c6 c13 c20)).length := by
      rw [hXX, List.length_append, List.length_append, hSl]
      have : own_lit.length = 8 := rfl
      have : 1 ≤ (own_tail (own_mkl rn c6 c13 c20)).length := by
        match (own_mkl rn c6 c13 c20) with
        | [] => simp [own_tail]
        | c :: R => obtain ⟨d, D, e⟩ := own_escne c (own_tail R); simp only [own_tail, e, List.length_cons]; omega
      omega
    refine Wk.astore (pc' := 96) #[.val (.int p1'), .val (.int p2'), .val (.int p3'), .val (.int p4'), .val (.int p5'), .val (.int (Int32.ofNat sn)), .val (.int s0), .val (.int s1), .val (.int s2), .val (.int (Int32.ofNat rn)), .val (.int c6), .val (.int c13), .val (.int c20), .val (.ref a1), .val (.ref a2), .val (.ref r40), .unset, .unset] at_94 rfl rfl rfl ?_
    refine Wk.iconst (pc' := 97) (v := 1) at_96 rfl rfl ?_
    refine Wk.istore (pc' := 99) #[.val (.int p1'), .val (.int p2'), .val (.int p3'), .val (.int p4'), .val (.int p5'), .val (.int (Int32.ofNat sn)), .val (.int s0), .val (.int s1), .val (.int s2), .val (.int (Int32.ofNat rn)), .val (.int c6), .val (.int c13), .val (.int c20), .val (.ref a1), .val (.ref a2), .val (.ref r40), .val (.int (1 : Int32)), .unset] at_97 rfl rfl ?_
    have J185 : ∀ (u_ : Unit), Wk (l, Z, N, h0.size, b_law, Q_law Z N p1' p2' p3' p4' p5' cs sf h0 (some ([], []))) h36 14 112 J37 185 #[.val (.int p1'), .val (.int p2'), .val (.int p3'), .val (.int p4'), .val (.int p5'), .val (.int (Int32.ofNat sn)), .val (.int s0), .val (.int s1), .val (.int s2), .val (.int (Int32.ofNat rn)), .val (.int c6), .val (.int c13), .val (.int c20), .val (.ref a1), .val (.ref a2), .val (.ref r40), .val (.int (1 : Int32)), .unset] [] := by
      intro u_ 
      refine Wk.iload (pc' := 187) at_185 rfl rfl ?_
      refine Wk.istore (pc' := 189) #[.val (.int p1'), .val (.int p2'), .val (.int p3'), .val (.int p4'), .val (.int p5'), .val (.int (Int32.ofNat sn)), .val (.int s0), .val (.int s1), .val (.int s2), .val (.int (Int32.ofNat rn)), .val (.int c6), .val (.int c13), .val (.int c20), .val (.ref a1), .val (.ref a2), .val (.ref r40), .val (.int (1 : Int32)), .val (.int (Int32.ofNat sn))] at_187 rfl rfl ?_
      refine Wk.iload (pc' := 191) at_189 rfl rfl ?_
      refine Wk.if_eqN (pc' := 194) at_191 rfl (by decide) ?_
      refine Wk.aload (pc' := 196) at_194 rfl rfl rfl ?_
      refine Wk.iload (pc' := 198) at_196 rfl rfl ?_
      refine Wk.bipush (pc' := 200) (v := 32) at_198 rfl rfl ?_
      refine Wk.callS (a0 := a0) (pc' := 203) (k' := 14) (n' := 112) (W := 0) (b := b_at_) (argsL := [(.ref r40), (.int (Int32.ofNat sn)), (.int (32 : Int32))]) (rest := []) (rm_at_ hw r40 v'41 q'42 (own_X (own_mkl sn s0 s1 s2) (own_mkl rn c6 c13 c20)) (sn + 0) (32 : Int32) cs sf h36 J37 P0 G_cs P2 G_sf g44 g45 g46 g47 hXl hXL (by omega) (by rw [hXX]; exact own_getk hSl rfl)) (w167 hw) (w168 hw) (w2 hw) (w169 hw) (by decide) (Nat.le_refl _) id (Nat.le_of_ble_eq_true rfl) (Nat.le_of_ble_eq_true rfl) rfl rfl (Nat.le_of_ble_eq_true rfl) (Nat.le_of_ble_eq_true rfl) rfl pd27 rfl rfl rfl (Nat.le_of_ble_eq_true rfl) at_200 rfl fun v48 h49 J50 hs51 hQ52 => ?_
      obtain ⟨rfl, rfl, rfl⟩ := hQ52
      show Wk _ h36 14 112 J37 203 #[.val (.int p1'), .val (.int p2'), .val (.int p3'), .val (.int p4'), .val (.int p5'), .val (.int (Int32.ofNat sn)), .val (.int s0), .val (.int s1), .val (.int s2), .val (.int (Int32.ofNat rn)), .val (.int c6), .val (.int c13), .val (.int c20), .val (.ref a1), .val (.ref a2), .val (.ref r40), .val (.int (1 : Int32)), .val (.int (Int32.ofNat sn))] [(.int (1 : Int32))]
      refine Wk.if_eqN (pc' := 206) at_203 rfl (by decide) ?_
      refine Wk.iconst (pc' := 207) (v := 1) at_206 rfl rfl ?_
      refine Wk.goto (pc' := 211) at_207 (by decide) ?_
      refine Wk.istore (pc' := 213) #[.val (.int p1'), .val (.int p2'), .val (.int p3'), .val (.int p4'), .val (.int p5'), .val (.int (Int32.ofNat sn)), .val (.int s0), .val (.int s1), .val (.int s2), .val (.int (Int32.ofNat rn)), .val (.int c6), .val (.int c13), .val (.int c20), .val (.ref a1), .val (.ref a2), .val (.ref r40), .val (.int (1 : Int32)), .val (.int (Int32.ofNat sn))] at_211 rfl rfl ?_
      refine Wk.iload (pc' := 215) at_213 rfl rfl ?_
      refine Wk.if_eqN (pc' := 218) at_215 rfl (by decide) ?_
      refine Wk.aload (pc' := 220) at_218 rfl rfl rfl ?_
      refine Wk.iload (pc' := 222) at_220 rfl rfl ?_
      refine Wk.iconst (pc' := 223) (v := 1) at_222 rfl rfl ?_
      refine Wk.iadd (pc' := 224) at_223 rfl ?_
      rw [(show Int32.ofNat sn + (1 : Int32) = Int32.ofNat (sn + 1) from own_addn sn 1)]
      refine Wk.bipush (pc' := 226) (v := 114) at_224 rfl rfl ?_
      refine Wk.callS (a0 := a0) (pc' := 229) (k' := 14) (n' := 112) (W := 0) (b := b_at_) (argsL := [(.ref r40), (.int (Int32.ofNat (sn + 1))), (.int (114 : Int32))]) (rest := []) (rm_at_ hw r40 v'41 q'42 (own_X (own_mkl sn s0 s1 s2) (own_mkl rn c6 c13 c20)) (sn + 1) (114 : Int32) cs sf h36 J37 P0 G_cs P2 G_sf g44 g45 g46 g47 hXl hXL (by omega) (by rw [hXX]; exact own_getk hSl rfl)) (w167 hw) (w168 hw) (w2 hw) (w169 hw) (by decide) (Nat.le_refl _) id (Nat.le_of_ble_eq_true rfl) (Nat.le_of_ble_eq_true rfl) rfl rfl (Nat.le_of_ble_eq_true rfl) (Nat.le_of_ble_eq_true rfl) rfl pd27 rfl rfl rfl (Nat.le_of_ble_eq_true rfl) at_226 rfl fun v53 h54 J55 hs56 hQ57 => ?_
      obtain ⟨rfl, rfl, rfl⟩ := hQ57
      show Wk _ h36 14 112 J37 229 #[.val (.int p1'), .val (.int p2'), .val (.int p3'), .val (.int p4'), .val (.int p5'), .val (.int (Int32.ofNat sn)), .val (.int s0), .val (.int s1), .val (.int s2), .val (.int (Int32.ofNat rn)), .val (.int c6), .val (.int c13), .val (.int c20), .val (.ref a1), .val (.ref a2), .val (.ref r40), .val (.int (1 : Int32)), .val (.int (Int32.ofNat sn))] [(.int (1 : Int32))]
      refine Wk.if_eqN (pc' := 232) at_229 rfl (by decide) ?_
      refine Wk.iconst (pc' := 233) (v := 1) at_232 rfl rfl ?_
      refine Wk.goto (pc' := 237) at_233 (by decide) ?_
      refine Wk.istore (pc' := 239) #[.val (.int p1'), .val (.int p2'), .val (.int p3'), .val (.int p4'), .val (.int p5'), .val (.int (Int32.ofNat sn)), .val (.int s0), .val (.int s1), .val (.int s2), .val (.int (Int32.ofNat rn)), .val (.int c6), .val (.int c13), .val (.int c20), .val (.ref a1), .val (.ref a2), .val (.ref r40), .val (.int (1 : Int32)), .val (.int (Int32.ofNat sn))] at_237 rfl rfl ?_
      refine Wk.iload (pc' := 241) at_239 rfl rfl ?_
      refine Wk.if_eqN (pc' := 244) at_241 rfl (by decide) ?_
      refine Wk.aload (pc' := 246) at_244 rfl rfl rfl ?_
      refine Wk.iload (pc' := 248) at_246 rfl rfl ?_
      refine Wk.iconst (pc' := 249) (v := 2) at_248 rfl rfl ?_
      refine Wk.iadd (pc' := 250) at_249 rfl ?_
      rw [(show Int32.ofNat sn + (2 : Int32) = Int32.ofNat (sn + 2) from own_addn sn 2)]
      refine Wk.bipush (pc' := 252) (v := 101) at_250 rfl rfl ?_
      refine Wk.callS (a0 := a0) (pc' := 255) (k' := 14) (n' := 112) (W := 0) (b := b_at_) (argsL := [(.ref r40), (.int (Int32.ofNat (sn + 2))), (.int (101 : Int32))]) (rest := []) (rm_at_ hw r40 v'41 q'42 (own_X (own_mkl sn s0 s1 s2) (own_mkl rn c6 c13 c20)) (sn + 2) (101 : Int32) cs sf h36 J37 P0 G_cs P2 G_sf g44 g45 g46 g47 hXl hXL (by omega) (by rw [hXX]; exact own_getk hSl rfl)) (w167 hw) (w168 hw) (w2 hw) (w169 hw) (by decide) (Nat.le_refl _) id (Nat.le_of_ble_eq_true rfl) (Nat.le_of_ble_eq_true rfl) rfl rfl (Nat.le_of_ble_eq_true rfl) (Nat.le_of_ble_eq_true rfl) rfl pd27 rfl rfl rfl (Nat.le_of_ble_eq_true rfl) at_252 rfl fun v58 h59 J60 hs61 hQ62 => ?_
      obtain ⟨rfl, rfl, rfl⟩ := hQ62
      show Wk _ h36 14 112 J37 255 #[.val (.int p1'), .val (.int p2'), .val (.int p3'), .val (.int p4'), .val (.int p5'), .val (.int (Int32.ofNat sn)), .val (.int s0), .val (.int s1), .val (.int s2), .val (.int (Int32.ofNat rn)), .val (.int c6), .val (.int c13), .val (.int c20), .val (.ref a1), .val (.ref a2), .val (.ref r40), .val (.int (1 : Int32)), .val (.int (Int32.ofNat sn))] [(.int (1 : Int32))]
      refine Wk.if_eqN (pc' := 258) at_255 rfl (by decide) ?_
      refine Wk.iconst (pc' := 259) (v := 1) at_258 rfl rfl ?_
      refine Wk.goto (pc' := 263) at_259 (by decide) ?_
      refine Wk.istore (pc' := 265) #[.val (.int p1'), .val (.int p2'), .val (.int p3'), .val (.int p4'), .val (.int p5'), .val (.int (Int32.ofNat sn)), .val (.int s0), .val (.int s1), .val (.int s2), .val (.int (Int32.ofNat rn)), .val (.int c6), .val (.int c13), .val (.int c20), .val (.ref a1), .val (.ref a2), .val (.ref r40), .val (.int (1 : Int32)), .val (.int (Int32.ofNat sn))] at_263 rfl rfl ?_
      refine Wk.iload (pc' := 267) at_265 rfl rfl ?_
      refine Wk.if_eqN (pc' := 270) at_267 rfl (by decide) ?_
      refine Wk.aload (pc' := 272) at_270 rfl rfl rfl ?_
      refine Wk.iload (pc' := 274) at_272 rfl rfl ?_
      refine Wk.iconst (pc' := 275) (v := 3) at_274 rfl rfl ?_
      refine Wk.iadd (pc' := 276) at_275 rfl ?_
      rw [(show Int32.ofNat sn + (3 : Int32) = Int32.ofNat (sn + 3) from own_addn sn 3)]
      refine Wk.bipush (pc' := 278) (v := 97) at_276 rfl rfl ?_
      refine Wk.callS (a0 := a0) (pc' := 281) (k' := 14) (n' := 112) (W := 0) (b := b_at_) (argsL := [(.ref r40), (.int (Int32.ofNat (sn + 3))), (.int (97 : Int32))]) (rest := []) (rm_at_ hw r40 v'41 q'42 (own_X (own_mkl sn s0 s1 s2) (own_mkl rn c6 c13 c20)) (sn + 3) (97 : Int32) cs sf h36 J37 P0 G_cs P2 G_sf g44 g45 g46 g47 hXl hXL (by omega) (by rw [hXX]; exact own_getk hSl rfl)) (w167 hw) (w168 hw) (w2 hw) (w169 hw) (by decide) (Nat.le_refl _) id (Nat.le_of_ble_eq_true rfl) (Nat.le_of_ble_eq_true rfl) rfl rfl (Nat.le_of_ble_eq_true rfl) (Nat.le_of_ble_eq_true rfl) rfl pd27 rfl rfl rfl (Nat.le_of_ble_eq_true rfl) at_278 rfl fun v63 h64 J65 hs66 hQ67 => ?_
      obtain ⟨rfl, rfl, rfl⟩ := hQ67
      show Wk _ h36 14 112 J37 281 #[.val (.int p1'), .val (.int p2'), .val (.int p3'), .val (.int p4'), .val (.int p5'), .val (.int (Int32.ofNat sn)), .val (.int s0), .val (.int s1), .val (.int s2), .val (.int (Int32.ofNat rn)), .val (.int c6), .val (.int c13), .val (.int c20), .val (.ref a1), .val (.ref a2), .val (.ref r40), .val (.int (1 : Int32)), .val (.int (Int32.ofNat sn))] [(.int (1 : Int32))]
      refine Wk.if_eqN (pc' := 284) at_281 rfl (by decide) ?_
      refine Wk.iconst (pc' := 285) (v := 1) at_284 rfl rfl ?_
      refine Wk.goto (pc' := 289) at_285 (by decide) ?_
      refine Wk.istore (pc' := 291) #[.val (.int p1'), .val (.int p2'), .val (.int p3'), .val (.int p4'), .val (.int p5'), .val (.int (Int32.ofNat sn)), .val (.int s0), .val (.int s1), .val (.int s2), .val (.int (Int32.ofNat rn)), .val (.int c6), .val (.int c13), .val (.int c20), .val (.ref a1), .val (.ref a2), .val (.ref r40), .val (.int (1 : Int32)), .val (.int (Int32.ofNat sn))] at_289 rfl rfl ?_
      refine Wk.iload (pc' := 293) at_291 rfl rfl ?_
      refine Wk.if_eqN (pc' := 296) at_293 rfl (by decide) ?_
      refine Wk.aload (pc' := 298) at_296 rfl rfl rfl ?_
      refine Wk.iload (pc' := 300) at_298 rfl rfl ?_
      refine Wk.iconst (pc' := 301) (v := 4) at_300 rfl rfl ?_
      refine Wk.iadd (pc' := 302) at_301 rfl ?_
      rw [(show Int32.ofNat sn + (4 : Int32) = Int32.ofNat (sn + 4) from own_addn sn 4)]
      refine Wk.bipush (pc' := 304) (v := 108) at_302 rfl rfl ?_
      refine Wk.callS (a0 := a0) (pc' := 307) (k' := 14) (n' := 112) (W := 0) (b := b_at_) (argsL := [(.ref r40), (.int (Int32.ofNat (sn + 4))), (.int (108 : Int32))]) (rest := []) (rm_at_ hw r40 v'41 q'42 (own_X (own_mkl sn s0 s1 s2) (own_mkl rn c6 c13 c20)) (sn + 4) (108 : Int32) cs sf h36 J37 P0 G_cs P2 G_sf g44 g45 g46 g47 hXl hXL (by omega) (by rw [hXX]; exact own_getk hSl rfl)) (w167 hw) (w168 hw) (w2 hw) (w169 hw) (by decide) (Nat.le_refl _) id (Nat.le_of_ble_eq_true rfl) (Nat.le_of_ble_eq_true rfl) rfl rfl (Nat.le_of_ble_eq_true rfl) (Nat.le_of_ble_eq_true rfl) rfl pd27 rfl rfl rfl (Nat.le_of_ble_eq_true rfl) at_304 rfl fun v68 h69 J70 hs71 hQ72 => ?_
      obtain ⟨rfl, rfl, rfl⟩ := hQ72
      show Wk _ h36 14 112 J37 307 #[.val (.int p1'), .val (.int p2'), .val (.int p3'), .val (.int p4'), .val (.int p5'), .val (.int (Int32.ofNat sn)), .val (.int s0), .val (.int s1), .val (.int s2), .val (.int (Int32.ofNat rn)), .val (.int c6), .val (.int c13), .val (.int c20), .val (.ref a1), .val (.ref a2), .val (.ref r40), .val (.int (1 : Int32)), .val (.int (Int32.ofNat sn))] [(.int (1 : Int32))]
      refine Wk.if_eqN (pc' := 310) at_307 rfl (by decide) ?_
      refine Wk.iconst (pc' := 311) (v := 1) at_310 rfl rfl ?_
      refine Wk.goto (pc' := 315) at_311 (by decide) ?_
      refine Wk.istore (pc' := 317) #[.val (.int p1'), .val (.int p2'), .val (.int p3'), .val (.int p4'), .val (.int p5'), .val (.int (Int32.ofNat sn)), .val (.int s0), .val (.int s1), .val (.int s2), .val (.int (Int32.ofNat rn)), .val (.int c6), .val (.int c13), .val (.int c20), .val (.ref a1), .val (.ref a2), .val (.ref r40), .val (.int (1 : Int32)), .val (.int (Int32.ofNat sn))] at_315 rfl rfl ?_
      refine Wk.iload (pc' := 319) at_317 rfl rfl ?_
      refine Wk.if_eqN (pc' := 322) at_319 rfl (by decide) ?_
      refine Wk.aload (pc' := 324) at_322 rfl rfl rfl ?_
      refine Wk.iload (pc' := 326) at_324 rfl rfl ?_
      refine Wk.iconst (pc' := 327) (v := 5) at_326 rfl rfl ?_
      refine Wk.iadd (pc' := 328) at_327 rfl ?_
      rw [(show Int32.ofNat sn + (5 : Int32) = Int32.ofNat (sn + 5) from own_addn sn 5)]
      refine Wk.bipush (pc' := 330) (v := 109) at_328 rfl rfl ?_
      refine Wk.callS (a0 := a0) (pc' := 333) (k' := 14) (n' := 112) (W := 0) (b := b_at_) (argsL := [(.ref r40), (.int (Int32.ofNat (sn + 5))), (.int (109 : Int32))]) (rest := []) (rm_at_ hw r40 v'41 q'42 (own_X (own_mkl sn s0 s1 s2) (own_mkl rn c6 c13 c20)) (sn + 5) (109 : Int32) cs sf h36 J37 P0 G_cs P2 G_sf g44 g45 g46 g47 hXl hXL (by omega) (by rw [hXX]; exact own_getk hSl rfl)) (w167 hw) (w168 hw) (w2 hw) (w169 hw) (by decide) (Nat.le_refl _) id (Nat.le_of_ble_eq_true rfl) (Nat.le_of_ble_eq_true rfl) rfl rfl (Nat.le_of_ble_eq_true rfl) (Nat.le_of_ble_eq_true rfl) rfl pd27 rfl rfl rfl (Nat.le_of_ble_eq_true rfl) at_330 rfl fun v73 h74 J75 hs76 hQ77 => ?_
      obtain ⟨rfl, rfl, rfl⟩ := hQ77
      show Wk _ h36 14 112 J37 333 #[.val (.int p1'), .val (.int p2'), .val (.int p3'), .val (.int p4'), .val (.int p5'), .val (.int (Int32.ofNat sn)), .val (.int s0), .val (.int s1), .val (.int s2), .val (.int (Int32.ofNat rn)), .val (.int c6), .val (.int c13), .val (.int c20), .val (.ref a1), .val (.ref a2), .val (.ref r40), .val (.int (1 : Int32)), .val (.int (Int32.ofNat sn))] [(.int (1 : Int32))]
      refine Wk.if_eqN (pc' := 336) at_333 rfl (by decide) ?_
      refine Wk.iconst (pc' := 337) (v := 1) at_336 rfl rfl ?_
      refine Wk.goto (pc' := 341) at_337 (by decide) ?_
      refine Wk.istore (pc' := 343) #[.val (.int p1'), .val (.int p2'), .val (.int p3'), .val (.int p4'), .val (.int p5'), .val (.int (Int32.ofNat sn)), .val (.int s0), .val (.int s1), .val (.int s2), .val (.int (Int32.ofNat rn)), .val (.int c6), .val (.int c13), .val (.int c20), .val (.ref a1), .val (.ref a2), .val (.ref r40), .val (.int (1 : Int32)), .val (.int (Int32.ofNat sn))] at_341 rfl rfl ?_
      refine Wk.iload (pc' := 345) at_343 rfl rfl ?_
      refine Wk.if_eqN (pc' := 348) at_345 rfl (by decide) ?_
      refine Wk.aload (pc' := 350) at_348 rfl rfl rfl ?_
      refine Wk.iload (pc' := 352) at_350 rfl rfl ?_
      refine Wk.bipush (pc' := 354) (v := 6) at_352 rfl rfl ?_
      refine Wk.iadd (pc' := 355) at_354 rfl ?_
      rw [(show Int32.ofNat sn + (6 : Int32) = Int32.ofNat (sn + 6) from own_addn sn 6)]
      refine Wk.bipush (pc' := 357) (v := 61) at_355 rfl rfl ?_
      refine Wk.callS (a0 := a0) (pc' := 360) (k' := 14) (n' := 112) (W := 0) (b := b_at_) (argsL := [(.ref r40), (.int (Int32.ofNat (sn + 6))), (.int (61 : Int32))]) (rest := []) (rm_at_ hw r40 v'41 q'42 (own_X (own_mkl sn s0 s1 s2) (own_mkl rn c6 c13 c20)) (sn + 6) (61 : Int32) cs sf h36 J37 P0 G_cs P2 G_sf g44 g45 g46 g47 hXl hXL (by omega) (by rw [hXX]; exact own_getk hSl rfl)) (w167 hw) (w168 hw) (w2 hw) (w169 hw) (by decide) (Nat.le_refl _) id (Nat.le_of_ble_eq_true rfl) (Nat.le_of_ble_eq_true rfl) rfl rfl (Nat.le_of_ble_eq_true rfl) (Nat.le_of_ble_eq_true rfl) rfl pd27 rfl rfl rfl (Nat.le_of_ble_eq_true rfl) at_357 rfl fun v78 h79 J80 hs81 hQ82 => ?_
      obtain ⟨rfl, rfl, rfl⟩ := hQ82
      show Wk _ h36 14 112 J37 360 #[.val (.int p1'), .val (.int p2'), .val (.int p3'), .val (.int p4'), .val (.int p5'), .val (.int (Int32.ofNat sn)), .val (.int s0), .val (.int s1), .val (.int s2), .val (.int (Int32.ofNat rn)), .val (.int c6), .val (.int c13), .val (.int c20), .val (.ref a1), .val (.ref a2), .val (.ref r40), .val (.int (1 : Int32)), .val (.int (Int32.ofNat sn))] [(.int (1 : Int32))]
      refine Wk.if_eqN (pc' := 363) at_360 rfl (by decide) ?_
      refine Wk.iconst (pc' := 364) (v := 1) at_363 rfl rfl ?_
      refine Wk.goto (pc' := 368) at_364 (by decide) ?_
      refine Wk.istore (pc' := 370) #[.val (.int p1'), .val (.int p2'), .val (.int p3'), .val (.int p4'), .val (.int p5'), .val (.int (Int32.ofNat sn)), .val (.int s0), .val (.int s1), .val (.int s2), .val (.int (Int32.ofNat rn)), .val (.int c6), .val (.int c13), .val (.int c20), .val (.ref a1), .val (.ref a2), .val (.ref r40), .val (.int (1 : Int32)), .val (.int (Int32.ofNat sn))] at_368 rfl rfl ?_
      refine Wk.iload (pc' := 372) at_370 rfl rfl ?_
      refine Wk.if_eqN (pc' := 375) at_372 rfl (by decide) ?_
      refine Wk.aload (pc' := 377) at_375 rfl rfl rfl ?_
      refine Wk.iload (pc' := 379) at_377 rfl rfl ?_
      refine Wk.bipush (pc' := 381) (v := 7) at_379 rfl rfl ?_
      refine Wk.iadd (pc' := 382) at_381 rfl ?_
      rw [(show Int32.ofNat sn + (7 : Int32) = Int32.ofNat (sn + 7) from own_addn sn 7)]
      refine Wk.bipush (pc' := 384) (v := 34) at_382 rfl rfl ?_
      refine Wk.callS (a0 := a0) (pc' := 387) (k' := 14) (n' := 112) (W := 0) (b := b_at_) (argsL := [(.ref r40), (.int (Int32.ofNat (sn + 7))), (.int (34 : Int32))]) (rest := []) (rm_at_ hw r40 v'41 q'42 (own_X (own_mkl sn s0 s1 s2) (own_mkl rn c6 c13 c20)) (sn + 7) (34 : Int32) cs sf h36 J37 P0 G_cs P2 G_sf g44 g45 g46 g47 hXl hXL (by omega) (by rw [hXX]; exact own_getk hSl rfl)) (w167 hw) (w168 hw) (w2 hw) (w169 hw) (by decide) (Nat.le_refl _) id (Nat.le_of_ble_eq_true rfl) (Nat.le_of_ble_eq_true rfl) rfl rfl (Nat.le_of_ble_eq_true rfl) (Nat.le_of_ble_eq_true rfl) rfl pd27 rfl rfl rfl (Nat.le_of_ble_eq_true rfl) at_384 rfl fun v83 h84 J85 hs86 hQ87 => ?_
      obtain ⟨rfl, rfl, rfl⟩ := hQ87
      show Wk _ h36 14 112 J37 387 #[.val (.int p1'), .val (.int p2'), .val (.int p3'), .val (.int p4'), .val (.int p5'), .val (.int (Int32.ofNat sn)), .val (.int s0), .val (.int s1), .val (.int s2), .val (.int (Int32.ofNat rn)), .val (.int c6), .val (.int c13), .val (.int c20), .val (.ref a1), .val (.ref a2), .val (.ref r40), .val (.int (1 : Int32)), .val (.int (Int32.ofNat sn))] [(.int (1 : Int32))]
      refine Wk.if_eqN (pc' := 390) at_387 rfl (by decide) ?_
      refine Wk.iconst (pc' := 391) (v := 1) at_390 rfl rfl ?_
      refine Wk.goto (pc' := 395) at_391 (by decide) ?_
      refine Wk.istore (pc' := 397) #[.val (.int p1'), .val (.int p2'), .val (.int p3'), .val (.int p4'), .val (.int p5'), .val (.int (Int32.ofNat sn)), .val (.int s0), .val (.int s1), .val (.int s2), .val (.int (Int32.ofNat rn)), .val (.int c6), .val (.int c13), .val (.int c20), .val (.ref a1), .val (.ref a2), .val (.ref r40), .val (.int (1 : Int32)), .val (.int (Int32.ofNat sn))] at_395 rfl rfl ?_
      refine Wk.iload (pc' := 399) at_397 rfl rfl ?_
      refine Wk.bipush (pc' := 401) (v := 8) at_399 rfl rfl ?_
      refine Wk.iadd (pc' := 402) at_401 rfl ?_
      rw [(show Int32.ofNat sn + (8 : Int32) = Int32.ofNat (sn + 8) from own_addn sn 8)]
      refine Wk.istore (pc' := 404) #[.val (.int p1'), .val (.int p2'), .val (.int p3'), .val (.int p4'), .val (.int p5'), .val (.int (Int32.ofNat sn)), .val (.int s0), .val (.int s1), .val (.int s2), .val (.int (Int32.ofNat rn)), .val (.int c6), .val (.int c13), .val (.int c20), .val (.ref a1), .val (.ref a2), .val (.ref r40), .val (.int (1 : Int32)), .val (.int (Int32.ofNat (sn + 8)))] at_402 rfl rfl ?_
      rcases (show rn = 0 ∨ rn = 1 ∨ rn = 2 ∨ rn = 3 by omega) with hR | hR | hR | hR
      · skip
        refine Wk.iload (pc' := 406) at_404 rfl rfl ?_
        refine Wk.if_leY (pc' := 420) at_406 (by decide) (by rw [hR]; decide) ?_
        refine Wk.iload (pc' := 422) at_420 rfl rfl ?_
        refine Wk.iconst (pc' := 423) (v := 1) at_422 rfl rfl ?_
        refine Wk.icmp_leY (pc' := 437) at_423 (by decide) (by rw [hR]; decide) ?_
        refine Wk.iload (pc' := 439) at_437 rfl rfl ?_
        refine Wk.iconst (pc' := 440) (v := 2) at_439 rfl rfl ?_
        refine Wk.icmp_leY (pc' := 454) at_440 (by decide) (by rw [hR]; decide) ?_
        have hEnd : (own_X (own_mkl sn s0 s1 s2) (own_mkl rn c6 c13 c20)) = ((own_mkl sn s0 s1 s2) ++ own_lit) ++ [34] := by rw [hXX, hR]; simp [own_mkl, own_tail]
        have hLen : ((own_mkl sn s0 s1 s2) ++ own_lit).length = (sn + 8) := (by simp only [List.length_append, hSl]; rfl)
        have hAll : (own_X (own_mkl sn s0 s1 s2) (own_mkl rn c6 c13 c20)).length = (sn + 8) + 1 := by rw [hEnd, List.length_append, hLen]; rfl
        refine Wk.iload (pc' := 456) at_454 rfl rfl ?_
        refine Wk.if_eqN (pc' := 459) at_456 rfl (by decide) ?_
        refine Wk.aload (pc' := 461) at_459 rfl rfl rfl ?_
        refine Wk.iload (pc' := 463) at_461 rfl rfl ?_
        refine Wk.bipush (pc' := 465) (v := 34) at_463 rfl rfl ?_
        refine Wk.callS (a0 := a0) (pc' := 468) (k' := 14) (n' := 112) (W := 0) (b := b_at_) (argsL := [(.ref r40), (.int (Int32.ofNat (sn + 8))), (.int (34 : Int32))]) (rest := []) (rm_at_ hw r40 v'41 q'42 (own_X (own_mkl sn s0 s1 s2) (own_mkl rn c6 c13 c20)) (sn + 8) (34 : Int32) cs sf h36 J37 P0 G_cs P2 G_sf g44 g45 g46 g47 hXl hXL (by omega) (own_getA hEnd hLen)) (w167 hw) (w168 hw) (w2 hw) (w169 hw) (by decide) (Nat.le_refl _) id (Nat.le_of_ble_eq_true rfl) (Nat.le_of_ble_eq_true rfl) rfl rfl (Nat.le_of_ble_eq_true rfl) (Nat.le_of_ble_eq_true rfl) rfl pd27 rfl rfl rfl (Nat.le_of_ble_eq_true rfl) at_465 rfl fun v88 h89 J90 hs91 hQ92 => ?_
        obtain ⟨rfl, rfl, rfl⟩ := hQ92
        show Wk _ h36 14 112 J37 468 #[.val (.int p1'), .val (.int p2'), .val (.int p3'), .val (.int p4'), .val (.int p5'), .val (.int (Int32.ofNat sn)), .val (.int s0), .val (.int s1), .val (.int s2), .val (.int (Int32.ofNat rn)), .val (.int c6), .val (.int c13), .val (.int c20), .val (.ref a1), .val (.ref a2), .val (.ref r40), .val (.int (1 : Int32)), .val (.int (Int32.ofNat (sn + 8)))] [(.int (1 : Int32))]
        refine Wk.if_eqN (pc' := 471) at_468 rfl (by decide) ?_
        refine Wk.aload (pc' := 473) at_471 rfl rfl rfl ?_
        refine Wk.callV (a0 := a0) (pc' := 476) (k' := 14) (n' := 112) (W := 0) (b := b_s_len) (argsL := []) (rest := []) (y := (⟨"java/lang/String", "length", "()I"⟩ : MethodName)) (rm_s_len hw r40 v'41 q'42 (own_X (own_mkl sn s0 s1 s2) (own_mkl rn c6 c13 c20)) cs h36 J37 P0 G_cs g44 g45 g46 g47) g44 (w170 hw) (w48 hw) (w50 hw) (w50 hw) (w49 hw) (w10 hw) (w51 hw) (by decide) (Nat.le_refl _) id (Nat.le_of_ble_eq_true rfl) (Nat.le_of_ble_eq_true rfl) rfl rfl (Nat.le_of_ble_eq_true rfl) (Nat.le_of_ble_eq_true rfl) rfl pd9 rfl rfl rfl (Nat.le_of_ble_eq_true rfl) at_473 rfl fun v93 h94 J95 hs96 hQ97 => ?_
        obtain ⟨rfl, rfl, rfl⟩ := hQ97
        show Wk _ h36 14 112 J37 476 #[.val (.int p1'), .val (.int p2'), .val (.int p3'), .val (.int p4'), .val (.int p5'), .val (.int (Int32.ofNat sn)), .val (.int s0), .val (.int s1), .val (.int s2), .val (.int (Int32.ofNat rn)), .val (.int c6), .val (.int c13), .val (.int c20), .val (.ref a1), .val (.ref a2), .val (.ref r40), .val (.int (1 : Int32)), .val (.int (Int32.ofNat (sn + 8)))] [(.int (Int32.ofNat (own_X (own_mkl sn s0 s1 s2) (own_mkl rn c6 c13 c20)).length))]
        refine Wk.iload (pc' := 478) at_476 rfl rfl ?_
        refine Wk.iconst (pc' := 479) (v := 1) at_478 rfl rfl ?_
        refine Wk.iadd (pc' := 480) at_479 rfl ?_
        refine Wk.icmp_neN (pc' := 483) at_480 rfl (by rw [hAll]; exact (own_addn _ 1).symm) ?_
        refine Wk.iconst (pc' := 484) (v := 1) at_483 rfl rfl ?_
        refine Wk.goto (pc' := 488) at_484 (by decide) ?_
        exact Wk.zreturn rfl (by simp) at_488 (Nat.le_of_ble_eq_true rfl) (Nat.le_of_ble_eq_true rfl) ⟨trivial, rfl⟩
      · skip
        refine Wk.iload (pc' := 406) at_404 rfl rfl ?_
        refine Wk.if_leN (pc' := 409) at_406 rfl (by rw [hR]; decide) ?_
        refine Wk.aload (pc' := 411) at_409 rfl rfl rfl ?_
        refine Wk.iload (pc' := 413) at_411 rfl rfl ?_
        refine Wk.iload (pc' := 415) at_413 rfl rfl ?_
        refine Wk.callS (a0 := a0) (pc' := 418) (k' := 14) (n' := 112) (W := 0) (b := b_stp) (argsL := [(.ref r40), (.int (Int32.ofNat (sn + 8))), (.int c6)]) (rest := []) (rm_stp hw r40 v'41 q'42 (own_X (own_mkl sn s0 s1 s2) (own_mkl rn c6 c13 c20)) (sn + 8) c6 cs sf ((own_mkl sn s0 s1 s2) ++ own_lit) (own_tail []) h36 J37 P0 G_cs P2 G_sf g44 g45 g46 g47 hXl hXL (by rw [hXX, hR]; simp [own_mkl, own_tail]) (by simp only [List.length_append, hSl]; rfl)) (w203 hw) (w204 hw) (w2 hw) (w205 hw) (by decide) (Nat.le_refl _) id (Nat.le_of_ble_eq_true rfl) (Nat.le_of_ble_eq_true rfl) rfl rfl (Nat.le_of_ble_eq_true rfl) (Nat.le_of_ble_eq_true rfl) rfl pd29 rfl rfl rfl (Nat.le_of_ble_eq_true rfl) at_415 rfl fun v98 h99 J100 hs101 hQ102 => ?_
        obtain ⟨rfl, rfl, rfl⟩ := hQ102
        show Wk _ h36 14 112 J37 418 #[.val (.int p1'), .val (.int p2'), .val (.int p3'), .val (.int p4'), .val (.int p5'), .val (.int (Int32.ofNat sn)), .val (.int s0), .val (.int s1), .val (.int s2), .val (.int (Int32.ofNat rn)), .val (.int c6), .val (.int c13), .val (.int c20), .val (.ref a1), .val (.ref a2), .val (.ref r40), .val (.int (1 : Int32)), .val (.int (Int32.ofNat (sn + 8)))] [(.int (Int32.ofNat ((sn + 8) + (own_esc c6).length)))]
        refine Wk.istore (pc' := 420) #[.val (.int p1'), .val (.int p2'), .val (.int p3'), .val (.int p4'), .val (.int p5'), .val (.int (Int32.ofNat sn)), .val (.int s0), .val (.int s1), .val (.int s2), .val (.int (Int32.ofNat rn)), .val (.int c6), .val (.int c13), .val (.int c20), .val (.ref a1), .val (.ref a2), .val (.ref r40), .val (.int (1 : Int32)), .val (.int (Int32.ofNat ((sn + 8) + (own_esc c6).length)))] at_418 rfl rfl ?_
        refine Wk.iload (pc' := 422) at_420 rfl rfl ?_
        refine Wk.iconst (pc' := 423) (v := 1) at_422 rfl rfl ?_
        refine Wk.icmp_leY (pc' := 437) at_423 (by decide) (by rw [hR]; decide) ?_
        refine Wk.iload (pc' := 439) at_437 rfl rfl ?_
        refine Wk.iconst (pc' := 440) (v := 2) at_439 rfl rfl ?_
        refine Wk.icmp_leY (pc' := 454) at_440 (by decide) (by rw [hR]; decide) ?_
        have hEnd : (own_X (own_mkl sn s0 s1 s2) (own_mkl rn c6 c13 c20)) = ((own_mkl sn s0 s1 s2) ++ own_lit ++ own_esc c6) ++ [34] := by rw [hXX, hR]; simp [own_mkl, own_tail]
        have hLen : ((own_mkl sn s0 s1 s2) ++ own_lit ++ own_esc c6).length = ((sn + 8) + (own_esc c6).length) := (by simp only [List.length_append, hSl]; rfl)
        have hAll : (own_X (own_mkl sn s0 s1 s2) (own_mkl rn c6 c13 c20)).length = ((sn + 8) + (own_esc c6).length) + 1 := by rw [hEnd, List.length_append, hLen]; rfl
        refine Wk.iload (pc' := 456) at_454 rfl rfl ?_
        refine Wk.if_eqN (pc' := 459) at_456 rfl (by decide) ?_
        refine Wk.aload (pc' := 461) at_459 rfl rfl rfl ?_
        refine Wk.iload (pc' := 463) at_461 rfl rfl ?_
        refine Wk.bipush (pc' := 465) (v := 34) at_463 rfl rfl ?_
        refine Wk.callS (a0 := a0) (pc' := 468) (k' := 14) (n' := 112) (W := 0) (b := b_at_) (argsL := [(.ref r40), (.int (Int32.ofNat ((sn + 8) + (own_esc c6).length))), (.int (34 : Int32))]) (rest := []) (rm_at_ hw r40 v'41 q'42 (own_X (own_mkl sn s0 s1 s2) (own_mkl rn c6 c13 c20)) ((sn + 8) + (own_esc c6).length) (34 : Int32) cs sf h36 J37 P0 G_cs P2 G_sf g44 g45 g46 g47 hXl hXL (by omega) (own_getA hEnd hLen)) (w167 hw) (w168 hw) (w2 hw) (w169 hw) (by decide) (Nat.le_refl _) id (Nat.le_of_ble_eq_true rfl) (Nat.le_of_ble_eq_true rfl) rfl rfl (Nat.le_of_ble_eq_true rfl) (Nat.le_of_ble_eq_true rfl) rfl pd27 rfl rfl rfl (Nat.le_of_ble_eq_true rfl) at_465 rfl fun v103 h104 J105 hs106 hQ107 => ?_
        obtain ⟨rfl, rfl, rfl⟩ := hQ107
        show Wk _ h36 14 112 J37 468 #[.val (.int p1'), .val (.int p2'), .val (.int p3'), .val (.int p4'), .val (.int p5'), .val (.int (Int32.ofNat sn)), .val (.int s0), .val (.int s1), .val (.int s2), .val (.int (Int32.ofNat rn)), .val (.int c6), .val (.int c13), .val (.int c20), .val (.ref a1), .val (.ref a2), .val (.ref r40), .val (.int (1 : Int32)), .val (.int (Int32.ofNat ((sn + 8) + (own_esc c6).length)))] [(.int (1 : Int32))]
        refine Wk.if_eqN (pc' := 471) at_468 rfl (by decide) ?_
        refine Wk.aload (pc' := 473) at_471 rfl rfl rfl ?_
        refine Wk.callV (a0 := a0) (pc' := 476) (k' := 14) (n' := 112) (W := 0) (b := b_s_len) (argsL := []) (rest := []) (y := (⟨"java/lang/String", "length", "()I"⟩ : MethodName)) (rm_s_len hw r40 v'41 q'42 (own_X (own_mkl sn s0 s1 s2) (own_mkl rn c6 c13 c20)) cs h36 J37 P0 G_cs g44 g45 g46 g47) g44 (w170 hw) (w48 hw) (w50 hw) (w50 hw) (w49 hw) (w10 hw) (w51 hw) (by decide) (Nat.le_refl _) id (Nat.le_of_ble_eq_true rfl) (Nat.le_of_ble_eq_true rfl) rfl rfl (Nat.le_of_ble_eq_true rfl) (Nat.le_of_ble_eq_true rfl) rfl pd9 rfl rfl rfl (Nat.le_of_ble_eq_true rfl) at_473 rfl fun v108 h109 J110 hs111 hQ112 => ?_
        obtain ⟨rfl, rfl, rfl⟩ := hQ112
        show Wk _ h36 14 112 J37 476 #[.val (.int p1'), .val (.int p2'), .val (.int p3'), .val (.int p4'), .val (.int p5'), .val (.int (Int32.ofNat sn)), .val (.int s0), .val (.int s1), .val (.int s2), .val (.int (Int32.ofNat rn)), .val (.int c6), .val (.int c13), .val (.int c20), .val (.ref a1), .val (.ref a2), .val (.ref r40), .val (.int (1 : Int32)), .val (.int (Int32.ofNat ((sn + 8) + (own_esc c6).length)))] [(.int (Int32.ofNat (own_X (own_mkl sn s0 s1 s2) (own_mkl rn c6 c13 c20)).length))]
        refine Wk.iload (pc' := 478) at_476 rfl rfl ?_
        refine Wk.iconst (pc' := 479) (v := 1) at_478 rfl rfl ?_
        refine Wk.iadd (pc' := 480) at_479 rfl ?_
        refine Wk.icmp_neN (pc' := 483) at_480 rfl (by rw [hAll]; exact (own_addn _ 1).symm) ?_
        refine Wk.iconst (pc' := 484) (v := 1) at_483 rfl rfl ?_
        refine Wk.goto (pc' := 488) at_484 (by decide) ?_
        exact Wk.zreturn rfl (by simp) at_488 (Nat.le_of_ble_eq_true rfl) (Nat.le_of_ble_eq_true rfl) ⟨trivial, rfl⟩
      · skip
        refine Wk.iload (pc' := 406) at_404 rfl rfl ?_
        refine Wk.if_leN (pc' := 409) at_406 rfl (by rw [hR]; decide) ?_
        refine Wk.aload (pc' := 411) at_409 rfl rfl rfl ?_
        refine Wk.iload (pc' := 413) at_411 rfl rfl ?_
        refine Wk.iload (pc' := 415) at_413 rfl rfl ?_
        refine Wk.callS (a0 := a0) (pc' := 418) (k' := 14) (n' := 112) (W := 0) (b := b_stp) (argsL := [(.ref r40), (.int (Int32.ofNat (sn + 8))), (.int c6)]) (rest := []) (rm_stp hw r40 v'41 q'42 (own_X (own_mkl sn s0 s1 s2) (own_mkl rn c6 c13 c20)) (sn + 8) c6 cs sf ((own_mkl sn s0 s1 s2) ++ own_lit) (own_tail [c13]) h36 J37 P0 G_cs P2 G_sf g44 g45 g46 g47 hXl hXL (by rw [hXX, hR]; simp [own_mkl, own_tail]) (by simp only [List.length_append, hSl]; rfl)) (w203 hw) (w204 hw) (w2 hw) (w205 hw) (by decide) (Nat.le_refl _) id (Nat.le_of_ble_eq_true rfl) (Nat.le_of_ble_eq_true rfl) rfl rfl (Nat.le_of_ble_eq_true rfl) (Nat.le_of_ble_eq_true rfl) rfl pd29 rfl rfl rfl (Nat.le_of_ble_eq_true rfl) at_415 rfl fun v113 h114 J115 hs116 hQ117 => ?_
        obtain ⟨rfl, rfl, rfl⟩ := hQ117
        show Wk _ h36 14 112 J37 418 #[.val (.int p1'), .val (.int p2'), .val (.int p3'), .val (.int p4'), .val (.int p5'), .val (.int (Int32.ofNat sn)), .val (.int s0), .val (.int s1), .val (.int s2), .val (.int (Int32.ofNat rn)), .val (.int c6), .val (.int c13), .val (.int c20), .val (.ref a1), .val (.ref a2), .val (.ref r40), .val (.int (1 : Int32)), .val (.int (Int32.ofNat (sn + 8)))] [(.int (Int32.ofNat ((sn + 8) + (own_esc c6).length)))]
        refine Wk.istore (pc' := 420) #[.val (.int p1'), .val (.int p2'), .val (.int p3'), .val (.int p4'), .val (.int p5'), .val (.int (Int32.ofNat sn)), .val (.int s0), .val (.int s1), .val (.int s2), .val (.int (Int32.ofNat rn)), .val (.int c6), .val (.int c13), .val (.int c20), .val (.ref a1), .val (.ref a2), .val (.ref r40), .val (.int (1 : Int32)), .val (.int (Int32.ofNat ((sn + 8) + (own_esc c6).length)))] at_418 rfl rfl ?_
        refine Wk.iload (pc' := 422) at_420 rfl rfl ?_
        refine Wk.iconst (pc' := 423) (v := 1) at_422 rfl rfl ?_
        refine Wk.icmp_leN (pc' := 426) at_423 rfl (by rw [hR]; decide) ?_
        refine Wk.aload (pc' := 428) at_426 rfl rfl rfl ?_
        refine Wk.iload (pc' := 430) at_428 rfl rfl ?_
        refine Wk.iload (pc' := 432) at_430 rfl rfl ?_
        refine Wk.callS (a0 := a0) (pc' := 435) (k' := 14) (n' := 112) (W := 0) (b := b_stp) (argsL := [(.ref r40), (.int (Int32.ofNat ((sn + 8) + (own_esc c6).length))), (.int c13)]) (rest := []) (rm_stp hw r40 v'41 q'42 (own_X (own_mkl sn s0 s1 s2) (own_mkl rn c6 c13 c20)) ((sn + 8) + (own_esc c6).length) c13 cs sf ((own_mkl sn s0 s1 s2) ++ own_lit ++ own_esc c6) (own_tail []) h36 J37 P0 G_cs P2 G_sf g44 g45 g46 g47 hXl hXL (by rw [hXX, hR]; simp [own_mkl, own_tail]) (by simp only [List.length_append, hSl]; rfl)) (w203 hw) (w204 hw) (w2 hw) (w205 hw) (by decide) (Nat.le_refl _) id (Nat.le_of_ble_eq_true rfl) (Nat.le_of_ble_eq_true rfl) rfl rfl (Nat.le_of_ble_eq_true rfl) (Nat.le_of_ble_eq_true rfl) rfl pd29 rfl rfl rfl (Nat.le_of_ble_eq_true rfl) at_432 rfl fun v118 h119 J120 hs121 hQ122 => ?_
        obtain ⟨rfl, rfl, rfl⟩ := hQ122
        show Wk _ h36 14 112 J37 435 #[.val (.int p1'), .val (.int p2'), .val (.int p3'), .val (.int p4'), .val (.int p5'), .val (.int (Int32.ofNat sn)), .val (.int s0), .val (.int s1), .val (.int s2), .val (.int (Int32.ofNat rn)), .val (.int c6), .val (.int c13), .val (.int c20), .val (.ref a1), .val (.ref a2), .val (.ref r40), .val (.int (1 : Int32)), .val (.int (Int32.ofNat ((sn + 8) + (own_esc c6).length)))] [(.int (Int32.ofNat (((sn + 8) + (own_esc c6).length) + (own_esc c13).length)))]
        refine Wk.istore (pc' := 437) #[.val (.int p1'), .val (.int p2'), .val (.int p3'), .val (.int p4'), .val (.int p5'), .val (.int (Int32.ofNat sn)), .val (.int s0), .val (.int s1), .val (.int s2), .val (.int (Int32.ofNat rn)), .val (.int c6), .val (.int c13), .val (.int c20), .val (.ref a1), .val (.ref a2), .val (.ref r40), .val (.int (1 : Int32)), .val (.int (Int32.ofNat (((sn + 8) + (own_esc c6).length) + (own_esc c13).length)))] at_435 rfl rfl ?_
        refine Wk.iload (pc' := 439) at_437 rfl rfl ?_
        refine Wk.iconst (pc' := 440) (v := 2) at_439 rfl rfl ?_
        refine Wk.icmp_leY (pc' := 454) at_440 (by decide) (by rw [hR]; decide) ?_
        have hEnd : (own_X (own_mkl sn s0 s1 s2) (own_mkl rn c6 c13 c20)) = ((own_mkl sn s0 s1 s2) ++ own_lit ++ own_esc c6 ++ own_esc c13) ++ [34] := by rw [hXX, hR]; simp [own_mkl, own_tail]
        have hLen : ((own_mkl sn s0 s1 s2) ++ own_lit ++ own_esc c6 ++ own_esc c13).length = (((sn + 8) + (own_esc c6).length) + (own_esc c13).length) := (by simp only [List.length_append, hSl]; rfl)
        have hAll : (own_X (own_mkl sn s0 s1 s2) (own_mkl rn c6 c13 c20)).length = (((sn + 8) + (own_esc c6).length) + (own_esc c13).length) + 1 := by rw [hEnd, List.length_append, hLen]; rfl
        refine Wk.iload (pc' := 456) at_454 rfl rfl ?_
        refine Wk.if_eqN (pc' := 459) at_456 rfl (by decide) ?_
        refine Wk.aload (pc' := 461) at_459 rfl rfl rfl ?_
        refine Wk.iload (pc' := 463) at_461 rfl rfl ?_
        refine Wk.bipush (pc' := 465) (v := 34) at_463 rfl rfl ?_
        refine Wk.callS (a0 := a0) (pc' := 468) (k' := 14) (n' := 112) (W := 0) (b := b_at_) (argsL := [(.ref r40), (.int (Int32.ofNat (((sn + 8) + (own_esc c6).length) + (own_esc c13).length))), (.int (34 : Int32))]) (rest := []) (rm_at_ hw r40 v'41 q'42 (own_X (own_mkl sn s0 s1 s2) (own_mkl rn c6 c13 c20)) (((sn + 8) + (own_esc c6).length) + (own_esc c13).length) (34 : Int32) cs sf h36 J37 P0 G_cs P2 G_sf g44 g45 g46 g47 hXl hXL (by omega) (own_getA hEnd hLen)) (w167 hw) (w168 hw) (w2 hw) (w169 hw) (by decide) (Nat.le_refl _) id (Nat.le_of_ble_eq_true rfl) (Nat.le_of_ble_eq_true rfl) rfl rfl (Nat.le_of_ble_eq_true rfl) (Nat.le_of_ble_eq_true rfl) rfl pd27 rfl rfl rfl (Nat.le_of_ble_eq_true rfl) at_465 rfl fun v123 h124 J125 hs126 hQ127 => ?_
        obtain ⟨rfl, rfl, rfl⟩ := hQ127
        show Wk _ h36 14 112 J37 468 #[.val (.int p1'), .val (.int p2'), .val (.int p3'), .val (.int p4'), .val (.int p5'), .val (.int (Int32.ofNat sn)), .val (.int s0), .val (.int s1), .val (.int s2), .val (.int (Int32.ofNat rn)), .val (.int c6), .val (.int c13), .val (.int c20), .val (.ref a1), .val (.ref a2), .val (.ref r40), .val (.int (1 : Int32)), .val (.int (Int32.ofNat (((sn + 8) + (own_esc c6).length) + (own_esc c13).length)))] [(.int (1 : Int32))]
        refine Wk.if_eqN (pc' := 471) at_468 rfl (by decide) ?_
        refine Wk.aload (pc' := 473) at_471 rfl rfl rfl ?_
        refine Wk.callV (a0 := a0) (pc' := 476) (k' := 14) (n' := 112) (W := 0) (b := b_s_len) (argsL := []) (rest := []) (y := (⟨"java/lang/String", "length", "()I"⟩ : MethodName)) (rm_s_len hw r40 v'41 q'42 (own_X (own_mkl sn s0 s1 s2) (own_mkl rn c6 c13 c20)) cs h36 J37 P0 G_cs g44 g45 g46 g47) g44 (w170 hw) (w48 hw) (w50 hw) (w50 hw) (w49 hw) (w10 hw) (w51 hw) (by decide) (Nat.le_refl _) id (Nat.le_of_ble_eq_true rfl) (Nat.le_of_ble_eq_true rfl) rfl rfl (Nat.le_of_ble_eq_true rfl) (Nat.le_of_ble_eq_true rfl) rfl pd9 rfl rfl rfl (Nat.le_of_ble_eq_true rfl) at_473 rfl fun v128 h129 J130 hs131 hQ132 => ?_
        obtain ⟨rfl, rfl, rfl⟩ := hQ132
        show Wk _ h36 14 112 J37 476 #[.val (.int p1'), .val (.int p2'), .val (.int p3'), .val (.int p4'), .val (.int p5'), .val (.int (Int32.ofNat sn)), .val (.int s0), .val (.int s1), .val (.int s2), .val (.int (Int32.ofNat rn)), .val (.int c6), .val (.int c13), .val (.int c20), .val (.ref a1), .val (.ref a2), .val (.ref r40), .val (.int (1 : Int32)), .val (.int (Int32.ofNat (((sn + 8) + (own_esc c6).length) + (own_esc c13).length)))] [(.int (Int32.ofNat (own_X (own_mkl sn s0 s1 s2) (own_mkl rn c6 c13 c20)).length))]
        refine Wk.iload (pc' := 478) at_476 rfl rfl ?_
        refine Wk.iconst (pc' := 479) (v := 1) at_478 rfl rfl ?_
        refine Wk.iadd (pc' := 480) at_479 rfl ?_
        refine Wk.icmp_neN (pc' := 483) at_480 rfl (by rw [hAll]; exact (own_addn _ 1).symm) ?_
        refine Wk.iconst (pc' := 484) (v := 1) at_483 rfl rfl ?_
        refine Wk.goto (pc' := 488) at_484 (by decide) ?_
        exact Wk.zreturn rfl (by simp) at_488 (Nat.le_of_ble_eq_true rfl) (Nat.le_of_ble_eq_true rfl) ⟨trivial, rfl⟩
      · skip
        refine Wk.iload (pc' := 406) at_404 rfl rfl ?_
        refine Wk.if_leN (pc' := 409) at_406 rfl (by rw [hR]; decide) ?_
        refine Wk.aload (pc' := 411) at_409 rfl rfl rfl ?_
        refine Wk.iload (pc' := 413) at_411 rfl rfl ?_
        refine Wk.iload (pc' := 415) at_413 rfl rfl ?_
        refine Wk.callS (a0 := a0) (pc' := 418) (k' := 14) (n' := 112) (W := 0) (b := b_stp) (argsL := [(.ref r40), (.int (Int32.ofNat (sn + 8))), (.int c6)]) (rest := []) (rm_stp hw r40 v'41 q'42 (own_X (own_mkl sn s0 s1 s2) (own_mkl rn c6 c13 c20)) (sn + 8) c6 cs sf ((own_mkl sn s0 s1 s2) ++ own_lit) (own_tail [c13, c20]) h36 J37 P0 G_cs P2 G_sf g44 g45 g46 g47 hXl hXL (by rw [hXX, hR]; simp [own_mkl, own_tail]) (by simp only [List.length_append, hSl]; rfl)) (w203 hw) (w204 hw) (w2 hw) (w205 hw) (by decide) (Nat.le_refl _) id (Nat.le_of_ble_eq_true rfl) (Nat.le_of_ble_eq_true rfl) rfl rfl (Nat.le_of_ble_eq_true rfl) (Nat.le_of_ble_eq_true rfl) rfl pd29 rfl rfl rfl (Nat.le_of_ble_eq_true rfl) at_415 rfl fun v133 h134 J135 hs136 hQ137 => ?_
        obtain ⟨rfl, rfl, rfl⟩ := hQ137
        show Wk _ h36 14 112 J37 418 #[.val (.int p1'), .val (.int p2'), .val (.int p3'), .val (.int p4'), .val (.int p5'), .val (.int (Int32.ofNat sn)), .val (.int s0), .val (.int s1), .val (.int s2), .val (.int (Int32.ofNat rn)), .val (.int c6), .val (.int c13), .val (.int c20), .val (.ref a1), .val (.ref a2), .val (.ref r40), .val (.int (1 : Int32)), .val (.int (Int32.ofNat (sn + 8)))] [(.int (Int32.ofNat ((sn + 8) + (own_esc c6).length)))]
        refine Wk.istore (pc' := 420) #[.val (.int p1'), .val (.int p2'), .val (.int p3'), .val (.int p4'), .val (.int p5'), .val (.int (Int32.ofNat sn)), .val (.int s0), .val (.int s1), .val (.int s2), .val (.int (Int32.ofNat rn)), .val (.int c6), .val (.int c13), .val (.int c20), .val (.ref a1), .val (.ref a2), .val (.ref r40), .val (.int (1 : Int32)), .val (.int (Int32.ofNat ((sn + 8) + (own_esc c6).length)))] at_418 rfl rfl ?_
        refine Wk.iload (pc' := 422) at_420 rfl rfl ?_
        refine Wk.iconst (pc' := 423) (v := 1) at_422 rfl rfl ?_
        refine Wk.icmp_leN (pc' := 426) at_423 rfl (by rw [hR]; decide) ?_
        refine Wk.aload (pc' := 428) at_426 rfl rfl rfl ?_
        refine Wk.iload (pc' := 430) at_428 rfl rfl ?_
        refine Wk.iload (pc' := 432) at_430 rfl rfl ?_
        refine Wk.callS (a0 := a0) (pc' := 435) (k' := 14) (n' := 112) (W := 0) (b := b_stp) (argsL := [(.ref r40), (.int (Int32.ofNat ((sn + 8) + (own_esc c6).length))), (.int c13)]) (rest := []) (rm_stp hw r40 v'41 q'42 (own_X (own_mkl sn s0 s1 s2) (own_mkl rn c6 c13 c20)) ((sn + 8) + (own_esc c6).length) c13 cs sf ((own_mkl sn s0 s1 s2) ++ own_lit ++ own_esc c6) (own_tail [c20]) h36 J37 P0 G_cs P2 G_sf g44 g45 g46 g47 hXl hXL (by rw [hXX, hR]; simp [own_mkl, own_tail]) (by simp only [List.length_append, hSl]; rfl)) (w203 hw) (w204 hw) (w2 hw) (w205 hw) (by decide) (Nat.le_refl _) id (Nat.le_of_ble_eq_true rfl) (Nat.le_of_ble_eq_true rfl) rfl rfl (Nat.le_of_ble_eq_true rfl) (Nat.le_of_ble_eq_true rfl) rfl pd29 rfl rfl rfl (Nat.le_of_ble_eq_true rfl) at_432 rfl fun v138 h139 J140 hs141 hQ142 => ?_
        obtain ⟨rfl, rfl, rfl⟩ := hQ142
        show Wk _ h36 14 112 J37 435 #[.val (.int p1'), .val (.int p2'), .val (.int p3'), .val (.int p4'), .val (.int p5'), .val (.int (Int32.ofNat sn)), .val (.int s0), .val (.int s1), .val (.int s2), .val (.int (Int32.ofNat rn)), .val (.int c6), .val (.int c13), .val (.int c20), .val (.ref a1), .val (.ref a2), .val (.ref r40), .val (.int (1 : Int32)), .val (.int (Int32.ofNat ((sn + 8) + (own_esc c6).length)))] [(.int (Int32.ofNat (((sn + 8) + (own_esc c6).length) + (own_esc c13).length)))]
        refine Wk.istore (pc' := 437) #[.val (.int p1'), .val (.int p2'), .val (.int p3'), .val (.int p4'), .val (.int p5'), .val (.int (Int32.ofNat sn)), .val (.int s0), .val (.int s1), .val (.int s2), .val (.int (Int32.ofNat rn)), .val (.int c6), .val (.int c13), .val (.int c20), .val (.ref a1), .val (.ref a2), .val (.ref r40), .val (.int (1 : Int32)), .val (.int (Int32.ofNat (((sn + 8) + (own_esc c6).length) + (own_esc c13).length)))] at_435 rfl rfl ?_
        refine Wk.iload (pc' := 439) at_437 rfl rfl ?_
        refine Wk.iconst (pc' := 440) (v := 2) at_439 rfl rfl ?_
        refine Wk.icmp_leN (pc' := 443) at_440 rfl (by rw [hR]; decide) ?_
        refine Wk.aload (pc' := 445) at_443 rfl rfl rfl ?_
        refine Wk.iload (pc' := 447) at_445 rfl rfl ?_
        refine Wk.iload (pc' := 449) at_447 rfl rfl ?_
        refine Wk.callS (a0 := a0) (pc' := 452) (k' := 14) (n' := 112) (W := 0) (b := b_stp) (argsL := [(.ref r40), (.int (Int32.ofNat (((sn + 8) + (own_esc c6).length) + (own_esc c13).length))), (.int c20)]) (rest := []) (rm_stp hw r40 v'41 q'42 (own_X (own_mkl sn s0 s1 s2) (own_mkl rn c6 c13 c20)) (((sn + 8) + (own_esc c6).length) + (own_esc c13).length) c20 cs sf ((own_mkl sn s0 s1 s2) ++ own_lit ++ own_esc c6 ++ own_esc c13) (own_tail []) h36 J37 P0 G_cs P2 G_sf g44 g45 g46 g47 hXl hXL (by rw [hXX, hR]; simp [own_mkl, own_tail]) (by simp only [List.length_append, hSl]; rfl)) (w203 hw) (w204 hw) (w2 hw) (w205 hw) (by decide) (Nat.le_refl _) id (Nat.le_of_ble_eq_true rfl) (Nat.le_of_ble_eq_true rfl) rfl rfl (Nat.le_of_ble_eq_true rfl) (Nat.le_of_ble_eq_true rfl) rfl pd29 rfl rfl rfl (Nat.le_of_ble_eq_true rfl) at_449 rfl fun v143 h144 J145 hs146 hQ147 => ?_
        obtain ⟨rfl, rfl, rfl⟩ := hQ147
        show Wk _ h36 14 112 J37 452 #[.val (.int p1'), .val (.int p2'), .val (.int p3'), .val (.int p4'), .val (.int p5'), .val (.int (Int32.ofNat sn)), .val (.int s0), .val (.int s1), .val (.int s2), .val (.int (Int32.ofNat rn)), .val (.int c6), .val (.int c13), .val (.int c20), .val (.ref a1), .val (.ref a2), .val (.ref r40), .val (.int (1 : Int32)), .val (.int (Int32.ofNat (((sn + 8) + (own_esc c6).length) + (own_esc c13).length)))] [(.int (Int32.ofNat ((((sn + 8) + (own_esc c6).length) + (own_esc c13).length) + (own_esc c20).length)))]
        refine Wk.istore (pc' := 454) #[.val (.int p1'), .val (.int p2'), .val (.int p3'), .val (.int p4'), .val (.int p5'), .val (.int (Int32.ofNat sn)), .val (.int s0), .val (.int s1), .val (.int s2), .val (.int (Int32.ofNat rn)), .val (.int c6), .val (.int c13), .val (.int c20), .val (.ref a1), .val (.ref a2), .val (.ref r40), .val (.int (1 : Int32)), .val (.int (Int32.ofNat ((((sn + 8) + (own_esc c6).length) + (own_esc c13).length) + (own_esc c20).length)))] at_452 rfl rfl ?_
        have hEnd : (own_X (own_mkl sn s0 s1 s2) (own_mkl rn c6 c13 c20)) = ((own_mkl sn s0 s1 s2) ++ own_lit ++ own_esc c6 ++ own_esc c13 ++ own_esc c20) ++ [34] := by rw [hXX, hR]; simp [own_mkl, own_tail]
        have hLen : ((own_mkl sn s0 s1 s2) ++ own_lit ++ own_esc c6 ++ own_esc c13 ++ own_esc c20).length = ((((sn + 8) + (own_esc c6).length) + (own_esc c13).length) + (own_esc c20).length) := (by simp only [List.length_append, hSl]; rfl)
        have hAll : (own_X (own_mkl sn s0 s1 s2) (own_mkl rn c6 c13 c20)).length = ((((sn + 8) + (own_esc c6).length) + (own_esc c13).length) + (own_esc c20).length) + 1 := by rw [hEnd, List.length_append, hLen]; rfl
        refine Wk.iload (pc' := 456) at_454 rfl rfl ?_
        refine Wk.if_eqN (pc' := 459) at_456 rfl (by decide) ?_
        refine Wk.aload (pc' := 461) at_459 rfl rfl rfl ?_
        refine Wk.iload (pc' := 463) at_461 rfl rfl ?_
        refine Wk.bipush (pc' := 465) (v := 34) at_463 rfl rfl ?_
        refine Wk.callS (a0 := a0) (pc' := 468) (k' := 14) (n' := 112) (W := 0) (b := b_at_) (argsL := [(.ref r40), (.int (Int32.ofNat ((((sn + 8) + (own_esc c6).length) + (own_esc c13).length) + (own_esc c20).length))), (.int (34 : Int32))]) (rest := []) (rm_at_ hw r40 v'41 q'42 (own_X (own_mkl sn s0 s1 s2) (own_mkl rn c6 c13 c20)) ((((sn + 8) + (own_esc c6).length) + (own_esc c13).length) + (own_esc c20).length) (34 : Int32) cs sf h36 J37 P0 G_cs P2 G_sf g44 g45 g46 g47 hXl hXL (by omega) (own_getA hEnd hLen)) (w167 hw) (w168 hw) (w2 hw) (w169 hw) (by decide) (Nat.le_refl _) id (Nat.le_of_ble_eq_true rfl) (Nat.le_of_ble_eq_true rfl) rfl rfl (Nat.le_of_ble_eq_true rfl) (Nat.le_of_ble_eq_true rfl) rfl pd27 rfl rfl rfl (Nat.le_of_ble_eq_true rfl) at_465 rfl fun v148 h149 J150 hs151 hQ152 => ?_
        obtain ⟨rfl, rfl, rfl⟩ := hQ152
        show Wk _ h36 14 112 J37 468 #[.val (.int p1'), .val (.int p2'), .val (.int p3'), .val (.int p4'), .val (.int p5'), .val (.int (Int32.ofNat sn)), .val (.int s0), .val (.int s1), .val (.int s2), .val (.int (Int32.ofNat rn)), .val (.int c6), .val (.int c13), .val (.int c20), .val (.ref a1), .val (.ref a2), .val (.ref r40), .val (.int (1 : Int32)), .val (.int (Int32.ofNat ((((sn + 8) + (own_esc c6).length) + (own_esc c13).length) + (own_esc c20).length)))] [(.int (1 : Int32))]
        refine Wk.if_eqN (pc' := 471) at_468 rfl (by decide) ?_
        refine Wk.aload (pc' := 473) at_471 rfl rfl rfl ?_
        refine Wk.callV (a0 := a0) (pc' := 476) (k' := 14) (n' := 112) (W := 0) (b := b_s_len) (argsL := []) (rest := []) (y := (⟨"java/lang/String", "length", "()I"⟩ : MethodName)) (rm_s_len hw r40 v'41 q'42 (own_X (own_mkl sn s0 s1 s2) (own_mkl rn c6 c13 c20)) cs h36 J37 P0 G_cs g44 g45 g46 g47) g44 (w170 hw) (w48 hw) (w50 hw) (w50 hw) (w49 hw) (w10 hw) (w51 hw) (by decide) (Nat.le_refl _) id (Nat.le_of_ble_eq_true rfl) (Nat.le_of_ble_eq_true rfl) rfl rfl (Nat.le_of_ble_eq_true rfl) (Nat.le_of_ble_eq_true rfl) rfl pd9 rfl rfl rfl (Nat.le_of_ble_eq_true rfl) at_473 rfl fun v153 h154 J155 hs156 hQ157 => ?_
        obtain ⟨rfl, rfl, rfl⟩ := hQ157
        show Wk _ h36 14 112 J37 476 #[.val (.int p1'), .val (.int p2'), .val (.int p3'), .val (.int p4'), .val (.int p5'), .val (.int (Int32.ofNat sn)), .val (.int s0), .val (.int s1), .val (.int s2), .val (.int (Int32.ofNat rn)), .val (.int c6), .val (.int c13), .val (.int c20), .val (.ref a1), .val (.ref a2), .val (.ref r40), .val (.int (1 : Int32)), .val (.int (Int32.ofNat ((((sn + 8) + (own_esc c6).length) + (own_esc c13).length) + (own_esc c20).length)))] [(.int (Int32.ofNat (own_X (own_mkl sn s0 s1 s2) (own_mkl rn c6 c13 c20)).length))]
        refine Wk.iload (pc' := 478) at_476 rfl rfl ?_
        refine Wk.iconst (pc' := 479) (v := 1) at_478 rfl rfl ?_
        refine Wk.iadd (pc' := 480) at_479 rfl ?_
        refine Wk.icmp_neN (pc' := 483) at_480 rfl (by rw [hAll]; exact (own_addn _ 1).symm) ?_
        refine Wk.iconst (pc' := 484) (v := 1) at_483 rfl rfl ?_
        refine Wk.goto (pc' := 488) at_484 (by decide) ?_
        exact Wk.zreturn rfl (by simp) at_488 (Nat.le_of_ble_eq_true rfl) (Nat.le_of_ble_eq_true rfl) ⟨trivial, rfl⟩
    rcases (show sn = 0 ∨ sn = 1 ∨ sn = 2 ∨ sn = 3 by omega) with hS | hS | hS | hS
    · skip
      refine Wk.iload (pc' := 101) at_99 rfl rfl ?_
      refine Wk.if_leY (pc' := 127) at_101 (by decide) (by rw [hS]; decide) ?_
      refine Wk.iload (pc' := 129) at_127 rfl rfl ?_
      refine Wk.iconst (pc' := 130) (v := 1) at_129 rfl rfl ?_
      refine Wk.icmp_leY (pc' := 156) at_130 (by decide) (by rw [hS]; decide) ?_
      refine Wk.iload (pc' := 158) at_156 rfl rfl ?_
      refine Wk.iconst (pc' := 159) (v := 2) at_158 rfl rfl ?_
      refine Wk.icmp_leY (pc' := 185) at_159 (by decide) (by rw [hS]; decide) ?_
      exact J185 ()
    · skip
      refine Wk.iload (pc' := 101) at_99 rfl rfl ?_
      refine Wk.if_leN (pc' := 104) at_101 rfl (by rw [hS]; decide) ?_
      refine Wk.iload (pc' := 106) at_104 rfl rfl ?_
      refine Wk.if_eqN (pc' := 109) at_106 rfl (by decide) ?_
      refine Wk.aload (pc' := 111) at_109 rfl rfl rfl ?_
      refine Wk.iconst (pc' := 112) (v := 0) at_111 rfl rfl ?_
      refine Wk.iload (pc' := 114) at_112 rfl rfl ?_
      refine Wk.callS (a0 := a0) (pc' := 117) (k' := 14) (n' := 112) (W := 0) (b := b_at_) (argsL := [(.ref r40), (.int (0 : Int32)), (.int s0)]) (rest := []) (rm_at_ hw r40 v'41 q'42 (own_X (own_mkl sn s0 s1 s2) (own_mkl rn c6 c13 c20)) 0 s0 cs sf h36 J37 P0 G_cs P2 G_sf g44 g45 g46 g47 hXl hXL (by omega) (by rw [hXX, hS]; rfl)) (w167 hw) (w168 hw) (w2 hw) (w169 hw) (by decide) (Nat.le_refl _) id (Nat.le_of_ble_eq_true rfl) (Nat.le_of_ble_eq_true rfl) rfl rfl (Nat.le_of_ble_eq_true rfl) (Nat.le_of_ble_eq_true rfl) rfl pd27 rfl rfl rfl (Nat.le_of_ble_eq_true rfl) at_114 rfl fun v158 h159 J160 hs161 hQ162 => ?_
      obtain ⟨rfl, rfl, rfl⟩ := hQ162
      show Wk _ h36 14 112 J37 117 #[.val (.int p1'), .val (.int p2'), .val (.int p3'), .val (.int p4'), .val (.int p5'), .val (.int (Int32.ofNat sn)), .val (.int s0), .val (.int s1), .val (.int s2), .val (.int (Int32.ofNat rn)), .val (.int c6), .val (.int c13), .val (.int c20), .val (.ref a1), .val (.ref a2), .val (.ref r40), .val (.int (1 : Int32)), .unset] [(.int (1 : Int32))]
      refine Wk.if_eqN (pc' := 120) at_117 rfl (by decide) ?_
      refine Wk.iconst (pc' := 121) (v := 1) at_120 rfl rfl ?_
      refine Wk.goto (pc' := 125) at_121 (by decide) ?_
      refine Wk.istore (pc' := 127) #[.val (.int p1'), .val (.int p2'), .val (.int p3'), .val (.int p4'), .val (.int p5'), .val (.int (Int32.ofNat sn)), .val (.int s0), .val (.int s1), .val (.int s2), .val (.int (Int32.ofNat rn)), .val (.int c6), .val (.int c13), .val (.int c20), .val (.ref a1), .val (.ref a2), .val (.ref r40), .val (.int (1 : Int32)), .unset] at_125 rfl rfl ?_
      refine Wk.iload (pc' := 129) at_127 rfl rfl ?_
      refine Wk.iconst (pc' := 130) (v := 1) at_129 rfl rfl ?_
      refine Wk.icmp_leY (pc' := 156) at_130 (by decide) (by rw [hS]; decide) ?_
      refine Wk.iload (pc' := 158) at_156 rfl rfl ?_
      refine Wk.iconst (pc' := 159) (v := 2) at_158 rfl rfl ?_
      refine Wk.icmp_leY (pc' := 185) at_159 (by decide) (by rw [hS]; decide) ?_
      exact J185 ()
    · skip
      refine Wk.iload (pc' := 101) at_99 rfl rfl ?_
      refine Wk.if_leN (pc' := 104) at_101 rfl (by rw [hS]; decide) ?_
      refine Wk.iload (pc' := 106) at_104 rfl rfl ?_
      refine Wk.if_eqN (pc' := 109) at_106 rfl (by decide) ?_
      refine Wk.aload (pc' := 111) at_109 rfl rfl rfl ?_
      refine Wk.iconst (pc' := 112) (v := 0) at_111 rfl rfl ?_
      refine Wk.iload (pc' := 114) at_112 rfl rfl ?_
      refine Wk.callS (a0 := a0) (pc' := 117) (k' := 14) (n' := 112) (W := 0) (b := b_at_) (argsL := [(.ref r40), (.int (0 : Int32)), (.int s0)]) (rest := []) (rm_at_ hw r40 v'41 q'42 (own_X (own_mkl sn s0 s1 s2) (own_mkl rn c6 c13 c20)) 0 s0 cs sf h36 J37 P0 G_cs P2 G_sf g44 g45 g46 g47 hXl hXL (by omega) (by rw [hXX, hS]; rfl)) (w167 hw) (w168 hw) (w2 hw) (w169 hw) (by decide) (Nat.le_refl _) id (Nat.le_of_ble_eq_true rfl) (Nat.le_of_ble_eq_true rfl) rfl rfl (Nat.le_of_ble_eq_true rfl) (Nat.le_of_ble_eq_true rfl) rfl pd27 rfl rfl rfl (Nat.le_of_ble_eq_true rfl) at_114 rfl fun v163 h164 J165 hs166 hQ167 => ?_
      obtain ⟨rfl, rfl, rfl⟩ := hQ167
      show Wk _ h36 14 112 J37 117 #[.val (.int p1'), .val (.int p2'), .val (.int p3'), .val (.int p4'), .val (.int p5'), .val (.int (Int32.ofNat sn)), .val (.int s0), .val (.int s1), .val (.int s2), .val (.int (Int32.ofNat rn)), .val (.int c6), .val (.int c13), .val (.int c20), .val (.ref a1), .val (.ref a2), .val (.ref r40), .val (.int (1 : Int32)), .unset] [(.int (1 : Int32))]
      refine Wk.if_eqN (pc' := 120) at_117 rfl (by decide) ?_
      refine Wk.iconst (pc' := 121) (v := 1) at_120 rfl rfl ?_
      refine Wk.goto (pc' := 125) at_121 (by decide) ?_
      refine Wk.istore (pc' := 127) #[.val (.int p1'), .val (.int p2'), .val (.int p3'), .val (.int p4'), .val (.int p5'), .val (.int (Int32.ofNat sn)), .val (.int s0), .val (.int s1), .val (.int s2), .val (.int (Int32.ofNat rn)), .val (.int c6), .val (.int c13), .val (.int c20), .val (.ref a1), .val (.ref a2), .val (.ref r40), .val (.int (1 : Int32)), .unset] at_125 rfl rfl ?_
      refine Wk.iload (pc' := 129) at_127 rfl rfl ?_
      refine Wk.iconst (pc' := 130) (v := 1) at_129 rfl rfl ?_
      refine Wk.icmp_leN (pc' := 133) at_130 rfl (by rw [hS]; decide) ?_
      refine Wk.iload (pc' := 135) at_133 rfl rfl ?_
      refine Wk.if_eqN (pc' := 138) at_135 rfl (by decide) ?_
      refine Wk.aload (pc' := 140) at_138 rfl rfl rfl ?_
      refine Wk.iconst (pc' := 141) (v := 1) at_140 rfl rfl ?_
      refine Wk.iload (pc' := 143) at_141 rfl rfl ?_
      refine Wk.callS (a0 := a0) (pc' := 146) (k' := 14) (n' := 112) (W := 0) (b := b_at_) (argsL := [(.ref r40), (.int (1 : Int32)), (.int s1)]) (rest := []) (rm_at_ hw r40 v'41 q'42 (own_X (own_mkl sn s0 s1 s2) (own_mkl rn c6 c13 c20)) 1 s1 cs sf h36 J37 P0 G_cs P2 G_sf g44 g45 g46 g47 hXl hXL (by omega) (by rw [hXX, hS]; rfl)) (w167 hw) (w168 hw) (w2 hw) (w169 hw) (by decide) (Nat.le_refl _) id (Nat.le_of_ble_eq_true rfl) (Nat.le_of_ble_eq_true rfl) rfl rfl (Nat.le_of_ble_eq_true rfl) (Nat.le_of_ble_eq_true rfl) rfl pd27 rfl rfl rfl (Nat.le_of_ble_eq_true rfl) at_143 rfl fun v168 h169 J170 hs171 hQ172 => ?_
      obtain ⟨rfl, rfl, rfl⟩ := hQ172
      show Wk _ h36 14 112 J37 146 #[.val (.int p1'), .val (.int p2'), .val (.int p3'), .val (.int p4'), .val (.int p5'), .val (.int (Int32.ofNat sn)), .val (.int s0), .val (.int s1), .val (.int s2), .val (.int (Int32.ofNat rn)), .val (.int c6), .val (.int c13), .val (.int c20), .val (.ref a1), .val (.ref a2), .val (.ref r40), .val (.int (1 : Int32)), .unset] [(.int (1 : Int32))]
      refine Wk.if_eqN (pc' := 149) at_146 rfl (by decide) ?_
      refine Wk.iconst (pc' := 150) (v := 1) at_149 rfl rfl ?_
      refine Wk.goto (pc' := 154) at_150 (by decide) ?_
      refine Wk.istore (pc' := 156) #[.val (.int p1'), .val (.int p2'), .val (.int p3'), .val (.int p4'), .val (.int p5'), .val (.int (Int32.ofNat sn)), .val (.int s0), .val (.int s1), .val (.int s2), .val (.int (Int32.ofNat rn)), .val (.int c6), .val (.int c13), .val (.int c20), .val (.ref a1), .val (.ref a2), .val (.ref r40), .val (.int (1 : Int32)), .unset] at_154 rfl rfl ?_
      refine Wk.iload (pc' := 158) at_156 rfl rfl ?_
      refine Wk.iconst (pc' := 159) (v := 2) at_158 rfl rfl ?_
      refine Wk.icmp_leY (pc' := 185) at_159 (by decide) (by rw [hS]; decide) ?_
      exact J185 ()
    · skip
      refine Wk.iload (pc' := 101) at_99 rfl rfl ?_
      refine Wk.if_leN (pc' := 104) at_101 rfl (by rw [hS]; decide) ?_
      refine Wk.iload (pc' := 106) at_104 rfl rfl ?_
      refine Wk.if_eqN (pc' := 109) at_106 rfl (by decide) ?_
      refine Wk.aload (pc' := 111) at_109 rfl rfl rfl ?_
      refine Wk.iconst (pc' := 112) (v := 0) at_111 rfl rfl ?_
      refine Wk.iload (pc' := 114) at_112 rfl rfl ?_
      refine Wk.callS (a0 := a0) (pc' := 117) (k' := 14) (n' := 112) (W := 0) (b := b_at_) (argsL := [(.ref r40), (.int (0 : Int32)), (.int s0)]) (rest := []) (rm_at_ hw r40 v'41 q'42 (own_X (own_mkl sn s0 s1 s2) (own_mkl rn c6 c13 c20)) 0 s0 cs sf h36 J37 P0 G_cs P2 G_sf g44 g45 g46 g47 hXl hXL (by omega) (by rw [hXX, hS]; rfl)) (w167 hw) (w168 hw) (w2 hw) (w169 hw) (by decide) (Nat.le_refl _) id (Nat.le_of_ble_eq_true rfl) (Nat.le_of_ble_eq_true rfl) rfl rfl (Nat.le_of_ble_eq_true rfl) (Nat.le_of_ble_eq_true rfl) rfl pd27 rfl rfl rfl (Nat.le_of_ble_eq_true rfl) at_114 rfl fun v173 h174 J175 hs176 hQ177 => ?_
      obtain ⟨rfl, rfl, rfl⟩ := hQ177
      show Wk _ h36 14 112 J37 117 #[.val (.int p1'), .val (.int p2'), .val (.int p3'), .val (.int p4'), .val (.int p5'), .val (.int (Int32.ofNat sn)), .val (.int s0), .val (.int s1), .val (.int s2), .val (.int (Int32.ofNat rn)), .val (.int c6), .val (.int c13), .val (.int c20), .val (.ref a1), .val (.ref a2), .val (.ref r40), .val (.int (1 : Int32)), .unset] [(.int (1 : Int32))]
      refine Wk.if_eqN (pc' := 120) at_117 rfl (by decide) ?_
      refine Wk.iconst (pc' := 121) (v := 1) at_120 rfl rfl ?_
      refine Wk.goto (pc' := 125) at_121 (by decide) ?_
      refine Wk.istore (pc' := 127) #[.val (.int p1'), .val (.int p2'), .val (.int p3'), .val (.int p4'), .val (.int p5'), .val (.int (Int32.ofNat sn)), .val (.int s0), .val (.int s1), .val (.int s2), .val (.int (Int32.ofNat rn)), .val (.int c6), .val (.int c13), .val (.int c20), .val (.ref a1), .val (.ref a2), .val (.ref r40), .val (.int (1 : Int32)), .unset] at_125 rfl rfl ?_
      refine Wk.iload (pc' := 129) at_127 rfl rfl ?_
      refine Wk.iconst (pc' := 130) (v := 1) at_129 rfl rfl ?_
      refine Wk.icmp_leN (pc' := 133) at_130 rfl (by rw [hS]; decide) ?_
      refine Wk.iload (pc' := 135) at_133 rfl rfl ?_
      refine Wk.if_eqN (pc' := 138) at_135 rfl (by decide) ?_
      refine Wk.aload (pc' := 140) at_138 rfl rfl rfl ?_
      refine Wk.iconst (pc' := 141) (v := 1) at_140 rfl rfl ?_
      refine Wk.iload (pc' := 143) at_141 rfl rfl ?_
      refine Wk.callS (a0 := a0) (pc' := 146) (k' := 14) (n' := 112) (W := 0) (b := b_at_) (argsL := [(.ref r40), (.int (1 : Int32)), (.int s1)]) (rest := []) (rm_at_ hw r40 v'41 q'42 (own_X (own_mkl sn s0 s1 s2) (own_mkl rn c6 c13 c20)) 1 s1 cs sf h36 J37 P0 G_cs P2 G_sf g44 g45 g46 g47 hXl hXL (by omega) (by rw [hXX, hS]; rfl)) (w167 hw) (w168 hw) (w2 hw) (w169 hw) (by decide) (Nat.le_refl _) id (Nat.le_of_ble_eq_true rfl) (Nat.le_of_ble_eq_true rfl) rfl rfl (Nat.le_of_ble_eq_true rfl) (Nat.le_of_ble_eq_true rfl) rfl pd27 rfl rfl rfl (Nat.le_of_ble_eq_true rfl) at_143 rfl fun v178 h179 J180 hs181 hQ182 => ?_
      obtain ⟨rfl, rfl, rfl⟩ := hQ182
      show Wk _ h36 14 112 J37 146 #[.val (.int p1'), .val (.int p2'), .val (.int p3'), .val (.int p4'), .val (.int p5'), .val (.int (Int32.ofNat sn)), .val (.int s0), .val (.int s1), .val (.int s2), .val (.int (Int32.ofNat rn)), .val (.int c6), .val (.int c13), .val (.int c20), .val (.ref a1), .val (.ref a2), .val (.ref r40), .val (.int (1 : Int32)), .unset] [(.int (1 : Int32))]
      refine Wk.if_eqN (pc' := 149) at_146 rfl (by decide) ?_
      refine Wk.iconst (pc' := 150) (v := 1) at_149 rfl rfl ?_
      refine Wk.goto (pc' := 154) at_150 (by decide) ?_
      refine Wk.istore (pc' := 156) #[.val (.int p1'), .val (.int p2'), .val (.int p3'), .val (.int p4'), .val (.int p5'), .val (.int (Int32.ofNat sn)), .val (.int s0), .val (.int s1), .val (.int s2), .val (.int (Int32.ofNat rn)), .val (.int c6), .val (.int c13), .val (.int c20), .val (.ref a1), .val (.ref a2), .val (.ref r40), .val (.int (1 : Int32)), .unset] at_154 rfl rfl ?_
      refine Wk.iload (pc' := 158) at_156 rfl rfl ?_
      refine Wk.iconst (pc' := 159) (v := 2) at_158 rfl rfl ?_
      refine Wk.icmp_leN (pc' := 162) at_159 rfl (by rw [hS]; decide) ?_
      refine Wk.iload (pc' := 164) at_162 rfl rfl ?_
      refine Wk.if_eqN (pc' := 167) at_164 rfl (by decide) ?_
      refine Wk.aload (pc' := 169) at_167 rfl rfl rfl ?_
      refine Wk.iconst (pc' := 170) (v := 2) at_169 rfl rfl ?_
      refine Wk.iload (pc' := 172) at_170 rfl rfl ?_
      refine Wk.callS (a0 := a0) (pc' := 175) (k' := 14) (n' := 112) (W := 0) (b := b_at_) (argsL := [(.ref r40), (.int (2 : Int32)), (.int s2)]) (rest := []) (rm_at_ hw r40 v'41 q'42 (own_X (own_mkl sn s0 s1 s2) (own_mkl rn c6 c13 c20)) 2 s2 cs sf h36 J37 P0 G_cs P2 G_sf g44 g45 g46 g47 hXl hXL (by omega) (by rw [hXX, hS]; rfl)) (w167 hw) (w168 hw) (w2 hw) (w169 hw) (by decide) (Nat.le_refl _) id (Nat.le_of_ble_eq_true rfl) (Nat.le_of_ble_eq_true rfl) rfl rfl (Nat.le_of_ble_eq_true rfl) (Nat.le_of_ble_eq_true rfl) rfl pd27 rfl rfl rfl (Nat.le_of_ble_eq_true rfl) at_172 rfl fun v183 h184 J185 hs186 hQ187 => ?_
      obtain ⟨rfl, rfl, rfl⟩ := hQ187
      show Wk _ h36 14 112 J37 175 #[.val (.int p1'), .val (.int p2'), .val (.int p3'), .val (.int p4'), .val (.int p5'), .val (.int (Int32.ofNat sn)), .val (.int s0), .val (.int s1), .val (.int s2), .val (.int (Int32.ofNat rn)), .val (.int c6), .val (.int c13), .val (.int c20), .val (.ref a1), .val (.ref a2), .val (.ref r40), .val (.int (1 : Int32)), .unset] [(.int (1 : Int32))]
      refine Wk.if_eqN (pc' := 178) at_175 rfl (by decide) ?_
      refine Wk.iconst (pc' := 179) (v := 1) at_178 rfl rfl ?_
      refine Wk.goto (pc' := 183) at_179 (by decide) ?_
      refine Wk.istore (pc' := 185) #[.val (.int p1'), .val (.int p2'), .val (.int p3'), .val (.int p4'), .val (.int p5'), .val (.int (Int32.ofNat sn)), .val (.int s0), .val (.int s1), .val (.int s2), .val (.int (Int32.ofNat rn)), .val (.int c6), .val (.int c13), .val (.int c20), .val (.ref a1), .val (.ref a2), .val (.ref r40), .val (.int (1 : Int32)), .unset] at_183 rfl rfl ?_
      exact J185 ()
  refine Wk.iload (pc' := 63) at_61 rfl rfl ?_
  refine Wk.iload (pc' := 65) at_63 rfl rfl ?_
  refine Wk.iload (pc' := 67) at_65 rfl rfl ?_
  refine Wk.iload (pc' := 69) at_67 rfl rfl ?_
  by_cases hq1 : sn = 0
  · skip
    refine Wk.callS (a0 := a0) (pc' := 72) (k' := 4) (n' := 8) (W := 0) (b := b_mka) (argsL := [(.int (Int32.ofNat sn)), (.int s0), (.int s1), (.int s2)]) (rest := []) (rm_mka hw sn s0 s1 s2 [] [] h0  hq1 (by simp) G_h7 G_cw) (w5 hw) (w6 hw) (w2 hw) (w7 hw) (by decide) (Nat.le_refl _) id (Nat.le_of_ble_eq_true rfl) (Nat.le_of_ble_eq_true rfl) rfl rfl (Nat.le_of_ble_eq_true rfl) (Nat.le_of_ble_eq_true rfl) rfl pd30 rfl rfl rfl (Nat.le_of_ble_eq_true rfl) at_69 rfl fun v188 h189 J190 hs191 hQ192 => ?_
    obtain ⟨r193, al194, bl195, ql196, rfl, rfl, E197, g198, g199, g200, g201, g202, g203, g204, g205⟩ := hQ192
    show Wk _ h189 4 8 (some (("" :: []), [("java/lang/String", 7, al194)])) 72 #[.val (.int p1'), .val (.int p2'), .val (.int p3'), .val (.int p4'), .val (.int p5'), .val (.int (Int32.ofNat sn)), .val (.int s0), .val (.int s1), .val (.int s2), .val (.int (Int32.ofNat rn)), .val (.int c6), .val (.int c13), .val (.int c20), .unset, .unset, .unset, .unset, .unset] [(.ref r193)]
    refine Wk.astore (pc' := 74) #[.val (.int p1'), .val (.int p2'), .val (.int p3'), .val (.int p4'), .val (.int p5'), .val (.int (Int32.ofNat sn)), .val (.int s0), .val (.int s1), .val (.int s2), .val (.int (Int32.ofNat rn)), .val (.int c6), .val (.int c13), .val (.int c20), .val (.ref r193), .unset, .unset, .unset, .unset] at_72 rfl rfl rfl ?_
    refine Wk.iload (pc' := 76) at_74 rfl rfl ?_
    refine Wk.iload (pc' := 78) at_76 rfl rfl ?_
    refine Wk.iload (pc' := 80) at_78 rfl rfl ?_
    refine Wk.iload (pc' := 82) at_80 rfl rfl ?_
    by_cases hq2 : rn = 0
    · skip
      refine Wk.callS (a0 := a0) (pc' := 85) (k' := 6) (n' := 12) (W := 0) (b := b_mkb) (argsL := [(.int (Int32.ofNat rn)), (.int c6), (.int c13), (.int c20)]) (rest := []) (rm_mkb hw rn c6 c13 c20 al194 bl195 ql196 ("" :: []) [("java/lang/String", 7, al194)] h189  hq2 g202 g203 g204 g205 (List.mem_singleton.mpr rfl)) (w5 hw) (w6 hw) (w2 hw) (w7 hw) (by decide) (Nat.le_refl _) id (Nat.le_of_ble_eq_true rfl) (Nat.le_of_ble_eq_true rfl) rfl rfl (Nat.le_of_ble_eq_true rfl) (Nat.le_of_ble_eq_true rfl) rfl pd30 rfl rfl rfl (Nat.le_of_ble_eq_true rfl) at_82 rfl fun v206 h207 J208 hs209 hQ210 => ?_
      obtain ⟨r211, rfl, rfl, E212, g213, g214, g215, g216⟩ := hQ210
      have ne217 : r193 ≠ r211 := Nat.ne_of_lt (Nat.lt_of_lt_of_le g199.lt g213)
      have ne218 : al194 ≠ r211 := Nat.ne_of_lt (Nat.lt_of_lt_of_le g202.lt g213)
      have ne219 : bl195 ≠ r211 := Nat.ne_of_lt (Nat.lt_of_lt_of_le g205.lt g213)
      show Wk _ h207 6 12 (some (("" :: []), [("java/lang/String", 7, al194)])) 85 #[.val (.int p1'), .val (.int p2'), .val (.int p3'), .val (.int p4'), .val (.int p5'), .val (.int (Int32.ofNat sn)), .val (.int s0), .val (.int s1), .val (.int s2), .val (.int (Int32.ofNat rn)), .val (.int c6), .val (.int c13), .val (.int c20), .val (.ref r193), .unset, .unset, .unset, .unset] [(.ref r211)]
      refine Wk.astore (pc' := 87) #[.val (.int p1'), .val (.int p2'), .val (.int p3'), .val (.int p4'), .val (.int p5'), .val (.int (Int32.ofNat sn)), .val (.int s0), .val (.int s1), .val (.int s2), .val (.int (Int32.ofNat rn)), .val (.int c6), .val (.int c13), .val (.int c20), .val (.ref r193), .val (.ref r211), .unset, .unset, .unset] at_85 rfl rfl rfl ?_
      have f220 := (g200.ext E212)
      have f221 := (g205.ext E212)
      have f222 := (g199.ext E212)
      have f223 := (g201.ext E212)
      have A224 : Arv Z h207 bl195 ql196 .byte (Int32.ofNat (own_mkl sn s0 s1 s2).length) ((own_mkl sn s0 s1 s2).map own_by) (.int (0 : Int32)) := by rw [show (own_mkl sn s0 s1 s2) = [] from by rw [hq1]; rfl]; exact f221
      have A225 : Arv Z h207 bl195 ql196 .byte (Int32.ofNat (own_mkl rn c6 c13 c20).length) ((own_mkl rn c6 c13 c20).map own_by) (.int (0 : Int32)) := by rw [show (own_mkl rn c6 c13 c20) = [] from by rw [hq2]; rfl]; exact f221
      refine Wk.more (k' := 8) (n' := 20) (Nat.le_of_ble_eq_true rfl) (Nat.le_of_ble_eq_true rfl) ?_
      exact J87 r193 bl195 ql196 r211 bl195 ql196 _ _ h207 f222 f220 f223 A224 g214 g215 g216 A225 (by simp) (((Keep.refl h0 []).ext E197).ext E212)
    · skip
      refine Wk.callS (a0 := a0) (pc' := 85) (k' := 7) (n' := 18) (W := 0) (b := b_mkc) (argsL := [(.int (Int32.ofNat rn)), (.int c6), (.int c13), (.int c20)]) (rest := []) (rm_mkc hw rn c6 c13 c20 cs h189 (some (("" :: []), [("java/lang/String", 7, al194)])) P0 G_cs hq2 hrn (own_pc g7) (own_pc g14) (own_pc g21)) (w5 hw) (w6 hw) (w2 hw) (w7 hw) (by decide) (Nat.le_refl _) id (Nat.le_of_ble_eq_true rfl) (Nat.le_of_ble_eq_true rfl) rfl rfl (Nat.le_of_ble_eq_true rfl) (Nat.le_of_ble_eq_true rfl) rfl pd30 rfl rfl rfl (Nat.le_of_ble_eq_true rfl) at_82 rfl fun v226 h227 J228 hs229 hQ230 => ?_
      obtain ⟨r231, v'232, q'233, rfl, rfl, E234, g235, g236, g237, g238, g239⟩ := hQ230
      have ne240 : r193 ≠ r231 := Nat.ne_of_lt (Nat.lt_of_lt_of_le g199.lt g235)
      have ne241 : al194 ≠ r231 := Nat.ne_of_lt (Nat.lt_of_lt_of_le g202.lt g235)
      have ne242 : bl195 ≠ r231 := Nat.ne_of_lt (Nat.lt_of_lt_of_le g205.lt g235)
      show Wk _ h227 7 18 (some (("" :: []), [("java/lang/String", 7, al194)])) 85 #[.val (.int p1'), .val (.int p2'), .val (.int p3'), .val (.int p4'), .val (.int p5'), .val (.int (Int32.ofNat sn)), .val (.int s0), .val (.int s1), .val (.int s2), .val (.int (Int32.ofNat rn)), .val (.int c6), .val (.int c13), .val (.int c20), .val (.ref r193), .unset, .unset, .unset, .unset] [(.ref r231)]
      refine Wk.astore (pc' := 87) #[.val (.int p1'), .val (.int p2'), .val (.int p3'), .val (.int p4'), .val (.int p5'), .val (.int (Int32.ofNat sn)), .val (.int s0), .val (.int s1), .val (.int s2), .val (.int (Int32.ofNat rn)), .val (.int c6), .val (.int c13), .val (.int c20), .val (.ref r193), .val (.ref r231), .unset, .unset, .unset] at_85 rfl rfl rfl ?_
      have f243 := (g200.ext E234)
      have f244 := (g205.ext E234)
      have f245 := (g199.ext E234)
      have f246 := (g201.ext E234)
      have A247 : Arv Z h227 bl195 ql196 .byte (Int32.ofNat (own_mkl sn s0 s1 s2).length) ((own_mkl sn s0 s1 s2).map own_by) (.int (0 : Int32)) := by rw [show (own_mkl sn s0 s1 s2) = [] from by rw [hq1]; rfl]; exact f244
      refine Wk.more (k' := 8) (n' := 20) (Nat.le_of_ble_eq_true rfl) (Nat.le_of_ble_eq_true rfl) ?_
      exact J87 r193 bl195 ql196 r231 v'232 q'233 _ _ h227 f245 f243 f246 A247 g236 g237 g238 g239 (by simp) (((Keep.refl h0 []).ext E197).ext E234)
  · skip
    refine Wk.callS (a0 := a0) (pc' := 72) (k' := 3) (n' := 10) (W := 0) (b := b_mkc) (argsL := [(.int (Int32.ofNat sn)), (.int s0), (.int s1), (.int s2)]) (rest := []) (rm_mkc hw sn s0 s1 s2 cs h0 (some ([], [])) P0 G_cs hq1 hsn hs0 hs1 hs2) (w5 hw) (w6 hw) (w2 hw) (w7 hw) (by decide) (Nat.le_refl _) id (Nat.le_of_ble_eq_true rfl) (Nat.le_of_ble_eq_true rfl) rfl rfl (Nat.le_of_ble_eq_true rfl) (Nat.le_of_ble_eq_true rfl) rfl pd30 rfl rfl rfl (Nat.le_of_ble_eq_true rfl) at_69 rfl fun v248 h249 J250 hs251 hQ252 => ?_
    obtain ⟨r253, v'254, q'255, rfl, rfl, E256, g257, g258, g259, g260, g261⟩ := hQ252
    show Wk _ h249 3 10 (some ([], [])) 72 #[.val (.int p1'), .val (.int p2'), .val (.int p3'), .val (.int p4'), .val (.int p5'), .val (.int (Int32.ofNat sn)), .val (.int s0), .val (.int s1), .val (.int s2), .val (.int (Int32.ofNat rn)), .val (.int c6), .val (.int c13), .val (.int c20), .unset, .unset, .unset, .unset, .unset] [(.ref r253)]
    refine Wk.astore (pc' := 74) #[.val (.int p1'), .val (.int p2'), .val (.int p3'), .val (.int p4'), .val (.int p5'), .val (.int (Int32.ofNat sn)), .val (.int s0), .val (.int s1), .val (.int s2), .val (.int (Int32.ofNat rn)), .val (.int c6), .val (.int c13), .val (.int c20), .val (.ref r253), .unset, .unset, .unset, .unset] at_72 rfl rfl rfl ?_
    refine Wk.iload (pc' := 76) at_74 rfl rfl ?_
    refine Wk.iload (pc' := 78) at_76 rfl rfl ?_
    refine Wk.iload (pc' := 80) at_78 rfl rfl ?_
    refine Wk.iload (pc' := 82) at_80 rfl rfl ?_
    by_cases hq2 : rn = 0
    · skip
      refine Wk.callS (a0 := a0) (pc' := 85) (k' := 7) (n' := 18) (W := 0) (b := b_mka) (argsL := [(.int (Int32.ofNat rn)), (.int c6), (.int c13), (.int c20)]) (rest := []) (rm_mka hw rn c6 c13 c20 [] [] h249  hq2 (by simp) G_h7 G_cw) (w5 hw) (w6 hw) (w2 hw) (w7 hw) (by decide) (Nat.le_refl _) id (Nat.le_of_ble_eq_true rfl) (Nat.le_of_ble_eq_true rfl) rfl rfl (Nat.le_of_ble_eq_true rfl) (Nat.le_of_ble_eq_true rfl) rfl pd30 rfl rfl rfl (Nat.le_of_ble_eq_true rfl) at_82 rfl fun v262 h263 J264 hs265 hQ266 => ?_
      obtain ⟨r267, al268, bl269, ql270, rfl, rfl, E271, g272, g273, g274, g275, g276, g277, g278, g279⟩ := hQ266
      have ne280 : r253 ≠ r267 := Nat.ne_of_lt (Nat.lt_of_lt_of_le g258.lt g272)
      have ne281 : v'254 ≠ r267 := Nat.ne_of_lt (Nat.lt_of_lt_of_le g261.lt g272)
      show Wk _ h263 7 18 (some (("" :: []), [("java/lang/String", 7, al268)])) 85 #[.val (.int p1'), .val (.int p2'), .val (.int p3'), .val (.int p4'), .val (.int p5'), .val (.int (Int32.ofNat sn)), .val (.int s0), .val (.int s1), .val (.int s2), .val (.int (Int32.ofNat rn)), .val (.int c6), .val (.int c13), .val (.int c20), .val (.ref r253), .unset, .unset, .unset, .unset] [(.ref r267)]
      refine Wk.astore (pc' := 87) #[.val (.int p1'), .val (.int p2'), .val (.int p3'), .val (.int p4'), .val (.int p5'), .val (.int (Int32.ofNat sn)), .val (.int s0), .val (.int s1), .val (.int s2), .val (.int (Int32.ofNat rn)), .val (.int c6), .val (.int c13), .val (.int c20), .val (.ref r253), .val (.ref r267), .unset, .unset, .unset] at_85 rfl rfl rfl ?_
      have f282 := (g259.ext E271)
      have f283 := (g261.ext E271)
      have f284 := (g258.ext E271)
      have f285 := (g260.ext E271)
      have A286 : Arv Z h263 bl269 ql270 .byte (Int32.ofNat (own_mkl rn c6 c13 c20).length) ((own_mkl rn c6 c13 c20).map own_by) (.int (0 : Int32)) := by rw [show (own_mkl rn c6 c13 c20) = [] from by rw [hq2]; rfl]; exact g279
      refine Wk.more (k' := 8) (n' := 20) (Nat.le_of_ble_eq_true rfl) (Nat.le_of_ble_eq_true rfl) ?_
      exact J87 r253 v'254 q'255 r267 bl269 ql270 _ _ h263 f284 f282 f285 f283 g273 g274 g275 A286 (by simp) (((Keep.refl h0 []).ext E256).ext E271)
    · skip
      refine Wk.callS (a0 := a0) (pc' := 85) (k' := 6) (n' := 20) (W := 0) (b := b_mkc) (argsL := [(.int (Int32.ofNat rn)), (.int c6), (.int c13), (.int c20)]) (rest := []) (rm_mkc hw rn c6 c13 c20 cs h249 (some ([], [])) P0 G_cs hq2 hrn (own_pc g7) (own_pc g14) (own_pc g21)) (w5 hw) (w6 hw) (w2 hw) (w7 hw) (by decide) (Nat.le_refl _) id (Nat.le_of_ble_eq_true rfl) (Nat.le_of_ble_eq_true rfl) rfl rfl (Nat.le_of_ble_eq_true rfl) (Nat.le_of_ble_eq_true rfl) rfl pd30 rfl rfl rfl (Nat.le_of_ble_eq_true rfl) at_82 rfl fun v287 h288 J289 hs290 hQ291 => ?_
      obtain ⟨r292, v'293, q'294, rfl, rfl, E295, g296, g297, g298, g299, g300⟩ := hQ291
      have ne301 : r253 ≠ r292 := Nat.ne_of_lt (Nat.lt_of_lt_of_le g258.lt g296)
      have ne302 : v'254 ≠ r292 := Nat.ne_of_lt (Nat.lt_of_lt_of_le g261.lt g296)
      show Wk _ h288 6 20 (some ([], [])) 85 #[.val (.int p1'), .val (.int p2'), .val (.int p3'), .val (.int p4'), .val (.int p5'), .val (.int (Int32.ofNat sn)), .val (.int s0), .val (.int s1), .val (.int s2), .val (.int (Int32.ofNat rn)), .val (.int c6), .val (.int c13), .val (.int c20), .val (.ref r253), .unset, .unset, .unset, .unset] [(.ref r292)]
      refine Wk.astore (pc' := 87) #[.val (.int p1'), .val (.int p2'), .val (.int p3'), .val (.int p4'), .val (.int p5'), .val (.int (Int32.ofNat sn)), .val (.int s0), .val (.int s1), .val (.int s2), .val (.int (Int32.ofNat rn)), .val (.int c6), .val (.int c13), .val (.int c20), .val (.ref r253), .val (.ref r292), .unset, .unset, .unset] at_85 rfl rfl rfl ?_
      have f303 := (g259.ext E295)
      have f304 := (g261.ext E295)
      have f305 := (g258.ext E295)
      have f306 := (g260.ext E295)
      refine Wk.more (k' := 8) (n' := 20) (Nat.le_of_ble_eq_true rfl) (Nat.le_of_ble_eq_true rfl) ?_
      exact J87 r253 v'254 q'255 r292 v'293 q'294 _ _ h288 f305 f303 f306 f304 g297 g298 g299 g300 (by simp) (((Keep.refl h0 []).ext E256).ext E295)
set_option maxRecDepth 65536 in
set_option maxHeartbeats 40000000 in
theorem comes_1 {Post : Tables → Env → Array Value → State → Outcome → State → Prop} (hpost : ∀ tb e args s v u, (limb_1_1.after args s (.returned v) u = true ∧ limb_1_2.after args s (.returned v) u = true ∧ True) → ReturnedEndW s (.returned v) u (Jvm.fieldLocs frame_1_writes args s ++ Jvm.arrayLocs frame_1_arrays args s ++ Jvm.staticLocs frame_1_statics s) 32 2304 → Post tb e args s (.returned v) u) :
    ArmFor flags0 classFile x code maxLocals ret World_1 tables_1 room_1 Calls_1 rest_1 Pre_1 Post := by
  intro l hfl _ _ p e ha hc hk s m args below hf hA hF happ hP
  obtain ⟨hcalls, hrest, hpre⟩ := hP
  obtain ⟨-, -, -, hnamed, -, -, -, hat⟩ := (Spec.applies_iff hf).mp happ
  obtain ⟨hg, hn⟩ := and_e (Cond.before_iff.mp (show (Jvm.Cond.and given_1 narrow_1).before args s = true from hpre))
  obtain ⟨g1, g2⟩ := and_e hg
  obtain ⟨g3, g4⟩ := and_e g2
  obtain ⟨g5, g6⟩ := and_e g4
  obtain ⟨g7, g8⟩ := and_e g6
  obtain ⟨g9, g10⟩ := and_e g8
  obtain ⟨a_0, a_1, a_2, a_3, a_4, rfl⟩ : ∃ a_0 a_1 a_2 a_3 a_4 : Value, args = #[a_0, a_1, a_2, a_3, a_4] := by
    have hs : args.size = 5 := by simpa [Cond.value, given_1] using g1
    obtain ⟨L⟩ := args
    match L, hs with
    | [a_0, a_1, a_2, a_3, a_4], _ => exact ⟨a_0, a_1, a_2, a_3, a_4, rfl⟩
  have hw := fun d (hd : d ∈ tables_1) => atoms_spec (ws := Jvm.Cond.code x code maxLocals ret :: tables_1) hat d (List.mem_cons_of_mem _ hd)
  have hfit : Fit s := fun {y c} hc i hi => by
    obtain ⟨ha, rfl⟩ := Array.getElem?_eq_some_iff.mp hc
    have q := List.all_eq_true.mp ((Array.all_eq_true_iff_forall_mem.mp hF) _ (Array.getElem_mem ha)) i (List.mem_range.mpr hi)
    simpa [Array.getElem?_eq_getElem hi] using q
  obtain ⟨hsets, hown0⟩ := atoms_of _ (rest_1_c_eq ▸ (show rest_1_c.before _ s = true from hrest))
  obtain ⟨i0, ei0⟩ := is_v g3
  obtain rfl : a_0 = (.int i0) := Option.some.inj ei0
  obtain ⟨i1, ei1⟩ := is_v g5
  obtain rfl : a_1 = (.int i1) := Option.some.inj ei1
  obtain ⟨i2, ei2⟩ := is_v g7
  obtain rfl : a_2 = (.int i2) := Option.some.inj ei2
  obtain ⟨i3, ei3⟩ := is_v g9
  obtain rfl : a_3 = (.int i3) := Option.some.inj ei3
  obtain ⟨i4, ei4⟩ := is_v g10
  obtain rfl : a_4 = (.int i4) := Option.some.inj ei4
  obtain ⟨i_1, e_2⟩ := is_v (Cond.before_iff.mp (hsets _ (List.mem_of_getElem? (i := 1) rfl)))
  have S_3 : Sta s s.heap "java/lang/String" "COMPACT_STRINGS" "Z" (.int i_1) := Sta.start e_2 (Or.inl (hsets _ (List.mem_of_getElem? (i := 0) rfl)))
  have c_4 : ¬ (i_1 = (0 : Int32)) := gotF (Cond.eq_ints e_2 (Term.int_eval (0))) (not_v (Cond.before_iff.mp (hsets _ (List.mem_of_getElem? (i := 2) rfl))))
  obtain ⟨v_5, e_6, r_7⟩ := isR_v (Cond.before_iff.mp (hsets _ (List.mem_of_getElem? (i := 8) rfl)))
  have S_8 : Sta s s.heap "jdk/internal/util/Preconditions" "SIOOBE_FORMATTER" "Ljava/util/function/BiFunction;" v_5 := Sta.start e_6 (Or.inl (hsets _ (List.mem_of_getElem? (i := 7) rfl)))
  have hH7 : Jvm.Lit.constHeld s "java/lang/String" 7 := hcalls.1 ("java/lang/String", 7) (by simp [consts_1])
  have hH12 : Jvm.Lit.constHeld s "com/example/portcullis/portcullis/gate/Challenge" 12 := hcalls.1 ("com/example/portcullis/portcullis/gate/Challenge", 12) (by simp [consts_1])
  obtain ⟨n, o, h1, h2, h3, v, L, J, rfl, hQ, hV, N, hE, hq⟩ := rm_law (l := l) (Z := s) hw i0 i1 i2 i3 i4 i_1 v_5 s.heap  S_3 c_4 S_8 r_7 hH7 (hsets _ (List.mem_of_getElem? (i := 2) rfl)) hH12 tables_1 p e ha hc hk s m _ below hf ((Spec.applies_iff_loose hf).mp happ).1 ⟨rfl, State.Warmed39.refl s, rfl, ⟨IB.start, fun u hu => by cases hu⟩, ⟨Nat.le_refl _, fun _ _ h => h⟩, Nat.le_refl _, Nat.le_refl _⟩ trivial
  obtain ⟨-, rfl⟩ := hQ
  refine ⟨n, _, h1, h2, h3, hpost _ _ _ _ _ _ ⟨Cond.after_iff.mpr rfl, Cond.after_iff.mpr (eq_i res_at (Term.int_eval (1)) rfl), trivial⟩ ⟨⟨_, rfl⟩, hq.2.1, hq.2.2.1, (hq.2.2.2.sift fun y hy => Or.inr (N y hy)).mono (Nat.le_of_ble_eq_true rfl) (Nat.le_of_ble_eq_true rfl)⟩⟩
theorem main_1_1 : Claimed_1_1 := comes_1 fun _ _ _ _ _ _ h hF => ⟨h.1, hF⟩
theorem main_1_2 : Claimed_1_2 := comes_1 fun _ _ _ _ _ _ h hF => ⟨h.2.1, hF⟩
end Jvm.Pilot.@@N@@
namespace Jvm.Pilot.@@N@@
open Jvm Jvm.ClassFile Sem Op Lib Jvm.Free Jvm.Stand Jvm.Pilot.@@N@@.Jvm.D
/-! MADE BY PROGRAM (witnessworld.py) out of the Statement's table words and the real class files: 26 classes; the members and pool entries that the words name. The judged class is class 1, her method 5. -/
namespace start1
open Jvm.ClassFile
def u (s : String) : CpInfo := .utf8 (stringToUtf16 s)
/-- a pool by its gaps: so many unusable entries, then the entry; so many at the end -/
def gap : Nat → List CpInfo → List CpInfo
  | 0, r => r
  | n + 1, r => .unusable :: gap n r
def poolList (es : List (Nat × CpInfo)) (last : Nat) : List CpInfo := es.foldr (fun e r => gap e.1 (e.2 :: r)) (gap last [])
def pool (es : List (Nat × CpInfo)) (last : Nat) : Array CpInfo := ⟨poolList es last⟩
def fileOf (pool : Array CpInfo) (this : Nat) (attrs : Array Attribute := #[]) (ms : Array MethodInfo := #[]) (fl : Nat := 33) (sup : Nat := 0) (ifs : Array Nat := #[]) (fds : Array FieldInfo := #[]) : ClassFile where
  minorVersion := 0
  majorVersion := 65
  constantPool := pool
  accessFlags := fl
  thisClass := this
  superClass := sup
  interfaces := ifs
  fields := fds
  methods := ms
  attributes := attrs
def plain (name : String) (sup : Option ClassId) : Class where
  name := name
  kind := .ordinary
  loader := none
  accessFlags := 33
  super := sup
  interfaces := #[]
  cf := none
  fields := #[]
  methods := #[]
  instanceTypes := #[]
  staticTypes := #[]
  resolved := #[]
  callSites := []
  init := .initialized
  statics := none
  mirror := none

def pool0 : Array CpInfo := pool [(5, u "<init>"), (0, u "()V"), (1, .class_ 10), (1, u "java/lang/Object")] 113

def k0c0 : Code := { maxStack := 0, maxLocals := 1, code := object_method_1_code, exceptionTable := #[], attributes := #[] }
def k0m0 : Method := { name := "<init>", desc := "()V", sig := { parameters := [], returnType := none }, accessFlags := 1, code := some k0c0 }
/-- java/lang/Object -/
def k0 : Class := { plain "java/lang/Object" none with
  accessFlags := 33
  interfaces := #[]
  cf := some (fileOf pool0 8 #[] #[{ accessFlags := 1, nameIndex := 5, descriptorIndex := 6, attributes := #[] }] 33 0 #[] #[])
  fields := #[]
  methods := #[k0m0]
  instanceTypes := #[]
  staticTypes := #[]
  resolved := Array.replicate 124 none
  statics := none }

def pool1 : Array CpInfo := pool [(2, .class_ 4), (1, u "java/lang/Object"), (0, u "<init>"), (0, u "()V"), (0, .class_ 8), (0, u "java/lang/String"), (0, .methodref 7 10), (0, .nameAndType 5 11), (0, u "([C)V"), (0, .integer 2147483647), (0, .methodref 7 14), (0, .nameAndType 15 16), (0, u "length"), (0, u "()I"), (0, .methodref 7 18), (0, .nameAndType 19 20), (0, u "charAt"), (0, u "(I)C"), (0, .methodref 22 23), (0, .class_ 24), (0, .nameAndType 25 26), (0, u "com/example/portcullis/portcullis/gate/ChallengeWithRealmPinLaw"), (0, u "at"), (0, u "(Ljava/lang/String;IC)Z"), (0, .methodref 22 28), (0, .nameAndType 29 20), (0, u "printable"), (0, .methodref 22 31), (0, .nameAndType 32 33), (0, u "mk"), (0, u "(ICCC)Ljava/lang/String;"), (0, .methodref 35 36), (0, .class_ 37), (0, .nameAndType 38 39), (0, u "com/example/portcullis/portcullis/gate/Challenge"), (0, u "withRealm"), (0, u "(Ljava/lang/String;Ljava/lang/String;)Ljava/lang/String;"), (0, .methodref 22 41), (0, .nameAndType 42 43), (0, u "step"), (0, u "(Ljava/lang/String;IC)I"), (3, u "law"), (0, u "(IIIII)Z")] 2

def k1m0 : Method := { name := "<init>", desc := "()V", sig := { parameters := [], returnType := none }, accessFlags := 2, code := none }
def k1c1 : Code := { maxStack := 6, maxLocals := 4, code := method_2_code, exceptionTable := #[], attributes := #[] }
def k1m1 : Method := { name := "mk", desc := "(ICCC)Ljava/lang/String;", sig := { parameters := [.int, .char, .char, .char], returnType := some (.object "java/lang/String") }, accessFlags := 10, code := some k1c1 }
def k1c2 : Code := { maxStack := 3, maxLocals := 1, code := method_3_code, exceptionTable := #[], attributes := #[] }
def k1m2 : Method := { name := "printable", desc := "(I)C", sig := { parameters := [.int], returnType := some .char }, accessFlags := 10, code := some k1c2 }
def k1c3 : Code := { maxStack := 2, maxLocals := 3, code := method_4_code, exceptionTable := #[], attributes := #[] }
def k1m3 : Method := { name := "at", desc := "(Ljava/lang/String;IC)Z", sig := { parameters := [(.object "java/lang/String"), .int, .char], returnType := some .boolean }, accessFlags := 10, code := some k1c3 }
def k1c4 : Code := { maxStack := 3, maxLocals := 4, code := method_5_code, exceptionTable := #[], attributes := #[] }
def k1m4 : Method := { name := "step", desc := "(Ljava/lang/String;IC)I", sig := { parameters := [(.object "java/lang/String"), .int, .char], returnType := some .int }, accessFlags := 10, code := some k1c4 }
def k1c5 : Code := { maxStack := 4, maxLocals := 18, code := code, exceptionTable := #[], attributes := #[] }
def k1m5 : Method := { name := "law", desc := "(IIIII)Z", sig := { parameters := [.int, .int, .int, .int, .int], returnType := some .boolean }, accessFlags := 9, code := some k1c5 }
/-- com/example/portcullis/portcullis/gate/ChallengeWithRealmPinLaw -/
def k1 : Class := { plain "com/example/portcullis/portcullis/gate/ChallengeWithRealmPinLaw" (some 0) with
  accessFlags := 49
  interfaces := #[]
  cf := some (fileOf pool1 22 #[] #[{ accessFlags := 2, nameIndex := 5, descriptorIndex := 6, attributes := #[] }, { accessFlags := 10, nameIndex := 32, descriptorIndex := 33, attributes := #[] }, { accessFlags := 10, nameIndex := 29, descriptorIndex := 20, attributes := #[] }, { accessFlags := 10, nameIndex := 25, descriptorIndex := 26, attributes := #[] }, { accessFlags := 10, nameIndex := 42, descriptorIndex := 43, attributes := #[] }, { accessFlags := 9, nameIndex := 47, descriptorIndex := 48, attributes := #[] }] 49 2 #[] #[])
  fields := #[]
  methods := #[k1m0, k1m1, k1m2, k1m3, k1m4, k1m5]
  instanceTypes := #[]
  staticTypes := #[]
  resolved := Array.replicate 51 none
  statics := none }

def pool2 : Array CpInfo := pool [(1, .class_ 2), (0, u "java/io/Serializable"), (0, .class_ 4), (0, u "java/lang/Object")] 2

/-- java/io/Serializable -/
def k2 : Class := { plain "java/io/Serializable" (some 0) with
  accessFlags := 1537
  interfaces := #[]
  cf := some (fileOf pool2 1 #[] #[] 1537 3 #[] #[])
  fields := #[]
  methods := #[]
  instanceTypes := #[]
  staticTypes := #[]
  resolved := Array.replicate 7 none
  statics := none }

def pool3 : Array CpInfo := pool [(1, .class_ 2), (0, u "java/lang/Comparable"), (0, .class_ 4), (0, u "java/lang/Object")] 7

/-- java/lang/Comparable -/
def k3 : Class := { plain "java/lang/Comparable" (some 0) with
  accessFlags := 1537
  interfaces := #[]
  cf := some (fileOf pool3 1 #[] #[] 1537 3 #[] #[])
  fields := #[]
  methods := #[]
  instanceTypes := #[]
  staticTypes := #[]
  resolved := Array.replicate 12 none
  statics := none }

def pool4 : Array CpInfo := pool [(2, .class_ 4), (1, u "java/lang/CharSequence"), (42, .class_ 48), (0, u "java/lang/CharSequence$1CodePointIterator"), (10, .class_ 60), (0, u "java/lang/CharSequence$1CharIterator"), (5, .class_ 67), (0, u "java/lang/Object")] 63

/-- java/lang/CharSequence -/
def k4 : Class := { plain "java/lang/CharSequence" (some 0) with
  accessFlags := 1537
  interfaces := #[]
  cf := some (fileOf pool4 2 #[.nestMembers #[47, 59]] #[] 1537 66 #[] #[])
  fields := #[]
  methods := #[]
  instanceTypes := #[]
  staticTypes := #[]
  resolved := Array.replicate 131 none
  statics := none }

def pool5 : Array CpInfo := pool [(1, .class_ 2), (0, u "java/lang/constant/Constable"), (0, .class_ 4), (0, u "java/lang/Object")] 6

/-- java/lang/constant/Constable -/
def k5 : Class := { plain "java/lang/constant/Constable" (some 0) with
  accessFlags := 1537
  interfaces := #[]
  cf := some (fileOf pool5 1 #[] #[] 1537 3 #[] #[])
  fields := #[]
  methods := #[]
  instanceTypes := #[]
  staticTypes := #[]
  resolved := Array.replicate 11 none
  statics := none }

def pool6 : Array CpInfo := pool [(1, .class_ 2), (0, u "java/lang/constant/ConstantDesc"), (0, .class_ 4), (0, u "java/lang/Object")] 32

/-- java/lang/constant/ConstantDesc -/
def k6 : Class := { plain "java/lang/constant/ConstantDesc" (some 0) with
  accessFlags := 1537
  interfaces := #[]
  cf := some (fileOf pool6 1 #[] #[] 1537 3 #[] #[])
  fields := #[]
  methods := #[]
  instanceTypes := #[]
  staticTypes := #[]
  resolved := Array.replicate 37 none
  statics := none }

def pool7 : Array CpInfo := pool [(1, .methodref 2 3), (0, .class_ 4), (0, .nameAndType 5 6), (0, u "java/lang/Object"), (0, u "<init>"), (0, u "()V"), (0, .string 8), (0, u ""), (0, .fieldref 10 11), (0, .class_ 12), (0, .nameAndType 13 14), (0, u "java/lang/String"), (0, u "value"), (0, u "[B"), (0, .fieldref 10 16), (0, .nameAndType 17 18), (0, u "coder"), (0, u "B"), (2, u "hash"), (0, u "I"), (2, u "hashIsZero"), (0, u "Z"), (0, .methodref 10 28), (0, .nameAndType 5 29), (0, u "([CIILjava/lang/Void;)V"), (8, .fieldref 10 39), (0, .nameAndType 40 26), (0, u "COMPACT_STRINGS"), (1, .class_ 44), (1, u "java/lang/StringUTF16"), (0, u "compress"), (1, .methodref 42 48), (0, .nameAndType 49 50), (0, u "coderFromArrayLen"), (0, u "([BI)B"), (3, .methodref 55 56), (0, .class_ 57), (0, .nameAndType 58 59), (0, u "java/util/Arrays"), (0, u "copyOfRange"), (0, u "([BII)[B"), (47, .class_ 109), (1, u "java/lang/StringLatin1"), (32, u "()Z"), (34, .methodref 42 178), (0, .nameAndType 45 179), (0, u "([CII)[B"), (13, .class_ 195), (1, u "java/lang/System"), (16, .methodref 193 213), (0, .nameAndType 214 215), (0, u "arraycopy"), (0, u "(Ljava/lang/Object;ILjava/lang/Object;II)V"), (118, u "()I"), (0, .methodref 10 336), (0, .nameAndType 17 337), (0, u "()B"), (2, u "()[B"), (22, u "([BI)C"), (27, u "(II)V"), (35, u "(I)C"), (61, .methodref 10 490), (0, .nameAndType 5 491), (0, u "(Ljava/lang/AbstractStringBuilder;Ljava/lang/Void;)V"), (0, .methodref 10 493), (0, .nameAndType 494 142), (0, u "isLatin1"), (0, .methodref 107 496), (0, .nameAndType 497 363), (0, u "charAt"), (3, u "checkIndex"), (4, .nameAndType 507 334), (0, u "length"), (24, u "getBytes"), (16, .methodref 550 506), (0, .class_ 551), (0, u "java/lang/AbstractStringBuilder"), (0, .methodref 550 553), (0, .nameAndType 554 340), (0, u "getValue"), (20, .class_ 576), (0, u "java/lang/CharSequence"), (22, u "CASE_INSENSITIVE_ORDER"), (0, u "Ljava/util/Comparator;"), (220, u "([BIB)V"), (188, u "([C)V"), (36, .methodref 550 493), (5, .fieldref 1054 1055), (0, .class_ 1056), (0, .nameAndType 1057 1058), (0, u "jdk/internal/util/Preconditions"), (0, u "SIOOBE_FORMATTER"), (0, u "Ljava/util/function/BiFunction;"), (0, .methodref 1054 1060), (0, .nameAndType 501 1061), (0, u "(IILjava/util/function/BiFunction;)I"), (39, u "serialPersistentFields"), (0, u "[Ljava/io/ObjectStreamField;"), (0, .class_ 1104), (0, u "java/lang/String$CaseInsensitiveComparator"), (1, .class_ 1107), (0, u "java/io/Serializable"), (0, .class_ 1109), (0, u "java/lang/Comparable"), (0, .class_ 1111), (0, u "java/lang/constant/Constable"), (0, .class_ 1113), (0, u "java/lang/constant/ConstantDesc"), (2, u "serialVersionUID"), (0, u "J"), (3, u "REPL"), (0, u "C"), (2, u "LATIN1"), (1, u "UTF16"), (105, u "(Ljava/lang/StringBuilder;)V")] 217

def k7m0 : Method := { name := "<init>", desc := "()V", sig := { parameters := [], returnType := none }, accessFlags := 1, code := none }
def k7c1 : Code := { maxStack := 5, maxLocals := 2, code := jdk_42_method_3_code, exceptionTable := #[], attributes := #[] }
def k7m1 : Method := { name := "<init>", desc := "([C)V", sig := { parameters := [(.array .char)], returnType := none }, accessFlags := 1, code := some k7c1 }
def k7c2 : Code := { maxStack := 3, maxLocals := 2, code := jdk_42_method_53_code, exceptionTable := #[], attributes := #[] }
def k7m2 : Method := { name := "<init>", desc := "(Ljava/lang/StringBuilder;)V", sig := { parameters := [(.object "java/lang/StringBuilder")], returnType := none }, accessFlags := 1, code := some k7c2 }
def k7c3 : Code := { maxStack := 2, maxLocals := 1, code := jdk_42_method_54_code, exceptionTable := #[], attributes := #[] }
def k7m3 : Method := { name := "length", desc := "()I", sig := { parameters := [], returnType := some .int }, accessFlags := 1, code := some k7c3 }
def k7c4 : Code := { maxStack := 2, maxLocals := 2, code := jdk_42_method_56_code, exceptionTable := #[], attributes := #[] }
def k7m4 : Method := { name := "charAt", desc := "(I)C", sig := { parameters := [.int], returnType := some .char }, accessFlags := 1, code := some k7c4 }
def k7c5 : Code := { maxStack := 5, maxLocals := 4, code := jdk_42_method_147_code, exceptionTable := #[], attributes := #[] }
def k7m5 : Method := { name := "getBytes", desc := "([BIB)V", sig := { parameters := [(.array .byte), .int, .byte], returnType := none }, accessFlags := 0, code := some k7c5 }
def k7c6 : Code := { maxStack := 4, maxLocals := 6, code := jdk_42_method_149_code, exceptionTable := #[], attributes := #[] }
def k7m6 : Method := { name := "<init>", desc := "([CIILjava/lang/Void;)V", sig := { parameters := [(.array .char), .int, .int, (.object "java/lang/Void")], returnType := none }, accessFlags := 2, code := some k7c6 }
def k7c7 : Code := { maxStack := 5, maxLocals := 5, code := jdk_42_method_150_code, exceptionTable := #[], attributes := #[] }
def k7m7 : Method := { name := "<init>", desc := "(Ljava/lang/AbstractStringBuilder;Ljava/lang/Void;)V", sig := { parameters := [(.object "java/lang/AbstractStringBuilder"), (.object "java/lang/Void")], returnType := none }, accessFlags := 0, code := some k7c7 }
def k7c8 : Code := { maxStack := 1, maxLocals := 1, code := jdk_42_method_152_code, exceptionTable := #[], attributes := #[] }
def k7m8 : Method := { name := "coder", desc := "()B", sig := { parameters := [], returnType := some .byte }, accessFlags := 0, code := some k7c8 }
def k7c9 : Code := { maxStack := 1, maxLocals := 1, code := jdk_42_method_154_code, exceptionTable := #[], attributes := #[] }
def k7m9 : Method := { name := "isLatin1", desc := "()Z", sig := { parameters := [], returnType := some .boolean }, accessFlags := 0, code := some k7c9 }
def k7c10 : Code := { maxStack := 3, maxLocals := 2, code := jdk_42_method_155_code, exceptionTable := #[], attributes := #[] }
def k7m10 : Method := { name := "checkIndex", desc := "(II)V", sig := { parameters := [.int, .int], returnType := none }, accessFlags := 8, code := some k7c10 }
/-- java/lang/String -/
def k7 : Class := { plain "java/lang/String" (some 0) with
  accessFlags := 49
  interfaces := #[2, 3, 4, 5, 6]
  cf := some (fileOf pool7 10 #[.nestMembers #[1103]] #[{ accessFlags := 1, nameIndex := 5, descriptorIndex := 6, attributes := #[] }, { accessFlags := 1, nameIndex := 5, descriptorIndex := 1010, attributes := #[] }, { accessFlags := 1, nameIndex := 5, descriptorIndex := 1233, attributes := #[] }, { accessFlags := 1, nameIndex := 507, descriptorIndex := 334, attributes := #[] }, { accessFlags := 1, nameIndex := 497, descriptorIndex := 427, attributes := #[] }, { accessFlags := 0, nameIndex := 532, descriptorIndex := 821, attributes := #[] }, { accessFlags := 2, nameIndex := 5, descriptorIndex := 29, attributes := #[] }, { accessFlags := 0, nameIndex := 5, descriptorIndex := 491, attributes := #[] }, { accessFlags := 0, nameIndex := 17, descriptorIndex := 337, attributes := #[] }, { accessFlags := 0, nameIndex := 494, descriptorIndex := 142, attributes := #[] }, { accessFlags := 8, nameIndex := 501, descriptorIndex := 391, attributes := #[] }] 49 2 #[1106, 1108, 575, 1110, 1112] #[{ accessFlags := 18, nameIndex := 13, descriptorIndex := 14, attributes := #[] }, { accessFlags := 18, nameIndex := 17, descriptorIndex := 18, attributes := #[] }, { accessFlags := 2, nameIndex := 21, descriptorIndex := 22, attributes := #[] }, { accessFlags := 2, nameIndex := 25, descriptorIndex := 26, attributes := #[] }, { accessFlags := 26, nameIndex := 1116, descriptorIndex := 1117, attributes := #[] }, { accessFlags := 24, nameIndex := 40, descriptorIndex := 26, attributes := #[] }, { accessFlags := 26, nameIndex := 1101, descriptorIndex := 1102, attributes := #[] }, { accessFlags := 26, nameIndex := 1121, descriptorIndex := 1122, attributes := #[] }, { accessFlags := 25, nameIndex := 599, descriptorIndex := 600, attributes := #[] }, { accessFlags := 24, nameIndex := 1125, descriptorIndex := 18, attributes := #[] }, { accessFlags := 24, nameIndex := 1127, descriptorIndex := 18, attributes := #[] }])
  fields := #[{ name := "value", type := (.array .byte), accessFlags := 18, slot := 0, constantValue := 0 }, { name := "coder", type := .byte, accessFlags := 18, slot := 1, constantValue := 0 }, { name := "hash", type := .int, accessFlags := 2, slot := 2, constantValue := 0 }, { name := "hashIsZero", type := .boolean, accessFlags := 2, slot := 3, constantValue := 0 }, { name := "serialVersionUID", type := .long, accessFlags := 26, slot := 0, constantValue := 0 }, { name := "COMPACT_STRINGS", type := .boolean, accessFlags := 24, slot := 1, constantValue := 0 }, { name := "serialPersistentFields", type := (.array (.object "java/io/ObjectStreamField")), accessFlags := 26, slot := 2, constantValue := 0 }, { name := "REPL", type := .char, accessFlags := 26, slot := 3, constantValue := 0 }, { name := "CASE_INSENSITIVE_ORDER", type := (.object "java/util/Comparator"), accessFlags := 25, slot := 4, constantValue := 0 }, { name := "LATIN1", type := .byte, accessFlags := 24, slot := 5, constantValue := 0 }, { name := "UTF16", type := .byte, accessFlags := 24, slot := 6, constantValue := 0 }]
  methods := #[k7m0, k7m1, k7m2, k7m3, k7m4, k7m5, k7m6, k7m7, k7m8, k7m9, k7m10]
  instanceTypes := #[(.array .byte), .byte, .int, .boolean]
  staticTypes := #[.long, .boolean, (.array (.object "java/io/ObjectStreamField")), .char, (.object "java/util/Comparator"), .byte, .byte]
  resolved := Array.replicate 1451 none
  statics := some 0 }

def pool8 : Array CpInfo := pool [(2, .class_ 4), (1, u "java/lang/Object"), (0, u "<init>"), (0, u "()V"), (0, .class_ 8), (0, u "java/lang/StringBuilder"), (0, .methodref 7 10), (0, .nameAndType 5 11), (0, u "(Ljava/lang/String;)V"), (0, .string 13), (0, u " realm=\""), (0, .methodref 7 15), (0, .nameAndType 16 17), (0, u "append"), (0, u "(Ljava/lang/String;)Ljava/lang/StringBuilder;"), (0, .methodref 19 20), (0, .class_ 21), (0, .nameAndType 22 23), (0, u "java/lang/String"), (0, u "length"), (0, u "()I"), (0, .methodref 19 25), (0, .nameAndType 26 27), (0, u "charAt"), (0, u "(I)C"), (7, .methodref 7 36), (0, .nameAndType 16 37), (0, u "(C)Ljava/lang/StringBuilder;"), (0, .methodref 7 39), (0, .nameAndType 40 41), (0, u "toString"), (0, u "()Ljava/lang/String;"), (0, .class_ 43), (0, u "com/example/portcullis/portcullis/gate/Challenge"), (2, u "withRealm"), (0, u "(Ljava/lang/String;Ljava/lang/String;)Ljava/lang/String;")] 18

def k8m0 : Method := { name := "<init>", desc := "()V", sig := { parameters := [], returnType := none }, accessFlags := 2, code := none }
def k8c1 : Code := { maxStack := 3, maxLocals := 5, code := prog_11_method_2_code, exceptionTable := #[], attributes := #[] }
def k8m1 : Method := { name := "withRealm", desc := "(Ljava/lang/String;Ljava/lang/String;)Ljava/lang/String;", sig := { parameters := [(.object "java/lang/String"), (.object "java/lang/String")], returnType := some (.object "java/lang/String") }, accessFlags := 9, code := some k8c1 }
/-- com/example/portcullis/portcullis/gate/Challenge -/
def k8 : Class := { plain "com/example/portcullis/portcullis/gate/Challenge" (some 0) with
  accessFlags := 49
  interfaces := #[]
  cf := some (fileOf pool8 42 #[] #[{ accessFlags := 2, nameIndex := 5, descriptorIndex := 6, attributes := #[] }, { accessFlags := 9, nameIndex := 46, descriptorIndex := 47, attributes := #[] }] 49 2 #[] #[])
  fields := #[]
  methods := #[k8m0, k8m1]
  instanceTypes := #[]
  staticTypes := #[]
  resolved := Array.replicate 66 none
  statics := none }

def pool9 : Array CpInfo := pool [(1, .class_ 2), (0, u "java/lang/Appendable"), (0, .class_ 4), (0, u "java/lang/Object")] 9

/-- java/lang/Appendable -/
def k9 : Class := { plain "java/lang/Appendable" (some 0) with
  accessFlags := 1537
  interfaces := #[]
  cf := some (fileOf pool9 1 #[] #[] 1537 3 #[] #[])
  fields := #[]
  methods := #[]
  instanceTypes := #[]
  staticTypes := #[]
  resolved := Array.replicate 14 none
  statics := none }

def pool10 : Array CpInfo := pool [(1, .class_ 2), (0, u "java/lang/String"), (0, .methodref 4 5), (0, .class_ 6), (0, .nameAndType 7 8), (0, u "java/lang/Object"), (0, u "<init>"), (0, u "()V"), (1, .class_ 12), (1, u "java/lang/AbstractStringBuilder"), (0, u "EMPTYVALUE"), (0, u "[B"), (0, .fieldref 10 16), (0, .nameAndType 17 14), (0, u "value"), (0, .fieldref 1 19), (0, .nameAndType 20 21), (0, u "COMPACT_STRINGS"), (0, u "Z"), (0, .fieldref 10 23), (0, .nameAndType 24 25), (0, u "coder"), (0, u "B"), (6, .methodref 1 33), (0, .nameAndType 34 35), (0, u "length"), (0, u "()I"), (2, .integer 2147483631), (1, .methodref 1 41), (0, .nameAndType 24 42), (0, u "()B"), (0, .methodref 10 44), (0, .nameAndType 45 46), (0, u "append"), (0, u "(Ljava/lang/String;)Ljava/lang/AbstractStringBuilder;"), (1, .class_ 49), (0, u "java/lang/CharSequence"), (19, u "(Ljava/lang/String;)V"), (5, u "maybeLatin1"), (3, .fieldref 10 80), (0, .nameAndType 81 82), (0, u "count"), (0, u "I"), (0, .methodref 10 84), (0, .nameAndType 85 86), (0, u "isLatin1"), (0, u "()Z"), (1, .class_ 90), (1, u "java/lang/StringLatin1"), (9, .methodref 10 101), (0, .nameAndType 102 103), (0, u "ensureCapacityInternal"), (0, u "(I)V"), (87, .methodref 88 192), (0, .nameAndType 193 194), (0, u "canEncode"), (0, u "(C)Z"), (13, .methodref 10 209), (0, .nameAndType 210 211), (0, u "putStringAt"), (0, u "(ILjava/lang/String;)V"), (5, u "inflateIfNeededFor"), (2, .nameAndType 221 222), (0, u "getBytes"), (0, u "([BIB)V"), (69, u "(C)Ljava/lang/AbstractStringBuilder;"), (104, .methodref 10 398), (0, .nameAndType 217 69), (0, .methodref 1 220), (3, u "()[B"), (40, .class_ 445), (0, u "java/lang/Appendable"), (106, u "getValue")] 56

def k10m0 : Method := { name := "<init>", desc := "()V", sig := { parameters := [], returnType := none }, accessFlags := 0, code := none }
def k10c1 : Code := { maxStack := 2, maxLocals := 5, code := jdk_68_method_3_code, exceptionTable := #[], attributes := #[] }
def k10m1 : Method := { name := "<init>", desc := "(Ljava/lang/String;)V", sig := { parameters := [(.object "java/lang/String")], returnType := none }, accessFlags := 0, code := some k10c1 }
def k10c2 : Code := { maxStack := 1, maxLocals := 1, code := jdk_68_method_6_code, exceptionTable := #[], attributes := #[] }
def k10m2 : Method := { name := "length", desc := "()I", sig := { parameters := [], returnType := some .int }, accessFlags := 1, code := some k10c2 }
def k10c3 : Code := { maxStack := 4, maxLocals := 3, code := jdk_68_method_9_code, exceptionTable := #[], attributes := #[] }
def k10m3 : Method := { name := "ensureCapacityInternal", desc := "(I)V", sig := { parameters := [.int], returnType := none }, accessFlags := 2, code := some k10c3 }
def k10c4 : Code := { maxStack := 3, maxLocals := 3, code := jdk_68_method_22_code, exceptionTable := #[], attributes := #[] }
def k10m4 : Method := { name := "append", desc := "(Ljava/lang/String;)Ljava/lang/AbstractStringBuilder;", sig := { parameters := [(.object "java/lang/String")], returnType := some (.object "java/lang/AbstractStringBuilder") }, accessFlags := 1, code := some k10c4 }
def k10c5 : Code := { maxStack := 5, maxLocals := 2, code := jdk_68_method_31_code, exceptionTable := #[], attributes := #[] }
def k10m5 : Method := { name := "append", desc := "(C)Ljava/lang/AbstractStringBuilder;", sig := { parameters := [.char], returnType := some (.object "java/lang/AbstractStringBuilder") }, accessFlags := 1, code := some k10c5 }
def k10c6 : Code := { maxStack := 1, maxLocals := 1, code := jdk_68_method_64_code, exceptionTable := #[], attributes := #[] }
def k10m6 : Method := { name := "getValue", desc := "()[B", sig := { parameters := [], returnType := some (.array .byte) }, accessFlags := 16, code := some k10c6 }
def k10c7 : Code := { maxStack := 1, maxLocals := 1, code := jdk_68_method_68_code, exceptionTable := #[], attributes := #[] }
def k10m7 : Method := { name := "isLatin1", desc := "()Z", sig := { parameters := [], returnType := some .boolean }, accessFlags := 16, code := some k10c7 }
def k10c8 : Code := { maxStack := 2, maxLocals := 2, code := jdk_68_method_71_code, exceptionTable := #[], attributes := #[] }
def k10m8 : Method := { name := "inflateIfNeededFor", desc := "(Ljava/lang/String;)V", sig := { parameters := [(.object "java/lang/String")], returnType := none }, accessFlags := 2, code := some k10c8 }
def k10c9 : Code := { maxStack := 4, maxLocals := 3, code := jdk_68_method_73_code, exceptionTable := #[], attributes := #[] }
def k10m9 : Method := { name := "putStringAt", desc := "(ILjava/lang/String;)V", sig := { parameters := [.int, (.object "java/lang/String")], returnType := none }, accessFlags := 2, code := some k10c9 }
/-- java/lang/AbstractStringBuilder -/
def k10 : Class := { plain "java/lang/AbstractStringBuilder" (some 0) with
  accessFlags := 1056
  interfaces := #[9, 4]
  cf := some (fileOf pool10 10 #[] #[{ accessFlags := 0, nameIndex := 7, descriptorIndex := 8, attributes := #[] }, { accessFlags := 0, nameIndex := 7, descriptorIndex := 69, attributes := #[] }, { accessFlags := 1, nameIndex := 34, descriptorIndex := 35, attributes := #[] }, { accessFlags := 2, nameIndex := 102, descriptorIndex := 103, attributes := #[] }, { accessFlags := 1, nameIndex := 45, descriptorIndex := 46, attributes := #[] }, { accessFlags := 1, nameIndex := 45, descriptorIndex := 292, attributes := #[] }, { accessFlags := 16, nameIndex := 552, descriptorIndex := 403, attributes := #[] }, { accessFlags := 16, nameIndex := 85, descriptorIndex := 86, attributes := #[] }, { accessFlags := 2, nameIndex := 217, descriptorIndex := 69, attributes := #[] }, { accessFlags := 2, nameIndex := 210, descriptorIndex := 211, attributes := #[] }] 1056 4 #[444, 48] #[{ accessFlags := 0, nameIndex := 17, descriptorIndex := 14, attributes := #[] }, { accessFlags := 0, nameIndex := 24, descriptorIndex := 25, attributes := #[] }, { accessFlags := 0, nameIndex := 75, descriptorIndex := 21, attributes := #[] }, { accessFlags := 0, nameIndex := 81, descriptorIndex := 82, attributes := #[] }, { accessFlags := 26, nameIndex := 13, descriptorIndex := 14, attributes := #[] }])
  fields := #[{ name := "value", type := (.array .byte), accessFlags := 0, slot := 0, constantValue := 0 }, { name := "coder", type := .byte, accessFlags := 0, slot := 1, constantValue := 0 }, { name := "maybeLatin1", type := .boolean, accessFlags := 0, slot := 2, constantValue := 0 }, { name := "count", type := .int, accessFlags := 0, slot := 3, constantValue := 0 }, { name := "EMPTYVALUE", type := (.array .byte), accessFlags := 26, slot := 0, constantValue := 0 }]
  methods := #[k10m0, k10m1, k10m2, k10m3, k10m4, k10m5, k10m6, k10m7, k10m8, k10m9]
  instanceTypes := #[(.array .byte), .byte, .boolean, .int]
  staticTypes := #[(.array .byte)]
  resolved := Array.replicate 609 none
  statics := none }

def pool11 : Array CpInfo := pool [(2, .class_ 4), (1, u "java/lang/AbstractStringBuilder"), (0, u "<init>"), (1, .methodref 2 8), (0, .nameAndType 5 9), (0, u "(Ljava/lang/String;)V"), (8, .class_ 20), (1, u "java/lang/String"), (2, .methodref 24 25), (0, .class_ 26), (0, .nameAndType 27 28), (0, u "java/lang/StringBuilder"), (0, u "append"), (0, u "(Ljava/lang/String;)Ljava/lang/StringBuilder;"), (0, .methodref 2 30), (0, .nameAndType 27 31), (0, u "(Ljava/lang/String;)Ljava/lang/AbstractStringBuilder;"), (18, .methodref 2 51), (0, .nameAndType 27 52), (0, u "(C)Ljava/lang/AbstractStringBuilder;"), (84, .methodref 18 138), (0, .nameAndType 5 139), (0, u "(Ljava/lang/StringBuilder;)V"), (5, u "()V"), (10, u "()I"), (129, u "(C)Ljava/lang/StringBuilder;"), (56, .methodref 2 344), (0, .nameAndType 345 156), (0, u "length"), (3, .class_ 350), (0, u "java/lang/Appendable"), (0, .class_ 352), (0, u "java/io/Serializable"), (0, .class_ 354), (0, u "java/lang/Comparable"), (0, .class_ 356), (0, u "java/lang/CharSequence"), (0, u "serialVersionUID"), (0, u "J"), (40, u "toString"), (0, u "()Ljava/lang/String;")] 21

def k11m0 : Method := { name := "<init>", desc := "()V", sig := { parameters := [], returnType := none }, accessFlags := 1, code := none }
def k11c1 : Code := { maxStack := 2, maxLocals := 2, code := jdk_67_method_3_code, exceptionTable := #[], attributes := #[] }
def k11m1 : Method := { name := "<init>", desc := "(Ljava/lang/String;)V", sig := { parameters := [(.object "java/lang/String")], returnType := none }, accessFlags := 1, code := some k11c1 }
def k11c2 : Code := { maxStack := 2, maxLocals := 2, code := jdk_67_method_7_code, exceptionTable := #[], attributes := #[] }
def k11m2 : Method := { name := "append", desc := "(Ljava/lang/String;)Ljava/lang/StringBuilder;", sig := { parameters := [(.object "java/lang/String")], returnType := some (.object "java/lang/StringBuilder") }, accessFlags := 1, code := some k11c2 }
def k11c3 : Code := { maxStack := 2, maxLocals := 2, code := jdk_67_method_14_code, exceptionTable := #[], attributes := #[] }
def k11m3 : Method := { name := "append", desc := "(C)Ljava/lang/StringBuilder;", sig := { parameters := [.char], returnType := some (.object "java/lang/StringBuilder") }, accessFlags := 1, code := some k11c3 }
def k11c4 : Code := { maxStack := 3, maxLocals := 1, code := jdk_67_method_42_code, exceptionTable := #[], attributes := #[] }
def k11m4 : Method := { name := "toString", desc := "()Ljava/lang/String;", sig := { parameters := [], returnType := some (.object "java/lang/String") }, accessFlags := 1, code := some k11c4 }
def k11c5 : Code := { maxStack := 2, maxLocals := 2, code := jdk_67_method_80_code, exceptionTable := #[], attributes := #[] }
def k11m5 : Method := { name := "append", desc := "(Ljava/lang/String;)Ljava/lang/AbstractStringBuilder;", sig := { parameters := [(.object "java/lang/String")], returnType := some (.object "java/lang/AbstractStringBuilder") }, accessFlags := 4161, code := some k11c5 }
def k11c6 : Code := { maxStack := 1, maxLocals := 1, code := jdk_67_method_93_code, exceptionTable := #[], attributes := #[] }
def k11m6 : Method := { name := "length", desc := "()I", sig := { parameters := [], returnType := some .int }, accessFlags := 4161, code := some k11c6 }
/-- java/lang/StringBuilder -/
def k11 : Class := { plain "java/lang/StringBuilder" (some 10) with
  accessFlags := 49
  interfaces := #[9, 2, 3, 4]
  cf := some (fileOf pool11 24 #[] #[{ accessFlags := 1, nameIndex := 5, descriptorIndex := 145, attributes := #[] }, { accessFlags := 1, nameIndex := 5, descriptorIndex := 9, attributes := #[] }, { accessFlags := 1, nameIndex := 27, descriptorIndex := 28, attributes := #[] }, { accessFlags := 1, nameIndex := 27, descriptorIndex := 286, attributes := #[] }, { accessFlags := 1, nameIndex := 399, descriptorIndex := 400, attributes := #[] }, { accessFlags := 4161, nameIndex := 27, descriptorIndex := 31, attributes := #[] }, { accessFlags := 4161, nameIndex := 345, descriptorIndex := 156, attributes := #[] }] 49 2 #[349, 351, 353, 355] #[{ accessFlags := 24, nameIndex := 357, descriptorIndex := 358, attributes := #[] }])
  fields := #[{ name := "serialVersionUID", type := .long, accessFlags := 24, slot := 0, constantValue := 0 }]
  methods := #[k11m0, k11m1, k11m2, k11m3, k11m4, k11m5, k11m6]
  instanceTypes := #[(.array .byte), .byte, .boolean, .int]
  staticTypes := #[.long]
  resolved := Array.replicate 422 none
  statics := none }

def pool12 : Array CpInfo := pool [(2, .class_ 4), (1, u "java/lang/Object"), (0, u "<init>"), (0, u "()V"), (1, .class_ 10), (1, u "java/lang/System"), (0, u "allowSecurityManager"), (0, u "I"), (16, u "cons"), (0, u "Ljava/io/Console;"), (77, .class_ 110), (1, u "java/lang/System$CallersHolder"), (43, u "initialErrStream"), (0, u "Ljava/io/PrintStream;"), (19, u "security"), (0, u "Ljava/lang/SecurityManager;"), (31, .class_ 209), (0, u "java/lang/System$1"), (7, u "props"), (0, u "Ljava/util/Properties;"), (2, u "lineSeparator"), (0, u "Ljava/lang/String;"), (96, .class_ 321), (1, u "java/lang/System$LoggerFinder"), (5, .class_ 328), (0, u "java/lang/System$Logger"), (67, u "err"), (2, u "out"), (91, u "notSupportedJnuEncoding"), (15, u "in"), (17, u "initialIn"), (0, u "Ljava/io/InputStream;"), (35, u "bootLayer"), (0, u "Ljava/lang/ModuleLayer;"), (99, .class_ 664), (0, u "java/lang/System$2"), (9, u "NEVER"), (2, u "MAYBE"), (49, u "arraycopy"), (0, u "(Ljava/lang/Object;ILjava/lang/Object;II)V"), (72, .class_ 802), (0, u "java/lang/System$Logger$Level")] 31

def k12m0 : Method := { name := "<init>", desc := "()V", sig := { parameters := [], returnType := none }, accessFlags := 2, code := none }
def k12m1 : Method := { name := "arraycopy", desc := "(Ljava/lang/Object;ILjava/lang/Object;II)V", sig := { parameters := [(.object "java/lang/Object"), .int, (.object "java/lang/Object"), .int, .int], returnType := none }, accessFlags := 265, code := none }
/-- java/lang/System -/
def k12 : Class := { plain "java/lang/System" (some 0) with
  accessFlags := 49
  interfaces := #[]
  cf := some (fileOf pool12 8 #[.nestMembers #[319, 327, 801, 108, 663, 208]] #[{ accessFlags := 2, nameIndex := 5, descriptorIndex := 6, attributes := #[] }, { accessFlags := 265, nameIndex := 727, descriptorIndex := 728, attributes := #[] }] 49 2 #[] #[{ accessFlags := 25, nameIndex := 507, descriptorIndex := 526, attributes := #[] }, { accessFlags := 25, nameIndex := 399, descriptorIndex := 155, attributes := #[] }, { accessFlags := 25, nameIndex := 396, descriptorIndex := 155, attributes := #[] }, { accessFlags := 10, nameIndex := 525, descriptorIndex := 526, attributes := #[] }, { accessFlags := 26, nameIndex := 674, descriptorIndex := 12, attributes := #[] }, { accessFlags := 26, nameIndex := 677, descriptorIndex := 12, attributes := #[] }, { accessFlags := 10, nameIndex := 11, descriptorIndex := 12, attributes := #[] }, { accessFlags := 74, nameIndex := 175, descriptorIndex := 176, attributes := #[] }, { accessFlags := 10, nameIndex := 491, descriptorIndex := 222, attributes := #[] }, { accessFlags := 74, nameIndex := 29, descriptorIndex := 30, attributes := #[] }, { accessFlags := 74, nameIndex := 154, descriptorIndex := 155, attributes := #[] }, { accessFlags := 10, nameIndex := 217, descriptorIndex := 218, attributes := #[] }, { accessFlags := 10, nameIndex := 221, descriptorIndex := 222, attributes := #[] }, { accessFlags := 8, nameIndex := 562, descriptorIndex := 563, attributes := #[] }])
  fields := #[{ name := "in", type := (.object "java/io/InputStream"), accessFlags := 25, slot := 0, constantValue := 0 }, { name := "out", type := (.object "java/io/PrintStream"), accessFlags := 25, slot := 1, constantValue := 0 }, { name := "err", type := (.object "java/io/PrintStream"), accessFlags := 25, slot := 2, constantValue := 0 }, { name := "initialIn", type := (.object "java/io/InputStream"), accessFlags := 10, slot := 3, constantValue := 0 }, { name := "NEVER", type := .int, accessFlags := 26, slot := 4, constantValue := 0 }, { name := "MAYBE", type := .int, accessFlags := 26, slot := 5, constantValue := 0 }, { name := "allowSecurityManager", type := .int, accessFlags := 10, slot := 6, constantValue := 0 }, { name := "security", type := (.object "java/lang/SecurityManager"), accessFlags := 74, slot := 7, constantValue := 0 }, { name := "notSupportedJnuEncoding", type := (.object "java/lang/String"), accessFlags := 10, slot := 8, constantValue := 0 }, { name := "cons", type := (.object "java/io/Console"), accessFlags := 74, slot := 9, constantValue := 0 }, { name := "initialErrStream", type := (.object "java/io/PrintStream"), accessFlags := 74, slot := 10, constantValue := 0 }, { name := "props", type := (.object "java/util/Properties"), accessFlags := 10, slot := 11, constantValue := 0 }, { name := "lineSeparator", type := (.object "java/lang/String"), accessFlags := 10, slot := 12, constantValue := 0 }, { name := "bootLayer", type := (.object "java/lang/ModuleLayer"), accessFlags := 8, slot := 13, constantValue := 0 }]
  methods := #[k12m0, k12m1]
  instanceTypes := #[]
  staticTypes := #[(.object "java/io/InputStream"), (.object "java/io/PrintStream"), (.object "java/io/PrintStream"), (.object "java/io/InputStream"), .int, .int, .int, (.object "java/lang/SecurityManager"), (.object "java/lang/String"), (.object "java/io/Console"), (.object "java/io/PrintStream"), (.object "java/util/Properties"), (.object "java/lang/String"), (.object "java/lang/ModuleLayer")]
  resolved := Array.replicate 834 none
  statics := none }

def pool13 : Array CpInfo := pool [(1, .class_ 2), (0, u "java/lang/String"), (1, .class_ 6), (1, u "java/lang/Object"), (0, u "<init>"), (0, u "()V"), (0, .methodref 1 10), (0, .nameAndType 11 12), (0, u "checkIndex"), (0, u "(II)V"), (1, .class_ 16), (1, u "java/lang/StringLatin1"), (36, u "([BI)C"), (36, u "canEncode"), (14, u "(C)Z"), (15, u "$assertionsDisabled"), (0, u "Z"), (98, .class_ 223), (1, u "java/lang/StringLatin1$LinesSpliterator"), (28, u "charAt"), (137, .class_ 391), (0, u "java/lang/StringLatin1$CharsSpliterator")] 3

def k13m0 : Method := { name := "<init>", desc := "()V", sig := { parameters := [], returnType := none }, accessFlags := 0, code := none }
def k13c1 : Code := { maxStack := 2, maxLocals := 2, code := jdk_43_method_2_code, exceptionTable := #[], attributes := #[] }
def k13m1 : Method := { name := "charAt", desc := "([BI)C", sig := { parameters := [(.array .byte), .int], returnType := some .char }, accessFlags := 9, code := some k13c1 }
def k13c2 : Code := { maxStack := 2, maxLocals := 1, code := jdk_43_method_3_code, exceptionTable := #[], attributes := #[] }
def k13m2 : Method := { name := "canEncode", desc := "(C)Z", sig := { parameters := [.char], returnType := some .boolean }, accessFlags := 9, code := some k13c2 }
/-- java/lang/StringLatin1 -/
def k13 : Class := { plain "java/lang/StringLatin1" (some 0) with
  accessFlags := 48
  interfaces := #[]
  cf := some (fileOf pool13 14 #[.nestMembers #[390, 221]] #[{ accessFlags := 0, nameIndex := 7, descriptorIndex := 8, attributes := #[] }, { accessFlags := 9, nameIndex := 252, descriptorIndex := 53, attributes := #[] }, { accessFlags := 9, nameIndex := 90, descriptorIndex := 105, attributes := #[] }] 48 4 #[] #[{ accessFlags := 4120, nameIndex := 121, descriptorIndex := 122, attributes := #[] }])
  fields := #[{ name := "$assertionsDisabled", type := .boolean, accessFlags := 4120, slot := 0, constantValue := 0 }]
  methods := #[k13m0, k13m1, k13m2]
  instanceTypes := #[]
  staticTypes := #[.boolean]
  resolved := Array.replicate 395 none
  statics := none }

def pool14 : Array CpInfo := pool [(2, .class_ 4), (1, u "java/lang/Object"), (0, u "<init>"), (0, u "()V"), (7, .class_ 16), (1, u "java/util/Arrays"), (57, .class_ 76), (1, u "java/util/Arrays$NaturalOrder"), (36, .class_ 115), (1, u "java/util/Arrays$LegacyMergeSort"), (1, u "Z"), (21, u "copyOfRange"), (10, .methodref 151 152), (0, .class_ 153), (0, .nameAndType 154 155), (0, u "java/lang/System"), (0, u "arraycopy"), (0, u "(Ljava/lang/Object;ILjava/lang/Object;II)V"), (148, .methodref 305 306), (0, .class_ 307), (0, .nameAndType 308 309), (0, u "java/lang/Math"), (0, u "min"), (0, u "(II)I"), (29, .methodref 14 340), (0, .nameAndType 341 342), (0, u "copyOfRangeByte"), (0, u "([BII)[B"), (0, .methodref 14 344), (0, .nameAndType 345 346), (0, u "checkLength"), (0, u "(II)V"), (28, .class_ 376), (0, u "java/util/Arrays$ArrayList"), (68, u "$assertionsDisabled"), (269, u "MIN_ARRAY_SORT_GRAN"), (0, u "I"), (2, u "INSERTIONSORT_THRESHOLD"), (255, .class_ 976), (0, u "java/util/Arrays$ArrayItr")] 52

def k14m0 : Method := { name := "<init>", desc := "()V", sig := { parameters := [], returnType := none }, accessFlags := 2, code := none }
def k14c1 : Code := { maxStack := 4, maxLocals := 2, code := jdk_65_method_131_code, exceptionTable := #[], attributes := #[] }
def k14m1 : Method := { name := "checkLength", desc := "(II)V", sig := { parameters := [.int, .int], returnType := none }, accessFlags := 10, code := some k14c1 }
def k14c2 : Code := { maxStack := 3, maxLocals := 3, code := jdk_65_method_132_code, exceptionTable := #[], attributes := #[] }
def k14m2 : Method := { name := "copyOfRange", desc := "([BII)[B", sig := { parameters := [(.array .byte), .int, .int], returnType := some (.array .byte) }, accessFlags := 9, code := some k14c2 }
def k14c3 : Code := { maxStack := 6, maxLocals := 5, code := jdk_65_method_133_code, exceptionTable := #[], attributes := #[] }
def k14m3 : Method := { name := "copyOfRangeByte", desc := "([BII)[B", sig := { parameters := [(.array .byte), .int, .int], returnType := some (.array .byte) }, accessFlags := 10, code := some k14c3 }
/-- java/util/Arrays -/
def k14 : Class := { plain "java/util/Arrays" (some 0) with
  accessFlags := 49
  interfaces := #[]
  cf := some (fileOf pool14 14 #[.nestMembers #[975, 375, 113, 74]] #[{ accessFlags := 2, nameIndex := 5, descriptorIndex := 6, attributes := #[] }, { accessFlags := 10, nameIndex := 345, descriptorIndex := 346, attributes := #[] }, { accessFlags := 9, nameIndex := 139, descriptorIndex := 342, attributes := #[] }, { accessFlags := 10, nameIndex := 341, descriptorIndex := 342, attributes := #[] }] 49 2 #[] #[{ accessFlags := 26, nameIndex := 715, descriptorIndex := 716, attributes := #[] }, { accessFlags := 26, nameIndex := 719, descriptorIndex := 716, attributes := #[] }, { accessFlags := 4120, nameIndex := 445, descriptorIndex := 117, attributes := #[] }])
  fields := #[{ name := "MIN_ARRAY_SORT_GRAN", type := .int, accessFlags := 26, slot := 0, constantValue := 0 }, { name := "INSERTIONSORT_THRESHOLD", type := .int, accessFlags := 26, slot := 1, constantValue := 0 }, { name := "$assertionsDisabled", type := .boolean, accessFlags := 4120, slot := 2, constantValue := 0 }]
  methods := #[k14m0, k14m1, k14m2, k14m3]
  instanceTypes := #[]
  staticTypes := #[.int, .int, .boolean]
  resolved := Array.replicate 1029 none
  statics := none }

def pool15 : Array CpInfo := pool [(1, .class_ 2), (0, u "java/lang/Math"), (1, .class_ 6), (1, u "java/lang/Object"), (0, u "<init>"), (0, u "()V"), (89, .class_ 100), (1, u "java/lang/Math$RandomNumberGeneratorHolder"), (71, u "negativeZeroFloatBits"), (0, u "J"), (2, u "negativeZeroDoubleBits"), (24, u "min"), (43, u "$assertionsDisabled"), (0, u "Z"), (88, u "(II)I"), (2, u "twoToTheDoubleScaleDown"), (0, u "D"), (4, u "twoToTheDoubleScaleUp"), (9, u "E"), (3, u "PI"), (2, u "TAU"), (2, u "DEGREES_TO_RADIANS"), (0, u "RADIANS_TO_DEGREES")] 94

def k15m0 : Method := { name := "<init>", desc := "()V", sig := { parameters := [], returnType := none }, accessFlags := 2, code := none }
def k15c1 : Code := { maxStack := 2, maxLocals := 2, code := jdk_29_method_69_code, exceptionTable := #[], attributes := #[] }
def k15m1 : Method := { name := "min", desc := "(II)I", sig := { parameters := [.int, .int], returnType := some .int }, accessFlags := 9, code := some k15c1 }
/-- java/lang/Math -/
def k15 : Class := { plain "java/lang/Math" (some 0) with
  accessFlags := 49
  interfaces := #[]
  cf := some (fileOf pool15 1 #[.nestMembers #[98]] #[{ accessFlags := 2, nameIndex := 7, descriptorIndex := 8, attributes := #[] }, { accessFlags := 9, nameIndex := 201, descriptorIndex := 335, attributes := #[] }] 49 4 #[] #[{ accessFlags := 25, nameIndex := 354, descriptorIndex := 339, attributes := #[] }, { accessFlags := 25, nameIndex := 358, descriptorIndex := 339, attributes := #[] }, { accessFlags := 25, nameIndex := 361, descriptorIndex := 339, attributes := #[] }, { accessFlags := 26, nameIndex := 364, descriptorIndex := 339, attributes := #[] }, { accessFlags := 26, nameIndex := 365, descriptorIndex := 339, attributes := #[] }, { accessFlags := 26, nameIndex := 172, descriptorIndex := 173, attributes := #[] }, { accessFlags := 26, nameIndex := 176, descriptorIndex := 173, attributes := #[] }, { accessFlags := 8, nameIndex := 344, descriptorIndex := 339, attributes := #[] }, { accessFlags := 8, nameIndex := 338, descriptorIndex := 339, attributes := #[] }, { accessFlags := 4120, nameIndex := 245, descriptorIndex := 246, attributes := #[] }])
  fields := #[{ name := "E", type := .double, accessFlags := 25, slot := 0, constantValue := 0 }, { name := "PI", type := .double, accessFlags := 25, slot := 1, constantValue := 0 }, { name := "TAU", type := .double, accessFlags := 25, slot := 2, constantValue := 0 }, { name := "DEGREES_TO_RADIANS", type := .double, accessFlags := 26, slot := 3, constantValue := 0 }, { name := "RADIANS_TO_DEGREES", type := .double, accessFlags := 26, slot := 4, constantValue := 0 }, { name := "negativeZeroFloatBits", type := .long, accessFlags := 26, slot := 5, constantValue := 0 }, { name := "negativeZeroDoubleBits", type := .long, accessFlags := 26, slot := 6, constantValue := 0 }, { name := "twoToTheDoubleScaleUp", type := .double, accessFlags := 8, slot := 7, constantValue := 0 }, { name := "twoToTheDoubleScaleDown", type := .double, accessFlags := 8, slot := 8, constantValue := 0 }, { name := "$assertionsDisabled", type := .boolean, accessFlags := 4120, slot := 9, constantValue := 0 }]
  methods := #[k15m0, k15m1]
  instanceTypes := #[]
  staticTypes := #[.double, .double, .double, .double, .double, .long, .long, .double, .double, .boolean]
  resolved := Array.replicate 460 none
  statics := none }

def pool16 : Array CpInfo := pool [(2, .class_ 4), (1, u "java/lang/Object"), (0, u "<init>"), (0, u "()V"), (17, .class_ 26), (1, u "jdk/internal/util/Preconditions"), (6, u "checkIndex"), (21, .class_ 56), (0, u "jdk/internal/util/Preconditions$4"), (57, .class_ 115), (0, u "jdk/internal/util/Preconditions$1"), (7, u "SIOOBE_FORMATTER"), (0, u "Ljava/util/function/BiFunction;"), (0, .class_ 126), (0, u "jdk/internal/util/Preconditions$2"), (3, u "AIOOBE_FORMATTER"), (0, .class_ 132), (0, u "jdk/internal/util/Preconditions$3"), (3, u "IOOBE_FORMATTER"), (41, u "(IILjava/util/function/BiFunction;)I")] 15

def k16m0 : Method := { name := "<init>", desc := "()V", sig := { parameters := [], returnType := none }, accessFlags := 1, code := none }
def k16c1 : Code := { maxStack := 3, maxLocals := 3, code := jdk_41_method_11_code, exceptionTable := #[], attributes := #[] }
def k16m1 : Method := { name := "checkIndex", desc := "(IILjava/util/function/BiFunction;)I", sig := { parameters := [.int, .int, (.object "java/util/function/BiFunction")], returnType := some .int }, accessFlags := 9, code := some k16c1 }
/-- jdk/internal/util/Preconditions -/
def k16 : Class := { plain "jdk/internal/util/Preconditions" (some 0) with
  accessFlags := 33
  interfaces := #[]
  cf := some (fileOf pool16 24 #[.nestMembers #[55, 131, 125, 114]] #[{ accessFlags := 1, nameIndex := 5, descriptorIndex := 6, attributes := #[] }, { accessFlags := 9, nameIndex := 33, descriptorIndex := 178, attributes := #[] }] 33 2 #[] #[{ accessFlags := 25, nameIndex := 123, descriptorIndex := 124, attributes := #[] }, { accessFlags := 25, nameIndex := 130, descriptorIndex := 124, attributes := #[] }, { accessFlags := 25, nameIndex := 136, descriptorIndex := 124, attributes := #[] }])
  fields := #[{ name := "SIOOBE_FORMATTER", type := (.object "java/util/function/BiFunction"), accessFlags := 25, slot := 0, constantValue := 0 }, { name := "AIOOBE_FORMATTER", type := (.object "java/util/function/BiFunction"), accessFlags := 25, slot := 1, constantValue := 0 }, { name := "IOOBE_FORMATTER", type := (.object "java/util/function/BiFunction"), accessFlags := 25, slot := 2, constantValue := 0 }]
  methods := #[k16m0, k16m1]
  instanceTypes := #[]
  staticTypes := #[(.object "java/util/function/BiFunction"), (.object "java/util/function/BiFunction"), (.object "java/util/function/BiFunction")]
  resolved := Array.replicate 194 none
  statics := some 1 }

def pool17 : Array CpInfo := pool [(6, .class_ 8), (1, u "java/lang/Object"), (0, u "<init>"), (0, u "()V"), (1, .class_ 14), (1, u "java/lang/StringUTF16"), (31, u "$assertionsDisabled"), (0, u "Z"), (13, u "HI_BYTE_SHIFT"), (0, u "I"), (2, u "LO_BYTE_SHIFT"), (49, .methodref 12 116), (0, .nameAndType 117 118), (0, u "compress"), (0, u "([CI[BII)I"), (3, u "([CII)[B"), (138, u "coderFromArrayLen"), (0, u "([BI)B"), (106, .class_ 371), (1, u "java/lang/StringUTF16$LinesSpliterator"), (58, u "MAX_LENGTH"), (196, .class_ 628), (0, u "java/lang/StringUTF16$CodePointsSpliterator"), (0, .class_ 630), (0, u "java/lang/StringUTF16$CharsSpliterator")] 4

def k17m0 : Method := { name := "<init>", desc := "()V", sig := { parameters := [], returnType := none }, accessFlags := 0, code := none }
def k17c1 : Code := { maxStack := 2, maxLocals := 2, code := jdk_52_method_15_code, exceptionTable := #[], attributes := #[] }
def k17m1 : Method := { name := "coderFromArrayLen", desc := "([BI)B", sig := { parameters := [(.array .byte), .int], returnType := some .byte }, accessFlags := 8, code := some k17c1 }
def k17c2 : Code := { maxStack := 5, maxLocals := 6, code := jdk_52_method_16_code, exceptionTable := #[], attributes := #[] }
def k17m2 : Method := { name := "compress", desc := "([CII)[B", sig := { parameters := [(.array .char), .int, .int], returnType := some (.array .byte) }, accessFlags := 9, code := some k17c2 }
def k17c3 : Code := { maxStack := 3, maxLocals := 7, code := jdk_52_method_21_code, exceptionTable := #[], attributes := #[] }
def k17m3 : Method := { name := "compress", desc := "([CI[BII)I", sig := { parameters := [(.array .char), .int, (.array .byte), .int, .int], returnType := some .int }, accessFlags := 9, code := some k17c3 }
/-- java/lang/StringUTF16 -/
def k17 : Class := { plain "java/lang/StringUTF16" (some 0) with
  accessFlags := 48
  interfaces := #[]
  cf := some (fileOf pool17 12 #[.nestMembers #[627, 629, 369]] #[{ accessFlags := 0, nameIndex := 9, descriptorIndex := 10, attributes := #[] }, { accessFlags := 8, nameIndex := 261, descriptorIndex := 262, attributes := #[] }, { accessFlags := 9, nameIndex := 117, descriptorIndex := 122, attributes := #[] }, { accessFlags := 9, nameIndex := 117, descriptorIndex := 118, attributes := #[] }] 48 6 #[] #[{ accessFlags := 26, nameIndex := 61, descriptorIndex := 62, attributes := #[] }, { accessFlags := 26, nameIndex := 65, descriptorIndex := 62, attributes := #[] }, { accessFlags := 24, nameIndex := 430, descriptorIndex := 62, attributes := #[] }, { accessFlags := 4120, nameIndex := 46, descriptorIndex := 47, attributes := #[] }])
  fields := #[{ name := "HI_BYTE_SHIFT", type := .int, accessFlags := 26, slot := 0, constantValue := 0 }, { name := "LO_BYTE_SHIFT", type := .int, accessFlags := 26, slot := 1, constantValue := 0 }, { name := "MAX_LENGTH", type := .int, accessFlags := 24, slot := 2, constantValue := 0 }, { name := "$assertionsDisabled", type := .boolean, accessFlags := 4120, slot := 3, constantValue := 0 }]
  methods := #[k17m0, k17m1, k17m2, k17m3]
  instanceTypes := #[]
  staticTypes := #[.int, .int, .int, .boolean]
  resolved := Array.replicate 635 none
  statics := none }

def pool18 : Array CpInfo := pool [(9, u "<init>"), (6, .class_ 18), (1, u "java/lang/Object"), (0, u "()V"), (1, .class_ 23), (1, u "jdk/internal/util/ArraysSupport"), (0, u "LOG2_ARRAY_LONG_INDEX_SCALE"), (0, u "I"), (2, u "U"), (0, u "Ljdk/internal/misc/Unsafe;"), (8, u "BIG_ENDIAN"), (0, u "Z"), (8, u "LOG2_BYTE_BIT_SIZE"), (4, u "LOG2_ARRAY_INT_INDEX_SCALE"), (54, u "JLA"), (0, u "Ljdk/internal/access/JavaLangAccess;"), (11, u "LOG2_ARRAY_BOOLEAN_INDEX_SCALE"), (9, u "LOG2_ARRAY_BYTE_INDEX_SCALE"), (5, u "LOG2_ARRAY_CHAR_INDEX_SCALE"), (5, u "LOG2_ARRAY_SHORT_INDEX_SCALE"), (18, u "LOG2_ARRAY_FLOAT_INDEX_SCALE"), (24, u "LOG2_ARRAY_DOUBLE_INDEX_SCALE"), (89, u "T_BOOLEAN"), (2, u "T_CHAR"), (1, u "T_FLOAT"), (1, u "T_DOUBLE"), (1, u "T_BYTE"), (1, u "T_SHORT"), (1, u "T_INT"), (1, u "T_LONG"), (1, u "SOFT_MAX_ARRAY_LENGTH")] 83

def k18m0 : Method := { name := "<init>", desc := "()V", sig := { parameters := [], returnType := none }, accessFlags := 2, code := none }
/-- jdk/internal/util/ArraysSupport -/
def k18 : Class := { plain "jdk/internal/util/ArraysSupport" (some 0) with
  accessFlags := 33
  interfaces := #[]
  cf := some (fileOf pool18 21 #[] #[{ accessFlags := 2, nameIndex := 9, descriptorIndex := 19, attributes := #[] }] 33 16 #[] #[{ accessFlags := 24, nameIndex := 28, descriptorIndex := 29, attributes := #[] }, { accessFlags := 26, nameIndex := 38, descriptorIndex := 39, attributes := #[] }, { accessFlags := 25, nameIndex := 121, descriptorIndex := 25, attributes := #[] }, { accessFlags := 25, nameIndex := 131, descriptorIndex := 25, attributes := #[] }, { accessFlags := 25, nameIndex := 137, descriptorIndex := 25, attributes := #[] }, { accessFlags := 25, nameIndex := 143, descriptorIndex := 25, attributes := #[] }, { accessFlags := 25, nameIndex := 53, descriptorIndex := 25, attributes := #[] }, { accessFlags := 25, nameIndex := 24, descriptorIndex := 25, attributes := #[] }, { accessFlags := 25, nameIndex := 162, descriptorIndex := 25, attributes := #[] }, { accessFlags := 25, nameIndex := 187, descriptorIndex := 25, attributes := #[] }, { accessFlags := 26, nameIndex := 48, descriptorIndex := 25, attributes := #[] }, { accessFlags := 25, nameIndex := 277, descriptorIndex := 25, attributes := #[] }, { accessFlags := 25, nameIndex := 280, descriptorIndex := 25, attributes := #[] }, { accessFlags := 25, nameIndex := 282, descriptorIndex := 25, attributes := #[] }, { accessFlags := 25, nameIndex := 284, descriptorIndex := 25, attributes := #[] }, { accessFlags := 25, nameIndex := 286, descriptorIndex := 25, attributes := #[] }, { accessFlags := 25, nameIndex := 288, descriptorIndex := 25, attributes := #[] }, { accessFlags := 25, nameIndex := 290, descriptorIndex := 25, attributes := #[] }, { accessFlags := 25, nameIndex := 292, descriptorIndex := 25, attributes := #[] }, { accessFlags := 26, nameIndex := 108, descriptorIndex := 109, attributes := #[] }, { accessFlags := 25, nameIndex := 294, descriptorIndex := 25, attributes := #[] }])
  fields := #[{ name := "U", type := (.object "jdk/internal/misc/Unsafe"), accessFlags := 24, slot := 0, constantValue := 0 }, { name := "BIG_ENDIAN", type := .boolean, accessFlags := 26, slot := 1, constantValue := 0 }, { name := "LOG2_ARRAY_BOOLEAN_INDEX_SCALE", type := .int, accessFlags := 25, slot := 2, constantValue := 0 }, { name := "LOG2_ARRAY_BYTE_INDEX_SCALE", type := .int, accessFlags := 25, slot := 3, constantValue := 0 }, { name := "LOG2_ARRAY_CHAR_INDEX_SCALE", type := .int, accessFlags := 25, slot := 4, constantValue := 0 }, { name := "LOG2_ARRAY_SHORT_INDEX_SCALE", type := .int, accessFlags := 25, slot := 5, constantValue := 0 }, { name := "LOG2_ARRAY_INT_INDEX_SCALE", type := .int, accessFlags := 25, slot := 6, constantValue := 0 }, { name := "LOG2_ARRAY_LONG_INDEX_SCALE", type := .int, accessFlags := 25, slot := 7, constantValue := 0 }, { name := "LOG2_ARRAY_FLOAT_INDEX_SCALE", type := .int, accessFlags := 25, slot := 8, constantValue := 0 }, { name := "LOG2_ARRAY_DOUBLE_INDEX_SCALE", type := .int, accessFlags := 25, slot := 9, constantValue := 0 }, { name := "LOG2_BYTE_BIT_SIZE", type := .int, accessFlags := 26, slot := 10, constantValue := 0 }, { name := "T_BOOLEAN", type := .int, accessFlags := 25, slot := 11, constantValue := 0 }, { name := "T_CHAR", type := .int, accessFlags := 25, slot := 12, constantValue := 0 }, { name := "T_FLOAT", type := .int, accessFlags := 25, slot := 13, constantValue := 0 }, { name := "T_DOUBLE", type := .int, accessFlags := 25, slot := 14, constantValue := 0 }, { name := "T_BYTE", type := .int, accessFlags := 25, slot := 15, constantValue := 0 }, { name := "T_SHORT", type := .int, accessFlags := 25, slot := 16, constantValue := 0 }, { name := "T_INT", type := .int, accessFlags := 25, slot := 17, constantValue := 0 }, { name := "T_LONG", type := .int, accessFlags := 25, slot := 18, constantValue := 0 }, { name := "JLA", type := (.object "jdk/internal/access/JavaLangAccess"), accessFlags := 26, slot := 19, constantValue := 0 }, { name := "SOFT_MAX_ARRAY_LENGTH", type := .int, accessFlags := 25, slot := 20, constantValue := 0 }]
  methods := #[k18m0]
  instanceTypes := #[]
  staticTypes := #[(.object "jdk/internal/misc/Unsafe"), .boolean, .int, .int, .int, .int, .int, .int, .int, .int, .int, .int, .int, .int, .int, .int, .int, .int, .int, (.object "jdk/internal/access/JavaLangAccess"), .int]
  resolved := Array.replicate 378 none
  statics := none }

def pool19 : Array CpInfo := pool [(1, u "java/lang/Cloneable"), (0, .class_ 1), (0, u "java/lang/Object"), (0, .class_ 3)] 3

/-- java/lang/Cloneable -/
def k19 : Class := { plain "java/lang/Cloneable" (some 0) with
  accessFlags := 1537
  interfaces := #[]
  cf := some (fileOf pool19 2 #[] #[] 1537 4 #[] #[])
  fields := #[]
  methods := #[]
  instanceTypes := #[]
  staticTypes := #[]
  resolved := Array.replicate 8 none
  statics := none }

/-- the primitive byte -/
def k20 : Class := { plain "byte" none with kind := .primitive 'B', accessFlags := 0x411 }
/-- [B -/
def k21 : Class := { plain "[B" (some 0) with kind := .array 20 .byte, interfaces := #[19, 2], accessFlags := 1041 }

/-- the primitive char -/
def k22 : Class := { plain "char" none with kind := .primitive 'C', accessFlags := 0x411 }
/-- [C -/
def k23 : Class := { plain "[C" (some 0) with kind := .array 22 .char, interfaces := #[19, 2], accessFlags := 1041 }

/-- the primitive int -/
def k24 : Class := { plain "int" none with kind := .primitive 'I', accessFlags := 0x411 }
/-- [I -/
def k25 : Class := { plain "[I" (some 0) with kind := .array 24 .int, interfaces := #[19, 2], accessFlags := 1041 }

def heap : Heap := #[{ cls := 7, slots := #[.long 0, .int 1, .null, .int 0, .null, .int 0, .int 0], vm := .statics 7 },
  { cls := 16, slots := #[.null, .null, .null], vm := .statics 16 }]
def classes : Array Class := #[k0, k1, k2, k3, k4, k5, k6, k7, k8, k9, k10, k11, k12, k13, k14, k15, k16, k17, k18, k19, k20, k21, k22, k23, k24, k25]
def interned : List (Array UInt16 × Addr) := []
def slotsUsed : Nat := 10
def theMethod : MethodId := ⟨1, 5⟩
def args0 : Array Value := #[.int 5, .int 6, .int 7, .int 9, .int 11]
def aboutOver (below : List Frame) : State where
  vm := { classes := classes, interned := interned.toArray }
  heap := heap
  slotsUsed := slotsUsed
  threads := #[{ frames := .invoking theMethod args0 :: below }]
def below0 : List Frame := [.native { method := ⟨0, 0⟩, args := #[] }]
def about1 : State := aboutOver below0
def p0 : Program := .bare "" "" ""
def e0 : Env := launch0.env 0 0 0
theorem w_frames : about1.frames = Frame.invoking theMethod args0 :: below0 := rfl
set_option maxRecDepth 65536 in
theorem w_args : argsFit about1.vm theMethod args0 = true := by decide +kernel
set_option maxRecDepth 65536 in
theorem w_heap : heapFits about1 = true := by decide +kernel
set_option maxRecDepth 65536 in
theorem w_runnable : about1.curStatus? = some .runnable := by decide +kernel
set_option maxRecDepth 65536 in
theorem w_alone : about1.alone = true := by decide +kernel
set_option maxRecDepth 65536 in
theorem w_named : about1.methodNamed? x = some theMethod := by decide +kernel
set_option maxRecDepth 65536 in
theorem w_hears : about1.hears theMethod below0 = true := by decide +kernel
set_option maxRecDepth 65536 in
theorem w_ripe : about1.ripe theMethod args0 below0 = true := by decide +kernel
theorem w_running : about1.status = .running := rfl
set_option maxRecDepth 65536 in
theorem w_room : about1.hasRoom e0.platform room_1 = true :=
  launch0.hasRoom_least _ room_1 (by decide +kernel) (by decide +kernel) (by decide +kernel) (by decide +kernel) (by decide +kernel) (by decide +kernel)
theorem allAtoms_all (ts : List Jvm.Cond) (a : Array Jvm.Value) (st : Jvm.State) : (allAtoms ts).before a st = ts.all (fun c => c.before a st) := by
  induction ts with
  | nil => rfl
  | cons c t ih =>
    show (Jvm.Cond.and c (allAtoms t)).before a st = _
    rw [Jvm.Cond.before_and, ih, List.all_cons]
def words1 : List Jvm.Cond := Jvm.Cond.code x code maxLocals ret :: tables_1
/-- a 'code' word, met by the world's own term for the bytes: nothing is compared byte by byte -/
theorem code_word {y : MethodName} {bytes : ByteArray} {mx : Nat} {rt : Option FieldType} {a : Array Value} {s : State} {m : MethodId} {meth : Method} {c : Code} (h1 : s.methodNamed? y = some m) (h2 : s.vm.method? m = some meth) (h3 : meth.code = some c) (h4 : c.code = bytes)
    (h5 : (c.maxLocals == mx && c.exceptionTable.isEmpty && decide (c.maxStack ≤ mostOperands) && decide (meth.sig.returnType = rt) && !meth.locks && decide (parseMethodDescriptor y.desc = some meth.sig)) = true) : (Jvm.Cond.code y bytes mx rt).before a s = true := by
  simp only [Bool.and_eq_true, beq_iff_eq, Bool.not_eq_true', decide_eq_true_eq] at h5
  obtain ⟨⟨⟨⟨⟨g1, g2⟩, g3⟩, g4⟩, g5⟩, g6⟩ := h5
  simp [Cond.before, Cond.holds, Cond.value, h1, h2, h3, h4, g1, g2, g3, g4, g5, g6]
def isCode : Jvm.Cond → Bool
  | .code _ _ _ _ => true
  | _ => false
theorem all_split {L : List Jvm.Cond} {P : Jvm.Cond → Bool} (h1 : L.all (fun c => isCode c || P c) = true) (h2 : ∀ c ∈ L.filter isCode, P c = true) : L.all P = true := by
  refine List.all_eq_true.mpr fun c hc => ?_
  have h := List.all_eq_true.mp h1 c hc
  rcases Bool.eq_false_or_eq_true (isCode c) with hi | hi
  · exact h2 c (List.mem_filter.mpr ⟨hc, hi⟩)
  · simpa [hi] using h
set_option maxRecDepth 65536 in
theorem w_c0 : (Jvm.Cond.code x code maxLocals ret).before args0 about1 = true := code_word (m := ⟨1, 5⟩) (meth := k1m5) (c := k1c5) (by decide +kernel) rfl rfl rfl (by decide +kernel)
set_option maxRecDepth 65536 in
theorem w_c1 : (Jvm.Cond.code ({ cls := "com/example/portcullis/portcullis/gate/ChallengeWithRealmPinLaw", name := "printable", desc := "(I)C" } : Jvm.MethodName) method_3_code (1 : Nat) (Option.some Jvm.ClassFile.FieldType.char)).before args0 about1 = true := code_word (m := ⟨1, 2⟩) (meth := k1m2) (c := k1c2) (by decide +kernel) rfl rfl rfl (by decide +kernel)
set_option maxRecDepth 65536 in
theorem w_c2 : (Jvm.Cond.code ({ cls := "com/example/portcullis/portcullis/gate/ChallengeWithRealmPinLaw", name := "mk", desc := "(ICCC)Ljava/lang/String;" } : Jvm.MethodName) method_2_code (4 : Nat) (Option.some (Jvm.ClassFile.FieldType.object "java/lang/String"))).before args0 about1 = true := code_word (m := ⟨1, 1⟩) (meth := k1m1) (c := k1c1) (by decide +kernel) rfl rfl rfl (by decide +kernel)
set_option maxRecDepth 65536 in
theorem w_c3 : (Jvm.Cond.code ({ cls := "java/lang/String", name := "<init>", desc := "([C)V" } : Jvm.MethodName) jdk_42_method_3_code (2 : Nat) (Option.none : Option Jvm.ClassFile.FieldType)).before args0 about1 = true := code_word (m := ⟨7, 1⟩) (meth := k7m1) (c := k7c1) (by decide +kernel) rfl rfl rfl (by decide +kernel)
set_option maxRecDepth 65536 in
theorem w_c4 : (Jvm.Cond.code ({ cls := "java/lang/String", name := "<init>", desc := "([CIILjava/lang/Void;)V" } : Jvm.MethodName) jdk_42_method_149_code (6 : Nat) (Option.none : Option Jvm.ClassFile.FieldType)).before args0 about1 = true := code_word (m := ⟨7, 6⟩) (meth := k7m6) (c := k7c6) (by decide +kernel) rfl rfl rfl (by decide +kernel)
set_option maxRecDepth 65536 in
theorem w_c5 : (Jvm.Cond.code ({ cls := "java/lang/Object", name := "<init>", desc := "()V" } : Jvm.MethodName) object_method_1_code (1 : Nat) (Option.none : Option Jvm.ClassFile.FieldType)).before args0 about1 = true := code_word (m := ⟨0, 0⟩) (meth := k0m0) (c := k0c0) (by decide +kernel) rfl rfl rfl (by decide +kernel)
set_option maxRecDepth 65536 in
theorem w_c6 : (Jvm.Cond.code ({ cls := "com/example/portcullis/portcullis/gate/Challenge", name := "withRealm", desc := "(Ljava/lang/String;Ljava/lang/String;)Ljava/lang/String;" } : Jvm.MethodName) prog_11_method_2_code (5 : Nat) (Option.some (Jvm.ClassFile.FieldType.object "java/lang/String"))).before args0 about1 = true := code_word (m := ⟨8, 1⟩) (meth := k8m1) (c := k8c1) (by decide +kernel) rfl rfl rfl (by decide +kernel)
set_option maxRecDepth 65536 in
theorem w_c7 : (Jvm.Cond.code ({ cls := "java/lang/StringBuilder", name := "<init>", desc := "(Ljava/lang/String;)V" } : Jvm.MethodName) jdk_67_method_3_code (2 : Nat) (Option.none : Option Jvm.ClassFile.FieldType)).before args0 about1 = true := code_word (m := ⟨11, 1⟩) (meth := k11m1) (c := k11c1) (by decide +kernel) rfl rfl rfl (by decide +kernel)
set_option maxRecDepth 65536 in
theorem w_c8 : (Jvm.Cond.code ({ cls := "java/lang/AbstractStringBuilder", name := "<init>", desc := "(Ljava/lang/String;)V" } : Jvm.MethodName) jdk_68_method_3_code (5 : Nat) (Option.none : Option Jvm.ClassFile.FieldType)).before args0 about1 = true := code_word (m := ⟨10, 1⟩) (meth := k10m1) (c := k10c1) (by decide +kernel) rfl rfl rfl (by decide +kernel)
set_option maxRecDepth 65536 in
theorem w_c9 : (Jvm.Cond.code ({ cls := "java/lang/String", name := "length", desc := "()I" } : Jvm.MethodName) jdk_42_method_54_code (1 : Nat) (Option.some Jvm.ClassFile.FieldType.int)).before args0 about1 = true := code_word (m := ⟨7, 3⟩) (meth := k7m3) (c := k7c3) (by decide +kernel) rfl rfl rfl (by decide +kernel)
set_option maxRecDepth 65536 in
theorem w_c10 : (Jvm.Cond.code ({ cls := "java/lang/String", name := "coder", desc := "()B" } : Jvm.MethodName) jdk_42_method_152_code (1 : Nat) (Option.some Jvm.ClassFile.FieldType.byte)).before args0 about1 = true := code_word (m := ⟨7, 8⟩) (meth := k7m8) (c := k7c8) (by decide +kernel) rfl rfl rfl (by decide +kernel)
set_option maxRecDepth 65536 in
theorem w_c11 : (Jvm.Cond.code ({ cls := "java/lang/StringBuilder", name := "append", desc := "(Ljava/lang/String;)Ljava/lang/AbstractStringBuilder;" } : Jvm.MethodName) jdk_67_method_80_code (2 : Nat) (Option.some (Jvm.ClassFile.FieldType.object "java/lang/AbstractStringBuilder"))).before args0 about1 = true := code_word (m := ⟨11, 5⟩) (meth := k11m5) (c := k11c5) (by decide +kernel) rfl rfl rfl (by decide +kernel)
set_option maxRecDepth 65536 in
theorem w_c12 : (Jvm.Cond.code ({ cls := "java/lang/StringBuilder", name := "append", desc := "(Ljava/lang/String;)Ljava/lang/StringBuilder;" } : Jvm.MethodName) jdk_67_method_7_code (2 : Nat) (Option.some (Jvm.ClassFile.FieldType.object "java/lang/StringBuilder"))).before args0 about1 = true := code_word (m := ⟨11, 2⟩) (meth := k11m2) (c := k11c2) (by decide +kernel) rfl rfl rfl (by decide +kernel)
set_option maxRecDepth 65536 in
theorem w_c13 : (Jvm.Cond.code ({ cls := "java/lang/AbstractStringBuilder", name := "append", desc := "(Ljava/lang/String;)Ljava/lang/AbstractStringBuilder;" } : Jvm.MethodName) jdk_68_method_22_code (3 : Nat) (Option.some (Jvm.ClassFile.FieldType.object "java/lang/AbstractStringBuilder"))).before args0 about1 = true := code_word (m := ⟨10, 4⟩) (meth := k10m4) (c := k10c4) (by decide +kernel) rfl rfl rfl (by decide +kernel)
set_option maxRecDepth 65536 in
theorem w_c14 : (Jvm.Cond.code ({ cls := "java/lang/AbstractStringBuilder", name := "ensureCapacityInternal", desc := "(I)V" } : Jvm.MethodName) jdk_68_method_9_code (3 : Nat) (Option.none : Option Jvm.ClassFile.FieldType)).before args0 about1 = true := code_word (m := ⟨10, 3⟩) (meth := k10m3) (c := k10c3) (by decide +kernel) rfl rfl rfl (by decide +kernel)
set_option maxRecDepth 65536 in
theorem w_c15 : (Jvm.Cond.code ({ cls := "java/lang/AbstractStringBuilder", name := "putStringAt", desc := "(ILjava/lang/String;)V" } : Jvm.MethodName) jdk_68_method_73_code (3 : Nat) (Option.none : Option Jvm.ClassFile.FieldType)).before args0 about1 = true := code_word (m := ⟨10, 9⟩) (meth := k10m9) (c := k10c9) (by decide +kernel) rfl rfl rfl (by decide +kernel)
set_option maxRecDepth 65536 in
theorem w_c16 : (Jvm.Cond.code ({ cls := "java/lang/AbstractStringBuilder", name := "inflateIfNeededFor", desc := "(Ljava/lang/String;)V" } : Jvm.MethodName) jdk_68_method_71_code (2 : Nat) (Option.none : Option Jvm.ClassFile.FieldType)).before args0 about1 = true := code_word (m := ⟨10, 8⟩) (meth := k10m8) (c := k10c8) (by decide +kernel) rfl rfl rfl (by decide +kernel)
set_option maxRecDepth 65536 in
theorem w_c17 : (Jvm.Cond.code ({ cls := "java/lang/String", name := "getBytes", desc := "([BIB)V" } : Jvm.MethodName) jdk_42_method_147_code (4 : Nat) (Option.none : Option Jvm.ClassFile.FieldType)).before args0 about1 = true := code_word (m := ⟨7, 5⟩) (meth := k7m5) (c := k7c5) (by decide +kernel) rfl rfl rfl (by decide +kernel)
set_option maxRecDepth 65536 in
theorem w_c18 : (Jvm.Cond.code ({ cls := "java/lang/StringBuilder", name := "append", desc := "(C)Ljava/lang/StringBuilder;" } : Jvm.MethodName) jdk_67_method_14_code (2 : Nat) (Option.some (Jvm.ClassFile.FieldType.object "java/lang/StringBuilder"))).before args0 about1 = true := code_word (m := ⟨11, 3⟩) (meth := k11m3) (c := k11c3) (by decide +kernel) rfl rfl rfl (by decide +kernel)
set_option maxRecDepth 65536 in
theorem w_c19 : (Jvm.Cond.code ({ cls := "java/lang/AbstractStringBuilder", name := "append", desc := "(C)Ljava/lang/AbstractStringBuilder;" } : Jvm.MethodName) jdk_68_method_31_code (2 : Nat) (Option.some (Jvm.ClassFile.FieldType.object "java/lang/AbstractStringBuilder"))).before args0 about1 = true := code_word (m := ⟨10, 5⟩) (meth := k10m5) (c := k10c5) (by decide +kernel) rfl rfl rfl (by decide +kernel)
set_option maxRecDepth 65536 in
theorem w_c20 : (Jvm.Cond.code ({ cls := "java/lang/AbstractStringBuilder", name := "isLatin1", desc := "()Z" } : Jvm.MethodName) jdk_68_method_68_code (1 : Nat) (Option.some Jvm.ClassFile.FieldType.boolean)).before args0 about1 = true := code_word (m := ⟨10, 7⟩) (meth := k10m7) (c := k10c7) (by decide +kernel) rfl rfl rfl (by decide +kernel)
set_option maxRecDepth 65536 in
theorem w_c21 : (Jvm.Cond.code ({ cls := "java/lang/StringLatin1", name := "canEncode", desc := "(C)Z" } : Jvm.MethodName) jdk_43_method_3_code (1 : Nat) (Option.some Jvm.ClassFile.FieldType.boolean)).before args0 about1 = true := code_word (m := ⟨13, 2⟩) (meth := k13m2) (c := k13c2) (by decide +kernel) rfl rfl rfl (by decide +kernel)
set_option maxRecDepth 65536 in
theorem w_c22 : (Jvm.Cond.code ({ cls := "java/lang/StringBuilder", name := "toString", desc := "()Ljava/lang/String;" } : Jvm.MethodName) jdk_67_method_42_code (1 : Nat) (Option.some (Jvm.ClassFile.FieldType.object "java/lang/String"))).before args0 about1 = true := code_word (m := ⟨11, 4⟩) (meth := k11m4) (c := k11c4) (by decide +kernel) rfl rfl rfl (by decide +kernel)
set_option maxRecDepth 65536 in
theorem w_c23 : (Jvm.Cond.code ({ cls := "java/lang/String", name := "<init>", desc := "(Ljava/lang/StringBuilder;)V" } : Jvm.MethodName) jdk_42_method_53_code (2 : Nat) (Option.none : Option Jvm.ClassFile.FieldType)).before args0 about1 = true := code_word (m := ⟨7, 2⟩) (meth := k7m2) (c := k7c2) (by decide +kernel) rfl rfl rfl (by decide +kernel)
set_option maxRecDepth 65536 in
theorem w_c24 : (Jvm.Cond.code ({ cls := "java/lang/String", name := "<init>", desc := "(Ljava/lang/AbstractStringBuilder;Ljava/lang/Void;)V" } : Jvm.MethodName) jdk_42_method_150_code (5 : Nat) (Option.none : Option Jvm.ClassFile.FieldType)).before args0 about1 = true := code_word (m := ⟨7, 7⟩) (meth := k7m7) (c := k7c7) (by decide +kernel) rfl rfl rfl (by decide +kernel)
set_option maxRecDepth 65536 in
theorem w_c25 : (Jvm.Cond.code ({ cls := "java/lang/AbstractStringBuilder", name := "getValue", desc := "()[B" } : Jvm.MethodName) jdk_68_method_64_code (1 : Nat) (Option.some (Jvm.ClassFile.FieldType.array Jvm.ClassFile.FieldType.byte))).before args0 about1 = true := code_word (m := ⟨10, 6⟩) (meth := k10m6) (c := k10c6) (by decide +kernel) rfl rfl rfl (by decide +kernel)
set_option maxRecDepth 65536 in
theorem w_c26 : (Jvm.Cond.code ({ cls := "java/lang/StringBuilder", name := "length", desc := "()I" } : Jvm.MethodName) jdk_67_method_93_code (1 : Nat) (Option.some Jvm.ClassFile.FieldType.int)).before args0 about1 = true := code_word (m := ⟨11, 6⟩) (meth := k11m6) (c := k11c6) (by decide +kernel) rfl rfl rfl (by decide +kernel)
set_option maxRecDepth 65536 in
theorem w_c27 : (Jvm.Cond.code ({ cls := "java/lang/AbstractStringBuilder", name := "length", desc := "()I" } : Jvm.MethodName) jdk_68_method_6_code (1 : Nat) (Option.some Jvm.ClassFile.FieldType.int)).before args0 about1 = true := code_word (m := ⟨10, 2⟩) (meth := k10m2) (c := k10c2) (by decide +kernel) rfl rfl rfl (by decide +kernel)
set_option maxRecDepth 65536 in
theorem w_c28 : (Jvm.Cond.code ({ cls := "java/util/Arrays", name := "copyOfRange", desc := "([BII)[B" } : Jvm.MethodName) jdk_65_method_132_code (3 : Nat) (Option.some (Jvm.ClassFile.FieldType.array Jvm.ClassFile.FieldType.byte))).before args0 about1 = true := code_word (m := ⟨14, 2⟩) (meth := k14m2) (c := k14c2) (by decide +kernel) rfl rfl rfl (by decide +kernel)
set_option maxRecDepth 65536 in
theorem w_c29 : (Jvm.Cond.code ({ cls := "java/util/Arrays", name := "copyOfRangeByte", desc := "([BII)[B" } : Jvm.MethodName) jdk_65_method_133_code (5 : Nat) (Option.some (Jvm.ClassFile.FieldType.array Jvm.ClassFile.FieldType.byte))).before args0 about1 = true := code_word (m := ⟨14, 3⟩) (meth := k14m3) (c := k14c3) (by decide +kernel) rfl rfl rfl (by decide +kernel)
set_option maxRecDepth 65536 in
theorem w_c30 : (Jvm.Cond.code ({ cls := "java/util/Arrays", name := "checkLength", desc := "(II)V" } : Jvm.MethodName) jdk_65_method_131_code (2 : Nat) (Option.none : Option Jvm.ClassFile.FieldType)).before args0 about1 = true := code_word (m := ⟨14, 1⟩) (meth := k14m1) (c := k14c1) (by decide +kernel) rfl rfl rfl (by decide +kernel)
set_option maxRecDepth 65536 in
theorem w_c31 : (Jvm.Cond.code ({ cls := "java/lang/Math", name := "min", desc := "(II)I" } : Jvm.MethodName) jdk_29_method_69_code (2 : Nat) (Option.some Jvm.ClassFile.FieldType.int)).before args0 about1 = true := code_word (m := ⟨15, 1⟩) (meth := k15m1) (c := k15c1) (by decide +kernel) rfl rfl rfl (by decide +kernel)
set_option maxRecDepth 65536 in
theorem w_c32 : (Jvm.Cond.code ({ cls := "com/example/portcullis/portcullis/gate/ChallengeWithRealmPinLaw", name := "at", desc := "(Ljava/lang/String;IC)Z" } : Jvm.MethodName) method_4_code (3 : Nat) (Option.some Jvm.ClassFile.FieldType.boolean)).before args0 about1 = true := code_word (m := ⟨1, 3⟩) (meth := k1m3) (c := k1c3) (by decide +kernel) rfl rfl rfl (by decide +kernel)
set_option maxRecDepth 65536 in
theorem w_c33 : (Jvm.Cond.code ({ cls := "java/lang/String", name := "charAt", desc := "(I)C" } : Jvm.MethodName) jdk_42_method_56_code (2 : Nat) (Option.some Jvm.ClassFile.FieldType.char)).before args0 about1 = true := code_word (m := ⟨7, 4⟩) (meth := k7m4) (c := k7c4) (by decide +kernel) rfl rfl rfl (by decide +kernel)
set_option maxRecDepth 65536 in
theorem w_c34 : (Jvm.Cond.code ({ cls := "java/lang/String", name := "isLatin1", desc := "()Z" } : Jvm.MethodName) jdk_42_method_154_code (1 : Nat) (Option.some Jvm.ClassFile.FieldType.boolean)).before args0 about1 = true := code_word (m := ⟨7, 9⟩) (meth := k7m9) (c := k7c9) (by decide +kernel) rfl rfl rfl (by decide +kernel)
set_option maxRecDepth 65536 in
theorem w_c35 : (Jvm.Cond.code ({ cls := "java/lang/StringLatin1", name := "charAt", desc := "([BI)C" } : Jvm.MethodName) jdk_43_method_2_code (2 : Nat) (Option.some Jvm.ClassFile.FieldType.char)).before args0 about1 = true := code_word (m := ⟨13, 1⟩) (meth := k13m1) (c := k13c1) (by decide +kernel) rfl rfl rfl (by decide +kernel)
set_option maxRecDepth 65536 in
theorem w_c36 : (Jvm.Cond.code ({ cls := "java/lang/String", name := "checkIndex", desc := "(II)V" } : Jvm.MethodName) jdk_42_method_155_code (2 : Nat) (Option.none : Option Jvm.ClassFile.FieldType)).before args0 about1 = true := code_word (m := ⟨7, 10⟩) (meth := k7m10) (c := k7c10) (by decide +kernel) rfl rfl rfl (by decide +kernel)
set_option maxRecDepth 65536 in
theorem w_c37 : (Jvm.Cond.code ({ cls := "jdk/internal/util/Preconditions", name := "checkIndex", desc := "(IILjava/util/function/BiFunction;)I" } : Jvm.MethodName) jdk_41_method_11_code (3 : Nat) (Option.some Jvm.ClassFile.FieldType.int)).before args0 about1 = true := code_word (m := ⟨16, 1⟩) (meth := k16m1) (c := k16c1) (by decide +kernel) rfl rfl rfl (by decide +kernel)
set_option maxRecDepth 65536 in
theorem w_c38 : (Jvm.Cond.code ({ cls := "java/lang/StringUTF16", name := "compress", desc := "([CII)[B" } : Jvm.MethodName) jdk_52_method_16_code (6 : Nat) (Option.some (Jvm.ClassFile.FieldType.array Jvm.ClassFile.FieldType.byte))).before args0 about1 = true := code_word (m := ⟨17, 2⟩) (meth := k17m2) (c := k17c2) (by decide +kernel) rfl rfl rfl (by decide +kernel)
set_option maxRecDepth 65536 in
theorem w_c39 : (Jvm.Cond.code ({ cls := "java/lang/StringUTF16", name := "compress", desc := "([CI[BII)I" } : Jvm.MethodName) jdk_52_method_21_code (7 : Nat) (Option.some Jvm.ClassFile.FieldType.int)).before args0 about1 = true := code_word (m := ⟨17, 3⟩) (meth := k17m3) (c := k17c3) (by decide +kernel) rfl rfl rfl (by decide +kernel)
set_option maxRecDepth 65536 in
theorem w_c40 : (Jvm.Cond.code ({ cls := "java/lang/StringUTF16", name := "coderFromArrayLen", desc := "([BI)B" } : Jvm.MethodName) jdk_52_method_15_code (2 : Nat) (Option.some Jvm.ClassFile.FieldType.byte)).before args0 about1 = true := code_word (m := ⟨17, 1⟩) (meth := k17m1) (c := k17c1) (by decide +kernel) rfl rfl rfl (by decide +kernel)
set_option maxRecDepth 65536 in
theorem w_c41 : (Jvm.Cond.code ({ cls := "com/example/portcullis/portcullis/gate/ChallengeWithRealmPinLaw", name := "step", desc := "(Ljava/lang/String;IC)I" } : Jvm.MethodName) method_5_code (4 : Nat) (Option.some Jvm.ClassFile.FieldType.int)).before args0 about1 = true := code_word (m := ⟨1, 4⟩) (meth := k1m4) (c := k1c4) (by decide +kernel) rfl rfl rfl (by decide +kernel)
def codes1 : List Jvm.Cond := [Jvm.Cond.code x code maxLocals ret, Jvm.Cond.code ({ cls := "com/example/portcullis/portcullis/gate/ChallengeWithRealmPinLaw", name := "printable", desc := "(I)C" } : Jvm.MethodName) method_3_code (1 : Nat) (Option.some Jvm.ClassFile.FieldType.char), Jvm.Cond.code ({ cls := "com/example/portcullis/portcullis/gate/ChallengeWithRealmPinLaw", name := "mk", desc := "(ICCC)Ljava/lang/String;" } : Jvm.MethodName) method_2_code (4 : Nat) (Option.some (Jvm.ClassFile.FieldType.object "java/lang/String")), Jvm.Cond.code ({ cls := "java/lang/String", name := "<init>", desc := "([C)V" } : Jvm.MethodName) jdk_42_method_3_code (2 : Nat) (Option.none : Option Jvm.ClassFile.FieldType), Jvm.Cond.code ({ cls := "java/lang/String", name := "<init>", desc := "([CIILjava/lang/Void;)V" } : Jvm.MethodName) jdk_42_method_149_code (6 : Nat) (Option.none : Option Jvm.ClassFile.FieldType), Jvm.Cond.code ({ cls := "java/lang/Object", name := "<init>", desc := "()V" } : Jvm.MethodName) object_method_1_code (1 : Nat) (Option.none : Option Jvm.ClassFile.FieldType), Jvm.Cond.code ({ cls := "com/example/portcullis/portcullis/gate/Challenge", name := "withRealm", desc := "(Ljava/lang/String;Ljava/lang/String;)Ljava/lang/String;" } : Jvm.MethodName) prog_11_method_2_code (5 : Nat) (Option.some (Jvm.ClassFile.FieldType.object "java/lang/String")), Jvm.Cond.code ({ cls := "java/lang/StringBuilder", name := "<init>", desc := "(Ljava/lang/String;)V" } : Jvm.MethodName) jdk_67_method_3_code (2 : Nat) (Option.none : Option Jvm.ClassFile.FieldType), Jvm.Cond.code ({ cls := "java/lang/AbstractStringBuilder", name := "<init>", desc := "(Ljava/lang/String;)V" } : Jvm.MethodName) jdk_68_method_3_code (5 : Nat) (Option.none : Option Jvm.ClassFile.FieldType), Jvm.Cond.code ({ cls := "java/lang/String", name := "length", desc := "()I" } : Jvm.MethodName) jdk_42_method_54_code (1 : Nat) (Option.some Jvm.ClassFile.FieldType.int), Jvm.Cond.code ({ cls := "java/lang/String", name := "coder", desc := "()B" } : Jvm.MethodName) jdk_42_method_152_code (1 : Nat) (Option.some Jvm.ClassFile.FieldType.byte), Jvm.Cond.code ({ cls := "java/lang/StringBuilder", name := "append", desc := "(Ljava/lang/String;)Ljava/lang/AbstractStringBuilder;" } : Jvm.MethodName) jdk_67_method_80_code (2 : Nat) (Option.some (Jvm.ClassFile.FieldType.object "java/lang/AbstractStringBuilder")), Jvm.Cond.code ({ cls := "java/lang/StringBuilder", name := "append", desc := "(Ljava/lang/String;)Ljava/lang/StringBuilder;" } : Jvm.MethodName) jdk_67_method_7_code (2 : Nat) (Option.some (Jvm.ClassFile.FieldType.object "java/lang/StringBuilder")), Jvm.Cond.code ({ cls := "java/lang/AbstractStringBuilder", name := "append", desc := "(Ljava/lang/String;)Ljava/lang/AbstractStringBuilder;" } : Jvm.MethodName) jdk_68_method_22_code (3 : Nat) (Option.some (Jvm.ClassFile.FieldType.object "java/lang/AbstractStringBuilder")), Jvm.Cond.code ({ cls := "java/lang/AbstractStringBuilder", name := "ensureCapacityInternal", desc := "(I)V" } : Jvm.MethodName) jdk_68_method_9_code (3 : Nat) (Option.none : Option Jvm.ClassFile.FieldType), Jvm.Cond.code ({ cls := "java/lang/AbstractStringBuilder", name := "putStringAt", desc := "(ILjava/lang/String;)V" } : Jvm.MethodName) jdk_68_method_73_code (3 : Nat) (Option.none : Option Jvm.ClassFile.FieldType), Jvm.Cond.code ({ cls := "java/lang/AbstractStringBuilder", name := "inflateIfNeededFor", desc := "(Ljava/lang/String;)V" } : Jvm.MethodName) jdk_68_method_71_code (2 : Nat) (Option.none : Option Jvm.ClassFile.FieldType), Jvm.Cond.code ({ cls := "java/lang/String", name := "getBytes", desc := "([BIB)V" } : Jvm.MethodName) jdk_42_method_147_code (4 : Nat) (Option.none : Option Jvm.ClassFile.FieldType), Jvm.Cond.code ({ cls := "java/lang/StringBuilder", name := "append", desc := "(C)Ljava/lang/StringBuilder;" } : Jvm.MethodName) jdk_67_method_14_code (2 : Nat) (Option.some (Jvm.ClassFile.FieldType.object "java/lang/StringBuilder")), Jvm.Cond.code ({ cls := "java/lang/AbstractStringBuilder", name := "append", desc := "(C)Ljava/lang/AbstractStringBuilder;" } : Jvm.MethodName) jdk_68_method_31_code (2 : Nat) (Option.some (Jvm.ClassFile.FieldType.object "java/lang/AbstractStringBuilder")), Jvm.Cond.code ({ cls := "java/lang/AbstractStringBuilder", name := "isLatin1", desc := "()Z" } : Jvm.MethodName) jdk_68_method_68_code (1 : Nat) (Option.some Jvm.ClassFile.FieldType.boolean), Jvm.Cond.code ({ cls := "java/lang/StringLatin1", name := "canEncode", desc := "(C)Z" } : Jvm.MethodName) jdk_43_method_3_code (1 : Nat) (Option.some Jvm.ClassFile.FieldType.boolean), Jvm.Cond.code ({ cls := "java/lang/StringBuilder", name := "toString", desc := "()Ljava/lang/String;" } : Jvm.MethodName) jdk_67_method_42_code (1 : Nat) (Option.some (Jvm.ClassFile.FieldType.object "java/lang/String")), Jvm.Cond.code ({ cls := "java/lang/String", name := "<init>", desc := "(Ljava/lang/StringBuilder;)V" } : Jvm.MethodName) jdk_42_method_53_code (2 : Nat) (Option.none : Option Jvm.ClassFile.FieldType), Jvm.Cond.code ({ cls := "java/lang/String", name := "<init>", desc := "(Ljava/lang/AbstractStringBuilder;Ljava/lang/Void;)V" } : Jvm.MethodName) jdk_42_method_150_code (5 : Nat) (Option.none : Option Jvm.ClassFile.FieldType), Jvm.Cond.code ({ cls := "java/lang/AbstractStringBuilder", name := "getValue", desc := "()[B" } : Jvm.MethodName) jdk_68_method_64_code (1 : Nat) (Option.some (Jvm.ClassFile.FieldType.array Jvm.ClassFile.FieldType.byte)), Jvm.Cond.code ({ cls := "java/lang/StringBuilder", name := "length", desc := "()I" } : Jvm.MethodName) jdk_67_method_93_code (1 : Nat) (Option.some Jvm.ClassFile.FieldType.int), Jvm.Cond.code ({ cls := "java/lang/AbstractStringBuilder", name := "length", desc := "()I" } : Jvm.MethodName) jdk_68_method_6_code (1 : Nat) (Option.some Jvm.ClassFile.FieldType.int), Jvm.Cond.code ({ cls := "java/util/Arrays", name := "copyOfRange", desc := "([BII)[B" } : Jvm.MethodName) jdk_65_method_132_code (3 : Nat) (Option.some (Jvm.ClassFile.FieldType.array Jvm.ClassFile.FieldType.byte)), Jvm.Cond.code ({ cls := "java/util/Arrays", name := "copyOfRangeByte", desc := "([BII)[B" } : Jvm.MethodName) jdk_65_method_133_code (5 : Nat) (Option.some (Jvm.ClassFile.FieldType.array Jvm.ClassFile.FieldType.byte)), Jvm.Cond.code ({ cls := "java/util/Arrays", name := "checkLength", desc := "(II)V" } : Jvm.MethodName) jdk_65_method_131_code (2 : Nat) (Option.none : Option Jvm.ClassFile.FieldType), Jvm.Cond.code ({ cls := "java/lang/Math", name := "min", desc := "(II)I" } : Jvm.MethodName) jdk_29_method_69_code (2 : Nat) (Option.some Jvm.ClassFile.FieldType.int), Jvm.Cond.code ({ cls := "com/example/portcullis/portcullis/gate/ChallengeWithRealmPinLaw", name := "at", desc := "(Ljava/lang/String;IC)Z" } : Jvm.MethodName) method_4_code (3 : Nat) (Option.some Jvm.ClassFile.FieldType.boolean), Jvm.Cond.code ({ cls := "java/lang/String", name := "charAt", desc := "(I)C" } : Jvm.MethodName) jdk_42_method_56_code (2 : Nat) (Option.some Jvm.ClassFile.FieldType.char), Jvm.Cond.code ({ cls := "java/lang/String", name := "isLatin1", desc := "()Z" } : Jvm.MethodName) jdk_42_method_154_code (1 : Nat) (Option.some Jvm.ClassFile.FieldType.boolean), Jvm.Cond.code ({ cls := "java/lang/StringLatin1", name := "charAt", desc := "([BI)C" } : Jvm.MethodName) jdk_43_method_2_code (2 : Nat) (Option.some Jvm.ClassFile.FieldType.char), Jvm.Cond.code ({ cls := "java/lang/String", name := "checkIndex", desc := "(II)V" } : Jvm.MethodName) jdk_42_method_155_code (2 : Nat) (Option.none : Option Jvm.ClassFile.FieldType), Jvm.Cond.code ({ cls := "jdk/internal/util/Preconditions", name := "checkIndex", desc := "(IILjava/util/function/BiFunction;)I" } : Jvm.MethodName) jdk_41_method_11_code (3 : Nat) (Option.some Jvm.ClassFile.FieldType.int), Jvm.Cond.code ({ cls := "java/lang/StringUTF16", name := "compress", desc := "([CII)[B" } : Jvm.MethodName) jdk_52_method_16_code (6 : Nat) (Option.some (Jvm.ClassFile.FieldType.array Jvm.ClassFile.FieldType.byte)), Jvm.Cond.code ({ cls := "java/lang/StringUTF16", name := "compress", desc := "([CI[BII)I" } : Jvm.MethodName) jdk_52_method_21_code (7 : Nat) (Option.some Jvm.ClassFile.FieldType.int), Jvm.Cond.code ({ cls := "java/lang/StringUTF16", name := "coderFromArrayLen", desc := "([BI)B" } : Jvm.MethodName) jdk_52_method_15_code (2 : Nat) (Option.some Jvm.ClassFile.FieldType.byte), Jvm.Cond.code ({ cls := "com/example/portcullis/portcullis/gate/ChallengeWithRealmPinLaw", name := "step", desc := "(Ljava/lang/String;IC)I" } : Jvm.MethodName) method_5_code (4 : Nat) (Option.some Jvm.ClassFile.FieldType.int)]
set_option maxRecDepth 65536 in
theorem codes_eq : words1.filter isCode = codes1 := rfl
theorem w_codes : ∀ c ∈ words1.filter isCode, c.before args0 about1 = true := by
  rw [codes_eq]
  intro c hc
  simp only [codes1, List.mem_cons, List.not_mem_nil, or_false] at hc
  rcases hc with rfl | rfl | rfl | rfl | rfl | rfl | rfl | rfl | rfl | rfl | rfl | rfl | rfl | rfl | rfl | rfl | rfl | rfl | rfl | rfl | rfl | rfl | rfl | rfl | rfl | rfl | rfl | rfl | rfl | rfl | rfl | rfl | rfl | rfl | rfl | rfl | rfl | rfl | rfl | rfl | rfl | rfl
  · exact w_c0
  · exact w_c1
  · exact w_c2
  · exact w_c3
  · exact w_c4
  · exact w_c5
  · exact w_c6
  · exact w_c7
  · exact w_c8
  · exact w_c9
  · exact w_c10
  · exact w_c11
  · exact w_c12
  · exact w_c13
  · exact w_c14
  · exact w_c15
  · exact w_c16
  · exact w_c17
  · exact w_c18
  · exact w_c19
  · exact w_c20
  · exact w_c21
  · exact w_c22
  · exact w_c23
  · exact w_c24
  · exact w_c25
  · exact w_c26
  · exact w_c27
  · exact w_c28
  · exact w_c29
  · exact w_c30
  · exact w_c31
  · exact w_c32
  · exact w_c33
  · exact w_c34
  · exact w_c35
  · exact w_c36
  · exact w_c37
  · exact w_c38
  · exact w_c39
  · exact w_c40
  · exact w_c41
set_option maxRecDepth 65536 in
theorem w_t1 : (words1.take 24).all (fun c => isCode c || c.before args0 about1) = true := by decide +kernel
set_option maxRecDepth 65536 in
theorem w_t2 : ((words1.drop 24).take 24).all (fun c => isCode c || c.before args0 about1) = true := by decide +kernel
set_option maxRecDepth 65536 in
theorem w_t3 : (((words1.drop 24).drop 24).take 24).all (fun c => isCode c || c.before args0 about1) = true := by decide +kernel
set_option maxRecDepth 65536 in
theorem w_t4 : ((((words1.drop 24).drop 24).drop 24).take 24).all (fun c => isCode c || c.before args0 about1) = true := by decide +kernel
set_option maxRecDepth 65536 in
theorem w_t5 : (((((words1.drop 24).drop 24).drop 24).drop 24).take 24).all (fun c => isCode c || c.before args0 about1) = true := by decide +kernel
set_option maxRecDepth 65536 in
theorem w_t6 : ((((((words1.drop 24).drop 24).drop 24).drop 24).drop 24).take 24).all (fun c => isCode c || c.before args0 about1) = true := by decide +kernel
set_option maxRecDepth 65536 in
theorem w_t7 : (((((((words1.drop 24).drop 24).drop 24).drop 24).drop 24).drop 24).take 24).all (fun c => isCode c || c.before args0 about1) = true := by decide +kernel
set_option maxRecDepth 65536 in
theorem w_t8 : ((((((((words1.drop 24).drop 24).drop 24).drop 24).drop 24).drop 24).drop 24).take 24).all (fun c => isCode c || c.before args0 about1) = true := by decide +kernel
set_option maxRecDepth 65536 in
theorem w_t9 : ((((((((words1.drop 24).drop 24).drop 24).drop 24).drop 24).drop 24).drop 24).drop 24).all (fun c => isCode c || c.before args0 about1) = true := by decide +kernel
theorem w_tables : (allAtoms (Jvm.Cond.code x code maxLocals ret :: tables_1)).before args0 about1 = true := by
  rw [allAtoms_all]
  show words1.all (fun c => c.before args0 about1) = true
  refine all_split ?_ w_codes
  rw [← List.take_append_drop 24 words1, List.all_append, w_t1, ← List.take_append_drop 24 (words1.drop 24), List.all_append, w_t2, ← List.take_append_drop 24 ((words1.drop 24).drop 24), List.all_append, w_t3, ← List.take_append_drop 24 (((words1.drop 24).drop 24).drop 24), List.all_append, w_t4, ← List.take_append_drop 24 ((((words1.drop 24).drop 24).drop 24).drop 24), List.all_append, w_t5, ← List.take_append_drop 24 (((((words1.drop 24).drop 24).drop 24).drop 24).drop 24), List.all_append, w_t6, ← List.take_append_drop 24 ((((((words1.drop 24).drop 24).drop 24).drop 24).drop 24).drop 24), List.all_append, w_t7, ← List.take_append_drop 24 (((((((words1.drop 24).drop 24).drop 24).drop 24).drop 24).drop 24).drop 24), List.all_append, w_t8, w_t9]
  rfl
set_option maxRecDepth 65536 in
theorem w_rest : rest_1_c.before args0 about1 = true := by decide +kernel
set_option maxRecDepth 65536 in
theorem w_case : (Jvm.Cond.and given_1 narrow_1).before args0 about1 = true := by decide +kernel
set_option maxRecDepth 65536 in
theorem w_consts : constsHeld consts_1 about1 := Jvm.Lit.constsHeldB_iff.mp (by decide +kernel)
theorem w_applies : (headSpec (Jvm.Cond.code x code maxLocals ret :: tables_1) room_1).applies x e0.platform about1 = true :=
  (Spec.applies_iff w_frames).mpr ⟨w_running, w_runnable, w_alone, w_named, w_hears, w_ripe, w_room, w_tables⟩
theorem atStart : AtStart classFile x code maxLocals ret World_1 tables_1 room_1 Calls_1 rest_1 Pre_1 launch0 p0 e0 about1 theMethod args0 below0 :=
  ⟨lists_1, trivial, launch0.admits_env _ _ _, launch0.least_env, fairChoices_fair.cas, fairChoices_fair.clock, w_frames, w_args, w_heap, w_applies, ⟨w_consts, trivial⟩, w_rest, w_case⟩
end start1
theorem witness_1 : WitnessClaimed_1 := ⟨start1.p0, start1.e0, start1.about1, start1.theMethod, start1.args0, start1.below0, start1.atStart⟩
end Jvm.Pilot.@@N@@
