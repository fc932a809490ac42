import JvmDerived
import JvmDerived.Pilot.@@N@@Statement
import JvmDerived.Pilot.@@N@@Code
set_option linter.unusedVariables false
set_option linter.unusedSimpArgs false
namespace Jvm.Pilot.@@N@@
open Jvm Jvm.ClassFile Sem Op Lib Jvm.Free Jvm.Stand Jvm.LawKit Jvm.RoadKit Bundle Jvm.Pilot.@@N@@.Jvm.D
/-! ## A body, its walk (Wk) and its contract (Cn) -/
abbrev Bdy : Type := MethodName × ByteArray × Nat × Option FieldType × Room
abbrev Bdy.y (b : Bdy) : MethodName := b.1
abbrev Bdy.code (b : Bdy) : ByteArray := b.2.1
abbrev Bdy.maxL (b : Bdy) : Nat := b.2.2.1
abbrev Bdy.ret (b : Bdy) : Option FieldType := b.2.2.2.1
abbrev Bdy.room (b : Bdy) : Room := b.2.2.2.2
/-- what is known of the VM's tables: none: only warmer; some: which texts were interned, which literals are resolved -/
abbrev Lts : Type := Option (List String × List (String × Nat × Addr))
def VI (Z : State) (I : Lts) (vm : Vm) : Prop := match I with
  | none => Z.WarmedH vm
  | some q => IB Z vm q.1 ∧ ∀ u ∈ q.2, Lit (Z.setVm vm) u.1 u.2.1 u.2.2
theorem VI.warm {Z s : State} {I : Lts} {vm' : Vm} (hV : VI Z I s.vm) (hW : s.WarmedH vm') : VI Z I vm' := by
  cases I with
  | none => exact State.WarmedH.trans hV hW
  | some q =>
    refine ⟨?_, fun u hu => ?_⟩
    · obtain ⟨more, h1, h2⟩ := hV.1
      exact ⟨more, by rw [hW.interned_eq]; exact h1, h2⟩
    · exact Lit.stays (vm0 := s.vm) (hV.2 u hu) (by exact hW.wide)
abbrev Cx : Type := Launch × State × Nat × Nat × Bdy × (Option Value → Heap → Lts → Prop)
abbrev Cx.l (c : Cx) : Launch := c.1
abbrev Cx.Z (c : Cx) : State := c.2.1
abbrev Cx.N (c : Cx) : Nat := c.2.2.1
abbrev Cx.M (c : Cx) : Nat := c.2.2.2.1
abbrev Cx.b (c : Cx) : Bdy := c.2.2.2.2.1
abbrev Cx.Q (c : Cx) : Option Value → Heap → Lts → Prop := c.2.2.2.2.2
def Fini (C : Cx) (s : State) (o : Outcome) (t : State) : Prop :=
  ∃ v L J, o = .returned v ∧ C.Q v t.heap J ∧ VI C.Z J t.vm ∧ Fr C.N L ∧ Ext C.Z.heap t.heap ∧ ReturnedEndW s o t L C.b.room.cells C.b.room.slots
def St (C : Cx) (p : Program) (e : Env) (s : State) (vm0 : Vm) (m : MethodId) (args : Array Value) (below : List Frame) (meth : Method) (c : Code) (T : State) (locs : List Loc) (k0 : Nat) (h : Heap) (k n : Nat) (I : Lts) : Prop :=
  (p.tables.exec = Jvm.exec ∧ c.code = C.b.code ∧ c.maxLocals = C.b.maxL ∧ meth.sig.returnType = C.b.ret ∧ meth.locks = false ∧ meth.name = C.b.y.name ∧ C.Z.heap.size ≤ C.N ∧ s.heap.size = C.M ∧ Ext C.Z.heap s.heap) ∧
  (vm0.findClass C.b.y.cls = some m.cls ∧ C.Z.Warmed39 vm0 ∧ s.Since vm0 k0 ∧ VI C.Z I vm0) ∧
  (k0 ≤ h.size ∧ Stand p C.l e C.b.room (s.setVm vm0) m args below meth c T locs k n ∧ T.heap = h ∧ Ext C.Z.heap h ∧ C.N ≤ h.size ∧ Fr C.N locs)
def Wk (C : Cx) (h : Heap) (k n : Nat) (I : Lts) (pc : Nat) (Ls : Array Slot) (st : List Value) : Prop :=
  ∀ (p : Program) (e : Env) (s : State) (vm0 : Vm) (m : MethodId) (args : Array Value) (below : List Frame) (meth : Method) (c : Code) (T : State) (locs : List Loc) (k0 : Nat),
    St C p e s vm0 m args below meth c T locs k0 h k n I →
    ∃ t o, Steps p.tables e below (T.setTop (mkF m pc Ls st)) t ∧ t.status = .running ∧ Ended t below o ∧ Fini C s o t
def Cn (l : Launch) (Z : State) (N : Nat) (b : Bdy) (as : Array Value) (h : Heap) (I : Lts) (Q : Option Value → Heap → Lts → Prop) : Prop :=
  ∀ ws : List Jvm.Cond, MetFree l b.y (head1 (Jvm.Cond.code b.y b.code b.maxL b.ret :: ws) b.room) (fun a U => a = as ∧ Z.Warmed39 U.vm ∧ U.heap = h ∧ VI Z I U.vm ∧ Ext Z.heap h ∧ N ≤ h.size ∧ Z.heap.size ≤ N) (fun _ _ _ _ _ => True) (fun _ U o U' => Fini (l, Z, N, h.size, b, Q) U o U')
theorem own_ext {h0 h : Heap} (K : Keep h0 h []) : Ext h0 h := ⟨K.1, fun a c q => K.2.1 a c q nin0⟩
section Kit
variable {C : Cx} {h h' : Heap} {k n k' n' : Nat} {I : Lts} {pc pc' : Nat} {Ls Ls' : Array Slot} {st st' rest : List Value} {a0 : Array Value}
theorem Wk.step (hs : ∀ (p : Program) (e : Env) (m : MethodId) (below : List Frame) (c : Code) (T t : State), At T m c below → p.tables.exec = Jvm.exec → c.code = C.b.code → Steps p.tables e below (T.setTop (mkF m pc' Ls' st')) t → Steps p.tables e below (T.setTop (mkF m pc Ls st)) t)
    (r : Wk C h k n I pc' Ls' st') : Wk C h k n I pc Ls st := fun p e s vm0 m args below meth c T locs k0 S => by
  obtain ⟨t, o, h1, h2⟩ := r p e s vm0 m args below meth c T locs k0 S
  exact ⟨t, o, hs p e m below c T t S.2.2.2.1.here S.1.1 S.1.2.1 h1, h2⟩
/-- a step over the Stand, the heap as it is -/
theorem Wk.law (hs : ∀ (p : Program) (e : Env) (s : State) (vm0 : Vm) (m : MethodId) (args : Array Value) (below : List Frame) (meth : Method) (c : Code) (T : State) (locs : List Loc) (k0 : Nat), St C p e s vm0 m args below meth c T locs k0 h k n I →
      ∃ T', Stand p C.l e C.b.room (s.setVm vm0) m args below meth c T' locs k n ∧ T'.heap = h ∧ ∀ t, Steps p.tables e below (T'.setTop (mkF m pc' Ls' st')) t → Steps p.tables e below (T.setTop (mkF m pc Ls st)) t)
    (r : Wk C h k n I pc' Ls' st') : Wk C h k n I pc Ls st := fun p e s vm0 m args below meth c T locs k0 S => by
  obtain ⟨T', X', e', st⟩ := hs p e s vm0 m args below meth c T locs k0 S
  obtain ⟨t, o, h1, h2⟩ := r p e s vm0 m args below meth c T' locs k0 ⟨S.1, S.2.1, S.2.2.1, X', e', S.2.2.2.2.2⟩
  exact ⟨t, o, st t h1, h2⟩
/-- a step that writes one place -/
theorem Wk.lawW {a : Addr} {sl : Nat} {v : Value} (ha : C.N ≤ a) (hs : ∀ (p : Program) (e : Env) (s : State) (vm0 : Vm) (m : MethodId) (args : Array Value) (below : List Frame) (meth : Method) (c : Code) (T : State) (locs : List Loc) (k0 : Nat), St C p e s vm0 m args below meth c T locs k0 h k n I →
      ∃ T' h', Stand p C.l e C.b.room (s.setVm vm0) m args below meth c T' (locs ++ [⟨a, sl⟩]) k n ∧ T'.heap = h' ∧ Wr h h' a sl v ∧ ∀ t, Steps p.tables e below (T'.setTop (mkF m pc' Ls' st')) t → Steps p.tables e below (T.setTop (mkF m pc Ls st)) t)
    (r : ∀ h', Wr h h' a sl v → Wk C h' k n I pc' Ls' st') : Wk C h k n I pc Ls st := fun p e s vm0 m args below meth c T locs k0 S => by
  obtain ⟨T', h', X', e', W, st⟩ := hs p e s vm0 m args below meth c T locs k0 S
  obtain ⟨A, B, q1, q2, q3, q4, q5, q6⟩ := S
  have hO : Old C.Z C.Z.heap.size h := ⟨rfl, q4⟩
  obtain ⟨t, o, h1, h2⟩ := r h' W p e s vm0 m args below meth c T' _ k0 ⟨A, B, by rw [W.size]; exact q1, X', e', (hO.wr W (Nat.le_trans A.2.2.2.2.2.2.1 ha)).2, by rw [W.size]; exact q5, Fr.snoc X' q6 ha⟩
  exact ⟨t, o, st t h1, h2⟩
/-- a step that makes a cell -/
theorem Wk.lawE {P : Heap → Prop} (hs : ∀ (p : Program) (e : Env) (s : State) (vm0 : Vm) (m : MethodId) (args : Array Value) (below : List Frame) (meth : Method) (c : Code) (T : State) (locs : List Loc) (k0 : Nat), St C p e s vm0 m args below meth c T locs k0 h k n I →
      ∃ T' h', Stand p C.l e C.b.room (s.setVm vm0) m args below meth c T' locs k' n' ∧ T'.heap = h' ∧ Ext h h' ∧ P h' ∧ ∀ t, Steps p.tables e below (T'.setTop (mkF m pc' Ls' st')) t → Steps p.tables e below (T.setTop (mkF m pc Ls st)) t)
    (r : ∀ h', Ext h h' → P h' → Wk C h' k' n' I pc' Ls' st') : Wk C h k n I pc Ls st := fun p e s vm0 m args below meth c T locs k0 S => by
  obtain ⟨T', h', X', e', E, hp, st⟩ := hs p e s vm0 m args below meth c T locs k0 S
  obtain ⟨A, B, q1, q2, q3, q4, q5, q6⟩ := S
  obtain ⟨t, o, h1, h2⟩ := r h' E hp p e s vm0 m args below meth c T' _ k0 ⟨A, B, Nat.le_trans q1 E.1, X', e', ⟨Nat.le_trans q4.1 E.1, fun x c hx => E.2 _ _ (q4.2 _ _ hx)⟩, Nat.le_trans q5 E.1, q6⟩
  exact ⟨t, o, st t h1, h2⟩
/-- what stands at every point -/
theorem Wk.see (r : Ext C.Z.heap h → C.N ≤ h.size → C.Z.heap.size ≤ C.N → Wk C h k n I pc Ls st) : Wk C h k n I pc Ls st := fun p e s vm0 m args below meth c T locs k0 S =>
  r S.2.2.2.2.2.1 S.2.2.2.2.2.2.1 S.1.2.2.2.2.2.2.1 p e s vm0 m args below meth c T locs k0 S
theorem Wk.more (hk : k ≤ k') (hn : n ≤ n') (r : Wk C h k' n' I pc Ls st) : Wk C h k n I pc Ls st := fun p e s vm0 m args below meth c T locs k0 S =>
  r p e s vm0 m args below meth c T locs k0 ⟨S.1, S.2.1, S.2.2.1, S.2.2.2.1.mono hk hn, S.2.2.2.2⟩
theorem Wk.iadd {x y : Int32} (hd : decode C.b.code pc = .ok (.iadd, 1)) (hp : pc + 1 = pc') (r : Wk C h k n I pc' Ls (.int (x + y) :: rest)) : Wk C h k n I pc Ls (.int y :: .int x :: rest) := by
  subst hp
  exact Wk.step (fun _ _ _ _ _ _ _ ha hx hby kt => XS.iadd ha hx rfl (hb hby hd) rfl kt) r
theorem Wk.isub {x y : Int32} (hd : decode C.b.code pc = .ok (.isub, 1)) (hp : pc + 1 = pc') (r : Wk C h k n I pc' Ls (.int (x - y) :: rest)) : Wk C h k n I pc Ls (.int y :: .int x :: rest) := by
  subst hp
  exact Wk.step (fun _ _ _ _ _ _ _ ha hx hby kt => XS.isub ha hx rfl (hb hby hd) rfl kt) r
theorem Wk.imul {x y : Int32} (hd : decode C.b.code pc = .ok (.imul, 1)) (hp : pc + 1 = pc') (r : Wk C h k n I pc' Ls (.int (x * y) :: rest)) : Wk C h k n I pc Ls (.int y :: .int x :: rest) := by
  subst hp
  exact Wk.step (fun _ _ _ _ _ _ _ ha hx hby kt => XS.imul ha hx rfl (hb hby hd) rfl kt) r
theorem Wk.iand {x y : Int32} (hd : decode C.b.code pc = .ok (.iand, 1)) (hp : pc + 1 = pc') (r : Wk C h k n I pc' Ls (.int (x &&& y) :: rest)) : Wk C h k n I pc Ls (.int y :: .int x :: rest) := by
  subst hp
  exact Wk.step (fun _ _ _ _ _ _ _ ha hx hby kt => XS.iand ha hx rfl (hb hby hd) rfl kt) r
theorem Wk.ior {x y : Int32} (hd : decode C.b.code pc = .ok (.ior, 1)) (hp : pc + 1 = pc') (r : Wk C h k n I pc' Ls (.int (x ||| y) :: rest)) : Wk C h k n I pc Ls (.int y :: .int x :: rest) := by
  subst hp
  exact Wk.step (fun _ _ _ _ _ _ _ ha hx hby kt => XS.ior ha hx rfl (hb hby hd) rfl kt) r
theorem Wk.ixor {x y : Int32} (hd : decode C.b.code pc = .ok (.ixor, 1)) (hp : pc + 1 = pc') (r : Wk C h k n I pc' Ls (.int (x ^^^ y) :: rest)) : Wk C h k n I pc Ls (.int y :: .int x :: rest) := by
  subst hp
  exact Wk.step (fun _ _ _ _ _ _ _ ha hx hby kt => XS.ixor ha hx rfl (hb hby hd) rfl kt) r
theorem Wk.ishl {x y : Int32} (hd : decode C.b.code pc = .ok (.ishl, 1)) (hp : pc + 1 = pc') (r : Wk C h k n I pc' Ls (.int (x <<< (y &&& 31)) :: rest)) : Wk C h k n I pc Ls (.int y :: .int x :: rest) := by
  subst hp
  exact Wk.step (fun _ _ _ _ _ _ _ ha hx hby kt => XS.ishl ha hx rfl (hb hby hd) rfl kt) r
theorem Wk.ishr {x y : Int32} (hd : decode C.b.code pc = .ok (.ishr, 1)) (hp : pc + 1 = pc') (r : Wk C h k n I pc' Ls (.int (x >>> (y &&& 31)) :: rest)) : Wk C h k n I pc Ls (.int y :: .int x :: rest) := by
  subst hp
  exact Wk.step (fun _ _ _ _ _ _ _ ha hx hby kt => XS.ishr ha hx rfl (hb hby hd) rfl kt) r
theorem Wk.iushr {x y : Int32} (hd : decode C.b.code pc = .ok (.iushr, 1)) (hp : pc + 1 = pc') (r : Wk C h k n I pc' Ls (.int ((x.toUInt32 >>> (y &&& 31).toUInt32).toInt32) :: rest)) : Wk C h k n I pc Ls (.int y :: .int x :: rest) := by
  subst hp
  exact Wk.step (fun _ _ _ _ _ _ _ ha hx hby kt => XS.iushr ha hx rfl (hb hby hd) rfl kt) r
theorem Wk.ladd {x y : Int64} (hd : decode C.b.code pc = .ok (.ladd, 1)) (hp : pc + 1 = pc') (r : Wk C h k n I pc' Ls (.long (x + y) :: rest)) : Wk C h k n I pc Ls (.long y :: .long x :: rest) := by
  subst hp
  exact Wk.step (fun _ _ _ _ _ _ _ ha hx hby kt => XS.ladd ha hx rfl (hb hby hd) rfl kt) r
theorem Wk.lsub {x y : Int64} (hd : decode C.b.code pc = .ok (.lsub, 1)) (hp : pc + 1 = pc') (r : Wk C h k n I pc' Ls (.long (x - y) :: rest)) : Wk C h k n I pc Ls (.long y :: .long x :: rest) := by
  subst hp
  exact Wk.step (fun _ _ _ _ _ _ _ ha hx hby kt => XS.lsub ha hx rfl (hb hby hd) rfl kt) r
theorem Wk.lmul {x y : Int64} (hd : decode C.b.code pc = .ok (.lmul, 1)) (hp : pc + 1 = pc') (r : Wk C h k n I pc' Ls (.long (x * y) :: rest)) : Wk C h k n I pc Ls (.long y :: .long x :: rest) := by
  subst hp
  exact Wk.step (fun _ _ _ _ _ _ _ ha hx hby kt => XS.lmul ha hx rfl (hb hby hd) rfl kt) r
theorem Wk.land {x y : Int64} (hd : decode C.b.code pc = .ok (.land, 1)) (hp : pc + 1 = pc') (r : Wk C h k n I pc' Ls (.long (x &&& y) :: rest)) : Wk C h k n I pc Ls (.long y :: .long x :: rest) := by
  subst hp
  exact Wk.step (fun _ _ _ _ _ _ _ ha hx hby kt => XS.land ha hx rfl (hb hby hd) rfl kt) r
theorem Wk.lor {x y : Int64} (hd : decode C.b.code pc = .ok (.lor, 1)) (hp : pc + 1 = pc') (r : Wk C h k n I pc' Ls (.long (x ||| y) :: rest)) : Wk C h k n I pc Ls (.long y :: .long x :: rest) := by
  subst hp
  exact Wk.step (fun _ _ _ _ _ _ _ ha hx hby kt => XS.lor ha hx rfl (hb hby hd) rfl kt) r
theorem Wk.lxor {x y : Int64} (hd : decode C.b.code pc = .ok (.lxor, 1)) (hp : pc + 1 = pc') (r : Wk C h k n I pc' Ls (.long (x ^^^ y) :: rest)) : Wk C h k n I pc Ls (.long y :: .long x :: rest) := by
  subst hp
  exact Wk.step (fun _ _ _ _ _ _ _ ha hx hby kt => XS.lxor ha hx rfl (hb hby hd) rfl kt) r
theorem Wk.lshl {x : Int64} {y : Int32} (hd : decode C.b.code pc = .ok (.lshl, 1)) (hp : pc + 1 = pc') (r : Wk C h k n I pc' Ls (.long (x <<< (y &&& 0x3f).toInt64) :: rest)) : Wk C h k n I pc Ls (.int y :: .long x :: rest) := by
  subst hp
  exact Wk.step (fun _ _ _ _ _ _ _ ha hx hby kt => XS.lshl ha hx rfl (hb hby hd) rfl kt) r
theorem Wk.lshr {x : Int64} {y : Int32} (hd : decode C.b.code pc = .ok (.lshr, 1)) (hp : pc + 1 = pc') (r : Wk C h k n I pc' Ls (.long (x >>> (y &&& 0x3f).toInt64) :: rest)) : Wk C h k n I pc Ls (.int y :: .long x :: rest) := by
  subst hp
  exact Wk.step (fun _ _ _ _ _ _ _ ha hx hby kt => XS.lshr ha hx rfl (hb hby hd) rfl kt) r
theorem Wk.lushr {x : Int64} {y : Int32} (hd : decode C.b.code pc = .ok (.lushr, 1)) (hp : pc + 1 = pc') (r : Wk C h k n I pc' Ls (.long ((x.toUInt64 >>> (y &&& 0x3f).toInt64.toUInt64).toInt64) :: rest)) : Wk C h k n I pc Ls (.int y :: .long x :: rest) := by
  subst hp
  exact Wk.step (fun _ _ _ _ _ _ _ ha hx hby kt => XS.lushr ha hx rfl (hb hby hd) rfl kt) r
theorem Wk.idiv {x y : Int32} (hd : decode C.b.code pc = .ok (.idiv, 1)) (hp : pc + 1 = pc') (hy : y ≠ 0) (r : Wk C h k n I pc' Ls (.int (x / y) :: rest)) : Wk C h k n I pc Ls (.int y :: .int x :: rest) := by
  subst hp
  exact Wk.step (fun _ _ _ _ _ _ _ ha hx hby kt => XS.idiv ha hx rfl (hb hby hd) rfl hy kt) r
theorem Wk.ldiv {x y : Int64} (hd : decode C.b.code pc = .ok (.ldiv, 1)) (hp : pc + 1 = pc') (hy : y ≠ 0) (r : Wk C h k n I pc' Ls (.long (x / y) :: rest)) : Wk C h k n I pc Ls (.long y :: .long x :: rest) := by
  subst hp
  exact Wk.step (fun _ _ _ _ _ _ _ ha hx hby kt => XS.ldiv ha hx rfl (hb hby hd) rfl hy kt) r
theorem Wk.lrem {x y : Int64} (hd : decode C.b.code pc = .ok (.lrem, 1)) (hp : pc + 1 = pc') (hy : y ≠ 0) (r : Wk C h k n I pc' Ls (.long (x - (x / y) * y) :: rest)) : Wk C h k n I pc Ls (.long y :: .long x :: rest) := by
  subst hp
  exact Wk.step (fun _ _ _ _ _ _ _ ha hx hby kt => XS.lrem ha hx rfl (hb hby hd) rfl hy kt) r
theorem Wk.ineg {x : Int32} (hd : decode C.b.code pc = .ok (.ineg, 1)) (hp : pc + 1 = pc') (r : Wk C h k n I pc' Ls (.int (-x) :: rest)) : Wk C h k n I pc Ls (.int x :: rest) := by
  subst hp
  exact Wk.step (fun _ _ _ _ _ _ _ ha hx hby kt => XS.ineg ha hx rfl (hb hby hd) rfl kt) r
theorem Wk.lneg {x : Int64} (hd : decode C.b.code pc = .ok (.lneg, 1)) (hp : pc + 1 = pc') (r : Wk C h k n I pc' Ls (.long (-x) :: rest)) : Wk C h k n I pc Ls (.long x :: rest) := by
  subst hp
  exact Wk.step (fun _ _ _ _ _ _ _ ha hx hby kt => XS.lneg ha hx rfl (hb hby hd) rfl kt) r
theorem Wk.i2l {x : Int32} (hd : decode C.b.code pc = .ok (.i2l, 1)) (hp : pc + 1 = pc') (r : Wk C h k n I pc' Ls (.long x.toInt64 :: rest)) : Wk C h k n I pc Ls (.int x :: rest) := by
  subst hp
  exact Wk.step (fun _ _ _ _ _ _ _ ha hx hby kt => XS.i2l ha hx rfl (hb hby hd) rfl kt) r
theorem Wk.l2i {x : Int64} (hd : decode C.b.code pc = .ok (.l2i, 1)) (hp : pc + 1 = pc') (r : Wk C h k n I pc' Ls (.int x.toInt32 :: rest)) : Wk C h k n I pc Ls (.long x :: rest) := by
  subst hp
  exact Wk.step (fun _ _ _ _ _ _ _ ha hx hby kt => XS.l2i ha hx rfl (hb hby hd) rfl kt) r
theorem Wk.i2b {x : Int32} (hd : decode C.b.code pc = .ok (.i2b, 1)) (hp : pc + 1 = pc') (r : Wk C h k n I pc' Ls (.int x.toInt8.toInt32 :: rest)) : Wk C h k n I pc Ls (.int x :: rest) := by
  subst hp
  exact Wk.step (fun _ _ _ _ _ _ _ ha hx hby kt => XS.i2b ha hx rfl (hb hby hd) rfl kt) r
theorem Wk.i2c {x : Int32} (hd : decode C.b.code pc = .ok (.i2c, 1)) (hp : pc + 1 = pc') (r : Wk C h k n I pc' Ls (.int x.toUInt32.toUInt16.toUInt32.toInt32 :: rest)) : Wk C h k n I pc Ls (.int x :: rest) := by
  subst hp
  exact Wk.step (fun _ _ _ _ _ _ _ ha hx hby kt => XS.i2c ha hx rfl (hb hby hd) rfl kt) r
theorem Wk.i2s {x : Int32} (hd : decode C.b.code pc = .ok (.i2s, 1)) (hp : pc + 1 = pc') (r : Wk C h k n I pc' Ls (.int x.toInt16.toInt32 :: rest)) : Wk C h k n I pc Ls (.int x :: rest) := by
  subst hp
  exact Wk.step (fun _ _ _ _ _ _ _ ha hx hby kt => XS.i2s ha hx rfl (hb hby hd) rfl kt) r
theorem Wk.lcmp {x y : Int64} (hd : decode C.b.code pc = .ok (.lcmp, 1)) (hp : pc + 1 = pc') (r : Wk C h k n I pc' Ls (.int (lcmpW x y) :: rest)) : Wk C h k n I pc Ls (.long y :: .long x :: rest) := by
  subst hp
  exact Wk.step (fun _ _ _ _ _ _ _ ha hx hby kt => XS.lcmp ha hx rfl (hb hby hd) rfl kt) r
theorem Wk.dup {x : Value} (hd : decode C.b.code pc = .ok (.dup, 1)) (hp : pc + 1 = pc') (hc : x.category = 1) (r : Wk C h k n I pc' Ls (x :: x :: rest)) : Wk C h k n I pc Ls (x :: rest) := by
  subst hp
  exact Wk.step (fun _ _ _ _ _ _ _ ha hx hby kt => XS.dup ha hx rfl (hb hby hd) rfl hc kt) r
theorem Wk.dupX1 {x y : Value} (hd : decode C.b.code pc = .ok (.dup_x1, 1)) (hp : pc + 1 = pc') (hc : x.category = 1) (hc2 : y.category = 1) (r : Wk C h k n I pc' Ls (x :: y :: x :: rest)) : Wk C h k n I pc Ls (x :: y :: rest) := by
  subst hp
  exact Wk.step (fun _ _ _ _ _ _ _ ha hx hby kt => XS.dupX1 ha hx rfl (hb hby hd) rfl hc hc2 kt) r
theorem Wk.dup2 {x y : Value} (hd : decode C.b.code pc = .ok (.dup2, 1)) (hp : pc + 1 = pc') (hc : x.category = 1) (hc2 : y.category = 1) (r : Wk C h k n I pc' Ls (x :: y :: x :: y :: rest)) : Wk C h k n I pc Ls (x :: y :: rest) := by
  subst hp
  exact Wk.step (fun _ _ _ _ _ _ _ ha hx hby kt => Jvm.Free.XT.dup2 ha hx rfl (hb hby hd) rfl hc hc2 kt) r
theorem Wk.dup2L {x : Int64} (hd : decode C.b.code pc = .ok (.dup2, 1)) (hp : pc + 1 = pc') (r : Wk C h k n I pc' Ls (.long x :: .long x :: rest)) : Wk C h k n I pc Ls (.long x :: rest) := by
  subst hp
  exact Wk.step (fun _ _ _ _ _ _ _ ha hx hby kt => Jvm.Free.XT.dup2L ha hx rfl (hb hby hd) rfl kt) r
theorem Wk.pop {x : Value} (hd : decode C.b.code pc = .ok (.pop, 1)) (hp : pc + 1 = pc') (hc : x.category = 1) (r : Wk C h k n I pc' Ls (rest)) : Wk C h k n I pc Ls (x :: rest) := by
  subst hp
  exact Wk.step (fun _ _ _ _ _ _ _ ha hx hby kt => XS.pop ha hx rfl (hb hby hd) rfl hc kt) r
theorem Wk.swap {x y : Value} (hd : decode C.b.code pc = .ok (.swap, 1)) (hp : pc + 1 = pc') (hc : x.category = 1) (hc2 : y.category = 1) (r : Wk C h k n I pc' Ls (y :: x :: rest)) : Wk C h k n I pc Ls (x :: y :: rest) := by
  subst hp
  exact Wk.step (fun _ _ _ _ _ _ _ ha hx hby kt => XS.swap ha hx rfl (hb hby hd) rfl hc hc2 kt) r
theorem Wk.aconstNull  (hd : decode C.b.code pc = .ok (.aconst_null, 1)) (hp : pc + 1 = pc') (r : Wk C h k n I pc' Ls (.null :: st)) : Wk C h k n I pc Ls (st) := by
  subst hp
  exact Wk.step (fun _ _ _ _ _ _ _ ha hx hby kt => XS.aconstNull ha hx rfl (hb hby hd)  kt) r
theorem Wk.i2d {x : Int32} (hd : decode C.b.code pc = .ok (.i2d, 1)) (hp : pc + 1 = pc') (r : Wk C h k n I pc' Ls (.double (FP.i2d x) :: rest)) : Wk C h k n I pc Ls (.int x :: rest) := by
  subst hp
  exact Wk.step (fun _ _ _ _ _ _ _ ha hx hby kt => XS.i2dS ha hx rfl (hb hby hd) rfl rfl kt) r
theorem Wk.l2d {x : Int64} (hd : decode C.b.code pc = .ok (.l2d, 1)) (hp : pc + 1 = pc') (r : Wk C h k n I pc' Ls (.double (FP.l2d x) :: rest)) : Wk C h k n I pc Ls (.long x :: rest) := by
  subst hp
  exact Wk.step (fun _ _ _ _ _ _ _ ha hx hby kt => XS.l2dS ha hx rfl (hb hby hd) rfl rfl kt) r
theorem Wk.dadd {x y : UInt64} (hd : decode C.b.code pc = .ok (.dadd, 1)) (hp : pc + 1 = pc') (hn : Jvm.Free.Fl.NoNaN64 (FP.dadd x y)) (r : Wk C h k n I pc' Ls (.double (FP.dadd x y) :: rest)) : Wk C h k n I pc Ls (.double y :: .double x :: rest) := by
  subst hp
  exact Wk.step (fun _ _ _ _ _ _ _ ha hx hby kt => XS.daddS ha hx rfl (hb hby hd) rfl hn rfl kt) r
theorem Wk.dcmpl {x y : UInt64} (hd : decode C.b.code pc = .ok (.dcmp .l, 1)) (hp : pc + 1 = pc') (r : Wk C h k n I pc' Ls (.int (cmpValue (FP.dcmp x y) .l) :: rest)) : Wk C h k n I pc Ls (.double y :: .double x :: rest) := by
  subst hp
  exact Wk.step (fun _ _ _ _ _ _ _ ha hx hby kt => XS.dcmpS ha hx rfl (hb hby hd) rfl rfl kt) r
theorem Wk.iconst {i : Int} {v : Int32} (hd : decode C.b.code pc = .ok (.iconst i, 1)) (hp : pc + 1 = pc') (hv : Int32.ofInt i = v) (r : Wk C h k n I pc' Ls (.int v :: st)) : Wk C h k n I pc Ls st := by
  subst hp hv
  exact Wk.step (fun _ _ _ _ _ _ _ ha hx hby kt => XS.iconst ha hx rfl (hb hby hd) kt) r
theorem Wk.bipush {i : Int} {v : Int32} (hd : decode C.b.code pc = .ok (.bipush i, 2)) (hp : pc + 2 = pc') (hv : (Int8.ofInt i).toInt32 = v) (r : Wk C h k n I pc' Ls (.int v :: st)) : Wk C h k n I pc Ls st := by
  subst hp hv
  exact Wk.step (fun _ _ _ _ _ _ _ ha hx hby kt => XS.bipush ha hx rfl (hb hby hd) kt) r
theorem Wk.sipush {i : Int} {v : Int32} (hd : decode C.b.code pc = .ok (.sipush i, 3)) (hp : pc + 3 = pc') (hv : (Int16.ofInt i).toInt32 = v) (r : Wk C h k n I pc' Ls (.int v :: st)) : Wk C h k n I pc Ls st := by
  subst hp hv
  exact Wk.step (fun _ _ _ _ _ _ _ ha hx hby kt => XS.sipush ha hx rfl (hb hby hd) kt) r
theorem Wk.lconst {i : Fin 2} {v : Int64} (hd : decode C.b.code pc = .ok (.lconst i, 1)) (hp : pc + 1 = pc') (hv : Int64.ofNat i = v) (r : Wk C h k n I pc' Ls (.long v :: st)) : Wk C h k n I pc Ls st := by
  subst hp hv
  exact Wk.step (fun _ _ _ _ _ _ _ ha hx hby kt => XS.lconst ha hx rfl (hb hby hd) kt) r
theorem Wk.iinc {j : Nat} {i : Int} {v x : Int32} (hd : decode C.b.code pc = .ok (.iinc j i, 3)) (hp : pc + 3 = pc') (hv : Int32.ofInt i = v) (hl : Ls[j]? = some (.val (.int x))) (hl' : storeLocals Ls j (.int (x + v)) = some Ls') (r : Wk C h k n I pc' Ls' st) : Wk C h k n I pc Ls st := by
  subst hp hv
  exact Wk.step (fun _ _ _ _ _ _ _ ha hx hby kt => XS.iinc ha hx rfl (hb hby hd) hl hl' kt) r
theorem Wk.goto {o : Int} (hd : decode C.b.code pc = .ok (.goto o, 3)) (hp : (pc : Int) + o = (pc' : Int)) (r : Wk C h k n I pc' Ls st) : Wk C h k n I pc Ls st :=
  Wk.step (fun _ _ _ _ _ _ _ ha hx hby kt => XS.goto (pc0 := pc) (pc' := pc') ha hx rfl rfl (hb hby hd) (by omega) (by omega) kt) r
theorem Wk.irem {x y : Int32} (hd : decode C.b.code pc = .ok (.irem, 1)) (hp : pc + 1 = pc') (hy : y ≠ 0) (r : Wk C h k n I pc' Ls (.int (x % y) :: rest)) : Wk C h k n I pc Ls (.int y :: .int x :: rest) := by
  subst hp
  refine Wk.law (fun p e s vm0 m args below meth c T locs k0 S => ⟨T, S.2.2.2.1, S.2.2.2.2.1, fun t kt => ?_⟩) r
  exact iremM S.2.2.2.1 S.1.1 rfl (hb S.1.2.1 hd) rfl hy kt
theorem Wk.iloadN {j : Fin 4} {v : Int32} (hd : decode C.b.code pc = .ok (.iload_n j, 1)) (hp : pc + 1 = pc') (hl : Ls[j.val]? = some (.val (.int v))) (r : Wk C h k n I pc' Ls (.int v :: st)) : Wk C h k n I pc Ls st := by
  subst hp
  exact Wk.step (fun _ _ _ _ _ _ _ ha hx hby kt => XS.iloadN ha hx rfl (hb hby hd) hl kt) r
theorem Wk.iload {j : Nat} {v : Int32} (hd : decode C.b.code pc = .ok (.iload j, 2)) (hp : pc + 2 = pc') (hl : Ls[j]? = some (.val (.int v))) (r : Wk C h k n I pc' Ls (.int v :: st)) : Wk C h k n I pc Ls st := by
  subst hp
  exact Wk.step (fun _ _ _ _ _ _ _ ha hx hby kt => XS.iload ha hx rfl (hb hby hd) hl kt) r
theorem Wk.lloadN {j : Fin 4} {v : Int64} (hd : decode C.b.code pc = .ok (.lload_n j, 1)) (hp : pc + 1 = pc') (hl : Ls[j.val]? = some (.val (.long v))) (r : Wk C h k n I pc' Ls (.long v :: st)) : Wk C h k n I pc Ls st := by
  subst hp
  exact Wk.step (fun _ _ _ _ _ _ _ ha hx hby kt => XS.lloadN ha hx rfl (hb hby hd) hl kt) r
theorem Wk.lload {j : Nat} {v : Int64} (hd : decode C.b.code pc = .ok (.lload j, 2)) (hp : pc + 2 = pc') (hl : Ls[j]? = some (.val (.long v))) (r : Wk C h k n I pc' Ls (.long v :: st)) : Wk C h k n I pc Ls st := by
  subst hp
  exact Wk.step (fun _ _ _ _ _ _ _ ha hx hby kt => XS.lload ha hx rfl (hb hby hd) hl kt) r
theorem Wk.dloadN {j : Fin 4} {v : UInt64} (hd : decode C.b.code pc = .ok (.dload_n j, 1)) (hp : pc + 1 = pc') (hl : Ls[j.val]? = some (.val (.double v))) (r : Wk C h k n I pc' Ls (.double v :: st)) : Wk C h k n I pc Ls st := by
  subst hp
  exact Wk.step (fun _ _ _ _ _ _ _ ha hx hby kt => XS.dloadN ha hx rfl (hb hby hd) hl kt) r
theorem Wk.dload {j : Nat} {v : UInt64} (hd : decode C.b.code pc = .ok (.dload j, 2)) (hp : pc + 2 = pc') (hl : Ls[j]? = some (.val (.double v))) (r : Wk C h k n I pc' Ls (.double v :: st)) : Wk C h k n I pc Ls st := by
  subst hp
  exact Wk.step (fun _ _ _ _ _ _ _ ha hx hby kt => XS.dload ha hx rfl (hb hby hd) hl kt) r
theorem Wk.aloadN {j : Fin 4} {v : Value} (hd : decode C.b.code pc = .ok (.aload_n j, 1)) (hp : pc + 1 = pc') (hl : Ls[j.val]? = some (.val v)) (hv : v.isRef = true) (r : Wk C h k n I pc' Ls (v :: st)) : Wk C h k n I pc Ls st := by
  subst hp
  exact Wk.step (fun _ _ _ _ _ _ _ ha hx hby kt => XS.aloadN ha hx rfl (hb hby hd) hl hv kt) r
theorem Wk.aload {j : Nat} {v : Value} (hd : decode C.b.code pc = .ok (.aload j, 2)) (hp : pc + 2 = pc') (hl : Ls[j]? = some (.val v)) (hv : v.isRef = true) (r : Wk C h k n I pc' Ls (v :: st)) : Wk C h k n I pc Ls st := by
  subst hp
  exact Wk.step (fun _ _ _ _ _ _ _ ha hx hby kt => XS.aload ha hx rfl (hb hby hd) hl hv kt) r
theorem Wk.istoreN {j : Fin 4} {v : Int32} (Ls' : Array Slot) (hd : decode C.b.code pc = .ok (.istore_n j, 1)) (hp : pc + 1 = pc') (hl : storeLocals Ls j.val (.int v) = some Ls') (r : Wk C h k n I pc' Ls' st) : Wk C h k n I pc Ls (.int v :: st) := by
  subst hp
  exact Wk.step (fun _ _ _ _ _ _ _ ha hx hby kt => XS.istoreN ha hx rfl (hb hby hd) rfl hl kt) r
theorem Wk.istore {j : Nat} {v : Int32} (Ls' : Array Slot) (hd : decode C.b.code pc = .ok (.istore j, 2)) (hp : pc + 2 = pc') (hl : storeLocals Ls j (.int v) = some Ls') (r : Wk C h k n I pc' Ls' st) : Wk C h k n I pc Ls (.int v :: st) := by
  subst hp
  exact Wk.step (fun _ _ _ _ _ _ _ ha hx hby kt => XS.istore ha hx rfl (hb hby hd) rfl hl kt) r
theorem Wk.lstoreN {j : Fin 4} {v : Int64} (Ls' : Array Slot) (hd : decode C.b.code pc = .ok (.lstore_n j, 1)) (hp : pc + 1 = pc') (hl : storeLocals Ls j.val (.long v) = some Ls') (r : Wk C h k n I pc' Ls' st) : Wk C h k n I pc Ls (.long v :: st) := by
  subst hp
  exact Wk.step (fun _ _ _ _ _ _ _ ha hx hby kt => XS.lstoreN ha hx rfl (hb hby hd) rfl hl kt) r
theorem Wk.lstore {j : Nat} {v : Int64} (Ls' : Array Slot) (hd : decode C.b.code pc = .ok (.lstore j, 2)) (hp : pc + 2 = pc') (hl : storeLocals Ls j (.long v) = some Ls') (r : Wk C h k n I pc' Ls' st) : Wk C h k n I pc Ls (.long v :: st) := by
  subst hp
  exact Wk.step (fun _ _ _ _ _ _ _ ha hx hby kt => XS.lstore ha hx rfl (hb hby hd) rfl hl kt) r
theorem Wk.dstoreN {j : Fin 4} {v : UInt64} (Ls' : Array Slot) (hd : decode C.b.code pc = .ok (.dstore_n j, 1)) (hp : pc + 1 = pc') (hl : storeLocals Ls j.val (.double v) = some Ls') (r : Wk C h k n I pc' Ls' st) : Wk C h k n I pc Ls (.double v :: st) := by
  subst hp
  exact Wk.step (fun _ _ _ _ _ _ _ ha hx hby kt => XS.dstoreN ha hx rfl (hb hby hd) rfl hl kt) r
theorem Wk.dstore {j : Nat} {v : UInt64} (Ls' : Array Slot) (hd : decode C.b.code pc = .ok (.dstore j, 2)) (hp : pc + 2 = pc') (hl : storeLocals Ls j (.double v) = some Ls') (r : Wk C h k n I pc' Ls' st) : Wk C h k n I pc Ls (.double v :: st) := by
  subst hp
  exact Wk.step (fun _ _ _ _ _ _ _ ha hx hby kt => XS.dstore ha hx rfl (hb hby hd) rfl hl kt) r
theorem Wk.astoreN {j : Fin 4} {v : Value} (Ls' : Array Slot) (hd : decode C.b.code pc = .ok (.astore_n j, 1)) (hp : pc + 1 = pc') (hv : v.isRef = true) (hl : storeLocals Ls j.val v = some Ls') (r : Wk C h k n I pc' Ls' st) : Wk C h k n I pc Ls (v :: st) := by
  subst hp
  exact Wk.step (fun _ _ _ _ _ _ _ ha hx hby kt => XS.astoreN ha hx rfl (hb hby hd) rfl hv hl kt) r
theorem Wk.astore {j : Nat} {v : Value} (Ls' : Array Slot) (hd : decode C.b.code pc = .ok (.astore j, 2)) (hp : pc + 2 = pc') (hv : v.isRef = true) (hl : storeLocals Ls j v = some Ls') (r : Wk C h k n I pc' Ls' st) : Wk C h k n I pc Ls (v :: st) := by
  subst hp
  exact Wk.step (fun _ _ _ _ _ _ _ ha hx hby kt => XS.astore ha hx rfl (hb hby hd) rfl hv hl kt) r
theorem Wk.icmp_eqY {x y : Int32} {o : Int} (hd : decode C.b.code pc = .ok (.if_icmp .eq o, 3)) (hp : (pc : Int) + o = (pc' : Int)) (hc : x = y) (r : Wk C h k n I pc' Ls st) : Wk C h k n I pc Ls (.int y :: .int x :: st) :=
  Wk.step (fun _ _ _ _ _ _ _ ha hx hby kt => XS.icmpYes (pc0 := pc) (pc' := pc') ha hx rfl rfl (hb hby hd) rfl ((teq hc).1) (by omega) (by omega) kt) r
theorem Wk.if_eqY {x : Int32} {o : Int} (hd : decode C.b.code pc = .ok (.ifCond .eq o, 3)) (hp : (pc : Int) + o = (pc' : Int)) (hc : x = (0 : Int32)) (r : Wk C h k n I pc' Ls st) : Wk C h k n I pc Ls (.int x :: st) :=
  Wk.step (fun _ _ _ _ _ _ _ ha hx hby kt => XS.ifYes (pc0 := pc) (pc' := pc') ha hx rfl rfl (hb hby hd) rfl ((if0 _ _).trans (teq hc).1) (by omega) (by omega) kt) r
theorem Wk.icmp_eqN {x y : Int32} {o : Int} (hd : decode C.b.code pc = .ok (.if_icmp .eq o, 3)) (hp : pc + 3 = pc') (hc : ¬ x = y) (r : Wk C h k n I pc' Ls st) : Wk C h k n I pc Ls (.int y :: .int x :: st) := by
  subst hp
  exact Wk.step (fun _ _ _ _ _ _ _ ha hx hby kt => XS.icmpNo ha hx rfl (hb hby hd) rfl ((feq hc).1) kt) r
theorem Wk.if_eqN {x : Int32} {o : Int} (hd : decode C.b.code pc = .ok (.ifCond .eq o, 3)) (hp : pc + 3 = pc') (hc : ¬ x = (0 : Int32)) (r : Wk C h k n I pc' Ls st) : Wk C h k n I pc Ls (.int x :: st) := by
  subst hp
  exact Wk.step (fun _ _ _ _ _ _ _ ha hx hby kt => XS.ifNo ha hx rfl (hb hby hd) rfl ((if0 _ _).trans (feq hc).1) kt) r
theorem Wk.icmp_neY {x y : Int32} {o : Int} (hd : decode C.b.code pc = .ok (.if_icmp .ne o, 3)) (hp : (pc : Int) + o = (pc' : Int)) (hc : ¬ x = y) (r : Wk C h k n I pc' Ls st) : Wk C h k n I pc Ls (.int y :: .int x :: st) :=
  Wk.step (fun _ _ _ _ _ _ _ ha hx hby kt => XS.icmpYes (pc0 := pc) (pc' := pc') ha hx rfl rfl (hb hby hd) rfl ((feq hc).2) (by omega) (by omega) kt) r
theorem Wk.if_neY {x : Int32} {o : Int} (hd : decode C.b.code pc = .ok (.ifCond .ne o, 3)) (hp : (pc : Int) + o = (pc' : Int)) (hc : ¬ x = (0 : Int32)) (r : Wk C h k n I pc' Ls st) : Wk C h k n I pc Ls (.int x :: st) :=
  Wk.step (fun _ _ _ _ _ _ _ ha hx hby kt => XS.ifYes (pc0 := pc) (pc' := pc') ha hx rfl rfl (hb hby hd) rfl ((if0 _ _).trans (feq hc).2) (by omega) (by omega) kt) r
theorem Wk.icmp_neN {x y : Int32} {o : Int} (hd : decode C.b.code pc = .ok (.if_icmp .ne o, 3)) (hp : pc + 3 = pc') (hc : x = y) (r : Wk C h k n I pc' Ls st) : Wk C h k n I pc Ls (.int y :: .int x :: st) := by
  subst hp
  exact Wk.step (fun _ _ _ _ _ _ _ ha hx hby kt => XS.icmpNo ha hx rfl (hb hby hd) rfl ((teq hc).2) kt) r
theorem Wk.if_neN {x : Int32} {o : Int} (hd : decode C.b.code pc = .ok (.ifCond .ne o, 3)) (hp : pc + 3 = pc') (hc : x = (0 : Int32)) (r : Wk C h k n I pc' Ls st) : Wk C h k n I pc Ls (.int x :: st) := by
  subst hp
  exact Wk.step (fun _ _ _ _ _ _ _ ha hx hby kt => XS.ifNo ha hx rfl (hb hby hd) rfl ((if0 _ _).trans (teq hc).2) kt) r
theorem Wk.icmp_ltY {x y : Int32} {o : Int} (hd : decode C.b.code pc = .ok (.if_icmp .lt o, 3)) (hp : (pc : Int) + o = (pc' : Int)) (hc : x < y) (r : Wk C h k n I pc' Ls st) : Wk C h k n I pc Ls (.int y :: .int x :: st) :=
  Wk.step (fun _ _ _ _ _ _ _ ha hx hby kt => XS.icmpYes (pc0 := pc) (pc' := pc') ha hx rfl rfl (hb hby hd) rfl ((tlt hc).1) (by omega) (by omega) kt) r
theorem Wk.if_ltY {x : Int32} {o : Int} (hd : decode C.b.code pc = .ok (.ifCond .lt o, 3)) (hp : (pc : Int) + o = (pc' : Int)) (hc : x < (0 : Int32)) (r : Wk C h k n I pc' Ls st) : Wk C h k n I pc Ls (.int x :: st) :=
  Wk.step (fun _ _ _ _ _ _ _ ha hx hby kt => XS.ifYes (pc0 := pc) (pc' := pc') ha hx rfl rfl (hb hby hd) rfl ((if0 _ _).trans (tlt hc).1) (by omega) (by omega) kt) r
theorem Wk.icmp_ltN {x y : Int32} {o : Int} (hd : decode C.b.code pc = .ok (.if_icmp .lt o, 3)) (hp : pc + 3 = pc') (hc : ¬ x < y) (r : Wk C h k n I pc' Ls st) : Wk C h k n I pc Ls (.int y :: .int x :: st) := by
  subst hp
  exact Wk.step (fun _ _ _ _ _ _ _ ha hx hby kt => XS.icmpNo ha hx rfl (hb hby hd) rfl ((flt hc).1) kt) r
theorem Wk.if_ltN {x : Int32} {o : Int} (hd : decode C.b.code pc = .ok (.ifCond .lt o, 3)) (hp : pc + 3 = pc') (hc : ¬ x < (0 : Int32)) (r : Wk C h k n I pc' Ls st) : Wk C h k n I pc Ls (.int x :: st) := by
  subst hp
  exact Wk.step (fun _ _ _ _ _ _ _ ha hx hby kt => XS.ifNo ha hx rfl (hb hby hd) rfl ((if0 _ _).trans (flt hc).1) kt) r
theorem Wk.icmp_geY {x y : Int32} {o : Int} (hd : decode C.b.code pc = .ok (.if_icmp .ge o, 3)) (hp : (pc : Int) + o = (pc' : Int)) (hc : ¬ x < y) (r : Wk C h k n I pc' Ls st) : Wk C h k n I pc Ls (.int y :: .int x :: st) :=
  Wk.step (fun _ _ _ _ _ _ _ ha hx hby kt => XS.icmpYes (pc0 := pc) (pc' := pc') ha hx rfl rfl (hb hby hd) rfl ((flt hc).2.1) (by omega) (by omega) kt) r
theorem Wk.if_geY {x : Int32} {o : Int} (hd : decode C.b.code pc = .ok (.ifCond .ge o, 3)) (hp : (pc : Int) + o = (pc' : Int)) (hc : ¬ x < (0 : Int32)) (r : Wk C h k n I pc' Ls st) : Wk C h k n I pc Ls (.int x :: st) :=
  Wk.step (fun _ _ _ _ _ _ _ ha hx hby kt => XS.ifYes (pc0 := pc) (pc' := pc') ha hx rfl rfl (hb hby hd) rfl ((if0 _ _).trans (flt hc).2.1) (by omega) (by omega) kt) r
theorem Wk.icmp_geN {x y : Int32} {o : Int} (hd : decode C.b.code pc = .ok (.if_icmp .ge o, 3)) (hp : pc + 3 = pc') (hc : x < y) (r : Wk C h k n I pc' Ls st) : Wk C h k n I pc Ls (.int y :: .int x :: st) := by
  subst hp
  exact Wk.step (fun _ _ _ _ _ _ _ ha hx hby kt => XS.icmpNo ha hx rfl (hb hby hd) rfl ((tlt hc).2.1) kt) r
theorem Wk.if_geN {x : Int32} {o : Int} (hd : decode C.b.code pc = .ok (.ifCond .ge o, 3)) (hp : pc + 3 = pc') (hc : x < (0 : Int32)) (r : Wk C h k n I pc' Ls st) : Wk C h k n I pc Ls (.int x :: st) := by
  subst hp
  exact Wk.step (fun _ _ _ _ _ _ _ ha hx hby kt => XS.ifNo ha hx rfl (hb hby hd) rfl ((if0 _ _).trans (tlt hc).2.1) kt) r
theorem Wk.icmp_gtY {x y : Int32} {o : Int} (hd : decode C.b.code pc = .ok (.if_icmp .gt o, 3)) (hp : (pc : Int) + o = (pc' : Int)) (hc : y < x) (r : Wk C h k n I pc' Ls st) : Wk C h k n I pc Ls (.int y :: .int x :: st) :=
  Wk.step (fun _ _ _ _ _ _ _ ha hx hby kt => XS.icmpYes (pc0 := pc) (pc' := pc') ha hx rfl rfl (hb hby hd) rfl ((tlt hc).2.2.1) (by omega) (by omega) kt) r
theorem Wk.if_gtY {x : Int32} {o : Int} (hd : decode C.b.code pc = .ok (.ifCond .gt o, 3)) (hp : (pc : Int) + o = (pc' : Int)) (hc : (0 : Int32) < x) (r : Wk C h k n I pc' Ls st) : Wk C h k n I pc Ls (.int x :: st) :=
  Wk.step (fun _ _ _ _ _ _ _ ha hx hby kt => XS.ifYes (pc0 := pc) (pc' := pc') ha hx rfl rfl (hb hby hd) rfl ((if0 _ _).trans (tlt hc).2.2.1) (by omega) (by omega) kt) r
theorem Wk.icmp_gtN {x y : Int32} {o : Int} (hd : decode C.b.code pc = .ok (.if_icmp .gt o, 3)) (hp : pc + 3 = pc') (hc : ¬ y < x) (r : Wk C h k n I pc' Ls st) : Wk C h k n I pc Ls (.int y :: .int x :: st) := by
  subst hp
  exact Wk.step (fun _ _ _ _ _ _ _ ha hx hby kt => XS.icmpNo ha hx rfl (hb hby hd) rfl ((flt hc).2.2.1) kt) r
theorem Wk.if_gtN {x : Int32} {o : Int} (hd : decode C.b.code pc = .ok (.ifCond .gt o, 3)) (hp : pc + 3 = pc') (hc : ¬ (0 : Int32) < x) (r : Wk C h k n I pc' Ls st) : Wk C h k n I pc Ls (.int x :: st) := by
  subst hp
  exact Wk.step (fun _ _ _ _ _ _ _ ha hx hby kt => XS.ifNo ha hx rfl (hb hby hd) rfl ((if0 _ _).trans (flt hc).2.2.1) kt) r
theorem Wk.icmp_leY {x y : Int32} {o : Int} (hd : decode C.b.code pc = .ok (.if_icmp .le o, 3)) (hp : (pc : Int) + o = (pc' : Int)) (hc : ¬ y < x) (r : Wk C h k n I pc' Ls st) : Wk C h k n I pc Ls (.int y :: .int x :: st) :=
  Wk.step (fun _ _ _ _ _ _ _ ha hx hby kt => XS.icmpYes (pc0 := pc) (pc' := pc') ha hx rfl rfl (hb hby hd) rfl ((flt hc).2.2.2) (by omega) (by omega) kt) r
theorem Wk.if_leY {x : Int32} {o : Int} (hd : decode C.b.code pc = .ok (.ifCond .le o, 3)) (hp : (pc : Int) + o = (pc' : Int)) (hc : ¬ (0 : Int32) < x) (r : Wk C h k n I pc' Ls st) : Wk C h k n I pc Ls (.int x :: st) :=
  Wk.step (fun _ _ _ _ _ _ _ ha hx hby kt => XS.ifYes (pc0 := pc) (pc' := pc') ha hx rfl rfl (hb hby hd) rfl ((if0 _ _).trans (flt hc).2.2.2) (by omega) (by omega) kt) r
theorem Wk.icmp_leN {x y : Int32} {o : Int} (hd : decode C.b.code pc = .ok (.if_icmp .le o, 3)) (hp : pc + 3 = pc') (hc : y < x) (r : Wk C h k n I pc' Ls st) : Wk C h k n I pc Ls (.int y :: .int x :: st) := by
  subst hp
  exact Wk.step (fun _ _ _ _ _ _ _ ha hx hby kt => XS.icmpNo ha hx rfl (hb hby hd) rfl ((tlt hc).2.2.2) kt) r
theorem Wk.if_leN {x : Int32} {o : Int} (hd : decode C.b.code pc = .ok (.ifCond .le o, 3)) (hp : pc + 3 = pc') (hc : (0 : Int32) < x) (r : Wk C h k n I pc' Ls st) : Wk C h k n I pc Ls (.int x :: st) := by
  subst hp
  exact Wk.step (fun _ _ _ _ _ _ _ ha hx hby kt => XS.ifNo ha hx rfl (hb hby hd) rfl ((if0 _ _).trans (tlt hc).2.2.2) kt) r
theorem Wk.ifnullY {o : Int} (hd : decode C.b.code pc = .ok (.ifnull o, 3)) (hp : (pc : Int) + o = (pc' : Int)) (r : Wk C h k n I pc' Ls st) : Wk C h k n I pc Ls (.null :: st) :=
  Wk.step (fun _ _ _ _ _ _ _ ha hx hby kt => XS.ifnullYes (pc0 := pc) (pc' := pc') ha hx rfl rfl (hb hby hd) rfl (by omega) (by omega) kt) r
theorem Wk.ifnullN {o : Int} {a : Addr} (hd : decode C.b.code pc = .ok (.ifnull o, 3)) (hp : pc + 3 = pc') (r : Wk C h k n I pc' Ls st) : Wk C h k n I pc Ls (.ref a :: st) := by
  subst hp
  exact Wk.step (fun _ _ _ _ _ _ _ ha hx hby kt => XS.ifnullNo ha hx rfl (hb hby hd) rfl kt) r
theorem Wk.ifnonnullY {o : Int} {a : Addr} (hd : decode C.b.code pc = .ok (.ifnonnull o, 3)) (hp : (pc : Int) + o = (pc' : Int)) (r : Wk C h k n I pc' Ls st) : Wk C h k n I pc Ls (.ref a :: st) :=
  Wk.step (fun _ _ _ _ _ _ _ ha hx hby kt => XS.ifnonnullYes (pc0 := pc) (pc' := pc') ha hx rfl rfl (hb hby hd) rfl (by omega) (by omega) kt) r
theorem Wk.ifnonnullN {o : Int} (hd : decode C.b.code pc = .ok (.ifnonnull o, 3)) (hp : pc + 3 = pc') (r : Wk C h k n I pc' Ls st) : Wk C h k n I pc Ls (.null :: st) := by
  subst hp
  exact Wk.step (fun _ _ _ _ _ _ _ ha hx hby kt => XS.ifnonnullNo ha hx rfl (hb hby hd) rfl kt) r
theorem Wk.acmp {cd : ACond} {o : Int} {u v : Value} {same : Bool} (hd : decode C.b.code pc = .ok (.if_acmp cd o, 3)) (hu : u.isRef = true) (hv : v.isRef = true) (hq : decide (u = v) = same) (ho : 0 ≤ (pc : Int) + o) (hp : pc' = if acV cd same = true then ((pc : Int) + o).toNat else pc + 3) (r : Wk C h k n I pc' Ls st) : Wk C h k n I pc Ls (v :: u :: st) :=
  Wk.law (fun p e s vm0 m args below meth c T locs k0 S => ⟨T, S.2.2.2.1, S.2.2.2.2.1, fun t kt => Jvm.RoadKit.acmp (g := mkF m pc Ls (v :: u :: st)) S.2.2.2.1 S.1.1 rfl hu hv (pc0 := pc) (pc' := pc') rfl (hb S.1.2.1 hd) rfl hq ho hp kt⟩) r
theorem Wk.getF {R0 O f d host : String} {idx : Nat} {a : Addr} {v : Value} (w : (Jvm.Cond.fieldLink C.b.y.cls idx R0 f d).before a0 C.Z = true ∨ (Jvm.Cond.fieldLinkNest C.b.y.cls idx R0 f d host).before a0 C.Z = true) (via : Via C.Z R0 O f d) (F : Fld C.Z h a O f d v) (hd : decode C.b.code pc = .ok (.getfield idx, 3)) (hp : pc + 3 = pc') (r : Wk C h k n I pc' Ls (v :: st)) : Wk C h k n I pc Ls (.ref a :: st) := by
  subst hp
  exact Wk.law (fun p e s vm0 m args below meth c T locs k0 S => Jvm.RoadKit.getF (g := mkF m pc Ls (.ref a :: st)) S.2.2.2.1 S.1.1 S.2.1.2.1 S.2.1.1 w via S.2.2.2.2.1 F rfl rfl (hb S.1.2.1 hd)) r
theorem Wk.getS {R0 O f d host : String} {idx : Nat} {v : Value} (w : (Jvm.Cond.fieldLink C.b.y.cls idx R0 f d).before a0 C.Z = true ∨ (Jvm.Cond.fieldLinkNest C.b.y.cls idx R0 f d host).before a0 C.Z = true) (via : Via C.Z R0 O f d) (F : Sta C.Z C.Z.heap O f d v) (hd : decode C.b.code pc = .ok (.getstatic idx, 3)) (hp : pc + 3 = pc') (r : Wk C h k n I pc' Ls (v :: st)) : Wk C h k n I pc Ls st := by
  subst hp
  exact Wk.law (fun p e s vm0 m args below meth c T locs k0 S => getS2 (g := mkF m pc Ls st) S.2.2.2.1 S.1.1 S.2.1.2.1 S.2.1.1 w via S.2.2.2.2.1 (F.ext S.2.2.2.2.2.1) rfl (hb S.1.2.1 hd)) r
theorem Wk.putF {R0 O f d host K : String} {idx kk : Nat} {a : Addr} {v old : Value} {ty : FieldType} (w : (Jvm.Cond.fieldLink C.b.y.cls idx R0 f d).before a0 C.Z = true ∨ (Jvm.Cond.fieldLinkNest C.b.y.cls idx R0 f d host).before a0 C.Z = true) (via : Via C.Z R0 O f d) (ha : C.N ≤ a) (F : Fld C.Z h a O f d old) (E : Exa C.Z h a K)
    (L : (Jvm.Cond.lays K O f d).before a0 C.Z = true ∨ ((Jvm.Cond.laysFinal K O f d).before a0 C.Z = true ∧ C.b.y.cls = O ∧ C.b.y.name = "<init>")) (wi : (Jvm.Cond.instantiable K kk).before a0 C.Z = true) (hty : parseFieldDescriptor d = some ty) (hn : narrow ty v = v) (hf : fits ty v = true) (hd : decode C.b.code pc = .ok (.putfield idx, 3)) (hp : pc + 3 = pc')
    (r : ∀ h', Wr h h' a (Jvm.RoadKit.slotOf C.Z O f d) v → Wk C h' k n I pc' Ls st) : Wk C h k n I pc Ls (v :: .ref a :: st) := by
  subst hp
  exact Wk.lawW ha (fun p e s vm0 m args below meth c T locs k0 S => Jvm.RoadKit.putF (g := mkF m pc Ls (v :: .ref a :: st)) S.2.2.2.1 S.1.1 S.2.1.2.1 S.2.1.1 w via S.2.2.2.2.1 F E (L.imp id fun q => ⟨q.1, q.2.1, S.1.2.2.2.2.2.1.trans q.2.2⟩) wi hty hn hf rfl rfl (hb S.1.2.1 hd)) r
theorem Wk.putFN {R0 O f d K : String} {idx kk : Nat} {a : Addr} {v v' old : Value} {ty : FieldType} (w : (Jvm.Cond.fieldLink C.b.y.cls idx R0 f d).before a0 C.Z = true) (via : Via C.Z R0 O f d) (ha : C.N ≤ a) (F : Fld C.Z h a O f d old) (E : Exa C.Z h a K)
    (L : (Jvm.Cond.lays K O f d).before a0 C.Z = true ∨ ((Jvm.Cond.laysFinal K O f d).before a0 C.Z = true ∧ C.b.y.cls = O ∧ C.b.y.name = "<init>")) (wi : (Jvm.Cond.instantiable K kk).before a0 C.Z = true) (hty : parseFieldDescriptor d = some ty) (hn : narrow ty v = v') (hf : fits ty v' = true) (hd : decode C.b.code pc = .ok (.putfield idx, 3)) (hp : pc + 3 = pc')
    (r : ∀ h', Wr h h' a (Jvm.RoadKit.slotOf C.Z O f d) v' → Wk C h' k n I pc' Ls st) : Wk C h k n I pc Ls (v :: .ref a :: st) := by
  subst hp
  exact Wk.lawW ha (fun p e s vm0 m args below meth c T locs k0 S => Jvm.RoadKit.putFN (g := mkF m pc Ls (v :: .ref a :: st)) S.2.2.2.1 S.1.1 S.2.1.2.1 S.2.1.1 w via S.2.2.2.2.1 F E (L.imp id fun q => ⟨q.1, q.2.1, S.1.2.2.2.2.2.1.trans q.2.2⟩) wi hty hn hf rfl rfl (hb S.1.2.1 hd)) r
theorem Wk.newO {K : String} {idx j : Nat} (w : (Jvm.Cond.classLink C.b.y.cls idx K).before a0 C.Z = true) (wi : (Jvm.Cond.instantiable K j).before a0 C.Z = true) (wz : (Jvm.Cond.initialized K).before a0 C.Z = true) (hd : decode C.b.code pc = .ok (.new idx, 3)) (hp : pc + 3 = pc') (hk : k + 1 = k') (hn : n + j = n') (hc : k' ≤ C.b.room.cells) (hl : n' ≤ C.b.room.slots)
    (r : ∀ a h', h.size ≤ a → C.N ≤ a → Ext h h' → Exa C.Z h' a K → (∀ {O nm d : String} {ty : FieldType}, Laid C.Z a0 K O nm d → parseFieldDescriptor d = some ty → Fld C.Z h' a O nm d (defaultValue ty)) → Wk C h' k' n' I pc' Ls (.ref a :: st)) : Wk C h k n I pc Ls st := by
  subst hp hk hn
  refine Wk.see fun _ z2 _ => ?_
  refine Wk.lawE (P := fun h' => Exa C.Z h' h.size K ∧ ∀ {O nm d : String} {ty : FieldType}, Laid C.Z a0 K O nm d → parseFieldDescriptor d = some ty → Fld C.Z h' h.size O nm d (defaultValue ty)) (fun p e s vm0 m args below meth c T locs k0 S => ?_) (fun h' E q => r h.size h' (Nat.le_refl _) z2 E q.1 q.2)
  obtain ⟨T', h', X', e', E, A, D, -, st⟩ := Jvm.RoadKit.newO (g := mkF m pc Ls st) S.2.2.2.1 S.1.1 S.2.1.2.1 S.2.1.1 w wi wz S.2.2.2.2.1 rfl (hb S.1.2.1 hd) hc hl
  exact ⟨T', h', X', e', E, ⟨A, D⟩, st⟩
theorem Wk.initO {idx W : Nat} {a : Addr} (w1 : (Jvm.Cond.methodLink C.b.y.cls idx Lib.objectInit).before a0 C.Z = true) (w2 : (Jvm.Cond.instanceMethod Lib.objectInit).before a0 C.Z = true) (w3 : (Jvm.Cond.code Lib.objectInit ⟨#[0xb1]⟩ 1 none).before a0 C.Z = true) (hsz : Ls.size = C.b.maxL) (hd : decode C.b.code pc = .ok (.invokespecial idx, 3)) (hp : pc + 3 = pc') (hf : 1 ≤ C.b.room.frames) (hW : (st.map fun v => v.category).sum ≤ W) (hl : W + 12 ≤ C.b.room.locals)
    (r : Wk C h k n I pc' Ls st) : Wk C h k n I pc Ls (.ref a :: st) := by
  subst hp
  exact Wk.law (fun p e s vm0 m args below meth c T locs k0 S => Jvm.RoadKit.initO (g := mkF m pc Ls (.ref a :: st)) S.2.2.2.1 S.1.1 S.2.1.2.1 S.2.1.1 w1 w2 w3 S.2.2.2.2.1 rfl (hsz.trans S.1.2.2.1.symm) rfl (hb S.1.2.1 hd) hf (W := W) (by show 2 * 0 + _ ≤ _; omega) hl) r
theorem Wk.newP {aty : ArrayType} {z : Int32} {cap : Nat} (w : (Jvm.Cond.arrayClass (newarray.typeOf aty)).before a0 C.Z = true) (hd : decode C.b.code pc = .ok (.newarray aty, 2)) (hp : pc + 2 = pc') (hz : ¬ z < 0) (hcap : z.toNatClampNeg ≤ cap) (hbg : cap * 8 ≤ 536870912) (hk : k + 1 = k') (hn : n + cap = n') (hc : k' ≤ C.b.room.cells) (hl : n' ≤ C.b.room.slots)
    (r : ∀ a h' q, h.size ≤ a → C.N ≤ a → Ext h h' → Arv C.Z h' a q (newarray.typeOf aty) z [] (defaultValue (newarray.typeOf aty)) → Wk C h' k' n' I pc' Ls (.ref a :: st)) : Wk C h k n I pc Ls (.int z :: st) := by
  subst hp hk hn
  refine Wk.see fun _ z2 _ => ?_
  refine Wk.lawE (P := fun h' => ∃ q, Arv C.Z h' h.size q (newarray.typeOf aty) z [] (defaultValue (newarray.typeOf aty))) (fun p e s vm0 m args below meth c T locs k0 S => ?_) (fun h' E ⟨q, A⟩ => r h.size h' q (Nat.le_refl _) z2 E A)
  obtain ⟨T', h', cA, X', e', E, A, st⟩ := Jvm.RoadKit.newP (g := mkF m pc Ls (.int z :: st)) S.2.2.2.1 S.1.1 S.2.1.2.1 w S.2.2.2.2.1 rfl (hb S.1.2.1 hd) rfl hz hcap hbg hc hl
  exact ⟨T', h', X', e', E, ⟨cA, Arv.new A hz⟩, st⟩
theorem Wk.newR {K : String} {idx : Nat} {z : Int32} {cap : Nat} (w1 : (Jvm.Cond.classLink C.b.y.cls idx K).before a0 C.Z = true) (w2 : (Jvm.Cond.arrayOver (.object K)).before a0 C.Z = true) (hd : decode C.b.code pc = .ok (.anewarray idx, 3)) (hp : pc + 3 = pc') (hz : ¬ z < 0) (hcap : z.toNatClampNeg ≤ cap) (hbg : cap * 8 ≤ 536870912) (hk : k + 1 = k') (hn : n + cap = n') (hc : k' ≤ C.b.room.cells) (hl : n' ≤ C.b.room.slots) {ad : String} (had : "[" ++ (FieldType.object K).toString = ad)
    (r : ∀ a h' q, h.size ≤ a → C.N ≤ a → Ext h h' → Arv C.Z h' a q (.object K) z [] .null → Exa C.Z h' a ad → Ovr C.Z q K → Wk C h' k' n' I pc' Ls (.ref a :: st)) : Wk C h k n I pc Ls (.int z :: st) := by
  subst hp hk hn
  refine Wk.see fun _ z2 _ => ?_
  refine Wk.lawE (P := fun h' => ∃ q, Arv C.Z h' h.size q (.object K) z [] .null ∧ Exa C.Z h' h.size ad ∧ Ovr C.Z q K) (fun p e s vm0 m args below meth c T locs k0 S => ?_) (fun h' E ⟨q, A, B, D⟩ => r h.size h' q (Nat.le_refl _) z2 E A B D)
  obtain ⟨T', h', cA, X', e', E, A, B, D, st⟩ := newRE (g := mkF m pc Ls (.int z :: st)) S.2.2.2.1 S.1.1 S.2.1.2.1 S.2.1.1 w1 w2 S.2.2.2.2.1 rfl (hb S.1.2.1 hd) rfl hz hcap hbg hc hl had
  exact ⟨T', h', X', e', E, ⟨cA, Arv.new A hz, B, D⟩, st⟩
theorem Wk.arraylength {a : Addr} {q : ClassId} {ty : FieldType} {z : Int32} {vs : List Value} {dv : Value} (V : Arv C.Z h a q ty z vs dv) (hd : decode C.b.code pc = .ok (.arraylength, 1)) (hp : pc + 1 = pc') (r : Wk C h k n I pc' Ls (.int z :: st)) : Wk C h k n I pc Ls (.ref a :: st) := by
  subst hp
  obtain ⟨c, A, q1, q2, q3, q4, q5⟩ := V
  refine Wk.law (fun p e s vm0 m args below meth cc T locs k0 S => ⟨T, S.2.2.2.1, S.2.2.2.2.1, fun t kt => ?_⟩) r
  refine S.2.2.2.1.arraylength (g := mkF m pc Ls (.ref a :: st)) S.1.1 (by rw [S.2.2.2.2.1]; exact A.1) (State.isArrayOf_alike S.2.1.2.1.alike A.2.1) rfl rfl (hb S.1.2.1 hd) t ?_
  rw [len_of q2 q3]
  exact kt
theorem Wk.iaload {a : Addr} {q : ClassId} {z j : Int32} {vs : List Value} {dv v : Value} (V : Arv C.Z h a q .int z vs dv) (hj : ¬ j < 0 ∧ j < z) (hv : vs.getD j.toNatClampNeg dv = v) (hd : decode C.b.code pc = .ok (.iaload, 1)) (hp : pc + 1 = pc') (r : Wk C h k n I pc' Ls (v :: st)) : Wk C h k n I pc Ls (.int j :: .ref a :: st) := by
  subst hp
  obtain ⟨c, A, q1, q2, q3, q4, q5⟩ := V
  have hin := inb_of q2 hj
  refine Wk.law (fun p e s vm0 m args below meth cc T locs k0 S => ⟨T, S.2.2.2.1, S.2.2.2.2.1, fun t kt => ?_⟩) r
  exact S.2.2.2.1.iaload (g := mkF m pc Ls (.int j :: .ref a :: st)) S.1.1 (by rw [S.2.2.2.2.1]; exact A.1) (State.isArrayOf_alike S.2.1.2.1.alike A.2.1) A.2.2 hin (q4.at hin hv) rfl rfl (hb S.1.2.1 hd) t kt
theorem Wk.laload {a : Addr} {q : ClassId} {z j : Int32} {vs : List Value} {dv v : Value} (V : Arv C.Z h a q .long z vs dv) (hj : ¬ j < 0 ∧ j < z) (hv : vs.getD j.toNatClampNeg dv = v) (hd : decode C.b.code pc = .ok (.laload, 1)) (hp : pc + 1 = pc') (r : Wk C h k n I pc' Ls (v :: st)) : Wk C h k n I pc Ls (.int j :: .ref a :: st) := by
  subst hp
  obtain ⟨c, A, q1, q2, q3, q4, q5⟩ := V
  have hin := inb_of q2 hj
  refine Wk.law (fun p e s vm0 m args below meth cc T locs k0 S => ⟨T, S.2.2.2.1, S.2.2.2.2.1, fun t kt => ?_⟩) r
  exact S.2.2.2.1.laload (g := mkF m pc Ls (.int j :: .ref a :: st)) S.1.1 (by rw [S.2.2.2.2.1]; exact A.1) (State.isArrayOf_alike S.2.1.2.1.alike A.2.1) A.2.2 hin (q4.at hin hv) rfl rfl (hb S.1.2.1 hd) t kt
theorem Wk.caload {a : Addr} {q : ClassId} {z j : Int32} {vs : List Value} {dv v : Value} (V : Arv C.Z h a q .char z vs dv) (hj : ¬ j < 0 ∧ j < z) (hv : vs.getD j.toNatClampNeg dv = v) (hd : decode C.b.code pc = .ok (.caload, 1)) (hp : pc + 1 = pc') (r : Wk C h k n I pc' Ls (v :: st)) : Wk C h k n I pc Ls (.int j :: .ref a :: st) := by
  subst hp
  obtain ⟨c, A, q1, q2, q3, q4, q5⟩ := V
  have hin := inb_of q2 hj
  refine Wk.law (fun p e s vm0 m args below meth cc T locs k0 S => ⟨T, S.2.2.2.1, S.2.2.2.2.1, fun t kt => ?_⟩) r
  exact S.2.2.2.1.caload (g := mkF m pc Ls (.int j :: .ref a :: st)) S.1.1 (by rw [S.2.2.2.2.1]; exact A.1) (State.isArrayOf_alike S.2.1.2.1.alike A.2.1) A.2.2 hin (q4.at hin hv) rfl rfl (hb S.1.2.1 hd) t kt
theorem Wk.baload {a : Addr} {q : ClassId} {z j : Int32} {vs : List Value} {dv v : Value} (V : Arv C.Z h a q .byte z vs dv) (hj : ¬ j < 0 ∧ j < z) (hv : vs.getD j.toNatClampNeg dv = v) (hd : decode C.b.code pc = .ok (.baload, 1)) (hp : pc + 1 = pc') (r : Wk C h k n I pc' Ls (v :: st)) : Wk C h k n I pc Ls (.int j :: .ref a :: st) := by
  subst hp
  obtain ⟨c, A, q1, q2, q3, q4, q5⟩ := V
  have hin := inb_of q2 hj
  refine Wk.law (fun p e s vm0 m args below meth cc T locs k0 S => ⟨T, S.2.2.2.1, S.2.2.2.2.1, fun t kt => ?_⟩) r
  exact S.2.2.2.1.baloadBytes (g := mkF m pc Ls (.int j :: .ref a :: st)) S.1.1 (by rw [S.2.2.2.2.1]; exact A.1) (State.isArrayOf_alike S.2.1.2.1.alike A.2.1) A.2.2 hin (q4.at hin hv) rfl rfl (hb S.1.2.1 hd) t kt
theorem Wk.zaload {a : Addr} {q : ClassId} {z j : Int32} {vs : List Value} {dv v : Value} (V : Arv C.Z h a q .boolean z vs dv) (hj : ¬ j < 0 ∧ j < z) (hv : vs.getD j.toNatClampNeg dv = v) (hd : decode C.b.code pc = .ok (.baload, 1)) (hp : pc + 1 = pc') (r : Wk C h k n I pc' Ls (v :: st)) : Wk C h k n I pc Ls (.int j :: .ref a :: st) := by
  subst hp
  obtain ⟨c, A, q1, q2, q3, q4, q5⟩ := V
  have hin := inb_of q2 hj
  refine Wk.law (fun p e s vm0 m args below meth cc T locs k0 S => ⟨T, S.2.2.2.1, S.2.2.2.2.1, fun t kt => ?_⟩) r
  exact S.2.2.2.1.baloadBooleans (g := mkF m pc Ls (.int j :: .ref a :: st)) S.1.1 (by rw [S.2.2.2.2.1]; exact A.1) (State.isArrayOf_alike S.2.1.2.1.alike A.2.1) A.2.2 hin (q4.at hin hv) rfl rfl (hb S.1.2.1 hd) t kt
theorem Wk.aaload {a : Addr} {q : ClassId} {ty : FieldType} {z j : Int32} {vs : List Value} {dv v : Value} (V : Arv C.Z h a q ty z vs dv) (hty : ty.isReference = true) (hj : ¬ j < 0 ∧ j < z) (hv : vs.getD j.toNatClampNeg dv = v) (hd : decode C.b.code pc = .ok (.aaload, 1)) (hp : pc + 1 = pc') (r : Wk C h k n I pc' Ls (v :: st)) : Wk C h k n I pc Ls (.int j :: .ref a :: st) := by
  subst hp
  obtain ⟨c, A, q1, q2, q3, q4, q5⟩ := V
  have hin := inb_of q2 hj
  refine Wk.law (fun p e s vm0 m args below meth cc T locs k0 S => ⟨T, S.2.2.2.1, S.2.2.2.2.1, fun t kt => ?_⟩) r
  exact S.2.2.2.1.aaload (g := mkF m pc Ls (.int j :: .ref a :: st)) S.1.1 (by rw [S.2.2.2.2.1]; exact A.1) (State.isArrayOf_alike S.2.1.2.1.alike A.2.1) hty A.2.2 hin (q4.at hin hv) rfl rfl (hb S.1.2.1 hd) t kt
theorem Wk.iastore {a : Addr} {q : ClassId} {z j : Int32} {x : Int32} {vs : List Value} {dv : Value} (V : Arv C.Z h a q .int z vs dv) (ha : C.N ≤ a) (hj : ¬ j < 0 ∧ j < z) (i : Nat) (hi : j.toNatClampNeg = i) (hlt : i < vs.length) (hd : decode C.b.code pc = .ok (.iastore, 1)) (hp : pc + 1 = pc')
    (r : ∀ h', Wr h h' a j.toNatClampNeg (.int x) → Arv C.Z h' a q .int z (vs.set i (.int x)) dv → Wk C h' k n I pc' Ls st) : Wk C h k n I pc Ls (.int x :: .int j :: .ref a :: st) := by
  subst hp
  obtain ⟨c, A, q1, q2, q3, q4, q5⟩ := V
  have hin := inb_of q2 hj
  exact Wk.lawW ha (fun p e s vm0 m args below meth cc T locs k0 S => stI (g := mkF m pc Ls (.int x :: .int j :: .ref a :: st)) S.2.2.2.1 S.1.1 S.2.1.2.1 S.2.2.2.2.1 A hin rfl rfl (hb S.1.2.1 hd)) (fun h' W => r h' W (Arv.set A q1 q2 q3 q4 q5 (rfl) W i hi hlt))
theorem Wk.lastore {a : Addr} {q : ClassId} {z j : Int32} {x : Int64} {vs : List Value} {dv : Value} (V : Arv C.Z h a q .long z vs dv) (ha : C.N ≤ a) (hj : ¬ j < 0 ∧ j < z) (i : Nat) (hi : j.toNatClampNeg = i) (hlt : i < vs.length) (hd : decode C.b.code pc = .ok (.lastore, 1)) (hp : pc + 1 = pc')
    (r : ∀ h', Wr h h' a j.toNatClampNeg (.long x) → Arv C.Z h' a q .long z (vs.set i (.long x)) dv → Wk C h' k n I pc' Ls st) : Wk C h k n I pc Ls (.long x :: .int j :: .ref a :: st) := by
  subst hp
  obtain ⟨c, A, q1, q2, q3, q4, q5⟩ := V
  have hin := inb_of q2 hj
  exact Wk.lawW ha (fun p e s vm0 m args below meth cc T locs k0 S => stJ (g := mkF m pc Ls (.long x :: .int j :: .ref a :: st)) S.2.2.2.1 S.1.1 S.2.1.2.1 S.2.2.2.2.1 A hin rfl rfl (hb S.1.2.1 hd)) (fun h' W => r h' W (Arv.set A q1 q2 q3 q4 q5 (rfl) W i hi hlt))
theorem Wk.castore {a : Addr} {q : ClassId} {z j : Int32} {x : Int32} {vs : List Value} {dv : Value} (V : Arv C.Z h a q .char z vs dv) (ha : C.N ≤ a) (hj : ¬ j < 0 ∧ j < z) (i : Nat) (hi : j.toNatClampNeg = i) (hlt : i < vs.length) (hd : decode C.b.code pc = .ok (.castore, 1)) (hp : pc + 1 = pc')
    (r : ∀ h', Wr h h' a j.toNatClampNeg (.int (nar .char x)) → Arv C.Z h' a q .char z (vs.set i (.int (nar .char x))) dv → Wk C h' k n I pc' Ls st) : Wk C h k n I pc Ls (.int x :: .int j :: .ref a :: st) := by
  subst hp
  obtain ⟨c, A, q1, q2, q3, q4, q5⟩ := V
  have hin := inb_of q2 hj
  exact Wk.lawW ha (fun p e s vm0 m args below meth cc T locs k0 S => stC (g := mkF m pc Ls (.int x :: .int j :: .ref a :: st)) S.2.2.2.1 S.1.1 S.2.1.2.1 S.2.2.2.2.1 A hin rfl rfl (hb S.1.2.1 hd)) (fun h' W => r h' W (Arv.set A q1 q2 q3 q4 q5 (fits_nar_char x) W i hi hlt))
theorem Wk.bastore {a : Addr} {q : ClassId} {z j : Int32} {x : Int32} {vs : List Value} {dv : Value} (V : Arv C.Z h a q .byte z vs dv) (ha : C.N ≤ a) (hj : ¬ j < 0 ∧ j < z) (i : Nat) (hi : j.toNatClampNeg = i) (hlt : i < vs.length) (hd : decode C.b.code pc = .ok (.bastore, 1)) (hp : pc + 1 = pc')
    (r : ∀ h', Wr h h' a j.toNatClampNeg (.int (nar .byte x)) → Arv C.Z h' a q .byte z (vs.set i (.int (nar .byte x))) dv → Wk C h' k n I pc' Ls st) : Wk C h k n I pc Ls (.int x :: .int j :: .ref a :: st) := by
  subst hp
  obtain ⟨c, A, q1, q2, q3, q4, q5⟩ := V
  have hin := inb_of q2 hj
  exact Wk.lawW ha (fun p e s vm0 m args below meth cc T locs k0 S => stB (g := mkF m pc Ls (.int x :: .int j :: .ref a :: st)) S.2.2.2.1 S.1.1 S.2.1.2.1 S.2.2.2.2.1 A hin rfl rfl (hb S.1.2.1 hd)) (fun h' W => r h' W (Arv.set A q1 q2 q3 q4 q5 (fits_nar_byte x) W i hi hlt))
theorem Wk.zastore {a : Addr} {q : ClassId} {z j : Int32} {x : Int32} {vs : List Value} {dv : Value} (V : Arv C.Z h a q .boolean z vs dv) (ha : C.N ≤ a) (hj : ¬ j < 0 ∧ j < z) (i : Nat) (hi : j.toNatClampNeg = i) (hlt : i < vs.length) (hd : decode C.b.code pc = .ok (.bastore, 1)) (hp : pc + 1 = pc')
    (r : ∀ h', Wr h h' a j.toNatClampNeg (.int (nar .boolean x)) → Arv C.Z h' a q .boolean z (vs.set i (.int (nar .boolean x))) dv → Wk C h' k n I pc' Ls st) : Wk C h k n I pc Ls (.int x :: .int j :: .ref a :: st) := by
  subst hp
  obtain ⟨c, A, q1, q2, q3, q4, q5⟩ := V
  have hin := inb_of q2 hj
  exact Wk.lawW ha (fun p e s vm0 m args below meth cc T locs k0 S => stZ (g := mkF m pc Ls (.int x :: .int j :: .ref a :: st)) S.2.2.2.1 S.1.1 S.2.1.2.1 S.2.2.2.2.1 A hin rfl rfl (hb S.1.2.1 hd)) (fun h' W => r h' W (Arv.set A q1 q2 q3 q4 q5 (fits_nar_bool x) W i hi hlt))
theorem Wk.aastore {a : Addr} {q : ClassId} {ty : FieldType} {z j : Int32} {v : Value} {vs : List Value} {dv : Value} (V : Arv C.Z h a q ty z vs dv) (hty : ty.isReference = true) (hf : fits ty v = true) (ha : C.N ≤ a) (hj : ¬ j < 0 ∧ j < z) (i : Nat) (hi : j.toNatClampNeg = i) (hlt : i < vs.length) (F : Sto C.Z h a v) (hd : decode C.b.code pc = .ok (.aastore, 1)) (hp : pc + 1 = pc')
    (r : ∀ h', Wr h h' a j.toNatClampNeg v → Arv C.Z h' a q ty z (vs.set i v) dv → Wk C h' k n I pc' Ls st) : Wk C h k n I pc Ls (v :: .int j :: .ref a :: st) := by
  subst hp
  obtain ⟨c, A, q1, q2, q3, q4, q5⟩ := V
  have hin := inb_of q2 hj
  exact Wk.lawW ha (fun p e s vm0 m args below meth cc T locs k0 S => stR (g := mkF m pc Ls (v :: .int j :: .ref a :: st)) S.2.2.2.1 S.1.1 S.2.1.2.1 S.2.2.2.2.1 A hin hty F rfl rfl (hb S.1.2.1 hd)) (fun h' W => r h' W (Arv.set A q1 q2 q3 q4 q5 hf W i hi hlt))
theorem Wk.ldcI {idx : Nat} {v : Int32} (w : (Jvm.Cond.constant C.b.y.cls idx v).before a0 C.Z = true) (hd : decode C.b.code pc = .ok (.ldc idx, 2)) (hp : pc + 2 = pc') (r : Wk C h k n I pc' Ls (.int v :: st)) : Wk C h k n I pc Ls st := by
  subst hp
  exact Wk.law (fun p e s vm0 m args below meth c T locs k0 S => ⟨T, S.2.2.2.1, S.2.2.2.2.1, fun t kt => S.2.2.2.1.ldcI (g := mkF m pc Ls st) S.1.1 S.2.1.1 (mv (s := s.setVm vm0) S.2.1.2.1 w) rfl (hb S.1.2.1 hd) kt⟩) r
theorem Wk.ldcWI {idx : Nat} {v : Int32} (w : (Jvm.Cond.constant C.b.y.cls idx v).before a0 C.Z = true) (hd : decode C.b.code pc = .ok (.ldc_w idx, 3)) (hp : pc + 3 = pc') (r : Wk C h k n I pc' Ls (.int v :: st)) : Wk C h k n I pc Ls st := by
  subst hp
  exact Wk.law (fun p e s vm0 m args below meth c T locs k0 S => ⟨T, S.2.2.2.1, S.2.2.2.2.1, fun t kt => S.2.2.2.1.ldcWI (g := mkF m pc Ls st) S.1.1 S.2.1.1 (mv (s := s.setVm vm0) S.2.1.2.1 w) rfl (hb S.1.2.1 hd) kt⟩) r
theorem Wk.ldc2J {idx : Nat} {v : Int64} (w : (Jvm.Cond.constantLong C.b.y.cls idx v).before a0 C.Z = true) (hd : decode C.b.code pc = .ok (.ldc2_w idx, 3)) (hp : pc + 3 = pc') (r : Wk C h k n I pc' Ls (.long v :: st)) : Wk C h k n I pc Ls st := by
  subst hp
  exact Wk.law (fun p e s vm0 m args below meth c T locs k0 S => ⟨T, S.2.2.2.1, S.2.2.2.2.1, fun t kt => S.2.2.2.1.ldc2J (g := mkF m pc Ls st) S.1.1 S.2.1.1 (mv (s := s.setVm vm0) S.2.1.2.1 w) rfl (hb S.1.2.1 hd) kt⟩) r
theorem Wk.castY {K : String} {idx : Nat} {a : Addr} (w : (Jvm.Cond.classLink C.b.y.cls idx K).before a0 C.Z = true) (F : Ins C.Z h a K true) (hd : decode C.b.code pc = .ok (.checkcast idx, 3)) (hp : pc + 3 = pc') (r : Wk C h k n I pc' Ls (.ref a :: st)) : Wk C h k n I pc Ls (.ref a :: st) := by
  subst hp
  exact Wk.law (fun p e s vm0 m args below meth c T locs k0 S => Jvm.RoadKit.castY (g := mkF m pc Ls (.ref a :: st)) S.2.2.2.1 S.1.1 S.2.1.2.1 S.2.1.1 w S.2.2.2.2.1 F rfl rfl (hb S.1.2.1 hd)) r
theorem Wk.instY {K : String} {idx : Nat} {a : Addr} (w : (Jvm.Cond.classLink C.b.y.cls idx K).before a0 C.Z = true) (F : Ins C.Z h a K true) (hd : decode C.b.code pc = .ok (.instanceof idx, 3)) (hp : pc + 3 = pc') (r : Wk C h k n I pc' Ls (.int 1 :: st)) : Wk C h k n I pc Ls (.ref a :: st) := by
  subst hp
  exact Wk.law (fun p e s vm0 m args below meth c T locs k0 S => Jvm.RoadKit.instY (g := mkF m pc Ls (.ref a :: st)) S.2.2.2.1 S.1.1 S.2.1.2.1 S.2.1.1 w S.2.2.2.2.1 F rfl rfl (hb S.1.2.1 hd)) r
theorem Wk.leaveW {v : Option Value} (hv : C.b.ret = none → v = none) (hk : k ≤ C.b.room.cells) (hn : n ≤ C.b.room.slots) (q : C.Q v h I)
    (hs : ∀ (p : Program) (e : Env) (s : State) (vm0 : Vm) (m : MethodId) (args : Array Value) (below : List Frame) (meth : Method) (c : Code) (T : State) (locs : List Loc) (k0 : Nat) (fs : List Frame), St C p e s vm0 m args below meth c T locs k0 h k n I →
      (∀ (f : JFrame) (acts : List Action), f.method = m → f.locked = none → f.entered = [] → (doReturn e (T.setTop f) acts v).1 = T.setFrames fs) → Steps p.tables e below (T.setTop (mkF m pc Ls st)) (T.setFrames fs)) : Wk C h k n I pc Ls st := fun p e s vm0 m args below meth c T locs k0 S => by
  obtain ⟨fs, hr, hrun, hended, hW, hsame⟩ := S.2.2.2.1.leave (v := v) (fun q => hv (S.1.2.2.2.1 ▸ q)) S.1.2.2.2.2.1
  have hst := hs p e s vm0 m args below meth c T locs k0 fs S hr
  obtain ⟨A, ⟨b1, b2, b3, b4⟩, q1, q2, q3, q4, q5, q6⟩ := S
  have eh : (T.setFrames fs).heap = h := q3
  obtain ⟨u1, u2, u3⟩ := b3.ended hW (by rw [eh]; exact q1) hsame
  exact ⟨_, _, hst, hrun, hended, v, locs, I, rfl, by rw [eh]; exact q, VI.warm (s := s.setVm vm0) b4 hW, q6, by rw [eh]; exact q4, ⟨v, rfl⟩, u1, u2, u3.mono hk hn⟩
theorem Wk.ireturn {z : Int32} (hret : C.b.ret = some .int) (hd : decode C.b.code pc = .ok (.ireturn, 1)) (hk : k ≤ C.b.room.cells) (hn : n ≤ C.b.room.slots) (q : C.Q (some (.int z)) h I) : Wk C h k n I pc Ls (.int z :: st) :=
  Wk.leaveW (v := some (.int z)) (fun e => by rw [hret] at e; cases e) hk hn q fun p e s vm0 m args below meth c T locs k0 fs S hr =>
    retOut S.2.2.2.1 S.1.1 (S.1.2.2.2.1.trans hret) rfl (Or.inl ⟨rfl, Or.inl rfl, _, rfl⟩) (hb S.1.2.1 hd) hr
theorem Wk.zreturn {z : Int32} {t : FieldType} (hret : C.b.ret = some t) (ht : t = .boolean ∨ t = .byte ∨ t = .char ∨ t = .short) (hd : decode C.b.code pc = .ok (.ireturn, 1)) (hk : k ≤ C.b.room.cells) (hn : n ≤ C.b.room.slots) (q : C.Q (some (.int (nar t z))) h I) : Wk C h k n I pc Ls (.int z :: st) :=
  Wk.leaveW (v := some (.int (nar t z))) (fun e => by rw [hret] at e; cases e) hk hn q fun p e s vm0 m args below meth c T locs k0 fs S hr =>
    retN S.2.2.2.1 S.1.1 (S.1.2.2.2.1.trans hret) ht (hb S.1.2.1 hd) hr
theorem Wk.lreturn {z : Int64} (hret : C.b.ret = some .long) (hd : decode C.b.code pc = .ok (.lreturn, 1)) (hk : k ≤ C.b.room.cells) (hn : n ≤ C.b.room.slots) (q : C.Q (some (.long z)) h I) : Wk C h k n I pc Ls (.long z :: st) :=
  Wk.leaveW (v := some (.long z)) (fun e => by rw [hret] at e; cases e) hk hn q fun p e s vm0 m args below meth c T locs k0 fs S hr =>
    retOut S.2.2.2.1 S.1.1 (S.1.2.2.2.1.trans hret) rfl (Or.inr (Or.inl ⟨rfl, rfl, _, rfl⟩)) (hb S.1.2.1 hd) hr
theorem Wk.dreturn {z : UInt64} (hret : C.b.ret = some .double) (hd : decode C.b.code pc = .ok (.dreturn, 1)) (hk : k ≤ C.b.room.cells) (hn : n ≤ C.b.room.slots) (q : C.Q (some (.double z)) h I) : Wk C h k n I pc Ls (.double z :: st) :=
  Wk.leaveW (v := some (.double z)) (fun e => by rw [hret] at e; cases e) hk hn q fun p e s vm0 m args below meth c T locs k0 fs S hr =>
    retOut S.2.2.2.1 S.1.1 (S.1.2.2.2.1.trans hret) rfl (Or.inr (Or.inr (Or.inl ⟨rfl, rfl, _, rfl⟩))) (hb S.1.2.1 hd) hr
theorem narrow_refl {t : FieldType} {w : Value} (ht : t.isReference = true) : narrow t w = w := by cases t <;> simp [FieldType.isReference] at ht <;> cases w <;> rfl
theorem Wk.areturn {w : Value} {t : FieldType} (hret : C.b.ret = some t) (ht : t.isReference = true) (hw : w.isRef = true) (hd : decode C.b.code pc = .ok (.areturn, 1)) (hk : k ≤ C.b.room.cells) (hn : n ≤ C.b.room.slots) (q : C.Q (some w) h I) : Wk C h k n I pc Ls (w :: st) :=
  Wk.leaveW (v := some w) (fun e => by rw [hret] at e; cases e) hk hn q fun p e s vm0 m args below meth c T locs k0 fs S hr =>
    retOut S.2.2.2.1 S.1.1 (S.1.2.2.2.1.trans hret) (narrow_refl ht) (Or.inr (Or.inr (Or.inr (Or.inr ⟨rfl, ht, hw⟩)))) (hb S.1.2.1 hd) hr
theorem Wk.return_ (hret : C.b.ret = none) (hd : decode C.b.code pc = .ok (.return_, 1)) (hk : k ≤ C.b.room.cells) (hn : n ≤ C.b.room.slots) (q : C.Q none h I) : Wk C h k n I pc Ls [] :=
  Wk.leaveW (v := none) (fun _ => rfl) hk hn q fun p e s vm0 m args below meth c T locs k0 fs S hr =>
    S.2.2.2.1.returnOut S.1.1 (S.1.2.2.2.1.trans hret) (hb S.1.2.1 hd) hr
theorem Cn.of_wk {l : Launch} {Z : State} {N : Nat} {b : Bdy} {as : Array Value} {Q : Option Value → Heap → Lts → Prop} (hp : plainFor b.y = true) (he : ∀ m, entryFrame m as b.maxL = mkF m 0 Ls []) (r : Wk (l, Z, N, h.size, b, Q) h 0 0 I 0 Ls []) : Cn l Z N b as h I Q := by
  intro ws
  refine MetFree.of_bodySF hp hisR ?_
  intro p e s m args below meth c s₁ Bd hml0 hP hK
  obtain ⟨rfl, hZ, hh, hV, hE, hN, hZN⟩ := hP
  have X0 : Stand p l e b.room (s.setVm s.vm) m args below meth c s₁ [] 0 0 := Stand.of_body Bd
  have e0 : s₁.heap = h := by rw [← hh, Bd.state]; rfl
  obtain ⟨t, o, h1, h2⟩ := r p e s s.vm m args below meth c s₁ [] s.heap.size ⟨⟨Bd.exec, Bd.bytes, hml0, Bd.returns, Bd.notSynchronized, (name_of_methodNamed Bd.named Bd.method).1, hZN, by rw [hh], by rw [hh]; exact hE⟩, ⟨findClass_of_methodNamed Bd.named, hZ, (State.WarmedH.refl s).since _, hV⟩, by rw [hh]; exact Nat.le_refl _, X0, e0, hE, hN, Fr.nil _⟩
  exact ⟨t, o, castTop (he m) h1, h2⟩
theorem Cn.back {l : Launch} {Z : State} {N : Nat} {b : Bdy} {as : Array Value} {Q : Option Value → Heap → Lts → Prop} (M : Cn l Z N b as h I Q) {R : Room} {p : Program} {e : Env} {below : List Frame} {s : State} {args : Array Value} {len W : Nat} (hZ : Z.Warmed39 s.vm) (hV : VI Z I s.vm) (hE : Ext Z.heap h) (hN : N ≤ h.size) (hZN : Z.heap.size ≤ N)
    (wc : (Jvm.Cond.code b.y b.code b.maxL b.ret).before a0 Z = true) (wz : (Jvm.Cond.initialized b.y.cls).before a0 Z = true) (hf : b.room.frames + 1 ≤ R.frames) (hl : W + (b.maxL + 11) + b.room.locals ≤ R.locals) :
    BackS l R p e below s args b.y len W (fun A a => a = as ∧ A.U.heap = h ∧ A.cells + b.room.cells ≤ R.cells ∧ A.slots + b.room.slots ≤ R.slots)
      (fun A _ v B => ∃ L J, Q v B.U.heap J ∧ VI Z J B.U.vm ∧ Fr N L ∧ Ext Z.heap B.U.heap ∧ B.locs = A.locs ++ L ∧ B.cells = A.cells + b.room.cells ∧ B.slots = A.slots + b.room.slots) :=
  BackS.of_freeW (bytes := b.code) (maxL := b.maxL) (ret := b.ret) (E := fun _ _ o t L k n => k = b.room.cells ∧ n = b.room.slots ∧ ∃ v J, o = .returned v ∧ Q v t.heap J ∧ VI Z J t.vm ∧ Fr N L ∧ Ext Z.heap t.heap) (M []) hf hl
    (fun m meth c A a Y hp => have hU : Z.Warmed39 A.U.vm := wtrans hZ Y.warmed
      ⟨by show (Cond.and _ .tt).before a A.U = true; rw [Cond.before_and, mv hU wc]; rfl, mv hU wc, mv hU wz, hp.2.2.1, hp.2.2.2⟩)
    (fun m meth c A a g mk Y hp => ⟨hp.1, wtrans hZ Y.warmed, hp.2.1, VI.warm hV Y.warmed, hE, hN, hZN⟩) (fun _ _ _ _ _ _ _ _ _ => trivial)
    (fun _ _ _ _ ⟨v, L, J, h1, h2, h3, h4, h5, h6⟩ => ⟨L, _, _, h6, rfl, rfl, v, J, h1, h2, h3, h4, h5⟩)
    (fun m meth c A a g mk v t L k n Y hp _ _ ⟨e1, e2, v', J, e3, e4, e5, e6, e7⟩ => by cases e3; subst e1 e2; exact ⟨L, J, e4, e5, e6, e7, rfl, rfl, rfl⟩)
/-- behind a call -/
theorem Wk.behind {b : Bdy} {N' : Nat} {Q' : Option Value → Heap → Lts → Prop} (hN : C.N ≤ N') (hk : k + b.room.cells = k') (hn : n + b.room.slots = n') (r : ∀ v h' J, h.size ≤ h'.size → Q' v h' J → Wk C h' k' n' J pc' Ls (v.toList ++ rest))
    {p : Program} {e : Env} {s : State} {vm0 : Vm} {m : MethodId} {args : Array Value} {below : List Frame} {meth : Method} {c : Code} {T : State} {locs : List Loc} {k0 : Nat} (S : St C p e s vm0 m args below meth c T locs k0 h k n I)
    {U0 : State} (q : ∃ (v : Option Value) (vm₁ : Vm) (B : Pt), (s.setVm vm0).WarmedH vm₁ ∧ Stand p C.l e C.b.room ((s.setVm vm0).setVm B.U.vm) m args below meth c B.U B.locs B.cells B.slots ∧ (s.setVm vm0).Since B.U.vm B.U.heap.size ∧ T.heap.size ≤ B.U.heap.size ∧
      (∃ L J, Q' v B.U.heap J ∧ VI C.Z J B.U.vm ∧ Fr N' L ∧ Ext C.Z.heap B.U.heap ∧ B.locs = locs ++ L ∧ B.cells = k + b.room.cells ∧ B.slots = n + b.room.slots) ∧ Steps p.tables e below U0 (B.U.setTop (mkF m pc' Ls (v.toList ++ rest)))) :
    ∃ t o, Steps p.tables e below U0 t ∧ t.status = .running ∧ Ended t below o ∧ Fini C s o t := by
  obtain ⟨v, vm₁, ⟨U, L2, k2, n2⟩, hW, X', hS', hg, ⟨L, J, y1, y2, y3, y4, y5, y6, y7⟩, hst⟩ := q
  dsimp only [Pt.U, Pt.locs, Pt.cells, Pt.slots] at X' hS' hg y1 y2 y3 y4 y5 y6 y7 hst
  subst y5 y6 y7 hk hn
  obtain ⟨A, ⟨b1, b2, b3, b4⟩, q1, q2, q3, q4, q5, q6⟩ := S
  have hg' : h.size ≤ U.heap.size := by rw [← q3]; exact hg
  obtain ⟨x1, x2, x3, x4⟩ := rebS b3 q1 X' hS' hg' b2 b1
  obtain ⟨t, o, h1, h2⟩ := r v U.heap J hg' y1 p e s U.vm m args below meth c U _ U.heap.size ⟨A, ⟨x4, x3, x2, y2⟩, Nat.le_refl _, x1, rfl, y4, Nat.le_trans q5 hg', Fr.app q6 fun y hy => Nat.le_trans hN (y3 y hy)⟩
  exact ⟨t, o, hst.trans h1, h2⟩
abbrev NoPoly (y : MethodName) : Prop := y.cls ≠ "java/lang/invoke/MethodHandle" ∧ y.cls ≠ "java/lang/invoke/VarHandle"
theorem Wk.callS {b : Bdy} {N' : Nat} {as : Array Value} {Q' : Option Value → Heap → Lts → Prop} {idx W : Nat} {ps : List FieldType} {rt : Option FieldType} {argsL : List Value} (M : Cn C.l C.Z N' b as h I Q')
    (w1 : (Jvm.Cond.methodLink C.b.y.cls idx b.y).before a0 C.Z = true) (w2 : (Jvm.Cond.static b.y).before a0 C.Z = true) (w3 : (Jvm.Cond.initialized b.y.cls).before a0 C.Z = true) (w4 : (Jvm.Cond.code b.y b.code b.maxL b.ret).before a0 C.Z = true) (hy : NoPoly b.y)
    (hN : C.N ≤ N') (hN' : C.N ≤ h.size → N' ≤ h.size) (hf : b.room.frames + 1 ≤ C.b.room.frames) (hl : W + (b.maxL + 11) + b.room.locals ≤ C.b.room.locals) (hk : k + b.room.cells = k') (hn : n + b.room.slots = n') (hkc : k' ≤ C.b.room.cells) (hnc : n' ≤ C.b.room.slots)
    (hsz : Ls.size = C.b.maxL) (hpd : parseMethodDescriptor b.y.desc = some ⟨ps, rt⟩) (hlen : argsL.length = ps.length) (has : as = argsL.toArray) (hst : st = argsL.reverse ++ rest) (hW : (rest.map fun v => v.category).sum ≤ W) (hd : decode C.b.code pc = .ok (.invokestatic idx, 3)) (hp : pc + 3 = pc')
    (r : ∀ v h' J, h.size ≤ h'.size → Q' v h' J → Wk C h' k' n' J pc' Ls (v.toList ++ rest)) : Wk C h k n I pc Ls st := by
  subst hp has hst hk hn
  intro p e s vm0 m args below meth c T locs k0 S
  refine Wk.behind (b := b) hN rfl rfl r S ?_
  have hZ : C.Z.Warmed39 (s.setVm vm0).vm := S.2.1.2.1
  exact callSS S.2.2.2.1 S.1.1 (own := C.b.y.cls) S.2.1.1 (mvT hZ w1) (mvT hZ w2) (mvT hZ w3) (mvT hZ w4) hy (Cn.back (a0 := a0) (W := W) M hZ S.2.1.2.2.2 S.2.2.2.2.2.1 (hN' S.2.2.2.2.2.2.1) (Nat.le_trans S.1.2.2.2.2.2.2.1 hN) w4 w3 hf hl) (g := mkF m pc Ls (argsL.reverse ++ rest)) rfl (hsz.trans S.1.2.2.1.symm) (argsL := argsL) (rest := rest) (lenOf hpd hlen) rfl (by show 2 * 0 + _ ≤ _; omega) (hb S.1.2.1 hd) (fun _ _ => ⟨rfl, S.2.2.2.2.1, hkc, hnc⟩)
theorem Wk.callN {b : Bdy} {N' : Nat} {as : Array Value} {Q' : Option Value → Heap → Lts → Prop} {idx W : Nat} {ps : List FieldType} {rt : Option FieldType} {argsL : List Value} {a : Addr} (M : Cn C.l C.Z N' b as h I Q') (hini : b.y.name = "<init>") (hrt : b.ret = none)
    (w1 : (Jvm.Cond.methodLink C.b.y.cls idx b.y).before a0 C.Z = true) (w2 : (Jvm.Cond.instanceMethod b.y).before a0 C.Z = true) (w3 : (Jvm.Cond.initialized b.y.cls).before a0 C.Z = true) (w4 : (Jvm.Cond.code b.y b.code b.maxL b.ret).before a0 C.Z = true) (hy : NoPoly b.y)
    (hN : C.N ≤ N') (hN' : C.N ≤ h.size → N' ≤ h.size) (hf : b.room.frames + 1 ≤ C.b.room.frames) (hl : W + (b.maxL + 11) + b.room.locals ≤ C.b.room.locals) (hk : k + b.room.cells = k') (hn : n + b.room.slots = n') (hkc : k' ≤ C.b.room.cells) (hnc : n' ≤ C.b.room.slots)
    (hsz : Ls.size = C.b.maxL) (hpd : parseMethodDescriptor b.y.desc = some ⟨ps, rt⟩) (hlen : argsL.length = ps.length) (has : as = (.ref a :: argsL).toArray) (hst : st = argsL.reverse ++ .ref a :: rest) (hW : (rest.map fun v => v.category).sum ≤ W) (hd : decode C.b.code pc = .ok (.invokespecial idx, 3)) (hp : pc + 3 = pc')
    (r : ∀ v h' J, h.size ≤ h'.size → Q' v h' J → Wk C h' k' n' J pc' Ls (v.toList ++ rest)) : Wk C h k n I pc Ls st := by
  subst hp has hst hk hn
  intro p e s vm0 m args below meth c T locs k0 S
  refine Wk.behind (b := b) hN rfl rfl r S ?_
  have hZ : C.Z.Warmed39 (s.setVm vm0).vm := S.2.1.2.1
  have w4' : (Jvm.Cond.code b.y b.code b.maxL none).before a0 C.Z = true := by rw [← hrt]; exact w4
  exact S.2.2.2.1.specialBackS S.1.1 (own := C.b.y.cls) hini S.2.1.1 (mvT hZ w1) (mvT hZ w2) (mvT hZ w4') hy (Cn.back (a0 := a0) (W := W) M hZ S.2.1.2.2.2 S.2.2.2.2.2.1 (hN' S.2.2.2.2.2.2.1) (Nat.le_trans S.1.2.2.2.2.2.2.1 hN) w4 w3 hf hl) (g := mkF m pc Ls (argsL.reverse ++ .ref a :: rest)) rfl (hsz.trans S.1.2.2.1.symm) (Steps.refl _) (argsL := argsL) (rest := rest) (lenOf hpd hlen) rfl (by show 2 * 0 + _ ≤ _; omega) (hb S.1.2.1 hd) (fun _ _ => ⟨rfl, S.2.2.2.2.1, hkc, hnc⟩)
theorem Wk.callV {b : Bdy} {N' : Nat} {as : Array Value} {Q' : Option Value → Heap → Lts → Prop} {idx W : Nat} {ps : List FieldType} {rt : Option FieldType} {argsL : List Value} {a : Addr} {y : MethodName} {K K' : String} (M : Cn C.l C.Z N' b as h I Q') (E : Exa C.Z h a K)
    (w1 : (Jvm.Cond.methodLink C.b.y.cls idx y).before a0 C.Z = true) (wd : (Jvm.Cond.declares y).before a0 C.Z = true) (wn : (Jvm.Cond.selects K' y y).before a0 C.Z = true) (ws : (Jvm.Cond.selects K y b.y).before a0 C.Z = true) (w2 : (Jvm.Cond.instanceMethod b.y).before a0 C.Z = true) (w3 : (Jvm.Cond.initialized b.y.cls).before a0 C.Z = true) (w4 : (Jvm.Cond.code b.y b.code b.maxL b.ret).before a0 C.Z = true) (hy : NoPoly y)
    (hN : C.N ≤ N') (hN' : C.N ≤ h.size → N' ≤ h.size) (hf : b.room.frames + 1 ≤ C.b.room.frames) (hl : W + (b.maxL + 11) + b.room.locals ≤ C.b.room.locals) (hk : k + b.room.cells = k') (hn : n + b.room.slots = n') (hkc : k' ≤ C.b.room.cells) (hnc : n' ≤ C.b.room.slots)
    (hsz : Ls.size = C.b.maxL) (hpd : parseMethodDescriptor y.desc = some ⟨ps, rt⟩) (hlen : argsL.length = ps.length) (has : as = (.ref a :: argsL).toArray) (hst : st = argsL.reverse ++ .ref a :: rest) (hW : (rest.map fun v => v.category).sum ≤ W) (hd : decode C.b.code pc = .ok (.invokevirtual idx, 3)) (hp : pc + 3 = pc')
    (r : ∀ v h' J, h.size ≤ h'.size → Q' v h' J → Wk C h' k' n' J pc' Ls (v.toList ++ rest)) : Wk C h k n I pc Ls st := by
  subst hp has hst hk hn
  intro p e s vm0 m args below meth c T locs k0 S
  refine Wk.behind (b := b) hN rfl rfl r S ?_
  have hZ : C.Z.Warmed39 (s.setVm vm0).vm := S.2.1.2.1
  obtain ⟨cq, kq, qa, qb, qc⟩ := isOf (s := s.setVm vm0) hZ S.2.2.2.2.1 E
  exact S.2.2.2.1.virtualBackS S.1.1 (own := C.b.y.cls) (y := y) (z := b.y) S.2.1.1 (mvT hZ w1) (mvT hZ wd) (notFace_of_selects (args := #[]) (mvT hZ wn)) (mvT hZ ws) (mvT hZ w2) hy (Cn.back (a0 := a0) (W := W) M hZ S.2.1.2.2.2 S.2.2.2.2.2.1 (hN' S.2.2.2.2.2.2.1) (Nat.le_trans S.1.2.2.2.2.2.2.1 hN) w4 w3 hf hl) qa qc (g := mkF m pc Ls (argsL.reverse ++ .ref a :: rest)) rfl (hsz.trans S.1.2.2.1.symm) (Steps.refl _) (argsL := argsL) (rest := rest) (lenOf hpd hlen) rfl (by show 2 * 0 + _ ≤ _; omega) (hb S.1.2.1 hd) (fun _ _ => ⟨rfl, S.2.2.2.2.1, hkc, hnc⟩)
theorem Wk.callI {b : Bdy} {N' : Nat} {as : Array Value} {Q' : Option Value → Heap → Lts → Prop} {idx cnt W : Nat} {ps : List FieldType} {rt : Option FieldType} {argsL : List Value} {a : Addr} {y : MethodName} {K : String} (M : Cn C.l C.Z N' b as h I Q') (E : Exa C.Z h a K)
    (w1 : (Jvm.Cond.methodLink C.b.y.cls idx y).before a0 C.Z = true) (wd : (Jvm.Cond.declares y).before a0 C.Z = true) (wf : (Jvm.Cond.interfaceMethod y.cls y.cls y.name y.desc).before a0 C.Z = true) (ws : (Jvm.Cond.selects K y b.y).before a0 C.Z = true) (w2 : (Jvm.Cond.instanceMethod b.y).before a0 C.Z = true) (wp : (Jvm.Cond.publicMethod b.y).before a0 C.Z = true) (wu : (Jvm.Cond.unhidden K y.name y.desc).before a0 C.Z = true) (wk : (Jvm.Cond.castable K y.cls).before a0 C.Z = true) (w3 : (Jvm.Cond.initialized b.y.cls).before a0 C.Z = true) (w4 : (Jvm.Cond.code b.y b.code b.maxL b.ret).before a0 C.Z = true) (hy : NoPoly y)
    (hN : C.N ≤ N') (hN' : C.N ≤ h.size → N' ≤ h.size) (hf : b.room.frames + 1 ≤ C.b.room.frames) (hl : W + (b.maxL + 11) + b.room.locals ≤ C.b.room.locals) (hk : k + b.room.cells = k') (hn : n + b.room.slots = n') (hkc : k' ≤ C.b.room.cells) (hnc : n' ≤ C.b.room.slots)
    (hsz : Ls.size = C.b.maxL) (hpd : parseMethodDescriptor y.desc = some ⟨ps, rt⟩) (hlen : argsL.length = ps.length) (has : as = (.ref a :: argsL).toArray) (hst : st = argsL.reverse ++ .ref a :: rest) (hW : (rest.map fun v => v.category).sum ≤ W) (hd : decode C.b.code pc = .ok (.invokeinterface idx cnt, 5)) (hp : pc + 5 = pc')
    (r : ∀ v h' J, h.size ≤ h'.size → Q' v h' J → Wk C h' k' n' J pc' Ls (v.toList ++ rest)) : Wk C h k n I pc Ls st := by
  subst hp has hst hk hn
  intro p e s vm0 m args below meth c T locs k0 S
  refine Wk.behind (b := b) hN rfl rfl r S ?_
  have hZ : C.Z.Warmed39 (s.setVm vm0).vm := S.2.1.2.1
  obtain ⟨cq, kq, qa, qb, qc⟩ := isOf (s := s.setVm vm0) hZ S.2.2.2.2.1 E
  exact S.2.2.2.1.interfaceBackS S.1.1 (own := C.b.y.cls) (xi := y) (y := b.y) S.2.1.1 (mvT hZ w1) (mvT hZ wd) (mvT hZ wf (by simp [Cond.onTables, Cond.keepsFace, Cond.keeps, Cond.steady, Cond.faceAtom, hy.1, hy.2])) (mvT hZ ws) (mvT hZ w2) (mvT hZ wp) (mvT hZ wu) (mvT hZ wk) hy (Cn.back (a0 := a0) (W := W) M hZ S.2.1.2.2.2 S.2.2.2.2.2.1 (hN' S.2.2.2.2.2.2.1) (Nat.le_trans S.1.2.2.2.2.2.2.1 hN) w4 w3 hf hl) qa qb qc (g := mkF m pc Ls (argsL.reverse ++ .ref a :: rest)) rfl (hsz.trans S.1.2.2.1.symm) (Steps.refl _) (argsL := argsL) (rest := rest) (lenOf hpd hlen) rfl (by show 2 * 0 + _ ≤ _; omega) (hb S.1.2.1 hd) (fun _ _ => ⟨rfl, S.2.2.2.2.1, hkc, hnc⟩)
end Kit

section Kit2
variable {C : Cx} {h h' : Heap} {k n k' n' : Nat} {I : Lts} {pc pc' : Nat} {Ls Ls' : Array Slot} {st st' rest : List Value} {a0 : Array Value}
theorem Wk.ldcLit {idx cap : Nat} {text : String} {vs : List Value} {z : Int32} {Ts : List String} {Lk : List (String × Nat × Addr)} (w : (Jvm.Cond.stringLink C.b.y.cls idx text).before a0 C.Z = true) (wS : ∀ a ∈ Bundle.stringAtoms, a.before a0 C.Z = true) (hMN : C.M ≤ C.N) (hnot : text ∉ Ts) (hh : Jvm.Lit.constHeld C.Z C.b.y.cls idx) (hcw : Jvm.Lit.compactW.before a0 C.Z = true)
    (ht : (∀ c ∈ text.toList, c.toNat < 256) ∧ text.toList.map (fun c => Value.int (Jvm.Lit.byteI c.toNat.toUInt16)) = vs) (hz : ¬ z < 0) (hzl : z.toNatClampNeg = vs.length) (hd : decode C.b.code pc = .ok (.ldc idx, 2)) (hp : pc + 2 = pc') (hcap : 4 * text.toList.length ≤ cap) (hbig : cap ≤ 536870912) (hk : k + 2 = k') (hn : n + (cap + 4) = n') (hc : k' ≤ C.b.room.cells) (hl : n' ≤ C.b.room.slots)
    (r : ∀ a b q h', Ext h h' → Exa C.Z h' a "java/lang/String" → Fld C.Z h' a "java/lang/String" "coder" "B" (.int 0) → Fld C.Z h' a "java/lang/String" "value" "[B" (.ref b) → Arv C.Z h' b q .byte z vs (.int 0) → ((a < C.M ∧ b < C.M) ∨ (h.size ≤ a ∧ h.size ≤ b)) → Wk C h' k' n' (some (text :: Ts, [(C.b.y.cls, idx, a)])) pc' Ls (.ref a :: st)) : Wk C h k n (some (Ts, Lk)) pc Ls st := by
  subst hp hk hn
  intro p e s vm0 m args below meth c T locs k0 S
  obtain ⟨A, ⟨b1, b2, b3, b4⟩, q1, q2, q3, q4, q5, q6⟩ := S
  have hM : s.heap.size ≤ C.N := by rw [A.2.2.2.2.2.2.2.1]; exact hMN
  obtain ⟨a, T', h', k1, b, q, X', e', E, hS', hk1, hZ', ho', x1, x2, x3, x4, -, -, hI, hL, hpos, st'⟩ := ldcSVd q2 A.1 b2 b1 w wS q3 b3 q1 (fun y hy => Nat.le_trans hM (q6 y hy)) A.2.2.2.2.2.2.2.2.2 b4.1 hnot hh hcw ht hz hzl (g := mkF m pc Ls st) rfl (hb A.2.1 hd) hcap hbig hc hl
  obtain ⟨t, o, h1, h2⟩ := r a b q h' E x1 x2 x3 x4 (by rw [← A.2.2.2.2.2.2.2.1]; exact hpos) p e s T'.vm m args below meth c T' locs k1 ⟨A, ⟨ho', hZ', hS', hI, fun u hu => by rw [List.mem_singleton.mp hu]; exact hL⟩, hk1, X', e', ⟨Nat.le_trans q4.1 E.1, fun x c hx => E.2 _ _ (q4.2 _ _ hx)⟩, Nat.le_trans q5 E.1, q6⟩
  exact ⟨t, o, st' t h1, h2⟩
theorem Wk.ldcAgain {idx : Nat} {a : Addr} {text : String} {Ts : List String} {Lk : List (String × Nat × Addr)} (w : (Jvm.Cond.stringLink C.b.y.cls idx text).before a0 C.Z = true) (hm : (C.b.y.cls, idx, a) ∈ Lk) (hd : decode C.b.code pc = .ok (.ldc idx, 2)) (hp : pc + 2 = pc') (r : Wk C h k n (some (Ts, Lk)) pc' Ls (.ref a :: st)) : Wk C h k n (some (Ts, Lk)) pc Ls st := by
  subst hp
  refine Wk.law (fun p e s vm0 m args below meth c T locs k0 S => ⟨T, S.2.2.2.1, S.2.2.2.2.1, fun t kt => ?_⟩) r
  exact Jvm.RoadKit.ldcAgain S.2.2.2.1 S.1.1 S.2.1.2.1 S.2.1.1 w (S.2.1.2.2.2.2 _ hm) (g := mkF m pc Ls st) rfl (hb S.1.2.1 hd) t kt
/-- a walk that has written nothing below F yet -/
def WkM (F : Nat) (C : Cx) (h : Heap) (k n : Nat) (I : Lts) (pc : Nat) (Ls : Array Slot) (st : List Value) : Prop :=
  ∀ (p : Program) (e : Env) (s : State) (vm0 : Vm) (m : MethodId) (args : Array Value) (below : List Frame) (meth : Method) (c : Code) (T : State) (locs : List Loc) (k0 : Nat),
    St C p e s vm0 m args below meth c T locs k0 h k n I → Fr F locs →
    ∃ t o, Steps p.tables e below (T.setTop (mkF m pc Ls st)) t ∧ t.status = .running ∧ Ended t below o ∧ Fini C s o t
theorem Wk.toM {F : Nat} (r : Wk C h k n I pc Ls st) : WkM F C h k n I pc Ls st := fun p e s vm0 m args below meth c T locs k0 S _ => r p e s vm0 m args below meth c T locs k0 S
theorem WkM.law {F : Nat} (hs : ∀ (p : Program) (e : Env) (s : State) (vm0 : Vm) (m : MethodId) (args : Array Value) (below : List Frame) (meth : Method) (c : Code) (T : State) (locs : List Loc) (k0 : Nat), St C p e s vm0 m args below meth c T locs k0 h k n I →
      ∃ T', Stand p C.l e C.b.room (s.setVm vm0) m args below meth c T' locs k n ∧ T'.heap = h ∧ ∀ t, Steps p.tables e below (T'.setTop (mkF m pc' Ls' st')) t → Steps p.tables e below (T.setTop (mkF m pc Ls st)) t)
    (r : WkM F C h k n I pc' Ls' st') : WkM F C h k n I pc Ls st := fun p e s vm0 m args below meth c T locs k0 S hF => by
  obtain ⟨T', X', e', st⟩ := hs p e s vm0 m args below meth c T locs k0 S
  obtain ⟨t, o, h1, h2⟩ := r p e s vm0 m args below meth c T' locs k0 ⟨S.1, S.2.1, S.2.2.1, X', e', S.2.2.2.2.2⟩ hF
  exact ⟨t, o, st t h1, h2⟩
theorem WkM.step {F : Nat} (hs : ∀ (p : Program) (e : Env) (m : MethodId) (below : List Frame) (c : Code) (T t : State), At T m c below → p.tables.exec = Jvm.exec → c.code = C.b.code → Steps p.tables e below (T.setTop (mkF m pc' Ls' st')) t → Steps p.tables e below (T.setTop (mkF m pc Ls st)) t)
    (r : WkM F C h k n I pc' Ls' st') : WkM F C h k n I pc Ls st := fun p e s vm0 m args below meth c T locs k0 S hF => by
  obtain ⟨t, o, h1, h2⟩ := r p e s vm0 m args below meth c T locs k0 S hF
  exact ⟨t, o, hs p e m below c T t S.2.2.2.1.here S.1.1 S.1.2.1 h1, h2⟩
theorem WkM.iloadN {F : Nat} {j : Fin 4} {v : Int32} (hd : decode C.b.code pc = .ok (.iload_n j, 1)) (hp : pc + 1 = pc') (hl : Ls[j.val]? = some (.val (.int v))) (r : WkM F C h k n I pc' Ls (.int v :: st)) : WkM F C h k n I pc Ls st := by
  subst hp
  exact WkM.step (fun _ _ _ _ _ _ _ ha hx hby kt => XS.iloadN ha hx rfl (hb hby hd) hl kt) r
theorem WkM.aloadN {F : Nat} {j : Fin 4} {v : Value} (hd : decode C.b.code pc = .ok (.aload_n j, 1)) (hp : pc + 1 = pc') (hl : Ls[j.val]? = some (.val v)) (hv : v.isRef = true) (r : WkM F C h k n I pc' Ls (v :: st)) : WkM F C h k n I pc Ls st := by
  subst hp
  exact WkM.step (fun _ _ _ _ _ _ _ ha hx hby kt => XS.aloadN ha hx rfl (hb hby hd) hl hv kt) r
theorem WkM.if_neN {F : Nat} {x : Int32} {o : Int} (hd : decode C.b.code pc = .ok (.ifCond .ne o, 3)) (hp : pc + 3 = pc') (hc : x = (0 : Int32)) (r : WkM F C h k n I pc' Ls st) : WkM F C h k n I pc Ls (.int x :: st) := by
  subst hp
  exact WkM.step (fun _ _ _ _ _ _ _ ha hx hby kt => XS.ifNo ha hx rfl (hb hby hd) rfl ((if0 _ _).trans (teq hc).2) kt) r
theorem WkM.initO {F : Nat} {idx W : Nat} {a : Addr} (w1 : (Jvm.Cond.methodLink C.b.y.cls idx Lib.objectInit).before a0 C.Z = true) (w2 : (Jvm.Cond.instanceMethod Lib.objectInit).before a0 C.Z = true) (w3 : (Jvm.Cond.code Lib.objectInit ⟨#[0xb1]⟩ 1 none).before a0 C.Z = true) (hsz : Ls.size = C.b.maxL) (hd : decode C.b.code pc = .ok (.invokespecial idx, 3)) (hp : pc + 3 = pc') (hf : 1 ≤ C.b.room.frames) (hW : (st.map fun v => v.category).sum ≤ W) (hl : W + 12 ≤ C.b.room.locals)
    (r : WkM F C h k n I pc' Ls st) : WkM F C h k n I pc Ls (.ref a :: st) := by
  subst hp
  exact WkM.law (fun p e s vm0 m args below meth c T locs k0 S => Jvm.RoadKit.initO (g := mkF m pc Ls (.ref a :: st)) S.2.2.2.1 S.1.1 S.2.1.2.1 S.2.1.1 w1 w2 w3 S.2.2.2.2.1 rfl (hsz.trans S.1.2.2.1.symm) rfl (hb S.1.2.1 hd) hf (W := W) (by show 2 * 0 + _ ≤ _; omega) hl) r
theorem WkM.ldcLit {F idx cap : Nat} {text : String} {vs : List Value} {z : Int32} {Ts : List String} {Lk : List (String × Nat × Addr)} (w : (Jvm.Cond.stringLink C.b.y.cls idx text).before a0 C.Z = true) (wS : ∀ a ∈ Bundle.stringAtoms, a.before a0 C.Z = true) (hMN : C.M ≤ F) (hnot : text ∉ Ts) (hh : Jvm.Lit.constHeld C.Z C.b.y.cls idx) (hcw : Jvm.Lit.compactW.before a0 C.Z = true)
    (ht : (∀ c ∈ text.toList, c.toNat < 256) ∧ text.toList.map (fun c => Value.int (Jvm.Lit.byteI c.toNat.toUInt16)) = vs) (hz : ¬ z < 0) (hzl : z.toNatClampNeg = vs.length) (hd : decode C.b.code pc = .ok (.ldc idx, 2)) (hp : pc + 2 = pc') (hcap : 4 * text.toList.length ≤ cap) (hbig : cap ≤ 536870912) (hk : k + 2 = k') (hn : n + (cap + 4) = n') (hc : k' ≤ C.b.room.cells) (hl : n' ≤ C.b.room.slots)
    (r : ∀ a b q h', Ext h h' → Exa C.Z h' a "java/lang/String" → Fld C.Z h' a "java/lang/String" "coder" "B" (.int 0) → Fld C.Z h' a "java/lang/String" "value" "[B" (.ref b) → Arv C.Z h' b q .byte z vs (.int 0) → ((a < C.M ∧ b < C.M) ∨ (h.size ≤ a ∧ h.size ≤ b)) → Wk C h' k' n' (some (text :: Ts, [(C.b.y.cls, idx, a)])) pc' Ls (.ref a :: st)) : WkM F C h k n (some (Ts, Lk)) pc Ls st := by
  subst hp hk hn
  intro p e s vm0 m args below meth c T locs k0 S hF
  obtain ⟨A, ⟨b1, b2, b3, b4⟩, q1, q2, q3, q4, q5, q6⟩ := S
  have hM : s.heap.size ≤ F := by rw [A.2.2.2.2.2.2.2.1]; exact hMN
  obtain ⟨a, T', h', k1, b, q, X', e', E, hS', hk1, hZ', ho', x1, x2, x3, x4, -, -, hI, hL, hpos, st'⟩ := ldcSVd q2 A.1 b2 b1 w wS q3 b3 q1 (fun y hy => Nat.le_trans hM (hF y hy)) A.2.2.2.2.2.2.2.2.2 b4.1 hnot hh hcw ht hz hzl (g := mkF m pc Ls st) rfl (hb A.2.1 hd) hcap hbig hc hl
  obtain ⟨t, o, h1, h2⟩ := r a b q h' E x1 x2 x3 x4 (by rw [← A.2.2.2.2.2.2.2.1]; exact hpos) p e s T'.vm m args below meth c T' locs k1 ⟨A, ⟨ho', hZ', hS', hI, fun u hu => by rw [List.mem_singleton.mp hu]; exact hL⟩, hk1, X', e', ⟨Nat.le_trans q4.1 E.1, fun x c hx => E.2 _ _ (q4.2 _ _ hx)⟩, Nat.le_trans q5 E.1, q6⟩
  exact ⟨t, o, st' t h1, h2⟩
theorem Cn.of_wkM {l : Launch} {Z : State} {N : Nat} {b : Bdy} {as : Array Value} {Q : Option Value → Heap → Lts → Prop} (hp : plainFor b.y = true) (he : ∀ m, entryFrame m as b.maxL = mkF m 0 Ls []) (r : WkM h.size (l, Z, N, h.size, b, Q) h 0 0 I 0 Ls []) : Cn l Z N b as h I Q := by
  intro ws
  refine MetFree.of_bodySF hp hisR ?_
  intro p e s m args below meth c s₁ Bd hml0 hP hK
  obtain ⟨rfl, hZ, hh, hV, hE, hN, hZN⟩ := hP
  have X0 : Stand p l e b.room (s.setVm s.vm) m args below meth c s₁ [] 0 0 := Stand.of_body Bd
  have e0 : s₁.heap = h := by rw [← hh, Bd.state]; rfl
  obtain ⟨t, o, h1, h2⟩ := r p e s s.vm m args below meth c s₁ [] s.heap.size ⟨⟨Bd.exec, Bd.bytes, hml0, Bd.returns, Bd.notSynchronized, (name_of_methodNamed Bd.named Bd.method).1, hZN, by rw [hh], by rw [hh]; exact hE⟩, ⟨findClass_of_methodNamed Bd.named, hZ, (State.WarmedH.refl s).since _, hV⟩, by rw [hh]; exact Nat.le_refl _, X0, e0, hE, hN, Fr.nil _⟩ (Fr.nil _)
  exact ⟨t, o, castTop (he m) h1, h2⟩
theorem own_arv {Z : State} {h : Heap} {a : Addr} {q : ClassId} {ty : FieldType} {z : Int32} {vs : List Value} {dv : Value} (F : Arh Z h a q ty z [] vs dv) : Arv Z h a q ty z vs dv := by
  obtain ⟨c, A, q1, q2, q3, H, G⟩ := F
  exact ⟨c, A, q1, q2, q3, fun i hi => H i hi, fun i hi => G i hi⟩
theorem Wk.clone {idx W cap : Nat} {ad : String} {a : Addr} {q : ClassId} {ty : FieldType} {z : Int32} {vs : List Value} {dv : Value} (V : Arv C.Z h a q ty z vs dv) (E : Exa C.Z h a ad) (w1 : (Jvm.Cond.methodLink C.b.y.cls idx ⟨ad, "clone", "()Ljava/lang/Object;"⟩).before a0 C.Z = true) (w2 : (Jvm.Cond.sameMethod ad "java/lang/Object" "clone" "()Ljava/lang/Object;").before a0 C.Z = true) (w3 : (Jvm.Cond.native ⟨"java/lang/Object", "clone", "()Ljava/lang/Object;"⟩).before a0 C.Z = true) (w4 : (Jvm.Cond.instanceMethod ⟨"java/lang/Object", "clone", "()Ljava/lang/Object;"⟩).before a0 C.Z = true)
    (w5 : (Jvm.Cond.selects ad ⟨ad, "clone", "()Ljava/lang/Object;"⟩ ⟨"java/lang/Object", "clone", "()Ljava/lang/Object;"⟩).before a0 C.Z = true) (w6 : (Jvm.Cond.castable ad "java/lang/Cloneable").before a0 C.Z = true) (hsz : Ls.size = C.b.maxL) (hd : decode C.b.code pc = .ok (.invokevirtual idx, 3)) (hp : pc + 3 = pc') (hf : 1 ≤ C.b.room.frames) (hW : (st.map fun v => v.category).sum ≤ W) (hlo : W + 14 ≤ C.b.room.locals) (hcap : z.toNatClampNeg ≤ cap) (hk : k + 1 = k') (hn : n + cap = n') (hc : k' ≤ C.b.room.cells) (hl : n' ≤ C.b.room.slots)
    (r : ∀ a' h', h.size ≤ a' → C.N ≤ a' → Ext h h' → Arv C.Z h' a' q ty z vs dv → Exa C.Z h' a' ad → Wk C h' k' n' I pc' Ls (.ref a' :: st)) : Wk C h k n I pc Ls (.ref a :: st) := by
  subst hp hk hn
  refine Wk.see fun _ z2 _ => ?_
  refine Wk.lawE (P := fun h' => Arv C.Z h' h.size q ty z vs dv ∧ Exa C.Z h' h.size ad) (fun p e s vm0 m args below meth c T locs k0 S => ?_) (fun h' E q => r h.size h' (Nat.le_refl _) z2 E q.1 q.2)
  obtain ⟨T', h', X', e', E', A, B, st⟩ := cloneH (g := mkF m pc Ls (.ref a :: st)) S.2.2.2.1 S.1.1 S.2.1.2.1 S.2.1.1 w1 w2 w3 w4 w5 w6 S.2.2.2.2.1 V.arh E rfl (hsz.trans S.1.2.2.1.symm) rfl (hb S.1.2.1 hd) hf (W := W) (by show 2 * 0 + _ ≤ _; omega) hlo hcap hc hl
  exact ⟨T', h', X', e', E', ⟨own_arv A, B⟩, st⟩
theorem Wk.castN {idx : Nat} (hd : decode C.b.code pc = .ok (.checkcast idx, 3)) (hp : pc + 3 = pc') (r : Wk C h k n I pc' Ls (.null :: st)) : Wk C h k n I pc Ls (.null :: st) := by
  subst hp
  exact Wk.law (fun p e s vm0 m args below meth c T locs k0 S => ⟨T, S.2.2.2.1, S.2.2.2.2.1, fun t kt => Jvm.Stand.checkcastNull (g := mkF m pc Ls (.null :: st)) S.2.2.2.1 S.1.1 rfl rfl (hb S.1.2.1 hd) t kt⟩) r
end Kit2
theorem w0 {Z : State} {a0 : Array Value} (hw : ∀ d ∈ tables_1, d.before a0 Z = true) : (Jvm.Cond.arrayClass Jvm.ClassFile.FieldType.char).before a0 Z = true := hw _ (List.mem_of_getElem? (i := 0) rfl)
theorem w1 {Z : State} {a0 : Array Value} (hw : ∀ d ∈ tables_1, d.before a0 Z = true) : (Jvm.Cond.methodLink "com/example/samfed/samfed/config/ProfileFromConfigNamePinLaw" (8 : Nat) ({ cls := "com/example/samfed/samfed/config/ProfileFromConfigNamePinLaw", name := "make", desc := "([CI)Ljava/lang/String;" } : Jvm.MethodName)).before a0 Z = true := hw _ (List.mem_of_getElem? (i := 1) rfl)
theorem w2 {Z : State} {a0 : Array Value} (hw : ∀ d ∈ tables_1, d.before a0 Z = true) : (Jvm.Cond.static ({ cls := "com/example/samfed/samfed/config/ProfileFromConfigNamePinLaw", name := "make", desc := "([CI)Ljava/lang/String;" } : Jvm.MethodName)).before a0 Z = true := hw _ (List.mem_of_getElem? (i := 2) rfl)
theorem w3 {Z : State} {a0 : Array Value} (hw : ∀ d ∈ tables_1, d.before a0 Z = true) : (Jvm.Cond.initialized "com/example/samfed/samfed/config/ProfileFromConfigNamePinLaw").before a0 Z = true := hw _ (List.mem_of_getElem? (i := 3) rfl)
theorem w4 {Z : State} {a0 : Array Value} (hw : ∀ d ∈ tables_1, d.before a0 Z = true) : (Jvm.Cond.code ({ cls := "com/example/samfed/samfed/config/ProfileFromConfigNamePinLaw", name := "make", desc := "([CI)Ljava/lang/String;" } : Jvm.MethodName) method_3_code (2 : Nat) (Option.some (Jvm.ClassFile.FieldType.object "java/lang/String"))).before a0 Z = true := hw _ (List.mem_of_getElem? (i := 4) rfl)
theorem w5 {Z : State} {a0 : Array Value} (hw : ∀ d ∈ tables_1, d.before a0 Z = true) : (Jvm.Cond.classLink "com/example/samfed/samfed/config/ProfileFromConfigNamePinLaw" (40 : Nat) "java/lang/String").before a0 Z = true := hw _ (List.mem_of_getElem? (i := 5) rfl)
theorem w6 {Z : State} {a0 : Array Value} (hw : ∀ d ∈ tables_1, d.before a0 Z = true) : (Jvm.Cond.instantiable "java/lang/String" (4 : Nat)).before a0 Z = true := hw _ (List.mem_of_getElem? (i := 6) rfl)
theorem w7 {Z : State} {a0 : Array Value} (hw : ∀ d ∈ tables_1, d.before a0 Z = true) : (Jvm.Cond.initialized "java/lang/String").before a0 Z = true := hw _ (List.mem_of_getElem? (i := 7) rfl)
theorem w8 {Z : State} {a0 : Array Value} (hw : ∀ d ∈ tables_1, d.before a0 Z = true) : (Jvm.Cond.methodLink "com/example/samfed/samfed/config/ProfileFromConfigNamePinLaw" (42 : Nat) ({ cls := "java/lang/String", name := "<init>", desc := "([C)V" } : Jvm.MethodName)).before a0 Z = true := hw _ (List.mem_of_getElem? (i := 8) rfl)
theorem w9 {Z : State} {a0 : Array Value} (hw : ∀ d ∈ tables_1, d.before a0 Z = true) : (Jvm.Cond.instanceMethod ({ cls := "java/lang/String", name := "<init>", desc := "([C)V" } : Jvm.MethodName)).before a0 Z = true := hw _ (List.mem_of_getElem? (i := 9) rfl)
theorem w10 {Z : State} {a0 : Array Value} (hw : ∀ d ∈ tables_1, d.before a0 Z = true) : (Jvm.Cond.code ({ cls := "java/lang/String", name := "<init>", desc := "([C)V" } : Jvm.MethodName) jdk_42_method_3_code (2 : Nat) (Option.none : Option Jvm.ClassFile.FieldType)).before a0 Z = true := hw _ (List.mem_of_getElem? (i := 10) rfl)
theorem w11 {Z : State} {a0 : Array Value} (hw : ∀ d ∈ tables_1, d.before a0 Z = true) : (Jvm.Cond.methodLink "java/lang/String" (27 : Nat) ({ cls := "java/lang/String", name := "<init>", desc := "([CIILjava/lang/Void;)V" } : Jvm.MethodName)).before a0 Z = true := hw _ (List.mem_of_getElem? (i := 11) rfl)
theorem w12 {Z : State} {a0 : Array Value} (hw : ∀ d ∈ tables_1, d.before a0 Z = true) : (Jvm.Cond.instanceMethod ({ cls := "java/lang/String", name := "<init>", desc := "([CIILjava/lang/Void;)V" } : Jvm.MethodName)).before a0 Z = true := hw _ (List.mem_of_getElem? (i := 12) rfl)
theorem w14 {Z : State} {a0 : Array Value} (hw : ∀ d ∈ tables_1, d.before a0 Z = true) : (Jvm.Cond.code ({ cls := "java/lang/String", name := "<init>", desc := "([CIILjava/lang/Void;)V" } : Jvm.MethodName) jdk_42_method_149_code (6 : Nat) (Option.none : Option Jvm.ClassFile.FieldType)).before a0 Z = true := hw _ (List.mem_of_getElem? (i := 14) rfl)
theorem w15 {Z : State} {a0 : Array Value} (hw : ∀ d ∈ tables_1, d.before a0 Z = true) : (Jvm.Cond.methodLink "java/lang/String" (1 : Nat) ({ cls := "java/lang/Object", name := "<init>", desc := "()V" } : Jvm.MethodName)).before a0 Z = true := hw _ (List.mem_of_getElem? (i := 15) rfl)
theorem w16 {Z : State} {a0 : Array Value} (hw : ∀ d ∈ tables_1, d.before a0 Z = true) : (Jvm.Cond.instanceMethod ({ cls := "java/lang/Object", name := "<init>", desc := "()V" } : Jvm.MethodName)).before a0 Z = true := hw _ (List.mem_of_getElem? (i := 16) rfl)
theorem w17 {Z : State} {a0 : Array Value} (hw : ∀ d ∈ tables_1, d.before a0 Z = true) : (Jvm.Cond.code ({ cls := "java/lang/Object", name := "<init>", desc := "()V" } : Jvm.MethodName) object_method_1_code (1 : Nat) (Option.none : Option Jvm.ClassFile.FieldType)).before a0 Z = true := hw _ (List.mem_of_getElem? (i := 17) rfl)
theorem w18 {Z : State} {a0 : Array Value} (hw : ∀ d ∈ tables_1, d.before a0 Z = true) : (Jvm.Cond.stringLink "java/lang/String" (7 : Nat) "").before a0 Z = true := hw _ (List.mem_of_getElem? (i := 18) rfl)
theorem w19 {Z : State} {a0 : Array Value} (hw : ∀ d ∈ tables_1, d.before a0 Z = true) : (Jvm.Cond.arrayClass Jvm.ClassFile.FieldType.byte).before a0 Z = true := hw _ (List.mem_of_getElem? (i := 19) rfl)
theorem w20 {Z : State} {a0 : Array Value} (hw : ∀ d ∈ tables_1, d.before a0 Z = true) : (Jvm.Cond.laysFinal "java/lang/String" "java/lang/String" "value" "[B").before a0 Z = true := hw _ (List.mem_of_getElem? (i := 20) rfl)
theorem w21 {Z : State} {a0 : Array Value} (hw : ∀ d ∈ tables_1, d.before a0 Z = true) : (Jvm.Cond.laysFinal "java/lang/String" "java/lang/String" "coder" "B").before a0 Z = true := hw _ (List.mem_of_getElem? (i := 21) rfl)
theorem w22 {Z : State} {a0 : Array Value} (hw : ∀ d ∈ tables_1, d.before a0 Z = true) : (Jvm.Cond.soleField "java/lang/String" "value").before a0 Z = true := hw _ (List.mem_of_getElem? (i := 22) rfl)
theorem w23 {Z : State} {a0 : Array Value} (hw : ∀ d ∈ tables_1, d.before a0 Z = true) : (Jvm.Cond.soleField "java/lang/String" "coder").before a0 Z = true := hw _ (List.mem_of_getElem? (i := 23) rfl)
theorem w24 {Z : State} {a0 : Array Value} (hw : ∀ d ∈ tables_1, d.before a0 Z = true) : (Jvm.Cond.fieldLink "java/lang/String" (9 : Nat) "java/lang/String" "value" "[B").before a0 Z = true := hw _ (List.mem_of_getElem? (i := 24) rfl)
theorem w25 {Z : State} {a0 : Array Value} (hw : ∀ d ∈ tables_1, d.before a0 Z = true) : (Jvm.Cond.fieldLink "java/lang/String" (15 : Nat) "java/lang/String" "coder" "B").before a0 Z = true := hw _ (List.mem_of_getElem? (i := 25) rfl)
theorem w26 {Z : State} {a0 : Array Value} (hw : ∀ d ∈ tables_1, d.before a0 Z = true) : (Jvm.Cond.methodLink "com/example/samfed/samfed/config/ProfileFromConfigNamePinLaw" (14 : Nat) ({ cls := "com/example/samfed/samfed/config/ProfileFromConfigNamePinLaw", name := "isSpid", desc := "(Ljava/lang/String;)Z" } : Jvm.MethodName)).before a0 Z = true := hw _ (List.mem_of_getElem? (i := 26) rfl)
theorem w27 {Z : State} {a0 : Array Value} (hw : ∀ d ∈ tables_1, d.before a0 Z = true) : (Jvm.Cond.static ({ cls := "com/example/samfed/samfed/config/ProfileFromConfigNamePinLaw", name := "isSpid", desc := "(Ljava/lang/String;)Z" } : Jvm.MethodName)).before a0 Z = true := hw _ (List.mem_of_getElem? (i := 27) rfl)
theorem w28 {Z : State} {a0 : Array Value} (hw : ∀ d ∈ tables_1, d.before a0 Z = true) : (Jvm.Cond.code ({ cls := "com/example/samfed/samfed/config/ProfileFromConfigNamePinLaw", name := "isSpid", desc := "(Ljava/lang/String;)Z" } : Jvm.MethodName) method_4_code (1 : Nat) (Option.some Jvm.ClassFile.FieldType.boolean)).before a0 Z = true := hw _ (List.mem_of_getElem? (i := 28) rfl)
theorem w29 {Z : State} {a0 : Array Value} (hw : ∀ d ∈ tables_1, d.before a0 Z = true) : (Jvm.Cond.methodLink "com/example/samfed/samfed/config/ProfileFromConfigNamePinLaw" (45 : Nat) ({ cls := "java/lang/String", name := "length", desc := "()I" } : Jvm.MethodName)).before a0 Z = true := hw _ (List.mem_of_getElem? (i := 29) rfl)
theorem w30 {Z : State} {a0 : Array Value} (hw : ∀ d ∈ tables_1, d.before a0 Z = true) : (Jvm.Cond.declares ({ cls := "java/lang/String", name := "length", desc := "()I" } : Jvm.MethodName)).before a0 Z = true := hw _ (List.mem_of_getElem? (i := 30) rfl)
theorem w31 {Z : State} {a0 : Array Value} (hw : ∀ d ∈ tables_1, d.before a0 Z = true) : (Jvm.Cond.instanceMethod ({ cls := "java/lang/String", name := "length", desc := "()I" } : Jvm.MethodName)).before a0 Z = true := hw _ (List.mem_of_getElem? (i := 31) rfl)
theorem w32 {Z : State} {a0 : Array Value} (hw : ∀ d ∈ tables_1, d.before a0 Z = true) : (Jvm.Cond.selects "java/lang/String" ({ cls := "java/lang/String", name := "length", desc := "()I" } : Jvm.MethodName) ({ cls := "java/lang/String", name := "length", desc := "()I" } : Jvm.MethodName)).before a0 Z = true := hw _ (List.mem_of_getElem? (i := 32) rfl)
theorem w33 {Z : State} {a0 : Array Value} (hw : ∀ d ∈ tables_1, d.before a0 Z = true) : (Jvm.Cond.code ({ cls := "java/lang/String", name := "length", desc := "()I" } : Jvm.MethodName) jdk_42_method_54_code (1 : Nat) (Option.some Jvm.ClassFile.FieldType.int)).before a0 Z = true := hw _ (List.mem_of_getElem? (i := 33) rfl)
theorem w34 {Z : State} {a0 : Array Value} (hw : ∀ d ∈ tables_1, d.before a0 Z = true) : (Jvm.Cond.methodLink "java/lang/String" (335 : Nat) ({ cls := "java/lang/String", name := "coder", desc := "()B" } : Jvm.MethodName)).before a0 Z = true := hw _ (List.mem_of_getElem? (i := 34) rfl)
theorem w35 {Z : State} {a0 : Array Value} (hw : ∀ d ∈ tables_1, d.before a0 Z = true) : (Jvm.Cond.declares ({ cls := "java/lang/String", name := "coder", desc := "()B" } : Jvm.MethodName)).before a0 Z = true := hw _ (List.mem_of_getElem? (i := 35) rfl)
theorem w36 {Z : State} {a0 : Array Value} (hw : ∀ d ∈ tables_1, d.before a0 Z = true) : (Jvm.Cond.instanceMethod ({ cls := "java/lang/String", name := "coder", desc := "()B" } : Jvm.MethodName)).before a0 Z = true := hw _ (List.mem_of_getElem? (i := 36) rfl)
theorem w37 {Z : State} {a0 : Array Value} (hw : ∀ d ∈ tables_1, d.before a0 Z = true) : (Jvm.Cond.selects "java/lang/String" ({ cls := "java/lang/String", name := "coder", desc := "()B" } : Jvm.MethodName) ({ cls := "java/lang/String", name := "coder", desc := "()B" } : Jvm.MethodName)).before a0 Z = true := hw _ (List.mem_of_getElem? (i := 37) rfl)
theorem w38 {Z : State} {a0 : Array Value} (hw : ∀ d ∈ tables_1, d.before a0 Z = true) : (Jvm.Cond.code ({ cls := "java/lang/String", name := "coder", desc := "()B" } : Jvm.MethodName) jdk_42_method_152_code (1 : Nat) (Option.some Jvm.ClassFile.FieldType.byte)).before a0 Z = true := hw _ (List.mem_of_getElem? (i := 38) rfl)
theorem w39 {Z : State} {a0 : Array Value} (hw : ∀ d ∈ tables_1, d.before a0 Z = true) : (Jvm.Cond.fieldLink "java/lang/String" (38 : Nat) "java/lang/String" "COMPACT_STRINGS" "Z").before a0 Z = true := hw _ (List.mem_of_getElem? (i := 39) rfl)
theorem w40 {Z : State} {a0 : Array Value} (hw : ∀ d ∈ tables_1, d.before a0 Z = true) : (Jvm.Cond.methodLink "com/example/samfed/samfed/config/ProfileFromConfigNamePinLaw" (24 : Nat) ({ cls := "com/example/samfed/samfed/config/ProfileFromConfigNamePinLaw", name := "isSaml2", desc := "(Ljava/lang/String;)Z" } : Jvm.MethodName)).before a0 Z = true := hw _ (List.mem_of_getElem? (i := 40) rfl)
theorem w41 {Z : State} {a0 : Array Value} (hw : ∀ d ∈ tables_1, d.before a0 Z = true) : (Jvm.Cond.static ({ cls := "com/example/samfed/samfed/config/ProfileFromConfigNamePinLaw", name := "isSaml2", desc := "(Ljava/lang/String;)Z" } : Jvm.MethodName)).before a0 Z = true := hw _ (List.mem_of_getElem? (i := 41) rfl)
theorem w42 {Z : State} {a0 : Array Value} (hw : ∀ d ∈ tables_1, d.before a0 Z = true) : (Jvm.Cond.code ({ cls := "com/example/samfed/samfed/config/ProfileFromConfigNamePinLaw", name := "isSaml2", desc := "(Ljava/lang/String;)Z" } : Jvm.MethodName) method_5_code (1 : Nat) (Option.some Jvm.ClassFile.FieldType.boolean)).before a0 Z = true := hw _ (List.mem_of_getElem? (i := 42) rfl)
theorem w43 {Z : State} {a0 : Array Value} (hw : ∀ d ∈ tables_1, d.before a0 Z = true) : (Jvm.Cond.methodLink "com/example/samfed/samfed/config/ProfileFromConfigNamePinLaw" (30 : Nat) ({ cls := "com/example/samfed/samfed/config/Profile", name := "fromConfigName", desc := "(Ljava/lang/String;)Ljava/util/Optional;" } : Jvm.MethodName)).before a0 Z = true := hw _ (List.mem_of_getElem? (i := 43) rfl)
theorem w44 {Z : State} {a0 : Array Value} (hw : ∀ d ∈ tables_1, d.before a0 Z = true) : (Jvm.Cond.static ({ cls := "com/example/samfed/samfed/config/Profile", name := "fromConfigName", desc := "(Ljava/lang/String;)Ljava/util/Optional;" } : Jvm.MethodName)).before a0 Z = true := hw _ (List.mem_of_getElem? (i := 44) rfl)
theorem w45 {Z : State} {a0 : Array Value} (hw : ∀ d ∈ tables_1, d.before a0 Z = true) : (Jvm.Cond.initialized "com/example/samfed/samfed/config/Profile").before a0 Z = true := hw _ (List.mem_of_getElem? (i := 45) rfl)
theorem w46 {Z : State} {a0 : Array Value} (hw : ∀ d ∈ tables_1, d.before a0 Z = true) : (Jvm.Cond.code ({ cls := "com/example/samfed/samfed/config/Profile", name := "fromConfigName", desc := "(Ljava/lang/String;)Ljava/util/Optional;" } : Jvm.MethodName) prog_7_method_5_code (5 : Nat) (Option.some (Jvm.ClassFile.FieldType.object "java/util/Optional"))).before a0 Z = true := hw _ (List.mem_of_getElem? (i := 46) rfl)
theorem w47 {Z : State} {a0 : Array Value} (hw : ∀ d ∈ tables_1, d.before a0 Z = true) : (Jvm.Cond.methodLink "com/example/samfed/samfed/config/Profile" (33 : Nat) ({ cls := "com/example/samfed/samfed/config/Profile", name := "values", desc := "()[Lcom/example/samfed/samfed/config/Profile;" } : Jvm.MethodName)).before a0 Z = true := hw _ (List.mem_of_getElem? (i := 47) rfl)
theorem w48 {Z : State} {a0 : Array Value} (hw : ∀ d ∈ tables_1, d.before a0 Z = true) : (Jvm.Cond.static ({ cls := "com/example/samfed/samfed/config/Profile", name := "values", desc := "()[Lcom/example/samfed/samfed/config/Profile;" } : Jvm.MethodName)).before a0 Z = true := hw _ (List.mem_of_getElem? (i := 48) rfl)
theorem w49 {Z : State} {a0 : Array Value} (hw : ∀ d ∈ tables_1, d.before a0 Z = true) : (Jvm.Cond.code ({ cls := "com/example/samfed/samfed/config/Profile", name := "values", desc := "()[Lcom/example/samfed/samfed/config/Profile;" } : Jvm.MethodName) prog_7_method_1_code (0 : Nat) (Option.some (Jvm.ClassFile.FieldType.array (Jvm.ClassFile.FieldType.object "com/example/samfed/samfed/config/Profile")))).before a0 Z = true := hw _ (List.mem_of_getElem? (i := 49) rfl)
theorem w50 {Z : State} {a0 : Array Value} (hw : ∀ d ∈ tables_1, d.before a0 Z = true) : (Jvm.Cond.fieldLink "com/example/samfed/samfed/config/Profile" (10 : Nat) "com/example/samfed/samfed/config/Profile" "$VALUES" "[Lcom/example/samfed/samfed/config/Profile;").before a0 Z = true := hw _ (List.mem_of_getElem? (i := 50) rfl)
theorem w52 {Z : State} {a0 : Array Value} (hw : ∀ d ∈ tables_1, d.before a0 Z = true) : (Jvm.Cond.methodLink "com/example/samfed/samfed/config/Profile" (14 : Nat) ({ cls := "[Lcom/example/samfed/samfed/config/Profile;", name := "clone", desc := "()Ljava/lang/Object;" } : Jvm.MethodName)).before a0 Z = true := hw _ (List.mem_of_getElem? (i := 52) rfl)
theorem w53 {Z : State} {a0 : Array Value} (hw : ∀ d ∈ tables_1, d.before a0 Z = true) : (Jvm.Cond.sameMethod "[Lcom/example/samfed/samfed/config/Profile;" "java/lang/Object" "clone" "()Ljava/lang/Object;").before a0 Z = true := hw _ (List.mem_of_getElem? (i := 53) rfl)
theorem w55 {Z : State} {a0 : Array Value} (hw : ∀ d ∈ tables_1, d.before a0 Z = true) : (Jvm.Cond.instanceMethod ({ cls := "java/lang/Object", name := "clone", desc := "()Ljava/lang/Object;" } : Jvm.MethodName)).before a0 Z = true := hw _ (List.mem_of_getElem? (i := 55) rfl)
theorem w56 {Z : State} {a0 : Array Value} (hw : ∀ d ∈ tables_1, d.before a0 Z = true) : (Jvm.Cond.selects "[Lcom/example/samfed/samfed/config/Profile;" ({ cls := "[Lcom/example/samfed/samfed/config/Profile;", name := "clone", desc := "()Ljava/lang/Object;" } : Jvm.MethodName) ({ cls := "java/lang/Object", name := "clone", desc := "()Ljava/lang/Object;" } : Jvm.MethodName)).before a0 Z = true := hw _ (List.mem_of_getElem? (i := 56) rfl)
theorem w57 {Z : State} {a0 : Array Value} (hw : ∀ d ∈ tables_1, d.before a0 Z = true) : (Jvm.Cond.native ({ cls := "java/lang/Object", name := "clone", desc := "()Ljava/lang/Object;" } : Jvm.MethodName)).before a0 Z = true := hw _ (List.mem_of_getElem? (i := 57) rfl)
theorem w58 {Z : State} {a0 : Array Value} (hw : ∀ d ∈ tables_1, d.before a0 Z = true) : (Jvm.Cond.castable "[Lcom/example/samfed/samfed/config/Profile;" "java/lang/Cloneable").before a0 Z = true := hw _ (List.mem_of_getElem? (i := 58) rfl)
theorem w59 {Z : State} {a0 : Array Value} (hw : ∀ d ∈ tables_1, d.before a0 Z = true) : (Jvm.Cond.laysStatic "com/example/samfed/samfed/config/Profile" "SPID" "Lcom/example/samfed/samfed/config/Profile;").before a0 Z = true := hw _ (List.mem_of_getElem? (i := 59) rfl)
theorem w60 {Z : State} {a0 : Array Value} (hw : ∀ d ∈ tables_1, d.before a0 Z = true) : (Jvm.Cond.laysStatic "com/example/samfed/samfed/config/Profile" "SAML2" "Lcom/example/samfed/samfed/config/Profile;").before a0 Z = true := hw _ (List.mem_of_getElem? (i := 60) rfl)
theorem w61 {Z : State} {a0 : Array Value} (hw : ∀ d ∈ tables_1, d.before a0 Z = true) : (Jvm.Cond.initializedFor "com/example/samfed/samfed/config/Profile" "$VALUES" "[Lcom/example/samfed/samfed/config/Profile;").before a0 Z = true := hw _ (List.mem_of_getElem? (i := 61) rfl)
theorem w62 {Z : State} {a0 : Array Value} (hw : ∀ d ∈ tables_1, d.before a0 Z = true) : (Jvm.Cond.classLink "com/example/samfed/samfed/config/Profile" (15 : Nat) "[Lcom/example/samfed/samfed/config/Profile;").before a0 Z = true := hw _ (List.mem_of_getElem? (i := 62) rfl)
theorem w64 {Z : State} {a0 : Array Value} (hw : ∀ d ∈ tables_1, d.before a0 Z = true) : (Jvm.Cond.fieldLink "com/example/samfed/samfed/config/Profile" (29 : Nat) "com/example/samfed/samfed/config/Profile" "configName" "Ljava/lang/String;").before a0 Z = true := hw _ (List.mem_of_getElem? (i := 64) rfl)
theorem w66 {Z : State} {a0 : Array Value} (hw : ∀ d ∈ tables_1, d.before a0 Z = true) : (Jvm.Cond.methodLink "com/example/samfed/samfed/config/Profile" (37 : Nat) ({ cls := "java/lang/String", name := "equals", desc := "(Ljava/lang/Object;)Z" } : Jvm.MethodName)).before a0 Z = true := hw _ (List.mem_of_getElem? (i := 66) rfl)
theorem w67 {Z : State} {a0 : Array Value} (hw : ∀ d ∈ tables_1, d.before a0 Z = true) : (Jvm.Cond.declares ({ cls := "java/lang/String", name := "equals", desc := "(Ljava/lang/Object;)Z" } : Jvm.MethodName)).before a0 Z = true := hw _ (List.mem_of_getElem? (i := 67) rfl)
theorem w68 {Z : State} {a0 : Array Value} (hw : ∀ d ∈ tables_1, d.before a0 Z = true) : (Jvm.Cond.instanceMethod ({ cls := "java/lang/String", name := "equals", desc := "(Ljava/lang/Object;)Z" } : Jvm.MethodName)).before a0 Z = true := hw _ (List.mem_of_getElem? (i := 68) rfl)
theorem w69 {Z : State} {a0 : Array Value} (hw : ∀ d ∈ tables_1, d.before a0 Z = true) : (Jvm.Cond.selects "java/lang/String" ({ cls := "java/lang/String", name := "equals", desc := "(Ljava/lang/Object;)Z" } : Jvm.MethodName) ({ cls := "java/lang/String", name := "equals", desc := "(Ljava/lang/Object;)Z" } : Jvm.MethodName)).before a0 Z = true := hw _ (List.mem_of_getElem? (i := 69) rfl)
theorem w70 {Z : State} {a0 : Array Value} (hw : ∀ d ∈ tables_1, d.before a0 Z = true) : (Jvm.Cond.code ({ cls := "java/lang/String", name := "equals", desc := "(Ljava/lang/Object;)Z" } : Jvm.MethodName) jdk_42_method_66_code (3 : Nat) (Option.some Jvm.ClassFile.FieldType.boolean)).before a0 Z = true := hw _ (List.mem_of_getElem? (i := 70) rfl)
theorem w71 {Z : State} {a0 : Array Value} (hw : ∀ d ∈ tables_1, d.before a0 Z = true) : (Jvm.Cond.classLink "java/lang/String" (10 : Nat) "java/lang/String").before a0 Z = true := hw _ (List.mem_of_getElem? (i := 71) rfl)
theorem w72 {Z : State} {a0 : Array Value} (hw : ∀ d ∈ tables_1, d.before a0 Z = true) : (Jvm.Cond.methodLink "java/lang/String" (541 : Nat) ({ cls := "java/lang/StringLatin1", name := "equals", desc := "([B[B)Z" } : Jvm.MethodName)).before a0 Z = true := hw _ (List.mem_of_getElem? (i := 72) rfl)
theorem w73 {Z : State} {a0 : Array Value} (hw : ∀ d ∈ tables_1, d.before a0 Z = true) : (Jvm.Cond.static ({ cls := "java/lang/StringLatin1", name := "equals", desc := "([B[B)Z" } : Jvm.MethodName)).before a0 Z = true := hw _ (List.mem_of_getElem? (i := 73) rfl)
theorem w74 {Z : State} {a0 : Array Value} (hw : ∀ d ∈ tables_1, d.before a0 Z = true) : (Jvm.Cond.initialized "java/lang/StringLatin1").before a0 Z = true := hw _ (List.mem_of_getElem? (i := 74) rfl)
theorem w75 {Z : State} {a0 : Array Value} (hw : ∀ d ∈ tables_1, d.before a0 Z = true) : (Jvm.Cond.code ({ cls := "java/lang/StringLatin1", name := "equals", desc := "([B[B)Z" } : Jvm.MethodName) jdk_43_method_13_code (3 : Nat) (Option.some Jvm.ClassFile.FieldType.boolean)).before a0 Z = true := hw _ (List.mem_of_getElem? (i := 75) rfl)
theorem w76 {Z : State} {a0 : Array Value} (hw : ∀ d ∈ tables_1, d.before a0 Z = true) : (Jvm.Cond.methodLink "com/example/samfed/samfed/config/Profile" (49 : Nat) ({ cls := "java/util/Optional", name := "empty", desc := "()Ljava/util/Optional;" } : Jvm.MethodName)).before a0 Z = true := hw _ (List.mem_of_getElem? (i := 76) rfl)
theorem w77 {Z : State} {a0 : Array Value} (hw : ∀ d ∈ tables_1, d.before a0 Z = true) : (Jvm.Cond.static ({ cls := "java/util/Optional", name := "empty", desc := "()Ljava/util/Optional;" } : Jvm.MethodName)).before a0 Z = true := hw _ (List.mem_of_getElem? (i := 77) rfl)
theorem w78 {Z : State} {a0 : Array Value} (hw : ∀ d ∈ tables_1, d.before a0 Z = true) : (Jvm.Cond.initialized "java/util/Optional").before a0 Z = true := hw _ (List.mem_of_getElem? (i := 78) rfl)
theorem w79 {Z : State} {a0 : Array Value} (hw : ∀ d ∈ tables_1, d.before a0 Z = true) : (Jvm.Cond.code ({ cls := "java/util/Optional", name := "empty", desc := "()Ljava/util/Optional;" } : Jvm.MethodName) jdk_32_method_1_code (1 : Nat) (Option.some (Jvm.ClassFile.FieldType.object "java/util/Optional"))).before a0 Z = true := hw _ (List.mem_of_getElem? (i := 79) rfl)
theorem w80 {Z : State} {a0 : Array Value} (hw : ∀ d ∈ tables_1, d.before a0 Z = true) : (Jvm.Cond.fieldLink "java/util/Optional" (1 : Nat) "java/util/Optional" "EMPTY" "Ljava/util/Optional;").before a0 Z = true := hw _ (List.mem_of_getElem? (i := 80) rfl)
theorem w81 {Z : State} {a0 : Array Value} (hw : ∀ d ∈ tables_1, d.before a0 Z = true) : (Jvm.Cond.methodLink "com/example/samfed/samfed/config/ProfileFromConfigNamePinLaw" (34 : Nat) ({ cls := "java/util/Optional", name := "orElse", desc := "(Ljava/lang/Object;)Ljava/lang/Object;" } : Jvm.MethodName)).before a0 Z = true := hw _ (List.mem_of_getElem? (i := 81) rfl)
theorem w82 {Z : State} {a0 : Array Value} (hw : ∀ d ∈ tables_1, d.before a0 Z = true) : (Jvm.Cond.declares ({ cls := "java/util/Optional", name := "orElse", desc := "(Ljava/lang/Object;)Ljava/lang/Object;" } : Jvm.MethodName)).before a0 Z = true := hw _ (List.mem_of_getElem? (i := 82) rfl)
theorem w83 {Z : State} {a0 : Array Value} (hw : ∀ d ∈ tables_1, d.before a0 Z = true) : (Jvm.Cond.instanceMethod ({ cls := "java/util/Optional", name := "orElse", desc := "(Ljava/lang/Object;)Ljava/lang/Object;" } : Jvm.MethodName)).before a0 Z = true := hw _ (List.mem_of_getElem? (i := 83) rfl)
theorem w84 {Z : State} {a0 : Array Value} (hw : ∀ d ∈ tables_1, d.before a0 Z = true) : (Jvm.Cond.selects "java/util/Optional" ({ cls := "java/util/Optional", name := "orElse", desc := "(Ljava/lang/Object;)Ljava/lang/Object;" } : Jvm.MethodName) ({ cls := "java/util/Optional", name := "orElse", desc := "(Ljava/lang/Object;)Ljava/lang/Object;" } : Jvm.MethodName)).before a0 Z = true := hw _ (List.mem_of_getElem? (i := 84) rfl)
theorem w85 {Z : State} {a0 : Array Value} (hw : ∀ d ∈ tables_1, d.before a0 Z = true) : (Jvm.Cond.code ({ cls := "java/util/Optional", name := "orElse", desc := "(Ljava/lang/Object;)Ljava/lang/Object;" } : Jvm.MethodName) jdk_32_method_15_code (2 : Nat) (Option.some (Jvm.ClassFile.FieldType.object "java/lang/Object"))).before a0 Z = true := hw _ (List.mem_of_getElem? (i := 85) rfl)
theorem w86 {Z : State} {a0 : Array Value} (hw : ∀ d ∈ tables_1, d.before a0 Z = true) : (Jvm.Cond.fieldLink "java/util/Optional" (13 : Nat) "java/util/Optional" "value" "Ljava/lang/Object;").before a0 Z = true := hw _ (List.mem_of_getElem? (i := 86) rfl)
theorem w87 {Z : State} {a0 : Array Value} (hw : ∀ d ∈ tables_1, d.before a0 Z = true) : (Jvm.Cond.laysFinal "java/util/Optional" "java/util/Optional" "value" "Ljava/lang/Object;").before a0 Z = true := hw _ (List.mem_of_getElem? (i := 87) rfl)
theorem w88 {Z : State} {a0 : Array Value} (hw : ∀ d ∈ tables_1, d.before a0 Z = true) : (Jvm.Cond.methodLink "java/lang/String" (177 : Nat) ({ cls := "java/lang/StringUTF16", name := "compress", desc := "([CII)[B" } : Jvm.MethodName)).before a0 Z = true := hw _ (List.mem_of_getElem? (i := 88) rfl)
theorem w89 {Z : State} {a0 : Array Value} (hw : ∀ d ∈ tables_1, d.before a0 Z = true) : (Jvm.Cond.static ({ cls := "java/lang/StringUTF16", name := "compress", desc := "([CII)[B" } : Jvm.MethodName)).before a0 Z = true := hw _ (List.mem_of_getElem? (i := 89) rfl)
theorem w90 {Z : State} {a0 : Array Value} (hw : ∀ d ∈ tables_1, d.before a0 Z = true) : (Jvm.Cond.initialized "java/lang/StringUTF16").before a0 Z = true := hw _ (List.mem_of_getElem? (i := 90) rfl)
theorem w91 {Z : State} {a0 : Array Value} (hw : ∀ d ∈ tables_1, d.before a0 Z = true) : (Jvm.Cond.code ({ cls := "java/lang/StringUTF16", name := "compress", desc := "([CII)[B" } : Jvm.MethodName) jdk_52_method_16_code (6 : Nat) (Option.some (Jvm.ClassFile.FieldType.array Jvm.ClassFile.FieldType.byte))).before a0 Z = true := hw _ (List.mem_of_getElem? (i := 91) rfl)
theorem w92 {Z : State} {a0 : Array Value} (hw : ∀ d ∈ tables_1, d.before a0 Z = true) : (Jvm.Cond.methodLink "java/lang/StringUTF16" (115 : Nat) ({ cls := "java/lang/StringUTF16", name := "compress", desc := "([CI[BII)I" } : Jvm.MethodName)).before a0 Z = true := hw _ (List.mem_of_getElem? (i := 92) rfl)
theorem w93 {Z : State} {a0 : Array Value} (hw : ∀ d ∈ tables_1, d.before a0 Z = true) : (Jvm.Cond.static ({ cls := "java/lang/StringUTF16", name := "compress", desc := "([CI[BII)I" } : Jvm.MethodName)).before a0 Z = true := hw _ (List.mem_of_getElem? (i := 93) rfl)
theorem w94 {Z : State} {a0 : Array Value} (hw : ∀ d ∈ tables_1, d.before a0 Z = true) : (Jvm.Cond.code ({ cls := "java/lang/StringUTF16", name := "compress", desc := "([CI[BII)I" } : Jvm.MethodName) jdk_52_method_21_code (7 : Nat) (Option.some Jvm.ClassFile.FieldType.int)).before a0 Z = true := hw _ (List.mem_of_getElem? (i := 94) rfl)
theorem w95 {Z : State} {a0 : Array Value} (hw : ∀ d ∈ tables_1, d.before a0 Z = true) : (Jvm.Cond.methodLink "java/lang/String" (47 : Nat) ({ cls := "java/lang/StringUTF16", name := "coderFromArrayLen", desc := "([BI)B" } : Jvm.MethodName)).before a0 Z = true := hw _ (List.mem_of_getElem? (i := 95) rfl)
theorem w96 {Z : State} {a0 : Array Value} (hw : ∀ d ∈ tables_1, d.before a0 Z = true) : (Jvm.Cond.static ({ cls := "java/lang/StringUTF16", name := "coderFromArrayLen", desc := "([BI)B" } : Jvm.MethodName)).before a0 Z = true := hw _ (List.mem_of_getElem? (i := 96) rfl)
theorem w97 {Z : State} {a0 : Array Value} (hw : ∀ d ∈ tables_1, d.before a0 Z = true) : (Jvm.Cond.code ({ cls := "java/lang/StringUTF16", name := "coderFromArrayLen", desc := "([BI)B" } : Jvm.MethodName) jdk_52_method_15_code (2 : Nat) (Option.some Jvm.ClassFile.FieldType.byte)).before a0 Z = true := hw _ (List.mem_of_getElem? (i := 97) rfl)
theorem w98 {Z : State} {a0 : Array Value} (hw : ∀ d ∈ tables_1, d.before a0 Z = true) : (Jvm.Cond.constant "com/example/samfed/samfed/config/ProfileFromConfigNamePinLaw" (7 : Nat) (2147483647 : Int32)).before a0 Z = true := hw _ (List.mem_of_getElem? (i := 98) rfl)
theorem w99 {Z : State} {a0 : Array Value} (hw : ∀ d ∈ tables_1, d.before a0 Z = true) : (Jvm.Cond.methodLink "com/example/samfed/samfed/config/ProfileFromConfigNamePinLaw" (49 : Nat) ({ cls := "java/lang/String", name := "charAt", desc := "(I)C" } : Jvm.MethodName)).before a0 Z = true := hw _ (List.mem_of_getElem? (i := 99) rfl)
theorem w100 {Z : State} {a0 : Array Value} (hw : ∀ d ∈ tables_1, d.before a0 Z = true) : (Jvm.Cond.declares ({ cls := "java/lang/String", name := "charAt", desc := "(I)C" } : Jvm.MethodName)).before a0 Z = true := hw _ (List.mem_of_getElem? (i := 100) rfl)
theorem w101 {Z : State} {a0 : Array Value} (hw : ∀ d ∈ tables_1, d.before a0 Z = true) : (Jvm.Cond.instanceMethod ({ cls := "java/lang/String", name := "charAt", desc := "(I)C" } : Jvm.MethodName)).before a0 Z = true := hw _ (List.mem_of_getElem? (i := 101) rfl)
theorem w102 {Z : State} {a0 : Array Value} (hw : ∀ d ∈ tables_1, d.before a0 Z = true) : (Jvm.Cond.selects "java/lang/String" ({ cls := "java/lang/String", name := "charAt", desc := "(I)C" } : Jvm.MethodName) ({ cls := "java/lang/String", name := "charAt", desc := "(I)C" } : Jvm.MethodName)).before a0 Z = true := hw _ (List.mem_of_getElem? (i := 102) rfl)
theorem w103 {Z : State} {a0 : Array Value} (hw : ∀ d ∈ tables_1, d.before a0 Z = true) : (Jvm.Cond.code ({ cls := "java/lang/String", name := "charAt", desc := "(I)C" } : Jvm.MethodName) jdk_42_method_56_code (2 : Nat) (Option.some Jvm.ClassFile.FieldType.char)).before a0 Z = true := hw _ (List.mem_of_getElem? (i := 103) rfl)
theorem w104 {Z : State} {a0 : Array Value} (hw : ∀ d ∈ tables_1, d.before a0 Z = true) : (Jvm.Cond.methodLink "java/lang/String" (492 : Nat) ({ cls := "java/lang/String", name := "isLatin1", desc := "()Z" } : Jvm.MethodName)).before a0 Z = true := hw _ (List.mem_of_getElem? (i := 104) rfl)
theorem w105 {Z : State} {a0 : Array Value} (hw : ∀ d ∈ tables_1, d.before a0 Z = true) : (Jvm.Cond.declares ({ cls := "java/lang/String", name := "isLatin1", desc := "()Z" } : Jvm.MethodName)).before a0 Z = true := hw _ (List.mem_of_getElem? (i := 105) rfl)
theorem w106 {Z : State} {a0 : Array Value} (hw : ∀ d ∈ tables_1, d.before a0 Z = true) : (Jvm.Cond.instanceMethod ({ cls := "java/lang/String", name := "isLatin1", desc := "()Z" } : Jvm.MethodName)).before a0 Z = true := hw _ (List.mem_of_getElem? (i := 106) rfl)
theorem w107 {Z : State} {a0 : Array Value} (hw : ∀ d ∈ tables_1, d.before a0 Z = true) : (Jvm.Cond.selects "java/lang/String" ({ cls := "java/lang/String", name := "isLatin1", desc := "()Z" } : Jvm.MethodName) ({ cls := "java/lang/String", name := "isLatin1", desc := "()Z" } : Jvm.MethodName)).before a0 Z = true := hw _ (List.mem_of_getElem? (i := 107) rfl)
theorem w108 {Z : State} {a0 : Array Value} (hw : ∀ d ∈ tables_1, d.before a0 Z = true) : (Jvm.Cond.code ({ cls := "java/lang/String", name := "isLatin1", desc := "()Z" } : Jvm.MethodName) jdk_42_method_154_code (1 : Nat) (Option.some Jvm.ClassFile.FieldType.boolean)).before a0 Z = true := hw _ (List.mem_of_getElem? (i := 108) rfl)
theorem w109 {Z : State} {a0 : Array Value} (hw : ∀ d ∈ tables_1, d.before a0 Z = true) : (Jvm.Cond.methodLink "java/lang/String" (495 : Nat) ({ cls := "java/lang/StringLatin1", name := "charAt", desc := "([BI)C" } : Jvm.MethodName)).before a0 Z = true := hw _ (List.mem_of_getElem? (i := 109) rfl)
theorem w110 {Z : State} {a0 : Array Value} (hw : ∀ d ∈ tables_1, d.before a0 Z = true) : (Jvm.Cond.static ({ cls := "java/lang/StringLatin1", name := "charAt", desc := "([BI)C" } : Jvm.MethodName)).before a0 Z = true := hw _ (List.mem_of_getElem? (i := 110) rfl)
theorem w111 {Z : State} {a0 : Array Value} (hw : ∀ d ∈ tables_1, d.before a0 Z = true) : (Jvm.Cond.code ({ cls := "java/lang/StringLatin1", name := "charAt", desc := "([BI)C" } : Jvm.MethodName) jdk_43_method_2_code (2 : Nat) (Option.some Jvm.ClassFile.FieldType.char)).before a0 Z = true := hw _ (List.mem_of_getElem? (i := 111) rfl)
theorem w112 {Z : State} {a0 : Array Value} (hw : ∀ d ∈ tables_1, d.before a0 Z = true) : (Jvm.Cond.methodLink "java/lang/StringLatin1" (9 : Nat) ({ cls := "java/lang/String", name := "checkIndex", desc := "(II)V" } : Jvm.MethodName)).before a0 Z = true := hw _ (List.mem_of_getElem? (i := 112) rfl)
theorem w113 {Z : State} {a0 : Array Value} (hw : ∀ d ∈ tables_1, d.before a0 Z = true) : (Jvm.Cond.static ({ cls := "java/lang/String", name := "checkIndex", desc := "(II)V" } : Jvm.MethodName)).before a0 Z = true := hw _ (List.mem_of_getElem? (i := 113) rfl)
theorem w114 {Z : State} {a0 : Array Value} (hw : ∀ d ∈ tables_1, d.before a0 Z = true) : (Jvm.Cond.code ({ cls := "java/lang/String", name := "checkIndex", desc := "(II)V" } : Jvm.MethodName) jdk_42_method_155_code (2 : Nat) (Option.none : Option Jvm.ClassFile.FieldType)).before a0 Z = true := hw _ (List.mem_of_getElem? (i := 114) rfl)
theorem w115 {Z : State} {a0 : Array Value} (hw : ∀ d ∈ tables_1, d.before a0 Z = true) : (Jvm.Cond.fieldLink "java/lang/String" (1053 : Nat) "jdk/internal/util/Preconditions" "SIOOBE_FORMATTER" "Ljava/util/function/BiFunction;").before a0 Z = true := hw _ (List.mem_of_getElem? (i := 115) rfl)
theorem w116 {Z : State} {a0 : Array Value} (hw : ∀ d ∈ tables_1, d.before a0 Z = true) : (Jvm.Cond.initialized "jdk/internal/util/Preconditions").before a0 Z = true := hw _ (List.mem_of_getElem? (i := 116) rfl)
theorem w117 {Z : State} {a0 : Array Value} (hw : ∀ d ∈ tables_1, d.before a0 Z = true) : (Jvm.Cond.methodLink "java/lang/String" (1059 : Nat) ({ cls := "jdk/internal/util/Preconditions", name := "checkIndex", desc := "(IILjava/util/function/BiFunction;)I" } : Jvm.MethodName)).before a0 Z = true := hw _ (List.mem_of_getElem? (i := 117) rfl)
theorem w118 {Z : State} {a0 : Array Value} (hw : ∀ d ∈ tables_1, d.before a0 Z = true) : (Jvm.Cond.static ({ cls := "jdk/internal/util/Preconditions", name := "checkIndex", desc := "(IILjava/util/function/BiFunction;)I" } : Jvm.MethodName)).before a0 Z = true := hw _ (List.mem_of_getElem? (i := 118) rfl)
theorem w119 {Z : State} {a0 : Array Value} (hw : ∀ d ∈ tables_1, d.before a0 Z = true) : (Jvm.Cond.code ({ cls := "jdk/internal/util/Preconditions", name := "checkIndex", desc := "(IILjava/util/function/BiFunction;)I" } : Jvm.MethodName) jdk_41_method_11_code (3 : Nat) (Option.some Jvm.ClassFile.FieldType.int)).before a0 Z = true := hw _ (List.mem_of_getElem? (i := 119) rfl)
theorem w120 {Z : State} {a0 : Array Value} (hw : ∀ d ∈ tables_1, d.before a0 Z = true) : (Jvm.Cond.fieldLink "com/example/samfed/samfed/config/ProfileFromConfigNamePinLaw" (18 : Nat) "com/example/samfed/samfed/config/Profile" "SPID" "Lcom/example/samfed/samfed/config/Profile;").before a0 Z = true := hw _ (List.mem_of_getElem? (i := 120) rfl)
theorem w121 {Z : State} {a0 : Array Value} (hw : ∀ d ∈ tables_1, d.before a0 Z = true) : (Jvm.Cond.methodLink "com/example/samfed/samfed/config/Profile" (43 : Nat) ({ cls := "java/util/Optional", name := "of", desc := "(Ljava/lang/Object;)Ljava/util/Optional;" } : Jvm.MethodName)).before a0 Z = true := hw _ (List.mem_of_getElem? (i := 121) rfl)
theorem w122 {Z : State} {a0 : Array Value} (hw : ∀ d ∈ tables_1, d.before a0 Z = true) : (Jvm.Cond.static ({ cls := "java/util/Optional", name := "of", desc := "(Ljava/lang/Object;)Ljava/util/Optional;" } : Jvm.MethodName)).before a0 Z = true := hw _ (List.mem_of_getElem? (i := 122) rfl)
theorem w123 {Z : State} {a0 : Array Value} (hw : ∀ d ∈ tables_1, d.before a0 Z = true) : (Jvm.Cond.code ({ cls := "java/util/Optional", name := "of", desc := "(Ljava/lang/Object;)Ljava/util/Optional;" } : Jvm.MethodName) jdk_32_method_3_code (1 : Nat) (Option.some (Jvm.ClassFile.FieldType.object "java/util/Optional"))).before a0 Z = true := hw _ (List.mem_of_getElem? (i := 123) rfl)
theorem w124 {Z : State} {a0 : Array Value} (hw : ∀ d ∈ tables_1, d.before a0 Z = true) : (Jvm.Cond.classLink "java/util/Optional" (2 : Nat) "java/util/Optional").before a0 Z = true := hw _ (List.mem_of_getElem? (i := 124) rfl)
theorem w125 {Z : State} {a0 : Array Value} (hw : ∀ d ∈ tables_1, d.before a0 Z = true) : (Jvm.Cond.instantiable "java/util/Optional" (1 : Nat)).before a0 Z = true := hw _ (List.mem_of_getElem? (i := 125) rfl)
theorem w126 {Z : State} {a0 : Array Value} (hw : ∀ d ∈ tables_1, d.before a0 Z = true) : (Jvm.Cond.methodLink "java/util/Optional" (17 : Nat) ({ cls := "java/util/Objects", name := "requireNonNull", desc := "(Ljava/lang/Object;)Ljava/lang/Object;" } : Jvm.MethodName)).before a0 Z = true := hw _ (List.mem_of_getElem? (i := 126) rfl)
theorem w127 {Z : State} {a0 : Array Value} (hw : ∀ d ∈ tables_1, d.before a0 Z = true) : (Jvm.Cond.static ({ cls := "java/util/Objects", name := "requireNonNull", desc := "(Ljava/lang/Object;)Ljava/lang/Object;" } : Jvm.MethodName)).before a0 Z = true := hw _ (List.mem_of_getElem? (i := 127) rfl)
theorem w128 {Z : State} {a0 : Array Value} (hw : ∀ d ∈ tables_1, d.before a0 Z = true) : (Jvm.Cond.initialized "java/util/Objects").before a0 Z = true := hw _ (List.mem_of_getElem? (i := 128) rfl)
theorem w129 {Z : State} {a0 : Array Value} (hw : ∀ d ∈ tables_1, d.before a0 Z = true) : (Jvm.Cond.code ({ cls := "java/util/Objects", name := "requireNonNull", desc := "(Ljava/lang/Object;)Ljava/lang/Object;" } : Jvm.MethodName) jdk_31_method_10_code (1 : Nat) (Option.some (Jvm.ClassFile.FieldType.object "java/lang/Object"))).before a0 Z = true := hw _ (List.mem_of_getElem? (i := 129) rfl)
theorem w130 {Z : State} {a0 : Array Value} (hw : ∀ d ∈ tables_1, d.before a0 Z = true) : (Jvm.Cond.methodLink "java/util/Optional" (23 : Nat) ({ cls := "java/util/Optional", name := "<init>", desc := "(Ljava/lang/Object;)V" } : Jvm.MethodName)).before a0 Z = true := hw _ (List.mem_of_getElem? (i := 130) rfl)
theorem w131 {Z : State} {a0 : Array Value} (hw : ∀ d ∈ tables_1, d.before a0 Z = true) : (Jvm.Cond.instanceMethod ({ cls := "java/util/Optional", name := "<init>", desc := "(Ljava/lang/Object;)V" } : Jvm.MethodName)).before a0 Z = true := hw _ (List.mem_of_getElem? (i := 131) rfl)
theorem w133 {Z : State} {a0 : Array Value} (hw : ∀ d ∈ tables_1, d.before a0 Z = true) : (Jvm.Cond.code ({ cls := "java/util/Optional", name := "<init>", desc := "(Ljava/lang/Object;)V" } : Jvm.MethodName) jdk_32_method_2_code (2 : Nat) (Option.none : Option Jvm.ClassFile.FieldType)).before a0 Z = true := hw _ (List.mem_of_getElem? (i := 133) rfl)
theorem w134 {Z : State} {a0 : Array Value} (hw : ∀ d ∈ tables_1, d.before a0 Z = true) : (Jvm.Cond.methodLink "java/util/Optional" (7 : Nat) ({ cls := "java/lang/Object", name := "<init>", desc := "()V" } : Jvm.MethodName)).before a0 Z = true := hw _ (List.mem_of_getElem? (i := 134) rfl)
theorem w135 {Z : State} {a0 : Array Value} (hw : ∀ d ∈ tables_1, d.before a0 Z = true) : (Jvm.Cond.classLink "com/example/samfed/samfed/config/ProfileFromConfigNamePinLaw" (19 : Nat) "com/example/samfed/samfed/config/Profile").before a0 Z = true := hw _ (List.mem_of_getElem? (i := 135) rfl)
theorem w137 {Z : State} {a0 : Array Value} (hw : ∀ d ∈ tables_1, d.before a0 Z = true) : (Jvm.Cond.fieldLink "com/example/samfed/samfed/config/ProfileFromConfigNamePinLaw" (27 : Nat) "com/example/samfed/samfed/config/Profile" "SAML2" "Lcom/example/samfed/samfed/config/Profile;").before a0 Z = true := hw _ (List.mem_of_getElem? (i := 137) rfl)
theorem pd0 : parseMethodDescriptor "()B" = some ⟨[], some .byte⟩ := by decide +kernel
theorem pd1 : parseMethodDescriptor "(IILjava/util/function/BiFunction;)I" = some ⟨[.int, .int, (.object "java/util/function/BiFunction")], some .int⟩ := by decide +kernel
theorem pd2 : parseMethodDescriptor "(II)V" = some ⟨[.int, .int], none⟩ := by decide +kernel
theorem pd3 : parseMethodDescriptor "()Z" = some ⟨[], some .boolean⟩ := by decide +kernel
theorem pd4 : parseMethodDescriptor "([BI)C" = some ⟨[(.array .byte), .int], some .char⟩ := by decide +kernel
theorem pd5 : parseMethodDescriptor "([B[B)Z" = some ⟨[(.array .byte), (.array .byte)], some .boolean⟩ := by decide +kernel
theorem pd6 : parseMethodDescriptor "([CI[BII)I" = some ⟨[(.array .char), .int, (.array .byte), .int, .int], some .int⟩ := by decide +kernel
theorem pd7 : parseMethodDescriptor "([CII)[B" = some ⟨[(.array .char), .int, .int], some (.array .byte)⟩ := by decide +kernel
theorem pd8 : parseMethodDescriptor "([BI)B" = some ⟨[(.array .byte), .int], some .byte⟩ := by decide +kernel
theorem pd9 : parseMethodDescriptor "([CIILjava/lang/Void;)V" = some ⟨[(.array .char), .int, .int, (.object "java/lang/Void")], none⟩ := by decide +kernel
theorem pd10 : parseMethodDescriptor "(Ljava/lang/Object;)Ljava/lang/Object;" = some ⟨[(.object "java/lang/Object")], some (.object "java/lang/Object")⟩ := by decide +kernel
theorem pd11 : parseMethodDescriptor "(Ljava/lang/Object;)V" = some ⟨[(.object "java/lang/Object")], none⟩ := by decide +kernel
theorem pd12 : parseMethodDescriptor "([C)V" = some ⟨[(.array .char)], none⟩ := by decide +kernel
theorem pd13 : parseMethodDescriptor "()I" = some ⟨[], some .int⟩ := by decide +kernel
theorem pd14 : parseMethodDescriptor "(I)C" = some ⟨[.int], some .char⟩ := by decide +kernel
theorem pd15 : parseMethodDescriptor "()[Lcom/example/samfed/samfed/config/Profile;" = some ⟨[], some (.array (.object "com/example/samfed/samfed/config/Profile"))⟩ := by decide +kernel
theorem pd16 : parseMethodDescriptor "(Ljava/lang/Object;)Z" = some ⟨[(.object "java/lang/Object")], some .boolean⟩ := by decide +kernel
theorem pd17 : parseMethodDescriptor "()Ljava/util/Optional;" = some ⟨[], some (.object "java/util/Optional")⟩ := by decide +kernel
theorem pd18 : parseMethodDescriptor "(Ljava/lang/Object;)Ljava/util/Optional;" = some ⟨[(.object "java/lang/Object")], some (.object "java/util/Optional")⟩ := by decide +kernel
theorem pd19 : parseMethodDescriptor "([CI)Ljava/lang/String;" = some ⟨[(.array .char), .int], some (.object "java/lang/String")⟩ := by decide +kernel
theorem pd20 : parseMethodDescriptor "(Ljava/lang/String;)Z" = some ⟨[(.object "java/lang/String")], some .boolean⟩ := by decide +kernel
theorem pd21 : parseMethodDescriptor "(Ljava/lang/String;)Ljava/util/Optional;" = some ⟨[(.object "java/lang/String")], some (.object "java/util/Optional")⟩ := by decide +kernel
theorem d1_0 : decode method_3_code 0 = .ok (.iload_n 1, 1) := by decide +kernel
theorem d1_1 : decode method_3_code 1 = .ok (.ifCond .ne 14, 3) := by decide +kernel
theorem d1_4 : decode method_3_code 4 = .ok (.new 40, 3) := by decide +kernel
theorem d1_7 : decode method_3_code 7 = .ok (.dup, 1) := by decide +kernel
theorem d1_8 : decode method_3_code 8 = .ok (.iconst 0, 1) := by decide +kernel
theorem d1_9 : decode method_3_code 9 = .ok (.newarray .char, 2) := by decide +kernel
theorem d1_11 : decode method_3_code 11 = .ok (.invokespecial 42, 3) := by decide +kernel
theorem d1_14 : decode method_3_code 14 = .ok (.areturn, 1) := by decide +kernel
theorem d1_15 : decode method_3_code 15 = .ok (.iload_n 1, 1) := by decide +kernel
theorem d1_16 : decode method_3_code 16 = .ok (.iconst 1, 1) := by decide +kernel
theorem d1_17 : decode method_3_code 17 = .ok (.if_icmp .ne 20, 3) := by decide +kernel
theorem d1_20 : decode method_3_code 20 = .ok (.new 40, 3) := by decide +kernel
theorem d1_23 : decode method_3_code 23 = .ok (.dup, 1) := by decide +kernel
theorem d1_24 : decode method_3_code 24 = .ok (.iconst 1, 1) := by decide +kernel
theorem d1_25 : decode method_3_code 25 = .ok (.newarray .char, 2) := by decide +kernel
theorem d1_27 : decode method_3_code 27 = .ok (.dup, 1) := by decide +kernel
theorem d1_28 : decode method_3_code 28 = .ok (.iconst 0, 1) := by decide +kernel
theorem d1_29 : decode method_3_code 29 = .ok (.aload_n 0, 1) := by decide +kernel
theorem d1_30 : decode method_3_code 30 = .ok (.iconst 0, 1) := by decide +kernel
theorem d1_31 : decode method_3_code 31 = .ok (.caload, 1) := by decide +kernel
theorem d1_32 : decode method_3_code 32 = .ok (.castore, 1) := by decide +kernel
theorem d1_33 : decode method_3_code 33 = .ok (.invokespecial 42, 3) := by decide +kernel
theorem d1_36 : decode method_3_code 36 = .ok (.areturn, 1) := by decide +kernel
theorem d1_37 : decode method_3_code 37 = .ok (.iload_n 1, 1) := by decide +kernel
theorem d1_38 : decode method_3_code 38 = .ok (.iconst 2, 1) := by decide +kernel
theorem d1_39 : decode method_3_code 39 = .ok (.if_icmp .ne 26, 3) := by decide +kernel
theorem d1_42 : decode method_3_code 42 = .ok (.new 40, 3) := by decide +kernel
theorem d1_45 : decode method_3_code 45 = .ok (.dup, 1) := by decide +kernel
theorem d1_46 : decode method_3_code 46 = .ok (.iconst 2, 1) := by decide +kernel
theorem d1_47 : decode method_3_code 47 = .ok (.newarray .char, 2) := by decide +kernel
theorem d1_49 : decode method_3_code 49 = .ok (.dup, 1) := by decide +kernel
theorem d1_50 : decode method_3_code 50 = .ok (.iconst 0, 1) := by decide +kernel
theorem d1_51 : decode method_3_code 51 = .ok (.aload_n 0, 1) := by decide +kernel
theorem d1_52 : decode method_3_code 52 = .ok (.iconst 0, 1) := by decide +kernel
theorem d1_53 : decode method_3_code 53 = .ok (.caload, 1) := by decide +kernel
theorem d1_54 : decode method_3_code 54 = .ok (.castore, 1) := by decide +kernel
theorem d1_55 : decode method_3_code 55 = .ok (.dup, 1) := by decide +kernel
theorem d1_56 : decode method_3_code 56 = .ok (.iconst 1, 1) := by decide +kernel
theorem d1_57 : decode method_3_code 57 = .ok (.aload_n 0, 1) := by decide +kernel
theorem d1_58 : decode method_3_code 58 = .ok (.iconst 1, 1) := by decide +kernel
theorem d1_59 : decode method_3_code 59 = .ok (.caload, 1) := by decide +kernel
theorem d1_60 : decode method_3_code 60 = .ok (.castore, 1) := by decide +kernel
theorem d1_61 : decode method_3_code 61 = .ok (.invokespecial 42, 3) := by decide +kernel
theorem d1_64 : decode method_3_code 64 = .ok (.areturn, 1) := by decide +kernel
theorem d1_65 : decode method_3_code 65 = .ok (.iload_n 1, 1) := by decide +kernel
theorem d1_66 : decode method_3_code 66 = .ok (.iconst 3, 1) := by decide +kernel
theorem d1_67 : decode method_3_code 67 = .ok (.if_icmp .ne 32, 3) := by decide +kernel
theorem d1_70 : decode method_3_code 70 = .ok (.new 40, 3) := by decide +kernel
theorem d1_73 : decode method_3_code 73 = .ok (.dup, 1) := by decide +kernel
theorem d1_74 : decode method_3_code 74 = .ok (.iconst 3, 1) := by decide +kernel
theorem d1_75 : decode method_3_code 75 = .ok (.newarray .char, 2) := by decide +kernel
theorem d1_77 : decode method_3_code 77 = .ok (.dup, 1) := by decide +kernel
theorem d1_78 : decode method_3_code 78 = .ok (.iconst 0, 1) := by decide +kernel
theorem d1_79 : decode method_3_code 79 = .ok (.aload_n 0, 1) := by decide +kernel
theorem d1_80 : decode method_3_code 80 = .ok (.iconst 0, 1) := by decide +kernel
theorem d1_81 : decode method_3_code 81 = .ok (.caload, 1) := by decide +kernel
theorem d1_82 : decode method_3_code 82 = .ok (.castore, 1) := by decide +kernel
theorem d1_83 : decode method_3_code 83 = .ok (.dup, 1) := by decide +kernel
theorem d1_84 : decode method_3_code 84 = .ok (.iconst 1, 1) := by decide +kernel
theorem d1_85 : decode method_3_code 85 = .ok (.aload_n 0, 1) := by decide +kernel
theorem d1_86 : decode method_3_code 86 = .ok (.iconst 1, 1) := by decide +kernel
theorem d1_87 : decode method_3_code 87 = .ok (.caload, 1) := by decide +kernel
theorem d1_88 : decode method_3_code 88 = .ok (.castore, 1) := by decide +kernel
theorem d1_89 : decode method_3_code 89 = .ok (.dup, 1) := by decide +kernel
theorem d1_90 : decode method_3_code 90 = .ok (.iconst 2, 1) := by decide +kernel
theorem d1_91 : decode method_3_code 91 = .ok (.aload_n 0, 1) := by decide +kernel
theorem d1_92 : decode method_3_code 92 = .ok (.iconst 2, 1) := by decide +kernel
theorem d1_93 : decode method_3_code 93 = .ok (.caload, 1) := by decide +kernel
theorem d1_94 : decode method_3_code 94 = .ok (.castore, 1) := by decide +kernel
theorem d1_95 : decode method_3_code 95 = .ok (.invokespecial 42, 3) := by decide +kernel
theorem d1_98 : decode method_3_code 98 = .ok (.areturn, 1) := by decide +kernel
theorem d1_99 : decode method_3_code 99 = .ok (.iload_n 1, 1) := by decide +kernel
theorem d1_100 : decode method_3_code 100 = .ok (.iconst 4, 1) := by decide +kernel
theorem d1_101 : decode method_3_code 101 = .ok (.if_icmp .ne 38, 3) := by decide +kernel
theorem d1_104 : decode method_3_code 104 = .ok (.new 40, 3) := by decide +kernel
theorem d1_107 : decode method_3_code 107 = .ok (.dup, 1) := by decide +kernel
theorem d1_108 : decode method_3_code 108 = .ok (.iconst 4, 1) := by decide +kernel
theorem d1_109 : decode method_3_code 109 = .ok (.newarray .char, 2) := by decide +kernel
theorem d1_111 : decode method_3_code 111 = .ok (.dup, 1) := by decide +kernel
theorem d1_112 : decode method_3_code 112 = .ok (.iconst 0, 1) := by decide +kernel
theorem d1_113 : decode method_3_code 113 = .ok (.aload_n 0, 1) := by decide +kernel
theorem d1_114 : decode method_3_code 114 = .ok (.iconst 0, 1) := by decide +kernel
theorem d1_115 : decode method_3_code 115 = .ok (.caload, 1) := by decide +kernel
theorem d1_116 : decode method_3_code 116 = .ok (.castore, 1) := by decide +kernel
theorem d1_117 : decode method_3_code 117 = .ok (.dup, 1) := by decide +kernel
theorem d1_118 : decode method_3_code 118 = .ok (.iconst 1, 1) := by decide +kernel
theorem d1_119 : decode method_3_code 119 = .ok (.aload_n 0, 1) := by decide +kernel
theorem d1_120 : decode method_3_code 120 = .ok (.iconst 1, 1) := by decide +kernel
theorem d1_121 : decode method_3_code 121 = .ok (.caload, 1) := by decide +kernel
theorem d1_122 : decode method_3_code 122 = .ok (.castore, 1) := by decide +kernel
theorem d1_123 : decode method_3_code 123 = .ok (.dup, 1) := by decide +kernel
theorem d1_124 : decode method_3_code 124 = .ok (.iconst 2, 1) := by decide +kernel
theorem d1_125 : decode method_3_code 125 = .ok (.aload_n 0, 1) := by decide +kernel
theorem d1_126 : decode method_3_code 126 = .ok (.iconst 2, 1) := by decide +kernel
theorem d1_127 : decode method_3_code 127 = .ok (.caload, 1) := by decide +kernel
theorem d1_128 : decode method_3_code 128 = .ok (.castore, 1) := by decide +kernel
theorem d1_129 : decode method_3_code 129 = .ok (.dup, 1) := by decide +kernel
theorem d1_130 : decode method_3_code 130 = .ok (.iconst 3, 1) := by decide +kernel
theorem d1_131 : decode method_3_code 131 = .ok (.aload_n 0, 1) := by decide +kernel
theorem d1_132 : decode method_3_code 132 = .ok (.iconst 3, 1) := by decide +kernel
theorem d1_133 : decode method_3_code 133 = .ok (.caload, 1) := by decide +kernel
theorem d1_134 : decode method_3_code 134 = .ok (.castore, 1) := by decide +kernel
theorem d1_135 : decode method_3_code 135 = .ok (.invokespecial 42, 3) := by decide +kernel
theorem d1_138 : decode method_3_code 138 = .ok (.areturn, 1) := by decide +kernel
theorem d1_139 : decode method_3_code 139 = .ok (.iload_n 1, 1) := by decide +kernel
theorem d1_140 : decode method_3_code 140 = .ok (.iconst 5, 1) := by decide +kernel
theorem d1_141 : decode method_3_code 141 = .ok (.if_icmp .ne 44, 3) := by decide +kernel
theorem d1_144 : decode method_3_code 144 = .ok (.new 40, 3) := by decide +kernel
theorem d1_147 : decode method_3_code 147 = .ok (.dup, 1) := by decide +kernel
theorem d1_148 : decode method_3_code 148 = .ok (.iconst 5, 1) := by decide +kernel
theorem d1_149 : decode method_3_code 149 = .ok (.newarray .char, 2) := by decide +kernel
theorem d1_151 : decode method_3_code 151 = .ok (.dup, 1) := by decide +kernel
theorem d1_152 : decode method_3_code 152 = .ok (.iconst 0, 1) := by decide +kernel
theorem d1_153 : decode method_3_code 153 = .ok (.aload_n 0, 1) := by decide +kernel
theorem d1_154 : decode method_3_code 154 = .ok (.iconst 0, 1) := by decide +kernel
theorem d1_155 : decode method_3_code 155 = .ok (.caload, 1) := by decide +kernel
theorem d1_156 : decode method_3_code 156 = .ok (.castore, 1) := by decide +kernel
theorem d1_157 : decode method_3_code 157 = .ok (.dup, 1) := by decide +kernel
theorem d1_158 : decode method_3_code 158 = .ok (.iconst 1, 1) := by decide +kernel
theorem d1_159 : decode method_3_code 159 = .ok (.aload_n 0, 1) := by decide +kernel
theorem d1_160 : decode method_3_code 160 = .ok (.iconst 1, 1) := by decide +kernel
theorem d1_161 : decode method_3_code 161 = .ok (.caload, 1) := by decide +kernel
theorem d1_162 : decode method_3_code 162 = .ok (.castore, 1) := by decide +kernel
theorem d1_163 : decode method_3_code 163 = .ok (.dup, 1) := by decide +kernel
theorem d1_164 : decode method_3_code 164 = .ok (.iconst 2, 1) := by decide +kernel
theorem d1_165 : decode method_3_code 165 = .ok (.aload_n 0, 1) := by decide +kernel
theorem d1_166 : decode method_3_code 166 = .ok (.iconst 2, 1) := by decide +kernel
theorem d1_167 : decode method_3_code 167 = .ok (.caload, 1) := by decide +kernel
theorem d1_168 : decode method_3_code 168 = .ok (.castore, 1) := by decide +kernel
theorem d1_169 : decode method_3_code 169 = .ok (.dup, 1) := by decide +kernel
theorem d1_170 : decode method_3_code 170 = .ok (.iconst 3, 1) := by decide +kernel
theorem d1_171 : decode method_3_code 171 = .ok (.aload_n 0, 1) := by decide +kernel
theorem d1_172 : decode method_3_code 172 = .ok (.iconst 3, 1) := by decide +kernel
theorem d1_173 : decode method_3_code 173 = .ok (.caload, 1) := by decide +kernel
theorem d1_174 : decode method_3_code 174 = .ok (.castore, 1) := by decide +kernel
theorem d1_175 : decode method_3_code 175 = .ok (.dup, 1) := by decide +kernel
theorem d1_176 : decode method_3_code 176 = .ok (.iconst 4, 1) := by decide +kernel
theorem d1_177 : decode method_3_code 177 = .ok (.aload_n 0, 1) := by decide +kernel
theorem d1_178 : decode method_3_code 178 = .ok (.iconst 4, 1) := by decide +kernel
theorem d1_179 : decode method_3_code 179 = .ok (.caload, 1) := by decide +kernel
theorem d1_180 : decode method_3_code 180 = .ok (.castore, 1) := by decide +kernel
theorem d1_181 : decode method_3_code 181 = .ok (.invokespecial 42, 3) := by decide +kernel
theorem d1_184 : decode method_3_code 184 = .ok (.areturn, 1) := by decide +kernel
theorem d1_185 : decode method_3_code 185 = .ok (.new 40, 3) := by decide +kernel
theorem d1_188 : decode method_3_code 188 = .ok (.dup, 1) := by decide +kernel
theorem d1_189 : decode method_3_code 189 = .ok (.bipush 6, 2) := by decide +kernel
theorem d1_191 : decode method_3_code 191 = .ok (.newarray .char, 2) := by decide +kernel
theorem d1_193 : decode method_3_code 193 = .ok (.dup, 1) := by decide +kernel
theorem d1_194 : decode method_3_code 194 = .ok (.iconst 0, 1) := by decide +kernel
theorem d1_195 : decode method_3_code 195 = .ok (.aload_n 0, 1) := by decide +kernel
theorem d1_196 : decode method_3_code 196 = .ok (.iconst 0, 1) := by decide +kernel
theorem d1_197 : decode method_3_code 197 = .ok (.caload, 1) := by decide +kernel
theorem d1_198 : decode method_3_code 198 = .ok (.castore, 1) := by decide +kernel
theorem d1_199 : decode method_3_code 199 = .ok (.dup, 1) := by decide +kernel
theorem d1_200 : decode method_3_code 200 = .ok (.iconst 1, 1) := by decide +kernel
theorem d1_201 : decode method_3_code 201 = .ok (.aload_n 0, 1) := by decide +kernel
theorem d1_202 : decode method_3_code 202 = .ok (.iconst 1, 1) := by decide +kernel
theorem d1_203 : decode method_3_code 203 = .ok (.caload, 1) := by decide +kernel
theorem d1_204 : decode method_3_code 204 = .ok (.castore, 1) := by decide +kernel
theorem d1_205 : decode method_3_code 205 = .ok (.dup, 1) := by decide +kernel
theorem d1_206 : decode method_3_code 206 = .ok (.iconst 2, 1) := by decide +kernel
theorem d1_207 : decode method_3_code 207 = .ok (.aload_n 0, 1) := by decide +kernel
theorem d1_208 : decode method_3_code 208 = .ok (.iconst 2, 1) := by decide +kernel
theorem d1_209 : decode method_3_code 209 = .ok (.caload, 1) := by decide +kernel
theorem d1_210 : decode method_3_code 210 = .ok (.castore, 1) := by decide +kernel
theorem d1_211 : decode method_3_code 211 = .ok (.dup, 1) := by decide +kernel
theorem d1_212 : decode method_3_code 212 = .ok (.iconst 3, 1) := by decide +kernel
theorem d1_213 : decode method_3_code 213 = .ok (.aload_n 0, 1) := by decide +kernel
theorem d1_214 : decode method_3_code 214 = .ok (.iconst 3, 1) := by decide +kernel
theorem d1_215 : decode method_3_code 215 = .ok (.caload, 1) := by decide +kernel
theorem d1_216 : decode method_3_code 216 = .ok (.castore, 1) := by decide +kernel
theorem d1_217 : decode method_3_code 217 = .ok (.dup, 1) := by decide +kernel
theorem d1_218 : decode method_3_code 218 = .ok (.iconst 4, 1) := by decide +kernel
theorem d1_219 : decode method_3_code 219 = .ok (.aload_n 0, 1) := by decide +kernel
theorem d1_220 : decode method_3_code 220 = .ok (.iconst 4, 1) := by decide +kernel
theorem d1_221 : decode method_3_code 221 = .ok (.caload, 1) := by decide +kernel
theorem d1_222 : decode method_3_code 222 = .ok (.castore, 1) := by decide +kernel
theorem d1_223 : decode method_3_code 223 = .ok (.dup, 1) := by decide +kernel
theorem d1_224 : decode method_3_code 224 = .ok (.iconst 5, 1) := by decide +kernel
theorem d1_225 : decode method_3_code 225 = .ok (.aload_n 0, 1) := by decide +kernel
theorem d1_226 : decode method_3_code 226 = .ok (.iconst 5, 1) := by decide +kernel
theorem d1_227 : decode method_3_code 227 = .ok (.caload, 1) := by decide +kernel
theorem d1_228 : decode method_3_code 228 = .ok (.castore, 1) := by decide +kernel
theorem d1_229 : decode method_3_code 229 = .ok (.invokespecial 42, 3) := by decide +kernel
theorem d1_232 : decode method_3_code 232 = .ok (.areturn, 1) := by decide +kernel
theorem d2_0 : decode jdk_42_method_3_code 0 = .ok (.aload_n 0, 1) := by decide +kernel
theorem d2_1 : decode jdk_42_method_3_code 1 = .ok (.aload_n 1, 1) := by decide +kernel
theorem d2_2 : decode jdk_42_method_3_code 2 = .ok (.iconst 0, 1) := by decide +kernel
theorem d2_3 : decode jdk_42_method_3_code 3 = .ok (.aload_n 1, 1) := by decide +kernel
theorem d2_4 : decode jdk_42_method_3_code 4 = .ok (.arraylength, 1) := by decide +kernel
theorem d2_5 : decode jdk_42_method_3_code 5 = .ok (.aconst_null, 1) := by decide +kernel
theorem d2_6 : decode jdk_42_method_3_code 6 = .ok (.invokespecial 27, 3) := by decide +kernel
theorem d2_9 : decode jdk_42_method_3_code 9 = .ok (.return_, 1) := by decide +kernel
theorem d3_0 : decode jdk_42_method_149_code 0 = .ok (.aload_n 0, 1) := by decide +kernel
theorem d3_1 : decode jdk_42_method_149_code 1 = .ok (.invokespecial 1, 3) := by decide +kernel
theorem d3_4 : decode jdk_42_method_149_code 4 = .ok (.iload_n 3, 1) := by decide +kernel
theorem d3_5 : decode jdk_42_method_149_code 5 = .ok (.ifCond .ne 22, 3) := by decide +kernel
theorem d3_8 : decode jdk_42_method_149_code 8 = .ok (.aload_n 0, 1) := by decide +kernel
theorem d3_9 : decode jdk_42_method_149_code 9 = .ok (.ldc 7, 2) := by decide +kernel
theorem d3_11 : decode jdk_42_method_149_code 11 = .ok (.getfield 9, 3) := by decide +kernel
theorem d3_14 : decode jdk_42_method_149_code 14 = .ok (.putfield 9, 3) := by decide +kernel
theorem d3_17 : decode jdk_42_method_149_code 17 = .ok (.aload_n 0, 1) := by decide +kernel
theorem d3_18 : decode jdk_42_method_149_code 18 = .ok (.ldc 7, 2) := by decide +kernel
theorem d3_20 : decode jdk_42_method_149_code 20 = .ok (.getfield 15, 3) := by decide +kernel
theorem d3_23 : decode jdk_42_method_149_code 23 = .ok (.putfield 15, 3) := by decide +kernel
theorem d3_26 : decode jdk_42_method_149_code 26 = .ok (.return_, 1) := by decide +kernel
theorem d3_27 : decode jdk_42_method_149_code 27 = .ok (.getstatic 38, 3) := by decide +kernel
theorem d3_30 : decode jdk_42_method_149_code 30 = .ok (.ifCond .eq 28, 3) := by decide +kernel
theorem d3_33 : decode jdk_42_method_149_code 33 = .ok (.aload_n 1, 1) := by decide +kernel
theorem d3_34 : decode jdk_42_method_149_code 34 = .ok (.iload_n 2, 1) := by decide +kernel
theorem d3_35 : decode jdk_42_method_149_code 35 = .ok (.iload_n 3, 1) := by decide +kernel
theorem d3_36 : decode jdk_42_method_149_code 36 = .ok (.invokestatic 177, 3) := by decide +kernel
theorem d3_39 : decode jdk_42_method_149_code 39 = .ok (.astore 5, 2) := by decide +kernel
theorem d3_41 : decode jdk_42_method_149_code 41 = .ok (.aload_n 0, 1) := by decide +kernel
theorem d3_42 : decode jdk_42_method_149_code 42 = .ok (.aload 5, 2) := by decide +kernel
theorem d3_44 : decode jdk_42_method_149_code 44 = .ok (.iload_n 3, 1) := by decide +kernel
theorem d3_45 : decode jdk_42_method_149_code 45 = .ok (.invokestatic 47, 3) := by decide +kernel
theorem d3_48 : decode jdk_42_method_149_code 48 = .ok (.putfield 15, 3) := by decide +kernel
theorem d3_51 : decode jdk_42_method_149_code 51 = .ok (.aload_n 0, 1) := by decide +kernel
theorem d3_52 : decode jdk_42_method_149_code 52 = .ok (.aload 5, 2) := by decide +kernel
theorem d3_54 : decode jdk_42_method_149_code 54 = .ok (.putfield 9, 3) := by decide +kernel
theorem d3_57 : decode jdk_42_method_149_code 57 = .ok (.return_, 1) := by decide +kernel
theorem d5_0 : decode method_4_code 0 = .ok (.aload_n 0, 1) := by decide +kernel
theorem d5_1 : decode method_4_code 1 = .ok (.invokevirtual 45, 3) := by decide +kernel
theorem d5_4 : decode method_4_code 4 = .ok (.iconst 4, 1) := by decide +kernel
theorem d5_5 : decode method_4_code 5 = .ok (.if_icmp .ne 47, 3) := by decide +kernel
theorem d5_8 : decode method_4_code 8 = .ok (.aload_n 0, 1) := by decide +kernel
theorem d5_9 : decode method_4_code 9 = .ok (.iconst 0, 1) := by decide +kernel
theorem d5_10 : decode method_4_code 10 = .ok (.invokevirtual 49, 3) := by decide +kernel
theorem d5_13 : decode method_4_code 13 = .ok (.bipush 115, 2) := by decide +kernel
theorem d5_15 : decode method_4_code 15 = .ok (.if_icmp .ne 37, 3) := by decide +kernel
theorem d5_18 : decode method_4_code 18 = .ok (.aload_n 0, 1) := by decide +kernel
theorem d5_19 : decode method_4_code 19 = .ok (.iconst 1, 1) := by decide +kernel
theorem d5_20 : decode method_4_code 20 = .ok (.invokevirtual 49, 3) := by decide +kernel
theorem d5_23 : decode method_4_code 23 = .ok (.bipush 112, 2) := by decide +kernel
theorem d5_25 : decode method_4_code 25 = .ok (.if_icmp .ne 27, 3) := by decide +kernel
theorem d5_28 : decode method_4_code 28 = .ok (.aload_n 0, 1) := by decide +kernel
theorem d5_29 : decode method_4_code 29 = .ok (.iconst 2, 1) := by decide +kernel
theorem d5_30 : decode method_4_code 30 = .ok (.invokevirtual 49, 3) := by decide +kernel
theorem d5_33 : decode method_4_code 33 = .ok (.bipush 105, 2) := by decide +kernel
theorem d5_35 : decode method_4_code 35 = .ok (.if_icmp .ne 17, 3) := by decide +kernel
theorem d5_38 : decode method_4_code 38 = .ok (.aload_n 0, 1) := by decide +kernel
theorem d5_39 : decode method_4_code 39 = .ok (.iconst 3, 1) := by decide +kernel
theorem d5_40 : decode method_4_code 40 = .ok (.invokevirtual 49, 3) := by decide +kernel
theorem d5_43 : decode method_4_code 43 = .ok (.bipush 100, 2) := by decide +kernel
theorem d5_45 : decode method_4_code 45 = .ok (.if_icmp .ne 7, 3) := by decide +kernel
theorem d5_48 : decode method_4_code 48 = .ok (.iconst 1, 1) := by decide +kernel
theorem d5_49 : decode method_4_code 49 = .ok (.goto 4, 3) := by decide +kernel
theorem d5_52 : decode method_4_code 52 = .ok (.iconst 0, 1) := by decide +kernel
theorem d5_53 : decode method_4_code 53 = .ok (.ireturn, 1) := by decide +kernel
theorem d6_0 : decode jdk_42_method_54_code 0 = .ok (.aload_n 0, 1) := by decide +kernel
theorem d6_1 : decode jdk_42_method_54_code 1 = .ok (.getfield 9, 3) := by decide +kernel
theorem d6_4 : decode jdk_42_method_54_code 4 = .ok (.arraylength, 1) := by decide +kernel
theorem d6_5 : decode jdk_42_method_54_code 5 = .ok (.aload_n 0, 1) := by decide +kernel
theorem d6_6 : decode jdk_42_method_54_code 6 = .ok (.invokevirtual 335, 3) := by decide +kernel
theorem d6_9 : decode jdk_42_method_54_code 9 = .ok (.ishr, 1) := by decide +kernel
theorem d6_10 : decode jdk_42_method_54_code 10 = .ok (.ireturn, 1) := by decide +kernel
theorem d7_0 : decode jdk_42_method_152_code 0 = .ok (.getstatic 38, 3) := by decide +kernel
theorem d7_3 : decode jdk_42_method_152_code 3 = .ok (.ifCond .eq 10, 3) := by decide +kernel
theorem d7_6 : decode jdk_42_method_152_code 6 = .ok (.aload_n 0, 1) := by decide +kernel
theorem d7_7 : decode jdk_42_method_152_code 7 = .ok (.getfield 15, 3) := by decide +kernel
theorem d7_10 : decode jdk_42_method_152_code 10 = .ok (.goto 4, 3) := by decide +kernel
theorem d7_14 : decode jdk_42_method_152_code 14 = .ok (.ireturn, 1) := by decide +kernel
theorem d8_0 : decode method_5_code 0 = .ok (.aload_n 0, 1) := by decide +kernel
theorem d8_1 : decode method_5_code 1 = .ok (.invokevirtual 45, 3) := by decide +kernel
theorem d8_4 : decode method_5_code 4 = .ok (.iconst 5, 1) := by decide +kernel
theorem d8_5 : decode method_5_code 5 = .ok (.if_icmp .ne 57, 3) := by decide +kernel
theorem d8_8 : decode method_5_code 8 = .ok (.aload_n 0, 1) := by decide +kernel
theorem d8_9 : decode method_5_code 9 = .ok (.iconst 0, 1) := by decide +kernel
theorem d8_10 : decode method_5_code 10 = .ok (.invokevirtual 49, 3) := by decide +kernel
theorem d8_13 : decode method_5_code 13 = .ok (.bipush 115, 2) := by decide +kernel
theorem d8_15 : decode method_5_code 15 = .ok (.if_icmp .ne 47, 3) := by decide +kernel
theorem d8_18 : decode method_5_code 18 = .ok (.aload_n 0, 1) := by decide +kernel
theorem d8_19 : decode method_5_code 19 = .ok (.iconst 1, 1) := by decide +kernel
theorem d8_20 : decode method_5_code 20 = .ok (.invokevirtual 49, 3) := by decide +kernel
theorem d8_23 : decode method_5_code 23 = .ok (.bipush 97, 2) := by decide +kernel
theorem d8_25 : decode method_5_code 25 = .ok (.if_icmp .ne 37, 3) := by decide +kernel
theorem d8_28 : decode method_5_code 28 = .ok (.aload_n 0, 1) := by decide +kernel
theorem d8_29 : decode method_5_code 29 = .ok (.iconst 2, 1) := by decide +kernel
theorem d8_30 : decode method_5_code 30 = .ok (.invokevirtual 49, 3) := by decide +kernel
theorem d8_33 : decode method_5_code 33 = .ok (.bipush 109, 2) := by decide +kernel
theorem d8_35 : decode method_5_code 35 = .ok (.if_icmp .ne 27, 3) := by decide +kernel
theorem d8_38 : decode method_5_code 38 = .ok (.aload_n 0, 1) := by decide +kernel
theorem d8_39 : decode method_5_code 39 = .ok (.iconst 3, 1) := by decide +kernel
theorem d8_40 : decode method_5_code 40 = .ok (.invokevirtual 49, 3) := by decide +kernel
theorem d8_43 : decode method_5_code 43 = .ok (.bipush 108, 2) := by decide +kernel
theorem d8_45 : decode method_5_code 45 = .ok (.if_icmp .ne 17, 3) := by decide +kernel
theorem d8_48 : decode method_5_code 48 = .ok (.aload_n 0, 1) := by decide +kernel
theorem d8_49 : decode method_5_code 49 = .ok (.iconst 4, 1) := by decide +kernel
theorem d8_50 : decode method_5_code 50 = .ok (.invokevirtual 49, 3) := by decide +kernel
theorem d8_53 : decode method_5_code 53 = .ok (.bipush 50, 2) := by decide +kernel
theorem d8_55 : decode method_5_code 55 = .ok (.if_icmp .ne 7, 3) := by decide +kernel
theorem d8_58 : decode method_5_code 58 = .ok (.iconst 1, 1) := by decide +kernel
theorem d8_59 : decode method_5_code 59 = .ok (.goto 4, 3) := by decide +kernel
theorem d8_62 : decode method_5_code 62 = .ok (.iconst 0, 1) := by decide +kernel
theorem d8_63 : decode method_5_code 63 = .ok (.ireturn, 1) := by decide +kernel
theorem d9_0 : decode prog_7_method_5_code 0 = .ok (.invokestatic 33, 3) := by decide +kernel
theorem d9_3 : decode prog_7_method_5_code 3 = .ok (.astore_n 1, 1) := by decide +kernel
theorem d9_4 : decode prog_7_method_5_code 4 = .ok (.aload_n 1, 1) := by decide +kernel
theorem d9_5 : decode prog_7_method_5_code 5 = .ok (.arraylength, 1) := by decide +kernel
theorem d9_6 : decode prog_7_method_5_code 6 = .ok (.istore_n 2, 1) := by decide +kernel
theorem d9_7 : decode prog_7_method_5_code 7 = .ok (.iconst 0, 1) := by decide +kernel
theorem d9_8 : decode prog_7_method_5_code 8 = .ok (.istore_n 3, 1) := by decide +kernel
theorem d9_9 : decode prog_7_method_5_code 9 = .ok (.iload_n 3, 1) := by decide +kernel
theorem d9_10 : decode prog_7_method_5_code 10 = .ok (.iload_n 2, 1) := by decide +kernel
theorem d9_11 : decode prog_7_method_5_code 11 = .ok (.if_icmp .ge 32, 3) := by decide +kernel
theorem d9_14 : decode prog_7_method_5_code 14 = .ok (.aload_n 1, 1) := by decide +kernel
theorem d9_15 : decode prog_7_method_5_code 15 = .ok (.iload_n 3, 1) := by decide +kernel
theorem d9_16 : decode prog_7_method_5_code 16 = .ok (.aaload, 1) := by decide +kernel
theorem d9_17 : decode prog_7_method_5_code 17 = .ok (.astore 4, 2) := by decide +kernel
theorem d9_19 : decode prog_7_method_5_code 19 = .ok (.aload 4, 2) := by decide +kernel
theorem d9_21 : decode prog_7_method_5_code 21 = .ok (.getfield 29, 3) := by decide +kernel
theorem d9_24 : decode prog_7_method_5_code 24 = .ok (.aload_n 0, 1) := by decide +kernel
theorem d9_25 : decode prog_7_method_5_code 25 = .ok (.invokevirtual 37, 3) := by decide +kernel
theorem d9_28 : decode prog_7_method_5_code 28 = .ok (.ifCond .eq 9, 3) := by decide +kernel
theorem d9_31 : decode prog_7_method_5_code 31 = .ok (.aload 4, 2) := by decide +kernel
theorem d9_33 : decode prog_7_method_5_code 33 = .ok (.invokestatic 43, 3) := by decide +kernel
theorem d9_36 : decode prog_7_method_5_code 36 = .ok (.areturn, 1) := by decide +kernel
theorem d9_37 : decode prog_7_method_5_code 37 = .ok (.iinc 3 1, 3) := by decide +kernel
theorem d9_40 : decode prog_7_method_5_code 40 = .ok (.goto (-31), 3) := by decide +kernel
theorem d9_43 : decode prog_7_method_5_code 43 = .ok (.invokestatic 49, 3) := by decide +kernel
theorem d9_46 : decode prog_7_method_5_code 46 = .ok (.areturn, 1) := by decide +kernel
theorem d10_0 : decode prog_7_method_1_code 0 = .ok (.getstatic 10, 3) := by decide +kernel
theorem d10_3 : decode prog_7_method_1_code 3 = .ok (.invokevirtual 14, 3) := by decide +kernel
theorem d10_6 : decode prog_7_method_1_code 6 = .ok (.checkcast 15, 3) := by decide +kernel
theorem d10_9 : decode prog_7_method_1_code 9 = .ok (.areturn, 1) := by decide +kernel
theorem d11_0 : decode jdk_42_method_66_code 0 = .ok (.aload_n 0, 1) := by decide +kernel
theorem d11_1 : decode jdk_42_method_66_code 1 = .ok (.aload_n 1, 1) := by decide +kernel
theorem d11_2 : decode jdk_42_method_66_code 2 = .ok (.if_acmp .ne 5, 3) := by decide +kernel
theorem d11_7 : decode jdk_42_method_66_code 7 = .ok (.aload_n 1, 1) := by decide +kernel
theorem d11_8 : decode jdk_42_method_66_code 8 = .ok (.instanceof 10, 3) := by decide +kernel
theorem d11_11 : decode jdk_42_method_66_code 11 = .ok (.ifCond .eq 43, 3) := by decide +kernel
theorem d11_14 : decode jdk_42_method_66_code 14 = .ok (.aload_n 1, 1) := by decide +kernel
theorem d11_15 : decode jdk_42_method_66_code 15 = .ok (.checkcast 10, 3) := by decide +kernel
theorem d11_18 : decode jdk_42_method_66_code 18 = .ok (.astore_n 2, 1) := by decide +kernel
theorem d11_19 : decode jdk_42_method_66_code 19 = .ok (.getstatic 38, 3) := by decide +kernel
theorem d11_22 : decode jdk_42_method_66_code 22 = .ok (.ifCond .eq 14, 3) := by decide +kernel
theorem d11_25 : decode jdk_42_method_66_code 25 = .ok (.aload_n 0, 1) := by decide +kernel
theorem d11_26 : decode jdk_42_method_66_code 26 = .ok (.getfield 15, 3) := by decide +kernel
theorem d11_29 : decode jdk_42_method_66_code 29 = .ok (.aload_n 2, 1) := by decide +kernel
theorem d11_30 : decode jdk_42_method_66_code 30 = .ok (.getfield 15, 3) := by decide +kernel
theorem d11_33 : decode jdk_42_method_66_code 33 = .ok (.if_icmp .ne 21, 3) := by decide +kernel
theorem d11_36 : decode jdk_42_method_66_code 36 = .ok (.aload_n 0, 1) := by decide +kernel
theorem d11_37 : decode jdk_42_method_66_code 37 = .ok (.getfield 9, 3) := by decide +kernel
theorem d11_40 : decode jdk_42_method_66_code 40 = .ok (.aload_n 2, 1) := by decide +kernel
theorem d11_41 : decode jdk_42_method_66_code 41 = .ok (.getfield 9, 3) := by decide +kernel
theorem d11_44 : decode jdk_42_method_66_code 44 = .ok (.invokestatic 541, 3) := by decide +kernel
theorem d11_47 : decode jdk_42_method_66_code 47 = .ok (.ifCond .eq 7, 3) := by decide +kernel
theorem d11_50 : decode jdk_42_method_66_code 50 = .ok (.iconst 1, 1) := by decide +kernel
theorem d11_51 : decode jdk_42_method_66_code 51 = .ok (.goto 4, 3) := by decide +kernel
theorem d11_54 : decode jdk_42_method_66_code 54 = .ok (.iconst 0, 1) := by decide +kernel
theorem d11_55 : decode jdk_42_method_66_code 55 = .ok (.ireturn, 1) := by decide +kernel
theorem d12_0 : decode jdk_43_method_13_code 0 = .ok (.aload_n 0, 1) := by decide +kernel
theorem d12_1 : decode jdk_43_method_13_code 1 = .ok (.arraylength, 1) := by decide +kernel
theorem d12_2 : decode jdk_43_method_13_code 2 = .ok (.aload_n 1, 1) := by decide +kernel
theorem d12_3 : decode jdk_43_method_13_code 3 = .ok (.arraylength, 1) := by decide +kernel
theorem d12_4 : decode jdk_43_method_13_code 4 = .ok (.if_icmp .ne 30, 3) := by decide +kernel
theorem d12_7 : decode jdk_43_method_13_code 7 = .ok (.iconst 0, 1) := by decide +kernel
theorem d12_8 : decode jdk_43_method_13_code 8 = .ok (.istore_n 2, 1) := by decide +kernel
theorem d12_9 : decode jdk_43_method_13_code 9 = .ok (.iload_n 2, 1) := by decide +kernel
theorem d12_10 : decode jdk_43_method_13_code 10 = .ok (.aload_n 0, 1) := by decide +kernel
theorem d12_11 : decode jdk_43_method_13_code 11 = .ok (.arraylength, 1) := by decide +kernel
theorem d12_12 : decode jdk_43_method_13_code 12 = .ok (.if_icmp .ge 20, 3) := by decide +kernel
theorem d12_15 : decode jdk_43_method_13_code 15 = .ok (.aload_n 0, 1) := by decide +kernel
theorem d12_16 : decode jdk_43_method_13_code 16 = .ok (.iload_n 2, 1) := by decide +kernel
theorem d12_17 : decode jdk_43_method_13_code 17 = .ok (.baload, 1) := by decide +kernel
theorem d12_18 : decode jdk_43_method_13_code 18 = .ok (.aload_n 1, 1) := by decide +kernel
theorem d12_19 : decode jdk_43_method_13_code 19 = .ok (.iload_n 2, 1) := by decide +kernel
theorem d12_20 : decode jdk_43_method_13_code 20 = .ok (.baload, 1) := by decide +kernel
theorem d12_21 : decode jdk_43_method_13_code 21 = .ok (.if_icmp .eq 5, 3) := by decide +kernel
theorem d12_24 : decode jdk_43_method_13_code 24 = .ok (.iconst 0, 1) := by decide +kernel
theorem d12_25 : decode jdk_43_method_13_code 25 = .ok (.ireturn, 1) := by decide +kernel
theorem d12_26 : decode jdk_43_method_13_code 26 = .ok (.iinc 2 1, 3) := by decide +kernel
theorem d12_29 : decode jdk_43_method_13_code 29 = .ok (.goto (-20), 3) := by decide +kernel
theorem d12_32 : decode jdk_43_method_13_code 32 = .ok (.iconst 1, 1) := by decide +kernel
theorem d12_33 : decode jdk_43_method_13_code 33 = .ok (.ireturn, 1) := by decide +kernel
theorem d12_34 : decode jdk_43_method_13_code 34 = .ok (.iconst 0, 1) := by decide +kernel
theorem d12_35 : decode jdk_43_method_13_code 35 = .ok (.ireturn, 1) := by decide +kernel
theorem d13_0 : decode jdk_32_method_1_code 0 = .ok (.getstatic 1, 3) := by decide +kernel
theorem d13_3 : decode jdk_32_method_1_code 3 = .ok (.astore_n 0, 1) := by decide +kernel
theorem d13_4 : decode jdk_32_method_1_code 4 = .ok (.aload_n 0, 1) := by decide +kernel
theorem d13_5 : decode jdk_32_method_1_code 5 = .ok (.areturn, 1) := by decide +kernel
theorem d14_0 : decode jdk_32_method_15_code 0 = .ok (.aload_n 0, 1) := by decide +kernel
theorem d14_1 : decode jdk_32_method_15_code 1 = .ok (.getfield 13, 3) := by decide +kernel
theorem d14_4 : decode jdk_32_method_15_code 4 = .ok (.ifnull 10, 3) := by decide +kernel
theorem d14_7 : decode jdk_32_method_15_code 7 = .ok (.aload_n 0, 1) := by decide +kernel
theorem d14_8 : decode jdk_32_method_15_code 8 = .ok (.getfield 13, 3) := by decide +kernel
theorem d14_11 : decode jdk_32_method_15_code 11 = .ok (.goto 4, 3) := by decide +kernel
theorem d14_14 : decode jdk_32_method_15_code 14 = .ok (.aload_n 1, 1) := by decide +kernel
theorem d14_15 : decode jdk_32_method_15_code 15 = .ok (.areturn, 1) := by decide +kernel
theorem d15_0 : decode jdk_52_method_16_code 0 = .ok (.iload_n 2, 1) := by decide +kernel
theorem d15_1 : decode jdk_52_method_16_code 1 = .ok (.newarray .byte, 2) := by decide +kernel
theorem d15_3 : decode jdk_52_method_16_code 3 = .ok (.astore_n 3, 1) := by decide +kernel
theorem d15_4 : decode jdk_52_method_16_code 4 = .ok (.aload_n 0, 1) := by decide +kernel
theorem d15_5 : decode jdk_52_method_16_code 5 = .ok (.iload_n 1, 1) := by decide +kernel
theorem d15_6 : decode jdk_52_method_16_code 6 = .ok (.aload_n 3, 1) := by decide +kernel
theorem d15_7 : decode jdk_52_method_16_code 7 = .ok (.iconst 0, 1) := by decide +kernel
theorem d15_8 : decode jdk_52_method_16_code 8 = .ok (.iload_n 2, 1) := by decide +kernel
theorem d15_9 : decode jdk_52_method_16_code 9 = .ok (.invokestatic 115, 3) := by decide +kernel
theorem d15_12 : decode jdk_52_method_16_code 12 = .ok (.istore 4, 2) := by decide +kernel
theorem d15_14 : decode jdk_52_method_16_code 14 = .ok (.iload 4, 2) := by decide +kernel
theorem d15_16 : decode jdk_52_method_16_code 16 = .ok (.iload_n 2, 1) := by decide +kernel
theorem d15_17 : decode jdk_52_method_16_code 17 = .ok (.if_icmp .eq 40, 3) := by decide +kernel
theorem d15_57 : decode jdk_52_method_16_code 57 = .ok (.aload_n 3, 1) := by decide +kernel
theorem d15_58 : decode jdk_52_method_16_code 58 = .ok (.areturn, 1) := by decide +kernel
theorem d16_0 : decode jdk_52_method_21_code 0 = .ok (.iconst 0, 1) := by decide +kernel
theorem d16_1 : decode jdk_52_method_21_code 1 = .ok (.istore 5, 2) := by decide +kernel
theorem d16_3 : decode jdk_52_method_21_code 3 = .ok (.iload 5, 2) := by decide +kernel
theorem d16_5 : decode jdk_52_method_21_code 5 = .ok (.iload 4, 2) := by decide +kernel
theorem d16_7 : decode jdk_52_method_21_code 7 = .ok (.if_icmp .ge 37, 3) := by decide +kernel
theorem d16_10 : decode jdk_52_method_21_code 10 = .ok (.aload_n 0, 1) := by decide +kernel
theorem d16_11 : decode jdk_52_method_21_code 11 = .ok (.iload_n 1, 1) := by decide +kernel
theorem d16_12 : decode jdk_52_method_21_code 12 = .ok (.caload, 1) := by decide +kernel
theorem d16_13 : decode jdk_52_method_21_code 13 = .ok (.istore 6, 2) := by decide +kernel
theorem d16_15 : decode jdk_52_method_21_code 15 = .ok (.iload 6, 2) := by decide +kernel
theorem d16_17 : decode jdk_52_method_21_code 17 = .ok (.sipush 255, 3) := by decide +kernel
theorem d16_20 : decode jdk_52_method_21_code 20 = .ok (.if_icmp .le 6, 3) := by decide +kernel
theorem d16_26 : decode jdk_52_method_21_code 26 = .ok (.aload_n 2, 1) := by decide +kernel
theorem d16_27 : decode jdk_52_method_21_code 27 = .ok (.iload_n 3, 1) := by decide +kernel
theorem d16_28 : decode jdk_52_method_21_code 28 = .ok (.iload 6, 2) := by decide +kernel
theorem d16_30 : decode jdk_52_method_21_code 30 = .ok (.i2b, 1) := by decide +kernel
theorem d16_31 : decode jdk_52_method_21_code 31 = .ok (.bastore, 1) := by decide +kernel
theorem d16_32 : decode jdk_52_method_21_code 32 = .ok (.iinc 1 1, 3) := by decide +kernel
theorem d16_35 : decode jdk_52_method_21_code 35 = .ok (.iinc 3 1, 3) := by decide +kernel
theorem d16_38 : decode jdk_52_method_21_code 38 = .ok (.iinc 5 1, 3) := by decide +kernel
theorem d16_41 : decode jdk_52_method_21_code 41 = .ok (.goto (-38), 3) := by decide +kernel
theorem d16_44 : decode jdk_52_method_21_code 44 = .ok (.iload 4, 2) := by decide +kernel
theorem d16_46 : decode jdk_52_method_21_code 46 = .ok (.ireturn, 1) := by decide +kernel
theorem d17_0 : decode jdk_52_method_15_code 0 = .ok (.iload_n 1, 1) := by decide +kernel
theorem d17_1 : decode jdk_52_method_15_code 1 = .ok (.aload_n 0, 1) := by decide +kernel
theorem d17_2 : decode jdk_52_method_15_code 2 = .ok (.arraylength, 1) := by decide +kernel
theorem d17_3 : decode jdk_52_method_15_code 3 = .ok (.isub, 1) := by decide +kernel
theorem d17_4 : decode jdk_52_method_15_code 4 = .ok (.bipush 31, 2) := by decide +kernel
theorem d17_6 : decode jdk_52_method_15_code 6 = .ok (.iushr, 1) := by decide +kernel
theorem d17_7 : decode jdk_52_method_15_code 7 = .ok (.i2b, 1) := by decide +kernel
theorem d17_8 : decode jdk_52_method_15_code 8 = .ok (.ireturn, 1) := by decide +kernel
theorem d18_0 : decode jdk_42_method_56_code 0 = .ok (.aload_n 0, 1) := by decide +kernel
theorem d18_1 : decode jdk_42_method_56_code 1 = .ok (.invokevirtual 492, 3) := by decide +kernel
theorem d18_4 : decode jdk_42_method_56_code 4 = .ok (.ifCond .eq 12, 3) := by decide +kernel
theorem d18_7 : decode jdk_42_method_56_code 7 = .ok (.aload_n 0, 1) := by decide +kernel
theorem d18_8 : decode jdk_42_method_56_code 8 = .ok (.getfield 9, 3) := by decide +kernel
theorem d18_11 : decode jdk_42_method_56_code 11 = .ok (.iload_n 1, 1) := by decide +kernel
theorem d18_12 : decode jdk_42_method_56_code 12 = .ok (.invokestatic 495, 3) := by decide +kernel
theorem d18_15 : decode jdk_42_method_56_code 15 = .ok (.ireturn, 1) := by decide +kernel
theorem d19_0 : decode jdk_42_method_154_code 0 = .ok (.getstatic 38, 3) := by decide +kernel
theorem d19_3 : decode jdk_42_method_154_code 3 = .ok (.ifCond .eq 14, 3) := by decide +kernel
theorem d19_6 : decode jdk_42_method_154_code 6 = .ok (.aload_n 0, 1) := by decide +kernel
theorem d19_7 : decode jdk_42_method_154_code 7 = .ok (.getfield 15, 3) := by decide +kernel
theorem d19_10 : decode jdk_42_method_154_code 10 = .ok (.ifCond .ne 7, 3) := by decide +kernel
theorem d19_13 : decode jdk_42_method_154_code 13 = .ok (.iconst 1, 1) := by decide +kernel
theorem d19_14 : decode jdk_42_method_154_code 14 = .ok (.goto 4, 3) := by decide +kernel
theorem d19_18 : decode jdk_42_method_154_code 18 = .ok (.ireturn, 1) := by decide +kernel
theorem d20_0 : decode jdk_43_method_2_code 0 = .ok (.iload_n 1, 1) := by decide +kernel
theorem d20_1 : decode jdk_43_method_2_code 1 = .ok (.aload_n 0, 1) := by decide +kernel
theorem d20_2 : decode jdk_43_method_2_code 2 = .ok (.arraylength, 1) := by decide +kernel
theorem d20_3 : decode jdk_43_method_2_code 3 = .ok (.invokestatic 9, 3) := by decide +kernel
theorem d20_6 : decode jdk_43_method_2_code 6 = .ok (.aload_n 0, 1) := by decide +kernel
theorem d20_7 : decode jdk_43_method_2_code 7 = .ok (.iload_n 1, 1) := by decide +kernel
theorem d20_8 : decode jdk_43_method_2_code 8 = .ok (.baload, 1) := by decide +kernel
theorem d20_9 : decode jdk_43_method_2_code 9 = .ok (.sipush 255, 3) := by decide +kernel
theorem d20_12 : decode jdk_43_method_2_code 12 = .ok (.iand, 1) := by decide +kernel
theorem d20_13 : decode jdk_43_method_2_code 13 = .ok (.i2c, 1) := by decide +kernel
theorem d20_14 : decode jdk_43_method_2_code 14 = .ok (.ireturn, 1) := by decide +kernel
theorem d21_0 : decode jdk_42_method_155_code 0 = .ok (.iload_n 0, 1) := by decide +kernel
theorem d21_1 : decode jdk_42_method_155_code 1 = .ok (.iload_n 1, 1) := by decide +kernel
theorem d21_2 : decode jdk_42_method_155_code 2 = .ok (.getstatic 1053, 3) := by decide +kernel
theorem d21_5 : decode jdk_42_method_155_code 5 = .ok (.invokestatic 1059, 3) := by decide +kernel
theorem d21_8 : decode jdk_42_method_155_code 8 = .ok (.pop, 1) := by decide +kernel
theorem d21_9 : decode jdk_42_method_155_code 9 = .ok (.return_, 1) := by decide +kernel
theorem d22_0 : decode jdk_41_method_11_code 0 = .ok (.iload_n 0, 1) := by decide +kernel
theorem d22_1 : decode jdk_41_method_11_code 1 = .ok (.ifCond .lt 8, 3) := by decide +kernel
theorem d22_4 : decode jdk_41_method_11_code 4 = .ok (.iload_n 0, 1) := by decide +kernel
theorem d22_5 : decode jdk_41_method_11_code 5 = .ok (.iload_n 1, 1) := by decide +kernel
theorem d22_6 : decode jdk_41_method_11_code 6 = .ok (.if_icmp .lt 10, 3) := by decide +kernel
theorem d22_16 : decode jdk_41_method_11_code 16 = .ok (.iload_n 0, 1) := by decide +kernel
theorem d22_17 : decode jdk_41_method_11_code 17 = .ok (.ireturn, 1) := by decide +kernel
theorem d23_0 : decode jdk_32_method_3_code 0 = .ok (.new 2, 3) := by decide +kernel
theorem d23_3 : decode jdk_32_method_3_code 3 = .ok (.dup, 1) := by decide +kernel
theorem d23_4 : decode jdk_32_method_3_code 4 = .ok (.aload_n 0, 1) := by decide +kernel
theorem d23_5 : decode jdk_32_method_3_code 5 = .ok (.invokestatic 17, 3) := by decide +kernel
theorem d23_8 : decode jdk_32_method_3_code 8 = .ok (.invokespecial 23, 3) := by decide +kernel
theorem d23_11 : decode jdk_32_method_3_code 11 = .ok (.areturn, 1) := by decide +kernel
theorem d24_0 : decode jdk_31_method_10_code 0 = .ok (.aload_n 0, 1) := by decide +kernel
theorem d24_1 : decode jdk_31_method_10_code 1 = .ok (.ifnonnull 11, 3) := by decide +kernel
theorem d24_12 : decode jdk_31_method_10_code 12 = .ok (.aload_n 0, 1) := by decide +kernel
theorem d24_13 : decode jdk_31_method_10_code 13 = .ok (.areturn, 1) := by decide +kernel
theorem d25_0 : decode jdk_32_method_2_code 0 = .ok (.aload_n 0, 1) := by decide +kernel
theorem d25_1 : decode jdk_32_method_2_code 1 = .ok (.invokespecial 7, 3) := by decide +kernel
theorem d25_4 : decode jdk_32_method_2_code 4 = .ok (.aload_n 0, 1) := by decide +kernel
theorem d25_5 : decode jdk_32_method_2_code 5 = .ok (.aload_n 1, 1) := by decide +kernel
theorem d25_6 : decode jdk_32_method_2_code 6 = .ok (.putfield 13, 3) := by decide +kernel
theorem d25_9 : decode jdk_32_method_2_code 9 = .ok (.return_, 1) := by decide +kernel
theorem own_on {i : Nat} (h : i < 2147483648) : (Int32.ofNat i).toInt = i := Int32.toInt_ofNat_of_lt (by simpa using h)
theorem own_eqi {x y : Int32} (h : x.toInt = y.toInt) : x = y := Int32.toInt_inj.mp h
theorem own_clamp {i : Nat} (h : i < 2147483648) : (Int32.ofNat i).toNatClampNeg = i := by
  rw [Int32.toNatClampNeg, own_on h]; rfl
theorem own_lt {i j : Nat} (hi : i < 2147483648) (hj : j < 2147483648) : Int32.ofNat i < Int32.ofNat j ↔ i < j := by
  rw [Int32.lt_iff_toInt_lt, own_on hi, own_on hj]; omega
theorem own_eq {i j : Nat} (hi : i < 2147483648) (hj : j < 2147483648) : Int32.ofNat i = Int32.ofNat j ↔ i = j := by
  rw [← Int32.toInt_inj, own_on hi, own_on hj]; omega
theorem own_in {i n : Nat} (h : i < n) (hn : n < 2147483648) : ¬ Int32.ofNat i < 0 ∧ Int32.ofNat i < Int32.ofNat n := by
  refine ⟨fun q => ?_, (own_lt (by omega) hn).mpr h⟩
  rw [Int32.lt_iff_toInt_lt, own_on (by omega)] at q
  have : (0 : Int32).toInt = 0 := rfl
  omega
theorem own_succ {i : Nat} (h : i < 2147483647) : Int32.ofNat i + (1 : Int32) = Int32.ofNat (i + 1) := by
  apply own_eqi
  have h1 := c_iadd (Int32.ofNat i) 1
  have h2 := rng32 (Int32.ofNat i + 1)
  rw [own_on (by omega)] at h1 ⊢
  have h3 : (1 : Int32).toInt = 1 := rfl
  push_cast
  omega
theorem own_pred {i : Nat} (h : i < 2147483648) (h0 : 0 < i) : Int32.ofNat i - (1 : Int32) = Int32.ofNat (i - 1) := by
  apply own_eqi
  have h1 := c_isub (Int32.ofNat i) 1
  have h2 := rng32 (Int32.ofNat i - 1)
  rw [own_on h] at h1
  rw [own_on (by omega)]
  have h3 : (1 : Int32).toInt = 1 := rfl
  omega
theorem own_high {i : Nat} (h : i < 1073741824) : (Int32.ofNat i - (1 : Int32)).toInt = (i : Int) - 1 := by
  have h1 := c_isub (Int32.ofNat i) 1
  have h2 := rng32 (Int32.ofNat i - 1)
  rw [own_on (by omega)] at h1
  have h3 : (1 : Int32).toInt = 1 := rfl
  omega
theorem own_mid {i j : Nat} (h : i < j) (hj : j < 1073741824) : ((Int32.ofNat i + (Int32.ofNat j - (1 : Int32))).toUInt32 >>> ((1 : Int32) &&& 31).toUInt32).toInt32 = Int32.ofNat ((i + j - 1) / 2) := by
  apply own_eqi
  have h1 := c_iadd (Int32.ofNat i) (Int32.ofNat j - 1)
  have h2 := rng32 (Int32.ofNat i + (Int32.ofNat j - 1))
  rw [own_on (by omega), own_high hj] at h1
  rw [c_iushr _ 1 1 (by decide) (by decide), own_on (by omega)]
  omega
theorem own_past {i j : Nat} (hi : i < 1073741824) (hj : j < 1073741824) : Int32.ofNat j - (1 : Int32) < Int32.ofNat i ↔ j ≤ i := by
  rw [Int32.lt_iff_toInt_lt, own_high hj, own_on (by omega)]; omega
theorem own_getm {α : Type} (g : α → Value) (l : List α) (d0 : α) (dv : Value) {i : Nat} (hi : i < l.length) (hb : i < 2147483648) : (l.map g).getD (Int32.ofNat i).toNatClampNeg dv = g (l.getD i d0) := by
  rw [own_clamp hb]
  simp [hi]
def own_b8 (c : Int32) : Int32 := c.toInt8.toInt32
def own_by (c : Int32) : Value := .int (own_b8 c)
def own_c (c : Int32) : Prop := ¬ c < 0 ∧ ¬ 255 < c
def own_L (cs : List Int32) : Prop := ∀ c ∈ cs, own_c c
abbrev own_bi (d : Bool) : Int32 := if d then 1 else 0
theorem own_ci {c : Int32} (h : own_c c) : 0 ≤ c.toInt ∧ c.toInt ≤ 255 := by
  obtain ⟨h1, h2⟩ := h
  rw [Int32.lt_iff_toInt_lt] at h1 h2
  have e1 : (0 : Int32).toInt = 0 := rfl
  have e2 : (255 : Int32).toInt = 255 := rfl
  omega
theorem own_ic {c : Int32} (h1 : 0 ≤ c.toInt) (h2 : c.toInt ≤ 255) : own_c c := by
  have e1 : (0 : Int32).toInt = 0 := rfl
  have e2 : (255 : Int32).toInt = 255 := rfl
  refine ⟨fun q => ?_, fun q => ?_⟩ <;> rw [Int32.lt_iff_toInt_lt] at q <;> omega
theorem own_nc {c : Int32} (h : own_c c) : nar .char c = c := by
  apply Int32.toInt_inj.mp
  have h1 := own_ci h
  have h2 := c_i2c c
  show (c.toUInt32.toUInt16.toUInt32.toInt32).toInt = c.toInt
  omega
theorem own_nb (c : Int32) : nar .byte (own_b8 c) = own_b8 c := by
  apply Int32.toInt_inj.mp
  have h1 := c_i2b c
  have h2 := c_i2b (own_b8 c)
  have e : (own_b8 c).toInt = (c.toInt8.toInt32).toInt := rfl
  show ((own_b8 c).toInt8.toInt32).toInt = (own_b8 c).toInt
  omega
theorem own_m255 (x : Int32) : (x &&& 255).toInt = x.toInt % 256 := c_mask x 255 8 (by decide) (by decide)
theorem own_cand (x : Int32) : own_c ((x &&& 255).toUInt32.toUInt16.toUInt32.toInt32) := by
  have h3 := own_m255 x
  have h4 := c_i2c (x &&& 255)
  exact own_ic (by omega) (by omega)
theorem own_cb {c : Int32} (h : own_c c) : nar .char ((own_b8 c &&& 255).toUInt32.toUInt16.toUInt32.toInt32) = c := by
  rw [own_nc (own_cand _)]
  apply Int32.toInt_inj.mp
  have h1 := own_ci h
  have h2 := c_i2b c
  have h3 := own_m255 (own_b8 c)
  have h4 := c_i2c (own_b8 c &&& 255)
  have e : (own_b8 c).toInt = (c.toInt8.toInt32).toInt := rfl
  omega
theorem own_b8inj {c d : Int32} (hc : own_c c) (hd : own_c d) (h : own_b8 c = own_b8 d) : c = d := by
  rw [← own_cb hc, ← own_cb hd, h]
theorem own_shr0 (z : Int32) : z >>> ((0 : Int32) &&& 31) = z := by
  apply Int32.toInt_inj.mp
  rw [c_ishr z 0 0 (by decide)]
  simp
def own_fill (cs : List Int32) (i : Nat) : List Value := (cs.take i).map own_by ++ List.replicate (cs.length - i) (.int 0)
theorem own_fill0 (cs : List Int32) : own_fill cs 0 = List.replicate cs.length (.int 0) := by simp [own_fill]
theorem own_filln (cs : List Int32) : own_fill cs cs.length = cs.map own_by := by simp [own_fill]
theorem own_fill_len {cs : List Int32} {i : Nat} (h : i ≤ cs.length) : (own_fill cs i).length = cs.length := by simp [own_fill]; omega
theorem own_fill_cons (c : Int32) (cs : List Int32) (i : Nat) : own_fill (c :: cs) (i + 1) = own_by c :: own_fill cs i := by simp [own_fill]
theorem own_fill_set : ∀ (cs : List Int32) (i : Nat), i < cs.length → (own_fill cs i).set i (own_by (cs.getD i 0)) = own_fill cs (i + 1)
  | [], _, h => by simp at h
  | c :: cs, 0, _ => by simp [own_fill, List.replicate_succ]
  | c :: cs, i + 1, h => by
    have q := own_fill_set cs i (by simpa using h)
    rw [own_fill_cons, own_fill_cons, List.set_cons_succ, ← q]
    simp
theorem own_getb (cs : List Int32) (i : Nat) : (cs.map own_by).getD i (.int 0) = own_by (cs.getD i 0) := by
  rw [List.getD_eq_getElem?_getD, List.getD_eq_getElem?_getD, List.getElem?_map]; cases cs[i]? <;> rfl
theorem own_geti (cs : List Int32) (i : Nat) : (cs.map Value.int).getD i (.int 0) = .int (cs.getD i 0) := by
  rw [List.getD_eq_getElem?_getD, List.getD_eq_getElem?_getD, List.getElem?_map]; cases cs[i]? <;> rfl
theorem own_eqx {ca cb : List Int32} (hl : ca.length = cb.length) (h : ∀ j, j < ca.length → ca.getD j 0 = cb.getD j 0) : ca = cb := by
  apply List.ext_getElem hl
  intro i q1 q2
  have := h i q1
  simpa [q1, q2] using this
theorem own_Lget {cs : List Int32} (h : own_L cs) (i : Nat) : own_c (cs.getD i 0) := by
  rw [List.getD_eq_getElem?_getD]
  cases q : cs[i]? with
  | none => exact ⟨by decide, by decide⟩
  | some c => exact h c (List.mem_of_getElem? q)
theorem own_bi0 {d : Bool} (h : own_bi d = 0) : d = false := by cases d with | false => rfl | true => exact absurd h (by decide)
theorem own_bi1 {d : Bool} (h : ¬ own_bi d = 0) : d = true := by cases d with | true => rfl | false => exact absurd rfl h
theorem own_cfal (z : Int32) : nar .byte (((z - z).toUInt32 >>> ((31 : Int32) &&& 31).toUInt32).toInt32.toInt8.toInt32) = 0 := by rw [Int32.sub_self]; decide
theorem own_Ln : own_L [] := fun c h => by cases h
theorem own_Lc {c : Int32} {cs : List Int32} (h : own_c c) (hs : own_L cs) : own_L (c :: cs) := fun d hd => by
  rcases List.mem_cons.mp hd with rfl | q
  · exact h
  · exact hs d q
theorem own_Ltake {X : List Int32} {j : Nat} (h : own_L X) : own_L (List.take j X) := fun c hc => h c (List.mem_of_mem_take hc)
theorem own_Lset {X : List Int32} {j : Nat} {c : Int32} (h : own_L X) (hc : own_c c) : own_L (X.set j c) := fun d hd => by
  rcases List.mem_or_eq_of_mem_set hd with q | rfl
  · exact h d q
  · exact hc
theorem own_idx {i : Nat} {l : List Int32} (h : i < l.length) (hl : l.length < 2147483648) : ¬ Int32.ofNat i < 0 ∧ Int32.ofNat i < Int32.ofNat l.length := own_in h hl
def own_HE (f : Int32 → Option Value) : Nat → List Value → Prop
  | _, [] => True
  | i, v :: r => f (Int32.ofNat i) = some v ∧ own_HE f (i + 1) r
theorem own_eqI {t : Term} {n : Int32} {args : Array Value} {s : State} (h : (Cond.eq t (.int n)).value args s none s [] = some true) : t.eval args s none [] s = some (.int n) := by
  have hn : (Term.int n).eval args s none [] s = some (.int n) := rfl
  simp only [Cond.value] at h
  rw [hn] at h
  cases hv : t.eval args s none [] s with
  | none => simp [hv] at h
  | some v =>
    cases v with
    | int x => simp [hv] at h; rw [h]
    | _ => simp [hv] at h
theorem own_eqR {t u : Term} {y : Addr} {args : Array Value} {s : State} (h : (Cond.eq t u).value args s none s [] = some true) (hu : u.eval args s none [] s = some (.ref y)) : t.eval args s none [] s = some (.ref y) := by
  simp only [Cond.value] at h
  rw [hu] at h
  cases hv : t.eval args s none [] s with
  | none => simp [hv] at h
  | some v =>
    cases v with
    | ref x => simp [hv] at h; rw [h]
    | _ => simp [hv] at h
theorem own_HL {args : Array Value} {s : State} {t : Term} {a : Addr} {c : Cell} (ev : t.eval args s none [] s = some (.ref a)) (hc : s.heap[a]? = some c) : ∀ (vs : List Value) (i : Nat), i + vs.length < 2147483648 → own_HE (fun j => (Term.elem t (.int j)).eval args s none [] s) i vs → HasL c i vs
  | [], _, _, _ => trivial
  | v :: r, i, hi, H => by
    have hi' : i + 1 + r.length < 2147483648 := by simp at hi; omega
    have q := (elem_in H.1 ev (j := Int32.ofNat i) rfl hc).2
    rw [own_clamp (by omega)] at q
    exact ⟨q, own_HL ev hc r (i + 1) hi' H.2⟩
theorem own_sz {args : Array Value} {s : State} {t : Term} {a : Addr} {c : Cell} {z : Int32} (ev : t.eval args s none [] s = some (.ref a)) (ha : s.arrayAt? a = some c) (h2 : (Term.length t).eval args s none [] s = some (.int z)) : c.slots.size < 2 ^ 31 ∧ c.slots.size.toInt32 = z := by
  have hq : c.slots.size < 2 ^ 31 := by
    by_cases q : c.slots.size < 2147483648
    · exact q
    · simp [Term.eval, ev, ha, q] at h2
  have e := h2.symm.trans (len_f ev ha hq)
  exact ⟨hq, (Value.int.inj (Option.some.inj e)).symm⟩
theorem own_arv0 {args : Array Value} {s : State} {t : Term} {a : Addr} {ty : FieldType} {z : Int32} {vs : List Value} {dv : Value} (hf : Fit s) (ev : t.eval args s none [] s = some (.ref a)) (h1 : (Cond.arrayOf t ty).value args s none s [] = some true) (h2 : (Term.length t).eval args s none [] s = some (.int z)) (hz : ¬ z < 0) (hl : z.toNatClampNeg = vs.length) (hb : vs.length < 2147483648) (H : own_HE (fun j => (Term.elem t (.int j)).eval args s none [] s) 0 vs) : ∃ q, Arv s s.heap a q ty z vs dv := by
  obtain ⟨c, A⟩ := Arr.start ev h1
  have ha : s.arrayAt? a = some c := Arr.fin (Vm.Alike.refl _) A
  obtain ⟨hq, e⟩ := own_sz ev ha h2
  exact ⟨c.cls, Arv.start hf A hq e hz hl (own_HL ev A.1 vs 0 (by omega) H)⟩
theorem own_six {X : List Int32} (h : X.length = 6) : ∃ x0 x1 x2 x3 x4 x5, X = [x0, x1, x2, x3, x4, x5] := by
  match X, h with
  | [x0, x1, x2, x3, x4, x5], _ => exact ⟨_, _, _, _, _, _, rfl⟩
theorem own_lit4 {cl : List Int32} {a b c d : Int32} (hl : cl.length = 4) (h0 : cl.getD 0 0 = a) (h1 : cl.getD 1 0 = b) (h2 : cl.getD 2 0 = c) (h3 : cl.getD 3 0 = d) : cl = [a, b, c, d] := by
  match cl, hl with
  | [x0, x1, x2, x3], _ => simp at h0 h1 h2 h3; rw [h0, h1, h2, h3]
theorem own_lit5 {cl : List Int32} {a b c d e : Int32} (hl : cl.length = 5) (h0 : cl.getD 0 0 = a) (h1 : cl.getD 1 0 = b) (h2 : cl.getD 2 0 = c) (h3 : cl.getD 3 0 = d) (h4 : cl.getD 4 0 = e) : cl = [a, b, c, d, e] := by
  match cl, hl with
  | [x0, x1, x2, x3, x4], _ => simp at h0 h1 h2 h3 h4; rw [h0, h1, h2, h3, h4]
theorem own_rem7 (x : Int32) : ∃ j : Nat, j < 7 ∧ (x &&& (7 : Int32)) % (7 : Int32) = Int32.ofNat j := by
  have h1 : (x &&& (7 : Int32)).toInt = x.toInt % 8 := c_mask x 7 3 (by decide) (by decide)
  have h2 := (c_irem (x &&& (7 : Int32)) 7 7 rfl).1 (by omega)
  refine ⟨((x &&& (7 : Int32)) % (7 : Int32)).toInt.toNat, by omega, own_eqi ?_⟩
  rw [own_on (by omega)]
  omega
theorem own_rem6 (x : Int32) : ∃ j : Nat, j < 6 ∧ (x &&& (2147483647 : Int32)) % (6 : Int32) = Int32.ofNat j := by
  have h1 : (x &&& (2147483647 : Int32)).toInt = x.toInt % 2147483648 := c_mask x 2147483647 31 (by decide) (by decide)
  have h2 := (c_irem (x &&& (2147483647 : Int32)) 6 6 rfl).1 (by omega)
  refine ⟨((x &&& (2147483647 : Int32)) % (6 : Int32)).toInt.toNat, by omega, own_eqi ?_⟩
  rw [own_on (by omega)]
  omega
def own_pk (p1 p2 : Addr) (cl : List Int32) : Value := if ([115, 112, 105, 100] : List Int32) = cl then .ref p1 else if ([115, 97, 109, 108, 50] : List Int32) = cl then .ref p2 else .null
theorem own_wS {Z : State} {a0 : Array Value} (hw : ∀ d ∈ tables_1, d.before a0 Z = true) : ∀ a ∈ Bundle.stringAtoms, a.before a0 Z = true := by
  intro a ha
  simp only [Bundle.stringAtoms, List.mem_cons, List.not_mem_nil, or_false] at ha
  rcases ha with rfl | rfl | rfl | rfl | rfl | rfl | rfl
  · exact (w7 hw)
  · exact (w6 hw)
  · exact (w19 hw)
  · exact (w20 hw)
  · exact (w21 hw)
  · exact (w22 hw)
  · exact (w23 hw)
theorem ef_s_cod (m : MethodId) (x0 : Addr) : entryFrame m #[(.ref x0)] 1 = mkF m 0 #[.val (.ref x0)] [] := by first | (simp [entryFrame, mkF, argsToLocals, Value.category]; done) | rfl
abbrev b_s_cod : Bdy := ((⟨"java/lang/String", "coder", "()B"⟩ : MethodName), jdk_42_method_152_code, 1, (Option.some Jvm.ClassFile.FieldType.byte), ({ frames := 0, cells := 0, slots := 0, locals := 0 } : Room))
def Q_s_cod (Z : State) (N : Nat) (a : Addr) (cs : Int32) (h0 : Heap) (I : Lts) (v : Option Value) (h : Heap) (J : Lts) : Prop := I = J ∧ v = some (.int (0 : Int32)) ∧ h0 = h
set_option maxRecDepth 65536 in
set_option maxHeartbeats 40000000 in
theorem rm_s_cod {l : Launch} {Z : State} {a0 : Array Value} {N : Nat} (hw : ∀ d ∈ tables_1, d.before a0 Z = true) (a : Addr) (cs : Int32) (h0 : Heap) (I : Lts) (P0 : Sta Z Z.heap "java/lang/String" "COMPACT_STRINGS" "Z" (.int cs)) (G_cs : ¬ cs = (0 : Int32)) (P2 : Fld Z h0 a "java/lang/String" "coder" "B" (.int (0 : Int32))) :
    Cn l Z N b_s_cod #[(.ref a)] h0 I (Q_s_cod Z N a cs h0 I) := by
  refine Cn.of_wk (Ls := #[.val (.ref a)]) (plainFor_of_name (by first | (simp [plainName, overriddenIn]; done) | decide +kernel)) (fun m => ef_s_cod m a) ?_
  refine Wk.getS (a0 := a0) (pc' := 3) (host := "") (Or.inl (w39 hw)) Via.refl P0 d7_0 rfl ?_
  refine Wk.if_eqN (pc' := 6) d7_3 rfl G_cs ?_
  refine Wk.aloadN (pc' := 7) d7_6 rfl rfl rfl ?_
  refine Wk.getF (a0 := a0) (pc' := 10) (host := "") (Or.inl (w25 hw)) Via.refl P2 d7_7 rfl ?_
  refine Wk.goto (pc' := 14) d7_10 (by decide) ?_
  exact Wk.zreturn rfl (by simp) d7_14 (Nat.le_of_ble_eq_true rfl) (Nat.le_of_ble_eq_true rfl) ⟨rfl, rfl, rfl⟩
theorem ef_s_len (m : MethodId) (x0 : Addr) : entryFrame m #[(.ref x0)] 1 = mkF m 0 #[.val (.ref x0)] [] := by first | (simp [entryFrame, mkF, argsToLocals, Value.category]; done) | rfl
abbrev b_s_len : Bdy := ((⟨"java/lang/String", "length", "()I"⟩ : MethodName), jdk_42_method_54_code, 1, (Option.some Jvm.ClassFile.FieldType.int), ({ frames := 1, cells := 0, slots := 0, locals := 13 } : Room))
def Q_s_len (Z : State) (N : Nat) (a : Addr) (v' : Addr) (q : ClassId) (cl : List Int32) (cs : Int32) (h0 : Heap) (I : Lts) (v : Option Value) (h : Heap) (J : Lts) : Prop := I = J ∧ v = some (.int (Int32.ofNat cl.length)) ∧ h0 = h
set_option maxRecDepth 65536 in
set_option maxHeartbeats 40000000 in
theorem rm_s_len {l : Launch} {Z : State} {a0 : Array Value} {N : Nat} (hw : ∀ d ∈ tables_1, d.before a0 Z = true) (a : Addr) (v' : Addr) (q : ClassId) (cl : List Int32) (cs : Int32) (h0 : Heap) (I : Lts) (P0 : Sta Z Z.heap "java/lang/String" "COMPACT_STRINGS" "Z" (.int cs)) (G_cs : ¬ cs = (0 : Int32)) (P2 : Exa Z h0 a "java/lang/String") (P3 : Fld Z h0 a "java/lang/String" "value" "[B" (.ref v')) (P4 : Fld Z h0 a "java/lang/String" "coder" "B" (.int (0 : Int32))) (P5 : Arv Z h0 v' q .byte (Int32.ofNat cl.length) (cl.map own_by) (.int (0 : Int32))) :
    Cn l Z N b_s_len #[(.ref a)] h0 I (Q_s_len Z N a v' q cl cs h0 I) := by
  refine Cn.of_wk (Ls := #[.val (.ref a)]) (plainFor_of_name (by first | (simp [plainName, overriddenIn]; done) | decide +kernel)) (fun m => ef_s_len m a) ?_
  refine Wk.aloadN (pc' := 1) d6_0 rfl rfl rfl ?_
  refine Wk.getF (a0 := a0) (pc' := 4) (host := "") (Or.inl (w24 hw)) Via.refl P3 d6_1 rfl ?_
  refine Wk.arraylength (pc' := 5) P5 d6_4 rfl ?_
  refine Wk.aloadN (pc' := 6) d6_5 rfl rfl rfl ?_
  refine Wk.callV (a0 := a0) (pc' := 9) (k' := 0) (n' := 0) (W := 1) (b := b_s_cod) (argsL := []) (rest := [(.int (Int32.ofNat cl.length))]) (y := (⟨"java/lang/String", "coder", "()B"⟩ : MethodName)) (rm_s_cod hw a cs h0 I P0 G_cs P4) P2 (w34 hw) (w35 hw) (w37 hw) (w37 hw) (w36 hw) (w7 hw) (w38 hw) (by decide) (Nat.le_refl _) id (Nat.le_of_ble_eq_true rfl) (Nat.le_of_ble_eq_true rfl) rfl rfl (Nat.le_of_ble_eq_true rfl) (Nat.le_of_ble_eq_true rfl) rfl pd0 rfl rfl rfl (Nat.le_of_ble_eq_true rfl) d6_6 rfl fun v1 h2 J3 hs4 hQ5 => ?_
  obtain ⟨rfl, rfl, rfl⟩ := hQ5
  show Wk _ h0 0 0 I 9 #[.val (.ref a)] [(.int (0 : Int32)), (.int (Int32.ofNat cl.length))]
  refine Wk.ishr (pc' := 10) d6_9 rfl ?_
  exact Wk.ireturn rfl d6_10 (Nat.le_of_ble_eq_true rfl) (Nat.le_of_ble_eq_true rfl) ⟨rfl, (by rw [own_shr0]), rfl⟩
theorem ef_s_lat (m : MethodId) (x0 : Addr) : entryFrame m #[(.ref x0)] 1 = mkF m 0 #[.val (.ref x0)] [] := by first | (simp [entryFrame, mkF, argsToLocals, Value.category]; done) | rfl
abbrev b_s_lat : Bdy := ((⟨"java/lang/String", "isLatin1", "()Z"⟩ : MethodName), jdk_42_method_154_code, 1, (Option.some Jvm.ClassFile.FieldType.boolean), ({ frames := 0, cells := 0, slots := 0, locals := 0 } : Room))
def Q_s_lat (Z : State) (N : Nat) (a : Addr) (cs : Int32) (h0 : Heap) (I : Lts) (v : Option Value) (h : Heap) (J : Lts) : Prop := I = J ∧ v = some (.int (1 : Int32)) ∧ h0 = h
set_option maxRecDepth 65536 in
set_option maxHeartbeats 40000000 in
theorem rm_s_lat {l : Launch} {Z : State} {a0 : Array Value} {N : Nat} (hw : ∀ d ∈ tables_1, d.before a0 Z = true) (a : Addr) (cs : Int32) (h0 : Heap) (I : Lts) (P0 : Sta Z Z.heap "java/lang/String" "COMPACT_STRINGS" "Z" (.int cs)) (G_cs : ¬ cs = (0 : Int32)) (P2 : Fld Z h0 a "java/lang/String" "coder" "B" (.int (0 : Int32))) :
    Cn l Z N b_s_lat #[(.ref a)] h0 I (Q_s_lat Z N a cs h0 I) := by
  refine Cn.of_wk (Ls := #[.val (.ref a)]) (plainFor_of_name (by first | (simp [plainName, overriddenIn]; done) | decide +kernel)) (fun m => ef_s_lat m a) ?_
  refine Wk.getS (a0 := a0) (pc' := 3) (host := "") (Or.inl (w39 hw)) Via.refl P0 d19_0 rfl ?_
  refine Wk.if_eqN (pc' := 6) d19_3 rfl G_cs ?_
  refine Wk.aloadN (pc' := 7) d19_6 rfl rfl rfl ?_
  refine Wk.getF (a0 := a0) (pc' := 10) (host := "") (Or.inl (w25 hw)) Via.refl P2 d19_7 rfl ?_
  refine Wk.if_neN (pc' := 13) d19_10 rfl rfl ?_
  refine Wk.iconst (pc' := 14) (v := 1) d19_13 rfl rfl ?_
  refine Wk.goto (pc' := 18) d19_14 (by decide) ?_
  exact Wk.zreturn rfl (by simp) d19_18 (Nat.le_of_ble_eq_true rfl) (Nat.le_of_ble_eq_true rfl) ⟨rfl, rfl, rfl⟩
theorem ef_s_chk (m : MethodId) (x0 : Int32) (x1 : Int32) (x2 : Value) (r2 : x2.isRef = true) : entryFrame m #[(.int x0), (.int x1), x2] 3 = mkF m 0 #[.val (.int x0), .val (.int x1), .val x2] [] := by
  cases x2 <;> first | (simp [Value.isRef] at r2; done) | (simp [entryFrame, mkF, argsToLocals, Value.category]; done) | rfl
abbrev b_s_chk : Bdy := ((⟨"jdk/internal/util/Preconditions", "checkIndex", "(IILjava/util/function/BiFunction;)I"⟩ : MethodName), jdk_41_method_11_code, 3, (Option.some Jvm.ClassFile.FieldType.int), ({ frames := 0, cells := 0, slots := 0, locals := 0 } : Room))
def Q_s_chk (Z : State) (N : Nat) (i : Int32) (n : Int32) (sf : Value) (h0 : Heap) (I : Lts) (v : Option Value) (h : Heap) (J : Lts) : Prop := I = J ∧ v = some (.int i) ∧ h0 = h
set_option maxRecDepth 65536 in
set_option maxHeartbeats 40000000 in
theorem rm_s_chk {l : Launch} {Z : State} {a0 : Array Value} {N : Nat} (hw : ∀ d ∈ tables_1, d.before a0 Z = true) (i : Int32) (n : Int32) (sf : Value) (h0 : Heap) (I : Lts) (G_sf : sf.isRef = true) (h1 : ¬ i < (0 : Int32)) (h2 : i < n) :
    Cn l Z N b_s_chk #[(.int i), (.int n), sf] h0 I (Q_s_chk Z N i n sf h0 I) := by
  refine Cn.of_wk (Ls := #[.val (.int i), .val (.int n), .val sf]) (plainFor_of_name (by first | (simp [plainName, overriddenIn]; done) | decide +kernel)) (fun m => ef_s_chk m i n sf G_sf) ?_
  refine Wk.iloadN (pc' := 1) d22_0 rfl rfl ?_
  refine Wk.if_ltN (pc' := 4) d22_1 rfl h1 ?_
  refine Wk.iloadN (pc' := 5) d22_4 rfl rfl ?_
  refine Wk.iloadN (pc' := 6) d22_5 rfl rfl ?_
  refine Wk.icmp_ltY (pc' := 16) d22_6 (by decide) h2 ?_
  refine Wk.iloadN (pc' := 17) d22_16 rfl rfl ?_
  exact Wk.ireturn rfl d22_17 (Nat.le_of_ble_eq_true rfl) (Nat.le_of_ble_eq_true rfl) ⟨rfl, rfl, rfl⟩
theorem ef_s_chk2 (m : MethodId) (x0 : Int32) (x1 : Int32) : entryFrame m #[(.int x0), (.int x1)] 2 = mkF m 0 #[.val (.int x0), .val (.int x1)] [] := by first | (simp [entryFrame, mkF, argsToLocals, Value.category]; done) | rfl
abbrev b_s_chk2 : Bdy := ((⟨"java/lang/String", "checkIndex", "(II)V"⟩ : MethodName), jdk_42_method_155_code, 2, (Option.none : Option Jvm.ClassFile.FieldType), ({ frames := 1, cells := 0, slots := 0, locals := 14 } : Room))
def Q_s_chk2 (Z : State) (N : Nat) (i : Int32) (n : Int32) (sf : Value) (h0 : Heap) (I : Lts) (v : Option Value) (h : Heap) (J : Lts) : Prop := I = J ∧ v = none ∧ h0 = h
set_option maxRecDepth 65536 in
set_option maxHeartbeats 40000000 in
theorem rm_s_chk2 {l : Launch} {Z : State} {a0 : Array Value} {N : Nat} (hw : ∀ d ∈ tables_1, d.before a0 Z = true) (i : Int32) (n : Int32) (sf : Value) (h0 : Heap) (I : Lts) (P0 : Sta Z Z.heap "jdk/internal/util/Preconditions" "SIOOBE_FORMATTER" "Ljava/util/function/BiFunction;" sf) (G_sf : sf.isRef = true) (h1 : ¬ i < (0 : Int32)) (h2 : i < n) :
    Cn l Z N b_s_chk2 #[(.int i), (.int n)] h0 I (Q_s_chk2 Z N i n sf h0 I) := by
  refine Cn.of_wk (Ls := #[.val (.int i), .val (.int n)]) (plainFor_of_name (by first | (simp [plainName, overriddenIn]; done) | decide +kernel)) (fun m => ef_s_chk2 m i n) ?_
  refine Wk.iloadN (pc' := 1) d21_0 rfl rfl ?_
  refine Wk.iloadN (pc' := 2) d21_1 rfl rfl ?_
  refine Wk.getS (a0 := a0) (pc' := 5) (host := "") (Or.inl (w115 hw)) Via.refl P0 d21_2 rfl ?_
  refine Wk.callS (a0 := a0) (pc' := 8) (k' := 0) (n' := 0) (W := 0) (b := b_s_chk) (argsL := [(.int i), (.int n), sf]) (rest := []) (rm_s_chk hw i n sf h0 I G_sf h1 h2) (w117 hw) (w118 hw) (w116 hw) (w119 hw) (by decide) (Nat.le_refl _) id (Nat.le_of_ble_eq_true rfl) (Nat.le_of_ble_eq_true rfl) rfl rfl (Nat.le_of_ble_eq_true rfl) (Nat.le_of_ble_eq_true rfl) rfl pd1 rfl rfl rfl (Nat.le_of_ble_eq_true rfl) d21_5 rfl fun v1 h2 J3 hs4 hQ5 => ?_
  obtain ⟨rfl, rfl, rfl⟩ := hQ5
  show Wk _ h0 0 0 I 8 #[.val (.int i), .val (.int n)] [(.int i)]
  refine Wk.pop (pc' := 9) d21_8 rfl rfl ?_
  exact Wk.return_ rfl d21_9 (Nat.le_of_ble_eq_true rfl) (Nat.le_of_ble_eq_true rfl) ⟨rfl, rfl, rfl⟩
theorem ef_s_cha (m : MethodId) (x0 : Addr) (x1 : Int32) : entryFrame m #[(.ref x0), (.int x1)] 2 = mkF m 0 #[.val (.ref x0), .val (.int x1)] [] := by first | (simp [entryFrame, mkF, argsToLocals, Value.category]; done) | rfl
abbrev b_s_cha : Bdy := ((⟨"java/lang/StringLatin1", "charAt", "([BI)C"⟩ : MethodName), jdk_43_method_2_code, 2, (Option.some Jvm.ClassFile.FieldType.char), ({ frames := 2, cells := 0, slots := 0, locals := 27 } : Room))
def Q_s_cha (Z : State) (N : Nat) (v' : Addr) (q : ClassId) (cl : List Int32) (i : Nat) (sf : Value) (h0 : Heap) (I : Lts) (v : Option Value) (h : Heap) (J : Lts) : Prop := I = J ∧ v = some (.int (cl.getD i 0)) ∧ h0 = h
set_option maxRecDepth 65536 in
set_option maxHeartbeats 40000000 in
theorem rm_s_cha {l : Launch} {Z : State} {a0 : Array Value} {N : Nat} (hw : ∀ d ∈ tables_1, d.before a0 Z = true) (v' : Addr) (q : ClassId) (cl : List Int32) (i : Nat) (sf : Value) (h0 : Heap) (I : Lts) (P0 : Sta Z Z.heap "jdk/internal/util/Preconditions" "SIOOBE_FORMATTER" "Ljava/util/function/BiFunction;" sf) (G_sf : sf.isRef = true) (P2 : Arv Z h0 v' q .byte (Int32.ofNat cl.length) (cl.map own_by) (.int (0 : Int32))) (hi : i < cl.length) (hn : cl.length < 2147483648) (hL : own_L cl) :
    Cn l Z N b_s_cha #[(.ref v'), (.int (Int32.ofNat i))] h0 I (Q_s_cha Z N v' q cl i sf h0 I) := by
  refine Cn.of_wk (Ls := #[.val (.ref v'), .val (.int (Int32.ofNat i))]) (plainFor_of_name (by first | (simp [plainName, overriddenIn]; done) | decide +kernel)) (fun m => ef_s_cha m v' (Int32.ofNat i)) ?_
  refine Wk.iloadN (pc' := 1) d20_0 rfl rfl ?_
  refine Wk.aloadN (pc' := 2) d20_1 rfl rfl rfl ?_
  refine Wk.arraylength (pc' := 3) P2 d20_2 rfl ?_
  refine Wk.callS (a0 := a0) (pc' := 6) (k' := 0) (n' := 0) (W := 0) (b := b_s_chk2) (argsL := [(.int (Int32.ofNat i)), (.int (Int32.ofNat cl.length))]) (rest := []) (rm_s_chk2 hw (Int32.ofNat i) (Int32.ofNat cl.length) sf h0 I P0 G_sf (own_idx hi hn).1 (own_idx hi hn).2) (w112 hw) (w113 hw) (w7 hw) (w114 hw) (by decide) (Nat.le_refl _) id (Nat.le_of_ble_eq_true rfl) (Nat.le_of_ble_eq_true rfl) rfl rfl (Nat.le_of_ble_eq_true rfl) (Nat.le_of_ble_eq_true rfl) rfl pd2 rfl rfl rfl (Nat.le_of_ble_eq_true rfl) d20_3 rfl fun v1 h2 J3 hs4 hQ5 => ?_
  obtain ⟨rfl, rfl, rfl⟩ := hQ5
  show Wk _ h0 0 0 I 6 #[.val (.ref v'), .val (.int (Int32.ofNat i))] []
  refine Wk.aloadN (pc' := 7) d20_6 rfl rfl rfl ?_
  refine Wk.iloadN (pc' := 8) d20_7 rfl rfl ?_
  refine Wk.baload (pc' := 9) (v := (.int (own_b8 (cl.getD i 0)))) P2 (own_idx hi hn) (by rw [own_clamp (by omega)]; exact own_getb cl i) d20_8 rfl ?_
  refine Wk.sipush (pc' := 12) (v := 255) d20_9 rfl rfl ?_
  refine Wk.iand (pc' := 13) d20_12 rfl ?_
  refine Wk.i2c (pc' := 14) d20_13 rfl ?_
  exact Wk.zreturn rfl (by simp) d20_14 (Nat.le_of_ble_eq_true rfl) (Nat.le_of_ble_eq_true rfl) ⟨rfl, (by rw [own_cb (own_Lget hL i)]), rfl⟩
theorem ef_s_chr (m : MethodId) (x0 : Addr) (x1 : Int32) : entryFrame m #[(.ref x0), (.int x1)] 2 = mkF m 0 #[.val (.ref x0), .val (.int x1)] [] := by first | (simp [entryFrame, mkF, argsToLocals, Value.category]; done) | rfl
abbrev b_s_chr : Bdy := ((⟨"java/lang/String", "charAt", "(I)C"⟩ : MethodName), jdk_42_method_56_code, 2, (Option.some Jvm.ClassFile.FieldType.char), ({ frames := 3, cells := 0, slots := 0, locals := 40 } : Room))
def Q_s_chr (Z : State) (N : Nat) (a : Addr) (v' : Addr) (q : ClassId) (cl : List Int32) (i : Nat) (sf : Value) (cs : Int32) (h0 : Heap) (I : Lts) (v : Option Value) (h : Heap) (J : Lts) : Prop := I = J ∧ v = some (.int (cl.getD i 0)) ∧ h0 = h
set_option maxRecDepth 65536 in
set_option maxHeartbeats 40000000 in
theorem rm_s_chr {l : Launch} {Z : State} {a0 : Array Value} {N : Nat} (hw : ∀ d ∈ tables_1, d.before a0 Z = true) (a : Addr) (v' : Addr) (q : ClassId) (cl : List Int32) (i : Nat) (sf : Value) (cs : Int32) (h0 : Heap) (I : Lts) (P0 : Sta Z Z.heap "java/lang/String" "COMPACT_STRINGS" "Z" (.int cs)) (G_cs : ¬ cs = (0 : Int32)) (P2 : Sta Z Z.heap "jdk/internal/util/Preconditions" "SIOOBE_FORMATTER" "Ljava/util/function/BiFunction;" sf) (G_sf : sf.isRef = true) (P4 : Exa Z h0 a "java/lang/String") (P5 : Fld Z h0 a "java/lang/String" "value" "[B" (.ref v')) (P6 : Fld Z h0 a "java/lang/String" "coder" "B" (.int (0 : Int32))) (P7 : Arv Z h0 v' q .byte (Int32.ofNat cl.length) (cl.map own_by) (.int (0 : Int32))) (hi : i < cl.length) (hn : cl.length < 2147483648) (hL : own_L cl) :
    Cn l Z N b_s_chr #[(.ref a), (.int (Int32.ofNat i))] h0 I (Q_s_chr Z N a v' q cl i sf cs h0 I) := by
  refine Cn.of_wk (Ls := #[.val (.ref a), .val (.int (Int32.ofNat i))]) (plainFor_of_name (by first | (simp [plainName, overriddenIn]; done) | decide +kernel)) (fun m => ef_s_chr m a (Int32.ofNat i)) ?_
  refine Wk.aloadN (pc' := 1) d18_0 rfl rfl rfl ?_
  refine Wk.callV (a0 := a0) (pc' := 4) (k' := 0) (n' := 0) (W := 0) (b := b_s_lat) (argsL := []) (rest := []) (y := (⟨"java/lang/String", "isLatin1", "()Z"⟩ : MethodName)) (rm_s_lat hw a cs h0 I P0 G_cs P6) P4 (w104 hw) (w105 hw) (w107 hw) (w107 hw) (w106 hw) (w7 hw) (w108 hw) (by decide) (Nat.le_refl _) id (Nat.le_of_ble_eq_true rfl) (Nat.le_of_ble_eq_true rfl) rfl rfl (Nat.le_of_ble_eq_true rfl) (Nat.le_of_ble_eq_true rfl) rfl pd3 rfl rfl rfl (Nat.le_of_ble_eq_true rfl) d18_1 rfl fun v1 h2 J3 hs4 hQ5 => ?_
  obtain ⟨rfl, rfl, rfl⟩ := hQ5
  show Wk _ h0 0 0 I 4 #[.val (.ref a), .val (.int (Int32.ofNat i))] [(.int (1 : Int32))]
  refine Wk.if_eqN (pc' := 7) d18_4 rfl (by decide) ?_
  refine Wk.aloadN (pc' := 8) d18_7 rfl rfl rfl ?_
  refine Wk.getF (a0 := a0) (pc' := 11) (host := "") (Or.inl (w24 hw)) Via.refl P5 d18_8 rfl ?_
  refine Wk.iloadN (pc' := 12) d18_11 rfl rfl ?_
  refine Wk.callS (a0 := a0) (pc' := 15) (k' := 0) (n' := 0) (W := 0) (b := b_s_cha) (argsL := [(.ref v'), (.int (Int32.ofNat i))]) (rest := []) (rm_s_cha hw v' q cl i sf h0 I P2 G_sf P7 hi hn hL) (w109 hw) (w110 hw) (w74 hw) (w111 hw) (by decide) (Nat.le_refl _) id (Nat.le_of_ble_eq_true rfl) (Nat.le_of_ble_eq_true rfl) rfl rfl (Nat.le_of_ble_eq_true rfl) (Nat.le_of_ble_eq_true rfl) rfl pd4 rfl rfl rfl (Nat.le_of_ble_eq_true rfl) d18_12 rfl fun v6 h7 J8 hs9 hQ10 => ?_
  obtain ⟨rfl, rfl, rfl⟩ := hQ10
  show Wk _ h0 0 0 I 15 #[.val (.ref a), .val (.int (Int32.ofNat i))] [(.int (cl.getD i 0))]
  exact Wk.zreturn rfl (by simp) d18_15 (Nat.le_of_ble_eq_true rfl) (Nat.le_of_ble_eq_true rfl) ⟨rfl, (by rw [own_nc (own_Lget hL i)]), rfl⟩
theorem ef_s_eqb (m : MethodId) (x0 : Addr) (x1 : Addr) : entryFrame m #[(.ref x0), (.ref x1)] 3 = mkF m 0 #[.val (.ref x0), .val (.ref x1), .unset] [] := by first | (simp [entryFrame, mkF, argsToLocals, Value.category]; done) | rfl
abbrev b_s_eqb : Bdy := ((⟨"java/lang/StringLatin1", "equals", "([B[B)Z"⟩ : MethodName), jdk_43_method_13_code, 3, (Option.some Jvm.ClassFile.FieldType.boolean), ({ frames := 0, cells := 0, slots := 0, locals := 0 } : Room))
def Q_s_eqb (Z : State) (N : Nat) (va : Addr) (vb : Addr) (qa : ClassId) (qb : ClassId) (ca : List Int32) (cb : List Int32) (h0 : Heap) (I : Lts) (v : Option Value) (h : Heap) (J : Lts) : Prop := I = J ∧ v = some (.int (own_bi (decide (ca = cb)))) ∧ h0 = h
set_option maxRecDepth 65536 in
set_option maxHeartbeats 40000000 in
theorem rm_s_eqb {l : Launch} {Z : State} {a0 : Array Value} {N : Nat} (hw : ∀ d ∈ tables_1, d.before a0 Z = true) (va : Addr) (vb : Addr) (qa : ClassId) (qb : ClassId) (ca : List Int32) (cb : List Int32) (h0 : Heap) (I : Lts) (P0 : Arv Z h0 va qa .byte (Int32.ofNat ca.length) (ca.map own_by) (.int (0 : Int32))) (P1 : Arv Z h0 vb qb .byte (Int32.ofNat cb.length) (cb.map own_by) (.int (0 : Int32))) (na : ca.length < 2147483647) (nb : cb.length < 2147483647) (La : own_L ca) (Lb : own_L cb) :
    Cn l Z N b_s_eqb #[(.ref va), (.ref vb)] h0 I (Q_s_eqb Z N va vb qa qb ca cb h0 I) := by
  refine Cn.of_wk (Ls := #[.val (.ref va), .val (.ref vb), .unset]) (plainFor_of_name (by first | (simp [plainName, overriddenIn]; done) | decide +kernel)) (fun m => ef_s_eqb m va vb) ?_
  by_cases hl : ca.length = cb.length
  · skip
    refine Wk.aloadN (pc' := 1) d12_0 rfl rfl rfl ?_
    refine Wk.arraylength (pc' := 2) P0 d12_1 rfl ?_
    refine Wk.aloadN (pc' := 3) d12_2 rfl rfl rfl ?_
    refine Wk.arraylength (pc' := 4) P1 d12_3 rfl ?_
    refine Wk.icmp_neN (pc' := 7) d12_4 rfl (by rw [hl]) ?_
    refine Wk.iconst (pc' := 8) (v := 0) d12_7 rfl rfl ?_
    refine Wk.istoreN (pc' := 9) #[.val (.ref va), .val (.ref vb), .val (.int (0 : Int32))] d12_8 rfl rfl ?_
    suffices loop : ∀ (d : Nat) (i : Nat), (i + d = ca.length) → (∀ j, j < i → ca.getD j 0 = cb.getD j 0) → Wk (l, Z, N, h0.size, b_s_eqb, Q_s_eqb Z N va vb qa qb ca cb h0 I) h0 0 0 I 9 #[.val (.ref va), .val (.ref vb), .val (.int (Int32.ofNat i))] [] by
      exact loop ca.length 0 (by omega) (fun j q => absurd q (Nat.not_lt_zero j))
    intro d
    induction d with
    | zero =>
      intro i hi hj
      refine Wk.iloadN (pc' := 10) d12_9 rfl rfl ?_
      refine Wk.aloadN (pc' := 11) d12_10 rfl rfl rfl ?_
      refine Wk.arraylength (pc' := 12) P0 d12_11 rfl ?_
      refine Wk.icmp_geY (pc' := 32) d12_12 (by decide) (mt (own_lt (by omega) (by omega)).mp (by omega)) ?_
      refine Wk.iconst (pc' := 33) (v := 1) d12_32 rfl rfl ?_
      exact Wk.zreturn rfl (by simp) d12_33 (Nat.le_of_ble_eq_true rfl) (Nat.le_of_ble_eq_true rfl) ⟨rfl, (by rw [decide_eq_true (own_eqx hl (fun j q => hj j (by omega)))]; rfl), rfl⟩
    | succ d ih =>
      intro i hi hj
      refine Wk.iloadN (pc' := 10) d12_9 rfl rfl ?_
      refine Wk.aloadN (pc' := 11) d12_10 rfl rfl rfl ?_
      refine Wk.arraylength (pc' := 12) P0 d12_11 rfl ?_
      refine Wk.icmp_geN (pc' := 15) d12_12 rfl ((own_lt (by omega) (by omega)).mpr (by omega)) ?_
      refine Wk.aloadN (pc' := 16) d12_15 rfl rfl rfl ?_
      refine Wk.iloadN (pc' := 17) d12_16 rfl rfl ?_
      refine Wk.baload (pc' := 18) (v := (.int (own_b8 (ca.getD i 0)))) P0 (own_in (by omega) (by omega)) (by rw [own_clamp (by omega)]; exact own_getb ca i) d12_17 rfl ?_
      refine Wk.aloadN (pc' := 19) d12_18 rfl rfl rfl ?_
      refine Wk.iloadN (pc' := 20) d12_19 rfl rfl ?_
      refine Wk.baload (pc' := 21) (v := (.int (own_b8 (cb.getD i 0)))) P1 (by rw [← hl]; exact own_in (by omega) (by omega)) (by rw [own_clamp (by omega)]; exact own_getb cb i) d12_20 rfl ?_
      by_cases c21_1 : (own_b8 (ca.getD i 0)) = (own_b8 (cb.getD i 0))
      · refine Wk.icmp_eqY (pc' := 26) d12_21 (by decide) c21_1 ?_
        refine Wk.iinc (pc' := 29) (v := 1) (Ls' := #[.val (.ref va), .val (.ref vb), .val (.int ((Int32.ofNat i) + (1 : Int32)))]) d12_26 rfl rfl rfl rfl ?_
        rw [own_succ (by omega)]
        refine Wk.goto (pc' := 9) d12_29 (by decide) ?_
        exact ih (i + 1) (by omega) (fun j q => by
          by_cases e : j = i
          · subst e; exact own_b8inj (own_Lget La _) (own_Lget Lb _) c21_1
          · exact hj j (by omega))
      · refine Wk.icmp_eqN (pc' := 24) d12_21 rfl c21_1 ?_
        refine Wk.iconst (pc' := 25) (v := 0) d12_24 rfl rfl ?_
        exact Wk.zreturn rfl (by simp) d12_25 (Nat.le_of_ble_eq_true rfl) (Nat.le_of_ble_eq_true rfl) ⟨rfl, (by rw [decide_eq_false (fun q => c21_1 (by rw [q]))]; rfl), rfl⟩
  · skip
    refine Wk.aloadN (pc' := 1) d12_0 rfl rfl rfl ?_
    refine Wk.arraylength (pc' := 2) P0 d12_1 rfl ?_
    refine Wk.aloadN (pc' := 3) d12_2 rfl rfl rfl ?_
    refine Wk.arraylength (pc' := 4) P1 d12_3 rfl ?_
    refine Wk.icmp_neY (pc' := 34) d12_4 (by decide) (mt (own_eq (by omega) (by omega)).mp hl) ?_
    refine Wk.iconst (pc' := 35) (v := 0) d12_34 rfl rfl ?_
    exact Wk.zreturn rfl (by simp) d12_35 (Nat.le_of_ble_eq_true rfl) (Nat.le_of_ble_eq_true rfl) ⟨rfl, (by rw [decide_eq_false (fun q => hl (by rw [q]))]; rfl), rfl⟩
theorem ef_s_equ (m : MethodId) (x0 : Addr) (x1 : Addr) : entryFrame m #[(.ref x0), (.ref x1)] 3 = mkF m 0 #[.val (.ref x0), .val (.ref x1), .unset] [] := by first | (simp [entryFrame, mkF, argsToLocals, Value.category]; done) | rfl
abbrev b_s_equ : Bdy := ((⟨"java/lang/String", "equals", "(Ljava/lang/Object;)Z"⟩ : MethodName), jdk_42_method_66_code, 3, (Option.some Jvm.ClassFile.FieldType.boolean), ({ frames := 1, cells := 0, slots := 0, locals := 14 } : Room))
def Q_s_equ (Z : State) (N : Nat) (a : Addr) (b : Addr) (va : Addr) (vb : Addr) (qa : ClassId) (qb : ClassId) (ca : List Int32) (cb : List Int32) (cs : Int32) (h0 : Heap) (I : Lts) (v : Option Value) (h : Heap) (J : Lts) : Prop := I = J ∧ v = some (.int (own_bi (decide (ca = cb)))) ∧ h0 = h
set_option maxRecDepth 65536 in
set_option maxHeartbeats 40000000 in
theorem rm_s_equ {l : Launch} {Z : State} {a0 : Array Value} {N : Nat} (hw : ∀ d ∈ tables_1, d.before a0 Z = true) (a : Addr) (b : Addr) (va : Addr) (vb : Addr) (qa : ClassId) (qb : ClassId) (ca : List Int32) (cb : List Int32) (cs : Int32) (h0 : Heap) (I : Lts) (P0 : Sta Z Z.heap "java/lang/String" "COMPACT_STRINGS" "Z" (.int cs)) (G_cs : ¬ cs = (0 : Int32)) (P2 : a ≠ b) (P3 : Exa Z h0 a "java/lang/String") (P4 : Fld Z h0 a "java/lang/String" "value" "[B" (.ref va)) (P5 : Fld Z h0 a "java/lang/String" "coder" "B" (.int (0 : Int32))) (P6 : Arv Z h0 va qa .byte (Int32.ofNat ca.length) (ca.map own_by) (.int (0 : Int32))) (P7 : Exa Z h0 b "java/lang/String") (P8 : Fld Z h0 b "java/lang/String" "value" "[B" (.ref vb)) (P9 : Fld Z h0 b "java/lang/String" "coder" "B" (.int (0 : Int32))) (P10 : Arv Z h0 vb qb .byte (Int32.ofNat cb.length) (cb.map own_by) (.int (0 : Int32))) (na : ca.length < 2147483647) (nb : cb.length < 2147483647) (La : own_L ca) (Lb : own_L cb) :
    Cn l Z N b_s_equ #[(.ref a), (.ref b)] h0 I (Q_s_equ Z N a b va vb qa qb ca cb cs h0 I) := by
  refine Cn.of_wk (Ls := #[.val (.ref a), .val (.ref b), .unset]) (plainFor_of_name (by first | (simp [plainName, overriddenIn]; done) | decide +kernel)) (fun m => ef_s_equ m a b) ?_
  refine Wk.aloadN (pc' := 1) d11_0 rfl rfl rfl ?_
  refine Wk.aloadN (pc' := 2) d11_1 rfl rfl rfl ?_
  refine Wk.acmp (pc' := 7) (same := false) d11_2 rfl rfl (decide_eq_false fun q => P2 (Value.ref.inj q)) (by decide) (by decide) ?_
  refine Wk.aloadN (pc' := 8) d11_7 rfl rfl rfl ?_
  refine Wk.instY (a0 := a0) (pc' := 11) (w71 hw) (Ins.self P7) d11_8 rfl ?_
  refine Wk.if_eqN (pc' := 14) d11_11 rfl (by decide) ?_
  refine Wk.aloadN (pc' := 15) d11_14 rfl rfl rfl ?_
  refine Wk.castY (a0 := a0) (pc' := 18) (w71 hw) (Ins.self P7) d11_15 rfl ?_
  refine Wk.astoreN (pc' := 19) #[.val (.ref a), .val (.ref b), .val (.ref b)] d11_18 rfl rfl rfl ?_
  refine Wk.getS (a0 := a0) (pc' := 22) (host := "") (Or.inl (w39 hw)) Via.refl P0 d11_19 rfl ?_
  refine Wk.if_eqN (pc' := 25) d11_22 rfl G_cs ?_
  refine Wk.aloadN (pc' := 26) d11_25 rfl rfl rfl ?_
  refine Wk.getF (a0 := a0) (pc' := 29) (host := "") (Or.inl (w25 hw)) Via.refl P5 d11_26 rfl ?_
  refine Wk.aloadN (pc' := 30) d11_29 rfl rfl rfl ?_
  refine Wk.getF (a0 := a0) (pc' := 33) (host := "") (Or.inl (w25 hw)) Via.refl P9 d11_30 rfl ?_
  refine Wk.icmp_neN (pc' := 36) d11_33 rfl rfl ?_
  refine Wk.aloadN (pc' := 37) d11_36 rfl rfl rfl ?_
  refine Wk.getF (a0 := a0) (pc' := 40) (host := "") (Or.inl (w24 hw)) Via.refl P4 d11_37 rfl ?_
  refine Wk.aloadN (pc' := 41) d11_40 rfl rfl rfl ?_
  refine Wk.getF (a0 := a0) (pc' := 44) (host := "") (Or.inl (w24 hw)) Via.refl P8 d11_41 rfl ?_
  refine Wk.callS (a0 := a0) (pc' := 47) (k' := 0) (n' := 0) (W := 0) (b := b_s_eqb) (argsL := [(.ref va), (.ref vb)]) (rest := []) (rm_s_eqb hw va vb qa qb ca cb h0 I P6 P10 na nb La Lb) (w72 hw) (w73 hw) (w74 hw) (w75 hw) (by decide) (Nat.le_refl _) id (Nat.le_of_ble_eq_true rfl) (Nat.le_of_ble_eq_true rfl) rfl rfl (Nat.le_of_ble_eq_true rfl) (Nat.le_of_ble_eq_true rfl) rfl pd5 rfl rfl rfl (Nat.le_of_ble_eq_true rfl) d11_44 rfl fun v1 h2 J3 hs4 hQ5 => ?_
  obtain ⟨rfl, rfl, rfl⟩ := hQ5
  show Wk _ h0 0 0 I 47 #[.val (.ref a), .val (.ref b), .val (.ref b)] [(.int (own_bi (decide (ca = cb))))]
  by_cases c47_6 : (own_bi (decide (ca = cb))) = (0 : Int32)
  · refine Wk.if_eqY (pc' := 54) d11_47 (by decide) c47_6 ?_
    refine Wk.iconst (pc' := 55) (v := 0) d11_54 rfl rfl ?_
    exact Wk.zreturn rfl (by simp) d11_55 (Nat.le_of_ble_eq_true rfl) (Nat.le_of_ble_eq_true rfl) ⟨rfl, (by rw [c47_6]; rfl), rfl⟩
  · refine Wk.if_eqN (pc' := 50) d11_47 rfl c47_6 ?_
    refine Wk.iconst (pc' := 51) (v := 1) d11_50 rfl rfl ?_
    refine Wk.goto (pc' := 55) d11_51 (by decide) ?_
    exact Wk.zreturn rfl (by simp) d11_55 (Nat.le_of_ble_eq_true rfl) (Nat.le_of_ble_eq_true rfl) ⟨rfl, (by rw [show own_bi (decide (ca = cb)) = 1 from by rw [own_bi1 c47_6]; rfl]; rfl), rfl⟩
theorem ef_s_cm5 (m : MethodId) (x0 : Addr) (x1 : Int32) (x2 : Addr) (x3 : Int32) (x4 : Int32) : entryFrame m #[(.ref x0), (.int x1), (.ref x2), (.int x3), (.int x4)] 7 = mkF m 0 #[.val (.ref x0), .val (.int x1), .val (.ref x2), .val (.int x3), .val (.int x4), .unset, .unset] [] := by first | (simp [entryFrame, mkF, argsToLocals, Value.category]; done) | rfl
abbrev b_s_cm5 : Bdy := ((⟨"java/lang/StringUTF16", "compress", "([CI[BII)I"⟩ : MethodName), jdk_52_method_21_code, 7, (Option.some Jvm.ClassFile.FieldType.int), ({ frames := 0, cells := 0, slots := 0, locals := 0 } : Room))
def Q_s_cm5 (Z : State) (N : Nat) (c : Addr) (b : Addr) (q : ClassId) (qb : ClassId) (cl : List Int32) (h0 : Heap) (I : Lts) (v : Option Value) (h : Heap) (J : Lts) : Prop := I = J ∧ v = some (.int (Int32.ofNat cl.length)) ∧ Keep h0 h [b] ∧ Arv Z h b qb .byte (Int32.ofNat cl.length) (cl.map own_by) (.int (0 : Int32))
set_option maxRecDepth 65536 in
set_option maxHeartbeats 40000000 in
theorem rm_s_cm5 {l : Launch} {Z : State} {a0 : Array Value} {N : Nat} (hw : ∀ d ∈ tables_1, d.before a0 Z = true) (c : Addr) (b : Addr) (q : ClassId) (qb : ClassId) (cl : List Int32) (h0 : Heap) (I : Lts) (P0 : Arv Z h0 c q .char (Int32.ofNat cl.length) (cl.map Value.int) (.int (0 : Int32))) (P1 : Arv Z h0 b qb .byte (Int32.ofNat cl.length) (own_fill cl 0) (.int (0 : Int32))) (P2 : N ≤ b) (P3 : c ≠ b) (hn : cl.length < 2147483647) (hL : own_L cl) :
    Cn l Z N b_s_cm5 #[(.ref c), (.int (0 : Int32)), (.ref b), (.int (0 : Int32)), (.int (Int32.ofNat cl.length))] h0 I (Q_s_cm5 Z N c b q qb cl h0 I) := by
  refine Cn.of_wk (Ls := #[.val (.ref c), .val (.int (0 : Int32)), .val (.ref b), .val (.int (0 : Int32)), .val (.int (Int32.ofNat cl.length)), .unset, .unset]) (plainFor_of_name (by first | (simp [plainName, overriddenIn]; done) | decide +kernel)) (fun m => ef_s_cm5 m c (0 : Int32) b (0 : Int32) (Int32.ofNat cl.length)) ?_
  refine Wk.iconst (pc' := 1) (v := 0) d16_0 rfl rfl ?_
  refine Wk.istore (pc' := 3) #[.val (.ref c), .val (.int (0 : Int32)), .val (.ref b), .val (.int (0 : Int32)), .val (.int (Int32.ofNat cl.length)), .val (.int (0 : Int32)), .unset] d16_1 rfl rfl ?_
  have loop : ∀ (d : Nat) (i : Nat) (s6 : Slot) (hX1 : Heap), (Arv Z hX1 b qb .byte (Int32.ofNat cl.length) (own_fill cl i) (.int (0 : Int32))) → (i + d = cl.length) → (s6 = .unset ∨ ∃ z : Int32, s6 = .val (.int z)) → (Keep h0 hX1 [b]) → Wk (l, Z, N, h0.size, b_s_cm5, Q_s_cm5 Z N c b q qb cl h0 I) hX1 0 0 I 3 #[.val (.ref c), .val (.int (Int32.ofNat i)), .val (.ref b), .val (.int (Int32.ofNat i)), .val (.int (Int32.ofNat cl.length)), .val (.int (Int32.ofNat i)), s6] [] := by
    intro d
    induction d with
    | zero =>
      intro i s6 hX1 y2 hi hs6 K3
      refine Wk.iload (pc' := 5) d16_3 rfl rfl ?_
      refine Wk.iload (pc' := 7) d16_5 rfl rfl ?_
      refine Wk.icmp_geY (pc' := 44) d16_7 (by decide) (mt (own_lt (by omega) (by omega)).mp (by omega)) ?_
      have A4 : Arv Z hX1 b qb .byte (Int32.ofNat cl.length) (cl.map own_by) (.int (0 : Int32)) := by
        have q := y2
        rw [show i = cl.length from by omega, own_filln] at q
        exact q
      refine Wk.iload (pc' := 46) d16_44 rfl rfl ?_
      exact Wk.ireturn rfl d16_46 (Nat.le_of_ble_eq_true rfl) (Nat.le_of_ble_eq_true rfl) ⟨rfl, rfl, ((Keep.refl h0 [b]).trans K3 (allS (Or.inl (by simp)) all0)), A4⟩
    | succ d ih =>
      intro i s6 hX1 y2 hi hs6 K3
      refine Wk.iload (pc' := 5) d16_3 rfl rfl ?_
      refine Wk.iload (pc' := 7) d16_5 rfl rfl ?_
      refine Wk.icmp_geN (pc' := 10) d16_7 rfl ((own_lt (by omega) (by omega)).mpr (by omega)) ?_
      refine Wk.aloadN (pc' := 11) d16_10 rfl rfl rfl ?_
      refine Wk.iloadN (pc' := 12) d16_11 rfl rfl ?_
      have f5 := (P0.keep K3 (ninS P3 nin0))
      refine Wk.caload (pc' := 13) (v := (.int (cl.getD i 0))) f5 (own_in (by omega) (by omega)) (by rw [own_clamp (by omega)]; exact own_geti cl i) d16_12 rfl ?_
      refine Wk.istore (pc' := 15) #[.val (.ref c), .val (.int (Int32.ofNat i)), .val (.ref b), .val (.int (Int32.ofNat i)), .val (.int (Int32.ofNat cl.length)), .val (.int (Int32.ofNat i)), .val (.int (cl.getD i 0))] d16_13 rfl (by rcases hs6 with rfl | ⟨z, rfl⟩ <;> rfl) ?_
      refine Wk.iload (pc' := 17) d16_15 rfl rfl ?_
      refine Wk.sipush (pc' := 20) (v := 255) d16_17 rfl rfl ?_
      refine Wk.icmp_leY (pc' := 26) d16_20 (by decide) (own_Lget hL i).2 ?_
      refine Wk.aloadN (pc' := 27) d16_26 rfl rfl rfl ?_
      refine Wk.iloadN (pc' := 28) d16_27 rfl rfl ?_
      refine Wk.iload (pc' := 30) d16_28 rfl rfl ?_
      refine Wk.i2b (pc' := 31) d16_30 rfl ?_
      refine Wk.bastore (pc' := 32) y2 P2 (own_in (by omega) (by omega)) i (own_clamp (by omega)) (by rw [own_fill_len (by omega)]; omega) d16_31 rfl fun h6 W7 A8 => ?_
      have A9 : Arv Z h6 b qb .byte (Int32.ofNat cl.length) (own_fill cl (i + 1)) (.int (0 : Int32)) := by
        rw [← own_fill_set cl i (by omega), show own_by (cl.getD i 0) = .int (nar .byte (own_b8 (cl.getD i 0))) from by rw [own_nb]; rfl]
        exact A8
      refine Wk.iinc (pc' := 35) (v := 1) (Ls' := #[.val (.ref c), .val (.int ((Int32.ofNat i) + (1 : Int32))), .val (.ref b), .val (.int (Int32.ofNat i)), .val (.int (Int32.ofNat cl.length)), .val (.int (Int32.ofNat i)), .val (.int (cl.getD i 0))]) d16_32 rfl rfl rfl rfl ?_
      refine Wk.iinc (pc' := 38) (v := 1) (Ls' := #[.val (.ref c), .val (.int ((Int32.ofNat i) + (1 : Int32))), .val (.ref b), .val (.int ((Int32.ofNat i) + (1 : Int32))), .val (.int (Int32.ofNat cl.length)), .val (.int (Int32.ofNat i)), .val (.int (cl.getD i 0))]) d16_35 rfl rfl rfl rfl ?_
      refine Wk.iinc (pc' := 41) (v := 1) (Ls' := #[.val (.ref c), .val (.int ((Int32.ofNat i) + (1 : Int32))), .val (.ref b), .val (.int ((Int32.ofNat i) + (1 : Int32))), .val (.int (Int32.ofNat cl.length)), .val (.int ((Int32.ofNat i) + (1 : Int32))), .val (.int (cl.getD i 0))]) d16_38 rfl rfl rfl rfl ?_
      rw [own_succ (by omega)]
      refine Wk.goto (pc' := 3) d16_41 (by decide) ?_
      exact ih (i + 1) _ h6 A9 (by omega) (Or.inr ⟨_, rfl⟩) (((Keep.refl h0 [b]).trans K3 (allS (Or.inl (by simp)) all0)).wr W7 (Or.inl (by simp)))
  exact loop cl.length 0 _ h0 P1 (by omega) (Or.inl rfl) (Keep.refl h0 [b])
theorem ef_s_cm3 (m : MethodId) (x0 : Addr) (x1 : Int32) (x2 : Int32) : entryFrame m #[(.ref x0), (.int x1), (.int x2)] 6 = mkF m 0 #[.val (.ref x0), .val (.int x1), .val (.int x2), .unset, .unset, .unset] [] := by first | (simp [entryFrame, mkF, argsToLocals, Value.category]; done) | rfl
abbrev b_s_cm3 : Bdy := ((⟨"java/lang/StringUTF16", "compress", "([CII)[B"⟩ : MethodName), jdk_52_method_16_code, 6, (Option.some (Jvm.ClassFile.FieldType.array Jvm.ClassFile.FieldType.byte)), ({ frames := 1, cells := 1, slots := 8, locals := 18 } : Room))
def Q_s_cm3 (Z : State) (N : Nat) (c : Addr) (q : ClassId) (cl : List Int32) (h0 : Heap) (I : Lts) (v : Option Value) (h : Heap) (J : Lts) : Prop := ∃ b : Addr, ∃ qb : ClassId, I = J ∧ v = some (.ref b) ∧ Ext h0 h ∧ h0.size ≤ b ∧ N ≤ b ∧ Arv Z h b qb .byte (Int32.ofNat cl.length) (cl.map own_by) (.int (0 : Int32))
set_option maxRecDepth 65536 in
set_option maxHeartbeats 40000000 in
theorem rm_s_cm3 {l : Launch} {Z : State} {a0 : Array Value} {N : Nat} (hw : ∀ d ∈ tables_1, d.before a0 Z = true) (c : Addr) (q : ClassId) (cl : List Int32) (h0 : Heap) (I : Lts) (P0 : Arv Z h0 c q .char (Int32.ofNat cl.length) (cl.map Value.int) (.int (0 : Int32))) (hn : cl.length ≤ 8) (hL : own_L cl) :
    Cn l Z N b_s_cm3 #[(.ref c), (.int (0 : Int32)), (.int (Int32.ofNat cl.length))] h0 I (Q_s_cm3 Z N c q cl h0 I) := by
  refine Cn.of_wk (Ls := #[.val (.ref c), .val (.int (0 : Int32)), .val (.int (Int32.ofNat cl.length)), .unset, .unset, .unset]) (plainFor_of_name (by first | (simp [plainName, overriddenIn]; done) | decide +kernel)) (fun m => ef_s_cm3 m c (0 : Int32) (Int32.ofNat cl.length)) ?_
  refine Wk.iloadN (pc' := 1) d15_0 rfl rfl ?_
  refine Wk.newP (a0 := a0) (aty := .byte) (pc' := 3) (k' := 1) (n' := 8) (cap := 8) (w19 hw) d15_1 rfl (own_in (n := 9) (by omega) (by decide)).1 (by rw [own_clamp (by omega)]; exact hn) (by decide) rfl rfl (Nat.le_of_ble_eq_true rfl) (Nat.le_of_ble_eq_true rfl) fun a1 h2 q3 hg4 hN5 E6 A7 => ?_
  have ne8 : c ≠ a1 := Nat.ne_of_lt (Nat.lt_of_lt_of_le P0.lt hg4)
  have A9 : Arv Z h2 a1 q3 .byte (Int32.ofNat cl.length) (own_fill cl 0) (.int (0 : Int32)) := by rw [own_fill0]; exact A7.pad (pad_rep [] _ cl.length)
  refine Wk.astoreN (pc' := 4) #[.val (.ref c), .val (.int (0 : Int32)), .val (.int (Int32.ofNat cl.length)), .val (.ref a1), .unset, .unset] d15_3 rfl rfl rfl ?_
  refine Wk.aloadN (pc' := 5) d15_4 rfl rfl rfl ?_
  refine Wk.iloadN (pc' := 6) d15_5 rfl rfl ?_
  refine Wk.aloadN (pc' := 7) d15_6 rfl rfl rfl ?_
  refine Wk.iconst (pc' := 8) (v := 0) d15_7 rfl rfl ?_
  refine Wk.iloadN (pc' := 9) d15_8 rfl rfl ?_
  have f10 := (P0.ext E6)
  refine Wk.callS (a0 := a0) (pc' := 12) (k' := 1) (n' := 8) (W := 0) (b := b_s_cm5) (argsL := [(.ref c), (.int (0 : Int32)), (.ref a1), (.int (0 : Int32)), (.int (Int32.ofNat cl.length))]) (rest := []) (rm_s_cm5 hw c a1 q q3 cl h2 I f10 A9 hN5 ne8 (by omega) hL) (w92 hw) (w93 hw) (w90 hw) (w94 hw) (by decide) (Nat.le_refl _) id (Nat.le_of_ble_eq_true rfl) (Nat.le_of_ble_eq_true rfl) rfl rfl (Nat.le_of_ble_eq_true rfl) (Nat.le_of_ble_eq_true rfl) rfl pd6 rfl rfl rfl (Nat.le_of_ble_eq_true rfl) d15_9 rfl fun v11 h12 J13 hs14 hQ15 => ?_
  obtain ⟨rfl, rfl, K16, g17⟩ := hQ15
  show Wk _ h12 1 8 I 12 #[.val (.ref c), .val (.int (0 : Int32)), .val (.int (Int32.ofNat cl.length)), .val (.ref a1), .unset, .unset] [(.int (Int32.ofNat cl.length))]
  refine Wk.istore (pc' := 14) #[.val (.ref c), .val (.int (0 : Int32)), .val (.int (Int32.ofNat cl.length)), .val (.ref a1), .val (.int (Int32.ofNat cl.length)), .unset] d15_12 rfl rfl ?_
  refine Wk.iload (pc' := 16) d15_14 rfl rfl ?_
  refine Wk.iloadN (pc' := 17) d15_16 rfl rfl ?_
  refine Wk.icmp_eqY (pc' := 57) d15_17 (by decide) rfl ?_
  refine Wk.aloadN (pc' := 58) d15_57 rfl rfl rfl ?_
  exact Wk.areturn rfl rfl rfl d15_58 (Nat.le_of_ble_eq_true rfl) (Nat.le_of_ble_eq_true rfl) ⟨a1, q3, rfl, rfl, (own_ext (((Keep.refl h0 []).ext E6).trans K16 (allS (Or.inr hg4) all0))), hg4, hN5, g17⟩
theorem ef_s_cfa (m : MethodId) (x0 : Addr) (x1 : Int32) : entryFrame m #[(.ref x0), (.int x1)] 2 = mkF m 0 #[.val (.ref x0), .val (.int x1)] [] := by first | (simp [entryFrame, mkF, argsToLocals, Value.category]; done) | rfl
abbrev b_s_cfa : Bdy := ((⟨"java/lang/StringUTF16", "coderFromArrayLen", "([BI)B"⟩ : MethodName), jdk_52_method_15_code, 2, (Option.some Jvm.ClassFile.FieldType.byte), ({ frames := 0, cells := 0, slots := 0, locals := 0 } : Room))
def Q_s_cfa (Z : State) (N : Nat) (b : Addr) (qb : ClassId) (cl : List Int32) (h0 : Heap) (I : Lts) (v : Option Value) (h : Heap) (J : Lts) : Prop := I = J ∧ v = some (.int (0 : Int32)) ∧ h0 = h
set_option maxRecDepth 65536 in
set_option maxHeartbeats 40000000 in
theorem rm_s_cfa {l : Launch} {Z : State} {a0 : Array Value} {N : Nat} (hw : ∀ d ∈ tables_1, d.before a0 Z = true) (b : Addr) (qb : ClassId) (cl : List Int32) (h0 : Heap) (I : Lts) (P0 : Arv Z h0 b qb .byte (Int32.ofNat cl.length) (cl.map own_by) (.int (0 : Int32))) :
    Cn l Z N b_s_cfa #[(.ref b), (.int (Int32.ofNat cl.length))] h0 I (Q_s_cfa Z N b qb cl h0 I) := by
  refine Cn.of_wk (Ls := #[.val (.ref b), .val (.int (Int32.ofNat cl.length))]) (plainFor_of_name (by first | (simp [plainName, overriddenIn]; done) | decide +kernel)) (fun m => ef_s_cfa m b (Int32.ofNat cl.length)) ?_
  refine Wk.iloadN (pc' := 1) d17_0 rfl rfl ?_
  refine Wk.aloadN (pc' := 2) d17_1 rfl rfl rfl ?_
  refine Wk.arraylength (pc' := 3) P0 d17_2 rfl ?_
  refine Wk.isub (pc' := 4) d17_3 rfl ?_
  refine Wk.bipush (pc' := 6) (v := 31) d17_4 rfl rfl ?_
  refine Wk.iushr (pc' := 7) d17_6 rfl ?_
  refine Wk.i2b (pc' := 8) d17_7 rfl ?_
  exact Wk.zreturn rfl (by simp) d17_8 (Nat.le_of_ble_eq_true rfl) (Nat.le_of_ble_eq_true rfl) ⟨rfl, (by rw [own_cfal]), rfl⟩
theorem ef_s_in5e (m : MethodId) (x0 : Addr) (x1 : Addr) (x2 : Int32) (x3 : Int32) : entryFrame m #[(.ref x0), (.ref x1), (.int x2), (.int x3), .null] 6 = mkF m 0 #[.val (.ref x0), .val (.ref x1), .val (.int x2), .val (.int x3), .val .null, .unset] [] := by first | (simp [entryFrame, mkF, argsToLocals, Value.category]; done) | rfl
abbrev b_s_in5e : Bdy := ((⟨"java/lang/String", "<init>", "([CIILjava/lang/Void;)V"⟩ : MethodName), jdk_42_method_149_code, 6, (Option.none : Option Jvm.ClassFile.FieldType), ({ frames := 2, cells := 2, slots := 8, locals := 35 } : Room))
def Q_s_in5e (Z : State) (N : Nat) (a : Addr) (c : Addr) (q : ClassId) (cl : List Int32) (cs : Int32) (Ts : List String) (Lk : List (String × Nat × Addr)) (h0 : Heap) (I : Lts) (v : Option Value) (h : Heap) (J : Lts) : Prop := ∃ v' : Addr, ∃ q' : ClassId, True ∧ v = none ∧ Keep h0 h [a] ∧ Fld Z h a "java/lang/String" "value" "[B" (.ref v') ∧ Fld Z h a "java/lang/String" "coder" "B" (.int (0 : Int32)) ∧ Arv Z h v' q' .byte (Int32.ofNat cl.length) (cl.map own_by) (.int (0 : Int32))
set_option maxRecDepth 65536 in
set_option maxHeartbeats 40000000 in
theorem rm_s_in5e {l : Launch} {Z : State} {a0 : Array Value} {N : Nat} (hw : ∀ d ∈ tables_1, d.before a0 Z = true) (a : Addr) (c : Addr) (q : ClassId) (cl : List Int32) (cs : Int32) (Ts : List String) (Lk : List (String × Nat × Addr)) (h0 : Heap) (P0 : Sta Z Z.heap "java/lang/String" "COMPACT_STRINGS" "Z" (.int cs)) (G_cs : ¬ cs = (0 : Int32)) (P2 : Exa Z h0 a "java/lang/String") (P3 : Fld Z h0 a "java/lang/String" "value" "[B" .null) (P4 : Fld Z h0 a "java/lang/String" "coder" "B" (.int (0 : Int32))) (P5 : Arv Z h0 c q .char (Int32.ofNat cl.length) (cl.map Value.int) (.int (0 : Int32))) (P6 : N ≤ a) (hn : cl.length ≤ 8) (hL : own_L cl) (hT : "" ∉ Ts) (G_h7 : Jvm.Lit.constHeld Z "java/lang/String" 7) (G_cw : Jvm.Lit.compactW.before a0 Z = true) :
    Cn l Z N b_s_in5e #[(.ref a), (.ref c), (.int (0 : Int32)), (.int (Int32.ofNat cl.length)), .null] h0 (some (Ts, Lk)) (Q_s_in5e Z N a c q cl cs Ts Lk h0 (some (Ts, Lk))) := by
  refine Cn.of_wkM (Ls := #[.val (.ref a), .val (.ref c), .val (.int (0 : Int32)), .val (.int (Int32.ofNat cl.length)), .val .null, .unset]) (plainFor_of_name (by first | (simp [plainName, overriddenIn]; done) | decide +kernel)) (fun m => ef_s_in5e m a c (0 : Int32) (Int32.ofNat cl.length)) ?_
  refine WkM.aloadN (pc' := 1) d3_0 rfl rfl rfl ?_
  refine WkM.initO (a0 := a0) (pc' := 4) (W := 0) (w15 hw) (w16 hw) (w17 hw) rfl d3_1 rfl (Nat.le_of_ble_eq_true rfl) (Nat.le_of_ble_eq_true rfl) (Nat.le_of_ble_eq_true rfl) ?_
  refine WkM.iloadN (pc' := 5) d3_4 rfl rfl ?_
  by_cases he : cl = []
  · skip
    refine WkM.if_neN (pc' := 8) d3_5 rfl (by rw [he]; rfl) ?_
    refine WkM.aloadN (pc' := 9) d3_8 rfl rfl rfl ?_
    refine WkM.ldcLit (a0 := a0) (pc' := 11) (k' := 2) (n' := 4) (cap := 0) (vs := []) (z := 0) (w18 hw) (own_wS hw) (Nat.le_refl _) hT G_h7 G_cw ⟨by decide, rfl⟩ (by decide) rfl d3_9 rfl (by decide) (by decide) rfl rfl (Nat.le_of_ble_eq_true rfl) (Nat.le_of_ble_eq_true rfl) fun al1 bl2 ql3 h4 E5 X6 C7 V8 A9 p10 => ?_
    have f11 := (P2.ext E5)
    have ne12 : a ≠ bl2 := by obtain ⟨c0, A0, -⟩ := A9; exact ne_arr f11 (w6 hw) A0
    show Wk _ h4 2 4 (some ("" :: Ts, [("java/lang/String", 7, al1)])) 11 #[.val (.ref a), .val (.ref c), .val (.int (0 : Int32)), .val (.int (Int32.ofNat cl.length)), .val .null, .unset] [(.ref al1), (.ref a)]
    refine Wk.getF (a0 := a0) (pc' := 14) (host := "") (Or.inl (w24 hw)) Via.refl V8 d3_11 rfl ?_
    have f13 := (P3.ext E5)
    refine Wk.putF (a0 := a0) (pc' := 17) (host := "") (Or.inl (w24 hw)) Via.refl P6 f13 f11 (Or.inr ⟨(w20 hw), rfl, rfl⟩) (w6 hw) (ty := (.array .byte)) (by decide) rfl rfl d3_14 rfl fun h14 W15 => ?_
    have F16 := f13.same W15
    refine Wk.aloadN (pc' := 18) d3_17 rfl rfl rfl ?_
    have F17 := C7.other W15 (Or.inr (slot_ne (Or.inr (w21 hw)) (Or.inr (w20 hw)) (by decide) (t := .byte) (t' := .array .byte) (by decide) (by decide)))
    refine Wk.ldcAgain (a0 := a0) (pc' := 20) (w18 hw) (List.mem_singleton.mpr rfl) d3_18 rfl ?_
    refine Wk.getF (a0 := a0) (pc' := 23) (host := "") (Or.inl (w25 hw)) Via.refl F17 d3_20 rfl ?_
    have f18 := (f11.wr W15)
    have f19 := ((P4.ext E5).other W15 (Or.inr (slot_ne (Or.inr (w21 hw)) (Or.inr (w20 hw)) (by decide) (t := .byte) (t' := (.array .byte)) (by decide) (by decide))))
    refine Wk.putFN (a0 := a0) (pc' := 26) (v' := (.int (0 : Int32))) (w25 hw) Via.refl P6 f19 f18 (Or.inr ⟨(w21 hw), rfl, rfl⟩) (w6 hw) (ty := .byte) (by decide) rfl rfl d3_23 rfl fun h20 W21 => ?_
    have F22 := f19.same W21
    have f23 := ((A9.other W15 (Ne.symm ne12)).other W21 (Ne.symm ne12))
    have A24 : Arv Z h20 bl2 ql3 .byte (Int32.ofNat cl.length) (cl.map own_by) (.int (0 : Int32)) := by rw [he]; exact f23
    have f25 := (F16.other W21 (Or.inr (slot_ne (Or.inr (w20 hw)) (Or.inr (w21 hw)) (by decide) (t := (.array .byte)) (t' := .byte) (by decide) (by decide))))
    exact Wk.return_ rfl d3_26 (Nat.le_of_ble_eq_true rfl) (Nat.le_of_ble_eq_true rfl) ⟨bl2, ql3, trivial, rfl, ((((Keep.refl h0 [a]).ext E5).wr W15 (Or.inl (by simp))).wr W21 (Or.inl (by simp))), f25, F22, A24⟩
  · skip
    refine Wk.toM ?_
    refine Wk.if_neY (pc' := 27) d3_5 (by decide) (fun q => he (List.length_eq_zero_iff.mp ((own_eq (j := 0) (by omega) (by decide)).mp q))) ?_
    refine Wk.getS (a0 := a0) (pc' := 30) (host := "") (Or.inl (w39 hw)) Via.refl P0 d3_27 rfl ?_
    refine Wk.if_eqN (pc' := 33) d3_30 rfl G_cs ?_
    refine Wk.aloadN (pc' := 34) d3_33 rfl rfl rfl ?_
    refine Wk.iloadN (pc' := 35) d3_34 rfl rfl ?_
    refine Wk.iloadN (pc' := 36) d3_35 rfl rfl ?_
    refine Wk.callS (a0 := a0) (pc' := 39) (k' := 1) (n' := 8) (W := 0) (b := b_s_cm3) (argsL := [(.ref c), (.int (0 : Int32)), (.int (Int32.ofNat cl.length))]) (rest := []) (rm_s_cm3 hw c q cl h0 (some (Ts, Lk)) P5 hn hL) (w88 hw) (w89 hw) (w90 hw) (w91 hw) (by decide) (Nat.le_refl _) id (Nat.le_of_ble_eq_true rfl) (Nat.le_of_ble_eq_true rfl) rfl rfl (Nat.le_of_ble_eq_true rfl) (Nat.le_of_ble_eq_true rfl) rfl pd7 rfl rfl rfl (Nat.le_of_ble_eq_true rfl) d3_36 rfl fun v26 h27 J28 hs29 hQ30 => ?_
    obtain ⟨b31, qb32, rfl, rfl, E33, g34, g35, g36⟩ := hQ30
    have ne37 : a ≠ b31 := Nat.ne_of_lt (Nat.lt_of_lt_of_le P2.lt g34)
    have ne38 : c ≠ b31 := Nat.ne_of_lt (Nat.lt_of_lt_of_le P5.lt g34)
    show Wk _ h27 1 8 (some (Ts, Lk)) 39 #[.val (.ref a), .val (.ref c), .val (.int (0 : Int32)), .val (.int (Int32.ofNat cl.length)), .val .null, .unset] [(.ref b31)]
    refine Wk.astore (pc' := 41) #[.val (.ref a), .val (.ref c), .val (.int (0 : Int32)), .val (.int (Int32.ofNat cl.length)), .val .null, .val (.ref b31)] d3_39 rfl rfl rfl ?_
    refine Wk.aloadN (pc' := 42) d3_41 rfl rfl rfl ?_
    refine Wk.aload (pc' := 44) d3_42 rfl rfl rfl ?_
    refine Wk.iloadN (pc' := 45) d3_44 rfl rfl ?_
    refine Wk.callS (a0 := a0) (pc' := 48) (k' := 1) (n' := 8) (W := 1) (b := b_s_cfa) (argsL := [(.ref b31), (.int (Int32.ofNat cl.length))]) (rest := [(.ref a)]) (rm_s_cfa hw b31 qb32 cl h27 (some (Ts, Lk)) g36) (w95 hw) (w96 hw) (w90 hw) (w97 hw) (by decide) (Nat.le_refl _) id (Nat.le_of_ble_eq_true rfl) (Nat.le_of_ble_eq_true rfl) rfl rfl (Nat.le_of_ble_eq_true rfl) (Nat.le_of_ble_eq_true rfl) rfl pd8 rfl rfl rfl (Nat.le_of_ble_eq_true rfl) d3_45 rfl fun v39 h40 J41 hs42 hQ43 => ?_
    obtain ⟨rfl, rfl, rfl⟩ := hQ43
    show Wk _ h27 1 8 (some (Ts, Lk)) 48 #[.val (.ref a), .val (.ref c), .val (.int (0 : Int32)), .val (.int (Int32.ofNat cl.length)), .val .null, .val (.ref b31)] [(.int (0 : Int32)), (.ref a)]
    have f44 := (P2.ext E33)
    have f45 := (P4.ext E33)
    refine Wk.putFN (a0 := a0) (pc' := 51) (v' := (.int (0 : Int32))) (w25 hw) Via.refl P6 f45 f44 (Or.inr ⟨(w21 hw), rfl, rfl⟩) (w6 hw) (ty := .byte) (by decide) rfl rfl d3_48 rfl fun h46 W47 => ?_
    have F48 := f45.same W47
    refine Wk.aloadN (pc' := 52) d3_51 rfl rfl rfl ?_
    refine Wk.aload (pc' := 54) d3_52 rfl rfl rfl ?_
    have f49 := (f44.wr W47)
    have f50 := ((P3.ext E33).other W47 (Or.inr (slot_ne (Or.inr (w20 hw)) (Or.inr (w21 hw)) (by decide) (t := (.array .byte)) (t' := .byte) (by decide) (by decide))))
    refine Wk.putF (a0 := a0) (pc' := 57) (host := "") (Or.inl (w24 hw)) Via.refl P6 f50 f49 (Or.inr ⟨(w20 hw), rfl, rfl⟩) (w6 hw) (ty := (.array .byte)) (by decide) rfl rfl d3_54 rfl fun h51 W52 => ?_
    have F53 := f50.same W52
    have f54 := ((g36.other W47 (Ne.symm ne37)).other W52 (Ne.symm ne37))
    have f55 := (F48.other W52 (Or.inr (slot_ne (Or.inr (w21 hw)) (Or.inr (w20 hw)) (by decide) (t := .byte) (t' := (.array .byte)) (by decide) (by decide))))
    exact Wk.return_ rfl d3_57 (Nat.le_of_ble_eq_true rfl) (Nat.le_of_ble_eq_true rfl) ⟨b31, qb32, trivial, rfl, ((((Keep.refl h0 [a]).ext E33).wr W47 (Or.inl (by simp))).wr W52 (Or.inl (by simp))), F53, f55, f54⟩
theorem ef_s_in1e (m : MethodId) (x0 : Addr) (x1 : Addr) : entryFrame m #[(.ref x0), (.ref x1)] 2 = mkF m 0 #[.val (.ref x0), .val (.ref x1)] [] := by first | (simp [entryFrame, mkF, argsToLocals, Value.category]; done) | rfl
abbrev b_s_in1e : Bdy := ((⟨"java/lang/String", "<init>", "([C)V"⟩ : MethodName), jdk_42_method_3_code, 2, (Option.none : Option Jvm.ClassFile.FieldType), ({ frames := 3, cells := 2, slots := 8, locals := 52 } : Room))
def Q_s_in1e (Z : State) (N : Nat) (a : Addr) (c : Addr) (q : ClassId) (cl : List Int32) (cs : Int32) (Ts : List String) (Lk : List (String × Nat × Addr)) (h0 : Heap) (I : Lts) (v : Option Value) (h : Heap) (J : Lts) : Prop := ∃ v' : Addr, ∃ q' : ClassId, True ∧ v = none ∧ Keep h0 h [a] ∧ Fld Z h a "java/lang/String" "value" "[B" (.ref v') ∧ Fld Z h a "java/lang/String" "coder" "B" (.int (0 : Int32)) ∧ Arv Z h v' q' .byte (Int32.ofNat cl.length) (cl.map own_by) (.int (0 : Int32))
set_option maxRecDepth 65536 in
set_option maxHeartbeats 40000000 in
theorem rm_s_in1e {l : Launch} {Z : State} {a0 : Array Value} {N : Nat} (hw : ∀ d ∈ tables_1, d.before a0 Z = true) (a : Addr) (c : Addr) (q : ClassId) (cl : List Int32) (cs : Int32) (Ts : List String) (Lk : List (String × Nat × Addr)) (h0 : Heap) (P0 : Sta Z Z.heap "java/lang/String" "COMPACT_STRINGS" "Z" (.int cs)) (G_cs : ¬ cs = (0 : Int32)) (P2 : Exa Z h0 a "java/lang/String") (P3 : Fld Z h0 a "java/lang/String" "value" "[B" .null) (P4 : Fld Z h0 a "java/lang/String" "coder" "B" (.int (0 : Int32))) (P5 : Arv Z h0 c q .char (Int32.ofNat cl.length) (cl.map Value.int) (.int (0 : Int32))) (P6 : N ≤ a) (hn : cl.length ≤ 8) (hL : own_L cl) (hT : "" ∉ Ts) (G_h7 : Jvm.Lit.constHeld Z "java/lang/String" 7) (G_cw : Jvm.Lit.compactW.before a0 Z = true) :
    Cn l Z N b_s_in1e #[(.ref a), (.ref c)] h0 (some (Ts, Lk)) (Q_s_in1e Z N a c q cl cs Ts Lk h0 (some (Ts, Lk))) := by
  refine Cn.of_wk (Ls := #[.val (.ref a), .val (.ref c)]) (plainFor_of_name (by first | (simp [plainName, overriddenIn]; done) | decide +kernel)) (fun m => ef_s_in1e m a c) ?_
  refine Wk.aloadN (pc' := 1) d2_0 rfl rfl rfl ?_
  refine Wk.aloadN (pc' := 2) d2_1 rfl rfl rfl ?_
  refine Wk.iconst (pc' := 3) (v := 0) d2_2 rfl rfl ?_
  refine Wk.aloadN (pc' := 4) d2_3 rfl rfl rfl ?_
  refine Wk.arraylength (pc' := 5) P5 d2_4 rfl ?_
  refine Wk.aconstNull (pc' := 6) d2_5 rfl ?_
  refine Wk.callN (a0 := a0) (pc' := 9) (k' := 2) (n' := 8) (W := 0) (b := b_s_in5e) (argsL := [(.ref c), (.int (0 : Int32)), (.int (Int32.ofNat cl.length)), .null]) (rest := []) (rm_s_in5e hw a c q cl cs Ts Lk h0  P0 G_cs P2 P3 P4 P5 P6 hn hL hT G_h7 G_cw) rfl rfl (w11 hw) (w12 hw) (w7 hw) (w14 hw) (by decide) (Nat.le_refl _) id (Nat.le_of_ble_eq_true rfl) (Nat.le_of_ble_eq_true rfl) rfl rfl (Nat.le_of_ble_eq_true rfl) (Nat.le_of_ble_eq_true rfl) rfl pd9 rfl rfl rfl (Nat.le_of_ble_eq_true rfl) d2_6 rfl fun v1 h2 J3 hs4 hQ5 => ?_
  obtain ⟨v'6, q'7, -, rfl, K8, g9, g10, g11⟩ := hQ5
  show Wk _ h2 2 8 J3 9 #[.val (.ref a), .val (.ref c)] []
  exact Wk.return_ rfl d2_9 (Nat.le_of_ble_eq_true rfl) (Nat.le_of_ble_eq_true rfl) ⟨v'6, q'7, trivial, rfl, ((Keep.refl h0 [a]).trans K8 (allS (Or.inl (by simp)) all0)), g9, g10, g11⟩
theorem ef_s_in5 (m : MethodId) (x0 : Addr) (x1 : Addr) (x2 : Int32) (x3 : Int32) : entryFrame m #[(.ref x0), (.ref x1), (.int x2), (.int x3), .null] 6 = mkF m 0 #[.val (.ref x0), .val (.ref x1), .val (.int x2), .val (.int x3), .val .null, .unset] [] := by first | (simp [entryFrame, mkF, argsToLocals, Value.category]; done) | rfl
abbrev b_s_in5 : Bdy := ((⟨"java/lang/String", "<init>", "([CIILjava/lang/Void;)V"⟩ : MethodName), jdk_42_method_149_code, 6, (Option.none : Option Jvm.ClassFile.FieldType), ({ frames := 2, cells := 1, slots := 8, locals := 35 } : Room))
def Q_s_in5 (Z : State) (N : Nat) (a : Addr) (c : Addr) (q : ClassId) (cl : List Int32) (cs : Int32) (h0 : Heap) (I : Lts) (v : Option Value) (h : Heap) (J : Lts) : Prop := ∃ v' : Addr, ∃ q' : ClassId, I = J ∧ v = none ∧ Keep h0 h [a] ∧ Fld Z h a "java/lang/String" "value" "[B" (.ref v') ∧ Fld Z h a "java/lang/String" "coder" "B" (.int (0 : Int32)) ∧ Arv Z h v' q' .byte (Int32.ofNat cl.length) (cl.map own_by) (.int (0 : Int32))
set_option maxRecDepth 65536 in
set_option maxHeartbeats 40000000 in
theorem rm_s_in5 {l : Launch} {Z : State} {a0 : Array Value} {N : Nat} (hw : ∀ d ∈ tables_1, d.before a0 Z = true) (a : Addr) (c : Addr) (q : ClassId) (cl : List Int32) (cs : Int32) (h0 : Heap) (I : Lts) (P0 : Sta Z Z.heap "java/lang/String" "COMPACT_STRINGS" "Z" (.int cs)) (G_cs : ¬ cs = (0 : Int32)) (P2 : Exa Z h0 a "java/lang/String") (P3 : Fld Z h0 a "java/lang/String" "value" "[B" .null) (P4 : Fld Z h0 a "java/lang/String" "coder" "B" (.int (0 : Int32))) (P5 : Arv Z h0 c q .char (Int32.ofNat cl.length) (cl.map Value.int) (.int (0 : Int32))) (P6 : N ≤ a) (hn : cl.length ≤ 8) (hL : own_L cl) (he : ¬ cl = []) :
    Cn l Z N b_s_in5 #[(.ref a), (.ref c), (.int (0 : Int32)), (.int (Int32.ofNat cl.length)), .null] h0 I (Q_s_in5 Z N a c q cl cs h0 I) := by
  refine Cn.of_wk (Ls := #[.val (.ref a), .val (.ref c), .val (.int (0 : Int32)), .val (.int (Int32.ofNat cl.length)), .val .null, .unset]) (plainFor_of_name (by first | (simp [plainName, overriddenIn]; done) | decide +kernel)) (fun m => ef_s_in5 m a c (0 : Int32) (Int32.ofNat cl.length)) ?_
  refine Wk.aloadN (pc' := 1) d3_0 rfl rfl rfl ?_
  refine Wk.initO (a0 := a0) (pc' := 4) (W := 0) (w15 hw) (w16 hw) (w17 hw) rfl d3_1 rfl (Nat.le_of_ble_eq_true rfl) (Nat.le_of_ble_eq_true rfl) (Nat.le_of_ble_eq_true rfl) ?_
  refine Wk.iloadN (pc' := 5) d3_4 rfl rfl ?_
  refine Wk.if_neY (pc' := 27) d3_5 (by decide) (fun q => he (List.length_eq_zero_iff.mp ((own_eq (j := 0) (by omega) (by decide)).mp q))) ?_
  refine Wk.getS (a0 := a0) (pc' := 30) (host := "") (Or.inl (w39 hw)) Via.refl P0 d3_27 rfl ?_
  refine Wk.if_eqN (pc' := 33) d3_30 rfl G_cs ?_
  refine Wk.aloadN (pc' := 34) d3_33 rfl rfl rfl ?_
  refine Wk.iloadN (pc' := 35) d3_34 rfl rfl ?_
  refine Wk.iloadN (pc' := 36) d3_35 rfl rfl ?_
  refine Wk.callS (a0 := a0) (pc' := 39) (k' := 1) (n' := 8) (W := 0) (b := b_s_cm3) (argsL := [(.ref c), (.int (0 : Int32)), (.int (Int32.ofNat cl.length))]) (rest := []) (rm_s_cm3 hw c q cl h0 I P5 hn hL) (w88 hw) (w89 hw) (w90 hw) (w91 hw) (by decide) (Nat.le_refl _) id (Nat.le_of_ble_eq_true rfl) (Nat.le_of_ble_eq_true rfl) rfl rfl (Nat.le_of_ble_eq_true rfl) (Nat.le_of_ble_eq_true rfl) rfl pd7 rfl rfl rfl (Nat.le_of_ble_eq_true rfl) d3_36 rfl fun v1 h2 J3 hs4 hQ5 => ?_
  obtain ⟨b6, qb7, rfl, rfl, E8, g9, g10, g11⟩ := hQ5
  have ne12 : a ≠ b6 := Nat.ne_of_lt (Nat.lt_of_lt_of_le P2.lt g9)
  have ne13 : c ≠ b6 := Nat.ne_of_lt (Nat.lt_of_lt_of_le P5.lt g9)
  show Wk _ h2 1 8 I 39 #[.val (.ref a), .val (.ref c), .val (.int (0 : Int32)), .val (.int (Int32.ofNat cl.length)), .val .null, .unset] [(.ref b6)]
  refine Wk.astore (pc' := 41) #[.val (.ref a), .val (.ref c), .val (.int (0 : Int32)), .val (.int (Int32.ofNat cl.length)), .val .null, .val (.ref b6)] d3_39 rfl rfl rfl ?_
  refine Wk.aloadN (pc' := 42) d3_41 rfl rfl rfl ?_
  refine Wk.aload (pc' := 44) d3_42 rfl rfl rfl ?_
  refine Wk.iloadN (pc' := 45) d3_44 rfl rfl ?_
  refine Wk.callS (a0 := a0) (pc' := 48) (k' := 1) (n' := 8) (W := 1) (b := b_s_cfa) (argsL := [(.ref b6), (.int (Int32.ofNat cl.length))]) (rest := [(.ref a)]) (rm_s_cfa hw b6 qb7 cl h2 I g11) (w95 hw) (w96 hw) (w90 hw) (w97 hw) (by decide) (Nat.le_refl _) id (Nat.le_of_ble_eq_true rfl) (Nat.le_of_ble_eq_true rfl) rfl rfl (Nat.le_of_ble_eq_true rfl) (Nat.le_of_ble_eq_true rfl) rfl pd8 rfl rfl rfl (Nat.le_of_ble_eq_true rfl) d3_45 rfl fun v14 h15 J16 hs17 hQ18 => ?_
  obtain ⟨rfl, rfl, rfl⟩ := hQ18
  show Wk _ h2 1 8 I 48 #[.val (.ref a), .val (.ref c), .val (.int (0 : Int32)), .val (.int (Int32.ofNat cl.length)), .val .null, .val (.ref b6)] [(.int (0 : Int32)), (.ref a)]
  have f19 := (P2.ext E8)
  have f20 := (P4.ext E8)
  refine Wk.putFN (a0 := a0) (pc' := 51) (v' := (.int (0 : Int32))) (w25 hw) Via.refl P6 f20 f19 (Or.inr ⟨(w21 hw), rfl, rfl⟩) (w6 hw) (ty := .byte) (by decide) rfl rfl d3_48 rfl fun h21 W22 => ?_
  have F23 := f20.same W22
  refine Wk.aloadN (pc' := 52) d3_51 rfl rfl rfl ?_
  refine Wk.aload (pc' := 54) d3_52 rfl rfl rfl ?_
  have f24 := (f19.wr W22)
  have f25 := ((P3.ext E8).other W22 (Or.inr (slot_ne (Or.inr (w20 hw)) (Or.inr (w21 hw)) (by decide) (t := (.array .byte)) (t' := .byte) (by decide) (by decide))))
  refine Wk.putF (a0 := a0) (pc' := 57) (host := "") (Or.inl (w24 hw)) Via.refl P6 f25 f24 (Or.inr ⟨(w20 hw), rfl, rfl⟩) (w6 hw) (ty := (.array .byte)) (by decide) rfl rfl d3_54 rfl fun h26 W27 => ?_
  have F28 := f25.same W27
  have f29 := ((g11.other W22 (Ne.symm ne12)).other W27 (Ne.symm ne12))
  have f30 := (F23.other W27 (Or.inr (slot_ne (Or.inr (w21 hw)) (Or.inr (w20 hw)) (by decide) (t := .byte) (t' := (.array .byte)) (by decide) (by decide))))
  exact Wk.return_ rfl d3_57 (Nat.le_of_ble_eq_true rfl) (Nat.le_of_ble_eq_true rfl) ⟨b6, qb7, rfl, rfl, ((((Keep.refl h0 [a]).ext E8).wr W22 (Or.inl (by simp))).wr W27 (Or.inl (by simp))), F28, f30, f29⟩
theorem ef_s_in1 (m : MethodId) (x0 : Addr) (x1 : Addr) : entryFrame m #[(.ref x0), (.ref x1)] 2 = mkF m 0 #[.val (.ref x0), .val (.ref x1)] [] := by first | (simp [entryFrame, mkF, argsToLocals, Value.category]; done) | rfl
abbrev b_s_in1 : Bdy := ((⟨"java/lang/String", "<init>", "([C)V"⟩ : MethodName), jdk_42_method_3_code, 2, (Option.none : Option Jvm.ClassFile.FieldType), ({ frames := 3, cells := 1, slots := 8, locals := 52 } : Room))
def Q_s_in1 (Z : State) (N : Nat) (a : Addr) (c : Addr) (q : ClassId) (cl : List Int32) (cs : Int32) (h0 : Heap) (I : Lts) (v : Option Value) (h : Heap) (J : Lts) : Prop := ∃ v' : Addr, ∃ q' : ClassId, I = J ∧ v = none ∧ Keep h0 h [a] ∧ Fld Z h a "java/lang/String" "value" "[B" (.ref v') ∧ Fld Z h a "java/lang/String" "coder" "B" (.int (0 : Int32)) ∧ Arv Z h v' q' .byte (Int32.ofNat cl.length) (cl.map own_by) (.int (0 : Int32))
set_option maxRecDepth 65536 in
set_option maxHeartbeats 40000000 in
theorem rm_s_in1 {l : Launch} {Z : State} {a0 : Array Value} {N : Nat} (hw : ∀ d ∈ tables_1, d.before a0 Z = true) (a : Addr) (c : Addr) (q : ClassId) (cl : List Int32) (cs : Int32) (h0 : Heap) (I : Lts) (P0 : Sta Z Z.heap "java/lang/String" "COMPACT_STRINGS" "Z" (.int cs)) (G_cs : ¬ cs = (0 : Int32)) (P2 : Exa Z h0 a "java/lang/String") (P3 : Fld Z h0 a "java/lang/String" "value" "[B" .null) (P4 : Fld Z h0 a "java/lang/String" "coder" "B" (.int (0 : Int32))) (P5 : Arv Z h0 c q .char (Int32.ofNat cl.length) (cl.map Value.int) (.int (0 : Int32))) (P6 : N ≤ a) (hn : cl.length ≤ 8) (hL : own_L cl) (he : ¬ cl = []) :
    Cn l Z N b_s_in1 #[(.ref a), (.ref c)] h0 I (Q_s_in1 Z N a c q cl cs h0 I) := by
  refine Cn.of_wk (Ls := #[.val (.ref a), .val (.ref c)]) (plainFor_of_name (by first | (simp [plainName, overriddenIn]; done) | decide +kernel)) (fun m => ef_s_in1 m a c) ?_
  refine Wk.aloadN (pc' := 1) d2_0 rfl rfl rfl ?_
  refine Wk.aloadN (pc' := 2) d2_1 rfl rfl rfl ?_
  refine Wk.iconst (pc' := 3) (v := 0) d2_2 rfl rfl ?_
  refine Wk.aloadN (pc' := 4) d2_3 rfl rfl rfl ?_
  refine Wk.arraylength (pc' := 5) P5 d2_4 rfl ?_
  refine Wk.aconstNull (pc' := 6) d2_5 rfl ?_
  refine Wk.callN (a0 := a0) (pc' := 9) (k' := 1) (n' := 8) (W := 0) (b := b_s_in5) (argsL := [(.ref c), (.int (0 : Int32)), (.int (Int32.ofNat cl.length)), .null]) (rest := []) (rm_s_in5 hw a c q cl cs h0 I P0 G_cs P2 P3 P4 P5 P6 hn hL he) rfl rfl (w11 hw) (w12 hw) (w7 hw) (w14 hw) (by decide) (Nat.le_refl _) id (Nat.le_of_ble_eq_true rfl) (Nat.le_of_ble_eq_true rfl) rfl rfl (Nat.le_of_ble_eq_true rfl) (Nat.le_of_ble_eq_true rfl) rfl pd9 rfl rfl rfl (Nat.le_of_ble_eq_true rfl) d2_6 rfl fun v1 h2 J3 hs4 hQ5 => ?_
  obtain ⟨v'6, q'7, rfl, rfl, K8, g9, g10, g11⟩ := hQ5
  show Wk _ h2 1 8 I 9 #[.val (.ref a), .val (.ref c)] []
  exact Wk.return_ rfl d2_9 (Nat.le_of_ble_eq_true rfl) (Nat.le_of_ble_eq_true rfl) ⟨v'6, q'7, rfl, rfl, ((Keep.refl h0 [a]).trans K8 (allS (Or.inl (by simp)) all0)), g9, g10, g11⟩
theorem ef_o_rnn (m : MethodId) (x0 : Addr) : entryFrame m #[(.ref x0)] 1 = mkF m 0 #[.val (.ref x0)] [] := by first | (simp [entryFrame, mkF, argsToLocals, Value.category]; done) | rfl
abbrev b_o_rnn : Bdy := ((⟨"java/util/Objects", "requireNonNull", "(Ljava/lang/Object;)Ljava/lang/Object;"⟩ : MethodName), jdk_31_method_10_code, 1, (Option.some (Jvm.ClassFile.FieldType.object "java/lang/Object")), ({ frames := 0, cells := 0, slots := 0, locals := 0 } : Room))
def Q_o_rnn (Z : State) (N : Nat) (a : Addr) (h0 : Heap) (I : Lts) (v : Option Value) (h : Heap) (J : Lts) : Prop := I = J ∧ v = some (.ref a) ∧ h0 = h
set_option maxRecDepth 65536 in
set_option maxHeartbeats 40000000 in
theorem rm_o_rnn {l : Launch} {Z : State} {a0 : Array Value} {N : Nat} (hw : ∀ d ∈ tables_1, d.before a0 Z = true) (a : Addr) (h0 : Heap) (I : Lts) :
    Cn l Z N b_o_rnn #[(.ref a)] h0 I (Q_o_rnn Z N a h0 I) := by
  refine Cn.of_wk (Ls := #[.val (.ref a)]) (plainFor_of_name (by first | (simp [plainName, overriddenIn]; done) | decide +kernel)) (fun m => ef_o_rnn m a) ?_
  refine Wk.aloadN (pc' := 1) d24_0 rfl rfl rfl ?_
  refine Wk.ifnonnullY (pc' := 12) d24_1 (by decide) ?_
  refine Wk.aloadN (pc' := 13) d24_12 rfl rfl rfl ?_
  exact Wk.areturn rfl rfl rfl d24_13 (Nat.le_of_ble_eq_true rfl) (Nat.le_of_ble_eq_true rfl) ⟨rfl, rfl, rfl⟩
theorem ef_o_ini (m : MethodId) (x0 : Addr) (x1 : Addr) : entryFrame m #[(.ref x0), (.ref x1)] 2 = mkF m 0 #[.val (.ref x0), .val (.ref x1)] [] := by first | (simp [entryFrame, mkF, argsToLocals, Value.category]; done) | rfl
abbrev b_o_ini : Bdy := ((⟨"java/util/Optional", "<init>", "(Ljava/lang/Object;)V"⟩ : MethodName), jdk_32_method_2_code, 2, (Option.none : Option Jvm.ClassFile.FieldType), ({ frames := 1, cells := 0, slots := 0, locals := 12 } : Room))
def Q_o_ini (Z : State) (N : Nat) (a : Addr) (x : Addr) (h0 : Heap) (I : Lts) (v : Option Value) (h : Heap) (J : Lts) : Prop := I = J ∧ v = none ∧ Keep h0 h [a] ∧ Fld Z h a "java/util/Optional" "value" "Ljava/lang/Object;" (.ref x)
set_option maxRecDepth 65536 in
set_option maxHeartbeats 40000000 in
theorem rm_o_ini {l : Launch} {Z : State} {a0 : Array Value} {N : Nat} (hw : ∀ d ∈ tables_1, d.before a0 Z = true) (a : Addr) (x : Addr) (h0 : Heap) (I : Lts) (P0 : Exa Z h0 a "java/util/Optional") (P1 : Fld Z h0 a "java/util/Optional" "value" "Ljava/lang/Object;" .null) (P2 : N ≤ a) :
    Cn l Z N b_o_ini #[(.ref a), (.ref x)] h0 I (Q_o_ini Z N a x h0 I) := by
  refine Cn.of_wk (Ls := #[.val (.ref a), .val (.ref x)]) (plainFor_of_name (by first | (simp [plainName, overriddenIn]; done) | decide +kernel)) (fun m => ef_o_ini m a x) ?_
  refine Wk.aloadN (pc' := 1) d25_0 rfl rfl rfl ?_
  refine Wk.initO (a0 := a0) (pc' := 4) (W := 0) (w134 hw) (w16 hw) (w17 hw) rfl d25_1 rfl (Nat.le_of_ble_eq_true rfl) (Nat.le_of_ble_eq_true rfl) (Nat.le_of_ble_eq_true rfl) ?_
  refine Wk.aloadN (pc' := 5) d25_4 rfl rfl rfl ?_
  refine Wk.aloadN (pc' := 6) d25_5 rfl rfl rfl ?_
  refine Wk.putF (a0 := a0) (pc' := 9) (host := "") (Or.inl (w86 hw)) Via.refl P2 P1 P0 (Or.inr ⟨(w87 hw), rfl, rfl⟩) (w125 hw) (ty := (.object "java/lang/Object")) (by decide) rfl rfl d25_6 rfl fun h1 W2 => ?_
  have F3 := P1.same W2
  exact Wk.return_ rfl d25_9 (Nat.le_of_ble_eq_true rfl) (Nat.le_of_ble_eq_true rfl) ⟨rfl, rfl, ((Keep.refl h0 [a]).wr W2 (Or.inl (by simp))), F3⟩
theorem ef_o_of (m : MethodId) (x0 : Addr) : entryFrame m #[(.ref x0)] 1 = mkF m 0 #[.val (.ref x0)] [] := by first | (simp [entryFrame, mkF, argsToLocals, Value.category]; done) | rfl
abbrev b_o_of : Bdy := ((⟨"java/util/Optional", "of", "(Ljava/lang/Object;)Ljava/util/Optional;"⟩ : MethodName), jdk_32_method_3_code, 1, (Option.some (Jvm.ClassFile.FieldType.object "java/util/Optional")), ({ frames := 2, cells := 1, slots := 1, locals := 40 } : Room))
def Q_o_of (Z : State) (N : Nat) (x : Addr) (h0 : Heap) (I : Lts) (v : Option Value) (h : Heap) (J : Lts) : Prop := ∃ r : Addr, I = J ∧ v = some (.ref r) ∧ Ext h0 h ∧ h0.size ≤ r ∧ Exa Z h r "java/util/Optional" ∧ Fld Z h r "java/util/Optional" "value" "Ljava/lang/Object;" (.ref x)
set_option maxRecDepth 65536 in
set_option maxHeartbeats 40000000 in
theorem rm_o_of {l : Launch} {Z : State} {a0 : Array Value} {N : Nat} (hw : ∀ d ∈ tables_1, d.before a0 Z = true) (x : Addr) (h0 : Heap) (I : Lts) :
    Cn l Z N b_o_of #[(.ref x)] h0 I (Q_o_of Z N x h0 I) := by
  refine Cn.of_wk (Ls := #[.val (.ref x)]) (plainFor_of_name (by first | (simp [plainName, overriddenIn]; done) | decide +kernel)) (fun m => ef_o_of m x) ?_
  refine Wk.newO (a0 := a0) (pc' := 3) (k' := 1) (n' := 1) (w124 hw) (w125 hw) (w78 hw) d23_0 rfl rfl rfl (Nat.le_of_ble_eq_true rfl) (Nat.le_of_ble_eq_true rfl) fun a1 h2 hg3 hN4 E5 A6 D7 => ?_
  have F8 : Fld Z h2 a1 "java/util/Optional" "value" "Ljava/lang/Object;" .null := D7 (Or.inr (w87 hw)) (ty := (.object "java/lang/Object")) (by decide)
  refine Wk.dup (pc' := 4) d23_3 rfl rfl ?_
  refine Wk.aloadN (pc' := 5) d23_4 rfl rfl rfl ?_
  refine Wk.callS (a0 := a0) (pc' := 8) (k' := 1) (n' := 1) (W := 2) (b := b_o_rnn) (argsL := [(.ref x)]) (rest := [(.ref a1), (.ref a1)]) (rm_o_rnn hw x h2 I ) (w126 hw) (w127 hw) (w128 hw) (w129 hw) (by decide) (Nat.le_refl _) id (Nat.le_of_ble_eq_true rfl) (Nat.le_of_ble_eq_true rfl) rfl rfl (Nat.le_of_ble_eq_true rfl) (Nat.le_of_ble_eq_true rfl) rfl pd10 rfl rfl rfl (Nat.le_of_ble_eq_true rfl) d23_5 rfl fun v9 h10 J11 hs12 hQ13 => ?_
  obtain ⟨rfl, rfl, rfl⟩ := hQ13
  show Wk _ h2 1 1 I 8 #[.val (.ref x)] [(.ref x), (.ref a1), (.ref a1)]
  refine Wk.callN (a0 := a0) (pc' := 11) (k' := 1) (n' := 1) (W := 1) (b := b_o_ini) (argsL := [(.ref x)]) (rest := [(.ref a1)]) (rm_o_ini hw a1 x h2 I A6 F8 hN4) rfl rfl (w130 hw) (w131 hw) (w78 hw) (w133 hw) (by decide) (Nat.le_refl _) id (Nat.le_of_ble_eq_true rfl) (Nat.le_of_ble_eq_true rfl) rfl rfl (Nat.le_of_ble_eq_true rfl) (Nat.le_of_ble_eq_true rfl) rfl pd11 rfl rfl rfl (Nat.le_of_ble_eq_true rfl) d23_8 rfl fun v14 h15 J16 hs17 hQ18 => ?_
  obtain ⟨rfl, rfl, K19, g20⟩ := hQ18
  show Wk _ h15 1 1 I 11 #[.val (.ref x)] [(.ref a1)]
  have f21 := (A6.keep K19)
  exact Wk.areturn rfl rfl rfl d23_11 (Nat.le_of_ble_eq_true rfl) (Nat.le_of_ble_eq_true rfl) ⟨a1, rfl, rfl, (own_ext (((Keep.refl h0 []).ext E5).trans K19 (allS (Or.inr hg3) all0))), hg3, f21, g20⟩
theorem ef_o_emp (m : MethodId)  : entryFrame m #[] 1 = mkF m 0 #[.unset] [] := by first | (simp [entryFrame, mkF, argsToLocals, Value.category]; done) | rfl
abbrev b_o_emp : Bdy := ((⟨"java/util/Optional", "empty", "()Ljava/util/Optional;"⟩ : MethodName), jdk_32_method_1_code, 1, (Option.some (Jvm.ClassFile.FieldType.object "java/util/Optional")), ({ frames := 0, cells := 0, slots := 0, locals := 0 } : Room))
def Q_o_emp (Z : State) (N : Nat) (em : Addr) (h0 : Heap) (I : Lts) (v : Option Value) (h : Heap) (J : Lts) : Prop := I = J ∧ v = some (.ref em) ∧ h0 = h
set_option maxRecDepth 65536 in
set_option maxHeartbeats 40000000 in
theorem rm_o_emp {l : Launch} {Z : State} {a0 : Array Value} {N : Nat} (hw : ∀ d ∈ tables_1, d.before a0 Z = true) (em : Addr) (h0 : Heap) (I : Lts) (P0 : Sta Z Z.heap "java/util/Optional" "EMPTY" "Ljava/util/Optional;" (.ref em)) :
    Cn l Z N b_o_emp #[] h0 I (Q_o_emp Z N em h0 I) := by
  refine Cn.of_wk (Ls := #[.unset]) (plainFor_of_name (by first | (simp [plainName, overriddenIn]; done) | decide +kernel)) (fun m => ef_o_emp m ) ?_
  refine Wk.getS (a0 := a0) (pc' := 3) (host := "") (Or.inl (w80 hw)) Via.refl P0 d13_0 rfl ?_
  refine Wk.astoreN (pc' := 4) #[.val (.ref em)] d13_3 rfl rfl rfl ?_
  refine Wk.aloadN (pc' := 5) d13_4 rfl rfl rfl ?_
  exact Wk.areturn rfl rfl rfl d13_5 (Nat.le_of_ble_eq_true rfl) (Nat.le_of_ble_eq_true rfl) ⟨rfl, rfl, rfl⟩
theorem ef_o_or1 (m : MethodId) (x0 : Addr) : entryFrame m #[(.ref x0), .null] 2 = mkF m 0 #[.val (.ref x0), .val .null] [] := by first | (simp [entryFrame, mkF, argsToLocals, Value.category]; done) | rfl
abbrev b_o_or1 : Bdy := ((⟨"java/util/Optional", "orElse", "(Ljava/lang/Object;)Ljava/lang/Object;"⟩ : MethodName), jdk_32_method_15_code, 2, (Option.some (Jvm.ClassFile.FieldType.object "java/lang/Object")), ({ frames := 0, cells := 0, slots := 0, locals := 0 } : Room))
def Q_o_or1 (Z : State) (N : Nat) (a : Addr) (x : Addr) (h0 : Heap) (I : Lts) (v : Option Value) (h : Heap) (J : Lts) : Prop := I = J ∧ v = some (.ref x) ∧ h0 = h
set_option maxRecDepth 65536 in
set_option maxHeartbeats 40000000 in
theorem rm_o_or1 {l : Launch} {Z : State} {a0 : Array Value} {N : Nat} (hw : ∀ d ∈ tables_1, d.before a0 Z = true) (a : Addr) (x : Addr) (h0 : Heap) (I : Lts) (P0 : Fld Z h0 a "java/util/Optional" "value" "Ljava/lang/Object;" (.ref x)) :
    Cn l Z N b_o_or1 #[(.ref a), .null] h0 I (Q_o_or1 Z N a x h0 I) := by
  refine Cn.of_wk (Ls := #[.val (.ref a), .val .null]) (plainFor_of_name (by first | (simp [plainName, overriddenIn]; done) | decide +kernel)) (fun m => ef_o_or1 m a) ?_
  refine Wk.aloadN (pc' := 1) d14_0 rfl rfl rfl ?_
  refine Wk.getF (a0 := a0) (pc' := 4) (host := "") (Or.inl (w86 hw)) Via.refl P0 d14_1 rfl ?_
  refine Wk.ifnullN (pc' := 7) d14_4 rfl ?_
  refine Wk.aloadN (pc' := 8) d14_7 rfl rfl rfl ?_
  refine Wk.getF (a0 := a0) (pc' := 11) (host := "") (Or.inl (w86 hw)) Via.refl P0 d14_8 rfl ?_
  refine Wk.goto (pc' := 15) d14_11 (by decide) ?_
  exact Wk.areturn rfl rfl rfl d14_15 (Nat.le_of_ble_eq_true rfl) (Nat.le_of_ble_eq_true rfl) ⟨rfl, rfl, rfl⟩
theorem ef_o_or0 (m : MethodId) (x0 : Addr) : entryFrame m #[(.ref x0), .null] 2 = mkF m 0 #[.val (.ref x0), .val .null] [] := by first | (simp [entryFrame, mkF, argsToLocals, Value.category]; done) | rfl
abbrev b_o_or0 : Bdy := ((⟨"java/util/Optional", "orElse", "(Ljava/lang/Object;)Ljava/lang/Object;"⟩ : MethodName), jdk_32_method_15_code, 2, (Option.some (Jvm.ClassFile.FieldType.object "java/lang/Object")), ({ frames := 0, cells := 0, slots := 0, locals := 0 } : Room))
def Q_o_or0 (Z : State) (N : Nat) (a : Addr) (h0 : Heap) (I : Lts) (v : Option Value) (h : Heap) (J : Lts) : Prop := I = J ∧ v = some .null ∧ h0 = h
set_option maxRecDepth 65536 in
set_option maxHeartbeats 40000000 in
theorem rm_o_or0 {l : Launch} {Z : State} {a0 : Array Value} {N : Nat} (hw : ∀ d ∈ tables_1, d.before a0 Z = true) (a : Addr) (h0 : Heap) (I : Lts) (P0 : Fld Z h0 a "java/util/Optional" "value" "Ljava/lang/Object;" .null) :
    Cn l Z N b_o_or0 #[(.ref a), .null] h0 I (Q_o_or0 Z N a h0 I) := by
  refine Cn.of_wk (Ls := #[.val (.ref a), .val .null]) (plainFor_of_name (by first | (simp [plainName, overriddenIn]; done) | decide +kernel)) (fun m => ef_o_or0 m a) ?_
  refine Wk.aloadN (pc' := 1) d14_0 rfl rfl rfl ?_
  refine Wk.getF (a0 := a0) (pc' := 4) (host := "") (Or.inl (w86 hw)) Via.refl P0 d14_1 rfl ?_
  refine Wk.ifnullY (pc' := 14) d14_4 (by decide) ?_
  refine Wk.aloadN (pc' := 15) d14_14 rfl rfl rfl ?_
  exact Wk.areturn rfl rfl rfl d14_15 (Nat.le_of_ble_eq_true rfl) (Nat.le_of_ble_eq_true rfl) ⟨rfl, rfl, rfl⟩
theorem ef_mk (m : MethodId) (x0 : Addr) (x1 : Int32) : entryFrame m #[(.ref x0), (.int x1)] 2 = mkF m 0 #[.val (.ref x0), .val (.int x1)] [] := by first | (simp [entryFrame, mkF, argsToLocals, Value.category]; done) | rfl
abbrev b_mk : Bdy := ((⟨"com/example/samfed/samfed/config/ProfileFromConfigNamePinLaw", "make", "([CI)Ljava/lang/String;"⟩ : MethodName), method_3_code, 2, (Option.some (Jvm.ClassFile.FieldType.object "java/lang/String")), ({ frames := 4, cells := 4, slots := 18, locals := 66 } : Room))
def Q_mk (Z : State) (N : Nat) (c : Addr) (q : ClassId) (X : List Int32) (j : Nat) (cs : Int32) (Ts : List String) (Lk : List (String × Nat × Addr)) (h0 : Heap) (I : Lts) (v : Option Value) (h : Heap) (J : Lts) : Prop := ∃ r : Addr, ∃ v' : Addr, ∃ q' : ClassId, True ∧ v = some (.ref r) ∧ Ext h0 h ∧ h0.size ≤ r ∧ Exa Z h r "java/lang/String" ∧ Fld Z h r "java/lang/String" "value" "[B" (.ref v') ∧ Fld Z h r "java/lang/String" "coder" "B" (.int (0 : Int32)) ∧ Arv Z h v' q' .byte (Int32.ofNat (List.take j X).length) ((List.take j X).map own_by) (.int (0 : Int32))
set_option maxRecDepth 65536 in
set_option maxHeartbeats 40000000 in
theorem rm_mk {l : Launch} {Z : State} {a0 : Array Value} {N : Nat} (hw : ∀ d ∈ tables_1, d.before a0 Z = true) (c : Addr) (q : ClassId) (X : List Int32) (j : Nat) (cs : Int32) (Ts : List String) (Lk : List (String × Nat × Addr)) (h0 : Heap) (P0 : Sta Z Z.heap "java/lang/String" "COMPACT_STRINGS" "Z" (.int cs)) (G_cs : ¬ cs = (0 : Int32)) (P2 : Arv Z h0 c q .char (6 : Int32) (X.map Value.int) (.int (0 : Int32))) (hX : X.length = 6) (hLX : own_L X) (hj : j < 7) (hT : "" ∉ Ts) (G_h7 : Jvm.Lit.constHeld Z "java/lang/String" 7) (G_cw : Jvm.Lit.compactW.before a0 Z = true) :
    Cn l Z N b_mk #[(.ref c), (.int (Int32.ofNat j))] h0 (some (Ts, Lk)) (Q_mk Z N c q X j cs Ts Lk h0 (some (Ts, Lk))) := by
  refine Cn.of_wk (Ls := #[.val (.ref c), .val (.int (Int32.ofNat j))]) (plainFor_of_name (by first | (simp [plainName, overriddenIn]; done) | decide +kernel)) (fun m => ef_mk m c (Int32.ofNat j)) ?_
  obtain ⟨x0, x1, x2, x3, x4, x5, rfl⟩ := own_six hX
  have hx0 : own_c x0 := hLX _ (by simp)
  have hx1 : own_c x1 := hLX _ (by simp)
  have hx2 : own_c x2 := hLX _ (by simp)
  have hx3 : own_c x3 := hLX _ (by simp)
  have hx4 : own_c x4 := hLX _ (by simp)
  have hx5 : own_c x5 := hLX _ (by simp)
  have A1 : Arv Z h0 c q .char (6 : Int32) [(.int x0), (.int x1), (.int x2), (.int x3), (.int x4), (.int x5)] (.int (0 : Int32)) := P2
  rcases (show j = 0 ∨ j = 1 ∨ j = 2 ∨ j = 3 ∨ j = 4 ∨ j = 5 ∨ j = 6 by omega) with rfl | rfl | rfl | rfl | rfl | rfl | rfl
  · skip
    show Wk _ h0 0 0 (some (Ts, Lk)) 0 #[.val (.ref c), .val (.int (0 : Int32))] []
    refine Wk.iloadN (pc' := 1) d1_0 rfl rfl ?_
    refine Wk.if_neN (pc' := 4) d1_1 rfl rfl ?_
    refine Wk.newO (a0 := a0) (pc' := 7) (k' := 1) (n' := 4) (w5 hw) (w6 hw) (w7 hw) d1_4 rfl rfl rfl (Nat.le_of_ble_eq_true rfl) (Nat.le_of_ble_eq_true rfl) fun a2 h3 hg4 hN5 E6 A7 D8 => ?_
    have ne9 : c ≠ a2 := Nat.ne_of_lt (Nat.lt_of_lt_of_le A1.lt hg4)
    have F10 : Fld Z h3 a2 "java/lang/String" "value" "[B" .null := D8 (Or.inr (w20 hw)) (ty := (.array .byte)) (by decide)
    have F11 : Fld Z h3 a2 "java/lang/String" "coder" "B" (.int (0 : Int32)) := D8 (Or.inr (w21 hw)) (ty := .byte) (by decide)
    refine Wk.dup (pc' := 8) d1_7 rfl rfl ?_
    refine Wk.iconst (pc' := 9) (v := 0) d1_8 rfl rfl ?_
    refine Wk.newP (a0 := a0) (aty := .char) (pc' := 11) (k' := 2) (n' := 4) (cap := 0) (w0 hw) d1_9 rfl (by decide) (by decide) (by decide) rfl rfl (Nat.le_of_ble_eq_true rfl) (Nat.le_of_ble_eq_true rfl) fun a12 h13 q14 hg15 hN16 E17 A18 => ?_
    have f19 := (A1.ext E6)
    have ne20 : c ≠ a12 := Nat.ne_of_lt (Nat.lt_of_lt_of_le f19.lt hg15)
    have ne21 : a2 ≠ a12 := Nat.ne_of_lt (Nat.lt_of_lt_of_le A7.lt hg15)
    have A22 : Arv Z h13 a12 q14 .char (Int32.ofNat ([] : List Int32).length) (([] : List Int32).map Value.int) (.int (0 : Int32)) := A18
    have f23 := (A7.ext E17)
    have f24 := (F10.ext E17)
    have f25 := (F11.ext E17)
    refine Wk.callN (a0 := a0) (pc' := 14) (k' := 4) (n' := 12) (W := 1) (b := b_s_in1e) (argsL := [(.ref a12)]) (rest := [(.ref a2)]) (rm_s_in1e hw a2 a12 q14 ([] : List Int32) cs Ts Lk h13  P0 G_cs f23 f24 f25 A22 hN5 (Nat.le_of_ble_eq_true rfl) own_Ln hT G_h7 G_cw) rfl rfl (w8 hw) (w9 hw) (w7 hw) (w10 hw) (by decide) (Nat.le_refl _) id (Nat.le_of_ble_eq_true rfl) (Nat.le_of_ble_eq_true rfl) rfl rfl (Nat.le_of_ble_eq_true rfl) (Nat.le_of_ble_eq_true rfl) rfl pd12 rfl rfl rfl (Nat.le_of_ble_eq_true rfl) d1_11 rfl fun v26 h27 J28 hs29 hQ30 => ?_
    obtain ⟨v'31, q'32, -, rfl, K33, g34, g35, g36⟩ := hQ30
    show Wk _ h27 4 12 J28 14 #[.val (.ref c), .val (.int (0 : Int32))] [(.ref a2)]
    have f37 := (f23.keep K33)
    exact Wk.areturn rfl rfl rfl d1_14 (Nat.le_of_ble_eq_true rfl) (Nat.le_of_ble_eq_true rfl) ⟨a2, v'31, q'32, trivial, rfl, (own_ext ((((Keep.refl h0 []).ext E6).ext E17).trans K33 (allS (Or.inr hg4) all0))), hg4, f37, g34, g35, g36⟩
  · skip
    show Wk _ h0 0 0 (some (Ts, Lk)) 0 #[.val (.ref c), .val (.int (1 : Int32))] []
    refine Wk.iloadN (pc' := 1) d1_0 rfl rfl ?_
    refine Wk.if_neY (pc' := 15) d1_1 (by decide) (by decide) ?_
    refine Wk.iloadN (pc' := 16) d1_15 rfl rfl ?_
    refine Wk.iconst (pc' := 17) (v := 1) d1_16 rfl rfl ?_
    refine Wk.icmp_neN (pc' := 20) d1_17 rfl rfl ?_
    refine Wk.newO (a0 := a0) (pc' := 23) (k' := 1) (n' := 4) (w5 hw) (w6 hw) (w7 hw) d1_20 rfl rfl rfl (Nat.le_of_ble_eq_true rfl) (Nat.le_of_ble_eq_true rfl) fun a38 h39 hg40 hN41 E42 A43 D44 => ?_
    have ne45 : c ≠ a38 := Nat.ne_of_lt (Nat.lt_of_lt_of_le A1.lt hg40)
    have F46 : Fld Z h39 a38 "java/lang/String" "value" "[B" .null := D44 (Or.inr (w20 hw)) (ty := (.array .byte)) (by decide)
    have F47 : Fld Z h39 a38 "java/lang/String" "coder" "B" (.int (0 : Int32)) := D44 (Or.inr (w21 hw)) (ty := .byte) (by decide)
    refine Wk.dup (pc' := 24) d1_23 rfl rfl ?_
    refine Wk.iconst (pc' := 25) (v := 1) d1_24 rfl rfl ?_
    refine Wk.newP (a0 := a0) (aty := .char) (pc' := 27) (k' := 2) (n' := 5) (cap := 1) (w0 hw) d1_25 rfl (by decide) (by decide) (by decide) rfl rfl (Nat.le_of_ble_eq_true rfl) (Nat.le_of_ble_eq_true rfl) fun a48 h49 q50 hg51 hN52 E53 A54 => ?_
    have f55 := (A1.ext E42)
    have ne56 : c ≠ a48 := Nat.ne_of_lt (Nat.lt_of_lt_of_le f55.lt hg51)
    have ne57 : a38 ≠ a48 := Nat.ne_of_lt (Nat.lt_of_lt_of_le A43.lt hg51)
    have A58 : Arv Z h49 a48 q50 .char (1 : Int32) [(.int (0 : Int32))] (.int (0 : Int32)) := A54.pad (pad_rep [] (.int (0 : Int32)) 1)
    refine Wk.dup (pc' := 28) d1_27 rfl rfl ?_
    refine Wk.iconst (pc' := 29) (v := 0) d1_28 rfl rfl ?_
    refine Wk.aloadN (pc' := 30) d1_29 rfl rfl rfl ?_
    refine Wk.iconst (pc' := 31) (v := 0) d1_30 rfl rfl ?_
    have f59 := (f55.ext E53)
    refine Wk.caload (pc' := 32) (v := (.int x0)) f59 ⟨by decide, by decide⟩ rfl d1_31 rfl ?_
    refine Wk.castore (pc' := 33) A58 hN52 ⟨by decide, by decide⟩ 0 (by decide) (Nat.le_of_ble_eq_true rfl) d1_32 rfl fun h60 W61 A62 => ?_
    have A63 : Arv Z h60 a48 q50 .char (1 : Int32) [(.int x0)] (.int (0 : Int32)) := by have q := A62; rw [own_nc hx0] at q; exact q
    have A64 : Arv Z h60 a48 q50 .char (Int32.ofNat [x0].length) ([x0].map Value.int) (.int (0 : Int32)) := A63
    have f65 := ((A43.ext E53).wr W61)
    have f66 := ((F46.ext E53).other W61 (Or.inl ne57))
    have f67 := ((F47.ext E53).other W61 (Or.inl ne57))
    refine Wk.callN (a0 := a0) (pc' := 36) (k' := 4) (n' := 13) (W := 1) (b := b_s_in1e) (argsL := [(.ref a48)]) (rest := [(.ref a38)]) (rm_s_in1e hw a38 a48 q50 [x0] cs Ts Lk h60  P0 G_cs f65 f66 f67 A64 hN41 (Nat.le_of_ble_eq_true rfl) (own_Lc hx0 own_Ln) hT G_h7 G_cw) rfl rfl (w8 hw) (w9 hw) (w7 hw) (w10 hw) (by decide) (Nat.le_refl _) id (Nat.le_of_ble_eq_true rfl) (Nat.le_of_ble_eq_true rfl) rfl rfl (Nat.le_of_ble_eq_true rfl) (Nat.le_of_ble_eq_true rfl) rfl pd12 rfl rfl rfl (Nat.le_of_ble_eq_true rfl) d1_33 rfl fun v68 h69 J70 hs71 hQ72 => ?_
    obtain ⟨v'73, q'74, -, rfl, K75, g76, g77, g78⟩ := hQ72
    show Wk _ h69 4 13 J70 36 #[.val (.ref c), .val (.int (1 : Int32))] [(.ref a38)]
    have f79 := (f65.keep K75)
    exact Wk.areturn rfl rfl rfl d1_36 (Nat.le_of_ble_eq_true rfl) (Nat.le_of_ble_eq_true rfl) ⟨a38, v'73, q'74, trivial, rfl, (own_ext (((((Keep.refl h0 []).ext E42).ext E53).wr W61 (Or.inr (Nat.le_trans E42.1 hg51))).trans K75 (allS (Or.inr hg40) all0))), hg40, f79, g76, g77, g78⟩
  · skip
    show Wk _ h0 0 0 (some (Ts, Lk)) 0 #[.val (.ref c), .val (.int (2 : Int32))] []
    refine Wk.iloadN (pc' := 1) d1_0 rfl rfl ?_
    refine Wk.if_neY (pc' := 15) d1_1 (by decide) (by decide) ?_
    refine Wk.iloadN (pc' := 16) d1_15 rfl rfl ?_
    refine Wk.iconst (pc' := 17) (v := 1) d1_16 rfl rfl ?_
    refine Wk.icmp_neY (pc' := 37) d1_17 (by decide) (by decide) ?_
    refine Wk.iloadN (pc' := 38) d1_37 rfl rfl ?_
    refine Wk.iconst (pc' := 39) (v := 2) d1_38 rfl rfl ?_
    refine Wk.icmp_neN (pc' := 42) d1_39 rfl rfl ?_
    refine Wk.newO (a0 := a0) (pc' := 45) (k' := 1) (n' := 4) (w5 hw) (w6 hw) (w7 hw) d1_42 rfl rfl rfl (Nat.le_of_ble_eq_true rfl) (Nat.le_of_ble_eq_true rfl) fun a80 h81 hg82 hN83 E84 A85 D86 => ?_
    have ne87 : c ≠ a80 := Nat.ne_of_lt (Nat.lt_of_lt_of_le A1.lt hg82)
    have F88 : Fld Z h81 a80 "java/lang/String" "value" "[B" .null := D86 (Or.inr (w20 hw)) (ty := (.array .byte)) (by decide)
    have F89 : Fld Z h81 a80 "java/lang/String" "coder" "B" (.int (0 : Int32)) := D86 (Or.inr (w21 hw)) (ty := .byte) (by decide)
    refine Wk.dup (pc' := 46) d1_45 rfl rfl ?_
    refine Wk.iconst (pc' := 47) (v := 2) d1_46 rfl rfl ?_
    refine Wk.newP (a0 := a0) (aty := .char) (pc' := 49) (k' := 2) (n' := 6) (cap := 2) (w0 hw) d1_47 rfl (by decide) (by decide) (by decide) rfl rfl (Nat.le_of_ble_eq_true rfl) (Nat.le_of_ble_eq_true rfl) fun a90 h91 q92 hg93 hN94 E95 A96 => ?_
    have f97 := (A1.ext E84)
    have ne98 : c ≠ a90 := Nat.ne_of_lt (Nat.lt_of_lt_of_le f97.lt hg93)
    have ne99 : a80 ≠ a90 := Nat.ne_of_lt (Nat.lt_of_lt_of_le A85.lt hg93)
    have A100 : Arv Z h91 a90 q92 .char (2 : Int32) [(.int (0 : Int32)), (.int (0 : Int32))] (.int (0 : Int32)) := A96.pad (pad_rep [] (.int (0 : Int32)) 2)
    refine Wk.dup (pc' := 50) d1_49 rfl rfl ?_
    refine Wk.iconst (pc' := 51) (v := 0) d1_50 rfl rfl ?_
    refine Wk.aloadN (pc' := 52) d1_51 rfl rfl rfl ?_
    refine Wk.iconst (pc' := 53) (v := 0) d1_52 rfl rfl ?_
    have f101 := (f97.ext E95)
    refine Wk.caload (pc' := 54) (v := (.int x0)) f101 ⟨by decide, by decide⟩ rfl d1_53 rfl ?_
    refine Wk.castore (pc' := 55) A100 hN94 ⟨by decide, by decide⟩ 0 (by decide) (Nat.le_of_ble_eq_true rfl) d1_54 rfl fun h102 W103 A104 => ?_
    have A105 : Arv Z h102 a90 q92 .char (2 : Int32) [(.int x0), (.int (0 : Int32))] (.int (0 : Int32)) := by have q := A104; rw [own_nc hx0] at q; exact q
    refine Wk.dup (pc' := 56) d1_55 rfl rfl ?_
    refine Wk.iconst (pc' := 57) (v := 1) d1_56 rfl rfl ?_
    refine Wk.aloadN (pc' := 58) d1_57 rfl rfl rfl ?_
    refine Wk.iconst (pc' := 59) (v := 1) d1_58 rfl rfl ?_
    have f106 := (f101.other W103 ne98)
    refine Wk.caload (pc' := 60) (v := (.int x1)) f106 ⟨by decide, by decide⟩ rfl d1_59 rfl ?_
    refine Wk.castore (pc' := 61) A105 hN94 ⟨by decide, by decide⟩ 1 (by decide) (Nat.le_of_ble_eq_true rfl) d1_60 rfl fun h107 W108 A109 => ?_
    have A110 : Arv Z h107 a90 q92 .char (2 : Int32) [(.int x0), (.int x1)] (.int (0 : Int32)) := by have q := A109; rw [own_nc hx1] at q; exact q
    have A111 : Arv Z h107 a90 q92 .char (Int32.ofNat [x0, x1].length) ([x0, x1].map Value.int) (.int (0 : Int32)) := A110
    have f112 := (((A85.ext E95).wr W103).wr W108)
    have f113 := (((F88.ext E95).other W103 (Or.inl ne99)).other W108 (Or.inl ne99))
    have f114 := (((F89.ext E95).other W103 (Or.inl ne99)).other W108 (Or.inl ne99))
    refine Wk.callN (a0 := a0) (pc' := 64) (k' := 4) (n' := 14) (W := 1) (b := b_s_in1e) (argsL := [(.ref a90)]) (rest := [(.ref a80)]) (rm_s_in1e hw a80 a90 q92 [x0, x1] cs Ts Lk h107  P0 G_cs f112 f113 f114 A111 hN83 (Nat.le_of_ble_eq_true rfl) (own_Lc hx0 (own_Lc hx1 own_Ln)) hT G_h7 G_cw) rfl rfl (w8 hw) (w9 hw) (w7 hw) (w10 hw) (by decide) (Nat.le_refl _) id (Nat.le_of_ble_eq_true rfl) (Nat.le_of_ble_eq_true rfl) rfl rfl (Nat.le_of_ble_eq_true rfl) (Nat.le_of_ble_eq_true rfl) rfl pd12 rfl rfl rfl (Nat.le_of_ble_eq_true rfl) d1_61 rfl fun v115 h116 J117 hs118 hQ119 => ?_
    obtain ⟨v'120, q'121, -, rfl, K122, g123, g124, g125⟩ := hQ119
    show Wk _ h116 4 14 J117 64 #[.val (.ref c), .val (.int (2 : Int32))] [(.ref a80)]
    have f126 := (f112.keep K122)
    exact Wk.areturn rfl rfl rfl d1_64 (Nat.le_of_ble_eq_true rfl) (Nat.le_of_ble_eq_true rfl) ⟨a80, v'120, q'121, trivial, rfl, (own_ext ((((((Keep.refl h0 []).ext E84).ext E95).wr W103 (Or.inr (Nat.le_trans E84.1 hg93))).wr W108 (Or.inr (Nat.le_trans E84.1 hg93))).trans K122 (allS (Or.inr hg82) all0))), hg82, f126, g123, g124, g125⟩
  · skip
    show Wk _ h0 0 0 (some (Ts, Lk)) 0 #[.val (.ref c), .val (.int (3 : Int32))] []
    refine Wk.iloadN (pc' := 1) d1_0 rfl rfl ?_
    refine Wk.if_neY (pc' := 15) d1_1 (by decide) (by decide) ?_
    refine Wk.iloadN (pc' := 16) d1_15 rfl rfl ?_
    refine Wk.iconst (pc' := 17) (v := 1) d1_16 rfl rfl ?_
    refine Wk.icmp_neY (pc' := 37) d1_17 (by decide) (by decide) ?_
    refine Wk.iloadN (pc' := 38) d1_37 rfl rfl ?_
    refine Wk.iconst (pc' := 39) (v := 2) d1_38 rfl rfl ?_
    refine Wk.icmp_neY (pc' := 65) d1_39 (by decide) (by decide) ?_
    refine Wk.iloadN (pc' := 66) d1_65 rfl rfl ?_
    refine Wk.iconst (pc' := 67) (v := 3) d1_66 rfl rfl ?_
    refine Wk.icmp_neN (pc' := 70) d1_67 rfl rfl ?_
    refine Wk.newO (a0 := a0) (pc' := 73) (k' := 1) (n' := 4) (w5 hw) (w6 hw) (w7 hw) d1_70 rfl rfl rfl (Nat.le_of_ble_eq_true rfl) (Nat.le_of_ble_eq_true rfl) fun a127 h128 hg129 hN130 E131 A132 D133 => ?_
    have ne134 : c ≠ a127 := Nat.ne_of_lt (Nat.lt_of_lt_of_le A1.lt hg129)
    have F135 : Fld Z h128 a127 "java/lang/String" "value" "[B" .null := D133 (Or.inr (w20 hw)) (ty := (.array .byte)) (by decide)
    have F136 : Fld Z h128 a127 "java/lang/String" "coder" "B" (.int (0 : Int32)) := D133 (Or.inr (w21 hw)) (ty := .byte) (by decide)
    refine Wk.dup (pc' := 74) d1_73 rfl rfl ?_
    refine Wk.iconst (pc' := 75) (v := 3) d1_74 rfl rfl ?_
    refine Wk.newP (a0 := a0) (aty := .char) (pc' := 77) (k' := 2) (n' := 7) (cap := 3) (w0 hw) d1_75 rfl (by decide) (by decide) (by decide) rfl rfl (Nat.le_of_ble_eq_true rfl) (Nat.le_of_ble_eq_true rfl) fun a137 h138 q139 hg140 hN141 E142 A143 => ?_
    have f144 := (A1.ext E131)
    have ne145 : c ≠ a137 := Nat.ne_of_lt (Nat.lt_of_lt_of_le f144.lt hg140)
    have ne146 : a127 ≠ a137 := Nat.ne_of_lt (Nat.lt_of_lt_of_le A132.lt hg140)
    have A147 : Arv Z h138 a137 q139 .char (3 : Int32) [(.int (0 : Int32)), (.int (0 : Int32)), (.int (0 : Int32))] (.int (0 : Int32)) := A143.pad (pad_rep [] (.int (0 : Int32)) 3)
    refine Wk.dup (pc' := 78) d1_77 rfl rfl ?_
    refine Wk.iconst (pc' := 79) (v := 0) d1_78 rfl rfl ?_
    refine Wk.aloadN (pc' := 80) d1_79 rfl rfl rfl ?_
    refine Wk.iconst (pc' := 81) (v := 0) d1_80 rfl rfl ?_
    have f148 := (f144.ext E142)
    refine Wk.caload (pc' := 82) (v := (.int x0)) f148 ⟨by decide, by decide⟩ rfl d1_81 rfl ?_
    refine Wk.castore (pc' := 83) A147 hN141 ⟨by decide, by decide⟩ 0 (by decide) (Nat.le_of_ble_eq_true rfl) d1_82 rfl fun h149 W150 A151 => ?_
    have A152 : Arv Z h149 a137 q139 .char (3 : Int32) [(.int x0), (.int (0 : Int32)), (.int (0 : Int32))] (.int (0 : Int32)) := by have q := A151; rw [own_nc hx0] at q; exact q
    refine Wk.dup (pc' := 84) d1_83 rfl rfl ?_
    refine Wk.iconst (pc' := 85) (v := 1) d1_84 rfl rfl ?_
    refine Wk.aloadN (pc' := 86) d1_85 rfl rfl rfl ?_
    refine Wk.iconst (pc' := 87) (v := 1) d1_86 rfl rfl ?_
    have f153 := (f148.other W150 ne145)
    refine Wk.caload (pc' := 88) (v := (.int x1)) f153 ⟨by decide, by decide⟩ rfl d1_87 rfl ?_
    refine Wk.castore (pc' := 89) A152 hN141 ⟨by decide, by decide⟩ 1 (by decide) (Nat.le_of_ble_eq_true rfl) d1_88 rfl fun h154 W155 A156 => ?_
    have A157 : Arv Z h154 a137 q139 .char (3 : Int32) [(.int x0), (.int x1), (.int (0 : Int32))] (.int (0 : Int32)) := by have q := A156; rw [own_nc hx1] at q; exact q
    refine Wk.dup (pc' := 90) d1_89 rfl rfl ?_
    refine Wk.iconst (pc' := 91) (v := 2) d1_90 rfl rfl ?_
    refine Wk.aloadN (pc' := 92) d1_91 rfl rfl rfl ?_
    refine Wk.iconst (pc' := 93) (v := 2) d1_92 rfl rfl ?_
    have f158 := (f153.other W155 ne145)
    refine Wk.caload (pc' := 94) (v := (.int x2)) f158 ⟨by decide, by decide⟩ rfl d1_93 rfl ?_
    refine Wk.castore (pc' := 95) A157 hN141 ⟨by decide, by decide⟩ 2 (by decide) (Nat.le_of_ble_eq_true rfl) d1_94 rfl fun h159 W160 A161 => ?_
    have A162 : Arv Z h159 a137 q139 .char (3 : Int32) [(.int x0), (.int x1), (.int x2)] (.int (0 : Int32)) := by have q := A161; rw [own_nc hx2] at q; exact q
    have A163 : Arv Z h159 a137 q139 .char (Int32.ofNat [x0, x1, x2].length) ([x0, x1, x2].map Value.int) (.int (0 : Int32)) := A162
    have f164 := ((((A132.ext E142).wr W150).wr W155).wr W160)
    have f165 := ((((F135.ext E142).other W150 (Or.inl ne146)).other W155 (Or.inl ne146)).other W160 (Or.inl ne146))
    have f166 := ((((F136.ext E142).other W150 (Or.inl ne146)).other W155 (Or.inl ne146)).other W160 (Or.inl ne146))
    refine Wk.callN (a0 := a0) (pc' := 98) (k' := 4) (n' := 15) (W := 1) (b := b_s_in1e) (argsL := [(.ref a137)]) (rest := [(.ref a127)]) (rm_s_in1e hw a127 a137 q139 [x0, x1, x2] cs Ts Lk h159  P0 G_cs f164 f165 f166 A163 hN130 (Nat.le_of_ble_eq_true rfl) (own_Lc hx0 (own_Lc hx1 (own_Lc hx2 own_Ln))) hT G_h7 G_cw) rfl rfl (w8 hw) (w9 hw) (w7 hw) (w10 hw) (by decide) (Nat.le_refl _) id (Nat.le_of_ble_eq_true rfl) (Nat.le_of_ble_eq_true rfl) rfl rfl (Nat.le_of_ble_eq_true rfl) (Nat.le_of_ble_eq_true rfl) rfl pd12 rfl rfl rfl (Nat.le_of_ble_eq_true rfl) d1_95 rfl fun v167 h168 J169 hs170 hQ171 => ?_
    obtain ⟨v'172, q'173, -, rfl, K174, g175, g176, g177⟩ := hQ171
    show Wk _ h168 4 15 J169 98 #[.val (.ref c), .val (.int (3 : Int32))] [(.ref a127)]
    have f178 := (f164.keep K174)
    exact Wk.areturn rfl rfl rfl d1_98 (Nat.le_of_ble_eq_true rfl) (Nat.le_of_ble_eq_true rfl) ⟨a127, v'172, q'173, trivial, rfl, (own_ext (((((((Keep.refl h0 []).ext E131).ext E142).wr W150 (Or.inr (Nat.le_trans E131.1 hg140))).wr W155 (Or.inr (Nat.le_trans E131.1 hg140))).wr W160 (Or.inr (Nat.le_trans E131.1 hg140))).trans K174 (allS (Or.inr hg129) all0))), hg129, f178, g175, g176, g177⟩
  · skip
    show Wk _ h0 0 0 (some (Ts, Lk)) 0 #[.val (.ref c), .val (.int (4 : Int32))] []
    refine Wk.iloadN (pc' := 1) d1_0 rfl rfl ?_
    refine Wk.if_neY (pc' := 15) d1_1 (by decide) (by decide) ?_
    refine Wk.iloadN (pc' := 16) d1_15 rfl rfl ?_
    refine Wk.iconst (pc' := 17) (v := 1) d1_16 rfl rfl ?_
    refine Wk.icmp_neY (pc' := 37) d1_17 (by decide) (by decide) ?_
    refine Wk.iloadN (pc' := 38) d1_37 rfl rfl ?_
    refine Wk.iconst (pc' := 39) (v := 2) d1_38 rfl rfl ?_
    refine Wk.icmp_neY (pc' := 65) d1_39 (by decide) (by decide) ?_
    refine Wk.iloadN (pc' := 66) d1_65 rfl rfl ?_
    refine Wk.iconst (pc' := 67) (v := 3) d1_66 rfl rfl ?_
    refine Wk.icmp_neY (pc' := 99) d1_67 (by decide) (by decide) ?_
    refine Wk.iloadN (pc' := 100) d1_99 rfl rfl ?_
    refine Wk.iconst (pc' := 101) (v := 4) d1_100 rfl rfl ?_
    refine Wk.icmp_neN (pc' := 104) d1_101 rfl rfl ?_
    refine Wk.newO (a0 := a0) (pc' := 107) (k' := 1) (n' := 4) (w5 hw) (w6 hw) (w7 hw) d1_104 rfl rfl rfl (Nat.le_of_ble_eq_true rfl) (Nat.le_of_ble_eq_true rfl) fun a179 h180 hg181 hN182 E183 A184 D185 => ?_
    have ne186 : c ≠ a179 := Nat.ne_of_lt (Nat.lt_of_lt_of_le A1.lt hg181)
    have F187 : Fld Z h180 a179 "java/lang/String" "value" "[B" .null := D185 (Or.inr (w20 hw)) (ty := (.array .byte)) (by decide)
    have F188 : Fld Z h180 a179 "java/lang/String" "coder" "B" (.int (0 : Int32)) := D185 (Or.inr (w21 hw)) (ty := .byte) (by decide)
    refine Wk.dup (pc' := 108) d1_107 rfl rfl ?_
    refine Wk.iconst (pc' := 109) (v := 4) d1_108 rfl rfl ?_
    refine Wk.newP (a0 := a0) (aty := .char) (pc' := 111) (k' := 2) (n' := 8) (cap := 4) (w0 hw) d1_109 rfl (by decide) (by decide) (by decide) rfl rfl (Nat.le_of_ble_eq_true rfl) (Nat.le_of_ble_eq_true rfl) fun a189 h190 q191 hg192 hN193 E194 A195 => ?_
    have f196 := (A1.ext E183)
    have ne197 : c ≠ a189 := Nat.ne_of_lt (Nat.lt_of_lt_of_le f196.lt hg192)
    have ne198 : a179 ≠ a189 := Nat.ne_of_lt (Nat.lt_of_lt_of_le A184.lt hg192)
    have A199 : Arv Z h190 a189 q191 .char (4 : Int32) [(.int (0 : Int32)), (.int (0 : Int32)), (.int (0 : Int32)), (.int (0 : Int32))] (.int (0 : Int32)) := A195.pad (pad_rep [] (.int (0 : Int32)) 4)
    refine Wk.dup (pc' := 112) d1_111 rfl rfl ?_
    refine Wk.iconst (pc' := 113) (v := 0) d1_112 rfl rfl ?_
    refine Wk.aloadN (pc' := 114) d1_113 rfl rfl rfl ?_
    refine Wk.iconst (pc' := 115) (v := 0) d1_114 rfl rfl ?_
    have f200 := (f196.ext E194)
    refine Wk.caload (pc' := 116) (v := (.int x0)) f200 ⟨by decide, by decide⟩ rfl d1_115 rfl ?_
    refine Wk.castore (pc' := 117) A199 hN193 ⟨by decide, by decide⟩ 0 (by decide) (Nat.le_of_ble_eq_true rfl) d1_116 rfl fun h201 W202 A203 => ?_
    have A204 : Arv Z h201 a189 q191 .char (4 : Int32) [(.int x0), (.int (0 : Int32)), (.int (0 : Int32)), (.int (0 : Int32))] (.int (0 : Int32)) := by have q := A203; rw [own_nc hx0] at q; exact q
    refine Wk.dup (pc' := 118) d1_117 rfl rfl ?_
    refine Wk.iconst (pc' := 119) (v := 1) d1_118 rfl rfl ?_
    refine Wk.aloadN (pc' := 120) d1_119 rfl rfl rfl ?_
    refine Wk.iconst (pc' := 121) (v := 1) d1_120 rfl rfl ?_
    have f205 := (f200.other W202 ne197)
    refine Wk.caload (pc' := 122) (v := (.int x1)) f205 ⟨by decide, by decide⟩ rfl d1_121 rfl ?_
    refine Wk.castore (pc' := 123) A204 hN193 ⟨by decide, by decide⟩ 1 (by decide) (Nat.le_of_ble_eq_true rfl) d1_122 rfl fun h206 W207 A208 => ?_
    have A209 : Arv Z h206 a189 q191 .char (4 : Int32) [(.int x0), (.int x1), (.int (0 : Int32)), (.int (0 : Int32))] (.int (0 : Int32)) := by have q := A208; rw [own_nc hx1] at q; exact q
    refine Wk.dup (pc' := 124) d1_123 rfl rfl ?_
    refine Wk.iconst (pc' := 125) (v := 2) d1_124 rfl rfl ?_
    refine Wk.aloadN (pc' := 126) d1_125 rfl rfl rfl ?_
    refine Wk.iconst (pc' := 127) (v := 2) d1_126 rfl rfl ?_
    have f210 := (f205.other W207 ne197)
    refine Wk.caload (pc' := 128) (v := (.int x2)) f210 ⟨by decide, by decide⟩ rfl d1_127 rfl ?_
    refine Wk.castore (pc' := 129) A209 hN193 ⟨by decide, by decide⟩ 2 (by decide) (Nat.le_of_ble_eq_true rfl) d1_128 rfl fun h211 W212 A213 => ?_
    have A214 : Arv Z h211 a189 q191 .char (4 : Int32) [(.int x0), (.int x1), (.int x2), (.int (0 : Int32))] (.int (0 : Int32)) := by have q := A213; rw [own_nc hx2] at q; exact q
    refine Wk.dup (pc' := 130) d1_129 rfl rfl ?_
    refine Wk.iconst (pc' := 131) (v := 3) d1_130 rfl rfl ?_
    refine Wk.aloadN (pc' := 132) d1_131 rfl rfl rfl ?_
    refine Wk.iconst (pc' := 133) (v := 3) d1_132 rfl rfl ?_
    have f215 := (f210.other W212 ne197)
    refine Wk.caload (pc' := 134) (v := (.int x3)) f215 ⟨by decide, by decide⟩ rfl d1_133 rfl ?_
    refine Wk.castore (pc' := 135) A214 hN193 ⟨by decide, by decide⟩ 3 (by decide) (Nat.le_of_ble_eq_true rfl) d1_134 rfl fun h216 W217 A218 => ?_
    have A219 : Arv Z h216 a189 q191 .char (4 : Int32) [(.int x0), (.int x1), (.int x2), (.int x3)] (.int (0 : Int32)) := by have q := A218; rw [own_nc hx3] at q; exact q
    have A220 : Arv Z h216 a189 q191 .char (Int32.ofNat [x0, x1, x2, x3].length) ([x0, x1, x2, x3].map Value.int) (.int (0 : Int32)) := A219
    have f221 := (((((A184.ext E194).wr W202).wr W207).wr W212).wr W217)
    have f222 := (((((F187.ext E194).other W202 (Or.inl ne198)).other W207 (Or.inl ne198)).other W212 (Or.inl ne198)).other W217 (Or.inl ne198))
    have f223 := (((((F188.ext E194).other W202 (Or.inl ne198)).other W207 (Or.inl ne198)).other W212 (Or.inl ne198)).other W217 (Or.inl ne198))
    refine Wk.callN (a0 := a0) (pc' := 138) (k' := 4) (n' := 16) (W := 1) (b := b_s_in1e) (argsL := [(.ref a189)]) (rest := [(.ref a179)]) (rm_s_in1e hw a179 a189 q191 [x0, x1, x2, x3] cs Ts Lk h216  P0 G_cs f221 f222 f223 A220 hN182 (Nat.le_of_ble_eq_true rfl) (own_Lc hx0 (own_Lc hx1 (own_Lc hx2 (own_Lc hx3 own_Ln)))) hT G_h7 G_cw) rfl rfl (w8 hw) (w9 hw) (w7 hw) (w10 hw) (by decide) (Nat.le_refl _) id (Nat.le_of_ble_eq_true rfl) (Nat.le_of_ble_eq_true rfl) rfl rfl (Nat.le_of_ble_eq_true rfl) (Nat.le_of_ble_eq_true rfl) rfl pd12 rfl rfl rfl (Nat.le_of_ble_eq_true rfl) d1_135 rfl fun v224 h225 J226 hs227 hQ228 => ?_
    obtain ⟨v'229, q'230, -, rfl, K231, g232, g233, g234⟩ := hQ228
    show Wk _ h225 4 16 J226 138 #[.val (.ref c), .val (.int (4 : Int32))] [(.ref a179)]
    have f235 := (f221.keep K231)
    exact Wk.areturn rfl rfl rfl d1_138 (Nat.le_of_ble_eq_true rfl) (Nat.le_of_ble_eq_true rfl) ⟨a179, v'229, q'230, trivial, rfl, (own_ext ((((((((Keep.refl h0 []).ext E183).ext E194).wr W202 (Or.inr (Nat.le_trans E183.1 hg192))).wr W207 (Or.inr (Nat.le_trans E183.1 hg192))).wr W212 (Or.inr (Nat.le_trans E183.1 hg192))).wr W217 (Or.inr (Nat.le_trans E183.1 hg192))).trans K231 (allS (Or.inr hg181) all0))), hg181, f235, g232, g233, g234⟩
  · skip
    show Wk _ h0 0 0 (some (Ts, Lk)) 0 #[.val (.ref c), .val (.int (5 : Int32))] []
    refine Wk.iloadN (pc' := 1) d1_0 rfl rfl ?_
    refine Wk.if_neY (pc' := 15) d1_1 (by decide) (by decide) ?_
    refine Wk.iloadN (pc' := 16) d1_15 rfl rfl ?_
    refine Wk.iconst (pc' := 17) (v := 1) d1_16 rfl rfl ?_
    refine Wk.icmp_neY (pc' := 37) d1_17 (by decide) (by decide) ?_
    refine Wk.iloadN (pc' := 38) d1_37 rfl rfl ?_
    refine Wk.iconst (pc' := 39) (v := 2) d1_38 rfl rfl ?_
    refine Wk.icmp_neY (pc' := 65) d1_39 (by decide) (by decide) ?_
    refine Wk.iloadN (pc' := 66) d1_65 rfl rfl ?_
    refine Wk.iconst (pc' := 67) (v := 3) d1_66 rfl rfl ?_
    refine Wk.icmp_neY (pc' := 99) d1_67 (by decide) (by decide) ?_
    refine Wk.iloadN (pc' := 100) d1_99 rfl rfl ?_
    refine Wk.iconst (pc' := 101) (v := 4) d1_100 rfl rfl ?_
    refine Wk.icmp_neY (pc' := 139) d1_101 (by decide) (by decide) ?_
    refine Wk.iloadN (pc' := 140) d1_139 rfl rfl ?_
    refine Wk.iconst (pc' := 141) (v := 5) d1_140 rfl rfl ?_
    refine Wk.icmp_neN (pc' := 144) d1_141 rfl rfl ?_
    refine Wk.newO (a0 := a0) (pc' := 147) (k' := 1) (n' := 4) (w5 hw) (w6 hw) (w7 hw) d1_144 rfl rfl rfl (Nat.le_of_ble_eq_true rfl) (Nat.le_of_ble_eq_true rfl) fun a236 h237 hg238 hN239 E240 A241 D242 => ?_
    have ne243 : c ≠ a236 := Nat.ne_of_lt (Nat.lt_of_lt_of_le A1.lt hg238)
    have F244 : Fld Z h237 a236 "java/lang/String" "value" "[B" .null := D242 (Or.inr (w20 hw)) (ty := (.array .byte)) (by decide)
    have F245 : Fld Z h237 a236 "java/lang/String" "coder" "B" (.int (0 : Int32)) := D242 (Or.inr (w21 hw)) (ty := .byte) (by decide)
    refine Wk.dup (pc' := 148) d1_147 rfl rfl ?_
    refine Wk.iconst (pc' := 149) (v := 5) d1_148 rfl rfl ?_
    refine Wk.newP (a0 := a0) (aty := .char) (pc' := 151) (k' := 2) (n' := 9) (cap := 5) (w0 hw) d1_149 rfl (by decide) (by decide) (by decide) rfl rfl (Nat.le_of_ble_eq_true rfl) (Nat.le_of_ble_eq_true rfl) fun a246 h247 q248 hg249 hN250 E251 A252 => ?_
    have f253 := (A1.ext E240)
    have ne254 : c ≠ a246 := Nat.ne_of_lt (Nat.lt_of_lt_of_le f253.lt hg249)
    have ne255 : a236 ≠ a246 := Nat.ne_of_lt (Nat.lt_of_lt_of_le A241.lt hg249)
    have A256 : Arv Z h247 a246 q248 .char (5 : Int32) [(.int (0 : Int32)), (.int (0 : Int32)), (.int (0 : Int32)), (.int (0 : Int32)), (.int (0 : Int32))] (.int (0 : Int32)) := A252.pad (pad_rep [] (.int (0 : Int32)) 5)
    refine Wk.dup (pc' := 152) d1_151 rfl rfl ?_
    refine Wk.iconst (pc' := 153) (v := 0) d1_152 rfl rfl ?_
    refine Wk.aloadN (pc' := 154) d1_153 rfl rfl rfl ?_
    refine Wk.iconst (pc' := 155) (v := 0) d1_154 rfl rfl ?_
    have f257 := (f253.ext E251)
    refine Wk.caload (pc' := 156) (v := (.int x0)) f257 ⟨by decide, by decide⟩ rfl d1_155 rfl ?_
    refine Wk.castore (pc' := 157) A256 hN250 ⟨by decide, by decide⟩ 0 (by decide) (Nat.le_of_ble_eq_true rfl) d1_156 rfl fun h258 W259 A260 => ?_
    have A261 : Arv Z h258 a246 q248 .char (5 : Int32) [(.int x0), (.int (0 : Int32)), (.int (0 : Int32)), (.int (0 : Int32)), (.int (0 : Int32))] (.int (0 : Int32)) := by have q := A260; rw [own_nc hx0] at q; exact q
    refine Wk.dup (pc' := 158) d1_157 rfl rfl ?_
    refine Wk.iconst (pc' := 159) (v := 1) d1_158 rfl rfl ?_
    refine Wk.aloadN (pc' := 160) d1_159 rfl rfl rfl ?_
    refine Wk.iconst (pc' := 161) (v := 1) d1_160 rfl rfl ?_
    have f262 := (f257.other W259 ne254)
    refine Wk.caload (pc' := 162) (v := (.int x1)) f262 ⟨by decide, by decide⟩ rfl d1_161 rfl ?_
    refine Wk.castore (pc' := 163) A261 hN250 ⟨by decide, by decide⟩ 1 (by decide) (Nat.le_of_ble_eq_true rfl) d1_162 rfl fun h263 W264 A265 => ?_
    have A266 : Arv Z h263 a246 q248 .char (5 : Int32) [(.int x0), (.int x1), (.int (0 : Int32)), (.int (0 : Int32)), (.int (0 : Int32))] (.int (0 : Int32)) := by have q := A265; rw [own_nc hx1] at q; exact q
    refine Wk.dup (pc' := 164) d1_163 rfl rfl ?_
    refine Wk.iconst (pc' := 165) (v := 2) d1_164 rfl rfl ?_
    refine Wk.aloadN (pc' := 166) d1_165 rfl rfl rfl ?_
    refine Wk.iconst (pc' := 167) (v := 2) d1_166 rfl rfl ?_
    have f267 := (f262.other W264 ne254)
    refine Wk.caload (pc' := 168) (v := (.int x2)) f267 ⟨by decide, by decide⟩ rfl d1_167 rfl ?_
    refine Wk.castore (pc' := 169) A266 hN250 ⟨by decide, by decide⟩ 2 (by decide) (Nat.le_of_ble_eq_true rfl) d1_168 rfl fun h268 W269 A270 => ?_
    have A271 : Arv Z h268 a246 q248 .char (5 : Int32) [(.int x0), (.int x1), (.int x2), (.int (0 : Int32)), (.int (0 : Int32))] (.int (0 : Int32)) := by have q := A270; rw [own_nc hx2] at q; exact q
    refine Wk.dup (pc' := 170) d1_169 rfl rfl ?_
    refine Wk.iconst (pc' := 171) (v := 3) d1_170 rfl rfl ?_
    refine Wk.aloadN (pc' := 172) d1_171 rfl rfl rfl ?_
    refine Wk.iconst (pc' := 173) (v := 3) d1_172 rfl rfl ?_
    have f272 := (f267.other W269 ne254)
    refine Wk.caload (pc' := 174) (v := (.int x3)) f272 ⟨by decide, by decide⟩ rfl d1_173 rfl ?_
    refine Wk.castore (pc' := 175) A271 hN250 ⟨by decide, by decide⟩ 3 (by decide) (Nat.le_of_ble_eq_true rfl) d1_174 rfl fun h273 W274 A275 => ?_
    have A276 : Arv Z h273 a246 q248 .char (5 : Int32) [(.int x0), (.int x1), (.int x2), (.int x3), (.int (0 : Int32))] (.int (0 : Int32)) := by have q := A275; rw [own_nc hx3] at q; exact q
    refine Wk.dup (pc' := 176) d1_175 rfl rfl ?_
    refine Wk.iconst (pc' := 177) (v := 4) d1_176 rfl rfl ?_
    refine Wk.aloadN (pc' := 178) d1_177 rfl rfl rfl ?_
    refine Wk.iconst (pc' := 179) (v := 4) d1_178 rfl rfl ?_
    have f277 := (f272.other W274 ne254)
    refine Wk.caload (pc' := 180) (v := (.int x4)) f277 ⟨by decide, by decide⟩ rfl d1_179 rfl ?_
    refine Wk.castore (pc' := 181) A276 hN250 ⟨by decide, by decide⟩ 4 (by decide) (Nat.le_of_ble_eq_true rfl) d1_180 rfl fun h278 W279 A280 => ?_
    have A281 : Arv Z h278 a246 q248 .char (5 : Int32) [(.int x0), (.int x1), (.int x2), (.int x3), (.int x4)] (.int (0 : Int32)) := by have q := A280; rw [own_nc hx4] at q; exact q
    have A282 : Arv Z h278 a246 q248 .char (Int32.ofNat [x0, x1, x2, x3, x4].length) ([x0, x1, x2, x3, x4].map Value.int) (.int (0 : Int32)) := A281
    have f283 := ((((((A241.ext E251).wr W259).wr W264).wr W269).wr W274).wr W279)
    have f284 := ((((((F244.ext E251).other W259 (Or.inl ne255)).other W264 (Or.inl ne255)).other W269 (Or.inl ne255)).other W274 (Or.inl ne255)).other W279 (Or.inl ne255))
    have f285 := ((((((F245.ext E251).other W259 (Or.inl ne255)).other W264 (Or.inl ne255)).other W269 (Or.inl ne255)).other W274 (Or.inl ne255)).other W279 (Or.inl ne255))
    refine Wk.callN (a0 := a0) (pc' := 184) (k' := 4) (n' := 17) (W := 1) (b := b_s_in1e) (argsL := [(.ref a246)]) (rest := [(.ref a236)]) (rm_s_in1e hw a236 a246 q248 [x0, x1, x2, x3, x4] cs Ts Lk h278  P0 G_cs f283 f284 f285 A282 hN239 (Nat.le_of_ble_eq_true rfl) (own_Lc hx0 (own_Lc hx1 (own_Lc hx2 (own_Lc hx3 (own_Lc hx4 own_Ln))))) hT G_h7 G_cw) rfl rfl (w8 hw) (w9 hw) (w7 hw) (w10 hw) (by decide) (Nat.le_refl _) id (Nat.le_of_ble_eq_true rfl) (Nat.le_of_ble_eq_true rfl) rfl rfl (Nat.le_of_ble_eq_true rfl) (Nat.le_of_ble_eq_true rfl) rfl pd12 rfl rfl rfl (Nat.le_of_ble_eq_true rfl) d1_181 rfl fun v286 h287 J288 hs289 hQ290 => ?_
    obtain ⟨v'291, q'292, -, rfl, K293, g294, g295, g296⟩ := hQ290
    show Wk _ h287 4 17 J288 184 #[.val (.ref c), .val (.int (5 : Int32))] [(.ref a236)]
    have f297 := (f283.keep K293)
    exact Wk.areturn rfl rfl rfl d1_184 (Nat.le_of_ble_eq_true rfl) (Nat.le_of_ble_eq_true rfl) ⟨a236, v'291, q'292, trivial, rfl, (own_ext (((((((((Keep.refl h0 []).ext E240).ext E251).wr W259 (Or.inr (Nat.le_trans E240.1 hg249))).wr W264 (Or.inr (Nat.le_trans E240.1 hg249))).wr W269 (Or.inr (Nat.le_trans E240.1 hg249))).wr W274 (Or.inr (Nat.le_trans E240.1 hg249))).wr W279 (Or.inr (Nat.le_trans E240.1 hg249))).trans K293 (allS (Or.inr hg238) all0))), hg238, f297, g294, g295, g296⟩
  · skip
    show Wk _ h0 0 0 (some (Ts, Lk)) 0 #[.val (.ref c), .val (.int (6 : Int32))] []
    refine Wk.iloadN (pc' := 1) d1_0 rfl rfl ?_
    refine Wk.if_neY (pc' := 15) d1_1 (by decide) (by decide) ?_
    refine Wk.iloadN (pc' := 16) d1_15 rfl rfl ?_
    refine Wk.iconst (pc' := 17) (v := 1) d1_16 rfl rfl ?_
    refine Wk.icmp_neY (pc' := 37) d1_17 (by decide) (by decide) ?_
    refine Wk.iloadN (pc' := 38) d1_37 rfl rfl ?_
    refine Wk.iconst (pc' := 39) (v := 2) d1_38 rfl rfl ?_
    refine Wk.icmp_neY (pc' := 65) d1_39 (by decide) (by decide) ?_
    refine Wk.iloadN (pc' := 66) d1_65 rfl rfl ?_
    refine Wk.iconst (pc' := 67) (v := 3) d1_66 rfl rfl ?_
    refine Wk.icmp_neY (pc' := 99) d1_67 (by decide) (by decide) ?_
    refine Wk.iloadN (pc' := 100) d1_99 rfl rfl ?_
    refine Wk.iconst (pc' := 101) (v := 4) d1_100 rfl rfl ?_
    refine Wk.icmp_neY (pc' := 139) d1_101 (by decide) (by decide) ?_
    refine Wk.iloadN (pc' := 140) d1_139 rfl rfl ?_
    refine Wk.iconst (pc' := 141) (v := 5) d1_140 rfl rfl ?_
    refine Wk.icmp_neY (pc' := 185) d1_141 (by decide) (by decide) ?_
    refine Wk.newO (a0 := a0) (pc' := 188) (k' := 1) (n' := 4) (w5 hw) (w6 hw) (w7 hw) d1_185 rfl rfl rfl (Nat.le_of_ble_eq_true rfl) (Nat.le_of_ble_eq_true rfl) fun a298 h299 hg300 hN301 E302 A303 D304 => ?_
    have ne305 : c ≠ a298 := Nat.ne_of_lt (Nat.lt_of_lt_of_le A1.lt hg300)
    have F306 : Fld Z h299 a298 "java/lang/String" "value" "[B" .null := D304 (Or.inr (w20 hw)) (ty := (.array .byte)) (by decide)
    have F307 : Fld Z h299 a298 "java/lang/String" "coder" "B" (.int (0 : Int32)) := D304 (Or.inr (w21 hw)) (ty := .byte) (by decide)
    refine Wk.dup (pc' := 189) d1_188 rfl rfl ?_
    refine Wk.bipush (pc' := 191) (v := 6) d1_189 rfl rfl ?_
    refine Wk.newP (a0 := a0) (aty := .char) (pc' := 193) (k' := 2) (n' := 10) (cap := 6) (w0 hw) d1_191 rfl (by decide) (by decide) (by decide) rfl rfl (Nat.le_of_ble_eq_true rfl) (Nat.le_of_ble_eq_true rfl) fun a308 h309 q310 hg311 hN312 E313 A314 => ?_
    have f315 := (A1.ext E302)
    have ne316 : c ≠ a308 := Nat.ne_of_lt (Nat.lt_of_lt_of_le f315.lt hg311)
    have ne317 : a298 ≠ a308 := Nat.ne_of_lt (Nat.lt_of_lt_of_le A303.lt hg311)
    have A318 : Arv Z h309 a308 q310 .char (6 : Int32) [(.int (0 : Int32)), (.int (0 : Int32)), (.int (0 : Int32)), (.int (0 : Int32)), (.int (0 : Int32)), (.int (0 : Int32))] (.int (0 : Int32)) := A314.pad (pad_rep [] (.int (0 : Int32)) 6)
    refine Wk.dup (pc' := 194) d1_193 rfl rfl ?_
    refine Wk.iconst (pc' := 195) (v := 0) d1_194 rfl rfl ?_
    refine Wk.aloadN (pc' := 196) d1_195 rfl rfl rfl ?_
    refine Wk.iconst (pc' := 197) (v := 0) d1_196 rfl rfl ?_
    have f319 := (f315.ext E313)
    refine Wk.caload (pc' := 198) (v := (.int x0)) f319 ⟨by decide, by decide⟩ rfl d1_197 rfl ?_
    refine Wk.castore (pc' := 199) A318 hN312 ⟨by decide, by decide⟩ 0 (by decide) (Nat.le_of_ble_eq_true rfl) d1_198 rfl fun h320 W321 A322 => ?_
    have A323 : Arv Z h320 a308 q310 .char (6 : Int32) [(.int x0), (.int (0 : Int32)), (.int (0 : Int32)), (.int (0 : Int32)), (.int (0 : Int32)), (.int (0 : Int32))] (.int (0 : Int32)) := by have q := A322; rw [own_nc hx0] at q; exact q
    refine Wk.dup (pc' := 200) d1_199 rfl rfl ?_
    refine Wk.iconst (pc' := 201) (v := 1) d1_200 rfl rfl ?_
    refine Wk.aloadN (pc' := 202) d1_201 rfl rfl rfl ?_
    refine Wk.iconst (pc' := 203) (v := 1) d1_202 rfl rfl ?_
    have f324 := (f319.other W321 ne316)
    refine Wk.caload (pc' := 204) (v := (.int x1)) f324 ⟨by decide, by decide⟩ rfl d1_203 rfl ?_
    refine Wk.castore (pc' := 205) A323 hN312 ⟨by decide, by decide⟩ 1 (by decide) (Nat.le_of_ble_eq_true rfl) d1_204 rfl fun h325 W326 A327 => ?_
    have A328 : Arv Z h325 a308 q310 .char (6 : Int32) [(.int x0), (.int x1), (.int (0 : Int32)), (.int (0 : Int32)), (.int (0 : Int32)), (.int (0 : Int32))] (.int (0 : Int32)) := by have q := A327; rw [own_nc hx1] at q; exact q
    refine Wk.dup (pc' := 206) d1_205 rfl rfl ?_
    refine Wk.iconst (pc' := 207) (v := 2) d1_206 rfl rfl ?_
    refine Wk.aloadN (pc' := 208) d1_207 rfl rfl rfl ?_
    refine Wk.iconst (pc' := 209) (v := 2) d1_208 rfl rfl ?_
    have f329 := (f324.other W326 ne316)
    refine Wk.caload (pc' := 210) (v := (.int x2)) f329 ⟨by decide, by decide⟩ rfl d1_209 rfl ?_
    refine Wk.castore (pc' := 211) A328 hN312 ⟨by decide, by decide⟩ 2 (by decide) (Nat.le_of_ble_eq_true rfl) d1_210 rfl fun h330 W331 A332 => ?_
    have A333 : Arv Z h330 a308 q310 .char (6 : Int32) [(.int x0), (.int x1), (.int x2), (.int (0 : Int32)), (.int (0 : Int32)), (.int (0 : Int32))] (.int (0 : Int32)) := by have q := A332; rw [own_nc hx2] at q; exact q
    refine Wk.dup (pc' := 212) d1_211 rfl rfl ?_
    refine Wk.iconst (pc' := 213) (v := 3) d1_212 rfl rfl ?_
    refine Wk.aloadN (pc' := 214) d1_213 rfl rfl rfl ?_
    refine Wk.iconst (pc' := 215) (v := 3) d1_214 rfl rfl ?_
    have f334 := (f329.other W331 ne316)
    refine Wk.caload (pc' := 216) (v := (.int x3)) f334 ⟨by decide, by decide⟩ rfl d1_215 rfl ?_
    refine Wk.castore (pc' := 217) A333 hN312 ⟨by decide, by decide⟩ 3 (by decide) (Nat.le_of_ble_eq_true rfl) d1_216 rfl fun h335 W336 A337 => ?_
    have A338 : Arv Z h335 a308 q310 .char (6 : Int32) [(.int x0), (.int x1), (.int x2), (.int x3), (.int (0 : Int32)), (.int (0 : Int32))] (.int (0 : Int32)) := by have q := A337; rw [own_nc hx3] at q; exact q
    refine Wk.dup (pc' := 218) d1_217 rfl rfl ?_
    refine Wk.iconst (pc' := 219) (v := 4) d1_218 rfl rfl ?_
    refine Wk.aloadN (pc' := 220) d1_219 rfl rfl rfl ?_
    refine Wk.iconst (pc' := 221) (v := 4) d1_220 rfl rfl ?_
    have f339 := (f334.other W336 ne316)
    refine Wk.caload (pc' := 222) (v := (.int x4)) f339 ⟨by decide, by decide⟩ rfl d1_221 rfl ?_
    refine Wk.castore (pc' := 223) A338 hN312 ⟨by decide, by decide⟩ 4 (by decide) (Nat.le_of_ble_eq_true rfl) d1_222 rfl fun h340 W341 A342 => ?_
    have A343 : Arv Z h340 a308 q310 .char (6 : Int32) [(.int x0), (.int x1), (.int x2), (.int x3), (.int x4), (.int (0 : Int32))] (.int (0 : Int32)) := by have q := A342; rw [own_nc hx4] at q; exact q
    refine Wk.dup (pc' := 224) d1_223 rfl rfl ?_
    refine Wk.iconst (pc' := 225) (v := 5) d1_224 rfl rfl ?_
    refine Wk.aloadN (pc' := 226) d1_225 rfl rfl rfl ?_
    refine Wk.iconst (pc' := 227) (v := 5) d1_226 rfl rfl ?_
    have f344 := (f339.other W341 ne316)
    refine Wk.caload (pc' := 228) (v := (.int x5)) f344 ⟨by decide, by decide⟩ rfl d1_227 rfl ?_
    refine Wk.castore (pc' := 229) A343 hN312 ⟨by decide, by decide⟩ 5 (by decide) (Nat.le_of_ble_eq_true rfl) d1_228 rfl fun h345 W346 A347 => ?_
    have A348 : Arv Z h345 a308 q310 .char (6 : Int32) [(.int x0), (.int x1), (.int x2), (.int x3), (.int x4), (.int x5)] (.int (0 : Int32)) := by have q := A347; rw [own_nc hx5] at q; exact q
    have A349 : Arv Z h345 a308 q310 .char (Int32.ofNat [x0, x1, x2, x3, x4, x5].length) ([x0, x1, x2, x3, x4, x5].map Value.int) (.int (0 : Int32)) := A348
    have f350 := (((((((A303.ext E313).wr W321).wr W326).wr W331).wr W336).wr W341).wr W346)
    have f351 := (((((((F306.ext E313).other W321 (Or.inl ne317)).other W326 (Or.inl ne317)).other W331 (Or.inl ne317)).other W336 (Or.inl ne317)).other W341 (Or.inl ne317)).other W346 (Or.inl ne317))
    have f352 := (((((((F307.ext E313).other W321 (Or.inl ne317)).other W326 (Or.inl ne317)).other W331 (Or.inl ne317)).other W336 (Or.inl ne317)).other W341 (Or.inl ne317)).other W346 (Or.inl ne317))
    refine Wk.callN (a0 := a0) (pc' := 232) (k' := 4) (n' := 18) (W := 1) (b := b_s_in1e) (argsL := [(.ref a308)]) (rest := [(.ref a298)]) (rm_s_in1e hw a298 a308 q310 [x0, x1, x2, x3, x4, x5] cs Ts Lk h345  P0 G_cs f350 f351 f352 A349 hN301 (Nat.le_of_ble_eq_true rfl) (own_Lc hx0 (own_Lc hx1 (own_Lc hx2 (own_Lc hx3 (own_Lc hx4 (own_Lc hx5 own_Ln)))))) hT G_h7 G_cw) rfl rfl (w8 hw) (w9 hw) (w7 hw) (w10 hw) (by decide) (Nat.le_refl _) id (Nat.le_of_ble_eq_true rfl) (Nat.le_of_ble_eq_true rfl) rfl rfl (Nat.le_of_ble_eq_true rfl) (Nat.le_of_ble_eq_true rfl) rfl pd12 rfl rfl rfl (Nat.le_of_ble_eq_true rfl) d1_229 rfl fun v353 h354 J355 hs356 hQ357 => ?_
    obtain ⟨v'358, q'359, -, rfl, K360, g361, g362, g363⟩ := hQ357
    show Wk _ h354 4 18 J355 232 #[.val (.ref c), .val (.int (6 : Int32))] [(.ref a298)]
    have f364 := (f350.keep K360)
    exact Wk.areturn rfl rfl rfl d1_232 (Nat.le_of_ble_eq_true rfl) (Nat.le_of_ble_eq_true rfl) ⟨a298, v'358, q'359, trivial, rfl, (own_ext ((((((((((Keep.refl h0 []).ext E302).ext E313).wr W321 (Or.inr (Nat.le_trans E302.1 hg311))).wr W326 (Or.inr (Nat.le_trans E302.1 hg311))).wr W331 (Or.inr (Nat.le_trans E302.1 hg311))).wr W336 (Or.inr (Nat.le_trans E302.1 hg311))).wr W341 (Or.inr (Nat.le_trans E302.1 hg311))).wr W346 (Or.inr (Nat.le_trans E302.1 hg311))).trans K360 (allS (Or.inr hg300) all0))), hg300, f364, g361, g362, g363⟩
theorem ef_isp (m : MethodId) (x0 : Addr) : entryFrame m #[(.ref x0)] 1 = mkF m 0 #[.val (.ref x0)] [] := by first | (simp [entryFrame, mkF, argsToLocals, Value.category]; done) | rfl
abbrev b_isp : Bdy := ((⟨"com/example/samfed/samfed/config/ProfileFromConfigNamePinLaw", "isSpid", "(Ljava/lang/String;)Z"⟩ : MethodName), method_4_code, 1, (Option.some Jvm.ClassFile.FieldType.boolean), ({ frames := 4, cells := 0, slots := 0, locals := 53 } : Room))
def Q_isp (Z : State) (N : Nat) (a : Addr) (v' : Addr) (q : ClassId) (cl : List Int32) (sf : Value) (cs : Int32) (h0 : Heap) (I : Lts) (v : Option Value) (h : Heap) (J : Lts) : Prop := I = J ∧ v = some (.int (own_bi (decide (cl = ([115, 112, 105, 100] : List Int32))))) ∧ h0 = h
set_option maxRecDepth 65536 in
set_option maxHeartbeats 40000000 in
theorem rm_isp {l : Launch} {Z : State} {a0 : Array Value} {N : Nat} (hw : ∀ d ∈ tables_1, d.before a0 Z = true) (a : Addr) (v' : Addr) (q : ClassId) (cl : List Int32) (sf : Value) (cs : Int32) (h0 : Heap) (I : Lts) (P0 : Sta Z Z.heap "java/lang/String" "COMPACT_STRINGS" "Z" (.int cs)) (G_cs : ¬ cs = (0 : Int32)) (P2 : Sta Z Z.heap "jdk/internal/util/Preconditions" "SIOOBE_FORMATTER" "Ljava/util/function/BiFunction;" sf) (G_sf : sf.isRef = true) (P4 : Exa Z h0 a "java/lang/String") (P5 : Fld Z h0 a "java/lang/String" "value" "[B" (.ref v')) (P6 : Fld Z h0 a "java/lang/String" "coder" "B" (.int (0 : Int32))) (P7 : Arv Z h0 v' q .byte (Int32.ofNat cl.length) (cl.map own_by) (.int (0 : Int32))) (hn : cl.length < 2147483648) (hL : own_L cl) :
    Cn l Z N b_isp #[(.ref a)] h0 I (Q_isp Z N a v' q cl sf cs h0 I) := by
  refine Cn.of_wk (Ls := #[.val (.ref a)]) (plainFor_of_name (by first | (simp [plainName, overriddenIn]; done) | decide +kernel)) (fun m => ef_isp m a) ?_
  by_cases hl : cl.length = 4
  · skip
    refine Wk.aloadN (pc' := 1) d5_0 rfl rfl rfl ?_
    refine Wk.callV (a0 := a0) (pc' := 4) (k' := 0) (n' := 0) (W := 0) (b := b_s_len) (argsL := []) (rest := []) (y := (⟨"java/lang/String", "length", "()I"⟩ : MethodName)) (rm_s_len hw a v' q cl cs h0 I P0 G_cs P4 P5 P6 P7) P4 (w29 hw) (w30 hw) (w32 hw) (w32 hw) (w31 hw) (w7 hw) (w33 hw) (by decide) (Nat.le_refl _) id (Nat.le_of_ble_eq_true rfl) (Nat.le_of_ble_eq_true rfl) rfl rfl (Nat.le_of_ble_eq_true rfl) (Nat.le_of_ble_eq_true rfl) rfl pd13 rfl rfl rfl (Nat.le_of_ble_eq_true rfl) d5_1 rfl fun v1 h2 J3 hs4 hQ5 => ?_
    obtain ⟨rfl, rfl, rfl⟩ := hQ5
    show Wk _ h0 0 0 I 4 #[.val (.ref a)] [(.int (Int32.ofNat cl.length))]
    refine Wk.iconst (pc' := 5) (v := 4) d5_4 rfl rfl ?_
    refine Wk.icmp_neN (pc' := 8) d5_5 rfl (by rw [hl]; rfl) ?_
    refine Wk.aloadN (pc' := 9) d5_8 rfl rfl rfl ?_
    refine Wk.iconst (pc' := 10) (v := 0) d5_9 rfl rfl ?_
    refine Wk.callV (a0 := a0) (pc' := 13) (k' := 0) (n' := 0) (W := 0) (b := b_s_chr) (argsL := [(.int (0 : Int32))]) (rest := []) (y := (⟨"java/lang/String", "charAt", "(I)C"⟩ : MethodName)) (rm_s_chr hw a v' q cl 0 sf cs h0 I P0 G_cs P2 G_sf P4 P5 P6 P7 (by omega) hn hL) P4 (w99 hw) (w100 hw) (w102 hw) (w102 hw) (w101 hw) (w7 hw) (w103 hw) (by decide) (Nat.le_refl _) id (Nat.le_of_ble_eq_true rfl) (Nat.le_of_ble_eq_true rfl) rfl rfl (Nat.le_of_ble_eq_true rfl) (Nat.le_of_ble_eq_true rfl) rfl pd14 rfl rfl rfl (Nat.le_of_ble_eq_true rfl) d5_10 rfl fun v6 h7 J8 hs9 hQ10 => ?_
    obtain ⟨rfl, rfl, rfl⟩ := hQ10
    show Wk _ h0 0 0 I 13 #[.val (.ref a)] [(.int (cl.getD 0 0))]
    refine Wk.bipush (pc' := 15) (v := 115) d5_13 rfl rfl ?_
    by_cases c15_11 : (cl.getD 0 0) = (115 : Int32)
    · refine Wk.icmp_neN (pc' := 18) d5_15 rfl c15_11 ?_
      refine Wk.aloadN (pc' := 19) d5_18 rfl rfl rfl ?_
      refine Wk.iconst (pc' := 20) (v := 1) d5_19 rfl rfl ?_
      refine Wk.callV (a0 := a0) (pc' := 23) (k' := 0) (n' := 0) (W := 0) (b := b_s_chr) (argsL := [(.int (1 : Int32))]) (rest := []) (y := (⟨"java/lang/String", "charAt", "(I)C"⟩ : MethodName)) (rm_s_chr hw a v' q cl 1 sf cs h0 I P0 G_cs P2 G_sf P4 P5 P6 P7 (by omega) hn hL) P4 (w99 hw) (w100 hw) (w102 hw) (w102 hw) (w101 hw) (w7 hw) (w103 hw) (by decide) (Nat.le_refl _) id (Nat.le_of_ble_eq_true rfl) (Nat.le_of_ble_eq_true rfl) rfl rfl (Nat.le_of_ble_eq_true rfl) (Nat.le_of_ble_eq_true rfl) rfl pd14 rfl rfl rfl (Nat.le_of_ble_eq_true rfl) d5_20 rfl fun v12 h13 J14 hs15 hQ16 => ?_
      obtain ⟨rfl, rfl, rfl⟩ := hQ16
      show Wk _ h0 0 0 I 23 #[.val (.ref a)] [(.int (cl.getD 1 0))]
      refine Wk.bipush (pc' := 25) (v := 112) d5_23 rfl rfl ?_
      by_cases c25_17 : (cl.getD 1 0) = (112 : Int32)
      · refine Wk.icmp_neN (pc' := 28) d5_25 rfl c25_17 ?_
        refine Wk.aloadN (pc' := 29) d5_28 rfl rfl rfl ?_
        refine Wk.iconst (pc' := 30) (v := 2) d5_29 rfl rfl ?_
        refine Wk.callV (a0 := a0) (pc' := 33) (k' := 0) (n' := 0) (W := 0) (b := b_s_chr) (argsL := [(.int (2 : Int32))]) (rest := []) (y := (⟨"java/lang/String", "charAt", "(I)C"⟩ : MethodName)) (rm_s_chr hw a v' q cl 2 sf cs h0 I P0 G_cs P2 G_sf P4 P5 P6 P7 (by omega) hn hL) P4 (w99 hw) (w100 hw) (w102 hw) (w102 hw) (w101 hw) (w7 hw) (w103 hw) (by decide) (Nat.le_refl _) id (Nat.le_of_ble_eq_true rfl) (Nat.le_of_ble_eq_true rfl) rfl rfl (Nat.le_of_ble_eq_true rfl) (Nat.le_of_ble_eq_true rfl) rfl pd14 rfl rfl rfl (Nat.le_of_ble_eq_true rfl) d5_30 rfl fun v18 h19 J20 hs21 hQ22 => ?_
        obtain ⟨rfl, rfl, rfl⟩ := hQ22
        show Wk _ h0 0 0 I 33 #[.val (.ref a)] [(.int (cl.getD 2 0))]
        refine Wk.bipush (pc' := 35) (v := 105) d5_33 rfl rfl ?_
        by_cases c35_23 : (cl.getD 2 0) = (105 : Int32)
        · refine Wk.icmp_neN (pc' := 38) d5_35 rfl c35_23 ?_
          refine Wk.aloadN (pc' := 39) d5_38 rfl rfl rfl ?_
          refine Wk.iconst (pc' := 40) (v := 3) d5_39 rfl rfl ?_
          refine Wk.callV (a0 := a0) (pc' := 43) (k' := 0) (n' := 0) (W := 0) (b := b_s_chr) (argsL := [(.int (3 : Int32))]) (rest := []) (y := (⟨"java/lang/String", "charAt", "(I)C"⟩ : MethodName)) (rm_s_chr hw a v' q cl 3 sf cs h0 I P0 G_cs P2 G_sf P4 P5 P6 P7 (by omega) hn hL) P4 (w99 hw) (w100 hw) (w102 hw) (w102 hw) (w101 hw) (w7 hw) (w103 hw) (by decide) (Nat.le_refl _) id (Nat.le_of_ble_eq_true rfl) (Nat.le_of_ble_eq_true rfl) rfl rfl (Nat.le_of_ble_eq_true rfl) (Nat.le_of_ble_eq_true rfl) rfl pd14 rfl rfl rfl (Nat.le_of_ble_eq_true rfl) d5_40 rfl fun v24 h25 J26 hs27 hQ28 => ?_
          obtain ⟨rfl, rfl, rfl⟩ := hQ28
          show Wk _ h0 0 0 I 43 #[.val (.ref a)] [(.int (cl.getD 3 0))]
          refine Wk.bipush (pc' := 45) (v := 100) d5_43 rfl rfl ?_
          by_cases c45_29 : (cl.getD 3 0) = (100 : Int32)
          · refine Wk.icmp_neN (pc' := 48) d5_45 rfl c45_29 ?_
            refine Wk.iconst (pc' := 49) (v := 1) d5_48 rfl rfl ?_
            refine Wk.goto (pc' := 53) d5_49 (by decide) ?_
            exact Wk.zreturn rfl (by simp) d5_53 (Nat.le_of_ble_eq_true rfl) (Nat.le_of_ble_eq_true rfl) ⟨rfl, (by rw [decide_eq_true (own_lit4 hl c15_11 c25_17 c35_23 c45_29)]; rfl), rfl⟩
          · refine Wk.icmp_neY (pc' := 52) d5_45 (by decide) c45_29 ?_
            refine Wk.iconst (pc' := 53) (v := 0) d5_52 rfl rfl ?_
            exact Wk.zreturn rfl (by simp) d5_53 (Nat.le_of_ble_eq_true rfl) (Nat.le_of_ble_eq_true rfl) ⟨rfl, (by rw [decide_eq_false (fun q => c45_29 (by rw [q]; rfl))]; rfl), rfl⟩
        · refine Wk.icmp_neY (pc' := 52) d5_35 (by decide) c35_23 ?_
          refine Wk.iconst (pc' := 53) (v := 0) d5_52 rfl rfl ?_
          exact Wk.zreturn rfl (by simp) d5_53 (Nat.le_of_ble_eq_true rfl) (Nat.le_of_ble_eq_true rfl) ⟨rfl, (by rw [decide_eq_false (fun q => c35_23 (by rw [q]; rfl))]; rfl), rfl⟩
      · refine Wk.icmp_neY (pc' := 52) d5_25 (by decide) c25_17 ?_
        refine Wk.iconst (pc' := 53) (v := 0) d5_52 rfl rfl ?_
        exact Wk.zreturn rfl (by simp) d5_53 (Nat.le_of_ble_eq_true rfl) (Nat.le_of_ble_eq_true rfl) ⟨rfl, (by rw [decide_eq_false (fun q => c25_17 (by rw [q]; rfl))]; rfl), rfl⟩
    · refine Wk.icmp_neY (pc' := 52) d5_15 (by decide) c15_11 ?_
      refine Wk.iconst (pc' := 53) (v := 0) d5_52 rfl rfl ?_
      exact Wk.zreturn rfl (by simp) d5_53 (Nat.le_of_ble_eq_true rfl) (Nat.le_of_ble_eq_true rfl) ⟨rfl, (by rw [decide_eq_false (fun q => c15_11 (by rw [q]; rfl))]; rfl), rfl⟩
  · skip
    refine Wk.aloadN (pc' := 1) d5_0 rfl rfl rfl ?_
    refine Wk.callV (a0 := a0) (pc' := 4) (k' := 0) (n' := 0) (W := 0) (b := b_s_len) (argsL := []) (rest := []) (y := (⟨"java/lang/String", "length", "()I"⟩ : MethodName)) (rm_s_len hw a v' q cl cs h0 I P0 G_cs P4 P5 P6 P7) P4 (w29 hw) (w30 hw) (w32 hw) (w32 hw) (w31 hw) (w7 hw) (w33 hw) (by decide) (Nat.le_refl _) id (Nat.le_of_ble_eq_true rfl) (Nat.le_of_ble_eq_true rfl) rfl rfl (Nat.le_of_ble_eq_true rfl) (Nat.le_of_ble_eq_true rfl) rfl pd13 rfl rfl rfl (Nat.le_of_ble_eq_true rfl) d5_1 rfl fun v30 h31 J32 hs33 hQ34 => ?_
    obtain ⟨rfl, rfl, rfl⟩ := hQ34
    show Wk _ h0 0 0 I 4 #[.val (.ref a)] [(.int (Int32.ofNat cl.length))]
    refine Wk.iconst (pc' := 5) (v := 4) d5_4 rfl rfl ?_
    refine Wk.icmp_neY (pc' := 52) d5_5 (by decide) (fun q => hl ((own_eq (j := 4) hn (by decide)).mp q)) ?_
    refine Wk.iconst (pc' := 53) (v := 0) d5_52 rfl rfl ?_
    exact Wk.zreturn rfl (by simp) d5_53 (Nat.le_of_ble_eq_true rfl) (Nat.le_of_ble_eq_true rfl) ⟨rfl, (by rw [decide_eq_false (fun q => hl (by rw [q]; rfl))]; rfl), rfl⟩
theorem ef_isa (m : MethodId) (x0 : Addr) : entryFrame m #[(.ref x0)] 1 = mkF m 0 #[.val (.ref x0)] [] := by first | (simp [entryFrame, mkF, argsToLocals, Value.category]; done) | rfl
abbrev b_isa : Bdy := ((⟨"com/example/samfed/samfed/config/ProfileFromConfigNamePinLaw", "isSaml2", "(Ljava/lang/String;)Z"⟩ : MethodName), method_5_code, 1, (Option.some Jvm.ClassFile.FieldType.boolean), ({ frames := 4, cells := 0, slots := 0, locals := 53 } : Room))
def Q_isa (Z : State) (N : Nat) (a : Addr) (v' : Addr) (q : ClassId) (cl : List Int32) (sf : Value) (cs : Int32) (h0 : Heap) (I : Lts) (v : Option Value) (h : Heap) (J : Lts) : Prop := I = J ∧ v = some (.int (own_bi (decide (cl = ([115, 97, 109, 108, 50] : List Int32))))) ∧ h0 = h
set_option maxRecDepth 65536 in
set_option maxHeartbeats 40000000 in
theorem rm_isa {l : Launch} {Z : State} {a0 : Array Value} {N : Nat} (hw : ∀ d ∈ tables_1, d.before a0 Z = true) (a : Addr) (v' : Addr) (q : ClassId) (cl : List Int32) (sf : Value) (cs : Int32) (h0 : Heap) (I : Lts) (P0 : Sta Z Z.heap "java/lang/String" "COMPACT_STRINGS" "Z" (.int cs)) (G_cs : ¬ cs = (0 : Int32)) (P2 : Sta Z Z.heap "jdk/internal/util/Preconditions" "SIOOBE_FORMATTER" "Ljava/util/function/BiFunction;" sf) (G_sf : sf.isRef = true) (P4 : Exa Z h0 a "java/lang/String") (P5 : Fld Z h0 a "java/lang/String" "value" "[B" (.ref v')) (P6 : Fld Z h0 a "java/lang/String" "coder" "B" (.int (0 : Int32))) (P7 : Arv Z h0 v' q .byte (Int32.ofNat cl.length) (cl.map own_by) (.int (0 : Int32))) (hn : cl.length < 2147483648) (hL : own_L cl) :
    Cn l Z N b_isa #[(.ref a)] h0 I (Q_isa Z N a v' q cl sf cs h0 I) := by
  refine Cn.of_wk (Ls := #[.val (.ref a)]) (plainFor_of_name (by first | (simp [plainName, overriddenIn]; done) | decide +kernel)) (fun m => ef_isa m a) ?_
  by_cases hl : cl.length = 5
  · skip
    refine Wk.aloadN (pc' := 1) d8_0 rfl rfl rfl ?_
    refine Wk.callV (a0 := a0) (pc' := 4) (k' := 0) (n' := 0) (W := 0) (b := b_s_len) (argsL := []) (rest := []) (y := (⟨"java/lang/String", "length", "()I"⟩ : MethodName)) (rm_s_len hw a v' q cl cs h0 I P0 G_cs P4 P5 P6 P7) P4 (w29 hw) (w30 hw) (w32 hw) (w32 hw) (w31 hw) (w7 hw) (w33 hw) (by decide) (Nat.le_refl _) id (Nat.le_of_ble_eq_true rfl) (Nat.le_of_ble_eq_true rfl) rfl rfl (Nat.le_of_ble_eq_true rfl) (Nat.le_of_ble_eq_true rfl) rfl pd13 rfl rfl rfl (Nat.le_of_ble_eq_true rfl) d8_1 rfl fun v1 h2 J3 hs4 hQ5 => ?_
    obtain ⟨rfl, rfl, rfl⟩ := hQ5
    show Wk _ h0 0 0 I 4 #[.val (.ref a)] [(.int (Int32.ofNat cl.length))]
    refine Wk.iconst (pc' := 5) (v := 5) d8_4 rfl rfl ?_
    refine Wk.icmp_neN (pc' := 8) d8_5 rfl (by rw [hl]; rfl) ?_
    refine Wk.aloadN (pc' := 9) d8_8 rfl rfl rfl ?_
    refine Wk.iconst (pc' := 10) (v := 0) d8_9 rfl rfl ?_
    refine Wk.callV (a0 := a0) (pc' := 13) (k' := 0) (n' := 0) (W := 0) (b := b_s_chr) (argsL := [(.int (0 : Int32))]) (rest := []) (y := (⟨"java/lang/String", "charAt", "(I)C"⟩ : MethodName)) (rm_s_chr hw a v' q cl 0 sf cs h0 I P0 G_cs P2 G_sf P4 P5 P6 P7 (by omega) hn hL) P4 (w99 hw) (w100 hw) (w102 hw) (w102 hw) (w101 hw) (w7 hw) (w103 hw) (by decide) (Nat.le_refl _) id (Nat.le_of_ble_eq_true rfl) (Nat.le_of_ble_eq_true rfl) rfl rfl (Nat.le_of_ble_eq_true rfl) (Nat.le_of_ble_eq_true rfl) rfl pd14 rfl rfl rfl (Nat.le_of_ble_eq_true rfl) d8_10 rfl fun v6 h7 J8 hs9 hQ10 => ?_
    obtain ⟨rfl, rfl, rfl⟩ := hQ10
    show Wk _ h0 0 0 I 13 #[.val (.ref a)] [(.int (cl.getD 0 0))]
    refine Wk.bipush (pc' := 15) (v := 115) d8_13 rfl rfl ?_
    by_cases c15_11 : (cl.getD 0 0) = (115 : Int32)
    · refine Wk.icmp_neN (pc' := 18) d8_15 rfl c15_11 ?_
      refine Wk.aloadN (pc' := 19) d8_18 rfl rfl rfl ?_
      refine Wk.iconst (pc' := 20) (v := 1) d8_19 rfl rfl ?_
      refine Wk.callV (a0 := a0) (pc' := 23) (k' := 0) (n' := 0) (W := 0) (b := b_s_chr) (argsL := [(.int (1 : Int32))]) (rest := []) (y := (⟨"java/lang/String", "charAt", "(I)C"⟩ : MethodName)) (rm_s_chr hw a v' q cl 1 sf cs h0 I P0 G_cs P2 G_sf P4 P5 P6 P7 (by omega) hn hL) P4 (w99 hw) (w100 hw) (w102 hw) (w102 hw) (w101 hw) (w7 hw) (w103 hw) (by decide) (Nat.le_refl _) id (Nat.le_of_ble_eq_true rfl) (Nat.le_of_ble_eq_true rfl) rfl rfl (Nat.le_of_ble_eq_true rfl) (Nat.le_of_ble_eq_true rfl) rfl pd14 rfl rfl rfl (Nat.le_of_ble_eq_true rfl) d8_20 rfl fun v12 h13 J14 hs15 hQ16 => ?_
      obtain ⟨rfl, rfl, rfl⟩ := hQ16
      show Wk _ h0 0 0 I 23 #[.val (.ref a)] [(.int (cl.getD 1 0))]
      refine Wk.bipush (pc' := 25) (v := 97) d8_23 rfl rfl ?_
      by_cases c25_17 : (cl.getD 1 0) = (97 : Int32)
      · refine Wk.icmp_neN (pc' := 28) d8_25 rfl c25_17 ?_
        refine Wk.aloadN (pc' := 29) d8_28 rfl rfl rfl ?_
        refine Wk.iconst (pc' := 30) (v := 2) d8_29 rfl rfl ?_
        refine Wk.callV (a0 := a0) (pc' := 33) (k' := 0) (n' := 0) (W := 0) (b := b_s_chr) (argsL := [(.int (2 : Int32))]) (rest := []) (y := (⟨"java/lang/String", "charAt", "(I)C"⟩ : MethodName)) (rm_s_chr hw a v' q cl 2 sf cs h0 I P0 G_cs P2 G_sf P4 P5 P6 P7 (by omega) hn hL) P4 (w99 hw) (w100 hw) (w102 hw) (w102 hw) (w101 hw) (w7 hw) (w103 hw) (by decide) (Nat.le_refl _) id (Nat.le_of_ble_eq_true rfl) (Nat.le_of_ble_eq_true rfl) rfl rfl (Nat.le_of_ble_eq_true rfl) (Nat.le_of_ble_eq_true rfl) rfl pd14 rfl rfl rfl (Nat.le_of_ble_eq_true rfl) d8_30 rfl fun v18 h19 J20 hs21 hQ22 => ?_
        obtain ⟨rfl, rfl, rfl⟩ := hQ22
        show Wk _ h0 0 0 I 33 #[.val (.ref a)] [(.int (cl.getD 2 0))]
        refine Wk.bipush (pc' := 35) (v := 109) d8_33 rfl rfl ?_
        by_cases c35_23 : (cl.getD 2 0) = (109 : Int32)
        · refine Wk.icmp_neN (pc' := 38) d8_35 rfl c35_23 ?_
          refine Wk.aloadN (pc' := 39) d8_38 rfl rfl rfl ?_
          refine Wk.iconst (pc' := 40) (v := 3) d8_39 rfl rfl ?_
          refine Wk.callV (a0 := a0) (pc' := 43) (k' := 0) (n' := 0) (W := 0) (b := b_s_chr) (argsL := [(.int (3 : Int32))]) (rest := []) (y := (⟨"java/lang/String", "charAt", "(I)C"⟩ : MethodName)) (rm_s_chr hw a v' q cl 3 sf cs h0 I P0 G_cs P2 G_sf P4 P5 P6 P7 (by omega) hn hL) P4 (w99 hw) (w100 hw) (w102 hw) (w102 hw) (w101 hw) (w7 hw) (w103 hw) (by decide) (Nat.le_refl _) id (Nat.le_of_ble_eq_true rfl) (Nat.le_of_ble_eq_true rfl) rfl rfl (Nat.le_of_ble_eq_true rfl) (Nat.le_of_ble_eq_true rfl) rfl pd14 rfl rfl rfl (Nat.le_of_ble_eq_true rfl) d8_40 rfl fun v24 h25 J26 hs27 hQ28 => ?_
          obtain ⟨rfl, rfl, rfl⟩ := hQ28
          show Wk _ h0 0 0 I 43 #[.val (.ref a)] [(.int (cl.getD 3 0))]
          refine Wk.bipush (pc' := 45) (v := 108) d8_43 rfl rfl ?_
          by_cases c45_29 : (cl.getD 3 0) = (108 : Int32)
          · refine Wk.icmp_neN (pc' := 48) d8_45 rfl c45_29 ?_
            refine Wk.aloadN (pc' := 49) d8_48 rfl rfl rfl ?_
            refine Wk.iconst (pc' := 50) (v := 4) d8_49 rfl rfl ?_
            refine Wk.callV (a0 := a0) (pc' := 53) (k' := 0) (n' := 0) (W := 0) (b := b_s_chr) (argsL := [(.int (4 : Int32))]) (rest := []) (y := (⟨"java/lang/String", "charAt", "(I)C"⟩ : MethodName)) (rm_s_chr hw a v' q cl 4 sf cs h0 I P0 G_cs P2 G_sf P4 P5 P6 P7 (by omega) hn hL) P4 (w99 hw) (w100 hw) (w102 hw) (w102 hw) (w101 hw) (w7 hw) (w103 hw) (by decide) (Nat.le_refl _) id (Nat.le_of_ble_eq_true rfl) (Nat.le_of_ble_eq_true rfl) rfl rfl (Nat.le_of_ble_eq_true rfl) (Nat.le_of_ble_eq_true rfl) rfl pd14 rfl rfl rfl (Nat.le_of_ble_eq_true rfl) d8_50 rfl fun v30 h31 J32 hs33 hQ34 => ?_
            obtain ⟨rfl, rfl, rfl⟩ := hQ34
            show Wk _ h0 0 0 I 53 #[.val (.ref a)] [(.int (cl.getD 4 0))]
            refine Wk.bipush (pc' := 55) (v := 50) d8_53 rfl rfl ?_
            by_cases c55_35 : (cl.getD 4 0) = (50 : Int32)
            · refine Wk.icmp_neN (pc' := 58) d8_55 rfl c55_35 ?_
              refine Wk.iconst (pc' := 59) (v := 1) d8_58 rfl rfl ?_
              refine Wk.goto (pc' := 63) d8_59 (by decide) ?_
              exact Wk.zreturn rfl (by simp) d8_63 (Nat.le_of_ble_eq_true rfl) (Nat.le_of_ble_eq_true rfl) ⟨rfl, (by rw [decide_eq_true (own_lit5 hl c15_11 c25_17 c35_23 c45_29 c55_35)]; rfl), rfl⟩
            · refine Wk.icmp_neY (pc' := 62) d8_55 (by decide) c55_35 ?_
              refine Wk.iconst (pc' := 63) (v := 0) d8_62 rfl rfl ?_
              exact Wk.zreturn rfl (by simp) d8_63 (Nat.le_of_ble_eq_true rfl) (Nat.le_of_ble_eq_true rfl) ⟨rfl, (by rw [decide_eq_false (fun q => c55_35 (by rw [q]; rfl))]; rfl), rfl⟩
          · refine Wk.icmp_neY (pc' := 62) d8_45 (by decide) c45_29 ?_
            refine Wk.iconst (pc' := 63) (v := 0) d8_62 rfl rfl ?_
            exact Wk.zreturn rfl (by simp) d8_63 (Nat.le_of_ble_eq_true rfl) (Nat.le_of_ble_eq_true rfl) ⟨rfl, (by rw [decide_eq_false (fun q => c45_29 (by rw [q]; rfl))]; rfl), rfl⟩
        · refine Wk.icmp_neY (pc' := 62) d8_35 (by decide) c35_23 ?_
          refine Wk.iconst (pc' := 63) (v := 0) d8_62 rfl rfl ?_
          exact Wk.zreturn rfl (by simp) d8_63 (Nat.le_of_ble_eq_true rfl) (Nat.le_of_ble_eq_true rfl) ⟨rfl, (by rw [decide_eq_false (fun q => c35_23 (by rw [q]; rfl))]; rfl), rfl⟩
      · refine Wk.icmp_neY (pc' := 62) d8_25 (by decide) c25_17 ?_
        refine Wk.iconst (pc' := 63) (v := 0) d8_62 rfl rfl ?_
        exact Wk.zreturn rfl (by simp) d8_63 (Nat.le_of_ble_eq_true rfl) (Nat.le_of_ble_eq_true rfl) ⟨rfl, (by rw [decide_eq_false (fun q => c25_17 (by rw [q]; rfl))]; rfl), rfl⟩
    · refine Wk.icmp_neY (pc' := 62) d8_15 (by decide) c15_11 ?_
      refine Wk.iconst (pc' := 63) (v := 0) d8_62 rfl rfl ?_
      exact Wk.zreturn rfl (by simp) d8_63 (Nat.le_of_ble_eq_true rfl) (Nat.le_of_ble_eq_true rfl) ⟨rfl, (by rw [decide_eq_false (fun q => c15_11 (by rw [q]; rfl))]; rfl), rfl⟩
  · skip
    refine Wk.aloadN (pc' := 1) d8_0 rfl rfl rfl ?_
    refine Wk.callV (a0 := a0) (pc' := 4) (k' := 0) (n' := 0) (W := 0) (b := b_s_len) (argsL := []) (rest := []) (y := (⟨"java/lang/String", "length", "()I"⟩ : MethodName)) (rm_s_len hw a v' q cl cs h0 I P0 G_cs P4 P5 P6 P7) P4 (w29 hw) (w30 hw) (w32 hw) (w32 hw) (w31 hw) (w7 hw) (w33 hw) (by decide) (Nat.le_refl _) id (Nat.le_of_ble_eq_true rfl) (Nat.le_of_ble_eq_true rfl) rfl rfl (Nat.le_of_ble_eq_true rfl) (Nat.le_of_ble_eq_true rfl) rfl pd13 rfl rfl rfl (Nat.le_of_ble_eq_true rfl) d8_1 rfl fun v36 h37 J38 hs39 hQ40 => ?_
    obtain ⟨rfl, rfl, rfl⟩ := hQ40
    show Wk _ h0 0 0 I 4 #[.val (.ref a)] [(.int (Int32.ofNat cl.length))]
    refine Wk.iconst (pc' := 5) (v := 5) d8_4 rfl rfl ?_
    refine Wk.icmp_neY (pc' := 62) d8_5 (by decide) (fun q => hl ((own_eq (j := 5) hn (by decide)).mp q)) ?_
    refine Wk.iconst (pc' := 63) (v := 0) d8_62 rfl rfl ?_
    exact Wk.zreturn rfl (by simp) d8_63 (Nat.le_of_ble_eq_true rfl) (Nat.le_of_ble_eq_true rfl) ⟨rfl, (by rw [decide_eq_false (fun q => hl (by rw [q]; rfl))]; rfl), rfl⟩
theorem ef_vals (m : MethodId)  : entryFrame m #[] 0 = mkF m 0 #[] [] := by first | (simp [entryFrame, mkF, argsToLocals, Value.category]; done) | rfl
abbrev b_vals : Bdy := ((⟨"com/example/samfed/samfed/config/Profile", "values", "()[Lcom/example/samfed/samfed/config/Profile;"⟩ : MethodName), prog_7_method_1_code, 0, (Option.some (Jvm.ClassFile.FieldType.array (Jvm.ClassFile.FieldType.object "com/example/samfed/samfed/config/Profile"))), ({ frames := 1, cells := 1, slots := 2, locals := 14 } : Room))
def Q_vals (Z : State) (N : Nat) (va : Addr) (qv : ClassId) (p1 : Addr) (p2 : Addr) (h0 : Heap) (I : Lts) (v : Option Value) (h : Heap) (J : Lts) : Prop := ∃ r : Addr, I = J ∧ v = some (.ref r) ∧ Ext h0 h ∧ h0.size ≤ r ∧ Arv Z h r qv (.object "com/example/samfed/samfed/config/Profile") (2 : Int32) [(.ref p1), (.ref p2)] .null
set_option maxRecDepth 65536 in
set_option maxHeartbeats 40000000 in
theorem rm_vals {l : Launch} {Z : State} {a0 : Array Value} {N : Nat} (hw : ∀ d ∈ tables_1, d.before a0 Z = true) (va : Addr) (qv : ClassId) (p1 : Addr) (p2 : Addr) (h0 : Heap) (I : Lts) (P0 : Sta Z Z.heap "com/example/samfed/samfed/config/Profile" "$VALUES" "[Lcom/example/samfed/samfed/config/Profile;" (.ref va)) (P1 : Exa Z h0 va "[Lcom/example/samfed/samfed/config/Profile;") (P2 : Arv Z h0 va qv (.object "com/example/samfed/samfed/config/Profile") (2 : Int32) [(.ref p1), (.ref p2)] .null) :
    Cn l Z N b_vals #[] h0 I (Q_vals Z N va qv p1 p2 h0 I) := by
  refine Cn.of_wk (Ls := #[]) (plainFor_of_name (by first | (simp [plainName, overriddenIn]; done) | decide +kernel)) (fun m => ef_vals m ) ?_
  refine Wk.getS (a0 := a0) (pc' := 3) (host := "") (Or.inl (w50 hw)) Via.refl P0 d10_0 rfl ?_
  refine Wk.clone (a0 := a0) (pc' := 6) (k' := 1) (n' := 2) (W := 0) (cap := 2) P2 P1 (w52 hw) (w53 hw) (w57 hw) (w55 hw) (w56 hw) (w58 hw) rfl d10_3 rfl (Nat.le_of_ble_eq_true rfl) (Nat.le_of_ble_eq_true rfl) (Nat.le_of_ble_eq_true rfl) (by decide) rfl rfl (Nat.le_of_ble_eq_true rfl) (Nat.le_of_ble_eq_true rfl) fun a1 h2 hg3 hN4 E5 A6 X7 => ?_
  have ne8 : va ≠ a1 := Nat.ne_of_lt (Nat.lt_of_lt_of_le P1.lt hg3)
  refine Wk.castY (a0 := a0) (pc' := 9) (w62 hw) (Ins.self X7) d10_6 rfl ?_
  exact Wk.areturn rfl rfl rfl d10_9 (Nat.le_of_ble_eq_true rfl) (Nat.le_of_ble_eq_true rfl) ⟨a1, rfl, rfl, (own_ext ((Keep.refl h0 []).ext E5)), hg3, A6⟩
theorem ef_fcn (m : MethodId) (x0 : Addr) : entryFrame m #[(.ref x0)] 5 = mkF m 0 #[.val (.ref x0), .unset, .unset, .unset, .unset] [] := by first | (simp [entryFrame, mkF, argsToLocals, Value.category]; done) | rfl
abbrev b_fcn : Bdy := ((⟨"com/example/samfed/samfed/config/Profile", "fromConfigName", "(Ljava/lang/String;)Ljava/util/Optional;"⟩ : MethodName), prog_7_method_5_code, 5, (Option.some (Jvm.ClassFile.FieldType.object "java/util/Optional")), ({ frames := 3, cells := 2, slots := 3, locals := 53 } : Room))
def Q_fcn (Z : State) (N : Nat) (a : Addr) (v' : Addr) (q : ClassId) (cl : List Int32) (va : Addr) (qv : ClassId) (p1 : Addr) (p2 : Addr) (s1 : Addr) (s2 : Addr) (v1 : Addr) (v2 : Addr) (q1 : ClassId) (q2 : ClassId) (em : Addr) (cs : Int32) (h0 : Heap) (I : Lts) (v : Option Value) (h : Heap) (J : Lts) : Prop := ∃ r : Addr, I = J ∧ v = some (.ref r) ∧ Ext h0 h ∧ Exa Z h r "java/util/Optional" ∧ Fld Z h r "java/util/Optional" "value" "Ljava/lang/Object;" (own_pk p1 p2 cl)
set_option maxRecDepth 65536 in
set_option maxHeartbeats 40000000 in
theorem rm_fcn {l : Launch} {Z : State} {a0 : Array Value} {N : Nat} (hw : ∀ d ∈ tables_1, d.before a0 Z = true) (a : Addr) (v' : Addr) (q : ClassId) (cl : List Int32) (va : Addr) (qv : ClassId) (p1 : Addr) (p2 : Addr) (s1 : Addr) (s2 : Addr) (v1 : Addr) (v2 : Addr) (q1 : ClassId) (q2 : ClassId) (em : Addr) (cs : Int32) (h0 : Heap) (I : Lts) (P0 : Sta Z Z.heap "com/example/samfed/samfed/config/Profile" "$VALUES" "[Lcom/example/samfed/samfed/config/Profile;" (.ref va)) (P1 : Exa Z h0 va "[Lcom/example/samfed/samfed/config/Profile;") (P2 : Arv Z h0 va qv (.object "com/example/samfed/samfed/config/Profile") (2 : Int32) [(.ref p1), (.ref p2)] .null) (P3 : Sta Z Z.heap "java/lang/String" "COMPACT_STRINGS" "Z" (.int cs)) (G_cs : ¬ cs = (0 : Int32)) (P5 : Exa Z h0 p1 "com/example/samfed/samfed/config/Profile") (P6 : Exa Z h0 p2 "com/example/samfed/samfed/config/Profile") (P7 : Fld Z h0 p1 "com/example/samfed/samfed/config/Profile" "configName" "Ljava/lang/String;" (.ref s1)) (P8 : Fld Z h0 p2 "com/example/samfed/samfed/config/Profile" "configName" "Ljava/lang/String;" (.ref s2)) (P9 : Exa Z h0 s1 "java/lang/String") (P10 : Fld Z h0 s1 "java/lang/String" "value" "[B" (.ref v1)) (P11 : Fld Z h0 s1 "java/lang/String" "coder" "B" (.int (0 : Int32))) (P12 : Arv Z h0 v1 q1 .byte (Int32.ofNat ([115, 112, 105, 100] : List Int32).length) (([115, 112, 105, 100] : List Int32).map own_by) (.int (0 : Int32))) (P13 : Exa Z h0 s2 "java/lang/String") (P14 : Fld Z h0 s2 "java/lang/String" "value" "[B" (.ref v2)) (P15 : Fld Z h0 s2 "java/lang/String" "coder" "B" (.int (0 : Int32))) (P16 : Arv Z h0 v2 q2 .byte (Int32.ofNat ([115, 97, 109, 108, 50] : List Int32).length) (([115, 97, 109, 108, 50] : List Int32).map own_by) (.int (0 : Int32))) (P17 : Sta Z Z.heap "java/util/Optional" "EMPTY" "Ljava/util/Optional;" (.ref em)) (P18 : Exa Z h0 em "java/util/Optional") (P19 : Fld Z h0 em "java/util/Optional" "value" "Ljava/lang/Object;" .null) (P20 : Exa Z h0 a "java/lang/String") (P21 : Fld Z h0 a "java/lang/String" "value" "[B" (.ref v')) (P22 : Fld Z h0 a "java/lang/String" "coder" "B" (.int (0 : Int32))) (P23 : Arv Z h0 v' q .byte (Int32.ofNat cl.length) (cl.map own_by) (.int (0 : Int32))) (P24 : s1 ≠ a) (P25 : s2 ≠ a) (hn : cl.length < 2147483647) (hL : own_L cl) :
    Cn l Z N b_fcn #[(.ref a)] h0 I (Q_fcn Z N a v' q cl va qv p1 p2 s1 s2 v1 v2 q1 q2 em cs h0 I) := by
  refine Cn.of_wk (Ls := #[.val (.ref a), .unset, .unset, .unset, .unset]) (plainFor_of_name (by first | (simp [plainName, overriddenIn]; done) | decide +kernel)) (fun m => ef_fcn m a) ?_
  refine Wk.callS (a0 := a0) (pc' := 3) (k' := 1) (n' := 2) (W := 0) (b := b_vals) (argsL := []) (rest := []) (rm_vals hw va qv p1 p2 h0 I P0 P1 P2) (w47 hw) (w48 hw) (w45 hw) (w49 hw) (by decide) (Nat.le_refl _) id (Nat.le_of_ble_eq_true rfl) (Nat.le_of_ble_eq_true rfl) rfl rfl (Nat.le_of_ble_eq_true rfl) (Nat.le_of_ble_eq_true rfl) rfl pd15 rfl rfl rfl (Nat.le_of_ble_eq_true rfl) d9_0 rfl fun v1 h2 J3 hs4 hQ5 => ?_
  obtain ⟨r6, rfl, rfl, E7, g8, g9⟩ := hQ5
  have ne10 : va ≠ r6 := Nat.ne_of_lt (Nat.lt_of_lt_of_le P1.lt g8)
  have ne11 : p1 ≠ r6 := Nat.ne_of_lt (Nat.lt_of_lt_of_le P5.lt g8)
  have ne12 : p2 ≠ r6 := Nat.ne_of_lt (Nat.lt_of_lt_of_le P6.lt g8)
  have ne13 : s1 ≠ r6 := Nat.ne_of_lt (Nat.lt_of_lt_of_le P9.lt g8)
  have ne14 : v1 ≠ r6 := Nat.ne_of_lt (Nat.lt_of_lt_of_le P12.lt g8)
  have ne15 : s2 ≠ r6 := Nat.ne_of_lt (Nat.lt_of_lt_of_le P13.lt g8)
  have ne16 : v2 ≠ r6 := Nat.ne_of_lt (Nat.lt_of_lt_of_le P16.lt g8)
  have ne17 : em ≠ r6 := Nat.ne_of_lt (Nat.lt_of_lt_of_le P18.lt g8)
  have ne18 : a ≠ r6 := Nat.ne_of_lt (Nat.lt_of_lt_of_le P20.lt g8)
  have ne19 : v' ≠ r6 := Nat.ne_of_lt (Nat.lt_of_lt_of_le P23.lt g8)
  show Wk _ h2 1 2 I 3 #[.val (.ref a), .unset, .unset, .unset, .unset] [(.ref r6)]
  refine Wk.astoreN (pc' := 4) #[.val (.ref a), .val (.ref r6), .unset, .unset, .unset] d9_3 rfl rfl rfl ?_
  refine Wk.aloadN (pc' := 5) d9_4 rfl rfl rfl ?_
  refine Wk.arraylength (pc' := 6) g9 d9_5 rfl ?_
  refine Wk.istoreN (pc' := 7) #[.val (.ref a), .val (.ref r6), .val (.int (2 : Int32)), .unset, .unset] d9_6 rfl rfl ?_
  refine Wk.iconst (pc' := 8) (v := 0) d9_7 rfl rfl ?_
  refine Wk.istoreN (pc' := 9) #[.val (.ref a), .val (.ref r6), .val (.int (2 : Int32)), .val (.int (0 : Int32)), .unset] d9_8 rfl rfl ?_
  refine Wk.iloadN (pc' := 10) d9_9 rfl rfl ?_
  refine Wk.iloadN (pc' := 11) d9_10 rfl rfl ?_
  refine Wk.icmp_geN (pc' := 14) d9_11 rfl (by decide) ?_
  refine Wk.aloadN (pc' := 15) d9_14 rfl rfl rfl ?_
  refine Wk.iloadN (pc' := 16) d9_15 rfl rfl ?_
  refine Wk.aaload (pc' := 17) (v := (.ref p1)) g9 rfl ⟨by decide, by decide⟩ rfl d9_16 rfl ?_
  refine Wk.astore (pc' := 19) #[.val (.ref a), .val (.ref r6), .val (.int (2 : Int32)), .val (.int (0 : Int32)), .val (.ref p1)] d9_17 rfl rfl rfl ?_
  refine Wk.aload (pc' := 21) d9_19 rfl rfl rfl ?_
  have f20 := (P7.ext E7)
  refine Wk.getF (a0 := a0) (pc' := 24) (host := "") (Or.inl (w64 hw)) Via.refl f20 d9_21 rfl ?_
  refine Wk.aloadN (pc' := 25) d9_24 rfl rfl rfl ?_
  have f21 := (P9.ext E7)
  have f22 := (P10.ext E7)
  have f23 := (P11.ext E7)
  have f24 := (P12.ext E7)
  have f25 := (P20.ext E7)
  have f26 := (P21.ext E7)
  have f27 := (P22.ext E7)
  have f28 := (P23.ext E7)
  refine Wk.callV (a0 := a0) (pc' := 28) (k' := 1) (n' := 2) (W := 0) (b := b_s_equ) (argsL := [(.ref a)]) (rest := []) (y := (⟨"java/lang/String", "equals", "(Ljava/lang/Object;)Z"⟩ : MethodName)) (rm_s_equ hw s1 a v1 v' q1 q ([115, 112, 105, 100] : List Int32) cl cs h2 I P3 G_cs P24 f21 f22 f23 f24 f25 f26 f27 f28 (by decide) hn (own_Lc ⟨by decide, by decide⟩ (own_Lc ⟨by decide, by decide⟩ (own_Lc ⟨by decide, by decide⟩ (own_Lc ⟨by decide, by decide⟩ own_Ln)))) hL) f21 (w66 hw) (w67 hw) (w69 hw) (w69 hw) (w68 hw) (w7 hw) (w70 hw) (by decide) (Nat.le_refl _) id (Nat.le_of_ble_eq_true rfl) (Nat.le_of_ble_eq_true rfl) rfl rfl (Nat.le_of_ble_eq_true rfl) (Nat.le_of_ble_eq_true rfl) rfl pd16 rfl rfl rfl (Nat.le_of_ble_eq_true rfl) d9_25 rfl fun v29 h30 J31 hs32 hQ33 => ?_
  obtain ⟨rfl, rfl, rfl⟩ := hQ33
  show Wk _ h2 1 2 I 28 #[.val (.ref a), .val (.ref r6), .val (.int (2 : Int32)), .val (.int (0 : Int32)), .val (.ref p1)] [(.int (own_bi (decide (([115, 112, 105, 100] : List Int32) = cl))))]
  by_cases c28_34 : (own_bi (decide (([115, 112, 105, 100] : List Int32) = cl))) = (0 : Int32)
  · refine Wk.if_eqY (pc' := 37) d9_28 (by decide) c28_34 ?_
    refine Wk.iinc (pc' := 40) (v := 1) (Ls' := #[.val (.ref a), .val (.ref r6), .val (.int (2 : Int32)), .val (.int ((0 : Int32) + (1 : Int32))), .val (.ref p1)]) d9_37 rfl rfl rfl rfl ?_
    rw [show ((0 : Int32) + (1 : Int32)) = (1 : Int32) from by decide]
    refine Wk.goto (pc' := 9) d9_40 (by decide) ?_
    refine Wk.iloadN (pc' := 10) d9_9 rfl rfl ?_
    refine Wk.iloadN (pc' := 11) d9_10 rfl rfl ?_
    refine Wk.icmp_geN (pc' := 14) d9_11 rfl (by decide) ?_
    refine Wk.aloadN (pc' := 15) d9_14 rfl rfl rfl ?_
    refine Wk.iloadN (pc' := 16) d9_15 rfl rfl ?_
    refine Wk.aaload (pc' := 17) (v := (.ref p2)) g9 rfl ⟨by decide, by decide⟩ rfl d9_16 rfl ?_
    refine Wk.astore (pc' := 19) #[.val (.ref a), .val (.ref r6), .val (.int (2 : Int32)), .val (.int (1 : Int32)), .val (.ref p2)] d9_17 rfl rfl rfl ?_
    refine Wk.aload (pc' := 21) d9_19 rfl rfl rfl ?_
    have f35 := (P8.ext E7)
    refine Wk.getF (a0 := a0) (pc' := 24) (host := "") (Or.inl (w64 hw)) Via.refl f35 d9_21 rfl ?_
    refine Wk.aloadN (pc' := 25) d9_24 rfl rfl rfl ?_
    have f36 := (P13.ext E7)
    have f37 := (P14.ext E7)
    have f38 := (P15.ext E7)
    have f39 := (P16.ext E7)
    refine Wk.callV (a0 := a0) (pc' := 28) (k' := 1) (n' := 2) (W := 0) (b := b_s_equ) (argsL := [(.ref a)]) (rest := []) (y := (⟨"java/lang/String", "equals", "(Ljava/lang/Object;)Z"⟩ : MethodName)) (rm_s_equ hw s2 a v2 v' q2 q ([115, 97, 109, 108, 50] : List Int32) cl cs h2 I P3 G_cs P25 f36 f37 f38 f39 f25 f26 f27 f28 (by decide) hn (own_Lc ⟨by decide, by decide⟩ (own_Lc ⟨by decide, by decide⟩ (own_Lc ⟨by decide, by decide⟩ (own_Lc ⟨by decide, by decide⟩ (own_Lc ⟨by decide, by decide⟩ own_Ln))))) hL) f36 (w66 hw) (w67 hw) (w69 hw) (w69 hw) (w68 hw) (w7 hw) (w70 hw) (by decide) (Nat.le_refl _) id (Nat.le_of_ble_eq_true rfl) (Nat.le_of_ble_eq_true rfl) rfl rfl (Nat.le_of_ble_eq_true rfl) (Nat.le_of_ble_eq_true rfl) rfl pd16 rfl rfl rfl (Nat.le_of_ble_eq_true rfl) d9_25 rfl fun v40 h41 J42 hs43 hQ44 => ?_
    obtain ⟨rfl, rfl, rfl⟩ := hQ44
    show Wk _ h2 1 2 I 28 #[.val (.ref a), .val (.ref r6), .val (.int (2 : Int32)), .val (.int (1 : Int32)), .val (.ref p2)] [(.int (own_bi (decide (([115, 97, 109, 108, 50] : List Int32) = cl))))]
    by_cases c28_45 : (own_bi (decide (([115, 97, 109, 108, 50] : List Int32) = cl))) = (0 : Int32)
    · refine Wk.if_eqY (pc' := 37) d9_28 (by decide) c28_45 ?_
      refine Wk.iinc (pc' := 40) (v := 1) (Ls' := #[.val (.ref a), .val (.ref r6), .val (.int (2 : Int32)), .val (.int ((1 : Int32) + (1 : Int32))), .val (.ref p2)]) d9_37 rfl rfl rfl rfl ?_
      rw [show ((1 : Int32) + (1 : Int32)) = (2 : Int32) from by decide]
      refine Wk.goto (pc' := 9) d9_40 (by decide) ?_
      refine Wk.iloadN (pc' := 10) d9_9 rfl rfl ?_
      refine Wk.iloadN (pc' := 11) d9_10 rfl rfl ?_
      refine Wk.icmp_geY (pc' := 43) d9_11 (by decide) (by decide) ?_
      refine Wk.callS (a0 := a0) (pc' := 46) (k' := 1) (n' := 2) (W := 0) (b := b_o_emp) (argsL := []) (rest := []) (rm_o_emp hw em h2 I P17) (w76 hw) (w77 hw) (w78 hw) (w79 hw) (by decide) (Nat.le_refl _) id (Nat.le_of_ble_eq_true rfl) (Nat.le_of_ble_eq_true rfl) rfl rfl (Nat.le_of_ble_eq_true rfl) (Nat.le_of_ble_eq_true rfl) rfl pd17 rfl rfl rfl (Nat.le_of_ble_eq_true rfl) d9_43 rfl fun v46 h47 J48 hs49 hQ50 => ?_
      obtain ⟨rfl, rfl, rfl⟩ := hQ50
      show Wk _ h2 1 2 I 46 #[.val (.ref a), .val (.ref r6), .val (.int (2 : Int32)), .val (.int (2 : Int32)), .val (.ref p2)] [(.ref em)]
      have f51 := (P19.ext E7)
      have F52 : Fld Z h2 em "java/util/Optional" "value" "Ljava/lang/Object;" (own_pk p1 p2 cl) := by rw [own_pk, if_neg (of_decide_eq_false (own_bi0 c28_34)), if_neg (of_decide_eq_false (own_bi0 c28_45))]; exact f51
      have f53 := (P18.ext E7)
      exact Wk.areturn rfl rfl rfl d9_46 (Nat.le_of_ble_eq_true rfl) (Nat.le_of_ble_eq_true rfl) ⟨em, rfl, rfl, (own_ext ((Keep.refl h0 []).ext E7)), f53, F52⟩
    · refine Wk.if_eqN (pc' := 31) d9_28 rfl c28_45 ?_
      refine Wk.aload (pc' := 33) d9_31 rfl rfl rfl ?_
      refine Wk.callS (a0 := a0) (pc' := 36) (k' := 2) (n' := 3) (W := 0) (b := b_o_of) (argsL := [(.ref p2)]) (rest := []) (rm_o_of hw p2 h2 I ) (w121 hw) (w122 hw) (w78 hw) (w123 hw) (by decide) (Nat.le_refl _) id (Nat.le_of_ble_eq_true rfl) (Nat.le_of_ble_eq_true rfl) rfl rfl (Nat.le_of_ble_eq_true rfl) (Nat.le_of_ble_eq_true rfl) rfl pd18 rfl rfl rfl (Nat.le_of_ble_eq_true rfl) d9_33 rfl fun v54 h55 J56 hs57 hQ58 => ?_
      obtain ⟨r59, rfl, rfl, E60, g61, g62, g63⟩ := hQ58
      have ne64 : va ≠ r59 := Nat.ne_of_lt (Nat.lt_of_lt_of_le (P1.ext E7).lt g61)
      have ne65 : p1 ≠ r59 := Nat.ne_of_lt (Nat.lt_of_lt_of_le (P5.ext E7).lt g61)
      have ne66 : p2 ≠ r59 := Nat.ne_of_lt (Nat.lt_of_lt_of_le (P6.ext E7).lt g61)
      have ne67 : s1 ≠ r59 := Nat.ne_of_lt (Nat.lt_of_lt_of_le f21.lt g61)
      have ne68 : v1 ≠ r59 := Nat.ne_of_lt (Nat.lt_of_lt_of_le f24.lt g61)
      have ne69 : s2 ≠ r59 := Nat.ne_of_lt (Nat.lt_of_lt_of_le f36.lt g61)
      have ne70 : v2 ≠ r59 := Nat.ne_of_lt (Nat.lt_of_lt_of_le f39.lt g61)
      have ne71 : em ≠ r59 := Nat.ne_of_lt (Nat.lt_of_lt_of_le (P18.ext E7).lt g61)
      have ne72 : a ≠ r59 := Nat.ne_of_lt (Nat.lt_of_lt_of_le f25.lt g61)
      have ne73 : v' ≠ r59 := Nat.ne_of_lt (Nat.lt_of_lt_of_le f28.lt g61)
      have ne74 : r6 ≠ r59 := Nat.ne_of_lt (Nat.lt_of_lt_of_le g9.lt g61)
      show Wk _ h55 2 3 I 36 #[.val (.ref a), .val (.ref r6), .val (.int (2 : Int32)), .val (.int (1 : Int32)), .val (.ref p2)] [(.ref r59)]
      have F75 : Fld Z h55 r59 "java/util/Optional" "value" "Ljava/lang/Object;" (own_pk p1 p2 cl) := by rw [own_pk, if_neg (of_decide_eq_false (own_bi0 c28_34)), if_pos (of_decide_eq_true (own_bi1 c28_45))]; exact g63
      exact Wk.areturn rfl rfl rfl d9_36 (Nat.le_of_ble_eq_true rfl) (Nat.le_of_ble_eq_true rfl) ⟨r59, rfl, rfl, (own_ext (((Keep.refl h0 []).ext E7).ext E60)), g62, F75⟩
  · refine Wk.if_eqN (pc' := 31) d9_28 rfl c28_34 ?_
    refine Wk.aload (pc' := 33) d9_31 rfl rfl rfl ?_
    refine Wk.callS (a0 := a0) (pc' := 36) (k' := 2) (n' := 3) (W := 0) (b := b_o_of) (argsL := [(.ref p1)]) (rest := []) (rm_o_of hw p1 h2 I ) (w121 hw) (w122 hw) (w78 hw) (w123 hw) (by decide) (Nat.le_refl _) id (Nat.le_of_ble_eq_true rfl) (Nat.le_of_ble_eq_true rfl) rfl rfl (Nat.le_of_ble_eq_true rfl) (Nat.le_of_ble_eq_true rfl) rfl pd18 rfl rfl rfl (Nat.le_of_ble_eq_true rfl) d9_33 rfl fun v76 h77 J78 hs79 hQ80 => ?_
    obtain ⟨r81, rfl, rfl, E82, g83, g84, g85⟩ := hQ80
    have ne86 : va ≠ r81 := Nat.ne_of_lt (Nat.lt_of_lt_of_le (P1.ext E7).lt g83)
    have ne87 : p1 ≠ r81 := Nat.ne_of_lt (Nat.lt_of_lt_of_le (P5.ext E7).lt g83)
    have ne88 : p2 ≠ r81 := Nat.ne_of_lt (Nat.lt_of_lt_of_le (P6.ext E7).lt g83)
    have ne89 : s1 ≠ r81 := Nat.ne_of_lt (Nat.lt_of_lt_of_le f21.lt g83)
    have ne90 : v1 ≠ r81 := Nat.ne_of_lt (Nat.lt_of_lt_of_le f24.lt g83)
    have ne91 : s2 ≠ r81 := Nat.ne_of_lt (Nat.lt_of_lt_of_le (P13.ext E7).lt g83)
    have ne92 : v2 ≠ r81 := Nat.ne_of_lt (Nat.lt_of_lt_of_le (P16.ext E7).lt g83)
    have ne93 : em ≠ r81 := Nat.ne_of_lt (Nat.lt_of_lt_of_le (P18.ext E7).lt g83)
    have ne94 : a ≠ r81 := Nat.ne_of_lt (Nat.lt_of_lt_of_le f25.lt g83)
    have ne95 : v' ≠ r81 := Nat.ne_of_lt (Nat.lt_of_lt_of_le f28.lt g83)
    have ne96 : r6 ≠ r81 := Nat.ne_of_lt (Nat.lt_of_lt_of_le g9.lt g83)
    show Wk _ h77 2 3 I 36 #[.val (.ref a), .val (.ref r6), .val (.int (2 : Int32)), .val (.int (0 : Int32)), .val (.ref p1)] [(.ref r81)]
    have F97 : Fld Z h77 r81 "java/util/Optional" "value" "Ljava/lang/Object;" (own_pk p1 p2 cl) := by rw [own_pk, if_pos (of_decide_eq_true (own_bi1 c28_34))]; exact g85
    exact Wk.areturn rfl rfl rfl d9_36 (Nat.le_of_ble_eq_true rfl) (Nat.le_of_ble_eq_true rfl) ⟨r81, rfl, rfl, (own_ext (((Keep.refl h0 []).ext E7).ext E82)), g84, F97⟩
theorem ef_law (m : MethodId) (x0 : Int32) (x1 : Int32) (x2 : Int32) (x3 : Int32) : entryFrame m #[(.int x0), (.int x1), (.int x2), (.int x3)] maxLocals = mkF m 0 #[.val (.int x0), .val (.int x1), .val (.int x2), .val (.int x3), .unset, .unset, .unset, .unset, .unset, .unset] [] := by first | (simp [entryFrame, mkF, argsToLocals, Value.category, maxLocals]; done) | rfl
abbrev b_law : Bdy := (x, code, maxLocals, ret, room_1)
def Q_law (Z : State) (N : Nat) (p1' : Int32) (p2' : Int32) (p3' : Int32) (p4' : Int32) (va : Addr) (qv : ClassId) (p1 : Addr) (p2 : Addr) (s1 : Addr) (s2 : Addr) (v1 : Addr) (v2 : Addr) (q1 : ClassId) (q2 : ClassId) (em : Addr) (cs : Int32) (sf : Value) (h0 : Heap) (I : Lts) (v : Option Value) (h : Heap) (J : Lts) : Prop := True ∧ v = some (.int (1 : Int32))
set_option maxRecDepth 65536 in
set_option maxHeartbeats 40000000 in
theorem rm_law {l : Launch} {Z : State} {a0 : Array Value} {N : Nat} (hw : ∀ d ∈ tables_1, d.before a0 Z = true) (p1' : Int32) (p2' : Int32) (p3' : Int32) (p4' : Int32) (va : Addr) (qv : ClassId) (p1 : Addr) (p2 : Addr) (s1 : Addr) (s2 : Addr) (v1 : Addr) (v2 : Addr) (q1 : ClassId) (q2 : ClassId) (em : Addr) (cs : Int32) (sf : Value) (h0 : Heap) (P0 : Sta Z Z.heap "com/example/samfed/samfed/config/Profile" "$VALUES" "[Lcom/example/samfed/samfed/config/Profile;" (.ref va)) (P1 : Exa Z h0 va "[Lcom/example/samfed/samfed/config/Profile;") (P2 : Arv Z h0 va qv (.object "com/example/samfed/samfed/config/Profile") (2 : Int32) [(.ref p1), (.ref p2)] .null) (P3 : Sta Z Z.heap "java/lang/String" "COMPACT_STRINGS" "Z" (.int cs)) (G_cs : ¬ cs = (0 : Int32)) (P5 : Exa Z h0 p1 "com/example/samfed/samfed/config/Profile") (P6 : Exa Z h0 p2 "com/example/samfed/samfed/config/Profile") (P7 : Fld Z h0 p1 "com/example/samfed/samfed/config/Profile" "configName" "Ljava/lang/String;" (.ref s1)) (P8 : Fld Z h0 p2 "com/example/samfed/samfed/config/Profile" "configName" "Ljava/lang/String;" (.ref s2)) (P9 : Exa Z h0 s1 "java/lang/String") (P10 : Fld Z h0 s1 "java/lang/String" "value" "[B" (.ref v1)) (P11 : Fld Z h0 s1 "java/lang/String" "coder" "B" (.int (0 : Int32))) (P12 : Arv Z h0 v1 q1 .byte (Int32.ofNat ([115, 112, 105, 100] : List Int32).length) (([115, 112, 105, 100] : List Int32).map own_by) (.int (0 : Int32))) (P13 : Exa Z h0 s2 "java/lang/String") (P14 : Fld Z h0 s2 "java/lang/String" "value" "[B" (.ref v2)) (P15 : Fld Z h0 s2 "java/lang/String" "coder" "B" (.int (0 : Int32))) (P16 : Arv Z h0 v2 q2 .byte (Int32.ofNat ([115, 97, 109, 108, 50] : List Int32).length) (([115, 97, 109, 108, 50] : List Int32).map own_by) (.int (0 : Int32))) (P17 : Sta Z Z.heap "java/util/Optional" "EMPTY" "Ljava/util/Optional;" (.ref em)) (P18 : Exa Z h0 em "java/util/Optional") (P19 : Fld Z h0 em "java/util/Optional" "value" "Ljava/lang/Object;" .null) (P20 : Sta Z Z.heap "jdk/internal/util/Preconditions" "SIOOBE_FORMATTER" "Ljava/util/function/BiFunction;" sf) (G_sf : sf.isRef = true) (P22 : Sta Z Z.heap "com/example/samfed/samfed/config/Profile" "SPID" "Lcom/example/samfed/samfed/config/Profile;" (.ref p1)) (P23 : Sta Z Z.heap "com/example/samfed/samfed/config/Profile" "SAML2" "Lcom/example/samfed/samfed/config/Profile;" (.ref p2)) (G_h7 : Jvm.Lit.constHeld Z "java/lang/String" 7) (G_cw : Jvm.Lit.compactW.before a0 Z = true) :
    Cn l Z N b_law #[(.int p1'), (.int p2'), (.int p3'), (.int p4')] h0 (some ([], [])) (Q_law Z N p1' p2' p3' p4' va qv p1 p2 s1 s2 v1 v2 q1 q2 em cs sf h0 (some ([], []))) := by
  refine Cn.of_wk (Ls := #[.val (.int p1'), .val (.int p2'), .val (.int p3'), .val (.int p4'), .unset, .unset, .unset, .unset, .unset, .unset]) (plainFor_of_name (by first | (simp [plainName, overriddenIn]; done) | decide +kernel)) (fun m => ef_law m p1' p2' p3' p4') ?_
  refine Wk.bipush (pc' := 2) (v := 6) at_0 rfl rfl ?_
  refine Wk.newP (a0 := a0) (aty := .char) (pc' := 4) (k' := 1) (n' := 6) (cap := 6) (w0 hw) at_2 rfl (by decide) (by decide) (by decide) rfl rfl (Nat.le_of_ble_eq_true rfl) (Nat.le_of_ble_eq_true rfl) fun a1 h2 q3 hg4 hN5 E6 A7 => ?_
  have ne8 : va ≠ a1 := Nat.ne_of_lt (Nat.lt_of_lt_of_le P1.lt hg4)
  have ne9 : p1 ≠ a1 := Nat.ne_of_lt (Nat.lt_of_lt_of_le P5.lt hg4)
  have ne10 : p2 ≠ a1 := Nat.ne_of_lt (Nat.lt_of_lt_of_le P6.lt hg4)
  have ne11 : s1 ≠ a1 := Nat.ne_of_lt (Nat.lt_of_lt_of_le P9.lt hg4)
  have ne12 : v1 ≠ a1 := Nat.ne_of_lt (Nat.lt_of_lt_of_le P12.lt hg4)
  have ne13 : s2 ≠ a1 := Nat.ne_of_lt (Nat.lt_of_lt_of_le P13.lt hg4)
  have ne14 : v2 ≠ a1 := Nat.ne_of_lt (Nat.lt_of_lt_of_le P16.lt hg4)
  have ne15 : em ≠ a1 := Nat.ne_of_lt (Nat.lt_of_lt_of_le P18.lt hg4)
  have A16 : Arv Z h2 a1 q3 .char (6 : Int32) [(.int (0 : Int32)), (.int (0 : Int32)), (.int (0 : Int32)), (.int (0 : Int32)), (.int (0 : Int32)), (.int (0 : Int32))] (.int (0 : Int32)) := A7.pad (pad_rep [] (.int (0 : Int32)) 6)
  refine Wk.astore (pc' := 6) #[.val (.int p1'), .val (.int p2'), .val (.int p3'), .val (.int p4'), .val (.ref a1), .unset, .unset, .unset, .unset, .unset] at_4 rfl rfl rfl ?_
  have J182 : ∀ (X : List Int32) (s6 : Slot) (hX17 : Heap), (Arv Z hX17 a1 q3 .char (6 : Int32) (X.map Value.int) (.int (0 : Int32))) → (X.length = 6) → (own_L X) → (s6 = .unset ∨ ∃ z : Int32, s6 = .val (.int z)) → (Keep h0 hX17 []) → Wk (l, Z, N, h0.size, b_law, Q_law Z N p1' p2' p3' p4' va qv p1 p2 s1 s2 v1 v2 q1 q2 em cs sf h0 (some ([], []))) hX17 1 6 (some ([], [])) 182 #[.val (.int p1'), .val (.int p2'), .val (.int p3'), .val (.int p4'), .val (.ref a1), .val (.int (p1' &&& (3 : Int32))), s6, .unset, .unset, .unset] [] := by
    intro X s6 hX17 y18 hX hLX hs6 K19
    refine Wk.iloadN (pc' := 183) at_182 rfl rfl ?_
    refine Wk.iconst (pc' := 184) (v := 2) at_183 rfl rfl ?_
    refine Wk.iushr (pc' := 185) at_184 rfl ?_
    refine Wk.bipush (pc' := 187) (v := 7) at_185 rfl rfl ?_
    refine Wk.iand (pc' := 188) at_187 rfl ?_
    refine Wk.bipush (pc' := 190) (v := 7) at_188 rfl rfl ?_
    refine Wk.irem (pc' := 191) at_190 rfl (by decide) ?_
    obtain ⟨j, hj, ej⟩ := own_rem7 ((p1'.toUInt32 >>> ((2 : Int32) &&& 31).toUInt32).toInt32)
    rw [ej]
    refine Wk.istore (pc' := 193) #[.val (.int p1'), .val (.int p2'), .val (.int p3'), .val (.int p4'), .val (.ref a1), .val (.int (p1' &&& (3 : Int32))), .val (.int (Int32.ofNat j)), .unset, .unset, .unset] at_191 rfl (by rcases hs6 with rfl | ⟨z, rfl⟩ <;> rfl) ?_
    refine Wk.aload (pc' := 195) at_193 rfl rfl rfl ?_
    refine Wk.iload (pc' := 197) at_195 rfl rfl ?_
    refine Wk.callS (a0 := a0) (pc' := 200) (k' := 5) (n' := 24) (W := 0) (b := b_mk) (argsL := [(.ref a1), (.int (Int32.ofNat j))]) (rest := []) (rm_mk hw a1 q3 X j cs [] [] hX17  P3 G_cs y18 hX hLX hj (by simp) G_h7 G_cw) (w1 hw) (w2 hw) (w3 hw) (w4 hw) (by decide) (Nat.le_refl _) id (Nat.le_of_ble_eq_true rfl) (Nat.le_of_ble_eq_true rfl) rfl rfl (Nat.le_of_ble_eq_true rfl) (Nat.le_of_ble_eq_true rfl) rfl pd19 rfl rfl rfl (Nat.le_of_ble_eq_true rfl) at_197 rfl fun v20 h21 J22 hs23 hQ24 => ?_
    obtain ⟨r25, v'26, q'27, -, rfl, E28, g29, g30, g31, g32, g33⟩ := hQ24
    have ne34 : va ≠ r25 := Nat.ne_of_lt (Nat.lt_of_lt_of_le (P1.keep K19).lt g29)
    have ne35 : p1 ≠ r25 := Nat.ne_of_lt (Nat.lt_of_lt_of_le (P5.keep K19).lt g29)
    have ne36 : p2 ≠ r25 := Nat.ne_of_lt (Nat.lt_of_lt_of_le (P6.keep K19).lt g29)
    have ne37 : s1 ≠ r25 := Nat.ne_of_lt (Nat.lt_of_lt_of_le (P9.keep K19).lt g29)
    have ne38 : v1 ≠ r25 := Nat.ne_of_lt (Nat.lt_of_lt_of_le (P12.keep K19 nin0).lt g29)
    have ne39 : s2 ≠ r25 := Nat.ne_of_lt (Nat.lt_of_lt_of_le (P13.keep K19).lt g29)
    have ne40 : v2 ≠ r25 := Nat.ne_of_lt (Nat.lt_of_lt_of_le (P16.keep K19 nin0).lt g29)
    have ne41 : em ≠ r25 := Nat.ne_of_lt (Nat.lt_of_lt_of_le (P18.keep K19).lt g29)
    have ne42 : a1 ≠ r25 := Nat.ne_of_lt (Nat.lt_of_lt_of_le y18.lt g29)
    show Wk _ h21 5 24 J22 200 #[.val (.int p1'), .val (.int p2'), .val (.int p3'), .val (.int p4'), .val (.ref a1), .val (.int (p1' &&& (3 : Int32))), .val (.int (Int32.ofNat j)), .unset, .unset, .unset] [(.ref r25)]
    have hn : (List.take j X).length < 9 := by rw [List.length_take]; omega
    have hL : own_L (List.take j X) := own_Ltake hLX
    refine Wk.astore (pc' := 202) #[.val (.int p1'), .val (.int p2'), .val (.int p3'), .val (.int p4'), .val (.ref a1), .val (.int (p1' &&& (3 : Int32))), .val (.int (Int32.ofNat j)), .val (.ref r25), .unset, .unset] at_200 rfl rfl rfl ?_
    refine Wk.aconstNull (pc' := 203) at_202 rfl ?_
    refine Wk.astore (pc' := 205) #[.val (.int p1'), .val (.int p2'), .val (.int p3'), .val (.int p4'), .val (.ref a1), .val (.int (p1' &&& (3 : Int32))), .val (.int (Int32.ofNat j)), .val (.ref r25), .val .null, .unset] at_203 rfl rfl rfl ?_
    refine Wk.aload (pc' := 207) at_205 rfl rfl rfl ?_
    refine Wk.callS (a0 := a0) (pc' := 210) (k' := 5) (n' := 24) (W := 0) (b := b_isp) (argsL := [(.ref r25)]) (rest := []) (rm_isp hw r25 v'26 q'27 (List.take j X) sf cs h21 J22 P3 G_cs P20 G_sf g30 g31 g32 g33 (by omega) hL) (w26 hw) (w27 hw) (w3 hw) (w28 hw) (by decide) (Nat.le_refl _) id (Nat.le_of_ble_eq_true rfl) (Nat.le_of_ble_eq_true rfl) rfl rfl (Nat.le_of_ble_eq_true rfl) (Nat.le_of_ble_eq_true rfl) rfl pd20 rfl rfl rfl (Nat.le_of_ble_eq_true rfl) at_207 rfl fun v43 h44 J45 hs46 hQ47 => ?_
    obtain ⟨rfl, rfl, rfl⟩ := hQ47
    show Wk _ h21 5 24 J22 210 #[.val (.int p1'), .val (.int p2'), .val (.int p3'), .val (.int p4'), .val (.ref a1), .val (.int (p1' &&& (3 : Int32))), .val (.int (Int32.ofNat j)), .val (.ref r25), .val .null, .unset] [(.int (own_bi (decide ((List.take j X) = ([115, 112, 105, 100] : List Int32)))))]
    by_cases c210_48 : (own_bi (decide ((List.take j X) = ([115, 112, 105, 100] : List Int32)))) = (0 : Int32)
    · refine Wk.if_eqY (pc' := 221) at_210 (by decide) c210_48 ?_
      refine Wk.aload (pc' := 223) at_221 rfl rfl rfl ?_
      refine Wk.callS (a0 := a0) (pc' := 226) (k' := 5) (n' := 24) (W := 0) (b := b_isa) (argsL := [(.ref r25)]) (rest := []) (rm_isa hw r25 v'26 q'27 (List.take j X) sf cs h21 J22 P3 G_cs P20 G_sf g30 g31 g32 g33 (by omega) hL) (w40 hw) (w41 hw) (w3 hw) (w42 hw) (by decide) (Nat.le_refl _) id (Nat.le_of_ble_eq_true rfl) (Nat.le_of_ble_eq_true rfl) rfl rfl (Nat.le_of_ble_eq_true rfl) (Nat.le_of_ble_eq_true rfl) rfl pd20 rfl rfl rfl (Nat.le_of_ble_eq_true rfl) at_223 rfl fun v49 h50 J51 hs52 hQ53 => ?_
      obtain ⟨rfl, rfl, rfl⟩ := hQ53
      show Wk _ h21 5 24 J22 226 #[.val (.int p1'), .val (.int p2'), .val (.int p3'), .val (.int p4'), .val (.ref a1), .val (.int (p1' &&& (3 : Int32))), .val (.int (Int32.ofNat j)), .val (.ref r25), .val .null, .unset] [(.int (own_bi (decide ((List.take j X) = ([115, 97, 109, 108, 50] : List Int32)))))]
      by_cases c226_54 : (own_bi (decide ((List.take j X) = ([115, 97, 109, 108, 50] : List Int32)))) = (0 : Int32)
      · refine Wk.if_eqY (pc' := 234) at_226 (by decide) c226_54 ?_
        refine Wk.aload (pc' := 236) at_234 rfl rfl rfl ?_
        have f55 := ((P1.keep K19).ext E28)
        have f56 := ((P2.keep K19 nin0).ext E28)
        have f57 := ((P5.keep K19).ext E28)
        have f58 := ((P6.keep K19).ext E28)
        have f59 := ((P7.keep K19 nin0).ext E28)
        have f60 := ((P8.keep K19 nin0).ext E28)
        have f61 := ((P9.keep K19).ext E28)
        have f62 := ((P10.keep K19 nin0).ext E28)
        have f63 := ((P11.keep K19 nin0).ext E28)
        have f64 := ((P12.keep K19 nin0).ext E28)
        have f65 := ((P13.keep K19).ext E28)
        have f66 := ((P14.keep K19 nin0).ext E28)
        have f67 := ((P15.keep K19 nin0).ext E28)
        have f68 := ((P16.keep K19 nin0).ext E28)
        have f69 := ((P18.keep K19).ext E28)
        have f70 := ((P19.keep K19 nin0).ext E28)
        refine Wk.callS (a0 := a0) (pc' := 239) (k' := 7) (n' := 27) (W := 0) (b := b_fcn) (argsL := [(.ref r25)]) (rest := []) (rm_fcn hw r25 v'26 q'27 (List.take j X) va qv p1 p2 s1 s2 v1 v2 q1 q2 em cs h21 J22 P0 f55 f56 P3 G_cs f57 f58 f59 f60 f61 f62 f63 f64 f65 f66 f67 f68 P17 f69 f70 g30 g31 g32 g33 ne37 ne39 (by omega) hL) (w43 hw) (w44 hw) (w45 hw) (w46 hw) (by decide) (Nat.le_refl _) id (Nat.le_of_ble_eq_true rfl) (Nat.le_of_ble_eq_true rfl) rfl rfl (Nat.le_of_ble_eq_true rfl) (Nat.le_of_ble_eq_true rfl) rfl pd21 rfl rfl rfl (Nat.le_of_ble_eq_true rfl) at_236 rfl fun v71 h72 J73 hs74 hQ75 => ?_
        obtain ⟨r76, rfl, rfl, E77, g78, g79⟩ := hQ75
        show Wk _ h72 7 27 J22 239 #[.val (.int p1'), .val (.int p2'), .val (.int p3'), .val (.int p4'), .val (.ref a1), .val (.int (p1' &&& (3 : Int32))), .val (.int (Int32.ofNat j)), .val (.ref r25), .val .null, .unset] [(.ref r76)]
        have F80 : Fld Z h72 r76 "java/util/Optional" "value" "Ljava/lang/Object;" .null := by
          have q := g79
          rw [own_pk, if_neg (fun q => of_decide_eq_false (own_bi0 c210_48) q.symm), if_neg (fun q => of_decide_eq_false (own_bi0 c226_54) q.symm)] at q
          exact q
        refine Wk.aconstNull (pc' := 240) at_239 rfl ?_
        refine Wk.callV (a0 := a0) (pc' := 243) (k' := 7) (n' := 27) (W := 0) (b := b_o_or0) (argsL := [.null]) (rest := []) (y := (⟨"java/util/Optional", "orElse", "(Ljava/lang/Object;)Ljava/lang/Object;"⟩ : MethodName)) (rm_o_or0 hw r76 h72 J22 F80) g78 (w81 hw) (w82 hw) (w84 hw) (w84 hw) (w83 hw) (w78 hw) (w85 hw) (by decide) (Nat.le_refl _) id (Nat.le_of_ble_eq_true rfl) (Nat.le_of_ble_eq_true rfl) rfl rfl (Nat.le_of_ble_eq_true rfl) (Nat.le_of_ble_eq_true rfl) rfl pd10 rfl rfl rfl (Nat.le_of_ble_eq_true rfl) at_240 rfl fun v81 h82 J83 hs84 hQ85 => ?_
        obtain ⟨rfl, rfl, rfl⟩ := hQ85
        show Wk _ h72 7 27 J22 243 #[.val (.int p1'), .val (.int p2'), .val (.int p3'), .val (.int p4'), .val (.ref a1), .val (.int (p1' &&& (3 : Int32))), .val (.int (Int32.ofNat j)), .val (.ref r25), .val .null, .unset] [.null]
        refine Wk.castN (pc' := 246) at_243 rfl ?_
        refine Wk.astore (pc' := 248) #[.val (.int p1'), .val (.int p2'), .val (.int p3'), .val (.int p4'), .val (.ref a1), .val (.int (p1' &&& (3 : Int32))), .val (.int (Int32.ofNat j)), .val (.ref r25), .val .null, .val .null] at_246 rfl rfl rfl ?_
        refine Wk.aload (pc' := 250) at_248 rfl rfl rfl ?_
        refine Wk.aload (pc' := 252) at_250 rfl rfl rfl ?_
        refine Wk.acmp (pc' := 255) (same := true) at_252 rfl rfl (decide_eq_true rfl) (by decide) (by decide) ?_
        refine Wk.iconst (pc' := 256) (v := 1) at_255 rfl rfl ?_
        refine Wk.goto (pc' := 260) at_256 (by decide) ?_
        exact Wk.zreturn rfl (by simp) at_260 (Nat.le_of_ble_eq_true rfl) (Nat.le_of_ble_eq_true rfl) ⟨trivial, rfl⟩
      · refine Wk.if_eqN (pc' := 229) at_226 rfl c226_54 ?_
        refine Wk.getS (a0 := a0) (pc' := 232) (host := "") (Or.inl (w137 hw)) Via.refl P23 at_229 rfl ?_
        refine Wk.astore (pc' := 234) #[.val (.int p1'), .val (.int p2'), .val (.int p3'), .val (.int p4'), .val (.ref a1), .val (.int (p1' &&& (3 : Int32))), .val (.int (Int32.ofNat j)), .val (.ref r25), .val (.ref p2), .unset] at_232 rfl rfl rfl ?_
        refine Wk.aload (pc' := 236) at_234 rfl rfl rfl ?_
        have f86 := ((P1.keep K19).ext E28)
        have f87 := ((P2.keep K19 nin0).ext E28)
        have f88 := ((P5.keep K19).ext E28)
        have f89 := ((P6.keep K19).ext E28)
        have f90 := ((P7.keep K19 nin0).ext E28)
        have f91 := ((P8.keep K19 nin0).ext E28)
        have f92 := ((P9.keep K19).ext E28)
        have f93 := ((P10.keep K19 nin0).ext E28)
        have f94 := ((P11.keep K19 nin0).ext E28)
        have f95 := ((P12.keep K19 nin0).ext E28)
        have f96 := ((P13.keep K19).ext E28)
        have f97 := ((P14.keep K19 nin0).ext E28)
        have f98 := ((P15.keep K19 nin0).ext E28)
        have f99 := ((P16.keep K19 nin0).ext E28)
        have f100 := ((P18.keep K19).ext E28)
        have f101 := ((P19.keep K19 nin0).ext E28)
        refine Wk.callS (a0 := a0) (pc' := 239) (k' := 7) (n' := 27) (W := 0) (b := b_fcn) (argsL := [(.ref r25)]) (rest := []) (rm_fcn hw r25 v'26 q'27 (List.take j X) va qv p1 p2 s1 s2 v1 v2 q1 q2 em cs h21 J22 P0 f86 f87 P3 G_cs f88 f89 f90 f91 f92 f93 f94 f95 f96 f97 f98 f99 P17 f100 f101 g30 g31 g32 g33 ne37 ne39 (by omega) hL) (w43 hw) (w44 hw) (w45 hw) (w46 hw) (by decide) (Nat.le_refl _) id (Nat.le_of_ble_eq_true rfl) (Nat.le_of_ble_eq_true rfl) rfl rfl (Nat.le_of_ble_eq_true rfl) (Nat.le_of_ble_eq_true rfl) rfl pd21 rfl rfl rfl (Nat.le_of_ble_eq_true rfl) at_236 rfl fun v102 h103 J104 hs105 hQ106 => ?_
        obtain ⟨r107, rfl, rfl, E108, g109, g110⟩ := hQ106
        show Wk _ h103 7 27 J22 239 #[.val (.int p1'), .val (.int p2'), .val (.int p3'), .val (.int p4'), .val (.ref a1), .val (.int (p1' &&& (3 : Int32))), .val (.int (Int32.ofNat j)), .val (.ref r25), .val (.ref p2), .unset] [(.ref r107)]
        have F111 : Fld Z h103 r107 "java/util/Optional" "value" "Ljava/lang/Object;" (.ref p2) := by
          have q := g110
          rw [own_pk, if_neg (fun q => of_decide_eq_false (own_bi0 c210_48) q.symm), if_pos (of_decide_eq_true (own_bi1 c226_54)).symm] at q
          exact q
        refine Wk.aconstNull (pc' := 240) at_239 rfl ?_
        refine Wk.callV (a0 := a0) (pc' := 243) (k' := 7) (n' := 27) (W := 0) (b := b_o_or1) (argsL := [.null]) (rest := []) (y := (⟨"java/util/Optional", "orElse", "(Ljava/lang/Object;)Ljava/lang/Object;"⟩ : MethodName)) (rm_o_or1 hw r107 p2 h103 J22 F111) g109 (w81 hw) (w82 hw) (w84 hw) (w84 hw) (w83 hw) (w78 hw) (w85 hw) (by decide) (Nat.le_refl _) id (Nat.le_of_ble_eq_true rfl) (Nat.le_of_ble_eq_true rfl) rfl rfl (Nat.le_of_ble_eq_true rfl) (Nat.le_of_ble_eq_true rfl) rfl pd10 rfl rfl rfl (Nat.le_of_ble_eq_true rfl) at_240 rfl fun v112 h113 J114 hs115 hQ116 => ?_
        obtain ⟨rfl, rfl, rfl⟩ := hQ116
        show Wk _ h103 7 27 J22 243 #[.val (.int p1'), .val (.int p2'), .val (.int p3'), .val (.int p4'), .val (.ref a1), .val (.int (p1' &&& (3 : Int32))), .val (.int (Int32.ofNat j)), .val (.ref r25), .val (.ref p2), .unset] [(.ref p2)]
        have f117 := (f89.ext E108)
        refine Wk.castY (a0 := a0) (pc' := 246) (w135 hw) (Ins.self f117) at_243 rfl ?_
        refine Wk.astore (pc' := 248) #[.val (.int p1'), .val (.int p2'), .val (.int p3'), .val (.int p4'), .val (.ref a1), .val (.int (p1' &&& (3 : Int32))), .val (.int (Int32.ofNat j)), .val (.ref r25), .val (.ref p2), .val (.ref p2)] at_246 rfl rfl rfl ?_
        refine Wk.aload (pc' := 250) at_248 rfl rfl rfl ?_
        refine Wk.aload (pc' := 252) at_250 rfl rfl rfl ?_
        refine Wk.acmp (pc' := 255) (same := true) at_252 rfl rfl (decide_eq_true rfl) (by decide) (by decide) ?_
        refine Wk.iconst (pc' := 256) (v := 1) at_255 rfl rfl ?_
        refine Wk.goto (pc' := 260) at_256 (by decide) ?_
        exact Wk.zreturn rfl (by simp) at_260 (Nat.le_of_ble_eq_true rfl) (Nat.le_of_ble_eq_true rfl) ⟨trivial, rfl⟩
    · refine Wk.if_eqN (pc' := 213) at_210 rfl c210_48 ?_
      refine Wk.getS (a0 := a0) (pc' := 216) (host := "") (Or.inl (w120 hw)) Via.refl P22 at_213 rfl ?_
      refine Wk.astore (pc' := 218) #[.val (.int p1'), .val (.int p2'), .val (.int p3'), .val (.int p4'), .val (.ref a1), .val (.int (p1' &&& (3 : Int32))), .val (.int (Int32.ofNat j)), .val (.ref r25), .val (.ref p1), .unset] at_216 rfl rfl rfl ?_
      refine Wk.goto (pc' := 234) at_218 (by decide) ?_
      refine Wk.aload (pc' := 236) at_234 rfl rfl rfl ?_
      have f118 := ((P1.keep K19).ext E28)
      have f119 := ((P2.keep K19 nin0).ext E28)
      have f120 := ((P5.keep K19).ext E28)
      have f121 := ((P6.keep K19).ext E28)
      have f122 := ((P7.keep K19 nin0).ext E28)
      have f123 := ((P8.keep K19 nin0).ext E28)
      have f124 := ((P9.keep K19).ext E28)
      have f125 := ((P10.keep K19 nin0).ext E28)
      have f126 := ((P11.keep K19 nin0).ext E28)
      have f127 := ((P12.keep K19 nin0).ext E28)
      have f128 := ((P13.keep K19).ext E28)
      have f129 := ((P14.keep K19 nin0).ext E28)
      have f130 := ((P15.keep K19 nin0).ext E28)
      have f131 := ((P16.keep K19 nin0).ext E28)
      have f132 := ((P18.keep K19).ext E28)
      have f133 := ((P19.keep K19 nin0).ext E28)
      refine Wk.callS (a0 := a0) (pc' := 239) (k' := 7) (n' := 27) (W := 0) (b := b_fcn) (argsL := [(.ref r25)]) (rest := []) (rm_fcn hw r25 v'26 q'27 (List.take j X) va qv p1 p2 s1 s2 v1 v2 q1 q2 em cs h21 J22 P0 f118 f119 P3 G_cs f120 f121 f122 f123 f124 f125 f126 f127 f128 f129 f130 f131 P17 f132 f133 g30 g31 g32 g33 ne37 ne39 (by omega) hL) (w43 hw) (w44 hw) (w45 hw) (w46 hw) (by decide) (Nat.le_refl _) id (Nat.le_of_ble_eq_true rfl) (Nat.le_of_ble_eq_true rfl) rfl rfl (Nat.le_of_ble_eq_true rfl) (Nat.le_of_ble_eq_true rfl) rfl pd21 rfl rfl rfl (Nat.le_of_ble_eq_true rfl) at_236 rfl fun v134 h135 J136 hs137 hQ138 => ?_
      obtain ⟨r139, rfl, rfl, E140, g141, g142⟩ := hQ138
      show Wk _ h135 7 27 J22 239 #[.val (.int p1'), .val (.int p2'), .val (.int p3'), .val (.int p4'), .val (.ref a1), .val (.int (p1' &&& (3 : Int32))), .val (.int (Int32.ofNat j)), .val (.ref r25), .val (.ref p1), .unset] [(.ref r139)]
      have F143 : Fld Z h135 r139 "java/util/Optional" "value" "Ljava/lang/Object;" (.ref p1) := by
        have q := g142
        rw [own_pk, if_pos (of_decide_eq_true (own_bi1 c210_48)).symm] at q
        exact q
      refine Wk.aconstNull (pc' := 240) at_239 rfl ?_
      refine Wk.callV (a0 := a0) (pc' := 243) (k' := 7) (n' := 27) (W := 0) (b := b_o_or1) (argsL := [.null]) (rest := []) (y := (⟨"java/util/Optional", "orElse", "(Ljava/lang/Object;)Ljava/lang/Object;"⟩ : MethodName)) (rm_o_or1 hw r139 p1 h135 J22 F143) g141 (w81 hw) (w82 hw) (w84 hw) (w84 hw) (w83 hw) (w78 hw) (w85 hw) (by decide) (Nat.le_refl _) id (Nat.le_of_ble_eq_true rfl) (Nat.le_of_ble_eq_true rfl) rfl rfl (Nat.le_of_ble_eq_true rfl) (Nat.le_of_ble_eq_true rfl) rfl pd10 rfl rfl rfl (Nat.le_of_ble_eq_true rfl) at_240 rfl fun v144 h145 J146 hs147 hQ148 => ?_
      obtain ⟨rfl, rfl, rfl⟩ := hQ148
      show Wk _ h135 7 27 J22 243 #[.val (.int p1'), .val (.int p2'), .val (.int p3'), .val (.int p4'), .val (.ref a1), .val (.int (p1' &&& (3 : Int32))), .val (.int (Int32.ofNat j)), .val (.ref r25), .val (.ref p1), .unset] [(.ref p1)]
      have f149 := (f120.ext E140)
      refine Wk.castY (a0 := a0) (pc' := 246) (w135 hw) (Ins.self f149) at_243 rfl ?_
      refine Wk.astore (pc' := 248) #[.val (.int p1'), .val (.int p2'), .val (.int p3'), .val (.int p4'), .val (.ref a1), .val (.int (p1' &&& (3 : Int32))), .val (.int (Int32.ofNat j)), .val (.ref r25), .val (.ref p1), .val (.ref p1)] at_246 rfl rfl rfl ?_
      refine Wk.aload (pc' := 250) at_248 rfl rfl rfl ?_
      refine Wk.aload (pc' := 252) at_250 rfl rfl rfl ?_
      refine Wk.acmp (pc' := 255) (same := true) at_252 rfl rfl (decide_eq_true rfl) (by decide) (by decide) ?_
      refine Wk.iconst (pc' := 256) (v := 1) at_255 rfl rfl ?_
      refine Wk.goto (pc' := 260) at_256 (by decide) ?_
      exact Wk.zreturn rfl (by simp) at_260 (Nat.le_of_ble_eq_true rfl) (Nat.le_of_ble_eq_true rfl) ⟨trivial, rfl⟩
  have J151 : ∀ (X : List Int32) (hX150 : Heap), (Arv Z hX150 a1 q3 .char (6 : Int32) (X.map Value.int) (.int (0 : Int32))) → (X.length = 6) → (own_L X) → (Keep h0 hX150 []) → Wk (l, Z, N, h0.size, b_law, Q_law Z N p1' p2' p3' p4' va qv p1 p2 s1 s2 v1 v2 q1 q2 em cs sf h0 (some ([], []))) hX150 1 6 (some ([], [])) 151 #[.val (.int p1'), .val (.int p2'), .val (.int p3'), .val (.int p4'), .val (.ref a1), .val (.int (p1' &&& (3 : Int32))), .unset, .unset, .unset, .unset] [] := by
    intro X hX150 y151 hX hLX K152
    refine Wk.iloadN (pc' := 152) at_151 rfl rfl ?_
    refine Wk.iconst (pc' := 153) (v := 5) at_152 rfl rfl ?_
    refine Wk.iushr (pc' := 154) at_153 rfl ?_
    refine Wk.iconst (pc' := 155) (v := 1) at_154 rfl rfl ?_
    refine Wk.iand (pc' := 156) at_155 rfl ?_
    by_cases c156_153 : (((p1'.toUInt32 >>> ((5 : Int32) &&& 31).toUInt32).toInt32) &&& (1 : Int32)) = (0 : Int32)
    · refine Wk.if_eqY (pc' := 182) at_156 (by decide) c156_153 ?_
      exact J182 X _ hX150 y151 hX hLX (Or.inl rfl) ((Keep.refl h0 []).trans K152 all0)
    · refine Wk.if_eqN (pc' := 159) at_156 rfl c156_153 ?_
      refine Wk.iloadN (pc' := 160) at_159 rfl rfl ?_
      refine Wk.bipush (pc' := 162) (v := 8) at_160 rfl rfl ?_
      refine Wk.iushr (pc' := 163) at_162 rfl ?_
      refine Wk.ldcI (a0 := a0) (pc' := 165) (w98 hw) at_163 rfl ?_
      refine Wk.iand (pc' := 166) at_165 rfl ?_
      refine Wk.bipush (pc' := 168) (v := 6) at_166 rfl rfl ?_
      refine Wk.irem (pc' := 169) at_168 rfl (by decide) ?_
      obtain ⟨jp, hjp, ejp⟩ := own_rem6 ((p4'.toUInt32 >>> ((8 : Int32) &&& 31).toUInt32).toInt32)
      rw [ejp]
      refine Wk.istore (pc' := 171) #[.val (.int p1'), .val (.int p2'), .val (.int p3'), .val (.int p4'), .val (.ref a1), .val (.int (p1' &&& (3 : Int32))), .val (.int (Int32.ofNat jp)), .unset, .unset, .unset] at_169 rfl rfl ?_
      refine Wk.aload (pc' := 173) at_171 rfl rfl rfl ?_
      refine Wk.iload (pc' := 175) at_173 rfl rfl ?_
      refine Wk.iloadN (pc' := 176) at_175 rfl rfl ?_
      refine Wk.sipush (pc' := 179) (v := 255) at_176 rfl rfl ?_
      refine Wk.iand (pc' := 180) at_179 rfl ?_
      refine Wk.i2c (pc' := 181) at_180 rfl ?_
      obtain ⟨c6, e_c6⟩ : ∃ z, z = ((p4' &&& (255 : Int32)).toUInt32.toUInt16.toUInt32.toInt32) := ⟨_, rfl⟩
      rw [← e_c6]
      have hc6 : own_c c6 := by rw [e_c6]; exact own_cand _
      refine Wk.castore (pc' := 182) y151 hN5 (own_in (n := 6) hjp (by decide)) jp (own_clamp (by omega)) (by rw [List.length_map, hX]; exact hjp) at_181 rfl fun h154 W155 A156 => ?_
      have A157 : Arv Z h154 a1 q3 .char (6 : Int32) ((X.set jp c6).map Value.int) (.int (0 : Int32)) := by
        rw [List.map_set]
        have q := A156
        rw [own_nc hc6] at q
        exact q
      exact J182 (X.set jp c6) _ h154 A157 (by rw [List.length_set]; exact hX) (own_Lset hLX hc6) (Or.inr ⟨_, rfl⟩) (((Keep.refl h0 []).trans K152 all0).wr W155 (Or.inr hg4))
  refine Wk.aload (pc' := 8) at_6 rfl rfl rfl ?_
  refine Wk.iconst (pc' := 9) (v := 0) at_8 rfl rfl ?_
  refine Wk.iloadN (pc' := 10) at_9 rfl rfl ?_
  refine Wk.sipush (pc' := 13) (v := 255) at_10 rfl rfl ?_
  refine Wk.iand (pc' := 14) at_13 rfl ?_
  refine Wk.i2c (pc' := 15) at_14 rfl ?_
  obtain ⟨c0, e_c0⟩ : ∃ z, z = ((p2' &&& (255 : Int32)).toUInt32.toUInt16.toUInt32.toInt32) := ⟨_, rfl⟩
  rw [← e_c0]
  have hc0 : own_c c0 := by rw [e_c0]; exact own_cand _
  refine Wk.castore (pc' := 16) A16 hN5 ⟨by decide, by decide⟩ 0 (by decide) (Nat.le_of_ble_eq_true rfl) at_15 rfl fun h158 W159 A160 => ?_
  have A161 : Arv Z h158 a1 q3 .char (6 : Int32) [(.int c0), (.int (0 : Int32)), (.int (0 : Int32)), (.int (0 : Int32)), (.int (0 : Int32)), (.int (0 : Int32))] (.int (0 : Int32)) := by have q := A160; rw [own_nc hc0] at q; exact q
  refine Wk.aload (pc' := 18) at_16 rfl rfl rfl ?_
  refine Wk.iconst (pc' := 19) (v := 1) at_18 rfl rfl ?_
  refine Wk.iloadN (pc' := 20) at_19 rfl rfl ?_
  refine Wk.bipush (pc' := 22) (v := 8) at_20 rfl rfl ?_
  refine Wk.iushr (pc' := 23) at_22 rfl ?_
  refine Wk.sipush (pc' := 26) (v := 255) at_23 rfl rfl ?_
  refine Wk.iand (pc' := 27) at_26 rfl ?_
  refine Wk.i2c (pc' := 28) at_27 rfl ?_
  obtain ⟨c1, e_c1⟩ : ∃ z, z = ((((p2'.toUInt32 >>> ((8 : Int32) &&& 31).toUInt32).toInt32) &&& (255 : Int32)).toUInt32.toUInt16.toUInt32.toInt32) := ⟨_, rfl⟩
  rw [← e_c1]
  have hc1 : own_c c1 := by rw [e_c1]; exact own_cand _
  refine Wk.castore (pc' := 29) A161 hN5 ⟨by decide, by decide⟩ 1 (by decide) (Nat.le_of_ble_eq_true rfl) at_28 rfl fun h162 W163 A164 => ?_
  have A165 : Arv Z h162 a1 q3 .char (6 : Int32) [(.int c0), (.int c1), (.int (0 : Int32)), (.int (0 : Int32)), (.int (0 : Int32)), (.int (0 : Int32))] (.int (0 : Int32)) := by have q := A164; rw [own_nc hc1] at q; exact q
  refine Wk.aload (pc' := 31) at_29 rfl rfl rfl ?_
  refine Wk.iconst (pc' := 32) (v := 2) at_31 rfl rfl ?_
  refine Wk.iloadN (pc' := 33) at_32 rfl rfl ?_
  refine Wk.bipush (pc' := 35) (v := 16) at_33 rfl rfl ?_
  refine Wk.iushr (pc' := 36) at_35 rfl ?_
  refine Wk.sipush (pc' := 39) (v := 255) at_36 rfl rfl ?_
  refine Wk.iand (pc' := 40) at_39 rfl ?_
  refine Wk.i2c (pc' := 41) at_40 rfl ?_
  obtain ⟨c2, e_c2⟩ : ∃ z, z = ((((p2'.toUInt32 >>> ((16 : Int32) &&& 31).toUInt32).toInt32) &&& (255 : Int32)).toUInt32.toUInt16.toUInt32.toInt32) := ⟨_, rfl⟩
  rw [← e_c2]
  have hc2 : own_c c2 := by rw [e_c2]; exact own_cand _
  refine Wk.castore (pc' := 42) A165 hN5 ⟨by decide, by decide⟩ 2 (by decide) (Nat.le_of_ble_eq_true rfl) at_41 rfl fun h166 W167 A168 => ?_
  have A169 : Arv Z h166 a1 q3 .char (6 : Int32) [(.int c0), (.int c1), (.int c2), (.int (0 : Int32)), (.int (0 : Int32)), (.int (0 : Int32))] (.int (0 : Int32)) := by have q := A168; rw [own_nc hc2] at q; exact q
  refine Wk.aload (pc' := 44) at_42 rfl rfl rfl ?_
  refine Wk.iconst (pc' := 45) (v := 3) at_44 rfl rfl ?_
  refine Wk.iloadN (pc' := 46) at_45 rfl rfl ?_
  refine Wk.bipush (pc' := 48) (v := 24) at_46 rfl rfl ?_
  refine Wk.iushr (pc' := 49) at_48 rfl ?_
  refine Wk.sipush (pc' := 52) (v := 255) at_49 rfl rfl ?_
  refine Wk.iand (pc' := 53) at_52 rfl ?_
  refine Wk.i2c (pc' := 54) at_53 rfl ?_
  obtain ⟨c3, e_c3⟩ : ∃ z, z = ((((p2'.toUInt32 >>> ((24 : Int32) &&& 31).toUInt32).toInt32) &&& (255 : Int32)).toUInt32.toUInt16.toUInt32.toInt32) := ⟨_, rfl⟩
  rw [← e_c3]
  have hc3 : own_c c3 := by rw [e_c3]; exact own_cand _
  refine Wk.castore (pc' := 55) A169 hN5 ⟨by decide, by decide⟩ 3 (by decide) (Nat.le_of_ble_eq_true rfl) at_54 rfl fun h170 W171 A172 => ?_
  have A173 : Arv Z h170 a1 q3 .char (6 : Int32) [(.int c0), (.int c1), (.int c2), (.int c3), (.int (0 : Int32)), (.int (0 : Int32))] (.int (0 : Int32)) := by have q := A172; rw [own_nc hc3] at q; exact q
  refine Wk.aload (pc' := 57) at_55 rfl rfl rfl ?_
  refine Wk.iconst (pc' := 58) (v := 4) at_57 rfl rfl ?_
  refine Wk.iloadN (pc' := 59) at_58 rfl rfl ?_
  refine Wk.sipush (pc' := 62) (v := 255) at_59 rfl rfl ?_
  refine Wk.iand (pc' := 63) at_62 rfl ?_
  refine Wk.i2c (pc' := 64) at_63 rfl ?_
  obtain ⟨c4, e_c4⟩ : ∃ z, z = ((p3' &&& (255 : Int32)).toUInt32.toUInt16.toUInt32.toInt32) := ⟨_, rfl⟩
  rw [← e_c4]
  have hc4 : own_c c4 := by rw [e_c4]; exact own_cand _
  refine Wk.castore (pc' := 65) A173 hN5 ⟨by decide, by decide⟩ 4 (by decide) (Nat.le_of_ble_eq_true rfl) at_64 rfl fun h174 W175 A176 => ?_
  have A177 : Arv Z h174 a1 q3 .char (6 : Int32) [(.int c0), (.int c1), (.int c2), (.int c3), (.int c4), (.int (0 : Int32))] (.int (0 : Int32)) := by have q := A176; rw [own_nc hc4] at q; exact q
  refine Wk.aload (pc' := 67) at_65 rfl rfl rfl ?_
  refine Wk.iconst (pc' := 68) (v := 5) at_67 rfl rfl ?_
  refine Wk.iloadN (pc' := 69) at_68 rfl rfl ?_
  refine Wk.bipush (pc' := 71) (v := 8) at_69 rfl rfl ?_
  refine Wk.iushr (pc' := 72) at_71 rfl ?_
  refine Wk.sipush (pc' := 75) (v := 255) at_72 rfl rfl ?_
  refine Wk.iand (pc' := 76) at_75 rfl ?_
  refine Wk.i2c (pc' := 77) at_76 rfl ?_
  obtain ⟨c5, e_c5⟩ : ∃ z, z = ((((p3'.toUInt32 >>> ((8 : Int32) &&& 31).toUInt32).toInt32) &&& (255 : Int32)).toUInt32.toUInt16.toUInt32.toInt32) := ⟨_, rfl⟩
  rw [← e_c5]
  have hc5 : own_c c5 := by rw [e_c5]; exact own_cand _
  refine Wk.castore (pc' := 78) A177 hN5 ⟨by decide, by decide⟩ 5 (by decide) (Nat.le_of_ble_eq_true rfl) at_77 rfl fun h178 W179 A180 => ?_
  have A181 : Arv Z h178 a1 q3 .char (6 : Int32) [(.int c0), (.int c1), (.int c2), (.int c3), (.int c4), (.int c5)] (.int (0 : Int32)) := by have q := A180; rw [own_nc hc5] at q; exact q
  refine Wk.iloadN (pc' := 79) at_78 rfl rfl ?_
  refine Wk.iconst (pc' := 80) (v := 3) at_79 rfl rfl ?_
  refine Wk.iand (pc' := 81) at_80 rfl ?_
  refine Wk.istore (pc' := 83) #[.val (.int p1'), .val (.int p2'), .val (.int p3'), .val (.int p4'), .val (.ref a1), .val (.int (p1' &&& (3 : Int32))), .unset, .unset, .unset, .unset] at_81 rfl rfl ?_
  refine Wk.iload (pc' := 85) at_83 rfl rfl ?_
  by_cases c85_182 : (p1' &&& (3 : Int32)) = (0 : Int32)
  · refine Wk.if_neN (pc' := 88) at_85 rfl c85_182 ?_
    refine Wk.aload (pc' := 90) at_88 rfl rfl rfl ?_
    refine Wk.iconst (pc' := 91) (v := 0) at_90 rfl rfl ?_
    refine Wk.bipush (pc' := 93) (v := 115) at_91 rfl rfl ?_
    refine Wk.castore (pc' := 94) A181 hN5 ⟨by decide, by decide⟩ 0 (by decide) (Nat.le_of_ble_eq_true rfl) at_93 rfl fun h183 W184 A185 => ?_
    have A186 : Arv Z h183 a1 q3 .char (6 : Int32) [(.int (115 : Int32)), (.int c1), (.int c2), (.int c3), (.int c4), (.int c5)] (.int (0 : Int32)) := by have q := A185; rw [own_nc (show own_c 115 from ⟨by decide, by decide⟩)] at q; exact q
    refine Wk.aload (pc' := 96) at_94 rfl rfl rfl ?_
    refine Wk.iconst (pc' := 97) (v := 1) at_96 rfl rfl ?_
    refine Wk.bipush (pc' := 99) (v := 112) at_97 rfl rfl ?_
    refine Wk.castore (pc' := 100) A186 hN5 ⟨by decide, by decide⟩ 1 (by decide) (Nat.le_of_ble_eq_true rfl) at_99 rfl fun h187 W188 A189 => ?_
    have A190 : Arv Z h187 a1 q3 .char (6 : Int32) [(.int (115 : Int32)), (.int (112 : Int32)), (.int c2), (.int c3), (.int c4), (.int c5)] (.int (0 : Int32)) := by have q := A189; rw [own_nc (show own_c 112 from ⟨by decide, by decide⟩)] at q; exact q
    refine Wk.aload (pc' := 102) at_100 rfl rfl rfl ?_
    refine Wk.iconst (pc' := 103) (v := 2) at_102 rfl rfl ?_
    refine Wk.bipush (pc' := 105) (v := 105) at_103 rfl rfl ?_
    refine Wk.castore (pc' := 106) A190 hN5 ⟨by decide, by decide⟩ 2 (by decide) (Nat.le_of_ble_eq_true rfl) at_105 rfl fun h191 W192 A193 => ?_
    have A194 : Arv Z h191 a1 q3 .char (6 : Int32) [(.int (115 : Int32)), (.int (112 : Int32)), (.int (105 : Int32)), (.int c3), (.int c4), (.int c5)] (.int (0 : Int32)) := by have q := A193; rw [own_nc (show own_c 105 from ⟨by decide, by decide⟩)] at q; exact q
    refine Wk.aload (pc' := 108) at_106 rfl rfl rfl ?_
    refine Wk.iconst (pc' := 109) (v := 3) at_108 rfl rfl ?_
    refine Wk.bipush (pc' := 111) (v := 100) at_109 rfl rfl ?_
    refine Wk.castore (pc' := 112) A194 hN5 ⟨by decide, by decide⟩ 3 (by decide) (Nat.le_of_ble_eq_true rfl) at_111 rfl fun h195 W196 A197 => ?_
    have A198 : Arv Z h195 a1 q3 .char (6 : Int32) [(.int (115 : Int32)), (.int (112 : Int32)), (.int (105 : Int32)), (.int (100 : Int32)), (.int c4), (.int c5)] (.int (0 : Int32)) := by have q := A197; rw [own_nc (show own_c 100 from ⟨by decide, by decide⟩)] at q; exact q
    refine Wk.goto (pc' := 151) at_112 (by decide) ?_
    have A199 : Arv Z h195 a1 q3 .char (6 : Int32) ([(115 : Int32), (112 : Int32), (105 : Int32), (100 : Int32), c4, c5].map Value.int) (.int (0 : Int32)) := A198
    exact J151 [(115 : Int32), (112 : Int32), (105 : Int32), (100 : Int32), c4, c5] h195 A199 rfl (own_Lc (show own_c 115 from ⟨by decide, by decide⟩) (own_Lc (show own_c 112 from ⟨by decide, by decide⟩) (own_Lc (show own_c 105 from ⟨by decide, by decide⟩) (own_Lc (show own_c 100 from ⟨by decide, by decide⟩) (own_Lc hc4 (own_Lc hc5 own_Ln)))))) ((((((((((((Keep.refl h0 []).ext E6).wr W159 (Or.inr hg4)).wr W163 (Or.inr hg4)).wr W167 (Or.inr hg4)).wr W171 (Or.inr hg4)).wr W175 (Or.inr hg4)).wr W179 (Or.inr hg4)).wr W184 (Or.inr hg4)).wr W188 (Or.inr hg4)).wr W192 (Or.inr hg4)).wr W196 (Or.inr hg4))
  · refine Wk.if_neY (pc' := 115) at_85 (by decide) c85_182 ?_
    refine Wk.iload (pc' := 117) at_115 rfl rfl ?_
    refine Wk.iconst (pc' := 118) (v := 1) at_117 rfl rfl ?_
    by_cases c118_200 : (p1' &&& (3 : Int32)) = (1 : Int32)
    · refine Wk.icmp_neN (pc' := 121) at_118 rfl c118_200 ?_
      refine Wk.aload (pc' := 123) at_121 rfl rfl rfl ?_
      refine Wk.iconst (pc' := 124) (v := 0) at_123 rfl rfl ?_
      refine Wk.bipush (pc' := 126) (v := 115) at_124 rfl rfl ?_
      refine Wk.castore (pc' := 127) A181 hN5 ⟨by decide, by decide⟩ 0 (by decide) (Nat.le_of_ble_eq_true rfl) at_126 rfl fun h201 W202 A203 => ?_
      have A204 : Arv Z h201 a1 q3 .char (6 : Int32) [(.int (115 : Int32)), (.int c1), (.int c2), (.int c3), (.int c4), (.int c5)] (.int (0 : Int32)) := by have q := A203; rw [own_nc (show own_c 115 from ⟨by decide, by decide⟩)] at q; exact q
      refine Wk.aload (pc' := 129) at_127 rfl rfl rfl ?_
      refine Wk.iconst (pc' := 130) (v := 1) at_129 rfl rfl ?_
      refine Wk.bipush (pc' := 132) (v := 97) at_130 rfl rfl ?_
      refine Wk.castore (pc' := 133) A204 hN5 ⟨by decide, by decide⟩ 1 (by decide) (Nat.le_of_ble_eq_true rfl) at_132 rfl fun h205 W206 A207 => ?_
      have A208 : Arv Z h205 a1 q3 .char (6 : Int32) [(.int (115 : Int32)), (.int (97 : Int32)), (.int c2), (.int c3), (.int c4), (.int c5)] (.int (0 : Int32)) := by have q := A207; rw [own_nc (show own_c 97 from ⟨by decide, by decide⟩)] at q; exact q
      refine Wk.aload (pc' := 135) at_133 rfl rfl rfl ?_
      refine Wk.iconst (pc' := 136) (v := 2) at_135 rfl rfl ?_
      refine Wk.bipush (pc' := 138) (v := 109) at_136 rfl rfl ?_
      refine Wk.castore (pc' := 139) A208 hN5 ⟨by decide, by decide⟩ 2 (by decide) (Nat.le_of_ble_eq_true rfl) at_138 rfl fun h209 W210 A211 => ?_
      have A212 : Arv Z h209 a1 q3 .char (6 : Int32) [(.int (115 : Int32)), (.int (97 : Int32)), (.int (109 : Int32)), (.int c3), (.int c4), (.int c5)] (.int (0 : Int32)) := by have q := A211; rw [own_nc (show own_c 109 from ⟨by decide, by decide⟩)] at q; exact q
      refine Wk.aload (pc' := 141) at_139 rfl rfl rfl ?_
      refine Wk.iconst (pc' := 142) (v := 3) at_141 rfl rfl ?_
      refine Wk.bipush (pc' := 144) (v := 108) at_142 rfl rfl ?_
      refine Wk.castore (pc' := 145) A212 hN5 ⟨by decide, by decide⟩ 3 (by decide) (Nat.le_of_ble_eq_true rfl) at_144 rfl fun h213 W214 A215 => ?_
      have A216 : Arv Z h213 a1 q3 .char (6 : Int32) [(.int (115 : Int32)), (.int (97 : Int32)), (.int (109 : Int32)), (.int (108 : Int32)), (.int c4), (.int c5)] (.int (0 : Int32)) := by have q := A215; rw [own_nc (show own_c 108 from ⟨by decide, by decide⟩)] at q; exact q
      refine Wk.aload (pc' := 147) at_145 rfl rfl rfl ?_
      refine Wk.iconst (pc' := 148) (v := 4) at_147 rfl rfl ?_
      refine Wk.bipush (pc' := 150) (v := 50) at_148 rfl rfl ?_
      refine Wk.castore (pc' := 151) A216 hN5 ⟨by decide, by decide⟩ 4 (by decide) (Nat.le_of_ble_eq_true rfl) at_150 rfl fun h217 W218 A219 => ?_
      have A220 : Arv Z h217 a1 q3 .char (6 : Int32) [(.int (115 : Int32)), (.int (97 : Int32)), (.int (109 : Int32)), (.int (108 : Int32)), (.int (50 : Int32)), (.int c5)] (.int (0 : Int32)) := by have q := A219; rw [own_nc (show own_c 50 from ⟨by decide, by decide⟩)] at q; exact q
      have A221 : Arv Z h217 a1 q3 .char (6 : Int32) ([(115 : Int32), (97 : Int32), (109 : Int32), (108 : Int32), (50 : Int32), c5].map Value.int) (.int (0 : Int32)) := A220
      exact J151 [(115 : Int32), (97 : Int32), (109 : Int32), (108 : Int32), (50 : Int32), c5] h217 A221 rfl (own_Lc (show own_c 115 from ⟨by decide, by decide⟩) (own_Lc (show own_c 97 from ⟨by decide, by decide⟩) (own_Lc (show own_c 109 from ⟨by decide, by decide⟩) (own_Lc (show own_c 108 from ⟨by decide, by decide⟩) (own_Lc (show own_c 50 from ⟨by decide, by decide⟩) (own_Lc hc5 own_Ln)))))) (((((((((((((Keep.refl h0 []).ext E6).wr W159 (Or.inr hg4)).wr W163 (Or.inr hg4)).wr W167 (Or.inr hg4)).wr W171 (Or.inr hg4)).wr W175 (Or.inr hg4)).wr W179 (Or.inr hg4)).wr W202 (Or.inr hg4)).wr W206 (Or.inr hg4)).wr W210 (Or.inr hg4)).wr W214 (Or.inr hg4)).wr W218 (Or.inr hg4))
    · refine Wk.icmp_neY (pc' := 151) at_118 (by decide) c118_200 ?_
      have A222 : Arv Z h178 a1 q3 .char (6 : Int32) ([c0, c1, c2, c3, c4, c5].map Value.int) (.int (0 : Int32)) := A181
      exact J151 [c0, c1, c2, c3, c4, c5] h178 A222 rfl (own_Lc hc0 (own_Lc hc1 (own_Lc hc2 (own_Lc hc3 (own_Lc hc4 (own_Lc hc5 own_Ln)))))) ((((((((Keep.refl h0 []).ext E6).wr W159 (Or.inr hg4)).wr W163 (Or.inr hg4)).wr W167 (Or.inr hg4)).wr W171 (Or.inr hg4)).wr W175 (Or.inr hg4)).wr W179 (Or.inr hg4))
set_option maxRecDepth 65536 in
set_option maxHeartbeats 40000000 in
theorem comes_1 {Post : Tables → Env → Array Value → State → Outcome → State → Prop} (hpost : ∀ tb e args s v u, (limb_1_1.after args s (.returned v) u = true ∧ limb_1_2.after args s (.returned v) u = true ∧ True) → ReturnedEndW s (.returned v) u (Jvm.fieldLocs frame_1_writes args s ++ Jvm.arrayLocs frame_1_arrays args s ++ Jvm.staticLocs frame_1_statics s) 24 1152 → Post tb e args s (.returned v) u) :
    ArmFor flags0 classFile x code maxLocals ret World_1 tables_1 room_1 Calls_1 rest_1 Pre_1 Post := by
  intro l hfl _ _ p e ha hc hk s m args below hf hA hF happ hP
  obtain ⟨hcalls, hrest, hpre⟩ := hP
  obtain ⟨-, -, -, hnamed, -, -, -, hat⟩ := (Spec.applies_iff hf).mp happ
  obtain ⟨hg, hn⟩ := and_e (Cond.before_iff.mp (show (Jvm.Cond.and given_1 narrow_1).before args s = true from hpre))
  obtain ⟨g1, g2⟩ := and_e hg
  obtain ⟨g3, g4⟩ := and_e g2
  obtain ⟨g5, g6⟩ := and_e g4
  obtain ⟨g7, g8⟩ := and_e g6
  obtain ⟨a_0, a_1, a_2, a_3, rfl⟩ : ∃ a_0 a_1 a_2 a_3 : Value, args = #[a_0, a_1, a_2, a_3] := by
    have hs : args.size = 4 := by simpa [Cond.value, given_1] using g1
    obtain ⟨L⟩ := args
    match L, hs with
    | [a_0, a_1, a_2, a_3], _ => exact ⟨a_0, a_1, a_2, a_3, rfl⟩
  have hw := fun d (hd : d ∈ tables_1) => atoms_spec (ws := Jvm.Cond.code x code maxLocals ret :: tables_1) hat d (List.mem_cons_of_mem _ hd)
  have hfit : Fit s := fun {y c} hc i hi => by
    obtain ⟨ha, rfl⟩ := Array.getElem?_eq_some_iff.mp hc
    have q := List.all_eq_true.mp ((Array.all_eq_true_iff_forall_mem.mp hF) _ (Array.getElem_mem ha)) i (List.mem_range.mpr hi)
    simpa [Array.getElem?_eq_getElem hi] using q
  obtain ⟨hsets, hown0⟩ := atoms_of _ (rest_1_c_eq ▸ (show rest_1_c.before _ s = true from hrest))
  obtain ⟨i0, ei0⟩ := is_v g3
  obtain rfl : a_0 = (.int i0) := Option.some.inj ei0
  obtain ⟨i1, ei1⟩ := is_v g5
  obtain rfl : a_1 = (.int i1) := Option.some.inj ei1
  obtain ⟨i2, ei2⟩ := is_v g7
  obtain rfl : a_2 = (.int i2) := Option.some.inj ei2
  obtain ⟨i3, ei3⟩ := is_v g8
  obtain rfl : a_3 = (.int i3) := Option.some.inj ei3
  obtain ⟨n_1, n_2⟩ := and_e hn
  obtain ⟨n_3, n_4⟩ := and_e n_2
  obtain ⟨n_5, n_6⟩ := and_e n_4
  obtain ⟨n_7, n_8⟩ := and_e n_6
  obtain ⟨n_9, n_10⟩ := and_e n_8
  obtain ⟨n_11, n_12⟩ := and_e n_10
  obtain ⟨n_13, n_14⟩ := and_e n_12
  obtain ⟨n_15, n_16⟩ := and_e n_14
  obtain ⟨n_17, n_18⟩ := and_e n_16
  obtain ⟨n_19, n_20⟩ := and_e n_18
  obtain ⟨n_21, n_22⟩ := and_e n_20
  obtain ⟨n_23, n_24⟩ := and_e n_22
  obtain ⟨n_25, n_26⟩ := and_e n_24
  obtain ⟨n_27, n_28⟩ := and_e n_26
  obtain ⟨n_29, n_30⟩ := and_e n_28
  obtain ⟨n_31, n_32⟩ := and_e n_30
  obtain ⟨n_33, n_34⟩ := and_e n_32
  obtain ⟨n_35, n_36⟩ := and_e n_34
  obtain ⟨n_37, n_38⟩ := and_e n_36
  obtain ⟨n_39, n_40⟩ := and_e n_38
  obtain ⟨n_41, n_42⟩ := and_e n_40
  obtain ⟨n_43, n_44⟩ := and_e n_42
  obtain ⟨n_45, n_46⟩ := and_e n_44
  obtain ⟨A_47, eA_47⟩ := exa_v n_15
  have X_48 := Exa.start eA_47 n_15
  obtain ⟨A_49, eA_49⟩ := exa_v n_7
  have X_50 := Exa.start eA_49 n_7
  have S_51 : Sta s s.heap "com/example/samfed/samfed/config/Profile" "SPID" "Lcom/example/samfed/samfed/config/Profile;" (.ref A_49) := Sta.start eA_49 (Or.inr ⟨(w45 hw), (w59 hw)⟩)
  have F_52 : Fld s s.heap A_49 "com/example/samfed/samfed/config/Profile" "configName" "Ljava/lang/String;" (.ref A_47) := Fld.start ((fld_at eA_49).symm.trans eA_47)
  have F_53 : Fld s s.heap A_47 "java/lang/String" "coder" "B" (.int (0 : Int32)) := Fld.start ((fld_at eA_47).symm.trans (own_eqI n_17))
  obtain ⟨A_54, eA_54⟩ := exa_v n_23
  have X_55 := Exa.start eA_54 n_23
  obtain ⟨A_56, eA_56⟩ := exa_v n_11
  have X_57 := Exa.start eA_56 n_11
  have S_58 : Sta s s.heap "com/example/samfed/samfed/config/Profile" "SAML2" "Lcom/example/samfed/samfed/config/Profile;" (.ref A_56) := Sta.start eA_56 (Or.inr ⟨(w45 hw), (w60 hw)⟩)
  have F_59 : Fld s s.heap A_56 "com/example/samfed/samfed/config/Profile" "configName" "Ljava/lang/String;" (.ref A_54) := Fld.start ((fld_at eA_56).symm.trans eA_54)
  have F_60 : Fld s s.heap A_54 "java/lang/String" "coder" "B" (.int (0 : Int32)) := Fld.start ((fld_at eA_54).symm.trans (own_eqI n_25))
  obtain ⟨A_61, eA_61⟩ := exa_v (Cond.before_iff.mp (hsets _ (List.mem_of_getElem? (i := 11) rfl)))
  have X_62 := Exa.start eA_61 (Cond.before_iff.mp (hsets _ (List.mem_of_getElem? (i := 11) rfl)))
  have S_63 : Sta s s.heap "java/util/Optional" "EMPTY" "Ljava/util/Optional;" (.ref A_61) := Sta.start eA_61 (Or.inl (hsets _ (List.mem_of_getElem? (i := 10) rfl)))
  have F_64 : Fld s s.heap A_61 "java/util/Optional" "value" "Ljava/lang/Object;" .null := Fld.start ((fld_at eA_61).symm.trans (null_v (Cond.before_iff.mp (hsets _ (List.mem_of_getElem? (i := 12) rfl)))))
  obtain ⟨i_65, e_66⟩ := is_v (Cond.before_iff.mp (hsets _ (List.mem_of_getElem? (i := 1) rfl)))
  have S_67 : Sta s s.heap "java/lang/String" "COMPACT_STRINGS" "Z" (.int i_65) := Sta.start e_66 (Or.inl (hsets _ (List.mem_of_getElem? (i := 0) rfl)))
  have c_68 : ¬ (i_65 = (0 : Int32)) := gotF (Cond.eq_ints e_66 (Term.int_eval (0))) (not_v (Cond.before_iff.mp (hsets _ (List.mem_of_getElem? (i := 2) rfl))))
  obtain ⟨v_69, e_70, r_71⟩ := isR_v (Cond.before_iff.mp (hsets _ (List.mem_of_getElem? (i := 8) rfl)))
  have S_72 : Sta s s.heap "jdk/internal/util/Preconditions" "SIOOBE_FORMATTER" "Ljava/util/function/BiFunction;" v_69 := Sta.start e_70 (Or.inl (hsets _ (List.mem_of_getElem? (i := 7) rfl)))
  obtain ⟨A_73, eA_73⟩ := exa_v n_3
  have X_74 := Exa.start eA_73 n_3
  have S_75 : Sta s s.heap "com/example/samfed/samfed/config/Profile" "$VALUES" "[Lcom/example/samfed/samfed/config/Profile;" (.ref A_73) := Sta.start eA_73 (Or.inl (w61 hw))
  obtain ⟨q_76, V_77⟩ := own_arv0 (vs := [(.ref A_49), (.ref A_56)]) (dv := .null) hfit eA_73 n_1 (own_eqI n_5) (by decide) rfl (Nat.le_of_ble_eq_true rfl) ⟨own_eqR n_9 eA_49, own_eqR n_13 eA_56, trivial⟩
  obtain ⟨A_78, eA_78⟩ := arr_v n_19
  have F_79 : Fld s s.heap A_47 "java/lang/String" "value" "[B" (.ref A_78) := Fld.start ((fld_at eA_47).symm.trans eA_78)
  obtain ⟨q_80, V_81⟩ := own_arv0 (vs := [(.int (115 : Int32)), (.int (112 : Int32)), (.int (105 : Int32)), (.int (100 : Int32))]) (dv := (.int (0 : Int32))) hfit eA_78 n_19 (own_eqI n_21) (by decide) rfl (Nat.le_of_ble_eq_true rfl) ⟨own_eqI n_31, own_eqI n_33, own_eqI n_35, own_eqI n_37, trivial⟩
  obtain ⟨A_82, eA_82⟩ := arr_v n_27
  have F_83 : Fld s s.heap A_54 "java/lang/String" "value" "[B" (.ref A_82) := Fld.start ((fld_at eA_54).symm.trans eA_82)
  obtain ⟨q_84, V_85⟩ := own_arv0 (vs := [(.int (115 : Int32)), (.int (97 : Int32)), (.int (109 : Int32)), (.int (108 : Int32)), (.int (50 : Int32))]) (dv := (.int (0 : Int32))) hfit eA_82 n_27 (own_eqI n_29) (by decide) rfl (Nat.le_of_ble_eq_true rfl) ⟨own_eqI n_39, own_eqI n_41, own_eqI n_43, own_eqI n_45, own_eqI n_46, trivial⟩
  have hH7 : Jvm.Lit.constHeld s "java/lang/String" 7 := hcalls.1 ("java/lang/String", 7) (by simp [consts_1])
  obtain ⟨n, o, h1, h2, h3, v, L, J, rfl, hQ, hV, N, hE, hq⟩ := rm_law (l := l) (Z := s) hw i0 i1 i2 i3 A_73 q_76 A_49 A_56 A_47 A_54 A_78 A_82 q_80 q_84 A_61 i_65 v_69 s.heap  S_75 X_74 V_77 S_67 c_68 X_50 X_57 F_52 F_59 X_48 F_79 F_53 V_81 X_55 F_83 F_60 V_85 S_63 X_62 F_64 S_72 r_71 S_51 S_58 hH7 (hsets _ (List.mem_of_getElem? (i := 2) rfl)) tables_1 p e ha hc hk s m _ below hf ((Spec.applies_iff_loose hf).mp happ).1 ⟨rfl, State.Warmed39.refl s, rfl, ⟨IB.start, fun u hu => by cases hu⟩, ⟨Nat.le_refl _, fun _ _ h => h⟩, Nat.le_refl _, Nat.le_refl _⟩ trivial
  obtain ⟨-, rfl⟩ := hQ
  refine ⟨n, _, h1, h2, h3, hpost _ _ _ _ _ _ ⟨Cond.after_iff.mpr rfl, Cond.after_iff.mpr (eq_i res_at (Term.int_eval (1)) rfl), trivial⟩ ⟨⟨_, rfl⟩, hq.2.1, hq.2.2.1, (hq.2.2.2.sift fun y hy => Or.inr (N y hy)).mono (Nat.le_of_ble_eq_true rfl) (Nat.le_of_ble_eq_true rfl)⟩⟩
theorem main_1_1 : Claimed_1_1 := comes_1 fun _ _ _ _ _ _ h hF => ⟨h.1, hF⟩
theorem main_1_2 : Claimed_1_2 := comes_1 fun _ _ _ _ _ _ h hF => ⟨h.2.1, hF⟩
end Jvm.Pilot.@@N@@
namespace Jvm.Pilot.@@N@@
open Jvm Jvm.ClassFile Sem Op Lib Jvm.Free Jvm.Stand Jvm.Pilot.@@N@@.Jvm.D
/-! MADE BY PROGRAM (witnessworld.py) out of the Statement's table words and the real class files: 24 classes; the members and pool entries that the words name. The judged class is class 1, her method 1. -/
namespace start1
open Jvm.ClassFile
def u (s : String) : CpInfo := .utf8 (stringToUtf16 s)
/-- a pool by its gaps: so many unusable entries, then the entry; so many at the end -/
def gap : Nat → List CpInfo → List CpInfo
  | 0, r => r
  | n + 1, r => .unusable :: gap n r
def poolList (es : List (Nat × CpInfo)) (last : Nat) : List CpInfo := es.foldr (fun e r => gap e.1 (e.2 :: r)) (gap last [])
def pool (es : List (Nat × CpInfo)) (last : Nat) : Array CpInfo := ⟨poolList es last⟩
def fileOf (pool : Array CpInfo) (this : Nat) (attrs : Array Attribute := #[]) (ms : Array MethodInfo := #[]) (fl : Nat := 33) (sup : Nat := 0) (ifs : Array Nat := #[]) (fds : Array FieldInfo := #[]) : ClassFile where
  minorVersion := 0
  majorVersion := 65
  constantPool := pool
  accessFlags := fl
  thisClass := this
  superClass := sup
  interfaces := ifs
  fields := fds
  methods := ms
  attributes := attrs
def plain (name : String) (sup : Option ClassId) : Class where
  name := name
  kind := .ordinary
  loader := none
  accessFlags := 33
  super := sup
  interfaces := #[]
  cf := none
  fields := #[]
  methods := #[]
  instanceTypes := #[]
  staticTypes := #[]
  resolved := #[]
  callSites := []
  init := .initialized
  statics := none
  mirror := none

def pool0 : Array CpInfo := pool [(5, u "<init>"), (0, u "()V"), (1, .class_ 10), (1, u "java/lang/Object"), (85, u "clone"), (0, u "()Ljava/lang/Object;")] 26

def k0c0 : Code := { maxStack := 0, maxLocals := 1, code := object_method_1_code, exceptionTable := #[], attributes := #[] }
def k0m0 : Method := { name := "<init>", desc := "()V", sig := { parameters := [], returnType := none }, accessFlags := 1, code := some k0c0 }
def k0m1 : Method := { name := "clone", desc := "()Ljava/lang/Object;", sig := { parameters := [], returnType := some (.object "java/lang/Object") }, accessFlags := 260, code := none }
/-- java/lang/Object -/
def k0 : Class := { plain "java/lang/Object" none with
  accessFlags := 33
  interfaces := #[]
  cf := some (fileOf pool0 8 #[] #[{ accessFlags := 1, nameIndex := 5, descriptorIndex := 6, attributes := #[] }, { accessFlags := 260, nameIndex := 96, descriptorIndex := 97, attributes := #[] }] 33 0 #[] #[])
  fields := #[]
  methods := #[k0m0, k0m1]
  instanceTypes := #[]
  staticTypes := #[]
  resolved := Array.replicate 124 none
  statics := none }

def pool1 : Array CpInfo := pool [(2, .class_ 4), (1, u "java/lang/Object"), (0, u "<init>"), (0, u "()V"), (0, .integer 2147483647), (0, .methodref 9 10), (0, .class_ 11), (0, .nameAndType 12 13), (0, u "com/example/samfed/samfed/config/ProfileFromConfigNamePinLaw"), (0, u "make"), (0, u "([CI)Ljava/lang/String;"), (0, .methodref 9 15), (0, .nameAndType 16 17), (0, u "isSpid"), (0, u "(Ljava/lang/String;)Z"), (0, .fieldref 19 20), (0, .class_ 21), (0, .nameAndType 22 23), (0, u "com/example/samfed/samfed/config/Profile"), (0, u "SPID"), (0, u "Lcom/example/samfed/samfed/config/Profile;"), (0, .methodref 9 25), (0, .nameAndType 26 17), (0, u "isSaml2"), (0, .fieldref 19 28), (0, .nameAndType 29 23), (0, u "SAML2"), (0, .methodref 19 31), (0, .nameAndType 32 33), (0, u "fromConfigName"), (0, u "(Ljava/lang/String;)Ljava/util/Optional;"), (0, .methodref 35 36), (0, .class_ 37), (0, .nameAndType 38 39), (0, u "java/util/Optional"), (0, u "orElse"), (0, u "(Ljava/lang/Object;)Ljava/lang/Object;"), (0, .class_ 41), (0, u "java/lang/String"), (0, .methodref 40 43), (0, .nameAndType 5 44), (0, u "([C)V"), (0, .methodref 40 46), (0, .nameAndType 47 48), (0, u "length"), (0, u "()I"), (0, .methodref 40 50), (0, .nameAndType 51 52), (0, u "charAt"), (0, u "(I)C"), (2, u "law"), (0, u "(IIII)Z")] 5

def k1m0 : Method := { name := "<init>", desc := "()V", sig := { parameters := [], returnType := none }, accessFlags := 1, code := none }
def k1c1 : Code := { maxStack := 4, maxLocals := 10, code := code, exceptionTable := #[], attributes := #[] }
def k1m1 : Method := { name := "law", desc := "(IIII)Z", sig := { parameters := [.int, .int, .int, .int], returnType := some .boolean }, accessFlags := 9, code := some k1c1 }
def k1c2 : Code := { maxStack := 7, maxLocals := 2, code := method_3_code, exceptionTable := #[], attributes := #[] }
def k1m2 : Method := { name := "make", desc := "([CI)Ljava/lang/String;", sig := { parameters := [(.array .char), .int], returnType := some (.object "java/lang/String") }, accessFlags := 10, code := some k1c2 }
def k1c3 : Code := { maxStack := 2, maxLocals := 1, code := method_4_code, exceptionTable := #[], attributes := #[] }
def k1m3 : Method := { name := "isSpid", desc := "(Ljava/lang/String;)Z", sig := { parameters := [(.object "java/lang/String")], returnType := some .boolean }, accessFlags := 10, code := some k1c3 }
def k1c4 : Code := { maxStack := 2, maxLocals := 1, code := method_5_code, exceptionTable := #[], attributes := #[] }
def k1m4 : Method := { name := "isSaml2", desc := "(Ljava/lang/String;)Z", sig := { parameters := [(.object "java/lang/String")], returnType := some .boolean }, accessFlags := 10, code := some k1c4 }
/-- com/example/samfed/samfed/config/ProfileFromConfigNamePinLaw -/
def k1 : Class := { plain "com/example/samfed/samfed/config/ProfileFromConfigNamePinLaw" (some 0) with
  accessFlags := 49
  interfaces := #[]
  cf := some (fileOf pool1 9 #[] #[{ accessFlags := 1, nameIndex := 5, descriptorIndex := 6, attributes := #[] }, { accessFlags := 9, nameIndex := 55, descriptorIndex := 56, attributes := #[] }, { accessFlags := 10, nameIndex := 12, descriptorIndex := 13, attributes := #[] }, { accessFlags := 10, nameIndex := 16, descriptorIndex := 17, attributes := #[] }, { accessFlags := 10, nameIndex := 26, descriptorIndex := 17, attributes := #[] }] 49 2 #[] #[])
  fields := #[]
  methods := #[k1m0, k1m1, k1m2, k1m3, k1m4]
  instanceTypes := #[]
  staticTypes := #[]
  resolved := Array.replicate 62 none
  statics := none }

def pool2 : Array CpInfo := pool [(1, .class_ 2), (0, u "java/io/Serializable"), (0, .class_ 4), (0, u "java/lang/Object")] 2

/-- java/io/Serializable -/
def k2 : Class := { plain "java/io/Serializable" (some 0) with
  accessFlags := 1537
  interfaces := #[]
  cf := some (fileOf pool2 1 #[] #[] 1537 3 #[] #[])
  fields := #[]
  methods := #[]
  instanceTypes := #[]
  staticTypes := #[]
  resolved := Array.replicate 7 none
  statics := none }

def pool3 : Array CpInfo := pool [(1, .class_ 2), (0, u "java/lang/Comparable"), (0, .class_ 4), (0, u "java/lang/Object")] 7

/-- java/lang/Comparable -/
def k3 : Class := { plain "java/lang/Comparable" (some 0) with
  accessFlags := 1537
  interfaces := #[]
  cf := some (fileOf pool3 1 #[] #[] 1537 3 #[] #[])
  fields := #[]
  methods := #[]
  instanceTypes := #[]
  staticTypes := #[]
  resolved := Array.replicate 12 none
  statics := none }

def pool4 : Array CpInfo := pool [(2, .class_ 4), (1, u "java/lang/CharSequence"), (42, .class_ 48), (0, u "java/lang/CharSequence$1CodePointIterator"), (10, .class_ 60), (0, u "java/lang/CharSequence$1CharIterator"), (5, .class_ 67), (0, u "java/lang/Object")] 63

/-- java/lang/CharSequence -/
def k4 : Class := { plain "java/lang/CharSequence" (some 0) with
  accessFlags := 1537
  interfaces := #[]
  cf := some (fileOf pool4 2 #[.nestMembers #[47, 59]] #[] 1537 66 #[] #[])
  fields := #[]
  methods := #[]
  instanceTypes := #[]
  staticTypes := #[]
  resolved := Array.replicate 131 none
  statics := none }

def pool5 : Array CpInfo := pool [(1, .class_ 2), (0, u "java/lang/constant/Constable"), (0, .class_ 4), (0, u "java/lang/Object")] 6

/-- java/lang/constant/Constable -/
def k5 : Class := { plain "java/lang/constant/Constable" (some 0) with
  accessFlags := 1537
  interfaces := #[]
  cf := some (fileOf pool5 1 #[] #[] 1537 3 #[] #[])
  fields := #[]
  methods := #[]
  instanceTypes := #[]
  staticTypes := #[]
  resolved := Array.replicate 11 none
  statics := none }

def pool6 : Array CpInfo := pool [(1, .class_ 2), (0, u "java/lang/constant/ConstantDesc"), (0, .class_ 4), (0, u "java/lang/Object")] 32

/-- java/lang/constant/ConstantDesc -/
def k6 : Class := { plain "java/lang/constant/ConstantDesc" (some 0) with
  accessFlags := 1537
  interfaces := #[]
  cf := some (fileOf pool6 1 #[] #[] 1537 3 #[] #[])
  fields := #[]
  methods := #[]
  instanceTypes := #[]
  staticTypes := #[]
  resolved := Array.replicate 37 none
  statics := none }

def pool7 : Array CpInfo := pool [(1, .methodref 2 3), (0, .class_ 4), (0, .nameAndType 5 6), (0, u "java/lang/Object"), (0, u "<init>"), (0, u "()V"), (0, .string 8), (0, u ""), (0, .fieldref 10 11), (0, .class_ 12), (0, .nameAndType 13 14), (0, u "java/lang/String"), (0, u "value"), (0, u "[B"), (0, .fieldref 10 16), (0, .nameAndType 17 18), (0, u "coder"), (0, u "B"), (2, u "hash"), (0, u "I"), (2, u "hashIsZero"), (0, u "Z"), (0, .methodref 10 28), (0, .nameAndType 5 29), (0, u "([CIILjava/lang/Void;)V"), (8, .fieldref 10 39), (0, .nameAndType 40 26), (0, u "COMPACT_STRINGS"), (1, .class_ 44), (1, u "java/lang/StringUTF16"), (0, u "compress"), (1, .methodref 42 48), (0, .nameAndType 49 50), (0, u "coderFromArrayLen"), (0, u "([BI)B"), (56, .class_ 109), (1, u "java/lang/StringLatin1"), (32, u "()Z"), (34, .methodref 42 178), (0, .nameAndType 45 179), (0, u "([CII)[B"), (154, u "()I"), (0, .methodref 10 336), (0, .nameAndType 17 337), (0, u "()B"), (25, u "([BI)C"), (27, u "(II)V"), (35, u "(I)C"), (64, .methodref 10 493), (0, .nameAndType 494 142), (0, u "isLatin1"), (0, .methodref 107 496), (0, .nameAndType 497 363), (0, u "charAt"), (3, u "checkIndex"), (5, u "length"), (33, .methodref 107 542), (0, .nameAndType 543 544), (0, u "equals"), (0, u "([B[B)Z"), (28, u "(Ljava/lang/Object;)Z"), (1, .class_ 576), (0, u "java/lang/CharSequence"), (22, u "CASE_INSENSITIVE_ORDER"), (0, u "Ljava/util/Comparator;"), (409, u "([C)V"), (42, .fieldref 1054 1055), (0, .class_ 1056), (0, .nameAndType 1057 1058), (0, u "jdk/internal/util/Preconditions"), (0, u "SIOOBE_FORMATTER"), (0, u "Ljava/util/function/BiFunction;"), (0, .methodref 1054 1060), (0, .nameAndType 501 1061), (0, u "(IILjava/util/function/BiFunction;)I"), (39, u "serialPersistentFields"), (0, u "[Ljava/io/ObjectStreamField;"), (0, .class_ 1104), (0, u "java/lang/String$CaseInsensitiveComparator"), (1, .class_ 1107), (0, u "java/io/Serializable"), (0, .class_ 1109), (0, u "java/lang/Comparable"), (0, .class_ 1111), (0, u "java/lang/constant/Constable"), (0, .class_ 1113), (0, u "java/lang/constant/ConstantDesc"), (2, u "serialVersionUID"), (0, u "J"), (3, u "REPL"), (0, u "C"), (2, u "LATIN1"), (1, u "UTF16")] 323

def k7m0 : Method := { name := "<init>", desc := "()V", sig := { parameters := [], returnType := none }, accessFlags := 1, code := none }
def k7c1 : Code := { maxStack := 5, maxLocals := 2, code := jdk_42_method_3_code, exceptionTable := #[], attributes := #[] }
def k7m1 : Method := { name := "<init>", desc := "([C)V", sig := { parameters := [(.array .char)], returnType := none }, accessFlags := 1, code := some k7c1 }
def k7c2 : Code := { maxStack := 2, maxLocals := 1, code := jdk_42_method_54_code, exceptionTable := #[], attributes := #[] }
def k7m2 : Method := { name := "length", desc := "()I", sig := { parameters := [], returnType := some .int }, accessFlags := 1, code := some k7c2 }
def k7c3 : Code := { maxStack := 2, maxLocals := 2, code := jdk_42_method_56_code, exceptionTable := #[], attributes := #[] }
def k7m3 : Method := { name := "charAt", desc := "(I)C", sig := { parameters := [.int], returnType := some .char }, accessFlags := 1, code := some k7c3 }
def k7c4 : Code := { maxStack := 2, maxLocals := 3, code := jdk_42_method_66_code, exceptionTable := #[], attributes := #[] }
def k7m4 : Method := { name := "equals", desc := "(Ljava/lang/Object;)Z", sig := { parameters := [(.object "java/lang/Object")], returnType := some .boolean }, accessFlags := 1, code := some k7c4 }
def k7c5 : Code := { maxStack := 4, maxLocals := 6, code := jdk_42_method_149_code, exceptionTable := #[], attributes := #[] }
def k7m5 : Method := { name := "<init>", desc := "([CIILjava/lang/Void;)V", sig := { parameters := [(.array .char), .int, .int, (.object "java/lang/Void")], returnType := none }, accessFlags := 2, code := some k7c5 }
def k7c6 : Code := { maxStack := 1, maxLocals := 1, code := jdk_42_method_152_code, exceptionTable := #[], attributes := #[] }
def k7m6 : Method := { name := "coder", desc := "()B", sig := { parameters := [], returnType := some .byte }, accessFlags := 0, code := some k7c6 }
def k7c7 : Code := { maxStack := 1, maxLocals := 1, code := jdk_42_method_154_code, exceptionTable := #[], attributes := #[] }
def k7m7 : Method := { name := "isLatin1", desc := "()Z", sig := { parameters := [], returnType := some .boolean }, accessFlags := 0, code := some k7c7 }
def k7c8 : Code := { maxStack := 3, maxLocals := 2, code := jdk_42_method_155_code, exceptionTable := #[], attributes := #[] }
def k7m8 : Method := { name := "checkIndex", desc := "(II)V", sig := { parameters := [.int, .int], returnType := none }, accessFlags := 8, code := some k7c8 }
/-- java/lang/String -/
def k7 : Class := { plain "java/lang/String" (some 0) with
  accessFlags := 49
  interfaces := #[2, 3, 4, 5, 6]
  cf := some (fileOf pool7 10 #[.nestMembers #[1103]] #[{ accessFlags := 1, nameIndex := 5, descriptorIndex := 6, attributes := #[] }, { accessFlags := 1, nameIndex := 5, descriptorIndex := 1010, attributes := #[] }, { accessFlags := 1, nameIndex := 507, descriptorIndex := 334, attributes := #[] }, { accessFlags := 1, nameIndex := 497, descriptorIndex := 427, attributes := #[] }, { accessFlags := 1, nameIndex := 543, descriptorIndex := 573, attributes := #[] }, { accessFlags := 2, nameIndex := 5, descriptorIndex := 29, attributes := #[] }, { accessFlags := 0, nameIndex := 17, descriptorIndex := 337, attributes := #[] }, { accessFlags := 0, nameIndex := 494, descriptorIndex := 142, attributes := #[] }, { accessFlags := 8, nameIndex := 501, descriptorIndex := 391, attributes := #[] }] 49 2 #[1106, 1108, 575, 1110, 1112] #[{ accessFlags := 18, nameIndex := 13, descriptorIndex := 14, attributes := #[] }, { accessFlags := 18, nameIndex := 17, descriptorIndex := 18, attributes := #[] }, { accessFlags := 2, nameIndex := 21, descriptorIndex := 22, attributes := #[] }, { accessFlags := 2, nameIndex := 25, descriptorIndex := 26, attributes := #[] }, { accessFlags := 26, nameIndex := 1116, descriptorIndex := 1117, attributes := #[] }, { accessFlags := 24, nameIndex := 40, descriptorIndex := 26, attributes := #[] }, { accessFlags := 26, nameIndex := 1101, descriptorIndex := 1102, attributes := #[] }, { accessFlags := 26, nameIndex := 1121, descriptorIndex := 1122, attributes := #[] }, { accessFlags := 25, nameIndex := 599, descriptorIndex := 600, attributes := #[] }, { accessFlags := 24, nameIndex := 1125, descriptorIndex := 18, attributes := #[] }, { accessFlags := 24, nameIndex := 1127, descriptorIndex := 18, attributes := #[] }])
  fields := #[{ name := "value", type := (.array .byte), accessFlags := 18, slot := 0, constantValue := 0 }, { name := "coder", type := .byte, accessFlags := 18, slot := 1, constantValue := 0 }, { name := "hash", type := .int, accessFlags := 2, slot := 2, constantValue := 0 }, { name := "hashIsZero", type := .boolean, accessFlags := 2, slot := 3, constantValue := 0 }, { name := "serialVersionUID", type := .long, accessFlags := 26, slot := 0, constantValue := 0 }, { name := "COMPACT_STRINGS", type := .boolean, accessFlags := 24, slot := 1, constantValue := 0 }, { name := "serialPersistentFields", type := (.array (.object "java/io/ObjectStreamField")), accessFlags := 26, slot := 2, constantValue := 0 }, { name := "REPL", type := .char, accessFlags := 26, slot := 3, constantValue := 0 }, { name := "CASE_INSENSITIVE_ORDER", type := (.object "java/util/Comparator"), accessFlags := 25, slot := 4, constantValue := 0 }, { name := "LATIN1", type := .byte, accessFlags := 24, slot := 5, constantValue := 0 }, { name := "UTF16", type := .byte, accessFlags := 24, slot := 6, constantValue := 0 }]
  methods := #[k7m0, k7m1, k7m2, k7m3, k7m4, k7m5, k7m6, k7m7, k7m8]
  instanceTypes := #[(.array .byte), .byte, .int, .boolean]
  staticTypes := #[.long, .boolean, (.array (.object "java/io/ObjectStreamField")), .char, (.object "java/util/Comparator"), .byte, .byte]
  resolved := Array.replicate 1451 none
  statics := some 0 }

def pool8 : Array CpInfo := pool [(2, .class_ 4), (1, u "java/lang/Enum"), (0, u "name"), (0, u "Ljava/lang/String;"), (2, u "ordinal"), (0, u "I"), (1, .class_ 14), (1, u "java/lang/Object"), (4, u "hash"), (86, .class_ 108), (1, u "java/lang/Enum$EnumDesc"), (2, .class_ 112), (0, u "java/lang/constant/Constable"), (0, .class_ 114), (0, u "java/lang/Comparable"), (0, .class_ 116), (0, u "java/io/Serializable")] 87

/-- java/lang/Enum -/
def k8 : Class := { plain "java/lang/Enum" (some 0) with
  accessFlags := 1057
  interfaces := #[5, 3, 2]
  cf := some (fileOf pool8 2 #[.nestMembers #[106]] #[] 1057 12 #[111, 113, 115] #[{ accessFlags := 18, nameIndex := 5, descriptorIndex := 6, attributes := #[] }, { accessFlags := 18, nameIndex := 9, descriptorIndex := 10, attributes := #[] }, { accessFlags := 2, nameIndex := 19, descriptorIndex := 10, attributes := #[] }])
  fields := #[{ name := "name", type := (.object "java/lang/String"), accessFlags := 18, slot := 0, constantValue := 0 }, { name := "ordinal", type := .int, accessFlags := 18, slot := 1, constantValue := 0 }, { name := "hash", type := .int, accessFlags := 2, slot := 2, constantValue := 0 }]
  methods := #[]
  instanceTypes := #[(.object "java/lang/String"), .int, .int]
  staticTypes := #[]
  resolved := Array.replicate 204 none
  statics := none }

def pool9 : Array CpInfo := pool [(1, .class_ 2), (0, u "com/example/samfed/samfed/config/Profile"), (2, u "SPID"), (0, u "Lcom/example/samfed/samfed/config/Profile;"), (2, u "SAML2"), (0, .fieldref 1 11), (0, .nameAndType 12 13), (0, u "$VALUES"), (0, u "[Lcom/example/samfed/samfed/config/Profile;"), (0, .methodref 15 16), (0, .class_ 13), (0, .nameAndType 17 18), (0, u "clone"), (0, u "()Ljava/lang/Object;"), (1, .class_ 22), (1, u "java/lang/Enum"), (6, .fieldref 1 30), (0, .nameAndType 31 32), (0, u "configName"), (0, u "Ljava/lang/String;"), (0, .methodref 1 34), (0, .nameAndType 35 36), (0, u "values"), (0, u "()[Lcom/example/samfed/samfed/config/Profile;"), (0, .methodref 38 39), (0, .class_ 40), (0, .nameAndType 41 42), (0, u "java/lang/String"), (0, u "equals"), (0, u "(Ljava/lang/Object;)Z"), (0, .methodref 44 45), (0, .class_ 46), (0, .nameAndType 47 48), (0, u "java/util/Optional"), (0, u "of"), (0, u "(Ljava/lang/Object;)Ljava/util/Optional;"), (0, .methodref 44 50), (0, .nameAndType 51 52), (0, u "empty"), (0, u "()Ljava/util/Optional;"), (19, u "fromConfigName"), (0, u "(Ljava/lang/String;)Ljava/util/Optional;")] 7

def k9c0 : Code := { maxStack := 1, maxLocals := 0, code := prog_7_method_1_code, exceptionTable := #[], attributes := #[] }
def k9m0 : Method := { name := "values", desc := "()[Lcom/example/samfed/samfed/config/Profile;", sig := { parameters := [], returnType := some (.array (.object "com/example/samfed/samfed/config/Profile")) }, accessFlags := 9, code := some k9c0 }
def k9c1 : Code := { maxStack := 2, maxLocals := 5, code := prog_7_method_5_code, exceptionTable := #[], attributes := #[] }
def k9m1 : Method := { name := "fromConfigName", desc := "(Ljava/lang/String;)Ljava/util/Optional;", sig := { parameters := [(.object "java/lang/String")], returnType := some (.object "java/util/Optional") }, accessFlags := 9, code := some k9c1 }
/-- com/example/samfed/samfed/config/Profile -/
def k9 : Class := { plain "com/example/samfed/samfed/config/Profile" (some 8) with
  accessFlags := 16433
  interfaces := #[]
  cf := some (fileOf pool9 1 #[] #[{ accessFlags := 9, nameIndex := 35, descriptorIndex := 36, attributes := #[] }, { accessFlags := 9, nameIndex := 72, descriptorIndex := 73, attributes := #[] }] 16433 20 #[] #[{ accessFlags := 16409, nameIndex := 5, descriptorIndex := 6, attributes := #[] }, { accessFlags := 16409, nameIndex := 9, descriptorIndex := 6, attributes := #[] }, { accessFlags := 18, nameIndex := 31, descriptorIndex := 32, attributes := #[] }, { accessFlags := 4122, nameIndex := 12, descriptorIndex := 13, attributes := #[] }])
  fields := #[{ name := "SPID", type := (.object "com/example/samfed/samfed/config/Profile"), accessFlags := 16409, slot := 0, constantValue := 0 }, { name := "SAML2", type := (.object "com/example/samfed/samfed/config/Profile"), accessFlags := 16409, slot := 1, constantValue := 0 }, { name := "configName", type := (.object "java/lang/String"), accessFlags := 18, slot := 3, constantValue := 0 }, { name := "$VALUES", type := (.array (.object "com/example/samfed/samfed/config/Profile")), accessFlags := 4122, slot := 2, constantValue := 0 }]
  methods := #[k9m0, k9m1]
  instanceTypes := #[(.object "java/lang/String"), .int, .int, (.object "java/lang/String")]
  staticTypes := #[(.object "com/example/samfed/samfed/config/Profile"), (.object "com/example/samfed/samfed/config/Profile"), (.array (.object "com/example/samfed/samfed/config/Profile"))]
  resolved := Array.replicate 81 none
  statics := some 1 }

def pool10 : Array CpInfo := pool [(1, .class_ 2), (0, u "java/lang/Cloneable"), (0, .class_ 4), (0, u "java/lang/Object")] 2

/-- java/lang/Cloneable -/
def k10 : Class := { plain "java/lang/Cloneable" (some 0) with
  accessFlags := 1537
  interfaces := #[]
  cf := some (fileOf pool10 1 #[] #[] 1537 3 #[] #[])
  fields := #[]
  methods := #[]
  instanceTypes := #[]
  staticTypes := #[]
  resolved := Array.replicate 7 none
  statics := none }

def pool11 : Array CpInfo := pool [(1, .class_ 2), (0, u "java/lang/String"), (1, .class_ 6), (1, u "java/lang/Object"), (0, u "<init>"), (0, u "()V"), (0, .methodref 1 10), (0, .nameAndType 11 12), (0, u "checkIndex"), (0, u "(II)V"), (1, .class_ 16), (1, u "java/lang/StringLatin1"), (36, u "([BI)C"), (67, u "$assertionsDisabled"), (0, u "Z"), (98, .class_ 223), (1, u "java/lang/StringLatin1$LinesSpliterator"), (28, u "charAt"), (28, u "equals"), (0, u "([B[B)Z"), (107, .class_ 391), (0, u "java/lang/StringLatin1$CharsSpliterator")] 3

def k11m0 : Method := { name := "<init>", desc := "()V", sig := { parameters := [], returnType := none }, accessFlags := 0, code := none }
def k11c1 : Code := { maxStack := 2, maxLocals := 2, code := jdk_43_method_2_code, exceptionTable := #[], attributes := #[] }
def k11m1 : Method := { name := "charAt", desc := "([BI)C", sig := { parameters := [(.array .byte), .int], returnType := some .char }, accessFlags := 9, code := some k11c1 }
def k11c2 : Code := { maxStack := 3, maxLocals := 3, code := jdk_43_method_13_code, exceptionTable := #[], attributes := #[] }
def k11m2 : Method := { name := "equals", desc := "([B[B)Z", sig := { parameters := [(.array .byte), (.array .byte)], returnType := some .boolean }, accessFlags := 9, code := some k11c2 }
/-- java/lang/StringLatin1 -/
def k11 : Class := { plain "java/lang/StringLatin1" (some 0) with
  accessFlags := 48
  interfaces := #[]
  cf := some (fileOf pool11 14 #[.nestMembers #[390, 221]] #[{ accessFlags := 0, nameIndex := 7, descriptorIndex := 8, attributes := #[] }, { accessFlags := 9, nameIndex := 252, descriptorIndex := 53, attributes := #[] }, { accessFlags := 9, nameIndex := 281, descriptorIndex := 282, attributes := #[] }] 48 4 #[] #[{ accessFlags := 4120, nameIndex := 121, descriptorIndex := 122, attributes := #[] }])
  fields := #[{ name := "$assertionsDisabled", type := .boolean, accessFlags := 4120, slot := 0, constantValue := 0 }]
  methods := #[k11m0, k11m1, k11m2]
  instanceTypes := #[]
  staticTypes := #[.boolean]
  resolved := Array.replicate 395 none
  statics := none }

def pool12 : Array CpInfo := pool [(1, .fieldref 2 3), (0, .class_ 4), (0, .nameAndType 5 6), (0, u "java/util/Optional"), (0, u "EMPTY"), (0, u "Ljava/util/Optional;"), (0, .methodref 8 9), (0, .class_ 10), (0, .nameAndType 11 12), (0, u "java/lang/Object"), (0, u "<init>"), (0, u "()V"), (0, .fieldref 2 14), (0, .nameAndType 15 16), (0, u "value"), (0, u "Ljava/lang/Object;"), (0, .methodref 18 19), (0, .class_ 20), (0, .nameAndType 21 22), (0, u "java/util/Objects"), (0, u "requireNonNull"), (0, u "(Ljava/lang/Object;)Ljava/lang/Object;"), (0, .methodref 2 24), (0, .nameAndType 11 25), (0, u "(Ljava/lang/Object;)V"), (29, u "empty"), (0, u "()Ljava/util/Optional;"), (8, u "(Ljava/lang/Object;)Ljava/util/Optional;"), (16, u "of"), (82, u "orElse")] 21

def k12c0 : Code := { maxStack := 1, maxLocals := 1, code := jdk_32_method_1_code, exceptionTable := #[], attributes := #[] }
def k12m0 : Method := { name := "empty", desc := "()Ljava/util/Optional;", sig := { parameters := [], returnType := some (.object "java/util/Optional") }, accessFlags := 9, code := some k12c0 }
def k12c1 : Code := { maxStack := 2, maxLocals := 2, code := jdk_32_method_2_code, exceptionTable := #[], attributes := #[] }
def k12m1 : Method := { name := "<init>", desc := "(Ljava/lang/Object;)V", sig := { parameters := [(.object "java/lang/Object")], returnType := none }, accessFlags := 2, code := some k12c1 }
def k12c2 : Code := { maxStack := 3, maxLocals := 1, code := jdk_32_method_3_code, exceptionTable := #[], attributes := #[] }
def k12m2 : Method := { name := "of", desc := "(Ljava/lang/Object;)Ljava/util/Optional;", sig := { parameters := [(.object "java/lang/Object")], returnType := some (.object "java/util/Optional") }, accessFlags := 9, code := some k12c2 }
def k12c3 : Code := { maxStack := 1, maxLocals := 2, code := jdk_32_method_15_code, exceptionTable := #[], attributes := #[] }
def k12m3 : Method := { name := "orElse", desc := "(Ljava/lang/Object;)Ljava/lang/Object;", sig := { parameters := [(.object "java/lang/Object")], returnType := some (.object "java/lang/Object") }, accessFlags := 1, code := some k12c3 }
/-- java/util/Optional -/
def k12 : Class := { plain "java/util/Optional" (some 0) with
  accessFlags := 49
  interfaces := #[]
  cf := some (fileOf pool12 2 #[] #[{ accessFlags := 9, nameIndex := 55, descriptorIndex := 56, attributes := #[] }, { accessFlags := 2, nameIndex := 11, descriptorIndex := 25, attributes := #[] }, { accessFlags := 9, nameIndex := 82, descriptorIndex := 65, attributes := #[] }, { accessFlags := 1, nameIndex := 165, descriptorIndex := 22, attributes := #[] }] 49 8 #[] #[{ accessFlags := 26, nameIndex := 5, descriptorIndex := 6, attributes := #[] }, { accessFlags := 18, nameIndex := 15, descriptorIndex := 16, attributes := #[] }])
  fields := #[{ name := "EMPTY", type := (.object "java/util/Optional"), accessFlags := 26, slot := 0, constantValue := 0 }, { name := "value", type := (.object "java/lang/Object"), accessFlags := 18, slot := 0, constantValue := 0 }]
  methods := #[k12m0, k12m1, k12m2, k12m3]
  instanceTypes := #[(.object "java/lang/Object")]
  staticTypes := #[(.object "java/util/Optional")]
  resolved := Array.replicate 187 none
  statics := some 2 }

def pool13 : Array CpInfo := pool [(6, .class_ 8), (1, u "java/lang/Object"), (0, u "<init>"), (0, u "()V"), (1, .class_ 14), (1, u "java/lang/StringUTF16"), (31, u "$assertionsDisabled"), (0, u "Z"), (13, u "HI_BYTE_SHIFT"), (0, u "I"), (2, u "LO_BYTE_SHIFT"), (49, .methodref 12 116), (0, .nameAndType 117 118), (0, u "compress"), (0, u "([CI[BII)I"), (3, u "([CII)[B"), (138, u "coderFromArrayLen"), (0, u "([BI)B"), (106, .class_ 371), (1, u "java/lang/StringUTF16$LinesSpliterator"), (58, u "MAX_LENGTH"), (196, .class_ 628), (0, u "java/lang/StringUTF16$CodePointsSpliterator"), (0, .class_ 630), (0, u "java/lang/StringUTF16$CharsSpliterator")] 4

def k13m0 : Method := { name := "<init>", desc := "()V", sig := { parameters := [], returnType := none }, accessFlags := 0, code := none }
def k13c1 : Code := { maxStack := 2, maxLocals := 2, code := jdk_52_method_15_code, exceptionTable := #[], attributes := #[] }
def k13m1 : Method := { name := "coderFromArrayLen", desc := "([BI)B", sig := { parameters := [(.array .byte), .int], returnType := some .byte }, accessFlags := 8, code := some k13c1 }
def k13c2 : Code := { maxStack := 5, maxLocals := 6, code := jdk_52_method_16_code, exceptionTable := #[], attributes := #[] }
def k13m2 : Method := { name := "compress", desc := "([CII)[B", sig := { parameters := [(.array .char), .int, .int], returnType := some (.array .byte) }, accessFlags := 9, code := some k13c2 }
def k13c3 : Code := { maxStack := 3, maxLocals := 7, code := jdk_52_method_21_code, exceptionTable := #[], attributes := #[] }
def k13m3 : Method := { name := "compress", desc := "([CI[BII)I", sig := { parameters := [(.array .char), .int, (.array .byte), .int, .int], returnType := some .int }, accessFlags := 9, code := some k13c3 }
/-- java/lang/StringUTF16 -/
def k13 : Class := { plain "java/lang/StringUTF16" (some 0) with
  accessFlags := 48
  interfaces := #[]
  cf := some (fileOf pool13 12 #[.nestMembers #[627, 629, 369]] #[{ accessFlags := 0, nameIndex := 9, descriptorIndex := 10, attributes := #[] }, { accessFlags := 8, nameIndex := 261, descriptorIndex := 262, attributes := #[] }, { accessFlags := 9, nameIndex := 117, descriptorIndex := 122, attributes := #[] }, { accessFlags := 9, nameIndex := 117, descriptorIndex := 118, attributes := #[] }] 48 6 #[] #[{ accessFlags := 26, nameIndex := 61, descriptorIndex := 62, attributes := #[] }, { accessFlags := 26, nameIndex := 65, descriptorIndex := 62, attributes := #[] }, { accessFlags := 24, nameIndex := 430, descriptorIndex := 62, attributes := #[] }, { accessFlags := 4120, nameIndex := 46, descriptorIndex := 47, attributes := #[] }])
  fields := #[{ name := "HI_BYTE_SHIFT", type := .int, accessFlags := 26, slot := 0, constantValue := 0 }, { name := "LO_BYTE_SHIFT", type := .int, accessFlags := 26, slot := 1, constantValue := 0 }, { name := "MAX_LENGTH", type := .int, accessFlags := 24, slot := 2, constantValue := 0 }, { name := "$assertionsDisabled", type := .boolean, accessFlags := 4120, slot := 3, constantValue := 0 }]
  methods := #[k13m0, k13m1, k13m2, k13m3]
  instanceTypes := #[]
  staticTypes := #[.int, .int, .int, .boolean]
  resolved := Array.replicate 635 none
  statics := none }

def pool14 : Array CpInfo := pool [(2, .class_ 4), (1, u "java/lang/Object"), (0, u "<init>"), (0, u "()V"), (17, .class_ 26), (1, u "jdk/internal/util/Preconditions"), (6, u "checkIndex"), (21, .class_ 56), (0, u "jdk/internal/util/Preconditions$4"), (57, .class_ 115), (0, u "jdk/internal/util/Preconditions$1"), (7, u "SIOOBE_FORMATTER"), (0, u "Ljava/util/function/BiFunction;"), (0, .class_ 126), (0, u "jdk/internal/util/Preconditions$2"), (3, u "AIOOBE_FORMATTER"), (0, .class_ 132), (0, u "jdk/internal/util/Preconditions$3"), (3, u "IOOBE_FORMATTER"), (41, u "(IILjava/util/function/BiFunction;)I")] 15

def k14m0 : Method := { name := "<init>", desc := "()V", sig := { parameters := [], returnType := none }, accessFlags := 1, code := none }
def k14c1 : Code := { maxStack := 3, maxLocals := 3, code := jdk_41_method_11_code, exceptionTable := #[], attributes := #[] }
def k14m1 : Method := { name := "checkIndex", desc := "(IILjava/util/function/BiFunction;)I", sig := { parameters := [.int, .int, (.object "java/util/function/BiFunction")], returnType := some .int }, accessFlags := 9, code := some k14c1 }
/-- jdk/internal/util/Preconditions -/
def k14 : Class := { plain "jdk/internal/util/Preconditions" (some 0) with
  accessFlags := 33
  interfaces := #[]
  cf := some (fileOf pool14 24 #[.nestMembers #[55, 131, 125, 114]] #[{ accessFlags := 1, nameIndex := 5, descriptorIndex := 6, attributes := #[] }, { accessFlags := 9, nameIndex := 33, descriptorIndex := 178, attributes := #[] }] 33 2 #[] #[{ accessFlags := 25, nameIndex := 123, descriptorIndex := 124, attributes := #[] }, { accessFlags := 25, nameIndex := 130, descriptorIndex := 124, attributes := #[] }, { accessFlags := 25, nameIndex := 136, descriptorIndex := 124, attributes := #[] }])
  fields := #[{ name := "SIOOBE_FORMATTER", type := (.object "java/util/function/BiFunction"), accessFlags := 25, slot := 0, constantValue := 0 }, { name := "AIOOBE_FORMATTER", type := (.object "java/util/function/BiFunction"), accessFlags := 25, slot := 1, constantValue := 0 }, { name := "IOOBE_FORMATTER", type := (.object "java/util/function/BiFunction"), accessFlags := 25, slot := 2, constantValue := 0 }]
  methods := #[k14m0, k14m1]
  instanceTypes := #[]
  staticTypes := #[(.object "java/util/function/BiFunction"), (.object "java/util/function/BiFunction"), (.object "java/util/function/BiFunction")]
  resolved := Array.replicate 194 none
  statics := some 3 }

def pool15 : Array CpInfo := pool [(2, .class_ 4), (1, u "java/lang/Object"), (0, u "<init>"), (0, u "()V"), (35, .class_ 44), (1, u "java/util/Objects"), (0, u "requireNonNull"), (0, u "(Ljava/lang/Object;)Ljava/lang/Object;")] 137

def k15m0 : Method := { name := "<init>", desc := "()V", sig := { parameters := [], returnType := none }, accessFlags := 2, code := none }
def k15c1 : Code := { maxStack := 2, maxLocals := 1, code := jdk_31_method_10_code, exceptionTable := #[], attributes := #[] }
def k15m1 : Method := { name := "requireNonNull", desc := "(Ljava/lang/Object;)Ljava/lang/Object;", sig := { parameters := [(.object "java/lang/Object")], returnType := some (.object "java/lang/Object") }, accessFlags := 9, code := some k15c1 }
/-- java/util/Objects -/
def k15 : Class := { plain "java/util/Objects" (some 0) with
  accessFlags := 49
  interfaces := #[]
  cf := some (fileOf pool15 42 #[] #[{ accessFlags := 2, nameIndex := 5, descriptorIndex := 6, attributes := #[] }, { accessFlags := 9, nameIndex := 45, descriptorIndex := 46, attributes := #[] }] 49 2 #[] #[])
  fields := #[]
  methods := #[k15m0, k15m1]
  instanceTypes := #[]
  staticTypes := #[]
  resolved := Array.replicate 184 none
  statics := none }

def pool16 : Array CpInfo := pool [(9, u "<init>"), (6, .class_ 18), (1, u "java/lang/Object"), (0, u "()V"), (1, .class_ 23), (1, u "jdk/internal/util/ArraysSupport"), (0, u "LOG2_ARRAY_LONG_INDEX_SCALE"), (0, u "I"), (2, u "U"), (0, u "Ljdk/internal/misc/Unsafe;"), (8, u "BIG_ENDIAN"), (0, u "Z"), (8, u "LOG2_BYTE_BIT_SIZE"), (4, u "LOG2_ARRAY_INT_INDEX_SCALE"), (54, u "JLA"), (0, u "Ljdk/internal/access/JavaLangAccess;"), (11, u "LOG2_ARRAY_BOOLEAN_INDEX_SCALE"), (9, u "LOG2_ARRAY_BYTE_INDEX_SCALE"), (5, u "LOG2_ARRAY_CHAR_INDEX_SCALE"), (5, u "LOG2_ARRAY_SHORT_INDEX_SCALE"), (18, u "LOG2_ARRAY_FLOAT_INDEX_SCALE"), (24, u "LOG2_ARRAY_DOUBLE_INDEX_SCALE"), (89, u "T_BOOLEAN"), (2, u "T_CHAR"), (1, u "T_FLOAT"), (1, u "T_DOUBLE"), (1, u "T_BYTE"), (1, u "T_SHORT"), (1, u "T_INT"), (1, u "T_LONG"), (1, u "SOFT_MAX_ARRAY_LENGTH")] 83

def k16m0 : Method := { name := "<init>", desc := "()V", sig := { parameters := [], returnType := none }, accessFlags := 2, code := none }
/-- jdk/internal/util/ArraysSupport -/
def k16 : Class := { plain "jdk/internal/util/ArraysSupport" (some 0) with
  accessFlags := 33
  interfaces := #[]
  cf := some (fileOf pool16 21 #[] #[{ accessFlags := 2, nameIndex := 9, descriptorIndex := 19, attributes := #[] }] 33 16 #[] #[{ accessFlags := 24, nameIndex := 28, descriptorIndex := 29, attributes := #[] }, { accessFlags := 26, nameIndex := 38, descriptorIndex := 39, attributes := #[] }, { accessFlags := 25, nameIndex := 121, descriptorIndex := 25, attributes := #[] }, { accessFlags := 25, nameIndex := 131, descriptorIndex := 25, attributes := #[] }, { accessFlags := 25, nameIndex := 137, descriptorIndex := 25, attributes := #[] }, { accessFlags := 25, nameIndex := 143, descriptorIndex := 25, attributes := #[] }, { accessFlags := 25, nameIndex := 53, descriptorIndex := 25, attributes := #[] }, { accessFlags := 25, nameIndex := 24, descriptorIndex := 25, attributes := #[] }, { accessFlags := 25, nameIndex := 162, descriptorIndex := 25, attributes := #[] }, { accessFlags := 25, nameIndex := 187, descriptorIndex := 25, attributes := #[] }, { accessFlags := 26, nameIndex := 48, descriptorIndex := 25, attributes := #[] }, { accessFlags := 25, nameIndex := 277, descriptorIndex := 25, attributes := #[] }, { accessFlags := 25, nameIndex := 280, descriptorIndex := 25, attributes := #[] }, { accessFlags := 25, nameIndex := 282, descriptorIndex := 25, attributes := #[] }, { accessFlags := 25, nameIndex := 284, descriptorIndex := 25, attributes := #[] }, { accessFlags := 25, nameIndex := 286, descriptorIndex := 25, attributes := #[] }, { accessFlags := 25, nameIndex := 288, descriptorIndex := 25, attributes := #[] }, { accessFlags := 25, nameIndex := 290, descriptorIndex := 25, attributes := #[] }, { accessFlags := 25, nameIndex := 292, descriptorIndex := 25, attributes := #[] }, { accessFlags := 26, nameIndex := 108, descriptorIndex := 109, attributes := #[] }, { accessFlags := 25, nameIndex := 294, descriptorIndex := 25, attributes := #[] }])
  fields := #[{ name := "U", type := (.object "jdk/internal/misc/Unsafe"), accessFlags := 24, slot := 0, constantValue := 0 }, { name := "BIG_ENDIAN", type := .boolean, accessFlags := 26, slot := 1, constantValue := 0 }, { name := "LOG2_ARRAY_BOOLEAN_INDEX_SCALE", type := .int, accessFlags := 25, slot := 2, constantValue := 0 }, { name := "LOG2_ARRAY_BYTE_INDEX_SCALE", type := .int, accessFlags := 25, slot := 3, constantValue := 0 }, { name := "LOG2_ARRAY_CHAR_INDEX_SCALE", type := .int, accessFlags := 25, slot := 4, constantValue := 0 }, { name := "LOG2_ARRAY_SHORT_INDEX_SCALE", type := .int, accessFlags := 25, slot := 5, constantValue := 0 }, { name := "LOG2_ARRAY_INT_INDEX_SCALE", type := .int, accessFlags := 25, slot := 6, constantValue := 0 }, { name := "LOG2_ARRAY_LONG_INDEX_SCALE", type := .int, accessFlags := 25, slot := 7, constantValue := 0 }, { name := "LOG2_ARRAY_FLOAT_INDEX_SCALE", type := .int, accessFlags := 25, slot := 8, constantValue := 0 }, { name := "LOG2_ARRAY_DOUBLE_INDEX_SCALE", type := .int, accessFlags := 25, slot := 9, constantValue := 0 }, { name := "LOG2_BYTE_BIT_SIZE", type := .int, accessFlags := 26, slot := 10, constantValue := 0 }, { name := "T_BOOLEAN", type := .int, accessFlags := 25, slot := 11, constantValue := 0 }, { name := "T_CHAR", type := .int, accessFlags := 25, slot := 12, constantValue := 0 }, { name := "T_FLOAT", type := .int, accessFlags := 25, slot := 13, constantValue := 0 }, { name := "T_DOUBLE", type := .int, accessFlags := 25, slot := 14, constantValue := 0 }, { name := "T_BYTE", type := .int, accessFlags := 25, slot := 15, constantValue := 0 }, { name := "T_SHORT", type := .int, accessFlags := 25, slot := 16, constantValue := 0 }, { name := "T_INT", type := .int, accessFlags := 25, slot := 17, constantValue := 0 }, { name := "T_LONG", type := .int, accessFlags := 25, slot := 18, constantValue := 0 }, { name := "JLA", type := (.object "jdk/internal/access/JavaLangAccess"), accessFlags := 26, slot := 19, constantValue := 0 }, { name := "SOFT_MAX_ARRAY_LENGTH", type := .int, accessFlags := 25, slot := 20, constantValue := 0 }]
  methods := #[k16m0]
  instanceTypes := #[]
  staticTypes := #[(.object "jdk/internal/misc/Unsafe"), .boolean, .int, .int, .int, .int, .int, .int, .int, .int, .int, .int, .int, .int, .int, .int, .int, .int, .int, (.object "jdk/internal/access/JavaLangAccess"), .int]
  resolved := Array.replicate 378 none
  statics := none }

/-- the primitive byte -/
def k17 : Class := { plain "byte" none with kind := .primitive 'B', accessFlags := 0x411 }
/-- [B -/
def k18 : Class := { plain "[B" (some 0) with kind := .array 17 .byte, interfaces := #[10, 2], accessFlags := 1041 }

/-- the primitive char -/
def k19 : Class := { plain "char" none with kind := .primitive 'C', accessFlags := 0x411 }
/-- [C -/
def k20 : Class := { plain "[C" (some 0) with kind := .array 19 .char, interfaces := #[10, 2], accessFlags := 1041 }

/-- the primitive int -/
def k21 : Class := { plain "int" none with kind := .primitive 'I', accessFlags := 0x411 }
/-- [I -/
def k22 : Class := { plain "[I" (some 0) with kind := .array 21 .int, interfaces := #[10, 2], accessFlags := 1041 }

/-- [Lcom/example/samfed/samfed/config/Profile; -/
def k23 : Class := { plain "[Lcom/example/samfed/samfed/config/Profile;" (some 0) with kind := .array 9 (.object "com/example/samfed/samfed/config/Profile"), interfaces := #[10, 2], accessFlags := 1041 }

def heap : Heap := #[{ cls := 7, slots := #[.long 0, .int 1, .null, .int 0, .null, .int 0, .int 0], vm := .statics 7 },
  { cls := 9, slots := #[.ref 5, .ref 6, .ref 4], vm := .statics 9 },
  { cls := 12, slots := #[.ref 11], vm := .statics 12 },
  { cls := 14, slots := #[.null, .null, .null], vm := .statics 14 },
  { cls := 23, slots := #[.ref 5, .ref 6], vm := .none },
  { cls := 9, slots := #[.null, .int 0, .int 0, .ref 7], vm := .none },
  { cls := 9, slots := #[.null, .int 1, .int 0, .ref 8], vm := .none },
  { cls := 7, slots := #[.ref 9, .int 0, .int 0, .int 0], vm := .none },
  { cls := 7, slots := #[.ref 10, .int 0, .int 0, .int 0], vm := .none },
  { cls := 18, slots := #[.int 115, .int 112, .int 105, .int 100], vm := .none },
  { cls := 18, slots := #[.int 115, .int 97, .int 109, .int 108, .int 50], vm := .none },
  { cls := 12, slots := #[.null], vm := .none }]
def classes : Array Class := #[k0, k1, k2, k3, k4, k5, k6, k7, k8, k9, k10, k11, k12, k13, k14, k15, k16, k17, k18, k19, k20, k21, k22, k23]
def interned : List (Array UInt16 × Addr) := []
def slotsUsed : Nat := 42
def theMethod : MethodId := ⟨1, 1⟩
def args0 : Array Value := #[.int 5, .int 6, .int 7, .int 9]
def aboutOver (below : List Frame) : State where
  vm := { classes := classes, interned := interned.toArray }
  heap := heap
  slotsUsed := slotsUsed
  threads := #[{ frames := .invoking theMethod args0 :: below }]
def below0 : List Frame := [.native { method := ⟨0, 0⟩, args := #[] }]
def about1 : State := aboutOver below0
def p0 : Program := .bare "" "" ""
def e0 : Env := launch0.env 0 0 0
theorem w_frames : about1.frames = Frame.invoking theMethod args0 :: below0 := rfl
set_option maxRecDepth 65536 in
theorem w_args : argsFit about1.vm theMethod args0 = true := by decide +kernel
set_option maxRecDepth 65536 in
theorem w_heap : heapFits about1 = true := by decide +kernel
set_option maxRecDepth 65536 in
theorem w_runnable : about1.curStatus? = some .runnable := by decide +kernel
set_option maxRecDepth 65536 in
theorem w_alone : about1.alone = true := by decide +kernel
set_option maxRecDepth 65536 in
theorem w_named : about1.methodNamed? x = some theMethod := by decide +kernel
set_option maxRecDepth 65536 in
theorem w_hears : about1.hears theMethod below0 = true := by decide +kernel
set_option maxRecDepth 65536 in
theorem w_ripe : about1.ripe theMethod args0 below0 = true := by decide +kernel
theorem w_running : about1.status = .running := rfl
set_option maxRecDepth 65536 in
theorem w_room : about1.hasRoom e0.platform room_1 = true :=
  launch0.hasRoom_least _ room_1 (by decide +kernel) (by decide +kernel) (by decide +kernel) (by decide +kernel) (by decide +kernel) (by decide +kernel)
theorem allAtoms_all (ts : List Jvm.Cond) (a : Array Jvm.Value) (st : Jvm.State) : (allAtoms ts).before a st = ts.all (fun c => c.before a st) := by
  induction ts with
  | nil => rfl
  | cons c t ih =>
    show (Jvm.Cond.and c (allAtoms t)).before a st = _
    rw [Jvm.Cond.before_and, ih, List.all_cons]
def words1 : List Jvm.Cond := Jvm.Cond.code x code maxLocals ret :: tables_1
/-- a 'code' word, met by the world's own term for the bytes: nothing is compared byte by byte -/
theorem code_word {y : MethodName} {bytes : ByteArray} {mx : Nat} {rt : Option FieldType} {a : Array Value} {s : State} {m : MethodId} {meth : Method} {c : Code} (h1 : s.methodNamed? y = some m) (h2 : s.vm.method? m = some meth) (h3 : meth.code = some c) (h4 : c.code = bytes)
    (h5 : (c.maxLocals == mx && c.exceptionTable.isEmpty && decide (c.maxStack ≤ mostOperands) && decide (meth.sig.returnType = rt) && !meth.locks && decide (parseMethodDescriptor y.desc = some meth.sig)) = true) : (Jvm.Cond.code y bytes mx rt).before a s = true := by
  simp only [Bool.and_eq_true, beq_iff_eq, Bool.not_eq_true', decide_eq_true_eq] at h5
  obtain ⟨⟨⟨⟨⟨g1, g2⟩, g3⟩, g4⟩, g5⟩, g6⟩ := h5
  simp [Cond.before, Cond.holds, Cond.value, h1, h2, h3, h4, g1, g2, g3, g4, g5, g6]
def isCode : Jvm.Cond → Bool
  | .code _ _ _ _ => true
  | _ => false
theorem all_split {L : List Jvm.Cond} {P : Jvm.Cond → Bool} (h1 : L.all (fun c => isCode c || P c) = true) (h2 : ∀ c ∈ L.filter isCode, P c = true) : L.all P = true := by
  refine List.all_eq_true.mpr fun c hc => ?_
  have h := List.all_eq_true.mp h1 c hc
  rcases Bool.eq_false_or_eq_true (isCode c) with hi | hi
  · exact h2 c (List.mem_filter.mpr ⟨hc, hi⟩)
  · simpa [hi] using h
set_option maxRecDepth 65536 in
theorem w_c0 : (Jvm.Cond.code x code maxLocals ret).before args0 about1 = true := code_word (m := ⟨1, 1⟩) (meth := k1m1) (c := k1c1) (by decide +kernel) rfl rfl rfl (by decide +kernel)
set_option maxRecDepth 65536 in
theorem w_c1 : (Jvm.Cond.code ({ cls := "com/example/samfed/samfed/config/ProfileFromConfigNamePinLaw", name := "make", desc := "([CI)Ljava/lang/String;" } : Jvm.MethodName) method_3_code (2 : Nat) (Option.some (Jvm.ClassFile.FieldType.object "java/lang/String"))).before args0 about1 = true := code_word (m := ⟨1, 2⟩) (meth := k1m2) (c := k1c2) (by decide +kernel) rfl rfl rfl (by decide +kernel)
set_option maxRecDepth 65536 in
theorem w_c2 : (Jvm.Cond.code ({ cls := "java/lang/String", name := "<init>", desc := "([C)V" } : Jvm.MethodName) jdk_42_method_3_code (2 : Nat) (Option.none : Option Jvm.ClassFile.FieldType)).before args0 about1 = true := code_word (m := ⟨7, 1⟩) (meth := k7m1) (c := k7c1) (by decide +kernel) rfl rfl rfl (by decide +kernel)
set_option maxRecDepth 65536 in
theorem w_c3 : (Jvm.Cond.code ({ cls := "java/lang/String", name := "<init>", desc := "([CIILjava/lang/Void;)V" } : Jvm.MethodName) jdk_42_method_149_code (6 : Nat) (Option.none : Option Jvm.ClassFile.FieldType)).before args0 about1 = true := code_word (m := ⟨7, 5⟩) (meth := k7m5) (c := k7c5) (by decide +kernel) rfl rfl rfl (by decide +kernel)
set_option maxRecDepth 65536 in
theorem w_c4 : (Jvm.Cond.code ({ cls := "java/lang/Object", name := "<init>", desc := "()V" } : Jvm.MethodName) object_method_1_code (1 : Nat) (Option.none : Option Jvm.ClassFile.FieldType)).before args0 about1 = true := code_word (m := ⟨0, 0⟩) (meth := k0m0) (c := k0c0) (by decide +kernel) rfl rfl rfl (by decide +kernel)
set_option maxRecDepth 65536 in
theorem w_c5 : (Jvm.Cond.code ({ cls := "com/example/samfed/samfed/config/ProfileFromConfigNamePinLaw", name := "isSpid", desc := "(Ljava/lang/String;)Z" } : Jvm.MethodName) method_4_code (1 : Nat) (Option.some Jvm.ClassFile.FieldType.boolean)).before args0 about1 = true := code_word (m := ⟨1, 3⟩) (meth := k1m3) (c := k1c3) (by decide +kernel) rfl rfl rfl (by decide +kernel)
set_option maxRecDepth 65536 in
theorem w_c6 : (Jvm.Cond.code ({ cls := "java/lang/String", name := "length", desc := "()I" } : Jvm.MethodName) jdk_42_method_54_code (1 : Nat) (Option.some Jvm.ClassFile.FieldType.int)).before args0 about1 = true := code_word (m := ⟨7, 2⟩) (meth := k7m2) (c := k7c2) (by decide +kernel) rfl rfl rfl (by decide +kernel)
set_option maxRecDepth 65536 in
theorem w_c7 : (Jvm.Cond.code ({ cls := "java/lang/String", name := "coder", desc := "()B" } : Jvm.MethodName) jdk_42_method_152_code (1 : Nat) (Option.some Jvm.ClassFile.FieldType.byte)).before args0 about1 = true := code_word (m := ⟨7, 6⟩) (meth := k7m6) (c := k7c6) (by decide +kernel) rfl rfl rfl (by decide +kernel)
set_option maxRecDepth 65536 in
theorem w_c8 : (Jvm.Cond.code ({ cls := "com/example/samfed/samfed/config/ProfileFromConfigNamePinLaw", name := "isSaml2", desc := "(Ljava/lang/String;)Z" } : Jvm.MethodName) method_5_code (1 : Nat) (Option.some Jvm.ClassFile.FieldType.boolean)).before args0 about1 = true := code_word (m := ⟨1, 4⟩) (meth := k1m4) (c := k1c4) (by decide +kernel) rfl rfl rfl (by decide +kernel)
set_option maxRecDepth 65536 in
theorem w_c9 : (Jvm.Cond.code ({ cls := "com/example/samfed/samfed/config/Profile", name := "fromConfigName", desc := "(Ljava/lang/String;)Ljava/util/Optional;" } : Jvm.MethodName) prog_7_method_5_code (5 : Nat) (Option.some (Jvm.ClassFile.FieldType.object "java/util/Optional"))).before args0 about1 = true := code_word (m := ⟨9, 1⟩) (meth := k9m1) (c := k9c1) (by decide +kernel) rfl rfl rfl (by decide +kernel)
set_option maxRecDepth 65536 in
theorem w_c10 : (Jvm.Cond.code ({ cls := "com/example/samfed/samfed/config/Profile", name := "values", desc := "()[Lcom/example/samfed/samfed/config/Profile;" } : Jvm.MethodName) prog_7_method_1_code (0 : Nat) (Option.some (Jvm.ClassFile.FieldType.array (Jvm.ClassFile.FieldType.object "com/example/samfed/samfed/config/Profile")))).before args0 about1 = true := code_word (m := ⟨9, 0⟩) (meth := k9m0) (c := k9c0) (by decide +kernel) rfl rfl rfl (by decide +kernel)
set_option maxRecDepth 65536 in
theorem w_c11 : (Jvm.Cond.code ({ cls := "java/lang/String", name := "equals", desc := "(Ljava/lang/Object;)Z" } : Jvm.MethodName) jdk_42_method_66_code (3 : Nat) (Option.some Jvm.ClassFile.FieldType.boolean)).before args0 about1 = true := code_word (m := ⟨7, 4⟩) (meth := k7m4) (c := k7c4) (by decide +kernel) rfl rfl rfl (by decide +kernel)
set_option maxRecDepth 65536 in
theorem w_c12 : (Jvm.Cond.code ({ cls := "java/lang/StringLatin1", name := "equals", desc := "([B[B)Z" } : Jvm.MethodName) jdk_43_method_13_code (3 : Nat) (Option.some Jvm.ClassFile.FieldType.boolean)).before args0 about1 = true := code_word (m := ⟨11, 2⟩) (meth := k11m2) (c := k11c2) (by decide +kernel) rfl rfl rfl (by decide +kernel)
set_option maxRecDepth 65536 in
theorem w_c13 : (Jvm.Cond.code ({ cls := "java/util/Optional", name := "empty", desc := "()Ljava/util/Optional;" } : Jvm.MethodName) jdk_32_method_1_code (1 : Nat) (Option.some (Jvm.ClassFile.FieldType.object "java/util/Optional"))).before args0 about1 = true := code_word (m := ⟨12, 0⟩) (meth := k12m0) (c := k12c0) (by decide +kernel) rfl rfl rfl (by decide +kernel)
set_option maxRecDepth 65536 in
theorem w_c14 : (Jvm.Cond.code ({ cls := "java/util/Optional", name := "orElse", desc := "(Ljava/lang/Object;)Ljava/lang/Object;" } : Jvm.MethodName) jdk_32_method_15_code (2 : Nat) (Option.some (Jvm.ClassFile.FieldType.object "java/lang/Object"))).before args0 about1 = true := code_word (m := ⟨12, 3⟩) (meth := k12m3) (c := k12c3) (by decide +kernel) rfl rfl rfl (by decide +kernel)
set_option maxRecDepth 65536 in
theorem w_c15 : (Jvm.Cond.code ({ cls := "java/lang/StringUTF16", name := "compress", desc := "([CII)[B" } : Jvm.MethodName) jdk_52_method_16_code (6 : Nat) (Option.some (Jvm.ClassFile.FieldType.array Jvm.ClassFile.FieldType.byte))).before args0 about1 = true := code_word (m := ⟨13, 2⟩) (meth := k13m2) (c := k13c2) (by decide +kernel) rfl rfl rfl (by decide +kernel)
set_option maxRecDepth 65536 in
theorem w_c16 : (Jvm.Cond.code ({ cls := "java/lang/StringUTF16", name := "compress", desc := "([CI[BII)I" } : Jvm.MethodName) jdk_52_method_21_code (7 : Nat) (Option.some Jvm.ClassFile.FieldType.int)).before args0 about1 = true := code_word (m := ⟨13, 3⟩) (meth := k13m3) (c := k13c3) (by decide +kernel) rfl rfl rfl (by decide +kernel)
set_option maxRecDepth 65536 in
theorem w_c17 : (Jvm.Cond.code ({ cls := "java/lang/StringUTF16", name := "coderFromArrayLen", desc := "([BI)B" } : Jvm.MethodName) jdk_52_method_15_code (2 : Nat) (Option.some Jvm.ClassFile.FieldType.byte)).before args0 about1 = true := code_word (m := ⟨13, 1⟩) (meth := k13m1) (c := k13c1) (by decide +kernel) rfl rfl rfl (by decide +kernel)
set_option maxRecDepth 65536 in
theorem w_c18 : (Jvm.Cond.code ({ cls := "java/lang/String", name := "charAt", desc := "(I)C" } : Jvm.MethodName) jdk_42_method_56_code (2 : Nat) (Option.some Jvm.ClassFile.FieldType.char)).before args0 about1 = true := code_word (m := ⟨7, 3⟩) (meth := k7m3) (c := k7c3) (by decide +kernel) rfl rfl rfl (by decide +kernel)
set_option maxRecDepth 65536 in
theorem w_c19 : (Jvm.Cond.code ({ cls := "java/lang/String", name := "isLatin1", desc := "()Z" } : Jvm.MethodName) jdk_42_method_154_code (1 : Nat) (Option.some Jvm.ClassFile.FieldType.boolean)).before args0 about1 = true := code_word (m := ⟨7, 7⟩) (meth := k7m7) (c := k7c7) (by decide +kernel) rfl rfl rfl (by decide +kernel)
set_option maxRecDepth 65536 in
theorem w_c20 : (Jvm.Cond.code ({ cls := "java/lang/StringLatin1", name := "charAt", desc := "([BI)C" } : Jvm.MethodName) jdk_43_method_2_code (2 : Nat) (Option.some Jvm.ClassFile.FieldType.char)).before args0 about1 = true := code_word (m := ⟨11, 1⟩) (meth := k11m1) (c := k11c1) (by decide +kernel) rfl rfl rfl (by decide +kernel)
set_option maxRecDepth 65536 in
theorem w_c21 : (Jvm.Cond.code ({ cls := "java/lang/String", name := "checkIndex", desc := "(II)V" } : Jvm.MethodName) jdk_42_method_155_code (2 : Nat) (Option.none : Option Jvm.ClassFile.FieldType)).before args0 about1 = true := code_word (m := ⟨7, 8⟩) (meth := k7m8) (c := k7c8) (by decide +kernel) rfl rfl rfl (by decide +kernel)
set_option maxRecDepth 65536 in
theorem w_c22 : (Jvm.Cond.code ({ cls := "jdk/internal/util/Preconditions", name := "checkIndex", desc := "(IILjava/util/function/BiFunction;)I" } : Jvm.MethodName) jdk_41_method_11_code (3 : Nat) (Option.some Jvm.ClassFile.FieldType.int)).before args0 about1 = true := code_word (m := ⟨14, 1⟩) (meth := k14m1) (c := k14c1) (by decide +kernel) rfl rfl rfl (by decide +kernel)
set_option maxRecDepth 65536 in
theorem w_c23 : (Jvm.Cond.code ({ cls := "java/util/Optional", name := "of", desc := "(Ljava/lang/Object;)Ljava/util/Optional;" } : Jvm.MethodName) jdk_32_method_3_code (1 : Nat) (Option.some (Jvm.ClassFile.FieldType.object "java/util/Optional"))).before args0 about1 = true := code_word (m := ⟨12, 2⟩) (meth := k12m2) (c := k12c2) (by decide +kernel) rfl rfl rfl (by decide +kernel)
set_option maxRecDepth 65536 in
theorem w_c24 : (Jvm.Cond.code ({ cls := "java/util/Objects", name := "requireNonNull", desc := "(Ljava/lang/Object;)Ljava/lang/Object;" } : Jvm.MethodName) jdk_31_method_10_code (1 : Nat) (Option.some (Jvm.ClassFile.FieldType.object "java/lang/Object"))).before args0 about1 = true := code_word (m := ⟨15, 1⟩) (meth := k15m1) (c := k15c1) (by decide +kernel) rfl rfl rfl (by decide +kernel)
set_option maxRecDepth 65536 in
theorem w_c25 : (Jvm.Cond.code ({ cls := "java/util/Optional", name := "<init>", desc := "(Ljava/lang/Object;)V" } : Jvm.MethodName) jdk_32_method_2_code (2 : Nat) (Option.none : Option Jvm.ClassFile.FieldType)).before args0 about1 = true := code_word (m := ⟨12, 1⟩) (meth := k12m1) (c := k12c1) (by decide +kernel) rfl rfl rfl (by decide +kernel)
def codes1 : List Jvm.Cond := [Jvm.Cond.code x code maxLocals ret, Jvm.Cond.code ({ cls := "com/example/samfed/samfed/config/ProfileFromConfigNamePinLaw", name := "make", desc := "([CI)Ljava/lang/String;" } : Jvm.MethodName) method_3_code (2 : Nat) (Option.some (Jvm.ClassFile.FieldType.object "java/lang/String")), Jvm.Cond.code ({ cls := "java/lang/String", name := "<init>", desc := "([C)V" } : Jvm.MethodName) jdk_42_method_3_code (2 : Nat) (Option.none : Option Jvm.ClassFile.FieldType), Jvm.Cond.code ({ cls := "java/lang/String", name := "<init>", desc := "([CIILjava/lang/Void;)V" } : Jvm.MethodName) jdk_42_method_149_code (6 : Nat) (Option.none : Option Jvm.ClassFile.FieldType), Jvm.Cond.code ({ cls := "java/lang/Object", name := "<init>", desc := "()V" } : Jvm.MethodName) object_method_1_code (1 : Nat) (Option.none : Option Jvm.ClassFile.FieldType), Jvm.Cond.code ({ cls := "com/example/samfed/samfed/config/ProfileFromConfigNamePinLaw", name := "isSpid", desc := "(Ljava/lang/String;)Z" } : Jvm.MethodName) method_4_code (1 : Nat) (Option.some Jvm.ClassFile.FieldType.boolean), Jvm.Cond.code ({ cls := "java/lang/String", name := "length", desc := "()I" } : Jvm.MethodName) jdk_42_method_54_code (1 : Nat) (Option.some Jvm.ClassFile.FieldType.int), Jvm.Cond.code ({ cls := "java/lang/String", name := "coder", desc := "()B" } : Jvm.MethodName) jdk_42_method_152_code (1 : Nat) (Option.some Jvm.ClassFile.FieldType.byte), Jvm.Cond.code ({ cls := "com/example/samfed/samfed/config/ProfileFromConfigNamePinLaw", name := "isSaml2", desc := "(Ljava/lang/String;)Z" } : Jvm.MethodName) method_5_code (1 : Nat) (Option.some Jvm.ClassFile.FieldType.boolean), Jvm.Cond.code ({ cls := "com/example/samfed/samfed/config/Profile", name := "fromConfigName", desc := "(Ljava/lang/String;)Ljava/util/Optional;" } : Jvm.MethodName) prog_7_method_5_code (5 : Nat) (Option.some (Jvm.ClassFile.FieldType.object "java/util/Optional")), Jvm.Cond.code ({ cls := "com/example/samfed/samfed/config/Profile", name := "values", desc := "()[Lcom/example/samfed/samfed/config/Profile;" } : Jvm.MethodName) prog_7_method_1_code (0 : Nat) (Option.some (Jvm.ClassFile.FieldType.array (Jvm.ClassFile.FieldType.object "com/example/samfed/samfed/config/Profile"))), Jvm.Cond.code ({ cls := "java/lang/String", name := "equals", desc := "(Ljava/lang/Object;)Z" } : Jvm.MethodName) jdk_42_method_66_code (3 : Nat) (Option.some Jvm.ClassFile.FieldType.boolean), Jvm.Cond.code ({ cls := "java/lang/StringLatin1", name := "equals", desc := "([B[B)Z" } : Jvm.MethodName) jdk_43_method_13_code (3 : Nat) (Option.some Jvm.ClassFile.FieldType.boolean), Jvm.Cond.code ({ cls := "java/util/Optional", name := "empty", desc := "()Ljava/util/Optional;" } : Jvm.MethodName) jdk_32_method_1_code (1 : Nat) (Option.some (Jvm.ClassFile.FieldType.object "java/util/Optional")), Jvm.Cond.code ({ cls := "java/util/Optional", name := "orElse", desc := "(Ljava/lang/Object;)Ljava/lang/Object;" } : Jvm.MethodName) jdk_32_method_15_code (2 : Nat) (Option.some (Jvm.ClassFile.FieldType.object "java/lang/Object")), Jvm.Cond.code ({ cls := "java/lang/StringUTF16", name := "compress", desc := "([CII)[B" } : Jvm.MethodName) jdk_52_method_16_code (6 : Nat) (Option.some (Jvm.ClassFile.FieldType.array Jvm.ClassFile.FieldType.byte)), Jvm.Cond.code ({ cls := "java/lang/StringUTF16", name := "compress", desc := "([CI[BII)I" } : Jvm.MethodName) jdk_52_method_21_code (7 : Nat) (Option.some Jvm.ClassFile.FieldType.int), Jvm.Cond.code ({ cls := "java/lang/StringUTF16", name := "coderFromArrayLen", desc := "([BI)B" } : Jvm.MethodName) jdk_52_method_15_code (2 : Nat) (Option.some Jvm.ClassFile.FieldType.byte), Jvm.Cond.code ({ cls := "java/lang/String", name := "charAt", desc := "(I)C" } : Jvm.MethodName) jdk_42_method_56_code (2 : Nat) (Option.some Jvm.ClassFile.FieldType.char), Jvm.Cond.code ({ cls := "java/lang/String", name := "isLatin1", desc := "()Z" } : Jvm.MethodName) jdk_42_method_154_code (1 : Nat) (Option.some Jvm.ClassFile.FieldType.boolean), Jvm.Cond.code ({ cls := "java/lang/StringLatin1", name := "charAt", desc := "([BI)C" } : Jvm.MethodName) jdk_43_method_2_code (2 : Nat) (Option.some Jvm.ClassFile.FieldType.char), Jvm.Cond.code ({ cls := "java/lang/String", name := "checkIndex", desc := "(II)V" } : Jvm.MethodName) jdk_42_method_155_code (2 : Nat) (Option.none : Option Jvm.ClassFile.FieldType), Jvm.Cond.code ({ cls := "jdk/internal/util/Preconditions", name := "checkIndex", desc := "(IILjava/util/function/BiFunction;)I" } : Jvm.MethodName) jdk_41_method_11_code (3 : Nat) (Option.some Jvm.ClassFile.FieldType.int), Jvm.Cond.code ({ cls := "java/util/Optional", name := "of", desc := "(Ljava/lang/Object;)Ljava/util/Optional;" } : Jvm.MethodName) jdk_32_method_3_code (1 : Nat) (Option.some (Jvm.ClassFile.FieldType.object "java/util/Optional")), Jvm.Cond.code ({ cls := "java/util/Objects", name := "requireNonNull", desc := "(Ljava/lang/Object;)Ljava/lang/Object;" } : Jvm.MethodName) jdk_31_method_10_code (1 : Nat) (Option.some (Jvm.ClassFile.FieldType.object "java/lang/Object")), Jvm.Cond.code ({ cls := "java/util/Optional", name := "<init>", desc := "(Ljava/lang/Object;)V" } : Jvm.MethodName) jdk_32_method_2_code (2 : Nat) (Option.none : Option Jvm.ClassFile.FieldType)]
set_option maxRecDepth 65536 in
theorem codes_eq : words1.filter isCode = codes1 := rfl
theorem w_codes : ∀ c ∈ words1.filter isCode, c.before args0 about1 = true := by
  rw [codes_eq]
  intro c hc
  simp only [codes1, List.mem_cons, List.not_mem_nil, or_false] at hc
  rcases hc with rfl | rfl | rfl | rfl | rfl | rfl | rfl | rfl | rfl | rfl | rfl | rfl | rfl | rfl | rfl | rfl | rfl | rfl | rfl | rfl | rfl | rfl | rfl | rfl | rfl | rfl
  · exact w_c0
  · exact w_c1
  · exact w_c2
  · exact w_c3
  · exact w_c4
  · exact w_c5
  · exact w_c6
  · exact w_c7
  · exact w_c8
  · exact w_c9
  · exact w_c10
  · exact w_c11
  · exact w_c12
  · exact w_c13
  · exact w_c14
  · exact w_c15
  · exact w_c16
  · exact w_c17
  · exact w_c18
  · exact w_c19
  · exact w_c20
  · exact w_c21
  · exact w_c22
  · exact w_c23
  · exact w_c24
  · exact w_c25
set_option maxRecDepth 65536 in
theorem w_t1 : (words1.take 24).all (fun c => isCode c || c.before args0 about1) = true := by decide +kernel
set_option maxRecDepth 65536 in
theorem w_t2 : ((words1.drop 24).take 24).all (fun c => isCode c || c.before args0 about1) = true := by decide +kernel
set_option maxRecDepth 65536 in
theorem w_t3 : (((words1.drop 24).drop 24).take 24).all (fun c => isCode c || c.before args0 about1) = true := by decide +kernel
set_option maxRecDepth 65536 in
theorem w_t4 : ((((words1.drop 24).drop 24).drop 24).take 24).all (fun c => isCode c || c.before args0 about1) = true := by decide +kernel
set_option maxRecDepth 65536 in
theorem w_t5 : (((((words1.drop 24).drop 24).drop 24).drop 24).take 24).all (fun c => isCode c || c.before args0 about1) = true := by decide +kernel
set_option maxRecDepth 65536 in
theorem w_t6 : (((((words1.drop 24).drop 24).drop 24).drop 24).drop 24).all (fun c => isCode c || c.before args0 about1) = true := by decide +kernel
theorem w_tables : (allAtoms (Jvm.Cond.code x code maxLocals ret :: tables_1)).before args0 about1 = true := by
  rw [allAtoms_all]
  show words1.all (fun c => c.before args0 about1) = true
  refine all_split ?_ w_codes
  rw [← List.take_append_drop 24 words1, List.all_append, w_t1, ← List.take_append_drop 24 (words1.drop 24), List.all_append, w_t2, ← List.take_append_drop 24 ((words1.drop 24).drop 24), List.all_append, w_t3, ← List.take_append_drop 24 (((words1.drop 24).drop 24).drop 24), List.all_append, w_t4, ← List.take_append_drop 24 ((((words1.drop 24).drop 24).drop 24).drop 24), List.all_append, w_t5, w_t6]
  rfl
set_option maxRecDepth 65536 in
theorem w_rest : rest_1_c.before args0 about1 = true := by decide +kernel
set_option maxRecDepth 65536 in
theorem w_case : (Jvm.Cond.and given_1 narrow_1).before args0 about1 = true := by decide +kernel
set_option maxRecDepth 65536 in
theorem w_consts : constsHeld consts_1 about1 := Jvm.Lit.constsHeldB_iff.mp (by decide +kernel)
theorem w_applies : (headSpec (Jvm.Cond.code x code maxLocals ret :: tables_1) room_1).applies x e0.platform about1 = true :=
  (Spec.applies_iff w_frames).mpr ⟨w_running, w_runnable, w_alone, w_named, w_hears, w_ripe, w_room, w_tables⟩
theorem atStart : AtStart classFile x code maxLocals ret World_1 tables_1 room_1 Calls_1 rest_1 Pre_1 launch0 p0 e0 about1 theMethod args0 below0 :=
  ⟨lists_1, trivial, launch0.admits_env _ _ _, launch0.least_env, fairChoices_fair.cas, fairChoices_fair.clock, w_frames, w_args, w_heap, w_applies, ⟨w_consts, trivial⟩, w_rest, w_case⟩
end start1
theorem witness_1 : WitnessClaimed_1 := ⟨start1.p0, start1.e0, start1.about1, start1.theMethod, start1.args0, start1.below0, start1.atStart⟩
end Jvm.Pilot.@@N@@
