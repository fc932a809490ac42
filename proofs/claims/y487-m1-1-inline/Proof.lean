import JvmDerived
import JvmDerived.Pilot.@@N@@Statement
import JvmDerived.Pilot.@@N@@Code
set_option linter.unusedVariables false
set_option linter.unusedSimpArgs false
namespace Jvm.Pilot.@@N@@
open Jvm Jvm.ClassFile Sem Op Lib Jvm.Free Jvm.Stand Jvm.LawKit Jvm.RoadKit Bundle Jvm.Pilot.@@N@@.Jvm.D
/-! ## A body, its walk (Wk) and its contract (Cn) -/
abbrev Bdy : Type := MethodName × ByteArray × Nat × Option FieldType × Room
abbrev Bdy.y (b : Bdy) : MethodName := b.1
abbrev Bdy.code (b : Bdy) : ByteArray := b.2.1
abbrev Bdy.maxL (b : Bdy) : Nat := b.2.2.1
abbrev Bdy.ret (b : Bdy) : Option FieldType := b.2.2.2.1
abbrev Bdy.room (b : Bdy) : Room := b.2.2.2.2
/-- what is known of the VM's tables: none: only warmer; some: which texts were interned, which literals are resolved -/
abbrev Lts : Type := Option (List String × List (String × Nat × Addr))
def VI (Z : State) (I : Lts) (vm : Vm) : Prop := match I with
  | none => Z.WarmedH vm
  | some q => IB Z vm q.1 ∧ ∀ u ∈ q.2, Lit (Z.setVm vm) u.1 u.2.1 u.2.2
theorem VI.warm {Z s : State} {I : Lts} {vm' : Vm} (hV : VI Z I s.vm) (hW : s.WarmedH vm') : VI Z I vm' := by
  cases I with
  | none => exact State.WarmedH.trans hV hW
  | some q =>
    refine ⟨?_, fun u hu => ?_⟩
    · obtain ⟨more, h1, h2⟩ := hV.1
      exact ⟨more, by rw [hW.interned_eq]; exact h1, h2⟩
    · exact Lit.stays (vm0 := s.vm) (hV.2 u hu) (by exact hW.wide)
abbrev Cx : Type := Launch × State × Nat × Nat × Bdy × (Option Value → Heap → Lts → Prop)
abbrev Cx.l (c : Cx) : Launch := c.1
abbrev Cx.Z (c : Cx) : State := c.2.1
abbrev Cx.N (c : Cx) : Nat := c.2.2.1
abbrev Cx.M (c : Cx) : Nat := c.2.2.2.1
abbrev Cx.b (c : Cx) : Bdy := c.2.2.2.2.1
abbrev Cx.Q (c : Cx) : Option Value → Heap → Lts → Prop := c.2.2.2.2.2
def Fini (C : Cx) (s : State) (o : Outcome) (t : State) : Prop :=
  ∃ v L J, o = .returned v ∧ C.Q v t.heap J ∧ VI C.Z J t.vm ∧ Fr C.N L ∧ Ext C.Z.heap t.heap ∧ ReturnedEndW s o t L C.b.room.cells C.b.room.slots
def St (C : Cx) (p : Program) (e : Env) (s : State) (vm0 : Vm) (m : MethodId) (args : Array Value) (below : List Frame) (meth : Method) (c : Code) (T : State) (locs : List Loc) (k0 : Nat) (h : Heap) (k n : Nat) (I : Lts) : Prop :=
  (p.tables.exec = Jvm.exec ∧ c.code = C.b.code ∧ c.maxLocals = C.b.maxL ∧ meth.sig.returnType = C.b.ret ∧ meth.locks = false ∧ meth.name = C.b.y.name ∧ C.Z.heap.size ≤ C.N ∧ s.heap.size = C.M ∧ Ext C.Z.heap s.heap) ∧
  (vm0.findClass C.b.y.cls = some m.cls ∧ C.Z.Warmed39 vm0 ∧ s.Since vm0 k0 ∧ VI C.Z I vm0) ∧
  (k0 ≤ h.size ∧ Stand p C.l e C.b.room (s.setVm vm0) m args below meth c T locs k n ∧ T.heap = h ∧ Ext C.Z.heap h ∧ C.N ≤ h.size ∧ Fr C.N locs)
def Wk (C : Cx) (h : Heap) (k n : Nat) (I : Lts) (pc : Nat) (Ls : Array Slot) (st : List Value) : Prop :=
  ∀ (p : Program) (e : Env) (s : State) (vm0 : Vm) (m : MethodId) (args : Array Value) (below : List Frame) (meth : Method) (c : Code) (T : State) (locs : List Loc) (k0 : Nat),
    St C p e s vm0 m args below meth c T locs k0 h k n I →
    ∃ t o, Steps p.tables e below (T.setTop (mkF m pc Ls st)) t ∧ t.status = .running ∧ Ended t below o ∧ Fini C s o t
def Cn (l : Launch) (Z : State) (N : Nat) (b : Bdy) (as : Array Value) (h : Heap) (I : Lts) (Q : Option Value → Heap → Lts → Prop) : Prop :=
  ∀ ws : List Jvm.Cond, MetFree l b.y (head1 (Jvm.Cond.code b.y b.code b.maxL b.ret :: ws) b.room) (fun a U => a = as ∧ Z.Warmed39 U.vm ∧ U.heap = h ∧ VI Z I U.vm ∧ Ext Z.heap h ∧ N ≤ h.size ∧ Z.heap.size ≤ N) (fun _ _ _ _ _ => True) (fun _ U o U' => Fini (l, Z, N, h.size, b, Q) U o U')
theorem own_ext {h0 h : Heap} (K : Keep h0 h []) : Ext h0 h := ⟨K.1, fun a c q => K.2.1 a c q nin0⟩
section Kit
variable {C : Cx} {h h' : Heap} {k n k' n' : Nat} {I : Lts} {pc pc' : Nat} {Ls Ls' : Array Slot} {st st' rest : List Value} {a0 : Array Value}
theorem Wk.step (hs : ∀ (p : Program) (e : Env) (m : MethodId) (below : List Frame) (c : Code) (T t : State), At T m c below → p.tables.exec = Jvm.exec → c.code = C.b.code → Steps p.tables e below (T.setTop (mkF m pc' Ls' st')) t → Steps p.tables e below (T.setTop (mkF m pc Ls st)) t)
    (r : Wk C h k n I pc' Ls' st') : Wk C h k n I pc Ls st := fun p e s vm0 m args below meth c T locs k0 S => by
  obtain ⟨t, o, h1, h2⟩ := r p e s vm0 m args below meth c T locs k0 S
  exact ⟨t, o, hs p e m below c T t S.2.2.2.1.here S.1.1 S.1.2.1 h1, h2⟩
/-- a step over the Stand, the heap as it is -/
theorem Wk.law (hs : ∀ (p : Program) (e : Env) (s : State) (vm0 : Vm) (m : MethodId) (args : Array Value) (below : List Frame) (meth : Method) (c : Code) (T : State) (locs : List Loc) (k0 : Nat), St C p e s vm0 m args below meth c T locs k0 h k n I →
      ∃ T', Stand p C.l e C.b.room (s.setVm vm0) m args below meth c T' locs k n ∧ T'.heap = h ∧ ∀ t, Steps p.tables e below (T'.setTop (mkF m pc' Ls' st')) t → Steps p.tables e below (T.setTop (mkF m pc Ls st)) t)
    (r : Wk C h k n I pc' Ls' st') : Wk C h k n I pc Ls st := fun p e s vm0 m args below meth c T locs k0 S => by
  obtain ⟨T', X', e', st⟩ := hs p e s vm0 m args below meth c T locs k0 S
  obtain ⟨t, o, h1, h2⟩ := r p e s vm0 m args below meth c T' locs k0 ⟨S.1, S.2.1, S.2.2.1, X', e', S.2.2.2.2.2⟩
  exact ⟨t, o, st t h1, h2⟩
/-- a step that writes one place -/
theorem Wk.lawW {a : Addr} {sl : Nat} {v : Value} (ha : C.N ≤ a) (hs : ∀ (p : Program) (e : Env) (s : State) (vm0 : Vm) (m : MethodId) (args : Array Value) (below : List Frame) (meth : Method) (c : Code) (T : State) (locs : List Loc) (k0 : Nat), St C p e s vm0 m args below meth c T locs k0 h k n I →
      ∃ T' h', Stand p C.l e C.b.room (s.setVm vm0) m args below meth c T' (locs ++ [⟨a, sl⟩]) k n ∧ T'.heap = h' ∧ Wr h h' a sl v ∧ ∀ t, Steps p.tables e below (T'.setTop (mkF m pc' Ls' st')) t → Steps p.tables e below (T.setTop (mkF m pc Ls st)) t)
    (r : ∀ h', Wr h h' a sl v → Wk C h' k n I pc' Ls' st') : Wk C h k n I pc Ls st := fun p e s vm0 m args below meth c T locs k0 S => by
  obtain ⟨T', h', X', e', W, st⟩ := hs p e s vm0 m args below meth c T locs k0 S
  obtain ⟨A, B, q1, q2, q3, q4, q5, q6⟩ := S
  have hO : Old C.Z C.Z.heap.size h := ⟨rfl, q4⟩
  obtain ⟨t, o, h1, h2⟩ := r h' W p e s vm0 m args below meth c T' _ k0 ⟨A, B, by rw [W.size]; exact q1, X', e', (hO.wr W (Nat.le_trans A.2.2.2.2.2.2.1 ha)).2, by rw [W.size]; exact q5, Fr.snoc X' q6 ha⟩
  exact ⟨t, o, st t h1, h2⟩
/-- a step that makes a cell -/
theorem Wk.lawE {P : Heap → Prop} (hs : ∀ (p : Program) (e : Env) (s : State) (vm0 : Vm) (m : MethodId) (args : Array Value) (below : List Frame) (meth : Method) (c : Code) (T : State) (locs : List Loc) (k0 : Nat), St C p e s vm0 m args below meth c T locs k0 h k n I →
      ∃ T' h', Stand p C.l e C.b.room (s.setVm vm0) m args below meth c T' locs k' n' ∧ T'.heap = h' ∧ Ext h h' ∧ P h' ∧ ∀ t, Steps p.tables e below (T'.setTop (mkF m pc' Ls' st')) t → Steps p.tables e below (T.setTop (mkF m pc Ls st)) t)
    (r : ∀ h', Ext h h' → P h' → Wk C h' k' n' I pc' Ls' st') : Wk C h k n I pc Ls st := fun p e s vm0 m args below meth c T locs k0 S => by
  obtain ⟨T', h', X', e', E, hp, st⟩ := hs p e s vm0 m args below meth c T locs k0 S
  obtain ⟨A, B, q1, q2, q3, q4, q5, q6⟩ := S
  obtain ⟨t, o, h1, h2⟩ := r h' E hp p e s vm0 m args below meth c T' _ k0 ⟨A, B, Nat.le_trans q1 E.1, X', e', ⟨Nat.le_trans q4.1 E.1, fun x c hx => E.2 _ _ (q4.2 _ _ hx)⟩, Nat.le_trans q5 E.1, q6⟩
  exact ⟨t, o, st t h1, h2⟩
/-- what stands at every point -/
theorem Wk.see (r : Ext C.Z.heap h → C.N ≤ h.size → C.Z.heap.size ≤ C.N → Wk C h k n I pc Ls st) : Wk C h k n I pc Ls st := fun p e s vm0 m args below meth c T locs k0 S =>
  r S.2.2.2.2.2.1 S.2.2.2.2.2.2.1 S.1.2.2.2.2.2.2.1 p e s vm0 m args below meth c T locs k0 S
theorem Wk.more (hk : k ≤ k') (hn : n ≤ n') (r : Wk C h k' n' I pc Ls st) : Wk C h k n I pc Ls st := fun p e s vm0 m args below meth c T locs k0 S =>
  r p e s vm0 m args below meth c T locs k0 ⟨S.1, S.2.1, S.2.2.1, S.2.2.2.1.mono hk hn, S.2.2.2.2⟩
theorem Wk.iadd {x y : Int32} (hd : decode C.b.code pc = .ok (.iadd, 1)) (hp : pc + 1 = pc') (r : Wk C h k n I pc' Ls (.int (x + y) :: rest)) : Wk C h k n I pc Ls (.int y :: .int x :: rest) := by
  subst hp
  exact Wk.step (fun _ _ _ _ _ _ _ ha hx hby kt => XS.iadd ha hx rfl (hb hby hd) rfl kt) r
theorem Wk.isub {x y : Int32} (hd : decode C.b.code pc = .ok (.isub, 1)) (hp : pc + 1 = pc') (r : Wk C h k n I pc' Ls (.int (x - y) :: rest)) : Wk C h k n I pc Ls (.int y :: .int x :: rest) := by
  subst hp
  exact Wk.step (fun _ _ _ _ _ _ _ ha hx hby kt => XS.isub ha hx rfl (hb hby hd) rfl kt) r
theorem Wk.imul {x y : Int32} (hd : decode C.b.code pc = .ok (.imul, 1)) (hp : pc + 1 = pc') (r : Wk C h k n I pc' Ls (.int (x * y) :: rest)) : Wk C h k n I pc Ls (.int y :: .int x :: rest) := by
  subst hp
  exact Wk.step (fun _ _ _ _ _ _ _ ha hx hby kt => XS.imul ha hx rfl (hb hby hd) rfl kt) r
theorem Wk.iand {x y : Int32} (hd : decode C.b.code pc = .ok (.iand, 1)) (hp : pc + 1 = pc') (r : Wk C h k n I pc' Ls (.int (x &&& y) :: rest)) : Wk C h k n I pc Ls (.int y :: .int x :: rest) := by
  subst hp
  exact Wk.step (fun _ _ _ _ _ _ _ ha hx hby kt => XS.iand ha hx rfl (hb hby hd) rfl kt) r
theorem Wk.ior {x y : Int32} (hd : decode C.b.code pc = .ok (.ior, 1)) (hp : pc + 1 = pc') (r : Wk C h k n I pc' Ls (.int (x ||| y) :: rest)) : Wk C h k n I pc Ls (.int y :: .int x :: rest) := by
  subst hp
  exact Wk.step (fun _ _ _ _ _ _ _ ha hx hby kt => XS.ior ha hx rfl (hb hby hd) rfl kt) r
theorem Wk.ixor {x y : Int32} (hd : decode C.b.code pc = .ok (.ixor, 1)) (hp : pc + 1 = pc') (r : Wk C h k n I pc' Ls (.int (x ^^^ y) :: rest)) : Wk C h k n I pc Ls (.int y :: .int x :: rest) := by
  subst hp
  exact Wk.step (fun _ _ _ _ _ _ _ ha hx hby kt => XS.ixor ha hx rfl (hb hby hd) rfl kt) r
theorem Wk.ishl {x y : Int32} (hd : decode C.b.code pc = .ok (.ishl, 1)) (hp : pc + 1 = pc') (r : Wk C h k n I pc' Ls (.int (x <<< (y &&& 31)) :: rest)) : Wk C h k n I pc Ls (.int y :: .int x :: rest) := by
  subst hp
  exact Wk.step (fun _ _ _ _ _ _ _ ha hx hby kt => XS.ishl ha hx rfl (hb hby hd) rfl kt) r
theorem Wk.ishr {x y : Int32} (hd : decode C.b.code pc = .ok (.ishr, 1)) (hp : pc + 1 = pc') (r : Wk C h k n I pc' Ls (.int (x >>> (y &&& 31)) :: rest)) : Wk C h k n I pc Ls (.int y :: .int x :: rest) := by
  subst hp
  exact Wk.step (fun _ _ _ _ _ _ _ ha hx hby kt => XS.ishr ha hx rfl (hb hby hd) rfl kt) r
theorem Wk.iushr {x y : Int32} (hd : decode C.b.code pc = .ok (.iushr, 1)) (hp : pc + 1 = pc') (r : Wk C h k n I pc' Ls (.int ((x.toUInt32 >>> (y &&& 31).toUInt32).toInt32) :: rest)) : Wk C h k n I pc Ls (.int y :: .int x :: rest) := by
  subst hp
  exact Wk.step (fun _ _ _ _ _ _ _ ha hx hby kt => XS.iushr ha hx rfl (hb hby hd) rfl kt) r
theorem Wk.ladd {x y : Int64} (hd : decode C.b.code pc = .ok (.ladd, 1)) (hp : pc + 1 = pc') (r : Wk C h k n I pc' Ls (.long (x + y) :: rest)) : Wk C h k n I pc Ls (.long y :: .long x :: rest) := by
  subst hp
  exact Wk.step (fun _ _ _ _ _ _ _ ha hx hby kt => XS.ladd ha hx rfl (hb hby hd) rfl kt) r
theorem Wk.lsub {x y : Int64} (hd : decode C.b.code pc = .ok (.lsub, 1)) (hp : pc + 1 = pc') (r : Wk C h k n I pc' Ls (.long (x - y) :: rest)) : Wk C h k n I pc Ls (.long y :: .long x :: rest) := by
  subst hp
  exact Wk.step (fun _ _ _ _ _ _ _ ha hx hby kt => XS.lsub ha hx rfl (hb hby hd) rfl kt) r
theorem Wk.lmul {x y : Int64} (hd : decode C.b.code pc = .ok (.lmul, 1)) (hp : pc + 1 = pc') (r : Wk C h k n I pc' Ls (.long (x * y) :: rest)) : Wk C h k n I pc Ls (.long y :: .long x :: rest) := by
  subst hp
  exact Wk.step (fun _ _ _ _ _ _ _ ha hx hby kt => XS.lmul ha hx rfl (hb hby hd) rfl kt) r
theorem Wk.land {x y : Int64} (hd : decode C.b.code pc = .ok (.land, 1)) (hp : pc + 1 = pc') (r : Wk C h k n I pc' Ls (.long (x &&& y) :: rest)) : Wk C h k n I pc Ls (.long y :: .long x :: rest) := by
  subst hp
  exact Wk.step (fun _ _ _ _ _ _ _ ha hx hby kt => XS.land ha hx rfl (hb hby hd) rfl kt) r
theorem Wk.lor {x y : Int64} (hd : decode C.b.code pc = .ok (.lor, 1)) (hp : pc + 1 = pc') (r : Wk C h k n I pc' Ls (.long (x ||| y) :: rest)) : Wk C h k n I pc Ls (.long y :: .long x :: rest) := by
  subst hp
  exact Wk.step (fun _ _ _ _ _ _ _ ha hx hby kt => XS.lor ha hx rfl (hb hby hd) rfl kt) r
theorem Wk.lxor {x y : Int64} (hd : decode C.b.code pc = .ok (.lxor, 1)) (hp : pc + 1 = pc') (r : Wk C h k n I pc' Ls (.long (x ^^^ y) :: rest)) : Wk C h k n I pc Ls (.long y :: .long x :: rest) := by
  subst hp
  exact Wk.step (fun _ _ _ _ _ _ _ ha hx hby kt => XS.lxor ha hx rfl (hb hby hd) rfl kt) r
theorem Wk.lshl {x : Int64} {y : Int32} (hd : decode C.b.code pc = .ok (.lshl, 1)) (hp : pc + 1 = pc') (r : Wk C h k n I pc' Ls (.long (x <<< (y &&& 0x3f).toInt64) :: rest)) : Wk C h k n I pc Ls (.int y :: .long x :: rest) := by
  subst hp
  exact Wk.step (fun _ _ _ _ _ _ _ ha hx hby kt => XS.lshl ha hx rfl (hb hby hd) rfl kt) r
theorem Wk.lshr {x : Int64} {y : Int32} (hd : decode C.b.code pc = .ok (.lshr, 1)) (hp : pc + 1 = pc') (r : Wk C h k n I pc' Ls (.long (x >>> (y &&& 0x3f).toInt64) :: rest)) : Wk C h k n I pc Ls (.int y :: .long x :: rest) := by
  subst hp
  exact Wk.step (fun _ _ _ _ _ _ _ ha hx hby kt => XS.lshr ha hx rfl (hb hby hd) rfl kt) r
theorem Wk.lushr {x : Int64} {y : Int32} (hd : decode C.b.code pc = .ok (.lushr, 1)) (hp : pc + 1 = pc') (r : Wk C h k n I pc' Ls (.long ((x.toUInt64 >>> (y &&& 0x3f).toInt64.toUInt64).toInt64) :: rest)) : Wk C h k n I pc Ls (.int y :: .long x :: rest) := by
  subst hp
  exact Wk.step (fun _ _ _ _ _ _ _ ha hx hby kt => XS.lushr ha hx rfl (hb hby hd) rfl kt) r
theorem Wk.idiv {x y : Int32} (hd : decode C.b.code pc = .ok (.idiv, 1)) (hp : pc + 1 = pc') (hy : y ≠ 0) (r : Wk C h k n I pc' Ls (.int (x / y) :: rest)) : Wk C h k n I pc Ls (.int y :: .int x :: rest) := by
  subst hp
  exact Wk.step (fun _ _ _ _ _ _ _ ha hx hby kt => XS.idiv ha hx rfl (hb hby hd) rfl hy kt) r
theorem Wk.ldiv {x y : Int64} (hd : decode C.b.code pc = .ok (.ldiv, 1)) (hp : pc + 1 = pc') (hy : y ≠ 0) (r : Wk C h k n I pc' Ls (.long (x / y) :: rest)) : Wk C h k n I pc Ls (.long y :: .long x :: rest) := by
  subst hp
  exact Wk.step (fun _ _ _ _ _ _ _ ha hx hby kt => XS.ldiv ha hx rfl (hb hby hd) rfl hy kt) r
theorem Wk.lrem {x y : Int64} (hd : decode C.b.code pc = .ok (.lrem, 1)) (hp : pc + 1 = pc') (hy : y ≠ 0) (r : Wk C h k n I pc' Ls (.long (x - (x / y) * y) :: rest)) : Wk C h k n I pc Ls (.long y :: .long x :: rest) := by
  subst hp
  exact Wk.step (fun _ _ _ _ _ _ _ ha hx hby kt => XS.lrem ha hx rfl (hb hby hd) rfl hy kt) r
theorem Wk.ineg {x : Int32} (hd : decode C.b.code pc = .ok (.ineg, 1)) (hp : pc + 1 = pc') (r : Wk C h k n I pc' Ls (.int (-x) :: rest)) : Wk C h k n I pc Ls (.int x :: rest) := by
  subst hp
  exact Wk.step (fun _ _ _ _ _ _ _ ha hx hby kt => XS.ineg ha hx rfl (hb hby hd) rfl kt) r
theorem Wk.lneg {x : Int64} (hd : decode C.b.code pc = .ok (.lneg, 1)) (hp : pc + 1 = pc') (r : Wk C h k n I pc' Ls (.long (-x) :: rest)) : Wk C h k n I pc Ls (.long x :: rest) := by
  subst hp
  exact Wk.step (fun _ _ _ _ _ _ _ ha hx hby kt => XS.lneg ha hx rfl (hb hby hd) rfl kt) r
theorem Wk.i2l {x : Int32} (hd : decode C.b.code pc = .ok (.i2l, 1)) (hp : pc + 1 = pc') (r : Wk C h k n I pc' Ls (.long x.toInt64 :: rest)) : Wk C h k n I pc Ls (.int x :: rest) := by
  subst hp
  exact Wk.step (fun _ _ _ _ _ _ _ ha hx hby kt => XS.i2l ha hx rfl (hb hby hd) rfl kt) r
theorem Wk.l2i {x : Int64} (hd : decode C.b.code pc = .ok (.l2i, 1)) (hp : pc + 1 = pc') (r : Wk C h k n I pc' Ls (.int x.toInt32 :: rest)) : Wk C h k n I pc Ls (.long x :: rest) := by
  subst hp
  exact Wk.step (fun _ _ _ _ _ _ _ ha hx hby kt => XS.l2i ha hx rfl (hb hby hd) rfl kt) r
theorem Wk.i2b {x : Int32} (hd : decode C.b.code pc = .ok (.i2b, 1)) (hp : pc + 1 = pc') (r : Wk C h k n I pc' Ls (.int x.toInt8.toInt32 :: rest)) : Wk C h k n I pc Ls (.int x :: rest) := by
  subst hp
  exact Wk.step (fun _ _ _ _ _ _ _ ha hx hby kt => XS.i2b ha hx rfl (hb hby hd) rfl kt) r
theorem Wk.i2c {x : Int32} (hd : decode C.b.code pc = .ok (.i2c, 1)) (hp : pc + 1 = pc') (r : Wk C h k n I pc' Ls (.int x.toUInt32.toUInt16.toUInt32.toInt32 :: rest)) : Wk C h k n I pc Ls (.int x :: rest) := by
  subst hp
  exact Wk.step (fun _ _ _ _ _ _ _ ha hx hby kt => XS.i2c ha hx rfl (hb hby hd) rfl kt) r
theorem Wk.i2s {x : Int32} (hd : decode C.b.code pc = .ok (.i2s, 1)) (hp : pc + 1 = pc') (r : Wk C h k n I pc' Ls (.int x.toInt16.toInt32 :: rest)) : Wk C h k n I pc Ls (.int x :: rest) := by
  subst hp
  exact Wk.step (fun _ _ _ _ _ _ _ ha hx hby kt => XS.i2s ha hx rfl (hb hby hd) rfl kt) r
theorem Wk.lcmp {x y : Int64} (hd : decode C.b.code pc = .ok (.lcmp, 1)) (hp : pc + 1 = pc') (r : Wk C h k n I pc' Ls (.int (lcmpW x y) :: rest)) : Wk C h k n I pc Ls (.long y :: .long x :: rest) := by
  subst hp
  exact Wk.step (fun _ _ _ _ _ _ _ ha hx hby kt => XS.lcmp ha hx rfl (hb hby hd) rfl kt) r
theorem Wk.dup {x : Value} (hd : decode C.b.code pc = .ok (.dup, 1)) (hp : pc + 1 = pc') (hc : x.category = 1) (r : Wk C h k n I pc' Ls (x :: x :: rest)) : Wk C h k n I pc Ls (x :: rest) := by
  subst hp
  exact Wk.step (fun _ _ _ _ _ _ _ ha hx hby kt => XS.dup ha hx rfl (hb hby hd) rfl hc kt) r
theorem Wk.dupX1 {x y : Value} (hd : decode C.b.code pc = .ok (.dup_x1, 1)) (hp : pc + 1 = pc') (hc : x.category = 1) (hc2 : y.category = 1) (r : Wk C h k n I pc' Ls (x :: y :: x :: rest)) : Wk C h k n I pc Ls (x :: y :: rest) := by
  subst hp
  exact Wk.step (fun _ _ _ _ _ _ _ ha hx hby kt => XS.dupX1 ha hx rfl (hb hby hd) rfl hc hc2 kt) r
theorem Wk.dup2 {x y : Value} (hd : decode C.b.code pc = .ok (.dup2, 1)) (hp : pc + 1 = pc') (hc : x.category = 1) (hc2 : y.category = 1) (r : Wk C h k n I pc' Ls (x :: y :: x :: y :: rest)) : Wk C h k n I pc Ls (x :: y :: rest) := by
  subst hp
  exact Wk.step (fun _ _ _ _ _ _ _ ha hx hby kt => Jvm.Free.XT.dup2 ha hx rfl (hb hby hd) rfl hc hc2 kt) r
theorem Wk.dup2L {x : Int64} (hd : decode C.b.code pc = .ok (.dup2, 1)) (hp : pc + 1 = pc') (r : Wk C h k n I pc' Ls (.long x :: .long x :: rest)) : Wk C h k n I pc Ls (.long x :: rest) := by
  subst hp
  exact Wk.step (fun _ _ _ _ _ _ _ ha hx hby kt => Jvm.Free.XT.dup2L ha hx rfl (hb hby hd) rfl kt) r
theorem Wk.pop {x : Value} (hd : decode C.b.code pc = .ok (.pop, 1)) (hp : pc + 1 = pc') (hc : x.category = 1) (r : Wk C h k n I pc' Ls (rest)) : Wk C h k n I pc Ls (x :: rest) := by
  subst hp
  exact Wk.step (fun _ _ _ _ _ _ _ ha hx hby kt => XS.pop ha hx rfl (hb hby hd) rfl hc kt) r
theorem Wk.swap {x y : Value} (hd : decode C.b.code pc = .ok (.swap, 1)) (hp : pc + 1 = pc') (hc : x.category = 1) (hc2 : y.category = 1) (r : Wk C h k n I pc' Ls (y :: x :: rest)) : Wk C h k n I pc Ls (x :: y :: rest) := by
  subst hp
  exact Wk.step (fun _ _ _ _ _ _ _ ha hx hby kt => XS.swap ha hx rfl (hb hby hd) rfl hc hc2 kt) r
theorem Wk.aconstNull  (hd : decode C.b.code pc = .ok (.aconst_null, 1)) (hp : pc + 1 = pc') (r : Wk C h k n I pc' Ls (.null :: st)) : Wk C h k n I pc Ls (st) := by
  subst hp
  exact Wk.step (fun _ _ _ _ _ _ _ ha hx hby kt => XS.aconstNull ha hx rfl (hb hby hd)  kt) r
theorem Wk.i2d {x : Int32} (hd : decode C.b.code pc = .ok (.i2d, 1)) (hp : pc + 1 = pc') (r : Wk C h k n I pc' Ls (.double (FP.i2d x) :: rest)) : Wk C h k n I pc Ls (.int x :: rest) := by
  subst hp
  exact Wk.step (fun _ _ _ _ _ _ _ ha hx hby kt => XS.i2dS ha hx rfl (hb hby hd) rfl rfl kt) r
theorem Wk.l2d {x : Int64} (hd : decode C.b.code pc = .ok (.l2d, 1)) (hp : pc + 1 = pc') (r : Wk C h k n I pc' Ls (.double (FP.l2d x) :: rest)) : Wk C h k n I pc Ls (.long x :: rest) := by
  subst hp
  exact Wk.step (fun _ _ _ _ _ _ _ ha hx hby kt => XS.l2dS ha hx rfl (hb hby hd) rfl rfl kt) r
theorem Wk.dadd {x y : UInt64} (hd : decode C.b.code pc = .ok (.dadd, 1)) (hp : pc + 1 = pc') (hn : Jvm.Free.Fl.NoNaN64 (FP.dadd x y)) (r : Wk C h k n I pc' Ls (.double (FP.dadd x y) :: rest)) : Wk C h k n I pc Ls (.double y :: .double x :: rest) := by
  subst hp
  exact Wk.step (fun _ _ _ _ _ _ _ ha hx hby kt => XS.daddS ha hx rfl (hb hby hd) rfl hn rfl kt) r
theorem Wk.dcmpl {x y : UInt64} (hd : decode C.b.code pc = .ok (.dcmp .l, 1)) (hp : pc + 1 = pc') (r : Wk C h k n I pc' Ls (.int (cmpValue (FP.dcmp x y) .l) :: rest)) : Wk C h k n I pc Ls (.double y :: .double x :: rest) := by
  subst hp
  exact Wk.step (fun _ _ _ _ _ _ _ ha hx hby kt => XS.dcmpS ha hx rfl (hb hby hd) rfl rfl kt) r
theorem Wk.iconst {i : Int} {v : Int32} (hd : decode C.b.code pc = .ok (.iconst i, 1)) (hp : pc + 1 = pc') (hv : Int32.ofInt i = v) (r : Wk C h k n I pc' Ls (.int v :: st)) : Wk C h k n I pc Ls st := by
  subst hp hv
  exact Wk.step (fun _ _ _ _ _ _ _ ha hx hby kt => XS.iconst ha hx rfl (hb hby hd) kt) r
theorem Wk.bipush {i : Int} {v : Int32} (hd : decode C.b.code pc = .ok (.bipush i, 2)) (hp : pc + 2 = pc') (hv : (Int8.ofInt i).toInt32 = v) (r : Wk C h k n I pc' Ls (.int v :: st)) : Wk C h k n I pc Ls st := by
  subst hp hv
  exact Wk.step (fun _ _ _ _ _ _ _ ha hx hby kt => XS.bipush ha hx rfl (hb hby hd) kt) r
theorem Wk.sipush {i : Int} {v : Int32} (hd : decode C.b.code pc = .ok (.sipush i, 3)) (hp : pc + 3 = pc') (hv : (Int16.ofInt i).toInt32 = v) (r : Wk C h k n I pc' Ls (.int v :: st)) : Wk C h k n I pc Ls st := by
  subst hp hv
  exact Wk.step (fun _ _ _ _ _ _ _ ha hx hby kt => XS.sipush ha hx rfl (hb hby hd) kt) r
theorem Wk.lconst {i : Fin 2} {v : Int64} (hd : decode C.b.code pc = .ok (.lconst i, 1)) (hp : pc + 1 = pc') (hv : Int64.ofNat i = v) (r : Wk C h k n I pc' Ls (.long v :: st)) : Wk C h k n I pc Ls st := by
  subst hp hv
  exact Wk.step (fun _ _ _ _ _ _ _ ha hx hby kt => XS.lconst ha hx rfl (hb hby hd) kt) r
theorem Wk.iinc {j : Nat} {i : Int} {v x : Int32} (hd : decode C.b.code pc = .ok (.iinc j i, 3)) (hp : pc + 3 = pc') (hv : Int32.ofInt i = v) (hl : Ls[j]? = some (.val (.int x))) (hl' : storeLocals Ls j (.int (x + v)) = some Ls') (r : Wk C h k n I pc' Ls' st) : Wk C h k n I pc Ls st := by
  subst hp hv
  exact Wk.step (fun _ _ _ _ _ _ _ ha hx hby kt => XS.iinc ha hx rfl (hb hby hd) hl hl' kt) r
theorem Wk.goto {o : Int} (hd : decode C.b.code pc = .ok (.goto o, 3)) (hp : (pc : Int) + o = (pc' : Int)) (r : Wk C h k n I pc' Ls st) : Wk C h k n I pc Ls st :=
  Wk.step (fun _ _ _ _ _ _ _ ha hx hby kt => XS.goto (pc0 := pc) (pc' := pc') ha hx rfl rfl (hb hby hd) (by omega) (by omega) kt) r
theorem Wk.irem {x y : Int32} (hd : decode C.b.code pc = .ok (.irem, 1)) (hp : pc + 1 = pc') (hy : y ≠ 0) (r : Wk C h k n I pc' Ls (.int (x % y) :: rest)) : Wk C h k n I pc Ls (.int y :: .int x :: rest) := by
  subst hp
  refine Wk.law (fun p e s vm0 m args below meth c T locs k0 S => ⟨T, S.2.2.2.1, S.2.2.2.2.1, fun t kt => ?_⟩) r
  exact iremM S.2.2.2.1 S.1.1 rfl (hb S.1.2.1 hd) rfl hy kt
theorem Wk.iloadN {j : Fin 4} {v : Int32} (hd : decode C.b.code pc = .ok (.iload_n j, 1)) (hp : pc + 1 = pc') (hl : Ls[j.val]? = some (.val (.int v))) (r : Wk C h k n I pc' Ls (.int v :: st)) : Wk C h k n I pc Ls st := by
  subst hp
  exact Wk.step (fun _ _ _ _ _ _ _ ha hx hby kt => XS.iloadN ha hx rfl (hb hby hd) hl kt) r
theorem Wk.iload {j : Nat} {v : Int32} (hd : decode C.b.code pc = .ok (.iload j, 2)) (hp : pc + 2 = pc') (hl : Ls[j]? = some (.val (.int v))) (r : Wk C h k n I pc' Ls (.int v :: st)) : Wk C h k n I pc Ls st := by
  subst hp
  exact Wk.step (fun _ _ _ _ _ _ _ ha hx hby kt => XS.iload ha hx rfl (hb hby hd) hl kt) r
theorem Wk.lloadN {j : Fin 4} {v : Int64} (hd : decode C.b.code pc = .ok (.lload_n j, 1)) (hp : pc + 1 = pc') (hl : Ls[j.val]? = some (.val (.long v))) (r : Wk C h k n I pc' Ls (.long v :: st)) : Wk C h k n I pc Ls st := by
  subst hp
  exact Wk.step (fun _ _ _ _ _ _ _ ha hx hby kt => XS.lloadN ha hx rfl (hb hby hd) hl kt) r
theorem Wk.lload {j : Nat} {v : Int64} (hd : decode C.b.code pc = .ok (.lload j, 2)) (hp : pc + 2 = pc') (hl : Ls[j]? = some (.val (.long v))) (r : Wk C h k n I pc' Ls (.long v :: st)) : Wk C h k n I pc Ls st := by
  subst hp
  exact Wk.step (fun _ _ _ _ _ _ _ ha hx hby kt => XS.lload ha hx rfl (hb hby hd) hl kt) r
theorem Wk.dloadN {j : Fin 4} {v : UInt64} (hd : decode C.b.code pc = .ok (.dload_n j, 1)) (hp : pc + 1 = pc') (hl : Ls[j.val]? = some (.val (.double v))) (r : Wk C h k n I pc' Ls (.double v :: st)) : Wk C h k n I pc Ls st := by
  subst hp
  exact Wk.step (fun _ _ _ _ _ _ _ ha hx hby kt => XS.dloadN ha hx rfl (hb hby hd) hl kt) r
theorem Wk.dload {j : Nat} {v : UInt64} (hd : decode C.b.code pc = .ok (.dload j, 2)) (hp : pc + 2 = pc') (hl : Ls[j]? = some (.val (.double v))) (r : Wk C h k n I pc' Ls (.double v :: st)) : Wk C h k n I pc Ls st := by
  subst hp
  exact Wk.step (fun _ _ _ _ _ _ _ ha hx hby kt => XS.dload ha hx rfl (hb hby hd) hl kt) r
theorem Wk.aloadN {j : Fin 4} {v : Value} (hd : decode C.b.code pc = .ok (.aload_n j, 1)) (hp : pc + 1 = pc') (hl : Ls[j.val]? = some (.val v)) (hv : v.isRef = true) (r : Wk C h k n I pc' Ls (v :: st)) : Wk C h k n I pc Ls st := by
  subst hp
  exact Wk.step (fun _ _ _ _ _ _ _ ha hx hby kt => XS.aloadN ha hx rfl (hb hby hd) hl hv kt) r
theorem Wk.aload {j : Nat} {v : Value} (hd : decode C.b.code pc = .ok (.aload j, 2)) (hp : pc + 2 = pc') (hl : Ls[j]? = some (.val v)) (hv : v.isRef = true) (r : Wk C h k n I pc' Ls (v :: st)) : Wk C h k n I pc Ls st := by
  subst hp
  exact Wk.step (fun _ _ _ _ _ _ _ ha hx hby kt => XS.aload ha hx rfl (hb hby hd) hl hv kt) r
theorem Wk.istoreN {j : Fin 4} {v : Int32} (Ls' : Array Slot) (hd : decode C.b.code pc = .ok (.istore_n j, 1)) (hp : pc + 1 = pc') (hl : storeLocals Ls j.val (.int v) = some Ls') (r : Wk C h k n I pc' Ls' st) : Wk C h k n I pc Ls (.int v :: st) := by
  subst hp
  exact Wk.step (fun _ _ _ _ _ _ _ ha hx hby kt => XS.istoreN ha hx rfl (hb hby hd) rfl hl kt) r
theorem Wk.istore {j : Nat} {v : Int32} (Ls' : Array Slot) (hd : decode C.b.code pc = .ok (.istore j, 2)) (hp : pc + 2 = pc') (hl : storeLocals Ls j (.int v) = some Ls') (r : Wk C h k n I pc' Ls' st) : Wk C h k n I pc Ls (.int v :: st) := by
  subst hp
  exact Wk.step (fun _ _ _ _ _ _ _ ha hx hby kt => XS.istore ha hx rfl (hb hby hd) rfl hl kt) r
theorem Wk.lstoreN {j : Fin 4} {v : Int64} (Ls' : Array Slot) (hd : decode C.b.code pc = .ok (.lstore_n j, 1)) (hp : pc + 1 = pc') (hl : storeLocals Ls j.val (.long v) = some Ls') (r : Wk C h k n I pc' Ls' st) : Wk C h k n I pc Ls (.long v :: st) := by
  subst hp
  exact Wk.step (fun _ _ _ _ _ _ _ ha hx hby kt => XS.lstoreN ha hx rfl (hb hby hd) rfl hl kt) r
theorem Wk.lstore {j : Nat} {v : Int64} (Ls' : Array Slot) (hd : decode C.b.code pc = .ok (.lstore j, 2)) (hp : pc + 2 = pc') (hl : storeLocals Ls j (.long v) = some Ls') (r : Wk C h k n I pc' Ls' st) : Wk C h k n I pc Ls (.long v :: st) := by
  subst hp
  exact Wk.step (fun _ _ _ _ _ _ _ ha hx hby kt => XS.lstore ha hx rfl (hb hby hd) rfl hl kt) r
theorem Wk.dstoreN {j : Fin 4} {v : UInt64} (Ls' : Array Slot) (hd : decode C.b.code pc = .ok (.dstore_n j, 1)) (hp : pc + 1 = pc') (hl : storeLocals Ls j.val (.double v) = some Ls') (r : Wk C h k n I pc' Ls' st) : Wk C h k n I pc Ls (.double v :: st) := by
  subst hp
  exact Wk.step (fun _ _ _ _ _ _ _ ha hx hby kt => XS.dstoreN ha hx rfl (hb hby hd) rfl hl kt) r
theorem Wk.dstore {j : Nat} {v : UInt64} (Ls' : Array Slot) (hd : decode C.b.code pc = .ok (.dstore j, 2)) (hp : pc + 2 = pc') (hl : storeLocals Ls j (.double v) = some Ls') (r : Wk C h k n I pc' Ls' st) : Wk C h k n I pc Ls (.double v :: st) := by
  subst hp
  exact Wk.step (fun _ _ _ _ _ _ _ ha hx hby kt => XS.dstore ha hx rfl (hb hby hd) rfl hl kt) r
theorem Wk.astoreN {j : Fin 4} {v : Value} (Ls' : Array Slot) (hd : decode C.b.code pc = .ok (.astore_n j, 1)) (hp : pc + 1 = pc') (hv : v.isRef = true) (hl : storeLocals Ls j.val v = some Ls') (r : Wk C h k n I pc' Ls' st) : Wk C h k n I pc Ls (v :: st) := by
  subst hp
  exact Wk.step (fun _ _ _ _ _ _ _ ha hx hby kt => XS.astoreN ha hx rfl (hb hby hd) rfl hv hl kt) r
theorem Wk.astore {j : Nat} {v : Value} (Ls' : Array Slot) (hd : decode C.b.code pc = .ok (.astore j, 2)) (hp : pc + 2 = pc') (hv : v.isRef = true) (hl : storeLocals Ls j v = some Ls') (r : Wk C h k n I pc' Ls' st) : Wk C h k n I pc Ls (v :: st) := by
  subst hp
  exact Wk.step (fun _ _ _ _ _ _ _ ha hx hby kt => XS.astore ha hx rfl (hb hby hd) rfl hv hl kt) r
theorem Wk.icmp_eqY {x y : Int32} {o : Int} (hd : decode C.b.code pc = .ok (.if_icmp .eq o, 3)) (hp : (pc : Int) + o = (pc' : Int)) (hc : x = y) (r : Wk C h k n I pc' Ls st) : Wk C h k n I pc Ls (.int y :: .int x :: st) :=
  Wk.step (fun _ _ _ _ _ _ _ ha hx hby kt => XS.icmpYes (pc0 := pc) (pc' := pc') ha hx rfl rfl (hb hby hd) rfl ((teq hc).1) (by omega) (by omega) kt) r
theorem Wk.if_eqY {x : Int32} {o : Int} (hd : decode C.b.code pc = .ok (.ifCond .eq o, 3)) (hp : (pc : Int) + o = (pc' : Int)) (hc : x = (0 : Int32)) (r : Wk C h k n I pc' Ls st) : Wk C h k n I pc Ls (.int x :: st) :=
  Wk.step (fun _ _ _ _ _ _ _ ha hx hby kt => XS.ifYes (pc0 := pc) (pc' := pc') ha hx rfl rfl (hb hby hd) rfl ((if0 _ _).trans (teq hc).1) (by omega) (by omega) kt) r
theorem Wk.icmp_eqN {x y : Int32} {o : Int} (hd : decode C.b.code pc = .ok (.if_icmp .eq o, 3)) (hp : pc + 3 = pc') (hc : ¬ x = y) (r : Wk C h k n I pc' Ls st) : Wk C h k n I pc Ls (.int y :: .int x :: st) := by
  subst hp
  exact Wk.step (fun _ _ _ _ _ _ _ ha hx hby kt => XS.icmpNo ha hx rfl (hb hby hd) rfl ((feq hc).1) kt) r
theorem Wk.if_eqN {x : Int32} {o : Int} (hd : decode C.b.code pc = .ok (.ifCond .eq o, 3)) (hp : pc + 3 = pc') (hc : ¬ x = (0 : Int32)) (r : Wk C h k n I pc' Ls st) : Wk C h k n I pc Ls (.int x :: st) := by
  subst hp
  exact Wk.step (fun _ _ _ _ _ _ _ ha hx hby kt => XS.ifNo ha hx rfl (hb hby hd) rfl ((if0 _ _).trans (feq hc).1) kt) r
theorem Wk.icmp_neY {x y : Int32} {o : Int} (hd : decode C.b.code pc = .ok (.if_icmp .ne o, 3)) (hp : (pc : Int) + o = (pc' : Int)) (hc : ¬ x = y) (r : Wk C h k n I pc' Ls st) : Wk C h k n I pc Ls (.int y :: .int x :: st) :=
  Wk.step (fun _ _ _ _ _ _ _ ha hx hby kt => XS.icmpYes (pc0 := pc) (pc' := pc') ha hx rfl rfl (hb hby hd) rfl ((feq hc).2) (by omega) (by omega) kt) r
theorem Wk.if_neY {x : Int32} {o : Int} (hd : decode C.b.code pc = .ok (.ifCond .ne o, 3)) (hp : (pc : Int) + o = (pc' : Int)) (hc : ¬ x = (0 : Int32)) (r : Wk C h k n I pc' Ls st) : Wk C h k n I pc Ls (.int x :: st) :=
  Wk.step (fun _ _ _ _ _ _ _ ha hx hby kt => XS.ifYes (pc0 := pc) (pc' := pc') ha hx rfl rfl (hb hby hd) rfl ((if0 _ _).trans (feq hc).2) (by omega) (by omega) kt) r
theorem Wk.icmp_neN {x y : Int32} {o : Int} (hd : decode C.b.code pc = .ok (.if_icmp .ne o, 3)) (hp : pc + 3 = pc') (hc : x = y) (r : Wk C h k n I pc' Ls st) : Wk C h k n I pc Ls (.int y :: .int x :: st) := by
  subst hp
  exact Wk.step (fun _ _ _ _ _ _ _ ha hx hby kt => XS.icmpNo ha hx rfl (hb hby hd) rfl ((teq hc).2) kt) r
theorem Wk.if_neN {x : Int32} {o : Int} (hd : decode C.b.code pc = .ok (.ifCond .ne o, 3)) (hp : pc + 3 = pc') (hc : x = (0 : Int32)) (r : Wk C h k n I pc' Ls st) : Wk C h k n I pc Ls (.int x :: st) := by
  subst hp
  exact Wk.step (fun _ _ _ _ _ _ _ ha hx hby kt => XS.ifNo ha hx rfl (hb hby hd) rfl ((if0 _ _).trans (teq hc).2) kt) r
theorem Wk.icmp_ltY {x y : Int32} {o : Int} (hd : decode C.b.code pc = .ok (.if_icmp .lt o, 3)) (hp : (pc : Int) + o = (pc' : Int)) (hc : x < y) (r : Wk C h k n I pc' Ls st) : Wk C h k n I pc Ls (.int y :: .int x :: st) :=
  Wk.step (fun _ _ _ _ _ _ _ ha hx hby kt => XS.icmpYes (pc0 := pc) (pc' := pc') ha hx rfl rfl (hb hby hd) rfl ((tlt hc).1) (by omega) (by omega) kt) r
theorem Wk.if_ltY {x : Int32} {o : Int} (hd : decode C.b.code pc = .ok (.ifCond .lt o, 3)) (hp : (pc : Int) + o = (pc' : Int)) (hc : x < (0 : Int32)) (r : Wk C h k n I pc' Ls st) : Wk C h k n I pc Ls (.int x :: st) :=
  Wk.step (fun _ _ _ _ _ _ _ ha hx hby kt => XS.ifYes (pc0 := pc) (pc' := pc') ha hx rfl rfl (hb hby hd) rfl ((if0 _ _).trans (tlt hc).1) (by omega) (by omega) kt) r
theorem Wk.icmp_ltN {x y : Int32} {o : Int} (hd : decode C.b.code pc = .ok (.if_icmp .lt o, 3)) (hp : pc + 3 = pc') (hc : ¬ x < y) (r : Wk C h k n I pc' Ls st) : Wk C h k n I pc Ls (.int y :: .int x :: st) := by
  subst hp
  exact Wk.step (fun _ _ _ _ _ _ _ ha hx hby kt => XS.icmpNo ha hx rfl (hb hby hd) rfl ((flt hc).1) kt) r
theorem Wk.if_ltN {x : Int32} {o : Int} (hd : decode C.b.code pc = .ok (.ifCond .lt o, 3)) (hp : pc + 3 = pc') (hc : ¬ x < (0 : Int32)) (r : Wk C h k n I pc' Ls st) : Wk C h k n I pc Ls (.int x :: st) := by
  subst hp
  exact Wk.step (fun _ _ _ _ _ _ _ ha hx hby kt => XS.ifNo ha hx rfl (hb hby hd) rfl ((if0 _ _).trans (flt hc).1) kt) r
theorem Wk.icmp_geY {x y : Int32} {o : Int} (hd : decode C.b.code pc = .ok (.if_icmp .ge o, 3)) (hp : (pc : Int) + o = (pc' : Int)) (hc : ¬ x < y) (r : Wk C h k n I pc' Ls st) : Wk C h k n I pc Ls (.int y :: .int x :: st) :=
  Wk.step (fun _ _ _ _ _ _ _ ha hx hby kt => XS.icmpYes (pc0 := pc) (pc' := pc') ha hx rfl rfl (hb hby hd) rfl ((flt hc).2.1) (by omega) (by omega) kt) r
theorem Wk.if_geY {x : Int32} {o : Int} (hd : decode C.b.code pc = .ok (.ifCond .ge o, 3)) (hp : (pc : Int) + o = (pc' : Int)) (hc : ¬ x < (0 : Int32)) (r : Wk C h k n I pc' Ls st) : Wk C h k n I pc Ls (.int x :: st) :=
  Wk.step (fun _ _ _ _ _ _ _ ha hx hby kt => XS.ifYes (pc0 := pc) (pc' := pc') ha hx rfl rfl (hb hby hd) rfl ((if0 _ _).trans (flt hc).2.1) (by omega) (by omega) kt) r
theorem Wk.icmp_geN {x y : Int32} {o : Int} (hd : decode C.b.code pc = .ok (.if_icmp .ge o, 3)) (hp : pc + 3 = pc') (hc : x < y) (r : Wk C h k n I pc' Ls st) : Wk C h k n I pc Ls (.int y :: .int x :: st) := by
  subst hp
  exact Wk.step (fun _ _ _ _ _ _ _ ha hx hby kt => XS.icmpNo ha hx rfl (hb hby hd) rfl ((tlt hc).2.1) kt) r
theorem Wk.if_geN {x : Int32} {o : Int} (hd : decode C.b.code pc = .ok (.ifCond .ge o, 3)) (hp : pc + 3 = pc') (hc : x < (0 : Int32)) (r : Wk C h k n I pc' Ls st) : Wk C h k n I pc Ls (.int x :: st) := by
  subst hp
  exact Wk.step (fun _ _ _ _ _ _ _ ha hx hby kt => XS.ifNo ha hx rfl (hb hby hd) rfl ((if0 _ _).trans (tlt hc).2.1) kt) r
theorem Wk.icmp_gtY {x y : Int32} {o : Int} (hd : decode C.b.code pc = .ok (.if_icmp .gt o, 3)) (hp : (pc : Int) + o = (pc' : Int)) (hc : y < x) (r : Wk C h k n I pc' Ls st) : Wk C h k n I pc Ls (.int y :: .int x :: st) :=
  Wk.step (fun _ _ _ _ _ _ _ ha hx hby kt => XS.icmpYes (pc0 := pc) (pc' := pc') ha hx rfl rfl (hb hby hd) rfl ((tlt hc).2.2.1) (by omega) (by omega) kt) r
theorem Wk.if_gtY {x : Int32} {o : Int} (hd : decode C.b.code pc = .ok (.ifCond .gt o, 3)) (hp : (pc : Int) + o = (pc' : Int)) (hc : (0 : Int32) < x) (r : Wk C h k n I pc' Ls st) : Wk C h k n I pc Ls (.int x :: st) :=
  Wk.step (fun _ _ _ _ _ _ _ ha hx hby kt => XS.ifYes (pc0 := pc) (pc' := pc') ha hx rfl rfl (hb hby hd) rfl ((if0 _ _).trans (tlt hc).2.2.1) (by omega) (by omega) kt) r
theorem Wk.icmp_gtN {x y : Int32} {o : Int} (hd : decode C.b.code pc = .ok (.if_icmp .gt o, 3)) (hp : pc + 3 = pc') (hc : ¬ y < x) (r : Wk C h k n I pc' Ls st) : Wk C h k n I pc Ls (.int y :: .int x :: st) := by
  subst hp
  exact Wk.step (fun _ _ _ _ _ _ _ ha hx hby kt => XS.icmpNo ha hx rfl (hb hby hd) rfl ((flt hc).2.2.1) kt) r
theorem Wk.if_gtN {x : Int32} {o : Int} (hd : decode C.b.code pc = .ok (.ifCond .gt o, 3)) (hp : pc + 3 = pc') (hc : ¬ (0 : Int32) < x) (r : Wk C h k n I pc' Ls st) : Wk C h k n I pc Ls (.int x :: st) := by
  subst hp
  exact Wk.step (fun _ _ _ _ _ _ _ ha hx hby kt => XS.ifNo ha hx rfl (hb hby hd) rfl ((if0 _ _).trans (flt hc).2.2.1) kt) r
theorem Wk.icmp_leY {x y : Int32} {o : Int} (hd : decode C.b.code pc = .ok (.if_icmp .le o, 3)) (hp : (pc : Int) + o = (pc' : Int)) (hc : ¬ y < x) (r : Wk C h k n I pc' Ls st) : Wk C h k n I pc Ls (.int y :: .int x :: st) :=
  Wk.step (fun _ _ _ _ _ _ _ ha hx hby kt => XS.icmpYes (pc0 := pc) (pc' := pc') ha hx rfl rfl (hb hby hd) rfl ((flt hc).2.2.2) (by omega) (by omega) kt) r
theorem Wk.if_leY {x : Int32} {o : Int} (hd : decode C.b.code pc = .ok (.ifCond .le o, 3)) (hp : (pc : Int) + o = (pc' : Int)) (hc : ¬ (0 : Int32) < x) (r : Wk C h k n I pc' Ls st) : Wk C h k n I pc Ls (.int x :: st) :=
  Wk.step (fun _ _ _ _ _ _ _ ha hx hby kt => XS.ifYes (pc0 := pc) (pc' := pc') ha hx rfl rfl (hb hby hd) rfl ((if0 _ _).trans (flt hc).2.2.2) (by omega) (by omega) kt) r
theorem Wk.icmp_leN {x y : Int32} {o : Int} (hd : decode C.b.code pc = .ok (.if_icmp .le o, 3)) (hp : pc + 3 = pc') (hc : y < x) (r : Wk C h k n I pc' Ls st) : Wk C h k n I pc Ls (.int y :: .int x :: st) := by
  subst hp
  exact Wk.step (fun _ _ _ _ _ _ _ ha hx hby kt => XS.icmpNo ha hx rfl (hb hby hd) rfl ((tlt hc).2.2.2) kt) r
theorem Wk.if_leN {x : Int32} {o : Int} (hd : decode C.b.code pc = .ok (.ifCond .le o, 3)) (hp : pc + 3 = pc') (hc : (0 : Int32) < x) (r : Wk C h k n I pc' Ls st) : Wk C h k n I pc Ls (.int x :: st) := by
  subst hp
  exact Wk.step (fun _ _ _ _ _ _ _ ha hx hby kt => XS.ifNo ha hx rfl (hb hby hd) rfl ((if0 _ _).trans (tlt hc).2.2.2) kt) r
theorem Wk.ifnullY {o : Int} (hd : decode C.b.code pc = .ok (.ifnull o, 3)) (hp : (pc : Int) + o = (pc' : Int)) (r : Wk C h k n I pc' Ls st) : Wk C h k n I pc Ls (.null :: st) :=
  Wk.step (fun _ _ _ _ _ _ _ ha hx hby kt => XS.ifnullYes (pc0 := pc) (pc' := pc') ha hx rfl rfl (hb hby hd) rfl (by omega) (by omega) kt) r
theorem Wk.ifnullN {o : Int} {a : Addr} (hd : decode C.b.code pc = .ok (.ifnull o, 3)) (hp : pc + 3 = pc') (r : Wk C h k n I pc' Ls st) : Wk C h k n I pc Ls (.ref a :: st) := by
  subst hp
  exact Wk.step (fun _ _ _ _ _ _ _ ha hx hby kt => XS.ifnullNo ha hx rfl (hb hby hd) rfl kt) r
theorem Wk.ifnonnullY {o : Int} {a : Addr} (hd : decode C.b.code pc = .ok (.ifnonnull o, 3)) (hp : (pc : Int) + o = (pc' : Int)) (r : Wk C h k n I pc' Ls st) : Wk C h k n I pc Ls (.ref a :: st) :=
  Wk.step (fun _ _ _ _ _ _ _ ha hx hby kt => XS.ifnonnullYes (pc0 := pc) (pc' := pc') ha hx rfl rfl (hb hby hd) rfl (by omega) (by omega) kt) r
theorem Wk.ifnonnullN {o : Int} (hd : decode C.b.code pc = .ok (.ifnonnull o, 3)) (hp : pc + 3 = pc') (r : Wk C h k n I pc' Ls st) : Wk C h k n I pc Ls (.null :: st) := by
  subst hp
  exact Wk.step (fun _ _ _ _ _ _ _ ha hx hby kt => XS.ifnonnullNo ha hx rfl (hb hby hd) rfl kt) r
theorem Wk.acmp {cd : ACond} {o : Int} {u v : Value} {same : Bool} (hd : decode C.b.code pc = .ok (.if_acmp cd o, 3)) (hu : u.isRef = true) (hv : v.isRef = true) (hq : decide (u = v) = same) (ho : 0 ≤ (pc : Int) + o) (hp : pc' = if acV cd same = true then ((pc : Int) + o).toNat else pc + 3) (r : Wk C h k n I pc' Ls st) : Wk C h k n I pc Ls (v :: u :: st) :=
  Wk.law (fun p e s vm0 m args below meth c T locs k0 S => ⟨T, S.2.2.2.1, S.2.2.2.2.1, fun t kt => Jvm.RoadKit.acmp (g := mkF m pc Ls (v :: u :: st)) S.2.2.2.1 S.1.1 rfl hu hv (pc0 := pc) (pc' := pc') rfl (hb S.1.2.1 hd) rfl hq ho hp kt⟩) r
theorem Wk.getF {R0 O f d host : String} {idx : Nat} {a : Addr} {v : Value} (w : (Jvm.Cond.fieldLink C.b.y.cls idx R0 f d).before a0 C.Z = true ∨ (Jvm.Cond.fieldLinkNest C.b.y.cls idx R0 f d host).before a0 C.Z = true) (via : Via C.Z R0 O f d) (F : Fld C.Z h a O f d v) (hd : decode C.b.code pc = .ok (.getfield idx, 3)) (hp : pc + 3 = pc') (r : Wk C h k n I pc' Ls (v :: st)) : Wk C h k n I pc Ls (.ref a :: st) := by
  subst hp
  exact Wk.law (fun p e s vm0 m args below meth c T locs k0 S => Jvm.RoadKit.getF (g := mkF m pc Ls (.ref a :: st)) S.2.2.2.1 S.1.1 S.2.1.2.1 S.2.1.1 w via S.2.2.2.2.1 F rfl rfl (hb S.1.2.1 hd)) r
theorem Wk.getS {R0 O f d host : String} {idx : Nat} {v : Value} (w : (Jvm.Cond.fieldLink C.b.y.cls idx R0 f d).before a0 C.Z = true ∨ (Jvm.Cond.fieldLinkNest C.b.y.cls idx R0 f d host).before a0 C.Z = true) (via : Via C.Z R0 O f d) (F : Sta C.Z C.Z.heap O f d v) (hd : decode C.b.code pc = .ok (.getstatic idx, 3)) (hp : pc + 3 = pc') (r : Wk C h k n I pc' Ls (v :: st)) : Wk C h k n I pc Ls st := by
  subst hp
  exact Wk.law (fun p e s vm0 m args below meth c T locs k0 S => getS2 (g := mkF m pc Ls st) S.2.2.2.1 S.1.1 S.2.1.2.1 S.2.1.1 w via S.2.2.2.2.1 (F.ext S.2.2.2.2.2.1) rfl (hb S.1.2.1 hd)) r
theorem Wk.putF {R0 O f d host K : String} {idx kk : Nat} {a : Addr} {v old : Value} {ty : FieldType} (w : (Jvm.Cond.fieldLink C.b.y.cls idx R0 f d).before a0 C.Z = true ∨ (Jvm.Cond.fieldLinkNest C.b.y.cls idx R0 f d host).before a0 C.Z = true) (via : Via C.Z R0 O f d) (ha : C.N ≤ a) (F : Fld C.Z h a O f d old) (E : Exa C.Z h a K)
    (L : (Jvm.Cond.lays K O f d).before a0 C.Z = true ∨ ((Jvm.Cond.laysFinal K O f d).before a0 C.Z = true ∧ C.b.y.cls = O ∧ C.b.y.name = "<init>")) (wi : (Jvm.Cond.instantiable K kk).before a0 C.Z = true) (hty : parseFieldDescriptor d = some ty) (hn : narrow ty v = v) (hf : fits ty v = true) (hd : decode C.b.code pc = .ok (.putfield idx, 3)) (hp : pc + 3 = pc')
    (r : ∀ h', Wr h h' a (Jvm.RoadKit.slotOf C.Z O f d) v → Wk C h' k n I pc' Ls st) : Wk C h k n I pc Ls (v :: .ref a :: st) := by
  subst hp
  exact Wk.lawW ha (fun p e s vm0 m args below meth c T locs k0 S => Jvm.RoadKit.putF (g := mkF m pc Ls (v :: .ref a :: st)) S.2.2.2.1 S.1.1 S.2.1.2.1 S.2.1.1 w via S.2.2.2.2.1 F E (L.imp id fun q => ⟨q.1, q.2.1, S.1.2.2.2.2.2.1.trans q.2.2⟩) wi hty hn hf rfl rfl (hb S.1.2.1 hd)) r
theorem Wk.putFN {R0 O f d K : String} {idx kk : Nat} {a : Addr} {v v' old : Value} {ty : FieldType} (w : (Jvm.Cond.fieldLink C.b.y.cls idx R0 f d).before a0 C.Z = true) (via : Via C.Z R0 O f d) (ha : C.N ≤ a) (F : Fld C.Z h a O f d old) (E : Exa C.Z h a K)
    (L : (Jvm.Cond.lays K O f d).before a0 C.Z = true ∨ ((Jvm.Cond.laysFinal K O f d).before a0 C.Z = true ∧ C.b.y.cls = O ∧ C.b.y.name = "<init>")) (wi : (Jvm.Cond.instantiable K kk).before a0 C.Z = true) (hty : parseFieldDescriptor d = some ty) (hn : narrow ty v = v') (hf : fits ty v' = true) (hd : decode C.b.code pc = .ok (.putfield idx, 3)) (hp : pc + 3 = pc')
    (r : ∀ h', Wr h h' a (Jvm.RoadKit.slotOf C.Z O f d) v' → Wk C h' k n I pc' Ls st) : Wk C h k n I pc Ls (v :: .ref a :: st) := by
  subst hp
  exact Wk.lawW ha (fun p e s vm0 m args below meth c T locs k0 S => Jvm.RoadKit.putFN (g := mkF m pc Ls (v :: .ref a :: st)) S.2.2.2.1 S.1.1 S.2.1.2.1 S.2.1.1 w via S.2.2.2.2.1 F E (L.imp id fun q => ⟨q.1, q.2.1, S.1.2.2.2.2.2.1.trans q.2.2⟩) wi hty hn hf rfl rfl (hb S.1.2.1 hd)) r
theorem Wk.newO {K : String} {idx j : Nat} (w : (Jvm.Cond.classLink C.b.y.cls idx K).before a0 C.Z = true) (wi : (Jvm.Cond.instantiable K j).before a0 C.Z = true) (wz : (Jvm.Cond.initialized K).before a0 C.Z = true) (hd : decode C.b.code pc = .ok (.new idx, 3)) (hp : pc + 3 = pc') (hk : k + 1 = k') (hn : n + j = n') (hc : k' ≤ C.b.room.cells) (hl : n' ≤ C.b.room.slots)
    (r : ∀ a h', h.size ≤ a → C.N ≤ a → Ext h h' → Exa C.Z h' a K → (∀ {O nm d : String} {ty : FieldType}, Laid C.Z a0 K O nm d → parseFieldDescriptor d = some ty → Fld C.Z h' a O nm d (defaultValue ty)) → Wk C h' k' n' I pc' Ls (.ref a :: st)) : Wk C h k n I pc Ls st := by
  subst hp hk hn
  refine Wk.see fun _ z2 _ => ?_
  refine Wk.lawE (P := fun h' => Exa C.Z h' h.size K ∧ ∀ {O nm d : String} {ty : FieldType}, Laid C.Z a0 K O nm d → parseFieldDescriptor d = some ty → Fld C.Z h' h.size O nm d (defaultValue ty)) (fun p e s vm0 m args below meth c T locs k0 S => ?_) (fun h' E q => r h.size h' (Nat.le_refl _) z2 E q.1 q.2)
  obtain ⟨T', h', X', e', E, A, D, -, st⟩ := Jvm.RoadKit.newO (g := mkF m pc Ls st) S.2.2.2.1 S.1.1 S.2.1.2.1 S.2.1.1 w wi wz S.2.2.2.2.1 rfl (hb S.1.2.1 hd) hc hl
  exact ⟨T', h', X', e', E, ⟨A, D⟩, st⟩
theorem Wk.initO {idx W : Nat} {a : Addr} (w1 : (Jvm.Cond.methodLink C.b.y.cls idx Lib.objectInit).before a0 C.Z = true) (w2 : (Jvm.Cond.instanceMethod Lib.objectInit).before a0 C.Z = true) (w3 : (Jvm.Cond.code Lib.objectInit ⟨#[0xb1]⟩ 1 none).before a0 C.Z = true) (hsz : Ls.size = C.b.maxL) (hd : decode C.b.code pc = .ok (.invokespecial idx, 3)) (hp : pc + 3 = pc') (hf : 1 ≤ C.b.room.frames) (hW : (st.map fun v => v.category).sum ≤ W) (hl : W + 12 ≤ C.b.room.locals)
    (r : Wk C h k n I pc' Ls st) : Wk C h k n I pc Ls (.ref a :: st) := by
  subst hp
  exact Wk.law (fun p e s vm0 m args below meth c T locs k0 S => Jvm.RoadKit.initO (g := mkF m pc Ls (.ref a :: st)) S.2.2.2.1 S.1.1 S.2.1.2.1 S.2.1.1 w1 w2 w3 S.2.2.2.2.1 rfl (hsz.trans S.1.2.2.1.symm) rfl (hb S.1.2.1 hd) hf (W := W) (by show 2 * 0 + _ ≤ _; omega) hl) r
theorem Wk.newP {aty : ArrayType} {z : Int32} {cap : Nat} (w : (Jvm.Cond.arrayClass (newarray.typeOf aty)).before a0 C.Z = true) (hd : decode C.b.code pc = .ok (.newarray aty, 2)) (hp : pc + 2 = pc') (hz : ¬ z < 0) (hcap : z.toNatClampNeg ≤ cap) (hbg : cap * 8 ≤ 536870912) (hk : k + 1 = k') (hn : n + cap = n') (hc : k' ≤ C.b.room.cells) (hl : n' ≤ C.b.room.slots)
    (r : ∀ a h' q, h.size ≤ a → C.N ≤ a → Ext h h' → Arv C.Z h' a q (newarray.typeOf aty) z [] (defaultValue (newarray.typeOf aty)) → Wk C h' k' n' I pc' Ls (.ref a :: st)) : Wk C h k n I pc Ls (.int z :: st) := by
  subst hp hk hn
  refine Wk.see fun _ z2 _ => ?_
  refine Wk.lawE (P := fun h' => ∃ q, Arv C.Z h' h.size q (newarray.typeOf aty) z [] (defaultValue (newarray.typeOf aty))) (fun p e s vm0 m args below meth c T locs k0 S => ?_) (fun h' E ⟨q, A⟩ => r h.size h' q (Nat.le_refl _) z2 E A)
  obtain ⟨T', h', cA, X', e', E, A, st⟩ := Jvm.RoadKit.newP (g := mkF m pc Ls (.int z :: st)) S.2.2.2.1 S.1.1 S.2.1.2.1 w S.2.2.2.2.1 rfl (hb S.1.2.1 hd) rfl hz hcap hbg hc hl
  exact ⟨T', h', X', e', E, ⟨cA, Arv.new A hz⟩, st⟩
theorem Wk.newR {K : String} {idx : Nat} {z : Int32} {cap : Nat} (w1 : (Jvm.Cond.classLink C.b.y.cls idx K).before a0 C.Z = true) (w2 : (Jvm.Cond.arrayOver (.object K)).before a0 C.Z = true) (hd : decode C.b.code pc = .ok (.anewarray idx, 3)) (hp : pc + 3 = pc') (hz : ¬ z < 0) (hcap : z.toNatClampNeg ≤ cap) (hbg : cap * 8 ≤ 536870912) (hk : k + 1 = k') (hn : n + cap = n') (hc : k' ≤ C.b.room.cells) (hl : n' ≤ C.b.room.slots) {ad : String} (had : "[" ++ (FieldType.object K).toString = ad)
    (r : ∀ a h' q, h.size ≤ a → C.N ≤ a → Ext h h' → Arv C.Z h' a q (.object K) z [] .null → Exa C.Z h' a ad → Ovr C.Z q K → Wk C h' k' n' I pc' Ls (.ref a :: st)) : Wk C h k n I pc Ls (.int z :: st) := by
  subst hp hk hn
  refine Wk.see fun _ z2 _ => ?_
  refine Wk.lawE (P := fun h' => ∃ q, Arv C.Z h' h.size q (.object K) z [] .null ∧ Exa C.Z h' h.size ad ∧ Ovr C.Z q K) (fun p e s vm0 m args below meth c T locs k0 S => ?_) (fun h' E ⟨q, A, B, D⟩ => r h.size h' q (Nat.le_refl _) z2 E A B D)
  obtain ⟨T', h', cA, X', e', E, A, B, D, st⟩ := newRE (g := mkF m pc Ls (.int z :: st)) S.2.2.2.1 S.1.1 S.2.1.2.1 S.2.1.1 w1 w2 S.2.2.2.2.1 rfl (hb S.1.2.1 hd) rfl hz hcap hbg hc hl had
  exact ⟨T', h', X', e', E, ⟨cA, Arv.new A hz, B, D⟩, st⟩
theorem Wk.arraylength {a : Addr} {q : ClassId} {ty : FieldType} {z : Int32} {vs : List Value} {dv : Value} (V : Arv C.Z h a q ty z vs dv) (hd : decode C.b.code pc = .ok (.arraylength, 1)) (hp : pc + 1 = pc') (r : Wk C h k n I pc' Ls (.int z :: st)) : Wk C h k n I pc Ls (.ref a :: st) := by
  subst hp
  obtain ⟨c, A, q1, q2, q3, q4, q5⟩ := V
  refine Wk.law (fun p e s vm0 m args below meth cc T locs k0 S => ⟨T, S.2.2.2.1, S.2.2.2.2.1, fun t kt => ?_⟩) r
  refine S.2.2.2.1.arraylength (g := mkF m pc Ls (.ref a :: st)) S.1.1 (by rw [S.2.2.2.2.1]; exact A.1) (State.isArrayOf_alike S.2.1.2.1.alike A.2.1) rfl rfl (hb S.1.2.1 hd) t ?_
  rw [len_of q2 q3]
  exact kt
theorem Wk.iaload {a : Addr} {q : ClassId} {z j : Int32} {vs : List Value} {dv v : Value} (V : Arv C.Z h a q .int z vs dv) (hj : ¬ j < 0 ∧ j < z) (hv : vs.getD j.toNatClampNeg dv = v) (hd : decode C.b.code pc = .ok (.iaload, 1)) (hp : pc + 1 = pc') (r : Wk C h k n I pc' Ls (v :: st)) : Wk C h k n I pc Ls (.int j :: .ref a :: st) := by
  subst hp
  obtain ⟨c, A, q1, q2, q3, q4, q5⟩ := V
  have hin := inb_of q2 hj
  refine Wk.law (fun p e s vm0 m args below meth cc T locs k0 S => ⟨T, S.2.2.2.1, S.2.2.2.2.1, fun t kt => ?_⟩) r
  exact S.2.2.2.1.iaload (g := mkF m pc Ls (.int j :: .ref a :: st)) S.1.1 (by rw [S.2.2.2.2.1]; exact A.1) (State.isArrayOf_alike S.2.1.2.1.alike A.2.1) A.2.2 hin (q4.at hin hv) rfl rfl (hb S.1.2.1 hd) t kt
theorem Wk.laload {a : Addr} {q : ClassId} {z j : Int32} {vs : List Value} {dv v : Value} (V : Arv C.Z h a q .long z vs dv) (hj : ¬ j < 0 ∧ j < z) (hv : vs.getD j.toNatClampNeg dv = v) (hd : decode C.b.code pc = .ok (.laload, 1)) (hp : pc + 1 = pc') (r : Wk C h k n I pc' Ls (v :: st)) : Wk C h k n I pc Ls (.int j :: .ref a :: st) := by
  subst hp
  obtain ⟨c, A, q1, q2, q3, q4, q5⟩ := V
  have hin := inb_of q2 hj
  refine Wk.law (fun p e s vm0 m args below meth cc T locs k0 S => ⟨T, S.2.2.2.1, S.2.2.2.2.1, fun t kt => ?_⟩) r
  exact S.2.2.2.1.laload (g := mkF m pc Ls (.int j :: .ref a :: st)) S.1.1 (by rw [S.2.2.2.2.1]; exact A.1) (State.isArrayOf_alike S.2.1.2.1.alike A.2.1) A.2.2 hin (q4.at hin hv) rfl rfl (hb S.1.2.1 hd) t kt
theorem Wk.caload {a : Addr} {q : ClassId} {z j : Int32} {vs : List Value} {dv v : Value} (V : Arv C.Z h a q .char z vs dv) (hj : ¬ j < 0 ∧ j < z) (hv : vs.getD j.toNatClampNeg dv = v) (hd : decode C.b.code pc = .ok (.caload, 1)) (hp : pc + 1 = pc') (r : Wk C h k n I pc' Ls (v :: st)) : Wk C h k n I pc Ls (.int j :: .ref a :: st) := by
  subst hp
  obtain ⟨c, A, q1, q2, q3, q4, q5⟩ := V
  have hin := inb_of q2 hj
  refine Wk.law (fun p e s vm0 m args below meth cc T locs k0 S => ⟨T, S.2.2.2.1, S.2.2.2.2.1, fun t kt => ?_⟩) r
  exact S.2.2.2.1.caload (g := mkF m pc Ls (.int j :: .ref a :: st)) S.1.1 (by rw [S.2.2.2.2.1]; exact A.1) (State.isArrayOf_alike S.2.1.2.1.alike A.2.1) A.2.2 hin (q4.at hin hv) rfl rfl (hb S.1.2.1 hd) t kt
theorem Wk.baload {a : Addr} {q : ClassId} {z j : Int32} {vs : List Value} {dv v : Value} (V : Arv C.Z h a q .byte z vs dv) (hj : ¬ j < 0 ∧ j < z) (hv : vs.getD j.toNatClampNeg dv = v) (hd : decode C.b.code pc = .ok (.baload, 1)) (hp : pc + 1 = pc') (r : Wk C h k n I pc' Ls (v :: st)) : Wk C h k n I pc Ls (.int j :: .ref a :: st) := by
  subst hp
  obtain ⟨c, A, q1, q2, q3, q4, q5⟩ := V
  have hin := inb_of q2 hj
  refine Wk.law (fun p e s vm0 m args below meth cc T locs k0 S => ⟨T, S.2.2.2.1, S.2.2.2.2.1, fun t kt => ?_⟩) r
  exact S.2.2.2.1.baloadBytes (g := mkF m pc Ls (.int j :: .ref a :: st)) S.1.1 (by rw [S.2.2.2.2.1]; exact A.1) (State.isArrayOf_alike S.2.1.2.1.alike A.2.1) A.2.2 hin (q4.at hin hv) rfl rfl (hb S.1.2.1 hd) t kt
theorem Wk.zaload {a : Addr} {q : ClassId} {z j : Int32} {vs : List Value} {dv v : Value} (V : Arv C.Z h a q .boolean z vs dv) (hj : ¬ j < 0 ∧ j < z) (hv : vs.getD j.toNatClampNeg dv = v) (hd : decode C.b.code pc = .ok (.baload, 1)) (hp : pc + 1 = pc') (r : Wk C h k n I pc' Ls (v :: st)) : Wk C h k n I pc Ls (.int j :: .ref a :: st) := by
  subst hp
  obtain ⟨c, A, q1, q2, q3, q4, q5⟩ := V
  have hin := inb_of q2 hj
  refine Wk.law (fun p e s vm0 m args below meth cc T locs k0 S => ⟨T, S.2.2.2.1, S.2.2.2.2.1, fun t kt => ?_⟩) r
  exact S.2.2.2.1.baloadBooleans (g := mkF m pc Ls (.int j :: .ref a :: st)) S.1.1 (by rw [S.2.2.2.2.1]; exact A.1) (State.isArrayOf_alike S.2.1.2.1.alike A.2.1) A.2.2 hin (q4.at hin hv) rfl rfl (hb S.1.2.1 hd) t kt
theorem Wk.aaload {a : Addr} {q : ClassId} {ty : FieldType} {z j : Int32} {vs : List Value} {dv v : Value} (V : Arv C.Z h a q ty z vs dv) (hty : ty.isReference = true) (hj : ¬ j < 0 ∧ j < z) (hv : vs.getD j.toNatClampNeg dv = v) (hd : decode C.b.code pc = .ok (.aaload, 1)) (hp : pc + 1 = pc') (r : Wk C h k n I pc' Ls (v :: st)) : Wk C h k n I pc Ls (.int j :: .ref a :: st) := by
  subst hp
  obtain ⟨c, A, q1, q2, q3, q4, q5⟩ := V
  have hin := inb_of q2 hj
  refine Wk.law (fun p e s vm0 m args below meth cc T locs k0 S => ⟨T, S.2.2.2.1, S.2.2.2.2.1, fun t kt => ?_⟩) r
  exact S.2.2.2.1.aaload (g := mkF m pc Ls (.int j :: .ref a :: st)) S.1.1 (by rw [S.2.2.2.2.1]; exact A.1) (State.isArrayOf_alike S.2.1.2.1.alike A.2.1) hty A.2.2 hin (q4.at hin hv) rfl rfl (hb S.1.2.1 hd) t kt
theorem Wk.iastore {a : Addr} {q : ClassId} {z j : Int32} {x : Int32} {vs : List Value} {dv : Value} (V : Arv C.Z h a q .int z vs dv) (ha : C.N ≤ a) (hj : ¬ j < 0 ∧ j < z) (i : Nat) (hi : j.toNatClampNeg = i) (hlt : i < vs.length) (hd : decode C.b.code pc = .ok (.iastore, 1)) (hp : pc + 1 = pc')
    (r : ∀ h', Wr h h' a j.toNatClampNeg (.int x) → Arv C.Z h' a q .int z (vs.set i (.int x)) dv → Wk C h' k n I pc' Ls st) : Wk C h k n I pc Ls (.int x :: .int j :: .ref a :: st) := by
  subst hp
  obtain ⟨c, A, q1, q2, q3, q4, q5⟩ := V
  have hin := inb_of q2 hj
  exact Wk.lawW ha (fun p e s vm0 m args below meth cc T locs k0 S => stI (g := mkF m pc Ls (.int x :: .int j :: .ref a :: st)) S.2.2.2.1 S.1.1 S.2.1.2.1 S.2.2.2.2.1 A hin rfl rfl (hb S.1.2.1 hd)) (fun h' W => r h' W (Arv.set A q1 q2 q3 q4 q5 (rfl) W i hi hlt))
theorem Wk.lastore {a : Addr} {q : ClassId} {z j : Int32} {x : Int64} {vs : List Value} {dv : Value} (V : Arv C.Z h a q .long z vs dv) (ha : C.N ≤ a) (hj : ¬ j < 0 ∧ j < z) (i : Nat) (hi : j.toNatClampNeg = i) (hlt : i < vs.length) (hd : decode C.b.code pc = .ok (.lastore, 1)) (hp : pc + 1 = pc')
    (r : ∀ h', Wr h h' a j.toNatClampNeg (.long x) → Arv C.Z h' a q .long z (vs.set i (.long x)) dv → Wk C h' k n I pc' Ls st) : Wk C h k n I pc Ls (.long x :: .int j :: .ref a :: st) := by
  subst hp
  obtain ⟨c, A, q1, q2, q3, q4, q5⟩ := V
  have hin := inb_of q2 hj
  exact Wk.lawW ha (fun p e s vm0 m args below meth cc T locs k0 S => stJ (g := mkF m pc Ls (.long x :: .int j :: .ref a :: st)) S.2.2.2.1 S.1.1 S.2.1.2.1 S.2.2.2.2.1 A hin rfl rfl (hb S.1.2.1 hd)) (fun h' W => r h' W (Arv.set A q1 q2 q3 q4 q5 (rfl) W i hi hlt))
theorem Wk.castore {a : Addr} {q : ClassId} {z j : Int32} {x : Int32} {vs : List Value} {dv : Value} (V : Arv C.Z h a q .char z vs dv) (ha : C.N ≤ a) (hj : ¬ j < 0 ∧ j < z) (i : Nat) (hi : j.toNatClampNeg = i) (hlt : i < vs.length) (hd : decode C.b.code pc = .ok (.castore, 1)) (hp : pc + 1 = pc')
    (r : ∀ h', Wr h h' a j.toNatClampNeg (.int (nar .char x)) → Arv C.Z h' a q .char z (vs.set i (.int (nar .char x))) dv → Wk C h' k n I pc' Ls st) : Wk C h k n I pc Ls (.int x :: .int j :: .ref a :: st) := by
  subst hp
  obtain ⟨c, A, q1, q2, q3, q4, q5⟩ := V
  have hin := inb_of q2 hj
  exact Wk.lawW ha (fun p e s vm0 m args below meth cc T locs k0 S => stC (g := mkF m pc Ls (.int x :: .int j :: .ref a :: st)) S.2.2.2.1 S.1.1 S.2.1.2.1 S.2.2.2.2.1 A hin rfl rfl (hb S.1.2.1 hd)) (fun h' W => r h' W (Arv.set A q1 q2 q3 q4 q5 (fits_nar_char x) W i hi hlt))
theorem Wk.bastore {a : Addr} {q : ClassId} {z j : Int32} {x : Int32} {vs : List Value} {dv : Value} (V : Arv C.Z h a q .byte z vs dv) (ha : C.N ≤ a) (hj : ¬ j < 0 ∧ j < z) (i : Nat) (hi : j.toNatClampNeg = i) (hlt : i < vs.length) (hd : decode C.b.code pc = .ok (.bastore, 1)) (hp : pc + 1 = pc')
    (r : ∀ h', Wr h h' a j.toNatClampNeg (.int (nar .byte x)) → Arv C.Z h' a q .byte z (vs.set i (.int (nar .byte x))) dv → Wk C h' k n I pc' Ls st) : Wk C h k n I pc Ls (.int x :: .int j :: .ref a :: st) := by
  subst hp
  obtain ⟨c, A, q1, q2, q3, q4, q5⟩ := V
  have hin := inb_of q2 hj
  exact Wk.lawW ha (fun p e s vm0 m args below meth cc T locs k0 S => stB (g := mkF m pc Ls (.int x :: .int j :: .ref a :: st)) S.2.2.2.1 S.1.1 S.2.1.2.1 S.2.2.2.2.1 A hin rfl rfl (hb S.1.2.1 hd)) (fun h' W => r h' W (Arv.set A q1 q2 q3 q4 q5 (fits_nar_byte x) W i hi hlt))
theorem Wk.zastore {a : Addr} {q : ClassId} {z j : Int32} {x : Int32} {vs : List Value} {dv : Value} (V : Arv C.Z h a q .boolean z vs dv) (ha : C.N ≤ a) (hj : ¬ j < 0 ∧ j < z) (i : Nat) (hi : j.toNatClampNeg = i) (hlt : i < vs.length) (hd : decode C.b.code pc = .ok (.bastore, 1)) (hp : pc + 1 = pc')
    (r : ∀ h', Wr h h' a j.toNatClampNeg (.int (nar .boolean x)) → Arv C.Z h' a q .boolean z (vs.set i (.int (nar .boolean x))) dv → Wk C h' k n I pc' Ls st) : Wk C h k n I pc Ls (.int x :: .int j :: .ref a :: st) := by
  subst hp
  obtain ⟨c, A, q1, q2, q3, q4, q5⟩ := V
  have hin := inb_of q2 hj
  exact Wk.lawW ha (fun p e s vm0 m args below meth cc T locs k0 S => stZ (g := mkF m pc Ls (.int x :: .int j :: .ref a :: st)) S.2.2.2.1 S.1.1 S.2.1.2.1 S.2.2.2.2.1 A hin rfl rfl (hb S.1.2.1 hd)) (fun h' W => r h' W (Arv.set A q1 q2 q3 q4 q5 (fits_nar_bool x) W i hi hlt))
theorem Wk.aastore {a : Addr} {q : ClassId} {ty : FieldType} {z j : Int32} {v : Value} {vs : List Value} {dv : Value} (V : Arv C.Z h a q ty z vs dv) (hty : ty.isReference = true) (hf : fits ty v = true) (ha : C.N ≤ a) (hj : ¬ j < 0 ∧ j < z) (i : Nat) (hi : j.toNatClampNeg = i) (hlt : i < vs.length) (F : Sto C.Z h a v) (hd : decode C.b.code pc = .ok (.aastore, 1)) (hp : pc + 1 = pc')
    (r : ∀ h', Wr h h' a j.toNatClampNeg v → Arv C.Z h' a q ty z (vs.set i v) dv → Wk C h' k n I pc' Ls st) : Wk C h k n I pc Ls (v :: .int j :: .ref a :: st) := by
  subst hp
  obtain ⟨c, A, q1, q2, q3, q4, q5⟩ := V
  have hin := inb_of q2 hj
  exact Wk.lawW ha (fun p e s vm0 m args below meth cc T locs k0 S => stR (g := mkF m pc Ls (v :: .int j :: .ref a :: st)) S.2.2.2.1 S.1.1 S.2.1.2.1 S.2.2.2.2.1 A hin hty F rfl rfl (hb S.1.2.1 hd)) (fun h' W => r h' W (Arv.set A q1 q2 q3 q4 q5 hf W i hi hlt))
theorem Wk.ldcI {idx : Nat} {v : Int32} (w : (Jvm.Cond.constant C.b.y.cls idx v).before a0 C.Z = true) (hd : decode C.b.code pc = .ok (.ldc idx, 2)) (hp : pc + 2 = pc') (r : Wk C h k n I pc' Ls (.int v :: st)) : Wk C h k n I pc Ls st := by
  subst hp
  exact Wk.law (fun p e s vm0 m args below meth c T locs k0 S => ⟨T, S.2.2.2.1, S.2.2.2.2.1, fun t kt => S.2.2.2.1.ldcI (g := mkF m pc Ls st) S.1.1 S.2.1.1 (mv (s := s.setVm vm0) S.2.1.2.1 w) rfl (hb S.1.2.1 hd) kt⟩) r
theorem Wk.ldcWI {idx : Nat} {v : Int32} (w : (Jvm.Cond.constant C.b.y.cls idx v).before a0 C.Z = true) (hd : decode C.b.code pc = .ok (.ldc_w idx, 3)) (hp : pc + 3 = pc') (r : Wk C h k n I pc' Ls (.int v :: st)) : Wk C h k n I pc Ls st := by
  subst hp
  exact Wk.law (fun p e s vm0 m args below meth c T locs k0 S => ⟨T, S.2.2.2.1, S.2.2.2.2.1, fun t kt => S.2.2.2.1.ldcWI (g := mkF m pc Ls st) S.1.1 S.2.1.1 (mv (s := s.setVm vm0) S.2.1.2.1 w) rfl (hb S.1.2.1 hd) kt⟩) r
theorem Wk.ldc2J {idx : Nat} {v : Int64} (w : (Jvm.Cond.constantLong C.b.y.cls idx v).before a0 C.Z = true) (hd : decode C.b.code pc = .ok (.ldc2_w idx, 3)) (hp : pc + 3 = pc') (r : Wk C h k n I pc' Ls (.long v :: st)) : Wk C h k n I pc Ls st := by
  subst hp
  exact Wk.law (fun p e s vm0 m args below meth c T locs k0 S => ⟨T, S.2.2.2.1, S.2.2.2.2.1, fun t kt => S.2.2.2.1.ldc2J (g := mkF m pc Ls st) S.1.1 S.2.1.1 (mv (s := s.setVm vm0) S.2.1.2.1 w) rfl (hb S.1.2.1 hd) kt⟩) r
theorem Wk.castY {K : String} {idx : Nat} {a : Addr} (w : (Jvm.Cond.classLink C.b.y.cls idx K).before a0 C.Z = true) (F : Ins C.Z h a K true) (hd : decode C.b.code pc = .ok (.checkcast idx, 3)) (hp : pc + 3 = pc') (r : Wk C h k n I pc' Ls (.ref a :: st)) : Wk C h k n I pc Ls (.ref a :: st) := by
  subst hp
  exact Wk.law (fun p e s vm0 m args below meth c T locs k0 S => Jvm.RoadKit.castY (g := mkF m pc Ls (.ref a :: st)) S.2.2.2.1 S.1.1 S.2.1.2.1 S.2.1.1 w S.2.2.2.2.1 F rfl rfl (hb S.1.2.1 hd)) r
theorem Wk.instY {K : String} {idx : Nat} {a : Addr} (w : (Jvm.Cond.classLink C.b.y.cls idx K).before a0 C.Z = true) (F : Ins C.Z h a K true) (hd : decode C.b.code pc = .ok (.instanceof idx, 3)) (hp : pc + 3 = pc') (r : Wk C h k n I pc' Ls (.int 1 :: st)) : Wk C h k n I pc Ls (.ref a :: st) := by
  subst hp
  exact Wk.law (fun p e s vm0 m args below meth c T locs k0 S => Jvm.RoadKit.instY (g := mkF m pc Ls (.ref a :: st)) S.2.2.2.1 S.1.1 S.2.1.2.1 S.2.1.1 w S.2.2.2.2.1 F rfl rfl (hb S.1.2.1 hd)) r
theorem Wk.leaveW {v : Option Value} (hv : C.b.ret = none → v = none) (hk : k ≤ C.b.room.cells) (hn : n ≤ C.b.room.slots) (q : C.Q v h I)
    (hs : ∀ (p : Program) (e : Env) (s : State) (vm0 : Vm) (m : MethodId) (args : Array Value) (below : List Frame) (meth : Method) (c : Code) (T : State) (locs : List Loc) (k0 : Nat) (fs : List Frame), St C p e s vm0 m args below meth c T locs k0 h k n I →
      (∀ (f : JFrame) (acts : List Action), f.method = m → f.locked = none → f.entered = [] → (doReturn e (T.setTop f) acts v).1 = T.setFrames fs) → Steps p.tables e below (T.setTop (mkF m pc Ls st)) (T.setFrames fs)) : Wk C h k n I pc Ls st := fun p e s vm0 m args below meth c T locs k0 S => by
  obtain ⟨fs, hr, hrun, hended, hW, hsame⟩ := S.2.2.2.1.leave (v := v) (fun q => hv (S.1.2.2.2.1 ▸ q)) S.1.2.2.2.2.1
  have hst := hs p e s vm0 m args below meth c T locs k0 fs S hr
  obtain ⟨A, ⟨b1, b2, b3, b4⟩, q1, q2, q3, q4, q5, q6⟩ := S
  have eh : (T.setFrames fs).heap = h := q3
  obtain ⟨u1, u2, u3⟩ := b3.ended hW (by rw [eh]; exact q1) hsame
  exact ⟨_, _, hst, hrun, hended, v, locs, I, rfl, by rw [eh]; exact q, VI.warm (s := s.setVm vm0) b4 hW, q6, by rw [eh]; exact q4, ⟨v, rfl⟩, u1, u2, u3.mono hk hn⟩
theorem Wk.ireturn {z : Int32} (hret : C.b.ret = some .int) (hd : decode C.b.code pc = .ok (.ireturn, 1)) (hk : k ≤ C.b.room.cells) (hn : n ≤ C.b.room.slots) (q : C.Q (some (.int z)) h I) : Wk C h k n I pc Ls (.int z :: st) :=
  Wk.leaveW (v := some (.int z)) (fun e => by rw [hret] at e; cases e) hk hn q fun p e s vm0 m args below meth c T locs k0 fs S hr =>
    retOut S.2.2.2.1 S.1.1 (S.1.2.2.2.1.trans hret) rfl (Or.inl ⟨rfl, Or.inl rfl, _, rfl⟩) (hb S.1.2.1 hd) hr
theorem Wk.zreturn {z : Int32} {t : FieldType} (hret : C.b.ret = some t) (ht : t = .boolean ∨ t = .byte ∨ t = .char ∨ t = .short) (hd : decode C.b.code pc = .ok (.ireturn, 1)) (hk : k ≤ C.b.room.cells) (hn : n ≤ C.b.room.slots) (q : C.Q (some (.int (nar t z))) h I) : Wk C h k n I pc Ls (.int z :: st) :=
  Wk.leaveW (v := some (.int (nar t z))) (fun e => by rw [hret] at e; cases e) hk hn q fun p e s vm0 m args below meth c T locs k0 fs S hr =>
    retN S.2.2.2.1 S.1.1 (S.1.2.2.2.1.trans hret) ht (hb S.1.2.1 hd) hr
theorem Wk.lreturn {z : Int64} (hret : C.b.ret = some .long) (hd : decode C.b.code pc = .ok (.lreturn, 1)) (hk : k ≤ C.b.room.cells) (hn : n ≤ C.b.room.slots) (q : C.Q (some (.long z)) h I) : Wk C h k n I pc Ls (.long z :: st) :=
  Wk.leaveW (v := some (.long z)) (fun e => by rw [hret] at e; cases e) hk hn q fun p e s vm0 m args below meth c T locs k0 fs S hr =>
    retOut S.2.2.2.1 S.1.1 (S.1.2.2.2.1.trans hret) rfl (Or.inr (Or.inl ⟨rfl, rfl, _, rfl⟩)) (hb S.1.2.1 hd) hr
theorem Wk.dreturn {z : UInt64} (hret : C.b.ret = some .double) (hd : decode C.b.code pc = .ok (.dreturn, 1)) (hk : k ≤ C.b.room.cells) (hn : n ≤ C.b.room.slots) (q : C.Q (some (.double z)) h I) : Wk C h k n I pc Ls (.double z :: st) :=
  Wk.leaveW (v := some (.double z)) (fun e => by rw [hret] at e; cases e) hk hn q fun p e s vm0 m args below meth c T locs k0 fs S hr =>
    retOut S.2.2.2.1 S.1.1 (S.1.2.2.2.1.trans hret) rfl (Or.inr (Or.inr (Or.inl ⟨rfl, rfl, _, rfl⟩))) (hb S.1.2.1 hd) hr
theorem narrow_refl {t : FieldType} {w : Value} (ht : t.isReference = true) : narrow t w = w := by cases t <;> simp [FieldType.isReference] at ht <;> cases w <;> rfl
theorem Wk.areturn {w : Value} {t : FieldType} (hret : C.b.ret = some t) (ht : t.isReference = true) (hw : w.isRef = true) (hd : decode C.b.code pc = .ok (.areturn, 1)) (hk : k ≤ C.b.room.cells) (hn : n ≤ C.b.room.slots) (q : C.Q (some w) h I) : Wk C h k n I pc Ls (w :: st) :=
  Wk.leaveW (v := some w) (fun e => by rw [hret] at e; cases e) hk hn q fun p e s vm0 m args below meth c T locs k0 fs S hr =>
    retOut S.2.2.2.1 S.1.1 (S.1.2.2.2.1.trans hret) (narrow_refl ht) (Or.inr (Or.inr (Or.inr (Or.inr ⟨rfl, ht, hw⟩)))) (hb S.1.2.1 hd) hr
theorem Wk.return_ (hret : C.b.ret = none) (hd : decode C.b.code pc = .ok (.return_, 1)) (hk : k ≤ C.b.room.cells) (hn : n ≤ C.b.room.slots) (q : C.Q none h I) : Wk C h k n I pc Ls [] :=
  Wk.leaveW (v := none) (fun _ => rfl) hk hn q fun p e s vm0 m args below meth c T locs k0 fs S hr =>
    S.2.2.2.1.returnOut S.1.1 (S.1.2.2.2.1.trans hret) (hb S.1.2.1 hd) hr
theorem Cn.of_wk {l : Launch} {Z : State} {N : Nat} {b : Bdy} {as : Array Value} {Q : Option Value → Heap → Lts → Prop} (hp : plainFor b.y = true) (he : ∀ m, entryFrame m as b.maxL = mkF m 0 Ls []) (r : Wk (l, Z, N, h.size, b, Q) h 0 0 I 0 Ls []) : Cn l Z N b as h I Q := by
  intro ws
  refine MetFree.of_bodySF hp hisR ?_
  intro p e s m args below meth c s₁ Bd hml0 hP hK
  obtain ⟨rfl, hZ, hh, hV, hE, hN, hZN⟩ := hP
  have X0 : Stand p l e b.room (s.setVm s.vm) m args below meth c s₁ [] 0 0 := Stand.of_body Bd
  have e0 : s₁.heap = h := by rw [← hh, Bd.state]; rfl
  obtain ⟨t, o, h1, h2⟩ := r p e s s.vm m args below meth c s₁ [] s.heap.size ⟨⟨Bd.exec, Bd.bytes, hml0, Bd.returns, Bd.notSynchronized, (name_of_methodNamed Bd.named Bd.method).1, hZN, by rw [hh], by rw [hh]; exact hE⟩, ⟨findClass_of_methodNamed Bd.named, hZ, (State.WarmedH.refl s).since _, hV⟩, by rw [hh]; exact Nat.le_refl _, X0, e0, hE, hN, Fr.nil _⟩
  exact ⟨t, o, castTop (he m) h1, h2⟩
theorem Cn.back {l : Launch} {Z : State} {N : Nat} {b : Bdy} {as : Array Value} {Q : Option Value → Heap → Lts → Prop} (M : Cn l Z N b as h I Q) {R : Room} {p : Program} {e : Env} {below : List Frame} {s : State} {args : Array Value} {len W : Nat} (hZ : Z.Warmed39 s.vm) (hV : VI Z I s.vm) (hE : Ext Z.heap h) (hN : N ≤ h.size) (hZN : Z.heap.size ≤ N)
    (wc : (Jvm.Cond.code b.y b.code b.maxL b.ret).before a0 Z = true) (wz : (Jvm.Cond.initialized b.y.cls).before a0 Z = true) (hf : b.room.frames + 1 ≤ R.frames) (hl : W + (b.maxL + 11) + b.room.locals ≤ R.locals) :
    BackS l R p e below s args b.y len W (fun A a => a = as ∧ A.U.heap = h ∧ A.cells + b.room.cells ≤ R.cells ∧ A.slots + b.room.slots ≤ R.slots)
      (fun A _ v B => ∃ L J, Q v B.U.heap J ∧ VI Z J B.U.vm ∧ Fr N L ∧ Ext Z.heap B.U.heap ∧ B.locs = A.locs ++ L ∧ B.cells = A.cells + b.room.cells ∧ B.slots = A.slots + b.room.slots) :=
  BackS.of_freeW (bytes := b.code) (maxL := b.maxL) (ret := b.ret) (E := fun _ _ o t L k n => k = b.room.cells ∧ n = b.room.slots ∧ ∃ v J, o = .returned v ∧ Q v t.heap J ∧ VI Z J t.vm ∧ Fr N L ∧ Ext Z.heap t.heap) (M []) hf hl
    (fun m meth c A a Y hp => have hU : Z.Warmed39 A.U.vm := wtrans hZ Y.warmed
      ⟨by show (Cond.and _ .tt).before a A.U = true; rw [Cond.before_and, mv hU wc]; rfl, mv hU wc, mv hU wz, hp.2.2.1, hp.2.2.2⟩)
    (fun m meth c A a g mk Y hp => ⟨hp.1, wtrans hZ Y.warmed, hp.2.1, VI.warm hV Y.warmed, hE, hN, hZN⟩) (fun _ _ _ _ _ _ _ _ _ => trivial)
    (fun _ _ _ _ ⟨v, L, J, h1, h2, h3, h4, h5, h6⟩ => ⟨L, _, _, h6, rfl, rfl, v, J, h1, h2, h3, h4, h5⟩)
    (fun m meth c A a g mk v t L k n Y hp _ _ ⟨e1, e2, v', J, e3, e4, e5, e6, e7⟩ => by cases e3; subst e1 e2; exact ⟨L, J, e4, e5, e6, e7, rfl, rfl, rfl⟩)
/-- behind a call -/
theorem Wk.behind {b : Bdy} {N' : Nat} {Q' : Option Value → Heap → Lts → Prop} (hN : C.N ≤ N') (hk : k + b.room.cells = k') (hn : n + b.room.slots = n') (r : ∀ v h' J, h.size ≤ h'.size → Q' v h' J → Wk C h' k' n' J pc' Ls (v.toList ++ rest))
    {p : Program} {e : Env} {s : State} {vm0 : Vm} {m : MethodId} {args : Array Value} {below : List Frame} {meth : Method} {c : Code} {T : State} {locs : List Loc} {k0 : Nat} (S : St C p e s vm0 m args below meth c T locs k0 h k n I)
    {U0 : State} (q : ∃ (v : Option Value) (vm₁ : Vm) (B : Pt), (s.setVm vm0).WarmedH vm₁ ∧ Stand p C.l e C.b.room ((s.setVm vm0).setVm B.U.vm) m args below meth c B.U B.locs B.cells B.slots ∧ (s.setVm vm0).Since B.U.vm B.U.heap.size ∧ T.heap.size ≤ B.U.heap.size ∧
      (∃ L J, Q' v B.U.heap J ∧ VI C.Z J B.U.vm ∧ Fr N' L ∧ Ext C.Z.heap B.U.heap ∧ B.locs = locs ++ L ∧ B.cells = k + b.room.cells ∧ B.slots = n + b.room.slots) ∧ Steps p.tables e below U0 (B.U.setTop (mkF m pc' Ls (v.toList ++ rest)))) :
    ∃ t o, Steps p.tables e below U0 t ∧ t.status = .running ∧ Ended t below o ∧ Fini C s o t := by
  obtain ⟨v, vm₁, ⟨U, L2, k2, n2⟩, hW, X', hS', hg, ⟨L, J, y1, y2, y3, y4, y5, y6, y7⟩, hst⟩ := q
  dsimp only [Pt.U, Pt.locs, Pt.cells, Pt.slots] at X' hS' hg y1 y2 y3 y4 y5 y6 y7 hst
  subst y5 y6 y7 hk hn
  obtain ⟨A, ⟨b1, b2, b3, b4⟩, q1, q2, q3, q4, q5, q6⟩ := S
  have hg' : h.size ≤ U.heap.size := by rw [← q3]; exact hg
  obtain ⟨x1, x2, x3, x4⟩ := rebS b3 q1 X' hS' hg' b2 b1
  obtain ⟨t, o, h1, h2⟩ := r v U.heap J hg' y1 p e s U.vm m args below meth c U _ U.heap.size ⟨A, ⟨x4, x3, x2, y2⟩, Nat.le_refl _, x1, rfl, y4, Nat.le_trans q5 hg', Fr.app q6 fun y hy => Nat.le_trans hN (y3 y hy)⟩
  exact ⟨t, o, hst.trans h1, h2⟩
abbrev NoPoly (y : MethodName) : Prop := y.cls ≠ "java/lang/invoke/MethodHandle" ∧ y.cls ≠ "java/lang/invoke/VarHandle"
theorem Wk.callS {b : Bdy} {N' : Nat} {as : Array Value} {Q' : Option Value → Heap → Lts → Prop} {idx W : Nat} {ps : List FieldType} {rt : Option FieldType} {argsL : List Value} (M : Cn C.l C.Z N' b as h I Q')
    (w1 : (Jvm.Cond.methodLink C.b.y.cls idx b.y).before a0 C.Z = true) (w2 : (Jvm.Cond.static b.y).before a0 C.Z = true) (w3 : (Jvm.Cond.initialized b.y.cls).before a0 C.Z = true) (w4 : (Jvm.Cond.code b.y b.code b.maxL b.ret).before a0 C.Z = true) (hy : NoPoly b.y)
    (hN : C.N ≤ N') (hN' : C.N ≤ h.size → N' ≤ h.size) (hf : b.room.frames + 1 ≤ C.b.room.frames) (hl : W + (b.maxL + 11) + b.room.locals ≤ C.b.room.locals) (hk : k + b.room.cells = k') (hn : n + b.room.slots = n') (hkc : k' ≤ C.b.room.cells) (hnc : n' ≤ C.b.room.slots)
    (hsz : Ls.size = C.b.maxL) (hpd : parseMethodDescriptor b.y.desc = some ⟨ps, rt⟩) (hlen : argsL.length = ps.length) (has : as = argsL.toArray) (hst : st = argsL.reverse ++ rest) (hW : (rest.map fun v => v.category).sum ≤ W) (hd : decode C.b.code pc = .ok (.invokestatic idx, 3)) (hp : pc + 3 = pc')
    (r : ∀ v h' J, h.size ≤ h'.size → Q' v h' J → Wk C h' k' n' J pc' Ls (v.toList ++ rest)) : Wk C h k n I pc Ls st := by
  subst hp has hst hk hn
  intro p e s vm0 m args below meth c T locs k0 S
  refine Wk.behind (b := b) hN rfl rfl r S ?_
  have hZ : C.Z.Warmed39 (s.setVm vm0).vm := S.2.1.2.1
  exact callSS S.2.2.2.1 S.1.1 (own := C.b.y.cls) S.2.1.1 (mvT hZ w1) (mvT hZ w2) (mvT hZ w3) (mvT hZ w4) hy (Cn.back (a0 := a0) (W := W) M hZ S.2.1.2.2.2 S.2.2.2.2.2.1 (hN' S.2.2.2.2.2.2.1) (Nat.le_trans S.1.2.2.2.2.2.2.1 hN) w4 w3 hf hl) (g := mkF m pc Ls (argsL.reverse ++ rest)) rfl (hsz.trans S.1.2.2.1.symm) (argsL := argsL) (rest := rest) (lenOf hpd hlen) rfl (by show 2 * 0 + _ ≤ _; omega) (hb S.1.2.1 hd) (fun _ _ => ⟨rfl, S.2.2.2.2.1, hkc, hnc⟩)
theorem Wk.callN {b : Bdy} {N' : Nat} {as : Array Value} {Q' : Option Value → Heap → Lts → Prop} {idx W : Nat} {ps : List FieldType} {rt : Option FieldType} {argsL : List Value} {a : Addr} (M : Cn C.l C.Z N' b as h I Q') (hini : b.y.name = "<init>") (hrt : b.ret = none)
    (w1 : (Jvm.Cond.methodLink C.b.y.cls idx b.y).before a0 C.Z = true) (w2 : (Jvm.Cond.instanceMethod b.y).before a0 C.Z = true) (w3 : (Jvm.Cond.initialized b.y.cls).before a0 C.Z = true) (w4 : (Jvm.Cond.code b.y b.code b.maxL b.ret).before a0 C.Z = true) (hy : NoPoly b.y)
    (hN : C.N ≤ N') (hN' : C.N ≤ h.size → N' ≤ h.size) (hf : b.room.frames + 1 ≤ C.b.room.frames) (hl : W + (b.maxL + 11) + b.room.locals ≤ C.b.room.locals) (hk : k + b.room.cells = k') (hn : n + b.room.slots = n') (hkc : k' ≤ C.b.room.cells) (hnc : n' ≤ C.b.room.slots)
    (hsz : Ls.size = C.b.maxL) (hpd : parseMethodDescriptor b.y.desc = some ⟨ps, rt⟩) (hlen : argsL.length = ps.length) (has : as = (.ref a :: argsL).toArray) (hst : st = argsL.reverse ++ .ref a :: rest) (hW : (rest.map fun v => v.category).sum ≤ W) (hd : decode C.b.code pc = .ok (.invokespecial idx, 3)) (hp : pc + 3 = pc')
    (r : ∀ v h' J, h.size ≤ h'.size → Q' v h' J → Wk C h' k' n' J pc' Ls (v.toList ++ rest)) : Wk C h k n I pc Ls st := by
  subst hp has hst hk hn
  intro p e s vm0 m args below meth c T locs k0 S
  refine Wk.behind (b := b) hN rfl rfl r S ?_
  have hZ : C.Z.Warmed39 (s.setVm vm0).vm := S.2.1.2.1
  have w4' : (Jvm.Cond.code b.y b.code b.maxL none).before a0 C.Z = true := by rw [← hrt]; exact w4
  exact S.2.2.2.1.specialBackS S.1.1 (own := C.b.y.cls) hini S.2.1.1 (mvT hZ w1) (mvT hZ w2) (mvT hZ w4') hy (Cn.back (a0 := a0) (W := W) M hZ S.2.1.2.2.2 S.2.2.2.2.2.1 (hN' S.2.2.2.2.2.2.1) (Nat.le_trans S.1.2.2.2.2.2.2.1 hN) w4 w3 hf hl) (g := mkF m pc Ls (argsL.reverse ++ .ref a :: rest)) rfl (hsz.trans S.1.2.2.1.symm) (Steps.refl _) (argsL := argsL) (rest := rest) (lenOf hpd hlen) rfl (by show 2 * 0 + _ ≤ _; omega) (hb S.1.2.1 hd) (fun _ _ => ⟨rfl, S.2.2.2.2.1, hkc, hnc⟩)
theorem Wk.callV {b : Bdy} {N' : Nat} {as : Array Value} {Q' : Option Value → Heap → Lts → Prop} {idx W : Nat} {ps : List FieldType} {rt : Option FieldType} {argsL : List Value} {a : Addr} {y : MethodName} {K K' : String} (M : Cn C.l C.Z N' b as h I Q') (E : Exa C.Z h a K)
    (w1 : (Jvm.Cond.methodLink C.b.y.cls idx y).before a0 C.Z = true) (wd : (Jvm.Cond.declares y).before a0 C.Z = true) (wn : (Jvm.Cond.selects K' y y).before a0 C.Z = true) (ws : (Jvm.Cond.selects K y b.y).before a0 C.Z = true) (w2 : (Jvm.Cond.instanceMethod b.y).before a0 C.Z = true) (w3 : (Jvm.Cond.initialized b.y.cls).before a0 C.Z = true) (w4 : (Jvm.Cond.code b.y b.code b.maxL b.ret).before a0 C.Z = true) (hy : NoPoly y)
    (hN : C.N ≤ N') (hN' : C.N ≤ h.size → N' ≤ h.size) (hf : b.room.frames + 1 ≤ C.b.room.frames) (hl : W + (b.maxL + 11) + b.room.locals ≤ C.b.room.locals) (hk : k + b.room.cells = k') (hn : n + b.room.slots = n') (hkc : k' ≤ C.b.room.cells) (hnc : n' ≤ C.b.room.slots)
    (hsz : Ls.size = C.b.maxL) (hpd : parseMethodDescriptor y.desc = some ⟨ps, rt⟩) (hlen : argsL.length = ps.length) (has : as = (.ref a :: argsL).toArray) (hst : st = argsL.reverse ++ .ref a :: rest) (hW : (rest.map fun v => v.category).sum ≤ W) (hd : decode C.b.code pc = .ok (.invokevirtual idx, 3)) (hp : pc + 3 = pc')
    (r : ∀ v h' J, h.size ≤ h'.size → Q' v h' J → Wk C h' k' n' J pc' Ls (v.toList ++ rest)) : Wk C h k n I pc Ls st := by
  subst hp has hst hk hn
  intro p e s vm0 m args below meth c T locs k0 S
  refine Wk.behind (b := b) hN rfl rfl r S ?_
  have hZ : C.Z.Warmed39 (s.setVm vm0).vm := S.2.1.2.1
  obtain ⟨cq, kq, qa, qb, qc⟩ := isOf (s := s.setVm vm0) hZ S.2.2.2.2.1 E
  exact S.2.2.2.1.virtualBackS S.1.1 (own := C.b.y.cls) (y := y) (z := b.y) S.2.1.1 (mvT hZ w1) (mvT hZ wd) (notFace_of_selects (args := #[]) (mvT hZ wn)) (mvT hZ ws) (mvT hZ w2) hy (Cn.back (a0 := a0) (W := W) M hZ S.2.1.2.2.2 S.2.2.2.2.2.1 (hN' S.2.2.2.2.2.2.1) (Nat.le_trans S.1.2.2.2.2.2.2.1 hN) w4 w3 hf hl) qa qc (g := mkF m pc Ls (argsL.reverse ++ .ref a :: rest)) rfl (hsz.trans S.1.2.2.1.symm) (Steps.refl _) (argsL := argsL) (rest := rest) (lenOf hpd hlen) rfl (by show 2 * 0 + _ ≤ _; omega) (hb S.1.2.1 hd) (fun _ _ => ⟨rfl, S.2.2.2.2.1, hkc, hnc⟩)
theorem Wk.callI {b : Bdy} {N' : Nat} {as : Array Value} {Q' : Option Value → Heap → Lts → Prop} {idx cnt W : Nat} {ps : List FieldType} {rt : Option FieldType} {argsL : List Value} {a : Addr} {y : MethodName} {K : String} (M : Cn C.l C.Z N' b as h I Q') (E : Exa C.Z h a K)
    (w1 : (Jvm.Cond.methodLink C.b.y.cls idx y).before a0 C.Z = true) (wd : (Jvm.Cond.declares y).before a0 C.Z = true) (wf : (Jvm.Cond.interfaceMethod y.cls y.cls y.name y.desc).before a0 C.Z = true) (ws : (Jvm.Cond.selects K y b.y).before a0 C.Z = true) (w2 : (Jvm.Cond.instanceMethod b.y).before a0 C.Z = true) (wp : (Jvm.Cond.publicMethod b.y).before a0 C.Z = true) (wu : (Jvm.Cond.unhidden K y.name y.desc).before a0 C.Z = true) (wk : (Jvm.Cond.castable K y.cls).before a0 C.Z = true) (w3 : (Jvm.Cond.initialized b.y.cls).before a0 C.Z = true) (w4 : (Jvm.Cond.code b.y b.code b.maxL b.ret).before a0 C.Z = true) (hy : NoPoly y)
    (hN : C.N ≤ N') (hN' : C.N ≤ h.size → N' ≤ h.size) (hf : b.room.frames + 1 ≤ C.b.room.frames) (hl : W + (b.maxL + 11) + b.room.locals ≤ C.b.room.locals) (hk : k + b.room.cells = k') (hn : n + b.room.slots = n') (hkc : k' ≤ C.b.room.cells) (hnc : n' ≤ C.b.room.slots)
    (hsz : Ls.size = C.b.maxL) (hpd : parseMethodDescriptor y.desc = some ⟨ps, rt⟩) (hlen : argsL.length = ps.length) (has : as = (.ref a :: argsL).toArray) (hst : st = argsL.reverse ++ .ref a :: rest) (hW : (rest.map fun v => v.category).sum ≤ W) (hd : decode C.b.code pc = .ok (.invokeinterface idx cnt, 5)) (hp : pc + 5 = pc')
    (r : ∀ v h' J, h.size ≤ h'.size → Q' v h' J → Wk C h' k' n' J pc' Ls (v.toList ++ rest)) : Wk C h k n I pc Ls st := by
  subst hp has hst hk hn
  intro p e s vm0 m args below meth c T locs k0 S
  refine Wk.behind (b := b) hN rfl rfl r S ?_
  have hZ : C.Z.Warmed39 (s.setVm vm0).vm := S.2.1.2.1
  obtain ⟨cq, kq, qa, qb, qc⟩ := isOf (s := s.setVm vm0) hZ S.2.2.2.2.1 E
  exact S.2.2.2.1.interfaceBackS S.1.1 (own := C.b.y.cls) (xi := y) (y := b.y) S.2.1.1 (mvT hZ w1) (mvT hZ wd) (mvT hZ wf (by simp [Cond.onTables, Cond.keepsFace, Cond.keeps, Cond.steady, Cond.faceAtom, hy.1, hy.2])) (mvT hZ ws) (mvT hZ w2) (mvT hZ wp) (mvT hZ wu) (mvT hZ wk) hy (Cn.back (a0 := a0) (W := W) M hZ S.2.1.2.2.2 S.2.2.2.2.2.1 (hN' S.2.2.2.2.2.2.1) (Nat.le_trans S.1.2.2.2.2.2.2.1 hN) w4 w3 hf hl) qa qb qc (g := mkF m pc Ls (argsL.reverse ++ .ref a :: rest)) rfl (hsz.trans S.1.2.2.1.symm) (Steps.refl _) (argsL := argsL) (rest := rest) (lenOf hpd hlen) rfl (by show 2 * 0 + _ ≤ _; omega) (hb S.1.2.1 hd) (fun _ _ => ⟨rfl, S.2.2.2.2.1, hkc, hnc⟩)
end Kit

section Kit2
variable {C : Cx} {h h' : Heap} {k n k' n' : Nat} {I : Lts} {pc pc' : Nat} {Ls Ls' : Array Slot} {st st' rest : List Value} {a0 : Array Value}
theorem own_nf {s : State} {args : Array Value} {y y' : MethodName} {K' : String} (hsel : (Jvm.Cond.selects K' y' y').before args s = true) (hc : y'.cls = y.cls) : NotFace s y := fun r0 hr0 => by
  obtain ⟨c2, r2, m2, q1, q2, q3, q4, kP, hkP, hkPi⟩ := Cond.selects_spec hsel
  have e1 := findClass_of_methodNamed q3
  have e2 := findClass_of_methodNamed hr0
  rw [hc, e2] at e1
  exact ⟨kP, by rw [Option.some.inj e1]; exact hkP, hkPi⟩
theorem Wk.callP {b : Bdy} {N' : Nat} {as : Array Value} {Q' : Option Value → Heap → Lts → Prop} {idx W : Nat} {ps : List FieldType} {rt : Option FieldType} {argsL : List Value} {a : Addr} {y' : MethodName} {K K' : String} (M : Cn C.l C.Z N' b as h I Q') (E : Exa C.Z h a K)
    (w1 : (Jvm.Cond.methodLink C.b.y.cls idx b.y).before a0 C.Z = true) (wn : (Jvm.Cond.selects K' y' y').before a0 C.Z = true) (hyc : y'.cls = b.y.cls) (wp : (Jvm.Cond.privateMethod b.y).before a0 C.Z = true) (w2 : (Jvm.Cond.instanceMethod b.y).before a0 C.Z = true) (w3 : (Jvm.Cond.initialized b.y.cls).before a0 C.Z = true) (w4 : (Jvm.Cond.code b.y b.code b.maxL b.ret).before a0 C.Z = true) (hy : NoPoly b.y)
    (hN : C.N ≤ N') (hN' : C.N ≤ h.size → N' ≤ h.size) (hf : b.room.frames + 1 ≤ C.b.room.frames) (hl : W + (b.maxL + 11) + b.room.locals ≤ C.b.room.locals) (hk : k + b.room.cells = k') (hn : n + b.room.slots = n') (hkc : k' ≤ C.b.room.cells) (hnc : n' ≤ C.b.room.slots)
    (hsz : Ls.size = C.b.maxL) (hpd : parseMethodDescriptor b.y.desc = some ⟨ps, rt⟩) (hlen : argsL.length = ps.length) (has : as = (.ref a :: argsL).toArray) (hst : st = argsL.reverse ++ .ref a :: rest) (hW : (rest.map fun v => v.category).sum ≤ W) (hd : decode C.b.code pc = .ok (.invokevirtual idx, 3)) (hp : pc + 3 = pc')
    (r : ∀ v h' J, h.size ≤ h'.size → Q' v h' J → Wk C h' k' n' J pc' Ls (v.toList ++ rest)) : Wk C h k n I pc Ls st := by
  subst hp has hst hk hn
  intro p e s vm0 m args below meth c T locs k0 S
  refine Wk.behind (b := b) hN rfl rfl r S ?_
  have hZ : C.Z.Warmed39 (s.setVm vm0).vm := S.2.1.2.1
  obtain ⟨mk, methM, hnamed, hmethM, hstM, habM⟩ := Cond.instanceMethod_spec (s := s.setVm vm0) (args := args) (mvT hZ w2)
  obtain ⟨methM', cM, hmethM', -, -, -, -, -, -, hsigM⟩ := Cond.code_spec hnamed (mvT (args := args) (s := s.setVm vm0) hZ w4)
  cases hmethM.symm.trans hmethM'
  obtain ⟨kP, hkP, hkPi⟩ := own_nf (args := args) (s := s.setVm vm0) (mvT hZ wn) hyc mk hnamed
  obtain ⟨cell, hcell, hobj⟩ := E.cell
  have hcell' : T.heap[a]? = some cell := by rw [S.2.2.2.2.1]; exact hcell
  have hselP : selectMethod e.platform (s.setVm vm0).vm cell.cls mk = .method mk := selectMethod_private hmethM (Cond.privateMethod_at (args := args) (mvP hZ wp) mk methM hnamed hmethM)
  obtain ⟨vm₁, X₁, hstep₁⟩ := S.2.2.2.1.invokevirtual S.1.1 (own := C.b.y.cls) S.2.1.1 (mvT hZ w1) hnamed hmethM hstM hkP hkPi hy (a := a) (cell := cell) hcell' hobj hselP hmethM habM hkP hkPi (g := mkF m pc Ls (argsL.reverse ++ .ref a :: rest)) rfl (argsL := argsL) (rest := rest) (lenOf hpd hlen _ hsigM) rfl (hb S.1.2.1 hd)
  have hW₁ : (s.setVm vm0).WarmedH vm₁ := X₁.warmed
  obtain ⟨v, B, X', hS, hgr, hpost, hsteps⟩ := Cn.back (a0 := a0) (W := W) (R := C.b.room) (p := p) (e := e) (below := below) (s := s.setVm vm0) (args := args) (len := 3) M hZ S.2.1.2.2.2 S.2.2.2.2.2.1 (hN' S.2.2.2.2.2.2.1) (Nat.le_trans S.1.2.2.2.2.2.2.1 hN) w4 w3 hf hl m meth c ⟨T.setVm vm₁, locs, k, n⟩ (mkF m pc Ls rest) (.invokevirtual idx) mk (.ref a :: argsL).toArray X₁ rfl (hsz.trans S.1.2.2.1.symm) (hb S.1.2.1 hd) (by show 2 * 0 + (rest.map fun v => v.category).sum ≤ W; omega) (X₁.named hnamed) ⟨rfl, S.2.2.2.2.1, hkc, hnc⟩
  exact ⟨v, vm₁, B, hW₁, X', hS, hgr, hpost, (hstep₁ _ fun acts => by rw [doInvoke_state]; exact Steps.refl _).trans hsteps⟩
theorem Wk.ldcLit {idx cap : Nat} {text : String} {vs : List Value} {z : Int32} {Ts : List String} {Lk : List (String × Nat × Addr)} (w : (Jvm.Cond.stringLink C.b.y.cls idx text).before a0 C.Z = true) (wS : ∀ a ∈ Bundle.stringAtoms, a.before a0 C.Z = true) (hMN : C.M ≤ C.N) (hnot : text ∉ Ts) (hh : Jvm.Lit.constHeld C.Z C.b.y.cls idx) (hcw : Jvm.Lit.compactW.before a0 C.Z = true)
    (ht : (∀ c ∈ text.toList, c.toNat < 256) ∧ text.toList.map (fun c => Value.int (Jvm.Lit.byteI c.toNat.toUInt16)) = vs) (hz : ¬ z < 0) (hzl : z.toNatClampNeg = vs.length) (hd : decode C.b.code pc = .ok (.ldc idx, 2)) (hp : pc + 2 = pc') (hcap : 4 * text.toList.length ≤ cap) (hbig : cap ≤ 536870912) (hk : k + 2 = k') (hn : n + (cap + 4) = n') (hc : k' ≤ C.b.room.cells) (hl : n' ≤ C.b.room.slots)
    (r : ∀ a b q h', Ext h h' → Exa C.Z h' a "java/lang/String" → Fld C.Z h' a "java/lang/String" "coder" "B" (.int 0) → Fld C.Z h' a "java/lang/String" "value" "[B" (.ref b) → Arv C.Z h' b q .byte z vs (.int 0) → ((a < C.M ∧ b < C.M) ∨ (h.size ≤ a ∧ h.size ≤ b)) → Wk C h' k' n' (some (text :: Ts, [(C.b.y.cls, idx, a)])) pc' Ls (.ref a :: st)) : Wk C h k n (some (Ts, Lk)) pc Ls st := by
  subst hp hk hn
  intro p e s vm0 m args below meth c T locs k0 S
  obtain ⟨A, ⟨b1, b2, b3, b4⟩, q1, q2, q3, q4, q5, q6⟩ := S
  have hM : s.heap.size ≤ C.N := by rw [A.2.2.2.2.2.2.2.1]; exact hMN
  obtain ⟨a, T', h', k1, b, q, X', e', E, hS', hk1, hZ', ho', x1, x2, x3, x4, -, -, hI, hL, hpos, st'⟩ := ldcSVd q2 A.1 b2 b1 w wS q3 b3 q1 (fun y hy => Nat.le_trans hM (q6 y hy)) A.2.2.2.2.2.2.2.2.2 b4.1 hnot hh hcw ht hz hzl (g := mkF m pc Ls st) rfl (hb A.2.1 hd) hcap hbig hc hl
  obtain ⟨t, o, h1, h2⟩ := r a b q h' E x1 x2 x3 x4 (by rw [← A.2.2.2.2.2.2.2.1]; exact hpos) p e s T'.vm m args below meth c T' locs k1 ⟨A, ⟨ho', hZ', hS', hI, fun u hu => by rw [List.mem_singleton.mp hu]; exact hL⟩, hk1, X', e', ⟨Nat.le_trans q4.1 E.1, fun x c hx => E.2 _ _ (q4.2 _ _ hx)⟩, Nat.le_trans q5 E.1, q6⟩
  exact ⟨t, o, st' t h1, h2⟩
theorem Wk.ldcAgain {idx : Nat} {a : Addr} {text : String} {Ts : List String} {Lk : List (String × Nat × Addr)} (w : (Jvm.Cond.stringLink C.b.y.cls idx text).before a0 C.Z = true) (hm : (C.b.y.cls, idx, a) ∈ Lk) (hd : decode C.b.code pc = .ok (.ldc idx, 2)) (hp : pc + 2 = pc') (r : Wk C h k n (some (Ts, Lk)) pc' Ls (.ref a :: st)) : Wk C h k n (some (Ts, Lk)) pc Ls st := by
  subst hp
  refine Wk.law (fun p e s vm0 m args below meth c T locs k0 S => ⟨T, S.2.2.2.1, S.2.2.2.2.1, fun t kt => ?_⟩) r
  exact Jvm.RoadKit.ldcAgain S.2.2.2.1 S.1.1 S.2.1.2.1 S.2.1.1 w (S.2.1.2.2.2.2 _ hm) (g := mkF m pc Ls st) rfl (hb S.1.2.1 hd) t kt
/-- a walk that has written nothing below F yet -/
def WkM (F : Nat) (C : Cx) (h : Heap) (k n : Nat) (I : Lts) (pc : Nat) (Ls : Array Slot) (st : List Value) : Prop :=
  ∀ (p : Program) (e : Env) (s : State) (vm0 : Vm) (m : MethodId) (args : Array Value) (below : List Frame) (meth : Method) (c : Code) (T : State) (locs : List Loc) (k0 : Nat),
    St C p e s vm0 m args below meth c T locs k0 h k n I → Fr F locs →
    ∃ t o, Steps p.tables e below (T.setTop (mkF m pc Ls st)) t ∧ t.status = .running ∧ Ended t below o ∧ Fini C s o t
theorem Wk.toM {F : Nat} (r : Wk C h k n I pc Ls st) : WkM F C h k n I pc Ls st := fun p e s vm0 m args below meth c T locs k0 S _ => r p e s vm0 m args below meth c T locs k0 S
theorem WkM.law {F : Nat} (hs : ∀ (p : Program) (e : Env) (s : State) (vm0 : Vm) (m : MethodId) (args : Array Value) (below : List Frame) (meth : Method) (c : Code) (T : State) (locs : List Loc) (k0 : Nat), St C p e s vm0 m args below meth c T locs k0 h k n I →
      ∃ T', Stand p C.l e C.b.room (s.setVm vm0) m args below meth c T' locs k n ∧ T'.heap = h ∧ ∀ t, Steps p.tables e below (T'.setTop (mkF m pc' Ls' st')) t → Steps p.tables e below (T.setTop (mkF m pc Ls st)) t)
    (r : WkM F C h k n I pc' Ls' st') : WkM F C h k n I pc Ls st := fun p e s vm0 m args below meth c T locs k0 S hF => by
  obtain ⟨T', X', e', st⟩ := hs p e s vm0 m args below meth c T locs k0 S
  obtain ⟨t, o, h1, h2⟩ := r p e s vm0 m args below meth c T' locs k0 ⟨S.1, S.2.1, S.2.2.1, X', e', S.2.2.2.2.2⟩ hF
  exact ⟨t, o, st t h1, h2⟩
theorem WkM.step {F : Nat} (hs : ∀ (p : Program) (e : Env) (m : MethodId) (below : List Frame) (c : Code) (T t : State), At T m c below → p.tables.exec = Jvm.exec → c.code = C.b.code → Steps p.tables e below (T.setTop (mkF m pc' Ls' st')) t → Steps p.tables e below (T.setTop (mkF m pc Ls st)) t)
    (r : WkM F C h k n I pc' Ls' st') : WkM F C h k n I pc Ls st := fun p e s vm0 m args below meth c T locs k0 S hF => by
  obtain ⟨t, o, h1, h2⟩ := r p e s vm0 m args below meth c T locs k0 S hF
  exact ⟨t, o, hs p e m below c T t S.2.2.2.1.here S.1.1 S.1.2.1 h1, h2⟩
theorem WkM.iloadN {F : Nat} {j : Fin 4} {v : Int32} (hd : decode C.b.code pc = .ok (.iload_n j, 1)) (hp : pc + 1 = pc') (hl : Ls[j.val]? = some (.val (.int v))) (r : WkM F C h k n I pc' Ls (.int v :: st)) : WkM F C h k n I pc Ls st := by
  subst hp
  exact WkM.step (fun _ _ _ _ _ _ _ ha hx hby kt => XS.iloadN ha hx rfl (hb hby hd) hl kt) r
theorem WkM.aloadN {F : Nat} {j : Fin 4} {v : Value} (hd : decode C.b.code pc = .ok (.aload_n j, 1)) (hp : pc + 1 = pc') (hl : Ls[j.val]? = some (.val v)) (hv : v.isRef = true) (r : WkM F C h k n I pc' Ls (v :: st)) : WkM F C h k n I pc Ls st := by
  subst hp
  exact WkM.step (fun _ _ _ _ _ _ _ ha hx hby kt => XS.aloadN ha hx rfl (hb hby hd) hl hv kt) r
theorem WkM.if_neN {F : Nat} {x : Int32} {o : Int} (hd : decode C.b.code pc = .ok (.ifCond .ne o, 3)) (hp : pc + 3 = pc') (hc : x = (0 : Int32)) (r : WkM F C h k n I pc' Ls st) : WkM F C h k n I pc Ls (.int x :: st) := by
  subst hp
  exact WkM.step (fun _ _ _ _ _ _ _ ha hx hby kt => XS.ifNo ha hx rfl (hb hby hd) rfl ((if0 _ _).trans (teq hc).2) kt) r
theorem WkM.initO {F : Nat} {idx W : Nat} {a : Addr} (w1 : (Jvm.Cond.methodLink C.b.y.cls idx Lib.objectInit).before a0 C.Z = true) (w2 : (Jvm.Cond.instanceMethod Lib.objectInit).before a0 C.Z = true) (w3 : (Jvm.Cond.code Lib.objectInit ⟨#[0xb1]⟩ 1 none).before a0 C.Z = true) (hsz : Ls.size = C.b.maxL) (hd : decode C.b.code pc = .ok (.invokespecial idx, 3)) (hp : pc + 3 = pc') (hf : 1 ≤ C.b.room.frames) (hW : (st.map fun v => v.category).sum ≤ W) (hl : W + 12 ≤ C.b.room.locals)
    (r : WkM F C h k n I pc' Ls st) : WkM F C h k n I pc Ls (.ref a :: st) := by
  subst hp
  exact WkM.law (fun p e s vm0 m args below meth c T locs k0 S => Jvm.RoadKit.initO (g := mkF m pc Ls (.ref a :: st)) S.2.2.2.1 S.1.1 S.2.1.2.1 S.2.1.1 w1 w2 w3 S.2.2.2.2.1 rfl (hsz.trans S.1.2.2.1.symm) rfl (hb S.1.2.1 hd) hf (W := W) (by show 2 * 0 + _ ≤ _; omega) hl) r
theorem WkM.ldcLit {F idx cap : Nat} {text : String} {vs : List Value} {z : Int32} {Ts : List String} {Lk : List (String × Nat × Addr)} (w : (Jvm.Cond.stringLink C.b.y.cls idx text).before a0 C.Z = true) (wS : ∀ a ∈ Bundle.stringAtoms, a.before a0 C.Z = true) (hMN : C.M ≤ F) (hnot : text ∉ Ts) (hh : Jvm.Lit.constHeld C.Z C.b.y.cls idx) (hcw : Jvm.Lit.compactW.before a0 C.Z = true)
    (ht : (∀ c ∈ text.toList, c.toNat < 256) ∧ text.toList.map (fun c => Value.int (Jvm.Lit.byteI c.toNat.toUInt16)) = vs) (hz : ¬ z < 0) (hzl : z.toNatClampNeg = vs.length) (hd : decode C.b.code pc = .ok (.ldc idx, 2)) (hp : pc + 2 = pc') (hcap : 4 * text.toList.length ≤ cap) (hbig : cap ≤ 536870912) (hk : k + 2 = k') (hn : n + (cap + 4) = n') (hc : k' ≤ C.b.room.cells) (hl : n' ≤ C.b.room.slots)
    (r : ∀ a b q h', Ext h h' → Exa C.Z h' a "java/lang/String" → Fld C.Z h' a "java/lang/String" "coder" "B" (.int 0) → Fld C.Z h' a "java/lang/String" "value" "[B" (.ref b) → Arv C.Z h' b q .byte z vs (.int 0) → ((a < C.M ∧ b < C.M) ∨ (h.size ≤ a ∧ h.size ≤ b)) → Wk C h' k' n' (some (text :: Ts, [(C.b.y.cls, idx, a)])) pc' Ls (.ref a :: st)) : WkM F C h k n (some (Ts, Lk)) pc Ls st := by
  subst hp hk hn
  intro p e s vm0 m args below meth c T locs k0 S hF
  obtain ⟨A, ⟨b1, b2, b3, b4⟩, q1, q2, q3, q4, q5, q6⟩ := S
  have hM : s.heap.size ≤ F := by rw [A.2.2.2.2.2.2.2.1]; exact hMN
  obtain ⟨a, T', h', k1, b, q, X', e', E, hS', hk1, hZ', ho', x1, x2, x3, x4, -, -, hI, hL, hpos, st'⟩ := ldcSVd q2 A.1 b2 b1 w wS q3 b3 q1 (fun y hy => Nat.le_trans hM (hF y hy)) A.2.2.2.2.2.2.2.2.2 b4.1 hnot hh hcw ht hz hzl (g := mkF m pc Ls st) rfl (hb A.2.1 hd) hcap hbig hc hl
  obtain ⟨t, o, h1, h2⟩ := r a b q h' E x1 x2 x3 x4 (by rw [← A.2.2.2.2.2.2.2.1]; exact hpos) p e s T'.vm m args below meth c T' locs k1 ⟨A, ⟨ho', hZ', hS', hI, fun u hu => by rw [List.mem_singleton.mp hu]; exact hL⟩, hk1, X', e', ⟨Nat.le_trans q4.1 E.1, fun x c hx => E.2 _ _ (q4.2 _ _ hx)⟩, Nat.le_trans q5 E.1, q6⟩
  exact ⟨t, o, st' t h1, h2⟩
theorem Cn.of_wkM {l : Launch} {Z : State} {N : Nat} {b : Bdy} {as : Array Value} {Q : Option Value → Heap → Lts → Prop} (hp : plainFor b.y = true) (he : ∀ m, entryFrame m as b.maxL = mkF m 0 Ls []) (r : WkM h.size (l, Z, N, h.size, b, Q) h 0 0 I 0 Ls []) : Cn l Z N b as h I Q := by
  intro ws
  refine MetFree.of_bodySF hp hisR ?_
  intro p e s m args below meth c s₁ Bd hml0 hP hK
  obtain ⟨rfl, hZ, hh, hV, hE, hN, hZN⟩ := hP
  have X0 : Stand p l e b.room (s.setVm s.vm) m args below meth c s₁ [] 0 0 := Stand.of_body Bd
  have e0 : s₁.heap = h := by rw [← hh, Bd.state]; rfl
  obtain ⟨t, o, h1, h2⟩ := r p e s s.vm m args below meth c s₁ [] s.heap.size ⟨⟨Bd.exec, Bd.bytes, hml0, Bd.returns, Bd.notSynchronized, (name_of_methodNamed Bd.named Bd.method).1, hZN, by rw [hh], by rw [hh]; exact hE⟩, ⟨findClass_of_methodNamed Bd.named, hZ, (State.WarmedH.refl s).since _, hV⟩, by rw [hh]; exact Nat.le_refl _, X0, e0, hE, hN, Fr.nil _⟩ (Fr.nil _)
  exact ⟨t, o, castTop (he m) h1, h2⟩
theorem WkM.aload {F : Nat} {j : Nat} {v : Value} (hd : decode C.b.code pc = .ok (.aload j, 2)) (hp : pc + 2 = pc') (hl : Ls[j]? = some (.val v)) (hv : v.isRef = true) (r : WkM F C h k n I pc' Ls (v :: st)) : WkM F C h k n I pc Ls st := by
  subst hp
  exact WkM.step (fun _ _ _ _ _ _ _ ha hx hby kt => XS.aload ha hx rfl (hb hby hd) hl hv kt) r
theorem WkM.istore {F : Nat} {j : Nat} {v : Int32} (Ls' : Array Slot) (hd : decode C.b.code pc = .ok (.istore j, 2)) (hp : pc + 2 = pc') (hl : storeLocals Ls j (.int v) = some Ls') (r : WkM F C h k n I pc' Ls' st) : WkM F C h k n I pc Ls (.int v :: st) := by
  subst hp
  exact WkM.step (fun _ _ _ _ _ _ _ ha hx hby kt => XS.istore ha hx rfl (hb hby hd) rfl hl kt) r
theorem WkM.behind {F : Nat} {b : Bdy} {N' : Nat} {Q' : Option Value → Heap → Lts → Prop} (hN : C.N ≤ N') (hFN : F ≤ N') (hk : k + b.room.cells = k') (hn : n + b.room.slots = n') (r : ∀ v h' J, h.size ≤ h'.size → Q' v h' J → WkM F C h' k' n' J pc' Ls (v.toList ++ rest))
    {p : Program} {e : Env} {s : State} {vm0 : Vm} {m : MethodId} {args : Array Value} {below : List Frame} {meth : Method} {c : Code} {T : State} {locs : List Loc} {k0 : Nat} (S : St C p e s vm0 m args below meth c T locs k0 h k n I) (hF : Fr F locs)
    {U0 : State} (q : ∃ (v : Option Value) (vm₁ : Vm) (B : Pt), (s.setVm vm0).WarmedH vm₁ ∧ Stand p C.l e C.b.room ((s.setVm vm0).setVm B.U.vm) m args below meth c B.U B.locs B.cells B.slots ∧ (s.setVm vm0).Since B.U.vm B.U.heap.size ∧ T.heap.size ≤ B.U.heap.size ∧
      (∃ L J, Q' v B.U.heap J ∧ VI C.Z J B.U.vm ∧ Fr N' L ∧ Ext C.Z.heap B.U.heap ∧ B.locs = locs ++ L ∧ B.cells = k + b.room.cells ∧ B.slots = n + b.room.slots) ∧ Steps p.tables e below U0 (B.U.setTop (mkF m pc' Ls (v.toList ++ rest)))) :
    ∃ t o, Steps p.tables e below U0 t ∧ t.status = .running ∧ Ended t below o ∧ Fini C s o t := by
  obtain ⟨v, vm₁, ⟨U, L2, k2, n2⟩, hW, X', hS', hg, ⟨L, J, y1, y2, y3, y4, y5, y6, y7⟩, hst⟩ := q
  dsimp only [Pt.U, Pt.locs, Pt.cells, Pt.slots] at X' hS' hg y1 y2 y3 y4 y5 y6 y7 hst
  subst y5 y6 y7 hk hn
  obtain ⟨A, ⟨b1, b2, b3, b4⟩, q1, q2, q3, q4, q5, q6⟩ := S
  have hg' : h.size ≤ U.heap.size := by rw [← q3]; exact hg
  obtain ⟨x1, x2, x3, x4⟩ := rebS b3 q1 X' hS' hg' b2 b1
  obtain ⟨t, o, h1, h2⟩ := r v U.heap J hg' y1 p e s U.vm m args below meth c U _ U.heap.size ⟨A, ⟨x4, x3, x2, y2⟩, Nat.le_refl _, x1, rfl, y4, Nat.le_trans q5 hg', Fr.app q6 fun y hy => Nat.le_trans hN (y3 y hy)⟩ (Fr.app hF fun y hy => Nat.le_trans hFN (y3 y hy))
  exact ⟨t, o, hst.trans h1, h2⟩
theorem WkM.callV {F : Nat} {b : Bdy} {N' : Nat} {as : Array Value} {Q' : Option Value → Heap → Lts → Prop} {idx W : Nat} {ps : List FieldType} {rt : Option FieldType} {argsL : List Value} {a : Addr} {y : MethodName} {K K' : String} (M : Cn C.l C.Z N' b as h I Q') (E : Exa C.Z h a K)
    (w1 : (Jvm.Cond.methodLink C.b.y.cls idx y).before a0 C.Z = true) (wd : (Jvm.Cond.declares y).before a0 C.Z = true) (wn : (Jvm.Cond.selects K' y y).before a0 C.Z = true) (ws : (Jvm.Cond.selects K y b.y).before a0 C.Z = true) (w2 : (Jvm.Cond.instanceMethod b.y).before a0 C.Z = true) (w3 : (Jvm.Cond.initialized b.y.cls).before a0 C.Z = true) (w4 : (Jvm.Cond.code b.y b.code b.maxL b.ret).before a0 C.Z = true) (hy : NoPoly y)
    (hN : C.N ≤ h.size → C.N ≤ N') (hN' : C.N ≤ h.size → N' ≤ h.size) (hFN : F ≤ N') (hf : b.room.frames + 1 ≤ C.b.room.frames) (hl : W + (b.maxL + 11) + b.room.locals ≤ C.b.room.locals) (hk : k + b.room.cells = k') (hn : n + b.room.slots = n') (hkc : k' ≤ C.b.room.cells) (hnc : n' ≤ C.b.room.slots)
    (hsz : Ls.size = C.b.maxL) (hpd : parseMethodDescriptor y.desc = some ⟨ps, rt⟩) (hlen : argsL.length = ps.length) (has : as = (.ref a :: argsL).toArray) (hst : st = argsL.reverse ++ .ref a :: rest) (hW : (rest.map fun v => v.category).sum ≤ W) (hd : decode C.b.code pc = .ok (.invokevirtual idx, 3)) (hp : pc + 3 = pc')
    (r : ∀ v h' J, h.size ≤ h'.size → Q' v h' J → WkM F C h' k' n' J pc' Ls (v.toList ++ rest)) : WkM F C h k n I pc Ls st := by
  subst hp has hst hk hn
  intro p e s vm0 m args below meth c T locs k0 S hF
  have hN := hN S.2.2.2.2.2.2.1
  refine WkM.behind (b := b) hN hFN rfl rfl r S hF ?_
  have hZ : C.Z.Warmed39 (s.setVm vm0).vm := S.2.1.2.1
  obtain ⟨cq, kq, qa, qb, qc⟩ := isOf (s := s.setVm vm0) hZ S.2.2.2.2.1 E
  exact S.2.2.2.1.virtualBackS S.1.1 (own := C.b.y.cls) (y := y) (z := b.y) S.2.1.1 (mvT hZ w1) (mvT hZ wd) (notFace_of_selects (args := #[]) (mvT hZ wn)) (mvT hZ ws) (mvT hZ w2) hy (Cn.back (a0 := a0) (W := W) M hZ S.2.1.2.2.2 S.2.2.2.2.2.1 (hN' S.2.2.2.2.2.2.1) (Nat.le_trans S.1.2.2.2.2.2.2.1 hN) w4 w3 hf hl) qa qc (g := mkF m pc Ls (argsL.reverse ++ .ref a :: rest)) rfl (hsz.trans S.1.2.2.1.symm) (Steps.refl _) (argsL := argsL) (rest := rest) (lenOf hpd hlen) rfl (by show 2 * 0 + _ ≤ _; omega) (hb S.1.2.1 hd) (fun _ _ => ⟨rfl, S.2.2.2.2.1, hkc, hnc⟩)
/-- a step that writes some places of one array -/
theorem Wk.lawK {b : Addr} {P : Heap → Prop} (hs : ∀ (p : Program) (e : Env) (s : State) (vm0 : Vm) (m : MethodId) (args : Array Value) (below : List Frame) (meth : Method) (c : Code) (T : State) (locs : List Loc) (k0 : Nat), St C p e s vm0 m args below meth c T locs k0 h k n I →
      ∃ T' h' L, Stand p C.l e C.b.room (s.setVm vm0) m args below meth c T' L k n ∧ T'.heap = h' ∧ Fr C.N L ∧ Keep h h' [b] ∧ P h' ∧ ∀ t, Steps p.tables e below (T'.setTop (mkF m pc' Ls' st')) t → Steps p.tables e below (T.setTop (mkF m pc Ls st)) t)
    (hb : C.N ≤ b) (r : ∀ h', Keep h h' [b] → P h' → Wk C h' k n I pc' Ls' st') : Wk C h k n I pc Ls st := fun p e s vm0 m args below meth c T locs k0 S => by
  obtain ⟨T', h', L, X', e', F', K, hp, st⟩ := hs p e s vm0 m args below meth c T locs k0 S
  obtain ⟨A, B, q1, q2, q3, q4, q5, q6⟩ := S
  have hO : Old C.Z C.Z.heap.size h := ⟨rfl, q4⟩
  obtain ⟨t, o, h1, h2⟩ := r h' K hp p e s vm0 m args below meth c T' L k0 ⟨A, B, Nat.le_trans q1 K.1, X', e', (hO.keep K (allS (Nat.le_trans A.2.2.2.2.2.2.1 hb) all0)).2, Nat.le_trans q5 K.1, F'⟩
  exact ⟨t, o, st t h1, h2⟩
theorem Wk.arraycopy {idx W : Nat} {a b : Addr} {q q' : ClassId} {ty ty' : FieldType} {z z' sp dp nn : Int32} {vs vd us : List Value} {dv dd : Value} (A : Arv C.Z h a q ty z vs dv) (B : Arv C.Z h b q' ty' z' vd dd) (hty : (ty = ty' ∧ refKind ty = false) ∨ (refKind ty = true ∧ refKind ty' = true ∧ StoL C.Z h b us)) (hN : C.N ≤ b)
    (w1 : (Jvm.Cond.methodLink C.b.y.cls idx Jvm.Stand.acN).before a0 C.Z = true) (w2 : (Jvm.Cond.native Jvm.Stand.acN).before a0 C.Z = true) (w3 : (Jvm.Cond.static Jvm.Stand.acN).before a0 C.Z = true) (w4 : (Jvm.Cond.initialized "java/lang/System").before a0 C.Z = true)
    (h1 : ¬ sp < 0) (h2 : ¬ dp < 0) (h3 : ¬ nn < 0) (h4 : sp.toNatClampNeg + nn.toNatClampNeg ≤ z.toNatClampNeg) (h5 : dp.toNatClampNeg + nn.toNatClampNeg ≤ z'.toNatClampNeg) (hus : us = (List.range nn.toNatClampNeg).map fun i => vs.getD (sp.toNatClampNeg + i) dv) (hlv : dp.toNatClampNeg + nn.toNatClampNeg ≤ vd.length)
    (hsz : Ls.size = C.b.maxL) (hd : decode C.b.code pc = .ok (.invokestatic idx, 3)) (hp : pc + 3 = pc') (hf : 1 ≤ C.b.room.frames) (hW : (st.map fun v => v.category).sum ≤ W) (hlo : W + (nativeFrameWords "java/lang/System" "arraycopy" 5 + 11) ≤ C.b.room.locals)
    (r : ∀ h', Keep h h' [b] → Arv C.Z h' b q' ty' z' (vd.take dp.toNatClampNeg ++ us ++ vd.drop (dp.toNatClampNeg + nn.toNatClampNeg)) dd → Wk C h' k n I pc' Ls st) : Wk C h k n I pc Ls (.int nn :: .int dp :: .ref b :: .int sp :: .ref a :: st) := by
  subst hp
  exact Wk.lawK (P := fun h' => Arv C.Z h' b q' ty' z' (vd.take dp.toNatClampNeg ++ us ++ vd.drop (dp.toNatClampNeg + nn.toNatClampNeg)) dd) (fun p e s vm0 m args below meth c T locs k0 S => cpA (g := mkF m pc Ls (.int nn :: .int dp :: .ref b :: .int sp :: .ref a :: st)) S.2.2.2.1 S.1.1 S.2.1.2.1 S.2.1.1 w1 w2 w3 w4 S.2.2.2.2.1 A B hty h1 h2 h3 h4 h5 hus hlv S.2.2.2.2.2.2.2 hN rfl (hsz.trans S.1.2.2.1.symm) rfl (hb S.1.2.1 hd) hf (W := W) (by show 2 * 0 + _ ≤ _; omega) hlo) hN r
theorem own_sm {s : State} {args : Array Value} {y y' : MethodName} {K' : String} (w2 : (Jvm.Cond.instanceMethod y).before args s = true) (hsel : (Jvm.Cond.selects K' y' y').before args s = true) (hc : y'.cls = y.cls) (hy : y.cls ≠ "java/lang/invoke/MethodHandle" ∧ y.cls ≠ "java/lang/invoke/VarHandle") : (Jvm.Cond.sameMethod y.cls y.cls y.name y.desc).before args s = true := by
  obtain ⟨mk, methM, hnamed, hmethM, hstM, habM⟩ := Cond.instanceMethod_spec w2
  obtain ⟨c2, r2, m2, q1, q2, q3, q4, kP, hkP, hkPi⟩ := Cond.selects_spec hsel
  have e1 := findClass_of_methodNamed q3
  have e2 := findClass_of_methodNamed hnamed
  rw [hc, e2] at e1
  have e3 := Option.some.inj e1
  have hf := State.methodFound?_of_named hnamed hy
  have hn : s.methodNamed? ⟨y.cls, y.name, y.desc⟩ = some mk := hnamed
  have hk : s.vm.classes[mk.cls]? = some kP := by rw [e3]; exact hkP
  simp only [Cond.before, Cond.holds, Cond.value, e2, hf, hn, hk]
  simp [hkPi]
theorem Wk.callZ {b : Bdy} {N' : Nat} {as : Array Value} {Q' : Option Value → Heap → Lts → Prop} {idx W : Nat} {ps : List FieldType} {rt : Option FieldType} {argsL : List Value} {a : Addr} {K : String} (M : Cn C.l C.Z N' b as h I Q') (F : Ins C.Z h a K true)
    (w1 : (Jvm.Cond.methodLink C.b.y.cls idx b.y).before a0 C.Z = true) {K' : String} {y' : MethodName} (wn : (Jvm.Cond.selects K' y' y').before a0 C.Z = true) (hyc : y'.cls = b.y.cls) (hpo : NoPoly b.y) (w2 : (Jvm.Cond.instanceMethod b.y).before a0 C.Z = true) (wu : (Jvm.Cond.superclass C.b.y.cls b.y.cls).before a0 C.Z = true) (hni : b.y.name ≠ "<init>") (w3 : (Jvm.Cond.initialized b.y.cls).before a0 C.Z = true) (w4 : (Jvm.Cond.code b.y b.code b.maxL b.ret).before a0 C.Z = true)
    (hN : C.N ≤ N') (hN' : C.N ≤ h.size → N' ≤ h.size) (hf : b.room.frames + 1 ≤ C.b.room.frames) (hl : W + (b.maxL + 11) + b.room.locals ≤ C.b.room.locals) (hk : k + b.room.cells = k') (hn : n + b.room.slots = n') (hkc : k' ≤ C.b.room.cells) (hnc : n' ≤ C.b.room.slots)
    (hsz : Ls.size = C.b.maxL) (hpd : parseMethodDescriptor b.y.desc = some ⟨ps, rt⟩) (hlen : argsL.length = ps.length) (has : as = (.ref a :: argsL).toArray) (hst : st = argsL.reverse ++ .ref a :: rest) (hW : (rest.map fun v => v.category).sum ≤ W) (hd : decode C.b.code pc = .ok (.invokespecial idx, 3)) (hp : pc + 3 = pc')
    (r : ∀ v h' J, h.size ≤ h'.size → Q' v h' J → Wk C h' k' n' J pc' Ls (v.toList ++ rest)) : Wk C h k n I pc Ls st := by
  subst hp has hst hk hn
  intro p e s vm0 m args below meth c T locs k0 S
  refine Wk.behind (b := b) hN rfl rfl r S ?_
  have hZ : C.Z.Warmed39 (s.setVm vm0).vm := S.2.1.2.1
  exact superBackS (a0 := a0) S.2.2.2.1 S.1.1 hZ (own := C.b.y.cls) S.2.1.1 w1 (own_sm w2 wn hyc hpo) w2 wu hni (Cn.back (a0 := a0) (W := W) M hZ S.2.1.2.2.2 S.2.2.2.2.2.1 (hN' S.2.2.2.2.2.2.1) (Nat.le_trans S.1.2.2.2.2.2.2.1 hN) w4 w3 hf hl) S.2.2.2.2.1 F (g := mkF m pc Ls (argsL.reverse ++ .ref a :: rest)) rfl (hsz.trans S.1.2.2.1.symm) w4 (argsL := argsL) (rest := rest) (lenOf hpd hlen) rfl (by show 2 * 0 + _ ≤ _; omega) (hb S.1.2.1 hd) (fun _ _ => ⟨rfl, S.2.2.2.2.1, hkc, hnc⟩)
theorem Wk.callV2 {b : Bdy} {N' : Nat} {as : Array Value} {Q' : Option Value → Heap → Lts → Prop} {idx W : Nat} {ps : List FieldType} {rt : Option FieldType} {argsL : List Value} {a : Addr} {y y' : MethodName} {K K' : String} (M : Cn C.l C.Z N' b as h I Q') (E : Exa C.Z h a K)
    (w1 : (Jvm.Cond.methodLink C.b.y.cls idx y).before a0 C.Z = true) (wd : (Jvm.Cond.declares y).before a0 C.Z = true) (wn : (Jvm.Cond.selects K' y' y').before a0 C.Z = true) (hyc : y'.cls = y.cls) (ws : (Jvm.Cond.selects K y b.y).before a0 C.Z = true) (w2 : (Jvm.Cond.instanceMethod b.y).before a0 C.Z = true) (w3 : (Jvm.Cond.initialized b.y.cls).before a0 C.Z = true) (w4 : (Jvm.Cond.code b.y b.code b.maxL b.ret).before a0 C.Z = true) (hy : NoPoly y)
    (hN : C.N ≤ N') (hN' : C.N ≤ h.size → N' ≤ h.size) (hf : b.room.frames + 1 ≤ C.b.room.frames) (hl : W + (b.maxL + 11) + b.room.locals ≤ C.b.room.locals) (hk : k + b.room.cells = k') (hn : n + b.room.slots = n') (hkc : k' ≤ C.b.room.cells) (hnc : n' ≤ C.b.room.slots)
    (hsz : Ls.size = C.b.maxL) (hpd : parseMethodDescriptor y.desc = some ⟨ps, rt⟩) (hlen : argsL.length = ps.length) (has : as = (.ref a :: argsL).toArray) (hst : st = argsL.reverse ++ .ref a :: rest) (hW : (rest.map fun v => v.category).sum ≤ W) (hd : decode C.b.code pc = .ok (.invokevirtual idx, 3)) (hp : pc + 3 = pc')
    (r : ∀ v h' J, h.size ≤ h'.size → Q' v h' J → Wk C h' k' n' J pc' Ls (v.toList ++ rest)) : Wk C h k n I pc Ls st := by
  subst hp has hst hk hn
  intro p e s vm0 m args below meth c T locs k0 S
  refine Wk.behind (b := b) hN rfl rfl r S ?_
  have hZ : C.Z.Warmed39 (s.setVm vm0).vm := S.2.1.2.1
  obtain ⟨cq, kq, qa, qb, qc⟩ := isOf (s := s.setVm vm0) hZ S.2.2.2.2.1 E
  exact S.2.2.2.1.virtualBackS S.1.1 (own := C.b.y.cls) (y := y) (z := b.y) S.2.1.1 (mvT hZ w1) (mvT hZ wd) (own_nf (args := #[]) (mvT hZ wn) hyc) (mvT hZ ws) (mvT hZ w2) hy (Cn.back (a0 := a0) (W := W) M hZ S.2.1.2.2.2 S.2.2.2.2.2.1 (hN' S.2.2.2.2.2.2.1) (Nat.le_trans S.1.2.2.2.2.2.2.1 hN) w4 w3 hf hl) qa qc (g := mkF m pc Ls (argsL.reverse ++ .ref a :: rest)) rfl (hsz.trans S.1.2.2.1.symm) (Steps.refl _) (argsL := argsL) (rest := rest) (lenOf hpd hlen) rfl (by show 2 * 0 + _ ≤ _; omega) (hb S.1.2.1 hd) (fun _ _ => ⟨rfl, S.2.2.2.2.1, hkc, hnc⟩)
end Kit2
theorem w0 {Z : State} {a0 : Array Value} (hw : ∀ d ∈ tables_1, d.before a0 Z = true) : (Jvm.Cond.arrayClass Jvm.ClassFile.FieldType.char).before a0 Z = true := hw _ (List.mem_of_getElem? (i := 0) rfl)
theorem w1 {Z : State} {a0 : Array Value} (hw : ∀ d ∈ tables_1, d.before a0 Z = true) : (Jvm.Cond.methodLink "com/example/quittance/quittance/SegmentEndPinLaw" (7 : Nat) ({ cls := "com/example/quittance/quittance/SegmentEndPinLaw", name := "pick", desc := "(I)C" } : Jvm.MethodName)).before a0 Z = true := hw _ (List.mem_of_getElem? (i := 1) rfl)
theorem w2 {Z : State} {a0 : Array Value} (hw : ∀ d ∈ tables_1, d.before a0 Z = true) : (Jvm.Cond.static ({ cls := "com/example/quittance/quittance/SegmentEndPinLaw", name := "pick", desc := "(I)C" } : Jvm.MethodName)).before a0 Z = true := hw _ (List.mem_of_getElem? (i := 2) rfl)
theorem w3 {Z : State} {a0 : Array Value} (hw : ∀ d ∈ tables_1, d.before a0 Z = true) : (Jvm.Cond.initialized "com/example/quittance/quittance/SegmentEndPinLaw").before a0 Z = true := hw _ (List.mem_of_getElem? (i := 3) rfl)
theorem w4 {Z : State} {a0 : Array Value} (hw : ∀ d ∈ tables_1, d.before a0 Z = true) : (Jvm.Cond.code ({ cls := "com/example/quittance/quittance/SegmentEndPinLaw", name := "pick", desc := "(I)C" } : Jvm.MethodName) method_3_code (2 : Nat) (Option.some Jvm.ClassFile.FieldType.char)).before a0 Z = true := hw _ (List.mem_of_getElem? (i := 4) rfl)
theorem w5 {Z : State} {a0 : Array Value} (hw : ∀ d ∈ tables_1, d.before a0 Z = true) : (Jvm.Cond.constant "com/example/quittance/quittance/SegmentEndPinLaw" (13 : Nat) (2147483647 : Int32)).before a0 Z = true := hw _ (List.mem_of_getElem? (i := 5) rfl)
theorem w6 {Z : State} {a0 : Array Value} (hw : ∀ d ∈ tables_1, d.before a0 Z = true) : (Jvm.Cond.methodLink "com/example/quittance/quittance/SegmentEndPinLaw" (14 : Nat) ({ cls := "com/example/quittance/quittance/SegmentEndPinLaw", name := "expected", desc := "([CIII)I" } : Jvm.MethodName)).before a0 Z = true := hw _ (List.mem_of_getElem? (i := 6) rfl)
theorem w7 {Z : State} {a0 : Array Value} (hw : ∀ d ∈ tables_1, d.before a0 Z = true) : (Jvm.Cond.static ({ cls := "com/example/quittance/quittance/SegmentEndPinLaw", name := "expected", desc := "([CIII)I" } : Jvm.MethodName)).before a0 Z = true := hw _ (List.mem_of_getElem? (i := 7) rfl)
theorem w8 {Z : State} {a0 : Array Value} (hw : ∀ d ∈ tables_1, d.before a0 Z = true) : (Jvm.Cond.code ({ cls := "com/example/quittance/quittance/SegmentEndPinLaw", name := "expected", desc := "([CIII)I" } : Jvm.MethodName) method_7_code (5 : Nat) (Option.some Jvm.ClassFile.FieldType.int)).before a0 Z = true := hw _ (List.mem_of_getElem? (i := 8) rfl)
theorem w9 {Z : State} {a0 : Array Value} (hw : ∀ d ∈ tables_1, d.before a0 Z = true) : (Jvm.Cond.methodLink "com/example/quittance/quittance/SegmentEndPinLaw" (39 : Nat) ({ cls := "com/example/quittance/quittance/SegmentEndPinLaw", name := "nextSep", desc := "([CII)I" } : Jvm.MethodName)).before a0 Z = true := hw _ (List.mem_of_getElem? (i := 9) rfl)
theorem w10 {Z : State} {a0 : Array Value} (hw : ∀ d ∈ tables_1, d.before a0 Z = true) : (Jvm.Cond.static ({ cls := "com/example/quittance/quittance/SegmentEndPinLaw", name := "nextSep", desc := "([CII)I" } : Jvm.MethodName)).before a0 Z = true := hw _ (List.mem_of_getElem? (i := 10) rfl)
theorem w11 {Z : State} {a0 : Array Value} (hw : ∀ d ∈ tables_1, d.before a0 Z = true) : (Jvm.Cond.code ({ cls := "com/example/quittance/quittance/SegmentEndPinLaw", name := "nextSep", desc := "([CII)I" } : Jvm.MethodName) method_4_code (3 : Nat) (Option.some Jvm.ClassFile.FieldType.int)).before a0 Z = true := hw _ (List.mem_of_getElem? (i := 11) rfl)
theorem w12 {Z : State} {a0 : Array Value} (hw : ∀ d ∈ tables_1, d.before a0 Z = true) : (Jvm.Cond.methodLink "com/example/quittance/quittance/SegmentEndPinLaw" (52 : Nat) ({ cls := "com/example/quittance/quittance/SegmentEndPinLaw", name := "walk", desc := "([CIII)I" } : Jvm.MethodName)).before a0 Z = true := hw _ (List.mem_of_getElem? (i := 12) rfl)
theorem w13 {Z : State} {a0 : Array Value} (hw : ∀ d ∈ tables_1, d.before a0 Z = true) : (Jvm.Cond.static ({ cls := "com/example/quittance/quittance/SegmentEndPinLaw", name := "walk", desc := "([CIII)I" } : Jvm.MethodName)).before a0 Z = true := hw _ (List.mem_of_getElem? (i := 13) rfl)
theorem w14 {Z : State} {a0 : Array Value} (hw : ∀ d ∈ tables_1, d.before a0 Z = true) : (Jvm.Cond.code ({ cls := "com/example/quittance/quittance/SegmentEndPinLaw", name := "walk", desc := "([CIII)I" } : Jvm.MethodName) method_6_code (6 : Nat) (Option.some Jvm.ClassFile.FieldType.int)).before a0 Z = true := hw _ (List.mem_of_getElem? (i := 14) rfl)
theorem w15 {Z : State} {a0 : Array Value} (hw : ∀ d ∈ tables_1, d.before a0 Z = true) : (Jvm.Cond.methodLink "com/example/quittance/quittance/SegmentEndPinLaw" (43 : Nat) ({ cls := "java/lang/Math", name := "min", desc := "(II)I" } : Jvm.MethodName)).before a0 Z = true := hw _ (List.mem_of_getElem? (i := 15) rfl)
theorem w16 {Z : State} {a0 : Array Value} (hw : ∀ d ∈ tables_1, d.before a0 Z = true) : (Jvm.Cond.static ({ cls := "java/lang/Math", name := "min", desc := "(II)I" } : Jvm.MethodName)).before a0 Z = true := hw _ (List.mem_of_getElem? (i := 16) rfl)
theorem w17 {Z : State} {a0 : Array Value} (hw : ∀ d ∈ tables_1, d.before a0 Z = true) : (Jvm.Cond.initialized "java/lang/Math").before a0 Z = true := hw _ (List.mem_of_getElem? (i := 17) rfl)
theorem w18 {Z : State} {a0 : Array Value} (hw : ∀ d ∈ tables_1, d.before a0 Z = true) : (Jvm.Cond.code ({ cls := "java/lang/Math", name := "min", desc := "(II)I" } : Jvm.MethodName) jdk_29_method_69_code (2 : Nat) (Option.some Jvm.ClassFile.FieldType.int)).before a0 Z = true := hw _ (List.mem_of_getElem? (i := 18) rfl)
theorem w19 {Z : State} {a0 : Array Value} (hw : ∀ d ∈ tables_1, d.before a0 Z = true) : (Jvm.Cond.classLink "com/example/quittance/quittance/SegmentEndPinLaw" (18 : Nat) "com/example/quittance/quittance/Delimiters").before a0 Z = true := hw _ (List.mem_of_getElem? (i := 19) rfl)
theorem w20 {Z : State} {a0 : Array Value} (hw : ∀ d ∈ tables_1, d.before a0 Z = true) : (Jvm.Cond.instantiable "com/example/quittance/quittance/Delimiters" (2 : Nat)).before a0 Z = true := hw _ (List.mem_of_getElem? (i := 20) rfl)
theorem w21 {Z : State} {a0 : Array Value} (hw : ∀ d ∈ tables_1, d.before a0 Z = true) : (Jvm.Cond.initialized "com/example/quittance/quittance/Delimiters").before a0 Z = true := hw _ (List.mem_of_getElem? (i := 21) rfl)
theorem w22 {Z : State} {a0 : Array Value} (hw : ∀ d ∈ tables_1, d.before a0 Z = true) : (Jvm.Cond.stringLink "com/example/quittance/quittance/SegmentEndPinLaw" (20 : Nat) "^~\\&").before a0 Z = true := hw _ (List.mem_of_getElem? (i := 22) rfl)
theorem w23 {Z : State} {a0 : Array Value} (hw : ∀ d ∈ tables_1, d.before a0 Z = true) : (Jvm.Cond.initialized "java/lang/String").before a0 Z = true := hw _ (List.mem_of_getElem? (i := 23) rfl)
theorem w24 {Z : State} {a0 : Array Value} (hw : ∀ d ∈ tables_1, d.before a0 Z = true) : (Jvm.Cond.instantiable "java/lang/String" (4 : Nat)).before a0 Z = true := hw _ (List.mem_of_getElem? (i := 24) rfl)
theorem w25 {Z : State} {a0 : Array Value} (hw : ∀ d ∈ tables_1, d.before a0 Z = true) : (Jvm.Cond.arrayClass Jvm.ClassFile.FieldType.byte).before a0 Z = true := hw _ (List.mem_of_getElem? (i := 25) rfl)
theorem w26 {Z : State} {a0 : Array Value} (hw : ∀ d ∈ tables_1, d.before a0 Z = true) : (Jvm.Cond.laysFinal "java/lang/String" "java/lang/String" "value" "[B").before a0 Z = true := hw _ (List.mem_of_getElem? (i := 26) rfl)
theorem w27 {Z : State} {a0 : Array Value} (hw : ∀ d ∈ tables_1, d.before a0 Z = true) : (Jvm.Cond.laysFinal "java/lang/String" "java/lang/String" "coder" "B").before a0 Z = true := hw _ (List.mem_of_getElem? (i := 27) rfl)
theorem w28 {Z : State} {a0 : Array Value} (hw : ∀ d ∈ tables_1, d.before a0 Z = true) : (Jvm.Cond.soleField "java/lang/String" "value").before a0 Z = true := hw _ (List.mem_of_getElem? (i := 28) rfl)
theorem w29 {Z : State} {a0 : Array Value} (hw : ∀ d ∈ tables_1, d.before a0 Z = true) : (Jvm.Cond.soleField "java/lang/String" "coder").before a0 Z = true := hw _ (List.mem_of_getElem? (i := 29) rfl)
theorem w30 {Z : State} {a0 : Array Value} (hw : ∀ d ∈ tables_1, d.before a0 Z = true) : (Jvm.Cond.methodLink "com/example/quittance/quittance/SegmentEndPinLaw" (22 : Nat) ({ cls := "com/example/quittance/quittance/Delimiters", name := "<init>", desc := "(CLjava/lang/String;)V" } : Jvm.MethodName)).before a0 Z = true := hw _ (List.mem_of_getElem? (i := 30) rfl)
theorem w31 {Z : State} {a0 : Array Value} (hw : ∀ d ∈ tables_1, d.before a0 Z = true) : (Jvm.Cond.instanceMethod ({ cls := "com/example/quittance/quittance/Delimiters", name := "<init>", desc := "(CLjava/lang/String;)V" } : Jvm.MethodName)).before a0 Z = true := hw _ (List.mem_of_getElem? (i := 31) rfl)
theorem w32 {Z : State} {a0 : Array Value} (hw : ∀ d ∈ tables_1, d.before a0 Z = true) : (Jvm.Cond.code ({ cls := "com/example/quittance/quittance/Delimiters", name := "<init>", desc := "(CLjava/lang/String;)V" } : Jvm.MethodName) prog_23_method_1_code (3 : Nat) (Option.none : Option Jvm.ClassFile.FieldType)).before a0 Z = true := hw _ (List.mem_of_getElem? (i := 32) rfl)
theorem w33 {Z : State} {a0 : Array Value} (hw : ∀ d ∈ tables_1, d.before a0 Z = true) : (Jvm.Cond.methodLink "com/example/quittance/quittance/Delimiters" (1 : Nat) ({ cls := "java/lang/Record", name := "<init>", desc := "()V" } : Jvm.MethodName)).before a0 Z = true := hw _ (List.mem_of_getElem? (i := 33) rfl)
theorem w34 {Z : State} {a0 : Array Value} (hw : ∀ d ∈ tables_1, d.before a0 Z = true) : (Jvm.Cond.instanceMethod ({ cls := "java/lang/Record", name := "<init>", desc := "()V" } : Jvm.MethodName)).before a0 Z = true := hw _ (List.mem_of_getElem? (i := 34) rfl)
theorem w36 {Z : State} {a0 : Array Value} (hw : ∀ d ∈ tables_1, d.before a0 Z = true) : (Jvm.Cond.initialized "java/lang/Record").before a0 Z = true := hw _ (List.mem_of_getElem? (i := 36) rfl)
theorem w37 {Z : State} {a0 : Array Value} (hw : ∀ d ∈ tables_1, d.before a0 Z = true) : (Jvm.Cond.code ({ cls := "java/lang/Record", name := "<init>", desc := "()V" } : Jvm.MethodName) jdk_30_method_1_code (1 : Nat) (Option.none : Option Jvm.ClassFile.FieldType)).before a0 Z = true := hw _ (List.mem_of_getElem? (i := 37) rfl)
theorem w38 {Z : State} {a0 : Array Value} (hw : ∀ d ∈ tables_1, d.before a0 Z = true) : (Jvm.Cond.methodLink "java/lang/Record" (1 : Nat) ({ cls := "java/lang/Object", name := "<init>", desc := "()V" } : Jvm.MethodName)).before a0 Z = true := hw _ (List.mem_of_getElem? (i := 38) rfl)
theorem w39 {Z : State} {a0 : Array Value} (hw : ∀ d ∈ tables_1, d.before a0 Z = true) : (Jvm.Cond.instanceMethod ({ cls := "java/lang/Object", name := "<init>", desc := "()V" } : Jvm.MethodName)).before a0 Z = true := hw _ (List.mem_of_getElem? (i := 39) rfl)
theorem w40 {Z : State} {a0 : Array Value} (hw : ∀ d ∈ tables_1, d.before a0 Z = true) : (Jvm.Cond.code ({ cls := "java/lang/Object", name := "<init>", desc := "()V" } : Jvm.MethodName) object_method_1_code (1 : Nat) (Option.none : Option Jvm.ClassFile.FieldType)).before a0 Z = true := hw _ (List.mem_of_getElem? (i := 40) rfl)
theorem w41 {Z : State} {a0 : Array Value} (hw : ∀ d ∈ tables_1, d.before a0 Z = true) : (Jvm.Cond.fieldLink "com/example/quittance/quittance/Delimiters" (7 : Nat) "com/example/quittance/quittance/Delimiters" "field" "C").before a0 Z = true := hw _ (List.mem_of_getElem? (i := 41) rfl)
theorem w42 {Z : State} {a0 : Array Value} (hw : ∀ d ∈ tables_1, d.before a0 Z = true) : (Jvm.Cond.laysFinal "com/example/quittance/quittance/Delimiters" "com/example/quittance/quittance/Delimiters" "field" "C").before a0 Z = true := hw _ (List.mem_of_getElem? (i := 42) rfl)
theorem w43 {Z : State} {a0 : Array Value} (hw : ∀ d ∈ tables_1, d.before a0 Z = true) : (Jvm.Cond.fieldLink "com/example/quittance/quittance/Delimiters" (13 : Nat) "com/example/quittance/quittance/Delimiters" "encodingCharacters" "Ljava/lang/String;").before a0 Z = true := hw _ (List.mem_of_getElem? (i := 43) rfl)
theorem w44 {Z : State} {a0 : Array Value} (hw : ∀ d ∈ tables_1, d.before a0 Z = true) : (Jvm.Cond.laysFinal "com/example/quittance/quittance/Delimiters" "com/example/quittance/quittance/Delimiters" "encodingCharacters" "Ljava/lang/String;").before a0 Z = true := hw _ (List.mem_of_getElem? (i := 44) rfl)
theorem w45 {Z : State} {a0 : Array Value} (hw : ∀ d ∈ tables_1, d.before a0 Z = true) : (Jvm.Cond.classLink "com/example/quittance/quittance/SegmentEndPinLaw" (25 : Nat) "com/example/quittance/quittance/Segment").before a0 Z = true := hw _ (List.mem_of_getElem? (i := 45) rfl)
theorem w46 {Z : State} {a0 : Array Value} (hw : ∀ d ∈ tables_1, d.before a0 Z = true) : (Jvm.Cond.instantiable "com/example/quittance/quittance/Segment" (5 : Nat)).before a0 Z = true := hw _ (List.mem_of_getElem? (i := 46) rfl)
theorem w47 {Z : State} {a0 : Array Value} (hw : ∀ d ∈ tables_1, d.before a0 Z = true) : (Jvm.Cond.initialized "com/example/quittance/quittance/Segment").before a0 Z = true := hw _ (List.mem_of_getElem? (i := 47) rfl)
theorem w48 {Z : State} {a0 : Array Value} (hw : ∀ d ∈ tables_1, d.before a0 Z = true) : (Jvm.Cond.classLink "com/example/quittance/quittance/SegmentEndPinLaw" (27 : Nat) "java/lang/String").before a0 Z = true := hw _ (List.mem_of_getElem? (i := 48) rfl)
theorem w49 {Z : State} {a0 : Array Value} (hw : ∀ d ∈ tables_1, d.before a0 Z = true) : (Jvm.Cond.methodLink "com/example/quittance/quittance/SegmentEndPinLaw" (29 : Nat) ({ cls := "java/lang/String", name := "<init>", desc := "([C)V" } : Jvm.MethodName)).before a0 Z = true := hw _ (List.mem_of_getElem? (i := 49) rfl)
theorem w50 {Z : State} {a0 : Array Value} (hw : ∀ d ∈ tables_1, d.before a0 Z = true) : (Jvm.Cond.instanceMethod ({ cls := "java/lang/String", name := "<init>", desc := "([C)V" } : Jvm.MethodName)).before a0 Z = true := hw _ (List.mem_of_getElem? (i := 50) rfl)
theorem w51 {Z : State} {a0 : Array Value} (hw : ∀ d ∈ tables_1, d.before a0 Z = true) : (Jvm.Cond.code ({ cls := "java/lang/String", name := "<init>", desc := "([C)V" } : Jvm.MethodName) jdk_42_method_3_code (2 : Nat) (Option.none : Option Jvm.ClassFile.FieldType)).before a0 Z = true := hw _ (List.mem_of_getElem? (i := 51) rfl)
theorem w52 {Z : State} {a0 : Array Value} (hw : ∀ d ∈ tables_1, d.before a0 Z = true) : (Jvm.Cond.methodLink "java/lang/String" (27 : Nat) ({ cls := "java/lang/String", name := "<init>", desc := "([CIILjava/lang/Void;)V" } : Jvm.MethodName)).before a0 Z = true := hw _ (List.mem_of_getElem? (i := 52) rfl)
theorem w53 {Z : State} {a0 : Array Value} (hw : ∀ d ∈ tables_1, d.before a0 Z = true) : (Jvm.Cond.instanceMethod ({ cls := "java/lang/String", name := "<init>", desc := "([CIILjava/lang/Void;)V" } : Jvm.MethodName)).before a0 Z = true := hw _ (List.mem_of_getElem? (i := 53) rfl)
theorem w55 {Z : State} {a0 : Array Value} (hw : ∀ d ∈ tables_1, d.before a0 Z = true) : (Jvm.Cond.code ({ cls := "java/lang/String", name := "<init>", desc := "([CIILjava/lang/Void;)V" } : Jvm.MethodName) jdk_42_method_149_code (6 : Nat) (Option.none : Option Jvm.ClassFile.FieldType)).before a0 Z = true := hw _ (List.mem_of_getElem? (i := 55) rfl)
theorem w56 {Z : State} {a0 : Array Value} (hw : ∀ d ∈ tables_1, d.before a0 Z = true) : (Jvm.Cond.methodLink "java/lang/String" (1 : Nat) ({ cls := "java/lang/Object", name := "<init>", desc := "()V" } : Jvm.MethodName)).before a0 Z = true := hw _ (List.mem_of_getElem? (i := 56) rfl)
theorem w57 {Z : State} {a0 : Array Value} (hw : ∀ d ∈ tables_1, d.before a0 Z = true) : (Jvm.Cond.fieldLink "java/lang/String" (38 : Nat) "java/lang/String" "COMPACT_STRINGS" "Z").before a0 Z = true := hw _ (List.mem_of_getElem? (i := 57) rfl)
theorem w58 {Z : State} {a0 : Array Value} (hw : ∀ d ∈ tables_1, d.before a0 Z = true) : (Jvm.Cond.methodLink "java/lang/String" (177 : Nat) ({ cls := "java/lang/StringUTF16", name := "compress", desc := "([CII)[B" } : Jvm.MethodName)).before a0 Z = true := hw _ (List.mem_of_getElem? (i := 58) rfl)
theorem w59 {Z : State} {a0 : Array Value} (hw : ∀ d ∈ tables_1, d.before a0 Z = true) : (Jvm.Cond.static ({ cls := "java/lang/StringUTF16", name := "compress", desc := "([CII)[B" } : Jvm.MethodName)).before a0 Z = true := hw _ (List.mem_of_getElem? (i := 59) rfl)
theorem w60 {Z : State} {a0 : Array Value} (hw : ∀ d ∈ tables_1, d.before a0 Z = true) : (Jvm.Cond.initialized "java/lang/StringUTF16").before a0 Z = true := hw _ (List.mem_of_getElem? (i := 60) rfl)
theorem w61 {Z : State} {a0 : Array Value} (hw : ∀ d ∈ tables_1, d.before a0 Z = true) : (Jvm.Cond.code ({ cls := "java/lang/StringUTF16", name := "compress", desc := "([CII)[B" } : Jvm.MethodName) jdk_52_method_16_code (6 : Nat) (Option.some (Jvm.ClassFile.FieldType.array Jvm.ClassFile.FieldType.byte))).before a0 Z = true := hw _ (List.mem_of_getElem? (i := 61) rfl)
theorem w62 {Z : State} {a0 : Array Value} (hw : ∀ d ∈ tables_1, d.before a0 Z = true) : (Jvm.Cond.methodLink "java/lang/StringUTF16" (115 : Nat) ({ cls := "java/lang/StringUTF16", name := "compress", desc := "([CI[BII)I" } : Jvm.MethodName)).before a0 Z = true := hw _ (List.mem_of_getElem? (i := 62) rfl)
theorem w63 {Z : State} {a0 : Array Value} (hw : ∀ d ∈ tables_1, d.before a0 Z = true) : (Jvm.Cond.static ({ cls := "java/lang/StringUTF16", name := "compress", desc := "([CI[BII)I" } : Jvm.MethodName)).before a0 Z = true := hw _ (List.mem_of_getElem? (i := 63) rfl)
theorem w64 {Z : State} {a0 : Array Value} (hw : ∀ d ∈ tables_1, d.before a0 Z = true) : (Jvm.Cond.code ({ cls := "java/lang/StringUTF16", name := "compress", desc := "([CI[BII)I" } : Jvm.MethodName) jdk_52_method_21_code (7 : Nat) (Option.some Jvm.ClassFile.FieldType.int)).before a0 Z = true := hw _ (List.mem_of_getElem? (i := 64) rfl)
theorem w65 {Z : State} {a0 : Array Value} (hw : ∀ d ∈ tables_1, d.before a0 Z = true) : (Jvm.Cond.methodLink "java/lang/String" (47 : Nat) ({ cls := "java/lang/StringUTF16", name := "coderFromArrayLen", desc := "([BI)B" } : Jvm.MethodName)).before a0 Z = true := hw _ (List.mem_of_getElem? (i := 65) rfl)
theorem w66 {Z : State} {a0 : Array Value} (hw : ∀ d ∈ tables_1, d.before a0 Z = true) : (Jvm.Cond.static ({ cls := "java/lang/StringUTF16", name := "coderFromArrayLen", desc := "([BI)B" } : Jvm.MethodName)).before a0 Z = true := hw _ (List.mem_of_getElem? (i := 66) rfl)
theorem w67 {Z : State} {a0 : Array Value} (hw : ∀ d ∈ tables_1, d.before a0 Z = true) : (Jvm.Cond.code ({ cls := "java/lang/StringUTF16", name := "coderFromArrayLen", desc := "([BI)B" } : Jvm.MethodName) jdk_52_method_15_code (2 : Nat) (Option.some Jvm.ClassFile.FieldType.byte)).before a0 Z = true := hw _ (List.mem_of_getElem? (i := 67) rfl)
theorem w68 {Z : State} {a0 : Array Value} (hw : ∀ d ∈ tables_1, d.before a0 Z = true) : (Jvm.Cond.fieldLink "java/lang/String" (15 : Nat) "java/lang/String" "coder" "B").before a0 Z = true := hw _ (List.mem_of_getElem? (i := 68) rfl)
theorem w69 {Z : State} {a0 : Array Value} (hw : ∀ d ∈ tables_1, d.before a0 Z = true) : (Jvm.Cond.fieldLink "java/lang/String" (9 : Nat) "java/lang/String" "value" "[B").before a0 Z = true := hw _ (List.mem_of_getElem? (i := 69) rfl)
theorem w70 {Z : State} {a0 : Array Value} (hw : ∀ d ∈ tables_1, d.before a0 Z = true) : (Jvm.Cond.methodLink "com/example/quittance/quittance/SegmentEndPinLaw" (32 : Nat) ({ cls := "com/example/quittance/quittance/Segment", name := "<init>", desc := "(Ljava/lang/String;IILcom/example/quittance/quittance/Delimiters;)V" } : Jvm.MethodName)).before a0 Z = true := hw _ (List.mem_of_getElem? (i := 70) rfl)
theorem w71 {Z : State} {a0 : Array Value} (hw : ∀ d ∈ tables_1, d.before a0 Z = true) : (Jvm.Cond.instanceMethod ({ cls := "com/example/quittance/quittance/Segment", name := "<init>", desc := "(Ljava/lang/String;IILcom/example/quittance/quittance/Delimiters;)V" } : Jvm.MethodName)).before a0 Z = true := hw _ (List.mem_of_getElem? (i := 71) rfl)
theorem w72 {Z : State} {a0 : Array Value} (hw : ∀ d ∈ tables_1, d.before a0 Z = true) : (Jvm.Cond.code ({ cls := "com/example/quittance/quittance/Segment", name := "<init>", desc := "(Ljava/lang/String;IILcom/example/quittance/quittance/Delimiters;)V" } : Jvm.MethodName) prog_111_method_2_code (13 : Nat) (Option.none : Option Jvm.ClassFile.FieldType)).before a0 Z = true := hw _ (List.mem_of_getElem? (i := 72) rfl)
theorem w73 {Z : State} {a0 : Array Value} (hw : ∀ d ∈ tables_1, d.before a0 Z = true) : (Jvm.Cond.methodLink "com/example/quittance/quittance/Segment" (13 : Nat) ({ cls := "java/lang/Object", name := "<init>", desc := "()V" } : Jvm.MethodName)).before a0 Z = true := hw _ (List.mem_of_getElem? (i := 73) rfl)
theorem w74 {Z : State} {a0 : Array Value} (hw : ∀ d ∈ tables_1, d.before a0 Z = true) : (Jvm.Cond.methodLink "com/example/quittance/quittance/Segment" (18 : Nat) ({ cls := "com/example/quittance/quittance/Delimiters", name := "field", desc := "()C" } : Jvm.MethodName)).before a0 Z = true := hw _ (List.mem_of_getElem? (i := 74) rfl)
theorem w75 {Z : State} {a0 : Array Value} (hw : ∀ d ∈ tables_1, d.before a0 Z = true) : (Jvm.Cond.declares ({ cls := "com/example/quittance/quittance/Delimiters", name := "field", desc := "()C" } : Jvm.MethodName)).before a0 Z = true := hw _ (List.mem_of_getElem? (i := 75) rfl)
theorem w76 {Z : State} {a0 : Array Value} (hw : ∀ d ∈ tables_1, d.before a0 Z = true) : (Jvm.Cond.instanceMethod ({ cls := "com/example/quittance/quittance/Delimiters", name := "field", desc := "()C" } : Jvm.MethodName)).before a0 Z = true := hw _ (List.mem_of_getElem? (i := 76) rfl)
theorem w77 {Z : State} {a0 : Array Value} (hw : ∀ d ∈ tables_1, d.before a0 Z = true) : (Jvm.Cond.selects "com/example/quittance/quittance/Delimiters" ({ cls := "com/example/quittance/quittance/Delimiters", name := "field", desc := "()C" } : Jvm.MethodName) ({ cls := "com/example/quittance/quittance/Delimiters", name := "field", desc := "()C" } : Jvm.MethodName)).before a0 Z = true := hw _ (List.mem_of_getElem? (i := 77) rfl)
theorem w78 {Z : State} {a0 : Array Value} (hw : ∀ d ∈ tables_1, d.before a0 Z = true) : (Jvm.Cond.code ({ cls := "com/example/quittance/quittance/Delimiters", name := "field", desc := "()C" } : Jvm.MethodName) prog_23_method_37_code (1 : Nat) (Option.some Jvm.ClassFile.FieldType.char)).before a0 Z = true := hw _ (List.mem_of_getElem? (i := 78) rfl)
theorem w79 {Z : State} {a0 : Array Value} (hw : ∀ d ∈ tables_1, d.before a0 Z = true) : (Jvm.Cond.stringLink "com/example/quittance/quittance/Segment" (24 : Nat) "MSH").before a0 Z = true := hw _ (List.mem_of_getElem? (i := 79) rfl)
theorem w80 {Z : State} {a0 : Array Value} (hw : ∀ d ∈ tables_1, d.before a0 Z = true) : (Jvm.Cond.methodLink "com/example/quittance/quittance/Segment" (26 : Nat) ({ cls := "java/lang/String", name := "startsWith", desc := "(Ljava/lang/String;I)Z" } : Jvm.MethodName)).before a0 Z = true := hw _ (List.mem_of_getElem? (i := 80) rfl)
theorem w81 {Z : State} {a0 : Array Value} (hw : ∀ d ∈ tables_1, d.before a0 Z = true) : (Jvm.Cond.declares ({ cls := "java/lang/String", name := "startsWith", desc := "(Ljava/lang/String;I)Z" } : Jvm.MethodName)).before a0 Z = true := hw _ (List.mem_of_getElem? (i := 81) rfl)
theorem w82 {Z : State} {a0 : Array Value} (hw : ∀ d ∈ tables_1, d.before a0 Z = true) : (Jvm.Cond.instanceMethod ({ cls := "java/lang/String", name := "startsWith", desc := "(Ljava/lang/String;I)Z" } : Jvm.MethodName)).before a0 Z = true := hw _ (List.mem_of_getElem? (i := 82) rfl)
theorem w83 {Z : State} {a0 : Array Value} (hw : ∀ d ∈ tables_1, d.before a0 Z = true) : (Jvm.Cond.selects "java/lang/String" ({ cls := "java/lang/String", name := "startsWith", desc := "(Ljava/lang/String;I)Z" } : Jvm.MethodName) ({ cls := "java/lang/String", name := "startsWith", desc := "(Ljava/lang/String;I)Z" } : Jvm.MethodName)).before a0 Z = true := hw _ (List.mem_of_getElem? (i := 83) rfl)
theorem w84 {Z : State} {a0 : Array Value} (hw : ∀ d ∈ tables_1, d.before a0 Z = true) : (Jvm.Cond.code ({ cls := "java/lang/String", name := "startsWith", desc := "(Ljava/lang/String;I)Z" } : Jvm.MethodName) jdk_42_method_75_code (8 : Nat) (Option.some Jvm.ClassFile.FieldType.boolean)).before a0 Z = true := hw _ (List.mem_of_getElem? (i := 84) rfl)
theorem w85 {Z : State} {a0 : Array Value} (hw : ∀ d ∈ tables_1, d.before a0 Z = true) : (Jvm.Cond.methodLink "java/lang/String" (505 : Nat) ({ cls := "java/lang/String", name := "length", desc := "()I" } : Jvm.MethodName)).before a0 Z = true := hw _ (List.mem_of_getElem? (i := 85) rfl)
theorem w86 {Z : State} {a0 : Array Value} (hw : ∀ d ∈ tables_1, d.before a0 Z = true) : (Jvm.Cond.declares ({ cls := "java/lang/String", name := "length", desc := "()I" } : Jvm.MethodName)).before a0 Z = true := hw _ (List.mem_of_getElem? (i := 86) rfl)
theorem w87 {Z : State} {a0 : Array Value} (hw : ∀ d ∈ tables_1, d.before a0 Z = true) : (Jvm.Cond.instanceMethod ({ cls := "java/lang/String", name := "length", desc := "()I" } : Jvm.MethodName)).before a0 Z = true := hw _ (List.mem_of_getElem? (i := 87) rfl)
theorem w88 {Z : State} {a0 : Array Value} (hw : ∀ d ∈ tables_1, d.before a0 Z = true) : (Jvm.Cond.selects "java/lang/String" ({ cls := "java/lang/String", name := "length", desc := "()I" } : Jvm.MethodName) ({ cls := "java/lang/String", name := "length", desc := "()I" } : Jvm.MethodName)).before a0 Z = true := hw _ (List.mem_of_getElem? (i := 88) rfl)
theorem w89 {Z : State} {a0 : Array Value} (hw : ∀ d ∈ tables_1, d.before a0 Z = true) : (Jvm.Cond.code ({ cls := "java/lang/String", name := "length", desc := "()I" } : Jvm.MethodName) jdk_42_method_54_code (1 : Nat) (Option.some Jvm.ClassFile.FieldType.int)).before a0 Z = true := hw _ (List.mem_of_getElem? (i := 89) rfl)
theorem w90 {Z : State} {a0 : Array Value} (hw : ∀ d ∈ tables_1, d.before a0 Z = true) : (Jvm.Cond.methodLink "java/lang/String" (335 : Nat) ({ cls := "java/lang/String", name := "coder", desc := "()B" } : Jvm.MethodName)).before a0 Z = true := hw _ (List.mem_of_getElem? (i := 90) rfl)
theorem w91 {Z : State} {a0 : Array Value} (hw : ∀ d ∈ tables_1, d.before a0 Z = true) : (Jvm.Cond.declares ({ cls := "java/lang/String", name := "coder", desc := "()B" } : Jvm.MethodName)).before a0 Z = true := hw _ (List.mem_of_getElem? (i := 91) rfl)
theorem w92 {Z : State} {a0 : Array Value} (hw : ∀ d ∈ tables_1, d.before a0 Z = true) : (Jvm.Cond.instanceMethod ({ cls := "java/lang/String", name := "coder", desc := "()B" } : Jvm.MethodName)).before a0 Z = true := hw _ (List.mem_of_getElem? (i := 92) rfl)
theorem w93 {Z : State} {a0 : Array Value} (hw : ∀ d ∈ tables_1, d.before a0 Z = true) : (Jvm.Cond.selects "java/lang/String" ({ cls := "java/lang/String", name := "coder", desc := "()B" } : Jvm.MethodName) ({ cls := "java/lang/String", name := "coder", desc := "()B" } : Jvm.MethodName)).before a0 Z = true := hw _ (List.mem_of_getElem? (i := 93) rfl)
theorem w94 {Z : State} {a0 : Array Value} (hw : ∀ d ∈ tables_1, d.before a0 Z = true) : (Jvm.Cond.code ({ cls := "java/lang/String", name := "coder", desc := "()B" } : Jvm.MethodName) jdk_42_method_152_code (1 : Nat) (Option.some Jvm.ClassFile.FieldType.byte)).before a0 Z = true := hw _ (List.mem_of_getElem? (i := 94) rfl)
theorem w95 {Z : State} {a0 : Array Value} (hw : ∀ d ∈ tables_1, d.before a0 Z = true) : (Jvm.Cond.methodLink "java/lang/String" (607 : Nat) ({ cls := "jdk/internal/util/ArraysSupport", name := "mismatch", desc := "([BI[BII)I" } : Jvm.MethodName)).before a0 Z = true := hw _ (List.mem_of_getElem? (i := 95) rfl)
theorem w96 {Z : State} {a0 : Array Value} (hw : ∀ d ∈ tables_1, d.before a0 Z = true) : (Jvm.Cond.static ({ cls := "jdk/internal/util/ArraysSupport", name := "mismatch", desc := "([BI[BII)I" } : Jvm.MethodName)).before a0 Z = true := hw _ (List.mem_of_getElem? (i := 96) rfl)
theorem w97 {Z : State} {a0 : Array Value} (hw : ∀ d ∈ tables_1, d.before a0 Z = true) : (Jvm.Cond.initialized "jdk/internal/util/ArraysSupport").before a0 Z = true := hw _ (List.mem_of_getElem? (i := 97) rfl)
theorem w98 {Z : State} {a0 : Array Value} (hw : ∀ d ∈ tables_1, d.before a0 Z = true) : (Jvm.Cond.code ({ cls := "jdk/internal/util/ArraysSupport", name := "mismatch", desc := "([BI[BII)I" } : Jvm.MethodName) jdk_48_method_14_code (8 : Nat) (Option.some Jvm.ClassFile.FieldType.int)).before a0 Z = true := hw _ (List.mem_of_getElem? (i := 98) rfl)
theorem w99 {Z : State} {a0 : Array Value} (hw : ∀ d ∈ tables_1, d.before a0 Z = true) : (Jvm.Cond.methodLink "com/example/quittance/quittance/Segment" (30 : Nat) ({ cls := "com/example/quittance/quittance/Delimiters", name := "partEnd", desc := "(Ljava/lang/String;CII)I" } : Jvm.MethodName)).before a0 Z = true := hw _ (List.mem_of_getElem? (i := 99) rfl)
theorem w100 {Z : State} {a0 : Array Value} (hw : ∀ d ∈ tables_1, d.before a0 Z = true) : (Jvm.Cond.static ({ cls := "com/example/quittance/quittance/Delimiters", name := "partEnd", desc := "(Ljava/lang/String;CII)I" } : Jvm.MethodName)).before a0 Z = true := hw _ (List.mem_of_getElem? (i := 100) rfl)
theorem w101 {Z : State} {a0 : Array Value} (hw : ∀ d ∈ tables_1, d.before a0 Z = true) : (Jvm.Cond.code ({ cls := "com/example/quittance/quittance/Delimiters", name := "partEnd", desc := "(Ljava/lang/String;CII)I" } : Jvm.MethodName) prog_23_method_4_code (5 : Nat) (Option.some Jvm.ClassFile.FieldType.int)).before a0 Z = true := hw _ (List.mem_of_getElem? (i := 101) rfl)
theorem w102 {Z : State} {a0 : Array Value} (hw : ∀ d ∈ tables_1, d.before a0 Z = true) : (Jvm.Cond.fieldLink "com/example/quittance/quittance/Segment" (34 : Nat) "com/example/quittance/quittance/Segment" "delimiters" "Lcom/example/quittance/quittance/Delimiters;").before a0 Z = true := hw _ (List.mem_of_getElem? (i := 102) rfl)
theorem w103 {Z : State} {a0 : Array Value} (hw : ∀ d ∈ tables_1, d.before a0 Z = true) : (Jvm.Cond.laysFinal "com/example/quittance/quittance/Segment" "com/example/quittance/quittance/Segment" "delimiters" "Lcom/example/quittance/quittance/Delimiters;").before a0 Z = true := hw _ (List.mem_of_getElem? (i := 103) rfl)
theorem w104 {Z : State} {a0 : Array Value} (hw : ∀ d ∈ tables_1, d.before a0 Z = true) : (Jvm.Cond.fieldLink "com/example/quittance/quittance/Segment" (52 : Nat) "com/example/quittance/quittance/Segment" "text" "Ljava/lang/String;").before a0 Z = true := hw _ (List.mem_of_getElem? (i := 104) rfl)
theorem w105 {Z : State} {a0 : Array Value} (hw : ∀ d ∈ tables_1, d.before a0 Z = true) : (Jvm.Cond.laysFinal "com/example/quittance/quittance/Segment" "com/example/quittance/quittance/Segment" "text" "Ljava/lang/String;").before a0 Z = true := hw _ (List.mem_of_getElem? (i := 105) rfl)
theorem w106 {Z : State} {a0 : Array Value} (hw : ∀ d ∈ tables_1, d.before a0 Z = true) : (Jvm.Cond.arrayClass Jvm.ClassFile.FieldType.int).before a0 Z = true := hw _ (List.mem_of_getElem? (i := 106) rfl)
theorem w107 {Z : State} {a0 : Array Value} (hw : ∀ d ∈ tables_1, d.before a0 Z = true) : (Jvm.Cond.fieldLink "com/example/quittance/quittance/Segment" (60 : Nat) "com/example/quittance/quittance/Segment" "starts" "[I").before a0 Z = true := hw _ (List.mem_of_getElem? (i := 107) rfl)
theorem w108 {Z : State} {a0 : Array Value} (hw : ∀ d ∈ tables_1, d.before a0 Z = true) : (Jvm.Cond.laysFinal "com/example/quittance/quittance/Segment" "com/example/quittance/quittance/Segment" "starts" "[I").before a0 Z = true := hw _ (List.mem_of_getElem? (i := 108) rfl)
theorem w109 {Z : State} {a0 : Array Value} (hw : ∀ d ∈ tables_1, d.before a0 Z = true) : (Jvm.Cond.fieldLink "com/example/quittance/quittance/Segment" (64 : Nat) "com/example/quittance/quittance/Segment" "ends" "[I").before a0 Z = true := hw _ (List.mem_of_getElem? (i := 109) rfl)
theorem w110 {Z : State} {a0 : Array Value} (hw : ∀ d ∈ tables_1, d.before a0 Z = true) : (Jvm.Cond.laysFinal "com/example/quittance/quittance/Segment" "com/example/quittance/quittance/Segment" "ends" "[I").before a0 Z = true := hw _ (List.mem_of_getElem? (i := 110) rfl)
theorem w111 {Z : State} {a0 : Array Value} (hw : ∀ d ∈ tables_1, d.before a0 Z = true) : (Jvm.Cond.methodLink "com/example/quittance/quittance/Segment" (67 : Nat) ({ cls := "java/lang/String", name := "substring", desc := "(II)Ljava/lang/String;" } : Jvm.MethodName)).before a0 Z = true := hw _ (List.mem_of_getElem? (i := 111) rfl)
theorem w112 {Z : State} {a0 : Array Value} (hw : ∀ d ∈ tables_1, d.before a0 Z = true) : (Jvm.Cond.declares ({ cls := "java/lang/String", name := "substring", desc := "(II)Ljava/lang/String;" } : Jvm.MethodName)).before a0 Z = true := hw _ (List.mem_of_getElem? (i := 112) rfl)
theorem w113 {Z : State} {a0 : Array Value} (hw : ∀ d ∈ tables_1, d.before a0 Z = true) : (Jvm.Cond.instanceMethod ({ cls := "java/lang/String", name := "substring", desc := "(II)Ljava/lang/String;" } : Jvm.MethodName)).before a0 Z = true := hw _ (List.mem_of_getElem? (i := 113) rfl)
theorem w114 {Z : State} {a0 : Array Value} (hw : ∀ d ∈ tables_1, d.before a0 Z = true) : (Jvm.Cond.selects "java/lang/String" ({ cls := "java/lang/String", name := "substring", desc := "(II)Ljava/lang/String;" } : Jvm.MethodName) ({ cls := "java/lang/String", name := "substring", desc := "(II)Ljava/lang/String;" } : Jvm.MethodName)).before a0 Z = true := hw _ (List.mem_of_getElem? (i := 114) rfl)
theorem w115 {Z : State} {a0 : Array Value} (hw : ∀ d ∈ tables_1, d.before a0 Z = true) : (Jvm.Cond.code ({ cls := "java/lang/String", name := "substring", desc := "(II)Ljava/lang/String;" } : Jvm.MethodName) jdk_42_method_92_code (5 : Nat) (Option.some (Jvm.ClassFile.FieldType.object "java/lang/String"))).before a0 Z = true := hw _ (List.mem_of_getElem? (i := 115) rfl)
theorem w116 {Z : State} {a0 : Array Value} (hw : ∀ d ∈ tables_1, d.before a0 Z = true) : (Jvm.Cond.methodLink "java/lang/String" (521 : Nat) ({ cls := "java/lang/String", name := "checkBoundsBeginEnd", desc := "(III)V" } : Jvm.MethodName)).before a0 Z = true := hw _ (List.mem_of_getElem? (i := 116) rfl)
theorem w117 {Z : State} {a0 : Array Value} (hw : ∀ d ∈ tables_1, d.before a0 Z = true) : (Jvm.Cond.static ({ cls := "java/lang/String", name := "checkBoundsBeginEnd", desc := "(III)V" } : Jvm.MethodName)).before a0 Z = true := hw _ (List.mem_of_getElem? (i := 117) rfl)
theorem w118 {Z : State} {a0 : Array Value} (hw : ∀ d ∈ tables_1, d.before a0 Z = true) : (Jvm.Cond.code ({ cls := "java/lang/String", name := "checkBoundsBeginEnd", desc := "(III)V" } : Jvm.MethodName) jdk_42_method_158_code (3 : Nat) (Option.none : Option Jvm.ClassFile.FieldType)).before a0 Z = true := hw _ (List.mem_of_getElem? (i := 118) rfl)
theorem w119 {Z : State} {a0 : Array Value} (hw : ∀ d ∈ tables_1, d.before a0 Z = true) : (Jvm.Cond.fieldLink "java/lang/String" (1053 : Nat) "jdk/internal/util/Preconditions" "SIOOBE_FORMATTER" "Ljava/util/function/BiFunction;").before a0 Z = true := hw _ (List.mem_of_getElem? (i := 119) rfl)
theorem w120 {Z : State} {a0 : Array Value} (hw : ∀ d ∈ tables_1, d.before a0 Z = true) : (Jvm.Cond.initialized "jdk/internal/util/Preconditions").before a0 Z = true := hw _ (List.mem_of_getElem? (i := 120) rfl)
theorem w121 {Z : State} {a0 : Array Value} (hw : ∀ d ∈ tables_1, d.before a0 Z = true) : (Jvm.Cond.methodLink "java/lang/String" (1062 : Nat) ({ cls := "jdk/internal/util/Preconditions", name := "checkFromToIndex", desc := "(IIILjava/util/function/BiFunction;)I" } : Jvm.MethodName)).before a0 Z = true := hw _ (List.mem_of_getElem? (i := 121) rfl)
theorem w122 {Z : State} {a0 : Array Value} (hw : ∀ d ∈ tables_1, d.before a0 Z = true) : (Jvm.Cond.static ({ cls := "jdk/internal/util/Preconditions", name := "checkFromToIndex", desc := "(IIILjava/util/function/BiFunction;)I" } : Jvm.MethodName)).before a0 Z = true := hw _ (List.mem_of_getElem? (i := 122) rfl)
theorem w123 {Z : State} {a0 : Array Value} (hw : ∀ d ∈ tables_1, d.before a0 Z = true) : (Jvm.Cond.code ({ cls := "jdk/internal/util/Preconditions", name := "checkFromToIndex", desc := "(IIILjava/util/function/BiFunction;)I" } : Jvm.MethodName) jdk_41_method_12_code (4 : Nat) (Option.some Jvm.ClassFile.FieldType.int)).before a0 Z = true := hw _ (List.mem_of_getElem? (i := 123) rfl)
theorem w124 {Z : State} {a0 : Array Value} (hw : ∀ d ∈ tables_1, d.before a0 Z = true) : (Jvm.Cond.methodLink "java/lang/String" (492 : Nat) ({ cls := "java/lang/String", name := "isLatin1", desc := "()Z" } : Jvm.MethodName)).before a0 Z = true := hw _ (List.mem_of_getElem? (i := 124) rfl)
theorem w125 {Z : State} {a0 : Array Value} (hw : ∀ d ∈ tables_1, d.before a0 Z = true) : (Jvm.Cond.declares ({ cls := "java/lang/String", name := "isLatin1", desc := "()Z" } : Jvm.MethodName)).before a0 Z = true := hw _ (List.mem_of_getElem? (i := 125) rfl)
theorem w126 {Z : State} {a0 : Array Value} (hw : ∀ d ∈ tables_1, d.before a0 Z = true) : (Jvm.Cond.instanceMethod ({ cls := "java/lang/String", name := "isLatin1", desc := "()Z" } : Jvm.MethodName)).before a0 Z = true := hw _ (List.mem_of_getElem? (i := 126) rfl)
theorem w127 {Z : State} {a0 : Array Value} (hw : ∀ d ∈ tables_1, d.before a0 Z = true) : (Jvm.Cond.selects "java/lang/String" ({ cls := "java/lang/String", name := "isLatin1", desc := "()Z" } : Jvm.MethodName) ({ cls := "java/lang/String", name := "isLatin1", desc := "()Z" } : Jvm.MethodName)).before a0 Z = true := hw _ (List.mem_of_getElem? (i := 127) rfl)
theorem w128 {Z : State} {a0 : Array Value} (hw : ∀ d ∈ tables_1, d.before a0 Z = true) : (Jvm.Cond.code ({ cls := "java/lang/String", name := "isLatin1", desc := "()Z" } : Jvm.MethodName) jdk_42_method_154_code (1 : Nat) (Option.some Jvm.ClassFile.FieldType.boolean)).before a0 Z = true := hw _ (List.mem_of_getElem? (i := 128) rfl)
theorem w129 {Z : State} {a0 : Array Value} (hw : ∀ d ∈ tables_1, d.before a0 Z = true) : (Jvm.Cond.methodLink "java/lang/String" (685 : Nat) ({ cls := "java/lang/StringLatin1", name := "newString", desc := "([BII)Ljava/lang/String;" } : Jvm.MethodName)).before a0 Z = true := hw _ (List.mem_of_getElem? (i := 129) rfl)
theorem w130 {Z : State} {a0 : Array Value} (hw : ∀ d ∈ tables_1, d.before a0 Z = true) : (Jvm.Cond.static ({ cls := "java/lang/StringLatin1", name := "newString", desc := "([BII)Ljava/lang/String;" } : Jvm.MethodName)).before a0 Z = true := hw _ (List.mem_of_getElem? (i := 130) rfl)
theorem w131 {Z : State} {a0 : Array Value} (hw : ∀ d ∈ tables_1, d.before a0 Z = true) : (Jvm.Cond.initialized "java/lang/StringLatin1").before a0 Z = true := hw _ (List.mem_of_getElem? (i := 131) rfl)
theorem w132 {Z : State} {a0 : Array Value} (hw : ∀ d ∈ tables_1, d.before a0 Z = true) : (Jvm.Cond.code ({ cls := "java/lang/StringLatin1", name := "newString", desc := "([BII)Ljava/lang/String;" } : Jvm.MethodName) jdk_43_method_47_code (3 : Nat) (Option.some (Jvm.ClassFile.FieldType.object "java/lang/String"))).before a0 Z = true := hw _ (List.mem_of_getElem? (i := 132) rfl)
theorem w133 {Z : State} {a0 : Array Value} (hw : ∀ d ∈ tables_1, d.before a0 Z = true) : (Jvm.Cond.stringLink "java/lang/StringLatin1" (151 : Nat) "").before a0 Z = true := hw _ (List.mem_of_getElem? (i := 133) rfl)
theorem w134 {Z : State} {a0 : Array Value} (hw : ∀ d ∈ tables_1, d.before a0 Z = true) : (Jvm.Cond.fieldLink "com/example/quittance/quittance/Segment" (71 : Nat) "com/example/quittance/quittance/Segment" "id" "Ljava/lang/String;").before a0 Z = true := hw _ (List.mem_of_getElem? (i := 134) rfl)
theorem w135 {Z : State} {a0 : Array Value} (hw : ∀ d ∈ tables_1, d.before a0 Z = true) : (Jvm.Cond.laysFinal "com/example/quittance/quittance/Segment" "com/example/quittance/quittance/Segment" "id" "Ljava/lang/String;").before a0 Z = true := hw _ (List.mem_of_getElem? (i := 135) rfl)
theorem w136 {Z : State} {a0 : Array Value} (hw : ∀ d ∈ tables_1, d.before a0 Z = true) : (Jvm.Cond.methodLink "com/example/quittance/quittance/SegmentEndPinLaw" (35 : Nat) ({ cls := "com/example/quittance/quittance/Segment", name := "end", desc := "(I)I" } : Jvm.MethodName)).before a0 Z = true := hw _ (List.mem_of_getElem? (i := 136) rfl)
theorem w137 {Z : State} {a0 : Array Value} (hw : ∀ d ∈ tables_1, d.before a0 Z = true) : (Jvm.Cond.declares ({ cls := "com/example/quittance/quittance/Segment", name := "end", desc := "(I)I" } : Jvm.MethodName)).before a0 Z = true := hw _ (List.mem_of_getElem? (i := 137) rfl)
theorem w138 {Z : State} {a0 : Array Value} (hw : ∀ d ∈ tables_1, d.before a0 Z = true) : (Jvm.Cond.instanceMethod ({ cls := "com/example/quittance/quittance/Segment", name := "end", desc := "(I)I" } : Jvm.MethodName)).before a0 Z = true := hw _ (List.mem_of_getElem? (i := 138) rfl)
theorem w139 {Z : State} {a0 : Array Value} (hw : ∀ d ∈ tables_1, d.before a0 Z = true) : (Jvm.Cond.selects "com/example/quittance/quittance/Segment" ({ cls := "com/example/quittance/quittance/Segment", name := "end", desc := "(I)I" } : Jvm.MethodName) ({ cls := "com/example/quittance/quittance/Segment", name := "end", desc := "(I)I" } : Jvm.MethodName)).before a0 Z = true := hw _ (List.mem_of_getElem? (i := 139) rfl)
theorem w140 {Z : State} {a0 : Array Value} (hw : ∀ d ∈ tables_1, d.before a0 Z = true) : (Jvm.Cond.code ({ cls := "com/example/quittance/quittance/Segment", name := "end", desc := "(I)I" } : Jvm.MethodName) prog_111_method_11_code (2 : Nat) (Option.some Jvm.ClassFile.FieldType.int)).before a0 Z = true := hw _ (List.mem_of_getElem? (i := 140) rfl)
theorem w141 {Z : State} {a0 : Array Value} (hw : ∀ d ∈ tables_1, d.before a0 Z = true) : (Jvm.Cond.methodLink "com/example/quittance/quittance/SegmentEndPinLaw" (49 : Nat) ({ cls := "com/example/quittance/quittance/SegmentEndPinLaw", name := "step", desc := "([CII)I" } : Jvm.MethodName)).before a0 Z = true := hw _ (List.mem_of_getElem? (i := 141) rfl)
theorem w142 {Z : State} {a0 : Array Value} (hw : ∀ d ∈ tables_1, d.before a0 Z = true) : (Jvm.Cond.static ({ cls := "com/example/quittance/quittance/SegmentEndPinLaw", name := "step", desc := "([CII)I" } : Jvm.MethodName)).before a0 Z = true := hw _ (List.mem_of_getElem? (i := 142) rfl)
theorem w143 {Z : State} {a0 : Array Value} (hw : ∀ d ∈ tables_1, d.before a0 Z = true) : (Jvm.Cond.code ({ cls := "com/example/quittance/quittance/SegmentEndPinLaw", name := "step", desc := "([CII)I" } : Jvm.MethodName) method_5_code (3 : Nat) (Option.some Jvm.ClassFile.FieldType.int)).before a0 Z = true := hw _ (List.mem_of_getElem? (i := 143) rfl)
theorem w144 {Z : State} {a0 : Array Value} (hw : ∀ d ∈ tables_1, d.before a0 Z = true) : (Jvm.Cond.methodLink "com/example/quittance/quittance/Delimiters" (23 : Nat) ({ cls := "java/lang/String", name := "charAt", desc := "(I)C" } : Jvm.MethodName)).before a0 Z = true := hw _ (List.mem_of_getElem? (i := 144) rfl)
theorem w145 {Z : State} {a0 : Array Value} (hw : ∀ d ∈ tables_1, d.before a0 Z = true) : (Jvm.Cond.declares ({ cls := "java/lang/String", name := "charAt", desc := "(I)C" } : Jvm.MethodName)).before a0 Z = true := hw _ (List.mem_of_getElem? (i := 145) rfl)
theorem w146 {Z : State} {a0 : Array Value} (hw : ∀ d ∈ tables_1, d.before a0 Z = true) : (Jvm.Cond.instanceMethod ({ cls := "java/lang/String", name := "charAt", desc := "(I)C" } : Jvm.MethodName)).before a0 Z = true := hw _ (List.mem_of_getElem? (i := 146) rfl)
theorem w147 {Z : State} {a0 : Array Value} (hw : ∀ d ∈ tables_1, d.before a0 Z = true) : (Jvm.Cond.selects "java/lang/String" ({ cls := "java/lang/String", name := "charAt", desc := "(I)C" } : Jvm.MethodName) ({ cls := "java/lang/String", name := "charAt", desc := "(I)C" } : Jvm.MethodName)).before a0 Z = true := hw _ (List.mem_of_getElem? (i := 147) rfl)
theorem w148 {Z : State} {a0 : Array Value} (hw : ∀ d ∈ tables_1, d.before a0 Z = true) : (Jvm.Cond.code ({ cls := "java/lang/String", name := "charAt", desc := "(I)C" } : Jvm.MethodName) jdk_42_method_56_code (2 : Nat) (Option.some Jvm.ClassFile.FieldType.char)).before a0 Z = true := hw _ (List.mem_of_getElem? (i := 148) rfl)
theorem w149 {Z : State} {a0 : Array Value} (hw : ∀ d ∈ tables_1, d.before a0 Z = true) : (Jvm.Cond.methodLink "java/lang/String" (495 : Nat) ({ cls := "java/lang/StringLatin1", name := "charAt", desc := "([BI)C" } : Jvm.MethodName)).before a0 Z = true := hw _ (List.mem_of_getElem? (i := 149) rfl)
theorem w150 {Z : State} {a0 : Array Value} (hw : ∀ d ∈ tables_1, d.before a0 Z = true) : (Jvm.Cond.static ({ cls := "java/lang/StringLatin1", name := "charAt", desc := "([BI)C" } : Jvm.MethodName)).before a0 Z = true := hw _ (List.mem_of_getElem? (i := 150) rfl)
theorem w151 {Z : State} {a0 : Array Value} (hw : ∀ d ∈ tables_1, d.before a0 Z = true) : (Jvm.Cond.code ({ cls := "java/lang/StringLatin1", name := "charAt", desc := "([BI)C" } : Jvm.MethodName) jdk_43_method_2_code (2 : Nat) (Option.some Jvm.ClassFile.FieldType.char)).before a0 Z = true := hw _ (List.mem_of_getElem? (i := 151) rfl)
theorem w152 {Z : State} {a0 : Array Value} (hw : ∀ d ∈ tables_1, d.before a0 Z = true) : (Jvm.Cond.methodLink "java/lang/StringLatin1" (9 : Nat) ({ cls := "java/lang/String", name := "checkIndex", desc := "(II)V" } : Jvm.MethodName)).before a0 Z = true := hw _ (List.mem_of_getElem? (i := 152) rfl)
theorem w153 {Z : State} {a0 : Array Value} (hw : ∀ d ∈ tables_1, d.before a0 Z = true) : (Jvm.Cond.static ({ cls := "java/lang/String", name := "checkIndex", desc := "(II)V" } : Jvm.MethodName)).before a0 Z = true := hw _ (List.mem_of_getElem? (i := 153) rfl)
theorem w154 {Z : State} {a0 : Array Value} (hw : ∀ d ∈ tables_1, d.before a0 Z = true) : (Jvm.Cond.code ({ cls := "java/lang/String", name := "checkIndex", desc := "(II)V" } : Jvm.MethodName) jdk_42_method_155_code (2 : Nat) (Option.none : Option Jvm.ClassFile.FieldType)).before a0 Z = true := hw _ (List.mem_of_getElem? (i := 154) rfl)
theorem w155 {Z : State} {a0 : Array Value} (hw : ∀ d ∈ tables_1, d.before a0 Z = true) : (Jvm.Cond.methodLink "java/lang/String" (1059 : Nat) ({ cls := "jdk/internal/util/Preconditions", name := "checkIndex", desc := "(IILjava/util/function/BiFunction;)I" } : Jvm.MethodName)).before a0 Z = true := hw _ (List.mem_of_getElem? (i := 155) rfl)
theorem w156 {Z : State} {a0 : Array Value} (hw : ∀ d ∈ tables_1, d.before a0 Z = true) : (Jvm.Cond.static ({ cls := "jdk/internal/util/Preconditions", name := "checkIndex", desc := "(IILjava/util/function/BiFunction;)I" } : Jvm.MethodName)).before a0 Z = true := hw _ (List.mem_of_getElem? (i := 156) rfl)
theorem w157 {Z : State} {a0 : Array Value} (hw : ∀ d ∈ tables_1, d.before a0 Z = true) : (Jvm.Cond.code ({ cls := "jdk/internal/util/Preconditions", name := "checkIndex", desc := "(IILjava/util/function/BiFunction;)I" } : Jvm.MethodName) jdk_41_method_11_code (3 : Nat) (Option.some Jvm.ClassFile.FieldType.int)).before a0 Z = true := hw _ (List.mem_of_getElem? (i := 157) rfl)
theorem w158 {Z : State} {a0 : Array Value} (hw : ∀ d ∈ tables_1, d.before a0 Z = true) : (Jvm.Cond.methodLink "com/example/quittance/quittance/Segment" (56 : Nat) ({ cls := "java/lang/String", name := "charAt", desc := "(I)C" } : Jvm.MethodName)).before a0 Z = true := hw _ (List.mem_of_getElem? (i := 158) rfl)
theorem w159 {Z : State} {a0 : Array Value} (hw : ∀ d ∈ tables_1, d.before a0 Z = true) : (Jvm.Cond.classLink "java/lang/StringLatin1" (1 : Nat) "java/lang/String").before a0 Z = true := hw _ (List.mem_of_getElem? (i := 159) rfl)
theorem w160 {Z : State} {a0 : Array Value} (hw : ∀ d ∈ tables_1, d.before a0 Z = true) : (Jvm.Cond.methodLink "java/lang/StringLatin1" (232 : Nat) ({ cls := "java/util/Arrays", name := "copyOfRange", desc := "([BII)[B" } : Jvm.MethodName)).before a0 Z = true := hw _ (List.mem_of_getElem? (i := 160) rfl)
theorem w161 {Z : State} {a0 : Array Value} (hw : ∀ d ∈ tables_1, d.before a0 Z = true) : (Jvm.Cond.static ({ cls := "java/util/Arrays", name := "copyOfRange", desc := "([BII)[B" } : Jvm.MethodName)).before a0 Z = true := hw _ (List.mem_of_getElem? (i := 161) rfl)
theorem w162 {Z : State} {a0 : Array Value} (hw : ∀ d ∈ tables_1, d.before a0 Z = true) : (Jvm.Cond.initialized "java/util/Arrays").before a0 Z = true := hw _ (List.mem_of_getElem? (i := 162) rfl)
theorem w163 {Z : State} {a0 : Array Value} (hw : ∀ d ∈ tables_1, d.before a0 Z = true) : (Jvm.Cond.code ({ cls := "java/util/Arrays", name := "copyOfRange", desc := "([BII)[B" } : Jvm.MethodName) jdk_65_method_132_code (3 : Nat) (Option.some (Jvm.ClassFile.FieldType.array Jvm.ClassFile.FieldType.byte))).before a0 Z = true := hw _ (List.mem_of_getElem? (i := 163) rfl)
theorem w164 {Z : State} {a0 : Array Value} (hw : ∀ d ∈ tables_1, d.before a0 Z = true) : (Jvm.Cond.methodLink "java/util/Arrays" (339 : Nat) ({ cls := "java/util/Arrays", name := "copyOfRangeByte", desc := "([BII)[B" } : Jvm.MethodName)).before a0 Z = true := hw _ (List.mem_of_getElem? (i := 164) rfl)
theorem w165 {Z : State} {a0 : Array Value} (hw : ∀ d ∈ tables_1, d.before a0 Z = true) : (Jvm.Cond.static ({ cls := "java/util/Arrays", name := "copyOfRangeByte", desc := "([BII)[B" } : Jvm.MethodName)).before a0 Z = true := hw _ (List.mem_of_getElem? (i := 165) rfl)
theorem w166 {Z : State} {a0 : Array Value} (hw : ∀ d ∈ tables_1, d.before a0 Z = true) : (Jvm.Cond.code ({ cls := "java/util/Arrays", name := "copyOfRangeByte", desc := "([BII)[B" } : Jvm.MethodName) jdk_65_method_133_code (5 : Nat) (Option.some (Jvm.ClassFile.FieldType.array Jvm.ClassFile.FieldType.byte))).before a0 Z = true := hw _ (List.mem_of_getElem? (i := 166) rfl)
theorem w167 {Z : State} {a0 : Array Value} (hw : ∀ d ∈ tables_1, d.before a0 Z = true) : (Jvm.Cond.methodLink "java/util/Arrays" (343 : Nat) ({ cls := "java/util/Arrays", name := "checkLength", desc := "(II)V" } : Jvm.MethodName)).before a0 Z = true := hw _ (List.mem_of_getElem? (i := 167) rfl)
theorem w168 {Z : State} {a0 : Array Value} (hw : ∀ d ∈ tables_1, d.before a0 Z = true) : (Jvm.Cond.static ({ cls := "java/util/Arrays", name := "checkLength", desc := "(II)V" } : Jvm.MethodName)).before a0 Z = true := hw _ (List.mem_of_getElem? (i := 168) rfl)
theorem w169 {Z : State} {a0 : Array Value} (hw : ∀ d ∈ tables_1, d.before a0 Z = true) : (Jvm.Cond.code ({ cls := "java/util/Arrays", name := "checkLength", desc := "(II)V" } : Jvm.MethodName) jdk_65_method_131_code (2 : Nat) (Option.none : Option Jvm.ClassFile.FieldType)).before a0 Z = true := hw _ (List.mem_of_getElem? (i := 169) rfl)
theorem w170 {Z : State} {a0 : Array Value} (hw : ∀ d ∈ tables_1, d.before a0 Z = true) : (Jvm.Cond.methodLink "java/util/Arrays" (304 : Nat) ({ cls := "java/lang/Math", name := "min", desc := "(II)I" } : Jvm.MethodName)).before a0 Z = true := hw _ (List.mem_of_getElem? (i := 170) rfl)
theorem w171 {Z : State} {a0 : Array Value} (hw : ∀ d ∈ tables_1, d.before a0 Z = true) : (Jvm.Cond.methodLink "java/util/Arrays" (150 : Nat) ({ cls := "java/lang/System", name := "arraycopy", desc := "(Ljava/lang/Object;ILjava/lang/Object;II)V" } : Jvm.MethodName)).before a0 Z = true := hw _ (List.mem_of_getElem? (i := 171) rfl)
theorem w172 {Z : State} {a0 : Array Value} (hw : ∀ d ∈ tables_1, d.before a0 Z = true) : (Jvm.Cond.static ({ cls := "java/lang/System", name := "arraycopy", desc := "(Ljava/lang/Object;ILjava/lang/Object;II)V" } : Jvm.MethodName)).before a0 Z = true := hw _ (List.mem_of_getElem? (i := 172) rfl)
theorem w173 {Z : State} {a0 : Array Value} (hw : ∀ d ∈ tables_1, d.before a0 Z = true) : (Jvm.Cond.initialized "java/lang/System").before a0 Z = true := hw _ (List.mem_of_getElem? (i := 173) rfl)
theorem w174 {Z : State} {a0 : Array Value} (hw : ∀ d ∈ tables_1, d.before a0 Z = true) : (Jvm.Cond.native ({ cls := "java/lang/System", name := "arraycopy", desc := "(Ljava/lang/Object;ILjava/lang/Object;II)V" } : Jvm.MethodName)).before a0 Z = true := hw _ (List.mem_of_getElem? (i := 174) rfl)
theorem w175 {Z : State} {a0 : Array Value} (hw : ∀ d ∈ tables_1, d.before a0 Z = true) : (Jvm.Cond.methodLink "java/lang/StringLatin1" (112 : Nat) ({ cls := "java/lang/String", name := "<init>", desc := "([BB)V" } : Jvm.MethodName)).before a0 Z = true := hw _ (List.mem_of_getElem? (i := 175) rfl)
theorem w176 {Z : State} {a0 : Array Value} (hw : ∀ d ∈ tables_1, d.before a0 Z = true) : (Jvm.Cond.instanceMethod ({ cls := "java/lang/String", name := "<init>", desc := "([BB)V" } : Jvm.MethodName)).before a0 Z = true := hw _ (List.mem_of_getElem? (i := 176) rfl)
theorem w177 {Z : State} {a0 : Array Value} (hw : ∀ d ∈ tables_1, d.before a0 Z = true) : (Jvm.Cond.code ({ cls := "java/lang/String", name := "<init>", desc := "([BB)V" } : Jvm.MethodName) jdk_42_method_151_code (3 : Nat) (Option.none : Option Jvm.ClassFile.FieldType)).before a0 Z = true := hw _ (List.mem_of_getElem? (i := 177) rfl)
theorem w178 {Z : State} {a0 : Array Value} (hw : ∀ d ∈ tables_1, d.before a0 Z = true) : (Jvm.Cond.classLink "com/example/quittance/quittance/Segment" (38 : Nat) "java/lang/StringBuilder").before a0 Z = true := hw _ (List.mem_of_getElem? (i := 178) rfl)
theorem w179 {Z : State} {a0 : Array Value} (hw : ∀ d ∈ tables_1, d.before a0 Z = true) : (Jvm.Cond.instantiable "java/lang/StringBuilder" (4 : Nat)).before a0 Z = true := hw _ (List.mem_of_getElem? (i := 179) rfl)
theorem w180 {Z : State} {a0 : Array Value} (hw : ∀ d ∈ tables_1, d.before a0 Z = true) : (Jvm.Cond.initialized "java/lang/StringBuilder").before a0 Z = true := hw _ (List.mem_of_getElem? (i := 180) rfl)
theorem w181 {Z : State} {a0 : Array Value} (hw : ∀ d ∈ tables_1, d.before a0 Z = true) : (Jvm.Cond.methodLink "com/example/quittance/quittance/Segment" (40 : Nat) ({ cls := "java/lang/StringBuilder", name := "<init>", desc := "()V" } : Jvm.MethodName)).before a0 Z = true := hw _ (List.mem_of_getElem? (i := 181) rfl)
theorem w182 {Z : State} {a0 : Array Value} (hw : ∀ d ∈ tables_1, d.before a0 Z = true) : (Jvm.Cond.instanceMethod ({ cls := "java/lang/StringBuilder", name := "<init>", desc := "()V" } : Jvm.MethodName)).before a0 Z = true := hw _ (List.mem_of_getElem? (i := 182) rfl)
theorem w183 {Z : State} {a0 : Array Value} (hw : ∀ d ∈ tables_1, d.before a0 Z = true) : (Jvm.Cond.code ({ cls := "java/lang/StringBuilder", name := "<init>", desc := "()V" } : Jvm.MethodName) jdk_67_method_1_code (1 : Nat) (Option.none : Option Jvm.ClassFile.FieldType)).before a0 Z = true := hw _ (List.mem_of_getElem? (i := 183) rfl)
theorem w184 {Z : State} {a0 : Array Value} (hw : ∀ d ∈ tables_1, d.before a0 Z = true) : (Jvm.Cond.methodLink "java/lang/StringBuilder" (1 : Nat) ({ cls := "java/lang/AbstractStringBuilder", name := "<init>", desc := "(I)V" } : Jvm.MethodName)).before a0 Z = true := hw _ (List.mem_of_getElem? (i := 184) rfl)
theorem w185 {Z : State} {a0 : Array Value} (hw : ∀ d ∈ tables_1, d.before a0 Z = true) : (Jvm.Cond.instanceMethod ({ cls := "java/lang/AbstractStringBuilder", name := "<init>", desc := "(I)V" } : Jvm.MethodName)).before a0 Z = true := hw _ (List.mem_of_getElem? (i := 185) rfl)
theorem w188 {Z : State} {a0 : Array Value} (hw : ∀ d ∈ tables_1, d.before a0 Z = true) : (Jvm.Cond.initialized "java/lang/AbstractStringBuilder").before a0 Z = true := hw _ (List.mem_of_getElem? (i := 188) rfl)
theorem w189 {Z : State} {a0 : Array Value} (hw : ∀ d ∈ tables_1, d.before a0 Z = true) : (Jvm.Cond.code ({ cls := "java/lang/AbstractStringBuilder", name := "<init>", desc := "(I)V" } : Jvm.MethodName) jdk_68_method_2_code (2 : Nat) (Option.none : Option Jvm.ClassFile.FieldType)).before a0 Z = true := hw _ (List.mem_of_getElem? (i := 189) rfl)
theorem w190 {Z : State} {a0 : Array Value} (hw : ∀ d ∈ tables_1, d.before a0 Z = true) : (Jvm.Cond.methodLink "java/lang/AbstractStringBuilder" (3 : Nat) ({ cls := "java/lang/Object", name := "<init>", desc := "()V" } : Jvm.MethodName)).before a0 Z = true := hw _ (List.mem_of_getElem? (i := 190) rfl)
theorem w191 {Z : State} {a0 : Array Value} (hw : ∀ d ∈ tables_1, d.before a0 Z = true) : (Jvm.Cond.fieldLink "java/lang/AbstractStringBuilder" (18 : Nat) "java/lang/String" "COMPACT_STRINGS" "Z").before a0 Z = true := hw _ (List.mem_of_getElem? (i := 191) rfl)
theorem w192 {Z : State} {a0 : Array Value} (hw : ∀ d ∈ tables_1, d.before a0 Z = true) : (Jvm.Cond.fieldLink "java/lang/AbstractStringBuilder" (15 : Nat) "java/lang/AbstractStringBuilder" "value" "[B").before a0 Z = true := hw _ (List.mem_of_getElem? (i := 192) rfl)
theorem w193 {Z : State} {a0 : Array Value} (hw : ∀ d ∈ tables_1, d.before a0 Z = true) : (Jvm.Cond.lays "java/lang/StringBuilder" "java/lang/AbstractStringBuilder" "value" "[B").before a0 Z = true := hw _ (List.mem_of_getElem? (i := 193) rfl)
theorem w194 {Z : State} {a0 : Array Value} (hw : ∀ d ∈ tables_1, d.before a0 Z = true) : (Jvm.Cond.fieldLink "java/lang/AbstractStringBuilder" (22 : Nat) "java/lang/AbstractStringBuilder" "coder" "B").before a0 Z = true := hw _ (List.mem_of_getElem? (i := 194) rfl)
theorem w195 {Z : State} {a0 : Array Value} (hw : ∀ d ∈ tables_1, d.before a0 Z = true) : (Jvm.Cond.lays "java/lang/StringBuilder" "java/lang/AbstractStringBuilder" "coder" "B").before a0 Z = true := hw _ (List.mem_of_getElem? (i := 195) rfl)
theorem w196 {Z : State} {a0 : Array Value} (hw : ∀ d ∈ tables_1, d.before a0 Z = true) : (Jvm.Cond.methodLink "com/example/quittance/quittance/Segment" (41 : Nat) ({ cls := "java/lang/StringBuilder", name := "append", desc := "(Ljava/lang/String;)Ljava/lang/StringBuilder;" } : Jvm.MethodName)).before a0 Z = true := hw _ (List.mem_of_getElem? (i := 196) rfl)
theorem w197 {Z : State} {a0 : Array Value} (hw : ∀ d ∈ tables_1, d.before a0 Z = true) : (Jvm.Cond.declares ({ cls := "java/lang/StringBuilder", name := "append", desc := "(Ljava/lang/String;)Ljava/lang/StringBuilder;" } : Jvm.MethodName)).before a0 Z = true := hw _ (List.mem_of_getElem? (i := 197) rfl)
theorem w198 {Z : State} {a0 : Array Value} (hw : ∀ d ∈ tables_1, d.before a0 Z = true) : (Jvm.Cond.instanceMethod ({ cls := "java/lang/StringBuilder", name := "append", desc := "(Ljava/lang/String;)Ljava/lang/StringBuilder;" } : Jvm.MethodName)).before a0 Z = true := hw _ (List.mem_of_getElem? (i := 198) rfl)
theorem w199 {Z : State} {a0 : Array Value} (hw : ∀ d ∈ tables_1, d.before a0 Z = true) : (Jvm.Cond.selects "java/lang/StringBuilder" ({ cls := "java/lang/StringBuilder", name := "append", desc := "(Ljava/lang/String;)Ljava/lang/StringBuilder;" } : Jvm.MethodName) ({ cls := "java/lang/StringBuilder", name := "append", desc := "(Ljava/lang/String;)Ljava/lang/StringBuilder;" } : Jvm.MethodName)).before a0 Z = true := hw _ (List.mem_of_getElem? (i := 199) rfl)
theorem w200 {Z : State} {a0 : Array Value} (hw : ∀ d ∈ tables_1, d.before a0 Z = true) : (Jvm.Cond.code ({ cls := "java/lang/StringBuilder", name := "append", desc := "(Ljava/lang/String;)Ljava/lang/StringBuilder;" } : Jvm.MethodName) jdk_67_method_7_code (2 : Nat) (Option.some (Jvm.ClassFile.FieldType.object "java/lang/StringBuilder"))).before a0 Z = true := hw _ (List.mem_of_getElem? (i := 200) rfl)
theorem w201 {Z : State} {a0 : Array Value} (hw : ∀ d ∈ tables_1, d.before a0 Z = true) : (Jvm.Cond.methodLink "java/lang/StringBuilder" (29 : Nat) ({ cls := "java/lang/AbstractStringBuilder", name := "append", desc := "(Ljava/lang/String;)Ljava/lang/AbstractStringBuilder;" } : Jvm.MethodName)).before a0 Z = true := hw _ (List.mem_of_getElem? (i := 201) rfl)
theorem w202 {Z : State} {a0 : Array Value} (hw : ∀ d ∈ tables_1, d.before a0 Z = true) : (Jvm.Cond.instanceMethod ({ cls := "java/lang/AbstractStringBuilder", name := "append", desc := "(Ljava/lang/String;)Ljava/lang/AbstractStringBuilder;" } : Jvm.MethodName)).before a0 Z = true := hw _ (List.mem_of_getElem? (i := 202) rfl)
theorem w203 {Z : State} {a0 : Array Value} (hw : ∀ d ∈ tables_1, d.before a0 Z = true) : (Jvm.Cond.superclass "java/lang/StringBuilder" "java/lang/AbstractStringBuilder").before a0 Z = true := hw _ (List.mem_of_getElem? (i := 203) rfl)
theorem w205 {Z : State} {a0 : Array Value} (hw : ∀ d ∈ tables_1, d.before a0 Z = true) : (Jvm.Cond.code ({ cls := "java/lang/AbstractStringBuilder", name := "append", desc := "(Ljava/lang/String;)Ljava/lang/AbstractStringBuilder;" } : Jvm.MethodName) jdk_68_method_22_code (3 : Nat) (Option.some (Jvm.ClassFile.FieldType.object "java/lang/AbstractStringBuilder"))).before a0 Z = true := hw _ (List.mem_of_getElem? (i := 205) rfl)
theorem w206 {Z : State} {a0 : Array Value} (hw : ∀ d ∈ tables_1, d.before a0 Z = true) : (Jvm.Cond.methodLink "java/lang/AbstractStringBuilder" (32 : Nat) ({ cls := "java/lang/String", name := "length", desc := "()I" } : Jvm.MethodName)).before a0 Z = true := hw _ (List.mem_of_getElem? (i := 206) rfl)
theorem w207 {Z : State} {a0 : Array Value} (hw : ∀ d ∈ tables_1, d.before a0 Z = true) : (Jvm.Cond.fieldLink "java/lang/AbstractStringBuilder" (79 : Nat) "java/lang/AbstractStringBuilder" "count" "I").before a0 Z = true := hw _ (List.mem_of_getElem? (i := 207) rfl)
theorem w208 {Z : State} {a0 : Array Value} (hw : ∀ d ∈ tables_1, d.before a0 Z = true) : (Jvm.Cond.lays "java/lang/StringBuilder" "java/lang/AbstractStringBuilder" "count" "I").before a0 Z = true := hw _ (List.mem_of_getElem? (i := 208) rfl)
theorem w209 {Z : State} {a0 : Array Value} (hw : ∀ d ∈ tables_1, d.before a0 Z = true) : (Jvm.Cond.methodLink "java/lang/AbstractStringBuilder" (100 : Nat) ({ cls := "java/lang/AbstractStringBuilder", name := "ensureCapacityInternal", desc := "(I)V" } : Jvm.MethodName)).before a0 Z = true := hw _ (List.mem_of_getElem? (i := 209) rfl)
theorem w210 {Z : State} {a0 : Array Value} (hw : ∀ d ∈ tables_1, d.before a0 Z = true) : (Jvm.Cond.instanceMethod ({ cls := "java/lang/AbstractStringBuilder", name := "ensureCapacityInternal", desc := "(I)V" } : Jvm.MethodName)).before a0 Z = true := hw _ (List.mem_of_getElem? (i := 210) rfl)
theorem w211 {Z : State} {a0 : Array Value} (hw : ∀ d ∈ tables_1, d.before a0 Z = true) : (Jvm.Cond.privateMethod ({ cls := "java/lang/AbstractStringBuilder", name := "ensureCapacityInternal", desc := "(I)V" } : Jvm.MethodName)).before a0 Z = true := hw _ (List.mem_of_getElem? (i := 211) rfl)
theorem w212 {Z : State} {a0 : Array Value} (hw : ∀ d ∈ tables_1, d.before a0 Z = true) : (Jvm.Cond.selects "java/lang/StringBuilder" ({ cls := "java/lang/AbstractStringBuilder", name := "ensureCapacityInternal", desc := "(I)V" } : Jvm.MethodName) ({ cls := "java/lang/AbstractStringBuilder", name := "ensureCapacityInternal", desc := "(I)V" } : Jvm.MethodName)).before a0 Z = true := hw _ (List.mem_of_getElem? (i := 212) rfl)
theorem w213 {Z : State} {a0 : Array Value} (hw : ∀ d ∈ tables_1, d.before a0 Z = true) : (Jvm.Cond.code ({ cls := "java/lang/AbstractStringBuilder", name := "ensureCapacityInternal", desc := "(I)V" } : Jvm.MethodName) jdk_68_method_9_code (3 : Nat) (Option.none : Option Jvm.ClassFile.FieldType)).before a0 Z = true := hw _ (List.mem_of_getElem? (i := 213) rfl)
theorem w214 {Z : State} {a0 : Array Value} (hw : ∀ d ∈ tables_1, d.before a0 Z = true) : (Jvm.Cond.methodLink "java/lang/AbstractStringBuilder" (208 : Nat) ({ cls := "java/lang/AbstractStringBuilder", name := "putStringAt", desc := "(ILjava/lang/String;)V" } : Jvm.MethodName)).before a0 Z = true := hw _ (List.mem_of_getElem? (i := 214) rfl)
theorem w215 {Z : State} {a0 : Array Value} (hw : ∀ d ∈ tables_1, d.before a0 Z = true) : (Jvm.Cond.instanceMethod ({ cls := "java/lang/AbstractStringBuilder", name := "putStringAt", desc := "(ILjava/lang/String;)V" } : Jvm.MethodName)).before a0 Z = true := hw _ (List.mem_of_getElem? (i := 215) rfl)
theorem w216 {Z : State} {a0 : Array Value} (hw : ∀ d ∈ tables_1, d.before a0 Z = true) : (Jvm.Cond.privateMethod ({ cls := "java/lang/AbstractStringBuilder", name := "putStringAt", desc := "(ILjava/lang/String;)V" } : Jvm.MethodName)).before a0 Z = true := hw _ (List.mem_of_getElem? (i := 216) rfl)
theorem w218 {Z : State} {a0 : Array Value} (hw : ∀ d ∈ tables_1, d.before a0 Z = true) : (Jvm.Cond.code ({ cls := "java/lang/AbstractStringBuilder", name := "putStringAt", desc := "(ILjava/lang/String;)V" } : Jvm.MethodName) jdk_68_method_73_code (3 : Nat) (Option.none : Option Jvm.ClassFile.FieldType)).before a0 Z = true := hw _ (List.mem_of_getElem? (i := 218) rfl)
theorem w219 {Z : State} {a0 : Array Value} (hw : ∀ d ∈ tables_1, d.before a0 Z = true) : (Jvm.Cond.methodLink "java/lang/AbstractStringBuilder" (397 : Nat) ({ cls := "java/lang/AbstractStringBuilder", name := "inflateIfNeededFor", desc := "(Ljava/lang/String;)V" } : Jvm.MethodName)).before a0 Z = true := hw _ (List.mem_of_getElem? (i := 219) rfl)
theorem w220 {Z : State} {a0 : Array Value} (hw : ∀ d ∈ tables_1, d.before a0 Z = true) : (Jvm.Cond.instanceMethod ({ cls := "java/lang/AbstractStringBuilder", name := "inflateIfNeededFor", desc := "(Ljava/lang/String;)V" } : Jvm.MethodName)).before a0 Z = true := hw _ (List.mem_of_getElem? (i := 220) rfl)
theorem w221 {Z : State} {a0 : Array Value} (hw : ∀ d ∈ tables_1, d.before a0 Z = true) : (Jvm.Cond.privateMethod ({ cls := "java/lang/AbstractStringBuilder", name := "inflateIfNeededFor", desc := "(Ljava/lang/String;)V" } : Jvm.MethodName)).before a0 Z = true := hw _ (List.mem_of_getElem? (i := 221) rfl)
theorem w223 {Z : State} {a0 : Array Value} (hw : ∀ d ∈ tables_1, d.before a0 Z = true) : (Jvm.Cond.code ({ cls := "java/lang/AbstractStringBuilder", name := "inflateIfNeededFor", desc := "(Ljava/lang/String;)V" } : Jvm.MethodName) jdk_68_method_71_code (2 : Nat) (Option.none : Option Jvm.ClassFile.FieldType)).before a0 Z = true := hw _ (List.mem_of_getElem? (i := 223) rfl)
theorem w224 {Z : State} {a0 : Array Value} (hw : ∀ d ∈ tables_1, d.before a0 Z = true) : (Jvm.Cond.methodLink "java/lang/AbstractStringBuilder" (40 : Nat) ({ cls := "java/lang/String", name := "coder", desc := "()B" } : Jvm.MethodName)).before a0 Z = true := hw _ (List.mem_of_getElem? (i := 224) rfl)
theorem w225 {Z : State} {a0 : Array Value} (hw : ∀ d ∈ tables_1, d.before a0 Z = true) : (Jvm.Cond.methodLink "java/lang/AbstractStringBuilder" (399 : Nat) ({ cls := "java/lang/String", name := "getBytes", desc := "([BIB)V" } : Jvm.MethodName)).before a0 Z = true := hw _ (List.mem_of_getElem? (i := 225) rfl)
theorem w226 {Z : State} {a0 : Array Value} (hw : ∀ d ∈ tables_1, d.before a0 Z = true) : (Jvm.Cond.declares ({ cls := "java/lang/String", name := "getBytes", desc := "([BIB)V" } : Jvm.MethodName)).before a0 Z = true := hw _ (List.mem_of_getElem? (i := 226) rfl)
theorem w227 {Z : State} {a0 : Array Value} (hw : ∀ d ∈ tables_1, d.before a0 Z = true) : (Jvm.Cond.instanceMethod ({ cls := "java/lang/String", name := "getBytes", desc := "([BIB)V" } : Jvm.MethodName)).before a0 Z = true := hw _ (List.mem_of_getElem? (i := 227) rfl)
theorem w228 {Z : State} {a0 : Array Value} (hw : ∀ d ∈ tables_1, d.before a0 Z = true) : (Jvm.Cond.selects "java/lang/String" ({ cls := "java/lang/String", name := "getBytes", desc := "([BIB)V" } : Jvm.MethodName) ({ cls := "java/lang/String", name := "getBytes", desc := "([BIB)V" } : Jvm.MethodName)).before a0 Z = true := hw _ (List.mem_of_getElem? (i := 228) rfl)
theorem w229 {Z : State} {a0 : Array Value} (hw : ∀ d ∈ tables_1, d.before a0 Z = true) : (Jvm.Cond.code ({ cls := "java/lang/String", name := "getBytes", desc := "([BIB)V" } : Jvm.MethodName) jdk_42_method_147_code (4 : Nat) (Option.none : Option Jvm.ClassFile.FieldType)).before a0 Z = true := hw _ (List.mem_of_getElem? (i := 229) rfl)
theorem w230 {Z : State} {a0 : Array Value} (hw : ∀ d ∈ tables_1, d.before a0 Z = true) : (Jvm.Cond.methodLink "java/lang/String" (212 : Nat) ({ cls := "java/lang/System", name := "arraycopy", desc := "(Ljava/lang/Object;ILjava/lang/Object;II)V" } : Jvm.MethodName)).before a0 Z = true := hw _ (List.mem_of_getElem? (i := 230) rfl)
theorem w231 {Z : State} {a0 : Array Value} (hw : ∀ d ∈ tables_1, d.before a0 Z = true) : (Jvm.Cond.methodLink "com/example/quittance/quittance/Segment" (45 : Nat) ({ cls := "java/lang/StringBuilder", name := "append", desc := "(C)Ljava/lang/StringBuilder;" } : Jvm.MethodName)).before a0 Z = true := hw _ (List.mem_of_getElem? (i := 231) rfl)
theorem w232 {Z : State} {a0 : Array Value} (hw : ∀ d ∈ tables_1, d.before a0 Z = true) : (Jvm.Cond.declares ({ cls := "java/lang/StringBuilder", name := "append", desc := "(C)Ljava/lang/StringBuilder;" } : Jvm.MethodName)).before a0 Z = true := hw _ (List.mem_of_getElem? (i := 232) rfl)
theorem w233 {Z : State} {a0 : Array Value} (hw : ∀ d ∈ tables_1, d.before a0 Z = true) : (Jvm.Cond.instanceMethod ({ cls := "java/lang/StringBuilder", name := "append", desc := "(C)Ljava/lang/StringBuilder;" } : Jvm.MethodName)).before a0 Z = true := hw _ (List.mem_of_getElem? (i := 233) rfl)
theorem w234 {Z : State} {a0 : Array Value} (hw : ∀ d ∈ tables_1, d.before a0 Z = true) : (Jvm.Cond.selects "java/lang/StringBuilder" ({ cls := "java/lang/StringBuilder", name := "append", desc := "(C)Ljava/lang/StringBuilder;" } : Jvm.MethodName) ({ cls := "java/lang/StringBuilder", name := "append", desc := "(C)Ljava/lang/StringBuilder;" } : Jvm.MethodName)).before a0 Z = true := hw _ (List.mem_of_getElem? (i := 234) rfl)
theorem w235 {Z : State} {a0 : Array Value} (hw : ∀ d ∈ tables_1, d.before a0 Z = true) : (Jvm.Cond.code ({ cls := "java/lang/StringBuilder", name := "append", desc := "(C)Ljava/lang/StringBuilder;" } : Jvm.MethodName) jdk_67_method_14_code (2 : Nat) (Option.some (Jvm.ClassFile.FieldType.object "java/lang/StringBuilder"))).before a0 Z = true := hw _ (List.mem_of_getElem? (i := 235) rfl)
theorem w236 {Z : State} {a0 : Array Value} (hw : ∀ d ∈ tables_1, d.before a0 Z = true) : (Jvm.Cond.methodLink "java/lang/StringBuilder" (50 : Nat) ({ cls := "java/lang/AbstractStringBuilder", name := "append", desc := "(C)Ljava/lang/AbstractStringBuilder;" } : Jvm.MethodName)).before a0 Z = true := hw _ (List.mem_of_getElem? (i := 236) rfl)
theorem w237 {Z : State} {a0 : Array Value} (hw : ∀ d ∈ tables_1, d.before a0 Z = true) : (Jvm.Cond.instanceMethod ({ cls := "java/lang/AbstractStringBuilder", name := "append", desc := "(C)Ljava/lang/AbstractStringBuilder;" } : Jvm.MethodName)).before a0 Z = true := hw _ (List.mem_of_getElem? (i := 237) rfl)
theorem w239 {Z : State} {a0 : Array Value} (hw : ∀ d ∈ tables_1, d.before a0 Z = true) : (Jvm.Cond.code ({ cls := "java/lang/AbstractStringBuilder", name := "append", desc := "(C)Ljava/lang/AbstractStringBuilder;" } : Jvm.MethodName) jdk_68_method_31_code (2 : Nat) (Option.some (Jvm.ClassFile.FieldType.object "java/lang/AbstractStringBuilder"))).before a0 Z = true := hw _ (List.mem_of_getElem? (i := 239) rfl)
theorem w240 {Z : State} {a0 : Array Value} (hw : ∀ d ∈ tables_1, d.before a0 Z = true) : (Jvm.Cond.methodLink "java/lang/AbstractStringBuilder" (83 : Nat) ({ cls := "java/lang/AbstractStringBuilder", name := "isLatin1", desc := "()Z" } : Jvm.MethodName)).before a0 Z = true := hw _ (List.mem_of_getElem? (i := 240) rfl)
theorem w241 {Z : State} {a0 : Array Value} (hw : ∀ d ∈ tables_1, d.before a0 Z = true) : (Jvm.Cond.declares ({ cls := "java/lang/AbstractStringBuilder", name := "isLatin1", desc := "()Z" } : Jvm.MethodName)).before a0 Z = true := hw _ (List.mem_of_getElem? (i := 241) rfl)
theorem w242 {Z : State} {a0 : Array Value} (hw : ∀ d ∈ tables_1, d.before a0 Z = true) : (Jvm.Cond.instanceMethod ({ cls := "java/lang/AbstractStringBuilder", name := "isLatin1", desc := "()Z" } : Jvm.MethodName)).before a0 Z = true := hw _ (List.mem_of_getElem? (i := 242) rfl)
theorem w243 {Z : State} {a0 : Array Value} (hw : ∀ d ∈ tables_1, d.before a0 Z = true) : (Jvm.Cond.selects "java/lang/StringBuilder" ({ cls := "java/lang/AbstractStringBuilder", name := "isLatin1", desc := "()Z" } : Jvm.MethodName) ({ cls := "java/lang/AbstractStringBuilder", name := "isLatin1", desc := "()Z" } : Jvm.MethodName)).before a0 Z = true := hw _ (List.mem_of_getElem? (i := 243) rfl)
theorem w244 {Z : State} {a0 : Array Value} (hw : ∀ d ∈ tables_1, d.before a0 Z = true) : (Jvm.Cond.code ({ cls := "java/lang/AbstractStringBuilder", name := "isLatin1", desc := "()Z" } : Jvm.MethodName) jdk_68_method_68_code (1 : Nat) (Option.some Jvm.ClassFile.FieldType.boolean)).before a0 Z = true := hw _ (List.mem_of_getElem? (i := 244) rfl)
theorem w245 {Z : State} {a0 : Array Value} (hw : ∀ d ∈ tables_1, d.before a0 Z = true) : (Jvm.Cond.methodLink "java/lang/AbstractStringBuilder" (191 : Nat) ({ cls := "java/lang/StringLatin1", name := "canEncode", desc := "(C)Z" } : Jvm.MethodName)).before a0 Z = true := hw _ (List.mem_of_getElem? (i := 245) rfl)
theorem w246 {Z : State} {a0 : Array Value} (hw : ∀ d ∈ tables_1, d.before a0 Z = true) : (Jvm.Cond.static ({ cls := "java/lang/StringLatin1", name := "canEncode", desc := "(C)Z" } : Jvm.MethodName)).before a0 Z = true := hw _ (List.mem_of_getElem? (i := 246) rfl)
theorem w247 {Z : State} {a0 : Array Value} (hw : ∀ d ∈ tables_1, d.before a0 Z = true) : (Jvm.Cond.code ({ cls := "java/lang/StringLatin1", name := "canEncode", desc := "(C)Z" } : Jvm.MethodName) jdk_43_method_3_code (1 : Nat) (Option.some Jvm.ClassFile.FieldType.boolean)).before a0 Z = true := hw _ (List.mem_of_getElem? (i := 247) rfl)
theorem w248 {Z : State} {a0 : Array Value} (hw : ∀ d ∈ tables_1, d.before a0 Z = true) : (Jvm.Cond.methodLink "com/example/quittance/quittance/Segment" (48 : Nat) ({ cls := "java/lang/StringBuilder", name := "toString", desc := "()Ljava/lang/String;" } : Jvm.MethodName)).before a0 Z = true := hw _ (List.mem_of_getElem? (i := 248) rfl)
theorem w249 {Z : State} {a0 : Array Value} (hw : ∀ d ∈ tables_1, d.before a0 Z = true) : (Jvm.Cond.declares ({ cls := "java/lang/StringBuilder", name := "toString", desc := "()Ljava/lang/String;" } : Jvm.MethodName)).before a0 Z = true := hw _ (List.mem_of_getElem? (i := 249) rfl)
theorem w250 {Z : State} {a0 : Array Value} (hw : ∀ d ∈ tables_1, d.before a0 Z = true) : (Jvm.Cond.instanceMethod ({ cls := "java/lang/StringBuilder", name := "toString", desc := "()Ljava/lang/String;" } : Jvm.MethodName)).before a0 Z = true := hw _ (List.mem_of_getElem? (i := 250) rfl)
theorem w251 {Z : State} {a0 : Array Value} (hw : ∀ d ∈ tables_1, d.before a0 Z = true) : (Jvm.Cond.selects "java/lang/StringBuilder" ({ cls := "java/lang/StringBuilder", name := "toString", desc := "()Ljava/lang/String;" } : Jvm.MethodName) ({ cls := "java/lang/StringBuilder", name := "toString", desc := "()Ljava/lang/String;" } : Jvm.MethodName)).before a0 Z = true := hw _ (List.mem_of_getElem? (i := 251) rfl)
theorem w252 {Z : State} {a0 : Array Value} (hw : ∀ d ∈ tables_1, d.before a0 Z = true) : (Jvm.Cond.code ({ cls := "java/lang/StringBuilder", name := "toString", desc := "()Ljava/lang/String;" } : Jvm.MethodName) jdk_67_method_42_code (1 : Nat) (Option.some (Jvm.ClassFile.FieldType.object "java/lang/String"))).before a0 Z = true := hw _ (List.mem_of_getElem? (i := 252) rfl)
theorem w253 {Z : State} {a0 : Array Value} (hw : ∀ d ∈ tables_1, d.before a0 Z = true) : (Jvm.Cond.classLink "java/lang/StringBuilder" (18 : Nat) "java/lang/String").before a0 Z = true := hw _ (List.mem_of_getElem? (i := 253) rfl)
theorem w254 {Z : State} {a0 : Array Value} (hw : ∀ d ∈ tables_1, d.before a0 Z = true) : (Jvm.Cond.methodLink "java/lang/StringBuilder" (137 : Nat) ({ cls := "java/lang/String", name := "<init>", desc := "(Ljava/lang/StringBuilder;)V" } : Jvm.MethodName)).before a0 Z = true := hw _ (List.mem_of_getElem? (i := 254) rfl)
theorem w255 {Z : State} {a0 : Array Value} (hw : ∀ d ∈ tables_1, d.before a0 Z = true) : (Jvm.Cond.instanceMethod ({ cls := "java/lang/String", name := "<init>", desc := "(Ljava/lang/StringBuilder;)V" } : Jvm.MethodName)).before a0 Z = true := hw _ (List.mem_of_getElem? (i := 255) rfl)
theorem w256 {Z : State} {a0 : Array Value} (hw : ∀ d ∈ tables_1, d.before a0 Z = true) : (Jvm.Cond.code ({ cls := "java/lang/String", name := "<init>", desc := "(Ljava/lang/StringBuilder;)V" } : Jvm.MethodName) jdk_42_method_53_code (2 : Nat) (Option.none : Option Jvm.ClassFile.FieldType)).before a0 Z = true := hw _ (List.mem_of_getElem? (i := 256) rfl)
theorem w257 {Z : State} {a0 : Array Value} (hw : ∀ d ∈ tables_1, d.before a0 Z = true) : (Jvm.Cond.methodLink "java/lang/String" (489 : Nat) ({ cls := "java/lang/String", name := "<init>", desc := "(Ljava/lang/AbstractStringBuilder;Ljava/lang/Void;)V" } : Jvm.MethodName)).before a0 Z = true := hw _ (List.mem_of_getElem? (i := 257) rfl)
theorem w258 {Z : State} {a0 : Array Value} (hw : ∀ d ∈ tables_1, d.before a0 Z = true) : (Jvm.Cond.instanceMethod ({ cls := "java/lang/String", name := "<init>", desc := "(Ljava/lang/AbstractStringBuilder;Ljava/lang/Void;)V" } : Jvm.MethodName)).before a0 Z = true := hw _ (List.mem_of_getElem? (i := 258) rfl)
theorem w259 {Z : State} {a0 : Array Value} (hw : ∀ d ∈ tables_1, d.before a0 Z = true) : (Jvm.Cond.code ({ cls := "java/lang/String", name := "<init>", desc := "(Ljava/lang/AbstractStringBuilder;Ljava/lang/Void;)V" } : Jvm.MethodName) jdk_42_method_150_code (5 : Nat) (Option.none : Option Jvm.ClassFile.FieldType)).before a0 Z = true := hw _ (List.mem_of_getElem? (i := 259) rfl)
theorem w260 {Z : State} {a0 : Array Value} (hw : ∀ d ∈ tables_1, d.before a0 Z = true) : (Jvm.Cond.methodLink "java/lang/String" (552 : Nat) ({ cls := "java/lang/AbstractStringBuilder", name := "getValue", desc := "()[B" } : Jvm.MethodName)).before a0 Z = true := hw _ (List.mem_of_getElem? (i := 260) rfl)
theorem w261 {Z : State} {a0 : Array Value} (hw : ∀ d ∈ tables_1, d.before a0 Z = true) : (Jvm.Cond.declares ({ cls := "java/lang/AbstractStringBuilder", name := "getValue", desc := "()[B" } : Jvm.MethodName)).before a0 Z = true := hw _ (List.mem_of_getElem? (i := 261) rfl)
theorem w262 {Z : State} {a0 : Array Value} (hw : ∀ d ∈ tables_1, d.before a0 Z = true) : (Jvm.Cond.instanceMethod ({ cls := "java/lang/AbstractStringBuilder", name := "getValue", desc := "()[B" } : Jvm.MethodName)).before a0 Z = true := hw _ (List.mem_of_getElem? (i := 262) rfl)
theorem w263 {Z : State} {a0 : Array Value} (hw : ∀ d ∈ tables_1, d.before a0 Z = true) : (Jvm.Cond.selects "java/lang/StringBuilder" ({ cls := "java/lang/AbstractStringBuilder", name := "getValue", desc := "()[B" } : Jvm.MethodName) ({ cls := "java/lang/AbstractStringBuilder", name := "getValue", desc := "()[B" } : Jvm.MethodName)).before a0 Z = true := hw _ (List.mem_of_getElem? (i := 263) rfl)
theorem w264 {Z : State} {a0 : Array Value} (hw : ∀ d ∈ tables_1, d.before a0 Z = true) : (Jvm.Cond.code ({ cls := "java/lang/AbstractStringBuilder", name := "getValue", desc := "()[B" } : Jvm.MethodName) jdk_68_method_64_code (1 : Nat) (Option.some (Jvm.ClassFile.FieldType.array Jvm.ClassFile.FieldType.byte))).before a0 Z = true := hw _ (List.mem_of_getElem? (i := 264) rfl)
theorem w265 {Z : State} {a0 : Array Value} (hw : ∀ d ∈ tables_1, d.before a0 Z = true) : (Jvm.Cond.methodLink "java/lang/String" (549 : Nat) ({ cls := "java/lang/AbstractStringBuilder", name := "length", desc := "()I" } : Jvm.MethodName)).before a0 Z = true := hw _ (List.mem_of_getElem? (i := 265) rfl)
theorem w266 {Z : State} {a0 : Array Value} (hw : ∀ d ∈ tables_1, d.before a0 Z = true) : (Jvm.Cond.declares ({ cls := "java/lang/AbstractStringBuilder", name := "length", desc := "()I" } : Jvm.MethodName)).before a0 Z = true := hw _ (List.mem_of_getElem? (i := 266) rfl)
theorem w267 {Z : State} {a0 : Array Value} (hw : ∀ d ∈ tables_1, d.before a0 Z = true) : (Jvm.Cond.instanceMethod ({ cls := "java/lang/AbstractStringBuilder", name := "length", desc := "()I" } : Jvm.MethodName)).before a0 Z = true := hw _ (List.mem_of_getElem? (i := 267) rfl)
theorem w268 {Z : State} {a0 : Array Value} (hw : ∀ d ∈ tables_1, d.before a0 Z = true) : (Jvm.Cond.selects "java/lang/StringBuilder" ({ cls := "java/lang/AbstractStringBuilder", name := "length", desc := "()I" } : Jvm.MethodName) ({ cls := "java/lang/StringBuilder", name := "length", desc := "()I" } : Jvm.MethodName)).before a0 Z = true := hw _ (List.mem_of_getElem? (i := 268) rfl)
theorem w269 {Z : State} {a0 : Array Value} (hw : ∀ d ∈ tables_1, d.before a0 Z = true) : (Jvm.Cond.instanceMethod ({ cls := "java/lang/StringBuilder", name := "length", desc := "()I" } : Jvm.MethodName)).before a0 Z = true := hw _ (List.mem_of_getElem? (i := 269) rfl)
theorem w270 {Z : State} {a0 : Array Value} (hw : ∀ d ∈ tables_1, d.before a0 Z = true) : (Jvm.Cond.code ({ cls := "java/lang/StringBuilder", name := "length", desc := "()I" } : Jvm.MethodName) jdk_67_method_93_code (1 : Nat) (Option.some Jvm.ClassFile.FieldType.int)).before a0 Z = true := hw _ (List.mem_of_getElem? (i := 270) rfl)
theorem w271 {Z : State} {a0 : Array Value} (hw : ∀ d ∈ tables_1, d.before a0 Z = true) : (Jvm.Cond.methodLink "java/lang/StringBuilder" (343 : Nat) ({ cls := "java/lang/AbstractStringBuilder", name := "length", desc := "()I" } : Jvm.MethodName)).before a0 Z = true := hw _ (List.mem_of_getElem? (i := 271) rfl)
theorem w272 {Z : State} {a0 : Array Value} (hw : ∀ d ∈ tables_1, d.before a0 Z = true) : (Jvm.Cond.code ({ cls := "java/lang/AbstractStringBuilder", name := "length", desc := "()I" } : Jvm.MethodName) jdk_68_method_6_code (1 : Nat) (Option.some Jvm.ClassFile.FieldType.int)).before a0 Z = true := hw _ (List.mem_of_getElem? (i := 272) rfl)
theorem w273 {Z : State} {a0 : Array Value} (hw : ∀ d ∈ tables_1, d.before a0 Z = true) : (Jvm.Cond.methodLink "java/lang/String" (1047 : Nat) ({ cls := "java/lang/AbstractStringBuilder", name := "isLatin1", desc := "()Z" } : Jvm.MethodName)).before a0 Z = true := hw _ (List.mem_of_getElem? (i := 273) rfl)
theorem w274 {Z : State} {a0 : Array Value} (hw : ∀ d ∈ tables_1, d.before a0 Z = true) : (Jvm.Cond.methodLink "java/lang/String" (54 : Nat) ({ cls := "java/util/Arrays", name := "copyOfRange", desc := "([BII)[B" } : Jvm.MethodName)).before a0 Z = true := hw _ (List.mem_of_getElem? (i := 274) rfl)
theorem pd0 : parseMethodDescriptor "()B" = some ⟨[], some .byte⟩ := by decide +kernel
theorem pd1 : parseMethodDescriptor "(IILjava/util/function/BiFunction;)I" = some ⟨[.int, .int, (.object "java/util/function/BiFunction")], some .int⟩ := by decide +kernel
theorem pd2 : parseMethodDescriptor "(II)V" = some ⟨[.int, .int], none⟩ := by decide +kernel
theorem pd3 : parseMethodDescriptor "()Z" = some ⟨[], some .boolean⟩ := by decide +kernel
theorem pd4 : parseMethodDescriptor "([BI)C" = some ⟨[(.array .byte), .int], some .char⟩ := by decide +kernel
theorem pd5 : parseMethodDescriptor "([CI[BII)I" = some ⟨[(.array .char), .int, (.array .byte), .int, .int], some .int⟩ := by decide +kernel
theorem pd6 : parseMethodDescriptor "([CII)[B" = some ⟨[(.array .char), .int, .int], some (.array .byte)⟩ := by decide +kernel
theorem pd7 : parseMethodDescriptor "([BI)B" = some ⟨[(.array .byte), .int], some .byte⟩ := by decide +kernel
theorem pd8 : parseMethodDescriptor "([CIILjava/lang/Void;)V" = some ⟨[(.array .char), .int, .int, (.object "java/lang/Void")], none⟩ := by decide +kernel
theorem pd9 : parseMethodDescriptor "()I" = some ⟨[], some .int⟩ := by decide +kernel
theorem pd10 : parseMethodDescriptor "(Ljava/lang/String;)V" = some ⟨[(.object "java/lang/String")], none⟩ := by decide +kernel
theorem pd11 : parseMethodDescriptor "([BIB)V" = some ⟨[(.array .byte), .int, .byte], none⟩ := by decide +kernel
theorem pd12 : parseMethodDescriptor "(I)V" = some ⟨[.int], none⟩ := by decide +kernel
theorem pd13 : parseMethodDescriptor "(ILjava/lang/String;)V" = some ⟨[.int, (.object "java/lang/String")], none⟩ := by decide +kernel
theorem pd14 : parseMethodDescriptor "(Ljava/lang/String;)Ljava/lang/AbstractStringBuilder;" = some ⟨[(.object "java/lang/String")], some (.object "java/lang/AbstractStringBuilder")⟩ := by decide +kernel
theorem pd15 : parseMethodDescriptor "(C)Z" = some ⟨[.char], some .boolean⟩ := by decide +kernel
theorem pd16 : parseMethodDescriptor "(C)Ljava/lang/AbstractStringBuilder;" = some ⟨[.char], some (.object "java/lang/AbstractStringBuilder")⟩ := by decide +kernel
theorem pd17 : parseMethodDescriptor "(II)I" = some ⟨[.int, .int], some .int⟩ := by decide +kernel
theorem pd18 : parseMethodDescriptor "([BII)[B" = some ⟨[(.array .byte), .int, .int], some (.array .byte)⟩ := by decide +kernel
theorem pd19 : parseMethodDescriptor "()[B" = some ⟨[], some (.array .byte)⟩ := by decide +kernel
theorem pd20 : parseMethodDescriptor "(Ljava/lang/AbstractStringBuilder;Ljava/lang/Void;)V" = some ⟨[(.object "java/lang/AbstractStringBuilder"), (.object "java/lang/Void")], none⟩ := by decide +kernel
theorem pd21 : parseMethodDescriptor "(Ljava/lang/StringBuilder;)V" = some ⟨[(.object "java/lang/StringBuilder")], none⟩ := by decide +kernel
theorem pd22 : parseMethodDescriptor "([CII)I" = some ⟨[(.array .char), .int, .int], some .int⟩ := by decide +kernel
theorem pd23 : parseMethodDescriptor "([CIII)I" = some ⟨[(.array .char), .int, .int, .int], some .int⟩ := by decide +kernel
theorem pd24 : parseMethodDescriptor "()V" = some ⟨[], none⟩ := by decide +kernel
theorem pd25 : parseMethodDescriptor "(I)C" = some ⟨[.int], some .char⟩ := by decide +kernel
theorem pd26 : parseMethodDescriptor "([BI[BII)I" = some ⟨[(.array .byte), .int, (.array .byte), .int, .int], some .int⟩ := by decide +kernel
theorem pd27 : parseMethodDescriptor "(IIILjava/util/function/BiFunction;)I" = some ⟨[.int, .int, .int, (.object "java/util/function/BiFunction")], some .int⟩ := by decide +kernel
theorem pd28 : parseMethodDescriptor "([BB)V" = some ⟨[(.array .byte), .byte], none⟩ := by decide +kernel
theorem pd29 : parseMethodDescriptor "(III)V" = some ⟨[.int, .int, .int], none⟩ := by decide +kernel
theorem pd30 : parseMethodDescriptor "([BII)Ljava/lang/String;" = some ⟨[(.array .byte), .int, .int], some (.object "java/lang/String")⟩ := by decide +kernel
theorem pd31 : parseMethodDescriptor "()C" = some ⟨[], some .char⟩ := by decide +kernel
theorem pd32 : parseMethodDescriptor "(Ljava/lang/String;I)Z" = some ⟨[(.object "java/lang/String"), .int], some .boolean⟩ := by decide +kernel
theorem pd33 : parseMethodDescriptor "(II)Ljava/lang/String;" = some ⟨[.int, .int], some (.object "java/lang/String")⟩ := by decide +kernel
theorem pd34 : parseMethodDescriptor "(Ljava/lang/String;CII)I" = some ⟨[(.object "java/lang/String"), .char, .int, .int], some .int⟩ := by decide +kernel
theorem pd35 : parseMethodDescriptor "(Ljava/lang/String;)Ljava/lang/StringBuilder;" = some ⟨[(.object "java/lang/String")], some (.object "java/lang/StringBuilder")⟩ := by decide +kernel
theorem pd36 : parseMethodDescriptor "(C)Ljava/lang/StringBuilder;" = some ⟨[.char], some (.object "java/lang/StringBuilder")⟩ := by decide +kernel
theorem pd37 : parseMethodDescriptor "()Ljava/lang/String;" = some ⟨[], some (.object "java/lang/String")⟩ := by decide +kernel
theorem pd38 : parseMethodDescriptor "(CLjava/lang/String;)V" = some ⟨[.char, (.object "java/lang/String")], none⟩ := by decide +kernel
theorem pd39 : parseMethodDescriptor "([C)V" = some ⟨[(.array .char)], none⟩ := by decide +kernel
theorem pd40 : parseMethodDescriptor "(Ljava/lang/String;IILcom/example/quittance/quittance/Delimiters;)V" = some ⟨[(.object "java/lang/String"), .int, .int, (.object "com/example/quittance/quittance/Delimiters")], none⟩ := by decide +kernel
theorem pd41 : parseMethodDescriptor "(I)I" = some ⟨[.int], some .int⟩ := by decide +kernel
theorem d1_0 : decode method_3_code 0 = .ok (.iload_n 0, 1) := by decide +kernel
theorem d1_1 : decode method_3_code 1 = .ok (.bipush 7, 2) := by decide +kernel
theorem d1_3 : decode method_3_code 3 = .ok (.iand, 1) := by decide +kernel
theorem d1_4 : decode method_3_code 4 = .ok (.istore_n 1, 1) := by decide +kernel
theorem d1_5 : decode method_3_code 5 = .ok (.iload_n 1, 1) := by decide +kernel
theorem d1_6 : decode method_3_code 6 = .ok (.ifCond .eq 8, 3) := by decide +kernel
theorem d1_9 : decode method_3_code 9 = .ok (.iload_n 1, 1) := by decide +kernel
theorem d1_10 : decode method_3_code 10 = .ok (.iconst 1, 1) := by decide +kernel
theorem d1_11 : decode method_3_code 11 = .ok (.if_icmp .ne 6, 3) := by decide +kernel
theorem d1_14 : decode method_3_code 14 = .ok (.bipush 124, 2) := by decide +kernel
theorem d1_16 : decode method_3_code 16 = .ok (.ireturn, 1) := by decide +kernel
theorem d1_17 : decode method_3_code 17 = .ok (.iload_n 1, 1) := by decide +kernel
theorem d1_18 : decode method_3_code 18 = .ok (.iconst 2, 1) := by decide +kernel
theorem d1_19 : decode method_3_code 19 = .ok (.if_icmp .ne 6, 3) := by decide +kernel
theorem d1_22 : decode method_3_code 22 = .ok (.bipush 77, 2) := by decide +kernel
theorem d1_24 : decode method_3_code 24 = .ok (.ireturn, 1) := by decide +kernel
theorem d1_25 : decode method_3_code 25 = .ok (.iload_n 1, 1) := by decide +kernel
theorem d1_26 : decode method_3_code 26 = .ok (.iconst 3, 1) := by decide +kernel
theorem d1_27 : decode method_3_code 27 = .ok (.if_icmp .ne 6, 3) := by decide +kernel
theorem d1_30 : decode method_3_code 30 = .ok (.bipush 83, 2) := by decide +kernel
theorem d1_32 : decode method_3_code 32 = .ok (.ireturn, 1) := by decide +kernel
theorem d1_33 : decode method_3_code 33 = .ok (.iload_n 1, 1) := by decide +kernel
theorem d1_34 : decode method_3_code 34 = .ok (.iconst 4, 1) := by decide +kernel
theorem d1_35 : decode method_3_code 35 = .ok (.if_icmp .ne 6, 3) := by decide +kernel
theorem d1_38 : decode method_3_code 38 = .ok (.bipush 72, 2) := by decide +kernel
theorem d1_40 : decode method_3_code 40 = .ok (.ireturn, 1) := by decide +kernel
theorem d1_41 : decode method_3_code 41 = .ok (.iload_n 0, 1) := by decide +kernel
theorem d1_42 : decode method_3_code 42 = .ok (.iconst 3, 1) := by decide +kernel
theorem d1_43 : decode method_3_code 43 = .ok (.iushr, 1) := by decide +kernel
theorem d1_44 : decode method_3_code 44 = .ok (.sipush 255, 3) := by decide +kernel
theorem d1_47 : decode method_3_code 47 = .ok (.iand, 1) := by decide +kernel
theorem d1_48 : decode method_3_code 48 = .ok (.i2c, 1) := by decide +kernel
theorem d1_49 : decode method_3_code 49 = .ok (.ireturn, 1) := by decide +kernel
theorem d2_0 : decode method_7_code 0 = .ok (.iload_n 1, 1) := by decide +kernel
theorem d2_1 : decode method_7_code 1 = .ok (.iconst 3, 1) := by decide +kernel
theorem d2_2 : decode method_7_code 2 = .ok (.iadd, 1) := by decide +kernel
theorem d2_3 : decode method_7_code 3 = .ok (.iload_n 2, 1) := by decide +kernel
theorem d2_4 : decode method_7_code 4 = .ok (.if_icmp .gt 52, 3) := by decide +kernel
theorem d2_7 : decode method_7_code 7 = .ok (.aload_n 0, 1) := by decide +kernel
theorem d2_8 : decode method_7_code 8 = .ok (.iload_n 1, 1) := by decide +kernel
theorem d2_9 : decode method_7_code 9 = .ok (.caload, 1) := by decide +kernel
theorem d2_10 : decode method_7_code 10 = .ok (.bipush 77, 2) := by decide +kernel
theorem d2_12 : decode method_7_code 12 = .ok (.if_icmp .ne 44, 3) := by decide +kernel
theorem d2_15 : decode method_7_code 15 = .ok (.aload_n 0, 1) := by decide +kernel
theorem d2_16 : decode method_7_code 16 = .ok (.iload_n 1, 1) := by decide +kernel
theorem d2_17 : decode method_7_code 17 = .ok (.iconst 1, 1) := by decide +kernel
theorem d2_18 : decode method_7_code 18 = .ok (.iadd, 1) := by decide +kernel
theorem d2_19 : decode method_7_code 19 = .ok (.caload, 1) := by decide +kernel
theorem d2_20 : decode method_7_code 20 = .ok (.bipush 83, 2) := by decide +kernel
theorem d2_22 : decode method_7_code 22 = .ok (.if_icmp .ne 34, 3) := by decide +kernel
theorem d2_25 : decode method_7_code 25 = .ok (.aload_n 0, 1) := by decide +kernel
theorem d2_26 : decode method_7_code 26 = .ok (.iload_n 1, 1) := by decide +kernel
theorem d2_27 : decode method_7_code 27 = .ok (.iconst 2, 1) := by decide +kernel
theorem d2_28 : decode method_7_code 28 = .ok (.iadd, 1) := by decide +kernel
theorem d2_29 : decode method_7_code 29 = .ok (.caload, 1) := by decide +kernel
theorem d2_30 : decode method_7_code 30 = .ok (.bipush 72, 2) := by decide +kernel
theorem d2_32 : decode method_7_code 32 = .ok (.if_icmp .ne 24, 3) := by decide +kernel
theorem d2_35 : decode method_7_code 35 = .ok (.iload_n 1, 1) := by decide +kernel
theorem d2_36 : decode method_7_code 36 = .ok (.iconst 3, 1) := by decide +kernel
theorem d2_37 : decode method_7_code 37 = .ok (.iadd, 1) := by decide +kernel
theorem d2_38 : decode method_7_code 38 = .ok (.iload_n 2, 1) := by decide +kernel
theorem d2_39 : decode method_7_code 39 = .ok (.if_icmp .eq 13, 3) := by decide +kernel
theorem d2_42 : decode method_7_code 42 = .ok (.aload_n 0, 1) := by decide +kernel
theorem d2_43 : decode method_7_code 43 = .ok (.iload_n 1, 1) := by decide +kernel
theorem d2_44 : decode method_7_code 44 = .ok (.iconst 3, 1) := by decide +kernel
theorem d2_45 : decode method_7_code 45 = .ok (.iadd, 1) := by decide +kernel
theorem d2_46 : decode method_7_code 46 = .ok (.caload, 1) := by decide +kernel
theorem d2_47 : decode method_7_code 47 = .ok (.bipush 124, 2) := by decide +kernel
theorem d2_49 : decode method_7_code 49 = .ok (.if_icmp .ne 7, 3) := by decide +kernel
theorem d2_52 : decode method_7_code 52 = .ok (.iconst 1, 1) := by decide +kernel
theorem d2_53 : decode method_7_code 53 = .ok (.goto 4, 3) := by decide +kernel
theorem d2_56 : decode method_7_code 56 = .ok (.iconst 0, 1) := by decide +kernel
theorem d2_57 : decode method_7_code 57 = .ok (.istore 4, 2) := by decide +kernel
theorem d2_59 : decode method_7_code 59 = .ok (.iload 4, 2) := by decide +kernel
theorem d2_61 : decode method_7_code 61 = .ok (.ifCond .eq 20, 3) := by decide +kernel
theorem d2_64 : decode method_7_code 64 = .ok (.iload_n 2, 1) := by decide +kernel
theorem d2_65 : decode method_7_code 65 = .ok (.iload_n 1, 1) := by decide +kernel
theorem d2_66 : decode method_7_code 66 = .ok (.iconst 3, 1) := by decide +kernel
theorem d2_67 : decode method_7_code 67 = .ok (.iadd, 1) := by decide +kernel
theorem d2_68 : decode method_7_code 68 = .ok (.if_icmp .ne 13, 3) := by decide +kernel
theorem d2_71 : decode method_7_code 71 = .ok (.iload_n 3, 1) := by decide +kernel
theorem d2_72 : decode method_7_code 72 = .ok (.ifCond .ne 7, 3) := by decide +kernel
theorem d2_75 : decode method_7_code 75 = .ok (.iconst 3, 1) := by decide +kernel
theorem d2_76 : decode method_7_code 76 = .ok (.goto 4, 3) := by decide +kernel
theorem d2_79 : decode method_7_code 79 = .ok (.iconst 4, 1) := by decide +kernel
theorem d2_80 : decode method_7_code 80 = .ok (.ireturn, 1) := by decide +kernel
theorem d2_81 : decode method_7_code 81 = .ok (.iload 4, 2) := by decide +kernel
theorem d2_83 : decode method_7_code 83 = .ok (.ifCond .eq 37, 3) := by decide +kernel
theorem d2_86 : decode method_7_code 86 = .ok (.iload_n 3, 1) := by decide +kernel
theorem d2_87 : decode method_7_code 87 = .ok (.ifCond .ne 7, 3) := by decide +kernel
theorem d2_90 : decode method_7_code 90 = .ok (.iload_n 1, 1) := by decide +kernel
theorem d2_91 : decode method_7_code 91 = .ok (.iconst 3, 1) := by decide +kernel
theorem d2_92 : decode method_7_code 92 = .ok (.iadd, 1) := by decide +kernel
theorem d2_93 : decode method_7_code 93 = .ok (.ireturn, 1) := by decide +kernel
theorem d2_94 : decode method_7_code 94 = .ok (.iload_n 3, 1) := by decide +kernel
theorem d2_95 : decode method_7_code 95 = .ok (.iconst 1, 1) := by decide +kernel
theorem d2_96 : decode method_7_code 96 = .ok (.if_icmp .ne 7, 3) := by decide +kernel
theorem d2_99 : decode method_7_code 99 = .ok (.iload_n 1, 1) := by decide +kernel
theorem d2_100 : decode method_7_code 100 = .ok (.iconst 4, 1) := by decide +kernel
theorem d2_101 : decode method_7_code 101 = .ok (.iadd, 1) := by decide +kernel
theorem d2_102 : decode method_7_code 102 = .ok (.ireturn, 1) := by decide +kernel
theorem d2_103 : decode method_7_code 103 = .ok (.aload_n 0, 1) := by decide +kernel
theorem d2_104 : decode method_7_code 104 = .ok (.aload_n 0, 1) := by decide +kernel
theorem d2_105 : decode method_7_code 105 = .ok (.iload_n 1, 1) := by decide +kernel
theorem d2_106 : decode method_7_code 106 = .ok (.iconst 4, 1) := by decide +kernel
theorem d2_107 : decode method_7_code 107 = .ok (.iadd, 1) := by decide +kernel
theorem d2_108 : decode method_7_code 108 = .ok (.iload_n 2, 1) := by decide +kernel
theorem d2_109 : decode method_7_code 109 = .ok (.invokestatic 39, 3) := by decide +kernel
theorem d2_112 : decode method_7_code 112 = .ok (.iload_n 2, 1) := by decide +kernel
theorem d2_113 : decode method_7_code 113 = .ok (.iload_n 3, 1) := by decide +kernel
theorem d2_114 : decode method_7_code 114 = .ok (.iconst 2, 1) := by decide +kernel
theorem d2_115 : decode method_7_code 115 = .ok (.isub, 1) := by decide +kernel
theorem d2_116 : decode method_7_code 116 = .ok (.invokestatic 52, 3) := by decide +kernel
theorem d2_119 : decode method_7_code 119 = .ok (.ireturn, 1) := by decide +kernel
theorem d2_120 : decode method_7_code 120 = .ok (.aload_n 0, 1) := by decide +kernel
theorem d2_121 : decode method_7_code 121 = .ok (.aload_n 0, 1) := by decide +kernel
theorem d2_122 : decode method_7_code 122 = .ok (.iload_n 1, 1) := by decide +kernel
theorem d2_123 : decode method_7_code 123 = .ok (.iload_n 2, 1) := by decide +kernel
theorem d2_124 : decode method_7_code 124 = .ok (.invokestatic 39, 3) := by decide +kernel
theorem d2_127 : decode method_7_code 127 = .ok (.iload_n 2, 1) := by decide +kernel
theorem d2_128 : decode method_7_code 128 = .ok (.iload_n 3, 1) := by decide +kernel
theorem d2_129 : decode method_7_code 129 = .ok (.invokestatic 52, 3) := by decide +kernel
theorem d2_132 : decode method_7_code 132 = .ok (.ireturn, 1) := by decide +kernel
theorem d3_0 : decode method_4_code 0 = .ok (.iload_n 1, 1) := by decide +kernel
theorem d3_1 : decode method_4_code 1 = .ok (.ifCond .gt 18, 3) := by decide +kernel
theorem d3_4 : decode method_4_code 4 = .ok (.iconst 0, 1) := by decide +kernel
theorem d3_5 : decode method_4_code 5 = .ok (.iload_n 2, 1) := by decide +kernel
theorem d3_6 : decode method_4_code 6 = .ok (.if_icmp .ge 13, 3) := by decide +kernel
theorem d3_9 : decode method_4_code 9 = .ok (.aload_n 0, 1) := by decide +kernel
theorem d3_10 : decode method_4_code 10 = .ok (.iconst 0, 1) := by decide +kernel
theorem d3_11 : decode method_4_code 11 = .ok (.caload, 1) := by decide +kernel
theorem d3_12 : decode method_4_code 12 = .ok (.bipush 124, 2) := by decide +kernel
theorem d3_14 : decode method_4_code 14 = .ok (.if_icmp .ne 5, 3) := by decide +kernel
theorem d3_17 : decode method_4_code 17 = .ok (.iconst 0, 1) := by decide +kernel
theorem d3_18 : decode method_4_code 18 = .ok (.ireturn, 1) := by decide +kernel
theorem d3_19 : decode method_4_code 19 = .ok (.iload_n 1, 1) := by decide +kernel
theorem d3_20 : decode method_4_code 20 = .ok (.iconst 1, 1) := by decide +kernel
theorem d3_21 : decode method_4_code 21 = .ok (.if_icmp .gt 18, 3) := by decide +kernel
theorem d3_24 : decode method_4_code 24 = .ok (.iconst 1, 1) := by decide +kernel
theorem d3_25 : decode method_4_code 25 = .ok (.iload_n 2, 1) := by decide +kernel
theorem d3_26 : decode method_4_code 26 = .ok (.if_icmp .ge 13, 3) := by decide +kernel
theorem d3_29 : decode method_4_code 29 = .ok (.aload_n 0, 1) := by decide +kernel
theorem d3_30 : decode method_4_code 30 = .ok (.iconst 1, 1) := by decide +kernel
theorem d3_31 : decode method_4_code 31 = .ok (.caload, 1) := by decide +kernel
theorem d3_32 : decode method_4_code 32 = .ok (.bipush 124, 2) := by decide +kernel
theorem d3_34 : decode method_4_code 34 = .ok (.if_icmp .ne 5, 3) := by decide +kernel
theorem d3_37 : decode method_4_code 37 = .ok (.iconst 1, 1) := by decide +kernel
theorem d3_38 : decode method_4_code 38 = .ok (.ireturn, 1) := by decide +kernel
theorem d3_39 : decode method_4_code 39 = .ok (.iload_n 1, 1) := by decide +kernel
theorem d3_40 : decode method_4_code 40 = .ok (.iconst 2, 1) := by decide +kernel
theorem d3_41 : decode method_4_code 41 = .ok (.if_icmp .gt 18, 3) := by decide +kernel
theorem d3_44 : decode method_4_code 44 = .ok (.iconst 2, 1) := by decide +kernel
theorem d3_45 : decode method_4_code 45 = .ok (.iload_n 2, 1) := by decide +kernel
theorem d3_46 : decode method_4_code 46 = .ok (.if_icmp .ge 13, 3) := by decide +kernel
theorem d3_49 : decode method_4_code 49 = .ok (.aload_n 0, 1) := by decide +kernel
theorem d3_50 : decode method_4_code 50 = .ok (.iconst 2, 1) := by decide +kernel
theorem d3_51 : decode method_4_code 51 = .ok (.caload, 1) := by decide +kernel
theorem d3_52 : decode method_4_code 52 = .ok (.bipush 124, 2) := by decide +kernel
theorem d3_54 : decode method_4_code 54 = .ok (.if_icmp .ne 5, 3) := by decide +kernel
theorem d3_57 : decode method_4_code 57 = .ok (.iconst 2, 1) := by decide +kernel
theorem d3_58 : decode method_4_code 58 = .ok (.ireturn, 1) := by decide +kernel
theorem d3_59 : decode method_4_code 59 = .ok (.iload_n 1, 1) := by decide +kernel
theorem d3_60 : decode method_4_code 60 = .ok (.iconst 3, 1) := by decide +kernel
theorem d3_61 : decode method_4_code 61 = .ok (.if_icmp .gt 18, 3) := by decide +kernel
theorem d3_64 : decode method_4_code 64 = .ok (.iconst 3, 1) := by decide +kernel
theorem d3_65 : decode method_4_code 65 = .ok (.iload_n 2, 1) := by decide +kernel
theorem d3_66 : decode method_4_code 66 = .ok (.if_icmp .ge 13, 3) := by decide +kernel
theorem d3_69 : decode method_4_code 69 = .ok (.aload_n 0, 1) := by decide +kernel
theorem d3_70 : decode method_4_code 70 = .ok (.iconst 3, 1) := by decide +kernel
theorem d3_71 : decode method_4_code 71 = .ok (.caload, 1) := by decide +kernel
theorem d3_72 : decode method_4_code 72 = .ok (.bipush 124, 2) := by decide +kernel
theorem d3_74 : decode method_4_code 74 = .ok (.if_icmp .ne 5, 3) := by decide +kernel
theorem d3_77 : decode method_4_code 77 = .ok (.iconst 3, 1) := by decide +kernel
theorem d3_78 : decode method_4_code 78 = .ok (.ireturn, 1) := by decide +kernel
theorem d3_79 : decode method_4_code 79 = .ok (.iload_n 1, 1) := by decide +kernel
theorem d3_80 : decode method_4_code 80 = .ok (.iconst 4, 1) := by decide +kernel
theorem d3_81 : decode method_4_code 81 = .ok (.if_icmp .gt 18, 3) := by decide +kernel
theorem d3_84 : decode method_4_code 84 = .ok (.iconst 4, 1) := by decide +kernel
theorem d3_85 : decode method_4_code 85 = .ok (.iload_n 2, 1) := by decide +kernel
theorem d3_86 : decode method_4_code 86 = .ok (.if_icmp .ge 13, 3) := by decide +kernel
theorem d3_89 : decode method_4_code 89 = .ok (.aload_n 0, 1) := by decide +kernel
theorem d3_90 : decode method_4_code 90 = .ok (.iconst 4, 1) := by decide +kernel
theorem d3_91 : decode method_4_code 91 = .ok (.caload, 1) := by decide +kernel
theorem d3_92 : decode method_4_code 92 = .ok (.bipush 124, 2) := by decide +kernel
theorem d3_94 : decode method_4_code 94 = .ok (.if_icmp .ne 5, 3) := by decide +kernel
theorem d3_97 : decode method_4_code 97 = .ok (.iconst 4, 1) := by decide +kernel
theorem d3_98 : decode method_4_code 98 = .ok (.ireturn, 1) := by decide +kernel
theorem d3_99 : decode method_4_code 99 = .ok (.iload_n 1, 1) := by decide +kernel
theorem d3_100 : decode method_4_code 100 = .ok (.iconst 5, 1) := by decide +kernel
theorem d3_101 : decode method_4_code 101 = .ok (.if_icmp .gt 18, 3) := by decide +kernel
theorem d3_104 : decode method_4_code 104 = .ok (.iconst 5, 1) := by decide +kernel
theorem d3_105 : decode method_4_code 105 = .ok (.iload_n 2, 1) := by decide +kernel
theorem d3_106 : decode method_4_code 106 = .ok (.if_icmp .ge 13, 3) := by decide +kernel
theorem d3_109 : decode method_4_code 109 = .ok (.aload_n 0, 1) := by decide +kernel
theorem d3_110 : decode method_4_code 110 = .ok (.iconst 5, 1) := by decide +kernel
theorem d3_111 : decode method_4_code 111 = .ok (.caload, 1) := by decide +kernel
theorem d3_112 : decode method_4_code 112 = .ok (.bipush 124, 2) := by decide +kernel
theorem d3_114 : decode method_4_code 114 = .ok (.if_icmp .ne 5, 3) := by decide +kernel
theorem d3_117 : decode method_4_code 117 = .ok (.iconst 5, 1) := by decide +kernel
theorem d3_118 : decode method_4_code 118 = .ok (.ireturn, 1) := by decide +kernel
theorem d3_119 : decode method_4_code 119 = .ok (.iload_n 2, 1) := by decide +kernel
theorem d3_120 : decode method_4_code 120 = .ok (.ireturn, 1) := by decide +kernel
theorem d4_0 : decode method_6_code 0 = .ok (.iload_n 3, 1) := by decide +kernel
theorem d4_1 : decode method_6_code 1 = .ok (.bipush 7, 2) := by decide +kernel
theorem d4_3 : decode method_6_code 3 = .ok (.invokestatic 43, 3) := by decide +kernel
theorem d4_6 : decode method_6_code 6 = .ok (.istore 4, 2) := by decide +kernel
theorem d4_8 : decode method_6_code 8 = .ok (.iload_n 1, 1) := by decide +kernel
theorem d4_9 : decode method_6_code 9 = .ok (.istore 5, 2) := by decide +kernel
theorem d4_11 : decode method_6_code 11 = .ok (.iload 4, 2) := by decide +kernel
theorem d4_13 : decode method_6_code 13 = .ok (.iconst 1, 1) := by decide +kernel
theorem d4_14 : decode method_6_code 14 = .ok (.if_icmp .lt 12, 3) := by decide +kernel
theorem d4_17 : decode method_6_code 17 = .ok (.aload_n 0, 1) := by decide +kernel
theorem d4_18 : decode method_6_code 18 = .ok (.iload 5, 2) := by decide +kernel
theorem d4_20 : decode method_6_code 20 = .ok (.iload_n 2, 1) := by decide +kernel
theorem d4_21 : decode method_6_code 21 = .ok (.invokestatic 49, 3) := by decide +kernel
theorem d4_24 : decode method_6_code 24 = .ok (.istore 5, 2) := by decide +kernel
theorem d4_26 : decode method_6_code 26 = .ok (.iload 4, 2) := by decide +kernel
theorem d4_28 : decode method_6_code 28 = .ok (.iconst 2, 1) := by decide +kernel
theorem d4_29 : decode method_6_code 29 = .ok (.if_icmp .lt 12, 3) := by decide +kernel
theorem d4_32 : decode method_6_code 32 = .ok (.aload_n 0, 1) := by decide +kernel
theorem d4_33 : decode method_6_code 33 = .ok (.iload 5, 2) := by decide +kernel
theorem d4_35 : decode method_6_code 35 = .ok (.iload_n 2, 1) := by decide +kernel
theorem d4_36 : decode method_6_code 36 = .ok (.invokestatic 49, 3) := by decide +kernel
theorem d4_39 : decode method_6_code 39 = .ok (.istore 5, 2) := by decide +kernel
theorem d4_41 : decode method_6_code 41 = .ok (.iload 4, 2) := by decide +kernel
theorem d4_43 : decode method_6_code 43 = .ok (.iconst 3, 1) := by decide +kernel
theorem d4_44 : decode method_6_code 44 = .ok (.if_icmp .lt 12, 3) := by decide +kernel
theorem d4_47 : decode method_6_code 47 = .ok (.aload_n 0, 1) := by decide +kernel
theorem d4_48 : decode method_6_code 48 = .ok (.iload 5, 2) := by decide +kernel
theorem d4_50 : decode method_6_code 50 = .ok (.iload_n 2, 1) := by decide +kernel
theorem d4_51 : decode method_6_code 51 = .ok (.invokestatic 49, 3) := by decide +kernel
theorem d4_54 : decode method_6_code 54 = .ok (.istore 5, 2) := by decide +kernel
theorem d4_56 : decode method_6_code 56 = .ok (.iload 4, 2) := by decide +kernel
theorem d4_58 : decode method_6_code 58 = .ok (.iconst 4, 1) := by decide +kernel
theorem d4_59 : decode method_6_code 59 = .ok (.if_icmp .lt 12, 3) := by decide +kernel
theorem d4_62 : decode method_6_code 62 = .ok (.aload_n 0, 1) := by decide +kernel
theorem d4_63 : decode method_6_code 63 = .ok (.iload 5, 2) := by decide +kernel
theorem d4_65 : decode method_6_code 65 = .ok (.iload_n 2, 1) := by decide +kernel
theorem d4_66 : decode method_6_code 66 = .ok (.invokestatic 49, 3) := by decide +kernel
theorem d4_69 : decode method_6_code 69 = .ok (.istore 5, 2) := by decide +kernel
theorem d4_71 : decode method_6_code 71 = .ok (.iload 4, 2) := by decide +kernel
theorem d4_73 : decode method_6_code 73 = .ok (.iconst 5, 1) := by decide +kernel
theorem d4_74 : decode method_6_code 74 = .ok (.if_icmp .lt 12, 3) := by decide +kernel
theorem d4_77 : decode method_6_code 77 = .ok (.aload_n 0, 1) := by decide +kernel
theorem d4_78 : decode method_6_code 78 = .ok (.iload 5, 2) := by decide +kernel
theorem d4_80 : decode method_6_code 80 = .ok (.iload_n 2, 1) := by decide +kernel
theorem d4_81 : decode method_6_code 81 = .ok (.invokestatic 49, 3) := by decide +kernel
theorem d4_84 : decode method_6_code 84 = .ok (.istore 5, 2) := by decide +kernel
theorem d4_86 : decode method_6_code 86 = .ok (.iload 4, 2) := by decide +kernel
theorem d4_88 : decode method_6_code 88 = .ok (.bipush 6, 2) := by decide +kernel
theorem d4_90 : decode method_6_code 90 = .ok (.if_icmp .lt 12, 3) := by decide +kernel
theorem d4_93 : decode method_6_code 93 = .ok (.aload_n 0, 1) := by decide +kernel
theorem d4_94 : decode method_6_code 94 = .ok (.iload 5, 2) := by decide +kernel
theorem d4_96 : decode method_6_code 96 = .ok (.iload_n 2, 1) := by decide +kernel
theorem d4_97 : decode method_6_code 97 = .ok (.invokestatic 49, 3) := by decide +kernel
theorem d4_100 : decode method_6_code 100 = .ok (.istore 5, 2) := by decide +kernel
theorem d4_102 : decode method_6_code 102 = .ok (.iload 4, 2) := by decide +kernel
theorem d4_104 : decode method_6_code 104 = .ok (.bipush 7, 2) := by decide +kernel
theorem d4_106 : decode method_6_code 106 = .ok (.if_icmp .lt 12, 3) := by decide +kernel
theorem d4_109 : decode method_6_code 109 = .ok (.aload_n 0, 1) := by decide +kernel
theorem d4_110 : decode method_6_code 110 = .ok (.iload 5, 2) := by decide +kernel
theorem d4_112 : decode method_6_code 112 = .ok (.iload_n 2, 1) := by decide +kernel
theorem d4_113 : decode method_6_code 113 = .ok (.invokestatic 49, 3) := by decide +kernel
theorem d4_116 : decode method_6_code 116 = .ok (.istore 5, 2) := by decide +kernel
theorem d4_118 : decode method_6_code 118 = .ok (.iload 5, 2) := by decide +kernel
theorem d4_120 : decode method_6_code 120 = .ok (.ireturn, 1) := by decide +kernel
theorem d5_0 : decode jdk_29_method_69_code 0 = .ok (.iload_n 0, 1) := by decide +kernel
theorem d5_1 : decode jdk_29_method_69_code 1 = .ok (.iload_n 1, 1) := by decide +kernel
theorem d5_2 : decode jdk_29_method_69_code 2 = .ok (.if_icmp .gt 7, 3) := by decide +kernel
theorem d5_5 : decode jdk_29_method_69_code 5 = .ok (.iload_n 0, 1) := by decide +kernel
theorem d5_6 : decode jdk_29_method_69_code 6 = .ok (.goto 4, 3) := by decide +kernel
theorem d5_9 : decode jdk_29_method_69_code 9 = .ok (.iload_n 1, 1) := by decide +kernel
theorem d5_10 : decode jdk_29_method_69_code 10 = .ok (.ireturn, 1) := by decide +kernel
theorem d6_0 : decode prog_23_method_1_code 0 = .ok (.aload_n 0, 1) := by decide +kernel
theorem d6_1 : decode prog_23_method_1_code 1 = .ok (.invokespecial 1, 3) := by decide +kernel
theorem d6_4 : decode prog_23_method_1_code 4 = .ok (.aload_n 0, 1) := by decide +kernel
theorem d6_5 : decode prog_23_method_1_code 5 = .ok (.iload_n 1, 1) := by decide +kernel
theorem d6_6 : decode prog_23_method_1_code 6 = .ok (.putfield 7, 3) := by decide +kernel
theorem d6_9 : decode prog_23_method_1_code 9 = .ok (.aload_n 0, 1) := by decide +kernel
theorem d6_10 : decode prog_23_method_1_code 10 = .ok (.aload_n 2, 1) := by decide +kernel
theorem d6_11 : decode prog_23_method_1_code 11 = .ok (.putfield 13, 3) := by decide +kernel
theorem d6_14 : decode prog_23_method_1_code 14 = .ok (.return_, 1) := by decide +kernel
theorem d7_0 : decode jdk_30_method_1_code 0 = .ok (.aload_n 0, 1) := by decide +kernel
theorem d7_1 : decode jdk_30_method_1_code 1 = .ok (.invokespecial 1, 3) := by decide +kernel
theorem d7_4 : decode jdk_30_method_1_code 4 = .ok (.return_, 1) := by decide +kernel
theorem d9_0 : decode jdk_42_method_3_code 0 = .ok (.aload_n 0, 1) := by decide +kernel
theorem d9_1 : decode jdk_42_method_3_code 1 = .ok (.aload_n 1, 1) := by decide +kernel
theorem d9_2 : decode jdk_42_method_3_code 2 = .ok (.iconst 0, 1) := by decide +kernel
theorem d9_3 : decode jdk_42_method_3_code 3 = .ok (.aload_n 1, 1) := by decide +kernel
theorem d9_4 : decode jdk_42_method_3_code 4 = .ok (.arraylength, 1) := by decide +kernel
theorem d9_5 : decode jdk_42_method_3_code 5 = .ok (.aconst_null, 1) := by decide +kernel
theorem d9_6 : decode jdk_42_method_3_code 6 = .ok (.invokespecial 27, 3) := by decide +kernel
theorem d9_9 : decode jdk_42_method_3_code 9 = .ok (.return_, 1) := by decide +kernel
theorem d10_0 : decode jdk_42_method_149_code 0 = .ok (.aload_n 0, 1) := by decide +kernel
theorem d10_1 : decode jdk_42_method_149_code 1 = .ok (.invokespecial 1, 3) := by decide +kernel
theorem d10_4 : decode jdk_42_method_149_code 4 = .ok (.iload_n 3, 1) := by decide +kernel
theorem d10_5 : decode jdk_42_method_149_code 5 = .ok (.ifCond .ne 22, 3) := by decide +kernel
theorem d10_27 : decode jdk_42_method_149_code 27 = .ok (.getstatic 38, 3) := by decide +kernel
theorem d10_30 : decode jdk_42_method_149_code 30 = .ok (.ifCond .eq 28, 3) := by decide +kernel
theorem d10_33 : decode jdk_42_method_149_code 33 = .ok (.aload_n 1, 1) := by decide +kernel
theorem d10_34 : decode jdk_42_method_149_code 34 = .ok (.iload_n 2, 1) := by decide +kernel
theorem d10_35 : decode jdk_42_method_149_code 35 = .ok (.iload_n 3, 1) := by decide +kernel
theorem d10_36 : decode jdk_42_method_149_code 36 = .ok (.invokestatic 177, 3) := by decide +kernel
theorem d10_39 : decode jdk_42_method_149_code 39 = .ok (.astore 5, 2) := by decide +kernel
theorem d10_41 : decode jdk_42_method_149_code 41 = .ok (.aload_n 0, 1) := by decide +kernel
theorem d10_42 : decode jdk_42_method_149_code 42 = .ok (.aload 5, 2) := by decide +kernel
theorem d10_44 : decode jdk_42_method_149_code 44 = .ok (.iload_n 3, 1) := by decide +kernel
theorem d10_45 : decode jdk_42_method_149_code 45 = .ok (.invokestatic 47, 3) := by decide +kernel
theorem d10_48 : decode jdk_42_method_149_code 48 = .ok (.putfield 15, 3) := by decide +kernel
theorem d10_51 : decode jdk_42_method_149_code 51 = .ok (.aload_n 0, 1) := by decide +kernel
theorem d10_52 : decode jdk_42_method_149_code 52 = .ok (.aload 5, 2) := by decide +kernel
theorem d10_54 : decode jdk_42_method_149_code 54 = .ok (.putfield 9, 3) := by decide +kernel
theorem d10_57 : decode jdk_42_method_149_code 57 = .ok (.return_, 1) := by decide +kernel
theorem d11_0 : decode jdk_52_method_16_code 0 = .ok (.iload_n 2, 1) := by decide +kernel
theorem d11_1 : decode jdk_52_method_16_code 1 = .ok (.newarray .byte, 2) := by decide +kernel
theorem d11_3 : decode jdk_52_method_16_code 3 = .ok (.astore_n 3, 1) := by decide +kernel
theorem d11_4 : decode jdk_52_method_16_code 4 = .ok (.aload_n 0, 1) := by decide +kernel
theorem d11_5 : decode jdk_52_method_16_code 5 = .ok (.iload_n 1, 1) := by decide +kernel
theorem d11_6 : decode jdk_52_method_16_code 6 = .ok (.aload_n 3, 1) := by decide +kernel
theorem d11_7 : decode jdk_52_method_16_code 7 = .ok (.iconst 0, 1) := by decide +kernel
theorem d11_8 : decode jdk_52_method_16_code 8 = .ok (.iload_n 2, 1) := by decide +kernel
theorem d11_9 : decode jdk_52_method_16_code 9 = .ok (.invokestatic 115, 3) := by decide +kernel
theorem d11_12 : decode jdk_52_method_16_code 12 = .ok (.istore 4, 2) := by decide +kernel
theorem d11_14 : decode jdk_52_method_16_code 14 = .ok (.iload 4, 2) := by decide +kernel
theorem d11_16 : decode jdk_52_method_16_code 16 = .ok (.iload_n 2, 1) := by decide +kernel
theorem d11_17 : decode jdk_52_method_16_code 17 = .ok (.if_icmp .eq 40, 3) := by decide +kernel
theorem d11_57 : decode jdk_52_method_16_code 57 = .ok (.aload_n 3, 1) := by decide +kernel
theorem d11_58 : decode jdk_52_method_16_code 58 = .ok (.areturn, 1) := by decide +kernel
theorem d12_0 : decode jdk_52_method_21_code 0 = .ok (.iconst 0, 1) := by decide +kernel
theorem d12_1 : decode jdk_52_method_21_code 1 = .ok (.istore 5, 2) := by decide +kernel
theorem d12_3 : decode jdk_52_method_21_code 3 = .ok (.iload 5, 2) := by decide +kernel
theorem d12_5 : decode jdk_52_method_21_code 5 = .ok (.iload 4, 2) := by decide +kernel
theorem d12_7 : decode jdk_52_method_21_code 7 = .ok (.if_icmp .ge 37, 3) := by decide +kernel
theorem d12_10 : decode jdk_52_method_21_code 10 = .ok (.aload_n 0, 1) := by decide +kernel
theorem d12_11 : decode jdk_52_method_21_code 11 = .ok (.iload_n 1, 1) := by decide +kernel
theorem d12_12 : decode jdk_52_method_21_code 12 = .ok (.caload, 1) := by decide +kernel
theorem d12_13 : decode jdk_52_method_21_code 13 = .ok (.istore 6, 2) := by decide +kernel
theorem d12_15 : decode jdk_52_method_21_code 15 = .ok (.iload 6, 2) := by decide +kernel
theorem d12_17 : decode jdk_52_method_21_code 17 = .ok (.sipush 255, 3) := by decide +kernel
theorem d12_20 : decode jdk_52_method_21_code 20 = .ok (.if_icmp .le 6, 3) := by decide +kernel
theorem d12_26 : decode jdk_52_method_21_code 26 = .ok (.aload_n 2, 1) := by decide +kernel
theorem d12_27 : decode jdk_52_method_21_code 27 = .ok (.iload_n 3, 1) := by decide +kernel
theorem d12_28 : decode jdk_52_method_21_code 28 = .ok (.iload 6, 2) := by decide +kernel
theorem d12_30 : decode jdk_52_method_21_code 30 = .ok (.i2b, 1) := by decide +kernel
theorem d12_31 : decode jdk_52_method_21_code 31 = .ok (.bastore, 1) := by decide +kernel
theorem d12_32 : decode jdk_52_method_21_code 32 = .ok (.iinc 1 1, 3) := by decide +kernel
theorem d12_35 : decode jdk_52_method_21_code 35 = .ok (.iinc 3 1, 3) := by decide +kernel
theorem d12_38 : decode jdk_52_method_21_code 38 = .ok (.iinc 5 1, 3) := by decide +kernel
theorem d12_41 : decode jdk_52_method_21_code 41 = .ok (.goto (-38), 3) := by decide +kernel
theorem d12_44 : decode jdk_52_method_21_code 44 = .ok (.iload 4, 2) := by decide +kernel
theorem d12_46 : decode jdk_52_method_21_code 46 = .ok (.ireturn, 1) := by decide +kernel
theorem d13_0 : decode jdk_52_method_15_code 0 = .ok (.iload_n 1, 1) := by decide +kernel
theorem d13_1 : decode jdk_52_method_15_code 1 = .ok (.aload_n 0, 1) := by decide +kernel
theorem d13_2 : decode jdk_52_method_15_code 2 = .ok (.arraylength, 1) := by decide +kernel
theorem d13_3 : decode jdk_52_method_15_code 3 = .ok (.isub, 1) := by decide +kernel
theorem d13_4 : decode jdk_52_method_15_code 4 = .ok (.bipush 31, 2) := by decide +kernel
theorem d13_6 : decode jdk_52_method_15_code 6 = .ok (.iushr, 1) := by decide +kernel
theorem d13_7 : decode jdk_52_method_15_code 7 = .ok (.i2b, 1) := by decide +kernel
theorem d13_8 : decode jdk_52_method_15_code 8 = .ok (.ireturn, 1) := by decide +kernel
theorem d14_0 : decode prog_111_method_2_code 0 = .ok (.aload_n 0, 1) := by decide +kernel
theorem d14_1 : decode prog_111_method_2_code 1 = .ok (.invokespecial 13, 3) := by decide +kernel
theorem d14_4 : decode prog_111_method_2_code 4 = .ok (.aload 4, 2) := by decide +kernel
theorem d14_6 : decode prog_111_method_2_code 6 = .ok (.invokevirtual 18, 3) := by decide +kernel
theorem d14_9 : decode prog_111_method_2_code 9 = .ok (.istore 5, 2) := by decide +kernel
theorem d14_11 : decode prog_111_method_2_code 11 = .ok (.aload_n 1, 1) := by decide +kernel
theorem d14_12 : decode prog_111_method_2_code 12 = .ok (.ldc 24, 2) := by decide +kernel
theorem d14_14 : decode prog_111_method_2_code 14 = .ok (.iload_n 2, 1) := by decide +kernel
theorem d14_15 : decode prog_111_method_2_code 15 = .ok (.invokevirtual 26, 3) := by decide +kernel
theorem d14_18 : decode prog_111_method_2_code 18 = .ok (.ifCond .eq 21, 3) := by decide +kernel
theorem d14_21 : decode prog_111_method_2_code 21 = .ok (.aload_n 1, 1) := by decide +kernel
theorem d14_22 : decode prog_111_method_2_code 22 = .ok (.iload 5, 2) := by decide +kernel
theorem d14_24 : decode prog_111_method_2_code 24 = .ok (.iload_n 2, 1) := by decide +kernel
theorem d14_25 : decode prog_111_method_2_code 25 = .ok (.iload_n 3, 1) := by decide +kernel
theorem d14_26 : decode prog_111_method_2_code 26 = .ok (.invokestatic 30, 3) := by decide +kernel
theorem d14_29 : decode prog_111_method_2_code 29 = .ok (.iload_n 2, 1) := by decide +kernel
theorem d14_30 : decode prog_111_method_2_code 30 = .ok (.iconst 3, 1) := by decide +kernel
theorem d14_31 : decode prog_111_method_2_code 31 = .ok (.iadd, 1) := by decide +kernel
theorem d14_32 : decode prog_111_method_2_code 32 = .ok (.if_icmp .ne 7, 3) := by decide +kernel
theorem d14_35 : decode prog_111_method_2_code 35 = .ok (.iconst 1, 1) := by decide +kernel
theorem d14_36 : decode prog_111_method_2_code 36 = .ok (.goto 4, 3) := by decide +kernel
theorem d14_39 : decode prog_111_method_2_code 39 = .ok (.iconst 0, 1) := by decide +kernel
theorem d14_40 : decode prog_111_method_2_code 40 = .ok (.istore 6, 2) := by decide +kernel
theorem d14_42 : decode prog_111_method_2_code 42 = .ok (.iload 6, 2) := by decide +kernel
theorem d14_44 : decode prog_111_method_2_code 44 = .ok (.ifCond .eq 14, 3) := by decide +kernel
theorem d14_47 : decode prog_111_method_2_code 47 = .ok (.iload_n 3, 1) := by decide +kernel
theorem d14_48 : decode prog_111_method_2_code 48 = .ok (.iload_n 2, 1) := by decide +kernel
theorem d14_49 : decode prog_111_method_2_code 49 = .ok (.iconst 3, 1) := by decide +kernel
theorem d14_50 : decode prog_111_method_2_code 50 = .ok (.iadd, 1) := by decide +kernel
theorem d14_51 : decode prog_111_method_2_code 51 = .ok (.if_icmp .ne 7, 3) := by decide +kernel
theorem d14_54 : decode prog_111_method_2_code 54 = .ok (.iconst 1, 1) := by decide +kernel
theorem d14_55 : decode prog_111_method_2_code 55 = .ok (.goto 4, 3) := by decide +kernel
theorem d14_58 : decode prog_111_method_2_code 58 = .ok (.iconst 0, 1) := by decide +kernel
theorem d14_59 : decode prog_111_method_2_code 59 = .ok (.istore 7, 2) := by decide +kernel
theorem d14_61 : decode prog_111_method_2_code 61 = .ok (.aload_n 0, 1) := by decide +kernel
theorem d14_62 : decode prog_111_method_2_code 62 = .ok (.aload 4, 2) := by decide +kernel
theorem d14_64 : decode prog_111_method_2_code 64 = .ok (.putfield 34, 3) := by decide +kernel
theorem d14_67 : decode prog_111_method_2_code 67 = .ok (.aload_n 0, 1) := by decide +kernel
theorem d14_68 : decode prog_111_method_2_code 68 = .ok (.iload 7, 2) := by decide +kernel
theorem d14_70 : decode prog_111_method_2_code 70 = .ok (.ifCond .eq 26, 3) := by decide +kernel
theorem d14_73 : decode prog_111_method_2_code 73 = .ok (.new 38, 3) := by decide +kernel
theorem d14_76 : decode prog_111_method_2_code 76 = .ok (.dup, 1) := by decide +kernel
theorem d14_77 : decode prog_111_method_2_code 77 = .ok (.invokespecial 40, 3) := by decide +kernel
theorem d14_80 : decode prog_111_method_2_code 80 = .ok (.ldc 24, 2) := by decide +kernel
theorem d14_82 : decode prog_111_method_2_code 82 = .ok (.invokevirtual 41, 3) := by decide +kernel
theorem d14_85 : decode prog_111_method_2_code 85 = .ok (.iload 5, 2) := by decide +kernel
theorem d14_87 : decode prog_111_method_2_code 87 = .ok (.invokevirtual 45, 3) := by decide +kernel
theorem d14_90 : decode prog_111_method_2_code 90 = .ok (.invokevirtual 48, 3) := by decide +kernel
theorem d14_93 : decode prog_111_method_2_code 93 = .ok (.goto 4, 3) := by decide +kernel
theorem d14_96 : decode prog_111_method_2_code 96 = .ok (.aload_n 1, 1) := by decide +kernel
theorem d14_97 : decode prog_111_method_2_code 97 = .ok (.putfield 52, 3) := by decide +kernel
theorem d14_100 : decode prog_111_method_2_code 100 = .ok (.iload 7, 2) := by decide +kernel
theorem d14_102 : decode prog_111_method_2_code 102 = .ok (.ifCond .eq 7, 3) := by decide +kernel
theorem d14_105 : decode prog_111_method_2_code 105 = .ok (.iconst 0, 1) := by decide +kernel
theorem d14_106 : decode prog_111_method_2_code 106 = .ok (.goto 4, 3) := by decide +kernel
theorem d14_109 : decode prog_111_method_2_code 109 = .ok (.iload_n 2, 1) := by decide +kernel
theorem d14_110 : decode prog_111_method_2_code 110 = .ok (.istore 8, 2) := by decide +kernel
theorem d14_112 : decode prog_111_method_2_code 112 = .ok (.iload 7, 2) := by decide +kernel
theorem d14_114 : decode prog_111_method_2_code 114 = .ok (.ifCond .eq 7, 3) := by decide +kernel
theorem d14_117 : decode prog_111_method_2_code 117 = .ok (.iconst 4, 1) := by decide +kernel
theorem d14_118 : decode prog_111_method_2_code 118 = .ok (.goto 4, 3) := by decide +kernel
theorem d14_121 : decode prog_111_method_2_code 121 = .ok (.iload_n 3, 1) := by decide +kernel
theorem d14_122 : decode prog_111_method_2_code 122 = .ok (.istore 9, 2) := by decide +kernel
theorem d14_124 : decode prog_111_method_2_code 124 = .ok (.iconst 1, 1) := by decide +kernel
theorem d14_125 : decode prog_111_method_2_code 125 = .ok (.istore 10, 2) := by decide +kernel
theorem d14_127 : decode prog_111_method_2_code 127 = .ok (.iload 8, 2) := by decide +kernel
theorem d14_129 : decode prog_111_method_2_code 129 = .ok (.istore 11, 2) := by decide +kernel
theorem d14_131 : decode prog_111_method_2_code 131 = .ok (.iload 11, 2) := by decide +kernel
theorem d14_133 : decode prog_111_method_2_code 133 = .ok (.iload 9, 2) := by decide +kernel
theorem d14_135 : decode prog_111_method_2_code 135 = .ok (.if_icmp .ge 33, 3) := by decide +kernel
theorem d14_138 : decode prog_111_method_2_code 138 = .ok (.iload 10, 2) := by decide +kernel
theorem d14_140 : decode prog_111_method_2_code 140 = .ok (.aload_n 0, 1) := by decide +kernel
theorem d14_141 : decode prog_111_method_2_code 141 = .ok (.getfield 52, 3) := by decide +kernel
theorem d14_144 : decode prog_111_method_2_code 144 = .ok (.iload 11, 2) := by decide +kernel
theorem d14_146 : decode prog_111_method_2_code 146 = .ok (.invokevirtual 56, 3) := by decide +kernel
theorem d14_149 : decode prog_111_method_2_code 149 = .ok (.iload 5, 2) := by decide +kernel
theorem d14_151 : decode prog_111_method_2_code 151 = .ok (.if_icmp .ne 7, 3) := by decide +kernel
theorem d14_154 : decode prog_111_method_2_code 154 = .ok (.iconst 1, 1) := by decide +kernel
theorem d14_155 : decode prog_111_method_2_code 155 = .ok (.goto 4, 3) := by decide +kernel
theorem d14_158 : decode prog_111_method_2_code 158 = .ok (.iconst 0, 1) := by decide +kernel
theorem d14_159 : decode prog_111_method_2_code 159 = .ok (.iadd, 1) := by decide +kernel
theorem d14_160 : decode prog_111_method_2_code 160 = .ok (.istore 10, 2) := by decide +kernel
theorem d14_162 : decode prog_111_method_2_code 162 = .ok (.iinc 11 1, 3) := by decide +kernel
theorem d14_165 : decode prog_111_method_2_code 165 = .ok (.goto (-34), 3) := by decide +kernel
theorem d14_168 : decode prog_111_method_2_code 168 = .ok (.aload_n 0, 1) := by decide +kernel
theorem d14_169 : decode prog_111_method_2_code 169 = .ok (.iload 6, 2) := by decide +kernel
theorem d14_171 : decode prog_111_method_2_code 171 = .ok (.ifCond .eq 10, 3) := by decide +kernel
theorem d14_174 : decode prog_111_method_2_code 174 = .ok (.iload 10, 2) := by decide +kernel
theorem d14_176 : decode prog_111_method_2_code 176 = .ok (.iconst 1, 1) := by decide +kernel
theorem d14_177 : decode prog_111_method_2_code 177 = .ok (.iadd, 1) := by decide +kernel
theorem d14_178 : decode prog_111_method_2_code 178 = .ok (.goto 5, 3) := by decide +kernel
theorem d14_181 : decode prog_111_method_2_code 181 = .ok (.iload 10, 2) := by decide +kernel
theorem d14_183 : decode prog_111_method_2_code 183 = .ok (.newarray .int, 2) := by decide +kernel
theorem d14_185 : decode prog_111_method_2_code 185 = .ok (.putfield 60, 3) := by decide +kernel
theorem d14_188 : decode prog_111_method_2_code 188 = .ok (.aload_n 0, 1) := by decide +kernel
theorem d14_189 : decode prog_111_method_2_code 189 = .ok (.aload_n 0, 1) := by decide +kernel
theorem d14_190 : decode prog_111_method_2_code 190 = .ok (.getfield 60, 3) := by decide +kernel
theorem d14_193 : decode prog_111_method_2_code 193 = .ok (.arraylength, 1) := by decide +kernel
theorem d14_194 : decode prog_111_method_2_code 194 = .ok (.newarray .int, 2) := by decide +kernel
theorem d14_196 : decode prog_111_method_2_code 196 = .ok (.putfield 64, 3) := by decide +kernel
theorem d14_199 : decode prog_111_method_2_code 199 = .ok (.iconst 0, 1) := by decide +kernel
theorem d14_200 : decode prog_111_method_2_code 200 = .ok (.istore 11, 2) := by decide +kernel
theorem d14_202 : decode prog_111_method_2_code 202 = .ok (.iload 8, 2) := by decide +kernel
theorem d14_204 : decode prog_111_method_2_code 204 = .ok (.istore 12, 2) := by decide +kernel
theorem d14_206 : decode prog_111_method_2_code 206 = .ok (.aload_n 0, 1) := by decide +kernel
theorem d14_207 : decode prog_111_method_2_code 207 = .ok (.getfield 60, 3) := by decide +kernel
theorem d14_210 : decode prog_111_method_2_code 210 = .ok (.iload 11, 2) := by decide +kernel
theorem d14_212 : decode prog_111_method_2_code 212 = .ok (.iload 12, 2) := by decide +kernel
theorem d14_214 : decode prog_111_method_2_code 214 = .ok (.iastore, 1) := by decide +kernel
theorem d14_215 : decode prog_111_method_2_code 215 = .ok (.aload_n 0, 1) := by decide +kernel
theorem d14_216 : decode prog_111_method_2_code 216 = .ok (.getfield 64, 3) := by decide +kernel
theorem d14_219 : decode prog_111_method_2_code 219 = .ok (.iload 11, 2) := by decide +kernel
theorem d14_221 : decode prog_111_method_2_code 221 = .ok (.aload_n 0, 1) := by decide +kernel
theorem d14_222 : decode prog_111_method_2_code 222 = .ok (.getfield 52, 3) := by decide +kernel
theorem d14_225 : decode prog_111_method_2_code 225 = .ok (.iload 5, 2) := by decide +kernel
theorem d14_227 : decode prog_111_method_2_code 227 = .ok (.iload 12, 2) := by decide +kernel
theorem d14_229 : decode prog_111_method_2_code 229 = .ok (.iload 9, 2) := by decide +kernel
theorem d14_231 : decode prog_111_method_2_code 231 = .ok (.invokestatic 30, 3) := by decide +kernel
theorem d14_234 : decode prog_111_method_2_code 234 = .ok (.iastore, 1) := by decide +kernel
theorem d14_235 : decode prog_111_method_2_code 235 = .ok (.aload_n 0, 1) := by decide +kernel
theorem d14_236 : decode prog_111_method_2_code 236 = .ok (.getfield 64, 3) := by decide +kernel
theorem d14_239 : decode prog_111_method_2_code 239 = .ok (.iload 11, 2) := by decide +kernel
theorem d14_241 : decode prog_111_method_2_code 241 = .ok (.iaload, 1) := by decide +kernel
theorem d14_242 : decode prog_111_method_2_code 242 = .ok (.iload 9, 2) := by decide +kernel
theorem d14_244 : decode prog_111_method_2_code 244 = .ok (.if_icmp .ne 6, 3) := by decide +kernel
theorem d14_247 : decode prog_111_method_2_code 247 = .ok (.goto 55, 3) := by decide +kernel
theorem d14_250 : decode prog_111_method_2_code 250 = .ok (.aload_n 0, 1) := by decide +kernel
theorem d14_251 : decode prog_111_method_2_code 251 = .ok (.getfield 64, 3) := by decide +kernel
theorem d14_254 : decode prog_111_method_2_code 254 = .ok (.iload 11, 2) := by decide +kernel
theorem d14_256 : decode prog_111_method_2_code 256 = .ok (.iaload, 1) := by decide +kernel
theorem d14_257 : decode prog_111_method_2_code 257 = .ok (.iconst 1, 1) := by decide +kernel
theorem d14_258 : decode prog_111_method_2_code 258 = .ok (.iadd, 1) := by decide +kernel
theorem d14_259 : decode prog_111_method_2_code 259 = .ok (.istore 12, 2) := by decide +kernel
theorem d14_261 : decode prog_111_method_2_code 261 = .ok (.iload 6, 2) := by decide +kernel
theorem d14_263 : decode prog_111_method_2_code 263 = .ok (.ifCond .eq 33, 3) := by decide +kernel
theorem d14_266 : decode prog_111_method_2_code 266 = .ok (.iload 11, 2) := by decide +kernel
theorem d14_268 : decode prog_111_method_2_code 268 = .ok (.ifCond .ne 28, 3) := by decide +kernel
theorem d14_271 : decode prog_111_method_2_code 271 = .ok (.iinc 11 1, 3) := by decide +kernel
theorem d14_274 : decode prog_111_method_2_code 274 = .ok (.aload_n 0, 1) := by decide +kernel
theorem d14_275 : decode prog_111_method_2_code 275 = .ok (.getfield 60, 3) := by decide +kernel
theorem d14_278 : decode prog_111_method_2_code 278 = .ok (.iload 11, 2) := by decide +kernel
theorem d14_280 : decode prog_111_method_2_code 280 = .ok (.aload_n 0, 1) := by decide +kernel
theorem d14_281 : decode prog_111_method_2_code 281 = .ok (.getfield 64, 3) := by decide +kernel
theorem d14_284 : decode prog_111_method_2_code 284 = .ok (.iconst 0, 1) := by decide +kernel
theorem d14_285 : decode prog_111_method_2_code 285 = .ok (.iaload, 1) := by decide +kernel
theorem d14_286 : decode prog_111_method_2_code 286 = .ok (.iastore, 1) := by decide +kernel
theorem d14_287 : decode prog_111_method_2_code 287 = .ok (.aload_n 0, 1) := by decide +kernel
theorem d14_288 : decode prog_111_method_2_code 288 = .ok (.getfield 64, 3) := by decide +kernel
theorem d14_291 : decode prog_111_method_2_code 291 = .ok (.iload 11, 2) := by decide +kernel
theorem d14_293 : decode prog_111_method_2_code 293 = .ok (.iload 12, 2) := by decide +kernel
theorem d14_295 : decode prog_111_method_2_code 295 = .ok (.iastore, 1) := by decide +kernel
theorem d14_296 : decode prog_111_method_2_code 296 = .ok (.iinc 11 1, 3) := by decide +kernel
theorem d14_299 : decode prog_111_method_2_code 299 = .ok (.goto (-93), 3) := by decide +kernel
theorem d14_302 : decode prog_111_method_2_code 302 = .ok (.aload_n 0, 1) := by decide +kernel
theorem d14_303 : decode prog_111_method_2_code 303 = .ok (.aload_n 0, 1) := by decide +kernel
theorem d14_304 : decode prog_111_method_2_code 304 = .ok (.getfield 52, 3) := by decide +kernel
theorem d14_307 : decode prog_111_method_2_code 307 = .ok (.aload_n 0, 1) := by decide +kernel
theorem d14_308 : decode prog_111_method_2_code 308 = .ok (.getfield 60, 3) := by decide +kernel
theorem d14_311 : decode prog_111_method_2_code 311 = .ok (.iconst 0, 1) := by decide +kernel
theorem d14_312 : decode prog_111_method_2_code 312 = .ok (.iaload, 1) := by decide +kernel
theorem d14_313 : decode prog_111_method_2_code 313 = .ok (.aload_n 0, 1) := by decide +kernel
theorem d14_314 : decode prog_111_method_2_code 314 = .ok (.getfield 64, 3) := by decide +kernel
theorem d14_317 : decode prog_111_method_2_code 317 = .ok (.iconst 0, 1) := by decide +kernel
theorem d14_318 : decode prog_111_method_2_code 318 = .ok (.iaload, 1) := by decide +kernel
theorem d14_319 : decode prog_111_method_2_code 319 = .ok (.invokevirtual 67, 3) := by decide +kernel
theorem d14_322 : decode prog_111_method_2_code 322 = .ok (.putfield 71, 3) := by decide +kernel
theorem d14_325 : decode prog_111_method_2_code 325 = .ok (.return_, 1) := by decide +kernel
theorem d15_0 : decode prog_23_method_37_code 0 = .ok (.aload_n 0, 1) := by decide +kernel
theorem d15_1 : decode prog_23_method_37_code 1 = .ok (.getfield 7, 3) := by decide +kernel
theorem d15_4 : decode prog_23_method_37_code 4 = .ok (.ireturn, 1) := by decide +kernel
theorem d16_0 : decode jdk_42_method_75_code 0 = .ok (.iload_n 2, 1) := by decide +kernel
theorem d16_1 : decode jdk_42_method_75_code 1 = .ok (.ifCond .lt 16, 3) := by decide +kernel
theorem d16_4 : decode jdk_42_method_75_code 4 = .ok (.iload_n 2, 1) := by decide +kernel
theorem d16_5 : decode jdk_42_method_75_code 5 = .ok (.aload_n 0, 1) := by decide +kernel
theorem d16_6 : decode jdk_42_method_75_code 6 = .ok (.invokevirtual 505, 3) := by decide +kernel
theorem d16_9 : decode jdk_42_method_75_code 9 = .ok (.aload_n 1, 1) := by decide +kernel
theorem d16_10 : decode jdk_42_method_75_code 10 = .ok (.invokevirtual 505, 3) := by decide +kernel
theorem d16_13 : decode jdk_42_method_75_code 13 = .ok (.isub, 1) := by decide +kernel
theorem d16_14 : decode jdk_42_method_75_code 14 = .ok (.if_icmp .le 5, 3) := by decide +kernel
theorem d16_17 : decode jdk_42_method_75_code 17 = .ok (.iconst 0, 1) := by decide +kernel
theorem d16_18 : decode jdk_42_method_75_code 18 = .ok (.ireturn, 1) := by decide +kernel
theorem d16_19 : decode jdk_42_method_75_code 19 = .ok (.aload_n 0, 1) := by decide +kernel
theorem d16_20 : decode jdk_42_method_75_code 20 = .ok (.getfield 9, 3) := by decide +kernel
theorem d16_23 : decode jdk_42_method_75_code 23 = .ok (.astore_n 3, 1) := by decide +kernel
theorem d16_24 : decode jdk_42_method_75_code 24 = .ok (.aload_n 1, 1) := by decide +kernel
theorem d16_25 : decode jdk_42_method_75_code 25 = .ok (.getfield 9, 3) := by decide +kernel
theorem d16_28 : decode jdk_42_method_75_code 28 = .ok (.astore 4, 2) := by decide +kernel
theorem d16_30 : decode jdk_42_method_75_code 30 = .ok (.iconst 0, 1) := by decide +kernel
theorem d16_31 : decode jdk_42_method_75_code 31 = .ok (.istore 5, 2) := by decide +kernel
theorem d16_33 : decode jdk_42_method_75_code 33 = .ok (.aload 4, 2) := by decide +kernel
theorem d16_35 : decode jdk_42_method_75_code 35 = .ok (.arraylength, 1) := by decide +kernel
theorem d16_36 : decode jdk_42_method_75_code 36 = .ok (.istore 6, 2) := by decide +kernel
theorem d16_38 : decode jdk_42_method_75_code 38 = .ok (.aload_n 0, 1) := by decide +kernel
theorem d16_39 : decode jdk_42_method_75_code 39 = .ok (.invokevirtual 335, 3) := by decide +kernel
theorem d16_42 : decode jdk_42_method_75_code 42 = .ok (.istore 7, 2) := by decide +kernel
theorem d16_44 : decode jdk_42_method_75_code 44 = .ok (.iload 7, 2) := by decide +kernel
theorem d16_46 : decode jdk_42_method_75_code 46 = .ok (.aload_n 1, 1) := by decide +kernel
theorem d16_47 : decode jdk_42_method_75_code 47 = .ok (.invokevirtual 335, 3) := by decide +kernel
theorem d16_50 : decode jdk_42_method_75_code 50 = .ok (.if_icmp .ne 32, 3) := by decide +kernel
theorem d16_53 : decode jdk_42_method_75_code 53 = .ok (.iload 7, 2) := by decide +kernel
theorem d16_55 : decode jdk_42_method_75_code 55 = .ok (.iconst 1, 1) := by decide +kernel
theorem d16_56 : decode jdk_42_method_75_code 56 = .ok (.if_icmp .ne 7, 3) := by decide +kernel
theorem d16_63 : decode jdk_42_method_75_code 63 = .ok (.aload_n 3, 1) := by decide +kernel
theorem d16_64 : decode jdk_42_method_75_code 64 = .ok (.iload_n 2, 1) := by decide +kernel
theorem d16_65 : decode jdk_42_method_75_code 65 = .ok (.aload 4, 2) := by decide +kernel
theorem d16_67 : decode jdk_42_method_75_code 67 = .ok (.iconst 0, 1) := by decide +kernel
theorem d16_68 : decode jdk_42_method_75_code 68 = .ok (.iload 6, 2) := by decide +kernel
theorem d16_70 : decode jdk_42_method_75_code 70 = .ok (.invokestatic 607, 3) := by decide +kernel
theorem d16_73 : decode jdk_42_method_75_code 73 = .ok (.ifCond .ge 7, 3) := by decide +kernel
theorem d16_76 : decode jdk_42_method_75_code 76 = .ok (.iconst 1, 1) := by decide +kernel
theorem d16_77 : decode jdk_42_method_75_code 77 = .ok (.goto 4, 3) := by decide +kernel
theorem d16_80 : decode jdk_42_method_75_code 80 = .ok (.iconst 0, 1) := by decide +kernel
theorem d16_81 : decode jdk_42_method_75_code 81 = .ok (.ireturn, 1) := by decide +kernel
theorem d17_0 : decode jdk_42_method_54_code 0 = .ok (.aload_n 0, 1) := by decide +kernel
theorem d17_1 : decode jdk_42_method_54_code 1 = .ok (.getfield 9, 3) := by decide +kernel
theorem d17_4 : decode jdk_42_method_54_code 4 = .ok (.arraylength, 1) := by decide +kernel
theorem d17_5 : decode jdk_42_method_54_code 5 = .ok (.aload_n 0, 1) := by decide +kernel
theorem d17_6 : decode jdk_42_method_54_code 6 = .ok (.invokevirtual 335, 3) := by decide +kernel
theorem d17_9 : decode jdk_42_method_54_code 9 = .ok (.ishr, 1) := by decide +kernel
theorem d17_10 : decode jdk_42_method_54_code 10 = .ok (.ireturn, 1) := by decide +kernel
theorem d18_0 : decode jdk_42_method_152_code 0 = .ok (.getstatic 38, 3) := by decide +kernel
theorem d18_3 : decode jdk_42_method_152_code 3 = .ok (.ifCond .eq 10, 3) := by decide +kernel
theorem d18_6 : decode jdk_42_method_152_code 6 = .ok (.aload_n 0, 1) := by decide +kernel
theorem d18_7 : decode jdk_42_method_152_code 7 = .ok (.getfield 15, 3) := by decide +kernel
theorem d18_10 : decode jdk_42_method_152_code 10 = .ok (.goto 4, 3) := by decide +kernel
theorem d18_14 : decode jdk_42_method_152_code 14 = .ok (.ireturn, 1) := by decide +kernel
theorem d19_0 : decode jdk_48_method_14_code 0 = .ok (.iconst 0, 1) := by decide +kernel
theorem d19_1 : decode jdk_48_method_14_code 1 = .ok (.istore 5, 2) := by decide +kernel
theorem d19_3 : decode jdk_48_method_14_code 3 = .ok (.iload 4, 2) := by decide +kernel
theorem d19_5 : decode jdk_48_method_14_code 5 = .ok (.bipush 7, 2) := by decide +kernel
theorem d19_7 : decode jdk_48_method_14_code 7 = .ok (.if_icmp .le 63, 3) := by decide +kernel
theorem d19_70 : decode jdk_48_method_14_code 70 = .ok (.iload 5, 2) := by decide +kernel
theorem d19_72 : decode jdk_48_method_14_code 72 = .ok (.iload 4, 2) := by decide +kernel
theorem d19_74 : decode jdk_48_method_14_code 74 = .ok (.if_icmp .ge 27, 3) := by decide +kernel
theorem d19_77 : decode jdk_48_method_14_code 77 = .ok (.aload_n 0, 1) := by decide +kernel
theorem d19_78 : decode jdk_48_method_14_code 78 = .ok (.iload_n 1, 1) := by decide +kernel
theorem d19_79 : decode jdk_48_method_14_code 79 = .ok (.iload 5, 2) := by decide +kernel
theorem d19_81 : decode jdk_48_method_14_code 81 = .ok (.iadd, 1) := by decide +kernel
theorem d19_82 : decode jdk_48_method_14_code 82 = .ok (.baload, 1) := by decide +kernel
theorem d19_83 : decode jdk_48_method_14_code 83 = .ok (.aload_n 2, 1) := by decide +kernel
theorem d19_84 : decode jdk_48_method_14_code 84 = .ok (.iload_n 3, 1) := by decide +kernel
theorem d19_85 : decode jdk_48_method_14_code 85 = .ok (.iload 5, 2) := by decide +kernel
theorem d19_87 : decode jdk_48_method_14_code 87 = .ok (.iadd, 1) := by decide +kernel
theorem d19_88 : decode jdk_48_method_14_code 88 = .ok (.baload, 1) := by decide +kernel
theorem d19_89 : decode jdk_48_method_14_code 89 = .ok (.if_icmp .eq 6, 3) := by decide +kernel
theorem d19_92 : decode jdk_48_method_14_code 92 = .ok (.iload 5, 2) := by decide +kernel
theorem d19_94 : decode jdk_48_method_14_code 94 = .ok (.ireturn, 1) := by decide +kernel
theorem d19_95 : decode jdk_48_method_14_code 95 = .ok (.iinc 5 1, 3) := by decide +kernel
theorem d19_98 : decode jdk_48_method_14_code 98 = .ok (.goto (-28), 3) := by decide +kernel
theorem d19_101 : decode jdk_48_method_14_code 101 = .ok (.iconst (-1), 1) := by decide +kernel
theorem d19_102 : decode jdk_48_method_14_code 102 = .ok (.ireturn, 1) := by decide +kernel
theorem d20_0 : decode prog_23_method_4_code 0 = .ok (.iload_n 2, 1) := by decide +kernel
theorem d20_1 : decode prog_23_method_4_code 1 = .ok (.istore 4, 2) := by decide +kernel
theorem d20_3 : decode prog_23_method_4_code 3 = .ok (.iload 4, 2) := by decide +kernel
theorem d20_5 : decode prog_23_method_4_code 5 = .ok (.iload_n 3, 1) := by decide +kernel
theorem d20_6 : decode prog_23_method_4_code 6 = .ok (.if_icmp .ge 22, 3) := by decide +kernel
theorem d20_9 : decode prog_23_method_4_code 9 = .ok (.aload_n 0, 1) := by decide +kernel
theorem d20_10 : decode prog_23_method_4_code 10 = .ok (.iload 4, 2) := by decide +kernel
theorem d20_12 : decode prog_23_method_4_code 12 = .ok (.invokevirtual 23, 3) := by decide +kernel
theorem d20_15 : decode prog_23_method_4_code 15 = .ok (.iload_n 1, 1) := by decide +kernel
theorem d20_16 : decode prog_23_method_4_code 16 = .ok (.if_icmp .ne 6, 3) := by decide +kernel
theorem d20_19 : decode prog_23_method_4_code 19 = .ok (.iload 4, 2) := by decide +kernel
theorem d20_21 : decode prog_23_method_4_code 21 = .ok (.ireturn, 1) := by decide +kernel
theorem d20_22 : decode prog_23_method_4_code 22 = .ok (.iinc 4 1, 3) := by decide +kernel
theorem d20_25 : decode prog_23_method_4_code 25 = .ok (.goto (-22), 3) := by decide +kernel
theorem d20_28 : decode prog_23_method_4_code 28 = .ok (.iload_n 3, 1) := by decide +kernel
theorem d20_29 : decode prog_23_method_4_code 29 = .ok (.ireturn, 1) := by decide +kernel
theorem d21_0 : decode jdk_42_method_92_code 0 = .ok (.aload_n 0, 1) := by decide +kernel
theorem d21_1 : decode jdk_42_method_92_code 1 = .ok (.invokevirtual 505, 3) := by decide +kernel
theorem d21_4 : decode jdk_42_method_92_code 4 = .ok (.istore_n 3, 1) := by decide +kernel
theorem d21_5 : decode jdk_42_method_92_code 5 = .ok (.iload_n 1, 1) := by decide +kernel
theorem d21_6 : decode jdk_42_method_92_code 6 = .ok (.iload_n 2, 1) := by decide +kernel
theorem d21_7 : decode jdk_42_method_92_code 7 = .ok (.iload_n 3, 1) := by decide +kernel
theorem d21_8 : decode jdk_42_method_92_code 8 = .ok (.invokestatic 521, 3) := by decide +kernel
theorem d21_11 : decode jdk_42_method_92_code 11 = .ok (.iload_n 1, 1) := by decide +kernel
theorem d21_12 : decode jdk_42_method_92_code 12 = .ok (.ifCond .ne 10, 3) := by decide +kernel
theorem d21_15 : decode jdk_42_method_92_code 15 = .ok (.iload_n 2, 1) := by decide +kernel
theorem d21_16 : decode jdk_42_method_92_code 16 = .ok (.iload_n 3, 1) := by decide +kernel
theorem d21_17 : decode jdk_42_method_92_code 17 = .ok (.if_icmp .ne 5, 3) := by decide +kernel
theorem d21_20 : decode jdk_42_method_92_code 20 = .ok (.aload_n 0, 1) := by decide +kernel
theorem d21_21 : decode jdk_42_method_92_code 21 = .ok (.areturn, 1) := by decide +kernel
theorem d21_22 : decode jdk_42_method_92_code 22 = .ok (.iload_n 2, 1) := by decide +kernel
theorem d21_23 : decode jdk_42_method_92_code 23 = .ok (.iload_n 1, 1) := by decide +kernel
theorem d21_24 : decode jdk_42_method_92_code 24 = .ok (.isub, 1) := by decide +kernel
theorem d21_25 : decode jdk_42_method_92_code 25 = .ok (.istore 4, 2) := by decide +kernel
theorem d21_27 : decode jdk_42_method_92_code 27 = .ok (.aload_n 0, 1) := by decide +kernel
theorem d21_28 : decode jdk_42_method_92_code 28 = .ok (.invokevirtual 492, 3) := by decide +kernel
theorem d21_31 : decode jdk_42_method_92_code 31 = .ok (.ifCond .eq 16, 3) := by decide +kernel
theorem d21_34 : decode jdk_42_method_92_code 34 = .ok (.aload_n 0, 1) := by decide +kernel
theorem d21_35 : decode jdk_42_method_92_code 35 = .ok (.getfield 9, 3) := by decide +kernel
theorem d21_38 : decode jdk_42_method_92_code 38 = .ok (.iload_n 1, 1) := by decide +kernel
theorem d21_39 : decode jdk_42_method_92_code 39 = .ok (.iload 4, 2) := by decide +kernel
theorem d21_41 : decode jdk_42_method_92_code 41 = .ok (.invokestatic 685, 3) := by decide +kernel
theorem d21_44 : decode jdk_42_method_92_code 44 = .ok (.goto 13, 3) := by decide +kernel
theorem d21_57 : decode jdk_42_method_92_code 57 = .ok (.areturn, 1) := by decide +kernel
theorem d22_0 : decode jdk_42_method_158_code 0 = .ok (.iload_n 0, 1) := by decide +kernel
theorem d22_1 : decode jdk_42_method_158_code 1 = .ok (.iload_n 1, 1) := by decide +kernel
theorem d22_2 : decode jdk_42_method_158_code 2 = .ok (.iload_n 2, 1) := by decide +kernel
theorem d22_3 : decode jdk_42_method_158_code 3 = .ok (.getstatic 1053, 3) := by decide +kernel
theorem d22_6 : decode jdk_42_method_158_code 6 = .ok (.invokestatic 1062, 3) := by decide +kernel
theorem d22_9 : decode jdk_42_method_158_code 9 = .ok (.pop, 1) := by decide +kernel
theorem d22_10 : decode jdk_42_method_158_code 10 = .ok (.return_, 1) := by decide +kernel
theorem d23_0 : decode jdk_41_method_12_code 0 = .ok (.iload_n 0, 1) := by decide +kernel
theorem d23_1 : decode jdk_41_method_12_code 1 = .ok (.ifCond .lt 13, 3) := by decide +kernel
theorem d23_4 : decode jdk_41_method_12_code 4 = .ok (.iload_n 0, 1) := by decide +kernel
theorem d23_5 : decode jdk_41_method_12_code 5 = .ok (.iload_n 1, 1) := by decide +kernel
theorem d23_6 : decode jdk_41_method_12_code 6 = .ok (.if_icmp .gt 8, 3) := by decide +kernel
theorem d23_9 : decode jdk_41_method_12_code 9 = .ok (.iload_n 1, 1) := by decide +kernel
theorem d23_10 : decode jdk_41_method_12_code 10 = .ok (.iload_n 2, 1) := by decide +kernel
theorem d23_11 : decode jdk_41_method_12_code 11 = .ok (.if_icmp .le 11, 3) := by decide +kernel
theorem d23_22 : decode jdk_41_method_12_code 22 = .ok (.iload_n 0, 1) := by decide +kernel
theorem d23_23 : decode jdk_41_method_12_code 23 = .ok (.ireturn, 1) := by decide +kernel
theorem d24_0 : decode jdk_42_method_154_code 0 = .ok (.getstatic 38, 3) := by decide +kernel
theorem d24_3 : decode jdk_42_method_154_code 3 = .ok (.ifCond .eq 14, 3) := by decide +kernel
theorem d24_6 : decode jdk_42_method_154_code 6 = .ok (.aload_n 0, 1) := by decide +kernel
theorem d24_7 : decode jdk_42_method_154_code 7 = .ok (.getfield 15, 3) := by decide +kernel
theorem d24_10 : decode jdk_42_method_154_code 10 = .ok (.ifCond .ne 7, 3) := by decide +kernel
theorem d24_13 : decode jdk_42_method_154_code 13 = .ok (.iconst 1, 1) := by decide +kernel
theorem d24_14 : decode jdk_42_method_154_code 14 = .ok (.goto 4, 3) := by decide +kernel
theorem d24_18 : decode jdk_42_method_154_code 18 = .ok (.ireturn, 1) := by decide +kernel
theorem d25_0 : decode jdk_43_method_47_code 0 = .ok (.iload_n 2, 1) := by decide +kernel
theorem d25_1 : decode jdk_43_method_47_code 1 = .ok (.ifCond .ne 6, 3) := by decide +kernel
theorem d25_4 : decode jdk_43_method_47_code 4 = .ok (.ldc 151, 2) := by decide +kernel
theorem d25_6 : decode jdk_43_method_47_code 6 = .ok (.areturn, 1) := by decide +kernel
theorem d25_7 : decode jdk_43_method_47_code 7 = .ok (.new 1, 3) := by decide +kernel
theorem d25_10 : decode jdk_43_method_47_code 10 = .ok (.dup, 1) := by decide +kernel
theorem d25_11 : decode jdk_43_method_47_code 11 = .ok (.aload_n 0, 1) := by decide +kernel
theorem d25_12 : decode jdk_43_method_47_code 12 = .ok (.iload_n 1, 1) := by decide +kernel
theorem d25_13 : decode jdk_43_method_47_code 13 = .ok (.iload_n 1, 1) := by decide +kernel
theorem d25_14 : decode jdk_43_method_47_code 14 = .ok (.iload_n 2, 1) := by decide +kernel
theorem d25_15 : decode jdk_43_method_47_code 15 = .ok (.iadd, 1) := by decide +kernel
theorem d25_16 : decode jdk_43_method_47_code 16 = .ok (.invokestatic 232, 3) := by decide +kernel
theorem d25_19 : decode jdk_43_method_47_code 19 = .ok (.iconst 0, 1) := by decide +kernel
theorem d25_20 : decode jdk_43_method_47_code 20 = .ok (.invokespecial 112, 3) := by decide +kernel
theorem d25_23 : decode jdk_43_method_47_code 23 = .ok (.areturn, 1) := by decide +kernel
theorem d26_0 : decode prog_111_method_11_code 0 = .ok (.iload_n 1, 1) := by decide +kernel
theorem d26_1 : decode prog_111_method_11_code 1 = .ok (.aload_n 0, 1) := by decide +kernel
theorem d26_2 : decode prog_111_method_11_code 2 = .ok (.getfield 64, 3) := by decide +kernel
theorem d26_5 : decode prog_111_method_11_code 5 = .ok (.arraylength, 1) := by decide +kernel
theorem d26_6 : decode prog_111_method_11_code 6 = .ok (.if_icmp .ge 12, 3) := by decide +kernel
theorem d26_9 : decode prog_111_method_11_code 9 = .ok (.aload_n 0, 1) := by decide +kernel
theorem d26_10 : decode prog_111_method_11_code 10 = .ok (.getfield 64, 3) := by decide +kernel
theorem d26_13 : decode prog_111_method_11_code 13 = .ok (.iload_n 1, 1) := by decide +kernel
theorem d26_14 : decode prog_111_method_11_code 14 = .ok (.iaload, 1) := by decide +kernel
theorem d26_15 : decode prog_111_method_11_code 15 = .ok (.goto 15, 3) := by decide +kernel
theorem d26_18 : decode prog_111_method_11_code 18 = .ok (.aload_n 0, 1) := by decide +kernel
theorem d26_19 : decode prog_111_method_11_code 19 = .ok (.getfield 64, 3) := by decide +kernel
theorem d26_22 : decode prog_111_method_11_code 22 = .ok (.aload_n 0, 1) := by decide +kernel
theorem d26_23 : decode prog_111_method_11_code 23 = .ok (.getfield 64, 3) := by decide +kernel
theorem d26_26 : decode prog_111_method_11_code 26 = .ok (.arraylength, 1) := by decide +kernel
theorem d26_27 : decode prog_111_method_11_code 27 = .ok (.iconst 1, 1) := by decide +kernel
theorem d26_28 : decode prog_111_method_11_code 28 = .ok (.isub, 1) := by decide +kernel
theorem d26_29 : decode prog_111_method_11_code 29 = .ok (.iaload, 1) := by decide +kernel
theorem d26_30 : decode prog_111_method_11_code 30 = .ok (.ireturn, 1) := by decide +kernel
theorem d27_0 : decode method_5_code 0 = .ok (.iload_n 1, 1) := by decide +kernel
theorem d27_1 : decode method_5_code 1 = .ok (.iload_n 2, 1) := by decide +kernel
theorem d27_2 : decode method_5_code 2 = .ok (.if_icmp .ne 7, 3) := by decide +kernel
theorem d27_5 : decode method_5_code 5 = .ok (.iload_n 2, 1) := by decide +kernel
theorem d27_6 : decode method_5_code 6 = .ok (.goto 11, 3) := by decide +kernel
theorem d27_9 : decode method_5_code 9 = .ok (.aload_n 0, 1) := by decide +kernel
theorem d27_10 : decode method_5_code 10 = .ok (.iload_n 1, 1) := by decide +kernel
theorem d27_11 : decode method_5_code 11 = .ok (.iconst 1, 1) := by decide +kernel
theorem d27_12 : decode method_5_code 12 = .ok (.iadd, 1) := by decide +kernel
theorem d27_13 : decode method_5_code 13 = .ok (.iload_n 2, 1) := by decide +kernel
theorem d27_14 : decode method_5_code 14 = .ok (.invokestatic 39, 3) := by decide +kernel
theorem d27_17 : decode method_5_code 17 = .ok (.ireturn, 1) := by decide +kernel
theorem d28_0 : decode jdk_42_method_56_code 0 = .ok (.aload_n 0, 1) := by decide +kernel
theorem d28_1 : decode jdk_42_method_56_code 1 = .ok (.invokevirtual 492, 3) := by decide +kernel
theorem d28_4 : decode jdk_42_method_56_code 4 = .ok (.ifCond .eq 12, 3) := by decide +kernel
theorem d28_7 : decode jdk_42_method_56_code 7 = .ok (.aload_n 0, 1) := by decide +kernel
theorem d28_8 : decode jdk_42_method_56_code 8 = .ok (.getfield 9, 3) := by decide +kernel
theorem d28_11 : decode jdk_42_method_56_code 11 = .ok (.iload_n 1, 1) := by decide +kernel
theorem d28_12 : decode jdk_42_method_56_code 12 = .ok (.invokestatic 495, 3) := by decide +kernel
theorem d28_15 : decode jdk_42_method_56_code 15 = .ok (.ireturn, 1) := by decide +kernel
theorem d29_0 : decode jdk_43_method_2_code 0 = .ok (.iload_n 1, 1) := by decide +kernel
theorem d29_1 : decode jdk_43_method_2_code 1 = .ok (.aload_n 0, 1) := by decide +kernel
theorem d29_2 : decode jdk_43_method_2_code 2 = .ok (.arraylength, 1) := by decide +kernel
theorem d29_3 : decode jdk_43_method_2_code 3 = .ok (.invokestatic 9, 3) := by decide +kernel
theorem d29_6 : decode jdk_43_method_2_code 6 = .ok (.aload_n 0, 1) := by decide +kernel
theorem d29_7 : decode jdk_43_method_2_code 7 = .ok (.iload_n 1, 1) := by decide +kernel
theorem d29_8 : decode jdk_43_method_2_code 8 = .ok (.baload, 1) := by decide +kernel
theorem d29_9 : decode jdk_43_method_2_code 9 = .ok (.sipush 255, 3) := by decide +kernel
theorem d29_12 : decode jdk_43_method_2_code 12 = .ok (.iand, 1) := by decide +kernel
theorem d29_13 : decode jdk_43_method_2_code 13 = .ok (.i2c, 1) := by decide +kernel
theorem d29_14 : decode jdk_43_method_2_code 14 = .ok (.ireturn, 1) := by decide +kernel
theorem d30_0 : decode jdk_42_method_155_code 0 = .ok (.iload_n 0, 1) := by decide +kernel
theorem d30_1 : decode jdk_42_method_155_code 1 = .ok (.iload_n 1, 1) := by decide +kernel
theorem d30_2 : decode jdk_42_method_155_code 2 = .ok (.getstatic 1053, 3) := by decide +kernel
theorem d30_5 : decode jdk_42_method_155_code 5 = .ok (.invokestatic 1059, 3) := by decide +kernel
theorem d30_8 : decode jdk_42_method_155_code 8 = .ok (.pop, 1) := by decide +kernel
theorem d30_9 : decode jdk_42_method_155_code 9 = .ok (.return_, 1) := by decide +kernel
theorem d31_0 : decode jdk_41_method_11_code 0 = .ok (.iload_n 0, 1) := by decide +kernel
theorem d31_1 : decode jdk_41_method_11_code 1 = .ok (.ifCond .lt 8, 3) := by decide +kernel
theorem d31_4 : decode jdk_41_method_11_code 4 = .ok (.iload_n 0, 1) := by decide +kernel
theorem d31_5 : decode jdk_41_method_11_code 5 = .ok (.iload_n 1, 1) := by decide +kernel
theorem d31_6 : decode jdk_41_method_11_code 6 = .ok (.if_icmp .lt 10, 3) := by decide +kernel
theorem d31_16 : decode jdk_41_method_11_code 16 = .ok (.iload_n 0, 1) := by decide +kernel
theorem d31_17 : decode jdk_41_method_11_code 17 = .ok (.ireturn, 1) := by decide +kernel
theorem d32_0 : decode jdk_65_method_132_code 0 = .ok (.iload_n 1, 1) := by decide +kernel
theorem d32_1 : decode jdk_65_method_132_code 1 = .ok (.ifCond .ne 9, 3) := by decide +kernel
theorem d32_4 : decode jdk_65_method_132_code 4 = .ok (.iload_n 2, 1) := by decide +kernel
theorem d32_5 : decode jdk_65_method_132_code 5 = .ok (.aload_n 0, 1) := by decide +kernel
theorem d32_6 : decode jdk_65_method_132_code 6 = .ok (.arraylength, 1) := by decide +kernel
theorem d32_7 : decode jdk_65_method_132_code 7 = .ok (.if_icmp .eq 10, 3) := by decide +kernel
theorem d32_10 : decode jdk_65_method_132_code 10 = .ok (.aload_n 0, 1) := by decide +kernel
theorem d32_11 : decode jdk_65_method_132_code 11 = .ok (.iload_n 1, 1) := by decide +kernel
theorem d32_12 : decode jdk_65_method_132_code 12 = .ok (.iload_n 2, 1) := by decide +kernel
theorem d32_13 : decode jdk_65_method_132_code 13 = .ok (.invokestatic 339, 3) := by decide +kernel
theorem d32_16 : decode jdk_65_method_132_code 16 = .ok (.areturn, 1) := by decide +kernel
theorem d33_0 : decode jdk_65_method_133_code 0 = .ok (.iload_n 1, 1) := by decide +kernel
theorem d33_1 : decode jdk_65_method_133_code 1 = .ok (.iload_n 2, 1) := by decide +kernel
theorem d33_2 : decode jdk_65_method_133_code 2 = .ok (.invokestatic 343, 3) := by decide +kernel
theorem d33_5 : decode jdk_65_method_133_code 5 = .ok (.iload_n 2, 1) := by decide +kernel
theorem d33_6 : decode jdk_65_method_133_code 6 = .ok (.iload_n 1, 1) := by decide +kernel
theorem d33_7 : decode jdk_65_method_133_code 7 = .ok (.isub, 1) := by decide +kernel
theorem d33_8 : decode jdk_65_method_133_code 8 = .ok (.istore_n 3, 1) := by decide +kernel
theorem d33_9 : decode jdk_65_method_133_code 9 = .ok (.iload_n 3, 1) := by decide +kernel
theorem d33_10 : decode jdk_65_method_133_code 10 = .ok (.newarray .byte, 2) := by decide +kernel
theorem d33_12 : decode jdk_65_method_133_code 12 = .ok (.astore 4, 2) := by decide +kernel
theorem d33_14 : decode jdk_65_method_133_code 14 = .ok (.aload_n 0, 1) := by decide +kernel
theorem d33_15 : decode jdk_65_method_133_code 15 = .ok (.iload_n 1, 1) := by decide +kernel
theorem d33_16 : decode jdk_65_method_133_code 16 = .ok (.aload 4, 2) := by decide +kernel
theorem d33_18 : decode jdk_65_method_133_code 18 = .ok (.iconst 0, 1) := by decide +kernel
theorem d33_19 : decode jdk_65_method_133_code 19 = .ok (.aload_n 0, 1) := by decide +kernel
theorem d33_20 : decode jdk_65_method_133_code 20 = .ok (.arraylength, 1) := by decide +kernel
theorem d33_21 : decode jdk_65_method_133_code 21 = .ok (.iload_n 1, 1) := by decide +kernel
theorem d33_22 : decode jdk_65_method_133_code 22 = .ok (.isub, 1) := by decide +kernel
theorem d33_23 : decode jdk_65_method_133_code 23 = .ok (.iload_n 3, 1) := by decide +kernel
theorem d33_24 : decode jdk_65_method_133_code 24 = .ok (.invokestatic 304, 3) := by decide +kernel
theorem d33_27 : decode jdk_65_method_133_code 27 = .ok (.invokestatic 150, 3) := by decide +kernel
theorem d33_30 : decode jdk_65_method_133_code 30 = .ok (.aload 4, 2) := by decide +kernel
theorem d33_32 : decode jdk_65_method_133_code 32 = .ok (.areturn, 1) := by decide +kernel
theorem d34_0 : decode jdk_65_method_131_code 0 = .ok (.iload_n 1, 1) := by decide +kernel
theorem d34_1 : decode jdk_65_method_131_code 1 = .ok (.iload_n 0, 1) := by decide +kernel
theorem d34_2 : decode jdk_65_method_131_code 2 = .ok (.if_icmp .ge 35, 3) := by decide +kernel
theorem d34_37 : decode jdk_65_method_131_code 37 = .ok (.return_, 1) := by decide +kernel
theorem d35_0 : decode jdk_42_method_151_code 0 = .ok (.aload_n 0, 1) := by decide +kernel
theorem d35_1 : decode jdk_42_method_151_code 1 = .ok (.invokespecial 1, 3) := by decide +kernel
theorem d35_4 : decode jdk_42_method_151_code 4 = .ok (.aload_n 0, 1) := by decide +kernel
theorem d35_5 : decode jdk_42_method_151_code 5 = .ok (.aload_n 1, 1) := by decide +kernel
theorem d35_6 : decode jdk_42_method_151_code 6 = .ok (.putfield 9, 3) := by decide +kernel
theorem d35_9 : decode jdk_42_method_151_code 9 = .ok (.aload_n 0, 1) := by decide +kernel
theorem d35_10 : decode jdk_42_method_151_code 10 = .ok (.iload_n 2, 1) := by decide +kernel
theorem d35_11 : decode jdk_42_method_151_code 11 = .ok (.putfield 15, 3) := by decide +kernel
theorem d35_14 : decode jdk_42_method_151_code 14 = .ok (.return_, 1) := by decide +kernel
theorem d36_0 : decode jdk_67_method_1_code 0 = .ok (.aload_n 0, 1) := by decide +kernel
theorem d36_1 : decode jdk_67_method_1_code 1 = .ok (.bipush 16, 2) := by decide +kernel
theorem d36_3 : decode jdk_67_method_1_code 3 = .ok (.invokespecial 1, 3) := by decide +kernel
theorem d36_6 : decode jdk_67_method_1_code 6 = .ok (.return_, 1) := by decide +kernel
theorem d37_0 : decode jdk_68_method_2_code 0 = .ok (.aload_n 0, 1) := by decide +kernel
theorem d37_1 : decode jdk_68_method_2_code 1 = .ok (.invokespecial 3, 3) := by decide +kernel
theorem d37_4 : decode jdk_68_method_2_code 4 = .ok (.getstatic 18, 3) := by decide +kernel
theorem d37_7 : decode jdk_68_method_2_code 7 = .ok (.ifCond .eq 18, 3) := by decide +kernel
theorem d37_10 : decode jdk_68_method_2_code 10 = .ok (.aload_n 0, 1) := by decide +kernel
theorem d37_11 : decode jdk_68_method_2_code 11 = .ok (.iload_n 1, 1) := by decide +kernel
theorem d37_12 : decode jdk_68_method_2_code 12 = .ok (.newarray .byte, 2) := by decide +kernel
theorem d37_14 : decode jdk_68_method_2_code 14 = .ok (.putfield 15, 3) := by decide +kernel
theorem d37_17 : decode jdk_68_method_2_code 17 = .ok (.aload_n 0, 1) := by decide +kernel
theorem d37_18 : decode jdk_68_method_2_code 18 = .ok (.iconst 0, 1) := by decide +kernel
theorem d37_19 : decode jdk_68_method_2_code 19 = .ok (.putfield 22, 3) := by decide +kernel
theorem d37_22 : decode jdk_68_method_2_code 22 = .ok (.goto 16, 3) := by decide +kernel
theorem d37_38 : decode jdk_68_method_2_code 38 = .ok (.return_, 1) := by decide +kernel
theorem d38_0 : decode jdk_67_method_7_code 0 = .ok (.aload_n 0, 1) := by decide +kernel
theorem d38_1 : decode jdk_67_method_7_code 1 = .ok (.aload_n 1, 1) := by decide +kernel
theorem d38_2 : decode jdk_67_method_7_code 2 = .ok (.invokespecial 29, 3) := by decide +kernel
theorem d38_5 : decode jdk_67_method_7_code 5 = .ok (.pop, 1) := by decide +kernel
theorem d38_6 : decode jdk_67_method_7_code 6 = .ok (.aload_n 0, 1) := by decide +kernel
theorem d38_7 : decode jdk_67_method_7_code 7 = .ok (.areturn, 1) := by decide +kernel
theorem d39_0 : decode jdk_68_method_22_code 0 = .ok (.aload_n 1, 1) := by decide +kernel
theorem d39_1 : decode jdk_68_method_22_code 1 = .ok (.ifnonnull 8, 3) := by decide +kernel
theorem d39_9 : decode jdk_68_method_22_code 9 = .ok (.aload_n 1, 1) := by decide +kernel
theorem d39_10 : decode jdk_68_method_22_code 10 = .ok (.invokevirtual 32, 3) := by decide +kernel
theorem d39_13 : decode jdk_68_method_22_code 13 = .ok (.istore_n 2, 1) := by decide +kernel
theorem d39_14 : decode jdk_68_method_22_code 14 = .ok (.aload_n 0, 1) := by decide +kernel
theorem d39_15 : decode jdk_68_method_22_code 15 = .ok (.aload_n 0, 1) := by decide +kernel
theorem d39_16 : decode jdk_68_method_22_code 16 = .ok (.getfield 79, 3) := by decide +kernel
theorem d39_19 : decode jdk_68_method_22_code 19 = .ok (.iload_n 2, 1) := by decide +kernel
theorem d39_20 : decode jdk_68_method_22_code 20 = .ok (.iadd, 1) := by decide +kernel
theorem d39_21 : decode jdk_68_method_22_code 21 = .ok (.invokevirtual 100, 3) := by decide +kernel
theorem d39_24 : decode jdk_68_method_22_code 24 = .ok (.aload_n 0, 1) := by decide +kernel
theorem d39_25 : decode jdk_68_method_22_code 25 = .ok (.aload_n 0, 1) := by decide +kernel
theorem d39_26 : decode jdk_68_method_22_code 26 = .ok (.getfield 79, 3) := by decide +kernel
theorem d39_29 : decode jdk_68_method_22_code 29 = .ok (.aload_n 1, 1) := by decide +kernel
theorem d39_30 : decode jdk_68_method_22_code 30 = .ok (.invokevirtual 208, 3) := by decide +kernel
theorem d39_33 : decode jdk_68_method_22_code 33 = .ok (.aload_n 0, 1) := by decide +kernel
theorem d39_34 : decode jdk_68_method_22_code 34 = .ok (.dup, 1) := by decide +kernel
theorem d39_35 : decode jdk_68_method_22_code 35 = .ok (.getfield 79, 3) := by decide +kernel
theorem d39_38 : decode jdk_68_method_22_code 38 = .ok (.iload_n 2, 1) := by decide +kernel
theorem d39_39 : decode jdk_68_method_22_code 39 = .ok (.iadd, 1) := by decide +kernel
theorem d39_40 : decode jdk_68_method_22_code 40 = .ok (.putfield 79, 3) := by decide +kernel
theorem d39_43 : decode jdk_68_method_22_code 43 = .ok (.aload_n 0, 1) := by decide +kernel
theorem d39_44 : decode jdk_68_method_22_code 44 = .ok (.areturn, 1) := by decide +kernel
theorem d40_0 : decode jdk_68_method_9_code 0 = .ok (.aload_n 0, 1) := by decide +kernel
theorem d40_1 : decode jdk_68_method_9_code 1 = .ok (.getfield 15, 3) := by decide +kernel
theorem d40_4 : decode jdk_68_method_9_code 4 = .ok (.arraylength, 1) := by decide +kernel
theorem d40_5 : decode jdk_68_method_9_code 5 = .ok (.aload_n 0, 1) := by decide +kernel
theorem d40_6 : decode jdk_68_method_9_code 6 = .ok (.getfield 22, 3) := by decide +kernel
theorem d40_9 : decode jdk_68_method_9_code 9 = .ok (.ishr, 1) := by decide +kernel
theorem d40_10 : decode jdk_68_method_9_code 10 = .ok (.istore_n 2, 1) := by decide +kernel
theorem d40_11 : decode jdk_68_method_9_code 11 = .ok (.iload_n 1, 1) := by decide +kernel
theorem d40_12 : decode jdk_68_method_9_code 12 = .ok (.iload_n 2, 1) := by decide +kernel
theorem d40_13 : decode jdk_68_method_9_code 13 = .ok (.isub, 1) := by decide +kernel
theorem d40_14 : decode jdk_68_method_9_code 14 = .ok (.ifCond .le 24, 3) := by decide +kernel
theorem d40_38 : decode jdk_68_method_9_code 38 = .ok (.return_, 1) := by decide +kernel
theorem d41_0 : decode jdk_68_method_73_code 0 = .ok (.aload_n 0, 1) := by decide +kernel
theorem d41_1 : decode jdk_68_method_73_code 1 = .ok (.aload_n 2, 1) := by decide +kernel
theorem d41_2 : decode jdk_68_method_73_code 2 = .ok (.invokevirtual 397, 3) := by decide +kernel
theorem d41_5 : decode jdk_68_method_73_code 5 = .ok (.aload_n 2, 1) := by decide +kernel
theorem d41_6 : decode jdk_68_method_73_code 6 = .ok (.aload_n 0, 1) := by decide +kernel
theorem d41_7 : decode jdk_68_method_73_code 7 = .ok (.getfield 15, 3) := by decide +kernel
theorem d41_10 : decode jdk_68_method_73_code 10 = .ok (.iload_n 1, 1) := by decide +kernel
theorem d41_11 : decode jdk_68_method_73_code 11 = .ok (.aload_n 0, 1) := by decide +kernel
theorem d41_12 : decode jdk_68_method_73_code 12 = .ok (.getfield 22, 3) := by decide +kernel
theorem d41_15 : decode jdk_68_method_73_code 15 = .ok (.invokevirtual 399, 3) := by decide +kernel
theorem d41_18 : decode jdk_68_method_73_code 18 = .ok (.return_, 1) := by decide +kernel
theorem d42_0 : decode jdk_68_method_71_code 0 = .ok (.getstatic 18, 3) := by decide +kernel
theorem d42_3 : decode jdk_68_method_71_code 3 = .ok (.ifCond .eq 18, 3) := by decide +kernel
theorem d42_6 : decode jdk_68_method_71_code 6 = .ok (.aload_n 0, 1) := by decide +kernel
theorem d42_7 : decode jdk_68_method_71_code 7 = .ok (.getfield 22, 3) := by decide +kernel
theorem d42_10 : decode jdk_68_method_71_code 10 = .ok (.aload_n 1, 1) := by decide +kernel
theorem d42_11 : decode jdk_68_method_71_code 11 = .ok (.invokevirtual 40, 3) := by decide +kernel
theorem d42_14 : decode jdk_68_method_71_code 14 = .ok (.if_icmp .eq 7, 3) := by decide +kernel
theorem d42_21 : decode jdk_68_method_71_code 21 = .ok (.return_, 1) := by decide +kernel
theorem d43_0 : decode jdk_42_method_147_code 0 = .ok (.aload_n 0, 1) := by decide +kernel
theorem d43_1 : decode jdk_42_method_147_code 1 = .ok (.invokevirtual 335, 3) := by decide +kernel
theorem d43_4 : decode jdk_42_method_147_code 4 = .ok (.iload_n 3, 1) := by decide +kernel
theorem d43_5 : decode jdk_42_method_147_code 5 = .ok (.if_icmp .ne 23, 3) := by decide +kernel
theorem d43_8 : decode jdk_42_method_147_code 8 = .ok (.aload_n 0, 1) := by decide +kernel
theorem d43_9 : decode jdk_42_method_147_code 9 = .ok (.getfield 9, 3) := by decide +kernel
theorem d43_12 : decode jdk_42_method_147_code 12 = .ok (.iconst 0, 1) := by decide +kernel
theorem d43_13 : decode jdk_42_method_147_code 13 = .ok (.aload_n 1, 1) := by decide +kernel
theorem d43_14 : decode jdk_42_method_147_code 14 = .ok (.iload_n 2, 1) := by decide +kernel
theorem d43_15 : decode jdk_42_method_147_code 15 = .ok (.iload_n 3, 1) := by decide +kernel
theorem d43_16 : decode jdk_42_method_147_code 16 = .ok (.ishl, 1) := by decide +kernel
theorem d43_17 : decode jdk_42_method_147_code 17 = .ok (.aload_n 0, 1) := by decide +kernel
theorem d43_18 : decode jdk_42_method_147_code 18 = .ok (.getfield 9, 3) := by decide +kernel
theorem d43_21 : decode jdk_42_method_147_code 21 = .ok (.arraylength, 1) := by decide +kernel
theorem d43_22 : decode jdk_42_method_147_code 22 = .ok (.invokestatic 212, 3) := by decide +kernel
theorem d43_25 : decode jdk_42_method_147_code 25 = .ok (.goto 18, 3) := by decide +kernel
theorem d43_43 : decode jdk_42_method_147_code 43 = .ok (.return_, 1) := by decide +kernel
theorem d44_0 : decode jdk_67_method_14_code 0 = .ok (.aload_n 0, 1) := by decide +kernel
theorem d44_1 : decode jdk_67_method_14_code 1 = .ok (.iload_n 1, 1) := by decide +kernel
theorem d44_2 : decode jdk_67_method_14_code 2 = .ok (.invokespecial 50, 3) := by decide +kernel
theorem d44_5 : decode jdk_67_method_14_code 5 = .ok (.pop, 1) := by decide +kernel
theorem d44_6 : decode jdk_67_method_14_code 6 = .ok (.aload_n 0, 1) := by decide +kernel
theorem d44_7 : decode jdk_67_method_14_code 7 = .ok (.areturn, 1) := by decide +kernel
theorem d45_0 : decode jdk_68_method_31_code 0 = .ok (.aload_n 0, 1) := by decide +kernel
theorem d45_1 : decode jdk_68_method_31_code 1 = .ok (.aload_n 0, 1) := by decide +kernel
theorem d45_2 : decode jdk_68_method_31_code 2 = .ok (.getfield 79, 3) := by decide +kernel
theorem d45_5 : decode jdk_68_method_31_code 5 = .ok (.iconst 1, 1) := by decide +kernel
theorem d45_6 : decode jdk_68_method_31_code 6 = .ok (.iadd, 1) := by decide +kernel
theorem d45_7 : decode jdk_68_method_31_code 7 = .ok (.invokevirtual 100, 3) := by decide +kernel
theorem d45_10 : decode jdk_68_method_31_code 10 = .ok (.aload_n 0, 1) := by decide +kernel
theorem d45_11 : decode jdk_68_method_31_code 11 = .ok (.invokevirtual 83, 3) := by decide +kernel
theorem d45_14 : decode jdk_68_method_31_code 14 = .ok (.ifCond .eq 31, 3) := by decide +kernel
theorem d45_17 : decode jdk_68_method_31_code 17 = .ok (.iload_n 1, 1) := by decide +kernel
theorem d45_18 : decode jdk_68_method_31_code 18 = .ok (.invokestatic 191, 3) := by decide +kernel
theorem d45_21 : decode jdk_68_method_31_code 21 = .ok (.ifCond .eq 24, 3) := by decide +kernel
theorem d45_24 : decode jdk_68_method_31_code 24 = .ok (.aload_n 0, 1) := by decide +kernel
theorem d45_25 : decode jdk_68_method_31_code 25 = .ok (.getfield 15, 3) := by decide +kernel
theorem d45_28 : decode jdk_68_method_31_code 28 = .ok (.aload_n 0, 1) := by decide +kernel
theorem d45_29 : decode jdk_68_method_31_code 29 = .ok (.dup, 1) := by decide +kernel
theorem d45_30 : decode jdk_68_method_31_code 30 = .ok (.getfield 79, 3) := by decide +kernel
theorem d45_33 : decode jdk_68_method_31_code 33 = .ok (.dup_x1, 1) := by decide +kernel
theorem d45_34 : decode jdk_68_method_31_code 34 = .ok (.iconst 1, 1) := by decide +kernel
theorem d45_35 : decode jdk_68_method_31_code 35 = .ok (.iadd, 1) := by decide +kernel
theorem d45_36 : decode jdk_68_method_31_code 36 = .ok (.putfield 79, 3) := by decide +kernel
theorem d45_39 : decode jdk_68_method_31_code 39 = .ok (.iload_n 1, 1) := by decide +kernel
theorem d45_40 : decode jdk_68_method_31_code 40 = .ok (.i2b, 1) := by decide +kernel
theorem d45_41 : decode jdk_68_method_31_code 41 = .ok (.bastore, 1) := by decide +kernel
theorem d45_42 : decode jdk_68_method_31_code 42 = .ok (.goto 33, 3) := by decide +kernel
theorem d45_75 : decode jdk_68_method_31_code 75 = .ok (.aload_n 0, 1) := by decide +kernel
theorem d45_76 : decode jdk_68_method_31_code 76 = .ok (.areturn, 1) := by decide +kernel
theorem d46_0 : decode jdk_68_method_68_code 0 = .ok (.getstatic 18, 3) := by decide +kernel
theorem d46_3 : decode jdk_68_method_68_code 3 = .ok (.ifCond .eq 14, 3) := by decide +kernel
theorem d46_6 : decode jdk_68_method_68_code 6 = .ok (.aload_n 0, 1) := by decide +kernel
theorem d46_7 : decode jdk_68_method_68_code 7 = .ok (.getfield 22, 3) := by decide +kernel
theorem d46_10 : decode jdk_68_method_68_code 10 = .ok (.ifCond .ne 7, 3) := by decide +kernel
theorem d46_13 : decode jdk_68_method_68_code 13 = .ok (.iconst 1, 1) := by decide +kernel
theorem d46_14 : decode jdk_68_method_68_code 14 = .ok (.goto 4, 3) := by decide +kernel
theorem d46_18 : decode jdk_68_method_68_code 18 = .ok (.ireturn, 1) := by decide +kernel
theorem d47_0 : decode jdk_43_method_3_code 0 = .ok (.iload_n 0, 1) := by decide +kernel
theorem d47_1 : decode jdk_43_method_3_code 1 = .ok (.sipush 255, 3) := by decide +kernel
theorem d47_4 : decode jdk_43_method_3_code 4 = .ok (.if_icmp .gt 7, 3) := by decide +kernel
theorem d47_7 : decode jdk_43_method_3_code 7 = .ok (.iconst 1, 1) := by decide +kernel
theorem d47_8 : decode jdk_43_method_3_code 8 = .ok (.goto 4, 3) := by decide +kernel
theorem d47_12 : decode jdk_43_method_3_code 12 = .ok (.ireturn, 1) := by decide +kernel
theorem d48_0 : decode jdk_67_method_42_code 0 = .ok (.new 18, 3) := by decide +kernel
theorem d48_3 : decode jdk_67_method_42_code 3 = .ok (.dup, 1) := by decide +kernel
theorem d48_4 : decode jdk_67_method_42_code 4 = .ok (.aload_n 0, 1) := by decide +kernel
theorem d48_5 : decode jdk_67_method_42_code 5 = .ok (.invokespecial 137, 3) := by decide +kernel
theorem d48_8 : decode jdk_67_method_42_code 8 = .ok (.areturn, 1) := by decide +kernel
theorem d49_0 : decode jdk_42_method_53_code 0 = .ok (.aload_n 0, 1) := by decide +kernel
theorem d49_1 : decode jdk_42_method_53_code 1 = .ok (.aload_n 1, 1) := by decide +kernel
theorem d49_2 : decode jdk_42_method_53_code 2 = .ok (.aconst_null, 1) := by decide +kernel
theorem d49_3 : decode jdk_42_method_53_code 3 = .ok (.invokespecial 489, 3) := by decide +kernel
theorem d49_6 : decode jdk_42_method_53_code 6 = .ok (.return_, 1) := by decide +kernel
theorem d50_0 : decode jdk_42_method_150_code 0 = .ok (.aload_n 0, 1) := by decide +kernel
theorem d50_1 : decode jdk_42_method_150_code 1 = .ok (.invokespecial 1, 3) := by decide +kernel
theorem d50_4 : decode jdk_42_method_150_code 4 = .ok (.aload_n 1, 1) := by decide +kernel
theorem d50_5 : decode jdk_42_method_150_code 5 = .ok (.invokevirtual 552, 3) := by decide +kernel
theorem d50_8 : decode jdk_42_method_150_code 8 = .ok (.astore_n 3, 1) := by decide +kernel
theorem d50_9 : decode jdk_42_method_150_code 9 = .ok (.aload_n 1, 1) := by decide +kernel
theorem d50_10 : decode jdk_42_method_150_code 10 = .ok (.invokevirtual 549, 3) := by decide +kernel
theorem d50_13 : decode jdk_42_method_150_code 13 = .ok (.istore 4, 2) := by decide +kernel
theorem d50_15 : decode jdk_42_method_150_code 15 = .ok (.aload_n 1, 1) := by decide +kernel
theorem d50_16 : decode jdk_42_method_150_code 16 = .ok (.invokevirtual 1047, 3) := by decide +kernel
theorem d50_19 : decode jdk_42_method_150_code 19 = .ok (.ifCond .eq 22, 3) := by decide +kernel
theorem d50_22 : decode jdk_42_method_150_code 22 = .ok (.aload_n 0, 1) := by decide +kernel
theorem d50_23 : decode jdk_42_method_150_code 23 = .ok (.iconst 0, 1) := by decide +kernel
theorem d50_24 : decode jdk_42_method_150_code 24 = .ok (.putfield 15, 3) := by decide +kernel
theorem d50_27 : decode jdk_42_method_150_code 27 = .ok (.aload_n 0, 1) := by decide +kernel
theorem d50_28 : decode jdk_42_method_150_code 28 = .ok (.aload_n 3, 1) := by decide +kernel
theorem d50_29 : decode jdk_42_method_150_code 29 = .ok (.iconst 0, 1) := by decide +kernel
theorem d50_30 : decode jdk_42_method_150_code 30 = .ok (.iload 4, 2) := by decide +kernel
theorem d50_32 : decode jdk_42_method_150_code 32 = .ok (.invokestatic 54, 3) := by decide +kernel
theorem d50_35 : decode jdk_42_method_150_code 35 = .ok (.putfield 9, 3) := by decide +kernel
theorem d50_38 : decode jdk_42_method_150_code 38 = .ok (.goto 59, 3) := by decide +kernel
theorem d50_97 : decode jdk_42_method_150_code 97 = .ok (.return_, 1) := by decide +kernel
theorem d51_0 : decode jdk_68_method_64_code 0 = .ok (.aload_n 0, 1) := by decide +kernel
theorem d51_1 : decode jdk_68_method_64_code 1 = .ok (.getfield 15, 3) := by decide +kernel
theorem d51_4 : decode jdk_68_method_64_code 4 = .ok (.areturn, 1) := by decide +kernel
theorem d52_0 : decode jdk_67_method_93_code 0 = .ok (.aload_n 0, 1) := by decide +kernel
theorem d52_1 : decode jdk_67_method_93_code 1 = .ok (.invokespecial 343, 3) := by decide +kernel
theorem d52_4 : decode jdk_67_method_93_code 4 = .ok (.ireturn, 1) := by decide +kernel
theorem d53_0 : decode jdk_68_method_6_code 0 = .ok (.aload_n 0, 1) := by decide +kernel
theorem d53_1 : decode jdk_68_method_6_code 1 = .ok (.getfield 79, 3) := by decide +kernel
theorem d53_4 : decode jdk_68_method_6_code 4 = .ok (.ireturn, 1) := by decide +kernel
theorem own_on {i : Nat} (h : i < 2147483648) : (Int32.ofNat i).toInt = i := Int32.toInt_ofNat_of_lt (by simpa using h)
theorem own_eqi {x y : Int32} (h : x.toInt = y.toInt) : x = y := Int32.toInt_inj.mp h
theorem own_clamp {i : Nat} (h : i < 2147483648) : (Int32.ofNat i).toNatClampNeg = i := by
  rw [Int32.toNatClampNeg, own_on h]; rfl
theorem own_lt {i j : Nat} (hi : i < 2147483648) (hj : j < 2147483648) : Int32.ofNat i < Int32.ofNat j ↔ i < j := by
  rw [Int32.lt_iff_toInt_lt, own_on hi, own_on hj]; omega
theorem own_eq {i j : Nat} (hi : i < 2147483648) (hj : j < 2147483648) : Int32.ofNat i = Int32.ofNat j ↔ i = j := by
  rw [← Int32.toInt_inj, own_on hi, own_on hj]; omega
theorem own_in {i n : Nat} (h : i < n) (hn : n < 2147483648) : ¬ Int32.ofNat i < 0 ∧ Int32.ofNat i < Int32.ofNat n := by
  refine ⟨fun q => ?_, (own_lt (by omega) hn).mpr h⟩
  rw [Int32.lt_iff_toInt_lt, own_on (by omega)] at q
  have : (0 : Int32).toInt = 0 := rfl
  omega
theorem own_succ {i : Nat} (h : i < 2147483647) : Int32.ofNat i + (1 : Int32) = Int32.ofNat (i + 1) := by
  apply own_eqi
  have h1 := c_iadd (Int32.ofNat i) 1
  have h2 := rng32 (Int32.ofNat i + 1)
  rw [own_on (by omega)] at h1 ⊢
  have h3 : (1 : Int32).toInt = 1 := rfl
  push_cast
  omega
theorem own_pred {i : Nat} (h : i < 2147483648) (h0 : 0 < i) : Int32.ofNat i - (1 : Int32) = Int32.ofNat (i - 1) := by
  apply own_eqi
  have h1 := c_isub (Int32.ofNat i) 1
  have h2 := rng32 (Int32.ofNat i - 1)
  rw [own_on h] at h1
  rw [own_on (by omega)]
  have h3 : (1 : Int32).toInt = 1 := rfl
  omega
theorem own_high {i : Nat} (h : i < 1073741824) : (Int32.ofNat i - (1 : Int32)).toInt = (i : Int) - 1 := by
  have h1 := c_isub (Int32.ofNat i) 1
  have h2 := rng32 (Int32.ofNat i - 1)
  rw [own_on (by omega)] at h1
  have h3 : (1 : Int32).toInt = 1 := rfl
  omega
theorem own_mid {i j : Nat} (h : i < j) (hj : j < 1073741824) : ((Int32.ofNat i + (Int32.ofNat j - (1 : Int32))).toUInt32 >>> ((1 : Int32) &&& 31).toUInt32).toInt32 = Int32.ofNat ((i + j - 1) / 2) := by
  apply own_eqi
  have h1 := c_iadd (Int32.ofNat i) (Int32.ofNat j - 1)
  have h2 := rng32 (Int32.ofNat i + (Int32.ofNat j - 1))
  rw [own_on (by omega), own_high hj] at h1
  rw [c_iushr _ 1 1 (by decide) (by decide), own_on (by omega)]
  omega
theorem own_past {i j : Nat} (hi : i < 1073741824) (hj : j < 1073741824) : Int32.ofNat j - (1 : Int32) < Int32.ofNat i ↔ j ≤ i := by
  rw [Int32.lt_iff_toInt_lt, own_high hj, own_on (by omega)]; omega
theorem own_getm {α : Type} (g : α → Value) (l : List α) (d0 : α) (dv : Value) {i : Nat} (hi : i < l.length) (hb : i < 2147483648) : (l.map g).getD (Int32.ofNat i).toNatClampNeg dv = g (l.getD i d0) := by
  rw [own_clamp hb]
  simp [hi]
def own_b8 (c : Int32) : Int32 := c.toInt8.toInt32
def own_by (c : Int32) : Value := .int (own_b8 c)
def own_c (c : Int32) : Prop := ¬ c < 0 ∧ ¬ 255 < c
def own_L (cs : List Int32) : Prop := ∀ c ∈ cs, own_c c
abbrev own_bi (d : Bool) : Int32 := if d then 1 else 0
theorem own_ci {c : Int32} (h : own_c c) : 0 ≤ c.toInt ∧ c.toInt ≤ 255 := by
  obtain ⟨h1, h2⟩ := h
  rw [Int32.lt_iff_toInt_lt] at h1 h2
  have e1 : (0 : Int32).toInt = 0 := rfl
  have e2 : (255 : Int32).toInt = 255 := rfl
  omega
theorem own_ic {c : Int32} (h1 : 0 ≤ c.toInt) (h2 : c.toInt ≤ 255) : own_c c := by
  have e1 : (0 : Int32).toInt = 0 := rfl
  have e2 : (255 : Int32).toInt = 255 := rfl
  refine ⟨fun q => ?_, fun q => ?_⟩ <;> rw [Int32.lt_iff_toInt_lt] at q <;> omega
theorem own_nc {c : Int32} (h : own_c c) : nar .char c = c := by
  apply Int32.toInt_inj.mp
  have h1 := own_ci h
  have h2 := c_i2c c
  show (c.toUInt32.toUInt16.toUInt32.toInt32).toInt = c.toInt
  omega
theorem own_nb (c : Int32) : nar .byte (own_b8 c) = own_b8 c := by
  apply Int32.toInt_inj.mp
  have h1 := c_i2b c
  have h2 := c_i2b (own_b8 c)
  have e : (own_b8 c).toInt = (c.toInt8.toInt32).toInt := rfl
  show ((own_b8 c).toInt8.toInt32).toInt = (own_b8 c).toInt
  omega
theorem own_m255 (x : Int32) : (x &&& 255).toInt = x.toInt % 256 := c_mask x 255 8 (by decide) (by decide)
theorem own_cand (x : Int32) : own_c ((x &&& 255).toUInt32.toUInt16.toUInt32.toInt32) := by
  have h3 := own_m255 x
  have h4 := c_i2c (x &&& 255)
  exact own_ic (by omega) (by omega)
theorem own_cb {c : Int32} (h : own_c c) : nar .char ((own_b8 c &&& 255).toUInt32.toUInt16.toUInt32.toInt32) = c := by
  rw [own_nc (own_cand _)]
  apply Int32.toInt_inj.mp
  have h1 := own_ci h
  have h2 := c_i2b c
  have h3 := own_m255 (own_b8 c)
  have h4 := c_i2c (own_b8 c &&& 255)
  have e : (own_b8 c).toInt = (c.toInt8.toInt32).toInt := rfl
  omega
theorem own_b8inj {c d : Int32} (hc : own_c c) (hd : own_c d) (h : own_b8 c = own_b8 d) : c = d := by
  rw [← own_cb hc, ← own_cb hd, h]
theorem own_shr0 (z : Int32) : z >>> ((0 : Int32) &&& 31) = z := by
  apply Int32.toInt_inj.mp
  rw [c_ishr z 0 0 (by decide)]
  simp
def own_fill (cs : List Int32) (i : Nat) : List Value := (cs.take i).map own_by ++ List.replicate (cs.length - i) (.int 0)
theorem own_fill0 (cs : List Int32) : own_fill cs 0 = List.replicate cs.length (.int 0) := by simp [own_fill]
theorem own_filln (cs : List Int32) : own_fill cs cs.length = cs.map own_by := by simp [own_fill]
theorem own_fill_len {cs : List Int32} {i : Nat} (h : i ≤ cs.length) : (own_fill cs i).length = cs.length := by simp [own_fill]; omega
theorem own_fill_cons (c : Int32) (cs : List Int32) (i : Nat) : own_fill (c :: cs) (i + 1) = own_by c :: own_fill cs i := by simp [own_fill]
theorem own_fill_set : ∀ (cs : List Int32) (i : Nat), i < cs.length → (own_fill cs i).set i (own_by (cs.getD i 0)) = own_fill cs (i + 1)
  | [], _, h => by simp at h
  | c :: cs, 0, _ => by simp [own_fill, List.replicate_succ]
  | c :: cs, i + 1, h => by
    have q := own_fill_set cs i (by simpa using h)
    rw [own_fill_cons, own_fill_cons, List.set_cons_succ, ← q]
    simp
theorem own_getb (cs : List Int32) (i : Nat) : (cs.map own_by).getD i (.int 0) = own_by (cs.getD i 0) := by
  rw [List.getD_eq_getElem?_getD, List.getD_eq_getElem?_getD, List.getElem?_map]; cases cs[i]? <;> rfl
theorem own_geti (cs : List Int32) (i : Nat) : (cs.map Value.int).getD i (.int 0) = .int (cs.getD i 0) := by
  rw [List.getD_eq_getElem?_getD, List.getD_eq_getElem?_getD, List.getElem?_map]; cases cs[i]? <;> rfl
theorem own_eqx {ca cb : List Int32} (hl : ca.length = cb.length) (h : ∀ j, j < ca.length → ca.getD j 0 = cb.getD j 0) : ca = cb := by
  apply List.ext_getElem hl
  intro i q1 q2
  have := h i q1
  simpa [q1, q2] using this
theorem own_Lget {cs : List Int32} (h : own_L cs) (i : Nat) : own_c (cs.getD i 0) := by
  rw [List.getD_eq_getElem?_getD]
  cases q : cs[i]? with
  | none => exact ⟨by decide, by decide⟩
  | some c => exact h c (List.mem_of_getElem? q)
theorem own_bi0 {d : Bool} (h : own_bi d = 0) : d = false := by cases d with | false => rfl | true => exact absurd h (by decide)
theorem own_bi1 {d : Bool} (h : ¬ own_bi d = 0) : d = true := by cases d with | true => rfl | false => exact absurd rfl h
theorem own_cfal (z : Int32) : nar .byte (((z - z).toUInt32 >>> ((31 : Int32) &&& 31).toUInt32).toInt32.toInt8.toInt32) = 0 := by rw [Int32.sub_self]; decide
theorem own_Ln : own_L [] := fun c h => by cases h
theorem own_Lc {c : Int32} {cs : List Int32} (h : own_c c) (hs : own_L cs) : own_L (c :: cs) := fun d hd => by
  rcases List.mem_cons.mp hd with rfl | q
  · exact h
  · exact hs d q
theorem own_Ltake {X : List Int32} {j : Nat} (h : own_L X) : own_L (List.take j X) := fun c hc => h c (List.mem_of_mem_take hc)
theorem own_Lset {X : List Int32} {j : Nat} {c : Int32} (h : own_L X) (hc : own_c c) : own_L (X.set j c) := fun d hd => by
  rcases List.mem_or_eq_of_mem_set hd with q | rfl
  · exact h d q
  · exact hc
theorem own_idx {i : Nat} {l : List Int32} (h : i < l.length) (hl : l.length < 2147483648) : ¬ Int32.ofNat i < 0 ∧ Int32.ofNat i < Int32.ofNat l.length := own_in h hl
abbrev own_nil : List Int32 := []
theorem own_shl0 (z : Int32) : z <<< ((0 : Int32) &&& 31) = z := by
  have e : ((0 : Int32) &&& 31) = 0 := by decide
  rw [e]; exact Int32.shiftLeft_zero
theorem own_nn {i : Nat} (h : i < 2147483648) : ¬ Int32.ofNat i < 0 := fun q => by
  rw [Int32.lt_iff_toInt_lt, own_on h] at q
  have : (0 : Int32).toInt = 0 := rfl
  omega
theorem own_c0 : (0 : Int32).toNatClampNeg = 0 := by decide
theorem own_addn (a b : Nat) : Int32.ofNat a + Int32.ofNat b = Int32.ofNat (a + b) := (Int32.ofNat_add a b).symm
theorem own_addl (a b : List Int32) : Int32.ofNat a.length + Int32.ofNat b.length = Int32.ofNat (a ++ b).length := by rw [own_addn, List.length_append]
theorem own_snl (a : List Int32) (c : Int32) : Int32.ofNat a.length + (1 : Int32) = Int32.ofNat (a ++ [c]).length := own_addl a [c]
theorem own_subn {m c : Nat} (h : m ≤ c) (hc : c < 2147483648) : ¬ (0 : Int32) < Int32.ofNat m - Int32.ofNat c := by
  have h1 := c_isub (Int32.ofNat m) (Int32.ofNat c)
  have h2 := rng32 (Int32.ofNat m - Int32.ofNat c)
  rw [own_on (by omega), own_on hc] at h1
  have h3 : (0 : Int32).toInt = 0 := rfl
  rw [Int32.lt_iff_toInt_lt]
  omega
theorem own_sub0 (x : Int32) : x - (0 : Int32) = x := Int32.sub_zero x
def own_sb (cl : List Int32) (cap : Nat) : List Value := cl.map own_by ++ List.replicate (cap - cl.length) (.int 0)
theorem own_sb0 (cap : Nat) : own_sb [] cap = List.replicate cap (.int 0) := by simp [own_sb]
theorem own_sbl {cl : List Int32} {cap : Nat} (h : cl.length ≤ cap) : (own_sb cl cap).length = cap := by simp [own_sb]; omega
theorem own_sbapp {cl dl : List Int32} {cap : Nat} (h : cl.length + dl.length ≤ cap) : (own_sb cl cap).take cl.length ++ dl.map own_by ++ (own_sb cl cap).drop (cl.length + dl.length) = own_sb (cl ++ dl) cap := by
  have e1 : (own_sb cl cap).take cl.length = cl.map own_by := by
    rw [own_sb, List.take_append_of_le_length (by simp), List.take_of_length_le (by simp)]
  have e2 : (own_sb cl cap).drop (cl.length + dl.length) = List.replicate (cap - (cl ++ dl).length) (.int 0) := by
    rw [own_sb, List.drop_append, List.drop_eq_nil_of_le (by simp), List.nil_append, List.drop_replicate]
    congr 1
    simp
    omega
  rw [e1, e2]
  simp [own_sb]
theorem own_sbset {cl : List Int32} {c : Int32} {cap : Nat} (h : cl.length < cap) : (own_sb cl cap).set cl.length (own_by c) = own_sb (cl ++ [c]) cap := by
  have e : cap - cl.length = (cap - (cl ++ [c]).length) + 1 := by simp; omega
  rw [own_sb, own_sb, e, List.set_append_right _ _ (by simp), List.length_map, Nat.sub_self, List.replicate_succ, List.set_cons_zero]
  simp
theorem own_cp5 {a b c : Nat} (h : a + b ≤ c) (hc : c < 2147483648) : (Int32.ofNat a).toNatClampNeg + (Int32.ofNat b).toNatClampNeg ≤ (Int32.ofNat c).toNatClampNeg := by
  rw [own_clamp (by omega), own_clamp (by omega), own_clamp hc]; exact h
theorem own_cp5z {b c : Nat} (h : b ≤ c) (hc : c < 2147483648) : (0 : Int32).toNatClampNeg + (Int32.ofNat b).toNatClampNeg ≤ (Int32.ofNat c).toNatClampNeg := by
  rw [own_c0, own_clamp (by omega), own_clamp hc]; omega
theorem own_us0 {l m : List Value} {n : Nat} {d : Value} (hm : m = l.take n) (hn : n ≤ l.length) (hb : n < 2147483648) : m = (List.range (Int32.ofNat n).toNatClampNeg).map fun i => l.getD ((0 : Int32).toNatClampNeg + i) d := by
  subst hm
  rw [own_c0, own_clamp hb]
  apply List.ext_getElem
  · simp; omega
  · intro i h1 h2
    simp at h1 h2 ⊢
    rw [List.getElem?_eq_getElem (by omega)]
    rfl
theorem own_sbtake {cl : List Int32} {cap : Nat} (h : cl.length ≤ cap) : cl.map own_by = (own_sb cl cap).take cl.length := by
  rw [own_sb, List.take_append_of_le_length (by simp), List.take_of_length_le (by simp)]
theorem own_cpfull {us : List Value} {n : Nat} (h : us.length = n) : (List.replicate n (Value.int 0)).take 0 ++ us ++ (List.replicate n (Value.int 0)).drop (0 + n) = us := by simp
theorem own_wS {Z : State} {a0 : Array Value} (hw : ∀ d ∈ tables_1, d.before a0 Z = true) : ∀ a ∈ Bundle.stringAtoms, a.before a0 Z = true := by
  intro a ha
  simp only [Bundle.stringAtoms, List.mem_cons, List.not_mem_nil, or_false] at ha
  rcases ha with rfl | rfl | rfl | rfl | rfl | rfl | rfl
  · exact (w23 hw)
  · exact (w24 hw)
  · exact (w25 hw)
  · exact (w26 hw)
  · exact (w27 hw)
  · exact (w28 hw)
  · exact (w29 hw)
def own_HE (f : Int32 → Option Value) : Nat → List Value → Prop
  | _, [] => True
  | i, v :: r => f (Int32.ofNat i) = some v ∧ own_HE f (i + 1) r
theorem own_eqI {t : Term} {n : Int32} {args : Array Value} {s : State} (h : (Cond.eq t (.int n)).value args s none s [] = some true) : t.eval args s none [] s = some (.int n) := by
  have hn : (Term.int n).eval args s none [] s = some (.int n) := rfl
  simp only [Cond.value] at h
  rw [hn] at h
  cases hv : t.eval args s none [] s with
  | none => simp [hv] at h
  | some v =>
    cases v with
    | int x => simp [hv] at h; rw [h]
    | _ => simp [hv] at h
theorem own_eqR {t u : Term} {y : Addr} {args : Array Value} {s : State} (h : (Cond.eq t u).value args s none s [] = some true) (hu : u.eval args s none [] s = some (.ref y)) : t.eval args s none [] s = some (.ref y) := by
  simp only [Cond.value] at h
  rw [hu] at h
  cases hv : t.eval args s none [] s with
  | none => simp [hv] at h
  | some v =>
    cases v with
    | ref x => simp [hv] at h; rw [h]
    | _ => simp [hv] at h
theorem own_HL {args : Array Value} {s : State} {t : Term} {a : Addr} {c : Cell} (ev : t.eval args s none [] s = some (.ref a)) (hc : s.heap[a]? = some c) : ∀ (vs : List Value) (i : Nat), i + vs.length < 2147483648 → own_HE (fun j => (Term.elem t (.int j)).eval args s none [] s) i vs → HasL c i vs
  | [], _, _, _ => trivial
  | v :: r, i, hi, H => by
    have hi' : i + 1 + r.length < 2147483648 := by simp at hi; omega
    have q := (elem_in H.1 ev (j := Int32.ofNat i) rfl hc).2
    rw [own_clamp (by omega)] at q
    exact ⟨q, own_HL ev hc r (i + 1) hi' H.2⟩
theorem own_sz {args : Array Value} {s : State} {t : Term} {a : Addr} {c : Cell} {z : Int32} (ev : t.eval args s none [] s = some (.ref a)) (ha : s.arrayAt? a = some c) (h2 : (Term.length t).eval args s none [] s = some (.int z)) : c.slots.size < 2 ^ 31 ∧ c.slots.size.toInt32 = z := by
  have hq : c.slots.size < 2 ^ 31 := by
    by_cases q : c.slots.size < 2147483648
    · exact q
    · simp [Term.eval, ev, ha, q] at h2
  have e := h2.symm.trans (len_f ev ha hq)
  exact ⟨hq, (Value.int.inj (Option.some.inj e)).symm⟩
theorem own_arv0 {args : Array Value} {s : State} {t : Term} {a : Addr} {ty : FieldType} {z : Int32} {vs : List Value} {dv : Value} (hf : Fit s) (ev : t.eval args s none [] s = some (.ref a)) (h1 : (Cond.arrayOf t ty).value args s none s [] = some true) (h2 : (Term.length t).eval args s none [] s = some (.int z)) (hz : ¬ z < 0) (hl : z.toNatClampNeg = vs.length) (hb : vs.length < 2147483648) (H : own_HE (fun j => (Term.elem t (.int j)).eval args s none [] s) 0 vs) : ∃ q, Arv s s.heap a q ty z vs dv := by
  obtain ⟨c, A⟩ := Arr.start ev h1
  have ha : s.arrayAt? a = some c := Arr.fin (Vm.Alike.refl _) A
  obtain ⟨hq, e⟩ := own_sz ev ha h2
  exact ⟨c.cls, Arv.start hf A hq e hz hl (own_HL ev A.1 vs 0 (by omega) H)⟩
def own_sp (T : List Int32) : Nat → Nat → Nat
  | 0, i => i
  | d + 1, i => if T.getD i 0 = 124 then i else own_sp T d (i + 1)
def own_sep (T : List Int32) (i e : Nat) : Nat := own_sp T (e - i) i
theorem own_sp_b : ∀ (T : List Int32) (d i : Nat), i ≤ own_sp T d i ∧ own_sp T d i ≤ i + d
  | _, 0, i => ⟨Nat.le_refl _, Nat.le_refl _⟩
  | T, d + 1, i => by
    rw [own_sp]
    split
    · omega
    · have := own_sp_b T d (i + 1)
      omega
theorem own_sep_b {T : List Int32} {i e : Nat} (h : i ≤ e) : i ≤ own_sep T i e ∧ own_sep T i e ≤ e := by
  have := own_sp_b T (e - i) i
  unfold own_sep
  omega
theorem own_sp_at {T : List Int32} {k : Nat} : ∀ (d i : Nat), i ≤ k → k < i + d → T.getD k 0 = 124 → (∀ j, i ≤ j → j < k → ¬ T.getD j 0 = 124) → own_sp T d i = k
  | 0, i, h1, h2, _, _ => by omega
  | d + 1, i, h1, h2, h3, h4 => by
    rw [own_sp]
    by_cases q : i = k
    · rw [if_pos (by rw [q]; exact h3)]; exact q
    · rw [if_neg (h4 i (Nat.le_refl _) (by omega))]
      exact own_sp_at d (i + 1) (by omega) (by omega) h3 (fun j a b => h4 j (by omega) b)
theorem own_sp_none {T : List Int32} : ∀ (d i : Nat), (∀ j, i ≤ j → j < i + d → ¬ T.getD j 0 = 124) → own_sp T d i = i + d
  | 0, i, _ => rfl
  | d + 1, i, h => by
    rw [own_sp, if_neg (h i (Nat.le_refl _) (by omega)), own_sp_none d (i + 1) (fun j a b => h j (by omega) (by omega))]
    omega
theorem own_sp_hit {T : List Int32} : ∀ (d i : Nat), own_sp T d i < i + d → T.getD (own_sp T d i) 0 = 124
  | 0, i, h => by simp [own_sp] at h
  | d + 1, i, h => by
    rw [own_sp] at h ⊢
    split
    · assumption
    · rename_i q
      rw [if_neg q] at h
      exact own_sp_hit d (i + 1) (by omega)
theorem own_sep_at {T : List Int32} {i k e : Nat} (h1 : i ≤ k) (h2 : k < e) (h3 : T.getD k 0 = 124) (h4 : ∀ j, i ≤ j → j < k → ¬ T.getD j 0 = 124) : own_sep T i e = k := own_sp_at _ _ h1 (by omega) h3 h4
theorem own_sep_none {T : List Int32} {i e : Nat} (h : i ≤ e) (h4 : ∀ j, i ≤ j → j < e → ¬ T.getD j 0 = 124) : own_sep T i e = e := by
  unfold own_sep
  rw [own_sp_none _ _ (fun j a b => h4 j a (by omega))]
  omega
def own_st (T : List Int32) (e p : Nat) : Nat := if p = e then e else own_sep T (p + 1) e
def own_it (T : List Int32) (e : Nat) : Nat → Nat → Nat
  | 0, p => p
  | k + 1, p => own_st T e (own_it T e k p)
theorem own_st_b {T : List Int32} {e p : Nat} (h : p ≤ e) : own_st T e p ≤ e := by
  unfold own_st
  split
  · exact Nat.le_refl _
  · exact (own_sep_b (by omega)).2
theorem own_it_b {T : List Int32} {e p : Nat} (h : p ≤ e) : ∀ k, own_it T e k p ≤ e
  | 0 => h
  | k + 1 => own_st_b (own_it_b h k)
theorem own_it_stay {T : List Int32} {e p k : Nat} (h : own_it T e k p = e) : ∀ m, own_it T e (k + m) p = e
  | 0 => h
  | m + 1 => by rw [← Nat.add_assoc, own_it, own_it_stay h m, own_st, if_pos rfl]
def own_cn (T : List Int32) : Nat → Nat → Nat
  | 0, _ => 0
  | d + 1, i => (if T.getD i 0 = 124 then 1 else 0) + own_cn T d (i + 1)
theorem own_cn_le : ∀ (T : List Int32) (d i : Nat), own_cn T d i ≤ d
  | _, 0, _ => Nat.le_refl _
  | T, d + 1, i => by
    have := own_cn_le T d (i + 1)
    rw [own_cn]
    split <;> omega
theorem own_cn0 {T : List Int32} : ∀ (d i : Nat), own_cn T d i = 0 → own_sp T d i = i + d
  | 0, _, _ => rfl
  | d + 1, i, h => by
    rw [own_cn] at h
    by_cases q : T.getD i 0 = 124
    · rw [if_pos q] at h; omega
    · rw [if_neg q] at h
      rw [own_sp, if_neg q, own_cn0 d (i + 1) (by omega)]
      omega
theorem own_cns {T : List Int32} {n : Nat} : ∀ (d i : Nat), own_cn T d i = n + 1 → own_sp T d i < i + d ∧ own_cn T (i + d - (own_sp T d i + 1)) (own_sp T d i + 1) = n
  | 0, _, h => by simp [own_cn] at h
  | d + 1, i, h => by
    rw [own_cn] at h
    by_cases q : T.getD i 0 = 124
    · rw [if_pos q] at h
      rw [own_sp, if_pos q]
      exact ⟨by omega, by rw [show i + (d + 1) - (i + 1) = d by omega]; omega⟩
    · rw [if_neg q] at h
      rw [own_sp, if_neg q]
      have := own_cns d (i + 1) (show own_cn T d (i + 1) = n + 1 by omega)
      exact ⟨by omega, by rw [show i + (d + 1) = i + 1 + d by omega]; exact this.2⟩
theorem own_cnE {T : List Int32} {f e : Nat} (h : f ≤ e) (hc : own_cn T (e - f) f = 0) : own_sep T f e = e := by
  unfold own_sep
  rw [own_cn0 _ _ hc]
  omega
theorem own_cnS {T : List Int32} {f e n : Nat} (h : f ≤ e) (hc : own_cn T (e - f) f = n + 1) : own_sep T f e < e ∧ own_cn T (e - (own_sep T f e + 1)) (own_sep T f e + 1) = n := by
  have := own_cns _ _ hc
  rw [show f + (e - f) = e by omega] at this
  exact this
abbrev own_m3 (X : List Int32) (s : Nat) : Prop := X.getD s 0 = 77 ∧ X.getD (s + 1) 0 = 83 ∧ X.getD (s + 2) 0 = 72
abbrev own_hd (X : List Int32) (s e : Nat) : Prop := s + 3 ≤ e ∧ own_m3 X s ∧ (s + 3 = e ∨ X.getD (s + 3) 0 = 124)
theorem own_hd_sep {X : List Int32} {s e : Nat} (h : own_hd X s e) : own_sep X s e = s + 3 := by
  obtain ⟨h1, ⟨a, b, c⟩, h2⟩ := h
  have hP : ∀ j, s ≤ j → j < s + 3 → ¬ X.getD j 0 = 124 := by
    intro j p q
    rcases (show j = s ∨ j = s + 1 ∨ j = s + 2 by omega) with rfl | rfl | rfl
    · rw [a]; decide
    · rw [b]; decide
    · rw [c]; decide
  rcases Nat.lt_or_ge (s + 3) e with q | q
  · rcases h2 with z | z
    · omega
    · exact own_sep_at (by omega) q z hP
  · rw [own_sep_none (by omega) (fun j p r => hP j p (by omega))]; omega
theorem own_sep_hd {X : List Int32} {s e : Nat} (hse : s ≤ e) (h1 : own_m3 X s) (h2 : own_sep X s e = s + 3) : own_hd X s e := by
  have hb := own_sep_b (T := X) hse
  refine ⟨by omega, h1, ?_⟩
  by_cases q : s + 3 = e
  · exact Or.inl q
  · have := own_sp_hit (T := X) (e - s) s (by show own_sep X s e < _; omega)
    rw [show own_sp X (e - s) s = s + 3 from h2] at this
    exact Or.inr this
def own_ex (X : List Int32) (s e m : Nat) : Nat :=
  if own_hd X s e then (if e = s + 3 then (if m = 0 then 3 else 4) else if m = 0 then s + 3 else if m = 1 then s + 4 else own_it X e (min (m - 2) 7) (own_sep X (s + 4) e)) else own_it X e (min m 7) (own_sep X s e)
def own_G (T : List Int32) (f0 e0 : Nat) (hd : Bool) (j : Nat) : Nat := match hd with
  | true => if j = 0 then f0 + 3 else if j = 1 then f0 + 4 else own_it T e0 (j - 2) (own_sep T (f0 + 4) e0)
  | false => own_it T e0 j (own_sep T f0 e0)
/-- the steps from a first separator come to the end within as many turns as there are separators -/
theorem own_reach {T : List Int32} : ∀ (n f e : Nat), f ≤ e → own_cn T (e - f) f = n → own_it T e n (own_sep T f e) = e
  | 0, f, e, h, hc => own_cnE h hc
  | n + 1, f, e, h, hc => by
    have q := own_cnS h hc
    have r := own_reach n (own_sep T f e + 1) e (by omega) q.2
    have sh : ∀ k p, own_it T e (k + 1) p = own_it T e k (own_st T e p) := by
      intro k
      induction k with
      | zero => intro p; rfl
      | succ k ih => intro p; rw [own_it, ih]; rfl
    rw [sh, own_st, if_neg (by omega)]
    exact r
theorem own_min {T : List Int32} {f e m : Nat} (h : f ≤ e) (h7 : e ≤ f + 7) : own_it T e (min m 7) (own_sep T f e) = own_it T e m (own_sep T f e) := by
  have hc := own_cn_le T (e - f) f
  have hr := own_reach (T := T) _ f e h rfl
  rcases Nat.le_total m 7 with q | q
  · rw [Nat.min_eq_left q]
  · rw [Nat.min_eq_right q]
    have a := own_it_stay hr (7 - own_cn T (e - f) f)
    have b := own_it_stay hr (m - own_cn T (e - f) f)
    rw [show own_cn T (e - f) f + (7 - own_cn T (e - f) f) = 7 by omega] at a
    rw [show own_cn T (e - f) f + (m - own_cn T (e - f) f) = m by omega] at b
    rw [a, b]
abbrev own_bare : List Int32 := [77, 83, 72, 124]
theorem own_G1 {X : List Int32} {s e : Nat} (hse : s ≤ e) (he : e ≤ 6) (h : ¬ own_hd X s e) (m : Nat) : own_G X s e false m = own_ex X s e m := by
  rw [own_ex, if_neg h, own_min hse (by omega)]; rfl
theorem own_G2 {X : List Int32} {s e : Nat} (he : e ≤ 6) (h : own_hd X s e) (hb : ¬ e = s + 3) (m : Nat) : own_G X s e true m = own_ex X s e m := by
  have h1 := h.1
  rw [own_ex, if_pos h, if_neg hb, own_min (by omega) (by omega)]; rfl
theorem own_G3 {X : List Int32} {s e : Nat} (h : own_hd X s e) (hb : e = s + 3) (m : Nat) : own_G own_bare 0 4 true m = own_ex X s e m := by
  rw [own_ex, if_pos h, if_pos hb]
  show (if m = 0 then 0 + 3 else if m = 1 then 0 + 4 else own_it own_bare 4 (m - 2) (own_sep own_bare (0 + 4) 4)) = _
  have e1 : own_sep own_bare (0 + 4) 4 = 4 := by decide
  rw [e1]
  have e2 := own_it_stay (T := own_bare) (e := 4) (p := 4) (k := 0) rfl (m - 2)
  rw [Nat.zero_add] at e2
  rw [e2]
  split
  · rfl
  · split <;> rfl
def own_get (E : List Nat) (m : Nat) : Nat := if m < E.length then E.getD m 0 else E.getD (E.length - 1) 0
abbrev own_done (T : List Int32) (f0 e0 : Nat) (hd : Bool) (E : List Nat) : Prop := 0 < E.length ∧ E.length ≤ 8 ∧ (∀ j, j < E.length → E.getD j 0 = own_G T f0 e0 hd j) ∧ own_G T f0 e0 hd (E.length - 1) = e0 ∧ (hd = true → 3 ≤ E.length)
theorem own_Gst {T : List Int32} {f0 e0 L m : Nat} {hd : Bool} (h : own_G T f0 e0 hd L = e0) (h3 : hd = true → 2 ≤ L) (hm : L ≤ m) : own_G T f0 e0 hd m = e0 := by
  cases hd with
  | false =>
    have := own_it_stay (T := T) (show own_it T e0 L (own_sep T f0 e0) = e0 from h) (m - L)
    rw [show L + (m - L) = m by omega] at this
    exact this
  | true =>
    have h2 := h3 rfl
    have h' : own_it T e0 (L - 2) (own_sep T (f0 + 4) e0) = e0 := by
      have q : (if L = 0 then f0 + 3 else if L = 1 then f0 + 4 else own_it T e0 (L - 2) (own_sep T (f0 + 4) e0)) = e0 := h
      rw [if_neg (by omega), if_neg (by omega)] at q
      exact q
    have := own_it_stay h' (m - L)
    rw [show L - 2 + (m - L) = m - 2 by omega] at this
    show (if m = 0 then f0 + 3 else if m = 1 then f0 + 4 else own_it T e0 (m - 2) (own_sep T (f0 + 4) e0)) = e0
    rw [if_neg (by omega), if_neg (by omega)]
    exact this
theorem own_fin {X T : List Int32} {s e f0 e0 : Nat} {hd : Bool} {E : List Nat} (hG : ∀ m, own_G T f0 e0 hd m = own_ex X s e m) (h : own_done T f0 e0 hd E) (m : Nat) : own_get E m = own_ex X s e m := by
  obtain ⟨h1, h2, h3, h4, h5⟩ := h
  rw [← hG, own_get]
  split
  · exact h3 m (by assumption)
  · rw [h3 _ (by omega), h4, own_Gst h4 (fun q => by have := h5 q; omega) (by omega)]
def own_iv (n : Nat) : Value := .int (Int32.ofNat n)
theorem own_iv0 (n : Nat) : List.replicate n (Value.int 0) = (List.replicate n 0).map own_iv := by simp [own_iv]
theorem own_Eset {E : List Nat} {i v : Nat} {G : Nat → Nat} (h : ∀ j, j < i → E.getD j 0 = G j) (hi : i < E.length) (hv : v = G i) : ∀ j, j < i + 1 → (E.set i v).getD j 0 = G j := by
  intro j hj
  rw [List.getD_eq_getElem?_getD, List.getElem?_set]
  by_cases q : i = j
  · subst q; simp [hi, hv]
  · rw [if_neg q, ← List.getD_eq_getElem?_getD]; exact h j (by omega)
theorem own_set0 {E : List Nat} {i v d : Nat} (hi : 1 ≤ i) (h : E.getD 0 0 = d) : (E.set i v).getD 0 0 = d := by
  rw [List.getD_eq_getElem?_getD, List.getElem?_set, if_neg (by omega), ← List.getD_eq_getElem?_getD]; exact h
theorem own_geti' {E : List Nat} {i v : Nat} (hi : i < E.length) : (E.set i v).getD i 0 = v := by
  rw [List.getD_eq_getElem?_getD, List.getElem?_set]; simp [hi]
theorem own_pair {x : Int32} {n : Nat} (hx : n ≤ 6) : ∃ j : Nat, n + j ≤ 6 ∧ (x &&& (32767 : Int32)) % ((7 : Int32) - Int32.ofNat n) = Int32.ofNat j := by
  have h1 : (x &&& (32767 : Int32)).toInt = x.toInt % 32768 := c_mask x 32767 15 (by decide) (by decide)
  have e7 : (7 : Int32) - Int32.ofNat n = Int32.ofNat (7 - n) := by
    apply own_eqi
    have a := c_isub 7 (Int32.ofNat n)
    have b := rng32 ((7 : Int32) - Int32.ofNat n)
    have c : (7 : Int32).toInt = 7 := rfl
    rw [own_on (by omega)] at a
    rw [own_on (by omega)]
    omega
  rw [e7]
  have h2 := (c_iremV (x &&& (32767 : Int32)) (Int32.ofNat (7 - n))).1 (by omega) (by rw [own_on (by omega)]; omega)
  rw [own_on (by omega)] at h2
  refine ⟨((x &&& (32767 : Int32)) % (Int32.ofNat (7 - n))).toInt.toNat, by omega, own_eqi ?_⟩
  rw [own_on (by omega)]
  omega
theorem own_7n {n : Nat} (h : n ≤ 6) : (7 : Int32) - Int32.ofNat n ≠ 0 := by
  intro q
  have a := c_isub 7 (Int32.ofNat n)
  rw [q, own_on (by omega)] at a
  have c : (7 : Int32).toInt = 7 := rfl
  have d : (0 : Int32).toInt = 0 := rfl
  omega
theorem own_rem7 (x : Int32) : ∃ j : Nat, j ≤ 6 ∧ (x &&& (2147483647 : Int32)) % (7 : Int32) = Int32.ofNat j := by
  have h1 : (x &&& (2147483647 : Int32)).toInt = x.toInt % 2147483648 := c_mask x 2147483647 31 (by decide) (by decide)
  have h2 := (c_irem (x &&& (2147483647 : Int32)) 7 7 rfl).1 (by omega)
  refine ⟨((x &&& (2147483647 : Int32)) % (7 : Int32)).toInt.toNat, by omega, own_eqi ?_⟩
  rw [own_on (by omega)]
  omega
theorem own_ush1 (x : Int32) : ∃ m : Nat, m < 2147483648 ∧ (x.toUInt32 >>> ((1 : Int32) &&& 31).toUInt32).toInt32 = Int32.ofNat m := by
  have h := c_iushr x 1 1 (by decide) (by decide)
  have r := rng32 x
  refine ⟨((x.toUInt32 >>> ((1 : Int32) &&& 31).toUInt32).toInt32).toInt.toNat, by omega, own_eqi ?_⟩
  rw [own_on (by omega)]
  omega
theorem own_and15 (x : Int32) : ∃ m : Nat, m < 2147483648 ∧ x &&& (15 : Int32) = Int32.ofNat m := by
  have h1 : (x &&& (15 : Int32)).toInt = x.toInt % 16 := c_mask x 15 4 (by decide) (by decide)
  refine ⟨(x &&& (15 : Int32)).toInt.toNat, by omega, own_eqi ?_⟩
  rw [own_on (by omega)]
  omega
theorem own_min7 {m : Nat} (h : m < 2147483648) : (min m 7) < 2147483648 := by omega
theorem own_subN {a b : Nat} (h : b ≤ a) (ha : a < 2147483648) : Int32.ofNat a - Int32.ofNat b = Int32.ofNat (a - b) := by
  apply own_eqi
  have x := c_isub (Int32.ofNat a) (Int32.ofNat b)
  have y := rng32 (Int32.ofNat a - Int32.ofNat b)
  rw [own_on ha, own_on (by omega)] at x
  rw [own_on (by omega)]
  omega
abbrev own_msh : List Int32 := [77, 83, 72]
theorem own_sw1 {X : List Int32} {s : Nat} (h6 : X.length = 6) (hs : s + 3 ≤ 6) : ¬ (Int32.ofNat X.length - Int32.ofNat own_msh.length) < Int32.ofNat s := by
  rw [h6, own_subN (by decide) (by decide)]
  exact mt (own_lt (by decide) (by omega)).mp (by show ¬ 6 - 3 < s; omega)
theorem own_sw0 {X : List Int32} {s : Nat} (h6 : X.length = 6) (h : s ≤ 6) (hs : ¬ s + 3 ≤ 6) : (Int32.ofNat X.length - Int32.ofNat own_msh.length) < Int32.ofNat s := by
  rw [h6, own_subN (by decide) (by decide)]
  exact (own_lt (by decide) (by omega)).mpr (by show 6 - 3 < s; omega)
theorem own_G0b {T : List Int32} {f0 e0 : Nat} {hd : Bool} (h : f0 ≤ e0) (hh : hd = true → own_sep T f0 e0 = f0 + 3 ∧ f0 + 4 ≤ e0) : f0 ≤ own_G T f0 e0 hd 0 ∧ own_G T f0 e0 hd 0 ≤ e0 := by
  cases hd with
  | false => exact own_sep_b h
  | true =>
    have := hh rfl
    show f0 ≤ f0 + 3 ∧ f0 + 3 ≤ e0
    omega
theorem own_GsF {T : List Int32} {f0 e0 i v : Nat} (hv : v = own_G T f0 e0 false i) (hne : v < e0) : own_sep T (v + 1) e0 = own_G T f0 e0 false (i + 1) := by
  show _ = own_st T e0 (own_it T e0 i (own_sep T f0 e0))
  rw [show own_it T e0 i (own_sep T f0 e0) = v from hv.symm, own_st, if_neg (by omega)]
theorem own_GsT {T : List Int32} {f0 e0 i v : Nat} (hi : 2 ≤ i) (hv : v = own_G T f0 e0 true i) (hne : v < e0) : own_sep T (v + 1) e0 = own_G T f0 e0 true (i + 1) := by
  obtain ⟨k, rfl⟩ : ∃ k, i = k + 2 := ⟨i - 2, by omega⟩
  have hv' : v = own_it T e0 k (own_sep T (f0 + 4) e0) := by
    have q : v = (if k + 2 = 0 then f0 + 3 else if k + 2 = 1 then f0 + 4 else own_it T e0 (k + 2 - 2) (own_sep T (f0 + 4) e0)) := hv
    rw [if_neg (by omega), if_neg (by omega)] at q
    exact q
  show _ = (if k + 2 + 1 = 0 then f0 + 3 else if k + 2 + 1 = 1 then f0 + 4 else own_it T e0 (k + 2 + 1 - 2) (own_sep T (f0 + 4) e0))
  rw [if_neg (by omega), if_neg (by omega), show k + 2 + 1 - 2 = k + 1 by omega, own_it, ← hv', own_st, if_neg (by omega)]
theorem own_wk {T : List Int32} {e p k j : Nat} (h : k = j) : own_it T e k p = own_it T e j p := by rw [h]
abbrev own_enc : List Int32 := [94, 126, 92, 38]
theorem ef_s_cod (m : MethodId) (x0 : Addr) : entryFrame m #[(.ref x0)] 1 = mkF m 0 #[.val (.ref x0)] [] := by first | (simp [entryFrame, mkF, argsToLocals, Value.category]; done) | rfl
abbrev b_s_cod : Bdy := ((⟨"java/lang/String", "coder", "()B"⟩ : MethodName), jdk_42_method_152_code, 1, (Option.some Jvm.ClassFile.FieldType.byte), ({ frames := 0, cells := 0, slots := 0, locals := 0 } : Room))
def Q_s_cod (Z : State) (N : Nat) (a : Addr) (cs : Int32) (h0 : Heap) (I : Lts) (v : Option Value) (h : Heap) (J : Lts) : Prop := I = J ∧ v = some (.int (0 : Int32)) ∧ h0 = h
set_option maxRecDepth 65536 in
set_option maxHeartbeats 40000000 in
theorem rm_s_cod {l : Launch} {Z : State} {a0 : Array Value} {N : Nat} (hw : ∀ d ∈ tables_1, d.before a0 Z = true) (a : Addr) (cs : Int32) (h0 : Heap) (I : Lts) (P0 : Sta Z Z.heap "java/lang/String" "COMPACT_STRINGS" "Z" (.int cs)) (G_cs : ¬ cs = (0 : Int32)) (P2 : Fld Z h0 a "java/lang/String" "coder" "B" (.int (0 : Int32))) :
    Cn l Z N b_s_cod #[(.ref a)] h0 I (Q_s_cod Z N a cs h0 I) := by
  refine Cn.of_wk (Ls := #[.val (.ref a)]) (plainFor_of_name (by first | (simp [plainName, overriddenIn]; done) | decide +kernel)) (fun m => ef_s_cod m a) ?_
  refine Wk.getS (a0 := a0) (pc' := 3) (host := "") (Or.inl (w57 hw)) Via.refl P0 d18_0 rfl ?_
  refine Wk.if_eqN (pc' := 6) d18_3 rfl G_cs ?_
  refine Wk.aloadN (pc' := 7) d18_6 rfl rfl rfl ?_
  refine Wk.getF (a0 := a0) (pc' := 10) (host := "") (Or.inl (w68 hw)) Via.refl P2 d18_7 rfl ?_
  refine Wk.goto (pc' := 14) d18_10 (by decide) ?_
  exact Wk.zreturn rfl (by simp) d18_14 (Nat.le_of_ble_eq_true rfl) (Nat.le_of_ble_eq_true rfl) ⟨rfl, rfl, rfl⟩
theorem ef_s_len (m : MethodId) (x0 : Addr) : entryFrame m #[(.ref x0)] 1 = mkF m 0 #[.val (.ref x0)] [] := by first | (simp [entryFrame, mkF, argsToLocals, Value.category]; done) | rfl
abbrev b_s_len : Bdy := ((⟨"java/lang/String", "length", "()I"⟩ : MethodName), jdk_42_method_54_code, 1, (Option.some Jvm.ClassFile.FieldType.int), ({ frames := 1, cells := 0, slots := 0, locals := 13 } : Room))
def Q_s_len (Z : State) (N : Nat) (a : Addr) (v' : Addr) (q : ClassId) (cl : List Int32) (cs : Int32) (h0 : Heap) (I : Lts) (v : Option Value) (h : Heap) (J : Lts) : Prop := I = J ∧ v = some (.int (Int32.ofNat cl.length)) ∧ h0 = h
set_option maxRecDepth 65536 in
set_option maxHeartbeats 40000000 in
theorem rm_s_len {l : Launch} {Z : State} {a0 : Array Value} {N : Nat} (hw : ∀ d ∈ tables_1, d.before a0 Z = true) (a : Addr) (v' : Addr) (q : ClassId) (cl : List Int32) (cs : Int32) (h0 : Heap) (I : Lts) (P0 : Sta Z Z.heap "java/lang/String" "COMPACT_STRINGS" "Z" (.int cs)) (G_cs : ¬ cs = (0 : Int32)) (P2 : Exa Z h0 a "java/lang/String") (P3 : Fld Z h0 a "java/lang/String" "value" "[B" (.ref v')) (P4 : Fld Z h0 a "java/lang/String" "coder" "B" (.int (0 : Int32))) (P5 : Arv Z h0 v' q .byte (Int32.ofNat cl.length) (cl.map own_by) (.int (0 : Int32))) :
    Cn l Z N b_s_len #[(.ref a)] h0 I (Q_s_len Z N a v' q cl cs h0 I) := by
  refine Cn.of_wk (Ls := #[.val (.ref a)]) (plainFor_of_name (by first | (simp [plainName, overriddenIn]; done) | decide +kernel)) (fun m => ef_s_len m a) ?_
  refine Wk.aloadN (pc' := 1) d17_0 rfl rfl rfl ?_
  refine Wk.getF (a0 := a0) (pc' := 4) (host := "") (Or.inl (w69 hw)) Via.refl P3 d17_1 rfl ?_
  refine Wk.arraylength (pc' := 5) P5 d17_4 rfl ?_
  refine Wk.aloadN (pc' := 6) d17_5 rfl rfl rfl ?_
  refine Wk.callV (a0 := a0) (pc' := 9) (k' := 0) (n' := 0) (W := 1) (b := b_s_cod) (argsL := []) (rest := [(.int (Int32.ofNat cl.length))]) (y := (⟨"java/lang/String", "coder", "()B"⟩ : MethodName)) (rm_s_cod hw a cs h0 I P0 G_cs P4) P2 (w90 hw) (w91 hw) (w93 hw) (w93 hw) (w92 hw) (w23 hw) (w94 hw) (by decide) (Nat.le_refl _) id (Nat.le_of_ble_eq_true rfl) (Nat.le_of_ble_eq_true rfl) rfl rfl (Nat.le_of_ble_eq_true rfl) (Nat.le_of_ble_eq_true rfl) rfl pd0 rfl rfl rfl (Nat.le_of_ble_eq_true rfl) d17_6 rfl fun v1 h2 J3 hs4 hQ5 => ?_
  obtain ⟨rfl, rfl, rfl⟩ := hQ5
  show Wk _ h0 0 0 I 9 #[.val (.ref a)] [(.int (0 : Int32)), (.int (Int32.ofNat cl.length))]
  refine Wk.ishr (pc' := 10) d17_9 rfl ?_
  exact Wk.ireturn rfl d17_10 (Nat.le_of_ble_eq_true rfl) (Nat.le_of_ble_eq_true rfl) ⟨rfl, (by rw [own_shr0]), rfl⟩
theorem ef_s_lat (m : MethodId) (x0 : Addr) : entryFrame m #[(.ref x0)] 1 = mkF m 0 #[.val (.ref x0)] [] := by first | (simp [entryFrame, mkF, argsToLocals, Value.category]; done) | rfl
abbrev b_s_lat : Bdy := ((⟨"java/lang/String", "isLatin1", "()Z"⟩ : MethodName), jdk_42_method_154_code, 1, (Option.some Jvm.ClassFile.FieldType.boolean), ({ frames := 0, cells := 0, slots := 0, locals := 0 } : Room))
def Q_s_lat (Z : State) (N : Nat) (a : Addr) (cs : Int32) (h0 : Heap) (I : Lts) (v : Option Value) (h : Heap) (J : Lts) : Prop := I = J ∧ v = some (.int (1 : Int32)) ∧ h0 = h
set_option maxRecDepth 65536 in
set_option maxHeartbeats 40000000 in
theorem rm_s_lat {l : Launch} {Z : State} {a0 : Array Value} {N : Nat} (hw : ∀ d ∈ tables_1, d.before a0 Z = true) (a : Addr) (cs : Int32) (h0 : Heap) (I : Lts) (P0 : Sta Z Z.heap "java/lang/String" "COMPACT_STRINGS" "Z" (.int cs)) (G_cs : ¬ cs = (0 : Int32)) (P2 : Fld Z h0 a "java/lang/String" "coder" "B" (.int (0 : Int32))) :
    Cn l Z N b_s_lat #[(.ref a)] h0 I (Q_s_lat Z N a cs h0 I) := by
  refine Cn.of_wk (Ls := #[.val (.ref a)]) (plainFor_of_name (by first | (simp [plainName, overriddenIn]; done) | decide +kernel)) (fun m => ef_s_lat m a) ?_
  refine Wk.getS (a0 := a0) (pc' := 3) (host := "") (Or.inl (w57 hw)) Via.refl P0 d24_0 rfl ?_
  refine Wk.if_eqN (pc' := 6) d24_3 rfl G_cs ?_
  refine Wk.aloadN (pc' := 7) d24_6 rfl rfl rfl ?_
  refine Wk.getF (a0 := a0) (pc' := 10) (host := "") (Or.inl (w68 hw)) Via.refl P2 d24_7 rfl ?_
  refine Wk.if_neN (pc' := 13) d24_10 rfl rfl ?_
  refine Wk.iconst (pc' := 14) (v := 1) d24_13 rfl rfl ?_
  refine Wk.goto (pc' := 18) d24_14 (by decide) ?_
  exact Wk.zreturn rfl (by simp) d24_18 (Nat.le_of_ble_eq_true rfl) (Nat.le_of_ble_eq_true rfl) ⟨rfl, rfl, rfl⟩
theorem ef_s_chk (m : MethodId) (x0 : Int32) (x1 : Int32) (x2 : Value) (r2 : x2.isRef = true) : entryFrame m #[(.int x0), (.int x1), x2] 3 = mkF m 0 #[.val (.int x0), .val (.int x1), .val x2] [] := by
  cases x2 <;> first | (simp [Value.isRef] at r2; done) | (simp [entryFrame, mkF, argsToLocals, Value.category]; done) | rfl
abbrev b_s_chk : Bdy := ((⟨"jdk/internal/util/Preconditions", "checkIndex", "(IILjava/util/function/BiFunction;)I"⟩ : MethodName), jdk_41_method_11_code, 3, (Option.some Jvm.ClassFile.FieldType.int), ({ frames := 0, cells := 0, slots := 0, locals := 0 } : Room))
def Q_s_chk (Z : State) (N : Nat) (i : Int32) (n : Int32) (sf : Value) (h0 : Heap) (I : Lts) (v : Option Value) (h : Heap) (J : Lts) : Prop := I = J ∧ v = some (.int i) ∧ h0 = h
set_option maxRecDepth 65536 in
set_option maxHeartbeats 40000000 in
theorem rm_s_chk {l : Launch} {Z : State} {a0 : Array Value} {N : Nat} (hw : ∀ d ∈ tables_1, d.before a0 Z = true) (i : Int32) (n : Int32) (sf : Value) (h0 : Heap) (I : Lts) (G_sf : sf.isRef = true) (h1 : ¬ i < (0 : Int32)) (h2 : i < n) :
    Cn l Z N b_s_chk #[(.int i), (.int n), sf] h0 I (Q_s_chk Z N i n sf h0 I) := by
  refine Cn.of_wk (Ls := #[.val (.int i), .val (.int n), .val sf]) (plainFor_of_name (by first | (simp [plainName, overriddenIn]; done) | decide +kernel)) (fun m => ef_s_chk m i n sf G_sf) ?_
  refine Wk.iloadN (pc' := 1) d31_0 rfl rfl ?_
  refine Wk.if_ltN (pc' := 4) d31_1 rfl h1 ?_
  refine Wk.iloadN (pc' := 5) d31_4 rfl rfl ?_
  refine Wk.iloadN (pc' := 6) d31_5 rfl rfl ?_
  refine Wk.icmp_ltY (pc' := 16) d31_6 (by decide) h2 ?_
  refine Wk.iloadN (pc' := 17) d31_16 rfl rfl ?_
  exact Wk.ireturn rfl d31_17 (Nat.le_of_ble_eq_true rfl) (Nat.le_of_ble_eq_true rfl) ⟨rfl, rfl, rfl⟩
theorem ef_s_chk2 (m : MethodId) (x0 : Int32) (x1 : Int32) : entryFrame m #[(.int x0), (.int x1)] 2 = mkF m 0 #[.val (.int x0), .val (.int x1)] [] := by first | (simp [entryFrame, mkF, argsToLocals, Value.category]; done) | rfl
abbrev b_s_chk2 : Bdy := ((⟨"java/lang/String", "checkIndex", "(II)V"⟩ : MethodName), jdk_42_method_155_code, 2, (Option.none : Option Jvm.ClassFile.FieldType), ({ frames := 1, cells := 0, slots := 0, locals := 14 } : Room))
def Q_s_chk2 (Z : State) (N : Nat) (i : Int32) (n : Int32) (sf : Value) (h0 : Heap) (I : Lts) (v : Option Value) (h : Heap) (J : Lts) : Prop := I = J ∧ v = none ∧ h0 = h
set_option maxRecDepth 65536 in
set_option maxHeartbeats 40000000 in
theorem rm_s_chk2 {l : Launch} {Z : State} {a0 : Array Value} {N : Nat} (hw : ∀ d ∈ tables_1, d.before a0 Z = true) (i : Int32) (n : Int32) (sf : Value) (h0 : Heap) (I : Lts) (P0 : Sta Z Z.heap "jdk/internal/util/Preconditions" "SIOOBE_FORMATTER" "Ljava/util/function/BiFunction;" sf) (G_sf : sf.isRef = true) (h1 : ¬ i < (0 : Int32)) (h2 : i < n) :
    Cn l Z N b_s_chk2 #[(.int i), (.int n)] h0 I (Q_s_chk2 Z N i n sf h0 I) := by
  refine Cn.of_wk (Ls := #[.val (.int i), .val (.int n)]) (plainFor_of_name (by first | (simp [plainName, overriddenIn]; done) | decide +kernel)) (fun m => ef_s_chk2 m i n) ?_
  refine Wk.iloadN (pc' := 1) d30_0 rfl rfl ?_
  refine Wk.iloadN (pc' := 2) d30_1 rfl rfl ?_
  refine Wk.getS (a0 := a0) (pc' := 5) (host := "") (Or.inl (w119 hw)) Via.refl P0 d30_2 rfl ?_
  refine Wk.callS (a0 := a0) (pc' := 8) (k' := 0) (n' := 0) (W := 0) (b := b_s_chk) (argsL := [(.int i), (.int n), sf]) (rest := []) (rm_s_chk hw i n sf h0 I G_sf h1 h2) (w155 hw) (w156 hw) (w120 hw) (w157 hw) (by decide) (Nat.le_refl _) id (Nat.le_of_ble_eq_true rfl) (Nat.le_of_ble_eq_true rfl) rfl rfl (Nat.le_of_ble_eq_true rfl) (Nat.le_of_ble_eq_true rfl) rfl pd1 rfl rfl rfl (Nat.le_of_ble_eq_true rfl) d30_5 rfl fun v1 h2 J3 hs4 hQ5 => ?_
  obtain ⟨rfl, rfl, rfl⟩ := hQ5
  show Wk _ h0 0 0 I 8 #[.val (.int i), .val (.int n)] [(.int i)]
  refine Wk.pop (pc' := 9) d30_8 rfl rfl ?_
  exact Wk.return_ rfl d30_9 (Nat.le_of_ble_eq_true rfl) (Nat.le_of_ble_eq_true rfl) ⟨rfl, rfl, rfl⟩
theorem ef_s_cha (m : MethodId) (x0 : Addr) (x1 : Int32) : entryFrame m #[(.ref x0), (.int x1)] 2 = mkF m 0 #[.val (.ref x0), .val (.int x1)] [] := by first | (simp [entryFrame, mkF, argsToLocals, Value.category]; done) | rfl
abbrev b_s_cha : Bdy := ((⟨"java/lang/StringLatin1", "charAt", "([BI)C"⟩ : MethodName), jdk_43_method_2_code, 2, (Option.some Jvm.ClassFile.FieldType.char), ({ frames := 2, cells := 0, slots := 0, locals := 27 } : Room))
def Q_s_cha (Z : State) (N : Nat) (v' : Addr) (q : ClassId) (cl : List Int32) (i : Nat) (sf : Value) (h0 : Heap) (I : Lts) (v : Option Value) (h : Heap) (J : Lts) : Prop := I = J ∧ v = some (.int (cl.getD i 0)) ∧ h0 = h
set_option maxRecDepth 65536 in
set_option maxHeartbeats 40000000 in
theorem rm_s_cha {l : Launch} {Z : State} {a0 : Array Value} {N : Nat} (hw : ∀ d ∈ tables_1, d.before a0 Z = true) (v' : Addr) (q : ClassId) (cl : List Int32) (i : Nat) (sf : Value) (h0 : Heap) (I : Lts) (P0 : Sta Z Z.heap "jdk/internal/util/Preconditions" "SIOOBE_FORMATTER" "Ljava/util/function/BiFunction;" sf) (G_sf : sf.isRef = true) (P2 : Arv Z h0 v' q .byte (Int32.ofNat cl.length) (cl.map own_by) (.int (0 : Int32))) (hi : i < cl.length) (hn : cl.length < 2147483648) (hL : own_L cl) :
    Cn l Z N b_s_cha #[(.ref v'), (.int (Int32.ofNat i))] h0 I (Q_s_cha Z N v' q cl i sf h0 I) := by
  refine Cn.of_wk (Ls := #[.val (.ref v'), .val (.int (Int32.ofNat i))]) (plainFor_of_name (by first | (simp [plainName, overriddenIn]; done) | decide +kernel)) (fun m => ef_s_cha m v' (Int32.ofNat i)) ?_
  refine Wk.iloadN (pc' := 1) d29_0 rfl rfl ?_
  refine Wk.aloadN (pc' := 2) d29_1 rfl rfl rfl ?_
  refine Wk.arraylength (pc' := 3) P2 d29_2 rfl ?_
  refine Wk.callS (a0 := a0) (pc' := 6) (k' := 0) (n' := 0) (W := 0) (b := b_s_chk2) (argsL := [(.int (Int32.ofNat i)), (.int (Int32.ofNat cl.length))]) (rest := []) (rm_s_chk2 hw (Int32.ofNat i) (Int32.ofNat cl.length) sf h0 I P0 G_sf (own_idx hi hn).1 (own_idx hi hn).2) (w152 hw) (w153 hw) (w23 hw) (w154 hw) (by decide) (Nat.le_refl _) id (Nat.le_of_ble_eq_true rfl) (Nat.le_of_ble_eq_true rfl) rfl rfl (Nat.le_of_ble_eq_true rfl) (Nat.le_of_ble_eq_true rfl) rfl pd2 rfl rfl rfl (Nat.le_of_ble_eq_true rfl) d29_3 rfl fun v1 h2 J3 hs4 hQ5 => ?_
  obtain ⟨rfl, rfl, rfl⟩ := hQ5
  show Wk _ h0 0 0 I 6 #[.val (.ref v'), .val (.int (Int32.ofNat i))] []
  refine Wk.aloadN (pc' := 7) d29_6 rfl rfl rfl ?_
  refine Wk.iloadN (pc' := 8) d29_7 rfl rfl ?_
  refine Wk.baload (pc' := 9) (v := (.int (own_b8 (cl.getD i 0)))) P2 (own_idx hi hn) (by rw [own_clamp (by omega)]; exact own_getb cl i) d29_8 rfl ?_
  refine Wk.sipush (pc' := 12) (v := 255) d29_9 rfl rfl ?_
  refine Wk.iand (pc' := 13) d29_12 rfl ?_
  refine Wk.i2c (pc' := 14) d29_13 rfl ?_
  exact Wk.zreturn rfl (by simp) d29_14 (Nat.le_of_ble_eq_true rfl) (Nat.le_of_ble_eq_true rfl) ⟨rfl, (by rw [own_cb (own_Lget hL i)]), rfl⟩
theorem ef_s_chr (m : MethodId) (x0 : Addr) (x1 : Int32) : entryFrame m #[(.ref x0), (.int x1)] 2 = mkF m 0 #[.val (.ref x0), .val (.int x1)] [] := by first | (simp [entryFrame, mkF, argsToLocals, Value.category]; done) | rfl
abbrev b_s_chr : Bdy := ((⟨"java/lang/String", "charAt", "(I)C"⟩ : MethodName), jdk_42_method_56_code, 2, (Option.some Jvm.ClassFile.FieldType.char), ({ frames := 3, cells := 0, slots := 0, locals := 40 } : Room))
def Q_s_chr (Z : State) (N : Nat) (a : Addr) (v' : Addr) (q : ClassId) (cl : List Int32) (i : Nat) (sf : Value) (cs : Int32) (h0 : Heap) (I : Lts) (v : Option Value) (h : Heap) (J : Lts) : Prop := I = J ∧ v = some (.int (cl.getD i 0)) ∧ h0 = h
set_option maxRecDepth 65536 in
set_option maxHeartbeats 40000000 in
theorem rm_s_chr {l : Launch} {Z : State} {a0 : Array Value} {N : Nat} (hw : ∀ d ∈ tables_1, d.before a0 Z = true) (a : Addr) (v' : Addr) (q : ClassId) (cl : List Int32) (i : Nat) (sf : Value) (cs : Int32) (h0 : Heap) (I : Lts) (P0 : Sta Z Z.heap "java/lang/String" "COMPACT_STRINGS" "Z" (.int cs)) (G_cs : ¬ cs = (0 : Int32)) (P2 : Sta Z Z.heap "jdk/internal/util/Preconditions" "SIOOBE_FORMATTER" "Ljava/util/function/BiFunction;" sf) (G_sf : sf.isRef = true) (P4 : Exa Z h0 a "java/lang/String") (P5 : Fld Z h0 a "java/lang/String" "value" "[B" (.ref v')) (P6 : Fld Z h0 a "java/lang/String" "coder" "B" (.int (0 : Int32))) (P7 : Arv Z h0 v' q .byte (Int32.ofNat cl.length) (cl.map own_by) (.int (0 : Int32))) (hi : i < cl.length) (hn : cl.length < 2147483648) (hL : own_L cl) :
    Cn l Z N b_s_chr #[(.ref a), (.int (Int32.ofNat i))] h0 I (Q_s_chr Z N a v' q cl i sf cs h0 I) := by
  refine Cn.of_wk (Ls := #[.val (.ref a), .val (.int (Int32.ofNat i))]) (plainFor_of_name (by first | (simp [plainName, overriddenIn]; done) | decide +kernel)) (fun m => ef_s_chr m a (Int32.ofNat i)) ?_
  refine Wk.aloadN (pc' := 1) d28_0 rfl rfl rfl ?_
  refine Wk.callV (a0 := a0) (pc' := 4) (k' := 0) (n' := 0) (W := 0) (b := b_s_lat) (argsL := []) (rest := []) (y := (⟨"java/lang/String", "isLatin1", "()Z"⟩ : MethodName)) (rm_s_lat hw a cs h0 I P0 G_cs P6) P4 (w124 hw) (w125 hw) (w127 hw) (w127 hw) (w126 hw) (w23 hw) (w128 hw) (by decide) (Nat.le_refl _) id (Nat.le_of_ble_eq_true rfl) (Nat.le_of_ble_eq_true rfl) rfl rfl (Nat.le_of_ble_eq_true rfl) (Nat.le_of_ble_eq_true rfl) rfl pd3 rfl rfl rfl (Nat.le_of_ble_eq_true rfl) d28_1 rfl fun v1 h2 J3 hs4 hQ5 => ?_
  obtain ⟨rfl, rfl, rfl⟩ := hQ5
  show Wk _ h0 0 0 I 4 #[.val (.ref a), .val (.int (Int32.ofNat i))] [(.int (1 : Int32))]
  refine Wk.if_eqN (pc' := 7) d28_4 rfl (by decide) ?_
  refine Wk.aloadN (pc' := 8) d28_7 rfl rfl rfl ?_
  refine Wk.getF (a0 := a0) (pc' := 11) (host := "") (Or.inl (w69 hw)) Via.refl P5 d28_8 rfl ?_
  refine Wk.iloadN (pc' := 12) d28_11 rfl rfl ?_
  refine Wk.callS (a0 := a0) (pc' := 15) (k' := 0) (n' := 0) (W := 0) (b := b_s_cha) (argsL := [(.ref v'), (.int (Int32.ofNat i))]) (rest := []) (rm_s_cha hw v' q cl i sf h0 I P2 G_sf P7 hi hn hL) (w149 hw) (w150 hw) (w131 hw) (w151 hw) (by decide) (Nat.le_refl _) id (Nat.le_of_ble_eq_true rfl) (Nat.le_of_ble_eq_true rfl) rfl rfl (Nat.le_of_ble_eq_true rfl) (Nat.le_of_ble_eq_true rfl) rfl pd4 rfl rfl rfl (Nat.le_of_ble_eq_true rfl) d28_12 rfl fun v6 h7 J8 hs9 hQ10 => ?_
  obtain ⟨rfl, rfl, rfl⟩ := hQ10
  show Wk _ h0 0 0 I 15 #[.val (.ref a), .val (.int (Int32.ofNat i))] [(.int (cl.getD i 0))]
  exact Wk.zreturn rfl (by simp) d28_15 (Nat.le_of_ble_eq_true rfl) (Nat.le_of_ble_eq_true rfl) ⟨rfl, (by rw [own_nc (own_Lget hL i)]), rfl⟩
theorem ef_s_cm5 (m : MethodId) (x0 : Addr) (x1 : Int32) (x2 : Addr) (x3 : Int32) (x4 : Int32) : entryFrame m #[(.ref x0), (.int x1), (.ref x2), (.int x3), (.int x4)] 7 = mkF m 0 #[.val (.ref x0), .val (.int x1), .val (.ref x2), .val (.int x3), .val (.int x4), .unset, .unset] [] := by first | (simp [entryFrame, mkF, argsToLocals, Value.category]; done) | rfl
abbrev b_s_cm5 : Bdy := ((⟨"java/lang/StringUTF16", "compress", "([CI[BII)I"⟩ : MethodName), jdk_52_method_21_code, 7, (Option.some Jvm.ClassFile.FieldType.int), ({ frames := 0, cells := 0, slots := 0, locals := 0 } : Room))
def Q_s_cm5 (Z : State) (N : Nat) (c : Addr) (b : Addr) (q : ClassId) (qb : ClassId) (cl : List Int32) (h0 : Heap) (I : Lts) (v : Option Value) (h : Heap) (J : Lts) : Prop := I = J ∧ v = some (.int (Int32.ofNat cl.length)) ∧ Keep h0 h [b] ∧ Arv Z h b qb .byte (Int32.ofNat cl.length) (cl.map own_by) (.int (0 : Int32))
set_option maxRecDepth 65536 in
set_option maxHeartbeats 40000000 in
theorem rm_s_cm5 {l : Launch} {Z : State} {a0 : Array Value} {N : Nat} (hw : ∀ d ∈ tables_1, d.before a0 Z = true) (c : Addr) (b : Addr) (q : ClassId) (qb : ClassId) (cl : List Int32) (h0 : Heap) (I : Lts) (P0 : Arv Z h0 c q .char (Int32.ofNat cl.length) (cl.map Value.int) (.int (0 : Int32))) (P1 : Arv Z h0 b qb .byte (Int32.ofNat cl.length) (own_fill cl 0) (.int (0 : Int32))) (P2 : N ≤ b) (P3 : c ≠ b) (hn : cl.length < 2147483647) (hL : own_L cl) :
    Cn l Z N b_s_cm5 #[(.ref c), (.int (0 : Int32)), (.ref b), (.int (0 : Int32)), (.int (Int32.ofNat cl.length))] h0 I (Q_s_cm5 Z N c b q qb cl h0 I) := by
  refine Cn.of_wk (Ls := #[.val (.ref c), .val (.int (0 : Int32)), .val (.ref b), .val (.int (0 : Int32)), .val (.int (Int32.ofNat cl.length)), .unset, .unset]) (plainFor_of_name (by first | (simp [plainName, overriddenIn]; done) | decide +kernel)) (fun m => ef_s_cm5 m c (0 : Int32) b (0 : Int32) (Int32.ofNat cl.length)) ?_
  refine Wk.iconst (pc' := 1) (v := 0) d12_0 rfl rfl ?_
  refine Wk.istore (pc' := 3) #[.val (.ref c), .val (.int (0 : Int32)), .val (.ref b), .val (.int (0 : Int32)), .val (.int (Int32.ofNat cl.length)), .val (.int (0 : Int32)), .unset] d12_1 rfl rfl ?_
  have loop : ∀ (d : Nat) (i : Nat) (s6 : Slot) (hX1 : Heap), (Arv Z hX1 b qb .byte (Int32.ofNat cl.length) (own_fill cl i) (.int (0 : Int32))) → (i + d = cl.length) → ((s6 = .unset ∨ ∃ z : Int32, s6 = .val (.int z))) → (Keep h0 hX1 [b]) → Wk (l, Z, N, h0.size, b_s_cm5, Q_s_cm5 Z N c b q qb cl h0 I) hX1 0 0 I 3 #[.val (.ref c), .val (.int (Int32.ofNat i)), .val (.ref b), .val (.int (Int32.ofNat i)), .val (.int (Int32.ofNat cl.length)), .val (.int (Int32.ofNat i)), s6] [] := by
    intro d
    induction d with
    | zero =>
      intro i s6 hX1 y2 hi hs6 K3
      refine Wk.iload (pc' := 5) d12_3 rfl rfl ?_
      refine Wk.iload (pc' := 7) d12_5 rfl rfl ?_
      refine Wk.icmp_geY (pc' := 44) d12_7 (by decide) (mt (own_lt (by omega) (by omega)).mp (by omega)) ?_
      have A4 : Arv Z hX1 b qb .byte (Int32.ofNat cl.length) (cl.map own_by) (.int (0 : Int32)) := by
        have q := y2
        rw [show i = cl.length from by omega, own_filln] at q
        exact q
      refine Wk.iload (pc' := 46) d12_44 rfl rfl ?_
      exact Wk.ireturn rfl d12_46 (Nat.le_of_ble_eq_true rfl) (Nat.le_of_ble_eq_true rfl) ⟨rfl, rfl, ((Keep.refl h0 [b]).trans K3 (allS (Or.inl (by simp)) all0)), A4⟩
    | succ d ih =>
      intro i s6 hX1 y2 hi hs6 K3
      refine Wk.iload (pc' := 5) d12_3 rfl rfl ?_
      refine Wk.iload (pc' := 7) d12_5 rfl rfl ?_
      refine Wk.icmp_geN (pc' := 10) d12_7 rfl ((own_lt (by omega) (by omega)).mpr (by omega)) ?_
      refine Wk.aloadN (pc' := 11) d12_10 rfl rfl rfl ?_
      refine Wk.iloadN (pc' := 12) d12_11 rfl rfl ?_
      have f5 := (P0.keep K3 (ninS P3 nin0))
      refine Wk.caload (pc' := 13) (v := (.int (cl.getD i 0))) f5 (own_in (by omega) (by omega)) (by rw [own_clamp (by omega)]; exact own_geti cl i) d12_12 rfl ?_
      refine Wk.istore (pc' := 15) #[.val (.ref c), .val (.int (Int32.ofNat i)), .val (.ref b), .val (.int (Int32.ofNat i)), .val (.int (Int32.ofNat cl.length)), .val (.int (Int32.ofNat i)), .val (.int (cl.getD i 0))] d12_13 rfl (by rcases hs6 with rfl | ⟨z, rfl⟩ <;> rfl) ?_
      refine Wk.iload (pc' := 17) d12_15 rfl rfl ?_
      refine Wk.sipush (pc' := 20) (v := 255) d12_17 rfl rfl ?_
      refine Wk.icmp_leY (pc' := 26) d12_20 (by decide) (own_Lget hL i).2 ?_
      refine Wk.aloadN (pc' := 27) d12_26 rfl rfl rfl ?_
      refine Wk.iloadN (pc' := 28) d12_27 rfl rfl ?_
      refine Wk.iload (pc' := 30) d12_28 rfl rfl ?_
      refine Wk.i2b (pc' := 31) d12_30 rfl ?_
      refine Wk.bastore (pc' := 32) y2 P2 (own_in (by omega) (by omega)) i (own_clamp (by omega)) (by rw [own_fill_len (by omega)]; omega) d12_31 rfl fun h6 W7 A8 => ?_
      have A9 : Arv Z h6 b qb .byte (Int32.ofNat cl.length) (own_fill cl (i + 1)) (.int (0 : Int32)) := by
        rw [← own_fill_set cl i (by omega), show own_by (cl.getD i 0) = .int (nar .byte (own_b8 (cl.getD i 0))) from by rw [own_nb]; rfl]
        exact A8
      refine Wk.iinc (pc' := 35) (v := 1) (Ls' := #[.val (.ref c), .val (.int ((Int32.ofNat i) + (1 : Int32))), .val (.ref b), .val (.int (Int32.ofNat i)), .val (.int (Int32.ofNat cl.length)), .val (.int (Int32.ofNat i)), .val (.int (cl.getD i 0))]) d12_32 rfl rfl rfl rfl ?_
      refine Wk.iinc (pc' := 38) (v := 1) (Ls' := #[.val (.ref c), .val (.int ((Int32.ofNat i) + (1 : Int32))), .val (.ref b), .val (.int ((Int32.ofNat i) + (1 : Int32))), .val (.int (Int32.ofNat cl.length)), .val (.int (Int32.ofNat i)), .val (.int (cl.getD i 0))]) d12_35 rfl rfl rfl rfl ?_
      refine Wk.iinc (pc' := 41) (v := 1) (Ls' := #[.val (.ref c), .val (.int ((Int32.ofNat i) + (1 : Int32))), .val (.ref b), .val (.int ((Int32.ofNat i) + (1 : Int32))), .val (.int (Int32.ofNat cl.length)), .val (.int ((Int32.ofNat i) + (1 : Int32))), .val (.int (cl.getD i 0))]) d12_38 rfl rfl rfl rfl ?_
      rw [own_succ (by omega)]
      refine Wk.goto (pc' := 3) d12_41 (by decide) ?_
      exact ih (i + 1) _ h6 A9 (by omega) (Or.inr ⟨_, rfl⟩) (((Keep.refl h0 [b]).trans K3 (allS (Or.inl (by simp)) all0)).wr W7 (Or.inl (by simp)))
  exact loop cl.length 0 _ h0 P1 (by omega) (Or.inl rfl) (Keep.refl h0 [b])
theorem ef_s_cm3 (m : MethodId) (x0 : Addr) (x1 : Int32) (x2 : Int32) : entryFrame m #[(.ref x0), (.int x1), (.int x2)] 6 = mkF m 0 #[.val (.ref x0), .val (.int x1), .val (.int x2), .unset, .unset, .unset] [] := by first | (simp [entryFrame, mkF, argsToLocals, Value.category]; done) | rfl
abbrev b_s_cm3 : Bdy := ((⟨"java/lang/StringUTF16", "compress", "([CII)[B"⟩ : MethodName), jdk_52_method_16_code, 6, (Option.some (Jvm.ClassFile.FieldType.array Jvm.ClassFile.FieldType.byte)), ({ frames := 1, cells := 1, slots := 6, locals := 18 } : Room))
def Q_s_cm3 (Z : State) (N : Nat) (c : Addr) (q : ClassId) (cl : List Int32) (h0 : Heap) (I : Lts) (v : Option Value) (h : Heap) (J : Lts) : Prop := ∃ b : Addr, ∃ qb : ClassId, I = J ∧ v = some (.ref b) ∧ Ext h0 h ∧ h0.size ≤ b ∧ N ≤ b ∧ Arv Z h b qb .byte (Int32.ofNat cl.length) (cl.map own_by) (.int (0 : Int32))
set_option maxRecDepth 65536 in
set_option maxHeartbeats 40000000 in
theorem rm_s_cm3 {l : Launch} {Z : State} {a0 : Array Value} {N : Nat} (hw : ∀ d ∈ tables_1, d.before a0 Z = true) (c : Addr) (q : ClassId) (cl : List Int32) (h0 : Heap) (I : Lts) (P0 : Arv Z h0 c q .char (Int32.ofNat cl.length) (cl.map Value.int) (.int (0 : Int32))) (hn : cl.length ≤ 6) (hL : own_L cl) :
    Cn l Z N b_s_cm3 #[(.ref c), (.int (0 : Int32)), (.int (Int32.ofNat cl.length))] h0 I (Q_s_cm3 Z N c q cl h0 I) := by
  refine Cn.of_wk (Ls := #[.val (.ref c), .val (.int (0 : Int32)), .val (.int (Int32.ofNat cl.length)), .unset, .unset, .unset]) (plainFor_of_name (by first | (simp [plainName, overriddenIn]; done) | decide +kernel)) (fun m => ef_s_cm3 m c (0 : Int32) (Int32.ofNat cl.length)) ?_
  refine Wk.iloadN (pc' := 1) d11_0 rfl rfl ?_
  refine Wk.newP (a0 := a0) (aty := .byte) (pc' := 3) (k' := 1) (n' := 6) (cap := 6) (w25 hw) d11_1 rfl (own_in (n := 7) (by omega) (by decide)).1 (by rw [own_clamp (by omega)]; exact hn) (by decide) rfl rfl (Nat.le_of_ble_eq_true rfl) (Nat.le_of_ble_eq_true rfl) fun a1 h2 q3 hg4 hN5 E6 A7 => ?_
  have ne8 : c ≠ a1 := Nat.ne_of_lt (Nat.lt_of_lt_of_le P0.lt hg4)
  have A9 : Arv Z h2 a1 q3 .byte (Int32.ofNat cl.length) (own_fill cl 0) (.int (0 : Int32)) := by rw [own_fill0]; exact A7.pad (pad_rep [] _ cl.length)
  refine Wk.astoreN (pc' := 4) #[.val (.ref c), .val (.int (0 : Int32)), .val (.int (Int32.ofNat cl.length)), .val (.ref a1), .unset, .unset] d11_3 rfl rfl rfl ?_
  refine Wk.aloadN (pc' := 5) d11_4 rfl rfl rfl ?_
  refine Wk.iloadN (pc' := 6) d11_5 rfl rfl ?_
  refine Wk.aloadN (pc' := 7) d11_6 rfl rfl rfl ?_
  refine Wk.iconst (pc' := 8) (v := 0) d11_7 rfl rfl ?_
  refine Wk.iloadN (pc' := 9) d11_8 rfl rfl ?_
  have f10 := (P0.ext E6)
  refine Wk.callS (a0 := a0) (pc' := 12) (k' := 1) (n' := 6) (W := 0) (b := b_s_cm5) (argsL := [(.ref c), (.int (0 : Int32)), (.ref a1), (.int (0 : Int32)), (.int (Int32.ofNat cl.length))]) (rest := []) (rm_s_cm5 hw c a1 q q3 cl h2 I f10 A9 hN5 ne8 (by omega) hL) (w62 hw) (w63 hw) (w60 hw) (w64 hw) (by decide) (Nat.le_refl _) id (Nat.le_of_ble_eq_true rfl) (Nat.le_of_ble_eq_true rfl) rfl rfl (Nat.le_of_ble_eq_true rfl) (Nat.le_of_ble_eq_true rfl) rfl pd5 rfl rfl rfl (Nat.le_of_ble_eq_true rfl) d11_9 rfl fun v11 h12 J13 hs14 hQ15 => ?_
  obtain ⟨rfl, rfl, K16, g17⟩ := hQ15
  show Wk _ h12 1 6 I 12 #[.val (.ref c), .val (.int (0 : Int32)), .val (.int (Int32.ofNat cl.length)), .val (.ref a1), .unset, .unset] [(.int (Int32.ofNat cl.length))]
  refine Wk.istore (pc' := 14) #[.val (.ref c), .val (.int (0 : Int32)), .val (.int (Int32.ofNat cl.length)), .val (.ref a1), .val (.int (Int32.ofNat cl.length)), .unset] d11_12 rfl rfl ?_
  refine Wk.iload (pc' := 16) d11_14 rfl rfl ?_
  refine Wk.iloadN (pc' := 17) d11_16 rfl rfl ?_
  refine Wk.icmp_eqY (pc' := 57) d11_17 (by decide) rfl ?_
  refine Wk.aloadN (pc' := 58) d11_57 rfl rfl rfl ?_
  exact Wk.areturn rfl rfl rfl d11_58 (Nat.le_of_ble_eq_true rfl) (Nat.le_of_ble_eq_true rfl) ⟨a1, q3, rfl, rfl, (own_ext (((Keep.refl h0 []).ext E6).trans K16 (allS (Or.inr hg4) all0))), hg4, hN5, g17⟩
theorem ef_s_cfa (m : MethodId) (x0 : Addr) (x1 : Int32) : entryFrame m #[(.ref x0), (.int x1)] 2 = mkF m 0 #[.val (.ref x0), .val (.int x1)] [] := by first | (simp [entryFrame, mkF, argsToLocals, Value.category]; done) | rfl
abbrev b_s_cfa : Bdy := ((⟨"java/lang/StringUTF16", "coderFromArrayLen", "([BI)B"⟩ : MethodName), jdk_52_method_15_code, 2, (Option.some Jvm.ClassFile.FieldType.byte), ({ frames := 0, cells := 0, slots := 0, locals := 0 } : Room))
def Q_s_cfa (Z : State) (N : Nat) (b : Addr) (qb : ClassId) (cl : List Int32) (h0 : Heap) (I : Lts) (v : Option Value) (h : Heap) (J : Lts) : Prop := I = J ∧ v = some (.int (0 : Int32)) ∧ h0 = h
set_option maxRecDepth 65536 in
set_option maxHeartbeats 40000000 in
theorem rm_s_cfa {l : Launch} {Z : State} {a0 : Array Value} {N : Nat} (hw : ∀ d ∈ tables_1, d.before a0 Z = true) (b : Addr) (qb : ClassId) (cl : List Int32) (h0 : Heap) (I : Lts) (P0 : Arv Z h0 b qb .byte (Int32.ofNat cl.length) (cl.map own_by) (.int (0 : Int32))) :
    Cn l Z N b_s_cfa #[(.ref b), (.int (Int32.ofNat cl.length))] h0 I (Q_s_cfa Z N b qb cl h0 I) := by
  refine Cn.of_wk (Ls := #[.val (.ref b), .val (.int (Int32.ofNat cl.length))]) (plainFor_of_name (by first | (simp [plainName, overriddenIn]; done) | decide +kernel)) (fun m => ef_s_cfa m b (Int32.ofNat cl.length)) ?_
  refine Wk.iloadN (pc' := 1) d13_0 rfl rfl ?_
  refine Wk.aloadN (pc' := 2) d13_1 rfl rfl rfl ?_
  refine Wk.arraylength (pc' := 3) P0 d13_2 rfl ?_
  refine Wk.isub (pc' := 4) d13_3 rfl ?_
  refine Wk.bipush (pc' := 6) (v := 31) d13_4 rfl rfl ?_
  refine Wk.iushr (pc' := 7) d13_6 rfl ?_
  refine Wk.i2b (pc' := 8) d13_7 rfl ?_
  exact Wk.zreturn rfl (by simp) d13_8 (Nat.le_of_ble_eq_true rfl) (Nat.le_of_ble_eq_true rfl) ⟨rfl, (by rw [own_cfal]), rfl⟩
theorem ef_s_in5 (m : MethodId) (x0 : Addr) (x1 : Addr) (x2 : Int32) (x3 : Int32) : entryFrame m #[(.ref x0), (.ref x1), (.int x2), (.int x3), .null] 6 = mkF m 0 #[.val (.ref x0), .val (.ref x1), .val (.int x2), .val (.int x3), .val .null, .unset] [] := by first | (simp [entryFrame, mkF, argsToLocals, Value.category]; done) | rfl
abbrev b_s_in5 : Bdy := ((⟨"java/lang/String", "<init>", "([CIILjava/lang/Void;)V"⟩ : MethodName), jdk_42_method_149_code, 6, (Option.none : Option Jvm.ClassFile.FieldType), ({ frames := 2, cells := 1, slots := 6, locals := 35 } : Room))
def Q_s_in5 (Z : State) (N : Nat) (a : Addr) (c : Addr) (q : ClassId) (cl : List Int32) (cs : Int32) (h0 : Heap) (I : Lts) (v : Option Value) (h : Heap) (J : Lts) : Prop := ∃ v' : Addr, ∃ q' : ClassId, I = J ∧ v = none ∧ Keep h0 h [a] ∧ Fld Z h a "java/lang/String" "value" "[B" (.ref v') ∧ Fld Z h a "java/lang/String" "coder" "B" (.int (0 : Int32)) ∧ Arv Z h v' q' .byte (Int32.ofNat cl.length) (cl.map own_by) (.int (0 : Int32))
set_option maxRecDepth 65536 in
set_option maxHeartbeats 40000000 in
theorem rm_s_in5 {l : Launch} {Z : State} {a0 : Array Value} {N : Nat} (hw : ∀ d ∈ tables_1, d.before a0 Z = true) (a : Addr) (c : Addr) (q : ClassId) (cl : List Int32) (cs : Int32) (h0 : Heap) (I : Lts) (P0 : Sta Z Z.heap "java/lang/String" "COMPACT_STRINGS" "Z" (.int cs)) (G_cs : ¬ cs = (0 : Int32)) (P2 : Exa Z h0 a "java/lang/String") (P3 : Fld Z h0 a "java/lang/String" "value" "[B" .null) (P4 : Fld Z h0 a "java/lang/String" "coder" "B" (.int (0 : Int32))) (P5 : Arv Z h0 c q .char (Int32.ofNat cl.length) (cl.map Value.int) (.int (0 : Int32))) (P6 : N ≤ a) (hn : cl.length ≤ 6) (hL : own_L cl) (he : ¬ cl = []) :
    Cn l Z N b_s_in5 #[(.ref a), (.ref c), (.int (0 : Int32)), (.int (Int32.ofNat cl.length)), .null] h0 I (Q_s_in5 Z N a c q cl cs h0 I) := by
  refine Cn.of_wk (Ls := #[.val (.ref a), .val (.ref c), .val (.int (0 : Int32)), .val (.int (Int32.ofNat cl.length)), .val .null, .unset]) (plainFor_of_name (by first | (simp [plainName, overriddenIn]; done) | decide +kernel)) (fun m => ef_s_in5 m a c (0 : Int32) (Int32.ofNat cl.length)) ?_
  refine Wk.aloadN (pc' := 1) d10_0 rfl rfl rfl ?_
  refine Wk.initO (a0 := a0) (pc' := 4) (W := 0) (w56 hw) (w39 hw) (w40 hw) rfl d10_1 rfl (Nat.le_of_ble_eq_true rfl) (Nat.le_of_ble_eq_true rfl) (Nat.le_of_ble_eq_true rfl) ?_
  refine Wk.iloadN (pc' := 5) d10_4 rfl rfl ?_
  refine Wk.if_neY (pc' := 27) d10_5 (by decide) (fun q => he (List.length_eq_zero_iff.mp ((own_eq (j := 0) (by omega) (by decide)).mp q))) ?_
  refine Wk.getS (a0 := a0) (pc' := 30) (host := "") (Or.inl (w57 hw)) Via.refl P0 d10_27 rfl ?_
  refine Wk.if_eqN (pc' := 33) d10_30 rfl G_cs ?_
  refine Wk.aloadN (pc' := 34) d10_33 rfl rfl rfl ?_
  refine Wk.iloadN (pc' := 35) d10_34 rfl rfl ?_
  refine Wk.iloadN (pc' := 36) d10_35 rfl rfl ?_
  refine Wk.callS (a0 := a0) (pc' := 39) (k' := 1) (n' := 6) (W := 0) (b := b_s_cm3) (argsL := [(.ref c), (.int (0 : Int32)), (.int (Int32.ofNat cl.length))]) (rest := []) (rm_s_cm3 hw c q cl h0 I P5 hn hL) (w58 hw) (w59 hw) (w60 hw) (w61 hw) (by decide) (Nat.le_refl _) id (Nat.le_of_ble_eq_true rfl) (Nat.le_of_ble_eq_true rfl) rfl rfl (Nat.le_of_ble_eq_true rfl) (Nat.le_of_ble_eq_true rfl) rfl pd6 rfl rfl rfl (Nat.le_of_ble_eq_true rfl) d10_36 rfl fun v1 h2 J3 hs4 hQ5 => ?_
  obtain ⟨b6, qb7, rfl, rfl, E8, g9, g10, g11⟩ := hQ5
  have ne12 : a ≠ b6 := Nat.ne_of_lt (Nat.lt_of_lt_of_le P2.lt g9)
  have ne13 : c ≠ b6 := Nat.ne_of_lt (Nat.lt_of_lt_of_le P5.lt g9)
  show Wk _ h2 1 6 I 39 #[.val (.ref a), .val (.ref c), .val (.int (0 : Int32)), .val (.int (Int32.ofNat cl.length)), .val .null, .unset] [(.ref b6)]
  refine Wk.astore (pc' := 41) #[.val (.ref a), .val (.ref c), .val (.int (0 : Int32)), .val (.int (Int32.ofNat cl.length)), .val .null, .val (.ref b6)] d10_39 rfl rfl rfl ?_
  refine Wk.aloadN (pc' := 42) d10_41 rfl rfl rfl ?_
  refine Wk.aload (pc' := 44) d10_42 rfl rfl rfl ?_
  refine Wk.iloadN (pc' := 45) d10_44 rfl rfl ?_
  refine Wk.callS (a0 := a0) (pc' := 48) (k' := 1) (n' := 6) (W := 1) (b := b_s_cfa) (argsL := [(.ref b6), (.int (Int32.ofNat cl.length))]) (rest := [(.ref a)]) (rm_s_cfa hw b6 qb7 cl h2 I g11) (w65 hw) (w66 hw) (w60 hw) (w67 hw) (by decide) (Nat.le_refl _) id (Nat.le_of_ble_eq_true rfl) (Nat.le_of_ble_eq_true rfl) rfl rfl (Nat.le_of_ble_eq_true rfl) (Nat.le_of_ble_eq_true rfl) rfl pd7 rfl rfl rfl (Nat.le_of_ble_eq_true rfl) d10_45 rfl fun v14 h15 J16 hs17 hQ18 => ?_
  obtain ⟨rfl, rfl, rfl⟩ := hQ18
  show Wk _ h2 1 6 I 48 #[.val (.ref a), .val (.ref c), .val (.int (0 : Int32)), .val (.int (Int32.ofNat cl.length)), .val .null, .val (.ref b6)] [(.int (0 : Int32)), (.ref a)]
  have f19 := (P2.ext E8)
  have f20 := (P4.ext E8)
  refine Wk.putFN (a0 := a0) (pc' := 51) (v' := (.int (0 : Int32))) (w68 hw) Via.refl P6 f20 f19 (Or.inr ⟨(w27 hw), rfl, rfl⟩) (w24 hw) (ty := .byte) (by decide) rfl rfl d10_48 rfl fun h21 W22 => ?_
  have F23 := f20.same W22
  refine Wk.aloadN (pc' := 52) d10_51 rfl rfl rfl ?_
  refine Wk.aload (pc' := 54) d10_52 rfl rfl rfl ?_
  have f24 := (f19.wr W22)
  have f25 := ((P3.ext E8).other W22 (Or.inr (slot_ne (Or.inr (w26 hw)) (Or.inr (w27 hw)) (by decide) (t := (.array .byte)) (t' := .byte) (by decide) (by decide))))
  refine Wk.putF (a0 := a0) (pc' := 57) (host := "") (Or.inl (w69 hw)) Via.refl P6 f25 f24 (Or.inr ⟨(w26 hw), rfl, rfl⟩) (w24 hw) (ty := (.array .byte)) (by decide) rfl rfl d10_54 rfl fun h26 W27 => ?_
  have F28 := f25.same W27
  have f29 := ((g11.other W22 (Ne.symm ne12)).other W27 (Ne.symm ne12))
  have f30 := (F23.other W27 (Or.inr (slot_ne (Or.inr (w27 hw)) (Or.inr (w26 hw)) (by decide) (t := .byte) (t' := (.array .byte)) (by decide) (by decide))))
  exact Wk.return_ rfl d10_57 (Nat.le_of_ble_eq_true rfl) (Nat.le_of_ble_eq_true rfl) ⟨b6, qb7, rfl, rfl, ((((Keep.refl h0 [a]).ext E8).wr W22 (Or.inl (by simp))).wr W27 (Or.inl (by simp))), F28, f30, f29⟩
theorem ef_s_in1 (m : MethodId) (x0 : Addr) (x1 : Addr) : entryFrame m #[(.ref x0), (.ref x1)] 2 = mkF m 0 #[.val (.ref x0), .val (.ref x1)] [] := by first | (simp [entryFrame, mkF, argsToLocals, Value.category]; done) | rfl
abbrev b_s_in1 : Bdy := ((⟨"java/lang/String", "<init>", "([C)V"⟩ : MethodName), jdk_42_method_3_code, 2, (Option.none : Option Jvm.ClassFile.FieldType), ({ frames := 3, cells := 1, slots := 6, locals := 52 } : Room))
def Q_s_in1 (Z : State) (N : Nat) (a : Addr) (c : Addr) (q : ClassId) (cl : List Int32) (cs : Int32) (h0 : Heap) (I : Lts) (v : Option Value) (h : Heap) (J : Lts) : Prop := ∃ v' : Addr, ∃ q' : ClassId, I = J ∧ v = none ∧ Keep h0 h [a] ∧ Fld Z h a "java/lang/String" "value" "[B" (.ref v') ∧ Fld Z h a "java/lang/String" "coder" "B" (.int (0 : Int32)) ∧ Arv Z h v' q' .byte (Int32.ofNat cl.length) (cl.map own_by) (.int (0 : Int32))
set_option maxRecDepth 65536 in
set_option maxHeartbeats 40000000 in
theorem rm_s_in1 {l : Launch} {Z : State} {a0 : Array Value} {N : Nat} (hw : ∀ d ∈ tables_1, d.before a0 Z = true) (a : Addr) (c : Addr) (q : ClassId) (cl : List Int32) (cs : Int32) (h0 : Heap) (I : Lts) (P0 : Sta Z Z.heap "java/lang/String" "COMPACT_STRINGS" "Z" (.int cs)) (G_cs : ¬ cs = (0 : Int32)) (P2 : Exa Z h0 a "java/lang/String") (P3 : Fld Z h0 a "java/lang/String" "value" "[B" .null) (P4 : Fld Z h0 a "java/lang/String" "coder" "B" (.int (0 : Int32))) (P5 : Arv Z h0 c q .char (Int32.ofNat cl.length) (cl.map Value.int) (.int (0 : Int32))) (P6 : N ≤ a) (hn : cl.length ≤ 6) (hL : own_L cl) (he : ¬ cl = []) :
    Cn l Z N b_s_in1 #[(.ref a), (.ref c)] h0 I (Q_s_in1 Z N a c q cl cs h0 I) := by
  refine Cn.of_wk (Ls := #[.val (.ref a), .val (.ref c)]) (plainFor_of_name (by first | (simp [plainName, overriddenIn]; done) | decide +kernel)) (fun m => ef_s_in1 m a c) ?_
  refine Wk.aloadN (pc' := 1) d9_0 rfl rfl rfl ?_
  refine Wk.aloadN (pc' := 2) d9_1 rfl rfl rfl ?_
  refine Wk.iconst (pc' := 3) (v := 0) d9_2 rfl rfl ?_
  refine Wk.aloadN (pc' := 4) d9_3 rfl rfl rfl ?_
  refine Wk.arraylength (pc' := 5) P5 d9_4 rfl ?_
  refine Wk.aconstNull (pc' := 6) d9_5 rfl ?_
  refine Wk.callN (a0 := a0) (pc' := 9) (k' := 1) (n' := 6) (W := 0) (b := b_s_in5) (argsL := [(.ref c), (.int (0 : Int32)), (.int (Int32.ofNat cl.length)), .null]) (rest := []) (rm_s_in5 hw a c q cl cs h0 I P0 G_cs P2 P3 P4 P5 P6 hn hL he) rfl rfl (w52 hw) (w53 hw) (w23 hw) (w55 hw) (by decide) (Nat.le_refl _) id (Nat.le_of_ble_eq_true rfl) (Nat.le_of_ble_eq_true rfl) rfl rfl (Nat.le_of_ble_eq_true rfl) (Nat.le_of_ble_eq_true rfl) rfl pd8 rfl rfl rfl (Nat.le_of_ble_eq_true rfl) d9_6 rfl fun v1 h2 J3 hs4 hQ5 => ?_
  obtain ⟨v'6, q'7, rfl, rfl, K8, g9, g10, g11⟩ := hQ5
  show Wk _ h2 1 6 I 9 #[.val (.ref a), .val (.ref c)] []
  exact Wk.return_ rfl d9_9 (Nat.le_of_ble_eq_true rfl) (Nat.le_of_ble_eq_true rfl) ⟨v'6, q'7, rfl, rfl, ((Keep.refl h0 [a]).trans K8 (allS (Or.inl (by simp)) all0)), g9, g10, g11⟩
theorem ef_b_ens (m : MethodId) (x0 : Addr) (x1 : Int32) : entryFrame m #[(.ref x0), (.int x1)] 3 = mkF m 0 #[.val (.ref x0), .val (.int x1), .unset] [] := by first | (simp [entryFrame, mkF, argsToLocals, Value.category]; done) | rfl
abbrev b_b_ens : Bdy := ((⟨"java/lang/AbstractStringBuilder", "ensureCapacityInternal", "(I)V"⟩ : MethodName), jdk_68_method_9_code, 3, (Option.none : Option Jvm.ClassFile.FieldType), ({ frames := 0, cells := 0, slots := 0, locals := 0 } : Room))
def Q_b_ens (Z : State) (N : Nat) (a : Addr) (b : Addr) (qb : ClassId) (mc : Nat) (cap : Nat) (vs : List Value) (h0 : Heap) (I : Lts) (v : Option Value) (h : Heap) (J : Lts) : Prop := I = J ∧ v = none ∧ h0 = h
set_option maxRecDepth 65536 in
set_option maxHeartbeats 40000000 in
theorem rm_b_ens {l : Launch} {Z : State} {a0 : Array Value} {N : Nat} (hw : ∀ d ∈ tables_1, d.before a0 Z = true) (a : Addr) (b : Addr) (qb : ClassId) (mc : Nat) (cap : Nat) (vs : List Value) (h0 : Heap) (I : Lts) (P0 : Fld Z h0 a "java/lang/AbstractStringBuilder" "value" "[B" (.ref b)) (P1 : Fld Z h0 a "java/lang/AbstractStringBuilder" "coder" "B" (.int (0 : Int32))) (P2 : Arv Z h0 b qb .byte (Int32.ofNat cap) vs (.int (0 : Int32))) (hm : mc ≤ cap) (hcap : cap < 2147483648) :
    Cn l Z N b_b_ens #[(.ref a), (.int (Int32.ofNat mc))] h0 I (Q_b_ens Z N a b qb mc cap vs h0 I) := by
  refine Cn.of_wk (Ls := #[.val (.ref a), .val (.int (Int32.ofNat mc)), .unset]) (plainFor_of_name (by first | (simp [plainName, overriddenIn]; done) | decide +kernel)) (fun m => ef_b_ens m a (Int32.ofNat mc)) ?_
  refine Wk.aloadN (pc' := 1) d40_0 rfl rfl rfl ?_
  refine Wk.getF (a0 := a0) (pc' := 4) (host := "") (Or.inl (w192 hw)) Via.refl P0 d40_1 rfl ?_
  refine Wk.arraylength (pc' := 5) P2 d40_4 rfl ?_
  refine Wk.aloadN (pc' := 6) d40_5 rfl rfl rfl ?_
  refine Wk.getF (a0 := a0) (pc' := 9) (host := "") (Or.inl (w194 hw)) Via.refl P1 d40_6 rfl ?_
  refine Wk.ishr (pc' := 10) d40_9 rfl ?_
  refine Wk.istoreN (pc' := 11) #[.val (.ref a), .val (.int (Int32.ofNat mc)), .val (.int ((Int32.ofNat cap) >>> ((0 : Int32) &&& 31)))] d40_10 rfl rfl ?_
  refine Wk.iloadN (pc' := 12) d40_11 rfl rfl ?_
  refine Wk.iloadN (pc' := 13) d40_12 rfl rfl ?_
  refine Wk.isub (pc' := 14) d40_13 rfl ?_
  refine Wk.if_leY (pc' := 38) d40_14 (by decide) (by rw [own_shr0]; exact own_subn hm hcap) ?_
  exact Wk.return_ rfl d40_38 (Nat.le_of_ble_eq_true rfl) (Nat.le_of_ble_eq_true rfl) ⟨rfl, rfl, rfl⟩
theorem ef_b_lat (m : MethodId) (x0 : Addr) : entryFrame m #[(.ref x0)] 1 = mkF m 0 #[.val (.ref x0)] [] := by first | (simp [entryFrame, mkF, argsToLocals, Value.category]; done) | rfl
abbrev b_b_lat : Bdy := ((⟨"java/lang/AbstractStringBuilder", "isLatin1", "()Z"⟩ : MethodName), jdk_68_method_68_code, 1, (Option.some Jvm.ClassFile.FieldType.boolean), ({ frames := 0, cells := 0, slots := 0, locals := 0 } : Room))
def Q_b_lat (Z : State) (N : Nat) (a : Addr) (cs : Int32) (h0 : Heap) (I : Lts) (v : Option Value) (h : Heap) (J : Lts) : Prop := I = J ∧ v = some (.int (1 : Int32)) ∧ h0 = h
set_option maxRecDepth 65536 in
set_option maxHeartbeats 40000000 in
theorem rm_b_lat {l : Launch} {Z : State} {a0 : Array Value} {N : Nat} (hw : ∀ d ∈ tables_1, d.before a0 Z = true) (a : Addr) (cs : Int32) (h0 : Heap) (I : Lts) (P0 : Sta Z Z.heap "java/lang/String" "COMPACT_STRINGS" "Z" (.int cs)) (G_cs : ¬ cs = (0 : Int32)) (P2 : Fld Z h0 a "java/lang/AbstractStringBuilder" "coder" "B" (.int (0 : Int32))) :
    Cn l Z N b_b_lat #[(.ref a)] h0 I (Q_b_lat Z N a cs h0 I) := by
  refine Cn.of_wk (Ls := #[.val (.ref a)]) (plainFor_of_name (by first | (simp [plainName, overriddenIn]; done) | decide +kernel)) (fun m => ef_b_lat m a) ?_
  refine Wk.getS (a0 := a0) (pc' := 3) (host := "") (Or.inl (w191 hw)) Via.refl P0 d46_0 rfl ?_
  refine Wk.if_eqN (pc' := 6) d46_3 rfl G_cs ?_
  refine Wk.aloadN (pc' := 7) d46_6 rfl rfl rfl ?_
  refine Wk.getF (a0 := a0) (pc' := 10) (host := "") (Or.inl (w194 hw)) Via.refl P2 d46_7 rfl ?_
  refine Wk.if_neN (pc' := 13) d46_10 rfl rfl ?_
  refine Wk.iconst (pc' := 14) (v := 1) d46_13 rfl rfl ?_
  refine Wk.goto (pc' := 18) d46_14 (by decide) ?_
  exact Wk.zreturn rfl (by simp) d46_18 (Nat.le_of_ble_eq_true rfl) (Nat.le_of_ble_eq_true rfl) ⟨rfl, rfl, rfl⟩
theorem ef_b_len (m : MethodId) (x0 : Addr) : entryFrame m #[(.ref x0)] 1 = mkF m 0 #[.val (.ref x0)] [] := by first | (simp [entryFrame, mkF, argsToLocals, Value.category]; done) | rfl
abbrev b_b_len : Bdy := ((⟨"java/lang/AbstractStringBuilder", "length", "()I"⟩ : MethodName), jdk_68_method_6_code, 1, (Option.some Jvm.ClassFile.FieldType.int), ({ frames := 0, cells := 0, slots := 0, locals := 0 } : Room))
def Q_b_len (Z : State) (N : Nat) (a : Addr) (cl : List Int32) (h0 : Heap) (I : Lts) (v : Option Value) (h : Heap) (J : Lts) : Prop := I = J ∧ v = some (.int (Int32.ofNat cl.length)) ∧ h0 = h
set_option maxRecDepth 65536 in
set_option maxHeartbeats 40000000 in
theorem rm_b_len {l : Launch} {Z : State} {a0 : Array Value} {N : Nat} (hw : ∀ d ∈ tables_1, d.before a0 Z = true) (a : Addr) (cl : List Int32) (h0 : Heap) (I : Lts) (P0 : Fld Z h0 a "java/lang/AbstractStringBuilder" "count" "I" (.int (Int32.ofNat cl.length))) :
    Cn l Z N b_b_len #[(.ref a)] h0 I (Q_b_len Z N a cl h0 I) := by
  refine Cn.of_wk (Ls := #[.val (.ref a)]) (plainFor_of_name (by first | (simp [plainName, overriddenIn]; done) | decide +kernel)) (fun m => ef_b_len m a) ?_
  refine Wk.aloadN (pc' := 1) d53_0 rfl rfl rfl ?_
  refine Wk.getF (a0 := a0) (pc' := 4) (host := "") (Or.inl (w207 hw)) Via.refl P0 d53_1 rfl ?_
  exact Wk.ireturn rfl d53_4 (Nat.le_of_ble_eq_true rfl) (Nat.le_of_ble_eq_true rfl) ⟨rfl, rfl, rfl⟩
theorem ef_b_len2 (m : MethodId) (x0 : Addr) : entryFrame m #[(.ref x0)] 1 = mkF m 0 #[.val (.ref x0)] [] := by first | (simp [entryFrame, mkF, argsToLocals, Value.category]; done) | rfl
abbrev b_b_len2 : Bdy := ((⟨"java/lang/StringBuilder", "length", "()I"⟩ : MethodName), jdk_67_method_93_code, 1, (Option.some Jvm.ClassFile.FieldType.int), ({ frames := 1, cells := 0, slots := 0, locals := 12 } : Room))
def Q_b_len2 (Z : State) (N : Nat) (a : Addr) (cl : List Int32) (h0 : Heap) (I : Lts) (v : Option Value) (h : Heap) (J : Lts) : Prop := I = J ∧ v = some (.int (Int32.ofNat cl.length)) ∧ h0 = h
set_option maxRecDepth 65536 in
set_option maxHeartbeats 40000000 in
theorem rm_b_len2 {l : Launch} {Z : State} {a0 : Array Value} {N : Nat} (hw : ∀ d ∈ tables_1, d.before a0 Z = true) (a : Addr) (cl : List Int32) (h0 : Heap) (I : Lts) (P0 : Exa Z h0 a "java/lang/StringBuilder") (P1 : Fld Z h0 a "java/lang/AbstractStringBuilder" "count" "I" (.int (Int32.ofNat cl.length))) :
    Cn l Z N b_b_len2 #[(.ref a)] h0 I (Q_b_len2 Z N a cl h0 I) := by
  refine Cn.of_wk (Ls := #[.val (.ref a)]) (plainFor_of_name (by first | (simp [plainName, overriddenIn]; done) | decide +kernel)) (fun m => ef_b_len2 m a) ?_
  refine Wk.aloadN (pc' := 1) d52_0 rfl rfl rfl ?_
  refine Wk.callZ (a0 := a0) (pc' := 4) (k' := 0) (n' := 0) (W := 0) (b := b_b_len) (argsL := []) (rest := []) (rm_b_len hw a cl h0 I P1) (Ins.self P0) (w271 hw) (w212 hw) rfl (by decide) (w267 hw) (w203 hw) (by decide) (w188 hw) (w272 hw) (Nat.le_refl _) id (Nat.le_of_ble_eq_true rfl) (Nat.le_of_ble_eq_true rfl) rfl rfl (Nat.le_of_ble_eq_true rfl) (Nat.le_of_ble_eq_true rfl) rfl pd9 rfl rfl rfl (Nat.le_of_ble_eq_true rfl) d52_1 rfl fun v1 h2 J3 hs4 hQ5 => ?_
  obtain ⟨rfl, rfl, rfl⟩ := hQ5
  show Wk _ h0 0 0 I 4 #[.val (.ref a)] [(.int (Int32.ofNat cl.length))]
  exact Wk.ireturn rfl d52_4 (Nat.le_of_ble_eq_true rfl) (Nat.le_of_ble_eq_true rfl) ⟨rfl, rfl, rfl⟩
theorem ef_b_val (m : MethodId) (x0 : Addr) : entryFrame m #[(.ref x0)] 1 = mkF m 0 #[.val (.ref x0)] [] := by first | (simp [entryFrame, mkF, argsToLocals, Value.category]; done) | rfl
abbrev b_b_val : Bdy := ((⟨"java/lang/AbstractStringBuilder", "getValue", "()[B"⟩ : MethodName), jdk_68_method_64_code, 1, (Option.some (Jvm.ClassFile.FieldType.array Jvm.ClassFile.FieldType.byte)), ({ frames := 0, cells := 0, slots := 0, locals := 0 } : Room))
def Q_b_val (Z : State) (N : Nat) (a : Addr) (b : Addr) (h0 : Heap) (I : Lts) (v : Option Value) (h : Heap) (J : Lts) : Prop := I = J ∧ v = some (.ref b) ∧ h0 = h
set_option maxRecDepth 65536 in
set_option maxHeartbeats 40000000 in
theorem rm_b_val {l : Launch} {Z : State} {a0 : Array Value} {N : Nat} (hw : ∀ d ∈ tables_1, d.before a0 Z = true) (a : Addr) (b : Addr) (h0 : Heap) (I : Lts) (P0 : Fld Z h0 a "java/lang/AbstractStringBuilder" "value" "[B" (.ref b)) :
    Cn l Z N b_b_val #[(.ref a)] h0 I (Q_b_val Z N a b h0 I) := by
  refine Cn.of_wk (Ls := #[.val (.ref a)]) (plainFor_of_name (by first | (simp [plainName, overriddenIn]; done) | decide +kernel)) (fun m => ef_b_val m a) ?_
  refine Wk.aloadN (pc' := 1) d51_0 rfl rfl rfl ?_
  refine Wk.getF (a0 := a0) (pc' := 4) (host := "") (Or.inl (w192 hw)) Via.refl P0 d51_1 rfl ?_
  exact Wk.areturn rfl rfl rfl d51_4 (Nat.le_of_ble_eq_true rfl) (Nat.le_of_ble_eq_true rfl) ⟨rfl, rfl, rfl⟩
theorem ef_b_inf (m : MethodId) (x0 : Addr) (x1 : Addr) : entryFrame m #[(.ref x0), (.ref x1)] 2 = mkF m 0 #[.val (.ref x0), .val (.ref x1)] [] := by first | (simp [entryFrame, mkF, argsToLocals, Value.category]; done) | rfl
abbrev b_b_inf : Bdy := ((⟨"java/lang/AbstractStringBuilder", "inflateIfNeededFor", "(Ljava/lang/String;)V"⟩ : MethodName), jdk_68_method_71_code, 2, (Option.none : Option Jvm.ClassFile.FieldType), ({ frames := 1, cells := 0, slots := 0, locals := 13 } : Room))
def Q_b_inf (Z : State) (N : Nat) (a : Addr) (s : Addr) (cs : Int32) (h0 : Heap) (I : Lts) (v : Option Value) (h : Heap) (J : Lts) : Prop := I = J ∧ v = none ∧ h0 = h
set_option maxRecDepth 65536 in
set_option maxHeartbeats 40000000 in
theorem rm_b_inf {l : Launch} {Z : State} {a0 : Array Value} {N : Nat} (hw : ∀ d ∈ tables_1, d.before a0 Z = true) (a : Addr) (s : Addr) (cs : Int32) (h0 : Heap) (I : Lts) (P0 : Sta Z Z.heap "java/lang/String" "COMPACT_STRINGS" "Z" (.int cs)) (G_cs : ¬ cs = (0 : Int32)) (P2 : Fld Z h0 a "java/lang/AbstractStringBuilder" "coder" "B" (.int (0 : Int32))) (P3 : Exa Z h0 s "java/lang/String") (P4 : Fld Z h0 s "java/lang/String" "coder" "B" (.int (0 : Int32))) :
    Cn l Z N b_b_inf #[(.ref a), (.ref s)] h0 I (Q_b_inf Z N a s cs h0 I) := by
  refine Cn.of_wk (Ls := #[.val (.ref a), .val (.ref s)]) (plainFor_of_name (by first | (simp [plainName, overriddenIn]; done) | decide +kernel)) (fun m => ef_b_inf m a s) ?_
  refine Wk.getS (a0 := a0) (pc' := 3) (host := "") (Or.inl (w191 hw)) Via.refl P0 d42_0 rfl ?_
  refine Wk.if_eqN (pc' := 6) d42_3 rfl G_cs ?_
  refine Wk.aloadN (pc' := 7) d42_6 rfl rfl rfl ?_
  refine Wk.getF (a0 := a0) (pc' := 10) (host := "") (Or.inl (w194 hw)) Via.refl P2 d42_7 rfl ?_
  refine Wk.aloadN (pc' := 11) d42_10 rfl rfl rfl ?_
  refine Wk.callV (a0 := a0) (pc' := 14) (k' := 0) (n' := 0) (W := 1) (b := b_s_cod) (argsL := []) (rest := [(.int (0 : Int32))]) (y := (⟨"java/lang/String", "coder", "()B"⟩ : MethodName)) (rm_s_cod hw s cs h0 I P0 G_cs P4) P3 (w224 hw) (w91 hw) (w93 hw) (w93 hw) (w92 hw) (w23 hw) (w94 hw) (by decide) (Nat.le_refl _) id (Nat.le_of_ble_eq_true rfl) (Nat.le_of_ble_eq_true rfl) rfl rfl (Nat.le_of_ble_eq_true rfl) (Nat.le_of_ble_eq_true rfl) rfl pd0 rfl rfl rfl (Nat.le_of_ble_eq_true rfl) d42_11 rfl fun v1 h2 J3 hs4 hQ5 => ?_
  obtain ⟨rfl, rfl, rfl⟩ := hQ5
  show Wk _ h0 0 0 I 14 #[.val (.ref a), .val (.ref s)] [(.int (0 : Int32)), (.int (0 : Int32))]
  refine Wk.icmp_eqY (pc' := 21) d42_14 (by decide) rfl ?_
  exact Wk.return_ rfl d42_21 (Nat.le_of_ble_eq_true rfl) (Nat.le_of_ble_eq_true rfl) ⟨rfl, rfl, rfl⟩
theorem ef_b_gby (m : MethodId) (x0 : Addr) (x1 : Addr) (x2 : Int32) (x3 : Int32) : entryFrame m #[(.ref x0), (.ref x1), (.int x2), (.int x3)] 4 = mkF m 0 #[.val (.ref x0), .val (.ref x1), .val (.int x2), .val (.int x3)] [] := by first | (simp [entryFrame, mkF, argsToLocals, Value.category]; done) | rfl
abbrev b_b_gby : Bdy := ((⟨"java/lang/String", "getBytes", "([BIB)V"⟩ : MethodName), jdk_42_method_147_code, 4, (Option.none : Option Jvm.ClassFile.FieldType), ({ frames := 1, cells := 0, slots := 0, locals := 18 } : Room))
def Q_b_gby (Z : State) (N : Nat) (b : Addr) (qb : ClassId) (cl : List Int32) (cap : Nat) (s : Addr) (v' : Addr) (q : ClassId) (dl : List Int32) (cs : Int32) (h0 : Heap) (I : Lts) (v : Option Value) (h : Heap) (J : Lts) : Prop := I = J ∧ v = none ∧ Keep h0 h [b] ∧ Arv Z h b qb .byte (Int32.ofNat cap) (own_sb (cl ++ dl) cap) (.int (0 : Int32))
set_option maxRecDepth 65536 in
set_option maxHeartbeats 40000000 in
theorem rm_b_gby {l : Launch} {Z : State} {a0 : Array Value} {N : Nat} (hw : ∀ d ∈ tables_1, d.before a0 Z = true) (b : Addr) (qb : ClassId) (cl : List Int32) (cap : Nat) (s : Addr) (v' : Addr) (q : ClassId) (dl : List Int32) (cs : Int32) (h0 : Heap) (I : Lts) (P0 : Sta Z Z.heap "java/lang/String" "COMPACT_STRINGS" "Z" (.int cs)) (G_cs : ¬ cs = (0 : Int32)) (P2 : Exa Z h0 s "java/lang/String") (P3 : Fld Z h0 s "java/lang/String" "value" "[B" (.ref v')) (P4 : Fld Z h0 s "java/lang/String" "coder" "B" (.int (0 : Int32))) (P5 : Arv Z h0 v' q .byte (Int32.ofNat dl.length) (dl.map own_by) (.int (0 : Int32))) (P6 : Arv Z h0 b qb .byte (Int32.ofNat cap) (own_sb cl cap) (.int (0 : Int32))) (P7 : N ≤ b) (P8 : v' ≠ b) (hl : cl.length + dl.length ≤ cap) (hcap : cap < 2147483648) :
    Cn l Z N b_b_gby #[(.ref s), (.ref b), (.int (Int32.ofNat cl.length)), (.int (0 : Int32))] h0 I (Q_b_gby Z N b qb cl cap s v' q dl cs h0 I) := by
  refine Cn.of_wk (Ls := #[.val (.ref s), .val (.ref b), .val (.int (Int32.ofNat cl.length)), .val (.int (0 : Int32))]) (plainFor_of_name (by first | (simp [plainName, overriddenIn]; done) | decide +kernel)) (fun m => ef_b_gby m s b (Int32.ofNat cl.length) (0 : Int32)) ?_
  refine Wk.aloadN (pc' := 1) d43_0 rfl rfl rfl ?_
  refine Wk.callV (a0 := a0) (pc' := 4) (k' := 0) (n' := 0) (W := 0) (b := b_s_cod) (argsL := []) (rest := []) (y := (⟨"java/lang/String", "coder", "()B"⟩ : MethodName)) (rm_s_cod hw s cs h0 I P0 G_cs P4) P2 (w90 hw) (w91 hw) (w93 hw) (w93 hw) (w92 hw) (w23 hw) (w94 hw) (by decide) (Nat.le_refl _) id (Nat.le_of_ble_eq_true rfl) (Nat.le_of_ble_eq_true rfl) rfl rfl (Nat.le_of_ble_eq_true rfl) (Nat.le_of_ble_eq_true rfl) rfl pd0 rfl rfl rfl (Nat.le_of_ble_eq_true rfl) d43_1 rfl fun v1 h2 J3 hs4 hQ5 => ?_
  obtain ⟨rfl, rfl, rfl⟩ := hQ5
  show Wk _ h0 0 0 I 4 #[.val (.ref s), .val (.ref b), .val (.int (Int32.ofNat cl.length)), .val (.int (0 : Int32))] [(.int (0 : Int32))]
  refine Wk.iloadN (pc' := 5) d43_4 rfl rfl ?_
  refine Wk.icmp_neN (pc' := 8) d43_5 rfl rfl ?_
  refine Wk.aloadN (pc' := 9) d43_8 rfl rfl rfl ?_
  refine Wk.getF (a0 := a0) (pc' := 12) (host := "") (Or.inl (w69 hw)) Via.refl P3 d43_9 rfl ?_
  refine Wk.iconst (pc' := 13) (v := 0) d43_12 rfl rfl ?_
  refine Wk.aloadN (pc' := 14) d43_13 rfl rfl rfl ?_
  refine Wk.iloadN (pc' := 15) d43_14 rfl rfl ?_
  refine Wk.iloadN (pc' := 16) d43_15 rfl rfl ?_
  refine Wk.ishl (pc' := 17) d43_16 rfl ?_
  rw [own_shl0]
  refine Wk.aloadN (pc' := 18) d43_17 rfl rfl rfl ?_
  refine Wk.getF (a0 := a0) (pc' := 21) (host := "") (Or.inl (w69 hw)) Via.refl P3 d43_18 rfl ?_
  refine Wk.arraylength (pc' := 22) P5 d43_21 rfl ?_
  refine Wk.arraycopy (a0 := a0) (pc' := 25) (W := 0) (us := (dl.map own_by)) P5 P6 (Or.inl ⟨rfl, rfl⟩) P7 (w230 hw) (w174 hw) (w172 hw) (w173 hw) (by decide) (own_nn (by omega)) (own_nn (by omega)) (own_cp5z (Nat.le_refl _) (by omega)) (own_cp5 hl hcap) (own_us0 (n := dl.length) (List.take_of_length_le (by rw [List.length_map]; exact Nat.le_refl _)).symm (by rw [List.length_map]; exact Nat.le_refl _) (by omega)) (by rw [own_clamp (by omega), own_clamp (by omega), own_sbl (by omega)]; exact hl) rfl d43_22 rfl (Nat.le_of_ble_eq_true rfl) (Nat.le_of_ble_eq_true rfl) (Nat.le_of_ble_eq_true rfl) fun h6 K7 A8 => ?_
  have A9 : Arv Z h6 b qb .byte (Int32.ofNat cap) (own_sb (cl ++ dl) cap) (.int (0 : Int32)) := by
    have q := A8
    rw [own_clamp (by omega), own_clamp (by omega), own_sbapp hl] at q
    exact q
  refine Wk.goto (pc' := 43) d43_25 (by decide) ?_
  exact Wk.return_ rfl d43_43 (Nat.le_of_ble_eq_true rfl) (Nat.le_of_ble_eq_true rfl) ⟨rfl, rfl, ((Keep.refl h0 [b]).trans K7 (allS (Or.inl (by simp)) all0)), A9⟩
theorem ef_b_put (m : MethodId) (x0 : Addr) (x1 : Int32) (x2 : Addr) : entryFrame m #[(.ref x0), (.int x1), (.ref x2)] 3 = mkF m 0 #[.val (.ref x0), .val (.int x1), .val (.ref x2)] [] := by first | (simp [entryFrame, mkF, argsToLocals, Value.category]; done) | rfl
abbrev b_b_put : Bdy := ((⟨"java/lang/AbstractStringBuilder", "putStringAt", "(ILjava/lang/String;)V"⟩ : MethodName), jdk_68_method_73_code, 3, (Option.none : Option Jvm.ClassFile.FieldType), ({ frames := 2, cells := 0, slots := 0, locals := 33 } : Room))
def Q_b_put (Z : State) (N : Nat) (a : Addr) (b : Addr) (qb : ClassId) (cl : List Int32) (cap : Nat) (s : Addr) (v' : Addr) (q : ClassId) (dl : List Int32) (cs : Int32) (h0 : Heap) (I : Lts) (v : Option Value) (h : Heap) (J : Lts) : Prop := I = J ∧ v = none ∧ Keep h0 h [b] ∧ Arv Z h b qb .byte (Int32.ofNat cap) (own_sb (cl ++ dl) cap) (.int (0 : Int32))
set_option maxRecDepth 65536 in
set_option maxHeartbeats 40000000 in
theorem rm_b_put {l : Launch} {Z : State} {a0 : Array Value} {N : Nat} (hw : ∀ d ∈ tables_1, d.before a0 Z = true) (a : Addr) (b : Addr) (qb : ClassId) (cl : List Int32) (cap : Nat) (s : Addr) (v' : Addr) (q : ClassId) (dl : List Int32) (cs : Int32) (h0 : Heap) (I : Lts) (P0 : Sta Z Z.heap "java/lang/String" "COMPACT_STRINGS" "Z" (.int cs)) (G_cs : ¬ cs = (0 : Int32)) (P2 : Exa Z h0 a "java/lang/StringBuilder") (P3 : Fld Z h0 a "java/lang/AbstractStringBuilder" "value" "[B" (.ref b)) (P4 : Fld Z h0 a "java/lang/AbstractStringBuilder" "coder" "B" (.int (0 : Int32))) (P5 : Fld Z h0 a "java/lang/AbstractStringBuilder" "count" "I" (.int (Int32.ofNat cl.length))) (P6 : Arv Z h0 b qb .byte (Int32.ofNat cap) (own_sb cl cap) (.int (0 : Int32))) (P7 : Exa Z h0 s "java/lang/String") (P8 : Fld Z h0 s "java/lang/String" "value" "[B" (.ref v')) (P9 : Fld Z h0 s "java/lang/String" "coder" "B" (.int (0 : Int32))) (P10 : Arv Z h0 v' q .byte (Int32.ofNat dl.length) (dl.map own_by) (.int (0 : Int32))) (P11 : N ≤ b) (P12 : v' ≠ b) (hl : cl.length + dl.length ≤ cap) (hcap : cap < 2147483648) :
    Cn l Z N b_b_put #[(.ref a), (.int (Int32.ofNat cl.length)), (.ref s)] h0 I (Q_b_put Z N a b qb cl cap s v' q dl cs h0 I) := by
  refine Cn.of_wk (Ls := #[.val (.ref a), .val (.int (Int32.ofNat cl.length)), .val (.ref s)]) (plainFor_of_name (by first | (simp [plainName, overriddenIn]; done) | decide +kernel)) (fun m => ef_b_put m a (Int32.ofNat cl.length) s) ?_
  refine Wk.aloadN (pc' := 1) d41_0 rfl rfl rfl ?_
  refine Wk.aloadN (pc' := 2) d41_1 rfl rfl rfl ?_
  refine Wk.callP (a0 := a0) (pc' := 5) (k' := 0) (n' := 0) (W := 0) (b := b_b_inf) (argsL := [(.ref s)]) (rest := []) (rm_b_inf hw a s cs h0 I P0 G_cs P4 P7 P9) P2 (w219 hw) (w212 hw) rfl (w221 hw) (w220 hw) (w188 hw) (w223 hw) (by decide) (Nat.le_refl _) id (Nat.le_of_ble_eq_true rfl) (Nat.le_of_ble_eq_true rfl) rfl rfl (Nat.le_of_ble_eq_true rfl) (Nat.le_of_ble_eq_true rfl) rfl pd10 rfl rfl rfl (Nat.le_of_ble_eq_true rfl) d41_2 rfl fun v1 h2 J3 hs4 hQ5 => ?_
  obtain ⟨rfl, rfl, rfl⟩ := hQ5
  show Wk _ h0 0 0 I 5 #[.val (.ref a), .val (.int (Int32.ofNat cl.length)), .val (.ref s)] []
  refine Wk.aloadN (pc' := 6) d41_5 rfl rfl rfl ?_
  refine Wk.aloadN (pc' := 7) d41_6 rfl rfl rfl ?_
  refine Wk.getF (a0 := a0) (pc' := 10) (host := "") (Or.inl (w192 hw)) Via.refl P3 d41_7 rfl ?_
  refine Wk.iloadN (pc' := 11) d41_10 rfl rfl ?_
  refine Wk.aloadN (pc' := 12) d41_11 rfl rfl rfl ?_
  refine Wk.getF (a0 := a0) (pc' := 15) (host := "") (Or.inl (w194 hw)) Via.refl P4 d41_12 rfl ?_
  refine Wk.callV (a0 := a0) (pc' := 18) (k' := 0) (n' := 0) (W := 0) (b := b_b_gby) (argsL := [(.ref b), (.int (Int32.ofNat cl.length)), (.int (0 : Int32))]) (rest := []) (y := (⟨"java/lang/String", "getBytes", "([BIB)V"⟩ : MethodName)) (rm_b_gby hw b qb cl cap s v' q dl cs h0 I P0 G_cs P7 P8 P9 P10 P6 P11 P12 hl hcap) P7 (w225 hw) (w226 hw) (w228 hw) (w228 hw) (w227 hw) (w23 hw) (w229 hw) (by decide) (Nat.le_refl _) id (Nat.le_of_ble_eq_true rfl) (Nat.le_of_ble_eq_true rfl) rfl rfl (Nat.le_of_ble_eq_true rfl) (Nat.le_of_ble_eq_true rfl) rfl pd11 rfl rfl rfl (Nat.le_of_ble_eq_true rfl) d41_15 rfl fun v6 h7 J8 hs9 hQ10 => ?_
  obtain ⟨rfl, rfl, K11, g12⟩ := hQ10
  show Wk _ h7 0 0 I 18 #[.val (.ref a), .val (.int (Int32.ofNat cl.length)), .val (.ref s)] []
  exact Wk.return_ rfl d41_18 (Nat.le_of_ble_eq_true rfl) (Nat.le_of_ble_eq_true rfl) ⟨rfl, rfl, ((Keep.refl h0 [b]).trans K11 (allS (Or.inl (by simp)) all0)), g12⟩
theorem ef_b_aps (m : MethodId) (x0 : Addr) (x1 : Addr) : entryFrame m #[(.ref x0), (.ref x1)] 3 = mkF m 0 #[.val (.ref x0), .val (.ref x1), .unset] [] := by first | (simp [entryFrame, mkF, argsToLocals, Value.category]; done) | rfl
abbrev b_b_aps : Bdy := ((⟨"java/lang/AbstractStringBuilder", "append", "(Ljava/lang/String;)Ljava/lang/AbstractStringBuilder;"⟩ : MethodName), jdk_68_method_22_code, 3, (Option.some (Jvm.ClassFile.FieldType.object "java/lang/AbstractStringBuilder")), ({ frames := 3, cells := 0, slots := 0, locals := 47 } : Room))
def Q_b_aps (Z : State) (N : Nat) (a : Addr) (b : Addr) (qb : ClassId) (cl : List Int32) (cap : Nat) (s : Addr) (v' : Addr) (q : ClassId) (dl : List Int32) (cs : Int32) (h0 : Heap) (I : Lts) (v : Option Value) (h : Heap) (J : Lts) : Prop := I = J ∧ v = some (.ref a) ∧ Keep h0 h [a, b] ∧ Fld Z h a "java/lang/AbstractStringBuilder" "value" "[B" (.ref b) ∧ Fld Z h a "java/lang/AbstractStringBuilder" "coder" "B" (.int (0 : Int32)) ∧ Fld Z h a "java/lang/AbstractStringBuilder" "count" "I" (.int (Int32.ofNat (cl ++ dl).length)) ∧ Arv Z h b qb .byte (Int32.ofNat cap) (own_sb (cl ++ dl) cap) (.int (0 : Int32))
set_option maxRecDepth 65536 in
set_option maxHeartbeats 40000000 in
theorem rm_b_aps {l : Launch} {Z : State} {a0 : Array Value} {N : Nat} (hw : ∀ d ∈ tables_1, d.before a0 Z = true) (a : Addr) (b : Addr) (qb : ClassId) (cl : List Int32) (cap : Nat) (s : Addr) (v' : Addr) (q : ClassId) (dl : List Int32) (cs : Int32) (h0 : Heap) (I : Lts) (P0 : Sta Z Z.heap "java/lang/String" "COMPACT_STRINGS" "Z" (.int cs)) (G_cs : ¬ cs = (0 : Int32)) (P2 : Exa Z h0 a "java/lang/StringBuilder") (P3 : Fld Z h0 a "java/lang/AbstractStringBuilder" "value" "[B" (.ref b)) (P4 : Fld Z h0 a "java/lang/AbstractStringBuilder" "coder" "B" (.int (0 : Int32))) (P5 : Fld Z h0 a "java/lang/AbstractStringBuilder" "count" "I" (.int (Int32.ofNat cl.length))) (P6 : Arv Z h0 b qb .byte (Int32.ofNat cap) (own_sb cl cap) (.int (0 : Int32))) (P7 : Exa Z h0 s "java/lang/String") (P8 : Fld Z h0 s "java/lang/String" "value" "[B" (.ref v')) (P9 : Fld Z h0 s "java/lang/String" "coder" "B" (.int (0 : Int32))) (P10 : Arv Z h0 v' q .byte (Int32.ofNat dl.length) (dl.map own_by) (.int (0 : Int32))) (P11 : N ≤ a) (P12 : N ≤ b) (P13 : a ≠ b) (P14 : s ≠ b) (P15 : v' ≠ b) (hl : cl.length + dl.length ≤ cap) (hcap : cap < 2147483648) :
    Cn l Z N b_b_aps #[(.ref a), (.ref s)] h0 I (Q_b_aps Z N a b qb cl cap s v' q dl cs h0 I) := by
  refine Cn.of_wk (Ls := #[.val (.ref a), .val (.ref s), .unset]) (plainFor_of_name (by first | (simp [plainName, overriddenIn]; done) | decide +kernel)) (fun m => ef_b_aps m a s) ?_
  refine Wk.aloadN (pc' := 1) d39_0 rfl rfl rfl ?_
  refine Wk.ifnonnullY (pc' := 9) d39_1 (by decide) ?_
  refine Wk.aloadN (pc' := 10) d39_9 rfl rfl rfl ?_
  refine Wk.callV (a0 := a0) (pc' := 13) (k' := 0) (n' := 0) (W := 0) (b := b_s_len) (argsL := []) (rest := []) (y := (⟨"java/lang/String", "length", "()I"⟩ : MethodName)) (rm_s_len hw s v' q dl cs h0 I P0 G_cs P7 P8 P9 P10) P7 (w206 hw) (w86 hw) (w88 hw) (w88 hw) (w87 hw) (w23 hw) (w89 hw) (by decide) (Nat.le_refl _) id (Nat.le_of_ble_eq_true rfl) (Nat.le_of_ble_eq_true rfl) rfl rfl (Nat.le_of_ble_eq_true rfl) (Nat.le_of_ble_eq_true rfl) rfl pd9 rfl rfl rfl (Nat.le_of_ble_eq_true rfl) d39_10 rfl fun v1 h2 J3 hs4 hQ5 => ?_
  obtain ⟨rfl, rfl, rfl⟩ := hQ5
  show Wk _ h0 0 0 I 13 #[.val (.ref a), .val (.ref s), .unset] [(.int (Int32.ofNat dl.length))]
  refine Wk.istoreN (pc' := 14) #[.val (.ref a), .val (.ref s), .val (.int (Int32.ofNat dl.length))] d39_13 rfl rfl ?_
  refine Wk.aloadN (pc' := 15) d39_14 rfl rfl rfl ?_
  refine Wk.aloadN (pc' := 16) d39_15 rfl rfl rfl ?_
  refine Wk.getF (a0 := a0) (pc' := 19) (host := "") (Or.inl (w207 hw)) Via.refl P5 d39_16 rfl ?_
  refine Wk.iloadN (pc' := 20) d39_19 rfl rfl ?_
  refine Wk.iadd (pc' := 21) d39_20 rfl ?_
  rw [own_addl]
  refine Wk.callP (a0 := a0) (pc' := 24) (k' := 0) (n' := 0) (W := 0) (b := b_b_ens) (argsL := [(.int (Int32.ofNat (cl ++ dl).length))]) (rest := []) (rm_b_ens hw a b qb (cl ++ dl).length cap (own_sb cl cap) h0 I P3 P4 P6 (by rw [List.length_append]; exact hl) hcap) P2 (w209 hw) (w212 hw) rfl (w211 hw) (w210 hw) (w188 hw) (w213 hw) (by decide) (Nat.le_refl _) id (Nat.le_of_ble_eq_true rfl) (Nat.le_of_ble_eq_true rfl) rfl rfl (Nat.le_of_ble_eq_true rfl) (Nat.le_of_ble_eq_true rfl) rfl pd12 rfl rfl rfl (Nat.le_of_ble_eq_true rfl) d39_21 rfl fun v6 h7 J8 hs9 hQ10 => ?_
  obtain ⟨rfl, rfl, rfl⟩ := hQ10
  show Wk _ h0 0 0 I 24 #[.val (.ref a), .val (.ref s), .val (.int (Int32.ofNat dl.length))] []
  refine Wk.aloadN (pc' := 25) d39_24 rfl rfl rfl ?_
  refine Wk.aloadN (pc' := 26) d39_25 rfl rfl rfl ?_
  refine Wk.getF (a0 := a0) (pc' := 29) (host := "") (Or.inl (w207 hw)) Via.refl P5 d39_26 rfl ?_
  refine Wk.aloadN (pc' := 30) d39_29 rfl rfl rfl ?_
  refine Wk.callP (a0 := a0) (pc' := 33) (k' := 0) (n' := 0) (W := 0) (b := b_b_put) (argsL := [(.int (Int32.ofNat cl.length)), (.ref s)]) (rest := []) (rm_b_put hw a b qb cl cap s v' q dl cs h0 I P0 G_cs P2 P3 P4 P5 P6 P7 P8 P9 P10 P12 P15 hl hcap) P2 (w214 hw) (w212 hw) rfl (w216 hw) (w215 hw) (w188 hw) (w218 hw) (by decide) (Nat.le_refl _) id (Nat.le_of_ble_eq_true rfl) (Nat.le_of_ble_eq_true rfl) rfl rfl (Nat.le_of_ble_eq_true rfl) (Nat.le_of_ble_eq_true rfl) rfl pd13 rfl rfl rfl (Nat.le_of_ble_eq_true rfl) d39_30 rfl fun v11 h12 J13 hs14 hQ15 => ?_
  obtain ⟨rfl, rfl, K16, g17⟩ := hQ15
  show Wk _ h12 0 0 I 33 #[.val (.ref a), .val (.ref s), .val (.int (Int32.ofNat dl.length))] []
  refine Wk.aloadN (pc' := 34) d39_33 rfl rfl rfl ?_
  refine Wk.dup (pc' := 35) d39_34 rfl rfl ?_
  have f18 := (P5.keep K16 (ninS P13 nin0))
  refine Wk.getF (a0 := a0) (pc' := 38) (host := "") (Or.inl (w207 hw)) Via.refl f18 d39_35 rfl ?_
  refine Wk.iloadN (pc' := 39) d39_38 rfl rfl ?_
  refine Wk.iadd (pc' := 40) d39_39 rfl ?_
  rw [own_addl]
  have f19 := (P2.keep K16)
  refine Wk.putF (a0 := a0) (pc' := 43) (host := "") (Or.inl (w207 hw)) Via.refl P11 f18 f19 (Or.inl (w208 hw)) (w179 hw) (ty := .int) (by decide) rfl rfl d39_40 rfl fun h20 W21 => ?_
  have F22 := f18.same W21
  refine Wk.aloadN (pc' := 44) d39_43 rfl rfl rfl ?_
  have f23 := ((P3.keep K16 (ninS P13 nin0)).other W21 (Or.inr (slot_ne (Or.inl (w193 hw)) (Or.inl (w208 hw)) (by decide) (t := (.array .byte)) (t' := .int) (by decide) (by decide))))
  have f24 := ((P4.keep K16 (ninS P13 nin0)).other W21 (Or.inr (slot_ne (Or.inl (w195 hw)) (Or.inl (w208 hw)) (by decide) (t := .byte) (t' := .int) (by decide) (by decide))))
  have f25 := (g17.other W21 (Ne.symm P13))
  exact Wk.areturn rfl rfl rfl d39_44 (Nat.le_of_ble_eq_true rfl) (Nat.le_of_ble_eq_true rfl) ⟨rfl, rfl, (((Keep.refl h0 [a, b]).trans K16 (allS (Or.inl (by simp)) all0)).wr W21 (Or.inl (by simp))), f23, f24, F22, f25⟩
theorem ef_b_apS (m : MethodId) (x0 : Addr) (x1 : Addr) : entryFrame m #[(.ref x0), (.ref x1)] 2 = mkF m 0 #[.val (.ref x0), .val (.ref x1)] [] := by first | (simp [entryFrame, mkF, argsToLocals, Value.category]; done) | rfl
abbrev b_b_apS : Bdy := ((⟨"java/lang/StringBuilder", "append", "(Ljava/lang/String;)Ljava/lang/StringBuilder;"⟩ : MethodName), jdk_67_method_7_code, 2, (Option.some (Jvm.ClassFile.FieldType.object "java/lang/StringBuilder")), ({ frames := 4, cells := 0, slots := 0, locals := 61 } : Room))
def Q_b_apS (Z : State) (N : Nat) (a : Addr) (b : Addr) (qb : ClassId) (cl : List Int32) (cap : Nat) (s : Addr) (v' : Addr) (q : ClassId) (dl : List Int32) (cs : Int32) (h0 : Heap) (I : Lts) (v : Option Value) (h : Heap) (J : Lts) : Prop := I = J ∧ v = some (.ref a) ∧ Keep h0 h [a, b] ∧ Fld Z h a "java/lang/AbstractStringBuilder" "value" "[B" (.ref b) ∧ Fld Z h a "java/lang/AbstractStringBuilder" "coder" "B" (.int (0 : Int32)) ∧ Fld Z h a "java/lang/AbstractStringBuilder" "count" "I" (.int (Int32.ofNat (cl ++ dl).length)) ∧ Arv Z h b qb .byte (Int32.ofNat cap) (own_sb (cl ++ dl) cap) (.int (0 : Int32))
set_option maxRecDepth 65536 in
set_option maxHeartbeats 40000000 in
theorem rm_b_apS {l : Launch} {Z : State} {a0 : Array Value} {N : Nat} (hw : ∀ d ∈ tables_1, d.before a0 Z = true) (a : Addr) (b : Addr) (qb : ClassId) (cl : List Int32) (cap : Nat) (s : Addr) (v' : Addr) (q : ClassId) (dl : List Int32) (cs : Int32) (h0 : Heap) (I : Lts) (P0 : Sta Z Z.heap "java/lang/String" "COMPACT_STRINGS" "Z" (.int cs)) (G_cs : ¬ cs = (0 : Int32)) (P2 : Exa Z h0 a "java/lang/StringBuilder") (P3 : Fld Z h0 a "java/lang/AbstractStringBuilder" "value" "[B" (.ref b)) (P4 : Fld Z h0 a "java/lang/AbstractStringBuilder" "coder" "B" (.int (0 : Int32))) (P5 : Fld Z h0 a "java/lang/AbstractStringBuilder" "count" "I" (.int (Int32.ofNat cl.length))) (P6 : Arv Z h0 b qb .byte (Int32.ofNat cap) (own_sb cl cap) (.int (0 : Int32))) (P7 : Exa Z h0 s "java/lang/String") (P8 : Fld Z h0 s "java/lang/String" "value" "[B" (.ref v')) (P9 : Fld Z h0 s "java/lang/String" "coder" "B" (.int (0 : Int32))) (P10 : Arv Z h0 v' q .byte (Int32.ofNat dl.length) (dl.map own_by) (.int (0 : Int32))) (P11 : N ≤ a) (P12 : N ≤ b) (P13 : a ≠ b) (P14 : s ≠ b) (P15 : v' ≠ b) (hl : cl.length + dl.length ≤ cap) (hcap : cap < 2147483648) :
    Cn l Z N b_b_apS #[(.ref a), (.ref s)] h0 I (Q_b_apS Z N a b qb cl cap s v' q dl cs h0 I) := by
  refine Cn.of_wk (Ls := #[.val (.ref a), .val (.ref s)]) (plainFor_of_name (by first | (simp [plainName, overriddenIn]; done) | decide +kernel)) (fun m => ef_b_apS m a s) ?_
  refine Wk.aloadN (pc' := 1) d38_0 rfl rfl rfl ?_
  refine Wk.aloadN (pc' := 2) d38_1 rfl rfl rfl ?_
  refine Wk.callZ (a0 := a0) (pc' := 5) (k' := 0) (n' := 0) (W := 0) (b := b_b_aps) (argsL := [(.ref s)]) (rest := []) (rm_b_aps hw a b qb cl cap s v' q dl cs h0 I P0 G_cs P2 P3 P4 P5 P6 P7 P8 P9 P10 P11 P12 P13 P14 P15 hl hcap) (Ins.self P2) (w201 hw) (w212 hw) rfl (by decide) (w202 hw) (w203 hw) (by decide) (w188 hw) (w205 hw) (Nat.le_refl _) id (Nat.le_of_ble_eq_true rfl) (Nat.le_of_ble_eq_true rfl) rfl rfl (Nat.le_of_ble_eq_true rfl) (Nat.le_of_ble_eq_true rfl) rfl pd14 rfl rfl rfl (Nat.le_of_ble_eq_true rfl) d38_2 rfl fun v1 h2 J3 hs4 hQ5 => ?_
  obtain ⟨rfl, rfl, K6, g7, g8, g9, g10⟩ := hQ5
  show Wk _ h2 0 0 I 5 #[.val (.ref a), .val (.ref s)] [(.ref a)]
  refine Wk.pop (pc' := 6) d38_5 rfl rfl ?_
  refine Wk.aloadN (pc' := 7) d38_6 rfl rfl rfl ?_
  exact Wk.areturn rfl rfl rfl d38_7 (Nat.le_of_ble_eq_true rfl) (Nat.le_of_ble_eq_true rfl) ⟨rfl, rfl, ((Keep.refl h0 [a, b]).trans K6 (allS (Or.inl (by simp)) (allS (Or.inl (by simp)) all0))), g7, g8, g9, g10⟩
theorem ef_b_can (m : MethodId) (x0 : Int32) : entryFrame m #[(.int x0)] 1 = mkF m 0 #[.val (.int x0)] [] := by first | (simp [entryFrame, mkF, argsToLocals, Value.category]; done) | rfl
abbrev b_b_can : Bdy := ((⟨"java/lang/StringLatin1", "canEncode", "(C)Z"⟩ : MethodName), jdk_43_method_3_code, 1, (Option.some Jvm.ClassFile.FieldType.boolean), ({ frames := 0, cells := 0, slots := 0, locals := 0 } : Room))
def Q_b_can (Z : State) (N : Nat) (c : Int32) (h0 : Heap) (I : Lts) (v : Option Value) (h : Heap) (J : Lts) : Prop := I = J ∧ v = some (.int (1 : Int32)) ∧ h0 = h
set_option maxRecDepth 65536 in
set_option maxHeartbeats 40000000 in
theorem rm_b_can {l : Launch} {Z : State} {a0 : Array Value} {N : Nat} (hw : ∀ d ∈ tables_1, d.before a0 Z = true) (c : Int32) (h0 : Heap) (I : Lts) (hc : own_c c) :
    Cn l Z N b_b_can #[(.int c)] h0 I (Q_b_can Z N c h0 I) := by
  refine Cn.of_wk (Ls := #[.val (.int c)]) (plainFor_of_name (by first | (simp [plainName, overriddenIn]; done) | decide +kernel)) (fun m => ef_b_can m c) ?_
  refine Wk.iloadN (pc' := 1) d47_0 rfl rfl ?_
  refine Wk.sipush (pc' := 4) (v := 255) d47_1 rfl rfl ?_
  refine Wk.icmp_gtN (pc' := 7) d47_4 rfl hc.2 ?_
  refine Wk.iconst (pc' := 8) (v := 1) d47_7 rfl rfl ?_
  refine Wk.goto (pc' := 12) d47_8 (by decide) ?_
  exact Wk.zreturn rfl (by simp) d47_12 (Nat.le_of_ble_eq_true rfl) (Nat.le_of_ble_eq_true rfl) ⟨rfl, rfl, rfl⟩
theorem ef_b_apc (m : MethodId) (x0 : Addr) (x1 : Int32) : entryFrame m #[(.ref x0), (.int x1)] 2 = mkF m 0 #[.val (.ref x0), .val (.int x1)] [] := by first | (simp [entryFrame, mkF, argsToLocals, Value.category]; done) | rfl
abbrev b_b_apc : Bdy := ((⟨"java/lang/AbstractStringBuilder", "append", "(C)Ljava/lang/AbstractStringBuilder;"⟩ : MethodName), jdk_68_method_31_code, 2, (Option.some (Jvm.ClassFile.FieldType.object "java/lang/AbstractStringBuilder")), ({ frames := 1, cells := 0, slots := 0, locals := 14 } : Room))
def Q_b_apc (Z : State) (N : Nat) (a : Addr) (b : Addr) (qb : ClassId) (cl : List Int32) (cap : Nat) (c : Int32) (cs : Int32) (h0 : Heap) (I : Lts) (v : Option Value) (h : Heap) (J : Lts) : Prop := I = J ∧ v = some (.ref a) ∧ Keep h0 h [a, b] ∧ Fld Z h a "java/lang/AbstractStringBuilder" "value" "[B" (.ref b) ∧ Fld Z h a "java/lang/AbstractStringBuilder" "coder" "B" (.int (0 : Int32)) ∧ Fld Z h a "java/lang/AbstractStringBuilder" "count" "I" (.int (Int32.ofNat (cl ++ [c]).length)) ∧ Arv Z h b qb .byte (Int32.ofNat cap) (own_sb (cl ++ [c]) cap) (.int (0 : Int32))
set_option maxRecDepth 65536 in
set_option maxHeartbeats 40000000 in
theorem rm_b_apc {l : Launch} {Z : State} {a0 : Array Value} {N : Nat} (hw : ∀ d ∈ tables_1, d.before a0 Z = true) (a : Addr) (b : Addr) (qb : ClassId) (cl : List Int32) (cap : Nat) (c : Int32) (cs : Int32) (h0 : Heap) (I : Lts) (P0 : Sta Z Z.heap "java/lang/String" "COMPACT_STRINGS" "Z" (.int cs)) (G_cs : ¬ cs = (0 : Int32)) (P2 : Exa Z h0 a "java/lang/StringBuilder") (P3 : Fld Z h0 a "java/lang/AbstractStringBuilder" "value" "[B" (.ref b)) (P4 : Fld Z h0 a "java/lang/AbstractStringBuilder" "coder" "B" (.int (0 : Int32))) (P5 : Fld Z h0 a "java/lang/AbstractStringBuilder" "count" "I" (.int (Int32.ofNat cl.length))) (P6 : Arv Z h0 b qb .byte (Int32.ofNat cap) (own_sb cl cap) (.int (0 : Int32))) (P7 : N ≤ a) (P8 : N ≤ b) (P9 : a ≠ b) (hl : cl.length < cap) (hcap : cap < 2147483648) (hc : own_c c) :
    Cn l Z N b_b_apc #[(.ref a), (.int c)] h0 I (Q_b_apc Z N a b qb cl cap c cs h0 I) := by
  refine Cn.of_wk (Ls := #[.val (.ref a), .val (.int c)]) (plainFor_of_name (by first | (simp [plainName, overriddenIn]; done) | decide +kernel)) (fun m => ef_b_apc m a c) ?_
  refine Wk.aloadN (pc' := 1) d45_0 rfl rfl rfl ?_
  refine Wk.aloadN (pc' := 2) d45_1 rfl rfl rfl ?_
  refine Wk.getF (a0 := a0) (pc' := 5) (host := "") (Or.inl (w207 hw)) Via.refl P5 d45_2 rfl ?_
  refine Wk.iconst (pc' := 6) (v := 1) d45_5 rfl rfl ?_
  refine Wk.iadd (pc' := 7) d45_6 rfl ?_
  rw [own_snl cl c]
  refine Wk.callP (a0 := a0) (pc' := 10) (k' := 0) (n' := 0) (W := 0) (b := b_b_ens) (argsL := [(.int (Int32.ofNat (cl ++ [c]).length))]) (rest := []) (rm_b_ens hw a b qb (cl ++ [c]).length cap (own_sb cl cap) h0 I P3 P4 P6 (by rw [List.length_append]; exact hl) hcap) P2 (w209 hw) (w212 hw) rfl (w211 hw) (w210 hw) (w188 hw) (w213 hw) (by decide) (Nat.le_refl _) id (Nat.le_of_ble_eq_true rfl) (Nat.le_of_ble_eq_true rfl) rfl rfl (Nat.le_of_ble_eq_true rfl) (Nat.le_of_ble_eq_true rfl) rfl pd12 rfl rfl rfl (Nat.le_of_ble_eq_true rfl) d45_7 rfl fun v1 h2 J3 hs4 hQ5 => ?_
  obtain ⟨rfl, rfl, rfl⟩ := hQ5
  show Wk _ h0 0 0 I 10 #[.val (.ref a), .val (.int c)] []
  refine Wk.aloadN (pc' := 11) d45_10 rfl rfl rfl ?_
  refine Wk.callV (a0 := a0) (pc' := 14) (k' := 0) (n' := 0) (W := 0) (b := b_b_lat) (argsL := []) (rest := []) (y := (⟨"java/lang/AbstractStringBuilder", "isLatin1", "()Z"⟩ : MethodName)) (rm_b_lat hw a cs h0 I P0 G_cs P4) P2 (w240 hw) (w241 hw) (w243 hw) (w243 hw) (w242 hw) (w188 hw) (w244 hw) (by decide) (Nat.le_refl _) id (Nat.le_of_ble_eq_true rfl) (Nat.le_of_ble_eq_true rfl) rfl rfl (Nat.le_of_ble_eq_true rfl) (Nat.le_of_ble_eq_true rfl) rfl pd3 rfl rfl rfl (Nat.le_of_ble_eq_true rfl) d45_11 rfl fun v6 h7 J8 hs9 hQ10 => ?_
  obtain ⟨rfl, rfl, rfl⟩ := hQ10
  show Wk _ h0 0 0 I 14 #[.val (.ref a), .val (.int c)] [(.int (1 : Int32))]
  refine Wk.if_eqN (pc' := 17) d45_14 rfl (by decide) ?_
  refine Wk.iloadN (pc' := 18) d45_17 rfl rfl ?_
  refine Wk.callS (a0 := a0) (pc' := 21) (k' := 0) (n' := 0) (W := 0) (b := b_b_can) (argsL := [(.int c)]) (rest := []) (rm_b_can hw c h0 I hc) (w245 hw) (w246 hw) (w131 hw) (w247 hw) (by decide) (Nat.le_refl _) id (Nat.le_of_ble_eq_true rfl) (Nat.le_of_ble_eq_true rfl) rfl rfl (Nat.le_of_ble_eq_true rfl) (Nat.le_of_ble_eq_true rfl) rfl pd15 rfl rfl rfl (Nat.le_of_ble_eq_true rfl) d45_18 rfl fun v11 h12 J13 hs14 hQ15 => ?_
  obtain ⟨rfl, rfl, rfl⟩ := hQ15
  show Wk _ h0 0 0 I 21 #[.val (.ref a), .val (.int c)] [(.int (1 : Int32))]
  refine Wk.if_eqN (pc' := 24) d45_21 rfl (by decide) ?_
  refine Wk.aloadN (pc' := 25) d45_24 rfl rfl rfl ?_
  refine Wk.getF (a0 := a0) (pc' := 28) (host := "") (Or.inl (w192 hw)) Via.refl P3 d45_25 rfl ?_
  refine Wk.aloadN (pc' := 29) d45_28 rfl rfl rfl ?_
  refine Wk.dup (pc' := 30) d45_29 rfl rfl ?_
  refine Wk.getF (a0 := a0) (pc' := 33) (host := "") (Or.inl (w207 hw)) Via.refl P5 d45_30 rfl ?_
  refine Wk.dupX1 (pc' := 34) d45_33 rfl rfl rfl ?_
  refine Wk.iconst (pc' := 35) (v := 1) d45_34 rfl rfl ?_
  refine Wk.iadd (pc' := 36) d45_35 rfl ?_
  rw [own_snl cl c]
  refine Wk.putF (a0 := a0) (pc' := 39) (host := "") (Or.inl (w207 hw)) Via.refl P7 P5 P2 (Or.inl (w208 hw)) (w179 hw) (ty := .int) (by decide) rfl rfl d45_36 rfl fun h16 W17 => ?_
  have F18 := P5.same W17
  refine Wk.iloadN (pc' := 40) d45_39 rfl rfl ?_
  refine Wk.i2b (pc' := 41) d45_40 rfl ?_
  have f19 := (P6.other W17 (Ne.symm P9))
  refine Wk.bastore (pc' := 42) f19 P8 (own_in hl hcap) cl.length (own_clamp (by omega)) (by rw [own_sbl (by omega)]; exact hl) d45_41 rfl fun h20 W21 A22 => ?_
  have A23 : Arv Z h20 b qb .byte (Int32.ofNat cap) (own_sb (cl ++ [c]) cap) (.int (0 : Int32)) := by
    rw [← own_sbset hl, show own_by c = .int (nar .byte (own_b8 c)) from by rw [own_nb]; rfl]
    exact A22
  refine Wk.goto (pc' := 75) d45_42 (by decide) ?_
  refine Wk.aloadN (pc' := 76) d45_75 rfl rfl rfl ?_
  have f24 := ((P3.other W17 (Or.inr (slot_ne (Or.inl (w193 hw)) (Or.inl (w208 hw)) (by decide) (t := (.array .byte)) (t' := .int) (by decide) (by decide)))).other W21 (Or.inl P9))
  have f25 := ((P4.other W17 (Or.inr (slot_ne (Or.inl (w195 hw)) (Or.inl (w208 hw)) (by decide) (t := .byte) (t' := .int) (by decide) (by decide)))).other W21 (Or.inl P9))
  have f26 := (F18.other W21 (Or.inl P9))
  exact Wk.areturn rfl rfl rfl d45_76 (Nat.le_of_ble_eq_true rfl) (Nat.le_of_ble_eq_true rfl) ⟨rfl, rfl, (((Keep.refl h0 [a, b]).wr W17 (Or.inl (by simp))).wr W21 (Or.inl (by simp))), f24, f25, f26, A23⟩
theorem ef_b_apC (m : MethodId) (x0 : Addr) (x1 : Int32) : entryFrame m #[(.ref x0), (.int x1)] 2 = mkF m 0 #[.val (.ref x0), .val (.int x1)] [] := by first | (simp [entryFrame, mkF, argsToLocals, Value.category]; done) | rfl
abbrev b_b_apC : Bdy := ((⟨"java/lang/StringBuilder", "append", "(C)Ljava/lang/StringBuilder;"⟩ : MethodName), jdk_67_method_14_code, 2, (Option.some (Jvm.ClassFile.FieldType.object "java/lang/StringBuilder")), ({ frames := 2, cells := 0, slots := 0, locals := 27 } : Room))
def Q_b_apC (Z : State) (N : Nat) (a : Addr) (b : Addr) (qb : ClassId) (cl : List Int32) (cap : Nat) (c : Int32) (cs : Int32) (h0 : Heap) (I : Lts) (v : Option Value) (h : Heap) (J : Lts) : Prop := I = J ∧ v = some (.ref a) ∧ Keep h0 h [a, b] ∧ Fld Z h a "java/lang/AbstractStringBuilder" "value" "[B" (.ref b) ∧ Fld Z h a "java/lang/AbstractStringBuilder" "coder" "B" (.int (0 : Int32)) ∧ Fld Z h a "java/lang/AbstractStringBuilder" "count" "I" (.int (Int32.ofNat (cl ++ [c]).length)) ∧ Arv Z h b qb .byte (Int32.ofNat cap) (own_sb (cl ++ [c]) cap) (.int (0 : Int32))
set_option maxRecDepth 65536 in
set_option maxHeartbeats 40000000 in
theorem rm_b_apC {l : Launch} {Z : State} {a0 : Array Value} {N : Nat} (hw : ∀ d ∈ tables_1, d.before a0 Z = true) (a : Addr) (b : Addr) (qb : ClassId) (cl : List Int32) (cap : Nat) (c : Int32) (cs : Int32) (h0 : Heap) (I : Lts) (P0 : Sta Z Z.heap "java/lang/String" "COMPACT_STRINGS" "Z" (.int cs)) (G_cs : ¬ cs = (0 : Int32)) (P2 : Exa Z h0 a "java/lang/StringBuilder") (P3 : Fld Z h0 a "java/lang/AbstractStringBuilder" "value" "[B" (.ref b)) (P4 : Fld Z h0 a "java/lang/AbstractStringBuilder" "coder" "B" (.int (0 : Int32))) (P5 : Fld Z h0 a "java/lang/AbstractStringBuilder" "count" "I" (.int (Int32.ofNat cl.length))) (P6 : Arv Z h0 b qb .byte (Int32.ofNat cap) (own_sb cl cap) (.int (0 : Int32))) (P7 : N ≤ a) (P8 : N ≤ b) (P9 : a ≠ b) (hl : cl.length < cap) (hcap : cap < 2147483648) (hc : own_c c) :
    Cn l Z N b_b_apC #[(.ref a), (.int c)] h0 I (Q_b_apC Z N a b qb cl cap c cs h0 I) := by
  refine Cn.of_wk (Ls := #[.val (.ref a), .val (.int c)]) (plainFor_of_name (by first | (simp [plainName, overriddenIn]; done) | decide +kernel)) (fun m => ef_b_apC m a c) ?_
  refine Wk.aloadN (pc' := 1) d44_0 rfl rfl rfl ?_
  refine Wk.iloadN (pc' := 2) d44_1 rfl rfl ?_
  refine Wk.callZ (a0 := a0) (pc' := 5) (k' := 0) (n' := 0) (W := 0) (b := b_b_apc) (argsL := [(.int c)]) (rest := []) (rm_b_apc hw a b qb cl cap c cs h0 I P0 G_cs P2 P3 P4 P5 P6 P7 P8 P9 hl hcap hc) (Ins.self P2) (w236 hw) (w212 hw) rfl (by decide) (w237 hw) (w203 hw) (by decide) (w188 hw) (w239 hw) (Nat.le_refl _) id (Nat.le_of_ble_eq_true rfl) (Nat.le_of_ble_eq_true rfl) rfl rfl (Nat.le_of_ble_eq_true rfl) (Nat.le_of_ble_eq_true rfl) rfl pd16 rfl rfl rfl (Nat.le_of_ble_eq_true rfl) d44_2 rfl fun v1 h2 J3 hs4 hQ5 => ?_
  obtain ⟨rfl, rfl, K6, g7, g8, g9, g10⟩ := hQ5
  show Wk _ h2 0 0 I 5 #[.val (.ref a), .val (.int c)] [(.ref a)]
  refine Wk.pop (pc' := 6) d44_5 rfl rfl ?_
  refine Wk.aloadN (pc' := 7) d44_6 rfl rfl rfl ?_
  exact Wk.areturn rfl rfl rfl d44_7 (Nat.le_of_ble_eq_true rfl) (Nat.le_of_ble_eq_true rfl) ⟨rfl, rfl, ((Keep.refl h0 [a, b]).trans K6 (allS (Or.inl (by simp)) (allS (Or.inl (by simp)) all0))), g7, g8, g9, g10⟩
theorem ef_m_min (m : MethodId) (x0 : Int32) (x1 : Int32) : entryFrame m #[(.int x0), (.int x1)] 2 = mkF m 0 #[.val (.int x0), .val (.int x1)] [] := by first | (simp [entryFrame, mkF, argsToLocals, Value.category]; done) | rfl
abbrev b_m_min : Bdy := ((⟨"java/lang/Math", "min", "(II)I"⟩ : MethodName), jdk_29_method_69_code, 2, (Option.some Jvm.ClassFile.FieldType.int), ({ frames := 0, cells := 0, slots := 0, locals := 0 } : Room))
def Q_m_min (Z : State) (N : Nat) (i : Nat) (j : Nat) (h0 : Heap) (I : Lts) (v : Option Value) (h : Heap) (J : Lts) : Prop := I = J ∧ v = some (.int (Int32.ofNat j)) ∧ h0 = h
set_option maxRecDepth 65536 in
set_option maxHeartbeats 40000000 in
theorem rm_m_min {l : Launch} {Z : State} {a0 : Array Value} {N : Nat} (hw : ∀ d ∈ tables_1, d.before a0 Z = true) (i : Nat) (j : Nat) (h0 : Heap) (I : Lts) (hij : j ≤ i) (hi : i < 2147483648) :
    Cn l Z N b_m_min #[(.int (Int32.ofNat i)), (.int (Int32.ofNat j))] h0 I (Q_m_min Z N i j h0 I) := by
  refine Cn.of_wk (Ls := #[.val (.int (Int32.ofNat i)), .val (.int (Int32.ofNat j))]) (Jvm.Free.JP.mathPlain rfl (by decide +kernel)) (fun m => ef_m_min m (Int32.ofNat i) (Int32.ofNat j)) ?_
  refine Wk.iloadN (pc' := 1) d5_0 rfl rfl ?_
  refine Wk.iloadN (pc' := 2) d5_1 rfl rfl ?_
  by_cases c2_1 : (Int32.ofNat j) < (Int32.ofNat i)
  · refine Wk.icmp_gtY (pc' := 9) d5_2 (by decide) c2_1 ?_
    refine Wk.iloadN (pc' := 10) d5_9 rfl rfl ?_
    exact Wk.ireturn rfl d5_10 (Nat.le_of_ble_eq_true rfl) (Nat.le_of_ble_eq_true rfl) ⟨rfl, rfl, rfl⟩
  · refine Wk.icmp_gtN (pc' := 5) d5_2 rfl c2_1 ?_
    refine Wk.iloadN (pc' := 6) d5_5 rfl rfl ?_
    refine Wk.goto (pc' := 10) d5_6 (by decide) ?_
    exact Wk.ireturn rfl d5_10 (Nat.le_of_ble_eq_true rfl) (Nat.le_of_ble_eq_true rfl) ⟨rfl, (by rw [show i = j from by have := mt (own_lt (by omega) (by omega)).mpr c2_1; omega]), rfl⟩
theorem ef_a_chk (m : MethodId) (x0 : Int32) (x1 : Int32) : entryFrame m #[(.int x0), (.int x1)] 2 = mkF m 0 #[.val (.int x0), .val (.int x1)] [] := by first | (simp [entryFrame, mkF, argsToLocals, Value.category]; done) | rfl
abbrev b_a_chk : Bdy := ((⟨"java/util/Arrays", "checkLength", "(II)V"⟩ : MethodName), jdk_65_method_131_code, 2, (Option.none : Option Jvm.ClassFile.FieldType), ({ frames := 0, cells := 0, slots := 0, locals := 0 } : Room))
def Q_a_chk (Z : State) (N : Nat) (j : Nat) (h0 : Heap) (I : Lts) (v : Option Value) (h : Heap) (J : Lts) : Prop := I = J ∧ v = none ∧ h0 = h
set_option maxRecDepth 65536 in
set_option maxHeartbeats 40000000 in
theorem rm_a_chk {l : Launch} {Z : State} {a0 : Array Value} {N : Nat} (hw : ∀ d ∈ tables_1, d.before a0 Z = true) (j : Nat) (h0 : Heap) (I : Lts) (hj : j < 2147483648) :
    Cn l Z N b_a_chk #[(.int (0 : Int32)), (.int (Int32.ofNat j))] h0 I (Q_a_chk Z N j h0 I) := by
  refine Cn.of_wk (Ls := #[.val (.int (0 : Int32)), .val (.int (Int32.ofNat j))]) (plainFor_of_name (by first | (simp [plainName, overriddenIn]; done) | decide +kernel)) (fun m => ef_a_chk m (0 : Int32) (Int32.ofNat j)) ?_
  refine Wk.iloadN (pc' := 1) d34_0 rfl rfl ?_
  refine Wk.iloadN (pc' := 2) d34_1 rfl rfl ?_
  refine Wk.icmp_geY (pc' := 37) d34_2 (by decide) (own_nn hj) ?_
  exact Wk.return_ rfl d34_37 (Nat.le_of_ble_eq_true rfl) (Nat.le_of_ble_eq_true rfl) ⟨rfl, rfl, rfl⟩
theorem ef_a_crb (m : MethodId) (x0 : Addr) (x1 : Int32) (x2 : Int32) : entryFrame m #[(.ref x0), (.int x1), (.int x2)] 5 = mkF m 0 #[.val (.ref x0), .val (.int x1), .val (.int x2), .unset, .unset] [] := by first | (simp [entryFrame, mkF, argsToLocals, Value.category]; done) | rfl
abbrev b_a_crb : Bdy := ((⟨"java/util/Arrays", "copyOfRangeByte", "([BII)[B"⟩ : MethodName), jdk_65_method_133_code, 5, (Option.some (Jvm.ClassFile.FieldType.array Jvm.ClassFile.FieldType.byte)), ({ frames := 1, cells := 1, slots := 24, locals := 18 } : Room))
def Q_a_crb (Z : State) (N : Nat) (b : Addr) (qb : ClassId) (cl : List Int32) (cap : Nat) (h0 : Heap) (I : Lts) (v : Option Value) (h : Heap) (J : Lts) : Prop := ∃ r : Addr, ∃ qr : ClassId, I = J ∧ v = some (.ref r) ∧ Ext h0 h ∧ h0.size ≤ r ∧ N ≤ r ∧ Arv Z h r qr .byte (Int32.ofNat cl.length) (cl.map own_by) (.int (0 : Int32))
set_option maxRecDepth 65536 in
set_option maxHeartbeats 40000000 in
theorem rm_a_crb {l : Launch} {Z : State} {a0 : Array Value} {N : Nat} (hw : ∀ d ∈ tables_1, d.before a0 Z = true) (b : Addr) (qb : ClassId) (cl : List Int32) (cap : Nat) (h0 : Heap) (I : Lts) (P0 : Arv Z h0 b qb .byte (Int32.ofNat cap) (own_sb cl cap) (.int (0 : Int32))) (hl : cl.length < cap) (hcap : cap < 2147483648) (hm : cl.length ≤ 24) :
    Cn l Z N b_a_crb #[(.ref b), (.int (0 : Int32)), (.int (Int32.ofNat cl.length))] h0 I (Q_a_crb Z N b qb cl cap h0 I) := by
  refine Cn.of_wk (Ls := #[.val (.ref b), .val (.int (0 : Int32)), .val (.int (Int32.ofNat cl.length)), .unset, .unset]) (plainFor_of_name (by first | (simp [plainName, overriddenIn]; done) | decide +kernel)) (fun m => ef_a_crb m b (0 : Int32) (Int32.ofNat cl.length)) ?_
  refine Wk.iloadN (pc' := 1) d33_0 rfl rfl ?_
  refine Wk.iloadN (pc' := 2) d33_1 rfl rfl ?_
  refine Wk.callS (a0 := a0) (pc' := 5) (k' := 0) (n' := 0) (W := 0) (b := b_a_chk) (argsL := [(.int (0 : Int32)), (.int (Int32.ofNat cl.length))]) (rest := []) (rm_a_chk hw cl.length h0 I (by omega)) (w167 hw) (w168 hw) (w162 hw) (w169 hw) (by decide) (Nat.le_refl _) id (Nat.le_of_ble_eq_true rfl) (Nat.le_of_ble_eq_true rfl) rfl rfl (Nat.le_of_ble_eq_true rfl) (Nat.le_of_ble_eq_true rfl) rfl pd2 rfl rfl rfl (Nat.le_of_ble_eq_true rfl) d33_2 rfl fun v1 h2 J3 hs4 hQ5 => ?_
  obtain ⟨rfl, rfl, rfl⟩ := hQ5
  show Wk _ h0 0 0 I 5 #[.val (.ref b), .val (.int (0 : Int32)), .val (.int (Int32.ofNat cl.length)), .unset, .unset] []
  refine Wk.iloadN (pc' := 6) d33_5 rfl rfl ?_
  refine Wk.iloadN (pc' := 7) d33_6 rfl rfl ?_
  refine Wk.isub (pc' := 8) d33_7 rfl ?_
  rw [own_sub0]
  refine Wk.istoreN (pc' := 9) #[.val (.ref b), .val (.int (0 : Int32)), .val (.int (Int32.ofNat cl.length)), .val (.int (Int32.ofNat cl.length)), .unset] d33_8 rfl rfl ?_
  refine Wk.iloadN (pc' := 10) d33_9 rfl rfl ?_
  refine Wk.newP (a0 := a0) (aty := .byte) (pc' := 12) (k' := 1) (n' := 24) (cap := 24) (w25 hw) d33_10 rfl (own_nn (by omega)) (by rw [own_clamp (by omega)]; exact hm) (by decide) rfl rfl (Nat.le_of_ble_eq_true rfl) (Nat.le_of_ble_eq_true rfl) fun a6 h7 q8 hg9 hN10 E11 A12 => ?_
  have ne13 : b ≠ a6 := Nat.ne_of_lt (Nat.lt_of_lt_of_le P0.lt hg9)
  have A14 : Arv Z h7 a6 q8 .byte (Int32.ofNat cl.length) (List.replicate cl.length (.int 0)) (.int (0 : Int32)) := A12.pad (pad_rep [] _ cl.length)
  refine Wk.astore (pc' := 14) #[.val (.ref b), .val (.int (0 : Int32)), .val (.int (Int32.ofNat cl.length)), .val (.int (Int32.ofNat cl.length)), .val (.ref a6)] d33_12 rfl rfl rfl ?_
  refine Wk.aloadN (pc' := 15) d33_14 rfl rfl rfl ?_
  refine Wk.iloadN (pc' := 16) d33_15 rfl rfl ?_
  refine Wk.aload (pc' := 18) d33_16 rfl rfl rfl ?_
  refine Wk.iconst (pc' := 19) (v := 0) d33_18 rfl rfl ?_
  refine Wk.aloadN (pc' := 20) d33_19 rfl rfl rfl ?_
  have f15 := (P0.ext E11)
  refine Wk.arraylength (pc' := 21) f15 d33_20 rfl ?_
  refine Wk.iloadN (pc' := 22) d33_21 rfl rfl ?_
  refine Wk.isub (pc' := 23) d33_22 rfl ?_
  rw [own_sub0]
  refine Wk.iloadN (pc' := 24) d33_23 rfl rfl ?_
  refine Wk.callS (a0 := a0) (pc' := 27) (k' := 1) (n' := 24) (W := 4) (b := b_m_min) (argsL := [(.int (Int32.ofNat cap)), (.int (Int32.ofNat cl.length))]) (rest := [(.int (0 : Int32)), (.ref a6), (.int (0 : Int32)), (.ref b)]) (rm_m_min hw cap cl.length h7 I (by omega) hcap) (w170 hw) (w16 hw) (w17 hw) (w18 hw) (by decide) (Nat.le_refl _) id (Nat.le_of_ble_eq_true rfl) (Nat.le_of_ble_eq_true rfl) rfl rfl (Nat.le_of_ble_eq_true rfl) (Nat.le_of_ble_eq_true rfl) rfl pd17 rfl rfl rfl (Nat.le_of_ble_eq_true rfl) d33_24 rfl fun v16 h17 J18 hs19 hQ20 => ?_
  obtain ⟨rfl, rfl, rfl⟩ := hQ20
  show Wk _ h7 1 24 I 27 #[.val (.ref b), .val (.int (0 : Int32)), .val (.int (Int32.ofNat cl.length)), .val (.int (Int32.ofNat cl.length)), .val (.ref a6)] [(.int (Int32.ofNat cl.length)), (.int (0 : Int32)), (.ref a6), (.int (0 : Int32)), (.ref b)]
  refine Wk.arraycopy (a0 := a0) (pc' := 30) (W := 0) (us := (cl.map own_by)) f15 A14 (Or.inl ⟨rfl, rfl⟩) hN10 (w171 hw) (w174 hw) (w172 hw) (w173 hw) (by decide) (by decide) (own_nn (by omega)) (own_cp5z (by omega) hcap) (own_cp5z (Nat.le_refl _) (by omega)) (own_us0 (own_sbtake (by omega)) (by rw [own_sbl (by omega)]; omega) (by omega)) (by rw [own_c0, own_clamp (by omega), List.length_replicate]; omega) rfl d33_27 rfl (Nat.le_of_ble_eq_true rfl) (Nat.le_of_ble_eq_true rfl) (Nat.le_of_ble_eq_true rfl) fun h21 K22 A23 => ?_
  have A24 : Arv Z h21 a6 q8 .byte (Int32.ofNat cl.length) (cl.map own_by) (.int (0 : Int32)) := by
    have q := A23
    rw [own_c0, own_clamp (by omega), own_cpfull (by simp)] at q
    exact q
  refine Wk.aload (pc' := 32) d33_30 rfl rfl rfl ?_
  exact Wk.areturn rfl rfl rfl d33_32 (Nat.le_of_ble_eq_true rfl) (Nat.le_of_ble_eq_true rfl) ⟨a6, q8, rfl, rfl, (own_ext (((Keep.refl h0 []).ext E11).trans K22 (allS (Or.inr hg9) all0))), hg9, hN10, A24⟩
theorem ef_a_cor (m : MethodId) (x0 : Addr) (x1 : Int32) (x2 : Int32) : entryFrame m #[(.ref x0), (.int x1), (.int x2)] 3 = mkF m 0 #[.val (.ref x0), .val (.int x1), .val (.int x2)] [] := by first | (simp [entryFrame, mkF, argsToLocals, Value.category]; done) | rfl
abbrev b_a_cor : Bdy := ((⟨"java/util/Arrays", "copyOfRange", "([BII)[B"⟩ : MethodName), jdk_65_method_132_code, 3, (Option.some (Jvm.ClassFile.FieldType.array Jvm.ClassFile.FieldType.byte)), ({ frames := 2, cells := 1, slots := 24, locals := 34 } : Room))
def Q_a_cor (Z : State) (N : Nat) (b : Addr) (qb : ClassId) (cl : List Int32) (cap : Nat) (h0 : Heap) (I : Lts) (v : Option Value) (h : Heap) (J : Lts) : Prop := ∃ r : Addr, ∃ qr : ClassId, I = J ∧ v = some (.ref r) ∧ Ext h0 h ∧ h0.size ≤ r ∧ N ≤ r ∧ Arv Z h r qr .byte (Int32.ofNat cl.length) (cl.map own_by) (.int (0 : Int32))
set_option maxRecDepth 65536 in
set_option maxHeartbeats 40000000 in
theorem rm_a_cor {l : Launch} {Z : State} {a0 : Array Value} {N : Nat} (hw : ∀ d ∈ tables_1, d.before a0 Z = true) (b : Addr) (qb : ClassId) (cl : List Int32) (cap : Nat) (h0 : Heap) (I : Lts) (P0 : Arv Z h0 b qb .byte (Int32.ofNat cap) (own_sb cl cap) (.int (0 : Int32))) (hl : cl.length < cap) (hcap : cap < 2147483648) (hm : cl.length ≤ 24) :
    Cn l Z N b_a_cor #[(.ref b), (.int (0 : Int32)), (.int (Int32.ofNat cl.length))] h0 I (Q_a_cor Z N b qb cl cap h0 I) := by
  refine Cn.of_wk (Ls := #[.val (.ref b), .val (.int (0 : Int32)), .val (.int (Int32.ofNat cl.length))]) (plainFor_of_name (by first | (simp [plainName, overriddenIn]; done) | decide +kernel)) (fun m => ef_a_cor m b (0 : Int32) (Int32.ofNat cl.length)) ?_
  refine Wk.iloadN (pc' := 1) d32_0 rfl rfl ?_
  refine Wk.if_neN (pc' := 4) d32_1 rfl rfl ?_
  refine Wk.iloadN (pc' := 5) d32_4 rfl rfl ?_
  refine Wk.aloadN (pc' := 6) d32_5 rfl rfl rfl ?_
  refine Wk.arraylength (pc' := 7) P0 d32_6 rfl ?_
  refine Wk.icmp_eqN (pc' := 10) d32_7 rfl (mt (own_eq (by omega) hcap).mp (by omega)) ?_
  refine Wk.aloadN (pc' := 11) d32_10 rfl rfl rfl ?_
  refine Wk.iloadN (pc' := 12) d32_11 rfl rfl ?_
  refine Wk.iloadN (pc' := 13) d32_12 rfl rfl ?_
  refine Wk.callS (a0 := a0) (pc' := 16) (k' := 1) (n' := 24) (W := 0) (b := b_a_crb) (argsL := [(.ref b), (.int (0 : Int32)), (.int (Int32.ofNat cl.length))]) (rest := []) (rm_a_crb hw b qb cl cap h0 I P0 hl hcap hm) (w164 hw) (w165 hw) (w162 hw) (w166 hw) (by decide) (Nat.le_refl _) id (Nat.le_of_ble_eq_true rfl) (Nat.le_of_ble_eq_true rfl) rfl rfl (Nat.le_of_ble_eq_true rfl) (Nat.le_of_ble_eq_true rfl) rfl pd18 rfl rfl rfl (Nat.le_of_ble_eq_true rfl) d32_13 rfl fun v1 h2 J3 hs4 hQ5 => ?_
  obtain ⟨r6, qr7, rfl, rfl, E8, g9, g10, g11⟩ := hQ5
  have ne12 : b ≠ r6 := Nat.ne_of_lt (Nat.lt_of_lt_of_le P0.lt g9)
  show Wk _ h2 1 24 I 16 #[.val (.ref b), .val (.int (0 : Int32)), .val (.int (Int32.ofNat cl.length))] [(.ref r6)]
  exact Wk.areturn rfl rfl rfl d32_16 (Nat.le_of_ble_eq_true rfl) (Nat.le_of_ble_eq_true rfl) ⟨r6, qr7, rfl, rfl, (own_ext ((Keep.refl h0 []).ext E8)), g9, g10, g11⟩
theorem ef_t_in2 (m : MethodId) (x0 : Addr) (x1 : Addr) : entryFrame m #[(.ref x0), (.ref x1), .null] 5 = mkF m 0 #[.val (.ref x0), .val (.ref x1), .val .null, .unset, .unset] [] := by first | (simp [entryFrame, mkF, argsToLocals, Value.category]; done) | rfl
abbrev b_t_in2 : Bdy := ((⟨"java/lang/String", "<init>", "(Ljava/lang/AbstractStringBuilder;Ljava/lang/Void;)V"⟩ : MethodName), jdk_42_method_150_code, 5, (Option.none : Option Jvm.ClassFile.FieldType), ({ frames := 3, cells := 1, slots := 24, locals := 49 } : Room))
def Q_t_in2 (Z : State) (N : Nat) (t : Addr) (a : Addr) (b : Addr) (qb : ClassId) (cl : List Int32) (cap : Nat) (cs : Int32) (h0 : Heap) (I : Lts) (v : Option Value) (h : Heap) (J : Lts) : Prop := ∃ v' : Addr, ∃ q' : ClassId, I = J ∧ v = none ∧ Keep h0 h [t] ∧ Fld Z h t "java/lang/String" "value" "[B" (.ref v') ∧ Fld Z h t "java/lang/String" "coder" "B" (.int (0 : Int32)) ∧ Arv Z h v' q' .byte (Int32.ofNat cl.length) (cl.map own_by) (.int (0 : Int32))
set_option maxRecDepth 65536 in
set_option maxHeartbeats 40000000 in
theorem rm_t_in2 {l : Launch} {Z : State} {a0 : Array Value} {N : Nat} (hw : ∀ d ∈ tables_1, d.before a0 Z = true) (t : Addr) (a : Addr) (b : Addr) (qb : ClassId) (cl : List Int32) (cap : Nat) (cs : Int32) (h0 : Heap) (I : Lts) (P0 : Sta Z Z.heap "java/lang/String" "COMPACT_STRINGS" "Z" (.int cs)) (G_cs : ¬ cs = (0 : Int32)) (P2 : Exa Z h0 t "java/lang/String") (P3 : Fld Z h0 t "java/lang/String" "value" "[B" .null) (P4 : Fld Z h0 t "java/lang/String" "coder" "B" (.int (0 : Int32))) (P5 : N ≤ t) (P6 : Exa Z h0 a "java/lang/StringBuilder") (P7 : Fld Z h0 a "java/lang/AbstractStringBuilder" "value" "[B" (.ref b)) (P8 : Fld Z h0 a "java/lang/AbstractStringBuilder" "coder" "B" (.int (0 : Int32))) (P9 : Fld Z h0 a "java/lang/AbstractStringBuilder" "count" "I" (.int (Int32.ofNat cl.length))) (P10 : Arv Z h0 b qb .byte (Int32.ofNat cap) (own_sb cl cap) (.int (0 : Int32))) (P11 : t ≠ a) (P12 : t ≠ b) (hl : cl.length < cap) (hcap : cap < 2147483648) (hm : cl.length ≤ 24) :
    Cn l Z N b_t_in2 #[(.ref t), (.ref a), .null] h0 I (Q_t_in2 Z N t a b qb cl cap cs h0 I) := by
  refine Cn.of_wk (Ls := #[.val (.ref t), .val (.ref a), .val .null, .unset, .unset]) (plainFor_of_name (by first | (simp [plainName, overriddenIn]; done) | decide +kernel)) (fun m => ef_t_in2 m t a) ?_
  refine Wk.aloadN (pc' := 1) d50_0 rfl rfl rfl ?_
  refine Wk.initO (a0 := a0) (pc' := 4) (W := 0) (w56 hw) (w39 hw) (w40 hw) rfl d50_1 rfl (Nat.le_of_ble_eq_true rfl) (Nat.le_of_ble_eq_true rfl) (Nat.le_of_ble_eq_true rfl) ?_
  refine Wk.aloadN (pc' := 5) d50_4 rfl rfl rfl ?_
  refine Wk.callV (a0 := a0) (pc' := 8) (k' := 0) (n' := 0) (W := 0) (b := b_b_val) (argsL := []) (rest := []) (y := (⟨"java/lang/AbstractStringBuilder", "getValue", "()[B"⟩ : MethodName)) (rm_b_val hw a b h0 I P7) P6 (w260 hw) (w261 hw) (w263 hw) (w263 hw) (w262 hw) (w188 hw) (w264 hw) (by decide) (Nat.le_refl _) id (Nat.le_of_ble_eq_true rfl) (Nat.le_of_ble_eq_true rfl) rfl rfl (Nat.le_of_ble_eq_true rfl) (Nat.le_of_ble_eq_true rfl) rfl pd19 rfl rfl rfl (Nat.le_of_ble_eq_true rfl) d50_5 rfl fun v1 h2 J3 hs4 hQ5 => ?_
  obtain ⟨rfl, rfl, rfl⟩ := hQ5
  show Wk _ h0 0 0 I 8 #[.val (.ref t), .val (.ref a), .val .null, .unset, .unset] [(.ref b)]
  refine Wk.astoreN (pc' := 9) #[.val (.ref t), .val (.ref a), .val .null, .val (.ref b), .unset] d50_8 rfl rfl rfl ?_
  refine Wk.aloadN (pc' := 10) d50_9 rfl rfl rfl ?_
  refine Wk.callV2 (a0 := a0) (pc' := 13) (k' := 0) (n' := 0) (W := 0) (b := b_b_len2) (argsL := []) (rest := []) (y := (⟨"java/lang/AbstractStringBuilder", "length", "()I"⟩ : MethodName)) (rm_b_len2 hw a cl h0 I P6 P9) P6 (w265 hw) (w266 hw) (w212 hw) rfl (w268 hw) (w269 hw) (w180 hw) (w270 hw) (by decide) (Nat.le_refl _) id (Nat.le_of_ble_eq_true rfl) (Nat.le_of_ble_eq_true rfl) rfl rfl (Nat.le_of_ble_eq_true rfl) (Nat.le_of_ble_eq_true rfl) rfl pd9 rfl rfl rfl (Nat.le_of_ble_eq_true rfl) d50_10 rfl fun v6 h7 J8 hs9 hQ10 => ?_
  obtain ⟨rfl, rfl, rfl⟩ := hQ10
  show Wk _ h0 0 0 I 13 #[.val (.ref t), .val (.ref a), .val .null, .val (.ref b), .unset] [(.int (Int32.ofNat cl.length))]
  refine Wk.istore (pc' := 15) #[.val (.ref t), .val (.ref a), .val .null, .val (.ref b), .val (.int (Int32.ofNat cl.length))] d50_13 rfl rfl ?_
  refine Wk.aloadN (pc' := 16) d50_15 rfl rfl rfl ?_
  refine Wk.callV (a0 := a0) (pc' := 19) (k' := 0) (n' := 0) (W := 0) (b := b_b_lat) (argsL := []) (rest := []) (y := (⟨"java/lang/AbstractStringBuilder", "isLatin1", "()Z"⟩ : MethodName)) (rm_b_lat hw a cs h0 I P0 G_cs P8) P6 (w273 hw) (w241 hw) (w243 hw) (w243 hw) (w242 hw) (w188 hw) (w244 hw) (by decide) (Nat.le_refl _) id (Nat.le_of_ble_eq_true rfl) (Nat.le_of_ble_eq_true rfl) rfl rfl (Nat.le_of_ble_eq_true rfl) (Nat.le_of_ble_eq_true rfl) rfl pd3 rfl rfl rfl (Nat.le_of_ble_eq_true rfl) d50_16 rfl fun v11 h12 J13 hs14 hQ15 => ?_
  obtain ⟨rfl, rfl, rfl⟩ := hQ15
  show Wk _ h0 0 0 I 19 #[.val (.ref t), .val (.ref a), .val .null, .val (.ref b), .val (.int (Int32.ofNat cl.length))] [(.int (1 : Int32))]
  refine Wk.if_eqN (pc' := 22) d50_19 rfl (by decide) ?_
  refine Wk.aloadN (pc' := 23) d50_22 rfl rfl rfl ?_
  refine Wk.iconst (pc' := 24) (v := 0) d50_23 rfl rfl ?_
  refine Wk.putFN (a0 := a0) (pc' := 27) (v' := (.int (0 : Int32))) (w68 hw) Via.refl P5 P4 P2 (Or.inr ⟨(w27 hw), rfl, rfl⟩) (w24 hw) (ty := .byte) (by decide) rfl rfl d50_24 rfl fun h16 W17 => ?_
  have F18 := P4.same W17
  refine Wk.aloadN (pc' := 28) d50_27 rfl rfl rfl ?_
  refine Wk.aloadN (pc' := 29) d50_28 rfl rfl rfl ?_
  refine Wk.iconst (pc' := 30) (v := 0) d50_29 rfl rfl ?_
  refine Wk.iload (pc' := 32) d50_30 rfl rfl ?_
  have f19 := (P10.other W17 (Ne.symm P12))
  refine Wk.callS (a0 := a0) (pc' := 35) (k' := 1) (n' := 24) (W := 1) (b := b_a_cor) (argsL := [(.ref b), (.int (0 : Int32)), (.int (Int32.ofNat cl.length))]) (rest := [(.ref t)]) (rm_a_cor hw b qb cl cap h16 I f19 hl hcap hm) (w274 hw) (w161 hw) (w162 hw) (w163 hw) (by decide) (Nat.le_refl _) id (Nat.le_of_ble_eq_true rfl) (Nat.le_of_ble_eq_true rfl) rfl rfl (Nat.le_of_ble_eq_true rfl) (Nat.le_of_ble_eq_true rfl) rfl pd18 rfl rfl rfl (Nat.le_of_ble_eq_true rfl) d50_32 rfl fun v20 h21 J22 hs23 hQ24 => ?_
  obtain ⟨r25, qr26, rfl, rfl, E27, g28, g29, g30⟩ := hQ24
  have ne31 : t ≠ r25 := Nat.ne_of_lt (Nat.lt_of_lt_of_le (P2.wr W17).lt g28)
  have ne32 : a ≠ r25 := Nat.ne_of_lt (Nat.lt_of_lt_of_le (P6.wr W17).lt g28)
  have ne33 : b ≠ r25 := Nat.ne_of_lt (Nat.lt_of_lt_of_le f19.lt g28)
  show Wk _ h21 1 24 I 35 #[.val (.ref t), .val (.ref a), .val .null, .val (.ref b), .val (.int (Int32.ofNat cl.length))] [(.ref r25), (.ref t)]
  have f34 := ((P2.wr W17).ext E27)
  have f35 := ((P3.other W17 (Or.inr (slot_ne (Or.inr (w26 hw)) (Or.inr (w27 hw)) (by decide) (t := (.array .byte)) (t' := .byte) (by decide) (by decide)))).ext E27)
  refine Wk.putF (a0 := a0) (pc' := 38) (host := "") (Or.inl (w69 hw)) Via.refl P5 f35 f34 (Or.inr ⟨(w26 hw), rfl, rfl⟩) (w24 hw) (ty := (.array .byte)) (by decide) rfl rfl d50_35 rfl fun h36 W37 => ?_
  have F38 := f35.same W37
  refine Wk.goto (pc' := 97) d50_38 (by decide) ?_
  have f39 := (g30.other W37 (Ne.symm ne31))
  have f40 := ((F18.ext E27).other W37 (Or.inr (slot_ne (Or.inr (w27 hw)) (Or.inr (w26 hw)) (by decide) (t := .byte) (t' := (.array .byte)) (by decide) (by decide))))
  exact Wk.return_ rfl d50_97 (Nat.le_of_ble_eq_true rfl) (Nat.le_of_ble_eq_true rfl) ⟨r25, qr26, rfl, rfl, ((((Keep.refl h0 [t]).wr W17 (Or.inl (by simp))).ext E27).wr W37 (Or.inl (by simp))), F38, f40, f39⟩
theorem ef_t_in1 (m : MethodId) (x0 : Addr) (x1 : Addr) : entryFrame m #[(.ref x0), (.ref x1)] 2 = mkF m 0 #[.val (.ref x0), .val (.ref x1)] [] := by first | (simp [entryFrame, mkF, argsToLocals, Value.category]; done) | rfl
abbrev b_t_in1 : Bdy := ((⟨"java/lang/String", "<init>", "(Ljava/lang/StringBuilder;)V"⟩ : MethodName), jdk_42_method_53_code, 2, (Option.none : Option Jvm.ClassFile.FieldType), ({ frames := 4, cells := 1, slots := 24, locals := 65 } : Room))
def Q_t_in1 (Z : State) (N : Nat) (t : Addr) (a : Addr) (b : Addr) (qb : ClassId) (cl : List Int32) (cap : Nat) (cs : Int32) (h0 : Heap) (I : Lts) (v : Option Value) (h : Heap) (J : Lts) : Prop := ∃ v' : Addr, ∃ q' : ClassId, I = J ∧ v = none ∧ Keep h0 h [t] ∧ Fld Z h t "java/lang/String" "value" "[B" (.ref v') ∧ Fld Z h t "java/lang/String" "coder" "B" (.int (0 : Int32)) ∧ Arv Z h v' q' .byte (Int32.ofNat cl.length) (cl.map own_by) (.int (0 : Int32))
set_option maxRecDepth 65536 in
set_option maxHeartbeats 40000000 in
theorem rm_t_in1 {l : Launch} {Z : State} {a0 : Array Value} {N : Nat} (hw : ∀ d ∈ tables_1, d.before a0 Z = true) (t : Addr) (a : Addr) (b : Addr) (qb : ClassId) (cl : List Int32) (cap : Nat) (cs : Int32) (h0 : Heap) (I : Lts) (P0 : Sta Z Z.heap "java/lang/String" "COMPACT_STRINGS" "Z" (.int cs)) (G_cs : ¬ cs = (0 : Int32)) (P2 : Exa Z h0 t "java/lang/String") (P3 : Fld Z h0 t "java/lang/String" "value" "[B" .null) (P4 : Fld Z h0 t "java/lang/String" "coder" "B" (.int (0 : Int32))) (P5 : N ≤ t) (P6 : Exa Z h0 a "java/lang/StringBuilder") (P7 : Fld Z h0 a "java/lang/AbstractStringBuilder" "value" "[B" (.ref b)) (P8 : Fld Z h0 a "java/lang/AbstractStringBuilder" "coder" "B" (.int (0 : Int32))) (P9 : Fld Z h0 a "java/lang/AbstractStringBuilder" "count" "I" (.int (Int32.ofNat cl.length))) (P10 : Arv Z h0 b qb .byte (Int32.ofNat cap) (own_sb cl cap) (.int (0 : Int32))) (P11 : t ≠ a) (P12 : t ≠ b) (hl : cl.length < cap) (hcap : cap < 2147483648) (hm : cl.length ≤ 24) :
    Cn l Z N b_t_in1 #[(.ref t), (.ref a)] h0 I (Q_t_in1 Z N t a b qb cl cap cs h0 I) := by
  refine Cn.of_wk (Ls := #[.val (.ref t), .val (.ref a)]) (plainFor_of_name (by first | (simp [plainName, overriddenIn]; done) | decide +kernel)) (fun m => ef_t_in1 m t a) ?_
  refine Wk.aloadN (pc' := 1) d49_0 rfl rfl rfl ?_
  refine Wk.aloadN (pc' := 2) d49_1 rfl rfl rfl ?_
  refine Wk.aconstNull (pc' := 3) d49_2 rfl ?_
  refine Wk.callN (a0 := a0) (pc' := 6) (k' := 1) (n' := 24) (W := 0) (b := b_t_in2) (argsL := [(.ref a), .null]) (rest := []) (rm_t_in2 hw t a b qb cl cap cs h0 I P0 G_cs P2 P3 P4 P5 P6 P7 P8 P9 P10 P11 P12 hl hcap hm) rfl rfl (w257 hw) (w258 hw) (w23 hw) (w259 hw) (by decide) (Nat.le_refl _) id (Nat.le_of_ble_eq_true rfl) (Nat.le_of_ble_eq_true rfl) rfl rfl (Nat.le_of_ble_eq_true rfl) (Nat.le_of_ble_eq_true rfl) rfl pd20 rfl rfl rfl (Nat.le_of_ble_eq_true rfl) d49_3 rfl fun v1 h2 J3 hs4 hQ5 => ?_
  obtain ⟨v'6, q'7, rfl, rfl, K8, g9, g10, g11⟩ := hQ5
  show Wk _ h2 1 24 I 6 #[.val (.ref t), .val (.ref a)] []
  exact Wk.return_ rfl d49_6 (Nat.le_of_ble_eq_true rfl) (Nat.le_of_ble_eq_true rfl) ⟨v'6, q'7, rfl, rfl, ((Keep.refl h0 [t]).trans K8 (allS (Or.inl (by simp)) all0)), g9, g10, g11⟩
theorem ef_t_str (m : MethodId) (x0 : Addr) : entryFrame m #[(.ref x0)] 1 = mkF m 0 #[.val (.ref x0)] [] := by first | (simp [entryFrame, mkF, argsToLocals, Value.category]; done) | rfl
abbrev b_t_str : Bdy := ((⟨"java/lang/StringBuilder", "toString", "()Ljava/lang/String;"⟩ : MethodName), jdk_67_method_42_code, 1, (Option.some (Jvm.ClassFile.FieldType.object "java/lang/String")), ({ frames := 5, cells := 2, slots := 28, locals := 79 } : Room))
def Q_t_str (Z : State) (N : Nat) (a : Addr) (b : Addr) (qb : ClassId) (cl : List Int32) (cap : Nat) (cs : Int32) (h0 : Heap) (I : Lts) (v : Option Value) (h : Heap) (J : Lts) : Prop := ∃ r : Addr, ∃ v' : Addr, ∃ q' : ClassId, I = J ∧ v = some (.ref r) ∧ Ext h0 h ∧ h0.size ≤ r ∧ Exa Z h r "java/lang/String" ∧ Fld Z h r "java/lang/String" "value" "[B" (.ref v') ∧ Fld Z h r "java/lang/String" "coder" "B" (.int (0 : Int32)) ∧ Arv Z h v' q' .byte (Int32.ofNat cl.length) (cl.map own_by) (.int (0 : Int32))
set_option maxRecDepth 65536 in
set_option maxHeartbeats 40000000 in
theorem rm_t_str {l : Launch} {Z : State} {a0 : Array Value} {N : Nat} (hw : ∀ d ∈ tables_1, d.before a0 Z = true) (a : Addr) (b : Addr) (qb : ClassId) (cl : List Int32) (cap : Nat) (cs : Int32) (h0 : Heap) (I : Lts) (P0 : Sta Z Z.heap "java/lang/String" "COMPACT_STRINGS" "Z" (.int cs)) (G_cs : ¬ cs = (0 : Int32)) (P2 : Exa Z h0 a "java/lang/StringBuilder") (P3 : Fld Z h0 a "java/lang/AbstractStringBuilder" "value" "[B" (.ref b)) (P4 : Fld Z h0 a "java/lang/AbstractStringBuilder" "coder" "B" (.int (0 : Int32))) (P5 : Fld Z h0 a "java/lang/AbstractStringBuilder" "count" "I" (.int (Int32.ofNat cl.length))) (P6 : Arv Z h0 b qb .byte (Int32.ofNat cap) (own_sb cl cap) (.int (0 : Int32))) (hl : cl.length < cap) (hcap : cap < 2147483648) (hm : cl.length ≤ 24) :
    Cn l Z N b_t_str #[(.ref a)] h0 I (Q_t_str Z N a b qb cl cap cs h0 I) := by
  refine Cn.of_wk (Ls := #[.val (.ref a)]) (plainFor_of_name (by first | (simp [plainName, overriddenIn]; done) | decide +kernel)) (fun m => ef_t_str m a) ?_
  refine Wk.newO (a0 := a0) (pc' := 3) (k' := 1) (n' := 4) (w253 hw) (w24 hw) (w23 hw) d48_0 rfl rfl rfl (Nat.le_of_ble_eq_true rfl) (Nat.le_of_ble_eq_true rfl) fun a1 h2 hg3 hN4 E5 A6 D7 => ?_
  have ne8 : a ≠ a1 := Nat.ne_of_lt (Nat.lt_of_lt_of_le P2.lt hg3)
  have ne9 : b ≠ a1 := Nat.ne_of_lt (Nat.lt_of_lt_of_le P6.lt hg3)
  have F10 : Fld Z h2 a1 "java/lang/String" "value" "[B" .null := D7 (Or.inr (w26 hw)) (ty := (.array .byte)) (by decide)
  have F11 : Fld Z h2 a1 "java/lang/String" "coder" "B" (.int (0 : Int32)) := D7 (Or.inr (w27 hw)) (ty := .byte) (by decide)
  refine Wk.dup (pc' := 4) d48_3 rfl rfl ?_
  refine Wk.aloadN (pc' := 5) d48_4 rfl rfl rfl ?_
  have f12 := (P2.ext E5)
  have f13 := (P3.ext E5)
  have f14 := (P4.ext E5)
  have f15 := (P5.ext E5)
  have f16 := (P6.ext E5)
  refine Wk.callN (a0 := a0) (pc' := 8) (k' := 2) (n' := 28) (W := 1) (b := b_t_in1) (argsL := [(.ref a)]) (rest := [(.ref a1)]) (rm_t_in1 hw a1 a b qb cl cap cs h2 I P0 G_cs A6 F10 F11 hN4 f12 f13 f14 f15 f16 (Ne.symm ne8) (Ne.symm ne9) hl hcap hm) rfl rfl (w254 hw) (w255 hw) (w23 hw) (w256 hw) (by decide) (Nat.le_refl _) id (Nat.le_of_ble_eq_true rfl) (Nat.le_of_ble_eq_true rfl) rfl rfl (Nat.le_of_ble_eq_true rfl) (Nat.le_of_ble_eq_true rfl) rfl pd21 rfl rfl rfl (Nat.le_of_ble_eq_true rfl) d48_5 rfl fun v17 h18 J19 hs20 hQ21 => ?_
  obtain ⟨v'22, q'23, rfl, rfl, K24, g25, g26, g27⟩ := hQ21
  show Wk _ h18 2 28 I 8 #[.val (.ref a)] [(.ref a1)]
  have f28 := (A6.keep K24)
  exact Wk.areturn rfl rfl rfl d48_8 (Nat.le_of_ble_eq_true rfl) (Nat.le_of_ble_eq_true rfl) ⟨a1, v'22, q'23, rfl, rfl, (own_ext (((Keep.refl h0 []).ext E5).trans K24 (allS (Or.inr hg3) all0))), hg3, f28, g25, g26, g27⟩
theorem ef_pik (m : MethodId) (x0 : Int32) : entryFrame m #[(.int x0)] 2 = mkF m 0 #[.val (.int x0), .unset] [] := by first | (simp [entryFrame, mkF, argsToLocals, Value.category]; done) | rfl
abbrev b_pik : Bdy := ((⟨"com/example/quittance/quittance/SegmentEndPinLaw", "pick", "(I)C"⟩ : MethodName), method_3_code, 2, (Option.some Jvm.ClassFile.FieldType.char), ({ frames := 0, cells := 0, slots := 0, locals := 0 } : Room))
def Q_pik (Z : State) (N : Nat) (u : Int32) (h0 : Heap) (I : Lts) (v : Option Value) (h : Heap) (J : Lts) : Prop := ∃ c : Int32, I = J ∧ v = some (.int c) ∧ h0 = h ∧ own_c c
set_option maxRecDepth 65536 in
set_option maxHeartbeats 40000000 in
theorem rm_pik {l : Launch} {Z : State} {a0 : Array Value} {N : Nat} (hw : ∀ d ∈ tables_1, d.before a0 Z = true) (u : Int32) (h0 : Heap) (I : Lts) :
    Cn l Z N b_pik #[(.int u)] h0 I (Q_pik Z N u h0 I) := by
  refine Cn.of_wk (Ls := #[.val (.int u), .unset]) (plainFor_of_name (by first | (simp [plainName, overriddenIn]; done) | decide +kernel)) (fun m => ef_pik m u) ?_
  refine Wk.iloadN (pc' := 1) d1_0 rfl rfl ?_
  refine Wk.bipush (pc' := 3) (v := 7) d1_1 rfl rfl ?_
  refine Wk.iand (pc' := 4) d1_3 rfl ?_
  refine Wk.istoreN (pc' := 5) #[.val (.int u), .val (.int (u &&& (7 : Int32)))] d1_4 rfl rfl ?_
  refine Wk.iloadN (pc' := 6) d1_5 rfl rfl ?_
  by_cases c6_1 : (u &&& (7 : Int32)) = (0 : Int32)
  · refine Wk.if_eqY (pc' := 14) d1_6 (by decide) c6_1 ?_
    refine Wk.bipush (pc' := 16) (v := 124) d1_14 rfl rfl ?_
    exact Wk.zreturn rfl (by simp) d1_16 (Nat.le_of_ble_eq_true rfl) (Nat.le_of_ble_eq_true rfl) ⟨_, rfl, rfl, rfl, (show own_c _ from ⟨by decide, by decide⟩)⟩
  · refine Wk.if_eqN (pc' := 9) d1_6 rfl c6_1 ?_
    refine Wk.iloadN (pc' := 10) d1_9 rfl rfl ?_
    refine Wk.iconst (pc' := 11) (v := 1) d1_10 rfl rfl ?_
    by_cases c11_2 : (u &&& (7 : Int32)) = (1 : Int32)
    · refine Wk.icmp_neN (pc' := 14) d1_11 rfl c11_2 ?_
      refine Wk.bipush (pc' := 16) (v := 124) d1_14 rfl rfl ?_
      exact Wk.zreturn rfl (by simp) d1_16 (Nat.le_of_ble_eq_true rfl) (Nat.le_of_ble_eq_true rfl) ⟨_, rfl, rfl, rfl, (show own_c _ from ⟨by decide, by decide⟩)⟩
    · refine Wk.icmp_neY (pc' := 17) d1_11 (by decide) c11_2 ?_
      refine Wk.iloadN (pc' := 18) d1_17 rfl rfl ?_
      refine Wk.iconst (pc' := 19) (v := 2) d1_18 rfl rfl ?_
      by_cases c19_3 : (u &&& (7 : Int32)) = (2 : Int32)
      · refine Wk.icmp_neN (pc' := 22) d1_19 rfl c19_3 ?_
        refine Wk.bipush (pc' := 24) (v := 77) d1_22 rfl rfl ?_
        exact Wk.zreturn rfl (by simp) d1_24 (Nat.le_of_ble_eq_true rfl) (Nat.le_of_ble_eq_true rfl) ⟨_, rfl, rfl, rfl, (show own_c _ from ⟨by decide, by decide⟩)⟩
      · refine Wk.icmp_neY (pc' := 25) d1_19 (by decide) c19_3 ?_
        refine Wk.iloadN (pc' := 26) d1_25 rfl rfl ?_
        refine Wk.iconst (pc' := 27) (v := 3) d1_26 rfl rfl ?_
        by_cases c27_4 : (u &&& (7 : Int32)) = (3 : Int32)
        · refine Wk.icmp_neN (pc' := 30) d1_27 rfl c27_4 ?_
          refine Wk.bipush (pc' := 32) (v := 83) d1_30 rfl rfl ?_
          exact Wk.zreturn rfl (by simp) d1_32 (Nat.le_of_ble_eq_true rfl) (Nat.le_of_ble_eq_true rfl) ⟨_, rfl, rfl, rfl, (show own_c _ from ⟨by decide, by decide⟩)⟩
        · refine Wk.icmp_neY (pc' := 33) d1_27 (by decide) c27_4 ?_
          refine Wk.iloadN (pc' := 34) d1_33 rfl rfl ?_
          refine Wk.iconst (pc' := 35) (v := 4) d1_34 rfl rfl ?_
          by_cases c35_5 : (u &&& (7 : Int32)) = (4 : Int32)
          · refine Wk.icmp_neN (pc' := 38) d1_35 rfl c35_5 ?_
            refine Wk.bipush (pc' := 40) (v := 72) d1_38 rfl rfl ?_
            exact Wk.zreturn rfl (by simp) d1_40 (Nat.le_of_ble_eq_true rfl) (Nat.le_of_ble_eq_true rfl) ⟨_, rfl, rfl, rfl, (show own_c _ from ⟨by decide, by decide⟩)⟩
          · refine Wk.icmp_neY (pc' := 41) d1_35 (by decide) c35_5 ?_
            refine Wk.iloadN (pc' := 42) d1_41 rfl rfl ?_
            refine Wk.iconst (pc' := 43) (v := 3) d1_42 rfl rfl ?_
            refine Wk.iushr (pc' := 44) d1_43 rfl ?_
            refine Wk.sipush (pc' := 47) (v := 255) d1_44 rfl rfl ?_
            refine Wk.iand (pc' := 48) d1_47 rfl ?_
            refine Wk.i2c (pc' := 49) d1_48 rfl ?_
            exact Wk.zreturn rfl (by simp) d1_49 (Nat.le_of_ble_eq_true rfl) (Nat.le_of_ble_eq_true rfl) ⟨_, rfl, rfl, rfl, (by rw [own_nc (own_cand _)]; exact own_cand _)⟩
theorem ef_nsp (m : MethodId) (x0 : Addr) (x1 : Int32) (x2 : Int32) : entryFrame m #[(.ref x0), (.int x1), (.int x2)] 3 = mkF m 0 #[.val (.ref x0), .val (.int x1), .val (.int x2)] [] := by first | (simp [entryFrame, mkF, argsToLocals, Value.category]; done) | rfl
abbrev b_nsp : Bdy := ((⟨"com/example/quittance/quittance/SegmentEndPinLaw", "nextSep", "([CII)I"⟩ : MethodName), method_4_code, 3, (Option.some Jvm.ClassFile.FieldType.int), ({ frames := 0, cells := 0, slots := 0, locals := 0 } : Room))
def Q_nsp (Z : State) (N : Nat) (c : Addr) (q : ClassId) (X : List Int32) (i : Nat) (e : Nat) (h0 : Heap) (I : Lts) (v : Option Value) (h : Heap) (J : Lts) : Prop := I = J ∧ v = some (.int (Int32.ofNat (own_sep X i e))) ∧ h0 = h
set_option maxRecDepth 65536 in
set_option maxHeartbeats 40000000 in
theorem rm_nsp {l : Launch} {Z : State} {a0 : Array Value} {N : Nat} (hw : ∀ d ∈ tables_1, d.before a0 Z = true) (c : Addr) (q : ClassId) (X : List Int32) (i : Nat) (e : Nat) (h0 : Heap) (I : Lts) (P0 : Arv Z h0 c q .char (6 : Int32) (X.map Value.int) (.int (0 : Int32))) (hie : i ≤ e) (he : e ≤ 6) :
    Cn l Z N b_nsp #[(.ref c), (.int (Int32.ofNat i)), (.int (Int32.ofNat e))] h0 I (Q_nsp Z N c q X i e h0 I) := by
  refine Cn.of_wk (Ls := #[.val (.ref c), .val (.int (Int32.ofNat i)), .val (.int (Int32.ofNat e))]) (plainFor_of_name (by first | (simp [plainName, overriddenIn]; done) | decide +kernel)) (fun m => ef_nsp m c (Int32.ofNat i) (Int32.ofNat e)) ?_
  have K6 : ∀ (u_ : Unit), (∀ j, i ≤ j → j < 6 → j < e → ¬ X.getD j 0 = 124) → Wk (l, Z, N, h0.size, b_nsp, Q_nsp Z N c q X i e h0 I) h0 0 0 I 119 #[.val (.ref c), .val (.int (Int32.ofNat i)), .val (.int (Int32.ofNat e))] [] := by
    intro u_ hP
    refine Wk.iloadN (pc' := 120) d3_119 rfl rfl ?_
    exact Wk.ireturn rfl d3_120 (Nat.le_of_ble_eq_true rfl) (Nat.le_of_ble_eq_true rfl) ⟨rfl, (by rw [own_sep_none hie (fun j a b => hP j a (by omega) b)]), rfl⟩
  have K5 : ∀ (u_ : Unit), (∀ j, i ≤ j → j < 5 → j < e → ¬ X.getD j 0 = 124) → Wk (l, Z, N, h0.size, b_nsp, Q_nsp Z N c q X i e h0 I) h0 0 0 I 99 #[.val (.ref c), .val (.int (Int32.ofNat i)), .val (.int (Int32.ofNat e))] [] := by
    intro u_ hP
    refine Wk.iloadN (pc' := 100) d3_99 rfl rfl ?_
    refine Wk.iconst (pc' := 101) (v := 5) d3_100 rfl rfl ?_
    by_cases c101_1 : (5 : Int32) < (Int32.ofNat i)
    · refine Wk.icmp_gtY (pc' := 119) d3_101 (by decide) c101_1 ?_
      exact K6 () (fun j a b d => hP j a (by have := (own_lt (i := 5) (by decide) (by omega)).mp c101_1; omega) d)
    · refine Wk.icmp_gtN (pc' := 104) d3_101 rfl c101_1 ?_
      refine Wk.iconst (pc' := 105) (v := 5) d3_104 rfl rfl ?_
      refine Wk.iloadN (pc' := 106) d3_105 rfl rfl ?_
      by_cases c106_2 : (5 : Int32) < (Int32.ofNat e)
      · refine Wk.icmp_geN (pc' := 109) d3_106 rfl c106_2 ?_
        refine Wk.aloadN (pc' := 110) d3_109 rfl rfl rfl ?_
        refine Wk.iconst (pc' := 111) (v := 5) d3_110 rfl rfl ?_
        refine Wk.caload (pc' := 112) (v := (.int (X.getD 5 0))) P0 ⟨by decide, by decide⟩ (own_geti X 5) d3_111 rfl ?_
        refine Wk.bipush (pc' := 114) (v := 124) d3_112 rfl rfl ?_
        by_cases c114_3 : (X.getD 5 0) = (124 : Int32)
        · refine Wk.icmp_neN (pc' := 117) d3_114 rfl c114_3 ?_
          refine Wk.iconst (pc' := 118) (v := 5) d3_117 rfl rfl ?_
          exact Wk.ireturn rfl d3_118 (Nat.le_of_ble_eq_true rfl) (Nat.le_of_ble_eq_true rfl) ⟨rfl, (by rw [own_sep_at (k := 5) (by have := mt (own_lt (i := 5) (by decide) (by omega)).mpr c101_1; omega) (by have := (own_lt (i := 5) (by decide) (by omega)).mp c106_2; omega) c114_3 (fun j a b => hP j a b (by have := (own_lt (i := 5) (by decide) (by omega)).mp c106_2; omega))]; rfl), rfl⟩
        · refine Wk.icmp_neY (pc' := 119) d3_114 (by decide) c114_3 ?_
          exact K6 () (fun j a b d => by
              rcases Nat.lt_succ_iff_lt_or_eq.mp b with q | q
              · exact hP j a q d
              · subst q; exact c114_3)
      · refine Wk.icmp_geY (pc' := 119) d3_106 (by decide) c106_2 ?_
        exact K6 () (fun j a b d => hP j a (by have := mt (own_lt (i := 5) (by decide) (by omega)).mpr c106_2; omega) d)
  have K4 : ∀ (u_ : Unit), (∀ j, i ≤ j → j < 4 → j < e → ¬ X.getD j 0 = 124) → Wk (l, Z, N, h0.size, b_nsp, Q_nsp Z N c q X i e h0 I) h0 0 0 I 79 #[.val (.ref c), .val (.int (Int32.ofNat i)), .val (.int (Int32.ofNat e))] [] := by
    intro u_ hP
    refine Wk.iloadN (pc' := 80) d3_79 rfl rfl ?_
    refine Wk.iconst (pc' := 81) (v := 4) d3_80 rfl rfl ?_
    by_cases c81_4 : (4 : Int32) < (Int32.ofNat i)
    · refine Wk.icmp_gtY (pc' := 99) d3_81 (by decide) c81_4 ?_
      exact K5 () (fun j a b d => hP j a (by have := (own_lt (i := 4) (by decide) (by omega)).mp c81_4; omega) d)
    · refine Wk.icmp_gtN (pc' := 84) d3_81 rfl c81_4 ?_
      refine Wk.iconst (pc' := 85) (v := 4) d3_84 rfl rfl ?_
      refine Wk.iloadN (pc' := 86) d3_85 rfl rfl ?_
      by_cases c86_5 : (4 : Int32) < (Int32.ofNat e)
      · refine Wk.icmp_geN (pc' := 89) d3_86 rfl c86_5 ?_
        refine Wk.aloadN (pc' := 90) d3_89 rfl rfl rfl ?_
        refine Wk.iconst (pc' := 91) (v := 4) d3_90 rfl rfl ?_
        refine Wk.caload (pc' := 92) (v := (.int (X.getD 4 0))) P0 ⟨by decide, by decide⟩ (own_geti X 4) d3_91 rfl ?_
        refine Wk.bipush (pc' := 94) (v := 124) d3_92 rfl rfl ?_
        by_cases c94_6 : (X.getD 4 0) = (124 : Int32)
        · refine Wk.icmp_neN (pc' := 97) d3_94 rfl c94_6 ?_
          refine Wk.iconst (pc' := 98) (v := 4) d3_97 rfl rfl ?_
          exact Wk.ireturn rfl d3_98 (Nat.le_of_ble_eq_true rfl) (Nat.le_of_ble_eq_true rfl) ⟨rfl, (by rw [own_sep_at (k := 4) (by have := mt (own_lt (i := 4) (by decide) (by omega)).mpr c81_4; omega) (by have := (own_lt (i := 4) (by decide) (by omega)).mp c86_5; omega) c94_6 (fun j a b => hP j a b (by have := (own_lt (i := 4) (by decide) (by omega)).mp c86_5; omega))]; rfl), rfl⟩
        · refine Wk.icmp_neY (pc' := 99) d3_94 (by decide) c94_6 ?_
          exact K5 () (fun j a b d => by
              rcases Nat.lt_succ_iff_lt_or_eq.mp b with q | q
              · exact hP j a q d
              · subst q; exact c94_6)
      · refine Wk.icmp_geY (pc' := 99) d3_86 (by decide) c86_5 ?_
        exact K5 () (fun j a b d => hP j a (by have := mt (own_lt (i := 4) (by decide) (by omega)).mpr c86_5; omega) d)
  have K3 : ∀ (u_ : Unit), (∀ j, i ≤ j → j < 3 → j < e → ¬ X.getD j 0 = 124) → Wk (l, Z, N, h0.size, b_nsp, Q_nsp Z N c q X i e h0 I) h0 0 0 I 59 #[.val (.ref c), .val (.int (Int32.ofNat i)), .val (.int (Int32.ofNat e))] [] := by
    intro u_ hP
    refine Wk.iloadN (pc' := 60) d3_59 rfl rfl ?_
    refine Wk.iconst (pc' := 61) (v := 3) d3_60 rfl rfl ?_
    by_cases c61_7 : (3 : Int32) < (Int32.ofNat i)
    · refine Wk.icmp_gtY (pc' := 79) d3_61 (by decide) c61_7 ?_
      exact K4 () (fun j a b d => hP j a (by have := (own_lt (i := 3) (by decide) (by omega)).mp c61_7; omega) d)
    · refine Wk.icmp_gtN (pc' := 64) d3_61 rfl c61_7 ?_
      refine Wk.iconst (pc' := 65) (v := 3) d3_64 rfl rfl ?_
      refine Wk.iloadN (pc' := 66) d3_65 rfl rfl ?_
      by_cases c66_8 : (3 : Int32) < (Int32.ofNat e)
      · refine Wk.icmp_geN (pc' := 69) d3_66 rfl c66_8 ?_
        refine Wk.aloadN (pc' := 70) d3_69 rfl rfl rfl ?_
        refine Wk.iconst (pc' := 71) (v := 3) d3_70 rfl rfl ?_
        refine Wk.caload (pc' := 72) (v := (.int (X.getD 3 0))) P0 ⟨by decide, by decide⟩ (own_geti X 3) d3_71 rfl ?_
        refine Wk.bipush (pc' := 74) (v := 124) d3_72 rfl rfl ?_
        by_cases c74_9 : (X.getD 3 0) = (124 : Int32)
        · refine Wk.icmp_neN (pc' := 77) d3_74 rfl c74_9 ?_
          refine Wk.iconst (pc' := 78) (v := 3) d3_77 rfl rfl ?_
          exact Wk.ireturn rfl d3_78 (Nat.le_of_ble_eq_true rfl) (Nat.le_of_ble_eq_true rfl) ⟨rfl, (by rw [own_sep_at (k := 3) (by have := mt (own_lt (i := 3) (by decide) (by omega)).mpr c61_7; omega) (by have := (own_lt (i := 3) (by decide) (by omega)).mp c66_8; omega) c74_9 (fun j a b => hP j a b (by have := (own_lt (i := 3) (by decide) (by omega)).mp c66_8; omega))]; rfl), rfl⟩
        · refine Wk.icmp_neY (pc' := 79) d3_74 (by decide) c74_9 ?_
          exact K4 () (fun j a b d => by
              rcases Nat.lt_succ_iff_lt_or_eq.mp b with q | q
              · exact hP j a q d
              · subst q; exact c74_9)
      · refine Wk.icmp_geY (pc' := 79) d3_66 (by decide) c66_8 ?_
        exact K4 () (fun j a b d => hP j a (by have := mt (own_lt (i := 3) (by decide) (by omega)).mpr c66_8; omega) d)
  have K2 : ∀ (u_ : Unit), (∀ j, i ≤ j → j < 2 → j < e → ¬ X.getD j 0 = 124) → Wk (l, Z, N, h0.size, b_nsp, Q_nsp Z N c q X i e h0 I) h0 0 0 I 39 #[.val (.ref c), .val (.int (Int32.ofNat i)), .val (.int (Int32.ofNat e))] [] := by
    intro u_ hP
    refine Wk.iloadN (pc' := 40) d3_39 rfl rfl ?_
    refine Wk.iconst (pc' := 41) (v := 2) d3_40 rfl rfl ?_
    by_cases c41_10 : (2 : Int32) < (Int32.ofNat i)
    · refine Wk.icmp_gtY (pc' := 59) d3_41 (by decide) c41_10 ?_
      exact K3 () (fun j a b d => hP j a (by have := (own_lt (i := 2) (by decide) (by omega)).mp c41_10; omega) d)
    · refine Wk.icmp_gtN (pc' := 44) d3_41 rfl c41_10 ?_
      refine Wk.iconst (pc' := 45) (v := 2) d3_44 rfl rfl ?_
      refine Wk.iloadN (pc' := 46) d3_45 rfl rfl ?_
      by_cases c46_11 : (2 : Int32) < (Int32.ofNat e)
      · refine Wk.icmp_geN (pc' := 49) d3_46 rfl c46_11 ?_
        refine Wk.aloadN (pc' := 50) d3_49 rfl rfl rfl ?_
        refine Wk.iconst (pc' := 51) (v := 2) d3_50 rfl rfl ?_
        refine Wk.caload (pc' := 52) (v := (.int (X.getD 2 0))) P0 ⟨by decide, by decide⟩ (own_geti X 2) d3_51 rfl ?_
        refine Wk.bipush (pc' := 54) (v := 124) d3_52 rfl rfl ?_
        by_cases c54_12 : (X.getD 2 0) = (124 : Int32)
        · refine Wk.icmp_neN (pc' := 57) d3_54 rfl c54_12 ?_
          refine Wk.iconst (pc' := 58) (v := 2) d3_57 rfl rfl ?_
          exact Wk.ireturn rfl d3_58 (Nat.le_of_ble_eq_true rfl) (Nat.le_of_ble_eq_true rfl) ⟨rfl, (by rw [own_sep_at (k := 2) (by have := mt (own_lt (i := 2) (by decide) (by omega)).mpr c41_10; omega) (by have := (own_lt (i := 2) (by decide) (by omega)).mp c46_11; omega) c54_12 (fun j a b => hP j a b (by have := (own_lt (i := 2) (by decide) (by omega)).mp c46_11; omega))]; rfl), rfl⟩
        · refine Wk.icmp_neY (pc' := 59) d3_54 (by decide) c54_12 ?_
          exact K3 () (fun j a b d => by
              rcases Nat.lt_succ_iff_lt_or_eq.mp b with q | q
              · exact hP j a q d
              · subst q; exact c54_12)
      · refine Wk.icmp_geY (pc' := 59) d3_46 (by decide) c46_11 ?_
        exact K3 () (fun j a b d => hP j a (by have := mt (own_lt (i := 2) (by decide) (by omega)).mpr c46_11; omega) d)
  have K1 : ∀ (u_ : Unit), (∀ j, i ≤ j → j < 1 → j < e → ¬ X.getD j 0 = 124) → Wk (l, Z, N, h0.size, b_nsp, Q_nsp Z N c q X i e h0 I) h0 0 0 I 19 #[.val (.ref c), .val (.int (Int32.ofNat i)), .val (.int (Int32.ofNat e))] [] := by
    intro u_ hP
    refine Wk.iloadN (pc' := 20) d3_19 rfl rfl ?_
    refine Wk.iconst (pc' := 21) (v := 1) d3_20 rfl rfl ?_
    by_cases c21_13 : (1 : Int32) < (Int32.ofNat i)
    · refine Wk.icmp_gtY (pc' := 39) d3_21 (by decide) c21_13 ?_
      exact K2 () (fun j a b d => hP j a (by have := (own_lt (i := 1) (by decide) (by omega)).mp c21_13; omega) d)
    · refine Wk.icmp_gtN (pc' := 24) d3_21 rfl c21_13 ?_
      refine Wk.iconst (pc' := 25) (v := 1) d3_24 rfl rfl ?_
      refine Wk.iloadN (pc' := 26) d3_25 rfl rfl ?_
      by_cases c26_14 : (1 : Int32) < (Int32.ofNat e)
      · refine Wk.icmp_geN (pc' := 29) d3_26 rfl c26_14 ?_
        refine Wk.aloadN (pc' := 30) d3_29 rfl rfl rfl ?_
        refine Wk.iconst (pc' := 31) (v := 1) d3_30 rfl rfl ?_
        refine Wk.caload (pc' := 32) (v := (.int (X.getD 1 0))) P0 ⟨by decide, by decide⟩ (own_geti X 1) d3_31 rfl ?_
        refine Wk.bipush (pc' := 34) (v := 124) d3_32 rfl rfl ?_
        by_cases c34_15 : (X.getD 1 0) = (124 : Int32)
        · refine Wk.icmp_neN (pc' := 37) d3_34 rfl c34_15 ?_
          refine Wk.iconst (pc' := 38) (v := 1) d3_37 rfl rfl ?_
          exact Wk.ireturn rfl d3_38 (Nat.le_of_ble_eq_true rfl) (Nat.le_of_ble_eq_true rfl) ⟨rfl, (by rw [own_sep_at (k := 1) (by have := mt (own_lt (i := 1) (by decide) (by omega)).mpr c21_13; omega) (by have := (own_lt (i := 1) (by decide) (by omega)).mp c26_14; omega) c34_15 (fun j a b => hP j a b (by have := (own_lt (i := 1) (by decide) (by omega)).mp c26_14; omega))]; rfl), rfl⟩
        · refine Wk.icmp_neY (pc' := 39) d3_34 (by decide) c34_15 ?_
          exact K2 () (fun j a b d => by
              rcases Nat.lt_succ_iff_lt_or_eq.mp b with q | q
              · exact hP j a q d
              · subst q; exact c34_15)
      · refine Wk.icmp_geY (pc' := 39) d3_26 (by decide) c26_14 ?_
        exact K2 () (fun j a b d => hP j a (by have := mt (own_lt (i := 1) (by decide) (by omega)).mpr c26_14; omega) d)
  have hP : ∀ j, i ≤ j → j < 0 → j < e → ¬ X.getD j 0 = 124 := fun j a b => absurd b (Nat.not_lt_zero j)
  refine Wk.iloadN (pc' := 1) d3_0 rfl rfl ?_
  by_cases c1_16 : (0 : Int32) < (Int32.ofNat i)
  · refine Wk.if_gtY (pc' := 19) d3_1 (by decide) c1_16 ?_
    exact K1 () (fun j a b d => hP j a (by have := (own_lt (i := 0) (by decide) (by omega)).mp c1_16; omega) d)
  · refine Wk.if_gtN (pc' := 4) d3_1 rfl c1_16 ?_
    refine Wk.iconst (pc' := 5) (v := 0) d3_4 rfl rfl ?_
    refine Wk.iloadN (pc' := 6) d3_5 rfl rfl ?_
    by_cases c6_17 : (0 : Int32) < (Int32.ofNat e)
    · refine Wk.icmp_geN (pc' := 9) d3_6 rfl c6_17 ?_
      refine Wk.aloadN (pc' := 10) d3_9 rfl rfl rfl ?_
      refine Wk.iconst (pc' := 11) (v := 0) d3_10 rfl rfl ?_
      refine Wk.caload (pc' := 12) (v := (.int (X.getD 0 0))) P0 ⟨by decide, by decide⟩ (own_geti X 0) d3_11 rfl ?_
      refine Wk.bipush (pc' := 14) (v := 124) d3_12 rfl rfl ?_
      by_cases c14_18 : (X.getD 0 0) = (124 : Int32)
      · refine Wk.icmp_neN (pc' := 17) d3_14 rfl c14_18 ?_
        refine Wk.iconst (pc' := 18) (v := 0) d3_17 rfl rfl ?_
        exact Wk.ireturn rfl d3_18 (Nat.le_of_ble_eq_true rfl) (Nat.le_of_ble_eq_true rfl) ⟨rfl, (by rw [own_sep_at (k := 0) (by have := mt (own_lt (i := 0) (by decide) (by omega)).mpr c1_16; omega) (by have := (own_lt (i := 0) (by decide) (by omega)).mp c6_17; omega) c14_18 (fun j a b => hP j a b (by have := (own_lt (i := 0) (by decide) (by omega)).mp c6_17; omega))]; rfl), rfl⟩
      · refine Wk.icmp_neY (pc' := 19) d3_14 (by decide) c14_18 ?_
        exact K1 () (fun j a b d => by
            rcases Nat.lt_succ_iff_lt_or_eq.mp b with q | q
            · exact hP j a q d
            · subst q; exact c14_18)
    · refine Wk.icmp_geY (pc' := 19) d3_6 (by decide) c6_17 ?_
      exact K1 () (fun j a b d => hP j a (by have := mt (own_lt (i := 0) (by decide) (by omega)).mpr c6_17; omega) d)
theorem ef_stp (m : MethodId) (x0 : Addr) (x1 : Int32) (x2 : Int32) : entryFrame m #[(.ref x0), (.int x1), (.int x2)] 3 = mkF m 0 #[.val (.ref x0), .val (.int x1), .val (.int x2)] [] := by first | (simp [entryFrame, mkF, argsToLocals, Value.category]; done) | rfl
abbrev b_stp : Bdy := ((⟨"com/example/quittance/quittance/SegmentEndPinLaw", "step", "([CII)I"⟩ : MethodName), method_5_code, 3, (Option.some Jvm.ClassFile.FieldType.int), ({ frames := 1, cells := 0, slots := 0, locals := 14 } : Room))
def Q_stp (Z : State) (N : Nat) (c : Addr) (q : ClassId) (X : List Int32) (i : Nat) (e : Nat) (h0 : Heap) (I : Lts) (v : Option Value) (h : Heap) (J : Lts) : Prop := I = J ∧ v = some (.int (Int32.ofNat (own_st X e i))) ∧ h0 = h
set_option maxRecDepth 65536 in
set_option maxHeartbeats 40000000 in
theorem rm_stp {l : Launch} {Z : State} {a0 : Array Value} {N : Nat} (hw : ∀ d ∈ tables_1, d.before a0 Z = true) (c : Addr) (q : ClassId) (X : List Int32) (i : Nat) (e : Nat) (h0 : Heap) (I : Lts) (P0 : Arv Z h0 c q .char (6 : Int32) (X.map Value.int) (.int (0 : Int32))) (hie : i ≤ e) (he : e ≤ 6) :
    Cn l Z N b_stp #[(.ref c), (.int (Int32.ofNat i)), (.int (Int32.ofNat e))] h0 I (Q_stp Z N c q X i e h0 I) := by
  refine Cn.of_wk (Ls := #[.val (.ref c), .val (.int (Int32.ofNat i)), .val (.int (Int32.ofNat e))]) (plainFor_of_name (by first | (simp [plainName, overriddenIn]; done) | decide +kernel)) (fun m => ef_stp m c (Int32.ofNat i) (Int32.ofNat e)) ?_
  by_cases hq : i = e
  · skip
    refine Wk.iloadN (pc' := 1) d27_0 rfl rfl ?_
    refine Wk.iloadN (pc' := 2) d27_1 rfl rfl ?_
    refine Wk.icmp_neN (pc' := 5) d27_2 rfl (by rw [hq]) ?_
    refine Wk.iloadN (pc' := 6) d27_5 rfl rfl ?_
    refine Wk.goto (pc' := 17) d27_6 (by decide) ?_
    exact Wk.ireturn rfl d27_17 (Nat.le_of_ble_eq_true rfl) (Nat.le_of_ble_eq_true rfl) ⟨rfl, (by rw [own_st, if_pos hq]), rfl⟩
  · skip
    refine Wk.iloadN (pc' := 1) d27_0 rfl rfl ?_
    refine Wk.iloadN (pc' := 2) d27_1 rfl rfl ?_
    refine Wk.icmp_neY (pc' := 9) d27_2 (by decide) (mt (own_eq (by omega) (by omega)).mp hq) ?_
    refine Wk.aloadN (pc' := 10) d27_9 rfl rfl rfl ?_
    refine Wk.iloadN (pc' := 11) d27_10 rfl rfl ?_
    refine Wk.iconst (pc' := 12) (v := 1) d27_11 rfl rfl ?_
    refine Wk.iadd (pc' := 13) d27_12 rfl ?_
    rw [(show Int32.ofNat i + (1 : Int32) = Int32.ofNat (i + 1) from own_addn i 1)]
    refine Wk.iloadN (pc' := 14) d27_13 rfl rfl ?_
    refine Wk.callS (a0 := a0) (pc' := 17) (k' := 0) (n' := 0) (W := 0) (b := b_nsp) (argsL := [(.ref c), (.int (Int32.ofNat (i + 1))), (.int (Int32.ofNat e))]) (rest := []) (rm_nsp hw c q X (i + 1) e h0 I P0 (by omega) he) (w9 hw) (w10 hw) (w3 hw) (w11 hw) (by decide) (Nat.le_refl _) id (Nat.le_of_ble_eq_true rfl) (Nat.le_of_ble_eq_true rfl) rfl rfl (Nat.le_of_ble_eq_true rfl) (Nat.le_of_ble_eq_true rfl) rfl pd22 rfl rfl rfl (Nat.le_of_ble_eq_true rfl) d27_14 rfl fun v1 h2 J3 hs4 hQ5 => ?_
    obtain ⟨rfl, rfl, rfl⟩ := hQ5
    show Wk _ h0 0 0 I 17 #[.val (.ref c), .val (.int (Int32.ofNat i)), .val (.int (Int32.ofNat e))] [(.int (Int32.ofNat (own_sep X (i + 1) e)))]
    exact Wk.ireturn rfl d27_17 (Nat.le_of_ble_eq_true rfl) (Nat.le_of_ble_eq_true rfl) ⟨rfl, (by rw [own_st, if_neg hq]), rfl⟩
theorem ef_mi7 (m : MethodId) (x0 : Int32) (x1 : Int32) : entryFrame m #[(.int x0), (.int x1)] 2 = mkF m 0 #[.val (.int x0), .val (.int x1)] [] := by first | (simp [entryFrame, mkF, argsToLocals, Value.category]; done) | rfl
abbrev b_mi7 : Bdy := ((⟨"java/lang/Math", "min", "(II)I"⟩ : MethodName), jdk_29_method_69_code, 2, (Option.some Jvm.ClassFile.FieldType.int), ({ frames := 0, cells := 0, slots := 0, locals := 0 } : Room))
def Q_mi7 (Z : State) (N : Nat) (mm : Nat) (h0 : Heap) (I : Lts) (v : Option Value) (h : Heap) (J : Lts) : Prop := I = J ∧ v = some (.int (Int32.ofNat (min mm 7))) ∧ h0 = h
set_option maxRecDepth 65536 in
set_option maxHeartbeats 40000000 in
theorem rm_mi7 {l : Launch} {Z : State} {a0 : Array Value} {N : Nat} (hw : ∀ d ∈ tables_1, d.before a0 Z = true) (mm : Nat) (h0 : Heap) (I : Lts) (hm : mm < 2147483648) :
    Cn l Z N b_mi7 #[(.int (Int32.ofNat mm)), (.int (7 : Int32))] h0 I (Q_mi7 Z N mm h0 I) := by
  refine Cn.of_wk (Ls := #[.val (.int (Int32.ofNat mm)), .val (.int (7 : Int32))]) (Jvm.Free.JP.mathPlain rfl (by decide +kernel)) (fun m => ef_mi7 m (Int32.ofNat mm) (7 : Int32)) ?_
  refine Wk.iloadN (pc' := 1) d5_0 rfl rfl ?_
  refine Wk.iloadN (pc' := 2) d5_1 rfl rfl ?_
  by_cases c2_1 : (7 : Int32) < (Int32.ofNat mm)
  · refine Wk.icmp_gtY (pc' := 9) d5_2 (by decide) c2_1 ?_
    refine Wk.iloadN (pc' := 10) d5_9 rfl rfl ?_
    exact Wk.ireturn rfl d5_10 (Nat.le_of_ble_eq_true rfl) (Nat.le_of_ble_eq_true rfl) ⟨rfl, (by rw [Nat.min_eq_right (by have := (own_lt (i := 7) (by decide) hm).mp c2_1; omega)]; rfl), rfl⟩
  · refine Wk.icmp_gtN (pc' := 5) d5_2 rfl c2_1 ?_
    refine Wk.iloadN (pc' := 6) d5_5 rfl rfl ?_
    refine Wk.goto (pc' := 10) d5_6 (by decide) ?_
    exact Wk.ireturn rfl d5_10 (Nat.le_of_ble_eq_true rfl) (Nat.le_of_ble_eq_true rfl) ⟨rfl, (by rw [Nat.min_eq_left (by have := mt (own_lt (i := 7) (by decide) hm).mpr c2_1; omega)]), rfl⟩
theorem ef_wlk (m : MethodId) (x0 : Addr) (x1 : Int32) (x2 : Int32) (x3 : Int32) : entryFrame m #[(.ref x0), (.int x1), (.int x2), (.int x3)] 6 = mkF m 0 #[.val (.ref x0), .val (.int x1), .val (.int x2), .val (.int x3), .unset, .unset] [] := by first | (simp [entryFrame, mkF, argsToLocals, Value.category]; done) | rfl
abbrev b_wlk : Bdy := ((⟨"com/example/quittance/quittance/SegmentEndPinLaw", "walk", "([CIII)I"⟩ : MethodName), method_6_code, 6, (Option.some Jvm.ClassFile.FieldType.int), ({ frames := 2, cells := 0, slots := 0, locals := 28 } : Room))
def Q_wlk (Z : State) (N : Nat) (c : Addr) (q : ClassId) (X : List Int32) (i : Nat) (e : Nat) (mm : Nat) (h0 : Heap) (I : Lts) (v : Option Value) (h : Heap) (J : Lts) : Prop := I = J ∧ v = some (.int (Int32.ofNat (own_it X e (min mm 7) i))) ∧ h0 = h
set_option maxRecDepth 65536 in
set_option maxHeartbeats 40000000 in
theorem rm_wlk {l : Launch} {Z : State} {a0 : Array Value} {N : Nat} (hw : ∀ d ∈ tables_1, d.before a0 Z = true) (c : Addr) (q : ClassId) (X : List Int32) (i : Nat) (e : Nat) (mm : Nat) (h0 : Heap) (I : Lts) (P0 : Arv Z h0 c q .char (6 : Int32) (X.map Value.int) (.int (0 : Int32))) (hie : i ≤ e) (he : e ≤ 6) (hm : mm < 2147483648) :
    Cn l Z N b_wlk #[(.ref c), (.int (Int32.ofNat i)), (.int (Int32.ofNat e)), (.int (Int32.ofNat mm))] h0 I (Q_wlk Z N c q X i e mm h0 I) := by
  refine Cn.of_wk (Ls := #[.val (.ref c), .val (.int (Int32.ofNat i)), .val (.int (Int32.ofNat e)), .val (.int (Int32.ofNat mm)), .unset, .unset]) (plainFor_of_name (by first | (simp [plainName, overriddenIn]; done) | decide +kernel)) (fun m => ef_wlk m c (Int32.ofNat i) (Int32.ofNat e) (Int32.ofNat mm)) ?_
  refine Wk.iloadN (pc' := 1) d4_0 rfl rfl ?_
  refine Wk.bipush (pc' := 3) (v := 7) d4_1 rfl rfl ?_
  refine Wk.callS (a0 := a0) (pc' := 6) (k' := 0) (n' := 0) (W := 0) (b := b_mi7) (argsL := [(.int (Int32.ofNat mm)), (.int (7 : Int32))]) (rest := []) (rm_mi7 hw mm h0 I hm) (w15 hw) (w16 hw) (w17 hw) (w18 hw) (by decide) (Nat.le_refl _) id (Nat.le_of_ble_eq_true rfl) (Nat.le_of_ble_eq_true rfl) rfl rfl (Nat.le_of_ble_eq_true rfl) (Nat.le_of_ble_eq_true rfl) rfl pd17 rfl rfl rfl (Nat.le_of_ble_eq_true rfl) d4_3 rfl fun v1 h2 J3 hs4 hQ5 => ?_
  obtain ⟨rfl, rfl, rfl⟩ := hQ5
  show Wk _ h0 0 0 I 6 #[.val (.ref c), .val (.int (Int32.ofNat i)), .val (.int (Int32.ofNat e)), .val (.int (Int32.ofNat mm)), .unset, .unset] [(.int (Int32.ofNat (min mm 7)))]
  refine Wk.istore (pc' := 8) #[.val (.ref c), .val (.int (Int32.ofNat i)), .val (.int (Int32.ofNat e)), .val (.int (Int32.ofNat mm)), .val (.int (Int32.ofNat (min mm 7))), .unset] d4_6 rfl rfl ?_
  refine Wk.iloadN (pc' := 9) d4_8 rfl rfl ?_
  refine Wk.istore (pc' := 11) #[.val (.ref c), .val (.int (Int32.ofNat i)), .val (.int (Int32.ofNat e)), .val (.int (Int32.ofNat mm)), .val (.int (Int32.ofNat (min mm 7))), .val (.int (Int32.ofNat i))] d4_9 rfl rfl ?_
  refine Wk.iload (pc' := 13) d4_11 rfl rfl ?_
  refine Wk.iconst (pc' := 14) (v := 1) d4_13 rfl rfl ?_
  by_cases hk1 : 1 ≤ min mm 7
  · skip
    refine Wk.icmp_ltN (pc' := 17) d4_14 rfl (mt (own_lt (j := 1) (by omega) (by decide)).mp (by omega)) ?_
    refine Wk.aloadN (pc' := 18) d4_17 rfl rfl rfl ?_
    refine Wk.iload (pc' := 20) d4_18 rfl rfl ?_
    refine Wk.iloadN (pc' := 21) d4_20 rfl rfl ?_
    refine Wk.callS (a0 := a0) (pc' := 24) (k' := 0) (n' := 0) (W := 0) (b := b_stp) (argsL := [(.ref c), (.int (Int32.ofNat i)), (.int (Int32.ofNat e))]) (rest := []) (rm_stp hw c q X i e h0 I P0 hie he) (w141 hw) (w142 hw) (w3 hw) (w143 hw) (by decide) (Nat.le_refl _) id (Nat.le_of_ble_eq_true rfl) (Nat.le_of_ble_eq_true rfl) rfl rfl (Nat.le_of_ble_eq_true rfl) (Nat.le_of_ble_eq_true rfl) rfl pd22 rfl rfl rfl (Nat.le_of_ble_eq_true rfl) d4_21 rfl fun v6 h7 J8 hs9 hQ10 => ?_
    obtain ⟨rfl, rfl, rfl⟩ := hQ10
    show Wk _ h0 0 0 I 24 #[.val (.ref c), .val (.int (Int32.ofNat i)), .val (.int (Int32.ofNat e)), .val (.int (Int32.ofNat mm)), .val (.int (Int32.ofNat (min mm 7))), .val (.int (Int32.ofNat i))] [(.int (Int32.ofNat (own_st X e i)))]
    rw [(show own_st X e i = own_it X e 1 i from rfl)]
    refine Wk.istore (pc' := 26) #[.val (.ref c), .val (.int (Int32.ofNat i)), .val (.int (Int32.ofNat e)), .val (.int (Int32.ofNat mm)), .val (.int (Int32.ofNat (min mm 7))), .val (.int (Int32.ofNat (own_it X e 1 i)))] d4_24 rfl rfl ?_
    refine Wk.iload (pc' := 28) d4_26 rfl rfl ?_
    refine Wk.iconst (pc' := 29) (v := 2) d4_28 rfl rfl ?_
    by_cases hk2 : 2 ≤ min mm 7
    · skip
      refine Wk.icmp_ltN (pc' := 32) d4_29 rfl (mt (own_lt (j := 2) (by omega) (by decide)).mp (by omega)) ?_
      refine Wk.aloadN (pc' := 33) d4_32 rfl rfl rfl ?_
      refine Wk.iload (pc' := 35) d4_33 rfl rfl ?_
      refine Wk.iloadN (pc' := 36) d4_35 rfl rfl ?_
      refine Wk.callS (a0 := a0) (pc' := 39) (k' := 0) (n' := 0) (W := 0) (b := b_stp) (argsL := [(.ref c), (.int (Int32.ofNat (own_it X e 1 i))), (.int (Int32.ofNat e))]) (rest := []) (rm_stp hw c q X (own_it X e 1 i) e h0 I P0 (own_it_b hie 1) he) (w141 hw) (w142 hw) (w3 hw) (w143 hw) (by decide) (Nat.le_refl _) id (Nat.le_of_ble_eq_true rfl) (Nat.le_of_ble_eq_true rfl) rfl rfl (Nat.le_of_ble_eq_true rfl) (Nat.le_of_ble_eq_true rfl) rfl pd22 rfl rfl rfl (Nat.le_of_ble_eq_true rfl) d4_36 rfl fun v11 h12 J13 hs14 hQ15 => ?_
      obtain ⟨rfl, rfl, rfl⟩ := hQ15
      show Wk _ h0 0 0 I 39 #[.val (.ref c), .val (.int (Int32.ofNat i)), .val (.int (Int32.ofNat e)), .val (.int (Int32.ofNat mm)), .val (.int (Int32.ofNat (min mm 7))), .val (.int (Int32.ofNat (own_it X e 1 i)))] [(.int (Int32.ofNat (own_st X e (own_it X e 1 i))))]
      rw [(show own_st X e (own_it X e 1 i) = own_it X e 2 i from rfl)]
      refine Wk.istore (pc' := 41) #[.val (.ref c), .val (.int (Int32.ofNat i)), .val (.int (Int32.ofNat e)), .val (.int (Int32.ofNat mm)), .val (.int (Int32.ofNat (min mm 7))), .val (.int (Int32.ofNat (own_it X e 2 i)))] d4_39 rfl rfl ?_
      refine Wk.iload (pc' := 43) d4_41 rfl rfl ?_
      refine Wk.iconst (pc' := 44) (v := 3) d4_43 rfl rfl ?_
      by_cases hk3 : 3 ≤ min mm 7
      · skip
        refine Wk.icmp_ltN (pc' := 47) d4_44 rfl (mt (own_lt (j := 3) (by omega) (by decide)).mp (by omega)) ?_
        refine Wk.aloadN (pc' := 48) d4_47 rfl rfl rfl ?_
        refine Wk.iload (pc' := 50) d4_48 rfl rfl ?_
        refine Wk.iloadN (pc' := 51) d4_50 rfl rfl ?_
        refine Wk.callS (a0 := a0) (pc' := 54) (k' := 0) (n' := 0) (W := 0) (b := b_stp) (argsL := [(.ref c), (.int (Int32.ofNat (own_it X e 2 i))), (.int (Int32.ofNat e))]) (rest := []) (rm_stp hw c q X (own_it X e 2 i) e h0 I P0 (own_it_b hie 2) he) (w141 hw) (w142 hw) (w3 hw) (w143 hw) (by decide) (Nat.le_refl _) id (Nat.le_of_ble_eq_true rfl) (Nat.le_of_ble_eq_true rfl) rfl rfl (Nat.le_of_ble_eq_true rfl) (Nat.le_of_ble_eq_true rfl) rfl pd22 rfl rfl rfl (Nat.le_of_ble_eq_true rfl) d4_51 rfl fun v16 h17 J18 hs19 hQ20 => ?_
        obtain ⟨rfl, rfl, rfl⟩ := hQ20
        show Wk _ h0 0 0 I 54 #[.val (.ref c), .val (.int (Int32.ofNat i)), .val (.int (Int32.ofNat e)), .val (.int (Int32.ofNat mm)), .val (.int (Int32.ofNat (min mm 7))), .val (.int (Int32.ofNat (own_it X e 2 i)))] [(.int (Int32.ofNat (own_st X e (own_it X e 2 i))))]
        rw [(show own_st X e (own_it X e 2 i) = own_it X e 3 i from rfl)]
        refine Wk.istore (pc' := 56) #[.val (.ref c), .val (.int (Int32.ofNat i)), .val (.int (Int32.ofNat e)), .val (.int (Int32.ofNat mm)), .val (.int (Int32.ofNat (min mm 7))), .val (.int (Int32.ofNat (own_it X e 3 i)))] d4_54 rfl rfl ?_
        refine Wk.iload (pc' := 58) d4_56 rfl rfl ?_
        refine Wk.iconst (pc' := 59) (v := 4) d4_58 rfl rfl ?_
        by_cases hk4 : 4 ≤ min mm 7
        · skip
          refine Wk.icmp_ltN (pc' := 62) d4_59 rfl (mt (own_lt (j := 4) (by omega) (by decide)).mp (by omega)) ?_
          refine Wk.aloadN (pc' := 63) d4_62 rfl rfl rfl ?_
          refine Wk.iload (pc' := 65) d4_63 rfl rfl ?_
          refine Wk.iloadN (pc' := 66) d4_65 rfl rfl ?_
          refine Wk.callS (a0 := a0) (pc' := 69) (k' := 0) (n' := 0) (W := 0) (b := b_stp) (argsL := [(.ref c), (.int (Int32.ofNat (own_it X e 3 i))), (.int (Int32.ofNat e))]) (rest := []) (rm_stp hw c q X (own_it X e 3 i) e h0 I P0 (own_it_b hie 3) he) (w141 hw) (w142 hw) (w3 hw) (w143 hw) (by decide) (Nat.le_refl _) id (Nat.le_of_ble_eq_true rfl) (Nat.le_of_ble_eq_true rfl) rfl rfl (Nat.le_of_ble_eq_true rfl) (Nat.le_of_ble_eq_true rfl) rfl pd22 rfl rfl rfl (Nat.le_of_ble_eq_true rfl) d4_66 rfl fun v21 h22 J23 hs24 hQ25 => ?_
          obtain ⟨rfl, rfl, rfl⟩ := hQ25
          show Wk _ h0 0 0 I 69 #[.val (.ref c), .val (.int (Int32.ofNat i)), .val (.int (Int32.ofNat e)), .val (.int (Int32.ofNat mm)), .val (.int (Int32.ofNat (min mm 7))), .val (.int (Int32.ofNat (own_it X e 3 i)))] [(.int (Int32.ofNat (own_st X e (own_it X e 3 i))))]
          rw [(show own_st X e (own_it X e 3 i) = own_it X e 4 i from rfl)]
          refine Wk.istore (pc' := 71) #[.val (.ref c), .val (.int (Int32.ofNat i)), .val (.int (Int32.ofNat e)), .val (.int (Int32.ofNat mm)), .val (.int (Int32.ofNat (min mm 7))), .val (.int (Int32.ofNat (own_it X e 4 i)))] d4_69 rfl rfl ?_
          refine Wk.iload (pc' := 73) d4_71 rfl rfl ?_
          refine Wk.iconst (pc' := 74) (v := 5) d4_73 rfl rfl ?_
          by_cases hk5 : 5 ≤ min mm 7
          · skip
            refine Wk.icmp_ltN (pc' := 77) d4_74 rfl (mt (own_lt (j := 5) (by omega) (by decide)).mp (by omega)) ?_
            refine Wk.aloadN (pc' := 78) d4_77 rfl rfl rfl ?_
            refine Wk.iload (pc' := 80) d4_78 rfl rfl ?_
            refine Wk.iloadN (pc' := 81) d4_80 rfl rfl ?_
            refine Wk.callS (a0 := a0) (pc' := 84) (k' := 0) (n' := 0) (W := 0) (b := b_stp) (argsL := [(.ref c), (.int (Int32.ofNat (own_it X e 4 i))), (.int (Int32.ofNat e))]) (rest := []) (rm_stp hw c q X (own_it X e 4 i) e h0 I P0 (own_it_b hie 4) he) (w141 hw) (w142 hw) (w3 hw) (w143 hw) (by decide) (Nat.le_refl _) id (Nat.le_of_ble_eq_true rfl) (Nat.le_of_ble_eq_true rfl) rfl rfl (Nat.le_of_ble_eq_true rfl) (Nat.le_of_ble_eq_true rfl) rfl pd22 rfl rfl rfl (Nat.le_of_ble_eq_true rfl) d4_81 rfl fun v26 h27 J28 hs29 hQ30 => ?_
            obtain ⟨rfl, rfl, rfl⟩ := hQ30
            show Wk _ h0 0 0 I 84 #[.val (.ref c), .val (.int (Int32.ofNat i)), .val (.int (Int32.ofNat e)), .val (.int (Int32.ofNat mm)), .val (.int (Int32.ofNat (min mm 7))), .val (.int (Int32.ofNat (own_it X e 4 i)))] [(.int (Int32.ofNat (own_st X e (own_it X e 4 i))))]
            rw [(show own_st X e (own_it X e 4 i) = own_it X e 5 i from rfl)]
            refine Wk.istore (pc' := 86) #[.val (.ref c), .val (.int (Int32.ofNat i)), .val (.int (Int32.ofNat e)), .val (.int (Int32.ofNat mm)), .val (.int (Int32.ofNat (min mm 7))), .val (.int (Int32.ofNat (own_it X e 5 i)))] d4_84 rfl rfl ?_
            refine Wk.iload (pc' := 88) d4_86 rfl rfl ?_
            refine Wk.bipush (pc' := 90) (v := 6) d4_88 rfl rfl ?_
            by_cases hk6 : 6 ≤ min mm 7
            · skip
              refine Wk.icmp_ltN (pc' := 93) d4_90 rfl (mt (own_lt (j := 6) (by omega) (by decide)).mp (by omega)) ?_
              refine Wk.aloadN (pc' := 94) d4_93 rfl rfl rfl ?_
              refine Wk.iload (pc' := 96) d4_94 rfl rfl ?_
              refine Wk.iloadN (pc' := 97) d4_96 rfl rfl ?_
              refine Wk.callS (a0 := a0) (pc' := 100) (k' := 0) (n' := 0) (W := 0) (b := b_stp) (argsL := [(.ref c), (.int (Int32.ofNat (own_it X e 5 i))), (.int (Int32.ofNat e))]) (rest := []) (rm_stp hw c q X (own_it X e 5 i) e h0 I P0 (own_it_b hie 5) he) (w141 hw) (w142 hw) (w3 hw) (w143 hw) (by decide) (Nat.le_refl _) id (Nat.le_of_ble_eq_true rfl) (Nat.le_of_ble_eq_true rfl) rfl rfl (Nat.le_of_ble_eq_true rfl) (Nat.le_of_ble_eq_true rfl) rfl pd22 rfl rfl rfl (Nat.le_of_ble_eq_true rfl) d4_97 rfl fun v31 h32 J33 hs34 hQ35 => ?_
              obtain ⟨rfl, rfl, rfl⟩ := hQ35
              show Wk _ h0 0 0 I 100 #[.val (.ref c), .val (.int (Int32.ofNat i)), .val (.int (Int32.ofNat e)), .val (.int (Int32.ofNat mm)), .val (.int (Int32.ofNat (min mm 7))), .val (.int (Int32.ofNat (own_it X e 5 i)))] [(.int (Int32.ofNat (own_st X e (own_it X e 5 i))))]
              rw [(show own_st X e (own_it X e 5 i) = own_it X e 6 i from rfl)]
              refine Wk.istore (pc' := 102) #[.val (.ref c), .val (.int (Int32.ofNat i)), .val (.int (Int32.ofNat e)), .val (.int (Int32.ofNat mm)), .val (.int (Int32.ofNat (min mm 7))), .val (.int (Int32.ofNat (own_it X e 6 i)))] d4_100 rfl rfl ?_
              refine Wk.iload (pc' := 104) d4_102 rfl rfl ?_
              refine Wk.bipush (pc' := 106) (v := 7) d4_104 rfl rfl ?_
              by_cases hk7 : 7 ≤ min mm 7
              · skip
                refine Wk.icmp_ltN (pc' := 109) d4_106 rfl (mt (own_lt (j := 7) (by omega) (by decide)).mp (by omega)) ?_
                refine Wk.aloadN (pc' := 110) d4_109 rfl rfl rfl ?_
                refine Wk.iload (pc' := 112) d4_110 rfl rfl ?_
                refine Wk.iloadN (pc' := 113) d4_112 rfl rfl ?_
                refine Wk.callS (a0 := a0) (pc' := 116) (k' := 0) (n' := 0) (W := 0) (b := b_stp) (argsL := [(.ref c), (.int (Int32.ofNat (own_it X e 6 i))), (.int (Int32.ofNat e))]) (rest := []) (rm_stp hw c q X (own_it X e 6 i) e h0 I P0 (own_it_b hie 6) he) (w141 hw) (w142 hw) (w3 hw) (w143 hw) (by decide) (Nat.le_refl _) id (Nat.le_of_ble_eq_true rfl) (Nat.le_of_ble_eq_true rfl) rfl rfl (Nat.le_of_ble_eq_true rfl) (Nat.le_of_ble_eq_true rfl) rfl pd22 rfl rfl rfl (Nat.le_of_ble_eq_true rfl) d4_113 rfl fun v36 h37 J38 hs39 hQ40 => ?_
                obtain ⟨rfl, rfl, rfl⟩ := hQ40
                show Wk _ h0 0 0 I 116 #[.val (.ref c), .val (.int (Int32.ofNat i)), .val (.int (Int32.ofNat e)), .val (.int (Int32.ofNat mm)), .val (.int (Int32.ofNat (min mm 7))), .val (.int (Int32.ofNat (own_it X e 6 i)))] [(.int (Int32.ofNat (own_st X e (own_it X e 6 i))))]
                rw [(show own_st X e (own_it X e 6 i) = own_it X e 7 i from rfl)]
                refine Wk.istore (pc' := 118) #[.val (.ref c), .val (.int (Int32.ofNat i)), .val (.int (Int32.ofNat e)), .val (.int (Int32.ofNat mm)), .val (.int (Int32.ofNat (min mm 7))), .val (.int (Int32.ofNat (own_it X e 7 i)))] d4_116 rfl rfl ?_
                refine Wk.iload (pc' := 120) d4_118 rfl rfl ?_
                exact Wk.ireturn rfl d4_120 (Nat.le_of_ble_eq_true rfl) (Nat.le_of_ble_eq_true rfl) ⟨rfl, (by rw [show min mm 7 = 7 by omega] <;> rfl), rfl⟩
              · skip
                refine Wk.icmp_ltY (pc' := 118) d4_106 (by decide) ((own_lt (j := 7) (by omega) (by decide)).mpr (by omega)) ?_
                refine Wk.iload (pc' := 120) d4_118 rfl rfl ?_
                exact Wk.ireturn rfl d4_120 (Nat.le_of_ble_eq_true rfl) (Nat.le_of_ble_eq_true rfl) ⟨rfl, (by rw [show min mm 7 = 6 by omega] <;> rfl), rfl⟩
            · skip
              refine Wk.icmp_ltY (pc' := 102) d4_90 (by decide) ((own_lt (j := 6) (by omega) (by decide)).mpr (by omega)) ?_
              refine Wk.iload (pc' := 104) d4_102 rfl rfl ?_
              refine Wk.bipush (pc' := 106) (v := 7) d4_104 rfl rfl ?_
              refine Wk.icmp_ltY (pc' := 118) d4_106 (by decide) ((own_lt (j := 7) (by omega) (by decide)).mpr (by omega)) ?_
              refine Wk.iload (pc' := 120) d4_118 rfl rfl ?_
              exact Wk.ireturn rfl d4_120 (Nat.le_of_ble_eq_true rfl) (Nat.le_of_ble_eq_true rfl) ⟨rfl, (by rw [show min mm 7 = 5 by omega] <;> rfl), rfl⟩
          · skip
            refine Wk.icmp_ltY (pc' := 86) d4_74 (by decide) ((own_lt (j := 5) (by omega) (by decide)).mpr (by omega)) ?_
            refine Wk.iload (pc' := 88) d4_86 rfl rfl ?_
            refine Wk.bipush (pc' := 90) (v := 6) d4_88 rfl rfl ?_
            refine Wk.icmp_ltY (pc' := 102) d4_90 (by decide) ((own_lt (j := 6) (by omega) (by decide)).mpr (by omega)) ?_
            refine Wk.iload (pc' := 104) d4_102 rfl rfl ?_
            refine Wk.bipush (pc' := 106) (v := 7) d4_104 rfl rfl ?_
            refine Wk.icmp_ltY (pc' := 118) d4_106 (by decide) ((own_lt (j := 7) (by omega) (by decide)).mpr (by omega)) ?_
            refine Wk.iload (pc' := 120) d4_118 rfl rfl ?_
            exact Wk.ireturn rfl d4_120 (Nat.le_of_ble_eq_true rfl) (Nat.le_of_ble_eq_true rfl) ⟨rfl, (by rw [show min mm 7 = 4 by omega] <;> rfl), rfl⟩
        · skip
          refine Wk.icmp_ltY (pc' := 71) d4_59 (by decide) ((own_lt (j := 4) (by omega) (by decide)).mpr (by omega)) ?_
          refine Wk.iload (pc' := 73) d4_71 rfl rfl ?_
          refine Wk.iconst (pc' := 74) (v := 5) d4_73 rfl rfl ?_
          refine Wk.icmp_ltY (pc' := 86) d4_74 (by decide) ((own_lt (j := 5) (by omega) (by decide)).mpr (by omega)) ?_
          refine Wk.iload (pc' := 88) d4_86 rfl rfl ?_
          refine Wk.bipush (pc' := 90) (v := 6) d4_88 rfl rfl ?_
          refine Wk.icmp_ltY (pc' := 102) d4_90 (by decide) ((own_lt (j := 6) (by omega) (by decide)).mpr (by omega)) ?_
          refine Wk.iload (pc' := 104) d4_102 rfl rfl ?_
          refine Wk.bipush (pc' := 106) (v := 7) d4_104 rfl rfl ?_
          refine Wk.icmp_ltY (pc' := 118) d4_106 (by decide) ((own_lt (j := 7) (by omega) (by decide)).mpr (by omega)) ?_
          refine Wk.iload (pc' := 120) d4_118 rfl rfl ?_
          exact Wk.ireturn rfl d4_120 (Nat.le_of_ble_eq_true rfl) (Nat.le_of_ble_eq_true rfl) ⟨rfl, (by rw [show min mm 7 = 3 by omega] <;> rfl), rfl⟩
      · skip
        refine Wk.icmp_ltY (pc' := 56) d4_44 (by decide) ((own_lt (j := 3) (by omega) (by decide)).mpr (by omega)) ?_
        refine Wk.iload (pc' := 58) d4_56 rfl rfl ?_
        refine Wk.iconst (pc' := 59) (v := 4) d4_58 rfl rfl ?_
        refine Wk.icmp_ltY (pc' := 71) d4_59 (by decide) ((own_lt (j := 4) (by omega) (by decide)).mpr (by omega)) ?_
        refine Wk.iload (pc' := 73) d4_71 rfl rfl ?_
        refine Wk.iconst (pc' := 74) (v := 5) d4_73 rfl rfl ?_
        refine Wk.icmp_ltY (pc' := 86) d4_74 (by decide) ((own_lt (j := 5) (by omega) (by decide)).mpr (by omega)) ?_
        refine Wk.iload (pc' := 88) d4_86 rfl rfl ?_
        refine Wk.bipush (pc' := 90) (v := 6) d4_88 rfl rfl ?_
        refine Wk.icmp_ltY (pc' := 102) d4_90 (by decide) ((own_lt (j := 6) (by omega) (by decide)).mpr (by omega)) ?_
        refine Wk.iload (pc' := 104) d4_102 rfl rfl ?_
        refine Wk.bipush (pc' := 106) (v := 7) d4_104 rfl rfl ?_
        refine Wk.icmp_ltY (pc' := 118) d4_106 (by decide) ((own_lt (j := 7) (by omega) (by decide)).mpr (by omega)) ?_
        refine Wk.iload (pc' := 120) d4_118 rfl rfl ?_
        exact Wk.ireturn rfl d4_120 (Nat.le_of_ble_eq_true rfl) (Nat.le_of_ble_eq_true rfl) ⟨rfl, (by rw [show min mm 7 = 2 by omega] <;> rfl), rfl⟩
    · skip
      refine Wk.icmp_ltY (pc' := 41) d4_29 (by decide) ((own_lt (j := 2) (by omega) (by decide)).mpr (by omega)) ?_
      refine Wk.iload (pc' := 43) d4_41 rfl rfl ?_
      refine Wk.iconst (pc' := 44) (v := 3) d4_43 rfl rfl ?_
      refine Wk.icmp_ltY (pc' := 56) d4_44 (by decide) ((own_lt (j := 3) (by omega) (by decide)).mpr (by omega)) ?_
      refine Wk.iload (pc' := 58) d4_56 rfl rfl ?_
      refine Wk.iconst (pc' := 59) (v := 4) d4_58 rfl rfl ?_
      refine Wk.icmp_ltY (pc' := 71) d4_59 (by decide) ((own_lt (j := 4) (by omega) (by decide)).mpr (by omega)) ?_
      refine Wk.iload (pc' := 73) d4_71 rfl rfl ?_
      refine Wk.iconst (pc' := 74) (v := 5) d4_73 rfl rfl ?_
      refine Wk.icmp_ltY (pc' := 86) d4_74 (by decide) ((own_lt (j := 5) (by omega) (by decide)).mpr (by omega)) ?_
      refine Wk.iload (pc' := 88) d4_86 rfl rfl ?_
      refine Wk.bipush (pc' := 90) (v := 6) d4_88 rfl rfl ?_
      refine Wk.icmp_ltY (pc' := 102) d4_90 (by decide) ((own_lt (j := 6) (by omega) (by decide)).mpr (by omega)) ?_
      refine Wk.iload (pc' := 104) d4_102 rfl rfl ?_
      refine Wk.bipush (pc' := 106) (v := 7) d4_104 rfl rfl ?_
      refine Wk.icmp_ltY (pc' := 118) d4_106 (by decide) ((own_lt (j := 7) (by omega) (by decide)).mpr (by omega)) ?_
      refine Wk.iload (pc' := 120) d4_118 rfl rfl ?_
      exact Wk.ireturn rfl d4_120 (Nat.le_of_ble_eq_true rfl) (Nat.le_of_ble_eq_true rfl) ⟨rfl, (by rw [show min mm 7 = 1 by omega] <;> rfl), rfl⟩
  · skip
    refine Wk.icmp_ltY (pc' := 26) d4_14 (by decide) ((own_lt (j := 1) (by omega) (by decide)).mpr (by omega)) ?_
    refine Wk.iload (pc' := 28) d4_26 rfl rfl ?_
    refine Wk.iconst (pc' := 29) (v := 2) d4_28 rfl rfl ?_
    refine Wk.icmp_ltY (pc' := 41) d4_29 (by decide) ((own_lt (j := 2) (by omega) (by decide)).mpr (by omega)) ?_
    refine Wk.iload (pc' := 43) d4_41 rfl rfl ?_
    refine Wk.iconst (pc' := 44) (v := 3) d4_43 rfl rfl ?_
    refine Wk.icmp_ltY (pc' := 56) d4_44 (by decide) ((own_lt (j := 3) (by omega) (by decide)).mpr (by omega)) ?_
    refine Wk.iload (pc' := 58) d4_56 rfl rfl ?_
    refine Wk.iconst (pc' := 59) (v := 4) d4_58 rfl rfl ?_
    refine Wk.icmp_ltY (pc' := 71) d4_59 (by decide) ((own_lt (j := 4) (by omega) (by decide)).mpr (by omega)) ?_
    refine Wk.iload (pc' := 73) d4_71 rfl rfl ?_
    refine Wk.iconst (pc' := 74) (v := 5) d4_73 rfl rfl ?_
    refine Wk.icmp_ltY (pc' := 86) d4_74 (by decide) ((own_lt (j := 5) (by omega) (by decide)).mpr (by omega)) ?_
    refine Wk.iload (pc' := 88) d4_86 rfl rfl ?_
    refine Wk.bipush (pc' := 90) (v := 6) d4_88 rfl rfl ?_
    refine Wk.icmp_ltY (pc' := 102) d4_90 (by decide) ((own_lt (j := 6) (by omega) (by decide)).mpr (by omega)) ?_
    refine Wk.iload (pc' := 104) d4_102 rfl rfl ?_
    refine Wk.bipush (pc' := 106) (v := 7) d4_104 rfl rfl ?_
    refine Wk.icmp_ltY (pc' := 118) d4_106 (by decide) ((own_lt (j := 7) (by omega) (by decide)).mpr (by omega)) ?_
    refine Wk.iload (pc' := 120) d4_118 rfl rfl ?_
    exact Wk.ireturn rfl d4_120 (Nat.le_of_ble_eq_true rfl) (Nat.le_of_ble_eq_true rfl) ⟨rfl, (by rw [show min mm 7 = 0 by omega] <;> rfl), rfl⟩
theorem ef_exp (m : MethodId) (x0 : Addr) (x1 : Int32) (x2 : Int32) (x3 : Int32) : entryFrame m #[(.ref x0), (.int x1), (.int x2), (.int x3)] 5 = mkF m 0 #[.val (.ref x0), .val (.int x1), .val (.int x2), .val (.int x3), .unset] [] := by first | (simp [entryFrame, mkF, argsToLocals, Value.category]; done) | rfl
abbrev b_exp : Bdy := ((⟨"com/example/quittance/quittance/SegmentEndPinLaw", "expected", "([CIII)I"⟩ : MethodName), method_7_code, 5, (Option.some Jvm.ClassFile.FieldType.int), ({ frames := 3, cells := 0, slots := 0, locals := 45 } : Room))
def Q_exp (Z : State) (N : Nat) (c : Addr) (q : ClassId) (X : List Int32) (s : Nat) (e : Nat) (mm : Nat) (h0 : Heap) (I : Lts) (v : Option Value) (h : Heap) (J : Lts) : Prop := I = J ∧ v = some (.int (Int32.ofNat (own_ex X s e mm))) ∧ h0 = h
set_option maxRecDepth 65536 in
set_option maxHeartbeats 40000000 in
theorem rm_exp {l : Launch} {Z : State} {a0 : Array Value} {N : Nat} (hw : ∀ d ∈ tables_1, d.before a0 Z = true) (c : Addr) (q : ClassId) (X : List Int32) (s : Nat) (e : Nat) (mm : Nat) (h0 : Heap) (I : Lts) (P0 : Arv Z h0 c q .char (6 : Int32) (X.map Value.int) (.int (0 : Int32))) (hse : s ≤ e) (he : e ≤ 6) (hm : mm < 2147483648) :
    Cn l Z N b_exp #[(.ref c), (.int (Int32.ofNat s)), (.int (Int32.ofNat e)), (.int (Int32.ofNat mm))] h0 I (Q_exp Z N c q X s e mm h0 I) := by
  refine Cn.of_wk (Ls := #[.val (.ref c), .val (.int (Int32.ofNat s)), .val (.int (Int32.ofNat e)), .val (.int (Int32.ofNat mm)), .unset]) (plainFor_of_name (by first | (simp [plainName, overriddenIn]; done) | decide +kernel)) (fun m => ef_exp m c (Int32.ofNat s) (Int32.ofNat e) (Int32.ofNat mm)) ?_
  by_cases hh : own_hd X s e
  · skip
    refine Wk.iloadN (pc' := 1) d2_0 rfl rfl ?_
    refine Wk.iconst (pc' := 2) (v := 3) d2_1 rfl rfl ?_
    refine Wk.iadd (pc' := 3) d2_2 rfl ?_
    rw [(show Int32.ofNat s + (3 : Int32) = Int32.ofNat (s + 3) from own_addn s 3)]
    refine Wk.iloadN (pc' := 4) d2_3 rfl rfl ?_
    refine Wk.icmp_gtN (pc' := 7) d2_4 rfl (mt (own_lt (by omega) (by omega)).mp (by have := hh.1; omega)) ?_
    have hs3 : s + 3 ≤ e := by exact hh.1
    refine Wk.aloadN (pc' := 8) d2_7 rfl rfl rfl ?_
    refine Wk.iloadN (pc' := 9) d2_8 rfl rfl ?_
    refine Wk.caload (pc' := 10) (v := (.int (X.getD s 0))) P0 (own_in (n := 6) (by omega) (by decide)) (by rw [own_clamp (by omega)]; exact own_geti X s) d2_9 rfl ?_
    refine Wk.bipush (pc' := 12) (v := 77) d2_10 rfl rfl ?_
    refine Wk.icmp_neN (pc' := 15) d2_12 rfl hh.2.1.1 ?_
    refine Wk.aloadN (pc' := 16) d2_15 rfl rfl rfl ?_
    refine Wk.iloadN (pc' := 17) d2_16 rfl rfl ?_
    refine Wk.iconst (pc' := 18) (v := 1) d2_17 rfl rfl ?_
    refine Wk.iadd (pc' := 19) d2_18 rfl ?_
    rw [(show Int32.ofNat s + (1 : Int32) = Int32.ofNat (s + 1) from own_addn s 1)]
    refine Wk.caload (pc' := 20) (v := (.int (X.getD (s + 1) 0))) P0 (own_in (n := 6) (by omega) (by decide)) (by rw [own_clamp (by omega)]; exact own_geti X (s + 1)) d2_19 rfl ?_
    refine Wk.bipush (pc' := 22) (v := 83) d2_20 rfl rfl ?_
    refine Wk.icmp_neN (pc' := 25) d2_22 rfl hh.2.1.2.1 ?_
    refine Wk.aloadN (pc' := 26) d2_25 rfl rfl rfl ?_
    refine Wk.iloadN (pc' := 27) d2_26 rfl rfl ?_
    refine Wk.iconst (pc' := 28) (v := 2) d2_27 rfl rfl ?_
    refine Wk.iadd (pc' := 29) d2_28 rfl ?_
    rw [(show Int32.ofNat s + (2 : Int32) = Int32.ofNat (s + 2) from own_addn s 2)]
    refine Wk.caload (pc' := 30) (v := (.int (X.getD (s + 2) 0))) P0 (own_in (n := 6) (by omega) (by decide)) (by rw [own_clamp (by omega)]; exact own_geti X (s + 2)) d2_29 rfl ?_
    refine Wk.bipush (pc' := 32) (v := 72) d2_30 rfl rfl ?_
    refine Wk.icmp_neN (pc' := 35) d2_32 rfl hh.2.1.2.2 ?_
    by_cases hq3 : s + 3 = e
    · skip
      refine Wk.iloadN (pc' := 36) d2_35 rfl rfl ?_
      refine Wk.iconst (pc' := 37) (v := 3) d2_36 rfl rfl ?_
      refine Wk.iadd (pc' := 38) d2_37 rfl ?_
      rw [(show Int32.ofNat s + (3 : Int32) = Int32.ofNat (s + 3) from own_addn s 3)]
      refine Wk.iloadN (pc' := 39) d2_38 rfl rfl ?_
      refine Wk.icmp_eqY (pc' := 52) d2_39 (by decide) (by rw [hq3]) ?_
      refine Wk.iconst (pc' := 53) (v := 1) d2_52 rfl rfl ?_
      refine Wk.goto (pc' := 57) d2_53 (by decide) ?_
      refine Wk.istore (pc' := 59) #[.val (.ref c), .val (.int (Int32.ofNat s)), .val (.int (Int32.ofNat e)), .val (.int (Int32.ofNat mm)), .val (.int (1 : Int32))] d2_57 rfl rfl ?_
      refine Wk.iload (pc' := 61) d2_59 rfl rfl ?_
      refine Wk.if_eqN (pc' := 64) d2_61 rfl (by decide) ?_
      refine Wk.iloadN (pc' := 65) d2_64 rfl rfl ?_
      refine Wk.iloadN (pc' := 66) d2_65 rfl rfl ?_
      refine Wk.iconst (pc' := 67) (v := 3) d2_66 rfl rfl ?_
      refine Wk.iadd (pc' := 68) d2_67 rfl ?_
      rw [(show Int32.ofNat s + (3 : Int32) = Int32.ofNat (s + 3) from own_addn s 3)]
      refine Wk.icmp_neN (pc' := 71) d2_68 rfl (by rw [hq3]) ?_
      by_cases hm0 : mm = 0
      · skip
        refine Wk.iloadN (pc' := 72) d2_71 rfl rfl ?_
        refine Wk.if_neN (pc' := 75) d2_72 rfl (by rw [hm0]; rfl) ?_
        refine Wk.iconst (pc' := 76) (v := 3) d2_75 rfl rfl ?_
        refine Wk.goto (pc' := 80) d2_76 (by decide) ?_
        exact Wk.ireturn rfl d2_80 (Nat.le_of_ble_eq_true rfl) (Nat.le_of_ble_eq_true rfl) ⟨rfl, (by rw [own_ex, if_pos hh, if_pos hq3.symm, if_pos hm0]; rfl), rfl⟩
      · skip
        refine Wk.iloadN (pc' := 72) d2_71 rfl rfl ?_
        refine Wk.if_neY (pc' := 79) d2_72 (by decide) (mt (own_eq (j := 0) (by omega) (by decide)).mp hm0) ?_
        refine Wk.iconst (pc' := 80) (v := 4) d2_79 rfl rfl ?_
        exact Wk.ireturn rfl d2_80 (Nat.le_of_ble_eq_true rfl) (Nat.le_of_ble_eq_true rfl) ⟨rfl, (by rw [own_ex, if_pos hh, if_pos hq3.symm, if_neg hm0]; rfl), rfl⟩
    · skip
      refine Wk.iloadN (pc' := 36) d2_35 rfl rfl ?_
      refine Wk.iconst (pc' := 37) (v := 3) d2_36 rfl rfl ?_
      refine Wk.iadd (pc' := 38) d2_37 rfl ?_
      rw [(show Int32.ofNat s + (3 : Int32) = Int32.ofNat (s + 3) from own_addn s 3)]
      refine Wk.iloadN (pc' := 39) d2_38 rfl rfl ?_
      refine Wk.icmp_eqN (pc' := 42) d2_39 rfl (mt (own_eq (by omega) (by omega)).mp hq3) ?_
      have hs4 : s + 3 < 6 := by omega
      refine Wk.aloadN (pc' := 43) d2_42 rfl rfl rfl ?_
      refine Wk.iloadN (pc' := 44) d2_43 rfl rfl ?_
      refine Wk.iconst (pc' := 45) (v := 3) d2_44 rfl rfl ?_
      refine Wk.iadd (pc' := 46) d2_45 rfl ?_
      rw [(show Int32.ofNat s + (3 : Int32) = Int32.ofNat (s + 3) from own_addn s 3)]
      refine Wk.caload (pc' := 47) (v := (.int (X.getD (s + 3) 0))) P0 (own_in (n := 6) (by omega) (by decide)) (by rw [own_clamp (by omega)]; exact own_geti X (s + 3)) d2_46 rfl ?_
      refine Wk.bipush (pc' := 49) (v := 124) d2_47 rfl rfl ?_
      refine Wk.icmp_neN (pc' := 52) d2_49 rfl (hh.2.2.resolve_left hq3) ?_
      refine Wk.iconst (pc' := 53) (v := 1) d2_52 rfl rfl ?_
      refine Wk.goto (pc' := 57) d2_53 (by decide) ?_
      refine Wk.istore (pc' := 59) #[.val (.ref c), .val (.int (Int32.ofNat s)), .val (.int (Int32.ofNat e)), .val (.int (Int32.ofNat mm)), .val (.int (1 : Int32))] d2_57 rfl rfl ?_
      refine Wk.iload (pc' := 61) d2_59 rfl rfl ?_
      refine Wk.if_eqN (pc' := 64) d2_61 rfl (by decide) ?_
      refine Wk.iloadN (pc' := 65) d2_64 rfl rfl ?_
      refine Wk.iloadN (pc' := 66) d2_65 rfl rfl ?_
      refine Wk.iconst (pc' := 67) (v := 3) d2_66 rfl rfl ?_
      refine Wk.iadd (pc' := 68) d2_67 rfl ?_
      rw [(show Int32.ofNat s + (3 : Int32) = Int32.ofNat (s + 3) from own_addn s 3)]
      refine Wk.icmp_neY (pc' := 81) d2_68 (by decide) (mt (own_eq (by omega) (by omega)).mp (fun q => hq3 q.symm)) ?_
      refine Wk.iload (pc' := 83) d2_81 rfl rfl ?_
      refine Wk.if_eqN (pc' := 86) d2_83 rfl (by decide) ?_
      by_cases hm0 : mm = 0
      · skip
        refine Wk.iloadN (pc' := 87) d2_86 rfl rfl ?_
        refine Wk.if_neN (pc' := 90) d2_87 rfl (by rw [hm0]; rfl) ?_
        refine Wk.iloadN (pc' := 91) d2_90 rfl rfl ?_
        refine Wk.iconst (pc' := 92) (v := 3) d2_91 rfl rfl ?_
        refine Wk.iadd (pc' := 93) d2_92 rfl ?_
        rw [(show Int32.ofNat s + (3 : Int32) = Int32.ofNat (s + 3) from own_addn s 3)]
        exact Wk.ireturn rfl d2_93 (Nat.le_of_ble_eq_true rfl) (Nat.le_of_ble_eq_true rfl) ⟨rfl, (by rw [own_ex, if_pos hh, if_neg (fun q => hq3 q.symm), if_pos hm0]), rfl⟩
      · skip
        refine Wk.iloadN (pc' := 87) d2_86 rfl rfl ?_
        refine Wk.if_neY (pc' := 94) d2_87 (by decide) (mt (own_eq (j := 0) (by omega) (by decide)).mp hm0) ?_
        by_cases hm1 : mm = 1
        · skip
          refine Wk.iloadN (pc' := 95) d2_94 rfl rfl ?_
          refine Wk.iconst (pc' := 96) (v := 1) d2_95 rfl rfl ?_
          refine Wk.icmp_neN (pc' := 99) d2_96 rfl (by rw [hm1]; rfl) ?_
          refine Wk.iloadN (pc' := 100) d2_99 rfl rfl ?_
          refine Wk.iconst (pc' := 101) (v := 4) d2_100 rfl rfl ?_
          refine Wk.iadd (pc' := 102) d2_101 rfl ?_
          rw [(show Int32.ofNat s + (4 : Int32) = Int32.ofNat (s + 4) from own_addn s 4)]
          exact Wk.ireturn rfl d2_102 (Nat.le_of_ble_eq_true rfl) (Nat.le_of_ble_eq_true rfl) ⟨rfl, (by rw [own_ex, if_pos hh, if_neg (fun q => hq3 q.symm), if_neg hm0, if_pos hm1]), rfl⟩
        · skip
          refine Wk.iloadN (pc' := 95) d2_94 rfl rfl ?_
          refine Wk.iconst (pc' := 96) (v := 1) d2_95 rfl rfl ?_
          refine Wk.icmp_neY (pc' := 103) d2_96 (by decide) (mt (own_eq (j := 1) (by omega) (by decide)).mp hm1) ?_
          refine Wk.aloadN (pc' := 104) d2_103 rfl rfl rfl ?_
          refine Wk.aloadN (pc' := 105) d2_104 rfl rfl rfl ?_
          refine Wk.iloadN (pc' := 106) d2_105 rfl rfl ?_
          refine Wk.iconst (pc' := 107) (v := 4) d2_106 rfl rfl ?_
          refine Wk.iadd (pc' := 108) d2_107 rfl ?_
          rw [(show Int32.ofNat s + (4 : Int32) = Int32.ofNat (s + 4) from own_addn s 4)]
          refine Wk.iloadN (pc' := 109) d2_108 rfl rfl ?_
          refine Wk.callS (a0 := a0) (pc' := 112) (k' := 0) (n' := 0) (W := 1) (b := b_nsp) (argsL := [(.ref c), (.int (Int32.ofNat (s + 4))), (.int (Int32.ofNat e))]) (rest := [(.ref c)]) (rm_nsp hw c q X (s + 4) e h0 I P0 (by omega) he) (w9 hw) (w10 hw) (w3 hw) (w11 hw) (by decide) (Nat.le_refl _) id (Nat.le_of_ble_eq_true rfl) (Nat.le_of_ble_eq_true rfl) rfl rfl (Nat.le_of_ble_eq_true rfl) (Nat.le_of_ble_eq_true rfl) rfl pd22 rfl rfl rfl (Nat.le_of_ble_eq_true rfl) d2_109 rfl fun v1 h2 J3 hs4 hQ5 => ?_
          obtain ⟨rfl, rfl, rfl⟩ := hQ5
          show Wk _ h0 0 0 I 112 #[.val (.ref c), .val (.int (Int32.ofNat s)), .val (.int (Int32.ofNat e)), .val (.int (Int32.ofNat mm)), .val (.int (1 : Int32))] [(.int (Int32.ofNat (own_sep X (s + 4) e))), (.ref c)]
          refine Wk.iloadN (pc' := 113) d2_112 rfl rfl ?_
          refine Wk.iloadN (pc' := 114) d2_113 rfl rfl ?_
          refine Wk.iconst (pc' := 115) (v := 2) d2_114 rfl rfl ?_
          refine Wk.isub (pc' := 116) d2_115 rfl ?_
          rw [(show Int32.ofNat mm - (2 : Int32) = Int32.ofNat (mm - 2) from own_subN (b := 2) (by omega) hm)]
          refine Wk.callS (a0 := a0) (pc' := 119) (k' := 0) (n' := 0) (W := 0) (b := b_wlk) (argsL := [(.ref c), (.int (Int32.ofNat (own_sep X (s + 4) e))), (.int (Int32.ofNat e)), (.int (Int32.ofNat (mm - 2)))]) (rest := []) (rm_wlk hw c q X (own_sep X (s + 4) e) e (mm - 2) h0 I P0 (own_sep_b (by omega)).2 he (by omega)) (w12 hw) (w13 hw) (w3 hw) (w14 hw) (by decide) (Nat.le_refl _) id (Nat.le_of_ble_eq_true rfl) (Nat.le_of_ble_eq_true rfl) rfl rfl (Nat.le_of_ble_eq_true rfl) (Nat.le_of_ble_eq_true rfl) rfl pd23 rfl rfl rfl (Nat.le_of_ble_eq_true rfl) d2_116 rfl fun v6 h7 J8 hs9 hQ10 => ?_
          obtain ⟨rfl, rfl, rfl⟩ := hQ10
          show Wk _ h0 0 0 I 119 #[.val (.ref c), .val (.int (Int32.ofNat s)), .val (.int (Int32.ofNat e)), .val (.int (Int32.ofNat mm)), .val (.int (1 : Int32))] [(.int (Int32.ofNat (own_it X e (min (mm - 2) 7) (own_sep X (s + 4) e))))]
          exact Wk.ireturn rfl d2_119 (Nat.le_of_ble_eq_true rfl) (Nat.le_of_ble_eq_true rfl) ⟨rfl, (by rw [own_ex, if_pos hh, if_neg (fun q => hq3 q.symm), if_neg hm0, if_neg hm1]), rfl⟩
  · skip
    refine Wk.iloadN (pc' := 1) d2_0 rfl rfl ?_
    refine Wk.iconst (pc' := 2) (v := 3) d2_1 rfl rfl ?_
    refine Wk.iadd (pc' := 3) d2_2 rfl ?_
    rw [(show Int32.ofNat s + (3 : Int32) = Int32.ofNat (s + 3) from own_addn s 3)]
    refine Wk.iloadN (pc' := 4) d2_3 rfl rfl ?_
    by_cases c4_11 : (Int32.ofNat e) < (Int32.ofNat (s + 3))
    · refine Wk.icmp_gtY (pc' := 56) d2_4 (by decide) c4_11 ?_
      refine Wk.iconst (pc' := 57) (v := 0) d2_56 rfl rfl ?_
      refine Wk.istore (pc' := 59) #[.val (.ref c), .val (.int (Int32.ofNat s)), .val (.int (Int32.ofNat e)), .val (.int (Int32.ofNat mm)), .val (.int (0 : Int32))] d2_57 rfl rfl ?_
      refine Wk.iload (pc' := 61) d2_59 rfl rfl ?_
      refine Wk.if_eqY (pc' := 81) d2_61 (by decide) rfl ?_
      refine Wk.iload (pc' := 83) d2_81 rfl rfl ?_
      refine Wk.if_eqY (pc' := 120) d2_83 (by decide) rfl ?_
      refine Wk.aloadN (pc' := 121) d2_120 rfl rfl rfl ?_
      refine Wk.aloadN (pc' := 122) d2_121 rfl rfl rfl ?_
      refine Wk.iloadN (pc' := 123) d2_122 rfl rfl ?_
      refine Wk.iloadN (pc' := 124) d2_123 rfl rfl ?_
      refine Wk.callS (a0 := a0) (pc' := 127) (k' := 0) (n' := 0) (W := 1) (b := b_nsp) (argsL := [(.ref c), (.int (Int32.ofNat s)), (.int (Int32.ofNat e))]) (rest := [(.ref c)]) (rm_nsp hw c q X s e h0 I P0 hse he) (w9 hw) (w10 hw) (w3 hw) (w11 hw) (by decide) (Nat.le_refl _) id (Nat.le_of_ble_eq_true rfl) (Nat.le_of_ble_eq_true rfl) rfl rfl (Nat.le_of_ble_eq_true rfl) (Nat.le_of_ble_eq_true rfl) rfl pd22 rfl rfl rfl (Nat.le_of_ble_eq_true rfl) d2_124 rfl fun v12 h13 J14 hs15 hQ16 => ?_
      obtain ⟨rfl, rfl, rfl⟩ := hQ16
      show Wk _ h0 0 0 I 127 #[.val (.ref c), .val (.int (Int32.ofNat s)), .val (.int (Int32.ofNat e)), .val (.int (Int32.ofNat mm)), .val (.int (0 : Int32))] [(.int (Int32.ofNat (own_sep X s e))), (.ref c)]
      refine Wk.iloadN (pc' := 128) d2_127 rfl rfl ?_
      refine Wk.iloadN (pc' := 129) d2_128 rfl rfl ?_
      refine Wk.callS (a0 := a0) (pc' := 132) (k' := 0) (n' := 0) (W := 0) (b := b_wlk) (argsL := [(.ref c), (.int (Int32.ofNat (own_sep X s e))), (.int (Int32.ofNat e)), (.int (Int32.ofNat mm))]) (rest := []) (rm_wlk hw c q X (own_sep X s e) e mm h0 I P0 (own_sep_b hse).2 he hm) (w12 hw) (w13 hw) (w3 hw) (w14 hw) (by decide) (Nat.le_refl _) id (Nat.le_of_ble_eq_true rfl) (Nat.le_of_ble_eq_true rfl) rfl rfl (Nat.le_of_ble_eq_true rfl) (Nat.le_of_ble_eq_true rfl) rfl pd23 rfl rfl rfl (Nat.le_of_ble_eq_true rfl) d2_129 rfl fun v17 h18 J19 hs20 hQ21 => ?_
      obtain ⟨rfl, rfl, rfl⟩ := hQ21
      show Wk _ h0 0 0 I 132 #[.val (.ref c), .val (.int (Int32.ofNat s)), .val (.int (Int32.ofNat e)), .val (.int (Int32.ofNat mm)), .val (.int (0 : Int32))] [(.int (Int32.ofNat (own_it X e (min mm 7) (own_sep X s e))))]
      exact Wk.ireturn rfl d2_132 (Nat.le_of_ble_eq_true rfl) (Nat.le_of_ble_eq_true rfl) ⟨rfl, (by rw [own_ex, if_neg hh]), rfl⟩
    · refine Wk.icmp_gtN (pc' := 7) d2_4 rfl c4_11 ?_
      have hs3 : s + 3 ≤ e := by have := mt (own_lt (by omega) (by omega)).mpr c4_11; omega
      refine Wk.aloadN (pc' := 8) d2_7 rfl rfl rfl ?_
      refine Wk.iloadN (pc' := 9) d2_8 rfl rfl ?_
      refine Wk.caload (pc' := 10) (v := (.int (X.getD s 0))) P0 (own_in (n := 6) (by omega) (by decide)) (by rw [own_clamp (by omega)]; exact own_geti X s) d2_9 rfl ?_
      refine Wk.bipush (pc' := 12) (v := 77) d2_10 rfl rfl ?_
      by_cases c12_22 : (X.getD s 0) = (77 : Int32)
      · refine Wk.icmp_neN (pc' := 15) d2_12 rfl c12_22 ?_
        refine Wk.aloadN (pc' := 16) d2_15 rfl rfl rfl ?_
        refine Wk.iloadN (pc' := 17) d2_16 rfl rfl ?_
        refine Wk.iconst (pc' := 18) (v := 1) d2_17 rfl rfl ?_
        refine Wk.iadd (pc' := 19) d2_18 rfl ?_
        rw [(show Int32.ofNat s + (1 : Int32) = Int32.ofNat (s + 1) from own_addn s 1)]
        refine Wk.caload (pc' := 20) (v := (.int (X.getD (s + 1) 0))) P0 (own_in (n := 6) (by omega) (by decide)) (by rw [own_clamp (by omega)]; exact own_geti X (s + 1)) d2_19 rfl ?_
        refine Wk.bipush (pc' := 22) (v := 83) d2_20 rfl rfl ?_
        by_cases c22_23 : (X.getD (s + 1) 0) = (83 : Int32)
        · refine Wk.icmp_neN (pc' := 25) d2_22 rfl c22_23 ?_
          refine Wk.aloadN (pc' := 26) d2_25 rfl rfl rfl ?_
          refine Wk.iloadN (pc' := 27) d2_26 rfl rfl ?_
          refine Wk.iconst (pc' := 28) (v := 2) d2_27 rfl rfl ?_
          refine Wk.iadd (pc' := 29) d2_28 rfl ?_
          rw [(show Int32.ofNat s + (2 : Int32) = Int32.ofNat (s + 2) from own_addn s 2)]
          refine Wk.caload (pc' := 30) (v := (.int (X.getD (s + 2) 0))) P0 (own_in (n := 6) (by omega) (by decide)) (by rw [own_clamp (by omega)]; exact own_geti X (s + 2)) d2_29 rfl ?_
          refine Wk.bipush (pc' := 32) (v := 72) d2_30 rfl rfl ?_
          by_cases c32_24 : (X.getD (s + 2) 0) = (72 : Int32)
          · refine Wk.icmp_neN (pc' := 35) d2_32 rfl c32_24 ?_
            by_cases hq3 : s + 3 = e
            · skip
              refine Wk.iloadN (pc' := 36) d2_35 rfl rfl ?_
              refine Wk.iconst (pc' := 37) (v := 3) d2_36 rfl rfl ?_
              refine Wk.iadd (pc' := 38) d2_37 rfl ?_
              rw [(show Int32.ofNat s + (3 : Int32) = Int32.ofNat (s + 3) from own_addn s 3)]
              refine Wk.iloadN (pc' := 39) d2_38 rfl rfl ?_
              refine Wk.icmp_eqY (pc' := 52) d2_39 (by decide) (by rw [hq3]) ?_
              exact absurd ⟨hs3, ⟨c12_22, c22_23, c32_24⟩, Or.inl hq3⟩ hh
            · skip
              refine Wk.iloadN (pc' := 36) d2_35 rfl rfl ?_
              refine Wk.iconst (pc' := 37) (v := 3) d2_36 rfl rfl ?_
              refine Wk.iadd (pc' := 38) d2_37 rfl ?_
              rw [(show Int32.ofNat s + (3 : Int32) = Int32.ofNat (s + 3) from own_addn s 3)]
              refine Wk.iloadN (pc' := 39) d2_38 rfl rfl ?_
              refine Wk.icmp_eqN (pc' := 42) d2_39 rfl (mt (own_eq (by omega) (by omega)).mp hq3) ?_
              have hs4 : s + 3 < 6 := by omega
              refine Wk.aloadN (pc' := 43) d2_42 rfl rfl rfl ?_
              refine Wk.iloadN (pc' := 44) d2_43 rfl rfl ?_
              refine Wk.iconst (pc' := 45) (v := 3) d2_44 rfl rfl ?_
              refine Wk.iadd (pc' := 46) d2_45 rfl ?_
              rw [(show Int32.ofNat s + (3 : Int32) = Int32.ofNat (s + 3) from own_addn s 3)]
              refine Wk.caload (pc' := 47) (v := (.int (X.getD (s + 3) 0))) P0 (own_in (n := 6) (by omega) (by decide)) (by rw [own_clamp (by omega)]; exact own_geti X (s + 3)) d2_46 rfl ?_
              refine Wk.bipush (pc' := 49) (v := 124) d2_47 rfl rfl ?_
              by_cases c49_25 : (X.getD (s + 3) 0) = (124 : Int32)
              · refine Wk.icmp_neN (pc' := 52) d2_49 rfl c49_25 ?_
                exact absurd ⟨hs3, ⟨c12_22, c22_23, c32_24⟩, Or.inr c49_25⟩ hh
              · refine Wk.icmp_neY (pc' := 56) d2_49 (by decide) c49_25 ?_
                refine Wk.iconst (pc' := 57) (v := 0) d2_56 rfl rfl ?_
                refine Wk.istore (pc' := 59) #[.val (.ref c), .val (.int (Int32.ofNat s)), .val (.int (Int32.ofNat e)), .val (.int (Int32.ofNat mm)), .val (.int (0 : Int32))] d2_57 rfl rfl ?_
                refine Wk.iload (pc' := 61) d2_59 rfl rfl ?_
                refine Wk.if_eqY (pc' := 81) d2_61 (by decide) rfl ?_
                refine Wk.iload (pc' := 83) d2_81 rfl rfl ?_
                refine Wk.if_eqY (pc' := 120) d2_83 (by decide) rfl ?_
                refine Wk.aloadN (pc' := 121) d2_120 rfl rfl rfl ?_
                refine Wk.aloadN (pc' := 122) d2_121 rfl rfl rfl ?_
                refine Wk.iloadN (pc' := 123) d2_122 rfl rfl ?_
                refine Wk.iloadN (pc' := 124) d2_123 rfl rfl ?_
                refine Wk.callS (a0 := a0) (pc' := 127) (k' := 0) (n' := 0) (W := 1) (b := b_nsp) (argsL := [(.ref c), (.int (Int32.ofNat s)), (.int (Int32.ofNat e))]) (rest := [(.ref c)]) (rm_nsp hw c q X s e h0 I P0 hse he) (w9 hw) (w10 hw) (w3 hw) (w11 hw) (by decide) (Nat.le_refl _) id (Nat.le_of_ble_eq_true rfl) (Nat.le_of_ble_eq_true rfl) rfl rfl (Nat.le_of_ble_eq_true rfl) (Nat.le_of_ble_eq_true rfl) rfl pd22 rfl rfl rfl (Nat.le_of_ble_eq_true rfl) d2_124 rfl fun v26 h27 J28 hs29 hQ30 => ?_
                obtain ⟨rfl, rfl, rfl⟩ := hQ30
                show Wk _ h0 0 0 I 127 #[.val (.ref c), .val (.int (Int32.ofNat s)), .val (.int (Int32.ofNat e)), .val (.int (Int32.ofNat mm)), .val (.int (0 : Int32))] [(.int (Int32.ofNat (own_sep X s e))), (.ref c)]
                refine Wk.iloadN (pc' := 128) d2_127 rfl rfl ?_
                refine Wk.iloadN (pc' := 129) d2_128 rfl rfl ?_
                refine Wk.callS (a0 := a0) (pc' := 132) (k' := 0) (n' := 0) (W := 0) (b := b_wlk) (argsL := [(.ref c), (.int (Int32.ofNat (own_sep X s e))), (.int (Int32.ofNat e)), (.int (Int32.ofNat mm))]) (rest := []) (rm_wlk hw c q X (own_sep X s e) e mm h0 I P0 (own_sep_b hse).2 he hm) (w12 hw) (w13 hw) (w3 hw) (w14 hw) (by decide) (Nat.le_refl _) id (Nat.le_of_ble_eq_true rfl) (Nat.le_of_ble_eq_true rfl) rfl rfl (Nat.le_of_ble_eq_true rfl) (Nat.le_of_ble_eq_true rfl) rfl pd23 rfl rfl rfl (Nat.le_of_ble_eq_true rfl) d2_129 rfl fun v31 h32 J33 hs34 hQ35 => ?_
                obtain ⟨rfl, rfl, rfl⟩ := hQ35
                show Wk _ h0 0 0 I 132 #[.val (.ref c), .val (.int (Int32.ofNat s)), .val (.int (Int32.ofNat e)), .val (.int (Int32.ofNat mm)), .val (.int (0 : Int32))] [(.int (Int32.ofNat (own_it X e (min mm 7) (own_sep X s e))))]
                exact Wk.ireturn rfl d2_132 (Nat.le_of_ble_eq_true rfl) (Nat.le_of_ble_eq_true rfl) ⟨rfl, (by rw [own_ex, if_neg hh]), rfl⟩
          · refine Wk.icmp_neY (pc' := 56) d2_32 (by decide) c32_24 ?_
            refine Wk.iconst (pc' := 57) (v := 0) d2_56 rfl rfl ?_
            refine Wk.istore (pc' := 59) #[.val (.ref c), .val (.int (Int32.ofNat s)), .val (.int (Int32.ofNat e)), .val (.int (Int32.ofNat mm)), .val (.int (0 : Int32))] d2_57 rfl rfl ?_
            refine Wk.iload (pc' := 61) d2_59 rfl rfl ?_
            refine Wk.if_eqY (pc' := 81) d2_61 (by decide) rfl ?_
            refine Wk.iload (pc' := 83) d2_81 rfl rfl ?_
            refine Wk.if_eqY (pc' := 120) d2_83 (by decide) rfl ?_
            refine Wk.aloadN (pc' := 121) d2_120 rfl rfl rfl ?_
            refine Wk.aloadN (pc' := 122) d2_121 rfl rfl rfl ?_
            refine Wk.iloadN (pc' := 123) d2_122 rfl rfl ?_
            refine Wk.iloadN (pc' := 124) d2_123 rfl rfl ?_
            refine Wk.callS (a0 := a0) (pc' := 127) (k' := 0) (n' := 0) (W := 1) (b := b_nsp) (argsL := [(.ref c), (.int (Int32.ofNat s)), (.int (Int32.ofNat e))]) (rest := [(.ref c)]) (rm_nsp hw c q X s e h0 I P0 hse he) (w9 hw) (w10 hw) (w3 hw) (w11 hw) (by decide) (Nat.le_refl _) id (Nat.le_of_ble_eq_true rfl) (Nat.le_of_ble_eq_true rfl) rfl rfl (Nat.le_of_ble_eq_true rfl) (Nat.le_of_ble_eq_true rfl) rfl pd22 rfl rfl rfl (Nat.le_of_ble_eq_true rfl) d2_124 rfl fun v36 h37 J38 hs39 hQ40 => ?_
            obtain ⟨rfl, rfl, rfl⟩ := hQ40
            show Wk _ h0 0 0 I 127 #[.val (.ref c), .val (.int (Int32.ofNat s)), .val (.int (Int32.ofNat e)), .val (.int (Int32.ofNat mm)), .val (.int (0 : Int32))] [(.int (Int32.ofNat (own_sep X s e))), (.ref c)]
            refine Wk.iloadN (pc' := 128) d2_127 rfl rfl ?_
            refine Wk.iloadN (pc' := 129) d2_128 rfl rfl ?_
            refine Wk.callS (a0 := a0) (pc' := 132) (k' := 0) (n' := 0) (W := 0) (b := b_wlk) (argsL := [(.ref c), (.int (Int32.ofNat (own_sep X s e))), (.int (Int32.ofNat e)), (.int (Int32.ofNat mm))]) (rest := []) (rm_wlk hw c q X (own_sep X s e) e mm h0 I P0 (own_sep_b hse).2 he hm) (w12 hw) (w13 hw) (w3 hw) (w14 hw) (by decide) (Nat.le_refl _) id (Nat.le_of_ble_eq_true rfl) (Nat.le_of_ble_eq_true rfl) rfl rfl (Nat.le_of_ble_eq_true rfl) (Nat.le_of_ble_eq_true rfl) rfl pd23 rfl rfl rfl (Nat.le_of_ble_eq_true rfl) d2_129 rfl fun v41 h42 J43 hs44 hQ45 => ?_
            obtain ⟨rfl, rfl, rfl⟩ := hQ45
            show Wk _ h0 0 0 I 132 #[.val (.ref c), .val (.int (Int32.ofNat s)), .val (.int (Int32.ofNat e)), .val (.int (Int32.ofNat mm)), .val (.int (0 : Int32))] [(.int (Int32.ofNat (own_it X e (min mm 7) (own_sep X s e))))]
            exact Wk.ireturn rfl d2_132 (Nat.le_of_ble_eq_true rfl) (Nat.le_of_ble_eq_true rfl) ⟨rfl, (by rw [own_ex, if_neg hh]), rfl⟩
        · refine Wk.icmp_neY (pc' := 56) d2_22 (by decide) c22_23 ?_
          refine Wk.iconst (pc' := 57) (v := 0) d2_56 rfl rfl ?_
          refine Wk.istore (pc' := 59) #[.val (.ref c), .val (.int (Int32.ofNat s)), .val (.int (Int32.ofNat e)), .val (.int (Int32.ofNat mm)), .val (.int (0 : Int32))] d2_57 rfl rfl ?_
          refine Wk.iload (pc' := 61) d2_59 rfl rfl ?_
          refine Wk.if_eqY (pc' := 81) d2_61 (by decide) rfl ?_
          refine Wk.iload (pc' := 83) d2_81 rfl rfl ?_
          refine Wk.if_eqY (pc' := 120) d2_83 (by decide) rfl ?_
          refine Wk.aloadN (pc' := 121) d2_120 rfl rfl rfl ?_
          refine Wk.aloadN (pc' := 122) d2_121 rfl rfl rfl ?_
          refine Wk.iloadN (pc' := 123) d2_122 rfl rfl ?_
          refine Wk.iloadN (pc' := 124) d2_123 rfl rfl ?_
          refine Wk.callS (a0 := a0) (pc' := 127) (k' := 0) (n' := 0) (W := 1) (b := b_nsp) (argsL := [(.ref c), (.int (Int32.ofNat s)), (.int (Int32.ofNat e))]) (rest := [(.ref c)]) (rm_nsp hw c q X s e h0 I P0 hse he) (w9 hw) (w10 hw) (w3 hw) (w11 hw) (by decide) (Nat.le_refl _) id (Nat.le_of_ble_eq_true rfl) (Nat.le_of_ble_eq_true rfl) rfl rfl (Nat.le_of_ble_eq_true rfl) (Nat.le_of_ble_eq_true rfl) rfl pd22 rfl rfl rfl (Nat.le_of_ble_eq_true rfl) d2_124 rfl fun v46 h47 J48 hs49 hQ50 => ?_
          obtain ⟨rfl, rfl, rfl⟩ := hQ50
          show Wk _ h0 0 0 I 127 #[.val (.ref c), .val (.int (Int32.ofNat s)), .val (.int (Int32.ofNat e)), .val (.int (Int32.ofNat mm)), .val (.int (0 : Int32))] [(.int (Int32.ofNat (own_sep X s e))), (.ref c)]
          refine Wk.iloadN (pc' := 128) d2_127 rfl rfl ?_
          refine Wk.iloadN (pc' := 129) d2_128 rfl rfl ?_
          refine Wk.callS (a0 := a0) (pc' := 132) (k' := 0) (n' := 0) (W := 0) (b := b_wlk) (argsL := [(.ref c), (.int (Int32.ofNat (own_sep X s e))), (.int (Int32.ofNat e)), (.int (Int32.ofNat mm))]) (rest := []) (rm_wlk hw c q X (own_sep X s e) e mm h0 I P0 (own_sep_b hse).2 he hm) (w12 hw) (w13 hw) (w3 hw) (w14 hw) (by decide) (Nat.le_refl _) id (Nat.le_of_ble_eq_true rfl) (Nat.le_of_ble_eq_true rfl) rfl rfl (Nat.le_of_ble_eq_true rfl) (Nat.le_of_ble_eq_true rfl) rfl pd23 rfl rfl rfl (Nat.le_of_ble_eq_true rfl) d2_129 rfl fun v51 h52 J53 hs54 hQ55 => ?_
          obtain ⟨rfl, rfl, rfl⟩ := hQ55
          show Wk _ h0 0 0 I 132 #[.val (.ref c), .val (.int (Int32.ofNat s)), .val (.int (Int32.ofNat e)), .val (.int (Int32.ofNat mm)), .val (.int (0 : Int32))] [(.int (Int32.ofNat (own_it X e (min mm 7) (own_sep X s e))))]
          exact Wk.ireturn rfl d2_132 (Nat.le_of_ble_eq_true rfl) (Nat.le_of_ble_eq_true rfl) ⟨rfl, (by rw [own_ex, if_neg hh]), rfl⟩
      · refine Wk.icmp_neY (pc' := 56) d2_12 (by decide) c12_22 ?_
        refine Wk.iconst (pc' := 57) (v := 0) d2_56 rfl rfl ?_
        refine Wk.istore (pc' := 59) #[.val (.ref c), .val (.int (Int32.ofNat s)), .val (.int (Int32.ofNat e)), .val (.int (Int32.ofNat mm)), .val (.int (0 : Int32))] d2_57 rfl rfl ?_
        refine Wk.iload (pc' := 61) d2_59 rfl rfl ?_
        refine Wk.if_eqY (pc' := 81) d2_61 (by decide) rfl ?_
        refine Wk.iload (pc' := 83) d2_81 rfl rfl ?_
        refine Wk.if_eqY (pc' := 120) d2_83 (by decide) rfl ?_
        refine Wk.aloadN (pc' := 121) d2_120 rfl rfl rfl ?_
        refine Wk.aloadN (pc' := 122) d2_121 rfl rfl rfl ?_
        refine Wk.iloadN (pc' := 123) d2_122 rfl rfl ?_
        refine Wk.iloadN (pc' := 124) d2_123 rfl rfl ?_
        refine Wk.callS (a0 := a0) (pc' := 127) (k' := 0) (n' := 0) (W := 1) (b := b_nsp) (argsL := [(.ref c), (.int (Int32.ofNat s)), (.int (Int32.ofNat e))]) (rest := [(.ref c)]) (rm_nsp hw c q X s e h0 I P0 hse he) (w9 hw) (w10 hw) (w3 hw) (w11 hw) (by decide) (Nat.le_refl _) id (Nat.le_of_ble_eq_true rfl) (Nat.le_of_ble_eq_true rfl) rfl rfl (Nat.le_of_ble_eq_true rfl) (Nat.le_of_ble_eq_true rfl) rfl pd22 rfl rfl rfl (Nat.le_of_ble_eq_true rfl) d2_124 rfl fun v56 h57 J58 hs59 hQ60 => ?_
        obtain ⟨rfl, rfl, rfl⟩ := hQ60
        show Wk _ h0 0 0 I 127 #[.val (.ref c), .val (.int (Int32.ofNat s)), .val (.int (Int32.ofNat e)), .val (.int (Int32.ofNat mm)), .val (.int (0 : Int32))] [(.int (Int32.ofNat (own_sep X s e))), (.ref c)]
        refine Wk.iloadN (pc' := 128) d2_127 rfl rfl ?_
        refine Wk.iloadN (pc' := 129) d2_128 rfl rfl ?_
        refine Wk.callS (a0 := a0) (pc' := 132) (k' := 0) (n' := 0) (W := 0) (b := b_wlk) (argsL := [(.ref c), (.int (Int32.ofNat (own_sep X s e))), (.int (Int32.ofNat e)), (.int (Int32.ofNat mm))]) (rest := []) (rm_wlk hw c q X (own_sep X s e) e mm h0 I P0 (own_sep_b hse).2 he hm) (w12 hw) (w13 hw) (w3 hw) (w14 hw) (by decide) (Nat.le_refl _) id (Nat.le_of_ble_eq_true rfl) (Nat.le_of_ble_eq_true rfl) rfl rfl (Nat.le_of_ble_eq_true rfl) (Nat.le_of_ble_eq_true rfl) rfl pd23 rfl rfl rfl (Nat.le_of_ble_eq_true rfl) d2_129 rfl fun v61 h62 J63 hs64 hQ65 => ?_
        obtain ⟨rfl, rfl, rfl⟩ := hQ65
        show Wk _ h0 0 0 I 132 #[.val (.ref c), .val (.int (Int32.ofNat s)), .val (.int (Int32.ofNat e)), .val (.int (Int32.ofNat mm)), .val (.int (0 : Int32))] [(.int (Int32.ofNat (own_it X e (min mm 7) (own_sep X s e))))]
        exact Wk.ireturn rfl d2_132 (Nat.le_of_ble_eq_true rfl) (Nat.le_of_ble_eq_true rfl) ⟨rfl, (by rw [own_ex, if_neg hh]), rfl⟩
theorem ef_rec (m : MethodId) (x0 : Addr) : entryFrame m #[(.ref x0)] 1 = mkF m 0 #[.val (.ref x0)] [] := by first | (simp [entryFrame, mkF, argsToLocals, Value.category]; done) | rfl
abbrev b_rec : Bdy := ((⟨"java/lang/Record", "<init>", "()V"⟩ : MethodName), jdk_30_method_1_code, 1, (Option.none : Option Jvm.ClassFile.FieldType), ({ frames := 1, cells := 0, slots := 0, locals := 12 } : Room))
def Q_rec (Z : State) (N : Nat) (a : Addr) (h0 : Heap) (I : Lts) (v : Option Value) (h : Heap) (J : Lts) : Prop := I = J ∧ v = none ∧ h0 = h
set_option maxRecDepth 65536 in
set_option maxHeartbeats 40000000 in
theorem rm_rec {l : Launch} {Z : State} {a0 : Array Value} {N : Nat} (hw : ∀ d ∈ tables_1, d.before a0 Z = true) (a : Addr) (h0 : Heap) (I : Lts) :
    Cn l Z N b_rec #[(.ref a)] h0 I (Q_rec Z N a h0 I) := by
  refine Cn.of_wk (Ls := #[.val (.ref a)]) (plainFor_of_name (by first | (simp [plainName, overriddenIn]; done) | decide +kernel)) (fun m => ef_rec m a) ?_
  refine Wk.aloadN (pc' := 1) d7_0 rfl rfl rfl ?_
  refine Wk.initO (a0 := a0) (pc' := 4) (W := 0) (w38 hw) (w39 hw) (w40 hw) rfl d7_1 rfl (Nat.le_of_ble_eq_true rfl) (Nat.le_of_ble_eq_true rfl) (Nat.le_of_ble_eq_true rfl) ?_
  exact Wk.return_ rfl d7_4 (Nat.le_of_ble_eq_true rfl) (Nat.le_of_ble_eq_true rfl) ⟨rfl, rfl, rfl⟩
theorem ef_din (m : MethodId) (x0 : Addr) (x1 : Int32) (x2 : Addr) : entryFrame m #[(.ref x0), (.int x1), (.ref x2)] 3 = mkF m 0 #[.val (.ref x0), .val (.int x1), .val (.ref x2)] [] := by first | (simp [entryFrame, mkF, argsToLocals, Value.category]; done) | rfl
abbrev b_din : Bdy := ((⟨"com/example/quittance/quittance/Delimiters", "<init>", "(CLjava/lang/String;)V"⟩ : MethodName), prog_23_method_1_code, 3, (Option.none : Option Jvm.ClassFile.FieldType), ({ frames := 2, cells := 0, slots := 0, locals := 24 } : Room))
def Q_din (Z : State) (N : Nat) (a : Addr) (x : Addr) (h0 : Heap) (I : Lts) (v : Option Value) (h : Heap) (J : Lts) : Prop := I = J ∧ v = none ∧ Keep h0 h [a] ∧ Fld Z h a "com/example/quittance/quittance/Delimiters" "field" "C" (.int (124 : Int32))
set_option maxRecDepth 65536 in
set_option maxHeartbeats 40000000 in
theorem rm_din {l : Launch} {Z : State} {a0 : Array Value} {N : Nat} (hw : ∀ d ∈ tables_1, d.before a0 Z = true) (a : Addr) (x : Addr) (h0 : Heap) (I : Lts) (P0 : Exa Z h0 a "com/example/quittance/quittance/Delimiters") (P1 : Fld Z h0 a "com/example/quittance/quittance/Delimiters" "field" "C" (.int (0 : Int32))) (P2 : Fld Z h0 a "com/example/quittance/quittance/Delimiters" "encodingCharacters" "Ljava/lang/String;" .null) (P3 : N ≤ a) :
    Cn l Z N b_din #[(.ref a), (.int (124 : Int32)), (.ref x)] h0 I (Q_din Z N a x h0 I) := by
  refine Cn.of_wk (Ls := #[.val (.ref a), .val (.int (124 : Int32)), .val (.ref x)]) (plainFor_of_name (by first | (simp [plainName, overriddenIn]; done) | decide +kernel)) (fun m => ef_din m a (124 : Int32) x) ?_
  refine Wk.aloadN (pc' := 1) d6_0 rfl rfl rfl ?_
  refine Wk.callN (a0 := a0) (pc' := 4) (k' := 0) (n' := 0) (W := 0) (b := b_rec) (argsL := []) (rest := []) (rm_rec hw a h0 I ) rfl rfl (w33 hw) (w34 hw) (w36 hw) (w37 hw) (by decide) (Nat.le_refl _) id (Nat.le_of_ble_eq_true rfl) (Nat.le_of_ble_eq_true rfl) rfl rfl (Nat.le_of_ble_eq_true rfl) (Nat.le_of_ble_eq_true rfl) rfl pd24 rfl rfl rfl (Nat.le_of_ble_eq_true rfl) d6_1 rfl fun v1 h2 J3 hs4 hQ5 => ?_
  obtain ⟨rfl, rfl, rfl⟩ := hQ5
  show Wk _ h0 0 0 I 4 #[.val (.ref a), .val (.int (124 : Int32)), .val (.ref x)] []
  refine Wk.aloadN (pc' := 5) d6_4 rfl rfl rfl ?_
  refine Wk.iloadN (pc' := 6) d6_5 rfl rfl ?_
  refine Wk.putFN (a0 := a0) (pc' := 9) (v' := (.int (124 : Int32))) (w41 hw) Via.refl P3 P1 P0 (Or.inr ⟨(w42 hw), rfl, rfl⟩) (w20 hw) (ty := .char) (by decide) rfl rfl d6_6 rfl fun h6 W7 => ?_
  have F8 := P1.same W7
  refine Wk.aloadN (pc' := 10) d6_9 rfl rfl rfl ?_
  refine Wk.aloadN (pc' := 11) d6_10 rfl rfl rfl ?_
  have f9 := (P0.wr W7)
  have f10 := (P2.other W7 (Or.inr (slot_ne (Or.inr (w44 hw)) (Or.inr (w42 hw)) (by decide) (t := (.object "java/lang/String")) (t' := .char) (by decide) (by decide))))
  refine Wk.putF (a0 := a0) (pc' := 14) (host := "") (Or.inl (w43 hw)) Via.refl P3 f10 f9 (Or.inr ⟨(w44 hw), rfl, rfl⟩) (w20 hw) (ty := (.object "java/lang/String")) (by decide) rfl rfl d6_11 rfl fun h11 W12 => ?_
  have F13 := f10.same W12
  have f14 := (F8.other W12 (Or.inr (slot_ne (Or.inr (w42 hw)) (Or.inr (w44 hw)) (by decide) (t := .char) (t' := (.object "java/lang/String")) (by decide) (by decide))))
  exact Wk.return_ rfl d6_14 (Nat.le_of_ble_eq_true rfl) (Nat.le_of_ble_eq_true rfl) ⟨rfl, rfl, (((Keep.refl h0 [a]).wr W7 (Or.inl (by simp))).wr W12 (Or.inl (by simp))), f14⟩
theorem ef_dfl (m : MethodId) (x0 : Addr) : entryFrame m #[(.ref x0)] 1 = mkF m 0 #[.val (.ref x0)] [] := by first | (simp [entryFrame, mkF, argsToLocals, Value.category]; done) | rfl
abbrev b_dfl : Bdy := ((⟨"com/example/quittance/quittance/Delimiters", "field", "()C"⟩ : MethodName), prog_23_method_37_code, 1, (Option.some Jvm.ClassFile.FieldType.char), ({ frames := 0, cells := 0, slots := 0, locals := 0 } : Room))
def Q_dfl (Z : State) (N : Nat) (a : Addr) (h0 : Heap) (I : Lts) (v : Option Value) (h : Heap) (J : Lts) : Prop := I = J ∧ v = some (.int (124 : Int32)) ∧ h0 = h
set_option maxRecDepth 65536 in
set_option maxHeartbeats 40000000 in
theorem rm_dfl {l : Launch} {Z : State} {a0 : Array Value} {N : Nat} (hw : ∀ d ∈ tables_1, d.before a0 Z = true) (a : Addr) (h0 : Heap) (I : Lts) (P0 : Fld Z h0 a "com/example/quittance/quittance/Delimiters" "field" "C" (.int (124 : Int32))) :
    Cn l Z N b_dfl #[(.ref a)] h0 I (Q_dfl Z N a h0 I) := by
  refine Cn.of_wk (Ls := #[.val (.ref a)]) (plainFor_of_name (by first | (simp [plainName, overriddenIn]; done) | decide +kernel)) (fun m => ef_dfl m a) ?_
  refine Wk.aloadN (pc' := 1) d15_0 rfl rfl rfl ?_
  refine Wk.getF (a0 := a0) (pc' := 4) (host := "") (Or.inl (w41 hw)) Via.refl P0 d15_1 rfl ?_
  exact Wk.zreturn rfl (by simp) d15_4 (Nat.le_of_ble_eq_true rfl) (Nat.le_of_ble_eq_true rfl) ⟨rfl, rfl, rfl⟩
theorem ef_pae (m : MethodId) (x0 : Addr) (x1 : Int32) (x2 : Int32) (x3 : Int32) : entryFrame m #[(.ref x0), (.int x1), (.int x2), (.int x3)] 5 = mkF m 0 #[.val (.ref x0), .val (.int x1), .val (.int x2), .val (.int x3), .unset] [] := by first | (simp [entryFrame, mkF, argsToLocals, Value.category]; done) | rfl
abbrev b_pae : Bdy := ((⟨"com/example/quittance/quittance/Delimiters", "partEnd", "(Ljava/lang/String;CII)I"⟩ : MethodName), prog_23_method_4_code, 5, (Option.some Jvm.ClassFile.FieldType.int), ({ frames := 4, cells := 0, slots := 0, locals := 53 } : Room))
def Q_pae (Z : State) (N : Nat) (t : Addr) (v' : Addr) (q : ClassId) (T : List Int32) (i0 : Nat) (e : Nat) (cs : Int32) (sf : Value) (h0 : Heap) (I : Lts) (v : Option Value) (h : Heap) (J : Lts) : Prop := I = J ∧ v = some (.int (Int32.ofNat (own_sep T i0 e))) ∧ h0 = h
set_option maxRecDepth 65536 in
set_option maxHeartbeats 40000000 in
theorem rm_pae {l : Launch} {Z : State} {a0 : Array Value} {N : Nat} (hw : ∀ d ∈ tables_1, d.before a0 Z = true) (t : Addr) (v' : Addr) (q : ClassId) (T : List Int32) (i0 : Nat) (e : Nat) (cs : Int32) (sf : Value) (h0 : Heap) (I : Lts) (P0 : Sta Z Z.heap "java/lang/String" "COMPACT_STRINGS" "Z" (.int cs)) (G_cs : ¬ cs = (0 : Int32)) (P2 : Sta Z Z.heap "jdk/internal/util/Preconditions" "SIOOBE_FORMATTER" "Ljava/util/function/BiFunction;" sf) (G_sf : sf.isRef = true) (P4 : Exa Z h0 t "java/lang/String") (P5 : Fld Z h0 t "java/lang/String" "value" "[B" (.ref v')) (P6 : Fld Z h0 t "java/lang/String" "coder" "B" (.int (0 : Int32))) (P7 : Arv Z h0 v' q .byte (Int32.ofNat T.length) (T.map own_by) (.int (0 : Int32))) (hie : i0 ≤ e) (he : e ≤ T.length) (hTl : T.length ≤ 6) (hTL : own_L T) :
    Cn l Z N b_pae #[(.ref t), (.int (124 : Int32)), (.int (Int32.ofNat i0)), (.int (Int32.ofNat e))] h0 I (Q_pae Z N t v' q T i0 e cs sf h0 I) := by
  refine Cn.of_wk (Ls := #[.val (.ref t), .val (.int (124 : Int32)), .val (.int (Int32.ofNat i0)), .val (.int (Int32.ofNat e)), .unset]) (plainFor_of_name (by first | (simp [plainName, overriddenIn]; done) | decide +kernel)) (fun m => ef_pae m t (124 : Int32) (Int32.ofNat i0) (Int32.ofNat e)) ?_
  refine Wk.iloadN (pc' := 1) d20_0 rfl rfl ?_
  refine Wk.istore (pc' := 3) #[.val (.ref t), .val (.int (124 : Int32)), .val (.int (Int32.ofNat i0)), .val (.int (Int32.ofNat e)), .val (.int (Int32.ofNat i0))] d20_1 rfl rfl ?_
  suffices loop : ∀ (d : Nat) (i : Nat), (i + d = e) → (own_sp T d i = own_sep T i0 e) → Wk (l, Z, N, h0.size, b_pae, Q_pae Z N t v' q T i0 e cs sf h0 I) h0 0 0 I 3 #[.val (.ref t), .val (.int (124 : Int32)), .val (.int (Int32.ofNat i0)), .val (.int (Int32.ofNat e)), .val (.int (Int32.ofNat i))] [] by
    exact loop (e - i0) i0 (by omega) rfl
  intro d
  induction d with
  | zero =>
    intro i hi hr
    refine Wk.iload (pc' := 5) d20_3 rfl rfl ?_
    refine Wk.iloadN (pc' := 6) d20_5 rfl rfl ?_
    refine Wk.icmp_geY (pc' := 28) d20_6 (by decide) (mt (own_lt (by omega) (by omega)).mp (by omega)) ?_
    refine Wk.iloadN (pc' := 29) d20_28 rfl rfl ?_
    exact Wk.ireturn rfl d20_29 (Nat.le_of_ble_eq_true rfl) (Nat.le_of_ble_eq_true rfl) ⟨rfl, (by rw [← hr, own_sp]; exact congrArg (fun z => some (Value.int (Int32.ofNat z))) (show e = i by omega)), rfl⟩
  | succ d ih =>
    intro i hi hr
    refine Wk.iload (pc' := 5) d20_3 rfl rfl ?_
    refine Wk.iloadN (pc' := 6) d20_5 rfl rfl ?_
    refine Wk.icmp_geN (pc' := 9) d20_6 rfl ((own_lt (by omega) (by omega)).mpr (by omega)) ?_
    refine Wk.aloadN (pc' := 10) d20_9 rfl rfl rfl ?_
    refine Wk.iload (pc' := 12) d20_10 rfl rfl ?_
    refine Wk.callV (a0 := a0) (pc' := 15) (k' := 0) (n' := 0) (W := 0) (b := b_s_chr) (argsL := [(.int (Int32.ofNat i))]) (rest := []) (y := (⟨"java/lang/String", "charAt", "(I)C"⟩ : MethodName)) (rm_s_chr hw t v' q T i sf cs h0 I P0 G_cs P2 G_sf P4 P5 P6 P7 (by omega) (by omega) hTL) P4 (w144 hw) (w145 hw) (w147 hw) (w147 hw) (w146 hw) (w23 hw) (w148 hw) (by decide) (Nat.le_refl _) id (Nat.le_of_ble_eq_true rfl) (Nat.le_of_ble_eq_true rfl) rfl rfl (Nat.le_of_ble_eq_true rfl) (Nat.le_of_ble_eq_true rfl) rfl pd25 rfl rfl rfl (Nat.le_of_ble_eq_true rfl) d20_12 rfl fun v1 h2 J3 hs4 hQ5 => ?_
    obtain ⟨rfl, rfl, rfl⟩ := hQ5
    show Wk _ h0 0 0 I 15 #[.val (.ref t), .val (.int (124 : Int32)), .val (.int (Int32.ofNat i0)), .val (.int (Int32.ofNat e)), .val (.int (Int32.ofNat i))] [(.int (T.getD i 0))]
    refine Wk.iloadN (pc' := 16) d20_15 rfl rfl ?_
    by_cases c16_6 : (T.getD i 0) = (124 : Int32)
    · refine Wk.icmp_neN (pc' := 19) d20_16 rfl c16_6 ?_
      refine Wk.iload (pc' := 21) d20_19 rfl rfl ?_
      exact Wk.ireturn rfl d20_21 (Nat.le_of_ble_eq_true rfl) (Nat.le_of_ble_eq_true rfl) ⟨rfl, (by rw [← hr, own_sp, if_pos c16_6]), rfl⟩
    · refine Wk.icmp_neY (pc' := 22) d20_16 (by decide) c16_6 ?_
      refine Wk.iinc (pc' := 25) (v := 1) (Ls' := #[.val (.ref t), .val (.int (124 : Int32)), .val (.int (Int32.ofNat i0)), .val (.int (Int32.ofNat e)), .val (.int ((Int32.ofNat i) + (1 : Int32)))]) d20_22 rfl rfl rfl rfl ?_
      rw [own_succ (by omega)]
      refine Wk.goto (pc' := 3) d20_25 (by decide) ?_
      exact ih (i + 1) (by omega) (by rw [← hr, own_sp, if_neg c16_6])
theorem ef_mis (m : MethodId) (x0 : Addr) (x1 : Int32) (x2 : Addr) (x3 : Int32) (x4 : Int32) : entryFrame m #[(.ref x0), (.int x1), (.ref x2), (.int x3), (.int x4)] 8 = mkF m 0 #[.val (.ref x0), .val (.int x1), .val (.ref x2), .val (.int x3), .val (.int x4), .unset, .unset, .unset] [] := by first | (simp [entryFrame, mkF, argsToLocals, Value.category]; done) | rfl
abbrev b_mis : Bdy := ((⟨"jdk/internal/util/ArraysSupport", "mismatch", "([BI[BII)I"⟩ : MethodName), jdk_48_method_14_code, 8, (Option.some Jvm.ClassFile.FieldType.int), ({ frames := 0, cells := 0, slots := 0, locals := 0 } : Room))
def Q_mis (Z : State) (N : Nat) (v' : Addr) (q : ClassId) (X : List Int32) (w' : Addr) (q' : ClassId) (s : Nat) (h0 : Heap) (I : Lts) (v : Option Value) (h : Heap) (J : Lts) : Prop := ∃ x : Int32, I = J ∧ v = some (.int x) ∧ h0 = h ∧ (x < (0 : Int32) ↔ own_m3 X s)
set_option maxRecDepth 65536 in
set_option maxHeartbeats 40000000 in
theorem rm_mis {l : Launch} {Z : State} {a0 : Array Value} {N : Nat} (hw : ∀ d ∈ tables_1, d.before a0 Z = true) (v' : Addr) (q : ClassId) (X : List Int32) (w' : Addr) (q' : ClassId) (s : Nat) (h0 : Heap) (I : Lts) (P0 : Arv Z h0 v' q .byte (Int32.ofNat X.length) (X.map own_by) (.int (0 : Int32))) (P1 : Arv Z h0 w' q' .byte (3 : Int32) [(.int (77 : Int32)), (.int (83 : Int32)), (.int (72 : Int32))] (.int (0 : Int32))) (hX6 : X.length = 6) (hs : s + 3 ≤ 6) (hL : own_L X) :
    Cn l Z N b_mis #[(.ref v'), (.int (Int32.ofNat s)), (.ref w'), (.int (0 : Int32)), (.int (3 : Int32))] h0 I (Q_mis Z N v' q X w' q' s h0 I) := by
  refine Cn.of_wk (Ls := #[.val (.ref v'), .val (.int (Int32.ofNat s)), .val (.ref w'), .val (.int (0 : Int32)), .val (.int (3 : Int32)), .unset, .unset, .unset]) (plainFor_of_name (by first | (simp [plainName, overriddenIn]; done) | decide +kernel)) (fun m => ef_mis m v' (Int32.ofNat s) w' (0 : Int32) (3 : Int32)) ?_
  refine Wk.iconst (pc' := 1) (v := 0) d19_0 rfl rfl ?_
  refine Wk.istore (pc' := 3) #[.val (.ref v'), .val (.int (Int32.ofNat s)), .val (.ref w'), .val (.int (0 : Int32)), .val (.int (3 : Int32)), .val (.int (0 : Int32)), .unset, .unset] d19_1 rfl rfl ?_
  refine Wk.iload (pc' := 5) d19_3 rfl rfl ?_
  refine Wk.bipush (pc' := 7) (v := 7) d19_5 rfl rfl ?_
  refine Wk.icmp_leY (pc' := 70) d19_7 (by decide) (by decide) ?_
  refine Wk.iload (pc' := 72) d19_70 rfl rfl ?_
  refine Wk.iload (pc' := 74) d19_72 rfl rfl ?_
  refine Wk.icmp_geN (pc' := 77) d19_74 rfl (by decide) ?_
  refine Wk.aloadN (pc' := 78) d19_77 rfl rfl rfl ?_
  refine Wk.iloadN (pc' := 79) d19_78 rfl rfl ?_
  refine Wk.iload (pc' := 81) d19_79 rfl rfl ?_
  refine Wk.iadd (pc' := 82) d19_81 rfl ?_
  rw [Int32.add_zero]
  refine Wk.baload (pc' := 83) (v := (.int (own_b8 (X.getD s 0)))) P0 (by rw [hX6]; exact own_in (n := 6) (by omega) (by decide)) (by rw [own_clamp (by omega)]; exact own_getb X s) d19_82 rfl ?_
  refine Wk.aloadN (pc' := 84) d19_83 rfl rfl rfl ?_
  refine Wk.iloadN (pc' := 85) d19_84 rfl rfl ?_
  refine Wk.iload (pc' := 87) d19_85 rfl rfl ?_
  refine Wk.iadd (pc' := 88) d19_87 rfl ?_
  rw [show ((0 : Int32) + (0 : Int32)) = (0 : Int32) from by decide]
  refine Wk.baload (pc' := 89) (v := (.int (77 : Int32))) P1 ⟨by decide, by decide⟩ rfl d19_88 rfl ?_
  by_cases c89_1 : (own_b8 (X.getD s 0)) = (77 : Int32)
  · refine Wk.icmp_eqY (pc' := 95) d19_89 (by decide) c89_1 ?_
    refine Wk.iinc (pc' := 98) (v := 1) (Ls' := #[.val (.ref v'), .val (.int (Int32.ofNat s)), .val (.ref w'), .val (.int (0 : Int32)), .val (.int (3 : Int32)), .val (.int ((0 : Int32) + (1 : Int32))), .unset, .unset]) d19_95 rfl rfl rfl rfl ?_
    rw [show ((0 : Int32) + (1 : Int32)) = (1 : Int32) from by decide]
    refine Wk.goto (pc' := 70) d19_98 (by decide) ?_
    refine Wk.iload (pc' := 72) d19_70 rfl rfl ?_
    refine Wk.iload (pc' := 74) d19_72 rfl rfl ?_
    refine Wk.icmp_geN (pc' := 77) d19_74 rfl (by decide) ?_
    refine Wk.aloadN (pc' := 78) d19_77 rfl rfl rfl ?_
    refine Wk.iloadN (pc' := 79) d19_78 rfl rfl ?_
    refine Wk.iload (pc' := 81) d19_79 rfl rfl ?_
    refine Wk.iadd (pc' := 82) d19_81 rfl ?_
    rw [(show Int32.ofNat s + (1 : Int32) = Int32.ofNat (s + 1) from own_addn s 1)]
    refine Wk.baload (pc' := 83) (v := (.int (own_b8 (X.getD (s + 1) 0)))) P0 (by rw [hX6]; exact own_in (n := 6) (by omega) (by decide)) (by rw [own_clamp (by omega)]; exact own_getb X (s + 1)) d19_82 rfl ?_
    refine Wk.aloadN (pc' := 84) d19_83 rfl rfl rfl ?_
    refine Wk.iloadN (pc' := 85) d19_84 rfl rfl ?_
    refine Wk.iload (pc' := 87) d19_85 rfl rfl ?_
    refine Wk.iadd (pc' := 88) d19_87 rfl ?_
    rw [show ((0 : Int32) + (1 : Int32)) = (1 : Int32) from by decide]
    refine Wk.baload (pc' := 89) (v := (.int (83 : Int32))) P1 ⟨by decide, by decide⟩ rfl d19_88 rfl ?_
    by_cases c89_2 : (own_b8 (X.getD (s + 1) 0)) = (83 : Int32)
    · refine Wk.icmp_eqY (pc' := 95) d19_89 (by decide) c89_2 ?_
      refine Wk.iinc (pc' := 98) (v := 1) (Ls' := #[.val (.ref v'), .val (.int (Int32.ofNat s)), .val (.ref w'), .val (.int (0 : Int32)), .val (.int (3 : Int32)), .val (.int ((1 : Int32) + (1 : Int32))), .unset, .unset]) d19_95 rfl rfl rfl rfl ?_
      rw [show ((1 : Int32) + (1 : Int32)) = (2 : Int32) from by decide]
      refine Wk.goto (pc' := 70) d19_98 (by decide) ?_
      refine Wk.iload (pc' := 72) d19_70 rfl rfl ?_
      refine Wk.iload (pc' := 74) d19_72 rfl rfl ?_
      refine Wk.icmp_geN (pc' := 77) d19_74 rfl (by decide) ?_
      refine Wk.aloadN (pc' := 78) d19_77 rfl rfl rfl ?_
      refine Wk.iloadN (pc' := 79) d19_78 rfl rfl ?_
      refine Wk.iload (pc' := 81) d19_79 rfl rfl ?_
      refine Wk.iadd (pc' := 82) d19_81 rfl ?_
      rw [(show Int32.ofNat s + (2 : Int32) = Int32.ofNat (s + 2) from own_addn s 2)]
      refine Wk.baload (pc' := 83) (v := (.int (own_b8 (X.getD (s + 2) 0)))) P0 (by rw [hX6]; exact own_in (n := 6) (by omega) (by decide)) (by rw [own_clamp (by omega)]; exact own_getb X (s + 2)) d19_82 rfl ?_
      refine Wk.aloadN (pc' := 84) d19_83 rfl rfl rfl ?_
      refine Wk.iloadN (pc' := 85) d19_84 rfl rfl ?_
      refine Wk.iload (pc' := 87) d19_85 rfl rfl ?_
      refine Wk.iadd (pc' := 88) d19_87 rfl ?_
      rw [show ((0 : Int32) + (2 : Int32)) = (2 : Int32) from by decide]
      refine Wk.baload (pc' := 89) (v := (.int (72 : Int32))) P1 ⟨by decide, by decide⟩ rfl d19_88 rfl ?_
      by_cases c89_3 : (own_b8 (X.getD (s + 2) 0)) = (72 : Int32)
      · refine Wk.icmp_eqY (pc' := 95) d19_89 (by decide) c89_3 ?_
        refine Wk.iinc (pc' := 98) (v := 1) (Ls' := #[.val (.ref v'), .val (.int (Int32.ofNat s)), .val (.ref w'), .val (.int (0 : Int32)), .val (.int (3 : Int32)), .val (.int ((2 : Int32) + (1 : Int32))), .unset, .unset]) d19_95 rfl rfl rfl rfl ?_
        rw [show ((2 : Int32) + (1 : Int32)) = (3 : Int32) from by decide]
        refine Wk.goto (pc' := 70) d19_98 (by decide) ?_
        refine Wk.iload (pc' := 72) d19_70 rfl rfl ?_
        refine Wk.iload (pc' := 74) d19_72 rfl rfl ?_
        refine Wk.icmp_geY (pc' := 101) d19_74 (by decide) (by decide) ?_
        refine Wk.iconst (pc' := 102) (v := -1) d19_101 rfl rfl ?_
        exact Wk.ireturn rfl d19_102 (Nat.le_of_ble_eq_true rfl) (Nat.le_of_ble_eq_true rfl) ⟨_, rfl, rfl, rfl, ⟨fun _ => ⟨own_b8inj (own_Lget hL _) (show own_c 77 from ⟨by decide, by decide⟩) (c89_1.trans (by decide)), own_b8inj (own_Lget hL _) (show own_c 83 from ⟨by decide, by decide⟩) (c89_2.trans (by decide)), own_b8inj (own_Lget hL _) (show own_c 72 from ⟨by decide, by decide⟩) (c89_3.trans (by decide))⟩, fun _ => by decide⟩⟩
      · refine Wk.icmp_eqN (pc' := 92) d19_89 rfl c89_3 ?_
        refine Wk.iload (pc' := 94) d19_92 rfl rfl ?_
        exact Wk.ireturn rfl d19_94 (Nat.le_of_ble_eq_true rfl) (Nat.le_of_ble_eq_true rfl) ⟨_, rfl, rfl, rfl, ⟨fun q => absurd q (by decide), fun q => absurd (show own_b8 (X.getD (s + 2) 0) = 72 from by rw [q.2.2]; decide) c89_3⟩⟩
    · refine Wk.icmp_eqN (pc' := 92) d19_89 rfl c89_2 ?_
      refine Wk.iload (pc' := 94) d19_92 rfl rfl ?_
      exact Wk.ireturn rfl d19_94 (Nat.le_of_ble_eq_true rfl) (Nat.le_of_ble_eq_true rfl) ⟨_, rfl, rfl, rfl, ⟨fun q => absurd q (by decide), fun q => absurd (show own_b8 (X.getD (s + 1) 0) = 83 from by rw [q.2.1]; decide) c89_2⟩⟩
  · refine Wk.icmp_eqN (pc' := 92) d19_89 rfl c89_1 ?_
    refine Wk.iload (pc' := 94) d19_92 rfl rfl ?_
    exact Wk.ireturn rfl d19_94 (Nat.le_of_ble_eq_true rfl) (Nat.le_of_ble_eq_true rfl) ⟨_, rfl, rfl, rfl, ⟨fun q => absurd q (by decide), fun q => absurd (show own_b8 (X.getD s 0) = 77 from by rw [q.1]; decide) c89_1⟩⟩
theorem ef_swi (m : MethodId) (x0 : Addr) (x1 : Addr) (x2 : Int32) : entryFrame m #[(.ref x0), (.ref x1), (.int x2)] 8 = mkF m 0 #[.val (.ref x0), .val (.ref x1), .val (.int x2), .unset, .unset, .unset, .unset, .unset] [] := by first | (simp [entryFrame, mkF, argsToLocals, Value.category]; done) | rfl
abbrev b_swi : Bdy := ((⟨"java/lang/String", "startsWith", "(Ljava/lang/String;I)Z"⟩ : MethodName), jdk_42_method_75_code, 8, (Option.some Jvm.ClassFile.FieldType.boolean), ({ frames := 2, cells := 0, slots := 0, locals := 27 } : Room))
def Q_swi (Z : State) (N : Nat) (t : Addr) (v' : Addr) (q : ClassId) (X : List Int32) (p : Addr) (w' : Addr) (q' : ClassId) (s : Nat) (cs : Int32) (h0 : Heap) (I : Lts) (v : Option Value) (h : Heap) (J : Lts) : Prop := I = J ∧ v = some (.int (own_bi (decide (s + 3 ≤ 6 ∧ own_m3 X s)))) ∧ h0 = h
set_option maxRecDepth 65536 in
set_option maxHeartbeats 40000000 in
theorem rm_swi {l : Launch} {Z : State} {a0 : Array Value} {N : Nat} (hw : ∀ d ∈ tables_1, d.before a0 Z = true) (t : Addr) (v' : Addr) (q : ClassId) (X : List Int32) (p : Addr) (w' : Addr) (q' : ClassId) (s : Nat) (cs : Int32) (h0 : Heap) (I : Lts) (P0 : Sta Z Z.heap "java/lang/String" "COMPACT_STRINGS" "Z" (.int cs)) (G_cs : ¬ cs = (0 : Int32)) (P2 : Exa Z h0 t "java/lang/String") (P3 : Fld Z h0 t "java/lang/String" "value" "[B" (.ref v')) (P4 : Fld Z h0 t "java/lang/String" "coder" "B" (.int (0 : Int32))) (P5 : Arv Z h0 v' q .byte (Int32.ofNat X.length) (X.map own_by) (.int (0 : Int32))) (P6 : Exa Z h0 p "java/lang/String") (P7 : Fld Z h0 p "java/lang/String" "value" "[B" (.ref w')) (P8 : Fld Z h0 p "java/lang/String" "coder" "B" (.int (0 : Int32))) (P9 : Arv Z h0 w' q' .byte (Int32.ofNat own_msh.length) (own_msh.map own_by) (.int (0 : Int32))) (hX6 : X.length = 6) (hs6 : s ≤ 6) (hL : own_L X) :
    Cn l Z N b_swi #[(.ref t), (.ref p), (.int (Int32.ofNat s))] h0 I (Q_swi Z N t v' q X p w' q' s cs h0 I) := by
  refine Cn.of_wk (Ls := #[.val (.ref t), .val (.ref p), .val (.int (Int32.ofNat s)), .unset, .unset, .unset, .unset, .unset]) (plainFor_of_name (by first | (simp [plainName, overriddenIn]; done) | decide +kernel)) (fun m => ef_swi m t p (Int32.ofNat s)) ?_
  by_cases hs3 : s + 3 ≤ 6
  · skip
    refine Wk.iloadN (pc' := 1) d16_0 rfl rfl ?_
    refine Wk.if_ltN (pc' := 4) d16_1 rfl (own_nn (by omega)) ?_
    refine Wk.iloadN (pc' := 5) d16_4 rfl rfl ?_
    refine Wk.aloadN (pc' := 6) d16_5 rfl rfl rfl ?_
    refine Wk.callV (a0 := a0) (pc' := 9) (k' := 0) (n' := 0) (W := 1) (b := b_s_len) (argsL := []) (rest := [(.int (Int32.ofNat s))]) (y := (⟨"java/lang/String", "length", "()I"⟩ : MethodName)) (rm_s_len hw t v' q X cs h0 I P0 G_cs P2 P3 P4 P5) P2 (w85 hw) (w86 hw) (w88 hw) (w88 hw) (w87 hw) (w23 hw) (w89 hw) (by decide) (Nat.le_refl _) id (Nat.le_of_ble_eq_true rfl) (Nat.le_of_ble_eq_true rfl) rfl rfl (Nat.le_of_ble_eq_true rfl) (Nat.le_of_ble_eq_true rfl) rfl pd9 rfl rfl rfl (Nat.le_of_ble_eq_true rfl) d16_6 rfl fun v1 h2 J3 hs4 hQ5 => ?_
    obtain ⟨rfl, rfl, rfl⟩ := hQ5
    show Wk _ h0 0 0 I 9 #[.val (.ref t), .val (.ref p), .val (.int (Int32.ofNat s)), .unset, .unset, .unset, .unset, .unset] [(.int (Int32.ofNat X.length)), (.int (Int32.ofNat s))]
    refine Wk.aloadN (pc' := 10) d16_9 rfl rfl rfl ?_
    refine Wk.callV (a0 := a0) (pc' := 13) (k' := 0) (n' := 0) (W := 2) (b := b_s_len) (argsL := []) (rest := [(.int (Int32.ofNat X.length)), (.int (Int32.ofNat s))]) (y := (⟨"java/lang/String", "length", "()I"⟩ : MethodName)) (rm_s_len hw p w' q' own_msh cs h0 I P0 G_cs P6 P7 P8 P9) P6 (w85 hw) (w86 hw) (w88 hw) (w88 hw) (w87 hw) (w23 hw) (w89 hw) (by decide) (Nat.le_refl _) id (Nat.le_of_ble_eq_true rfl) (Nat.le_of_ble_eq_true rfl) rfl rfl (Nat.le_of_ble_eq_true rfl) (Nat.le_of_ble_eq_true rfl) rfl pd9 rfl rfl rfl (Nat.le_of_ble_eq_true rfl) d16_10 rfl fun v6 h7 J8 hs9 hQ10 => ?_
    obtain ⟨rfl, rfl, rfl⟩ := hQ10
    show Wk _ h0 0 0 I 13 #[.val (.ref t), .val (.ref p), .val (.int (Int32.ofNat s)), .unset, .unset, .unset, .unset, .unset] [(.int (Int32.ofNat own_msh.length)), (.int (Int32.ofNat X.length)), (.int (Int32.ofNat s))]
    refine Wk.isub (pc' := 14) d16_13 rfl ?_
    refine Wk.icmp_leY (pc' := 19) d16_14 (by decide) (own_sw1 hX6 hs3) ?_
    refine Wk.aloadN (pc' := 20) d16_19 rfl rfl rfl ?_
    refine Wk.getF (a0 := a0) (pc' := 23) (host := "") (Or.inl (w69 hw)) Via.refl P3 d16_20 rfl ?_
    refine Wk.astoreN (pc' := 24) #[.val (.ref t), .val (.ref p), .val (.int (Int32.ofNat s)), .val (.ref v'), .unset, .unset, .unset, .unset] d16_23 rfl rfl rfl ?_
    refine Wk.aloadN (pc' := 25) d16_24 rfl rfl rfl ?_
    refine Wk.getF (a0 := a0) (pc' := 28) (host := "") (Or.inl (w69 hw)) Via.refl P7 d16_25 rfl ?_
    refine Wk.astore (pc' := 30) #[.val (.ref t), .val (.ref p), .val (.int (Int32.ofNat s)), .val (.ref v'), .val (.ref w'), .unset, .unset, .unset] d16_28 rfl rfl rfl ?_
    refine Wk.iconst (pc' := 31) (v := 0) d16_30 rfl rfl ?_
    refine Wk.istore (pc' := 33) #[.val (.ref t), .val (.ref p), .val (.int (Int32.ofNat s)), .val (.ref v'), .val (.ref w'), .val (.int (0 : Int32)), .unset, .unset] d16_31 rfl rfl ?_
    refine Wk.aload (pc' := 35) d16_33 rfl rfl rfl ?_
    refine Wk.arraylength (pc' := 36) P9 d16_35 rfl ?_
    refine Wk.istore (pc' := 38) #[.val (.ref t), .val (.ref p), .val (.int (Int32.ofNat s)), .val (.ref v'), .val (.ref w'), .val (.int (0 : Int32)), .val (.int (Int32.ofNat own_msh.length)), .unset] d16_36 rfl rfl ?_
    refine Wk.aloadN (pc' := 39) d16_38 rfl rfl rfl ?_
    refine Wk.callV (a0 := a0) (pc' := 42) (k' := 0) (n' := 0) (W := 0) (b := b_s_cod) (argsL := []) (rest := []) (y := (⟨"java/lang/String", "coder", "()B"⟩ : MethodName)) (rm_s_cod hw t cs h0 I P0 G_cs P4) P2 (w90 hw) (w91 hw) (w93 hw) (w93 hw) (w92 hw) (w23 hw) (w94 hw) (by decide) (Nat.le_refl _) id (Nat.le_of_ble_eq_true rfl) (Nat.le_of_ble_eq_true rfl) rfl rfl (Nat.le_of_ble_eq_true rfl) (Nat.le_of_ble_eq_true rfl) rfl pd0 rfl rfl rfl (Nat.le_of_ble_eq_true rfl) d16_39 rfl fun v11 h12 J13 hs14 hQ15 => ?_
    obtain ⟨rfl, rfl, rfl⟩ := hQ15
    show Wk _ h0 0 0 I 42 #[.val (.ref t), .val (.ref p), .val (.int (Int32.ofNat s)), .val (.ref v'), .val (.ref w'), .val (.int (0 : Int32)), .val (.int (Int32.ofNat own_msh.length)), .unset] [(.int (0 : Int32))]
    refine Wk.istore (pc' := 44) #[.val (.ref t), .val (.ref p), .val (.int (Int32.ofNat s)), .val (.ref v'), .val (.ref w'), .val (.int (0 : Int32)), .val (.int (Int32.ofNat own_msh.length)), .val (.int (0 : Int32))] d16_42 rfl rfl ?_
    refine Wk.iload (pc' := 46) d16_44 rfl rfl ?_
    refine Wk.aloadN (pc' := 47) d16_46 rfl rfl rfl ?_
    refine Wk.callV (a0 := a0) (pc' := 50) (k' := 0) (n' := 0) (W := 1) (b := b_s_cod) (argsL := []) (rest := [(.int (0 : Int32))]) (y := (⟨"java/lang/String", "coder", "()B"⟩ : MethodName)) (rm_s_cod hw p cs h0 I P0 G_cs P8) P6 (w90 hw) (w91 hw) (w93 hw) (w93 hw) (w92 hw) (w23 hw) (w94 hw) (by decide) (Nat.le_refl _) id (Nat.le_of_ble_eq_true rfl) (Nat.le_of_ble_eq_true rfl) rfl rfl (Nat.le_of_ble_eq_true rfl) (Nat.le_of_ble_eq_true rfl) rfl pd0 rfl rfl rfl (Nat.le_of_ble_eq_true rfl) d16_47 rfl fun v16 h17 J18 hs19 hQ20 => ?_
    obtain ⟨rfl, rfl, rfl⟩ := hQ20
    show Wk _ h0 0 0 I 50 #[.val (.ref t), .val (.ref p), .val (.int (Int32.ofNat s)), .val (.ref v'), .val (.ref w'), .val (.int (0 : Int32)), .val (.int (Int32.ofNat own_msh.length)), .val (.int (0 : Int32))] [(.int (0 : Int32)), (.int (0 : Int32))]
    refine Wk.icmp_neN (pc' := 53) d16_50 rfl rfl ?_
    refine Wk.iload (pc' := 55) d16_53 rfl rfl ?_
    refine Wk.iconst (pc' := 56) (v := 1) d16_55 rfl rfl ?_
    refine Wk.icmp_neY (pc' := 63) d16_56 (by decide) (by decide) ?_
    refine Wk.aloadN (pc' := 64) d16_63 rfl rfl rfl ?_
    refine Wk.iloadN (pc' := 65) d16_64 rfl rfl ?_
    refine Wk.aload (pc' := 67) d16_65 rfl rfl rfl ?_
    refine Wk.iconst (pc' := 68) (v := 0) d16_67 rfl rfl ?_
    refine Wk.iload (pc' := 70) d16_68 rfl rfl ?_
    refine Wk.callS (a0 := a0) (pc' := 73) (k' := 0) (n' := 0) (W := 0) (b := b_mis) (argsL := [(.ref v'), (.int (Int32.ofNat s)), (.ref w'), (.int (0 : Int32)), (.int (Int32.ofNat own_msh.length))]) (rest := []) (rm_mis hw v' q X w' q' s h0 I P5 P9 hX6 hs3 hL) (w95 hw) (w96 hw) (w97 hw) (w98 hw) (by decide) (Nat.le_refl _) id (Nat.le_of_ble_eq_true rfl) (Nat.le_of_ble_eq_true rfl) rfl rfl (Nat.le_of_ble_eq_true rfl) (Nat.le_of_ble_eq_true rfl) rfl pd26 rfl rfl rfl (Nat.le_of_ble_eq_true rfl) d16_70 rfl fun v21 h22 J23 hs24 hQ25 => ?_
    obtain ⟨x26, rfl, rfl, rfl, g27⟩ := hQ25
    show Wk _ h0 0 0 I 73 #[.val (.ref t), .val (.ref p), .val (.int (Int32.ofNat s)), .val (.ref v'), .val (.ref w'), .val (.int (0 : Int32)), .val (.int (Int32.ofNat own_msh.length)), .val (.int (0 : Int32))] [(.int x26)]
    by_cases c73_28 : x26 < (0 : Int32)
    · refine Wk.if_geN (pc' := 76) d16_73 rfl c73_28 ?_
      refine Wk.iconst (pc' := 77) (v := 1) d16_76 rfl rfl ?_
      refine Wk.goto (pc' := 81) d16_77 (by decide) ?_
      exact Wk.zreturn rfl (by simp) d16_81 (Nat.le_of_ble_eq_true rfl) (Nat.le_of_ble_eq_true rfl) ⟨rfl, (by rw [decide_eq_true ⟨hs3, g27.mp c73_28⟩]; rfl), rfl⟩
    · refine Wk.if_geY (pc' := 80) d16_73 (by decide) c73_28 ?_
      refine Wk.iconst (pc' := 81) (v := 0) d16_80 rfl rfl ?_
      exact Wk.zreturn rfl (by simp) d16_81 (Nat.le_of_ble_eq_true rfl) (Nat.le_of_ble_eq_true rfl) ⟨rfl, (by rw [decide_eq_false (fun q => c73_28 (g27.mpr q.2))]; rfl), rfl⟩
  · skip
    refine Wk.iloadN (pc' := 1) d16_0 rfl rfl ?_
    refine Wk.if_ltN (pc' := 4) d16_1 rfl (own_nn (by omega)) ?_
    refine Wk.iloadN (pc' := 5) d16_4 rfl rfl ?_
    refine Wk.aloadN (pc' := 6) d16_5 rfl rfl rfl ?_
    refine Wk.callV (a0 := a0) (pc' := 9) (k' := 0) (n' := 0) (W := 1) (b := b_s_len) (argsL := []) (rest := [(.int (Int32.ofNat s))]) (y := (⟨"java/lang/String", "length", "()I"⟩ : MethodName)) (rm_s_len hw t v' q X cs h0 I P0 G_cs P2 P3 P4 P5) P2 (w85 hw) (w86 hw) (w88 hw) (w88 hw) (w87 hw) (w23 hw) (w89 hw) (by decide) (Nat.le_refl _) id (Nat.le_of_ble_eq_true rfl) (Nat.le_of_ble_eq_true rfl) rfl rfl (Nat.le_of_ble_eq_true rfl) (Nat.le_of_ble_eq_true rfl) rfl pd9 rfl rfl rfl (Nat.le_of_ble_eq_true rfl) d16_6 rfl fun v29 h30 J31 hs32 hQ33 => ?_
    obtain ⟨rfl, rfl, rfl⟩ := hQ33
    show Wk _ h0 0 0 I 9 #[.val (.ref t), .val (.ref p), .val (.int (Int32.ofNat s)), .unset, .unset, .unset, .unset, .unset] [(.int (Int32.ofNat X.length)), (.int (Int32.ofNat s))]
    refine Wk.aloadN (pc' := 10) d16_9 rfl rfl rfl ?_
    refine Wk.callV (a0 := a0) (pc' := 13) (k' := 0) (n' := 0) (W := 2) (b := b_s_len) (argsL := []) (rest := [(.int (Int32.ofNat X.length)), (.int (Int32.ofNat s))]) (y := (⟨"java/lang/String", "length", "()I"⟩ : MethodName)) (rm_s_len hw p w' q' own_msh cs h0 I P0 G_cs P6 P7 P8 P9) P6 (w85 hw) (w86 hw) (w88 hw) (w88 hw) (w87 hw) (w23 hw) (w89 hw) (by decide) (Nat.le_refl _) id (Nat.le_of_ble_eq_true rfl) (Nat.le_of_ble_eq_true rfl) rfl rfl (Nat.le_of_ble_eq_true rfl) (Nat.le_of_ble_eq_true rfl) rfl pd9 rfl rfl rfl (Nat.le_of_ble_eq_true rfl) d16_10 rfl fun v34 h35 J36 hs37 hQ38 => ?_
    obtain ⟨rfl, rfl, rfl⟩ := hQ38
    show Wk _ h0 0 0 I 13 #[.val (.ref t), .val (.ref p), .val (.int (Int32.ofNat s)), .unset, .unset, .unset, .unset, .unset] [(.int (Int32.ofNat own_msh.length)), (.int (Int32.ofNat X.length)), (.int (Int32.ofNat s))]
    refine Wk.isub (pc' := 14) d16_13 rfl ?_
    refine Wk.icmp_leN (pc' := 17) d16_14 rfl (own_sw0 hX6 hs6 hs3) ?_
    refine Wk.iconst (pc' := 18) (v := 0) d16_17 rfl rfl ?_
    exact Wk.zreturn rfl (by simp) d16_18 (Nat.le_of_ble_eq_true rfl) (Nat.le_of_ble_eq_true rfl) ⟨rfl, (by rw [decide_eq_false (fun q => hs3 q.1)]; rfl), rfl⟩
theorem ef_cft (m : MethodId) (x0 : Int32) (x1 : Int32) (x2 : Int32) (x3 : Value) (r3 : x3.isRef = true) : entryFrame m #[(.int x0), (.int x1), (.int x2), x3] 4 = mkF m 0 #[.val (.int x0), .val (.int x1), .val (.int x2), .val x3] [] := by
  cases x3 <;> first | (simp [Value.isRef] at r3; done) | (simp [entryFrame, mkF, argsToLocals, Value.category]; done) | rfl
abbrev b_cft : Bdy := ((⟨"jdk/internal/util/Preconditions", "checkFromToIndex", "(IIILjava/util/function/BiFunction;)I"⟩ : MethodName), jdk_41_method_12_code, 4, (Option.some Jvm.ClassFile.FieldType.int), ({ frames := 0, cells := 0, slots := 0, locals := 0 } : Room))
def Q_cft (Z : State) (N : Nat) (i : Nat) (j : Nat) (k' : Nat) (sf : Value) (h0 : Heap) (I : Lts) (v : Option Value) (h : Heap) (J : Lts) : Prop := I = J ∧ v = some (.int (Int32.ofNat i)) ∧ h0 = h
set_option maxRecDepth 65536 in
set_option maxHeartbeats 40000000 in
theorem rm_cft {l : Launch} {Z : State} {a0 : Array Value} {N : Nat} (hw : ∀ d ∈ tables_1, d.before a0 Z = true) (i : Nat) (j : Nat) (k' : Nat) (sf : Value) (h0 : Heap) (I : Lts) (G_sf : sf.isRef = true) (h1 : i ≤ j) (h2 : j ≤ k') (h3 : k' < 2147483648) :
    Cn l Z N b_cft #[(.int (Int32.ofNat i)), (.int (Int32.ofNat j)), (.int (Int32.ofNat k')), sf] h0 I (Q_cft Z N i j k' sf h0 I) := by
  refine Cn.of_wk (Ls := #[.val (.int (Int32.ofNat i)), .val (.int (Int32.ofNat j)), .val (.int (Int32.ofNat k')), .val sf]) (plainFor_of_name (by first | (simp [plainName, overriddenIn]; done) | decide +kernel)) (fun m => ef_cft m (Int32.ofNat i) (Int32.ofNat j) (Int32.ofNat k') sf G_sf) ?_
  refine Wk.iloadN (pc' := 1) d23_0 rfl rfl ?_
  refine Wk.if_ltN (pc' := 4) d23_1 rfl (own_nn (by omega)) ?_
  refine Wk.iloadN (pc' := 5) d23_4 rfl rfl ?_
  refine Wk.iloadN (pc' := 6) d23_5 rfl rfl ?_
  refine Wk.icmp_gtN (pc' := 9) d23_6 rfl (mt (own_lt (by omega) (by omega)).mp (by omega)) ?_
  refine Wk.iloadN (pc' := 10) d23_9 rfl rfl ?_
  refine Wk.iloadN (pc' := 11) d23_10 rfl rfl ?_
  refine Wk.icmp_leY (pc' := 22) d23_11 (by decide) (mt (own_lt (by omega) (by omega)).mp (by omega)) ?_
  refine Wk.iloadN (pc' := 23) d23_22 rfl rfl ?_
  exact Wk.ireturn rfl d23_23 (Nat.le_of_ble_eq_true rfl) (Nat.le_of_ble_eq_true rfl) ⟨rfl, rfl, rfl⟩
theorem ef_cbe (m : MethodId) (x0 : Int32) (x1 : Int32) (x2 : Int32) : entryFrame m #[(.int x0), (.int x1), (.int x2)] 3 = mkF m 0 #[.val (.int x0), .val (.int x1), .val (.int x2)] [] := by first | (simp [entryFrame, mkF, argsToLocals, Value.category]; done) | rfl
abbrev b_cbe : Bdy := ((⟨"java/lang/String", "checkBoundsBeginEnd", "(III)V"⟩ : MethodName), jdk_42_method_158_code, 3, (Option.none : Option Jvm.ClassFile.FieldType), ({ frames := 1, cells := 0, slots := 0, locals := 15 } : Room))
def Q_cbe (Z : State) (N : Nat) (i : Nat) (j : Nat) (k' : Nat) (sf : Value) (h0 : Heap) (I : Lts) (v : Option Value) (h : Heap) (J : Lts) : Prop := I = J ∧ v = none ∧ h0 = h
set_option maxRecDepth 65536 in
set_option maxHeartbeats 40000000 in
theorem rm_cbe {l : Launch} {Z : State} {a0 : Array Value} {N : Nat} (hw : ∀ d ∈ tables_1, d.before a0 Z = true) (i : Nat) (j : Nat) (k' : Nat) (sf : Value) (h0 : Heap) (I : Lts) (P0 : Sta Z Z.heap "jdk/internal/util/Preconditions" "SIOOBE_FORMATTER" "Ljava/util/function/BiFunction;" sf) (G_sf : sf.isRef = true) (h1 : i ≤ j) (h2 : j ≤ k') (h3 : k' < 2147483648) :
    Cn l Z N b_cbe #[(.int (Int32.ofNat i)), (.int (Int32.ofNat j)), (.int (Int32.ofNat k'))] h0 I (Q_cbe Z N i j k' sf h0 I) := by
  refine Cn.of_wk (Ls := #[.val (.int (Int32.ofNat i)), .val (.int (Int32.ofNat j)), .val (.int (Int32.ofNat k'))]) (plainFor_of_name (by first | (simp [plainName, overriddenIn]; done) | decide +kernel)) (fun m => ef_cbe m (Int32.ofNat i) (Int32.ofNat j) (Int32.ofNat k')) ?_
  refine Wk.iloadN (pc' := 1) d22_0 rfl rfl ?_
  refine Wk.iloadN (pc' := 2) d22_1 rfl rfl ?_
  refine Wk.iloadN (pc' := 3) d22_2 rfl rfl ?_
  refine Wk.getS (a0 := a0) (pc' := 6) (host := "") (Or.inl (w119 hw)) Via.refl P0 d22_3 rfl ?_
  refine Wk.callS (a0 := a0) (pc' := 9) (k' := 0) (n' := 0) (W := 0) (b := b_cft) (argsL := [(.int (Int32.ofNat i)), (.int (Int32.ofNat j)), (.int (Int32.ofNat k')), sf]) (rest := []) (rm_cft hw i j k' sf h0 I G_sf h1 h2 h3) (w121 hw) (w122 hw) (w120 hw) (w123 hw) (by decide) (Nat.le_refl _) id (Nat.le_of_ble_eq_true rfl) (Nat.le_of_ble_eq_true rfl) rfl rfl (Nat.le_of_ble_eq_true rfl) (Nat.le_of_ble_eq_true rfl) rfl pd27 rfl rfl rfl (Nat.le_of_ble_eq_true rfl) d22_6 rfl fun v1 h2 J3 hs4 hQ5 => ?_
  obtain ⟨rfl, rfl, rfl⟩ := hQ5
  show Wk _ h0 0 0 I 9 #[.val (.int (Int32.ofNat i)), .val (.int (Int32.ofNat j)), .val (.int (Int32.ofNat k'))] [(.int (Int32.ofNat i))]
  refine Wk.pop (pc' := 10) d22_9 rfl rfl ?_
  exact Wk.return_ rfl d22_10 (Nat.le_of_ble_eq_true rfl) (Nat.le_of_ble_eq_true rfl) ⟨rfl, rfl, rfl⟩
theorem ef_u_chk (m : MethodId) (x0 : Int32) (x1 : Int32) : entryFrame m #[(.int x0), (.int x1)] 2 = mkF m 0 #[.val (.int x0), .val (.int x1)] [] := by first | (simp [entryFrame, mkF, argsToLocals, Value.category]; done) | rfl
abbrev b_u_chk : Bdy := ((⟨"java/util/Arrays", "checkLength", "(II)V"⟩ : MethodName), jdk_65_method_131_code, 2, (Option.none : Option Jvm.ClassFile.FieldType), ({ frames := 0, cells := 0, slots := 0, locals := 0 } : Room))
def Q_u_chk (Z : State) (N : Nat) (i : Nat) (j : Nat) (h0 : Heap) (I : Lts) (v : Option Value) (h : Heap) (J : Lts) : Prop := I = J ∧ v = none ∧ h0 = h
set_option maxRecDepth 65536 in
set_option maxHeartbeats 40000000 in
theorem rm_u_chk {l : Launch} {Z : State} {a0 : Array Value} {N : Nat} (hw : ∀ d ∈ tables_1, d.before a0 Z = true) (i : Nat) (j : Nat) (h0 : Heap) (I : Lts) (hij : i ≤ j) (hj : j < 2147483648) :
    Cn l Z N b_u_chk #[(.int (Int32.ofNat i)), (.int (Int32.ofNat j))] h0 I (Q_u_chk Z N i j h0 I) := by
  refine Cn.of_wk (Ls := #[.val (.int (Int32.ofNat i)), .val (.int (Int32.ofNat j))]) (plainFor_of_name (by first | (simp [plainName, overriddenIn]; done) | decide +kernel)) (fun m => ef_u_chk m (Int32.ofNat i) (Int32.ofNat j)) ?_
  refine Wk.iloadN (pc' := 1) d34_0 rfl rfl ?_
  refine Wk.iloadN (pc' := 2) d34_1 rfl rfl ?_
  refine Wk.icmp_geY (pc' := 37) d34_2 (by decide) (mt (own_lt hj (by omega)).mp (by omega)) ?_
  exact Wk.return_ rfl d34_37 (Nat.le_of_ble_eq_true rfl) (Nat.le_of_ble_eq_true rfl) ⟨rfl, rfl, rfl⟩
theorem ef_u_crb (m : MethodId) (x0 : Addr) (x1 : Int32) (x2 : Int32) : entryFrame m #[(.ref x0), (.int x1), (.int x2)] 5 = mkF m 0 #[.val (.ref x0), .val (.int x1), .val (.int x2), .unset, .unset] [] := by first | (simp [entryFrame, mkF, argsToLocals, Value.category]; done) | rfl
abbrev b_u_crb : Bdy := ((⟨"java/util/Arrays", "copyOfRangeByte", "([BII)[B"⟩ : MethodName), jdk_65_method_133_code, 5, (Option.some (Jvm.ClassFile.FieldType.array Jvm.ClassFile.FieldType.byte)), ({ frames := 1, cells := 1, slots := 6, locals := 18 } : Room))
def Q_u_crb (Z : State) (N : Nat) (v' : Addr) (q : ClassId) (T : List Int32) (f : Nat) (g : Nat) (h0 : Heap) (I : Lts) (v : Option Value) (h : Heap) (J : Lts) : Prop := ∃ r : Addr, I = J ∧ v = some (.ref r) ∧ Ext h0 h ∧ h0.size ≤ r ∧ N ≤ r
set_option maxRecDepth 65536 in
set_option maxHeartbeats 40000000 in
theorem rm_u_crb {l : Launch} {Z : State} {a0 : Array Value} {N : Nat} (hw : ∀ d ∈ tables_1, d.before a0 Z = true) (v' : Addr) (q : ClassId) (T : List Int32) (f : Nat) (g : Nat) (h0 : Heap) (I : Lts) (P0 : Arv Z h0 v' q .byte (Int32.ofNat T.length) (T.map own_by) (.int (0 : Int32))) (hfg : f ≤ g) (hg : g ≤ T.length) (hTl : T.length ≤ 6) :
    Cn l Z N b_u_crb #[(.ref v'), (.int (Int32.ofNat f)), (.int (Int32.ofNat g))] h0 I (Q_u_crb Z N v' q T f g h0 I) := by
  refine Cn.of_wk (Ls := #[.val (.ref v'), .val (.int (Int32.ofNat f)), .val (.int (Int32.ofNat g)), .unset, .unset]) (plainFor_of_name (by first | (simp [plainName, overriddenIn]; done) | decide +kernel)) (fun m => ef_u_crb m v' (Int32.ofNat f) (Int32.ofNat g)) ?_
  refine Wk.iloadN (pc' := 1) d33_0 rfl rfl ?_
  refine Wk.iloadN (pc' := 2) d33_1 rfl rfl ?_
  refine Wk.callS (a0 := a0) (pc' := 5) (k' := 0) (n' := 0) (W := 0) (b := b_u_chk) (argsL := [(.int (Int32.ofNat f)), (.int (Int32.ofNat g))]) (rest := []) (rm_u_chk hw f g h0 I hfg (by omega)) (w167 hw) (w168 hw) (w162 hw) (w169 hw) (by decide) (Nat.le_refl _) id (Nat.le_of_ble_eq_true rfl) (Nat.le_of_ble_eq_true rfl) rfl rfl (Nat.le_of_ble_eq_true rfl) (Nat.le_of_ble_eq_true rfl) rfl pd2 rfl rfl rfl (Nat.le_of_ble_eq_true rfl) d33_2 rfl fun v1 h2 J3 hs4 hQ5 => ?_
  obtain ⟨rfl, rfl, rfl⟩ := hQ5
  show Wk _ h0 0 0 I 5 #[.val (.ref v'), .val (.int (Int32.ofNat f)), .val (.int (Int32.ofNat g)), .unset, .unset] []
  refine Wk.iloadN (pc' := 6) d33_5 rfl rfl ?_
  refine Wk.iloadN (pc' := 7) d33_6 rfl rfl ?_
  refine Wk.isub (pc' := 8) d33_7 rfl ?_
  rw [own_subN hfg (by omega)]
  refine Wk.istoreN (pc' := 9) #[.val (.ref v'), .val (.int (Int32.ofNat f)), .val (.int (Int32.ofNat g)), .val (.int (Int32.ofNat (g - f))), .unset] d33_8 rfl rfl ?_
  refine Wk.iloadN (pc' := 10) d33_9 rfl rfl ?_
  refine Wk.newP (a0 := a0) (aty := .byte) (pc' := 12) (k' := 1) (n' := 6) (cap := 6) (w25 hw) d33_10 rfl (own_nn (by omega)) (by rw [own_clamp (by omega)]; omega) (by decide) rfl rfl (Nat.le_of_ble_eq_true rfl) (Nat.le_of_ble_eq_true rfl) fun a6 h7 q8 hg9 hN10 E11 A12 => ?_
  have ne13 : v' ≠ a6 := Nat.ne_of_lt (Nat.lt_of_lt_of_le P0.lt hg9)
  have A14 : Arv Z h7 a6 q8 .byte (Int32.ofNat (g - f)) (List.replicate (g - f) (.int 0)) (.int (0 : Int32)) := A12.pad (pad_rep [] _ (g - f))
  refine Wk.astore (pc' := 14) #[.val (.ref v'), .val (.int (Int32.ofNat f)), .val (.int (Int32.ofNat g)), .val (.int (Int32.ofNat (g - f))), .val (.ref a6)] d33_12 rfl rfl rfl ?_
  refine Wk.aloadN (pc' := 15) d33_14 rfl rfl rfl ?_
  refine Wk.iloadN (pc' := 16) d33_15 rfl rfl ?_
  refine Wk.aload (pc' := 18) d33_16 rfl rfl rfl ?_
  refine Wk.iconst (pc' := 19) (v := 0) d33_18 rfl rfl ?_
  refine Wk.aloadN (pc' := 20) d33_19 rfl rfl rfl ?_
  have f15 := (P0.ext E11)
  refine Wk.arraylength (pc' := 21) f15 d33_20 rfl ?_
  refine Wk.iloadN (pc' := 22) d33_21 rfl rfl ?_
  refine Wk.isub (pc' := 23) d33_22 rfl ?_
  rw [own_subN (by omega) (by omega)]
  refine Wk.iloadN (pc' := 24) d33_23 rfl rfl ?_
  refine Wk.callS (a0 := a0) (pc' := 27) (k' := 1) (n' := 6) (W := 4) (b := b_m_min) (argsL := [(.int (Int32.ofNat (T.length - f))), (.int (Int32.ofNat (g - f)))]) (rest := [(.int (0 : Int32)), (.ref a6), (.int (Int32.ofNat f)), (.ref v')]) (rm_m_min hw (T.length - f) (g - f) h7 I (by omega) (by omega)) (w170 hw) (w16 hw) (w17 hw) (w18 hw) (by decide) (Nat.le_refl _) id (Nat.le_of_ble_eq_true rfl) (Nat.le_of_ble_eq_true rfl) rfl rfl (Nat.le_of_ble_eq_true rfl) (Nat.le_of_ble_eq_true rfl) rfl pd17 rfl rfl rfl (Nat.le_of_ble_eq_true rfl) d33_24 rfl fun v16 h17 J18 hs19 hQ20 => ?_
  obtain ⟨rfl, rfl, rfl⟩ := hQ20
  show Wk _ h7 1 6 I 27 #[.val (.ref v'), .val (.int (Int32.ofNat f)), .val (.int (Int32.ofNat g)), .val (.int (Int32.ofNat (g - f))), .val (.ref a6)] [(.int (Int32.ofNat (g - f))), (.int (0 : Int32)), (.ref a6), (.int (Int32.ofNat f)), (.ref v')]
  refine Wk.arraycopy (a0 := a0) (pc' := 30) (W := 0) (us := _) f15 A14 (Or.inl ⟨rfl, rfl⟩) hN10 (w171 hw) (w174 hw) (w172 hw) (w173 hw) (own_nn (by omega)) (by decide) (own_nn (by omega)) (own_cp5 (by omega) (by omega)) (own_cp5z (Nat.le_refl _) (by omega)) rfl (by rw [own_c0, own_clamp (by omega), List.length_replicate]; omega) rfl d33_27 rfl (Nat.le_of_ble_eq_true rfl) (Nat.le_of_ble_eq_true rfl) (Nat.le_of_ble_eq_true rfl) fun h21 K22 A23 => ?_
  have A24 : Arv Z h21 a6 q8 .byte (Int32.ofNat (g - f)) _ (.int (0 : Int32)) := A23
  refine Wk.aload (pc' := 32) d33_30 rfl rfl rfl ?_
  exact Wk.areturn rfl rfl rfl d33_32 (Nat.le_of_ble_eq_true rfl) (Nat.le_of_ble_eq_true rfl) ⟨a6, rfl, rfl, (own_ext (((Keep.refl h0 []).ext E11).trans K22 (allS (Or.inr hg9) all0))), hg9, hN10⟩
theorem ef_u_cor (m : MethodId) (x0 : Addr) (x1 : Int32) (x2 : Int32) : entryFrame m #[(.ref x0), (.int x1), (.int x2)] 3 = mkF m 0 #[.val (.ref x0), .val (.int x1), .val (.int x2)] [] := by first | (simp [entryFrame, mkF, argsToLocals, Value.category]; done) | rfl
abbrev b_u_cor : Bdy := ((⟨"java/util/Arrays", "copyOfRange", "([BII)[B"⟩ : MethodName), jdk_65_method_132_code, 3, (Option.some (Jvm.ClassFile.FieldType.array Jvm.ClassFile.FieldType.byte)), ({ frames := 2, cells := 1, slots := 6, locals := 34 } : Room))
def Q_u_cor (Z : State) (N : Nat) (v' : Addr) (q : ClassId) (T : List Int32) (f : Nat) (g : Nat) (h0 : Heap) (I : Lts) (v : Option Value) (h : Heap) (J : Lts) : Prop := ∃ r : Addr, I = J ∧ v = some (.ref r) ∧ Ext h0 h ∧ h0.size ≤ r ∧ N ≤ r
set_option maxRecDepth 65536 in
set_option maxHeartbeats 40000000 in
theorem rm_u_cor {l : Launch} {Z : State} {a0 : Array Value} {N : Nat} (hw : ∀ d ∈ tables_1, d.before a0 Z = true) (v' : Addr) (q : ClassId) (T : List Int32) (f : Nat) (g : Nat) (h0 : Heap) (I : Lts) (P0 : Arv Z h0 v' q .byte (Int32.ofNat T.length) (T.map own_by) (.int (0 : Int32))) (hfg : f ≤ g) (hg : g ≤ T.length) (hTl : T.length ≤ 6) (hno : (¬ (f = 0 ∧ g = T.length))) :
    Cn l Z N b_u_cor #[(.ref v'), (.int (Int32.ofNat f)), (.int (Int32.ofNat g))] h0 I (Q_u_cor Z N v' q T f g h0 I) := by
  refine Cn.of_wk (Ls := #[.val (.ref v'), .val (.int (Int32.ofNat f)), .val (.int (Int32.ofNat g))]) (plainFor_of_name (by first | (simp [plainName, overriddenIn]; done) | decide +kernel)) (fun m => ef_u_cor m v' (Int32.ofNat f) (Int32.ofNat g)) ?_
  by_cases hf : f = 0
  · skip
    refine Wk.iloadN (pc' := 1) d32_0 rfl rfl ?_
    refine Wk.if_neN (pc' := 4) d32_1 rfl (by rw [hf]; rfl) ?_
    refine Wk.iloadN (pc' := 5) d32_4 rfl rfl ?_
    refine Wk.aloadN (pc' := 6) d32_5 rfl rfl rfl ?_
    refine Wk.arraylength (pc' := 7) P0 d32_6 rfl ?_
    refine Wk.icmp_eqN (pc' := 10) d32_7 rfl (mt (own_eq (by omega) (by omega)).mp (fun q => hno ⟨hf, q⟩)) ?_
    refine Wk.aloadN (pc' := 11) d32_10 rfl rfl rfl ?_
    refine Wk.iloadN (pc' := 12) d32_11 rfl rfl ?_
    refine Wk.iloadN (pc' := 13) d32_12 rfl rfl ?_
    refine Wk.callS (a0 := a0) (pc' := 16) (k' := 1) (n' := 6) (W := 0) (b := b_u_crb) (argsL := [(.ref v'), (.int (Int32.ofNat f)), (.int (Int32.ofNat g))]) (rest := []) (rm_u_crb hw v' q T f g h0 I P0 hfg hg hTl) (w164 hw) (w165 hw) (w162 hw) (w166 hw) (by decide) (Nat.le_refl _) id (Nat.le_of_ble_eq_true rfl) (Nat.le_of_ble_eq_true rfl) rfl rfl (Nat.le_of_ble_eq_true rfl) (Nat.le_of_ble_eq_true rfl) rfl pd18 rfl rfl rfl (Nat.le_of_ble_eq_true rfl) d32_13 rfl fun v1 h2 J3 hs4 hQ5 => ?_
    obtain ⟨r6, rfl, rfl, E7, g8, g9⟩ := hQ5
    have ne10 : v' ≠ r6 := Nat.ne_of_lt (Nat.lt_of_lt_of_le P0.lt g8)
    show Wk _ h2 1 6 I 16 #[.val (.ref v'), .val (.int (Int32.ofNat f)), .val (.int (Int32.ofNat g))] [(.ref r6)]
    exact Wk.areturn rfl rfl rfl d32_16 (Nat.le_of_ble_eq_true rfl) (Nat.le_of_ble_eq_true rfl) ⟨r6, rfl, rfl, (own_ext ((Keep.refl h0 []).ext E7)), g8, g9⟩
  · skip
    refine Wk.iloadN (pc' := 1) d32_0 rfl rfl ?_
    refine Wk.if_neY (pc' := 10) d32_1 (by decide) (mt (own_eq (j := 0) (by omega) (by decide)).mp hf) ?_
    refine Wk.aloadN (pc' := 11) d32_10 rfl rfl rfl ?_
    refine Wk.iloadN (pc' := 12) d32_11 rfl rfl ?_
    refine Wk.iloadN (pc' := 13) d32_12 rfl rfl ?_
    refine Wk.callS (a0 := a0) (pc' := 16) (k' := 1) (n' := 6) (W := 0) (b := b_u_crb) (argsL := [(.ref v'), (.int (Int32.ofNat f)), (.int (Int32.ofNat g))]) (rest := []) (rm_u_crb hw v' q T f g h0 I P0 hfg hg hTl) (w164 hw) (w165 hw) (w162 hw) (w166 hw) (by decide) (Nat.le_refl _) id (Nat.le_of_ble_eq_true rfl) (Nat.le_of_ble_eq_true rfl) rfl rfl (Nat.le_of_ble_eq_true rfl) (Nat.le_of_ble_eq_true rfl) rfl pd18 rfl rfl rfl (Nat.le_of_ble_eq_true rfl) d32_13 rfl fun v11 h12 J13 hs14 hQ15 => ?_
    obtain ⟨r16, rfl, rfl, E17, g18, g19⟩ := hQ15
    have ne20 : v' ≠ r16 := Nat.ne_of_lt (Nat.lt_of_lt_of_le P0.lt g18)
    show Wk _ h12 1 6 I 16 #[.val (.ref v'), .val (.int (Int32.ofNat f)), .val (.int (Int32.ofNat g))] [(.ref r16)]
    exact Wk.areturn rfl rfl rfl d32_16 (Nat.le_of_ble_eq_true rfl) (Nat.le_of_ble_eq_true rfl) ⟨r16, rfl, rfl, (own_ext ((Keep.refl h0 []).ext E17)), g18, g19⟩
theorem ef_ibb (m : MethodId) (x0 : Addr) (x1 : Addr) (x2 : Int32) : entryFrame m #[(.ref x0), (.ref x1), (.int x2)] 3 = mkF m 0 #[.val (.ref x0), .val (.ref x1), .val (.int x2)] [] := by first | (simp [entryFrame, mkF, argsToLocals, Value.category]; done) | rfl
abbrev b_ibb : Bdy := ((⟨"java/lang/String", "<init>", "([BB)V"⟩ : MethodName), jdk_42_method_151_code, 3, (Option.none : Option Jvm.ClassFile.FieldType), ({ frames := 1, cells := 0, slots := 0, locals := 12 } : Room))
def Q_ibb (Z : State) (N : Nat) (a : Addr) (b : Addr) (h0 : Heap) (I : Lts) (v : Option Value) (h : Heap) (J : Lts) : Prop := I = J ∧ v = none ∧ Keep h0 h [a]
set_option maxRecDepth 65536 in
set_option maxHeartbeats 40000000 in
theorem rm_ibb {l : Launch} {Z : State} {a0 : Array Value} {N : Nat} (hw : ∀ d ∈ tables_1, d.before a0 Z = true) (a : Addr) (b : Addr) (h0 : Heap) (I : Lts) (P0 : Exa Z h0 a "java/lang/String") (P1 : Fld Z h0 a "java/lang/String" "value" "[B" .null) (P2 : Fld Z h0 a "java/lang/String" "coder" "B" (.int (0 : Int32))) (P3 : N ≤ a) :
    Cn l Z N b_ibb #[(.ref a), (.ref b), (.int (0 : Int32))] h0 I (Q_ibb Z N a b h0 I) := by
  refine Cn.of_wk (Ls := #[.val (.ref a), .val (.ref b), .val (.int (0 : Int32))]) (plainFor_of_name (by first | (simp [plainName, overriddenIn]; done) | decide +kernel)) (fun m => ef_ibb m a b (0 : Int32)) ?_
  refine Wk.aloadN (pc' := 1) d35_0 rfl rfl rfl ?_
  refine Wk.initO (a0 := a0) (pc' := 4) (W := 0) (w56 hw) (w39 hw) (w40 hw) rfl d35_1 rfl (Nat.le_of_ble_eq_true rfl) (Nat.le_of_ble_eq_true rfl) (Nat.le_of_ble_eq_true rfl) ?_
  refine Wk.aloadN (pc' := 5) d35_4 rfl rfl rfl ?_
  refine Wk.aloadN (pc' := 6) d35_5 rfl rfl rfl ?_
  refine Wk.putF (a0 := a0) (pc' := 9) (host := "") (Or.inl (w69 hw)) Via.refl P3 P1 P0 (Or.inr ⟨(w26 hw), rfl, rfl⟩) (w24 hw) (ty := (.array .byte)) (by decide) rfl rfl d35_6 rfl fun h1 W2 => ?_
  have F3 := P1.same W2
  refine Wk.aloadN (pc' := 10) d35_9 rfl rfl rfl ?_
  refine Wk.iloadN (pc' := 11) d35_10 rfl rfl ?_
  have f4 := (P0.wr W2)
  have f5 := (P2.other W2 (Or.inr (slot_ne (Or.inr (w27 hw)) (Or.inr (w26 hw)) (by decide) (t := .byte) (t' := (.array .byte)) (by decide) (by decide))))
  refine Wk.putFN (a0 := a0) (pc' := 14) (v' := (.int (0 : Int32))) (w68 hw) Via.refl P3 f5 f4 (Or.inr ⟨(w27 hw), rfl, rfl⟩) (w24 hw) (ty := .byte) (by decide) rfl rfl d35_11 rfl fun h6 W7 => ?_
  have F8 := f5.same W7
  exact Wk.return_ rfl d35_14 (Nat.le_of_ble_eq_true rfl) (Nat.le_of_ble_eq_true rfl) ⟨rfl, rfl, (((Keep.refl h0 [a]).wr W2 (Or.inl (by simp))).wr W7 (Or.inl (by simp)))⟩
theorem ef_nst (m : MethodId) (x0 : Addr) (x1 : Int32) (x2 : Int32) : entryFrame m #[(.ref x0), (.int x1), (.int x2)] 3 = mkF m 0 #[.val (.ref x0), .val (.int x1), .val (.int x2)] [] := by first | (simp [entryFrame, mkF, argsToLocals, Value.category]; done) | rfl
abbrev b_nst : Bdy := ((⟨"java/lang/StringLatin1", "newString", "([BII)Ljava/lang/String;"⟩ : MethodName), jdk_43_method_47_code, 3, (Option.some (Jvm.ClassFile.FieldType.object "java/lang/String")), ({ frames := 3, cells := 2, slots := 10, locals := 50 } : Room))
def Q_nst (Z : State) (N : Nat) (v' : Addr) (q : ClassId) (T : List Int32) (f : Nat) (g : Nat) (Ts : List String) (Lk : List (String × Nat × Addr)) (h0 : Heap) (I : Lts) (v : Option Value) (h : Heap) (J : Lts) : Prop := ∃ r : Addr, True ∧ v = some (.ref r) ∧ Ext h0 h
set_option maxRecDepth 65536 in
set_option maxHeartbeats 40000000 in
theorem rm_nst {l : Launch} {Z : State} {a0 : Array Value} {N : Nat} (hw : ∀ d ∈ tables_1, d.before a0 Z = true) (v' : Addr) (q : ClassId) (T : List Int32) (f : Nat) (g : Nat) (Ts : List String) (Lk : List (String × Nat × Addr)) (h0 : Heap) (P0 : Arv Z h0 v' q .byte (Int32.ofNat T.length) (T.map own_by) (.int (0 : Int32))) (hfg : f ≤ g) (hg : g ≤ T.length) (hTl : T.length ≤ 6) (hno : (¬ (f = 0 ∧ g = T.length))) (hT : "" ∉ Ts) (G_h151 : Jvm.Lit.constHeld Z "java/lang/StringLatin1" 151) (G_cw : Jvm.Lit.compactW.before a0 Z = true) :
    Cn l Z N b_nst #[(.ref v'), (.int (Int32.ofNat f)), (.int (Int32.ofNat (g - f)))] h0 (some (Ts, Lk)) (Q_nst Z N v' q T f g Ts Lk h0 (some (Ts, Lk))) := by
  refine Cn.of_wkM (Ls := #[.val (.ref v'), .val (.int (Int32.ofNat f)), .val (.int (Int32.ofNat (g - f)))]) (plainFor_of_name (by first | (simp [plainName, overriddenIn]; done) | decide +kernel)) (fun m => ef_nst m v' (Int32.ofNat f) (Int32.ofNat (g - f))) ?_
  refine WkM.iloadN (pc' := 1) d25_0 rfl rfl ?_
  by_cases hz : g - f = 0
  · skip
    refine WkM.if_neN (pc' := 4) d25_1 rfl (by rw [hz]; rfl) ?_
    refine WkM.ldcLit (a0 := a0) (pc' := 6) (k' := 2) (n' := 4) (cap := 0) (vs := []) (z := 0) (w133 hw) (own_wS hw) (Nat.le_refl _) hT G_h151 G_cw ⟨by decide, rfl⟩ (by decide) rfl d25_4 rfl (by decide) (by decide) rfl rfl (Nat.le_of_ble_eq_true rfl) (Nat.le_of_ble_eq_true rfl) fun al1 bl2 ql3 h4 E5 X6 C7 V8 A9 p10 => ?_
    show Wk _ h4 2 4 (some (("" :: Ts), [("java/lang/StringLatin1", 151, al1)])) 6 #[.val (.ref v'), .val (.int (Int32.ofNat f)), .val (.int (Int32.ofNat (g - f)))] [(.ref al1)]
    exact Wk.areturn rfl rfl rfl d25_6 (Nat.le_of_ble_eq_true rfl) (Nat.le_of_ble_eq_true rfl) ⟨al1, trivial, rfl, (own_ext ((Keep.refl h0 []).ext E5))⟩
  · skip
    refine Wk.toM ?_
    refine Wk.if_neY (pc' := 7) d25_1 (by decide) (mt (own_eq (j := 0) (by omega) (by decide)).mp hz) ?_
    refine Wk.newO (a0 := a0) (pc' := 10) (k' := 1) (n' := 4) (w159 hw) (w24 hw) (w23 hw) d25_7 rfl rfl rfl (Nat.le_of_ble_eq_true rfl) (Nat.le_of_ble_eq_true rfl) fun a11 h12 hg13 hN14 E15 A16 D17 => ?_
    have ne18 : v' ≠ a11 := Nat.ne_of_lt (Nat.lt_of_lt_of_le P0.lt hg13)
    have F19 : Fld Z h12 a11 "java/lang/String" "value" "[B" .null := D17 (Or.inr (w26 hw)) (ty := (.array .byte)) (by decide)
    have F20 : Fld Z h12 a11 "java/lang/String" "coder" "B" (.int (0 : Int32)) := D17 (Or.inr (w27 hw)) (ty := .byte) (by decide)
    refine Wk.dup (pc' := 11) d25_10 rfl rfl ?_
    refine Wk.aloadN (pc' := 12) d25_11 rfl rfl rfl ?_
    refine Wk.iloadN (pc' := 13) d25_12 rfl rfl ?_
    refine Wk.iloadN (pc' := 14) d25_13 rfl rfl ?_
    refine Wk.iloadN (pc' := 15) d25_14 rfl rfl ?_
    refine Wk.iadd (pc' := 16) d25_15 rfl ?_
    rw [(show Int32.ofNat f + Int32.ofNat (g - f) = Int32.ofNat g from by rw [own_addn, show f + (g - f) = g by omega])]
    have f21 := (P0.ext E15)
    refine Wk.callS (a0 := a0) (pc' := 19) (k' := 2) (n' := 10) (W := 2) (b := b_u_cor) (argsL := [(.ref v'), (.int (Int32.ofNat f)), (.int (Int32.ofNat g))]) (rest := [(.ref a11), (.ref a11)]) (rm_u_cor hw v' q T f g h12 (some (Ts, Lk)) f21 hfg hg hTl hno) (w160 hw) (w161 hw) (w162 hw) (w163 hw) (by decide) (Nat.le_refl _) id (Nat.le_of_ble_eq_true rfl) (Nat.le_of_ble_eq_true rfl) rfl rfl (Nat.le_of_ble_eq_true rfl) (Nat.le_of_ble_eq_true rfl) rfl pd18 rfl rfl rfl (Nat.le_of_ble_eq_true rfl) d25_16 rfl fun v22 h23 J24 hs25 hQ26 => ?_
    obtain ⟨r27, rfl, rfl, E28, g29, g30⟩ := hQ26
    have ne31 : v' ≠ r27 := Nat.ne_of_lt (Nat.lt_of_lt_of_le f21.lt g29)
    have ne32 : a11 ≠ r27 := Nat.ne_of_lt (Nat.lt_of_lt_of_le A16.lt g29)
    show Wk _ h23 2 10 (some (Ts, Lk)) 19 #[.val (.ref v'), .val (.int (Int32.ofNat f)), .val (.int (Int32.ofNat (g - f)))] [(.ref r27), (.ref a11), (.ref a11)]
    refine Wk.iconst (pc' := 20) (v := 0) d25_19 rfl rfl ?_
    have f33 := (A16.ext E28)
    have f34 := (F19.ext E28)
    have f35 := (F20.ext E28)
    refine Wk.callN (a0 := a0) (pc' := 23) (k' := 2) (n' := 10) (W := 1) (b := b_ibb) (argsL := [(.ref r27), (.int (0 : Int32))]) (rest := [(.ref a11)]) (rm_ibb hw a11 r27 h23 (some (Ts, Lk)) f33 f34 f35 hN14) rfl rfl (w175 hw) (w176 hw) (w23 hw) (w177 hw) (by decide) (Nat.le_refl _) id (Nat.le_of_ble_eq_true rfl) (Nat.le_of_ble_eq_true rfl) rfl rfl (Nat.le_of_ble_eq_true rfl) (Nat.le_of_ble_eq_true rfl) rfl pd28 rfl rfl rfl (Nat.le_of_ble_eq_true rfl) d25_20 rfl fun v36 h37 J38 hs39 hQ40 => ?_
    obtain ⟨rfl, rfl, K41⟩ := hQ40
    show Wk _ h37 2 10 (some (Ts, Lk)) 23 #[.val (.ref v'), .val (.int (Int32.ofNat f)), .val (.int (Int32.ofNat (g - f)))] [(.ref a11)]
    exact Wk.areturn rfl rfl rfl d25_23 (Nat.le_of_ble_eq_true rfl) (Nat.le_of_ble_eq_true rfl) ⟨a11, trivial, rfl, (own_ext ((((Keep.refl h0 []).ext E15).ext E28).trans K41 (allS (Or.inr hg13) all0)))⟩
theorem ef_sub (m : MethodId) (x0 : Addr) (x1 : Int32) (x2 : Int32) : entryFrame m #[(.ref x0), (.int x1), (.int x2)] 5 = mkF m 0 #[.val (.ref x0), .val (.int x1), .val (.int x2), .unset, .unset] [] := by first | (simp [entryFrame, mkF, argsToLocals, Value.category]; done) | rfl
abbrev b_sub : Bdy := ((⟨"java/lang/String", "substring", "(II)Ljava/lang/String;"⟩ : MethodName), jdk_42_method_92_code, 5, (Option.some (Jvm.ClassFile.FieldType.object "java/lang/String")), ({ frames := 4, cells := 2, slots := 10, locals := 64 } : Room))
def Q_sub (Z : State) (N : Nat) (t : Addr) (v' : Addr) (q : ClassId) (T : List Int32) (f : Nat) (g : Nat) (cs : Int32) (sf : Value) (Ts : List String) (Lk : List (String × Nat × Addr)) (h0 : Heap) (I : Lts) (v : Option Value) (h : Heap) (J : Lts) : Prop := ∃ r : Addr, True ∧ v = some (.ref r) ∧ Ext h0 h
set_option maxRecDepth 65536 in
set_option maxHeartbeats 40000000 in
theorem rm_sub {l : Launch} {Z : State} {a0 : Array Value} {N : Nat} (hw : ∀ d ∈ tables_1, d.before a0 Z = true) (t : Addr) (v' : Addr) (q : ClassId) (T : List Int32) (f : Nat) (g : Nat) (cs : Int32) (sf : Value) (Ts : List String) (Lk : List (String × Nat × Addr)) (h0 : Heap) (P0 : Sta Z Z.heap "java/lang/String" "COMPACT_STRINGS" "Z" (.int cs)) (G_cs : ¬ cs = (0 : Int32)) (P2 : Sta Z Z.heap "jdk/internal/util/Preconditions" "SIOOBE_FORMATTER" "Ljava/util/function/BiFunction;" sf) (G_sf : sf.isRef = true) (P4 : Exa Z h0 t "java/lang/String") (P5 : Fld Z h0 t "java/lang/String" "value" "[B" (.ref v')) (P6 : Fld Z h0 t "java/lang/String" "coder" "B" (.int (0 : Int32))) (P7 : Arv Z h0 v' q .byte (Int32.ofNat T.length) (T.map own_by) (.int (0 : Int32))) (hfg : f ≤ g) (hg : g ≤ T.length) (hTl : T.length ≤ 6) (hT : "" ∉ Ts) (G_h151 : Jvm.Lit.constHeld Z "java/lang/StringLatin1" 151) (G_cw : Jvm.Lit.compactW.before a0 Z = true) :
    Cn l Z N b_sub #[(.ref t), (.int (Int32.ofNat f)), (.int (Int32.ofNat g))] h0 (some (Ts, Lk)) (Q_sub Z N t v' q T f g cs sf Ts Lk h0 (some (Ts, Lk))) := by
  refine Cn.of_wk (Ls := #[.val (.ref t), .val (.int (Int32.ofNat f)), .val (.int (Int32.ofNat g)), .unset, .unset]) (plainFor_of_name (by first | (simp [plainName, overriddenIn]; done) | decide +kernel)) (fun m => ef_sub m t (Int32.ofNat f) (Int32.ofNat g)) ?_
  refine Wk.aloadN (pc' := 1) d21_0 rfl rfl rfl ?_
  refine Wk.callV (a0 := a0) (pc' := 4) (k' := 0) (n' := 0) (W := 0) (b := b_s_len) (argsL := []) (rest := []) (y := (⟨"java/lang/String", "length", "()I"⟩ : MethodName)) (rm_s_len hw t v' q T cs h0 (some (Ts, Lk)) P0 G_cs P4 P5 P6 P7) P4 (w85 hw) (w86 hw) (w88 hw) (w88 hw) (w87 hw) (w23 hw) (w89 hw) (by decide) (Nat.le_refl _) id (Nat.le_of_ble_eq_true rfl) (Nat.le_of_ble_eq_true rfl) rfl rfl (Nat.le_of_ble_eq_true rfl) (Nat.le_of_ble_eq_true rfl) rfl pd9 rfl rfl rfl (Nat.le_of_ble_eq_true rfl) d21_1 rfl fun v1 h2 J3 hs4 hQ5 => ?_
  obtain ⟨rfl, rfl, rfl⟩ := hQ5
  show Wk _ h0 0 0 (some (Ts, Lk)) 4 #[.val (.ref t), .val (.int (Int32.ofNat f)), .val (.int (Int32.ofNat g)), .unset, .unset] [(.int (Int32.ofNat T.length))]
  refine Wk.istoreN (pc' := 5) #[.val (.ref t), .val (.int (Int32.ofNat f)), .val (.int (Int32.ofNat g)), .val (.int (Int32.ofNat T.length)), .unset] d21_4 rfl rfl ?_
  refine Wk.iloadN (pc' := 6) d21_5 rfl rfl ?_
  refine Wk.iloadN (pc' := 7) d21_6 rfl rfl ?_
  refine Wk.iloadN (pc' := 8) d21_7 rfl rfl ?_
  refine Wk.callS (a0 := a0) (pc' := 11) (k' := 0) (n' := 0) (W := 0) (b := b_cbe) (argsL := [(.int (Int32.ofNat f)), (.int (Int32.ofNat g)), (.int (Int32.ofNat T.length))]) (rest := []) (rm_cbe hw f g T.length sf h0 (some (Ts, Lk)) P2 G_sf hfg hg (by omega)) (w116 hw) (w117 hw) (w23 hw) (w118 hw) (by decide) (Nat.le_refl _) id (Nat.le_of_ble_eq_true rfl) (Nat.le_of_ble_eq_true rfl) rfl rfl (Nat.le_of_ble_eq_true rfl) (Nat.le_of_ble_eq_true rfl) rfl pd29 rfl rfl rfl (Nat.le_of_ble_eq_true rfl) d21_8 rfl fun v6 h7 J8 hs9 hQ10 => ?_
  obtain ⟨rfl, rfl, rfl⟩ := hQ10
  show Wk _ h0 0 0 (some (Ts, Lk)) 11 #[.val (.ref t), .val (.int (Int32.ofNat f)), .val (.int (Int32.ofNat g)), .val (.int (Int32.ofNat T.length)), .unset] []
  by_cases hf : f = 0
  · skip
    refine Wk.iloadN (pc' := 12) d21_11 rfl rfl ?_
    refine Wk.if_neN (pc' := 15) d21_12 rfl (by rw [hf]; rfl) ?_
    by_cases hgl : g = T.length
    · skip
      refine Wk.iloadN (pc' := 16) d21_15 rfl rfl ?_
      refine Wk.iloadN (pc' := 17) d21_16 rfl rfl ?_
      refine Wk.icmp_neN (pc' := 20) d21_17 rfl (by rw [hgl]) ?_
      refine Wk.aloadN (pc' := 21) d21_20 rfl rfl rfl ?_
      exact Wk.areturn rfl rfl rfl d21_21 (Nat.le_of_ble_eq_true rfl) (Nat.le_of_ble_eq_true rfl) ⟨t, trivial, rfl, (own_ext (Keep.refl h0 []))⟩
    · skip
      refine Wk.iloadN (pc' := 16) d21_15 rfl rfl ?_
      refine Wk.iloadN (pc' := 17) d21_16 rfl rfl ?_
      refine Wk.icmp_neY (pc' := 22) d21_17 (by decide) (mt (own_eq (by omega) (by omega)).mp hgl) ?_
      refine Wk.iloadN (pc' := 23) d21_22 rfl rfl ?_
      refine Wk.iloadN (pc' := 24) d21_23 rfl rfl ?_
      refine Wk.isub (pc' := 25) d21_24 rfl ?_
      rw [own_subN hfg (by omega)]
      refine Wk.istore (pc' := 27) #[.val (.ref t), .val (.int (Int32.ofNat f)), .val (.int (Int32.ofNat g)), .val (.int (Int32.ofNat T.length)), .val (.int (Int32.ofNat (g - f)))] d21_25 rfl rfl ?_
      refine Wk.aloadN (pc' := 28) d21_27 rfl rfl rfl ?_
      refine Wk.callV (a0 := a0) (pc' := 31) (k' := 0) (n' := 0) (W := 0) (b := b_s_lat) (argsL := []) (rest := []) (y := (⟨"java/lang/String", "isLatin1", "()Z"⟩ : MethodName)) (rm_s_lat hw t cs h0 (some (Ts, Lk)) P0 G_cs P6) P4 (w124 hw) (w125 hw) (w127 hw) (w127 hw) (w126 hw) (w23 hw) (w128 hw) (by decide) (Nat.le_refl _) id (Nat.le_of_ble_eq_true rfl) (Nat.le_of_ble_eq_true rfl) rfl rfl (Nat.le_of_ble_eq_true rfl) (Nat.le_of_ble_eq_true rfl) rfl pd3 rfl rfl rfl (Nat.le_of_ble_eq_true rfl) d21_28 rfl fun v11 h12 J13 hs14 hQ15 => ?_
      obtain ⟨rfl, rfl, rfl⟩ := hQ15
      show Wk _ h0 0 0 (some (Ts, Lk)) 31 #[.val (.ref t), .val (.int (Int32.ofNat f)), .val (.int (Int32.ofNat g)), .val (.int (Int32.ofNat T.length)), .val (.int (Int32.ofNat (g - f)))] [(.int (1 : Int32))]
      refine Wk.if_eqN (pc' := 34) d21_31 rfl (by decide) ?_
      refine Wk.aloadN (pc' := 35) d21_34 rfl rfl rfl ?_
      refine Wk.getF (a0 := a0) (pc' := 38) (host := "") (Or.inl (w69 hw)) Via.refl P5 d21_35 rfl ?_
      refine Wk.iloadN (pc' := 39) d21_38 rfl rfl ?_
      refine Wk.iload (pc' := 41) d21_39 rfl rfl ?_
      refine Wk.callS (a0 := a0) (pc' := 44) (k' := 2) (n' := 10) (W := 0) (b := b_nst) (argsL := [(.ref v'), (.int (Int32.ofNat f)), (.int (Int32.ofNat (g - f)))]) (rest := []) (rm_nst hw v' q T f g Ts Lk h0  P7 hfg hg hTl (fun q => hgl q.2) hT G_h151 G_cw) (w129 hw) (w130 hw) (w131 hw) (w132 hw) (by decide) (Nat.le_refl _) id (Nat.le_of_ble_eq_true rfl) (Nat.le_of_ble_eq_true rfl) rfl rfl (Nat.le_of_ble_eq_true rfl) (Nat.le_of_ble_eq_true rfl) rfl pd30 rfl rfl rfl (Nat.le_of_ble_eq_true rfl) d21_41 rfl fun v16 h17 J18 hs19 hQ20 => ?_
      obtain ⟨r21, -, rfl, E22⟩ := hQ20
      show Wk _ h17 2 10 J18 44 #[.val (.ref t), .val (.int (Int32.ofNat f)), .val (.int (Int32.ofNat g)), .val (.int (Int32.ofNat T.length)), .val (.int (Int32.ofNat (g - f)))] [(.ref r21)]
      refine Wk.goto (pc' := 57) d21_44 (by decide) ?_
      exact Wk.areturn rfl rfl rfl d21_57 (Nat.le_of_ble_eq_true rfl) (Nat.le_of_ble_eq_true rfl) ⟨r21, trivial, rfl, (own_ext ((Keep.refl h0 []).ext E22))⟩
  · skip
    refine Wk.iloadN (pc' := 12) d21_11 rfl rfl ?_
    refine Wk.if_neY (pc' := 22) d21_12 (by decide) (mt (own_eq (j := 0) (by omega) (by decide)).mp hf) ?_
    refine Wk.iloadN (pc' := 23) d21_22 rfl rfl ?_
    refine Wk.iloadN (pc' := 24) d21_23 rfl rfl ?_
    refine Wk.isub (pc' := 25) d21_24 rfl ?_
    rw [own_subN hfg (by omega)]
    refine Wk.istore (pc' := 27) #[.val (.ref t), .val (.int (Int32.ofNat f)), .val (.int (Int32.ofNat g)), .val (.int (Int32.ofNat T.length)), .val (.int (Int32.ofNat (g - f)))] d21_25 rfl rfl ?_
    refine Wk.aloadN (pc' := 28) d21_27 rfl rfl rfl ?_
    refine Wk.callV (a0 := a0) (pc' := 31) (k' := 0) (n' := 0) (W := 0) (b := b_s_lat) (argsL := []) (rest := []) (y := (⟨"java/lang/String", "isLatin1", "()Z"⟩ : MethodName)) (rm_s_lat hw t cs h0 (some (Ts, Lk)) P0 G_cs P6) P4 (w124 hw) (w125 hw) (w127 hw) (w127 hw) (w126 hw) (w23 hw) (w128 hw) (by decide) (Nat.le_refl _) id (Nat.le_of_ble_eq_true rfl) (Nat.le_of_ble_eq_true rfl) rfl rfl (Nat.le_of_ble_eq_true rfl) (Nat.le_of_ble_eq_true rfl) rfl pd3 rfl rfl rfl (Nat.le_of_ble_eq_true rfl) d21_28 rfl fun v23 h24 J25 hs26 hQ27 => ?_
    obtain ⟨rfl, rfl, rfl⟩ := hQ27
    show Wk _ h0 0 0 (some (Ts, Lk)) 31 #[.val (.ref t), .val (.int (Int32.ofNat f)), .val (.int (Int32.ofNat g)), .val (.int (Int32.ofNat T.length)), .val (.int (Int32.ofNat (g - f)))] [(.int (1 : Int32))]
    refine Wk.if_eqN (pc' := 34) d21_31 rfl (by decide) ?_
    refine Wk.aloadN (pc' := 35) d21_34 rfl rfl rfl ?_
    refine Wk.getF (a0 := a0) (pc' := 38) (host := "") (Or.inl (w69 hw)) Via.refl P5 d21_35 rfl ?_
    refine Wk.iloadN (pc' := 39) d21_38 rfl rfl ?_
    refine Wk.iload (pc' := 41) d21_39 rfl rfl ?_
    refine Wk.callS (a0 := a0) (pc' := 44) (k' := 2) (n' := 10) (W := 0) (b := b_nst) (argsL := [(.ref v'), (.int (Int32.ofNat f)), (.int (Int32.ofNat (g - f)))]) (rest := []) (rm_nst hw v' q T f g Ts Lk h0  P7 hfg hg hTl (fun q => hf q.1) hT G_h151 G_cw) (w129 hw) (w130 hw) (w131 hw) (w132 hw) (by decide) (Nat.le_refl _) id (Nat.le_of_ble_eq_true rfl) (Nat.le_of_ble_eq_true rfl) rfl rfl (Nat.le_of_ble_eq_true rfl) (Nat.le_of_ble_eq_true rfl) rfl pd30 rfl rfl rfl (Nat.le_of_ble_eq_true rfl) d21_41 rfl fun v28 h29 J30 hs31 hQ32 => ?_
    obtain ⟨r33, -, rfl, E34⟩ := hQ32
    show Wk _ h29 2 10 J30 44 #[.val (.ref t), .val (.int (Int32.ofNat f)), .val (.int (Int32.ofNat g)), .val (.int (Int32.ofNat T.length)), .val (.int (Int32.ofNat (g - f)))] [(.ref r33)]
    refine Wk.goto (pc' := 57) d21_44 (by decide) ?_
    exact Wk.areturn rfl rfl rfl d21_57 (Nat.le_of_ble_eq_true rfl) (Nat.le_of_ble_eq_true rfl) ⟨r33, trivial, rfl, (own_ext ((Keep.refl h0 []).ext E34))⟩
theorem ef_c_ini (m : MethodId) (x0 : Addr) (x1 : Int32) : entryFrame m #[(.ref x0), (.int x1)] 2 = mkF m 0 #[.val (.ref x0), .val (.int x1)] [] := by first | (simp [entryFrame, mkF, argsToLocals, Value.category]; done) | rfl
abbrev b_c_ini : Bdy := ((⟨"java/lang/AbstractStringBuilder", "<init>", "(I)V"⟩ : MethodName), jdk_68_method_2_code, 2, (Option.none : Option Jvm.ClassFile.FieldType), ({ frames := 1, cells := 1, slots := 16, locals := 12 } : Room))
def Q_c_ini (Z : State) (N : Nat) (a : Addr) (cs : Int32) (h0 : Heap) (I : Lts) (v : Option Value) (h : Heap) (J : Lts) : Prop := ∃ b : Addr, ∃ qb : ClassId, I = J ∧ v = none ∧ Keep h0 h [a] ∧ h0.size ≤ b ∧ N ≤ b ∧ a ≠ b ∧ Fld Z h a "java/lang/AbstractStringBuilder" "value" "[B" (.ref b) ∧ Fld Z h a "java/lang/AbstractStringBuilder" "coder" "B" (.int (0 : Int32)) ∧ Fld Z h a "java/lang/AbstractStringBuilder" "count" "I" (.int (Int32.ofNat own_nil.length)) ∧ Arv Z h b qb .byte (Int32.ofNat 16) (own_sb own_nil 16) (.int (0 : Int32))
set_option maxRecDepth 65536 in
set_option maxHeartbeats 40000000 in
theorem rm_c_ini {l : Launch} {Z : State} {a0 : Array Value} {N : Nat} (hw : ∀ d ∈ tables_1, d.before a0 Z = true) (a : Addr) (cs : Int32) (h0 : Heap) (I : Lts) (P0 : Sta Z Z.heap "java/lang/String" "COMPACT_STRINGS" "Z" (.int cs)) (G_cs : ¬ cs = (0 : Int32)) (P2 : Exa Z h0 a "java/lang/StringBuilder") (P3 : Fld Z h0 a "java/lang/AbstractStringBuilder" "value" "[B" .null) (P4 : Fld Z h0 a "java/lang/AbstractStringBuilder" "coder" "B" (.int (0 : Int32))) (P5 : Fld Z h0 a "java/lang/AbstractStringBuilder" "count" "I" (.int (0 : Int32))) (P6 : N ≤ a) :
    Cn l Z N b_c_ini #[(.ref a), (.int (16 : Int32))] h0 I (Q_c_ini Z N a cs h0 I) := by
  refine Cn.of_wk (Ls := #[.val (.ref a), .val (.int (16 : Int32))]) (plainFor_of_name (by first | (simp [plainName, overriddenIn]; done) | decide +kernel)) (fun m => ef_c_ini m a (16 : Int32)) ?_
  refine Wk.aloadN (pc' := 1) d37_0 rfl rfl rfl ?_
  refine Wk.initO (a0 := a0) (pc' := 4) (W := 0) (w190 hw) (w39 hw) (w40 hw) rfl d37_1 rfl (Nat.le_of_ble_eq_true rfl) (Nat.le_of_ble_eq_true rfl) (Nat.le_of_ble_eq_true rfl) ?_
  refine Wk.getS (a0 := a0) (pc' := 7) (host := "") (Or.inl (w191 hw)) Via.refl P0 d37_4 rfl ?_
  refine Wk.if_eqN (pc' := 10) d37_7 rfl G_cs ?_
  refine Wk.aloadN (pc' := 11) d37_10 rfl rfl rfl ?_
  refine Wk.iloadN (pc' := 12) d37_11 rfl rfl ?_
  refine Wk.newP (a0 := a0) (aty := .byte) (pc' := 14) (k' := 1) (n' := 16) (cap := 16) (w25 hw) d37_12 rfl (by decide) (by decide) (by decide) rfl rfl (Nat.le_of_ble_eq_true rfl) (Nat.le_of_ble_eq_true rfl) fun a1 h2 q3 hg4 hN5 E6 A7 => ?_
  have ne8 : a ≠ a1 := Nat.ne_of_lt (Nat.lt_of_lt_of_le P2.lt hg4)
  have A9 : Arv Z h2 a1 q3 .byte (16 : Int32) [(.int (0 : Int32)), (.int (0 : Int32)), (.int (0 : Int32)), (.int (0 : Int32)), (.int (0 : Int32)), (.int (0 : Int32)), (.int (0 : Int32)), (.int (0 : Int32)), (.int (0 : Int32)), (.int (0 : Int32)), (.int (0 : Int32)), (.int (0 : Int32)), (.int (0 : Int32)), (.int (0 : Int32)), (.int (0 : Int32)), (.int (0 : Int32))] (.int (0 : Int32)) := A7.pad (pad_rep [] (.int (0 : Int32)) 16)
  have A10 : Arv Z h2 a1 q3 .byte (Int32.ofNat 16) (own_sb own_nil 16) (.int (0 : Int32)) := by rw [own_sb0]; exact A9
  have f11 := (P2.ext E6)
  have f12 := (P3.ext E6)
  refine Wk.putF (a0 := a0) (pc' := 17) (host := "") (Or.inl (w192 hw)) Via.refl P6 f12 f11 (Or.inl (w193 hw)) (w179 hw) (ty := (.array .byte)) (by decide) rfl rfl d37_14 rfl fun h13 W14 => ?_
  have F15 := f12.same W14
  refine Wk.aloadN (pc' := 18) d37_17 rfl rfl rfl ?_
  refine Wk.iconst (pc' := 19) (v := 0) d37_18 rfl rfl ?_
  have f16 := (f11.wr W14)
  have f17 := ((P4.ext E6).other W14 (Or.inr (slot_ne (Or.inl (w195 hw)) (Or.inl (w193 hw)) (by decide) (t := .byte) (t' := (.array .byte)) (by decide) (by decide))))
  refine Wk.putFN (a0 := a0) (pc' := 22) (v' := (.int (0 : Int32))) (w194 hw) Via.refl P6 f17 f16 (Or.inl (w195 hw)) (w179 hw) (ty := .byte) (by decide) rfl rfl d37_19 rfl fun h18 W19 => ?_
  have F20 := f17.same W19
  refine Wk.goto (pc' := 38) d37_22 (by decide) ?_
  have f21 := (F15.other W19 (Or.inr (slot_ne (Or.inl (w193 hw)) (Or.inl (w195 hw)) (by decide) (t := (.array .byte)) (t' := .byte) (by decide) (by decide))))
  have f22 := ((A10.other W14 (Ne.symm ne8)).other W19 (Ne.symm ne8))
  have f23 := (((P5.ext E6).other W14 (Or.inr (slot_ne (Or.inl (w208 hw)) (Or.inl (w193 hw)) (by decide) (t := .int) (t' := (.array .byte)) (by decide) (by decide)))).other W19 (Or.inr (slot_ne (Or.inl (w208 hw)) (Or.inl (w195 hw)) (by decide) (t := .int) (t' := .byte) (by decide) (by decide))))
  exact Wk.return_ rfl d37_38 (Nat.le_of_ble_eq_true rfl) (Nat.le_of_ble_eq_true rfl) ⟨a1, q3, rfl, rfl, ((((Keep.refl h0 [a]).ext E6).wr W14 (Or.inl (by simp))).wr W19 (Or.inl (by simp))), hg4, hN5, ne8, f21, F20, f23, f22⟩
theorem ef_c_inS (m : MethodId) (x0 : Addr) : entryFrame m #[(.ref x0)] 1 = mkF m 0 #[.val (.ref x0)] [] := by first | (simp [entryFrame, mkF, argsToLocals, Value.category]; done) | rfl
abbrev b_c_inS : Bdy := ((⟨"java/lang/StringBuilder", "<init>", "()V"⟩ : MethodName), jdk_67_method_1_code, 1, (Option.none : Option Jvm.ClassFile.FieldType), ({ frames := 2, cells := 1, slots := 16, locals := 25 } : Room))
def Q_c_inS (Z : State) (N : Nat) (a : Addr) (cs : Int32) (h0 : Heap) (I : Lts) (v : Option Value) (h : Heap) (J : Lts) : Prop := ∃ b : Addr, ∃ qb : ClassId, I = J ∧ v = none ∧ Keep h0 h [a] ∧ h0.size ≤ b ∧ N ≤ b ∧ a ≠ b ∧ Fld Z h a "java/lang/AbstractStringBuilder" "value" "[B" (.ref b) ∧ Fld Z h a "java/lang/AbstractStringBuilder" "coder" "B" (.int (0 : Int32)) ∧ Fld Z h a "java/lang/AbstractStringBuilder" "count" "I" (.int (Int32.ofNat own_nil.length)) ∧ Arv Z h b qb .byte (Int32.ofNat 16) (own_sb own_nil 16) (.int (0 : Int32))
set_option maxRecDepth 65536 in
set_option maxHeartbeats 40000000 in
theorem rm_c_inS {l : Launch} {Z : State} {a0 : Array Value} {N : Nat} (hw : ∀ d ∈ tables_1, d.before a0 Z = true) (a : Addr) (cs : Int32) (h0 : Heap) (I : Lts) (P0 : Sta Z Z.heap "java/lang/String" "COMPACT_STRINGS" "Z" (.int cs)) (G_cs : ¬ cs = (0 : Int32)) (P2 : Exa Z h0 a "java/lang/StringBuilder") (P3 : Fld Z h0 a "java/lang/AbstractStringBuilder" "value" "[B" .null) (P4 : Fld Z h0 a "java/lang/AbstractStringBuilder" "coder" "B" (.int (0 : Int32))) (P5 : Fld Z h0 a "java/lang/AbstractStringBuilder" "count" "I" (.int (0 : Int32))) (P6 : N ≤ a) :
    Cn l Z N b_c_inS #[(.ref a)] h0 I (Q_c_inS Z N a cs h0 I) := by
  refine Cn.of_wk (Ls := #[.val (.ref a)]) (plainFor_of_name (by first | (simp [plainName, overriddenIn]; done) | decide +kernel)) (fun m => ef_c_inS m a) ?_
  refine Wk.aloadN (pc' := 1) d36_0 rfl rfl rfl ?_
  refine Wk.bipush (pc' := 3) (v := 16) d36_1 rfl rfl ?_
  refine Wk.callN (a0 := a0) (pc' := 6) (k' := 1) (n' := 16) (W := 0) (b := b_c_ini) (argsL := [(.int (16 : Int32))]) (rest := []) (rm_c_ini hw a cs h0 I P0 G_cs P2 P3 P4 P5 P6) rfl rfl (w184 hw) (w185 hw) (w188 hw) (w189 hw) (by decide) (Nat.le_refl _) id (Nat.le_of_ble_eq_true rfl) (Nat.le_of_ble_eq_true rfl) rfl rfl (Nat.le_of_ble_eq_true rfl) (Nat.le_of_ble_eq_true rfl) rfl pd12 rfl rfl rfl (Nat.le_of_ble_eq_true rfl) d36_3 rfl fun v1 h2 J3 hs4 hQ5 => ?_
  obtain ⟨b6, qb7, rfl, rfl, K8, g9, g10, g11, g12, g13, g14, g15⟩ := hQ5
  have ne16 : a ≠ b6 := Nat.ne_of_lt (Nat.lt_of_lt_of_le P2.lt g9)
  show Wk _ h2 1 16 I 6 #[.val (.ref a)] []
  exact Wk.return_ rfl d36_6 (Nat.le_of_ble_eq_true rfl) (Nat.le_of_ble_eq_true rfl) ⟨b6, qb7, rfl, rfl, ((Keep.refl h0 [a]).trans K8 (allS (Or.inl (by simp)) all0)), g9, g10, g11, g12, g13, g14, g15⟩
theorem ef_seg (m : MethodId) (x0 : Addr) (x1 : Addr) (x2 : Int32) (x3 : Int32) (x4 : Addr) : entryFrame m #[(.ref x0), (.ref x1), (.int x2), (.int x3), (.ref x4)] 13 = mkF m 0 #[.val (.ref x0), .val (.ref x1), .val (.int x2), .val (.int x3), .val (.ref x4), .unset, .unset, .unset, .unset, .unset, .unset, .unset, .unset] [] := by first | (simp [entryFrame, mkF, argsToLocals, Value.category]; done) | rfl
abbrev b_seg : Bdy := ((⟨"com/example/quittance/quittance/Segment", "<init>", "(Ljava/lang/String;IILcom/example/quittance/quittance/Delimiters;)V"⟩ : MethodName), prog_111_method_2_code, 13, (Option.none : Option Jvm.ClassFile.FieldType), ({ frames := 6, cells := 10, slots := 92, locals := 92 } : Room))
def Q_seg (Z : State) (N : Nat) (a : Addr) (t : Addr) (v' : Addr) (q : ClassId) (X : List Int32) (dl : Addr) (s : Nat) (e : Nat) (cs : Int32) (sf : Value) (Ts : List String) (Lk : List (String × Nat × Addr)) (h0 : Heap) (I : Lts) (v : Option Value) (h : Heap) (J : Lts) : Prop := ∃ b : Addr, ∃ qb : ClassId, ∃ E : List Nat, True ∧ v = none ∧ Keep h0 h [a] ∧ Fld Z h a "com/example/quittance/quittance/Segment" "ends" "[I" (.ref b) ∧ Arv Z h b qb .int (Int32.ofNat E.length) (E.map own_iv) (.int (0 : Int32)) ∧ (0 < E.length ∧ E.length ≤ 8) ∧ (∀ mm, own_get E mm = own_ex X s e mm)
set_option maxRecDepth 65536 in
set_option maxHeartbeats 40000000 in
theorem rm_seg {l : Launch} {Z : State} {a0 : Array Value} {N : Nat} (hw : ∀ d ∈ tables_1, d.before a0 Z = true) (a : Addr) (t : Addr) (v' : Addr) (q : ClassId) (X : List Int32) (dl : Addr) (s : Nat) (e : Nat) (cs : Int32) (sf : Value) (Ts : List String) (Lk : List (String × Nat × Addr)) (h0 : Heap) (P0 : Sta Z Z.heap "java/lang/String" "COMPACT_STRINGS" "Z" (.int cs)) (G_cs : ¬ cs = (0 : Int32)) (P2 : Sta Z Z.heap "jdk/internal/util/Preconditions" "SIOOBE_FORMATTER" "Ljava/util/function/BiFunction;" sf) (G_sf : sf.isRef = true) (P4 : Exa Z h0 a "com/example/quittance/quittance/Segment") (P5 : Fld Z h0 a "com/example/quittance/quittance/Segment" "delimiters" "Lcom/example/quittance/quittance/Delimiters;" .null) (P6 : Fld Z h0 a "com/example/quittance/quittance/Segment" "text" "Ljava/lang/String;" .null) (P7 : Fld Z h0 a "com/example/quittance/quittance/Segment" "starts" "[I" .null) (P8 : Fld Z h0 a "com/example/quittance/quittance/Segment" "ends" "[I" .null) (P9 : Fld Z h0 a "com/example/quittance/quittance/Segment" "id" "Ljava/lang/String;" .null) (P10 : N ≤ a) (P11 : Exa Z h0 t "java/lang/String") (P12 : Fld Z h0 t "java/lang/String" "value" "[B" (.ref v')) (P13 : Fld Z h0 t "java/lang/String" "coder" "B" (.int (0 : Int32))) (P14 : Arv Z h0 v' q .byte (Int32.ofNat X.length) (X.map own_by) (.int (0 : Int32))) (P15 : Exa Z h0 dl "com/example/quittance/quittance/Delimiters") (P16 : Fld Z h0 dl "com/example/quittance/quittance/Delimiters" "field" "C" (.int (124 : Int32))) (P17 : t ≠ a) (P18 : v' ≠ a) (P19 : dl ≠ a) (hX6 : X.length = 6) (hL : own_L X) (hse : s ≤ e) (he : e ≤ 6) (hT : "MSH" ∉ Ts) (hT0 : "" ∉ Ts) (G_h24 : Jvm.Lit.constHeld Z "com/example/quittance/quittance/Segment" 24) (G_h151 : Jvm.Lit.constHeld Z "java/lang/StringLatin1" 151) (G_cw : Jvm.Lit.compactW.before a0 Z = true) :
    Cn l Z N b_seg #[(.ref a), (.ref t), (.int (Int32.ofNat s)), (.int (Int32.ofNat e)), (.ref dl)] h0 (some (Ts, Lk)) (Q_seg Z N a t v' q X dl s e cs sf Ts Lk h0 (some (Ts, Lk))) := by
  refine Cn.of_wkM (Ls := #[.val (.ref a), .val (.ref t), .val (.int (Int32.ofNat s)), .val (.int (Int32.ofNat e)), .val (.ref dl), .unset, .unset, .unset, .unset, .unset, .unset, .unset, .unset]) (plainFor_of_name (by first | (simp [plainName, overriddenIn]; done) | decide +kernel)) (fun m => ef_seg m a t (Int32.ofNat s) (Int32.ofNat e) dl) ?_
  refine WkM.aloadN (pc' := 1) d14_0 rfl rfl rfl ?_
  refine WkM.initO (a0 := a0) (pc' := 4) (W := 0) (w73 hw) (w39 hw) (w40 hw) rfl d14_1 rfl (Nat.le_of_ble_eq_true rfl) (Nat.le_of_ble_eq_true rfl) (Nat.le_of_ble_eq_true rfl) ?_
  refine WkM.aload (pc' := 6) d14_4 rfl rfl rfl ?_
  refine WkM.callV (a0 := a0) (pc' := 9) (k' := 0) (n' := 0) (W := 0) (b := b_dfl) (argsL := []) (rest := []) (N' := h0.size) (y := (⟨"com/example/quittance/quittance/Delimiters", "field", "()C"⟩ : MethodName)) (rm_dfl hw dl h0 (some (Ts, Lk)) P16) P15 (w74 hw) (w75 hw) (w77 hw) (w77 hw) (w76 hw) (w21 hw) (w78 hw) (by decide) id (fun _ => Nat.le_refl _) (Nat.le_refl _) (Nat.le_of_ble_eq_true rfl) (Nat.le_of_ble_eq_true rfl) rfl rfl (Nat.le_of_ble_eq_true rfl) (Nat.le_of_ble_eq_true rfl) rfl pd31 rfl rfl rfl (Nat.le_of_ble_eq_true rfl) d14_6 rfl fun v1 h2 J3 hs4 hQ5 => ?_
  obtain ⟨rfl, rfl, rfl⟩ := hQ5
  show WkM _ _ h0 0 0 (some (Ts, Lk)) 9 #[.val (.ref a), .val (.ref t), .val (.int (Int32.ofNat s)), .val (.int (Int32.ofNat e)), .val (.ref dl), .unset, .unset, .unset, .unset, .unset, .unset, .unset, .unset] [(.int (124 : Int32))]
  refine WkM.istore (pc' := 11) #[.val (.ref a), .val (.ref t), .val (.int (Int32.ofNat s)), .val (.int (Int32.ofNat e)), .val (.ref dl), .val (.int (124 : Int32)), .unset, .unset, .unset, .unset, .unset, .unset, .unset] d14_9 rfl rfl ?_
  refine WkM.aloadN (pc' := 12) d14_11 rfl rfl rfl ?_
  refine WkM.ldcLit (a0 := a0) (pc' := 14) (k' := 2) (n' := 16) (cap := 12) (vs := own_msh.map own_by) (z := (Int32.ofNat own_msh.length)) (w79 hw) (own_wS hw) (Nat.le_refl _) hT G_h24 G_cw ⟨by decide, by decide⟩ (by decide) rfl d14_12 rfl (by decide) (by decide) rfl rfl (Nat.le_of_ble_eq_true rfl) (Nat.le_of_ble_eq_true rfl) fun al6 bl7 ql8 h9 E10 X11 C12 V13 A14 p15 => ?_
  show Wk _ h9 2 16 (some (("MSH" :: Ts), [("com/example/quittance/quittance/Segment", 24, al6)])) 14 #[.val (.ref a), .val (.ref t), .val (.int (Int32.ofNat s)), .val (.int (Int32.ofNat e)), .val (.ref dl), .val (.int (124 : Int32)), .unset, .unset, .unset, .unset, .unset, .unset, .unset] [(.ref al6), (.ref t)]
  have f16 := (P4.ext E10)
  have ne17 : a ≠ al6 := Exa.ne f16 X11 (by decide)
  have ne18 : a ≠ bl7 := by obtain ⟨c0, A0, -⟩ := A14; exact ne_arr f16 (w46 hw) A0
  refine Wk.iloadN (pc' := 15) d14_14 rfl rfl ?_
  have f19 := (P11.ext E10)
  have f20 := (P12.ext E10)
  have f21 := (P13.ext E10)
  have f22 := (P14.ext E10)
  refine Wk.callV (a0 := a0) (pc' := 18) (k' := 2) (n' := 16) (W := 0) (b := b_swi) (argsL := [(.ref al6), (.int (Int32.ofNat s))]) (rest := []) (y := (⟨"java/lang/String", "startsWith", "(Ljava/lang/String;I)Z"⟩ : MethodName)) (rm_swi hw t v' q X al6 bl7 ql8 s cs h9 (some (("MSH" :: Ts), [("com/example/quittance/quittance/Segment", 24, al6)])) P0 G_cs f19 f20 f21 f22 X11 V13 C12 A14 hX6 (by omega) hL) f19 (w80 hw) (w81 hw) (w83 hw) (w83 hw) (w82 hw) (w23 hw) (w84 hw) (by decide) (Nat.le_refl _) id (Nat.le_of_ble_eq_true rfl) (Nat.le_of_ble_eq_true rfl) rfl rfl (Nat.le_of_ble_eq_true rfl) (Nat.le_of_ble_eq_true rfl) rfl pd32 rfl rfl rfl (Nat.le_of_ble_eq_true rfl) d14_15 rfl fun v23 h24 J25 hs26 hQ27 => ?_
  obtain ⟨rfl, rfl, rfl⟩ := hQ27
  show Wk _ h9 2 16 (some (("MSH" :: Ts), [("com/example/quittance/quittance/Segment", 24, al6)])) 18 #[.val (.ref a), .val (.ref t), .val (.int (Int32.ofNat s)), .val (.int (Int32.ofNat e)), .val (.ref dl), .val (.int (124 : Int32)), .unset, .unset, .unset, .unset, .unset, .unset, .unset] [(.int (own_bi (decide (s + 3 ≤ 6 ∧ own_m3 X s))))]
  have J124 : ∀ (t2 : Addr) (tv2 : Addr) (tq2 : ClassId) (T : List Int32) (f0 : Nat) (e0 : Nat) (hd : Bool) (z7 : Int32) (Ts2 : List String) (Lk2 : List (String × Nat × Addr)) (hX28 : Heap), (Exa Z hX28 a "com/example/quittance/quittance/Segment") → (Fld Z hX28 a "com/example/quittance/quittance/Segment" "text" "Ljava/lang/String;" (.ref t2)) → (Fld Z hX28 a "com/example/quittance/quittance/Segment" "starts" "[I" .null) → (Fld Z hX28 a "com/example/quittance/quittance/Segment" "ends" "[I" .null) → (Fld Z hX28 a "com/example/quittance/quittance/Segment" "id" "Ljava/lang/String;" .null) → (Exa Z hX28 t2 "java/lang/String") → (Fld Z hX28 t2 "java/lang/String" "value" "[B" (.ref tv2)) → (Fld Z hX28 t2 "java/lang/String" "coder" "B" (.int (0 : Int32))) → (Arv Z hX28 tv2 tq2 .byte (Int32.ofNat T.length) (T.map own_by) (.int (0 : Int32))) → (t2 ≠ a) → (tv2 ≠ a) → (T.length ≤ 6) → (own_L T) → (f0 ≤ e0) → (e0 ≤ T.length) → ((hd = true → own_sep T f0 e0 = f0 + 3 ∧ f0 + 4 ≤ e0)) → ((∀ m, own_G T f0 e0 hd m = own_ex X s e m)) → ("" ∉ Ts2) → (Keep h0 hX28 [a]) → Wk (l, Z, N, h0.size, b_seg, Q_seg Z N a t v' q X dl s e cs sf Ts Lk h0 (some (Ts, Lk))) hX28 6 64 (some (Ts2, Lk2)) 124 #[.val (.ref a), .val (.ref t), .val (.int (Int32.ofNat s)), .val (.int (Int32.ofNat e)), .val (.ref dl), .val (.int (124 : Int32)), .val (.int (own_bi hd)), .val (.int z7), .val (.int (Int32.ofNat f0)), .val (.int (Int32.ofNat e0)), .unset, .unset, .unset] [] := by
    intro t2 tv2 tq2 T f0 e0 hd z7 Ts2 Lk2 hX28 y29 y30 y31 y32 y33 y34 y35 y36 y37 y38 y39 hTl hTL hf0 he0 hhd hG hTs K40
    refine Wk.iconst (pc' := 125) (v := 1) d14_124 rfl rfl ?_
    refine Wk.istore (pc' := 127) #[.val (.ref a), .val (.ref t), .val (.int (Int32.ofNat s)), .val (.int (Int32.ofNat e)), .val (.ref dl), .val (.int (124 : Int32)), .val (.int (own_bi hd)), .val (.int z7), .val (.int (Int32.ofNat f0)), .val (.int (Int32.ofNat e0)), .val (.int (1 : Int32)), .unset, .unset] d14_125 rfl rfl ?_
    refine Wk.iload (pc' := 129) d14_127 rfl rfl ?_
    refine Wk.istore (pc' := 131) #[.val (.ref a), .val (.ref t), .val (.int (Int32.ofNat s)), .val (.int (Int32.ofNat e)), .val (.ref dl), .val (.int (124 : Int32)), .val (.int (own_bi hd)), .val (.int z7), .val (.int (Int32.ofNat f0)), .val (.int (Int32.ofNat e0)), .val (.int (1 : Int32)), .val (.int (Int32.ofNat f0)), .unset] d14_129 rfl rfl ?_
    suffices loop : ∀ (d : Nat) (i : Nat) (c : Nat), (i + d = e0) → (c + own_cn T d i = 1 + own_cn T (e0 - f0) f0) → Wk (l, Z, N, h0.size, b_seg, Q_seg Z N a t v' q X dl s e cs sf Ts Lk h0 (some (Ts, Lk))) hX28 6 64 (some (Ts2, Lk2)) 131 #[.val (.ref a), .val (.ref t), .val (.int (Int32.ofNat s)), .val (.int (Int32.ofNat e)), .val (.ref dl), .val (.int (124 : Int32)), .val (.int (own_bi hd)), .val (.int z7), .val (.int (Int32.ofNat f0)), .val (.int (Int32.ofNat e0)), .val (.int (Int32.ofNat c)), .val (.int (Int32.ofNat i)), .unset] [] by
      exact loop (e0 - f0) f0 1 (by omega) rfl
    intro d
    induction d with
    | zero =>
      intro i c hi hc
      refine Wk.iload (pc' := 133) d14_131 rfl rfl ?_
      refine Wk.iload (pc' := 135) d14_133 rfl rfl ?_
      refine Wk.icmp_geY (pc' := 168) d14_135 (by decide) (mt (own_lt (by omega) (by omega)).mp (by omega)) ?_
      have hc' : c = 1 + own_cn T (e0 - f0) f0 := by have q := hc; simp only [own_cn, Nat.add_zero] at q; exact q
      have hcl := own_cn_le T (e0 - f0) f0
      have J302 : ∀ (b1 : Addr) (q1 : ClassId) (b2 : Addr) (q2 : ClassId) (E : List Nat) (Q : List Nat) (z10 : Int32) (z11 : Int32) (z12 : Int32) (hX41 : Heap), (Exa Z hX41 a "com/example/quittance/quittance/Segment") → (Fld Z hX41 a "com/example/quittance/quittance/Segment" "text" "Ljava/lang/String;" (.ref t2)) → (Fld Z hX41 a "com/example/quittance/quittance/Segment" "starts" "[I" (.ref b1)) → (Fld Z hX41 a "com/example/quittance/quittance/Segment" "ends" "[I" (.ref b2)) → (Fld Z hX41 a "com/example/quittance/quittance/Segment" "id" "Ljava/lang/String;" .null) → (Exa Z hX41 t2 "java/lang/String") → (Fld Z hX41 t2 "java/lang/String" "value" "[B" (.ref tv2)) → (Fld Z hX41 t2 "java/lang/String" "coder" "B" (.int (0 : Int32))) → (Arv Z hX41 tv2 tq2 .byte (Int32.ofNat T.length) (T.map own_by) (.int (0 : Int32))) → (Arv Z hX41 b1 q1 .int (Int32.ofNat E.length) (Q.map own_iv) (.int (0 : Int32))) → (Arv Z hX41 b2 q2 .int (Int32.ofNat E.length) (E.map own_iv) (.int (0 : Int32))) → (b1 ≠ a) → (b2 ≠ a) → (Q.length = E.length) → (Q.getD 0 0 = f0) → (own_done T f0 e0 hd E) → (Keep h0 hX41 [a]) → Wk (l, Z, N, h0.size, b_seg, Q_seg Z N a t v' q X dl s e cs sf Ts Lk h0 (some (Ts, Lk))) hX41 8 82 (some (Ts2, Lk2)) 302 #[.val (.ref a), .val (.ref t), .val (.int (Int32.ofNat s)), .val (.int (Int32.ofNat e)), .val (.ref dl), .val (.int (124 : Int32)), .val (.int (own_bi hd)), .val (.int z7), .val (.int (Int32.ofNat f0)), .val (.int (Int32.ofNat e0)), .val (.int z10), .val (.int z11), .val (.int z12)] [] := by
        intro b1 q1 b2 q2 E Q z10 z11 z12 hX41 y42 y43 y44 y45 y46 y47 y48 y49 y50 y51 y52 y53 y54 hQl hQ0 hE K55
        have hG0 := own_G0b (T := T) hf0 hhd
        have hE00 := hE.2.2.1 0 hE.1
        refine Wk.aloadN (pc' := 303) d14_302 rfl rfl rfl ?_
        refine Wk.aloadN (pc' := 304) d14_303 rfl rfl rfl ?_
        refine Wk.getF (a0 := a0) (pc' := 307) (host := "") (Or.inl (w104 hw)) Via.refl y43 d14_304 rfl ?_
        refine Wk.aloadN (pc' := 308) d14_307 rfl rfl rfl ?_
        refine Wk.getF (a0 := a0) (pc' := 311) (host := "") (Or.inl (w107 hw)) Via.refl y44 d14_308 rfl ?_
        refine Wk.iconst (pc' := 312) (v := 0) d14_311 rfl rfl ?_
        refine Wk.iaload (pc' := 313) (v := (.int (Int32.ofNat (Q.getD 0 0)))) y51 (own_in (n := E.length) (i := 0) hE.1 (by have := hE.2.1; omega)) (own_getm own_iv Q 0 _ (i := 0) (by have := hE.1; omega) (by decide)) d14_312 rfl ?_
        rw [hQ0]
        refine Wk.aloadN (pc' := 314) d14_313 rfl rfl rfl ?_
        refine Wk.getF (a0 := a0) (pc' := 317) (host := "") (Or.inl (w109 hw)) Via.refl y45 d14_314 rfl ?_
        refine Wk.iconst (pc' := 318) (v := 0) d14_317 rfl rfl ?_
        refine Wk.iaload (pc' := 319) (v := (.int (Int32.ofNat (E.getD 0 0)))) y52 (own_in (n := E.length) (i := 0) hE.1 (by have := hE.2.1; omega)) (own_getm own_iv E 0 _ (i := 0) hE.1 (by decide)) d14_318 rfl ?_
        refine Wk.callV (a0 := a0) (pc' := 322) (k' := 10) (n' := 92) (W := 1) (b := b_sub) (argsL := [(.int (Int32.ofNat f0)), (.int (Int32.ofNat (E.getD 0 0)))]) (rest := [(.ref a)]) (y := (⟨"java/lang/String", "substring", "(II)Ljava/lang/String;"⟩ : MethodName)) (rm_sub hw t2 tv2 tq2 T f0 (E.getD 0 0) cs sf Ts2 Lk2 hX41  P0 G_cs P2 G_sf y47 y48 y49 y50 (by rw [hE00]; exact hG0.1) (by rw [hE00]; omega) hTl hTs G_h151 G_cw) y47 (w111 hw) (w112 hw) (w114 hw) (w114 hw) (w113 hw) (w23 hw) (w115 hw) (by decide) (Nat.le_refl _) id (Nat.le_of_ble_eq_true rfl) (Nat.le_of_ble_eq_true rfl) rfl rfl (Nat.le_of_ble_eq_true rfl) (Nat.le_of_ble_eq_true rfl) rfl pd33 rfl rfl rfl (Nat.le_of_ble_eq_true rfl) d14_319 rfl fun v56 h57 J58 hs59 hQ60 => ?_
        obtain ⟨r61, -, rfl, E62⟩ := hQ60
        show Wk _ h57 10 92 J58 322 #[.val (.ref a), .val (.ref t), .val (.int (Int32.ofNat s)), .val (.int (Int32.ofNat e)), .val (.ref dl), .val (.int (124 : Int32)), .val (.int (own_bi hd)), .val (.int z7), .val (.int (Int32.ofNat f0)), .val (.int (Int32.ofNat e0)), .val (.int z10), .val (.int z11), .val (.int z12)] [(.ref r61), (.ref a)]
        have f63 := (y42.ext E62)
        have f64 := (y46.ext E62)
        refine Wk.putF (a0 := a0) (pc' := 325) (host := "") (Or.inl (w134 hw)) Via.refl P10 f64 f63 (Or.inr ⟨(w135 hw), rfl, rfl⟩) (w46 hw) (ty := (.object "java/lang/String")) (by decide) rfl rfl d14_322 rfl fun h65 W66 => ?_
        have F67 := f64.same W66
        have f68 := ((y45.ext E62).other W66 (Or.inr (slot_ne (Or.inr (w110 hw)) (Or.inr (w135 hw)) (by decide) (t := (.array .int)) (t' := (.object "java/lang/String")) (by decide) (by decide))))
        have f69 := ((y52.ext E62).other W66 y54)
        exact Wk.return_ rfl d14_325 (Nat.le_of_ble_eq_true rfl) (Nat.le_of_ble_eq_true rfl) ⟨b2, q2, E, trivial, rfl, ((((Keep.refl h0 [a]).trans K55 (allS (Or.inl (by simp)) all0)).ext E62).wr W66 (Or.inl (by simp))), f68, f69, ⟨hE.1, hE.2.1⟩, (own_fin hG hE)⟩
      cases hd with
      | false =>
        show Wk _ hX28 6 64 (some (Ts2, Lk2)) 168 #[.val (.ref a), .val (.ref t), .val (.int (Int32.ofNat s)), .val (.int (Int32.ofNat e)), .val (.ref dl), .val (.int (124 : Int32)), .val (.int (0 : Int32)), .val (.int z7), .val (.int (Int32.ofNat f0)), .val (.int (Int32.ofNat e0)), .val (.int (Int32.ofNat c)), .val (.int (Int32.ofNat i)), .unset] []
        refine Wk.aloadN (pc' := 169) d14_168 rfl rfl rfl ?_
        refine Wk.iload (pc' := 171) d14_169 rfl rfl ?_
        refine Wk.if_eqY (pc' := 181) d14_171 (by decide) rfl ?_
        refine Wk.iload (pc' := 183) d14_181 rfl rfl ?_
        refine Wk.newP (a0 := a0) (aty := .int) (pc' := 185) (k' := 7) (n' := 73) (cap := 9) (w106 hw) d14_183 rfl (own_nn (by omega)) (by rw [own_clamp (by omega)]; omega) (by decide) rfl rfl (Nat.le_of_ble_eq_true rfl) (Nat.le_of_ble_eq_true rfl) fun a70 h71 q72 hg73 hN74 E75 A76 => ?_
        have ne77 : a ≠ a70 := Nat.ne_of_lt (Nat.lt_of_lt_of_le y29.lt hg73)
        have f78 := (P11.keep K40)
        have ne79 : t ≠ a70 := Nat.ne_of_lt (Nat.lt_of_lt_of_le f78.lt hg73)
        have f80 := (P14.keep K40 (ninS P18 nin0))
        have ne81 : v' ≠ a70 := Nat.ne_of_lt (Nat.lt_of_lt_of_le f80.lt hg73)
        have f82 := (P15.keep K40)
        have ne83 : dl ≠ a70 := Nat.ne_of_lt (Nat.lt_of_lt_of_le f82.lt hg73)
        have ne84 : t2 ≠ a70 := Nat.ne_of_lt (Nat.lt_of_lt_of_le y34.lt hg73)
        have ne85 : tv2 ≠ a70 := Nat.ne_of_lt (Nat.lt_of_lt_of_le y37.lt hg73)
        have A86 : Arv Z h71 a70 q72 .int (Int32.ofNat c) ((List.replicate c 0).map own_iv) (.int (0 : Int32)) := by rw [← own_iv0]; exact A76.pad (pad_rep [] _ c)
        have f87 := (y29.ext E75)
        have f88 := (y31.ext E75)
        refine Wk.putF (a0 := a0) (pc' := 188) (host := "") (Or.inl (w107 hw)) Via.refl P10 f88 f87 (Or.inr ⟨(w108 hw), rfl, rfl⟩) (w46 hw) (ty := (.array .int)) (by decide) rfl rfl d14_185 rfl fun h89 W90 => ?_
        have F91 := f88.same W90
        refine Wk.aloadN (pc' := 189) d14_188 rfl rfl rfl ?_
        refine Wk.aloadN (pc' := 190) d14_189 rfl rfl rfl ?_
        refine Wk.getF (a0 := a0) (pc' := 193) (host := "") (Or.inl (w107 hw)) Via.refl F91 d14_190 rfl ?_
        have f92 := (A86.other W90 (Ne.symm ne77))
        refine Wk.arraylength (pc' := 194) f92 d14_193 rfl ?_
        refine Wk.newP (a0 := a0) (aty := .int) (pc' := 196) (k' := 8) (n' := 82) (cap := 9) (w106 hw) d14_194 rfl (own_nn (by omega)) (by rw [own_clamp (by omega)]; omega) (by decide) rfl rfl (Nat.le_of_ble_eq_true rfl) (Nat.le_of_ble_eq_true rfl) fun a93 h94 q95 hg96 hN97 E98 A99 => ?_
        have f100 := (f87.wr W90)
        have ne101 : a ≠ a93 := Nat.ne_of_lt (Nat.lt_of_lt_of_le f100.lt hg96)
        have f102 := ((f78.ext E75).wr W90)
        have ne103 : t ≠ a93 := Nat.ne_of_lt (Nat.lt_of_lt_of_le f102.lt hg96)
        have f104 := ((f80.ext E75).other W90 P18)
        have ne105 : v' ≠ a93 := Nat.ne_of_lt (Nat.lt_of_lt_of_le f104.lt hg96)
        have f106 := ((f82.ext E75).wr W90)
        have ne107 : dl ≠ a93 := Nat.ne_of_lt (Nat.lt_of_lt_of_le f106.lt hg96)
        have f108 := ((y34.ext E75).wr W90)
        have ne109 : t2 ≠ a93 := Nat.ne_of_lt (Nat.lt_of_lt_of_le f108.lt hg96)
        have f110 := ((y37.ext E75).other W90 y39)
        have ne111 : tv2 ≠ a93 := Nat.ne_of_lt (Nat.lt_of_lt_of_le f110.lt hg96)
        have ne112 : a70 ≠ a93 := Nat.ne_of_lt (Nat.lt_of_lt_of_le f92.lt hg96)
        have A113 : Arv Z h94 a93 q95 .int (Int32.ofNat c) ((List.replicate c 0).map own_iv) (.int (0 : Int32)) := by rw [← own_iv0]; exact A99.pad (pad_rep [] _ c)
        have f114 := (f100.ext E98)
        have f115 := (((y32.ext E75).other W90 (Or.inr (slot_ne (Or.inr (w110 hw)) (Or.inr (w108 hw)) (by decide) (t := (.array .int)) (t' := (.array .int)) (by decide) (by decide)))).ext E98)
        refine Wk.putF (a0 := a0) (pc' := 199) (host := "") (Or.inl (w109 hw)) Via.refl P10 f115 f114 (Or.inr ⟨(w110 hw), rfl, rfl⟩) (w46 hw) (ty := (.array .int)) (by decide) rfl rfl d14_196 rfl fun h116 W117 => ?_
        have F118 := f115.same W117
        refine Wk.iconst (pc' := 200) (v := 0) d14_199 rfl rfl ?_
        refine Wk.istore (pc' := 202) #[.val (.ref a), .val (.ref t), .val (.int (Int32.ofNat s)), .val (.int (Int32.ofNat e)), .val (.ref dl), .val (.int (124 : Int32)), .val (.int (0 : Int32)), .val (.int z7), .val (.int (Int32.ofNat f0)), .val (.int (Int32.ofNat e0)), .val (.int (Int32.ofNat c)), .val (.int (0 : Int32)), .unset] d14_200 rfl rfl ?_
        refine Wk.iload (pc' := 204) d14_202 rfl rfl ?_
        refine Wk.istore (pc' := 206) #[.val (.ref a), .val (.ref t), .val (.int (Int32.ofNat s)), .val (.int (Int32.ofNat e)), .val (.ref dl), .val (.int (124 : Int32)), .val (.int (0 : Int32)), .val (.int z7), .val (.int (Int32.ofNat f0)), .val (.int (Int32.ofNat e0)), .val (.int (Int32.ofNat c)), .val (.int (0 : Int32)), .val (.int (Int32.ofNat f0))] d14_204 rfl rfl ?_
        have f119 := ((F91.ext E98).other W117 (Or.inr (slot_ne (Or.inr (w108 hw)) (Or.inr (w110 hw)) (by decide) (t := (.array .int)) (t' := (.array .int)) (by decide) (by decide))))
        have f120 := ((f92.ext E98).other W117 (Ne.symm ne77))
        have f121 := (A113.other W117 (Ne.symm ne101))
        by_cases hz : own_cn T (e0 - f0) f0 = 0
        · skip
          have hsp := own_cnE hf0 hz
          refine Wk.aloadN (pc' := 207) d14_206 rfl rfl rfl ?_
          refine Wk.getF (a0 := a0) (pc' := 210) (host := "") (Or.inl (w107 hw)) Via.refl f119 d14_207 rfl ?_
          refine Wk.iload (pc' := 212) d14_210 rfl rfl ?_
          refine Wk.iload (pc' := 214) d14_212 rfl rfl ?_
          refine Wk.iastore (pc' := 215) f120 hN74 (own_in (n := c) (i := 0) (by omega) (by omega)) 0 (own_clamp (i := 0) (by omega)) (by rw [List.length_map, List.length_replicate]; omega) d14_214 rfl fun h122 W123 A124 => ?_
          have A125 : Arv Z h122 a70 q72 .int (Int32.ofNat c) (((List.replicate c 0).set 0 f0).map own_iv) (.int (0 : Int32)) := by rw [List.map_set]; exact A124
          refine Wk.aloadN (pc' := 216) d14_215 rfl rfl rfl ?_
          have f126 := (F118.other W123 (Or.inl ne77))
          refine Wk.getF (a0 := a0) (pc' := 219) (host := "") (Or.inl (w109 hw)) Via.refl f126 d14_216 rfl ?_
          refine Wk.iload (pc' := 221) d14_219 rfl rfl ?_
          refine Wk.aloadN (pc' := 222) d14_221 rfl rfl rfl ?_
          have f127 := (((((y30.ext E75).other W90 (Or.inr (slot_ne (Or.inr (w105 hw)) (Or.inr (w108 hw)) (by decide) (t := (.object "java/lang/String")) (t' := (.array .int)) (by decide) (by decide)))).ext E98).other W117 (Or.inr (slot_ne (Or.inr (w105 hw)) (Or.inr (w110 hw)) (by decide) (t := (.object "java/lang/String")) (t' := (.array .int)) (by decide) (by decide)))).other W123 (Or.inl ne77))
          refine Wk.getF (a0 := a0) (pc' := 225) (host := "") (Or.inl (w104 hw)) Via.refl f127 d14_222 rfl ?_
          refine Wk.iload (pc' := 227) d14_225 rfl rfl ?_
          refine Wk.iload (pc' := 229) d14_227 rfl rfl ?_
          refine Wk.iload (pc' := 231) d14_229 rfl rfl ?_
          have f128 := (((f108.ext E98).wr W117).wr W123)
          have f129 := (((((y35.ext E75).other W90 (Or.inl y38)).ext E98).other W117 (Or.inl y38)).other W123 (Or.inl ne84))
          have f130 := (((((y36.ext E75).other W90 (Or.inl y38)).ext E98).other W117 (Or.inl y38)).other W123 (Or.inl ne84))
          have f131 := (((f110.ext E98).other W117 y39).other W123 ne85)
          refine Wk.callS (a0 := a0) (pc' := 234) (k' := 8) (n' := 82) (W := 2) (b := b_pae) (argsL := [(.ref t2), (.int (124 : Int32)), (.int (Int32.ofNat f0)), (.int (Int32.ofNat e0))]) (rest := [(.int (0 : Int32)), (.ref a93)]) (rm_pae hw t2 tv2 tq2 T f0 e0 cs sf h122 (some (Ts2, Lk2)) P0 G_cs P2 G_sf f128 f129 f130 f131 hf0 he0 hTl hTL) (w99 hw) (w100 hw) (w21 hw) (w101 hw) (by decide) (Nat.le_refl _) id (Nat.le_of_ble_eq_true rfl) (Nat.le_of_ble_eq_true rfl) rfl rfl (Nat.le_of_ble_eq_true rfl) (Nat.le_of_ble_eq_true rfl) rfl pd34 rfl rfl rfl (Nat.le_of_ble_eq_true rfl) d14_231 rfl fun v132 h133 J134 hs135 hQ136 => ?_
          obtain ⟨rfl, rfl, rfl⟩ := hQ136
          show Wk _ h122 8 82 (some (Ts2, Lk2)) 234 #[.val (.ref a), .val (.ref t), .val (.int (Int32.ofNat s)), .val (.int (Int32.ofNat e)), .val (.ref dl), .val (.int (124 : Int32)), .val (.int (0 : Int32)), .val (.int z7), .val (.int (Int32.ofNat f0)), .val (.int (Int32.ofNat e0)), .val (.int (Int32.ofNat c)), .val (.int (0 : Int32)), .val (.int (Int32.ofNat f0))] [(.int (Int32.ofNat (own_sep T f0 e0))), (.int (0 : Int32)), (.ref a93)]
          have f137 := (f121.other W123 (Ne.symm ne112))
          refine Wk.iastore (pc' := 235) f137 hN97 (own_in (n := c) (i := 0) (by omega) (by omega)) 0 (own_clamp (i := 0) (by omega)) (by rw [List.length_map, List.length_replicate]; omega) d14_234 rfl fun h138 W139 A140 => ?_
          have A141 : Arv Z h138 a93 q95 .int (Int32.ofNat c) (((List.replicate c 0).set 0 (own_sep T f0 e0)).map own_iv) (.int (0 : Int32)) := by rw [List.map_set]; exact A140
          refine Wk.aloadN (pc' := 236) d14_235 rfl rfl rfl ?_
          have f142 := (f126.other W139 (Or.inl ne101))
          refine Wk.getF (a0 := a0) (pc' := 239) (host := "") (Or.inl (w109 hw)) Via.refl f142 d14_236 rfl ?_
          refine Wk.iload (pc' := 241) d14_239 rfl rfl ?_
          refine Wk.iaload (pc' := 242) (v := (.int (Int32.ofNat (own_sep T f0 e0)))) A141 (own_in (n := c) (i := 0) (by omega) (by omega)) ((own_getm own_iv ((List.replicate c 0).set 0 (own_sep T f0 e0)) 0 _ (i := 0) (by rw [List.length_set, List.length_replicate]; omega) (by omega)).trans (congrArg own_iv (own_geti' (by rw [List.length_replicate]; omega)))) d14_241 rfl ?_
          refine Wk.iload (pc' := 244) d14_242 rfl rfl ?_
          refine Wk.icmp_neN (pc' := 247) d14_244 rfl (by rw [hsp]) ?_
          refine Wk.goto (pc' := 302) d14_247 (by decide) ?_
          have f143 := (((f114.wr W117).wr W123).wr W139)
          have f144 := (f127.other W139 (Or.inl ne101))
          have f145 := ((f119.other W123 (Or.inl ne77)).other W139 (Or.inl ne101))
          have f146 := ((((((y33.ext E75).other W90 (Or.inr (slot_ne (Or.inr (w135 hw)) (Or.inr (w108 hw)) (by decide) (t := (.object "java/lang/String")) (t' := (.array .int)) (by decide) (by decide)))).ext E98).other W117 (Or.inr (slot_ne (Or.inr (w135 hw)) (Or.inr (w110 hw)) (by decide) (t := (.object "java/lang/String")) (t' := (.array .int)) (by decide) (by decide)))).other W123 (Or.inl ne77)).other W139 (Or.inl ne101))
          have f147 := (f128.wr W139)
          have f148 := (f129.other W139 (Or.inl ne109))
          have f149 := (f130.other W139 (Or.inl ne109))
          have f150 := (f131.other W139 ne111)
          have hLE : ((List.replicate c 0).set 0 (own_sep T f0 e0)).length = c := by rw [List.length_set, List.length_replicate]
          have hLQ : ((List.replicate c 0).set 0 f0).length = c := by rw [List.length_set, List.length_replicate]
          have f151 := (A125.other W139 ne112)
          have A152 : Arv Z h138 a70 q72 .int (Int32.ofNat ((List.replicate c 0).set 0 (own_sep T f0 e0)).length) (((List.replicate c 0).set 0 f0).map own_iv) (.int (0 : Int32)) := by rw [hLE]; exact f151
          have A153 : Arv Z h138 a93 q95 .int (Int32.ofNat ((List.replicate c 0).set 0 (own_sep T f0 e0)).length) (((List.replicate c 0).set 0 (own_sep T f0 e0)).map own_iv) (.int (0 : Int32)) := by rw [hLE]; exact A141
          exact J302 a70 q72 a93 q95 ((List.replicate c 0).set 0 (own_sep T f0 e0)) ((List.replicate c 0).set 0 f0) _ _ _ h138 f143 f144 f145 f142 f146 f147 f148 f149 f150 A152 A153 (Ne.symm ne77) (Ne.symm ne101) (by rw [hLE, hLQ]) (own_geti' (by rw [List.length_replicate]; omega)) ⟨by omega, by omega, fun j q => own_Eset (G := own_G T f0 e0 false) (fun j q => absurd q (Nat.not_lt_zero j)) (by rw [List.length_replicate]; omega) rfl j (by omega), by rw [hLE, show c - 1 = 0 by omega]; exact hsp, fun q => nomatch q⟩ ((((((((Keep.refl h0 [a]).trans K40 (allS (Or.inl (by simp)) all0)).ext E75).wr W90 (Or.inl (by simp))).ext E98).wr W117 (Or.inl (by simp))).wr W123 (Or.inr (Nat.le_trans K40.1 hg73))).wr W139 (Or.inr (Nat.le_trans (Nat.le_trans (Nat.le_trans K40.1 E75.1) (Keep.of_wr W90).1) hg96)))
        · skip
          obtain ⟨n', hn'⟩ : ∃ n', own_cn T (e0 - f0) f0 = n' + 1 := ⟨own_cn T (e0 - f0) f0 - 1, by omega⟩
          have hS := own_cnS hf0 hn'
          refine Wk.aloadN (pc' := 207) d14_206 rfl rfl rfl ?_
          refine Wk.getF (a0 := a0) (pc' := 210) (host := "") (Or.inl (w107 hw)) Via.refl f119 d14_207 rfl ?_
          refine Wk.iload (pc' := 212) d14_210 rfl rfl ?_
          refine Wk.iload (pc' := 214) d14_212 rfl rfl ?_
          refine Wk.iastore (pc' := 215) f120 hN74 (own_in (n := c) (i := 0) (by omega) (by omega)) 0 (own_clamp (i := 0) (by omega)) (by rw [List.length_map, List.length_replicate]; omega) d14_214 rfl fun h154 W155 A156 => ?_
          have A157 : Arv Z h154 a70 q72 .int (Int32.ofNat c) (((List.replicate c 0).set 0 f0).map own_iv) (.int (0 : Int32)) := by rw [List.map_set]; exact A156
          refine Wk.aloadN (pc' := 216) d14_215 rfl rfl rfl ?_
          have f158 := (F118.other W155 (Or.inl ne77))
          refine Wk.getF (a0 := a0) (pc' := 219) (host := "") (Or.inl (w109 hw)) Via.refl f158 d14_216 rfl ?_
          refine Wk.iload (pc' := 221) d14_219 rfl rfl ?_
          refine Wk.aloadN (pc' := 222) d14_221 rfl rfl rfl ?_
          have f159 := (((((y30.ext E75).other W90 (Or.inr (slot_ne (Or.inr (w105 hw)) (Or.inr (w108 hw)) (by decide) (t := (.object "java/lang/String")) (t' := (.array .int)) (by decide) (by decide)))).ext E98).other W117 (Or.inr (slot_ne (Or.inr (w105 hw)) (Or.inr (w110 hw)) (by decide) (t := (.object "java/lang/String")) (t' := (.array .int)) (by decide) (by decide)))).other W155 (Or.inl ne77))
          refine Wk.getF (a0 := a0) (pc' := 225) (host := "") (Or.inl (w104 hw)) Via.refl f159 d14_222 rfl ?_
          refine Wk.iload (pc' := 227) d14_225 rfl rfl ?_
          refine Wk.iload (pc' := 229) d14_227 rfl rfl ?_
          refine Wk.iload (pc' := 231) d14_229 rfl rfl ?_
          have f160 := (((f108.ext E98).wr W117).wr W155)
          have f161 := (((((y35.ext E75).other W90 (Or.inl y38)).ext E98).other W117 (Or.inl y38)).other W155 (Or.inl ne84))
          have f162 := (((((y36.ext E75).other W90 (Or.inl y38)).ext E98).other W117 (Or.inl y38)).other W155 (Or.inl ne84))
          have f163 := (((f110.ext E98).other W117 y39).other W155 ne85)
          refine Wk.callS (a0 := a0) (pc' := 234) (k' := 8) (n' := 82) (W := 2) (b := b_pae) (argsL := [(.ref t2), (.int (124 : Int32)), (.int (Int32.ofNat f0)), (.int (Int32.ofNat e0))]) (rest := [(.int (0 : Int32)), (.ref a93)]) (rm_pae hw t2 tv2 tq2 T f0 e0 cs sf h154 (some (Ts2, Lk2)) P0 G_cs P2 G_sf f160 f161 f162 f163 hf0 he0 hTl hTL) (w99 hw) (w100 hw) (w21 hw) (w101 hw) (by decide) (Nat.le_refl _) id (Nat.le_of_ble_eq_true rfl) (Nat.le_of_ble_eq_true rfl) rfl rfl (Nat.le_of_ble_eq_true rfl) (Nat.le_of_ble_eq_true rfl) rfl pd34 rfl rfl rfl (Nat.le_of_ble_eq_true rfl) d14_231 rfl fun v164 h165 J166 hs167 hQ168 => ?_
          obtain ⟨rfl, rfl, rfl⟩ := hQ168
          show Wk _ h154 8 82 (some (Ts2, Lk2)) 234 #[.val (.ref a), .val (.ref t), .val (.int (Int32.ofNat s)), .val (.int (Int32.ofNat e)), .val (.ref dl), .val (.int (124 : Int32)), .val (.int (0 : Int32)), .val (.int z7), .val (.int (Int32.ofNat f0)), .val (.int (Int32.ofNat e0)), .val (.int (Int32.ofNat c)), .val (.int (0 : Int32)), .val (.int (Int32.ofNat f0))] [(.int (Int32.ofNat (own_sep T f0 e0))), (.int (0 : Int32)), (.ref a93)]
          have f169 := (f121.other W155 (Ne.symm ne112))
          refine Wk.iastore (pc' := 235) f169 hN97 (own_in (n := c) (i := 0) (by omega) (by omega)) 0 (own_clamp (i := 0) (by omega)) (by rw [List.length_map, List.length_replicate]; omega) d14_234 rfl fun h170 W171 A172 => ?_
          have A173 : Arv Z h170 a93 q95 .int (Int32.ofNat c) (((List.replicate c 0).set 0 (own_sep T f0 e0)).map own_iv) (.int (0 : Int32)) := by rw [List.map_set]; exact A172
          refine Wk.aloadN (pc' := 236) d14_235 rfl rfl rfl ?_
          have f174 := (f158.other W171 (Or.inl ne101))
          refine Wk.getF (a0 := a0) (pc' := 239) (host := "") (Or.inl (w109 hw)) Via.refl f174 d14_236 rfl ?_
          refine Wk.iload (pc' := 241) d14_239 rfl rfl ?_
          refine Wk.iaload (pc' := 242) (v := (.int (Int32.ofNat (own_sep T f0 e0)))) A173 (own_in (n := c) (i := 0) (by omega) (by omega)) ((own_getm own_iv ((List.replicate c 0).set 0 (own_sep T f0 e0)) 0 _ (i := 0) (by rw [List.length_set, List.length_replicate]; omega) (by omega)).trans (congrArg own_iv (own_geti' (by rw [List.length_replicate]; omega)))) d14_241 rfl ?_
          refine Wk.iload (pc' := 244) d14_242 rfl rfl ?_
          refine Wk.icmp_neY (pc' := 250) d14_244 (by decide) (mt (own_eq (by omega) (by omega)).mp (by omega)) ?_
          refine Wk.aloadN (pc' := 251) d14_250 rfl rfl rfl ?_
          refine Wk.getF (a0 := a0) (pc' := 254) (host := "") (Or.inl (w109 hw)) Via.refl f174 d14_251 rfl ?_
          refine Wk.iload (pc' := 256) d14_254 rfl rfl ?_
          refine Wk.iaload (pc' := 257) (v := (.int (Int32.ofNat (own_sep T f0 e0)))) A173 (own_in (n := c) (i := 0) (by omega) (by omega)) ((own_getm own_iv ((List.replicate c 0).set 0 (own_sep T f0 e0)) 0 _ (i := 0) (by rw [List.length_set, List.length_replicate]; omega) (by omega)).trans (congrArg own_iv (own_geti' (by rw [List.length_replicate]; omega)))) d14_256 rfl ?_
          refine Wk.iconst (pc' := 258) (v := 1) d14_257 rfl rfl ?_
          refine Wk.iadd (pc' := 259) d14_258 rfl ?_
          rw [own_succ (by omega)]
          refine Wk.istore (pc' := 261) #[.val (.ref a), .val (.ref t), .val (.int (Int32.ofNat s)), .val (.int (Int32.ofNat e)), .val (.ref dl), .val (.int (124 : Int32)), .val (.int (0 : Int32)), .val (.int z7), .val (.int (Int32.ofNat f0)), .val (.int (Int32.ofNat e0)), .val (.int (Int32.ofNat c)), .val (.int (0 : Int32)), .val (.int (Int32.ofNat ((own_sep T f0 e0) + 1)))] d14_259 rfl rfl ?_
          refine Wk.iload (pc' := 263) d14_261 rfl rfl ?_
          refine Wk.if_eqY (pc' := 296) d14_263 (by decide) rfl ?_
          refine Wk.iinc (pc' := 299) (v := 1) (Ls' := #[.val (.ref a), .val (.ref t), .val (.int (Int32.ofNat s)), .val (.int (Int32.ofNat e)), .val (.ref dl), .val (.int (124 : Int32)), .val (.int (0 : Int32)), .val (.int z7), .val (.int (Int32.ofNat f0)), .val (.int (Int32.ofNat e0)), .val (.int (Int32.ofNat c)), .val (.int ((0 : Int32) + (1 : Int32))), .val (.int (Int32.ofNat ((own_sep T f0 e0) + 1)))]) d14_296 rfl rfl rfl rfl ?_
          rw [show ((0 : Int32) + (1 : Int32)) = (1 : Int32) from by decide]
          refine Wk.goto (pc' := 206) d14_299 (by decide) ?_
          have fr175 : h0.size ≤ a70 := (Nat.le_trans K40.1 hg73)
          have fr176 : h0.size ≤ a93 := (Nat.le_trans (Nat.le_trans (Nat.le_trans K40.1 E75.1) (Keep.of_wr W90).1) hg96)
          have loop : ∀ (d : Nat) (i : Nat) (f : Nat) (E : List Nat) (Q : List Nat) (hX177 : Heap), (Exa Z hX177 a "com/example/quittance/quittance/Segment") → (Fld Z hX177 a "com/example/quittance/quittance/Segment" "text" "Ljava/lang/String;" (.ref t2)) → (Fld Z hX177 a "com/example/quittance/quittance/Segment" "starts" "[I" (.ref a70)) → (Fld Z hX177 a "com/example/quittance/quittance/Segment" "ends" "[I" (.ref a93)) → (Fld Z hX177 a "com/example/quittance/quittance/Segment" "id" "Ljava/lang/String;" .null) → (Exa Z hX177 t2 "java/lang/String") → (Fld Z hX177 t2 "java/lang/String" "value" "[B" (.ref tv2)) → (Fld Z hX177 t2 "java/lang/String" "coder" "B" (.int (0 : Int32))) → (Arv Z hX177 tv2 tq2 .byte (Int32.ofNat T.length) (T.map own_by) (.int (0 : Int32))) → (Arv Z hX177 a70 q72 .int (Int32.ofNat c) (Q.map own_iv) (.int (0 : Int32))) → (Arv Z hX177 a93 q95 .int (Int32.ofNat c) (E.map own_iv) (.int (0 : Int32))) → (E.length = c) → (Q.length = c) → (Q.getD 0 0 = f0) → ((∀ j, j < i → E.getD j 0 = own_G T f0 e0 false j)) → (own_sep T f e0 = own_G T f0 e0 false i) → (f ≤ e0) → (1 ≤ i) → (own_cn T (e0 - f) f = d) → (i + d + 1 = c) → (Keep h0 hX177 [a]) → Wk (l, Z, N, h0.size, b_seg, Q_seg Z N a t v' q X dl s e cs sf Ts Lk h0 (some (Ts, Lk))) hX177 8 82 (some (Ts2, Lk2)) 206 #[.val (.ref a), .val (.ref t), .val (.int (Int32.ofNat s)), .val (.int (Int32.ofNat e)), .val (.ref dl), .val (.int (124 : Int32)), .val (.int (0 : Int32)), .val (.int z7), .val (.int (Int32.ofNat f0)), .val (.int (Int32.ofNat e0)), .val (.int (Int32.ofNat c)), .val (.int (Int32.ofNat i)), .val (.int (Int32.ofNat f))] [] := by
            intro d
            induction d with
            | zero =>
              intro i f E Q hX177 y178 y179 y180 y181 y182 y183 y184 y185 y186 y187 y188 hEl hQl hQ0 hP hfs hfe hi0 hcn hil K189
              have hsp := own_cnE hfe hcn
              refine Wk.aloadN (pc' := 207) d14_206 rfl rfl rfl ?_
              refine Wk.getF (a0 := a0) (pc' := 210) (host := "") (Or.inl (w107 hw)) Via.refl y180 d14_207 rfl ?_
              refine Wk.iload (pc' := 212) d14_210 rfl rfl ?_
              refine Wk.iload (pc' := 214) d14_212 rfl rfl ?_
              refine Wk.iastore (pc' := 215) y187 hN74 (own_in (n := c) (i := i) (by omega) (by omega)) i (own_clamp (i := i) (by omega)) (by rw [List.length_map, hQl]; omega) d14_214 rfl fun h190 W191 A192 => ?_
              have A193 : Arv Z h190 a70 q72 .int (Int32.ofNat c) ((Q.set i f).map own_iv) (.int (0 : Int32)) := by rw [List.map_set]; exact A192
              refine Wk.aloadN (pc' := 216) d14_215 rfl rfl rfl ?_
              have f194 := (y181.other W191 (Or.inl ne77))
              refine Wk.getF (a0 := a0) (pc' := 219) (host := "") (Or.inl (w109 hw)) Via.refl f194 d14_216 rfl ?_
              refine Wk.iload (pc' := 221) d14_219 rfl rfl ?_
              refine Wk.aloadN (pc' := 222) d14_221 rfl rfl rfl ?_
              have f195 := (y179.other W191 (Or.inl ne77))
              refine Wk.getF (a0 := a0) (pc' := 225) (host := "") (Or.inl (w104 hw)) Via.refl f195 d14_222 rfl ?_
              refine Wk.iload (pc' := 227) d14_225 rfl rfl ?_
              refine Wk.iload (pc' := 229) d14_227 rfl rfl ?_
              refine Wk.iload (pc' := 231) d14_229 rfl rfl ?_
              have f196 := (y183.wr W191)
              have f197 := (y184.other W191 (Or.inl ne84))
              have f198 := (y185.other W191 (Or.inl ne84))
              have f199 := (y186.other W191 ne85)
              refine Wk.callS (a0 := a0) (pc' := 234) (k' := 8) (n' := 82) (W := 2) (b := b_pae) (argsL := [(.ref t2), (.int (124 : Int32)), (.int (Int32.ofNat f)), (.int (Int32.ofNat e0))]) (rest := [(.int (Int32.ofNat i)), (.ref a93)]) (rm_pae hw t2 tv2 tq2 T f e0 cs sf h190 (some (Ts2, Lk2)) P0 G_cs P2 G_sf f196 f197 f198 f199 hfe he0 hTl hTL) (w99 hw) (w100 hw) (w21 hw) (w101 hw) (by decide) (Nat.le_refl _) id (Nat.le_of_ble_eq_true rfl) (Nat.le_of_ble_eq_true rfl) rfl rfl (Nat.le_of_ble_eq_true rfl) (Nat.le_of_ble_eq_true rfl) rfl pd34 rfl rfl rfl (Nat.le_of_ble_eq_true rfl) d14_231 rfl fun v200 h201 J202 hs203 hQ204 => ?_
              obtain ⟨rfl, rfl, rfl⟩ := hQ204
              show Wk _ h190 8 82 (some (Ts2, Lk2)) 234 #[.val (.ref a), .val (.ref t), .val (.int (Int32.ofNat s)), .val (.int (Int32.ofNat e)), .val (.ref dl), .val (.int (124 : Int32)), .val (.int (0 : Int32)), .val (.int z7), .val (.int (Int32.ofNat f0)), .val (.int (Int32.ofNat e0)), .val (.int (Int32.ofNat c)), .val (.int (Int32.ofNat i)), .val (.int (Int32.ofNat f))] [(.int (Int32.ofNat (own_sep T f e0))), (.int (Int32.ofNat i)), (.ref a93)]
              have f205 := (y188.other W191 (Ne.symm ne112))
              refine Wk.iastore (pc' := 235) f205 hN97 (own_in (n := c) (i := i) (by omega) (by omega)) i (own_clamp (i := i) (by omega)) (by rw [List.length_map, hEl]; omega) d14_234 rfl fun h206 W207 A208 => ?_
              have A209 : Arv Z h206 a93 q95 .int (Int32.ofNat c) ((E.set i (own_sep T f e0)).map own_iv) (.int (0 : Int32)) := by rw [List.map_set]; exact A208
              refine Wk.aloadN (pc' := 236) d14_235 rfl rfl rfl ?_
              have f210 := (f194.other W207 (Or.inl ne101))
              refine Wk.getF (a0 := a0) (pc' := 239) (host := "") (Or.inl (w109 hw)) Via.refl f210 d14_236 rfl ?_
              refine Wk.iload (pc' := 241) d14_239 rfl rfl ?_
              refine Wk.iaload (pc' := 242) (v := (.int (Int32.ofNat (own_sep T f e0)))) A209 (own_in (n := c) (i := i) (by omega) (by omega)) ((own_getm own_iv (E.set i (own_sep T f e0)) 0 _ (i := i) (by rw [List.length_set, hEl]; omega) (by omega)).trans (congrArg own_iv (own_geti' (by rw [hEl]; omega)))) d14_241 rfl ?_
              refine Wk.iload (pc' := 244) d14_242 rfl rfl ?_
              refine Wk.icmp_neN (pc' := 247) d14_244 rfl (by rw [hsp]) ?_
              refine Wk.goto (pc' := 302) d14_247 (by decide) ?_
              have f211 := ((y178.wr W191).wr W207)
              have f212 := (f195.other W207 (Or.inl ne101))
              have f213 := ((y180.other W191 (Or.inl ne77)).other W207 (Or.inl ne101))
              have f214 := ((y182.other W191 (Or.inl ne77)).other W207 (Or.inl ne101))
              have f215 := (f196.wr W207)
              have f216 := (f197.other W207 (Or.inl ne109))
              have f217 := (f198.other W207 (Or.inl ne109))
              have f218 := (f199.other W207 ne111)
              have hLE : (E.set i (own_sep T f e0)).length = c := by rw [List.length_set, hEl]
              have hLQ : (Q.set i f).length = c := by rw [List.length_set, hQl]
              have f219 := (A193.other W207 ne112)
              have A220 : Arv Z h206 a70 q72 .int (Int32.ofNat (E.set i (own_sep T f e0)).length) ((Q.set i f).map own_iv) (.int (0 : Int32)) := by rw [hLE]; exact f219
              have A221 : Arv Z h206 a93 q95 .int (Int32.ofNat (E.set i (own_sep T f e0)).length) ((E.set i (own_sep T f e0)).map own_iv) (.int (0 : Int32)) := by rw [hLE]; exact A209
              exact J302 a70 q72 a93 q95 (E.set i (own_sep T f e0)) (Q.set i f) _ _ _ h206 f211 f212 f213 f210 f214 f215 f216 f217 f218 A220 A221 (Ne.symm ne77) (Ne.symm ne101) (by rw [hLE, hLQ]) (own_set0 (by omega) hQ0) ⟨by omega, by omega, fun j q => own_Eset hP (by omega) hfs j (by omega), by rw [hLE, show c - 1 = i by omega, ← hfs]; exact hsp, fun q => nomatch q⟩ ((((Keep.refl h0 [a]).trans K189 (allS (Or.inl (by simp)) all0)).wr W191 (Or.inr fr175)).wr W207 (Or.inr fr176))
            | succ d ih =>
              intro i f E Q hX177 y178 y179 y180 y181 y182 y183 y184 y185 y186 y187 y188 hEl hQl hQ0 hP hfs hfe hi0 hcn hil K189
              have hS := own_cnS hfe hcn
              refine Wk.aloadN (pc' := 207) d14_206 rfl rfl rfl ?_
              refine Wk.getF (a0 := a0) (pc' := 210) (host := "") (Or.inl (w107 hw)) Via.refl y180 d14_207 rfl ?_
              refine Wk.iload (pc' := 212) d14_210 rfl rfl ?_
              refine Wk.iload (pc' := 214) d14_212 rfl rfl ?_
              refine Wk.iastore (pc' := 215) y187 hN74 (own_in (n := c) (i := i) (by omega) (by omega)) i (own_clamp (i := i) (by omega)) (by rw [List.length_map, hQl]; omega) d14_214 rfl fun h222 W223 A224 => ?_
              have A225 : Arv Z h222 a70 q72 .int (Int32.ofNat c) ((Q.set i f).map own_iv) (.int (0 : Int32)) := by rw [List.map_set]; exact A224
              refine Wk.aloadN (pc' := 216) d14_215 rfl rfl rfl ?_
              have f226 := (y181.other W223 (Or.inl ne77))
              refine Wk.getF (a0 := a0) (pc' := 219) (host := "") (Or.inl (w109 hw)) Via.refl f226 d14_216 rfl ?_
              refine Wk.iload (pc' := 221) d14_219 rfl rfl ?_
              refine Wk.aloadN (pc' := 222) d14_221 rfl rfl rfl ?_
              have f227 := (y179.other W223 (Or.inl ne77))
              refine Wk.getF (a0 := a0) (pc' := 225) (host := "") (Or.inl (w104 hw)) Via.refl f227 d14_222 rfl ?_
              refine Wk.iload (pc' := 227) d14_225 rfl rfl ?_
              refine Wk.iload (pc' := 229) d14_227 rfl rfl ?_
              refine Wk.iload (pc' := 231) d14_229 rfl rfl ?_
              have f228 := (y183.wr W223)
              have f229 := (y184.other W223 (Or.inl ne84))
              have f230 := (y185.other W223 (Or.inl ne84))
              have f231 := (y186.other W223 ne85)
              refine Wk.callS (a0 := a0) (pc' := 234) (k' := 8) (n' := 82) (W := 2) (b := b_pae) (argsL := [(.ref t2), (.int (124 : Int32)), (.int (Int32.ofNat f)), (.int (Int32.ofNat e0))]) (rest := [(.int (Int32.ofNat i)), (.ref a93)]) (rm_pae hw t2 tv2 tq2 T f e0 cs sf h222 (some (Ts2, Lk2)) P0 G_cs P2 G_sf f228 f229 f230 f231 hfe he0 hTl hTL) (w99 hw) (w100 hw) (w21 hw) (w101 hw) (by decide) (Nat.le_refl _) id (Nat.le_of_ble_eq_true rfl) (Nat.le_of_ble_eq_true rfl) rfl rfl (Nat.le_of_ble_eq_true rfl) (Nat.le_of_ble_eq_true rfl) rfl pd34 rfl rfl rfl (Nat.le_of_ble_eq_true rfl) d14_231 rfl fun v232 h233 J234 hs235 hQ236 => ?_
              obtain ⟨rfl, rfl, rfl⟩ := hQ236
              show Wk _ h222 8 82 (some (Ts2, Lk2)) 234 #[.val (.ref a), .val (.ref t), .val (.int (Int32.ofNat s)), .val (.int (Int32.ofNat e)), .val (.ref dl), .val (.int (124 : Int32)), .val (.int (0 : Int32)), .val (.int z7), .val (.int (Int32.ofNat f0)), .val (.int (Int32.ofNat e0)), .val (.int (Int32.ofNat c)), .val (.int (Int32.ofNat i)), .val (.int (Int32.ofNat f))] [(.int (Int32.ofNat (own_sep T f e0))), (.int (Int32.ofNat i)), (.ref a93)]
              have f237 := (y188.other W223 (Ne.symm ne112))
              refine Wk.iastore (pc' := 235) f237 hN97 (own_in (n := c) (i := i) (by omega) (by omega)) i (own_clamp (i := i) (by omega)) (by rw [List.length_map, hEl]; omega) d14_234 rfl fun h238 W239 A240 => ?_
              have A241 : Arv Z h238 a93 q95 .int (Int32.ofNat c) ((E.set i (own_sep T f e0)).map own_iv) (.int (0 : Int32)) := by rw [List.map_set]; exact A240
              refine Wk.aloadN (pc' := 236) d14_235 rfl rfl rfl ?_
              have f242 := (f226.other W239 (Or.inl ne101))
              refine Wk.getF (a0 := a0) (pc' := 239) (host := "") (Or.inl (w109 hw)) Via.refl f242 d14_236 rfl ?_
              refine Wk.iload (pc' := 241) d14_239 rfl rfl ?_
              refine Wk.iaload (pc' := 242) (v := (.int (Int32.ofNat (own_sep T f e0)))) A241 (own_in (n := c) (i := i) (by omega) (by omega)) ((own_getm own_iv (E.set i (own_sep T f e0)) 0 _ (i := i) (by rw [List.length_set, hEl]; omega) (by omega)).trans (congrArg own_iv (own_geti' (by rw [hEl]; omega)))) d14_241 rfl ?_
              refine Wk.iload (pc' := 244) d14_242 rfl rfl ?_
              refine Wk.icmp_neY (pc' := 250) d14_244 (by decide) (mt (own_eq (by omega) (by omega)).mp (by omega)) ?_
              refine Wk.aloadN (pc' := 251) d14_250 rfl rfl rfl ?_
              refine Wk.getF (a0 := a0) (pc' := 254) (host := "") (Or.inl (w109 hw)) Via.refl f242 d14_251 rfl ?_
              refine Wk.iload (pc' := 256) d14_254 rfl rfl ?_
              refine Wk.iaload (pc' := 257) (v := (.int (Int32.ofNat (own_sep T f e0)))) A241 (own_in (n := c) (i := i) (by omega) (by omega)) ((own_getm own_iv (E.set i (own_sep T f e0)) 0 _ (i := i) (by rw [List.length_set, hEl]; omega) (by omega)).trans (congrArg own_iv (own_geti' (by rw [hEl]; omega)))) d14_256 rfl ?_
              refine Wk.iconst (pc' := 258) (v := 1) d14_257 rfl rfl ?_
              refine Wk.iadd (pc' := 259) d14_258 rfl ?_
              rw [own_succ (by omega)]
              refine Wk.istore (pc' := 261) #[.val (.ref a), .val (.ref t), .val (.int (Int32.ofNat s)), .val (.int (Int32.ofNat e)), .val (.ref dl), .val (.int (124 : Int32)), .val (.int (0 : Int32)), .val (.int z7), .val (.int (Int32.ofNat f0)), .val (.int (Int32.ofNat e0)), .val (.int (Int32.ofNat c)), .val (.int (Int32.ofNat i)), .val (.int (Int32.ofNat ((own_sep T f e0) + 1)))] d14_259 rfl rfl ?_
              refine Wk.iload (pc' := 263) d14_261 rfl rfl ?_
              refine Wk.if_eqY (pc' := 296) d14_263 (by decide) rfl ?_
              refine Wk.iinc (pc' := 299) (v := 1) (Ls' := #[.val (.ref a), .val (.ref t), .val (.int (Int32.ofNat s)), .val (.int (Int32.ofNat e)), .val (.ref dl), .val (.int (124 : Int32)), .val (.int (0 : Int32)), .val (.int z7), .val (.int (Int32.ofNat f0)), .val (.int (Int32.ofNat e0)), .val (.int (Int32.ofNat c)), .val (.int ((Int32.ofNat i) + (1 : Int32))), .val (.int (Int32.ofNat ((own_sep T f e0) + 1)))]) d14_296 rfl rfl rfl rfl ?_
              rw [own_succ (by omega)]
              refine Wk.goto (pc' := 206) d14_299 (by decide) ?_
              have f243 := ((y178.wr W223).wr W239)
              have f244 := (f227.other W239 (Or.inl ne101))
              have f245 := ((y180.other W223 (Or.inl ne77)).other W239 (Or.inl ne101))
              have f246 := ((y182.other W223 (Or.inl ne77)).other W239 (Or.inl ne101))
              have f247 := (f228.wr W239)
              have f248 := (f229.other W239 (Or.inl ne109))
              have f249 := (f230.other W239 (Or.inl ne109))
              have f250 := (f231.other W239 ne111)
              have f251 := (A225.other W239 ne112)
              exact ih (i + 1) ((own_sep T f e0) + 1) (E.set i (own_sep T f e0)) (Q.set i f) h238 f243 f244 f245 f242 f246 f247 f248 f249 f250 f251 A241 (by rw [List.length_set]; exact hEl) (by rw [List.length_set]; exact hQl) (own_set0 (by omega) hQ0) (own_Eset hP (by omega) hfs) (own_GsF hfs hS.1) (by omega) (by omega) hS.2 (by omega) ((((Keep.refl h0 [a]).trans K189 (allS (Or.inl (by simp)) all0)).wr W223 (Or.inr fr175)).wr W239 (Or.inr fr176))
          have f252 := (((f114.wr W117).wr W155).wr W171)
          have f253 := (f159.other W171 (Or.inl ne101))
          have f254 := ((f119.other W155 (Or.inl ne77)).other W171 (Or.inl ne101))
          have f255 := ((((((y33.ext E75).other W90 (Or.inr (slot_ne (Or.inr (w135 hw)) (Or.inr (w108 hw)) (by decide) (t := (.object "java/lang/String")) (t' := (.array .int)) (by decide) (by decide)))).ext E98).other W117 (Or.inr (slot_ne (Or.inr (w135 hw)) (Or.inr (w110 hw)) (by decide) (t := (.object "java/lang/String")) (t' := (.array .int)) (by decide) (by decide)))).other W155 (Or.inl ne77)).other W171 (Or.inl ne101))
          have f256 := (f160.wr W171)
          have f257 := (f161.other W171 (Or.inl ne109))
          have f258 := (f162.other W171 (Or.inl ne109))
          have f259 := (f163.other W171 ne111)
          have f260 := (A157.other W171 ne112)
          exact loop n' 1 ((own_sep T f0 e0) + 1) ((List.replicate c 0).set 0 (own_sep T f0 e0)) ((List.replicate c 0).set 0 f0) h170 f252 f253 f254 f174 f255 f256 f257 f258 f259 f260 A173 (by rw [List.length_set, List.length_replicate]) (by rw [List.length_set, List.length_replicate]) (own_geti' (by rw [List.length_replicate]; omega)) (own_Eset (fun j q => absurd q (Nat.not_lt_zero j)) (by rw [List.length_replicate]; omega) rfl) (own_GsF (i := 0) rfl hS.1) (by omega) (Nat.le_refl _) hS.2 (by omega) ((((((((Keep.refl h0 [a]).trans K40 (allS (Or.inl (by simp)) all0)).ext E75).wr W90 (Or.inl (by simp))).ext E98).wr W117 (Or.inl (by simp))).wr W155 (Or.inr fr175)).wr W171 (Or.inr fr176))
      | true =>
        show Wk _ hX28 6 64 (some (Ts2, Lk2)) 168 #[.val (.ref a), .val (.ref t), .val (.int (Int32.ofNat s)), .val (.int (Int32.ofNat e)), .val (.ref dl), .val (.int (124 : Int32)), .val (.int (1 : Int32)), .val (.int z7), .val (.int (Int32.ofNat f0)), .val (.int (Int32.ofNat e0)), .val (.int (Int32.ofNat c)), .val (.int (Int32.ofNat i)), .unset] []
        refine Wk.aloadN (pc' := 169) d14_168 rfl rfl rfl ?_
        refine Wk.iload (pc' := 171) d14_169 rfl rfl ?_
        refine Wk.if_eqN (pc' := 174) d14_171 rfl (by decide) ?_
        refine Wk.iload (pc' := 176) d14_174 rfl rfl ?_
        refine Wk.iconst (pc' := 177) (v := 1) d14_176 rfl rfl ?_
        refine Wk.iadd (pc' := 178) d14_177 rfl ?_
        rw [own_succ (by omega)]
        refine Wk.goto (pc' := 183) d14_178 (by decide) ?_
        refine Wk.newP (a0 := a0) (aty := .int) (pc' := 185) (k' := 7) (n' := 73) (cap := 9) (w106 hw) d14_183 rfl (own_nn (by omega)) (by rw [own_clamp (by omega)]; omega) (by decide) rfl rfl (Nat.le_of_ble_eq_true rfl) (Nat.le_of_ble_eq_true rfl) fun a261 h262 q263 hg264 hN265 E266 A267 => ?_
        have ne268 : a ≠ a261 := Nat.ne_of_lt (Nat.lt_of_lt_of_le y29.lt hg264)
        have f269 := (P11.keep K40)
        have ne270 : t ≠ a261 := Nat.ne_of_lt (Nat.lt_of_lt_of_le f269.lt hg264)
        have f271 := (P14.keep K40 (ninS P18 nin0))
        have ne272 : v' ≠ a261 := Nat.ne_of_lt (Nat.lt_of_lt_of_le f271.lt hg264)
        have f273 := (P15.keep K40)
        have ne274 : dl ≠ a261 := Nat.ne_of_lt (Nat.lt_of_lt_of_le f273.lt hg264)
        have ne275 : t2 ≠ a261 := Nat.ne_of_lt (Nat.lt_of_lt_of_le y34.lt hg264)
        have ne276 : tv2 ≠ a261 := Nat.ne_of_lt (Nat.lt_of_lt_of_le y37.lt hg264)
        have A277 : Arv Z h262 a261 q263 .int (Int32.ofNat (c + 1)) ((List.replicate (c + 1) 0).map own_iv) (.int (0 : Int32)) := by rw [← own_iv0]; exact A267.pad (pad_rep [] _ (c + 1))
        have f278 := (y29.ext E266)
        have f279 := (y31.ext E266)
        refine Wk.putF (a0 := a0) (pc' := 188) (host := "") (Or.inl (w107 hw)) Via.refl P10 f279 f278 (Or.inr ⟨(w108 hw), rfl, rfl⟩) (w46 hw) (ty := (.array .int)) (by decide) rfl rfl d14_185 rfl fun h280 W281 => ?_
        have F282 := f279.same W281
        refine Wk.aloadN (pc' := 189) d14_188 rfl rfl rfl ?_
        refine Wk.aloadN (pc' := 190) d14_189 rfl rfl rfl ?_
        refine Wk.getF (a0 := a0) (pc' := 193) (host := "") (Or.inl (w107 hw)) Via.refl F282 d14_190 rfl ?_
        have f283 := (A277.other W281 (Ne.symm ne268))
        refine Wk.arraylength (pc' := 194) f283 d14_193 rfl ?_
        refine Wk.newP (a0 := a0) (aty := .int) (pc' := 196) (k' := 8) (n' := 82) (cap := 9) (w106 hw) d14_194 rfl (own_nn (by omega)) (by rw [own_clamp (by omega)]; omega) (by decide) rfl rfl (Nat.le_of_ble_eq_true rfl) (Nat.le_of_ble_eq_true rfl) fun a284 h285 q286 hg287 hN288 E289 A290 => ?_
        have f291 := (f278.wr W281)
        have ne292 : a ≠ a284 := Nat.ne_of_lt (Nat.lt_of_lt_of_le f291.lt hg287)
        have f293 := ((f269.ext E266).wr W281)
        have ne294 : t ≠ a284 := Nat.ne_of_lt (Nat.lt_of_lt_of_le f293.lt hg287)
        have f295 := ((f271.ext E266).other W281 P18)
        have ne296 : v' ≠ a284 := Nat.ne_of_lt (Nat.lt_of_lt_of_le f295.lt hg287)
        have f297 := ((f273.ext E266).wr W281)
        have ne298 : dl ≠ a284 := Nat.ne_of_lt (Nat.lt_of_lt_of_le f297.lt hg287)
        have f299 := ((y34.ext E266).wr W281)
        have ne300 : t2 ≠ a284 := Nat.ne_of_lt (Nat.lt_of_lt_of_le f299.lt hg287)
        have f301 := ((y37.ext E266).other W281 y39)
        have ne302 : tv2 ≠ a284 := Nat.ne_of_lt (Nat.lt_of_lt_of_le f301.lt hg287)
        have ne303 : a261 ≠ a284 := Nat.ne_of_lt (Nat.lt_of_lt_of_le f283.lt hg287)
        have A304 : Arv Z h285 a284 q286 .int (Int32.ofNat (c + 1)) ((List.replicate (c + 1) 0).map own_iv) (.int (0 : Int32)) := by rw [← own_iv0]; exact A290.pad (pad_rep [] _ (c + 1))
        have f305 := (f291.ext E289)
        have f306 := (((y32.ext E266).other W281 (Or.inr (slot_ne (Or.inr (w110 hw)) (Or.inr (w108 hw)) (by decide) (t := (.array .int)) (t' := (.array .int)) (by decide) (by decide)))).ext E289)
        refine Wk.putF (a0 := a0) (pc' := 199) (host := "") (Or.inl (w109 hw)) Via.refl P10 f306 f305 (Or.inr ⟨(w110 hw), rfl, rfl⟩) (w46 hw) (ty := (.array .int)) (by decide) rfl rfl d14_196 rfl fun h307 W308 => ?_
        have F309 := f306.same W308
        refine Wk.iconst (pc' := 200) (v := 0) d14_199 rfl rfl ?_
        refine Wk.istore (pc' := 202) #[.val (.ref a), .val (.ref t), .val (.int (Int32.ofNat s)), .val (.int (Int32.ofNat e)), .val (.ref dl), .val (.int (124 : Int32)), .val (.int (1 : Int32)), .val (.int z7), .val (.int (Int32.ofNat f0)), .val (.int (Int32.ofNat e0)), .val (.int (Int32.ofNat c)), .val (.int (0 : Int32)), .unset] d14_200 rfl rfl ?_
        refine Wk.iload (pc' := 204) d14_202 rfl rfl ?_
        refine Wk.istore (pc' := 206) #[.val (.ref a), .val (.ref t), .val (.int (Int32.ofNat s)), .val (.int (Int32.ofNat e)), .val (.ref dl), .val (.int (124 : Int32)), .val (.int (1 : Int32)), .val (.int z7), .val (.int (Int32.ofNat f0)), .val (.int (Int32.ofNat e0)), .val (.int (Int32.ofNat c)), .val (.int (0 : Int32)), .val (.int (Int32.ofNat f0))] d14_204 rfl rfl ?_
        have f310 := ((F282.ext E289).other W308 (Or.inr (slot_ne (Or.inr (w108 hw)) (Or.inr (w110 hw)) (by decide) (t := (.array .int)) (t' := (.array .int)) (by decide) (by decide))))
        have f311 := ((f283.ext E289).other W308 (Ne.symm ne268))
        have f312 := (A304.other W308 (Ne.symm ne292))
        have hsp := (hhd rfl).1
        obtain ⟨n', hn'⟩ : ∃ n', own_cn T (e0 - f0) f0 = n' + 1 := by
          cases hz : own_cn T (e0 - f0) f0 with
          | zero => have := own_cnE hf0 hz; have := (hhd rfl).2; omega
          | succ n' => exact ⟨n', rfl⟩
        have hS := own_cnS hf0 hn'
        refine Wk.aloadN (pc' := 207) d14_206 rfl rfl rfl ?_
        refine Wk.getF (a0 := a0) (pc' := 210) (host := "") (Or.inl (w107 hw)) Via.refl f310 d14_207 rfl ?_
        refine Wk.iload (pc' := 212) d14_210 rfl rfl ?_
        refine Wk.iload (pc' := 214) d14_212 rfl rfl ?_
        refine Wk.iastore (pc' := 215) f311 hN265 (own_in (n := (c + 1)) (i := 0) (by omega) (by omega)) 0 (own_clamp (i := 0) (by omega)) (by rw [List.length_map, List.length_replicate]; omega) d14_214 rfl fun h313 W314 A315 => ?_
        have A316 : Arv Z h313 a261 q263 .int (Int32.ofNat (c + 1)) (((List.replicate (c + 1) 0).set 0 f0).map own_iv) (.int (0 : Int32)) := by rw [List.map_set]; exact A315
        refine Wk.aloadN (pc' := 216) d14_215 rfl rfl rfl ?_
        have f317 := (F309.other W314 (Or.inl ne268))
        refine Wk.getF (a0 := a0) (pc' := 219) (host := "") (Or.inl (w109 hw)) Via.refl f317 d14_216 rfl ?_
        refine Wk.iload (pc' := 221) d14_219 rfl rfl ?_
        refine Wk.aloadN (pc' := 222) d14_221 rfl rfl rfl ?_
        have f318 := (((((y30.ext E266).other W281 (Or.inr (slot_ne (Or.inr (w105 hw)) (Or.inr (w108 hw)) (by decide) (t := (.object "java/lang/String")) (t' := (.array .int)) (by decide) (by decide)))).ext E289).other W308 (Or.inr (slot_ne (Or.inr (w105 hw)) (Or.inr (w110 hw)) (by decide) (t := (.object "java/lang/String")) (t' := (.array .int)) (by decide) (by decide)))).other W314 (Or.inl ne268))
        refine Wk.getF (a0 := a0) (pc' := 225) (host := "") (Or.inl (w104 hw)) Via.refl f318 d14_222 rfl ?_
        refine Wk.iload (pc' := 227) d14_225 rfl rfl ?_
        refine Wk.iload (pc' := 229) d14_227 rfl rfl ?_
        refine Wk.iload (pc' := 231) d14_229 rfl rfl ?_
        have f319 := (((f299.ext E289).wr W308).wr W314)
        have f320 := (((((y35.ext E266).other W281 (Or.inl y38)).ext E289).other W308 (Or.inl y38)).other W314 (Or.inl ne275))
        have f321 := (((((y36.ext E266).other W281 (Or.inl y38)).ext E289).other W308 (Or.inl y38)).other W314 (Or.inl ne275))
        have f322 := (((f301.ext E289).other W308 y39).other W314 ne276)
        refine Wk.callS (a0 := a0) (pc' := 234) (k' := 8) (n' := 82) (W := 2) (b := b_pae) (argsL := [(.ref t2), (.int (124 : Int32)), (.int (Int32.ofNat f0)), (.int (Int32.ofNat e0))]) (rest := [(.int (0 : Int32)), (.ref a284)]) (rm_pae hw t2 tv2 tq2 T f0 e0 cs sf h313 (some (Ts2, Lk2)) P0 G_cs P2 G_sf f319 f320 f321 f322 hf0 he0 hTl hTL) (w99 hw) (w100 hw) (w21 hw) (w101 hw) (by decide) (Nat.le_refl _) id (Nat.le_of_ble_eq_true rfl) (Nat.le_of_ble_eq_true rfl) rfl rfl (Nat.le_of_ble_eq_true rfl) (Nat.le_of_ble_eq_true rfl) rfl pd34 rfl rfl rfl (Nat.le_of_ble_eq_true rfl) d14_231 rfl fun v323 h324 J325 hs326 hQ327 => ?_
        obtain ⟨rfl, rfl, rfl⟩ := hQ327
        show Wk _ h313 8 82 (some (Ts2, Lk2)) 234 #[.val (.ref a), .val (.ref t), .val (.int (Int32.ofNat s)), .val (.int (Int32.ofNat e)), .val (.ref dl), .val (.int (124 : Int32)), .val (.int (1 : Int32)), .val (.int z7), .val (.int (Int32.ofNat f0)), .val (.int (Int32.ofNat e0)), .val (.int (Int32.ofNat c)), .val (.int (0 : Int32)), .val (.int (Int32.ofNat f0))] [(.int (Int32.ofNat (own_sep T f0 e0))), (.int (0 : Int32)), (.ref a284)]
        have f328 := (f312.other W314 (Ne.symm ne303))
        refine Wk.iastore (pc' := 235) f328 hN288 (own_in (n := (c + 1)) (i := 0) (by omega) (by omega)) 0 (own_clamp (i := 0) (by omega)) (by rw [List.length_map, List.length_replicate]; omega) d14_234 rfl fun h329 W330 A331 => ?_
        have A332 : Arv Z h329 a284 q286 .int (Int32.ofNat (c + 1)) (((List.replicate (c + 1) 0).set 0 (own_sep T f0 e0)).map own_iv) (.int (0 : Int32)) := by rw [List.map_set]; exact A331
        refine Wk.aloadN (pc' := 236) d14_235 rfl rfl rfl ?_
        have f333 := (f317.other W330 (Or.inl ne292))
        refine Wk.getF (a0 := a0) (pc' := 239) (host := "") (Or.inl (w109 hw)) Via.refl f333 d14_236 rfl ?_
        refine Wk.iload (pc' := 241) d14_239 rfl rfl ?_
        refine Wk.iaload (pc' := 242) (v := (.int (Int32.ofNat (own_sep T f0 e0)))) A332 (own_in (n := (c + 1)) (i := 0) (by omega) (by omega)) ((own_getm own_iv ((List.replicate (c + 1) 0).set 0 (own_sep T f0 e0)) 0 _ (i := 0) (by rw [List.length_set, List.length_replicate]; omega) (by omega)).trans (congrArg own_iv (own_geti' (by rw [List.length_replicate]; omega)))) d14_241 rfl ?_
        refine Wk.iload (pc' := 244) d14_242 rfl rfl ?_
        refine Wk.icmp_neY (pc' := 250) d14_244 (by decide) (mt (own_eq (by omega) (by omega)).mp (by omega)) ?_
        refine Wk.aloadN (pc' := 251) d14_250 rfl rfl rfl ?_
        refine Wk.getF (a0 := a0) (pc' := 254) (host := "") (Or.inl (w109 hw)) Via.refl f333 d14_251 rfl ?_
        refine Wk.iload (pc' := 256) d14_254 rfl rfl ?_
        refine Wk.iaload (pc' := 257) (v := (.int (Int32.ofNat (own_sep T f0 e0)))) A332 (own_in (n := (c + 1)) (i := 0) (by omega) (by omega)) ((own_getm own_iv ((List.replicate (c + 1) 0).set 0 (own_sep T f0 e0)) 0 _ (i := 0) (by rw [List.length_set, List.length_replicate]; omega) (by omega)).trans (congrArg own_iv (own_geti' (by rw [List.length_replicate]; omega)))) d14_256 rfl ?_
        refine Wk.iconst (pc' := 258) (v := 1) d14_257 rfl rfl ?_
        refine Wk.iadd (pc' := 259) d14_258 rfl ?_
        rw [own_succ (by omega)]
        refine Wk.istore (pc' := 261) #[.val (.ref a), .val (.ref t), .val (.int (Int32.ofNat s)), .val (.int (Int32.ofNat e)), .val (.ref dl), .val (.int (124 : Int32)), .val (.int (1 : Int32)), .val (.int z7), .val (.int (Int32.ofNat f0)), .val (.int (Int32.ofNat e0)), .val (.int (Int32.ofNat c)), .val (.int (0 : Int32)), .val (.int (Int32.ofNat ((own_sep T f0 e0) + 1)))] d14_259 rfl rfl ?_
        refine Wk.iload (pc' := 263) d14_261 rfl rfl ?_
        refine Wk.if_eqN (pc' := 266) d14_263 rfl (by decide) ?_
        refine Wk.iload (pc' := 268) d14_266 rfl rfl ?_
        refine Wk.if_neN (pc' := 271) d14_268 rfl rfl ?_
        refine Wk.iinc (pc' := 274) (v := 1) (Ls' := #[.val (.ref a), .val (.ref t), .val (.int (Int32.ofNat s)), .val (.int (Int32.ofNat e)), .val (.ref dl), .val (.int (124 : Int32)), .val (.int (1 : Int32)), .val (.int z7), .val (.int (Int32.ofNat f0)), .val (.int (Int32.ofNat e0)), .val (.int (Int32.ofNat c)), .val (.int ((0 : Int32) + (1 : Int32))), .val (.int (Int32.ofNat ((own_sep T f0 e0) + 1)))]) d14_271 rfl rfl rfl rfl ?_
        rw [show ((0 : Int32) + (1 : Int32)) = (1 : Int32) from by decide]
        refine Wk.aloadN (pc' := 275) d14_274 rfl rfl rfl ?_
        have f334 := ((f310.other W314 (Or.inl ne268)).other W330 (Or.inl ne292))
        refine Wk.getF (a0 := a0) (pc' := 278) (host := "") (Or.inl (w107 hw)) Via.refl f334 d14_275 rfl ?_
        refine Wk.iload (pc' := 280) d14_278 rfl rfl ?_
        refine Wk.aloadN (pc' := 281) d14_280 rfl rfl rfl ?_
        refine Wk.getF (a0 := a0) (pc' := 284) (host := "") (Or.inl (w109 hw)) Via.refl f333 d14_281 rfl ?_
        refine Wk.iconst (pc' := 285) (v := 0) d14_284 rfl rfl ?_
        refine Wk.iaload (pc' := 286) (v := (.int (Int32.ofNat (own_sep T f0 e0)))) A332 (own_in (n := (c + 1)) (i := 0) (by omega) (by omega)) ((own_getm own_iv ((List.replicate (c + 1) 0).set 0 (own_sep T f0 e0)) 0 _ (i := 0) (by rw [List.length_set, List.length_replicate]; omega) (by omega)).trans (congrArg own_iv (own_geti' (by rw [List.length_replicate]; omega)))) d14_285 rfl ?_
        have f335 := (A316.other W330 ne303)
        refine Wk.iastore (pc' := 287) f335 hN265 (own_in (n := (c + 1)) (i := 1) (by omega) (by omega)) 1 (own_clamp (i := 1) (by omega)) (by rw [List.length_map, List.length_set, List.length_replicate]; omega) d14_286 rfl fun h336 W337 A338 => ?_
        have A339 : Arv Z h336 a261 q263 .int (Int32.ofNat (c + 1)) ((((List.replicate (c + 1) 0).set 0 f0).set 1 (own_sep T f0 e0)).map own_iv) (.int (0 : Int32)) := by rw [List.map_set]; exact A338
        refine Wk.aloadN (pc' := 288) d14_287 rfl rfl rfl ?_
        have f340 := (f333.other W337 (Or.inl ne268))
        refine Wk.getF (a0 := a0) (pc' := 291) (host := "") (Or.inl (w109 hw)) Via.refl f340 d14_288 rfl ?_
        refine Wk.iload (pc' := 293) d14_291 rfl rfl ?_
        refine Wk.iload (pc' := 295) d14_293 rfl rfl ?_
        have f341 := (A332.other W337 (Ne.symm ne303))
        refine Wk.iastore (pc' := 296) f341 hN288 (own_in (n := (c + 1)) (i := 1) (by omega) (by omega)) 1 (own_clamp (i := 1) (by omega)) (by rw [List.length_map, List.length_set, List.length_replicate]; omega) d14_295 rfl fun h342 W343 A344 => ?_
        have A345 : Arv Z h342 a284 q286 .int (Int32.ofNat (c + 1)) ((((List.replicate (c + 1) 0).set 0 (own_sep T f0 e0)).set 1 ((own_sep T f0 e0) + 1)).map own_iv) (.int (0 : Int32)) := by rw [List.map_set]; exact A344
        refine Wk.iinc (pc' := 299) (v := 1) (Ls' := #[.val (.ref a), .val (.ref t), .val (.int (Int32.ofNat s)), .val (.int (Int32.ofNat e)), .val (.ref dl), .val (.int (124 : Int32)), .val (.int (1 : Int32)), .val (.int z7), .val (.int (Int32.ofNat f0)), .val (.int (Int32.ofNat e0)), .val (.int (Int32.ofNat c)), .val (.int ((1 : Int32) + (1 : Int32))), .val (.int (Int32.ofNat ((own_sep T f0 e0) + 1)))]) d14_296 rfl rfl rfl rfl ?_
        rw [show ((1 : Int32) + (1 : Int32)) = (2 : Int32) from by decide]
        refine Wk.goto (pc' := 206) d14_299 (by decide) ?_
        have fr346 : h0.size ≤ a261 := (Nat.le_trans K40.1 hg264)
        have fr347 : h0.size ≤ a284 := (Nat.le_trans (Nat.le_trans (Nat.le_trans K40.1 E266.1) (Keep.of_wr W281).1) hg287)
        have loop : ∀ (d : Nat) (i : Nat) (f : Nat) (E : List Nat) (Q : List Nat) (hX348 : Heap), (Exa Z hX348 a "com/example/quittance/quittance/Segment") → (Fld Z hX348 a "com/example/quittance/quittance/Segment" "text" "Ljava/lang/String;" (.ref t2)) → (Fld Z hX348 a "com/example/quittance/quittance/Segment" "starts" "[I" (.ref a261)) → (Fld Z hX348 a "com/example/quittance/quittance/Segment" "ends" "[I" (.ref a284)) → (Fld Z hX348 a "com/example/quittance/quittance/Segment" "id" "Ljava/lang/String;" .null) → (Exa Z hX348 t2 "java/lang/String") → (Fld Z hX348 t2 "java/lang/String" "value" "[B" (.ref tv2)) → (Fld Z hX348 t2 "java/lang/String" "coder" "B" (.int (0 : Int32))) → (Arv Z hX348 tv2 tq2 .byte (Int32.ofNat T.length) (T.map own_by) (.int (0 : Int32))) → (Arv Z hX348 a261 q263 .int (Int32.ofNat (c + 1)) (Q.map own_iv) (.int (0 : Int32))) → (Arv Z hX348 a284 q286 .int (Int32.ofNat (c + 1)) (E.map own_iv) (.int (0 : Int32))) → (E.length = (c + 1)) → (Q.length = (c + 1)) → (Q.getD 0 0 = f0) → ((∀ j, j < i → E.getD j 0 = own_G T f0 e0 true j)) → (own_sep T f e0 = own_G T f0 e0 true i) → (f ≤ e0) → (2 ≤ i) → (own_cn T (e0 - f) f = d) → (i + d + 1 = (c + 1)) → (Keep h0 hX348 [a]) → Wk (l, Z, N, h0.size, b_seg, Q_seg Z N a t v' q X dl s e cs sf Ts Lk h0 (some (Ts, Lk))) hX348 8 82 (some (Ts2, Lk2)) 206 #[.val (.ref a), .val (.ref t), .val (.int (Int32.ofNat s)), .val (.int (Int32.ofNat e)), .val (.ref dl), .val (.int (124 : Int32)), .val (.int (1 : Int32)), .val (.int z7), .val (.int (Int32.ofNat f0)), .val (.int (Int32.ofNat e0)), .val (.int (Int32.ofNat c)), .val (.int (Int32.ofNat i)), .val (.int (Int32.ofNat f))] [] := by
          intro d
          induction d with
          | zero =>
            intro i f E Q hX348 y349 y350 y351 y352 y353 y354 y355 y356 y357 y358 y359 hEl hQl hQ0 hP hfs hfe hi0 hcn hil K360
            have hsp := own_cnE hfe hcn
            refine Wk.aloadN (pc' := 207) d14_206 rfl rfl rfl ?_
            refine Wk.getF (a0 := a0) (pc' := 210) (host := "") (Or.inl (w107 hw)) Via.refl y351 d14_207 rfl ?_
            refine Wk.iload (pc' := 212) d14_210 rfl rfl ?_
            refine Wk.iload (pc' := 214) d14_212 rfl rfl ?_
            refine Wk.iastore (pc' := 215) y358 hN265 (own_in (n := (c + 1)) (i := i) (by omega) (by omega)) i (own_clamp (i := i) (by omega)) (by rw [List.length_map, hQl]; omega) d14_214 rfl fun h361 W362 A363 => ?_
            have A364 : Arv Z h361 a261 q263 .int (Int32.ofNat (c + 1)) ((Q.set i f).map own_iv) (.int (0 : Int32)) := by rw [List.map_set]; exact A363
            refine Wk.aloadN (pc' := 216) d14_215 rfl rfl rfl ?_
            have f365 := (y352.other W362 (Or.inl ne268))
            refine Wk.getF (a0 := a0) (pc' := 219) (host := "") (Or.inl (w109 hw)) Via.refl f365 d14_216 rfl ?_
            refine Wk.iload (pc' := 221) d14_219 rfl rfl ?_
            refine Wk.aloadN (pc' := 222) d14_221 rfl rfl rfl ?_
            have f366 := (y350.other W362 (Or.inl ne268))
            refine Wk.getF (a0 := a0) (pc' := 225) (host := "") (Or.inl (w104 hw)) Via.refl f366 d14_222 rfl ?_
            refine Wk.iload (pc' := 227) d14_225 rfl rfl ?_
            refine Wk.iload (pc' := 229) d14_227 rfl rfl ?_
            refine Wk.iload (pc' := 231) d14_229 rfl rfl ?_
            have f367 := (y354.wr W362)
            have f368 := (y355.other W362 (Or.inl ne275))
            have f369 := (y356.other W362 (Or.inl ne275))
            have f370 := (y357.other W362 ne276)
            refine Wk.callS (a0 := a0) (pc' := 234) (k' := 8) (n' := 82) (W := 2) (b := b_pae) (argsL := [(.ref t2), (.int (124 : Int32)), (.int (Int32.ofNat f)), (.int (Int32.ofNat e0))]) (rest := [(.int (Int32.ofNat i)), (.ref a284)]) (rm_pae hw t2 tv2 tq2 T f e0 cs sf h361 (some (Ts2, Lk2)) P0 G_cs P2 G_sf f367 f368 f369 f370 hfe he0 hTl hTL) (w99 hw) (w100 hw) (w21 hw) (w101 hw) (by decide) (Nat.le_refl _) id (Nat.le_of_ble_eq_true rfl) (Nat.le_of_ble_eq_true rfl) rfl rfl (Nat.le_of_ble_eq_true rfl) (Nat.le_of_ble_eq_true rfl) rfl pd34 rfl rfl rfl (Nat.le_of_ble_eq_true rfl) d14_231 rfl fun v371 h372 J373 hs374 hQ375 => ?_
            obtain ⟨rfl, rfl, rfl⟩ := hQ375
            show Wk _ h361 8 82 (some (Ts2, Lk2)) 234 #[.val (.ref a), .val (.ref t), .val (.int (Int32.ofNat s)), .val (.int (Int32.ofNat e)), .val (.ref dl), .val (.int (124 : Int32)), .val (.int (1 : Int32)), .val (.int z7), .val (.int (Int32.ofNat f0)), .val (.int (Int32.ofNat e0)), .val (.int (Int32.ofNat c)), .val (.int (Int32.ofNat i)), .val (.int (Int32.ofNat f))] [(.int (Int32.ofNat (own_sep T f e0))), (.int (Int32.ofNat i)), (.ref a284)]
            have f376 := (y359.other W362 (Ne.symm ne303))
            refine Wk.iastore (pc' := 235) f376 hN288 (own_in (n := (c + 1)) (i := i) (by omega) (by omega)) i (own_clamp (i := i) (by omega)) (by rw [List.length_map, hEl]; omega) d14_234 rfl fun h377 W378 A379 => ?_
            have A380 : Arv Z h377 a284 q286 .int (Int32.ofNat (c + 1)) ((E.set i (own_sep T f e0)).map own_iv) (.int (0 : Int32)) := by rw [List.map_set]; exact A379
            refine Wk.aloadN (pc' := 236) d14_235 rfl rfl rfl ?_
            have f381 := (f365.other W378 (Or.inl ne292))
            refine Wk.getF (a0 := a0) (pc' := 239) (host := "") (Or.inl (w109 hw)) Via.refl f381 d14_236 rfl ?_
            refine Wk.iload (pc' := 241) d14_239 rfl rfl ?_
            refine Wk.iaload (pc' := 242) (v := (.int (Int32.ofNat (own_sep T f e0)))) A380 (own_in (n := (c + 1)) (i := i) (by omega) (by omega)) ((own_getm own_iv (E.set i (own_sep T f e0)) 0 _ (i := i) (by rw [List.length_set, hEl]; omega) (by omega)).trans (congrArg own_iv (own_geti' (by rw [hEl]; omega)))) d14_241 rfl ?_
            refine Wk.iload (pc' := 244) d14_242 rfl rfl ?_
            refine Wk.icmp_neN (pc' := 247) d14_244 rfl (by rw [hsp]) ?_
            refine Wk.goto (pc' := 302) d14_247 (by decide) ?_
            have f382 := ((y349.wr W362).wr W378)
            have f383 := (f366.other W378 (Or.inl ne292))
            have f384 := ((y351.other W362 (Or.inl ne268)).other W378 (Or.inl ne292))
            have f385 := ((y353.other W362 (Or.inl ne268)).other W378 (Or.inl ne292))
            have f386 := (f367.wr W378)
            have f387 := (f368.other W378 (Or.inl ne300))
            have f388 := (f369.other W378 (Or.inl ne300))
            have f389 := (f370.other W378 ne302)
            have hLE : (E.set i (own_sep T f e0)).length = (c + 1) := by rw [List.length_set, hEl]
            have hLQ : (Q.set i f).length = (c + 1) := by rw [List.length_set, hQl]
            have f390 := (A364.other W378 ne303)
            have A391 : Arv Z h377 a261 q263 .int (Int32.ofNat (E.set i (own_sep T f e0)).length) ((Q.set i f).map own_iv) (.int (0 : Int32)) := by rw [hLE]; exact f390
            have A392 : Arv Z h377 a284 q286 .int (Int32.ofNat (E.set i (own_sep T f e0)).length) ((E.set i (own_sep T f e0)).map own_iv) (.int (0 : Int32)) := by rw [hLE]; exact A380
            exact J302 a261 q263 a284 q286 (E.set i (own_sep T f e0)) (Q.set i f) _ _ _ h377 f382 f383 f384 f381 f385 f386 f387 f388 f389 A391 A392 (Ne.symm ne268) (Ne.symm ne292) (by rw [hLE, hLQ]) (own_set0 (by omega) hQ0) ⟨by omega, by omega, fun j q => own_Eset hP (by omega) hfs j (by omega), by rw [hLE, show (c + 1) - 1 = i by omega, ← hfs]; exact hsp, fun _ => by omega⟩ ((((Keep.refl h0 [a]).trans K360 (allS (Or.inl (by simp)) all0)).wr W362 (Or.inr fr346)).wr W378 (Or.inr fr347))
          | succ d ih =>
            intro i f E Q hX348 y349 y350 y351 y352 y353 y354 y355 y356 y357 y358 y359 hEl hQl hQ0 hP hfs hfe hi0 hcn hil K360
            have hS := own_cnS hfe hcn
            refine Wk.aloadN (pc' := 207) d14_206 rfl rfl rfl ?_
            refine Wk.getF (a0 := a0) (pc' := 210) (host := "") (Or.inl (w107 hw)) Via.refl y351 d14_207 rfl ?_
            refine Wk.iload (pc' := 212) d14_210 rfl rfl ?_
            refine Wk.iload (pc' := 214) d14_212 rfl rfl ?_
            refine Wk.iastore (pc' := 215) y358 hN265 (own_in (n := (c + 1)) (i := i) (by omega) (by omega)) i (own_clamp (i := i) (by omega)) (by rw [List.length_map, hQl]; omega) d14_214 rfl fun h393 W394 A395 => ?_
            have A396 : Arv Z h393 a261 q263 .int (Int32.ofNat (c + 1)) ((Q.set i f).map own_iv) (.int (0 : Int32)) := by rw [List.map_set]; exact A395
            refine Wk.aloadN (pc' := 216) d14_215 rfl rfl rfl ?_
            have f397 := (y352.other W394 (Or.inl ne268))
            refine Wk.getF (a0 := a0) (pc' := 219) (host := "") (Or.inl (w109 hw)) Via.refl f397 d14_216 rfl ?_
            refine Wk.iload (pc' := 221) d14_219 rfl rfl ?_
            refine Wk.aloadN (pc' := 222) d14_221 rfl rfl rfl ?_
            have f398 := (y350.other W394 (Or.inl ne268))
            refine Wk.getF (a0 := a0) (pc' := 225) (host := "") (Or.inl (w104 hw)) Via.refl f398 d14_222 rfl ?_
            refine Wk.iload (pc' := 227) d14_225 rfl rfl ?_
            refine Wk.iload (pc' := 229) d14_227 rfl rfl ?_
            refine Wk.iload (pc' := 231) d14_229 rfl rfl ?_
            have f399 := (y354.wr W394)
            have f400 := (y355.other W394 (Or.inl ne275))
            have f401 := (y356.other W394 (Or.inl ne275))
            have f402 := (y357.other W394 ne276)
            refine Wk.callS (a0 := a0) (pc' := 234) (k' := 8) (n' := 82) (W := 2) (b := b_pae) (argsL := [(.ref t2), (.int (124 : Int32)), (.int (Int32.ofNat f)), (.int (Int32.ofNat e0))]) (rest := [(.int (Int32.ofNat i)), (.ref a284)]) (rm_pae hw t2 tv2 tq2 T f e0 cs sf h393 (some (Ts2, Lk2)) P0 G_cs P2 G_sf f399 f400 f401 f402 hfe he0 hTl hTL) (w99 hw) (w100 hw) (w21 hw) (w101 hw) (by decide) (Nat.le_refl _) id (Nat.le_of_ble_eq_true rfl) (Nat.le_of_ble_eq_true rfl) rfl rfl (Nat.le_of_ble_eq_true rfl) (Nat.le_of_ble_eq_true rfl) rfl pd34 rfl rfl rfl (Nat.le_of_ble_eq_true rfl) d14_231 rfl fun v403 h404 J405 hs406 hQ407 => ?_
            obtain ⟨rfl, rfl, rfl⟩ := hQ407
            show Wk _ h393 8 82 (some (Ts2, Lk2)) 234 #[.val (.ref a), .val (.ref t), .val (.int (Int32.ofNat s)), .val (.int (Int32.ofNat e)), .val (.ref dl), .val (.int (124 : Int32)), .val (.int (1 : Int32)), .val (.int z7), .val (.int (Int32.ofNat f0)), .val (.int (Int32.ofNat e0)), .val (.int (Int32.ofNat c)), .val (.int (Int32.ofNat i)), .val (.int (Int32.ofNat f))] [(.int (Int32.ofNat (own_sep T f e0))), (.int (Int32.ofNat i)), (.ref a284)]
            have f408 := (y359.other W394 (Ne.symm ne303))
            refine Wk.iastore (pc' := 235) f408 hN288 (own_in (n := (c + 1)) (i := i) (by omega) (by omega)) i (own_clamp (i := i) (by omega)) (by rw [List.length_map, hEl]; omega) d14_234 rfl fun h409 W410 A411 => ?_
            have A412 : Arv Z h409 a284 q286 .int (Int32.ofNat (c + 1)) ((E.set i (own_sep T f e0)).map own_iv) (.int (0 : Int32)) := by rw [List.map_set]; exact A411
            refine Wk.aloadN (pc' := 236) d14_235 rfl rfl rfl ?_
            have f413 := (f397.other W410 (Or.inl ne292))
            refine Wk.getF (a0 := a0) (pc' := 239) (host := "") (Or.inl (w109 hw)) Via.refl f413 d14_236 rfl ?_
            refine Wk.iload (pc' := 241) d14_239 rfl rfl ?_
            refine Wk.iaload (pc' := 242) (v := (.int (Int32.ofNat (own_sep T f e0)))) A412 (own_in (n := (c + 1)) (i := i) (by omega) (by omega)) ((own_getm own_iv (E.set i (own_sep T f e0)) 0 _ (i := i) (by rw [List.length_set, hEl]; omega) (by omega)).trans (congrArg own_iv (own_geti' (by rw [hEl]; omega)))) d14_241 rfl ?_
            refine Wk.iload (pc' := 244) d14_242 rfl rfl ?_
            refine Wk.icmp_neY (pc' := 250) d14_244 (by decide) (mt (own_eq (by omega) (by omega)).mp (by omega)) ?_
            refine Wk.aloadN (pc' := 251) d14_250 rfl rfl rfl ?_
            refine Wk.getF (a0 := a0) (pc' := 254) (host := "") (Or.inl (w109 hw)) Via.refl f413 d14_251 rfl ?_
            refine Wk.iload (pc' := 256) d14_254 rfl rfl ?_
            refine Wk.iaload (pc' := 257) (v := (.int (Int32.ofNat (own_sep T f e0)))) A412 (own_in (n := (c + 1)) (i := i) (by omega) (by omega)) ((own_getm own_iv (E.set i (own_sep T f e0)) 0 _ (i := i) (by rw [List.length_set, hEl]; omega) (by omega)).trans (congrArg own_iv (own_geti' (by rw [hEl]; omega)))) d14_256 rfl ?_
            refine Wk.iconst (pc' := 258) (v := 1) d14_257 rfl rfl ?_
            refine Wk.iadd (pc' := 259) d14_258 rfl ?_
            rw [own_succ (by omega)]
            refine Wk.istore (pc' := 261) #[.val (.ref a), .val (.ref t), .val (.int (Int32.ofNat s)), .val (.int (Int32.ofNat e)), .val (.ref dl), .val (.int (124 : Int32)), .val (.int (1 : Int32)), .val (.int z7), .val (.int (Int32.ofNat f0)), .val (.int (Int32.ofNat e0)), .val (.int (Int32.ofNat c)), .val (.int (Int32.ofNat i)), .val (.int (Int32.ofNat ((own_sep T f e0) + 1)))] d14_259 rfl rfl ?_
            refine Wk.iload (pc' := 263) d14_261 rfl rfl ?_
            refine Wk.if_eqN (pc' := 266) d14_263 rfl (by decide) ?_
            refine Wk.iload (pc' := 268) d14_266 rfl rfl ?_
            refine Wk.if_neY (pc' := 296) d14_268 (by decide) (mt (own_eq (j := 0) (by omega) (by decide)).mp (by omega)) ?_
            refine Wk.iinc (pc' := 299) (v := 1) (Ls' := #[.val (.ref a), .val (.ref t), .val (.int (Int32.ofNat s)), .val (.int (Int32.ofNat e)), .val (.ref dl), .val (.int (124 : Int32)), .val (.int (1 : Int32)), .val (.int z7), .val (.int (Int32.ofNat f0)), .val (.int (Int32.ofNat e0)), .val (.int (Int32.ofNat c)), .val (.int ((Int32.ofNat i) + (1 : Int32))), .val (.int (Int32.ofNat ((own_sep T f e0) + 1)))]) d14_296 rfl rfl rfl rfl ?_
            rw [own_succ (by omega)]
            refine Wk.goto (pc' := 206) d14_299 (by decide) ?_
            have f414 := ((y349.wr W394).wr W410)
            have f415 := (f398.other W410 (Or.inl ne292))
            have f416 := ((y351.other W394 (Or.inl ne268)).other W410 (Or.inl ne292))
            have f417 := ((y353.other W394 (Or.inl ne268)).other W410 (Or.inl ne292))
            have f418 := (f399.wr W410)
            have f419 := (f400.other W410 (Or.inl ne300))
            have f420 := (f401.other W410 (Or.inl ne300))
            have f421 := (f402.other W410 ne302)
            have f422 := (A396.other W410 ne303)
            exact ih (i + 1) ((own_sep T f e0) + 1) (E.set i (own_sep T f e0)) (Q.set i f) h409 f414 f415 f416 f413 f417 f418 f419 f420 f421 f422 A412 (by rw [List.length_set]; exact hEl) (by rw [List.length_set]; exact hQl) (own_set0 (by omega) hQ0) (own_Eset hP (by omega) hfs) (own_GsT (by omega) hfs hS.1) (by omega) (by omega) hS.2 (by omega) ((((Keep.refl h0 [a]).trans K360 (allS (Or.inl (by simp)) all0)).wr W394 (Or.inr fr346)).wr W410 (Or.inr fr347))
        have f423 := (((((f305.wr W308).wr W314).wr W330).wr W337).wr W343)
        have f424 := (((f318.other W330 (Or.inl ne292)).other W337 (Or.inl ne268)).other W343 (Or.inl ne292))
        have f425 := ((f334.other W337 (Or.inl ne268)).other W343 (Or.inl ne292))
        have f426 := (f340.other W343 (Or.inl ne292))
        have f427 := ((((((((y33.ext E266).other W281 (Or.inr (slot_ne (Or.inr (w135 hw)) (Or.inr (w108 hw)) (by decide) (t := (.object "java/lang/String")) (t' := (.array .int)) (by decide) (by decide)))).ext E289).other W308 (Or.inr (slot_ne (Or.inr (w135 hw)) (Or.inr (w110 hw)) (by decide) (t := (.object "java/lang/String")) (t' := (.array .int)) (by decide) (by decide)))).other W314 (Or.inl ne268)).other W330 (Or.inl ne292)).other W337 (Or.inl ne268)).other W343 (Or.inl ne292))
        have f428 := (((f319.wr W330).wr W337).wr W343)
        have f429 := (((f320.other W330 (Or.inl ne300)).other W337 (Or.inl ne275)).other W343 (Or.inl ne300))
        have f430 := (((f321.other W330 (Or.inl ne300)).other W337 (Or.inl ne275)).other W343 (Or.inl ne300))
        have f431 := (((f322.other W330 ne302).other W337 ne276).other W343 ne302)
        have f432 := (A339.other W343 ne303)
        exact loop n' 2 ((own_sep T f0 e0) + 1) (((List.replicate (c + 1) 0).set 0 (own_sep T f0 e0)).set 1 ((own_sep T f0 e0) + 1)) (((List.replicate (c + 1) 0).set 0 f0).set 1 (own_sep T f0 e0)) h342 f423 f424 f425 f426 f427 f428 f429 f430 f431 f432 A345 (by rw [List.length_set, List.length_set, List.length_replicate]) (by rw [List.length_set, List.length_set, List.length_replicate]) (own_set0 (Nat.le_refl _) (own_geti' (by rw [List.length_replicate]; omega))) (own_Eset (own_Eset (fun j q => absurd q (Nat.not_lt_zero j)) (by rw [List.length_replicate]; omega) (by rw [hsp]; rfl)) (by rw [List.length_set, List.length_replicate]; omega) (by rw [hsp]; rfl)) (by rw [hsp]; rfl) (by omega) (Nat.le_refl _) hS.2 (by omega) ((((((((((Keep.refl h0 [a]).trans K40 (allS (Or.inl (by simp)) all0)).ext E266).wr W281 (Or.inl (by simp))).ext E289).wr W308 (Or.inl (by simp))).wr W314 (Or.inr fr346)).wr W330 (Or.inr fr347)).wr W337 (Or.inr fr346)).wr W343 (Or.inr fr347))
    | succ d ih =>
      intro i c hi hc
      refine Wk.iload (pc' := 133) d14_131 rfl rfl ?_
      refine Wk.iload (pc' := 135) d14_133 rfl rfl ?_
      refine Wk.icmp_geN (pc' := 138) d14_135 rfl ((own_lt (by omega) (by omega)).mpr (by omega)) ?_
      refine Wk.iload (pc' := 140) d14_138 rfl rfl ?_
      refine Wk.aloadN (pc' := 141) d14_140 rfl rfl rfl ?_
      refine Wk.getF (a0 := a0) (pc' := 144) (host := "") (Or.inl (w104 hw)) Via.refl y30 d14_141 rfl ?_
      refine Wk.iload (pc' := 146) d14_144 rfl rfl ?_
      refine Wk.callV (a0 := a0) (pc' := 149) (k' := 6) (n' := 64) (W := 1) (b := b_s_chr) (argsL := [(.int (Int32.ofNat i))]) (rest := [(.int (Int32.ofNat c))]) (y := (⟨"java/lang/String", "charAt", "(I)C"⟩ : MethodName)) (rm_s_chr hw t2 tv2 tq2 T i sf cs hX28 (some (Ts2, Lk2)) P0 G_cs P2 G_sf y34 y35 y36 y37 (by omega) (by omega) hTL) y34 (w158 hw) (w145 hw) (w147 hw) (w147 hw) (w146 hw) (w23 hw) (w148 hw) (by decide) (Nat.le_refl _) id (Nat.le_of_ble_eq_true rfl) (Nat.le_of_ble_eq_true rfl) rfl rfl (Nat.le_of_ble_eq_true rfl) (Nat.le_of_ble_eq_true rfl) rfl pd25 rfl rfl rfl (Nat.le_of_ble_eq_true rfl) d14_146 rfl fun v433 h434 J435 hs436 hQ437 => ?_
      obtain ⟨rfl, rfl, rfl⟩ := hQ437
      show Wk _ hX28 6 64 (some (Ts2, Lk2)) 149 #[.val (.ref a), .val (.ref t), .val (.int (Int32.ofNat s)), .val (.int (Int32.ofNat e)), .val (.ref dl), .val (.int (124 : Int32)), .val (.int (own_bi hd)), .val (.int z7), .val (.int (Int32.ofNat f0)), .val (.int (Int32.ofNat e0)), .val (.int (Int32.ofNat c)), .val (.int (Int32.ofNat i)), .unset] [(.int (T.getD i 0)), (.int (Int32.ofNat c))]
      refine Wk.iload (pc' := 151) d14_149 rfl rfl ?_
      by_cases c151_438 : (T.getD i 0) = (124 : Int32)
      · refine Wk.icmp_neN (pc' := 154) d14_151 rfl c151_438 ?_
        refine Wk.iconst (pc' := 155) (v := 1) d14_154 rfl rfl ?_
        refine Wk.goto (pc' := 159) d14_155 (by decide) ?_
        refine Wk.iadd (pc' := 160) d14_159 rfl ?_
        rw [own_succ (by have := own_cn_le T (e0 - f0) f0; omega)]
        refine Wk.istore (pc' := 162) #[.val (.ref a), .val (.ref t), .val (.int (Int32.ofNat s)), .val (.int (Int32.ofNat e)), .val (.ref dl), .val (.int (124 : Int32)), .val (.int (own_bi hd)), .val (.int z7), .val (.int (Int32.ofNat f0)), .val (.int (Int32.ofNat e0)), .val (.int (Int32.ofNat (c + 1))), .val (.int (Int32.ofNat i)), .unset] d14_160 rfl rfl ?_
        refine Wk.iinc (pc' := 165) (v := 1) (Ls' := #[.val (.ref a), .val (.ref t), .val (.int (Int32.ofNat s)), .val (.int (Int32.ofNat e)), .val (.ref dl), .val (.int (124 : Int32)), .val (.int (own_bi hd)), .val (.int z7), .val (.int (Int32.ofNat f0)), .val (.int (Int32.ofNat e0)), .val (.int (Int32.ofNat (c + 1))), .val (.int ((Int32.ofNat i) + (1 : Int32))), .unset]) d14_162 rfl rfl rfl rfl ?_
        rw [own_succ (by omega)]
        refine Wk.goto (pc' := 131) d14_165 (by decide) ?_
        exact ih (i + 1) (c + 1) (by omega) (by have q := hc; rw [own_cn, if_pos c151_438] at q; omega)
      · refine Wk.icmp_neY (pc' := 158) d14_151 (by decide) c151_438 ?_
        refine Wk.iconst (pc' := 159) (v := 0) d14_158 rfl rfl ?_
        refine Wk.iadd (pc' := 160) d14_159 rfl ?_
        rw [Int32.add_zero]
        refine Wk.istore (pc' := 162) #[.val (.ref a), .val (.ref t), .val (.int (Int32.ofNat s)), .val (.int (Int32.ofNat e)), .val (.ref dl), .val (.int (124 : Int32)), .val (.int (own_bi hd)), .val (.int z7), .val (.int (Int32.ofNat f0)), .val (.int (Int32.ofNat e0)), .val (.int (Int32.ofNat c)), .val (.int (Int32.ofNat i)), .unset] d14_160 rfl rfl ?_
        refine Wk.iinc (pc' := 165) (v := 1) (Ls' := #[.val (.ref a), .val (.ref t), .val (.int (Int32.ofNat s)), .val (.int (Int32.ofNat e)), .val (.ref dl), .val (.int (124 : Int32)), .val (.int (own_bi hd)), .val (.int z7), .val (.int (Int32.ofNat f0)), .val (.int (Int32.ofNat e0)), .val (.int (Int32.ofNat c)), .val (.int ((Int32.ofNat i) + (1 : Int32))), .unset]) d14_162 rfl rfl rfl rfl ?_
        rw [own_succ (by omega)]
        refine Wk.goto (pc' := 131) d14_165 (by decide) ?_
        exact ih (i + 1) c (by omega) (by have q := hc; rw [own_cn, if_neg c151_438] at q; omega)
  by_cases hh : own_hd X s e
  · skip
    refine Wk.if_eqN (pc' := 21) d14_18 rfl (by rw [decide_eq_true (show (s + 3 ≤ 6 ∧ own_m3 X s) from ⟨by have := hh.1; omega, hh.2.1⟩)]; decide) ?_
    refine Wk.aloadN (pc' := 22) d14_21 rfl rfl rfl ?_
    refine Wk.iload (pc' := 24) d14_22 rfl rfl ?_
    refine Wk.iloadN (pc' := 25) d14_24 rfl rfl ?_
    refine Wk.iloadN (pc' := 26) d14_25 rfl rfl ?_
    refine Wk.callS (a0 := a0) (pc' := 29) (k' := 2) (n' := 16) (W := 0) (b := b_pae) (argsL := [(.ref t), (.int (124 : Int32)), (.int (Int32.ofNat s)), (.int (Int32.ofNat e))]) (rest := []) (rm_pae hw t v' q X s e cs sf h9 (some (("MSH" :: Ts), [("com/example/quittance/quittance/Segment", 24, al6)])) P0 G_cs P2 G_sf f19 f20 f21 f22 hse (by omega) (by omega) hL) (w99 hw) (w100 hw) (w21 hw) (w101 hw) (by decide) (Nat.le_refl _) id (Nat.le_of_ble_eq_true rfl) (Nat.le_of_ble_eq_true rfl) rfl rfl (Nat.le_of_ble_eq_true rfl) (Nat.le_of_ble_eq_true rfl) rfl pd34 rfl rfl rfl (Nat.le_of_ble_eq_true rfl) d14_26 rfl fun v439 h440 J441 hs442 hQ443 => ?_
    obtain ⟨rfl, rfl, rfl⟩ := hQ443
    show Wk _ h9 2 16 (some (("MSH" :: Ts), [("com/example/quittance/quittance/Segment", 24, al6)])) 29 #[.val (.ref a), .val (.ref t), .val (.int (Int32.ofNat s)), .val (.int (Int32.ofNat e)), .val (.ref dl), .val (.int (124 : Int32)), .unset, .unset, .unset, .unset, .unset, .unset, .unset] [(.int (Int32.ofNat (own_sep X s e)))]
    refine Wk.iloadN (pc' := 30) d14_29 rfl rfl ?_
    refine Wk.iconst (pc' := 31) (v := 3) d14_30 rfl rfl ?_
    refine Wk.iadd (pc' := 32) d14_31 rfl ?_
    rw [(show Int32.ofNat s + (3 : Int32) = Int32.ofNat (s + 3) from own_addn s 3)]
    refine Wk.icmp_neN (pc' := 35) d14_32 rfl (by rw [own_hd_sep hh]) ?_
    refine Wk.iconst (pc' := 36) (v := 1) d14_35 rfl rfl ?_
    refine Wk.goto (pc' := 40) d14_36 (by decide) ?_
    refine Wk.istore (pc' := 42) #[.val (.ref a), .val (.ref t), .val (.int (Int32.ofNat s)), .val (.int (Int32.ofNat e)), .val (.ref dl), .val (.int (124 : Int32)), .val (.int (1 : Int32)), .unset, .unset, .unset, .unset, .unset, .unset] d14_40 rfl rfl ?_
    refine Wk.iload (pc' := 44) d14_42 rfl rfl ?_
    refine Wk.if_eqN (pc' := 47) d14_44 rfl (by decide) ?_
    by_cases hb : e = s + 3
    · skip
      refine Wk.iloadN (pc' := 48) d14_47 rfl rfl ?_
      refine Wk.iloadN (pc' := 49) d14_48 rfl rfl ?_
      refine Wk.iconst (pc' := 50) (v := 3) d14_49 rfl rfl ?_
      refine Wk.iadd (pc' := 51) d14_50 rfl ?_
      rw [(show Int32.ofNat s + (3 : Int32) = Int32.ofNat (s + 3) from own_addn s 3)]
      refine Wk.icmp_neN (pc' := 54) d14_51 rfl (by rw [hb]) ?_
      refine Wk.iconst (pc' := 55) (v := 1) d14_54 rfl rfl ?_
      refine Wk.goto (pc' := 59) d14_55 (by decide) ?_
      refine Wk.istore (pc' := 61) #[.val (.ref a), .val (.ref t), .val (.int (Int32.ofNat s)), .val (.int (Int32.ofNat e)), .val (.ref dl), .val (.int (124 : Int32)), .val (.int (1 : Int32)), .val (.int (1 : Int32)), .unset, .unset, .unset, .unset, .unset] d14_59 rfl rfl ?_
      refine Wk.aloadN (pc' := 62) d14_61 rfl rfl rfl ?_
      refine Wk.aload (pc' := 64) d14_62 rfl rfl rfl ?_
      have f444 := (P5.ext E10)
      refine Wk.putF (a0 := a0) (pc' := 67) (host := "") (Or.inl (w102 hw)) Via.refl P10 f444 f16 (Or.inr ⟨(w103 hw), rfl, rfl⟩) (w46 hw) (ty := (.object "com/example/quittance/quittance/Delimiters")) (by decide) rfl rfl d14_64 rfl fun h445 W446 => ?_
      have F447 := f444.same W446
      refine Wk.aloadN (pc' := 68) d14_67 rfl rfl rfl ?_
      refine Wk.iload (pc' := 70) d14_68 rfl rfl ?_
      refine Wk.if_eqN (pc' := 73) d14_70 rfl (by decide) ?_
      refine Wk.newO (a0 := a0) (pc' := 76) (k' := 3) (n' := 20) (w178 hw) (w179 hw) (w180 hw) d14_73 rfl rfl rfl (Nat.le_of_ble_eq_true rfl) (Nat.le_of_ble_eq_true rfl) fun a448 h449 hg450 hN451 E452 A453 D454 => ?_
      have f455 := (f16.wr W446)
      have ne456 : a ≠ a448 := Nat.ne_of_lt (Nat.lt_of_lt_of_le f455.lt hg450)
      have f457 := (f19.wr W446)
      have ne458 : t ≠ a448 := Nat.ne_of_lt (Nat.lt_of_lt_of_le f457.lt hg450)
      have f459 := (f22.other W446 P18)
      have ne460 : v' ≠ a448 := Nat.ne_of_lt (Nat.lt_of_lt_of_le f459.lt hg450)
      have f461 := ((P15.ext E10).wr W446)
      have ne462 : dl ≠ a448 := Nat.ne_of_lt (Nat.lt_of_lt_of_le f461.lt hg450)
      have f463 := (X11.wr W446)
      have ne464 : al6 ≠ a448 := Nat.ne_of_lt (Nat.lt_of_lt_of_le f463.lt hg450)
      have f465 := (A14.other W446 (Ne.symm ne18))
      have ne466 : bl7 ≠ a448 := Nat.ne_of_lt (Nat.lt_of_lt_of_le f465.lt hg450)
      have F467 : Fld Z h449 a448 "java/lang/AbstractStringBuilder" "value" "[B" .null := D454 (Or.inl (w193 hw)) (ty := (.array .byte)) (by decide)
      have F468 : Fld Z h449 a448 "java/lang/AbstractStringBuilder" "coder" "B" (.int (0 : Int32)) := D454 (Or.inl (w195 hw)) (ty := .byte) (by decide)
      have F469 : Fld Z h449 a448 "java/lang/AbstractStringBuilder" "count" "I" (.int (0 : Int32)) := D454 (Or.inl (w208 hw)) (ty := .int) (by decide)
      refine Wk.dup (pc' := 77) d14_76 rfl rfl ?_
      refine Wk.callN (a0 := a0) (pc' := 80) (k' := 4) (n' := 36) (W := 2) (b := b_c_inS) (argsL := []) (rest := [(.ref a448), (.ref a)]) (rm_c_inS hw a448 cs h449 (some (("MSH" :: Ts), [("com/example/quittance/quittance/Segment", 24, al6)])) P0 G_cs A453 F467 F468 F469 hN451) rfl rfl (w181 hw) (w182 hw) (w180 hw) (w183 hw) (by decide) (Nat.le_refl _) id (Nat.le_of_ble_eq_true rfl) (Nat.le_of_ble_eq_true rfl) rfl rfl (Nat.le_of_ble_eq_true rfl) (Nat.le_of_ble_eq_true rfl) rfl pd24 rfl rfl rfl (Nat.le_of_ble_eq_true rfl) d14_77 rfl fun v470 h471 J472 hs473 hQ474 => ?_
      obtain ⟨b475, qb476, rfl, rfl, K477, g478, g479, g480, g481, g482, g483, g484⟩ := hQ474
      have ne485 : a ≠ b475 := Nat.ne_of_lt (Nat.lt_of_lt_of_le (f455.ext E452).lt g478)
      have ne486 : t ≠ b475 := Nat.ne_of_lt (Nat.lt_of_lt_of_le (f457.ext E452).lt g478)
      have ne487 : v' ≠ b475 := Nat.ne_of_lt (Nat.lt_of_lt_of_le (f459.ext E452).lt g478)
      have ne488 : dl ≠ b475 := Nat.ne_of_lt (Nat.lt_of_lt_of_le (f461.ext E452).lt g478)
      have ne489 : al6 ≠ b475 := Nat.ne_of_lt (Nat.lt_of_lt_of_le (f463.ext E452).lt g478)
      have ne490 : bl7 ≠ b475 := Nat.ne_of_lt (Nat.lt_of_lt_of_le (f465.ext E452).lt g478)
      have ne491 : a448 ≠ b475 := Nat.ne_of_lt (Nat.lt_of_lt_of_le A453.lt g478)
      show Wk _ h471 4 36 (some (("MSH" :: Ts), [("com/example/quittance/quittance/Segment", 24, al6)])) 80 #[.val (.ref a), .val (.ref t), .val (.int (Int32.ofNat s)), .val (.int (Int32.ofNat e)), .val (.ref dl), .val (.int (124 : Int32)), .val (.int (1 : Int32)), .val (.int (1 : Int32)), .unset, .unset, .unset, .unset, .unset] [(.ref a448), (.ref a)]
      refine Wk.ldcAgain (a0 := a0) (pc' := 82) (w79 hw) (List.mem_singleton.mpr rfl) d14_80 rfl ?_
      have f492 := (A453.keep K477)
      have f493 := ((f463.ext E452).keep K477)
      have f494 := (((V13.other W446 (Or.inl (Ne.symm ne17))).ext E452).keep K477 (ninS ne464 nin0))
      have f495 := (((C12.other W446 (Or.inl (Ne.symm ne17))).ext E452).keep K477 (ninS ne464 nin0))
      have f496 := ((f465.ext E452).keep K477 (ninS ne466 nin0))
      refine Wk.callV (a0 := a0) (pc' := 85) (k' := 4) (n' := 36) (W := 1) (b := b_b_apS) (argsL := [(.ref al6)]) (rest := [(.ref a)]) (y := (⟨"java/lang/StringBuilder", "append", "(Ljava/lang/String;)Ljava/lang/StringBuilder;"⟩ : MethodName)) (rm_b_apS hw a448 b475 qb476 own_nil 16 al6 bl7 ql8 own_msh cs h471 (some (("MSH" :: Ts), [("com/example/quittance/quittance/Segment", 24, al6)])) P0 G_cs f492 g481 g482 g483 g484 f493 f494 f495 f496 hN451 g479 g480 ne489 ne490 (by decide) (by decide)) f492 (w196 hw) (w197 hw) (w199 hw) (w199 hw) (w198 hw) (w180 hw) (w200 hw) (by decide) (Nat.le_refl _) id (Nat.le_of_ble_eq_true rfl) (Nat.le_of_ble_eq_true rfl) rfl rfl (Nat.le_of_ble_eq_true rfl) (Nat.le_of_ble_eq_true rfl) rfl pd35 rfl rfl rfl (Nat.le_of_ble_eq_true rfl) d14_82 rfl fun v497 h498 J499 hs500 hQ501 => ?_
      obtain ⟨rfl, rfl, K502, g503, g504, g505, g506⟩ := hQ501
      show Wk _ h498 4 36 (some (("MSH" :: Ts), [("com/example/quittance/quittance/Segment", 24, al6)])) 85 #[.val (.ref a), .val (.ref t), .val (.int (Int32.ofNat s)), .val (.int (Int32.ofNat e)), .val (.ref dl), .val (.int (124 : Int32)), .val (.int (1 : Int32)), .val (.int (1 : Int32)), .unset, .unset, .unset, .unset, .unset] [(.ref a448), (.ref a)]
      refine Wk.iload (pc' := 87) d14_85 rfl rfl ?_
      have f507 := (f492.keep K502)
      refine Wk.callV (a0 := a0) (pc' := 90) (k' := 4) (n' := 36) (W := 1) (b := b_b_apC) (argsL := [(.int (124 : Int32))]) (rest := [(.ref a)]) (y := (⟨"java/lang/StringBuilder", "append", "(C)Ljava/lang/StringBuilder;"⟩ : MethodName)) (rm_b_apC hw a448 b475 qb476 (own_nil ++ own_msh) 16 (124 : Int32) cs h498 (some (("MSH" :: Ts), [("com/example/quittance/quittance/Segment", 24, al6)])) P0 G_cs f507 g503 g504 g505 g506 hN451 g479 g480 (by decide) (by decide) ⟨by decide, by decide⟩) f507 (w231 hw) (w232 hw) (w234 hw) (w234 hw) (w233 hw) (w180 hw) (w235 hw) (by decide) (Nat.le_refl _) id (Nat.le_of_ble_eq_true rfl) (Nat.le_of_ble_eq_true rfl) rfl rfl (Nat.le_of_ble_eq_true rfl) (Nat.le_of_ble_eq_true rfl) rfl pd36 rfl rfl rfl (Nat.le_of_ble_eq_true rfl) d14_87 rfl fun v508 h509 J510 hs511 hQ512 => ?_
      obtain ⟨rfl, rfl, K513, g514, g515, g516, g517⟩ := hQ512
      show Wk _ h509 4 36 (some (("MSH" :: Ts), [("com/example/quittance/quittance/Segment", 24, al6)])) 90 #[.val (.ref a), .val (.ref t), .val (.int (Int32.ofNat s)), .val (.int (Int32.ofNat e)), .val (.ref dl), .val (.int (124 : Int32)), .val (.int (1 : Int32)), .val (.int (1 : Int32)), .unset, .unset, .unset, .unset, .unset] [(.ref a448), (.ref a)]
      have f518 := (f507.keep K513)
      refine Wk.callV (a0 := a0) (pc' := 93) (k' := 6) (n' := 64) (W := 1) (b := b_t_str) (argsL := []) (rest := [(.ref a)]) (y := (⟨"java/lang/StringBuilder", "toString", "()Ljava/lang/String;"⟩ : MethodName)) (rm_t_str hw a448 b475 qb476 ((own_nil ++ own_msh) ++ [(124 : Int32)]) 16 cs h509 (some (("MSH" :: Ts), [("com/example/quittance/quittance/Segment", 24, al6)])) P0 G_cs f518 g514 g515 g516 g517 (by decide) (by decide) (by decide)) f518 (w248 hw) (w249 hw) (w251 hw) (w251 hw) (w250 hw) (w180 hw) (w252 hw) (by decide) (Nat.le_refl _) id (Nat.le_of_ble_eq_true rfl) (Nat.le_of_ble_eq_true rfl) rfl rfl (Nat.le_of_ble_eq_true rfl) (Nat.le_of_ble_eq_true rfl) rfl pd37 rfl rfl rfl (Nat.le_of_ble_eq_true rfl) d14_90 rfl fun v519 h520 J521 hs522 hQ523 => ?_
      obtain ⟨r524, v'525, q'526, rfl, rfl, E527, g528, g529, g530, g531, g532⟩ := hQ523
      have ne533 : a ≠ r524 := Nat.ne_of_lt (Nat.lt_of_lt_of_le ((((f455.ext E452).keep K477).keep K502).keep K513).lt g528)
      have ne534 : t ≠ r524 := Nat.ne_of_lt (Nat.lt_of_lt_of_le ((((f457.ext E452).keep K477).keep K502).keep K513).lt g528)
      have ne535 : v' ≠ r524 := Nat.ne_of_lt (Nat.lt_of_lt_of_le ((((f459.ext E452).keep K477 (ninS ne460 nin0)).keep K502 (ninS ne460 (ninS ne487 nin0))).keep K513 (ninS ne460 (ninS ne487 nin0))).lt g528)
      have ne536 : dl ≠ r524 := Nat.ne_of_lt (Nat.lt_of_lt_of_le ((((f461.ext E452).keep K477).keep K502).keep K513).lt g528)
      have ne537 : al6 ≠ r524 := Nat.ne_of_lt (Nat.lt_of_lt_of_le ((f493.keep K502).keep K513).lt g528)
      have ne538 : bl7 ≠ r524 := Nat.ne_of_lt (Nat.lt_of_lt_of_le ((f496.keep K502 (ninS ne466 (ninS ne490 nin0))).keep K513 (ninS ne466 (ninS ne490 nin0))).lt g528)
      have ne539 : a448 ≠ r524 := Nat.ne_of_lt (Nat.lt_of_lt_of_le f518.lt g528)
      have ne540 : b475 ≠ r524 := Nat.ne_of_lt (Nat.lt_of_lt_of_le g517.lt g528)
      show Wk _ h520 6 64 (some (("MSH" :: Ts), [("com/example/quittance/quittance/Segment", 24, al6)])) 93 #[.val (.ref a), .val (.ref t), .val (.int (Int32.ofNat s)), .val (.int (Int32.ofNat e)), .val (.ref dl), .val (.int (124 : Int32)), .val (.int (1 : Int32)), .val (.int (1 : Int32)), .unset, .unset, .unset, .unset, .unset] [(.ref r524), (.ref a)]
      have A541 : Arv Z h520 v'525 q'526 .byte (Int32.ofNat own_bare.length) (own_bare.map own_by) (.int (0 : Int32)) := g532
      have f542 := (((((f455.ext E452).keep K477).keep K502).keep K513).ext E527)
      have ne543 : a ≠ r524 := Exa.ne f542 g529 (by decide)
      have ne544 : a ≠ v'525 := by obtain ⟨c0, A0, -⟩ := A541; exact ne_arr f542 (w46 hw) A0
      refine Wk.goto (pc' := 97) d14_93 (by decide) ?_
      have f545 := (((((((P6.ext E10).other W446 (Or.inr (slot_ne (Or.inr (w105 hw)) (Or.inr (w103 hw)) (by decide) (t := (.object "java/lang/String")) (t' := (.object "com/example/quittance/quittance/Delimiters")) (by decide) (by decide)))).ext E452).keep K477 (ninS ne456 nin0)).keep K502 (ninS ne456 (ninS ne485 nin0))).keep K513 (ninS ne456 (ninS ne485 nin0))).ext E527)
      refine Wk.putF (a0 := a0) (pc' := 100) (host := "") (Or.inl (w104 hw)) Via.refl P10 f545 f542 (Or.inr ⟨(w105 hw), rfl, rfl⟩) (w46 hw) (ty := (.object "java/lang/String")) (by decide) rfl rfl d14_97 rfl fun h546 W547 => ?_
      have F548 := f545.same W547
      refine Wk.iload (pc' := 102) d14_100 rfl rfl ?_
      refine Wk.if_eqN (pc' := 105) d14_102 rfl (by decide) ?_
      refine Wk.iconst (pc' := 106) (v := 0) d14_105 rfl rfl ?_
      refine Wk.goto (pc' := 110) d14_106 (by decide) ?_
      refine Wk.istore (pc' := 112) #[.val (.ref a), .val (.ref t), .val (.int (Int32.ofNat s)), .val (.int (Int32.ofNat e)), .val (.ref dl), .val (.int (124 : Int32)), .val (.int (1 : Int32)), .val (.int (1 : Int32)), .val (.int (0 : Int32)), .unset, .unset, .unset, .unset] d14_110 rfl rfl ?_
      refine Wk.iload (pc' := 114) d14_112 rfl rfl ?_
      refine Wk.if_eqN (pc' := 117) d14_114 rfl (by decide) ?_
      refine Wk.iconst (pc' := 118) (v := 4) d14_117 rfl rfl ?_
      refine Wk.goto (pc' := 122) d14_118 (by decide) ?_
      refine Wk.istore (pc' := 124) #[.val (.ref a), .val (.ref t), .val (.int (Int32.ofNat s)), .val (.int (Int32.ofNat e)), .val (.ref dl), .val (.int (124 : Int32)), .val (.int (1 : Int32)), .val (.int (1 : Int32)), .val (.int (0 : Int32)), .val (.int (4 : Int32)), .unset, .unset, .unset] d14_122 rfl rfl ?_
      have f549 := (f542.wr W547)
      have f550 := ((((((((P7.ext E10).other W446 (Or.inr (slot_ne (Or.inr (w108 hw)) (Or.inr (w103 hw)) (by decide) (t := (.array .int)) (t' := (.object "com/example/quittance/quittance/Delimiters")) (by decide) (by decide)))).ext E452).keep K477 (ninS ne456 nin0)).keep K502 (ninS ne456 (ninS ne485 nin0))).keep K513 (ninS ne456 (ninS ne485 nin0))).ext E527).other W547 (Or.inr (slot_ne (Or.inr (w108 hw)) (Or.inr (w105 hw)) (by decide) (t := (.array .int)) (t' := (.object "java/lang/String")) (by decide) (by decide))))
      have f551 := ((((((((P8.ext E10).other W446 (Or.inr (slot_ne (Or.inr (w110 hw)) (Or.inr (w103 hw)) (by decide) (t := (.array .int)) (t' := (.object "com/example/quittance/quittance/Delimiters")) (by decide) (by decide)))).ext E452).keep K477 (ninS ne456 nin0)).keep K502 (ninS ne456 (ninS ne485 nin0))).keep K513 (ninS ne456 (ninS ne485 nin0))).ext E527).other W547 (Or.inr (slot_ne (Or.inr (w110 hw)) (Or.inr (w105 hw)) (by decide) (t := (.array .int)) (t' := (.object "java/lang/String")) (by decide) (by decide))))
      have f552 := ((((((((P9.ext E10).other W446 (Or.inr (slot_ne (Or.inr (w135 hw)) (Or.inr (w103 hw)) (by decide) (t := (.object "java/lang/String")) (t' := (.object "com/example/quittance/quittance/Delimiters")) (by decide) (by decide)))).ext E452).keep K477 (ninS ne456 nin0)).keep K502 (ninS ne456 (ninS ne485 nin0))).keep K513 (ninS ne456 (ninS ne485 nin0))).ext E527).other W547 (Or.inr (slot_ne (Or.inr (w135 hw)) (Or.inr (w105 hw)) (by decide) (t := (.object "java/lang/String")) (t' := (.object "java/lang/String")) (by decide) (by decide))))
      have f553 := (g529.wr W547)
      have f554 := (g530.other W547 (Or.inl (Ne.symm ne543)))
      have f555 := (g531.other W547 (Or.inl (Ne.symm ne543)))
      have f556 := (A541.other W547 (Ne.symm ne544))
      exact J124 r524 v'525 q'526 own_bare 0 4 true _ _ _ h546 f549 F548 f550 f551 f552 f553 f554 f555 f556 (Ne.symm ne543) (Ne.symm ne544) (by decide) (own_Lc ⟨by decide, by decide⟩ (own_Lc ⟨by decide, by decide⟩ (own_Lc ⟨by decide, by decide⟩ (own_Lc ⟨by decide, by decide⟩ own_Ln)))) (by decide) (by decide) (fun _ => by decide) (own_G3 hh hb) (fun q => (List.mem_cons.mp q).elim (fun r => absurd r (by decide)) hT0) (((((((((Keep.refl h0 [a]).ext E10).wr W446 (Or.inl (by simp))).ext E452).trans K477 (allS (Or.inr (Nat.le_trans (Nat.le_trans E10.1 (Keep.of_wr W446).1) hg450)) all0)).trans K502 (allS (Or.inr (Nat.le_trans (Nat.le_trans E10.1 (Keep.of_wr W446).1) hg450)) (allS (Or.inr (Nat.le_trans (Nat.le_trans (Nat.le_trans E10.1 (Keep.of_wr W446).1) E452.1) g478)) all0))).trans K513 (allS (Or.inr (Nat.le_trans (Nat.le_trans E10.1 (Keep.of_wr W446).1) hg450)) (allS (Or.inr (Nat.le_trans (Nat.le_trans (Nat.le_trans E10.1 (Keep.of_wr W446).1) E452.1) g478)) all0))).ext E527).wr W547 (Or.inl (by simp)))
    · skip
      refine Wk.iloadN (pc' := 48) d14_47 rfl rfl ?_
      refine Wk.iloadN (pc' := 49) d14_48 rfl rfl ?_
      refine Wk.iconst (pc' := 50) (v := 3) d14_49 rfl rfl ?_
      refine Wk.iadd (pc' := 51) d14_50 rfl ?_
      rw [(show Int32.ofNat s + (3 : Int32) = Int32.ofNat (s + 3) from own_addn s 3)]
      refine Wk.icmp_neY (pc' := 58) d14_51 (by decide) (mt (own_eq (by omega) (by omega)).mp hb) ?_
      refine Wk.iconst (pc' := 59) (v := 0) d14_58 rfl rfl ?_
      refine Wk.istore (pc' := 61) #[.val (.ref a), .val (.ref t), .val (.int (Int32.ofNat s)), .val (.int (Int32.ofNat e)), .val (.ref dl), .val (.int (124 : Int32)), .val (.int (1 : Int32)), .val (.int (0 : Int32)), .unset, .unset, .unset, .unset, .unset] d14_59 rfl rfl ?_
      refine Wk.aloadN (pc' := 62) d14_61 rfl rfl rfl ?_
      refine Wk.aload (pc' := 64) d14_62 rfl rfl rfl ?_
      have f557 := (P5.ext E10)
      refine Wk.putF (a0 := a0) (pc' := 67) (host := "") (Or.inl (w102 hw)) Via.refl P10 f557 f16 (Or.inr ⟨(w103 hw), rfl, rfl⟩) (w46 hw) (ty := (.object "com/example/quittance/quittance/Delimiters")) (by decide) rfl rfl d14_64 rfl fun h558 W559 => ?_
      have F560 := f557.same W559
      refine Wk.aloadN (pc' := 68) d14_67 rfl rfl rfl ?_
      refine Wk.iload (pc' := 70) d14_68 rfl rfl ?_
      refine Wk.if_eqY (pc' := 96) d14_70 (by decide) rfl ?_
      refine Wk.aloadN (pc' := 97) d14_96 rfl rfl rfl ?_
      have f561 := (f16.wr W559)
      have f562 := ((P6.ext E10).other W559 (Or.inr (slot_ne (Or.inr (w105 hw)) (Or.inr (w103 hw)) (by decide) (t := (.object "java/lang/String")) (t' := (.object "com/example/quittance/quittance/Delimiters")) (by decide) (by decide))))
      refine Wk.putF (a0 := a0) (pc' := 100) (host := "") (Or.inl (w104 hw)) Via.refl P10 f562 f561 (Or.inr ⟨(w105 hw), rfl, rfl⟩) (w46 hw) (ty := (.object "java/lang/String")) (by decide) rfl rfl d14_97 rfl fun h563 W564 => ?_
      have F565 := f562.same W564
      refine Wk.iload (pc' := 102) d14_100 rfl rfl ?_
      refine Wk.if_eqY (pc' := 109) d14_102 (by decide) rfl ?_
      refine Wk.iloadN (pc' := 110) d14_109 rfl rfl ?_
      refine Wk.istore (pc' := 112) #[.val (.ref a), .val (.ref t), .val (.int (Int32.ofNat s)), .val (.int (Int32.ofNat e)), .val (.ref dl), .val (.int (124 : Int32)), .val (.int (1 : Int32)), .val (.int (0 : Int32)), .val (.int (Int32.ofNat s)), .unset, .unset, .unset, .unset] d14_110 rfl rfl ?_
      refine Wk.iload (pc' := 114) d14_112 rfl rfl ?_
      refine Wk.if_eqY (pc' := 121) d14_114 (by decide) rfl ?_
      refine Wk.iloadN (pc' := 122) d14_121 rfl rfl ?_
      refine Wk.istore (pc' := 124) #[.val (.ref a), .val (.ref t), .val (.int (Int32.ofNat s)), .val (.int (Int32.ofNat e)), .val (.ref dl), .val (.int (124 : Int32)), .val (.int (1 : Int32)), .val (.int (0 : Int32)), .val (.int (Int32.ofNat s)), .val (.int (Int32.ofNat e)), .unset, .unset, .unset] d14_122 rfl rfl ?_
      have f566 := (f561.wr W564)
      have f567 := (((P7.ext E10).other W559 (Or.inr (slot_ne (Or.inr (w108 hw)) (Or.inr (w103 hw)) (by decide) (t := (.array .int)) (t' := (.object "com/example/quittance/quittance/Delimiters")) (by decide) (by decide)))).other W564 (Or.inr (slot_ne (Or.inr (w108 hw)) (Or.inr (w105 hw)) (by decide) (t := (.array .int)) (t' := (.object "java/lang/String")) (by decide) (by decide))))
      have f568 := (((P8.ext E10).other W559 (Or.inr (slot_ne (Or.inr (w110 hw)) (Or.inr (w103 hw)) (by decide) (t := (.array .int)) (t' := (.object "com/example/quittance/quittance/Delimiters")) (by decide) (by decide)))).other W564 (Or.inr (slot_ne (Or.inr (w110 hw)) (Or.inr (w105 hw)) (by decide) (t := (.array .int)) (t' := (.object "java/lang/String")) (by decide) (by decide))))
      have f569 := (((P9.ext E10).other W559 (Or.inr (slot_ne (Or.inr (w135 hw)) (Or.inr (w103 hw)) (by decide) (t := (.object "java/lang/String")) (t' := (.object "com/example/quittance/quittance/Delimiters")) (by decide) (by decide)))).other W564 (Or.inr (slot_ne (Or.inr (w135 hw)) (Or.inr (w105 hw)) (by decide) (t := (.object "java/lang/String")) (t' := (.object "java/lang/String")) (by decide) (by decide))))
      have f570 := ((f19.wr W559).wr W564)
      have f571 := ((f20.other W559 (Or.inl P17)).other W564 (Or.inl P17))
      have f572 := ((f21.other W559 (Or.inl P17)).other W564 (Or.inl P17))
      have f573 := ((f22.other W559 P18).other W564 P18)
      refine Wk.more (k' := 6) (n' := 64) (Nat.le_of_ble_eq_true rfl) (Nat.le_of_ble_eq_true rfl) ?_
      exact J124 t v' q X s e true _ _ _ h563 f566 F565 f567 f568 f569 f570 f571 f572 f573 P17 P18 (by omega) hL hse (by omega) (fun _ => ⟨own_hd_sep hh, by have := hh.1; omega⟩) (own_G2 he hh hb) (fun q => (List.mem_cons.mp q).elim (fun r => absurd r (by decide)) hT0) ((((Keep.refl h0 [a]).ext E10).wr W559 (Or.inl (by simp))).wr W564 (Or.inl (by simp)))
  · skip
    by_cases hsw : (s + 3 ≤ 6 ∧ own_m3 X s)
    · skip
      refine Wk.if_eqN (pc' := 21) d14_18 rfl (by rw [decide_eq_true hsw]; decide) ?_
      refine Wk.aloadN (pc' := 22) d14_21 rfl rfl rfl ?_
      refine Wk.iload (pc' := 24) d14_22 rfl rfl ?_
      refine Wk.iloadN (pc' := 25) d14_24 rfl rfl ?_
      refine Wk.iloadN (pc' := 26) d14_25 rfl rfl ?_
      refine Wk.callS (a0 := a0) (pc' := 29) (k' := 2) (n' := 16) (W := 0) (b := b_pae) (argsL := [(.ref t), (.int (124 : Int32)), (.int (Int32.ofNat s)), (.int (Int32.ofNat e))]) (rest := []) (rm_pae hw t v' q X s e cs sf h9 (some (("MSH" :: Ts), [("com/example/quittance/quittance/Segment", 24, al6)])) P0 G_cs P2 G_sf f19 f20 f21 f22 hse (by omega) (by omega) hL) (w99 hw) (w100 hw) (w21 hw) (w101 hw) (by decide) (Nat.le_refl _) id (Nat.le_of_ble_eq_true rfl) (Nat.le_of_ble_eq_true rfl) rfl rfl (Nat.le_of_ble_eq_true rfl) (Nat.le_of_ble_eq_true rfl) rfl pd34 rfl rfl rfl (Nat.le_of_ble_eq_true rfl) d14_26 rfl fun v574 h575 J576 hs577 hQ578 => ?_
      obtain ⟨rfl, rfl, rfl⟩ := hQ578
      show Wk _ h9 2 16 (some (("MSH" :: Ts), [("com/example/quittance/quittance/Segment", 24, al6)])) 29 #[.val (.ref a), .val (.ref t), .val (.int (Int32.ofNat s)), .val (.int (Int32.ofNat e)), .val (.ref dl), .val (.int (124 : Int32)), .unset, .unset, .unset, .unset, .unset, .unset, .unset] [(.int (Int32.ofNat (own_sep X s e)))]
      refine Wk.iloadN (pc' := 30) d14_29 rfl rfl ?_
      refine Wk.iconst (pc' := 31) (v := 3) d14_30 rfl rfl ?_
      refine Wk.iadd (pc' := 32) d14_31 rfl ?_
      rw [(show Int32.ofNat s + (3 : Int32) = Int32.ofNat (s + 3) from own_addn s 3)]
      refine Wk.icmp_neY (pc' := 39) d14_32 (by decide) (mt (own_eq (by have := own_sep_b (T := X) hse; omega) (by omega)).mp (fun q => hh (own_sep_hd hse hsw.2 q))) ?_
      refine Wk.iconst (pc' := 40) (v := 0) d14_39 rfl rfl ?_
      refine Wk.istore (pc' := 42) #[.val (.ref a), .val (.ref t), .val (.int (Int32.ofNat s)), .val (.int (Int32.ofNat e)), .val (.ref dl), .val (.int (124 : Int32)), .val (.int (0 : Int32)), .unset, .unset, .unset, .unset, .unset, .unset] d14_40 rfl rfl ?_
      refine Wk.iload (pc' := 44) d14_42 rfl rfl ?_
      refine Wk.if_eqY (pc' := 58) d14_44 (by decide) rfl ?_
      refine Wk.iconst (pc' := 59) (v := 0) d14_58 rfl rfl ?_
      refine Wk.istore (pc' := 61) #[.val (.ref a), .val (.ref t), .val (.int (Int32.ofNat s)), .val (.int (Int32.ofNat e)), .val (.ref dl), .val (.int (124 : Int32)), .val (.int (0 : Int32)), .val (.int (0 : Int32)), .unset, .unset, .unset, .unset, .unset] d14_59 rfl rfl ?_
      refine Wk.aloadN (pc' := 62) d14_61 rfl rfl rfl ?_
      refine Wk.aload (pc' := 64) d14_62 rfl rfl rfl ?_
      have f579 := (P5.ext E10)
      refine Wk.putF (a0 := a0) (pc' := 67) (host := "") (Or.inl (w102 hw)) Via.refl P10 f579 f16 (Or.inr ⟨(w103 hw), rfl, rfl⟩) (w46 hw) (ty := (.object "com/example/quittance/quittance/Delimiters")) (by decide) rfl rfl d14_64 rfl fun h580 W581 => ?_
      have F582 := f579.same W581
      refine Wk.aloadN (pc' := 68) d14_67 rfl rfl rfl ?_
      refine Wk.iload (pc' := 70) d14_68 rfl rfl ?_
      refine Wk.if_eqY (pc' := 96) d14_70 (by decide) rfl ?_
      refine Wk.aloadN (pc' := 97) d14_96 rfl rfl rfl ?_
      have f583 := (f16.wr W581)
      have f584 := ((P6.ext E10).other W581 (Or.inr (slot_ne (Or.inr (w105 hw)) (Or.inr (w103 hw)) (by decide) (t := (.object "java/lang/String")) (t' := (.object "com/example/quittance/quittance/Delimiters")) (by decide) (by decide))))
      refine Wk.putF (a0 := a0) (pc' := 100) (host := "") (Or.inl (w104 hw)) Via.refl P10 f584 f583 (Or.inr ⟨(w105 hw), rfl, rfl⟩) (w46 hw) (ty := (.object "java/lang/String")) (by decide) rfl rfl d14_97 rfl fun h585 W586 => ?_
      have F587 := f584.same W586
      refine Wk.iload (pc' := 102) d14_100 rfl rfl ?_
      refine Wk.if_eqY (pc' := 109) d14_102 (by decide) rfl ?_
      refine Wk.iloadN (pc' := 110) d14_109 rfl rfl ?_
      refine Wk.istore (pc' := 112) #[.val (.ref a), .val (.ref t), .val (.int (Int32.ofNat s)), .val (.int (Int32.ofNat e)), .val (.ref dl), .val (.int (124 : Int32)), .val (.int (0 : Int32)), .val (.int (0 : Int32)), .val (.int (Int32.ofNat s)), .unset, .unset, .unset, .unset] d14_110 rfl rfl ?_
      refine Wk.iload (pc' := 114) d14_112 rfl rfl ?_
      refine Wk.if_eqY (pc' := 121) d14_114 (by decide) rfl ?_
      refine Wk.iloadN (pc' := 122) d14_121 rfl rfl ?_
      refine Wk.istore (pc' := 124) #[.val (.ref a), .val (.ref t), .val (.int (Int32.ofNat s)), .val (.int (Int32.ofNat e)), .val (.ref dl), .val (.int (124 : Int32)), .val (.int (0 : Int32)), .val (.int (0 : Int32)), .val (.int (Int32.ofNat s)), .val (.int (Int32.ofNat e)), .unset, .unset, .unset] d14_122 rfl rfl ?_
      have f588 := (f583.wr W586)
      have f589 := (((P7.ext E10).other W581 (Or.inr (slot_ne (Or.inr (w108 hw)) (Or.inr (w103 hw)) (by decide) (t := (.array .int)) (t' := (.object "com/example/quittance/quittance/Delimiters")) (by decide) (by decide)))).other W586 (Or.inr (slot_ne (Or.inr (w108 hw)) (Or.inr (w105 hw)) (by decide) (t := (.array .int)) (t' := (.object "java/lang/String")) (by decide) (by decide))))
      have f590 := (((P8.ext E10).other W581 (Or.inr (slot_ne (Or.inr (w110 hw)) (Or.inr (w103 hw)) (by decide) (t := (.array .int)) (t' := (.object "com/example/quittance/quittance/Delimiters")) (by decide) (by decide)))).other W586 (Or.inr (slot_ne (Or.inr (w110 hw)) (Or.inr (w105 hw)) (by decide) (t := (.array .int)) (t' := (.object "java/lang/String")) (by decide) (by decide))))
      have f591 := (((P9.ext E10).other W581 (Or.inr (slot_ne (Or.inr (w135 hw)) (Or.inr (w103 hw)) (by decide) (t := (.object "java/lang/String")) (t' := (.object "com/example/quittance/quittance/Delimiters")) (by decide) (by decide)))).other W586 (Or.inr (slot_ne (Or.inr (w135 hw)) (Or.inr (w105 hw)) (by decide) (t := (.object "java/lang/String")) (t' := (.object "java/lang/String")) (by decide) (by decide))))
      have f592 := ((f19.wr W581).wr W586)
      have f593 := ((f20.other W581 (Or.inl P17)).other W586 (Or.inl P17))
      have f594 := ((f21.other W581 (Or.inl P17)).other W586 (Or.inl P17))
      have f595 := ((f22.other W581 P18).other W586 P18)
      refine Wk.more (k' := 6) (n' := 64) (Nat.le_of_ble_eq_true rfl) (Nat.le_of_ble_eq_true rfl) ?_
      exact J124 t v' q X s e false _ _ _ h585 f588 F587 f589 f590 f591 f592 f593 f594 f595 P17 P18 (by omega) hL hse (by omega) (fun q => nomatch q) (own_G1 hse he hh) (fun q => (List.mem_cons.mp q).elim (fun r => absurd r (by decide)) hT0) ((((Keep.refl h0 [a]).ext E10).wr W581 (Or.inl (by simp))).wr W586 (Or.inl (by simp)))
    · skip
      refine Wk.if_eqY (pc' := 39) d14_18 (by decide) (by rw [decide_eq_false hsw]; rfl) ?_
      refine Wk.iconst (pc' := 40) (v := 0) d14_39 rfl rfl ?_
      refine Wk.istore (pc' := 42) #[.val (.ref a), .val (.ref t), .val (.int (Int32.ofNat s)), .val (.int (Int32.ofNat e)), .val (.ref dl), .val (.int (124 : Int32)), .val (.int (0 : Int32)), .unset, .unset, .unset, .unset, .unset, .unset] d14_40 rfl rfl ?_
      refine Wk.iload (pc' := 44) d14_42 rfl rfl ?_
      refine Wk.if_eqY (pc' := 58) d14_44 (by decide) rfl ?_
      refine Wk.iconst (pc' := 59) (v := 0) d14_58 rfl rfl ?_
      refine Wk.istore (pc' := 61) #[.val (.ref a), .val (.ref t), .val (.int (Int32.ofNat s)), .val (.int (Int32.ofNat e)), .val (.ref dl), .val (.int (124 : Int32)), .val (.int (0 : Int32)), .val (.int (0 : Int32)), .unset, .unset, .unset, .unset, .unset] d14_59 rfl rfl ?_
      refine Wk.aloadN (pc' := 62) d14_61 rfl rfl rfl ?_
      refine Wk.aload (pc' := 64) d14_62 rfl rfl rfl ?_
      have f596 := (P5.ext E10)
      refine Wk.putF (a0 := a0) (pc' := 67) (host := "") (Or.inl (w102 hw)) Via.refl P10 f596 f16 (Or.inr ⟨(w103 hw), rfl, rfl⟩) (w46 hw) (ty := (.object "com/example/quittance/quittance/Delimiters")) (by decide) rfl rfl d14_64 rfl fun h597 W598 => ?_
      have F599 := f596.same W598
      refine Wk.aloadN (pc' := 68) d14_67 rfl rfl rfl ?_
      refine Wk.iload (pc' := 70) d14_68 rfl rfl ?_
      refine Wk.if_eqY (pc' := 96) d14_70 (by decide) rfl ?_
      refine Wk.aloadN (pc' := 97) d14_96 rfl rfl rfl ?_
      have f600 := (f16.wr W598)
      have f601 := ((P6.ext E10).other W598 (Or.inr (slot_ne (Or.inr (w105 hw)) (Or.inr (w103 hw)) (by decide) (t := (.object "java/lang/String")) (t' := (.object "com/example/quittance/quittance/Delimiters")) (by decide) (by decide))))
      refine Wk.putF (a0 := a0) (pc' := 100) (host := "") (Or.inl (w104 hw)) Via.refl P10 f601 f600 (Or.inr ⟨(w105 hw), rfl, rfl⟩) (w46 hw) (ty := (.object "java/lang/String")) (by decide) rfl rfl d14_97 rfl fun h602 W603 => ?_
      have F604 := f601.same W603
      refine Wk.iload (pc' := 102) d14_100 rfl rfl ?_
      refine Wk.if_eqY (pc' := 109) d14_102 (by decide) rfl ?_
      refine Wk.iloadN (pc' := 110) d14_109 rfl rfl ?_
      refine Wk.istore (pc' := 112) #[.val (.ref a), .val (.ref t), .val (.int (Int32.ofNat s)), .val (.int (Int32.ofNat e)), .val (.ref dl), .val (.int (124 : Int32)), .val (.int (0 : Int32)), .val (.int (0 : Int32)), .val (.int (Int32.ofNat s)), .unset, .unset, .unset, .unset] d14_110 rfl rfl ?_
      refine Wk.iload (pc' := 114) d14_112 rfl rfl ?_
      refine Wk.if_eqY (pc' := 121) d14_114 (by decide) rfl ?_
      refine Wk.iloadN (pc' := 122) d14_121 rfl rfl ?_
      refine Wk.istore (pc' := 124) #[.val (.ref a), .val (.ref t), .val (.int (Int32.ofNat s)), .val (.int (Int32.ofNat e)), .val (.ref dl), .val (.int (124 : Int32)), .val (.int (0 : Int32)), .val (.int (0 : Int32)), .val (.int (Int32.ofNat s)), .val (.int (Int32.ofNat e)), .unset, .unset, .unset] d14_122 rfl rfl ?_
      have f605 := (f600.wr W603)
      have f606 := (((P7.ext E10).other W598 (Or.inr (slot_ne (Or.inr (w108 hw)) (Or.inr (w103 hw)) (by decide) (t := (.array .int)) (t' := (.object "com/example/quittance/quittance/Delimiters")) (by decide) (by decide)))).other W603 (Or.inr (slot_ne (Or.inr (w108 hw)) (Or.inr (w105 hw)) (by decide) (t := (.array .int)) (t' := (.object "java/lang/String")) (by decide) (by decide))))
      have f607 := (((P8.ext E10).other W598 (Or.inr (slot_ne (Or.inr (w110 hw)) (Or.inr (w103 hw)) (by decide) (t := (.array .int)) (t' := (.object "com/example/quittance/quittance/Delimiters")) (by decide) (by decide)))).other W603 (Or.inr (slot_ne (Or.inr (w110 hw)) (Or.inr (w105 hw)) (by decide) (t := (.array .int)) (t' := (.object "java/lang/String")) (by decide) (by decide))))
      have f608 := (((P9.ext E10).other W598 (Or.inr (slot_ne (Or.inr (w135 hw)) (Or.inr (w103 hw)) (by decide) (t := (.object "java/lang/String")) (t' := (.object "com/example/quittance/quittance/Delimiters")) (by decide) (by decide)))).other W603 (Or.inr (slot_ne (Or.inr (w135 hw)) (Or.inr (w105 hw)) (by decide) (t := (.object "java/lang/String")) (t' := (.object "java/lang/String")) (by decide) (by decide))))
      have f609 := ((f19.wr W598).wr W603)
      have f610 := ((f20.other W598 (Or.inl P17)).other W603 (Or.inl P17))
      have f611 := ((f21.other W598 (Or.inl P17)).other W603 (Or.inl P17))
      have f612 := ((f22.other W598 P18).other W603 P18)
      refine Wk.more (k' := 6) (n' := 64) (Nat.le_of_ble_eq_true rfl) (Nat.le_of_ble_eq_true rfl) ?_
      exact J124 t v' q X s e false _ _ _ h602 f605 F604 f606 f607 f608 f609 f610 f611 f612 P17 P18 (by omega) hL hse (by omega) (fun q => nomatch q) (own_G1 hse he hh) (fun q => (List.mem_cons.mp q).elim (fun r => absurd r (by decide)) hT0) ((((Keep.refl h0 [a]).ext E10).wr W598 (Or.inl (by simp))).wr W603 (Or.inl (by simp)))
theorem ef_end_ (m : MethodId) (x0 : Addr) (x1 : Int32) : entryFrame m #[(.ref x0), (.int x1)] 2 = mkF m 0 #[.val (.ref x0), .val (.int x1)] [] := by first | (simp [entryFrame, mkF, argsToLocals, Value.category]; done) | rfl
abbrev b_end_ : Bdy := ((⟨"com/example/quittance/quittance/Segment", "end", "(I)I"⟩ : MethodName), prog_111_method_11_code, 2, (Option.some Jvm.ClassFile.FieldType.int), ({ frames := 0, cells := 0, slots := 0, locals := 0 } : Room))
def Q_end_ (Z : State) (N : Nat) (a : Addr) (b : Addr) (qb : ClassId) (E : List Nat) (mm : Nat) (h0 : Heap) (I : Lts) (v : Option Value) (h : Heap) (J : Lts) : Prop := I = J ∧ v = some (.int (Int32.ofNat (own_get E mm))) ∧ h0 = h
set_option maxRecDepth 65536 in
set_option maxHeartbeats 40000000 in
theorem rm_end_ {l : Launch} {Z : State} {a0 : Array Value} {N : Nat} (hw : ∀ d ∈ tables_1, d.before a0 Z = true) (a : Addr) (b : Addr) (qb : ClassId) (E : List Nat) (mm : Nat) (h0 : Heap) (I : Lts) (P0 : Fld Z h0 a "com/example/quittance/quittance/Segment" "ends" "[I" (.ref b)) (P1 : Arv Z h0 b qb .int (Int32.ofNat E.length) (E.map own_iv) (.int (0 : Int32))) (hE0 : (0 < E.length ∧ E.length ≤ 8)) (hm : mm < 2147483648) :
    Cn l Z N b_end_ #[(.ref a), (.int (Int32.ofNat mm))] h0 I (Q_end_ Z N a b qb E mm h0 I) := by
  refine Cn.of_wk (Ls := #[.val (.ref a), .val (.int (Int32.ofNat mm))]) (plainFor_of_name (by first | (simp [plainName, overriddenIn]; done) | decide +kernel)) (fun m => ef_end_ m a (Int32.ofNat mm)) ?_
  by_cases hq : mm < E.length
  · skip
    refine Wk.iloadN (pc' := 1) d26_0 rfl rfl ?_
    refine Wk.aloadN (pc' := 2) d26_1 rfl rfl rfl ?_
    refine Wk.getF (a0 := a0) (pc' := 5) (host := "") (Or.inl (w109 hw)) Via.refl P0 d26_2 rfl ?_
    refine Wk.arraylength (pc' := 6) P1 d26_5 rfl ?_
    refine Wk.icmp_geN (pc' := 9) d26_6 rfl ((own_lt (by omega) (by omega)).mpr hq) ?_
    refine Wk.aloadN (pc' := 10) d26_9 rfl rfl rfl ?_
    refine Wk.getF (a0 := a0) (pc' := 13) (host := "") (Or.inl (w109 hw)) Via.refl P0 d26_10 rfl ?_
    refine Wk.iloadN (pc' := 14) d26_13 rfl rfl ?_
    refine Wk.iaload (pc' := 15) (v := (.int (Int32.ofNat (E.getD mm 0)))) P1 (own_in hq (by omega)) (own_getm own_iv E 0 _ hq (by omega)) d26_14 rfl ?_
    refine Wk.goto (pc' := 30) d26_15 (by decide) ?_
    exact Wk.ireturn rfl d26_30 (Nat.le_of_ble_eq_true rfl) (Nat.le_of_ble_eq_true rfl) ⟨rfl, (by rw [own_get, if_pos hq]), rfl⟩
  · skip
    refine Wk.iloadN (pc' := 1) d26_0 rfl rfl ?_
    refine Wk.aloadN (pc' := 2) d26_1 rfl rfl rfl ?_
    refine Wk.getF (a0 := a0) (pc' := 5) (host := "") (Or.inl (w109 hw)) Via.refl P0 d26_2 rfl ?_
    refine Wk.arraylength (pc' := 6) P1 d26_5 rfl ?_
    refine Wk.icmp_geY (pc' := 18) d26_6 (by decide) (mt (own_lt (by omega) (by omega)).mp hq) ?_
    refine Wk.aloadN (pc' := 19) d26_18 rfl rfl rfl ?_
    refine Wk.getF (a0 := a0) (pc' := 22) (host := "") (Or.inl (w109 hw)) Via.refl P0 d26_19 rfl ?_
    refine Wk.aloadN (pc' := 23) d26_22 rfl rfl rfl ?_
    refine Wk.getF (a0 := a0) (pc' := 26) (host := "") (Or.inl (w109 hw)) Via.refl P0 d26_23 rfl ?_
    refine Wk.arraylength (pc' := 27) P1 d26_26 rfl ?_
    refine Wk.iconst (pc' := 28) (v := 1) d26_27 rfl rfl ?_
    refine Wk.isub (pc' := 29) d26_28 rfl ?_
    rw [own_pred (by omega) (by omega)]
    refine Wk.iaload (pc' := 30) (v := (.int (Int32.ofNat (E.getD (E.length - 1) 0)))) P1 (own_in (by omega) (by omega)) (own_getm own_iv E 0 _ (i := E.length - 1) (by omega) (by omega)) d26_29 rfl ?_
    exact Wk.ireturn rfl d26_30 (Nat.le_of_ble_eq_true rfl) (Nat.le_of_ble_eq_true rfl) ⟨rfl, (by rw [own_get, if_neg hq]), rfl⟩
theorem ef_law (m : MethodId) (x0 : Int32) (x1 : Int32) (x2 : Int32) (x3 : Int32) (x4 : Int32) (x5 : Int32) : entryFrame m #[(.int x0), (.int x1), (.int x2), (.int x3), (.int x4), (.int x5)] maxLocals = mkF m 0 #[.val (.int x0), .val (.int x1), .val (.int x2), .val (.int x3), .val (.int x4), .val (.int x5), .unset, .unset, .unset, .unset, .unset, .unset, .unset] [] := by first | (simp [entryFrame, mkF, argsToLocals, Value.category, maxLocals]; done) | rfl
abbrev b_law : Bdy := (x, code, maxLocals, ret, room_1)
def Q_law (Z : State) (N : Nat) (p1' : Int32) (p2' : Int32) (p3' : Int32) (p4' : Int32) (p5' : Int32) (p6' : Int32) (cs : Int32) (sf : Value) (h0 : Heap) (I : Lts) (v : Option Value) (h : Heap) (J : Lts) : Prop := True ∧ v = some (.int (1 : Int32))
set_option maxRecDepth 65536 in
set_option maxHeartbeats 40000000 in
theorem rm_law {l : Launch} {Z : State} {a0 : Array Value} (hw : ∀ d ∈ tables_1, d.before a0 Z = true) (p1' : Int32) (p2' : Int32) (p3' : Int32) (p4' : Int32) (p5' : Int32) (p6' : Int32) (cs : Int32) (sf : Value) (h0 : Heap) (P0 : Sta Z Z.heap "java/lang/String" "COMPACT_STRINGS" "Z" (.int cs)) (G_cs : ¬ cs = (0 : Int32)) (P2 : Sta Z Z.heap "jdk/internal/util/Preconditions" "SIOOBE_FORMATTER" "Ljava/util/function/BiFunction;" sf) (G_sf : sf.isRef = true) (G_h20 : Jvm.Lit.constHeld Z "com/example/quittance/quittance/SegmentEndPinLaw" 20) (G_h24 : Jvm.Lit.constHeld Z "com/example/quittance/quittance/Segment" 24) (G_h151 : Jvm.Lit.constHeld Z "java/lang/StringLatin1" 151) (G_cw : Jvm.Lit.compactW.before a0 Z = true) :
    Cn l Z h0.size b_law #[(.int p1'), (.int p2'), (.int p3'), (.int p4'), (.int p5'), (.int p6')] h0 (some ([], [])) (Q_law Z h0.size p1' p2' p3' p4' p5' p6' cs sf h0 (some ([], []))) := by
  refine Cn.of_wk (Ls := #[.val (.int p1'), .val (.int p2'), .val (.int p3'), .val (.int p4'), .val (.int p5'), .val (.int p6'), .unset, .unset, .unset, .unset, .unset, .unset, .unset]) (plainFor_of_name (by first | (simp [plainName, overriddenIn]; done) | decide +kernel)) (fun m => ef_law m p1' p2' p3' p4' p5' p6') ?_
  refine Wk.bipush (pc' := 2) (v := 6) at_0 rfl rfl ?_
  refine Wk.newP (a0 := a0) (aty := .char) (pc' := 4) (k' := 1) (n' := 6) (cap := 6) (w0 hw) at_2 rfl (by decide) (by decide) (by decide) rfl rfl (Nat.le_of_ble_eq_true rfl) (Nat.le_of_ble_eq_true rfl) fun a1 h2 q3 hg4 hN5 E6 A7 => ?_
  have A8 : Arv Z h2 a1 q3 .char (6 : Int32) [(.int (0 : Int32)), (.int (0 : Int32)), (.int (0 : Int32)), (.int (0 : Int32)), (.int (0 : Int32)), (.int (0 : Int32))] (.int (0 : Int32)) := A7.pad (pad_rep [] (.int (0 : Int32)) 6)
  refine Wk.astore (pc' := 6) #[.val (.int p1'), .val (.int p2'), .val (.int p3'), .val (.int p4'), .val (.int p5'), .val (.int p6'), .val (.ref a1), .unset, .unset, .unset, .unset, .unset, .unset] at_4 rfl rfl rfl ?_
  refine Wk.aload (pc' := 8) at_6 rfl rfl rfl ?_
  refine Wk.iconst (pc' := 9) (v := 0) at_8 rfl rfl ?_
  refine Wk.iloadN (pc' := 10) at_9 rfl rfl ?_
  refine Wk.callS (a0 := a0) (pc' := 13) (k' := 1) (n' := 6) (W := 2) (b := b_pik) (argsL := [(.int p1')]) (rest := [(.int (0 : Int32)), (.ref a1)]) (rm_pik hw p1' h2 (some ([], [])) ) (w1 hw) (w2 hw) (w3 hw) (w4 hw) (by decide) (Nat.le_refl _) id (Nat.le_of_ble_eq_true rfl) (Nat.le_of_ble_eq_true rfl) rfl rfl (Nat.le_of_ble_eq_true rfl) (Nat.le_of_ble_eq_true rfl) rfl pd25 rfl rfl rfl (Nat.le_of_ble_eq_true rfl) at_10 rfl fun v9 h10 J11 hs12 hQ13 => ?_
  obtain ⟨c14, rfl, rfl, rfl, g15⟩ := hQ13
  show Wk _ h2 1 6 (some ([], [])) 13 #[.val (.int p1'), .val (.int p2'), .val (.int p3'), .val (.int p4'), .val (.int p5'), .val (.int p6'), .val (.ref a1), .unset, .unset, .unset, .unset, .unset, .unset] [(.int c14), (.int (0 : Int32)), (.ref a1)]
  refine Wk.castore (pc' := 14) A8 hN5 ⟨by decide, by decide⟩ 0 (by decide) (Nat.le_of_ble_eq_true rfl) at_13 rfl fun h16 W17 A18 => ?_
  have A19 : Arv Z h16 a1 q3 .char (6 : Int32) [(.int c14), (.int (0 : Int32)), (.int (0 : Int32)), (.int (0 : Int32)), (.int (0 : Int32)), (.int (0 : Int32))] (.int (0 : Int32)) := by have q := A18; rw [own_nc g15] at q; exact q
  refine Wk.aload (pc' := 16) at_14 rfl rfl rfl ?_
  refine Wk.iconst (pc' := 17) (v := 1) at_16 rfl rfl ?_
  refine Wk.iloadN (pc' := 18) at_17 rfl rfl ?_
  refine Wk.bipush (pc' := 20) (v := 11) at_18 rfl rfl ?_
  refine Wk.iushr (pc' := 21) at_20 rfl ?_
  refine Wk.callS (a0 := a0) (pc' := 24) (k' := 1) (n' := 6) (W := 2) (b := b_pik) (argsL := [(.int ((p1'.toUInt32 >>> ((11 : Int32) &&& 31).toUInt32).toInt32))]) (rest := [(.int (1 : Int32)), (.ref a1)]) (rm_pik hw ((p1'.toUInt32 >>> ((11 : Int32) &&& 31).toUInt32).toInt32) h16 (some ([], [])) ) (w1 hw) (w2 hw) (w3 hw) (w4 hw) (by decide) (Nat.le_refl _) id (Nat.le_of_ble_eq_true rfl) (Nat.le_of_ble_eq_true rfl) rfl rfl (Nat.le_of_ble_eq_true rfl) (Nat.le_of_ble_eq_true rfl) rfl pd25 rfl rfl rfl (Nat.le_of_ble_eq_true rfl) at_21 rfl fun v20 h21 J22 hs23 hQ24 => ?_
  obtain ⟨c25, rfl, rfl, rfl, g26⟩ := hQ24
  show Wk _ h16 1 6 (some ([], [])) 24 #[.val (.int p1'), .val (.int p2'), .val (.int p3'), .val (.int p4'), .val (.int p5'), .val (.int p6'), .val (.ref a1), .unset, .unset, .unset, .unset, .unset, .unset] [(.int c25), (.int (1 : Int32)), (.ref a1)]
  refine Wk.castore (pc' := 25) A19 hN5 ⟨by decide, by decide⟩ 1 (by decide) (Nat.le_of_ble_eq_true rfl) at_24 rfl fun h27 W28 A29 => ?_
  have A30 : Arv Z h27 a1 q3 .char (6 : Int32) [(.int c14), (.int c25), (.int (0 : Int32)), (.int (0 : Int32)), (.int (0 : Int32)), (.int (0 : Int32))] (.int (0 : Int32)) := by have q := A29; rw [own_nc g26] at q; exact q
  refine Wk.aload (pc' := 27) at_25 rfl rfl rfl ?_
  refine Wk.iconst (pc' := 28) (v := 2) at_27 rfl rfl ?_
  refine Wk.iloadN (pc' := 29) at_28 rfl rfl ?_
  refine Wk.callS (a0 := a0) (pc' := 32) (k' := 1) (n' := 6) (W := 2) (b := b_pik) (argsL := [(.int p2')]) (rest := [(.int (2 : Int32)), (.ref a1)]) (rm_pik hw p2' h27 (some ([], [])) ) (w1 hw) (w2 hw) (w3 hw) (w4 hw) (by decide) (Nat.le_refl _) id (Nat.le_of_ble_eq_true rfl) (Nat.le_of_ble_eq_true rfl) rfl rfl (Nat.le_of_ble_eq_true rfl) (Nat.le_of_ble_eq_true rfl) rfl pd25 rfl rfl rfl (Nat.le_of_ble_eq_true rfl) at_29 rfl fun v31 h32 J33 hs34 hQ35 => ?_
  obtain ⟨c36, rfl, rfl, rfl, g37⟩ := hQ35
  show Wk _ h27 1 6 (some ([], [])) 32 #[.val (.int p1'), .val (.int p2'), .val (.int p3'), .val (.int p4'), .val (.int p5'), .val (.int p6'), .val (.ref a1), .unset, .unset, .unset, .unset, .unset, .unset] [(.int c36), (.int (2 : Int32)), (.ref a1)]
  refine Wk.castore (pc' := 33) A30 hN5 ⟨by decide, by decide⟩ 2 (by decide) (Nat.le_of_ble_eq_true rfl) at_32 rfl fun h38 W39 A40 => ?_
  have A41 : Arv Z h38 a1 q3 .char (6 : Int32) [(.int c14), (.int c25), (.int c36), (.int (0 : Int32)), (.int (0 : Int32)), (.int (0 : Int32))] (.int (0 : Int32)) := by have q := A40; rw [own_nc g37] at q; exact q
  refine Wk.aload (pc' := 35) at_33 rfl rfl rfl ?_
  refine Wk.iconst (pc' := 36) (v := 3) at_35 rfl rfl ?_
  refine Wk.iloadN (pc' := 37) at_36 rfl rfl ?_
  refine Wk.bipush (pc' := 39) (v := 11) at_37 rfl rfl ?_
  refine Wk.iushr (pc' := 40) at_39 rfl ?_
  refine Wk.callS (a0 := a0) (pc' := 43) (k' := 1) (n' := 6) (W := 2) (b := b_pik) (argsL := [(.int ((p2'.toUInt32 >>> ((11 : Int32) &&& 31).toUInt32).toInt32))]) (rest := [(.int (3 : Int32)), (.ref a1)]) (rm_pik hw ((p2'.toUInt32 >>> ((11 : Int32) &&& 31).toUInt32).toInt32) h38 (some ([], [])) ) (w1 hw) (w2 hw) (w3 hw) (w4 hw) (by decide) (Nat.le_refl _) id (Nat.le_of_ble_eq_true rfl) (Nat.le_of_ble_eq_true rfl) rfl rfl (Nat.le_of_ble_eq_true rfl) (Nat.le_of_ble_eq_true rfl) rfl pd25 rfl rfl rfl (Nat.le_of_ble_eq_true rfl) at_40 rfl fun v42 h43 J44 hs45 hQ46 => ?_
  obtain ⟨c47, rfl, rfl, rfl, g48⟩ := hQ46
  show Wk _ h38 1 6 (some ([], [])) 43 #[.val (.int p1'), .val (.int p2'), .val (.int p3'), .val (.int p4'), .val (.int p5'), .val (.int p6'), .val (.ref a1), .unset, .unset, .unset, .unset, .unset, .unset] [(.int c47), (.int (3 : Int32)), (.ref a1)]
  refine Wk.castore (pc' := 44) A41 hN5 ⟨by decide, by decide⟩ 3 (by decide) (Nat.le_of_ble_eq_true rfl) at_43 rfl fun h49 W50 A51 => ?_
  have A52 : Arv Z h49 a1 q3 .char (6 : Int32) [(.int c14), (.int c25), (.int c36), (.int c47), (.int (0 : Int32)), (.int (0 : Int32))] (.int (0 : Int32)) := by have q := A51; rw [own_nc g48] at q; exact q
  refine Wk.aload (pc' := 46) at_44 rfl rfl rfl ?_
  refine Wk.iconst (pc' := 47) (v := 4) at_46 rfl rfl ?_
  refine Wk.iloadN (pc' := 48) at_47 rfl rfl ?_
  refine Wk.callS (a0 := a0) (pc' := 51) (k' := 1) (n' := 6) (W := 2) (b := b_pik) (argsL := [(.int p3')]) (rest := [(.int (4 : Int32)), (.ref a1)]) (rm_pik hw p3' h49 (some ([], [])) ) (w1 hw) (w2 hw) (w3 hw) (w4 hw) (by decide) (Nat.le_refl _) id (Nat.le_of_ble_eq_true rfl) (Nat.le_of_ble_eq_true rfl) rfl rfl (Nat.le_of_ble_eq_true rfl) (Nat.le_of_ble_eq_true rfl) rfl pd25 rfl rfl rfl (Nat.le_of_ble_eq_true rfl) at_48 rfl fun v53 h54 J55 hs56 hQ57 => ?_
  obtain ⟨c58, rfl, rfl, rfl, g59⟩ := hQ57
  show Wk _ h49 1 6 (some ([], [])) 51 #[.val (.int p1'), .val (.int p2'), .val (.int p3'), .val (.int p4'), .val (.int p5'), .val (.int p6'), .val (.ref a1), .unset, .unset, .unset, .unset, .unset, .unset] [(.int c58), (.int (4 : Int32)), (.ref a1)]
  refine Wk.castore (pc' := 52) A52 hN5 ⟨by decide, by decide⟩ 4 (by decide) (Nat.le_of_ble_eq_true rfl) at_51 rfl fun h60 W61 A62 => ?_
  have A63 : Arv Z h60 a1 q3 .char (6 : Int32) [(.int c14), (.int c25), (.int c36), (.int c47), (.int c58), (.int (0 : Int32))] (.int (0 : Int32)) := by have q := A62; rw [own_nc g59] at q; exact q
  refine Wk.aload (pc' := 54) at_52 rfl rfl rfl ?_
  refine Wk.iconst (pc' := 55) (v := 5) at_54 rfl rfl ?_
  refine Wk.iloadN (pc' := 56) at_55 rfl rfl ?_
  refine Wk.bipush (pc' := 58) (v := 11) at_56 rfl rfl ?_
  refine Wk.iushr (pc' := 59) at_58 rfl ?_
  refine Wk.callS (a0 := a0) (pc' := 62) (k' := 1) (n' := 6) (W := 2) (b := b_pik) (argsL := [(.int ((p3'.toUInt32 >>> ((11 : Int32) &&& 31).toUInt32).toInt32))]) (rest := [(.int (5 : Int32)), (.ref a1)]) (rm_pik hw ((p3'.toUInt32 >>> ((11 : Int32) &&& 31).toUInt32).toInt32) h60 (some ([], [])) ) (w1 hw) (w2 hw) (w3 hw) (w4 hw) (by decide) (Nat.le_refl _) id (Nat.le_of_ble_eq_true rfl) (Nat.le_of_ble_eq_true rfl) rfl rfl (Nat.le_of_ble_eq_true rfl) (Nat.le_of_ble_eq_true rfl) rfl pd25 rfl rfl rfl (Nat.le_of_ble_eq_true rfl) at_59 rfl fun v64 h65 J66 hs67 hQ68 => ?_
  obtain ⟨c69, rfl, rfl, rfl, g70⟩ := hQ68
  show Wk _ h60 1 6 (some ([], [])) 62 #[.val (.int p1'), .val (.int p2'), .val (.int p3'), .val (.int p4'), .val (.int p5'), .val (.int p6'), .val (.ref a1), .unset, .unset, .unset, .unset, .unset, .unset] [(.int c69), (.int (5 : Int32)), (.ref a1)]
  refine Wk.castore (pc' := 63) A63 hN5 ⟨by decide, by decide⟩ 5 (by decide) (Nat.le_of_ble_eq_true rfl) at_62 rfl fun h71 W72 A73 => ?_
  have A74 : Arv Z h71 a1 q3 .char (6 : Int32) [(.int c14), (.int c25), (.int c36), (.int c47), (.int c58), (.int c69)] (.int (0 : Int32)) := by have q := A73; rw [own_nc g70] at q; exact q
  refine Wk.iloadN (pc' := 64) at_63 rfl rfl ?_
  refine Wk.ldcI (a0 := a0) (pc' := 66) (w5 hw) at_64 rfl ?_
  refine Wk.iand (pc' := 67) at_66 rfl ?_
  refine Wk.bipush (pc' := 69) (v := 7) at_67 rfl rfl ?_
  refine Wk.irem (pc' := 70) at_69 rfl (by decide) ?_
  obtain ⟨s, hs, e_s⟩ := own_rem7 p4'
  rw [e_s]
  refine Wk.istore (pc' := 72) #[.val (.int p1'), .val (.int p2'), .val (.int p3'), .val (.int p4'), .val (.int p5'), .val (.int p6'), .val (.ref a1), .val (.int (Int32.ofNat s)), .unset, .unset, .unset, .unset, .unset] at_70 rfl rfl ?_
  refine Wk.iload (pc' := 74) at_72 rfl rfl ?_
  refine Wk.iloadN (pc' := 75) at_74 rfl rfl ?_
  refine Wk.bipush (pc' := 77) (v := 16) at_75 rfl rfl ?_
  refine Wk.iushr (pc' := 78) at_77 rfl ?_
  refine Wk.sipush (pc' := 81) (v := 32767) at_78 rfl rfl ?_
  refine Wk.iand (pc' := 82) at_81 rfl ?_
  refine Wk.bipush (pc' := 84) (v := 7) at_82 rfl rfl ?_
  refine Wk.iload (pc' := 86) at_84 rfl rfl ?_
  refine Wk.isub (pc' := 87) at_86 rfl ?_
  refine Wk.irem (pc' := 88) at_87 rfl (own_7n hs) ?_
  obtain ⟨j, hj, e_j⟩ := own_pair (x := ((p4'.toUInt32 >>> ((16 : Int32) &&& 31).toUInt32).toInt32)) hs
  rw [e_j]
  refine Wk.iadd (pc' := 89) at_88 rfl ?_
  rw [own_addn]
  refine Wk.istore (pc' := 91) #[.val (.int p1'), .val (.int p2'), .val (.int p3'), .val (.int p4'), .val (.int p5'), .val (.int p6'), .val (.ref a1), .val (.int (Int32.ofNat s)), .val (.int (Int32.ofNat (s + j))), .unset, .unset, .unset, .unset] at_89 rfl rfl ?_
  have J155 : ∀ (X : List Int32) (mm : Nat) (hX75 : Heap), (Arv Z hX75 a1 q3 .char (6 : Int32) (X.map Value.int) (.int (0 : Int32))) → (X.length = 6) → (own_L X) → (mm < 2147483648) → (Keep h0 hX75 []) → Wk (l, Z, h0.size, h0.size, b_law, Q_law Z h0.size p1' p2' p3' p4' p5' p6' cs sf h0 (some ([], []))) hX75 1 6 (some ([], [])) 155 #[.val (.int p1'), .val (.int p2'), .val (.int p3'), .val (.int p4'), .val (.int p5'), .val (.int p6'), .val (.ref a1), .val (.int (Int32.ofNat s)), .val (.int (Int32.ofNat (s + j))), .val (.int (Int32.ofNat mm)), .unset, .unset, .unset] [] := by
    intro X mm hX75 y76 hX hLX hm K77
    refine Wk.aload (pc' := 157) at_155 rfl rfl rfl ?_
    refine Wk.iload (pc' := 159) at_157 rfl rfl ?_
    refine Wk.iload (pc' := 161) at_159 rfl rfl ?_
    refine Wk.iload (pc' := 163) at_161 rfl rfl ?_
    refine Wk.callS (a0 := a0) (pc' := 166) (k' := 1) (n' := 6) (W := 0) (b := b_exp) (argsL := [(.ref a1), (.int (Int32.ofNat s)), (.int (Int32.ofNat (s + j))), (.int (Int32.ofNat mm))]) (rest := []) (rm_exp hw a1 q3 X s (s + j) mm hX75 (some ([], [])) y76 (by omega) hj hm) (w6 hw) (w7 hw) (w3 hw) (w8 hw) (by decide) (Nat.le_refl _) id (Nat.le_of_ble_eq_true rfl) (Nat.le_of_ble_eq_true rfl) rfl rfl (Nat.le_of_ble_eq_true rfl) (Nat.le_of_ble_eq_true rfl) rfl pd23 rfl rfl rfl (Nat.le_of_ble_eq_true rfl) at_163 rfl fun v78 h79 J80 hs81 hQ82 => ?_
    obtain ⟨rfl, rfl, rfl⟩ := hQ82
    show Wk _ hX75 1 6 (some ([], [])) 166 #[.val (.int p1'), .val (.int p2'), .val (.int p3'), .val (.int p4'), .val (.int p5'), .val (.int p6'), .val (.ref a1), .val (.int (Int32.ofNat s)), .val (.int (Int32.ofNat (s + j))), .val (.int (Int32.ofNat mm)), .unset, .unset, .unset] [(.int (Int32.ofNat (own_ex X s (s + j) mm)))]
    refine Wk.istore (pc' := 168) #[.val (.int p1'), .val (.int p2'), .val (.int p3'), .val (.int p4'), .val (.int p5'), .val (.int p6'), .val (.ref a1), .val (.int (Int32.ofNat s)), .val (.int (Int32.ofNat (s + j))), .val (.int (Int32.ofNat mm)), .val (.int (Int32.ofNat (own_ex X s (s + j) mm))), .unset, .unset] at_166 rfl rfl ?_
    refine Wk.newO (a0 := a0) (pc' := 171) (k' := 2) (n' := 8) (w19 hw) (w20 hw) (w21 hw) at_168 rfl rfl rfl (Nat.le_of_ble_eq_true rfl) (Nat.le_of_ble_eq_true rfl) fun a83 h84 hg85 hN86 E87 A88 D89 => ?_
    have ne90 : a1 ≠ a83 := Nat.ne_of_lt (Nat.lt_of_lt_of_le y76.lt hg85)
    have F91 : Fld Z h84 a83 "com/example/quittance/quittance/Delimiters" "field" "C" (.int (0 : Int32)) := D89 (Or.inr (w42 hw)) (ty := .char) (by decide)
    have F92 : Fld Z h84 a83 "com/example/quittance/quittance/Delimiters" "encodingCharacters" "Ljava/lang/String;" .null := D89 (Or.inr (w44 hw)) (ty := (.object "java/lang/String")) (by decide)
    refine Wk.dup (pc' := 172) at_171 rfl rfl ?_
    refine Wk.bipush (pc' := 174) (v := 124) at_172 rfl rfl ?_
    refine Wk.ldcLit (a0 := a0) (pc' := 176) (k' := 4) (n' := 28) (cap := 16) (vs := own_enc.map own_by) (z := (Int32.ofNat own_enc.length)) (w22 hw) (own_wS hw) (Nat.le_refl _) (by simp) G_h20 G_cw ⟨by decide, by decide⟩ (by decide) rfl at_174 rfl (by decide) (by decide) rfl rfl (Nat.le_of_ble_eq_true rfl) (Nat.le_of_ble_eq_true rfl) fun al93 bl94 ql95 h96 E97 X98 C99 V100 A101 p102 => ?_
    show Wk _ h96 4 28 (some (("^~\\&" :: []), [("com/example/quittance/quittance/SegmentEndPinLaw", 20, al93)])) 176 #[.val (.int p1'), .val (.int p2'), .val (.int p3'), .val (.int p4'), .val (.int p5'), .val (.int p6'), .val (.ref a1), .val (.int (Int32.ofNat s)), .val (.int (Int32.ofNat (s + j))), .val (.int (Int32.ofNat mm)), .val (.int (Int32.ofNat (own_ex X s (s + j) mm))), .unset, .unset] [(.ref al93), (.int (124 : Int32)), (.ref a83), (.ref a83)]
    have f103 := (A88.ext E97)
    have f104 := (F91.ext E97)
    have f105 := (F92.ext E97)
    refine Wk.callN (a0 := a0) (pc' := 179) (k' := 4) (n' := 28) (W := 1) (b := b_din) (argsL := [(.int (124 : Int32)), (.ref al93)]) (rest := [(.ref a83)]) (rm_din hw a83 al93 h96 (some (("^~\\&" :: []), [("com/example/quittance/quittance/SegmentEndPinLaw", 20, al93)])) f103 f104 f105 hN86) rfl rfl (w30 hw) (w31 hw) (w21 hw) (w32 hw) (by decide) (Nat.le_refl _) id (Nat.le_of_ble_eq_true rfl) (Nat.le_of_ble_eq_true rfl) rfl rfl (Nat.le_of_ble_eq_true rfl) (Nat.le_of_ble_eq_true rfl) rfl pd38 rfl rfl rfl (Nat.le_of_ble_eq_true rfl) at_176 rfl fun v106 h107 J108 hs109 hQ110 => ?_
    obtain ⟨rfl, rfl, K111, g112⟩ := hQ110
    show Wk _ h107 4 28 (some (("^~\\&" :: []), [("com/example/quittance/quittance/SegmentEndPinLaw", 20, al93)])) 179 #[.val (.int p1'), .val (.int p2'), .val (.int p3'), .val (.int p4'), .val (.int p5'), .val (.int p6'), .val (.ref a1), .val (.int (Int32.ofNat s)), .val (.int (Int32.ofNat (s + j))), .val (.int (Int32.ofNat mm)), .val (.int (Int32.ofNat (own_ex X s (s + j) mm))), .unset, .unset] [(.ref a83)]
    refine Wk.astore (pc' := 181) #[.val (.int p1'), .val (.int p2'), .val (.int p3'), .val (.int p4'), .val (.int p5'), .val (.int p6'), .val (.ref a1), .val (.int (Int32.ofNat s)), .val (.int (Int32.ofNat (s + j))), .val (.int (Int32.ofNat mm)), .val (.int (Int32.ofNat (own_ex X s (s + j) mm))), .val (.ref a83), .unset] at_179 rfl rfl rfl ?_
    refine Wk.newO (a0 := a0) (pc' := 184) (k' := 5) (n' := 33) (w45 hw) (w46 hw) (w47 hw) at_181 rfl rfl rfl (Nat.le_of_ble_eq_true rfl) (Nat.le_of_ble_eq_true rfl) fun a113 h114 hg115 hN116 E117 A118 D119 => ?_
    have f120 := (((y76.ext E87).ext E97).keep K111 (ninS ne90 nin0))
    have ne121 : a1 ≠ a113 := Nat.ne_of_lt (Nat.lt_of_lt_of_le f120.lt hg115)
    have f122 := (f103.keep K111)
    have ne123 : a83 ≠ a113 := Nat.ne_of_lt (Nat.lt_of_lt_of_le f122.lt hg115)
    have f124 := (X98.keep K111)
    have ne125 : al93 ≠ a113 := Nat.ne_of_lt (Nat.lt_of_lt_of_le f124.lt hg115)
    have F126 : Fld Z h114 a113 "com/example/quittance/quittance/Segment" "delimiters" "Lcom/example/quittance/quittance/Delimiters;" .null := D119 (Or.inr (w103 hw)) (ty := (.object "com/example/quittance/quittance/Delimiters")) (by decide)
    have F127 : Fld Z h114 a113 "com/example/quittance/quittance/Segment" "text" "Ljava/lang/String;" .null := D119 (Or.inr (w105 hw)) (ty := (.object "java/lang/String")) (by decide)
    have F128 : Fld Z h114 a113 "com/example/quittance/quittance/Segment" "starts" "[I" .null := D119 (Or.inr (w108 hw)) (ty := (.array .int)) (by decide)
    have F129 : Fld Z h114 a113 "com/example/quittance/quittance/Segment" "ends" "[I" .null := D119 (Or.inr (w110 hw)) (ty := (.array .int)) (by decide)
    have F130 : Fld Z h114 a113 "com/example/quittance/quittance/Segment" "id" "Ljava/lang/String;" .null := D119 (Or.inr (w135 hw)) (ty := (.object "java/lang/String")) (by decide)
    refine Wk.dup (pc' := 185) at_184 rfl rfl ?_
    refine Wk.newO (a0 := a0) (pc' := 188) (k' := 6) (n' := 37) (w48 hw) (w24 hw) (w23 hw) at_185 rfl rfl rfl (Nat.le_of_ble_eq_true rfl) (Nat.le_of_ble_eq_true rfl) fun a131 h132 hg133 hN134 E135 A136 D137 => ?_
    have f138 := (f120.ext E117)
    have ne139 : a1 ≠ a131 := Nat.ne_of_lt (Nat.lt_of_lt_of_le f138.lt hg133)
    have f140 := (f122.ext E117)
    have ne141 : a83 ≠ a131 := Nat.ne_of_lt (Nat.lt_of_lt_of_le f140.lt hg133)
    have f142 := (f124.ext E117)
    have ne143 : al93 ≠ a131 := Nat.ne_of_lt (Nat.lt_of_lt_of_le f142.lt hg133)
    have ne144 : a113 ≠ a131 := Nat.ne_of_lt (Nat.lt_of_lt_of_le A118.lt hg133)
    have F145 : Fld Z h132 a131 "java/lang/String" "value" "[B" .null := D137 (Or.inr (w26 hw)) (ty := (.array .byte)) (by decide)
    have F146 : Fld Z h132 a131 "java/lang/String" "coder" "B" (.int (0 : Int32)) := D137 (Or.inr (w27 hw)) (ty := .byte) (by decide)
    refine Wk.dup (pc' := 189) at_188 rfl rfl ?_
    refine Wk.aload (pc' := 191) at_189 rfl rfl rfl ?_
    have f147 := (f138.ext E135)
    have A148 : Arv Z h132 a1 q3 .char (Int32.ofNat X.length) (X.map Value.int) (.int (0 : Int32)) := by rw [hX]; exact f147
    refine Wk.callN (a0 := a0) (pc' := 194) (k' := 7) (n' := 43) (W := 3) (b := b_s_in1) (argsL := [(.ref a1)]) (rest := [(.ref a131), (.ref a113), (.ref a113)]) (rm_s_in1 hw a131 a1 q3 X cs h132 (some (("^~\\&" :: []), [("com/example/quittance/quittance/SegmentEndPinLaw", 20, al93)])) P0 G_cs A136 F145 F146 A148 hN134 (by omega) hLX (fun q => by rw [q] at hX; cases hX)) rfl rfl (w49 hw) (w50 hw) (w23 hw) (w51 hw) (by decide) (Nat.le_refl _) id (Nat.le_of_ble_eq_true rfl) (Nat.le_of_ble_eq_true rfl) rfl rfl (Nat.le_of_ble_eq_true rfl) (Nat.le_of_ble_eq_true rfl) rfl pd39 rfl rfl rfl (Nat.le_of_ble_eq_true rfl) at_191 rfl fun v149 h150 J151 hs152 hQ153 => ?_
    obtain ⟨v'154, q'155, rfl, rfl, K156, g157, g158, g159⟩ := hQ153
    show Wk _ h150 7 43 (some (("^~\\&" :: []), [("com/example/quittance/quittance/SegmentEndPinLaw", 20, al93)])) 194 #[.val (.int p1'), .val (.int p2'), .val (.int p3'), .val (.int p4'), .val (.int p5'), .val (.int p6'), .val (.ref a1), .val (.int (Int32.ofNat s)), .val (.int (Int32.ofNat (s + j))), .val (.int (Int32.ofNat mm)), .val (.int (Int32.ofNat (own_ex X s (s + j) mm))), .val (.ref a83), .unset] [(.ref a131), (.ref a113), (.ref a113)]
    have f160 := ((A118.ext E135).keep K156)
    have ne161 : a113 ≠ v'154 := by obtain ⟨c0, A0, -⟩ := g159; exact ne_arr f160 (w46 hw) A0
    refine Wk.iload (pc' := 196) at_194 rfl rfl ?_
    refine Wk.iload (pc' := 198) at_196 rfl rfl ?_
    refine Wk.aload (pc' := 200) at_198 rfl rfl rfl ?_
    have f162 := ((F126.ext E135).keep K156 (ninS ne144 nin0))
    have f163 := ((F127.ext E135).keep K156 (ninS ne144 nin0))
    have f164 := ((F128.ext E135).keep K156 (ninS ne144 nin0))
    have f165 := ((F129.ext E135).keep K156 (ninS ne144 nin0))
    have f166 := ((F130.ext E135).keep K156 (ninS ne144 nin0))
    have f167 := (A136.keep K156)
    have f168 := ((f140.ext E135).keep K156)
    have f169 := (((g112.ext E117).ext E135).keep K156 (ninS ne141 nin0))
    refine Wk.callN (a0 := a0) (pc' := 203) (k' := 17) (n' := 135) (W := 1) (b := b_seg) (argsL := [(.ref a131), (.int (Int32.ofNat s)), (.int (Int32.ofNat (s + j))), (.ref a83)]) (rest := [(.ref a113)]) (rm_seg hw a113 a131 v'154 q'155 X a83 s (s + j) cs sf ("^~\\&" :: []) [("com/example/quittance/quittance/SegmentEndPinLaw", 20, al93)] h150  P0 G_cs P2 G_sf f160 f162 f163 f164 f165 f166 hN116 f167 g157 g158 g159 f168 f169 (Ne.symm ne144) (Ne.symm ne161) ne123 hX hLX (by omega) hj (by decide) (by decide) G_h24 G_h151 G_cw) rfl rfl (w70 hw) (w71 hw) (w47 hw) (w72 hw) (by decide) (Nat.le_refl _) id (Nat.le_of_ble_eq_true rfl) (Nat.le_of_ble_eq_true rfl) rfl rfl (Nat.le_of_ble_eq_true rfl) (Nat.le_of_ble_eq_true rfl) rfl pd40 rfl rfl rfl (Nat.le_of_ble_eq_true rfl) at_200 rfl fun v170 h171 J172 hs173 hQ174 => ?_
    obtain ⟨b175, qb176, E177, -, rfl, K178, g179, g180, g181, g182⟩ := hQ174
    show Wk _ h171 17 135 J172 203 #[.val (.int p1'), .val (.int p2'), .val (.int p3'), .val (.int p4'), .val (.int p5'), .val (.int p6'), .val (.ref a1), .val (.int (Int32.ofNat s)), .val (.int (Int32.ofNat (s + j))), .val (.int (Int32.ofNat mm)), .val (.int (Int32.ofNat (own_ex X s (s + j) mm))), .val (.ref a83), .unset] [(.ref a113)]
    refine Wk.astore (pc' := 205) #[.val (.int p1'), .val (.int p2'), .val (.int p3'), .val (.int p4'), .val (.int p5'), .val (.int p6'), .val (.ref a1), .val (.int (Int32.ofNat s)), .val (.int (Int32.ofNat (s + j))), .val (.int (Int32.ofNat mm)), .val (.int (Int32.ofNat (own_ex X s (s + j) mm))), .val (.ref a83), .val (.ref a113)] at_203 rfl rfl rfl ?_
    refine Wk.aload (pc' := 207) at_205 rfl rfl rfl ?_
    refine Wk.iload (pc' := 209) at_207 rfl rfl ?_
    have f188 := (f160.keep K178)
    refine Wk.callV (a0 := a0) (pc' := 212) (k' := 17) (n' := 135) (W := 0) (b := b_end_) (argsL := [(.int (Int32.ofNat mm))]) (rest := []) (y := (⟨"com/example/quittance/quittance/Segment", "end", "(I)I"⟩ : MethodName)) (rm_end_ hw a113 b175 qb176 E177 mm h171 J172 g179 g180 g181 hm) f188 (w136 hw) (w137 hw) (w139 hw) (w139 hw) (w138 hw) (w47 hw) (w140 hw) (by decide) (Nat.le_refl _) id (Nat.le_of_ble_eq_true rfl) (Nat.le_of_ble_eq_true rfl) rfl rfl (Nat.le_of_ble_eq_true rfl) (Nat.le_of_ble_eq_true rfl) rfl pd41 rfl rfl rfl (Nat.le_of_ble_eq_true rfl) at_209 rfl fun v183 h184 J185 hs186 hQ187 => ?_
    obtain ⟨rfl, rfl, rfl⟩ := hQ187
    show Wk _ h171 17 135 J172 212 #[.val (.int p1'), .val (.int p2'), .val (.int p3'), .val (.int p4'), .val (.int p5'), .val (.int p6'), .val (.ref a1), .val (.int (Int32.ofNat s)), .val (.int (Int32.ofNat (s + j))), .val (.int (Int32.ofNat mm)), .val (.int (Int32.ofNat (own_ex X s (s + j) mm))), .val (.ref a83), .val (.ref a113)] [(.int (Int32.ofNat (own_get E177 mm)))]
    refine Wk.iload (pc' := 214) at_212 rfl rfl ?_
    refine Wk.icmp_neN (pc' := 217) at_214 rfl (by rw [g182]) ?_
    refine Wk.iconst (pc' := 218) (v := 1) at_217 rfl rfl ?_
    refine Wk.goto (pc' := 222) at_218 (by decide) ?_
    exact Wk.zreturn rfl (by simp) at_222 (Nat.le_of_ble_eq_true rfl) (Nat.le_of_ble_eq_true rfl) ⟨trivial, rfl⟩
  have J132 : ∀ (X : List Int32) (hX189 : Heap), (Arv Z hX189 a1 q3 .char (6 : Int32) (X.map Value.int) (.int (0 : Int32))) → (X.length = 6) → (own_L X) → (Keep h0 hX189 []) → Wk (l, Z, h0.size, h0.size, b_law, Q_law Z h0.size p1' p2' p3' p4' p5' p6' cs sf h0 (some ([], []))) hX189 1 6 (some ([], [])) 132 #[.val (.int p1'), .val (.int p2'), .val (.int p3'), .val (.int p4'), .val (.int p5'), .val (.int p6'), .val (.ref a1), .val (.int (Int32.ofNat s)), .val (.int (Int32.ofNat (s + j))), .unset, .unset, .unset, .unset] [] := by
    intro X hX189 y190 hX hLX K191
    refine Wk.iload (pc' := 134) at_132 rfl rfl ?_
    refine Wk.iconst (pc' := 135) (v := 1) at_134 rfl rfl ?_
    refine Wk.iand (pc' := 136) at_135 rfl ?_
    by_cases c136_192 : (p5' &&& (1 : Int32)) = (0 : Int32)
    · refine Wk.if_eqY (pc' := 146) at_136 (by decide) c136_192 ?_
      refine Wk.iload (pc' := 148) at_146 rfl rfl ?_
      refine Wk.iconst (pc' := 149) (v := 1) at_148 rfl rfl ?_
      refine Wk.iushr (pc' := 150) at_149 rfl ?_
      refine Wk.bipush (pc' := 152) (v := 15) at_150 rfl rfl ?_
      refine Wk.iand (pc' := 153) at_152 rfl ?_
      obtain ⟨m0, hm0, e_m0⟩ := own_and15 ((p5'.toUInt32 >>> ((1 : Int32) &&& 31).toUInt32).toInt32)
      rw [e_m0]
      refine Wk.istore (pc' := 155) #[.val (.int p1'), .val (.int p2'), .val (.int p3'), .val (.int p4'), .val (.int p5'), .val (.int p6'), .val (.ref a1), .val (.int (Int32.ofNat s)), .val (.int (Int32.ofNat (s + j))), .val (.int (Int32.ofNat m0)), .unset, .unset, .unset] at_153 rfl rfl ?_
      exact J155 X m0 hX189 y190 hX hLX hm0 ((Keep.refl h0 []).trans K191 all0)
    · refine Wk.if_eqN (pc' := 139) at_136 rfl c136_192 ?_
      refine Wk.iload (pc' := 141) at_139 rfl rfl ?_
      refine Wk.iconst (pc' := 142) (v := 1) at_141 rfl rfl ?_
      refine Wk.iushr (pc' := 143) at_142 rfl ?_
      refine Wk.goto (pc' := 153) at_143 (by decide) ?_
      obtain ⟨m0, hm0, e_m0⟩ := own_ush1 p5'
      rw [e_m0]
      refine Wk.istore (pc' := 155) #[.val (.int p1'), .val (.int p2'), .val (.int p3'), .val (.int p4'), .val (.int p5'), .val (.int p6'), .val (.ref a1), .val (.int (Int32.ofNat s)), .val (.int (Int32.ofNat (s + j))), .val (.int (Int32.ofNat m0)), .unset, .unset, .unset] at_153 rfl rfl ?_
      exact J155 X m0 hX189 y190 hX hLX hm0 ((Keep.refl h0 []).trans K191 all0)
  have A193 : Arv Z h71 a1 q3 .char (6 : Int32) ([c14, c25, c36, c47, c58, c69].map Value.int) (.int (0 : Int32)) := A74
  refine Wk.iload (pc' := 93) at_91 rfl rfl ?_
  refine Wk.iconst (pc' := 94) (v := 1) at_93 rfl rfl ?_
  refine Wk.iand (pc' := 95) at_94 rfl ?_
  by_cases c95_194 : (p6' &&& (1 : Int32)) = (0 : Int32)
  · refine Wk.if_eqY (pc' := 132) at_95 (by decide) c95_194 ?_
    exact J132 [c14, c25, c36, c47, c58, c69] h71 A193 (by simp) (own_Lc g15 (own_Lc g26 (own_Lc g37 (own_Lc g48 (own_Lc g59 (own_Lc g70 own_Ln)))))) ((((((((Keep.refl h0 []).ext E6).wr W17 (Or.inr hg4)).wr W28 (Or.inr hg4)).wr W39 (Or.inr hg4)).wr W50 (Or.inr hg4)).wr W61 (Or.inr hg4)).wr W72 (Or.inr hg4))
  · refine Wk.if_eqN (pc' := 98) at_95 rfl c95_194 ?_
    by_cases hs3 : s + 3 ≤ 6
    · skip
      refine Wk.iload (pc' := 100) at_98 rfl rfl ?_
      refine Wk.iconst (pc' := 101) (v := 3) at_100 rfl rfl ?_
      refine Wk.iadd (pc' := 102) at_101 rfl ?_
      rw [(show Int32.ofNat s + (3 : Int32) = Int32.ofNat (s + 3) from own_addn s 3)]
      refine Wk.bipush (pc' := 104) (v := 6) at_102 rfl rfl ?_
      refine Wk.icmp_gtN (pc' := 107) at_104 rfl (mt (own_lt (i := 6) (by decide) (by omega)).mp (by omega)) ?_
      refine Wk.aload (pc' := 109) at_107 rfl rfl rfl ?_
      refine Wk.iload (pc' := 111) at_109 rfl rfl ?_
      refine Wk.bipush (pc' := 113) (v := 77) at_111 rfl rfl ?_
      refine Wk.castore (pc' := 114) A193 hN5 (own_in (n := 6) (by omega) (by decide)) s (own_clamp (by omega)) (by rw [List.length_map]; simp; omega) at_113 rfl fun h195 W196 A197 => ?_
      have A198 : Arv Z h195 a1 q3 .char (6 : Int32) (([c14, c25, c36, c47, c58, c69].set s 77).map Value.int) (.int (0 : Int32)) := by
        rw [List.map_set]
        have q := A197
        rw [own_nc (show own_c 77 from ⟨by decide, by decide⟩)] at q
        exact q
      refine Wk.aload (pc' := 116) at_114 rfl rfl rfl ?_
      refine Wk.iload (pc' := 118) at_116 rfl rfl ?_
      refine Wk.iconst (pc' := 119) (v := 1) at_118 rfl rfl ?_
      refine Wk.iadd (pc' := 120) at_119 rfl ?_
      rw [(show Int32.ofNat s + (1 : Int32) = Int32.ofNat (s + 1) from own_addn s 1)]
      refine Wk.bipush (pc' := 122) (v := 83) at_120 rfl rfl ?_
      refine Wk.castore (pc' := 123) A198 hN5 (own_in (n := 6) (by omega) (by decide)) (s + 1) (own_clamp (by omega)) (by rw [List.length_map]; simp; omega) at_122 rfl fun h199 W200 A201 => ?_
      have A202 : Arv Z h199 a1 q3 .char (6 : Int32) ((([c14, c25, c36, c47, c58, c69].set s 77).set (s + 1) 83).map Value.int) (.int (0 : Int32)) := by
        rw [List.map_set]
        have q := A201
        rw [own_nc (show own_c 83 from ⟨by decide, by decide⟩)] at q
        exact q
      refine Wk.aload (pc' := 125) at_123 rfl rfl rfl ?_
      refine Wk.iload (pc' := 127) at_125 rfl rfl ?_
      refine Wk.iconst (pc' := 128) (v := 2) at_127 rfl rfl ?_
      refine Wk.iadd (pc' := 129) at_128 rfl ?_
      rw [(show Int32.ofNat s + (2 : Int32) = Int32.ofNat (s + 2) from own_addn s 2)]
      refine Wk.bipush (pc' := 131) (v := 72) at_129 rfl rfl ?_
      refine Wk.castore (pc' := 132) A202 hN5 (own_in (n := 6) (by omega) (by decide)) (s + 2) (own_clamp (by omega)) (by rw [List.length_map]; simp; omega) at_131 rfl fun h203 W204 A205 => ?_
      have A206 : Arv Z h203 a1 q3 .char (6 : Int32) (((([c14, c25, c36, c47, c58, c69].set s 77).set (s + 1) 83).set (s + 2) 72).map Value.int) (.int (0 : Int32)) := by
        rw [List.map_set]
        have q := A205
        rw [own_nc (show own_c 72 from ⟨by decide, by decide⟩)] at q
        exact q
      exact J132 ((([c14, c25, c36, c47, c58, c69].set s 77).set (s + 1) 83).set (s + 2) 72) h203 A206 (by simp) (own_Lset (own_Lset (own_Lset (own_Lc g15 (own_Lc g26 (own_Lc g37 (own_Lc g48 (own_Lc g59 (own_Lc g70 own_Ln)))))) (show own_c 77 from ⟨by decide, by decide⟩)) (show own_c 83 from ⟨by decide, by decide⟩)) (show own_c 72 from ⟨by decide, by decide⟩)) (((((((((((Keep.refl h0 []).ext E6).wr W17 (Or.inr hg4)).wr W28 (Or.inr hg4)).wr W39 (Or.inr hg4)).wr W50 (Or.inr hg4)).wr W61 (Or.inr hg4)).wr W72 (Or.inr hg4)).wr W196 (Or.inr hg4)).wr W200 (Or.inr hg4)).wr W204 (Or.inr hg4))
    · skip
      refine Wk.iload (pc' := 100) at_98 rfl rfl ?_
      refine Wk.iconst (pc' := 101) (v := 3) at_100 rfl rfl ?_
      refine Wk.iadd (pc' := 102) at_101 rfl ?_
      rw [(show Int32.ofNat s + (3 : Int32) = Int32.ofNat (s + 3) from own_addn s 3)]
      refine Wk.bipush (pc' := 104) (v := 6) at_102 rfl rfl ?_
      refine Wk.icmp_gtY (pc' := 132) at_104 (by decide) ((own_lt (i := 6) (by decide) (by omega)).mpr (by omega)) ?_
      exact J132 [c14, c25, c36, c47, c58, c69] h71 A193 (by simp) (own_Lc g15 (own_Lc g26 (own_Lc g37 (own_Lc g48 (own_Lc g59 (own_Lc g70 own_Ln)))))) ((((((((Keep.refl h0 []).ext E6).wr W17 (Or.inr hg4)).wr W28 (Or.inr hg4)).wr W39 (Or.inr hg4)).wr W50 (Or.inr hg4)).wr W61 (Or.inr hg4)).wr W72 (Or.inr hg4))
set_option maxRecDepth 65536 in
set_option maxHeartbeats 40000000 in
theorem comes_1 {Post : Tables → Env → Array Value → State → Outcome → State → Prop} (hpost : ∀ tb e args s v u, (limb_1_1.after args s (.returned v) u = true ∧ limb_1_2.after args s (.returned v) u = true ∧ True) → ReturnedEndW s (.returned v) u (Jvm.fieldLocs frame_1_writes args s ++ Jvm.arrayLocs frame_1_arrays args s ++ Jvm.staticLocs frame_1_statics s) 40 3328 → Post tb e args s (.returned v) u) :
    ArmFor flags0 classFile x code maxLocals ret World_1 tables_1 room_1 Calls_1 rest_1 Pre_1 Post := by
  intro l hfl _ _ p e ha hc hk s m args below hf hA hF happ hP
  obtain ⟨hcalls, hrest, hpre⟩ := hP
  obtain ⟨-, -, -, hnamed, -, -, -, hat⟩ := (Spec.applies_iff hf).mp happ
  obtain ⟨hg, hn⟩ := and_e (Cond.before_iff.mp (show (Jvm.Cond.and given_1 narrow_1).before args s = true from hpre))
  obtain ⟨g1, g2⟩ := and_e hg
  obtain ⟨g3, g4⟩ := and_e g2
  obtain ⟨g5, g6⟩ := and_e g4
  obtain ⟨g7, g8⟩ := and_e g6
  obtain ⟨g9, g10⟩ := and_e g8
  obtain ⟨g11, g12⟩ := and_e g10
  obtain ⟨a_0, a_1, a_2, a_3, a_4, a_5, rfl⟩ : ∃ a_0 a_1 a_2 a_3 a_4 a_5 : Value, args = #[a_0, a_1, a_2, a_3, a_4, a_5] := by
    have hs : args.size = 6 := by simpa [Cond.value, given_1] using g1
    obtain ⟨L⟩ := args
    match L, hs with
    | [a_0, a_1, a_2, a_3, a_4, a_5], _ => exact ⟨a_0, a_1, a_2, a_3, a_4, a_5, rfl⟩
  have hw := fun d (hd : d ∈ tables_1) => atoms_spec (ws := Jvm.Cond.code x code maxLocals ret :: tables_1) hat d (List.mem_cons_of_mem _ hd)
  have hfit : Fit s := fun {y c} hc i hi => by
    obtain ⟨ha, rfl⟩ := Array.getElem?_eq_some_iff.mp hc
    have q := List.all_eq_true.mp ((Array.all_eq_true_iff_forall_mem.mp hF) _ (Array.getElem_mem ha)) i (List.mem_range.mpr hi)
    simpa [Array.getElem?_eq_getElem hi] using q
  obtain ⟨hsets, hown0⟩ := atoms_of _ (rest_1_c_eq ▸ (show rest_1_c.before _ s = true from hrest))
  obtain ⟨i0, ei0⟩ := is_v g3
  obtain rfl : a_0 = (.int i0) := Option.some.inj ei0
  obtain ⟨i1, ei1⟩ := is_v g5
  obtain rfl : a_1 = (.int i1) := Option.some.inj ei1
  obtain ⟨i2, ei2⟩ := is_v g7
  obtain rfl : a_2 = (.int i2) := Option.some.inj ei2
  obtain ⟨i3, ei3⟩ := is_v g9
  obtain rfl : a_3 = (.int i3) := Option.some.inj ei3
  obtain ⟨i4, ei4⟩ := is_v g11
  obtain rfl : a_4 = (.int i4) := Option.some.inj ei4
  obtain ⟨i5, ei5⟩ := is_v g12
  obtain rfl : a_5 = (.int i5) := Option.some.inj ei5
  obtain ⟨i_1, e_2⟩ := is_v (Cond.before_iff.mp (hsets _ (List.mem_of_getElem? (i := 1) rfl)))
  have S_3 : Sta s s.heap "java/lang/String" "COMPACT_STRINGS" "Z" (.int i_1) := Sta.start e_2 (Or.inl (hsets _ (List.mem_of_getElem? (i := 0) rfl)))
  have c_4 : ¬ (i_1 = (0 : Int32)) := gotF (Cond.eq_ints e_2 (Term.int_eval (0))) (not_v (Cond.before_iff.mp (hsets _ (List.mem_of_getElem? (i := 2) rfl))))
  obtain ⟨v_5, e_6, r_7⟩ := isR_v (Cond.before_iff.mp (hsets _ (List.mem_of_getElem? (i := 8) rfl)))
  have S_8 : Sta s s.heap "jdk/internal/util/Preconditions" "SIOOBE_FORMATTER" "Ljava/util/function/BiFunction;" v_5 := Sta.start e_6 (Or.inl (hsets _ (List.mem_of_getElem? (i := 7) rfl)))
  have hH20 : Jvm.Lit.constHeld s "com/example/quittance/quittance/SegmentEndPinLaw" 20 := hcalls.1 ("com/example/quittance/quittance/SegmentEndPinLaw", 20) (by simp [consts_1])
  have hH24 : Jvm.Lit.constHeld s "com/example/quittance/quittance/Segment" 24 := hcalls.1 ("com/example/quittance/quittance/Segment", 24) (by simp [consts_1])
  have hH151 : Jvm.Lit.constHeld s "java/lang/StringLatin1" 151 := hcalls.1 ("java/lang/StringLatin1", 151) (by simp [consts_1])
  obtain ⟨n, o, h1, h2, h3, v, L, J, rfl, hQ, hV, N, hE, hq⟩ := rm_law (l := l) (Z := s) hw i0 i1 i2 i3 i4 i5 i_1 v_5 s.heap  S_3 c_4 S_8 r_7 hH20 hH24 hH151 (hsets _ (List.mem_of_getElem? (i := 2) rfl)) tables_1 p e ha hc hk s m _ below hf ((Spec.applies_iff_loose hf).mp happ).1 ⟨rfl, State.Warmed39.refl s, rfl, ⟨IB.start, fun u hu => by cases hu⟩, ⟨Nat.le_refl _, fun _ _ h => h⟩, Nat.le_refl _, Nat.le_refl _⟩ trivial
  obtain ⟨-, rfl⟩ := hQ
  refine ⟨n, _, h1, h2, h3, hpost _ _ _ _ _ _ ⟨Cond.after_iff.mpr rfl, Cond.after_iff.mpr (eq_i res_at (Term.int_eval (1)) rfl), trivial⟩ ⟨⟨_, rfl⟩, hq.2.1, hq.2.2.1, (hq.2.2.2.sift fun y hy => Or.inr (N y hy)).mono (Nat.le_of_ble_eq_true rfl) (Nat.le_of_ble_eq_true rfl)⟩⟩
theorem main_1_1 : Claimed_1_1 := comes_1 fun _ _ _ _ _ _ h hF => ⟨h.1, hF⟩
theorem main_1_2 : Claimed_1_2 := comes_1 fun _ _ _ _ _ _ h hF => ⟨h.2.1, hF⟩
end Jvm.Pilot.@@N@@
namespace Jvm.Pilot.@@N@@
open Jvm Jvm.ClassFile Sem Op Lib Jvm.Free Jvm.Stand Jvm.Pilot.@@N@@.Jvm.D
/-! MADE BY PROGRAM (witnessworld.py) out of the Statement's table words and the real class files: 28 classes; the members and pool entries that the words name. The judged class is class 1, her method 1. -/
namespace start1
open Jvm.ClassFile
def u (s : String) : CpInfo := .utf8 (stringToUtf16 s)
/-- a pool by its gaps: so many unusable entries, then the entry; so many at the end -/
def gap : Nat → List CpInfo → List CpInfo
  | 0, r => r
  | n + 1, r => .unusable :: gap n r
def poolList (es : List (Nat × CpInfo)) (last : Nat) : List CpInfo := es.foldr (fun e r => gap e.1 (e.2 :: r)) (gap last [])
def pool (es : List (Nat × CpInfo)) (last : Nat) : Array CpInfo := ⟨poolList es last⟩
def fileOf (pool : Array CpInfo) (this : Nat) (attrs : Array Attribute := #[]) (ms : Array MethodInfo := #[]) (fl : Nat := 33) (sup : Nat := 0) (ifs : Array Nat := #[]) (fds : Array FieldInfo := #[]) : ClassFile where
  minorVersion := 0
  majorVersion := 65
  constantPool := pool
  accessFlags := fl
  thisClass := this
  superClass := sup
  interfaces := ifs
  fields := fds
  methods := ms
  attributes := attrs
def plain (name : String) (sup : Option ClassId) : Class where
  name := name
  kind := .ordinary
  loader := none
  accessFlags := 33
  super := sup
  interfaces := #[]
  cf := none
  fields := #[]
  methods := #[]
  instanceTypes := #[]
  staticTypes := #[]
  resolved := #[]
  callSites := []
  init := .initialized
  statics := none
  mirror := none

def pool0 : Array CpInfo := pool [(5, u "<init>"), (0, u "()V"), (1, .class_ 10), (1, u "java/lang/Object")] 113

def k0c0 : Code := { maxStack := 0, maxLocals := 1, code := object_method_1_code, exceptionTable := #[], attributes := #[] }
def k0m0 : Method := { name := "<init>", desc := "()V", sig := { parameters := [], returnType := none }, accessFlags := 1, code := some k0c0 }
/-- java/lang/Object -/
def k0 : Class := { plain "java/lang/Object" none with
  accessFlags := 33
  interfaces := #[]
  cf := some (fileOf pool0 8 #[] #[{ accessFlags := 1, nameIndex := 5, descriptorIndex := 6, attributes := #[] }] 33 0 #[] #[])
  fields := #[]
  methods := #[k0m0]
  instanceTypes := #[]
  staticTypes := #[]
  resolved := Array.replicate 124 none
  statics := none }

def pool1 : Array CpInfo := pool [(2, .class_ 4), (1, u "java/lang/Object"), (0, u "<init>"), (0, u "()V"), (0, .methodref 8 9), (0, .class_ 10), (0, .nameAndType 11 12), (0, u "com/example/quittance/quittance/SegmentEndPinLaw"), (0, u "pick"), (0, u "(I)C"), (0, .integer 2147483647), (0, .methodref 8 15), (0, .nameAndType 16 17), (0, u "expected"), (0, u "([CIII)I"), (0, .class_ 19), (0, u "com/example/quittance/quittance/Delimiters"), (0, .string 21), (0, u "^~\\&"), (0, .methodref 18 23), (0, .nameAndType 5 24), (0, u "(CLjava/lang/String;)V"), (0, .class_ 26), (0, u "com/example/quittance/quittance/Segment"), (0, .class_ 28), (0, u "java/lang/String"), (0, .methodref 27 30), (0, .nameAndType 5 31), (0, u "([C)V"), (0, .methodref 25 33), (0, .nameAndType 5 34), (0, u "(Ljava/lang/String;IILcom/example/quittance/quittance/Delimiters;)V"), (0, .methodref 25 36), (0, .nameAndType 37 38), (0, u "end"), (0, u "(I)I"), (0, .methodref 8 40), (0, .nameAndType 41 42), (0, u "nextSep"), (0, u "([CII)I"), (0, .methodref 44 45), (0, .class_ 46), (0, .nameAndType 47 48), (0, u "java/lang/Math"), (0, u "min"), (0, u "(II)I"), (0, .methodref 8 50), (0, .nameAndType 51 42), (0, u "step"), (0, .methodref 8 53), (0, .nameAndType 54 17), (0, u "walk"), (2, u "law"), (0, u "(IIIIII)Z")] 5

def k1m0 : Method := { name := "<init>", desc := "()V", sig := { parameters := [], returnType := none }, accessFlags := 1, code := none }
def k1c1 : Code := { maxStack := 6, maxLocals := 13, code := code, exceptionTable := #[], attributes := #[] }
def k1m1 : Method := { name := "law", desc := "(IIIIII)Z", sig := { parameters := [.int, .int, .int, .int, .int, .int], returnType := some .boolean }, accessFlags := 9, code := some k1c1 }
def k1c2 : Code := { maxStack := 2, maxLocals := 2, code := method_3_code, exceptionTable := #[], attributes := #[] }
def k1m2 : Method := { name := "pick", desc := "(I)C", sig := { parameters := [.int], returnType := some .char }, accessFlags := 10, code := some k1c2 }
def k1c3 : Code := { maxStack := 2, maxLocals := 3, code := method_4_code, exceptionTable := #[], attributes := #[] }
def k1m3 : Method := { name := "nextSep", desc := "([CII)I", sig := { parameters := [(.array .char), .int, .int], returnType := some .int }, accessFlags := 10, code := some k1c3 }
def k1c4 : Code := { maxStack := 3, maxLocals := 3, code := method_5_code, exceptionTable := #[], attributes := #[] }
def k1m4 : Method := { name := "step", desc := "([CII)I", sig := { parameters := [(.array .char), .int, .int], returnType := some .int }, accessFlags := 10, code := some k1c4 }
def k1c5 : Code := { maxStack := 3, maxLocals := 6, code := method_6_code, exceptionTable := #[], attributes := #[] }
def k1m5 : Method := { name := "walk", desc := "([CIII)I", sig := { parameters := [(.array .char), .int, .int, .int], returnType := some .int }, accessFlags := 10, code := some k1c5 }
def k1c6 : Code := { maxStack := 5, maxLocals := 5, code := method_7_code, exceptionTable := #[], attributes := #[] }
def k1m6 : Method := { name := "expected", desc := "([CIII)I", sig := { parameters := [(.array .char), .int, .int, .int], returnType := some .int }, accessFlags := 10, code := some k1c6 }
/-- com/example/quittance/quittance/SegmentEndPinLaw -/
def k1 : Class := { plain "com/example/quittance/quittance/SegmentEndPinLaw" (some 0) with
  accessFlags := 49
  interfaces := #[]
  cf := some (fileOf pool1 8 #[] #[{ accessFlags := 1, nameIndex := 5, descriptorIndex := 6, attributes := #[] }, { accessFlags := 9, nameIndex := 57, descriptorIndex := 58, attributes := #[] }, { accessFlags := 10, nameIndex := 11, descriptorIndex := 12, attributes := #[] }, { accessFlags := 10, nameIndex := 41, descriptorIndex := 42, attributes := #[] }, { accessFlags := 10, nameIndex := 51, descriptorIndex := 42, attributes := #[] }, { accessFlags := 10, nameIndex := 54, descriptorIndex := 17, attributes := #[] }, { accessFlags := 10, nameIndex := 16, descriptorIndex := 17, attributes := #[] }] 49 2 #[] #[])
  fields := #[]
  methods := #[k1m0, k1m1, k1m2, k1m3, k1m4, k1m5, k1m6]
  instanceTypes := #[]
  staticTypes := #[]
  resolved := Array.replicate 64 none
  statics := none }

def pool2 : Array CpInfo := pool [(1, .class_ 2), (0, u "java/lang/Math"), (1, .class_ 6), (1, u "java/lang/Object"), (0, u "<init>"), (0, u "()V"), (89, .class_ 100), (1, u "java/lang/Math$RandomNumberGeneratorHolder"), (71, u "negativeZeroFloatBits"), (0, u "J"), (2, u "negativeZeroDoubleBits"), (24, u "min"), (43, u "$assertionsDisabled"), (0, u "Z"), (88, u "(II)I"), (2, u "twoToTheDoubleScaleDown"), (0, u "D"), (4, u "twoToTheDoubleScaleUp"), (9, u "E"), (3, u "PI"), (2, u "TAU"), (2, u "DEGREES_TO_RADIANS"), (0, u "RADIANS_TO_DEGREES")] 94

def k2m0 : Method := { name := "<init>", desc := "()V", sig := { parameters := [], returnType := none }, accessFlags := 2, code := none }
def k2c1 : Code := { maxStack := 2, maxLocals := 2, code := jdk_29_method_69_code, exceptionTable := #[], attributes := #[] }
def k2m1 : Method := { name := "min", desc := "(II)I", sig := { parameters := [.int, .int], returnType := some .int }, accessFlags := 9, code := some k2c1 }
/-- java/lang/Math -/
def k2 : Class := { plain "java/lang/Math" (some 0) with
  accessFlags := 49
  interfaces := #[]
  cf := some (fileOf pool2 1 #[.nestMembers #[98]] #[{ accessFlags := 2, nameIndex := 7, descriptorIndex := 8, attributes := #[] }, { accessFlags := 9, nameIndex := 201, descriptorIndex := 335, attributes := #[] }] 49 4 #[] #[{ accessFlags := 25, nameIndex := 354, descriptorIndex := 339, attributes := #[] }, { accessFlags := 25, nameIndex := 358, descriptorIndex := 339, attributes := #[] }, { accessFlags := 25, nameIndex := 361, descriptorIndex := 339, attributes := #[] }, { accessFlags := 26, nameIndex := 364, descriptorIndex := 339, attributes := #[] }, { accessFlags := 26, nameIndex := 365, descriptorIndex := 339, attributes := #[] }, { accessFlags := 26, nameIndex := 172, descriptorIndex := 173, attributes := #[] }, { accessFlags := 26, nameIndex := 176, descriptorIndex := 173, attributes := #[] }, { accessFlags := 8, nameIndex := 344, descriptorIndex := 339, attributes := #[] }, { accessFlags := 8, nameIndex := 338, descriptorIndex := 339, attributes := #[] }, { accessFlags := 4120, nameIndex := 245, descriptorIndex := 246, attributes := #[] }])
  fields := #[{ name := "E", type := .double, accessFlags := 25, slot := 0, constantValue := 0 }, { name := "PI", type := .double, accessFlags := 25, slot := 1, constantValue := 0 }, { name := "TAU", type := .double, accessFlags := 25, slot := 2, constantValue := 0 }, { name := "DEGREES_TO_RADIANS", type := .double, accessFlags := 26, slot := 3, constantValue := 0 }, { name := "RADIANS_TO_DEGREES", type := .double, accessFlags := 26, slot := 4, constantValue := 0 }, { name := "negativeZeroFloatBits", type := .long, accessFlags := 26, slot := 5, constantValue := 0 }, { name := "negativeZeroDoubleBits", type := .long, accessFlags := 26, slot := 6, constantValue := 0 }, { name := "twoToTheDoubleScaleUp", type := .double, accessFlags := 8, slot := 7, constantValue := 0 }, { name := "twoToTheDoubleScaleDown", type := .double, accessFlags := 8, slot := 8, constantValue := 0 }, { name := "$assertionsDisabled", type := .boolean, accessFlags := 4120, slot := 9, constantValue := 0 }]
  methods := #[k2m0, k2m1]
  instanceTypes := #[]
  staticTypes := #[.double, .double, .double, .double, .double, .long, .long, .double, .double, .boolean]
  resolved := Array.replicate 460 none
  statics := none }

def pool3 : Array CpInfo := pool [(1, .methodref 2 3), (0, .class_ 4), (0, .nameAndType 5 6), (0, u "java/lang/Object"), (0, u "<init>"), (0, u "()V"), (0, .class_ 8), (0, u "java/lang/Record")] 13

def k3c0 : Code := { maxStack := 1, maxLocals := 1, code := jdk_30_method_1_code, exceptionTable := #[], attributes := #[] }
def k3m0 : Method := { name := "<init>", desc := "()V", sig := { parameters := [], returnType := none }, accessFlags := 4, code := some k3c0 }
/-- java/lang/Record -/
def k3 : Class := { plain "java/lang/Record" (some 0) with
  accessFlags := 1057
  interfaces := #[]
  cf := some (fileOf pool3 7 #[] #[{ accessFlags := 4, nameIndex := 5, descriptorIndex := 6, attributes := #[] }] 1057 2 #[] #[])
  fields := #[]
  methods := #[k3m0]
  instanceTypes := #[]
  staticTypes := #[]
  resolved := Array.replicate 22 none
  statics := none }

def pool4 : Array CpInfo := pool [(1, .methodref 2 3), (0, .class_ 4), (0, .nameAndType 5 6), (0, u "java/lang/Record"), (0, u "<init>"), (0, u "()V"), (0, .fieldref 8 9), (0, .class_ 10), (0, .nameAndType 11 12), (0, u "com/example/quittance/quittance/Delimiters"), (0, u "field"), (0, u "C"), (0, .fieldref 8 14), (0, .nameAndType 15 16), (0, u "encodingCharacters"), (0, u "Ljava/lang/String;"), (1, .class_ 20), (1, u "java/lang/String"), (2, .methodref 18 24), (0, .nameAndType 25 26), (0, u "charAt"), (0, u "(I)C"), (51, u "()C"), (96, u "FRAMING_BYTES"), (0, u "Ljava/util/List;"), (42, u "STANDARD"), (0, u "Lcom/example/quittance/quittance/Delimiters;"), (37, u "HEX"), (0, u "Ljava/util/HexFormat;"), (34, u "(CLjava/lang/String;)V"), (9, u "ESCAPE_LETTERS"), (12, u "partEnd"), (0, u "(Ljava/lang/String;CII)I")] 81

def k4c0 : Code := { maxStack := 2, maxLocals := 3, code := prog_23_method_1_code, exceptionTable := #[], attributes := #[] }
def k4m0 : Method := { name := "<init>", desc := "(CLjava/lang/String;)V", sig := { parameters := [.char, (.object "java/lang/String")], returnType := none }, accessFlags := 0, code := some k4c0 }
def k4c1 : Code := { maxStack := 2, maxLocals := 5, code := prog_23_method_4_code, exceptionTable := #[], attributes := #[] }
def k4m1 : Method := { name := "partEnd", desc := "(Ljava/lang/String;CII)I", sig := { parameters := [(.object "java/lang/String"), .char, .int, .int], returnType := some .int }, accessFlags := 8, code := some k4c1 }
def k4c2 : Code := { maxStack := 1, maxLocals := 1, code := prog_23_method_37_code, exceptionTable := #[], attributes := #[] }
def k4m2 : Method := { name := "field", desc := "()C", sig := { parameters := [], returnType := some .char }, accessFlags := 1, code := some k4c2 }
/-- com/example/quittance/quittance/Delimiters -/
def k4 : Class := { plain "com/example/quittance/quittance/Delimiters" (some 3) with
  accessFlags := 48
  interfaces := #[]
  cf := some (fileOf pool4 8 #[] #[{ accessFlags := 0, nameIndex := 5, descriptorIndex := 294, attributes := #[] }, { accessFlags := 8, nameIndex := 317, descriptorIndex := 318, attributes := #[] }, { accessFlags := 1, nameIndex := 11, descriptorIndex := 78, attributes := #[] }] 48 2 #[] #[{ accessFlags := 18, nameIndex := 11, descriptorIndex := 12, attributes := #[] }, { accessFlags := 18, nameIndex := 15, descriptorIndex := 16, attributes := #[] }, { accessFlags := 24, nameIndex := 219, descriptorIndex := 220, attributes := #[] }, { accessFlags := 26, nameIndex := 304, descriptorIndex := 16, attributes := #[] }, { accessFlags := 26, nameIndex := 175, descriptorIndex := 176, attributes := #[] }, { accessFlags := 26, nameIndex := 258, descriptorIndex := 259, attributes := #[] }])
  fields := #[{ name := "field", type := .char, accessFlags := 18, slot := 0, constantValue := 0 }, { name := "encodingCharacters", type := (.object "java/lang/String"), accessFlags := 18, slot := 1, constantValue := 0 }, { name := "STANDARD", type := (.object "com/example/quittance/quittance/Delimiters"), accessFlags := 24, slot := 0, constantValue := 0 }, { name := "ESCAPE_LETTERS", type := (.object "java/lang/String"), accessFlags := 26, slot := 1, constantValue := 0 }, { name := "FRAMING_BYTES", type := (.object "java/util/List"), accessFlags := 26, slot := 2, constantValue := 0 }, { name := "HEX", type := (.object "java/util/HexFormat"), accessFlags := 26, slot := 3, constantValue := 0 }]
  methods := #[k4m0, k4m1, k4m2]
  instanceTypes := #[.char, (.object "java/lang/String")]
  staticTypes := #[(.object "com/example/quittance/quittance/Delimiters"), (.object "java/lang/String"), (.object "java/util/List"), (.object "java/util/HexFormat")]
  resolved := Array.replicate 400 none
  statics := none }

def pool5 : Array CpInfo := pool [(1, .class_ 2), (0, u "java/io/Serializable"), (0, .class_ 4), (0, u "java/lang/Object")] 2

/-- java/io/Serializable -/
def k5 : Class := { plain "java/io/Serializable" (some 0) with
  accessFlags := 1537
  interfaces := #[]
  cf := some (fileOf pool5 1 #[] #[] 1537 3 #[] #[])
  fields := #[]
  methods := #[]
  instanceTypes := #[]
  staticTypes := #[]
  resolved := Array.replicate 7 none
  statics := none }

def pool6 : Array CpInfo := pool [(1, .class_ 2), (0, u "java/lang/Comparable"), (0, .class_ 4), (0, u "java/lang/Object")] 7

/-- java/lang/Comparable -/
def k6 : Class := { plain "java/lang/Comparable" (some 0) with
  accessFlags := 1537
  interfaces := #[]
  cf := some (fileOf pool6 1 #[] #[] 1537 3 #[] #[])
  fields := #[]
  methods := #[]
  instanceTypes := #[]
  staticTypes := #[]
  resolved := Array.replicate 12 none
  statics := none }

def pool7 : Array CpInfo := pool [(2, .class_ 4), (1, u "java/lang/CharSequence"), (42, .class_ 48), (0, u "java/lang/CharSequence$1CodePointIterator"), (10, .class_ 60), (0, u "java/lang/CharSequence$1CharIterator"), (5, .class_ 67), (0, u "java/lang/Object")] 63

/-- java/lang/CharSequence -/
def k7 : Class := { plain "java/lang/CharSequence" (some 0) with
  accessFlags := 1537
  interfaces := #[]
  cf := some (fileOf pool7 2 #[.nestMembers #[47, 59]] #[] 1537 66 #[] #[])
  fields := #[]
  methods := #[]
  instanceTypes := #[]
  staticTypes := #[]
  resolved := Array.replicate 131 none
  statics := none }

def pool8 : Array CpInfo := pool [(1, .class_ 2), (0, u "java/lang/constant/Constable"), (0, .class_ 4), (0, u "java/lang/Object")] 6

/-- java/lang/constant/Constable -/
def k8 : Class := { plain "java/lang/constant/Constable" (some 0) with
  accessFlags := 1537
  interfaces := #[]
  cf := some (fileOf pool8 1 #[] #[] 1537 3 #[] #[])
  fields := #[]
  methods := #[]
  instanceTypes := #[]
  staticTypes := #[]
  resolved := Array.replicate 11 none
  statics := none }

def pool9 : Array CpInfo := pool [(1, .class_ 2), (0, u "java/lang/constant/ConstantDesc"), (0, .class_ 4), (0, u "java/lang/Object")] 32

/-- java/lang/constant/ConstantDesc -/
def k9 : Class := { plain "java/lang/constant/ConstantDesc" (some 0) with
  accessFlags := 1537
  interfaces := #[]
  cf := some (fileOf pool9 1 #[] #[] 1537 3 #[] #[])
  fields := #[]
  methods := #[]
  instanceTypes := #[]
  staticTypes := #[]
  resolved := Array.replicate 37 none
  statics := none }

def pool10 : Array CpInfo := pool [(1, .methodref 2 3), (0, .class_ 4), (0, .nameAndType 5 6), (0, u "java/lang/Object"), (0, u "<init>"), (0, u "()V"), (2, .fieldref 10 11), (0, .class_ 12), (0, .nameAndType 13 14), (0, u "java/lang/String"), (0, u "value"), (0, u "[B"), (0, .fieldref 10 16), (0, .nameAndType 17 18), (0, u "coder"), (0, u "B"), (2, u "hash"), (0, u "I"), (2, u "hashIsZero"), (0, u "Z"), (0, .methodref 10 28), (0, .nameAndType 5 29), (0, u "([CIILjava/lang/Void;)V"), (8, .fieldref 10 39), (0, .nameAndType 40 26), (0, u "COMPACT_STRINGS"), (1, .class_ 44), (1, u "java/lang/StringUTF16"), (0, u "compress"), (1, .methodref 42 48), (0, .nameAndType 49 50), (0, u "coderFromArrayLen"), (0, u "([BI)B"), (3, .methodref 55 56), (0, .class_ 57), (0, .nameAndType 58 59), (0, u "java/util/Arrays"), (0, u "copyOfRange"), (0, u "([BII)[B"), (47, .class_ 109), (1, u "java/lang/StringLatin1"), (32, u "()Z"), (34, .methodref 42 178), (0, .nameAndType 45 179), (0, u "([CII)[B"), (13, .class_ 195), (1, u "java/lang/System"), (15, u "([BB)V"), (0, .methodref 193 213), (0, .nameAndType 214 215), (0, u "arraycopy"), (0, u "(Ljava/lang/Object;ILjava/lang/Object;II)V"), (118, u "()I"), (0, .methodref 10 336), (0, .nameAndType 17 337), (0, u "()B"), (2, u "()[B"), (22, u "([BI)C"), (12, u "([BI[BII)I"), (14, u "(II)V"), (35, u "(I)C"), (61, .methodref 10 490), (0, .nameAndType 5 491), (0, u "(Ljava/lang/AbstractStringBuilder;Ljava/lang/Void;)V"), (0, .methodref 10 493), (0, .nameAndType 494 142), (0, u "isLatin1"), (0, .methodref 107 496), (0, .nameAndType 497 363), (0, u "charAt"), (3, u "checkIndex"), (3, .methodref 10 506), (0, .nameAndType 507 334), (0, u "length"), (5, u "checkFromToIndex"), (7, .methodref 10 522), (0, .nameAndType 523 524), (0, u "checkBoundsBeginEnd"), (0, u "(III)V"), (7, u "getBytes"), (16, .methodref 550 506), (0, .class_ 551), (0, u "java/lang/AbstractStringBuilder"), (0, .methodref 550 553), (0, .nameAndType 554 340), (0, u "getValue"), (4, .class_ 561), (1, u "jdk/internal/util/ArraysSupport"), (0, u "mismatch"), (12, .class_ 576), (0, u "java/lang/CharSequence"), (22, u "CASE_INSENSITIVE_ORDER"), (0, u "Ljava/util/Comparator;"), (6, .methodref 559 608), (0, .nameAndType 562 376), (17, u "startsWith"), (0, u "(Ljava/lang/String;I)Z"), (55, u "substring"), (0, u "(II)Ljava/lang/String;"), (0, .methodref 107 686), (0, .nameAndType 687 688), (0, u "newString"), (0, u "([BII)Ljava/lang/String;"), (132, u "([BIB)V"), (188, u "([C)V"), (36, .methodref 550 493), (5, .fieldref 1054 1055), (0, .class_ 1056), (0, .nameAndType 1057 1058), (0, u "jdk/internal/util/Preconditions"), (0, u "SIOOBE_FORMATTER"), (0, u "Ljava/util/function/BiFunction;"), (0, .methodref 1054 1060), (0, .nameAndType 501 1061), (0, u "(IILjava/util/function/BiFunction;)I"), (0, .methodref 1054 1063), (0, .nameAndType 513 1064), (0, u "(IIILjava/util/function/BiFunction;)I"), (36, u "serialPersistentFields"), (0, u "[Ljava/io/ObjectStreamField;"), (0, .class_ 1104), (0, u "java/lang/String$CaseInsensitiveComparator"), (1, .class_ 1107), (0, u "java/io/Serializable"), (0, .class_ 1109), (0, u "java/lang/Comparable"), (0, .class_ 1111), (0, u "java/lang/constant/Constable"), (0, .class_ 1113), (0, u "java/lang/constant/ConstantDesc"), (2, u "serialVersionUID"), (0, u "J"), (3, u "REPL"), (0, u "C"), (2, u "LATIN1"), (1, u "UTF16"), (105, u "(Ljava/lang/StringBuilder;)V")] 217

def k10m0 : Method := { name := "<init>", desc := "()V", sig := { parameters := [], returnType := none }, accessFlags := 1, code := none }
def k10c1 : Code := { maxStack := 5, maxLocals := 2, code := jdk_42_method_3_code, exceptionTable := #[], attributes := #[] }
def k10m1 : Method := { name := "<init>", desc := "([C)V", sig := { parameters := [(.array .char)], returnType := none }, accessFlags := 1, code := some k10c1 }
def k10c2 : Code := { maxStack := 3, maxLocals := 2, code := jdk_42_method_53_code, exceptionTable := #[], attributes := #[] }
def k10m2 : Method := { name := "<init>", desc := "(Ljava/lang/StringBuilder;)V", sig := { parameters := [(.object "java/lang/StringBuilder")], returnType := none }, accessFlags := 1, code := some k10c2 }
def k10c3 : Code := { maxStack := 2, maxLocals := 1, code := jdk_42_method_54_code, exceptionTable := #[], attributes := #[] }
def k10m3 : Method := { name := "length", desc := "()I", sig := { parameters := [], returnType := some .int }, accessFlags := 1, code := some k10c3 }
def k10c4 : Code := { maxStack := 2, maxLocals := 2, code := jdk_42_method_56_code, exceptionTable := #[], attributes := #[] }
def k10m4 : Method := { name := "charAt", desc := "(I)C", sig := { parameters := [.int], returnType := some .char }, accessFlags := 1, code := some k10c4 }
def k10c5 : Code := { maxStack := 5, maxLocals := 8, code := jdk_42_method_75_code, exceptionTable := #[], attributes := #[] }
def k10m5 : Method := { name := "startsWith", desc := "(Ljava/lang/String;I)Z", sig := { parameters := [(.object "java/lang/String"), .int], returnType := some .boolean }, accessFlags := 1, code := some k10c5 }
def k10c6 : Code := { maxStack := 3, maxLocals := 5, code := jdk_42_method_92_code, exceptionTable := #[], attributes := #[] }
def k10m6 : Method := { name := "substring", desc := "(II)Ljava/lang/String;", sig := { parameters := [.int, .int], returnType := some (.object "java/lang/String") }, accessFlags := 1, code := some k10c6 }
def k10c7 : Code := { maxStack := 5, maxLocals := 4, code := jdk_42_method_147_code, exceptionTable := #[], attributes := #[] }
def k10m7 : Method := { name := "getBytes", desc := "([BIB)V", sig := { parameters := [(.array .byte), .int, .byte], returnType := none }, accessFlags := 0, code := some k10c7 }
def k10c8 : Code := { maxStack := 4, maxLocals := 6, code := jdk_42_method_149_code, exceptionTable := #[], attributes := #[] }
def k10m8 : Method := { name := "<init>", desc := "([CIILjava/lang/Void;)V", sig := { parameters := [(.array .char), .int, .int, (.object "java/lang/Void")], returnType := none }, accessFlags := 2, code := some k10c8 }
def k10c9 : Code := { maxStack := 5, maxLocals := 5, code := jdk_42_method_150_code, exceptionTable := #[], attributes := #[] }
def k10m9 : Method := { name := "<init>", desc := "(Ljava/lang/AbstractStringBuilder;Ljava/lang/Void;)V", sig := { parameters := [(.object "java/lang/AbstractStringBuilder"), (.object "java/lang/Void")], returnType := none }, accessFlags := 0, code := some k10c9 }
def k10c10 : Code := { maxStack := 2, maxLocals := 3, code := jdk_42_method_151_code, exceptionTable := #[], attributes := #[] }
def k10m10 : Method := { name := "<init>", desc := "([BB)V", sig := { parameters := [(.array .byte), .byte], returnType := none }, accessFlags := 0, code := some k10c10 }
def k10c11 : Code := { maxStack := 1, maxLocals := 1, code := jdk_42_method_152_code, exceptionTable := #[], attributes := #[] }
def k10m11 : Method := { name := "coder", desc := "()B", sig := { parameters := [], returnType := some .byte }, accessFlags := 0, code := some k10c11 }
def k10c12 : Code := { maxStack := 1, maxLocals := 1, code := jdk_42_method_154_code, exceptionTable := #[], attributes := #[] }
def k10m12 : Method := { name := "isLatin1", desc := "()Z", sig := { parameters := [], returnType := some .boolean }, accessFlags := 0, code := some k10c12 }
def k10c13 : Code := { maxStack := 3, maxLocals := 2, code := jdk_42_method_155_code, exceptionTable := #[], attributes := #[] }
def k10m13 : Method := { name := "checkIndex", desc := "(II)V", sig := { parameters := [.int, .int], returnType := none }, accessFlags := 8, code := some k10c13 }
def k10c14 : Code := { maxStack := 4, maxLocals := 3, code := jdk_42_method_158_code, exceptionTable := #[], attributes := #[] }
def k10m14 : Method := { name := "checkBoundsBeginEnd", desc := "(III)V", sig := { parameters := [.int, .int, .int], returnType := none }, accessFlags := 8, code := some k10c14 }
/-- java/lang/String -/
def k10 : Class := { plain "java/lang/String" (some 0) with
  accessFlags := 49
  interfaces := #[5, 6, 7, 8, 9]
  cf := some (fileOf pool10 10 #[.nestMembers #[1103]] #[{ accessFlags := 1, nameIndex := 5, descriptorIndex := 6, attributes := #[] }, { accessFlags := 1, nameIndex := 5, descriptorIndex := 1010, attributes := #[] }, { accessFlags := 1, nameIndex := 5, descriptorIndex := 1233, attributes := #[] }, { accessFlags := 1, nameIndex := 507, descriptorIndex := 334, attributes := #[] }, { accessFlags := 1, nameIndex := 497, descriptorIndex := 427, attributes := #[] }, { accessFlags := 1, nameIndex := 626, descriptorIndex := 627, attributes := #[] }, { accessFlags := 1, nameIndex := 683, descriptorIndex := 684, attributes := #[] }, { accessFlags := 0, nameIndex := 532, descriptorIndex := 821, attributes := #[] }, { accessFlags := 2, nameIndex := 5, descriptorIndex := 29, attributes := #[] }, { accessFlags := 0, nameIndex := 5, descriptorIndex := 491, attributes := #[] }, { accessFlags := 0, nameIndex := 5, descriptorIndex := 211, attributes := #[] }, { accessFlags := 0, nameIndex := 17, descriptorIndex := 337, attributes := #[] }, { accessFlags := 0, nameIndex := 494, descriptorIndex := 142, attributes := #[] }, { accessFlags := 8, nameIndex := 501, descriptorIndex := 391, attributes := #[] }, { accessFlags := 8, nameIndex := 523, descriptorIndex := 524, attributes := #[] }] 49 2 #[1106, 1108, 575, 1110, 1112] #[{ accessFlags := 18, nameIndex := 13, descriptorIndex := 14, attributes := #[] }, { accessFlags := 18, nameIndex := 17, descriptorIndex := 18, attributes := #[] }, { accessFlags := 2, nameIndex := 21, descriptorIndex := 22, attributes := #[] }, { accessFlags := 2, nameIndex := 25, descriptorIndex := 26, attributes := #[] }, { accessFlags := 26, nameIndex := 1116, descriptorIndex := 1117, attributes := #[] }, { accessFlags := 24, nameIndex := 40, descriptorIndex := 26, attributes := #[] }, { accessFlags := 26, nameIndex := 1101, descriptorIndex := 1102, attributes := #[] }, { accessFlags := 26, nameIndex := 1121, descriptorIndex := 1122, attributes := #[] }, { accessFlags := 25, nameIndex := 599, descriptorIndex := 600, attributes := #[] }, { accessFlags := 24, nameIndex := 1125, descriptorIndex := 18, attributes := #[] }, { accessFlags := 24, nameIndex := 1127, descriptorIndex := 18, attributes := #[] }])
  fields := #[{ name := "value", type := (.array .byte), accessFlags := 18, slot := 0, constantValue := 0 }, { name := "coder", type := .byte, accessFlags := 18, slot := 1, constantValue := 0 }, { name := "hash", type := .int, accessFlags := 2, slot := 2, constantValue := 0 }, { name := "hashIsZero", type := .boolean, accessFlags := 2, slot := 3, constantValue := 0 }, { name := "serialVersionUID", type := .long, accessFlags := 26, slot := 0, constantValue := 0 }, { name := "COMPACT_STRINGS", type := .boolean, accessFlags := 24, slot := 1, constantValue := 0 }, { name := "serialPersistentFields", type := (.array (.object "java/io/ObjectStreamField")), accessFlags := 26, slot := 2, constantValue := 0 }, { name := "REPL", type := .char, accessFlags := 26, slot := 3, constantValue := 0 }, { name := "CASE_INSENSITIVE_ORDER", type := (.object "java/util/Comparator"), accessFlags := 25, slot := 4, constantValue := 0 }, { name := "LATIN1", type := .byte, accessFlags := 24, slot := 5, constantValue := 0 }, { name := "UTF16", type := .byte, accessFlags := 24, slot := 6, constantValue := 0 }]
  methods := #[k10m0, k10m1, k10m2, k10m3, k10m4, k10m5, k10m6, k10m7, k10m8, k10m9, k10m10, k10m11, k10m12, k10m13, k10m14]
  instanceTypes := #[(.array .byte), .byte, .int, .boolean]
  staticTypes := #[.long, .boolean, (.array (.object "java/io/ObjectStreamField")), .char, (.object "java/util/Comparator"), .byte, .byte]
  resolved := Array.replicate 1451 none
  statics := some 0 }

def pool11 : Array CpInfo := pool [(2, .class_ 4), (1, u "java/lang/String"), (3, .class_ 10), (1, u "com/example/quittance/quittance/Segment"), (0, u "<init>"), (0, u "(Ljava/lang/String;IILcom/example/quittance/quittance/Delimiters;)V"), (0, .methodref 14 15), (0, .class_ 16), (0, .nameAndType 11 17), (0, u "java/lang/Object"), (0, u "()V"), (0, .methodref 19 20), (0, .class_ 21), (0, .nameAndType 22 23), (0, u "com/example/quittance/quittance/Delimiters"), (0, u "field"), (0, u "()C"), (0, .string 25), (0, u "MSH"), (0, .methodref 2 27), (0, .nameAndType 28 29), (0, u "startsWith"), (0, u "(Ljava/lang/String;I)Z"), (0, .methodref 19 31), (0, .nameAndType 32 33), (0, u "partEnd"), (0, u "(Ljava/lang/String;CII)I"), (0, .fieldref 8 35), (0, .nameAndType 36 37), (0, u "delimiters"), (0, u "Lcom/example/quittance/quittance/Delimiters;"), (0, .class_ 39), (0, u "java/lang/StringBuilder"), (0, .methodref 38 15), (0, .methodref 38 42), (0, .nameAndType 43 44), (0, u "append"), (0, u "(Ljava/lang/String;)Ljava/lang/StringBuilder;"), (0, .methodref 38 46), (0, .nameAndType 43 47), (0, u "(C)Ljava/lang/StringBuilder;"), (0, .methodref 38 49), (0, .nameAndType 50 51), (0, u "toString"), (0, u "()Ljava/lang/String;"), (0, .fieldref 8 53), (0, .nameAndType 54 55), (0, u "text"), (0, u "Ljava/lang/String;"), (0, .methodref 2 57), (0, .nameAndType 58 59), (0, u "charAt"), (0, u "(I)C"), (0, .fieldref 8 61), (0, .nameAndType 62 63), (0, u "starts"), (0, u "[I"), (0, .fieldref 8 65), (0, .nameAndType 66 63), (0, u "ends"), (0, .methodref 2 68), (0, .nameAndType 69 70), (0, u "substring"), (0, u "(II)Ljava/lang/String;"), (0, .fieldref 8 72), (0, .nameAndType 73 55), (0, u "id"), (7, u "end"), (0, u "(I)I")] 12

def k11c0 : Code := { maxStack := 6, maxLocals := 13, code := prog_111_method_2_code, exceptionTable := #[], attributes := #[] }
def k11m0 : Method := { name := "<init>", desc := "(Ljava/lang/String;IILcom/example/quittance/quittance/Delimiters;)V", sig := { parameters := [(.object "java/lang/String"), .int, .int, (.object "com/example/quittance/quittance/Delimiters")], returnType := none }, accessFlags := 0, code := some k11c0 }
def k11c1 : Code := { maxStack := 3, maxLocals := 2, code := prog_111_method_11_code, exceptionTable := #[], attributes := #[] }
def k11m1 : Method := { name := "end", desc := "(I)I", sig := { parameters := [.int], returnType := some .int }, accessFlags := 0, code := some k11c1 }
/-- com/example/quittance/quittance/Segment -/
def k11 : Class := { plain "com/example/quittance/quittance/Segment" (some 0) with
  accessFlags := 48
  interfaces := #[]
  cf := some (fileOf pool11 8 #[] #[{ accessFlags := 0, nameIndex := 11, descriptorIndex := 12, attributes := #[] }, { accessFlags := 0, nameIndex := 81, descriptorIndex := 82, attributes := #[] }] 48 14 #[] #[{ accessFlags := 18, nameIndex := 36, descriptorIndex := 37, attributes := #[] }, { accessFlags := 18, nameIndex := 54, descriptorIndex := 55, attributes := #[] }, { accessFlags := 18, nameIndex := 62, descriptorIndex := 63, attributes := #[] }, { accessFlags := 18, nameIndex := 66, descriptorIndex := 63, attributes := #[] }, { accessFlags := 18, nameIndex := 73, descriptorIndex := 55, attributes := #[] }])
  fields := #[{ name := "delimiters", type := (.object "com/example/quittance/quittance/Delimiters"), accessFlags := 18, slot := 0, constantValue := 0 }, { name := "text", type := (.object "java/lang/String"), accessFlags := 18, slot := 1, constantValue := 0 }, { name := "starts", type := (.array .int), accessFlags := 18, slot := 2, constantValue := 0 }, { name := "ends", type := (.array .int), accessFlags := 18, slot := 3, constantValue := 0 }, { name := "id", type := (.object "java/lang/String"), accessFlags := 18, slot := 4, constantValue := 0 }]
  methods := #[k11m0, k11m1]
  instanceTypes := #[(.object "com/example/quittance/quittance/Delimiters"), (.object "java/lang/String"), (.array .int), (.array .int), (.object "java/lang/String")]
  staticTypes := #[]
  resolved := Array.replicate 95 none
  statics := none }

def pool12 : Array CpInfo := pool [(6, .class_ 8), (1, u "java/lang/Object"), (0, u "<init>"), (0, u "()V"), (1, .class_ 14), (1, u "java/lang/StringUTF16"), (31, u "$assertionsDisabled"), (0, u "Z"), (13, u "HI_BYTE_SHIFT"), (0, u "I"), (2, u "LO_BYTE_SHIFT"), (49, .methodref 12 116), (0, .nameAndType 117 118), (0, u "compress"), (0, u "([CI[BII)I"), (3, u "([CII)[B"), (138, u "coderFromArrayLen"), (0, u "([BI)B"), (106, .class_ 371), (1, u "java/lang/StringUTF16$LinesSpliterator"), (58, u "MAX_LENGTH"), (196, .class_ 628), (0, u "java/lang/StringUTF16$CodePointsSpliterator"), (0, .class_ 630), (0, u "java/lang/StringUTF16$CharsSpliterator")] 4

def k12m0 : Method := { name := "<init>", desc := "()V", sig := { parameters := [], returnType := none }, accessFlags := 0, code := none }
def k12c1 : Code := { maxStack := 2, maxLocals := 2, code := jdk_52_method_15_code, exceptionTable := #[], attributes := #[] }
def k12m1 : Method := { name := "coderFromArrayLen", desc := "([BI)B", sig := { parameters := [(.array .byte), .int], returnType := some .byte }, accessFlags := 8, code := some k12c1 }
def k12c2 : Code := { maxStack := 5, maxLocals := 6, code := jdk_52_method_16_code, exceptionTable := #[], attributes := #[] }
def k12m2 : Method := { name := "compress", desc := "([CII)[B", sig := { parameters := [(.array .char), .int, .int], returnType := some (.array .byte) }, accessFlags := 9, code := some k12c2 }
def k12c3 : Code := { maxStack := 3, maxLocals := 7, code := jdk_52_method_21_code, exceptionTable := #[], attributes := #[] }
def k12m3 : Method := { name := "compress", desc := "([CI[BII)I", sig := { parameters := [(.array .char), .int, (.array .byte), .int, .int], returnType := some .int }, accessFlags := 9, code := some k12c3 }
/-- java/lang/StringUTF16 -/
def k12 : Class := { plain "java/lang/StringUTF16" (some 0) with
  accessFlags := 48
  interfaces := #[]
  cf := some (fileOf pool12 12 #[.nestMembers #[627, 629, 369]] #[{ accessFlags := 0, nameIndex := 9, descriptorIndex := 10, attributes := #[] }, { accessFlags := 8, nameIndex := 261, descriptorIndex := 262, attributes := #[] }, { accessFlags := 9, nameIndex := 117, descriptorIndex := 122, attributes := #[] }, { accessFlags := 9, nameIndex := 117, descriptorIndex := 118, attributes := #[] }] 48 6 #[] #[{ accessFlags := 26, nameIndex := 61, descriptorIndex := 62, attributes := #[] }, { accessFlags := 26, nameIndex := 65, descriptorIndex := 62, attributes := #[] }, { accessFlags := 24, nameIndex := 430, descriptorIndex := 62, attributes := #[] }, { accessFlags := 4120, nameIndex := 46, descriptorIndex := 47, attributes := #[] }])
  fields := #[{ name := "HI_BYTE_SHIFT", type := .int, accessFlags := 26, slot := 0, constantValue := 0 }, { name := "LO_BYTE_SHIFT", type := .int, accessFlags := 26, slot := 1, constantValue := 0 }, { name := "MAX_LENGTH", type := .int, accessFlags := 24, slot := 2, constantValue := 0 }, { name := "$assertionsDisabled", type := .boolean, accessFlags := 4120, slot := 3, constantValue := 0 }]
  methods := #[k12m0, k12m1, k12m2, k12m3]
  instanceTypes := #[]
  staticTypes := #[.int, .int, .int, .boolean]
  resolved := Array.replicate 635 none
  statics := none }

def pool13 : Array CpInfo := pool [(9, u "<init>"), (6, .class_ 18), (1, u "java/lang/Object"), (0, u "()V"), (1, .class_ 23), (1, u "jdk/internal/util/ArraysSupport"), (0, u "LOG2_ARRAY_LONG_INDEX_SCALE"), (0, u "I"), (2, u "U"), (0, u "Ljdk/internal/misc/Unsafe;"), (8, u "BIG_ENDIAN"), (0, u "Z"), (8, u "LOG2_BYTE_BIT_SIZE"), (4, u "LOG2_ARRAY_INT_INDEX_SCALE"), (54, u "JLA"), (0, u "Ljdk/internal/access/JavaLangAccess;"), (11, u "LOG2_ARRAY_BOOLEAN_INDEX_SCALE"), (9, u "LOG2_ARRAY_BYTE_INDEX_SCALE"), (5, u "LOG2_ARRAY_CHAR_INDEX_SCALE"), (5, u "LOG2_ARRAY_SHORT_INDEX_SCALE"), (5, u "mismatch"), (12, u "LOG2_ARRAY_FLOAT_INDEX_SCALE"), (24, u "LOG2_ARRAY_DOUBLE_INDEX_SCALE"), (89, u "T_BOOLEAN"), (2, u "T_CHAR"), (1, u "T_FLOAT"), (1, u "T_DOUBLE"), (1, u "T_BYTE"), (1, u "T_SHORT"), (1, u "T_INT"), (1, u "T_LONG"), (1, u "SOFT_MAX_ARRAY_LENGTH"), (42, u "([BI[BII)I")] 40

def k13m0 : Method := { name := "<init>", desc := "()V", sig := { parameters := [], returnType := none }, accessFlags := 2, code := none }
def k13c1 : Code := { maxStack := 8, maxLocals := 8, code := jdk_48_method_14_code, exceptionTable := #[], attributes := #[] }
def k13m1 : Method := { name := "mismatch", desc := "([BI[BII)I", sig := { parameters := [(.array .byte), .int, (.array .byte), .int, .int], returnType := some .int }, accessFlags := 9, code := some k13c1 }
/-- jdk/internal/util/ArraysSupport -/
def k13 : Class := { plain "jdk/internal/util/ArraysSupport" (some 0) with
  accessFlags := 33
  interfaces := #[]
  cf := some (fileOf pool13 21 #[] #[{ accessFlags := 2, nameIndex := 9, descriptorIndex := 19, attributes := #[] }, { accessFlags := 9, nameIndex := 149, descriptorIndex := 337, attributes := #[] }] 33 16 #[] #[{ accessFlags := 24, nameIndex := 28, descriptorIndex := 29, attributes := #[] }, { accessFlags := 26, nameIndex := 38, descriptorIndex := 39, attributes := #[] }, { accessFlags := 25, nameIndex := 121, descriptorIndex := 25, attributes := #[] }, { accessFlags := 25, nameIndex := 131, descriptorIndex := 25, attributes := #[] }, { accessFlags := 25, nameIndex := 137, descriptorIndex := 25, attributes := #[] }, { accessFlags := 25, nameIndex := 143, descriptorIndex := 25, attributes := #[] }, { accessFlags := 25, nameIndex := 53, descriptorIndex := 25, attributes := #[] }, { accessFlags := 25, nameIndex := 24, descriptorIndex := 25, attributes := #[] }, { accessFlags := 25, nameIndex := 162, descriptorIndex := 25, attributes := #[] }, { accessFlags := 25, nameIndex := 187, descriptorIndex := 25, attributes := #[] }, { accessFlags := 26, nameIndex := 48, descriptorIndex := 25, attributes := #[] }, { accessFlags := 25, nameIndex := 277, descriptorIndex := 25, attributes := #[] }, { accessFlags := 25, nameIndex := 280, descriptorIndex := 25, attributes := #[] }, { accessFlags := 25, nameIndex := 282, descriptorIndex := 25, attributes := #[] }, { accessFlags := 25, nameIndex := 284, descriptorIndex := 25, attributes := #[] }, { accessFlags := 25, nameIndex := 286, descriptorIndex := 25, attributes := #[] }, { accessFlags := 25, nameIndex := 288, descriptorIndex := 25, attributes := #[] }, { accessFlags := 25, nameIndex := 290, descriptorIndex := 25, attributes := #[] }, { accessFlags := 25, nameIndex := 292, descriptorIndex := 25, attributes := #[] }, { accessFlags := 26, nameIndex := 108, descriptorIndex := 109, attributes := #[] }, { accessFlags := 25, nameIndex := 294, descriptorIndex := 25, attributes := #[] }])
  fields := #[{ name := "U", type := (.object "jdk/internal/misc/Unsafe"), accessFlags := 24, slot := 0, constantValue := 0 }, { name := "BIG_ENDIAN", type := .boolean, accessFlags := 26, slot := 1, constantValue := 0 }, { name := "LOG2_ARRAY_BOOLEAN_INDEX_SCALE", type := .int, accessFlags := 25, slot := 2, constantValue := 0 }, { name := "LOG2_ARRAY_BYTE_INDEX_SCALE", type := .int, accessFlags := 25, slot := 3, constantValue := 0 }, { name := "LOG2_ARRAY_CHAR_INDEX_SCALE", type := .int, accessFlags := 25, slot := 4, constantValue := 0 }, { name := "LOG2_ARRAY_SHORT_INDEX_SCALE", type := .int, accessFlags := 25, slot := 5, constantValue := 0 }, { name := "LOG2_ARRAY_INT_INDEX_SCALE", type := .int, accessFlags := 25, slot := 6, constantValue := 0 }, { name := "LOG2_ARRAY_LONG_INDEX_SCALE", type := .int, accessFlags := 25, slot := 7, constantValue := 0 }, { name := "LOG2_ARRAY_FLOAT_INDEX_SCALE", type := .int, accessFlags := 25, slot := 8, constantValue := 0 }, { name := "LOG2_ARRAY_DOUBLE_INDEX_SCALE", type := .int, accessFlags := 25, slot := 9, constantValue := 0 }, { name := "LOG2_BYTE_BIT_SIZE", type := .int, accessFlags := 26, slot := 10, constantValue := 0 }, { name := "T_BOOLEAN", type := .int, accessFlags := 25, slot := 11, constantValue := 0 }, { name := "T_CHAR", type := .int, accessFlags := 25, slot := 12, constantValue := 0 }, { name := "T_FLOAT", type := .int, accessFlags := 25, slot := 13, constantValue := 0 }, { name := "T_DOUBLE", type := .int, accessFlags := 25, slot := 14, constantValue := 0 }, { name := "T_BYTE", type := .int, accessFlags := 25, slot := 15, constantValue := 0 }, { name := "T_SHORT", type := .int, accessFlags := 25, slot := 16, constantValue := 0 }, { name := "T_INT", type := .int, accessFlags := 25, slot := 17, constantValue := 0 }, { name := "T_LONG", type := .int, accessFlags := 25, slot := 18, constantValue := 0 }, { name := "JLA", type := (.object "jdk/internal/access/JavaLangAccess"), accessFlags := 26, slot := 19, constantValue := 0 }, { name := "SOFT_MAX_ARRAY_LENGTH", type := .int, accessFlags := 25, slot := 20, constantValue := 0 }]
  methods := #[k13m0, k13m1]
  instanceTypes := #[]
  staticTypes := #[(.object "jdk/internal/misc/Unsafe"), .boolean, .int, .int, .int, .int, .int, .int, .int, .int, .int, .int, .int, .int, .int, .int, .int, .int, .int, (.object "jdk/internal/access/JavaLangAccess"), .int]
  resolved := Array.replicate 378 none
  statics := none }

def pool14 : Array CpInfo := pool [(2, .class_ 4), (1, u "java/lang/Object"), (0, u "<init>"), (0, u "()V"), (17, .class_ 26), (1, u "jdk/internal/util/Preconditions"), (6, u "checkIndex"), (13, u "checkFromToIndex"), (7, .class_ 56), (0, u "jdk/internal/util/Preconditions$4"), (57, .class_ 115), (0, u "jdk/internal/util/Preconditions$1"), (7, u "SIOOBE_FORMATTER"), (0, u "Ljava/util/function/BiFunction;"), (0, .class_ 126), (0, u "jdk/internal/util/Preconditions$2"), (3, u "AIOOBE_FORMATTER"), (0, .class_ 132), (0, u "jdk/internal/util/Preconditions$3"), (3, u "IOOBE_FORMATTER"), (41, u "(IILjava/util/function/BiFunction;)I"), (4, u "(IIILjava/util/function/BiFunction;)I")] 10

def k14m0 : Method := { name := "<init>", desc := "()V", sig := { parameters := [], returnType := none }, accessFlags := 1, code := none }
def k14c1 : Code := { maxStack := 3, maxLocals := 3, code := jdk_41_method_11_code, exceptionTable := #[], attributes := #[] }
def k14m1 : Method := { name := "checkIndex", desc := "(IILjava/util/function/BiFunction;)I", sig := { parameters := [.int, .int, (.object "java/util/function/BiFunction")], returnType := some .int }, accessFlags := 9, code := some k14c1 }
def k14c2 : Code := { maxStack := 4, maxLocals := 4, code := jdk_41_method_12_code, exceptionTable := #[], attributes := #[] }
def k14m2 : Method := { name := "checkFromToIndex", desc := "(IIILjava/util/function/BiFunction;)I", sig := { parameters := [.int, .int, .int, (.object "java/util/function/BiFunction")], returnType := some .int }, accessFlags := 9, code := some k14c2 }
/-- jdk/internal/util/Preconditions -/
def k14 : Class := { plain "jdk/internal/util/Preconditions" (some 0) with
  accessFlags := 33
  interfaces := #[]
  cf := some (fileOf pool14 24 #[.nestMembers #[55, 131, 125, 114]] #[{ accessFlags := 1, nameIndex := 5, descriptorIndex := 6, attributes := #[] }, { accessFlags := 9, nameIndex := 33, descriptorIndex := 178, attributes := #[] }, { accessFlags := 9, nameIndex := 47, descriptorIndex := 183, attributes := #[] }] 33 2 #[] #[{ accessFlags := 25, nameIndex := 123, descriptorIndex := 124, attributes := #[] }, { accessFlags := 25, nameIndex := 130, descriptorIndex := 124, attributes := #[] }, { accessFlags := 25, nameIndex := 136, descriptorIndex := 124, attributes := #[] }])
  fields := #[{ name := "SIOOBE_FORMATTER", type := (.object "java/util/function/BiFunction"), accessFlags := 25, slot := 0, constantValue := 0 }, { name := "AIOOBE_FORMATTER", type := (.object "java/util/function/BiFunction"), accessFlags := 25, slot := 1, constantValue := 0 }, { name := "IOOBE_FORMATTER", type := (.object "java/util/function/BiFunction"), accessFlags := 25, slot := 2, constantValue := 0 }]
  methods := #[k14m0, k14m1, k14m2]
  instanceTypes := #[]
  staticTypes := #[(.object "java/util/function/BiFunction"), (.object "java/util/function/BiFunction"), (.object "java/util/function/BiFunction")]
  resolved := Array.replicate 194 none
  statics := some 1 }

def pool15 : Array CpInfo := pool [(1, .class_ 2), (0, u "java/lang/String"), (1, .class_ 6), (1, u "java/lang/Object"), (0, u "<init>"), (0, u "()V"), (0, .methodref 1 10), (0, .nameAndType 11 12), (0, u "checkIndex"), (0, u "(II)V"), (1, .class_ 16), (1, u "java/lang/StringLatin1"), (36, u "([BI)C"), (36, u "canEncode"), (14, u "(C)Z"), (6, .methodref 1 113), (0, .nameAndType 7 114), (0, u "([BB)V"), (6, u "$assertionsDisabled"), (0, u "Z"), (8, .class_ 133), (1, u "java/util/Arrays"), (17, .string 152), (0, u ""), (43, u "newString"), (0, u "([BII)Ljava/lang/String;"), (23, .class_ 223), (1, u "java/lang/StringLatin1$LinesSpliterator"), (8, .methodref 131 233), (0, .nameAndType 234 235), (0, u "copyOfRange"), (0, u "([BII)[B"), (16, u "charAt"), (137, .class_ 391), (0, u "java/lang/StringLatin1$CharsSpliterator")] 3

def k15m0 : Method := { name := "<init>", desc := "()V", sig := { parameters := [], returnType := none }, accessFlags := 0, code := none }
def k15c1 : Code := { maxStack := 2, maxLocals := 2, code := jdk_43_method_2_code, exceptionTable := #[], attributes := #[] }
def k15m1 : Method := { name := "charAt", desc := "([BI)C", sig := { parameters := [(.array .byte), .int], returnType := some .char }, accessFlags := 9, code := some k15c1 }
def k15c2 : Code := { maxStack := 2, maxLocals := 1, code := jdk_43_method_3_code, exceptionTable := #[], attributes := #[] }
def k15m2 : Method := { name := "canEncode", desc := "(C)Z", sig := { parameters := [.char], returnType := some .boolean }, accessFlags := 9, code := some k15c2 }
def k15c3 : Code := { maxStack := 6, maxLocals := 3, code := jdk_43_method_47_code, exceptionTable := #[], attributes := #[] }
def k15m3 : Method := { name := "newString", desc := "([BII)Ljava/lang/String;", sig := { parameters := [(.array .byte), .int, .int], returnType := some (.object "java/lang/String") }, accessFlags := 9, code := some k15c3 }
/-- java/lang/StringLatin1 -/
def k15 : Class := { plain "java/lang/StringLatin1" (some 0) with
  accessFlags := 48
  interfaces := #[]
  cf := some (fileOf pool15 14 #[.nestMembers #[390, 221]] #[{ accessFlags := 0, nameIndex := 7, descriptorIndex := 8, attributes := #[] }, { accessFlags := 9, nameIndex := 252, descriptorIndex := 53, attributes := #[] }, { accessFlags := 9, nameIndex := 90, descriptorIndex := 105, attributes := #[] }, { accessFlags := 9, nameIndex := 196, descriptorIndex := 197, attributes := #[] }] 48 4 #[] #[{ accessFlags := 4120, nameIndex := 121, descriptorIndex := 122, attributes := #[] }])
  fields := #[{ name := "$assertionsDisabled", type := .boolean, accessFlags := 4120, slot := 0, constantValue := 0 }]
  methods := #[k15m0, k15m1, k15m2, k15m3]
  instanceTypes := #[]
  staticTypes := #[.boolean]
  resolved := Array.replicate 395 none
  statics := none }

def pool16 : Array CpInfo := pool [(2, .class_ 4), (1, u "java/lang/Object"), (0, u "<init>"), (0, u "()V"), (7, .class_ 16), (1, u "java/util/Arrays"), (57, .class_ 76), (1, u "java/util/Arrays$NaturalOrder"), (36, .class_ 115), (1, u "java/util/Arrays$LegacyMergeSort"), (1, u "Z"), (21, u "copyOfRange"), (10, .methodref 151 152), (0, .class_ 153), (0, .nameAndType 154 155), (0, u "java/lang/System"), (0, u "arraycopy"), (0, u "(Ljava/lang/Object;ILjava/lang/Object;II)V"), (148, .methodref 305 306), (0, .class_ 307), (0, .nameAndType 308 309), (0, u "java/lang/Math"), (0, u "min"), (0, u "(II)I"), (29, .methodref 14 340), (0, .nameAndType 341 342), (0, u "copyOfRangeByte"), (0, u "([BII)[B"), (0, .methodref 14 344), (0, .nameAndType 345 346), (0, u "checkLength"), (0, u "(II)V"), (28, .class_ 376), (0, u "java/util/Arrays$ArrayList"), (68, u "$assertionsDisabled"), (269, u "MIN_ARRAY_SORT_GRAN"), (0, u "I"), (2, u "INSERTIONSORT_THRESHOLD"), (255, .class_ 976), (0, u "java/util/Arrays$ArrayItr")] 52

def k16m0 : Method := { name := "<init>", desc := "()V", sig := { parameters := [], returnType := none }, accessFlags := 2, code := none }
def k16c1 : Code := { maxStack := 4, maxLocals := 2, code := jdk_65_method_131_code, exceptionTable := #[], attributes := #[] }
def k16m1 : Method := { name := "checkLength", desc := "(II)V", sig := { parameters := [.int, .int], returnType := none }, accessFlags := 10, code := some k16c1 }
def k16c2 : Code := { maxStack := 3, maxLocals := 3, code := jdk_65_method_132_code, exceptionTable := #[], attributes := #[] }
def k16m2 : Method := { name := "copyOfRange", desc := "([BII)[B", sig := { parameters := [(.array .byte), .int, .int], returnType := some (.array .byte) }, accessFlags := 9, code := some k16c2 }
def k16c3 : Code := { maxStack := 6, maxLocals := 5, code := jdk_65_method_133_code, exceptionTable := #[], attributes := #[] }
def k16m3 : Method := { name := "copyOfRangeByte", desc := "([BII)[B", sig := { parameters := [(.array .byte), .int, .int], returnType := some (.array .byte) }, accessFlags := 10, code := some k16c3 }
/-- java/util/Arrays -/
def k16 : Class := { plain "java/util/Arrays" (some 0) with
  accessFlags := 49
  interfaces := #[]
  cf := some (fileOf pool16 14 #[.nestMembers #[975, 375, 113, 74]] #[{ accessFlags := 2, nameIndex := 5, descriptorIndex := 6, attributes := #[] }, { accessFlags := 10, nameIndex := 345, descriptorIndex := 346, attributes := #[] }, { accessFlags := 9, nameIndex := 139, descriptorIndex := 342, attributes := #[] }, { accessFlags := 10, nameIndex := 341, descriptorIndex := 342, attributes := #[] }] 49 2 #[] #[{ accessFlags := 26, nameIndex := 715, descriptorIndex := 716, attributes := #[] }, { accessFlags := 26, nameIndex := 719, descriptorIndex := 716, attributes := #[] }, { accessFlags := 4120, nameIndex := 445, descriptorIndex := 117, attributes := #[] }])
  fields := #[{ name := "MIN_ARRAY_SORT_GRAN", type := .int, accessFlags := 26, slot := 0, constantValue := 0 }, { name := "INSERTIONSORT_THRESHOLD", type := .int, accessFlags := 26, slot := 1, constantValue := 0 }, { name := "$assertionsDisabled", type := .boolean, accessFlags := 4120, slot := 2, constantValue := 0 }]
  methods := #[k16m0, k16m1, k16m2, k16m3]
  instanceTypes := #[]
  staticTypes := #[.int, .int, .boolean]
  resolved := Array.replicate 1029 none
  statics := none }

def pool17 : Array CpInfo := pool [(2, .class_ 4), (1, u "java/lang/Object"), (0, u "<init>"), (0, u "()V"), (1, .class_ 10), (1, u "java/lang/System"), (0, u "allowSecurityManager"), (0, u "I"), (16, u "cons"), (0, u "Ljava/io/Console;"), (77, .class_ 110), (1, u "java/lang/System$CallersHolder"), (43, u "initialErrStream"), (0, u "Ljava/io/PrintStream;"), (19, u "security"), (0, u "Ljava/lang/SecurityManager;"), (31, .class_ 209), (0, u "java/lang/System$1"), (7, u "props"), (0, u "Ljava/util/Properties;"), (2, u "lineSeparator"), (0, u "Ljava/lang/String;"), (96, .class_ 321), (1, u "java/lang/System$LoggerFinder"), (5, .class_ 328), (0, u "java/lang/System$Logger"), (67, u "err"), (2, u "out"), (91, u "notSupportedJnuEncoding"), (15, u "in"), (17, u "initialIn"), (0, u "Ljava/io/InputStream;"), (35, u "bootLayer"), (0, u "Ljava/lang/ModuleLayer;"), (99, .class_ 664), (0, u "java/lang/System$2"), (9, u "NEVER"), (2, u "MAYBE"), (49, u "arraycopy"), (0, u "(Ljava/lang/Object;ILjava/lang/Object;II)V"), (72, .class_ 802), (0, u "java/lang/System$Logger$Level")] 31

def k17m0 : Method := { name := "<init>", desc := "()V", sig := { parameters := [], returnType := none }, accessFlags := 2, code := none }
def k17m1 : Method := { name := "arraycopy", desc := "(Ljava/lang/Object;ILjava/lang/Object;II)V", sig := { parameters := [(.object "java/lang/Object"), .int, (.object "java/lang/Object"), .int, .int], returnType := none }, accessFlags := 265, code := none }
/-- java/lang/System -/
def k17 : Class := { plain "java/lang/System" (some 0) with
  accessFlags := 49
  interfaces := #[]
  cf := some (fileOf pool17 8 #[.nestMembers #[319, 327, 801, 108, 663, 208]] #[{ accessFlags := 2, nameIndex := 5, descriptorIndex := 6, attributes := #[] }, { accessFlags := 265, nameIndex := 727, descriptorIndex := 728, attributes := #[] }] 49 2 #[] #[{ accessFlags := 25, nameIndex := 507, descriptorIndex := 526, attributes := #[] }, { accessFlags := 25, nameIndex := 399, descriptorIndex := 155, attributes := #[] }, { accessFlags := 25, nameIndex := 396, descriptorIndex := 155, attributes := #[] }, { accessFlags := 10, nameIndex := 525, descriptorIndex := 526, attributes := #[] }, { accessFlags := 26, nameIndex := 674, descriptorIndex := 12, attributes := #[] }, { accessFlags := 26, nameIndex := 677, descriptorIndex := 12, attributes := #[] }, { accessFlags := 10, nameIndex := 11, descriptorIndex := 12, attributes := #[] }, { accessFlags := 74, nameIndex := 175, descriptorIndex := 176, attributes := #[] }, { accessFlags := 10, nameIndex := 491, descriptorIndex := 222, attributes := #[] }, { accessFlags := 74, nameIndex := 29, descriptorIndex := 30, attributes := #[] }, { accessFlags := 74, nameIndex := 154, descriptorIndex := 155, attributes := #[] }, { accessFlags := 10, nameIndex := 217, descriptorIndex := 218, attributes := #[] }, { accessFlags := 10, nameIndex := 221, descriptorIndex := 222, attributes := #[] }, { accessFlags := 8, nameIndex := 562, descriptorIndex := 563, attributes := #[] }])
  fields := #[{ name := "in", type := (.object "java/io/InputStream"), accessFlags := 25, slot := 0, constantValue := 0 }, { name := "out", type := (.object "java/io/PrintStream"), accessFlags := 25, slot := 1, constantValue := 0 }, { name := "err", type := (.object "java/io/PrintStream"), accessFlags := 25, slot := 2, constantValue := 0 }, { name := "initialIn", type := (.object "java/io/InputStream"), accessFlags := 10, slot := 3, constantValue := 0 }, { name := "NEVER", type := .int, accessFlags := 26, slot := 4, constantValue := 0 }, { name := "MAYBE", type := .int, accessFlags := 26, slot := 5, constantValue := 0 }, { name := "allowSecurityManager", type := .int, accessFlags := 10, slot := 6, constantValue := 0 }, { name := "security", type := (.object "java/lang/SecurityManager"), accessFlags := 74, slot := 7, constantValue := 0 }, { name := "notSupportedJnuEncoding", type := (.object "java/lang/String"), accessFlags := 10, slot := 8, constantValue := 0 }, { name := "cons", type := (.object "java/io/Console"), accessFlags := 74, slot := 9, constantValue := 0 }, { name := "initialErrStream", type := (.object "java/io/PrintStream"), accessFlags := 74, slot := 10, constantValue := 0 }, { name := "props", type := (.object "java/util/Properties"), accessFlags := 10, slot := 11, constantValue := 0 }, { name := "lineSeparator", type := (.object "java/lang/String"), accessFlags := 10, slot := 12, constantValue := 0 }, { name := "bootLayer", type := (.object "java/lang/ModuleLayer"), accessFlags := 8, slot := 13, constantValue := 0 }]
  methods := #[k17m0, k17m1]
  instanceTypes := #[]
  staticTypes := #[(.object "java/io/InputStream"), (.object "java/io/PrintStream"), (.object "java/io/PrintStream"), (.object "java/io/InputStream"), .int, .int, .int, (.object "java/lang/SecurityManager"), (.object "java/lang/String"), (.object "java/io/Console"), (.object "java/io/PrintStream"), (.object "java/util/Properties"), (.object "java/lang/String"), (.object "java/lang/ModuleLayer")]
  resolved := Array.replicate 834 none
  statics := none }

def pool18 : Array CpInfo := pool [(1, .class_ 2), (0, u "java/lang/Appendable"), (0, .class_ 4), (0, u "java/lang/Object")] 9

/-- java/lang/Appendable -/
def k18 : Class := { plain "java/lang/Appendable" (some 0) with
  accessFlags := 1537
  interfaces := #[]
  cf := some (fileOf pool18 1 #[] #[] 1537 3 #[] #[])
  fields := #[]
  methods := #[]
  instanceTypes := #[]
  staticTypes := #[]
  resolved := Array.replicate 14 none
  statics := none }

def pool19 : Array CpInfo := pool [(1, .class_ 2), (0, u "java/lang/String"), (0, .methodref 4 5), (0, .class_ 6), (0, .nameAndType 7 8), (0, u "java/lang/Object"), (0, u "<init>"), (0, u "()V"), (1, .class_ 12), (1, u "java/lang/AbstractStringBuilder"), (0, u "EMPTYVALUE"), (0, u "[B"), (0, .fieldref 10 16), (0, .nameAndType 17 14), (0, u "value"), (0, .fieldref 1 19), (0, .nameAndType 20 21), (0, u "COMPACT_STRINGS"), (0, u "Z"), (0, .fieldref 10 23), (0, .nameAndType 24 25), (0, u "coder"), (0, u "B"), (6, .methodref 1 33), (0, .nameAndType 34 35), (0, u "length"), (0, u "()I"), (4, .methodref 1 41), (0, .nameAndType 24 42), (0, u "()B"), (2, u "append"), (0, u "(Ljava/lang/String;)Ljava/lang/AbstractStringBuilder;"), (1, .class_ 49), (0, u "java/lang/CharSequence"), (19, u "(Ljava/lang/String;)V"), (5, u "maybeLatin1"), (3, .fieldref 10 80), (0, .nameAndType 81 82), (0, u "count"), (0, u "I"), (0, .methodref 10 84), (0, .nameAndType 85 86), (0, u "isLatin1"), (0, u "()Z"), (1, .class_ 90), (1, u "java/lang/StringLatin1"), (9, .methodref 10 101), (0, .nameAndType 102 103), (0, u "ensureCapacityInternal"), (0, u "(I)V"), (87, .methodref 88 192), (0, .nameAndType 193 194), (0, u "canEncode"), (0, u "(C)Z"), (13, .methodref 10 209), (0, .nameAndType 210 211), (0, u "putStringAt"), (0, u "(ILjava/lang/String;)V"), (5, u "inflateIfNeededFor"), (2, .nameAndType 221 222), (0, u "getBytes"), (0, u "([BIB)V"), (69, u "(C)Ljava/lang/AbstractStringBuilder;"), (104, .methodref 10 398), (0, .nameAndType 217 69), (0, .methodref 1 220), (3, u "()[B"), (40, .class_ 445), (0, u "java/lang/Appendable"), (106, u "getValue")] 56

def k19m0 : Method := { name := "<init>", desc := "()V", sig := { parameters := [], returnType := none }, accessFlags := 0, code := none }
def k19c1 : Code := { maxStack := 2, maxLocals := 2, code := jdk_68_method_2_code, exceptionTable := #[], attributes := #[] }
def k19m1 : Method := { name := "<init>", desc := "(I)V", sig := { parameters := [.int], returnType := none }, accessFlags := 0, code := some k19c1 }
def k19c2 : Code := { maxStack := 1, maxLocals := 1, code := jdk_68_method_6_code, exceptionTable := #[], attributes := #[] }
def k19m2 : Method := { name := "length", desc := "()I", sig := { parameters := [], returnType := some .int }, accessFlags := 1, code := some k19c2 }
def k19c3 : Code := { maxStack := 4, maxLocals := 3, code := jdk_68_method_9_code, exceptionTable := #[], attributes := #[] }
def k19m3 : Method := { name := "ensureCapacityInternal", desc := "(I)V", sig := { parameters := [.int], returnType := none }, accessFlags := 2, code := some k19c3 }
def k19c4 : Code := { maxStack := 3, maxLocals := 3, code := jdk_68_method_22_code, exceptionTable := #[], attributes := #[] }
def k19m4 : Method := { name := "append", desc := "(Ljava/lang/String;)Ljava/lang/AbstractStringBuilder;", sig := { parameters := [(.object "java/lang/String")], returnType := some (.object "java/lang/AbstractStringBuilder") }, accessFlags := 1, code := some k19c4 }
def k19c5 : Code := { maxStack := 5, maxLocals := 2, code := jdk_68_method_31_code, exceptionTable := #[], attributes := #[] }
def k19m5 : Method := { name := "append", desc := "(C)Ljava/lang/AbstractStringBuilder;", sig := { parameters := [.char], returnType := some (.object "java/lang/AbstractStringBuilder") }, accessFlags := 1, code := some k19c5 }
def k19c6 : Code := { maxStack := 1, maxLocals := 1, code := jdk_68_method_64_code, exceptionTable := #[], attributes := #[] }
def k19m6 : Method := { name := "getValue", desc := "()[B", sig := { parameters := [], returnType := some (.array .byte) }, accessFlags := 16, code := some k19c6 }
def k19c7 : Code := { maxStack := 1, maxLocals := 1, code := jdk_68_method_68_code, exceptionTable := #[], attributes := #[] }
def k19m7 : Method := { name := "isLatin1", desc := "()Z", sig := { parameters := [], returnType := some .boolean }, accessFlags := 16, code := some k19c7 }
def k19c8 : Code := { maxStack := 2, maxLocals := 2, code := jdk_68_method_71_code, exceptionTable := #[], attributes := #[] }
def k19m8 : Method := { name := "inflateIfNeededFor", desc := "(Ljava/lang/String;)V", sig := { parameters := [(.object "java/lang/String")], returnType := none }, accessFlags := 2, code := some k19c8 }
def k19c9 : Code := { maxStack := 4, maxLocals := 3, code := jdk_68_method_73_code, exceptionTable := #[], attributes := #[] }
def k19m9 : Method := { name := "putStringAt", desc := "(ILjava/lang/String;)V", sig := { parameters := [.int, (.object "java/lang/String")], returnType := none }, accessFlags := 2, code := some k19c9 }
/-- java/lang/AbstractStringBuilder -/
def k19 : Class := { plain "java/lang/AbstractStringBuilder" (some 0) with
  accessFlags := 1056
  interfaces := #[18, 7]
  cf := some (fileOf pool19 10 #[] #[{ accessFlags := 0, nameIndex := 7, descriptorIndex := 8, attributes := #[] }, { accessFlags := 0, nameIndex := 7, descriptorIndex := 103, attributes := #[] }, { accessFlags := 1, nameIndex := 34, descriptorIndex := 35, attributes := #[] }, { accessFlags := 2, nameIndex := 102, descriptorIndex := 103, attributes := #[] }, { accessFlags := 1, nameIndex := 45, descriptorIndex := 46, attributes := #[] }, { accessFlags := 1, nameIndex := 45, descriptorIndex := 292, attributes := #[] }, { accessFlags := 16, nameIndex := 552, descriptorIndex := 403, attributes := #[] }, { accessFlags := 16, nameIndex := 85, descriptorIndex := 86, attributes := #[] }, { accessFlags := 2, nameIndex := 217, descriptorIndex := 69, attributes := #[] }, { accessFlags := 2, nameIndex := 210, descriptorIndex := 211, attributes := #[] }] 1056 4 #[444, 48] #[{ accessFlags := 0, nameIndex := 17, descriptorIndex := 14, attributes := #[] }, { accessFlags := 0, nameIndex := 24, descriptorIndex := 25, attributes := #[] }, { accessFlags := 0, nameIndex := 75, descriptorIndex := 21, attributes := #[] }, { accessFlags := 0, nameIndex := 81, descriptorIndex := 82, attributes := #[] }, { accessFlags := 26, nameIndex := 13, descriptorIndex := 14, attributes := #[] }])
  fields := #[{ name := "value", type := (.array .byte), accessFlags := 0, slot := 0, constantValue := 0 }, { name := "coder", type := .byte, accessFlags := 0, slot := 1, constantValue := 0 }, { name := "maybeLatin1", type := .boolean, accessFlags := 0, slot := 2, constantValue := 0 }, { name := "count", type := .int, accessFlags := 0, slot := 3, constantValue := 0 }, { name := "EMPTYVALUE", type := (.array .byte), accessFlags := 26, slot := 0, constantValue := 0 }]
  methods := #[k19m0, k19m1, k19m2, k19m3, k19m4, k19m5, k19m6, k19m7, k19m8, k19m9]
  instanceTypes := #[(.array .byte), .byte, .boolean, .int]
  staticTypes := #[(.array .byte)]
  resolved := Array.replicate 609 none
  statics := none }

def pool20 : Array CpInfo := pool [(1, .methodref 2 3), (0, .class_ 4), (0, .nameAndType 5 6), (0, u "java/lang/AbstractStringBuilder"), (0, u "<init>"), (0, u "(I)V"), (11, .class_ 20), (1, u "java/lang/String"), (3, .class_ 26), (1, u "java/lang/StringBuilder"), (0, u "append"), (0, u "(Ljava/lang/String;)Ljava/lang/StringBuilder;"), (0, .methodref 2 30), (0, .nameAndType 27 31), (0, u "(Ljava/lang/String;)Ljava/lang/AbstractStringBuilder;"), (18, .methodref 2 51), (0, .nameAndType 27 52), (0, u "(C)Ljava/lang/AbstractStringBuilder;"), (84, .methodref 18 138), (0, .nameAndType 5 139), (0, u "(Ljava/lang/StringBuilder;)V"), (5, u "()V"), (10, u "()I"), (129, u "(C)Ljava/lang/StringBuilder;"), (56, .methodref 2 344), (0, .nameAndType 345 156), (0, u "length"), (3, .class_ 350), (0, u "java/lang/Appendable"), (0, .class_ 352), (0, u "java/io/Serializable"), (0, .class_ 354), (0, u "java/lang/Comparable"), (0, .class_ 356), (0, u "java/lang/CharSequence"), (0, u "serialVersionUID"), (0, u "J"), (40, u "toString"), (0, u "()Ljava/lang/String;")] 21

def k20c0 : Code := { maxStack := 2, maxLocals := 1, code := jdk_67_method_1_code, exceptionTable := #[], attributes := #[] }
def k20m0 : Method := { name := "<init>", desc := "()V", sig := { parameters := [], returnType := none }, accessFlags := 1, code := some k20c0 }
def k20c1 : Code := { maxStack := 2, maxLocals := 2, code := jdk_67_method_7_code, exceptionTable := #[], attributes := #[] }
def k20m1 : Method := { name := "append", desc := "(Ljava/lang/String;)Ljava/lang/StringBuilder;", sig := { parameters := [(.object "java/lang/String")], returnType := some (.object "java/lang/StringBuilder") }, accessFlags := 1, code := some k20c1 }
def k20c2 : Code := { maxStack := 2, maxLocals := 2, code := jdk_67_method_14_code, exceptionTable := #[], attributes := #[] }
def k20m2 : Method := { name := "append", desc := "(C)Ljava/lang/StringBuilder;", sig := { parameters := [.char], returnType := some (.object "java/lang/StringBuilder") }, accessFlags := 1, code := some k20c2 }
def k20c3 : Code := { maxStack := 3, maxLocals := 1, code := jdk_67_method_42_code, exceptionTable := #[], attributes := #[] }
def k20m3 : Method := { name := "toString", desc := "()Ljava/lang/String;", sig := { parameters := [], returnType := some (.object "java/lang/String") }, accessFlags := 1, code := some k20c3 }
def k20c4 : Code := { maxStack := 1, maxLocals := 1, code := jdk_67_method_93_code, exceptionTable := #[], attributes := #[] }
def k20m4 : Method := { name := "length", desc := "()I", sig := { parameters := [], returnType := some .int }, accessFlags := 4161, code := some k20c4 }
/-- java/lang/StringBuilder -/
def k20 : Class := { plain "java/lang/StringBuilder" (some 19) with
  accessFlags := 49
  interfaces := #[18, 5, 6, 7]
  cf := some (fileOf pool20 24 #[] #[{ accessFlags := 1, nameIndex := 5, descriptorIndex := 145, attributes := #[] }, { accessFlags := 1, nameIndex := 27, descriptorIndex := 28, attributes := #[] }, { accessFlags := 1, nameIndex := 27, descriptorIndex := 286, attributes := #[] }, { accessFlags := 1, nameIndex := 399, descriptorIndex := 400, attributes := #[] }, { accessFlags := 4161, nameIndex := 345, descriptorIndex := 156, attributes := #[] }] 49 2 #[349, 351, 353, 355] #[{ accessFlags := 24, nameIndex := 357, descriptorIndex := 358, attributes := #[] }])
  fields := #[{ name := "serialVersionUID", type := .long, accessFlags := 24, slot := 0, constantValue := 0 }]
  methods := #[k20m0, k20m1, k20m2, k20m3, k20m4]
  instanceTypes := #[(.array .byte), .byte, .boolean, .int]
  staticTypes := #[.long]
  resolved := Array.replicate 422 none
  statics := none }

def pool21 : Array CpInfo := pool [(1, u "java/lang/Cloneable"), (0, .class_ 1), (0, u "java/lang/Object"), (0, .class_ 3)] 3

/-- java/lang/Cloneable -/
def k21 : Class := { plain "java/lang/Cloneable" (some 0) with
  accessFlags := 1537
  interfaces := #[]
  cf := some (fileOf pool21 2 #[] #[] 1537 4 #[] #[])
  fields := #[]
  methods := #[]
  instanceTypes := #[]
  staticTypes := #[]
  resolved := Array.replicate 8 none
  statics := none }

/-- the primitive byte -/
def k22 : Class := { plain "byte" none with kind := .primitive 'B', accessFlags := 0x411 }
/-- [B -/
def k23 : Class := { plain "[B" (some 0) with kind := .array 22 .byte, interfaces := #[21, 5], accessFlags := 1041 }

/-- the primitive char -/
def k24 : Class := { plain "char" none with kind := .primitive 'C', accessFlags := 0x411 }
/-- [C -/
def k25 : Class := { plain "[C" (some 0) with kind := .array 24 .char, interfaces := #[21, 5], accessFlags := 1041 }

/-- the primitive int -/
def k26 : Class := { plain "int" none with kind := .primitive 'I', accessFlags := 0x411 }
/-- [I -/
def k27 : Class := { plain "[I" (some 0) with kind := .array 26 .int, interfaces := #[21, 5], accessFlags := 1041 }

def heap : Heap := #[{ cls := 10, slots := #[.long 0, .int 1, .null, .int 0, .null, .int 0, .int 0], vm := .statics 10 },
  { cls := 14, slots := #[.null, .null, .null], vm := .statics 14 }]
def classes : Array Class := #[k0, k1, k2, k3, k4, k5, k6, k7, k8, k9, k10, k11, k12, k13, k14, k15, k16, k17, k18, k19, k20, k21, k22, k23, k24, k25, k26, k27]
def interned : List (Array UInt16 × Addr) := []
def slotsUsed : Nat := 10
def theMethod : MethodId := ⟨1, 1⟩
def args0 : Array Value := #[.int 5, .int 6, .int 7, .int 9, .int 11, .int 13]
def aboutOver (below : List Frame) : State where
  vm := { classes := classes, interned := interned.toArray }
  heap := heap
  slotsUsed := slotsUsed
  threads := #[{ frames := .invoking theMethod args0 :: below }]
def below0 : List Frame := [.native { method := ⟨0, 0⟩, args := #[] }]
def about1 : State := aboutOver below0
def p0 : Program := .bare "" "" ""
def e0 : Env := launch0.env 0 0 0
theorem w_frames : about1.frames = Frame.invoking theMethod args0 :: below0 := rfl
set_option maxRecDepth 65536 in
theorem w_args : argsFit about1.vm theMethod args0 = true := by decide +kernel
set_option maxRecDepth 65536 in
theorem w_heap : heapFits about1 = true := by decide +kernel
set_option maxRecDepth 65536 in
theorem w_runnable : about1.curStatus? = some .runnable := by decide +kernel
set_option maxRecDepth 65536 in
theorem w_alone : about1.alone = true := by decide +kernel
set_option maxRecDepth 65536 in
theorem w_named : about1.methodNamed? x = some theMethod := by decide +kernel
set_option maxRecDepth 65536 in
theorem w_hears : about1.hears theMethod below0 = true := by decide +kernel
set_option maxRecDepth 65536 in
theorem w_ripe : about1.ripe theMethod args0 below0 = true := by decide +kernel
theorem w_running : about1.status = .running := rfl
set_option maxRecDepth 65536 in
theorem w_room : about1.hasRoom e0.platform room_1 = true :=
  launch0.hasRoom_least _ room_1 (by decide +kernel) (by decide +kernel) (by decide +kernel) (by decide +kernel) (by decide +kernel) (by decide +kernel)
theorem allAtoms_all (ts : List Jvm.Cond) (a : Array Jvm.Value) (st : Jvm.State) : (allAtoms ts).before a st = ts.all (fun c => c.before a st) := by
  induction ts with
  | nil => rfl
  | cons c t ih =>
    show (Jvm.Cond.and c (allAtoms t)).before a st = _
    rw [Jvm.Cond.before_and, ih, List.all_cons]
def words1 : List Jvm.Cond := Jvm.Cond.code x code maxLocals ret :: tables_1
/-- a 'code' word, met by the world's own term for the bytes: nothing is compared byte by byte -/
theorem code_word {y : MethodName} {bytes : ByteArray} {mx : Nat} {rt : Option FieldType} {a : Array Value} {s : State} {m : MethodId} {meth : Method} {c : Code} (h1 : s.methodNamed? y = some m) (h2 : s.vm.method? m = some meth) (h3 : meth.code = some c) (h4 : c.code = bytes)
    (h5 : (c.maxLocals == mx && c.exceptionTable.isEmpty && decide (c.maxStack ≤ mostOperands) && decide (meth.sig.returnType = rt) && !meth.locks && decide (parseMethodDescriptor y.desc = some meth.sig)) = true) : (Jvm.Cond.code y bytes mx rt).before a s = true := by
  simp only [Bool.and_eq_true, beq_iff_eq, Bool.not_eq_true', decide_eq_true_eq] at h5
  obtain ⟨⟨⟨⟨⟨g1, g2⟩, g3⟩, g4⟩, g5⟩, g6⟩ := h5
  simp [Cond.before, Cond.holds, Cond.value, h1, h2, h3, h4, g1, g2, g3, g4, g5, g6]
def isCode : Jvm.Cond → Bool
  | .code _ _ _ _ => true
  | _ => false
theorem all_split {L : List Jvm.Cond} {P : Jvm.Cond → Bool} (h1 : L.all (fun c => isCode c || P c) = true) (h2 : ∀ c ∈ L.filter isCode, P c = true) : L.all P = true := by
  refine List.all_eq_true.mpr fun c hc => ?_
  have h := List.all_eq_true.mp h1 c hc
  rcases Bool.eq_false_or_eq_true (isCode c) with hi | hi
  · exact h2 c (List.mem_filter.mpr ⟨hc, hi⟩)
  · simpa [hi] using h
set_option maxRecDepth 65536 in
theorem w_c0 : (Jvm.Cond.code x code maxLocals ret).before args0 about1 = true := code_word (m := ⟨1, 1⟩) (meth := k1m1) (c := k1c1) (by decide +kernel) rfl rfl rfl (by decide +kernel)
set_option maxRecDepth 65536 in
theorem w_c1 : (Jvm.Cond.code ({ cls := "com/example/quittance/quittance/SegmentEndPinLaw", name := "pick", desc := "(I)C" } : Jvm.MethodName) method_3_code (2 : Nat) (Option.some Jvm.ClassFile.FieldType.char)).before args0 about1 = true := code_word (m := ⟨1, 2⟩) (meth := k1m2) (c := k1c2) (by decide +kernel) rfl rfl rfl (by decide +kernel)
set_option maxRecDepth 65536 in
theorem w_c2 : (Jvm.Cond.code ({ cls := "com/example/quittance/quittance/SegmentEndPinLaw", name := "expected", desc := "([CIII)I" } : Jvm.MethodName) method_7_code (5 : Nat) (Option.some Jvm.ClassFile.FieldType.int)).before args0 about1 = true := code_word (m := ⟨1, 6⟩) (meth := k1m6) (c := k1c6) (by decide +kernel) rfl rfl rfl (by decide +kernel)
set_option maxRecDepth 65536 in
theorem w_c3 : (Jvm.Cond.code ({ cls := "com/example/quittance/quittance/SegmentEndPinLaw", name := "nextSep", desc := "([CII)I" } : Jvm.MethodName) method_4_code (3 : Nat) (Option.some Jvm.ClassFile.FieldType.int)).before args0 about1 = true := code_word (m := ⟨1, 3⟩) (meth := k1m3) (c := k1c3) (by decide +kernel) rfl rfl rfl (by decide +kernel)
set_option maxRecDepth 65536 in
theorem w_c4 : (Jvm.Cond.code ({ cls := "com/example/quittance/quittance/SegmentEndPinLaw", name := "walk", desc := "([CIII)I" } : Jvm.MethodName) method_6_code (6 : Nat) (Option.some Jvm.ClassFile.FieldType.int)).before args0 about1 = true := code_word (m := ⟨1, 5⟩) (meth := k1m5) (c := k1c5) (by decide +kernel) rfl rfl rfl (by decide +kernel)
set_option maxRecDepth 65536 in
theorem w_c5 : (Jvm.Cond.code ({ cls := "java/lang/Math", name := "min", desc := "(II)I" } : Jvm.MethodName) jdk_29_method_69_code (2 : Nat) (Option.some Jvm.ClassFile.FieldType.int)).before args0 about1 = true := code_word (m := ⟨2, 1⟩) (meth := k2m1) (c := k2c1) (by decide +kernel) rfl rfl rfl (by decide +kernel)
set_option maxRecDepth 65536 in
theorem w_c6 : (Jvm.Cond.code ({ cls := "com/example/quittance/quittance/Delimiters", name := "<init>", desc := "(CLjava/lang/String;)V" } : Jvm.MethodName) prog_23_method_1_code (3 : Nat) (Option.none : Option Jvm.ClassFile.FieldType)).before args0 about1 = true := code_word (m := ⟨4, 0⟩) (meth := k4m0) (c := k4c0) (by decide +kernel) rfl rfl rfl (by decide +kernel)
set_option maxRecDepth 65536 in
theorem w_c7 : (Jvm.Cond.code ({ cls := "java/lang/Record", name := "<init>", desc := "()V" } : Jvm.MethodName) jdk_30_method_1_code (1 : Nat) (Option.none : Option Jvm.ClassFile.FieldType)).before args0 about1 = true := code_word (m := ⟨3, 0⟩) (meth := k3m0) (c := k3c0) (by decide +kernel) rfl rfl rfl (by decide +kernel)
set_option maxRecDepth 65536 in
theorem w_c8 : (Jvm.Cond.code ({ cls := "java/lang/Object", name := "<init>", desc := "()V" } : Jvm.MethodName) object_method_1_code (1 : Nat) (Option.none : Option Jvm.ClassFile.FieldType)).before args0 about1 = true := code_word (m := ⟨0, 0⟩) (meth := k0m0) (c := k0c0) (by decide +kernel) rfl rfl rfl (by decide +kernel)
set_option maxRecDepth 65536 in
theorem w_c9 : (Jvm.Cond.code ({ cls := "java/lang/String", name := "<init>", desc := "([C)V" } : Jvm.MethodName) jdk_42_method_3_code (2 : Nat) (Option.none : Option Jvm.ClassFile.FieldType)).before args0 about1 = true := code_word (m := ⟨10, 1⟩) (meth := k10m1) (c := k10c1) (by decide +kernel) rfl rfl rfl (by decide +kernel)
set_option maxRecDepth 65536 in
theorem w_c10 : (Jvm.Cond.code ({ cls := "java/lang/String", name := "<init>", desc := "([CIILjava/lang/Void;)V" } : Jvm.MethodName) jdk_42_method_149_code (6 : Nat) (Option.none : Option Jvm.ClassFile.FieldType)).before args0 about1 = true := code_word (m := ⟨10, 8⟩) (meth := k10m8) (c := k10c8) (by decide +kernel) rfl rfl rfl (by decide +kernel)
set_option maxRecDepth 65536 in
theorem w_c11 : (Jvm.Cond.code ({ cls := "java/lang/StringUTF16", name := "compress", desc := "([CII)[B" } : Jvm.MethodName) jdk_52_method_16_code (6 : Nat) (Option.some (Jvm.ClassFile.FieldType.array Jvm.ClassFile.FieldType.byte))).before args0 about1 = true := code_word (m := ⟨12, 2⟩) (meth := k12m2) (c := k12c2) (by decide +kernel) rfl rfl rfl (by decide +kernel)
set_option maxRecDepth 65536 in
theorem w_c12 : (Jvm.Cond.code ({ cls := "java/lang/StringUTF16", name := "compress", desc := "([CI[BII)I" } : Jvm.MethodName) jdk_52_method_21_code (7 : Nat) (Option.some Jvm.ClassFile.FieldType.int)).before args0 about1 = true := code_word (m := ⟨12, 3⟩) (meth := k12m3) (c := k12c3) (by decide +kernel) rfl rfl rfl (by decide +kernel)
set_option maxRecDepth 65536 in
theorem w_c13 : (Jvm.Cond.code ({ cls := "java/lang/StringUTF16", name := "coderFromArrayLen", desc := "([BI)B" } : Jvm.MethodName) jdk_52_method_15_code (2 : Nat) (Option.some Jvm.ClassFile.FieldType.byte)).before args0 about1 = true := code_word (m := ⟨12, 1⟩) (meth := k12m1) (c := k12c1) (by decide +kernel) rfl rfl rfl (by decide +kernel)
set_option maxRecDepth 65536 in
theorem w_c14 : (Jvm.Cond.code ({ cls := "com/example/quittance/quittance/Segment", name := "<init>", desc := "(Ljava/lang/String;IILcom/example/quittance/quittance/Delimiters;)V" } : Jvm.MethodName) prog_111_method_2_code (13 : Nat) (Option.none : Option Jvm.ClassFile.FieldType)).before args0 about1 = true := code_word (m := ⟨11, 0⟩) (meth := k11m0) (c := k11c0) (by decide +kernel) rfl rfl rfl (by decide +kernel)
set_option maxRecDepth 65536 in
theorem w_c15 : (Jvm.Cond.code ({ cls := "com/example/quittance/quittance/Delimiters", name := "field", desc := "()C" } : Jvm.MethodName) prog_23_method_37_code (1 : Nat) (Option.some Jvm.ClassFile.FieldType.char)).before args0 about1 = true := code_word (m := ⟨4, 2⟩) (meth := k4m2) (c := k4c2) (by decide +kernel) rfl rfl rfl (by decide +kernel)
set_option maxRecDepth 65536 in
theorem w_c16 : (Jvm.Cond.code ({ cls := "java/lang/String", name := "startsWith", desc := "(Ljava/lang/String;I)Z" } : Jvm.MethodName) jdk_42_method_75_code (8 : Nat) (Option.some Jvm.ClassFile.FieldType.boolean)).before args0 about1 = true := code_word (m := ⟨10, 5⟩) (meth := k10m5) (c := k10c5) (by decide +kernel) rfl rfl rfl (by decide +kernel)
set_option maxRecDepth 65536 in
theorem w_c17 : (Jvm.Cond.code ({ cls := "java/lang/String", name := "length", desc := "()I" } : Jvm.MethodName) jdk_42_method_54_code (1 : Nat) (Option.some Jvm.ClassFile.FieldType.int)).before args0 about1 = true := code_word (m := ⟨10, 3⟩) (meth := k10m3) (c := k10c3) (by decide +kernel) rfl rfl rfl (by decide +kernel)
set_option maxRecDepth 65536 in
theorem w_c18 : (Jvm.Cond.code ({ cls := "java/lang/String", name := "coder", desc := "()B" } : Jvm.MethodName) jdk_42_method_152_code (1 : Nat) (Option.some Jvm.ClassFile.FieldType.byte)).before args0 about1 = true := code_word (m := ⟨10, 11⟩) (meth := k10m11) (c := k10c11) (by decide +kernel) rfl rfl rfl (by decide +kernel)
set_option maxRecDepth 65536 in
theorem w_c19 : (Jvm.Cond.code ({ cls := "jdk/internal/util/ArraysSupport", name := "mismatch", desc := "([BI[BII)I" } : Jvm.MethodName) jdk_48_method_14_code (8 : Nat) (Option.some Jvm.ClassFile.FieldType.int)).before args0 about1 = true := code_word (m := ⟨13, 1⟩) (meth := k13m1) (c := k13c1) (by decide +kernel) rfl rfl rfl (by decide +kernel)
set_option maxRecDepth 65536 in
theorem w_c20 : (Jvm.Cond.code ({ cls := "com/example/quittance/quittance/Delimiters", name := "partEnd", desc := "(Ljava/lang/String;CII)I" } : Jvm.MethodName) prog_23_method_4_code (5 : Nat) (Option.some Jvm.ClassFile.FieldType.int)).before args0 about1 = true := code_word (m := ⟨4, 1⟩) (meth := k4m1) (c := k4c1) (by decide +kernel) rfl rfl rfl (by decide +kernel)
set_option maxRecDepth 65536 in
theorem w_c21 : (Jvm.Cond.code ({ cls := "java/lang/String", name := "substring", desc := "(II)Ljava/lang/String;" } : Jvm.MethodName) jdk_42_method_92_code (5 : Nat) (Option.some (Jvm.ClassFile.FieldType.object "java/lang/String"))).before args0 about1 = true := code_word (m := ⟨10, 6⟩) (meth := k10m6) (c := k10c6) (by decide +kernel) rfl rfl rfl (by decide +kernel)
set_option maxRecDepth 65536 in
theorem w_c22 : (Jvm.Cond.code ({ cls := "java/lang/String", name := "checkBoundsBeginEnd", desc := "(III)V" } : Jvm.MethodName) jdk_42_method_158_code (3 : Nat) (Option.none : Option Jvm.ClassFile.FieldType)).before args0 about1 = true := code_word (m := ⟨10, 14⟩) (meth := k10m14) (c := k10c14) (by decide +kernel) rfl rfl rfl (by decide +kernel)
set_option maxRecDepth 65536 in
theorem w_c23 : (Jvm.Cond.code ({ cls := "jdk/internal/util/Preconditions", name := "checkFromToIndex", desc := "(IIILjava/util/function/BiFunction;)I" } : Jvm.MethodName) jdk_41_method_12_code (4 : Nat) (Option.some Jvm.ClassFile.FieldType.int)).before args0 about1 = true := code_word (m := ⟨14, 2⟩) (meth := k14m2) (c := k14c2) (by decide +kernel) rfl rfl rfl (by decide +kernel)
set_option maxRecDepth 65536 in
theorem w_c24 : (Jvm.Cond.code ({ cls := "java/lang/String", name := "isLatin1", desc := "()Z" } : Jvm.MethodName) jdk_42_method_154_code (1 : Nat) (Option.some Jvm.ClassFile.FieldType.boolean)).before args0 about1 = true := code_word (m := ⟨10, 12⟩) (meth := k10m12) (c := k10c12) (by decide +kernel) rfl rfl rfl (by decide +kernel)
set_option maxRecDepth 65536 in
theorem w_c25 : (Jvm.Cond.code ({ cls := "java/lang/StringLatin1", name := "newString", desc := "([BII)Ljava/lang/String;" } : Jvm.MethodName) jdk_43_method_47_code (3 : Nat) (Option.some (Jvm.ClassFile.FieldType.object "java/lang/String"))).before args0 about1 = true := code_word (m := ⟨15, 3⟩) (meth := k15m3) (c := k15c3) (by decide +kernel) rfl rfl rfl (by decide +kernel)
set_option maxRecDepth 65536 in
theorem w_c26 : (Jvm.Cond.code ({ cls := "com/example/quittance/quittance/Segment", name := "end", desc := "(I)I" } : Jvm.MethodName) prog_111_method_11_code (2 : Nat) (Option.some Jvm.ClassFile.FieldType.int)).before args0 about1 = true := code_word (m := ⟨11, 1⟩) (meth := k11m1) (c := k11c1) (by decide +kernel) rfl rfl rfl (by decide +kernel)
set_option maxRecDepth 65536 in
theorem w_c27 : (Jvm.Cond.code ({ cls := "com/example/quittance/quittance/SegmentEndPinLaw", name := "step", desc := "([CII)I" } : Jvm.MethodName) method_5_code (3 : Nat) (Option.some Jvm.ClassFile.FieldType.int)).before args0 about1 = true := code_word (m := ⟨1, 4⟩) (meth := k1m4) (c := k1c4) (by decide +kernel) rfl rfl rfl (by decide +kernel)
set_option maxRecDepth 65536 in
theorem w_c28 : (Jvm.Cond.code ({ cls := "java/lang/String", name := "charAt", desc := "(I)C" } : Jvm.MethodName) jdk_42_method_56_code (2 : Nat) (Option.some Jvm.ClassFile.FieldType.char)).before args0 about1 = true := code_word (m := ⟨10, 4⟩) (meth := k10m4) (c := k10c4) (by decide +kernel) rfl rfl rfl (by decide +kernel)
set_option maxRecDepth 65536 in
theorem w_c29 : (Jvm.Cond.code ({ cls := "java/lang/StringLatin1", name := "charAt", desc := "([BI)C" } : Jvm.MethodName) jdk_43_method_2_code (2 : Nat) (Option.some Jvm.ClassFile.FieldType.char)).before args0 about1 = true := code_word (m := ⟨15, 1⟩) (meth := k15m1) (c := k15c1) (by decide +kernel) rfl rfl rfl (by decide +kernel)
set_option maxRecDepth 65536 in
theorem w_c30 : (Jvm.Cond.code ({ cls := "java/lang/String", name := "checkIndex", desc := "(II)V" } : Jvm.MethodName) jdk_42_method_155_code (2 : Nat) (Option.none : Option Jvm.ClassFile.FieldType)).before args0 about1 = true := code_word (m := ⟨10, 13⟩) (meth := k10m13) (c := k10c13) (by decide +kernel) rfl rfl rfl (by decide +kernel)
set_option maxRecDepth 65536 in
theorem w_c31 : (Jvm.Cond.code ({ cls := "jdk/internal/util/Preconditions", name := "checkIndex", desc := "(IILjava/util/function/BiFunction;)I" } : Jvm.MethodName) jdk_41_method_11_code (3 : Nat) (Option.some Jvm.ClassFile.FieldType.int)).before args0 about1 = true := code_word (m := ⟨14, 1⟩) (meth := k14m1) (c := k14c1) (by decide +kernel) rfl rfl rfl (by decide +kernel)
set_option maxRecDepth 65536 in
theorem w_c32 : (Jvm.Cond.code ({ cls := "java/util/Arrays", name := "copyOfRange", desc := "([BII)[B" } : Jvm.MethodName) jdk_65_method_132_code (3 : Nat) (Option.some (Jvm.ClassFile.FieldType.array Jvm.ClassFile.FieldType.byte))).before args0 about1 = true := code_word (m := ⟨16, 2⟩) (meth := k16m2) (c := k16c2) (by decide +kernel) rfl rfl rfl (by decide +kernel)
set_option maxRecDepth 65536 in
theorem w_c33 : (Jvm.Cond.code ({ cls := "java/util/Arrays", name := "copyOfRangeByte", desc := "([BII)[B" } : Jvm.MethodName) jdk_65_method_133_code (5 : Nat) (Option.some (Jvm.ClassFile.FieldType.array Jvm.ClassFile.FieldType.byte))).before args0 about1 = true := code_word (m := ⟨16, 3⟩) (meth := k16m3) (c := k16c3) (by decide +kernel) rfl rfl rfl (by decide +kernel)
set_option maxRecDepth 65536 in
theorem w_c34 : (Jvm.Cond.code ({ cls := "java/util/Arrays", name := "checkLength", desc := "(II)V" } : Jvm.MethodName) jdk_65_method_131_code (2 : Nat) (Option.none : Option Jvm.ClassFile.FieldType)).before args0 about1 = true := code_word (m := ⟨16, 1⟩) (meth := k16m1) (c := k16c1) (by decide +kernel) rfl rfl rfl (by decide +kernel)
set_option maxRecDepth 65536 in
theorem w_c35 : (Jvm.Cond.code ({ cls := "java/lang/String", name := "<init>", desc := "([BB)V" } : Jvm.MethodName) jdk_42_method_151_code (3 : Nat) (Option.none : Option Jvm.ClassFile.FieldType)).before args0 about1 = true := code_word (m := ⟨10, 10⟩) (meth := k10m10) (c := k10c10) (by decide +kernel) rfl rfl rfl (by decide +kernel)
set_option maxRecDepth 65536 in
theorem w_c36 : (Jvm.Cond.code ({ cls := "java/lang/StringBuilder", name := "<init>", desc := "()V" } : Jvm.MethodName) jdk_67_method_1_code (1 : Nat) (Option.none : Option Jvm.ClassFile.FieldType)).before args0 about1 = true := code_word (m := ⟨20, 0⟩) (meth := k20m0) (c := k20c0) (by decide +kernel) rfl rfl rfl (by decide +kernel)
set_option maxRecDepth 65536 in
theorem w_c37 : (Jvm.Cond.code ({ cls := "java/lang/AbstractStringBuilder", name := "<init>", desc := "(I)V" } : Jvm.MethodName) jdk_68_method_2_code (2 : Nat) (Option.none : Option Jvm.ClassFile.FieldType)).before args0 about1 = true := code_word (m := ⟨19, 1⟩) (meth := k19m1) (c := k19c1) (by decide +kernel) rfl rfl rfl (by decide +kernel)
set_option maxRecDepth 65536 in
theorem w_c38 : (Jvm.Cond.code ({ cls := "java/lang/StringBuilder", name := "append", desc := "(Ljava/lang/String;)Ljava/lang/StringBuilder;" } : Jvm.MethodName) jdk_67_method_7_code (2 : Nat) (Option.some (Jvm.ClassFile.FieldType.object "java/lang/StringBuilder"))).before args0 about1 = true := code_word (m := ⟨20, 1⟩) (meth := k20m1) (c := k20c1) (by decide +kernel) rfl rfl rfl (by decide +kernel)
set_option maxRecDepth 65536 in
theorem w_c39 : (Jvm.Cond.code ({ cls := "java/lang/AbstractStringBuilder", name := "append", desc := "(Ljava/lang/String;)Ljava/lang/AbstractStringBuilder;" } : Jvm.MethodName) jdk_68_method_22_code (3 : Nat) (Option.some (Jvm.ClassFile.FieldType.object "java/lang/AbstractStringBuilder"))).before args0 about1 = true := code_word (m := ⟨19, 4⟩) (meth := k19m4) (c := k19c4) (by decide +kernel) rfl rfl rfl (by decide +kernel)
set_option maxRecDepth 65536 in
theorem w_c40 : (Jvm.Cond.code ({ cls := "java/lang/AbstractStringBuilder", name := "ensureCapacityInternal", desc := "(I)V" } : Jvm.MethodName) jdk_68_method_9_code (3 : Nat) (Option.none : Option Jvm.ClassFile.FieldType)).before args0 about1 = true := code_word (m := ⟨19, 3⟩) (meth := k19m3) (c := k19c3) (by decide +kernel) rfl rfl rfl (by decide +kernel)
set_option maxRecDepth 65536 in
theorem w_c41 : (Jvm.Cond.code ({ cls := "java/lang/AbstractStringBuilder", name := "putStringAt", desc := "(ILjava/lang/String;)V" } : Jvm.MethodName) jdk_68_method_73_code (3 : Nat) (Option.none : Option Jvm.ClassFile.FieldType)).before args0 about1 = true := code_word (m := ⟨19, 9⟩) (meth := k19m9) (c := k19c9) (by decide +kernel) rfl rfl rfl (by decide +kernel)
set_option maxRecDepth 65536 in
theorem w_c42 : (Jvm.Cond.code ({ cls := "java/lang/AbstractStringBuilder", name := "inflateIfNeededFor", desc := "(Ljava/lang/String;)V" } : Jvm.MethodName) jdk_68_method_71_code (2 : Nat) (Option.none : Option Jvm.ClassFile.FieldType)).before args0 about1 = true := code_word (m := ⟨19, 8⟩) (meth := k19m8) (c := k19c8) (by decide +kernel) rfl rfl rfl (by decide +kernel)
set_option maxRecDepth 65536 in
theorem w_c43 : (Jvm.Cond.code ({ cls := "java/lang/String", name := "getBytes", desc := "([BIB)V" } : Jvm.MethodName) jdk_42_method_147_code (4 : Nat) (Option.none : Option Jvm.ClassFile.FieldType)).before args0 about1 = true := code_word (m := ⟨10, 7⟩) (meth := k10m7) (c := k10c7) (by decide +kernel) rfl rfl rfl (by decide +kernel)
set_option maxRecDepth 65536 in
theorem w_c44 : (Jvm.Cond.code ({ cls := "java/lang/StringBuilder", name := "append", desc := "(C)Ljava/lang/StringBuilder;" } : Jvm.MethodName) jdk_67_method_14_code (2 : Nat) (Option.some (Jvm.ClassFile.FieldType.object "java/lang/StringBuilder"))).before args0 about1 = true := code_word (m := ⟨20, 2⟩) (meth := k20m2) (c := k20c2) (by decide +kernel) rfl rfl rfl (by decide +kernel)
set_option maxRecDepth 65536 in
theorem w_c45 : (Jvm.Cond.code ({ cls := "java/lang/AbstractStringBuilder", name := "append", desc := "(C)Ljava/lang/AbstractStringBuilder;" } : Jvm.MethodName) jdk_68_method_31_code (2 : Nat) (Option.some (Jvm.ClassFile.FieldType.object "java/lang/AbstractStringBuilder"))).before args0 about1 = true := code_word (m := ⟨19, 5⟩) (meth := k19m5) (c := k19c5) (by decide +kernel) rfl rfl rfl (by decide +kernel)
set_option maxRecDepth 65536 in
theorem w_c46 : (Jvm.Cond.code ({ cls := "java/lang/AbstractStringBuilder", name := "isLatin1", desc := "()Z" } : Jvm.MethodName) jdk_68_method_68_code (1 : Nat) (Option.some Jvm.ClassFile.FieldType.boolean)).before args0 about1 = true := code_word (m := ⟨19, 7⟩) (meth := k19m7) (c := k19c7) (by decide +kernel) rfl rfl rfl (by decide +kernel)
set_option maxRecDepth 65536 in
theorem w_c47 : (Jvm.Cond.code ({ cls := "java/lang/StringLatin1", name := "canEncode", desc := "(C)Z" } : Jvm.MethodName) jdk_43_method_3_code (1 : Nat) (Option.some Jvm.ClassFile.FieldType.boolean)).before args0 about1 = true := code_word (m := ⟨15, 2⟩) (meth := k15m2) (c := k15c2) (by decide +kernel) rfl rfl rfl (by decide +kernel)
set_option maxRecDepth 65536 in
theorem w_c48 : (Jvm.Cond.code ({ cls := "java/lang/StringBuilder", name := "toString", desc := "()Ljava/lang/String;" } : Jvm.MethodName) jdk_67_method_42_code (1 : Nat) (Option.some (Jvm.ClassFile.FieldType.object "java/lang/String"))).before args0 about1 = true := code_word (m := ⟨20, 3⟩) (meth := k20m3) (c := k20c3) (by decide +kernel) rfl rfl rfl (by decide +kernel)
set_option maxRecDepth 65536 in
theorem w_c49 : (Jvm.Cond.code ({ cls := "java/lang/String", name := "<init>", desc := "(Ljava/lang/StringBuilder;)V" } : Jvm.MethodName) jdk_42_method_53_code (2 : Nat) (Option.none : Option Jvm.ClassFile.FieldType)).before args0 about1 = true := code_word (m := ⟨10, 2⟩) (meth := k10m2) (c := k10c2) (by decide +kernel) rfl rfl rfl (by decide +kernel)
set_option maxRecDepth 65536 in
theorem w_c50 : (Jvm.Cond.code ({ cls := "java/lang/String", name := "<init>", desc := "(Ljava/lang/AbstractStringBuilder;Ljava/lang/Void;)V" } : Jvm.MethodName) jdk_42_method_150_code (5 : Nat) (Option.none : Option Jvm.ClassFile.FieldType)).before args0 about1 = true := code_word (m := ⟨10, 9⟩) (meth := k10m9) (c := k10c9) (by decide +kernel) rfl rfl rfl (by decide +kernel)
set_option maxRecDepth 65536 in
theorem w_c51 : (Jvm.Cond.code ({ cls := "java/lang/AbstractStringBuilder", name := "getValue", desc := "()[B" } : Jvm.MethodName) jdk_68_method_64_code (1 : Nat) (Option.some (Jvm.ClassFile.FieldType.array Jvm.ClassFile.FieldType.byte))).before args0 about1 = true := code_word (m := ⟨19, 6⟩) (meth := k19m6) (c := k19c6) (by decide +kernel) rfl rfl rfl (by decide +kernel)
set_option maxRecDepth 65536 in
theorem w_c52 : (Jvm.Cond.code ({ cls := "java/lang/StringBuilder", name := "length", desc := "()I" } : Jvm.MethodName) jdk_67_method_93_code (1 : Nat) (Option.some Jvm.ClassFile.FieldType.int)).before args0 about1 = true := code_word (m := ⟨20, 4⟩) (meth := k20m4) (c := k20c4) (by decide +kernel) rfl rfl rfl (by decide +kernel)
set_option maxRecDepth 65536 in
theorem w_c53 : (Jvm.Cond.code ({ cls := "java/lang/AbstractStringBuilder", name := "length", desc := "()I" } : Jvm.MethodName) jdk_68_method_6_code (1 : Nat) (Option.some Jvm.ClassFile.FieldType.int)).before args0 about1 = true := code_word (m := ⟨19, 2⟩) (meth := k19m2) (c := k19c2) (by decide +kernel) rfl rfl rfl (by decide +kernel)
def codes1 : List Jvm.Cond := [Jvm.Cond.code x code maxLocals ret, Jvm.Cond.code ({ cls := "com/example/quittance/quittance/SegmentEndPinLaw", name := "pick", desc := "(I)C" } : Jvm.MethodName) method_3_code (2 : Nat) (Option.some Jvm.ClassFile.FieldType.char), Jvm.Cond.code ({ cls := "com/example/quittance/quittance/SegmentEndPinLaw", name := "expected", desc := "([CIII)I" } : Jvm.MethodName) method_7_code (5 : Nat) (Option.some Jvm.ClassFile.FieldType.int), Jvm.Cond.code ({ cls := "com/example/quittance/quittance/SegmentEndPinLaw", name := "nextSep", desc := "([CII)I" } : Jvm.MethodName) method_4_code (3 : Nat) (Option.some Jvm.ClassFile.FieldType.int), Jvm.Cond.code ({ cls := "com/example/quittance/quittance/SegmentEndPinLaw", name := "walk", desc := "([CIII)I" } : Jvm.MethodName) method_6_code (6 : Nat) (Option.some Jvm.ClassFile.FieldType.int), Jvm.Cond.code ({ cls := "java/lang/Math", name := "min", desc := "(II)I" } : Jvm.MethodName) jdk_29_method_69_code (2 : Nat) (Option.some Jvm.ClassFile.FieldType.int), Jvm.Cond.code ({ cls := "com/example/quittance/quittance/Delimiters", name := "<init>", desc := "(CLjava/lang/String;)V" } : Jvm.MethodName) prog_23_method_1_code (3 : Nat) (Option.none : Option Jvm.ClassFile.FieldType), Jvm.Cond.code ({ cls := "java/lang/Record", name := "<init>", desc := "()V" } : Jvm.MethodName) jdk_30_method_1_code (1 : Nat) (Option.none : Option Jvm.ClassFile.FieldType), Jvm.Cond.code ({ cls := "java/lang/Object", name := "<init>", desc := "()V" } : Jvm.MethodName) object_method_1_code (1 : Nat) (Option.none : Option Jvm.ClassFile.FieldType), Jvm.Cond.code ({ cls := "java/lang/String", name := "<init>", desc := "([C)V" } : Jvm.MethodName) jdk_42_method_3_code (2 : Nat) (Option.none : Option Jvm.ClassFile.FieldType), Jvm.Cond.code ({ cls := "java/lang/String", name := "<init>", desc := "([CIILjava/lang/Void;)V" } : Jvm.MethodName) jdk_42_method_149_code (6 : Nat) (Option.none : Option Jvm.ClassFile.FieldType), Jvm.Cond.code ({ cls := "java/lang/StringUTF16", name := "compress", desc := "([CII)[B" } : Jvm.MethodName) jdk_52_method_16_code (6 : Nat) (Option.some (Jvm.ClassFile.FieldType.array Jvm.ClassFile.FieldType.byte)), Jvm.Cond.code ({ cls := "java/lang/StringUTF16", name := "compress", desc := "([CI[BII)I" } : Jvm.MethodName) jdk_52_method_21_code (7 : Nat) (Option.some Jvm.ClassFile.FieldType.int), Jvm.Cond.code ({ cls := "java/lang/StringUTF16", name := "coderFromArrayLen", desc := "([BI)B" } : Jvm.MethodName) jdk_52_method_15_code (2 : Nat) (Option.some Jvm.ClassFile.FieldType.byte), Jvm.Cond.code ({ cls := "com/example/quittance/quittance/Segment", name := "<init>", desc := "(Ljava/lang/String;IILcom/example/quittance/quittance/Delimiters;)V" } : Jvm.MethodName) prog_111_method_2_code (13 : Nat) (Option.none : Option Jvm.ClassFile.FieldType), Jvm.Cond.code ({ cls := "com/example/quittance/quittance/Delimiters", name := "field", desc := "()C" } : Jvm.MethodName) prog_23_method_37_code (1 : Nat) (Option.some Jvm.ClassFile.FieldType.char), Jvm.Cond.code ({ cls := "java/lang/String", name := "startsWith", desc := "(Ljava/lang/String;I)Z" } : Jvm.MethodName) jdk_42_method_75_code (8 : Nat) (Option.some Jvm.ClassFile.FieldType.boolean), Jvm.Cond.code ({ cls := "java/lang/String", name := "length", desc := "()I" } : Jvm.MethodName) jdk_42_method_54_code (1 : Nat) (Option.some Jvm.ClassFile.FieldType.int), Jvm.Cond.code ({ cls := "java/lang/String", name := "coder", desc := "()B" } : Jvm.MethodName) jdk_42_method_152_code (1 : Nat) (Option.some Jvm.ClassFile.FieldType.byte), Jvm.Cond.code ({ cls := "jdk/internal/util/ArraysSupport", name := "mismatch", desc := "([BI[BII)I" } : Jvm.MethodName) jdk_48_method_14_code (8 : Nat) (Option.some Jvm.ClassFile.FieldType.int), Jvm.Cond.code ({ cls := "com/example/quittance/quittance/Delimiters", name := "partEnd", desc := "(Ljava/lang/String;CII)I" } : Jvm.MethodName) prog_23_method_4_code (5 : Nat) (Option.some Jvm.ClassFile.FieldType.int), Jvm.Cond.code ({ cls := "java/lang/String", name := "substring", desc := "(II)Ljava/lang/String;" } : Jvm.MethodName) jdk_42_method_92_code (5 : Nat) (Option.some (Jvm.ClassFile.FieldType.object "java/lang/String")), Jvm.Cond.code ({ cls := "java/lang/String", name := "checkBoundsBeginEnd", desc := "(III)V" } : Jvm.MethodName) jdk_42_method_158_code (3 : Nat) (Option.none : Option Jvm.ClassFile.FieldType), Jvm.Cond.code ({ cls := "jdk/internal/util/Preconditions", name := "checkFromToIndex", desc := "(IIILjava/util/function/BiFunction;)I" } : Jvm.MethodName) jdk_41_method_12_code (4 : Nat) (Option.some Jvm.ClassFile.FieldType.int), Jvm.Cond.code ({ cls := "java/lang/String", name := "isLatin1", desc := "()Z" } : Jvm.MethodName) jdk_42_method_154_code (1 : Nat) (Option.some Jvm.ClassFile.FieldType.boolean), Jvm.Cond.code ({ cls := "java/lang/StringLatin1", name := "newString", desc := "([BII)Ljava/lang/String;" } : Jvm.MethodName) jdk_43_method_47_code (3 : Nat) (Option.some (Jvm.ClassFile.FieldType.object "java/lang/String")), Jvm.Cond.code ({ cls := "com/example/quittance/quittance/Segment", name := "end", desc := "(I)I" } : Jvm.MethodName) prog_111_method_11_code (2 : Nat) (Option.some Jvm.ClassFile.FieldType.int), Jvm.Cond.code ({ cls := "com/example/quittance/quittance/SegmentEndPinLaw", name := "step", desc := "([CII)I" } : Jvm.MethodName) method_5_code (3 : Nat) (Option.some Jvm.ClassFile.FieldType.int), Jvm.Cond.code ({ cls := "java/lang/String", name := "charAt", desc := "(I)C" } : Jvm.MethodName) jdk_42_method_56_code (2 : Nat) (Option.some Jvm.ClassFile.FieldType.char), Jvm.Cond.code ({ cls := "java/lang/StringLatin1", name := "charAt", desc := "([BI)C" } : Jvm.MethodName) jdk_43_method_2_code (2 : Nat) (Option.some Jvm.ClassFile.FieldType.char), Jvm.Cond.code ({ cls := "java/lang/String", name := "checkIndex", desc := "(II)V" } : Jvm.MethodName) jdk_42_method_155_code (2 : Nat) (Option.none : Option Jvm.ClassFile.FieldType), Jvm.Cond.code ({ cls := "jdk/internal/util/Preconditions", name := "checkIndex", desc := "(IILjava/util/function/BiFunction;)I" } : Jvm.MethodName) jdk_41_method_11_code (3 : Nat) (Option.some Jvm.ClassFile.FieldType.int), Jvm.Cond.code ({ cls := "java/util/Arrays", name := "copyOfRange", desc := "([BII)[B" } : Jvm.MethodName) jdk_65_method_132_code (3 : Nat) (Option.some (Jvm.ClassFile.FieldType.array Jvm.ClassFile.FieldType.byte)), Jvm.Cond.code ({ cls := "java/util/Arrays", name := "copyOfRangeByte", desc := "([BII)[B" } : Jvm.MethodName) jdk_65_method_133_code (5 : Nat) (Option.some (Jvm.ClassFile.FieldType.array Jvm.ClassFile.FieldType.byte)), Jvm.Cond.code ({ cls := "java/util/Arrays", name := "checkLength", desc := "(II)V" } : Jvm.MethodName) jdk_65_method_131_code (2 : Nat) (Option.none : Option Jvm.ClassFile.FieldType), Jvm.Cond.code ({ cls := "java/lang/String", name := "<init>", desc := "([BB)V" } : Jvm.MethodName) jdk_42_method_151_code (3 : Nat) (Option.none : Option Jvm.ClassFile.FieldType), Jvm.Cond.code ({ cls := "java/lang/StringBuilder", name := "<init>", desc := "()V" } : Jvm.MethodName) jdk_67_method_1_code (1 : Nat) (Option.none : Option Jvm.ClassFile.FieldType), Jvm.Cond.code ({ cls := "java/lang/AbstractStringBuilder", name := "<init>", desc := "(I)V" } : Jvm.MethodName) jdk_68_method_2_code (2 : Nat) (Option.none : Option Jvm.ClassFile.FieldType), Jvm.Cond.code ({ cls := "java/lang/StringBuilder", name := "append", desc := "(Ljava/lang/String;)Ljava/lang/StringBuilder;" } : Jvm.MethodName) jdk_67_method_7_code (2 : Nat) (Option.some (Jvm.ClassFile.FieldType.object "java/lang/StringBuilder")), Jvm.Cond.code ({ cls := "java/lang/AbstractStringBuilder", name := "append", desc := "(Ljava/lang/String;)Ljava/lang/AbstractStringBuilder;" } : Jvm.MethodName) jdk_68_method_22_code (3 : Nat) (Option.some (Jvm.ClassFile.FieldType.object "java/lang/AbstractStringBuilder")), Jvm.Cond.code ({ cls := "java/lang/AbstractStringBuilder", name := "ensureCapacityInternal", desc := "(I)V" } : Jvm.MethodName) jdk_68_method_9_code (3 : Nat) (Option.none : Option Jvm.ClassFile.FieldType), Jvm.Cond.code ({ cls := "java/lang/AbstractStringBuilder", name := "putStringAt", desc := "(ILjava/lang/String;)V" } : Jvm.MethodName) jdk_68_method_73_code (3 : Nat) (Option.none : Option Jvm.ClassFile.FieldType), Jvm.Cond.code ({ cls := "java/lang/AbstractStringBuilder", name := "inflateIfNeededFor", desc := "(Ljava/lang/String;)V" } : Jvm.MethodName) jdk_68_method_71_code (2 : Nat) (Option.none : Option Jvm.ClassFile.FieldType), Jvm.Cond.code ({ cls := "java/lang/String", name := "getBytes", desc := "([BIB)V" } : Jvm.MethodName) jdk_42_method_147_code (4 : Nat) (Option.none : Option Jvm.ClassFile.FieldType), Jvm.Cond.code ({ cls := "java/lang/StringBuilder", name := "append", desc := "(C)Ljava/lang/StringBuilder;" } : Jvm.MethodName) jdk_67_method_14_code (2 : Nat) (Option.some (Jvm.ClassFile.FieldType.object "java/lang/StringBuilder")), Jvm.Cond.code ({ cls := "java/lang/AbstractStringBuilder", name := "append", desc := "(C)Ljava/lang/AbstractStringBuilder;" } : Jvm.MethodName) jdk_68_method_31_code (2 : Nat) (Option.some (Jvm.ClassFile.FieldType.object "java/lang/AbstractStringBuilder")), Jvm.Cond.code ({ cls := "java/lang/AbstractStringBuilder", name := "isLatin1", desc := "()Z" } : Jvm.MethodName) jdk_68_method_68_code (1 : Nat) (Option.some Jvm.ClassFile.FieldType.boolean), Jvm.Cond.code ({ cls := "java/lang/StringLatin1", name := "canEncode", desc := "(C)Z" } : Jvm.MethodName) jdk_43_method_3_code (1 : Nat) (Option.some Jvm.ClassFile.FieldType.boolean), Jvm.Cond.code ({ cls := "java/lang/StringBuilder", name := "toString", desc := "()Ljava/lang/String;" } : Jvm.MethodName) jdk_67_method_42_code (1 : Nat) (Option.some (Jvm.ClassFile.FieldType.object "java/lang/String")), Jvm.Cond.code ({ cls := "java/lang/String", name := "<init>", desc := "(Ljava/lang/StringBuilder;)V" } : Jvm.MethodName) jdk_42_method_53_code (2 : Nat) (Option.none : Option Jvm.ClassFile.FieldType), Jvm.Cond.code ({ cls := "java/lang/String", name := "<init>", desc := "(Ljava/lang/AbstractStringBuilder;Ljava/lang/Void;)V" } : Jvm.MethodName) jdk_42_method_150_code (5 : Nat) (Option.none : Option Jvm.ClassFile.FieldType), Jvm.Cond.code ({ cls := "java/lang/AbstractStringBuilder", name := "getValue", desc := "()[B" } : Jvm.MethodName) jdk_68_method_64_code (1 : Nat) (Option.some (Jvm.ClassFile.FieldType.array Jvm.ClassFile.FieldType.byte)), Jvm.Cond.code ({ cls := "java/lang/StringBuilder", name := "length", desc := "()I" } : Jvm.MethodName) jdk_67_method_93_code (1 : Nat) (Option.some Jvm.ClassFile.FieldType.int), Jvm.Cond.code ({ cls := "java/lang/AbstractStringBuilder", name := "length", desc := "()I" } : Jvm.MethodName) jdk_68_method_6_code (1 : Nat) (Option.some Jvm.ClassFile.FieldType.int)]
set_option maxRecDepth 65536 in
theorem codes_eq : words1.filter isCode = codes1 := rfl
theorem w_codes : ∀ c ∈ words1.filter isCode, c.before args0 about1 = true := by
  rw [codes_eq]
  intro c hc
  simp only [codes1, List.mem_cons, List.not_mem_nil, or_false] at hc
  rcases hc with rfl | rfl | rfl | rfl | rfl | rfl | rfl | rfl | rfl | rfl | rfl | rfl | rfl | rfl | rfl | rfl | rfl | rfl | rfl | rfl | rfl | rfl | rfl | rfl | rfl | rfl | rfl | rfl | rfl | rfl | rfl | rfl | rfl | rfl | rfl | rfl | rfl | rfl | rfl | rfl | rfl | rfl | rfl | rfl | rfl | rfl | rfl | rfl | rfl | rfl | rfl | rfl | rfl | rfl
  · exact w_c0
  · exact w_c1
  · exact w_c2
  · exact w_c3
  · exact w_c4
  · exact w_c5
  · exact w_c6
  · exact w_c7
  · exact w_c8
  · exact w_c9
  · exact w_c10
  · exact w_c11
  · exact w_c12
  · exact w_c13
  · exact w_c14
  · exact w_c15
  · exact w_c16
  · exact w_c17
  · exact w_c18
  · exact w_c19
  · exact w_c20
  · exact w_c21
  · exact w_c22
  · exact w_c23
  · exact w_c24
  · exact w_c25
  · exact w_c26
  · exact w_c27
  · exact w_c28
  · exact w_c29
  · exact w_c30
  · exact w_c31
  · exact w_c32
  · exact w_c33
  · exact w_c34
  · exact w_c35
  · exact w_c36
  · exact w_c37
  · exact w_c38
  · exact w_c39
  · exact w_c40
  · exact w_c41
  · exact w_c42
  · exact w_c43
  · exact w_c44
  · exact w_c45
  · exact w_c46
  · exact w_c47
  · exact w_c48
  · exact w_c49
  · exact w_c50
  · exact w_c51
  · exact w_c52
  · exact w_c53
set_option maxRecDepth 65536 in
theorem w_t1 : (words1.take 24).all (fun c => isCode c || c.before args0 about1) = true := by decide +kernel
set_option maxRecDepth 65536 in
theorem w_t2 : ((words1.drop 24).take 24).all (fun c => isCode c || c.before args0 about1) = true := by decide +kernel
set_option maxRecDepth 65536 in
theorem w_t3 : (((words1.drop 24).drop 24).take 24).all (fun c => isCode c || c.before args0 about1) = true := by decide +kernel
set_option maxRecDepth 65536 in
theorem w_t4 : ((((words1.drop 24).drop 24).drop 24).take 24).all (fun c => isCode c || c.before args0 about1) = true := by decide +kernel
set_option maxRecDepth 65536 in
theorem w_t5 : (((((words1.drop 24).drop 24).drop 24).drop 24).take 24).all (fun c => isCode c || c.before args0 about1) = true := by decide +kernel
set_option maxRecDepth 65536 in
theorem w_t6 : ((((((words1.drop 24).drop 24).drop 24).drop 24).drop 24).take 24).all (fun c => isCode c || c.before args0 about1) = true := by decide +kernel
set_option maxRecDepth 65536 in
theorem w_t7 : (((((((words1.drop 24).drop 24).drop 24).drop 24).drop 24).drop 24).take 24).all (fun c => isCode c || c.before args0 about1) = true := by decide +kernel
set_option maxRecDepth 65536 in
theorem w_t8 : ((((((((words1.drop 24).drop 24).drop 24).drop 24).drop 24).drop 24).drop 24).take 24).all (fun c => isCode c || c.before args0 about1) = true := by decide +kernel
set_option maxRecDepth 65536 in
theorem w_t9 : (((((((((words1.drop 24).drop 24).drop 24).drop 24).drop 24).drop 24).drop 24).drop 24).take 24).all (fun c => isCode c || c.before args0 about1) = true := by decide +kernel
set_option maxRecDepth 65536 in
theorem w_t10 : ((((((((((words1.drop 24).drop 24).drop 24).drop 24).drop 24).drop 24).drop 24).drop 24).drop 24).take 24).all (fun c => isCode c || c.before args0 about1) = true := by decide +kernel
set_option maxRecDepth 65536 in
theorem w_t11 : (((((((((((words1.drop 24).drop 24).drop 24).drop 24).drop 24).drop 24).drop 24).drop 24).drop 24).drop 24).take 24).all (fun c => isCode c || c.before args0 about1) = true := by decide +kernel
set_option maxRecDepth 65536 in
theorem w_t12 : (((((((((((words1.drop 24).drop 24).drop 24).drop 24).drop 24).drop 24).drop 24).drop 24).drop 24).drop 24).drop 24).all (fun c => isCode c || c.before args0 about1) = true := by decide +kernel
theorem w_tables : (allAtoms (Jvm.Cond.code x code maxLocals ret :: tables_1)).before args0 about1 = true := by
  rw [allAtoms_all]
  show words1.all (fun c => c.before args0 about1) = true
  refine all_split ?_ w_codes
  rw [← List.take_append_drop 24 words1, List.all_append, w_t1, ← List.take_append_drop 24 (words1.drop 24), List.all_append, w_t2, ← List.take_append_drop 24 ((words1.drop 24).drop 24), List.all_append, w_t3, ← List.take_append_drop 24 (((words1.drop 24).drop 24).drop 24), List.all_append, w_t4, ← List.take_append_drop 24 ((((words1.drop 24).drop 24).drop 24).drop 24), List.all_append, w_t5, ← List.take_append_drop 24 (((((words1.drop 24).drop 24).drop 24).drop 24).drop 24), List.all_append, w_t6, ← List.take_append_drop 24 ((((((words1.drop 24).drop 24).drop 24).drop 24).drop 24).drop 24), List.all_append, w_t7, ← List.take_append_drop 24 (((((((words1.drop 24).drop 24).drop 24).drop 24).drop 24).drop 24).drop 24), List.all_append, w_t8, ← List.take_append_drop 24 ((((((((words1.drop 24).drop 24).drop 24).drop 24).drop 24).drop 24).drop 24).drop 24), List.all_append, w_t9, ← List.take_append_drop 24 (((((((((words1.drop 24).drop 24).drop 24).drop 24).drop 24).drop 24).drop 24).drop 24).drop 24), List.all_append, w_t10, ← List.take_append_drop 24 ((((((((((words1.drop 24).drop 24).drop 24).drop 24).drop 24).drop 24).drop 24).drop 24).drop 24).drop 24), List.all_append, w_t11, w_t12]
  rfl
set_option maxRecDepth 65536 in
theorem w_rest : rest_1_c.before args0 about1 = true := by decide +kernel
set_option maxRecDepth 65536 in
theorem w_case : (Jvm.Cond.and given_1 narrow_1).before args0 about1 = true := by decide +kernel
set_option maxRecDepth 65536 in
theorem w_consts : constsHeld consts_1 about1 := Jvm.Lit.constsHeldB_iff.mp (by decide +kernel)
theorem w_applies : (headSpec (Jvm.Cond.code x code maxLocals ret :: tables_1) room_1).applies x e0.platform about1 = true :=
  (Spec.applies_iff w_frames).mpr ⟨w_running, w_runnable, w_alone, w_named, w_hears, w_ripe, w_room, w_tables⟩
theorem atStart : AtStart classFile x code maxLocals ret World_1 tables_1 room_1 Calls_1 rest_1 Pre_1 launch0 p0 e0 about1 theMethod args0 below0 :=
  ⟨lists_1, trivial, launch0.admits_env _ _ _, launch0.least_env, fairChoices_fair.cas, fairChoices_fair.clock, w_frames, w_args, w_heap, w_applies, ⟨w_consts, trivial⟩, w_rest, w_case⟩
end start1
theorem witness_1 : WitnessClaimed_1 := ⟨start1.p0, start1.e0, start1.about1, start1.theMethod, start1.args0, start1.below0, start1.atStart⟩
end Jvm.Pilot.@@N@@
