import JvmDerived
import JvmDerived.Pilot.@@N@@Statement
import JvmDerived.Pilot.@@N@@Code
set_option linter.unusedVariables false
set_option linter.unusedSimpArgs false
namespace Jvm.Pilot.@@N@@
open Jvm Jvm.ClassFile Sem Op Lib Jvm.Free Jvm.Stand Jvm.LawKit Jvm.RoadKit Bundle Jvm.Pilot.@@N@@.Jvm.D
/-! ## A body, its walk (Wk) and its contract (Cn) -/
abbrev Bdy : Type := MethodName × ByteArray × Nat × Option FieldType × Room
abbrev Bdy.y (b : Bdy) : MethodName := b.1
abbrev Bdy.code (b : Bdy) : ByteArray := b.2.1
abbrev Bdy.maxL (b : Bdy) : Nat := b.2.2.1
abbrev Bdy.ret (b : Bdy) : Option FieldType := b.2.2.2.1
abbrev Bdy.room (b : Bdy) : Room := b.2.2.2.2
/-- what is known of the VM's tables: none: only warmer; some: which texts were interned, which literals are resolved -/
abbrev Lts : Type := Option (List String × List (String × Nat × Addr))
def VI (Z : State) (I : Lts) (vm : Vm) : Prop := match I with
  | none => Z.WarmedH vm
  | some q => IB Z vm q.1 ∧ ∀ u ∈ q.2, Lit (Z.setVm vm) u.1 u.2.1 u.2.2
theorem VI.warm {Z s : State} {I : Lts} {vm' : Vm} (hV : VI Z I s.vm) (hW : s.WarmedH vm') : VI Z I vm' := by
  cases I with
  | none => exact State.WarmedH.trans hV hW
  | some q =>
    refine ⟨?_, fun u hu => ?_⟩
    · obtain ⟨more, h1, h2⟩ := hV.1
      exact ⟨more, by rw [hW.interned_eq]; exact h1, h2⟩
    · exact Lit.stays (vm0 := s.vm) (hV.2 u hu) (by exact hW.wide)
abbrev Cx : Type := Launch × State × Nat × Nat × Bdy × (Option Value → Heap → Lts → Prop)
abbrev Cx.l (c : Cx) : Launch := c.1
abbrev Cx.Z (c : Cx) : State := c.2.1
abbrev Cx.N (c : Cx) : Nat := c.2.2.1
abbrev Cx.M (c : Cx) : Nat := c.2.2.2.1
abbrev Cx.b (c : Cx) : Bdy := c.2.2.2.2.1
abbrev Cx.Q (c : Cx) : Option Value → Heap → Lts → Prop := c.2.2.2.2.2
def Fini (C : Cx) (s : State) (o : Outcome) (t : State) : Prop :=
  ∃ v L J, o = .returned v ∧ C.Q v t.heap J ∧ VI C.Z J t.vm ∧ Fr C.N L ∧ Ext C.Z.heap t.heap ∧ ReturnedEndW s o t L C.b.room.cells C.b.room.slots
def St (C : Cx) (p : Program) (e : Env) (s : State) (vm0 : Vm) (m : MethodId) (args : Array Value) (below : List Frame) (meth : Method) (c : Code) (T : State) (locs : List Loc) (k0 : Nat) (h : Heap) (k n : Nat) (I : Lts) : Prop :=
  (p.tables.exec = Jvm.exec ∧ c.code = C.b.code ∧ c.maxLocals = C.b.maxL ∧ meth.sig.returnType = C.b.ret ∧ meth.locks = false ∧ meth.name = C.b.y.name ∧ C.Z.heap.size ≤ C.N ∧ s.heap.size = C.M ∧ Ext C.Z.heap s.heap) ∧
  (vm0.findClass C.b.y.cls = some m.cls ∧ C.Z.Warmed39 vm0 ∧ s.Since vm0 k0 ∧ VI C.Z I vm0) ∧
  (k0 ≤ h.size ∧ Stand p C.l e C.b.room (s.setVm vm0) m args below meth c T locs k n ∧ T.heap = h ∧ Ext C.Z.heap h ∧ C.N ≤ h.size ∧ Fr C.N locs)
def Wk (C : Cx) (h : Heap) (k n : Nat) (I : Lts) (pc : Nat) (Ls : Array Slot) (st : List Value) : Prop :=
  ∀ (p : Program) (e : Env) (s : State) (vm0 : Vm) (m : MethodId) (args : Array Value) (below : List Frame) (meth : Method) (c : Code) (T : State) (locs : List Loc) (k0 : Nat),
    St C p e s vm0 m args below meth c T locs k0 h k n I →
    ∃ t o, Steps p.tables e below (T.setTop (mkF m pc Ls st)) t ∧ t.status = .running ∧ Ended t below o ∧ Fini C s o t
def Cn (l : Launch) (Z : State) (N : Nat) (b : Bdy) (as : Array Value) (h : Heap) (I : Lts) (Q : Option Value → Heap → Lts → Prop) : Prop :=
  ∀ ws : List Jvm.Cond, MetFree l b.y (head1 (Jvm.Cond.code b.y b.code b.maxL b.ret :: ws) b.room) (fun a U => a = as ∧ Z.Warmed39 U.vm ∧ U.heap = h ∧ VI Z I U.vm ∧ Ext Z.heap h ∧ N ≤ h.size ∧ Z.heap.size ≤ N) (fun _ _ _ _ _ => True) (fun _ U o U' => Fini (l, Z, N, h.size, b, Q) U o U')
theorem own_ext {h0 h : Heap} (K : Keep h0 h []) : Ext h0 h := ⟨K.1, fun a c q => K.2.1 a c q nin0⟩
section Kit
variable {C : Cx} {h h' : Heap} {k n k' n' : Nat} {I : Lts} {pc pc' : Nat} {Ls Ls' : Array Slot} {st st' rest : List Value} {a0 : Array Value}
theorem Wk.step (hs : ∀ (p : Program) (e : Env) (m : MethodId) (below : List Frame) (c : Code) (T t : State), At T m c below → p.tables.exec = Jvm.exec → c.code = C.b.code → Steps p.tables e below (T.setTop (mkF m pc' Ls' st')) t → Steps p.tables e below (T.setTop (mkF m pc Ls st)) t)
    (r : Wk C h k n I pc' Ls' st') : Wk C h k n I pc Ls st := fun p e s vm0 m args below meth c T locs k0 S => by
  obtain ⟨t, o, h1, h2⟩ := r p e s vm0 m args below meth c T locs k0 S
  exact ⟨t, o, hs p e m below c T t S.2.2.2.1.here S.1.1 S.1.2.1 h1, h2⟩
/-- a step over the Stand, the heap as it is -/
theorem Wk.law (hs : ∀ (p : Program) (e : Env) (s : State) (vm0 : Vm) (m : MethodId) (args : Array Value) (below : List Frame) (meth : Method) (c : Code) (T : State) (locs : List Loc) (k0 : Nat), St C p e s vm0 m args below meth c T locs k0 h k n I →
      ∃ T', Stand p C.l e C.b.room (s.setVm vm0) m args below meth c T' locs k n ∧ T'.heap = h ∧ ∀ t, Steps p.tables e below (T'.setTop (mkF m pc' Ls' st')) t → Steps p.tables e below (T.setTop (mkF m pc Ls st)) t)
    (r : Wk C h k n I pc' Ls' st') : Wk C h k n I pc Ls st := fun p e s vm0 m args below meth c T locs k0 S => by
  obtain ⟨T', X', e', st⟩ := hs p e s vm0 m args below meth c T locs k0 S
  obtain ⟨t, o, h1, h2⟩ := r p e s vm0 m args below meth c T' locs k0 ⟨S.1, S.2.1, S.2.2.1, X', e', S.2.2.2.2.2⟩
  exact ⟨t, o, st t h1, h2⟩
/-- a step that writes one place -/
theorem Wk.lawW {a : Addr} {sl : Nat} {v : Value} (ha : C.N ≤ a) (hs : ∀ (p : Program) (e : Env) (s : State) (vm0 : Vm) (m : MethodId) (args : Array Value) (below : List Frame) (meth : Method) (c : Code) (T : State) (locs : List Loc) (k0 : Nat), St C p e s vm0 m args below meth c T locs k0 h k n I →
      ∃ T' h', Stand p C.l e C.b.room (s.setVm vm0) m args below meth c T' (locs ++ [⟨a, sl⟩]) k n ∧ T'.heap = h' ∧ Wr h h' a sl v ∧ ∀ t, Steps p.tables e below (T'.setTop (mkF m pc' Ls' st')) t → Steps p.tables e below (T.setTop (mkF m pc Ls st)) t)
    (r : ∀ h', Wr h h' a sl v → Wk C h' k n I pc' Ls' st') : Wk C h k n I pc Ls st := fun p e s vm0 m args below meth c T locs k0 S => by
  obtain ⟨T', h', X', e', W, st⟩ := hs p e s vm0 m args below meth c T locs k0 S
  obtain ⟨A, B, q1, q2, q3, q4, q5, q6⟩ := S
  have hO : Old C.Z C.Z.heap.size h := ⟨rfl, q4⟩
  obtain ⟨t, o, h1, h2⟩ := r h' W p e s vm0 m args below meth c T' _ k0 ⟨A, B, by rw [W.size]; exact q1, X', e', (hO.wr W (Nat.le_trans A.2.2.2.2.2.2.1 ha)).2, by rw [W.size]; exact q5, Fr.snoc X' q6 ha⟩
  exact ⟨t, o, st t h1, h2⟩
/-- a step that makes a cell -/
theorem Wk.lawE {P : Heap → Prop} (hs : ∀ (p : Program) (e : Env) (s : State) (vm0 : Vm) (m : MethodId) (args : Array Value) (below : List Frame) (meth : Method) (c : Code) (T : State) (locs : List Loc) (k0 : Nat), St C p e s vm0 m args below meth c T locs k0 h k n I →
      ∃ T' h', Stand p C.l e C.b.room (s.setVm vm0) m args below meth c T' locs k' n' ∧ T'.heap = h' ∧ Ext h h' ∧ P h' ∧ ∀ t, Steps p.tables e below (T'.setTop (mkF m pc' Ls' st')) t → Steps p.tables e below (T.setTop (mkF m pc Ls st)) t)
    (r : ∀ h', Ext h h' → P h' → Wk C h' k' n' I pc' Ls' st') : Wk C h k n I pc Ls st := fun p e s vm0 m args below meth c T locs k0 S => by
  obtain ⟨T', h', X', e', E, hp, st⟩ := hs p e s vm0 m args below meth c T locs k0 S
  obtain ⟨A, B, q1, q2, q3, q4, q5, q6⟩ := S
  obtain ⟨t, o, h1, h2⟩ := r h' E hp p e s vm0 m args below meth c T' _ k0 ⟨A, B, Nat.le_trans q1 E.1, X', e', ⟨Nat.le_trans q4.1 E.1, fun x c hx => E.2 _ _ (q4.2 _ _ hx)⟩, Nat.le_trans q5 E.1, q6⟩
  exact ⟨t, o, st t h1, h2⟩
/-- what stands at every point -/
theorem Wk.see (r : Ext C.Z.heap h → C.N ≤ h.size → C.Z.heap.size ≤ C.N → Wk C h k n I pc Ls st) : Wk C h k n I pc Ls st := fun p e s vm0 m args below meth c T locs k0 S =>
  r S.2.2.2.2.2.1 S.2.2.2.2.2.2.1 S.1.2.2.2.2.2.2.1 p e s vm0 m args below meth c T locs k0 S
theorem Wk.more (hk : k ≤ k') (hn : n ≤ n') (r : Wk C h k' n' I pc Ls st) : Wk C h k n I pc Ls st := fun p e s vm0 m args below meth c T locs k0 S =>
  r p e s vm0 m args below meth c T locs k0 ⟨S.1, S.2.1, S.2.2.1, S.2.2.2.1.mono hk hn, S.2.2.2.2⟩
theorem Wk.iadd {x y : Int32} (hd : decode C.b.code pc = .ok (.iadd, 1)) (hp : pc + 1 = pc') (r : Wk C h k n I pc' Ls (.int (x + y) :: rest)) : Wk C h k n I pc Ls (.int y :: .int x :: rest) := by
  subst hp
  exact Wk.step (fun _ _ _ _ _ _ _ ha hx hby kt => XS.iadd ha hx rfl (hb hby hd) rfl kt) r
theorem Wk.isub {x y : Int32} (hd : decode C.b.code pc = .ok (.isub, 1)) (hp : pc + 1 = pc') (r : Wk C h k n I pc' Ls (.int (x - y) :: rest)) : Wk C h k n I pc Ls (.int y :: .int x :: rest) := by
  subst hp
  exact Wk.step (fun _ _ _ _ _ _ _ ha hx hby kt => XS.isub ha hx rfl (hb hby hd) rfl kt) r
theorem Wk.imul {x y : Int32} (hd : decode C.b.code pc = .ok (.imul, 1)) (hp : pc + 1 = pc') (r : Wk C h k n I pc' Ls (.int (x * y) :: rest)) : Wk C h k n I pc Ls (.int y :: .int x :: rest) := by
  subst hp
  exact Wk.step (fun _ _ _ _ _ _ _ ha hx hby kt => XS.imul ha hx rfl (hb hby hd) rfl kt) r
theorem Wk.iand {x y : Int32} (hd : decode C.b.code pc = .ok (.iand, 1)) (hp : pc + 1 = pc') (r : Wk C h k n I pc' Ls (.int (x &&& y) :: rest)) : Wk C h k n I pc Ls (.int y :: .int x :: rest) := by
  subst hp
  exact Wk.step (fun _ _ _ _ _ _ _ ha hx hby kt => XS.iand ha hx rfl (hb hby hd) rfl kt) r
theorem Wk.ior {x y : Int32} (hd : decode C.b.code pc = .ok (.ior, 1)) (hp : pc + 1 = pc') (r : Wk C h k n I pc' Ls (.int (x ||| y) :: rest)) : Wk C h k n I pc Ls (.int y :: .int x :: rest) := by
  subst hp
  exact Wk.step (fun _ _ _ _ _ _ _ ha hx hby kt => XS.ior ha hx rfl (hb hby hd) rfl kt) r
theorem Wk.ixor {x y : Int32} (hd : decode C.b.code pc = .ok (.ixor, 1)) (hp : pc + 1 = pc') (r : Wk C h k n I pc' Ls (.int (x ^^^ y) :: rest)) : Wk C h k n I pc Ls (.int y :: .int x :: rest) := by
  subst hp
  exact Wk.step (fun _ _ _ _ _ _ _ ha hx hby kt => XS.ixor ha hx rfl (hb hby hd) rfl kt) r
theorem Wk.ishl {x y : Int32} (hd : decode C.b.code pc = .ok (.ishl, 1)) (hp : pc + 1 = pc') (r : Wk C h k n I pc' Ls (.int (x <<< (y &&& 31)) :: rest)) : Wk C h k n I pc Ls (.int y :: .int x :: rest) := by
  subst hp
  exact Wk.step (fun _ _ _ _ _ _ _ ha hx hby kt => XS.ishl ha hx rfl (hb hby hd) rfl kt) r
theorem Wk.ishr {x y : Int32} (hd : decode C.b.code pc = .ok (.ishr, 1)) (hp : pc + 1 = pc') (r : Wk C h k n I pc' Ls (.int (x >>> (y &&& 31)) :: rest)) : Wk C h k n I pc Ls (.int y :: .int x :: rest) := by
  subst hp
  exact Wk.step (fun _ _ _ _ _ _ _ ha hx hby kt => XS.ishr ha hx rfl (hb hby hd) rfl kt) r
theorem Wk.iushr {x y : Int32} (hd : decode C.b.code pc = .ok (.iushr, 1)) (hp : pc + 1 = pc') (r : Wk C h k n I pc' Ls (.int ((x.toUInt32 >>> (y &&& 31).toUInt32).toInt32) :: rest)) : Wk C h k n I pc Ls (.int y :: .int x :: rest) := by
  subst hp
  exact Wk.step (fun _ _ _ _ _ _ _ ha hx hby kt => XS.iushr ha hx rfl (hb hby hd) rfl kt) r
theorem Wk.ladd {x y : Int64} (hd : decode C.b.code pc = .ok (.ladd, 1)) (hp : pc + 1 = pc') (r : Wk C h k n I pc' Ls (.long (x + y) :: rest)) : Wk C h k n I pc Ls (.long y :: .long x :: rest) := by
  subst hp
  exact Wk.step (fun _ _ _ _ _ _ _ ha hx hby kt => XS.ladd ha hx rfl (hb hby hd) rfl kt) r
theorem Wk.lsub {x y : Int64} (hd : decode C.b.code pc = .ok (.lsub, 1)) (hp : pc + 1 = pc') (r : Wk C h k n I pc' Ls (.long (x - y) :: rest)) : Wk C h k n I pc Ls (.long y :: .long x :: rest) := by
  subst hp
  exact Wk.step (fun _ _ _ _ _ _ _ ha hx hby kt => XS.lsub ha hx rfl (hb hby hd) rfl kt) r
theorem Wk.lmul {x y : Int64} (hd : decode C.b.code pc = .ok (.lmul, 1)) (hp : pc + 1 = pc') (r : Wk C h k n I pc' Ls (.long (x * y) :: rest)) : Wk C h k n I pc Ls (.long y :: .long x :: rest) := by
  subst hp
  exact Wk.step (fun _ _ _ _ _ _ _ ha hx hby kt => XS.lmul ha hx rfl (hb hby hd) rfl kt) r
theorem Wk.land {x y : Int64} (hd : decode C.b.code pc = .ok (.land, 1)) (hp : pc + 1 = pc') (r : Wk C h k n I pc' Ls (.long (x &&& y) :: rest)) : Wk C h k n I pc Ls (.long y :: .long x :: rest) := by
  subst hp
  exact Wk.step (fun _ _ _ _ _ _ _ ha hx hby kt => XS.land ha hx rfl (hb hby hd) rfl kt) r
theorem Wk.lor {x y : Int64} (hd : decode C.b.code pc = .ok (.lor, 1)) (hp : pc + 1 = pc') (r : Wk C h k n I pc' Ls (.long (x ||| y) :: rest)) : Wk C h k n I pc Ls (.long y :: .long x :: rest) := by
  subst hp
  exact Wk.step (fun _ _ _ _ _ _ _ ha hx hby kt => XS.lor ha hx rfl (hb hby hd) rfl kt) r
theorem Wk.lxor {x y : Int64} (hd : decode C.b.code pc = .ok (.lxor, 1)) (hp : pc + 1 = pc') (r : Wk C h k n I pc' Ls (.long (x ^^^ y) :: rest)) : Wk C h k n I pc Ls (.long y :: .long x :: rest) := by
  subst hp
  exact Wk.step (fun _ _ _ _ _ _ _ ha hx hby kt => XS.lxor ha hx rfl (hb hby hd) rfl kt) r
theorem Wk.lshl {x : Int64} {y : Int32} (hd : decode C.b.code pc = .ok (.lshl, 1)) (hp : pc + 1 = pc') (r : Wk C h k n I pc' Ls (.long (x <<< (y &&& 0x3f).toInt64) :: rest)) : Wk C h k n I pc Ls (.int y :: .long x :: rest) := by
  subst hp
  exact Wk.step (fun _ _ _ _ _ _ _ ha hx hby kt => XS.lshl ha hx rfl (hb hby hd) rfl kt) r
theorem Wk.lshr {x : Int64} {y : Int32} (hd : decode C.b.code pc = .ok (.lshr, 1)) (hp : pc + 1 = pc') (r : Wk C h k n I pc' Ls (.long (x >>> (y &&& 0x3f).toInt64) :: rest)) : Wk C h k n I pc Ls (.int y :: .long x :: rest) := by
  subst hp
  exact Wk.step (fun _ _ _ _ _ _ _ ha hx hby kt => XS.lshr ha hx rfl (hb hby hd) rfl kt) r
theorem Wk.lushr {x : Int64} {y : Int32} (hd : decode C.b.code pc = .ok (.lushr, 1)) (hp : pc + 1 = pc') (r : Wk C h k n I pc' Ls (.long ((x.toUInt64 >>> (y &&& 0x3f).toInt64.toUInt64).toInt64) :: rest)) : Wk C h k n I pc Ls (.int y :: .long x :: rest) := by
  subst hp
  exact Wk.step (fun _ _ _ _ _ _ _ ha hx hby kt => XS.lushr ha hx rfl (hb hby hd) rfl kt) r
theorem Wk.idiv {x y : Int32} (hd : decode C.b.code pc = .ok (.idiv, 1)) (hp : pc + 1 = pc') (hy : y ≠ 0) (r : Wk C h k n I pc' Ls (.int (x / y) :: rest)) : Wk C h k n I pc Ls (.int y :: .int x :: rest) := by
  subst hp
  exact Wk.step (fun _ _ _ _ _ _ _ ha hx hby kt => XS.idiv ha hx rfl (hb hby hd) rfl hy kt) r
theorem Wk.ldiv {x y : Int64} (hd : decode C.b.code pc = .ok (.ldiv, 1)) (hp : pc + 1 = pc') (hy : y ≠ 0) (r : Wk C h k n I pc' Ls (.long (x / y) :: rest)) : Wk C h k n I pc Ls (.long y :: .long x :: rest) := by
  subst hp
  exact Wk.step (fun _ _ _ _ _ _ _ ha hx hby kt => XS.ldiv ha hx rfl (hb hby hd) rfl hy kt) r
theorem Wk.lrem {x y : Int64} (hd : decode C.b.code pc = .ok (.lrem, 1)) (hp : pc + 1 = pc') (hy : y ≠ 0) (r : Wk C h k n I pc' Ls (.long (x - (x / y) * y) :: rest)) : Wk C h k n I pc Ls (.long y :: .long x :: rest) := by
  subst hp
  exact Wk.step (fun _ _ _ _ _ _ _ ha hx hby kt => XS.lrem ha hx rfl (hb hby hd) rfl hy kt) r
theorem Wk.ineg {x : Int32} (hd : decode C.b.code pc = .ok (.ineg, 1)) (hp : pc + 1 = pc') (r : Wk C h k n I pc' Ls (.int (-x) :: rest)) : Wk C h k n I pc Ls (.int x :: rest) := by
  subst hp
  exact Wk.step (fun _ _ _ _ _ _ _ ha hx hby kt => XS.ineg ha hx rfl (hb hby hd) rfl kt) r
theorem Wk.lneg {x : Int64} (hd : decode C.b.code pc = .ok (.lneg, 1)) (hp : pc + 1 = pc') (r : Wk C h k n I pc' Ls (.long (-x) :: rest)) : Wk C h k n I pc Ls (.long x :: rest) := by
  subst hp
  exact Wk.step (fun _ _ _ _ _ _ _ ha hx hby kt => XS.lneg ha hx rfl (hb hby hd) rfl kt) r
theorem Wk.i2l {x : Int32} (hd : decode C.b.code pc = .ok (.i2l, 1)) (hp : pc + 1 = pc') (r : Wk C h k n I pc' Ls (.long x.toInt64 :: rest)) : Wk C h k n I pc Ls (.int x :: rest) := by
  subst hp
  exact Wk.step (fun _ _ _ _ _ _ _ ha hx hby kt => XS.i2l ha hx rfl (hb hby hd) rfl kt) r
theorem Wk.l2i {x : Int64} (hd : decode C.b.code pc = .ok (.l2i, 1)) (hp : pc + 1 = pc') (r : Wk C h k n I pc' Ls (.int x.toInt32 :: rest)) : Wk C h k n I pc Ls (.long x :: rest) := by
  subst hp
  exact Wk.step (fun _ _ _ _ _ _ _ ha hx hby kt => XS.l2i ha hx rfl (hb hby hd) rfl kt) r
theorem Wk.i2b {x : Int32} (hd : decode C.b.code pc = .ok (.i2b, 1)) (hp : pc + 1 = pc') (r : Wk C h k n I pc' Ls (.int x.toInt8.toInt32 :: rest)) : Wk C h k n I pc Ls (.int x :: rest) := by
  subst hp
  exact Wk.step (fun _ _ _ _ _ _ _ ha hx hby kt => XS.i2b ha hx rfl (hb hby hd) rfl kt) r
theorem Wk.i2c {x : Int32} (hd : decode C.b.code pc = .ok (.i2c, 1)) (hp : pc + 1 = pc') (r : Wk C h k n I pc' Ls (.int x.toUInt32.toUInt16.toUInt32.toInt32 :: rest)) : Wk C h k n I pc Ls (.int x :: rest) := by
  subst hp
  exact Wk.step (fun _ _ _ _ _ _ _ ha hx hby kt => XS.i2c ha hx rfl (hb hby hd) rfl kt) r
theorem Wk.i2s {x : Int32} (hd : decode C.b.code pc = .ok (.i2s, 1)) (hp : pc + 1 = pc') (r : Wk C h k n I pc' Ls (.int x.toInt16.toInt32 :: rest)) : Wk C h k n I pc Ls (.int x :: rest) := by
  subst hp
  exact Wk.step (fun _ _ _ _ _ _ _ ha hx hby kt => XS.i2s ha hx rfl (hb hby hd) rfl kt) r
theorem Wk.lcmp {x y : Int64} (hd : decode C.b.code pc = .ok (.lcmp, 1)) (hp : pc + 1 = pc') (r : Wk C h k n I pc' Ls (.int (lcmpW x y) :: rest)) : Wk C h k n I pc Ls (.long y :: .long x :: rest) := by
  subst hp
  exact Wk.step (fun _ _ _ _ _ _ _ ha hx hby kt => XS.lcmp ha hx rfl (hb hby hd) rfl kt) r
theorem Wk.dup {x : Value} (hd : decode C.b.code pc = .ok (.dup, 1)) (hp : pc + 1 = pc') (hc : x.category = 1) (r : Wk C h k n I pc' Ls (x :: x :: rest)) : Wk C h k n I pc Ls (x :: rest) := by
  subst hp
  exact Wk.step (fun _ _ _ _ _ _ _ ha hx hby kt => XS.dup ha hx rfl (hb hby hd) rfl hc kt) r
theorem Wk.dupX1 {x y : Value} (hd : decode C.b.code pc = .ok (.dup_x1, 1)) (hp : pc + 1 = pc') (hc : x.category = 1) (hc2 : y.category = 1) (r : Wk C h k n I pc' Ls (x :: y :: x :: rest)) : Wk C h k n I pc Ls (x :: y :: rest) := by
  subst hp
  exact Wk.step (fun _ _ _ _ _ _ _ ha hx hby kt => XS.dupX1 ha hx rfl (hb hby hd) rfl hc hc2 kt) r
theorem Wk.dup2 {x y : Value} (hd : decode C.b.code pc = .ok (.dup2, 1)) (hp : pc + 1 = pc') (hc : x.category = 1) (hc2 : y.category = 1) (r : Wk C h k n I pc' Ls (x :: y :: x :: y :: rest)) : Wk C h k n I pc Ls (x :: y :: rest) := by
  subst hp
  exact Wk.step (fun _ _ _ _ _ _ _ ha hx hby kt => Jvm.Free.XT.dup2 ha hx rfl (hb hby hd) rfl hc hc2 kt) r
theorem Wk.dup2L {x : Int64} (hd : decode C.b.code pc = .ok (.dup2, 1)) (hp : pc + 1 = pc') (r : Wk C h k n I pc' Ls (.long x :: .long x :: rest)) : Wk C h k n I pc Ls (.long x :: rest) := by
  subst hp
  exact Wk.step (fun _ _ _ _ _ _ _ ha hx hby kt => Jvm.Free.XT.dup2L ha hx rfl (hb hby hd) rfl kt) r
theorem Wk.pop {x : Value} (hd : decode C.b.code pc = .ok (.pop, 1)) (hp : pc + 1 = pc') (hc : x.category = 1) (r : Wk C h k n I pc' Ls (rest)) : Wk C h k n I pc Ls (x :: rest) := by
  subst hp
  exact Wk.step (fun _ _ _ _ _ _ _ ha hx hby kt => XS.pop ha hx rfl (hb hby hd) rfl hc kt) r
theorem Wk.swap {x y : Value} (hd : decode C.b.code pc = .ok (.swap, 1)) (hp : pc + 1 = pc') (hc : x.category = 1) (hc2 : y.category = 1) (r : Wk C h k n I pc' Ls (y :: x :: rest)) : Wk C h k n I pc Ls (x :: y :: rest) := by
  subst hp
  exact Wk.step (fun _ _ _ _ _ _ _ ha hx hby kt => XS.swap ha hx rfl (hb hby hd) rfl hc hc2 kt) r
theorem Wk.aconstNull  (hd : decode C.b.code pc = .ok (.aconst_null, 1)) (hp : pc + 1 = pc') (r : Wk C h k n I pc' Ls (.null :: st)) : Wk C h k n I pc Ls (st) := by
  subst hp
  exact Wk.step (fun _ _ _ _ _ _ _ ha hx hby kt => XS.aconstNull ha hx rfl (hb hby hd)  kt) r
theorem Wk.i2d {x : Int32} (hd : decode C.b.code pc = .ok (.i2d, 1)) (hp : pc + 1 = pc') (r : Wk C h k n I pc' Ls (.double (FP.i2d x) :: rest)) : Wk C h k n I pc Ls (.int x :: rest) := by
  subst hp
  exact Wk.step (fun _ _ _ _ _ _ _ ha hx hby kt => XS.i2dS ha hx rfl (hb hby hd) rfl rfl kt) r
theorem Wk.l2d {x : Int64} (hd : decode C.b.code pc = .ok (.l2d, 1)) (hp : pc + 1 = pc') (r : Wk C h k n I pc' Ls (.double (FP.l2d x) :: rest)) : Wk C h k n I pc Ls (.long x :: rest) := by
  subst hp
  exact Wk.step (fun _ _ _ _ _ _ _ ha hx hby kt => XS.l2dS ha hx rfl (hb hby hd) rfl rfl kt) r
theorem Wk.dadd {x y : UInt64} (hd : decode C.b.code pc = .ok (.dadd, 1)) (hp : pc + 1 = pc') (hn : Jvm.Free.Fl.NoNaN64 (FP.dadd x y)) (r : Wk C h k n I pc' Ls (.double (FP.dadd x y) :: rest)) : Wk C h k n I pc Ls (.double y :: .double x :: rest) := by
  subst hp
  exact Wk.step (fun _ _ _ _ _ _ _ ha hx hby kt => XS.daddS ha hx rfl (hb hby hd) rfl hn rfl kt) r
theorem Wk.dcmpl {x y : UInt64} (hd : decode C.b.code pc = .ok (.dcmp .l, 1)) (hp : pc + 1 = pc') (r : Wk C h k n I pc' Ls (.int (cmpValue (FP.dcmp x y) .l) :: rest)) : Wk C h k n I pc Ls (.double y :: .double x :: rest) := by
  subst hp
  exact Wk.step (fun _ _ _ _ _ _ _ ha hx hby kt => XS.dcmpS ha hx rfl (hb hby hd) rfl rfl kt) r
theorem Wk.iconst {i : Int} {v : Int32} (hd : decode C.b.code pc = .ok (.iconst i, 1)) (hp : pc + 1 = pc') (hv : Int32.ofInt i = v) (r : Wk C h k n I pc' Ls (.int v :: st)) : Wk C h k n I pc Ls st := by
  subst hp hv
  exact Wk.step (fun _ _ _ _ _ _ _ ha hx hby kt => XS.iconst ha hx rfl (hb hby hd) kt) r
theorem Wk.bipush {i : Int} {v : Int32} (hd : decode C.b.code pc = .ok (.bipush i, 2)) (hp : pc + 2 = pc') (hv : (Int8.ofInt i).toInt32 = v) (r : Wk C h k n I pc' Ls (.int v :: st)) : Wk C h k n I pc Ls st := by
  subst hp hv
  exact Wk.step (fun _ _ _ _ _ _ _ ha hx hby kt => XS.bipush ha hx rfl (hb hby hd) kt) r
theorem Wk.sipush {i : Int} {v : Int32} (hd : decode C.b.code pc = .ok (.sipush i, 3)) (hp : pc + 3 = pc') (hv : (Int16.ofInt i).toInt32 = v) (r : Wk C h k n I pc' Ls (.int v :: st)) : Wk C h k n I pc Ls st := by
  subst hp hv
  exact Wk.step (fun _ _ _ _ _ _ _ ha hx hby kt => XS.sipush ha hx rfl (hb hby hd) kt) r
theorem Wk.lconst {i : Fin 2} {v : Int64} (hd : decode C.b.code pc = .ok (.lconst i, 1)) (hp : pc + 1 = pc') (hv : Int64.ofNat i = v) (r : Wk C h k n I pc' Ls (.long v :: st)) : Wk C h k n I pc Ls st := by
  subst hp hv
  exact Wk.step (fun _ _ _ _ _ _ _ ha hx hby kt => XS.lconst ha hx rfl (hb hby hd) kt) r
theorem Wk.iinc {j : Nat} {i : Int} {v x : Int32} (hd : decode C.b.code pc = .ok (.iinc j i, 3)) (hp : pc + 3 = pc') (hv : Int32.ofInt i = v) (hl : Ls[j]? = some (.val (.int x))) (hl' : storeLocals Ls j (.int (x + v)) = some Ls') (r : Wk C h k n I pc' Ls' st) : Wk C h k n I pc Ls st := by
  subst hp hv
  exact Wk.step (fun _ _ _ _ _ _ _ ha hx hby kt => XS.iinc ha hx rfl (hb hby hd) hl hl' kt) r
theorem Wk.goto {o : Int} (hd : decode C.b.code pc = .ok (.goto o, 3)) (hp : (pc : Int) + o = (pc' : Int)) (r : Wk C h k n I pc' Ls st) : Wk C h k n I pc Ls st :=
  Wk.step (fun _ _ _ _ _ _ _ ha hx hby kt => XS.goto (pc0 := pc) (pc' := pc') ha hx rfl rfl (hb hby hd) (by omega) (by omega) kt) r
theorem Wk.irem {x y : Int32} (hd : decode C.b.code pc = .ok (.irem, 1)) (hp : pc + 1 = pc') (hy : y ≠ 0) (r : Wk C h k n I pc' Ls (.int (x % y) :: rest)) : Wk C h k n I pc Ls (.int y :: .int x :: rest) := by
  subst hp
  refine Wk.law (fun p e s vm0 m args below meth c T locs k0 S => ⟨T, S.2.2.2.1, S.2.2.2.2.1, fun t kt => ?_⟩) r
  exact iremM S.2.2.2.1 S.1.1 rfl (hb S.1.2.1 hd) rfl hy kt
theorem Wk.iloadN {j : Fin 4} {v : Int32} (hd : decode C.b.code pc = .ok (.iload_n j, 1)) (hp : pc + 1 = pc') (hl : Ls[j.val]? = some (.val (.int v))) (r : Wk C h k n I pc' Ls (.int v :: st)) : Wk C h k n I pc Ls st := by
  subst hp
  exact Wk.step (fun _ _ _ _ _ _ _ ha hx hby kt => XS.iloadN ha hx rfl (hb hby hd) hl kt) r
theorem Wk.iload {j : Nat} {v : Int32} (hd : decode C.b.code pc = .ok (.iload j, 2)) (hp : pc + 2 = pc') (hl : Ls[j]? = some (.val (.int v))) (r : Wk C h k n I pc' Ls (.int v :: st)) : Wk C h k n I pc Ls st := by
  subst hp
  exact Wk.step (fun _ _ _ _ _ _ _ ha hx hby kt => XS.iload ha hx rfl (hb hby hd) hl kt) r
theorem Wk.lloadN {j : Fin 4} {v : Int64} (hd : decode C.b.code pc = .ok (.lload_n j, 1)) (hp : pc + 1 = pc') (hl : Ls[j.val]? = some (.val (.long v))) (r : Wk C h k n I pc' Ls (.long v :: st)) : Wk C h k n I pc Ls st := by
  subst hp
  exact Wk.step (fun _ _ _ _ _ _ _ ha hx hby kt => XS.lloadN ha hx rfl (hb hby hd) hl kt) r
theorem Wk.lload {j : Nat} {v : Int64} (hd : decode C.b.code pc = .ok (.lload j, 2)) (hp : pc + 2 = pc') (hl : Ls[j]? = some (.val (.long v))) (r : Wk C h k n I pc' Ls (.long v :: st)) : Wk C h k n I pc Ls st := by
  subst hp
  exact Wk.step (fun _ _ _ _ _ _ _ ha hx hby kt => XS.lload ha hx rfl (hb hby hd) hl kt) r
theorem Wk.dloadN {j : Fin 4} {v : UInt64} (hd : decode C.b.code pc = .ok (.dload_n j, 1)) (hp : pc + 1 = pc') (hl : Ls[j.val]? = some (.val (.double v))) (r : Wk C h k n I pc' Ls (.double v :: st)) : Wk C h k n I pc Ls st := by
  subst hp
  exact Wk.step (fun _ _ _ _ _ _ _ ha hx hby kt => XS.dloadN ha hx rfl (hb hby hd) hl kt) r
theorem Wk.dload {j : Nat} {v : UInt64} (hd : decode C.b.code pc = .ok (.dload j, 2)) (hp : pc + 2 = pc') (hl : Ls[j]? = some (.val (.double v))) (r : Wk C h k n I pc' Ls (.double v :: st)) : Wk C h k n I pc Ls st := by
  subst hp
  exact Wk.step (fun _ _ _ _ _ _ _ ha hx hby kt => XS.dload ha hx rfl (hb hby hd) hl kt) r
theorem Wk.aloadN {j : Fin 4} {v : Value} (hd : decode C.b.code pc = .ok (.aload_n j, 1)) (hp : pc + 1 = pc') (hl : Ls[j.val]? = some (.val v)) (hv : v.isRef = true) (r : Wk C h k n I pc' Ls (v :: st)) : Wk C h k n I pc Ls st := by
  subst hp
  exact Wk.step (fun _ _ _ _ _ _ _ ha hx hby kt => XS.aloadN ha hx rfl (hb hby hd) hl hv kt) r
theorem Wk.aload {j : Nat} {v : Value} (hd : decode C.b.code pc = .ok (.aload j, 2)) (hp : pc + 2 = pc') (hl : Ls[j]? = some (.val v)) (hv : v.isRef = true) (r : Wk C h k n I pc' Ls (v :: st)) : Wk C h k n I pc Ls st := by
  subst hp
  exact Wk.step (fun _ _ _ _ _ _ _ ha hx hby kt => XS.aload ha hx rfl (hb hby hd) hl hv kt) r
theorem Wk.istoreN {j : Fin 4} {v : Int32} (Ls' : Array Slot) (hd : decode C.b.code pc = .ok (.istore_n j, 1)) (hp : pc + 1 = pc') (hl : storeLocals Ls j.val (.int v) = some Ls') (r : Wk C h k n I pc' Ls' st) : Wk C h k n I pc Ls (.int v :: st) := by
  subst hp
  exact Wk.step (fun _ _ _ _ _ _ _ ha hx hby kt => XS.istoreN ha hx rfl (hb hby hd) rfl hl kt) r
theorem Wk.istore {j : Nat} {v : Int32} (Ls' : Array Slot) (hd : decode C.b.code pc = .ok (.istore j, 2)) (hp : pc + 2 = pc') (hl : storeLocals Ls j (.int v) = some Ls') (r : Wk C h k n I pc' Ls' st) : Wk C h k n I pc Ls (.int v :: st) := by
  subst hp
  exact Wk.step (fun _ _ _ _ _ _ _ ha hx hby kt => XS.istore ha hx rfl (hb hby hd) rfl hl kt) r
theorem Wk.lstoreN {j : Fin 4} {v : Int64} (Ls' : Array Slot) (hd : decode C.b.code pc = .ok (.lstore_n j, 1)) (hp : pc + 1 = pc') (hl : storeLocals Ls j.val (.long v) = some Ls') (r : Wk C h k n I pc' Ls' st) : Wk C h k n I pc Ls (.long v :: st) := by
  subst hp
  exact Wk.step (fun _ _ _ _ _ _ _ ha hx hby kt => XS.lstoreN ha hx rfl (hb hby hd) rfl hl kt) r
theorem Wk.lstore {j : Nat} {v : Int64} (Ls' : Array Slot) (hd : decode C.b.code pc = .ok (.lstore j, 2)) (hp : pc + 2 = pc') (hl : storeLocals Ls j (.long v) = some Ls') (r : Wk C h k n I pc' Ls' st) : Wk C h k n I pc Ls (.long v :: st) := by
  subst hp
  exact Wk.step (fun _ _ _ _ _ _ _ ha hx hby kt => XS.lstore ha hx rfl (hb hby hd) rfl hl kt) r
theorem Wk.dstoreN {j : Fin 4} {v : UInt64} (Ls' : Array Slot) (hd : decode C.b.code pc = .ok (.dstore_n j, 1)) (hp : pc + 1 = pc') (hl : storeLocals Ls j.val (.double v) = some Ls') (r : Wk C h k n I pc' Ls' st) : Wk C h k n I pc Ls (.double v :: st) := by
  subst hp
  exact Wk.step (fun _ _ _ _ _ _ _ ha hx hby kt => XS.dstoreN ha hx rfl (hb hby hd) rfl hl kt) r
theorem Wk.dstore {j : Nat} {v : UInt64} (Ls' : Array Slot) (hd : decode C.b.code pc = .ok (.dstore j, 2)) (hp : pc + 2 = pc') (hl : storeLocals Ls j (.double v) = some Ls') (r : Wk C h k n I pc' Ls' st) : Wk C h k n I pc Ls (.double v :: st) := by
  subst hp
  exact Wk.step (fun _ _ _ _ _ _ _ ha hx hby kt => XS.dstore ha hx rfl (hb hby hd) rfl hl kt) r
theorem Wk.astoreN {j : Fin 4} {v : Value} (Ls' : Array Slot) (hd : decode C.b.code pc = .ok (.astore_n j, 1)) (hp : pc + 1 = pc') (hv : v.isRef = true) (hl : storeLocals Ls j.val v = some Ls') (r : Wk C h k n I pc' Ls' st) : Wk C h k n I pc Ls (v :: st) := by
  subst hp
  exact Wk.step (fun _ _ _ _ _ _ _ ha hx hby kt => XS.astoreN ha hx rfl (hb hby hd) rfl hv hl kt) r
theorem Wk.astore {j : Nat} {v : Value} (Ls' : Array Slot) (hd : decode C.b.code pc = .ok (.astore j, 2)) (hp : pc + 2 = pc') (hv : v.isRef = true) (hl : storeLocals Ls j v = some Ls') (r : Wk C h k n I pc' Ls' st) : Wk C h k n I pc Ls (v :: st) := by
  subst hp
  exact Wk.step (fun _ _ _ _ _ _ _ ha hx hby kt => XS.astore ha hx rfl (hb hby hd) rfl hv hl kt) r
theorem Wk.icmp_eqY {x y : Int32} {o : Int} (hd : decode C.b.code pc = .ok (.if_icmp .eq o, 3)) (hp : (pc : Int) + o = (pc' : Int)) (hc : x = y) (r : Wk C h k n I pc' Ls st) : Wk C h k n I pc Ls (.int y :: .int x :: st) :=
  Wk.step (fun _ _ _ _ _ _ _ ha hx hby kt => XS.icmpYes (pc0 := pc) (pc' := pc') ha hx rfl rfl (hb hby hd) rfl ((teq hc).1) (by omega) (by omega) kt) r
theorem Wk.if_eqY {x : Int32} {o : Int} (hd : decode C.b.code pc = .ok (.ifCond .eq o, 3)) (hp : (pc : Int) + o = (pc' : Int)) (hc : x = (0 : Int32)) (r : Wk C h k n I pc' Ls st) : Wk C h k n I pc Ls (.int x :: st) :=
  Wk.step (fun _ _ _ _ _ _ _ ha hx hby kt => XS.ifYes (pc0 := pc) (pc' := pc') ha hx rfl rfl (hb hby hd) rfl ((if0 _ _).trans (teq hc).1) (by omega) (by omega) kt) r
theorem Wk.icmp_eqN {x y : Int32} {o : Int} (hd : decode C.b.code pc = .ok (.if_icmp .eq o, 3)) (hp : pc + 3 = pc') (hc : ¬ x = y) (r : Wk C h k n I pc' Ls st) : Wk C h k n I pc Ls (.int y :: .int x :: st) := by
  subst hp
  exact Wk.step (fun _ _ _ _ _ _ _ ha hx hby kt => XS.icmpNo ha hx rfl (hb hby hd) rfl ((feq hc).1) kt) r
theorem Wk.if_eqN {x : Int32} {o : Int} (hd : decode C.b.code pc = .ok (.ifCond .eq o, 3)) (hp : pc + 3 = pc') (hc : ¬ x = (0 : Int32)) (r : Wk C h k n I pc' Ls st) : Wk C h k n I pc Ls (.int x :: st) := by
  subst hp
  exact Wk.step (fun _ _ _ _ _ _ _ ha hx hby kt => XS.ifNo ha hx rfl (hb hby hd) rfl ((if0 _ _).trans (feq hc).1) kt) r
theorem Wk.icmp_neY {x y : Int32} {o : Int} (hd : decode C.b.code pc = .ok (.if_icmp .ne o, 3)) (hp : (pc : Int) + o = (pc' : Int)) (hc : ¬ x = y) (r : Wk C h k n I pc' Ls st) : Wk C h k n I pc Ls (.int y :: .int x :: st) :=
  Wk.step (fun _ _ _ _ _ _ _ ha hx hby kt => XS.icmpYes (pc0 := pc) (pc' := pc') ha hx rfl rfl (hb hby hd) rfl ((feq hc).2) (by omega) (by omega) kt) r
theorem Wk.if_neY {x : Int32} {o : Int} (hd : decode C.b.code pc = .ok (.ifCond .ne o, 3)) (hp : (pc : Int) + o = (pc' : Int)) (hc : ¬ x = (0 : Int32)) (r : Wk C h k n I pc' Ls st) : Wk C h k n I pc Ls (.int x :: st) :=
  Wk.step (fun _ _ _ _ _ _ _ ha hx hby kt => XS.ifYes (pc0 := pc) (pc' := pc') ha hx rfl rfl (hb hby hd) rfl ((if0 _ _).trans (feq hc).2) (by omega) (by omega) kt) r
theorem Wk.icmp_neN {x y : Int32} {o : Int} (hd : decode C.b.code pc = .ok (.if_icmp .ne o, 3)) (hp : pc + 3 = pc') (hc : x = y) (r : Wk C h k n I pc' Ls st) : Wk C h k n I pc Ls (.int y :: .int x :: st) := by
  subst hp
  exact Wk.step (fun _ _ _ _ _ _ _ ha hx hby kt => XS.icmpNo ha hx rfl (hb hby hd) rfl ((teq hc).2) kt) r
theorem Wk.if_neN {x : Int32} {o : Int} (hd : decode C.b.code pc = .ok (.ifCond .ne o, 3)) (hp : pc + 3 = pc') (hc : x = (0 : Int32)) (r : Wk C h k n I pc' Ls st) : Wk C h k n I pc Ls (.int x :: st) := by
  subst hp
  exact Wk.step (fun _ _ _ _ _ _ _ ha hx hby kt => XS.ifNo ha hx rfl (hb hby hd) rfl ((if0 _ _).trans (teq hc).2) kt) r
theorem Wk.icmp_ltY {x y : Int32} {o : Int} (hd : decode C.b.code pc = .ok (.if_icmp .lt o, 3)) (hp : (pc : Int) + o = (pc' : Int)) (hc : x < y) (r : Wk C h k n I pc' Ls st) : Wk C h k n I pc Ls (.int y :: .int x :: st) :=
  Wk.step (fun _ _ _ _ _ _ _ ha hx hby kt => XS.icmpYes (pc0 := pc) (pc' := pc') ha hx rfl rfl (hb hby hd) rfl ((tlt hc).1) (by omega) (by omega) kt) r
theorem Wk.if_ltY {x : Int32} {o : Int} (hd : decode C.b.code pc = .ok (.ifCond .lt o, 3)) (hp : (pc : Int) + o = (pc' : Int)) (hc : x < (0 : Int32)) (r : Wk C h k n I pc' Ls st) : Wk C h k n I pc Ls (.int x :: st) :=
  Wk.step (fun _ _ _ _ _ _ _ ha hx hby kt => XS.ifYes (pc0 := pc) (pc' := pc') ha hx rfl rfl (hb hby hd) rfl ((if0 _ _).trans (tlt hc).1) (by omega) (by omega) kt) r
theorem Wk.icmp_ltN {x y : Int32} {o : Int} (hd : decode C.b.code pc = .ok (.if_icmp .lt o, 3)) (hp : pc + 3 = pc') (hc : ¬ x < y) (r : Wk C h k n I pc' Ls st) : Wk C h k n I pc Ls (.int y :: .int x :: st) := by
  subst hp
  exact Wk.step (fun _ _ _ _ _ _ _ ha hx hby kt => XS.icmpNo ha hx rfl (hb hby hd) rfl ((flt hc).1) kt) r
theorem Wk.if_ltN {x : Int32} {o : Int} (hd : decode C.b.code pc = .ok (.ifCond .lt o, 3)) (hp : pc + 3 = pc') (hc : ¬ x < (0 : Int32)) (r : Wk C h k n I pc' Ls st) : Wk C h k n I pc Ls (.int x :: st) := by
  subst hp
  exact Wk.step (fun _ _ _ _ _ _ _ ha hx hby kt => XS.ifNo ha hx rfl (hb hby hd) rfl ((if0 _ _).trans (flt hc).1) kt) r
theorem Wk.icmp_geY {x y : Int32} {o : Int} (hd : decode C.b.code pc = .ok (.if_icmp .ge o, 3)) (hp : (pc : Int) + o = (pc' : Int)) (hc : ¬ x < y) (r : Wk C h k n I pc' Ls st) : Wk C h k n I pc Ls (.int y :: .int x :: st) :=
  Wk.step (fun _ _ _ _ _ _ _ ha hx hby kt => XS.icmpYes (pc0 := pc) (pc' := pc') ha hx rfl rfl (hb hby hd) rfl ((flt hc).2.1) (by omega) (by omega) kt) r
theorem Wk.if_geY {x : Int32} {o : Int} (hd : decode C.b.code pc = .ok (.ifCond .ge o, 3)) (hp : (pc : Int) + o = (pc' : Int)) (hc : ¬ x < (0 : Int32)) (r : Wk C h k n I pc' Ls st) : Wk C h k n I pc Ls (.int x :: st) :=
  Wk.step (fun _ _ _ _ _ _ _ ha hx hby kt => XS.ifYes (pc0 := pc) (pc' := pc') ha hx rfl rfl (hb hby hd) rfl ((if0 _ _).trans (flt hc).2.1) (by omega) (by omega) kt) r
theorem Wk.icmp_geN {x y : Int32} {o : Int} (hd : decode C.b.code pc = .ok (.if_icmp .ge o, 3)) (hp : pc + 3 = pc') (hc : x < y) (r : Wk C h k n I pc' Ls st) : Wk C h k n I pc Ls (.int y :: .int x :: st) := by
  subst hp
  exact Wk.step (fun _ _ _ _ _ _ _ ha hx hby kt => XS.icmpNo ha hx rfl (hb hby hd) rfl ((tlt hc).2.1) kt) r
theorem Wk.if_geN {x : Int32} {o : Int} (hd : decode C.b.code pc = .ok (.ifCond .ge o, 3)) (hp : pc + 3 = pc') (hc : x < (0 : Int32)) (r : Wk C h k n I pc' Ls st) : Wk C h k n I pc Ls (.int x :: st) := by
  subst hp
  exact Wk.step (fun _ _ _ _ _ _ _ ha hx hby kt => XS.ifNo ha hx rfl (hb hby hd) rfl ((if0 _ _).trans (tlt hc).2.1) kt) r
theorem Wk.icmp_gtY {x y : Int32} {o : Int} (hd : decode C.b.code pc = .ok (.if_icmp .gt o, 3)) (hp : (pc : Int) + o = (pc' : Int)) (hc : y < x) (r : Wk C h k n I pc' Ls st) : Wk C h k n I pc Ls (.int y :: .int x :: st) :=
  Wk.step (fun _ _ _ _ _ _ _ ha hx hby kt => XS.icmpYes (pc0 := pc) (pc' := pc') ha hx rfl rfl (hb hby hd) rfl ((tlt hc).2.2.1) (by omega) (by omega) kt) r
theorem Wk.if_gtY {x : Int32} {o : Int} (hd : decode C.b.code pc = .ok (.ifCond .gt o, 3)) (hp : (pc : Int) + o = (pc' : Int)) (hc : (0 : Int32) < x) (r : Wk C h k n I pc' Ls st) : Wk C h k n I pc Ls (.int x :: st) :=
  Wk.step (fun _ _ _ _ _ _ _ ha hx hby kt => XS.ifYes (pc0 := pc) (pc' := pc') ha hx rfl rfl (hb hby hd) rfl ((if0 _ _).trans (tlt hc).2.2.1) (by omega) (by omega) kt) r
theorem Wk.icmp_gtN {x y : Int32} {o : Int} (hd : decode C.b.code pc = .ok (.if_icmp .gt o, 3)) (hp : pc + 3 = pc') (hc : ¬ y < x) (r : Wk C h k n I pc' Ls st) : Wk C h k n I pc Ls (.int y :: .int x :: st) := by
  subst hp
  exact Wk.step (fun _ _ _ _ _ _ _ ha hx hby kt => XS.icmpNo ha hx rfl (hb hby hd) rfl ((flt hc).2.2.1) kt) r
theorem Wk.if_gtN {x : Int32} {o : Int} (hd : decode C.b.code pc = .ok (.ifCond .gt o, 3)) (hp : pc + 3 = pc') (hc : ¬ (0 : Int32) < x) (r : Wk C h k n I pc' Ls st) : Wk C h k n I pc Ls (.int x :: st) := by
  subst hp
  exact Wk.step (fun _ _ _ _ _ _ _ ha hx hby kt => XS.ifNo ha hx rfl (hb hby hd) rfl ((if0 _ _).trans (flt hc).2.2.1) kt) r
theorem Wk.icmp_leY {x y : Int32} {o : Int} (hd : decode C.b.code pc = .ok (.if_icmp .le o, 3)) (hp : (pc : Int) + o = (pc' : Int)) (hc : ¬ y < x) (r : Wk C h k n I pc' Ls st) : Wk C h k n I pc Ls (.int y :: .int x :: st) :=
  Wk.step (fun _ _ _ _ _ _ _ ha hx hby kt => XS.icmpYes (pc0 := pc) (pc' := pc') ha hx rfl rfl (hb hby hd) rfl ((flt hc).2.2.2) (by omega) (by omega) kt) r
theorem Wk.if_leY {x : Int32} {o : Int} (hd : decode C.b.code pc = .ok (.ifCond .le o, 3)) (hp : (pc : Int) + o = (pc' : Int)) (hc : ¬ (0 : Int32) < x) (r : Wk C h k n I pc' Ls st) : Wk C h k n I pc Ls (.int x :: st) :=
  Wk.step (fun _ _ _ _ _ _ _ ha hx hby kt => XS.ifYes (pc0 := pc) (pc' := pc') ha hx rfl rfl (hb hby hd) rfl ((if0 _ _).trans (flt hc).2.2.2) (by omega) (by omega) kt) r
theorem Wk.icmp_leN {x y : Int32} {o : Int} (hd : decode C.b.code pc = .ok (.if_icmp .le o, 3)) (hp : pc + 3 = pc') (hc : y < x) (r : Wk C h k n I pc' Ls st) : Wk C h k n I pc Ls (.int y :: .int x :: st) := by
  subst hp
  exact Wk.step (fun _ _ _ _ _ _ _ ha hx hby kt => XS.icmpNo ha hx rfl (hb hby hd) rfl ((tlt hc).2.2.2) kt) r
theorem Wk.if_leN {x : Int32} {o : Int} (hd : decode C.b.code pc = .ok (.ifCond .le o, 3)) (hp : pc + 3 = pc') (hc : (0 : Int32) < x) (r : Wk C h k n I pc' Ls st) : Wk C h k n I pc Ls (.int x :: st) := by
  subst hp
  exact Wk.step (fun _ _ _ _ _ _ _ ha hx hby kt => XS.ifNo ha hx rfl (hb hby hd) rfl ((if0 _ _).trans (tlt hc).2.2.2) kt) r
theorem Wk.ifnullY {o : Int} (hd : decode C.b.code pc = .ok (.ifnull o, 3)) (hp : (pc : Int) + o = (pc' : Int)) (r : Wk C h k n I pc' Ls st) : Wk C h k n I pc Ls (.null :: st) :=
  Wk.step (fun _ _ _ _ _ _ _ ha hx hby kt => XS.ifnullYes (pc0 := pc) (pc' := pc') ha hx rfl rfl (hb hby hd) rfl (by omega) (by omega) kt) r
theorem Wk.ifnullN {o : Int} {a : Addr} (hd : decode C.b.code pc = .ok (.ifnull o, 3)) (hp : pc + 3 = pc') (r : Wk C h k n I pc' Ls st) : Wk C h k n I pc Ls (.ref a :: st) := by
  subst hp
  exact Wk.step (fun _ _ _ _ _ _ _ ha hx hby kt => XS.ifnullNo ha hx rfl (hb hby hd) rfl kt) r
theorem Wk.ifnonnullY {o : Int} {a : Addr} (hd : decode C.b.code pc = .ok (.ifnonnull o, 3)) (hp : (pc : Int) + o = (pc' : Int)) (r : Wk C h k n I pc' Ls st) : Wk C h k n I pc Ls (.ref a :: st) :=
  Wk.step (fun _ _ _ _ _ _ _ ha hx hby kt => XS.ifnonnullYes (pc0 := pc) (pc' := pc') ha hx rfl rfl (hb hby hd) rfl (by omega) (by omega) kt) r
theorem Wk.ifnonnullN {o : Int} (hd : decode C.b.code pc = .ok (.ifnonnull o, 3)) (hp : pc + 3 = pc') (r : Wk C h k n I pc' Ls st) : Wk C h k n I pc Ls (.null :: st) := by
  subst hp
  exact Wk.step (fun _ _ _ _ _ _ _ ha hx hby kt => XS.ifnonnullNo ha hx rfl (hb hby hd) rfl kt) r
theorem Wk.acmp {cd : ACond} {o : Int} {u v : Value} {same : Bool} (hd : decode C.b.code pc = .ok (.if_acmp cd o, 3)) (hu : u.isRef = true) (hv : v.isRef = true) (hq : decide (u = v) = same) (ho : 0 ≤ (pc : Int) + o) (hp : pc' = if acV cd same = true then ((pc : Int) + o).toNat else pc + 3) (r : Wk C h k n I pc' Ls st) : Wk C h k n I pc Ls (v :: u :: st) :=
  Wk.law (fun p e s vm0 m args below meth c T locs k0 S => ⟨T, S.2.2.2.1, S.2.2.2.2.1, fun t kt => Jvm.RoadKit.acmp (g := mkF m pc Ls (v :: u :: st)) S.2.2.2.1 S.1.1 rfl hu hv (pc0 := pc) (pc' := pc') rfl (hb S.1.2.1 hd) rfl hq ho hp kt⟩) r
theorem Wk.getF {R0 O f d host : String} {idx : Nat} {a : Addr} {v : Value} (w : (Jvm.Cond.fieldLink C.b.y.cls idx R0 f d).before a0 C.Z = true ∨ (Jvm.Cond.fieldLinkNest C.b.y.cls idx R0 f d host).before a0 C.Z = true) (via : Via C.Z R0 O f d) (F : Fld C.Z h a O f d v) (hd : decode C.b.code pc = .ok (.getfield idx, 3)) (hp : pc + 3 = pc') (r : Wk C h k n I pc' Ls (v :: st)) : Wk C h k n I pc Ls (.ref a :: st) := by
  subst hp
  exact Wk.law (fun p e s vm0 m args below meth c T locs k0 S => Jvm.RoadKit.getF (g := mkF m pc Ls (.ref a :: st)) S.2.2.2.1 S.1.1 S.2.1.2.1 S.2.1.1 w via S.2.2.2.2.1 F rfl rfl (hb S.1.2.1 hd)) r
theorem Wk.getS {R0 O f d host : String} {idx : Nat} {v : Value} (w : (Jvm.Cond.fieldLink C.b.y.cls idx R0 f d).before a0 C.Z = true ∨ (Jvm.Cond.fieldLinkNest C.b.y.cls idx R0 f d host).before a0 C.Z = true) (via : Via C.Z R0 O f d) (F : Sta C.Z C.Z.heap O f d v) (hd : decode C.b.code pc = .ok (.getstatic idx, 3)) (hp : pc + 3 = pc') (r : Wk C h k n I pc' Ls (v :: st)) : Wk C h k n I pc Ls st := by
  subst hp
  exact Wk.law (fun p e s vm0 m args below meth c T locs k0 S => getS2 (g := mkF m pc Ls st) S.2.2.2.1 S.1.1 S.2.1.2.1 S.2.1.1 w via S.2.2.2.2.1 (F.ext S.2.2.2.2.2.1) rfl (hb S.1.2.1 hd)) r
theorem Wk.putF {R0 O f d host K : String} {idx kk : Nat} {a : Addr} {v old : Value} {ty : FieldType} (w : (Jvm.Cond.fieldLink C.b.y.cls idx R0 f d).before a0 C.Z = true ∨ (Jvm.Cond.fieldLinkNest C.b.y.cls idx R0 f d host).before a0 C.Z = true) (via : Via C.Z R0 O f d) (ha : C.N ≤ a) (F : Fld C.Z h a O f d old) (E : Exa C.Z h a K)
    (L : (Jvm.Cond.lays K O f d).before a0 C.Z = true ∨ ((Jvm.Cond.laysFinal K O f d).before a0 C.Z = true ∧ C.b.y.cls = O ∧ C.b.y.name = "<init>")) (wi : (Jvm.Cond.instantiable K kk).before a0 C.Z = true) (hty : parseFieldDescriptor d = some ty) (hn : narrow ty v = v) (hf : fits ty v = true) (hd : decode C.b.code pc = .ok (.putfield idx, 3)) (hp : pc + 3 = pc')
    (r : ∀ h', Wr h h' a (Jvm.RoadKit.slotOf C.Z O f d) v → Wk C h' k n I pc' Ls st) : Wk C h k n I pc Ls (v :: .ref a :: st) := by
  subst hp
  exact Wk.lawW ha (fun p e s vm0 m args below meth c T locs k0 S => Jvm.RoadKit.putF (g := mkF m pc Ls (v :: .ref a :: st)) S.2.2.2.1 S.1.1 S.2.1.2.1 S.2.1.1 w via S.2.2.2.2.1 F E (L.imp id fun q => ⟨q.1, q.2.1, S.1.2.2.2.2.2.1.trans q.2.2⟩) wi hty hn hf rfl rfl (hb S.1.2.1 hd)) r
theorem Wk.putFN {R0 O f d K : String} {idx kk : Nat} {a : Addr} {v v' old : Value} {ty : FieldType} (w : (Jvm.Cond.fieldLink C.b.y.cls idx R0 f d).before a0 C.Z = true) (via : Via C.Z R0 O f d) (ha : C.N ≤ a) (F : Fld C.Z h a O f d old) (E : Exa C.Z h a K)
    (L : (Jvm.Cond.lays K O f d).before a0 C.Z = true ∨ ((Jvm.Cond.laysFinal K O f d).before a0 C.Z = true ∧ C.b.y.cls = O ∧ C.b.y.name = "<init>")) (wi : (Jvm.Cond.instantiable K kk).before a0 C.Z = true) (hty : parseFieldDescriptor d = some ty) (hn : narrow ty v = v') (hf : fits ty v' = true) (hd : decode C.b.code pc = .ok (.putfield idx, 3)) (hp : pc + 3 = pc')
    (r : ∀ h', Wr h h' a (Jvm.RoadKit.slotOf C.Z O f d) v' → Wk C h' k n I pc' Ls st) : Wk C h k n I pc Ls (v :: .ref a :: st) := by
  subst hp
  exact Wk.lawW ha (fun p e s vm0 m args below meth c T locs k0 S => Jvm.RoadKit.putFN (g := mkF m pc Ls (v :: .ref a :: st)) S.2.2.2.1 S.1.1 S.2.1.2.1 S.2.1.1 w via S.2.2.2.2.1 F E (L.imp id fun q => ⟨q.1, q.2.1, S.1.2.2.2.2.2.1.trans q.2.2⟩) wi hty hn hf rfl rfl (hb S.1.2.1 hd)) r
theorem Wk.newO {K : String} {idx j : Nat} (w : (Jvm.Cond.classLink C.b.y.cls idx K).before a0 C.Z = true) (wi : (Jvm.Cond.instantiable K j).before a0 C.Z = true) (wz : (Jvm.Cond.initialized K).before a0 C.Z = true) (hd : decode C.b.code pc = .ok (.new idx, 3)) (hp : pc + 3 = pc') (hk : k + 1 = k') (hn : n + j = n') (hc : k' ≤ C.b.room.cells) (hl : n' ≤ C.b.room.slots)
    (r : ∀ a h', h.size ≤ a → C.N ≤ a → Ext h h' → Exa C.Z h' a K → (∀ {O nm d : String} {ty : FieldType}, Laid C.Z a0 K O nm d → parseFieldDescriptor d = some ty → Fld C.Z h' a O nm d (defaultValue ty)) → Wk C h' k' n' I pc' Ls (.ref a :: st)) : Wk C h k n I pc Ls st := by
  subst hp hk hn
  refine Wk.see fun _ z2 _ => ?_
  refine Wk.lawE (P := fun h' => Exa C.Z h' h.size K ∧ ∀ {O nm d : String} {ty : FieldType}, Laid C.Z a0 K O nm d → parseFieldDescriptor d = some ty → Fld C.Z h' h.size O nm d (defaultValue ty)) (fun p e s vm0 m args below meth c T locs k0 S => ?_) (fun h' E q => r h.size h' (Nat.le_refl _) z2 E q.1 q.2)
  obtain ⟨T', h', X', e', E, A, D, -, st⟩ := Jvm.RoadKit.newO (g := mkF m pc Ls st) S.2.2.2.1 S.1.1 S.2.1.2.1 S.2.1.1 w wi wz S.2.2.2.2.1 rfl (hb S.1.2.1 hd) hc hl
  exact ⟨T', h', X', e', E, ⟨A, D⟩, st⟩
theorem Wk.initO {idx W : Nat} {a : Addr} (w1 : (Jvm.Cond.methodLink C.b.y.cls idx Lib.objectInit).before a0 C.Z = true) (w2 : (Jvm.Cond.instanceMethod Lib.objectInit).before a0 C.Z = true) (w3 : (Jvm.Cond.code Lib.objectInit ⟨#[0xb1]⟩ 1 none).before a0 C.Z = true) (hsz : Ls.size = C.b.maxL) (hd : decode C.b.code pc = .ok (.invokespecial idx, 3)) (hp : pc + 3 = pc') (hf : 1 ≤ C.b.room.frames) (hW : (st.map fun v => v.category).sum ≤ W) (hl : W + 12 ≤ C.b.room.locals)
    (r : Wk C h k n I pc' Ls st) : Wk C h k n I pc Ls (.ref a :: st) := by
  subst hp
  exact Wk.law (fun p e s vm0 m args below meth c T locs k0 S => Jvm.RoadKit.initO (g := mkF m pc Ls (.ref a :: st)) S.2.2.2.1 S.1.1 S.2.1.2.1 S.2.1.1 w1 w2 w3 S.2.2.2.2.1 rfl (hsz.trans S.1.2.2.1.symm) rfl (hb S.1.2.1 hd) hf (W := W) (by show 2 * 0 + _ ≤ _; omega) hl) r
theorem Wk.newP {aty : ArrayType} {z : Int32} {cap : Nat} (w : (Jvm.Cond.arrayClass (newarray.typeOf aty)).before a0 C.Z = true) (hd : decode C.b.code pc = .ok (.newarray aty, 2)) (hp : pc + 2 = pc') (hz : ¬ z < 0) (hcap : z.toNatClampNeg ≤ cap) (hbg : cap * 8 ≤ 536870912) (hk : k + 1 = k') (hn : n + cap = n') (hc : k' ≤ C.b.room.cells) (hl : n' ≤ C.b.room.slots)
    (r : ∀ a h' q, h.size ≤ a → C.N ≤ a → Ext h h' → Arv C.Z h' a q (newarray.typeOf aty) z [] (defaultValue (newarray.typeOf aty)) → Wk C h' k' n' I pc' Ls (.ref a :: st)) : Wk C h k n I pc Ls (.int z :: st) := by
  subst hp hk hn
  refine Wk.see fun _ z2 _ => ?_
  refine Wk.lawE (P := fun h' => ∃ q, Arv C.Z h' h.size q (newarray.typeOf aty) z [] (defaultValue (newarray.typeOf aty))) (fun p e s vm0 m args below meth c T locs k0 S => ?_) (fun h' E ⟨q, A⟩ => r h.size h' q (Nat.le_refl _) z2 E A)
  obtain ⟨T', h', cA, X', e', E, A, st⟩ := Jvm.RoadKit.newP (g := mkF m pc Ls (.int z :: st)) S.2.2.2.1 S.1.1 S.2.1.2.1 w S.2.2.2.2.1 rfl (hb S.1.2.1 hd) rfl hz hcap hbg hc hl
  exact ⟨T', h', X', e', E, ⟨cA, Arv.new A hz⟩, st⟩
theorem Wk.newR {K : String} {idx : Nat} {z : Int32} {cap : Nat} (w1 : (Jvm.Cond.classLink C.b.y.cls idx K).before a0 C.Z = true) (w2 : (Jvm.Cond.arrayOver (.object K)).before a0 C.Z = true) (hd : decode C.b.code pc = .ok (.anewarray idx, 3)) (hp : pc + 3 = pc') (hz : ¬ z < 0) (hcap : z.toNatClampNeg ≤ cap) (hbg : cap * 8 ≤ 536870912) (hk : k + 1 = k') (hn : n + cap = n') (hc : k' ≤ C.b.room.cells) (hl : n' ≤ C.b.room.slots) {ad : String} (had : "[" ++ (FieldType.object K).toString = ad)
    (r : ∀ a h' q, h.size ≤ a → C.N ≤ a → Ext h h' → Arv C.Z h' a q (.object K) z [] .null → Exa C.Z h' a ad → Ovr C.Z q K → Wk C h' k' n' I pc' Ls (.ref a :: st)) : Wk C h k n I pc Ls (.int z :: st) := by
  subst hp hk hn
  refine Wk.see fun _ z2 _ => ?_
  refine Wk.lawE (P := fun h' => ∃ q, Arv C.Z h' h.size q (.object K) z [] .null ∧ Exa C.Z h' h.size ad ∧ Ovr C.Z q K) (fun p e s vm0 m args below meth c T locs k0 S => ?_) (fun h' E ⟨q, A, B, D⟩ => r h.size h' q (Nat.le_refl _) z2 E A B D)
  obtain ⟨T', h', cA, X', e', E, A, B, D, st⟩ := newRE (g := mkF m pc Ls (.int z :: st)) S.2.2.2.1 S.1.1 S.2.1.2.1 S.2.1.1 w1 w2 S.2.2.2.2.1 rfl (hb S.1.2.1 hd) rfl hz hcap hbg hc hl had
  exact ⟨T', h', X', e', E, ⟨cA, Arv.new A hz, B, D⟩, st⟩
theorem Wk.arraylength {a : Addr} {q : ClassId} {ty : FieldType} {z : Int32} {vs : List Value} {dv : Value} (V : Arv C.Z h a q ty z vs dv) (hd : decode C.b.code pc = .ok (.arraylength, 1)) (hp : pc + 1 = pc') (r : Wk C h k n I pc' Ls (.int z :: st)) : Wk C h k n I pc Ls (.ref a :: st) := by
  subst hp
  obtain ⟨c, A, q1, q2, q3, q4, q5⟩ := V
  refine Wk.law (fun p e s vm0 m args below meth cc T locs k0 S => ⟨T, S.2.2.2.1, S.2.2.2.2.1, fun t kt => ?_⟩) r
  refine S.2.2.2.1.arraylength (g := mkF m pc Ls (.ref a :: st)) S.1.1 (by rw [S.2.2.2.2.1]; exact A.1) (State.isArrayOf_alike S.2.1.2.1.alike A.2.1) rfl rfl (hb S.1.2.1 hd) t ?_
  rw [len_of q2 q3]
  exact kt
theorem Wk.iaload {a : Addr} {q : ClassId} {z j : Int32} {vs : List Value} {dv v : Value} (V : Arv C.Z h a q .int z vs dv) (hj : ¬ j < 0 ∧ j < z) (hv : vs.getD j.toNatClampNeg dv = v) (hd : decode C.b.code pc = .ok (.iaload, 1)) (hp : pc + 1 = pc') (r : Wk C h k n I pc' Ls (v :: st)) : Wk C h k n I pc Ls (.int j :: .ref a :: st) := by
  subst hp
  obtain ⟨c, A, q1, q2, q3, q4, q5⟩ := V
  have hin := inb_of q2 hj
  refine Wk.law (fun p e s vm0 m args below meth cc T locs k0 S => ⟨T, S.2.2.2.1, S.2.2.2.2.1, fun t kt => ?_⟩) r
  exact S.2.2.2.1.iaload (g := mkF m pc Ls (.int j :: .ref a :: st)) S.1.1 (by rw [S.2.2.2.2.1]; exact A.1) (State.isArrayOf_alike S.2.1.2.1.alike A.2.1) A.2.2 hin (q4.at hin hv) rfl rfl (hb S.1.2.1 hd) t kt
theorem Wk.laload {a : Addr} {q : ClassId} {z j : Int32} {vs : List Value} {dv v : Value} (V : Arv C.Z h a q .long z vs dv) (hj : ¬ j < 0 ∧ j < z) (hv : vs.getD j.toNatClampNeg dv = v) (hd : decode C.b.code pc = .ok (.laload, 1)) (hp : pc + 1 = pc') (r : Wk C h k n I pc' Ls (v :: st)) : Wk C h k n I pc Ls (.int j :: .ref a :: st) := by
  subst hp
  obtain ⟨c, A, q1, q2, q3, q4, q5⟩ := V
  have hin := inb_of q2 hj
  refine Wk.law (fun p e s vm0 m args below meth cc T locs k0 S => ⟨T, S.2.2.2.1, S.2.2.2.2.1, fun t kt => ?_⟩) r
  exact S.2.2.2.1.laload (g := mkF m pc Ls (.int j :: .ref a :: st)) S.1.1 (by rw [S.2.2.2.2.1]; exact A.1) (State.isArrayOf_alike S.2.1.2.1.alike A.2.1) A.2.2 hin (q4.at hin hv) rfl rfl (hb S.1.2.1 hd) t kt
theorem Wk.caload {a : Addr} {q : ClassId} {z j : Int32} {vs : List Value} {dv v : Value} (V : Arv C.Z h a q .char z vs dv) (hj : ¬ j < 0 ∧ j < z) (hv : vs.getD j.toNatClampNeg dv = v) (hd : decode C.b.code pc = .ok (.caload, 1)) (hp : pc + 1 = pc') (r : Wk C h k n I pc' Ls (v :: st)) : Wk C h k n I pc Ls (.int j :: .ref a :: st) := by
  subst hp
  obtain ⟨c, A, q1, q2, q3, q4, q5⟩ := V
  have hin := inb_of q2 hj
  refine Wk.law (fun p e s vm0 m args below meth cc T locs k0 S => ⟨T, S.2.2.2.1, S.2.2.2.2.1, fun t kt => ?_⟩) r
  exact S.2.2.2.1.caload (g := mkF m pc Ls (.int j :: .ref a :: st)) S.1.1 (by rw [S.2.2.2.2.1]; exact A.1) (State.isArrayOf_alike S.2.1.2.1.alike A.2.1) A.2.2 hin (q4.at hin hv) rfl rfl (hb S.1.2.1 hd) t kt
theorem Wk.baload {a : Addr} {q : ClassId} {z j : Int32} {vs : List Value} {dv v : Value} (V : Arv C.Z h a q .byte z vs dv) (hj : ¬ j < 0 ∧ j < z) (hv : vs.getD j.toNatClampNeg dv = v) (hd : decode C.b.code pc = .ok (.baload, 1)) (hp : pc + 1 = pc') (r : Wk C h k n I pc' Ls (v :: st)) : Wk C h k n I pc Ls (.int j :: .ref a :: st) := by
  subst hp
  obtain ⟨c, A, q1, q2, q3, q4, q5⟩ := V
  have hin := inb_of q2 hj
  refine Wk.law (fun p e s vm0 m args below meth cc T locs k0 S => ⟨T, S.2.2.2.1, S.2.2.2.2.1, fun t kt => ?_⟩) r
  exact S.2.2.2.1.baloadBytes (g := mkF m pc Ls (.int j :: .ref a :: st)) S.1.1 (by rw [S.2.2.2.2.1]; exact A.1) (State.isArrayOf_alike S.2.1.2.1.alike A.2.1) A.2.2 hin (q4.at hin hv) rfl rfl (hb S.1.2.1 hd) t kt
theorem Wk.zaload {a : Addr} {q : ClassId} {z j : Int32} {vs : List Value} {dv v : Value} (V : Arv C.Z h a q .boolean z vs dv) (hj : ¬ j < 0 ∧ j < z) (hv : vs.getD j.toNatClampNeg dv = v) (hd : decode C.b.code pc = .ok (.baload, 1)) (hp : pc + 1 = pc') (r : Wk C h k n I pc' Ls (v :: st)) : Wk C h k n I pc Ls (.int j :: .ref a :: st) := by
  subst hp
  obtain ⟨c, A, q1, q2, q3, q4, q5⟩ := V
  have hin := inb_of q2 hj
  refine Wk.law (fun p e s vm0 m args below meth cc T locs k0 S => ⟨T, S.2.2.2.1, S.2.2.2.2.1, fun t kt => ?_⟩) r
  exact S.2.2.2.1.baloadBooleans (g := mkF m pc Ls (.int j :: .ref a :: st)) S.1.1 (by rw [S.2.2.2.2.1]; exact A.1) (State.isArrayOf_alike S.2.1.2.1.alike A.2.1) A.2.2 hin (q4.at hin hv) rfl rfl (hb S.1.2.1 hd) t kt
theorem Wk.aaload {a : Addr} {q : ClassId} {ty : FieldType} {z j : Int32} {vs : List Value} {dv v : Value} (V : Arv C.Z h a q ty z vs dv) (hty : ty.isReference = true) (hj : ¬ j < 0 ∧ j < z) (hv : vs.getD j.toNatClampNeg dv = v) (hd : decode C.b.code pc = .ok (.aaload, 1)) (hp : pc + 1 = pc') (r : Wk C h k n I pc' Ls (v :: st)) : Wk C h k n I pc Ls (.int j :: .ref a :: st) := by
  subst hp
  obtain ⟨c, A, q1, q2, q3, q4, q5⟩ := V
  have hin := inb_of q2 hj
  refine Wk.law (fun p e s vm0 m args below meth cc T locs k0 S => ⟨T, S.2.2.2.1, S.2.2.2.2.1, fun t kt => ?_⟩) r
  exact S.2.2.2.1.aaload (g := mkF m pc Ls (.int j :: .ref a :: st)) S.1.1 (by rw [S.2.2.2.2.1]; exact A.1) (State.isArrayOf_alike S.2.1.2.1.alike A.2.1) hty A.2.2 hin (q4.at hin hv) rfl rfl (hb S.1.2.1 hd) t kt
theorem Wk.iastore {a : Addr} {q : ClassId} {z j : Int32} {x : Int32} {vs : List Value} {dv : Value} (V : Arv C.Z h a q .int z vs dv) (ha : C.N ≤ a) (hj : ¬ j < 0 ∧ j < z) (i : Nat) (hi : j.toNatClampNeg = i) (hlt : i < vs.length) (hd : decode C.b.code pc = .ok (.iastore, 1)) (hp : pc + 1 = pc')
    (r : ∀ h', Wr h h' a j.toNatClampNeg (.int x) → Arv C.Z h' a q .int z (vs.set i (.int x)) dv → Wk C h' k n I pc' Ls st) : Wk C h k n I pc Ls (.int x :: .int j :: .ref a :: st) := by
  subst hp
  obtain ⟨c, A, q1, q2, q3, q4, q5⟩ := V
  have hin := inb_of q2 hj
  exact Wk.lawW ha (fun p e s vm0 m args below meth cc T locs k0 S => stI (g := mkF m pc Ls (.int x :: .int j :: .ref a :: st)) S.2.2.2.1 S.1.1 S.2.1.2.1 S.2.2.2.2.1 A hin rfl rfl (hb S.1.2.1 hd)) (fun h' W => r h' W (Arv.set A q1 q2 q3 q4 q5 (rfl) W i hi hlt))
theorem Wk.lastore {a : Addr} {q : ClassId} {z j : Int32} {x : Int64} {vs : List Value} {dv : Value} (V : Arv C.Z h a q .long z vs dv) (ha : C.N ≤ a) (hj : ¬ j < 0 ∧ j < z) (i : Nat) (hi : j.toNatClampNeg = i) (hlt : i < vs.length) (hd : decode C.b.code pc = .ok (.lastore, 1)) (hp : pc + 1 = pc')
    (r : ∀ h', Wr h h' a j.toNatClampNeg (.long x) → Arv C.Z h' a q .long z (vs.set i (.long x)) dv → Wk C h' k n I pc' Ls st) : Wk C h k n I pc Ls (.long x :: .int j :: .ref a :: st) := by
  subst hp
  obtain ⟨c, A, q1, q2, q3, q4, q5⟩ := V
  have hin := inb_of q2 hj
  exact Wk.lawW ha (fun p e s vm0 m args below meth cc T locs k0 S => stJ (g := mkF m pc Ls (.long x :: .int j :: .ref a :: st)) S.2.2.2.1 S.1.1 S.2.1.2.1 S.2.2.2.2.1 A hin rfl rfl (hb S.1.2.1 hd)) (fun h' W => r h' W (Arv.set A q1 q2 q3 q4 q5 (rfl) W i hi hlt))
theorem Wk.castore {a : Addr} {q : ClassId} {z j : Int32} {x : Int32} {vs : List Value} {dv : Value} (V : Arv C.Z h a q .char z vs dv) (ha : C.N ≤ a) (hj : ¬ j < 0 ∧ j < z) (i : Nat) (hi : j.toNatClampNeg = i) (hlt : i < vs.length) (hd : decode C.b.code pc = .ok (.castore, 1)) (hp : pc + 1 = pc')
    (r : ∀ h', Wr h h' a j.toNatClampNeg (.int (nar .char x)) → Arv C.Z h' a q .char z (vs.set i (.int (nar .char x))) dv → Wk C h' k n I pc' Ls st) : Wk C h k n I pc Ls (.int x :: .int j :: .ref a :: st) := by
  subst hp
  obtain ⟨c, A, q1, q2, q3, q4, q5⟩ := V
  have hin := inb_of q2 hj
  exact Wk.lawW ha (fun p e s vm0 m args below meth cc T locs k0 S => stC (g := mkF m pc Ls (.int x :: .int j :: .ref a :: st)) S.2.2.2.1 S.1.1 S.2.1.2.1 S.2.2.2.2.1 A hin rfl rfl (hb S.1.2.1 hd)) (fun h' W => r h' W (Arv.set A q1 q2 q3 q4 q5 (fits_nar_char x) W i hi hlt))
theorem Wk.bastore {a : Addr} {q : ClassId} {z j : Int32} {x : Int32} {vs : List Value} {dv : Value} (V : Arv C.Z h a q .byte z vs dv) (ha : C.N ≤ a) (hj : ¬ j < 0 ∧ j < z) (i : Nat) (hi : j.toNatClampNeg = i) (hlt : i < vs.length) (hd : decode C.b.code pc = .ok (.bastore, 1)) (hp : pc + 1 = pc')
    (r : ∀ h', Wr h h' a j.toNatClampNeg (.int (nar .byte x)) → Arv C.Z h' a q .byte z (vs.set i (.int (nar .byte x))) dv → Wk C h' k n I pc' Ls st) : Wk C h k n I pc Ls (.int x :: .int j :: .ref a :: st) := by
  subst hp
  obtain ⟨c, A, q1, q2, q3, q4, q5⟩ := V
  have hin := inb_of q2 hj
  exact Wk.lawW ha (fun p e s vm0 m args below meth cc T locs k0 S => stB (g := mkF m pc Ls (.int x :: .int j :: .ref a :: st)) S.2.2.2.1 S.1.1 S.2.1.2.1 S.2.2.2.2.1 A hin rfl rfl (hb S.1.2.1 hd)) (fun h' W => r h' W (Arv.set A q1 q2 q3 q4 q5 (fits_nar_byte x) W i hi hlt))
theorem Wk.zastore {a : Addr} {q : ClassId} {z j : Int32} {x : Int32} {vs : List Value} {dv : Value} (V : Arv C.Z h a q .boolean z vs dv) (ha : C.N ≤ a) (hj : ¬ j < 0 ∧ j < z) (i : Nat) (hi : j.toNatClampNeg = i) (hlt : i < vs.length) (hd : decode C.b.code pc = .ok (.bastore, 1)) (hp : pc + 1 = pc')
    (r : ∀ h', Wr h h' a j.toNatClampNeg (.int (nar .boolean x)) → Arv C.Z h' a q .boolean z (vs.set i (.int (nar .boolean x))) dv → Wk C h' k n I pc' Ls st) : Wk C h k n I pc Ls (.int x :: .int j :: .ref a :: st) := by
  subst hp
  obtain ⟨c, A, q1, q2, q3, q4, q5⟩ := V
  have hin := inb_of q2 hj
  exact Wk.lawW ha (fun p e s vm0 m args below meth cc T locs k0 S => stZ (g := mkF m pc Ls (.int x :: .int j :: .ref a :: st)) S.2.2.2.1 S.1.1 S.2.1.2.1 S.2.2.2.2.1 A hin rfl rfl (hb S.1.2.1 hd)) (fun h' W => r h' W (Arv.set A q1 q2 q3 q4 q5 (fits_nar_bool x) W i hi hlt))
theorem Wk.aastore {a : Addr} {q : ClassId} {ty : FieldType} {z j : Int32} {v : Value} {vs : List Value} {dv : Value} (V : Arv C.Z h a q ty z vs dv) (hty : ty.isReference = true) (hf : fits ty v = true) (ha : C.N ≤ a) (hj : ¬ j < 0 ∧ j < z) (i : Nat) (hi : j.toNatClampNeg = i) (hlt : i < vs.length) (F : Sto C.Z h a v) (hd : decode C.b.code pc = .ok (.aastore, 1)) (hp : pc + 1 = pc')
    (r : ∀ h', Wr h h' a j.toNatClampNeg v → Arv C.Z h' a q ty z (vs.set i v) dv → Wk C h' k n I pc' Ls st) : Wk C h k n I pc Ls (v :: .int j :: .ref a :: st) := by
  subst hp
  obtain ⟨c, A, q1, q2, q3, q4, q5⟩ := V
  have hin := inb_of q2 hj
  exact Wk.lawW ha (fun p e s vm0 m args below meth cc T locs k0 S => stR (g := mkF m pc Ls (v :: .int j :: .ref a :: st)) S.2.2.2.1 S.1.1 S.2.1.2.1 S.2.2.2.2.1 A hin hty F rfl rfl (hb S.1.2.1 hd)) (fun h' W => r h' W (Arv.set A q1 q2 q3 q4 q5 hf W i hi hlt))
theorem Wk.ldcI {idx : Nat} {v : Int32} (w : (Jvm.Cond.constant C.b.y.cls idx v).before a0 C.Z = true) (hd : decode C.b.code pc = .ok (.ldc idx, 2)) (hp : pc + 2 = pc') (r : Wk C h k n I pc' Ls (.int v :: st)) : Wk C h k n I pc Ls st := by
  subst hp
  exact Wk.law (fun p e s vm0 m args below meth c T locs k0 S => ⟨T, S.2.2.2.1, S.2.2.2.2.1, fun t kt => S.2.2.2.1.ldcI (g := mkF m pc Ls st) S.1.1 S.2.1.1 (mv (s := s.setVm vm0) S.2.1.2.1 w) rfl (hb S.1.2.1 hd) kt⟩) r
theorem Wk.ldcWI {idx : Nat} {v : Int32} (w : (Jvm.Cond.constant C.b.y.cls idx v).before a0 C.Z = true) (hd : decode C.b.code pc = .ok (.ldc_w idx, 3)) (hp : pc + 3 = pc') (r : Wk C h k n I pc' Ls (.int v :: st)) : Wk C h k n I pc Ls st := by
  subst hp
  exact Wk.law (fun p e s vm0 m args below meth c T locs k0 S => ⟨T, S.2.2.2.1, S.2.2.2.2.1, fun t kt => S.2.2.2.1.ldcWI (g := mkF m pc Ls st) S.1.1 S.2.1.1 (mv (s := s.setVm vm0) S.2.1.2.1 w) rfl (hb S.1.2.1 hd) kt⟩) r
theorem Wk.ldc2J {idx : Nat} {v : Int64} (w : (Jvm.Cond.constantLong C.b.y.cls idx v).before a0 C.Z = true) (hd : decode C.b.code pc = .ok (.ldc2_w idx, 3)) (hp : pc + 3 = pc') (r : Wk C h k n I pc' Ls (.long v :: st)) : Wk C h k n I pc Ls st := by
  subst hp
  exact Wk.law (fun p e s vm0 m args below meth c T locs k0 S => ⟨T, S.2.2.2.1, S.2.2.2.2.1, fun t kt => S.2.2.2.1.ldc2J (g := mkF m pc Ls st) S.1.1 S.2.1.1 (mv (s := s.setVm vm0) S.2.1.2.1 w) rfl (hb S.1.2.1 hd) kt⟩) r
theorem Wk.castY {K : String} {idx : Nat} {a : Addr} (w : (Jvm.Cond.classLink C.b.y.cls idx K).before a0 C.Z = true) (F : Ins C.Z h a K true) (hd : decode C.b.code pc = .ok (.checkcast idx, 3)) (hp : pc + 3 = pc') (r : Wk C h k n I pc' Ls (.ref a :: st)) : Wk C h k n I pc Ls (.ref a :: st) := by
  subst hp
  exact Wk.law (fun p e s vm0 m args below meth c T locs k0 S => Jvm.RoadKit.castY (g := mkF m pc Ls (.ref a :: st)) S.2.2.2.1 S.1.1 S.2.1.2.1 S.2.1.1 w S.2.2.2.2.1 F rfl rfl (hb S.1.2.1 hd)) r
theorem Wk.instY {K : String} {idx : Nat} {a : Addr} (w : (Jvm.Cond.classLink C.b.y.cls idx K).before a0 C.Z = true) (F : Ins C.Z h a K true) (hd : decode C.b.code pc = .ok (.instanceof idx, 3)) (hp : pc + 3 = pc') (r : Wk C h k n I pc' Ls (.int 1 :: st)) : Wk C h k n I pc Ls (.ref a :: st) := by
  subst hp
  exact Wk.law (fun p e s vm0 m args below meth c T locs k0 S => Jvm.RoadKit.instY (g := mkF m pc Ls (.ref a :: st)) S.2.2.2.1 S.1.1 S.2.1.2.1 S.2.1.1 w S.2.2.2.2.1 F rfl rfl (hb S.1.2.1 hd)) r
theorem Wk.leaveW {v : Option Value} (hv : C.b.ret = none → v = none) (hk : k ≤ C.b.room.cells) (hn : n ≤ C.b.room.slots) (q : C.Q v h I)
    (hs : ∀ (p : Program) (e : Env) (s : State) (vm0 : Vm) (m : MethodId) (args : Array Value) (below : List Frame) (meth : Method) (c : Code) (T : State) (locs : List Loc) (k0 : Nat) (fs : List Frame), St C p e s vm0 m args below meth c T locs k0 h k n I →
      (∀ (f : JFrame) (acts : List Action), f.method = m → f.locked = none → f.entered = [] → (doReturn e (T.setTop f) acts v).1 = T.setFrames fs) → Steps p.tables e below (T.setTop (mkF m pc Ls st)) (T.setFrames fs)) : Wk C h k n I pc Ls st := fun p e s vm0 m args below meth c T locs k0 S => by
  obtain ⟨fs, hr, hrun, hended, hW, hsame⟩ := S.2.2.2.1.leave (v := v) (fun q => hv (S.1.2.2.2.1 ▸ q)) S.1.2.2.2.2.1
  have hst := hs p e s vm0 m args below meth c T locs k0 fs S hr
  obtain ⟨A, ⟨b1, b2, b3, b4⟩, q1, q2, q3, q4, q5, q6⟩ := S
  have eh : (T.setFrames fs).heap = h := q3
  obtain ⟨u1, u2, u3⟩ := b3.ended hW (by rw [eh]; exact q1) hsame
  exact ⟨_, _, hst, hrun, hended, v, locs, I, rfl, by rw [eh]; exact q, VI.warm (s := s.setVm vm0) b4 hW, q6, by rw [eh]; exact q4, ⟨v, rfl⟩, u1, u2, u3.mono hk hn⟩
theorem Wk.ireturn {z : Int32} (hret : C.b.ret = some .int) (hd : decode C.b.code pc = .ok (.ireturn, 1)) (hk : k ≤ C.b.room.cells) (hn : n ≤ C.b.room.slots) (q : C.Q (some (.int z)) h I) : Wk C h k n I pc Ls (.int z :: st) :=
  Wk.leaveW (v := some (.int z)) (fun e => by rw [hret] at e; cases e) hk hn q fun p e s vm0 m args below meth c T locs k0 fs S hr =>
    retOut S.2.2.2.1 S.1.1 (S.1.2.2.2.1.trans hret) rfl (Or.inl ⟨rfl, Or.inl rfl, _, rfl⟩) (hb S.1.2.1 hd) hr
theorem Wk.zreturn {z : Int32} {t : FieldType} (hret : C.b.ret = some t) (ht : t = .boolean ∨ t = .byte ∨ t = .char ∨ t = .short) (hd : decode C.b.code pc = .ok (.ireturn, 1)) (hk : k ≤ C.b.room.cells) (hn : n ≤ C.b.room.slots) (q : C.Q (some (.int (nar t z))) h I) : Wk C h k n I pc Ls (.int z :: st) :=
  Wk.leaveW (v := some (.int (nar t z))) (fun e => by rw [hret] at e; cases e) hk hn q fun p e s vm0 m args below meth c T locs k0 fs S hr =>
    retN S.2.2.2.1 S.1.1 (S.1.2.2.2.1.trans hret) ht (hb S.1.2.1 hd) hr
theorem Wk.lreturn {z : Int64} (hret : C.b.ret = some .long) (hd : decode C.b.code pc = .ok (.lreturn, 1)) (hk : k ≤ C.b.room.cells) (hn : n ≤ C.b.room.slots) (q : C.Q (some (.long z)) h I) : Wk C h k n I pc Ls (.long z :: st) :=
  Wk.leaveW (v := some (.long z)) (fun e => by rw [hret] at e; cases e) hk hn q fun p e s vm0 m args below meth c T locs k0 fs S hr =>
    retOut S.2.2.2.1 S.1.1 (S.1.2.2.2.1.trans hret) rfl (Or.inr (Or.inl ⟨rfl, rfl, _, rfl⟩)) (hb S.1.2.1 hd) hr
theorem Wk.dreturn {z : UInt64} (hret : C.b.ret = some .double) (hd : decode C.b.code pc = .ok (.dreturn, 1)) (hk : k ≤ C.b.room.cells) (hn : n ≤ C.b.room.slots) (q : C.Q (some (.double z)) h I) : Wk C h k n I pc Ls (.double z :: st) :=
  Wk.leaveW (v := some (.double z)) (fun e => by rw [hret] at e; cases e) hk hn q fun p e s vm0 m args below meth c T locs k0 fs S hr =>
    retOut S.2.2.2.1 S.1.1 (S.1.2.2.2.1.trans hret) rfl (Or.inr (Or.inr (Or.inl ⟨rfl, rfl, _, rfl⟩))) (hb S.1.2.1 hd) hr
theorem narrow_refl {t : FieldType} {w : Value} (ht : t.isReference = true) : narrow t w = w := by cases t <;> simp [FieldType.isReference] at ht <;> cases w <;> rfl
theorem Wk.areturn {w : Value} {t : FieldType} (hret : C.b.ret = some t) (ht : t.isReference = true) (hw : w.isRef = true) (hd : decode C.b.code pc = .ok (.areturn, 1)) (hk : k ≤ C.b.room.cells) (hn : n ≤ C.b.room.slots) (q : C.Q (some w) h I) : Wk C h k n I pc Ls (w :: st) :=
  Wk.leaveW (v := some w) (fun e => by rw [hret] at e; cases e) hk hn q fun p e s vm0 m args below meth c T locs k0 fs S hr =>
    retOut S.2.2.2.1 S.1.1 (S.1.2.2.2.1.trans hret) (narrow_refl ht) (Or.inr (Or.inr (Or.inr (Or.inr ⟨rfl, ht, hw⟩)))) (hb S.1.2.1 hd) hr
theorem Wk.return_ (hret : C.b.ret = none) (hd : decode C.b.code pc = .ok (.return_, 1)) (hk : k ≤ C.b.room.cells) (hn : n ≤ C.b.room.slots) (q : C.Q none h I) : Wk C h k n I pc Ls [] :=
  Wk.leaveW (v := none) (fun _ => rfl) hk hn q fun p e s vm0 m args below meth c T locs k0 fs S hr =>
    S.2.2.2.1.returnOut S.1.1 (S.1.2.2.2.1.trans hret) (hb S.1.2.1 hd) hr
theorem Cn.of_wk {l : Launch} {Z : State} {N : Nat} {b : Bdy} {as : Array Value} {Q : Option Value → Heap → Lts → Prop} (hp : plainFor b.y = true) (he : ∀ m, entryFrame m as b.maxL = mkF m 0 Ls []) (r : Wk (l, Z, N, h.size, b, Q) h 0 0 I 0 Ls []) : Cn l Z N b as h I Q := by
  intro ws
  refine MetFree.of_bodySF hp hisR ?_
  intro p e s m args below meth c s₁ Bd hml0 hP hK
  obtain ⟨rfl, hZ, hh, hV, hE, hN, hZN⟩ := hP
  have X0 : Stand p l e b.room (s.setVm s.vm) m args below meth c s₁ [] 0 0 := Stand.of_body Bd
  have e0 : s₁.heap = h := by rw [← hh, Bd.state]; rfl
  obtain ⟨t, o, h1, h2⟩ := r p e s s.vm m args below meth c s₁ [] s.heap.size ⟨⟨Bd.exec, Bd.bytes, hml0, Bd.returns, Bd.notSynchronized, (name_of_methodNamed Bd.named Bd.method).1, hZN, by rw [hh], by rw [hh]; exact hE⟩, ⟨findClass_of_methodNamed Bd.named, hZ, (State.WarmedH.refl s).since _, hV⟩, by rw [hh]; exact Nat.le_refl _, X0, e0, hE, hN, Fr.nil _⟩
  exact ⟨t, o, castTop (he m) h1, h2⟩
theorem Cn.back {l : Launch} {Z : State} {N : Nat} {b : Bdy} {as : Array Value} {Q : Option Value → Heap → Lts → Prop} (M : Cn l Z N b as h I Q) {R : Room} {p : Program} {e : Env} {below : List Frame} {s : State} {args : Array Value} {len W : Nat} (hZ : Z.Warmed39 s.vm) (hV : VI Z I s.vm) (hE : Ext Z.heap h) (hN : N ≤ h.size) (hZN : Z.heap.size ≤ N)
    (wc : (Jvm.Cond.code b.y b.code b.maxL b.ret).before a0 Z = true) (wz : (Jvm.Cond.initialized b.y.cls).before a0 Z = true) (hf : b.room.frames + 1 ≤ R.frames) (hl : W + (b.maxL + 11) + b.room.locals ≤ R.locals) :
    BackS l R p e below s args b.y len W (fun A a => a = as ∧ A.U.heap = h ∧ A.cells + b.room.cells ≤ R.cells ∧ A.slots + b.room.slots ≤ R.slots)
      (fun A _ v B => ∃ L J, Q v B.U.heap J ∧ VI Z J B.U.vm ∧ Fr N L ∧ Ext Z.heap B.U.heap ∧ B.locs = A.locs ++ L ∧ B.cells = A.cells + b.room.cells ∧ B.slots = A.slots + b.room.slots) :=
  BackS.of_freeW (bytes := b.code) (maxL := b.maxL) (ret := b.ret) (E := fun _ _ o t L k n => k = b.room.cells ∧ n = b.room.slots ∧ ∃ v J, o = .returned v ∧ Q v t.heap J ∧ VI Z J t.vm ∧ Fr N L ∧ Ext Z.heap t.heap) (M []) hf hl
    (fun m meth c A a Y hp => have hU : Z.Warmed39 A.U.vm := wtrans hZ Y.warmed
      ⟨by show (Cond.and _ .tt).before a A.U = true; rw [Cond.before_and, mv hU wc]; rfl, mv hU wc, mv hU wz, hp.2.2.1, hp.2.2.2⟩)
    (fun m meth c A a g mk Y hp => ⟨hp.1, wtrans hZ Y.warmed, hp.2.1, VI.warm hV Y.warmed, hE, hN, hZN⟩) (fun _ _ _ _ _ _ _ _ _ => trivial)
    (fun _ _ _ _ ⟨v, L, J, h1, h2, h3, h4, h5, h6⟩ => ⟨L, _, _, h6, rfl, rfl, v, J, h1, h2, h3, h4, h5⟩)
    (fun m meth c A a g mk v t L k n Y hp _ _ ⟨e1, e2, v', J, e3, e4, e5, e6, e7⟩ => by cases e3; subst e1 e2; exact ⟨L, J, e4, e5, e6, e7, rfl, rfl, rfl⟩)
/-- behind a call -/
theorem Wk.behind {b : Bdy} {N' : Nat} {Q' : Option Value → Heap → Lts → Prop} (hN : C.N ≤ N') (hk : k + b.room.cells = k') (hn : n + b.room.slots = n') (r : ∀ v h' J, h.size ≤ h'.size → Q' v h' J → Wk C h' k' n' J pc' Ls (v.toList ++ rest))
    {p : Program} {e : Env} {s : State} {vm0 : Vm} {m : MethodId} {args : Array Value} {below : List Frame} {meth : Method} {c : Code} {T : State} {locs : List Loc} {k0 : Nat} (S : St C p e s vm0 m args below meth c T locs k0 h k n I)
    {U0 : State} (q : ∃ (v : Option Value) (vm₁ : Vm) (B : Pt), (s.setVm vm0).WarmedH vm₁ ∧ Stand p C.l e C.b.room ((s.setVm vm0).setVm B.U.vm) m args below meth c B.U B.locs B.cells B.slots ∧ (s.setVm vm0).Since B.U.vm B.U.heap.size ∧ T.heap.size ≤ B.U.heap.size ∧
      (∃ L J, Q' v B.U.heap J ∧ VI C.Z J B.U.vm ∧ Fr N' L ∧ Ext C.Z.heap B.U.heap ∧ B.locs = locs ++ L ∧ B.cells = k + b.room.cells ∧ B.slots = n + b.room.slots) ∧ Steps p.tables e below U0 (B.U.setTop (mkF m pc' Ls (v.toList ++ rest)))) :
    ∃ t o, Steps p.tables e below U0 t ∧ t.status = .running ∧ Ended t below o ∧ Fini C s o t := by
  obtain ⟨v, vm₁, ⟨U, L2, k2, n2⟩, hW, X', hS', hg, ⟨L, J, y1, y2, y3, y4, y5, y6, y7⟩, hst⟩ := q
  dsimp only [Pt.U, Pt.locs, Pt.cells, Pt.slots] at X' hS' hg y1 y2 y3 y4 y5 y6 y7 hst
  subst y5 y6 y7 hk hn
  obtain ⟨A, ⟨b1, b2, b3, b4⟩, q1, q2, q3, q4, q5, q6⟩ := S
  have hg' : h.size ≤ U.heap.size := by rw [← q3]; exact hg
  obtain ⟨x1, x2, x3, x4⟩ := rebS b3 q1 X' hS' hg' b2 b1
  obtain ⟨t, o, h1, h2⟩ := r v U.heap J hg' y1 p e s U.vm m args below meth c U _ U.heap.size ⟨A, ⟨x4, x3, x2, y2⟩, Nat.le_refl _, x1, rfl, y4, Nat.le_trans q5 hg', Fr.app q6 fun y hy => Nat.le_trans hN (y3 y hy)⟩
  exact ⟨t, o, hst.trans h1, h2⟩
abbrev NoPoly (y : MethodName) : Prop := y.cls ≠ "java/lang/invoke/MethodHandle" ∧ y.cls ≠ "java/lang/invoke/VarHandle"
theorem Wk.callS {b : Bdy} {N' : Nat} {as : Array Value} {Q' : Option Value → Heap → Lts → Prop} {idx W : Nat} {ps : List FieldType} {rt : Option FieldType} {argsL : List Value} (M : Cn C.l C.Z N' b as h I Q')
    (w1 : (Jvm.Cond.methodLink C.b.y.cls idx b.y).before a0 C.Z = true) (w2 : (Jvm.Cond.static b.y).before a0 C.Z = true) (w3 : (Jvm.Cond.initialized b.y.cls).before a0 C.Z = true) (w4 : (Jvm.Cond.code b.y b.code b.maxL b.ret).before a0 C.Z = true) (hy : NoPoly b.y)
    (hN : C.N ≤ N') (hN' : C.N ≤ h.size → N' ≤ h.size) (hf : b.room.frames + 1 ≤ C.b.room.frames) (hl : W + (b.maxL + 11) + b.room.locals ≤ C.b.room.locals) (hk : k + b.room.cells = k') (hn : n + b.room.slots = n') (hkc : k' ≤ C.b.room.cells) (hnc : n' ≤ C.b.room.slots)
    (hsz : Ls.size = C.b.maxL) (hpd : parseMethodDescriptor b.y.desc = some ⟨ps, rt⟩) (hlen : argsL.length = ps.length) (has : as = argsL.toArray) (hst : st = argsL.reverse ++ rest) (hW : (rest.map fun v => v.category).sum ≤ W) (hd : decode C.b.code pc = .ok (.invokestatic idx, 3)) (hp : pc + 3 = pc')
    (r : ∀ v h' J, h.size ≤ h'.size → Q' v h' J → Wk C h' k' n' J pc' Ls (v.toList ++ rest)) : Wk C h k n I pc Ls st := by
  subst hp has hst hk hn
  intro p e s vm0 m args below meth c T locs k0 S
  refine Wk.behind (b := b) hN rfl rfl r S ?_
  have hZ : C.Z.Warmed39 (s.setVm vm0).vm := S.2.1.2.1
  exact callSS S.2.2.2.1 S.1.1 (own := C.b.y.cls) S.2.1.1 (mvT hZ w1) (mvT hZ w2) (mvT hZ w3) (mvT hZ w4) hy (Cn.back (a0 := a0) (W := W) M hZ S.2.1.2.2.2 S.2.2.2.2.2.1 (hN' S.2.2.2.2.2.2.1) (Nat.le_trans S.1.2.2.2.2.2.2.1 hN) w4 w3 hf hl) (g := mkF m pc Ls (argsL.reverse ++ rest)) rfl (hsz.trans S.1.2.2.1.symm) (argsL := argsL) (rest := rest) (lenOf hpd hlen) rfl (by show 2 * 0 + _ ≤ _; omega) (hb S.1.2.1 hd) (fun _ _ => ⟨rfl, S.2.2.2.2.1, hkc, hnc⟩)
theorem Wk.callN {b : Bdy} {N' : Nat} {as : Array Value} {Q' : Option Value → Heap → Lts → Prop} {idx W : Nat} {ps : List FieldType} {rt : Option FieldType} {argsL : List Value} {a : Addr} (M : Cn C.l C.Z N' b as h I Q') (hini : b.y.name = "<init>") (hrt : b.ret = none)
    (w1 : (Jvm.Cond.methodLink C.b.y.cls idx b.y).before a0 C.Z = true) (w2 : (Jvm.Cond.instanceMethod b.y).before a0 C.Z = true) (w3 : (Jvm.Cond.initialized b.y.cls).before a0 C.Z = true) (w4 : (Jvm.Cond.code b.y b.code b.maxL b.ret).before a0 C.Z = true) (hy : NoPoly b.y)
    (hN : C.N ≤ N') (hN' : C.N ≤ h.size → N' ≤ h.size) (hf : b.room.frames + 1 ≤ C.b.room.frames) (hl : W + (b.maxL + 11) + b.room.locals ≤ C.b.room.locals) (hk : k + b.room.cells = k') (hn : n + b.room.slots = n') (hkc : k' ≤ C.b.room.cells) (hnc : n' ≤ C.b.room.slots)
    (hsz : Ls.size = C.b.maxL) (hpd : parseMethodDescriptor b.y.desc = some ⟨ps, rt⟩) (hlen : argsL.length = ps.length) (has : as = (.ref a :: argsL).toArray) (hst : st = argsL.reverse ++ .ref a :: rest) (hW : (rest.map fun v => v.category).sum ≤ W) (hd : decode C.b.code pc = .ok (.invokespecial idx, 3)) (hp : pc + 3 = pc')
    (r : ∀ v h' J, h.size ≤ h'.size → Q' v h' J → Wk C h' k' n' J pc' Ls (v.toList ++ rest)) : Wk C h k n I pc Ls st := by
  subst hp has hst hk hn
  intro p e s vm0 m args below meth c T locs k0 S
  refine Wk.behind (b := b) hN rfl rfl r S ?_
  have hZ : C.Z.Warmed39 (s.setVm vm0).vm := S.2.1.2.1
  have w4' : (Jvm.Cond.code b.y b.code b.maxL none).before a0 C.Z = true := by rw [← hrt]; exact w4
  exact S.2.2.2.1.specialBackS S.1.1 (own := C.b.y.cls) hini S.2.1.1 (mvT hZ w1) (mvT hZ w2) (mvT hZ w4') hy (Cn.back (a0 := a0) (W := W) M hZ S.2.1.2.2.2 S.2.2.2.2.2.1 (hN' S.2.2.2.2.2.2.1) (Nat.le_trans S.1.2.2.2.2.2.2.1 hN) w4 w3 hf hl) (g := mkF m pc Ls (argsL.reverse ++ .ref a :: rest)) rfl (hsz.trans S.1.2.2.1.symm) (Steps.refl _) (argsL := argsL) (rest := rest) (lenOf hpd hlen) rfl (by show 2 * 0 + _ ≤ _; omega) (hb S.1.2.1 hd) (fun _ _ => ⟨rfl, S.2.2.2.2.1, hkc, hnc⟩)
theorem Wk.callV {b : Bdy} {N' : Nat} {as : Array Value} {Q' : Option Value → Heap → Lts → Prop} {idx W : Nat} {ps : List FieldType} {rt : Option FieldType} {argsL : List Value} {a : Addr} {y : MethodName} {K K' : String} (M : Cn C.l C.Z N' b as h I Q') (E : Exa C.Z h a K)
    (w1 : (Jvm.Cond.methodLink C.b.y.cls idx y).before a0 C.Z = true) (wd : (Jvm.Cond.declares y).before a0 C.Z = true) (wn : (Jvm.Cond.selects K' y y).before a0 C.Z = true) (ws : (Jvm.Cond.selects K y b.y).before a0 C.Z = true) (w2 : (Jvm.Cond.instanceMethod b.y).before a0 C.Z = true) (w3 : (Jvm.Cond.initialized b.y.cls).before a0 C.Z = true) (w4 : (Jvm.Cond.code b.y b.code b.maxL b.ret).before a0 C.Z = true) (hy : NoPoly y)
    (hN : C.N ≤ N') (hN' : C.N ≤ h.size → N' ≤ h.size) (hf : b.room.frames + 1 ≤ C.b.room.frames) (hl : W + (b.maxL + 11) + b.room.locals ≤ C.b.room.locals) (hk : k + b.room.cells = k') (hn : n + b.room.slots = n') (hkc : k' ≤ C.b.room.cells) (hnc : n' ≤ C.b.room.slots)
    (hsz : Ls.size = C.b.maxL) (hpd : parseMethodDescriptor y.desc = some ⟨ps, rt⟩) (hlen : argsL.length = ps.length) (has : as = (.ref a :: argsL).toArray) (hst : st = argsL.reverse ++ .ref a :: rest) (hW : (rest.map fun v => v.category).sum ≤ W) (hd : decode C.b.code pc = .ok (.invokevirtual idx, 3)) (hp : pc + 3 = pc')
    (r : ∀ v h' J, h.size ≤ h'.size → Q' v h' J → Wk C h' k' n' J pc' Ls (v.toList ++ rest)) : Wk C h k n I pc Ls st := by
  subst hp has hst hk hn
  intro p e s vm0 m args below meth c T locs k0 S
  refine Wk.behind (b := b) hN rfl rfl r S ?_
  have hZ : C.Z.Warmed39 (s.setVm vm0).vm := S.2.1.2.1
  obtain ⟨cq, kq, qa, qb, qc⟩ := isOf (s := s.setVm vm0) hZ S.2.2.2.2.1 E
  exact S.2.2.2.1.virtualBackS S.1.1 (own := C.b.y.cls) (y := y) (z := b.y) S.2.1.1 (mvT hZ w1) (mvT hZ wd) (notFace_of_selects (args := #[]) (mvT hZ wn)) (mvT hZ ws) (mvT hZ w2) hy (Cn.back (a0 := a0) (W := W) M hZ S.2.1.2.2.2 S.2.2.2.2.2.1 (hN' S.2.2.2.2.2.2.1) (Nat.le_trans S.1.2.2.2.2.2.2.1 hN) w4 w3 hf hl) qa qc (g := mkF m pc Ls (argsL.reverse ++ .ref a :: rest)) rfl (hsz.trans S.1.2.2.1.symm) (Steps.refl _) (argsL := argsL) (rest := rest) (lenOf hpd hlen) rfl (by show 2 * 0 + _ ≤ _; omega) (hb S.1.2.1 hd) (fun _ _ => ⟨rfl, S.2.2.2.2.1, hkc, hnc⟩)
theorem Wk.callI {b : Bdy} {N' : Nat} {as : Array Value} {Q' : Option Value → Heap → Lts → Prop} {idx cnt W : Nat} {ps : List FieldType} {rt : Option FieldType} {argsL : List Value} {a : Addr} {y : MethodName} {K : String} (M : Cn C.l C.Z N' b as h I Q') (E : Exa C.Z h a K)
    (w1 : (Jvm.Cond.methodLink C.b.y.cls idx y).before a0 C.Z = true) (wd : (Jvm.Cond.declares y).before a0 C.Z = true) (wf : (Jvm.Cond.interfaceMethod y.cls y.cls y.name y.desc).before a0 C.Z = true) (ws : (Jvm.Cond.selects K y b.y).before a0 C.Z = true) (w2 : (Jvm.Cond.instanceMethod b.y).before a0 C.Z = true) (wp : (Jvm.Cond.publicMethod b.y).before a0 C.Z = true) (wu : (Jvm.Cond.unhidden K y.name y.desc).before a0 C.Z = true) (wk : (Jvm.Cond.castable K y.cls).before a0 C.Z = true) (w3 : (Jvm.Cond.initialized b.y.cls).before a0 C.Z = true) (w4 : (Jvm.Cond.code b.y b.code b.maxL b.ret).before a0 C.Z = true) (hy : NoPoly y)
    (hN : C.N ≤ N') (hN' : C.N ≤ h.size → N' ≤ h.size) (hf : b.room.frames + 1 ≤ C.b.room.frames) (hl : W + (b.maxL + 11) + b.room.locals ≤ C.b.room.locals) (hk : k + b.room.cells = k') (hn : n + b.room.slots = n') (hkc : k' ≤ C.b.room.cells) (hnc : n' ≤ C.b.room.slots)
    (hsz : Ls.size = C.b.maxL) (hpd : parseMethodDescriptor y.desc = some ⟨ps, rt⟩) (hlen : argsL.length = ps.length) (has : as = (.ref a :: argsL).toArray) (hst : st = argsL.reverse ++ .ref a :: rest) (hW : (rest.map fun v => v.category).sum ≤ W) (hd : decode C.b.code pc = .ok (.invokeinterface idx cnt, 5)) (hp : pc + 5 = pc')
    (r : ∀ v h' J, h.size ≤ h'.size → Q' v h' J → Wk C h' k' n' J pc' Ls (v.toList ++ rest)) : Wk C h k n I pc Ls st := by
  subst hp has hst hk hn
  intro p e s vm0 m args below meth c T locs k0 S
  refine Wk.behind (b := b) hN rfl rfl r S ?_
  have hZ : C.Z.Warmed39 (s.setVm vm0).vm := S.2.1.2.1
  obtain ⟨cq, kq, qa, qb, qc⟩ := isOf (s := s.setVm vm0) hZ S.2.2.2.2.1 E
  exact S.2.2.2.1.interfaceBackS S.1.1 (own := C.b.y.cls) (xi := y) (y := b.y) S.2.1.1 (mvT hZ w1) (mvT hZ wd) (mvT hZ wf (by simp [Cond.onTables, Cond.keepsFace, Cond.keeps, Cond.steady, Cond.faceAtom, hy.1, hy.2])) (mvT hZ ws) (mvT hZ w2) (mvT hZ wp) (mvT hZ wu) (mvT hZ wk) hy (Cn.back (a0 := a0) (W := W) M hZ S.2.1.2.2.2 S.2.2.2.2.2.1 (hN' S.2.2.2.2.2.2.1) (Nat.le_trans S.1.2.2.2.2.2.2.1 hN) w4 w3 hf hl) qa qb qc (g := mkF m pc Ls (argsL.reverse ++ .ref a :: rest)) rfl (hsz.trans S.1.2.2.1.symm) (Steps.refl _) (argsL := argsL) (rest := rest) (lenOf hpd hlen) rfl (by show 2 * 0 + _ ≤ _; omega) (hb S.1.2.1 hd) (fun _ _ => ⟨rfl, S.2.2.2.2.1, hkc, hnc⟩)
end Kit

section Kit2
variable {C : Cx} {h h' : Heap} {k n k' n' : Nat} {I : Lts} {pc pc' : Nat} {Ls Ls' : Array Slot} {st st' rest : List Value} {a0 : Array Value}
theorem own_nf {s : State} {args : Array Value} {y y' : MethodName} {K' : String} (hsel : (Jvm.Cond.selects K' y' y').before args s = true) (hc : y'.cls = y.cls) : NotFace s y := fun r0 hr0 => by
  obtain ⟨c2, r2, m2, q1, q2, q3, q4, kP, hkP, hkPi⟩ := Cond.selects_spec hsel
  have e1 := findClass_of_methodNamed q3
  have e2 := findClass_of_methodNamed hr0
  rw [hc, e2] at e1
  exact ⟨kP, by rw [Option.some.inj e1]; exact hkP, hkPi⟩
theorem Wk.callP {b : Bdy} {N' : Nat} {as : Array Value} {Q' : Option Value → Heap → Lts → Prop} {idx W : Nat} {ps : List FieldType} {rt : Option FieldType} {argsL : List Value} {a : Addr} {y' : MethodName} {K K' : String} (M : Cn C.l C.Z N' b as h I Q') (E : Exa C.Z h a K)
    (w1 : (Jvm.Cond.methodLink C.b.y.cls idx b.y).before a0 C.Z = true) (wn : (Jvm.Cond.selects K' y' y').before a0 C.Z = true) (hyc : y'.cls = b.y.cls) (wp : (Jvm.Cond.privateMethod b.y).before a0 C.Z = true) (w2 : (Jvm.Cond.instanceMethod b.y).before a0 C.Z = true) (w3 : (Jvm.Cond.initialized b.y.cls).before a0 C.Z = true) (w4 : (Jvm.Cond.code b.y b.code b.maxL b.ret).before a0 C.Z = true) (hy : NoPoly b.y)
    (hN : C.N ≤ N') (hN' : C.N ≤ h.size → N' ≤ h.size) (hf : b.room.frames + 1 ≤ C.b.room.frames) (hl : W + (b.maxL + 11) + b.room.locals ≤ C.b.room.locals) (hk : k + b.room.cells = k') (hn : n + b.room.slots = n') (hkc : k' ≤ C.b.room.cells) (hnc : n' ≤ C.b.room.slots)
    (hsz : Ls.size = C.b.maxL) (hpd : parseMethodDescriptor b.y.desc = some ⟨ps, rt⟩) (hlen : argsL.length = ps.length) (has : as = (.ref a :: argsL).toArray) (hst : st = argsL.reverse ++ .ref a :: rest) (hW : (rest.map fun v => v.category).sum ≤ W) (hd : decode C.b.code pc = .ok (.invokevirtual idx, 3)) (hp : pc + 3 = pc')
    (r : ∀ v h' J, h.size ≤ h'.size → Q' v h' J → Wk C h' k' n' J pc' Ls (v.toList ++ rest)) : Wk C h k n I pc Ls st := by
  subst hp has hst hk hn
  intro p e s vm0 m args below meth c T locs k0 S
  refine Wk.behind (b := b) hN rfl rfl r S ?_
  have hZ : C.Z.Warmed39 (s.setVm vm0).vm := S.2.1.2.1
  obtain ⟨mk, methM, hnamed, hmethM, hstM, habM⟩ := Cond.instanceMethod_spec (s := s.setVm vm0) (args := args) (mvT hZ w2)
  obtain ⟨methM', cM, hmethM', -, -, -, -, -, -, hsigM⟩ := Cond.code_spec hnamed (mvT (args := args) (s := s.setVm vm0) hZ w4)
  cases hmethM.symm.trans hmethM'
  obtain ⟨kP, hkP, hkPi⟩ := own_nf (args := args) (s := s.setVm vm0) (mvT hZ wn) hyc mk hnamed
  obtain ⟨cell, hcell, hobj⟩ := E.cell
  have hcell' : T.heap[a]? = some cell := by rw [S.2.2.2.2.1]; exact hcell
  have hselP : selectMethod e.platform (s.setVm vm0).vm cell.cls mk = .method mk := selectMethod_private hmethM (Cond.privateMethod_at (args := args) (mvP hZ wp) mk methM hnamed hmethM)
  obtain ⟨vm₁, X₁, hstep₁⟩ := S.2.2.2.1.invokevirtual S.1.1 (own := C.b.y.cls) S.2.1.1 (mvT hZ w1) hnamed hmethM hstM hkP hkPi hy (a := a) (cell := cell) hcell' hobj hselP hmethM habM hkP hkPi (g := mkF m pc Ls (argsL.reverse ++ .ref a :: rest)) rfl (argsL := argsL) (rest := rest) (lenOf hpd hlen _ hsigM) rfl (hb S.1.2.1 hd)
  have hW₁ : (s.setVm vm0).WarmedH vm₁ := X₁.warmed
  obtain ⟨v, B, X', hS, hgr, hpost, hsteps⟩ := Cn.back (a0 := a0) (W := W) (R := C.b.room) (p := p) (e := e) (below := below) (s := s.setVm vm0) (args := args) (len := 3) M hZ S.2.1.2.2.2 S.2.2.2.2.2.1 (hN' S.2.2.2.2.2.2.1) (Nat.le_trans S.1.2.2.2.2.2.2.1 hN) w4 w3 hf hl m meth c ⟨T.setVm vm₁, locs, k, n⟩ (mkF m pc Ls rest) (.invokevirtual idx) mk (.ref a :: argsL).toArray X₁ rfl (hsz.trans S.1.2.2.1.symm) (hb S.1.2.1 hd) (by show 2 * 0 + (rest.map fun v => v.category).sum ≤ W; omega) (X₁.named hnamed) ⟨rfl, S.2.2.2.2.1, hkc, hnc⟩
  exact ⟨v, vm₁, B, hW₁, X', hS, hgr, hpost, (hstep₁ _ fun acts => by rw [doInvoke_state]; exact Steps.refl _).trans hsteps⟩
end Kit2
theorem w0 {Z : State} {a0 : Array Value} (hw : ∀ d ∈ tables_1, d.before a0 Z = true) : (Jvm.Cond.classLink "com/example/interlock/interlock/SnapshotsHorizonPinLaw" (7 : Nat) "com/example/interlock/interlock/Snapshots").before a0 Z = true := hw _ (List.mem_of_getElem? (i := 0) rfl)
theorem w1 {Z : State} {a0 : Array Value} (hw : ∀ d ∈ tables_1, d.before a0 Z = true) : (Jvm.Cond.instantiable "com/example/interlock/interlock/Snapshots" (5 : Nat)).before a0 Z = true := hw _ (List.mem_of_getElem? (i := 1) rfl)
theorem w2 {Z : State} {a0 : Array Value} (hw : ∀ d ∈ tables_1, d.before a0 Z = true) : (Jvm.Cond.initialized "com/example/interlock/interlock/Snapshots").before a0 Z = true := hw _ (List.mem_of_getElem? (i := 2) rfl)
theorem w3 {Z : State} {a0 : Array Value} (hw : ∀ d ∈ tables_1, d.before a0 Z = true) : (Jvm.Cond.methodLink "com/example/interlock/interlock/SnapshotsHorizonPinLaw" (9 : Nat) ({ cls := "com/example/interlock/interlock/Snapshots", name := "<init>", desc := "()V" } : Jvm.MethodName)).before a0 Z = true := hw _ (List.mem_of_getElem? (i := 3) rfl)
theorem w4 {Z : State} {a0 : Array Value} (hw : ∀ d ∈ tables_1, d.before a0 Z = true) : (Jvm.Cond.instanceMethod ({ cls := "com/example/interlock/interlock/Snapshots", name := "<init>", desc := "()V" } : Jvm.MethodName)).before a0 Z = true := hw _ (List.mem_of_getElem? (i := 4) rfl)
theorem w5 {Z : State} {a0 : Array Value} (hw : ∀ d ∈ tables_1, d.before a0 Z = true) : (Jvm.Cond.code ({ cls := "com/example/interlock/interlock/Snapshots", name := "<init>", desc := "()V" } : Jvm.MethodName) prog_27_method_1_code (1 : Nat) (Option.none : Option Jvm.ClassFile.FieldType)).before a0 Z = true := hw _ (List.mem_of_getElem? (i := 5) rfl)
theorem w6 {Z : State} {a0 : Array Value} (hw : ∀ d ∈ tables_1, d.before a0 Z = true) : (Jvm.Cond.methodLink "com/example/interlock/interlock/Snapshots" (1 : Nat) ({ cls := "java/lang/Object", name := "<init>", desc := "()V" } : Jvm.MethodName)).before a0 Z = true := hw _ (List.mem_of_getElem? (i := 6) rfl)
theorem w7 {Z : State} {a0 : Array Value} (hw : ∀ d ∈ tables_1, d.before a0 Z = true) : (Jvm.Cond.instanceMethod ({ cls := "java/lang/Object", name := "<init>", desc := "()V" } : Jvm.MethodName)).before a0 Z = true := hw _ (List.mem_of_getElem? (i := 7) rfl)
theorem w8 {Z : State} {a0 : Array Value} (hw : ∀ d ∈ tables_1, d.before a0 Z = true) : (Jvm.Cond.code ({ cls := "java/lang/Object", name := "<init>", desc := "()V" } : Jvm.MethodName) object_method_1_code (1 : Nat) (Option.none : Option Jvm.ClassFile.FieldType)).before a0 Z = true := hw _ (List.mem_of_getElem? (i := 8) rfl)
theorem w9 {Z : State} {a0 : Array Value} (hw : ∀ d ∈ tables_1, d.before a0 Z = true) : (Jvm.Cond.arrayClass Jvm.ClassFile.FieldType.long).before a0 Z = true := hw _ (List.mem_of_getElem? (i := 9) rfl)
theorem w10 {Z : State} {a0 : Array Value} (hw : ∀ d ∈ tables_1, d.before a0 Z = true) : (Jvm.Cond.fieldLink "com/example/interlock/interlock/Snapshots" (7 : Nat) "com/example/interlock/interlock/Snapshots" "snapshots" "[J").before a0 Z = true := hw _ (List.mem_of_getElem? (i := 10) rfl)
theorem w11 {Z : State} {a0 : Array Value} (hw : ∀ d ∈ tables_1, d.before a0 Z = true) : (Jvm.Cond.lays "com/example/interlock/interlock/Snapshots" "com/example/interlock/interlock/Snapshots" "snapshots" "[J").before a0 Z = true := hw _ (List.mem_of_getElem? (i := 11) rfl)
theorem w12 {Z : State} {a0 : Array Value} (hw : ∀ d ∈ tables_1, d.before a0 Z = true) : (Jvm.Cond.arrayClass Jvm.ClassFile.FieldType.int).before a0 Z = true := hw _ (List.mem_of_getElem? (i := 12) rfl)
theorem w13 {Z : State} {a0 : Array Value} (hw : ∀ d ∈ tables_1, d.before a0 Z = true) : (Jvm.Cond.fieldLink "com/example/interlock/interlock/Snapshots" (13 : Nat) "com/example/interlock/interlock/Snapshots" "holders" "[I").before a0 Z = true := hw _ (List.mem_of_getElem? (i := 13) rfl)
theorem w14 {Z : State} {a0 : Array Value} (hw : ∀ d ∈ tables_1, d.before a0 Z = true) : (Jvm.Cond.lays "com/example/interlock/interlock/Snapshots" "com/example/interlock/interlock/Snapshots" "holders" "[I").before a0 Z = true := hw _ (List.mem_of_getElem? (i := 14) rfl)
theorem w15 {Z : State} {a0 : Array Value} (hw : ∀ d ∈ tables_1, d.before a0 Z = true) : (Jvm.Cond.methodLink "com/example/interlock/interlock/SnapshotsHorizonPinLaw" (10 : Nat) ({ cls := "com/example/interlock/interlock/Snapshots", name := "horizon", desc := "()J" } : Jvm.MethodName)).before a0 Z = true := hw _ (List.mem_of_getElem? (i := 15) rfl)
theorem w16 {Z : State} {a0 : Array Value} (hw : ∀ d ∈ tables_1, d.before a0 Z = true) : (Jvm.Cond.declares ({ cls := "com/example/interlock/interlock/Snapshots", name := "horizon", desc := "()J" } : Jvm.MethodName)).before a0 Z = true := hw _ (List.mem_of_getElem? (i := 16) rfl)
theorem w17 {Z : State} {a0 : Array Value} (hw : ∀ d ∈ tables_1, d.before a0 Z = true) : (Jvm.Cond.instanceMethod ({ cls := "com/example/interlock/interlock/Snapshots", name := "horizon", desc := "()J" } : Jvm.MethodName)).before a0 Z = true := hw _ (List.mem_of_getElem? (i := 17) rfl)
theorem w18 {Z : State} {a0 : Array Value} (hw : ∀ d ∈ tables_1, d.before a0 Z = true) : (Jvm.Cond.selects "com/example/interlock/interlock/Snapshots" ({ cls := "com/example/interlock/interlock/Snapshots", name := "horizon", desc := "()J" } : Jvm.MethodName) ({ cls := "com/example/interlock/interlock/Snapshots", name := "horizon", desc := "()J" } : Jvm.MethodName)).before a0 Z = true := hw _ (List.mem_of_getElem? (i := 18) rfl)
theorem w19 {Z : State} {a0 : Array Value} (hw : ∀ d ∈ tables_1, d.before a0 Z = true) : (Jvm.Cond.code ({ cls := "com/example/interlock/interlock/Snapshots", name := "horizon", desc := "()J" } : Jvm.MethodName) prog_27_method_4_code (1 : Nat) (Option.some Jvm.ClassFile.FieldType.long)).before a0 Z = true := hw _ (List.mem_of_getElem? (i := 19) rfl)
theorem w20 {Z : State} {a0 : Array Value} (hw : ∀ d ∈ tables_1, d.before a0 Z = true) : (Jvm.Cond.fieldLink "com/example/interlock/interlock/Snapshots" (17 : Nat) "com/example/interlock/interlock/Snapshots" "first" "I").before a0 Z = true := hw _ (List.mem_of_getElem? (i := 20) rfl)
theorem w21 {Z : State} {a0 : Array Value} (hw : ∀ d ∈ tables_1, d.before a0 Z = true) : (Jvm.Cond.lays "com/example/interlock/interlock/Snapshots" "com/example/interlock/interlock/Snapshots" "first" "I").before a0 Z = true := hw _ (List.mem_of_getElem? (i := 21) rfl)
theorem w22 {Z : State} {a0 : Array Value} (hw : ∀ d ∈ tables_1, d.before a0 Z = true) : (Jvm.Cond.fieldLink "com/example/interlock/interlock/Snapshots" (21 : Nat) "com/example/interlock/interlock/Snapshots" "end" "I").before a0 Z = true := hw _ (List.mem_of_getElem? (i := 22) rfl)
theorem w23 {Z : State} {a0 : Array Value} (hw : ∀ d ∈ tables_1, d.before a0 Z = true) : (Jvm.Cond.lays "com/example/interlock/interlock/Snapshots" "com/example/interlock/interlock/Snapshots" "end" "I").before a0 Z = true := hw _ (List.mem_of_getElem? (i := 23) rfl)
theorem w24 {Z : State} {a0 : Array Value} (hw : ∀ d ∈ tables_1, d.before a0 Z = true) : (Jvm.Cond.constantLong "com/example/interlock/interlock/Snapshots" (50 : Nat) (9223372036854775807 : Int64)).before a0 Z = true := hw _ (List.mem_of_getElem? (i := 24) rfl)
theorem w25 {Z : State} {a0 : Array Value} (hw : ∀ d ∈ tables_1, d.before a0 Z = true) : (Jvm.Cond.constantLong "com/example/interlock/interlock/SnapshotsHorizonPinLaw" (16 : Nat) (9223372036854775807 : Int64)).before a0 Z = true := hw _ (List.mem_of_getElem? (i := 25) rfl)
theorem w26 {Z : State} {a0 : Array Value} (hw : ∀ d ∈ tables_1, d.before a0 Z = true) : (Jvm.Cond.methodLink "com/example/interlock/interlock/SnapshotsHorizonPinLaw" (18 : Nat) ({ cls := "java/lang/Math", name := "min", desc := "(JJ)J" } : Jvm.MethodName)).before a0 Z = true := hw _ (List.mem_of_getElem? (i := 26) rfl)
theorem w27 {Z : State} {a0 : Array Value} (hw : ∀ d ∈ tables_1, d.before a0 Z = true) : (Jvm.Cond.static ({ cls := "java/lang/Math", name := "min", desc := "(JJ)J" } : Jvm.MethodName)).before a0 Z = true := hw _ (List.mem_of_getElem? (i := 27) rfl)
theorem w28 {Z : State} {a0 : Array Value} (hw : ∀ d ∈ tables_1, d.before a0 Z = true) : (Jvm.Cond.initialized "java/lang/Math").before a0 Z = true := hw _ (List.mem_of_getElem? (i := 28) rfl)
theorem w29 {Z : State} {a0 : Array Value} (hw : ∀ d ∈ tables_1, d.before a0 Z = true) : (Jvm.Cond.code ({ cls := "java/lang/Math", name := "min", desc := "(JJ)J" } : Jvm.MethodName) jdk_29_method_70_code (4 : Nat) (Option.some Jvm.ClassFile.FieldType.long)).before a0 Z = true := hw _ (List.mem_of_getElem? (i := 29) rfl)
theorem w30 {Z : State} {a0 : Array Value} (hw : ∀ d ∈ tables_1, d.before a0 Z = true) : (Jvm.Cond.methodLink "com/example/interlock/interlock/SnapshotsHorizonPinLaw" (24 : Nat) ({ cls := "java/lang/Math", name := "max", desc := "(JJ)J" } : Jvm.MethodName)).before a0 Z = true := hw _ (List.mem_of_getElem? (i := 30) rfl)
theorem w31 {Z : State} {a0 : Array Value} (hw : ∀ d ∈ tables_1, d.before a0 Z = true) : (Jvm.Cond.static ({ cls := "java/lang/Math", name := "max", desc := "(JJ)J" } : Jvm.MethodName)).before a0 Z = true := hw _ (List.mem_of_getElem? (i := 31) rfl)
theorem w32 {Z : State} {a0 : Array Value} (hw : ∀ d ∈ tables_1, d.before a0 Z = true) : (Jvm.Cond.code ({ cls := "java/lang/Math", name := "max", desc := "(JJ)J" } : Jvm.MethodName) jdk_29_method_66_code (4 : Nat) (Option.some Jvm.ClassFile.FieldType.long)).before a0 Z = true := hw _ (List.mem_of_getElem? (i := 32) rfl)
theorem w33 {Z : State} {a0 : Array Value} (hw : ∀ d ∈ tables_1, d.before a0 Z = true) : (Jvm.Cond.methodLink "com/example/interlock/interlock/SnapshotsHorizonPinLaw" (27 : Nat) ({ cls := "com/example/interlock/interlock/Snapshots", name := "hold", desc := "(J)V" } : Jvm.MethodName)).before a0 Z = true := hw _ (List.mem_of_getElem? (i := 33) rfl)
theorem w34 {Z : State} {a0 : Array Value} (hw : ∀ d ∈ tables_1, d.before a0 Z = true) : (Jvm.Cond.declares ({ cls := "com/example/interlock/interlock/Snapshots", name := "hold", desc := "(J)V" } : Jvm.MethodName)).before a0 Z = true := hw _ (List.mem_of_getElem? (i := 34) rfl)
theorem w35 {Z : State} {a0 : Array Value} (hw : ∀ d ∈ tables_1, d.before a0 Z = true) : (Jvm.Cond.instanceMethod ({ cls := "com/example/interlock/interlock/Snapshots", name := "hold", desc := "(J)V" } : Jvm.MethodName)).before a0 Z = true := hw _ (List.mem_of_getElem? (i := 35) rfl)
theorem w36 {Z : State} {a0 : Array Value} (hw : ∀ d ∈ tables_1, d.before a0 Z = true) : (Jvm.Cond.selects "com/example/interlock/interlock/Snapshots" ({ cls := "com/example/interlock/interlock/Snapshots", name := "hold", desc := "(J)V" } : Jvm.MethodName) ({ cls := "com/example/interlock/interlock/Snapshots", name := "hold", desc := "(J)V" } : Jvm.MethodName)).before a0 Z = true := hw _ (List.mem_of_getElem? (i := 36) rfl)
theorem w37 {Z : State} {a0 : Array Value} (hw : ∀ d ∈ tables_1, d.before a0 Z = true) : (Jvm.Cond.code ({ cls := "com/example/interlock/interlock/Snapshots", name := "hold", desc := "(J)V" } : Jvm.MethodName) prog_27_method_2_code (3 : Nat) (Option.none : Option Jvm.ClassFile.FieldType)).before a0 Z = true := hw _ (List.mem_of_getElem? (i := 37) rfl)
theorem w38 {Z : State} {a0 : Array Value} (hw : ∀ d ∈ tables_1, d.before a0 Z = true) : (Jvm.Cond.methodLink "com/example/interlock/interlock/SnapshotsHorizonPinLaw" (31 : Nat) ({ cls := "com/example/interlock/interlock/Snapshots", name := "release", desc := "(J)V" } : Jvm.MethodName)).before a0 Z = true := hw _ (List.mem_of_getElem? (i := 38) rfl)
theorem w39 {Z : State} {a0 : Array Value} (hw : ∀ d ∈ tables_1, d.before a0 Z = true) : (Jvm.Cond.declares ({ cls := "com/example/interlock/interlock/Snapshots", name := "release", desc := "(J)V" } : Jvm.MethodName)).before a0 Z = true := hw _ (List.mem_of_getElem? (i := 39) rfl)
theorem w40 {Z : State} {a0 : Array Value} (hw : ∀ d ∈ tables_1, d.before a0 Z = true) : (Jvm.Cond.instanceMethod ({ cls := "com/example/interlock/interlock/Snapshots", name := "release", desc := "(J)V" } : Jvm.MethodName)).before a0 Z = true := hw _ (List.mem_of_getElem? (i := 40) rfl)
theorem w41 {Z : State} {a0 : Array Value} (hw : ∀ d ∈ tables_1, d.before a0 Z = true) : (Jvm.Cond.selects "com/example/interlock/interlock/Snapshots" ({ cls := "com/example/interlock/interlock/Snapshots", name := "release", desc := "(J)V" } : Jvm.MethodName) ({ cls := "com/example/interlock/interlock/Snapshots", name := "release", desc := "(J)V" } : Jvm.MethodName)).before a0 Z = true := hw _ (List.mem_of_getElem? (i := 41) rfl)
theorem w42 {Z : State} {a0 : Array Value} (hw : ∀ d ∈ tables_1, d.before a0 Z = true) : (Jvm.Cond.code ({ cls := "com/example/interlock/interlock/Snapshots", name := "release", desc := "(J)V" } : Jvm.MethodName) prog_27_method_3_code (4 : Nat) (Option.none : Option Jvm.ClassFile.FieldType)).before a0 Z = true := hw _ (List.mem_of_getElem? (i := 42) rfl)
theorem w43 {Z : State} {a0 : Array Value} (hw : ∀ d ∈ tables_1, d.before a0 Z = true) : (Jvm.Cond.methodLink "com/example/interlock/interlock/Snapshots" (39 : Nat) ({ cls := "java/util/Arrays", name := "binarySearch", desc := "([JIIJ)I" } : Jvm.MethodName)).before a0 Z = true := hw _ (List.mem_of_getElem? (i := 43) rfl)
theorem w44 {Z : State} {a0 : Array Value} (hw : ∀ d ∈ tables_1, d.before a0 Z = true) : (Jvm.Cond.static ({ cls := "java/util/Arrays", name := "binarySearch", desc := "([JIIJ)I" } : Jvm.MethodName)).before a0 Z = true := hw _ (List.mem_of_getElem? (i := 44) rfl)
theorem w45 {Z : State} {a0 : Array Value} (hw : ∀ d ∈ tables_1, d.before a0 Z = true) : (Jvm.Cond.initialized "java/util/Arrays").before a0 Z = true := hw _ (List.mem_of_getElem? (i := 45) rfl)
theorem w46 {Z : State} {a0 : Array Value} (hw : ∀ d ∈ tables_1, d.before a0 Z = true) : (Jvm.Cond.code ({ cls := "java/util/Arrays", name := "binarySearch", desc := "([JIIJ)I" } : Jvm.MethodName) jdk_65_method_55_code (5 : Nat) (Option.some Jvm.ClassFile.FieldType.int)).before a0 Z = true := hw _ (List.mem_of_getElem? (i := 46) rfl)
theorem w47 {Z : State} {a0 : Array Value} (hw : ∀ d ∈ tables_1, d.before a0 Z = true) : (Jvm.Cond.methodLink "java/util/Arrays" (13 : Nat) ({ cls := "java/util/Arrays", name := "rangeCheck", desc := "(III)V" } : Jvm.MethodName)).before a0 Z = true := hw _ (List.mem_of_getElem? (i := 47) rfl)
theorem w48 {Z : State} {a0 : Array Value} (hw : ∀ d ∈ tables_1, d.before a0 Z = true) : (Jvm.Cond.static ({ cls := "java/util/Arrays", name := "rangeCheck", desc := "(III)V" } : Jvm.MethodName)).before a0 Z = true := hw _ (List.mem_of_getElem? (i := 48) rfl)
theorem w49 {Z : State} {a0 : Array Value} (hw : ∀ d ∈ tables_1, d.before a0 Z = true) : (Jvm.Cond.code ({ cls := "java/util/Arrays", name := "rangeCheck", desc := "(III)V" } : Jvm.MethodName) jdk_65_method_30_code (3 : Nat) (Option.none : Option Jvm.ClassFile.FieldType)).before a0 Z = true := hw _ (List.mem_of_getElem? (i := 49) rfl)
theorem w50 {Z : State} {a0 : Array Value} (hw : ∀ d ∈ tables_1, d.before a0 Z = true) : (Jvm.Cond.methodLink "java/util/Arrays" (205 : Nat) ({ cls := "java/util/Arrays", name := "binarySearch0", desc := "([JIIJ)I" } : Jvm.MethodName)).before a0 Z = true := hw _ (List.mem_of_getElem? (i := 50) rfl)
theorem w51 {Z : State} {a0 : Array Value} (hw : ∀ d ∈ tables_1, d.before a0 Z = true) : (Jvm.Cond.static ({ cls := "java/util/Arrays", name := "binarySearch0", desc := "([JIIJ)I" } : Jvm.MethodName)).before a0 Z = true := hw _ (List.mem_of_getElem? (i := 51) rfl)
theorem w52 {Z : State} {a0 : Array Value} (hw : ∀ d ∈ tables_1, d.before a0 Z = true) : (Jvm.Cond.code ({ cls := "java/util/Arrays", name := "binarySearch0", desc := "([JIIJ)I" } : Jvm.MethodName) jdk_65_method_56_code (10 : Nat) (Option.some Jvm.ClassFile.FieldType.int)).before a0 Z = true := hw _ (List.mem_of_getElem? (i := 52) rfl)
theorem w53 {Z : State} {a0 : Array Value} (hw : ∀ d ∈ tables_1, d.before a0 Z = true) : (Jvm.Cond.fieldLink "com/example/interlock/interlock/Snapshots" (33 : Nat) "com/example/interlock/interlock/Snapshots" "unheld" "I").before a0 Z = true := hw _ (List.mem_of_getElem? (i := 53) rfl)
theorem w54 {Z : State} {a0 : Array Value} (hw : ∀ d ∈ tables_1, d.before a0 Z = true) : (Jvm.Cond.lays "com/example/interlock/interlock/Snapshots" "com/example/interlock/interlock/Snapshots" "unheld" "I").before a0 Z = true := hw _ (List.mem_of_getElem? (i := 54) rfl)
theorem w55 {Z : State} {a0 : Array Value} (hw : ∀ d ∈ tables_1, d.before a0 Z = true) : (Jvm.Cond.methodLink "com/example/interlock/interlock/Snapshots" (45 : Nat) ({ cls := "com/example/interlock/interlock/Snapshots", name := "compact", desc := "()V" } : Jvm.MethodName)).before a0 Z = true := hw _ (List.mem_of_getElem? (i := 55) rfl)
theorem w56 {Z : State} {a0 : Array Value} (hw : ∀ d ∈ tables_1, d.before a0 Z = true) : (Jvm.Cond.instanceMethod ({ cls := "com/example/interlock/interlock/Snapshots", name := "compact", desc := "()V" } : Jvm.MethodName)).before a0 Z = true := hw _ (List.mem_of_getElem? (i := 56) rfl)
theorem w57 {Z : State} {a0 : Array Value} (hw : ∀ d ∈ tables_1, d.before a0 Z = true) : (Jvm.Cond.privateMethod ({ cls := "com/example/interlock/interlock/Snapshots", name := "compact", desc := "()V" } : Jvm.MethodName)).before a0 Z = true := hw _ (List.mem_of_getElem? (i := 57) rfl)
theorem w58 {Z : State} {a0 : Array Value} (hw : ∀ d ∈ tables_1, d.before a0 Z = true) : (Jvm.Cond.code ({ cls := "com/example/interlock/interlock/Snapshots", name := "compact", desc := "()V" } : Jvm.MethodName) prog_27_method_6_code (3 : Nat) (Option.none : Option Jvm.ClassFile.FieldType)).before a0 Z = true := hw _ (List.mem_of_getElem? (i := 58) rfl)
theorem pd0 : parseMethodDescriptor "(III)V" = some ⟨[.int, .int, .int], none⟩ := by decide +kernel
theorem pd1 : parseMethodDescriptor "([JIIJ)I" = some ⟨[(.array .long), .int, .int, .long], some .int⟩ := by decide +kernel
theorem pd2 : parseMethodDescriptor "()V" = some ⟨[], none⟩ := by decide +kernel
theorem pd3 : parseMethodDescriptor "()J" = some ⟨[], some .long⟩ := by decide +kernel
theorem pd4 : parseMethodDescriptor "(JJ)J" = some ⟨[.long, .long], some .long⟩ := by decide +kernel
theorem pd5 : parseMethodDescriptor "(J)V" = some ⟨[.long], none⟩ := by decide +kernel
theorem d1_0 : decode prog_27_method_1_code 0 = .ok (.aload_n 0, 1) := by decide +kernel
theorem d1_1 : decode prog_27_method_1_code 1 = .ok (.invokespecial 1, 3) := by decide +kernel
theorem d1_4 : decode prog_27_method_1_code 4 = .ok (.aload_n 0, 1) := by decide +kernel
theorem d1_5 : decode prog_27_method_1_code 5 = .ok (.bipush 8, 2) := by decide +kernel
theorem d1_7 : decode prog_27_method_1_code 7 = .ok (.newarray .long, 2) := by decide +kernel
theorem d1_9 : decode prog_27_method_1_code 9 = .ok (.putfield 7, 3) := by decide +kernel
theorem d1_12 : decode prog_27_method_1_code 12 = .ok (.aload_n 0, 1) := by decide +kernel
theorem d1_13 : decode prog_27_method_1_code 13 = .ok (.bipush 8, 2) := by decide +kernel
theorem d1_15 : decode prog_27_method_1_code 15 = .ok (.newarray .int, 2) := by decide +kernel
theorem d1_17 : decode prog_27_method_1_code 17 = .ok (.putfield 13, 3) := by decide +kernel
theorem d1_20 : decode prog_27_method_1_code 20 = .ok (.return_, 1) := by decide +kernel
theorem d3_0 : decode prog_27_method_4_code 0 = .ok (.aload_n 0, 1) := by decide +kernel
theorem d3_1 : decode prog_27_method_4_code 1 = .ok (.getfield 17, 3) := by decide +kernel
theorem d3_4 : decode prog_27_method_4_code 4 = .ok (.aload_n 0, 1) := by decide +kernel
theorem d3_5 : decode prog_27_method_4_code 5 = .ok (.getfield 21, 3) := by decide +kernel
theorem d3_8 : decode prog_27_method_4_code 8 = .ok (.if_icmp .ne 9, 3) := by decide +kernel
theorem d3_11 : decode prog_27_method_4_code 11 = .ok (.ldc2_w 50, 3) := by decide +kernel
theorem d3_14 : decode prog_27_method_4_code 14 = .ok (.goto 12, 3) := by decide +kernel
theorem d3_17 : decode prog_27_method_4_code 17 = .ok (.aload_n 0, 1) := by decide +kernel
theorem d3_18 : decode prog_27_method_4_code 18 = .ok (.getfield 7, 3) := by decide +kernel
theorem d3_21 : decode prog_27_method_4_code 21 = .ok (.aload_n 0, 1) := by decide +kernel
theorem d3_22 : decode prog_27_method_4_code 22 = .ok (.getfield 17, 3) := by decide +kernel
theorem d3_25 : decode prog_27_method_4_code 25 = .ok (.laload, 1) := by decide +kernel
theorem d3_26 : decode prog_27_method_4_code 26 = .ok (.lreturn, 1) := by decide +kernel
theorem d4_0 : decode jdk_29_method_70_code 0 = .ok (.lload_n 0, 1) := by decide +kernel
theorem d4_1 : decode jdk_29_method_70_code 1 = .ok (.lload_n 2, 1) := by decide +kernel
theorem d4_2 : decode jdk_29_method_70_code 2 = .ok (.lcmp, 1) := by decide +kernel
theorem d4_3 : decode jdk_29_method_70_code 3 = .ok (.ifCond .gt 7, 3) := by decide +kernel
theorem d4_6 : decode jdk_29_method_70_code 6 = .ok (.lload_n 0, 1) := by decide +kernel
theorem d4_7 : decode jdk_29_method_70_code 7 = .ok (.goto 4, 3) := by decide +kernel
theorem d4_10 : decode jdk_29_method_70_code 10 = .ok (.lload_n 2, 1) := by decide +kernel
theorem d4_11 : decode jdk_29_method_70_code 11 = .ok (.lreturn, 1) := by decide +kernel
theorem d5_0 : decode jdk_29_method_66_code 0 = .ok (.lload_n 0, 1) := by decide +kernel
theorem d5_1 : decode jdk_29_method_66_code 1 = .ok (.lload_n 2, 1) := by decide +kernel
theorem d5_2 : decode jdk_29_method_66_code 2 = .ok (.lcmp, 1) := by decide +kernel
theorem d5_3 : decode jdk_29_method_66_code 3 = .ok (.ifCond .lt 7, 3) := by decide +kernel
theorem d5_6 : decode jdk_29_method_66_code 6 = .ok (.lload_n 0, 1) := by decide +kernel
theorem d5_7 : decode jdk_29_method_66_code 7 = .ok (.goto 4, 3) := by decide +kernel
theorem d5_10 : decode jdk_29_method_66_code 10 = .ok (.lload_n 2, 1) := by decide +kernel
theorem d5_11 : decode jdk_29_method_66_code 11 = .ok (.lreturn, 1) := by decide +kernel
theorem d6_0 : decode prog_27_method_2_code 0 = .ok (.aload_n 0, 1) := by decide +kernel
theorem d6_1 : decode prog_27_method_2_code 1 = .ok (.getfield 17, 3) := by decide +kernel
theorem d6_4 : decode prog_27_method_2_code 4 = .ok (.aload_n 0, 1) := by decide +kernel
theorem d6_5 : decode prog_27_method_2_code 5 = .ok (.getfield 21, 3) := by decide +kernel
theorem d6_8 : decode prog_27_method_2_code 8 = .ok (.if_icmp .ge 44, 3) := by decide +kernel
theorem d6_11 : decode prog_27_method_2_code 11 = .ok (.aload_n 0, 1) := by decide +kernel
theorem d6_12 : decode prog_27_method_2_code 12 = .ok (.getfield 7, 3) := by decide +kernel
theorem d6_15 : decode prog_27_method_2_code 15 = .ok (.aload_n 0, 1) := by decide +kernel
theorem d6_16 : decode prog_27_method_2_code 16 = .ok (.getfield 21, 3) := by decide +kernel
theorem d6_19 : decode prog_27_method_2_code 19 = .ok (.iconst 1, 1) := by decide +kernel
theorem d6_20 : decode prog_27_method_2_code 20 = .ok (.isub, 1) := by decide +kernel
theorem d6_21 : decode prog_27_method_2_code 21 = .ok (.laload, 1) := by decide +kernel
theorem d6_22 : decode prog_27_method_2_code 22 = .ok (.lload_n 1, 1) := by decide +kernel
theorem d6_23 : decode prog_27_method_2_code 23 = .ok (.lcmp, 1) := by decide +kernel
theorem d6_24 : decode prog_27_method_2_code 24 = .ok (.ifCond .le 28, 3) := by decide +kernel
theorem d6_52 : decode prog_27_method_2_code 52 = .ok (.aload_n 0, 1) := by decide +kernel
theorem d6_53 : decode prog_27_method_2_code 53 = .ok (.getfield 17, 3) := by decide +kernel
theorem d6_56 : decode prog_27_method_2_code 56 = .ok (.aload_n 0, 1) := by decide +kernel
theorem d6_57 : decode prog_27_method_2_code 57 = .ok (.getfield 21, 3) := by decide +kernel
theorem d6_60 : decode prog_27_method_2_code 60 = .ok (.if_icmp .ge 59, 3) := by decide +kernel
theorem d6_63 : decode prog_27_method_2_code 63 = .ok (.aload_n 0, 1) := by decide +kernel
theorem d6_64 : decode prog_27_method_2_code 64 = .ok (.getfield 7, 3) := by decide +kernel
theorem d6_67 : decode prog_27_method_2_code 67 = .ok (.aload_n 0, 1) := by decide +kernel
theorem d6_68 : decode prog_27_method_2_code 68 = .ok (.getfield 21, 3) := by decide +kernel
theorem d6_71 : decode prog_27_method_2_code 71 = .ok (.iconst 1, 1) := by decide +kernel
theorem d6_72 : decode prog_27_method_2_code 72 = .ok (.isub, 1) := by decide +kernel
theorem d6_73 : decode prog_27_method_2_code 73 = .ok (.laload, 1) := by decide +kernel
theorem d6_74 : decode prog_27_method_2_code 74 = .ok (.lload_n 1, 1) := by decide +kernel
theorem d6_75 : decode prog_27_method_2_code 75 = .ok (.lcmp, 1) := by decide +kernel
theorem d6_76 : decode prog_27_method_2_code 76 = .ok (.ifCond .ne 43, 3) := by decide +kernel
theorem d6_79 : decode prog_27_method_2_code 79 = .ok (.aload_n 0, 1) := by decide +kernel
theorem d6_80 : decode prog_27_method_2_code 80 = .ok (.getfield 13, 3) := by decide +kernel
theorem d6_83 : decode prog_27_method_2_code 83 = .ok (.aload_n 0, 1) := by decide +kernel
theorem d6_84 : decode prog_27_method_2_code 84 = .ok (.getfield 21, 3) := by decide +kernel
theorem d6_87 : decode prog_27_method_2_code 87 = .ok (.iconst 1, 1) := by decide +kernel
theorem d6_88 : decode prog_27_method_2_code 88 = .ok (.isub, 1) := by decide +kernel
theorem d6_89 : decode prog_27_method_2_code 89 = .ok (.iaload, 1) := by decide +kernel
theorem d6_90 : decode prog_27_method_2_code 90 = .ok (.ifCond .ne 13, 3) := by decide +kernel
theorem d6_93 : decode prog_27_method_2_code 93 = .ok (.aload_n 0, 1) := by decide +kernel
theorem d6_94 : decode prog_27_method_2_code 94 = .ok (.dup, 1) := by decide +kernel
theorem d6_95 : decode prog_27_method_2_code 95 = .ok (.getfield 33, 3) := by decide +kernel
theorem d6_98 : decode prog_27_method_2_code 98 = .ok (.iconst 1, 1) := by decide +kernel
theorem d6_99 : decode prog_27_method_2_code 99 = .ok (.isub, 1) := by decide +kernel
theorem d6_100 : decode prog_27_method_2_code 100 = .ok (.putfield 33, 3) := by decide +kernel
theorem d6_103 : decode prog_27_method_2_code 103 = .ok (.aload_n 0, 1) := by decide +kernel
theorem d6_104 : decode prog_27_method_2_code 104 = .ok (.getfield 13, 3) := by decide +kernel
theorem d6_107 : decode prog_27_method_2_code 107 = .ok (.aload_n 0, 1) := by decide +kernel
theorem d6_108 : decode prog_27_method_2_code 108 = .ok (.getfield 21, 3) := by decide +kernel
theorem d6_111 : decode prog_27_method_2_code 111 = .ok (.iconst 1, 1) := by decide +kernel
theorem d6_112 : decode prog_27_method_2_code 112 = .ok (.isub, 1) := by decide +kernel
theorem d6_113 : decode prog_27_method_2_code 113 = .ok (.dup2, 1) := by decide +kernel
theorem d6_114 : decode prog_27_method_2_code 114 = .ok (.iaload, 1) := by decide +kernel
theorem d6_115 : decode prog_27_method_2_code 115 = .ok (.iconst 1, 1) := by decide +kernel
theorem d6_116 : decode prog_27_method_2_code 116 = .ok (.iadd, 1) := by decide +kernel
theorem d6_117 : decode prog_27_method_2_code 117 = .ok (.iastore, 1) := by decide +kernel
theorem d6_118 : decode prog_27_method_2_code 118 = .ok (.return_, 1) := by decide +kernel
theorem d6_119 : decode prog_27_method_2_code 119 = .ok (.aload_n 0, 1) := by decide +kernel
theorem d6_120 : decode prog_27_method_2_code 120 = .ok (.getfield 21, 3) := by decide +kernel
theorem d6_123 : decode prog_27_method_2_code 123 = .ok (.aload_n 0, 1) := by decide +kernel
theorem d6_124 : decode prog_27_method_2_code 124 = .ok (.getfield 7, 3) := by decide +kernel
theorem d6_127 : decode prog_27_method_2_code 127 = .ok (.arraylength, 1) := by decide +kernel
theorem d6_128 : decode prog_27_method_2_code 128 = .ok (.if_icmp .ne 7, 3) := by decide +kernel
theorem d6_135 : decode prog_27_method_2_code 135 = .ok (.aload_n 0, 1) := by decide +kernel
theorem d6_136 : decode prog_27_method_2_code 136 = .ok (.getfield 7, 3) := by decide +kernel
theorem d6_139 : decode prog_27_method_2_code 139 = .ok (.aload_n 0, 1) := by decide +kernel
theorem d6_140 : decode prog_27_method_2_code 140 = .ok (.getfield 21, 3) := by decide +kernel
theorem d6_143 : decode prog_27_method_2_code 143 = .ok (.lload_n 1, 1) := by decide +kernel
theorem d6_144 : decode prog_27_method_2_code 144 = .ok (.lastore, 1) := by decide +kernel
theorem d6_145 : decode prog_27_method_2_code 145 = .ok (.aload_n 0, 1) := by decide +kernel
theorem d6_146 : decode prog_27_method_2_code 146 = .ok (.getfield 13, 3) := by decide +kernel
theorem d6_149 : decode prog_27_method_2_code 149 = .ok (.aload_n 0, 1) := by decide +kernel
theorem d6_150 : decode prog_27_method_2_code 150 = .ok (.getfield 21, 3) := by decide +kernel
theorem d6_153 : decode prog_27_method_2_code 153 = .ok (.iconst 1, 1) := by decide +kernel
theorem d6_154 : decode prog_27_method_2_code 154 = .ok (.iastore, 1) := by decide +kernel
theorem d6_155 : decode prog_27_method_2_code 155 = .ok (.aload_n 0, 1) := by decide +kernel
theorem d6_156 : decode prog_27_method_2_code 156 = .ok (.dup, 1) := by decide +kernel
theorem d6_157 : decode prog_27_method_2_code 157 = .ok (.getfield 21, 3) := by decide +kernel
theorem d6_160 : decode prog_27_method_2_code 160 = .ok (.iconst 1, 1) := by decide +kernel
theorem d6_161 : decode prog_27_method_2_code 161 = .ok (.iadd, 1) := by decide +kernel
theorem d6_162 : decode prog_27_method_2_code 162 = .ok (.putfield 21, 3) := by decide +kernel
theorem d6_165 : decode prog_27_method_2_code 165 = .ok (.return_, 1) := by decide +kernel
theorem d7_0 : decode prog_27_method_3_code 0 = .ok (.aload_n 0, 1) := by decide +kernel
theorem d7_1 : decode prog_27_method_3_code 1 = .ok (.getfield 7, 3) := by decide +kernel
theorem d7_4 : decode prog_27_method_3_code 4 = .ok (.aload_n 0, 1) := by decide +kernel
theorem d7_5 : decode prog_27_method_3_code 5 = .ok (.getfield 17, 3) := by decide +kernel
theorem d7_8 : decode prog_27_method_3_code 8 = .ok (.aload_n 0, 1) := by decide +kernel
theorem d7_9 : decode prog_27_method_3_code 9 = .ok (.getfield 21, 3) := by decide +kernel
theorem d7_12 : decode prog_27_method_3_code 12 = .ok (.lload_n 1, 1) := by decide +kernel
theorem d7_13 : decode prog_27_method_3_code 13 = .ok (.invokestatic 39, 3) := by decide +kernel
theorem d7_16 : decode prog_27_method_3_code 16 = .ok (.istore_n 3, 1) := by decide +kernel
theorem d7_17 : decode prog_27_method_3_code 17 = .ok (.aload_n 0, 1) := by decide +kernel
theorem d7_18 : decode prog_27_method_3_code 18 = .ok (.getfield 13, 3) := by decide +kernel
theorem d7_21 : decode prog_27_method_3_code 21 = .ok (.iload_n 3, 1) := by decide +kernel
theorem d7_22 : decode prog_27_method_3_code 22 = .ok (.dup2, 1) := by decide +kernel
theorem d7_23 : decode prog_27_method_3_code 23 = .ok (.iaload, 1) := by decide +kernel
theorem d7_24 : decode prog_27_method_3_code 24 = .ok (.iconst 1, 1) := by decide +kernel
theorem d7_25 : decode prog_27_method_3_code 25 = .ok (.isub, 1) := by decide +kernel
theorem d7_26 : decode prog_27_method_3_code 26 = .ok (.iastore, 1) := by decide +kernel
theorem d7_27 : decode prog_27_method_3_code 27 = .ok (.aload_n 0, 1) := by decide +kernel
theorem d7_28 : decode prog_27_method_3_code 28 = .ok (.getfield 13, 3) := by decide +kernel
theorem d7_31 : decode prog_27_method_3_code 31 = .ok (.iload_n 3, 1) := by decide +kernel
theorem d7_32 : decode prog_27_method_3_code 32 = .ok (.iaload, 1) := by decide +kernel
theorem d7_33 : decode prog_27_method_3_code 33 = .ok (.ifCond .ne 105, 3) := by decide +kernel
theorem d7_36 : decode prog_27_method_3_code 36 = .ok (.aload_n 0, 1) := by decide +kernel
theorem d7_37 : decode prog_27_method_3_code 37 = .ok (.dup, 1) := by decide +kernel
theorem d7_38 : decode prog_27_method_3_code 38 = .ok (.getfield 33, 3) := by decide +kernel
theorem d7_41 : decode prog_27_method_3_code 41 = .ok (.iconst 1, 1) := by decide +kernel
theorem d7_42 : decode prog_27_method_3_code 42 = .ok (.iadd, 1) := by decide +kernel
theorem d7_43 : decode prog_27_method_3_code 43 = .ok (.putfield 33, 3) := by decide +kernel
theorem d7_46 : decode prog_27_method_3_code 46 = .ok (.aload_n 0, 1) := by decide +kernel
theorem d7_47 : decode prog_27_method_3_code 47 = .ok (.getfield 17, 3) := by decide +kernel
theorem d7_50 : decode prog_27_method_3_code 50 = .ok (.aload_n 0, 1) := by decide +kernel
theorem d7_51 : decode prog_27_method_3_code 51 = .ok (.getfield 21, 3) := by decide +kernel
theorem d7_54 : decode prog_27_method_3_code 54 = .ok (.if_icmp .ge 38, 3) := by decide +kernel
theorem d7_57 : decode prog_27_method_3_code 57 = .ok (.aload_n 0, 1) := by decide +kernel
theorem d7_58 : decode prog_27_method_3_code 58 = .ok (.getfield 13, 3) := by decide +kernel
theorem d7_61 : decode prog_27_method_3_code 61 = .ok (.aload_n 0, 1) := by decide +kernel
theorem d7_62 : decode prog_27_method_3_code 62 = .ok (.getfield 17, 3) := by decide +kernel
theorem d7_65 : decode prog_27_method_3_code 65 = .ok (.iaload, 1) := by decide +kernel
theorem d7_66 : decode prog_27_method_3_code 66 = .ok (.ifCond .ne 26, 3) := by decide +kernel
theorem d7_69 : decode prog_27_method_3_code 69 = .ok (.aload_n 0, 1) := by decide +kernel
theorem d7_70 : decode prog_27_method_3_code 70 = .ok (.dup, 1) := by decide +kernel
theorem d7_71 : decode prog_27_method_3_code 71 = .ok (.getfield 17, 3) := by decide +kernel
theorem d7_74 : decode prog_27_method_3_code 74 = .ok (.iconst 1, 1) := by decide +kernel
theorem d7_75 : decode prog_27_method_3_code 75 = .ok (.iadd, 1) := by decide +kernel
theorem d7_76 : decode prog_27_method_3_code 76 = .ok (.putfield 17, 3) := by decide +kernel
theorem d7_79 : decode prog_27_method_3_code 79 = .ok (.aload_n 0, 1) := by decide +kernel
theorem d7_80 : decode prog_27_method_3_code 80 = .ok (.dup, 1) := by decide +kernel
theorem d7_81 : decode prog_27_method_3_code 81 = .ok (.getfield 33, 3) := by decide +kernel
theorem d7_84 : decode prog_27_method_3_code 84 = .ok (.iconst 1, 1) := by decide +kernel
theorem d7_85 : decode prog_27_method_3_code 85 = .ok (.isub, 1) := by decide +kernel
theorem d7_86 : decode prog_27_method_3_code 86 = .ok (.putfield 33, 3) := by decide +kernel
theorem d7_89 : decode prog_27_method_3_code 89 = .ok (.goto (-43), 3) := by decide +kernel
theorem d7_92 : decode prog_27_method_3_code 92 = .ok (.aload_n 0, 1) := by decide +kernel
theorem d7_93 : decode prog_27_method_3_code 93 = .ok (.getfield 17, 3) := by decide +kernel
theorem d7_96 : decode prog_27_method_3_code 96 = .ok (.aload_n 0, 1) := by decide +kernel
theorem d7_97 : decode prog_27_method_3_code 97 = .ok (.getfield 21, 3) := by decide +kernel
theorem d7_100 : decode prog_27_method_3_code 100 = .ok (.if_icmp .ne 16, 3) := by decide +kernel
theorem d7_103 : decode prog_27_method_3_code 103 = .ok (.aload_n 0, 1) := by decide +kernel
theorem d7_104 : decode prog_27_method_3_code 104 = .ok (.iconst 0, 1) := by decide +kernel
theorem d7_105 : decode prog_27_method_3_code 105 = .ok (.putfield 17, 3) := by decide +kernel
theorem d7_108 : decode prog_27_method_3_code 108 = .ok (.aload_n 0, 1) := by decide +kernel
theorem d7_109 : decode prog_27_method_3_code 109 = .ok (.iconst 0, 1) := by decide +kernel
theorem d7_110 : decode prog_27_method_3_code 110 = .ok (.putfield 21, 3) := by decide +kernel
theorem d7_113 : decode prog_27_method_3_code 113 = .ok (.goto 25, 3) := by decide +kernel
theorem d7_116 : decode prog_27_method_3_code 116 = .ok (.aload_n 0, 1) := by decide +kernel
theorem d7_117 : decode prog_27_method_3_code 117 = .ok (.getfield 33, 3) := by decide +kernel
theorem d7_120 : decode prog_27_method_3_code 120 = .ok (.iconst 2, 1) := by decide +kernel
theorem d7_121 : decode prog_27_method_3_code 121 = .ok (.imul, 1) := by decide +kernel
theorem d7_122 : decode prog_27_method_3_code 122 = .ok (.aload_n 0, 1) := by decide +kernel
theorem d7_123 : decode prog_27_method_3_code 123 = .ok (.getfield 21, 3) := by decide +kernel
theorem d7_126 : decode prog_27_method_3_code 126 = .ok (.aload_n 0, 1) := by decide +kernel
theorem d7_127 : decode prog_27_method_3_code 127 = .ok (.getfield 17, 3) := by decide +kernel
theorem d7_130 : decode prog_27_method_3_code 130 = .ok (.isub, 1) := by decide +kernel
theorem d7_131 : decode prog_27_method_3_code 131 = .ok (.if_icmp .le 7, 3) := by decide +kernel
theorem d7_134 : decode prog_27_method_3_code 134 = .ok (.aload_n 0, 1) := by decide +kernel
theorem d7_135 : decode prog_27_method_3_code 135 = .ok (.invokevirtual 45, 3) := by decide +kernel
theorem d7_138 : decode prog_27_method_3_code 138 = .ok (.return_, 1) := by decide +kernel
theorem d8_0 : decode jdk_65_method_55_code 0 = .ok (.aload_n 0, 1) := by decide +kernel
theorem d8_1 : decode jdk_65_method_55_code 1 = .ok (.arraylength, 1) := by decide +kernel
theorem d8_2 : decode jdk_65_method_55_code 2 = .ok (.iload_n 1, 1) := by decide +kernel
theorem d8_3 : decode jdk_65_method_55_code 3 = .ok (.iload_n 2, 1) := by decide +kernel
theorem d8_4 : decode jdk_65_method_55_code 4 = .ok (.invokestatic 13, 3) := by decide +kernel
theorem d8_7 : decode jdk_65_method_55_code 7 = .ok (.aload_n 0, 1) := by decide +kernel
theorem d8_8 : decode jdk_65_method_55_code 8 = .ok (.iload_n 1, 1) := by decide +kernel
theorem d8_9 : decode jdk_65_method_55_code 9 = .ok (.iload_n 2, 1) := by decide +kernel
theorem d8_10 : decode jdk_65_method_55_code 10 = .ok (.lload_n 3, 1) := by decide +kernel
theorem d8_11 : decode jdk_65_method_55_code 11 = .ok (.invokestatic 205, 3) := by decide +kernel
theorem d8_14 : decode jdk_65_method_55_code 14 = .ok (.ireturn, 1) := by decide +kernel
theorem d9_0 : decode jdk_65_method_30_code 0 = .ok (.iload_n 1, 1) := by decide +kernel
theorem d9_1 : decode jdk_65_method_30_code 1 = .ok (.iload_n 2, 1) := by decide +kernel
theorem d9_2 : decode jdk_65_method_30_code 2 = .ok (.if_icmp .le 44, 3) := by decide +kernel
theorem d9_46 : decode jdk_65_method_30_code 46 = .ok (.iload_n 1, 1) := by decide +kernel
theorem d9_47 : decode jdk_65_method_30_code 47 = .ok (.ifCond .ge 12, 3) := by decide +kernel
theorem d9_59 : decode jdk_65_method_30_code 59 = .ok (.iload_n 2, 1) := by decide +kernel
theorem d9_60 : decode jdk_65_method_30_code 60 = .ok (.iload_n 0, 1) := by decide +kernel
theorem d9_61 : decode jdk_65_method_30_code 61 = .ok (.if_icmp .le 12, 3) := by decide +kernel
theorem d9_73 : decode jdk_65_method_30_code 73 = .ok (.return_, 1) := by decide +kernel
theorem d10_0 : decode jdk_65_method_56_code 0 = .ok (.iload_n 1, 1) := by decide +kernel
theorem d10_1 : decode jdk_65_method_56_code 1 = .ok (.istore 5, 2) := by decide +kernel
theorem d10_3 : decode jdk_65_method_56_code 3 = .ok (.iload_n 2, 1) := by decide +kernel
theorem d10_4 : decode jdk_65_method_56_code 4 = .ok (.iconst 1, 1) := by decide +kernel
theorem d10_5 : decode jdk_65_method_56_code 5 = .ok (.isub, 1) := by decide +kernel
theorem d10_6 : decode jdk_65_method_56_code 6 = .ok (.istore 6, 2) := by decide +kernel
theorem d10_8 : decode jdk_65_method_56_code 8 = .ok (.iload 5, 2) := by decide +kernel
theorem d10_10 : decode jdk_65_method_56_code 10 = .ok (.iload 6, 2) := by decide +kernel
theorem d10_12 : decode jdk_65_method_56_code 12 = .ok (.if_icmp .gt 56, 3) := by decide +kernel
theorem d10_15 : decode jdk_65_method_56_code 15 = .ok (.iload 5, 2) := by decide +kernel
theorem d10_17 : decode jdk_65_method_56_code 17 = .ok (.iload 6, 2) := by decide +kernel
theorem d10_19 : decode jdk_65_method_56_code 19 = .ok (.iadd, 1) := by decide +kernel
theorem d10_20 : decode jdk_65_method_56_code 20 = .ok (.iconst 1, 1) := by decide +kernel
theorem d10_21 : decode jdk_65_method_56_code 21 = .ok (.iushr, 1) := by decide +kernel
theorem d10_22 : decode jdk_65_method_56_code 22 = .ok (.istore 7, 2) := by decide +kernel
theorem d10_24 : decode jdk_65_method_56_code 24 = .ok (.aload_n 0, 1) := by decide +kernel
theorem d10_25 : decode jdk_65_method_56_code 25 = .ok (.iload 7, 2) := by decide +kernel
theorem d10_27 : decode jdk_65_method_56_code 27 = .ok (.laload, 1) := by decide +kernel
theorem d10_28 : decode jdk_65_method_56_code 28 = .ok (.lstore 8, 2) := by decide +kernel
theorem d10_30 : decode jdk_65_method_56_code 30 = .ok (.lload 8, 2) := by decide +kernel
theorem d10_32 : decode jdk_65_method_56_code 32 = .ok (.lload_n 3, 1) := by decide +kernel
theorem d10_33 : decode jdk_65_method_56_code 33 = .ok (.lcmp, 1) := by decide +kernel
theorem d10_34 : decode jdk_65_method_56_code 34 = .ok (.ifCond .ge 12, 3) := by decide +kernel
theorem d10_37 : decode jdk_65_method_56_code 37 = .ok (.iload 7, 2) := by decide +kernel
theorem d10_39 : decode jdk_65_method_56_code 39 = .ok (.iconst 1, 1) := by decide +kernel
theorem d10_40 : decode jdk_65_method_56_code 40 = .ok (.iadd, 1) := by decide +kernel
theorem d10_41 : decode jdk_65_method_56_code 41 = .ok (.istore 5, 2) := by decide +kernel
theorem d10_43 : decode jdk_65_method_56_code 43 = .ok (.goto 22, 3) := by decide +kernel
theorem d10_46 : decode jdk_65_method_56_code 46 = .ok (.lload 8, 2) := by decide +kernel
theorem d10_48 : decode jdk_65_method_56_code 48 = .ok (.lload_n 3, 1) := by decide +kernel
theorem d10_49 : decode jdk_65_method_56_code 49 = .ok (.lcmp, 1) := by decide +kernel
theorem d10_50 : decode jdk_65_method_56_code 50 = .ok (.ifCond .le 12, 3) := by decide +kernel
theorem d10_53 : decode jdk_65_method_56_code 53 = .ok (.iload 7, 2) := by decide +kernel
theorem d10_55 : decode jdk_65_method_56_code 55 = .ok (.iconst 1, 1) := by decide +kernel
theorem d10_56 : decode jdk_65_method_56_code 56 = .ok (.isub, 1) := by decide +kernel
theorem d10_57 : decode jdk_65_method_56_code 57 = .ok (.istore 6, 2) := by decide +kernel
theorem d10_59 : decode jdk_65_method_56_code 59 = .ok (.goto 6, 3) := by decide +kernel
theorem d10_62 : decode jdk_65_method_56_code 62 = .ok (.iload 7, 2) := by decide +kernel
theorem d10_64 : decode jdk_65_method_56_code 64 = .ok (.ireturn, 1) := by decide +kernel
theorem d10_65 : decode jdk_65_method_56_code 65 = .ok (.goto (-57), 3) := by decide +kernel
theorem d11_0 : decode prog_27_method_6_code 0 = .ok (.iconst 0, 1) := by decide +kernel
theorem d11_1 : decode prog_27_method_6_code 1 = .ok (.istore_n 1, 1) := by decide +kernel
theorem d11_2 : decode prog_27_method_6_code 2 = .ok (.aload_n 0, 1) := by decide +kernel
theorem d11_3 : decode prog_27_method_6_code 3 = .ok (.getfield 17, 3) := by decide +kernel
theorem d11_6 : decode prog_27_method_6_code 6 = .ok (.istore_n 2, 1) := by decide +kernel
theorem d11_7 : decode prog_27_method_6_code 7 = .ok (.iload_n 2, 1) := by decide +kernel
theorem d11_8 : decode prog_27_method_6_code 8 = .ok (.aload_n 0, 1) := by decide +kernel
theorem d11_9 : decode prog_27_method_6_code 9 = .ok (.getfield 21, 3) := by decide +kernel
theorem d11_12 : decode prog_27_method_6_code 12 = .ok (.if_icmp .ge 45, 3) := by decide +kernel
theorem d11_15 : decode prog_27_method_6_code 15 = .ok (.aload_n 0, 1) := by decide +kernel
theorem d11_16 : decode prog_27_method_6_code 16 = .ok (.getfield 13, 3) := by decide +kernel
theorem d11_19 : decode prog_27_method_6_code 19 = .ok (.iload_n 2, 1) := by decide +kernel
theorem d11_20 : decode prog_27_method_6_code 20 = .ok (.iaload, 1) := by decide +kernel
theorem d11_21 : decode prog_27_method_6_code 21 = .ok (.ifCond .le 30, 3) := by decide +kernel
theorem d11_24 : decode prog_27_method_6_code 24 = .ok (.aload_n 0, 1) := by decide +kernel
theorem d11_25 : decode prog_27_method_6_code 25 = .ok (.getfield 7, 3) := by decide +kernel
theorem d11_28 : decode prog_27_method_6_code 28 = .ok (.iload_n 1, 1) := by decide +kernel
theorem d11_29 : decode prog_27_method_6_code 29 = .ok (.aload_n 0, 1) := by decide +kernel
theorem d11_30 : decode prog_27_method_6_code 30 = .ok (.getfield 7, 3) := by decide +kernel
theorem d11_33 : decode prog_27_method_6_code 33 = .ok (.iload_n 2, 1) := by decide +kernel
theorem d11_34 : decode prog_27_method_6_code 34 = .ok (.laload, 1) := by decide +kernel
theorem d11_35 : decode prog_27_method_6_code 35 = .ok (.lastore, 1) := by decide +kernel
theorem d11_36 : decode prog_27_method_6_code 36 = .ok (.aload_n 0, 1) := by decide +kernel
theorem d11_37 : decode prog_27_method_6_code 37 = .ok (.getfield 13, 3) := by decide +kernel
theorem d11_40 : decode prog_27_method_6_code 40 = .ok (.iload_n 1, 1) := by decide +kernel
theorem d11_41 : decode prog_27_method_6_code 41 = .ok (.aload_n 0, 1) := by decide +kernel
theorem d11_42 : decode prog_27_method_6_code 42 = .ok (.getfield 13, 3) := by decide +kernel
theorem d11_45 : decode prog_27_method_6_code 45 = .ok (.iload_n 2, 1) := by decide +kernel
theorem d11_46 : decode prog_27_method_6_code 46 = .ok (.iaload, 1) := by decide +kernel
theorem d11_47 : decode prog_27_method_6_code 47 = .ok (.iastore, 1) := by decide +kernel
theorem d11_48 : decode prog_27_method_6_code 48 = .ok (.iinc 1 1, 3) := by decide +kernel
theorem d11_51 : decode prog_27_method_6_code 51 = .ok (.iinc 2 1, 3) := by decide +kernel
theorem d11_54 : decode prog_27_method_6_code 54 = .ok (.goto (-47), 3) := by decide +kernel
theorem d11_57 : decode prog_27_method_6_code 57 = .ok (.aload_n 0, 1) := by decide +kernel
theorem d11_58 : decode prog_27_method_6_code 58 = .ok (.iconst 0, 1) := by decide +kernel
theorem d11_59 : decode prog_27_method_6_code 59 = .ok (.putfield 17, 3) := by decide +kernel
theorem d11_62 : decode prog_27_method_6_code 62 = .ok (.aload_n 0, 1) := by decide +kernel
theorem d11_63 : decode prog_27_method_6_code 63 = .ok (.iload_n 1, 1) := by decide +kernel
theorem d11_64 : decode prog_27_method_6_code 64 = .ok (.putfield 21, 3) := by decide +kernel
theorem d11_67 : decode prog_27_method_6_code 67 = .ok (.aload_n 0, 1) := by decide +kernel
theorem d11_68 : decode prog_27_method_6_code 68 = .ok (.iconst 0, 1) := by decide +kernel
theorem d11_69 : decode prog_27_method_6_code 69 = .ok (.putfield 33, 3) := by decide +kernel
theorem d11_72 : decode prog_27_method_6_code 72 = .ok (.return_, 1) := by decide +kernel
def own_bs (rk : List Nat) (r : Nat) : Nat → Nat → Nat → Option Nat
  | 0, _, _ => none
  | d + 1, lo, hi => if lo < hi then (if rk.getD ((lo + hi - 1) / 2) 0 < r then own_bs rk r d ((lo + hi - 1) / 2 + 1) hi else if r < rk.getD ((lo + hi - 1) / 2) 0 then own_bs rk r d lo ((lo + hi - 1) / 2) else some ((lo + hi - 1) / 2)) else none
def own_sk (ct : List Int32) (e : Nat) : Nat → Nat → Int32 → Nat × Int32
  | 0, f, u => (f, u)
  | d + 1, f, u => if f < e then (if ct.getD f 0 = 0 then own_sk ct e d (f + 1) (u - 1) else (f, u)) else (f, u)
def own_cp (e : Nat) : Nat → Nat → Nat → List Nat → List Int32 → Nat × List Nat × List Int32
  | 0, _, kept, rk, ct => (kept, rk, ct)
  | d + 1, i, kept, rk, ct => if i < e then (if 0 < ct.getD i 0 then own_cp e d (i + 1) (kept + 1) (rk.set kept (rk.getD i 0)) (ct.set kept (ct.getD i 0)) else own_cp e d (i + 1) kept rk ct) else (kept, rk, ct)
def own_rel (rk : List Nat) (ct : List Int32) (f e : Nat) (u : Int32) (i : Nat) : List Nat × List Int32 × Nat × Nat × Int32 :=
  if (ct.set i (ct.getD i 0 - 1)).getD i 0 = 0 then
    (if (own_sk (ct.set i (ct.getD i 0 - 1)) e 9 f (u + 1)).1 = e then (rk, ct.set i (ct.getD i 0 - 1), 0, 0, (own_sk (ct.set i (ct.getD i 0 - 1)) e 9 f (u + 1)).2)
     else if Int32.ofNat e - Int32.ofNat (own_sk (ct.set i (ct.getD i 0 - 1)) e 9 f (u + 1)).1 < (own_sk (ct.set i (ct.getD i 0 - 1)) e 9 f (u + 1)).2 * 2 then
       ((own_cp e 9 (own_sk (ct.set i (ct.getD i 0 - 1)) e 9 f (u + 1)).1 0 rk (ct.set i (ct.getD i 0 - 1))).2.1, (own_cp e 9 (own_sk (ct.set i (ct.getD i 0 - 1)) e 9 f (u + 1)).1 0 rk (ct.set i (ct.getD i 0 - 1))).2.2, 0, (own_cp e 9 (own_sk (ct.set i (ct.getD i 0 - 1)) e 9 f (u + 1)).1 0 rk (ct.set i (ct.getD i 0 - 1))).1, 0)
     else (rk, ct.set i (ct.getD i 0 - 1), (own_sk (ct.set i (ct.getD i 0 - 1)) e 9 f (u + 1)).1, e, (own_sk (ct.set i (ct.getD i 0 - 1)) e 9 f (u + 1)).2))
  else (rk, ct.set i (ct.getD i 0 - 1), f, e, u)
def own_hold (rk : List Nat) (ct : List Int32) (f e : Nat) (u : Int32) (r : Nat) : List Nat × List Int32 × Nat × Int32 :=
  if f < e ∧ rk.getD (e - 1) 0 = r then (rk, ct.set (e - 1) (ct.getD (e - 1) 0 + 1), e, if ct.getD (e - 1) 0 = 0 then u - 1 else u) else (rk.set e r, ct.set e 1, e + 1, u)
theorem own_on {i : Nat} (h : i < 2147483648) : (Int32.ofNat i).toInt = i := Int32.toInt_ofNat_of_lt (by simpa using h)
theorem own_eqi {x y : Int32} (h : x.toInt = y.toInt) : x = y := Int32.toInt_inj.mp h
theorem own_clamp {i : Nat} (h : i < 2147483648) : (Int32.ofNat i).toNatClampNeg = i := by
  rw [Int32.toNatClampNeg, own_on h]; rfl
theorem own_lt {i j : Nat} (hi : i < 2147483648) (hj : j < 2147483648) : Int32.ofNat i < Int32.ofNat j ↔ i < j := by
  rw [Int32.lt_iff_toInt_lt, own_on hi, own_on hj]; omega
theorem own_eq {i j : Nat} (hi : i < 2147483648) (hj : j < 2147483648) : Int32.ofNat i = Int32.ofNat j ↔ i = j := by
  rw [← Int32.toInt_inj, own_on hi, own_on hj]; omega
theorem own_in {i n : Nat} (h : i < n) (hn : n < 2147483648) : ¬ Int32.ofNat i < 0 ∧ Int32.ofNat i < Int32.ofNat n := by
  refine ⟨fun q => ?_, (own_lt (by omega) hn).mpr h⟩
  rw [Int32.lt_iff_toInt_lt, own_on (by omega)] at q
  have : (0 : Int32).toInt = 0 := rfl
  omega
theorem own_succ {i : Nat} (h : i < 2147483647) : Int32.ofNat i + (1 : Int32) = Int32.ofNat (i + 1) := by
  apply own_eqi
  have h1 := c_iadd (Int32.ofNat i) 1
  have h2 := rng32 (Int32.ofNat i + 1)
  rw [own_on (by omega)] at h1 ⊢
  have h3 : (1 : Int32).toInt = 1 := rfl
  push_cast
  omega
theorem own_pred {i : Nat} (h : i < 2147483648) (h0 : 0 < i) : Int32.ofNat i - (1 : Int32) = Int32.ofNat (i - 1) := by
  apply own_eqi
  have h1 := c_isub (Int32.ofNat i) 1
  have h2 := rng32 (Int32.ofNat i - 1)
  rw [own_on h] at h1
  rw [own_on (by omega)]
  have h3 : (1 : Int32).toInt = 1 := rfl
  omega
theorem own_high {i : Nat} (h : i < 1073741824) : (Int32.ofNat i - (1 : Int32)).toInt = (i : Int) - 1 := by
  have h1 := c_isub (Int32.ofNat i) 1
  have h2 := rng32 (Int32.ofNat i - 1)
  rw [own_on (by omega)] at h1
  have h3 : (1 : Int32).toInt = 1 := rfl
  omega
theorem own_mid {i j : Nat} (h : i < j) (hj : j < 1073741824) : ((Int32.ofNat i + (Int32.ofNat j - (1 : Int32))).toUInt32 >>> ((1 : Int32) &&& 31).toUInt32).toInt32 = Int32.ofNat ((i + j - 1) / 2) := by
  apply own_eqi
  have h1 := c_iadd (Int32.ofNat i) (Int32.ofNat j - 1)
  have h2 := rng32 (Int32.ofNat i + (Int32.ofNat j - 1))
  rw [own_on (by omega), own_high hj] at h1
  rw [c_iushr _ 1 1 (by decide) (by decide), own_on (by omega)]
  omega
theorem own_past {i j : Nat} (hi : i < 1073741824) (hj : j < 1073741824) : Int32.ofNat j - (1 : Int32) < Int32.ofNat i ↔ j ≤ i := by
  rw [Int32.lt_iff_toInt_lt, own_high hj, own_on (by omega)]; omega
theorem own_getm {α : Type} (g : α → Value) (l : List α) (d0 : α) (dv : Value) {i : Nat} (hi : i < l.length) (hb : i < 2147483648) : (l.map g).getD (Int32.ofNat i).toNatClampNeg dv = g (l.getD i d0) := by
  rw [own_clamp hb]
  simp [hi]
abbrev Sn : Type := List Nat × List Int32 × Nat × Nat × Int32
abbrev own_bi (d : Bool) : Int32 := if d then 1 else 0
def own_ra (p : Fin 4) : Nat := 0
def own_rb (p : Fin 4) : Nat := if p.val < 2 then 0 else 1
def own_rc (p : Fin 4) : Nat := if p.val = 0 then 0 else if p.val = 3 then 2 else 1
def own_s0 : Sn := (List.replicate 8 9, List.replicate 8 0, 0, 0, 0)
def own_H (s : Sn) (r : Nat) : Sn := ((own_hold s.1 s.2.1 s.2.2.1 s.2.2.2.1 s.2.2.2.2 r).1, (own_hold s.1 s.2.1 s.2.2.1 s.2.2.2.1 s.2.2.2.2 r).2.1, s.2.2.1, (own_hold s.1 s.2.1 s.2.2.1 s.2.2.2.1 s.2.2.2.2 r).2.2.1, (own_hold s.1 s.2.1 s.2.2.1 s.2.2.2.1 s.2.2.2.2 r).2.2.2)
def own_ix (s : Sn) (r : Nat) : Nat := (own_bs s.1 r 9 s.2.2.1 s.2.2.2.1).getD 99
def own_R (s : Sn) (r : Nat) : Sn := own_rel s.1 s.2.1 s.2.2.1 s.2.2.2.1 s.2.2.2.2 (own_ix s r)
def own_fine (s : Sn) : Bool := decide (s.1.length = 8) && decide (s.2.1.length = 8) && decide (s.2.2.1 ≤ s.2.2.2.1) && decide (s.2.2.2.1 ≤ 8)
def own_hok (t : Nat) (s : Sn) (r : Nat) : Bool := own_fine s && decide (s.2.2.2.1 < 8) && decide (r ≤ t) && (decide (s.2.2.1 < s.2.2.2.1) == false || (decide (s.1.getD (s.2.2.2.1 - 1) 0 ≤ t) && decide (s.1.getD (s.2.2.2.1 - 1) 0 ≤ r)))
def own_rok (t : Nat) (s : Sn) (r : Nat) : Bool := own_fine s && decide (r ≤ t) && (List.range 8).all (fun j => decide (s.2.2.1 ≤ j) == false || decide (j < s.2.2.2.1) == false || decide (s.1.getD j 0 ≤ t)) && decide (own_bs s.1 r 9 s.2.2.1 s.2.2.2.1 = some (own_ix s r)) && decide (own_ix s r < 8)
def own_s1 (p : Fin 4) : Sn := own_H own_s0 (own_ra p)
def own_s2 (p : Fin 4) (d1 : Bool) : Sn := if d1 then own_H (own_s1 p) (own_ra p) else own_s1 p
def own_s3 (p : Fin 4) (d1 : Bool) : Sn := own_H (own_H (own_s2 p d1) (own_rb p)) (own_rc p)
def own_o (d : Bool) (s : Sn) (r : Nat) : Sn := if d then own_R s r else s
def own_sA (p : Fin 4) (d1 d2 : Bool) : Sn := own_o d2 (own_s3 p d1) (own_ra p)
def own_sB (p : Fin 4) (d1 d2 d3 : Bool) : Sn := own_o d3 (own_sA p d1 d2) (own_rb p)
def own_sC (p : Fin 4) (d1 d2 d3 d4 : Bool) : Sn := own_o d4 (own_sB p d1 d2 d3) (own_rc p)
def own_tA (p : Fin 4) (d1 d4 : Bool) : Sn := own_o d4 (own_s3 p d1) (own_rc p)
def own_tB (p : Fin 4) (d1 d4 d3 : Bool) : Sn := own_o d3 (own_tA p d1 d4) (own_rb p)
def own_tC (p : Fin 4) (d1 d4 d3 d2 : Bool) : Sn := own_o d2 (own_tB p d1 d4 d3) (own_ra p)
def own_s6 (p : Fin 4) (d1 d2 d3 d4 d5 : Bool) : Sn := if d5 then own_tC p d1 d4 d3 d2 else own_sC p d1 d2 d3 d4
def own_s7 (p : Fin 4) (d1 d2 d3 d4 d5 d6 : Bool) : Sn := if d6 then own_H (own_s6 p d1 d2 d3 d4 d5) (own_rc p) else own_s6 p d1 d2 d3 d4 d5
def own_exp (p : Fin 4) (d1 d2 d3 d4 d6 : Bool) : Option Nat := if d1 || !d2 then some (own_ra p) else if !d3 then some (own_rb p) else if !d4 || d6 then some (own_rc p) else none
theorem own_k1 : ∀ p : Fin 4, own_hok (own_rc p) own_s0 (own_ra p) = true := by decide +kernel
theorem own_k2 : ∀ p : Fin 4, own_hok (own_rc p) (own_s1 p) (own_ra p) = true := by decide +kernel
theorem own_k3 : ∀ (p : Fin 4) (d1 : Bool), own_hok (own_rc p) (own_s2 p d1) (own_rb p) = true := by decide +kernel
theorem own_k4 : ∀ (p : Fin 4) (d1 : Bool), own_hok (own_rc p) (own_H (own_s2 p d1) (own_rb p)) (own_rc p) = true := by decide +kernel
theorem own_kA : ∀ (p : Fin 4) (d1 : Bool), own_rok (own_rc p) (own_s3 p d1) (own_ra p) = true := by decide +kernel
theorem own_kB : ∀ (p : Fin 4) (d1 d2 : Bool), own_rok (own_rc p) (own_sA p d1 d2) (own_rb p) = true := by decide +kernel
theorem own_kC : ∀ (p : Fin 4) (d1 d2 d3 : Bool), own_rok (own_rc p) (own_sB p d1 d2 d3) (own_rc p) = true := by decide +kernel
theorem own_lA : ∀ (p : Fin 4) (d1 : Bool), own_rok (own_rc p) (own_s3 p d1) (own_rc p) = true := by decide +kernel
theorem own_lB : ∀ (p : Fin 4) (d1 d4 : Bool), own_rok (own_rc p) (own_tA p d1 d4) (own_rb p) = true := by decide +kernel
theorem own_lC : ∀ (p : Fin 4) (d1 d4 d3 : Bool), own_rok (own_rc p) (own_tB p d1 d4 d3) (own_ra p) = true := by decide +kernel
theorem own_k6 : ∀ (p : Fin 4) (d1 d2 d3 d4 d5 : Bool), own_hok (own_rc p) (own_s6 p d1 d2 d3 d4 d5) (own_rc p) = true := by decide +kernel
theorem own_k7 : ∀ (p : Fin 4) (d1 d2 d3 d4 d5 d6 : Bool), own_fine (own_s7 p d1 d2 d3 d4 d5 d6) = true ∧ (if (own_s7 p d1 d2 d3 d4 d5 d6).2.2.1 = (own_s7 p d1 d2 d3 d4 d5 d6).2.2.2.1 then none else some ((own_s7 p d1 d2 d3 d4 d5 d6).1.getD (own_s7 p d1 d2 d3 d4 d5 d6).2.2.1 0)) = own_exp p d1 d2 d3 d4 d6 := by decide +kernel
theorem own_fine_e {s : Sn} (h : own_fine s = true) : s.1.length = 8 ∧ s.2.1.length = 8 ∧ s.2.2.1 ≤ s.2.2.2.1 ∧ s.2.2.2.1 ≤ 8 := by
  simp only [own_fine, Bool.and_eq_true, decide_eq_true_eq] at h
  exact ⟨h.1.1.1, h.1.1.2, h.1.2, h.2⟩
theorem own_hok_e {t : Nat} {s : Sn} {r : Nat} {φ : Nat → Int64} (h : own_hok t s r = true) (ho : ∀ i j, i ≤ t → j ≤ t → (φ i < φ j ↔ i < j)) :
    s.1.length = 8 ∧ s.2.1.length = 8 ∧ s.2.2.1 ≤ s.2.2.2.1 ∧ s.2.2.2.1 < 8 ∧ (s.2.2.1 < s.2.2.2.1 → ((φ (s.1.getD (s.2.2.2.1 - 1) 0) < φ r ↔ s.1.getD (s.2.2.2.1 - 1) 0 < r) ∧ (φ r < φ (s.1.getD (s.2.2.2.1 - 1) 0) ↔ r < s.1.getD (s.2.2.2.1 - 1) 0))) ∧ (s.2.2.1 < s.2.2.2.1 → s.1.getD (s.2.2.2.1 - 1) 0 ≤ r) := by
  simp only [own_hok, Bool.and_eq_true, Bool.or_eq_true, decide_eq_true_eq, beq_iff_eq, decide_eq_false_iff_not] at h
  obtain ⟨⟨⟨h1, h2⟩, h3⟩, h4⟩ := h
  obtain ⟨a1, a2, a3, a4⟩ := own_fine_e h1
  refine ⟨a1, a2, a3, h2, fun q => ?_, fun q => ?_⟩
  · rcases h4 with h4 | h4
    · exact absurd q h4
    · exact ⟨ho _ _ h4.1 h3, ho _ _ h3 h4.1⟩
  · rcases h4 with h4 | h4
    · exact absurd q h4
    · exact h4.2
theorem own_rok_e {t : Nat} {s : Sn} {r : Nat} {φ : Nat → Int64} (h : own_rok t s r = true) (ho : ∀ i j, i ≤ t → j ≤ t → (φ i < φ j ↔ i < j)) :
    s.1.length = 8 ∧ s.2.1.length = 8 ∧ s.2.2.1 ≤ s.2.2.2.1 ∧ s.2.2.2.1 ≤ 8 ∧ (∀ j, s.2.2.1 ≤ j → j < s.2.2.2.1 → ((φ (s.1.getD j 0) < φ r ↔ s.1.getD j 0 < r) ∧ (φ r < φ (s.1.getD j 0) ↔ r < s.1.getD j 0))) ∧ own_bs s.1 r 9 s.2.2.1 s.2.2.2.1 = some (own_ix s r) ∧ own_ix s r < 8 := by
  simp only [own_rok, Bool.and_eq_true, Bool.or_eq_true, decide_eq_true_eq, beq_iff_eq, decide_eq_false_iff_not, List.all_eq_true, List.mem_range] at h
  obtain ⟨⟨⟨⟨h1, h2⟩, h3⟩, h4⟩, h5⟩ := h
  obtain ⟨a1, a2, a3, a4⟩ := own_fine_e h1
  refine ⟨a1, a2, a3, a4, fun j q1 q2 => ?_, h4, h5⟩
  rcases h3 j (by omega) with (h6 | h6) | h6
  · exact absurd q1 h6
  · exact absurd q2 h6
  · exact ⟨ho _ _ h6 h2, ho _ _ h2 h6⟩
def own_om (φ : Nat → Int64) : Option Nat → Int64
  | some r => φ r
  | none => 9223372036854775807
theorem own_hz {f e k : Nat} {φ : Nat → Int64} {o : Option Nat} (h : (if f = e then none else some k) = o) : (if f = e then (9223372036854775807 : Int64) else φ k) = own_om φ o := by
  subst h; by_cases q : f = e <;> simp [q, own_om]
theorem own_pat (lo mid hi : Int64) (h1 : ¬ mid < lo) (h2 : ¬ hi < mid) : ∃ (p : Fin 4) (φ : Nat → Int64), φ (own_ra p) = lo ∧ φ (own_rb p) = mid ∧ φ (own_rc p) = hi ∧ φ 9 = 0 ∧ ∀ i j, i ≤ own_rc p → j ≤ own_rc p → (φ i < φ j ↔ i < j) := by
  rw [Int64.lt_iff_toInt_lt] at h1 h2
  by_cases a : lo = mid <;> by_cases b : mid = hi
  · subst a b
    refine ⟨0, fun i => if i = 9 then 0 else lo, rfl, rfl, rfl, rfl, fun i j hi hj => ?_⟩
    have e1 : i = 0 := Nat.le_zero.mp hi
    have e2 : j = 0 := Nat.le_zero.mp hj
    subst e1 e2
    simp [Int64.lt_irrefl]
  · subst a
    refine ⟨1, fun i => if i = 9 then 0 else if i = 0 then lo else hi, rfl, rfl, rfl, rfl, fun i j hi' hj => ?_⟩
    have e1 : i = 0 ∨ i = 1 := by have : i ≤ 1 := hi'; omega
    have e2 : j = 0 ∨ j = 1 := by have : j ≤ 1 := hj; omega
    have q : lo.toInt ≠ hi.toInt := fun q => b (Int64.toInt_inj.mp q)
    rcases e1 with rfl | rfl <;> rcases e2 with rfl | rfl <;> simp [Int64.lt_iff_toInt_lt] <;> omega
  · subst b
    refine ⟨2, fun i => if i = 9 then 0 else if i = 0 then lo else mid, rfl, rfl, rfl, rfl, fun i j hi' hj => ?_⟩
    have e1 : i = 0 ∨ i = 1 := by have : i ≤ 1 := hi'; omega
    have e2 : j = 0 ∨ j = 1 := by have : j ≤ 1 := hj; omega
    have q : lo.toInt ≠ mid.toInt := fun q => a (Int64.toInt_inj.mp q)
    rcases e1 with rfl | rfl <;> rcases e2 with rfl | rfl <;> simp [Int64.lt_iff_toInt_lt] <;> omega
  · refine ⟨3, fun i => if i = 9 then 0 else if i = 0 then lo else if i = 1 then mid else hi, rfl, rfl, rfl, rfl, fun i j hi' hj => ?_⟩
    have e1 : i = 0 ∨ i = 1 ∨ i = 2 := by have : i ≤ 2 := hi'; omega
    have e2 : j = 0 ∨ j = 1 ∨ j = 2 := by have : j ≤ 2 := hj; omega
    have q : lo.toInt ≠ mid.toInt := fun q => a (Int64.toInt_inj.mp q)
    have q2 : mid.toInt ≠ hi.toInt := fun q => b (Int64.toInt_inj.mp q)
    rcases e1 with rfl | rfl | rfl <;> rcases e2 with rfl | rfl | rfl <;> simp [Int64.lt_iff_toInt_lt] <;> omega
theorem own_sort (x y z : Int64) : ¬ (if (if y < x then y else x) < (if z < (if x < y then y else x) then z else (if x < y then y else x)) then (if z < (if x < y then y else x) then z else (if x < y then y else x)) else (if y < x then y else x)) < (if z < (if y < x then y else x) then z else (if y < x then y else x)) ∧
    ¬ (if (if x < y then y else x) < z then z else (if x < y then y else x)) < (if (if y < x then y else x) < (if z < (if x < y then y else x) then z else (if x < y then y else x)) then (if z < (if x < y then y else x) then z else (if x < y then y else x)) else (if y < x then y else x)) := by
  simp only [Int64.lt_iff_toInt_lt]
  split <;> split <;> (try split) <;> (try split) <;> (try split) <;> (try split) <;> constructor <;> (try split) <;> (try split) <;> (try split) <;> (try split) <;> omega
theorem ef_mn (m : MethodId) (x0 : Int64) (x1 : Int64) : entryFrame m #[(.long x0), (.long x1)] 4 = mkF m 0 #[.val (.long x0), .second, .val (.long x1), .second] [] := by first | (simp [entryFrame, mkF, argsToLocals, Value.category]; done) | rfl
abbrev b_mn : Bdy := ((⟨"java/lang/Math", "min", "(JJ)J"⟩ : MethodName), jdk_29_method_70_code, 4, (Option.some Jvm.ClassFile.FieldType.long), ({ frames := 0, cells := 0, slots := 0, locals := 0 } : Room))
def Q_mn (Z : State) (N : Nat) (u : Int64) (v' : Int64) (h0 : Heap) (I : Lts) (v : Option Value) (h : Heap) (J : Lts) : Prop := I = J ∧ v = some (.long (if v' < u then v' else u)) ∧ h0 = h
set_option maxRecDepth 65536 in
set_option maxHeartbeats 40000000 in
theorem rm_mn {l : Launch} {Z : State} {a0 : Array Value} {N : Nat} (hw : ∀ d ∈ tables_1, d.before a0 Z = true) (u : Int64) (v' : Int64) (h0 : Heap) (I : Lts) :
    Cn l Z N b_mn #[(.long u), (.long v')] h0 I (Q_mn Z N u v' h0 I) := by
  refine Cn.of_wk (Ls := #[.val (.long u), .second, .val (.long v'), .second]) (Jvm.Free.JP.mathPlain rfl (by decide +kernel)) (fun m => ef_mn m u v') ?_
  refine Wk.lloadN (pc' := 1) d4_0 rfl rfl ?_
  refine Wk.lloadN (pc' := 2) d4_1 rfl rfl ?_
  refine Wk.lcmp (pc' := 3) d4_2 rfl ?_
  by_cases c3_1 : v' < u
  · refine Wk.if_gtY (pc' := 10) d4_3 (by decide) ((lw_gt _ _).mpr c3_1) ?_
    refine Wk.lloadN (pc' := 11) d4_10 rfl rfl ?_
    exact Wk.lreturn rfl d4_11 (Nat.le_of_ble_eq_true rfl) (Nat.le_of_ble_eq_true rfl) ⟨rfl, (by first | rw [if_pos (by assumption)] | rw [if_neg (by assumption)]), rfl⟩
  · refine Wk.if_gtN (pc' := 6) d4_3 rfl (mt (lw_gt _ _).mp c3_1) ?_
    refine Wk.lloadN (pc' := 7) d4_6 rfl rfl ?_
    refine Wk.goto (pc' := 11) d4_7 (by decide) ?_
    exact Wk.lreturn rfl d4_11 (Nat.le_of_ble_eq_true rfl) (Nat.le_of_ble_eq_true rfl) ⟨rfl, (by first | rw [if_pos (by assumption)] | rw [if_neg (by assumption)]), rfl⟩
theorem ef_mx (m : MethodId) (x0 : Int64) (x1 : Int64) : entryFrame m #[(.long x0), (.long x1)] 4 = mkF m 0 #[.val (.long x0), .second, .val (.long x1), .second] [] := by first | (simp [entryFrame, mkF, argsToLocals, Value.category]; done) | rfl
abbrev b_mx : Bdy := ((⟨"java/lang/Math", "max", "(JJ)J"⟩ : MethodName), jdk_29_method_66_code, 4, (Option.some Jvm.ClassFile.FieldType.long), ({ frames := 0, cells := 0, slots := 0, locals := 0 } : Room))
def Q_mx (Z : State) (N : Nat) (u : Int64) (v' : Int64) (h0 : Heap) (I : Lts) (v : Option Value) (h : Heap) (J : Lts) : Prop := I = J ∧ v = some (.long (if u < v' then v' else u)) ∧ h0 = h
set_option maxRecDepth 65536 in
set_option maxHeartbeats 40000000 in
theorem rm_mx {l : Launch} {Z : State} {a0 : Array Value} {N : Nat} (hw : ∀ d ∈ tables_1, d.before a0 Z = true) (u : Int64) (v' : Int64) (h0 : Heap) (I : Lts) :
    Cn l Z N b_mx #[(.long u), (.long v')] h0 I (Q_mx Z N u v' h0 I) := by
  refine Cn.of_wk (Ls := #[.val (.long u), .second, .val (.long v'), .second]) (Jvm.Free.JP.mathPlain rfl (by decide +kernel)) (fun m => ef_mx m u v') ?_
  refine Wk.lloadN (pc' := 1) d5_0 rfl rfl ?_
  refine Wk.lloadN (pc' := 2) d5_1 rfl rfl ?_
  refine Wk.lcmp (pc' := 3) d5_2 rfl ?_
  by_cases c3_1 : u < v'
  · refine Wk.if_ltY (pc' := 10) d5_3 (by decide) ((lw_lt _ _).mpr c3_1) ?_
    refine Wk.lloadN (pc' := 11) d5_10 rfl rfl ?_
    exact Wk.lreturn rfl d5_11 (Nat.le_of_ble_eq_true rfl) (Nat.le_of_ble_eq_true rfl) ⟨rfl, (by first | rw [if_pos (by assumption)] | rw [if_neg (by assumption)]), rfl⟩
  · refine Wk.if_ltN (pc' := 6) d5_3 rfl (mt (lw_lt _ _).mp c3_1) ?_
    refine Wk.lloadN (pc' := 7) d5_6 rfl rfl ?_
    refine Wk.goto (pc' := 11) d5_7 (by decide) ?_
    exact Wk.lreturn rfl d5_11 (Nat.le_of_ble_eq_true rfl) (Nat.le_of_ble_eq_true rfl) ⟨rfl, (by first | rw [if_pos (by assumption)] | rw [if_neg (by assumption)]), rfl⟩
theorem ef_ini (m : MethodId) (x0 : Addr) : entryFrame m #[(.ref x0)] 1 = mkF m 0 #[.val (.ref x0)] [] := by first | (simp [entryFrame, mkF, argsToLocals, Value.category]; done) | rfl
abbrev b_ini : Bdy := ((⟨"com/example/interlock/interlock/Snapshots", "<init>", "()V"⟩ : MethodName), prog_27_method_1_code, 1, (Option.none : Option Jvm.ClassFile.FieldType), ({ frames := 1, cells := 2, slots := 16, locals := 12 } : Room))
def Q_ini (Z : State) (N : Nat) (a : Addr) (h0 : Heap) (I : Lts) (v : Option Value) (h : Heap) (J : Lts) : Prop := ∃ b1 : Addr, ∃ b2 : Addr, ∃ q1 : ClassId, ∃ q2 : ClassId, I = J ∧ v = none ∧ Keep h0 h [a] ∧ h0.size ≤ b1 ∧ h0.size ≤ b2 ∧ N ≤ b1 ∧ N ≤ b2 ∧ a ≠ b1 ∧ a ≠ b2 ∧ b1 ≠ b2 ∧ Fld Z h a "com/example/interlock/interlock/Snapshots" "snapshots" "[J" (.ref b1) ∧ Fld Z h a "com/example/interlock/interlock/Snapshots" "holders" "[I" (.ref b2) ∧ Fld Z h a "com/example/interlock/interlock/Snapshots" "first" "I" (.int (0 : Int32)) ∧ Fld Z h a "com/example/interlock/interlock/Snapshots" "end" "I" (.int (0 : Int32)) ∧ Fld Z h a "com/example/interlock/interlock/Snapshots" "unheld" "I" (.int (0 : Int32)) ∧ Arv Z h b1 q1 .long (8 : Int32) [(.long (0 : Int64)), (.long (0 : Int64)), (.long (0 : Int64)), (.long (0 : Int64)), (.long (0 : Int64)), (.long (0 : Int64)), (.long (0 : Int64)), (.long (0 : Int64))] (.long (0 : Int64)) ∧ Arv Z h b2 q2 .int (8 : Int32) [(.int (0 : Int32)), (.int (0 : Int32)), (.int (0 : Int32)), (.int (0 : Int32)), (.int (0 : Int32)), (.int (0 : Int32)), (.int (0 : Int32)), (.int (0 : Int32))] (.int (0 : Int32))
set_option maxRecDepth 65536 in
set_option maxHeartbeats 40000000 in
theorem rm_ini {l : Launch} {Z : State} {a0 : Array Value} {N : Nat} (hw : ∀ d ∈ tables_1, d.before a0 Z = true) (a : Addr) (h0 : Heap) (I : Lts) (P0 : Exa Z h0 a "com/example/interlock/interlock/Snapshots") (P1 : Fld Z h0 a "com/example/interlock/interlock/Snapshots" "snapshots" "[J" .null) (P2 : Fld Z h0 a "com/example/interlock/interlock/Snapshots" "holders" "[I" .null) (P3 : Fld Z h0 a "com/example/interlock/interlock/Snapshots" "first" "I" (.int (0 : Int32))) (P4 : Fld Z h0 a "com/example/interlock/interlock/Snapshots" "end" "I" (.int (0 : Int32))) (P5 : Fld Z h0 a "com/example/interlock/interlock/Snapshots" "unheld" "I" (.int (0 : Int32))) (P6 : N ≤ a) :
    Cn l Z N b_ini #[(.ref a)] h0 I (Q_ini Z N a h0 I) := by
  refine Cn.of_wk (Ls := #[.val (.ref a)]) (plainFor_of_name (by first | (simp [plainName, overriddenIn]; done) | decide +kernel)) (fun m => ef_ini m a) ?_
  refine Wk.aloadN (pc' := 1) d1_0 rfl rfl rfl ?_
  refine Wk.initO (a0 := a0) (pc' := 4) (W := 0) (w6 hw) (w7 hw) (w8 hw) rfl d1_1 rfl (Nat.le_of_ble_eq_true rfl) (Nat.le_of_ble_eq_true rfl) (Nat.le_of_ble_eq_true rfl) ?_
  refine Wk.aloadN (pc' := 5) d1_4 rfl rfl rfl ?_
  refine Wk.bipush (pc' := 7) (v := 8) d1_5 rfl rfl ?_
  refine Wk.newP (a0 := a0) (aty := .long) (pc' := 9) (k' := 1) (n' := 8) (cap := 8) (w9 hw) d1_7 rfl (by decide) (by decide) (by decide) rfl rfl (Nat.le_of_ble_eq_true rfl) (Nat.le_of_ble_eq_true rfl) fun a1 h2 q3 hg4 hN5 E6 A7 => ?_
  have ne8 : a ≠ a1 := Nat.ne_of_lt (Nat.lt_of_lt_of_le P0.lt hg4)
  have A9 : Arv Z h2 a1 q3 .long (8 : Int32) [(.long (0 : Int64)), (.long (0 : Int64)), (.long (0 : Int64)), (.long (0 : Int64)), (.long (0 : Int64)), (.long (0 : Int64)), (.long (0 : Int64)), (.long (0 : Int64))] (.long (0 : Int64)) := A7.pad (pad_rep [] (.long (0 : Int64)) 8)
  have f10 := (P0.ext E6)
  have f11 := (P1.ext E6)
  refine Wk.putF (a0 := a0) (pc' := 12) (host := "") (Or.inl (w10 hw)) Via.refl P6 f11 f10 (Or.inl (w11 hw)) (w1 hw) (ty := (.array .long)) (by decide) rfl rfl d1_9 rfl fun h12 W13 => ?_
  have F14 := f11.same W13
  refine Wk.aloadN (pc' := 13) d1_12 rfl rfl rfl ?_
  refine Wk.bipush (pc' := 15) (v := 8) d1_13 rfl rfl ?_
  refine Wk.newP (a0 := a0) (aty := .int) (pc' := 17) (k' := 2) (n' := 16) (cap := 8) (w12 hw) d1_15 rfl (by decide) (by decide) (by decide) rfl rfl (Nat.le_of_ble_eq_true rfl) (Nat.le_of_ble_eq_true rfl) fun a15 h16 q17 hg18 hN19 E20 A21 => ?_
  have f22 := (f10.wr W13)
  have ne23 : a ≠ a15 := Nat.ne_of_lt (Nat.lt_of_lt_of_le f22.lt hg18)
  have f24 := (A9.other W13 (Ne.symm ne8))
  have ne25 : a1 ≠ a15 := Nat.ne_of_lt (Nat.lt_of_lt_of_le f24.lt hg18)
  have A26 : Arv Z h16 a15 q17 .int (8 : Int32) [(.int (0 : Int32)), (.int (0 : Int32)), (.int (0 : Int32)), (.int (0 : Int32)), (.int (0 : Int32)), (.int (0 : Int32)), (.int (0 : Int32)), (.int (0 : Int32))] (.int (0 : Int32)) := A21.pad (pad_rep [] (.int (0 : Int32)) 8)
  have f27 := (f22.ext E20)
  have f28 := (((P2.ext E6).other W13 (Or.inr (slot_ne (Or.inl (w14 hw)) (Or.inl (w11 hw)) (by decide) (t := (.array .int)) (t' := (.array .long)) (by decide) (by decide)))).ext E20)
  refine Wk.putF (a0 := a0) (pc' := 20) (host := "") (Or.inl (w13 hw)) Via.refl P6 f28 f27 (Or.inl (w14 hw)) (w1 hw) (ty := (.array .int)) (by decide) rfl rfl d1_17 rfl fun h29 W30 => ?_
  have F31 := f28.same W30
  have f32 := ((f24.ext E20).other W30 (Ne.symm ne8))
  have f33 := (A26.other W30 (Ne.symm ne23))
  have f34 := ((F14.ext E20).other W30 (Or.inr (slot_ne (Or.inl (w11 hw)) (Or.inl (w14 hw)) (by decide) (t := (.array .long)) (t' := (.array .int)) (by decide) (by decide))))
  have f35 := ((((P3.ext E6).other W13 (Or.inr (slot_ne (Or.inl (w21 hw)) (Or.inl (w11 hw)) (by decide) (t := .int) (t' := (.array .long)) (by decide) (by decide)))).ext E20).other W30 (Or.inr (slot_ne (Or.inl (w21 hw)) (Or.inl (w14 hw)) (by decide) (t := .int) (t' := (.array .int)) (by decide) (by decide))))
  have f36 := ((((P4.ext E6).other W13 (Or.inr (slot_ne (Or.inl (w23 hw)) (Or.inl (w11 hw)) (by decide) (t := .int) (t' := (.array .long)) (by decide) (by decide)))).ext E20).other W30 (Or.inr (slot_ne (Or.inl (w23 hw)) (Or.inl (w14 hw)) (by decide) (t := .int) (t' := (.array .int)) (by decide) (by decide))))
  have f37 := ((((P5.ext E6).other W13 (Or.inr (slot_ne (Or.inl (w54 hw)) (Or.inl (w11 hw)) (by decide) (t := .int) (t' := (.array .long)) (by decide) (by decide)))).ext E20).other W30 (Or.inr (slot_ne (Or.inl (w54 hw)) (Or.inl (w14 hw)) (by decide) (t := .int) (t' := (.array .int)) (by decide) (by decide))))
  exact Wk.return_ rfl d1_20 (Nat.le_of_ble_eq_true rfl) (Nat.le_of_ble_eq_true rfl) ⟨a1, a15, q3, q17, rfl, rfl, (((((Keep.refl h0 [a]).ext E6).wr W13 (Or.inl (by simp))).ext E20).wr W30 (Or.inl (by simp))), hg4, (Nat.le_trans (Nat.le_trans E6.1 (Keep.of_wr W13).1) hg18), hN5, hN19, ne8, ne23, ne25, f34, F31, f35, f36, f37, f32, f33⟩
theorem ef_hor (m : MethodId) (x0 : Addr) : entryFrame m #[(.ref x0)] 1 = mkF m 0 #[.val (.ref x0)] [] := by first | (simp [entryFrame, mkF, argsToLocals, Value.category]; done) | rfl
abbrev b_hor : Bdy := ((⟨"com/example/interlock/interlock/Snapshots", "horizon", "()J"⟩ : MethodName), prog_27_method_4_code, 1, (Option.some Jvm.ClassFile.FieldType.long), ({ frames := 0, cells := 0, slots := 0, locals := 0 } : Room))
def Q_hor (Z : State) (N : Nat) (a : Addr) (b1 : Addr) (q1 : ClassId) (φ : Nat → Int64) (rk : List Nat) (f : Nat) (e : Nat) (h0 : Heap) (I : Lts) (v : Option Value) (h : Heap) (J : Lts) : Prop := I = J ∧ v = some (.long (if f = e then (9223372036854775807 : Int64) else φ (rk.getD f 0))) ∧ h0 = h
set_option maxRecDepth 65536 in
set_option maxHeartbeats 40000000 in
theorem rm_hor {l : Launch} {Z : State} {a0 : Array Value} {N : Nat} (hw : ∀ d ∈ tables_1, d.before a0 Z = true) (a : Addr) (b1 : Addr) (q1 : ClassId) (φ : Nat → Int64) (rk : List Nat) (f : Nat) (e : Nat) (h0 : Heap) (I : Lts) (P0 : Fld Z h0 a "com/example/interlock/interlock/Snapshots" "snapshots" "[J" (.ref b1)) (P1 : Fld Z h0 a "com/example/interlock/interlock/Snapshots" "first" "I" (.int (Int32.ofNat f))) (P2 : Fld Z h0 a "com/example/interlock/interlock/Snapshots" "end" "I" (.int (Int32.ofNat e))) (P3 : Arv Z h0 b1 q1 .long (8 : Int32) (rk.map (fun r => Value.long (φ r))) (.long (0 : Int64))) (hl1 : rk.length = 8) (hfe : f ≤ e) (he : e ≤ 8) :
    Cn l Z N b_hor #[(.ref a)] h0 I (Q_hor Z N a b1 q1 φ rk f e h0 I) := by
  refine Cn.of_wk (Ls := #[.val (.ref a)]) (plainFor_of_name (by first | (simp [plainName, overriddenIn]; done) | decide +kernel)) (fun m => ef_hor m a) ?_
  by_cases hc : f = e
  · skip
    refine Wk.aloadN (pc' := 1) d3_0 rfl rfl rfl ?_
    refine Wk.getF (a0 := a0) (pc' := 4) (host := "") (Or.inl (w20 hw)) Via.refl P1 d3_1 rfl ?_
    refine Wk.aloadN (pc' := 5) d3_4 rfl rfl rfl ?_
    refine Wk.getF (a0 := a0) (pc' := 8) (host := "") (Or.inl (w22 hw)) Via.refl P2 d3_5 rfl ?_
    refine Wk.icmp_neN (pc' := 11) d3_8 rfl (by rw [hc]) ?_
    refine Wk.ldc2J (a0 := a0) (pc' := 14) (w24 hw) d3_11 rfl ?_
    refine Wk.goto (pc' := 26) d3_14 (by decide) ?_
    exact Wk.lreturn rfl d3_26 (Nat.le_of_ble_eq_true rfl) (Nat.le_of_ble_eq_true rfl) ⟨rfl, (by simp [hc]), rfl⟩
  · skip
    refine Wk.aloadN (pc' := 1) d3_0 rfl rfl rfl ?_
    refine Wk.getF (a0 := a0) (pc' := 4) (host := "") (Or.inl (w20 hw)) Via.refl P1 d3_1 rfl ?_
    refine Wk.aloadN (pc' := 5) d3_4 rfl rfl rfl ?_
    refine Wk.getF (a0 := a0) (pc' := 8) (host := "") (Or.inl (w22 hw)) Via.refl P2 d3_5 rfl ?_
    refine Wk.icmp_neY (pc' := 17) d3_8 (by decide) (mt (own_eq (by omega) (by omega)).mp hc) ?_
    refine Wk.aloadN (pc' := 18) d3_17 rfl rfl rfl ?_
    refine Wk.getF (a0 := a0) (pc' := 21) (host := "") (Or.inl (w10 hw)) Via.refl P0 d3_18 rfl ?_
    refine Wk.aloadN (pc' := 22) d3_21 rfl rfl rfl ?_
    refine Wk.getF (a0 := a0) (pc' := 25) (host := "") (Or.inl (w20 hw)) Via.refl P1 d3_22 rfl ?_
    refine Wk.laload (pc' := 26) (v := (.long (φ (rk.getD f 0)))) P3 (own_in (show f < 8 by omega) (by decide)) (own_getm (fun r => Value.long (φ r)) rk 0 _ (by rw [hl1]; exact (show f < 8 by omega)) (by omega)) d3_25 rfl ?_
    exact Wk.lreturn rfl d3_26 (Nat.le_of_ble_eq_true rfl) (Nat.le_of_ble_eq_true rfl) ⟨rfl, (by simp [hc]), rfl⟩
theorem ef_rc (m : MethodId) (x0 : Int32) (x1 : Int32) (x2 : Int32) : entryFrame m #[(.int x0), (.int x1), (.int x2)] 3 = mkF m 0 #[.val (.int x0), .val (.int x1), .val (.int x2)] [] := by first | (simp [entryFrame, mkF, argsToLocals, Value.category]; done) | rfl
abbrev b_rc : Bdy := ((⟨"java/util/Arrays", "rangeCheck", "(III)V"⟩ : MethodName), jdk_65_method_30_code, 3, (Option.none : Option Jvm.ClassFile.FieldType), ({ frames := 0, cells := 0, slots := 0, locals := 0 } : Room))
def Q_rc (Z : State) (N : Nat) (x1 : Int32) (x2 : Int32) (x3 : Int32) (h0 : Heap) (I : Lts) (v : Option Value) (h : Heap) (J : Lts) : Prop := I = J ∧ v = none ∧ h0 = h
set_option maxRecDepth 65536 in
set_option maxHeartbeats 40000000 in
theorem rm_rc {l : Launch} {Z : State} {a0 : Array Value} {N : Nat} (hw : ∀ d ∈ tables_1, d.before a0 Z = true) (x1 : Int32) (x2 : Int32) (x3 : Int32) (h0 : Heap) (I : Lts) (r1 : ¬ x3 < x2) (r2 : ¬ x2 < (0 : Int32)) (r3 : ¬ x1 < x3) :
    Cn l Z N b_rc #[(.int x1), (.int x2), (.int x3)] h0 I (Q_rc Z N x1 x2 x3 h0 I) := by
  refine Cn.of_wk (Ls := #[.val (.int x1), .val (.int x2), .val (.int x3)]) (plainFor_of_name (by first | (simp [plainName, overriddenIn]; done) | decide +kernel)) (fun m => ef_rc m x1 x2 x3) ?_
  refine Wk.iloadN (pc' := 1) d9_0 rfl rfl ?_
  refine Wk.iloadN (pc' := 2) d9_1 rfl rfl ?_
  refine Wk.icmp_leY (pc' := 46) d9_2 (by decide) r1 ?_
  refine Wk.iloadN (pc' := 47) d9_46 rfl rfl ?_
  refine Wk.if_geY (pc' := 59) d9_47 (by decide) r2 ?_
  refine Wk.iloadN (pc' := 60) d9_59 rfl rfl ?_
  refine Wk.iloadN (pc' := 61) d9_60 rfl rfl ?_
  refine Wk.icmp_leY (pc' := 73) d9_61 (by decide) r3 ?_
  exact Wk.return_ rfl d9_73 (Nat.le_of_ble_eq_true rfl) (Nat.le_of_ble_eq_true rfl) ⟨rfl, rfl, rfl⟩
theorem ef_bs0 (m : MethodId) (x0 : Addr) (x1 : Int32) (x2 : Int32) (x3 : Int64) : entryFrame m #[(.ref x0), (.int x1), (.int x2), (.long x3)] 10 = mkF m 0 #[.val (.ref x0), .val (.int x1), .val (.int x2), .val (.long x3), .second, .unset, .unset, .unset, .unset, .unset] [] := by first | (simp [entryFrame, mkF, argsToLocals, Value.category]; done) | rfl
abbrev b_bs0 : Bdy := ((⟨"java/util/Arrays", "binarySearch0", "([JIIJ)I"⟩ : MethodName), jdk_65_method_56_code, 10, (Option.some Jvm.ClassFile.FieldType.int), ({ frames := 0, cells := 0, slots := 0, locals := 0 } : Room))
def Q_bs0 (Z : State) (N : Nat) (b1 : Addr) (q1 : ClassId) (φ : Nat → Int64) (rk : List Nat) (f : Nat) (e : Nat) (r : Nat) (i : Nat) (h0 : Heap) (I : Lts) (v : Option Value) (h : Heap) (J : Lts) : Prop := I = J ∧ v = some (.int (Int32.ofNat i)) ∧ h0 = h
set_option maxRecDepth 65536 in
set_option maxHeartbeats 40000000 in
theorem rm_bs0 {l : Launch} {Z : State} {a0 : Array Value} {N : Nat} (hw : ∀ d ∈ tables_1, d.before a0 Z = true) (b1 : Addr) (q1 : ClassId) (φ : Nat → Int64) (rk : List Nat) (f : Nat) (e : Nat) (r : Nat) (i : Nat) (h0 : Heap) (I : Lts) (P0 : Arv Z h0 b1 q1 .long (8 : Int32) (rk.map (fun r => Value.long (φ r))) (.long (0 : Int64))) (hl1 : rk.length = 8) (hfe : f ≤ e) (he : e ≤ 8) (ho : ∀ j, f ≤ j → j < e → ((φ (rk.getD j 0) < φ r ↔ rk.getD j 0 < r) ∧ (φ r < φ (rk.getD j 0) ↔ r < rk.getD j 0))) (hbs : own_bs rk r 9 f e = some i) :
    Cn l Z N b_bs0 #[(.ref b1), (.int (Int32.ofNat f)), (.int (Int32.ofNat e)), (.long (φ r))] h0 I (Q_bs0 Z N b1 q1 φ rk f e r i h0 I) := by
  refine Cn.of_wk (Ls := #[.val (.ref b1), .val (.int (Int32.ofNat f)), .val (.int (Int32.ofNat e)), .val (.long (φ r)), .second, .unset, .unset, .unset, .unset, .unset]) (plainFor_of_name (by first | (simp [plainName, overriddenIn]; done) | decide +kernel)) (fun m => ef_bs0 m b1 (Int32.ofNat f) (Int32.ofNat e) (φ r)) ?_
  refine Wk.iloadN (pc' := 1) d10_0 rfl rfl ?_
  refine Wk.istore (pc' := 3) #[.val (.ref b1), .val (.int (Int32.ofNat f)), .val (.int (Int32.ofNat e)), .val (.long (φ r)), .second, .val (.int (Int32.ofNat f)), .unset, .unset, .unset, .unset] d10_1 rfl rfl ?_
  refine Wk.iloadN (pc' := 4) d10_3 rfl rfl ?_
  refine Wk.iconst (pc' := 5) (v := 1) d10_4 rfl rfl ?_
  refine Wk.isub (pc' := 6) d10_5 rfl ?_
  refine Wk.istore (pc' := 8) #[.val (.ref b1), .val (.int (Int32.ofNat f)), .val (.int (Int32.ofNat e)), .val (.long (φ r)), .second, .val (.int (Int32.ofNat f)), .val (.int ((Int32.ofNat e) - (1 : Int32))), .unset, .unset, .unset] d10_6 rfl rfl ?_
  suffices loop : ∀ (d lo hi : Nat) (s7 s8 s9 : Slot), ((s7 = .unset ∧ s8 = .unset ∧ s9 = .unset) ∨ ∃ m z, s7 = .val (.int m) ∧ s8 = .val (.long z) ∧ s9 = .second) → f ≤ lo → hi ≤ e → own_bs rk r d lo hi = some i → Wk (l, Z, N, h0.size, b_bs0, Q_bs0 Z N b1 q1 φ rk f e r i h0 I) h0 0 0 I 8 #[.val (.ref b1), .val (.int (Int32.ofNat f)), .val (.int (Int32.ofNat e)), .val (.long (φ r)), .second, .val (.int (Int32.ofNat lo)), .val (.int (Int32.ofNat hi - (1 : Int32))), s7, s8, s9] [] by
    exact loop 9 f e _ _ _ (Or.inl ⟨rfl, rfl, rfl⟩) (Nat.le_refl _) (Nat.le_refl _) hbs
  intro d
  induction d with
  | zero =>
    intro lo hi s7 s8 s9 hs h1 h2 hb'
    simp [own_bs] at hb'
  | succ d ih =>
    intro lo hi s7 s8 s9 hs h1 h2 hb'
    rw [own_bs] at hb'
    by_cases hlt : lo < hi
    · rw [if_pos hlt] at hb'
      obtain ⟨m0, hm0⟩ : ∃ z, z = (lo + hi - 1) / 2 := ⟨_, rfl⟩
      rw [← hm0] at hb'
      have hm1 : f ≤ m0 := by omega
      have hm2 : m0 < e := by omega
      obtain ⟨o1, o2⟩ := ho m0 hm1 hm2
      rcases hs with ⟨rfl, rfl, rfl⟩ | ⟨m, z, rfl, rfl, rfl⟩
      · skip
        refine Wk.iload (pc' := 10) d10_8 rfl rfl ?_
        refine Wk.iload (pc' := 12) d10_10 rfl rfl ?_
        refine Wk.icmp_gtN (pc' := 15) d10_12 rfl (mt (own_past (by omega) (by omega)).mp (by omega)) ?_
        refine Wk.iload (pc' := 17) d10_15 rfl rfl ?_
        refine Wk.iload (pc' := 19) d10_17 rfl rfl ?_
        refine Wk.iadd (pc' := 20) d10_19 rfl ?_
        refine Wk.iconst (pc' := 21) (v := 1) d10_20 rfl rfl ?_
        refine Wk.iushr (pc' := 22) d10_21 rfl ?_
        rw [own_mid hlt (by omega), ← hm0]
        refine Wk.istore (pc' := 24) #[.val (.ref b1), .val (.int (Int32.ofNat f)), .val (.int (Int32.ofNat e)), .val (.long (φ r)), .second, .val (.int (Int32.ofNat lo)), .val (.int (Int32.ofNat hi - (1 : Int32))), .val (.int (Int32.ofNat m0)), .unset, .unset] d10_22 rfl rfl ?_
        refine Wk.aloadN (pc' := 25) d10_24 rfl rfl rfl ?_
        refine Wk.iload (pc' := 27) d10_25 rfl rfl ?_
        refine Wk.laload (pc' := 28) (v := (.long (φ (rk.getD m0 0)))) P0 (own_in (show m0 < 8 by omega) (by decide)) (own_getm (fun r => Value.long (φ r)) rk 0 _ (by rw [hl1]; exact (show m0 < 8 by omega)) (by omega)) d10_27 rfl ?_
        refine Wk.lstore (pc' := 30) #[.val (.ref b1), .val (.int (Int32.ofNat f)), .val (.int (Int32.ofNat e)), .val (.long (φ r)), .second, .val (.int (Int32.ofNat lo)), .val (.int (Int32.ofNat hi - (1 : Int32))), .val (.int (Int32.ofNat m0)), .val (.long (φ (rk.getD m0 0))), .second] d10_28 rfl rfl ?_
        refine Wk.lload (pc' := 32) d10_30 rfl rfl ?_
        refine Wk.lloadN (pc' := 33) d10_32 rfl rfl ?_
        refine Wk.lcmp (pc' := 34) d10_33 rfl ?_
        by_cases c34_1 : (φ (rk.getD m0 0)) < (φ r)
        · refine Wk.if_geN (pc' := 37) d10_34 rfl ((lw_lt _ _).mpr c34_1) ?_
          rw [if_pos (o1.mp c34_1)] at hb'
          refine Wk.iload (pc' := 39) d10_37 rfl rfl ?_
          refine Wk.iconst (pc' := 40) (v := 1) d10_39 rfl rfl ?_
          refine Wk.iadd (pc' := 41) d10_40 rfl ?_
          rw [own_succ (by omega)]
          refine Wk.istore (pc' := 43) #[.val (.ref b1), .val (.int (Int32.ofNat f)), .val (.int (Int32.ofNat e)), .val (.long (φ r)), .second, .val (.int (Int32.ofNat (m0 + 1))), .val (.int (Int32.ofNat hi - (1 : Int32))), .val (.int (Int32.ofNat m0)), .val (.long (φ (rk.getD m0 0))), .second] d10_41 rfl rfl ?_
          refine Wk.goto (pc' := 65) d10_43 (by decide) ?_
          refine Wk.goto (pc' := 8) d10_65 (by decide) ?_
          exact ih (m0 + 1) hi _ _ _ (Or.inr ⟨_, _, rfl, rfl, rfl⟩) (by omega) (by omega) hb'
        · refine Wk.if_geY (pc' := 46) d10_34 (by decide) (mt (lw_lt _ _).mp c34_1) ?_
          rw [if_neg (mt o1.mpr c34_1)] at hb'
          refine Wk.lload (pc' := 48) d10_46 rfl rfl ?_
          refine Wk.lloadN (pc' := 49) d10_48 rfl rfl ?_
          refine Wk.lcmp (pc' := 50) d10_49 rfl ?_
          by_cases c50_2 : (φ r) < (φ (rk.getD m0 0))
          · refine Wk.if_leN (pc' := 53) d10_50 rfl ((lw_gt _ _).mpr c50_2) ?_
            rw [if_pos (o2.mp c50_2)] at hb'
            refine Wk.iload (pc' := 55) d10_53 rfl rfl ?_
            refine Wk.iconst (pc' := 56) (v := 1) d10_55 rfl rfl ?_
            refine Wk.isub (pc' := 57) d10_56 rfl ?_
            refine Wk.istore (pc' := 59) #[.val (.ref b1), .val (.int (Int32.ofNat f)), .val (.int (Int32.ofNat e)), .val (.long (φ r)), .second, .val (.int (Int32.ofNat lo)), .val (.int ((Int32.ofNat m0) - (1 : Int32))), .val (.int (Int32.ofNat m0)), .val (.long (φ (rk.getD m0 0))), .second] d10_57 rfl rfl ?_
            refine Wk.goto (pc' := 65) d10_59 (by decide) ?_
            refine Wk.goto (pc' := 8) d10_65 (by decide) ?_
            exact ih lo m0 _ _ _ (Or.inr ⟨_, _, rfl, rfl, rfl⟩) (by omega) (by omega) hb'
          · refine Wk.if_leY (pc' := 62) d10_50 (by decide) (mt (lw_gt _ _).mp c50_2) ?_
            rw [if_neg (mt o2.mpr c50_2)] at hb'
            obtain rfl : m0 = i := Option.some.inj hb'
            refine Wk.iload (pc' := 64) d10_62 rfl rfl ?_
            exact Wk.ireturn rfl d10_64 (Nat.le_of_ble_eq_true rfl) (Nat.le_of_ble_eq_true rfl) ⟨rfl, rfl, rfl⟩
      · skip
        refine Wk.iload (pc' := 10) d10_8 rfl rfl ?_
        refine Wk.iload (pc' := 12) d10_10 rfl rfl ?_
        refine Wk.icmp_gtN (pc' := 15) d10_12 rfl (mt (own_past (by omega) (by omega)).mp (by omega)) ?_
        refine Wk.iload (pc' := 17) d10_15 rfl rfl ?_
        refine Wk.iload (pc' := 19) d10_17 rfl rfl ?_
        refine Wk.iadd (pc' := 20) d10_19 rfl ?_
        refine Wk.iconst (pc' := 21) (v := 1) d10_20 rfl rfl ?_
        refine Wk.iushr (pc' := 22) d10_21 rfl ?_
        rw [own_mid hlt (by omega), ← hm0]
        refine Wk.istore (pc' := 24) #[.val (.ref b1), .val (.int (Int32.ofNat f)), .val (.int (Int32.ofNat e)), .val (.long (φ r)), .second, .val (.int (Int32.ofNat lo)), .val (.int (Int32.ofNat hi - (1 : Int32))), .val (.int (Int32.ofNat m0)), .val (.long z), .second] d10_22 rfl rfl ?_
        refine Wk.aloadN (pc' := 25) d10_24 rfl rfl rfl ?_
        refine Wk.iload (pc' := 27) d10_25 rfl rfl ?_
        refine Wk.laload (pc' := 28) (v := (.long (φ (rk.getD m0 0)))) P0 (own_in (show m0 < 8 by omega) (by decide)) (own_getm (fun r => Value.long (φ r)) rk 0 _ (by rw [hl1]; exact (show m0 < 8 by omega)) (by omega)) d10_27 rfl ?_
        refine Wk.lstore (pc' := 30) #[.val (.ref b1), .val (.int (Int32.ofNat f)), .val (.int (Int32.ofNat e)), .val (.long (φ r)), .second, .val (.int (Int32.ofNat lo)), .val (.int (Int32.ofNat hi - (1 : Int32))), .val (.int (Int32.ofNat m0)), .val (.long (φ (rk.getD m0 0))), .second] d10_28 rfl rfl ?_
        refine Wk.lload (pc' := 32) d10_30 rfl rfl ?_
        refine Wk.lloadN (pc' := 33) d10_32 rfl rfl ?_
        refine Wk.lcmp (pc' := 34) d10_33 rfl ?_
        by_cases c34_3 : (φ (rk.getD m0 0)) < (φ r)
        · refine Wk.if_geN (pc' := 37) d10_34 rfl ((lw_lt _ _).mpr c34_3) ?_
          rw [if_pos (o1.mp c34_3)] at hb'
          refine Wk.iload (pc' := 39) d10_37 rfl rfl ?_
          refine Wk.iconst (pc' := 40) (v := 1) d10_39 rfl rfl ?_
          refine Wk.iadd (pc' := 41) d10_40 rfl ?_
          rw [own_succ (by omega)]
          refine Wk.istore (pc' := 43) #[.val (.ref b1), .val (.int (Int32.ofNat f)), .val (.int (Int32.ofNat e)), .val (.long (φ r)), .second, .val (.int (Int32.ofNat (m0 + 1))), .val (.int (Int32.ofNat hi - (1 : Int32))), .val (.int (Int32.ofNat m0)), .val (.long (φ (rk.getD m0 0))), .second] d10_41 rfl rfl ?_
          refine Wk.goto (pc' := 65) d10_43 (by decide) ?_
          refine Wk.goto (pc' := 8) d10_65 (by decide) ?_
          exact ih (m0 + 1) hi _ _ _ (Or.inr ⟨_, _, rfl, rfl, rfl⟩) (by omega) (by omega) hb'
        · refine Wk.if_geY (pc' := 46) d10_34 (by decide) (mt (lw_lt _ _).mp c34_3) ?_
          rw [if_neg (mt o1.mpr c34_3)] at hb'
          refine Wk.lload (pc' := 48) d10_46 rfl rfl ?_
          refine Wk.lloadN (pc' := 49) d10_48 rfl rfl ?_
          refine Wk.lcmp (pc' := 50) d10_49 rfl ?_
          by_cases c50_4 : (φ r) < (φ (rk.getD m0 0))
          · refine Wk.if_leN (pc' := 53) d10_50 rfl ((lw_gt _ _).mpr c50_4) ?_
            rw [if_pos (o2.mp c50_4)] at hb'
            refine Wk.iload (pc' := 55) d10_53 rfl rfl ?_
            refine Wk.iconst (pc' := 56) (v := 1) d10_55 rfl rfl ?_
            refine Wk.isub (pc' := 57) d10_56 rfl ?_
            refine Wk.istore (pc' := 59) #[.val (.ref b1), .val (.int (Int32.ofNat f)), .val (.int (Int32.ofNat e)), .val (.long (φ r)), .second, .val (.int (Int32.ofNat lo)), .val (.int ((Int32.ofNat m0) - (1 : Int32))), .val (.int (Int32.ofNat m0)), .val (.long (φ (rk.getD m0 0))), .second] d10_57 rfl rfl ?_
            refine Wk.goto (pc' := 65) d10_59 (by decide) ?_
            refine Wk.goto (pc' := 8) d10_65 (by decide) ?_
            exact ih lo m0 _ _ _ (Or.inr ⟨_, _, rfl, rfl, rfl⟩) (by omega) (by omega) hb'
          · refine Wk.if_leY (pc' := 62) d10_50 (by decide) (mt (lw_gt _ _).mp c50_4) ?_
            rw [if_neg (mt o2.mpr c50_4)] at hb'
            obtain rfl : m0 = i := Option.some.inj hb'
            refine Wk.iload (pc' := 64) d10_62 rfl rfl ?_
            exact Wk.ireturn rfl d10_64 (Nat.le_of_ble_eq_true rfl) (Nat.le_of_ble_eq_true rfl) ⟨rfl, rfl, rfl⟩
    · rw [if_neg hlt] at hb'; cases hb'
theorem ef_bs (m : MethodId) (x0 : Addr) (x1 : Int32) (x2 : Int32) (x3 : Int64) : entryFrame m #[(.ref x0), (.int x1), (.int x2), (.long x3)] 5 = mkF m 0 #[.val (.ref x0), .val (.int x1), .val (.int x2), .val (.long x3), .second] [] := by first | (simp [entryFrame, mkF, argsToLocals, Value.category]; done) | rfl
abbrev b_bs : Bdy := ((⟨"java/util/Arrays", "binarySearch", "([JIIJ)I"⟩ : MethodName), jdk_65_method_55_code, 5, (Option.some Jvm.ClassFile.FieldType.int), ({ frames := 1, cells := 0, slots := 0, locals := 40 } : Room))
def Q_bs (Z : State) (N : Nat) (b1 : Addr) (q1 : ClassId) (φ : Nat → Int64) (rk : List Nat) (f : Nat) (e : Nat) (r : Nat) (i : Nat) (h0 : Heap) (I : Lts) (v : Option Value) (h : Heap) (J : Lts) : Prop := I = J ∧ v = some (.int (Int32.ofNat i)) ∧ h0 = h
set_option maxRecDepth 65536 in
set_option maxHeartbeats 40000000 in
theorem rm_bs {l : Launch} {Z : State} {a0 : Array Value} {N : Nat} (hw : ∀ d ∈ tables_1, d.before a0 Z = true) (b1 : Addr) (q1 : ClassId) (φ : Nat → Int64) (rk : List Nat) (f : Nat) (e : Nat) (r : Nat) (i : Nat) (h0 : Heap) (I : Lts) (P0 : Arv Z h0 b1 q1 .long (8 : Int32) (rk.map (fun r => Value.long (φ r))) (.long (0 : Int64))) (hl1 : rk.length = 8) (hfe : f ≤ e) (he : e ≤ 8) (ho : ∀ j, f ≤ j → j < e → ((φ (rk.getD j 0) < φ r ↔ rk.getD j 0 < r) ∧ (φ r < φ (rk.getD j 0) ↔ r < rk.getD j 0))) (hbs : own_bs rk r 9 f e = some i) :
    Cn l Z N b_bs #[(.ref b1), (.int (Int32.ofNat f)), (.int (Int32.ofNat e)), (.long (φ r))] h0 I (Q_bs Z N b1 q1 φ rk f e r i h0 I) := by
  refine Cn.of_wk (Ls := #[.val (.ref b1), .val (.int (Int32.ofNat f)), .val (.int (Int32.ofNat e)), .val (.long (φ r)), .second]) (plainFor_of_name (by first | (simp [plainName, overriddenIn]; done) | decide +kernel)) (fun m => ef_bs m b1 (Int32.ofNat f) (Int32.ofNat e) (φ r)) ?_
  refine Wk.aloadN (pc' := 1) d8_0 rfl rfl rfl ?_
  refine Wk.arraylength (pc' := 2) P0 d8_1 rfl ?_
  refine Wk.iloadN (pc' := 3) d8_2 rfl rfl ?_
  refine Wk.iloadN (pc' := 4) d8_3 rfl rfl ?_
  refine Wk.callS (a0 := a0) (pc' := 7) (k' := 0) (n' := 0) (W := 0) (b := b_rc) (argsL := [(.int (8 : Int32)), (.int (Int32.ofNat f)), (.int (Int32.ofNat e))]) (rest := []) (rm_rc hw (8 : Int32) (Int32.ofNat f) (Int32.ofNat e) h0 I (mt (own_lt (by omega) (by omega)).mp (by omega)) (own_in (show f < 9 by omega) (by decide)).1 (mt (own_lt (i := 8) (by omega) (by omega)).mp (by omega))) (w47 hw) (w48 hw) (w45 hw) (w49 hw) (by decide) (Nat.le_refl _) id (Nat.le_of_ble_eq_true rfl) (Nat.le_of_ble_eq_true rfl) rfl rfl (Nat.le_of_ble_eq_true rfl) (Nat.le_of_ble_eq_true rfl) rfl pd0 rfl rfl rfl (Nat.le_of_ble_eq_true rfl) d8_4 rfl fun v1 h2 J3 hs4 hQ5 => ?_
  obtain ⟨rfl, rfl, rfl⟩ := hQ5
  show Wk _ h0 0 0 I 7 #[.val (.ref b1), .val (.int (Int32.ofNat f)), .val (.int (Int32.ofNat e)), .val (.long (φ r)), .second] []
  refine Wk.aloadN (pc' := 8) d8_7 rfl rfl rfl ?_
  refine Wk.iloadN (pc' := 9) d8_8 rfl rfl ?_
  refine Wk.iloadN (pc' := 10) d8_9 rfl rfl ?_
  refine Wk.lloadN (pc' := 11) d8_10 rfl rfl ?_
  refine Wk.callS (a0 := a0) (pc' := 14) (k' := 0) (n' := 0) (W := 0) (b := b_bs0) (argsL := [(.ref b1), (.int (Int32.ofNat f)), (.int (Int32.ofNat e)), (.long (φ r))]) (rest := []) (rm_bs0 hw b1 q1 φ rk f e r i h0 I P0 hl1 hfe he ho hbs) (w50 hw) (w51 hw) (w45 hw) (w52 hw) (by decide) (Nat.le_refl _) id (Nat.le_of_ble_eq_true rfl) (Nat.le_of_ble_eq_true rfl) rfl rfl (Nat.le_of_ble_eq_true rfl) (Nat.le_of_ble_eq_true rfl) rfl pd1 rfl rfl rfl (Nat.le_of_ble_eq_true rfl) d8_11 rfl fun v6 h7 J8 hs9 hQ10 => ?_
  obtain ⟨rfl, rfl, rfl⟩ := hQ10
  show Wk _ h0 0 0 I 14 #[.val (.ref b1), .val (.int (Int32.ofNat f)), .val (.int (Int32.ofNat e)), .val (.long (φ r)), .second] [(.int (Int32.ofNat i))]
  exact Wk.ireturn rfl d8_14 (Nat.le_of_ble_eq_true rfl) (Nat.le_of_ble_eq_true rfl) ⟨rfl, rfl, rfl⟩
theorem ef_cmp (m : MethodId) (x0 : Addr) : entryFrame m #[(.ref x0)] 3 = mkF m 0 #[.val (.ref x0), .unset, .unset] [] := by first | (simp [entryFrame, mkF, argsToLocals, Value.category]; done) | rfl
abbrev b_cmp : Bdy := ((⟨"com/example/interlock/interlock/Snapshots", "compact", "()V"⟩ : MethodName), prog_27_method_6_code, 3, (Option.none : Option Jvm.ClassFile.FieldType), ({ frames := 0, cells := 0, slots := 0, locals := 0 } : Room))
def Q_cmp (Z : State) (N : Nat) (a : Addr) (b1 : Addr) (b2 : Addr) (q1 : ClassId) (q2 : ClassId) (φ : Nat → Int64) (rk : List Nat) (ct : List Int32) (f : Nat) (e : Nat) (u : Int32) (k' : Nat) (rk' : List Nat) (ct' : List Int32) (h0 : Heap) (I : Lts) (v : Option Value) (h : Heap) (J : Lts) : Prop := I = J ∧ v = none ∧ Keep h0 h [a, b1, b2] ∧ Fld Z h a "com/example/interlock/interlock/Snapshots" "snapshots" "[J" (.ref b1) ∧ Fld Z h a "com/example/interlock/interlock/Snapshots" "holders" "[I" (.ref b2) ∧ Fld Z h a "com/example/interlock/interlock/Snapshots" "first" "I" (.int (0 : Int32)) ∧ Fld Z h a "com/example/interlock/interlock/Snapshots" "end" "I" (.int (Int32.ofNat k')) ∧ Fld Z h a "com/example/interlock/interlock/Snapshots" "unheld" "I" (.int (0 : Int32)) ∧ Arv Z h b1 q1 .long (8 : Int32) (rk'.map (fun r => Value.long (φ r))) (.long (0 : Int64)) ∧ Arv Z h b2 q2 .int (8 : Int32) (ct'.map Value.int) (.int (0 : Int32))
set_option maxRecDepth 65536 in
set_option maxHeartbeats 40000000 in
theorem rm_cmp {l : Launch} {Z : State} {a0 : Array Value} {N : Nat} (hw : ∀ d ∈ tables_1, d.before a0 Z = true) (a : Addr) (b1 : Addr) (b2 : Addr) (q1 : ClassId) (q2 : ClassId) (φ : Nat → Int64) (rk : List Nat) (ct : List Int32) (f : Nat) (e : Nat) (u : Int32) (k' : Nat) (rk' : List Nat) (ct' : List Int32) (h0 : Heap) (I : Lts) (P0 : Exa Z h0 a "com/example/interlock/interlock/Snapshots") (P1 : Fld Z h0 a "com/example/interlock/interlock/Snapshots" "snapshots" "[J" (.ref b1)) (P2 : Fld Z h0 a "com/example/interlock/interlock/Snapshots" "holders" "[I" (.ref b2)) (P3 : Fld Z h0 a "com/example/interlock/interlock/Snapshots" "first" "I" (.int (Int32.ofNat f))) (P4 : Fld Z h0 a "com/example/interlock/interlock/Snapshots" "end" "I" (.int (Int32.ofNat e))) (P5 : Fld Z h0 a "com/example/interlock/interlock/Snapshots" "unheld" "I" (.int u)) (P6 : Arv Z h0 b1 q1 .long (8 : Int32) (rk.map (fun r => Value.long (φ r))) (.long (0 : Int64))) (P7 : Arv Z h0 b2 q2 .int (8 : Int32) (ct.map Value.int) (.int (0 : Int32))) (P8 : N ≤ a) (P9 : N ≤ b1) (P10 : N ≤ b2) (P11 : a ≠ b1) (P12 : a ≠ b2) (P13 : b1 ≠ b2) (hl1 : rk.length = 8) (hl2 : ct.length = 8) (hfe : f ≤ e) (he : e ≤ 8) (hS : own_cp e 9 f 0 rk ct = (k', rk', ct')) :
    Cn l Z N b_cmp #[(.ref a)] h0 I (Q_cmp Z N a b1 b2 q1 q2 φ rk ct f e u k' rk' ct' h0 I) := by
  refine Cn.of_wk (Ls := #[.val (.ref a), .unset, .unset]) (plainFor_of_name (by first | (simp [plainName, overriddenIn]; done) | decide +kernel)) (fun m => ef_cmp m a) ?_
  refine Wk.iconst (pc' := 1) (v := 0) d11_0 rfl rfl ?_
  refine Wk.istoreN (pc' := 2) #[.val (.ref a), .val (.int (0 : Int32)), .unset] d11_1 rfl rfl ?_
  refine Wk.aloadN (pc' := 3) d11_2 rfl rfl rfl ?_
  refine Wk.getF (a0 := a0) (pc' := 6) (host := "") (Or.inl (w20 hw)) Via.refl P3 d11_3 rfl ?_
  refine Wk.istoreN (pc' := 7) #[.val (.ref a), .val (.int (0 : Int32)), .val (.int (Int32.ofNat f))] d11_6 rfl rfl ?_
  have loop : ∀ (d : Nat) (i j : Nat) (r1 : List Nat) (c1 : List Int32) (hX1 : Heap), (Exa Z hX1 a "com/example/interlock/interlock/Snapshots") → (Fld Z hX1 a "com/example/interlock/interlock/Snapshots" "snapshots" "[J" (.ref b1)) → (Fld Z hX1 a "com/example/interlock/interlock/Snapshots" "holders" "[I" (.ref b2)) → (Fld Z hX1 a "com/example/interlock/interlock/Snapshots" "first" "I" (.int (Int32.ofNat f))) → (Fld Z hX1 a "com/example/interlock/interlock/Snapshots" "end" "I" (.int (Int32.ofNat e))) → (Fld Z hX1 a "com/example/interlock/interlock/Snapshots" "unheld" "I" (.int u)) → (Arv Z hX1 b1 q1 .long (8 : Int32) (r1.map (fun r => Value.long (φ r))) (.long (0 : Int64))) → (Arv Z hX1 b2 q2 .int (8 : Int32) (c1.map Value.int) (.int (0 : Int32))) → (r1.length = 8) → (c1.length = 8) → (j ≤ i) → (e ≤ i + d) → (i ≤ e) → (own_cp e d i j r1 c1 = (k', rk', ct')) → (Keep h0 hX1 [a, b1, b2]) → Wk (l, Z, N, h0.size, b_cmp, Q_cmp Z N a b1 b2 q1 q2 φ rk ct f e u k' rk' ct' h0 I) hX1 0 0 I 7 #[.val (.ref a), .val (.int (Int32.ofNat j)), .val (.int (Int32.ofNat i))] [] := by
    intro d
    induction d with
    | zero =>
      intro i j r1 c1 hX1 y2 y3 y4 y5 y6 y7 y8 y9 m1 m2 m3 m4 m6 m5 K10
      simp only [own_cp, Prod.mk.injEq] at m5
      obtain ⟨rfl, rfl, rfl⟩ := m5
      have hlt : ¬ i < e := by omega
      refine Wk.iloadN (pc' := 8) d11_7 rfl rfl ?_
      refine Wk.aloadN (pc' := 9) d11_8 rfl rfl rfl ?_
      refine Wk.getF (a0 := a0) (pc' := 12) (host := "") (Or.inl (w22 hw)) Via.refl y6 d11_9 rfl ?_
      refine Wk.icmp_geY (pc' := 57) d11_12 (by decide) (mt (own_lt (by omega) (by omega)).mp hlt) ?_
      refine Wk.aloadN (pc' := 58) d11_57 rfl rfl rfl ?_
      refine Wk.iconst (pc' := 59) (v := 0) d11_58 rfl rfl ?_
      refine Wk.putF (a0 := a0) (pc' := 62) (host := "") (Or.inl (w20 hw)) Via.refl P8 y5 y2 (Or.inl (w21 hw)) (w1 hw) (ty := .int) (by decide) rfl rfl d11_59 rfl fun h11 W12 => ?_
      have F13 := y5.same W12
      refine Wk.aloadN (pc' := 63) d11_62 rfl rfl rfl ?_
      refine Wk.iloadN (pc' := 64) d11_63 rfl rfl ?_
      have f14 := (y2.wr W12)
      have f15 := (y6.other W12 (Or.inr (slot_ne (Or.inl (w23 hw)) (Or.inl (w21 hw)) (by decide) (t := .int) (t' := .int) (by decide) (by decide))))
      refine Wk.putF (a0 := a0) (pc' := 67) (host := "") (Or.inl (w22 hw)) Via.refl P8 f15 f14 (Or.inl (w23 hw)) (w1 hw) (ty := .int) (by decide) rfl rfl d11_64 rfl fun h16 W17 => ?_
      have F18 := f15.same W17
      refine Wk.aloadN (pc' := 68) d11_67 rfl rfl rfl ?_
      refine Wk.iconst (pc' := 69) (v := 0) d11_68 rfl rfl ?_
      have f19 := (f14.wr W17)
      have f20 := ((y7.other W12 (Or.inr (slot_ne (Or.inl (w54 hw)) (Or.inl (w21 hw)) (by decide) (t := .int) (t' := .int) (by decide) (by decide)))).other W17 (Or.inr (slot_ne (Or.inl (w54 hw)) (Or.inl (w23 hw)) (by decide) (t := .int) (t' := .int) (by decide) (by decide))))
      refine Wk.putF (a0 := a0) (pc' := 72) (host := "") (Or.inl (w53 hw)) Via.refl P8 f20 f19 (Or.inl (w54 hw)) (w1 hw) (ty := .int) (by decide) rfl rfl d11_69 rfl fun h21 W22 => ?_
      have F23 := f20.same W22
      have f24 := (((y3.other W12 (Or.inr (slot_ne (Or.inl (w11 hw)) (Or.inl (w21 hw)) (by decide) (t := (.array .long)) (t' := .int) (by decide) (by decide)))).other W17 (Or.inr (slot_ne (Or.inl (w11 hw)) (Or.inl (w23 hw)) (by decide) (t := (.array .long)) (t' := .int) (by decide) (by decide)))).other W22 (Or.inr (slot_ne (Or.inl (w11 hw)) (Or.inl (w54 hw)) (by decide) (t := (.array .long)) (t' := .int) (by decide) (by decide))))
      have f25 := (((y4.other W12 (Or.inr (slot_ne (Or.inl (w14 hw)) (Or.inl (w21 hw)) (by decide) (t := (.array .int)) (t' := .int) (by decide) (by decide)))).other W17 (Or.inr (slot_ne (Or.inl (w14 hw)) (Or.inl (w23 hw)) (by decide) (t := (.array .int)) (t' := .int) (by decide) (by decide)))).other W22 (Or.inr (slot_ne (Or.inl (w14 hw)) (Or.inl (w54 hw)) (by decide) (t := (.array .int)) (t' := .int) (by decide) (by decide))))
      have f26 := ((F13.other W17 (Or.inr (slot_ne (Or.inl (w21 hw)) (Or.inl (w23 hw)) (by decide) (t := .int) (t' := .int) (by decide) (by decide)))).other W22 (Or.inr (slot_ne (Or.inl (w21 hw)) (Or.inl (w54 hw)) (by decide) (t := .int) (t' := .int) (by decide) (by decide))))
      have f27 := (F18.other W22 (Or.inr (slot_ne (Or.inl (w23 hw)) (Or.inl (w54 hw)) (by decide) (t := .int) (t' := .int) (by decide) (by decide))))
      have f28 := (((y8.other W12 (Ne.symm P11)).other W17 (Ne.symm P11)).other W22 (Ne.symm P11))
      have f29 := (((y9.other W12 (Ne.symm P12)).other W17 (Ne.symm P12)).other W22 (Ne.symm P12))
      exact Wk.return_ rfl d11_72 (Nat.le_of_ble_eq_true rfl) (Nat.le_of_ble_eq_true rfl) ⟨rfl, rfl, (((((Keep.refl h0 [a, b1, b2]).trans K10 (allS (Or.inl (by simp)) (allS (Or.inl (by simp)) (allS (Or.inl (by simp)) all0)))).wr W12 (Or.inl (by simp))).wr W17 (Or.inl (by simp))).wr W22 (Or.inl (by simp))), f24, f25, f26, f27, F23, f28, f29⟩
    | succ d ih =>
      intro i j r1 c1 hX1 y2 y3 y4 y5 y6 y7 y8 y9 m1 m2 m3 m4 m6 m5 K10
      rw [own_cp] at m5
      by_cases hlt : i < e
      · skip
        rw [if_pos hlt] at m5
        refine Wk.iloadN (pc' := 8) d11_7 rfl rfl ?_
        refine Wk.aloadN (pc' := 9) d11_8 rfl rfl rfl ?_
        refine Wk.getF (a0 := a0) (pc' := 12) (host := "") (Or.inl (w22 hw)) Via.refl y6 d11_9 rfl ?_
        refine Wk.icmp_geN (pc' := 15) d11_12 rfl ((own_lt (by omega) (by omega)).mpr hlt) ?_
        refine Wk.aloadN (pc' := 16) d11_15 rfl rfl rfl ?_
        refine Wk.getF (a0 := a0) (pc' := 19) (host := "") (Or.inl (w13 hw)) Via.refl y4 d11_16 rfl ?_
        refine Wk.iloadN (pc' := 20) d11_19 rfl rfl ?_
        refine Wk.iaload (pc' := 21) (v := (.int (c1.getD i 0))) y9 (own_in (show i < 8 by omega) (by decide)) (own_getm Value.int c1 0 _ (by rw [m2]; exact (show i < 8 by omega)) (by omega)) d11_20 rfl ?_
        by_cases c21_30 : (0 : Int32) < (c1.getD i 0)
        · refine Wk.if_leN (pc' := 24) d11_21 rfl c21_30 ?_
          rw [if_pos c21_30] at m5
          refine Wk.aloadN (pc' := 25) d11_24 rfl rfl rfl ?_
          refine Wk.getF (a0 := a0) (pc' := 28) (host := "") (Or.inl (w10 hw)) Via.refl y3 d11_25 rfl ?_
          refine Wk.iloadN (pc' := 29) d11_28 rfl rfl ?_
          refine Wk.aloadN (pc' := 30) d11_29 rfl rfl rfl ?_
          refine Wk.getF (a0 := a0) (pc' := 33) (host := "") (Or.inl (w10 hw)) Via.refl y3 d11_30 rfl ?_
          refine Wk.iloadN (pc' := 34) d11_33 rfl rfl ?_
          refine Wk.laload (pc' := 35) (v := (.long (φ (r1.getD i 0)))) y8 (own_in (show i < 8 by omega) (by decide)) (own_getm (fun r => Value.long (φ r)) r1 0 _ (by rw [m1]; exact (show i < 8 by omega)) (by omega)) d11_34 rfl ?_
          refine Wk.lastore (pc' := 36) y8 P9 (own_in (show j < 8 by omega) (by decide)) j (own_clamp (by omega)) (by rw [List.length_map, m1]; exact (show j < 8 by omega)) d11_35 rfl fun h31 W32 A33 => ?_
          have A34 : Arv Z h31 b1 q1 .long (8 : Int32) ((r1.set j (r1.getD i 0)).map (fun r => Value.long (φ r))) (.long (0 : Int64)) := by rw [List.map_set]; exact A33
          refine Wk.aloadN (pc' := 37) d11_36 rfl rfl rfl ?_
          have f35 := (y4.other W32 (Or.inl P11))
          refine Wk.getF (a0 := a0) (pc' := 40) (host := "") (Or.inl (w13 hw)) Via.refl f35 d11_37 rfl ?_
          refine Wk.iloadN (pc' := 41) d11_40 rfl rfl ?_
          refine Wk.aloadN (pc' := 42) d11_41 rfl rfl rfl ?_
          refine Wk.getF (a0 := a0) (pc' := 45) (host := "") (Or.inl (w13 hw)) Via.refl f35 d11_42 rfl ?_
          refine Wk.iloadN (pc' := 46) d11_45 rfl rfl ?_
          have f36 := (y9.other W32 (Ne.symm P13))
          refine Wk.iaload (pc' := 47) (v := (.int (c1.getD i 0))) f36 (own_in (show i < 8 by omega) (by decide)) (own_getm Value.int c1 0 _ (by rw [m2]; exact (show i < 8 by omega)) (by omega)) d11_46 rfl ?_
          refine Wk.iastore (pc' := 48) f36 P10 (own_in (show j < 8 by omega) (by decide)) j (own_clamp (by omega)) (by rw [List.length_map, m2]; exact (show j < 8 by omega)) d11_47 rfl fun h37 W38 A39 => ?_
          have A40 : Arv Z h37 b2 q2 .int (8 : Int32) ((c1.set j (c1.getD i 0)).map Value.int) (.int (0 : Int32)) := by rw [List.map_set]; exact A39
          refine Wk.iinc (pc' := 51) (v := 1) (Ls' := #[.val (.ref a), .val (.int ((Int32.ofNat j) + (1 : Int32))), .val (.int (Int32.ofNat i))]) d11_48 rfl rfl rfl rfl ?_
          rw [own_succ (show j < 2147483647 by omega)]
          refine Wk.iinc (pc' := 54) (v := 1) (Ls' := #[.val (.ref a), .val (.int (Int32.ofNat (j + 1))), .val (.int ((Int32.ofNat i) + (1 : Int32)))]) d11_51 rfl rfl rfl rfl ?_
          rw [own_succ (show i < 2147483647 by omega)]
          refine Wk.goto (pc' := 7) d11_54 (by decide) ?_
          have f41 := ((y2.wr W32).wr W38)
          have f42 := ((y3.other W32 (Or.inl P11)).other W38 (Or.inl P12))
          have f43 := (f35.other W38 (Or.inl P12))
          have f44 := ((y5.other W32 (Or.inl P11)).other W38 (Or.inl P12))
          have f45 := ((y6.other W32 (Or.inl P11)).other W38 (Or.inl P12))
          have f46 := ((y7.other W32 (Or.inl P11)).other W38 (Or.inl P12))
          have f47 := (A34.other W38 P13)
          exact ih (i + 1) (j + 1) (r1.set j (r1.getD i 0)) (c1.set j (c1.getD i 0)) h37 f41 f42 f43 f44 f45 f46 f47 A40 (by simpa using m1) (by simpa using m2) (by omega) (by omega) (by omega) m5 ((((Keep.refl h0 [a, b1, b2]).trans K10 (allS (Or.inl (by simp)) (allS (Or.inl (by simp)) (allS (Or.inl (by simp)) all0)))).wr W32 (Or.inl (by simp))).wr W38 (Or.inl (by simp)))
        · refine Wk.if_leY (pc' := 51) d11_21 (by decide) c21_30 ?_
          rw [if_neg c21_30] at m5
          refine Wk.iinc (pc' := 54) (v := 1) (Ls' := #[.val (.ref a), .val (.int (Int32.ofNat j)), .val (.int ((Int32.ofNat i) + (1 : Int32)))]) d11_51 rfl rfl rfl rfl ?_
          rw [own_succ (show i < 2147483647 by omega)]
          refine Wk.goto (pc' := 7) d11_54 (by decide) ?_
          exact ih (i + 1) j r1 c1 hX1 y2 y3 y4 y5 y6 y7 y8 y9 (by simpa using m1) (by simpa using m2) (by omega) (by omega) (by omega) m5 ((Keep.refl h0 [a, b1, b2]).trans K10 (allS (Or.inl (by simp)) (allS (Or.inl (by simp)) (allS (Or.inl (by simp)) all0))))
      · skip
        rw [if_neg hlt] at m5
        simp only [Prod.mk.injEq] at m5
        obtain ⟨rfl, rfl, rfl⟩ := m5
        refine Wk.iloadN (pc' := 8) d11_7 rfl rfl ?_
        refine Wk.aloadN (pc' := 9) d11_8 rfl rfl rfl ?_
        refine Wk.getF (a0 := a0) (pc' := 12) (host := "") (Or.inl (w22 hw)) Via.refl y6 d11_9 rfl ?_
        refine Wk.icmp_geY (pc' := 57) d11_12 (by decide) (mt (own_lt (by omega) (by omega)).mp hlt) ?_
        refine Wk.aloadN (pc' := 58) d11_57 rfl rfl rfl ?_
        refine Wk.iconst (pc' := 59) (v := 0) d11_58 rfl rfl ?_
        refine Wk.putF (a0 := a0) (pc' := 62) (host := "") (Or.inl (w20 hw)) Via.refl P8 y5 y2 (Or.inl (w21 hw)) (w1 hw) (ty := .int) (by decide) rfl rfl d11_59 rfl fun h48 W49 => ?_
        have F50 := y5.same W49
        refine Wk.aloadN (pc' := 63) d11_62 rfl rfl rfl ?_
        refine Wk.iloadN (pc' := 64) d11_63 rfl rfl ?_
        have f51 := (y2.wr W49)
        have f52 := (y6.other W49 (Or.inr (slot_ne (Or.inl (w23 hw)) (Or.inl (w21 hw)) (by decide) (t := .int) (t' := .int) (by decide) (by decide))))
        refine Wk.putF (a0 := a0) (pc' := 67) (host := "") (Or.inl (w22 hw)) Via.refl P8 f52 f51 (Or.inl (w23 hw)) (w1 hw) (ty := .int) (by decide) rfl rfl d11_64 rfl fun h53 W54 => ?_
        have F55 := f52.same W54
        refine Wk.aloadN (pc' := 68) d11_67 rfl rfl rfl ?_
        refine Wk.iconst (pc' := 69) (v := 0) d11_68 rfl rfl ?_
        have f56 := (f51.wr W54)
        have f57 := ((y7.other W49 (Or.inr (slot_ne (Or.inl (w54 hw)) (Or.inl (w21 hw)) (by decide) (t := .int) (t' := .int) (by decide) (by decide)))).other W54 (Or.inr (slot_ne (Or.inl (w54 hw)) (Or.inl (w23 hw)) (by decide) (t := .int) (t' := .int) (by decide) (by decide))))
        refine Wk.putF (a0 := a0) (pc' := 72) (host := "") (Or.inl (w53 hw)) Via.refl P8 f57 f56 (Or.inl (w54 hw)) (w1 hw) (ty := .int) (by decide) rfl rfl d11_69 rfl fun h58 W59 => ?_
        have F60 := f57.same W59
        have f61 := (((y3.other W49 (Or.inr (slot_ne (Or.inl (w11 hw)) (Or.inl (w21 hw)) (by decide) (t := (.array .long)) (t' := .int) (by decide) (by decide)))).other W54 (Or.inr (slot_ne (Or.inl (w11 hw)) (Or.inl (w23 hw)) (by decide) (t := (.array .long)) (t' := .int) (by decide) (by decide)))).other W59 (Or.inr (slot_ne (Or.inl (w11 hw)) (Or.inl (w54 hw)) (by decide) (t := (.array .long)) (t' := .int) (by decide) (by decide))))
        have f62 := (((y4.other W49 (Or.inr (slot_ne (Or.inl (w14 hw)) (Or.inl (w21 hw)) (by decide) (t := (.array .int)) (t' := .int) (by decide) (by decide)))).other W54 (Or.inr (slot_ne (Or.inl (w14 hw)) (Or.inl (w23 hw)) (by decide) (t := (.array .int)) (t' := .int) (by decide) (by decide)))).other W59 (Or.inr (slot_ne (Or.inl (w14 hw)) (Or.inl (w54 hw)) (by decide) (t := (.array .int)) (t' := .int) (by decide) (by decide))))
        have f63 := ((F50.other W54 (Or.inr (slot_ne (Or.inl (w21 hw)) (Or.inl (w23 hw)) (by decide) (t := .int) (t' := .int) (by decide) (by decide)))).other W59 (Or.inr (slot_ne (Or.inl (w21 hw)) (Or.inl (w54 hw)) (by decide) (t := .int) (t' := .int) (by decide) (by decide))))
        have f64 := (F55.other W59 (Or.inr (slot_ne (Or.inl (w23 hw)) (Or.inl (w54 hw)) (by decide) (t := .int) (t' := .int) (by decide) (by decide))))
        have f65 := (((y8.other W49 (Ne.symm P11)).other W54 (Ne.symm P11)).other W59 (Ne.symm P11))
        have f66 := (((y9.other W49 (Ne.symm P12)).other W54 (Ne.symm P12)).other W59 (Ne.symm P12))
        exact Wk.return_ rfl d11_72 (Nat.le_of_ble_eq_true rfl) (Nat.le_of_ble_eq_true rfl) ⟨rfl, rfl, (((((Keep.refl h0 [a, b1, b2]).trans K10 (allS (Or.inl (by simp)) (allS (Or.inl (by simp)) (allS (Or.inl (by simp)) all0)))).wr W49 (Or.inl (by simp))).wr W54 (Or.inl (by simp))).wr W59 (Or.inl (by simp))), f61, f62, f63, f64, F60, f65, f66⟩
  exact loop 9 f 0 rk ct h0 P0 P1 P2 P3 P4 P5 P6 P7 hl1 hl2 (Nat.zero_le _) (by omega) hfe hS (Keep.refl h0 [a, b1, b2])
theorem ef_hold (m : MethodId) (x0 : Addr) (x1 : Int64) : entryFrame m #[(.ref x0), (.long x1)] 3 = mkF m 0 #[.val (.ref x0), .val (.long x1), .second] [] := by first | (simp [entryFrame, mkF, argsToLocals, Value.category]; done) | rfl
abbrev b_hold : Bdy := ((⟨"com/example/interlock/interlock/Snapshots", "hold", "(J)V"⟩ : MethodName), prog_27_method_2_code, 3, (Option.none : Option Jvm.ClassFile.FieldType), ({ frames := 0, cells := 0, slots := 0, locals := 0 } : Room))
def Q_hold (Z : State) (N : Nat) (a : Addr) (b1 : Addr) (b2 : Addr) (q1 : ClassId) (q2 : ClassId) (φ : Nat → Int64) (rk : List Nat) (ct : List Int32) (f : Nat) (e : Nat) (u : Int32) (r : Nat) (rk' : List Nat) (ct' : List Int32) (e' : Nat) (u' : Int32) (h0 : Heap) (I : Lts) (v : Option Value) (h : Heap) (J : Lts) : Prop := I = J ∧ v = none ∧ Keep h0 h [a, b1, b2] ∧ Fld Z h a "com/example/interlock/interlock/Snapshots" "snapshots" "[J" (.ref b1) ∧ Fld Z h a "com/example/interlock/interlock/Snapshots" "holders" "[I" (.ref b2) ∧ Fld Z h a "com/example/interlock/interlock/Snapshots" "first" "I" (.int (Int32.ofNat f)) ∧ Fld Z h a "com/example/interlock/interlock/Snapshots" "end" "I" (.int (Int32.ofNat e')) ∧ Fld Z h a "com/example/interlock/interlock/Snapshots" "unheld" "I" (.int u') ∧ Arv Z h b1 q1 .long (8 : Int32) (rk'.map (fun r => Value.long (φ r))) (.long (0 : Int64)) ∧ Arv Z h b2 q2 .int (8 : Int32) (ct'.map Value.int) (.int (0 : Int32))
set_option maxRecDepth 65536 in
set_option maxHeartbeats 40000000 in
theorem rm_hold {l : Launch} {Z : State} {a0 : Array Value} {N : Nat} (hw : ∀ d ∈ tables_1, d.before a0 Z = true) (a : Addr) (b1 : Addr) (b2 : Addr) (q1 : ClassId) (q2 : ClassId) (φ : Nat → Int64) (rk : List Nat) (ct : List Int32) (f : Nat) (e : Nat) (u : Int32) (r : Nat) (rk' : List Nat) (ct' : List Int32) (e' : Nat) (u' : Int32) (h0 : Heap) (I : Lts) (P0 : Exa Z h0 a "com/example/interlock/interlock/Snapshots") (P1 : Fld Z h0 a "com/example/interlock/interlock/Snapshots" "snapshots" "[J" (.ref b1)) (P2 : Fld Z h0 a "com/example/interlock/interlock/Snapshots" "holders" "[I" (.ref b2)) (P3 : Fld Z h0 a "com/example/interlock/interlock/Snapshots" "first" "I" (.int (Int32.ofNat f))) (P4 : Fld Z h0 a "com/example/interlock/interlock/Snapshots" "end" "I" (.int (Int32.ofNat e))) (P5 : Fld Z h0 a "com/example/interlock/interlock/Snapshots" "unheld" "I" (.int u)) (P6 : Arv Z h0 b1 q1 .long (8 : Int32) (rk.map (fun r => Value.long (φ r))) (.long (0 : Int64))) (P7 : Arv Z h0 b2 q2 .int (8 : Int32) (ct.map Value.int) (.int (0 : Int32))) (P8 : N ≤ a) (P9 : N ≤ b1) (P10 : N ≤ b2) (P11 : a ≠ b1) (P12 : a ≠ b2) (P13 : b1 ≠ b2) (hl1 : rk.length = 8) (hl2 : ct.length = 8) (hfe : f ≤ e) (he : e < 8) (ho : f < e → ((φ (rk.getD (e - 1) 0) < φ r ↔ (rk.getD (e - 1) 0) < r) ∧ (φ r < φ (rk.getD (e - 1) 0) ↔ r < (rk.getD (e - 1) 0)))) (hle : f < e → (rk.getD (e - 1) 0) ≤ r) (hS : own_hold rk ct f e u r = (rk', ct', e', u')) :
    Cn l Z N b_hold #[(.ref a), (.long (φ r))] h0 I (Q_hold Z N a b1 b2 q1 q2 φ rk ct f e u r rk' ct' e' u' h0 I) := by
  refine Cn.of_wk (Ls := #[.val (.ref a), .val (.long (φ r)), .second]) (plainFor_of_name (by first | (simp [plainName, overriddenIn]; done) | decide +kernel)) (fun m => ef_hold m a (φ r)) ?_
  by_cases hc : f < e ∧ (rk.getD (e - 1) 0) = r
  · skip
    obtain ⟨hc1, hc2⟩ := hc
    rw [own_hold, if_pos ⟨hc1, hc2⟩] at hS
    have he0 : 0 < e := by omega
    by_cases hz : (ct.getD (e - 1) 0) = 0
    · skip
      rw [if_pos hz] at hS
      simp only [Prod.mk.injEq] at hS
      obtain ⟨rfl, rfl, rfl, rfl⟩ := hS
      refine Wk.aloadN (pc' := 1) d6_0 rfl rfl rfl ?_
      refine Wk.getF (a0 := a0) (pc' := 4) (host := "") (Or.inl (w20 hw)) Via.refl P3 d6_1 rfl ?_
      refine Wk.aloadN (pc' := 5) d6_4 rfl rfl rfl ?_
      refine Wk.getF (a0 := a0) (pc' := 8) (host := "") (Or.inl (w22 hw)) Via.refl P4 d6_5 rfl ?_
      refine Wk.icmp_geN (pc' := 11) d6_8 rfl ((own_lt (by omega) (by omega)).mpr hc1) ?_
      refine Wk.aloadN (pc' := 12) d6_11 rfl rfl rfl ?_
      refine Wk.getF (a0 := a0) (pc' := 15) (host := "") (Or.inl (w10 hw)) Via.refl P1 d6_12 rfl ?_
      refine Wk.aloadN (pc' := 16) d6_15 rfl rfl rfl ?_
      refine Wk.getF (a0 := a0) (pc' := 19) (host := "") (Or.inl (w22 hw)) Via.refl P4 d6_16 rfl ?_
      refine Wk.iconst (pc' := 20) (v := 1) d6_19 rfl rfl ?_
      refine Wk.isub (pc' := 21) d6_20 rfl ?_
      rw [own_pred (show e < 2147483648 by omega) he0]
      refine Wk.laload (pc' := 22) (v := (.long (φ (rk.getD (e - 1) 0)))) P6 (own_in (show e - 1 < 8 by omega) (by decide)) (own_getm (fun r => Value.long (φ r)) rk 0 _ (by rw [hl1]; exact (show e - 1 < 8 by omega)) (by omega)) d6_21 rfl ?_
      refine Wk.lloadN (pc' := 23) d6_22 rfl rfl ?_
      refine Wk.lcmp (pc' := 24) d6_23 rfl ?_
      refine Wk.if_leY (pc' := 52) d6_24 (by decide) (mt (lw_gt _ _).mp (fun q => by have h1 := (ho hc1).2.mp q; have h2 := hle hc1; omega)) ?_
      refine Wk.aloadN (pc' := 53) d6_52 rfl rfl rfl ?_
      refine Wk.getF (a0 := a0) (pc' := 56) (host := "") (Or.inl (w20 hw)) Via.refl P3 d6_53 rfl ?_
      refine Wk.aloadN (pc' := 57) d6_56 rfl rfl rfl ?_
      refine Wk.getF (a0 := a0) (pc' := 60) (host := "") (Or.inl (w22 hw)) Via.refl P4 d6_57 rfl ?_
      refine Wk.icmp_geN (pc' := 63) d6_60 rfl ((own_lt (by omega) (by omega)).mpr hc1) ?_
      refine Wk.aloadN (pc' := 64) d6_63 rfl rfl rfl ?_
      refine Wk.getF (a0 := a0) (pc' := 67) (host := "") (Or.inl (w10 hw)) Via.refl P1 d6_64 rfl ?_
      refine Wk.aloadN (pc' := 68) d6_67 rfl rfl rfl ?_
      refine Wk.getF (a0 := a0) (pc' := 71) (host := "") (Or.inl (w22 hw)) Via.refl P4 d6_68 rfl ?_
      refine Wk.iconst (pc' := 72) (v := 1) d6_71 rfl rfl ?_
      refine Wk.isub (pc' := 73) d6_72 rfl ?_
      rw [own_pred (show e < 2147483648 by omega) he0]
      refine Wk.laload (pc' := 74) (v := (.long (φ (rk.getD (e - 1) 0)))) P6 (own_in (show e - 1 < 8 by omega) (by decide)) (own_getm (fun r => Value.long (φ r)) rk 0 _ (by rw [hl1]; exact (show e - 1 < 8 by omega)) (by omega)) d6_73 rfl ?_
      refine Wk.lloadN (pc' := 75) d6_74 rfl rfl ?_
      refine Wk.lcmp (pc' := 76) d6_75 rfl ?_
      refine Wk.if_neN (pc' := 79) d6_76 rfl ((lw_eq _ _).mpr (by rw [hc2])) ?_
      refine Wk.aloadN (pc' := 80) d6_79 rfl rfl rfl ?_
      refine Wk.getF (a0 := a0) (pc' := 83) (host := "") (Or.inl (w13 hw)) Via.refl P2 d6_80 rfl ?_
      refine Wk.aloadN (pc' := 84) d6_83 rfl rfl rfl ?_
      refine Wk.getF (a0 := a0) (pc' := 87) (host := "") (Or.inl (w22 hw)) Via.refl P4 d6_84 rfl ?_
      refine Wk.iconst (pc' := 88) (v := 1) d6_87 rfl rfl ?_
      refine Wk.isub (pc' := 89) d6_88 rfl ?_
      rw [own_pred (show e < 2147483648 by omega) he0]
      refine Wk.iaload (pc' := 90) (v := (.int (ct.getD (e - 1) 0))) P7 (own_in (show e - 1 < 8 by omega) (by decide)) (own_getm Value.int ct 0 _ (by rw [hl2]; exact (show e - 1 < 8 by omega)) (by omega)) d6_89 rfl ?_
      refine Wk.if_neN (pc' := 93) d6_90 rfl hz ?_
      refine Wk.aloadN (pc' := 94) d6_93 rfl rfl rfl ?_
      refine Wk.dup (pc' := 95) d6_94 rfl rfl ?_
      refine Wk.getF (a0 := a0) (pc' := 98) (host := "") (Or.inl (w53 hw)) Via.refl P5 d6_95 rfl ?_
      refine Wk.iconst (pc' := 99) (v := 1) d6_98 rfl rfl ?_
      refine Wk.isub (pc' := 100) d6_99 rfl ?_
      refine Wk.putF (a0 := a0) (pc' := 103) (host := "") (Or.inl (w53 hw)) Via.refl P8 P5 P0 (Or.inl (w54 hw)) (w1 hw) (ty := .int) (by decide) rfl rfl d6_100 rfl fun h1 W2 => ?_
      have F3 := P5.same W2
      refine Wk.aloadN (pc' := 104) d6_103 rfl rfl rfl ?_
      have f4 := (P2.other W2 (Or.inr (slot_ne (Or.inl (w14 hw)) (Or.inl (w54 hw)) (by decide) (t := (.array .int)) (t' := .int) (by decide) (by decide))))
      refine Wk.getF (a0 := a0) (pc' := 107) (host := "") (Or.inl (w13 hw)) Via.refl f4 d6_104 rfl ?_
      refine Wk.aloadN (pc' := 108) d6_107 rfl rfl rfl ?_
      have f5 := (P4.other W2 (Or.inr (slot_ne (Or.inl (w23 hw)) (Or.inl (w54 hw)) (by decide) (t := .int) (t' := .int) (by decide) (by decide))))
      refine Wk.getF (a0 := a0) (pc' := 111) (host := "") (Or.inl (w22 hw)) Via.refl f5 d6_108 rfl ?_
      refine Wk.iconst (pc' := 112) (v := 1) d6_111 rfl rfl ?_
      refine Wk.isub (pc' := 113) d6_112 rfl ?_
      rw [own_pred (show e < 2147483648 by omega) he0]
      refine Wk.dup2 (pc' := 114) d6_113 rfl rfl rfl ?_
      have f6 := (P7.other W2 (Ne.symm P12))
      refine Wk.iaload (pc' := 115) (v := (.int (ct.getD (e - 1) 0))) f6 (own_in (show e - 1 < 8 by omega) (by decide)) (own_getm Value.int ct 0 _ (by rw [hl2]; exact (show e - 1 < 8 by omega)) (by omega)) d6_114 rfl ?_
      refine Wk.iconst (pc' := 116) (v := 1) d6_115 rfl rfl ?_
      refine Wk.iadd (pc' := 117) d6_116 rfl ?_
      refine Wk.iastore (pc' := 118) f6 P10 (own_in (show e - 1 < 8 by omega) (by decide)) (e - 1) (own_clamp (by omega)) (by rw [List.length_map, hl2]; exact (show e - 1 < 8 by omega)) d6_117 rfl fun h7 W8 A9 => ?_
      have A10 : Arv Z h7 b2 q2 .int (8 : Int32) ((ct.set (e - 1) ((ct.getD (e - 1) 0) + 1)).map Value.int) (.int (0 : Int32)) := by rw [List.map_set]; exact A9
      have f11 := ((P1.other W2 (Or.inr (slot_ne (Or.inl (w11 hw)) (Or.inl (w54 hw)) (by decide) (t := (.array .long)) (t' := .int) (by decide) (by decide)))).other W8 (Or.inl P12))
      have f12 := (f4.other W8 (Or.inl P12))
      have f13 := ((P3.other W2 (Or.inr (slot_ne (Or.inl (w21 hw)) (Or.inl (w54 hw)) (by decide) (t := .int) (t' := .int) (by decide) (by decide)))).other W8 (Or.inl P12))
      have f14 := (f5.other W8 (Or.inl P12))
      have f15 := (F3.other W8 (Or.inl P12))
      have f16 := ((P6.other W2 (Ne.symm P11)).other W8 P13)
      exact Wk.return_ rfl d6_118 (Nat.le_of_ble_eq_true rfl) (Nat.le_of_ble_eq_true rfl) ⟨rfl, rfl, (((Keep.refl h0 [a, b1, b2]).wr W2 (Or.inl (by simp))).wr W8 (Or.inl (by simp))), f11, f12, f13, f14, f15, f16, A10⟩
    · skip
      rw [if_neg hz] at hS
      simp only [Prod.mk.injEq] at hS
      obtain ⟨rfl, rfl, rfl, rfl⟩ := hS
      refine Wk.aloadN (pc' := 1) d6_0 rfl rfl rfl ?_
      refine Wk.getF (a0 := a0) (pc' := 4) (host := "") (Or.inl (w20 hw)) Via.refl P3 d6_1 rfl ?_
      refine Wk.aloadN (pc' := 5) d6_4 rfl rfl rfl ?_
      refine Wk.getF (a0 := a0) (pc' := 8) (host := "") (Or.inl (w22 hw)) Via.refl P4 d6_5 rfl ?_
      refine Wk.icmp_geN (pc' := 11) d6_8 rfl ((own_lt (by omega) (by omega)).mpr hc1) ?_
      refine Wk.aloadN (pc' := 12) d6_11 rfl rfl rfl ?_
      refine Wk.getF (a0 := a0) (pc' := 15) (host := "") (Or.inl (w10 hw)) Via.refl P1 d6_12 rfl ?_
      refine Wk.aloadN (pc' := 16) d6_15 rfl rfl rfl ?_
      refine Wk.getF (a0 := a0) (pc' := 19) (host := "") (Or.inl (w22 hw)) Via.refl P4 d6_16 rfl ?_
      refine Wk.iconst (pc' := 20) (v := 1) d6_19 rfl rfl ?_
      refine Wk.isub (pc' := 21) d6_20 rfl ?_
      rw [own_pred (show e < 2147483648 by omega) he0]
      refine Wk.laload (pc' := 22) (v := (.long (φ (rk.getD (e - 1) 0)))) P6 (own_in (show e - 1 < 8 by omega) (by decide)) (own_getm (fun r => Value.long (φ r)) rk 0 _ (by rw [hl1]; exact (show e - 1 < 8 by omega)) (by omega)) d6_21 rfl ?_
      refine Wk.lloadN (pc' := 23) d6_22 rfl rfl ?_
      refine Wk.lcmp (pc' := 24) d6_23 rfl ?_
      refine Wk.if_leY (pc' := 52) d6_24 (by decide) (mt (lw_gt _ _).mp (fun q => by have h1 := (ho hc1).2.mp q; have h2 := hle hc1; omega)) ?_
      refine Wk.aloadN (pc' := 53) d6_52 rfl rfl rfl ?_
      refine Wk.getF (a0 := a0) (pc' := 56) (host := "") (Or.inl (w20 hw)) Via.refl P3 d6_53 rfl ?_
      refine Wk.aloadN (pc' := 57) d6_56 rfl rfl rfl ?_
      refine Wk.getF (a0 := a0) (pc' := 60) (host := "") (Or.inl (w22 hw)) Via.refl P4 d6_57 rfl ?_
      refine Wk.icmp_geN (pc' := 63) d6_60 rfl ((own_lt (by omega) (by omega)).mpr hc1) ?_
      refine Wk.aloadN (pc' := 64) d6_63 rfl rfl rfl ?_
      refine Wk.getF (a0 := a0) (pc' := 67) (host := "") (Or.inl (w10 hw)) Via.refl P1 d6_64 rfl ?_
      refine Wk.aloadN (pc' := 68) d6_67 rfl rfl rfl ?_
      refine Wk.getF (a0 := a0) (pc' := 71) (host := "") (Or.inl (w22 hw)) Via.refl P4 d6_68 rfl ?_
      refine Wk.iconst (pc' := 72) (v := 1) d6_71 rfl rfl ?_
      refine Wk.isub (pc' := 73) d6_72 rfl ?_
      rw [own_pred (show e < 2147483648 by omega) he0]
      refine Wk.laload (pc' := 74) (v := (.long (φ (rk.getD (e - 1) 0)))) P6 (own_in (show e - 1 < 8 by omega) (by decide)) (own_getm (fun r => Value.long (φ r)) rk 0 _ (by rw [hl1]; exact (show e - 1 < 8 by omega)) (by omega)) d6_73 rfl ?_
      refine Wk.lloadN (pc' := 75) d6_74 rfl rfl ?_
      refine Wk.lcmp (pc' := 76) d6_75 rfl ?_
      refine Wk.if_neN (pc' := 79) d6_76 rfl ((lw_eq _ _).mpr (by rw [hc2])) ?_
      refine Wk.aloadN (pc' := 80) d6_79 rfl rfl rfl ?_
      refine Wk.getF (a0 := a0) (pc' := 83) (host := "") (Or.inl (w13 hw)) Via.refl P2 d6_80 rfl ?_
      refine Wk.aloadN (pc' := 84) d6_83 rfl rfl rfl ?_
      refine Wk.getF (a0 := a0) (pc' := 87) (host := "") (Or.inl (w22 hw)) Via.refl P4 d6_84 rfl ?_
      refine Wk.iconst (pc' := 88) (v := 1) d6_87 rfl rfl ?_
      refine Wk.isub (pc' := 89) d6_88 rfl ?_
      rw [own_pred (show e < 2147483648 by omega) he0]
      refine Wk.iaload (pc' := 90) (v := (.int (ct.getD (e - 1) 0))) P7 (own_in (show e - 1 < 8 by omega) (by decide)) (own_getm Value.int ct 0 _ (by rw [hl2]; exact (show e - 1 < 8 by omega)) (by omega)) d6_89 rfl ?_
      refine Wk.if_neY (pc' := 103) d6_90 (by decide) hz ?_
      refine Wk.aloadN (pc' := 104) d6_103 rfl rfl rfl ?_
      refine Wk.getF (a0 := a0) (pc' := 107) (host := "") (Or.inl (w13 hw)) Via.refl P2 d6_104 rfl ?_
      refine Wk.aloadN (pc' := 108) d6_107 rfl rfl rfl ?_
      refine Wk.getF (a0 := a0) (pc' := 111) (host := "") (Or.inl (w22 hw)) Via.refl P4 d6_108 rfl ?_
      refine Wk.iconst (pc' := 112) (v := 1) d6_111 rfl rfl ?_
      refine Wk.isub (pc' := 113) d6_112 rfl ?_
      rw [own_pred (show e < 2147483648 by omega) he0]
      refine Wk.dup2 (pc' := 114) d6_113 rfl rfl rfl ?_
      refine Wk.iaload (pc' := 115) (v := (.int (ct.getD (e - 1) 0))) P7 (own_in (show e - 1 < 8 by omega) (by decide)) (own_getm Value.int ct 0 _ (by rw [hl2]; exact (show e - 1 < 8 by omega)) (by omega)) d6_114 rfl ?_
      refine Wk.iconst (pc' := 116) (v := 1) d6_115 rfl rfl ?_
      refine Wk.iadd (pc' := 117) d6_116 rfl ?_
      refine Wk.iastore (pc' := 118) P7 P10 (own_in (show e - 1 < 8 by omega) (by decide)) (e - 1) (own_clamp (by omega)) (by rw [List.length_map, hl2]; exact (show e - 1 < 8 by omega)) d6_117 rfl fun h17 W18 A19 => ?_
      have A20 : Arv Z h17 b2 q2 .int (8 : Int32) ((ct.set (e - 1) ((ct.getD (e - 1) 0) + 1)).map Value.int) (.int (0 : Int32)) := by rw [List.map_set]; exact A19
      have f21 := (P1.other W18 (Or.inl P12))
      have f22 := (P2.other W18 (Or.inl P12))
      have f23 := (P3.other W18 (Or.inl P12))
      have f24 := (P4.other W18 (Or.inl P12))
      have f25 := (P5.other W18 (Or.inl P12))
      have f26 := (P6.other W18 P13)
      exact Wk.return_ rfl d6_118 (Nat.le_of_ble_eq_true rfl) (Nat.le_of_ble_eq_true rfl) ⟨rfl, rfl, ((Keep.refl h0 [a, b1, b2]).wr W18 (Or.inl (by simp))), f21, f22, f23, f24, f25, f26, A20⟩
  · skip
    rw [own_hold, if_neg hc] at hS
    simp only [Prod.mk.injEq] at hS
    obtain ⟨rfl, rfl, rfl, rfl⟩ := hS
    by_cases hc1 : f < e
    · skip
      have he0 : 0 < e := by omega
      have hne : ¬ (rk.getD (e - 1) 0) = r := fun q => hc ⟨hc1, q⟩
      refine Wk.aloadN (pc' := 1) d6_0 rfl rfl rfl ?_
      refine Wk.getF (a0 := a0) (pc' := 4) (host := "") (Or.inl (w20 hw)) Via.refl P3 d6_1 rfl ?_
      refine Wk.aloadN (pc' := 5) d6_4 rfl rfl rfl ?_
      refine Wk.getF (a0 := a0) (pc' := 8) (host := "") (Or.inl (w22 hw)) Via.refl P4 d6_5 rfl ?_
      refine Wk.icmp_geN (pc' := 11) d6_8 rfl ((own_lt (by omega) (by omega)).mpr hc1) ?_
      refine Wk.aloadN (pc' := 12) d6_11 rfl rfl rfl ?_
      refine Wk.getF (a0 := a0) (pc' := 15) (host := "") (Or.inl (w10 hw)) Via.refl P1 d6_12 rfl ?_
      refine Wk.aloadN (pc' := 16) d6_15 rfl rfl rfl ?_
      refine Wk.getF (a0 := a0) (pc' := 19) (host := "") (Or.inl (w22 hw)) Via.refl P4 d6_16 rfl ?_
      refine Wk.iconst (pc' := 20) (v := 1) d6_19 rfl rfl ?_
      refine Wk.isub (pc' := 21) d6_20 rfl ?_
      rw [own_pred (show e < 2147483648 by omega) he0]
      refine Wk.laload (pc' := 22) (v := (.long (φ (rk.getD (e - 1) 0)))) P6 (own_in (show e - 1 < 8 by omega) (by decide)) (own_getm (fun r => Value.long (φ r)) rk 0 _ (by rw [hl1]; exact (show e - 1 < 8 by omega)) (by omega)) d6_21 rfl ?_
      refine Wk.lloadN (pc' := 23) d6_22 rfl rfl ?_
      refine Wk.lcmp (pc' := 24) d6_23 rfl ?_
      refine Wk.if_leY (pc' := 52) d6_24 (by decide) (mt (lw_gt _ _).mp (fun q => by have h1 := (ho hc1).2.mp q; have h2 := hle hc1; omega)) ?_
      refine Wk.aloadN (pc' := 53) d6_52 rfl rfl rfl ?_
      refine Wk.getF (a0 := a0) (pc' := 56) (host := "") (Or.inl (w20 hw)) Via.refl P3 d6_53 rfl ?_
      refine Wk.aloadN (pc' := 57) d6_56 rfl rfl rfl ?_
      refine Wk.getF (a0 := a0) (pc' := 60) (host := "") (Or.inl (w22 hw)) Via.refl P4 d6_57 rfl ?_
      refine Wk.icmp_geN (pc' := 63) d6_60 rfl ((own_lt (by omega) (by omega)).mpr hc1) ?_
      refine Wk.aloadN (pc' := 64) d6_63 rfl rfl rfl ?_
      refine Wk.getF (a0 := a0) (pc' := 67) (host := "") (Or.inl (w10 hw)) Via.refl P1 d6_64 rfl ?_
      refine Wk.aloadN (pc' := 68) d6_67 rfl rfl rfl ?_
      refine Wk.getF (a0 := a0) (pc' := 71) (host := "") (Or.inl (w22 hw)) Via.refl P4 d6_68 rfl ?_
      refine Wk.iconst (pc' := 72) (v := 1) d6_71 rfl rfl ?_
      refine Wk.isub (pc' := 73) d6_72 rfl ?_
      rw [own_pred (show e < 2147483648 by omega) he0]
      refine Wk.laload (pc' := 74) (v := (.long (φ (rk.getD (e - 1) 0)))) P6 (own_in (show e - 1 < 8 by omega) (by decide)) (own_getm (fun r => Value.long (φ r)) rk 0 _ (by rw [hl1]; exact (show e - 1 < 8 by omega)) (by omega)) d6_73 rfl ?_
      refine Wk.lloadN (pc' := 75) d6_74 rfl rfl ?_
      refine Wk.lcmp (pc' := 76) d6_75 rfl ?_
      refine Wk.if_neY (pc' := 119) d6_76 (by decide) (mt (lw_eq _ _).mp (fun q => by have h1 := (ho hc1).1.mpr (by have := hle hc1; omega); rw [q] at h1; exact Int64.lt_irrefl h1)) ?_
      refine Wk.aloadN (pc' := 120) d6_119 rfl rfl rfl ?_
      refine Wk.getF (a0 := a0) (pc' := 123) (host := "") (Or.inl (w22 hw)) Via.refl P4 d6_120 rfl ?_
      refine Wk.aloadN (pc' := 124) d6_123 rfl rfl rfl ?_
      refine Wk.getF (a0 := a0) (pc' := 127) (host := "") (Or.inl (w10 hw)) Via.refl P1 d6_124 rfl ?_
      refine Wk.arraylength (pc' := 128) P6 d6_127 rfl ?_
      refine Wk.icmp_neY (pc' := 135) d6_128 (by decide) (mt (own_eq (j := 8) (by omega) (by decide)).mp (by omega)) ?_
      refine Wk.aloadN (pc' := 136) d6_135 rfl rfl rfl ?_
      refine Wk.getF (a0 := a0) (pc' := 139) (host := "") (Or.inl (w10 hw)) Via.refl P1 d6_136 rfl ?_
      refine Wk.aloadN (pc' := 140) d6_139 rfl rfl rfl ?_
      refine Wk.getF (a0 := a0) (pc' := 143) (host := "") (Or.inl (w22 hw)) Via.refl P4 d6_140 rfl ?_
      refine Wk.lloadN (pc' := 144) d6_143 rfl rfl ?_
      refine Wk.lastore (pc' := 145) P6 P9 (own_in he (by decide)) e (own_clamp (by omega)) (by rw [List.length_map, hl1]; exact he) d6_144 rfl fun h27 W28 A29 => ?_
      have A30 : Arv Z h27 b1 q1 .long (8 : Int32) ((rk.set e r).map (fun r => Value.long (φ r))) (.long (0 : Int64)) := by rw [List.map_set]; exact A29
      refine Wk.aloadN (pc' := 146) d6_145 rfl rfl rfl ?_
      have f31 := (P2.other W28 (Or.inl P11))
      refine Wk.getF (a0 := a0) (pc' := 149) (host := "") (Or.inl (w13 hw)) Via.refl f31 d6_146 rfl ?_
      refine Wk.aloadN (pc' := 150) d6_149 rfl rfl rfl ?_
      have f32 := (P4.other W28 (Or.inl P11))
      refine Wk.getF (a0 := a0) (pc' := 153) (host := "") (Or.inl (w22 hw)) Via.refl f32 d6_150 rfl ?_
      refine Wk.iconst (pc' := 154) (v := 1) d6_153 rfl rfl ?_
      have f33 := (P7.other W28 (Ne.symm P13))
      refine Wk.iastore (pc' := 155) f33 P10 (own_in he (by decide)) e (own_clamp (by omega)) (by rw [List.length_map, hl2]; exact he) d6_154 rfl fun h34 W35 A36 => ?_
      have A37 : Arv Z h34 b2 q2 .int (8 : Int32) ((ct.set e 1).map Value.int) (.int (0 : Int32)) := by rw [List.map_set]; exact A36
      refine Wk.aloadN (pc' := 156) d6_155 rfl rfl rfl ?_
      refine Wk.dup (pc' := 157) d6_156 rfl rfl ?_
      have f38 := (f32.other W35 (Or.inl P12))
      refine Wk.getF (a0 := a0) (pc' := 160) (host := "") (Or.inl (w22 hw)) Via.refl f38 d6_157 rfl ?_
      refine Wk.iconst (pc' := 161) (v := 1) d6_160 rfl rfl ?_
      refine Wk.iadd (pc' := 162) d6_161 rfl ?_
      rw [own_succ (show e < 2147483647 by omega)]
      have f39 := ((P0.wr W28).wr W35)
      refine Wk.putF (a0 := a0) (pc' := 165) (host := "") (Or.inl (w22 hw)) Via.refl P8 f38 f39 (Or.inl (w23 hw)) (w1 hw) (ty := .int) (by decide) rfl rfl d6_162 rfl fun h40 W41 => ?_
      have F42 := f38.same W41
      have f43 := (((P1.other W28 (Or.inl P11)).other W35 (Or.inl P12)).other W41 (Or.inr (slot_ne (Or.inl (w11 hw)) (Or.inl (w23 hw)) (by decide) (t := (.array .long)) (t' := .int) (by decide) (by decide))))
      have f44 := ((f31.other W35 (Or.inl P12)).other W41 (Or.inr (slot_ne (Or.inl (w14 hw)) (Or.inl (w23 hw)) (by decide) (t := (.array .int)) (t' := .int) (by decide) (by decide))))
      have f45 := (((P3.other W28 (Or.inl P11)).other W35 (Or.inl P12)).other W41 (Or.inr (slot_ne (Or.inl (w21 hw)) (Or.inl (w23 hw)) (by decide) (t := .int) (t' := .int) (by decide) (by decide))))
      have f46 := (((P5.other W28 (Or.inl P11)).other W35 (Or.inl P12)).other W41 (Or.inr (slot_ne (Or.inl (w54 hw)) (Or.inl (w23 hw)) (by decide) (t := .int) (t' := .int) (by decide) (by decide))))
      have f47 := ((A30.other W35 P13).other W41 (Ne.symm P11))
      have f48 := (A37.other W41 (Ne.symm P12))
      exact Wk.return_ rfl d6_165 (Nat.le_of_ble_eq_true rfl) (Nat.le_of_ble_eq_true rfl) ⟨rfl, rfl, ((((Keep.refl h0 [a, b1, b2]).wr W28 (Or.inl (by simp))).wr W35 (Or.inl (by simp))).wr W41 (Or.inl (by simp))), f43, f44, f45, F42, f46, f47, f48⟩
    · skip
      refine Wk.aloadN (pc' := 1) d6_0 rfl rfl rfl ?_
      refine Wk.getF (a0 := a0) (pc' := 4) (host := "") (Or.inl (w20 hw)) Via.refl P3 d6_1 rfl ?_
      refine Wk.aloadN (pc' := 5) d6_4 rfl rfl rfl ?_
      refine Wk.getF (a0 := a0) (pc' := 8) (host := "") (Or.inl (w22 hw)) Via.refl P4 d6_5 rfl ?_
      refine Wk.icmp_geY (pc' := 52) d6_8 (by decide) (mt (own_lt (by omega) (by omega)).mp hc1) ?_
      refine Wk.aloadN (pc' := 53) d6_52 rfl rfl rfl ?_
      refine Wk.getF (a0 := a0) (pc' := 56) (host := "") (Or.inl (w20 hw)) Via.refl P3 d6_53 rfl ?_
      refine Wk.aloadN (pc' := 57) d6_56 rfl rfl rfl ?_
      refine Wk.getF (a0 := a0) (pc' := 60) (host := "") (Or.inl (w22 hw)) Via.refl P4 d6_57 rfl ?_
      refine Wk.icmp_geY (pc' := 119) d6_60 (by decide) (mt (own_lt (by omega) (by omega)).mp hc1) ?_
      refine Wk.aloadN (pc' := 120) d6_119 rfl rfl rfl ?_
      refine Wk.getF (a0 := a0) (pc' := 123) (host := "") (Or.inl (w22 hw)) Via.refl P4 d6_120 rfl ?_
      refine Wk.aloadN (pc' := 124) d6_123 rfl rfl rfl ?_
      refine Wk.getF (a0 := a0) (pc' := 127) (host := "") (Or.inl (w10 hw)) Via.refl P1 d6_124 rfl ?_
      refine Wk.arraylength (pc' := 128) P6 d6_127 rfl ?_
      refine Wk.icmp_neY (pc' := 135) d6_128 (by decide) (mt (own_eq (j := 8) (by omega) (by decide)).mp (by omega)) ?_
      refine Wk.aloadN (pc' := 136) d6_135 rfl rfl rfl ?_
      refine Wk.getF (a0 := a0) (pc' := 139) (host := "") (Or.inl (w10 hw)) Via.refl P1 d6_136 rfl ?_
      refine Wk.aloadN (pc' := 140) d6_139 rfl rfl rfl ?_
      refine Wk.getF (a0 := a0) (pc' := 143) (host := "") (Or.inl (w22 hw)) Via.refl P4 d6_140 rfl ?_
      refine Wk.lloadN (pc' := 144) d6_143 rfl rfl ?_
      refine Wk.lastore (pc' := 145) P6 P9 (own_in he (by decide)) e (own_clamp (by omega)) (by rw [List.length_map, hl1]; exact he) d6_144 rfl fun h49 W50 A51 => ?_
      have A52 : Arv Z h49 b1 q1 .long (8 : Int32) ((rk.set e r).map (fun r => Value.long (φ r))) (.long (0 : Int64)) := by rw [List.map_set]; exact A51
      refine Wk.aloadN (pc' := 146) d6_145 rfl rfl rfl ?_
      have f53 := (P2.other W50 (Or.inl P11))
      refine Wk.getF (a0 := a0) (pc' := 149) (host := "") (Or.inl (w13 hw)) Via.refl f53 d6_146 rfl ?_
      refine Wk.aloadN (pc' := 150) d6_149 rfl rfl rfl ?_
      have f54 := (P4.other W50 (Or.inl P11))
      refine Wk.getF (a0 := a0) (pc' := 153) (host := "") (Or.inl (w22 hw)) Via.refl f54 d6_150 rfl ?_
      refine Wk.iconst (pc' := 154) (v := 1) d6_153 rfl rfl ?_
      have f55 := (P7.other W50 (Ne.symm P13))
      refine Wk.iastore (pc' := 155) f55 P10 (own_in he (by decide)) e (own_clamp (by omega)) (by rw [List.length_map, hl2]; exact he) d6_154 rfl fun h56 W57 A58 => ?_
      have A59 : Arv Z h56 b2 q2 .int (8 : Int32) ((ct.set e 1).map Value.int) (.int (0 : Int32)) := by rw [List.map_set]; exact A58
      refine Wk.aloadN (pc' := 156) d6_155 rfl rfl rfl ?_
      refine Wk.dup (pc' := 157) d6_156 rfl rfl ?_
      have f60 := (f54.other W57 (Or.inl P12))
      refine Wk.getF (a0 := a0) (pc' := 160) (host := "") (Or.inl (w22 hw)) Via.refl f60 d6_157 rfl ?_
      refine Wk.iconst (pc' := 161) (v := 1) d6_160 rfl rfl ?_
      refine Wk.iadd (pc' := 162) d6_161 rfl ?_
      rw [own_succ (show e < 2147483647 by omega)]
      have f61 := ((P0.wr W50).wr W57)
      refine Wk.putF (a0 := a0) (pc' := 165) (host := "") (Or.inl (w22 hw)) Via.refl P8 f60 f61 (Or.inl (w23 hw)) (w1 hw) (ty := .int) (by decide) rfl rfl d6_162 rfl fun h62 W63 => ?_
      have F64 := f60.same W63
      have f65 := (((P1.other W50 (Or.inl P11)).other W57 (Or.inl P12)).other W63 (Or.inr (slot_ne (Or.inl (w11 hw)) (Or.inl (w23 hw)) (by decide) (t := (.array .long)) (t' := .int) (by decide) (by decide))))
      have f66 := ((f53.other W57 (Or.inl P12)).other W63 (Or.inr (slot_ne (Or.inl (w14 hw)) (Or.inl (w23 hw)) (by decide) (t := (.array .int)) (t' := .int) (by decide) (by decide))))
      have f67 := (((P3.other W50 (Or.inl P11)).other W57 (Or.inl P12)).other W63 (Or.inr (slot_ne (Or.inl (w21 hw)) (Or.inl (w23 hw)) (by decide) (t := .int) (t' := .int) (by decide) (by decide))))
      have f68 := (((P5.other W50 (Or.inl P11)).other W57 (Or.inl P12)).other W63 (Or.inr (slot_ne (Or.inl (w54 hw)) (Or.inl (w23 hw)) (by decide) (t := .int) (t' := .int) (by decide) (by decide))))
      have f69 := ((A52.other W57 P13).other W63 (Ne.symm P11))
      have f70 := (A59.other W63 (Ne.symm P12))
      exact Wk.return_ rfl d6_165 (Nat.le_of_ble_eq_true rfl) (Nat.le_of_ble_eq_true rfl) ⟨rfl, rfl, ((((Keep.refl h0 [a, b1, b2]).wr W50 (Or.inl (by simp))).wr W57 (Or.inl (by simp))).wr W63 (Or.inl (by simp))), f65, f66, f67, F64, f68, f69, f70⟩
theorem ef_rel (m : MethodId) (x0 : Addr) (x1 : Int64) : entryFrame m #[(.ref x0), (.long x1)] 4 = mkF m 0 #[.val (.ref x0), .val (.long x1), .second, .unset] [] := by first | (simp [entryFrame, mkF, argsToLocals, Value.category]; done) | rfl
abbrev b_rel : Bdy := ((⟨"com/example/interlock/interlock/Snapshots", "release", "(J)V"⟩ : MethodName), prog_27_method_3_code, 4, (Option.none : Option Jvm.ClassFile.FieldType), ({ frames := 2, cells := 0, slots := 0, locals := 80 } : Room))
def Q_rel (Z : State) (N : Nat) (a : Addr) (b1 : Addr) (b2 : Addr) (q1 : ClassId) (q2 : ClassId) (φ : Nat → Int64) (rk : List Nat) (ct : List Int32) (f : Nat) (e : Nat) (u : Int32) (r : Nat) (i : Nat) (rk' : List Nat) (ct' : List Int32) (f' : Nat) (e' : Nat) (u' : Int32) (h0 : Heap) (I : Lts) (v : Option Value) (h : Heap) (J : Lts) : Prop := I = J ∧ v = none ∧ Keep h0 h [a, b1, b2] ∧ Fld Z h a "com/example/interlock/interlock/Snapshots" "snapshots" "[J" (.ref b1) ∧ Fld Z h a "com/example/interlock/interlock/Snapshots" "holders" "[I" (.ref b2) ∧ Fld Z h a "com/example/interlock/interlock/Snapshots" "first" "I" (.int (Int32.ofNat f')) ∧ Fld Z h a "com/example/interlock/interlock/Snapshots" "end" "I" (.int (Int32.ofNat e')) ∧ Fld Z h a "com/example/interlock/interlock/Snapshots" "unheld" "I" (.int u') ∧ Arv Z h b1 q1 .long (8 : Int32) (rk'.map (fun r => Value.long (φ r))) (.long (0 : Int64)) ∧ Arv Z h b2 q2 .int (8 : Int32) (ct'.map Value.int) (.int (0 : Int32))
set_option maxRecDepth 65536 in
set_option maxHeartbeats 40000000 in
theorem rm_rel {l : Launch} {Z : State} {a0 : Array Value} {N : Nat} (hw : ∀ d ∈ tables_1, d.before a0 Z = true) (a : Addr) (b1 : Addr) (b2 : Addr) (q1 : ClassId) (q2 : ClassId) (φ : Nat → Int64) (rk : List Nat) (ct : List Int32) (f : Nat) (e : Nat) (u : Int32) (r : Nat) (i : Nat) (rk' : List Nat) (ct' : List Int32) (f' : Nat) (e' : Nat) (u' : Int32) (h0 : Heap) (I : Lts) (P0 : Exa Z h0 a "com/example/interlock/interlock/Snapshots") (P1 : Fld Z h0 a "com/example/interlock/interlock/Snapshots" "snapshots" "[J" (.ref b1)) (P2 : Fld Z h0 a "com/example/interlock/interlock/Snapshots" "holders" "[I" (.ref b2)) (P3 : Fld Z h0 a "com/example/interlock/interlock/Snapshots" "first" "I" (.int (Int32.ofNat f))) (P4 : Fld Z h0 a "com/example/interlock/interlock/Snapshots" "end" "I" (.int (Int32.ofNat e))) (P5 : Fld Z h0 a "com/example/interlock/interlock/Snapshots" "unheld" "I" (.int u)) (P6 : Arv Z h0 b1 q1 .long (8 : Int32) (rk.map (fun r => Value.long (φ r))) (.long (0 : Int64))) (P7 : Arv Z h0 b2 q2 .int (8 : Int32) (ct.map Value.int) (.int (0 : Int32))) (P8 : N ≤ a) (P9 : N ≤ b1) (P10 : N ≤ b2) (P11 : a ≠ b1) (P12 : a ≠ b2) (P13 : b1 ≠ b2) (hl1 : rk.length = 8) (hl2 : ct.length = 8) (hfe : f ≤ e) (he : e ≤ 8) (ho : ∀ j, f ≤ j → j < e → ((φ (rk.getD j 0) < φ r ↔ rk.getD j 0 < r) ∧ (φ r < φ (rk.getD j 0) ↔ r < rk.getD j 0))) (hbs : own_bs rk r 9 f e = some i) (hi : i < 8) (hS : own_rel rk ct f e u i = (rk', ct', f', e', u')) :
    Cn l Z N b_rel #[(.ref a), (.long (φ r))] h0 I (Q_rel Z N a b1 b2 q1 q2 φ rk ct f e u r i rk' ct' f' e' u' h0 I) := by
  refine Cn.of_wk (Ls := #[.val (.ref a), .val (.long (φ r)), .second, .unset]) (plainFor_of_name (by first | (simp [plainName, overriddenIn]; done) | decide +kernel)) (fun m => ef_rel m a (φ r)) ?_
  refine Wk.aloadN (pc' := 1) d7_0 rfl rfl rfl ?_
  refine Wk.getF (a0 := a0) (pc' := 4) (host := "") (Or.inl (w10 hw)) Via.refl P1 d7_1 rfl ?_
  refine Wk.aloadN (pc' := 5) d7_4 rfl rfl rfl ?_
  refine Wk.getF (a0 := a0) (pc' := 8) (host := "") (Or.inl (w20 hw)) Via.refl P3 d7_5 rfl ?_
  refine Wk.aloadN (pc' := 9) d7_8 rfl rfl rfl ?_
  refine Wk.getF (a0 := a0) (pc' := 12) (host := "") (Or.inl (w22 hw)) Via.refl P4 d7_9 rfl ?_
  refine Wk.lloadN (pc' := 13) d7_12 rfl rfl ?_
  refine Wk.callS (a0 := a0) (pc' := 16) (k' := 0) (n' := 0) (W := 0) (b := b_bs) (argsL := [(.ref b1), (.int (Int32.ofNat f)), (.int (Int32.ofNat e)), (.long (φ r))]) (rest := []) (rm_bs hw b1 q1 φ rk f e r i h0 I P6 hl1 hfe he ho hbs) (w43 hw) (w44 hw) (w45 hw) (w46 hw) (by decide) (Nat.le_refl _) id (Nat.le_of_ble_eq_true rfl) (Nat.le_of_ble_eq_true rfl) rfl rfl (Nat.le_of_ble_eq_true rfl) (Nat.le_of_ble_eq_true rfl) rfl pd1 rfl rfl rfl (Nat.le_of_ble_eq_true rfl) d7_13 rfl fun v1 h2 J3 hs4 hQ5 => ?_
  obtain ⟨rfl, rfl, rfl⟩ := hQ5
  show Wk _ h0 0 0 I 16 #[.val (.ref a), .val (.long (φ r)), .second, .unset] [(.int (Int32.ofNat i))]
  refine Wk.istoreN (pc' := 17) #[.val (.ref a), .val (.long (φ r)), .second, .val (.int (Int32.ofNat i))] d7_16 rfl rfl ?_
  refine Wk.aloadN (pc' := 18) d7_17 rfl rfl rfl ?_
  refine Wk.getF (a0 := a0) (pc' := 21) (host := "") (Or.inl (w13 hw)) Via.refl P2 d7_18 rfl ?_
  refine Wk.iloadN (pc' := 22) d7_21 rfl rfl ?_
  refine Wk.dup2 (pc' := 23) d7_22 rfl rfl rfl ?_
  refine Wk.iaload (pc' := 24) (v := (.int (ct.getD i 0))) P7 (own_in hi (by decide)) (own_getm Value.int ct 0 _ (by rw [hl2]; exact hi) (by omega)) d7_23 rfl ?_
  refine Wk.iconst (pc' := 25) (v := 1) d7_24 rfl rfl ?_
  refine Wk.isub (pc' := 26) d7_25 rfl ?_
  refine Wk.iastore (pc' := 27) P7 P10 (own_in hi (by decide)) i (own_clamp (by omega)) (by rw [List.length_map, hl2]; exact hi) d7_26 rfl fun h6 W7 A8 => ?_
  have A9 : Arv Z h6 b2 q2 .int (8 : Int32) ((ct.set i (ct.getD i 0 - 1)).map Value.int) (.int (0 : Int32)) := by rw [List.map_set]; exact A8
  obtain ⟨c1, hc1⟩ : ∃ z, z = (ct.set i (ct.getD i 0 - 1)) := ⟨_, rfl⟩
  have hl3 : c1.length = 8 := by rw [hc1, List.length_set]; exact hl2
  rw [own_rel, ← hc1] at hS
  have A10 : Arv Z h6 b2 q2 .int (8 : Int32) (c1.map Value.int) (.int (0 : Int32)) := by rw [hc1]; exact A9
  obtain ⟨g2, wq, hsk⟩ : ∃ g w, own_sk c1 e 9 f (u + 1) = (g, w) := ⟨_, _, rfl⟩
  rw [hsk] at hS
  dsimp only at hS
  refine Wk.aloadN (pc' := 28) d7_27 rfl rfl rfl ?_
  have f11 := (P2.other W7 (Or.inl P12))
  refine Wk.getF (a0 := a0) (pc' := 31) (host := "") (Or.inl (w13 hw)) Via.refl f11 d7_28 rfl ?_
  refine Wk.iloadN (pc' := 32) d7_31 rfl rfl ?_
  refine Wk.iaload (pc' := 33) (v := (.int (c1.getD i 0))) A10 (own_in hi (by decide)) (own_getm Value.int c1 0 _ (by rw [hl3]; exact hi) (by omega)) d7_32 rfl ?_
  by_cases c33_12 : (c1.getD i 0) = (0 : Int32)
  · refine Wk.if_neN (pc' := 36) d7_33 rfl c33_12 ?_
    rw [if_pos c33_12] at hS
    refine Wk.aloadN (pc' := 37) d7_36 rfl rfl rfl ?_
    refine Wk.dup (pc' := 38) d7_37 rfl rfl ?_
    have f13 := (P5.other W7 (Or.inl P12))
    refine Wk.getF (a0 := a0) (pc' := 41) (host := "") (Or.inl (w53 hw)) Via.refl f13 d7_38 rfl ?_
    refine Wk.iconst (pc' := 42) (v := 1) d7_41 rfl rfl ?_
    refine Wk.iadd (pc' := 43) d7_42 rfl ?_
    have f14 := (P0.wr W7)
    refine Wk.putF (a0 := a0) (pc' := 46) (host := "") (Or.inl (w53 hw)) Via.refl P8 f13 f14 (Or.inl (w54 hw)) (w1 hw) (ty := .int) (by decide) rfl rfl d7_43 rfl fun h15 W16 => ?_
    have F17 := f13.same W16
    have exit : ∀  (hX18 : Heap), (Exa Z hX18 a "com/example/interlock/interlock/Snapshots") → (Fld Z hX18 a "com/example/interlock/interlock/Snapshots" "snapshots" "[J" (.ref b1)) → (Fld Z hX18 a "com/example/interlock/interlock/Snapshots" "holders" "[I" (.ref b2)) → (Fld Z hX18 a "com/example/interlock/interlock/Snapshots" "first" "I" (.int (Int32.ofNat g2))) → (Fld Z hX18 a "com/example/interlock/interlock/Snapshots" "end" "I" (.int (Int32.ofNat e))) → (Fld Z hX18 a "com/example/interlock/interlock/Snapshots" "unheld" "I" (.int wq)) → (Arv Z hX18 b1 q1 .long (8 : Int32) (rk.map (fun r => Value.long (φ r))) (.long (0 : Int64))) → (Arv Z hX18 b2 q2 .int (8 : Int32) (c1.map Value.int) (.int (0 : Int32))) → (g2 ≤ e) → (Keep h0 hX18 [a, b1, b2]) → Wk (l, Z, N, h0.size, b_rel, Q_rel Z N a b1 b2 q1 q2 φ rk ct f e u r i rk' ct' f' e' u' h0 I) hX18 0 0 I 92 #[.val (.ref a), .val (.long (φ r)), .second, .val (.int (Int32.ofNat i))] [] := by
      intro  hX18 y19 y20 y21 y22 y23 y24 y25 y26 n1 K27
      refine Wk.aloadN (pc' := 93) d7_92 rfl rfl rfl ?_
      refine Wk.getF (a0 := a0) (pc' := 96) (host := "") (Or.inl (w20 hw)) Via.refl y22 d7_93 rfl ?_
      refine Wk.aloadN (pc' := 97) d7_96 rfl rfl rfl ?_
      refine Wk.getF (a0 := a0) (pc' := 100) (host := "") (Or.inl (w22 hw)) Via.refl y23 d7_97 rfl ?_
      by_cases c100_28 : (Int32.ofNat g2) = (Int32.ofNat e)
      · refine Wk.icmp_neN (pc' := 103) d7_100 rfl c100_28 ?_
        rw [if_pos ((own_eq (by omega) (by omega)).mp c100_28)] at hS
        simp only [Prod.mk.injEq] at hS
        obtain ⟨rfl, rfl, rfl, rfl, rfl⟩ := hS
        refine Wk.aloadN (pc' := 104) d7_103 rfl rfl rfl ?_
        refine Wk.iconst (pc' := 105) (v := 0) d7_104 rfl rfl ?_
        refine Wk.putF (a0 := a0) (pc' := 108) (host := "") (Or.inl (w20 hw)) Via.refl P8 y22 y19 (Or.inl (w21 hw)) (w1 hw) (ty := .int) (by decide) rfl rfl d7_105 rfl fun h29 W30 => ?_
        have F31 := y22.same W30
        refine Wk.aloadN (pc' := 109) d7_108 rfl rfl rfl ?_
        refine Wk.iconst (pc' := 110) (v := 0) d7_109 rfl rfl ?_
        have f32 := (y19.wr W30)
        have f33 := (y23.other W30 (Or.inr (slot_ne (Or.inl (w23 hw)) (Or.inl (w21 hw)) (by decide) (t := .int) (t' := .int) (by decide) (by decide))))
        refine Wk.putF (a0 := a0) (pc' := 113) (host := "") (Or.inl (w22 hw)) Via.refl P8 f33 f32 (Or.inl (w23 hw)) (w1 hw) (ty := .int) (by decide) rfl rfl d7_110 rfl fun h34 W35 => ?_
        have F36 := f33.same W35
        refine Wk.goto (pc' := 138) d7_113 (by decide) ?_
        have f37 := ((y20.other W30 (Or.inr (slot_ne (Or.inl (w11 hw)) (Or.inl (w21 hw)) (by decide) (t := (.array .long)) (t' := .int) (by decide) (by decide)))).other W35 (Or.inr (slot_ne (Or.inl (w11 hw)) (Or.inl (w23 hw)) (by decide) (t := (.array .long)) (t' := .int) (by decide) (by decide))))
        have f38 := ((y21.other W30 (Or.inr (slot_ne (Or.inl (w14 hw)) (Or.inl (w21 hw)) (by decide) (t := (.array .int)) (t' := .int) (by decide) (by decide)))).other W35 (Or.inr (slot_ne (Or.inl (w14 hw)) (Or.inl (w23 hw)) (by decide) (t := (.array .int)) (t' := .int) (by decide) (by decide))))
        have f39 := (F31.other W35 (Or.inr (slot_ne (Or.inl (w21 hw)) (Or.inl (w23 hw)) (by decide) (t := .int) (t' := .int) (by decide) (by decide))))
        have f40 := ((y24.other W30 (Or.inr (slot_ne (Or.inl (w54 hw)) (Or.inl (w21 hw)) (by decide) (t := .int) (t' := .int) (by decide) (by decide)))).other W35 (Or.inr (slot_ne (Or.inl (w54 hw)) (Or.inl (w23 hw)) (by decide) (t := .int) (t' := .int) (by decide) (by decide))))
        have f41 := ((y25.other W30 (Ne.symm P11)).other W35 (Ne.symm P11))
        have f42 := ((y26.other W30 (Ne.symm P12)).other W35 (Ne.symm P12))
        exact Wk.return_ rfl d7_138 (Nat.le_of_ble_eq_true rfl) (Nat.le_of_ble_eq_true rfl) ⟨rfl, rfl, ((((Keep.refl h0 [a, b1, b2]).trans K27 (allS (Or.inl (by simp)) (allS (Or.inl (by simp)) (allS (Or.inl (by simp)) all0)))).wr W30 (Or.inl (by simp))).wr W35 (Or.inl (by simp))), f37, f38, f39, F36, f40, f41, f42⟩
      · refine Wk.icmp_neY (pc' := 116) d7_100 (by decide) c100_28 ?_
        rw [if_neg (mt (own_eq (by omega) (by omega)).mpr c100_28)] at hS
        refine Wk.aloadN (pc' := 117) d7_116 rfl rfl rfl ?_
        refine Wk.getF (a0 := a0) (pc' := 120) (host := "") (Or.inl (w53 hw)) Via.refl y24 d7_117 rfl ?_
        refine Wk.iconst (pc' := 121) (v := 2) d7_120 rfl rfl ?_
        refine Wk.imul (pc' := 122) d7_121 rfl ?_
        refine Wk.aloadN (pc' := 123) d7_122 rfl rfl rfl ?_
        refine Wk.getF (a0 := a0) (pc' := 126) (host := "") (Or.inl (w22 hw)) Via.refl y23 d7_123 rfl ?_
        refine Wk.aloadN (pc' := 127) d7_126 rfl rfl rfl ?_
        refine Wk.getF (a0 := a0) (pc' := 130) (host := "") (Or.inl (w20 hw)) Via.refl y22 d7_127 rfl ?_
        refine Wk.isub (pc' := 131) d7_130 rfl ?_
        by_cases c131_43 : ((Int32.ofNat e) - (Int32.ofNat g2)) < (wq * (2 : Int32))
        · refine Wk.icmp_leN (pc' := 134) d7_131 rfl c131_43 ?_
          rw [if_pos c131_43] at hS
          obtain ⟨k', rk2, ct2, hcp⟩ : ∃ x y z, own_cp e 9 g2 0 rk c1 = (x, y, z) := ⟨_, _, _, rfl⟩
          rw [hcp] at hS
          simp only [Prod.mk.injEq] at hS
          obtain ⟨rfl, rfl, rfl, rfl, rfl⟩ := hS
          refine Wk.aloadN (pc' := 135) d7_134 rfl rfl rfl ?_
          refine Wk.callP (a0 := a0) (pc' := 138) (k' := 0) (n' := 0) (W := 0) (b := b_cmp) (argsL := []) (rest := []) (rm_cmp hw a b1 b2 q1 q2 φ rk c1 g2 e wq k' rk2 ct2 hX18 I y19 y20 y21 y22 y23 y24 y25 y26 P8 P9 P10 P11 P12 P13 hl1 hl3 n1 he hcp) y19 (w55 hw) (w18 hw) rfl (w57 hw) (w56 hw) (w2 hw) (w58 hw) (by decide) (Nat.le_refl _) id (Nat.le_of_ble_eq_true rfl) (Nat.le_of_ble_eq_true rfl) rfl rfl (Nat.le_of_ble_eq_true rfl) (Nat.le_of_ble_eq_true rfl) rfl pd2 rfl rfl rfl (Nat.le_of_ble_eq_true rfl) d7_135 rfl fun v44 h45 J46 hs47 hQ48 => ?_
          obtain ⟨rfl, rfl, K49, g50, g51, g52, g53, g54, g55, g56⟩ := hQ48
          show Wk _ h45 0 0 I 138 #[.val (.ref a), .val (.long (φ r)), .second, .val (.int (Int32.ofNat i))] []
          exact Wk.return_ rfl d7_138 (Nat.le_of_ble_eq_true rfl) (Nat.le_of_ble_eq_true rfl) ⟨rfl, rfl, (((Keep.refl h0 [a, b1, b2]).trans K27 (allS (Or.inl (by simp)) (allS (Or.inl (by simp)) (allS (Or.inl (by simp)) all0)))).trans K49 (allS (Or.inl (by simp)) (allS (Or.inl (by simp)) (allS (Or.inl (by simp)) all0)))), g50, g51, g52, g53, g54, g55, g56⟩
        · refine Wk.icmp_leY (pc' := 138) d7_131 (by decide) c131_43 ?_
          rw [if_neg c131_43] at hS
          simp only [Prod.mk.injEq] at hS
          obtain ⟨rfl, rfl, rfl, rfl, rfl⟩ := hS
          exact Wk.return_ rfl d7_138 (Nat.le_of_ble_eq_true rfl) (Nat.le_of_ble_eq_true rfl) ⟨rfl, rfl, ((Keep.refl h0 [a, b1, b2]).trans K27 (allS (Or.inl (by simp)) (allS (Or.inl (by simp)) (allS (Or.inl (by simp)) all0)))), y20, y21, y22, y23, y24, y25, y26⟩
    have loop : ∀ (d : Nat) (g : Nat) (y : Int32) (hX57 : Heap), (Exa Z hX57 a "com/example/interlock/interlock/Snapshots") → (Fld Z hX57 a "com/example/interlock/interlock/Snapshots" "snapshots" "[J" (.ref b1)) → (Fld Z hX57 a "com/example/interlock/interlock/Snapshots" "holders" "[I" (.ref b2)) → (Fld Z hX57 a "com/example/interlock/interlock/Snapshots" "first" "I" (.int (Int32.ofNat g))) → (Fld Z hX57 a "com/example/interlock/interlock/Snapshots" "end" "I" (.int (Int32.ofNat e))) → (Fld Z hX57 a "com/example/interlock/interlock/Snapshots" "unheld" "I" (.int y)) → (Arv Z hX57 b1 q1 .long (8 : Int32) (rk.map (fun r => Value.long (φ r))) (.long (0 : Int64))) → (Arv Z hX57 b2 q2 .int (8 : Int32) (c1.map Value.int) (.int (0 : Int32))) → (g ≤ e) → (e ≤ g + d) → (own_sk c1 e d g y = (g2, wq)) → (Keep h0 hX57 [a, b1, b2]) → Wk (l, Z, N, h0.size, b_rel, Q_rel Z N a b1 b2 q1 q2 φ rk ct f e u r i rk' ct' f' e' u' h0 I) hX57 0 0 I 46 #[.val (.ref a), .val (.long (φ r)), .second, .val (.int (Int32.ofNat i))] [] := by
      intro d
      induction d with
      | zero =>
        intro g y hX57 y58 y59 y60 y61 y62 y63 y64 y65 n2 n4 n5 K66
        simp only [own_sk, Prod.mk.injEq] at n5
        obtain ⟨rfl, rfl⟩ := n5
        have hlt : ¬ g < e := by omega
        refine Wk.aloadN (pc' := 47) d7_46 rfl rfl rfl ?_
        refine Wk.getF (a0 := a0) (pc' := 50) (host := "") (Or.inl (w20 hw)) Via.refl y61 d7_47 rfl ?_
        refine Wk.aloadN (pc' := 51) d7_50 rfl rfl rfl ?_
        refine Wk.getF (a0 := a0) (pc' := 54) (host := "") (Or.inl (w22 hw)) Via.refl y62 d7_51 rfl ?_
        refine Wk.icmp_geY (pc' := 92) d7_54 (by decide) (mt (own_lt (by omega) (by omega)).mp hlt) ?_
        exact exit  hX57 y58 y59 y60 y61 y62 y63 y64 y65 (by omega) ((Keep.refl h0 [a, b1, b2]).trans K66 (allS (Or.inl (by simp)) (allS (Or.inl (by simp)) (allS (Or.inl (by simp)) all0))))
      | succ d ih =>
        intro g y hX57 y58 y59 y60 y61 y62 y63 y64 y65 n2 n4 n5 K66
        rw [own_sk] at n5
        by_cases hlt : g < e
        · skip
          rw [if_pos hlt] at n5
          refine Wk.aloadN (pc' := 47) d7_46 rfl rfl rfl ?_
          refine Wk.getF (a0 := a0) (pc' := 50) (host := "") (Or.inl (w20 hw)) Via.refl y61 d7_47 rfl ?_
          refine Wk.aloadN (pc' := 51) d7_50 rfl rfl rfl ?_
          refine Wk.getF (a0 := a0) (pc' := 54) (host := "") (Or.inl (w22 hw)) Via.refl y62 d7_51 rfl ?_
          refine Wk.icmp_geN (pc' := 57) d7_54 rfl ((own_lt (by omega) (by omega)).mpr hlt) ?_
          refine Wk.aloadN (pc' := 58) d7_57 rfl rfl rfl ?_
          refine Wk.getF (a0 := a0) (pc' := 61) (host := "") (Or.inl (w13 hw)) Via.refl y60 d7_58 rfl ?_
          refine Wk.aloadN (pc' := 62) d7_61 rfl rfl rfl ?_
          refine Wk.getF (a0 := a0) (pc' := 65) (host := "") (Or.inl (w20 hw)) Via.refl y61 d7_62 rfl ?_
          refine Wk.iaload (pc' := 66) (v := (.int (c1.getD g 0))) y65 (own_in (show g < 8 by omega) (by decide)) (own_getm Value.int c1 0 _ (by rw [hl3]; exact (show g < 8 by omega)) (by omega)) d7_65 rfl ?_
          by_cases c66_67 : (c1.getD g 0) = (0 : Int32)
          · refine Wk.if_neN (pc' := 69) d7_66 rfl c66_67 ?_
            rw [if_pos c66_67] at n5
            refine Wk.aloadN (pc' := 70) d7_69 rfl rfl rfl ?_
            refine Wk.dup (pc' := 71) d7_70 rfl rfl ?_
            refine Wk.getF (a0 := a0) (pc' := 74) (host := "") (Or.inl (w20 hw)) Via.refl y61 d7_71 rfl ?_
            refine Wk.iconst (pc' := 75) (v := 1) d7_74 rfl rfl ?_
            refine Wk.iadd (pc' := 76) d7_75 rfl ?_
            rw [own_succ (show g < 2147483647 by omega)]
            refine Wk.putF (a0 := a0) (pc' := 79) (host := "") (Or.inl (w20 hw)) Via.refl P8 y61 y58 (Or.inl (w21 hw)) (w1 hw) (ty := .int) (by decide) rfl rfl d7_76 rfl fun h68 W69 => ?_
            have F70 := y61.same W69
            refine Wk.aloadN (pc' := 80) d7_79 rfl rfl rfl ?_
            refine Wk.dup (pc' := 81) d7_80 rfl rfl ?_
            have f71 := (y63.other W69 (Or.inr (slot_ne (Or.inl (w54 hw)) (Or.inl (w21 hw)) (by decide) (t := .int) (t' := .int) (by decide) (by decide))))
            refine Wk.getF (a0 := a0) (pc' := 84) (host := "") (Or.inl (w53 hw)) Via.refl f71 d7_81 rfl ?_
            refine Wk.iconst (pc' := 85) (v := 1) d7_84 rfl rfl ?_
            refine Wk.isub (pc' := 86) d7_85 rfl ?_
            have f72 := (y58.wr W69)
            refine Wk.putF (a0 := a0) (pc' := 89) (host := "") (Or.inl (w53 hw)) Via.refl P8 f71 f72 (Or.inl (w54 hw)) (w1 hw) (ty := .int) (by decide) rfl rfl d7_86 rfl fun h73 W74 => ?_
            have F75 := f71.same W74
            refine Wk.goto (pc' := 46) d7_89 (by decide) ?_
            have f76 := (f72.wr W74)
            have f77 := ((y59.other W69 (Or.inr (slot_ne (Or.inl (w11 hw)) (Or.inl (w21 hw)) (by decide) (t := (.array .long)) (t' := .int) (by decide) (by decide)))).other W74 (Or.inr (slot_ne (Or.inl (w11 hw)) (Or.inl (w54 hw)) (by decide) (t := (.array .long)) (t' := .int) (by decide) (by decide))))
            have f78 := ((y60.other W69 (Or.inr (slot_ne (Or.inl (w14 hw)) (Or.inl (w21 hw)) (by decide) (t := (.array .int)) (t' := .int) (by decide) (by decide)))).other W74 (Or.inr (slot_ne (Or.inl (w14 hw)) (Or.inl (w54 hw)) (by decide) (t := (.array .int)) (t' := .int) (by decide) (by decide))))
            have f79 := (F70.other W74 (Or.inr (slot_ne (Or.inl (w21 hw)) (Or.inl (w54 hw)) (by decide) (t := .int) (t' := .int) (by decide) (by decide))))
            have f80 := ((y62.other W69 (Or.inr (slot_ne (Or.inl (w23 hw)) (Or.inl (w21 hw)) (by decide) (t := .int) (t' := .int) (by decide) (by decide)))).other W74 (Or.inr (slot_ne (Or.inl (w23 hw)) (Or.inl (w54 hw)) (by decide) (t := .int) (t' := .int) (by decide) (by decide))))
            have f81 := ((y64.other W69 (Ne.symm P11)).other W74 (Ne.symm P11))
            have f82 := ((y65.other W69 (Ne.symm P12)).other W74 (Ne.symm P12))
            exact ih (g + 1) (y - 1) h73 f76 f77 f78 f79 f80 F75 f81 f82 (by omega) (by omega) n5 ((((Keep.refl h0 [a, b1, b2]).trans K66 (allS (Or.inl (by simp)) (allS (Or.inl (by simp)) (allS (Or.inl (by simp)) all0)))).wr W69 (Or.inl (by simp))).wr W74 (Or.inl (by simp)))
          · refine Wk.if_neY (pc' := 92) d7_66 (by decide) c66_67 ?_
            rw [if_neg c66_67] at n5
            simp only [Prod.mk.injEq] at n5
            obtain ⟨rfl, rfl⟩ := n5
            exact exit  hX57 y58 y59 y60 y61 y62 y63 y64 y65 (by omega) ((Keep.refl h0 [a, b1, b2]).trans K66 (allS (Or.inl (by simp)) (allS (Or.inl (by simp)) (allS (Or.inl (by simp)) all0))))
        · skip
          rw [if_neg hlt] at n5
          simp only [Prod.mk.injEq] at n5
          obtain ⟨rfl, rfl⟩ := n5
          refine Wk.aloadN (pc' := 47) d7_46 rfl rfl rfl ?_
          refine Wk.getF (a0 := a0) (pc' := 50) (host := "") (Or.inl (w20 hw)) Via.refl y61 d7_47 rfl ?_
          refine Wk.aloadN (pc' := 51) d7_50 rfl rfl rfl ?_
          refine Wk.getF (a0 := a0) (pc' := 54) (host := "") (Or.inl (w22 hw)) Via.refl y62 d7_51 rfl ?_
          refine Wk.icmp_geY (pc' := 92) d7_54 (by decide) (mt (own_lt (by omega) (by omega)).mp hlt) ?_
          exact exit  hX57 y58 y59 y60 y61 y62 y63 y64 y65 (by omega) ((Keep.refl h0 [a, b1, b2]).trans K66 (allS (Or.inl (by simp)) (allS (Or.inl (by simp)) (allS (Or.inl (by simp)) all0))))
    have f83 := (f14.wr W16)
    have f84 := ((P1.other W7 (Or.inl P12)).other W16 (Or.inr (slot_ne (Or.inl (w11 hw)) (Or.inl (w54 hw)) (by decide) (t := (.array .long)) (t' := .int) (by decide) (by decide))))
    have f85 := (f11.other W16 (Or.inr (slot_ne (Or.inl (w14 hw)) (Or.inl (w54 hw)) (by decide) (t := (.array .int)) (t' := .int) (by decide) (by decide))))
    have f86 := ((P3.other W7 (Or.inl P12)).other W16 (Or.inr (slot_ne (Or.inl (w21 hw)) (Or.inl (w54 hw)) (by decide) (t := .int) (t' := .int) (by decide) (by decide))))
    have f87 := ((P4.other W7 (Or.inl P12)).other W16 (Or.inr (slot_ne (Or.inl (w23 hw)) (Or.inl (w54 hw)) (by decide) (t := .int) (t' := .int) (by decide) (by decide))))
    have f88 := ((P6.other W7 P13).other W16 (Ne.symm P11))
    have f89 := (A10.other W16 (Ne.symm P12))
    exact loop 9 f (u + 1) h15 f83 f84 f85 f86 f87 F17 f88 f89 hfe (by omega) hsk (((Keep.refl h0 [a, b1, b2]).wr W7 (Or.inl (by simp))).wr W16 (Or.inl (by simp)))
  · refine Wk.if_neY (pc' := 138) d7_33 (by decide) c33_12 ?_
    rw [if_neg c33_12] at hS
    simp only [Prod.mk.injEq] at hS
    obtain ⟨rfl, rfl, rfl, rfl, rfl⟩ := hS
    have f90 := (P1.other W7 (Or.inl P12))
    have f91 := (P3.other W7 (Or.inl P12))
    have f92 := (P4.other W7 (Or.inl P12))
    have f93 := (P5.other W7 (Or.inl P12))
    have f94 := (P6.other W7 P13)
    exact Wk.return_ rfl d7_138 (Nat.le_of_ble_eq_true rfl) (Nat.le_of_ble_eq_true rfl) ⟨rfl, rfl, ((Keep.refl h0 [a, b1, b2]).wr W7 (Or.inl (by simp))), f90, f11, f91, f92, f93, f94, A10⟩
theorem ef_law (m : MethodId) (x0 : Int64) (x1 : Int64) (x2 : Int64) (x3 : Int32) : entryFrame m #[(.long x0), (.long x1), (.long x2), (.int x3)] maxLocals = mkF m 0 #[.val (.long x0), .second, .val (.long x1), .second, .val (.long x2), .second, .val (.int x3), .unset, .unset, .unset, .unset, .unset, .unset, .unset, .unset, .unset, .unset, .unset, .unset, .unset, .unset, .unset] [] := by first | (simp [entryFrame, mkF, argsToLocals, Value.category, maxLocals]; done) | rfl
abbrev b_law : Bdy := (x, code, maxLocals, ret, room_1)
def Q_law (Z : State) (N : Nat) (p1 : Int64) (p2 : Int64) (p3 : Int64) (p4 : Int32) (h0 : Heap) (I : Lts) (v : Option Value) (h : Heap) (J : Lts) : Prop := I = J ∧ v = some (.int (1 : Int32))
set_option maxRecDepth 65536 in
set_option maxHeartbeats 40000000 in
theorem rm_law {l : Launch} {Z : State} {a0 : Array Value} {N : Nat} (hw : ∀ d ∈ tables_1, d.before a0 Z = true) (p1 : Int64) (p2 : Int64) (p3 : Int64) (p4 : Int32) (h0 : Heap) (I : Lts) :
    Cn l Z N b_law #[(.long p1), (.long p2), (.long p3), (.int p4)] h0 I (Q_law Z N p1 p2 p3 p4 h0 I) := by
  refine Cn.of_wk (Ls := #[.val (.long p1), .second, .val (.long p2), .second, .val (.long p3), .second, .val (.int p4), .unset, .unset, .unset, .unset, .unset, .unset, .unset, .unset, .unset, .unset, .unset, .unset, .unset, .unset, .unset]) (plainFor_of_name (by first | (simp [plainName, overriddenIn]; done) | decide +kernel)) (fun m => ef_law m p1 p2 p3 p4) ?_
  refine Wk.newO (a0 := a0) (pc' := 3) (k' := 1) (n' := 5) (w0 hw) (w1 hw) (w2 hw) at_0 rfl rfl rfl (Nat.le_of_ble_eq_true rfl) (Nat.le_of_ble_eq_true rfl) fun a1 h2 hg3 hN4 E5 A6 D7 => ?_
  have F8 : Fld Z h2 a1 "com/example/interlock/interlock/Snapshots" "snapshots" "[J" .null := D7 (Or.inl (w11 hw)) (ty := (.array .long)) (by decide)
  have F9 : Fld Z h2 a1 "com/example/interlock/interlock/Snapshots" "holders" "[I" .null := D7 (Or.inl (w14 hw)) (ty := (.array .int)) (by decide)
  have F10 : Fld Z h2 a1 "com/example/interlock/interlock/Snapshots" "first" "I" (.int (0 : Int32)) := D7 (Or.inl (w21 hw)) (ty := .int) (by decide)
  have F11 : Fld Z h2 a1 "com/example/interlock/interlock/Snapshots" "end" "I" (.int (0 : Int32)) := D7 (Or.inl (w23 hw)) (ty := .int) (by decide)
  have F12 : Fld Z h2 a1 "com/example/interlock/interlock/Snapshots" "unheld" "I" (.int (0 : Int32)) := D7 (Or.inl (w54 hw)) (ty := .int) (by decide)
  refine Wk.dup (pc' := 4) at_3 rfl rfl ?_
  refine Wk.callN (a0 := a0) (pc' := 7) (k' := 3) (n' := 21) (W := 1) (b := b_ini) (argsL := []) (rest := [(.ref a1)]) (rm_ini hw a1 h2 I A6 F8 F9 F10 F11 F12 hN4) rfl rfl (w3 hw) (w4 hw) (w2 hw) (w5 hw) (by decide) (Nat.le_refl _) id (Nat.le_of_ble_eq_true rfl) (Nat.le_of_ble_eq_true rfl) rfl rfl (Nat.le_of_ble_eq_true rfl) (Nat.le_of_ble_eq_true rfl) rfl pd2 rfl rfl rfl (Nat.le_of_ble_eq_true rfl) at_4 rfl fun v13 h14 J15 hs16 hQ17 => ?_
  obtain ⟨b118, b219, q120, q221, rfl, rfl, K22, g23, g24, g25, g26, g27, g28, g29, g30, g31, g32, g33, g34, g35, g36⟩ := hQ17
  have ne37 : a1 ≠ b118 := Nat.ne_of_lt (Nat.lt_of_lt_of_le A6.lt g23)
  have ne38 : a1 ≠ b219 := Nat.ne_of_lt (Nat.lt_of_lt_of_le A6.lt g24)
  show Wk _ h14 3 21 I 7 #[.val (.long p1), .second, .val (.long p2), .second, .val (.long p3), .second, .val (.int p4), .unset, .unset, .unset, .unset, .unset, .unset, .unset, .unset, .unset, .unset, .unset, .unset, .unset, .unset, .unset] [(.ref a1)]
  refine Wk.astore (pc' := 9) #[.val (.long p1), .second, .val (.long p2), .second, .val (.long p3), .second, .val (.int p4), .val (.ref a1), .unset, .unset, .unset, .unset, .unset, .unset, .unset, .unset, .unset, .unset, .unset, .unset, .unset, .unset] at_7 rfl rfl rfl ?_
  refine Wk.aload (pc' := 11) at_9 rfl rfl rfl ?_
  have A39 : Arv Z h14 b118 q120 .long (8 : Int32) ((List.replicate 8 0).map (fun r => Value.long ((fun _ => (0 : Int64)) r))) (.long (0 : Int64)) := g35
  have f45 := (A6.keep K22)
  refine Wk.callV (a0 := a0) (pc' := 14) (k' := 3) (n' := 21) (W := 0) (b := b_hor) (argsL := []) (rest := []) (y := (⟨"com/example/interlock/interlock/Snapshots", "horizon", "()J"⟩ : MethodName)) (rm_hor hw a1 b118 q120 (fun _ => (0 : Int64)) (List.replicate 8 0) 0 0 h14 I g30 g32 g33 A39 rfl (Nat.le_refl _) (by decide)) f45 (w15 hw) (w16 hw) (w18 hw) (w18 hw) (w17 hw) (w2 hw) (w19 hw) (by decide) (Nat.le_refl _) id (Nat.le_of_ble_eq_true rfl) (Nat.le_of_ble_eq_true rfl) rfl rfl (Nat.le_of_ble_eq_true rfl) (Nat.le_of_ble_eq_true rfl) rfl pd3 rfl rfl rfl (Nat.le_of_ble_eq_true rfl) at_11 rfl fun v40 h41 J42 hs43 hQ44 => ?_
  obtain ⟨rfl, rfl, rfl⟩ := hQ44
  show Wk _ h14 3 21 I 14 #[.val (.long p1), .second, .val (.long p2), .second, .val (.long p3), .second, .val (.int p4), .val (.ref a1), .unset, .unset, .unset, .unset, .unset, .unset, .unset, .unset, .unset, .unset, .unset, .unset, .unset, .unset] [(.long (if 0 = 0 then (9223372036854775807 : Int64) else (fun _ => (0 : Int64)) ((List.replicate 8 0).getD 0 0)))]
  refine Wk.ldc2J (a0 := a0) (pc' := 17) (w25 hw) at_14 rfl ?_
  refine Wk.lcmp (pc' := 18) at_17 rfl ?_
  refine Wk.if_eqY (pc' := 23) at_18 (by decide) ((lw_eq _ _).mpr (if_pos rfl)) ?_
  refine Wk.lloadN (pc' := 24) at_23 rfl rfl ?_
  refine Wk.lloadN (pc' := 25) at_24 rfl rfl ?_
  refine Wk.callS (a0 := a0) (pc' := 28) (k' := 3) (n' := 21) (W := 0) (b := b_mn) (argsL := [(.long p1), (.long p2)]) (rest := []) (rm_mn hw p1 p2 h14 I ) (w26 hw) (w27 hw) (w28 hw) (w29 hw) (by decide) (Nat.le_refl _) id (Nat.le_of_ble_eq_true rfl) (Nat.le_of_ble_eq_true rfl) rfl rfl (Nat.le_of_ble_eq_true rfl) (Nat.le_of_ble_eq_true rfl) rfl pd4 rfl rfl rfl (Nat.le_of_ble_eq_true rfl) at_25 rfl fun v46 h47 J48 hs49 hQ50 => ?_
  obtain ⟨rfl, rfl, rfl⟩ := hQ50
  show Wk _ h14 3 21 I 28 #[.val (.long p1), .second, .val (.long p2), .second, .val (.long p3), .second, .val (.int p4), .val (.ref a1), .unset, .unset, .unset, .unset, .unset, .unset, .unset, .unset, .unset, .unset, .unset, .unset, .unset, .unset] [(.long (if p2 < p1 then p2 else p1))]
  refine Wk.lload (pc' := 30) at_28 rfl rfl ?_
  refine Wk.callS (a0 := a0) (pc' := 33) (k' := 3) (n' := 21) (W := 0) (b := b_mn) (argsL := [(.long (if p2 < p1 then p2 else p1)), (.long p3)]) (rest := []) (rm_mn hw (if p2 < p1 then p2 else p1) p3 h14 I ) (w26 hw) (w27 hw) (w28 hw) (w29 hw) (by decide) (Nat.le_refl _) id (Nat.le_of_ble_eq_true rfl) (Nat.le_of_ble_eq_true rfl) rfl rfl (Nat.le_of_ble_eq_true rfl) (Nat.le_of_ble_eq_true rfl) rfl pd4 rfl rfl rfl (Nat.le_of_ble_eq_true rfl) at_30 rfl fun v51 h52 J53 hs54 hQ55 => ?_
  obtain ⟨rfl, rfl, rfl⟩ := hQ55
  show Wk _ h14 3 21 I 33 #[.val (.long p1), .second, .val (.long p2), .second, .val (.long p3), .second, .val (.int p4), .val (.ref a1), .unset, .unset, .unset, .unset, .unset, .unset, .unset, .unset, .unset, .unset, .unset, .unset, .unset, .unset] [(.long (if p3 < (if p2 < p1 then p2 else p1) then p3 else (if p2 < p1 then p2 else p1)))]
  refine Wk.lstore (pc' := 35) #[.val (.long p1), .second, .val (.long p2), .second, .val (.long p3), .second, .val (.int p4), .val (.ref a1), .val (.long (if p3 < (if p2 < p1 then p2 else p1) then p3 else (if p2 < p1 then p2 else p1))), .second, .unset, .unset, .unset, .unset, .unset, .unset, .unset, .unset, .unset, .unset, .unset, .unset] at_33 rfl rfl ?_
  refine Wk.lloadN (pc' := 36) at_35 rfl rfl ?_
  refine Wk.lloadN (pc' := 37) at_36 rfl rfl ?_
  refine Wk.callS (a0 := a0) (pc' := 40) (k' := 3) (n' := 21) (W := 0) (b := b_mx) (argsL := [(.long p1), (.long p2)]) (rest := []) (rm_mx hw p1 p2 h14 I ) (w30 hw) (w31 hw) (w28 hw) (w32 hw) (by decide) (Nat.le_refl _) id (Nat.le_of_ble_eq_true rfl) (Nat.le_of_ble_eq_true rfl) rfl rfl (Nat.le_of_ble_eq_true rfl) (Nat.le_of_ble_eq_true rfl) rfl pd4 rfl rfl rfl (Nat.le_of_ble_eq_true rfl) at_37 rfl fun v56 h57 J58 hs59 hQ60 => ?_
  obtain ⟨rfl, rfl, rfl⟩ := hQ60
  show Wk _ h14 3 21 I 40 #[.val (.long p1), .second, .val (.long p2), .second, .val (.long p3), .second, .val (.int p4), .val (.ref a1), .val (.long (if p3 < (if p2 < p1 then p2 else p1) then p3 else (if p2 < p1 then p2 else p1))), .second, .unset, .unset, .unset, .unset, .unset, .unset, .unset, .unset, .unset, .unset, .unset, .unset] [(.long (if p1 < p2 then p2 else p1))]
  refine Wk.lload (pc' := 42) at_40 rfl rfl ?_
  refine Wk.callS (a0 := a0) (pc' := 45) (k' := 3) (n' := 21) (W := 0) (b := b_mx) (argsL := [(.long (if p1 < p2 then p2 else p1)), (.long p3)]) (rest := []) (rm_mx hw (if p1 < p2 then p2 else p1) p3 h14 I ) (w30 hw) (w31 hw) (w28 hw) (w32 hw) (by decide) (Nat.le_refl _) id (Nat.le_of_ble_eq_true rfl) (Nat.le_of_ble_eq_true rfl) rfl rfl (Nat.le_of_ble_eq_true rfl) (Nat.le_of_ble_eq_true rfl) rfl pd4 rfl rfl rfl (Nat.le_of_ble_eq_true rfl) at_42 rfl fun v61 h62 J63 hs64 hQ65 => ?_
  obtain ⟨rfl, rfl, rfl⟩ := hQ65
  show Wk _ h14 3 21 I 45 #[.val (.long p1), .second, .val (.long p2), .second, .val (.long p3), .second, .val (.int p4), .val (.ref a1), .val (.long (if p3 < (if p2 < p1 then p2 else p1) then p3 else (if p2 < p1 then p2 else p1))), .second, .unset, .unset, .unset, .unset, .unset, .unset, .unset, .unset, .unset, .unset, .unset, .unset] [(.long (if (if p1 < p2 then p2 else p1) < p3 then p3 else (if p1 < p2 then p2 else p1)))]
  refine Wk.lstore (pc' := 47) #[.val (.long p1), .second, .val (.long p2), .second, .val (.long p3), .second, .val (.int p4), .val (.ref a1), .val (.long (if p3 < (if p2 < p1 then p2 else p1) then p3 else (if p2 < p1 then p2 else p1))), .second, .val (.long (if (if p1 < p2 then p2 else p1) < p3 then p3 else (if p1 < p2 then p2 else p1))), .second, .unset, .unset, .unset, .unset, .unset, .unset, .unset, .unset, .unset, .unset] at_45 rfl rfl ?_
  refine Wk.lloadN (pc' := 48) at_47 rfl rfl ?_
  refine Wk.lloadN (pc' := 49) at_48 rfl rfl ?_
  refine Wk.callS (a0 := a0) (pc' := 52) (k' := 3) (n' := 21) (W := 0) (b := b_mn) (argsL := [(.long p1), (.long p2)]) (rest := []) (rm_mn hw p1 p2 h14 I ) (w26 hw) (w27 hw) (w28 hw) (w29 hw) (by decide) (Nat.le_refl _) id (Nat.le_of_ble_eq_true rfl) (Nat.le_of_ble_eq_true rfl) rfl rfl (Nat.le_of_ble_eq_true rfl) (Nat.le_of_ble_eq_true rfl) rfl pd4 rfl rfl rfl (Nat.le_of_ble_eq_true rfl) at_49 rfl fun v66 h67 J68 hs69 hQ70 => ?_
  obtain ⟨rfl, rfl, rfl⟩ := hQ70
  show Wk _ h14 3 21 I 52 #[.val (.long p1), .second, .val (.long p2), .second, .val (.long p3), .second, .val (.int p4), .val (.ref a1), .val (.long (if p3 < (if p2 < p1 then p2 else p1) then p3 else (if p2 < p1 then p2 else p1))), .second, .val (.long (if (if p1 < p2 then p2 else p1) < p3 then p3 else (if p1 < p2 then p2 else p1))), .second, .unset, .unset, .unset, .unset, .unset, .unset, .unset, .unset, .unset, .unset] [(.long (if p2 < p1 then p2 else p1))]
  refine Wk.lloadN (pc' := 53) at_52 rfl rfl ?_
  refine Wk.lloadN (pc' := 54) at_53 rfl rfl ?_
  refine Wk.callS (a0 := a0) (pc' := 57) (k' := 3) (n' := 21) (W := 2) (b := b_mx) (argsL := [(.long p1), (.long p2)]) (rest := [(.long (if p2 < p1 then p2 else p1))]) (rm_mx hw p1 p2 h14 I ) (w30 hw) (w31 hw) (w28 hw) (w32 hw) (by decide) (Nat.le_refl _) id (Nat.le_of_ble_eq_true rfl) (Nat.le_of_ble_eq_true rfl) rfl rfl (Nat.le_of_ble_eq_true rfl) (Nat.le_of_ble_eq_true rfl) rfl pd4 rfl rfl rfl (Nat.le_of_ble_eq_true rfl) at_54 rfl fun v71 h72 J73 hs74 hQ75 => ?_
  obtain ⟨rfl, rfl, rfl⟩ := hQ75
  show Wk _ h14 3 21 I 57 #[.val (.long p1), .second, .val (.long p2), .second, .val (.long p3), .second, .val (.int p4), .val (.ref a1), .val (.long (if p3 < (if p2 < p1 then p2 else p1) then p3 else (if p2 < p1 then p2 else p1))), .second, .val (.long (if (if p1 < p2 then p2 else p1) < p3 then p3 else (if p1 < p2 then p2 else p1))), .second, .unset, .unset, .unset, .unset, .unset, .unset, .unset, .unset, .unset, .unset] [(.long (if p1 < p2 then p2 else p1)), (.long (if p2 < p1 then p2 else p1))]
  refine Wk.lload (pc' := 59) at_57 rfl rfl ?_
  refine Wk.callS (a0 := a0) (pc' := 62) (k' := 3) (n' := 21) (W := 2) (b := b_mn) (argsL := [(.long (if p1 < p2 then p2 else p1)), (.long p3)]) (rest := [(.long (if p2 < p1 then p2 else p1))]) (rm_mn hw (if p1 < p2 then p2 else p1) p3 h14 I ) (w26 hw) (w27 hw) (w28 hw) (w29 hw) (by decide) (Nat.le_refl _) id (Nat.le_of_ble_eq_true rfl) (Nat.le_of_ble_eq_true rfl) rfl rfl (Nat.le_of_ble_eq_true rfl) (Nat.le_of_ble_eq_true rfl) rfl pd4 rfl rfl rfl (Nat.le_of_ble_eq_true rfl) at_59 rfl fun v76 h77 J78 hs79 hQ80 => ?_
  obtain ⟨rfl, rfl, rfl⟩ := hQ80
  show Wk _ h14 3 21 I 62 #[.val (.long p1), .second, .val (.long p2), .second, .val (.long p3), .second, .val (.int p4), .val (.ref a1), .val (.long (if p3 < (if p2 < p1 then p2 else p1) then p3 else (if p2 < p1 then p2 else p1))), .second, .val (.long (if (if p1 < p2 then p2 else p1) < p3 then p3 else (if p1 < p2 then p2 else p1))), .second, .unset, .unset, .unset, .unset, .unset, .unset, .unset, .unset, .unset, .unset] [(.long (if p3 < (if p1 < p2 then p2 else p1) then p3 else (if p1 < p2 then p2 else p1))), (.long (if p2 < p1 then p2 else p1))]
  refine Wk.callS (a0 := a0) (pc' := 65) (k' := 3) (n' := 21) (W := 0) (b := b_mx) (argsL := [(.long (if p2 < p1 then p2 else p1)), (.long (if p3 < (if p1 < p2 then p2 else p1) then p3 else (if p1 < p2 then p2 else p1)))]) (rest := []) (rm_mx hw (if p2 < p1 then p2 else p1) (if p3 < (if p1 < p2 then p2 else p1) then p3 else (if p1 < p2 then p2 else p1)) h14 I ) (w30 hw) (w31 hw) (w28 hw) (w32 hw) (by decide) (Nat.le_refl _) id (Nat.le_of_ble_eq_true rfl) (Nat.le_of_ble_eq_true rfl) rfl rfl (Nat.le_of_ble_eq_true rfl) (Nat.le_of_ble_eq_true rfl) rfl pd4 rfl rfl rfl (Nat.le_of_ble_eq_true rfl) at_62 rfl fun v81 h82 J83 hs84 hQ85 => ?_
  obtain ⟨rfl, rfl, rfl⟩ := hQ85
  show Wk _ h14 3 21 I 65 #[.val (.long p1), .second, .val (.long p2), .second, .val (.long p3), .second, .val (.int p4), .val (.ref a1), .val (.long (if p3 < (if p2 < p1 then p2 else p1) then p3 else (if p2 < p1 then p2 else p1))), .second, .val (.long (if (if p1 < p2 then p2 else p1) < p3 then p3 else (if p1 < p2 then p2 else p1))), .second, .unset, .unset, .unset, .unset, .unset, .unset, .unset, .unset, .unset, .unset] [(.long (if (if p2 < p1 then p2 else p1) < (if p3 < (if p1 < p2 then p2 else p1) then p3 else (if p1 < p2 then p2 else p1)) then (if p3 < (if p1 < p2 then p2 else p1) then p3 else (if p1 < p2 then p2 else p1)) else (if p2 < p1 then p2 else p1)))]
  refine Wk.lstore (pc' := 67) #[.val (.long p1), .second, .val (.long p2), .second, .val (.long p3), .second, .val (.int p4), .val (.ref a1), .val (.long (if p3 < (if p2 < p1 then p2 else p1) then p3 else (if p2 < p1 then p2 else p1))), .second, .val (.long (if (if p1 < p2 then p2 else p1) < p3 then p3 else (if p1 < p2 then p2 else p1))), .second, .val (.long (if (if p2 < p1 then p2 else p1) < (if p3 < (if p1 < p2 then p2 else p1) then p3 else (if p1 < p2 then p2 else p1)) then (if p3 < (if p1 < p2 then p2 else p1) then p3 else (if p1 < p2 then p2 else p1)) else (if p2 < p1 then p2 else p1))), .second, .unset, .unset, .unset, .unset, .unset, .unset, .unset, .unset] at_65 rfl rfl ?_
  obtain ⟨so1, so2⟩ := own_sort p1 p2 p3
  obtain ⟨lo, elo⟩ : ∃ z, z = (if p3 < (if p2 < p1 then p2 else p1) then p3 else (if p2 < p1 then p2 else p1)) := ⟨_, rfl⟩
  obtain ⟨hi, ehi⟩ : ∃ z, z = (if (if p1 < p2 then p2 else p1) < p3 then p3 else (if p1 < p2 then p2 else p1)) := ⟨_, rfl⟩
  obtain ⟨mi, emi⟩ : ∃ z, z = (if (if p2 < p1 then p2 else p1) < (if p3 < (if p1 < p2 then p2 else p1) then p3 else (if p1 < p2 then p2 else p1)) then (if p3 < (if p1 < p2 then p2 else p1) then p3 else (if p1 < p2 then p2 else p1)) else (if p2 < p1 then p2 else p1)) := ⟨_, rfl⟩
  rw [← elo, ← emi] at so1
  rw [← ehi, ← emi] at so2
  rw [← elo, ← ehi, ← emi]
  show Wk _ h14 3 21 I 67 #[.val (.long p1), .second, .val (.long p2), .second, .val (.long p3), .second, .val (.int p4), .val (.ref a1), .val (.long lo), .second, .val (.long hi), .second, .val (.long mi), .second, .unset, .unset, .unset, .unset, .unset, .unset, .unset, .unset] []
  clear elo ehi emi
  obtain ⟨p, φ, e1, e2, e3, e9, ho⟩ := own_pat lo mi hi so1 so2
  subst e1 e2 e3
  have A86 : Arv Z h14 b118 q120 .long (8 : Int32) (own_s0.1.map (fun r => Value.long (φ r))) (.long (0 : Int64)) := by rw [show own_s0.1.map (fun r => Value.long (φ r)) = List.replicate 8 (Value.long (φ 9)) from rfl, e9]; exact A39
  have t87 : Exa Z h14 a1 "com/example/interlock/interlock/Snapshots" := f45
  have t88 : Fld Z h14 a1 "com/example/interlock/interlock/Snapshots" "snapshots" "[J" (.ref b118) := g30
  have t89 : Fld Z h14 a1 "com/example/interlock/interlock/Snapshots" "holders" "[I" (.ref b219) := g31
  have t90 : Fld Z h14 a1 "com/example/interlock/interlock/Snapshots" "first" "I" (.int (Int32.ofNat own_s0.2.2.1)) := g32
  have t91 : Fld Z h14 a1 "com/example/interlock/interlock/Snapshots" "end" "I" (.int (Int32.ofNat own_s0.2.2.2.1)) := g33
  have t92 : Fld Z h14 a1 "com/example/interlock/interlock/Snapshots" "unheld" "I" (.int own_s0.2.2.2.2) := g34
  have t93 : Arv Z h14 b118 q120 .long (8 : Int32) (own_s0.1.map (fun r => Value.long (φ r))) (.long (0 : Int64)) := A86
  have t94 : Arv Z h14 b219 q221 .int (8 : Int32) (own_s0.2.1.map Value.int) (.int (0 : Int32)) := g36
  show Wk _ h14 3 21 I 67 #[.val (.long p1), .second, .val (.long p2), .second, .val (.long p3), .second, .val (.int p4), .val (.ref a1), .val (.long (φ (own_ra p))), .second, .val (.long (φ (own_rc p))), .second, .val (.long (φ (own_rb p))), .second, .unset, .unset, .unset, .unset, .unset, .unset, .unset, .unset] []
  have J79 : ∀ (d1 : Bool), Wk (l, Z, N, h0.size, b_law, Q_law Z N p1 p2 p3 p4 h0 I) h14 3 21 I 79 #[.val (.long p1), .second, .val (.long p2), .second, .val (.long p3), .second, .val (.int p4), .val (.ref a1), .val (.long (φ (own_ra p))), .second, .val (.long (φ (own_rc p))), .second, .val (.long (φ (own_rb p))), .second, .unset, .unset, .unset, .unset, .unset, .unset, .unset, .unset] [(.int (own_bi d1))] := by
    intro d1 
    refine Wk.istore (pc' := 81) #[.val (.long p1), .second, .val (.long p2), .second, .val (.long p3), .second, .val (.int p4), .val (.ref a1), .val (.long (φ (own_ra p))), .second, .val (.long (φ (own_rc p))), .second, .val (.long (φ (own_rb p))), .second, .val (.int (own_bi d1)), .unset, .unset, .unset, .unset, .unset, .unset, .unset] at_79 rfl rfl ?_
    have J93 : ∀ (d2 : Bool), Wk (l, Z, N, h0.size, b_law, Q_law Z N p1 p2 p3 p4 h0 I) h14 3 21 I 93 #[.val (.long p1), .second, .val (.long p2), .second, .val (.long p3), .second, .val (.int p4), .val (.ref a1), .val (.long (φ (own_ra p))), .second, .val (.long (φ (own_rc p))), .second, .val (.long (φ (own_rb p))), .second, .val (.int (own_bi d1)), .unset, .unset, .unset, .unset, .unset, .unset, .unset] [(.int (own_bi d2))] := by
      intro d2 
      refine Wk.istore (pc' := 95) #[.val (.long p1), .second, .val (.long p2), .second, .val (.long p3), .second, .val (.int p4), .val (.ref a1), .val (.long (φ (own_ra p))), .second, .val (.long (φ (own_rc p))), .second, .val (.long (φ (own_rb p))), .second, .val (.int (own_bi d1)), .val (.int (own_bi d2)), .unset, .unset, .unset, .unset, .unset, .unset] at_93 rfl rfl ?_
      have J107 : ∀ (d3 : Bool), Wk (l, Z, N, h0.size, b_law, Q_law Z N p1 p2 p3 p4 h0 I) h14 3 21 I 107 #[.val (.long p1), .second, .val (.long p2), .second, .val (.long p3), .second, .val (.int p4), .val (.ref a1), .val (.long (φ (own_ra p))), .second, .val (.long (φ (own_rc p))), .second, .val (.long (φ (own_rb p))), .second, .val (.int (own_bi d1)), .val (.int (own_bi d2)), .unset, .unset, .unset, .unset, .unset, .unset] [(.int (own_bi d3))] := by
        intro d3 
        refine Wk.istore (pc' := 109) #[.val (.long p1), .second, .val (.long p2), .second, .val (.long p3), .second, .val (.int p4), .val (.ref a1), .val (.long (φ (own_ra p))), .second, .val (.long (φ (own_rc p))), .second, .val (.long (φ (own_rb p))), .second, .val (.int (own_bi d1)), .val (.int (own_bi d2)), .val (.int (own_bi d3)), .unset, .unset, .unset, .unset, .unset] at_107 rfl rfl ?_
        have J122 : ∀ (d4 : Bool), Wk (l, Z, N, h0.size, b_law, Q_law Z N p1 p2 p3 p4 h0 I) h14 3 21 I 122 #[.val (.long p1), .second, .val (.long p2), .second, .val (.long p3), .second, .val (.int p4), .val (.ref a1), .val (.long (φ (own_ra p))), .second, .val (.long (φ (own_rc p))), .second, .val (.long (φ (own_rb p))), .second, .val (.int (own_bi d1)), .val (.int (own_bi d2)), .val (.int (own_bi d3)), .unset, .unset, .unset, .unset, .unset] [(.int (own_bi d4))] := by
          intro d4 
          refine Wk.istore (pc' := 124) #[.val (.long p1), .second, .val (.long p2), .second, .val (.long p3), .second, .val (.int p4), .val (.ref a1), .val (.long (φ (own_ra p))), .second, .val (.long (φ (own_rc p))), .second, .val (.long (φ (own_rb p))), .second, .val (.int (own_bi d1)), .val (.int (own_bi d2)), .val (.int (own_bi d3)), .val (.int (own_bi d4)), .unset, .unset, .unset, .unset] at_122 rfl rfl ?_
          have J137 : ∀ (d5 : Bool), Wk (l, Z, N, h0.size, b_law, Q_law Z N p1 p2 p3 p4 h0 I) h14 3 21 I 137 #[.val (.long p1), .second, .val (.long p2), .second, .val (.long p3), .second, .val (.int p4), .val (.ref a1), .val (.long (φ (own_ra p))), .second, .val (.long (φ (own_rc p))), .second, .val (.long (φ (own_rb p))), .second, .val (.int (own_bi d1)), .val (.int (own_bi d2)), .val (.int (own_bi d3)), .val (.int (own_bi d4)), .unset, .unset, .unset, .unset] [(.int (own_bi d5))] := by
            intro d5 
            refine Wk.istore (pc' := 139) #[.val (.long p1), .second, .val (.long p2), .second, .val (.long p3), .second, .val (.int p4), .val (.ref a1), .val (.long (φ (own_ra p))), .second, .val (.long (φ (own_rc p))), .second, .val (.long (φ (own_rb p))), .second, .val (.int (own_bi d1)), .val (.int (own_bi d2)), .val (.int (own_bi d3)), .val (.int (own_bi d4)), .val (.int (own_bi d5)), .unset, .unset, .unset] at_137 rfl rfl ?_
            have J152 : ∀ (d6 : Bool), Wk (l, Z, N, h0.size, b_law, Q_law Z N p1 p2 p3 p4 h0 I) h14 3 21 I 152 #[.val (.long p1), .second, .val (.long p2), .second, .val (.long p3), .second, .val (.int p4), .val (.ref a1), .val (.long (φ (own_ra p))), .second, .val (.long (φ (own_rc p))), .second, .val (.long (φ (own_rb p))), .second, .val (.int (own_bi d1)), .val (.int (own_bi d2)), .val (.int (own_bi d3)), .val (.int (own_bi d4)), .val (.int (own_bi d5)), .unset, .unset, .unset] [(.int (own_bi d6))] := by
              intro d6 
              refine Wk.istore (pc' := 154) #[.val (.long p1), .second, .val (.long p2), .second, .val (.long p3), .second, .val (.int p4), .val (.ref a1), .val (.long (φ (own_ra p))), .second, .val (.long (φ (own_rc p))), .second, .val (.long (φ (own_rb p))), .second, .val (.int (own_bi d1)), .val (.int (own_bi d2)), .val (.int (own_bi d3)), .val (.int (own_bi d4)), .val (.int (own_bi d5)), .val (.int (own_bi d6)), .unset, .unset] at_152 rfl rfl ?_
              have fr95 : h0.size ≤ b118 := (Nat.le_trans E5.1 g23)
              have fr96 : h0.size ≤ b219 := (Nat.le_trans E5.1 g24)
              have J279 : ∀ (d5 : Bool) (s : Sn) (hX97 : Heap), (Exa Z hX97 a1 "com/example/interlock/interlock/Snapshots") → (Fld Z hX97 a1 "com/example/interlock/interlock/Snapshots" "snapshots" "[J" (.ref b118)) → (Fld Z hX97 a1 "com/example/interlock/interlock/Snapshots" "holders" "[I" (.ref b219)) → (Fld Z hX97 a1 "com/example/interlock/interlock/Snapshots" "first" "I" (.int (Int32.ofNat s.2.2.1))) → (Fld Z hX97 a1 "com/example/interlock/interlock/Snapshots" "end" "I" (.int (Int32.ofNat s.2.2.2.1))) → (Fld Z hX97 a1 "com/example/interlock/interlock/Snapshots" "unheld" "I" (.int s.2.2.2.2)) → (Arv Z hX97 b118 q120 .long (8 : Int32) (s.1.map (fun r => Value.long (φ r))) (.long (0 : Int64))) → (Arv Z hX97 b219 q221 .int (8 : Int32) (s.2.1.map Value.int) (.int (0 : Int32))) → (s = own_s7 p d1 d2 d3 d4 d5 d6) → (Keep h0 hX97 []) → Wk (l, Z, N, h0.size, b_law, Q_law Z N p1 p2 p3 p4 h0 I) hX97 3 21 I 279 #[.val (.long p1), .second, .val (.long p2), .second, .val (.long p3), .second, .val (.int p4), .val (.ref a1), .val (.long (φ (own_ra p))), .second, .val (.long (φ (own_rc p))), .second, .val (.long (φ (own_rb p))), .second, .val (.int (own_bi d1)), .val (.int (own_bi d2)), .val (.int (own_bi d3)), .val (.int (own_bi d4)), .val (.int (own_bi d5)), .val (.int (own_bi d6)), .unset, .unset] [] := by
                intro d5 s hX97 y98 y99 y100 y101 y102 y103 y104 y105 hs K106
                refine Wk.iload (pc' := 281) at_279 rfl rfl ?_
                cases d1 with
                | false =>
                  show Wk _ hX97 3 21 I 281 #[.val (.long p1), .second, .val (.long p2), .second, .val (.long p3), .second, .val (.int p4), .val (.ref a1), .val (.long (φ (own_ra p))), .second, .val (.long (φ (own_rc p))), .second, .val (.long (φ (own_rb p))), .second, .val (.int (0 : Int32)), .val (.int (own_bi d2)), .val (.int (own_bi d3)), .val (.int (own_bi d4)), .val (.int (own_bi d5)), .val (.int (own_bi d6)), .unset, .unset] [(.int (0 : Int32))]
                  refine Wk.if_neN (pc' := 284) at_281 rfl rfl ?_
                  refine Wk.iload (pc' := 286) at_284 rfl rfl ?_
                  cases d2 with
                  | false =>
                    show Wk _ hX97 3 21 I 286 #[.val (.long p1), .second, .val (.long p2), .second, .val (.long p3), .second, .val (.int p4), .val (.ref a1), .val (.long (φ (own_ra p))), .second, .val (.long (φ (own_rc p))), .second, .val (.long (φ (own_rb p))), .second, .val (.int (0 : Int32)), .val (.int (0 : Int32)), .val (.int (own_bi d3)), .val (.int (own_bi d4)), .val (.int (own_bi d5)), .val (.int (own_bi d6)), .unset, .unset] [(.int (0 : Int32))]
                    refine Wk.if_neN (pc' := 289) at_286 rfl rfl ?_
                    refine Wk.lload (pc' := 291) at_289 rfl rfl ?_
                    refine Wk.lstore (pc' := 293) #[.val (.long p1), .second, .val (.long p2), .second, .val (.long p3), .second, .val (.int p4), .val (.ref a1), .val (.long (φ (own_ra p))), .second, .val (.long (φ (own_rc p))), .second, .val (.long (φ (own_rb p))), .second, .val (.int (0 : Int32)), .val (.int (0 : Int32)), .val (.int (own_bi d3)), .val (.int (own_bi d4)), .val (.int (own_bi d5)), .val (.int (own_bi d6)), .val (.long (φ (own_ra p))), .second] at_291 rfl rfl ?_
                    refine Wk.goto (pc' := 330) at_293 (by decide) ?_
                    refine Wk.aload (pc' := 332) at_330 rfl rfl rfl ?_
                    have ok107 := own_fine_e (s := s) (by rw [hs]; exact (own_k7 p false false d3 d4 d5 d6).1)
                    have hz : (if s.2.2.1 = s.2.2.2.1 then (9223372036854775807 : Int64) else φ (s.1.getD s.2.2.1 0)) = (φ (own_ra p)) := by
                      have q := (own_k7 p false false d3 d4 d5 d6).2
                      rw [← hs] at q
                      exact own_hz (φ := φ) q
                    refine Wk.callV (a0 := a0) (pc' := 335) (k' := 3) (n' := 21) (W := 0) (b := b_hor) (argsL := []) (rest := []) (y := (⟨"com/example/interlock/interlock/Snapshots", "horizon", "()J"⟩ : MethodName)) (rm_hor hw a1 b118 q120 φ s.1 s.2.2.1 s.2.2.2.1 hX97 I y99 y101 y102 y104 ok107.1 ok107.2.2.1 ok107.2.2.2) y98 (w15 hw) (w16 hw) (w18 hw) (w18 hw) (w17 hw) (w2 hw) (w19 hw) (by decide) (Nat.le_refl _) id (Nat.le_of_ble_eq_true rfl) (Nat.le_of_ble_eq_true rfl) rfl rfl (Nat.le_of_ble_eq_true rfl) (Nat.le_of_ble_eq_true rfl) rfl pd3 rfl rfl rfl (Nat.le_of_ble_eq_true rfl) at_332 rfl fun v108 h109 J110 hs111 hQ112 => ?_
                    obtain ⟨rfl, rfl, rfl⟩ := hQ112
                    show Wk _ hX97 3 21 I 335 #[.val (.long p1), .second, .val (.long p2), .second, .val (.long p3), .second, .val (.int p4), .val (.ref a1), .val (.long (φ (own_ra p))), .second, .val (.long (φ (own_rc p))), .second, .val (.long (φ (own_rb p))), .second, .val (.int (0 : Int32)), .val (.int (0 : Int32)), .val (.int (own_bi d3)), .val (.int (own_bi d4)), .val (.int (own_bi d5)), .val (.int (own_bi d6)), .val (.long (φ (own_ra p))), .second] [(.long (if s.2.2.1 = s.2.2.2.1 then (9223372036854775807 : Int64) else φ (s.1.getD s.2.2.1 0)))]
                    refine Wk.lload (pc' := 337) at_335 rfl rfl ?_
                    refine Wk.lcmp (pc' := 338) at_337 rfl ?_
                    refine Wk.if_neN (pc' := 341) at_338 rfl ((lw_eq _ _).mpr hz) ?_
                    refine Wk.iconst (pc' := 342) (v := 1) at_341 rfl rfl ?_
                    refine Wk.goto (pc' := 346) at_342 (by decide) ?_
                    exact Wk.zreturn rfl (by simp) at_346 (Nat.le_of_ble_eq_true rfl) (Nat.le_of_ble_eq_true rfl) ⟨rfl, rfl⟩
                  | true =>
                    show Wk _ hX97 3 21 I 286 #[.val (.long p1), .second, .val (.long p2), .second, .val (.long p3), .second, .val (.int p4), .val (.ref a1), .val (.long (φ (own_ra p))), .second, .val (.long (φ (own_rc p))), .second, .val (.long (φ (own_rb p))), .second, .val (.int (0 : Int32)), .val (.int (1 : Int32)), .val (.int (own_bi d3)), .val (.int (own_bi d4)), .val (.int (own_bi d5)), .val (.int (own_bi d6)), .unset, .unset] [(.int (1 : Int32))]
                    refine Wk.if_neY (pc' := 296) at_286 (by decide) (by decide) ?_
                    refine Wk.iload (pc' := 298) at_296 rfl rfl ?_
                    cases d3 with
                    | false =>
                      show Wk _ hX97 3 21 I 298 #[.val (.long p1), .second, .val (.long p2), .second, .val (.long p3), .second, .val (.int p4), .val (.ref a1), .val (.long (φ (own_ra p))), .second, .val (.long (φ (own_rc p))), .second, .val (.long (φ (own_rb p))), .second, .val (.int (0 : Int32)), .val (.int (1 : Int32)), .val (.int (0 : Int32)), .val (.int (own_bi d4)), .val (.int (own_bi d5)), .val (.int (own_bi d6)), .unset, .unset] [(.int (0 : Int32))]
                      refine Wk.if_neN (pc' := 301) at_298 rfl rfl ?_
                      refine Wk.lload (pc' := 303) at_301 rfl rfl ?_
                      refine Wk.lstore (pc' := 305) #[.val (.long p1), .second, .val (.long p2), .second, .val (.long p3), .second, .val (.int p4), .val (.ref a1), .val (.long (φ (own_ra p))), .second, .val (.long (φ (own_rc p))), .second, .val (.long (φ (own_rb p))), .second, .val (.int (0 : Int32)), .val (.int (1 : Int32)), .val (.int (0 : Int32)), .val (.int (own_bi d4)), .val (.int (own_bi d5)), .val (.int (own_bi d6)), .val (.long (φ (own_rb p))), .second] at_303 rfl rfl ?_
                      refine Wk.goto (pc' := 330) at_305 (by decide) ?_
                      refine Wk.aload (pc' := 332) at_330 rfl rfl rfl ?_
                      have ok113 := own_fine_e (s := s) (by rw [hs]; exact (own_k7 p false true false d4 d5 d6).1)
                      have hz : (if s.2.2.1 = s.2.2.2.1 then (9223372036854775807 : Int64) else φ (s.1.getD s.2.2.1 0)) = (φ (own_rb p)) := by
                        have q := (own_k7 p false true false d4 d5 d6).2
                        rw [← hs] at q
                        exact own_hz (φ := φ) q
                      refine Wk.callV (a0 := a0) (pc' := 335) (k' := 3) (n' := 21) (W := 0) (b := b_hor) (argsL := []) (rest := []) (y := (⟨"com/example/interlock/interlock/Snapshots", "horizon", "()J"⟩ : MethodName)) (rm_hor hw a1 b118 q120 φ s.1 s.2.2.1 s.2.2.2.1 hX97 I y99 y101 y102 y104 ok113.1 ok113.2.2.1 ok113.2.2.2) y98 (w15 hw) (w16 hw) (w18 hw) (w18 hw) (w17 hw) (w2 hw) (w19 hw) (by decide) (Nat.le_refl _) id (Nat.le_of_ble_eq_true rfl) (Nat.le_of_ble_eq_true rfl) rfl rfl (Nat.le_of_ble_eq_true rfl) (Nat.le_of_ble_eq_true rfl) rfl pd3 rfl rfl rfl (Nat.le_of_ble_eq_true rfl) at_332 rfl fun v114 h115 J116 hs117 hQ118 => ?_
                      obtain ⟨rfl, rfl, rfl⟩ := hQ118
                      show Wk _ hX97 3 21 I 335 #[.val (.long p1), .second, .val (.long p2), .second, .val (.long p3), .second, .val (.int p4), .val (.ref a1), .val (.long (φ (own_ra p))), .second, .val (.long (φ (own_rc p))), .second, .val (.long (φ (own_rb p))), .second, .val (.int (0 : Int32)), .val (.int (1 : Int32)), .val (.int (0 : Int32)), .val (.int (own_bi d4)), .val (.int (own_bi d5)), .val (.int (own_bi d6)), .val (.long (φ (own_rb p))), .second] [(.long (if s.2.2.1 = s.2.2.2.1 then (9223372036854775807 : Int64) else φ (s.1.getD s.2.2.1 0)))]
                      refine Wk.lload (pc' := 337) at_335 rfl rfl ?_
                      refine Wk.lcmp (pc' := 338) at_337 rfl ?_
                      refine Wk.if_neN (pc' := 341) at_338 rfl ((lw_eq _ _).mpr hz) ?_
                      refine Wk.iconst (pc' := 342) (v := 1) at_341 rfl rfl ?_
                      refine Wk.goto (pc' := 346) at_342 (by decide) ?_
                      exact Wk.zreturn rfl (by simp) at_346 (Nat.le_of_ble_eq_true rfl) (Nat.le_of_ble_eq_true rfl) ⟨rfl, rfl⟩
                    | true =>
                      show Wk _ hX97 3 21 I 298 #[.val (.long p1), .second, .val (.long p2), .second, .val (.long p3), .second, .val (.int p4), .val (.ref a1), .val (.long (φ (own_ra p))), .second, .val (.long (φ (own_rc p))), .second, .val (.long (φ (own_rb p))), .second, .val (.int (0 : Int32)), .val (.int (1 : Int32)), .val (.int (1 : Int32)), .val (.int (own_bi d4)), .val (.int (own_bi d5)), .val (.int (own_bi d6)), .unset, .unset] [(.int (1 : Int32))]
                      refine Wk.if_neY (pc' := 308) at_298 (by decide) (by decide) ?_
                      refine Wk.iload (pc' := 310) at_308 rfl rfl ?_
                      cases d4 with
                      | false =>
                        show Wk _ hX97 3 21 I 310 #[.val (.long p1), .second, .val (.long p2), .second, .val (.long p3), .second, .val (.int p4), .val (.ref a1), .val (.long (φ (own_ra p))), .second, .val (.long (φ (own_rc p))), .second, .val (.long (φ (own_rb p))), .second, .val (.int (0 : Int32)), .val (.int (1 : Int32)), .val (.int (1 : Int32)), .val (.int (0 : Int32)), .val (.int (own_bi d5)), .val (.int (own_bi d6)), .unset, .unset] [(.int (0 : Int32))]
                        refine Wk.if_eqY (pc' := 318) at_310 (by decide) rfl ?_
                        refine Wk.lload (pc' := 320) at_318 rfl rfl ?_
                        refine Wk.lstore (pc' := 322) #[.val (.long p1), .second, .val (.long p2), .second, .val (.long p3), .second, .val (.int p4), .val (.ref a1), .val (.long (φ (own_ra p))), .second, .val (.long (φ (own_rc p))), .second, .val (.long (φ (own_rb p))), .second, .val (.int (0 : Int32)), .val (.int (1 : Int32)), .val (.int (1 : Int32)), .val (.int (0 : Int32)), .val (.int (own_bi d5)), .val (.int (own_bi d6)), .val (.long (φ (own_rc p))), .second] at_320 rfl rfl ?_
                        refine Wk.goto (pc' := 330) at_322 (by decide) ?_
                        refine Wk.aload (pc' := 332) at_330 rfl rfl rfl ?_
                        have ok119 := own_fine_e (s := s) (by rw [hs]; exact (own_k7 p false true true false d5 d6).1)
                        have hz : (if s.2.2.1 = s.2.2.2.1 then (9223372036854775807 : Int64) else φ (s.1.getD s.2.2.1 0)) = (φ (own_rc p)) := by
                          have q := (own_k7 p false true true false d5 d6).2
                          rw [← hs] at q
                          exact own_hz (φ := φ) q
                        refine Wk.callV (a0 := a0) (pc' := 335) (k' := 3) (n' := 21) (W := 0) (b := b_hor) (argsL := []) (rest := []) (y := (⟨"com/example/interlock/interlock/Snapshots", "horizon", "()J"⟩ : MethodName)) (rm_hor hw a1 b118 q120 φ s.1 s.2.2.1 s.2.2.2.1 hX97 I y99 y101 y102 y104 ok119.1 ok119.2.2.1 ok119.2.2.2) y98 (w15 hw) (w16 hw) (w18 hw) (w18 hw) (w17 hw) (w2 hw) (w19 hw) (by decide) (Nat.le_refl _) id (Nat.le_of_ble_eq_true rfl) (Nat.le_of_ble_eq_true rfl) rfl rfl (Nat.le_of_ble_eq_true rfl) (Nat.le_of_ble_eq_true rfl) rfl pd3 rfl rfl rfl (Nat.le_of_ble_eq_true rfl) at_332 rfl fun v120 h121 J122 hs123 hQ124 => ?_
                        obtain ⟨rfl, rfl, rfl⟩ := hQ124
                        show Wk _ hX97 3 21 I 335 #[.val (.long p1), .second, .val (.long p2), .second, .val (.long p3), .second, .val (.int p4), .val (.ref a1), .val (.long (φ (own_ra p))), .second, .val (.long (φ (own_rc p))), .second, .val (.long (φ (own_rb p))), .second, .val (.int (0 : Int32)), .val (.int (1 : Int32)), .val (.int (1 : Int32)), .val (.int (0 : Int32)), .val (.int (own_bi d5)), .val (.int (own_bi d6)), .val (.long (φ (own_rc p))), .second] [(.long (if s.2.2.1 = s.2.2.2.1 then (9223372036854775807 : Int64) else φ (s.1.getD s.2.2.1 0)))]
                        refine Wk.lload (pc' := 337) at_335 rfl rfl ?_
                        refine Wk.lcmp (pc' := 338) at_337 rfl ?_
                        refine Wk.if_neN (pc' := 341) at_338 rfl ((lw_eq _ _).mpr hz) ?_
                        refine Wk.iconst (pc' := 342) (v := 1) at_341 rfl rfl ?_
                        refine Wk.goto (pc' := 346) at_342 (by decide) ?_
                        exact Wk.zreturn rfl (by simp) at_346 (Nat.le_of_ble_eq_true rfl) (Nat.le_of_ble_eq_true rfl) ⟨rfl, rfl⟩
                      | true =>
                        show Wk _ hX97 3 21 I 310 #[.val (.long p1), .second, .val (.long p2), .second, .val (.long p3), .second, .val (.int p4), .val (.ref a1), .val (.long (φ (own_ra p))), .second, .val (.long (φ (own_rc p))), .second, .val (.long (φ (own_rb p))), .second, .val (.int (0 : Int32)), .val (.int (1 : Int32)), .val (.int (1 : Int32)), .val (.int (1 : Int32)), .val (.int (own_bi d5)), .val (.int (own_bi d6)), .unset, .unset] [(.int (1 : Int32))]
                        refine Wk.if_eqN (pc' := 313) at_310 rfl (by decide) ?_
                        refine Wk.iload (pc' := 315) at_313 rfl rfl ?_
                        cases d6 with
                        | false =>
                          show Wk _ hX97 3 21 I 315 #[.val (.long p1), .second, .val (.long p2), .second, .val (.long p3), .second, .val (.int p4), .val (.ref a1), .val (.long (φ (own_ra p))), .second, .val (.long (φ (own_rc p))), .second, .val (.long (φ (own_rb p))), .second, .val (.int (0 : Int32)), .val (.int (1 : Int32)), .val (.int (1 : Int32)), .val (.int (1 : Int32)), .val (.int (own_bi d5)), .val (.int (0 : Int32)), .unset, .unset] [(.int (0 : Int32))]
                          refine Wk.if_eqY (pc' := 325) at_315 (by decide) rfl ?_
                          refine Wk.ldc2J (a0 := a0) (pc' := 328) (w25 hw) at_325 rfl ?_
                          refine Wk.lstore (pc' := 330) #[.val (.long p1), .second, .val (.long p2), .second, .val (.long p3), .second, .val (.int p4), .val (.ref a1), .val (.long (φ (own_ra p))), .second, .val (.long (φ (own_rc p))), .second, .val (.long (φ (own_rb p))), .second, .val (.int (0 : Int32)), .val (.int (1 : Int32)), .val (.int (1 : Int32)), .val (.int (1 : Int32)), .val (.int (own_bi d5)), .val (.int (0 : Int32)), .val (.long (9223372036854775807 : Int64)), .second] at_328 rfl rfl ?_
                          refine Wk.aload (pc' := 332) at_330 rfl rfl rfl ?_
                          have ok125 := own_fine_e (s := s) (by rw [hs]; exact (own_k7 p false true true true d5 false).1)
                          have hz : (if s.2.2.1 = s.2.2.2.1 then (9223372036854775807 : Int64) else φ (s.1.getD s.2.2.1 0)) = (9223372036854775807 : Int64) := by
                            have q := (own_k7 p false true true true d5 false).2
                            rw [← hs] at q
                            exact own_hz (φ := φ) q
                          refine Wk.callV (a0 := a0) (pc' := 335) (k' := 3) (n' := 21) (W := 0) (b := b_hor) (argsL := []) (rest := []) (y := (⟨"com/example/interlock/interlock/Snapshots", "horizon", "()J"⟩ : MethodName)) (rm_hor hw a1 b118 q120 φ s.1 s.2.2.1 s.2.2.2.1 hX97 I y99 y101 y102 y104 ok125.1 ok125.2.2.1 ok125.2.2.2) y98 (w15 hw) (w16 hw) (w18 hw) (w18 hw) (w17 hw) (w2 hw) (w19 hw) (by decide) (Nat.le_refl _) id (Nat.le_of_ble_eq_true rfl) (Nat.le_of_ble_eq_true rfl) rfl rfl (Nat.le_of_ble_eq_true rfl) (Nat.le_of_ble_eq_true rfl) rfl pd3 rfl rfl rfl (Nat.le_of_ble_eq_true rfl) at_332 rfl fun v126 h127 J128 hs129 hQ130 => ?_
                          obtain ⟨rfl, rfl, rfl⟩ := hQ130
                          show Wk _ hX97 3 21 I 335 #[.val (.long p1), .second, .val (.long p2), .second, .val (.long p3), .second, .val (.int p4), .val (.ref a1), .val (.long (φ (own_ra p))), .second, .val (.long (φ (own_rc p))), .second, .val (.long (φ (own_rb p))), .second, .val (.int (0 : Int32)), .val (.int (1 : Int32)), .val (.int (1 : Int32)), .val (.int (1 : Int32)), .val (.int (own_bi d5)), .val (.int (0 : Int32)), .val (.long (9223372036854775807 : Int64)), .second] [(.long (if s.2.2.1 = s.2.2.2.1 then (9223372036854775807 : Int64) else φ (s.1.getD s.2.2.1 0)))]
                          refine Wk.lload (pc' := 337) at_335 rfl rfl ?_
                          refine Wk.lcmp (pc' := 338) at_337 rfl ?_
                          refine Wk.if_neN (pc' := 341) at_338 rfl ((lw_eq _ _).mpr hz) ?_
                          refine Wk.iconst (pc' := 342) (v := 1) at_341 rfl rfl ?_
                          refine Wk.goto (pc' := 346) at_342 (by decide) ?_
                          exact Wk.zreturn rfl (by simp) at_346 (Nat.le_of_ble_eq_true rfl) (Nat.le_of_ble_eq_true rfl) ⟨rfl, rfl⟩
                        | true =>
                          show Wk _ hX97 3 21 I 315 #[.val (.long p1), .second, .val (.long p2), .second, .val (.long p3), .second, .val (.int p4), .val (.ref a1), .val (.long (φ (own_ra p))), .second, .val (.long (φ (own_rc p))), .second, .val (.long (φ (own_rb p))), .second, .val (.int (0 : Int32)), .val (.int (1 : Int32)), .val (.int (1 : Int32)), .val (.int (1 : Int32)), .val (.int (own_bi d5)), .val (.int (1 : Int32)), .unset, .unset] [(.int (1 : Int32))]
                          refine Wk.if_eqN (pc' := 318) at_315 rfl (by decide) ?_
                          refine Wk.lload (pc' := 320) at_318 rfl rfl ?_
                          refine Wk.lstore (pc' := 322) #[.val (.long p1), .second, .val (.long p2), .second, .val (.long p3), .second, .val (.int p4), .val (.ref a1), .val (.long (φ (own_ra p))), .second, .val (.long (φ (own_rc p))), .second, .val (.long (φ (own_rb p))), .second, .val (.int (0 : Int32)), .val (.int (1 : Int32)), .val (.int (1 : Int32)), .val (.int (1 : Int32)), .val (.int (own_bi d5)), .val (.int (1 : Int32)), .val (.long (φ (own_rc p))), .second] at_320 rfl rfl ?_
                          refine Wk.goto (pc' := 330) at_322 (by decide) ?_
                          refine Wk.aload (pc' := 332) at_330 rfl rfl rfl ?_
                          have ok131 := own_fine_e (s := s) (by rw [hs]; exact (own_k7 p false true true true d5 true).1)
                          have hz : (if s.2.2.1 = s.2.2.2.1 then (9223372036854775807 : Int64) else φ (s.1.getD s.2.2.1 0)) = (φ (own_rc p)) := by
                            have q := (own_k7 p false true true true d5 true).2
                            rw [← hs] at q
                            exact own_hz (φ := φ) q
                          refine Wk.callV (a0 := a0) (pc' := 335) (k' := 3) (n' := 21) (W := 0) (b := b_hor) (argsL := []) (rest := []) (y := (⟨"com/example/interlock/interlock/Snapshots", "horizon", "()J"⟩ : MethodName)) (rm_hor hw a1 b118 q120 φ s.1 s.2.2.1 s.2.2.2.1 hX97 I y99 y101 y102 y104 ok131.1 ok131.2.2.1 ok131.2.2.2) y98 (w15 hw) (w16 hw) (w18 hw) (w18 hw) (w17 hw) (w2 hw) (w19 hw) (by decide) (Nat.le_refl _) id (Nat.le_of_ble_eq_true rfl) (Nat.le_of_ble_eq_true rfl) rfl rfl (Nat.le_of_ble_eq_true rfl) (Nat.le_of_ble_eq_true rfl) rfl pd3 rfl rfl rfl (Nat.le_of_ble_eq_true rfl) at_332 rfl fun v132 h133 J134 hs135 hQ136 => ?_
                          obtain ⟨rfl, rfl, rfl⟩ := hQ136
                          show Wk _ hX97 3 21 I 335 #[.val (.long p1), .second, .val (.long p2), .second, .val (.long p3), .second, .val (.int p4), .val (.ref a1), .val (.long (φ (own_ra p))), .second, .val (.long (φ (own_rc p))), .second, .val (.long (φ (own_rb p))), .second, .val (.int (0 : Int32)), .val (.int (1 : Int32)), .val (.int (1 : Int32)), .val (.int (1 : Int32)), .val (.int (own_bi d5)), .val (.int (1 : Int32)), .val (.long (φ (own_rc p))), .second] [(.long (if s.2.2.1 = s.2.2.2.1 then (9223372036854775807 : Int64) else φ (s.1.getD s.2.2.1 0)))]
                          refine Wk.lload (pc' := 337) at_335 rfl rfl ?_
                          refine Wk.lcmp (pc' := 338) at_337 rfl ?_
                          refine Wk.if_neN (pc' := 341) at_338 rfl ((lw_eq _ _).mpr hz) ?_
                          refine Wk.iconst (pc' := 342) (v := 1) at_341 rfl rfl ?_
                          refine Wk.goto (pc' := 346) at_342 (by decide) ?_
                          exact Wk.zreturn rfl (by simp) at_346 (Nat.le_of_ble_eq_true rfl) (Nat.le_of_ble_eq_true rfl) ⟨rfl, rfl⟩
                | true =>
                  show Wk _ hX97 3 21 I 281 #[.val (.long p1), .second, .val (.long p2), .second, .val (.long p3), .second, .val (.int p4), .val (.ref a1), .val (.long (φ (own_ra p))), .second, .val (.long (φ (own_rc p))), .second, .val (.long (φ (own_rb p))), .second, .val (.int (1 : Int32)), .val (.int (own_bi d2)), .val (.int (own_bi d3)), .val (.int (own_bi d4)), .val (.int (own_bi d5)), .val (.int (own_bi d6)), .unset, .unset] [(.int (1 : Int32))]
                  refine Wk.if_neY (pc' := 289) at_281 (by decide) (by decide) ?_
                  refine Wk.lload (pc' := 291) at_289 rfl rfl ?_
                  refine Wk.lstore (pc' := 293) #[.val (.long p1), .second, .val (.long p2), .second, .val (.long p3), .second, .val (.int p4), .val (.ref a1), .val (.long (φ (own_ra p))), .second, .val (.long (φ (own_rc p))), .second, .val (.long (φ (own_rb p))), .second, .val (.int (1 : Int32)), .val (.int (own_bi d2)), .val (.int (own_bi d3)), .val (.int (own_bi d4)), .val (.int (own_bi d5)), .val (.int (own_bi d6)), .val (.long (φ (own_ra p))), .second] at_291 rfl rfl ?_
                  refine Wk.goto (pc' := 330) at_293 (by decide) ?_
                  refine Wk.aload (pc' := 332) at_330 rfl rfl rfl ?_
                  have ok137 := own_fine_e (s := s) (by rw [hs]; exact (own_k7 p true d2 d3 d4 d5 d6).1)
                  have hz : (if s.2.2.1 = s.2.2.2.1 then (9223372036854775807 : Int64) else φ (s.1.getD s.2.2.1 0)) = (φ (own_ra p)) := by
                    have q := (own_k7 p true d2 d3 d4 d5 d6).2
                    rw [← hs] at q
                    exact own_hz (φ := φ) q
                  refine Wk.callV (a0 := a0) (pc' := 335) (k' := 3) (n' := 21) (W := 0) (b := b_hor) (argsL := []) (rest := []) (y := (⟨"com/example/interlock/interlock/Snapshots", "horizon", "()J"⟩ : MethodName)) (rm_hor hw a1 b118 q120 φ s.1 s.2.2.1 s.2.2.2.1 hX97 I y99 y101 y102 y104 ok137.1 ok137.2.2.1 ok137.2.2.2) y98 (w15 hw) (w16 hw) (w18 hw) (w18 hw) (w17 hw) (w2 hw) (w19 hw) (by decide) (Nat.le_refl _) id (Nat.le_of_ble_eq_true rfl) (Nat.le_of_ble_eq_true rfl) rfl rfl (Nat.le_of_ble_eq_true rfl) (Nat.le_of_ble_eq_true rfl) rfl pd3 rfl rfl rfl (Nat.le_of_ble_eq_true rfl) at_332 rfl fun v138 h139 J140 hs141 hQ142 => ?_
                  obtain ⟨rfl, rfl, rfl⟩ := hQ142
                  show Wk _ hX97 3 21 I 335 #[.val (.long p1), .second, .val (.long p2), .second, .val (.long p3), .second, .val (.int p4), .val (.ref a1), .val (.long (φ (own_ra p))), .second, .val (.long (φ (own_rc p))), .second, .val (.long (φ (own_rb p))), .second, .val (.int (1 : Int32)), .val (.int (own_bi d2)), .val (.int (own_bi d3)), .val (.int (own_bi d4)), .val (.int (own_bi d5)), .val (.int (own_bi d6)), .val (.long (φ (own_ra p))), .second] [(.long (if s.2.2.1 = s.2.2.2.1 then (9223372036854775807 : Int64) else φ (s.1.getD s.2.2.1 0)))]
                  refine Wk.lload (pc' := 337) at_335 rfl rfl ?_
                  refine Wk.lcmp (pc' := 338) at_337 rfl ?_
                  refine Wk.if_neN (pc' := 341) at_338 rfl ((lw_eq _ _).mpr hz) ?_
                  refine Wk.iconst (pc' := 342) (v := 1) at_341 rfl rfl ?_
                  refine Wk.goto (pc' := 346) at_342 (by decide) ?_
                  exact Wk.zreturn rfl (by simp) at_346 (Nat.le_of_ble_eq_true rfl) (Nat.le_of_ble_eq_true rfl) ⟨rfl, rfl⟩
              have J267 : ∀ (d5 : Bool) (s : Sn) (hX143 : Heap), (Exa Z hX143 a1 "com/example/interlock/interlock/Snapshots") → (Fld Z hX143 a1 "com/example/interlock/interlock/Snapshots" "snapshots" "[J" (.ref b118)) → (Fld Z hX143 a1 "com/example/interlock/interlock/Snapshots" "holders" "[I" (.ref b219)) → (Fld Z hX143 a1 "com/example/interlock/interlock/Snapshots" "first" "I" (.int (Int32.ofNat s.2.2.1))) → (Fld Z hX143 a1 "com/example/interlock/interlock/Snapshots" "end" "I" (.int (Int32.ofNat s.2.2.2.1))) → (Fld Z hX143 a1 "com/example/interlock/interlock/Snapshots" "unheld" "I" (.int s.2.2.2.2)) → (Arv Z hX143 b118 q120 .long (8 : Int32) (s.1.map (fun r => Value.long (φ r))) (.long (0 : Int64))) → (Arv Z hX143 b219 q221 .int (8 : Int32) (s.2.1.map Value.int) (.int (0 : Int32))) → (s = own_s6 p d1 d2 d3 d4 d5) → (Keep h0 hX143 []) → Wk (l, Z, N, h0.size, b_law, Q_law Z N p1 p2 p3 p4 h0 I) hX143 3 21 I 267 #[.val (.long p1), .second, .val (.long p2), .second, .val (.long p3), .second, .val (.int p4), .val (.ref a1), .val (.long (φ (own_ra p))), .second, .val (.long (φ (own_rc p))), .second, .val (.long (φ (own_rb p))), .second, .val (.int (own_bi d1)), .val (.int (own_bi d2)), .val (.int (own_bi d3)), .val (.int (own_bi d4)), .val (.int (own_bi d5)), .val (.int (own_bi d6)), .unset, .unset] [] := by
                intro d5 s hX143 y144 y145 y146 y147 y148 y149 y150 y151 hs K152
                refine Wk.iload (pc' := 269) at_267 rfl rfl ?_
                cases d6 with
                | false =>
                  show Wk _ hX143 3 21 I 269 #[.val (.long p1), .second, .val (.long p2), .second, .val (.long p3), .second, .val (.int p4), .val (.ref a1), .val (.long (φ (own_ra p))), .second, .val (.long (φ (own_rc p))), .second, .val (.long (φ (own_rb p))), .second, .val (.int (own_bi d1)), .val (.int (own_bi d2)), .val (.int (own_bi d3)), .val (.int (own_bi d4)), .val (.int (own_bi d5)), .val (.int (0 : Int32)), .unset, .unset] [(.int (0 : Int32))]
                  refine Wk.if_eqY (pc' := 279) at_269 (by decide) rfl ?_
                  have t153 : Exa Z hX143 a1 "com/example/interlock/interlock/Snapshots" := y144
                  have t154 : Fld Z hX143 a1 "com/example/interlock/interlock/Snapshots" "snapshots" "[J" (.ref b118) := y145
                  have t155 : Fld Z hX143 a1 "com/example/interlock/interlock/Snapshots" "holders" "[I" (.ref b219) := y146
                  have t156 : Fld Z hX143 a1 "com/example/interlock/interlock/Snapshots" "first" "I" (.int (Int32.ofNat s.2.2.1)) := y147
                  have t157 : Fld Z hX143 a1 "com/example/interlock/interlock/Snapshots" "end" "I" (.int (Int32.ofNat s.2.2.2.1)) := y148
                  have t158 : Fld Z hX143 a1 "com/example/interlock/interlock/Snapshots" "unheld" "I" (.int s.2.2.2.2) := y149
                  have t159 : Arv Z hX143 b118 q120 .long (8 : Int32) (s.1.map (fun r => Value.long (φ r))) (.long (0 : Int64)) := y150
                  have t160 : Arv Z hX143 b219 q221 .int (8 : Int32) (s.2.1.map Value.int) (.int (0 : Int32)) := y151
                  exact J279 d5 s hX143 t153 t154 t155 t156 t157 t158 t159 t160 (by rw [hs]; rfl) ((Keep.refl h0 []).trans K152 all0)
                | true =>
                  show Wk _ hX143 3 21 I 269 #[.val (.long p1), .second, .val (.long p2), .second, .val (.long p3), .second, .val (.int p4), .val (.ref a1), .val (.long (φ (own_ra p))), .second, .val (.long (φ (own_rc p))), .second, .val (.long (φ (own_rb p))), .second, .val (.int (own_bi d1)), .val (.int (own_bi d2)), .val (.int (own_bi d3)), .val (.int (own_bi d4)), .val (.int (own_bi d5)), .val (.int (1 : Int32)), .unset, .unset] [(.int (1 : Int32))]
                  refine Wk.if_eqN (pc' := 272) at_269 rfl (by decide) ?_
                  refine Wk.aload (pc' := 274) at_272 rfl rfl rfl ?_
                  refine Wk.lload (pc' := 276) at_274 rfl rfl ?_
                  have ok161 := own_hok_e (φ := φ) (s := s) (r := (own_rc p)) (by rw [hs]; exact own_k6 p d1 d2 d3 d4 d5) ho
                  refine Wk.callV (a0 := a0) (pc' := 279) (k' := 3) (n' := 21) (W := 0) (b := b_hold) (argsL := [(.long (φ (own_rc p)))]) (rest := []) (y := (⟨"com/example/interlock/interlock/Snapshots", "hold", "(J)V"⟩ : MethodName)) (rm_hold hw a1 b118 b219 q120 q221 φ s.1 s.2.1 s.2.2.1 s.2.2.2.1 s.2.2.2.2 (own_rc p) (own_hold s.1 s.2.1 s.2.2.1 s.2.2.2.1 s.2.2.2.2 (own_rc p)).1 (own_hold s.1 s.2.1 s.2.2.1 s.2.2.2.1 s.2.2.2.2 (own_rc p)).2.1 (own_hold s.1 s.2.1 s.2.2.1 s.2.2.2.1 s.2.2.2.2 (own_rc p)).2.2.1 (own_hold s.1 s.2.1 s.2.2.1 s.2.2.2.1 s.2.2.2.2 (own_rc p)).2.2.2 hX143 I y144 y145 y146 y147 y148 y149 y150 y151 hN4 g25 g26 g27 g28 g29 ok161.1 ok161.2.1 ok161.2.2.1 ok161.2.2.2.1 ok161.2.2.2.2.1 ok161.2.2.2.2.2 rfl) y144 (w33 hw) (w34 hw) (w36 hw) (w36 hw) (w35 hw) (w2 hw) (w37 hw) (by decide) (Nat.le_refl _) id (Nat.le_of_ble_eq_true rfl) (Nat.le_of_ble_eq_true rfl) rfl rfl (Nat.le_of_ble_eq_true rfl) (Nat.le_of_ble_eq_true rfl) rfl pd5 rfl rfl rfl (Nat.le_of_ble_eq_true rfl) at_276 rfl fun v162 h163 J164 hs165 hQ166 => ?_
                  obtain ⟨rfl, rfl, K167, g168, g169, g170, g171, g172, g173, g174⟩ := hQ166
                  show Wk _ h163 3 21 I 279 #[.val (.long p1), .second, .val (.long p2), .second, .val (.long p3), .second, .val (.int p4), .val (.ref a1), .val (.long (φ (own_ra p))), .second, .val (.long (φ (own_rc p))), .second, .val (.long (φ (own_rb p))), .second, .val (.int (own_bi d1)), .val (.int (own_bi d2)), .val (.int (own_bi d3)), .val (.int (own_bi d4)), .val (.int (own_bi d5)), .val (.int (1 : Int32)), .unset, .unset] []
                  have f175 := (y144.keep K167)
                  have t176 : Exa Z h163 a1 "com/example/interlock/interlock/Snapshots" := f175
                  have t177 : Fld Z h163 a1 "com/example/interlock/interlock/Snapshots" "snapshots" "[J" (.ref b118) := g168
                  have t178 : Fld Z h163 a1 "com/example/interlock/interlock/Snapshots" "holders" "[I" (.ref b219) := g169
                  have t179 : Fld Z h163 a1 "com/example/interlock/interlock/Snapshots" "first" "I" (.int (Int32.ofNat (own_H s (own_rc p)).2.2.1)) := g170
                  have t180 : Fld Z h163 a1 "com/example/interlock/interlock/Snapshots" "end" "I" (.int (Int32.ofNat (own_H s (own_rc p)).2.2.2.1)) := g171
                  have t181 : Fld Z h163 a1 "com/example/interlock/interlock/Snapshots" "unheld" "I" (.int (own_H s (own_rc p)).2.2.2.2) := g172
                  have t182 : Arv Z h163 b118 q120 .long (8 : Int32) ((own_H s (own_rc p)).1.map (fun r => Value.long (φ r))) (.long (0 : Int64)) := g173
                  have t183 : Arv Z h163 b219 q221 .int (8 : Int32) ((own_H s (own_rc p)).2.1.map Value.int) (.int (0 : Int32)) := g174
                  exact J279 d5 (own_H s (own_rc p)) h163 t176 t177 t178 t179 t180 t181 t182 t183 (by rw [hs]; rfl) (((Keep.refl h0 []).trans K152 all0).trans K167 (allS (Or.inr hg3) (allS (Or.inr fr95) (allS (Or.inr fr96) all0))))
              have J255 : ∀ (s : Sn) (hX184 : Heap), (Exa Z hX184 a1 "com/example/interlock/interlock/Snapshots") → (Fld Z hX184 a1 "com/example/interlock/interlock/Snapshots" "snapshots" "[J" (.ref b118)) → (Fld Z hX184 a1 "com/example/interlock/interlock/Snapshots" "holders" "[I" (.ref b219)) → (Fld Z hX184 a1 "com/example/interlock/interlock/Snapshots" "first" "I" (.int (Int32.ofNat s.2.2.1))) → (Fld Z hX184 a1 "com/example/interlock/interlock/Snapshots" "end" "I" (.int (Int32.ofNat s.2.2.2.1))) → (Fld Z hX184 a1 "com/example/interlock/interlock/Snapshots" "unheld" "I" (.int s.2.2.2.2)) → (Arv Z hX184 b118 q120 .long (8 : Int32) (s.1.map (fun r => Value.long (φ r))) (.long (0 : Int64))) → (Arv Z hX184 b219 q221 .int (8 : Int32) (s.2.1.map Value.int) (.int (0 : Int32))) → (s = own_sB p d1 d2 d3) → (Keep h0 hX184 []) → Wk (l, Z, N, h0.size, b_law, Q_law Z N p1 p2 p3 p4 h0 I) hX184 3 21 I 255 #[.val (.long p1), .second, .val (.long p2), .second, .val (.long p3), .second, .val (.int p4), .val (.ref a1), .val (.long (φ (own_ra p))), .second, .val (.long (φ (own_rc p))), .second, .val (.long (φ (own_rb p))), .second, .val (.int (own_bi d1)), .val (.int (own_bi d2)), .val (.int (own_bi d3)), .val (.int (own_bi d4)), .val (.int (0 : Int32)), .val (.int (own_bi d6)), .unset, .unset] [] := by
                intro s hX184 y185 y186 y187 y188 y189 y190 y191 y192 hs K193
                refine Wk.iload (pc' := 257) at_255 rfl rfl ?_
                cases d4 with
                | false =>
                  show Wk _ hX184 3 21 I 257 #[.val (.long p1), .second, .val (.long p2), .second, .val (.long p3), .second, .val (.int p4), .val (.ref a1), .val (.long (φ (own_ra p))), .second, .val (.long (φ (own_rc p))), .second, .val (.long (φ (own_rb p))), .second, .val (.int (own_bi d1)), .val (.int (own_bi d2)), .val (.int (own_bi d3)), .val (.int (0 : Int32)), .val (.int (0 : Int32)), .val (.int (own_bi d6)), .unset, .unset] [(.int (0 : Int32))]
                  refine Wk.if_eqY (pc' := 267) at_257 (by decide) rfl ?_
                  have t194 : Exa Z hX184 a1 "com/example/interlock/interlock/Snapshots" := y185
                  have t195 : Fld Z hX184 a1 "com/example/interlock/interlock/Snapshots" "snapshots" "[J" (.ref b118) := y186
                  have t196 : Fld Z hX184 a1 "com/example/interlock/interlock/Snapshots" "holders" "[I" (.ref b219) := y187
                  have t197 : Fld Z hX184 a1 "com/example/interlock/interlock/Snapshots" "first" "I" (.int (Int32.ofNat s.2.2.1)) := y188
                  have t198 : Fld Z hX184 a1 "com/example/interlock/interlock/Snapshots" "end" "I" (.int (Int32.ofNat s.2.2.2.1)) := y189
                  have t199 : Fld Z hX184 a1 "com/example/interlock/interlock/Snapshots" "unheld" "I" (.int s.2.2.2.2) := y190
                  have t200 : Arv Z hX184 b118 q120 .long (8 : Int32) (s.1.map (fun r => Value.long (φ r))) (.long (0 : Int64)) := y191
                  have t201 : Arv Z hX184 b219 q221 .int (8 : Int32) (s.2.1.map Value.int) (.int (0 : Int32)) := y192
                  exact J267 false s hX184 t194 t195 t196 t197 t198 t199 t200 t201 (by rw [hs]; rfl) ((Keep.refl h0 []).trans K193 all0)
                | true =>
                  show Wk _ hX184 3 21 I 257 #[.val (.long p1), .second, .val (.long p2), .second, .val (.long p3), .second, .val (.int p4), .val (.ref a1), .val (.long (φ (own_ra p))), .second, .val (.long (φ (own_rc p))), .second, .val (.long (φ (own_rb p))), .second, .val (.int (own_bi d1)), .val (.int (own_bi d2)), .val (.int (own_bi d3)), .val (.int (1 : Int32)), .val (.int (0 : Int32)), .val (.int (own_bi d6)), .unset, .unset] [(.int (1 : Int32))]
                  refine Wk.if_eqN (pc' := 260) at_257 rfl (by decide) ?_
                  refine Wk.aload (pc' := 262) at_260 rfl rfl rfl ?_
                  refine Wk.lload (pc' := 264) at_262 rfl rfl ?_
                  have ok202 := own_rok_e (φ := φ) (s := s) (r := (own_rc p)) (by rw [hs]; exact own_kC p d1 d2 d3) ho
                  refine Wk.callV (a0 := a0) (pc' := 267) (k' := 3) (n' := 21) (W := 0) (b := b_rel) (argsL := [(.long (φ (own_rc p)))]) (rest := []) (y := (⟨"com/example/interlock/interlock/Snapshots", "release", "(J)V"⟩ : MethodName)) (rm_rel hw a1 b118 b219 q120 q221 φ s.1 s.2.1 s.2.2.1 s.2.2.2.1 s.2.2.2.2 (own_rc p) (own_ix s (own_rc p)) (own_rel s.1 s.2.1 s.2.2.1 s.2.2.2.1 s.2.2.2.2 (own_ix s (own_rc p))).1 (own_rel s.1 s.2.1 s.2.2.1 s.2.2.2.1 s.2.2.2.2 (own_ix s (own_rc p))).2.1 (own_rel s.1 s.2.1 s.2.2.1 s.2.2.2.1 s.2.2.2.2 (own_ix s (own_rc p))).2.2.1 (own_rel s.1 s.2.1 s.2.2.1 s.2.2.2.1 s.2.2.2.2 (own_ix s (own_rc p))).2.2.2.1 (own_rel s.1 s.2.1 s.2.2.1 s.2.2.2.1 s.2.2.2.2 (own_ix s (own_rc p))).2.2.2.2 hX184 I y185 y186 y187 y188 y189 y190 y191 y192 hN4 g25 g26 g27 g28 g29 ok202.1 ok202.2.1 ok202.2.2.1 ok202.2.2.2.1 ok202.2.2.2.2.1 ok202.2.2.2.2.2.1 ok202.2.2.2.2.2.2 rfl) y185 (w38 hw) (w39 hw) (w41 hw) (w41 hw) (w40 hw) (w2 hw) (w42 hw) (by decide) (Nat.le_refl _) id (Nat.le_of_ble_eq_true rfl) (Nat.le_of_ble_eq_true rfl) rfl rfl (Nat.le_of_ble_eq_true rfl) (Nat.le_of_ble_eq_true rfl) rfl pd5 rfl rfl rfl (Nat.le_of_ble_eq_true rfl) at_264 rfl fun v203 h204 J205 hs206 hQ207 => ?_
                  obtain ⟨rfl, rfl, K208, g209, g210, g211, g212, g213, g214, g215⟩ := hQ207
                  show Wk _ h204 3 21 I 267 #[.val (.long p1), .second, .val (.long p2), .second, .val (.long p3), .second, .val (.int p4), .val (.ref a1), .val (.long (φ (own_ra p))), .second, .val (.long (φ (own_rc p))), .second, .val (.long (φ (own_rb p))), .second, .val (.int (own_bi d1)), .val (.int (own_bi d2)), .val (.int (own_bi d3)), .val (.int (1 : Int32)), .val (.int (0 : Int32)), .val (.int (own_bi d6)), .unset, .unset] []
                  have f216 := (y185.keep K208)
                  have t217 : Exa Z h204 a1 "com/example/interlock/interlock/Snapshots" := f216
                  have t218 : Fld Z h204 a1 "com/example/interlock/interlock/Snapshots" "snapshots" "[J" (.ref b118) := g209
                  have t219 : Fld Z h204 a1 "com/example/interlock/interlock/Snapshots" "holders" "[I" (.ref b219) := g210
                  have t220 : Fld Z h204 a1 "com/example/interlock/interlock/Snapshots" "first" "I" (.int (Int32.ofNat (own_R s (own_rc p)).2.2.1)) := g211
                  have t221 : Fld Z h204 a1 "com/example/interlock/interlock/Snapshots" "end" "I" (.int (Int32.ofNat (own_R s (own_rc p)).2.2.2.1)) := g212
                  have t222 : Fld Z h204 a1 "com/example/interlock/interlock/Snapshots" "unheld" "I" (.int (own_R s (own_rc p)).2.2.2.2) := g213
                  have t223 : Arv Z h204 b118 q120 .long (8 : Int32) ((own_R s (own_rc p)).1.map (fun r => Value.long (φ r))) (.long (0 : Int64)) := g214
                  have t224 : Arv Z h204 b219 q221 .int (8 : Int32) ((own_R s (own_rc p)).2.1.map Value.int) (.int (0 : Int32)) := g215
                  exact J267 false (own_R s (own_rc p)) h204 t217 t218 t219 t220 t221 t222 t223 t224 (by rw [hs]; rfl) (((Keep.refl h0 []).trans K193 all0).trans K208 (allS (Or.inr hg3) (allS (Or.inr fr95) (allS (Or.inr fr96) all0))))
              have J243 : ∀ (s : Sn) (hX225 : Heap), (Exa Z hX225 a1 "com/example/interlock/interlock/Snapshots") → (Fld Z hX225 a1 "com/example/interlock/interlock/Snapshots" "snapshots" "[J" (.ref b118)) → (Fld Z hX225 a1 "com/example/interlock/interlock/Snapshots" "holders" "[I" (.ref b219)) → (Fld Z hX225 a1 "com/example/interlock/interlock/Snapshots" "first" "I" (.int (Int32.ofNat s.2.2.1))) → (Fld Z hX225 a1 "com/example/interlock/interlock/Snapshots" "end" "I" (.int (Int32.ofNat s.2.2.2.1))) → (Fld Z hX225 a1 "com/example/interlock/interlock/Snapshots" "unheld" "I" (.int s.2.2.2.2)) → (Arv Z hX225 b118 q120 .long (8 : Int32) (s.1.map (fun r => Value.long (φ r))) (.long (0 : Int64))) → (Arv Z hX225 b219 q221 .int (8 : Int32) (s.2.1.map Value.int) (.int (0 : Int32))) → (s = own_sA p d1 d2) → (Keep h0 hX225 []) → Wk (l, Z, N, h0.size, b_law, Q_law Z N p1 p2 p3 p4 h0 I) hX225 3 21 I 243 #[.val (.long p1), .second, .val (.long p2), .second, .val (.long p3), .second, .val (.int p4), .val (.ref a1), .val (.long (φ (own_ra p))), .second, .val (.long (φ (own_rc p))), .second, .val (.long (φ (own_rb p))), .second, .val (.int (own_bi d1)), .val (.int (own_bi d2)), .val (.int (own_bi d3)), .val (.int (own_bi d4)), .val (.int (0 : Int32)), .val (.int (own_bi d6)), .unset, .unset] [] := by
                intro s hX225 y226 y227 y228 y229 y230 y231 y232 y233 hs K234
                refine Wk.iload (pc' := 245) at_243 rfl rfl ?_
                cases d3 with
                | false =>
                  show Wk _ hX225 3 21 I 245 #[.val (.long p1), .second, .val (.long p2), .second, .val (.long p3), .second, .val (.int p4), .val (.ref a1), .val (.long (φ (own_ra p))), .second, .val (.long (φ (own_rc p))), .second, .val (.long (φ (own_rb p))), .second, .val (.int (own_bi d1)), .val (.int (own_bi d2)), .val (.int (0 : Int32)), .val (.int (own_bi d4)), .val (.int (0 : Int32)), .val (.int (own_bi d6)), .unset, .unset] [(.int (0 : Int32))]
                  refine Wk.if_eqY (pc' := 255) at_245 (by decide) rfl ?_
                  have t235 : Exa Z hX225 a1 "com/example/interlock/interlock/Snapshots" := y226
                  have t236 : Fld Z hX225 a1 "com/example/interlock/interlock/Snapshots" "snapshots" "[J" (.ref b118) := y227
                  have t237 : Fld Z hX225 a1 "com/example/interlock/interlock/Snapshots" "holders" "[I" (.ref b219) := y228
                  have t238 : Fld Z hX225 a1 "com/example/interlock/interlock/Snapshots" "first" "I" (.int (Int32.ofNat s.2.2.1)) := y229
                  have t239 : Fld Z hX225 a1 "com/example/interlock/interlock/Snapshots" "end" "I" (.int (Int32.ofNat s.2.2.2.1)) := y230
                  have t240 : Fld Z hX225 a1 "com/example/interlock/interlock/Snapshots" "unheld" "I" (.int s.2.2.2.2) := y231
                  have t241 : Arv Z hX225 b118 q120 .long (8 : Int32) (s.1.map (fun r => Value.long (φ r))) (.long (0 : Int64)) := y232
                  have t242 : Arv Z hX225 b219 q221 .int (8 : Int32) (s.2.1.map Value.int) (.int (0 : Int32)) := y233
                  exact J255 s hX225 t235 t236 t237 t238 t239 t240 t241 t242 (by rw [hs]; rfl) ((Keep.refl h0 []).trans K234 all0)
                | true =>
                  show Wk _ hX225 3 21 I 245 #[.val (.long p1), .second, .val (.long p2), .second, .val (.long p3), .second, .val (.int p4), .val (.ref a1), .val (.long (φ (own_ra p))), .second, .val (.long (φ (own_rc p))), .second, .val (.long (φ (own_rb p))), .second, .val (.int (own_bi d1)), .val (.int (own_bi d2)), .val (.int (1 : Int32)), .val (.int (own_bi d4)), .val (.int (0 : Int32)), .val (.int (own_bi d6)), .unset, .unset] [(.int (1 : Int32))]
                  refine Wk.if_eqN (pc' := 248) at_245 rfl (by decide) ?_
                  refine Wk.aload (pc' := 250) at_248 rfl rfl rfl ?_
                  refine Wk.lload (pc' := 252) at_250 rfl rfl ?_
                  have ok243 := own_rok_e (φ := φ) (s := s) (r := (own_rb p)) (by rw [hs]; exact own_kB p d1 d2) ho
                  refine Wk.callV (a0 := a0) (pc' := 255) (k' := 3) (n' := 21) (W := 0) (b := b_rel) (argsL := [(.long (φ (own_rb p)))]) (rest := []) (y := (⟨"com/example/interlock/interlock/Snapshots", "release", "(J)V"⟩ : MethodName)) (rm_rel hw a1 b118 b219 q120 q221 φ s.1 s.2.1 s.2.2.1 s.2.2.2.1 s.2.2.2.2 (own_rb p) (own_ix s (own_rb p)) (own_rel s.1 s.2.1 s.2.2.1 s.2.2.2.1 s.2.2.2.2 (own_ix s (own_rb p))).1 (own_rel s.1 s.2.1 s.2.2.1 s.2.2.2.1 s.2.2.2.2 (own_ix s (own_rb p))).2.1 (own_rel s.1 s.2.1 s.2.2.1 s.2.2.2.1 s.2.2.2.2 (own_ix s (own_rb p))).2.2.1 (own_rel s.1 s.2.1 s.2.2.1 s.2.2.2.1 s.2.2.2.2 (own_ix s (own_rb p))).2.2.2.1 (own_rel s.1 s.2.1 s.2.2.1 s.2.2.2.1 s.2.2.2.2 (own_ix s (own_rb p))).2.2.2.2 hX225 I y226 y227 y228 y229 y230 y231 y232 y233 hN4 g25 g26 g27 g28 g29 ok243.1 ok243.2.1 ok243.2.2.1 ok243.2.2.2.1 ok243.2.2.2.2.1 ok243.2.2.2.2.2.1 ok243.2.2.2.2.2.2 rfl) y226 (w38 hw) (w39 hw) (w41 hw) (w41 hw) (w40 hw) (w2 hw) (w42 hw) (by decide) (Nat.le_refl _) id (Nat.le_of_ble_eq_true rfl) (Nat.le_of_ble_eq_true rfl) rfl rfl (Nat.le_of_ble_eq_true rfl) (Nat.le_of_ble_eq_true rfl) rfl pd5 rfl rfl rfl (Nat.le_of_ble_eq_true rfl) at_252 rfl fun v244 h245 J246 hs247 hQ248 => ?_
                  obtain ⟨rfl, rfl, K249, g250, g251, g252, g253, g254, g255, g256⟩ := hQ248
                  show Wk _ h245 3 21 I 255 #[.val (.long p1), .second, .val (.long p2), .second, .val (.long p3), .second, .val (.int p4), .val (.ref a1), .val (.long (φ (own_ra p))), .second, .val (.long (φ (own_rc p))), .second, .val (.long (φ (own_rb p))), .second, .val (.int (own_bi d1)), .val (.int (own_bi d2)), .val (.int (1 : Int32)), .val (.int (own_bi d4)), .val (.int (0 : Int32)), .val (.int (own_bi d6)), .unset, .unset] []
                  have f257 := (y226.keep K249)
                  have t258 : Exa Z h245 a1 "com/example/interlock/interlock/Snapshots" := f257
                  have t259 : Fld Z h245 a1 "com/example/interlock/interlock/Snapshots" "snapshots" "[J" (.ref b118) := g250
                  have t260 : Fld Z h245 a1 "com/example/interlock/interlock/Snapshots" "holders" "[I" (.ref b219) := g251
                  have t261 : Fld Z h245 a1 "com/example/interlock/interlock/Snapshots" "first" "I" (.int (Int32.ofNat (own_R s (own_rb p)).2.2.1)) := g252
                  have t262 : Fld Z h245 a1 "com/example/interlock/interlock/Snapshots" "end" "I" (.int (Int32.ofNat (own_R s (own_rb p)).2.2.2.1)) := g253
                  have t263 : Fld Z h245 a1 "com/example/interlock/interlock/Snapshots" "unheld" "I" (.int (own_R s (own_rb p)).2.2.2.2) := g254
                  have t264 : Arv Z h245 b118 q120 .long (8 : Int32) ((own_R s (own_rb p)).1.map (fun r => Value.long (φ r))) (.long (0 : Int64)) := g255
                  have t265 : Arv Z h245 b219 q221 .int (8 : Int32) ((own_R s (own_rb p)).2.1.map Value.int) (.int (0 : Int32)) := g256
                  exact J255 (own_R s (own_rb p)) h245 t258 t259 t260 t261 t262 t263 t264 t265 (by rw [hs]; rfl) (((Keep.refl h0 []).trans K234 all0).trans K249 (allS (Or.inr hg3) (allS (Or.inr fr95) (allS (Or.inr fr96) all0))))
              have J216 : ∀ (s : Sn) (hX266 : Heap), (Exa Z hX266 a1 "com/example/interlock/interlock/Snapshots") → (Fld Z hX266 a1 "com/example/interlock/interlock/Snapshots" "snapshots" "[J" (.ref b118)) → (Fld Z hX266 a1 "com/example/interlock/interlock/Snapshots" "holders" "[I" (.ref b219)) → (Fld Z hX266 a1 "com/example/interlock/interlock/Snapshots" "first" "I" (.int (Int32.ofNat s.2.2.1))) → (Fld Z hX266 a1 "com/example/interlock/interlock/Snapshots" "end" "I" (.int (Int32.ofNat s.2.2.2.1))) → (Fld Z hX266 a1 "com/example/interlock/interlock/Snapshots" "unheld" "I" (.int s.2.2.2.2)) → (Arv Z hX266 b118 q120 .long (8 : Int32) (s.1.map (fun r => Value.long (φ r))) (.long (0 : Int64))) → (Arv Z hX266 b219 q221 .int (8 : Int32) (s.2.1.map Value.int) (.int (0 : Int32))) → (s = own_tB p d1 d4 d3) → (Keep h0 hX266 []) → Wk (l, Z, N, h0.size, b_law, Q_law Z N p1 p2 p3 p4 h0 I) hX266 3 21 I 216 #[.val (.long p1), .second, .val (.long p2), .second, .val (.long p3), .second, .val (.int p4), .val (.ref a1), .val (.long (φ (own_ra p))), .second, .val (.long (φ (own_rc p))), .second, .val (.long (φ (own_rb p))), .second, .val (.int (own_bi d1)), .val (.int (own_bi d2)), .val (.int (own_bi d3)), .val (.int (own_bi d4)), .val (.int (1 : Int32)), .val (.int (own_bi d6)), .unset, .unset] [] := by
                intro s hX266 y267 y268 y269 y270 y271 y272 y273 y274 hs K275
                refine Wk.iload (pc' := 218) at_216 rfl rfl ?_
                cases d2 with
                | false =>
                  show Wk _ hX266 3 21 I 218 #[.val (.long p1), .second, .val (.long p2), .second, .val (.long p3), .second, .val (.int p4), .val (.ref a1), .val (.long (φ (own_ra p))), .second, .val (.long (φ (own_rc p))), .second, .val (.long (φ (own_rb p))), .second, .val (.int (own_bi d1)), .val (.int (0 : Int32)), .val (.int (own_bi d3)), .val (.int (own_bi d4)), .val (.int (1 : Int32)), .val (.int (own_bi d6)), .unset, .unset] [(.int (0 : Int32))]
                  refine Wk.if_eqY (pc' := 267) at_218 (by decide) rfl ?_
                  have t276 : Exa Z hX266 a1 "com/example/interlock/interlock/Snapshots" := y267
                  have t277 : Fld Z hX266 a1 "com/example/interlock/interlock/Snapshots" "snapshots" "[J" (.ref b118) := y268
                  have t278 : Fld Z hX266 a1 "com/example/interlock/interlock/Snapshots" "holders" "[I" (.ref b219) := y269
                  have t279 : Fld Z hX266 a1 "com/example/interlock/interlock/Snapshots" "first" "I" (.int (Int32.ofNat s.2.2.1)) := y270
                  have t280 : Fld Z hX266 a1 "com/example/interlock/interlock/Snapshots" "end" "I" (.int (Int32.ofNat s.2.2.2.1)) := y271
                  have t281 : Fld Z hX266 a1 "com/example/interlock/interlock/Snapshots" "unheld" "I" (.int s.2.2.2.2) := y272
                  have t282 : Arv Z hX266 b118 q120 .long (8 : Int32) (s.1.map (fun r => Value.long (φ r))) (.long (0 : Int64)) := y273
                  have t283 : Arv Z hX266 b219 q221 .int (8 : Int32) (s.2.1.map Value.int) (.int (0 : Int32)) := y274
                  exact J267 true s hX266 t276 t277 t278 t279 t280 t281 t282 t283 (by rw [hs]; rfl) ((Keep.refl h0 []).trans K275 all0)
                | true =>
                  show Wk _ hX266 3 21 I 218 #[.val (.long p1), .second, .val (.long p2), .second, .val (.long p3), .second, .val (.int p4), .val (.ref a1), .val (.long (φ (own_ra p))), .second, .val (.long (φ (own_rc p))), .second, .val (.long (φ (own_rb p))), .second, .val (.int (own_bi d1)), .val (.int (1 : Int32)), .val (.int (own_bi d3)), .val (.int (own_bi d4)), .val (.int (1 : Int32)), .val (.int (own_bi d6)), .unset, .unset] [(.int (1 : Int32))]
                  refine Wk.if_eqN (pc' := 221) at_218 rfl (by decide) ?_
                  refine Wk.aload (pc' := 223) at_221 rfl rfl rfl ?_
                  refine Wk.lload (pc' := 225) at_223 rfl rfl ?_
                  have ok284 := own_rok_e (φ := φ) (s := s) (r := (own_ra p)) (by rw [hs]; exact own_lC p d1 d4 d3) ho
                  refine Wk.callV (a0 := a0) (pc' := 228) (k' := 3) (n' := 21) (W := 0) (b := b_rel) (argsL := [(.long (φ (own_ra p)))]) (rest := []) (y := (⟨"com/example/interlock/interlock/Snapshots", "release", "(J)V"⟩ : MethodName)) (rm_rel hw a1 b118 b219 q120 q221 φ s.1 s.2.1 s.2.2.1 s.2.2.2.1 s.2.2.2.2 (own_ra p) (own_ix s (own_ra p)) (own_rel s.1 s.2.1 s.2.2.1 s.2.2.2.1 s.2.2.2.2 (own_ix s (own_ra p))).1 (own_rel s.1 s.2.1 s.2.2.1 s.2.2.2.1 s.2.2.2.2 (own_ix s (own_ra p))).2.1 (own_rel s.1 s.2.1 s.2.2.1 s.2.2.2.1 s.2.2.2.2 (own_ix s (own_ra p))).2.2.1 (own_rel s.1 s.2.1 s.2.2.1 s.2.2.2.1 s.2.2.2.2 (own_ix s (own_ra p))).2.2.2.1 (own_rel s.1 s.2.1 s.2.2.1 s.2.2.2.1 s.2.2.2.2 (own_ix s (own_ra p))).2.2.2.2 hX266 I y267 y268 y269 y270 y271 y272 y273 y274 hN4 g25 g26 g27 g28 g29 ok284.1 ok284.2.1 ok284.2.2.1 ok284.2.2.2.1 ok284.2.2.2.2.1 ok284.2.2.2.2.2.1 ok284.2.2.2.2.2.2 rfl) y267 (w38 hw) (w39 hw) (w41 hw) (w41 hw) (w40 hw) (w2 hw) (w42 hw) (by decide) (Nat.le_refl _) id (Nat.le_of_ble_eq_true rfl) (Nat.le_of_ble_eq_true rfl) rfl rfl (Nat.le_of_ble_eq_true rfl) (Nat.le_of_ble_eq_true rfl) rfl pd5 rfl rfl rfl (Nat.le_of_ble_eq_true rfl) at_225 rfl fun v285 h286 J287 hs288 hQ289 => ?_
                  obtain ⟨rfl, rfl, K290, g291, g292, g293, g294, g295, g296, g297⟩ := hQ289
                  show Wk _ h286 3 21 I 228 #[.val (.long p1), .second, .val (.long p2), .second, .val (.long p3), .second, .val (.int p4), .val (.ref a1), .val (.long (φ (own_ra p))), .second, .val (.long (φ (own_rc p))), .second, .val (.long (φ (own_rb p))), .second, .val (.int (own_bi d1)), .val (.int (1 : Int32)), .val (.int (own_bi d3)), .val (.int (own_bi d4)), .val (.int (1 : Int32)), .val (.int (own_bi d6)), .unset, .unset] []
                  refine Wk.goto (pc' := 267) at_228 (by decide) ?_
                  have f298 := (y267.keep K290)
                  have t299 : Exa Z h286 a1 "com/example/interlock/interlock/Snapshots" := f298
                  have t300 : Fld Z h286 a1 "com/example/interlock/interlock/Snapshots" "snapshots" "[J" (.ref b118) := g291
                  have t301 : Fld Z h286 a1 "com/example/interlock/interlock/Snapshots" "holders" "[I" (.ref b219) := g292
                  have t302 : Fld Z h286 a1 "com/example/interlock/interlock/Snapshots" "first" "I" (.int (Int32.ofNat (own_R s (own_ra p)).2.2.1)) := g293
                  have t303 : Fld Z h286 a1 "com/example/interlock/interlock/Snapshots" "end" "I" (.int (Int32.ofNat (own_R s (own_ra p)).2.2.2.1)) := g294
                  have t304 : Fld Z h286 a1 "com/example/interlock/interlock/Snapshots" "unheld" "I" (.int (own_R s (own_ra p)).2.2.2.2) := g295
                  have t305 : Arv Z h286 b118 q120 .long (8 : Int32) ((own_R s (own_ra p)).1.map (fun r => Value.long (φ r))) (.long (0 : Int64)) := g296
                  have t306 : Arv Z h286 b219 q221 .int (8 : Int32) ((own_R s (own_ra p)).2.1.map Value.int) (.int (0 : Int32)) := g297
                  exact J267 true (own_R s (own_ra p)) h286 t299 t300 t301 t302 t303 t304 t305 t306 (by rw [hs]; rfl) (((Keep.refl h0 []).trans K275 all0).trans K290 (allS (Or.inr hg3) (allS (Or.inr fr95) (allS (Or.inr fr96) all0))))
              have J204 : ∀ (s : Sn) (hX307 : Heap), (Exa Z hX307 a1 "com/example/interlock/interlock/Snapshots") → (Fld Z hX307 a1 "com/example/interlock/interlock/Snapshots" "snapshots" "[J" (.ref b118)) → (Fld Z hX307 a1 "com/example/interlock/interlock/Snapshots" "holders" "[I" (.ref b219)) → (Fld Z hX307 a1 "com/example/interlock/interlock/Snapshots" "first" "I" (.int (Int32.ofNat s.2.2.1))) → (Fld Z hX307 a1 "com/example/interlock/interlock/Snapshots" "end" "I" (.int (Int32.ofNat s.2.2.2.1))) → (Fld Z hX307 a1 "com/example/interlock/interlock/Snapshots" "unheld" "I" (.int s.2.2.2.2)) → (Arv Z hX307 b118 q120 .long (8 : Int32) (s.1.map (fun r => Value.long (φ r))) (.long (0 : Int64))) → (Arv Z hX307 b219 q221 .int (8 : Int32) (s.2.1.map Value.int) (.int (0 : Int32))) → (s = own_tA p d1 d4) → (Keep h0 hX307 []) → Wk (l, Z, N, h0.size, b_law, Q_law Z N p1 p2 p3 p4 h0 I) hX307 3 21 I 204 #[.val (.long p1), .second, .val (.long p2), .second, .val (.long p3), .second, .val (.int p4), .val (.ref a1), .val (.long (φ (own_ra p))), .second, .val (.long (φ (own_rc p))), .second, .val (.long (φ (own_rb p))), .second, .val (.int (own_bi d1)), .val (.int (own_bi d2)), .val (.int (own_bi d3)), .val (.int (own_bi d4)), .val (.int (1 : Int32)), .val (.int (own_bi d6)), .unset, .unset] [] := by
                intro s hX307 y308 y309 y310 y311 y312 y313 y314 y315 hs K316
                refine Wk.iload (pc' := 206) at_204 rfl rfl ?_
                cases d3 with
                | false =>
                  show Wk _ hX307 3 21 I 206 #[.val (.long p1), .second, .val (.long p2), .second, .val (.long p3), .second, .val (.int p4), .val (.ref a1), .val (.long (φ (own_ra p))), .second, .val (.long (φ (own_rc p))), .second, .val (.long (φ (own_rb p))), .second, .val (.int (own_bi d1)), .val (.int (own_bi d2)), .val (.int (0 : Int32)), .val (.int (own_bi d4)), .val (.int (1 : Int32)), .val (.int (own_bi d6)), .unset, .unset] [(.int (0 : Int32))]
                  refine Wk.if_eqY (pc' := 216) at_206 (by decide) rfl ?_
                  have t317 : Exa Z hX307 a1 "com/example/interlock/interlock/Snapshots" := y308
                  have t318 : Fld Z hX307 a1 "com/example/interlock/interlock/Snapshots" "snapshots" "[J" (.ref b118) := y309
                  have t319 : Fld Z hX307 a1 "com/example/interlock/interlock/Snapshots" "holders" "[I" (.ref b219) := y310
                  have t320 : Fld Z hX307 a1 "com/example/interlock/interlock/Snapshots" "first" "I" (.int (Int32.ofNat s.2.2.1)) := y311
                  have t321 : Fld Z hX307 a1 "com/example/interlock/interlock/Snapshots" "end" "I" (.int (Int32.ofNat s.2.2.2.1)) := y312
                  have t322 : Fld Z hX307 a1 "com/example/interlock/interlock/Snapshots" "unheld" "I" (.int s.2.2.2.2) := y313
                  have t323 : Arv Z hX307 b118 q120 .long (8 : Int32) (s.1.map (fun r => Value.long (φ r))) (.long (0 : Int64)) := y314
                  have t324 : Arv Z hX307 b219 q221 .int (8 : Int32) (s.2.1.map Value.int) (.int (0 : Int32)) := y315
                  exact J216 s hX307 t317 t318 t319 t320 t321 t322 t323 t324 (by rw [hs]; rfl) ((Keep.refl h0 []).trans K316 all0)
                | true =>
                  show Wk _ hX307 3 21 I 206 #[.val (.long p1), .second, .val (.long p2), .second, .val (.long p3), .second, .val (.int p4), .val (.ref a1), .val (.long (φ (own_ra p))), .second, .val (.long (φ (own_rc p))), .second, .val (.long (φ (own_rb p))), .second, .val (.int (own_bi d1)), .val (.int (own_bi d2)), .val (.int (1 : Int32)), .val (.int (own_bi d4)), .val (.int (1 : Int32)), .val (.int (own_bi d6)), .unset, .unset] [(.int (1 : Int32))]
                  refine Wk.if_eqN (pc' := 209) at_206 rfl (by decide) ?_
                  refine Wk.aload (pc' := 211) at_209 rfl rfl rfl ?_
                  refine Wk.lload (pc' := 213) at_211 rfl rfl ?_
                  have ok325 := own_rok_e (φ := φ) (s := s) (r := (own_rb p)) (by rw [hs]; exact own_lB p d1 d4) ho
                  refine Wk.callV (a0 := a0) (pc' := 216) (k' := 3) (n' := 21) (W := 0) (b := b_rel) (argsL := [(.long (φ (own_rb p)))]) (rest := []) (y := (⟨"com/example/interlock/interlock/Snapshots", "release", "(J)V"⟩ : MethodName)) (rm_rel hw a1 b118 b219 q120 q221 φ s.1 s.2.1 s.2.2.1 s.2.2.2.1 s.2.2.2.2 (own_rb p) (own_ix s (own_rb p)) (own_rel s.1 s.2.1 s.2.2.1 s.2.2.2.1 s.2.2.2.2 (own_ix s (own_rb p))).1 (own_rel s.1 s.2.1 s.2.2.1 s.2.2.2.1 s.2.2.2.2 (own_ix s (own_rb p))).2.1 (own_rel s.1 s.2.1 s.2.2.1 s.2.2.2.1 s.2.2.2.2 (own_ix s (own_rb p))).2.2.1 (own_rel s.1 s.2.1 s.2.2.1 s.2.2.2.1 s.2.2.2.2 (own_ix s (own_rb p))).2.2.2.1 (own_rel s.1 s.2.1 s.2.2.1 s.2.2.2.1 s.2.2.2.2 (own_ix s (own_rb p))).2.2.2.2 hX307 I y308 y309 y310 y311 y312 y313 y314 y315 hN4 g25 g26 g27 g28 g29 ok325.1 ok325.2.1 ok325.2.2.1 ok325.2.2.2.1 ok325.2.2.2.2.1 ok325.2.2.2.2.2.1 ok325.2.2.2.2.2.2 rfl) y308 (w38 hw) (w39 hw) (w41 hw) (w41 hw) (w40 hw) (w2 hw) (w42 hw) (by decide) (Nat.le_refl _) id (Nat.le_of_ble_eq_true rfl) (Nat.le_of_ble_eq_true rfl) rfl rfl (Nat.le_of_ble_eq_true rfl) (Nat.le_of_ble_eq_true rfl) rfl pd5 rfl rfl rfl (Nat.le_of_ble_eq_true rfl) at_213 rfl fun v326 h327 J328 hs329 hQ330 => ?_
                  obtain ⟨rfl, rfl, K331, g332, g333, g334, g335, g336, g337, g338⟩ := hQ330
                  show Wk _ h327 3 21 I 216 #[.val (.long p1), .second, .val (.long p2), .second, .val (.long p3), .second, .val (.int p4), .val (.ref a1), .val (.long (φ (own_ra p))), .second, .val (.long (φ (own_rc p))), .second, .val (.long (φ (own_rb p))), .second, .val (.int (own_bi d1)), .val (.int (own_bi d2)), .val (.int (1 : Int32)), .val (.int (own_bi d4)), .val (.int (1 : Int32)), .val (.int (own_bi d6)), .unset, .unset] []
                  have f339 := (y308.keep K331)
                  have t340 : Exa Z h327 a1 "com/example/interlock/interlock/Snapshots" := f339
                  have t341 : Fld Z h327 a1 "com/example/interlock/interlock/Snapshots" "snapshots" "[J" (.ref b118) := g332
                  have t342 : Fld Z h327 a1 "com/example/interlock/interlock/Snapshots" "holders" "[I" (.ref b219) := g333
                  have t343 : Fld Z h327 a1 "com/example/interlock/interlock/Snapshots" "first" "I" (.int (Int32.ofNat (own_R s (own_rb p)).2.2.1)) := g334
                  have t344 : Fld Z h327 a1 "com/example/interlock/interlock/Snapshots" "end" "I" (.int (Int32.ofNat (own_R s (own_rb p)).2.2.2.1)) := g335
                  have t345 : Fld Z h327 a1 "com/example/interlock/interlock/Snapshots" "unheld" "I" (.int (own_R s (own_rb p)).2.2.2.2) := g336
                  have t346 : Arv Z h327 b118 q120 .long (8 : Int32) ((own_R s (own_rb p)).1.map (fun r => Value.long (φ r))) (.long (0 : Int64)) := g337
                  have t347 : Arv Z h327 b219 q221 .int (8 : Int32) ((own_R s (own_rb p)).2.1.map Value.int) (.int (0 : Int32)) := g338
                  exact J216 (own_R s (own_rb p)) h327 t340 t341 t342 t343 t344 t345 t346 t347 (by rw [hs]; rfl) (((Keep.refl h0 []).trans K316 all0).trans K331 (allS (Or.inr hg3) (allS (Or.inr fr95) (allS (Or.inr fr96) all0))))
              have J173 : ∀ (s : Sn) (hX348 : Heap), (Exa Z hX348 a1 "com/example/interlock/interlock/Snapshots") → (Fld Z hX348 a1 "com/example/interlock/interlock/Snapshots" "snapshots" "[J" (.ref b118)) → (Fld Z hX348 a1 "com/example/interlock/interlock/Snapshots" "holders" "[I" (.ref b219)) → (Fld Z hX348 a1 "com/example/interlock/interlock/Snapshots" "first" "I" (.int (Int32.ofNat s.2.2.1))) → (Fld Z hX348 a1 "com/example/interlock/interlock/Snapshots" "end" "I" (.int (Int32.ofNat s.2.2.2.1))) → (Fld Z hX348 a1 "com/example/interlock/interlock/Snapshots" "unheld" "I" (.int s.2.2.2.2)) → (Arv Z hX348 b118 q120 .long (8 : Int32) (s.1.map (fun r => Value.long (φ r))) (.long (0 : Int64))) → (Arv Z hX348 b219 q221 .int (8 : Int32) (s.2.1.map Value.int) (.int (0 : Int32))) → (s = own_s2 p d1) → (Keep h0 hX348 []) → Wk (l, Z, N, h0.size, b_law, Q_law Z N p1 p2 p3 p4 h0 I) hX348 3 21 I 173 #[.val (.long p1), .second, .val (.long p2), .second, .val (.long p3), .second, .val (.int p4), .val (.ref a1), .val (.long (φ (own_ra p))), .second, .val (.long (φ (own_rc p))), .second, .val (.long (φ (own_rb p))), .second, .val (.int (own_bi d1)), .val (.int (own_bi d2)), .val (.int (own_bi d3)), .val (.int (own_bi d4)), .val (.int (own_bi d5)), .val (.int (own_bi d6)), .unset, .unset] [] := by
                intro s hX348 y349 y350 y351 y352 y353 y354 y355 y356 hs K357
                refine Wk.aload (pc' := 175) at_173 rfl rfl rfl ?_
                refine Wk.lload (pc' := 177) at_175 rfl rfl ?_
                have ok358 := own_hok_e (φ := φ) (s := s) (r := (own_rb p)) (by rw [hs]; exact own_k3 p d1) ho
                refine Wk.callV (a0 := a0) (pc' := 180) (k' := 3) (n' := 21) (W := 0) (b := b_hold) (argsL := [(.long (φ (own_rb p)))]) (rest := []) (y := (⟨"com/example/interlock/interlock/Snapshots", "hold", "(J)V"⟩ : MethodName)) (rm_hold hw a1 b118 b219 q120 q221 φ s.1 s.2.1 s.2.2.1 s.2.2.2.1 s.2.2.2.2 (own_rb p) (own_hold s.1 s.2.1 s.2.2.1 s.2.2.2.1 s.2.2.2.2 (own_rb p)).1 (own_hold s.1 s.2.1 s.2.2.1 s.2.2.2.1 s.2.2.2.2 (own_rb p)).2.1 (own_hold s.1 s.2.1 s.2.2.1 s.2.2.2.1 s.2.2.2.2 (own_rb p)).2.2.1 (own_hold s.1 s.2.1 s.2.2.1 s.2.2.2.1 s.2.2.2.2 (own_rb p)).2.2.2 hX348 I y349 y350 y351 y352 y353 y354 y355 y356 hN4 g25 g26 g27 g28 g29 ok358.1 ok358.2.1 ok358.2.2.1 ok358.2.2.2.1 ok358.2.2.2.2.1 ok358.2.2.2.2.2 rfl) y349 (w33 hw) (w34 hw) (w36 hw) (w36 hw) (w35 hw) (w2 hw) (w37 hw) (by decide) (Nat.le_refl _) id (Nat.le_of_ble_eq_true rfl) (Nat.le_of_ble_eq_true rfl) rfl rfl (Nat.le_of_ble_eq_true rfl) (Nat.le_of_ble_eq_true rfl) rfl pd5 rfl rfl rfl (Nat.le_of_ble_eq_true rfl) at_177 rfl fun v359 h360 J361 hs362 hQ363 => ?_
                obtain ⟨rfl, rfl, K364, g365, g366, g367, g368, g369, g370, g371⟩ := hQ363
                show Wk _ h360 3 21 I 180 #[.val (.long p1), .second, .val (.long p2), .second, .val (.long p3), .second, .val (.int p4), .val (.ref a1), .val (.long (φ (own_ra p))), .second, .val (.long (φ (own_rc p))), .second, .val (.long (φ (own_rb p))), .second, .val (.int (own_bi d1)), .val (.int (own_bi d2)), .val (.int (own_bi d3)), .val (.int (own_bi d4)), .val (.int (own_bi d5)), .val (.int (own_bi d6)), .unset, .unset] []
                have f372 := (y349.keep K364)
                have t373 : Exa Z h360 a1 "com/example/interlock/interlock/Snapshots" := f372
                have t374 : Fld Z h360 a1 "com/example/interlock/interlock/Snapshots" "snapshots" "[J" (.ref b118) := g365
                have t375 : Fld Z h360 a1 "com/example/interlock/interlock/Snapshots" "holders" "[I" (.ref b219) := g366
                have t376 : Fld Z h360 a1 "com/example/interlock/interlock/Snapshots" "first" "I" (.int (Int32.ofNat (own_H s (own_rb p)).2.2.1)) := g367
                have t377 : Fld Z h360 a1 "com/example/interlock/interlock/Snapshots" "end" "I" (.int (Int32.ofNat (own_H s (own_rb p)).2.2.2.1)) := g368
                have t378 : Fld Z h360 a1 "com/example/interlock/interlock/Snapshots" "unheld" "I" (.int (own_H s (own_rb p)).2.2.2.2) := g369
                have t379 : Arv Z h360 b118 q120 .long (8 : Int32) ((own_H s (own_rb p)).1.map (fun r => Value.long (φ r))) (.long (0 : Int64)) := g370
                have t380 : Arv Z h360 b219 q221 .int (8 : Int32) ((own_H s (own_rb p)).2.1.map Value.int) (.int (0 : Int32)) := g371
                refine Wk.aload (pc' := 182) at_180 rfl rfl rfl ?_
                refine Wk.lload (pc' := 184) at_182 rfl rfl ?_
                have ok381 := own_hok_e (φ := φ) (s := (own_H s (own_rb p))) (r := (own_rc p)) (by rw [hs]; exact own_k4 p d1) ho
                refine Wk.callV (a0 := a0) (pc' := 187) (k' := 3) (n' := 21) (W := 0) (b := b_hold) (argsL := [(.long (φ (own_rc p)))]) (rest := []) (y := (⟨"com/example/interlock/interlock/Snapshots", "hold", "(J)V"⟩ : MethodName)) (rm_hold hw a1 b118 b219 q120 q221 φ (own_H s (own_rb p)).1 (own_H s (own_rb p)).2.1 (own_H s (own_rb p)).2.2.1 (own_H s (own_rb p)).2.2.2.1 (own_H s (own_rb p)).2.2.2.2 (own_rc p) (own_hold (own_H s (own_rb p)).1 (own_H s (own_rb p)).2.1 (own_H s (own_rb p)).2.2.1 (own_H s (own_rb p)).2.2.2.1 (own_H s (own_rb p)).2.2.2.2 (own_rc p)).1 (own_hold (own_H s (own_rb p)).1 (own_H s (own_rb p)).2.1 (own_H s (own_rb p)).2.2.1 (own_H s (own_rb p)).2.2.2.1 (own_H s (own_rb p)).2.2.2.2 (own_rc p)).2.1 (own_hold (own_H s (own_rb p)).1 (own_H s (own_rb p)).2.1 (own_H s (own_rb p)).2.2.1 (own_H s (own_rb p)).2.2.2.1 (own_H s (own_rb p)).2.2.2.2 (own_rc p)).2.2.1 (own_hold (own_H s (own_rb p)).1 (own_H s (own_rb p)).2.1 (own_H s (own_rb p)).2.2.1 (own_H s (own_rb p)).2.2.2.1 (own_H s (own_rb p)).2.2.2.2 (own_rc p)).2.2.2 h360 I t373 t374 t375 t376 t377 t378 t379 t380 hN4 g25 g26 g27 g28 g29 ok381.1 ok381.2.1 ok381.2.2.1 ok381.2.2.2.1 ok381.2.2.2.2.1 ok381.2.2.2.2.2 rfl) t373 (w33 hw) (w34 hw) (w36 hw) (w36 hw) (w35 hw) (w2 hw) (w37 hw) (by decide) (Nat.le_refl _) id (Nat.le_of_ble_eq_true rfl) (Nat.le_of_ble_eq_true rfl) rfl rfl (Nat.le_of_ble_eq_true rfl) (Nat.le_of_ble_eq_true rfl) rfl pd5 rfl rfl rfl (Nat.le_of_ble_eq_true rfl) at_184 rfl fun v382 h383 J384 hs385 hQ386 => ?_
                obtain ⟨rfl, rfl, K387, g388, g389, g390, g391, g392, g393, g394⟩ := hQ386
                show Wk _ h383 3 21 I 187 #[.val (.long p1), .second, .val (.long p2), .second, .val (.long p3), .second, .val (.int p4), .val (.ref a1), .val (.long (φ (own_ra p))), .second, .val (.long (φ (own_rc p))), .second, .val (.long (φ (own_rb p))), .second, .val (.int (own_bi d1)), .val (.int (own_bi d2)), .val (.int (own_bi d3)), .val (.int (own_bi d4)), .val (.int (own_bi d5)), .val (.int (own_bi d6)), .unset, .unset] []
                have f395 := (t373.keep K387)
                have t396 : Exa Z h383 a1 "com/example/interlock/interlock/Snapshots" := f395
                have t397 : Fld Z h383 a1 "com/example/interlock/interlock/Snapshots" "snapshots" "[J" (.ref b118) := g388
                have t398 : Fld Z h383 a1 "com/example/interlock/interlock/Snapshots" "holders" "[I" (.ref b219) := g389
                have t399 : Fld Z h383 a1 "com/example/interlock/interlock/Snapshots" "first" "I" (.int (Int32.ofNat (own_H (own_H s (own_rb p)) (own_rc p)).2.2.1)) := g390
                have t400 : Fld Z h383 a1 "com/example/interlock/interlock/Snapshots" "end" "I" (.int (Int32.ofNat (own_H (own_H s (own_rb p)) (own_rc p)).2.2.2.1)) := g391
                have t401 : Fld Z h383 a1 "com/example/interlock/interlock/Snapshots" "unheld" "I" (.int (own_H (own_H s (own_rb p)) (own_rc p)).2.2.2.2) := g392
                have t402 : Arv Z h383 b118 q120 .long (8 : Int32) ((own_H (own_H s (own_rb p)) (own_rc p)).1.map (fun r => Value.long (φ r))) (.long (0 : Int64)) := g393
                have t403 : Arv Z h383 b219 q221 .int (8 : Int32) ((own_H (own_H s (own_rb p)) (own_rc p)).2.1.map Value.int) (.int (0 : Int32)) := g394
                refine Wk.iload (pc' := 189) at_187 rfl rfl ?_
                cases d5 with
                | false =>
                  show Wk _ h383 3 21 I 189 #[.val (.long p1), .second, .val (.long p2), .second, .val (.long p3), .second, .val (.int p4), .val (.ref a1), .val (.long (φ (own_ra p))), .second, .val (.long (φ (own_rc p))), .second, .val (.long (φ (own_rb p))), .second, .val (.int (own_bi d1)), .val (.int (own_bi d2)), .val (.int (own_bi d3)), .val (.int (own_bi d4)), .val (.int (0 : Int32)), .val (.int (own_bi d6)), .unset, .unset] [(.int (0 : Int32))]
                  refine Wk.if_eqY (pc' := 231) at_189 (by decide) rfl ?_
                  refine Wk.iload (pc' := 233) at_231 rfl rfl ?_
                  cases d2 with
                  | false =>
                    show Wk _ h383 3 21 I 233 #[.val (.long p1), .second, .val (.long p2), .second, .val (.long p3), .second, .val (.int p4), .val (.ref a1), .val (.long (φ (own_ra p))), .second, .val (.long (φ (own_rc p))), .second, .val (.long (φ (own_rb p))), .second, .val (.int (own_bi d1)), .val (.int (0 : Int32)), .val (.int (own_bi d3)), .val (.int (own_bi d4)), .val (.int (0 : Int32)), .val (.int (own_bi d6)), .unset, .unset] [(.int (0 : Int32))]
                    refine Wk.if_eqY (pc' := 243) at_233 (by decide) rfl ?_
                    have t404 : Exa Z h383 a1 "com/example/interlock/interlock/Snapshots" := t396
                    have t405 : Fld Z h383 a1 "com/example/interlock/interlock/Snapshots" "snapshots" "[J" (.ref b118) := t397
                    have t406 : Fld Z h383 a1 "com/example/interlock/interlock/Snapshots" "holders" "[I" (.ref b219) := t398
                    have t407 : Fld Z h383 a1 "com/example/interlock/interlock/Snapshots" "first" "I" (.int (Int32.ofNat (own_H (own_H s (own_rb p)) (own_rc p)).2.2.1)) := t399
                    have t408 : Fld Z h383 a1 "com/example/interlock/interlock/Snapshots" "end" "I" (.int (Int32.ofNat (own_H (own_H s (own_rb p)) (own_rc p)).2.2.2.1)) := t400
                    have t409 : Fld Z h383 a1 "com/example/interlock/interlock/Snapshots" "unheld" "I" (.int (own_H (own_H s (own_rb p)) (own_rc p)).2.2.2.2) := t401
                    have t410 : Arv Z h383 b118 q120 .long (8 : Int32) ((own_H (own_H s (own_rb p)) (own_rc p)).1.map (fun r => Value.long (φ r))) (.long (0 : Int64)) := t402
                    have t411 : Arv Z h383 b219 q221 .int (8 : Int32) ((own_H (own_H s (own_rb p)) (own_rc p)).2.1.map Value.int) (.int (0 : Int32)) := t403
                    exact J243 (own_H (own_H s (own_rb p)) (own_rc p)) h383 t404 t405 t406 t407 t408 t409 t410 t411 (by rw [hs]; rfl) ((((Keep.refl h0 []).trans K357 all0).trans K364 (allS (Or.inr hg3) (allS (Or.inr fr95) (allS (Or.inr fr96) all0)))).trans K387 (allS (Or.inr hg3) (allS (Or.inr fr95) (allS (Or.inr fr96) all0))))
                  | true =>
                    show Wk _ h383 3 21 I 233 #[.val (.long p1), .second, .val (.long p2), .second, .val (.long p3), .second, .val (.int p4), .val (.ref a1), .val (.long (φ (own_ra p))), .second, .val (.long (φ (own_rc p))), .second, .val (.long (φ (own_rb p))), .second, .val (.int (own_bi d1)), .val (.int (1 : Int32)), .val (.int (own_bi d3)), .val (.int (own_bi d4)), .val (.int (0 : Int32)), .val (.int (own_bi d6)), .unset, .unset] [(.int (1 : Int32))]
                    refine Wk.if_eqN (pc' := 236) at_233 rfl (by decide) ?_
                    refine Wk.aload (pc' := 238) at_236 rfl rfl rfl ?_
                    refine Wk.lload (pc' := 240) at_238 rfl rfl ?_
                    have ok412 := own_rok_e (φ := φ) (s := (own_H (own_H s (own_rb p)) (own_rc p))) (r := (own_ra p)) (by rw [hs]; exact own_kA p d1) ho
                    refine Wk.callV (a0 := a0) (pc' := 243) (k' := 3) (n' := 21) (W := 0) (b := b_rel) (argsL := [(.long (φ (own_ra p)))]) (rest := []) (y := (⟨"com/example/interlock/interlock/Snapshots", "release", "(J)V"⟩ : MethodName)) (rm_rel hw a1 b118 b219 q120 q221 φ (own_H (own_H s (own_rb p)) (own_rc p)).1 (own_H (own_H s (own_rb p)) (own_rc p)).2.1 (own_H (own_H s (own_rb p)) (own_rc p)).2.2.1 (own_H (own_H s (own_rb p)) (own_rc p)).2.2.2.1 (own_H (own_H s (own_rb p)) (own_rc p)).2.2.2.2 (own_ra p) (own_ix (own_H (own_H s (own_rb p)) (own_rc p)) (own_ra p)) (own_rel (own_H (own_H s (own_rb p)) (own_rc p)).1 (own_H (own_H s (own_rb p)) (own_rc p)).2.1 (own_H (own_H s (own_rb p)) (own_rc p)).2.2.1 (own_H (own_H s (own_rb p)) (own_rc p)).2.2.2.1 (own_H (own_H s (own_rb p)) (own_rc p)).2.2.2.2 (own_ix (own_H (own_H s (own_rb p)) (own_rc p)) (own_ra p))).1 (own_rel (own_H (own_H s (own_rb p)) (own_rc p)).1 (own_H (own_H s (own_rb p)) (own_rc p)).2.1 (own_H (own_H s (own_rb p)) (own_rc p)).2.2.1 (own_H (own_H s (own_rb p)) (own_rc p)).2.2.2.1 (own_H (own_H s (own_rb p)) (own_rc p)).2.2.2.2 (own_ix (own_H (own_H s (own_rb p)) (own_rc p)) (own_ra p))).2.1 (own_rel (own_H (own_H s (own_rb p)) (own_rc p)).1 (own_H (own_H s (own_rb p)) (own_rc p)).2.1 (own_H (own_H s (own_rb p)) (own_rc p)).2.2.1 (own_H (own_H s (own_rb p)) (own_rc p)).2.2.2.1 (own_H (own_H s (own_rb p)) (own_rc p)).2.2.2.2 (own_ix (own_H (own_H s (own_rb p)) (own_rc p)) (own_ra p))).2.2.1 (own_rel (own_H (own_H s (own_rb p)) (own_rc p)).1 (own_H (own_H s (own_rb p)) (own_rc p)).2.1 (own_H (own_H s (own_rb p)) (own_rc p)).2.2.1 (own_H (own_H s (own_rb p)) (own_rc p)).2.2.2.1 (own_H (own_H s (own_rb p)) (own_rc p)).2.2.2.2 (own_ix (own_H (own_H s (own_rb p)) (own_rc p)) (own_ra p))).2.2.2.1 (own_rel (own_H (own_H s (own_rb p)) (own_rc p)).1 (own_H (own_H s (own_rb p)) (own_rc p)).2.1 (own_H (own_H s (own_rb p)) (own_rc p)).2.2.1 (own_H (own_H s (own_rb p)) (own_rc p)).2.2.2.1 (own_H (own_H s (own_rb p)) (own_rc p)).2.2.2.2 (own_ix (own_H (own_H s (own_rb p)) (own_rc p)) (own_ra p))).2.2.2.2 h383 I t396 t397 t398 t399 t400 t401 t402 t403 hN4 g25 g26 g27 g28 g29 ok412.1 ok412.2.1 ok412.2.2.1 ok412.2.2.2.1 ok412.2.2.2.2.1 ok412.2.2.2.2.2.1 ok412.2.2.2.2.2.2 rfl) t396 (w38 hw) (w39 hw) (w41 hw) (w41 hw) (w40 hw) (w2 hw) (w42 hw) (by decide) (Nat.le_refl _) id (Nat.le_of_ble_eq_true rfl) (Nat.le_of_ble_eq_true rfl) rfl rfl (Nat.le_of_ble_eq_true rfl) (Nat.le_of_ble_eq_true rfl) rfl pd5 rfl rfl rfl (Nat.le_of_ble_eq_true rfl) at_240 rfl fun v413 h414 J415 hs416 hQ417 => ?_
                    obtain ⟨rfl, rfl, K418, g419, g420, g421, g422, g423, g424, g425⟩ := hQ417
                    show Wk _ h414 3 21 I 243 #[.val (.long p1), .second, .val (.long p2), .second, .val (.long p3), .second, .val (.int p4), .val (.ref a1), .val (.long (φ (own_ra p))), .second, .val (.long (φ (own_rc p))), .second, .val (.long (φ (own_rb p))), .second, .val (.int (own_bi d1)), .val (.int (1 : Int32)), .val (.int (own_bi d3)), .val (.int (own_bi d4)), .val (.int (0 : Int32)), .val (.int (own_bi d6)), .unset, .unset] []
                    have f426 := (t396.keep K418)
                    have t427 : Exa Z h414 a1 "com/example/interlock/interlock/Snapshots" := f426
                    have t428 : Fld Z h414 a1 "com/example/interlock/interlock/Snapshots" "snapshots" "[J" (.ref b118) := g419
                    have t429 : Fld Z h414 a1 "com/example/interlock/interlock/Snapshots" "holders" "[I" (.ref b219) := g420
                    have t430 : Fld Z h414 a1 "com/example/interlock/interlock/Snapshots" "first" "I" (.int (Int32.ofNat (own_R (own_H (own_H s (own_rb p)) (own_rc p)) (own_ra p)).2.2.1)) := g421
                    have t431 : Fld Z h414 a1 "com/example/interlock/interlock/Snapshots" "end" "I" (.int (Int32.ofNat (own_R (own_H (own_H s (own_rb p)) (own_rc p)) (own_ra p)).2.2.2.1)) := g422
                    have t432 : Fld Z h414 a1 "com/example/interlock/interlock/Snapshots" "unheld" "I" (.int (own_R (own_H (own_H s (own_rb p)) (own_rc p)) (own_ra p)).2.2.2.2) := g423
                    have t433 : Arv Z h414 b118 q120 .long (8 : Int32) ((own_R (own_H (own_H s (own_rb p)) (own_rc p)) (own_ra p)).1.map (fun r => Value.long (φ r))) (.long (0 : Int64)) := g424
                    have t434 : Arv Z h414 b219 q221 .int (8 : Int32) ((own_R (own_H (own_H s (own_rb p)) (own_rc p)) (own_ra p)).2.1.map Value.int) (.int (0 : Int32)) := g425
                    exact J243 (own_R (own_H (own_H s (own_rb p)) (own_rc p)) (own_ra p)) h414 t427 t428 t429 t430 t431 t432 t433 t434 (by rw [hs]; rfl) (((((Keep.refl h0 []).trans K357 all0).trans K364 (allS (Or.inr hg3) (allS (Or.inr fr95) (allS (Or.inr fr96) all0)))).trans K387 (allS (Or.inr hg3) (allS (Or.inr fr95) (allS (Or.inr fr96) all0)))).trans K418 (allS (Or.inr hg3) (allS (Or.inr fr95) (allS (Or.inr fr96) all0))))
                | true =>
                  show Wk _ h383 3 21 I 189 #[.val (.long p1), .second, .val (.long p2), .second, .val (.long p3), .second, .val (.int p4), .val (.ref a1), .val (.long (φ (own_ra p))), .second, .val (.long (φ (own_rc p))), .second, .val (.long (φ (own_rb p))), .second, .val (.int (own_bi d1)), .val (.int (own_bi d2)), .val (.int (own_bi d3)), .val (.int (own_bi d4)), .val (.int (1 : Int32)), .val (.int (own_bi d6)), .unset, .unset] [(.int (1 : Int32))]
                  refine Wk.if_eqN (pc' := 192) at_189 rfl (by decide) ?_
                  refine Wk.iload (pc' := 194) at_192 rfl rfl ?_
                  cases d4 with
                  | false =>
                    show Wk _ h383 3 21 I 194 #[.val (.long p1), .second, .val (.long p2), .second, .val (.long p3), .second, .val (.int p4), .val (.ref a1), .val (.long (φ (own_ra p))), .second, .val (.long (φ (own_rc p))), .second, .val (.long (φ (own_rb p))), .second, .val (.int (own_bi d1)), .val (.int (own_bi d2)), .val (.int (own_bi d3)), .val (.int (0 : Int32)), .val (.int (1 : Int32)), .val (.int (own_bi d6)), .unset, .unset] [(.int (0 : Int32))]
                    refine Wk.if_eqY (pc' := 204) at_194 (by decide) rfl ?_
                    have t435 : Exa Z h383 a1 "com/example/interlock/interlock/Snapshots" := t396
                    have t436 : Fld Z h383 a1 "com/example/interlock/interlock/Snapshots" "snapshots" "[J" (.ref b118) := t397
                    have t437 : Fld Z h383 a1 "com/example/interlock/interlock/Snapshots" "holders" "[I" (.ref b219) := t398
                    have t438 : Fld Z h383 a1 "com/example/interlock/interlock/Snapshots" "first" "I" (.int (Int32.ofNat (own_H (own_H s (own_rb p)) (own_rc p)).2.2.1)) := t399
                    have t439 : Fld Z h383 a1 "com/example/interlock/interlock/Snapshots" "end" "I" (.int (Int32.ofNat (own_H (own_H s (own_rb p)) (own_rc p)).2.2.2.1)) := t400
                    have t440 : Fld Z h383 a1 "com/example/interlock/interlock/Snapshots" "unheld" "I" (.int (own_H (own_H s (own_rb p)) (own_rc p)).2.2.2.2) := t401
                    have t441 : Arv Z h383 b118 q120 .long (8 : Int32) ((own_H (own_H s (own_rb p)) (own_rc p)).1.map (fun r => Value.long (φ r))) (.long (0 : Int64)) := t402
                    have t442 : Arv Z h383 b219 q221 .int (8 : Int32) ((own_H (own_H s (own_rb p)) (own_rc p)).2.1.map Value.int) (.int (0 : Int32)) := t403
                    exact J204 (own_H (own_H s (own_rb p)) (own_rc p)) h383 t435 t436 t437 t438 t439 t440 t441 t442 (by rw [hs]; rfl) ((((Keep.refl h0 []).trans K357 all0).trans K364 (allS (Or.inr hg3) (allS (Or.inr fr95) (allS (Or.inr fr96) all0)))).trans K387 (allS (Or.inr hg3) (allS (Or.inr fr95) (allS (Or.inr fr96) all0))))
                  | true =>
                    show Wk _ h383 3 21 I 194 #[.val (.long p1), .second, .val (.long p2), .second, .val (.long p3), .second, .val (.int p4), .val (.ref a1), .val (.long (φ (own_ra p))), .second, .val (.long (φ (own_rc p))), .second, .val (.long (φ (own_rb p))), .second, .val (.int (own_bi d1)), .val (.int (own_bi d2)), .val (.int (own_bi d3)), .val (.int (1 : Int32)), .val (.int (1 : Int32)), .val (.int (own_bi d6)), .unset, .unset] [(.int (1 : Int32))]
                    refine Wk.if_eqN (pc' := 197) at_194 rfl (by decide) ?_
                    refine Wk.aload (pc' := 199) at_197 rfl rfl rfl ?_
                    refine Wk.lload (pc' := 201) at_199 rfl rfl ?_
                    have ok443 := own_rok_e (φ := φ) (s := (own_H (own_H s (own_rb p)) (own_rc p))) (r := (own_rc p)) (by rw [hs]; exact own_lA p d1) ho
                    refine Wk.callV (a0 := a0) (pc' := 204) (k' := 3) (n' := 21) (W := 0) (b := b_rel) (argsL := [(.long (φ (own_rc p)))]) (rest := []) (y := (⟨"com/example/interlock/interlock/Snapshots", "release", "(J)V"⟩ : MethodName)) (rm_rel hw a1 b118 b219 q120 q221 φ (own_H (own_H s (own_rb p)) (own_rc p)).1 (own_H (own_H s (own_rb p)) (own_rc p)).2.1 (own_H (own_H s (own_rb p)) (own_rc p)).2.2.1 (own_H (own_H s (own_rb p)) (own_rc p)).2.2.2.1 (own_H (own_H s (own_rb p)) (own_rc p)).2.2.2.2 (own_rc p) (own_ix (own_H (own_H s (own_rb p)) (own_rc p)) (own_rc p)) (own_rel (own_H (own_H s (own_rb p)) (own_rc p)).1 (own_H (own_H s (own_rb p)) (own_rc p)).2.1 (own_H (own_H s (own_rb p)) (own_rc p)).2.2.1 (own_H (own_H s (own_rb p)) (own_rc p)).2.2.2.1 (own_H (own_H s (own_rb p)) (own_rc p)).2.2.2.2 (own_ix (own_H (own_H s (own_rb p)) (own_rc p)) (own_rc p))).1 (own_rel (own_H (own_H s (own_rb p)) (own_rc p)).1 (own_H (own_H s (own_rb p)) (own_rc p)).2.1 (own_H (own_H s (own_rb p)) (own_rc p)).2.2.1 (own_H (own_H s (own_rb p)) (own_rc p)).2.2.2.1 (own_H (own_H s (own_rb p)) (own_rc p)).2.2.2.2 (own_ix (own_H (own_H s (own_rb p)) (own_rc p)) (own_rc p))).2.1 (own_rel (own_H (own_H s (own_rb p)) (own_rc p)).1 (own_H (own_H s (own_rb p)) (own_rc p)).2.1 (own_H (own_H s (own_rb p)) (own_rc p)).2.2.1 (own_H (own_H s (own_rb p)) (own_rc p)).2.2.2.1 (own_H (own_H s (own_rb p)) (own_rc p)).2.2.2.2 (own_ix (own_H (own_H s (own_rb p)) (own_rc p)) (own_rc p))).2.2.1 (own_rel (own_H (own_H s (own_rb p)) (own_rc p)).1 (own_H (own_H s (own_rb p)) (own_rc p)).2.1 (own_H (own_H s (own_rb p)) (own_rc p)).2.2.1 (own_H (own_H s (own_rb p)) (own_rc p)).2.2.2.1 (own_H (own_H s (own_rb p)) (own_rc p)).2.2.2.2 (own_ix (own_H (own_H s (own_rb p)) (own_rc p)) (own_rc p))).2.2.2.1 (own_rel (own_H (own_H s (own_rb p)) (own_rc p)).1 (own_H (own_H s (own_rb p)) (own_rc p)).2.1 (own_H (own_H s (own_rb p)) (own_rc p)).2.2.1 (own_H (own_H s (own_rb p)) (own_rc p)).2.2.2.1 (own_H (own_H s (own_rb p)) (own_rc p)).2.2.2.2 (own_ix (own_H (own_H s (own_rb p)) (own_rc p)) (own_rc p))).2.2.2.2 h383 I t396 t397 t398 t399 t400 t401 t402 t403 hN4 g25 g26 g27 g28 g29 ok443.1 ok443.2.1 ok443.2.2.1 ok443.2.2.2.1 ok443.2.2.2.2.1 ok443.2.2.2.2.2.1 ok443.2.2.2.2.2.2 rfl) t396 (w38 hw) (w39 hw) (w41 hw) (w41 hw) (w40 hw) (w2 hw) (w42 hw) (by decide) (Nat.le_refl _) id (Nat.le_of_ble_eq_true rfl) (Nat.le_of_ble_eq_true rfl) rfl rfl (Nat.le_of_ble_eq_true rfl) (Nat.le_of_ble_eq_true rfl) rfl pd5 rfl rfl rfl (Nat.le_of_ble_eq_true rfl) at_201 rfl fun v444 h445 J446 hs447 hQ448 => ?_
                    obtain ⟨rfl, rfl, K449, g450, g451, g452, g453, g454, g455, g456⟩ := hQ448
                    show Wk _ h445 3 21 I 204 #[.val (.long p1), .second, .val (.long p2), .second, .val (.long p3), .second, .val (.int p4), .val (.ref a1), .val (.long (φ (own_ra p))), .second, .val (.long (φ (own_rc p))), .second, .val (.long (φ (own_rb p))), .second, .val (.int (own_bi d1)), .val (.int (own_bi d2)), .val (.int (own_bi d3)), .val (.int (1 : Int32)), .val (.int (1 : Int32)), .val (.int (own_bi d6)), .unset, .unset] []
                    have f457 := (t396.keep K449)
                    have t458 : Exa Z h445 a1 "com/example/interlock/interlock/Snapshots" := f457
                    have t459 : Fld Z h445 a1 "com/example/interlock/interlock/Snapshots" "snapshots" "[J" (.ref b118) := g450
                    have t460 : Fld Z h445 a1 "com/example/interlock/interlock/Snapshots" "holders" "[I" (.ref b219) := g451
                    have t461 : Fld Z h445 a1 "com/example/interlock/interlock/Snapshots" "first" "I" (.int (Int32.ofNat (own_R (own_H (own_H s (own_rb p)) (own_rc p)) (own_rc p)).2.2.1)) := g452
                    have t462 : Fld Z h445 a1 "com/example/interlock/interlock/Snapshots" "end" "I" (.int (Int32.ofNat (own_R (own_H (own_H s (own_rb p)) (own_rc p)) (own_rc p)).2.2.2.1)) := g453
                    have t463 : Fld Z h445 a1 "com/example/interlock/interlock/Snapshots" "unheld" "I" (.int (own_R (own_H (own_H s (own_rb p)) (own_rc p)) (own_rc p)).2.2.2.2) := g454
                    have t464 : Arv Z h445 b118 q120 .long (8 : Int32) ((own_R (own_H (own_H s (own_rb p)) (own_rc p)) (own_rc p)).1.map (fun r => Value.long (φ r))) (.long (0 : Int64)) := g455
                    have t465 : Arv Z h445 b219 q221 .int (8 : Int32) ((own_R (own_H (own_H s (own_rb p)) (own_rc p)) (own_rc p)).2.1.map Value.int) (.int (0 : Int32)) := g456
                    exact J204 (own_R (own_H (own_H s (own_rb p)) (own_rc p)) (own_rc p)) h445 t458 t459 t460 t461 t462 t463 t464 t465 (by rw [hs]; rfl) (((((Keep.refl h0 []).trans K357 all0).trans K364 (allS (Or.inr hg3) (allS (Or.inr fr95) (allS (Or.inr fr96) all0)))).trans K387 (allS (Or.inr hg3) (allS (Or.inr fr95) (allS (Or.inr fr96) all0)))).trans K449 (allS (Or.inr hg3) (allS (Or.inr fr95) (allS (Or.inr fr96) all0))))
              refine Wk.aload (pc' := 156) at_154 rfl rfl rfl ?_
              refine Wk.lload (pc' := 158) at_156 rfl rfl ?_
              have ok466 := own_hok_e (φ := φ) (s := own_s0) (r := (own_ra p)) (own_k1 p) ho
              refine Wk.callV (a0 := a0) (pc' := 161) (k' := 3) (n' := 21) (W := 0) (b := b_hold) (argsL := [(.long (φ (own_ra p)))]) (rest := []) (y := (⟨"com/example/interlock/interlock/Snapshots", "hold", "(J)V"⟩ : MethodName)) (rm_hold hw a1 b118 b219 q120 q221 φ own_s0.1 own_s0.2.1 own_s0.2.2.1 own_s0.2.2.2.1 own_s0.2.2.2.2 (own_ra p) (own_hold own_s0.1 own_s0.2.1 own_s0.2.2.1 own_s0.2.2.2.1 own_s0.2.2.2.2 (own_ra p)).1 (own_hold own_s0.1 own_s0.2.1 own_s0.2.2.1 own_s0.2.2.2.1 own_s0.2.2.2.2 (own_ra p)).2.1 (own_hold own_s0.1 own_s0.2.1 own_s0.2.2.1 own_s0.2.2.2.1 own_s0.2.2.2.2 (own_ra p)).2.2.1 (own_hold own_s0.1 own_s0.2.1 own_s0.2.2.1 own_s0.2.2.2.1 own_s0.2.2.2.2 (own_ra p)).2.2.2 h14 I t87 t88 t89 t90 t91 t92 t93 t94 hN4 g25 g26 g27 g28 g29 ok466.1 ok466.2.1 ok466.2.2.1 ok466.2.2.2.1 ok466.2.2.2.2.1 ok466.2.2.2.2.2 rfl) t87 (w33 hw) (w34 hw) (w36 hw) (w36 hw) (w35 hw) (w2 hw) (w37 hw) (by decide) (Nat.le_refl _) id (Nat.le_of_ble_eq_true rfl) (Nat.le_of_ble_eq_true rfl) rfl rfl (Nat.le_of_ble_eq_true rfl) (Nat.le_of_ble_eq_true rfl) rfl pd5 rfl rfl rfl (Nat.le_of_ble_eq_true rfl) at_158 rfl fun v467 h468 J469 hs470 hQ471 => ?_
              obtain ⟨rfl, rfl, K472, g473, g474, g475, g476, g477, g478, g479⟩ := hQ471
              show Wk _ h468 3 21 I 161 #[.val (.long p1), .second, .val (.long p2), .second, .val (.long p3), .second, .val (.int p4), .val (.ref a1), .val (.long (φ (own_ra p))), .second, .val (.long (φ (own_rc p))), .second, .val (.long (φ (own_rb p))), .second, .val (.int (own_bi d1)), .val (.int (own_bi d2)), .val (.int (own_bi d3)), .val (.int (own_bi d4)), .val (.int (own_bi d5)), .val (.int (own_bi d6)), .unset, .unset] []
              have f480 := (t87.keep K472)
              have t481 : Exa Z h468 a1 "com/example/interlock/interlock/Snapshots" := f480
              have t482 : Fld Z h468 a1 "com/example/interlock/interlock/Snapshots" "snapshots" "[J" (.ref b118) := g473
              have t483 : Fld Z h468 a1 "com/example/interlock/interlock/Snapshots" "holders" "[I" (.ref b219) := g474
              have t484 : Fld Z h468 a1 "com/example/interlock/interlock/Snapshots" "first" "I" (.int (Int32.ofNat (own_s1 p).2.2.1)) := g475
              have t485 : Fld Z h468 a1 "com/example/interlock/interlock/Snapshots" "end" "I" (.int (Int32.ofNat (own_s1 p).2.2.2.1)) := g476
              have t486 : Fld Z h468 a1 "com/example/interlock/interlock/Snapshots" "unheld" "I" (.int (own_s1 p).2.2.2.2) := g477
              have t487 : Arv Z h468 b118 q120 .long (8 : Int32) ((own_s1 p).1.map (fun r => Value.long (φ r))) (.long (0 : Int64)) := g478
              have t488 : Arv Z h468 b219 q221 .int (8 : Int32) ((own_s1 p).2.1.map Value.int) (.int (0 : Int32)) := g479
              refine Wk.iload (pc' := 163) at_161 rfl rfl ?_
              cases d1 with
              | false =>
                show Wk _ h468 3 21 I 163 #[.val (.long p1), .second, .val (.long p2), .second, .val (.long p3), .second, .val (.int p4), .val (.ref a1), .val (.long (φ (own_ra p))), .second, .val (.long (φ (own_rc p))), .second, .val (.long (φ (own_rb p))), .second, .val (.int (0 : Int32)), .val (.int (own_bi d2)), .val (.int (own_bi d3)), .val (.int (own_bi d4)), .val (.int (own_bi d5)), .val (.int (own_bi d6)), .unset, .unset] [(.int (0 : Int32))]
                refine Wk.if_eqY (pc' := 173) at_163 (by decide) rfl ?_
                have t489 : Exa Z h468 a1 "com/example/interlock/interlock/Snapshots" := t481
                have t490 : Fld Z h468 a1 "com/example/interlock/interlock/Snapshots" "snapshots" "[J" (.ref b118) := t482
                have t491 : Fld Z h468 a1 "com/example/interlock/interlock/Snapshots" "holders" "[I" (.ref b219) := t483
                have t492 : Fld Z h468 a1 "com/example/interlock/interlock/Snapshots" "first" "I" (.int (Int32.ofNat (own_s1 p).2.2.1)) := t484
                have t493 : Fld Z h468 a1 "com/example/interlock/interlock/Snapshots" "end" "I" (.int (Int32.ofNat (own_s1 p).2.2.2.1)) := t485
                have t494 : Fld Z h468 a1 "com/example/interlock/interlock/Snapshots" "unheld" "I" (.int (own_s1 p).2.2.2.2) := t486
                have t495 : Arv Z h468 b118 q120 .long (8 : Int32) ((own_s1 p).1.map (fun r => Value.long (φ r))) (.long (0 : Int64)) := t487
                have t496 : Arv Z h468 b219 q221 .int (8 : Int32) ((own_s1 p).2.1.map Value.int) (.int (0 : Int32)) := t488
                exact J173 (own_s1 p) h468 t489 t490 t491 t492 t493 t494 t495 t496 rfl ((((Keep.refl h0 []).ext E5).trans K22 (allS (Or.inr hg3) all0)).trans K472 (allS (Or.inr hg3) (allS (Or.inr fr95) (allS (Or.inr fr96) all0))))
              | true =>
                show Wk _ h468 3 21 I 163 #[.val (.long p1), .second, .val (.long p2), .second, .val (.long p3), .second, .val (.int p4), .val (.ref a1), .val (.long (φ (own_ra p))), .second, .val (.long (φ (own_rc p))), .second, .val (.long (φ (own_rb p))), .second, .val (.int (1 : Int32)), .val (.int (own_bi d2)), .val (.int (own_bi d3)), .val (.int (own_bi d4)), .val (.int (own_bi d5)), .val (.int (own_bi d6)), .unset, .unset] [(.int (1 : Int32))]
                refine Wk.if_eqN (pc' := 166) at_163 rfl (by decide) ?_
                refine Wk.aload (pc' := 168) at_166 rfl rfl rfl ?_
                refine Wk.lload (pc' := 170) at_168 rfl rfl ?_
                have ok497 := own_hok_e (φ := φ) (s := (own_s1 p)) (r := (own_ra p)) (own_k2 p) ho
                refine Wk.callV (a0 := a0) (pc' := 173) (k' := 3) (n' := 21) (W := 0) (b := b_hold) (argsL := [(.long (φ (own_ra p)))]) (rest := []) (y := (⟨"com/example/interlock/interlock/Snapshots", "hold", "(J)V"⟩ : MethodName)) (rm_hold hw a1 b118 b219 q120 q221 φ (own_s1 p).1 (own_s1 p).2.1 (own_s1 p).2.2.1 (own_s1 p).2.2.2.1 (own_s1 p).2.2.2.2 (own_ra p) (own_hold (own_s1 p).1 (own_s1 p).2.1 (own_s1 p).2.2.1 (own_s1 p).2.2.2.1 (own_s1 p).2.2.2.2 (own_ra p)).1 (own_hold (own_s1 p).1 (own_s1 p).2.1 (own_s1 p).2.2.1 (own_s1 p).2.2.2.1 (own_s1 p).2.2.2.2 (own_ra p)).2.1 (own_hold (own_s1 p).1 (own_s1 p).2.1 (own_s1 p).2.2.1 (own_s1 p).2.2.2.1 (own_s1 p).2.2.2.2 (own_ra p)).2.2.1 (own_hold (own_s1 p).1 (own_s1 p).2.1 (own_s1 p).2.2.1 (own_s1 p).2.2.2.1 (own_s1 p).2.2.2.2 (own_ra p)).2.2.2 h468 I t481 t482 t483 t484 t485 t486 t487 t488 hN4 g25 g26 g27 g28 g29 ok497.1 ok497.2.1 ok497.2.2.1 ok497.2.2.2.1 ok497.2.2.2.2.1 ok497.2.2.2.2.2 rfl) t481 (w33 hw) (w34 hw) (w36 hw) (w36 hw) (w35 hw) (w2 hw) (w37 hw) (by decide) (Nat.le_refl _) id (Nat.le_of_ble_eq_true rfl) (Nat.le_of_ble_eq_true rfl) rfl rfl (Nat.le_of_ble_eq_true rfl) (Nat.le_of_ble_eq_true rfl) rfl pd5 rfl rfl rfl (Nat.le_of_ble_eq_true rfl) at_170 rfl fun v498 h499 J500 hs501 hQ502 => ?_
                obtain ⟨rfl, rfl, K503, g504, g505, g506, g507, g508, g509, g510⟩ := hQ502
                show Wk _ h499 3 21 I 173 #[.val (.long p1), .second, .val (.long p2), .second, .val (.long p3), .second, .val (.int p4), .val (.ref a1), .val (.long (φ (own_ra p))), .second, .val (.long (φ (own_rc p))), .second, .val (.long (φ (own_rb p))), .second, .val (.int (1 : Int32)), .val (.int (own_bi d2)), .val (.int (own_bi d3)), .val (.int (own_bi d4)), .val (.int (own_bi d5)), .val (.int (own_bi d6)), .unset, .unset] []
                have f511 := (t481.keep K503)
                have t512 : Exa Z h499 a1 "com/example/interlock/interlock/Snapshots" := f511
                have t513 : Fld Z h499 a1 "com/example/interlock/interlock/Snapshots" "snapshots" "[J" (.ref b118) := g504
                have t514 : Fld Z h499 a1 "com/example/interlock/interlock/Snapshots" "holders" "[I" (.ref b219) := g505
                have t515 : Fld Z h499 a1 "com/example/interlock/interlock/Snapshots" "first" "I" (.int (Int32.ofNat (own_H (own_s1 p) (own_ra p)).2.2.1)) := g506
                have t516 : Fld Z h499 a1 "com/example/interlock/interlock/Snapshots" "end" "I" (.int (Int32.ofNat (own_H (own_s1 p) (own_ra p)).2.2.2.1)) := g507
                have t517 : Fld Z h499 a1 "com/example/interlock/interlock/Snapshots" "unheld" "I" (.int (own_H (own_s1 p) (own_ra p)).2.2.2.2) := g508
                have t518 : Arv Z h499 b118 q120 .long (8 : Int32) ((own_H (own_s1 p) (own_ra p)).1.map (fun r => Value.long (φ r))) (.long (0 : Int64)) := g509
                have t519 : Arv Z h499 b219 q221 .int (8 : Int32) ((own_H (own_s1 p) (own_ra p)).2.1.map Value.int) (.int (0 : Int32)) := g510
                exact J173 (own_H (own_s1 p) (own_ra p)) h499 t512 t513 t514 t515 t516 t517 t518 t519 rfl (((((Keep.refl h0 []).ext E5).trans K22 (allS (Or.inr hg3) all0)).trans K472 (allS (Or.inr hg3) (allS (Or.inr fr95) (allS (Or.inr fr96) all0)))).trans K503 (allS (Or.inr hg3) (allS (Or.inr fr95) (allS (Or.inr fr96) all0))))
            refine Wk.iload (pc' := 141) at_139 rfl rfl ?_
            refine Wk.bipush (pc' := 143) (v := 32) at_141 rfl rfl ?_
            refine Wk.iand (pc' := 144) at_143 rfl ?_
            by_cases c144_520 : (p4 &&& (32 : Int32)) = (0 : Int32)
            · refine Wk.if_eqY (pc' := 151) at_144 (by decide) c144_520 ?_
              refine Wk.iconst (pc' := 152) (v := 0) at_151 rfl rfl ?_
              exact J152 false
            · refine Wk.if_eqN (pc' := 147) at_144 rfl c144_520 ?_
              refine Wk.iconst (pc' := 148) (v := 1) at_147 rfl rfl ?_
              refine Wk.goto (pc' := 152) at_148 (by decide) ?_
              exact J152 true
          refine Wk.iload (pc' := 126) at_124 rfl rfl ?_
          refine Wk.bipush (pc' := 128) (v := 16) at_126 rfl rfl ?_
          refine Wk.iand (pc' := 129) at_128 rfl ?_
          by_cases c129_521 : (p4 &&& (16 : Int32)) = (0 : Int32)
          · refine Wk.if_eqY (pc' := 136) at_129 (by decide) c129_521 ?_
            refine Wk.iconst (pc' := 137) (v := 0) at_136 rfl rfl ?_
            exact J137 false
          · refine Wk.if_eqN (pc' := 132) at_129 rfl c129_521 ?_
            refine Wk.iconst (pc' := 133) (v := 1) at_132 rfl rfl ?_
            refine Wk.goto (pc' := 137) at_133 (by decide) ?_
            exact J137 true
        refine Wk.iload (pc' := 111) at_109 rfl rfl ?_
        refine Wk.bipush (pc' := 113) (v := 8) at_111 rfl rfl ?_
        refine Wk.iand (pc' := 114) at_113 rfl ?_
        by_cases c114_522 : (p4 &&& (8 : Int32)) = (0 : Int32)
        · refine Wk.if_eqY (pc' := 121) at_114 (by decide) c114_522 ?_
          refine Wk.iconst (pc' := 122) (v := 0) at_121 rfl rfl ?_
          exact J122 false
        · refine Wk.if_eqN (pc' := 117) at_114 rfl c114_522 ?_
          refine Wk.iconst (pc' := 118) (v := 1) at_117 rfl rfl ?_
          refine Wk.goto (pc' := 122) at_118 (by decide) ?_
          exact J122 true
      refine Wk.iload (pc' := 97) at_95 rfl rfl ?_
      refine Wk.iconst (pc' := 98) (v := 4) at_97 rfl rfl ?_
      refine Wk.iand (pc' := 99) at_98 rfl ?_
      by_cases c99_523 : (p4 &&& (4 : Int32)) = (0 : Int32)
      · refine Wk.if_eqY (pc' := 106) at_99 (by decide) c99_523 ?_
        refine Wk.iconst (pc' := 107) (v := 0) at_106 rfl rfl ?_
        exact J107 false
      · refine Wk.if_eqN (pc' := 102) at_99 rfl c99_523 ?_
        refine Wk.iconst (pc' := 103) (v := 1) at_102 rfl rfl ?_
        refine Wk.goto (pc' := 107) at_103 (by decide) ?_
        exact J107 true
    refine Wk.iload (pc' := 83) at_81 rfl rfl ?_
    refine Wk.iconst (pc' := 84) (v := 2) at_83 rfl rfl ?_
    refine Wk.iand (pc' := 85) at_84 rfl ?_
    by_cases c85_524 : (p4 &&& (2 : Int32)) = (0 : Int32)
    · refine Wk.if_eqY (pc' := 92) at_85 (by decide) c85_524 ?_
      refine Wk.iconst (pc' := 93) (v := 0) at_92 rfl rfl ?_
      exact J93 false
    · refine Wk.if_eqN (pc' := 88) at_85 rfl c85_524 ?_
      refine Wk.iconst (pc' := 89) (v := 1) at_88 rfl rfl ?_
      refine Wk.goto (pc' := 93) at_89 (by decide) ?_
      exact J93 true
  refine Wk.iload (pc' := 69) at_67 rfl rfl ?_
  refine Wk.iconst (pc' := 70) (v := 1) at_69 rfl rfl ?_
  refine Wk.iand (pc' := 71) at_70 rfl ?_
  by_cases c71_525 : (p4 &&& (1 : Int32)) = (0 : Int32)
  · refine Wk.if_eqY (pc' := 78) at_71 (by decide) c71_525 ?_
    refine Wk.iconst (pc' := 79) (v := 0) at_78 rfl rfl ?_
    exact J79 false
  · refine Wk.if_eqN (pc' := 74) at_71 rfl c71_525 ?_
    refine Wk.iconst (pc' := 75) (v := 1) at_74 rfl rfl ?_
    refine Wk.goto (pc' := 79) at_75 (by decide) ?_
    exact J79 true
set_option maxRecDepth 65536 in
set_option maxHeartbeats 40000000 in
theorem comes_1 {Post : Tables → Env → Array Value → State → Outcome → State → Prop} (hpost : ∀ tb e args s v u, (limb_1_1.after args s (.returned v) u = true ∧ limb_1_2.after args s (.returned v) u = true ∧ True) → FrameEnd s (.returned v) u (Jvm.fieldLocs frame_1_writes args s ++ Jvm.arrayLocs frame_1_arrays args s ++ Jvm.staticLocs frame_1_statics s) 16 128 → Post tb e args s (.returned v) u) :
    ArmFor flags0 classFile x code maxLocals ret World_1 tables_1 room_1 Calls_1 rest_1 Pre_1 Post := by
  intro l hfl _ _ p e ha hc hk s m args below hf hA hF happ hP
  obtain ⟨hcalls, hrest, hpre⟩ := hP
  obtain ⟨-, -, -, hnamed, -, -, -, hat⟩ := (Spec.applies_iff hf).mp happ
  obtain ⟨hg, hn⟩ := and_e (Cond.before_iff.mp (show (Jvm.Cond.and given_1 narrow_1).before args s = true from hpre))
  obtain ⟨g1, g2⟩ := and_e hg
  obtain ⟨g3, g4⟩ := and_e g2
  obtain ⟨g5, g6⟩ := and_e g4
  obtain ⟨g7, g8⟩ := and_e g6
  obtain ⟨a_0, a_1, a_2, a_3, rfl⟩ : ∃ a_0 a_1 a_2 a_3 : Value, args = #[a_0, a_1, a_2, a_3] := by
    have hs : args.size = 4 := by simpa [Cond.value, given_1] using g1
    obtain ⟨L⟩ := args
    match L, hs with
    | [a_0, a_1, a_2, a_3], _ => exact ⟨a_0, a_1, a_2, a_3, rfl⟩
  have hw := fun d (hd : d ∈ tables_1) => atoms_spec (ws := Jvm.Cond.code x code maxLocals ret :: tables_1) hat d (List.mem_cons_of_mem _ hd)
  have hfit : Fit s := fun {y c} hc i hi => by
    obtain ⟨ha, rfl⟩ := Array.getElem?_eq_some_iff.mp hc
    have q := List.all_eq_true.mp ((Array.all_eq_true_iff_forall_mem.mp hF) _ (Array.getElem_mem ha)) i (List.mem_range.mpr hi)
    simpa [Array.getElem?_eq_getElem hi] using q
  obtain ⟨i0, ei0⟩ := isL_v g3
  obtain rfl : a_0 = (.long i0) := Option.some.inj ei0
  obtain ⟨i1, ei1⟩ := isL_v g5
  obtain rfl : a_1 = (.long i1) := Option.some.inj ei1
  obtain ⟨i2, ei2⟩ := isL_v g7
  obtain rfl : a_2 = (.long i2) := Option.some.inj ei2
  obtain ⟨i3, ei3⟩ := is_v g8
  obtain rfl : a_3 = (.int i3) := Option.some.inj ei3
  obtain ⟨n, o, h1, h2, h3, v, L, J, rfl, hQ, hV, N, hE, hq⟩ := rm_law (l := l) (Z := s) hw i0 i1 i2 i3 s.heap none  tables_1 p e ha hc hk s m _ below hf ((Spec.applies_iff_loose hf).mp happ).1 ⟨rfl, State.Warmed39.refl s, rfl, State.WarmedH.refl s, ⟨Nat.le_refl _, fun _ _ h => h⟩, Nat.le_refl _, Nat.le_refl _⟩ trivial
  obtain ⟨rfl, rfl⟩ := hQ
  refine ⟨n, _, h1, h2, h3, hpost _ _ _ _ _ _ ⟨Cond.after_iff.mpr rfl, Cond.after_iff.mpr (eq_i res_at (Term.int_eval (1)) rfl), trivial⟩ ⟨⟨_, rfl⟩, hV, (hq.2.2.2.sift fun y hy => Or.inr (N y hy)).mono (Nat.le_of_ble_eq_true rfl) (Nat.le_of_ble_eq_true rfl)⟩⟩
theorem main_1_1 : Claimed_1_1 := comes_1 fun _ _ _ _ _ _ h hF => ⟨h.1, hF⟩
theorem main_1_2 : Claimed_1_2 := comes_1 fun _ _ _ _ _ _ h hF => ⟨h.2.1, hF⟩
end Jvm.Pilot.@@N@@
namespace Jvm.Pilot.@@N@@
open Jvm Jvm.ClassFile Sem Op Lib Jvm.Free Jvm.Stand Jvm.Pilot.@@N@@.Jvm.D
/-! MADE BY PROGRAM (witnessworld.py) out of the Statement's table words and the real class files: 13 classes; the members and pool entries that the words name. The judged class is class 1, her method 1. -/
namespace start1
open Jvm.ClassFile
def u (s : String) : CpInfo := .utf8 (stringToUtf16 s)
/-- a pool by its gaps: so many unusable entries, then the entry; so many at the end -/
def gap : Nat → List CpInfo → List CpInfo
  | 0, r => r
  | n + 1, r => .unusable :: gap n r
def poolList (es : List (Nat × CpInfo)) (last : Nat) : List CpInfo := es.foldr (fun e r => gap e.1 (e.2 :: r)) (gap last [])
def pool (es : List (Nat × CpInfo)) (last : Nat) : Array CpInfo := ⟨poolList es last⟩
def fileOf (pool : Array CpInfo) (this : Nat) (attrs : Array Attribute := #[]) (ms : Array MethodInfo := #[]) (fl : Nat := 33) (sup : Nat := 0) (ifs : Array Nat := #[]) (fds : Array FieldInfo := #[]) : ClassFile where
  minorVersion := 0
  majorVersion := 65
  constantPool := pool
  accessFlags := fl
  thisClass := this
  superClass := sup
  interfaces := ifs
  fields := fds
  methods := ms
  attributes := attrs
def plain (name : String) (sup : Option ClassId) : Class where
  name := name
  kind := .ordinary
  loader := none
  accessFlags := 33
  super := sup
  interfaces := #[]
  cf := none
  fields := #[]
  methods := #[]
  instanceTypes := #[]
  staticTypes := #[]
  resolved := #[]
  callSites := []
  init := .initialized
  statics := none
  mirror := none

def pool0 : Array CpInfo := pool [(5, u "<init>"), (0, u "()V"), (1, .class_ 10), (1, u "java/lang/Object")] 113

def k0c0 : Code := { maxStack := 0, maxLocals := 1, code := object_method_1_code, exceptionTable := #[], attributes := #[] }
def k0m0 : Method := { name := "<init>", desc := "()V", sig := { parameters := [], returnType := none }, accessFlags := 1, code := some k0c0 }
/-- java/lang/Object -/
def k0 : Class := { plain "java/lang/Object" none with
  accessFlags := 33
  interfaces := #[]
  cf := some (fileOf pool0 8 #[] #[{ accessFlags := 1, nameIndex := 5, descriptorIndex := 6, attributes := #[] }] 33 0 #[] #[])
  fields := #[]
  methods := #[k0m0]
  instanceTypes := #[]
  staticTypes := #[]
  resolved := Array.replicate 124 none
  statics := none }

def pool1 : Array CpInfo := pool [(2, .class_ 4), (0, .nameAndType 5 6), (0, u "java/lang/Object"), (0, u "<init>"), (0, u "()V"), (0, .class_ 8), (0, u "com/example/interlock/interlock/Snapshots"), (0, .methodref 7 3), (0, .methodref 7 11), (0, .nameAndType 12 13), (0, u "horizon"), (0, u "()J"), (2, .long 9223372036854775807), (1, .methodref 19 20), (0, .class_ 21), (0, .nameAndType 22 23), (0, u "java/lang/Math"), (0, u "min"), (0, u "(JJ)J"), (0, .methodref 19 25), (0, .nameAndType 26 23), (0, u "max"), (0, .methodref 7 28), (0, .nameAndType 29 30), (0, u "hold"), (0, u "(J)V"), (0, .methodref 7 32), (0, .nameAndType 33 30), (0, u "release"), (0, .class_ 35), (0, u "com/example/interlock/interlock/SnapshotsHorizonPinLaw"), (2, u "law"), (0, u "(JJJI)Z")] 3

def k1m0 : Method := { name := "<init>", desc := "()V", sig := { parameters := [], returnType := none }, accessFlags := 1, code := none }
def k1c1 : Code := { maxStack := 6, maxLocals := 22, code := code, exceptionTable := #[], attributes := #[] }
def k1m1 : Method := { name := "law", desc := "(JJJI)Z", sig := { parameters := [.long, .long, .long, .int], returnType := some .boolean }, accessFlags := 9, code := some k1c1 }
/-- com/example/interlock/interlock/SnapshotsHorizonPinLaw -/
def k1 : Class := { plain "com/example/interlock/interlock/SnapshotsHorizonPinLaw" (some 0) with
  accessFlags := 49
  interfaces := #[]
  cf := some (fileOf pool1 34 #[] #[{ accessFlags := 1, nameIndex := 5, descriptorIndex := 6, attributes := #[] }, { accessFlags := 9, nameIndex := 38, descriptorIndex := 39, attributes := #[] }] 49 2 #[] #[])
  fields := #[]
  methods := #[k1m0, k1m1]
  instanceTypes := #[]
  staticTypes := #[]
  resolved := Array.replicate 43 none
  statics := none }

def pool2 : Array CpInfo := pool [(1, .methodref 2 3), (0, .class_ 4), (0, .nameAndType 5 6), (0, u "java/lang/Object"), (0, u "<init>"), (0, u "()V"), (0, .fieldref 8 9), (0, .class_ 10), (0, .nameAndType 11 12), (0, u "com/example/interlock/interlock/Snapshots"), (0, u "snapshots"), (0, u "[J"), (0, .fieldref 8 14), (0, .nameAndType 15 16), (0, u "holders"), (0, u "[I"), (0, .fieldref 8 18), (0, .nameAndType 19 20), (0, u "first"), (0, u "I"), (0, .fieldref 8 22), (0, .nameAndType 23 20), (0, u "end"), (9, .fieldref 8 34), (0, .nameAndType 35 20), (0, u "unheld"), (3, .methodref 40 41), (0, .class_ 42), (0, .nameAndType 43 44), (0, u "java/util/Arrays"), (0, u "binarySearch"), (0, u "([JIIJ)I"), (0, .methodref 8 46), (0, .nameAndType 47 6), (0, u "compact"), (2, .long 9223372036854775807), (10, u "hold"), (0, u "(J)V"), (1, u "release"), (0, u "horizon"), (0, u "()J")] 17

def k2c0 : Code := { maxStack := 2, maxLocals := 1, code := prog_27_method_1_code, exceptionTable := #[], attributes := #[] }
def k2m0 : Method := { name := "<init>", desc := "()V", sig := { parameters := [], returnType := none }, accessFlags := 0, code := some k2c0 }
def k2c1 : Code := { maxStack := 7, maxLocals := 3, code := prog_27_method_2_code, exceptionTable := #[], attributes := #[] }
def k2m1 : Method := { name := "hold", desc := "(J)V", sig := { parameters := [.long], returnType := none }, accessFlags := 0, code := some k2c1 }
def k2c2 : Code := { maxStack := 5, maxLocals := 4, code := prog_27_method_3_code, exceptionTable := #[], attributes := #[] }
def k2m2 : Method := { name := "release", desc := "(J)V", sig := { parameters := [.long], returnType := none }, accessFlags := 0, code := some k2c2 }
def k2c3 : Code := { maxStack := 2, maxLocals := 1, code := prog_27_method_4_code, exceptionTable := #[], attributes := #[] }
def k2m3 : Method := { name := "horizon", desc := "()J", sig := { parameters := [], returnType := some .long }, accessFlags := 0, code := some k2c3 }
def k2c4 : Code := { maxStack := 4, maxLocals := 3, code := prog_27_method_6_code, exceptionTable := #[], attributes := #[] }
def k2m4 : Method := { name := "compact", desc := "()V", sig := { parameters := [], returnType := none }, accessFlags := 2, code := some k2c4 }
/-- com/example/interlock/interlock/Snapshots -/
def k2 : Class := { plain "com/example/interlock/interlock/Snapshots" (some 0) with
  accessFlags := 48
  interfaces := #[]
  cf := some (fileOf pool2 8 #[] #[{ accessFlags := 0, nameIndex := 5, descriptorIndex := 6, attributes := #[] }, { accessFlags := 0, nameIndex := 61, descriptorIndex := 62, attributes := #[] }, { accessFlags := 0, nameIndex := 64, descriptorIndex := 62, attributes := #[] }, { accessFlags := 0, nameIndex := 65, descriptorIndex := 66, attributes := #[] }, { accessFlags := 2, nameIndex := 47, descriptorIndex := 6, attributes := #[] }] 48 2 #[] #[{ accessFlags := 2, nameIndex := 11, descriptorIndex := 12, attributes := #[] }, { accessFlags := 2, nameIndex := 15, descriptorIndex := 16, attributes := #[] }, { accessFlags := 2, nameIndex := 19, descriptorIndex := 20, attributes := #[] }, { accessFlags := 2, nameIndex := 23, descriptorIndex := 20, attributes := #[] }, { accessFlags := 2, nameIndex := 35, descriptorIndex := 20, attributes := #[] }])
  fields := #[{ name := "snapshots", type := (.array .long), accessFlags := 2, slot := 0, constantValue := 0 }, { name := "holders", type := (.array .int), accessFlags := 2, slot := 1, constantValue := 0 }, { name := "first", type := .int, accessFlags := 2, slot := 2, constantValue := 0 }, { name := "end", type := .int, accessFlags := 2, slot := 3, constantValue := 0 }, { name := "unheld", type := .int, accessFlags := 2, slot := 4, constantValue := 0 }]
  methods := #[k2m0, k2m1, k2m2, k2m3, k2m4]
  instanceTypes := #[(.array .long), (.array .int), .int, .int, .int]
  staticTypes := #[]
  resolved := Array.replicate 84 none
  statics := none }

def pool3 : Array CpInfo := pool [(1, .class_ 2), (0, u "java/lang/Math"), (1, .class_ 6), (1, u "java/lang/Object"), (0, u "<init>"), (0, u "()V"), (89, .class_ 100), (1, u "java/lang/Math$RandomNumberGeneratorHolder"), (20, u "(JJ)J"), (50, u "negativeZeroFloatBits"), (0, u "J"), (2, u "negativeZeroDoubleBits"), (21, u "max"), (2, u "min"), (43, u "$assertionsDisabled"), (0, u "Z"), (91, u "twoToTheDoubleScaleDown"), (0, u "D"), (4, u "twoToTheDoubleScaleUp"), (9, u "E"), (3, u "PI"), (2, u "TAU"), (2, u "DEGREES_TO_RADIANS"), (0, u "RADIANS_TO_DEGREES")] 94

def k3m0 : Method := { name := "<init>", desc := "()V", sig := { parameters := [], returnType := none }, accessFlags := 2, code := none }
def k3c1 : Code := { maxStack := 4, maxLocals := 4, code := jdk_29_method_66_code, exceptionTable := #[], attributes := #[] }
def k3m1 : Method := { name := "max", desc := "(JJ)J", sig := { parameters := [.long, .long], returnType := some .long }, accessFlags := 9, code := some k3c1 }
def k3c2 : Code := { maxStack := 4, maxLocals := 4, code := jdk_29_method_70_code, exceptionTable := #[], attributes := #[] }
def k3m2 : Method := { name := "min", desc := "(JJ)J", sig := { parameters := [.long, .long], returnType := some .long }, accessFlags := 9, code := some k3c2 }
/-- java/lang/Math -/
def k3 : Class := { plain "java/lang/Math" (some 0) with
  accessFlags := 49
  interfaces := #[]
  cf := some (fileOf pool3 1 #[.nestMembers #[98]] #[{ accessFlags := 2, nameIndex := 7, descriptorIndex := 8, attributes := #[] }, { accessFlags := 9, nameIndex := 198, descriptorIndex := 121, attributes := #[] }, { accessFlags := 9, nameIndex := 201, descriptorIndex := 121, attributes := #[] }] 49 4 #[] #[{ accessFlags := 25, nameIndex := 354, descriptorIndex := 339, attributes := #[] }, { accessFlags := 25, nameIndex := 358, descriptorIndex := 339, attributes := #[] }, { accessFlags := 25, nameIndex := 361, descriptorIndex := 339, attributes := #[] }, { accessFlags := 26, nameIndex := 364, descriptorIndex := 339, attributes := #[] }, { accessFlags := 26, nameIndex := 365, descriptorIndex := 339, attributes := #[] }, { accessFlags := 26, nameIndex := 172, descriptorIndex := 173, attributes := #[] }, { accessFlags := 26, nameIndex := 176, descriptorIndex := 173, attributes := #[] }, { accessFlags := 8, nameIndex := 344, descriptorIndex := 339, attributes := #[] }, { accessFlags := 8, nameIndex := 338, descriptorIndex := 339, attributes := #[] }, { accessFlags := 4120, nameIndex := 245, descriptorIndex := 246, attributes := #[] }])
  fields := #[{ name := "E", type := .double, accessFlags := 25, slot := 0, constantValue := 0 }, { name := "PI", type := .double, accessFlags := 25, slot := 1, constantValue := 0 }, { name := "TAU", type := .double, accessFlags := 25, slot := 2, constantValue := 0 }, { name := "DEGREES_TO_RADIANS", type := .double, accessFlags := 26, slot := 3, constantValue := 0 }, { name := "RADIANS_TO_DEGREES", type := .double, accessFlags := 26, slot := 4, constantValue := 0 }, { name := "negativeZeroFloatBits", type := .long, accessFlags := 26, slot := 5, constantValue := 0 }, { name := "negativeZeroDoubleBits", type := .long, accessFlags := 26, slot := 6, constantValue := 0 }, { name := "twoToTheDoubleScaleUp", type := .double, accessFlags := 8, slot := 7, constantValue := 0 }, { name := "twoToTheDoubleScaleDown", type := .double, accessFlags := 8, slot := 8, constantValue := 0 }, { name := "$assertionsDisabled", type := .boolean, accessFlags := 4120, slot := 9, constantValue := 0 }]
  methods := #[k3m0, k3m1, k3m2]
  instanceTypes := #[]
  staticTypes := #[.double, .double, .double, .double, .double, .long, .long, .double, .double, .boolean]
  resolved := Array.replicate 460 none
  statics := none }

def pool4 : Array CpInfo := pool [(2, .class_ 4), (1, u "java/lang/Object"), (0, u "<init>"), (0, u "()V"), (6, .methodref 14 15), (0, .class_ 16), (0, .nameAndType 17 18), (0, u "java/util/Arrays"), (0, u "rangeCheck"), (0, u "(III)V"), (55, .class_ 76), (1, u "java/util/Arrays$NaturalOrder"), (36, .class_ 115), (1, u "java/util/Arrays$LegacyMergeSort"), (1, u "Z"), (87, .methodref 14 206), (0, .nameAndType 207 208), (0, u "binarySearch0"), (0, u "([JIIJ)I"), (166, .class_ 376), (0, u "java/util/Arrays$ArrayList"), (68, u "$assertionsDisabled"), (269, u "MIN_ARRAY_SORT_GRAN"), (0, u "I"), (2, u "INSERTIONSORT_THRESHOLD"), (74, u "binarySearch"), (180, .class_ 976), (0, u "java/util/Arrays$ArrayItr")] 52

def k4m0 : Method := { name := "<init>", desc := "()V", sig := { parameters := [], returnType := none }, accessFlags := 2, code := none }
def k4c1 : Code := { maxStack := 4, maxLocals := 3, code := jdk_65_method_30_code, exceptionTable := #[], attributes := #[] }
def k4m1 : Method := { name := "rangeCheck", desc := "(III)V", sig := { parameters := [.int, .int, .int], returnType := none }, accessFlags := 8, code := some k4c1 }
def k4c2 : Code := { maxStack := 5, maxLocals := 5, code := jdk_65_method_55_code, exceptionTable := #[], attributes := #[] }
def k4m2 : Method := { name := "binarySearch", desc := "([JIIJ)I", sig := { parameters := [(.array .long), .int, .int, .long], returnType := some .int }, accessFlags := 9, code := some k4c2 }
def k4c3 : Code := { maxStack := 4, maxLocals := 10, code := jdk_65_method_56_code, exceptionTable := #[], attributes := #[] }
def k4m3 : Method := { name := "binarySearch0", desc := "([JIIJ)I", sig := { parameters := [(.array .long), .int, .int, .long], returnType := some .int }, accessFlags := 10, code := some k4c3 }
/-- java/util/Arrays -/
def k4 : Class := { plain "java/util/Arrays" (some 0) with
  accessFlags := 49
  interfaces := #[]
  cf := some (fileOf pool4 14 #[.nestMembers #[975, 375, 113, 74]] #[{ accessFlags := 2, nameIndex := 5, descriptorIndex := 6, attributes := #[] }, { accessFlags := 8, nameIndex := 17, descriptorIndex := 18, attributes := #[] }, { accessFlags := 9, nameIndex := 794, descriptorIndex := 208, attributes := #[] }, { accessFlags := 10, nameIndex := 207, descriptorIndex := 208, attributes := #[] }] 49 2 #[] #[{ accessFlags := 26, nameIndex := 715, descriptorIndex := 716, attributes := #[] }, { accessFlags := 26, nameIndex := 719, descriptorIndex := 716, attributes := #[] }, { accessFlags := 4120, nameIndex := 445, descriptorIndex := 117, attributes := #[] }])
  fields := #[{ name := "MIN_ARRAY_SORT_GRAN", type := .int, accessFlags := 26, slot := 0, constantValue := 0 }, { name := "INSERTIONSORT_THRESHOLD", type := .int, accessFlags := 26, slot := 1, constantValue := 0 }, { name := "$assertionsDisabled", type := .boolean, accessFlags := 4120, slot := 2, constantValue := 0 }]
  methods := #[k4m0, k4m1, k4m2, k4m3]
  instanceTypes := #[]
  staticTypes := #[.int, .int, .boolean]
  resolved := Array.replicate 1029 none
  statics := none }

def pool5 : Array CpInfo := pool [(1, u "java/lang/Cloneable"), (0, .class_ 1), (0, u "java/lang/Object"), (0, .class_ 3)] 3

/-- java/lang/Cloneable -/
def k5 : Class := { plain "java/lang/Cloneable" (some 0) with
  accessFlags := 1537
  interfaces := #[]
  cf := some (fileOf pool5 2 #[] #[] 1537 4 #[] #[])
  fields := #[]
  methods := #[]
  instanceTypes := #[]
  staticTypes := #[]
  resolved := Array.replicate 8 none
  statics := none }

def pool6 : Array CpInfo := pool [(1, u "java/io/Serializable"), (0, .class_ 1), (0, u "java/lang/Object"), (0, .class_ 3)] 3

/-- java/io/Serializable -/
def k6 : Class := { plain "java/io/Serializable" (some 0) with
  accessFlags := 1537
  interfaces := #[]
  cf := some (fileOf pool6 2 #[] #[] 1537 4 #[] #[])
  fields := #[]
  methods := #[]
  instanceTypes := #[]
  staticTypes := #[]
  resolved := Array.replicate 8 none
  statics := none }

/-- the primitive byte -/
def k7 : Class := { plain "byte" none with kind := .primitive 'B', accessFlags := 0x411 }
/-- [B -/
def k8 : Class := { plain "[B" (some 0) with kind := .array 7 .byte, interfaces := #[5, 6], accessFlags := 1041 }

/-- the primitive int -/
def k9 : Class := { plain "int" none with kind := .primitive 'I', accessFlags := 0x411 }
/-- [I -/
def k10 : Class := { plain "[I" (some 0) with kind := .array 9 .int, interfaces := #[5, 6], accessFlags := 1041 }

/-- the primitive long -/
def k11 : Class := { plain "long" none with kind := .primitive 'J', accessFlags := 0x411 }
/-- [J -/
def k12 : Class := { plain "[J" (some 0) with kind := .array 11 .long, interfaces := #[5, 6], accessFlags := 1041 }

def heap : Heap := #[]
def classes : Array Class := #[k0, k1, k2, k3, k4, k5, k6, k7, k8, k9, k10, k11, k12]
def interned : List (Array UInt16 × Addr) := []
def slotsUsed : Nat := 0
def theMethod : MethodId := ⟨1, 1⟩
def args0 : Array Value := #[.long 5, .long 6, .long 7, .int 9]
def aboutOver (below : List Frame) : State where
  vm := { classes := classes, interned := interned.toArray }
  heap := heap
  slotsUsed := slotsUsed
  threads := #[{ frames := .invoking theMethod args0 :: below }]
def below0 : List Frame := [.native { method := ⟨0, 0⟩, args := #[] }]
def about1 : State := aboutOver below0
def p0 : Program := .bare "" "" ""
def e0 : Env := launch0.env 0 0 0
theorem w_frames : about1.frames = Frame.invoking theMethod args0 :: below0 := rfl
set_option maxRecDepth 65536 in
theorem w_args : argsFit about1.vm theMethod args0 = true := by decide +kernel
set_option maxRecDepth 65536 in
theorem w_heap : heapFits about1 = true := by decide +kernel
set_option maxRecDepth 65536 in
theorem w_runnable : about1.curStatus? = some .runnable := by decide +kernel
set_option maxRecDepth 65536 in
theorem w_alone : about1.alone = true := by decide +kernel
set_option maxRecDepth 65536 in
theorem w_named : about1.methodNamed? x = some theMethod := by decide +kernel
set_option maxRecDepth 65536 in
theorem w_hears : about1.hears theMethod below0 = true := by decide +kernel
set_option maxRecDepth 65536 in
theorem w_ripe : about1.ripe theMethod args0 below0 = true := by decide +kernel
theorem w_running : about1.status = .running := rfl
set_option maxRecDepth 65536 in
theorem w_room : about1.hasRoom e0.platform room_1 = true :=
  launch0.hasRoom_least _ room_1 (by decide +kernel) (by decide +kernel) (by decide +kernel) (by decide +kernel) (by decide +kernel) (by decide +kernel)
theorem allAtoms_all (ts : List Jvm.Cond) (a : Array Jvm.Value) (st : Jvm.State) : (allAtoms ts).before a st = ts.all (fun c => c.before a st) := by
  induction ts with
  | nil => rfl
  | cons c t ih =>
    show (Jvm.Cond.and c (allAtoms t)).before a st = _
    rw [Jvm.Cond.before_and, ih, List.all_cons]
def words1 : List Jvm.Cond := Jvm.Cond.code x code maxLocals ret :: tables_1
/-- a 'code' word, met by the world's own term for the bytes: nothing is compared byte by byte -/
theorem code_word {y : MethodName} {bytes : ByteArray} {mx : Nat} {rt : Option FieldType} {a : Array Value} {s : State} {m : MethodId} {meth : Method} {c : Code} (h1 : s.methodNamed? y = some m) (h2 : s.vm.method? m = some meth) (h3 : meth.code = some c) (h4 : c.code = bytes)
    (h5 : (c.maxLocals == mx && c.exceptionTable.isEmpty && decide (c.maxStack ≤ mostOperands) && decide (meth.sig.returnType = rt) && !meth.locks && decide (parseMethodDescriptor y.desc = some meth.sig)) = true) : (Jvm.Cond.code y bytes mx rt).before a s = true := by
  simp only [Bool.and_eq_true, beq_iff_eq, Bool.not_eq_true', decide_eq_true_eq] at h5
  obtain ⟨⟨⟨⟨⟨g1, g2⟩, g3⟩, g4⟩, g5⟩, g6⟩ := h5
  simp [Cond.before, Cond.holds, Cond.value, h1, h2, h3, h4, g1, g2, g3, g4, g5, g6]
def isCode : Jvm.Cond → Bool
  | .code _ _ _ _ => true
  | _ => false
theorem all_split {L : List Jvm.Cond} {P : Jvm.Cond → Bool} (h1 : L.all (fun c => isCode c || P c) = true) (h2 : ∀ c ∈ L.filter isCode, P c = true) : L.all P = true := by
  refine List.all_eq_true.mpr fun c hc => ?_
  have h := List.all_eq_true.mp h1 c hc
  rcases Bool.eq_false_or_eq_true (isCode c) with hi | hi
  · exact h2 c (List.mem_filter.mpr ⟨hc, hi⟩)
  · simpa [hi] using h
set_option maxRecDepth 65536 in
theorem w_c0 : (Jvm.Cond.code x code maxLocals ret).before args0 about1 = true := code_word (m := ⟨1, 1⟩) (meth := k1m1) (c := k1c1) (by decide +kernel) rfl rfl rfl (by decide +kernel)
set_option maxRecDepth 65536 in
theorem w_c1 : (Jvm.Cond.code ({ cls := "com/example/interlock/interlock/Snapshots", name := "<init>", desc := "()V" } : Jvm.MethodName) prog_27_method_1_code (1 : Nat) (Option.none : Option Jvm.ClassFile.FieldType)).before args0 about1 = true := code_word (m := ⟨2, 0⟩) (meth := k2m0) (c := k2c0) (by decide +kernel) rfl rfl rfl (by decide +kernel)
set_option maxRecDepth 65536 in
theorem w_c2 : (Jvm.Cond.code ({ cls := "java/lang/Object", name := "<init>", desc := "()V" } : Jvm.MethodName) object_method_1_code (1 : Nat) (Option.none : Option Jvm.ClassFile.FieldType)).before args0 about1 = true := code_word (m := ⟨0, 0⟩) (meth := k0m0) (c := k0c0) (by decide +kernel) rfl rfl rfl (by decide +kernel)
set_option maxRecDepth 65536 in
theorem w_c3 : (Jvm.Cond.code ({ cls := "com/example/interlock/interlock/Snapshots", name := "horizon", desc := "()J" } : Jvm.MethodName) prog_27_method_4_code (1 : Nat) (Option.some Jvm.ClassFile.FieldType.long)).before args0 about1 = true := code_word (m := ⟨2, 3⟩) (meth := k2m3) (c := k2c3) (by decide +kernel) rfl rfl rfl (by decide +kernel)
set_option maxRecDepth 65536 in
theorem w_c4 : (Jvm.Cond.code ({ cls := "java/lang/Math", name := "min", desc := "(JJ)J" } : Jvm.MethodName) jdk_29_method_70_code (4 : Nat) (Option.some Jvm.ClassFile.FieldType.long)).before args0 about1 = true := code_word (m := ⟨3, 2⟩) (meth := k3m2) (c := k3c2) (by decide +kernel) rfl rfl rfl (by decide +kernel)
set_option maxRecDepth 65536 in
theorem w_c5 : (Jvm.Cond.code ({ cls := "java/lang/Math", name := "max", desc := "(JJ)J" } : Jvm.MethodName) jdk_29_method_66_code (4 : Nat) (Option.some Jvm.ClassFile.FieldType.long)).before args0 about1 = true := code_word (m := ⟨3, 1⟩) (meth := k3m1) (c := k3c1) (by decide +kernel) rfl rfl rfl (by decide +kernel)
set_option maxRecDepth 65536 in
theorem w_c6 : (Jvm.Cond.code ({ cls := "com/example/interlock/interlock/Snapshots", name := "hold", desc := "(J)V" } : Jvm.MethodName) prog_27_method_2_code (3 : Nat) (Option.none : Option Jvm.ClassFile.FieldType)).before args0 about1 = true := code_word (m := ⟨2, 1⟩) (meth := k2m1) (c := k2c1) (by decide +kernel) rfl rfl rfl (by decide +kernel)
set_option maxRecDepth 65536 in
theorem w_c7 : (Jvm.Cond.code ({ cls := "com/example/interlock/interlock/Snapshots", name := "release", desc := "(J)V" } : Jvm.MethodName) prog_27_method_3_code (4 : Nat) (Option.none : Option Jvm.ClassFile.FieldType)).before args0 about1 = true := code_word (m := ⟨2, 2⟩) (meth := k2m2) (c := k2c2) (by decide +kernel) rfl rfl rfl (by decide +kernel)
set_option maxRecDepth 65536 in
theorem w_c8 : (Jvm.Cond.code ({ cls := "java/util/Arrays", name := "binarySearch", desc := "([JIIJ)I" } : Jvm.MethodName) jdk_65_method_55_code (5 : Nat) (Option.some Jvm.ClassFile.FieldType.int)).before args0 about1 = true := code_word (m := ⟨4, 2⟩) (meth := k4m2) (c := k4c2) (by decide +kernel) rfl rfl rfl (by decide +kernel)
set_option maxRecDepth 65536 in
theorem w_c9 : (Jvm.Cond.code ({ cls := "java/util/Arrays", name := "rangeCheck", desc := "(III)V" } : Jvm.MethodName) jdk_65_method_30_code (3 : Nat) (Option.none : Option Jvm.ClassFile.FieldType)).before args0 about1 = true := code_word (m := ⟨4, 1⟩) (meth := k4m1) (c := k4c1) (by decide +kernel) rfl rfl rfl (by decide +kernel)
set_option maxRecDepth 65536 in
theorem w_c10 : (Jvm.Cond.code ({ cls := "java/util/Arrays", name := "binarySearch0", desc := "([JIIJ)I" } : Jvm.MethodName) jdk_65_method_56_code (10 : Nat) (Option.some Jvm.ClassFile.FieldType.int)).before args0 about1 = true := code_word (m := ⟨4, 3⟩) (meth := k4m3) (c := k4c3) (by decide +kernel) rfl rfl rfl (by decide +kernel)
set_option maxRecDepth 65536 in
theorem w_c11 : (Jvm.Cond.code ({ cls := "com/example/interlock/interlock/Snapshots", name := "compact", desc := "()V" } : Jvm.MethodName) prog_27_method_6_code (3 : Nat) (Option.none : Option Jvm.ClassFile.FieldType)).before args0 about1 = true := code_word (m := ⟨2, 4⟩) (meth := k2m4) (c := k2c4) (by decide +kernel) rfl rfl rfl (by decide +kernel)
def codes1 : List Jvm.Cond := [Jvm.Cond.code x code maxLocals ret, Jvm.Cond.code ({ cls := "com/example/interlock/interlock/Snapshots", name := "<init>", desc := "()V" } : Jvm.MethodName) prog_27_method_1_code (1 : Nat) (Option.none : Option Jvm.ClassFile.FieldType), Jvm.Cond.code ({ cls := "java/lang/Object", name := "<init>", desc := "()V" } : Jvm.MethodName) object_method_1_code (1 : Nat) (Option.none : Option Jvm.ClassFile.FieldType), Jvm.Cond.code ({ cls := "com/example/interlock/interlock/Snapshots", name := "horizon", desc := "()J" } : Jvm.MethodName) prog_27_method_4_code (1 : Nat) (Option.some Jvm.ClassFile.FieldType.long), Jvm.Cond.code ({ cls := "java/lang/Math", name := "min", desc := "(JJ)J" } : Jvm.MethodName) jdk_29_method_70_code (4 : Nat) (Option.some Jvm.ClassFile.FieldType.long), Jvm.Cond.code ({ cls := "java/lang/Math", name := "max", desc := "(JJ)J" } : Jvm.MethodName) jdk_29_method_66_code (4 : Nat) (Option.some Jvm.ClassFile.FieldType.long), Jvm.Cond.code ({ cls := "com/example/interlock/interlock/Snapshots", name := "hold", desc := "(J)V" } : Jvm.MethodName) prog_27_method_2_code (3 : Nat) (Option.none : Option Jvm.ClassFile.FieldType), Jvm.Cond.code ({ cls := "com/example/interlock/interlock/Snapshots", name := "release", desc := "(J)V" } : Jvm.MethodName) prog_27_method_3_code (4 : Nat) (Option.none : Option Jvm.ClassFile.FieldType), Jvm.Cond.code ({ cls := "java/util/Arrays", name := "binarySearch", desc := "([JIIJ)I" } : Jvm.MethodName) jdk_65_method_55_code (5 : Nat) (Option.some Jvm.ClassFile.FieldType.int), Jvm.Cond.code ({ cls := "java/util/Arrays", name := "rangeCheck", desc := "(III)V" } : Jvm.MethodName) jdk_65_method_30_code (3 : Nat) (Option.none : Option Jvm.ClassFile.FieldType), Jvm.Cond.code ({ cls := "java/util/Arrays", name := "binarySearch0", desc := "([JIIJ)I" } : Jvm.MethodName) jdk_65_method_56_code (10 : Nat) (Option.some Jvm.ClassFile.FieldType.int), Jvm.Cond.code ({ cls := "com/example/interlock/interlock/Snapshots", name := "compact", desc := "()V" } : Jvm.MethodName) prog_27_method_6_code (3 : Nat) (Option.none : Option Jvm.ClassFile.FieldType)]
set_option maxRecDepth 65536 in
theorem codes_eq : words1.filter isCode = codes1 := rfl
theorem w_codes : ∀ c ∈ words1.filter isCode, c.before args0 about1 = true := by
  rw [codes_eq]
  intro c hc
  simp only [codes1, List.mem_cons, List.not_mem_nil, or_false] at hc
  rcases hc with rfl | rfl | rfl | rfl | rfl | rfl | rfl | rfl | rfl | rfl | rfl | rfl
  · exact w_c0
  · exact w_c1
  · exact w_c2
  · exact w_c3
  · exact w_c4
  · exact w_c5
  · exact w_c6
  · exact w_c7
  · exact w_c8
  · exact w_c9
  · exact w_c10
  · exact w_c11
set_option maxRecDepth 65536 in
theorem w_t1 : (words1.take 24).all (fun c => isCode c || c.before args0 about1) = true := by decide +kernel
set_option maxRecDepth 65536 in
theorem w_t2 : ((words1.drop 24).take 24).all (fun c => isCode c || c.before args0 about1) = true := by decide +kernel
set_option maxRecDepth 65536 in
theorem w_t3 : ((words1.drop 24).drop 24).all (fun c => isCode c || c.before args0 about1) = true := by decide +kernel
theorem w_tables : (allAtoms (Jvm.Cond.code x code maxLocals ret :: tables_1)).before args0 about1 = true := by
  rw [allAtoms_all]
  show words1.all (fun c => c.before args0 about1) = true
  refine all_split ?_ w_codes
  rw [← List.take_append_drop 24 words1, List.all_append, w_t1, ← List.take_append_drop 24 (words1.drop 24), List.all_append, w_t2, w_t3]
  rfl
set_option maxRecDepth 65536 in
theorem w_case : (Jvm.Cond.and given_1 narrow_1).before args0 about1 = true := by decide +kernel
theorem w_applies : (headSpec (Jvm.Cond.code x code maxLocals ret :: tables_1) room_1).applies x e0.platform about1 = true :=
  (Spec.applies_iff w_frames).mpr ⟨w_running, w_runnable, w_alone, w_named, w_hears, w_ripe, w_room, w_tables⟩
theorem atStart : AtStart classFile x code maxLocals ret World_1 tables_1 room_1 Calls_1 rest_1 Pre_1 launch0 p0 e0 about1 theMethod args0 below0 :=
  ⟨lists_1, trivial, launch0.admits_env _ _ _, launch0.least_env, fairChoices_fair.cas, fairChoices_fair.clock, w_frames, w_args, w_heap, w_applies, trivial, trivial, w_case⟩
end start1
theorem witness_1 : WitnessClaimed_1 := ⟨start1.p0, start1.e0, start1.about1, start1.theMethod, start1.args0, start1.below0, start1.atStart⟩
end Jvm.Pilot.@@N@@
