import JvmDerived
import JvmDerived.Pilot.@@N@@Statement
import JvmDerived.Pilot.@@N@@Code
set_option linter.unusedVariables false
set_option linter.unusedSimpArgs false
namespace Jvm.Pilot.@@N@@
open Jvm Jvm.ClassFile Sem Op Lib Jvm.Free Jvm.Stand Jvm.LawKit Jvm.RoadKit Bundle Jvm.Pilot.@@N@@.Jvm.D
/-! THE OWN KIT: a walk as a weakest precondition (own_V), one law an instruction -/
def own_V (l : Launch) (Z : State) (n0 : Nat) (R : Room) (own nm : String) (cod : ByteArray) (mxl : Nat) (rt : Option FieldType) (Q : Option Value → Heap → Prop)
    (h : Heap) (cells slots : Nat) (pc : Nat) (L : Array Slot) (S : List Value) : Prop :=
  ∀ (p : Program) (e : Env) (s : State) (vm0 : Vm) (k0 : Nat) (m : MethodId) (args : Array Value) (below : List Frame) (meth : Method) (c : Code) (T : State) (locs : List Loc),
    p.tables.exec = Jvm.exec → Z.Warmed39 vm0 → c.code = cod → c.maxLocals = mxl → vm0.findClass own = some m.cls → meth.sig.returnType = rt → meth.name = nm → meth.locks = false →
    Stand p l e R (s.setVm vm0) m args below meth c T locs cells slots → T.heap = h → Fr n0 locs → s.Since vm0 k0 → k0 ≤ h.size →
    ∃ s₂ o, Steps p.tables e below (T.setTop (mkF m pc L S)) s₂ ∧ s₂.status = .running ∧ Ended s₂ below o ∧ ∃ v Lc, o = .returned v ∧ (Q v s₂.heap ∧ Fr n0 Lc) ∧ ReturnedEndW s o s₂ Lc R.cells R.slots
def own_D (cod : ByteArray) (pc : Nat) (i : Instr) (n pc' : Nat) : Prop := decode cod pc = .ok (i, n) ∧ pc + n = pc'
def own_B (cod : ByteArray) (pc : Nat) (i : Instr) (o : Int) (pc' t : Nat) : Prop := decode cod pc = .ok (i, 3) ∧ pc + 3 = pc' ∧ 0 ≤ (pc : Int) + o ∧ ((pc : Int) + o).toNat = t
section OwnKit
variable {l : Launch} {Z : State} {n0 : Nat} {R : Room} {own nm : String} {cod : ByteArray} {mxl : Nat} {rt : Option FieldType} {Q : Option Value → Heap → Prop} {h : Heap} {cells slots pc pc' : Nat} {L L' : Array Slot} {S S' : List Value} {a0 : Array Value}
theorem own_step (st : ∀ {p : Program} {e : Env} {s : State} {m : MethodId} {args : Array Value} {below : List Frame} {meth : Method} {c : Code} {T : State} {locs : List Loc}, p.tables.exec = Jvm.exec → Z.Warmed39 s.vm → c.code = cod → s.vm.findClass own = some m.cls →
      Stand p l e R s m args below meth c T locs cells slots → T.heap = h → ∀ {target : State}, Steps p.tables e below (T.setTop (mkF m pc' L' S')) target → Steps p.tables e below (T.setTop (mkF m pc L S)) target)
    (k : own_V l Z n0 R own nm cod mxl rt Q h cells slots pc' L' S') : own_V l Z n0 R own nm cod mxl rt Q h cells slots pc L S := by
  intro p e s vm0 k0 m args below meth c T locs hx hZ hby hml hown hret hnm hlk X eT N hS hk
  obtain ⟨s₂, o, h1, r⟩ := k p e s vm0 k0 m args below meth c T locs hx hZ hby hml hown hret hnm hlk X eT N hS hk
  exact ⟨s₂, o, st (s := s.setVm vm0) hx hZ hby hown X eT h1, r⟩
theorem own_stepC {F : Heap → List Value → Prop} {cells' slots' : Nat} (st : ∀ {p : Program} {e : Env} {s : State} {m : MethodId} {args : Array Value} {below : List Frame} {meth : Method} {c : Code} {T : State} {locs : List Loc}, p.tables.exec = Jvm.exec → Z.Warmed39 s.vm → c.code = cod → c.maxLocals = mxl → s.vm.findClass own = some m.cls → meth.name = nm →
      Stand p l e R s m args below meth c T locs cells slots → T.heap = h → Fr n0 locs →
      ∃ (T' : State) (locs' : List Loc) (S' : List Value), F T'.heap S' ∧ Stand p l e R s m args below meth c T' locs' cells' slots' ∧ Fr n0 locs' ∧ h.size ≤ T'.heap.size ∧ ∀ target, Steps p.tables e below (T'.setTop (mkF m pc' L' S')) target → Steps p.tables e below (T.setTop (mkF m pc L S)) target)
    (k : ∀ h' S', F h' S' → own_V l Z n0 R own nm cod mxl rt Q h' cells' slots' pc' L' S') : own_V l Z n0 R own nm cod mxl rt Q h cells slots pc L S := by
  intro p e s vm0 k0 m args below meth c T locs hx hZ hby hml hown hret hnm hlk X eT N hS hk
  obtain ⟨T', locs', S', f, X', N', g', st'⟩ := st (s := s.setVm vm0) hx hZ hby hml hown hnm X eT N
  obtain ⟨s₂, o, h1, r⟩ := k _ _ f p e s vm0 k0 m args below meth c T' locs' hx hZ hby hml hown hret hnm hlk X' rfl N' hS (Nat.le_trans hk g')
  exact ⟨s₂, o, st' _ h1, r⟩
theorem own_stepS {F : Heap → List Value → Prop} {cells' slots' : Nat} (st : ∀ {p : Program} {e : Env} {s : State} {m : MethodId} {args : Array Value} {below : List Frame} {meth : Method} {c : Code} {T : State} {locs : List Loc}, p.tables.exec = Jvm.exec → Z.Warmed39 s.vm → c.code = cod → c.maxLocals = mxl → s.vm.findClass own = some m.cls → meth.name = nm →
      Stand p l e R s m args below meth c T locs cells slots → T.heap = h → Fr n0 locs →
      ∃ (T' : State) (locs' : List Loc) (S' : List Value), F T'.heap S' ∧ Stand p l e R (s.setVm T'.vm) m args below meth c T' locs' cells' slots' ∧ Fr n0 locs' ∧ s.Since T'.vm T'.heap.size ∧ h.size ≤ T'.heap.size ∧ ∀ target, Steps p.tables e below (T'.setTop (mkF m pc' L' S')) target → Steps p.tables e below (T.setTop (mkF m pc L S)) target)
    (k : ∀ h' S', F h' S' → own_V l Z n0 R own nm cod mxl rt Q h' cells' slots' pc' L' S') : own_V l Z n0 R own nm cod mxl rt Q h cells slots pc L S := by
  intro p e s vm0 k0 m args below meth c T locs hx hZ hby hml hown hret hnm hlk X eT N hS hk
  obtain ⟨T', locs', S', f, X', N', hS', g', st'⟩ := st (s := s.setVm vm0) hx hZ hby hml hown hnm X eT N
  have hW : Z.Warmed39 T'.vm := State.Warmed39.trans (t := s.setVm vm0) hZ hS'.1
  obtain ⟨s₂, o, h1, r⟩ := k _ _ f p e s T'.vm T'.heap.size m args below meth c T' locs' hx hW hby hml ((hS'.1.alike.findClass _ _).trans hown) hret hnm hlk X' rfl N' (hS.trans hS' (Nat.le_trans hk g')) (Nat.le_refl _)
  exact ⟨s₂, o, st' _ h1, r⟩
theorem own_iadd {x y : Int32} (d : own_D cod pc (.iadd) 1 pc') (k : own_V l Z n0 R own nm cod mxl rt Q h cells slots pc' L (.int (x + y) :: S)) : own_V l Z n0 R own nm cod mxl rt Q h cells slots pc L (.int y :: .int x :: S) := by
  obtain ⟨d, rfl⟩ := d
  exact own_step (fun hx _ hby _ X _ _ q => XS.iadd X.here hx rfl (hb hby d) rfl q) k
theorem own_isub {x y : Int32} (d : own_D cod pc (.isub) 1 pc') (k : own_V l Z n0 R own nm cod mxl rt Q h cells slots pc' L (.int (x - y) :: S)) : own_V l Z n0 R own nm cod mxl rt Q h cells slots pc L (.int y :: .int x :: S) := by
  obtain ⟨d, rfl⟩ := d
  exact own_step (fun hx _ hby _ X _ _ q => XS.isub X.here hx rfl (hb hby d) rfl q) k
theorem own_imul {x y : Int32} (d : own_D cod pc (.imul) 1 pc') (k : own_V l Z n0 R own nm cod mxl rt Q h cells slots pc' L (.int (x * y) :: S)) : own_V l Z n0 R own nm cod mxl rt Q h cells slots pc L (.int y :: .int x :: S) := by
  obtain ⟨d, rfl⟩ := d
  exact own_step (fun hx _ hby _ X _ _ q => XS.imul X.here hx rfl (hb hby d) rfl q) k
theorem own_iand {x y : Int32} (d : own_D cod pc (.iand) 1 pc') (k : own_V l Z n0 R own nm cod mxl rt Q h cells slots pc' L (.int (x &&& y) :: S)) : own_V l Z n0 R own nm cod mxl rt Q h cells slots pc L (.int y :: .int x :: S) := by
  obtain ⟨d, rfl⟩ := d
  exact own_step (fun hx _ hby _ X _ _ q => XS.iand X.here hx rfl (hb hby d) rfl q) k
theorem own_ior {x y : Int32} (d : own_D cod pc (.ior) 1 pc') (k : own_V l Z n0 R own nm cod mxl rt Q h cells slots pc' L (.int (x ||| y) :: S)) : own_V l Z n0 R own nm cod mxl rt Q h cells slots pc L (.int y :: .int x :: S) := by
  obtain ⟨d, rfl⟩ := d
  exact own_step (fun hx _ hby _ X _ _ q => XS.ior X.here hx rfl (hb hby d) rfl q) k
theorem own_ixor {x y : Int32} (d : own_D cod pc (.ixor) 1 pc') (k : own_V l Z n0 R own nm cod mxl rt Q h cells slots pc' L (.int (x ^^^ y) :: S)) : own_V l Z n0 R own nm cod mxl rt Q h cells slots pc L (.int y :: .int x :: S) := by
  obtain ⟨d, rfl⟩ := d
  exact own_step (fun hx _ hby _ X _ _ q => XS.ixor X.here hx rfl (hb hby d) rfl q) k
theorem own_ishl {x y : Int32} (d : own_D cod pc (.ishl) 1 pc') (k : own_V l Z n0 R own nm cod mxl rt Q h cells slots pc' L (.int (x <<< (y &&& 31)) :: S)) : own_V l Z n0 R own nm cod mxl rt Q h cells slots pc L (.int y :: .int x :: S) := by
  obtain ⟨d, rfl⟩ := d
  exact own_step (fun hx _ hby _ X _ _ q => XS.ishl X.here hx rfl (hb hby d) rfl q) k
theorem own_ishr {x y : Int32} (d : own_D cod pc (.ishr) 1 pc') (k : own_V l Z n0 R own nm cod mxl rt Q h cells slots pc' L (.int (x >>> (y &&& 31)) :: S)) : own_V l Z n0 R own nm cod mxl rt Q h cells slots pc L (.int y :: .int x :: S) := by
  obtain ⟨d, rfl⟩ := d
  exact own_step (fun hx _ hby _ X _ _ q => XS.ishr X.here hx rfl (hb hby d) rfl q) k
theorem own_iushr {x y : Int32} (d : own_D cod pc (.iushr) 1 pc') (k : own_V l Z n0 R own nm cod mxl rt Q h cells slots pc' L (.int ((x.toUInt32 >>> (y &&& 31).toUInt32).toInt32) :: S)) : own_V l Z n0 R own nm cod mxl rt Q h cells slots pc L (.int y :: .int x :: S) := by
  obtain ⟨d, rfl⟩ := d
  exact own_step (fun hx _ hby _ X _ _ q => XS.iushr X.here hx rfl (hb hby d) rfl q) k
theorem own_ladd {x y : Int64} (d : own_D cod pc (.ladd) 1 pc') (k : own_V l Z n0 R own nm cod mxl rt Q h cells slots pc' L (.long (x + y) :: S)) : own_V l Z n0 R own nm cod mxl rt Q h cells slots pc L (.long y :: .long x :: S) := by
  obtain ⟨d, rfl⟩ := d
  exact own_step (fun hx _ hby _ X _ _ q => XS.ladd X.here hx rfl (hb hby d) rfl q) k
theorem own_lsub {x y : Int64} (d : own_D cod pc (.lsub) 1 pc') (k : own_V l Z n0 R own nm cod mxl rt Q h cells slots pc' L (.long (x - y) :: S)) : own_V l Z n0 R own nm cod mxl rt Q h cells slots pc L (.long y :: .long x :: S) := by
  obtain ⟨d, rfl⟩ := d
  exact own_step (fun hx _ hby _ X _ _ q => XS.lsub X.here hx rfl (hb hby d) rfl q) k
theorem own_lmul {x y : Int64} (d : own_D cod pc (.lmul) 1 pc') (k : own_V l Z n0 R own nm cod mxl rt Q h cells slots pc' L (.long (x * y) :: S)) : own_V l Z n0 R own nm cod mxl rt Q h cells slots pc L (.long y :: .long x :: S) := by
  obtain ⟨d, rfl⟩ := d
  exact own_step (fun hx _ hby _ X _ _ q => XS.lmul X.here hx rfl (hb hby d) rfl q) k
theorem own_land {x y : Int64} (d : own_D cod pc (.land) 1 pc') (k : own_V l Z n0 R own nm cod mxl rt Q h cells slots pc' L (.long (x &&& y) :: S)) : own_V l Z n0 R own nm cod mxl rt Q h cells slots pc L (.long y :: .long x :: S) := by
  obtain ⟨d, rfl⟩ := d
  exact own_step (fun hx _ hby _ X _ _ q => XS.land X.here hx rfl (hb hby d) rfl q) k
theorem own_lor {x y : Int64} (d : own_D cod pc (.lor) 1 pc') (k : own_V l Z n0 R own nm cod mxl rt Q h cells slots pc' L (.long (x ||| y) :: S)) : own_V l Z n0 R own nm cod mxl rt Q h cells slots pc L (.long y :: .long x :: S) := by
  obtain ⟨d, rfl⟩ := d
  exact own_step (fun hx _ hby _ X _ _ q => XS.lor X.here hx rfl (hb hby d) rfl q) k
theorem own_lxor {x y : Int64} (d : own_D cod pc (.lxor) 1 pc') (k : own_V l Z n0 R own nm cod mxl rt Q h cells slots pc' L (.long (x ^^^ y) :: S)) : own_V l Z n0 R own nm cod mxl rt Q h cells slots pc L (.long y :: .long x :: S) := by
  obtain ⟨d, rfl⟩ := d
  exact own_step (fun hx _ hby _ X _ _ q => XS.lxor X.here hx rfl (hb hby d) rfl q) k
theorem own_lshl {x : Int64} {y : Int32} (d : own_D cod pc (.lshl) 1 pc') (k : own_V l Z n0 R own nm cod mxl rt Q h cells slots pc' L (.long (x <<< (y &&& 0x3f).toInt64) :: S)) : own_V l Z n0 R own nm cod mxl rt Q h cells slots pc L (.int y :: .long x :: S) := by
  obtain ⟨d, rfl⟩ := d
  exact own_step (fun hx _ hby _ X _ _ q => XS.lshl X.here hx rfl (hb hby d) rfl q) k
theorem own_lshr {x : Int64} {y : Int32} (d : own_D cod pc (.lshr) 1 pc') (k : own_V l Z n0 R own nm cod mxl rt Q h cells slots pc' L (.long (x >>> (y &&& 0x3f).toInt64) :: S)) : own_V l Z n0 R own nm cod mxl rt Q h cells slots pc L (.int y :: .long x :: S) := by
  obtain ⟨d, rfl⟩ := d
  exact own_step (fun hx _ hby _ X _ _ q => XS.lshr X.here hx rfl (hb hby d) rfl q) k
theorem own_lushr {x : Int64} {y : Int32} (d : own_D cod pc (.lushr) 1 pc') (k : own_V l Z n0 R own nm cod mxl rt Q h cells slots pc' L (.long ((x.toUInt64 >>> (y &&& 0x3f).toInt64.toUInt64).toInt64) :: S)) : own_V l Z n0 R own nm cod mxl rt Q h cells slots pc L (.int y :: .long x :: S) := by
  obtain ⟨d, rfl⟩ := d
  exact own_step (fun hx _ hby _ X _ _ q => XS.lushr X.here hx rfl (hb hby d) rfl q) k
theorem own_idiv {x y : Int32} (d : own_D cod pc (.idiv) 1 pc') (hy : y ≠ 0) (k : own_V l Z n0 R own nm cod mxl rt Q h cells slots pc' L (.int (x / y) :: S)) : own_V l Z n0 R own nm cod mxl rt Q h cells slots pc L (.int y :: .int x :: S) := by
  obtain ⟨d, rfl⟩ := d
  exact own_step (fun hx _ hby _ X _ _ q => XS.idiv X.here hx rfl (hb hby d) rfl hy q) k
theorem own_ldiv {x y : Int64} (d : own_D cod pc (.ldiv) 1 pc') (hy : y ≠ 0) (k : own_V l Z n0 R own nm cod mxl rt Q h cells slots pc' L (.long (x / y) :: S)) : own_V l Z n0 R own nm cod mxl rt Q h cells slots pc L (.long y :: .long x :: S) := by
  obtain ⟨d, rfl⟩ := d
  exact own_step (fun hx _ hby _ X _ _ q => XS.ldiv X.here hx rfl (hb hby d) rfl hy q) k
theorem own_lrem {x y : Int64} (d : own_D cod pc (.lrem) 1 pc') (hy : y ≠ 0) (k : own_V l Z n0 R own nm cod mxl rt Q h cells slots pc' L (.long (x - (x / y) * y) :: S)) : own_V l Z n0 R own nm cod mxl rt Q h cells slots pc L (.long y :: .long x :: S) := by
  obtain ⟨d, rfl⟩ := d
  exact own_step (fun hx _ hby _ X _ _ q => XS.lrem X.here hx rfl (hb hby d) rfl hy q) k
theorem own_irem {x y : Int32} (d : own_D cod pc (.irem) 1 pc') (hy : y ≠ 0) (k : own_V l Z n0 R own nm cod mxl rt Q h cells slots pc' L (.int (x % y) :: S)) : own_V l Z n0 R own nm cod mxl rt Q h cells slots pc L (.int y :: .int x :: S) := by
  obtain ⟨d, rfl⟩ := d
  exact own_step (fun hx _ hby _ X _ _ q => iremM X hx rfl (hb hby d) rfl hy q) k
theorem own_ineg {x : Int32} (d : own_D cod pc (.ineg) 1 pc') (k : own_V l Z n0 R own nm cod mxl rt Q h cells slots pc' L (.int (-x) :: S)) : own_V l Z n0 R own nm cod mxl rt Q h cells slots pc L (.int x :: S) := by
  obtain ⟨d, rfl⟩ := d
  exact own_step (fun hx _ hby _ X _ _ q => XS.ineg X.here hx rfl (hb hby d) rfl q) k
theorem own_i2l {x : Int32} (d : own_D cod pc (.i2l) 1 pc') (k : own_V l Z n0 R own nm cod mxl rt Q h cells slots pc' L (.long x.toInt64 :: S)) : own_V l Z n0 R own nm cod mxl rt Q h cells slots pc L (.int x :: S) := by
  obtain ⟨d, rfl⟩ := d
  exact own_step (fun hx _ hby _ X _ _ q => XS.i2l X.here hx rfl (hb hby d) rfl q) k
theorem own_i2b {x : Int32} (d : own_D cod pc (.i2b) 1 pc') (k : own_V l Z n0 R own nm cod mxl rt Q h cells slots pc' L (.int x.toInt8.toInt32 :: S)) : own_V l Z n0 R own nm cod mxl rt Q h cells slots pc L (.int x :: S) := by
  obtain ⟨d, rfl⟩ := d
  exact own_step (fun hx _ hby _ X _ _ q => XS.i2b X.here hx rfl (hb hby d) rfl q) k
theorem own_i2c {x : Int32} (d : own_D cod pc (.i2c) 1 pc') (k : own_V l Z n0 R own nm cod mxl rt Q h cells slots pc' L (.int x.toUInt32.toUInt16.toUInt32.toInt32 :: S)) : own_V l Z n0 R own nm cod mxl rt Q h cells slots pc L (.int x :: S) := by
  obtain ⟨d, rfl⟩ := d
  exact own_step (fun hx _ hby _ X _ _ q => XS.i2c X.here hx rfl (hb hby d) rfl q) k
theorem own_i2s {x : Int32} (d : own_D cod pc (.i2s) 1 pc') (k : own_V l Z n0 R own nm cod mxl rt Q h cells slots pc' L (.int x.toInt16.toInt32 :: S)) : own_V l Z n0 R own nm cod mxl rt Q h cells slots pc L (.int x :: S) := by
  obtain ⟨d, rfl⟩ := d
  exact own_step (fun hx _ hby _ X _ _ q => XS.i2s X.here hx rfl (hb hby d) rfl q) k
theorem own_l2i {x : Int64} (d : own_D cod pc (.l2i) 1 pc') (k : own_V l Z n0 R own nm cod mxl rt Q h cells slots pc' L (.int x.toInt32 :: S)) : own_V l Z n0 R own nm cod mxl rt Q h cells slots pc L (.long x :: S) := by
  obtain ⟨d, rfl⟩ := d
  exact own_step (fun hx _ hby _ X _ _ q => XS.l2i X.here hx rfl (hb hby d) rfl q) k
theorem own_lneg {x : Int64} (d : own_D cod pc (.lneg) 1 pc') (k : own_V l Z n0 R own nm cod mxl rt Q h cells slots pc' L (.long (-x) :: S)) : own_V l Z n0 R own nm cod mxl rt Q h cells slots pc L (.long x :: S) := by
  obtain ⟨d, rfl⟩ := d
  exact own_step (fun hx _ hby _ X _ _ q => XS.lneg X.here hx rfl (hb hby d) rfl q) k
theorem own_iconst {i : Int} {x : Int32} (d : own_D cod pc (.iconst i) 1 pc') (hx : Int32.ofInt i = x) (k : own_V l Z n0 R own nm cod mxl rt Q h cells slots pc' L (.int x :: S)) : own_V l Z n0 R own nm cod mxl rt Q h cells slots pc L S := by
  obtain ⟨d, rfl⟩ := d
  subst hx
  exact own_step (fun hx _ hby _ X _ _ q => XS.iconst X.here hx rfl (hb hby d) q) k
theorem own_bipush {i : Int} {x : Int32} (d : own_D cod pc (.bipush i) 2 pc') (hx : (Int8.ofInt i).toInt32 = x) (k : own_V l Z n0 R own nm cod mxl rt Q h cells slots pc' L (.int x :: S)) : own_V l Z n0 R own nm cod mxl rt Q h cells slots pc L S := by
  obtain ⟨d, rfl⟩ := d
  subst hx
  exact own_step (fun hx _ hby _ X _ _ q => XS.bipush X.here hx rfl (hb hby d) q) k
theorem own_sipush {i : Int} {x : Int32} (d : own_D cod pc (.sipush i) 3 pc') (hx : (Int16.ofInt i).toInt32 = x) (k : own_V l Z n0 R own nm cod mxl rt Q h cells slots pc' L (.int x :: S)) : own_V l Z n0 R own nm cod mxl rt Q h cells slots pc L S := by
  obtain ⟨d, rfl⟩ := d
  subst hx
  exact own_step (fun hx _ hby _ X _ _ q => XS.sipush X.here hx rfl (hb hby d) q) k
theorem own_lconst {i : Fin 2} {x : Int64} (d : own_D cod pc (.lconst i) 1 pc') (hx : Int64.ofNat i = x) (k : own_V l Z n0 R own nm cod mxl rt Q h cells slots pc' L (.long x :: S)) : own_V l Z n0 R own nm cod mxl rt Q h cells slots pc L S := by
  obtain ⟨d, rfl⟩ := d
  subst hx
  exact own_step (fun hx _ hby _ X _ _ q => XS.lconst X.here hx rfl (hb hby d) q) k
theorem own_aconstNull (d : own_D cod pc (.aconst_null) 1 pc') (k : own_V l Z n0 R own nm cod mxl rt Q h cells slots pc' L (.null :: S)) : own_V l Z n0 R own nm cod mxl rt Q h cells slots pc L (S) := by
  obtain ⟨d, rfl⟩ := d
  exact own_step (fun hx _ hby _ X _ _ q => XS.aconstNull X.here hx rfl (hb hby d) q) k
theorem own_iload {j : Nat} {x : Int32} (d : own_D cod pc (.iload j) 2 pc') (hl : L[j]? = some (.val (.int x))) (k : own_V l Z n0 R own nm cod mxl rt Q h cells slots pc' L (.int x :: S)) : own_V l Z n0 R own nm cod mxl rt Q h cells slots pc L (S) := by
  obtain ⟨d, rfl⟩ := d
  exact own_step (fun hx _ hby _ X _ _ q => XS.iload X.here hx rfl (hb hby d) hl q) k
theorem own_iloadN {j : Fin 4} {x : Int32} (d : own_D cod pc (.iload_n j) 1 pc') (hl : L[j.val]? = some (.val (.int x))) (k : own_V l Z n0 R own nm cod mxl rt Q h cells slots pc' L (.int x :: S)) : own_V l Z n0 R own nm cod mxl rt Q h cells slots pc L (S) := by
  obtain ⟨d, rfl⟩ := d
  exact own_step (fun hx _ hby _ X _ _ q => XS.iloadN X.here hx rfl (hb hby d) hl q) k
theorem own_lload {j : Nat} {x : Int64} (d : own_D cod pc (.lload j) 2 pc') (hl : L[j]? = some (.val (.long x))) (k : own_V l Z n0 R own nm cod mxl rt Q h cells slots pc' L (.long x :: S)) : own_V l Z n0 R own nm cod mxl rt Q h cells slots pc L (S) := by
  obtain ⟨d, rfl⟩ := d
  exact own_step (fun hx _ hby _ X _ _ q => XS.lload X.here hx rfl (hb hby d) hl q) k
theorem own_lloadN {j : Fin 4} {x : Int64} (d : own_D cod pc (.lload_n j) 1 pc') (hl : L[j.val]? = some (.val (.long x))) (k : own_V l Z n0 R own nm cod mxl rt Q h cells slots pc' L (.long x :: S)) : own_V l Z n0 R own nm cod mxl rt Q h cells slots pc L (S) := by
  obtain ⟨d, rfl⟩ := d
  exact own_step (fun hx _ hby _ X _ _ q => XS.lloadN X.here hx rfl (hb hby d) hl q) k
theorem own_aload {j : Nat} {x : Value} (d : own_D cod pc (.aload j) 2 pc') (hl : L[j]? = some (.val x)) (hv : x.isRef = true) (k : own_V l Z n0 R own nm cod mxl rt Q h cells slots pc' L (x :: S)) : own_V l Z n0 R own nm cod mxl rt Q h cells slots pc L (S) := by
  obtain ⟨d, rfl⟩ := d
  exact own_step (fun hx _ hby _ X _ _ q => XS.aload X.here hx rfl (hb hby d) hl hv q) k
theorem own_aloadN {j : Fin 4} {x : Value} (d : own_D cod pc (.aload_n j) 1 pc') (hl : L[j.val]? = some (.val x)) (hv : x.isRef = true) (k : own_V l Z n0 R own nm cod mxl rt Q h cells slots pc' L (x :: S)) : own_V l Z n0 R own nm cod mxl rt Q h cells slots pc L (S) := by
  obtain ⟨d, rfl⟩ := d
  exact own_step (fun hx _ hby _ X _ _ q => XS.aloadN X.here hx rfl (hb hby d) hl hv q) k
theorem own_istore {j : Nat} {x : Int32} (d : own_D cod pc (.istore j) 2 pc') (hl : storeLocals L j (.int x) = some L') (k : own_V l Z n0 R own nm cod mxl rt Q h cells slots pc' L' S) : own_V l Z n0 R own nm cod mxl rt Q h cells slots pc L (.int x :: S) := by
  obtain ⟨d, rfl⟩ := d
  exact own_step (fun hx _ hby _ X _ _ q => XS.istore X.here hx rfl (hb hby d) rfl hl q) k
theorem own_istoreN {j : Fin 4} {x : Int32} (d : own_D cod pc (.istore_n j) 1 pc') (hl : storeLocals L j.val (.int x) = some L') (k : own_V l Z n0 R own nm cod mxl rt Q h cells slots pc' L' S) : own_V l Z n0 R own nm cod mxl rt Q h cells slots pc L (.int x :: S) := by
  obtain ⟨d, rfl⟩ := d
  exact own_step (fun hx _ hby _ X _ _ q => XS.istoreN X.here hx rfl (hb hby d) rfl hl q) k
theorem own_lstore {j : Nat} {x : Int64} (d : own_D cod pc (.lstore j) 2 pc') (hl : storeLocals L j (.long x) = some L') (k : own_V l Z n0 R own nm cod mxl rt Q h cells slots pc' L' S) : own_V l Z n0 R own nm cod mxl rt Q h cells slots pc L (.long x :: S) := by
  obtain ⟨d, rfl⟩ := d
  exact own_step (fun hx _ hby _ X _ _ q => XS.lstore X.here hx rfl (hb hby d) rfl hl q) k
theorem own_lstoreN {j : Fin 4} {x : Int64} (d : own_D cod pc (.lstore_n j) 1 pc') (hl : storeLocals L j.val (.long x) = some L') (k : own_V l Z n0 R own nm cod mxl rt Q h cells slots pc' L' S) : own_V l Z n0 R own nm cod mxl rt Q h cells slots pc L (.long x :: S) := by
  obtain ⟨d, rfl⟩ := d
  exact own_step (fun hx _ hby _ X _ _ q => XS.lstoreN X.here hx rfl (hb hby d) rfl hl q) k
theorem own_astore {j : Nat} {x : Value} (d : own_D cod pc (.astore j) 2 pc') (hv : x.isRef = true) (hl : storeLocals L j x = some L') (k : own_V l Z n0 R own nm cod mxl rt Q h cells slots pc' L' S) : own_V l Z n0 R own nm cod mxl rt Q h cells slots pc L (x :: S) := by
  obtain ⟨d, rfl⟩ := d
  exact own_step (fun hx _ hby _ X _ _ q => XS.astore X.here hx rfl (hb hby d) rfl hv hl q) k
theorem own_astoreN {j : Fin 4} {x : Value} (d : own_D cod pc (.astore_n j) 1 pc') (hv : x.isRef = true) (hl : storeLocals L j.val x = some L') (k : own_V l Z n0 R own nm cod mxl rt Q h cells slots pc' L' S) : own_V l Z n0 R own nm cod mxl rt Q h cells slots pc L (x :: S) := by
  obtain ⟨d, rfl⟩ := d
  exact own_step (fun hx _ hby _ X _ _ q => XS.astoreN X.here hx rfl (hb hby d) rfl hv hl q) k
theorem own_iinc {j : Nat} {cst : Int} {x z : Int32} (d : own_D cod pc (.iinc j cst) 3 pc') (hl : L[j]? = some (.val (.int x))) (hz : Int32.ofInt cst = z) (hl' : storeLocals L j (.int (x + z)) = some L') (k : own_V l Z n0 R own nm cod mxl rt Q h cells slots pc' L' S) : own_V l Z n0 R own nm cod mxl rt Q h cells slots pc L S := by
  obtain ⟨d, rfl⟩ := d
  subst hz
  exact own_step (fun hx _ hby _ X _ _ q => XS.iinc X.here hx rfl (hb hby d) hl hl' q) k
theorem own_dup {x : Value} (d : own_D cod pc (.dup) 1 pc') (hc : x.category = 1) (k : own_V l Z n0 R own nm cod mxl rt Q h cells slots pc' L (x :: x :: S)) : own_V l Z n0 R own nm cod mxl rt Q h cells slots pc L (x :: S) := by
  obtain ⟨d, rfl⟩ := d
  exact own_step (fun hx _ hby _ X _ _ q => XS.dup X.here hx rfl (hb hby d) rfl hc q) k
theorem own_pop {x : Value} (d : own_D cod pc (.pop) 1 pc') (hc : x.category = 1) (k : own_V l Z n0 R own nm cod mxl rt Q h cells slots pc' L S) : own_V l Z n0 R own nm cod mxl rt Q h cells slots pc L (x :: S) := by
  obtain ⟨d, rfl⟩ := d
  exact own_step (fun hx _ hby _ X _ _ q => XS.pop X.here hx rfl (hb hby d) rfl hc q) k
theorem own_dupX1 {x y : Value} (d : own_D cod pc (.dup_x1) 1 pc') (hc : x.category = 1) (hc2 : y.category = 1) (k : own_V l Z n0 R own nm cod mxl rt Q h cells slots pc' L (x :: y :: x :: S)) : own_V l Z n0 R own nm cod mxl rt Q h cells slots pc L (x :: y :: S) := by
  obtain ⟨d, rfl⟩ := d
  exact own_step (fun hx _ hby _ X _ _ q => XS.dupX1 X.here hx rfl (hb hby d) rfl hc hc2 q) k
theorem own_goto {o : Int} {t : Nat} (d : own_B cod pc (.goto o) o pc' t) (k : own_V l Z n0 R own nm cod mxl rt Q h cells slots t L S) : own_V l Z n0 R own nm cod mxl rt Q h cells slots pc L S := by
  obtain ⟨d, -, h1, rfl⟩ := d
  exact own_step (fun hx _ hby _ X _ _ q => XS.goto X.here hx rfl rfl (hb hby d) h1 rfl q) k
theorem own_icmpB {cd : ClassFile.Cond} {o : Int} {t : Nat} {x y : Int32} (d : own_B cod pc (.if_icmp cd o) o pc' t) (k1 : if_icmp.holds cd x y = true → own_V l Z n0 R own nm cod mxl rt Q h cells slots t L S) (k2 : if_icmp.holds cd x y = false → own_V l Z n0 R own nm cod mxl rt Q h cells slots pc' L S) : own_V l Z n0 R own nm cod mxl rt Q h cells slots pc L (.int y :: .int x :: S) := by
  obtain ⟨d, rfl, h1, rfl⟩ := d
  cases q : if_icmp.holds cd x y
  · exact own_step (fun hx _ hby _ X _ _ w => XS.icmpNo X.here hx rfl (hb hby d) rfl q w) (k2 q)
  · exact own_step (fun hx _ hby _ X _ _ w => XS.icmpYes X.here hx rfl rfl (hb hby d) rfl q h1 rfl w) (k1 q)
theorem own_ifB {cd : ClassFile.Cond} {o : Int} {t : Nat} {x : Int32} (d : own_B cod pc (.ifCond cd o) o pc' t) (k1 : if_icmp.holds cd x 0 = true → own_V l Z n0 R own nm cod mxl rt Q h cells slots t L S) (k2 : if_icmp.holds cd x 0 = false → own_V l Z n0 R own nm cod mxl rt Q h cells slots pc' L S) : own_V l Z n0 R own nm cod mxl rt Q h cells slots pc L (.int x :: S) := by
  obtain ⟨d, rfl, h1, rfl⟩ := d
  cases q : if_icmp.holds cd x 0
  · exact own_step (fun hx _ hby _ X _ _ w => XS.ifNo X.here hx rfl (hb hby d) rfl ((if0 _ _).trans q) w) (k2 q)
  · exact own_step (fun hx _ hby _ X _ _ w => XS.ifYes X.here hx rfl rfl (hb hby d) rfl ((if0 _ _).trans q) h1 rfl w) (k1 q)
theorem own_lcmpB {cd : ClassFile.Cond} {o : Int} {t pc1 : Nat} {x y : Int64} (d1 : own_D cod pc (.lcmp) 1 pc1) (d : own_B cod pc1 (.ifCond cd o) o pc' t) (k1 : if_icmp.holds cd (lcmpW x y) 0 = true → own_V l Z n0 R own nm cod mxl rt Q h cells slots t L S) (k2 : if_icmp.holds cd (lcmpW x y) 0 = false → own_V l Z n0 R own nm cod mxl rt Q h cells slots pc' L S) : own_V l Z n0 R own nm cod mxl rt Q h cells slots pc L (.long y :: .long x :: S) := by
  obtain ⟨d1, rfl⟩ := d1
  exact own_step (fun hx _ hby _ X _ _ w => XS.lcmp X.here hx rfl (hb hby d1) rfl w) (own_ifB d k1 k2)
theorem own_ricmpLt {x y : Int32} : if_icmp.holds .lt x y = true ↔ x.toInt < y.toInt := by
  have z0 : (0 : Int32).toInt = 0 := rfl
  simp only [if_icmp.holds, decide_eq_true_eq, Int32.lt_iff_toInt_lt, Int32.le_iff_toInt_le, gt_iff_lt, ge_iff_le, z0]
theorem own_icmpLt {o : Int} {t : Nat} {x y : Int32} (d : own_B cod pc (.if_icmp .lt o) o pc' t) (k1 : x.toInt < y.toInt → own_V l Z n0 R own nm cod mxl rt Q h cells slots t L S) (k2 : ¬ (x.toInt < y.toInt) → own_V l Z n0 R own nm cod mxl rt Q h cells slots pc' L S) : own_V l Z n0 R own nm cod mxl rt Q h cells slots pc L (.int y :: .int x :: S) :=
  own_icmpB d (fun q => k1 (own_ricmpLt.mp q)) (fun q => k2 fun w => by rw [own_ricmpLt.mpr w] at q; cases q)
theorem own_rifLt {x : Int32} : if_icmp.holds .lt x 0 = true ↔ x.toInt < (0 : Int) := by
  have z0 : (0 : Int32).toInt = 0 := rfl
  simp only [if_icmp.holds, decide_eq_true_eq, Int32.lt_iff_toInt_lt, Int32.le_iff_toInt_le, gt_iff_lt, ge_iff_le, z0]
theorem own_ifLt {o : Int} {t : Nat} {x : Int32} (d : own_B cod pc (.ifCond .lt o) o pc' t) (k1 : x.toInt < (0 : Int) → own_V l Z n0 R own nm cod mxl rt Q h cells slots t L S) (k2 : ¬ (x.toInt < (0 : Int)) → own_V l Z n0 R own nm cod mxl rt Q h cells slots pc' L S) : own_V l Z n0 R own nm cod mxl rt Q h cells slots pc L (.int x :: S) :=
  own_ifB d (fun q => k1 (own_rifLt.mp q)) (fun q => k2 fun w => by rw [own_rifLt.mpr w] at q; cases q)
theorem own_rlcmpLt {x y : Int64} : if_icmp.holds .lt (lcmpW x y) 0 = true ↔ x.toInt < y.toInt := by
  have e := lw_lt x y; have e2 := lw_gt x y; rw [Int64.lt_iff_toInt_lt] at e e2; rw [Int32.lt_iff_toInt_lt] at e e2
  have z0 : (0 : Int32).toInt = 0 := rfl
  simp only [if_icmp.holds, decide_eq_true_eq, Int32.lt_iff_toInt_lt, Int32.le_iff_toInt_le, gt_iff_lt, ge_iff_le, z0] at *
  omega
theorem own_lcmpLt {o : Int} {t pc1 : Nat} {x y : Int64} (d1 : own_D cod pc (.lcmp) 1 pc1) (d : own_B cod pc1 (.ifCond .lt o) o pc' t) (k1 : x.toInt < y.toInt → own_V l Z n0 R own nm cod mxl rt Q h cells slots t L S) (k2 : ¬ (x.toInt < y.toInt) → own_V l Z n0 R own nm cod mxl rt Q h cells slots pc' L S) : own_V l Z n0 R own nm cod mxl rt Q h cells slots pc L (.long y :: .long x :: S) :=
  own_lcmpB d1 d (fun q => k1 (own_rlcmpLt.mp q)) (fun q => k2 fun w => by rw [own_rlcmpLt.mpr w] at q; cases q)
theorem own_ricmpGe {x y : Int32} : if_icmp.holds .ge x y = true ↔ x.toInt ≥ y.toInt := by
  have z0 : (0 : Int32).toInt = 0 := rfl
  simp only [if_icmp.holds, decide_eq_true_eq, Int32.lt_iff_toInt_lt, Int32.le_iff_toInt_le, gt_iff_lt, ge_iff_le, z0]
theorem own_icmpGe {o : Int} {t : Nat} {x y : Int32} (d : own_B cod pc (.if_icmp .ge o) o pc' t) (k1 : x.toInt ≥ y.toInt → own_V l Z n0 R own nm cod mxl rt Q h cells slots t L S) (k2 : ¬ (x.toInt ≥ y.toInt) → own_V l Z n0 R own nm cod mxl rt Q h cells slots pc' L S) : own_V l Z n0 R own nm cod mxl rt Q h cells slots pc L (.int y :: .int x :: S) :=
  own_icmpB d (fun q => k1 (own_ricmpGe.mp q)) (fun q => k2 fun w => by rw [own_ricmpGe.mpr w] at q; cases q)
theorem own_rifGe {x : Int32} : if_icmp.holds .ge x 0 = true ↔ x.toInt ≥ (0 : Int) := by
  have z0 : (0 : Int32).toInt = 0 := rfl
  simp only [if_icmp.holds, decide_eq_true_eq, Int32.lt_iff_toInt_lt, Int32.le_iff_toInt_le, gt_iff_lt, ge_iff_le, z0]
theorem own_ifGe {o : Int} {t : Nat} {x : Int32} (d : own_B cod pc (.ifCond .ge o) o pc' t) (k1 : x.toInt ≥ (0 : Int) → own_V l Z n0 R own nm cod mxl rt Q h cells slots t L S) (k2 : ¬ (x.toInt ≥ (0 : Int)) → own_V l Z n0 R own nm cod mxl rt Q h cells slots pc' L S) : own_V l Z n0 R own nm cod mxl rt Q h cells slots pc L (.int x :: S) :=
  own_ifB d (fun q => k1 (own_rifGe.mp q)) (fun q => k2 fun w => by rw [own_rifGe.mpr w] at q; cases q)
theorem own_rlcmpGe {x y : Int64} : if_icmp.holds .ge (lcmpW x y) 0 = true ↔ x.toInt ≥ y.toInt := by
  have e := lw_lt x y; have e2 := lw_gt x y; rw [Int64.lt_iff_toInt_lt] at e e2; rw [Int32.lt_iff_toInt_lt] at e e2
  have z0 : (0 : Int32).toInt = 0 := rfl
  simp only [if_icmp.holds, decide_eq_true_eq, Int32.lt_iff_toInt_lt, Int32.le_iff_toInt_le, gt_iff_lt, ge_iff_le, z0] at *
  omega
theorem own_lcmpGe {o : Int} {t pc1 : Nat} {x y : Int64} (d1 : own_D cod pc (.lcmp) 1 pc1) (d : own_B cod pc1 (.ifCond .ge o) o pc' t) (k1 : x.toInt ≥ y.toInt → own_V l Z n0 R own nm cod mxl rt Q h cells slots t L S) (k2 : ¬ (x.toInt ≥ y.toInt) → own_V l Z n0 R own nm cod mxl rt Q h cells slots pc' L S) : own_V l Z n0 R own nm cod mxl rt Q h cells slots pc L (.long y :: .long x :: S) :=
  own_lcmpB d1 d (fun q => k1 (own_rlcmpGe.mp q)) (fun q => k2 fun w => by rw [own_rlcmpGe.mpr w] at q; cases q)
theorem own_ricmpGt {x y : Int32} : if_icmp.holds .gt x y = true ↔ x.toInt > y.toInt := by
  have z0 : (0 : Int32).toInt = 0 := rfl
  simp only [if_icmp.holds, decide_eq_true_eq, Int32.lt_iff_toInt_lt, Int32.le_iff_toInt_le, gt_iff_lt, ge_iff_le, z0]
theorem own_icmpGt {o : Int} {t : Nat} {x y : Int32} (d : own_B cod pc (.if_icmp .gt o) o pc' t) (k1 : x.toInt > y.toInt → own_V l Z n0 R own nm cod mxl rt Q h cells slots t L S) (k2 : ¬ (x.toInt > y.toInt) → own_V l Z n0 R own nm cod mxl rt Q h cells slots pc' L S) : own_V l Z n0 R own nm cod mxl rt Q h cells slots pc L (.int y :: .int x :: S) :=
  own_icmpB d (fun q => k1 (own_ricmpGt.mp q)) (fun q => k2 fun w => by rw [own_ricmpGt.mpr w] at q; cases q)
theorem own_rifGt {x : Int32} : if_icmp.holds .gt x 0 = true ↔ x.toInt > (0 : Int) := by
  have z0 : (0 : Int32).toInt = 0 := rfl
  simp only [if_icmp.holds, decide_eq_true_eq, Int32.lt_iff_toInt_lt, Int32.le_iff_toInt_le, gt_iff_lt, ge_iff_le, z0]
theorem own_ifGt {o : Int} {t : Nat} {x : Int32} (d : own_B cod pc (.ifCond .gt o) o pc' t) (k1 : x.toInt > (0 : Int) → own_V l Z n0 R own nm cod mxl rt Q h cells slots t L S) (k2 : ¬ (x.toInt > (0 : Int)) → own_V l Z n0 R own nm cod mxl rt Q h cells slots pc' L S) : own_V l Z n0 R own nm cod mxl rt Q h cells slots pc L (.int x :: S) :=
  own_ifB d (fun q => k1 (own_rifGt.mp q)) (fun q => k2 fun w => by rw [own_rifGt.mpr w] at q; cases q)
theorem own_rlcmpGt {x y : Int64} : if_icmp.holds .gt (lcmpW x y) 0 = true ↔ x.toInt > y.toInt := by
  have e := lw_lt x y; have e2 := lw_gt x y; rw [Int64.lt_iff_toInt_lt] at e e2; rw [Int32.lt_iff_toInt_lt] at e e2
  have z0 : (0 : Int32).toInt = 0 := rfl
  simp only [if_icmp.holds, decide_eq_true_eq, Int32.lt_iff_toInt_lt, Int32.le_iff_toInt_le, gt_iff_lt, ge_iff_le, z0] at *
  omega
theorem own_lcmpGt {o : Int} {t pc1 : Nat} {x y : Int64} (d1 : own_D cod pc (.lcmp) 1 pc1) (d : own_B cod pc1 (.ifCond .gt o) o pc' t) (k1 : x.toInt > y.toInt → own_V l Z n0 R own nm cod mxl rt Q h cells slots t L S) (k2 : ¬ (x.toInt > y.toInt) → own_V l Z n0 R own nm cod mxl rt Q h cells slots pc' L S) : own_V l Z n0 R own nm cod mxl rt Q h cells slots pc L (.long y :: .long x :: S) :=
  own_lcmpB d1 d (fun q => k1 (own_rlcmpGt.mp q)) (fun q => k2 fun w => by rw [own_rlcmpGt.mpr w] at q; cases q)
theorem own_ricmpLe {x y : Int32} : if_icmp.holds .le x y = true ↔ x.toInt ≤ y.toInt := by
  have z0 : (0 : Int32).toInt = 0 := rfl
  simp only [if_icmp.holds, decide_eq_true_eq, Int32.lt_iff_toInt_lt, Int32.le_iff_toInt_le, gt_iff_lt, ge_iff_le, z0]
theorem own_icmpLe {o : Int} {t : Nat} {x y : Int32} (d : own_B cod pc (.if_icmp .le o) o pc' t) (k1 : x.toInt ≤ y.toInt → own_V l Z n0 R own nm cod mxl rt Q h cells slots t L S) (k2 : ¬ (x.toInt ≤ y.toInt) → own_V l Z n0 R own nm cod mxl rt Q h cells slots pc' L S) : own_V l Z n0 R own nm cod mxl rt Q h cells slots pc L (.int y :: .int x :: S) :=
  own_icmpB d (fun q => k1 (own_ricmpLe.mp q)) (fun q => k2 fun w => by rw [own_ricmpLe.mpr w] at q; cases q)
theorem own_rifLe {x : Int32} : if_icmp.holds .le x 0 = true ↔ x.toInt ≤ (0 : Int) := by
  have z0 : (0 : Int32).toInt = 0 := rfl
  simp only [if_icmp.holds, decide_eq_true_eq, Int32.lt_iff_toInt_lt, Int32.le_iff_toInt_le, gt_iff_lt, ge_iff_le, z0]
theorem own_ifLe {o : Int} {t : Nat} {x : Int32} (d : own_B cod pc (.ifCond .le o) o pc' t) (k1 : x.toInt ≤ (0 : Int) → own_V l Z n0 R own nm cod mxl rt Q h cells slots t L S) (k2 : ¬ (x.toInt ≤ (0 : Int)) → own_V l Z n0 R own nm cod mxl rt Q h cells slots pc' L S) : own_V l Z n0 R own nm cod mxl rt Q h cells slots pc L (.int x :: S) :=
  own_ifB d (fun q => k1 (own_rifLe.mp q)) (fun q => k2 fun w => by rw [own_rifLe.mpr w] at q; cases q)
theorem own_rlcmpLe {x y : Int64} : if_icmp.holds .le (lcmpW x y) 0 = true ↔ x.toInt ≤ y.toInt := by
  have e := lw_lt x y; have e2 := lw_gt x y; rw [Int64.lt_iff_toInt_lt] at e e2; rw [Int32.lt_iff_toInt_lt] at e e2
  have z0 : (0 : Int32).toInt = 0 := rfl
  simp only [if_icmp.holds, decide_eq_true_eq, Int32.lt_iff_toInt_lt, Int32.le_iff_toInt_le, gt_iff_lt, ge_iff_le, z0] at *
  omega
theorem own_lcmpLe {o : Int} {t pc1 : Nat} {x y : Int64} (d1 : own_D cod pc (.lcmp) 1 pc1) (d : own_B cod pc1 (.ifCond .le o) o pc' t) (k1 : x.toInt ≤ y.toInt → own_V l Z n0 R own nm cod mxl rt Q h cells slots t L S) (k2 : ¬ (x.toInt ≤ y.toInt) → own_V l Z n0 R own nm cod mxl rt Q h cells slots pc' L S) : own_V l Z n0 R own nm cod mxl rt Q h cells slots pc L (.long y :: .long x :: S) :=
  own_lcmpB d1 d (fun q => k1 (own_rlcmpLe.mp q)) (fun q => k2 fun w => by rw [own_rlcmpLe.mpr w] at q; cases q)
theorem own_ricmpEq {x y : Int32} : if_icmp.holds .eq x y = true ↔ x.toInt = y.toInt := by
  have e : True := trivial
  have e0 : ∀ x : Int32, x = 0 ↔ x.toInt = 0 := fun x => ⟨fun q => by rw [q]; rfl, fun q => Int32.toInt_inj.mp (q.trans rfl)⟩
  simp only [if_icmp.holds, beq_iff_eq, bne_iff_ne, ne_eq, Int32.toInt_inj]
theorem own_icmpEq {o : Int} {t : Nat} {x y : Int32} (d : own_B cod pc (.if_icmp .eq o) o pc' t) (k1 : x.toInt = y.toInt → own_V l Z n0 R own nm cod mxl rt Q h cells slots t L S) (k2 : ¬ (x.toInt = y.toInt) → own_V l Z n0 R own nm cod mxl rt Q h cells slots pc' L S) : own_V l Z n0 R own nm cod mxl rt Q h cells slots pc L (.int y :: .int x :: S) :=
  own_icmpB d (fun q => k1 (own_ricmpEq.mp q)) (fun q => k2 (by
    have e : ¬ (x.toInt = y.toInt) := fun w => by rw [own_ricmpEq.mpr w] at q; cases q
    first | exact e | exact Decidable.not_not.mp e))
theorem own_rifEq {x : Int32} : if_icmp.holds .eq x 0 = true ↔ x.toInt = (0 : Int) := by
  have e : True := trivial
  have e0 : ∀ x : Int32, x = 0 ↔ x.toInt = 0 := fun x => ⟨fun q => by rw [q]; rfl, fun q => Int32.toInt_inj.mp (q.trans rfl)⟩
  simp only [if_icmp.holds, beq_iff_eq, bne_iff_ne, ne_eq, e0]
theorem own_ifEq {o : Int} {t : Nat} {x : Int32} (d : own_B cod pc (.ifCond .eq o) o pc' t) (k1 : x.toInt = (0 : Int) → own_V l Z n0 R own nm cod mxl rt Q h cells slots t L S) (k2 : ¬ (x.toInt = (0 : Int)) → own_V l Z n0 R own nm cod mxl rt Q h cells slots pc' L S) : own_V l Z n0 R own nm cod mxl rt Q h cells slots pc L (.int x :: S) :=
  own_ifB d (fun q => k1 (own_rifEq.mp q)) (fun q => k2 (by
    have e : ¬ (x.toInt = (0 : Int)) := fun w => by rw [own_rifEq.mpr w] at q; cases q
    first | exact e | exact Decidable.not_not.mp e))
theorem own_rlcmpEq {x y : Int64} : if_icmp.holds .eq (lcmpW x y) 0 = true ↔ x.toInt = y.toInt := by
  have e : (lcmpW x y = 0 ↔ x.toInt = y.toInt) := (lw_eq x y).trans Int64.toInt_inj.symm
  have e0 : ∀ x : Int32, x = 0 ↔ x.toInt = 0 := fun x => ⟨fun q => by rw [q]; rfl, fun q => Int32.toInt_inj.mp (q.trans rfl)⟩
  simp only [if_icmp.holds, beq_iff_eq, bne_iff_ne, ne_eq, e]
theorem own_lcmpEq {o : Int} {t pc1 : Nat} {x y : Int64} (d1 : own_D cod pc (.lcmp) 1 pc1) (d : own_B cod pc1 (.ifCond .eq o) o pc' t) (k1 : x.toInt = y.toInt → own_V l Z n0 R own nm cod mxl rt Q h cells slots t L S) (k2 : ¬ (x.toInt = y.toInt) → own_V l Z n0 R own nm cod mxl rt Q h cells slots pc' L S) : own_V l Z n0 R own nm cod mxl rt Q h cells slots pc L (.long y :: .long x :: S) :=
  own_lcmpB d1 d (fun q => k1 (own_rlcmpEq.mp q)) (fun q => k2 (by
    have e : ¬ (x.toInt = y.toInt) := fun w => by rw [own_rlcmpEq.mpr w] at q; cases q
    first | exact e | exact Decidable.not_not.mp e))
theorem own_ricmpNe {x y : Int32} : if_icmp.holds .ne x y = true ↔ ¬ (x.toInt = y.toInt) := by
  have e : True := trivial
  have e0 : ∀ x : Int32, x = 0 ↔ x.toInt = 0 := fun x => ⟨fun q => by rw [q]; rfl, fun q => Int32.toInt_inj.mp (q.trans rfl)⟩
  simp only [if_icmp.holds, beq_iff_eq, bne_iff_ne, ne_eq, Int32.toInt_inj]
theorem own_icmpNe {o : Int} {t : Nat} {x y : Int32} (d : own_B cod pc (.if_icmp .ne o) o pc' t) (k1 : ¬ (x.toInt = y.toInt) → own_V l Z n0 R own nm cod mxl rt Q h cells slots t L S) (k2 : x.toInt = y.toInt → own_V l Z n0 R own nm cod mxl rt Q h cells slots pc' L S) : own_V l Z n0 R own nm cod mxl rt Q h cells slots pc L (.int y :: .int x :: S) :=
  own_icmpB d (fun q => k1 (own_ricmpNe.mp q)) (fun q => k2 (by
    have e : ¬ (¬ (x.toInt = y.toInt)) := fun w => by rw [own_ricmpNe.mpr w] at q; cases q
    first | exact e | exact Decidable.not_not.mp e))
theorem own_rifNe {x : Int32} : if_icmp.holds .ne x 0 = true ↔ ¬ (x.toInt = (0 : Int)) := by
  have e : True := trivial
  have e0 : ∀ x : Int32, x = 0 ↔ x.toInt = 0 := fun x => ⟨fun q => by rw [q]; rfl, fun q => Int32.toInt_inj.mp (q.trans rfl)⟩
  simp only [if_icmp.holds, beq_iff_eq, bne_iff_ne, ne_eq, e0]
theorem own_ifNe {o : Int} {t : Nat} {x : Int32} (d : own_B cod pc (.ifCond .ne o) o pc' t) (k1 : ¬ (x.toInt = (0 : Int)) → own_V l Z n0 R own nm cod mxl rt Q h cells slots t L S) (k2 : x.toInt = (0 : Int) → own_V l Z n0 R own nm cod mxl rt Q h cells slots pc' L S) : own_V l Z n0 R own nm cod mxl rt Q h cells slots pc L (.int x :: S) :=
  own_ifB d (fun q => k1 (own_rifNe.mp q)) (fun q => k2 (by
    have e : ¬ (¬ (x.toInt = (0 : Int))) := fun w => by rw [own_rifNe.mpr w] at q; cases q
    first | exact e | exact Decidable.not_not.mp e))
theorem own_rlcmpNe {x y : Int64} : if_icmp.holds .ne (lcmpW x y) 0 = true ↔ ¬ (x.toInt = y.toInt) := by
  have e : (lcmpW x y = 0 ↔ x.toInt = y.toInt) := (lw_eq x y).trans Int64.toInt_inj.symm
  have e0 : ∀ x : Int32, x = 0 ↔ x.toInt = 0 := fun x => ⟨fun q => by rw [q]; rfl, fun q => Int32.toInt_inj.mp (q.trans rfl)⟩
  simp only [if_icmp.holds, beq_iff_eq, bne_iff_ne, ne_eq, e]
theorem own_lcmpNe {o : Int} {t pc1 : Nat} {x y : Int64} (d1 : own_D cod pc (.lcmp) 1 pc1) (d : own_B cod pc1 (.ifCond .ne o) o pc' t) (k1 : ¬ (x.toInt = y.toInt) → own_V l Z n0 R own nm cod mxl rt Q h cells slots t L S) (k2 : x.toInt = y.toInt → own_V l Z n0 R own nm cod mxl rt Q h cells slots pc' L S) : own_V l Z n0 R own nm cod mxl rt Q h cells slots pc L (.long y :: .long x :: S) :=
  own_lcmpB d1 d (fun q => k1 (own_rlcmpNe.mp q)) (fun q => k2 (by
    have e : ¬ (¬ (x.toInt = y.toInt)) := fun w => by rw [own_rlcmpNe.mpr w] at q; cases q
    first | exact e | exact Decidable.not_not.mp e))
theorem own_acmpEq {o : Int} {t : Nat} {v w : Value} (d : own_B cod pc (.if_acmp .eq o) o pc' t) (hv : v.isRef = true) (hw : w.isRef = true) (k1 : v = w → own_V l Z n0 R own nm cod mxl rt Q h cells slots t L S) (k2 : ¬ (v = w) → own_V l Z n0 R own nm cod mxl rt Q h cells slots pc' L S) : own_V l Z n0 R own nm cod mxl rt Q h cells slots pc L (w :: v :: S) := by
  obtain ⟨d, rfl, h1, rfl⟩ := d
  by_cases q : v = w
  · exact own_step (fun hx _ hby _ X _ _ z => Jvm.RoadKit.acmp X hx rfl hv hw (same := true) rfl (hb hby d) rfl (decide_eq_true q) h1 rfl z) (k1 q)
  · exact own_step (fun hx _ hby _ X _ _ z => Jvm.RoadKit.acmp X hx rfl hv hw (same := false) rfl (hb hby d) rfl (decide_eq_false q) h1 rfl z) (k2 q)
theorem own_acmpNe {o : Int} {t : Nat} {v w : Value} (d : own_B cod pc (.if_acmp .ne o) o pc' t) (hv : v.isRef = true) (hw : w.isRef = true) (k1 : ¬ (v = w) → own_V l Z n0 R own nm cod mxl rt Q h cells slots t L S) (k2 : v = w → own_V l Z n0 R own nm cod mxl rt Q h cells slots pc' L S) : own_V l Z n0 R own nm cod mxl rt Q h cells slots pc L (w :: v :: S) := by
  obtain ⟨d, rfl, h1, rfl⟩ := d
  by_cases q : v = w
  · exact own_step (fun hx _ hby _ X _ _ z => Jvm.RoadKit.acmp X hx rfl hv hw (same := true) rfl (hb hby d) rfl (decide_eq_true q) h1 rfl z) (k2 q)
  · exact own_step (fun hx _ hby _ X _ _ z => Jvm.RoadKit.acmp X hx rfl hv hw (same := false) rfl (hb hby d) rfl (decide_eq_false q) h1 rfl z) (k1 q)
theorem own_ifnullN {o : Int} {t : Nat} (d : own_B cod pc (.ifnull o) o pc' t) (k : own_V l Z n0 R own nm cod mxl rt Q h cells slots t L S) : own_V l Z n0 R own nm cod mxl rt Q h cells slots pc L (.null :: S) := by
  obtain ⟨d, -, h1, rfl⟩ := d
  exact own_step (fun hx _ hby _ X _ _ q => XS.ifnullYes X.here hx rfl rfl (hb hby d) rfl h1 rfl q) k
theorem own_ifnullR {o : Int} {t : Nat} {a : Addr} (d : own_B cod pc (.ifnull o) o pc' t) (k : own_V l Z n0 R own nm cod mxl rt Q h cells slots pc' L S) : own_V l Z n0 R own nm cod mxl rt Q h cells slots pc L (.ref a :: S) := by
  obtain ⟨d, rfl, -, -⟩ := d
  exact own_step (fun hx _ hby _ X _ _ q => XS.ifnullNo X.here hx rfl (hb hby d) rfl q) k
theorem own_ifnonnullR {o : Int} {t : Nat} {a : Addr} (d : own_B cod pc (.ifnonnull o) o pc' t) (k : own_V l Z n0 R own nm cod mxl rt Q h cells slots t L S) : own_V l Z n0 R own nm cod mxl rt Q h cells slots pc L (.ref a :: S) := by
  obtain ⟨d, -, h1, rfl⟩ := d
  exact own_step (fun hx _ hby _ X _ _ q => XS.ifnonnullYes X.here hx rfl rfl (hb hby d) rfl h1 rfl q) k
theorem own_ifnonnullN {o : Int} {t : Nat} (d : own_B cod pc (.ifnonnull o) o pc' t) (k : own_V l Z n0 R own nm cod mxl rt Q h cells slots pc' L S) : own_V l Z n0 R own nm cod mxl rt Q h cells slots pc L (.null :: S) := by
  obtain ⟨d, rfl, -, -⟩ := d
  exact own_step (fun hx _ hby _ X _ _ q => XS.ifnonnullNo X.here hx rfl (hb hby d) rfl q) k
theorem own_ldcI {i : Nat} {x : Int32} (d : own_D cod pc (.ldc i) 2 pc') (w : (Cond.constant own i x).before a0 Z = true) (k : own_V l Z n0 R own nm cod mxl rt Q h cells slots pc' L (.int x :: S)) : own_V l Z n0 R own nm cod mxl rt Q h cells slots pc L S := by
  obtain ⟨d, rfl⟩ := d
  exact own_step (fun hx hZ hby hown X _ _ q => X.ldcInt hx hown (mvT hZ w) (g := mkF _ pc L S) rfl (hb hby d) _ q) k
theorem own_ldcwI {i : Nat} {x : Int32} (d : own_D cod pc (.ldc_w i) 3 pc') (w : (Cond.constant own i x).before a0 Z = true) (k : own_V l Z n0 R own nm cod mxl rt Q h cells slots pc' L (.int x :: S)) : own_V l Z n0 R own nm cod mxl rt Q h cells slots pc L S := by
  obtain ⟨d, rfl⟩ := d
  exact own_step (fun hx hZ hby hown X _ _ q => X.ldcwInt hx hown (mvT hZ w) (g := mkF _ pc L S) rfl (hb hby d) _ q) k
theorem own_ldcJ {i : Nat} {x : Int64} (d : own_D cod pc (.ldc2_w i) 3 pc') (w : (Cond.constantLong own i x).before a0 Z = true) (k : own_V l Z n0 R own nm cod mxl rt Q h cells slots pc' L (.long x :: S)) : own_V l Z n0 R own nm cod mxl rt Q h cells slots pc L S := by
  obtain ⟨d, rfl⟩ := d
  exact own_step (fun hx hZ hby hown X _ _ q => X.ldc2Long hx hown (mvT hZ w) (g := mkF _ pc L S) rfl (hb hby d) _ q) k
theorem own_getS {i : Nat} {R0 O n ds : String} {v : Value} (d : own_D cod pc (.getstatic i) 3 pc') (w : (Cond.fieldLink own i R0 n ds).before a0 Z = true) (via : Via Z R0 O n ds) (F : Sta Z h O n ds v) (k : own_V l Z n0 R own nm cod mxl rt Q h cells slots pc' L (v :: S)) : own_V l Z n0 R own nm cod mxl rt Q h cells slots pc L S := by
  obtain ⟨d, rfl⟩ := d
  refine own_stepC (F := fun h' S' => h' = h ∧ S' = v :: S) (fun hx hZ hby _ hown _ X eT N => ?_) (by rintro h' S' ⟨rfl, rfl⟩; exact k)
  obtain ⟨T', X', e', st⟩ := getS (host := "") X hx hZ hown w via eT F (g := mkF _ pc L S) rfl (hb hby d)
  exact ⟨T', _, _, ⟨e', rfl⟩, X', N, Nat.le_of_eq (by rw [e']), st⟩
theorem own_getF {i : Nat} {R0 O n ds : String} {v : Value} {a : Addr} (d : own_D cod pc (.getfield i) 3 pc') (w : (Cond.fieldLink own i R0 n ds).before a0 Z = true) (via : Via Z R0 O n ds) (F : Fld Z h a O n ds v) (k : own_V l Z n0 R own nm cod mxl rt Q h cells slots pc' L (v :: S)) : own_V l Z n0 R own nm cod mxl rt Q h cells slots pc L (.ref a :: S) := by
  obtain ⟨d, rfl⟩ := d
  refine own_stepC (F := fun h' S' => h' = h ∧ S' = v :: S) (fun hx hZ hby _ hown _ X eT N => ?_) (by rintro h' S' ⟨rfl, rfl⟩; exact k)
  obtain ⟨T', X', e', st⟩ := getF (host := "") X hx hZ hown (Or.inl w) via eT F (g := mkF _ pc L (.ref a :: S)) rfl rfl (hb hby d)
  exact ⟨T', _, _, ⟨e', rfl⟩, X', N, Nat.le_of_eq (by rw [e']), st⟩
theorem own_putF {i kk : Nat} {R0 O C n ds : String} {v old : Value} {a : Addr} {ty : FieldType} (d : own_D cod pc (.putfield i) 3 pc') (w : (Cond.fieldLink own i R0 n ds).before a0 Z = true) (via : Via Z R0 O n ds) (F : Fld Z h a O n ds old) (E : Exa Z h a C)
    (Lw : (Cond.lays C O n ds).before a0 Z = true ∨ ((Cond.laysFinal C O n ds).before a0 Z = true ∧ own = O ∧ nm = "<init>")) (wi : (Cond.instantiable C kk).before a0 Z = true) (hty : parseFieldDescriptor ds = some ty) (hn : narrow ty v = v) (hf : fits ty v = true) (ha : n0 ≤ a)
    (k : ∀ h', Wr h h' a (Jvm.RoadKit.slotOf Z O n ds) v → own_V l Z n0 R own nm cod mxl rt Q h' cells slots pc' L S) : own_V l Z n0 R own nm cod mxl rt Q h cells slots pc L (v :: .ref a :: S) := by
  obtain ⟨d, rfl⟩ := d
  refine own_stepC (F := fun h' S' => Wr h h' a (Jvm.RoadKit.slotOf Z O n ds) v ∧ S' = S) (fun hx hZ hby _ hown hnm X eT N => ?_) (by rintro h' S' ⟨W, rfl⟩; exact k h' W)
  obtain ⟨T', h', X', e', W', st⟩ := putF (host := "") X hx hZ hown (Or.inl w) via eT F E (Lw.imp id fun q => ⟨q.1, q.2.1, hnm.trans q.2.2⟩) wi hty hn hf (g := mkF _ pc L (v :: .ref a :: S)) rfl rfl (hb hby d)
  subst e'
  exact ⟨T', _, _, ⟨W', rfl⟩, X', Fr.snoc X' N ha, Nat.le_of_eq (Wr.size W').symm, st⟩
theorem own_new {i n cells' slots' : Nat} {C : String} (d : own_D cod pc (.new i) 3 pc') (w : (Cond.classLink own i C).before a0 Z = true) (wi : (Cond.instantiable C n).before a0 Z = true) (wz : (Cond.initialized C).before a0 Z = true) (hc : cells + 1 = cells') (hs : slots + n = slots') (hc' : cells' ≤ R.cells) (hs' : slots' ≤ R.slots)
    (k : ∀ h', Ext h h' → Exa Z h' h.size C → (∀ {O nf ds : String} {ty : FieldType}, Laid Z a0 C O nf ds → parseFieldDescriptor ds = some ty → Fld Z h' h.size O nf ds (defaultValue ty)) → own_V l Z n0 R own nm cod mxl rt Q h' cells' slots' pc' L (.ref h.size :: S)) : own_V l Z n0 R own nm cod mxl rt Q h cells slots pc L S := by
  obtain ⟨d, rfl⟩ := d
  subst hc hs
  refine own_stepC (F := fun h' S' => (Ext h h' ∧ Exa Z h' h.size C ∧ ∀ {O nf ds : String} {ty : FieldType}, Laid Z a0 C O nf ds → parseFieldDescriptor ds = some ty → Fld Z h' h.size O nf ds (defaultValue ty)) ∧ S' = .ref h.size :: S) (fun hx hZ hby _ hown _ X eT N => ?_) (by rintro h' S' ⟨⟨q1, q2, q3⟩, rfl⟩; exact k h' q1 q2 q3)
  obtain ⟨T', h', X', e', E', A', D', -, st⟩ := newO X hx hZ hown w wi wz eT (g := mkF _ pc L S) rfl (hb hby d) hc' hs'
  subst e'
  exact ⟨T', _, _, ⟨⟨E', A', D'⟩, rfl⟩, X', N, E'.1, st⟩
theorem own_initO {i W : Nat} {a : Addr} (d : own_D cod pc (.invokespecial i) 3 pc') (w1 : (Cond.methodLink own i Lib.objectInit).before a0 Z = true) (w2 : (Cond.instanceMethod Lib.objectInit).before a0 Z = true) (w3 : (Cond.code Lib.objectInit ⟨#[0xb1]⟩ 1 none).before a0 Z = true) (hsz : L.size = mxl) (hf : 1 ≤ R.frames) (hW : (S.map fun v => v.category).sum ≤ W) (hl : W + 12 ≤ R.locals)
    (k : own_V l Z n0 R own nm cod mxl rt Q h cells slots pc' L S) : own_V l Z n0 R own nm cod mxl rt Q h cells slots pc L (.ref a :: S) := by
  obtain ⟨d, rfl⟩ := d
  refine own_stepC (F := fun h' S' => h' = h ∧ S' = S) (fun hx hZ hby hml hown _ X eT N => ?_) (by rintro h' S' ⟨rfl, rfl⟩; exact k)
  obtain ⟨T', X', e', st⟩ := initO X hx hZ hown w1 w2 w3 eT (g := mkF _ pc L (.ref a :: S)) rfl (by rw [hml]; exact hsz) rfl (hb hby d) hf (W := W) (by show 2 * 0 + _ ≤ _; simpa using hW) hl
  exact ⟨T', _, _, ⟨e', rfl⟩, X', N, Nat.le_of_eq (by rw [e']), st⟩
theorem own_ret0 (d : decode cod pc = .ok (.return_, 1)) (hrt : rt = none) (hc : cells ≤ R.cells) (hs : slots ≤ R.slots) (hQ : Q none h) : own_V l Z n0 R own nm cod mxl rt Q h cells slots pc L [] := by
  intro p e s vm0 k0 m args below meth c T locs hx hZ hby hml hown hret hnm hlk X eT N hS hk
  obtain ⟨fs, hr, hrun, hended, hW, hsame⟩ := X.leave (v := none) (fun _ => rfl) hlk
  obtain ⟨w1, w2, w3⟩ := hS.ended hW (show k0 ≤ T.heap.size by rw [eT]; exact hk) hsame
  refine ⟨_, _, X.returnOut hx (hret.trans hrt) (hb hby d) hr, hrun, hended, _, _, rfl, ⟨?_, N⟩, ⟨_, rfl⟩, w1, w2, w3.mono hc hs⟩
  show Q none T.heap
  rw [eT]; exact hQ
theorem own_retV {v : Value} {t : FieldType} {i : Instr} (d : decode cod pc = .ok (i, 1)) (hrt : rt = some t) (hn : narrow t v = v)
    (hi : (i = .ireturn ∧ (t = .int ∨ t = .boolean ∨ t = .byte ∨ t = .char ∨ t = .short) ∧ ∃ z, v = .int z) ∨ (i = .lreturn ∧ t = .long ∧ ∃ z, v = .long z) ∨ (i = .dreturn ∧ t = .double ∧ ∃ z, v = .double z) ∨ (i = .freturn ∧ t = .float ∧ ∃ z, v = .float z) ∨ (i = .areturn ∧ t.isReference = true ∧ v.isRef = true))
    (hc : cells ≤ R.cells) (hs : slots ≤ R.slots) (hQ : Q (some v) h) : own_V l Z n0 R own nm cod mxl rt Q h cells slots pc L (v :: S) := by
  intro p e s vm0 k0 m args below meth c T locs hx hZ hby hml hown hret hnm hlk X eT N hS hk
  obtain ⟨fs, hr, hrun, hended, hW, hsame⟩ := X.leave (v := some v) (fun q => by rw [hret, hrt] at q; cases q) hlk
  obtain ⟨w1, w2, w3⟩ := hS.ended hW (show k0 ≤ T.heap.size by rw [eT]; exact hk) hsame
  refine ⟨_, _, retOut X hx (hret.trans hrt) hn hi (hb hby d) hr, hrun, hended, _, _, rfl, ⟨?_, N⟩, ⟨_, rfl⟩, w1, w2, w3.mono hc hs⟩
  show Q (some v) T.heap
  rw [eT]; exact hQ
theorem own_retI {x : Int32} (d : own_D cod pc (.ireturn) 1 pc') (hrt : rt = some .int) (hc : cells ≤ R.cells) (hs : slots ≤ R.slots) (hQ : Q (some (.int x)) h) : own_V l Z n0 R own nm cod mxl rt Q h cells slots pc L (.int x :: S) :=
  own_retV d.1 hrt rfl (Or.inl ⟨rfl, Or.inl rfl, _, rfl⟩) hc hs hQ
theorem own_retJ {x : Int64} (d : own_D cod pc (.lreturn) 1 pc') (hrt : rt = some .long) (hc : cells ≤ R.cells) (hs : slots ≤ R.slots) (hQ : Q (some (.long x)) h) : own_V l Z n0 R own nm cod mxl rt Q h cells slots pc L (.long x :: S) :=
  own_retV d.1 hrt rfl (Or.inr (Or.inl ⟨rfl, rfl, _, rfl⟩)) hc hs hQ
theorem own_retA {v : Value} {t : FieldType} (d : own_D cod pc (.areturn) 1 pc') (hrt : rt = some t) (ht : t.isReference = true) (hv : v.isRef = true) (hc : cells ≤ R.cells) (hs : slots ≤ R.slots) (hQ : Q (some v) h) : own_V l Z n0 R own nm cod mxl rt Q h cells slots pc L (v :: S) :=
  own_retV d.1 hrt (by rcases ref_cases hv with rfl | ⟨b, rfl⟩ <;> cases t <;> first | rfl | cases ht) (Or.inr (Or.inr (Or.inr (Or.inr ⟨rfl, ht, hv⟩)))) hc hs hQ
theorem own_retN {x : Int32} {t : FieldType} (d : own_D cod pc (.ireturn) 1 pc') (hrt : rt = some t) (ht : t = .boolean ∨ t = .byte ∨ t = .char ∨ t = .short) (hc : cells ≤ R.cells) (hs : slots ≤ R.slots) (hQ : Q (some (.int (nar t x))) h) : own_V l Z n0 R own nm cod mxl rt Q h cells slots pc L (.int x :: S) := by
  intro p e s vm0 k0 m args below meth c T locs hx hZ hby hml hown hret hnm hlk X eT N hS hk
  obtain ⟨fs, hr, hrun, hended, hW, hsame⟩ := X.leave (v := some (.int (nar t x))) (fun q => by rw [hret, hrt] at q; cases q) hlk
  obtain ⟨w1, w2, w3⟩ := hS.ended hW (show k0 ≤ T.heap.size by rw [eT]; exact hk) hsame
  refine ⟨_, _, retN X hx (hret.trans hrt) ht (hb hby d.1) hr, hrun, hended, _, _, rfl, ⟨?_, N⟩, ⟨_, rfl⟩, w1, w2, w3.mono hc hs⟩
  show Q (some (.int (nar t x))) T.heap
  rw [eT]; exact hQ
theorem own_retZ {x : Int32} (d : own_D cod pc (.ireturn) 1 pc') (hrt : rt = some .boolean) (hx01 : x = 0 ∨ x = 1) (hc : cells ≤ R.cells) (hs : slots ≤ R.slots) (hQ : Q (some (.int x)) h) : own_V l Z n0 R own nm cod mxl rt Q h cells slots pc L (.int x :: S) :=
  own_retN d hrt (Or.inl rfl) hc hs (by rcases hx01 with rfl | rfl <;> exact hQ)
theorem own_met {y : MethodName} {as' : Array Value} {L0 : Array Slot} (hpl : plainFor y = true) (hef : ∀ m, entryFrame m as' mxl = mkF m 0 L0 []) (k : own_V l Z n0 R y.cls y.name cod mxl rt Q h 0 0 0 L0 []) (ws : List Jvm.Cond) :
    MetFree l y (head1 (Jvm.Cond.code y cod mxl rt :: ws) R) (fun a U => a = as' ∧ Z.Warmed39 U.vm ∧ U.heap = h) (fun _ _ _ _ _ => True) (fun _ U o U' => ∃ v L, o = .returned v ∧ (Q v U'.heap ∧ Fr n0 L) ∧ ReturnedEndW U o U' L R.cells R.slots) := by
  refine MetFree.of_bodySF hpl hisR ?_
  intro p e s m args below meth c s₁ Bd hml0 hP hK
  obtain ⟨rfl, hZ, hh⟩ := hP
  have e0 : s₁.heap = h := by rw [← hh, Bd.state]; rfl
  obtain ⟨s₂, o, h1, r⟩ := k p e s s.vm 0 m _ below meth c s₁ [] Bd.exec hZ Bd.bytes hml0 (findClass_of_methodNamed Bd.named) Bd.returns (name_of_methodNamed Bd.named Bd.method).1 (BodyLoose.notSynchronized Bd) (Stand.of_body Bd) e0 (Fr.nil n0) ((State.WarmedH.refl s).since 0) (Nat.zero_le _)
  exact ⟨s₂, o, castTop (hef m) h1, r⟩
theorem own_callS {index : Nat} {y : MethodName} {cod' : ByteArray} {mxl' : Nat} {rt' : Option FieldType} {R' : Room} {Q' : Option Value → Heap → Prop} {L0 : Array Slot} {argsL rest : List Value} {W cells' slots' : Nat} {ps : List FieldType} {r : Option FieldType}
    (k0 : own_V l Z n0 R' y.cls y.name cod' mxl' rt' Q' h 0 0 0 L0 []) (hef : ∀ m, entryFrame m argsL.toArray mxl' = mkF m 0 L0 []) (hpl : plainFor y = true) (hpd : parseMethodDescriptor y.desc = some ⟨ps, r⟩) (hl : argsL.length = ps.length)
    (d : own_D cod pc (.invokestatic index) 3 pc') (w1 : (Cond.methodLink own index y).before a0 Z = true) (w2 : (Cond.static y).before a0 Z = true) (w3 : (Cond.initialized y.cls).before a0 Z = true) (w4 : (Cond.code y cod' mxl' rt').before a0 Z = true)
    (hy : y.cls ≠ "java/lang/invoke/MethodHandle" ∧ y.cls ≠ "java/lang/invoke/VarHandle") (hS : S = argsL.reverse ++ rest) (hsz : L.size = mxl) (hW : (rest.map fun v => v.category).sum ≤ W)
    (hf : R'.frames + 1 ≤ R.frames) (hlo : W + (mxl' + 11) + R'.locals ≤ R.locals) (hc : cells + R'.cells = cells') (hs : slots + R'.slots = slots') (hc' : cells' ≤ R.cells) (hs' : slots' ≤ R.slots)
    (k : ∀ v h', Q' v h' → own_V l Z n0 R own nm cod mxl rt Q h' cells' slots' pc' L (v.toList ++ rest)) : own_V l Z n0 R own nm cod mxl rt Q h cells slots pc L S := by
  obtain ⟨d, rfl⟩ := d
  subst hc hs
  refine own_stepS (F := fun h' S' => ∃ v, Q' v h' ∧ S' = v.toList ++ rest) (fun {p e s m args below meth c T locs} hx hZ hby hml hown _ X eT N => ?_) (by rintro h' _ ⟨v, q, rfl⟩; exact k v h' q)
  obtain ⟨v, vm1, ⟨T', L1, k1, n1⟩, -, X', hS', g', ⟨Lc, hQ, l1, y1, z1⟩, st⟩ := callSS X hx (y := y) hown (mvT hZ w1) (mvT hZ w2) (mvT hZ w3) (mvT hZ w4) hy (backOfS (W := W) (Q := fun v h L => Q' v h ∧ Fr n0 L) (own_met hpl hef k0 []) hZ w4 w3 hf hlo) (g := mkF m pc L S) rfl (by rw [hml]; exact hsz) (argsL := argsL) (rest := rest) (lenOf hpd hl) hS (by show 2 * 0 + _ ≤ _; simpa using hW) (hb hby d) (fun _ _ => ⟨rfl, eT, hc', hs'⟩)
  dsimp only [Pt.U, Pt.locs, Pt.cells, Pt.slots] at X' l1 y1 z1 st hQ hS' g'
  subst l1 y1 z1
  exact ⟨T', _, _, ⟨v, hQ.1, rfl⟩, X', Fr.app N hQ.2, hS', by rw [← eT]; exact g', fun _ q => st.trans q⟩
theorem own_callI {index : Nat} {y : MethodName} {cod' : ByteArray} {mxl' : Nat} {R' : Room} {Q' : Option Value → Heap → Prop} {L0 : Array Slot} {a : Addr} {argsL rest : List Value} {W cells' slots' : Nat} {ps : List FieldType} {r : Option FieldType}
    (k0 : own_V l Z n0 R' y.cls y.name cod' mxl' none Q' h 0 0 0 L0 []) (hef : ∀ m, entryFrame m (.ref a :: argsL).toArray mxl' = mkF m 0 L0 []) (hpl : plainFor y = true) (hpd : parseMethodDescriptor y.desc = some ⟨ps, r⟩) (hl : argsL.length = ps.length) (hyn : y.name = "<init>")
    (d : own_D cod pc (.invokespecial index) 3 pc') (w1 : (Cond.methodLink own index y).before a0 Z = true) (w2 : (Cond.instanceMethod y).before a0 Z = true) (w3 : (Cond.initialized y.cls).before a0 Z = true) (w4 : (Cond.code y cod' mxl' none).before a0 Z = true)
    (hy : y.cls ≠ "java/lang/invoke/MethodHandle" ∧ y.cls ≠ "java/lang/invoke/VarHandle") (hS : S = argsL.reverse ++ .ref a :: rest) (hsz : L.size = mxl) (hW : (rest.map fun v => v.category).sum ≤ W)
    (hf : R'.frames + 1 ≤ R.frames) (hlo : W + (mxl' + 11) + R'.locals ≤ R.locals) (hc : cells + R'.cells = cells') (hs : slots + R'.slots = slots') (hc' : cells' ≤ R.cells) (hs' : slots' ≤ R.slots)
    (k : ∀ v h', Q' v h' → own_V l Z n0 R own nm cod mxl rt Q h' cells' slots' pc' L (v.toList ++ rest)) : own_V l Z n0 R own nm cod mxl rt Q h cells slots pc L S := by
  obtain ⟨d, rfl⟩ := d
  subst hc hs
  refine own_stepS (F := fun h' S' => ∃ v, Q' v h' ∧ S' = v.toList ++ rest) (fun {p e s m args below meth c T locs} hx hZ hby hml hown _ X eT N => ?_) (by rintro h' _ ⟨v, q, rfl⟩; exact k v h' q)
  obtain ⟨v, vm1, ⟨T', L1, k1, n1⟩, -, X', hS', g', ⟨Lc, hQ, l1, y1, z1⟩, st⟩ := X.specialBackS hx (y := y) hyn hown (mvT hZ w1) (mvT hZ w2) (mvT hZ w4) hy (backOfS (W := W) (Q := fun v h L => Q' v h ∧ Fr n0 L) (own_met hpl hef k0 []) hZ w4 w3 hf hlo) (g := mkF m pc L S) rfl (by rw [hml]; exact hsz) (Steps.refl _) (a := a) (argsL := argsL) (rest := rest) (lenOf hpd hl) hS (by show 2 * 0 + _ ≤ _; simpa using hW) (hb hby d) (fun _ _ => ⟨rfl, eT, hc', hs'⟩)
  dsimp only [Pt.U, Pt.locs, Pt.cells, Pt.slots] at X' l1 y1 z1 st hQ hS' g'
  subst l1 y1 z1
  exact ⟨T', _, _, ⟨v, hQ.1, rfl⟩, X', Fr.app N hQ.2, hS', by rw [← eT]; exact g', fun _ q => st.trans q⟩
theorem own_callV {index : Nat} {y z : MethodName} {C : String} {cod' : ByteArray} {mxl' : Nat} {rt' : Option FieldType} {R' : Room} {Q' : Option Value → Heap → Prop} {L0 : Array Slot} {a : Addr} {argsL rest : List Value} {W cells' slots' : Nat} {ps : List FieldType} {r : Option FieldType}
    (k0 : own_V l Z n0 R' z.cls z.name cod' mxl' rt' Q' h 0 0 0 L0 []) (hef : ∀ m, entryFrame m (.ref a :: argsL).toArray mxl' = mkF m 0 L0 []) (hpl : plainFor z = true) (hpd : parseMethodDescriptor y.desc = some ⟨ps, r⟩) (hl : argsL.length = ps.length) (E : Exa Z h a C)
    (d : own_D cod pc (.invokevirtual index) 3 pc') (w1 : (Cond.methodLink own index y).before a0 Z = true) (w2 : (Cond.declares y).before a0 Z = true) (hnf : ∀ s : State, Z.Warmed39 s.vm → NotFace s y) (w3 : (Cond.selects C y z).before a0 Z = true) (w4 : (Cond.instanceMethod z).before a0 Z = true) (w5 : (Cond.code z cod' mxl' rt').before a0 Z = true) (w6 : (Cond.initialized z.cls).before a0 Z = true)
    (hy : y.cls ≠ "java/lang/invoke/MethodHandle" ∧ y.cls ≠ "java/lang/invoke/VarHandle") (hS : S = argsL.reverse ++ .ref a :: rest) (hsz : L.size = mxl) (hW : (rest.map fun v => v.category).sum ≤ W)
    (hf : R'.frames + 1 ≤ R.frames) (hlo : W + (mxl' + 11) + R'.locals ≤ R.locals) (hc : cells + R'.cells = cells') (hs : slots + R'.slots = slots') (hc' : cells' ≤ R.cells) (hs' : slots' ≤ R.slots)
    (k : ∀ v h', Q' v h' → own_V l Z n0 R own nm cod mxl rt Q h' cells' slots' pc' L (v.toList ++ rest)) : own_V l Z n0 R own nm cod mxl rt Q h cells slots pc L S := by
  obtain ⟨d, rfl⟩ := d
  subst hc hs
  refine own_stepS (F := fun h' S' => ∃ v, Q' v h' ∧ S' = v.toList ++ rest) (fun {p e s m args below meth c T locs} hx hZ hby hml hown _ X eT N => ?_) (by rintro h' _ ⟨v, q, rfl⟩; exact k v h' q)
  obtain ⟨cq, kq, q1, q2, q3⟩ := isOf hZ eT E
  obtain ⟨v, vm1, ⟨T', L1, k1, n1⟩, -, X', hS', g', ⟨Lc, hQ, l1, y1, z1⟩, st⟩ := X.virtualBackS hx (y := y) (z := z) hown (mvT hZ w1) (mvT hZ w2) (hnf s hZ) (mvT hZ w3) (mvT hZ w4) hy (backOfS (W := W) (Q := fun v h L => Q' v h ∧ Fr n0 L) (own_met hpl hef k0 []) hZ w5 w6 hf hlo) q1 q3 (g := mkF m pc L S) rfl (by rw [hml]; exact hsz) (Steps.refl _) (argsL := argsL) (rest := rest) (lenOf hpd hl) hS (by show 2 * 0 + _ ≤ _; simpa using hW) (hb hby d) (fun _ _ => ⟨rfl, eT, hc', hs'⟩)
  dsimp only [Pt.U, Pt.locs, Pt.cells, Pt.slots] at X' l1 y1 z1 st hQ hS' g'
  subst l1 y1 z1
  exact ⟨T', _, _, ⟨v, hQ.1, rfl⟩, X', Fr.app N hQ.2, hS', by rw [← eT]; exact g', fun _ q => st.trans q⟩
/-- the array at a holds just the values vs -/
def own_A (Z : State) (h : Heap) (a : Addr) (ty : FieldType) (vs : List Value) : Prop := ∃ cl : Cell, Arr Z h a cl ty ∧ cl.slots.toList = vs ∧ vs.length < 2 ^ 31
theorem own_A.ext {h' : Heap} {a : Addr} {ty : FieldType} {vs : List Value} (E : Ext h h') (A : own_A Z h a ty vs) : own_A Z h' a ty vs := by obtain ⟨cl, A1, r⟩ := A; exact ⟨cl, A1.ext E, r⟩
theorem own_A.other {h' : Heap} {a b : Addr} {sl : Nat} {v : Value} {ty : FieldType} {vs : List Value} (W : Wr h h' b sl v) (A : own_A Z h a ty vs) (hne : a ≠ b) : own_A Z h' a ty vs := by obtain ⟨cl, A1, r⟩ := A; exact ⟨cl, A1.other W hne, r⟩
theorem own_A.keep {h' : Heap} {a : Addr} {ty : FieldType} {vs : List Value} {ws : List Addr} (A : own_A Z h a ty vs) (K : Keep h h' ws) (hne : a ∉ ws) : own_A Z h' a ty vs := by obtain ⟨cl, A1, r⟩ := A; exact ⟨cl, ⟨K.2.1 _ _ A1.1 hne, A1.2⟩, r⟩
theorem own_A.lt {a : Addr} {ty : FieldType} {vs : List Value} (A : own_A Z h a ty vs) : a < h.size := by obtain ⟨cl, A1, r⟩ := A; exact A1.lt
theorem own_A.set {h' : Heap} {a : Addr} {i : Nat} {v : Value} {ty : FieldType} {vs : List Value} (W : Wr h h' a i v) (A : own_A Z h a ty vs) : own_A Z h' a ty (vs.set i v) := by
  obtain ⟨cl, A1, rfl, r⟩ := A
  exact ⟨_, A1.same W, by simp [Cell.setSlot], by simpa using r⟩
theorem own_nat {j : Int32} {i : Nat} (hj : j.toInt = (i : Int)) : ¬ j < 0 ∧ j.toNatClampNeg = i := by
  rw [Int32.lt_iff_toInt_lt, show (0 : Int32).toInt = 0 from rfl, Int32.toNatClampNeg, hj]; omega
theorem own_A.len {a : Addr} {ty : FieldType} {vs : List Value} (A : own_A Z h a ty vs) : vs.length < 2 ^ 31 := by obtain ⟨_, _, _, r⟩ := A; exact r
theorem own_arrlen {a : Addr} {ty : FieldType} {vs : List Value} {x : Int32} (d : own_D cod pc (.arraylength) 1 pc') (A : own_A Z h a ty vs) (hx : x.toInt = (vs.length : Int)) (k : own_V l Z n0 R own nm cod mxl rt Q h cells slots pc' L (.int x :: S)) : own_V l Z n0 R own nm cod mxl rt Q h cells slots pc L (.ref a :: S) := by
  obtain ⟨d, rfl⟩ := d
  obtain ⟨cl, A1, rfl, r⟩ := A
  have e : cl.slots.size.toInt32 = x := Int32.toInt_inj.mp (by rw [len_toInt (by simpa using r), hx]; simp)
  subst e
  exact own_step (fun hx hZ hby _ X eT _ q => X.arraylength hx (by rw [eT]; exact A1.1) (State.isArrayOf_alike hZ.alike A1.2.1) (g := mkF _ pc L (.ref a :: S)) rfl rfl (hb hby d) _ q) k
theorem own_iaload {a : Addr} {vs : List Value} {j : Int32} {i : Nat} {v : Value} (d : own_D cod pc (.iaload) 1 pc') (A : own_A Z h a .int vs) (hj : j.toInt = (i : Int)) (hv : vs[i]? = some v) (k : own_V l Z n0 R own nm cod mxl rt Q h cells slots pc' L (v :: S)) : own_V l Z n0 R own nm cod mxl rt Q h cells slots pc L (.int j :: .ref a :: S) := by
  obtain ⟨d, rfl⟩ := d
  obtain ⟨cl, A1, rfl, r⟩ := A
  obtain ⟨q1, rfl⟩ := own_nat hj
  have hv' : cl.slots[j.toNatClampNeg]? = some v := by simpa using hv
  have hin : ¬ (j < 0 ∨ cl.slots.size ≤ j.toNatClampNeg) := fun q => q.elim q1 fun q => by have := (Array.getElem?_eq_some_iff.mp hv').1; omega
  exact own_step (fun hx hZ hby _ X eT _ q => X.iaload hx (j := j) (v := v) (by rw [eT]; exact A1.1) (State.isArrayOf_alike hZ.alike A1.2.1) A1.2.2 hin hv' (g := mkF _ pc L (.int j :: .ref a :: S)) rfl rfl (hb hby d) _ q) k
theorem own_laload {a : Addr} {vs : List Value} {j : Int32} {i : Nat} {v : Value} (d : own_D cod pc (.laload) 1 pc') (A : own_A Z h a .long vs) (hj : j.toInt = (i : Int)) (hv : vs[i]? = some v) (k : own_V l Z n0 R own nm cod mxl rt Q h cells slots pc' L (v :: S)) : own_V l Z n0 R own nm cod mxl rt Q h cells slots pc L (.int j :: .ref a :: S) := by
  obtain ⟨d, rfl⟩ := d
  obtain ⟨cl, A1, rfl, r⟩ := A
  obtain ⟨q1, rfl⟩ := own_nat hj
  have hv' : cl.slots[j.toNatClampNeg]? = some v := by simpa using hv
  have hin : ¬ (j < 0 ∨ cl.slots.size ≤ j.toNatClampNeg) := fun q => q.elim q1 fun q => by have := (Array.getElem?_eq_some_iff.mp hv').1; omega
  exact own_step (fun hx hZ hby _ X eT _ q => X.laload hx (j := j) (v := v) (by rw [eT]; exact A1.1) (State.isArrayOf_alike hZ.alike A1.2.1) A1.2.2 hin hv' (g := mkF _ pc L (.int j :: .ref a :: S)) rfl rfl (hb hby d) _ q) k
theorem own_caload {a : Addr} {vs : List Value} {j : Int32} {i : Nat} {v : Value} (d : own_D cod pc (.caload) 1 pc') (A : own_A Z h a .char vs) (hj : j.toInt = (i : Int)) (hv : vs[i]? = some v) (k : own_V l Z n0 R own nm cod mxl rt Q h cells slots pc' L (v :: S)) : own_V l Z n0 R own nm cod mxl rt Q h cells slots pc L (.int j :: .ref a :: S) := by
  obtain ⟨d, rfl⟩ := d
  obtain ⟨cl, A1, rfl, r⟩ := A
  obtain ⟨q1, rfl⟩ := own_nat hj
  have hv' : cl.slots[j.toNatClampNeg]? = some v := by simpa using hv
  have hin : ¬ (j < 0 ∨ cl.slots.size ≤ j.toNatClampNeg) := fun q => q.elim q1 fun q => by have := (Array.getElem?_eq_some_iff.mp hv').1; omega
  exact own_step (fun hx hZ hby _ X eT _ q => X.caload hx (j := j) (v := v) (by rw [eT]; exact A1.1) (State.isArrayOf_alike hZ.alike A1.2.1) A1.2.2 hin hv' (g := mkF _ pc L (.int j :: .ref a :: S)) rfl rfl (hb hby d) _ q) k
theorem own_baload {a : Addr} {vs : List Value} {j : Int32} {i : Nat} {v : Value} (d : own_D cod pc (.baload) 1 pc') (A : own_A Z h a .byte vs) (hj : j.toInt = (i : Int)) (hv : vs[i]? = some v) (k : own_V l Z n0 R own nm cod mxl rt Q h cells slots pc' L (v :: S)) : own_V l Z n0 R own nm cod mxl rt Q h cells slots pc L (.int j :: .ref a :: S) := by
  obtain ⟨d, rfl⟩ := d
  obtain ⟨cl, A1, rfl, r⟩ := A
  obtain ⟨q1, rfl⟩ := own_nat hj
  have hv' : cl.slots[j.toNatClampNeg]? = some v := by simpa using hv
  have hin : ¬ (j < 0 ∨ cl.slots.size ≤ j.toNatClampNeg) := fun q => q.elim q1 fun q => by have := (Array.getElem?_eq_some_iff.mp hv').1; omega
  exact own_step (fun hx hZ hby _ X eT _ q => X.baloadBytes hx (j := j) (v := v) (by rw [eT]; exact A1.1) (State.isArrayOf_alike hZ.alike A1.2.1) A1.2.2 hin hv' (g := mkF _ pc L (.int j :: .ref a :: S)) rfl rfl (hb hby d) _ q) k
theorem own_aaload {a : Addr} {ty : FieldType} {vs : List Value} {j : Int32} {i : Nat} {v : Value} (d : own_D cod pc (.aaload) 1 pc') (A : own_A Z h a ty vs) (hty : ty.isReference = true) (hj : j.toInt = (i : Int)) (hv : vs[i]? = some v) (k : own_V l Z n0 R own nm cod mxl rt Q h cells slots pc' L (v :: S)) : own_V l Z n0 R own nm cod mxl rt Q h cells slots pc L (.int j :: .ref a :: S) := by
  obtain ⟨d, rfl⟩ := d
  obtain ⟨cl, A1, rfl, r⟩ := A
  obtain ⟨q1, rfl⟩ := own_nat hj
  have hv' : cl.slots[j.toNatClampNeg]? = some v := by simpa using hv
  have hin : ¬ (j < 0 ∨ cl.slots.size ≤ j.toNatClampNeg) := fun q => q.elim q1 fun q => by have := (Array.getElem?_eq_some_iff.mp hv').1; omega
  exact own_step (fun hx hZ hby _ X eT _ q => X.aaload hx (j := j) (v := v) (by rw [eT]; exact A1.1) (State.isArrayOf_alike hZ.alike A1.2.1) hty A1.2.2 hin hv' (g := mkF _ pc L (.int j :: .ref a :: S)) rfl rfl (hb hby d) _ q) k
theorem own_iastore {a : Addr} {vs : List Value} {j : Int32} {i : Nat} {x : Int32} (d : own_D cod pc (.iastore) 1 pc') (A : own_A Z h a .int vs) (hj : j.toInt = (i : Int)) (hi : i < vs.length) (ha : n0 ≤ a)
    (k : ∀ h', Wr h h' a i (.int x) → own_A Z h' a .int (vs.set i (.int x)) → own_V l Z n0 R own nm cod mxl rt Q h' cells slots pc' L S) : own_V l Z n0 R own nm cod mxl rt Q h cells slots pc L (.int x :: .int j :: .ref a :: S) := by
  obtain ⟨d, rfl⟩ := d
  have A0 := A
  obtain ⟨cl, A1, rfl, r⟩ := A
  obtain ⟨q1, rfl⟩ := own_nat hj
  have hin : ¬ (j < 0 ∨ cl.slots.size ≤ j.toNatClampNeg) := fun q => q.elim q1 fun q => by simp at hi; omega
  refine own_stepC (F := fun h' S' => Wr h h' a j.toNatClampNeg (.int x) ∧ S' = S) (fun hx hZ hby _ hown hnm X eT N => ?_) (by rintro h' S' ⟨W, rfl⟩; exact k h' W (own_A.set W A0))
  obtain ⟨T', h', X', e', W', st⟩ := stI X hx hZ eT A1 hin (g := mkF _ pc L (.int x :: .int j :: .ref a :: S)) rfl rfl (hb hby d)
  subst e'
  exact ⟨T', _, _, ⟨W', rfl⟩, X', Fr.snoc X' N ha, Nat.le_of_eq (Wr.size W').symm, st⟩
theorem own_lastore {a : Addr} {vs : List Value} {j : Int32} {i : Nat} {x : Int64} (d : own_D cod pc (.lastore) 1 pc') (A : own_A Z h a .long vs) (hj : j.toInt = (i : Int)) (hi : i < vs.length) (ha : n0 ≤ a)
    (k : ∀ h', Wr h h' a i (.long x) → own_A Z h' a .long (vs.set i (.long x)) → own_V l Z n0 R own nm cod mxl rt Q h' cells slots pc' L S) : own_V l Z n0 R own nm cod mxl rt Q h cells slots pc L (.long x :: .int j :: .ref a :: S) := by
  obtain ⟨d, rfl⟩ := d
  have A0 := A
  obtain ⟨cl, A1, rfl, r⟩ := A
  obtain ⟨q1, rfl⟩ := own_nat hj
  have hin : ¬ (j < 0 ∨ cl.slots.size ≤ j.toNatClampNeg) := fun q => q.elim q1 fun q => by simp at hi; omega
  refine own_stepC (F := fun h' S' => Wr h h' a j.toNatClampNeg (.long x) ∧ S' = S) (fun hx hZ hby _ hown hnm X eT N => ?_) (by rintro h' S' ⟨W, rfl⟩; exact k h' W (own_A.set W A0))
  obtain ⟨T', h', X', e', W', st⟩ := stJ X hx hZ eT A1 hin (g := mkF _ pc L (.long x :: .int j :: .ref a :: S)) rfl rfl (hb hby d)
  subst e'
  exact ⟨T', _, _, ⟨W', rfl⟩, X', Fr.snoc X' N ha, Nat.le_of_eq (Wr.size W').symm, st⟩
theorem own_castore {a : Addr} {vs : List Value} {j : Int32} {i : Nat} {x : Int32} (d : own_D cod pc (.castore) 1 pc') (A : own_A Z h a .char vs) (hj : j.toInt = (i : Int)) (hi : i < vs.length) (ha : n0 ≤ a)
    (k : ∀ h', Wr h h' a i (.int (nar .char x)) → own_A Z h' a .char (vs.set i (.int (nar .char x))) → own_V l Z n0 R own nm cod mxl rt Q h' cells slots pc' L S) : own_V l Z n0 R own nm cod mxl rt Q h cells slots pc L (.int x :: .int j :: .ref a :: S) := by
  obtain ⟨d, rfl⟩ := d
  have A0 := A
  obtain ⟨cl, A1, rfl, r⟩ := A
  obtain ⟨q1, rfl⟩ := own_nat hj
  have hin : ¬ (j < 0 ∨ cl.slots.size ≤ j.toNatClampNeg) := fun q => q.elim q1 fun q => by simp at hi; omega
  refine own_stepC (F := fun h' S' => Wr h h' a j.toNatClampNeg (.int (nar .char x)) ∧ S' = S) (fun hx hZ hby _ hown hnm X eT N => ?_) (by rintro h' S' ⟨W, rfl⟩; exact k h' W (own_A.set W A0))
  obtain ⟨T', h', X', e', W', st⟩ := stC X hx hZ eT A1 hin (g := mkF _ pc L (.int x :: .int j :: .ref a :: S)) rfl rfl (hb hby d)
  subst e'
  exact ⟨T', _, _, ⟨W', rfl⟩, X', Fr.snoc X' N ha, Nat.le_of_eq (Wr.size W').symm, st⟩
theorem own_bastore {a : Addr} {vs : List Value} {j : Int32} {i : Nat} {x : Int32} (d : own_D cod pc (.bastore) 1 pc') (A : own_A Z h a .byte vs) (hj : j.toInt = (i : Int)) (hi : i < vs.length) (ha : n0 ≤ a)
    (k : ∀ h', Wr h h' a i (.int (nar .byte x)) → own_A Z h' a .byte (vs.set i (.int (nar .byte x))) → own_V l Z n0 R own nm cod mxl rt Q h' cells slots pc' L S) : own_V l Z n0 R own nm cod mxl rt Q h cells slots pc L (.int x :: .int j :: .ref a :: S) := by
  obtain ⟨d, rfl⟩ := d
  have A0 := A
  obtain ⟨cl, A1, rfl, r⟩ := A
  obtain ⟨q1, rfl⟩ := own_nat hj
  have hin : ¬ (j < 0 ∨ cl.slots.size ≤ j.toNatClampNeg) := fun q => q.elim q1 fun q => by simp at hi; omega
  refine own_stepC (F := fun h' S' => Wr h h' a j.toNatClampNeg (.int (nar .byte x)) ∧ S' = S) (fun hx hZ hby _ hown hnm X eT N => ?_) (by rintro h' S' ⟨W, rfl⟩; exact k h' W (own_A.set W A0))
  obtain ⟨T', h', X', e', W', st⟩ := stB X hx hZ eT A1 hin (g := mkF _ pc L (.int x :: .int j :: .ref a :: S)) rfl rfl (hb hby d)
  subst e'
  exact ⟨T', _, _, ⟨W', rfl⟩, X', Fr.snoc X' N ha, Nat.le_of_eq (Wr.size W').symm, st⟩
theorem own_newarr {aty : ArrayType} {n : Int32} {i cells' slots' : Nat} (d : own_D cod pc (.newarray aty) 2 pc') (w : (Cond.arrayClass (newarray.typeOf aty)).before a0 Z = true) (hn : n.toInt = (i : Int)) {cap : Nat} (hcap : i ≤ cap) (hcb : cap * 8 ≤ 536870912) (hc : cells + 1 = cells') (hs : slots + cap = slots') (hc' : cells' ≤ R.cells) (hs' : slots' ≤ R.slots)
    (k : ∀ h', Ext h h' → own_A Z h' h.size (newarray.typeOf aty) (List.replicate i (defaultValue (newarray.typeOf aty))) → own_V l Z n0 R own nm cod mxl rt Q h' cells' slots' pc' L (.ref h.size :: S)) : own_V l Z n0 R own nm cod mxl rt Q h cells slots pc L (.int n :: S) := by
  obtain ⟨d, rfl⟩ := d
  subst hc hs
  obtain ⟨q1, rfl⟩ := own_nat hn
  refine own_stepC (F := fun h' S' => (Ext h h' ∧ own_A Z h' h.size (newarray.typeOf aty) (List.replicate n.toNatClampNeg (defaultValue (newarray.typeOf aty)))) ∧ S' = .ref h.size :: S) (fun hx hZ hby _ hown _ X eT N => ?_) (by rintro h' S' ⟨⟨q1, q2⟩, rfl⟩; exact k h' q1 q2)
  obtain ⟨T', h', cA, X', e', E', A', st⟩ := newP X hx hZ w eT (g := mkF _ pc L (.int n :: S)) rfl (hb hby d) rfl q1 hcap hcb hc' hs'
  subst e'
  refine ⟨T', _, _, ⟨⟨E', _, A', by simp [newA], ?_⟩, rfl⟩, X', N, E'.1, st⟩
  simp; have := (back32 q1).2; omega
theorem own_ord {args : Array Value} {s : State} {C n ds O f dd : String} {a : Addr} {k : Int32} (ev : (Term.static C n ds).eval args s none [] s = some (.ref a)) (ho : (Jvm.Cond.eq (.field (.static C n ds) O f dd) (.int k)).value args s none s [] = some true) : s.fieldOf? a O f dd = some (.int k) := by
  obtain ⟨x, y, h1, h2, hk, -⟩ := cmp_v (Or.inl ho)
  have e1 : y = .int k := Option.some.inj (h2.symm.trans (Term.int_eval k))
  subst e1
  have h3 := h1
  rw [fld_at ev] at h3
  cases x <;> simp [Kin, Value.isRef] at hk
  rename_i z
  have : z = k := by simpa [Jvm.Cond.value, h1, h2] using ho
  rw [h3, this]
theorem own_fne {C n ds : String} {a b : Addr} {v w : Value} (F : Fld Z h a C n ds v) (G : Fld Z h b C n ds w) (hne : v ≠ w) : a ≠ b := by
  rintro rfl
  obtain ⟨c1, cf1, k1, i1, f1, h1, h2, -, -, -, -, h7⟩ := F
  obtain ⟨c2, cf2, k2, i2, f2, g1, g2, -, -, -, -, g7⟩ := G
  cases h1.symm.trans g1
  cases h2.symm.trans g2
  exact hne (Option.some.inj (h7.symm.trans g7))
theorem own_alen {args : Array Value} {s : State} {t : Term} {a : Addr} {cl : Cell} {ty : FieldType} {n : Int32} (ev : t.eval args s none [] s = some (.ref a)) (A : Arr s s.heap a cl ty) (hl : (Jvm.Cond.eq (.length t) (.int n)).value args s none s [] = some true) : (cl.slots.size : Int) = n.toInt ∧ cl.slots.size < 2 ^ 31 := by
  obtain ⟨x, y, h1, h2, -, -⟩ := cmp_v (Or.inl hl)
  have e1 : y = .int n := Option.some.inj (h2.symm.trans (Term.int_eval n))
  subst e1
  have q := h1
  simp only [Term.eval, ev, A.fin (Vm.Alike.refl _), Option.bind_eq_bind, Option.bind_some] at q
  split at q
  · rename_i hlt
    cases q
    have e2 : cl.slots.size.toInt32 = n := by simpa [Jvm.Cond.value, h1, h2] using hl
    exact ⟨by rw [← e2, len_toInt hlt], hlt⟩
  · cases q
theorem own_ael {args : Array Value} {s : State} {t : Term} {a b : Addr} {cl : Cell} {C n ds : String} {j : Int32} (ev : t.eval args s none [] s = some (.ref a)) (hc : s.heap[a]? = some cl) (ev2 : (Term.static C n ds).eval args s none [] s = some (.ref b)) (he : (Jvm.Cond.eq (.elem t (.int j)) (.static C n ds)).value args s none s [] = some true) : cl.slots[j.toNatClampNeg]? = some (.ref b) := by
  obtain ⟨x, y, h1, h2, hk, hk2⟩ := cmp_v (Or.inl he)
  have e1 : y = .ref b := Option.some.inj (h2.symm.trans ev2)
  subst e1
  have e2 := (elem_in h1 ev (Term.int_eval j) hc).2
  have hx : x.isRef = true := by cases x <;> simp [Kin, Value.isRef] at hk hk2 ⊢
  rw [e2, gotT (eq_R h1 h2 hx rfl) he]
theorem own_callU {index : Nat} {y z : MethodName} {C owner : String} {cod' : ByteArray} {mxl' : Nat} {rt' : Option FieldType} {R' : Room} {Q' : Option Value → Heap → Prop} {L0 : Array Slot} {a : Addr} {argsL rest : List Value} {W cells' slots' : Nat} {ps : List FieldType} {r : Option FieldType}
    (k0 : own_V l Z n0 R' z.cls z.name cod' mxl' rt' Q' h 0 0 0 L0 []) (hef : ∀ m, entryFrame m (.ref a :: argsL).toArray mxl' = mkF m 0 L0 []) (hpl : plainFor z = true) (hpd : parseMethodDescriptor y.desc = some ⟨ps, r⟩) (hl : argsL.length = ps.length) (E : Exa Z h a C)
    (d : own_D cod pc (.invokevirtual index) 3 pc') (w1 : (Cond.methodLink own index y).before a0 Z = true) (w2 : (Cond.sameMethod y.cls owner y.name y.desc).before a0 Z = true) (w2' : (Cond.declares ⟨owner, y.name, y.desc⟩).before a0 Z = true) (w3 : (Cond.selects C y z).before a0 Z = true) (w4 : (Cond.instanceMethod z).before a0 Z = true) (w5 : (Cond.code z cod' mxl' rt').before a0 Z = true) (w6 : (Cond.initialized z.cls).before a0 Z = true)
    (hy : owner ≠ "java/lang/invoke/MethodHandle" ∧ owner ≠ "java/lang/invoke/VarHandle") (hS : S = argsL.reverse ++ .ref a :: rest) (hsz : L.size = mxl) (hW : (rest.map fun v => v.category).sum ≤ W)
    (hf : R'.frames + 1 ≤ R.frames) (hlo : W + (mxl' + 11) + R'.locals ≤ R.locals) (hc : cells + R'.cells = cells') (hs : slots + R'.slots = slots') (hc' : cells' ≤ R.cells) (hs' : slots' ≤ R.slots)
    (k : ∀ v h', Q' v h' → own_V l Z n0 R own nm cod mxl rt Q h' cells' slots' pc' L (v.toList ++ rest)) : own_V l Z n0 R own nm cod mxl rt Q h cells slots pc L S := by
  obtain ⟨d, rfl⟩ := d
  subst hc hs
  refine own_stepS (F := fun h' S' => ∃ v, Q' v h' ∧ S' = v.toList ++ rest) (fun {p e s m args below meth c T locs} hx hZ hby hml hown _ X eT N => ?_) (by rintro h' _ ⟨v, q, rfl⟩; exact k v h' q)
  obtain ⟨cq, kq, q1, q2, q3⟩ := isOf hZ eT E
  obtain ⟨v, vm1, ⟨T', L1, k1, n1⟩, -, X', hS', g', ⟨Lc, hQ, l1, y1, z1⟩, st⟩ := X.virtualBackUpS hx (x := y) (y := z) (owner := owner) hown (mvT hZ w1) (mvT hZ w2) (mvT hZ w2') hy (mvT hZ w3) (mvT hZ w4) (backOfS (W := W) (Q := fun v h L => Q' v h ∧ Fr n0 L) (own_met hpl hef k0 []) hZ w5 w6 hf hlo) q1 q3 (g := mkF m pc L S) rfl (by rw [hml]; exact hsz) (Steps.refl _) (argsL := argsL) (rest := rest) (lenOf hpd hl) hS (by show 2 * 0 + _ ≤ _; simpa using hW) (hb hby d) (fun _ _ => ⟨rfl, eT, hc', hs'⟩)
  dsimp only [Pt.U, Pt.locs, Pt.cells, Pt.slots] at X' l1 y1 z1 st hQ hS' g'
  subst l1 y1 z1
  exact ⟨T', _, _, ⟨v, hQ.1, rfl⟩, X', Fr.app N hQ.2, hS', by rw [← eT]; exact g', fun _ q => st.trans q⟩
/-- an array of references of the class C -/
def own_R (Z : State) (h : Heap) (a : Addr) (C : String) (vs : List Value) : Prop := ∃ cl : Cell, Arr Z h a cl (.object C) ∧ Ovr Z cl.cls C ∧ cl.slots.toList = vs ∧ vs.length < 2 ^ 31
theorem own_R.A {a : Addr} {C : String} {vs : List Value} (A : own_R Z h a C vs) : own_A Z h a (.object C) vs := by obtain ⟨cl, A1, _, r⟩ := A; exact ⟨cl, A1, r⟩
theorem own_R.ext {h' : Heap} {a : Addr} {C : String} {vs : List Value} (E : Ext h h') (A : own_R Z h a C vs) : own_R Z h' a C vs := by obtain ⟨cl, A1, r⟩ := A; exact ⟨cl, A1.ext E, r⟩
theorem own_R.other {h' : Heap} {a b : Addr} {sl : Nat} {v : Value} {C : String} {vs : List Value} (W : Wr h h' b sl v) (A : own_R Z h a C vs) (hne : a ≠ b) : own_R Z h' a C vs := by obtain ⟨cl, A1, r⟩ := A; exact ⟨cl, A1.other W hne, r⟩
theorem own_R.keep {h' : Heap} {a : Addr} {C : String} {vs : List Value} {ws : List Addr} (A : own_R Z h a C vs) (K : Keep h h' ws) (hne : a ∉ ws) : own_R Z h' a C vs := by obtain ⟨cl, A1, r⟩ := A; exact ⟨cl, ⟨K.2.1 _ _ A1.1 hne, A1.2⟩, r⟩
theorem own_R.lt {a : Addr} {C : String} {vs : List Value} (A : own_R Z h a C vs) : a < h.size := by obtain ⟨cl, A1, r⟩ := A; exact A1.lt
theorem own_R.set {h' : Heap} {a : Addr} {i : Nat} {v : Value} {C : String} {vs : List Value} (W : Wr h h' a i v) (A : own_R Z h a C vs) : own_R Z h' a C (vs.set i v) := by
  obtain ⟨cl, A1, o, rfl, r⟩ := A
  exact ⟨_, A1.same W, o, by simp [Cell.setSlot], by simpa using r⟩
theorem own_newref {i : Nat} {C : String} {n : Int32} {j cells' slots' : Nat} (d : own_D cod pc (.anewarray i) 3 pc') (w1 : (Cond.classLink own i C).before a0 Z = true) (w2 : (Cond.arrayOver (.object C)).before a0 Z = true) (hn : n.toInt = (j : Int)) {cap : Nat} (hcap : j ≤ cap) (hcb : cap * 8 ≤ 536870912) (hc : cells + 1 = cells') (hs : slots + cap = slots') (hc' : cells' ≤ R.cells) (hs' : slots' ≤ R.slots)
    (k : ∀ h', Ext h h' → own_R Z h' h.size C (List.replicate j .null) → own_V l Z n0 R own nm cod mxl rt Q h' cells' slots' pc' L (.ref h.size :: S)) : own_V l Z n0 R own nm cod mxl rt Q h cells slots pc L (.int n :: S) := by
  obtain ⟨d, rfl⟩ := d
  subst hc hs
  obtain ⟨q1, rfl⟩ := own_nat hn
  refine own_stepC (F := fun h' S' => (Ext h h' ∧ own_R Z h' h.size C (List.replicate n.toNatClampNeg .null)) ∧ S' = .ref h.size :: S) (fun hx hZ hby _ hown _ X eT N => ?_) (by rintro h' S' ⟨⟨q1, q2⟩, rfl⟩; exact k h' q1 q2)
  obtain ⟨T', h', cA, X', e', E', A', O', st⟩ := newR X hx hZ hown w1 w2 eT (g := mkF _ pc L (.int n :: S)) rfl (hb hby d) rfl q1 hcap hcb hc' hs'
  subst e'
  refine ⟨T', _, _, ⟨⟨E', _, A', O', by simp [newA, defaultValue], ?_⟩, rfl⟩, X', N, E'.1, st⟩
  simp; have := (back32 q1).2; omega
theorem own_aastore {a : Addr} {C : String} {vs : List Value} {j : Int32} {i : Nat} {v : Value} (d : own_D cod pc (.aastore) 1 pc') (A : own_R Z h a C vs) (hj : j.toInt = (i : Int)) (hi : i < vs.length) (hv : v = .null ∨ ∃ y, v = .ref y ∧ Ins Z h y C true) (ha : n0 ≤ a)
    (k : ∀ h', Wr h h' a i v → own_R Z h' a C (vs.set i v) → own_V l Z n0 R own nm cod mxl rt Q h' cells slots pc' L S) : own_V l Z n0 R own nm cod mxl rt Q h cells slots pc L (v :: .int j :: .ref a :: S) := by
  obtain ⟨d, rfl⟩ := d
  have A0 := A
  obtain ⟨cl, A1, O1, rfl, r⟩ := A
  obtain ⟨q1, rfl⟩ := own_nat hj
  have hin : ¬ (j < 0 ∨ cl.slots.size ≤ j.toNatClampNeg) := fun q => q.elim q1 fun q => by simp at hi; omega
  have F : Sto Z h a v := by
    rcases hv with rfl | ⟨y, rfl, I⟩
    · exact Or.inl rfl
    · exact Sto.of A1 O1 I
  refine own_stepC (F := fun h' S' => Wr h h' a j.toNatClampNeg v ∧ S' = S) (fun hx hZ hby _ hown hnm X eT N => ?_) (by rintro h' S' ⟨W, rfl⟩; exact k h' W (own_R.set W A0))
  obtain ⟨T', h', X', e', W', st⟩ := stR X hx hZ eT A1 hin rfl F (g := mkF _ pc L (v :: .int j :: .ref a :: S)) rfl rfl (hb hby d)
  subst e'
  exact ⟨T', _, _, ⟨W', rfl⟩, X', Fr.snoc X' N ha, Nat.le_of_eq (Wr.size W').symm, st⟩
theorem own_tsw {df lo hi o : Int} {offs : Array Int} {n t : Nat} {x : Int32} (d : own_D cod pc (.tableswitch df lo hi offs) n pc') (hin : lo ≤ x.toInt ∧ x.toInt ≤ hi) (ho : offs[(x.toInt - lo).toNat]? = some o) (h1 : 0 ≤ (pc : Int) + o) (h2 : ((pc : Int) + o).toNat = t) (k : own_V l Z n0 R own nm cod mxl rt Q h cells slots t L S) : own_V l Z n0 R own nm cod mxl rt Q h cells slots pc L (.int x :: S) := by
  obtain ⟨d, -⟩ := d
  exact own_step (fun hx _ hby _ X _ _ q => XS.tswIn X.here hx rfl rfl (hb hby d) rfl (by omega) ho h1 h2 q) k
theorem own_catR {v : Value} (q : v.isRef = true) : v.category = 1 := by rcases ref_cases q with rfl | ⟨a, rfl⟩ <;> rfl
theorem own_skeep {h' : Heap} {C n ds : String} {v : Value} (F : Sta Z h C n ds v) (K : Keep h h' []) : Sta Z h' C n ds v := by
  obtain ⟨cf, i, k, f, st, cell, h1, h2, h3, h4, h5, h6, h7⟩ := F
  exact ⟨cf, i, k, f, st, cell, h1, h2, h3, h4, K.2.1 _ _ h5 (by simp), h6, h7⟩
theorem own_ldcS {i n cells' slots' : Nat} {text : String} (d : own_D cod pc (.ldc i) 2 pc') (w : (Cond.stringLink own i text).before a0 Z = true) (wS : ∀ a ∈ Bundle.stringAtoms, a.before a0 Z = true) (hn : 4 * text.toList.length ≤ n) (hbig : n ≤ 536870912) (hc : cells + 2 = cells') (hs : slots + (n + 4) = slots') (hc' : cells' ≤ R.cells) (hs' : slots' ≤ R.slots)
    (k : ∀ h' a, Ext h h' → own_V l Z n0 R own nm cod mxl rt Q h' cells' slots' pc' L (.ref a :: S)) : own_V l Z n0 R own nm cod mxl rt Q h cells slots pc L S := by
  obtain ⟨d, rfl⟩ := d
  subst hc hs
  refine own_stepS (F := fun h' S' => Ext h h' ∧ ∃ a : Addr, S' = .ref a :: S) (fun {p e s m args below meth c T locs} hx hZ hby hml hown _ X eT N => ?_) (by rintro h' S' ⟨E, a, rfl⟩; exact k h' a E)
  obtain ⟨a, T', X', hS', -, hb', hI, st⟩ := X.ldcStringCold hx hown (mvS (s := s) hZ w) (fun d hd => by
    have q := wS d hd
    simp only [Bundle.stringAtoms, List.mem_cons, List.not_mem_nil, or_false] at hd
    rcases hd with rfl | rfl | rfl | rfl | rfl | rfl | rfl
    · exact mv hZ q
    · exact mv hZ q
    · exact mvA hZ q
    · exact mv hZ q
    · exact mv hZ q
    · exact mv hZ q
    · exact mv hZ q) (g := mkF m pc L S) rfl (hb hby d) hn hbig hc' hs'
  subst eT
  have E : Ext T.heap T'.heap := ⟨hI.1, fun x cx hx => by rw [hb' x (Array.getElem?_eq_some_iff.mp hx).1]; exact hx⟩
  exact ⟨T', _, _, ⟨E, a, rfl⟩, X', N, hS', hI.1, st⟩
end OwnKit
theorem own_w {Z : State} {a0 : Array Value} (hw : ∀ d ∈ tables_1, d.before a0 Z = true) (i : Nat) {d : Jvm.Cond} (q : tables_1[i]? = some d) : d.before a0 Z = true := hw d (List.mem_of_getElem? q)
theorem own_ef3_AAAIII (m : MethodId) (x0 : Addr) (x1 : Addr) (x2 : Addr) (x3 : Int32) (x4 : Int32) (x5 : Int32) : entryFrame m #[(.ref x0), (.ref x1), (.ref x2), (.int x3), (.int x4), (.int x5)] 6 = mkF m 0 #[.val (.ref x0), .val (.ref x1), .val (.ref x2), .val (.int x3), .val (.int x4), .val (.int x5)] [] := by first | (simp [entryFrame, mkF, argsToLocals, Value.category]; done) | rfl
theorem own_ef5_AJ (m : MethodId) (x0 : Addr) (x1 : Int64) : entryFrame m #[(.ref x0), (.long x1)] 3 = mkF m 0 #[.val (.ref x0), .val (.long x1), .second] [] := by first | (simp [entryFrame, mkF, argsToLocals, Value.category]; done) | rfl
theorem own_ef1_II (m : MethodId) (x0 : Int32) (x1 : Int32) : entryFrame m #[(.int x0), (.int x1)] 2 = mkF m 0 #[.val (.int x0), .val (.int x1)] [] := by first | (simp [entryFrame, mkF, argsToLocals, Value.category]; done) | rfl
theorem own_ef2_II (m : MethodId) (x0 : Int32) (x1 : Int32) : entryFrame m #[(.int x0), (.int x1)] 2 = mkF m 0 #[.val (.int x0), .val (.int x1)] [] := by first | (simp [entryFrame, mkF, argsToLocals, Value.category]; done) | rfl
theorem own_ef0_IIIJ (m : MethodId) (x0 : Int32) (x1 : Int32) (x2 : Int32) (x3 : Int64) : entryFrame m #[(.int x0), (.int x1), (.int x2), (.long x3)] maxLocals = mkF m 0 #[.val (.int x0), .val (.int x1), .val (.int x2), .val (.long x3), .second, .unset, .unset, .unset, .unset, .unset, .unset, .unset, .unset, .unset, .unset, .unset, .unset, .unset, .unset] [] := by first | (simp [entryFrame, mkF, argsToLocals, Value.category, maxLocals]; done) | rfl
theorem d0_0 : own_D code 0 (.iload_n 0) 1 1 := ⟨by decide +kernel, rfl⟩
theorem d0_1 : own_D code 1 (.iconst 1) 1 2 := ⟨by decide +kernel, rfl⟩
theorem d0_2 : own_D code 2 (.iand) 1 3 := ⟨by decide +kernel, rfl⟩
theorem d0_3 : own_B code 3 (.ifCond .eq 7) 7 6 10 := ⟨by decide +kernel, rfl, by decide, by decide⟩
theorem d0_6 : own_D code 6 (.iconst 1) 1 7 := ⟨by decide +kernel, rfl⟩
theorem d0_7 : own_B code 7 (.goto 4) 4 10 11 := ⟨by decide +kernel, rfl, by decide, by decide⟩
theorem d0_10 : own_D code 10 (.iconst 0) 1 11 := ⟨by decide +kernel, rfl⟩
theorem d0_11 : own_D code 11 (.istore 5) 2 13 := ⟨by decide +kernel, rfl⟩
theorem d0_13 : own_D code 13 (.iload 5) 2 15 := ⟨by decide +kernel, rfl⟩
theorem d0_15 : own_B code 15 (.ifCond .eq 17) 17 18 32 := ⟨by decide +kernel, rfl, by decide, by decide⟩
theorem d0_18 : own_D code 18 (.getstatic 7) 3 21 := ⟨by decide +kernel, rfl⟩
theorem d0_21 : own_D code 21 (.astore 8) 2 23 := ⟨by decide +kernel, rfl⟩
theorem d0_23 : own_D code 23 (.iconst 0) 1 24 := ⟨by decide +kernel, rfl⟩
theorem d0_24 : own_D code 24 (.istore 6) 2 26 := ⟨by decide +kernel, rfl⟩
theorem d0_26 : own_D code 26 (.iconst 1) 1 27 := ⟨by decide +kernel, rfl⟩
theorem d0_27 : own_D code 27 (.istore 7) 2 29 := ⟨by decide +kernel, rfl⟩
theorem d0_29 : own_B code 29 (.goto 22) 22 32 51 := ⟨by decide +kernel, rfl, by decide, by decide⟩
theorem d0_32 : own_D code 32 (.getstatic 13) 3 35 := ⟨by decide +kernel, rfl⟩
theorem d0_35 : own_D code 35 (.astore 8) 2 37 := ⟨by decide +kernel, rfl⟩
theorem d0_37 : own_D code 37 (.iload_n 1) 1 38 := ⟨by decide +kernel, rfl⟩
theorem d0_38 : own_D code 38 (.iload_n 2) 1 39 := ⟨by decide +kernel, rfl⟩
theorem d0_39 : own_D code 39 (.invokestatic 16) 3 42 := ⟨by decide +kernel, rfl⟩
theorem d0_42 : own_D code 42 (.istore 6) 2 44 := ⟨by decide +kernel, rfl⟩
theorem d0_44 : own_D code 44 (.iload_n 1) 1 45 := ⟨by decide +kernel, rfl⟩
theorem d0_45 : own_D code 45 (.iload_n 2) 1 46 := ⟨by decide +kernel, rfl⟩
theorem d0_46 : own_D code 46 (.invokestatic 22) 3 49 := ⟨by decide +kernel, rfl⟩
theorem d0_49 : own_D code 49 (.istore 7) 2 51 := ⟨by decide +kernel, rfl⟩
theorem d0_51 : own_D code 51 (.iload_n 0) 1 52 := ⟨by decide +kernel, rfl⟩
theorem d0_52 : own_D code 52 (.iconst 1) 1 53 := ⟨by decide +kernel, rfl⟩
theorem d0_53 : own_D code 53 (.iushr) 1 54 := ⟨by decide +kernel, rfl⟩
theorem d0_54 : own_D code 54 (.bipush 7) 2 56 := ⟨by decide +kernel, rfl⟩
theorem d0_56 : own_D code 56 (.iand) 1 57 := ⟨by decide +kernel, rfl⟩
theorem d0_57 : own_D code 57 (.istore 9) 2 59 := ⟨by decide +kernel, rfl⟩
theorem d0_59 : own_D code 59 (.iload 9) 2 61 := ⟨by decide +kernel, rfl⟩
theorem d0_61 : own_D code 61 (.iconst 1) 1 62 := ⟨by decide +kernel, rfl⟩
theorem d0_62 : own_B code 62 (.if_icmp .ne 11) 11 65 73 := ⟨by decide +kernel, rfl, by decide, by decide⟩
theorem d0_65 : own_D code 65 (.iload 6) 2 67 := ⟨by decide +kernel, rfl⟩
theorem d0_67 : own_D code 67 (.i2l) 1 68 := ⟨by decide +kernel, rfl⟩
theorem d0_68 : own_D code 68 (.lstore 10) 2 70 := ⟨by decide +kernel, rfl⟩
theorem d0_70 : own_B code 70 (.goto 52) 52 73 122 := ⟨by decide +kernel, rfl, by decide, by decide⟩
theorem d0_73 : own_D code 73 (.iload 9) 2 75 := ⟨by decide +kernel, rfl⟩
theorem d0_75 : own_D code 75 (.iconst 2) 1 76 := ⟨by decide +kernel, rfl⟩
theorem d0_76 : own_B code 76 (.if_icmp .ne 13) 13 79 89 := ⟨by decide +kernel, rfl, by decide, by decide⟩
theorem d0_79 : own_D code 79 (.iload 6) 2 81 := ⟨by decide +kernel, rfl⟩
theorem d0_81 : own_D code 81 (.i2l) 1 82 := ⟨by decide +kernel, rfl⟩
theorem d0_82 : own_D code 82 (.lconst 1) 1 83 := ⟨by decide +kernel, rfl⟩
theorem d0_83 : own_D code 83 (.lsub) 1 84 := ⟨by decide +kernel, rfl⟩
theorem d0_84 : own_D code 84 (.lstore 10) 2 86 := ⟨by decide +kernel, rfl⟩
theorem d0_86 : own_B code 86 (.goto 36) 36 89 122 := ⟨by decide +kernel, rfl, by decide, by decide⟩
theorem d0_89 : own_D code 89 (.iload 9) 2 91 := ⟨by decide +kernel, rfl⟩
theorem d0_91 : own_D code 91 (.iconst 3) 1 92 := ⟨by decide +kernel, rfl⟩
theorem d0_92 : own_B code 92 (.if_icmp .ne 11) 11 95 103 := ⟨by decide +kernel, rfl, by decide, by decide⟩
theorem d0_95 : own_D code 95 (.iload 7) 2 97 := ⟨by decide +kernel, rfl⟩
theorem d0_97 : own_D code 97 (.i2l) 1 98 := ⟨by decide +kernel, rfl⟩
theorem d0_98 : own_D code 98 (.lstore 10) 2 100 := ⟨by decide +kernel, rfl⟩
theorem d0_100 : own_B code 100 (.goto 22) 22 103 122 := ⟨by decide +kernel, rfl, by decide, by decide⟩
theorem d0_103 : own_D code 103 (.iload 9) 2 105 := ⟨by decide +kernel, rfl⟩
theorem d0_105 : own_D code 105 (.iconst 4) 1 106 := ⟨by decide +kernel, rfl⟩
theorem d0_106 : own_B code 106 (.if_icmp .ne 13) 13 109 119 := ⟨by decide +kernel, rfl, by decide, by decide⟩
theorem d0_109 : own_D code 109 (.iload 7) 2 111 := ⟨by decide +kernel, rfl⟩
theorem d0_111 : own_D code 111 (.i2l) 1 112 := ⟨by decide +kernel, rfl⟩
theorem d0_112 : own_D code 112 (.lconst 1) 1 113 := ⟨by decide +kernel, rfl⟩
theorem d0_113 : own_D code 113 (.ladd) 1 114 := ⟨by decide +kernel, rfl⟩
theorem d0_114 : own_D code 114 (.lstore 10) 2 116 := ⟨by decide +kernel, rfl⟩
theorem d0_116 : own_B code 116 (.goto 6) 6 119 122 := ⟨by decide +kernel, rfl, by decide, by decide⟩
theorem d0_119 : own_D code 119 (.lload_n 3) 1 120 := ⟨by decide +kernel, rfl⟩
theorem d0_120 : own_D code 120 (.lstore 10) 2 122 := ⟨by decide +kernel, rfl⟩
theorem d0_122 : own_D code 122 (.new 25) 3 125 := ⟨by decide +kernel, rfl⟩
theorem d0_125 : own_D code 125 (.dup) 1 126 := ⟨by decide +kernel, rfl⟩
theorem d0_126 : own_D code 126 (.ldc 27) 2 128 := ⟨by decide +kernel, rfl⟩
theorem d0_128 : own_D code 128 (.aload 8) 2 130 := ⟨by decide +kernel, rfl⟩
theorem d0_130 : own_D code 130 (.iload 6) 2 132 := ⟨by decide +kernel, rfl⟩
theorem d0_132 : own_D code 132 (.iload 7) 2 134 := ⟨by decide +kernel, rfl⟩
theorem d0_134 : own_D code 134 (.iload 6) 2 136 := ⟨by decide +kernel, rfl⟩
theorem d0_136 : own_D code 136 (.invokespecial 29) 3 139 := ⟨by decide +kernel, rfl⟩
theorem d0_139 : own_D code 139 (.astore 12) 2 141 := ⟨by decide +kernel, rfl⟩
theorem d0_141 : own_D code 141 (.aload 12) 2 143 := ⟨by decide +kernel, rfl⟩
theorem d0_143 : own_D code 143 (.lload 10) 2 145 := ⟨by decide +kernel, rfl⟩
theorem d0_145 : own_D code 145 (.invokevirtual 32) 3 148 := ⟨by decide +kernel, rfl⟩
theorem d0_148 : own_D code 148 (.istore 13) 2 150 := ⟨by decide +kernel, rfl⟩
theorem d0_150 : own_D code 150 (.iload 5) 2 152 := ⟨by decide +kernel, rfl⟩
theorem d0_152 : own_B code 152 (.ifCond .eq 27) 27 155 179 := ⟨by decide +kernel, rfl, by decide, by decide⟩
theorem d0_155 : own_D code 155 (.lload 10) 2 157 := ⟨by decide +kernel, rfl⟩
theorem d0_157 : own_D code 157 (.lconst 0) 1 158 := ⟨by decide +kernel, rfl⟩
theorem d0_158 : own_D code 158 (.lcmp) 1 159 := ⟨by decide +kernel, rfl⟩
theorem d0_159 : own_B code 159 (.ifCond .eq 10) 10 162 169 := ⟨by decide +kernel, rfl, by decide, by decide⟩
theorem d0_162 : own_D code 162 (.lload 10) 2 164 := ⟨by decide +kernel, rfl⟩
theorem d0_164 : own_D code 164 (.lconst 1) 1 165 := ⟨by decide +kernel, rfl⟩
theorem d0_165 : own_D code 165 (.lcmp) 1 166 := ⟨by decide +kernel, rfl⟩
theorem d0_166 : own_B code 166 (.ifCond .ne 7) 7 169 173 := ⟨by decide +kernel, rfl, by decide, by decide⟩
theorem d0_169 : own_D code 169 (.iconst 1) 1 170 := ⟨by decide +kernel, rfl⟩
theorem d0_170 : own_B code 170 (.goto 4) 4 173 174 := ⟨by decide +kernel, rfl, by decide, by decide⟩
theorem d0_173 : own_D code 173 (.iconst 0) 1 174 := ⟨by decide +kernel, rfl⟩
theorem d0_174 : own_D code 174 (.istore 14) 2 176 := ⟨by decide +kernel, rfl⟩
theorem d0_176 : own_B code 176 (.goto 43) 43 179 219 := ⟨by decide +kernel, rfl, by decide, by decide⟩
theorem d0_179 : own_D code 179 (.lload 10) 2 181 := ⟨by decide +kernel, rfl⟩
theorem d0_181 : own_D code 181 (.iload 6) 2 183 := ⟨by decide +kernel, rfl⟩
theorem d0_183 : own_D code 183 (.i2l) 1 184 := ⟨by decide +kernel, rfl⟩
theorem d0_184 : own_D code 184 (.lsub) 1 185 := ⟨by decide +kernel, rfl⟩
theorem d0_185 : own_D code 185 (.lstore 15) 2 187 := ⟨by decide +kernel, rfl⟩
theorem d0_187 : own_D code 187 (.iload 7) 2 189 := ⟨by decide +kernel, rfl⟩
theorem d0_189 : own_D code 189 (.i2l) 1 190 := ⟨by decide +kernel, rfl⟩
theorem d0_190 : own_D code 190 (.iload 6) 2 192 := ⟨by decide +kernel, rfl⟩
theorem d0_192 : own_D code 192 (.i2l) 1 193 := ⟨by decide +kernel, rfl⟩
theorem d0_193 : own_D code 193 (.lsub) 1 194 := ⟨by decide +kernel, rfl⟩
theorem d0_194 : own_D code 194 (.lstore 17) 2 196 := ⟨by decide +kernel, rfl⟩
theorem d0_196 : own_D code 196 (.lload 15) 2 198 := ⟨by decide +kernel, rfl⟩
theorem d0_198 : own_D code 198 (.ldc2_w 38) 3 201 := ⟨by decide +kernel, rfl⟩
theorem d0_201 : own_D code 201 (.lxor) 1 202 := ⟨by decide +kernel, rfl⟩
theorem d0_202 : own_D code 202 (.lload 17) 2 204 := ⟨by decide +kernel, rfl⟩
theorem d0_204 : own_D code 204 (.ldc2_w 38) 3 207 := ⟨by decide +kernel, rfl⟩
theorem d0_207 : own_D code 207 (.lxor) 1 208 := ⟨by decide +kernel, rfl⟩
theorem d0_208 : own_D code 208 (.lcmp) 1 209 := ⟨by decide +kernel, rfl⟩
theorem d0_209 : own_B code 209 (.ifCond .gt 7) 7 212 216 := ⟨by decide +kernel, rfl, by decide, by decide⟩
theorem d0_212 : own_D code 212 (.iconst 1) 1 213 := ⟨by decide +kernel, rfl⟩
theorem d0_213 : own_B code 213 (.goto 4) 4 216 217 := ⟨by decide +kernel, rfl, by decide, by decide⟩
theorem d0_216 : own_D code 216 (.iconst 0) 1 217 := ⟨by decide +kernel, rfl⟩
theorem d0_217 : own_D code 217 (.istore 14) 2 219 := ⟨by decide +kernel, rfl⟩
theorem d0_219 : own_D code 219 (.iload 13) 2 221 := ⟨by decide +kernel, rfl⟩
theorem d0_221 : own_D code 221 (.iload 14) 2 223 := ⟨by decide +kernel, rfl⟩
theorem d0_223 : own_B code 223 (.if_icmp .ne 7) 7 226 230 := ⟨by decide +kernel, rfl, by decide, by decide⟩
theorem d0_226 : own_D code 226 (.iconst 1) 1 227 := ⟨by decide +kernel, rfl⟩
theorem d0_227 : own_B code 227 (.goto 4) 4 230 231 := ⟨by decide +kernel, rfl, by decide, by decide⟩
theorem d0_231 : own_D code 231 (.ireturn) 1 232 := ⟨by decide +kernel, rfl⟩
theorem d1_0 : own_D jdk_29_method_69_code 0 (.iload_n 0) 1 1 := ⟨by decide +kernel, rfl⟩
theorem d1_1 : own_D jdk_29_method_69_code 1 (.iload_n 1) 1 2 := ⟨by decide +kernel, rfl⟩
theorem d1_2 : own_B jdk_29_method_69_code 2 (.if_icmp .gt 7) 7 5 9 := ⟨by decide +kernel, rfl, by decide, by decide⟩
theorem d1_5 : own_D jdk_29_method_69_code 5 (.iload_n 0) 1 6 := ⟨by decide +kernel, rfl⟩
theorem d1_6 : own_B jdk_29_method_69_code 6 (.goto 4) 4 9 10 := ⟨by decide +kernel, rfl, by decide, by decide⟩
theorem d1_9 : own_D jdk_29_method_69_code 9 (.iload_n 1) 1 10 := ⟨by decide +kernel, rfl⟩
theorem d1_10 : own_D jdk_29_method_69_code 10 (.ireturn) 1 11 := ⟨by decide +kernel, rfl⟩
theorem d2_0 : own_D jdk_29_method_65_code 0 (.iload_n 0) 1 1 := ⟨by decide +kernel, rfl⟩
theorem d2_1 : own_D jdk_29_method_65_code 1 (.iload_n 1) 1 2 := ⟨by decide +kernel, rfl⟩
theorem d2_2 : own_B jdk_29_method_65_code 2 (.if_icmp .lt 7) 7 5 9 := ⟨by decide +kernel, rfl, by decide, by decide⟩
theorem d2_5 : own_D jdk_29_method_65_code 5 (.iload_n 0) 1 6 := ⟨by decide +kernel, rfl⟩
theorem d2_6 : own_B jdk_29_method_65_code 6 (.goto 4) 4 9 10 := ⟨by decide +kernel, rfl, by decide, by decide⟩
theorem d2_9 : own_D jdk_29_method_65_code 9 (.iload_n 1) 1 10 := ⟨by decide +kernel, rfl⟩
theorem d2_10 : own_D jdk_29_method_65_code 10 (.ireturn) 1 11 := ⟨by decide +kernel, rfl⟩
theorem d3_0 : own_D prog_59_method_1_code 0 (.aload_n 0) 1 1 := ⟨by decide +kernel, rfl⟩
theorem d3_1 : own_D prog_59_method_1_code 1 (.invokespecial 1) 3 4 := ⟨by decide +kernel, rfl⟩
theorem d3_4 : own_D prog_59_method_1_code 4 (.aload_n 0) 1 5 := ⟨by decide +kernel, rfl⟩
theorem d3_5 : own_D prog_59_method_1_code 5 (.aload_n 1) 1 6 := ⟨by decide +kernel, rfl⟩
theorem d3_6 : own_D prog_59_method_1_code 6 (.putfield 7) 3 9 := ⟨by decide +kernel, rfl⟩
theorem d3_9 : own_D prog_59_method_1_code 9 (.aload_n 0) 1 10 := ⟨by decide +kernel, rfl⟩
theorem d3_10 : own_D prog_59_method_1_code 10 (.aload_n 2) 1 11 := ⟨by decide +kernel, rfl⟩
theorem d3_11 : own_D prog_59_method_1_code 11 (.putfield 13) 3 14 := ⟨by decide +kernel, rfl⟩
theorem d3_14 : own_D prog_59_method_1_code 14 (.aload_n 0) 1 15 := ⟨by decide +kernel, rfl⟩
theorem d3_15 : own_D prog_59_method_1_code 15 (.iload_n 3) 1 16 := ⟨by decide +kernel, rfl⟩
theorem d3_16 : own_D prog_59_method_1_code 16 (.putfield 17) 3 19 := ⟨by decide +kernel, rfl⟩
theorem d3_19 : own_D prog_59_method_1_code 19 (.aload_n 0) 1 20 := ⟨by decide +kernel, rfl⟩
theorem d3_20 : own_D prog_59_method_1_code 20 (.iload 4) 2 22 := ⟨by decide +kernel, rfl⟩
theorem d3_22 : own_D prog_59_method_1_code 22 (.putfield 21) 3 25 := ⟨by decide +kernel, rfl⟩
theorem d3_25 : own_D prog_59_method_1_code 25 (.aload_n 0) 1 26 := ⟨by decide +kernel, rfl⟩
theorem d3_26 : own_D prog_59_method_1_code 26 (.iload 5) 2 28 := ⟨by decide +kernel, rfl⟩
theorem d3_28 : own_D prog_59_method_1_code 28 (.putfield 24) 3 31 := ⟨by decide +kernel, rfl⟩
theorem d3_31 : own_D prog_59_method_1_code 31 (.return_) 1 32 := ⟨by decide +kernel, rfl⟩
theorem d5_0 : own_D prog_59_method_7_code 0 (.lload_n 1) 1 1 := ⟨by decide +kernel, rfl⟩
theorem d5_1 : own_D prog_59_method_7_code 1 (.aload_n 0) 1 2 := ⟨by decide +kernel, rfl⟩
theorem d5_2 : own_D prog_59_method_7_code 2 (.getfield 17) 3 5 := ⟨by decide +kernel, rfl⟩
theorem d5_5 : own_D prog_59_method_7_code 5 (.i2l) 1 6 := ⟨by decide +kernel, rfl⟩
theorem d5_6 : own_D prog_59_method_7_code 6 (.lcmp) 1 7 := ⟨by decide +kernel, rfl⟩
theorem d5_7 : own_B prog_59_method_7_code 7 (.ifCond .lt 17) 17 10 24 := ⟨by decide +kernel, rfl, by decide, by decide⟩
theorem d5_10 : own_D prog_59_method_7_code 10 (.lload_n 1) 1 11 := ⟨by decide +kernel, rfl⟩
theorem d5_11 : own_D prog_59_method_7_code 11 (.aload_n 0) 1 12 := ⟨by decide +kernel, rfl⟩
theorem d5_12 : own_D prog_59_method_7_code 12 (.getfield 21) 3 15 := ⟨by decide +kernel, rfl⟩
theorem d5_15 : own_D prog_59_method_7_code 15 (.i2l) 1 16 := ⟨by decide +kernel, rfl⟩
theorem d5_16 : own_D prog_59_method_7_code 16 (.lcmp) 1 17 := ⟨by decide +kernel, rfl⟩
theorem d5_17 : own_B prog_59_method_7_code 17 (.ifCond .gt 7) 7 20 24 := ⟨by decide +kernel, rfl, by decide, by decide⟩
theorem d5_20 : own_D prog_59_method_7_code 20 (.iconst 1) 1 21 := ⟨by decide +kernel, rfl⟩
theorem d5_21 : own_B prog_59_method_7_code 21 (.goto 4) 4 24 25 := ⟨by decide +kernel, rfl, by decide, by decide⟩
theorem d5_24 : own_D prog_59_method_7_code 24 (.iconst 0) 1 25 := ⟨by decide +kernel, rfl⟩
theorem d5_25 : own_D prog_59_method_7_code 25 (.ireturn) 1 26 := ⟨by decide +kernel, rfl⟩
theorem own_pd1 : parseMethodDescriptor "(II)I" = some ⟨[.int, .int], some .int⟩ := by decide +kernel
theorem own_pd2 : parseMethodDescriptor "(II)I" = some ⟨[.int, .int], some .int⟩ := by decide +kernel
theorem own_pd3 : parseMethodDescriptor "(Ljava/lang/String;Lcom/example/deft_ltl/deftltl/automata/system/ModelType;III)V" = some ⟨[(.object "java/lang/String"), (.object "com/example/deft_ltl/deftltl/automata/system/ModelType"), .int, .int, .int], none⟩ := by decide +kernel
theorem own_pd5 : parseMethodDescriptor "(J)Z" = some ⟨[.long], some .boolean⟩ := by decide +kernel
theorem own_pl0 : plainFor (⟨"com/example/deft_ltl/deftltl/automata/system/ModelVariableAllowsPinLaw", "law", "(IIIJ)Z"⟩ : MethodName) = true := plainFor_of_name (by first | (simp [plainName, overriddenIn]; done) | decide +kernel)
theorem own_pl1 : plainFor (⟨"java/lang/Math", "min", "(II)I"⟩ : MethodName) = true := Jvm.Free.JP.mathPlain rfl (by decide +kernel)
theorem own_pl2 : plainFor (⟨"java/lang/Math", "max", "(II)I"⟩ : MethodName) = true := Jvm.Free.JP.mathPlain rfl (by decide +kernel)
theorem own_pl3 : plainFor (⟨"com/example/deft_ltl/deftltl/automata/system/ModelVariable", "<init>", "(Ljava/lang/String;Lcom/example/deft_ltl/deftltl/automata/system/ModelType;III)V"⟩ : MethodName) = true := plainFor_of_name (by first | (simp [plainName, overriddenIn]; done) | decide +kernel)
theorem own_pl5 : plainFor (⟨"com/example/deft_ltl/deftltl/automata/system/ModelVariable", "allows", "(J)Z"⟩ : MethodName) = true := plainFor_of_name (by first | (simp [plainName, overriddenIn]; done) | decide +kernel)
theorem own_sin : ∀ d ∈ Bundle.stringAtoms, d ∈ tables_1 := by decide +kernel
theorem own_sw {Z : State} {a0 : Array Value} (hw : ∀ d ∈ tables_1, d.before a0 Z = true) : ∀ a ∈ Bundle.stringAtoms, a.before a0 Z = true := fun a ha => hw a (own_sin a ha)
def own_mn (x y : Int32) : Int32 := if x.toInt > y.toInt then y else x
def own_mx (x y : Int32) : Int32 := if x.toInt < y.toInt then y else x
def own_al (lo hi : Int32) (v : Int64) : Int32 := if lo.toInt ≤ v.toInt ∧ v.toInt ≤ hi.toInt then 1 else 0
theorem own_mnmx (x y : Int32) : (own_mn x y).toInt ≤ (own_mx x y).toInt := by
  unfold own_mn own_mx
  by_cases q : x.toInt > y.toInt
  · rw [if_pos q, if_neg (by omega)]; omega
  · rw [if_neg q]
    by_cases r : x.toInt < y.toInt
    · rw [if_pos r]; omega
    · rw [if_neg r]; omega
theorem own_flip (x : Int64) : (x.toInt < 0 → (x ^^^ (-9223372036854775808)).toInt = x.toInt + 9223372036854775808) ∧ (0 ≤ x.toInt → (x ^^^ (-9223372036854775808)).toInt = x.toInt - 9223372036854775808) := by
  have e : (x ^^^ (-9223372036854775808)).toBitVec.toNat = x.toBitVec.toNat ^^^ 2 ^ 63 := by
    rw [Int64.toBitVec_xor, BitVec.toNat_xor]; rfl
  have h1 : (x.toBitVec.toNat ^^^ 2 ^ 63) % 2 ^ 63 = x.toBitVec.toNat % 2 ^ 63 := by
    rw [Nat.xor_mod_two_pow, Nat.mod_self, Nat.xor_zero]
  have h2 : (x.toBitVec.toNat ^^^ 2 ^ 63) / 2 ^ 63 = (x.toBitVec.toNat / 2 ^ 63) ^^^ 1 := by
    rw [Nat.xor_div_two_pow]
  have lt := x.toBitVec.isLt
  have h3 : x.toBitVec.toNat / 2 ^ 63 = 0 ∨ x.toBitVec.toNat / 2 ^ 63 = 1 := by omega
  have q1 : x.toBitVec.toInt = x.toInt := rfl
  have q2 : (x ^^^ (-9223372036854775808)).toBitVec.toInt = (x ^^^ (-9223372036854775808)).toInt := rfl
  rw [BitVec.toInt_eq_toNat_cond] at q1 q2
  rw [e] at q2
  rcases h3 with h3 | h3
  · rw [h3, show (0 : Nat) ^^^ 1 = 1 from rfl] at h2
    constructor <;> intro q <;> split at q1 <;> split at q2 <;> omega
  · rw [h3, show (1 : Nat) ^^^ 1 = 0 from rfl] at h2
    constructor <;> intro q <;> split at q1 <;> split at q2 <;> omega
theorem own_cmp {lo hi : Int32} {v : Int64} (hle : lo.toInt ≤ hi.toInt) : ((v - lo.toInt64) ^^^ (-9223372036854775808)).toInt > ((hi.toInt64 - lo.toInt64) ^^^ (-9223372036854775808)).toInt ↔ ¬ (lo.toInt ≤ v.toInt ∧ v.toInt ≤ hi.toInt) := by
  have a1 := c_i2l lo; have a2 := c_i2l hi
  have r1 := Int32.toInt_lt lo; have r2 := Int32.le_toInt lo; have r3 := Int32.toInt_lt hi; have r4 := Int32.le_toInt hi
  have v1 := Int64.toInt_lt v; have v2 := Int64.le_toInt v
  have s1 := c_lsub v lo.toInt64; have s2 := Int64.toInt_lt (v - lo.toInt64); have s3 := Int64.le_toInt (v - lo.toInt64)
  have w1 := c_lsub hi.toInt64 lo.toInt64; have w2 := Int64.toInt_lt (hi.toInt64 - lo.toInt64); have w3 := Int64.le_toInt (hi.toInt64 - lo.toInt64)
  have ew : (hi.toInt64 - lo.toInt64).toInt = hi.toInt - lo.toInt := by omega
  have f2 := (own_flip (hi.toInt64 - lo.toInt64)).2 (by omega)
  obtain ⟨f0, f1⟩ := own_flip (v - lo.toInt64)
  by_cases q : (v - lo.toInt64).toInt < 0
  · have f := f0 q
    constructor
    · intro _; omega
    · intro _; omega
  · have f := f1 (by omega)
    constructor
    · intro _; omega
    · intro _; omega
theorem own_l0 : (0 : Int32).toInt = 0 := rfl
theorem own_l1 : (1 : Int32).toInt = 1 := rfl
theorem own_L0 : (0 : Int64).toInt = 0 := rfl
theorem own_L1 : (1 : Int64).toInt = 1 := rfl
set_option maxRecDepth 65536 in
set_option maxHeartbeats 4000000 in
theorem own_mn_ {l : Launch} {Z : State} {a0 : Array Value} (hw : ∀ d ∈ tables_1, d.before a0 Z = true) {n0 : Nat} {h : Heap} (x y : Int32) :
    own_V l Z n0 ({ frames := 0, cells := 0, slots := 0, locals := 0 } : Room) "java/lang/Math" "min" jdk_29_method_69_code 2 (some .int) (fun v h' => v = some (.int (own_mn x y)) ∧ h = h') h 0 0 0 #[.val (.int x), .val (.int y)] [] := by
  refine own_iloadN d1_0 rfl ?_
  refine own_iloadN d1_1 rfl ?_
  refine own_icmpGt d1_2 (fun h2 => ?_) (fun h2 => ?_)
  · refine own_iloadN d1_9 rfl ?_
    exact own_retI d1_10 rfl (by decide) (by decide) ⟨congrArg (fun z => some (Value.int z)) (by unfold own_mn; rw [if_pos h2]), rfl⟩
  · refine own_iloadN d1_5 rfl ?_
    refine own_goto d1_6 ?_
    exact own_retI d1_10 rfl (by decide) (by decide) ⟨congrArg (fun z => some (Value.int z)) (by unfold own_mn; rw [if_neg h2]), rfl⟩
set_option maxRecDepth 65536 in
set_option maxHeartbeats 4000000 in
theorem own_mx_ {l : Launch} {Z : State} {a0 : Array Value} (hw : ∀ d ∈ tables_1, d.before a0 Z = true) {n0 : Nat} {h : Heap} (x y : Int32) :
    own_V l Z n0 ({ frames := 0, cells := 0, slots := 0, locals := 0 } : Room) "java/lang/Math" "max" jdk_29_method_65_code 2 (some .int) (fun v h' => v = some (.int (own_mx x y)) ∧ h = h') h 0 0 0 #[.val (.int x), .val (.int y)] [] := by
  refine own_iloadN d2_0 rfl ?_
  refine own_iloadN d2_1 rfl ?_
  refine own_icmpLt d2_2 (fun h2 => ?_) (fun h2 => ?_)
  · refine own_iloadN d2_9 rfl ?_
    exact own_retI d2_10 rfl (by decide) (by decide) ⟨congrArg (fun z => some (Value.int z)) (by unfold own_mx; rw [if_pos h2]), rfl⟩
  · refine own_iloadN d2_5 rfl ?_
    refine own_goto d2_6 ?_
    exact own_retI d2_10 rfl (by decide) (by decide) ⟨congrArg (fun z => some (Value.int z)) (by unfold own_mx; rw [if_neg h2]), rfl⟩
set_option maxRecDepth 65536 in
set_option maxHeartbeats 4000000 in
theorem own_init {l : Launch} {Z : State} {a0 : Array Value} (hw : ∀ d ∈ tables_1, d.before a0 Z = true) {n0 : Nat} {h : Heap} (a s t : Addr) (lo hi i : Int32) (ga : n0 ≤ a) (E : Exa Z h a "com/example/deft_ltl/deftltl/automata/system/ModelVariable") (F_name : Fld Z h a "com/example/deft_ltl/deftltl/automata/system/ModelVariable" "name" "Ljava/lang/String;" .null) (F_type : Fld Z h a "com/example/deft_ltl/deftltl/automata/system/ModelVariable" "type" "Lcom/example/deft_ltl/deftltl/automata/system/ModelType;" .null) (F_lowest : Fld Z h a "com/example/deft_ltl/deftltl/automata/system/ModelVariable" "lowest" "I" (.int (0 : Int32))) (F_highest : Fld Z h a "com/example/deft_ltl/deftltl/automata/system/ModelVariable" "highest" "I" (.int (0 : Int32))) (F_initial : Fld Z h a "com/example/deft_ltl/deftltl/automata/system/ModelVariable" "initial" "I" (.int (0 : Int32))) :
    own_V l Z n0 ({ frames := 1, cells := 0, slots := 0, locals := 12 } : Room) "com/example/deft_ltl/deftltl/automata/system/ModelVariable" "<init>" prog_59_method_1_code 6 none (fun v' h' => v' = none ∧ Exa Z h' a "com/example/deft_ltl/deftltl/automata/system/ModelVariable" ∧ Fld Z h' a "com/example/deft_ltl/deftltl/automata/system/ModelVariable" "lowest" "I" (.int lo) ∧ Fld Z h' a "com/example/deft_ltl/deftltl/automata/system/ModelVariable" "highest" "I" (.int hi)) h 0 0 0 #[.val (.ref a), .val (.ref s), .val (.ref t), .val (.int lo), .val (.int hi), .val (.int i)] [] := by
  refine own_aloadN d3_0 rfl rfl ?_
  refine own_initO (W := 0) d3_1 (own_w hw 24 rfl) (own_w hw 25 rfl) (own_w hw 26 rfl) rfl (by decide) (Nat.le_of_eq rfl) (by decide) ?_
  refine own_aloadN d3_4 rfl rfl ?_
  refine own_aloadN d3_5 rfl rfl ?_
  refine own_putF (ty := (.object "java/lang/String")) d3_6 (own_w hw 27 rfl) Via.refl F_name E (Or.inr ⟨(own_w hw 28 rfl), rfl, rfl⟩) (own_w hw 11 rfl) (by decide) rfl rfl ga (fun h1 W1 => ?_)
  have E := E.wr W1
  have F_name := F_name.same W1
  have F_type := F_type.other W1 (Or.inr (slot_ne (Or.inr (own_w hw 30 rfl)) (Or.inr (own_w hw 28 rfl)) (by decide) (t := (.object "com/example/deft_ltl/deftltl/automata/system/ModelType")) (t' := (.object "java/lang/String")) (by decide) (by decide)))
  have F_lowest := F_lowest.other W1 (Or.inr (slot_ne (Or.inr (own_w hw 32 rfl)) (Or.inr (own_w hw 28 rfl)) (by decide) (t := .int) (t' := (.object "java/lang/String")) (by decide) (by decide)))
  have F_highest := F_highest.other W1 (Or.inr (slot_ne (Or.inr (own_w hw 34 rfl)) (Or.inr (own_w hw 28 rfl)) (by decide) (t := .int) (t' := (.object "java/lang/String")) (by decide) (by decide)))
  have F_initial := F_initial.other W1 (Or.inr (slot_ne (Or.inr (own_w hw 36 rfl)) (Or.inr (own_w hw 28 rfl)) (by decide) (t := .int) (t' := (.object "java/lang/String")) (by decide) (by decide)))
  refine own_aloadN d3_9 rfl rfl ?_
  refine own_aloadN d3_10 rfl rfl ?_
  refine own_putF (ty := (.object "com/example/deft_ltl/deftltl/automata/system/ModelType")) d3_11 (own_w hw 29 rfl) Via.refl F_type E (Or.inr ⟨(own_w hw 30 rfl), rfl, rfl⟩) (own_w hw 11 rfl) (by decide) rfl rfl ga (fun h2 W2 => ?_)
  have E := E.wr W2
  have F_name := F_name.other W2 (Or.inr (slot_ne (Or.inr (own_w hw 28 rfl)) (Or.inr (own_w hw 30 rfl)) (by decide) (t := (.object "java/lang/String")) (t' := (.object "com/example/deft_ltl/deftltl/automata/system/ModelType")) (by decide) (by decide)))
  have F_type := F_type.same W2
  have F_lowest := F_lowest.other W2 (Or.inr (slot_ne (Or.inr (own_w hw 32 rfl)) (Or.inr (own_w hw 30 rfl)) (by decide) (t := .int) (t' := (.object "com/example/deft_ltl/deftltl/automata/system/ModelType")) (by decide) (by decide)))
  have F_highest := F_highest.other W2 (Or.inr (slot_ne (Or.inr (own_w hw 34 rfl)) (Or.inr (own_w hw 30 rfl)) (by decide) (t := .int) (t' := (.object "com/example/deft_ltl/deftltl/automata/system/ModelType")) (by decide) (by decide)))
  have F_initial := F_initial.other W2 (Or.inr (slot_ne (Or.inr (own_w hw 36 rfl)) (Or.inr (own_w hw 30 rfl)) (by decide) (t := .int) (t' := (.object "com/example/deft_ltl/deftltl/automata/system/ModelType")) (by decide) (by decide)))
  refine own_aloadN d3_14 rfl rfl ?_
  refine own_iloadN d3_15 rfl ?_
  refine own_putF (ty := .int) d3_16 (own_w hw 31 rfl) Via.refl F_lowest E (Or.inr ⟨(own_w hw 32 rfl), rfl, rfl⟩) (own_w hw 11 rfl) (by decide) rfl rfl ga (fun h3 W3 => ?_)
  have E := E.wr W3
  have F_name := F_name.other W3 (Or.inr (slot_ne (Or.inr (own_w hw 28 rfl)) (Or.inr (own_w hw 32 rfl)) (by decide) (t := (.object "java/lang/String")) (t' := .int) (by decide) (by decide)))
  have F_type := F_type.other W3 (Or.inr (slot_ne (Or.inr (own_w hw 30 rfl)) (Or.inr (own_w hw 32 rfl)) (by decide) (t := (.object "com/example/deft_ltl/deftltl/automata/system/ModelType")) (t' := .int) (by decide) (by decide)))
  have F_lowest := F_lowest.same W3
  have F_highest := F_highest.other W3 (Or.inr (slot_ne (Or.inr (own_w hw 34 rfl)) (Or.inr (own_w hw 32 rfl)) (by decide) (t := .int) (t' := .int) (by decide) (by decide)))
  have F_initial := F_initial.other W3 (Or.inr (slot_ne (Or.inr (own_w hw 36 rfl)) (Or.inr (own_w hw 32 rfl)) (by decide) (t := .int) (t' := .int) (by decide) (by decide)))
  refine own_aloadN d3_19 rfl rfl ?_
  refine own_iload d3_20 rfl ?_
  refine own_putF (ty := .int) d3_22 (own_w hw 33 rfl) Via.refl F_highest E (Or.inr ⟨(own_w hw 34 rfl), rfl, rfl⟩) (own_w hw 11 rfl) (by decide) rfl rfl ga (fun h4 W4 => ?_)
  have E := E.wr W4
  have F_name := F_name.other W4 (Or.inr (slot_ne (Or.inr (own_w hw 28 rfl)) (Or.inr (own_w hw 34 rfl)) (by decide) (t := (.object "java/lang/String")) (t' := .int) (by decide) (by decide)))
  have F_type := F_type.other W4 (Or.inr (slot_ne (Or.inr (own_w hw 30 rfl)) (Or.inr (own_w hw 34 rfl)) (by decide) (t := (.object "com/example/deft_ltl/deftltl/automata/system/ModelType")) (t' := .int) (by decide) (by decide)))
  have F_lowest := F_lowest.other W4 (Or.inr (slot_ne (Or.inr (own_w hw 32 rfl)) (Or.inr (own_w hw 34 rfl)) (by decide) (t := .int) (t' := .int) (by decide) (by decide)))
  have F_highest := F_highest.same W4
  have F_initial := F_initial.other W4 (Or.inr (slot_ne (Or.inr (own_w hw 36 rfl)) (Or.inr (own_w hw 34 rfl)) (by decide) (t := .int) (t' := .int) (by decide) (by decide)))
  refine own_aloadN d3_25 rfl rfl ?_
  refine own_iload d3_26 rfl ?_
  refine own_putF (ty := .int) d3_28 (own_w hw 35 rfl) Via.refl F_initial E (Or.inr ⟨(own_w hw 36 rfl), rfl, rfl⟩) (own_w hw 11 rfl) (by decide) rfl rfl ga (fun h5 W5 => ?_)
  have E := E.wr W5
  have F_name := F_name.other W5 (Or.inr (slot_ne (Or.inr (own_w hw 28 rfl)) (Or.inr (own_w hw 36 rfl)) (by decide) (t := (.object "java/lang/String")) (t' := .int) (by decide) (by decide)))
  have F_type := F_type.other W5 (Or.inr (slot_ne (Or.inr (own_w hw 30 rfl)) (Or.inr (own_w hw 36 rfl)) (by decide) (t := (.object "com/example/deft_ltl/deftltl/automata/system/ModelType")) (t' := .int) (by decide) (by decide)))
  have F_lowest := F_lowest.other W5 (Or.inr (slot_ne (Or.inr (own_w hw 32 rfl)) (Or.inr (own_w hw 36 rfl)) (by decide) (t := .int) (t' := .int) (by decide) (by decide)))
  have F_highest := F_highest.other W5 (Or.inr (slot_ne (Or.inr (own_w hw 34 rfl)) (Or.inr (own_w hw 36 rfl)) (by decide) (t := .int) (t' := .int) (by decide) (by decide)))
  have F_initial := F_initial.same W5
  exact own_ret0 d3_31.1 rfl (by decide) (by decide) ⟨rfl, E, F_lowest, F_highest⟩
set_option maxRecDepth 65536 in
set_option maxHeartbeats 4000000 in
theorem own_all {l : Launch} {Z : State} {a0 : Array Value} (hw : ∀ d ∈ tables_1, d.before a0 Z = true) {n0 : Nat} {h : Heap} (a : Addr) (lo hi : Int32) (v : Int64) (Fl : Fld Z h a "com/example/deft_ltl/deftltl/automata/system/ModelVariable" "lowest" "I" (.int lo)) (Fh : Fld Z h a "com/example/deft_ltl/deftltl/automata/system/ModelVariable" "highest" "I" (.int hi)) :
    own_V l Z n0 ({ frames := 0, cells := 0, slots := 0, locals := 0 } : Room) "com/example/deft_ltl/deftltl/automata/system/ModelVariable" "allows" prog_59_method_7_code 3 (some .boolean) (fun v' h' => v' = some (.int (own_al lo hi v)) ∧ h = h') h 0 0 0 #[.val (.ref a), .val (.long v), .second] [] := by
  refine own_lloadN d5_0 rfl ?_
  refine own_aloadN d5_1 rfl rfl ?_
  refine own_getF d5_2 (own_w hw 31 rfl) Via.refl Fl ?_
  refine own_i2l d5_5 ?_
  have a1 := c_i2l lo; have a2 := c_i2l hi
  refine own_lcmpLt d5_6 d5_7 (fun h7 => ?_) (fun h7 => ?_)
  · refine own_iconst (x := 0) d5_24 rfl ?_
    exact own_retZ d5_25 rfl (by decide) (by decide) (by decide) ⟨congrArg (fun z => some (Value.int z)) (by unfold own_al; rw [if_neg (by omega)]), rfl⟩
  · refine own_lloadN d5_10 rfl ?_
    refine own_aloadN d5_11 rfl rfl ?_
    refine own_getF d5_12 (own_w hw 33 rfl) Via.refl Fh ?_
    refine own_i2l d5_15 ?_
    refine own_lcmpGt d5_16 d5_17 (fun h17 => ?_) (fun h17 => ?_)
    · refine own_iconst (x := 0) d5_24 rfl ?_
      exact own_retZ d5_25 rfl (by decide) (by decide) (by decide) ⟨congrArg (fun z => some (Value.int z)) (by unfold own_al; rw [if_neg (by omega)]), rfl⟩
    · refine own_iconst (x := 1) d5_20 rfl ?_
      refine own_goto d5_21 ?_
      exact own_retZ d5_25 rfl (by decide) (by decide) (by decide) ⟨congrArg (fun z => some (Value.int z)) (by unfold own_al; rw [if_pos (by omega)]), rfl⟩
set_option maxRecDepth 65536 in
set_option maxHeartbeats 4000000 in
theorem own_law3_0 {l : Launch} {Z : State} {a0 : Array Value} (hw : ∀ d ∈ tables_1, d.before a0 Z = true) {n0 : Nat} {h : Heap} (Z0 : n0 ≤ h.size) (fl a b : Int32) (v0 : Int64) (lo hi : Int32) (ty : Addr) (md : Int32) (v : Int64) (hle : lo.toInt ≤ hi.toInt) :
    own_V l Z n0 room_1 "com/example/deft_ltl/deftltl/automata/system/ModelVariableAllowsPinLaw" "law" code maxLocals ret (fun v _ => v = some (.int 1)) h 0 0 122 #[.val (.int fl), .val (.int a), .val (.int b), .val (.long v0), .second, .val (.int (0 : Int32)), .val (.int lo), .val (.int hi), .val (.ref ty), .val (.int md), .val (.long v), .second, .unset, .unset, .unset, .unset, .unset, .unset, .unset] [] := by
  refine own_new (a0 := a0) d0_122 (own_w hw 10 rfl) (own_w hw 11 rfl) (own_w hw 12 rfl) (cells' := 1) (slots' := 5) rfl rfl (by decide) (by decide) (fun h1 E1 A1 D1 => ?_)
  obtain ⟨b1, g1⟩ : ∃ z, z = h.size := ⟨_, rfl⟩
  rw [← g1] at A1 D1 ⊢
  have g_b1 : n0 ≤ b1 := by rw [g1]; exact Z0
  have Z0 := Nat.le_trans Z0 E1.1
  have E_b1 := A1
  have F_name_b1 : Fld Z h1 b1 "com/example/deft_ltl/deftltl/automata/system/ModelVariable" "name" "Ljava/lang/String;" .null := D1 (Or.inr (own_w hw 28 rfl)) (ty := (.object "java/lang/String")) (by decide)
  have F_type_b1 : Fld Z h1 b1 "com/example/deft_ltl/deftltl/automata/system/ModelVariable" "type" "Lcom/example/deft_ltl/deftltl/automata/system/ModelType;" .null := D1 (Or.inr (own_w hw 30 rfl)) (ty := (.object "com/example/deft_ltl/deftltl/automata/system/ModelType")) (by decide)
  have F_lowest_b1 : Fld Z h1 b1 "com/example/deft_ltl/deftltl/automata/system/ModelVariable" "lowest" "I" (.int (0 : Int32)) := D1 (Or.inr (own_w hw 32 rfl)) (ty := .int) (by decide)
  have F_highest_b1 : Fld Z h1 b1 "com/example/deft_ltl/deftltl/automata/system/ModelVariable" "highest" "I" (.int (0 : Int32)) := D1 (Or.inr (own_w hw 34 rfl)) (ty := .int) (by decide)
  have F_initial_b1 : Fld Z h1 b1 "com/example/deft_ltl/deftltl/automata/system/ModelVariable" "initial" "I" (.int (0 : Int32)) := D1 (Or.inr (own_w hw 36 rfl)) (ty := .int) (by decide)
  refine own_dup d0_125 rfl ?_
  refine own_ldcS (a0 := a0) (n := 4) d0_126 (own_w hw 13 rfl) (own_sw hw) (by decide) (by decide) (cells' := 3) (slots' := 13) rfl rfl (by decide) (by decide) (fun h2 sa E2 => ?_)
  have Z0 := Nat.le_trans Z0 E2.1
  have E_b1 := E_b1.ext E2
  have F_name_b1 := F_name_b1.ext E2
  have F_type_b1 := F_type_b1.ext E2
  have F_lowest_b1 := F_lowest_b1.ext E2
  have F_highest_b1 := F_highest_b1.ext E2
  have F_initial_b1 := F_initial_b1.ext E2
  refine own_aload d0_128 rfl rfl ?_
  refine own_iload d0_130 rfl ?_
  refine own_iload d0_132 rfl ?_
  refine own_iload d0_134 rfl ?_
  refine own_callI (y := (⟨"com/example/deft_ltl/deftltl/automata/system/ModelVariable", "<init>", "(Ljava/lang/String;Lcom/example/deft_ltl/deftltl/automata/system/ModelType;III)V"⟩ : MethodName)) (argsL := [(.ref sa), (.ref ty), (.int lo), (.int hi), (.int lo)]) (rest := [(.ref b1)]) (W := 1) (cells' := 3) (slots' := 13) (R' := ({ frames := 1, cells := 0, slots := 0, locals := 12 } : Room)) (own_init hw b1 sa ty lo hi lo g_b1 E_b1 F_name_b1 F_type_b1 F_lowest_b1 F_highest_b1 F_initial_b1) (fun m => own_ef3_AAAIII m b1 sa ty lo hi lo) own_pl3 own_pd3 rfl rfl d0_136 (own_w hw 21 rfl) (own_w hw 22 rfl) (own_w hw 12 rfl) (own_w hw 23 rfl) (by decide) rfl rfl (Nat.le_of_eq rfl) (by decide) (by decide) rfl rfl (by decide) (by decide) ?_
  rintro _ h2 ⟨rfl, E_b1, Fl, Fh⟩
  refine own_astore (L' := #[.val (.int fl), .val (.int a), .val (.int b), .val (.long v0), .second, .val (.int (0 : Int32)), .val (.int lo), .val (.int hi), .val (.ref ty), .val (.int md), .val (.long v), .second, .val (.ref b1), .unset, .unset, .unset, .unset, .unset, .unset]) d0_139 rfl rfl ?_
  refine own_aload d0_141 rfl rfl ?_
  refine own_lload d0_143 rfl ?_
  refine own_callV (y := (⟨"com/example/deft_ltl/deftltl/automata/system/ModelVariable", "allows", "(J)Z"⟩ : MethodName)) (z := (⟨"com/example/deft_ltl/deftltl/automata/system/ModelVariable", "allows", "(J)Z"⟩ : MethodName)) (argsL := [(.long v)]) (rest := []) (W := 0) (cells' := 3) (slots' := 13) (R' := ({ frames := 0, cells := 0, slots := 0, locals := 0 } : Room)) (own_all hw b1 lo hi v Fl Fh) (fun m => own_ef5_AJ m b1 v) own_pl5 own_pd5 rfl E_b1 d0_145 (own_w hw 37 rfl) (own_w hw 38 rfl) (fun _ q => notFace_of_selects (args := #[]) (mvT q (own_w hw 40 rfl))) (own_w hw 40 rfl) (own_w hw 39 rfl) (own_w hw 41 rfl) (own_w hw 12 rfl) (by decide) rfl rfl (Nat.le_of_eq rfl) (by decide) (by decide) rfl rfl (by decide) (by decide) ?_
  rintro _ _ ⟨rfl, rfl⟩
  refine own_istore (L' := #[.val (.int fl), .val (.int a), .val (.int b), .val (.long v0), .second, .val (.int (0 : Int32)), .val (.int lo), .val (.int hi), .val (.ref ty), .val (.int md), .val (.long v), .second, .val (.ref b1), .val (.int (own_al lo hi v)), .unset, .unset, .unset, .unset, .unset]) d0_148 rfl ?_
  refine own_iload d0_150 rfl ?_
  refine own_ifEq d0_152 (fun _ => ?_) (fun q => False.elim (by exact absurd rfl q))
  refine own_lload d0_179 rfl ?_
  refine own_iload d0_181 rfl ?_
  refine own_i2l d0_183 ?_
  refine own_lsub d0_184 ?_
  refine own_lstore (L' := #[.val (.int fl), .val (.int a), .val (.int b), .val (.long v0), .second, .val (.int (0 : Int32)), .val (.int lo), .val (.int hi), .val (.ref ty), .val (.int md), .val (.long v), .second, .val (.ref b1), .val (.int (own_al lo hi v)), .unset, .val (.long (v - lo.toInt64)), .second, .unset, .unset]) d0_185 rfl ?_
  refine own_iload d0_187 rfl ?_
  refine own_i2l d0_189 ?_
  refine own_iload d0_190 rfl ?_
  refine own_i2l d0_192 ?_
  refine own_lsub d0_193 ?_
  refine own_lstore (L' := #[.val (.int fl), .val (.int a), .val (.int b), .val (.long v0), .second, .val (.int (0 : Int32)), .val (.int lo), .val (.int hi), .val (.ref ty), .val (.int md), .val (.long v), .second, .val (.ref b1), .val (.int (own_al lo hi v)), .unset, .val (.long (v - lo.toInt64)), .second, .val (.long (hi.toInt64 - lo.toInt64)), .second]) d0_194 rfl ?_
  refine own_lload d0_196 rfl ?_
  refine own_ldcJ d0_198 (own_w hw 42 rfl) ?_
  refine own_lxor d0_201 ?_
  refine own_lload d0_202 rfl ?_
  refine own_ldcJ d0_204 (own_w hw 42 rfl) ?_
  refine own_lxor d0_207 ?_
  have hc := own_cmp (v := v) hle
  refine own_lcmpGt d0_208 d0_209 (fun h209 => ?_) (fun h209 => ?_)
  · refine own_iconst (x := 0) d0_216 rfl ?_
    refine own_istore (L' := #[.val (.int fl), .val (.int a), .val (.int b), .val (.long v0), .second, .val (.int (0 : Int32)), .val (.int lo), .val (.int hi), .val (.ref ty), .val (.int md), .val (.long v), .second, .val (.ref b1), .val (.int (own_al lo hi v)), .val (.int (0 : Int32)), .val (.long (v - lo.toInt64)), .second, .val (.long (hi.toInt64 - lo.toInt64)), .second]) d0_217 rfl ?_
    rw [show own_al lo hi v = 0 by unfold own_al; rw [if_neg (hc.mp h209)]]
    refine own_iload d0_219 rfl ?_
    refine own_iload d0_221 rfl ?_
    refine own_icmpNe d0_223 (fun q => False.elim (by exact q rfl)) (fun _ => ?_)
    refine own_iconst (x := 1) d0_226 rfl ?_
    refine own_goto d0_227 ?_
    exact own_retZ d0_231 rfl (by decide) (by decide) (by decide) rfl
  · refine own_iconst (x := 1) d0_212 rfl ?_
    refine own_goto d0_213 ?_
    refine own_istore (L' := #[.val (.int fl), .val (.int a), .val (.int b), .val (.long v0), .second, .val (.int (0 : Int32)), .val (.int lo), .val (.int hi), .val (.ref ty), .val (.int md), .val (.long v), .second, .val (.ref b1), .val (.int (own_al lo hi v)), .val (.int (1 : Int32)), .val (.long (v - lo.toInt64)), .second, .val (.long (hi.toInt64 - lo.toInt64)), .second]) d0_217 rfl ?_
    rw [show own_al lo hi v = 1 by unfold own_al; rw [if_pos (Decidable.not_not.mp fun q => h209 (hc.mpr q))]]
    refine own_iload d0_219 rfl ?_
    refine own_iload d0_221 rfl ?_
    refine own_icmpNe d0_223 (fun q => False.elim (by exact q rfl)) (fun _ => ?_)
    refine own_iconst (x := 1) d0_226 rfl ?_
    refine own_goto d0_227 ?_
    exact own_retZ d0_231 rfl (by decide) (by decide) (by decide) rfl
set_option maxRecDepth 65536 in
set_option maxHeartbeats 4000000 in
theorem own_law2_0 {l : Launch} {Z : State} {a0 : Array Value} (hw : ∀ d ∈ tables_1, d.before a0 Z = true) {n0 : Nat} {h : Heap} (Z0 : n0 ≤ h.size) (fl a b : Int32) (v0 : Int64) (lo hi : Int32) (ty : Addr) (hle : lo.toInt ≤ hi.toInt) :
    own_V l Z n0 room_1 "com/example/deft_ltl/deftltl/automata/system/ModelVariableAllowsPinLaw" "law" code maxLocals ret (fun v _ => v = some (.int 1)) h 0 0 51 #[.val (.int fl), .val (.int a), .val (.int b), .val (.long v0), .second, .val (.int (0 : Int32)), .val (.int lo), .val (.int hi), .val (.ref ty), .unset, .unset, .unset, .unset, .unset, .unset, .unset, .unset, .unset, .unset] [] := by
  refine own_iloadN d0_51 rfl ?_
  refine own_iconst (x := 1) d0_52 rfl ?_
  refine own_iushr d0_53 ?_
  refine own_bipush (x := 7) d0_54 rfl ?_
  refine own_iand d0_56 ?_
  generalize g_md : (((fl.toUInt32 >>> ((1 : Int32) &&& 31).toUInt32).toInt32) &&& (7 : Int32)) = md
  refine own_istore (L' := #[.val (.int fl), .val (.int a), .val (.int b), .val (.long v0), .second, .val (.int (0 : Int32)), .val (.int lo), .val (.int hi), .val (.ref ty), .val (.int md), .unset, .unset, .unset, .unset, .unset, .unset, .unset, .unset, .unset]) d0_57 rfl ?_
  refine own_iload d0_59 rfl ?_
  refine own_iconst (x := 1) d0_61 rfl ?_
  refine own_icmpNe d0_62 (fun h62 => ?_) (fun h62 => ?_)
  · refine own_iload d0_73 rfl ?_
    refine own_iconst (x := 2) d0_75 rfl ?_
    refine own_icmpNe d0_76 (fun h76 => ?_) (fun h76 => ?_)
    · refine own_iload d0_89 rfl ?_
      refine own_iconst (x := 3) d0_91 rfl ?_
      refine own_icmpNe d0_92 (fun h92 => ?_) (fun h92 => ?_)
      · refine own_iload d0_103 rfl ?_
        refine own_iconst (x := 4) d0_105 rfl ?_
        refine own_icmpNe d0_106 (fun h106 => ?_) (fun h106 => ?_)
        · refine own_lloadN d0_119 rfl ?_
          refine own_lstore (L' := #[.val (.int fl), .val (.int a), .val (.int b), .val (.long v0), .second, .val (.int (0 : Int32)), .val (.int lo), .val (.int hi), .val (.ref ty), .val (.int md), .val (.long v0), .second, .unset, .unset, .unset, .unset, .unset, .unset, .unset]) d0_120 rfl ?_
          exact own_law3_0 hw Z0 fl a b v0 lo hi ty md _ hle
        · refine own_iload d0_109 rfl ?_
          refine own_i2l d0_111 ?_
          refine own_lconst (x := 1) d0_112 rfl ?_
          refine own_ladd d0_113 ?_
          refine own_lstore (L' := #[.val (.int fl), .val (.int a), .val (.int b), .val (.long v0), .second, .val (.int (0 : Int32)), .val (.int lo), .val (.int hi), .val (.ref ty), .val (.int md), .val (.long (hi.toInt64 + (1 : Int64))), .second, .unset, .unset, .unset, .unset, .unset, .unset, .unset]) d0_114 rfl ?_
          refine own_goto d0_116 ?_
          exact own_law3_0 hw Z0 fl a b v0 lo hi ty md _ hle
      · refine own_iload d0_95 rfl ?_
        refine own_i2l d0_97 ?_
        refine own_lstore (L' := #[.val (.int fl), .val (.int a), .val (.int b), .val (.long v0), .second, .val (.int (0 : Int32)), .val (.int lo), .val (.int hi), .val (.ref ty), .val (.int md), .val (.long hi.toInt64), .second, .unset, .unset, .unset, .unset, .unset, .unset, .unset]) d0_98 rfl ?_
        refine own_goto d0_100 ?_
        exact own_law3_0 hw Z0 fl a b v0 lo hi ty md _ hle
    · refine own_iload d0_79 rfl ?_
      refine own_i2l d0_81 ?_
      refine own_lconst (x := 1) d0_82 rfl ?_
      refine own_lsub d0_83 ?_
      refine own_lstore (L' := #[.val (.int fl), .val (.int a), .val (.int b), .val (.long v0), .second, .val (.int (0 : Int32)), .val (.int lo), .val (.int hi), .val (.ref ty), .val (.int md), .val (.long (lo.toInt64 - (1 : Int64))), .second, .unset, .unset, .unset, .unset, .unset, .unset, .unset]) d0_84 rfl ?_
      refine own_goto d0_86 ?_
      exact own_law3_0 hw Z0 fl a b v0 lo hi ty md _ hle
  · refine own_iload d0_65 rfl ?_
    refine own_i2l d0_67 ?_
    refine own_lstore (L' := #[.val (.int fl), .val (.int a), .val (.int b), .val (.long v0), .second, .val (.int (0 : Int32)), .val (.int lo), .val (.int hi), .val (.ref ty), .val (.int md), .val (.long lo.toInt64), .second, .unset, .unset, .unset, .unset, .unset, .unset, .unset]) d0_68 rfl ?_
    refine own_goto d0_70 ?_
    exact own_law3_0 hw Z0 fl a b v0 lo hi ty md _ hle
set_option maxRecDepth 65536 in
set_option maxHeartbeats 4000000 in
theorem own_law3_1 {l : Launch} {Z : State} {a0 : Array Value} (hw : ∀ d ∈ tables_1, d.before a0 Z = true) {n0 : Nat} {h : Heap} (Z0 : n0 ≤ h.size) (fl a b : Int32) (v0 : Int64) (lo hi : Int32) (ty : Addr) (md : Int32) (v : Int64) (hlo : lo.toInt = 0) (hhi : hi.toInt = 1) :
    own_V l Z n0 room_1 "com/example/deft_ltl/deftltl/automata/system/ModelVariableAllowsPinLaw" "law" code maxLocals ret (fun v _ => v = some (.int 1)) h 0 0 122 #[.val (.int fl), .val (.int a), .val (.int b), .val (.long v0), .second, .val (.int (1 : Int32)), .val (.int lo), .val (.int hi), .val (.ref ty), .val (.int md), .val (.long v), .second, .unset, .unset, .unset, .unset, .unset, .unset, .unset] [] := by
  refine own_new (a0 := a0) d0_122 (own_w hw 10 rfl) (own_w hw 11 rfl) (own_w hw 12 rfl) (cells' := 1) (slots' := 5) rfl rfl (by decide) (by decide) (fun h1 E1 A1 D1 => ?_)
  obtain ⟨b1, g1⟩ : ∃ z, z = h.size := ⟨_, rfl⟩
  rw [← g1] at A1 D1 ⊢
  have g_b1 : n0 ≤ b1 := by rw [g1]; exact Z0
  have Z0 := Nat.le_trans Z0 E1.1
  have E_b1 := A1
  have F_name_b1 : Fld Z h1 b1 "com/example/deft_ltl/deftltl/automata/system/ModelVariable" "name" "Ljava/lang/String;" .null := D1 (Or.inr (own_w hw 28 rfl)) (ty := (.object "java/lang/String")) (by decide)
  have F_type_b1 : Fld Z h1 b1 "com/example/deft_ltl/deftltl/automata/system/ModelVariable" "type" "Lcom/example/deft_ltl/deftltl/automata/system/ModelType;" .null := D1 (Or.inr (own_w hw 30 rfl)) (ty := (.object "com/example/deft_ltl/deftltl/automata/system/ModelType")) (by decide)
  have F_lowest_b1 : Fld Z h1 b1 "com/example/deft_ltl/deftltl/automata/system/ModelVariable" "lowest" "I" (.int (0 : Int32)) := D1 (Or.inr (own_w hw 32 rfl)) (ty := .int) (by decide)
  have F_highest_b1 : Fld Z h1 b1 "com/example/deft_ltl/deftltl/automata/system/ModelVariable" "highest" "I" (.int (0 : Int32)) := D1 (Or.inr (own_w hw 34 rfl)) (ty := .int) (by decide)
  have F_initial_b1 : Fld Z h1 b1 "com/example/deft_ltl/deftltl/automata/system/ModelVariable" "initial" "I" (.int (0 : Int32)) := D1 (Or.inr (own_w hw 36 rfl)) (ty := .int) (by decide)
  refine own_dup d0_125 rfl ?_
  refine own_ldcS (a0 := a0) (n := 4) d0_126 (own_w hw 13 rfl) (own_sw hw) (by decide) (by decide) (cells' := 3) (slots' := 13) rfl rfl (by decide) (by decide) (fun h2 sa E2 => ?_)
  have Z0 := Nat.le_trans Z0 E2.1
  have E_b1 := E_b1.ext E2
  have F_name_b1 := F_name_b1.ext E2
  have F_type_b1 := F_type_b1.ext E2
  have F_lowest_b1 := F_lowest_b1.ext E2
  have F_highest_b1 := F_highest_b1.ext E2
  have F_initial_b1 := F_initial_b1.ext E2
  refine own_aload d0_128 rfl rfl ?_
  refine own_iload d0_130 rfl ?_
  refine own_iload d0_132 rfl ?_
  refine own_iload d0_134 rfl ?_
  refine own_callI (y := (⟨"com/example/deft_ltl/deftltl/automata/system/ModelVariable", "<init>", "(Ljava/lang/String;Lcom/example/deft_ltl/deftltl/automata/system/ModelType;III)V"⟩ : MethodName)) (argsL := [(.ref sa), (.ref ty), (.int lo), (.int hi), (.int lo)]) (rest := [(.ref b1)]) (W := 1) (cells' := 3) (slots' := 13) (R' := ({ frames := 1, cells := 0, slots := 0, locals := 12 } : Room)) (own_init hw b1 sa ty lo hi lo g_b1 E_b1 F_name_b1 F_type_b1 F_lowest_b1 F_highest_b1 F_initial_b1) (fun m => own_ef3_AAAIII m b1 sa ty lo hi lo) own_pl3 own_pd3 rfl rfl d0_136 (own_w hw 21 rfl) (own_w hw 22 rfl) (own_w hw 12 rfl) (own_w hw 23 rfl) (by decide) rfl rfl (Nat.le_of_eq rfl) (by decide) (by decide) rfl rfl (by decide) (by decide) ?_
  rintro _ h2 ⟨rfl, E_b1, Fl, Fh⟩
  refine own_astore (L' := #[.val (.int fl), .val (.int a), .val (.int b), .val (.long v0), .second, .val (.int (1 : Int32)), .val (.int lo), .val (.int hi), .val (.ref ty), .val (.int md), .val (.long v), .second, .val (.ref b1), .unset, .unset, .unset, .unset, .unset, .unset]) d0_139 rfl rfl ?_
  refine own_aload d0_141 rfl rfl ?_
  refine own_lload d0_143 rfl ?_
  refine own_callV (y := (⟨"com/example/deft_ltl/deftltl/automata/system/ModelVariable", "allows", "(J)Z"⟩ : MethodName)) (z := (⟨"com/example/deft_ltl/deftltl/automata/system/ModelVariable", "allows", "(J)Z"⟩ : MethodName)) (argsL := [(.long v)]) (rest := []) (W := 0) (cells' := 3) (slots' := 13) (R' := ({ frames := 0, cells := 0, slots := 0, locals := 0 } : Room)) (own_all hw b1 lo hi v Fl Fh) (fun m => own_ef5_AJ m b1 v) own_pl5 own_pd5 rfl E_b1 d0_145 (own_w hw 37 rfl) (own_w hw 38 rfl) (fun _ q => notFace_of_selects (args := #[]) (mvT q (own_w hw 40 rfl))) (own_w hw 40 rfl) (own_w hw 39 rfl) (own_w hw 41 rfl) (own_w hw 12 rfl) (by decide) rfl rfl (Nat.le_of_eq rfl) (by decide) (by decide) rfl rfl (by decide) (by decide) ?_
  rintro _ _ ⟨rfl, rfl⟩
  refine own_istore (L' := #[.val (.int fl), .val (.int a), .val (.int b), .val (.long v0), .second, .val (.int (1 : Int32)), .val (.int lo), .val (.int hi), .val (.ref ty), .val (.int md), .val (.long v), .second, .val (.ref b1), .val (.int (own_al lo hi v)), .unset, .unset, .unset, .unset, .unset]) d0_148 rfl ?_
  refine own_iload d0_150 rfl ?_
  refine own_ifEq d0_152 (fun q => False.elim (by exact absurd q (by decide))) (fun _ => ?_)
  refine own_lload d0_155 rfl ?_
  refine own_lconst (x := 0) d0_157 rfl ?_
  refine own_lcmpEq d0_158 d0_159 (fun h159 => ?_) (fun h159 => ?_)
  · refine own_iconst (x := 1) d0_169 rfl ?_
    refine own_goto d0_170 ?_
    refine own_istore (L' := #[.val (.int fl), .val (.int a), .val (.int b), .val (.long v0), .second, .val (.int (1 : Int32)), .val (.int lo), .val (.int hi), .val (.ref ty), .val (.int md), .val (.long v), .second, .val (.ref b1), .val (.int (own_al lo hi v)), .val (.int (1 : Int32)), .unset, .unset, .unset, .unset]) d0_174 rfl ?_
    refine own_goto d0_176 ?_
    rw [show own_al lo hi v = 1 by unfold own_al; rw [if_pos (by have := own_L0; have := own_L1; omega)]]
    refine own_iload d0_219 rfl ?_
    refine own_iload d0_221 rfl ?_
    refine own_icmpNe d0_223 (fun q => False.elim (by exact q rfl)) (fun _ => ?_)
    refine own_iconst (x := 1) d0_226 rfl ?_
    refine own_goto d0_227 ?_
    exact own_retZ d0_231 rfl (by decide) (by decide) (by decide) rfl
  · refine own_lload d0_162 rfl ?_
    refine own_lconst (x := 1) d0_164 rfl ?_
    refine own_lcmpNe d0_165 d0_166 (fun h166 => ?_) (fun h166 => ?_)
    · refine own_iconst (x := 0) d0_173 rfl ?_
      refine own_istore (L' := #[.val (.int fl), .val (.int a), .val (.int b), .val (.long v0), .second, .val (.int (1 : Int32)), .val (.int lo), .val (.int hi), .val (.ref ty), .val (.int md), .val (.long v), .second, .val (.ref b1), .val (.int (own_al lo hi v)), .val (.int (0 : Int32)), .unset, .unset, .unset, .unset]) d0_174 rfl ?_
      refine own_goto d0_176 ?_
      rw [show own_al lo hi v = 0 by unfold own_al; rw [if_neg (by have := own_L0; have := own_L1; omega)]]
      refine own_iload d0_219 rfl ?_
      refine own_iload d0_221 rfl ?_
      refine own_icmpNe d0_223 (fun q => False.elim (by exact q rfl)) (fun _ => ?_)
      refine own_iconst (x := 1) d0_226 rfl ?_
      refine own_goto d0_227 ?_
      exact own_retZ d0_231 rfl (by decide) (by decide) (by decide) rfl
    · refine own_iconst (x := 1) d0_169 rfl ?_
      refine own_goto d0_170 ?_
      refine own_istore (L' := #[.val (.int fl), .val (.int a), .val (.int b), .val (.long v0), .second, .val (.int (1 : Int32)), .val (.int lo), .val (.int hi), .val (.ref ty), .val (.int md), .val (.long v), .second, .val (.ref b1), .val (.int (own_al lo hi v)), .val (.int (1 : Int32)), .unset, .unset, .unset, .unset]) d0_174 rfl ?_
      refine own_goto d0_176 ?_
      rw [show own_al lo hi v = 1 by unfold own_al; rw [if_pos (by have := own_L0; have := own_L1; omega)]]
      refine own_iload d0_219 rfl ?_
      refine own_iload d0_221 rfl ?_
      refine own_icmpNe d0_223 (fun q => False.elim (by exact q rfl)) (fun _ => ?_)
      refine own_iconst (x := 1) d0_226 rfl ?_
      refine own_goto d0_227 ?_
      exact own_retZ d0_231 rfl (by decide) (by decide) (by decide) rfl
set_option maxRecDepth 65536 in
set_option maxHeartbeats 4000000 in
theorem own_law2_1 {l : Launch} {Z : State} {a0 : Array Value} (hw : ∀ d ∈ tables_1, d.before a0 Z = true) {n0 : Nat} {h : Heap} (Z0 : n0 ≤ h.size) (fl a b : Int32) (v0 : Int64) (lo hi : Int32) (ty : Addr) (hlo : lo.toInt = 0) (hhi : hi.toInt = 1) :
    own_V l Z n0 room_1 "com/example/deft_ltl/deftltl/automata/system/ModelVariableAllowsPinLaw" "law" code maxLocals ret (fun v _ => v = some (.int 1)) h 0 0 51 #[.val (.int fl), .val (.int a), .val (.int b), .val (.long v0), .second, .val (.int (1 : Int32)), .val (.int lo), .val (.int hi), .val (.ref ty), .unset, .unset, .unset, .unset, .unset, .unset, .unset, .unset, .unset, .unset] [] := by
  refine own_iloadN d0_51 rfl ?_
  refine own_iconst (x := 1) d0_52 rfl ?_
  refine own_iushr d0_53 ?_
  refine own_bipush (x := 7) d0_54 rfl ?_
  refine own_iand d0_56 ?_
  generalize g_md : (((fl.toUInt32 >>> ((1 : Int32) &&& 31).toUInt32).toInt32) &&& (7 : Int32)) = md
  refine own_istore (L' := #[.val (.int fl), .val (.int a), .val (.int b), .val (.long v0), .second, .val (.int (1 : Int32)), .val (.int lo), .val (.int hi), .val (.ref ty), .val (.int md), .unset, .unset, .unset, .unset, .unset, .unset, .unset, .unset, .unset]) d0_57 rfl ?_
  refine own_iload d0_59 rfl ?_
  refine own_iconst (x := 1) d0_61 rfl ?_
  refine own_icmpNe d0_62 (fun h62 => ?_) (fun h62 => ?_)
  · refine own_iload d0_73 rfl ?_
    refine own_iconst (x := 2) d0_75 rfl ?_
    refine own_icmpNe d0_76 (fun h76 => ?_) (fun h76 => ?_)
    · refine own_iload d0_89 rfl ?_
      refine own_iconst (x := 3) d0_91 rfl ?_
      refine own_icmpNe d0_92 (fun h92 => ?_) (fun h92 => ?_)
      · refine own_iload d0_103 rfl ?_
        refine own_iconst (x := 4) d0_105 rfl ?_
        refine own_icmpNe d0_106 (fun h106 => ?_) (fun h106 => ?_)
        · refine own_lloadN d0_119 rfl ?_
          refine own_lstore (L' := #[.val (.int fl), .val (.int a), .val (.int b), .val (.long v0), .second, .val (.int (1 : Int32)), .val (.int lo), .val (.int hi), .val (.ref ty), .val (.int md), .val (.long v0), .second, .unset, .unset, .unset, .unset, .unset, .unset, .unset]) d0_120 rfl ?_
          exact own_law3_1 hw Z0 fl a b v0 lo hi ty md _ hlo hhi
        · refine own_iload d0_109 rfl ?_
          refine own_i2l d0_111 ?_
          refine own_lconst (x := 1) d0_112 rfl ?_
          refine own_ladd d0_113 ?_
          refine own_lstore (L' := #[.val (.int fl), .val (.int a), .val (.int b), .val (.long v0), .second, .val (.int (1 : Int32)), .val (.int lo), .val (.int hi), .val (.ref ty), .val (.int md), .val (.long (hi.toInt64 + (1 : Int64))), .second, .unset, .unset, .unset, .unset, .unset, .unset, .unset]) d0_114 rfl ?_
          refine own_goto d0_116 ?_
          exact own_law3_1 hw Z0 fl a b v0 lo hi ty md _ hlo hhi
      · refine own_iload d0_95 rfl ?_
        refine own_i2l d0_97 ?_
        refine own_lstore (L' := #[.val (.int fl), .val (.int a), .val (.int b), .val (.long v0), .second, .val (.int (1 : Int32)), .val (.int lo), .val (.int hi), .val (.ref ty), .val (.int md), .val (.long hi.toInt64), .second, .unset, .unset, .unset, .unset, .unset, .unset, .unset]) d0_98 rfl ?_
        refine own_goto d0_100 ?_
        exact own_law3_1 hw Z0 fl a b v0 lo hi ty md _ hlo hhi
    · refine own_iload d0_79 rfl ?_
      refine own_i2l d0_81 ?_
      refine own_lconst (x := 1) d0_82 rfl ?_
      refine own_lsub d0_83 ?_
      refine own_lstore (L' := #[.val (.int fl), .val (.int a), .val (.int b), .val (.long v0), .second, .val (.int (1 : Int32)), .val (.int lo), .val (.int hi), .val (.ref ty), .val (.int md), .val (.long (lo.toInt64 - (1 : Int64))), .second, .unset, .unset, .unset, .unset, .unset, .unset, .unset]) d0_84 rfl ?_
      refine own_goto d0_86 ?_
      exact own_law3_1 hw Z0 fl a b v0 lo hi ty md _ hlo hhi
  · refine own_iload d0_65 rfl ?_
    refine own_i2l d0_67 ?_
    refine own_lstore (L' := #[.val (.int fl), .val (.int a), .val (.int b), .val (.long v0), .second, .val (.int (1 : Int32)), .val (.int lo), .val (.int hi), .val (.ref ty), .val (.int md), .val (.long lo.toInt64), .second, .unset, .unset, .unset, .unset, .unset, .unset, .unset]) d0_68 rfl ?_
    refine own_goto d0_70 ?_
    exact own_law3_1 hw Z0 fl a b v0 lo hi ty md _ hlo hhi
set_option maxRecDepth 65536 in
set_option maxHeartbeats 4000000 in
theorem own_law {l : Launch} {Z : State} {a0 : Array Value} (hw : ∀ d ∈ tables_1, d.before a0 Z = true) {n0 : Nat} {h : Heap} (fl a b : Int32) (v0 : Int64) (Z0 : n0 ≤ h.size) {ti : Addr} {tb : Addr} (S_ti : Sta Z h "com/example/deft_ltl/deftltl/automata/system/ModelType" "INTEGER" "Lcom/example/deft_ltl/deftltl/automata/system/ModelType;" (.ref ti)) (S_tb : Sta Z h "com/example/deft_ltl/deftltl/automata/system/ModelType" "BOOLEAN" "Lcom/example/deft_ltl/deftltl/automata/system/ModelType;" (.ref tb)) :
    own_V l Z n0 room_1 "com/example/deft_ltl/deftltl/automata/system/ModelVariableAllowsPinLaw" "law" code maxLocals ret (fun v _ => v = some (.int 1)) h 0 0 0 #[.val (.int fl), .val (.int a), .val (.int b), .val (.long v0), .second, .unset, .unset, .unset, .unset, .unset, .unset, .unset, .unset, .unset, .unset, .unset, .unset, .unset, .unset] [] := by
  refine own_iloadN d0_0 rfl ?_
  refine own_iconst (x := 1) d0_1 rfl ?_
  refine own_iand d0_2 ?_
  refine own_ifEq d0_3 (fun h3 => ?_) (fun h3 => ?_)
  · refine own_iconst (x := 0) d0_10 rfl ?_
    refine own_istore (L' := #[.val (.int fl), .val (.int a), .val (.int b), .val (.long v0), .second, .val (.int (0 : Int32)), .unset, .unset, .unset, .unset, .unset, .unset, .unset, .unset, .unset, .unset, .unset, .unset, .unset]) d0_11 rfl ?_
    refine own_iload d0_13 rfl ?_
    refine own_ifEq d0_15 (fun _ => ?_) (fun q => False.elim (by exact absurd rfl q))
    refine own_getS d0_32 (own_w hw 0 rfl) Via.refl S_ti ?_
    refine own_astore (L' := #[.val (.int fl), .val (.int a), .val (.int b), .val (.long v0), .second, .val (.int (0 : Int32)), .unset, .unset, .val (.ref ti), .unset, .unset, .unset, .unset, .unset, .unset, .unset, .unset, .unset, .unset]) d0_35 rfl rfl ?_
    refine own_iloadN d0_37 rfl ?_
    refine own_iloadN d0_38 rfl ?_
    refine own_callS (y := (⟨"java/lang/Math", "min", "(II)I"⟩ : MethodName)) (argsL := [(.int a), (.int b)]) (rest := []) (W := 0) (cells' := 0) (slots' := 0) (R' := ({ frames := 0, cells := 0, slots := 0, locals := 0 } : Room)) (own_mn_ hw a b) (fun m => own_ef1_II m a b) own_pl1 own_pd1 rfl d0_39 (own_w hw 3 rfl) (own_w hw 4 rfl) (own_w hw 5 rfl) (own_w hw 6 rfl) (by decide) rfl rfl (Nat.le_of_eq rfl) (by decide) (by decide) rfl rfl (by decide) (by decide) ?_
    rintro _ _ ⟨rfl, rfl⟩
    refine own_istore (L' := #[.val (.int fl), .val (.int a), .val (.int b), .val (.long v0), .second, .val (.int (0 : Int32)), .val (.int (own_mn a b)), .unset, .val (.ref ti), .unset, .unset, .unset, .unset, .unset, .unset, .unset, .unset, .unset, .unset]) d0_42 rfl ?_
    refine own_iloadN d0_44 rfl ?_
    refine own_iloadN d0_45 rfl ?_
    refine own_callS (y := (⟨"java/lang/Math", "max", "(II)I"⟩ : MethodName)) (argsL := [(.int a), (.int b)]) (rest := []) (W := 0) (cells' := 0) (slots' := 0) (R' := ({ frames := 0, cells := 0, slots := 0, locals := 0 } : Room)) (own_mx_ hw a b) (fun m => own_ef2_II m a b) own_pl2 own_pd2 rfl d0_46 (own_w hw 7 rfl) (own_w hw 8 rfl) (own_w hw 5 rfl) (own_w hw 9 rfl) (by decide) rfl rfl (Nat.le_of_eq rfl) (by decide) (by decide) rfl rfl (by decide) (by decide) ?_
    rintro _ _ ⟨rfl, rfl⟩
    refine own_istore (L' := #[.val (.int fl), .val (.int a), .val (.int b), .val (.long v0), .second, .val (.int (0 : Int32)), .val (.int (own_mn a b)), .val (.int (own_mx a b)), .val (.ref ti), .unset, .unset, .unset, .unset, .unset, .unset, .unset, .unset, .unset, .unset]) d0_49 rfl ?_
    exact own_law2_0 hw Z0 fl a b v0 _ _ ti (own_mnmx a b)
  · refine own_iconst (x := 1) d0_6 rfl ?_
    refine own_goto d0_7 ?_
    refine own_istore (L' := #[.val (.int fl), .val (.int a), .val (.int b), .val (.long v0), .second, .val (.int (1 : Int32)), .unset, .unset, .unset, .unset, .unset, .unset, .unset, .unset, .unset, .unset, .unset, .unset, .unset]) d0_11 rfl ?_
    refine own_iload d0_13 rfl ?_
    refine own_ifEq d0_15 (fun q => False.elim (by exact absurd q (by decide))) (fun _ => ?_)
    refine own_getS d0_18 (own_w hw 43 rfl) Via.refl S_tb ?_
    refine own_astore (L' := #[.val (.int fl), .val (.int a), .val (.int b), .val (.long v0), .second, .val (.int (1 : Int32)), .unset, .unset, .val (.ref tb), .unset, .unset, .unset, .unset, .unset, .unset, .unset, .unset, .unset, .unset]) d0_21 rfl rfl ?_
    refine own_iconst (x := 0) d0_23 rfl ?_
    refine own_istore (L' := #[.val (.int fl), .val (.int a), .val (.int b), .val (.long v0), .second, .val (.int (1 : Int32)), .val (.int (0 : Int32)), .unset, .val (.ref tb), .unset, .unset, .unset, .unset, .unset, .unset, .unset, .unset, .unset, .unset]) d0_24 rfl ?_
    refine own_iconst (x := 1) d0_26 rfl ?_
    refine own_istore (L' := #[.val (.int fl), .val (.int a), .val (.int b), .val (.long v0), .second, .val (.int (1 : Int32)), .val (.int (0 : Int32)), .val (.int (1 : Int32)), .val (.ref tb), .unset, .unset, .unset, .unset, .unset, .unset, .unset, .unset, .unset, .unset]) d0_27 rfl ?_
    refine own_goto d0_29 ?_
    exact own_law2_1 hw Z0 fl a b v0 0 1 tb rfl rfl
set_option maxRecDepth 65536 in
set_option maxHeartbeats 4000000 in
theorem comes_1 {Post : Tables → Env → Array Value → State → Outcome → State → Prop} (hpost : ∀ tb e args s v u, (limb_1_1.after args s (.returned v) u = true ∧ limb_1_2.after args s (.returned v) u = true ∧ True) → ReturnedEndW s (.returned v) u (Jvm.fieldLocs frame_1_writes args s ++ Jvm.arrayLocs frame_1_arrays args s ++ Jvm.staticLocs frame_1_statics s) 16 1152 → Post tb e args s (.returned v) u) :
    ArmFor flags0 classFile x code maxLocals ret World_1 tables_1 room_1 Calls_1 rest_1 Pre_1 Post := by
  intro l hfl _ _ p e ha hc hk s m args below hf hA hF happ hP
  obtain ⟨hcalls, hrest, hpre⟩ := hP
  obtain ⟨-, -, -, hnamed, -, -, -, hat⟩ := (Spec.applies_iff hf).mp happ
  obtain ⟨hg, hn⟩ := and_e (Cond.before_iff.mp (show (Jvm.Cond.and given_1 narrow_1).before args s = true from hpre))
  obtain ⟨gc, g0⟩ := and_e hg
  obtain ⟨k0, g1⟩ := and_e g0
  obtain ⟨k1, g2⟩ := and_e g1
  obtain ⟨k2, g3⟩ := and_e g2
  obtain ⟨w0, w1, w2, w3, rfl⟩ : ∃ w0 w1 w2 w3 : Value, args = #[w0, w1, w2, w3] := by
    have hs : args.size = 4 := by simpa [Cond.value, given_1] using gc
    obtain ⟨L⟩ := args
    match L, hs with
    | [w0, w1, w2, w3], _ => exact ⟨w0, w1, w2, w3, rfl⟩
  have hw := fun d (hd : d ∈ tables_1) => atoms_spec (ws := Jvm.Cond.code x code maxLocals ret :: tables_1) hat d (List.mem_cons_of_mem _ hd)
  have hfit : Fit s := fun {y c} hc i hi => by
    obtain ⟨ha, rfl⟩ := Array.getElem?_eq_some_iff.mp hc
    have q := List.all_eq_true.mp ((Array.all_eq_true_iff_forall_mem.mp hF) _ (Array.getElem_mem ha)) i (List.mem_range.mpr hi)
    simpa [Array.getElem?_eq_getElem hi] using q
  obtain ⟨i0, ei0⟩ := is_v k0
  obtain rfl : w0 = (.int i0) := Option.some.inj ei0
  obtain ⟨i1, ei1⟩ := is_v k1
  obtain rfl : w1 = (.int i1) := Option.some.inj ei1
  obtain ⟨i2, ei2⟩ := is_v k2
  obtain rfl : w2 = (.int i2) := Option.some.inj ei2
  obtain ⟨i3, ei3⟩ := isL_v g3
  obtain rfl : w3 = (.long i3) := Option.some.inj ei3
  obtain ⟨n0, m1⟩ := and_e hn
  have n1 := m1
  obtain ⟨ti, ev_ti⟩ := exa_v n0
  have E_ti := Exa.start ev_ti n0
  have S_ti := Sta.start ev_ti (Or.inr ⟨(own_w hw 1 rfl), (own_w hw 2 rfl)⟩)
  obtain ⟨tb, ev_tb⟩ := exa_v n1
  have E_tb := Exa.start ev_tb n1
  have S_tb := Sta.start ev_tb (Or.inr ⟨(own_w hw 1 rfl), (own_w hw 44 rfl)⟩)
  have hV := own_law hw i0 i1 i2 i3 (l := l) (n0 := s.heap.size) (h := s.heap) (Nat.le_refl _) S_ti S_tb
  have hef : ∀ m, entryFrame m #[(.int i0), (.int i1), (.int i2), (.long i3)] maxLocals = mkF m 0 #[.val (.int i0), .val (.int i1), .val (.int i2), .val (.long i3), .second, .unset, .unset, .unset, .unset, .unset, .unset, .unset, .unset, .unset, .unset, .unset, .unset, .unset, .unset] [] := (fun m => own_ef0_IIIJ m i0 i1 i2 i3)
  have hM := own_met (y := x) own_pl0 hef hV tables_1
  obtain ⟨n, o, h1, h2, h3, _, L, rfl, ⟨rfl, N⟩, hq⟩ := hM p e ha hc hk s m _ below hf ((Spec.applies_iff_loose hf).mp happ).1 ⟨rfl, State.Warmed39.refl s, rfl⟩ trivial
  refine ⟨n, _, h1, h2, h3, hpost _ _ _ _ _ _ ⟨Cond.after_iff.mpr rfl, Cond.after_iff.mpr (eq_i res_at (Term.int_eval (1)) rfl), trivial⟩ ⟨hq.1, hq.2.1, hq.2.2.1, (hq.2.2.2.sift fun y hy => Or.inr (N y hy)).mono (by decide) (by decide)⟩⟩
theorem main_1_1 : Claimed_1_1 := comes_1 fun _ _ _ _ _ _ h hF => ⟨h.1, hF⟩
theorem main_1_2 : Claimed_1_2 := comes_1 fun _ _ _ _ _ _ h hF => ⟨h.2.1, hF⟩
end Jvm.Pilot.@@N@@
namespace Jvm.Pilot.@@N@@
open Jvm Jvm.ClassFile Sem Op Lib Jvm.Free Jvm.Stand Jvm.Pilot.@@N@@.Jvm.D
/-! MADE BY PROGRAM (witnessworld.py) out of the Statement's table words and the real class files: 17 classes; the members and pool entries that the words name. The judged class is class 1, her method 1. -/
namespace start1
open Jvm.ClassFile
def u (s : String) : CpInfo := .utf8 (stringToUtf16 s)
/-- a pool by its gaps: so many unusable entries, then the entry; so many at the end -/
def gap : Nat → List CpInfo → List CpInfo
  | 0, r => r
  | n + 1, r => .unusable :: gap n r
def poolList (es : List (Nat × CpInfo)) (last : Nat) : List CpInfo := es.foldr (fun e r => gap e.1 (e.2 :: r)) (gap last [])
def pool (es : List (Nat × CpInfo)) (last : Nat) : Array CpInfo := ⟨poolList es last⟩
def fileOf (pool : Array CpInfo) (this : Nat) (attrs : Array Attribute := #[]) (ms : Array MethodInfo := #[]) (fl : Nat := 33) (sup : Nat := 0) (ifs : Array Nat := #[]) (fds : Array FieldInfo := #[]) : ClassFile where
  minorVersion := 0
  majorVersion := 65
  constantPool := pool
  accessFlags := fl
  thisClass := this
  superClass := sup
  interfaces := ifs
  fields := fds
  methods := ms
  attributes := attrs
def plain (name : String) (sup : Option ClassId) : Class where
  name := name
  kind := .ordinary
  loader := none
  accessFlags := 33
  super := sup
  interfaces := #[]
  cf := none
  fields := #[]
  methods := #[]
  instanceTypes := #[]
  staticTypes := #[]
  resolved := #[]
  callSites := []
  init := .initialized
  statics := none
  mirror := none

def pool0 : Array CpInfo := pool [(5, u "<init>"), (0, u "()V"), (1, .class_ 10), (1, u "java/lang/Object")] 113

def k0c0 : Code := { maxStack := 0, maxLocals := 1, code := object_method_1_code, exceptionTable := #[], attributes := #[] }
def k0m0 : Method := { name := "<init>", desc := "()V", sig := { parameters := [], returnType := none }, accessFlags := 1, code := some k0c0 }
/-- java/lang/Object -/
def k0 : Class := { plain "java/lang/Object" none with
  accessFlags := 33
  interfaces := #[]
  cf := some (fileOf pool0 8 #[] #[{ accessFlags := 1, nameIndex := 5, descriptorIndex := 6, attributes := #[] }] 33 0 #[] #[])
  fields := #[]
  methods := #[k0m0]
  instanceTypes := #[]
  staticTypes := #[]
  resolved := Array.replicate 124 none
  statics := none }

def pool1 : Array CpInfo := pool [(2, .class_ 4), (1, u "java/lang/Object"), (0, u "<init>"), (0, u "()V"), (0, .fieldref 8 9), (0, .class_ 10), (0, .nameAndType 11 12), (0, u "com/example/deft_ltl/deftltl/automata/system/ModelType"), (0, u "BOOLEAN"), (0, u "Lcom/example/deft_ltl/deftltl/automata/system/ModelType;"), (0, .fieldref 8 14), (0, .nameAndType 15 12), (0, u "INTEGER"), (0, .methodref 17 18), (0, .class_ 19), (0, .nameAndType 20 21), (0, u "java/lang/Math"), (0, u "min"), (0, u "(II)I"), (0, .methodref 17 23), (0, .nameAndType 24 21), (0, u "max"), (0, .class_ 26), (0, u "com/example/deft_ltl/deftltl/automata/system/ModelVariable"), (0, .string 28), (0, u "v"), (0, .methodref 25 30), (0, .nameAndType 5 31), (0, u "(Ljava/lang/String;Lcom/example/deft_ltl/deftltl/automata/system/ModelType;III)V"), (0, .methodref 25 33), (0, .nameAndType 34 35), (0, u "allows"), (0, u "(J)Z"), (2, .long 9223372036854775808), (1, .class_ 41), (0, u "com/example/deft_ltl/deftltl/automata/system/ModelVariableAllowsPinLaw"), (2, u "law"), (0, u "(IIIJ)Z")] 3

def k1m0 : Method := { name := "<init>", desc := "()V", sig := { parameters := [], returnType := none }, accessFlags := 1, code := none }
def k1c1 : Code := { maxStack := 7, maxLocals := 19, code := code, exceptionTable := #[], attributes := #[] }
def k1m1 : Method := { name := "law", desc := "(IIIJ)Z", sig := { parameters := [.int, .int, .int, .long], returnType := some .boolean }, accessFlags := 9, code := some k1c1 }
/-- com/example/deft_ltl/deftltl/automata/system/ModelVariableAllowsPinLaw -/
def k1 : Class := { plain "com/example/deft_ltl/deftltl/automata/system/ModelVariableAllowsPinLaw" (some 0) with
  accessFlags := 49
  interfaces := #[]
  cf := some (fileOf pool1 40 #[] #[{ accessFlags := 1, nameIndex := 5, descriptorIndex := 6, attributes := #[] }, { accessFlags := 9, nameIndex := 44, descriptorIndex := 45, attributes := #[] }] 49 2 #[] #[])
  fields := #[]
  methods := #[k1m0, k1m1]
  instanceTypes := #[]
  staticTypes := #[]
  resolved := Array.replicate 49 none
  statics := none }

def pool2 : Array CpInfo := pool [(1, .class_ 2), (0, u "java/lang/constant/Constable"), (0, .class_ 4), (0, u "java/lang/Object")] 6

/-- java/lang/constant/Constable -/
def k2 : Class := { plain "java/lang/constant/Constable" (some 0) with
  accessFlags := 1537
  interfaces := #[]
  cf := some (fileOf pool2 1 #[] #[] 1537 3 #[] #[])
  fields := #[]
  methods := #[]
  instanceTypes := #[]
  staticTypes := #[]
  resolved := Array.replicate 11 none
  statics := none }

def pool3 : Array CpInfo := pool [(1, .class_ 2), (0, u "java/lang/Comparable"), (0, .class_ 4), (0, u "java/lang/Object")] 7

/-- java/lang/Comparable -/
def k3 : Class := { plain "java/lang/Comparable" (some 0) with
  accessFlags := 1537
  interfaces := #[]
  cf := some (fileOf pool3 1 #[] #[] 1537 3 #[] #[])
  fields := #[]
  methods := #[]
  instanceTypes := #[]
  staticTypes := #[]
  resolved := Array.replicate 12 none
  statics := none }

def pool4 : Array CpInfo := pool [(1, .class_ 2), (0, u "java/io/Serializable"), (0, .class_ 4), (0, u "java/lang/Object")] 2

/-- java/io/Serializable -/
def k4 : Class := { plain "java/io/Serializable" (some 0) with
  accessFlags := 1537
  interfaces := #[]
  cf := some (fileOf pool4 1 #[] #[] 1537 3 #[] #[])
  fields := #[]
  methods := #[]
  instanceTypes := #[]
  staticTypes := #[]
  resolved := Array.replicate 7 none
  statics := none }

def pool5 : Array CpInfo := pool [(2, .class_ 4), (1, u "java/lang/Enum"), (0, u "name"), (0, u "Ljava/lang/String;"), (2, u "ordinal"), (0, u "I"), (1, .class_ 14), (1, u "java/lang/Object"), (4, u "hash"), (86, .class_ 108), (1, u "java/lang/Enum$EnumDesc"), (2, .class_ 112), (0, u "java/lang/constant/Constable"), (0, .class_ 114), (0, u "java/lang/Comparable"), (0, .class_ 116), (0, u "java/io/Serializable")] 87

/-- java/lang/Enum -/
def k5 : Class := { plain "java/lang/Enum" (some 0) with
  accessFlags := 1057
  interfaces := #[2, 3, 4]
  cf := some (fileOf pool5 2 #[.nestMembers #[106]] #[] 1057 12 #[111, 113, 115] #[{ accessFlags := 18, nameIndex := 5, descriptorIndex := 6, attributes := #[] }, { accessFlags := 18, nameIndex := 9, descriptorIndex := 10, attributes := #[] }, { accessFlags := 2, nameIndex := 19, descriptorIndex := 10, attributes := #[] }])
  fields := #[{ name := "name", type := (.object "java/lang/String"), accessFlags := 18, slot := 0, constantValue := 0 }, { name := "ordinal", type := .int, accessFlags := 18, slot := 1, constantValue := 0 }, { name := "hash", type := .int, accessFlags := 2, slot := 2, constantValue := 0 }]
  methods := #[]
  instanceTypes := #[(.object "java/lang/String"), .int, .int]
  staticTypes := #[]
  resolved := Array.replicate 204 none
  statics := none }

def pool6 : Array CpInfo := pool [(1, .class_ 2), (0, u "com/example/deft_ltl/deftltl/automata/system/ModelType"), (2, u "INTEGER"), (0, u "Lcom/example/deft_ltl/deftltl/automata/system/ModelType;"), (2, u "BOOLEAN"), (2, u "$VALUES"), (0, u "[Lcom/example/deft_ltl/deftltl/automata/system/ModelType;"), (6, .class_ 22), (1, u "java/lang/Enum"), (8, u "described"), (0, u "Ljava/lang/String;")] 26

/-- com/example/deft_ltl/deftltl/automata/system/ModelType -/
def k6 : Class := { plain "com/example/deft_ltl/deftltl/automata/system/ModelType" (some 5) with
  accessFlags := 16432
  interfaces := #[]
  cf := some (fileOf pool6 1 #[] #[] 16432 20 #[] #[{ accessFlags := 16409, nameIndex := 5, descriptorIndex := 6, attributes := #[] }, { accessFlags := 16409, nameIndex := 9, descriptorIndex := 6, attributes := #[] }, { accessFlags := 18, nameIndex := 31, descriptorIndex := 32, attributes := #[] }, { accessFlags := 4122, nameIndex := 12, descriptorIndex := 13, attributes := #[] }])
  fields := #[{ name := "INTEGER", type := (.object "com/example/deft_ltl/deftltl/automata/system/ModelType"), accessFlags := 16409, slot := 0, constantValue := 0 }, { name := "BOOLEAN", type := (.object "com/example/deft_ltl/deftltl/automata/system/ModelType"), accessFlags := 16409, slot := 1, constantValue := 0 }, { name := "described", type := (.object "java/lang/String"), accessFlags := 18, slot := 3, constantValue := 0 }, { name := "$VALUES", type := (.array (.object "com/example/deft_ltl/deftltl/automata/system/ModelType")), accessFlags := 4122, slot := 2, constantValue := 0 }]
  methods := #[]
  instanceTypes := #[(.object "java/lang/String"), .int, .int, (.object "java/lang/String")]
  staticTypes := #[(.object "com/example/deft_ltl/deftltl/automata/system/ModelType"), (.object "com/example/deft_ltl/deftltl/automata/system/ModelType"), (.array (.object "com/example/deft_ltl/deftltl/automata/system/ModelType"))]
  resolved := Array.replicate 59 none
  statics := some 0 }

def pool7 : Array CpInfo := pool [(1, .class_ 2), (0, u "java/lang/Math"), (1, .class_ 6), (1, u "java/lang/Object"), (0, u "<init>"), (0, u "()V"), (89, .class_ 100), (1, u "java/lang/Math$RandomNumberGeneratorHolder"), (71, u "negativeZeroFloatBits"), (0, u "J"), (2, u "negativeZeroDoubleBits"), (21, u "max"), (2, u "min"), (43, u "$assertionsDisabled"), (0, u "Z"), (88, u "(II)I"), (2, u "twoToTheDoubleScaleDown"), (0, u "D"), (4, u "twoToTheDoubleScaleUp"), (9, u "E"), (3, u "PI"), (2, u "TAU"), (2, u "DEGREES_TO_RADIANS"), (0, u "RADIANS_TO_DEGREES")] 94

def k7m0 : Method := { name := "<init>", desc := "()V", sig := { parameters := [], returnType := none }, accessFlags := 2, code := none }
def k7c1 : Code := { maxStack := 2, maxLocals := 2, code := jdk_29_method_65_code, exceptionTable := #[], attributes := #[] }
def k7m1 : Method := { name := "max", desc := "(II)I", sig := { parameters := [.int, .int], returnType := some .int }, accessFlags := 9, code := some k7c1 }
def k7c2 : Code := { maxStack := 2, maxLocals := 2, code := jdk_29_method_69_code, exceptionTable := #[], attributes := #[] }
def k7m2 : Method := { name := "min", desc := "(II)I", sig := { parameters := [.int, .int], returnType := some .int }, accessFlags := 9, code := some k7c2 }
/-- java/lang/Math -/
def k7 : Class := { plain "java/lang/Math" (some 0) with
  accessFlags := 49
  interfaces := #[]
  cf := some (fileOf pool7 1 #[.nestMembers #[98]] #[{ accessFlags := 2, nameIndex := 7, descriptorIndex := 8, attributes := #[] }, { accessFlags := 9, nameIndex := 198, descriptorIndex := 335, attributes := #[] }, { accessFlags := 9, nameIndex := 201, descriptorIndex := 335, attributes := #[] }] 49 4 #[] #[{ accessFlags := 25, nameIndex := 354, descriptorIndex := 339, attributes := #[] }, { accessFlags := 25, nameIndex := 358, descriptorIndex := 339, attributes := #[] }, { accessFlags := 25, nameIndex := 361, descriptorIndex := 339, attributes := #[] }, { accessFlags := 26, nameIndex := 364, descriptorIndex := 339, attributes := #[] }, { accessFlags := 26, nameIndex := 365, descriptorIndex := 339, attributes := #[] }, { accessFlags := 26, nameIndex := 172, descriptorIndex := 173, attributes := #[] }, { accessFlags := 26, nameIndex := 176, descriptorIndex := 173, attributes := #[] }, { accessFlags := 8, nameIndex := 344, descriptorIndex := 339, attributes := #[] }, { accessFlags := 8, nameIndex := 338, descriptorIndex := 339, attributes := #[] }, { accessFlags := 4120, nameIndex := 245, descriptorIndex := 246, attributes := #[] }])
  fields := #[{ name := "E", type := .double, accessFlags := 25, slot := 0, constantValue := 0 }, { name := "PI", type := .double, accessFlags := 25, slot := 1, constantValue := 0 }, { name := "TAU", type := .double, accessFlags := 25, slot := 2, constantValue := 0 }, { name := "DEGREES_TO_RADIANS", type := .double, accessFlags := 26, slot := 3, constantValue := 0 }, { name := "RADIANS_TO_DEGREES", type := .double, accessFlags := 26, slot := 4, constantValue := 0 }, { name := "negativeZeroFloatBits", type := .long, accessFlags := 26, slot := 5, constantValue := 0 }, { name := "negativeZeroDoubleBits", type := .long, accessFlags := 26, slot := 6, constantValue := 0 }, { name := "twoToTheDoubleScaleUp", type := .double, accessFlags := 8, slot := 7, constantValue := 0 }, { name := "twoToTheDoubleScaleDown", type := .double, accessFlags := 8, slot := 8, constantValue := 0 }, { name := "$assertionsDisabled", type := .boolean, accessFlags := 4120, slot := 9, constantValue := 0 }]
  methods := #[k7m0, k7m1, k7m2]
  instanceTypes := #[]
  staticTypes := #[.double, .double, .double, .double, .double, .long, .long, .double, .double, .boolean]
  resolved := Array.replicate 460 none
  statics := none }

def pool8 : Array CpInfo := pool [(1, .methodref 2 3), (0, .class_ 4), (0, .nameAndType 5 6), (0, u "java/lang/Object"), (0, u "<init>"), (0, u "()V"), (0, .fieldref 8 9), (0, .class_ 10), (0, .nameAndType 11 12), (0, u "com/example/deft_ltl/deftltl/automata/system/ModelVariable"), (0, u "name"), (0, u "Ljava/lang/String;"), (0, .fieldref 8 14), (0, .nameAndType 15 16), (0, u "type"), (0, u "Lcom/example/deft_ltl/deftltl/automata/system/ModelType;"), (0, .fieldref 8 18), (0, .nameAndType 19 20), (0, u "lowest"), (0, u "I"), (0, .fieldref 8 22), (0, .nameAndType 23 20), (0, u "highest"), (0, .fieldref 8 25), (0, .nameAndType 26 20), (0, u "initial"), (21, u "(Ljava/lang/String;Lcom/example/deft_ltl/deftltl/automata/system/ModelType;III)V"), (10, u "allows"), (0, u "(J)Z")] 22

def k8c0 : Code := { maxStack := 2, maxLocals := 6, code := prog_59_method_1_code, exceptionTable := #[], attributes := #[] }
def k8m0 : Method := { name := "<init>", desc := "(Ljava/lang/String;Lcom/example/deft_ltl/deftltl/automata/system/ModelType;III)V", sig := { parameters := [(.object "java/lang/String"), (.object "com/example/deft_ltl/deftltl/automata/system/ModelType"), .int, .int, .int], returnType := none }, accessFlags := 0, code := some k8c0 }
def k8c1 : Code := { maxStack := 4, maxLocals := 3, code := prog_59_method_7_code, exceptionTable := #[], attributes := #[] }
def k8m1 : Method := { name := "allows", desc := "(J)Z", sig := { parameters := [.long], returnType := some .boolean }, accessFlags := 0, code := some k8c1 }
/-- com/example/deft_ltl/deftltl/automata/system/ModelVariable -/
def k8 : Class := { plain "com/example/deft_ltl/deftltl/automata/system/ModelVariable" (some 0) with
  accessFlags := 32
  interfaces := #[]
  cf := some (fileOf pool8 8 #[] #[{ accessFlags := 0, nameIndex := 5, descriptorIndex := 48, attributes := #[] }, { accessFlags := 0, nameIndex := 59, descriptorIndex := 60, attributes := #[] }] 32 2 #[] #[{ accessFlags := 18, nameIndex := 11, descriptorIndex := 12, attributes := #[] }, { accessFlags := 18, nameIndex := 15, descriptorIndex := 16, attributes := #[] }, { accessFlags := 18, nameIndex := 19, descriptorIndex := 20, attributes := #[] }, { accessFlags := 18, nameIndex := 23, descriptorIndex := 20, attributes := #[] }, { accessFlags := 18, nameIndex := 26, descriptorIndex := 20, attributes := #[] }])
  fields := #[{ name := "name", type := (.object "java/lang/String"), accessFlags := 18, slot := 0, constantValue := 0 }, { name := "type", type := (.object "com/example/deft_ltl/deftltl/automata/system/ModelType"), accessFlags := 18, slot := 1, constantValue := 0 }, { name := "lowest", type := .int, accessFlags := 18, slot := 2, constantValue := 0 }, { name := "highest", type := .int, accessFlags := 18, slot := 3, constantValue := 0 }, { name := "initial", type := .int, accessFlags := 18, slot := 4, constantValue := 0 }]
  methods := #[k8m0, k8m1]
  instanceTypes := #[(.object "java/lang/String"), (.object "com/example/deft_ltl/deftltl/automata/system/ModelType"), .int, .int, .int]
  staticTypes := #[]
  resolved := Array.replicate 83 none
  statics := none }

def pool9 : Array CpInfo := pool [(2, .class_ 4), (1, u "java/lang/CharSequence"), (42, .class_ 48), (0, u "java/lang/CharSequence$1CodePointIterator"), (10, .class_ 60), (0, u "java/lang/CharSequence$1CharIterator"), (5, .class_ 67), (0, u "java/lang/Object")] 63

/-- java/lang/CharSequence -/
def k9 : Class := { plain "java/lang/CharSequence" (some 0) with
  accessFlags := 1537
  interfaces := #[]
  cf := some (fileOf pool9 2 #[.nestMembers #[47, 59]] #[] 1537 66 #[] #[])
  fields := #[]
  methods := #[]
  instanceTypes := #[]
  staticTypes := #[]
  resolved := Array.replicate 131 none
  statics := none }

def pool10 : Array CpInfo := pool [(1, .class_ 2), (0, u "java/lang/constant/ConstantDesc"), (0, .class_ 4), (0, u "java/lang/Object")] 32

/-- java/lang/constant/ConstantDesc -/
def k10 : Class := { plain "java/lang/constant/ConstantDesc" (some 0) with
  accessFlags := 1537
  interfaces := #[]
  cf := some (fileOf pool10 1 #[] #[] 1537 3 #[] #[])
  fields := #[]
  methods := #[]
  instanceTypes := #[]
  staticTypes := #[]
  resolved := Array.replicate 37 none
  statics := none }

def pool11 : Array CpInfo := pool [(2, .class_ 4), (1, u "java/lang/Object"), (0, u "<init>"), (0, u "()V"), (3, .class_ 12), (1, u "java/lang/String"), (0, u "value"), (0, u "[B"), (2, u "coder"), (0, u "B"), (2, u "hash"), (0, u "I"), (2, u "hashIsZero"), (0, u "Z"), (13, u "COMPACT_STRINGS"), (534, .class_ 576), (0, u "java/lang/CharSequence"), (22, u "CASE_INSENSITIVE_ORDER"), (0, u "Ljava/util/Comparator;"), (500, u "serialPersistentFields"), (0, u "[Ljava/io/ObjectStreamField;"), (0, .class_ 1104), (0, u "java/lang/String$CaseInsensitiveComparator"), (1, .class_ 1107), (0, u "java/io/Serializable"), (0, .class_ 1109), (0, u "java/lang/Comparable"), (0, .class_ 1111), (0, u "java/lang/constant/Constable"), (0, .class_ 1113), (0, u "java/lang/constant/ConstantDesc"), (2, u "serialVersionUID"), (0, u "J"), (3, u "REPL"), (0, u "C"), (2, u "LATIN1"), (1, u "UTF16")] 323

def k11m0 : Method := { name := "<init>", desc := "()V", sig := { parameters := [], returnType := none }, accessFlags := 1, code := none }
/-- java/lang/String -/
def k11 : Class := { plain "java/lang/String" (some 0) with
  accessFlags := 49
  interfaces := #[4, 3, 9, 2, 10]
  cf := some (fileOf pool11 10 #[.nestMembers #[1103]] #[{ accessFlags := 1, nameIndex := 5, descriptorIndex := 6, attributes := #[] }] 49 2 #[1106, 1108, 575, 1110, 1112] #[{ accessFlags := 18, nameIndex := 13, descriptorIndex := 14, attributes := #[] }, { accessFlags := 18, nameIndex := 17, descriptorIndex := 18, attributes := #[] }, { accessFlags := 2, nameIndex := 21, descriptorIndex := 22, attributes := #[] }, { accessFlags := 2, nameIndex := 25, descriptorIndex := 26, attributes := #[] }, { accessFlags := 26, nameIndex := 1116, descriptorIndex := 1117, attributes := #[] }, { accessFlags := 24, nameIndex := 40, descriptorIndex := 26, attributes := #[] }, { accessFlags := 26, nameIndex := 1101, descriptorIndex := 1102, attributes := #[] }, { accessFlags := 26, nameIndex := 1121, descriptorIndex := 1122, attributes := #[] }, { accessFlags := 25, nameIndex := 599, descriptorIndex := 600, attributes := #[] }, { accessFlags := 24, nameIndex := 1125, descriptorIndex := 18, attributes := #[] }, { accessFlags := 24, nameIndex := 1127, descriptorIndex := 18, attributes := #[] }])
  fields := #[{ name := "value", type := (.array .byte), accessFlags := 18, slot := 0, constantValue := 0 }, { name := "coder", type := .byte, accessFlags := 18, slot := 1, constantValue := 0 }, { name := "hash", type := .int, accessFlags := 2, slot := 2, constantValue := 0 }, { name := "hashIsZero", type := .boolean, accessFlags := 2, slot := 3, constantValue := 0 }, { name := "serialVersionUID", type := .long, accessFlags := 26, slot := 0, constantValue := 0 }, { name := "COMPACT_STRINGS", type := .boolean, accessFlags := 24, slot := 1, constantValue := 0 }, { name := "serialPersistentFields", type := (.array (.object "java/io/ObjectStreamField")), accessFlags := 26, slot := 2, constantValue := 0 }, { name := "REPL", type := .char, accessFlags := 26, slot := 3, constantValue := 0 }, { name := "CASE_INSENSITIVE_ORDER", type := (.object "java/util/Comparator"), accessFlags := 25, slot := 4, constantValue := 0 }, { name := "LATIN1", type := .byte, accessFlags := 24, slot := 5, constantValue := 0 }, { name := "UTF16", type := .byte, accessFlags := 24, slot := 6, constantValue := 0 }]
  methods := #[k11m0]
  instanceTypes := #[(.array .byte), .byte, .int, .boolean]
  staticTypes := #[.long, .boolean, (.array (.object "java/io/ObjectStreamField")), .char, (.object "java/util/Comparator"), .byte, .byte]
  resolved := Array.replicate 1451 none
  statics := none }

def pool12 : Array CpInfo := pool [(1, u "java/lang/Cloneable"), (0, .class_ 1), (0, u "java/lang/Object"), (0, .class_ 3)] 3

/-- java/lang/Cloneable -/
def k12 : Class := { plain "java/lang/Cloneable" (some 0) with
  accessFlags := 1537
  interfaces := #[]
  cf := some (fileOf pool12 2 #[] #[] 1537 4 #[] #[])
  fields := #[]
  methods := #[]
  instanceTypes := #[]
  staticTypes := #[]
  resolved := Array.replicate 8 none
  statics := none }

/-- the primitive byte -/
def k13 : Class := { plain "byte" none with kind := .primitive 'B', accessFlags := 0x411 }
/-- [B -/
def k14 : Class := { plain "[B" (some 0) with kind := .array 13 .byte, interfaces := #[12, 4], accessFlags := 1041 }

/-- the primitive int -/
def k15 : Class := { plain "int" none with kind := .primitive 'I', accessFlags := 0x411 }
/-- [I -/
def k16 : Class := { plain "[I" (some 0) with kind := .array 15 .int, interfaces := #[12, 4], accessFlags := 1041 }

def heap : Heap := #[{ cls := 6, slots := #[.ref 1, .ref 2, .null], vm := .statics 6 },
  { cls := 6, slots := #[.null, .int 0, .int 0, .null], vm := .none },
  { cls := 6, slots := #[.null, .int 1, .int 0, .null], vm := .none }]
def classes : Array Class := #[k0, k1, k2, k3, k4, k5, k6, k7, k8, k9, k10, k11, k12, k13, k14, k15, k16]
def interned : List (Array UInt16 × Addr) := []
def slotsUsed : Nat := 11
def theMethod : MethodId := ⟨1, 1⟩
def args0 : Array Value := #[.int 5, .int 7, .int 8, .long 3]
def aboutOver (below : List Frame) : State where
  vm := { classes := classes, interned := interned.toArray }
  heap := heap
  slotsUsed := slotsUsed
  threads := #[{ frames := .invoking theMethod args0 :: below }]
def below0 : List Frame := [.native { method := ⟨0, 0⟩, args := #[] }]
def about1 : State := aboutOver below0
def p0 : Program := .bare "" "" ""
def e0 : Env := launch0.env 0 0 0
theorem w_frames : about1.frames = Frame.invoking theMethod args0 :: below0 := rfl
set_option maxRecDepth 65536 in
theorem w_args : argsFit about1.vm theMethod args0 = true := by decide +kernel
set_option maxRecDepth 65536 in
theorem w_heap : heapFits about1 = true := by decide +kernel
set_option maxRecDepth 65536 in
theorem w_runnable : about1.curStatus? = some .runnable := by decide +kernel
set_option maxRecDepth 65536 in
theorem w_alone : about1.alone = true := by decide +kernel
set_option maxRecDepth 65536 in
theorem w_named : about1.methodNamed? x = some theMethod := by decide +kernel
set_option maxRecDepth 65536 in
theorem w_hears : about1.hears theMethod below0 = true := by decide +kernel
set_option maxRecDepth 65536 in
theorem w_ripe : about1.ripe theMethod args0 below0 = true := by decide +kernel
theorem w_running : about1.status = .running := rfl
set_option maxRecDepth 65536 in
theorem w_room : about1.hasRoom e0.platform room_1 = true :=
  launch0.hasRoom_least _ room_1 (by decide +kernel) (by decide +kernel) (by decide +kernel) (by decide +kernel) (by decide +kernel) (by decide +kernel)
theorem allAtoms_all (ts : List Jvm.Cond) (a : Array Jvm.Value) (st : Jvm.State) : (allAtoms ts).before a st = ts.all (fun c => c.before a st) := by
  induction ts with
  | nil => rfl
  | cons c t ih =>
    show (Jvm.Cond.and c (allAtoms t)).before a st = _
    rw [Jvm.Cond.before_and, ih, List.all_cons]
def words1 : List Jvm.Cond := Jvm.Cond.code x code maxLocals ret :: tables_1
/-- a 'code' word, met by the world's own term for the bytes: nothing is compared byte by byte -/
theorem code_word {y : MethodName} {bytes : ByteArray} {mx : Nat} {rt : Option FieldType} {a : Array Value} {s : State} {m : MethodId} {meth : Method} {c : Code} (h1 : s.methodNamed? y = some m) (h2 : s.vm.method? m = some meth) (h3 : meth.code = some c) (h4 : c.code = bytes)
    (h5 : (c.maxLocals == mx && c.exceptionTable.isEmpty && decide (c.maxStack ≤ mostOperands) && decide (meth.sig.returnType = rt) && !meth.locks && decide (parseMethodDescriptor y.desc = some meth.sig)) = true) : (Jvm.Cond.code y bytes mx rt).before a s = true := by
  simp only [Bool.and_eq_true, beq_iff_eq, Bool.not_eq_true', decide_eq_true_eq] at h5
  obtain ⟨⟨⟨⟨⟨g1, g2⟩, g3⟩, g4⟩, g5⟩, g6⟩ := h5
  simp [Cond.before, Cond.holds, Cond.value, h1, h2, h3, h4, g1, g2, g3, g4, g5, g6]
def isCode : Jvm.Cond → Bool
  | .code _ _ _ _ => true
  | _ => false
theorem all_split {L : List Jvm.Cond} {P : Jvm.Cond → Bool} (h1 : L.all (fun c => isCode c || P c) = true) (h2 : ∀ c ∈ L.filter isCode, P c = true) : L.all P = true := by
  refine List.all_eq_true.mpr fun c hc => ?_
  have h := List.all_eq_true.mp h1 c hc
  rcases Bool.eq_false_or_eq_true (isCode c) with hi | hi
  · exact h2 c (List.mem_filter.mpr ⟨hc, hi⟩)
  · simpa [hi] using h
set_option maxRecDepth 65536 in
theorem w_c0 : (Jvm.Cond.code x code maxLocals ret).before args0 about1 = true := code_word (m := ⟨1, 1⟩) (meth := k1m1) (c := k1c1) (by decide +kernel) rfl rfl rfl (by decide +kernel)
set_option maxRecDepth 65536 in
theorem w_c1 : (Jvm.Cond.code ({ cls := "java/lang/Math", name := "min", desc := "(II)I" } : Jvm.MethodName) jdk_29_method_69_code (2 : Nat) (Option.some Jvm.ClassFile.FieldType.int)).before args0 about1 = true := code_word (m := ⟨7, 2⟩) (meth := k7m2) (c := k7c2) (by decide +kernel) rfl rfl rfl (by decide +kernel)
set_option maxRecDepth 65536 in
theorem w_c2 : (Jvm.Cond.code ({ cls := "java/lang/Math", name := "max", desc := "(II)I" } : Jvm.MethodName) jdk_29_method_65_code (2 : Nat) (Option.some Jvm.ClassFile.FieldType.int)).before args0 about1 = true := code_word (m := ⟨7, 1⟩) (meth := k7m1) (c := k7c1) (by decide +kernel) rfl rfl rfl (by decide +kernel)
set_option maxRecDepth 65536 in
theorem w_c3 : (Jvm.Cond.code ({ cls := "com/example/deft_ltl/deftltl/automata/system/ModelVariable", name := "<init>", desc := "(Ljava/lang/String;Lcom/example/deft_ltl/deftltl/automata/system/ModelType;III)V" } : Jvm.MethodName) prog_59_method_1_code (6 : Nat) (Option.none : Option Jvm.ClassFile.FieldType)).before args0 about1 = true := code_word (m := ⟨8, 0⟩) (meth := k8m0) (c := k8c0) (by decide +kernel) rfl rfl rfl (by decide +kernel)
set_option maxRecDepth 65536 in
theorem w_c4 : (Jvm.Cond.code ({ cls := "java/lang/Object", name := "<init>", desc := "()V" } : Jvm.MethodName) object_method_1_code (1 : Nat) (Option.none : Option Jvm.ClassFile.FieldType)).before args0 about1 = true := code_word (m := ⟨0, 0⟩) (meth := k0m0) (c := k0c0) (by decide +kernel) rfl rfl rfl (by decide +kernel)
set_option maxRecDepth 65536 in
theorem w_c5 : (Jvm.Cond.code ({ cls := "com/example/deft_ltl/deftltl/automata/system/ModelVariable", name := "allows", desc := "(J)Z" } : Jvm.MethodName) prog_59_method_7_code (3 : Nat) (Option.some Jvm.ClassFile.FieldType.boolean)).before args0 about1 = true := code_word (m := ⟨8, 1⟩) (meth := k8m1) (c := k8c1) (by decide +kernel) rfl rfl rfl (by decide +kernel)
def codes1 : List Jvm.Cond := [Jvm.Cond.code x code maxLocals ret, Jvm.Cond.code ({ cls := "java/lang/Math", name := "min", desc := "(II)I" } : Jvm.MethodName) jdk_29_method_69_code (2 : Nat) (Option.some Jvm.ClassFile.FieldType.int), Jvm.Cond.code ({ cls := "java/lang/Math", name := "max", desc := "(II)I" } : Jvm.MethodName) jdk_29_method_65_code (2 : Nat) (Option.some Jvm.ClassFile.FieldType.int), Jvm.Cond.code ({ cls := "com/example/deft_ltl/deftltl/automata/system/ModelVariable", name := "<init>", desc := "(Ljava/lang/String;Lcom/example/deft_ltl/deftltl/automata/system/ModelType;III)V" } : Jvm.MethodName) prog_59_method_1_code (6 : Nat) (Option.none : Option Jvm.ClassFile.FieldType), Jvm.Cond.code ({ cls := "java/lang/Object", name := "<init>", desc := "()V" } : Jvm.MethodName) object_method_1_code (1 : Nat) (Option.none : Option Jvm.ClassFile.FieldType), Jvm.Cond.code ({ cls := "com/example/deft_ltl/deftltl/automata/system/ModelVariable", name := "allows", desc := "(J)Z" } : Jvm.MethodName) prog_59_method_7_code (3 : Nat) (Option.some Jvm.ClassFile.FieldType.boolean)]
set_option maxRecDepth 65536 in
theorem codes_eq : words1.filter isCode = codes1 := rfl
theorem w_codes : ∀ c ∈ words1.filter isCode, c.before args0 about1 = true := by
  rw [codes_eq]
  intro c hc
  simp only [codes1, List.mem_cons, List.not_mem_nil, or_false] at hc
  rcases hc with rfl | rfl | rfl | rfl | rfl | rfl
  · exact w_c0
  · exact w_c1
  · exact w_c2
  · exact w_c3
  · exact w_c4
  · exact w_c5
set_option maxRecDepth 65536 in
theorem w_t1 : (words1.take 24).all (fun c => isCode c || c.before args0 about1) = true := by decide +kernel
set_option maxRecDepth 65536 in
theorem w_t2 : (words1.drop 24).all (fun c => isCode c || c.before args0 about1) = true := by decide +kernel
theorem w_tables : (allAtoms (Jvm.Cond.code x code maxLocals ret :: tables_1)).before args0 about1 = true := by
  rw [allAtoms_all]
  show words1.all (fun c => c.before args0 about1) = true
  refine all_split ?_ w_codes
  rw [← List.take_append_drop 24 words1, List.all_append, w_t1, w_t2]
  rfl
set_option maxRecDepth 65536 in
theorem w_case : (Jvm.Cond.and given_1 narrow_1).before args0 about1 = true := by decide +kernel
theorem w_applies : (headSpec (Jvm.Cond.code x code maxLocals ret :: tables_1) room_1).applies x e0.platform about1 = true :=
  (Spec.applies_iff w_frames).mpr ⟨w_running, w_runnable, w_alone, w_named, w_hears, w_ripe, w_room, w_tables⟩
theorem atStart : AtStart classFile x code maxLocals ret World_1 tables_1 room_1 Calls_1 rest_1 Pre_1 launch0 p0 e0 about1 theMethod args0 below0 :=
  ⟨lists_1, trivial, launch0.admits_env _ _ _, launch0.least_env, fairChoices_fair.cas, fairChoices_fair.clock, w_frames, w_args, w_heap, w_applies, trivial, trivial, w_case⟩
end start1
theorem witness_1 : WitnessClaimed_1 := ⟨start1.p0, start1.e0, start1.about1, start1.theMethod, start1.args0, start1.below0, start1.atStart⟩
end Jvm.Pilot.@@N@@
