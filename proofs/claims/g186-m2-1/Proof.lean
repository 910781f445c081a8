import JvmDerived
import JvmDerived.Pilot.@@N@@Statement
import JvmDerived.Pilot.@@N@@Code
set_option linter.unusedVariables false
set_option linter.unusedSimpArgs false
namespace Jvm.Pilot.@@N@@
open Jvm Jvm.ClassFile Sem Op Lib Jvm.Free Jvm.Stand Jvm.LawKit Jvm.RoadKit Bundle Jvm.Pilot.@@N@@.Jvm.D
/-! THE OWN KIT: a walk as a weakest precondition (own_V), one law an instruction -/
def own_V (l : Launch) (Z : State) (n0 : Nat) (R : Room) (own nm : String) (cod : ByteArray) (mxl : Nat) (rt : Option FieldType) (Q : Option Value → Heap → Prop)
    (h : Heap) (cells slots : Nat) (pc : Nat) (L : Array Slot) (S : List Value) : Prop :=
  ∀ (p : Program) (e : Env) (s : State) (m : MethodId) (args : Array Value) (below : List Frame) (meth : Method) (c : Code) (T : State) (locs : List Loc),
    p.tables.exec = Jvm.exec → Z.Warmed39 s.vm → c.code = cod → c.maxLocals = mxl → s.vm.findClass own = some m.cls → meth.sig.returnType = rt → meth.name = nm → meth.locks = false →
    Stand p l e R s m args below meth c T locs cells slots → T.heap = h → Fr n0 locs →
    ∃ s₂ o, Steps p.tables e below (T.setTop (mkF m pc L S)) s₂ ∧ s₂.status = .running ∧ Ended s₂ below o ∧ ∃ v Lc, o = .returned v ∧ (Q v s₂.heap ∧ Fr n0 Lc) ∧ FrameEnd s o s₂ Lc R.cells R.slots
def own_D (cod : ByteArray) (pc : Nat) (i : Instr) (n pc' : Nat) : Prop := decode cod pc = .ok (i, n) ∧ pc + n = pc'
def own_B (cod : ByteArray) (pc : Nat) (i : Instr) (o : Int) (pc' t : Nat) : Prop := decode cod pc = .ok (i, 3) ∧ pc + 3 = pc' ∧ 0 ≤ (pc : Int) + o ∧ ((pc : Int) + o).toNat = t
section OwnKit
variable {l : Launch} {Z : State} {n0 : Nat} {R : Room} {own nm : String} {cod : ByteArray} {mxl : Nat} {rt : Option FieldType} {Q : Option Value → Heap → Prop} {h : Heap} {cells slots pc pc' : Nat} {L L' : Array Slot} {S S' : List Value} {a0 : Array Value}
theorem own_step (st : ∀ {p : Program} {e : Env} {s : State} {m : MethodId} {args : Array Value} {below : List Frame} {meth : Method} {c : Code} {T : State} {locs : List Loc}, p.tables.exec = Jvm.exec → Z.Warmed39 s.vm → c.code = cod → s.vm.findClass own = some m.cls →
      Stand p l e R s m args below meth c T locs cells slots → T.heap = h → ∀ {target : State}, Steps p.tables e below (T.setTop (mkF m pc' L' S')) target → Steps p.tables e below (T.setTop (mkF m pc L S)) target)
    (k : own_V l Z n0 R own nm cod mxl rt Q h cells slots pc' L' S') : own_V l Z n0 R own nm cod mxl rt Q h cells slots pc L S := by
  intro p e s m args below meth c T locs hx hZ hby hml hown hret hnm hlk X eT N
  obtain ⟨s₂, o, h1, r⟩ := k p e s m args below meth c T locs hx hZ hby hml hown hret hnm hlk X eT N
  exact ⟨s₂, o, st hx hZ hby hown X eT h1, r⟩
theorem own_stepC {F : Heap → List Value → Prop} {cells' slots' : Nat} (st : ∀ {p : Program} {e : Env} {s : State} {m : MethodId} {args : Array Value} {below : List Frame} {meth : Method} {c : Code} {T : State} {locs : List Loc}, p.tables.exec = Jvm.exec → Z.Warmed39 s.vm → c.code = cod → c.maxLocals = mxl → s.vm.findClass own = some m.cls → meth.name = nm →
      Stand p l e R s m args below meth c T locs cells slots → T.heap = h → Fr n0 locs →
      ∃ (T' : State) (locs' : List Loc) (S' : List Value), F T'.heap S' ∧ Stand p l e R s m args below meth c T' locs' cells' slots' ∧ Fr n0 locs' ∧ ∀ target, Steps p.tables e below (T'.setTop (mkF m pc' L' S')) target → Steps p.tables e below (T.setTop (mkF m pc L S)) target)
    (k : ∀ h' S', F h' S' → own_V l Z n0 R own nm cod mxl rt Q h' cells' slots' pc' L' S') : own_V l Z n0 R own nm cod mxl rt Q h cells slots pc L S := by
  intro p e s m args below meth c T locs hx hZ hby hml hown hret hnm hlk X eT N
  obtain ⟨T', locs', S', f, X', N', st'⟩ := st hx hZ hby hml hown hnm X eT N
  obtain ⟨s₂, o, h1, r⟩ := k _ _ f p e s m args below meth c T' locs' hx hZ hby hml hown hret hnm hlk X' rfl N'
  exact ⟨s₂, o, st' _ h1, r⟩
theorem own_iadd {x y : Int32} (d : own_D cod pc (.iadd) 1 pc') (k : own_V l Z n0 R own nm cod mxl rt Q h cells slots pc' L (.int (x + y) :: S)) : own_V l Z n0 R own nm cod mxl rt Q h cells slots pc L (.int y :: .int x :: S) := by
  obtain ⟨d, rfl⟩ := d
  exact own_step (fun hx _ hby _ X _ _ q => XS.iadd X.here hx rfl (hb hby d) rfl q) k
theorem own_isub {x y : Int32} (d : own_D cod pc (.isub) 1 pc') (k : own_V l Z n0 R own nm cod mxl rt Q h cells slots pc' L (.int (x - y) :: S)) : own_V l Z n0 R own nm cod mxl rt Q h cells slots pc L (.int y :: .int x :: S) := by
  obtain ⟨d, rfl⟩ := d
  exact own_step (fun hx _ hby _ X _ _ q => XS.isub X.here hx rfl (hb hby d) rfl q) k
theorem own_imul {x y : Int32} (d : own_D cod pc (.imul) 1 pc') (k : own_V l Z n0 R own nm cod mxl rt Q h cells slots pc' L (.int (x * y) :: S)) : own_V l Z n0 R own nm cod mxl rt Q h cells slots pc L (.int y :: .int x :: S) := by
  obtain ⟨d, rfl⟩ := d
  exact own_step (fun hx _ hby _ X _ _ q => XS.imul X.here hx rfl (hb hby d) rfl q) k
theorem own_iand {x y : Int32} (d : own_D cod pc (.iand) 1 pc') (k : own_V l Z n0 R own nm cod mxl rt Q h cells slots pc' L (.int (x &&& y) :: S)) : own_V l Z n0 R own nm cod mxl rt Q h cells slots pc L (.int y :: .int x :: S) := by
  obtain ⟨d, rfl⟩ := d
  exact own_step (fun hx _ hby _ X _ _ q => XS.iand X.here hx rfl (hb hby d) rfl q) k
theorem own_ior {x y : Int32} (d : own_D cod pc (.ior) 1 pc') (k : own_V l Z n0 R own nm cod mxl rt Q h cells slots pc' L (.int (x ||| y) :: S)) : own_V l Z n0 R own nm cod mxl rt Q h cells slots pc L (.int y :: .int x :: S) := by
  obtain ⟨d, rfl⟩ := d
  exact own_step (fun hx _ hby _ X _ _ q => XS.ior X.here hx rfl (hb hby d) rfl q) k
theorem own_ixor {x y : Int32} (d : own_D cod pc (.ixor) 1 pc') (k : own_V l Z n0 R own nm cod mxl rt Q h cells slots pc' L (.int (x ^^^ y) :: S)) : own_V l Z n0 R own nm cod mxl rt Q h cells slots pc L (.int y :: .int x :: S) := by
  obtain ⟨d, rfl⟩ := d
  exact own_step (fun hx _ hby _ X _ _ q => XS.ixor X.here hx rfl (hb hby d) rfl q) k
theorem own_ishl {x y : Int32} (d : own_D cod pc (.ishl) 1 pc') (k : own_V l Z n0 R own nm cod mxl rt Q h cells slots pc' L (.int (x <<< (y &&& 31)) :: S)) : own_V l Z n0 R own nm cod mxl rt Q h cells slots pc L (.int y :: .int x :: S) := by
  obtain ⟨d, rfl⟩ := d
  exact own_step (fun hx _ hby _ X _ _ q => XS.ishl X.here hx rfl (hb hby d) rfl q) k
theorem own_ishr {x y : Int32} (d : own_D cod pc (.ishr) 1 pc') (k : own_V l Z n0 R own nm cod mxl rt Q h cells slots pc' L (.int (x >>> (y &&& 31)) :: S)) : own_V l Z n0 R own nm cod mxl rt Q h cells slots pc L (.int y :: .int x :: S) := by
  obtain ⟨d, rfl⟩ := d
  exact own_step (fun hx _ hby _ X _ _ q => XS.ishr X.here hx rfl (hb hby d) rfl q) k
theorem own_iushr {x y : Int32} (d : own_D cod pc (.iushr) 1 pc') (k : own_V l Z n0 R own nm cod mxl rt Q h cells slots pc' L (.int ((x.toUInt32 >>> (y &&& 31).toUInt32).toInt32) :: S)) : own_V l Z n0 R own nm cod mxl rt Q h cells slots pc L (.int y :: .int x :: S) := by
  obtain ⟨d, rfl⟩ := d
  exact own_step (fun hx _ hby _ X _ _ q => XS.iushr X.here hx rfl (hb hby d) rfl q) k
theorem own_ladd {x y : Int64} (d : own_D cod pc (.ladd) 1 pc') (k : own_V l Z n0 R own nm cod mxl rt Q h cells slots pc' L (.long (x + y) :: S)) : own_V l Z n0 R own nm cod mxl rt Q h cells slots pc L (.long y :: .long x :: S) := by
  obtain ⟨d, rfl⟩ := d
  exact own_step (fun hx _ hby _ X _ _ q => XS.ladd X.here hx rfl (hb hby d) rfl q) k
theorem own_lsub {x y : Int64} (d : own_D cod pc (.lsub) 1 pc') (k : own_V l Z n0 R own nm cod mxl rt Q h cells slots pc' L (.long (x - y) :: S)) : own_V l Z n0 R own nm cod mxl rt Q h cells slots pc L (.long y :: .long x :: S) := by
  obtain ⟨d, rfl⟩ := d
  exact own_step (fun hx _ hby _ X _ _ q => XS.lsub X.here hx rfl (hb hby d) rfl q) k
theorem own_lmul {x y : Int64} (d : own_D cod pc (.lmul) 1 pc') (k : own_V l Z n0 R own nm cod mxl rt Q h cells slots pc' L (.long (x * y) :: S)) : own_V l Z n0 R own nm cod mxl rt Q h cells slots pc L (.long y :: .long x :: S) := by
  obtain ⟨d, rfl⟩ := d
  exact own_step (fun hx _ hby _ X _ _ q => XS.lmul X.here hx rfl (hb hby d) rfl q) k
theorem own_land {x y : Int64} (d : own_D cod pc (.land) 1 pc') (k : own_V l Z n0 R own nm cod mxl rt Q h cells slots pc' L (.long (x &&& y) :: S)) : own_V l Z n0 R own nm cod mxl rt Q h cells slots pc L (.long y :: .long x :: S) := by
  obtain ⟨d, rfl⟩ := d
  exact own_step (fun hx _ hby _ X _ _ q => XS.land X.here hx rfl (hb hby d) rfl q) k
theorem own_lor {x y : Int64} (d : own_D cod pc (.lor) 1 pc') (k : own_V l Z n0 R own nm cod mxl rt Q h cells slots pc' L (.long (x ||| y) :: S)) : own_V l Z n0 R own nm cod mxl rt Q h cells slots pc L (.long y :: .long x :: S) := by
  obtain ⟨d, rfl⟩ := d
  exact own_step (fun hx _ hby _ X _ _ q => XS.lor X.here hx rfl (hb hby d) rfl q) k
theorem own_lxor {x y : Int64} (d : own_D cod pc (.lxor) 1 pc') (k : own_V l Z n0 R own nm cod mxl rt Q h cells slots pc' L (.long (x ^^^ y) :: S)) : own_V l Z n0 R own nm cod mxl rt Q h cells slots pc L (.long y :: .long x :: S) := by
  obtain ⟨d, rfl⟩ := d
  exact own_step (fun hx _ hby _ X _ _ q => XS.lxor X.here hx rfl (hb hby d) rfl q) k
theorem own_lshl {x : Int64} {y : Int32} (d : own_D cod pc (.lshl) 1 pc') (k : own_V l Z n0 R own nm cod mxl rt Q h cells slots pc' L (.long (x <<< (y &&& 0x3f).toInt64) :: S)) : own_V l Z n0 R own nm cod mxl rt Q h cells slots pc L (.int y :: .long x :: S) := by
  obtain ⟨d, rfl⟩ := d
  exact own_step (fun hx _ hby _ X _ _ q => XS.lshl X.here hx rfl (hb hby d) rfl q) k
theorem own_lshr {x : Int64} {y : Int32} (d : own_D cod pc (.lshr) 1 pc') (k : own_V l Z n0 R own nm cod mxl rt Q h cells slots pc' L (.long (x >>> (y &&& 0x3f).toInt64) :: S)) : own_V l Z n0 R own nm cod mxl rt Q h cells slots pc L (.int y :: .long x :: S) := by
  obtain ⟨d, rfl⟩ := d
  exact own_step (fun hx _ hby _ X _ _ q => XS.lshr X.here hx rfl (hb hby d) rfl q) k
theorem own_lushr {x : Int64} {y : Int32} (d : own_D cod pc (.lushr) 1 pc') (k : own_V l Z n0 R own nm cod mxl rt Q h cells slots pc' L (.long ((x.toUInt64 >>> (y &&& 0x3f).toInt64.toUInt64).toInt64) :: S)) : own_V l Z n0 R own nm cod mxl rt Q h cells slots pc L (.int y :: .long x :: S) := by
  obtain ⟨d, rfl⟩ := d
  exact own_step (fun hx _ hby _ X _ _ q => XS.lushr X.here hx rfl (hb hby d) rfl q) k
theorem own_idiv {x y : Int32} (d : own_D cod pc (.idiv) 1 pc') (hy : y ≠ 0) (k : own_V l Z n0 R own nm cod mxl rt Q h cells slots pc' L (.int (x / y) :: S)) : own_V l Z n0 R own nm cod mxl rt Q h cells slots pc L (.int y :: .int x :: S) := by
  obtain ⟨d, rfl⟩ := d
  exact own_step (fun hx _ hby _ X _ _ q => XS.idiv X.here hx rfl (hb hby d) rfl hy q) k
theorem own_ldiv {x y : Int64} (d : own_D cod pc (.ldiv) 1 pc') (hy : y ≠ 0) (k : own_V l Z n0 R own nm cod mxl rt Q h cells slots pc' L (.long (x / y) :: S)) : own_V l Z n0 R own nm cod mxl rt Q h cells slots pc L (.long y :: .long x :: S) := by
  obtain ⟨d, rfl⟩ := d
  exact own_step (fun hx _ hby _ X _ _ q => XS.ldiv X.here hx rfl (hb hby d) rfl hy q) k
theorem own_lrem {x y : Int64} (d : own_D cod pc (.lrem) 1 pc') (hy : y ≠ 0) (k : own_V l Z n0 R own nm cod mxl rt Q h cells slots pc' L (.long (x - (x / y) * y) :: S)) : own_V l Z n0 R own nm cod mxl rt Q h cells slots pc L (.long y :: .long x :: S) := by
  obtain ⟨d, rfl⟩ := d
  exact own_step (fun hx _ hby _ X _ _ q => XS.lrem X.here hx rfl (hb hby d) rfl hy q) k
theorem own_irem {x y : Int32} (d : own_D cod pc (.irem) 1 pc') (hy : y ≠ 0) (k : own_V l Z n0 R own nm cod mxl rt Q h cells slots pc' L (.int (x % y) :: S)) : own_V l Z n0 R own nm cod mxl rt Q h cells slots pc L (.int y :: .int x :: S) := by
  obtain ⟨d, rfl⟩ := d
  exact own_step (fun hx _ hby _ X _ _ q => iremM X hx rfl (hb hby d) rfl hy q) k
theorem own_ineg {x : Int32} (d : own_D cod pc (.ineg) 1 pc') (k : own_V l Z n0 R own nm cod mxl rt Q h cells slots pc' L (.int (-x) :: S)) : own_V l Z n0 R own nm cod mxl rt Q h cells slots pc L (.int x :: S) := by
  obtain ⟨d, rfl⟩ := d
  exact own_step (fun hx _ hby _ X _ _ q => XS.ineg X.here hx rfl (hb hby d) rfl q) k
theorem own_i2l {x : Int32} (d : own_D cod pc (.i2l) 1 pc') (k : own_V l Z n0 R own nm cod mxl rt Q h cells slots pc' L (.long x.toInt64 :: S)) : own_V l Z n0 R own nm cod mxl rt Q h cells slots pc L (.int x :: S) := by
  obtain ⟨d, rfl⟩ := d
  exact own_step (fun hx _ hby _ X _ _ q => XS.i2l X.here hx rfl (hb hby d) rfl q) k
theorem own_i2b {x : Int32} (d : own_D cod pc (.i2b) 1 pc') (k : own_V l Z n0 R own nm cod mxl rt Q h cells slots pc' L (.int x.toInt8.toInt32 :: S)) : own_V l Z n0 R own nm cod mxl rt Q h cells slots pc L (.int x :: S) := by
  obtain ⟨d, rfl⟩ := d
  exact own_step (fun hx _ hby _ X _ _ q => XS.i2b X.here hx rfl (hb hby d) rfl q) k
theorem own_i2c {x : Int32} (d : own_D cod pc (.i2c) 1 pc') (k : own_V l Z n0 R own nm cod mxl rt Q h cells slots pc' L (.int x.toUInt32.toUInt16.toUInt32.toInt32 :: S)) : own_V l Z n0 R own nm cod mxl rt Q h cells slots pc L (.int x :: S) := by
  obtain ⟨d, rfl⟩ := d
  exact own_step (fun hx _ hby _ X _ _ q => XS.i2c X.here hx rfl (hb hby d) rfl q) k
theorem own_i2s {x : Int32} (d : own_D cod pc (.i2s) 1 pc') (k : own_V l Z n0 R own nm cod mxl rt Q h cells slots pc' L (.int x.toInt16.toInt32 :: S)) : own_V l Z n0 R own nm cod mxl rt Q h cells slots pc L (.int x :: S) := by
  obtain ⟨d, rfl⟩ := d
  exact own_step (fun hx _ hby _ X _ _ q => XS.i2s X.here hx rfl (hb hby d) rfl q) k
theorem own_l2i {x : Int64} (d : own_D cod pc (.l2i) 1 pc') (k : own_V l Z n0 R own nm cod mxl rt Q h cells slots pc' L (.int x.toInt32 :: S)) : own_V l Z n0 R own nm cod mxl rt Q h cells slots pc L (.long x :: S) := by
  obtain ⟨d, rfl⟩ := d
  exact own_step (fun hx _ hby _ X _ _ q => XS.l2i X.here hx rfl (hb hby d) rfl q) k
theorem own_lneg {x : Int64} (d : own_D cod pc (.lneg) 1 pc') (k : own_V l Z n0 R own nm cod mxl rt Q h cells slots pc' L (.long (-x) :: S)) : own_V l Z n0 R own nm cod mxl rt Q h cells slots pc L (.long x :: S) := by
  obtain ⟨d, rfl⟩ := d
  exact own_step (fun hx _ hby _ X _ _ q => XS.lneg X.here hx rfl (hb hby d) rfl q) k
theorem own_iconst {i : Int} {x : Int32} (d : own_D cod pc (.iconst i) 1 pc') (hx : Int32.ofInt i = x) (k : own_V l Z n0 R own nm cod mxl rt Q h cells slots pc' L (.int x :: S)) : own_V l Z n0 R own nm cod mxl rt Q h cells slots pc L S := by
  obtain ⟨d, rfl⟩ := d
  subst hx
  exact own_step (fun hx _ hby _ X _ _ q => XS.iconst X.here hx rfl (hb hby d) q) k
theorem own_bipush {i : Int} {x : Int32} (d : own_D cod pc (.bipush i) 2 pc') (hx : (Int8.ofInt i).toInt32 = x) (k : own_V l Z n0 R own nm cod mxl rt Q h cells slots pc' L (.int x :: S)) : own_V l Z n0 R own nm cod mxl rt Q h cells slots pc L S := by
  obtain ⟨d, rfl⟩ := d
  subst hx
  exact own_step (fun hx _ hby _ X _ _ q => XS.bipush X.here hx rfl (hb hby d) q) k
theorem own_sipush {i : Int} {x : Int32} (d : own_D cod pc (.sipush i) 3 pc') (hx : (Int16.ofInt i).toInt32 = x) (k : own_V l Z n0 R own nm cod mxl rt Q h cells slots pc' L (.int x :: S)) : own_V l Z n0 R own nm cod mxl rt Q h cells slots pc L S := by
  obtain ⟨d, rfl⟩ := d
  subst hx
  exact own_step (fun hx _ hby _ X _ _ q => XS.sipush X.here hx rfl (hb hby d) q) k
theorem own_lconst {i : Fin 2} {x : Int64} (d : own_D cod pc (.lconst i) 1 pc') (hx : Int64.ofNat i = x) (k : own_V l Z n0 R own nm cod mxl rt Q h cells slots pc' L (.long x :: S)) : own_V l Z n0 R own nm cod mxl rt Q h cells slots pc L S := by
  obtain ⟨d, rfl⟩ := d
  subst hx
  exact own_step (fun hx _ hby _ X _ _ q => XS.lconst X.here hx rfl (hb hby d) q) k
theorem own_aconstNull (d : own_D cod pc (.aconst_null) 1 pc') (k : own_V l Z n0 R own nm cod mxl rt Q h cells slots pc' L (.null :: S)) : own_V l Z n0 R own nm cod mxl rt Q h cells slots pc L (S) := by
  obtain ⟨d, rfl⟩ := d
  exact own_step (fun hx _ hby _ X _ _ q => XS.aconstNull X.here hx rfl (hb hby d) q) k
theorem own_iload {j : Nat} {x : Int32} (d : own_D cod pc (.iload j) 2 pc') (hl : L[j]? = some (.val (.int x))) (k : own_V l Z n0 R own nm cod mxl rt Q h cells slots pc' L (.int x :: S)) : own_V l Z n0 R own nm cod mxl rt Q h cells slots pc L (S) := by
  obtain ⟨d, rfl⟩ := d
  exact own_step (fun hx _ hby _ X _ _ q => XS.iload X.here hx rfl (hb hby d) hl q) k
theorem own_iloadN {j : Fin 4} {x : Int32} (d : own_D cod pc (.iload_n j) 1 pc') (hl : L[j.val]? = some (.val (.int x))) (k : own_V l Z n0 R own nm cod mxl rt Q h cells slots pc' L (.int x :: S)) : own_V l Z n0 R own nm cod mxl rt Q h cells slots pc L (S) := by
  obtain ⟨d, rfl⟩ := d
  exact own_step (fun hx _ hby _ X _ _ q => XS.iloadN X.here hx rfl (hb hby d) hl q) k
theorem own_lload {j : Nat} {x : Int64} (d : own_D cod pc (.lload j) 2 pc') (hl : L[j]? = some (.val (.long x))) (k : own_V l Z n0 R own nm cod mxl rt Q h cells slots pc' L (.long x :: S)) : own_V l Z n0 R own nm cod mxl rt Q h cells slots pc L (S) := by
  obtain ⟨d, rfl⟩ := d
  exact own_step (fun hx _ hby _ X _ _ q => XS.lload X.here hx rfl (hb hby d) hl q) k
theorem own_lloadN {j : Fin 4} {x : Int64} (d : own_D cod pc (.lload_n j) 1 pc') (hl : L[j.val]? = some (.val (.long x))) (k : own_V l Z n0 R own nm cod mxl rt Q h cells slots pc' L (.long x :: S)) : own_V l Z n0 R own nm cod mxl rt Q h cells slots pc L (S) := by
  obtain ⟨d, rfl⟩ := d
  exact own_step (fun hx _ hby _ X _ _ q => XS.lloadN X.here hx rfl (hb hby d) hl q) k
theorem own_aload {j : Nat} {x : Value} (d : own_D cod pc (.aload j) 2 pc') (hl : L[j]? = some (.val x)) (hv : x.isRef = true) (k : own_V l Z n0 R own nm cod mxl rt Q h cells slots pc' L (x :: S)) : own_V l Z n0 R own nm cod mxl rt Q h cells slots pc L (S) := by
  obtain ⟨d, rfl⟩ := d
  exact own_step (fun hx _ hby _ X _ _ q => XS.aload X.here hx rfl (hb hby d) hl hv q) k
theorem own_aloadN {j : Fin 4} {x : Value} (d : own_D cod pc (.aload_n j) 1 pc') (hl : L[j.val]? = some (.val x)) (hv : x.isRef = true) (k : own_V l Z n0 R own nm cod mxl rt Q h cells slots pc' L (x :: S)) : own_V l Z n0 R own nm cod mxl rt Q h cells slots pc L (S) := by
  obtain ⟨d, rfl⟩ := d
  exact own_step (fun hx _ hby _ X _ _ q => XS.aloadN X.here hx rfl (hb hby d) hl hv q) k
theorem own_istore {j : Nat} {x : Int32} (d : own_D cod pc (.istore j) 2 pc') (hl : storeLocals L j (.int x) = some L') (k : own_V l Z n0 R own nm cod mxl rt Q h cells slots pc' L' S) : own_V l Z n0 R own nm cod mxl rt Q h cells slots pc L (.int x :: S) := by
  obtain ⟨d, rfl⟩ := d
  exact own_step (fun hx _ hby _ X _ _ q => XS.istore X.here hx rfl (hb hby d) rfl hl q) k
theorem own_istoreN {j : Fin 4} {x : Int32} (d : own_D cod pc (.istore_n j) 1 pc') (hl : storeLocals L j.val (.int x) = some L') (k : own_V l Z n0 R own nm cod mxl rt Q h cells slots pc' L' S) : own_V l Z n0 R own nm cod mxl rt Q h cells slots pc L (.int x :: S) := by
  obtain ⟨d, rfl⟩ := d
  exact own_step (fun hx _ hby _ X _ _ q => XS.istoreN X.here hx rfl (hb hby d) rfl hl q) k
theorem own_lstore {j : Nat} {x : Int64} (d : own_D cod pc (.lstore j) 2 pc') (hl : storeLocals L j (.long x) = some L') (k : own_V l Z n0 R own nm cod mxl rt Q h cells slots pc' L' S) : own_V l Z n0 R own nm cod mxl rt Q h cells slots pc L (.long x :: S) := by
  obtain ⟨d, rfl⟩ := d
  exact own_step (fun hx _ hby _ X _ _ q => XS.lstore X.here hx rfl (hb hby d) rfl hl q) k
theorem own_lstoreN {j : Fin 4} {x : Int64} (d : own_D cod pc (.lstore_n j) 1 pc') (hl : storeLocals L j.val (.long x) = some L') (k : own_V l Z n0 R own nm cod mxl rt Q h cells slots pc' L' S) : own_V l Z n0 R own nm cod mxl rt Q h cells slots pc L (.long x :: S) := by
  obtain ⟨d, rfl⟩ := d
  exact own_step (fun hx _ hby _ X _ _ q => XS.lstoreN X.here hx rfl (hb hby d) rfl hl q) k
theorem own_astore {j : Nat} {x : Value} (d : own_D cod pc (.astore j) 2 pc') (hv : x.isRef = true) (hl : storeLocals L j x = some L') (k : own_V l Z n0 R own nm cod mxl rt Q h cells slots pc' L' S) : own_V l Z n0 R own nm cod mxl rt Q h cells slots pc L (x :: S) := by
  obtain ⟨d, rfl⟩ := d
  exact own_step (fun hx _ hby _ X _ _ q => XS.astore X.here hx rfl (hb hby d) rfl hv hl q) k
theorem own_astoreN {j : Fin 4} {x : Value} (d : own_D cod pc (.astore_n j) 1 pc') (hv : x.isRef = true) (hl : storeLocals L j.val x = some L') (k : own_V l Z n0 R own nm cod mxl rt Q h cells slots pc' L' S) : own_V l Z n0 R own nm cod mxl rt Q h cells slots pc L (x :: S) := by
  obtain ⟨d, rfl⟩ := d
  exact own_step (fun hx _ hby _ X _ _ q => XS.astoreN X.here hx rfl (hb hby d) rfl hv hl q) k
theorem own_iinc {j : Nat} {cst : Int} {x z : Int32} (d : own_D cod pc (.iinc j cst) 3 pc') (hl : L[j]? = some (.val (.int x))) (hz : Int32.ofInt cst = z) (hl' : storeLocals L j (.int (x + z)) = some L') (k : own_V l Z n0 R own nm cod mxl rt Q h cells slots pc' L' S) : own_V l Z n0 R own nm cod mxl rt Q h cells slots pc L S := by
  obtain ⟨d, rfl⟩ := d
  subst hz
  exact own_step (fun hx _ hby _ X _ _ q => XS.iinc X.here hx rfl (hb hby d) hl hl' q) k
theorem own_dup {x : Value} (d : own_D cod pc (.dup) 1 pc') (hc : x.category = 1) (k : own_V l Z n0 R own nm cod mxl rt Q h cells slots pc' L (x :: x :: S)) : own_V l Z n0 R own nm cod mxl rt Q h cells slots pc L (x :: S) := by
  obtain ⟨d, rfl⟩ := d
  exact own_step (fun hx _ hby _ X _ _ q => XS.dup X.here hx rfl (hb hby d) rfl hc q) k
theorem own_pop {x : Value} (d : own_D cod pc (.pop) 1 pc') (hc : x.category = 1) (k : own_V l Z n0 R own nm cod mxl rt Q h cells slots pc' L S) : own_V l Z n0 R own nm cod mxl rt Q h cells slots pc L (x :: S) := by
  obtain ⟨d, rfl⟩ := d
  exact own_step (fun hx _ hby _ X _ _ q => XS.pop X.here hx rfl (hb hby d) rfl hc q) k
theorem own_dupX1 {x y : Value} (d : own_D cod pc (.dup_x1) 1 pc') (hc : x.category = 1) (hc2 : y.category = 1) (k : own_V l Z n0 R own nm cod mxl rt Q h cells slots pc' L (x :: y :: x :: S)) : own_V l Z n0 R own nm cod mxl rt Q h cells slots pc L (x :: y :: S) := by
  obtain ⟨d, rfl⟩ := d
  exact own_step (fun hx _ hby _ X _ _ q => XS.dupX1 X.here hx rfl (hb hby d) rfl hc hc2 q) k
theorem own_goto {o : Int} {t : Nat} (d : own_B cod pc (.goto o) o pc' t) (k : own_V l Z n0 R own nm cod mxl rt Q h cells slots t L S) : own_V l Z n0 R own nm cod mxl rt Q h cells slots pc L S := by
  obtain ⟨d, -, h1, rfl⟩ := d
  exact own_step (fun hx _ hby _ X _ _ q => XS.goto X.here hx rfl rfl (hb hby d) h1 rfl q) k
theorem own_icmpB {cd : ClassFile.Cond} {o : Int} {t : Nat} {x y : Int32} (d : own_B cod pc (.if_icmp cd o) o pc' t) (k1 : if_icmp.holds cd x y = true → own_V l Z n0 R own nm cod mxl rt Q h cells slots t L S) (k2 : if_icmp.holds cd x y = false → own_V l Z n0 R own nm cod mxl rt Q h cells slots pc' L S) : own_V l Z n0 R own nm cod mxl rt Q h cells slots pc L (.int y :: .int x :: S) := by
  obtain ⟨d, rfl, h1, rfl⟩ := d
  cases q : if_icmp.holds cd x y
  · exact own_step (fun hx _ hby _ X _ _ w => XS.icmpNo X.here hx rfl (hb hby d) rfl q w) (k2 q)
  · exact own_step (fun hx _ hby _ X _ _ w => XS.icmpYes X.here hx rfl rfl (hb hby d) rfl q h1 rfl w) (k1 q)
theorem own_ifB {cd : ClassFile.Cond} {o : Int} {t : Nat} {x : Int32} (d : own_B cod pc (.ifCond cd o) o pc' t) (k1 : if_icmp.holds cd x 0 = true → own_V l Z n0 R own nm cod mxl rt Q h cells slots t L S) (k2 : if_icmp.holds cd x 0 = false → own_V l Z n0 R own nm cod mxl rt Q h cells slots pc' L S) : own_V l Z n0 R own nm cod mxl rt Q h cells slots pc L (.int x :: S) := by
  obtain ⟨d, rfl, h1, rfl⟩ := d
  cases q : if_icmp.holds cd x 0
  · exact own_step (fun hx _ hby _ X _ _ w => XS.ifNo X.here hx rfl (hb hby d) rfl ((if0 _ _).trans q) w) (k2 q)
  · exact own_step (fun hx _ hby _ X _ _ w => XS.ifYes X.here hx rfl rfl (hb hby d) rfl ((if0 _ _).trans q) h1 rfl w) (k1 q)
theorem own_lcmpB {cd : ClassFile.Cond} {o : Int} {t pc1 : Nat} {x y : Int64} (d1 : own_D cod pc (.lcmp) 1 pc1) (d : own_B cod pc1 (.ifCond cd o) o pc' t) (k1 : if_icmp.holds cd (lcmpW x y) 0 = true → own_V l Z n0 R own nm cod mxl rt Q h cells slots t L S) (k2 : if_icmp.holds cd (lcmpW x y) 0 = false → own_V l Z n0 R own nm cod mxl rt Q h cells slots pc' L S) : own_V l Z n0 R own nm cod mxl rt Q h cells slots pc L (.long y :: .long x :: S) := by
  obtain ⟨d1, rfl⟩ := d1
  exact own_step (fun hx _ hby _ X _ _ w => XS.lcmp X.here hx rfl (hb hby d1) rfl w) (own_ifB d k1 k2)
theorem own_ricmpLt {x y : Int32} : if_icmp.holds .lt x y = true ↔ x.toInt < y.toInt := by
  have z0 : (0 : Int32).toInt = 0 := rfl
  simp only [if_icmp.holds, decide_eq_true_eq, Int32.lt_iff_toInt_lt, Int32.le_iff_toInt_le, gt_iff_lt, ge_iff_le, z0]
theorem own_icmpLt {o : Int} {t : Nat} {x y : Int32} (d : own_B cod pc (.if_icmp .lt o) o pc' t) (k1 : x.toInt < y.toInt → own_V l Z n0 R own nm cod mxl rt Q h cells slots t L S) (k2 : ¬ (x.toInt < y.toInt) → own_V l Z n0 R own nm cod mxl rt Q h cells slots pc' L S) : own_V l Z n0 R own nm cod mxl rt Q h cells slots pc L (.int y :: .int x :: S) :=
  own_icmpB d (fun q => k1 (own_ricmpLt.mp q)) (fun q => k2 fun w => by rw [own_ricmpLt.mpr w] at q; cases q)
theorem own_rifLt {x : Int32} : if_icmp.holds .lt x 0 = true ↔ x.toInt < (0 : Int) := by
  have z0 : (0 : Int32).toInt = 0 := rfl
  simp only [if_icmp.holds, decide_eq_true_eq, Int32.lt_iff_toInt_lt, Int32.le_iff_toInt_le, gt_iff_lt, ge_iff_le, z0]
theorem own_ifLt {o : Int} {t : Nat} {x : Int32} (d : own_B cod pc (.ifCond .lt o) o pc' t) (k1 : x.toInt < (0 : Int) → own_V l Z n0 R own nm cod mxl rt Q h cells slots t L S) (k2 : ¬ (x.toInt < (0 : Int)) → own_V l Z n0 R own nm cod mxl rt Q h cells slots pc' L S) : own_V l Z n0 R own nm cod mxl rt Q h cells slots pc L (.int x :: S) :=
  own_ifB d (fun q => k1 (own_rifLt.mp q)) (fun q => k2 fun w => by rw [own_rifLt.mpr w] at q; cases q)
theorem own_rlcmpLt {x y : Int64} : if_icmp.holds .lt (lcmpW x y) 0 = true ↔ x.toInt < y.toInt := by
  have e := lw_lt x y; have e2 := lw_gt x y; rw [Int64.lt_iff_toInt_lt] at e e2; rw [Int32.lt_iff_toInt_lt] at e e2
  have z0 : (0 : Int32).toInt = 0 := rfl
  simp only [if_icmp.holds, decide_eq_true_eq, Int32.lt_iff_toInt_lt, Int32.le_iff_toInt_le, gt_iff_lt, ge_iff_le, z0] at *
  omega
theorem own_lcmpLt {o : Int} {t pc1 : Nat} {x y : Int64} (d1 : own_D cod pc (.lcmp) 1 pc1) (d : own_B cod pc1 (.ifCond .lt o) o pc' t) (k1 : x.toInt < y.toInt → own_V l Z n0 R own nm cod mxl rt Q h cells slots t L S) (k2 : ¬ (x.toInt < y.toInt) → own_V l Z n0 R own nm cod mxl rt Q h cells slots pc' L S) : own_V l Z n0 R own nm cod mxl rt Q h cells slots pc L (.long y :: .long x :: S) :=
  own_lcmpB d1 d (fun q => k1 (own_rlcmpLt.mp q)) (fun q => k2 fun w => by rw [own_rlcmpLt.mpr w] at q; cases q)
theorem own_ricmpGe {x y : Int32} : if_icmp.holds .ge x y = true ↔ x.toInt ≥ y.toInt := by
  have z0 : (0 : Int32).toInt = 0 := rfl
  simp only [if_icmp.holds, decide_eq_true_eq, Int32.lt_iff_toInt_lt, Int32.le_iff_toInt_le, gt_iff_lt, ge_iff_le, z0]
theorem own_icmpGe {o : Int} {t : Nat} {x y : Int32} (d : own_B cod pc (.if_icmp .ge o) o pc' t) (k1 : x.toInt ≥ y.toInt → own_V l Z n0 R own nm cod mxl rt Q h cells slots t L S) (k2 : ¬ (x.toInt ≥ y.toInt) → own_V l Z n0 R own nm cod mxl rt Q h cells slots pc' L S) : own_V l Z n0 R own nm cod mxl rt Q h cells slots pc L (.int y :: .int x :: S) :=
  own_icmpB d (fun q => k1 (own_ricmpGe.mp q)) (fun q => k2 fun w => by rw [own_ricmpGe.mpr w] at q; cases q)
theorem own_rifGe {x : Int32} : if_icmp.holds .ge x 0 = true ↔ x.toInt ≥ (0 : Int) := by
  have z0 : (0 : Int32).toInt = 0 := rfl
  simp only [if_icmp.holds, decide_eq_true_eq, Int32.lt_iff_toInt_lt, Int32.le_iff_toInt_le, gt_iff_lt, ge_iff_le, z0]
theorem own_ifGe {o : Int} {t : Nat} {x : Int32} (d : own_B cod pc (.ifCond .ge o) o pc' t) (k1 : x.toInt ≥ (0 : Int) → own_V l Z n0 R own nm cod mxl rt Q h cells slots t L S) (k2 : ¬ (x.toInt ≥ (0 : Int)) → own_V l Z n0 R own nm cod mxl rt Q h cells slots pc' L S) : own_V l Z n0 R own nm cod mxl rt Q h cells slots pc L (.int x :: S) :=
  own_ifB d (fun q => k1 (own_rifGe.mp q)) (fun q => k2 fun w => by rw [own_rifGe.mpr w] at q; cases q)
theorem own_rlcmpGe {x y : Int64} : if_icmp.holds .ge (lcmpW x y) 0 = true ↔ x.toInt ≥ y.toInt := by
  have e := lw_lt x y; have e2 := lw_gt x y; rw [Int64.lt_iff_toInt_lt] at e e2; rw [Int32.lt_iff_toInt_lt] at e e2
  have z0 : (0 : Int32).toInt = 0 := rfl
  simp only [if_icmp.holds, decide_eq_true_eq, Int32.lt_iff_toInt_lt, Int32.le_iff_toInt_le, gt_iff_lt, ge_iff_le, z0] at *
  omega
theorem own_lcmpGe {o : Int} {t pc1 : Nat} {x y : Int64} (d1 : own_D cod pc (.lcmp) 1 pc1) (d : own_B cod pc1 (.ifCond .ge o) o pc' t) (k1 : x.toInt ≥ y.toInt → own_V l Z n0 R own nm cod mxl rt Q h cells slots t L S) (k2 : ¬ (x.toInt ≥ y.toInt) → own_V l Z n0 R own nm cod mxl rt Q h cells slots pc' L S) : own_V l Z n0 R own nm cod mxl rt Q h cells slots pc L (.long y :: .long x :: S) :=
  own_lcmpB d1 d (fun q => k1 (own_rlcmpGe.mp q)) (fun q => k2 fun w => by rw [own_rlcmpGe.mpr w] at q; cases q)
theorem own_ricmpGt {x y : Int32} : if_icmp.holds .gt x y = true ↔ x.toInt > y.toInt := by
  have z0 : (0 : Int32).toInt = 0 := rfl
  simp only [if_icmp.holds, decide_eq_true_eq, Int32.lt_iff_toInt_lt, Int32.le_iff_toInt_le, gt_iff_lt, ge_iff_le, z0]
theorem own_icmpGt {o : Int} {t : Nat} {x y : Int32} (d : own_B cod pc (.if_icmp .gt o) o pc' t) (k1 : x.toInt > y.toInt → own_V l Z n0 R own nm cod mxl rt Q h cells slots t L S) (k2 : ¬ (x.toInt > y.toInt) → own_V l Z n0 R own nm cod mxl rt Q h cells slots pc' L S) : own_V l Z n0 R own nm cod mxl rt Q h cells slots pc L (.int y :: .int x :: S) :=
  own_icmpB d (fun q => k1 (own_ricmpGt.mp q)) (fun q => k2 fun w => by rw [own_ricmpGt.mpr w] at q; cases q)
theorem own_rifGt {x : Int32} : if_icmp.holds .gt x 0 = true ↔ x.toInt > (0 : Int) := by
  have z0 : (0 : Int32).toInt = 0 := rfl
  simp only [if_icmp.holds, decide_eq_true_eq, Int32.lt_iff_toInt_lt, Int32.le_iff_toInt_le, gt_iff_lt, ge_iff_le, z0]
theorem own_ifGt {o : Int} {t : Nat} {x : Int32} (d : own_B cod pc (.ifCond .gt o) o pc' t) (k1 : x.toInt > (0 : Int) → own_V l Z n0 R own nm cod mxl rt Q h cells slots t L S) (k2 : ¬ (x.toInt > (0 : Int)) → own_V l Z n0 R own nm cod mxl rt Q h cells slots pc' L S) : own_V l Z n0 R own nm cod mxl rt Q h cells slots pc L (.int x :: S) :=
  own_ifB d (fun q => k1 (own_rifGt.mp q)) (fun q => k2 fun w => by rw [own_rifGt.mpr w] at q; cases q)
theorem own_rlcmpGt {x y : Int64} : if_icmp.holds .gt (lcmpW x y) 0 = true ↔ x.toInt > y.toInt := by
  have e := lw_lt x y; have e2 := lw_gt x y; rw [Int64.lt_iff_toInt_lt] at e e2; rw [Int32.lt_iff_toInt_lt] at e e2
  have z0 : (0 : Int32).toInt = 0 := rfl
  simp only [if_icmp.holds, decide_eq_true_eq, Int32.lt_iff_toInt_lt, Int32.le_iff_toInt_le, gt_iff_lt, ge_iff_le, z0] at *
  omega
theorem own_lcmpGt {o : Int} {t pc1 : Nat} {x y : Int64} (d1 : own_D cod pc (.lcmp) 1 pc1) (d : own_B cod pc1 (.ifCond .gt o) o pc' t) (k1 : x.toInt > y.toInt → own_V l Z n0 R own nm cod mxl rt Q h cells slots t L S) (k2 : ¬ (x.toInt > y.toInt) → own_V l Z n0 R own nm cod mxl rt Q h cells slots pc' L S) : own_V l Z n0 R own nm cod mxl rt Q h cells slots pc L (.long y :: .long x :: S) :=
  own_lcmpB d1 d (fun q => k1 (own_rlcmpGt.mp q)) (fun q => k2 fun w => by rw [own_rlcmpGt.mpr w] at q; cases q)
theorem own_ricmpLe {x y : Int32} : if_icmp.holds .le x y = true ↔ x.toInt ≤ y.toInt := by
  have z0 : (0 : Int32).toInt = 0 := rfl
  simp only [if_icmp.holds, decide_eq_true_eq, Int32.lt_iff_toInt_lt, Int32.le_iff_toInt_le, gt_iff_lt, ge_iff_le, z0]
theorem own_icmpLe {o : Int} {t : Nat} {x y : Int32} (d : own_B cod pc (.if_icmp .le o) o pc' t) (k1 : x.toInt ≤ y.toInt → own_V l Z n0 R own nm cod mxl rt Q h cells slots t L S) (k2 : ¬ (x.toInt ≤ y.toInt) → own_V l Z n0 R own nm cod mxl rt Q h cells slots pc' L S) : own_V l Z n0 R own nm cod mxl rt Q h cells slots pc L (.int y :: .int x :: S) :=
  own_icmpB d (fun q => k1 (own_ricmpLe.mp q)) (fun q => k2 fun w => by rw [own_ricmpLe.mpr w] at q; cases q)
theorem own_rifLe {x : Int32} : if_icmp.holds .le x 0 = true ↔ x.toInt ≤ (0 : Int) := by
  have z0 : (0 : Int32).toInt = 0 := rfl
  simp only [if_icmp.holds, decide_eq_true_eq, Int32.lt_iff_toInt_lt, Int32.le_iff_toInt_le, gt_iff_lt, ge_iff_le, z0]
theorem own_ifLe {o : Int} {t : Nat} {x : Int32} (d : own_B cod pc (.ifCond .le o) o pc' t) (k1 : x.toInt ≤ (0 : Int) → own_V l Z n0 R own nm cod mxl rt Q h cells slots t L S) (k2 : ¬ (x.toInt ≤ (0 : Int)) → own_V l Z n0 R own nm cod mxl rt Q h cells slots pc' L S) : own_V l Z n0 R own nm cod mxl rt Q h cells slots pc L (.int x :: S) :=
  own_ifB d (fun q => k1 (own_rifLe.mp q)) (fun q => k2 fun w => by rw [own_rifLe.mpr w] at q; cases q)
theorem own_rlcmpLe {x y : Int64} : if_icmp.holds .le (lcmpW x y) 0 = true ↔ x.toInt ≤ y.toInt := by
  have e := lw_lt x y; have e2 := lw_gt x y; rw [Int64.lt_iff_toInt_lt] at e e2; rw [Int32.lt_iff_toInt_lt] at e e2
  have z0 : (0 : Int32).toInt = 0 := rfl
  simp only [if_icmp.holds, decide_eq_true_eq, Int32.lt_iff_toInt_lt, Int32.le_iff_toInt_le, gt_iff_lt, ge_iff_le, z0] at *
  omega
theorem own_lcmpLe {o : Int} {t pc1 : Nat} {x y : Int64} (d1 : own_D cod pc (.lcmp) 1 pc1) (d : own_B cod pc1 (.ifCond .le o) o pc' t) (k1 : x.toInt ≤ y.toInt → own_V l Z n0 R own nm cod mxl rt Q h cells slots t L S) (k2 : ¬ (x.toInt ≤ y.toInt) → own_V l Z n0 R own nm cod mxl rt Q h cells slots pc' L S) : own_V l Z n0 R own nm cod mxl rt Q h cells slots pc L (.long y :: .long x :: S) :=
  own_lcmpB d1 d (fun q => k1 (own_rlcmpLe.mp q)) (fun q => k2 fun w => by rw [own_rlcmpLe.mpr w] at q; cases q)
theorem own_ricmpEq {x y : Int32} : if_icmp.holds .eq x y = true ↔ x.toInt = y.toInt := by
  have e : True := trivial
  have e0 : ∀ x : Int32, x = 0 ↔ x.toInt = 0 := fun x => ⟨fun q => by rw [q]; rfl, fun q => Int32.toInt_inj.mp (q.trans rfl)⟩
  simp only [if_icmp.holds, beq_iff_eq, bne_iff_ne, ne_eq, Int32.toInt_inj]
theorem own_icmpEq {o : Int} {t : Nat} {x y : Int32} (d : own_B cod pc (.if_icmp .eq o) o pc' t) (k1 : x.toInt = y.toInt → own_V l Z n0 R own nm cod mxl rt Q h cells slots t L S) (k2 : ¬ (x.toInt = y.toInt) → own_V l Z n0 R own nm cod mxl rt Q h cells slots pc' L S) : own_V l Z n0 R own nm cod mxl rt Q h cells slots pc L (.int y :: .int x :: S) :=
  own_icmpB d (fun q => k1 (own_ricmpEq.mp q)) (fun q => k2 (by
    have e : ¬ (x.toInt = y.toInt) := fun w => by rw [own_ricmpEq.mpr w] at q; cases q
    first | exact e | exact Decidable.not_not.mp e))
theorem own_rifEq {x : Int32} : if_icmp.holds .eq x 0 = true ↔ x.toInt = (0 : Int) := by
  have e : True := trivial
  have e0 : ∀ x : Int32, x = 0 ↔ x.toInt = 0 := fun x => ⟨fun q => by rw [q]; rfl, fun q => Int32.toInt_inj.mp (q.trans rfl)⟩
  simp only [if_icmp.holds, beq_iff_eq, bne_iff_ne, ne_eq, e0]
theorem own_ifEq {o : Int} {t : Nat} {x : Int32} (d : own_B cod pc (.ifCond .eq o) o pc' t) (k1 : x.toInt = (0 : Int) → own_V l Z n0 R own nm cod mxl rt Q h cells slots t L S) (k2 : ¬ (x.toInt = (0 : Int)) → own_V l Z n0 R own nm cod mxl rt Q h cells slots pc' L S) : own_V l Z n0 R own nm cod mxl rt Q h cells slots pc L (.int x :: S) :=
  own_ifB d (fun q => k1 (own_rifEq.mp q)) (fun q => k2 (by
    have e : ¬ (x.toInt = (0 : Int)) := fun w => by rw [own_rifEq.mpr w] at q; cases q
    first | exact e | exact Decidable.not_not.mp e))
theorem own_rlcmpEq {x y : Int64} : if_icmp.holds .eq (lcmpW x y) 0 = true ↔ x.toInt = y.toInt := by
  have e : (lcmpW x y = 0 ↔ x.toInt = y.toInt) := (lw_eq x y).trans Int64.toInt_inj.symm
  have e0 : ∀ x : Int32, x = 0 ↔ x.toInt = 0 := fun x => ⟨fun q => by rw [q]; rfl, fun q => Int32.toInt_inj.mp (q.trans rfl)⟩
  simp only [if_icmp.holds, beq_iff_eq, bne_iff_ne, ne_eq, e]
theorem own_lcmpEq {o : Int} {t pc1 : Nat} {x y : Int64} (d1 : own_D cod pc (.lcmp) 1 pc1) (d : own_B cod pc1 (.ifCond .eq o) o pc' t) (k1 : x.toInt = y.toInt → own_V l Z n0 R own nm cod mxl rt Q h cells slots t L S) (k2 : ¬ (x.toInt = y.toInt) → own_V l Z n0 R own nm cod mxl rt Q h cells slots pc' L S) : own_V l Z n0 R own nm cod mxl rt Q h cells slots pc L (.long y :: .long x :: S) :=
  own_lcmpB d1 d (fun q => k1 (own_rlcmpEq.mp q)) (fun q => k2 (by
    have e : ¬ (x.toInt = y.toInt) := fun w => by rw [own_rlcmpEq.mpr w] at q; cases q
    first | exact e | exact Decidable.not_not.mp e))
theorem own_ricmpNe {x y : Int32} : if_icmp.holds .ne x y = true ↔ ¬ (x.toInt = y.toInt) := by
  have e : True := trivial
  have e0 : ∀ x : Int32, x = 0 ↔ x.toInt = 0 := fun x => ⟨fun q => by rw [q]; rfl, fun q => Int32.toInt_inj.mp (q.trans rfl)⟩
  simp only [if_icmp.holds, beq_iff_eq, bne_iff_ne, ne_eq, Int32.toInt_inj]
theorem own_icmpNe {o : Int} {t : Nat} {x y : Int32} (d : own_B cod pc (.if_icmp .ne o) o pc' t) (k1 : ¬ (x.toInt = y.toInt) → own_V l Z n0 R own nm cod mxl rt Q h cells slots t L S) (k2 : x.toInt = y.toInt → own_V l Z n0 R own nm cod mxl rt Q h cells slots pc' L S) : own_V l Z n0 R own nm cod mxl rt Q h cells slots pc L (.int y :: .int x :: S) :=
  own_icmpB d (fun q => k1 (own_ricmpNe.mp q)) (fun q => k2 (by
    have e : ¬ (¬ (x.toInt = y.toInt)) := fun w => by rw [own_ricmpNe.mpr w] at q; cases q
    first | exact e | exact Decidable.not_not.mp e))
theorem own_rifNe {x : Int32} : if_icmp.holds .ne x 0 = true ↔ ¬ (x.toInt = (0 : Int)) := by
  have e : True := trivial
  have e0 : ∀ x : Int32, x = 0 ↔ x.toInt = 0 := fun x => ⟨fun q => by rw [q]; rfl, fun q => Int32.toInt_inj.mp (q.trans rfl)⟩
  simp only [if_icmp.holds, beq_iff_eq, bne_iff_ne, ne_eq, e0]
theorem own_ifNe {o : Int} {t : Nat} {x : Int32} (d : own_B cod pc (.ifCond .ne o) o pc' t) (k1 : ¬ (x.toInt = (0 : Int)) → own_V l Z n0 R own nm cod mxl rt Q h cells slots t L S) (k2 : x.toInt = (0 : Int) → own_V l Z n0 R own nm cod mxl rt Q h cells slots pc' L S) : own_V l Z n0 R own nm cod mxl rt Q h cells slots pc L (.int x :: S) :=
  own_ifB d (fun q => k1 (own_rifNe.mp q)) (fun q => k2 (by
    have e : ¬ (¬ (x.toInt = (0 : Int))) := fun w => by rw [own_rifNe.mpr w] at q; cases q
    first | exact e | exact Decidable.not_not.mp e))
theorem own_rlcmpNe {x y : Int64} : if_icmp.holds .ne (lcmpW x y) 0 = true ↔ ¬ (x.toInt = y.toInt) := by
  have e : (lcmpW x y = 0 ↔ x.toInt = y.toInt) := (lw_eq x y).trans Int64.toInt_inj.symm
  have e0 : ∀ x : Int32, x = 0 ↔ x.toInt = 0 := fun x => ⟨fun q => by rw [q]; rfl, fun q => Int32.toInt_inj.mp (q.trans rfl)⟩
  simp only [if_icmp.holds, beq_iff_eq, bne_iff_ne, ne_eq, e]
theorem own_lcmpNe {o : Int} {t pc1 : Nat} {x y : Int64} (d1 : own_D cod pc (.lcmp) 1 pc1) (d : own_B cod pc1 (.ifCond .ne o) o pc' t) (k1 : ¬ (x.toInt = y.toInt) → own_V l Z n0 R own nm cod mxl rt Q h cells slots t L S) (k2 : x.toInt = y.toInt → own_V l Z n0 R own nm cod mxl rt Q h cells slots pc' L S) : own_V l Z n0 R own nm cod mxl rt Q h cells slots pc L (.long y :: .long x :: S) :=
  own_lcmpB d1 d (fun q => k1 (own_rlcmpNe.mp q)) (fun q => k2 (by
    have e : ¬ (¬ (x.toInt = y.toInt)) := fun w => by rw [own_rlcmpNe.mpr w] at q; cases q
    first | exact e | exact Decidable.not_not.mp e))
theorem own_acmpEq {o : Int} {t : Nat} {v w : Value} (d : own_B cod pc (.if_acmp .eq o) o pc' t) (hv : v.isRef = true) (hw : w.isRef = true) (k1 : v = w → own_V l Z n0 R own nm cod mxl rt Q h cells slots t L S) (k2 : ¬ (v = w) → own_V l Z n0 R own nm cod mxl rt Q h cells slots pc' L S) : own_V l Z n0 R own nm cod mxl rt Q h cells slots pc L (w :: v :: S) := by
  obtain ⟨d, rfl, h1, rfl⟩ := d
  by_cases q : v = w
  · exact own_step (fun hx _ hby _ X _ _ z => Jvm.RoadKit.acmp X hx rfl hv hw (same := true) rfl (hb hby d) rfl (decide_eq_true q) h1 rfl z) (k1 q)
  · exact own_step (fun hx _ hby _ X _ _ z => Jvm.RoadKit.acmp X hx rfl hv hw (same := false) rfl (hb hby d) rfl (decide_eq_false q) h1 rfl z) (k2 q)
theorem own_acmpNe {o : Int} {t : Nat} {v w : Value} (d : own_B cod pc (.if_acmp .ne o) o pc' t) (hv : v.isRef = true) (hw : w.isRef = true) (k1 : ¬ (v = w) → own_V l Z n0 R own nm cod mxl rt Q h cells slots t L S) (k2 : v = w → own_V l Z n0 R own nm cod mxl rt Q h cells slots pc' L S) : own_V l Z n0 R own nm cod mxl rt Q h cells slots pc L (w :: v :: S) := by
  obtain ⟨d, rfl, h1, rfl⟩ := d
  by_cases q : v = w
  · exact own_step (fun hx _ hby _ X _ _ z => Jvm.RoadKit.acmp X hx rfl hv hw (same := true) rfl (hb hby d) rfl (decide_eq_true q) h1 rfl z) (k2 q)
  · exact own_step (fun hx _ hby _ X _ _ z => Jvm.RoadKit.acmp X hx rfl hv hw (same := false) rfl (hb hby d) rfl (decide_eq_false q) h1 rfl z) (k1 q)
theorem own_ifnullN {o : Int} {t : Nat} (d : own_B cod pc (.ifnull o) o pc' t) (k : own_V l Z n0 R own nm cod mxl rt Q h cells slots t L S) : own_V l Z n0 R own nm cod mxl rt Q h cells slots pc L (.null :: S) := by
  obtain ⟨d, -, h1, rfl⟩ := d
  exact own_step (fun hx _ hby _ X _ _ q => XS.ifnullYes X.here hx rfl rfl (hb hby d) rfl h1 rfl q) k
theorem own_ifnullR {o : Int} {t : Nat} {a : Addr} (d : own_B cod pc (.ifnull o) o pc' t) (k : own_V l Z n0 R own nm cod mxl rt Q h cells slots pc' L S) : own_V l Z n0 R own nm cod mxl rt Q h cells slots pc L (.ref a :: S) := by
  obtain ⟨d, rfl, -, -⟩ := d
  exact own_step (fun hx _ hby _ X _ _ q => XS.ifnullNo X.here hx rfl (hb hby d) rfl q) k
theorem own_ifnonnullR {o : Int} {t : Nat} {a : Addr} (d : own_B cod pc (.ifnonnull o) o pc' t) (k : own_V l Z n0 R own nm cod mxl rt Q h cells slots t L S) : own_V l Z n0 R own nm cod mxl rt Q h cells slots pc L (.ref a :: S) := by
  obtain ⟨d, -, h1, rfl⟩ := d
  exact own_step (fun hx _ hby _ X _ _ q => XS.ifnonnullYes X.here hx rfl rfl (hb hby d) rfl h1 rfl q) k
theorem own_ifnonnullN {o : Int} {t : Nat} (d : own_B cod pc (.ifnonnull o) o pc' t) (k : own_V l Z n0 R own nm cod mxl rt Q h cells slots pc' L S) : own_V l Z n0 R own nm cod mxl rt Q h cells slots pc L (.null :: S) := by
  obtain ⟨d, rfl, -, -⟩ := d
  exact own_step (fun hx _ hby _ X _ _ q => XS.ifnonnullNo X.here hx rfl (hb hby d) rfl q) k
theorem own_ldcI {i : Nat} {x : Int32} (d : own_D cod pc (.ldc i) 2 pc') (w : (Cond.constant own i x).before a0 Z = true) (k : own_V l Z n0 R own nm cod mxl rt Q h cells slots pc' L (.int x :: S)) : own_V l Z n0 R own nm cod mxl rt Q h cells slots pc L S := by
  obtain ⟨d, rfl⟩ := d
  exact own_step (fun hx hZ hby hown X _ _ q => X.ldcInt hx hown (mvT hZ w) (g := mkF _ pc L S) rfl (hb hby d) _ q) k
theorem own_ldcwI {i : Nat} {x : Int32} (d : own_D cod pc (.ldc_w i) 3 pc') (w : (Cond.constant own i x).before a0 Z = true) (k : own_V l Z n0 R own nm cod mxl rt Q h cells slots pc' L (.int x :: S)) : own_V l Z n0 R own nm cod mxl rt Q h cells slots pc L S := by
  obtain ⟨d, rfl⟩ := d
  exact own_step (fun hx hZ hby hown X _ _ q => X.ldcwInt hx hown (mvT hZ w) (g := mkF _ pc L S) rfl (hb hby d) _ q) k
theorem own_ldcJ {i : Nat} {x : Int64} (d : own_D cod pc (.ldc2_w i) 3 pc') (w : (Cond.constantLong own i x).before a0 Z = true) (k : own_V l Z n0 R own nm cod mxl rt Q h cells slots pc' L (.long x :: S)) : own_V l Z n0 R own nm cod mxl rt Q h cells slots pc L S := by
  obtain ⟨d, rfl⟩ := d
  exact own_step (fun hx hZ hby hown X _ _ q => X.ldc2Long hx hown (mvT hZ w) (g := mkF _ pc L S) rfl (hb hby d) _ q) k
theorem own_getS {i : Nat} {R0 O n ds : String} {v : Value} (d : own_D cod pc (.getstatic i) 3 pc') (w : (Cond.fieldLink own i R0 n ds).before a0 Z = true) (via : Via Z R0 O n ds) (F : Sta Z h O n ds v) (k : own_V l Z n0 R own nm cod mxl rt Q h cells slots pc' L (v :: S)) : own_V l Z n0 R own nm cod mxl rt Q h cells slots pc L S := by
  obtain ⟨d, rfl⟩ := d
  refine own_stepC (F := fun h' S' => h' = h ∧ S' = v :: S) (fun hx hZ hby _ hown _ X eT N => ?_) (by rintro h' S' ⟨rfl, rfl⟩; exact k)
  obtain ⟨T', X', e', st⟩ := getS (host := "") X hx hZ hown w via eT F (g := mkF _ pc L S) rfl (hb hby d)
  exact ⟨T', _, _, ⟨e', rfl⟩, X', N, st⟩
theorem own_getF {i : Nat} {R0 O n ds : String} {v : Value} {a : Addr} (d : own_D cod pc (.getfield i) 3 pc') (w : (Cond.fieldLink own i R0 n ds).before a0 Z = true) (via : Via Z R0 O n ds) (F : Fld Z h a O n ds v) (k : own_V l Z n0 R own nm cod mxl rt Q h cells slots pc' L (v :: S)) : own_V l Z n0 R own nm cod mxl rt Q h cells slots pc L (.ref a :: S) := by
  obtain ⟨d, rfl⟩ := d
  refine own_stepC (F := fun h' S' => h' = h ∧ S' = v :: S) (fun hx hZ hby _ hown _ X eT N => ?_) (by rintro h' S' ⟨rfl, rfl⟩; exact k)
  obtain ⟨T', X', e', st⟩ := getF (host := "") X hx hZ hown (Or.inl w) via eT F (g := mkF _ pc L (.ref a :: S)) rfl rfl (hb hby d)
  exact ⟨T', _, _, ⟨e', rfl⟩, X', N, st⟩
theorem own_putF {i kk : Nat} {R0 O C n ds : String} {v old : Value} {a : Addr} {ty : FieldType} (d : own_D cod pc (.putfield i) 3 pc') (w : (Cond.fieldLink own i R0 n ds).before a0 Z = true) (via : Via Z R0 O n ds) (F : Fld Z h a O n ds old) (E : Exa Z h a C)
    (Lw : (Cond.lays C O n ds).before a0 Z = true ∨ ((Cond.laysFinal C O n ds).before a0 Z = true ∧ own = O ∧ nm = "<init>")) (wi : (Cond.instantiable C kk).before a0 Z = true) (hty : parseFieldDescriptor ds = some ty) (hn : narrow ty v = v) (hf : fits ty v = true) (ha : n0 ≤ a)
    (k : ∀ h', Wr h h' a (Jvm.RoadKit.slotOf Z O n ds) v → own_V l Z n0 R own nm cod mxl rt Q h' cells slots pc' L S) : own_V l Z n0 R own nm cod mxl rt Q h cells slots pc L (v :: .ref a :: S) := by
  obtain ⟨d, rfl⟩ := d
  refine own_stepC (F := fun h' S' => Wr h h' a (Jvm.RoadKit.slotOf Z O n ds) v ∧ S' = S) (fun hx hZ hby _ hown hnm X eT N => ?_) (by rintro h' S' ⟨W, rfl⟩; exact k h' W)
  obtain ⟨T', h', X', e', W', st⟩ := putF (host := "") X hx hZ hown (Or.inl w) via eT F E (Lw.imp id fun q => ⟨q.1, q.2.1, hnm.trans q.2.2⟩) wi hty hn hf (g := mkF _ pc L (v :: .ref a :: S)) rfl rfl (hb hby d)
  subst e'
  exact ⟨T', _, _, ⟨W', rfl⟩, X', Fr.snoc X' N ha, st⟩
theorem own_new {i n cells' slots' : Nat} {C : String} (d : own_D cod pc (.new i) 3 pc') (w : (Cond.classLink own i C).before a0 Z = true) (wi : (Cond.instantiable C n).before a0 Z = true) (wz : (Cond.initialized C).before a0 Z = true) (hc : cells + 1 = cells') (hs : slots + n = slots') (hc' : cells' ≤ R.cells) (hs' : slots' ≤ R.slots)
    (k : ∀ h', Ext h h' → Exa Z h' h.size C → (∀ {O nf ds : String} {ty : FieldType}, Laid Z a0 C O nf ds → parseFieldDescriptor ds = some ty → Fld Z h' h.size O nf ds (defaultValue ty)) → own_V l Z n0 R own nm cod mxl rt Q h' cells' slots' pc' L (.ref h.size :: S)) : own_V l Z n0 R own nm cod mxl rt Q h cells slots pc L S := by
  obtain ⟨d, rfl⟩ := d
  subst hc hs
  refine own_stepC (F := fun h' S' => (Ext h h' ∧ Exa Z h' h.size C ∧ ∀ {O nf ds : String} {ty : FieldType}, Laid Z a0 C O nf ds → parseFieldDescriptor ds = some ty → Fld Z h' h.size O nf ds (defaultValue ty)) ∧ S' = .ref h.size :: S) (fun hx hZ hby _ hown _ X eT N => ?_) (by rintro h' S' ⟨⟨q1, q2, q3⟩, rfl⟩; exact k h' q1 q2 q3)
  obtain ⟨T', h', X', e', E', A', D', -, st⟩ := newO X hx hZ hown w wi wz eT (g := mkF _ pc L S) rfl (hb hby d) hc' hs'
  subst e'
  exact ⟨T', _, _, ⟨⟨E', A', D'⟩, rfl⟩, X', N, st⟩
theorem own_initO {i W : Nat} {a : Addr} (d : own_D cod pc (.invokespecial i) 3 pc') (w1 : (Cond.methodLink own i Lib.objectInit).before a0 Z = true) (w2 : (Cond.instanceMethod Lib.objectInit).before a0 Z = true) (w3 : (Cond.code Lib.objectInit ⟨#[0xb1]⟩ 1 none).before a0 Z = true) (hsz : L.size = mxl) (hf : 1 ≤ R.frames) (hW : (S.map fun v => v.category).sum ≤ W) (hl : W + 12 ≤ R.locals)
    (k : own_V l Z n0 R own nm cod mxl rt Q h cells slots pc' L S) : own_V l Z n0 R own nm cod mxl rt Q h cells slots pc L (.ref a :: S) := by
  obtain ⟨d, rfl⟩ := d
  refine own_stepC (F := fun h' S' => h' = h ∧ S' = S) (fun hx hZ hby hml hown _ X eT N => ?_) (by rintro h' S' ⟨rfl, rfl⟩; exact k)
  obtain ⟨T', X', e', st⟩ := initO X hx hZ hown w1 w2 w3 eT (g := mkF _ pc L (.ref a :: S)) rfl (by rw [hml]; exact hsz) rfl (hb hby d) hf (W := W) (by show 2 * 0 + _ ≤ _; simpa using hW) hl
  exact ⟨T', _, _, ⟨e', rfl⟩, X', N, st⟩
theorem own_ret0 (d : decode cod pc = .ok (.return_, 1)) (hrt : rt = none) (hc : cells ≤ R.cells) (hs : slots ≤ R.slots) (hQ : Q none h) : own_V l Z n0 R own nm cod mxl rt Q h cells slots pc L [] := by
  intro p e s m args below meth c T locs hx hZ hby hml hown hret hnm hlk X eT N
  obtain ⟨fs, hr, hrun, hended, hW, hsame⟩ := X.leave (v := none) (fun _ => rfl) hlk
  refine ⟨_, _, X.returnOut hx (hret.trans hrt) (hb hby d) hr, hrun, hended, _, _, rfl, ⟨?_, N⟩, ⟨_, rfl⟩, hW, hsame.mono hc hs⟩
  show Q none T.heap
  rw [eT]; exact hQ
theorem own_retV {v : Value} {t : FieldType} {i : Instr} (d : decode cod pc = .ok (i, 1)) (hrt : rt = some t) (hn : narrow t v = v)
    (hi : (i = .ireturn ∧ (t = .int ∨ t = .boolean ∨ t = .byte ∨ t = .char ∨ t = .short) ∧ ∃ z, v = .int z) ∨ (i = .lreturn ∧ t = .long ∧ ∃ z, v = .long z) ∨ (i = .dreturn ∧ t = .double ∧ ∃ z, v = .double z) ∨ (i = .freturn ∧ t = .float ∧ ∃ z, v = .float z) ∨ (i = .areturn ∧ t.isReference = true ∧ v.isRef = true))
    (hc : cells ≤ R.cells) (hs : slots ≤ R.slots) (hQ : Q (some v) h) : own_V l Z n0 R own nm cod mxl rt Q h cells slots pc L (v :: S) := by
  intro p e s m args below meth c T locs hx hZ hby hml hown hret hnm hlk X eT N
  obtain ⟨fs, hr, hrun, hended, hW, hsame⟩ := X.leave (v := some v) (fun q => by rw [hret, hrt] at q; cases q) hlk
  refine ⟨_, _, retOut X hx (hret.trans hrt) hn hi (hb hby d) hr, hrun, hended, _, _, rfl, ⟨?_, N⟩, ⟨_, rfl⟩, hW, hsame.mono hc hs⟩
  show Q (some v) T.heap
  rw [eT]; exact hQ
theorem own_retI {x : Int32} (d : own_D cod pc (.ireturn) 1 pc') (hrt : rt = some .int) (hc : cells ≤ R.cells) (hs : slots ≤ R.slots) (hQ : Q (some (.int x)) h) : own_V l Z n0 R own nm cod mxl rt Q h cells slots pc L (.int x :: S) :=
  own_retV d.1 hrt rfl (Or.inl ⟨rfl, Or.inl rfl, _, rfl⟩) hc hs hQ
theorem own_retJ {x : Int64} (d : own_D cod pc (.lreturn) 1 pc') (hrt : rt = some .long) (hc : cells ≤ R.cells) (hs : slots ≤ R.slots) (hQ : Q (some (.long x)) h) : own_V l Z n0 R own nm cod mxl rt Q h cells slots pc L (.long x :: S) :=
  own_retV d.1 hrt rfl (Or.inr (Or.inl ⟨rfl, rfl, _, rfl⟩)) hc hs hQ
theorem own_retA {v : Value} {t : FieldType} (d : own_D cod pc (.areturn) 1 pc') (hrt : rt = some t) (ht : t.isReference = true) (hv : v.isRef = true) (hc : cells ≤ R.cells) (hs : slots ≤ R.slots) (hQ : Q (some v) h) : own_V l Z n0 R own nm cod mxl rt Q h cells slots pc L (v :: S) :=
  own_retV d.1 hrt (by rcases ref_cases hv with rfl | ⟨b, rfl⟩ <;> cases t <;> first | rfl | cases ht) (Or.inr (Or.inr (Or.inr (Or.inr ⟨rfl, ht, hv⟩)))) hc hs hQ
theorem own_retN {x : Int32} {t : FieldType} (d : own_D cod pc (.ireturn) 1 pc') (hrt : rt = some t) (ht : t = .boolean ∨ t = .byte ∨ t = .char ∨ t = .short) (hc : cells ≤ R.cells) (hs : slots ≤ R.slots) (hQ : Q (some (.int (nar t x))) h) : own_V l Z n0 R own nm cod mxl rt Q h cells slots pc L (.int x :: S) := by
  intro p e s m args below meth c T locs hx hZ hby hml hown hret hnm hlk X eT N
  obtain ⟨fs, hr, hrun, hended, hW, hsame⟩ := X.leave (v := some (.int (nar t x))) (fun q => by rw [hret, hrt] at q; cases q) hlk
  refine ⟨_, _, retN X hx (hret.trans hrt) ht (hb hby d.1) hr, hrun, hended, _, _, rfl, ⟨?_, N⟩, ⟨_, rfl⟩, hW, hsame.mono hc hs⟩
  show Q (some (.int (nar t x))) T.heap
  rw [eT]; exact hQ
theorem own_retZ {x : Int32} (d : own_D cod pc (.ireturn) 1 pc') (hrt : rt = some .boolean) (hx01 : x = 0 ∨ x = 1) (hc : cells ≤ R.cells) (hs : slots ≤ R.slots) (hQ : Q (some (.int x)) h) : own_V l Z n0 R own nm cod mxl rt Q h cells slots pc L (.int x :: S) :=
  own_retN d hrt (Or.inl rfl) hc hs (by rcases hx01 with rfl | rfl <;> exact hQ)
theorem own_met {y : MethodName} {as' : Array Value} {L0 : Array Slot} (hpl : plainFor y = true) (hef : ∀ m, entryFrame m as' mxl = mkF m 0 L0 []) (k : own_V l Z n0 R y.cls y.name cod mxl rt Q h 0 0 0 L0 []) (ws : List Jvm.Cond) :
    MetFree l y (head1 (Jvm.Cond.code y cod mxl rt :: ws) R) (fun a U => a = as' ∧ Z.Warmed39 U.vm ∧ U.heap = h) (fun _ _ _ _ _ => True) (fun _ U o U' => ∃ v L, o = .returned v ∧ (Q v U'.heap ∧ Fr n0 L) ∧ FrameEnd U o U' L R.cells R.slots) := by
  refine MetFree.of_bodySF hpl hisR ?_
  intro p e s m args below meth c s₁ Bd hml0 hP hK
  obtain ⟨rfl, hZ, hh⟩ := hP
  have e0 : s₁.heap = h := by rw [← hh, Bd.state]; rfl
  obtain ⟨s₂, o, h1, r⟩ := k p e s m _ below meth c s₁ [] Bd.exec hZ Bd.bytes hml0 (findClass_of_methodNamed Bd.named) Bd.returns (name_of_methodNamed Bd.named Bd.method).1 (BodyLoose.notSynchronized Bd) (Stand.of_body Bd) e0 (Fr.nil n0)
  exact ⟨s₂, o, castTop (hef m) h1, r⟩
theorem own_callS {index : Nat} {y : MethodName} {cod' : ByteArray} {mxl' : Nat} {rt' : Option FieldType} {R' : Room} {Q' : Option Value → Heap → Prop} {L0 : Array Slot} {argsL rest : List Value} {W cells' slots' : Nat} {ps : List FieldType} {r : Option FieldType}
    (k0 : own_V l Z n0 R' y.cls y.name cod' mxl' rt' Q' h 0 0 0 L0 []) (hef : ∀ m, entryFrame m argsL.toArray mxl' = mkF m 0 L0 []) (hpl : plainFor y = true) (hpd : parseMethodDescriptor y.desc = some ⟨ps, r⟩) (hl : argsL.length = ps.length)
    (d : own_D cod pc (.invokestatic index) 3 pc') (w1 : (Cond.methodLink own index y).before a0 Z = true) (w2 : (Cond.static y).before a0 Z = true) (w3 : (Cond.initialized y.cls).before a0 Z = true) (w4 : (Cond.code y cod' mxl' rt').before a0 Z = true)
    (hy : y.cls ≠ "java/lang/invoke/MethodHandle" ∧ y.cls ≠ "java/lang/invoke/VarHandle") (hS : S = argsL.reverse ++ rest) (hsz : L.size = mxl) (hW : (rest.map fun v => v.category).sum ≤ W)
    (hf : R'.frames + 1 ≤ R.frames) (hlo : W + (mxl' + 11) + R'.locals ≤ R.locals) (hc : cells + R'.cells = cells') (hs : slots + R'.slots = slots') (hc' : cells' ≤ R.cells) (hs' : slots' ≤ R.slots)
    (k : ∀ v h', Q' v h' → own_V l Z n0 R own nm cod mxl rt Q h' cells' slots' pc' L (v.toList ++ rest)) : own_V l Z n0 R own nm cod mxl rt Q h cells slots pc L S := by
  obtain ⟨d, rfl⟩ := d
  subst hc hs
  refine own_stepC (F := fun h' S' => ∃ v, Q' v h' ∧ S' = v.toList ++ rest) (fun {p e s m args below meth c T locs} hx hZ hby hml hown _ X eT N => ?_) (by rintro h' _ ⟨v, q, rfl⟩; exact k v h' q)
  obtain ⟨v, vm1, ⟨T', L1, k1, n1⟩, -, X', ⟨Lc, hQ, l1, y1, z1⟩, st⟩ := Jvm.LawKit.callS X hx (y := y) hown (mvT hZ w1) (mvT hZ w2) (mvT hZ w3) (mvT hZ w4) hy (backOf (W := W) (Q := fun v h L => Q' v h ∧ Fr n0 L) (own_met hpl hef k0 []) hZ w4 w3 hf hlo) (g := mkF m pc L S) rfl (by rw [hml]; exact hsz) (argsL := argsL) (rest := rest) (lenOf hpd hl) hS (by show 2 * 0 + _ ≤ _; simpa using hW) (hb hby d) (fun _ _ => ⟨rfl, eT, hc', hs'⟩)
  dsimp only [Pt.U, Pt.locs, Pt.cells, Pt.slots] at X' l1 y1 z1 st hQ
  subst l1 y1 z1
  exact ⟨T', _, _, ⟨v, hQ.1, rfl⟩, X', Fr.app N hQ.2, st⟩
theorem own_callI {index : Nat} {y : MethodName} {cod' : ByteArray} {mxl' : Nat} {R' : Room} {Q' : Option Value → Heap → Prop} {L0 : Array Slot} {a : Addr} {argsL rest : List Value} {W cells' slots' : Nat} {ps : List FieldType} {r : Option FieldType}
    (k0 : own_V l Z n0 R' y.cls y.name cod' mxl' none Q' h 0 0 0 L0 []) (hef : ∀ m, entryFrame m (.ref a :: argsL).toArray mxl' = mkF m 0 L0 []) (hpl : plainFor y = true) (hpd : parseMethodDescriptor y.desc = some ⟨ps, r⟩) (hl : argsL.length = ps.length) (hyn : y.name = "<init>")
    (d : own_D cod pc (.invokespecial index) 3 pc') (w1 : (Cond.methodLink own index y).before a0 Z = true) (w2 : (Cond.instanceMethod y).before a0 Z = true) (w3 : (Cond.initialized y.cls).before a0 Z = true) (w4 : (Cond.code y cod' mxl' none).before a0 Z = true)
    (hy : y.cls ≠ "java/lang/invoke/MethodHandle" ∧ y.cls ≠ "java/lang/invoke/VarHandle") (hS : S = argsL.reverse ++ .ref a :: rest) (hsz : L.size = mxl) (hW : (rest.map fun v => v.category).sum ≤ W)
    (hf : R'.frames + 1 ≤ R.frames) (hlo : W + (mxl' + 11) + R'.locals ≤ R.locals) (hc : cells + R'.cells = cells') (hs : slots + R'.slots = slots') (hc' : cells' ≤ R.cells) (hs' : slots' ≤ R.slots)
    (k : ∀ v h', Q' v h' → own_V l Z n0 R own nm cod mxl rt Q h' cells' slots' pc' L (v.toList ++ rest)) : own_V l Z n0 R own nm cod mxl rt Q h cells slots pc L S := by
  obtain ⟨d, rfl⟩ := d
  subst hc hs
  refine own_stepC (F := fun h' S' => ∃ v, Q' v h' ∧ S' = v.toList ++ rest) (fun {p e s m args below meth c T locs} hx hZ hby hml hown _ X eT N => ?_) (by rintro h' _ ⟨v, q, rfl⟩; exact k v h' q)
  obtain ⟨v, vm1, ⟨T', L1, k1, n1⟩, -, X', ⟨Lc, hQ, l1, y1, z1⟩, st⟩ := X.specialBack hx (y := y) hyn hown (mvT hZ w1) (mvT hZ w2) (mvT hZ w4) hy (backOf (W := W) (Q := fun v h L => Q' v h ∧ Fr n0 L) (own_met hpl hef k0 []) hZ w4 w3 hf hlo) (g := mkF m pc L S) rfl (by rw [hml]; exact hsz) (Steps.refl _) (a := a) (argsL := argsL) (rest := rest) (lenOf hpd hl) hS (by show 2 * 0 + _ ≤ _; simpa using hW) (hb hby d) (fun _ _ => ⟨rfl, eT, hc', hs'⟩)
  dsimp only [Pt.U, Pt.locs, Pt.cells, Pt.slots] at X' l1 y1 z1 st hQ
  subst l1 y1 z1
  exact ⟨T', _, _, ⟨v, hQ.1, rfl⟩, X', Fr.app N hQ.2, fun _ q => st.trans q⟩
theorem own_callV {index : Nat} {y z : MethodName} {C : String} {cod' : ByteArray} {mxl' : Nat} {rt' : Option FieldType} {R' : Room} {Q' : Option Value → Heap → Prop} {L0 : Array Slot} {a : Addr} {argsL rest : List Value} {W cells' slots' : Nat} {ps : List FieldType} {r : Option FieldType}
    (k0 : own_V l Z n0 R' z.cls z.name cod' mxl' rt' Q' h 0 0 0 L0 []) (hef : ∀ m, entryFrame m (.ref a :: argsL).toArray mxl' = mkF m 0 L0 []) (hpl : plainFor z = true) (hpd : parseMethodDescriptor y.desc = some ⟨ps, r⟩) (hl : argsL.length = ps.length) (E : Exa Z h a C)
    (d : own_D cod pc (.invokevirtual index) 3 pc') (w1 : (Cond.methodLink own index y).before a0 Z = true) (w2 : (Cond.declares y).before a0 Z = true) (hnf : ∀ s : State, Z.Warmed39 s.vm → NotFace s y) (w3 : (Cond.selects C y z).before a0 Z = true) (w4 : (Cond.instanceMethod z).before a0 Z = true) (w5 : (Cond.code z cod' mxl' rt').before a0 Z = true) (w6 : (Cond.initialized z.cls).before a0 Z = true)
    (hy : y.cls ≠ "java/lang/invoke/MethodHandle" ∧ y.cls ≠ "java/lang/invoke/VarHandle") (hS : S = argsL.reverse ++ .ref a :: rest) (hsz : L.size = mxl) (hW : (rest.map fun v => v.category).sum ≤ W)
    (hf : R'.frames + 1 ≤ R.frames) (hlo : W + (mxl' + 11) + R'.locals ≤ R.locals) (hc : cells + R'.cells = cells') (hs : slots + R'.slots = slots') (hc' : cells' ≤ R.cells) (hs' : slots' ≤ R.slots)
    (k : ∀ v h', Q' v h' → own_V l Z n0 R own nm cod mxl rt Q h' cells' slots' pc' L (v.toList ++ rest)) : own_V l Z n0 R own nm cod mxl rt Q h cells slots pc L S := by
  obtain ⟨d, rfl⟩ := d
  subst hc hs
  refine own_stepC (F := fun h' S' => ∃ v, Q' v h' ∧ S' = v.toList ++ rest) (fun {p e s m args below meth c T locs} hx hZ hby hml hown _ X eT N => ?_) (by rintro h' _ ⟨v, q, rfl⟩; exact k v h' q)
  obtain ⟨cq, kq, q1, q2, q3⟩ := isOf hZ eT E
  obtain ⟨v, vm1, ⟨T', L1, k1, n1⟩, -, X', ⟨Lc, hQ, l1, y1, z1⟩, st⟩ := X.virtualBack hx (y := y) (z := z) hown (mvT hZ w1) (mvT hZ w2) (hnf s hZ) (mvT hZ w3) (mvT hZ w4) hy (backOf (W := W) (Q := fun v h L => Q' v h ∧ Fr n0 L) (own_met hpl hef k0 []) hZ w5 w6 hf hlo) q1 q3 (g := mkF m pc L S) rfl (by rw [hml]; exact hsz) (Steps.refl _) (argsL := argsL) (rest := rest) (lenOf hpd hl) hS (by show 2 * 0 + _ ≤ _; simpa using hW) (hb hby d) (fun _ _ => ⟨rfl, eT, hc', hs'⟩)
  dsimp only [Pt.U, Pt.locs, Pt.cells, Pt.slots] at X' l1 y1 z1 st hQ
  subst l1 y1 z1
  exact ⟨T', _, _, ⟨v, hQ.1, rfl⟩, X', Fr.app N hQ.2, fun _ q => st.trans q⟩
/-- the array at a holds just the values vs -/
def own_A (Z : State) (h : Heap) (a : Addr) (ty : FieldType) (vs : List Value) : Prop := ∃ cl : Cell, Arr Z h a cl ty ∧ cl.slots.toList = vs ∧ vs.length < 2 ^ 31
theorem own_A.ext {h' : Heap} {a : Addr} {ty : FieldType} {vs : List Value} (E : Ext h h') (A : own_A Z h a ty vs) : own_A Z h' a ty vs := by obtain ⟨cl, A1, r⟩ := A; exact ⟨cl, A1.ext E, r⟩
theorem own_A.other {h' : Heap} {a b : Addr} {sl : Nat} {v : Value} {ty : FieldType} {vs : List Value} (W : Wr h h' b sl v) (A : own_A Z h a ty vs) (hne : a ≠ b) : own_A Z h' a ty vs := by obtain ⟨cl, A1, r⟩ := A; exact ⟨cl, A1.other W hne, r⟩
theorem own_A.keep {h' : Heap} {a : Addr} {ty : FieldType} {vs : List Value} {ws : List Addr} (A : own_A Z h a ty vs) (K : Keep h h' ws) (hne : a ∉ ws) : own_A Z h' a ty vs := by obtain ⟨cl, A1, r⟩ := A; exact ⟨cl, ⟨K.2.1 _ _ A1.1 hne, A1.2⟩, r⟩
theorem own_A.lt {a : Addr} {ty : FieldType} {vs : List Value} (A : own_A Z h a ty vs) : a < h.size := by obtain ⟨cl, A1, r⟩ := A; exact A1.lt
theorem own_A.set {h' : Heap} {a : Addr} {i : Nat} {v : Value} {ty : FieldType} {vs : List Value} (W : Wr h h' a i v) (A : own_A Z h a ty vs) : own_A Z h' a ty (vs.set i v) := by
  obtain ⟨cl, A1, rfl, r⟩ := A
  exact ⟨_, A1.same W, by simp [Cell.setSlot], by simpa using r⟩
theorem own_nat {j : Int32} {i : Nat} (hj : j.toInt = (i : Int)) : ¬ j < 0 ∧ j.toNatClampNeg = i := by
  rw [Int32.lt_iff_toInt_lt, show (0 : Int32).toInt = 0 from rfl, Int32.toNatClampNeg, hj]; omega
theorem own_A.len {a : Addr} {ty : FieldType} {vs : List Value} (A : own_A Z h a ty vs) : vs.length < 2 ^ 31 := by obtain ⟨_, _, _, r⟩ := A; exact r
theorem own_arrlen {a : Addr} {ty : FieldType} {vs : List Value} {x : Int32} (d : own_D cod pc (.arraylength) 1 pc') (A : own_A Z h a ty vs) (hx : x.toInt = (vs.length : Int)) (k : own_V l Z n0 R own nm cod mxl rt Q h cells slots pc' L (.int x :: S)) : own_V l Z n0 R own nm cod mxl rt Q h cells slots pc L (.ref a :: S) := by
  obtain ⟨d, rfl⟩ := d
  obtain ⟨cl, A1, rfl, r⟩ := A
  have e : cl.slots.size.toInt32 = x := Int32.toInt_inj.mp (by rw [len_toInt (by simpa using r), hx]; simp)
  subst e
  exact own_step (fun hx hZ hby _ X eT _ q => X.arraylength hx (by rw [eT]; exact A1.1) (State.isArrayOf_alike hZ.alike A1.2.1) (g := mkF _ pc L (.ref a :: S)) rfl rfl (hb hby d) _ q) k
theorem own_iaload {a : Addr} {vs : List Value} {j : Int32} {i : Nat} {v : Value} (d : own_D cod pc (.iaload) 1 pc') (A : own_A Z h a .int vs) (hj : j.toInt = (i : Int)) (hv : vs[i]? = some v) (k : own_V l Z n0 R own nm cod mxl rt Q h cells slots pc' L (v :: S)) : own_V l Z n0 R own nm cod mxl rt Q h cells slots pc L (.int j :: .ref a :: S) := by
  obtain ⟨d, rfl⟩ := d
  obtain ⟨cl, A1, rfl, r⟩ := A
  obtain ⟨q1, rfl⟩ := own_nat hj
  have hv' : cl.slots[j.toNatClampNeg]? = some v := by simpa using hv
  have hin : ¬ (j < 0 ∨ cl.slots.size ≤ j.toNatClampNeg) := fun q => q.elim q1 fun q => by have := (Array.getElem?_eq_some_iff.mp hv').1; omega
  exact own_step (fun hx hZ hby _ X eT _ q => X.iaload hx (j := j) (v := v) (by rw [eT]; exact A1.1) (State.isArrayOf_alike hZ.alike A1.2.1) A1.2.2 hin hv' (g := mkF _ pc L (.int j :: .ref a :: S)) rfl rfl (hb hby d) _ q) k
theorem own_laload {a : Addr} {vs : List Value} {j : Int32} {i : Nat} {v : Value} (d : own_D cod pc (.laload) 1 pc') (A : own_A Z h a .long vs) (hj : j.toInt = (i : Int)) (hv : vs[i]? = some v) (k : own_V l Z n0 R own nm cod mxl rt Q h cells slots pc' L (v :: S)) : own_V l Z n0 R own nm cod mxl rt Q h cells slots pc L (.int j :: .ref a :: S) := by
  obtain ⟨d, rfl⟩ := d
  obtain ⟨cl, A1, rfl, r⟩ := A
  obtain ⟨q1, rfl⟩ := own_nat hj
  have hv' : cl.slots[j.toNatClampNeg]? = some v := by simpa using hv
  have hin : ¬ (j < 0 ∨ cl.slots.size ≤ j.toNatClampNeg) := fun q => q.elim q1 fun q => by have := (Array.getElem?_eq_some_iff.mp hv').1; omega
  exact own_step (fun hx hZ hby _ X eT _ q => X.laload hx (j := j) (v := v) (by rw [eT]; exact A1.1) (State.isArrayOf_alike hZ.alike A1.2.1) A1.2.2 hin hv' (g := mkF _ pc L (.int j :: .ref a :: S)) rfl rfl (hb hby d) _ q) k
theorem own_caload {a : Addr} {vs : List Value} {j : Int32} {i : Nat} {v : Value} (d : own_D cod pc (.caload) 1 pc') (A : own_A Z h a .char vs) (hj : j.toInt = (i : Int)) (hv : vs[i]? = some v) (k : own_V l Z n0 R own nm cod mxl rt Q h cells slots pc' L (v :: S)) : own_V l Z n0 R own nm cod mxl rt Q h cells slots pc L (.int j :: .ref a :: S) := by
  obtain ⟨d, rfl⟩ := d
  obtain ⟨cl, A1, rfl, r⟩ := A
  obtain ⟨q1, rfl⟩ := own_nat hj
  have hv' : cl.slots[j.toNatClampNeg]? = some v := by simpa using hv
  have hin : ¬ (j < 0 ∨ cl.slots.size ≤ j.toNatClampNeg) := fun q => q.elim q1 fun q => by have := (Array.getElem?_eq_some_iff.mp hv').1; omega
  exact own_step (fun hx hZ hby _ X eT _ q => X.caload hx (j := j) (v := v) (by rw [eT]; exact A1.1) (State.isArrayOf_alike hZ.alike A1.2.1) A1.2.2 hin hv' (g := mkF _ pc L (.int j :: .ref a :: S)) rfl rfl (hb hby d) _ q) k
theorem own_baload {a : Addr} {vs : List Value} {j : Int32} {i : Nat} {v : Value} (d : own_D cod pc (.baload) 1 pc') (A : own_A Z h a .byte vs) (hj : j.toInt = (i : Int)) (hv : vs[i]? = some v) (k : own_V l Z n0 R own nm cod mxl rt Q h cells slots pc' L (v :: S)) : own_V l Z n0 R own nm cod mxl rt Q h cells slots pc L (.int j :: .ref a :: S) := by
  obtain ⟨d, rfl⟩ := d
  obtain ⟨cl, A1, rfl, r⟩ := A
  obtain ⟨q1, rfl⟩ := own_nat hj
  have hv' : cl.slots[j.toNatClampNeg]? = some v := by simpa using hv
  have hin : ¬ (j < 0 ∨ cl.slots.size ≤ j.toNatClampNeg) := fun q => q.elim q1 fun q => by have := (Array.getElem?_eq_some_iff.mp hv').1; omega
  exact own_step (fun hx hZ hby _ X eT _ q => X.baloadBytes hx (j := j) (v := v) (by rw [eT]; exact A1.1) (State.isArrayOf_alike hZ.alike A1.2.1) A1.2.2 hin hv' (g := mkF _ pc L (.int j :: .ref a :: S)) rfl rfl (hb hby d) _ q) k
theorem own_aaload {a : Addr} {ty : FieldType} {vs : List Value} {j : Int32} {i : Nat} {v : Value} (d : own_D cod pc (.aaload) 1 pc') (A : own_A Z h a ty vs) (hty : ty.isReference = true) (hj : j.toInt = (i : Int)) (hv : vs[i]? = some v) (k : own_V l Z n0 R own nm cod mxl rt Q h cells slots pc' L (v :: S)) : own_V l Z n0 R own nm cod mxl rt Q h cells slots pc L (.int j :: .ref a :: S) := by
  obtain ⟨d, rfl⟩ := d
  obtain ⟨cl, A1, rfl, r⟩ := A
  obtain ⟨q1, rfl⟩ := own_nat hj
  have hv' : cl.slots[j.toNatClampNeg]? = some v := by simpa using hv
  have hin : ¬ (j < 0 ∨ cl.slots.size ≤ j.toNatClampNeg) := fun q => q.elim q1 fun q => by have := (Array.getElem?_eq_some_iff.mp hv').1; omega
  exact own_step (fun hx hZ hby _ X eT _ q => X.aaload hx (j := j) (v := v) (by rw [eT]; exact A1.1) (State.isArrayOf_alike hZ.alike A1.2.1) hty A1.2.2 hin hv' (g := mkF _ pc L (.int j :: .ref a :: S)) rfl rfl (hb hby d) _ q) k
theorem own_iastore {a : Addr} {vs : List Value} {j : Int32} {i : Nat} {x : Int32} (d : own_D cod pc (.iastore) 1 pc') (A : own_A Z h a .int vs) (hj : j.toInt = (i : Int)) (hi : i < vs.length) (ha : n0 ≤ a)
    (k : ∀ h', Wr h h' a i (.int x) → own_A Z h' a .int (vs.set i (.int x)) → own_V l Z n0 R own nm cod mxl rt Q h' cells slots pc' L S) : own_V l Z n0 R own nm cod mxl rt Q h cells slots pc L (.int x :: .int j :: .ref a :: S) := by
  obtain ⟨d, rfl⟩ := d
  have A0 := A
  obtain ⟨cl, A1, rfl, r⟩ := A
  obtain ⟨q1, rfl⟩ := own_nat hj
  have hin : ¬ (j < 0 ∨ cl.slots.size ≤ j.toNatClampNeg) := fun q => q.elim q1 fun q => by simp at hi; omega
  refine own_stepC (F := fun h' S' => Wr h h' a j.toNatClampNeg (.int x) ∧ S' = S) (fun hx hZ hby _ hown hnm X eT N => ?_) (by rintro h' S' ⟨W, rfl⟩; exact k h' W (own_A.set W A0))
  obtain ⟨T', h', X', e', W', st⟩ := stI X hx hZ eT A1 hin (g := mkF _ pc L (.int x :: .int j :: .ref a :: S)) rfl rfl (hb hby d)
  subst e'
  exact ⟨T', _, _, ⟨W', rfl⟩, X', Fr.snoc X' N ha, st⟩
theorem own_lastore {a : Addr} {vs : List Value} {j : Int32} {i : Nat} {x : Int64} (d : own_D cod pc (.lastore) 1 pc') (A : own_A Z h a .long vs) (hj : j.toInt = (i : Int)) (hi : i < vs.length) (ha : n0 ≤ a)
    (k : ∀ h', Wr h h' a i (.long x) → own_A Z h' a .long (vs.set i (.long x)) → own_V l Z n0 R own nm cod mxl rt Q h' cells slots pc' L S) : own_V l Z n0 R own nm cod mxl rt Q h cells slots pc L (.long x :: .int j :: .ref a :: S) := by
  obtain ⟨d, rfl⟩ := d
  have A0 := A
  obtain ⟨cl, A1, rfl, r⟩ := A
  obtain ⟨q1, rfl⟩ := own_nat hj
  have hin : ¬ (j < 0 ∨ cl.slots.size ≤ j.toNatClampNeg) := fun q => q.elim q1 fun q => by simp at hi; omega
  refine own_stepC (F := fun h' S' => Wr h h' a j.toNatClampNeg (.long x) ∧ S' = S) (fun hx hZ hby _ hown hnm X eT N => ?_) (by rintro h' S' ⟨W, rfl⟩; exact k h' W (own_A.set W A0))
  obtain ⟨T', h', X', e', W', st⟩ := stJ X hx hZ eT A1 hin (g := mkF _ pc L (.long x :: .int j :: .ref a :: S)) rfl rfl (hb hby d)
  subst e'
  exact ⟨T', _, _, ⟨W', rfl⟩, X', Fr.snoc X' N ha, st⟩
theorem own_castore {a : Addr} {vs : List Value} {j : Int32} {i : Nat} {x : Int32} (d : own_D cod pc (.castore) 1 pc') (A : own_A Z h a .char vs) (hj : j.toInt = (i : Int)) (hi : i < vs.length) (ha : n0 ≤ a)
    (k : ∀ h', Wr h h' a i (.int (nar .char x)) → own_A Z h' a .char (vs.set i (.int (nar .char x))) → own_V l Z n0 R own nm cod mxl rt Q h' cells slots pc' L S) : own_V l Z n0 R own nm cod mxl rt Q h cells slots pc L (.int x :: .int j :: .ref a :: S) := by
  obtain ⟨d, rfl⟩ := d
  have A0 := A
  obtain ⟨cl, A1, rfl, r⟩ := A
  obtain ⟨q1, rfl⟩ := own_nat hj
  have hin : ¬ (j < 0 ∨ cl.slots.size ≤ j.toNatClampNeg) := fun q => q.elim q1 fun q => by simp at hi; omega
  refine own_stepC (F := fun h' S' => Wr h h' a j.toNatClampNeg (.int (nar .char x)) ∧ S' = S) (fun hx hZ hby _ hown hnm X eT N => ?_) (by rintro h' S' ⟨W, rfl⟩; exact k h' W (own_A.set W A0))
  obtain ⟨T', h', X', e', W', st⟩ := stC X hx hZ eT A1 hin (g := mkF _ pc L (.int x :: .int j :: .ref a :: S)) rfl rfl (hb hby d)
  subst e'
  exact ⟨T', _, _, ⟨W', rfl⟩, X', Fr.snoc X' N ha, st⟩
theorem own_bastore {a : Addr} {vs : List Value} {j : Int32} {i : Nat} {x : Int32} (d : own_D cod pc (.bastore) 1 pc') (A : own_A Z h a .byte vs) (hj : j.toInt = (i : Int)) (hi : i < vs.length) (ha : n0 ≤ a)
    (k : ∀ h', Wr h h' a i (.int (nar .byte x)) → own_A Z h' a .byte (vs.set i (.int (nar .byte x))) → own_V l Z n0 R own nm cod mxl rt Q h' cells slots pc' L S) : own_V l Z n0 R own nm cod mxl rt Q h cells slots pc L (.int x :: .int j :: .ref a :: S) := by
  obtain ⟨d, rfl⟩ := d
  have A0 := A
  obtain ⟨cl, A1, rfl, r⟩ := A
  obtain ⟨q1, rfl⟩ := own_nat hj
  have hin : ¬ (j < 0 ∨ cl.slots.size ≤ j.toNatClampNeg) := fun q => q.elim q1 fun q => by simp at hi; omega
  refine own_stepC (F := fun h' S' => Wr h h' a j.toNatClampNeg (.int (nar .byte x)) ∧ S' = S) (fun hx hZ hby _ hown hnm X eT N => ?_) (by rintro h' S' ⟨W, rfl⟩; exact k h' W (own_A.set W A0))
  obtain ⟨T', h', X', e', W', st⟩ := stB X hx hZ eT A1 hin (g := mkF _ pc L (.int x :: .int j :: .ref a :: S)) rfl rfl (hb hby d)
  subst e'
  exact ⟨T', _, _, ⟨W', rfl⟩, X', Fr.snoc X' N ha, st⟩
theorem own_newarr {aty : ArrayType} {n : Int32} {i cells' slots' : Nat} (d : own_D cod pc (.newarray aty) 2 pc') (w : (Cond.arrayClass (newarray.typeOf aty)).before a0 Z = true) (hn : n.toInt = (i : Int)) {cap : Nat} (hcap : i ≤ cap) (hcb : cap * 8 ≤ 536870912) (hc : cells + 1 = cells') (hs : slots + cap = slots') (hc' : cells' ≤ R.cells) (hs' : slots' ≤ R.slots)
    (k : ∀ h', Ext h h' → own_A Z h' h.size (newarray.typeOf aty) (List.replicate i (defaultValue (newarray.typeOf aty))) → own_V l Z n0 R own nm cod mxl rt Q h' cells' slots' pc' L (.ref h.size :: S)) : own_V l Z n0 R own nm cod mxl rt Q h cells slots pc L (.int n :: S) := by
  obtain ⟨d, rfl⟩ := d
  subst hc hs
  obtain ⟨q1, rfl⟩ := own_nat hn
  refine own_stepC (F := fun h' S' => (Ext h h' ∧ own_A Z h' h.size (newarray.typeOf aty) (List.replicate n.toNatClampNeg (defaultValue (newarray.typeOf aty)))) ∧ S' = .ref h.size :: S) (fun hx hZ hby _ hown _ X eT N => ?_) (by rintro h' S' ⟨⟨q1, q2⟩, rfl⟩; exact k h' q1 q2)
  obtain ⟨T', h', cA, X', e', E', A', st⟩ := newP X hx hZ w eT (g := mkF _ pc L (.int n :: S)) rfl (hb hby d) rfl q1 hcap hcb hc' hs'
  subst e'
  refine ⟨T', _, _, ⟨⟨E', _, A', by simp [newA], ?_⟩, rfl⟩, X', N, st⟩
  simp; have := (back32 q1).2; omega
theorem own_ord {args : Array Value} {s : State} {C n ds O f dd : String} {a : Addr} {k : Int32} (ev : (Term.static C n ds).eval args s none [] s = some (.ref a)) (ho : (Jvm.Cond.eq (.field (.static C n ds) O f dd) (.int k)).value args s none s [] = some true) : s.fieldOf? a O f dd = some (.int k) := by
  obtain ⟨x, y, h1, h2, hk, -⟩ := cmp_v (Or.inl ho)
  have e1 : y = .int k := Option.some.inj (h2.symm.trans (Term.int_eval k))
  subst e1
  have h3 := h1
  rw [fld_at ev] at h3
  cases x <;> simp [Kin, Value.isRef] at hk
  rename_i z
  have : z = k := by simpa [Jvm.Cond.value, h1, h2] using ho
  rw [h3, this]
theorem own_fne {C n ds : String} {a b : Addr} {v w : Value} (F : Fld Z h a C n ds v) (G : Fld Z h b C n ds w) (hne : v ≠ w) : a ≠ b := by
  rintro rfl
  obtain ⟨c1, cf1, k1, i1, f1, h1, h2, -, -, -, -, h7⟩ := F
  obtain ⟨c2, cf2, k2, i2, f2, g1, g2, -, -, -, -, g7⟩ := G
  cases h1.symm.trans g1
  cases h2.symm.trans g2
  exact hne (Option.some.inj (h7.symm.trans g7))
theorem own_alen {args : Array Value} {s : State} {t : Term} {a : Addr} {cl : Cell} {ty : FieldType} {n : Int32} (ev : t.eval args s none [] s = some (.ref a)) (A : Arr s s.heap a cl ty) (hl : (Jvm.Cond.eq (.length t) (.int n)).value args s none s [] = some true) : (cl.slots.size : Int) = n.toInt ∧ cl.slots.size < 2 ^ 31 := by
  obtain ⟨x, y, h1, h2, -, -⟩ := cmp_v (Or.inl hl)
  have e1 : y = .int n := Option.some.inj (h2.symm.trans (Term.int_eval n))
  subst e1
  have q := h1
  simp only [Term.eval, ev, A.fin (Vm.Alike.refl _), Option.bind_eq_bind, Option.bind_some] at q
  split at q
  · rename_i hlt
    cases q
    have e2 : cl.slots.size.toInt32 = n := by simpa [Jvm.Cond.value, h1, h2] using hl
    exact ⟨by rw [← e2, len_toInt hlt], hlt⟩
  · cases q
theorem own_ael {args : Array Value} {s : State} {t : Term} {a b : Addr} {cl : Cell} {C n ds : String} {j : Int32} (ev : t.eval args s none [] s = some (.ref a)) (hc : s.heap[a]? = some cl) (ev2 : (Term.static C n ds).eval args s none [] s = some (.ref b)) (he : (Jvm.Cond.eq (.elem t (.int j)) (.static C n ds)).value args s none s [] = some true) : cl.slots[j.toNatClampNeg]? = some (.ref b) := by
  obtain ⟨x, y, h1, h2, hk, hk2⟩ := cmp_v (Or.inl he)
  have e1 : y = .ref b := Option.some.inj (h2.symm.trans ev2)
  subst e1
  have e2 := (elem_in h1 ev (Term.int_eval j) hc).2
  have hx : x.isRef = true := by cases x <;> simp [Kin, Value.isRef] at hk hk2 ⊢
  rw [e2, gotT (eq_R h1 h2 hx rfl) he]
theorem own_callU {index : Nat} {y z : MethodName} {C owner : String} {cod' : ByteArray} {mxl' : Nat} {rt' : Option FieldType} {R' : Room} {Q' : Option Value → Heap → Prop} {L0 : Array Slot} {a : Addr} {argsL rest : List Value} {W cells' slots' : Nat} {ps : List FieldType} {r : Option FieldType}
    (k0 : own_V l Z n0 R' z.cls z.name cod' mxl' rt' Q' h 0 0 0 L0 []) (hef : ∀ m, entryFrame m (.ref a :: argsL).toArray mxl' = mkF m 0 L0 []) (hpl : plainFor z = true) (hpd : parseMethodDescriptor y.desc = some ⟨ps, r⟩) (hl : argsL.length = ps.length) (E : Exa Z h a C)
    (d : own_D cod pc (.invokevirtual index) 3 pc') (w1 : (Cond.methodLink own index y).before a0 Z = true) (w2 : (Cond.sameMethod y.cls owner y.name y.desc).before a0 Z = true) (w2' : (Cond.declares ⟨owner, y.name, y.desc⟩).before a0 Z = true) (w3 : (Cond.selects C y z).before a0 Z = true) (w4 : (Cond.instanceMethod z).before a0 Z = true) (w5 : (Cond.code z cod' mxl' rt').before a0 Z = true) (w6 : (Cond.initialized z.cls).before a0 Z = true)
    (hy : owner ≠ "java/lang/invoke/MethodHandle" ∧ owner ≠ "java/lang/invoke/VarHandle") (hS : S = argsL.reverse ++ .ref a :: rest) (hsz : L.size = mxl) (hW : (rest.map fun v => v.category).sum ≤ W)
    (hf : R'.frames + 1 ≤ R.frames) (hlo : W + (mxl' + 11) + R'.locals ≤ R.locals) (hc : cells + R'.cells = cells') (hs : slots + R'.slots = slots') (hc' : cells' ≤ R.cells) (hs' : slots' ≤ R.slots)
    (k : ∀ v h', Q' v h' → own_V l Z n0 R own nm cod mxl rt Q h' cells' slots' pc' L (v.toList ++ rest)) : own_V l Z n0 R own nm cod mxl rt Q h cells slots pc L S := by
  obtain ⟨d, rfl⟩ := d
  subst hc hs
  refine own_stepC (F := fun h' S' => ∃ v, Q' v h' ∧ S' = v.toList ++ rest) (fun {p e s m args below meth c T locs} hx hZ hby hml hown _ X eT N => ?_) (by rintro h' _ ⟨v, q, rfl⟩; exact k v h' q)
  obtain ⟨cq, kq, q1, q2, q3⟩ := isOf hZ eT E
  obtain ⟨v, vm1, ⟨T', L1, k1, n1⟩, -, X', ⟨Lc, hQ, l1, y1, z1⟩, st⟩ := X.virtualBackUp hx (x := y) (y := z) (owner := owner) hown (mvT hZ w1) (mvT hZ w2) (mvT hZ w2') hy (mvT hZ w3) (mvT hZ w4) (backOf (W := W) (Q := fun v h L => Q' v h ∧ Fr n0 L) (own_met hpl hef k0 []) hZ w5 w6 hf hlo) q1 q3 (g := mkF m pc L S) rfl (by rw [hml]; exact hsz) (Steps.refl _) (argsL := argsL) (rest := rest) (lenOf hpd hl) hS (by show 2 * 0 + _ ≤ _; simpa using hW) (hb hby d) (fun _ _ => ⟨rfl, eT, hc', hs'⟩)
  dsimp only [Pt.U, Pt.locs, Pt.cells, Pt.slots] at X' l1 y1 z1 st hQ
  subst l1 y1 z1
  exact ⟨T', _, _, ⟨v, hQ.1, rfl⟩, X', Fr.app N hQ.2, fun _ q => st.trans q⟩
/-- an array of references of the class C -/
def own_R (Z : State) (h : Heap) (a : Addr) (C : String) (vs : List Value) : Prop := ∃ cl : Cell, Arr Z h a cl (.object C) ∧ Ovr Z cl.cls C ∧ cl.slots.toList = vs ∧ vs.length < 2 ^ 31
theorem own_R.A {a : Addr} {C : String} {vs : List Value} (A : own_R Z h a C vs) : own_A Z h a (.object C) vs := by obtain ⟨cl, A1, _, r⟩ := A; exact ⟨cl, A1, r⟩
theorem own_R.ext {h' : Heap} {a : Addr} {C : String} {vs : List Value} (E : Ext h h') (A : own_R Z h a C vs) : own_R Z h' a C vs := by obtain ⟨cl, A1, r⟩ := A; exact ⟨cl, A1.ext E, r⟩
theorem own_R.other {h' : Heap} {a b : Addr} {sl : Nat} {v : Value} {C : String} {vs : List Value} (W : Wr h h' b sl v) (A : own_R Z h a C vs) (hne : a ≠ b) : own_R Z h' a C vs := by obtain ⟨cl, A1, r⟩ := A; exact ⟨cl, A1.other W hne, r⟩
theorem own_R.keep {h' : Heap} {a : Addr} {C : String} {vs : List Value} {ws : List Addr} (A : own_R Z h a C vs) (K : Keep h h' ws) (hne : a ∉ ws) : own_R Z h' a C vs := by obtain ⟨cl, A1, r⟩ := A; exact ⟨cl, ⟨K.2.1 _ _ A1.1 hne, A1.2⟩, r⟩
theorem own_R.lt {a : Addr} {C : String} {vs : List Value} (A : own_R Z h a C vs) : a < h.size := by obtain ⟨cl, A1, r⟩ := A; exact A1.lt
theorem own_R.set {h' : Heap} {a : Addr} {i : Nat} {v : Value} {C : String} {vs : List Value} (W : Wr h h' a i v) (A : own_R Z h a C vs) : own_R Z h' a C (vs.set i v) := by
  obtain ⟨cl, A1, o, rfl, r⟩ := A
  exact ⟨_, A1.same W, o, by simp [Cell.setSlot], by simpa using r⟩
theorem own_newref {i : Nat} {C : String} {n : Int32} {j cells' slots' : Nat} (d : own_D cod pc (.anewarray i) 3 pc') (w1 : (Cond.classLink own i C).before a0 Z = true) (w2 : (Cond.arrayOver (.object C)).before a0 Z = true) (hn : n.toInt = (j : Int)) {cap : Nat} (hcap : j ≤ cap) (hcb : cap * 8 ≤ 536870912) (hc : cells + 1 = cells') (hs : slots + cap = slots') (hc' : cells' ≤ R.cells) (hs' : slots' ≤ R.slots)
    (k : ∀ h', Ext h h' → own_R Z h' h.size C (List.replicate j .null) → own_V l Z n0 R own nm cod mxl rt Q h' cells' slots' pc' L (.ref h.size :: S)) : own_V l Z n0 R own nm cod mxl rt Q h cells slots pc L (.int n :: S) := by
  obtain ⟨d, rfl⟩ := d
  subst hc hs
  obtain ⟨q1, rfl⟩ := own_nat hn
  refine own_stepC (F := fun h' S' => (Ext h h' ∧ own_R Z h' h.size C (List.replicate n.toNatClampNeg .null)) ∧ S' = .ref h.size :: S) (fun hx hZ hby _ hown _ X eT N => ?_) (by rintro h' S' ⟨⟨q1, q2⟩, rfl⟩; exact k h' q1 q2)
  obtain ⟨T', h', cA, X', e', E', A', O', st⟩ := newR X hx hZ hown w1 w2 eT (g := mkF _ pc L (.int n :: S)) rfl (hb hby d) rfl q1 hcap hcb hc' hs'
  subst e'
  refine ⟨T', _, _, ⟨⟨E', _, A', O', by simp [newA, defaultValue], ?_⟩, rfl⟩, X', N, st⟩
  simp; have := (back32 q1).2; omega
theorem own_aastore {a : Addr} {C : String} {vs : List Value} {j : Int32} {i : Nat} {v : Value} (d : own_D cod pc (.aastore) 1 pc') (A : own_R Z h a C vs) (hj : j.toInt = (i : Int)) (hi : i < vs.length) (hv : v = .null ∨ ∃ y, v = .ref y ∧ Ins Z h y C true) (ha : n0 ≤ a)
    (k : ∀ h', Wr h h' a i v → own_R Z h' a C (vs.set i v) → own_V l Z n0 R own nm cod mxl rt Q h' cells slots pc' L S) : own_V l Z n0 R own nm cod mxl rt Q h cells slots pc L (v :: .int j :: .ref a :: S) := by
  obtain ⟨d, rfl⟩ := d
  have A0 := A
  obtain ⟨cl, A1, O1, rfl, r⟩ := A
  obtain ⟨q1, rfl⟩ := own_nat hj
  have hin : ¬ (j < 0 ∨ cl.slots.size ≤ j.toNatClampNeg) := fun q => q.elim q1 fun q => by simp at hi; omega
  have F : Sto Z h a v := by
    rcases hv with rfl | ⟨y, rfl, I⟩
    · exact Or.inl rfl
    · exact Sto.of A1 O1 I
  refine own_stepC (F := fun h' S' => Wr h h' a j.toNatClampNeg v ∧ S' = S) (fun hx hZ hby _ hown hnm X eT N => ?_) (by rintro h' S' ⟨W, rfl⟩; exact k h' W (own_R.set W A0))
  obtain ⟨T', h', X', e', W', st⟩ := stR X hx hZ eT A1 hin rfl F (g := mkF _ pc L (v :: .int j :: .ref a :: S)) rfl rfl (hb hby d)
  subst e'
  exact ⟨T', _, _, ⟨W', rfl⟩, X', Fr.snoc X' N ha, st⟩
theorem own_tsw {df lo hi o : Int} {offs : Array Int} {n t : Nat} {x : Int32} (d : own_D cod pc (.tableswitch df lo hi offs) n pc') (hin : lo ≤ x.toInt ∧ x.toInt ≤ hi) (ho : offs[(x.toInt - lo).toNat]? = some o) (h1 : 0 ≤ (pc : Int) + o) (h2 : ((pc : Int) + o).toNat = t) (k : own_V l Z n0 R own nm cod mxl rt Q h cells slots t L S) : own_V l Z n0 R own nm cod mxl rt Q h cells slots pc L (.int x :: S) := by
  obtain ⟨d, -⟩ := d
  exact own_step (fun hx _ hby _ X _ _ q => XS.tswIn X.here hx rfl rfl (hb hby d) rfl (by omega) ho h1 h2 q) k
theorem own_catR {v : Value} (q : v.isRef = true) : v.category = 1 := by rcases ref_cases q with rfl | ⟨a, rfl⟩ <;> rfl
theorem own_skeep {h' : Heap} {C n ds : String} {v : Value} (F : Sta Z h C n ds v) (K : Keep h h' []) : Sta Z h' C n ds v := by
  obtain ⟨cf, i, k, f, st, cell, h1, h2, h3, h4, h5, h6, h7⟩ := F
  exact ⟨cf, i, k, f, st, cell, h1, h2, h3, h4, K.2.1 _ _ h5 (by simp), h6, h7⟩
end OwnKit
theorem own_w {Z : State} {a0 : Array Value} (hw : ∀ d ∈ tables_1, d.before a0 Z = true) (i : Nat) {d : Jvm.Cond} (q : tables_1[i]? = some d) : d.before a0 Z = true := hw d (List.mem_of_getElem? q)
theorem d0_0 : own_D code 0 (.iload_n 0) 1 1 := ⟨by decide +kernel, rfl⟩
theorem d0_1 : own_D code 1 (.sipush 1023) 3 4 := ⟨by decide +kernel, rfl⟩
theorem d0_4 : own_D code 4 (.iand) 1 5 := ⟨by decide +kernel, rfl⟩
theorem d0_5 : own_D code 5 (.istore_n 3) 1 6 := ⟨by decide +kernel, rfl⟩
theorem d0_6 : own_D code 6 (.iload_n 3) 1 7 := ⟨by decide +kernel, rfl⟩
theorem d0_7 : own_D code 7 (.invokestatic 7) 3 10 := ⟨by decide +kernel, rfl⟩
theorem d0_10 : own_D code 10 (.astore 4) 2 12 := ⟨by decide +kernel, rfl⟩
theorem d0_12 : own_D code 12 (.aload 4) 2 14 := ⟨by decide +kernel, rfl⟩
theorem d0_14 : own_B code 14 (.ifnull 10) 10 17 24 := ⟨by decide +kernel, rfl, by decide, by decide⟩
theorem d0_17 : own_D code 17 (.aload 4) 2 19 := ⟨by decide +kernel, rfl⟩
theorem d0_19 : own_D code 19 (.arraylength) 1 20 := ⟨by decide +kernel, rfl⟩
theorem d0_20 : own_D code 20 (.iload_n 3) 1 21 := ⟨by decide +kernel, rfl⟩
theorem d0_21 : own_B code 21 (.if_icmp .eq 5) 5 24 26 := ⟨by decide +kernel, rfl, by decide, by decide⟩
theorem d0_26 : own_D code 26 (.iload_n 3) 1 27 := ⟨by decide +kernel, rfl⟩
theorem d0_27 : own_B code 27 (.ifCond .ne 5) 5 30 32 := ⟨by decide +kernel, rfl, by decide, by decide⟩
theorem d0_30 : own_D code 30 (.iconst 1) 1 31 := ⟨by decide +kernel, rfl⟩
theorem d0_31 : own_D code 31 (.ireturn) 1 32 := ⟨by decide +kernel, rfl⟩
theorem d0_32 : own_D code 32 (.iload_n 1) 1 33 := ⟨by decide +kernel, rfl⟩
theorem d0_33 : own_D code 33 (.ldc 13) 2 35 := ⟨by decide +kernel, rfl⟩
theorem d0_35 : own_D code 35 (.iand) 1 36 := ⟨by decide +kernel, rfl⟩
theorem d0_36 : own_D code 36 (.iload_n 3) 1 37 := ⟨by decide +kernel, rfl⟩
theorem d0_37 : own_D code 37 (.irem) 1 38 := ⟨by decide +kernel, rfl⟩
theorem d0_38 : own_D code 38 (.istore 5) 2 40 := ⟨by decide +kernel, rfl⟩
theorem d0_40 : own_D code 40 (.iload_n 2) 1 41 := ⟨by decide +kernel, rfl⟩
theorem d0_41 : own_D code 41 (.ldc 13) 2 43 := ⟨by decide +kernel, rfl⟩
theorem d0_43 : own_D code 43 (.iand) 1 44 := ⟨by decide +kernel, rfl⟩
theorem d0_44 : own_D code 44 (.iload_n 3) 1 45 := ⟨by decide +kernel, rfl⟩
theorem d0_45 : own_D code 45 (.irem) 1 46 := ⟨by decide +kernel, rfl⟩
theorem d0_46 : own_D code 46 (.istore 6) 2 48 := ⟨by decide +kernel, rfl⟩
theorem d0_48 : own_D code 48 (.aload 4) 2 50 := ⟨by decide +kernel, rfl⟩
theorem d0_50 : own_D code 50 (.iload 5) 2 52 := ⟨by decide +kernel, rfl⟩
theorem d0_52 : own_D code 52 (.baload) 1 53 := ⟨by decide +kernel, rfl⟩
theorem d0_53 : own_D code 53 (.iload 5) 2 55 := ⟨by decide +kernel, rfl⟩
theorem d0_55 : own_D code 55 (.invokestatic 14) 3 58 := ⟨by decide +kernel, rfl⟩
theorem d0_58 : own_B code 58 (.if_icmp .ne 44) 44 61 102 := ⟨by decide +kernel, rfl, by decide, by decide⟩
theorem d0_61 : own_D code 61 (.aload 4) 2 63 := ⟨by decide +kernel, rfl⟩
theorem d0_63 : own_D code 63 (.iload 6) 2 65 := ⟨by decide +kernel, rfl⟩
theorem d0_65 : own_D code 65 (.baload) 1 66 := ⟨by decide +kernel, rfl⟩
theorem d0_66 : own_D code 66 (.iload 6) 2 68 := ⟨by decide +kernel, rfl⟩
theorem d0_68 : own_D code 68 (.invokestatic 14) 3 71 := ⟨by decide +kernel, rfl⟩
theorem d0_71 : own_B code 71 (.if_icmp .ne 31) 31 74 102 := ⟨by decide +kernel, rfl, by decide, by decide⟩
theorem d0_74 : own_D code 74 (.aload 4) 2 76 := ⟨by decide +kernel, rfl⟩
theorem d0_76 : own_D code 76 (.iload_n 3) 1 77 := ⟨by decide +kernel, rfl⟩
theorem d0_77 : own_D code 77 (.iconst 1) 1 78 := ⟨by decide +kernel, rfl⟩
theorem d0_78 : own_D code 78 (.isub) 1 79 := ⟨by decide +kernel, rfl⟩
theorem d0_79 : own_D code 79 (.baload) 1 80 := ⟨by decide +kernel, rfl⟩
theorem d0_80 : own_D code 80 (.iload_n 3) 1 81 := ⟨by decide +kernel, rfl⟩
theorem d0_81 : own_D code 81 (.iconst 1) 1 82 := ⟨by decide +kernel, rfl⟩
theorem d0_82 : own_D code 82 (.isub) 1 83 := ⟨by decide +kernel, rfl⟩
theorem d0_83 : own_D code 83 (.invokestatic 14) 3 86 := ⟨by decide +kernel, rfl⟩
theorem d0_86 : own_B code 86 (.if_icmp .ne 16) 16 89 102 := ⟨by decide +kernel, rfl, by decide, by decide⟩
theorem d0_89 : own_D code 89 (.aload 4) 2 91 := ⟨by decide +kernel, rfl⟩
theorem d0_91 : own_D code 91 (.iconst 0) 1 92 := ⟨by decide +kernel, rfl⟩
theorem d0_92 : own_D code 92 (.baload) 1 93 := ⟨by decide +kernel, rfl⟩
theorem d0_93 : own_D code 93 (.bipush 65) 2 95 := ⟨by decide +kernel, rfl⟩
theorem d0_95 : own_B code 95 (.if_icmp .ne 7) 7 98 102 := ⟨by decide +kernel, rfl, by decide, by decide⟩
theorem d0_98 : own_D code 98 (.iconst 1) 1 99 := ⟨by decide +kernel, rfl⟩
theorem d0_99 : own_B code 99 (.goto 4) 4 102 103 := ⟨by decide +kernel, rfl, by decide, by decide⟩
theorem d0_103 : own_D code 103 (.ireturn) 1 104 := ⟨by decide +kernel, rfl⟩
theorem d1_0 : own_D prog_6_method_2_code 0 (.iload_n 0) 1 1 := ⟨by decide +kernel, rfl⟩
theorem d1_1 : own_D prog_6_method_2_code 1 (.newarray .byte) 2 3 := ⟨by decide +kernel, rfl⟩
theorem d1_3 : own_D prog_6_method_2_code 3 (.astore_n 1) 1 4 := ⟨by decide +kernel, rfl⟩
theorem d1_4 : own_D prog_6_method_2_code 4 (.iconst 0) 1 5 := ⟨by decide +kernel, rfl⟩
theorem d1_5 : own_D prog_6_method_2_code 5 (.istore_n 2) 1 6 := ⟨by decide +kernel, rfl⟩
theorem d1_6 : own_D prog_6_method_2_code 6 (.iload_n 2) 1 7 := ⟨by decide +kernel, rfl⟩
theorem d1_7 : own_D prog_6_method_2_code 7 (.iload_n 0) 1 8 := ⟨by decide +kernel, rfl⟩
theorem d1_8 : own_B prog_6_method_2_code 8 (.if_icmp .ge 22) 22 11 30 := ⟨by decide +kernel, rfl, by decide, by decide⟩
theorem d1_11 : own_D prog_6_method_2_code 11 (.aload_n 1) 1 12 := ⟨by decide +kernel, rfl⟩
theorem d1_12 : own_D prog_6_method_2_code 12 (.iload_n 2) 1 13 := ⟨by decide +kernel, rfl⟩
theorem d1_13 : own_D prog_6_method_2_code 13 (.getstatic 7) 3 16 := ⟨by decide +kernel, rfl⟩
theorem d1_16 : own_D prog_6_method_2_code 16 (.iload_n 2) 1 17 := ⟨by decide +kernel, rfl⟩
theorem d1_17 : own_D prog_6_method_2_code 17 (.getstatic 7) 3 20 := ⟨by decide +kernel, rfl⟩
theorem d1_20 : own_D prog_6_method_2_code 20 (.arraylength) 1 21 := ⟨by decide +kernel, rfl⟩
theorem d1_21 : own_D prog_6_method_2_code 21 (.irem) 1 22 := ⟨by decide +kernel, rfl⟩
theorem d1_22 : own_D prog_6_method_2_code 22 (.baload) 1 23 := ⟨by decide +kernel, rfl⟩
theorem d1_23 : own_D prog_6_method_2_code 23 (.bastore) 1 24 := ⟨by decide +kernel, rfl⟩
theorem d1_24 : own_D prog_6_method_2_code 24 (.iinc 2 1) 3 27 := ⟨by decide +kernel, rfl⟩
theorem d1_27 : own_B prog_6_method_2_code 27 (.goto (-21)) (-21) 30 6 := ⟨by decide +kernel, rfl, by decide, by decide⟩
theorem d1_30 : own_D prog_6_method_2_code 30 (.aload_n 1) 1 31 := ⟨by decide +kernel, rfl⟩
theorem d1_31 : own_D prog_6_method_2_code 31 (.areturn) 1 32 := ⟨by decide +kernel, rfl⟩
theorem d2_0 : own_D method_3_code 0 (.iload_n 0) 1 1 := ⟨by decide +kernel, rfl⟩
theorem d2_1 : own_D method_3_code 1 (.bipush 62) 2 3 := ⟨by decide +kernel, rfl⟩
theorem d2_3 : own_D method_3_code 3 (.irem) 1 4 := ⟨by decide +kernel, rfl⟩
theorem d2_4 : own_D method_3_code 4 (.istore_n 1) 1 5 := ⟨by decide +kernel, rfl⟩
theorem d2_5 : own_D method_3_code 5 (.iload_n 1) 1 6 := ⟨by decide +kernel, rfl⟩
theorem d2_6 : own_D method_3_code 6 (.bipush 26) 2 8 := ⟨by decide +kernel, rfl⟩
theorem d2_8 : own_B method_3_code 8 (.if_icmp .ge 11) 11 11 19 := ⟨by decide +kernel, rfl, by decide, by decide⟩
theorem d2_11 : own_D method_3_code 11 (.bipush 65) 2 13 := ⟨by decide +kernel, rfl⟩
theorem d2_13 : own_D method_3_code 13 (.iload_n 1) 1 14 := ⟨by decide +kernel, rfl⟩
theorem d2_14 : own_D method_3_code 14 (.iadd) 1 15 := ⟨by decide +kernel, rfl⟩
theorem d2_15 : own_D method_3_code 15 (.istore_n 2) 1 16 := ⟨by decide +kernel, rfl⟩
theorem d2_16 : own_B method_3_code 16 (.goto 28) 28 19 44 := ⟨by decide +kernel, rfl, by decide, by decide⟩
theorem d2_19 : own_D method_3_code 19 (.iload_n 1) 1 20 := ⟨by decide +kernel, rfl⟩
theorem d2_20 : own_D method_3_code 20 (.bipush 52) 2 22 := ⟨by decide +kernel, rfl⟩
theorem d2_22 : own_B method_3_code 22 (.if_icmp .ge 14) 14 25 36 := ⟨by decide +kernel, rfl, by decide, by decide⟩
theorem d2_25 : own_D method_3_code 25 (.bipush 97) 2 27 := ⟨by decide +kernel, rfl⟩
theorem d2_27 : own_D method_3_code 27 (.iload_n 1) 1 28 := ⟨by decide +kernel, rfl⟩
theorem d2_28 : own_D method_3_code 28 (.bipush 26) 2 30 := ⟨by decide +kernel, rfl⟩
theorem d2_30 : own_D method_3_code 30 (.isub) 1 31 := ⟨by decide +kernel, rfl⟩
theorem d2_31 : own_D method_3_code 31 (.iadd) 1 32 := ⟨by decide +kernel, rfl⟩
theorem d2_32 : own_D method_3_code 32 (.istore_n 2) 1 33 := ⟨by decide +kernel, rfl⟩
theorem d2_33 : own_B method_3_code 33 (.goto 11) 11 36 44 := ⟨by decide +kernel, rfl, by decide, by decide⟩
theorem d2_36 : own_D method_3_code 36 (.bipush 48) 2 38 := ⟨by decide +kernel, rfl⟩
theorem d2_38 : own_D method_3_code 38 (.iload_n 1) 1 39 := ⟨by decide +kernel, rfl⟩
theorem d2_39 : own_D method_3_code 39 (.bipush 52) 2 41 := ⟨by decide +kernel, rfl⟩
theorem d2_41 : own_D method_3_code 41 (.isub) 1 42 := ⟨by decide +kernel, rfl⟩
theorem d2_42 : own_D method_3_code 42 (.iadd) 1 43 := ⟨by decide +kernel, rfl⟩
theorem d2_43 : own_D method_3_code 43 (.istore_n 2) 1 44 := ⟨by decide +kernel, rfl⟩
theorem d2_44 : own_D method_3_code 44 (.iload_n 2) 1 45 := ⟨by decide +kernel, rfl⟩
theorem d2_45 : own_D method_3_code 45 (.i2b) 1 46 := ⟨by decide +kernel, rfl⟩
theorem d2_46 : own_D method_3_code 46 (.ireturn) 1 47 := ⟨by decide +kernel, rfl⟩
theorem own_pd1 : parseMethodDescriptor "(I)[B" = some ⟨[.int], some (.array .byte)⟩ := by decide +kernel
theorem own_pd2 : parseMethodDescriptor "(I)B" = some ⟨[.int], some .byte⟩ := by decide +kernel
theorem own_pl0 : plainFor (⟨"com/example/tiro/tiro/BenchBodyPinLaw", "law", "(III)Z"⟩ : MethodName) = true := plainFor_of_name (by first | (simp [plainName, overriddenIn]; done) | decide +kernel)
theorem own_pl1 : plainFor (⟨"com/example/tiro/tiro/Bench", "body", "(I)[B"⟩ : MethodName) = true := plainFor_of_name (by first | (simp [plainName, overriddenIn]; done) | decide +kernel)
theorem own_pl2 : plainFor (⟨"com/example/tiro/tiro/BenchBodyPinLaw", "expected", "(I)B"⟩ : MethodName) = true := plainFor_of_name (by first | (simp [plainName, overriddenIn]; done) | decide +kernel)
def own_by (k : Nat) : Int32 := if k < 26 then Int32.ofNat (65 + k) else if k < 52 then Int32.ofNat (71 + k) else Int32.ofNat (k - 4)
theorem own_nar : ∀ i : Fin 62, nar .byte (own_by i.1) = own_by i.1 := by decide +kernel
theorem own_byI : ∀ i : Fin 62, (own_by i.1).toInt = if i.1 < 26 then ((65 + i.1 : Nat) : Int) else if i.1 < 52 then ((71 + i.1 : Nat) : Int) else ((i.1 - 4 : Nat) : Int) := by decide +kernel
def own_bb : List Value := (List.range 62).map fun i => .int (own_by i)
def own_vals (n i : Nat) : List Value := (List.range n).map fun j => if j < i then .int (own_by (j % 62)) else .int 0
theorem own_vlen (n i : Nat) : (own_vals n i).length = n := by simp [own_vals]
theorem own_v0 (n : Nat) : List.replicate n (Value.int 0) = own_vals n 0 := by
  apply List.ext_getElem?
  intro j
  by_cases q : j < n <;> simp [own_vals, q]
theorem own_vset {n i : Nat} (hi : i < n) : (own_vals n i).set i (.int (own_by (i % 62))) = own_vals n (i + 1) := by
  apply List.ext_getElem?
  intro j
  by_cases q : j < n
  · by_cases r : i = j
    · subst r; simp [own_vals, q]
    · have e1 : (j < i + 1) = (j < i) := by apply propext; constructor <;> omega
      simp [own_vals, q, List.getElem?_set, r, e1]
  · simp [own_vals, List.getElem?_set, q]
theorem own_vat {n j : Nat} (hj : j < n) : (own_vals n n)[j]? = some (.int (own_by (j % 62))) := by simp [own_vals, hj]
theorem own_bbat {j : Nat} (hj : j < 62) : own_bb[j]? = some (.int (own_by j)) := by simp [own_bb, hj]
theorem own_l62 : (62 : Int32).toInt = 62 := rfl
theorem own_l26 : (26 : Int32).toInt = 26 := rfl
theorem own_l52 : (52 : Int32).toInt = 52 := rfl
theorem own_l65 : (65 : Int32).toInt = 65 := rfl
theorem own_l97 : (97 : Int32).toInt = 97 := rfl
theorem own_l48 : (48 : Int32).toInt = 48 := rfl
theorem own_l0 : (0 : Int32).toInt = 0 := rfl
theorem own_l1 : (1 : Int32).toInt = 1 := rfl
theorem own_nb {x : Int32} {k : Fin 62} (h : x.toInt = (own_by k.1).toInt) : nar .byte x.toInt8.toInt32 = own_by k.1 := by
  have e : x = own_by k.1 := Int32.toInt_inj.mp h
  subst e
  have q := own_nar k
  have q' : (own_by k.1).toInt8.toInt32 = own_by k.1 := q
  rw [q']; exact q
set_option maxRecDepth 65536 in
set_option maxHeartbeats 4000000 in
theorem own_exp {l : Launch} {Z : State} {a0 : Array Value} (hw : ∀ d ∈ tables_1, d.before a0 Z = true) {n0 : Nat} {h : Heap} (k : Int32) (h0 : 0 ≤ k.toInt) :
    own_V l Z n0 ({ frames := 0, cells := 0, slots := 0, locals := 0 } : Room) "com/example/tiro/tiro/BenchBodyPinLaw" "expected" method_3_code 3 (some .byte) (fun v h' => v = some (.int (own_by (k.toInt % 62).toNat)) ∧ h = h') h 0 0 0 #[.val (.int k), .unset, .unset] [] := by
  refine own_iloadN d2_0 rfl ?_
  refine own_bipush (x := 62) d2_1 rfl ?_
  refine own_irem d2_3 (by decide) ?_
  generalize g_r : (k % (62 : Int32)) = r
  have hr := (c_irem k 62 62 rfl).1 h0
  rw [g_r] at hr
  obtain ⟨kk, hkk⟩ : ∃ kk : Fin 62, kk.1 = (k.toInt % 62).toNat := ⟨⟨(k.toInt % 62).toNat, by omega⟩, rfl⟩
  have hv := own_byI kk
  have t26 := own_l26; have t52 := own_l52; have t65 := own_l65; have t97 := own_l97; have t48 := own_l48
  refine own_istoreN (L' := #[.val (.int k), .val (.int r), .unset]) d2_4 rfl ?_
  refine own_iloadN d2_5 rfl ?_
  refine own_bipush (x := 26) d2_6 rfl ?_
  refine own_icmpGe d2_8 (fun h8 => ?_) (fun h8 => ?_)
  · refine own_iloadN d2_19 rfl ?_
    refine own_bipush (x := 52) d2_20 rfl ?_
    refine own_icmpGe d2_22 (fun h22 => ?_) (fun h22 => ?_)
    · refine own_bipush (x := 48) d2_36 rfl ?_
      refine own_iloadN d2_38 rfl ?_
      refine own_bipush (x := 52) d2_39 rfl ?_
      refine own_isub d2_41 ?_
      refine own_iadd d2_42 ?_
      refine own_istoreN (L' := #[.val (.int k), .val (.int r), .val (.int ((48 : Int32) + (r - (52 : Int32))))]) d2_43 rfl ?_
      refine own_iloadN d2_44 rfl ?_
      refine own_i2b d2_45 ?_
      have s0 := c_isub r 52; have s01 := Int32.toInt_lt (r - 52); have s02 := Int32.le_toInt (r - 52); have s1 := c_iadd 48 (r - 52); have s2 := Int32.toInt_lt ((48 : Int32) + (r - (52 : Int32))); have s3 := Int32.le_toInt ((48 : Int32) + (r - (52 : Int32)))
      rw [if_neg (by omega), if_neg (by omega)] at hv
      exact own_retN d2_46 rfl (by simp) (by decide) (by decide) ⟨by rw [own_nb (k := kk) (by omega), hkk], rfl⟩
    · refine own_bipush (x := 97) d2_25 rfl ?_
      refine own_iloadN d2_27 rfl ?_
      refine own_bipush (x := 26) d2_28 rfl ?_
      refine own_isub d2_30 ?_
      refine own_iadd d2_31 ?_
      refine own_istoreN (L' := #[.val (.int k), .val (.int r), .val (.int ((97 : Int32) + (r - (26 : Int32))))]) d2_32 rfl ?_
      refine own_goto d2_33 ?_
      refine own_iloadN d2_44 rfl ?_
      refine own_i2b d2_45 ?_
      have s0 := c_isub r 26; have s01 := Int32.toInt_lt (r - 26); have s02 := Int32.le_toInt (r - 26); have s1 := c_iadd 97 (r - 26); have s2 := Int32.toInt_lt ((97 : Int32) + (r - (26 : Int32))); have s3 := Int32.le_toInt ((97 : Int32) + (r - (26 : Int32)))
      rw [if_neg (by omega), if_pos (by omega)] at hv
      exact own_retN d2_46 rfl (by simp) (by decide) (by decide) ⟨by rw [own_nb (k := kk) (by omega), hkk], rfl⟩
  · refine own_bipush (x := 65) d2_11 rfl ?_
    refine own_iloadN d2_13 rfl ?_
    refine own_iadd d2_14 ?_
    refine own_istoreN (L' := #[.val (.int k), .val (.int r), .val (.int ((65 : Int32) + r))]) d2_15 rfl ?_
    refine own_goto d2_16 ?_
    refine own_iloadN d2_44 rfl ?_
    refine own_i2b d2_45 ?_
    have s1 := c_iadd 65 r; have s2 := Int32.toInt_lt ((65 : Int32) + r); have s3 := Int32.le_toInt ((65 : Int32) + r)
    rw [if_pos (by omega)] at hv
    exact own_retN d2_46 rfl (by simp) (by decide) (by decide) ⟨by rw [own_nb (k := kk) (by omega), hkk], rfl⟩
set_option maxRecDepth 65536 in
set_option maxHeartbeats 4000000 in
theorem own_loop {l : Launch} {Z : State} {a0 : Array Value} (hw : ∀ d ∈ tables_1, d.before a0 Z = true) {n0 : Nat} {N : Nat} (hN : N ≤ 1023) {n : Int32} (en : n.toInt = N) {ba b : Addr} (gb : n0 ≤ b) (hne : ba ≠ b) :
    ∀ (j I : Nat) (i : Int32) (h : Heap), I + j = N → i.toInt = I → Sta Z h "com/example/tiro/tiro/Bench" "BODY_BYTES" "[B" (.ref ba) → own_A Z h ba .byte own_bb → own_A Z h b .byte (own_vals N I) → own_V l Z n0 ({ frames := 0, cells := 1, slots := 1023, locals := 0 } : Room) "com/example/tiro/tiro/Bench" "body" prog_6_method_2_code 3 (some (.array .byte)) (fun v h' => ∃ b : Addr, v = some (.ref b) ∧ own_A Z h' b .byte (own_vals N N)) h 1 1023 6 #[.val (.int n), .val (.ref b), .val (.int i)] [] := by
  intro j
  induction j with
  | zero =>
    intro I i h hI ei S B A
    refine own_iloadN d1_6 rfl ?_
    refine own_iloadN d1_7 rfl ?_
    refine own_icmpGe d1_8 (fun _ => ?_) (fun q => False.elim (by omega))
    refine own_aloadN d1_30 rfl rfl ?_
    have e : I = N := by omega
    subst e
    exact own_retA d1_31 rfl rfl rfl (by decide) (by decide) ⟨b, rfl, A⟩
  | succ j ih =>
    intro I i h hI ei S B A
    refine own_iloadN d1_6 rfl ?_
    refine own_iloadN d1_7 rfl ?_
    refine own_icmpGe d1_8 (fun q => False.elim (by omega)) (fun _ => ?_)
    refine own_aloadN d1_11 rfl rfl ?_
    refine own_iloadN d1_12 rfl ?_
    refine own_getS d1_13 (own_w hw 5 rfl) Via.refl S ?_
    refine own_iloadN d1_16 rfl ?_
    refine own_getS d1_17 (own_w hw 5 rfl) Via.refl S ?_
    refine own_arrlen (x := 62) d1_20 B rfl ?_
    refine own_irem d1_21 (by decide) ?_
    have hr := (c_irem i 62 62 rfl).1 (by omega)
    refine own_baload (i := I % 62) d1_22 B (by omega) (own_bbat (by omega)) ?_
    refine own_bastore (i := I) d1_23 A ei (by rw [own_vlen]; omega) gb (fun h' W A => ?_)
    rw [own_nar ⟨I % 62, by omega⟩, own_vset (by omega)] at A
    have a1 := c_iadd i 1; have a2 := Int32.toInt_lt (i + 1); have a3 := Int32.le_toInt (i + 1)
    rw [own_l1] at a1
    refine own_iinc (L' := #[.val (.int n), .val (.ref b), .val (.int (i + (1 : Int32)))]) (z := 1) d1_24 rfl rfl rfl ?_
    refine own_goto d1_27 ?_
    exact ih (I + 1) (i + 1) h' (by omega) (by omega) (S.wr W) (own_A.other W B hne) A

set_option maxRecDepth 65536 in
set_option maxHeartbeats 4000000 in
theorem own_body {l : Launch} {Z : State} {a0 : Array Value} (hw : ∀ d ∈ tables_1, d.before a0 Z = true) {n0 : Nat} {h : Heap} {N : Nat} (hN : N ≤ 1023) {n : Int32} (en : n.toInt = N) {ba : Addr} (Z0 : n0 ≤ h.size) (S : Sta Z h "com/example/tiro/tiro/Bench" "BODY_BYTES" "[B" (.ref ba)) (B : own_A Z h ba .byte own_bb) :
    own_V l Z n0 ({ frames := 0, cells := 1, slots := 1023, locals := 0 } : Room) "com/example/tiro/tiro/Bench" "body" prog_6_method_2_code 3 (some (.array .byte)) (fun v h' => ∃ b : Addr, v = some (.ref b) ∧ own_A Z h' b .byte (own_vals N N)) h 0 0 0 #[.val (.int n), .unset, .unset] [] := by
  refine own_iloadN d1_0 rfl ?_
  refine own_newarr (a0 := a0) (i := N) (cap := 1023) d1_1 (own_w hw 4 rfl) en hN (by decide) (cells' := 1) (slots' := 1023) rfl rfl (by decide) (by decide) (fun h1 E1 A => ?_)
  obtain ⟨b, gb⟩ : ∃ z, z = h.size := ⟨_, rfl⟩
  rw [← gb] at A ⊢
  have A : own_A Z h1 b .byte (own_vals N 0) := by rw [← own_v0]; exact A
  refine own_astoreN (L' := #[.val (.int n), .val (.ref b), .unset]) d1_3 rfl rfl ?_
  refine own_iconst (x := 0) d1_4 rfl ?_
  refine own_istoreN (L' := #[.val (.int n), .val (.ref b), .val (.int (0 : Int32))]) d1_5 rfl ?_
  exact own_loop hw hN en (by rw [gb]; exact Z0) (by rw [gb]; exact Nat.ne_of_lt B.lt) N 0 0 h1 (by omega) rfl (S.ext E1) (own_A.ext E1 B) A
set_option maxRecDepth 65536 in
set_option maxHeartbeats 4000000 in
theorem own_law {l : Launch} {Z : State} {a0 : Array Value} (hw : ∀ d ∈ tables_1, d.before a0 Z = true) {n0 : Nat} {h : Heap} (x0 x1 x2 : Int32) {ba : Addr} (Z0 : n0 ≤ h.size) (S : Sta Z h "com/example/tiro/tiro/Bench" "BODY_BYTES" "[B" (.ref ba)) (B : own_A Z h ba .byte own_bb) :
    own_V l Z n0 room_1 "com/example/tiro/tiro/BenchBodyPinLaw" "law" code maxLocals ret (fun v _ => v = some (.int 1)) h 0 0 0 #[.val (.int x0), .val (.int x1), .val (.int x2), .unset, .unset, .unset, .unset] [] := by
  refine own_iloadN d0_0 rfl ?_
  refine own_sipush (x := 1023) d0_1 rfl ?_
  refine own_iand d0_4 ?_
  generalize g_n : (x0 &&& (1023 : Int32)) = n
  have hm := c_mask x0 1023 10 (by decide) (by decide)
  rw [g_n] at hm
  obtain ⟨N, hN⟩ : ∃ N : Nat, n.toInt = N := ⟨n.toInt.toNat, by omega⟩
  refine own_istoreN (L' := #[.val (.int x0), .val (.int x1), .val (.int x2), .val (.int n), .unset, .unset, .unset]) d0_5 rfl ?_
  refine own_iloadN d0_6 rfl ?_
  refine own_callS (y := (⟨"com/example/tiro/tiro/Bench", "body", "(I)[B"⟩ : MethodName)) (argsL := [(.int n)]) (rest := []) (W := 0) (cells' := 1) (slots' := 1023) (R' := ({ frames := 0, cells := 1, slots := 1023, locals := 0 } : Room)) (own_body hw (N := N) (by omega) hN Z0 S B) (fun _ => rfl) own_pl1 own_pd1 rfl d0_7 (own_w hw 0 rfl) (own_w hw 1 rfl) (own_w hw 2 rfl) (own_w hw 3 rfl) (by decide) rfl rfl (Nat.le_of_eq rfl) (by decide) (by decide) rfl rfl (by decide) (by decide) ?_
  rintro _ h1 ⟨b, rfl, A⟩
  refine own_astore (L' := #[.val (.int x0), .val (.int x1), .val (.int x2), .val (.int n), .val (.ref b), .unset, .unset]) d0_10 rfl rfl ?_
  refine own_aload d0_12 rfl rfl ?_
  refine own_ifnullR d0_14 ?_
  refine own_aload d0_17 rfl rfl ?_
  refine own_arrlen (x := n) d0_19 A (by rw [own_vlen]; exact hN) ?_
  refine own_iloadN d0_20 rfl ?_
  refine own_icmpEq d0_21 (fun _ => ?_) (fun q => False.elim (by exact q rfl))
  refine own_iloadN d0_26 rfl ?_
  refine own_ifNe d0_27 (fun h27 => ?_) (fun h27 => ?_)
  · refine own_iloadN d0_32 rfl ?_
    refine own_ldcI d0_33 (own_w hw 7 rfl) ?_
    refine own_iand d0_35 ?_
    refine own_iloadN d0_36 rfl ?_
    have hn0 : n ≠ 0 := fun q => h27 (by rw [q]; rfl)
    refine own_irem d0_37 hn0 ?_
    generalize g_k1 : ((x1 &&& (2147483647 : Int32)) % n) = k1
    have m_k1 := c_mask x1 2147483647 31 (by decide) (by decide)
    have r_k1 := (c_irem (x1 &&& 2147483647) n N hN).1 (by omega)
    rw [g_k1] at r_k1
    have b_k1 := Int.emod_nonneg (x1 &&& 2147483647).toInt (show (N : Int) ≠ 0 by omega)
    have c_k1 := Int.emod_lt_of_pos (x1 &&& 2147483647).toInt (show (0 : Int) < N by omega)
    rw [← r_k1] at b_k1 c_k1
    refine own_istore (L' := #[.val (.int x0), .val (.int x1), .val (.int x2), .val (.int n), .val (.ref b), .val (.int k1), .unset]) d0_38 rfl ?_
    refine own_iloadN d0_40 rfl ?_
    refine own_ldcI d0_41 (own_w hw 7 rfl) ?_
    refine own_iand d0_43 ?_
    refine own_iloadN d0_44 rfl ?_
    refine own_irem d0_45 hn0 ?_
    generalize g_k2 : ((x2 &&& (2147483647 : Int32)) % n) = k2
    have m_k2 := c_mask x2 2147483647 31 (by decide) (by decide)
    have r_k2 := (c_irem (x2 &&& 2147483647) n N hN).1 (by omega)
    rw [g_k2] at r_k2
    have b_k2 := Int.emod_nonneg (x2 &&& 2147483647).toInt (show (N : Int) ≠ 0 by omega)
    have c_k2 := Int.emod_lt_of_pos (x2 &&& 2147483647).toInt (show (0 : Int) < N by omega)
    rw [← r_k2] at b_k2 c_k2
    refine own_istore (L' := #[.val (.int x0), .val (.int x1), .val (.int x2), .val (.int n), .val (.ref b), .val (.int k1), .val (.int k2)]) d0_46 rfl ?_
    refine own_aload d0_48 rfl rfl ?_
    refine own_iload d0_50 rfl ?_
    refine own_baload (i := k1.toInt.toNat) d0_52 A (by omega) (own_vat (by omega)) ?_
    refine own_iload d0_53 rfl ?_
    refine own_callS (y := (⟨"com/example/tiro/tiro/BenchBodyPinLaw", "expected", "(I)B"⟩ : MethodName)) (argsL := [(.int k1)]) (rest := [(.int (own_by (k1.toInt.toNat % 62)))]) (W := 1) (cells' := 1) (slots' := 1023) (R' := ({ frames := 0, cells := 0, slots := 0, locals := 0 } : Room)) (own_exp hw k1 (by omega)) (fun _ => rfl) own_pl2 own_pd2 rfl d0_55 (own_w hw 8 rfl) (own_w hw 9 rfl) (own_w hw 10 rfl) (own_w hw 11 rfl) (by decide) rfl rfl (Nat.le_of_eq rfl) (by decide) (by decide) rfl rfl (by decide) (by decide) ?_
    rintro _ _ ⟨rfl, rfl⟩
    rw [show (k1.toInt % 62).toNat = k1.toInt.toNat % 62 by omega]
    refine own_icmpNe d0_58 (fun q => False.elim (by exact q rfl)) (fun _ => ?_)
    refine own_aload d0_61 rfl rfl ?_
    refine own_iload d0_63 rfl ?_
    refine own_baload (i := k2.toInt.toNat) d0_65 A (by omega) (own_vat (by omega)) ?_
    refine own_iload d0_66 rfl ?_
    refine own_callS (y := (⟨"com/example/tiro/tiro/BenchBodyPinLaw", "expected", "(I)B"⟩ : MethodName)) (argsL := [(.int k2)]) (rest := [(.int (own_by (k2.toInt.toNat % 62)))]) (W := 1) (cells' := 1) (slots' := 1023) (R' := ({ frames := 0, cells := 0, slots := 0, locals := 0 } : Room)) (own_exp hw k2 (by omega)) (fun _ => rfl) own_pl2 own_pd2 rfl d0_68 (own_w hw 8 rfl) (own_w hw 9 rfl) (own_w hw 10 rfl) (own_w hw 11 rfl) (by decide) rfl rfl (Nat.le_of_eq rfl) (by decide) (by decide) rfl rfl (by decide) (by decide) ?_
    rintro _ _ ⟨rfl, rfl⟩
    rw [show (k2.toInt % 62).toNat = k2.toInt.toNat % 62 by omega]
    refine own_icmpNe d0_71 (fun q => False.elim (by exact q rfl)) (fun _ => ?_)
    refine own_aload d0_74 rfl rfl ?_
    refine own_iloadN d0_76 rfl ?_
    refine own_iconst (x := 1) d0_77 rfl ?_
    refine own_isub d0_78 ?_
    generalize g_k3 : (n - (1 : Int32)) = k3
    have s1 := c_isub n 1; have s2 := Int32.toInt_lt k3; have s3 := Int32.le_toInt k3
    rw [g_k3, own_l1] at s1
    refine own_baload (i := k3.toInt.toNat) d0_79 A (by omega) (own_vat (by omega)) ?_
    refine own_iloadN d0_80 rfl ?_
    refine own_iconst (x := 1) d0_81 rfl ?_
    refine own_isub d0_82 ?_
    rw [g_k3]
    refine own_callS (y := (⟨"com/example/tiro/tiro/BenchBodyPinLaw", "expected", "(I)B"⟩ : MethodName)) (argsL := [(.int k3)]) (rest := [(.int (own_by (k3.toInt.toNat % 62)))]) (W := 1) (cells' := 1) (slots' := 1023) (R' := ({ frames := 0, cells := 0, slots := 0, locals := 0 } : Room)) (own_exp hw k3 (by omega)) (fun _ => rfl) own_pl2 own_pd2 rfl d0_83 (own_w hw 8 rfl) (own_w hw 9 rfl) (own_w hw 10 rfl) (own_w hw 11 rfl) (by decide) rfl rfl (Nat.le_of_eq rfl) (by decide) (by decide) rfl rfl (by decide) (by decide) ?_
    rintro _ _ ⟨rfl, rfl⟩
    rw [show (k3.toInt % 62).toNat = k3.toInt.toNat % 62 by omega]
    refine own_icmpNe d0_86 (fun q => False.elim (by exact q rfl)) (fun _ => ?_)
    refine own_aload d0_89 rfl rfl ?_
    refine own_iconst (x := 0) d0_91 rfl ?_
    refine own_baload (i := 0) d0_92 A rfl (own_vat (by omega)) ?_
    refine own_bipush (x := 65) d0_93 rfl ?_
    refine own_icmpNe d0_95 (fun q => False.elim (by exact absurd q (by decide))) (fun _ => ?_)
    refine own_iconst (x := 1) d0_98 rfl ?_
    refine own_goto d0_99 ?_
    exact own_retZ d0_103 rfl (by decide) (by decide) (by decide) rfl
  · refine own_iconst (x := 1) d0_30 rfl ?_
    exact own_retZ d0_31 rfl (by decide) (by decide) (by decide) rfl
theorem own_words {args : Array Value} {s : State} {a : Addr} {cl : Cell} (hf : Fit s) (ev : (Term.static "com/example/tiro/tiro/Bench" "BODY_BYTES" "[B").eval args s none [] s = some (.ref a)) (A : Arr s s.heap a cl .byte) (hl : cl.slots.size = 62)
    (h2 : (Jvm.Cond.all (.static "com/example/tiro/tiro/Bench" "BODY_BYTES" "[B") (.or (.le (.int 26) (.index 0)) (.eq (.op1 .i2l (.elem (.static "com/example/tiro/tiro/Bench" "BODY_BYTES" "[B") (.index 0))) (.op2 .ladd (.op1 .i2l (.index 0)) (.long 65))))).value args s none s [] = some true)
    (h3 : (Jvm.Cond.all (.static "com/example/tiro/tiro/Bench" "BODY_BYTES" "[B") (.or (.lt (.index 0) (.int 26)) (.or (.le (.int 52) (.index 0)) (.eq (.op1 .i2l (.elem (.static "com/example/tiro/tiro/Bench" "BODY_BYTES" "[B") (.index 0))) (.op2 .ladd (.op1 .i2l (.index 0)) (.long 71)))))).value args s none s [] = some true)
    (h4 : (Jvm.Cond.all (.static "com/example/tiro/tiro/Bench" "BODY_BYTES" "[B") (.or (.lt (.index 0) (.int 52)) (.eq (.elem (.static "com/example/tiro/tiro/Bench" "BODY_BYTES" "[B") (.index 0)) (.sub (.index 0) (.int 4))))).value args s none s [] = some true) : own_A s s.heap a .byte own_bb := by
  have hA := A.fin (Vm.Alike.refl _)
  refine ⟨cl, A, List.ext_getElem? fun j => ?_, by decide⟩
  by_cases q : j < 62
  · have ej : j.toInt32.toInt = j := len_toInt (by omega)
    have en : j.toInt32.toNatClampNeg = j := by rw [Int32.toNatClampNeg, ej]; rfl
    obtain ⟨v, k1, k2⟩ := elem_fit (j := j.toInt32) hf A (by rw [hl]; exact idx_in q (by omega))
    obtain ⟨x, rfl⟩ := fit_I k2 (by simp)
    have nn : ¬ j.toInt32 < 0 := by rw [Int32.lt_iff_toInt_lt, ej, own_l0]; omega
    have evj : (Term.static "com/example/tiro/tiro/Bench" "BODY_BYTES" "[B").eval args s none [j] s = some (.ref a) := ev
    have i0 : (Term.index 0).eval args s none [j] s = some (.int j.toInt32) := rfl
    have el : (Term.elem (.static "com/example/tiro/tiro/Bench" "BODY_BYTES" "[B") (.index 0)).eval args s none [j] s = some (.int x) := by rw [elem_f evj i0 hA nn]; exact k1
    have e2 := Cond.all_elim ev hA h2 j (by omega)
    have e3 := Cond.all_elim ev hA h3 j (by omega)
    have e4 := Cond.all_elim ev hA h4 j (by omega)
    have t1 : (Term.op1 .i2l (.elem (.static "com/example/tiro/tiro/Bench" "BODY_BYTES" "[B") (.index 0))).eval args s none [j] s = some (.long x.toInt64) := (op1_f el).trans rfl
    have t2 : (Term.op1 .i2l (.index 0)).eval args s none [j] s = some (.long j.toInt32.toInt64) := (op1_f i0).trans rfl
    have t3 : (Term.op2 .ladd (.op1 .i2l (.index 0)) (.long 65)).eval args s none [j] s = some (.long (j.toInt32.toInt64 + 65)) := (op2_f t2 (long_at 65)).trans rfl
    have t4 : (Term.op2 .ladd (.op1 .i2l (.index 0)) (.long 71)).eval args s none [j] s = some (.long (j.toInt32.toInt64 + 71)) := (op2_f t2 (long_at 71)).trans rfl
    have u2 := eq_L t1 t3
    have u3 := eq_L t1 t4
    have u4 : (Jvm.Cond.eq (.elem (.static "com/example/tiro/tiro/Bench" "BODY_BYTES" "[B") (.index 0)) (.sub (.index 0) (.int 4))).value args s none s [j] = some (decide (x = j.toInt32 - 4)) := Cond.eq_ints el rfl
    have r2 := or_e2 (Cond.le_ints (Term.int_eval 26) i0) u2 e2
    have r4 := or_e2 (Cond.lt_ints i0 (Term.int_eval 52)) u4 e4
    have b1 := Int64.toInt_lt (j.toInt32.toInt64 + 65); have b2 := Int64.le_toInt (j.toInt32.toInt64 + 65); have b3 := c_ladd j.toInt32.toInt64 65
    have d1 := Int64.toInt_lt (j.toInt32.toInt64 + 71); have d2 := Int64.le_toInt (j.toInt32.toInt64 + 71); have d3 := c_ladd j.toInt32.toInt64 71
    have f1 := Int32.toInt_lt (j.toInt32 - 4); have f2 := Int32.le_toInt (j.toInt32 - 4); have f3 := c_isub j.toInt32 4
    rw [c_i2l, show (65 : Int64).toInt = 65 from rfl] at b3
    rw [c_i2l, show (71 : Int64).toInt = 71 from rfl] at d3
    rw [show (4 : Int32).toInt = 4 from rfl] at f3
    have cx := c_i2l x
    have hv := own_byI ⟨j, q⟩
    simp only at hv
    have ex : x = own_by j := by
      apply Int32.toInt_inj.mp
      rw [hv]
      by_cases p1 : j < 26
      · rw [if_pos p1]
        rcases r2 with r | r
        · rw [Int32.le_iff_toInt_le, own_l26] at r; omega
        · have := congrArg Int64.toInt r; omega
      · rw [if_neg p1]
        by_cases p2 : j < 52
        · rw [if_pos p2]
          rcases or3 e3 (Cond.lt_ints i0 (Term.int_eval 26)) (Cond.le_ints (Term.int_eval 52) i0) u3 with r | r | r
          · rw [Int32.lt_iff_toInt_lt, own_l26] at r; omega
          · rw [Int32.lt_iff_toInt_lt, own_l52] at r; omega
          · have := congrArg Int64.toInt r; omega
        · rw [if_neg p2]
          rcases r4 with r | r
          · rw [Int32.lt_iff_toInt_lt, own_l52] at r; omega
          · have := congrArg Int32.toInt r; omega
    rw [own_bbat q, ← ex, ← k1, en, Array.getElem?_toList]
  · rw [List.getElem?_eq_none (by simp; omega), List.getElem?_eq_none (by simp [own_bb]; omega)]
set_option maxRecDepth 65536 in
set_option maxHeartbeats 4000000 in
theorem comes_1 {Post : Tables → Env → Array Value → State → Outcome → State → Prop} (hpost : ∀ tb e args s v u, (limb_1_1.after args s (.returned v) u = true ∧ limb_1_2.after args s (.returned v) u = true ∧ True) → FrameEnd s (.returned v) u (Jvm.fieldLocs frame_1_writes args s ++ Jvm.arrayLocs frame_1_arrays args s ++ Jvm.staticLocs frame_1_statics s) 16 2112 → Post tb e args s (.returned v) u) :
    ArmFor flags0 classFile x code maxLocals ret World_1 tables_1 room_1 Calls_1 rest_1 Pre_1 Post := by
  intro l hfl _ _ p e ha hc hk s m args below hf hA hF happ hP
  obtain ⟨hcalls, hrest, hpre⟩ := hP
  obtain ⟨-, -, -, hnamed, -, -, -, hat⟩ := (Spec.applies_iff hf).mp happ
  obtain ⟨hg, hn⟩ := and_e (Cond.before_iff.mp (show (Jvm.Cond.and given_1 narrow_1).before args s = true from hpre))
  obtain ⟨gc, g0⟩ := and_e hg
  obtain ⟨k0, g1⟩ := and_e g0
  obtain ⟨k1, g2⟩ := and_e g1
  obtain ⟨w0, w1, w2, rfl⟩ : ∃ w0 w1 w2 : Value, args = #[w0, w1, w2] := by
    have hs : args.size = 3 := by simpa [Cond.value, given_1] using gc
    obtain ⟨L⟩ := args
    match L, hs with
    | [w0, w1, w2], _ => exact ⟨w0, w1, w2, rfl⟩
  have hw := fun d (hd : d ∈ tables_1) => atoms_spec (ws := Jvm.Cond.code x code maxLocals ret :: tables_1) hat d (List.mem_cons_of_mem _ hd)
  have hfit : Fit s := fun {y c} hc i hi => by
    obtain ⟨ha, rfl⟩ := Array.getElem?_eq_some_iff.mp hc
    have q := List.all_eq_true.mp ((Array.all_eq_true_iff_forall_mem.mp hF) _ (Array.getElem_mem ha)) i (List.mem_range.mpr hi)
    simpa [Array.getElem?_eq_getElem hi] using q
  obtain ⟨i0, ei0⟩ := is_v k0
  obtain rfl : w0 = (.int i0) := Option.some.inj ei0
  obtain ⟨i1, ei1⟩ := is_v k1
  obtain rfl : w1 = (.int i1) := Option.some.inj ei1
  obtain ⟨i2, ei2⟩ := is_v g2
  obtain rfl : w2 = (.int i2) := Option.some.inj ei2
  obtain ⟨n0, m1⟩ := and_e hn
  obtain ⟨n1, m2⟩ := and_e m1
  obtain ⟨n2, m3⟩ := and_e m2
  obtain ⟨n3, m4⟩ := and_e m3
  have n4 := m4
  obtain ⟨ba, ev⟩ := arr_v n0
  have S := Sta.start ev (Or.inr ⟨(own_w hw 2 rfl), (own_w hw 6 rfl)⟩)
  obtain ⟨cl, Ac⟩ := Arr.start ev n0
  obtain ⟨l1, l2⟩ := own_alen ev Ac n1
  have B := own_words hfit ev Ac (by rw [own_l62] at l1; omega) n2 n3 n4
  have hV := own_law hw i0 i1 i2 (l := l) (n0 := s.heap.size) (h := s.heap) (Nat.le_refl _) S B
  have hef : ∀ m, entryFrame m #[(.int i0), (.int i1), (.int i2)] maxLocals = mkF m 0 #[.val (.int i0), .val (.int i1), .val (.int i2), .unset, .unset, .unset, .unset] [] := fun _ => rfl
  have hM := own_met (y := x) own_pl0 hef hV tables_1
  obtain ⟨n, o, h1, h2, h3, _, L, rfl, ⟨rfl, N⟩, hq⟩ := hM p e ha hc hk s m _ below hf ((Spec.applies_iff_loose hf).mp happ).1 ⟨rfl, State.Warmed39.refl s, rfl⟩ trivial
  refine ⟨n, _, h1, h2, h3, hpost _ _ _ _ _ _ ⟨Cond.after_iff.mpr rfl, Cond.after_iff.mpr (eq_i res_at (Term.int_eval (1)) rfl), trivial⟩ ⟨hq.1, hq.2.1, (hq.2.2.sift fun y hy => Or.inr (N y hy)).mono (by decide) (by decide)⟩⟩
theorem main_1_1 : Claimed_1_1 := comes_1 fun _ _ _ _ _ _ h hF => ⟨h.1, hF⟩
theorem main_1_2 : Claimed_1_2 := comes_1 fun _ _ _ _ _ _ h hF => ⟨h.2.1, hF⟩
end Jvm.Pilot.@@N@@
namespace Jvm.Pilot.@@N@@
open Jvm Jvm.ClassFile Sem Op Lib Jvm.Free Jvm.Stand Jvm.Pilot.@@N@@.Jvm.D
/-! MADE BY PROGRAM (witnessworld.py) out of the Statement's table words and the real class files: 9 classes; the members and pool entries that the words name. The judged class is class 1, her method 1. -/
namespace start1
open Jvm.ClassFile
def u (s : String) : CpInfo := .utf8 (stringToUtf16 s)
/-- a pool by its gaps: so many unusable entries, then the entry; so many at the end -/
def gap : Nat → List CpInfo → List CpInfo
  | 0, r => r
  | n + 1, r => .unusable :: gap n r
def poolList (es : List (Nat × CpInfo)) (last : Nat) : List CpInfo := es.foldr (fun e r => gap e.1 (e.2 :: r)) (gap last [])
def pool (es : List (Nat × CpInfo)) (last : Nat) : Array CpInfo := ⟨poolList es last⟩
def fileOf (pool : Array CpInfo) (this : Nat) (attrs : Array Attribute := #[]) (ms : Array MethodInfo := #[]) (fl : Nat := 33) (sup : Nat := 0) (ifs : Array Nat := #[]) (fds : Array FieldInfo := #[]) : ClassFile where
  minorVersion := 0
  majorVersion := 65
  constantPool := pool
  accessFlags := fl
  thisClass := this
  superClass := sup
  interfaces := ifs
  fields := fds
  methods := ms
  attributes := attrs
def plain (name : String) (sup : Option ClassId) : Class where
  name := name
  kind := .ordinary
  loader := none
  accessFlags := 33
  super := sup
  interfaces := #[]
  cf := none
  fields := #[]
  methods := #[]
  instanceTypes := #[]
  staticTypes := #[]
  resolved := #[]
  callSites := []
  init := .initialized
  statics := none
  mirror := none

def pool0 : Array CpInfo := pool [(5, u "<init>"), (0, u "()V"), (1, .class_ 10), (1, u "java/lang/Object")] 113

def k0m0 : Method := { name := "<init>", desc := "()V", sig := { parameters := [], returnType := none }, accessFlags := 1, code := none }
/-- java/lang/Object -/
def k0 : Class := { plain "java/lang/Object" none with
  accessFlags := 33
  interfaces := #[]
  cf := some (fileOf pool0 8 #[] #[{ accessFlags := 1, nameIndex := 5, descriptorIndex := 6, attributes := #[] }] 33 0 #[] #[])
  fields := #[]
  methods := #[k0m0]
  instanceTypes := #[]
  staticTypes := #[]
  resolved := Array.replicate 124 none
  statics := none }

def pool1 : Array CpInfo := pool [(2, .class_ 4), (1, u "java/lang/Object"), (0, u "<init>"), (0, u "()V"), (0, .methodref 8 9), (0, .class_ 10), (0, .nameAndType 11 12), (0, u "com/example/tiro/tiro/Bench"), (0, u "body"), (0, u "(I)[B"), (0, .integer 2147483647), (0, .methodref 15 16), (0, .class_ 17), (0, .nameAndType 18 19), (0, u "com/example/tiro/tiro/BenchBodyPinLaw"), (0, u "expected"), (0, u "(I)B"), (2, u "law"), (0, u "(III)Z")] 5

def k1m0 : Method := { name := "<init>", desc := "()V", sig := { parameters := [], returnType := none }, accessFlags := 2, code := none }
def k1c1 : Code := { maxStack := 3, maxLocals := 7, code := code, exceptionTable := #[], attributes := #[] }
def k1m1 : Method := { name := "law", desc := "(III)Z", sig := { parameters := [.int, .int, .int], returnType := some .boolean }, accessFlags := 9, code := some k1c1 }
def k1c2 : Code := { maxStack := 3, maxLocals := 3, code := method_3_code, exceptionTable := #[], attributes := #[] }
def k1m2 : Method := { name := "expected", desc := "(I)B", sig := { parameters := [.int], returnType := some .byte }, accessFlags := 10, code := some k1c2 }
/-- com/example/tiro/tiro/BenchBodyPinLaw -/
def k1 : Class := { plain "com/example/tiro/tiro/BenchBodyPinLaw" (some 0) with
  accessFlags := 49
  interfaces := #[]
  cf := some (fileOf pool1 15 #[] #[{ accessFlags := 2, nameIndex := 5, descriptorIndex := 6, attributes := #[] }, { accessFlags := 9, nameIndex := 22, descriptorIndex := 23, attributes := #[] }, { accessFlags := 10, nameIndex := 18, descriptorIndex := 19, attributes := #[] }] 49 2 #[] #[])
  fields := #[]
  methods := #[k1m0, k1m1, k1m2]
  instanceTypes := #[]
  staticTypes := #[]
  resolved := Array.replicate 29 none
  statics := none }

def pool2 : Array CpInfo := pool [(2, .class_ 4), (1, u "java/lang/Object"), (0, u "<init>"), (0, u "()V"), (0, .fieldref 8 9), (0, .class_ 10), (0, .nameAndType 11 12), (0, u "com/example/tiro/tiro/Bench"), (0, u "BODY_BYTES"), (0, u "[B"), (27, .class_ 41), (0, u "com/example/tiro/tiro/Bench$Appender"), (9, .class_ 52), (0, u "com/example/tiro/tiro/Bench$Reader"), (84, .class_ 138), (0, u "com/example/tiro/tiro/Bench$Figures"), (71, .class_ 212), (1, u "com/example/tiro/tiro/Bench$ThreadWork"), (58, u "MAX_THREADS"), (0, u "I"), (4, u "body"), (0, u "(I)[B")] 71

def k2m0 : Method := { name := "<init>", desc := "()V", sig := { parameters := [], returnType := none }, accessFlags := 2, code := none }
def k2c1 : Code := { maxStack := 5, maxLocals := 3, code := prog_6_method_2_code, exceptionTable := #[], attributes := #[] }
def k2m1 : Method := { name := "body", desc := "(I)[B", sig := { parameters := [.int], returnType := some (.array .byte) }, accessFlags := 8, code := some k2c1 }
/-- com/example/tiro/tiro/Bench -/
def k2 : Class := { plain "com/example/tiro/tiro/Bench" (some 0) with
  accessFlags := 48
  interfaces := #[]
  cf := some (fileOf pool2 8 #[.nestMembers #[137, 51, 40, 210]] #[{ accessFlags := 2, nameIndex := 5, descriptorIndex := 6, attributes := #[] }, { accessFlags := 8, nameIndex := 277, descriptorIndex := 278, attributes := #[] }] 48 2 #[] #[{ accessFlags := 24, nameIndex := 271, descriptorIndex := 272, attributes := #[] }, { accessFlags := 26, nameIndex := 11, descriptorIndex := 12, attributes := #[] }])
  fields := #[{ name := "MAX_THREADS", type := .int, accessFlags := 24, slot := 0, constantValue := 0 }, { name := "BODY_BYTES", type := (.array .byte), accessFlags := 26, slot := 1, constantValue := 0 }]
  methods := #[k2m0, k2m1]
  instanceTypes := #[]
  staticTypes := #[.int, (.array .byte)]
  resolved := Array.replicate 350 none
  statics := some 0 }

def pool3 : Array CpInfo := pool [(1, u "java/lang/Cloneable"), (0, .class_ 1), (0, u "java/lang/Object"), (0, .class_ 3)] 3

/-- java/lang/Cloneable -/
def k3 : Class := { plain "java/lang/Cloneable" (some 0) with
  accessFlags := 1537
  interfaces := #[]
  cf := some (fileOf pool3 2 #[] #[] 1537 4 #[] #[])
  fields := #[]
  methods := #[]
  instanceTypes := #[]
  staticTypes := #[]
  resolved := Array.replicate 8 none
  statics := none }

def pool4 : Array CpInfo := pool [(1, u "java/io/Serializable"), (0, .class_ 1), (0, u "java/lang/Object"), (0, .class_ 3)] 3

/-- java/io/Serializable -/
def k4 : Class := { plain "java/io/Serializable" (some 0) with
  accessFlags := 1537
  interfaces := #[]
  cf := some (fileOf pool4 2 #[] #[] 1537 4 #[] #[])
  fields := #[]
  methods := #[]
  instanceTypes := #[]
  staticTypes := #[]
  resolved := Array.replicate 8 none
  statics := none }

/-- the primitive byte -/
def k5 : Class := { plain "byte" none with kind := .primitive 'B', accessFlags := 0x411 }
/-- [B -/
def k6 : Class := { plain "[B" (some 0) with kind := .array 5 .byte, interfaces := #[3, 4], accessFlags := 1041 }

/-- the primitive int -/
def k7 : Class := { plain "int" none with kind := .primitive 'I', accessFlags := 0x411 }
/-- [I -/
def k8 : Class := { plain "[I" (some 0) with kind := .array 7 .int, interfaces := #[3, 4], accessFlags := 1041 }

def heap : Heap := #[{ cls := 2, slots := #[.int 0, .ref 1], vm := .statics 2 },
  { cls := 6, slots := #[.int 65, .int 66, .int 67, .int 68, .int 69, .int 70, .int 71, .int 72, .int 73, .int 74, .int 75, .int 76, .int 77, .int 78, .int 79, .int 80, .int 81, .int 82, .int 83, .int 84, .int 85, .int 86, .int 87, .int 88, .int 89, .int 90, .int 97, .int 98, .int 99, .int 100, .int 101, .int 102, .int 103, .int 104, .int 105, .int 106, .int 107, .int 108, .int 109, .int 110, .int 111, .int 112, .int 113, .int 114, .int 115, .int 116, .int 117, .int 118, .int 119, .int 120, .int 121, .int 122, .int 48, .int 49, .int 50, .int 51, .int 52, .int 53, .int 54, .int 55, .int 56, .int 57], vm := .none }]
def classes : Array Class := #[k0, k1, k2, k3, k4, k5, k6, k7, k8]
def interned : List (Array UInt16 × Addr) := []
def slotsUsed : Nat := 64
def theMethod : MethodId := ⟨1, 1⟩
def args0 : Array Value := #[.int 5, .int 6, .int 7]
def aboutOver (below : List Frame) : State where
  vm := { classes := classes, interned := interned.toArray }
  heap := heap
  slotsUsed := slotsUsed
  threads := #[{ frames := .invoking theMethod args0 :: below }]
def below0 : List Frame := [.native { method := ⟨0, 0⟩, args := #[] }]
def about1 : State := aboutOver below0
def p0 : Program := .bare "" "" ""
def e0 : Env := launch0.env 0 0 0
theorem w_frames : about1.frames = Frame.invoking theMethod args0 :: below0 := rfl
set_option maxRecDepth 65536 in
theorem w_args : argsFit about1.vm theMethod args0 = true := by decide +kernel
set_option maxRecDepth 65536 in
theorem w_heap : heapFits about1 = true := by decide +kernel
set_option maxRecDepth 65536 in
theorem w_runnable : about1.curStatus? = some .runnable := by decide +kernel
set_option maxRecDepth 65536 in
theorem w_alone : about1.alone = true := by decide +kernel
set_option maxRecDepth 65536 in
theorem w_named : about1.methodNamed? x = some theMethod := by decide +kernel
set_option maxRecDepth 65536 in
theorem w_hears : about1.hears theMethod below0 = true := by decide +kernel
set_option maxRecDepth 65536 in
theorem w_ripe : about1.ripe theMethod args0 below0 = true := by decide +kernel
theorem w_running : about1.status = .running := rfl
set_option maxRecDepth 65536 in
theorem w_room : about1.hasRoom e0.platform room_1 = true :=
  launch0.hasRoom_least _ room_1 (by decide +kernel) (by decide +kernel) (by decide +kernel) (by decide +kernel) (by decide +kernel) (by decide +kernel)
theorem allAtoms_all (ts : List Jvm.Cond) (a : Array Jvm.Value) (st : Jvm.State) : (allAtoms ts).before a st = ts.all (fun c => c.before a st) := by
  induction ts with
  | nil => rfl
  | cons c t ih =>
    show (Jvm.Cond.and c (allAtoms t)).before a st = _
    rw [Jvm.Cond.before_and, ih, List.all_cons]
def words1 : List Jvm.Cond := Jvm.Cond.code x code maxLocals ret :: tables_1
/-- a 'code' word, met by the world's own term for the bytes: nothing is compared byte by byte -/
theorem code_word {y : MethodName} {bytes : ByteArray} {mx : Nat} {rt : Option FieldType} {a : Array Value} {s : State} {m : MethodId} {meth : Method} {c : Code} (h1 : s.methodNamed? y = some m) (h2 : s.vm.method? m = some meth) (h3 : meth.code = some c) (h4 : c.code = bytes)
    (h5 : (c.maxLocals == mx && c.exceptionTable.isEmpty && decide (c.maxStack ≤ mostOperands) && decide (meth.sig.returnType = rt) && !meth.locks && decide (parseMethodDescriptor y.desc = some meth.sig)) = true) : (Jvm.Cond.code y bytes mx rt).before a s = true := by
  simp only [Bool.and_eq_true, beq_iff_eq, Bool.not_eq_true', decide_eq_true_eq] at h5
  obtain ⟨⟨⟨⟨⟨g1, g2⟩, g3⟩, g4⟩, g5⟩, g6⟩ := h5
  simp [Cond.before, Cond.holds, Cond.value, h1, h2, h3, h4, g1, g2, g3, g4, g5, g6]
def isCode : Jvm.Cond → Bool
  | .code _ _ _ _ => true
  | _ => false
theorem all_split {L : List Jvm.Cond} {P : Jvm.Cond → Bool} (h1 : L.all (fun c => isCode c || P c) = true) (h2 : ∀ c ∈ L.filter isCode, P c = true) : L.all P = true := by
  refine List.all_eq_true.mpr fun c hc => ?_
  have h := List.all_eq_true.mp h1 c hc
  rcases Bool.eq_false_or_eq_true (isCode c) with hi | hi
  · exact h2 c (List.mem_filter.mpr ⟨hc, hi⟩)
  · simpa [hi] using h
set_option maxRecDepth 65536 in
theorem w_c0 : (Jvm.Cond.code x code maxLocals ret).before args0 about1 = true := code_word (m := ⟨1, 1⟩) (meth := k1m1) (c := k1c1) (by decide +kernel) rfl rfl rfl (by decide +kernel)
set_option maxRecDepth 65536 in
theorem w_c1 : (Jvm.Cond.code ({ cls := "com/example/tiro/tiro/Bench", name := "body", desc := "(I)[B" } : Jvm.MethodName) prog_6_method_2_code (3 : Nat) (Option.some (Jvm.ClassFile.FieldType.array Jvm.ClassFile.FieldType.byte))).before args0 about1 = true := code_word (m := ⟨2, 1⟩) (meth := k2m1) (c := k2c1) (by decide +kernel) rfl rfl rfl (by decide +kernel)
set_option maxRecDepth 65536 in
theorem w_c2 : (Jvm.Cond.code ({ cls := "com/example/tiro/tiro/BenchBodyPinLaw", name := "expected", desc := "(I)B" } : Jvm.MethodName) method_3_code (3 : Nat) (Option.some Jvm.ClassFile.FieldType.byte)).before args0 about1 = true := code_word (m := ⟨1, 2⟩) (meth := k1m2) (c := k1c2) (by decide +kernel) rfl rfl rfl (by decide +kernel)
def codes1 : List Jvm.Cond := [Jvm.Cond.code x code maxLocals ret, Jvm.Cond.code ({ cls := "com/example/tiro/tiro/Bench", name := "body", desc := "(I)[B" } : Jvm.MethodName) prog_6_method_2_code (3 : Nat) (Option.some (Jvm.ClassFile.FieldType.array Jvm.ClassFile.FieldType.byte)), Jvm.Cond.code ({ cls := "com/example/tiro/tiro/BenchBodyPinLaw", name := "expected", desc := "(I)B" } : Jvm.MethodName) method_3_code (3 : Nat) (Option.some Jvm.ClassFile.FieldType.byte)]
set_option maxRecDepth 65536 in
theorem codes_eq : words1.filter isCode = codes1 := rfl
theorem w_codes : ∀ c ∈ words1.filter isCode, c.before args0 about1 = true := by
  rw [codes_eq]
  intro c hc
  simp only [codes1, List.mem_cons, List.not_mem_nil, or_false] at hc
  rcases hc with rfl | rfl | rfl
  · exact w_c0
  · exact w_c1
  · exact w_c2
set_option maxRecDepth 65536 in
theorem w_t1 : words1.all (fun c => isCode c || c.before args0 about1) = true := by decide +kernel
theorem w_tables : (allAtoms (Jvm.Cond.code x code maxLocals ret :: tables_1)).before args0 about1 = true := by
  rw [allAtoms_all]
  show words1.all (fun c => c.before args0 about1) = true
  refine all_split ?_ w_codes
  rw [w_t1]
set_option maxRecDepth 65536 in
theorem w_case : (Jvm.Cond.and given_1 narrow_1).before args0 about1 = true := by decide +kernel
theorem w_applies : (headSpec (Jvm.Cond.code x code maxLocals ret :: tables_1) room_1).applies x e0.platform about1 = true :=
  (Spec.applies_iff w_frames).mpr ⟨w_running, w_runnable, w_alone, w_named, w_hears, w_ripe, w_room, w_tables⟩
theorem atStart : AtStart classFile x code maxLocals ret World_1 tables_1 room_1 Calls_1 rest_1 Pre_1 launch0 p0 e0 about1 theMethod args0 below0 :=
  ⟨lists_1, trivial, launch0.admits_env _ _ _, launch0.least_env, fairChoices_fair.cas, fairChoices_fair.clock, w_frames, w_args, w_heap, w_applies, trivial, trivial, w_case⟩
end start1
theorem witness_1 : WitnessClaimed_1 := ⟨start1.p0, start1.e0, start1.about1, start1.theMethod, start1.args0, start1.below0, start1.atStart⟩
end Jvm.Pilot.@@N@@
