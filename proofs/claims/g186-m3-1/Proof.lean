import JvmDerived
import JvmDerived.Pilot.@@N@@Statement
import JvmDerived.Pilot.@@N@@Code
set_option linter.unusedVariables false
set_option linter.unusedSimpArgs false
namespace Jvm.Pilot.@@N@@
open Jvm Jvm.ClassFile Sem Op Lib Jvm.Free Jvm.Stand Jvm.LawKit Jvm.RoadKit Bundle Jvm.Pilot.@@N@@.Jvm.D
/-! THE OWN KIT: a walk as a weakest precondition (own_V), one law an instruction -/
def own_V (l : Launch) (Z : State) (n0 : Nat) (R : Room) (own nm : String) (cod : ByteArray) (mxl : Nat) (rt : Option FieldType) (Q : Option Value → Heap → Prop)
    (h : Heap) (cells slots : Nat) (pc : Nat) (L : Array Slot) (S : List Value) : Prop :=
  ∀ (p : Program) (e : Env) (s : State) (m : MethodId) (args : Array Value) (below : List Frame) (meth : Method) (c : Code) (T : State) (locs : List Loc),
    p.tables.exec = Jvm.exec → Z.Warmed39 s.vm → c.code = cod → c.maxLocals = mxl → s.vm.findClass own = some m.cls → meth.sig.returnType = rt → meth.name = nm → meth.locks = false →
    Stand p l e R s m args below meth c T locs cells slots → T.heap = h → Fr n0 locs →
    ∃ s₂ o, Steps p.tables e below (T.setTop (mkF m pc L S)) s₂ ∧ s₂.status = .running ∧ Ended s₂ below o ∧ ∃ v Lc, o = .returned v ∧ (Q v s₂.heap ∧ Fr n0 Lc) ∧ FrameEnd s o s₂ Lc R.cells R.slots
def own_D (cod : ByteArray) (pc : Nat) (i : Instr) (n pc' : Nat) : Prop := decode cod pc = .ok (i, n) ∧ pc + n = pc'
def own_B (cod : ByteArray) (pc : Nat) (i : Instr) (o : Int) (pc' t : Nat) : Prop := decode cod pc = .ok (i, 3) ∧ pc + 3 = pc' ∧ 0 ≤ (pc : Int) + o ∧ ((pc : Int) + o).toNat = t
section OwnKit
variable {l : Launch} {Z : State} {n0 : Nat} {R : Room} {own nm : String} {cod : ByteArray} {mxl : Nat} {rt : Option FieldType} {Q : Option Value → Heap → Prop} {h : Heap} {cells slots pc pc' : Nat} {L L' : Array Slot} {S S' : List Value} {a0 : Array Value}
theorem own_step (st : ∀ {p : Program} {e : Env} {s : State} {m : MethodId} {args : Array Value} {below : List Frame} {meth : Method} {c : Code} {T : State} {locs : List Loc}, p.tables.exec = Jvm.exec → Z.Warmed39 s.vm → c.code = cod → s.vm.findClass own = some m.cls →
      Stand p l e R s m args below meth c T locs cells slots → T.heap = h → ∀ {target : State}, Steps p.tables e below (T.setTop (mkF m pc' L' S')) target → Steps p.tables e below (T.setTop (mkF m pc L S)) target)
    (k : own_V l Z n0 R own nm cod mxl rt Q h cells slots pc' L' S') : own_V l Z n0 R own nm cod mxl rt Q h cells slots pc L S := by
  intro p e s m args below meth c T locs hx hZ hby hml hown hret hnm hlk X eT N
  obtain ⟨s₂, o, h1, r⟩ := k p e s m args below meth c T locs hx hZ hby hml hown hret hnm hlk X eT N
  exact ⟨s₂, o, st hx hZ hby hown X eT h1, r⟩
theorem own_stepC {F : Heap → List Value → Prop} {cells' slots' : Nat} (st : ∀ {p : Program} {e : Env} {s : State} {m : MethodId} {args : Array Value} {below : List Frame} {meth : Method} {c : Code} {T : State} {locs : List Loc}, p.tables.exec = Jvm.exec → Z.Warmed39 s.vm → c.code = cod → c.maxLocals = mxl → s.vm.findClass own = some m.cls → meth.name = nm →
      Stand p l e R s m args below meth c T locs cells slots → T.heap = h → Fr n0 locs →
      ∃ (T' : State) (locs' : List Loc) (S' : List Value), F T'.heap S' ∧ Stand p l e R s m args below meth c T' locs' cells' slots' ∧ Fr n0 locs' ∧ ∀ target, Steps p.tables e below (T'.setTop (mkF m pc' L' S')) target → Steps p.tables e below (T.setTop (mkF m pc L S)) target)
    (k : ∀ h' S', F h' S' → own_V l Z n0 R own nm cod mxl rt Q h' cells' slots' pc' L' S') : own_V l Z n0 R own nm cod mxl rt Q h cells slots pc L S := by
  intro p e s m args below meth c T locs hx hZ hby hml hown hret hnm hlk X eT N
  obtain ⟨T', locs', S', f, X', N', st'⟩ := st hx hZ hby hml hown hnm X eT N
  obtain ⟨s₂, o, h1, r⟩ := k _ _ f p e s m args below meth c T' locs' hx hZ hby hml hown hret hnm hlk X' rfl N'
  exact ⟨s₂, o, st' _ h1, r⟩
theorem own_iadd {x y : Int32} (d : own_D cod pc (.iadd) 1 pc') (k : own_V l Z n0 R own nm cod mxl rt Q h cells slots pc' L (.int (x + y) :: S)) : own_V l Z n0 R own nm cod mxl rt Q h cells slots pc L (.int y :: .int x :: S) := by
  obtain ⟨d, rfl⟩ := d
  exact own_step (fun hx _ hby _ X _ _ q => XS.iadd X.here hx rfl (hb hby d) rfl q) k
theorem own_isub {x y : Int32} (d : own_D cod pc (.isub) 1 pc') (k : own_V l Z n0 R own nm cod mxl rt Q h cells slots pc' L (.int (x - y) :: S)) : own_V l Z n0 R own nm cod mxl rt Q h cells slots pc L (.int y :: .int x :: S) := by
  obtain ⟨d, rfl⟩ := d
  exact own_step (fun hx _ hby _ X _ _ q => XS.isub X.here hx rfl (hb hby d) rfl q) k
theorem own_imul {x y : Int32} (d : own_D cod pc (.imul) 1 pc') (k : own_V l Z n0 R own nm cod mxl rt Q h cells slots pc' L (.int (x * y) :: S)) : own_V l Z n0 R own nm cod mxl rt Q h cells slots pc L (.int y :: .int x :: S) := by
  obtain ⟨d, rfl⟩ := d
  exact own_step (fun hx _ hby _ X _ _ q => XS.imul X.here hx rfl (hb hby d) rfl q) k
theorem own_iand {x y : Int32} (d : own_D cod pc (.iand) 1 pc') (k : own_V l Z n0 R own nm cod mxl rt Q h cells slots pc' L (.int (x &&& y) :: S)) : own_V l Z n0 R own nm cod mxl rt Q h cells slots pc L (.int y :: .int x :: S) := by
  obtain ⟨d, rfl⟩ := d
  exact own_step (fun hx _ hby _ X _ _ q => XS.iand X.here hx rfl (hb hby d) rfl q) k
theorem own_ior {x y : Int32} (d : own_D cod pc (.ior) 1 pc') (k : own_V l Z n0 R own nm cod mxl rt Q h cells slots pc' L (.int (x ||| y) :: S)) : own_V l Z n0 R own nm cod mxl rt Q h cells slots pc L (.int y :: .int x :: S) := by
  obtain ⟨d, rfl⟩ := d
  exact own_step (fun hx _ hby _ X _ _ q => XS.ior X.here hx rfl (hb hby d) rfl q) k
theorem own_ixor {x y : Int32} (d : own_D cod pc (.ixor) 1 pc') (k : own_V l Z n0 R own nm cod mxl rt Q h cells slots pc' L (.int (x ^^^ y) :: S)) : own_V l Z n0 R own nm cod mxl rt Q h cells slots pc L (.int y :: .int x :: S) := by
  obtain ⟨d, rfl⟩ := d
  exact own_step (fun hx _ hby _ X _ _ q => XS.ixor X.here hx rfl (hb hby d) rfl q) k
theorem own_ishl {x y : Int32} (d : own_D cod pc (.ishl) 1 pc') (k : own_V l Z n0 R own nm cod mxl rt Q h cells slots pc' L (.int (x <<< (y &&& 31)) :: S)) : own_V l Z n0 R own nm cod mxl rt Q h cells slots pc L (.int y :: .int x :: S) := by
  obtain ⟨d, rfl⟩ := d
  exact own_step (fun hx _ hby _ X _ _ q => XS.ishl X.here hx rfl (hb hby d) rfl q) k
theorem own_ishr {x y : Int32} (d : own_D cod pc (.ishr) 1 pc') (k : own_V l Z n0 R own nm cod mxl rt Q h cells slots pc' L (.int (x >>> (y &&& 31)) :: S)) : own_V l Z n0 R own nm cod mxl rt Q h cells slots pc L (.int y :: .int x :: S) := by
  obtain ⟨d, rfl⟩ := d
  exact own_step (fun hx _ hby _ X _ _ q => XS.ishr X.here hx rfl (hb hby d) rfl q) k
theorem own_iushr {x y : Int32} (d : own_D cod pc (.iushr) 1 pc') (k : own_V l Z n0 R own nm cod mxl rt Q h cells slots pc' L (.int ((x.toUInt32 >>> (y &&& 31).toUInt32).toInt32) :: S)) : own_V l Z n0 R own nm cod mxl rt Q h cells slots pc L (.int y :: .int x :: S) := by
  obtain ⟨d, rfl⟩ := d
  exact own_step (fun hx _ hby _ X _ _ q => XS.iushr X.here hx rfl (hb hby d) rfl q) k
theorem own_ladd {x y : Int64} (d : own_D cod pc (.ladd) 1 pc') (k : own_V l Z n0 R own nm cod mxl rt Q h cells slots pc' L (.long (x + y) :: S)) : own_V l Z n0 R own nm cod mxl rt Q h cells slots pc L (.long y :: .long x :: S) := by
  obtain ⟨d, rfl⟩ := d
  exact own_step (fun hx _ hby _ X _ _ q => XS.ladd X.here hx rfl (hb hby d) rfl q) k
theorem own_lsub {x y : Int64} (d : own_D cod pc (.lsub) 1 pc') (k : own_V l Z n0 R own nm cod mxl rt Q h cells slots pc' L (.long (x - y) :: S)) : own_V l Z n0 R own nm cod mxl rt Q h cells slots pc L (.long y :: .long x :: S) := by
  obtain ⟨d, rfl⟩ := d
  exact own_step (fun hx _ hby _ X _ _ q => XS.lsub X.here hx rfl (hb hby d) rfl q) k
theorem own_lmul {x y : Int64} (d : own_D cod pc (.lmul) 1 pc') (k : own_V l Z n0 R own nm cod mxl rt Q h cells slots pc' L (.long (x * y) :: S)) : own_V l Z n0 R own nm cod mxl rt Q h cells slots pc L (.long y :: .long x :: S) := by
  obtain ⟨d, rfl⟩ := d
  exact own_step (fun hx _ hby _ X _ _ q => XS.lmul X.here hx rfl (hb hby d) rfl q) k
theorem own_land {x y : Int64} (d : own_D cod pc (.land) 1 pc') (k : own_V l Z n0 R own nm cod mxl rt Q h cells slots pc' L (.long (x &&& y) :: S)) : own_V l Z n0 R own nm cod mxl rt Q h cells slots pc L (.long y :: .long x :: S) := by
  obtain ⟨d, rfl⟩ := d
  exact own_step (fun hx _ hby _ X _ _ q => XS.land X.here hx rfl (hb hby d) rfl q) k
theorem own_lor {x y : Int64} (d : own_D cod pc (.lor) 1 pc') (k : own_V l Z n0 R own nm cod mxl rt Q h cells slots pc' L (.long (x ||| y) :: S)) : own_V l Z n0 R own nm cod mxl rt Q h cells slots pc L (.long y :: .long x :: S) := by
  obtain ⟨d, rfl⟩ := d
  exact own_step (fun hx _ hby _ X _ _ q => XS.lor X.here hx rfl (hb hby d) rfl q) k
theorem own_lxor {x y : Int64} (d : own_D cod pc (.lxor) 1 pc') (k : own_V l Z n0 R own nm cod mxl rt Q h cells slots pc' L (.long (x ^^^ y) :: S)) : own_V l Z n0 R own nm cod mxl rt Q h cells slots pc L (.long y :: .long x :: S) := by
  obtain ⟨d, rfl⟩ := d
  exact own_step (fun hx _ hby _ X _ _ q => XS.lxor X.here hx rfl (hb hby d) rfl q) k
theorem own_lshl {x : Int64} {y : Int32} (d : own_D cod pc (.lshl) 1 pc') (k : own_V l Z n0 R own nm cod mxl rt Q h cells slots pc' L (.long (x <<< (y &&& 0x3f).toInt64) :: S)) : own_V l Z n0 R own nm cod mxl rt Q h cells slots pc L (.int y :: .long x :: S) := by
  obtain ⟨d, rfl⟩ := d
  exact own_step (fun hx _ hby _ X _ _ q => XS.lshl X.here hx rfl (hb hby d) rfl q) k
theorem own_lshr {x : Int64} {y : Int32} (d : own_D cod pc (.lshr) 1 pc') (k : own_V l Z n0 R own nm cod mxl rt Q h cells slots pc' L (.long (x >>> (y &&& 0x3f).toInt64) :: S)) : own_V l Z n0 R own nm cod mxl rt Q h cells slots pc L (.int y :: .long x :: S) := by
  obtain ⟨d, rfl⟩ := d
  exact own_step (fun hx _ hby _ X _ _ q => XS.lshr X.here hx rfl (hb hby d) rfl q) k
theorem own_lushr {x : Int64} {y : Int32} (d : own_D cod pc (.lushr) 1 pc') (k : own_V l Z n0 R own nm cod mxl rt Q h cells slots pc' L (.long ((x.toUInt64 >>> (y &&& 0x3f).toInt64.toUInt64).toInt64) :: S)) : own_V l Z n0 R own nm cod mxl rt Q h cells slots pc L (.int y :: .long x :: S) := by
  obtain ⟨d, rfl⟩ := d
  exact own_step (fun hx _ hby _ X _ _ q => XS.lushr X.here hx rfl (hb hby d) rfl q) k
theorem own_idiv {x y : Int32} (d : own_D cod pc (.idiv) 1 pc') (hy : y ≠ 0) (k : own_V l Z n0 R own nm cod mxl rt Q h cells slots pc' L (.int (x / y) :: S)) : own_V l Z n0 R own nm cod mxl rt Q h cells slots pc L (.int y :: .int x :: S) := by
  obtain ⟨d, rfl⟩ := d
  exact own_step (fun hx _ hby _ X _ _ q => XS.idiv X.here hx rfl (hb hby d) rfl hy q) k
theorem own_ldiv {x y : Int64} (d : own_D cod pc (.ldiv) 1 pc') (hy : y ≠ 0) (k : own_V l Z n0 R own nm cod mxl rt Q h cells slots pc' L (.long (x / y) :: S)) : own_V l Z n0 R own nm cod mxl rt Q h cells slots pc L (.long y :: .long x :: S) := by
  obtain ⟨d, rfl⟩ := d
  exact own_step (fun hx _ hby _ X _ _ q => XS.ldiv X.here hx rfl (hb hby d) rfl hy q) k
theorem own_lrem {x y : Int64} (d : own_D cod pc (.lrem) 1 pc') (hy : y ≠ 0) (k : own_V l Z n0 R own nm cod mxl rt Q h cells slots pc' L (.long (x - (x / y) * y) :: S)) : own_V l Z n0 R own nm cod mxl rt Q h cells slots pc L (.long y :: .long x :: S) := by
  obtain ⟨d, rfl⟩ := d
  exact own_step (fun hx _ hby _ X _ _ q => XS.lrem X.here hx rfl (hb hby d) rfl hy q) k
theorem own_irem {x y : Int32} (d : own_D cod pc (.irem) 1 pc') (hy : y ≠ 0) (k : own_V l Z n0 R own nm cod mxl rt Q h cells slots pc' L (.int (x % y) :: S)) : own_V l Z n0 R own nm cod mxl rt Q h cells slots pc L (.int y :: .int x :: S) := by
  obtain ⟨d, rfl⟩ := d
  exact own_step (fun hx _ hby _ X _ _ q => iremM X hx rfl (hb hby d) rfl hy q) k
theorem own_ineg {x : Int32} (d : own_D cod pc (.ineg) 1 pc') (k : own_V l Z n0 R own nm cod mxl rt Q h cells slots pc' L (.int (-x) :: S)) : own_V l Z n0 R own nm cod mxl rt Q h cells slots pc L (.int x :: S) := by
  obtain ⟨d, rfl⟩ := d
  exact own_step (fun hx _ hby _ X _ _ q => XS.ineg X.here hx rfl (hb hby d) rfl q) k
theorem own_i2l {x : Int32} (d : own_D cod pc (.i2l) 1 pc') (k : own_V l Z n0 R own nm cod mxl rt Q h cells slots pc' L (.long x.toInt64 :: S)) : own_V l Z n0 R own nm cod mxl rt Q h cells slots pc L (.int x :: S) := by
  obtain ⟨d, rfl⟩ := d
  exact own_step (fun hx _ hby _ X _ _ q => XS.i2l X.here hx rfl (hb hby d) rfl q) k
theorem own_i2b {x : Int32} (d : own_D cod pc (.i2b) 1 pc') (k : own_V l Z n0 R own nm cod mxl rt Q h cells slots pc' L (.int x.toInt8.toInt32 :: S)) : own_V l Z n0 R own nm cod mxl rt Q h cells slots pc L (.int x :: S) := by
  obtain ⟨d, rfl⟩ := d
  exact own_step (fun hx _ hby _ X _ _ q => XS.i2b X.here hx rfl (hb hby d) rfl q) k
theorem own_i2c {x : Int32} (d : own_D cod pc (.i2c) 1 pc') (k : own_V l Z n0 R own nm cod mxl rt Q h cells slots pc' L (.int x.toUInt32.toUInt16.toUInt32.toInt32 :: S)) : own_V l Z n0 R own nm cod mxl rt Q h cells slots pc L (.int x :: S) := by
  obtain ⟨d, rfl⟩ := d
  exact own_step (fun hx _ hby _ X _ _ q => XS.i2c X.here hx rfl (hb hby d) rfl q) k
theorem own_i2s {x : Int32} (d : own_D cod pc (.i2s) 1 pc') (k : own_V l Z n0 R own nm cod mxl rt Q h cells slots pc' L (.int x.toInt16.toInt32 :: S)) : own_V l Z n0 R own nm cod mxl rt Q h cells slots pc L (.int x :: S) := by
  obtain ⟨d, rfl⟩ := d
  exact own_step (fun hx _ hby _ X _ _ q => XS.i2s X.here hx rfl (hb hby d) rfl q) k
theorem own_l2i {x : Int64} (d : own_D cod pc (.l2i) 1 pc') (k : own_V l Z n0 R own nm cod mxl rt Q h cells slots pc' L (.int x.toInt32 :: S)) : own_V l Z n0 R own nm cod mxl rt Q h cells slots pc L (.long x :: S) := by
  obtain ⟨d, rfl⟩ := d
  exact own_step (fun hx _ hby _ X _ _ q => XS.l2i X.here hx rfl (hb hby d) rfl q) k
theorem own_lneg {x : Int64} (d : own_D cod pc (.lneg) 1 pc') (k : own_V l Z n0 R own nm cod mxl rt Q h cells slots pc' L (.long (-x) :: S)) : own_V l Z n0 R own nm cod mxl rt Q h cells slots pc L (.long x :: S) := by
  obtain ⟨d, rfl⟩ := d
  exact own_step (fun hx _ hby _ X _ _ q => XS.lneg X.here hx rfl (hb hby d) rfl q) k
theorem own_iconst {i : Int} {x : Int32} (d : own_D cod pc (.iconst i) 1 pc') (hx : Int32.ofInt i = x) (k : own_V l Z n0 R own nm cod mxl rt Q h cells slots pc' L (.int x :: S)) : own_V l Z n0 R own nm cod mxl rt Q h cells slots pc L S := by
  obtain ⟨d, rfl⟩ := d
  subst hx
  exact own_step (fun hx _ hby _ X _ _ q => XS.iconst X.here hx rfl (hb hby d) q) k
theorem own_bipush {i : Int} {x : Int32} (d : own_D cod pc (.bipush i) 2 pc') (hx : (Int8.ofInt i).toInt32 = x) (k : own_V l Z n0 R own nm cod mxl rt Q h cells slots pc' L (.int x :: S)) : own_V l Z n0 R own nm cod mxl rt Q h cells slots pc L S := by
  obtain ⟨d, rfl⟩ := d
  subst hx
  exact own_step (fun hx _ hby _ X _ _ q => XS.bipush X.here hx rfl (hb hby d) q) k
theorem own_sipush {i : Int} {x : Int32} (d : own_D cod pc (.sipush i) 3 pc') (hx : (Int16.ofInt i).toInt32 = x) (k : own_V l Z n0 R own nm cod mxl rt Q h cells slots pc' L (.int x :: S)) : own_V l Z n0 R own nm cod mxl rt Q h cells slots pc L S := by
  obtain ⟨d, rfl⟩ := d
  subst hx
  exact own_step (fun hx _ hby _ X _ _ q => XS.sipush X.here hx rfl (hb hby d) q) k
theorem own_lconst {i : Fin 2} {x : Int64} (d : own_D cod pc (.lconst i) 1 pc') (hx : Int64.ofNat i = x) (k : own_V l Z n0 R own nm cod mxl rt Q h cells slots pc' L (.long x :: S)) : own_V l Z n0 R own nm cod mxl rt Q h cells slots pc L S := by
  obtain ⟨d, rfl⟩ := d
  subst hx
  exact own_step (fun hx _ hby _ X _ _ q => XS.lconst X.here hx rfl (hb hby d) q) k
theorem own_aconstNull (d : own_D cod pc (.aconst_null) 1 pc') (k : own_V l Z n0 R own nm cod mxl rt Q h cells slots pc' L (.null :: S)) : own_V l Z n0 R own nm cod mxl rt Q h cells slots pc L (S) := by
  obtain ⟨d, rfl⟩ := d
  exact own_step (fun hx _ hby _ X _ _ q => XS.aconstNull X.here hx rfl (hb hby d) q) k
theorem own_iload {j : Nat} {x : Int32} (d : own_D cod pc (.iload j) 2 pc') (hl : L[j]? = some (.val (.int x))) (k : own_V l Z n0 R own nm cod mxl rt Q h cells slots pc' L (.int x :: S)) : own_V l Z n0 R own nm cod mxl rt Q h cells slots pc L (S) := by
  obtain ⟨d, rfl⟩ := d
  exact own_step (fun hx _ hby _ X _ _ q => XS.iload X.here hx rfl (hb hby d) hl q) k
theorem own_iloadN {j : Fin 4} {x : Int32} (d : own_D cod pc (.iload_n j) 1 pc') (hl : L[j.val]? = some (.val (.int x))) (k : own_V l Z n0 R own nm cod mxl rt Q h cells slots pc' L (.int x :: S)) : own_V l Z n0 R own nm cod mxl rt Q h cells slots pc L (S) := by
  obtain ⟨d, rfl⟩ := d
  exact own_step (fun hx _ hby _ X _ _ q => XS.iloadN X.here hx rfl (hb hby d) hl q) k
theorem own_lload {j : Nat} {x : Int64} (d : own_D cod pc (.lload j) 2 pc') (hl : L[j]? = some (.val (.long x))) (k : own_V l Z n0 R own nm cod mxl rt Q h cells slots pc' L (.long x :: S)) : own_V l Z n0 R own nm cod mxl rt Q h cells slots pc L (S) := by
  obtain ⟨d, rfl⟩ := d
  exact own_step (fun hx _ hby _ X _ _ q => XS.lload X.here hx rfl (hb hby d) hl q) k
theorem own_lloadN {j : Fin 4} {x : Int64} (d : own_D cod pc (.lload_n j) 1 pc') (hl : L[j.val]? = some (.val (.long x))) (k : own_V l Z n0 R own nm cod mxl rt Q h cells slots pc' L (.long x :: S)) : own_V l Z n0 R own nm cod mxl rt Q h cells slots pc L (S) := by
  obtain ⟨d, rfl⟩ := d
  exact own_step (fun hx _ hby _ X _ _ q => XS.lloadN X.here hx rfl (hb hby d) hl q) k
theorem own_aload {j : Nat} {x : Value} (d : own_D cod pc (.aload j) 2 pc') (hl : L[j]? = some (.val x)) (hv : x.isRef = true) (k : own_V l Z n0 R own nm cod mxl rt Q h cells slots pc' L (x :: S)) : own_V l Z n0 R own nm cod mxl rt Q h cells slots pc L (S) := by
  obtain ⟨d, rfl⟩ := d
  exact own_step (fun hx _ hby _ X _ _ q => XS.aload X.here hx rfl (hb hby d) hl hv q) k
theorem own_aloadN {j : Fin 4} {x : Value} (d : own_D cod pc (.aload_n j) 1 pc') (hl : L[j.val]? = some (.val x)) (hv : x.isRef = true) (k : own_V l Z n0 R own nm cod mxl rt Q h cells slots pc' L (x :: S)) : own_V l Z n0 R own nm cod mxl rt Q h cells slots pc L (S) := by
  obtain ⟨d, rfl⟩ := d
  exact own_step (fun hx _ hby _ X _ _ q => XS.aloadN X.here hx rfl (hb hby d) hl hv q) k
theorem own_istore {j : Nat} {x : Int32} (d : own_D cod pc (.istore j) 2 pc') (hl : storeLocals L j (.int x) = some L') (k : own_V l Z n0 R own nm cod mxl rt Q h cells slots pc' L' S) : own_V l Z n0 R own nm cod mxl rt Q h cells slots pc L (.int x :: S) := by
  obtain ⟨d, rfl⟩ := d
  exact own_step (fun hx _ hby _ X _ _ q => XS.istore X.here hx rfl (hb hby d) rfl hl q) k
theorem own_istoreN {j : Fin 4} {x : Int32} (d : own_D cod pc (.istore_n j) 1 pc') (hl : storeLocals L j.val (.int x) = some L') (k : own_V l Z n0 R own nm cod mxl rt Q h cells slots pc' L' S) : own_V l Z n0 R own nm cod mxl rt Q h cells slots pc L (.int x :: S) := by
  obtain ⟨d, rfl⟩ := d
  exact own_step (fun hx _ hby _ X _ _ q => XS.istoreN X.here hx rfl (hb hby d) rfl hl q) k
theorem own_lstore {j : Nat} {x : Int64} (d : own_D cod pc (.lstore j) 2 pc') (hl : storeLocals L j (.long x) = some L') (k : own_V l Z n0 R own nm cod mxl rt Q h cells slots pc' L' S) : own_V l Z n0 R own nm cod mxl rt Q h cells slots pc L (.long x :: S) := by
  obtain ⟨d, rfl⟩ := d
  exact own_step (fun hx _ hby _ X _ _ q => XS.lstore X.here hx rfl (hb hby d) rfl hl q) k
theorem own_lstoreN {j : Fin 4} {x : Int64} (d : own_D cod pc (.lstore_n j) 1 pc') (hl : storeLocals L j.val (.long x) = some L') (k : own_V l Z n0 R own nm cod mxl rt Q h cells slots pc' L' S) : own_V l Z n0 R own nm cod mxl rt Q h cells slots pc L (.long x :: S) := by
  obtain ⟨d, rfl⟩ := d
  exact own_step (fun hx _ hby _ X _ _ q => XS.lstoreN X.here hx rfl (hb hby d) rfl hl q) k
theorem own_astore {j : Nat} {x : Value} (d : own_D cod pc (.astore j) 2 pc') (hv : x.isRef = true) (hl : storeLocals L j x = some L') (k : own_V l Z n0 R own nm cod mxl rt Q h cells slots pc' L' S) : own_V l Z n0 R own nm cod mxl rt Q h cells slots pc L (x :: S) := by
  obtain ⟨d, rfl⟩ := d
  exact own_step (fun hx _ hby _ X _ _ q => XS.astore X.here hx rfl (hb hby d) rfl hv hl q) k
theorem own_astoreN {j : Fin 4} {x : Value} (d : own_D cod pc (.astore_n j) 1 pc') (hv : x.isRef = true) (hl : storeLocals L j.val x = some L') (k : own_V l Z n0 R own nm cod mxl rt Q h cells slots pc' L' S) : own_V l Z n0 R own nm cod mxl rt Q h cells slots pc L (x :: S) := by
  obtain ⟨d, rfl⟩ := d
  exact own_step (fun hx _ hby _ X _ _ q => XS.astoreN X.here hx rfl (hb hby d) rfl hv hl q) k
theorem own_iinc {j : Nat} {cst : Int} {x z : Int32} (d : own_D cod pc (.iinc j cst) 3 pc') (hl : L[j]? = some (.val (.int x))) (hz : Int32.ofInt cst = z) (hl' : storeLocals L j (.int (x + z)) = some L') (k : own_V l Z n0 R own nm cod mxl rt Q h cells slots pc' L' S) : own_V l Z n0 R own nm cod mxl rt Q h cells slots pc L S := by
  obtain ⟨d, rfl⟩ := d
  subst hz
  exact own_step (fun hx _ hby _ X _ _ q => XS.iinc X.here hx rfl (hb hby d) hl hl' q) k
theorem own_dup {x : Value} (d : own_D cod pc (.dup) 1 pc') (hc : x.category = 1) (k : own_V l Z n0 R own nm cod mxl rt Q h cells slots pc' L (x :: x :: S)) : own_V l Z n0 R own nm cod mxl rt Q h cells slots pc L (x :: S) := by
  obtain ⟨d, rfl⟩ := d
  exact own_step (fun hx _ hby _ X _ _ q => XS.dup X.here hx rfl (hb hby d) rfl hc q) k
theorem own_pop {x : Value} (d : own_D cod pc (.pop) 1 pc') (hc : x.category = 1) (k : own_V l Z n0 R own nm cod mxl rt Q h cells slots pc' L S) : own_V l Z n0 R own nm cod mxl rt Q h cells slots pc L (x :: S) := by
  obtain ⟨d, rfl⟩ := d
  exact own_step (fun hx _ hby _ X _ _ q => XS.pop X.here hx rfl (hb hby d) rfl hc q) k
theorem own_dupX1 {x y : Value} (d : own_D cod pc (.dup_x1) 1 pc') (hc : x.category = 1) (hc2 : y.category = 1) (k : own_V l Z n0 R own nm cod mxl rt Q h cells slots pc' L (x :: y :: x :: S)) : own_V l Z n0 R own nm cod mxl rt Q h cells slots pc L (x :: y :: S) := by
  obtain ⟨d, rfl⟩ := d
  exact own_step (fun hx _ hby _ X _ _ q => XS.dupX1 X.here hx rfl (hb hby d) rfl hc hc2 q) k
theorem own_goto {o : Int} {t : Nat} (d : own_B cod pc (.goto o) o pc' t) (k : own_V l Z n0 R own nm cod mxl rt Q h cells slots t L S) : own_V l Z n0 R own nm cod mxl rt Q h cells slots pc L S := by
  obtain ⟨d, -, h1, rfl⟩ := d
  exact own_step (fun hx _ hby _ X _ _ q => XS.goto X.here hx rfl rfl (hb hby d) h1 rfl q) k
theorem own_icmpB {cd : ClassFile.Cond} {o : Int} {t : Nat} {x y : Int32} (d : own_B cod pc (.if_icmp cd o) o pc' t) (k1 : if_icmp.holds cd x y = true → own_V l Z n0 R own nm cod mxl rt Q h cells slots t L S) (k2 : if_icmp.holds cd x y = false → own_V l Z n0 R own nm cod mxl rt Q h cells slots pc' L S) : own_V l Z n0 R own nm cod mxl rt Q h cells slots pc L (.int y :: .int x :: S) := by
  obtain ⟨d, rfl, h1, rfl⟩ := d
  cases q : if_icmp.holds cd x y
  · exact own_step (fun hx _ hby _ X _ _ w => XS.icmpNo X.here hx rfl (hb hby d) rfl q w) (k2 q)
  · exact own_step (fun hx _ hby _ X _ _ w => XS.icmpYes X.here hx rfl rfl (hb hby d) rfl q h1 rfl w) (k1 q)
theorem own_ifB {cd : ClassFile.Cond} {o : Int} {t : Nat} {x : Int32} (d : own_B cod pc (.ifCond cd o) o pc' t) (k1 : if_icmp.holds cd x 0 = true → own_V l Z n0 R own nm cod mxl rt Q h cells slots t L S) (k2 : if_icmp.holds cd x 0 = false → own_V l Z n0 R own nm cod mxl rt Q h cells slots pc' L S) : own_V l Z n0 R own nm cod mxl rt Q h cells slots pc L (.int x :: S) := by
  obtain ⟨d, rfl, h1, rfl⟩ := d
  cases q : if_icmp.holds cd x 0
  · exact own_step (fun hx _ hby _ X _ _ w => XS.ifNo X.here hx rfl (hb hby d) rfl ((if0 _ _).trans q) w) (k2 q)
  · exact own_step (fun hx _ hby _ X _ _ w => XS.ifYes X.here hx rfl rfl (hb hby d) rfl ((if0 _ _).trans q) h1 rfl w) (k1 q)
theorem own_lcmpB {cd : ClassFile.Cond} {o : Int} {t pc1 : Nat} {x y : Int64} (d1 : own_D cod pc (.lcmp) 1 pc1) (d : own_B cod pc1 (.ifCond cd o) o pc' t) (k1 : if_icmp.holds cd (lcmpW x y) 0 = true → own_V l Z n0 R own nm cod mxl rt Q h cells slots t L S) (k2 : if_icmp.holds cd (lcmpW x y) 0 = false → own_V l Z n0 R own nm cod mxl rt Q h cells slots pc' L S) : own_V l Z n0 R own nm cod mxl rt Q h cells slots pc L (.long y :: .long x :: S) := by
  obtain ⟨d1, rfl⟩ := d1
  exact own_step (fun hx _ hby _ X _ _ w => XS.lcmp X.here hx rfl (hb hby d1) rfl w) (own_ifB d k1 k2)
theorem own_ricmpLt {x y : Int32} : if_icmp.holds .lt x y = true ↔ x.toInt < y.toInt := by
  have z0 : (0 : Int32).toInt = 0 := rfl
  simp only [if_icmp.holds, decide_eq_true_eq, Int32.lt_iff_toInt_lt, Int32.le_iff_toInt_le, gt_iff_lt, ge_iff_le, z0]
theorem own_icmpLt {o : Int} {t : Nat} {x y : Int32} (d : own_B cod pc (.if_icmp .lt o) o pc' t) (k1 : x.toInt < y.toInt → own_V l Z n0 R own nm cod mxl rt Q h cells slots t L S) (k2 : ¬ (x.toInt < y.toInt) → own_V l Z n0 R own nm cod mxl rt Q h cells slots pc' L S) : own_V l Z n0 R own nm cod mxl rt Q h cells slots pc L (.int y :: .int x :: S) :=
  own_icmpB d (fun q => k1 (own_ricmpLt.mp q)) (fun q => k2 fun w => by rw [own_ricmpLt.mpr w] at q; cases q)
theorem own_rifLt {x : Int32} : if_icmp.holds .lt x 0 = true ↔ x.toInt < (0 : Int) := by
  have z0 : (0 : Int32).toInt = 0 := rfl
  simp only [if_icmp.holds, decide_eq_true_eq, Int32.lt_iff_toInt_lt, Int32.le_iff_toInt_le, gt_iff_lt, ge_iff_le, z0]
theorem own_ifLt {o : Int} {t : Nat} {x : Int32} (d : own_B cod pc (.ifCond .lt o) o pc' t) (k1 : x.toInt < (0 : Int) → own_V l Z n0 R own nm cod mxl rt Q h cells slots t L S) (k2 : ¬ (x.toInt < (0 : Int)) → own_V l Z n0 R own nm cod mxl rt Q h cells slots pc' L S) : own_V l Z n0 R own nm cod mxl rt Q h cells slots pc L (.int x :: S) :=
  own_ifB d (fun q => k1 (own_rifLt.mp q)) (fun q => k2 fun w => by rw [own_rifLt.mpr w] at q; cases q)
theorem own_rlcmpLt {x y : Int64} : if_icmp.holds .lt (lcmpW x y) 0 = true ↔ x.toInt < y.toInt := by
  have e := lw_lt x y; have e2 := lw_gt x y; rw [Int64.lt_iff_toInt_lt] at e e2; rw [Int32.lt_iff_toInt_lt] at e e2
  have z0 : (0 : Int32).toInt = 0 := rfl
  simp only [if_icmp.holds, decide_eq_true_eq, Int32.lt_iff_toInt_lt, Int32.le_iff_toInt_le, gt_iff_lt, ge_iff_le, z0] at *
  omega
theorem own_lcmpLt {o : Int} {t pc1 : Nat} {x y : Int64} (d1 : own_D cod pc (.lcmp) 1 pc1) (d : own_B cod pc1 (.ifCond .lt o) o pc' t) (k1 : x.toInt < y.toInt → own_V l Z n0 R own nm cod mxl rt Q h cells slots t L S) (k2 : ¬ (x.toInt < y.toInt) → own_V l Z n0 R own nm cod mxl rt Q h cells slots pc' L S) : own_V l Z n0 R own nm cod mxl rt Q h cells slots pc L (.long y :: .long x :: S) :=
  own_lcmpB d1 d (fun q => k1 (own_rlcmpLt.mp q)) (fun q => k2 fun w => by rw [own_rlcmpLt.mpr w] at q; cases q)
theorem own_ricmpGe {x y : Int32} : if_icmp.holds .ge x y = true ↔ x.toInt ≥ y.toInt := by
  have z0 : (0 : Int32).toInt = 0 := rfl
  simp only [if_icmp.holds, decide_eq_true_eq, Int32.lt_iff_toInt_lt, Int32.le_iff_toInt_le, gt_iff_lt, ge_iff_le, z0]
theorem own_icmpGe {o : Int} {t : Nat} {x y : Int32} (d : own_B cod pc (.if_icmp .ge o) o pc' t) (k1 : x.toInt ≥ y.toInt → own_V l Z n0 R own nm cod mxl rt Q h cells slots t L S) (k2 : ¬ (x.toInt ≥ y.toInt) → own_V l Z n0 R own nm cod mxl rt Q h cells slots pc' L S) : own_V l Z n0 R own nm cod mxl rt Q h cells slots pc L (.int y :: .int x :: S) :=
  own_icmpB d (fun q => k1 (own_ricmpGe.mp q)) (fun q => k2 fun w => by rw [own_ricmpGe.mpr w] at q; cases q)
theorem own_rifGe {x : Int32} : if_icmp.holds .ge x 0 = true ↔ x.toInt ≥ (0 : Int) := by
  have z0 : (0 : Int32).toInt = 0 := rfl
  simp only [if_icmp.holds, decide_eq_true_eq, Int32.lt_iff_toInt_lt, Int32.le_iff_toInt_le, gt_iff_lt, ge_iff_le, z0]
theorem own_ifGe {o : Int} {t : Nat} {x : Int32} (d : own_B cod pc (.ifCond .ge o) o pc' t) (k1 : x.toInt ≥ (0 : Int) → own_V l Z n0 R own nm cod mxl rt Q h cells slots t L S) (k2 : ¬ (x.toInt ≥ (0 : Int)) → own_V l Z n0 R own nm cod mxl rt Q h cells slots pc' L S) : own_V l Z n0 R own nm cod mxl rt Q h cells slots pc L (.int x :: S) :=
  own_ifB d (fun q => k1 (own_rifGe.mp q)) (fun q => k2 fun w => by rw [own_rifGe.mpr w] at q; cases q)
theorem own_rlcmpGe {x y : Int64} : if_icmp.holds .ge (lcmpW x y) 0 = true ↔ x.toInt ≥ y.toInt := by
  have e := lw_lt x y; have e2 := lw_gt x y; rw [Int64.lt_iff_toInt_lt] at e e2; rw [Int32.lt_iff_toInt_lt] at e e2
  have z0 : (0 : Int32).toInt = 0 := rfl
  simp only [if_icmp.holds, decide_eq_true_eq, Int32.lt_iff_toInt_lt, Int32.le_iff_toInt_le, gt_iff_lt, ge_iff_le, z0] at *
  omega
theorem own_lcmpGe {o : Int} {t pc1 : Nat} {x y : Int64} (d1 : own_D cod pc (.lcmp) 1 pc1) (d : own_B cod pc1 (.ifCond .ge o) o pc' t) (k1 : x.toInt ≥ y.toInt → own_V l Z n0 R own nm cod mxl rt Q h cells slots t L S) (k2 : ¬ (x.toInt ≥ y.toInt) → own_V l Z n0 R own nm cod mxl rt Q h cells slots pc' L S) : own_V l Z n0 R own nm cod mxl rt Q h cells slots pc L (.long y :: .long x :: S) :=
  own_lcmpB d1 d (fun q => k1 (own_rlcmpGe.mp q)) (fun q => k2 fun w => by rw [own_rlcmpGe.mpr w] at q; cases q)
theorem own_ricmpGt {x y : Int32} : if_icmp.holds .gt x y = true ↔ x.toInt > y.toInt := by
  have z0 : (0 : Int32).toInt = 0 := rfl
  simp only [if_icmp.holds, decide_eq_true_eq, Int32.lt_iff_toInt_lt, Int32.le_iff_toInt_le, gt_iff_lt, ge_iff_le, z0]
theorem own_icmpGt {o : Int} {t : Nat} {x y : Int32} (d : own_B cod pc (.if_icmp .gt o) o pc' t) (k1 : x.toInt > y.toInt → own_V l Z n0 R own nm cod mxl rt Q h cells slots t L S) (k2 : ¬ (x.toInt > y.toInt) → own_V l Z n0 R own nm cod mxl rt Q h cells slots pc' L S) : own_V l Z n0 R own nm cod mxl rt Q h cells slots pc L (.int y :: .int x :: S) :=
  own_icmpB d (fun q => k1 (own_ricmpGt.mp q)) (fun q => k2 fun w => by rw [own_ricmpGt.mpr w] at q; cases q)
theorem own_rifGt {x : Int32} : if_icmp.holds .gt x 0 = true ↔ x.toInt > (0 : Int) := by
  have z0 : (0 : Int32).toInt = 0 := rfl
  simp only [if_icmp.holds, decide_eq_true_eq, Int32.lt_iff_toInt_lt, Int32.le_iff_toInt_le, gt_iff_lt, ge_iff_le, z0]
theorem own_ifGt {o : Int} {t : Nat} {x : Int32} (d : own_B cod pc (.ifCond .gt o) o pc' t) (k1 : x.toInt > (0 : Int) → own_V l Z n0 R own nm cod mxl rt Q h cells slots t L S) (k2 : ¬ (x.toInt > (0 : Int)) → own_V l Z n0 R own nm cod mxl rt Q h cells slots pc' L S) : own_V l Z n0 R own nm cod mxl rt Q h cells slots pc L (.int x :: S) :=
  own_ifB d (fun q => k1 (own_rifGt.mp q)) (fun q => k2 fun w => by rw [own_rifGt.mpr w] at q; cases q)
theorem own_rlcmpGt {x y : Int64} : if_icmp.holds .gt (lcmpW x y) 0 = true ↔ x.toInt > y.toInt := by
  have e := lw_lt x y; have e2 := lw_gt x y; rw [Int64.lt_iff_toInt_lt] at e e2; rw [Int32.lt_iff_toInt_lt] at e e2
  have z0 : (0 : Int32).toInt = 0 := rfl
  simp only [if_icmp.holds, decide_eq_true_eq, Int32.lt_iff_toInt_lt, Int32.le_iff_toInt_le, gt_iff_lt, ge_iff_le, z0] at *
  omega
theorem own_lcmpGt {o : Int} {t pc1 : Nat} {x y : Int64} (d1 : own_D cod pc (.lcmp) 1 pc1) (d : own_B cod pc1 (.ifCond .gt o) o pc' t) (k1 : x.toInt > y.toInt → own_V l Z n0 R own nm cod mxl rt Q h cells slots t L S) (k2 : ¬ (x.toInt > y.toInt) → own_V l Z n0 R own nm cod mxl rt Q h cells slots pc' L S) : own_V l Z n0 R own nm cod mxl rt Q h cells slots pc L (.long y :: .long x :: S) :=
  own_lcmpB d1 d (fun q => k1 (own_rlcmpGt.mp q)) (fun q => k2 fun w => by rw [own_rlcmpGt.mpr w] at q; cases q)
theorem own_ricmpLe {x y : Int32} : if_icmp.holds .le x y = true ↔ x.toInt ≤ y.toInt := by
  have z0 : (0 : Int32).toInt = 0 := rfl
  simp only [if_icmp.holds, decide_eq_true_eq, Int32.lt_iff_toInt_lt, Int32.le_iff_toInt_le, gt_iff_lt, ge_iff_le, z0]
theorem own_icmpLe {o : Int} {t : Nat} {x y : Int32} (d : own_B cod pc (.if_icmp .le o) o pc' t) (k1 : x.toInt ≤ y.toInt → own_V l Z n0 R own nm cod mxl rt Q h cells slots t L S) (k2 : ¬ (x.toInt ≤ y.toInt) → own_V l Z n0 R own nm cod mxl rt Q h cells slots pc' L S) : own_V l Z n0 R own nm cod mxl rt Q h cells slots pc L (.int y :: .int x :: S) :=
  own_icmpB d (fun q => k1 (own_ricmpLe.mp q)) (fun q => k2 fun w => by rw [own_ricmpLe.mpr w] at q; cases q)
theorem own_rifLe {x : Int32} : if_icmp.holds .le x 0 = true ↔ x.toInt ≤ (0 : Int) := by
  have z0 : (0 : Int32).toInt = 0 := rfl
  simp only [if_icmp.holds, decide_eq_true_eq, Int32.lt_iff_toInt_lt, Int32.le_iff_toInt_le, gt_iff_lt, ge_iff_le, z0]
theorem own_ifLe {o : Int} {t : Nat} {x : Int32} (d : own_B cod pc (.ifCond .le o) o pc' t) (k1 : x.toInt ≤ (0 : Int) → own_V l Z n0 R own nm cod mxl rt Q h cells slots t L S) (k2 : ¬ (x.toInt ≤ (0 : Int)) → own_V l Z n0 R own nm cod mxl rt Q h cells slots pc' L S) : own_V l Z n0 R own nm cod mxl rt Q h cells slots pc L (.int x :: S) :=
  own_ifB d (fun q => k1 (own_rifLe.mp q)) (fun q => k2 fun w => by rw [own_rifLe.mpr w] at q; cases q)
theorem own_rlcmpLe {x y : Int64} : if_icmp.holds .le (lcmpW x y) 0 = true ↔ x.toInt ≤ y.toInt := by
  have e := lw_lt x y; have e2 := lw_gt x y; rw [Int64.lt_iff_toInt_lt] at e e2; rw [Int32.lt_iff_toInt_lt] at e e2
  have z0 : (0 : Int32).toInt = 0 := rfl
  simp only [if_icmp.holds, decide_eq_true_eq, Int32.lt_iff_toInt_lt, Int32.le_iff_toInt_le, gt_iff_lt, ge_iff_le, z0] at *
  omega
theorem own_lcmpLe {o : Int} {t pc1 : Nat} {x y : Int64} (d1 : own_D cod pc (.lcmp) 1 pc1) (d : own_B cod pc1 (.ifCond .le o) o pc' t) (k1 : x.toInt ≤ y.toInt → own_V l Z n0 R own nm cod mxl rt Q h cells slots t L S) (k2 : ¬ (x.toInt ≤ y.toInt) → own_V l Z n0 R own nm cod mxl rt Q h cells slots pc' L S) : own_V l Z n0 R own nm cod mxl rt Q h cells slots pc L (.long y :: .long x :: S) :=
  own_lcmpB d1 d (fun q => k1 (own_rlcmpLe.mp q)) (fun q => k2 fun w => by rw [own_rlcmpLe.mpr w] at q; cases q)
theorem own_ricmpEq {x y : Int32} : if_icmp.holds .eq x y = true ↔ x.toInt = y.toInt := by
  have e : True := trivial
  have e0 : ∀ x : Int32, x = 0 ↔ x.toInt = 0 := fun x => ⟨fun q => by rw [q]; rfl, fun q => Int32.toInt_inj.mp (q.trans rfl)⟩
  simp only [if_icmp.holds, beq_iff_eq, bne_iff_ne, ne_eq, Int32.toInt_inj]
theorem own_icmpEq {o : Int} {t : Nat} {x y : Int32} (d : own_B cod pc (.if_icmp .eq o) o pc' t) (k1 : x.toInt = y.toInt → own_V l Z n0 R own nm cod mxl rt Q h cells slots t L S) (k2 : ¬ (x.toInt = y.toInt) → own_V l Z n0 R own nm cod mxl rt Q h cells slots pc' L S) : own_V l Z n0 R own nm cod mxl rt Q h cells slots pc L (.int y :: .int x :: S) :=
  own_icmpB d (fun q => k1 (own_ricmpEq.mp q)) (fun q => k2 (by
    have e : ¬ (x.toInt = y.toInt) := fun w => by rw [own_ricmpEq.mpr w] at q; cases q
    first | exact e | exact Decidable.not_not.mp e))
theorem own_rifEq {x : Int32} : if_icmp.holds .eq x 0 = true ↔ x.toInt = (0 : Int) := by
  have e : True := trivial
  have e0 : ∀ x : Int32, x = 0 ↔ x.toInt = 0 := fun x => ⟨fun q => by rw [q]; rfl, fun q => Int32.toInt_inj.mp (q.trans rfl)⟩
  simp only [if_icmp.holds, beq_iff_eq, bne_iff_ne, ne_eq, e0]
theorem own_ifEq {o : Int} {t : Nat} {x : Int32} (d : own_B cod pc (.ifCond .eq o) o pc' t) (k1 : x.toInt = (0 : Int) → own_V l Z n0 R own nm cod mxl rt Q h cells slots t L S) (k2 : ¬ (x.toInt = (0 : Int)) → own_V l Z n0 R own nm cod mxl rt Q h cells slots pc' L S) : own_V l Z n0 R own nm cod mxl rt Q h cells slots pc L (.int x :: S) :=
  own_ifB d (fun q => k1 (own_rifEq.mp q)) (fun q => k2 (by
    have e : ¬ (x.toInt = (0 : Int)) := fun w => by rw [own_rifEq.mpr w] at q; cases q
    first | exact e | exact Decidable.not_not.mp e))
theorem own_rlcmpEq {x y : Int64} : if_icmp.holds .eq (lcmpW x y) 0 = true ↔ x.toInt = y.toInt := by
  have e : (lcmpW x y = 0 ↔ x.toInt = y.toInt) := (lw_eq x y).trans Int64.toInt_inj.symm
  have e0 : ∀ x : Int32, x = 0 ↔ x.toInt = 0 := fun x => ⟨fun q => by rw [q]; rfl, fun q => Int32.toInt_inj.mp (q.trans rfl)⟩
  simp only [if_icmp.holds, beq_iff_eq, bne_iff_ne, ne_eq, e]
theorem own_lcmpEq {o : Int} {t pc1 : Nat} {x y : Int64} (d1 : own_D cod pc (.lcmp) 1 pc1) (d : own_B cod pc1 (.ifCond .eq o) o pc' t) (k1 : x.toInt = y.toInt → own_V l Z n0 R own nm cod mxl rt Q h cells slots t L S) (k2 : ¬ (x.toInt = y.toInt) → own_V l Z n0 R own nm cod mxl rt Q h cells slots pc' L S) : own_V l Z n0 R own nm cod mxl rt Q h cells slots pc L (.long y :: .long x :: S) :=
  own_lcmpB d1 d (fun q => k1 (own_rlcmpEq.mp q)) (fun q => k2 (by
    have e : ¬ (x.toInt = y.toInt) := fun w => by rw [own_rlcmpEq.mpr w] at q; cases q
    first | exact e | exact Decidable.not_not.mp e))
theorem own_ricmpNe {x y : Int32} : if_icmp.holds .ne x y = true ↔ ¬ (x.toInt = y.toInt) := by
  have e : True := trivial
  have e0 : ∀ x : Int32, x = 0 ↔ x.toInt = 0 := fun x => ⟨fun q => by rw [q]; rfl, fun q => Int32.toInt_inj.mp (q.trans rfl)⟩
  simp only [if_icmp.holds, beq_iff_eq, bne_iff_ne, ne_eq, Int32.toInt_inj]
theorem own_icmpNe {o : Int} {t : Nat} {x y : Int32} (d : own_B cod pc (.if_icmp .ne o) o pc' t) (k1 : ¬ (x.toInt = y.toInt) → own_V l Z n0 R own nm cod mxl rt Q h cells slots t L S) (k2 : x.toInt = y.toInt → own_V l Z n0 R own nm cod mxl rt Q h cells slots pc' L S) : own_V l Z n0 R own nm cod mxl rt Q h cells slots pc L (.int y :: .int x :: S) :=
  own_icmpB d (fun q => k1 (own_ricmpNe.mp q)) (fun q => k2 (by
    have e : ¬ (¬ (x.toInt = y.toInt)) := fun w => by rw [own_ricmpNe.mpr w] at q; cases q
    first | exact e | exact Decidable.not_not.mp e))
theorem own_rifNe {x : Int32} : if_icmp.holds .ne x 0 = true ↔ ¬ (x.toInt = (0 : Int)) := by
  have e : True := trivial
  have e0 : ∀ x : Int32, x = 0 ↔ x.toInt = 0 := fun x => ⟨fun q => by rw [q]; rfl, fun q => Int32.toInt_inj.mp (q.trans rfl)⟩
  simp only [if_icmp.holds, beq_iff_eq, bne_iff_ne, ne_eq, e0]
theorem own_ifNe {o : Int} {t : Nat} {x : Int32} (d : own_B cod pc (.ifCond .ne o) o pc' t) (k1 : ¬ (x.toInt = (0 : Int)) → own_V l Z n0 R own nm cod mxl rt Q h cells slots t L S) (k2 : x.toInt = (0 : Int) → own_V l Z n0 R own nm cod mxl rt Q h cells slots pc' L S) : own_V l Z n0 R own nm cod mxl rt Q h cells slots pc L (.int x :: S) :=
  own_ifB d (fun q => k1 (own_rifNe.mp q)) (fun q => k2 (by
    have e : ¬ (¬ (x.toInt = (0 : Int))) := fun w => by rw [own_rifNe.mpr w] at q; cases q
    first | exact e | exact Decidable.not_not.mp e))
theorem own_rlcmpNe {x y : Int64} : if_icmp.holds .ne (lcmpW x y) 0 = true ↔ ¬ (x.toInt = y.toInt) := by
  have e : (lcmpW x y = 0 ↔ x.toInt = y.toInt) := (lw_eq x y).trans Int64.toInt_inj.symm
  have e0 : ∀ x : Int32, x = 0 ↔ x.toInt = 0 := fun x => ⟨fun q => by rw [q]; rfl, fun q => Int32.toInt_inj.mp (q.trans rfl)⟩
  simp only [if_icmp.holds, beq_iff_eq, bne_iff_ne, ne_eq, e]
theorem own_lcmpNe {o : Int} {t pc1 : Nat} {x y : Int64} (d1 : own_D cod pc (.lcmp) 1 pc1) (d : own_B cod pc1 (.ifCond .ne o) o pc' t) (k1 : ¬ (x.toInt = y.toInt) → own_V l Z n0 R own nm cod mxl rt Q h cells slots t L S) (k2 : x.toInt = y.toInt → own_V l Z n0 R own nm cod mxl rt Q h cells slots pc' L S) : own_V l Z n0 R own nm cod mxl rt Q h cells slots pc L (.long y :: .long x :: S) :=
  own_lcmpB d1 d (fun q => k1 (own_rlcmpNe.mp q)) (fun q => k2 (by
    have e : ¬ (¬ (x.toInt = y.toInt)) := fun w => by rw [own_rlcmpNe.mpr w] at q; cases q
    first | exact e | exact Decidable.not_not.mp e))
theorem own_acmpEq {o : Int} {t : Nat} {v w : Value} (d : own_B cod pc (.if_acmp .eq o) o pc' t) (hv : v.isRef = true) (hw : w.isRef = true) (k1 : v = w → own_V l Z n0 R own nm cod mxl rt Q h cells slots t L S) (k2 : ¬ (v = w) → own_V l Z n0 R own nm cod mxl rt Q h cells slots pc' L S) : own_V l Z n0 R own nm cod mxl rt Q h cells slots pc L (w :: v :: S) := by
  obtain ⟨d, rfl, h1, rfl⟩ := d
  by_cases q : v = w
  · exact own_step (fun hx _ hby _ X _ _ z => Jvm.RoadKit.acmp X hx rfl hv hw (same := true) rfl (hb hby d) rfl (decide_eq_true q) h1 rfl z) (k1 q)
  · exact own_step (fun hx _ hby _ X _ _ z => Jvm.RoadKit.acmp X hx rfl hv hw (same := false) rfl (hb hby d) rfl (decide_eq_false q) h1 rfl z) (k2 q)
theorem own_acmpNe {o : Int} {t : Nat} {v w : Value} (d : own_B cod pc (.if_acmp .ne o) o pc' t) (hv : v.isRef = true) (hw : w.isRef = true) (k1 : ¬ (v = w) → own_V l Z n0 R own nm cod mxl rt Q h cells slots t L S) (k2 : v = w → own_V l Z n0 R own nm cod mxl rt Q h cells slots pc' L S) : own_V l Z n0 R own nm cod mxl rt Q h cells slots pc L (w :: v :: S) := by
  obtain ⟨d, rfl, h1, rfl⟩ := d
  by_cases q : v = w
  · exact own_step (fun hx _ hby _ X _ _ z => Jvm.RoadKit.acmp X hx rfl hv hw (same := true) rfl (hb hby d) rfl (decide_eq_true q) h1 rfl z) (k2 q)
  · exact own_step (fun hx _ hby _ X _ _ z => Jvm.RoadKit.acmp X hx rfl hv hw (same := false) rfl (hb hby d) rfl (decide_eq_false q) h1 rfl z) (k1 q)
theorem own_ifnullN {o : Int} {t : Nat} (d : own_B cod pc (.ifnull o) o pc' t) (k : own_V l Z n0 R own nm cod mxl rt Q h cells slots t L S) : own_V l Z n0 R own nm cod mxl rt Q h cells slots pc L (.null :: S) := by
  obtain ⟨d, -, h1, rfl⟩ := d
  exact own_step (fun hx _ hby _ X _ _ q => XS.ifnullYes X.here hx rfl rfl (hb hby d) rfl h1 rfl q) k
theorem own_ifnullR {o : Int} {t : Nat} {a : Addr} (d : own_B cod pc (.ifnull o) o pc' t) (k : own_V l Z n0 R own nm cod mxl rt Q h cells slots pc' L S) : own_V l Z n0 R own nm cod mxl rt Q h cells slots pc L (.ref a :: S) := by
  obtain ⟨d, rfl, -, -⟩ := d
  exact own_step (fun hx _ hby _ X _ _ q => XS.ifnullNo X.here hx rfl (hb hby d) rfl q) k
theorem own_ifnonnullR {o : Int} {t : Nat} {a : Addr} (d : own_B cod pc (.ifnonnull o) o pc' t) (k : own_V l Z n0 R own nm cod mxl rt Q h cells slots t L S) : own_V l Z n0 R own nm cod mxl rt Q h cells slots pc L (.ref a :: S) := by
  obtain ⟨d, -, h1, rfl⟩ := d
  exact own_step (fun hx _ hby _ X _ _ q => XS.ifnonnullYes X.here hx rfl rfl (hb hby d) rfl h1 rfl q) k
theorem own_ifnonnullN {o : Int} {t : Nat} (d : own_B cod pc (.ifnonnull o) o pc' t) (k : own_V l Z n0 R own nm cod mxl rt Q h cells slots pc' L S) : own_V l Z n0 R own nm cod mxl rt Q h cells slots pc L (.null :: S) := by
  obtain ⟨d, rfl, -, -⟩ := d
  exact own_step (fun hx _ hby _ X _ _ q => XS.ifnonnullNo X.here hx rfl (hb hby d) rfl q) k
theorem own_ldcI {i : Nat} {x : Int32} (d : own_D cod pc (.ldc i) 2 pc') (w : (Cond.constant own i x).before a0 Z = true) (k : own_V l Z n0 R own nm cod mxl rt Q h cells slots pc' L (.int x :: S)) : own_V l Z n0 R own nm cod mxl rt Q h cells slots pc L S := by
  obtain ⟨d, rfl⟩ := d
  exact own_step (fun hx hZ hby hown X _ _ q => X.ldcInt hx hown (mvT hZ w) (g := mkF _ pc L S) rfl (hb hby d) _ q) k
theorem own_ldcwI {i : Nat} {x : Int32} (d : own_D cod pc (.ldc_w i) 3 pc') (w : (Cond.constant own i x).before a0 Z = true) (k : own_V l Z n0 R own nm cod mxl rt Q h cells slots pc' L (.int x :: S)) : own_V l Z n0 R own nm cod mxl rt Q h cells slots pc L S := by
  obtain ⟨d, rfl⟩ := d
  exact own_step (fun hx hZ hby hown X _ _ q => X.ldcwInt hx hown (mvT hZ w) (g := mkF _ pc L S) rfl (hb hby d) _ q) k
theorem own_ldcJ {i : Nat} {x : Int64} (d : own_D cod pc (.ldc2_w i) 3 pc') (w : (Cond.constantLong own i x).before a0 Z = true) (k : own_V l Z n0 R own nm cod mxl rt Q h cells slots pc' L (.long x :: S)) : own_V l Z n0 R own nm cod mxl rt Q h cells slots pc L S := by
  obtain ⟨d, rfl⟩ := d
  exact own_step (fun hx hZ hby hown X _ _ q => X.ldc2Long hx hown (mvT hZ w) (g := mkF _ pc L S) rfl (hb hby d) _ q) k
theorem own_getS {i : Nat} {R0 O n ds : String} {v : Value} (d : own_D cod pc (.getstatic i) 3 pc') (w : (Cond.fieldLink own i R0 n ds).before a0 Z = true) (via : Via Z R0 O n ds) (F : Sta Z h O n ds v) (k : own_V l Z n0 R own nm cod mxl rt Q h cells slots pc' L (v :: S)) : own_V l Z n0 R own nm cod mxl rt Q h cells slots pc L S := by
  obtain ⟨d, rfl⟩ := d
  refine own_stepC (F := fun h' S' => h' = h ∧ S' = v :: S) (fun hx hZ hby _ hown _ X eT N => ?_) (by rintro h' S' ⟨rfl, rfl⟩; exact k)
  obtain ⟨T', X', e', st⟩ := getS (host := "") X hx hZ hown w via eT F (g := mkF _ pc L S) rfl (hb hby d)
  exact ⟨T', _, _, ⟨e', rfl⟩, X', N, st⟩
theorem own_getF {i : Nat} {R0 O n ds : String} {v : Value} {a : Addr} (d : own_D cod pc (.getfield i) 3 pc') (w : (Cond.fieldLink own i R0 n ds).before a0 Z = true) (via : Via Z R0 O n ds) (F : Fld Z h a O n ds v) (k : own_V l Z n0 R own nm cod mxl rt Q h cells slots pc' L (v :: S)) : own_V l Z n0 R own nm cod mxl rt Q h cells slots pc L (.ref a :: S) := by
  obtain ⟨d, rfl⟩ := d
  refine own_stepC (F := fun h' S' => h' = h ∧ S' = v :: S) (fun hx hZ hby _ hown _ X eT N => ?_) (by rintro h' S' ⟨rfl, rfl⟩; exact k)
  obtain ⟨T', X', e', st⟩ := getF (host := "") X hx hZ hown (Or.inl w) via eT F (g := mkF _ pc L (.ref a :: S)) rfl rfl (hb hby d)
  exact ⟨T', _, _, ⟨e', rfl⟩, X', N, st⟩
theorem own_putF {i kk : Nat} {R0 O C n ds : String} {v old : Value} {a : Addr} {ty : FieldType} (d : own_D cod pc (.putfield i) 3 pc') (w : (Cond.fieldLink own i R0 n ds).before a0 Z = true) (via : Via Z R0 O n ds) (F : Fld Z h a O n ds old) (E : Exa Z h a C)
    (Lw : (Cond.lays C O n ds).before a0 Z = true ∨ ((Cond.laysFinal C O n ds).before a0 Z = true ∧ own = O ∧ nm = "<init>")) (wi : (Cond.instantiable C kk).before a0 Z = true) (hty : parseFieldDescriptor ds = some ty) (hn : narrow ty v = v) (hf : fits ty v = true) (ha : n0 ≤ a)
    (k : ∀ h', Wr h h' a (Jvm.RoadKit.slotOf Z O n ds) v → own_V l Z n0 R own nm cod mxl rt Q h' cells slots pc' L S) : own_V l Z n0 R own nm cod mxl rt Q h cells slots pc L (v :: .ref a :: S) := by
  obtain ⟨d, rfl⟩ := d
  refine own_stepC (F := fun h' S' => Wr h h' a (Jvm.RoadKit.slotOf Z O n ds) v ∧ S' = S) (fun hx hZ hby _ hown hnm X eT N => ?_) (by rintro h' S' ⟨W, rfl⟩; exact k h' W)
  obtain ⟨T', h', X', e', W', st⟩ := putF (host := "") X hx hZ hown (Or.inl w) via eT F E (Lw.imp id fun q => ⟨q.1, q.2.1, hnm.trans q.2.2⟩) wi hty hn hf (g := mkF _ pc L (v :: .ref a :: S)) rfl rfl (hb hby d)
  subst e'
  exact ⟨T', _, _, ⟨W', rfl⟩, X', Fr.snoc X' N ha, st⟩
theorem own_new {i n cells' slots' : Nat} {C : String} (d : own_D cod pc (.new i) 3 pc') (w : (Cond.classLink own i C).before a0 Z = true) (wi : (Cond.instantiable C n).before a0 Z = true) (wz : (Cond.initialized C).before a0 Z = true) (hc : cells + 1 = cells') (hs : slots + n = slots') (hc' : cells' ≤ R.cells) (hs' : slots' ≤ R.slots)
    (k : ∀ h', Ext h h' → Exa Z h' h.size C → (∀ {O nf ds : String} {ty : FieldType}, Laid Z a0 C O nf ds → parseFieldDescriptor ds = some ty → Fld Z h' h.size O nf ds (defaultValue ty)) → own_V l Z n0 R own nm cod mxl rt Q h' cells' slots' pc' L (.ref h.size :: S)) : own_V l Z n0 R own nm cod mxl rt Q h cells slots pc L S := by
  obtain ⟨d, rfl⟩ := d
  subst hc hs
  refine own_stepC (F := fun h' S' => (Ext h h' ∧ Exa Z h' h.size C ∧ ∀ {O nf ds : String} {ty : FieldType}, Laid Z a0 C O nf ds → parseFieldDescriptor ds = some ty → Fld Z h' h.size O nf ds (defaultValue ty)) ∧ S' = .ref h.size :: S) (fun hx hZ hby _ hown _ X eT N => ?_) (by rintro h' S' ⟨⟨q1, q2, q3⟩, rfl⟩; exact k h' q1 q2 q3)
  obtain ⟨T', h', X', e', E', A', D', -, st⟩ := newO X hx hZ hown w wi wz eT (g := mkF _ pc L S) rfl (hb hby d) hc' hs'
  subst e'
  exact ⟨T', _, _, ⟨⟨E', A', D'⟩, rfl⟩, X', N, st⟩
theorem own_initO {i W : Nat} {a : Addr} (d : own_D cod pc (.invokespecial i) 3 pc') (w1 : (Cond.methodLink own i Lib.objectInit).before a0 Z = true) (w2 : (Cond.instanceMethod Lib.objectInit).before a0 Z = true) (w3 : (Cond.code Lib.objectInit ⟨#[0xb1]⟩ 1 none).before a0 Z = true) (hsz : L.size = mxl) (hf : 1 ≤ R.frames) (hW : (S.map fun v => v.category).sum ≤ W) (hl : W + 12 ≤ R.locals)
    (k : own_V l Z n0 R own nm cod mxl rt Q h cells slots pc' L S) : own_V l Z n0 R own nm cod mxl rt Q h cells slots pc L (.ref a :: S) := by
  obtain ⟨d, rfl⟩ := d
  refine own_stepC (F := fun h' S' => h' = h ∧ S' = S) (fun hx hZ hby hml hown _ X eT N => ?_) (by rintro h' S' ⟨rfl, rfl⟩; exact k)
  obtain ⟨T', X', e', st⟩ := initO X hx hZ hown w1 w2 w3 eT (g := mkF _ pc L (.ref a :: S)) rfl (by rw [hml]; exact hsz) rfl (hb hby d) hf (W := W) (by show 2 * 0 + _ ≤ _; simpa using hW) hl
  exact ⟨T', _, _, ⟨e', rfl⟩, X', N, st⟩
theorem own_ret0 (d : decode cod pc = .ok (.return_, 1)) (hrt : rt = none) (hc : cells ≤ R.cells) (hs : slots ≤ R.slots) (hQ : Q none h) : own_V l Z n0 R own nm cod mxl rt Q h cells slots pc L [] := by
  intro p e s m args below meth c T locs hx hZ hby hml hown hret hnm hlk X eT N
  obtain ⟨fs, hr, hrun, hended, hW, hsame⟩ := X.leave (v := none) (fun _ => rfl) hlk
  refine ⟨_, _, X.returnOut hx (hret.trans hrt) (hb hby d) hr, hrun, hended, _, _, rfl, ⟨?_, N⟩, ⟨_, rfl⟩, hW, hsame.mono hc hs⟩
  show Q none T.heap
  rw [eT]; exact hQ
theorem own_retV {v : Value} {t : FieldType} {i : Instr} (d : decode cod pc = .ok (i, 1)) (hrt : rt = some t) (hn : narrow t v = v)
    (hi : (i = .ireturn ∧ (t = .int ∨ t = .boolean ∨ t = .byte ∨ t = .char ∨ t = .short) ∧ ∃ z, v = .int z) ∨ (i = .lreturn ∧ t = .long ∧ ∃ z, v = .long z) ∨ (i = .dreturn ∧ t = .double ∧ ∃ z, v = .double z) ∨ (i = .freturn ∧ t = .float ∧ ∃ z, v = .float z) ∨ (i = .areturn ∧ t.isReference = true ∧ v.isRef = true))
    (hc : cells ≤ R.cells) (hs : slots ≤ R.slots) (hQ : Q (some v) h) : own_V l Z n0 R own nm cod mxl rt Q h cells slots pc L (v :: S) := by
  intro p e s m args below meth c T locs hx hZ hby hml hown hret hnm hlk X eT N
  obtain ⟨fs, hr, hrun, hended, hW, hsame⟩ := X.leave (v := some v) (fun q => by rw [hret, hrt] at q; cases q) hlk
  refine ⟨_, _, retOut X hx (hret.trans hrt) hn hi (hb hby d) hr, hrun, hended, _, _, rfl, ⟨?_, N⟩, ⟨_, rfl⟩, hW, hsame.mono hc hs⟩
  show Q (some v) T.heap
  rw [eT]; exact hQ
theorem own_retI {x : Int32} (d : own_D cod pc (.ireturn) 1 pc') (hrt : rt = some .int) (hc : cells ≤ R.cells) (hs : slots ≤ R.slots) (hQ : Q (some (.int x)) h) : own_V l Z n0 R own nm cod mxl rt Q h cells slots pc L (.int x :: S) :=
  own_retV d.1 hrt rfl (Or.inl ⟨rfl, Or.inl rfl, _, rfl⟩) hc hs hQ
theorem own_retJ {x : Int64} (d : own_D cod pc (.lreturn) 1 pc') (hrt : rt = some .long) (hc : cells ≤ R.cells) (hs : slots ≤ R.slots) (hQ : Q (some (.long x)) h) : own_V l Z n0 R own nm cod mxl rt Q h cells slots pc L (.long x :: S) :=
  own_retV d.1 hrt rfl (Or.inr (Or.inl ⟨rfl, rfl, _, rfl⟩)) hc hs hQ
theorem own_retA {v : Value} {t : FieldType} (d : own_D cod pc (.areturn) 1 pc') (hrt : rt = some t) (ht : t.isReference = true) (hv : v.isRef = true) (hc : cells ≤ R.cells) (hs : slots ≤ R.slots) (hQ : Q (some v) h) : own_V l Z n0 R own nm cod mxl rt Q h cells slots pc L (v :: S) :=
  own_retV d.1 hrt (by rcases ref_cases hv with rfl | ⟨b, rfl⟩ <;> cases t <;> first | rfl | cases ht) (Or.inr (Or.inr (Or.inr (Or.inr ⟨rfl, ht, hv⟩)))) hc hs hQ
theorem own_retN {x : Int32} {t : FieldType} (d : own_D cod pc (.ireturn) 1 pc') (hrt : rt = some t) (ht : t = .boolean ∨ t = .byte ∨ t = .char ∨ t = .short) (hc : cells ≤ R.cells) (hs : slots ≤ R.slots) (hQ : Q (some (.int (nar t x))) h) : own_V l Z n0 R own nm cod mxl rt Q h cells slots pc L (.int x :: S) := by
  intro p e s m args below meth c T locs hx hZ hby hml hown hret hnm hlk X eT N
  obtain ⟨fs, hr, hrun, hended, hW, hsame⟩ := X.leave (v := some (.int (nar t x))) (fun q => by rw [hret, hrt] at q; cases q) hlk
  refine ⟨_, _, retN X hx (hret.trans hrt) ht (hb hby d.1) hr, hrun, hended, _, _, rfl, ⟨?_, N⟩, ⟨_, rfl⟩, hW, hsame.mono hc hs⟩
  show Q (some (.int (nar t x))) T.heap
  rw [eT]; exact hQ
theorem own_retZ {x : Int32} (d : own_D cod pc (.ireturn) 1 pc') (hrt : rt = some .boolean) (hx01 : x = 0 ∨ x = 1) (hc : cells ≤ R.cells) (hs : slots ≤ R.slots) (hQ : Q (some (.int x)) h) : own_V l Z n0 R own nm cod mxl rt Q h cells slots pc L (.int x :: S) :=
  own_retN d hrt (Or.inl rfl) hc hs (by rcases hx01 with rfl | rfl <;> exact hQ)
theorem own_met {y : MethodName} {as' : Array Value} {L0 : Array Slot} (hpl : plainFor y = true) (hef : ∀ m, entryFrame m as' mxl = mkF m 0 L0 []) (k : own_V l Z n0 R y.cls y.name cod mxl rt Q h 0 0 0 L0 []) (ws : List Jvm.Cond) :
    MetFree l y (head1 (Jvm.Cond.code y cod mxl rt :: ws) R) (fun a U => a = as' ∧ Z.Warmed39 U.vm ∧ U.heap = h) (fun _ _ _ _ _ => True) (fun _ U o U' => ∃ v L, o = .returned v ∧ (Q v U'.heap ∧ Fr n0 L) ∧ FrameEnd U o U' L R.cells R.slots) := by
  refine MetFree.of_bodySF hpl hisR ?_
  intro p e s m args below meth c s₁ Bd hml0 hP hK
  obtain ⟨rfl, hZ, hh⟩ := hP
  have e0 : s₁.heap = h := by rw [← hh, Bd.state]; rfl
  obtain ⟨s₂, o, h1, r⟩ := k p e s m _ below meth c s₁ [] Bd.exec hZ Bd.bytes hml0 (findClass_of_methodNamed Bd.named) Bd.returns (name_of_methodNamed Bd.named Bd.method).1 (BodyLoose.notSynchronized Bd) (Stand.of_body Bd) e0 (Fr.nil n0)
  exact ⟨s₂, o, castTop (hef m) h1, r⟩
theorem own_callS {index : Nat} {y : MethodName} {cod' : ByteArray} {mxl' : Nat} {rt' : Option FieldType} {R' : Room} {Q' : Option Value → Heap → Prop} {L0 : Array Slot} {argsL rest : List Value} {W cells' slots' : Nat} {ps : List FieldType} {r : Option FieldType}
    (k0 : own_V l Z n0 R' y.cls y.name cod' mxl' rt' Q' h 0 0 0 L0 []) (hef : ∀ m, entryFrame m argsL.toArray mxl' = mkF m 0 L0 []) (hpl : plainFor y = true) (hpd : parseMethodDescriptor y.desc = some ⟨ps, r⟩) (hl : argsL.length = ps.length)
    (d : own_D cod pc (.invokestatic index) 3 pc') (w1 : (Cond.methodLink own index y).before a0 Z = true) (w2 : (Cond.static y).before a0 Z = true) (w3 : (Cond.initialized y.cls).before a0 Z = true) (w4 : (Cond.code y cod' mxl' rt').before a0 Z = true)
    (hy : y.cls ≠ "java/lang/invoke/MethodHandle" ∧ y.cls ≠ "java/lang/invoke/VarHandle") (hS : S = argsL.reverse ++ rest) (hsz : L.size = mxl) (hW : (rest.map fun v => v.category).sum ≤ W)
    (hf : R'.frames + 1 ≤ R.frames) (hlo : W + (mxl' + 11) + R'.locals ≤ R.locals) (hc : cells + R'.cells = cells') (hs : slots + R'.slots = slots') (hc' : cells' ≤ R.cells) (hs' : slots' ≤ R.slots)
    (k : ∀ v h', Q' v h' → own_V l Z n0 R own nm cod mxl rt Q h' cells' slots' pc' L (v.toList ++ rest)) : own_V l Z n0 R own nm cod mxl rt Q h cells slots pc L S := by
  obtain ⟨d, rfl⟩ := d
  subst hc hs
  refine own_stepC (F := fun h' S' => ∃ v, Q' v h' ∧ S' = v.toList ++ rest) (fun {p e s m args below meth c T locs} hx hZ hby hml hown _ X eT N => ?_) (by rintro h' _ ⟨v, q, rfl⟩; exact k v h' q)
  obtain ⟨v, vm1, ⟨T', L1, k1, n1⟩, -, X', ⟨Lc, hQ, l1, y1, z1⟩, st⟩ := Jvm.LawKit.callS X hx (y := y) hown (mvT hZ w1) (mvT hZ w2) (mvT hZ w3) (mvT hZ w4) hy (backOf (W := W) (Q := fun v h L => Q' v h ∧ Fr n0 L) (own_met hpl hef k0 []) hZ w4 w3 hf hlo) (g := mkF m pc L S) rfl (by rw [hml]; exact hsz) (argsL := argsL) (rest := rest) (lenOf hpd hl) hS (by show 2 * 0 + _ ≤ _; simpa using hW) (hb hby d) (fun _ _ => ⟨rfl, eT, hc', hs'⟩)
  dsimp only [Pt.U, Pt.locs, Pt.cells, Pt.slots] at X' l1 y1 z1 st hQ
  subst l1 y1 z1
  exact ⟨T', _, _, ⟨v, hQ.1, rfl⟩, X', Fr.app N hQ.2, st⟩
theorem own_callI {index : Nat} {y : MethodName} {cod' : ByteArray} {mxl' : Nat} {R' : Room} {Q' : Option Value → Heap → Prop} {L0 : Array Slot} {a : Addr} {argsL rest : List Value} {W cells' slots' : Nat} {ps : List FieldType} {r : Option FieldType}
    (k0 : own_V l Z n0 R' y.cls y.name cod' mxl' none Q' h 0 0 0 L0 []) (hef : ∀ m, entryFrame m (.ref a :: argsL).toArray mxl' = mkF m 0 L0 []) (hpl : plainFor y = true) (hpd : parseMethodDescriptor y.desc = some ⟨ps, r⟩) (hl : argsL.length = ps.length) (hyn : y.name = "<init>")
    (d : own_D cod pc (.invokespecial index) 3 pc') (w1 : (Cond.methodLink own index y).before a0 Z = true) (w2 : (Cond.instanceMethod y).before a0 Z = true) (w3 : (Cond.initialized y.cls).before a0 Z = true) (w4 : (Cond.code y cod' mxl' none).before a0 Z = true)
    (hy : y.cls ≠ "java/lang/invoke/MethodHandle" ∧ y.cls ≠ "java/lang/invoke/VarHandle") (hS : S = argsL.reverse ++ .ref a :: rest) (hsz : L.size = mxl) (hW : (rest.map fun v => v.category).sum ≤ W)
    (hf : R'.frames + 1 ≤ R.frames) (hlo : W + (mxl' + 11) + R'.locals ≤ R.locals) (hc : cells + R'.cells = cells') (hs : slots + R'.slots = slots') (hc' : cells' ≤ R.cells) (hs' : slots' ≤ R.slots)
    (k : ∀ v h', Q' v h' → own_V l Z n0 R own nm cod mxl rt Q h' cells' slots' pc' L (v.toList ++ rest)) : own_V l Z n0 R own nm cod mxl rt Q h cells slots pc L S := by
  obtain ⟨d, rfl⟩ := d
  subst hc hs
  refine own_stepC (F := fun h' S' => ∃ v, Q' v h' ∧ S' = v.toList ++ rest) (fun {p e s m args below meth c T locs} hx hZ hby hml hown _ X eT N => ?_) (by rintro h' _ ⟨v, q, rfl⟩; exact k v h' q)
  obtain ⟨v, vm1, ⟨T', L1, k1, n1⟩, -, X', ⟨Lc, hQ, l1, y1, z1⟩, st⟩ := X.specialBack hx (y := y) hyn hown (mvT hZ w1) (mvT hZ w2) (mvT hZ w4) hy (backOf (W := W) (Q := fun v h L => Q' v h ∧ Fr n0 L) (own_met hpl hef k0 []) hZ w4 w3 hf hlo) (g := mkF m pc L S) rfl (by rw [hml]; exact hsz) (Steps.refl _) (a := a) (argsL := argsL) (rest := rest) (lenOf hpd hl) hS (by show 2 * 0 + _ ≤ _; simpa using hW) (hb hby d) (fun _ _ => ⟨rfl, eT, hc', hs'⟩)
  dsimp only [Pt.U, Pt.locs, Pt.cells, Pt.slots] at X' l1 y1 z1 st hQ
  subst l1 y1 z1
  exact ⟨T', _, _, ⟨v, hQ.1, rfl⟩, X', Fr.app N hQ.2, fun _ q => st.trans q⟩
theorem own_callV {index : Nat} {y z : MethodName} {C : String} {cod' : ByteArray} {mxl' : Nat} {rt' : Option FieldType} {R' : Room} {Q' : Option Value → Heap → Prop} {L0 : Array Slot} {a : Addr} {argsL rest : List Value} {W cells' slots' : Nat} {ps : List FieldType} {r : Option FieldType}
    (k0 : own_V l Z n0 R' z.cls z.name cod' mxl' rt' Q' h 0 0 0 L0 []) (hef : ∀ m, entryFrame m (.ref a :: argsL).toArray mxl' = mkF m 0 L0 []) (hpl : plainFor z = true) (hpd : parseMethodDescriptor y.desc = some ⟨ps, r⟩) (hl : argsL.length = ps.length) (E : Exa Z h a C)
    (d : own_D cod pc (.invokevirtual index) 3 pc') (w1 : (Cond.methodLink own index y).before a0 Z = true) (w2 : (Cond.declares y).before a0 Z = true) (hnf : ∀ s : State, Z.Warmed39 s.vm → NotFace s y) (w3 : (Cond.selects C y z).before a0 Z = true) (w4 : (Cond.instanceMethod z).before a0 Z = true) (w5 : (Cond.code z cod' mxl' rt').before a0 Z = true) (w6 : (Cond.initialized z.cls).before a0 Z = true)
    (hy : y.cls ≠ "java/lang/invoke/MethodHandle" ∧ y.cls ≠ "java/lang/invoke/VarHandle") (hS : S = argsL.reverse ++ .ref a :: rest) (hsz : L.size = mxl) (hW : (rest.map fun v => v.category).sum ≤ W)
    (hf : R'.frames + 1 ≤ R.frames) (hlo : W + (mxl' + 11) + R'.locals ≤ R.locals) (hc : cells + R'.cells = cells') (hs : slots + R'.slots = slots') (hc' : cells' ≤ R.cells) (hs' : slots' ≤ R.slots)
    (k : ∀ v h', Q' v h' → own_V l Z n0 R own nm cod mxl rt Q h' cells' slots' pc' L (v.toList ++ rest)) : own_V l Z n0 R own nm cod mxl rt Q h cells slots pc L S := by
  obtain ⟨d, rfl⟩ := d
  subst hc hs
  refine own_stepC (F := fun h' S' => ∃ v, Q' v h' ∧ S' = v.toList ++ rest) (fun {p e s m args below meth c T locs} hx hZ hby hml hown _ X eT N => ?_) (by rintro h' _ ⟨v, q, rfl⟩; exact k v h' q)
  obtain ⟨cq, kq, q1, q2, q3⟩ := isOf hZ eT E
  obtain ⟨v, vm1, ⟨T', L1, k1, n1⟩, -, X', ⟨Lc, hQ, l1, y1, z1⟩, st⟩ := X.virtualBack hx (y := y) (z := z) hown (mvT hZ w1) (mvT hZ w2) (hnf s hZ) (mvT hZ w3) (mvT hZ w4) hy (backOf (W := W) (Q := fun v h L => Q' v h ∧ Fr n0 L) (own_met hpl hef k0 []) hZ w5 w6 hf hlo) q1 q3 (g := mkF m pc L S) rfl (by rw [hml]; exact hsz) (Steps.refl _) (argsL := argsL) (rest := rest) (lenOf hpd hl) hS (by show 2 * 0 + _ ≤ _; simpa using hW) (hb hby d) (fun _ _ => ⟨rfl, eT, hc', hs'⟩)
  dsimp only [Pt.U, Pt.locs, Pt.cells, Pt.slots] at X' l1 y1 z1 st hQ
  subst l1 y1 z1
  exact ⟨T', _, _, ⟨v, hQ.1, rfl⟩, X', Fr.app N hQ.2, fun _ q => st.trans q⟩
/-- the array at a holds just the values vs -/
def own_A (Z : State) (h : Heap) (a : Addr) (ty : FieldType) (vs : List Value) : Prop := ∃ cl : Cell, Arr Z h a cl ty ∧ cl.slots.toList = vs ∧ vs.length < 2 ^ 31
theorem own_A.ext {h' : Heap} {a : Addr} {ty : FieldType} {vs : List Value} (E : Ext h h') (A : own_A Z h a ty vs) : own_A Z h' a ty vs := by obtain ⟨cl, A1, r⟩ := A; exact ⟨cl, A1.ext E, r⟩
theorem own_A.other {h' : Heap} {a b : Addr} {sl : Nat} {v : Value} {ty : FieldType} {vs : List Value} (W : Wr h h' b sl v) (A : own_A Z h a ty vs) (hne : a ≠ b) : own_A Z h' a ty vs := by obtain ⟨cl, A1, r⟩ := A; exact ⟨cl, A1.other W hne, r⟩
theorem own_A.keep {h' : Heap} {a : Addr} {ty : FieldType} {vs : List Value} {ws : List Addr} (A : own_A Z h a ty vs) (K : Keep h h' ws) (hne : a ∉ ws) : own_A Z h' a ty vs := by obtain ⟨cl, A1, r⟩ := A; exact ⟨cl, ⟨K.2.1 _ _ A1.1 hne, A1.2⟩, r⟩
theorem own_A.lt {a : Addr} {ty : FieldType} {vs : List Value} (A : own_A Z h a ty vs) : a < h.size := by obtain ⟨cl, A1, r⟩ := A; exact A1.lt
theorem own_A.set {h' : Heap} {a : Addr} {i : Nat} {v : Value} {ty : FieldType} {vs : List Value} (W : Wr h h' a i v) (A : own_A Z h a ty vs) : own_A Z h' a ty (vs.set i v) := by
  obtain ⟨cl, A1, rfl, r⟩ := A
  exact ⟨_, A1.same W, by simp [Cell.setSlot], by simpa using r⟩
theorem own_nat {j : Int32} {i : Nat} (hj : j.toInt = (i : Int)) : ¬ j < 0 ∧ j.toNatClampNeg = i := by
  rw [Int32.lt_iff_toInt_lt, show (0 : Int32).toInt = 0 from rfl, Int32.toNatClampNeg, hj]; omega
theorem own_A.len {a : Addr} {ty : FieldType} {vs : List Value} (A : own_A Z h a ty vs) : vs.length < 2 ^ 31 := by obtain ⟨_, _, _, r⟩ := A; exact r
theorem own_arrlen {a : Addr} {ty : FieldType} {vs : List Value} {x : Int32} (d : own_D cod pc (.arraylength) 1 pc') (A : own_A Z h a ty vs) (hx : x.toInt = (vs.length : Int)) (k : own_V l Z n0 R own nm cod mxl rt Q h cells slots pc' L (.int x :: S)) : own_V l Z n0 R own nm cod mxl rt Q h cells slots pc L (.ref a :: S) := by
  obtain ⟨d, rfl⟩ := d
  obtain ⟨cl, A1, rfl, r⟩ := A
  have e : cl.slots.size.toInt32 = x := Int32.toInt_inj.mp (by rw [len_toInt (by simpa using r), hx]; simp)
  subst e
  exact own_step (fun hx hZ hby _ X eT _ q => X.arraylength hx (by rw [eT]; exact A1.1) (State.isArrayOf_alike hZ.alike A1.2.1) (g := mkF _ pc L (.ref a :: S)) rfl rfl (hb hby d) _ q) k
theorem own_iaload {a : Addr} {vs : List Value} {j : Int32} {i : Nat} {v : Value} (d : own_D cod pc (.iaload) 1 pc') (A : own_A Z h a .int vs) (hj : j.toInt = (i : Int)) (hv : vs[i]? = some v) (k : own_V l Z n0 R own nm cod mxl rt Q h cells slots pc' L (v :: S)) : own_V l Z n0 R own nm cod mxl rt Q h cells slots pc L (.int j :: .ref a :: S) := by
  obtain ⟨d, rfl⟩ := d
  obtain ⟨cl, A1, rfl, r⟩ := A
  obtain ⟨q1, rfl⟩ := own_nat hj
  have hv' : cl.slots[j.toNatClampNeg]? = some v := by simpa using hv
  have hin : ¬ (j < 0 ∨ cl.slots.size ≤ j.toNatClampNeg) := fun q => q.elim q1 fun q => by have := (Array.getElem?_eq_some_iff.mp hv').1; omega
  exact own_step (fun hx hZ hby _ X eT _ q => X.iaload hx (j := j) (v := v) (by rw [eT]; exact A1.1) (State.isArrayOf_alike hZ.alike A1.2.1) A1.2.2 hin hv' (g := mkF _ pc L (.int j :: .ref a :: S)) rfl rfl (hb hby d) _ q) k
theorem own_laload {a : Addr} {vs : List Value} {j : Int32} {i : Nat} {v : Value} (d : own_D cod pc (.laload) 1 pc') (A : own_A Z h a .long vs) (hj : j.toInt = (i : Int)) (hv : vs[i]? = some v) (k : own_V l Z n0 R own nm cod mxl rt Q h cells slots pc' L (v :: S)) : own_V l Z n0 R own nm cod mxl rt Q h cells slots pc L (.int j :: .ref a :: S) := by
  obtain ⟨d, rfl⟩ := d
  obtain ⟨cl, A1, rfl, r⟩ := A
  obtain ⟨q1, rfl⟩ := own_nat hj
  have hv' : cl.slots[j.toNatClampNeg]? = some v := by simpa using hv
  have hin : ¬ (j < 0 ∨ cl.slots.size ≤ j.toNatClampNeg) := fun q => q.elim q1 fun q => by have := (Array.getElem?_eq_some_iff.mp hv').1; omega
  exact own_step (fun hx hZ hby _ X eT _ q => X.laload hx (j := j) (v := v) (by rw [eT]; exact A1.1) (State.isArrayOf_alike hZ.alike A1.2.1) A1.2.2 hin hv' (g := mkF _ pc L (.int j :: .ref a :: S)) rfl rfl (hb hby d) _ q) k
theorem own_caload {a : Addr} {vs : List Value} {j : Int32} {i : Nat} {v : Value} (d : own_D cod pc (.caload) 1 pc') (A : own_A Z h a .char vs) (hj : j.toInt = (i : Int)) (hv : vs[i]? = some v) (k : own_V l Z n0 R own nm cod mxl rt Q h cells slots pc' L (v :: S)) : own_V l Z n0 R own nm cod mxl rt Q h cells slots pc L (.int j :: .ref a :: S) := by
  obtain ⟨d, rfl⟩ := d
  obtain ⟨cl, A1, rfl, r⟩ := A
  obtain ⟨q1, rfl⟩ := own_nat hj
  have hv' : cl.slots[j.toNatClampNeg]? = some v := by simpa using hv
  have hin : ¬ (j < 0 ∨ cl.slots.size ≤ j.toNatClampNeg) := fun q => q.elim q1 fun q => by have := (Array.getElem?_eq_some_iff.mp hv').1; omega
  exact own_step (fun hx hZ hby _ X eT _ q => X.caload hx (j := j) (v := v) (by rw [eT]; exact A1.1) (State.isArrayOf_alike hZ.alike A1.2.1) A1.2.2 hin hv' (g := mkF _ pc L (.int j :: .ref a :: S)) rfl rfl (hb hby d) _ q) k
theorem own_baload {a : Addr} {vs : List Value} {j : Int32} {i : Nat} {v : Value} (d : own_D cod pc (.baload) 1 pc') (A : own_A Z h a .byte vs) (hj : j.toInt = (i : Int)) (hv : vs[i]? = some v) (k : own_V l Z n0 R own nm cod mxl rt Q h cells slots pc' L (v :: S)) : own_V l Z n0 R own nm cod mxl rt Q h cells slots pc L (.int j :: .ref a :: S) := by
  obtain ⟨d, rfl⟩ := d
  obtain ⟨cl, A1, rfl, r⟩ := A
  obtain ⟨q1, rfl⟩ := own_nat hj
  have hv' : cl.slots[j.toNatClampNeg]? = some v := by simpa using hv
  have hin : ¬ (j < 0 ∨ cl.slots.size ≤ j.toNatClampNeg) := fun q => q.elim q1 fun q => by have := (Array.getElem?_eq_some_iff.mp hv').1; omega
  exact own_step (fun hx hZ hby _ X eT _ q => X.baloadBytes hx (j := j) (v := v) (by rw [eT]; exact A1.1) (State.isArrayOf_alike hZ.alike A1.2.1) A1.2.2 hin hv' (g := mkF _ pc L (.int j :: .ref a :: S)) rfl rfl (hb hby d) _ q) k
theorem own_aaload {a : Addr} {ty : FieldType} {vs : List Value} {j : Int32} {i : Nat} {v : Value} (d : own_D cod pc (.aaload) 1 pc') (A : own_A Z h a ty vs) (hty : ty.isReference = true) (hj : j.toInt = (i : Int)) (hv : vs[i]? = some v) (k : own_V l Z n0 R own nm cod mxl rt Q h cells slots pc' L (v :: S)) : own_V l Z n0 R own nm cod mxl rt Q h cells slots pc L (.int j :: .ref a :: S) := by
  obtain ⟨d, rfl⟩ := d
  obtain ⟨cl, A1, rfl, r⟩ := A
  obtain ⟨q1, rfl⟩ := own_nat hj
  have hv' : cl.slots[j.toNatClampNeg]? = some v := by simpa using hv
  have hin : ¬ (j < 0 ∨ cl.slots.size ≤ j.toNatClampNeg) := fun q => q.elim q1 fun q => by have := (Array.getElem?_eq_some_iff.mp hv').1; omega
  exact own_step (fun hx hZ hby _ X eT _ q => X.aaload hx (j := j) (v := v) (by rw [eT]; exact A1.1) (State.isArrayOf_alike hZ.alike A1.2.1) hty A1.2.2 hin hv' (g := mkF _ pc L (.int j :: .ref a :: S)) rfl rfl (hb hby d) _ q) k
theorem own_iastore {a : Addr} {vs : List Value} {j : Int32} {i : Nat} {x : Int32} (d : own_D cod pc (.iastore) 1 pc') (A : own_A Z h a .int vs) (hj : j.toInt = (i : Int)) (hi : i < vs.length) (ha : n0 ≤ a)
    (k : ∀ h', Wr h h' a i (.int x) → own_A Z h' a .int (vs.set i (.int x)) → own_V l Z n0 R own nm cod mxl rt Q h' cells slots pc' L S) : own_V l Z n0 R own nm cod mxl rt Q h cells slots pc L (.int x :: .int j :: .ref a :: S) := by
  obtain ⟨d, rfl⟩ := d
  have A0 := A
  obtain ⟨cl, A1, rfl, r⟩ := A
  obtain ⟨q1, rfl⟩ := own_nat hj
  have hin : ¬ (j < 0 ∨ cl.slots.size ≤ j.toNatClampNeg) := fun q => q.elim q1 fun q => by simp at hi; omega
  refine own_stepC (F := fun h' S' => Wr h h' a j.toNatClampNeg (.int x) ∧ S' = S) (fun hx hZ hby _ hown hnm X eT N => ?_) (by rintro h' S' ⟨W, rfl⟩; exact k h' W (own_A.set W A0))
  obtain ⟨T', h', X', e', W', st⟩ := stI X hx hZ eT A1 hin (g := mkF _ pc L (.int x :: .int j :: .ref a :: S)) rfl rfl (hb hby d)
  subst e'
  exact ⟨T', _, _, ⟨W', rfl⟩, X', Fr.snoc X' N ha, st⟩
theorem own_lastore {a : Addr} {vs : List Value} {j : Int32} {i : Nat} {x : Int64} (d : own_D cod pc (.lastore) 1 pc') (A : own_A Z h a .long vs) (hj : j.toInt = (i : Int)) (hi : i < vs.length) (ha : n0 ≤ a)
    (k : ∀ h', Wr h h' a i (.long x) → own_A Z h' a .long (vs.set i (.long x)) → own_V l Z n0 R own nm cod mxl rt Q h' cells slots pc' L S) : own_V l Z n0 R own nm cod mxl rt Q h cells slots pc L (.long x :: .int j :: .ref a :: S) := by
  obtain ⟨d, rfl⟩ := d
  have A0 := A
  obtain ⟨cl, A1, rfl, r⟩ := A
  obtain ⟨q1, rfl⟩ := own_nat hj
  have hin : ¬ (j < 0 ∨ cl.slots.size ≤ j.toNatClampNeg) := fun q => q.elim q1 fun q => by simp at hi; omega
  refine own_stepC (F := fun h' S' => Wr h h' a j.toNatClampNeg (.long x) ∧ S' = S) (fun hx hZ hby _ hown hnm X eT N => ?_) (by rintro h' S' ⟨W, rfl⟩; exact k h' W (own_A.set W A0))
  obtain ⟨T', h', X', e', W', st⟩ := stJ X hx hZ eT A1 hin (g := mkF _ pc L (.long x :: .int j :: .ref a :: S)) rfl rfl (hb hby d)
  subst e'
  exact ⟨T', _, _, ⟨W', rfl⟩, X', Fr.snoc X' N ha, st⟩
theorem own_castore {a : Addr} {vs : List Value} {j : Int32} {i : Nat} {x : Int32} (d : own_D cod pc (.castore) 1 pc') (A : own_A Z h a .char vs) (hj : j.toInt = (i : Int)) (hi : i < vs.length) (ha : n0 ≤ a)
    (k : ∀ h', Wr h h' a i (.int (nar .char x)) → own_A Z h' a .char (vs.set i (.int (nar .char x))) → own_V l Z n0 R own nm cod mxl rt Q h' cells slots pc' L S) : own_V l Z n0 R own nm cod mxl rt Q h cells slots pc L (.int x :: .int j :: .ref a :: S) := by
  obtain ⟨d, rfl⟩ := d
  have A0 := A
  obtain ⟨cl, A1, rfl, r⟩ := A
  obtain ⟨q1, rfl⟩ := own_nat hj
  have hin : ¬ (j < 0 ∨ cl.slots.size ≤ j.toNatClampNeg) := fun q => q.elim q1 fun q => by simp at hi; omega
  refine own_stepC (F := fun h' S' => Wr h h' a j.toNatClampNeg (.int (nar .char x)) ∧ S' = S) (fun hx hZ hby _ hown hnm X eT N => ?_) (by rintro h' S' ⟨W, rfl⟩; exact k h' W (own_A.set W A0))
  obtain ⟨T', h', X', e', W', st⟩ := stC X hx hZ eT A1 hin (g := mkF _ pc L (.int x :: .int j :: .ref a :: S)) rfl rfl (hb hby d)
  subst e'
  exact ⟨T', _, _, ⟨W', rfl⟩, X', Fr.snoc X' N ha, st⟩
theorem own_bastore {a : Addr} {vs : List Value} {j : Int32} {i : Nat} {x : Int32} (d : own_D cod pc (.bastore) 1 pc') (A : own_A Z h a .byte vs) (hj : j.toInt = (i : Int)) (hi : i < vs.length) (ha : n0 ≤ a)
    (k : ∀ h', Wr h h' a i (.int (nar .byte x)) → own_A Z h' a .byte (vs.set i (.int (nar .byte x))) → own_V l Z n0 R own nm cod mxl rt Q h' cells slots pc' L S) : own_V l Z n0 R own nm cod mxl rt Q h cells slots pc L (.int x :: .int j :: .ref a :: S) := by
  obtain ⟨d, rfl⟩ := d
  have A0 := A
  obtain ⟨cl, A1, rfl, r⟩ := A
  obtain ⟨q1, rfl⟩ := own_nat hj
  have hin : ¬ (j < 0 ∨ cl.slots.size ≤ j.toNatClampNeg) := fun q => q.elim q1 fun q => by simp at hi; omega
  refine own_stepC (F := fun h' S' => Wr h h' a j.toNatClampNeg (.int (nar .byte x)) ∧ S' = S) (fun hx hZ hby _ hown hnm X eT N => ?_) (by rintro h' S' ⟨W, rfl⟩; exact k h' W (own_A.set W A0))
  obtain ⟨T', h', X', e', W', st⟩ := stB X hx hZ eT A1 hin (g := mkF _ pc L (.int x :: .int j :: .ref a :: S)) rfl rfl (hb hby d)
  subst e'
  exact ⟨T', _, _, ⟨W', rfl⟩, X', Fr.snoc X' N ha, st⟩
theorem own_newarr {aty : ArrayType} {n : Int32} {i cells' slots' : Nat} (d : own_D cod pc (.newarray aty) 2 pc') (w : (Cond.arrayClass (newarray.typeOf aty)).before a0 Z = true) (hn : n.toInt = (i : Int)) {cap : Nat} (hcap : i ≤ cap) (hcb : cap * 8 ≤ 536870912) (hc : cells + 1 = cells') (hs : slots + cap = slots') (hc' : cells' ≤ R.cells) (hs' : slots' ≤ R.slots)
    (k : ∀ h', Ext h h' → own_A Z h' h.size (newarray.typeOf aty) (List.replicate i (defaultValue (newarray.typeOf aty))) → own_V l Z n0 R own nm cod mxl rt Q h' cells' slots' pc' L (.ref h.size :: S)) : own_V l Z n0 R own nm cod mxl rt Q h cells slots pc L (.int n :: S) := by
  obtain ⟨d, rfl⟩ := d
  subst hc hs
  obtain ⟨q1, rfl⟩ := own_nat hn
  refine own_stepC (F := fun h' S' => (Ext h h' ∧ own_A Z h' h.size (newarray.typeOf aty) (List.replicate n.toNatClampNeg (defaultValue (newarray.typeOf aty)))) ∧ S' = .ref h.size :: S) (fun hx hZ hby _ hown _ X eT N => ?_) (by rintro h' S' ⟨⟨q1, q2⟩, rfl⟩; exact k h' q1 q2)
  obtain ⟨T', h', cA, X', e', E', A', st⟩ := newP X hx hZ w eT (g := mkF _ pc L (.int n :: S)) rfl (hb hby d) rfl q1 hcap hcb hc' hs'
  subst e'
  refine ⟨T', _, _, ⟨⟨E', _, A', by simp [newA], ?_⟩, rfl⟩, X', N, st⟩
  simp; have := (back32 q1).2; omega
theorem own_ord {args : Array Value} {s : State} {C n ds O f dd : String} {a : Addr} {k : Int32} (ev : (Term.static C n ds).eval args s none [] s = some (.ref a)) (ho : (Jvm.Cond.eq (.field (.static C n ds) O f dd) (.int k)).value args s none s [] = some true) : s.fieldOf? a O f dd = some (.int k) := by
  obtain ⟨x, y, h1, h2, hk, -⟩ := cmp_v (Or.inl ho)
  have e1 : y = .int k := Option.some.inj (h2.symm.trans (Term.int_eval k))
  subst e1
  have h3 := h1
  rw [fld_at ev] at h3
  cases x <;> simp [Kin, Value.isRef] at hk
  rename_i z
  have : z = k := by simpa [Jvm.Cond.value, h1, h2] using ho
  rw [h3, this]
theorem own_fne {C n ds : String} {a b : Addr} {v w : Value} (F : Fld Z h a C n ds v) (G : Fld Z h b C n ds w) (hne : v ≠ w) : a ≠ b := by
  rintro rfl
  obtain ⟨c1, cf1, k1, i1, f1, h1, h2, -, -, -, -, h7⟩ := F
  obtain ⟨c2, cf2, k2, i2, f2, g1, g2, -, -, -, -, g7⟩ := G
  cases h1.symm.trans g1
  cases h2.symm.trans g2
  exact hne (Option.some.inj (h7.symm.trans g7))
theorem own_alen {args : Array Value} {s : State} {t : Term} {a : Addr} {cl : Cell} {ty : FieldType} {n : Int32} (ev : t.eval args s none [] s = some (.ref a)) (A : Arr s s.heap a cl ty) (hl : (Jvm.Cond.eq (.length t) (.int n)).value args s none s [] = some true) : (cl.slots.size : Int) = n.toInt ∧ cl.slots.size < 2 ^ 31 := by
  obtain ⟨x, y, h1, h2, -, -⟩ := cmp_v (Or.inl hl)
  have e1 : y = .int n := Option.some.inj (h2.symm.trans (Term.int_eval n))
  subst e1
  have q := h1
  simp only [Term.eval, ev, A.fin (Vm.Alike.refl _), Option.bind_eq_bind, Option.bind_some] at q
  split at q
  · rename_i hlt
    cases q
    have e2 : cl.slots.size.toInt32 = n := by simpa [Jvm.Cond.value, h1, h2] using hl
    exact ⟨by rw [← e2, len_toInt hlt], hlt⟩
  · cases q
theorem own_ael {args : Array Value} {s : State} {t : Term} {a b : Addr} {cl : Cell} {C n ds : String} {j : Int32} (ev : t.eval args s none [] s = some (.ref a)) (hc : s.heap[a]? = some cl) (ev2 : (Term.static C n ds).eval args s none [] s = some (.ref b)) (he : (Jvm.Cond.eq (.elem t (.int j)) (.static C n ds)).value args s none s [] = some true) : cl.slots[j.toNatClampNeg]? = some (.ref b) := by
  obtain ⟨x, y, h1, h2, hk, hk2⟩ := cmp_v (Or.inl he)
  have e1 : y = .ref b := Option.some.inj (h2.symm.trans ev2)
  subst e1
  have e2 := (elem_in h1 ev (Term.int_eval j) hc).2
  have hx : x.isRef = true := by cases x <;> simp [Kin, Value.isRef] at hk hk2 ⊢
  rw [e2, gotT (eq_R h1 h2 hx rfl) he]
theorem own_callU {index : Nat} {y z : MethodName} {C owner : String} {cod' : ByteArray} {mxl' : Nat} {rt' : Option FieldType} {R' : Room} {Q' : Option Value → Heap → Prop} {L0 : Array Slot} {a : Addr} {argsL rest : List Value} {W cells' slots' : Nat} {ps : List FieldType} {r : Option FieldType}
    (k0 : own_V l Z n0 R' z.cls z.name cod' mxl' rt' Q' h 0 0 0 L0 []) (hef : ∀ m, entryFrame m (.ref a :: argsL).toArray mxl' = mkF m 0 L0 []) (hpl : plainFor z = true) (hpd : parseMethodDescriptor y.desc = some ⟨ps, r⟩) (hl : argsL.length = ps.length) (E : Exa Z h a C)
    (d : own_D cod pc (.invokevirtual index) 3 pc') (w1 : (Cond.methodLink own index y).before a0 Z = true) (w2 : (Cond.sameMethod y.cls owner y.name y.desc).before a0 Z = true) (w2' : (Cond.declares ⟨owner, y.name, y.desc⟩).before a0 Z = true) (w3 : (Cond.selects C y z).before a0 Z = true) (w4 : (Cond.instanceMethod z).before a0 Z = true) (w5 : (Cond.code z cod' mxl' rt').before a0 Z = true) (w6 : (Cond.initialized z.cls).before a0 Z = true)
    (hy : owner ≠ "java/lang/invoke/MethodHandle" ∧ owner ≠ "java/lang/invoke/VarHandle") (hS : S = argsL.reverse ++ .ref a :: rest) (hsz : L.size = mxl) (hW : (rest.map fun v => v.category).sum ≤ W)
    (hf : R'.frames + 1 ≤ R.frames) (hlo : W + (mxl' + 11) + R'.locals ≤ R.locals) (hc : cells + R'.cells = cells') (hs : slots + R'.slots = slots') (hc' : cells' ≤ R.cells) (hs' : slots' ≤ R.slots)
    (k : ∀ v h', Q' v h' → own_V l Z n0 R own nm cod mxl rt Q h' cells' slots' pc' L (v.toList ++ rest)) : own_V l Z n0 R own nm cod mxl rt Q h cells slots pc L S := by
  obtain ⟨d, rfl⟩ := d
  subst hc hs
  refine own_stepC (F := fun h' S' => ∃ v, Q' v h' ∧ S' = v.toList ++ rest) (fun {p e s m args below meth c T locs} hx hZ hby hml hown _ X eT N => ?_) (by rintro h' _ ⟨v, q, rfl⟩; exact k v h' q)
  obtain ⟨cq, kq, q1, q2, q3⟩ := isOf hZ eT E
  obtain ⟨v, vm1, ⟨T', L1, k1, n1⟩, -, X', ⟨Lc, hQ, l1, y1, z1⟩, st⟩ := X.virtualBackUp hx (x := y) (y := z) (owner := owner) hown (mvT hZ w1) (mvT hZ w2) (mvT hZ w2') hy (mvT hZ w3) (mvT hZ w4) (backOf (W := W) (Q := fun v h L => Q' v h ∧ Fr n0 L) (own_met hpl hef k0 []) hZ w5 w6 hf hlo) q1 q3 (g := mkF m pc L S) rfl (by rw [hml]; exact hsz) (Steps.refl _) (argsL := argsL) (rest := rest) (lenOf hpd hl) hS (by show 2 * 0 + _ ≤ _; simpa using hW) (hb hby d) (fun _ _ => ⟨rfl, eT, hc', hs'⟩)
  dsimp only [Pt.U, Pt.locs, Pt.cells, Pt.slots] at X' l1 y1 z1 st hQ
  subst l1 y1 z1
  exact ⟨T', _, _, ⟨v, hQ.1, rfl⟩, X', Fr.app N hQ.2, fun _ q => st.trans q⟩
/-- an array of references of the class C -/
def own_R (Z : State) (h : Heap) (a : Addr) (C : String) (vs : List Value) : Prop := ∃ cl : Cell, Arr Z h a cl (.object C) ∧ Ovr Z cl.cls C ∧ cl.slots.toList = vs ∧ vs.length < 2 ^ 31
theorem own_R.A {a : Addr} {C : String} {vs : List Value} (A : own_R Z h a C vs) : own_A Z h a (.object C) vs := by obtain ⟨cl, A1, _, r⟩ := A; exact ⟨cl, A1, r⟩
theorem own_R.ext {h' : Heap} {a : Addr} {C : String} {vs : List Value} (E : Ext h h') (A : own_R Z h a C vs) : own_R Z h' a C vs := by obtain ⟨cl, A1, r⟩ := A; exact ⟨cl, A1.ext E, r⟩
theorem own_R.other {h' : Heap} {a b : Addr} {sl : Nat} {v : Value} {C : String} {vs : List Value} (W : Wr h h' b sl v) (A : own_R Z h a C vs) (hne : a ≠ b) : own_R Z h' a C vs := by obtain ⟨cl, A1, r⟩ := A; exact ⟨cl, A1.other W hne, r⟩
theorem own_R.keep {h' : Heap} {a : Addr} {C : String} {vs : List Value} {ws : List Addr} (A : own_R Z h a C vs) (K : Keep h h' ws) (hne : a ∉ ws) : own_R Z h' a C vs := by obtain ⟨cl, A1, r⟩ := A; exact ⟨cl, ⟨K.2.1 _ _ A1.1 hne, A1.2⟩, r⟩
theorem own_R.lt {a : Addr} {C : String} {vs : List Value} (A : own_R Z h a C vs) : a < h.size := by obtain ⟨cl, A1, r⟩ := A; exact A1.lt
theorem own_R.set {h' : Heap} {a : Addr} {i : Nat} {v : Value} {C : String} {vs : List Value} (W : Wr h h' a i v) (A : own_R Z h a C vs) : own_R Z h' a C (vs.set i v) := by
  obtain ⟨cl, A1, o, rfl, r⟩ := A
  exact ⟨_, A1.same W, o, by simp [Cell.setSlot], by simpa using r⟩
theorem own_newref {i : Nat} {C : String} {n : Int32} {j cells' slots' : Nat} (d : own_D cod pc (.anewarray i) 3 pc') (w1 : (Cond.classLink own i C).before a0 Z = true) (w2 : (Cond.arrayOver (.object C)).before a0 Z = true) (hn : n.toInt = (j : Int)) {cap : Nat} (hcap : j ≤ cap) (hcb : cap * 8 ≤ 536870912) (hc : cells + 1 = cells') (hs : slots + cap = slots') (hc' : cells' ≤ R.cells) (hs' : slots' ≤ R.slots)
    (k : ∀ h', Ext h h' → own_R Z h' h.size C (List.replicate j .null) → own_V l Z n0 R own nm cod mxl rt Q h' cells' slots' pc' L (.ref h.size :: S)) : own_V l Z n0 R own nm cod mxl rt Q h cells slots pc L (.int n :: S) := by
  obtain ⟨d, rfl⟩ := d
  subst hc hs
  obtain ⟨q1, rfl⟩ := own_nat hn
  refine own_stepC (F := fun h' S' => (Ext h h' ∧ own_R Z h' h.size C (List.replicate n.toNatClampNeg .null)) ∧ S' = .ref h.size :: S) (fun hx hZ hby _ hown _ X eT N => ?_) (by rintro h' S' ⟨⟨q1, q2⟩, rfl⟩; exact k h' q1 q2)
  obtain ⟨T', h', cA, X', e', E', A', O', st⟩ := newR X hx hZ hown w1 w2 eT (g := mkF _ pc L (.int n :: S)) rfl (hb hby d) rfl q1 hcap hcb hc' hs'
  subst e'
  refine ⟨T', _, _, ⟨⟨E', _, A', O', by simp [newA, defaultValue], ?_⟩, rfl⟩, X', N, st⟩
  simp; have := (back32 q1).2; omega
theorem own_aastore {a : Addr} {C : String} {vs : List Value} {j : Int32} {i : Nat} {v : Value} (d : own_D cod pc (.aastore) 1 pc') (A : own_R Z h a C vs) (hj : j.toInt = (i : Int)) (hi : i < vs.length) (hv : v = .null ∨ ∃ y, v = .ref y ∧ Ins Z h y C true) (ha : n0 ≤ a)
    (k : ∀ h', Wr h h' a i v → own_R Z h' a C (vs.set i v) → own_V l Z n0 R own nm cod mxl rt Q h' cells slots pc' L S) : own_V l Z n0 R own nm cod mxl rt Q h cells slots pc L (v :: .int j :: .ref a :: S) := by
  obtain ⟨d, rfl⟩ := d
  have A0 := A
  obtain ⟨cl, A1, O1, rfl, r⟩ := A
  obtain ⟨q1, rfl⟩ := own_nat hj
  have hin : ¬ (j < 0 ∨ cl.slots.size ≤ j.toNatClampNeg) := fun q => q.elim q1 fun q => by simp at hi; omega
  have F : Sto Z h a v := by
    rcases hv with rfl | ⟨y, rfl, I⟩
    · exact Or.inl rfl
    · exact Sto.of A1 O1 I
  refine own_stepC (F := fun h' S' => Wr h h' a j.toNatClampNeg v ∧ S' = S) (fun hx hZ hby _ hown hnm X eT N => ?_) (by rintro h' S' ⟨W, rfl⟩; exact k h' W (own_R.set W A0))
  obtain ⟨T', h', X', e', W', st⟩ := stR X hx hZ eT A1 hin rfl F (g := mkF _ pc L (v :: .int j :: .ref a :: S)) rfl rfl (hb hby d)
  subst e'
  exact ⟨T', _, _, ⟨W', rfl⟩, X', Fr.snoc X' N ha, st⟩
theorem own_tsw {df lo hi o : Int} {offs : Array Int} {n t : Nat} {x : Int32} (d : own_D cod pc (.tableswitch df lo hi offs) n pc') (hin : lo ≤ x.toInt ∧ x.toInt ≤ hi) (ho : offs[(x.toInt - lo).toNat]? = some o) (h1 : 0 ≤ (pc : Int) + o) (h2 : ((pc : Int) + o).toNat = t) (k : own_V l Z n0 R own nm cod mxl rt Q h cells slots t L S) : own_V l Z n0 R own nm cod mxl rt Q h cells slots pc L (.int x :: S) := by
  obtain ⟨d, -⟩ := d
  exact own_step (fun hx _ hby _ X _ _ q => XS.tswIn X.here hx rfl rfl (hb hby d) rfl (by omega) ho h1 h2 q) k
theorem own_catR {v : Value} (q : v.isRef = true) : v.category = 1 := by rcases ref_cases q with rfl | ⟨a, rfl⟩ <;> rfl
theorem own_skeep {h' : Heap} {C n ds : String} {v : Value} (F : Sta Z h C n ds v) (K : Keep h h' []) : Sta Z h' C n ds v := by
  obtain ⟨cf, i, k, f, st, cell, h1, h2, h3, h4, h5, h6, h7⟩ := F
  exact ⟨cf, i, k, f, st, cell, h1, h2, h3, h4, K.2.1 _ _ h5 (by simp), h6, h7⟩
end OwnKit
theorem own_w {Z : State} {a0 : Array Value} (hw : ∀ d ∈ tables_1, d.before a0 Z = true) (i : Nat) {d : Jvm.Cond} (q : tables_1[i]? = some d) : d.before a0 Z = true := hw d (List.mem_of_getElem? q)
theorem own_ef3_J (m : MethodId) (x0 : Int64) : entryFrame m #[(.long x0)] 2 = mkF m 0 #[.val (.long x0), .second] [] := by first | (simp [entryFrame, mkF, argsToLocals, Value.category]; done) | rfl
theorem own_ef4_J (m : MethodId) (x0 : Int64) : entryFrame m #[(.long x0)] 2 = mkF m 0 #[.val (.long x0), .second] [] := by first | (simp [entryFrame, mkF, argsToLocals, Value.category]; done) | rfl
theorem own_ef1_AII (m : MethodId) (x0 : Addr) (x1 : Int32) (x2 : Int32) : entryFrame m #[(.ref x0), (.int x1), (.int x2)] 3 = mkF m 0 #[.val (.ref x0), .val (.int x1), .val (.int x2)] [] := by first | (simp [entryFrame, mkF, argsToLocals, Value.category]; done) | rfl
theorem own_ef5_A (m : MethodId) (x0 : Addr) : entryFrame m #[(.ref x0)] 1 = mkF m 0 #[.val (.ref x0)] [] := by first | (simp [entryFrame, mkF, argsToLocals, Value.category]; done) | rfl
theorem own_ef0_II (m : MethodId) (x0 : Int32) (x1 : Int32) : entryFrame m #[(.int x0), (.int x1)] maxLocals = mkF m 0 #[.val (.int x0), .val (.int x1), .unset, .unset, .unset, .unset, .unset, .unset, .unset, .unset, .unset, .unset, .unset, .unset, .unset, .unset, .unset, .unset, .unset, .unset] [] := by first | (simp [entryFrame, mkF, argsToLocals, Value.category, maxLocals]; done) | rfl
theorem d0_0 : own_D code 0 (.iconst 1) 1 1 := ⟨by decide +kernel, rfl⟩
theorem d0_1 : own_D code 1 (.iload_n 0) 1 2 := ⟨by decide +kernel, rfl⟩
theorem d0_2 : own_D code 2 (.ldc 7) 2 4 := ⟨by decide +kernel, rfl⟩
theorem d0_4 : own_D code 4 (.iand) 1 5 := ⟨by decide +kernel, rfl⟩
theorem d0_5 : own_D code 5 (.ldc 10) 2 7 := ⟨by decide +kernel, rfl⟩
theorem d0_7 : own_D code 7 (.irem) 1 8 := ⟨by decide +kernel, rfl⟩
theorem d0_8 : own_D code 8 (.iadd) 1 9 := ⟨by decide +kernel, rfl⟩
theorem d0_9 : own_D code 9 (.istore_n 2) 1 10 := ⟨by decide +kernel, rfl⟩
theorem d0_10 : own_D code 10 (.iconst 2) 1 11 := ⟨by decide +kernel, rfl⟩
theorem d0_11 : own_D code 11 (.iload_n 1) 1 12 := ⟨by decide +kernel, rfl⟩
theorem d0_12 : own_D code 12 (.ldc 7) 2 14 := ⟨by decide +kernel, rfl⟩
theorem d0_14 : own_D code 14 (.iand) 1 15 := ⟨by decide +kernel, rfl⟩
theorem d0_15 : own_D code 15 (.ldc 11) 2 17 := ⟨by decide +kernel, rfl⟩
theorem d0_17 : own_D code 17 (.irem) 1 18 := ⟨by decide +kernel, rfl⟩
theorem d0_18 : own_D code 18 (.iadd) 1 19 := ⟨by decide +kernel, rfl⟩
theorem d0_19 : own_D code 19 (.istore_n 3) 1 20 := ⟨by decide +kernel, rfl⟩
theorem d0_20 : own_D code 20 (.new 8) 3 23 := ⟨by decide +kernel, rfl⟩
theorem d0_23 : own_D code 23 (.dup) 1 24 := ⟨by decide +kernel, rfl⟩
theorem d0_24 : own_D code 24 (.iload_n 2) 1 25 := ⟨by decide +kernel, rfl⟩
theorem d0_25 : own_D code 25 (.iload_n 3) 1 26 := ⟨by decide +kernel, rfl⟩
theorem d0_26 : own_D code 26 (.invokespecial 12) 3 29 := ⟨by decide +kernel, rfl⟩
theorem d0_29 : own_D code 29 (.astore 4) 2 31 := ⟨by decide +kernel, rfl⟩
theorem d0_31 : own_D code 31 (.new 8) 3 34 := ⟨by decide +kernel, rfl⟩
theorem d0_34 : own_D code 34 (.dup) 1 35 := ⟨by decide +kernel, rfl⟩
theorem d0_35 : own_D code 35 (.iload_n 2) 1 36 := ⟨by decide +kernel, rfl⟩
theorem d0_36 : own_D code 36 (.iconst 1) 1 37 := ⟨by decide +kernel, rfl⟩
theorem d0_37 : own_D code 37 (.iadd) 1 38 := ⟨by decide +kernel, rfl⟩
theorem d0_38 : own_D code 38 (.iload_n 3) 1 39 := ⟨by decide +kernel, rfl⟩
theorem d0_39 : own_D code 39 (.invokespecial 12) 3 42 := ⟨by decide +kernel, rfl⟩
theorem d0_42 : own_D code 42 (.astore 5) 2 44 := ⟨by decide +kernel, rfl⟩
theorem d0_44 : own_D code 44 (.new 8) 3 47 := ⟨by decide +kernel, rfl⟩
theorem d0_47 : own_D code 47 (.dup) 1 48 := ⟨by decide +kernel, rfl⟩
theorem d0_48 : own_D code 48 (.iload_n 2) 1 49 := ⟨by decide +kernel, rfl⟩
theorem d0_49 : own_D code 49 (.iload_n 3) 1 50 := ⟨by decide +kernel, rfl⟩
theorem d0_50 : own_D code 50 (.iconst 1) 1 51 := ⟨by decide +kernel, rfl⟩
theorem d0_51 : own_D code 51 (.iadd) 1 52 := ⟨by decide +kernel, rfl⟩
theorem d0_52 : own_D code 52 (.invokespecial 12) 3 55 := ⟨by decide +kernel, rfl⟩
theorem d0_55 : own_D code 55 (.astore 6) 2 57 := ⟨by decide +kernel, rfl⟩
theorem d0_57 : own_D code 57 (.new 8) 3 60 := ⟨by decide +kernel, rfl⟩
theorem d0_60 : own_D code 60 (.dup) 1 61 := ⟨by decide +kernel, rfl⟩
theorem d0_61 : own_D code 61 (.iconst 1) 1 62 := ⟨by decide +kernel, rfl⟩
theorem d0_62 : own_D code 62 (.iconst 2) 1 63 := ⟨by decide +kernel, rfl⟩
theorem d0_63 : own_D code 63 (.invokespecial 12) 3 66 := ⟨by decide +kernel, rfl⟩
theorem d0_66 : own_D code 66 (.astore 7) 2 68 := ⟨by decide +kernel, rfl⟩
theorem d0_68 : own_D code 68 (.aload 4) 2 70 := ⟨by decide +kernel, rfl⟩
theorem d0_70 : own_D code 70 (.invokevirtual 15) 3 73 := ⟨by decide +kernel, rfl⟩
theorem d0_73 : own_D code 73 (.lstore 8) 2 75 := ⟨by decide +kernel, rfl⟩
theorem d0_75 : own_D code 75 (.aload 5) 2 77 := ⟨by decide +kernel, rfl⟩
theorem d0_77 : own_D code 77 (.invokevirtual 15) 3 80 := ⟨by decide +kernel, rfl⟩
theorem d0_80 : own_D code 80 (.lstore 10) 2 82 := ⟨by decide +kernel, rfl⟩
theorem d0_82 : own_D code 82 (.aload 6) 2 84 := ⟨by decide +kernel, rfl⟩
theorem d0_84 : own_D code 84 (.invokevirtual 15) 3 87 := ⟨by decide +kernel, rfl⟩
theorem d0_87 : own_D code 87 (.lstore 12) 2 89 := ⟨by decide +kernel, rfl⟩
theorem d0_89 : own_D code 89 (.aload 7) 2 91 := ⟨by decide +kernel, rfl⟩
theorem d0_91 : own_D code 91 (.invokevirtual 15) 3 94 := ⟨by decide +kernel, rfl⟩
theorem d0_94 : own_D code 94 (.lstore 14) 2 96 := ⟨by decide +kernel, rfl⟩
theorem d0_96 : own_D code 96 (.lload 14) 2 98 := ⟨by decide +kernel, rfl⟩
theorem d0_98 : own_D code 98 (.ldc2_w 19) 3 101 := ⟨by decide +kernel, rfl⟩
theorem d0_101 : own_D code 101 (.lcmp) 1 102 := ⟨by decide +kernel, rfl⟩
theorem d0_102 : own_B code 102 (.ifCond .ne 7) 7 105 109 := ⟨by decide +kernel, rfl, by decide, by decide⟩
theorem d0_105 : own_D code 105 (.iconst 1) 1 106 := ⟨by decide +kernel, rfl⟩
theorem d0_106 : own_B code 106 (.goto 4) 4 109 110 := ⟨by decide +kernel, rfl, by decide, by decide⟩
theorem d0_110 : own_D code 110 (.istore 16) 2 112 := ⟨by decide +kernel, rfl⟩
theorem d0_112 : own_D code 112 (.lload 10) 2 114 := ⟨by decide +kernel, rfl⟩
theorem d0_114 : own_D code 114 (.lload 8) 2 116 := ⟨by decide +kernel, rfl⟩
theorem d0_116 : own_D code 116 (.lsub) 1 117 := ⟨by decide +kernel, rfl⟩
theorem d0_117 : own_D code 117 (.ldc2_w 21) 3 120 := ⟨by decide +kernel, rfl⟩
theorem d0_120 : own_D code 120 (.lcmp) 1 121 := ⟨by decide +kernel, rfl⟩
theorem d0_121 : own_B code 121 (.ifCond .ne 7) 7 124 128 := ⟨by decide +kernel, rfl, by decide, by decide⟩
theorem d0_124 : own_D code 124 (.iconst 1) 1 125 := ⟨by decide +kernel, rfl⟩
theorem d0_125 : own_B code 125 (.goto 4) 4 128 129 := ⟨by decide +kernel, rfl, by decide, by decide⟩
theorem d0_129 : own_D code 129 (.istore 17) 2 131 := ⟨by decide +kernel, rfl⟩
theorem d0_131 : own_D code 131 (.lload 12) 2 133 := ⟨by decide +kernel, rfl⟩
theorem d0_133 : own_D code 133 (.lload 8) 2 135 := ⟨by decide +kernel, rfl⟩
theorem d0_135 : own_D code 135 (.lsub) 1 136 := ⟨by decide +kernel, rfl⟩
theorem d0_136 : own_D code 136 (.ldc2_w 23) 3 139 := ⟨by decide +kernel, rfl⟩
theorem d0_139 : own_D code 139 (.lcmp) 1 140 := ⟨by decide +kernel, rfl⟩
theorem d0_140 : own_B code 140 (.ifCond .ne 7) 7 143 147 := ⟨by decide +kernel, rfl, by decide, by decide⟩
theorem d0_143 : own_D code 143 (.iconst 1) 1 144 := ⟨by decide +kernel, rfl⟩
theorem d0_144 : own_B code 144 (.goto 4) 4 147 148 := ⟨by decide +kernel, rfl, by decide, by decide⟩
theorem d0_148 : own_D code 148 (.istore 18) 2 150 := ⟨by decide +kernel, rfl⟩
theorem d0_150 : own_D code 150 (.lload 8) 2 152 := ⟨by decide +kernel, rfl⟩
theorem d0_152 : own_D code 152 (.ldc2_w 19) 3 155 := ⟨by decide +kernel, rfl⟩
theorem d0_155 : own_D code 155 (.lcmp) 1 156 := ⟨by decide +kernel, rfl⟩
theorem d0_156 : own_B code 156 (.ifCond .lt 25) 25 159 181 := ⟨by decide +kernel, rfl, by decide, by decide⟩
theorem d0_159 : own_D code 159 (.lload 10) 2 161 := ⟨by decide +kernel, rfl⟩
theorem d0_161 : own_D code 161 (.ldc2_w 25) 3 164 := ⟨by decide +kernel, rfl⟩
theorem d0_164 : own_D code 164 (.lcmp) 1 165 := ⟨by decide +kernel, rfl⟩
theorem d0_165 : own_B code 165 (.ifCond .gt 16) 16 168 181 := ⟨by decide +kernel, rfl, by decide, by decide⟩
theorem d0_168 : own_D code 168 (.lload 12) 2 170 := ⟨by decide +kernel, rfl⟩
theorem d0_170 : own_D code 170 (.ldc2_w 25) 3 173 := ⟨by decide +kernel, rfl⟩
theorem d0_173 : own_D code 173 (.lcmp) 1 174 := ⟨by decide +kernel, rfl⟩
theorem d0_174 : own_B code 174 (.ifCond .gt 7) 7 177 181 := ⟨by decide +kernel, rfl, by decide, by decide⟩
theorem d0_177 : own_D code 177 (.iconst 1) 1 178 := ⟨by decide +kernel, rfl⟩
theorem d0_178 : own_B code 178 (.goto 4) 4 181 182 := ⟨by decide +kernel, rfl, by decide, by decide⟩
theorem d0_182 : own_D code 182 (.istore 19) 2 184 := ⟨by decide +kernel, rfl⟩
theorem d0_184 : own_D code 184 (.iload 16) 2 186 := ⟨by decide +kernel, rfl⟩
theorem d0_186 : own_B code 186 (.ifCond .eq 22) 22 189 208 := ⟨by decide +kernel, rfl, by decide, by decide⟩
theorem d0_189 : own_D code 189 (.iload 17) 2 191 := ⟨by decide +kernel, rfl⟩
theorem d0_191 : own_B code 191 (.ifCond .eq 17) 17 194 208 := ⟨by decide +kernel, rfl, by decide, by decide⟩
theorem d0_194 : own_D code 194 (.iload 18) 2 196 := ⟨by decide +kernel, rfl⟩
theorem d0_196 : own_B code 196 (.ifCond .eq 12) 12 199 208 := ⟨by decide +kernel, rfl, by decide, by decide⟩
theorem d0_199 : own_D code 199 (.iload 19) 2 201 := ⟨by decide +kernel, rfl⟩
theorem d0_201 : own_B code 201 (.ifCond .eq 7) 7 204 208 := ⟨by decide +kernel, rfl, by decide, by decide⟩
theorem d0_204 : own_D code 204 (.iconst 1) 1 205 := ⟨by decide +kernel, rfl⟩
theorem d0_205 : own_B code 205 (.goto 4) 4 208 209 := ⟨by decide +kernel, rfl, by decide, by decide⟩
theorem d0_209 : own_D code 209 (.ireturn) 1 210 := ⟨by decide +kernel, rfl⟩
theorem d1_0 : own_D prog_87_method_1_code 0 (.aload_n 0) 1 1 := ⟨by decide +kernel, rfl⟩
theorem d1_1 : own_D prog_87_method_1_code 1 (.invokespecial 1) 3 4 := ⟨by decide +kernel, rfl⟩
theorem d1_4 : own_D prog_87_method_1_code 4 (.aload_n 0) 1 5 := ⟨by decide +kernel, rfl⟩
theorem d1_5 : own_D prog_87_method_1_code 5 (.iload_n 1) 1 6 := ⟨by decide +kernel, rfl⟩
theorem d1_6 : own_D prog_87_method_1_code 6 (.i2l) 1 7 := ⟨by decide +kernel, rfl⟩
theorem d1_7 : own_D prog_87_method_1_code 7 (.invokestatic 7) 3 10 := ⟨by decide +kernel, rfl⟩
theorem d1_10 : own_D prog_87_method_1_code 10 (.putfield 13) 3 13 := ⟨by decide +kernel, rfl⟩
theorem d1_13 : own_D prog_87_method_1_code 13 (.aload_n 0) 1 14 := ⟨by decide +kernel, rfl⟩
theorem d1_14 : own_D prog_87_method_1_code 14 (.iload_n 2) 1 15 := ⟨by decide +kernel, rfl⟩
theorem d1_15 : own_D prog_87_method_1_code 15 (.i2l) 1 16 := ⟨by decide +kernel, rfl⟩
theorem d1_16 : own_D prog_87_method_1_code 16 (.invokestatic 17) 3 19 := ⟨by decide +kernel, rfl⟩
theorem d1_19 : own_D prog_87_method_1_code 19 (.putfield 20) 3 22 := ⟨by decide +kernel, rfl⟩
theorem d1_22 : own_D prog_87_method_1_code 22 (.return_) 1 23 := ⟨by decide +kernel, rfl⟩
theorem d3_0 : own_D prog_87_method_2_code 0 (.lload_n 0) 1 1 := ⟨by decide +kernel, rfl⟩
theorem d3_1 : own_D prog_87_method_2_code 1 (.lconst 1) 1 2 := ⟨by decide +kernel, rfl⟩
theorem d3_2 : own_D prog_87_method_2_code 2 (.lcmp) 1 3 := ⟨by decide +kernel, rfl⟩
theorem d3_3 : own_B prog_87_method_2_code 3 (.ifCond .lt 11) 11 6 14 := ⟨by decide +kernel, rfl, by decide, by decide⟩
theorem d3_6 : own_D prog_87_method_2_code 6 (.lload_n 0) 1 7 := ⟨by decide +kernel, rfl⟩
theorem d3_7 : own_D prog_87_method_2_code 7 (.ldc2_w 23) 3 10 := ⟨by decide +kernel, rfl⟩
theorem d3_10 : own_D prog_87_method_2_code 10 (.lcmp) 1 11 := ⟨by decide +kernel, rfl⟩
theorem d3_11 : own_B prog_87_method_2_code 11 (.ifCond .le 17) 17 14 28 := ⟨by decide +kernel, rfl, by decide, by decide⟩
theorem d3_28 : own_D prog_87_method_2_code 28 (.lload_n 0) 1 29 := ⟨by decide +kernel, rfl⟩
theorem d3_29 : own_D prog_87_method_2_code 29 (.l2i) 1 30 := ⟨by decide +kernel, rfl⟩
theorem d3_30 : own_D prog_87_method_2_code 30 (.ireturn) 1 31 := ⟨by decide +kernel, rfl⟩
theorem d4_0 : own_D prog_87_method_3_code 0 (.lload_n 0) 1 1 := ⟨by decide +kernel, rfl⟩
theorem d4_1 : own_D prog_87_method_3_code 1 (.ldc2_w 34) 3 4 := ⟨by decide +kernel, rfl⟩
theorem d4_4 : own_D prog_87_method_3_code 4 (.lcmp) 1 5 := ⟨by decide +kernel, rfl⟩
theorem d4_5 : own_B prog_87_method_3_code 5 (.ifCond .lt 11) 11 8 16 := ⟨by decide +kernel, rfl, by decide, by decide⟩
theorem d4_8 : own_D prog_87_method_3_code 8 (.lload_n 0) 1 9 := ⟨by decide +kernel, rfl⟩
theorem d4_9 : own_D prog_87_method_3_code 9 (.ldc2_w 36) 3 12 := ⟨by decide +kernel, rfl⟩
theorem d4_12 : own_D prog_87_method_3_code 12 (.lcmp) 1 13 := ⟨by decide +kernel, rfl⟩
theorem d4_13 : own_B prog_87_method_3_code 13 (.ifCond .le 17) 17 16 30 := ⟨by decide +kernel, rfl, by decide, by decide⟩
theorem d4_30 : own_D prog_87_method_3_code 30 (.lload_n 0) 1 31 := ⟨by decide +kernel, rfl⟩
theorem d4_31 : own_D prog_87_method_3_code 31 (.l2i) 1 32 := ⟨by decide +kernel, rfl⟩
theorem d4_32 : own_D prog_87_method_3_code 32 (.ireturn) 1 33 := ⟨by decide +kernel, rfl⟩
theorem d5_0 : own_D prog_87_method_6_code 0 (.ldc2_w 39) 3 3 := ⟨by decide +kernel, rfl⟩
theorem d5_3 : own_D prog_87_method_6_code 3 (.ldc2_w 41) 3 6 := ⟨by decide +kernel, rfl⟩
theorem d5_6 : own_D prog_87_method_6_code 6 (.aload_n 0) 1 7 := ⟨by decide +kernel, rfl⟩
theorem d5_7 : own_D prog_87_method_6_code 7 (.getfield 13) 3 10 := ⟨by decide +kernel, rfl⟩
theorem d5_10 : own_D prog_87_method_6_code 10 (.i2l) 1 11 := ⟨by decide +kernel, rfl⟩
theorem d5_11 : own_D prog_87_method_6_code 11 (.lmul) 1 12 := ⟨by decide +kernel, rfl⟩
theorem d5_12 : own_D prog_87_method_6_code 12 (.ladd) 1 13 := ⟨by decide +kernel, rfl⟩
theorem d5_13 : own_D prog_87_method_6_code 13 (.ldc2_w 43) 3 16 := ⟨by decide +kernel, rfl⟩
theorem d5_16 : own_D prog_87_method_6_code 16 (.aload_n 0) 1 17 := ⟨by decide +kernel, rfl⟩
theorem d5_17 : own_D prog_87_method_6_code 17 (.getfield 20) 3 20 := ⟨by decide +kernel, rfl⟩
theorem d5_20 : own_D prog_87_method_6_code 20 (.i2l) 1 21 := ⟨by decide +kernel, rfl⟩
theorem d5_21 : own_D prog_87_method_6_code 21 (.lmul) 1 22 := ⟨by decide +kernel, rfl⟩
theorem d5_22 : own_D prog_87_method_6_code 22 (.ladd) 1 23 := ⟨by decide +kernel, rfl⟩
theorem d5_23 : own_D prog_87_method_6_code 23 (.lreturn) 1 24 := ⟨by decide +kernel, rfl⟩
theorem own_pd1 : parseMethodDescriptor "(II)V" = some ⟨[.int, .int], none⟩ := by decide +kernel
theorem own_pd3 : parseMethodDescriptor "(J)I" = some ⟨[.long], some .int⟩ := by decide +kernel
theorem own_pd4 : parseMethodDescriptor "(J)I" = some ⟨[.long], some .int⟩ := by decide +kernel
theorem own_pd5 : parseMethodDescriptor "()J" = some ⟨[], some .long⟩ := by decide +kernel
theorem own_pl0 : plainFor (⟨"com/example/tiro/tiro/index/IndexSizeFileSizePinLaw", "law", "(II)Z"⟩ : MethodName) = true := plainFor_of_name (by first | (simp [plainName, overriddenIn]; done) | decide +kernel)
theorem own_pl1 : plainFor (⟨"com/example/tiro/tiro/index/IndexSize", "<init>", "(II)V"⟩ : MethodName) = true := plainFor_of_name (by first | (simp [plainName, overriddenIn]; done) | decide +kernel)
theorem own_pl3 : plainFor (⟨"com/example/tiro/tiro/index/IndexSize", "checkSlots", "(J)I"⟩ : MethodName) = true := plainFor_of_name (by first | (simp [plainName, overriddenIn]; done) | decide +kernel)
theorem own_pl4 : plainFor (⟨"com/example/tiro/tiro/index/IndexSize", "checkEntries", "(J)I"⟩ : MethodName) = true := plainFor_of_name (by first | (simp [plainName, overriddenIn]; done) | decide +kernel)
theorem own_pl5 : plainFor (⟨"com/example/tiro/tiro/index/IndexSize", "fileSize", "()J"⟩ : MethodName) = true := plainFor_of_name (by first | (simp [plainName, overriddenIn]; done) | decide +kernel)
theorem own_back (x : Int32) : x.toInt64.toInt32 = x := by
  have h1 := c_l2i x.toInt64; have h2 := c_i2l x; have h3 := Int32.toInt_lt x; have h4 := Int32.le_toInt x; have h5 := Int32.toInt_lt x.toInt64.toInt32; have h6 := Int32.le_toInt x.toInt64.toInt32
  exact Int32.toInt_inj.mp (by omega)
def own_fs (s e : Int32) : Int64 := 40 + 4 * s.toInt64 + 20 * e.toInt64
theorem own_fsv {s e : Int32} (h1 : 0 ≤ s.toInt) (h2 : s.toInt ≤ 100000000) (h3 : 0 ≤ e.toInt) (h4 : e.toInt ≤ 80000000) : (own_fs s e).toInt = 40 + 4 * s.toInt + 20 * e.toInt := by
  unfold own_fs
  have a1 := c_i2l s; have a2 := c_i2l e
  have m1 := c_lmul 4 s.toInt64; have m2 := c_lmul 20 e.toInt64
  rw [show (4 : Int64).toInt = 4 from rfl] at m1
  rw [show (20 : Int64).toInt = 20 from rfl] at m2
  have b1 := Int64.toInt_lt (4 * s.toInt64); have b2 := Int64.le_toInt (4 * s.toInt64)
  have b3 := Int64.toInt_lt (20 * e.toInt64); have b4 := Int64.le_toInt (20 * e.toInt64)
  have s1 := c_ladd 40 (4 * s.toInt64)
  rw [show (40 : Int64).toInt = 40 from rfl] at s1
  have b5 := Int64.toInt_lt (40 + 4 * s.toInt64); have b6 := Int64.le_toInt (40 + 4 * s.toInt64)
  have s2 := c_ladd (40 + 4 * s.toInt64) (20 * e.toInt64)
  have b7 := Int64.toInt_lt (40 + 4 * s.toInt64 + 20 * e.toInt64); have b8 := Int64.le_toInt (40 + 4 * s.toInt64 + 20 * e.toInt64)
  omega
theorem own_ar {s e s' e' : Int32} {A B C M : Int64} (hs1 : 1 ≤ s.toInt) (hs2 : s.toInt ≤ 99999999) (he1 : 2 ≤ e.toInt) (he2 : e.toInt ≤ 79999999) (hs' : s'.toInt = s.toInt + 1) (he' : e'.toInt = e.toInt + 1) (hA : own_fs s e = A) (hB : own_fs s' e = B) (hC : own_fs s e' = C) (hM : own_fs 1 2 = M) :
    M.toInt = 84 ∧ (B - A).toInt = 4 ∧ (C - A).toInt = 20 ∧ 84 ≤ A.toInt ∧ B.toInt ≤ 2147483647 ∧ C.toInt ≤ 2147483647 := by
  have vA := own_fsv (s := s) (e := e) (by omega) (by omega) (by omega) (by omega)
  have vB := own_fsv (s := s') (e := e) (by omega) (by omega) (by omega) (by omega)
  have vC := own_fsv (s := s) (e := e') (by omega) (by omega) (by omega) (by omega)
  have vM := own_fsv (s := 1) (e := 2) (by decide) (by decide) (by decide) (by decide)
  rw [show (1 : Int32).toInt = 1 from rfl, show (2 : Int32).toInt = 2 from rfl] at vM
  rw [hA] at vA; rw [hB] at vB; rw [hC] at vC; rw [hM] at vM
  have d1 := c_lsub B A; have d2 := Int64.toInt_lt (B - A); have d3 := Int64.le_toInt (B - A)
  have d4 := c_lsub C A; have d5 := Int64.toInt_lt (C - A); have d6 := Int64.le_toInt (C - A)
  refine ⟨by omega, by omega, by omega, by omega, by omega, by omega⟩
theorem own_suc {s s' : Int32} (h1 : 0 ≤ s.toInt) (h2 : s.toInt ≤ 100000000) (hs : s + 1 = s') : s'.toInt = s.toInt + 1 := by
  have t1 := c_iadd s 1
  rw [hs, show (1 : Int32).toInt = 1 from rfl] at t1
  have t2 := Int32.toInt_lt s'; have t3 := Int32.le_toInt s'
  omega
theorem own_rg {x : Int32} {m : Int32} {k : Int} (hm : m.toInt = k) (hk : 0 < k) {c s : Int32} {c' : Int} (hc : c.toInt = c') (h0 : 0 ≤ c') (h1 : c' + k < 2147483648) (hs : c + (x &&& 2147483647) % m = s) : c' ≤ s.toInt ∧ s.toInt < c' + k := by
  have hm' := c_mask x 2147483647 31 (by decide) (by decide)
  have hr := (c_irem (x &&& 2147483647) m k hm).1 (by omega)
  have b1 := Int.emod_nonneg (x &&& 2147483647).toInt (show k ≠ 0 by omega)
  have b2 := Int.emod_lt_of_pos (x &&& 2147483647).toInt hk
  rw [← hr] at b1 b2
  have a1 := c_iadd c ((x &&& 2147483647) % m)
  rw [hs] at a1
  have t2 := Int32.toInt_lt s; have t3 := Int32.le_toInt s
  omega
theorem own_1 : (1 : Int32).toInt = 1 := rfl
theorem own_2 : (2 : Int32).toInt = 2 := rfl
theorem own_1L : (1 : Int64).toInt = 1 := rfl
theorem own_2L : (2 : Int64).toInt = 2 := rfl
theorem own_4L : (4 : Int64).toInt = 4 := rfl
theorem own_20L : (20 : Int64).toInt = 20 := rfl
theorem own_84L : (84 : Int64).toInt = 84 := rfl
theorem own_ML : (2147483647 : Int64).toInt = 2147483647 := rfl
theorem own_SL : (100000000 : Int64).toInt = 100000000 := rfl
theorem own_EL : (80000000 : Int64).toInt = 80000000 := rfl
set_option maxRecDepth 65536 in
set_option maxHeartbeats 4000000 in
theorem own_cs {l : Launch} {Z : State} {a0 : Array Value} (hw : ∀ d ∈ tables_1, d.before a0 Z = true) {n0 : Nat} {h : Heap} (x : Int64) (h1 : 1 ≤ x.toInt) (h2 : x.toInt ≤ 100000000) :
    own_V l Z n0 ({ frames := 0, cells := 0, slots := 0, locals := 0 } : Room) "com/example/tiro/tiro/index/IndexSize" "checkSlots" prog_87_method_2_code 2 (some .int) (fun v h' => v = some (.int x.toInt32) ∧ h = h') h 0 0 0 #[.val (.long x), .second] [] := by
  refine own_lloadN d3_0 rfl ?_
  refine own_lconst (x := 1) d3_1 rfl ?_
  refine own_lcmpLt d3_2 d3_3 (fun q => False.elim (by have := own_1L; omega)) (fun _ => ?_)
  refine own_lloadN d3_6 rfl ?_
  refine own_ldcJ d3_7 (own_w hw 15 rfl) ?_
  refine own_lcmpLe d3_10 d3_11 (fun _ => ?_) (fun q => False.elim (by have := own_SL; omega))
  refine own_lloadN d3_28 rfl ?_
  refine own_l2i d3_29 ?_
  exact own_retI d3_30 rfl (by decide) (by decide) ⟨rfl, rfl⟩
set_option maxRecDepth 65536 in
set_option maxHeartbeats 4000000 in
theorem own_ce {l : Launch} {Z : State} {a0 : Array Value} (hw : ∀ d ∈ tables_1, d.before a0 Z = true) {n0 : Nat} {h : Heap} (x : Int64) (h1 : 2 ≤ x.toInt) (h2 : x.toInt ≤ 80000000) :
    own_V l Z n0 ({ frames := 0, cells := 0, slots := 0, locals := 0 } : Room) "com/example/tiro/tiro/index/IndexSize" "checkEntries" prog_87_method_3_code 2 (some .int) (fun v h' => v = some (.int x.toInt32) ∧ h = h') h 0 0 0 #[.val (.long x), .second] [] := by
  refine own_lloadN d4_0 rfl ?_
  refine own_ldcJ d4_1 (own_w hw 21 rfl) ?_
  refine own_lcmpLt d4_4 d4_5 (fun q => False.elim (by have := own_2L; omega)) (fun _ => ?_)
  refine own_lloadN d4_8 rfl ?_
  refine own_ldcJ d4_9 (own_w hw 22 rfl) ?_
  refine own_lcmpLe d4_12 d4_13 (fun _ => ?_) (fun q => False.elim (by have := own_EL; omega))
  refine own_lloadN d4_30 rfl ?_
  refine own_l2i d4_31 ?_
  exact own_retI d4_32 rfl (by decide) (by decide) ⟨rfl, rfl⟩
set_option maxRecDepth 65536 in
set_option maxHeartbeats 4000000 in
theorem own_init {l : Launch} {Z : State} {a0 : Array Value} (hw : ∀ d ∈ tables_1, d.before a0 Z = true) {n0 : Nat} {h : Heap} (a : Addr) (s e : Int32) (h1 : 1 ≤ s.toInt) (h2 : s.toInt ≤ 100000000) (h3 : 2 ≤ e.toInt) (h4 : e.toInt ≤ 80000000) (ga : n0 ≤ a) (E : Exa Z h a "com/example/tiro/tiro/index/IndexSize") (Fs : Fld Z h a "com/example/tiro/tiro/index/IndexSize" "slots" "I" (.int 0)) (Fe : Fld Z h a "com/example/tiro/tiro/index/IndexSize" "entries" "I" (.int 0)) :
    own_V l Z n0 ({ frames := 1, cells := 0, slots := 0, locals := 14 } : Room) "com/example/tiro/tiro/index/IndexSize" "<init>" prog_87_method_1_code 3 none (fun v' h' => v' = none ∧ Keep h h' [a] ∧ Fld Z h' a "com/example/tiro/tiro/index/IndexSize" "slots" "I" (.int s) ∧ Fld Z h' a "com/example/tiro/tiro/index/IndexSize" "entries" "I" (.int e)) h 0 0 0 #[.val (.ref a), .val (.int s), .val (.int e)] [] := by
  have K := Keep.refl h [a]
  have q1 := c_i2l s
  have q2 := c_i2l e
  refine own_aloadN d1_0 rfl rfl ?_
  refine own_initO (W := 0) d1_1 (own_w hw 9 rfl) (own_w hw 10 rfl) (own_w hw 11 rfl) rfl (by decide) (Nat.le_of_eq rfl) (by decide) ?_
  refine own_aloadN d1_4 rfl rfl ?_
  refine own_iloadN d1_5 rfl ?_
  refine own_i2l d1_6 ?_
  refine own_callS (y := (⟨"com/example/tiro/tiro/index/IndexSize", "checkSlots", "(J)I"⟩ : MethodName)) (argsL := [(.long s.toInt64)]) (rest := [(.ref a)]) (W := 1) (cells' := 0) (slots' := 0) (R' := ({ frames := 0, cells := 0, slots := 0, locals := 0 } : Room)) (own_cs hw s.toInt64 (by omega) (by omega)) (fun m => own_ef3_J m s.toInt64) own_pl3 own_pd3 rfl d1_7 (own_w hw 12 rfl) (own_w hw 13 rfl) (own_w hw 5 rfl) (own_w hw 14 rfl) (by decide) rfl rfl (Nat.le_of_eq rfl) (by decide) (by decide) rfl rfl (by decide) (by decide) ?_
  rintro _ _ ⟨rfl, rfl⟩
  rw [own_back s]
  refine own_putF (ty := .int) d1_10 (own_w hw 16 rfl) Via.refl Fs E (Or.inr ⟨(own_w hw 17 rfl), rfl, rfl⟩) (own_w hw 4 rfl) (by decide) rfl rfl ga (fun h1 W1 => ?_)
  have E := E.wr W1
  have Fs := Fs.same W1
  have Fe := Fe.other W1 (Or.inr (slot_ne (Or.inr (own_w hw 24 rfl)) (Or.inr (own_w hw 17 rfl)) (by decide) (t := .int) (t' := .int) (by decide) (by decide)))
  have K := Keep.wr K W1 (Or.inl (by simp))
  refine own_aloadN d1_13 rfl rfl ?_
  refine own_iloadN d1_14 rfl ?_
  refine own_i2l d1_15 ?_
  refine own_callS (y := (⟨"com/example/tiro/tiro/index/IndexSize", "checkEntries", "(J)I"⟩ : MethodName)) (argsL := [(.long e.toInt64)]) (rest := [(.ref a)]) (W := 1) (cells' := 0) (slots' := 0) (R' := ({ frames := 0, cells := 0, slots := 0, locals := 0 } : Room)) (own_ce hw e.toInt64 (by omega) (by omega)) (fun m => own_ef4_J m e.toInt64) own_pl4 own_pd4 rfl d1_16 (own_w hw 18 rfl) (own_w hw 19 rfl) (own_w hw 5 rfl) (own_w hw 20 rfl) (by decide) rfl rfl (Nat.le_of_eq rfl) (by decide) (by decide) rfl rfl (by decide) (by decide) ?_
  rintro _ _ ⟨rfl, rfl⟩
  rw [own_back e]
  refine own_putF (ty := .int) d1_19 (own_w hw 23 rfl) Via.refl Fe E (Or.inr ⟨(own_w hw 24 rfl), rfl, rfl⟩) (own_w hw 4 rfl) (by decide) rfl rfl ga (fun h2 W2 => ?_)
  have E := E.wr W2
  have Fs := Fs.other W2 (Or.inr (slot_ne (Or.inr (own_w hw 17 rfl)) (Or.inr (own_w hw 24 rfl)) (by decide) (t := .int) (t' := .int) (by decide) (by decide)))
  have Fe := Fe.same W2
  have K := Keep.wr K W2 (Or.inl (by simp))
  exact own_ret0 d1_22.1 rfl (by decide) (by decide) ⟨rfl, K, Fs, Fe⟩
set_option maxRecDepth 65536 in
set_option maxHeartbeats 4000000 in
theorem own_file {l : Launch} {Z : State} {a0 : Array Value} (hw : ∀ d ∈ tables_1, d.before a0 Z = true) {n0 : Nat} {h : Heap} (a : Addr) (s e : Int32) (Fs : Fld Z h a "com/example/tiro/tiro/index/IndexSize" "slots" "I" (.int s)) (Fe : Fld Z h a "com/example/tiro/tiro/index/IndexSize" "entries" "I" (.int e)) :
    own_V l Z n0 ({ frames := 0, cells := 0, slots := 0, locals := 0 } : Room) "com/example/tiro/tiro/index/IndexSize" "fileSize" prog_87_method_6_code 1 (some .long) (fun v' h' => v' = some (.long (own_fs s e)) ∧ h = h') h 0 0 0 #[.val (.ref a)] [] := by
  refine own_ldcJ d5_0 (own_w hw 30 rfl) ?_
  refine own_ldcJ d5_3 (own_w hw 31 rfl) ?_
  refine own_aloadN d5_6 rfl rfl ?_
  refine own_getF d5_7 (own_w hw 16 rfl) Via.refl Fs ?_
  refine own_i2l d5_10 ?_
  refine own_lmul d5_11 ?_
  refine own_ladd d5_12 ?_
  refine own_ldcJ d5_13 (own_w hw 32 rfl) ?_
  refine own_aloadN d5_16 rfl rfl ?_
  refine own_getF d5_17 (own_w hw 23 rfl) Via.refl Fe ?_
  refine own_i2l d5_20 ?_
  refine own_lmul d5_21 ?_
  refine own_ladd d5_22 ?_
  exact own_retJ d5_23 rfl (by decide) (by decide) ⟨rfl, rfl⟩
set_option maxRecDepth 65536 in
set_option maxHeartbeats 4000000 in
theorem own_law {l : Launch} {Z : State} {a0 : Array Value} (hw : ∀ d ∈ tables_1, d.before a0 Z = true) {n0 : Nat} {h : Heap} (x0 x1 : Int32) (Z0 : n0 ≤ h.size) :
    own_V l Z n0 room_1 "com/example/tiro/tiro/index/IndexSizeFileSizePinLaw" "law" code maxLocals ret (fun v _ => v = some (.int 1)) h 0 0 0 #[.val (.int x0), .val (.int x1), .unset, .unset, .unset, .unset, .unset, .unset, .unset, .unset, .unset, .unset, .unset, .unset, .unset, .unset, .unset, .unset, .unset, .unset] [] := by
  refine own_iconst (x := 1) d0_0 rfl ?_
  refine own_iloadN d0_1 rfl ?_
  refine own_ldcI d0_2 (own_w hw 0 rfl) ?_
  refine own_iand d0_4 ?_
  refine own_ldcI d0_5 (own_w hw 1 rfl) ?_
  refine own_irem d0_7 (by decide) ?_
  refine own_iadd d0_8 ?_
  generalize g_s : ((1 : Int32) + ((x0 &&& (2147483647 : Int32)) % (99999999 : Int32))) = s
  obtain ⟨hs1, hs2⟩ := own_rg (k := 99999999) (c' := 1) rfl (by decide) rfl (by decide) (by decide) g_s
  refine own_istoreN (L' := #[.val (.int x0), .val (.int x1), .val (.int s), .unset, .unset, .unset, .unset, .unset, .unset, .unset, .unset, .unset, .unset, .unset, .unset, .unset, .unset, .unset, .unset, .unset]) d0_9 rfl ?_
  refine own_iconst (x := 2) d0_10 rfl ?_
  refine own_iloadN d0_11 rfl ?_
  refine own_ldcI d0_12 (own_w hw 0 rfl) ?_
  refine own_iand d0_14 ?_
  refine own_ldcI d0_15 (own_w hw 2 rfl) ?_
  refine own_irem d0_17 (by decide) ?_
  refine own_iadd d0_18 ?_
  generalize g_e : ((2 : Int32) + ((x1 &&& (2147483647 : Int32)) % (79999998 : Int32))) = e
  obtain ⟨he1, he2⟩ := own_rg (k := 79999998) (c' := 2) rfl (by decide) rfl (by decide) (by decide) g_e
  clear g_s g_e
  replace hs2 : s.toInt ≤ 99999999 := by omega
  replace he2 : e.toInt ≤ 79999999 := by omega
  refine own_istoreN (L' := #[.val (.int x0), .val (.int x1), .val (.int s), .val (.int e), .unset, .unset, .unset, .unset, .unset, .unset, .unset, .unset, .unset, .unset, .unset, .unset, .unset, .unset, .unset, .unset]) d0_19 rfl ?_
  refine own_new (a0 := a0) d0_20 (own_w hw 3 rfl) (own_w hw 4 rfl) (own_w hw 5 rfl) (cells' := 1) (slots' := 2) rfl rfl (by decide) (by decide) (fun h1 E1 A1 D1 => ?_)
  obtain ⟨b1, g1⟩ : ∃ z, z = h.size := ⟨_, rfl⟩
  rw [← g1] at A1 D1 ⊢
  have g_b1 : n0 ≤ b1 := by rw [g1]; exact Z0
  have Z0 := Nat.le_trans Z0 E1.1
  have E_b1 := A1
  have F_slots_b1 : Fld Z h1 b1 "com/example/tiro/tiro/index/IndexSize" "slots" "I" (.int (0 : Int32)) := D1 (Or.inr (own_w hw 17 rfl)) (ty := .int) (by decide)
  have F_entries_b1 : Fld Z h1 b1 "com/example/tiro/tiro/index/IndexSize" "entries" "I" (.int (0 : Int32)) := D1 (Or.inr (own_w hw 24 rfl)) (ty := .int) (by decide)
  refine own_dup d0_23 rfl ?_
  refine own_iloadN d0_24 rfl ?_
  refine own_iloadN d0_25 rfl ?_
  refine own_callI (y := (⟨"com/example/tiro/tiro/index/IndexSize", "<init>", "(II)V"⟩ : MethodName)) (argsL := [(.int s), (.int e)]) (rest := [(.ref b1)]) (W := 1) (cells' := 1) (slots' := 2) (R' := ({ frames := 1, cells := 0, slots := 0, locals := 14 } : Room)) (own_init hw b1 s e (by omega) (by omega) (by omega) (by omega) g_b1 E_b1 F_slots_b1 F_entries_b1) (fun m => own_ef1_AII m b1 s e) own_pl1 own_pd1 rfl rfl d0_26 (own_w hw 6 rfl) (own_w hw 7 rfl) (own_w hw 5 rfl) (own_w hw 8 rfl) (by decide) rfl rfl (Nat.le_of_eq rfl) (by decide) (by decide) rfl rfl (by decide) (by decide) ?_
  rintro _ h2 ⟨rfl, K2, Fs_b1, Fe_b1⟩
  have Z0 := Nat.le_trans Z0 K2.1
  have E_b1 := E_b1.keep K2
  refine own_astore (L' := #[.val (.int x0), .val (.int x1), .val (.int s), .val (.int e), .val (.ref b1), .unset, .unset, .unset, .unset, .unset, .unset, .unset, .unset, .unset, .unset, .unset, .unset, .unset, .unset, .unset]) d0_29 rfl rfl ?_
  refine own_new (a0 := a0) d0_31 (own_w hw 3 rfl) (own_w hw 4 rfl) (own_w hw 5 rfl) (cells' := 2) (slots' := 4) rfl rfl (by decide) (by decide) (fun h3 E3 A3 D3 => ?_)
  obtain ⟨b2, g3⟩ : ∃ z, z = h2.size := ⟨_, rfl⟩
  rw [← g3] at A3 D3 ⊢
  have g_b2 : n0 ≤ b2 := by rw [g3]; exact Z0
  have ne_b1_b2 : b1 ≠ b2 := by rw [g3]; exact Nat.ne_of_lt E_b1.lt
  have Z0 := Nat.le_trans Z0 E3.1
  have E_b1 := E_b1.ext E3
  have Fs_b1 := Fs_b1.ext E3
  have Fe_b1 := Fe_b1.ext E3
  have E_b2 := A3
  have F_slots_b2 : Fld Z h3 b2 "com/example/tiro/tiro/index/IndexSize" "slots" "I" (.int (0 : Int32)) := D3 (Or.inr (own_w hw 17 rfl)) (ty := .int) (by decide)
  have F_entries_b2 : Fld Z h3 b2 "com/example/tiro/tiro/index/IndexSize" "entries" "I" (.int (0 : Int32)) := D3 (Or.inr (own_w hw 24 rfl)) (ty := .int) (by decide)
  refine own_dup d0_34 rfl ?_
  refine own_iloadN d0_35 rfl ?_
  refine own_iconst (x := 1) d0_36 rfl ?_
  refine own_iadd d0_37 ?_
  generalize g_s' : (s + (1 : Int32)) = s'
  have hs' := own_suc (by omega) (by omega) g_s'
  clear g_s'
  refine own_iloadN d0_38 rfl ?_
  refine own_callI (y := (⟨"com/example/tiro/tiro/index/IndexSize", "<init>", "(II)V"⟩ : MethodName)) (argsL := [(.int s'), (.int e)]) (rest := [(.ref b2)]) (W := 1) (cells' := 2) (slots' := 4) (R' := ({ frames := 1, cells := 0, slots := 0, locals := 14 } : Room)) (own_init hw b2 s' e (by omega) (by omega) (by omega) (by omega) g_b2 E_b2 F_slots_b2 F_entries_b2) (fun m => own_ef1_AII m b2 s' e) own_pl1 own_pd1 rfl rfl d0_39 (own_w hw 6 rfl) (own_w hw 7 rfl) (own_w hw 5 rfl) (own_w hw 8 rfl) (by decide) rfl rfl (Nat.le_of_eq rfl) (by decide) (by decide) rfl rfl (by decide) (by decide) ?_
  rintro _ h4 ⟨rfl, K4, Fs_b2, Fe_b2⟩
  have Z0 := Nat.le_trans Z0 K4.1
  have E_b1 := E_b1.keep K4
  have Fs_b1 := Fs_b1.keep K4 (fun q => ne_b1_b2 (List.mem_singleton.mp q))
  have Fe_b1 := Fe_b1.keep K4 (fun q => ne_b1_b2 (List.mem_singleton.mp q))
  have E_b2 := E_b2.keep K4
  refine own_astore (L' := #[.val (.int x0), .val (.int x1), .val (.int s), .val (.int e), .val (.ref b1), .val (.ref b2), .unset, .unset, .unset, .unset, .unset, .unset, .unset, .unset, .unset, .unset, .unset, .unset, .unset, .unset]) d0_42 rfl rfl ?_
  refine own_new (a0 := a0) d0_44 (own_w hw 3 rfl) (own_w hw 4 rfl) (own_w hw 5 rfl) (cells' := 3) (slots' := 6) rfl rfl (by decide) (by decide) (fun h5 E5 A5 D5 => ?_)
  obtain ⟨b3, g5⟩ : ∃ z, z = h4.size := ⟨_, rfl⟩
  rw [← g5] at A5 D5 ⊢
  have g_b3 : n0 ≤ b3 := by rw [g5]; exact Z0
  have ne_b1_b3 : b1 ≠ b3 := by rw [g5]; exact Nat.ne_of_lt E_b1.lt
  have ne_b2_b3 : b2 ≠ b3 := by rw [g5]; exact Nat.ne_of_lt E_b2.lt
  have Z0 := Nat.le_trans Z0 E5.1
  have E_b1 := E_b1.ext E5
  have Fs_b1 := Fs_b1.ext E5
  have Fe_b1 := Fe_b1.ext E5
  have E_b2 := E_b2.ext E5
  have Fs_b2 := Fs_b2.ext E5
  have Fe_b2 := Fe_b2.ext E5
  have E_b3 := A5
  have F_slots_b3 : Fld Z h5 b3 "com/example/tiro/tiro/index/IndexSize" "slots" "I" (.int (0 : Int32)) := D5 (Or.inr (own_w hw 17 rfl)) (ty := .int) (by decide)
  have F_entries_b3 : Fld Z h5 b3 "com/example/tiro/tiro/index/IndexSize" "entries" "I" (.int (0 : Int32)) := D5 (Or.inr (own_w hw 24 rfl)) (ty := .int) (by decide)
  refine own_dup d0_47 rfl ?_
  refine own_iloadN d0_48 rfl ?_
  refine own_iloadN d0_49 rfl ?_
  refine own_iconst (x := 1) d0_50 rfl ?_
  refine own_iadd d0_51 ?_
  generalize g_e' : (e + (1 : Int32)) = e'
  have he' := own_suc (by omega) (by omega) g_e'
  clear g_e'
  refine own_callI (y := (⟨"com/example/tiro/tiro/index/IndexSize", "<init>", "(II)V"⟩ : MethodName)) (argsL := [(.int s), (.int e')]) (rest := [(.ref b3)]) (W := 1) (cells' := 3) (slots' := 6) (R' := ({ frames := 1, cells := 0, slots := 0, locals := 14 } : Room)) (own_init hw b3 s e' (by omega) (by omega) (by omega) (by omega) g_b3 E_b3 F_slots_b3 F_entries_b3) (fun m => own_ef1_AII m b3 s e') own_pl1 own_pd1 rfl rfl d0_52 (own_w hw 6 rfl) (own_w hw 7 rfl) (own_w hw 5 rfl) (own_w hw 8 rfl) (by decide) rfl rfl (Nat.le_of_eq rfl) (by decide) (by decide) rfl rfl (by decide) (by decide) ?_
  rintro _ h6 ⟨rfl, K6, Fs_b3, Fe_b3⟩
  have Z0 := Nat.le_trans Z0 K6.1
  have E_b1 := E_b1.keep K6
  have Fs_b1 := Fs_b1.keep K6 (fun q => ne_b1_b3 (List.mem_singleton.mp q))
  have Fe_b1 := Fe_b1.keep K6 (fun q => ne_b1_b3 (List.mem_singleton.mp q))
  have E_b2 := E_b2.keep K6
  have Fs_b2 := Fs_b2.keep K6 (fun q => ne_b2_b3 (List.mem_singleton.mp q))
  have Fe_b2 := Fe_b2.keep K6 (fun q => ne_b2_b3 (List.mem_singleton.mp q))
  have E_b3 := E_b3.keep K6
  refine own_astore (L' := #[.val (.int x0), .val (.int x1), .val (.int s), .val (.int e), .val (.ref b1), .val (.ref b2), .val (.ref b3), .unset, .unset, .unset, .unset, .unset, .unset, .unset, .unset, .unset, .unset, .unset, .unset, .unset]) d0_55 rfl rfl ?_
  refine own_new (a0 := a0) d0_57 (own_w hw 3 rfl) (own_w hw 4 rfl) (own_w hw 5 rfl) (cells' := 4) (slots' := 8) rfl rfl (by decide) (by decide) (fun h7 E7 A7 D7 => ?_)
  obtain ⟨b4, g7⟩ : ∃ z, z = h6.size := ⟨_, rfl⟩
  rw [← g7] at A7 D7 ⊢
  have g_b4 : n0 ≤ b4 := by rw [g7]; exact Z0
  have ne_b1_b4 : b1 ≠ b4 := by rw [g7]; exact Nat.ne_of_lt E_b1.lt
  have ne_b2_b4 : b2 ≠ b4 := by rw [g7]; exact Nat.ne_of_lt E_b2.lt
  have ne_b3_b4 : b3 ≠ b4 := by rw [g7]; exact Nat.ne_of_lt E_b3.lt
  have Z0 := Nat.le_trans Z0 E7.1
  have E_b1 := E_b1.ext E7
  have Fs_b1 := Fs_b1.ext E7
  have Fe_b1 := Fe_b1.ext E7
  have E_b2 := E_b2.ext E7
  have Fs_b2 := Fs_b2.ext E7
  have Fe_b2 := Fe_b2.ext E7
  have E_b3 := E_b3.ext E7
  have Fs_b3 := Fs_b3.ext E7
  have Fe_b3 := Fe_b3.ext E7
  have E_b4 := A7
  have F_slots_b4 : Fld Z h7 b4 "com/example/tiro/tiro/index/IndexSize" "slots" "I" (.int (0 : Int32)) := D7 (Or.inr (own_w hw 17 rfl)) (ty := .int) (by decide)
  have F_entries_b4 : Fld Z h7 b4 "com/example/tiro/tiro/index/IndexSize" "entries" "I" (.int (0 : Int32)) := D7 (Or.inr (own_w hw 24 rfl)) (ty := .int) (by decide)
  refine own_dup d0_60 rfl ?_
  refine own_iconst (x := 1) d0_61 rfl ?_
  refine own_iconst (x := 2) d0_62 rfl ?_
  refine own_callI (y := (⟨"com/example/tiro/tiro/index/IndexSize", "<init>", "(II)V"⟩ : MethodName)) (argsL := [(.int (1 : Int32)), (.int (2 : Int32))]) (rest := [(.ref b4)]) (W := 1) (cells' := 4) (slots' := 8) (R' := ({ frames := 1, cells := 0, slots := 0, locals := 14 } : Room)) (own_init hw b4 (1 : Int32) (2 : Int32) (by decide) (by decide) (by decide) (by decide) g_b4 E_b4 F_slots_b4 F_entries_b4) (fun m => own_ef1_AII m b4 (1 : Int32) (2 : Int32)) own_pl1 own_pd1 rfl rfl d0_63 (own_w hw 6 rfl) (own_w hw 7 rfl) (own_w hw 5 rfl) (own_w hw 8 rfl) (by decide) rfl rfl (Nat.le_of_eq rfl) (by decide) (by decide) rfl rfl (by decide) (by decide) ?_
  rintro _ h8 ⟨rfl, K8, Fs_b4, Fe_b4⟩
  have Z0 := Nat.le_trans Z0 K8.1
  have E_b1 := E_b1.keep K8
  have Fs_b1 := Fs_b1.keep K8 (fun q => ne_b1_b4 (List.mem_singleton.mp q))
  have Fe_b1 := Fe_b1.keep K8 (fun q => ne_b1_b4 (List.mem_singleton.mp q))
  have E_b2 := E_b2.keep K8
  have Fs_b2 := Fs_b2.keep K8 (fun q => ne_b2_b4 (List.mem_singleton.mp q))
  have Fe_b2 := Fe_b2.keep K8 (fun q => ne_b2_b4 (List.mem_singleton.mp q))
  have E_b3 := E_b3.keep K8
  have Fs_b3 := Fs_b3.keep K8 (fun q => ne_b3_b4 (List.mem_singleton.mp q))
  have Fe_b3 := Fe_b3.keep K8 (fun q => ne_b3_b4 (List.mem_singleton.mp q))
  have E_b4 := E_b4.keep K8
  refine own_astore (L' := #[.val (.int x0), .val (.int x1), .val (.int s), .val (.int e), .val (.ref b1), .val (.ref b2), .val (.ref b3), .val (.ref b4), .unset, .unset, .unset, .unset, .unset, .unset, .unset, .unset, .unset, .unset, .unset, .unset]) d0_66 rfl rfl ?_
  refine own_aload d0_68 rfl rfl ?_
  refine own_callV (y := (⟨"com/example/tiro/tiro/index/IndexSize", "fileSize", "()J"⟩ : MethodName)) (z := (⟨"com/example/tiro/tiro/index/IndexSize", "fileSize", "()J"⟩ : MethodName)) (argsL := []) (rest := []) (W := 0) (cells' := 4) (slots' := 8) (R' := ({ frames := 0, cells := 0, slots := 0, locals := 0 } : Room)) (own_file hw b1 s e Fs_b1 Fe_b1) (fun m => own_ef5_A m b1) own_pl5 own_pd5 rfl E_b1 d0_70 (own_w hw 25 rfl) (own_w hw 26 rfl) (fun _ q => notFace_of_selects (args := #[]) (mvT q (own_w hw 28 rfl))) (own_w hw 28 rfl) (own_w hw 27 rfl) (own_w hw 29 rfl) (own_w hw 5 rfl) (by decide) rfl rfl (Nat.le_of_eq rfl) (by decide) (by decide) rfl rfl (by decide) (by decide) ?_
  rintro _ _ ⟨rfl, rfl⟩
  generalize vA : own_fs s e = A
  refine own_lstore (L' := #[.val (.int x0), .val (.int x1), .val (.int s), .val (.int e), .val (.ref b1), .val (.ref b2), .val (.ref b3), .val (.ref b4), .val (.long A), .second, .unset, .unset, .unset, .unset, .unset, .unset, .unset, .unset, .unset, .unset]) d0_73 rfl ?_
  refine own_aload d0_75 rfl rfl ?_
  refine own_callV (y := (⟨"com/example/tiro/tiro/index/IndexSize", "fileSize", "()J"⟩ : MethodName)) (z := (⟨"com/example/tiro/tiro/index/IndexSize", "fileSize", "()J"⟩ : MethodName)) (argsL := []) (rest := []) (W := 0) (cells' := 4) (slots' := 8) (R' := ({ frames := 0, cells := 0, slots := 0, locals := 0 } : Room)) (own_file hw b2 s' e Fs_b2 Fe_b2) (fun m => own_ef5_A m b2) own_pl5 own_pd5 rfl E_b2 d0_77 (own_w hw 25 rfl) (own_w hw 26 rfl) (fun _ q => notFace_of_selects (args := #[]) (mvT q (own_w hw 28 rfl))) (own_w hw 28 rfl) (own_w hw 27 rfl) (own_w hw 29 rfl) (own_w hw 5 rfl) (by decide) rfl rfl (Nat.le_of_eq rfl) (by decide) (by decide) rfl rfl (by decide) (by decide) ?_
  rintro _ _ ⟨rfl, rfl⟩
  generalize vB : own_fs s' e = B
  refine own_lstore (L' := #[.val (.int x0), .val (.int x1), .val (.int s), .val (.int e), .val (.ref b1), .val (.ref b2), .val (.ref b3), .val (.ref b4), .val (.long A), .second, .val (.long B), .second, .unset, .unset, .unset, .unset, .unset, .unset, .unset, .unset]) d0_80 rfl ?_
  refine own_aload d0_82 rfl rfl ?_
  refine own_callV (y := (⟨"com/example/tiro/tiro/index/IndexSize", "fileSize", "()J"⟩ : MethodName)) (z := (⟨"com/example/tiro/tiro/index/IndexSize", "fileSize", "()J"⟩ : MethodName)) (argsL := []) (rest := []) (W := 0) (cells' := 4) (slots' := 8) (R' := ({ frames := 0, cells := 0, slots := 0, locals := 0 } : Room)) (own_file hw b3 s e' Fs_b3 Fe_b3) (fun m => own_ef5_A m b3) own_pl5 own_pd5 rfl E_b3 d0_84 (own_w hw 25 rfl) (own_w hw 26 rfl) (fun _ q => notFace_of_selects (args := #[]) (mvT q (own_w hw 28 rfl))) (own_w hw 28 rfl) (own_w hw 27 rfl) (own_w hw 29 rfl) (own_w hw 5 rfl) (by decide) rfl rfl (Nat.le_of_eq rfl) (by decide) (by decide) rfl rfl (by decide) (by decide) ?_
  rintro _ _ ⟨rfl, rfl⟩
  generalize vC : own_fs s e' = C
  refine own_lstore (L' := #[.val (.int x0), .val (.int x1), .val (.int s), .val (.int e), .val (.ref b1), .val (.ref b2), .val (.ref b3), .val (.ref b4), .val (.long A), .second, .val (.long B), .second, .val (.long C), .second, .unset, .unset, .unset, .unset, .unset, .unset]) d0_87 rfl ?_
  refine own_aload d0_89 rfl rfl ?_
  refine own_callV (y := (⟨"com/example/tiro/tiro/index/IndexSize", "fileSize", "()J"⟩ : MethodName)) (z := (⟨"com/example/tiro/tiro/index/IndexSize", "fileSize", "()J"⟩ : MethodName)) (argsL := []) (rest := []) (W := 0) (cells' := 4) (slots' := 8) (R' := ({ frames := 0, cells := 0, slots := 0, locals := 0 } : Room)) (own_file hw b4 (1 : Int32) (2 : Int32) Fs_b4 Fe_b4) (fun m => own_ef5_A m b4) own_pl5 own_pd5 rfl E_b4 d0_91 (own_w hw 25 rfl) (own_w hw 26 rfl) (fun _ q => notFace_of_selects (args := #[]) (mvT q (own_w hw 28 rfl))) (own_w hw 28 rfl) (own_w hw 27 rfl) (own_w hw 29 rfl) (own_w hw 5 rfl) (by decide) rfl rfl (Nat.le_of_eq rfl) (by decide) (by decide) rfl rfl (by decide) (by decide) ?_
  rintro _ _ ⟨rfl, rfl⟩
  generalize vM : own_fs (1 : Int32) (2 : Int32) = M
  refine own_lstore (L' := #[.val (.int x0), .val (.int x1), .val (.int s), .val (.int e), .val (.ref b1), .val (.ref b2), .val (.ref b3), .val (.ref b4), .val (.long A), .second, .val (.long B), .second, .val (.long C), .second, .val (.long M), .second, .unset, .unset, .unset, .unset]) d0_94 rfl ?_
  refine own_lload d0_96 rfl ?_
  refine own_ldcJ d0_98 (own_w hw 33 rfl) ?_
  obtain ⟨z1, z2, z3, z4, z5, z6⟩ := own_ar hs1 hs2 he1 he2 hs' he' vA vB vC vM
  refine own_lcmpNe d0_101 d0_102 (fun q => False.elim (by exact q (z1.trans own_84L.symm))) (fun _ => ?_)
  refine own_iconst (x := 1) d0_105 rfl ?_
  refine own_goto d0_106 ?_
  refine own_istore (L' := #[.val (.int x0), .val (.int x1), .val (.int s), .val (.int e), .val (.ref b1), .val (.ref b2), .val (.ref b3), .val (.ref b4), .val (.long A), .second, .val (.long B), .second, .val (.long C), .second, .val (.long M), .second, .val (.int (1 : Int32)), .unset, .unset, .unset]) d0_110 rfl ?_
  refine own_lload d0_112 rfl ?_
  refine own_lload d0_114 rfl ?_
  refine own_lsub d0_116 ?_
  refine own_ldcJ d0_117 (own_w hw 34 rfl) ?_
  refine own_lcmpNe d0_120 d0_121 (fun q => False.elim (by exact q (z2.trans own_4L.symm))) (fun _ => ?_)
  refine own_iconst (x := 1) d0_124 rfl ?_
  refine own_goto d0_125 ?_
  refine own_istore (L' := #[.val (.int x0), .val (.int x1), .val (.int s), .val (.int e), .val (.ref b1), .val (.ref b2), .val (.ref b3), .val (.ref b4), .val (.long A), .second, .val (.long B), .second, .val (.long C), .second, .val (.long M), .second, .val (.int (1 : Int32)), .val (.int (1 : Int32)), .unset, .unset]) d0_129 rfl ?_
  refine own_lload d0_131 rfl ?_
  refine own_lload d0_133 rfl ?_
  refine own_lsub d0_135 ?_
  refine own_ldcJ d0_136 (own_w hw 35 rfl) ?_
  refine own_lcmpNe d0_139 d0_140 (fun q => False.elim (by exact q (z3.trans own_20L.symm))) (fun _ => ?_)
  refine own_iconst (x := 1) d0_143 rfl ?_
  refine own_goto d0_144 ?_
  refine own_istore (L' := #[.val (.int x0), .val (.int x1), .val (.int s), .val (.int e), .val (.ref b1), .val (.ref b2), .val (.ref b3), .val (.ref b4), .val (.long A), .second, .val (.long B), .second, .val (.long C), .second, .val (.long M), .second, .val (.int (1 : Int32)), .val (.int (1 : Int32)), .val (.int (1 : Int32)), .unset]) d0_148 rfl ?_
  refine own_lload d0_150 rfl ?_
  refine own_ldcJ d0_152 (own_w hw 33 rfl) ?_
  refine own_lcmpLt d0_155 d0_156 (fun q => False.elim (by rw [own_84L] at q; exact absurd z4 (by omega))) (fun _ => ?_)
  refine own_lload d0_159 rfl ?_
  refine own_ldcJ d0_161 (own_w hw 36 rfl) ?_
  refine own_lcmpGt d0_164 d0_165 (fun q => False.elim (by rw [own_ML] at q; exact absurd z5 (by omega))) (fun _ => ?_)
  refine own_lload d0_168 rfl ?_
  refine own_ldcJ d0_170 (own_w hw 36 rfl) ?_
  refine own_lcmpGt d0_173 d0_174 (fun q => False.elim (by rw [own_ML] at q; exact absurd z6 (by omega))) (fun _ => ?_)
  refine own_iconst (x := 1) d0_177 rfl ?_
  refine own_goto d0_178 ?_
  refine own_istore (L' := #[.val (.int x0), .val (.int x1), .val (.int s), .val (.int e), .val (.ref b1), .val (.ref b2), .val (.ref b3), .val (.ref b4), .val (.long A), .second, .val (.long B), .second, .val (.long C), .second, .val (.long M), .second, .val (.int (1 : Int32)), .val (.int (1 : Int32)), .val (.int (1 : Int32)), .val (.int (1 : Int32))]) d0_182 rfl ?_
  refine own_iload d0_184 rfl ?_
  refine own_ifEq d0_186 (fun q => False.elim (by exact absurd q (by decide))) (fun _ => ?_)
  refine own_iload d0_189 rfl ?_
  refine own_ifEq d0_191 (fun q => False.elim (by exact absurd q (by decide))) (fun _ => ?_)
  refine own_iload d0_194 rfl ?_
  refine own_ifEq d0_196 (fun q => False.elim (by exact absurd q (by decide))) (fun _ => ?_)
  refine own_iload d0_199 rfl ?_
  refine own_ifEq d0_201 (fun q => False.elim (by exact absurd q (by decide))) (fun _ => ?_)
  refine own_iconst (x := 1) d0_204 rfl ?_
  refine own_goto d0_205 ?_
  exact own_retZ d0_209 rfl (by decide) (by decide) (by decide) rfl
set_option maxRecDepth 65536 in
set_option maxHeartbeats 4000000 in
theorem comes_1 {Post : Tables → Env → Array Value → State → Outcome → State → Prop} (hpost : ∀ tb e args s v u, (limb_1_1.after args s (.returned v) u = true ∧ limb_1_2.after args s (.returned v) u = true ∧ True) → FrameEnd s (.returned v) u (Jvm.fieldLocs frame_1_writes args s ++ Jvm.arrayLocs frame_1_arrays args s ++ Jvm.staticLocs frame_1_statics s) 16 128 → Post tb e args s (.returned v) u) :
    ArmFor flags0 classFile x code maxLocals ret World_1 tables_1 room_1 Calls_1 rest_1 Pre_1 Post := by
  intro l hfl _ _ p e ha hc hk s m args below hf hA hF happ hP
  obtain ⟨hcalls, hrest, hpre⟩ := hP
  obtain ⟨-, -, -, hnamed, -, -, -, hat⟩ := (Spec.applies_iff hf).mp happ
  obtain ⟨hg, hn⟩ := and_e (Cond.before_iff.mp (show (Jvm.Cond.and given_1 narrow_1).before args s = true from hpre))
  obtain ⟨gc, g0⟩ := and_e hg
  obtain ⟨k0, g1⟩ := and_e g0
  obtain ⟨w0, w1, rfl⟩ : ∃ w0 w1 : Value, args = #[w0, w1] := by
    have hs : args.size = 2 := by simpa [Cond.value, given_1] using gc
    obtain ⟨L⟩ := args
    match L, hs with
    | [w0, w1], _ => exact ⟨w0, w1, rfl⟩
  have hw := fun d (hd : d ∈ tables_1) => atoms_spec (ws := Jvm.Cond.code x code maxLocals ret :: tables_1) hat d (List.mem_cons_of_mem _ hd)
  have hfit : Fit s := fun {y c} hc i hi => by
    obtain ⟨ha, rfl⟩ := Array.getElem?_eq_some_iff.mp hc
    have q := List.all_eq_true.mp ((Array.all_eq_true_iff_forall_mem.mp hF) _ (Array.getElem_mem ha)) i (List.mem_range.mpr hi)
    simpa [Array.getElem?_eq_getElem hi] using q
  obtain ⟨i0, ei0⟩ := is_v k0
  obtain rfl : w0 = (.int i0) := Option.some.inj ei0
  obtain ⟨i1, ei1⟩ := is_v g1
  obtain rfl : w1 = (.int i1) := Option.some.inj ei1
  have hV := own_law hw i0 i1 (l := l) (n0 := s.heap.size) (h := s.heap) (Nat.le_refl _)
  have hef : ∀ m, entryFrame m #[(.int i0), (.int i1)] maxLocals = mkF m 0 #[.val (.int i0), .val (.int i1), .unset, .unset, .unset, .unset, .unset, .unset, .unset, .unset, .unset, .unset, .unset, .unset, .unset, .unset, .unset, .unset, .unset, .unset] [] := (fun m => own_ef0_II m i0 i1)
  have hM := own_met (y := x) own_pl0 hef hV tables_1
  obtain ⟨n, o, h1, h2, h3, _, L, rfl, ⟨rfl, N⟩, hq⟩ := hM p e ha hc hk s m _ below hf ((Spec.applies_iff_loose hf).mp happ).1 ⟨rfl, State.Warmed39.refl s, rfl⟩ trivial
  refine ⟨n, _, h1, h2, h3, hpost _ _ _ _ _ _ ⟨Cond.after_iff.mpr rfl, Cond.after_iff.mpr (eq_i res_at (Term.int_eval (1)) rfl), trivial⟩ ⟨hq.1, hq.2.1, (hq.2.2.sift fun y hy => Or.inr (N y hy)).mono (by decide) (by decide)⟩⟩
theorem main_1_1 : Claimed_1_1 := comes_1 fun _ _ _ _ _ _ h hF => ⟨h.1, hF⟩
theorem main_1_2 : Claimed_1_2 := comes_1 fun _ _ _ _ _ _ h hF => ⟨h.2.1, hF⟩
end Jvm.Pilot.@@N@@
namespace Jvm.Pilot.@@N@@
open Jvm Jvm.ClassFile Sem Op Lib Jvm.Free Jvm.Stand Jvm.Pilot.@@N@@.Jvm.D
/-! MADE BY PROGRAM (witnessworld.py) out of the Statement's table words and the real class files: 9 classes; the members and pool entries that the words name. The judged class is class 1, her method 1. -/
namespace start1
open Jvm.ClassFile
def u (s : String) : CpInfo := .utf8 (stringToUtf16 s)
/-- a pool by its gaps: so many unusable entries, then the entry; so many at the end -/
def gap : Nat → List CpInfo → List CpInfo
  | 0, r => r
  | n + 1, r => .unusable :: gap n r
def poolList (es : List (Nat × CpInfo)) (last : Nat) : List CpInfo := es.foldr (fun e r => gap e.1 (e.2 :: r)) (gap last [])
def pool (es : List (Nat × CpInfo)) (last : Nat) : Array CpInfo := ⟨poolList es last⟩
def fileOf (pool : Array CpInfo) (this : Nat) (attrs : Array Attribute := #[]) (ms : Array MethodInfo := #[]) (fl : Nat := 33) (sup : Nat := 0) (ifs : Array Nat := #[]) (fds : Array FieldInfo := #[]) : ClassFile where
  minorVersion := 0
  majorVersion := 65
  constantPool := pool
  accessFlags := fl
  thisClass := this
  superClass := sup
  interfaces := ifs
  fields := fds
  methods := ms
  attributes := attrs
def plain (name : String) (sup : Option ClassId) : Class where
  name := name
  kind := .ordinary
  loader := none
  accessFlags := 33
  super := sup
  interfaces := #[]
  cf := none
  fields := #[]
  methods := #[]
  instanceTypes := #[]
  staticTypes := #[]
  resolved := #[]
  callSites := []
  init := .initialized
  statics := none
  mirror := none

def pool0 : Array CpInfo := pool [(5, u "<init>"), (0, u "()V"), (1, .class_ 10), (1, u "java/lang/Object")] 113

def k0c0 : Code := { maxStack := 0, maxLocals := 1, code := object_method_1_code, exceptionTable := #[], attributes := #[] }
def k0m0 : Method := { name := "<init>", desc := "()V", sig := { parameters := [], returnType := none }, accessFlags := 1, code := some k0c0 }
/-- java/lang/Object -/
def k0 : Class := { plain "java/lang/Object" none with
  accessFlags := 33
  interfaces := #[]
  cf := some (fileOf pool0 8 #[] #[{ accessFlags := 1, nameIndex := 5, descriptorIndex := 6, attributes := #[] }] 33 0 #[] #[])
  fields := #[]
  methods := #[k0m0]
  instanceTypes := #[]
  staticTypes := #[]
  resolved := Array.replicate 124 none
  statics := none }

def pool1 : Array CpInfo := pool [(2, .class_ 4), (1, u "java/lang/Object"), (0, u "<init>"), (0, u "()V"), (0, .integer 2147483647), (0, .class_ 9), (0, u "com/example/tiro/tiro/index/IndexSize"), (0, .integer 99999999), (0, .integer 79999998), (0, .methodref 8 13), (0, .nameAndType 5 14), (0, u "(II)V"), (0, .methodref 8 16), (0, .nameAndType 17 18), (0, u "fileSize"), (0, u "()J"), (0, .long 84), (1, .long 4), (1, .long 20), (1, .long 2147483647), (1, .class_ 28), (0, u "com/example/tiro/tiro/index/IndexSizeFileSizePinLaw"), (2, u "law"), (0, u "(II)Z")] 3

def k1m0 : Method := { name := "<init>", desc := "()V", sig := { parameters := [], returnType := none }, accessFlags := 1, code := none }
def k1c1 : Code := { maxStack := 5, maxLocals := 20, code := code, exceptionTable := #[], attributes := #[] }
def k1m1 : Method := { name := "law", desc := "(II)Z", sig := { parameters := [.int, .int], returnType := some .boolean }, accessFlags := 9, code := some k1c1 }
/-- com/example/tiro/tiro/index/IndexSizeFileSizePinLaw -/
def k1 : Class := { plain "com/example/tiro/tiro/index/IndexSizeFileSizePinLaw" (some 0) with
  accessFlags := 49
  interfaces := #[]
  cf := some (fileOf pool1 27 #[] #[{ accessFlags := 1, nameIndex := 5, descriptorIndex := 6, attributes := #[] }, { accessFlags := 9, nameIndex := 31, descriptorIndex := 32, attributes := #[] }] 49 2 #[] #[])
  fields := #[]
  methods := #[k1m0, k1m1]
  instanceTypes := #[]
  staticTypes := #[]
  resolved := Array.replicate 36 none
  statics := none }

def pool2 : Array CpInfo := pool [(1, .methodref 2 3), (0, .class_ 4), (0, .nameAndType 5 6), (0, u "java/lang/Object"), (0, u "<init>"), (0, u "()V"), (0, .methodref 8 9), (0, .class_ 10), (0, .nameAndType 11 12), (0, u "com/example/tiro/tiro/index/IndexSize"), (0, u "checkSlots"), (0, u "(J)I"), (0, .fieldref 8 14), (0, .nameAndType 15 16), (0, u "slots"), (0, u "I"), (0, .methodref 8 18), (0, .nameAndType 19 12), (0, u "checkEntries"), (0, .fieldref 8 21), (0, .nameAndType 22 16), (0, u "entries"), (0, .long 100000000), (10, .long 2), (1, .long 80000000), (2, .long 40), (1, .long 4), (1, .long 20), (8, u "(II)V"), (2, u "DEFAULT"), (0, u "Lcom/example/tiro/tiro/index/IndexSize;"), (0, u "DEFAULT_SLOTS"), (1, u "DEFAULT_ENTRIES"), (0, u "MAX_SLOTS"), (1, u "MAX_ENTRIES"), (1, u "MIN_ENTRIES"), (1, u "HEADER_SIZE"), (1, u "SLOT_SIZE"), (1, u "ENTRY_SIZE"), (7, u "fileSize"), (0, u "()J")] 24

def k2c0 : Code := { maxStack := 3, maxLocals := 3, code := prog_87_method_1_code, exceptionTable := #[], attributes := #[] }
def k2m0 : Method := { name := "<init>", desc := "(II)V", sig := { parameters := [.int, .int], returnType := none }, accessFlags := 1, code := some k2c0 }
def k2c1 : Code := { maxStack := 4, maxLocals := 2, code := prog_87_method_2_code, exceptionTable := #[], attributes := #[] }
def k2m1 : Method := { name := "checkSlots", desc := "(J)I", sig := { parameters := [.long], returnType := some .int }, accessFlags := 9, code := some k2c1 }
def k2c2 : Code := { maxStack := 4, maxLocals := 2, code := prog_87_method_3_code, exceptionTable := #[], attributes := #[] }
def k2m2 : Method := { name := "checkEntries", desc := "(J)I", sig := { parameters := [.long], returnType := some .int }, accessFlags := 9, code := some k2c2 }
def k2c3 : Code := { maxStack := 6, maxLocals := 1, code := prog_87_method_6_code, exceptionTable := #[], attributes := #[] }
def k2m3 : Method := { name := "fileSize", desc := "()J", sig := { parameters := [], returnType := some .long }, accessFlags := 1, code := some k2c3 }
/-- com/example/tiro/tiro/index/IndexSize -/
def k2 : Class := { plain "com/example/tiro/tiro/index/IndexSize" (some 0) with
  accessFlags := 49
  interfaces := #[]
  cf := some (fileOf pool2 8 #[] #[{ accessFlags := 1, nameIndex := 5, descriptorIndex := 52, attributes := #[] }, { accessFlags := 9, nameIndex := 11, descriptorIndex := 12, attributes := #[] }, { accessFlags := 9, nameIndex := 19, descriptorIndex := 12, attributes := #[] }, { accessFlags := 1, nameIndex := 78, descriptorIndex := 79, attributes := #[] }] 49 2 #[] #[{ accessFlags := 25, nameIndex := 57, descriptorIndex := 16, attributes := #[] }, { accessFlags := 25, nameIndex := 59, descriptorIndex := 16, attributes := #[] }, { accessFlags := 25, nameIndex := 60, descriptorIndex := 16, attributes := #[] }, { accessFlags := 25, nameIndex := 62, descriptorIndex := 16, attributes := #[] }, { accessFlags := 25, nameIndex := 64, descriptorIndex := 16, attributes := #[] }, { accessFlags := 25, nameIndex := 55, descriptorIndex := 56, attributes := #[] }, { accessFlags := 24, nameIndex := 66, descriptorIndex := 16, attributes := #[] }, { accessFlags := 24, nameIndex := 68, descriptorIndex := 16, attributes := #[] }, { accessFlags := 24, nameIndex := 70, descriptorIndex := 16, attributes := #[] }, { accessFlags := 18, nameIndex := 15, descriptorIndex := 16, attributes := #[] }, { accessFlags := 18, nameIndex := 22, descriptorIndex := 16, attributes := #[] }])
  fields := #[{ name := "DEFAULT_SLOTS", type := .int, accessFlags := 25, slot := 0, constantValue := 0 }, { name := "DEFAULT_ENTRIES", type := .int, accessFlags := 25, slot := 1, constantValue := 0 }, { name := "MAX_SLOTS", type := .int, accessFlags := 25, slot := 2, constantValue := 0 }, { name := "MAX_ENTRIES", type := .int, accessFlags := 25, slot := 3, constantValue := 0 }, { name := "MIN_ENTRIES", type := .int, accessFlags := 25, slot := 4, constantValue := 0 }, { name := "DEFAULT", type := (.object "com/example/tiro/tiro/index/IndexSize"), accessFlags := 25, slot := 5, constantValue := 0 }, { name := "HEADER_SIZE", type := .int, accessFlags := 24, slot := 6, constantValue := 0 }, { name := "SLOT_SIZE", type := .int, accessFlags := 24, slot := 7, constantValue := 0 }, { name := "ENTRY_SIZE", type := .int, accessFlags := 24, slot := 8, constantValue := 0 }, { name := "slots", type := .int, accessFlags := 18, slot := 0, constantValue := 0 }, { name := "entries", type := .int, accessFlags := 18, slot := 1, constantValue := 0 }]
  methods := #[k2m0, k2m1, k2m2, k2m3]
  instanceTypes := #[.int, .int]
  staticTypes := #[.int, .int, .int, .int, .int, (.object "com/example/tiro/tiro/index/IndexSize"), .int, .int, .int]
  resolved := Array.replicate 104 none
  statics := none }

def pool3 : Array CpInfo := pool [(1, u "java/lang/Cloneable"), (0, .class_ 1), (0, u "java/lang/Object"), (0, .class_ 3)] 3

/-- java/lang/Cloneable -/
def k3 : Class := { plain "java/lang/Cloneable" (some 0) with
  accessFlags := 1537
  interfaces := #[]
  cf := some (fileOf pool3 2 #[] #[] 1537 4 #[] #[])
  fields := #[]
  methods := #[]
  instanceTypes := #[]
  staticTypes := #[]
  resolved := Array.replicate 8 none
  statics := none }

def pool4 : Array CpInfo := pool [(1, u "java/io/Serializable"), (0, .class_ 1), (0, u "java/lang/Object"), (0, .class_ 3)] 3

/-- java/io/Serializable -/
def k4 : Class := { plain "java/io/Serializable" (some 0) with
  accessFlags := 1537
  interfaces := #[]
  cf := some (fileOf pool4 2 #[] #[] 1537 4 #[] #[])
  fields := #[]
  methods := #[]
  instanceTypes := #[]
  staticTypes := #[]
  resolved := Array.replicate 8 none
  statics := none }

/-- the primitive byte -/
def k5 : Class := { plain "byte" none with kind := .primitive 'B', accessFlags := 0x411 }
/-- [B -/
def k6 : Class := { plain "[B" (some 0) with kind := .array 5 .byte, interfaces := #[3, 4], accessFlags := 1041 }

/-- the primitive int -/
def k7 : Class := { plain "int" none with kind := .primitive 'I', accessFlags := 0x411 }
/-- [I -/
def k8 : Class := { plain "[I" (some 0) with kind := .array 7 .int, interfaces := #[3, 4], accessFlags := 1041 }

def heap : Heap := #[]
def classes : Array Class := #[k0, k1, k2, k3, k4, k5, k6, k7, k8]
def interned : List (Array UInt16 × Addr) := []
def slotsUsed : Nat := 0
def theMethod : MethodId := ⟨1, 1⟩
def args0 : Array Value := #[.int 5, .int 7]
def aboutOver (below : List Frame) : State where
  vm := { classes := classes, interned := interned.toArray }
  heap := heap
  slotsUsed := slotsUsed
  threads := #[{ frames := .invoking theMethod args0 :: below }]
def below0 : List Frame := [.native { method := ⟨0, 0⟩, args := #[] }]
def about1 : State := aboutOver below0
def p0 : Program := .bare "" "" ""
def e0 : Env := launch0.env 0 0 0
theorem w_frames : about1.frames = Frame.invoking theMethod args0 :: below0 := rfl
set_option maxRecDepth 65536 in
theorem w_args : argsFit about1.vm theMethod args0 = true := by decide +kernel
set_option maxRecDepth 65536 in
theorem w_heap : heapFits about1 = true := by decide +kernel
set_option maxRecDepth 65536 in
theorem w_runnable : about1.curStatus? = some .runnable := by decide +kernel
set_option maxRecDepth 65536 in
theorem w_alone : about1.alone = true := by decide +kernel
set_option maxRecDepth 65536 in
theorem w_named : about1.methodNamed? x = some theMethod := by decide +kernel
set_option maxRecDepth 65536 in
theorem w_hears : about1.hears theMethod below0 = true := by decide +kernel
set_option maxRecDepth 65536 in
theorem w_ripe : about1.ripe theMethod args0 below0 = true := by decide +kernel
theorem w_running : about1.status = .running := rfl
set_option maxRecDepth 65536 in
theorem w_room : about1.hasRoom e0.platform room_1 = true :=
  launch0.hasRoom_least _ room_1 (by decide +kernel) (by decide +kernel) (by decide +kernel) (by decide +kernel) (by decide +kernel) (by decide +kernel)
theorem allAtoms_all (ts : List Jvm.Cond) (a : Array Jvm.Value) (st : Jvm.State) : (allAtoms ts).before a st = ts.all (fun c => c.before a st) := by
  induction ts with
  | nil => rfl
  | cons c t ih =>
    show (Jvm.Cond.and c (allAtoms t)).before a st = _
    rw [Jvm.Cond.before_and, ih, List.all_cons]
def words1 : List Jvm.Cond := Jvm.Cond.code x code maxLocals ret :: tables_1
/-- a 'code' word, met by the world's own term for the bytes: nothing is compared byte by byte -/
theorem code_word {y : MethodName} {bytes : ByteArray} {mx : Nat} {rt : Option FieldType} {a : Array Value} {s : State} {m : MethodId} {meth : Method} {c : Code} (h1 : s.methodNamed? y = some m) (h2 : s.vm.method? m = some meth) (h3 : meth.code = some c) (h4 : c.code = bytes)
    (h5 : (c.maxLocals == mx && c.exceptionTable.isEmpty && decide (c.maxStack ≤ mostOperands) && decide (meth.sig.returnType = rt) && !meth.locks && decide (parseMethodDescriptor y.desc = some meth.sig)) = true) : (Jvm.Cond.code y bytes mx rt).before a s = true := by
  simp only [Bool.and_eq_true, beq_iff_eq, Bool.not_eq_true', decide_eq_true_eq] at h5
  obtain ⟨⟨⟨⟨⟨g1, g2⟩, g3⟩, g4⟩, g5⟩, g6⟩ := h5
  simp [Cond.before, Cond.holds, Cond.value, h1, h2, h3, h4, g1, g2, g3, g4, g5, g6]
def isCode : Jvm.Cond → Bool
  | .code _ _ _ _ => true
  | _ => false
theorem all_split {L : List Jvm.Cond} {P : Jvm.Cond → Bool} (h1 : L.all (fun c => isCode c || P c) = true) (h2 : ∀ c ∈ L.filter isCode, P c = true) : L.all P = true := by
  refine List.all_eq_true.mpr fun c hc => ?_
  have h := List.all_eq_true.mp h1 c hc
  rcases Bool.eq_false_or_eq_true (isCode c) with hi | hi
  · exact h2 c (List.mem_filter.mpr ⟨hc, hi⟩)
  · simpa [hi] using h
set_option maxRecDepth 65536 in
theorem w_c0 : (Jvm.Cond.code x code maxLocals ret).before args0 about1 = true := code_word (m := ⟨1, 1⟩) (meth := k1m1) (c := k1c1) (by decide +kernel) rfl rfl rfl (by decide +kernel)
set_option maxRecDepth 65536 in
theorem w_c1 : (Jvm.Cond.code ({ cls := "com/example/tiro/tiro/index/IndexSize", name := "<init>", desc := "(II)V" } : Jvm.MethodName) prog_87_method_1_code (3 : Nat) (Option.none : Option Jvm.ClassFile.FieldType)).before args0 about1 = true := code_word (m := ⟨2, 0⟩) (meth := k2m0) (c := k2c0) (by decide +kernel) rfl rfl rfl (by decide +kernel)
set_option maxRecDepth 65536 in
theorem w_c2 : (Jvm.Cond.code ({ cls := "java/lang/Object", name := "<init>", desc := "()V" } : Jvm.MethodName) object_method_1_code (1 : Nat) (Option.none : Option Jvm.ClassFile.FieldType)).before args0 about1 = true := code_word (m := ⟨0, 0⟩) (meth := k0m0) (c := k0c0) (by decide +kernel) rfl rfl rfl (by decide +kernel)
set_option maxRecDepth 65536 in
theorem w_c3 : (Jvm.Cond.code ({ cls := "com/example/tiro/tiro/index/IndexSize", name := "checkSlots", desc := "(J)I" } : Jvm.MethodName) prog_87_method_2_code (2 : Nat) (Option.some Jvm.ClassFile.FieldType.int)).before args0 about1 = true := code_word (m := ⟨2, 1⟩) (meth := k2m1) (c := k2c1) (by decide +kernel) rfl rfl rfl (by decide +kernel)
set_option maxRecDepth 65536 in
theorem w_c4 : (Jvm.Cond.code ({ cls := "com/example/tiro/tiro/index/IndexSize", name := "checkEntries", desc := "(J)I" } : Jvm.MethodName) prog_87_method_3_code (2 : Nat) (Option.some Jvm.ClassFile.FieldType.int)).before args0 about1 = true := code_word (m := ⟨2, 2⟩) (meth := k2m2) (c := k2c2) (by decide +kernel) rfl rfl rfl (by decide +kernel)
set_option maxRecDepth 65536 in
theorem w_c5 : (Jvm.Cond.code ({ cls := "com/example/tiro/tiro/index/IndexSize", name := "fileSize", desc := "()J" } : Jvm.MethodName) prog_87_method_6_code (1 : Nat) (Option.some Jvm.ClassFile.FieldType.long)).before args0 about1 = true := code_word (m := ⟨2, 3⟩) (meth := k2m3) (c := k2c3) (by decide +kernel) rfl rfl rfl (by decide +kernel)
def codes1 : List Jvm.Cond := [Jvm.Cond.code x code maxLocals ret, Jvm.Cond.code ({ cls := "com/example/tiro/tiro/index/IndexSize", name := "<init>", desc := "(II)V" } : Jvm.MethodName) prog_87_method_1_code (3 : Nat) (Option.none : Option Jvm.ClassFile.FieldType), Jvm.Cond.code ({ cls := "java/lang/Object", name := "<init>", desc := "()V" } : Jvm.MethodName) object_method_1_code (1 : Nat) (Option.none : Option Jvm.ClassFile.FieldType), Jvm.Cond.code ({ cls := "com/example/tiro/tiro/index/IndexSize", name := "checkSlots", desc := "(J)I" } : Jvm.MethodName) prog_87_method_2_code (2 : Nat) (Option.some Jvm.ClassFile.FieldType.int), Jvm.Cond.code ({ cls := "com/example/tiro/tiro/index/IndexSize", name := "checkEntries", desc := "(J)I" } : Jvm.MethodName) prog_87_method_3_code (2 : Nat) (Option.some Jvm.ClassFile.FieldType.int), Jvm.Cond.code ({ cls := "com/example/tiro/tiro/index/IndexSize", name := "fileSize", desc := "()J" } : Jvm.MethodName) prog_87_method_6_code (1 : Nat) (Option.some Jvm.ClassFile.FieldType.long)]
set_option maxRecDepth 65536 in
theorem codes_eq : words1.filter isCode = codes1 := rfl
theorem w_codes : ∀ c ∈ words1.filter isCode, c.before args0 about1 = true := by
  rw [codes_eq]
  intro c hc
  simp only [codes1, List.mem_cons, List.not_mem_nil, or_false] at hc
  rcases hc with rfl | rfl | rfl | rfl | rfl | rfl
  · exact w_c0
  · exact w_c1
  · exact w_c2
  · exact w_c3
  · exact w_c4
  · exact w_c5
set_option maxRecDepth 65536 in
theorem w_t1 : (words1.take 24).all (fun c => isCode c || c.before args0 about1) = true := by decide +kernel
set_option maxRecDepth 65536 in
theorem w_t2 : (words1.drop 24).all (fun c => isCode c || c.before args0 about1) = true := by decide +kernel
theorem w_tables : (allAtoms (Jvm.Cond.code x code maxLocals ret :: tables_1)).before args0 about1 = true := by
  rw [allAtoms_all]
  show words1.all (fun c => c.before args0 about1) = true
  refine all_split ?_ w_codes
  rw [← List.take_append_drop 24 words1, List.all_append, w_t1, w_t2]
  rfl
set_option maxRecDepth 65536 in
theorem w_case : (Jvm.Cond.and given_1 narrow_1).before args0 about1 = true := by decide +kernel
theorem w_applies : (headSpec (Jvm.Cond.code x code maxLocals ret :: tables_1) room_1).applies x e0.platform about1 = true :=
  (Spec.applies_iff w_frames).mpr ⟨w_running, w_runnable, w_alone, w_named, w_hears, w_ripe, w_room, w_tables⟩
theorem atStart : AtStart classFile x code maxLocals ret World_1 tables_1 room_1 Calls_1 rest_1 Pre_1 launch0 p0 e0 about1 theMethod args0 below0 :=
  ⟨lists_1, trivial, launch0.admits_env _ _ _, launch0.least_env, fairChoices_fair.cas, fairChoices_fair.clock, w_frames, w_args, w_heap, w_applies, trivial, trivial, w_case⟩
end start1
theorem witness_1 : WitnessClaimed_1 := ⟨start1.p0, start1.e0, start1.about1, start1.theMethod, start1.args0, start1.below0, start1.atStart⟩
end Jvm.Pilot.@@N@@
