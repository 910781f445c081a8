import JvmDerived
import JvmDerived.Pilot.@@N@@Statement
import JvmDerived.Pilot.@@N@@Code
set_option linter.unusedVariables false
set_option linter.unusedSimpArgs false
namespace Jvm.Pilot.@@N@@
open Jvm Jvm.ClassFile Sem Op Lib Jvm.Free Jvm.Stand Jvm.LawKit Jvm.RoadKit Bundle Jvm.Pilot.@@N@@.Jvm.D
/-! THE OWN KIT: a walk as a weakest precondition (own_V), one law an instruction -/
def own_V (l : Launch) (Z : State) (n0 : Nat) (R : Room) (own nm : String) (cod : ByteArray) (mxl : Nat) (rt : Option FieldType) (Q : Option Value → Heap → Prop)
    (h : Heap) (cells slots : Nat) (pc : Nat) (L : Array Slot) (S : List Value) : Prop :=
  ∀ (p : Program) (e : Env) (s : State) (m : MethodId) (args : Array Value) (below : List Frame) (meth : Method) (c : Code) (T : State) (locs : List Loc),
    p.tables.exec = Jvm.exec → Z.Warmed39 s.vm → c.code = cod → c.maxLocals = mxl → s.vm.findClass own = some m.cls → meth.sig.returnType = rt → meth.name = nm → meth.locks = false →
    Stand p l e R s m args below meth c T locs cells slots → T.heap = h → Fr n0 locs →
    ∃ s₂ o, Steps p.tables e below (T.setTop (mkF m pc L S)) s₂ ∧ s₂.status = .running ∧ Ended s₂ below o ∧ ∃ v Lc, o = .returned v ∧ (Q v s₂.heap ∧ Fr n0 Lc) ∧ FrameEnd s o s₂ Lc R.cells R.slots
def own_D (cod : ByteArray) (pc : Nat) (i : Instr) (n pc' : Nat) : Prop := decode cod pc = .ok (i, n) ∧ pc + n = pc'
def own_B (cod : ByteArray) (pc : Nat) (i : Instr) (o : Int) (pc' t : Nat) : Prop := decode cod pc = .ok (i, 3) ∧ pc + 3 = pc' ∧ 0 ≤ (pc : Int) + o ∧ ((pc : Int) + o).toNat = t
section OwnKit
variable {l : Launch} {Z : State} {n0 : Nat} {R : Room} {own nm : String} {cod : ByteArray} {mxl : Nat} {rt : Option FieldType} {Q : Option Value → Heap → Prop} {h : Heap} {cells slots pc pc' : Nat} {L L' : Array Slot} {S S' : List Value} {a0 : Array Value}
theorem own_step (st : ∀ {p : Program} {e : Env} {s : State} {m : MethodId} {args : Array Value} {below : List Frame} {meth : Method} {c : Code} {T : State} {locs : List Loc}, p.tables.exec = Jvm.exec → Z.Warmed39 s.vm → c.code = cod → s.vm.findClass own = some m.cls →
      Stand p l e R s m args below meth c T locs cells slots → T.heap = h → ∀ {target : State}, Steps p.tables e below (T.setTop (mkF m pc' L' S')) target → Steps p.tables e below (T.setTop (mkF m pc L S)) target)
    (k : own_V l Z n0 R own nm cod mxl rt Q h cells slots pc' L' S') : own_V l Z n0 R own nm cod mxl rt Q h cells slots pc L S := by
  intro p e s m args below meth c T locs hx hZ hby hml hown hret hnm hlk X eT N
  obtain ⟨s₂, o, h1, r⟩ := k p e s m args below meth c T locs hx hZ hby hml hown hret hnm hlk X eT N
  exact ⟨s₂, o, st hx hZ hby hown X eT h1, r⟩
theorem own_stepC {F : Heap → List Value → Prop} {cells' slots' : Nat} (st : ∀ {p : Program} {e : Env} {s : State} {m : MethodId} {args : Array Value} {below : List Frame} {meth : Method} {c : Code} {T : State} {locs : List Loc}, p.tables.exec = Jvm.exec → Z.Warmed39 s.vm → c.code = cod → c.maxLocals = mxl → s.vm.findClass own = some m.cls → meth.name = nm →
      Stand p l e R s m args below meth c T locs cells slots → T.heap = h → Fr n0 locs →
      ∃ (T' : State) (locs' : List Loc) (S' : List Value), F T'.heap S' ∧ Stand p l e R s m args below meth c T' locs' cells' slots' ∧ Fr n0 locs' ∧ ∀ target, Steps p.tables e below (T'.setTop (mkF m pc' L' S')) target → Steps p.tables e below (T.setTop (mkF m pc L S)) target)
    (k : ∀ h' S', F h' S' → own_V l Z n0 R own nm cod mxl rt Q h' cells' slots' pc' L' S') : own_V l Z n0 R own nm cod mxl rt Q h cells slots pc L S := by
  intro p e s m args below meth c T locs hx hZ hby hml hown hret hnm hlk X eT N
  obtain ⟨T', locs', S', f, X', N', st'⟩ := st hx hZ hby hml hown hnm X eT N
  obtain ⟨s₂, o, h1, r⟩ := k _ _ f p e s m args below meth c T' locs' hx hZ hby hml hown hret hnm hlk X' rfl N'
  exact ⟨s₂, o, st' _ h1, r⟩
theorem own_iadd {x y : Int32} (d : own_D cod pc (.iadd) 1 pc') (k : own_V l Z n0 R own nm cod mxl rt Q h cells slots pc' L (.int (x + y) :: S)) : own_V l Z n0 R own nm cod mxl rt Q h cells slots pc L (.int y :: .int x :: S) := by
  obtain ⟨d, rfl⟩ := d
  exact own_step (fun hx _ hby _ X _ _ q => XS.iadd X.here hx rfl (hb hby d) rfl q) k
theorem own_isub {x y : Int32} (d : own_D cod pc (.isub) 1 pc') (k : own_V l Z n0 R own nm cod mxl rt Q h cells slots pc' L (.int (x - y) :: S)) : own_V l Z n0 R own nm cod mxl rt Q h cells slots pc L (.int y :: .int x :: S) := by
  obtain ⟨d, rfl⟩ := d
  exact own_step (fun hx _ hby _ X _ _ q => XS.isub X.here hx rfl (hb hby d) rfl q) k
theorem own_imul {x y : Int32} (d : own_D cod pc (.imul) 1 pc') (k : own_V l Z n0 R own nm cod mxl rt Q h cells slots pc' L (.int (x * y) :: S)) : own_V l Z n0 R own nm cod mxl rt Q h cells slots pc L (.int y :: .int x :: S) := by
  obtain ⟨d, rfl⟩ := d
  exact own_step (fun hx _ hby _ X _ _ q => XS.imul X.here hx rfl (hb hby d) rfl q) k
theorem own_iand {x y : Int32} (d : own_D cod pc (.iand) 1 pc') (k : own_V l Z n0 R own nm cod mxl rt Q h cells slots pc' L (.int (x &&& y) :: S)) : own_V l Z n0 R own nm cod mxl rt Q h cells slots pc L (.int y :: .int x :: S) := by
  obtain ⟨d, rfl⟩ := d
  exact own_step (fun hx _ hby _ X _ _ q => XS.iand X.here hx rfl (hb hby d) rfl q) k
theorem own_ior {x y : Int32} (d : own_D cod pc (.ior) 1 pc') (k : own_V l Z n0 R own nm cod mxl rt Q h cells slots pc' L (.int (x ||| y) :: S)) : own_V l Z n0 R own nm cod mxl rt Q h cells slots pc L (.int y :: .int x :: S) := by
  obtain ⟨d, rfl⟩ := d
  exact own_step (fun hx _ hby _ X _ _ q => XS.ior X.here hx rfl (hb hby d) rfl q) k
theorem own_ixor {x y : Int32} (d : own_D cod pc (.ixor) 1 pc') (k : own_V l Z n0 R own nm cod mxl rt Q h cells slots pc' L (.int (x ^^^ y) :: S)) : own_V l Z n0 R own nm cod mxl rt Q h cells slots pc L (.int y :: .int x :: S) := by
  obtain ⟨d, rfl⟩ := d
  exact own_step (fun hx _ hby _ X _ _ q => XS.ixor X.here hx rfl (hb hby d) rfl q) k
theorem own_ishl {x y : Int32} (d : own_D cod pc (.ishl) 1 pc') (k : own_V l Z n0 R own nm cod mxl rt Q h cells slots pc' L (.int (x <<< (y &&& 31)) :: S)) : own_V l Z n0 R own nm cod mxl rt Q h cells slots pc L (.int y :: .int x :: S) := by
  obtain ⟨d, rfl⟩ := d
  exact own_step (fun hx _ hby _ X _ _ q => XS.ishl X.here hx rfl (hb hby d) rfl q) k
theorem own_ishr {x y : Int32} (d : own_D cod pc (.ishr) 1 pc') (k : own_V l Z n0 R own nm cod mxl rt Q h cells slots pc' L (.int (x >>> (y &&& 31)) :: S)) : own_V l Z n0 R own nm cod mxl rt Q h cells slots pc L (.int y :: .int x :: S) := by
  obtain ⟨d, rfl⟩ := d
  exact own_step (fun hx _ hby _ X _ _ q => XS.ishr X.here hx rfl (hb hby d) rfl q) k
theorem own_iushr {x y : Int32} (d : own_D cod pc (.iushr) 1 pc') (k : own_V l Z n0 R own nm cod mxl rt Q h cells slots pc' L (.int ((x.toUInt32 >>> (y &&& 31).toUInt32).toInt32) :: S)) : own_V l Z n0 R own nm cod mxl rt Q h cells slots pc L (.int y :: .int x :: S) := by
  obtain ⟨d, rfl⟩ := d
  exact own_step (fun hx _ hby _ X _ _ q => XS.iushr X.here hx rfl (hb hby d) rfl q) k
theorem own_ladd {x y : Int64} (d : own_D cod pc (.ladd) 1 pc') (k : own_V l Z n0 R own nm cod mxl rt Q h cells slots pc' L (.long (x + y) :: S)) : own_V l Z n0 R own nm cod mxl rt Q h cells slots pc L (.long y :: .long x :: S) := by
  obtain ⟨d, rfl⟩ := d
  exact own_step (fun hx _ hby _ X _ _ q => XS.ladd X.here hx rfl (hb hby d) rfl q) k
theorem own_lsub {x y : Int64} (d : own_D cod pc (.lsub) 1 pc') (k : own_V l Z n0 R own nm cod mxl rt Q h cells slots pc' L (.long (x - y) :: S)) : own_V l Z n0 R own nm cod mxl rt Q h cells slots pc L (.long y :: .long x :: S) := by
  obtain ⟨d, rfl⟩ := d
  exact own_step (fun hx _ hby _ X _ _ q => XS.lsub X.here hx rfl (hb hby d) rfl q) k
theorem own_lmul {x y : Int64} (d : own_D cod pc (.lmul) 1 pc') (k : own_V l Z n0 R own nm cod mxl rt Q h cells slots pc' L (.long (x * y) :: S)) : own_V l Z n0 R own nm cod mxl rt Q h cells slots pc L (.long y :: .long x :: S) := by
  obtain ⟨d, rfl⟩ := d
  exact own_step (fun hx _ hby _ X _ _ q => XS.lmul X.here hx rfl (hb hby d) rfl q) k
theorem own_land {x y : Int64} (d : own_D cod pc (.land) 1 pc') (k : own_V l Z n0 R own nm cod mxl rt Q h cells slots pc' L (.long (x &&& y) :: S)) : own_V l Z n0 R own nm cod mxl rt Q h cells slots pc L (.long y :: .long x :: S) := by
  obtain ⟨d, rfl⟩ := d
  exact own_step (fun hx _ hby _ X _ _ q => XS.land X.here hx rfl (hb hby d) rfl q) k
theorem own_lor {x y : Int64} (d : own_D cod pc (.lor) 1 pc') (k : own_V l Z n0 R own nm cod mxl rt Q h cells slots pc' L (.long (x ||| y) :: S)) : own_V l Z n0 R own nm cod mxl rt Q h cells slots pc L (.long y :: .long x :: S) := by
  obtain ⟨d, rfl⟩ := d
  exact own_step (fun hx _ hby _ X _ _ q => XS.lor X.here hx rfl (hb hby d) rfl q) k
theorem own_lxor {x y : Int64} (d : own_D cod pc (.lxor) 1 pc') (k : own_V l Z n0 R own nm cod mxl rt Q h cells slots pc' L (.long (x ^^^ y) :: S)) : own_V l Z n0 R own nm cod mxl rt Q h cells slots pc L (.long y :: .long x :: S) := by
  obtain ⟨d, rfl⟩ := d
  exact own_step (fun hx _ hby _ X _ _ q => XS.lxor X.here hx rfl (hb hby d) rfl q) k
theorem own_lshl {x : Int64} {y : Int32} (d : own_D cod pc (.lshl) 1 pc') (k : own_V l Z n0 R own nm cod mxl rt Q h cells slots pc' L (.long (x <<< (y &&& 0x3f).toInt64) :: S)) : own_V l Z n0 R own nm cod mxl rt Q h cells slots pc L (.int y :: .long x :: S) := by
  obtain ⟨d, rfl⟩ := d
  exact own_step (fun hx _ hby _ X _ _ q => XS.lshl X.here hx rfl (hb hby d) rfl q) k
theorem own_lshr {x : Int64} {y : Int32} (d : own_D cod pc (.lshr) 1 pc') (k : own_V l Z n0 R own nm cod mxl rt Q h cells slots pc' L (.long (x >>> (y &&& 0x3f).toInt64) :: S)) : own_V l Z n0 R own nm cod mxl rt Q h cells slots pc L (.int y :: .long x :: S) := by
  obtain ⟨d, rfl⟩ := d
  exact own_step (fun hx _ hby _ X _ _ q => XS.lshr X.here hx rfl (hb hby d) rfl q) k
theorem own_lushr {x : Int64} {y : Int32} (d : own_D cod pc (.lushr) 1 pc') (k : own_V l Z n0 R own nm cod mxl rt Q h cells slots pc' L (.long ((x.toUInt64 >>> (y &&& 0x3f).toInt64.toUInt64).toInt64) :: S)) : own_V l Z n0 R own nm cod mxl rt Q h cells slots pc L (.int y :: .long x :: S) := by
  obtain ⟨d, rfl⟩ := d
  exact own_step (fun hx _ hby _ X _ _ q => XS.lushr X.here hx rfl (hb hby d) rfl q) k
theorem own_idiv {x y : Int32} (d : own_D cod pc (.idiv) 1 pc') (hy : y ≠ 0) (k : own_V l Z n0 R own nm cod mxl rt Q h cells slots pc' L (.int (x / y) :: S)) : own_V l Z n0 R own nm cod mxl rt Q h cells slots pc L (.int y :: .int x :: S) := by
  obtain ⟨d, rfl⟩ := d
  exact own_step (fun hx _ hby _ X _ _ q => XS.idiv X.here hx rfl (hb hby d) rfl hy q) k
theorem own_ldiv {x y : Int64} (d : own_D cod pc (.ldiv) 1 pc') (hy : y ≠ 0) (k : own_V l Z n0 R own nm cod mxl rt Q h cells slots pc' L (.long (x / y) :: S)) : own_V l Z n0 R own nm cod mxl rt Q h cells slots pc L (.long y :: .long x :: S) := by
  obtain ⟨d, rfl⟩ := d
  exact own_step (fun hx _ hby _ X _ _ q => XS.ldiv X.here hx rfl (hb hby d) rfl hy q) k
theorem own_lrem {x y : Int64} (d : own_D cod pc (.lrem) 1 pc') (hy : y ≠ 0) (k : own_V l Z n0 R own nm cod mxl rt Q h cells slots pc' L (.long (x - (x / y) * y) :: S)) : own_V l Z n0 R own nm cod mxl rt Q h cells slots pc L (.long y :: .long x :: S) := by
  obtain ⟨d, rfl⟩ := d
  exact own_step (fun hx _ hby _ X _ _ q => XS.lrem X.here hx rfl (hb hby d) rfl hy q) k
theorem own_irem {x y : Int32} (d : own_D cod pc (.irem) 1 pc') (hy : y ≠ 0) (k : own_V l Z n0 R own nm cod mxl rt Q h cells slots pc' L (.int (x % y) :: S)) : own_V l Z n0 R own nm cod mxl rt Q h cells slots pc L (.int y :: .int x :: S) := by
  obtain ⟨d, rfl⟩ := d
  exact own_step (fun hx _ hby _ X _ _ q => iremM X hx rfl (hb hby d) rfl hy q) k
theorem own_ineg {x : Int32} (d : own_D cod pc (.ineg) 1 pc') (k : own_V l Z n0 R own nm cod mxl rt Q h cells slots pc' L (.int (-x) :: S)) : own_V l Z n0 R own nm cod mxl rt Q h cells slots pc L (.int x :: S) := by
  obtain ⟨d, rfl⟩ := d
  exact own_step (fun hx _ hby _ X _ _ q => XS.ineg X.here hx rfl (hb hby d) rfl q) k
theorem own_i2l {x : Int32} (d : own_D cod pc (.i2l) 1 pc') (k : own_V l Z n0 R own nm cod mxl rt Q h cells slots pc' L (.long x.toInt64 :: S)) : own_V l Z n0 R own nm cod mxl rt Q h cells slots pc L (.int x :: S) := by
  obtain ⟨d, rfl⟩ := d
  exact own_step (fun hx _ hby _ X _ _ q => XS.i2l X.here hx rfl (hb hby d) rfl q) k
theorem own_i2b {x : Int32} (d : own_D cod pc (.i2b) 1 pc') (k : own_V l Z n0 R own nm cod mxl rt Q h cells slots pc' L (.int x.toInt8.toInt32 :: S)) : own_V l Z n0 R own nm cod mxl rt Q h cells slots pc L (.int x :: S) := by
  obtain ⟨d, rfl⟩ := d
  exact own_step (fun hx _ hby _ X _ _ q => XS.i2b X.here hx rfl (hb hby d) rfl q) k
theorem own_i2c {x : Int32} (d : own_D cod pc (.i2c) 1 pc') (k : own_V l Z n0 R own nm cod mxl rt Q h cells slots pc' L (.int x.toUInt32.toUInt16.toUInt32.toInt32 :: S)) : own_V l Z n0 R own nm cod mxl rt Q h cells slots pc L (.int x :: S) := by
  obtain ⟨d, rfl⟩ := d
  exact own_step (fun hx _ hby _ X _ _ q => XS.i2c X.here hx rfl (hb hby d) rfl q) k
theorem own_i2s {x : Int32} (d : own_D cod pc (.i2s) 1 pc') (k : own_V l Z n0 R own nm cod mxl rt Q h cells slots pc' L (.int x.toInt16.toInt32 :: S)) : own_V l Z n0 R own nm cod mxl rt Q h cells slots pc L (.int x :: S) := by
  obtain ⟨d, rfl⟩ := d
  exact own_step (fun hx _ hby _ X _ _ q => XS.i2s X.here hx rfl (hb hby d) rfl q) k
theorem own_l2i {x : Int64} (d : own_D cod pc (.l2i) 1 pc') (k : own_V l Z n0 R own nm cod mxl rt Q h cells slots pc' L (.int x.toInt32 :: S)) : own_V l Z n0 R own nm cod mxl rt Q h cells slots pc L (.long x :: S) := by
  obtain ⟨d, rfl⟩ := d
  exact own_step (fun hx _ hby _ X _ _ q => XS.l2i X.here hx rfl (hb hby d) rfl q) k
theorem own_lneg {x : Int64} (d : own_D cod pc (.lneg) 1 pc') (k : own_V l Z n0 R own nm cod mxl rt Q h cells slots pc' L (.long (-x) :: S)) : own_V l Z n0 R own nm cod mxl rt Q h cells slots pc L (.long x :: S) := by
  obtain ⟨d, rfl⟩ := d
  exact own_step (fun hx _ hby _ X _ _ q => XS.lneg X.here hx rfl (hb hby d) rfl q) k
theorem own_iconst {i : Int} {x : Int32} (d : own_D cod pc (.iconst i) 1 pc') (hx : Int32.ofInt i = x) (k : own_V l Z n0 R own nm cod mxl rt Q h cells slots pc' L (.int x :: S)) : own_V l Z n0 R own nm cod mxl rt Q h cells slots pc L S := by
  obtain ⟨d, rfl⟩ := d
  subst hx
  exact own_step (fun hx _ hby _ X _ _ q => XS.iconst X.here hx rfl (hb hby d) q) k
theorem own_bipush {i : Int} {x : Int32} (d : own_D cod pc (.bipush i) 2 pc') (hx : (Int8.ofInt i).toInt32 = x) (k : own_V l Z n0 R own nm cod mxl rt Q h cells slots pc' L (.int x :: S)) : own_V l Z n0 R own nm cod mxl rt Q h cells slots pc L S := by
  obtain ⟨d, rfl⟩ := d
  subst hx
  exact own_step (fun hx _ hby _ X _ _ q => XS.bipush X.here hx rfl (hb hby d) q) k
theorem own_sipush {i : Int} {x : Int32} (d : own_D cod pc (.sipush i) 3 pc') (hx : (Int16.ofInt i).toInt32 = x) (k : own_V l Z n0 R own nm cod mxl rt Q h cells slots pc' L (.int x :: S)) : own_V l Z n0 R own nm cod mxl rt Q h cells slots pc L S := by
  obtain ⟨d, rfl⟩ := d
  subst hx
  exact own_step (fun hx _ hby _ X _ _ q => XS.sipush X.here hx rfl (hb hby d) q) k
theorem own_lconst {i : Fin 2} {x : Int64} (d : own_D cod pc (.lconst i) 1 pc') (hx : Int64.ofNat i = x) (k : own_V l Z n0 R own nm cod mxl rt Q h cells slots pc' L (.long x :: S)) : own_V l Z n0 R own nm cod mxl rt Q h cells slots pc L S := by
  obtain ⟨d, rfl⟩ := d
  subst hx
  exact own_step (fun hx _ hby _ X _ _ q => XS.lconst X.here hx rfl (hb hby d) q) k
theorem own_aconstNull (d : own_D cod pc (.aconst_null) 1 pc') (k : own_V l Z n0 R own nm cod mxl rt Q h cells slots pc' L (.null :: S)) : own_V l Z n0 R own nm cod mxl rt Q h cells slots pc L (S) := by
  obtain ⟨d, rfl⟩ := d
  exact own_step (fun hx _ hby _ X _ _ q => XS.aconstNull X.here hx rfl (hb hby d) q) k
theorem own_iload {j : Nat} {x : Int32} (d : own_D cod pc (.iload j) 2 pc') (hl : L[j]? = some (.val (.int x))) (k : own_V l Z n0 R own nm cod mxl rt Q h cells slots pc' L (.int x :: S)) : own_V l Z n0 R own nm cod mxl rt Q h cells slots pc L (S) := by
  obtain ⟨d, rfl⟩ := d
  exact own_step (fun hx _ hby _ X _ _ q => XS.iload X.here hx rfl (hb hby d) hl q) k
theorem own_iloadN {j : Fin 4} {x : Int32} (d : own_D cod pc (.iload_n j) 1 pc') (hl : L[j.val]? = some (.val (.int x))) (k : own_V l Z n0 R own nm cod mxl rt Q h cells slots pc' L (.int x :: S)) : own_V l Z n0 R own nm cod mxl rt Q h cells slots pc L (S) := by
  obtain ⟨d, rfl⟩ := d
  exact own_step (fun hx _ hby _ X _ _ q => XS.iloadN X.here hx rfl (hb hby d) hl q) k
theorem own_lload {j : Nat} {x : Int64} (d : own_D cod pc (.lload j) 2 pc') (hl : L[j]? = some (.val (.long x))) (k : own_V l Z n0 R own nm cod mxl rt Q h cells slots pc' L (.long x :: S)) : own_V l Z n0 R own nm cod mxl rt Q h cells slots pc L (S) := by
  obtain ⟨d, rfl⟩ := d
  exact own_step (fun hx _ hby _ X _ _ q => XS.lload X.here hx rfl (hb hby d) hl q) k
theorem own_lloadN {j : Fin 4} {x : Int64} (d : own_D cod pc (.lload_n j) 1 pc') (hl : L[j.val]? = some (.val (.long x))) (k : own_V l Z n0 R own nm cod mxl rt Q h cells slots pc' L (.long x :: S)) : own_V l Z n0 R own nm cod mxl rt Q h cells slots pc L (S) := by
  obtain ⟨d, rfl⟩ := d
  exact own_step (fun hx _ hby _ X _ _ q => XS.lloadN X.here hx rfl (hb hby d) hl q) k
theorem own_aload {j : Nat} {x : Value} (d : own_D cod pc (.aload j) 2 pc') (hl : L[j]? = some (.val x)) (hv : x.isRef = true) (k : own_V l Z n0 R own nm cod mxl rt Q h cells slots pc' L (x :: S)) : own_V l Z n0 R own nm cod mxl rt Q h cells slots pc L (S) := by
  obtain ⟨d, rfl⟩ := d
  exact own_step (fun hx _ hby _ X _ _ q => XS.aload X.here hx rfl (hb hby d) hl hv q) k
theorem own_aloadN {j : Fin 4} {x : Value} (d : own_D cod pc (.aload_n j) 1 pc') (hl : L[j.val]? = some (.val x)) (hv : x.isRef = true) (k : own_V l Z n0 R own nm cod mxl rt Q h cells slots pc' L (x :: S)) : own_V l Z n0 R own nm cod mxl rt Q h cells slots pc L (S) := by
  obtain ⟨d, rfl⟩ := d
  exact own_step (fun hx _ hby _ X _ _ q => XS.aloadN X.here hx rfl (hb hby d) hl hv q) k
theorem own_istore {j : Nat} {x : Int32} (d : own_D cod pc (.istore j) 2 pc') (hl : storeLocals L j (.int x) = some L') (k : own_V l Z n0 R own nm cod mxl rt Q h cells slots pc' L' S) : own_V l Z n0 R own nm cod mxl rt Q h cells slots pc L (.int x :: S) := by
  obtain ⟨d, rfl⟩ := d
  exact own_step (fun hx _ hby _ X _ _ q => XS.istore X.here hx rfl (hb hby d) rfl hl q) k
theorem own_istoreN {j : Fin 4} {x : Int32} (d : own_D cod pc (.istore_n j) 1 pc') (hl : storeLocals L j.val (.int x) = some L') (k : own_V l Z n0 R own nm cod mxl rt Q h cells slots pc' L' S) : own_V l Z n0 R own nm cod mxl rt Q h cells slots pc L (.int x :: S) := by
  obtain ⟨d, rfl⟩ := d
  exact own_step (fun hx _ hby _ X _ _ q => XS.istoreN X.here hx rfl (hb hby d) rfl hl q) k
theorem own_lstore {j : Nat} {x : Int64} (d : own_D cod pc (.lstore j) 2 pc') (hl : storeLocals L j (.long x) = some L') (k : own_V l Z n0 R own nm cod mxl rt Q h cells slots pc' L' S) : own_V l Z n0 R own nm cod mxl rt Q h cells slots pc L (.long x :: S) := by
  obtain ⟨d, rfl⟩ := d
  exact own_step (fun hx _ hby _ X _ _ q => XS.lstore X.here hx rfl (hb hby d) rfl hl q) k
theorem own_lstoreN {j : Fin 4} {x : Int64} (d : own_D cod pc (.lstore_n j) 1 pc') (hl : storeLocals L j.val (.long x) = some L') (k : own_V l Z n0 R own nm cod mxl rt Q h cells slots pc' L' S) : own_V l Z n0 R own nm cod mxl rt Q h cells slots pc L (.long x :: S) := by
  obtain ⟨d, rfl⟩ := d
  exact own_step (fun hx _ hby _ X _ _ q => XS.lstoreN X.here hx rfl (hb hby d) rfl hl q) k
theorem own_astore {j : Nat} {x : Value} (d : own_D cod pc (.astore j) 2 pc') (hv : x.isRef = true) (hl : storeLocals L j x = some L') (k : own_V l Z n0 R own nm cod mxl rt Q h cells slots pc' L' S) : own_V l Z n0 R own nm cod mxl rt Q h cells slots pc L (x :: S) := by
  obtain ⟨d, rfl⟩ := d
  exact own_step (fun hx _ hby _ X _ _ q => XS.astore X.here hx rfl (hb hby d) rfl hv hl q) k
theorem own_astoreN {j : Fin 4} {x : Value} (d : own_D cod pc (.astore_n j) 1 pc') (hv : x.isRef = true) (hl : storeLocals L j.val x = some L') (k : own_V l Z n0 R own nm cod mxl rt Q h cells slots pc' L' S) : own_V l Z n0 R own nm cod mxl rt Q h cells slots pc L (x :: S) := by
  obtain ⟨d, rfl⟩ := d
  exact own_step (fun hx _ hby _ X _ _ q => XS.astoreN X.here hx rfl (hb hby d) rfl hv hl q) k
theorem own_iinc {j : Nat} {cst : Int} {x z : Int32} (d : own_D cod pc (.iinc j cst) 3 pc') (hl : L[j]? = some (.val (.int x))) (hz : Int32.ofInt cst = z) (hl' : storeLocals L j (.int (x + z)) = some L') (k : own_V l Z n0 R own nm cod mxl rt Q h cells slots pc' L' S) : own_V l Z n0 R own nm cod mxl rt Q h cells slots pc L S := by
  obtain ⟨d, rfl⟩ := d
  subst hz
  exact own_step (fun hx _ hby _ X _ _ q => XS.iinc X.here hx rfl (hb hby d) hl hl' q) k
theorem own_dup {x : Value} (d : own_D cod pc (.dup) 1 pc') (hc : x.category = 1) (k : own_V l Z n0 R own nm cod mxl rt Q h cells slots pc' L (x :: x :: S)) : own_V l Z n0 R own nm cod mxl rt Q h cells slots pc L (x :: S) := by
  obtain ⟨d, rfl⟩ := d
  exact own_step (fun hx _ hby _ X _ _ q => XS.dup X.here hx rfl (hb hby d) rfl hc q) k
theorem own_pop {x : Value} (d : own_D cod pc (.pop) 1 pc') (hc : x.category = 1) (k : own_V l Z n0 R own nm cod mxl rt Q h cells slots pc' L S) : own_V l Z n0 R own nm cod mxl rt Q h cells slots pc L (x :: S) := by
  obtain ⟨d, rfl⟩ := d
  exact own_step (fun hx _ hby _ X _ _ q => XS.pop X.here hx rfl (hb hby d) rfl hc q) k
theorem own_dupX1 {x y : Value} (d : own_D cod pc (.dup_x1) 1 pc') (hc : x.category = 1) (hc2 : y.category = 1) (k : own_V l Z n0 R own nm cod mxl rt Q h cells slots pc' L (x :: y :: x :: S)) : own_V l Z n0 R own nm cod mxl rt Q h cells slots pc L (x :: y :: S) := by
  obtain ⟨d, rfl⟩ := d
  exact own_step (fun hx _ hby _ X _ _ q => XS.dupX1 X.here hx rfl (hb hby d) rfl hc hc2 q) k
theorem own_goto {o : Int} {t : Nat} (d : own_B cod pc (.goto o) o pc' t) (k : own_V l Z n0 R own nm cod mxl rt Q h cells slots t L S) : own_V l Z n0 R own nm cod mxl rt Q h cells slots pc L S := by
  obtain ⟨d, -, h1, rfl⟩ := d
  exact own_step (fun hx _ hby _ X _ _ q => XS.goto X.here hx rfl rfl (hb hby d) h1 rfl q) k
theorem own_icmpB {cd : ClassFile.Cond} {o : Int} {t : Nat} {x y : Int32} (d : own_B cod pc (.if_icmp cd o) o pc' t) (k1 : if_icmp.holds cd x y = true → own_V l Z n0 R own nm cod mxl rt Q h cells slots t L S) (k2 : if_icmp.holds cd x y = false → own_V l Z n0 R own nm cod mxl rt Q h cells slots pc' L S) : own_V l Z n0 R own nm cod mxl rt Q h cells slots pc L (.int y :: .int x :: S) := by
  obtain ⟨d, rfl, h1, rfl⟩ := d
  cases q : if_icmp.holds cd x y
  · exact own_step (fun hx _ hby _ X _ _ w => XS.icmpNo X.here hx rfl (hb hby d) rfl q w) (k2 q)
  · exact own_step (fun hx _ hby _ X _ _ w => XS.icmpYes X.here hx rfl rfl (hb hby d) rfl q h1 rfl w) (k1 q)
theorem own_ifB {cd : ClassFile.Cond} {o : Int} {t : Nat} {x : Int32} (d : own_B cod pc (.ifCond cd o) o pc' t) (k1 : if_icmp.holds cd x 0 = true → own_V l Z n0 R own nm cod mxl rt Q h cells slots t L S) (k2 : if_icmp.holds cd x 0 = false → own_V l Z n0 R own nm cod mxl rt Q h cells slots pc' L S) : own_V l Z n0 R own nm cod mxl rt Q h cells slots pc L (.int x :: S) := by
  obtain ⟨d, rfl, h1, rfl⟩ := d
  cases q : if_icmp.holds cd x 0
  · exact own_step (fun hx _ hby _ X _ _ w => XS.ifNo X.here hx rfl (hb hby d) rfl ((if0 _ _).trans q) w) (k2 q)
  · exact own_step (fun hx _ hby _ X _ _ w => XS.ifYes X.here hx rfl rfl (hb hby d) rfl ((if0 _ _).trans q) h1 rfl w) (k1 q)
theorem own_lcmpB {cd : ClassFile.Cond} {o : Int} {t pc1 : Nat} {x y : Int64} (d1 : own_D cod pc (.lcmp) 1 pc1) (d : own_B cod pc1 (.ifCond cd o) o pc' t) (k1 : if_icmp.holds cd (lcmpW x y) 0 = true → own_V l Z n0 R own nm cod mxl rt Q h cells slots t L S) (k2 : if_icmp.holds cd (lcmpW x y) 0 = false → own_V l Z n0 R own nm cod mxl rt Q h cells slots pc' L S) : own_V l Z n0 R own nm cod mxl rt Q h cells slots pc L (.long y :: .long x :: S) := by
  obtain ⟨d1, rfl⟩ := d1
  exact own_step (fun hx _ hby _ X _ _ w => XS.lcmp X.here hx rfl (hb hby d1) rfl w) (own_ifB d k1 k2)
theorem own_ricmpLt {x y : Int32} : if_icmp.holds .lt x y = true ↔ x.toInt < y.toInt := by
  have z0 : (0 : Int32).toInt = 0 := rfl
  simp only [if_icmp.holds, decide_eq_true_eq, Int32.lt_iff_toInt_lt, Int32.le_iff_toInt_le, gt_iff_lt, ge_iff_le, z0]
theorem own_icmpLt {o : Int} {t : Nat} {x y : Int32} (d : own_B cod pc (.if_icmp .lt o) o pc' t) (k1 : x.toInt < y.toInt → own_V l Z n0 R own nm cod mxl rt Q h cells slots t L S) (k2 : ¬ (x.toInt < y.toInt) → own_V l Z n0 R own nm cod mxl rt Q h cells slots pc' L S) : own_V l Z n0 R own nm cod mxl rt Q h cells slots pc L (.int y :: .int x :: S) :=
  own_icmpB d (fun q => k1 (own_ricmpLt.mp q)) (fun q => k2 fun w => by rw [own_ricmpLt.mpr w] at q; cases q)
theorem own_rifLt {x : Int32} : if_icmp.holds .lt x 0 = true ↔ x.toInt < (0 : Int) := by
  have z0 : (0 : Int32).toInt = 0 := rfl
  simp only [if_icmp.holds, decide_eq_true_eq, Int32.lt_iff_toInt_lt, Int32.le_iff_toInt_le, gt_iff_lt, ge_iff_le, z0]
theorem own_ifLt {o : Int} {t : Nat} {x : Int32} (d : own_B cod pc (.ifCond .lt o) o pc' t) (k1 : x.toInt < (0 : Int) → own_V l Z n0 R own nm cod mxl rt Q h cells slots t L S) (k2 : ¬ (x.toInt < (0 : Int)) → own_V l Z n0 R own nm cod mxl rt Q h cells slots pc' L S) : own_V l Z n0 R own nm cod mxl rt Q h cells slots pc L (.int x :: S) :=
  own_ifB d (fun q => k1 (own_rifLt.mp q)) (fun q => k2 fun w => by rw [own_rifLt.mpr w] at q; cases q)
theorem own_rlcmpLt {x y : Int64} : if_icmp.holds .lt (lcmpW x y) 0 = true ↔ x.toInt < y.toInt := by
  have e := lw_lt x y; have e2 := lw_gt x y; rw [Int64.lt_iff_toInt_lt] at e e2; rw [Int32.lt_iff_toInt_lt] at e e2
  have z0 : (0 : Int32).toInt = 0 := rfl
  simp only [if_icmp.holds, decide_eq_true_eq, Int32.lt_iff_toInt_lt, Int32.le_iff_toInt_le, gt_iff_lt, ge_iff_le, z0] at *
  omega
theorem own_lcmpLt {o : Int} {t pc1 : Nat} {x y : Int64} (d1 : own_D cod pc (.lcmp) 1 pc1) (d : own_B cod pc1 (.ifCond .lt o) o pc' t) (k1 : x.toInt < y.toInt → own_V l Z n0 R own nm cod mxl rt Q h cells slots t L S) (k2 : ¬ (x.toInt < y.toInt) → own_V l Z n0 R own nm cod mxl rt Q h cells slots pc' L S) : own_V l Z n0 R own nm cod mxl rt Q h cells slots pc L (.long y :: .long x :: S) :=
  own_lcmpB d1 d (fun q => k1 (own_rlcmpLt.mp q)) (fun q => k2 fun w => by rw [own_rlcmpLt.mpr w] at q; cases q)
theorem own_ricmpGe {x y : Int32} : if_icmp.holds .ge x y = true ↔ x.toInt ≥ y.toInt := by
  have z0 : (0 : Int32).toInt = 0 := rfl
  simp only [if_icmp.holds, decide_eq_true_eq, Int32.lt_iff_toInt_lt, Int32.le_iff_toInt_le, gt_iff_lt, ge_iff_le, z0]
theorem own_icmpGe {o : Int} {t : Nat} {x y : Int32} (d : own_B cod pc (.if_icmp .ge o) o pc' t) (k1 : x.toInt ≥ y.toInt → own_V l Z n0 R own nm cod mxl rt Q h cells slots t L S) (k2 : ¬ (x.toInt ≥ y.toInt) → own_V l Z n0 R own nm cod mxl rt Q h cells slots pc' L S) : own_V l Z n0 R own nm cod mxl rt Q h cells slots pc L (.int y :: .int x :: S) :=
  own_icmpB d (fun q => k1 (own_ricmpGe.mp q)) (fun q => k2 fun w => by rw [own_ricmpGe.mpr w] at q; cases q)
theorem own_rifGe {x : Int32} : if_icmp.holds .ge x 0 = true ↔ x.toInt ≥ (0 : Int) := by
  have z0 : (0 : Int32).toInt = 0 := rfl
  simp only [if_icmp.holds, decide_eq_true_eq, Int32.lt_iff_toInt_lt, Int32.le_iff_toInt_le, gt_iff_lt, ge_iff_le, z0]
theorem own_ifGe {o : Int} {t : Nat} {x : Int32} (d : own_B cod pc (.ifCond .ge o) o pc' t) (k1 : x.toInt ≥ (0 : Int) → own_V l Z n0 R own nm cod mxl rt Q h cells slots t L S) (k2 : ¬ (x.toInt ≥ (0 : Int)) → own_V l Z n0 R own nm cod mxl rt Q h cells slots pc' L S) : own_V l Z n0 R own nm cod mxl rt Q h cells slots pc L (.int x :: S) :=
  own_ifB d (fun q => k1 (own_rifGe.mp q)) (fun q => k2 fun w => by rw [own_rifGe.mpr w] at q; cases q)
theorem own_rlcmpGe {x y : Int64} : if_icmp.holds .ge (lcmpW x y) 0 = true ↔ x.toInt ≥ y.toInt := by
  have e := lw_lt x y; have e2 := lw_gt x y; rw [Int64.lt_iff_toInt_lt] at e e2; rw [Int32.lt_iff_toInt_lt] at e e2
  have z0 : (0 : Int32).toInt = 0 := rfl
  simp only [if_icmp.holds, decide_eq_true_eq, Int32.lt_iff_toInt_lt, Int32.le_iff_toInt_le, gt_iff_lt, ge_iff_le, z0] at *
  omega
theorem own_lcmpGe {o : Int} {t pc1 : Nat} {x y : Int64} (d1 : own_D cod pc (.lcmp) 1 pc1) (d : own_B cod pc1 (.ifCond .ge o) o pc' t) (k1 : x.toInt ≥ y.toInt → own_V l Z n0 R own nm cod mxl rt Q h cells slots t L S) (k2 : ¬ (x.toInt ≥ y.toInt) → own_V l Z n0 R own nm cod mxl rt Q h cells slots pc' L S) : own_V l Z n0 R own nm cod mxl rt Q h cells slots pc L (.long y :: .long x :: S) :=
  own_lcmpB d1 d (fun q => k1 (own_rlcmpGe.mp q)) (fun q => k2 fun w => by rw [own_rlcmpGe.mpr w] at q; cases q)
theorem own_ricmpGt {x y : Int32} : if_icmp.holds .gt x y = true ↔ x.toInt > y.toInt := by
  have z0 : (0 : Int32).toInt = 0 := rfl
  simp only [if_icmp.holds, decide_eq_true_eq, Int32.lt_iff_toInt_lt, Int32.le_iff_toInt_le, gt_iff_lt, ge_iff_le, z0]
theorem own_icmpGt {o : Int} {t : Nat} {x y : Int32} (d : own_B cod pc (.if_icmp .gt o) o pc' t) (k1 : x.toInt > y.toInt → own_V l Z n0 R own nm cod mxl rt Q h cells slots t L S) (k2 : ¬ (x.toInt > y.toInt) → own_V l Z n0 R own nm cod mxl rt Q h cells slots pc' L S) : own_V l Z n0 R own nm cod mxl rt Q h cells slots pc L (.int y :: .int x :: S) :=
  own_icmpB d (fun q => k1 (own_ricmpGt.mp q)) (fun q => k2 fun w => by rw [own_ricmpGt.mpr w] at q; cases q)
theorem own_rifGt {x : Int32} : if_icmp.holds .gt x 0 = true ↔ x.toInt > (0 : Int) := by
  have z0 : (0 : Int32).toInt = 0 := rfl
  simp only [if_icmp.holds, decide_eq_true_eq, Int32.lt_iff_toInt_lt, Int32.le_iff_toInt_le, gt_iff_lt, ge_iff_le, z0]
theorem own_ifGt {o : Int} {t : Nat} {x : Int32} (d : own_B cod pc (.ifCond .gt o) o pc' t) (k1 : x.toInt > (0 : Int) → own_V l Z n0 R own nm cod mxl rt Q h cells slots t L S) (k2 : ¬ (x.toInt > (0 : Int)) → own_V l Z n0 R own nm cod mxl rt Q h cells slots pc' L S) : own_V l Z n0 R own nm cod mxl rt Q h cells slots pc L (.int x :: S) :=
  own_ifB d (fun q => k1 (own_rifGt.mp q)) (fun q => k2 fun w => by rw [own_rifGt.mpr w] at q; cases q)
theorem own_rlcmpGt {x y : Int64} : if_icmp.holds .gt (lcmpW x y) 0 = true ↔ x.toInt > y.toInt := by
  have e := lw_lt x y; have e2 := lw_gt x y; rw [Int64.lt_iff_toInt_lt] at e e2; rw [Int32.lt_iff_toInt_lt] at e e2
  have z0 : (0 : Int32).toInt = 0 := rfl
  simp only [if_icmp.holds, decide_eq_true_eq, Int32.lt_iff_toInt_lt, Int32.le_iff_toInt_le, gt_iff_lt, ge_iff_le, z0] at *
  omega
theorem own_lcmpGt {o : Int} {t pc1 : Nat} {x y : Int64} (d1 : own_D cod pc (.lcmp) 1 pc1) (d : own_B cod pc1 (.ifCond .gt o) o pc' t) (k1 : x.toInt > y.toInt → own_V l Z n0 R own nm cod mxl rt Q h cells slots t L S) (k2 : ¬ (x.toInt > y.toInt) → own_V l Z n0 R own nm cod mxl rt Q h cells slots pc' L S) : own_V l Z n0 R own nm cod mxl rt Q h cells slots pc L (.long y :: .long x :: S) :=
  own_lcmpB d1 d (fun q => k1 (own_rlcmpGt.mp q)) (fun q => k2 fun w => by rw [own_rlcmpGt.mpr w] at q; cases q)
theorem own_ricmpLe {x y : Int32} : if_icmp.holds .le x y = true ↔ x.toInt ≤ y.toInt := by
  have z0 : (0 : Int32).toInt = 0 := rfl
  simp only [if_icmp.holds, decide_eq_true_eq, Int32.lt_iff_toInt_lt, Int32.le_iff_toInt_le, gt_iff_lt, ge_iff_le, z0]
theorem own_icmpLe {o : Int} {t : Nat} {x y : Int32} (d : own_B cod pc (.if_icmp .le o) o pc' t) (k1 : x.toInt ≤ y.toInt → own_V l Z n0 R own nm cod mxl rt Q h cells slots t L S) (k2 : ¬ (x.toInt ≤ y.toInt) → own_V l Z n0 R own nm cod mxl rt Q h cells slots pc' L S) : own_V l Z n0 R own nm cod mxl rt Q h cells slots pc L (.int y :: .int x :: S) :=
  own_icmpB d (fun q => k1 (own_ricmpLe.mp q)) (fun q => k2 fun w => by rw [own_ricmpLe.mpr w] at q; cases q)
theorem own_rifLe {x : Int32} : if_icmp.holds .le x 0 = true ↔ x.toInt ≤ (0 : Int) := by
  have z0 : (0 : Int32).toInt = 0 := rfl
  simp only [if_icmp.holds, decide_eq_true_eq, Int32.lt_iff_toInt_lt, Int32.le_iff_toInt_le, gt_iff_lt, ge_iff_le, z0]
theorem own_ifLe {o : Int} {t : Nat} {x : Int32} (d : own_B cod pc (.ifCond .le o) o pc' t) (k1 : x.toInt ≤ (0 : Int) → own_V l Z n0 R own nm cod mxl rt Q h cells slots t L S) (k2 : ¬ (x.toInt ≤ (0 : Int)) → own_V l Z n0 R own nm cod mxl rt Q h cells slots pc' L S) : own_V l Z n0 R own nm cod mxl rt Q h cells slots pc L (.int x :: S) :=
  own_ifB d (fun q => k1 (own_rifLe.mp q)) (fun q => k2 fun w => by rw [own_rifLe.mpr w] at q; cases q)
theorem own_rlcmpLe {x y : Int64} : if_icmp.holds .le (lcmpW x y) 0 = true ↔ x.toInt ≤ y.toInt := by
  have e := lw_lt x y; have e2 := lw_gt x y; rw [Int64.lt_iff_toInt_lt] at e e2; rw [Int32.lt_iff_toInt_lt] at e e2
  have z0 : (0 : Int32).toInt = 0 := rfl
  simp only [if_icmp.holds, decide_eq_true_eq, Int32.lt_iff_toInt_lt, Int32.le_iff_toInt_le, gt_iff_lt, ge_iff_le, z0] at *
  omega
theorem own_lcmpLe {o : Int} {t pc1 : Nat} {x y : Int64} (d1 : own_D cod pc (.lcmp) 1 pc1) (d : own_B cod pc1 (.ifCond .le o) o pc' t) (k1 : x.toInt ≤ y.toInt → own_V l Z n0 R own nm cod mxl rt Q h cells slots t L S) (k2 : ¬ (x.toInt ≤ y.toInt) → own_V l Z n0 R own nm cod mxl rt Q h cells slots pc' L S) : own_V l Z n0 R own nm cod mxl rt Q h cells slots pc L (.long y :: .long x :: S) :=
  own_lcmpB d1 d (fun q => k1 (own_rlcmpLe.mp q)) (fun q => k2 fun w => by rw [own_rlcmpLe.mpr w] at q; cases q)
theorem own_ricmpEq {x y : Int32} : if_icmp.holds .eq x y = true ↔ x.toInt = y.toInt := by
  have e : True := trivial
  have e0 : ∀ x : Int32, x = 0 ↔ x.toInt = 0 := fun x => ⟨fun q => by rw [q]; rfl, fun q => Int32.toInt_inj.mp (q.trans rfl)⟩
  simp only [if_icmp.holds, beq_iff_eq, bne_iff_ne, ne_eq, Int32.toInt_inj]
theorem own_icmpEq {o : Int} {t : Nat} {x y : Int32} (d : own_B cod pc (.if_icmp .eq o) o pc' t) (k1 : x.toInt = y.toInt → own_V l Z n0 R own nm cod mxl rt Q h cells slots t L S) (k2 : ¬ (x.toInt = y.toInt) → own_V l Z n0 R own nm cod mxl rt Q h cells slots pc' L S) : own_V l Z n0 R own nm cod mxl rt Q h cells slots pc L (.int y :: .int x :: S) :=
  own_icmpB d (fun q => k1 (own_ricmpEq.mp q)) (fun q => k2 (by
    have e : ¬ (x.toInt = y.toInt) := fun w => by rw [own_ricmpEq.mpr w] at q; cases q
    first | exact e | exact Decidable.not_not.mp e))
theorem own_rifEq {x : Int32} : if_icmp.holds .eq x 0 = true ↔ x.toInt = (0 : Int) := by
  have e : True := trivial
  have e0 : ∀ x : Int32, x = 0 ↔ x.toInt = 0 := fun x => ⟨fun q => by rw [q]; rfl, fun q => Int32.toInt_inj.mp (q.trans rfl)⟩
  simp only [if_icmp.holds, beq_iff_eq, bne_iff_ne, ne_eq, e0]
theorem own_ifEq {o : Int} {t : Nat} {x : Int32} (d : own_B cod pc (.ifCond .eq o) o pc' t) (k1 : x.toInt = (0 : Int) → own_V l Z n0 R own nm cod mxl rt Q h cells slots t L S) (k2 : ¬ (x.toInt = (0 : Int)) → own_V l Z n0 R own nm cod mxl rt Q h cells slots pc' L S) : own_V l Z n0 R own nm cod mxl rt Q h cells slots pc L (.int x :: S) :=
  own_ifB d (fun q => k1 (own_rifEq.mp q)) (fun q => k2 (by
    have e : ¬ (x.toInt = (0 : Int)) := fun w => by rw [own_rifEq.mpr w] at q; cases q
    first | exact e | exact Decidable.not_not.mp e))
theorem own_rlcmpEq {x y : Int64} : if_icmp.holds .eq (lcmpW x y) 0 = true ↔ x.toInt = y.toInt := by
  have e : (lcmpW x y = 0 ↔ x.toInt = y.toInt) := (lw_eq x y).trans Int64.toInt_inj.symm
  have e0 : ∀ x : Int32, x = 0 ↔ x.toInt = 0 := fun x => ⟨fun q => by rw [q]; rfl, fun q => Int32.toInt_inj.mp (q.trans rfl)⟩
  simp only [if_icmp.holds, beq_iff_eq, bne_iff_ne, ne_eq, e]
theorem own_lcmpEq {o : Int} {t pc1 : Nat} {x y : Int64} (d1 : own_D cod pc (.lcmp) 1 pc1) (d : own_B cod pc1 (.ifCond .eq o) o pc' t) (k1 : x.toInt = y.toInt → own_V l Z n0 R own nm cod mxl rt Q h cells slots t L S) (k2 : ¬ (x.toInt = y.toInt) → own_V l Z n0 R own nm cod mxl rt Q h cells slots pc' L S) : own_V l Z n0 R own nm cod mxl rt Q h cells slots pc L (.long y :: .long x :: S) :=
  own_lcmpB d1 d (fun q => k1 (own_rlcmpEq.mp q)) (fun q => k2 (by
    have e : ¬ (x.toInt = y.toInt) := fun w => by rw [own_rlcmpEq.mpr w] at q; cases q
    first | exact e | exact Decidable.not_not.mp e))
theorem own_ricmpNe {x y : Int32} : if_icmp.holds .ne x y = true ↔ ¬ (x.toInt = y.toInt) := by
  have e : True := trivial
  have e0 : ∀ x : Int32, x = 0 ↔ x.toInt = 0 := fun x => ⟨fun q => by rw [q]; rfl, fun q => Int32.toInt_inj.mp (q.trans rfl)⟩
  simp only [if_icmp.holds, beq_iff_eq, bne_iff_ne, ne_eq, Int32.toInt_inj]
theorem own_icmpNe {o : Int} {t : Nat} {x y : Int32} (d : own_B cod pc (.if_icmp .ne o) o pc' t) (k1 : ¬ (x.toInt = y.toInt) → own_V l Z n0 R own nm cod mxl rt Q h cells slots t L S) (k2 : x.toInt = y.toInt → own_V l Z n0 R own nm cod mxl rt Q h cells slots pc' L S) : own_V l Z n0 R own nm cod mxl rt Q h cells slots pc L (.int y :: .int x :: S) :=
  own_icmpB d (fun q => k1 (own_ricmpNe.mp q)) (fun q => k2 (by
    have e : ¬ (¬ (x.toInt = y.toInt)) := fun w => by rw [own_ricmpNe.mpr w] at q; cases q
    first | exact e | exact Decidable.not_not.mp e))
theorem own_rifNe {x : Int32} : if_icmp.holds .ne x 0 = true ↔ ¬ (x.toInt = (0 : Int)) := by
  have e : True := trivial
  have e0 : ∀ x : Int32, x = 0 ↔ x.toInt = 0 := fun x => ⟨fun q => by rw [q]; rfl, fun q => Int32.toInt_inj.mp (q.trans rfl)⟩
  simp only [if_icmp.holds, beq_iff_eq, bne_iff_ne, ne_eq, e0]
theorem own_ifNe {o : Int} {t : Nat} {x : Int32} (d : own_B cod pc (.ifCond .ne o) o pc' t) (k1 : ¬ (x.toInt = (0 : Int)) → own_V l Z n0 R own nm cod mxl rt Q h cells slots t L S) (k2 : x.toInt = (0 : Int) → own_V l Z n0 R own nm cod mxl rt Q h cells slots pc' L S) : own_V l Z n0 R own nm cod mxl rt Q h cells slots pc L (.int x :: S) :=
  own_ifB d (fun q => k1 (own_rifNe.mp q)) (fun q => k2 (by
    have e : ¬ (¬ (x.toInt = (0 : Int))) := fun w => by rw [own_rifNe.mpr w] at q; cases q
    first | exact e | exact Decidable.not_not.mp e))
theorem own_rlcmpNe {x y : Int64} : if_icmp.holds .ne (lcmpW x y) 0 = true ↔ ¬ (x.toInt = y.toInt) := by
  have e : (lcmpW x y = 0 ↔ x.toInt = y.toInt) := (lw_eq x y).trans Int64.toInt_inj.symm
  have e0 : ∀ x : Int32, x = 0 ↔ x.toInt = 0 := fun x => ⟨fun q => by rw [q]; rfl, fun q => Int32.toInt_inj.mp (q.trans rfl)⟩
  simp only [if_icmp.holds, beq_iff_eq, bne_iff_ne, ne_eq, e]
theorem own_lcmpNe {o : Int} {t pc1 : Nat} {x y : Int64} (d1 : own_D cod pc (.lcmp) 1 pc1) (d : own_B cod pc1 (.ifCond .ne o) o pc' t) (k1 : ¬ (x.toInt = y.toInt) → own_V l Z n0 R own nm cod mxl rt Q h cells slots t L S) (k2 : x.toInt = y.toInt → own_V l Z n0 R own nm cod mxl rt Q h cells slots pc' L S) : own_V l Z n0 R own nm cod mxl rt Q h cells slots pc L (.long y :: .long x :: S) :=
  own_lcmpB d1 d (fun q => k1 (own_rlcmpNe.mp q)) (fun q => k2 (by
    have e : ¬ (¬ (x.toInt = y.toInt)) := fun w => by rw [own_rlcmpNe.mpr w] at q; cases q
    first | exact e | exact Decidable.not_not.mp e))
theorem own_acmpEq {o : Int} {t : Nat} {v w : Value} (d : own_B cod pc (.if_acmp .eq o) o pc' t) (hv : v.isRef = true) (hw : w.isRef = true) (k1 : v = w → own_V l Z n0 R own nm cod mxl rt Q h cells slots t L S) (k2 : ¬ (v = w) → own_V l Z n0 R own nm cod mxl rt Q h cells slots pc' L S) : own_V l Z n0 R own nm cod mxl rt Q h cells slots pc L (w :: v :: S) := by
  obtain ⟨d, rfl, h1, rfl⟩ := d
  by_cases q : v = w
  · exact own_step (fun hx _ hby _ X _ _ z => Jvm.RoadKit.acmp X hx rfl hv hw (same := true) rfl (hb hby d) rfl (decide_eq_true q) h1 rfl z) (k1 q)
  · exact own_step (fun hx _ hby _ X _ _ z => Jvm.RoadKit.acmp X hx rfl hv hw (same := false) rfl (hb hby d) rfl (decide_eq_false q) h1 rfl z) (k2 q)
theorem own_acmpNe {o : Int} {t : Nat} {v w : Value} (d : own_B cod pc (.if_acmp .ne o) o pc' t) (hv : v.isRef = true) (hw : w.isRef = true) (k1 : ¬ (v = w) → own_V l Z n0 R own nm cod mxl rt Q h cells slots t L S) (k2 : v = w → own_V l Z n0 R own nm cod mxl rt Q h cells slots pc' L S) : own_V l Z n0 R own nm cod mxl rt Q h cells slots pc L (w :: v :: S) := by
  obtain ⟨d, rfl, h1, rfl⟩ := d
  by_cases q : v = w
  · exact own_step (fun hx _ hby _ X _ _ z => Jvm.RoadKit.acmp X hx rfl hv hw (same := true) rfl (hb hby d) rfl (decide_eq_true q) h1 rfl z) (k2 q)
  · exact own_step (fun hx _ hby _ X _ _ z => Jvm.RoadKit.acmp X hx rfl hv hw (same := false) rfl (hb hby d) rfl (decide_eq_false q) h1 rfl z) (k1 q)
theorem own_ifnullN {o : Int} {t : Nat} (d : own_B cod pc (.ifnull o) o pc' t) (k : own_V l Z n0 R own nm cod mxl rt Q h cells slots t L S) : own_V l Z n0 R own nm cod mxl rt Q h cells slots pc L (.null :: S) := by
  obtain ⟨d, -, h1, rfl⟩ := d
  exact own_step (fun hx _ hby _ X _ _ q => XS.ifnullYes X.here hx rfl rfl (hb hby d) rfl h1 rfl q) k
theorem own_ifnullR {o : Int} {t : Nat} {a : Addr} (d : own_B cod pc (.ifnull o) o pc' t) (k : own_V l Z n0 R own nm cod mxl rt Q h cells slots pc' L S) : own_V l Z n0 R own nm cod mxl rt Q h cells slots pc L (.ref a :: S) := by
  obtain ⟨d, rfl, -, -⟩ := d
  exact own_step (fun hx _ hby _ X _ _ q => XS.ifnullNo X.here hx rfl (hb hby d) rfl q) k
theorem own_ifnonnullR {o : Int} {t : Nat} {a : Addr} (d : own_B cod pc (.ifnonnull o) o pc' t) (k : own_V l Z n0 R own nm cod mxl rt Q h cells slots t L S) : own_V l Z n0 R own nm cod mxl rt Q h cells slots pc L (.ref a :: S) := by
  obtain ⟨d, -, h1, rfl⟩ := d
  exact own_step (fun hx _ hby _ X _ _ q => XS.ifnonnullYes X.here hx rfl rfl (hb hby d) rfl h1 rfl q) k
theorem own_ifnonnullN {o : Int} {t : Nat} (d : own_B cod pc (.ifnonnull o) o pc' t) (k : own_V l Z n0 R own nm cod mxl rt Q h cells slots pc' L S) : own_V l Z n0 R own nm cod mxl rt Q h cells slots pc L (.null :: S) := by
  obtain ⟨d, rfl, -, -⟩ := d
  exact own_step (fun hx _ hby _ X _ _ q => XS.ifnonnullNo X.here hx rfl (hb hby d) rfl q) k
theorem own_ldcI {i : Nat} {x : Int32} (d : own_D cod pc (.ldc i) 2 pc') (w : (Cond.constant own i x).before a0 Z = true) (k : own_V l Z n0 R own nm cod mxl rt Q h cells slots pc' L (.int x :: S)) : own_V l Z n0 R own nm cod mxl rt Q h cells slots pc L S := by
  obtain ⟨d, rfl⟩ := d
  exact own_step (fun hx hZ hby hown X _ _ q => X.ldcInt hx hown (mvT hZ w) (g := mkF _ pc L S) rfl (hb hby d) _ q) k
theorem own_ldcwI {i : Nat} {x : Int32} (d : own_D cod pc (.ldc_w i) 3 pc') (w : (Cond.constant own i x).before a0 Z = true) (k : own_V l Z n0 R own nm cod mxl rt Q h cells slots pc' L (.int x :: S)) : own_V l Z n0 R own nm cod mxl rt Q h cells slots pc L S := by
  obtain ⟨d, rfl⟩ := d
  exact own_step (fun hx hZ hby hown X _ _ q => X.ldcwInt hx hown (mvT hZ w) (g := mkF _ pc L S) rfl (hb hby d) _ q) k
theorem own_ldcJ {i : Nat} {x : Int64} (d : own_D cod pc (.ldc2_w i) 3 pc') (w : (Cond.constantLong own i x).before a0 Z = true) (k : own_V l Z n0 R own nm cod mxl rt Q h cells slots pc' L (.long x :: S)) : own_V l Z n0 R own nm cod mxl rt Q h cells slots pc L S := by
  obtain ⟨d, rfl⟩ := d
  exact own_step (fun hx hZ hby hown X _ _ q => X.ldc2Long hx hown (mvT hZ w) (g := mkF _ pc L S) rfl (hb hby d) _ q) k
theorem own_getS {i : Nat} {R0 O n ds : String} {v : Value} (d : own_D cod pc (.getstatic i) 3 pc') (w : (Cond.fieldLink own i R0 n ds).before a0 Z = true) (via : Via Z R0 O n ds) (F : Sta Z h O n ds v) (k : own_V l Z n0 R own nm cod mxl rt Q h cells slots pc' L (v :: S)) : own_V l Z n0 R own nm cod mxl rt Q h cells slots pc L S := by
  obtain ⟨d, rfl⟩ := d
  refine own_stepC (F := fun h' S' => h' = h ∧ S' = v :: S) (fun hx hZ hby _ hown _ X eT N => ?_) (by rintro h' S' ⟨rfl, rfl⟩; exact k)
  obtain ⟨T', X', e', st⟩ := getS (host := "") X hx hZ hown w via eT F (g := mkF _ pc L S) rfl (hb hby d)
  exact ⟨T', _, _, ⟨e', rfl⟩, X', N, st⟩
theorem own_getF {i : Nat} {R0 O n ds : String} {v : Value} {a : Addr} (d : own_D cod pc (.getfield i) 3 pc') (w : (Cond.fieldLink own i R0 n ds).before a0 Z = true) (via : Via Z R0 O n ds) (F : Fld Z h a O n ds v) (k : own_V l Z n0 R own nm cod mxl rt Q h cells slots pc' L (v :: S)) : own_V l Z n0 R own nm cod mxl rt Q h cells slots pc L (.ref a :: S) := by
  obtain ⟨d, rfl⟩ := d
  refine own_stepC (F := fun h' S' => h' = h ∧ S' = v :: S) (fun hx hZ hby _ hown _ X eT N => ?_) (by rintro h' S' ⟨rfl, rfl⟩; exact k)
  obtain ⟨T', X', e', st⟩ := getF (host := "") X hx hZ hown (Or.inl w) via eT F (g := mkF _ pc L (.ref a :: S)) rfl rfl (hb hby d)
  exact ⟨T', _, _, ⟨e', rfl⟩, X', N, st⟩
theorem own_putF {i kk : Nat} {R0 O C n ds : String} {v old : Value} {a : Addr} {ty : FieldType} (d : own_D cod pc (.putfield i) 3 pc') (w : (Cond.fieldLink own i R0 n ds).before a0 Z = true) (via : Via Z R0 O n ds) (F : Fld Z h a O n ds old) (E : Exa Z h a C)
    (Lw : (Cond.lays C O n ds).before a0 Z = true ∨ ((Cond.laysFinal C O n ds).before a0 Z = true ∧ own = O ∧ nm = "<init>")) (wi : (Cond.instantiable C kk).before a0 Z = true) (hty : parseFieldDescriptor ds = some ty) (hn : narrow ty v = v) (hf : fits ty v = true) (ha : n0 ≤ a)
    (k : ∀ h', Wr h h' a (Jvm.RoadKit.slotOf Z O n ds) v → own_V l Z n0 R own nm cod mxl rt Q h' cells slots pc' L S) : own_V l Z n0 R own nm cod mxl rt Q h cells slots pc L (v :: .ref a :: S) := by
  obtain ⟨d, rfl⟩ := d
  refine own_stepC (F := fun h' S' => Wr h h' a (Jvm.RoadKit.slotOf Z O n ds) v ∧ S' = S) (fun hx hZ hby _ hown hnm X eT N => ?_) (by rintro h' S' ⟨W, rfl⟩; exact k h' W)
  obtain ⟨T', h', X', e', W', st⟩ := putF (host := "") X hx hZ hown (Or.inl w) via eT F E (Lw.imp id fun q => ⟨q.1, q.2.1, hnm.trans q.2.2⟩) wi hty hn hf (g := mkF _ pc L (v :: .ref a :: S)) rfl rfl (hb hby d)
  subst e'
  exact ⟨T', _, _, ⟨W', rfl⟩, X', Fr.snoc X' N ha, st⟩
theorem own_new {i n cells' slots' : Nat} {C : String} (d : own_D cod pc (.new i) 3 pc') (w : (Cond.classLink own i C).before a0 Z = true) (wi : (Cond.instantiable C n).before a0 Z = true) (wz : (Cond.initialized C).before a0 Z = true) (hc : cells + 1 = cells') (hs : slots + n = slots') (hc' : cells' ≤ R.cells) (hs' : slots' ≤ R.slots)
    (k : ∀ h', Ext h h' → Exa Z h' h.size C → (∀ {O nf ds : String} {ty : FieldType}, Laid Z a0 C O nf ds → parseFieldDescriptor ds = some ty → Fld Z h' h.size O nf ds (defaultValue ty)) → own_V l Z n0 R own nm cod mxl rt Q h' cells' slots' pc' L (.ref h.size :: S)) : own_V l Z n0 R own nm cod mxl rt Q h cells slots pc L S := by
  obtain ⟨d, rfl⟩ := d
  subst hc hs
  refine own_stepC (F := fun h' S' => (Ext h h' ∧ Exa Z h' h.size C ∧ ∀ {O nf ds : String} {ty : FieldType}, Laid Z a0 C O nf ds → parseFieldDescriptor ds = some ty → Fld Z h' h.size O nf ds (defaultValue ty)) ∧ S' = .ref h.size :: S) (fun hx hZ hby _ hown _ X eT N => ?_) (by rintro h' S' ⟨⟨q1, q2, q3⟩, rfl⟩; exact k h' q1 q2 q3)
  obtain ⟨T', h', X', e', E', A', D', -, st⟩ := newO X hx hZ hown w wi wz eT (g := mkF _ pc L S) rfl (hb hby d) hc' hs'
  subst e'
  exact ⟨T', _, _, ⟨⟨E', A', D'⟩, rfl⟩, X', N, st⟩
theorem own_initO {i W : Nat} {a : Addr} (d : own_D cod pc (.invokespecial i) 3 pc') (w1 : (Cond.methodLink own i Lib.objectInit).before a0 Z = true) (w2 : (Cond.instanceMethod Lib.objectInit).before a0 Z = true) (w3 : (Cond.code Lib.objectInit ⟨#[0xb1]⟩ 1 none).before a0 Z = true) (hsz : L.size = mxl) (hf : 1 ≤ R.frames) (hW : (S.map fun v => v.category).sum ≤ W) (hl : W + 12 ≤ R.locals)
    (k : own_V l Z n0 R own nm cod mxl rt Q h cells slots pc' L S) : own_V l Z n0 R own nm cod mxl rt Q h cells slots pc L (.ref a :: S) := by
  obtain ⟨d, rfl⟩ := d
  refine own_stepC (F := fun h' S' => h' = h ∧ S' = S) (fun hx hZ hby hml hown _ X eT N => ?_) (by rintro h' S' ⟨rfl, rfl⟩; exact k)
  obtain ⟨T', X', e', st⟩ := initO X hx hZ hown w1 w2 w3 eT (g := mkF _ pc L (.ref a :: S)) rfl (by rw [hml]; exact hsz) rfl (hb hby d) hf (W := W) (by show 2 * 0 + _ ≤ _; simpa using hW) hl
  exact ⟨T', _, _, ⟨e', rfl⟩, X', N, st⟩
theorem own_ret0 (d : decode cod pc = .ok (.return_, 1)) (hrt : rt = none) (hc : cells ≤ R.cells) (hs : slots ≤ R.slots) (hQ : Q none h) : own_V l Z n0 R own nm cod mxl rt Q h cells slots pc L [] := by
  intro p e s m args below meth c T locs hx hZ hby hml hown hret hnm hlk X eT N
  obtain ⟨fs, hr, hrun, hended, hW, hsame⟩ := X.leave (v := none) (fun _ => rfl) hlk
  refine ⟨_, _, X.returnOut hx (hret.trans hrt) (hb hby d) hr, hrun, hended, _, _, rfl, ⟨?_, N⟩, ⟨_, rfl⟩, hW, hsame.mono hc hs⟩
  show Q none T.heap
  rw [eT]; exact hQ
theorem own_retV {v : Value} {t : FieldType} {i : Instr} (d : decode cod pc = .ok (i, 1)) (hrt : rt = some t) (hn : narrow t v = v)
    (hi : (i = .ireturn ∧ (t = .int ∨ t = .boolean ∨ t = .byte ∨ t = .char ∨ t = .short) ∧ ∃ z, v = .int z) ∨ (i = .lreturn ∧ t = .long ∧ ∃ z, v = .long z) ∨ (i = .dreturn ∧ t = .double ∧ ∃ z, v = .double z) ∨ (i = .freturn ∧ t = .float ∧ ∃ z, v = .float z) ∨ (i = .areturn ∧ t.isReference = true ∧ v.isRef = true))
    (hc : cells ≤ R.cells) (hs : slots ≤ R.slots) (hQ : Q (some v) h) : own_V l Z n0 R own nm cod mxl rt Q h cells slots pc L (v :: S) := by
  intro p e s m args below meth c T locs hx hZ hby hml hown hret hnm hlk X eT N
  obtain ⟨fs, hr, hrun, hended, hW, hsame⟩ := X.leave (v := some v) (fun q => by rw [hret, hrt] at q; cases q) hlk
  refine ⟨_, _, retOut X hx (hret.trans hrt) hn hi (hb hby d) hr, hrun, hended, _, _, rfl, ⟨?_, N⟩, ⟨_, rfl⟩, hW, hsame.mono hc hs⟩
  show Q (some v) T.heap
  rw [eT]; exact hQ
theorem own_retI {x : Int32} (d : own_D cod pc (.ireturn) 1 pc') (hrt : rt = some .int) (hc : cells ≤ R.cells) (hs : slots ≤ R.slots) (hQ : Q (some (.int x)) h) : own_V l Z n0 R own nm cod mxl rt Q h cells slots pc L (.int x :: S) :=
  own_retV d.1 hrt rfl (Or.inl ⟨rfl, Or.inl rfl, _, rfl⟩) hc hs hQ
theorem own_retJ {x : Int64} (d : own_D cod pc (.lreturn) 1 pc') (hrt : rt = some .long) (hc : cells ≤ R.cells) (hs : slots ≤ R.slots) (hQ : Q (some (.long x)) h) : own_V l Z n0 R own nm cod mxl rt Q h cells slots pc L (.long x :: S) :=
  own_retV d.1 hrt rfl (Or.inr (Or.inl ⟨rfl, rfl, _, rfl⟩)) hc hs hQ
theorem own_retA {v : Value} {t : FieldType} (d : own_D cod pc (.areturn) 1 pc') (hrt : rt = some t) (ht : t.isReference = true) (hv : v.isRef = true) (hc : cells ≤ R.cells) (hs : slots ≤ R.slots) (hQ : Q (some v) h) : own_V l Z n0 R own nm cod mxl rt Q h cells slots pc L (v :: S) :=
  own_retV d.1 hrt (by rcases ref_cases hv with rfl | ⟨b, rfl⟩ <;> cases t <;> first | rfl | cases ht) (Or.inr (Or.inr (Or.inr (Or.inr ⟨rfl, ht, hv⟩)))) hc hs hQ
theorem own_retN {x : Int32} {t : FieldType} (d : own_D cod pc (.ireturn) 1 pc') (hrt : rt = some t) (ht : t = .boolean ∨ t = .byte ∨ t = .char ∨ t = .short) (hc : cells ≤ R.cells) (hs : slots ≤ R.slots) (hQ : Q (some (.int (nar t x))) h) : own_V l Z n0 R own nm cod mxl rt Q h cells slots pc L (.int x :: S) := by
  intro p e s m args below meth c T locs hx hZ hby hml hown hret hnm hlk X eT N
  obtain ⟨fs, hr, hrun, hended, hW, hsame⟩ := X.leave (v := some (.int (nar t x))) (fun q => by rw [hret, hrt] at q; cases q) hlk
  refine ⟨_, _, retN X hx (hret.trans hrt) ht (hb hby d.1) hr, hrun, hended, _, _, rfl, ⟨?_, N⟩, ⟨_, rfl⟩, hW, hsame.mono hc hs⟩
  show Q (some (.int (nar t x))) T.heap
  rw [eT]; exact hQ
theorem own_retZ {x : Int32} (d : own_D cod pc (.ireturn) 1 pc') (hrt : rt = some .boolean) (hx01 : x = 0 ∨ x = 1) (hc : cells ≤ R.cells) (hs : slots ≤ R.slots) (hQ : Q (some (.int x)) h) : own_V l Z n0 R own nm cod mxl rt Q h cells slots pc L (.int x :: S) :=
  own_retN d hrt (Or.inl rfl) hc hs (by rcases hx01 with rfl | rfl <;> exact hQ)
theorem own_met {y : MethodName} {as' : Array Value} {L0 : Array Slot} (hpl : plainFor y = true) (hef : ∀ m, entryFrame m as' mxl = mkF m 0 L0 []) (k : own_V l Z n0 R y.cls y.name cod mxl rt Q h 0 0 0 L0 []) (ws : List Jvm.Cond) :
    MetFree l y (head1 (Jvm.Cond.code y cod mxl rt :: ws) R) (fun a U => a = as' ∧ Z.Warmed39 U.vm ∧ U.heap = h) (fun _ _ _ _ _ => True) (fun _ U o U' => ∃ v L, o = .returned v ∧ (Q v U'.heap ∧ Fr n0 L) ∧ FrameEnd U o U' L R.cells R.slots) := by
  refine MetFree.of_bodySF hpl hisR ?_
  intro p e s m args below meth c s₁ Bd hml0 hP hK
  obtain ⟨rfl, hZ, hh⟩ := hP
  have e0 : s₁.heap = h := by rw [← hh, Bd.state]; rfl
  obtain ⟨s₂, o, h1, r⟩ := k p e s m _ below meth c s₁ [] Bd.exec hZ Bd.bytes hml0 (findClass_of_methodNamed Bd.named) Bd.returns (name_of_methodNamed Bd.named Bd.method).1 (BodyLoose.notSynchronized Bd) (Stand.of_body Bd) e0 (Fr.nil n0)
  exact ⟨s₂, o, castTop (hef m) h1, r⟩
theorem own_callS {index : Nat} {y : MethodName} {cod' : ByteArray} {mxl' : Nat} {rt' : Option FieldType} {R' : Room} {Q' : Option Value → Heap → Prop} {L0 : Array Slot} {argsL rest : List Value} {W cells' slots' : Nat} {ps : List FieldType} {r : Option FieldType}
    (k0 : own_V l Z n0 R' y.cls y.name cod' mxl' rt' Q' h 0 0 0 L0 []) (hef : ∀ m, entryFrame m argsL.toArray mxl' = mkF m 0 L0 []) (hpl : plainFor y = true) (hpd : parseMethodDescriptor y.desc = some ⟨ps, r⟩) (hl : argsL.length = ps.length)
    (d : own_D cod pc (.invokestatic index) 3 pc') (w1 : (Cond.methodLink own index y).before a0 Z = true) (w2 : (Cond.static y).before a0 Z = true) (w3 : (Cond.initialized y.cls).before a0 Z = true) (w4 : (Cond.code y cod' mxl' rt').before a0 Z = true)
    (hy : y.cls ≠ "java/lang/invoke/MethodHandle" ∧ y.cls ≠ "java/lang/invoke/VarHandle") (hS : S = argsL.reverse ++ rest) (hsz : L.size = mxl) (hW : (rest.map fun v => v.category).sum ≤ W)
    (hf : R'.frames + 1 ≤ R.frames) (hlo : W + (mxl' + 11) + R'.locals ≤ R.locals) (hc : cells + R'.cells = cells') (hs : slots + R'.slots = slots') (hc' : cells' ≤ R.cells) (hs' : slots' ≤ R.slots)
    (k : ∀ v h', Q' v h' → own_V l Z n0 R own nm cod mxl rt Q h' cells' slots' pc' L (v.toList ++ rest)) : own_V l Z n0 R own nm cod mxl rt Q h cells slots pc L S := by
  obtain ⟨d, rfl⟩ := d
  subst hc hs
  refine own_stepC (F := fun h' S' => ∃ v, Q' v h' ∧ S' = v.toList ++ rest) (fun {p e s m args below meth c T locs} hx hZ hby hml hown _ X eT N => ?_) (by rintro h' _ ⟨v, q, rfl⟩; exact k v h' q)
  obtain ⟨v, vm1, ⟨T', L1, k1, n1⟩, -, X', ⟨Lc, hQ, l1, y1, z1⟩, st⟩ := Jvm.LawKit.callS X hx (y := y) hown (mvT hZ w1) (mvT hZ w2) (mvT hZ w3) (mvT hZ w4) hy (backOf (W := W) (Q := fun v h L => Q' v h ∧ Fr n0 L) (own_met hpl hef k0 []) hZ w4 w3 hf hlo) (g := mkF m pc L S) rfl (by rw [hml]; exact hsz) (argsL := argsL) (rest := rest) (lenOf hpd hl) hS (by show 2 * 0 + _ ≤ _; simpa using hW) (hb hby d) (fun _ _ => ⟨rfl, eT, hc', hs'⟩)
  dsimp only [Pt.U, Pt.locs, Pt.cells, Pt.slots] at X' l1 y1 z1 st hQ
  subst l1 y1 z1
  exact ⟨T', _, _, ⟨v, hQ.1, rfl⟩, X', Fr.app N hQ.2, st⟩
theorem own_callI {index : Nat} {y : MethodName} {cod' : ByteArray} {mxl' : Nat} {R' : Room} {Q' : Option Value → Heap → Prop} {L0 : Array Slot} {a : Addr} {argsL rest : List Value} {W cells' slots' : Nat} {ps : List FieldType} {r : Option FieldType}
    (k0 : own_V l Z n0 R' y.cls y.name cod' mxl' none Q' h 0 0 0 L0 []) (hef : ∀ m, entryFrame m (.ref a :: argsL).toArray mxl' = mkF m 0 L0 []) (hpl : plainFor y = true) (hpd : parseMethodDescriptor y.desc = some ⟨ps, r⟩) (hl : argsL.length = ps.length) (hyn : y.name = "<init>")
    (d : own_D cod pc (.invokespecial index) 3 pc') (w1 : (Cond.methodLink own index y).before a0 Z = true) (w2 : (Cond.instanceMethod y).before a0 Z = true) (w3 : (Cond.initialized y.cls).before a0 Z = true) (w4 : (Cond.code y cod' mxl' none).before a0 Z = true)
    (hy : y.cls ≠ "java/lang/invoke/MethodHandle" ∧ y.cls ≠ "java/lang/invoke/VarHandle") (hS : S = argsL.reverse ++ .ref a :: rest) (hsz : L.size = mxl) (hW : (rest.map fun v => v.category).sum ≤ W)
    (hf : R'.frames + 1 ≤ R.frames) (hlo : W + (mxl' + 11) + R'.locals ≤ R.locals) (hc : cells + R'.cells = cells') (hs : slots + R'.slots = slots') (hc' : cells' ≤ R.cells) (hs' : slots' ≤ R.slots)
    (k : ∀ v h', Q' v h' → own_V l Z n0 R own nm cod mxl rt Q h' cells' slots' pc' L (v.toList ++ rest)) : own_V l Z n0 R own nm cod mxl rt Q h cells slots pc L S := by
  obtain ⟨d, rfl⟩ := d
  subst hc hs
  refine own_stepC (F := fun h' S' => ∃ v, Q' v h' ∧ S' = v.toList ++ rest) (fun {p e s m args below meth c T locs} hx hZ hby hml hown _ X eT N => ?_) (by rintro h' _ ⟨v, q, rfl⟩; exact k v h' q)
  obtain ⟨v, vm1, ⟨T', L1, k1, n1⟩, -, X', ⟨Lc, hQ, l1, y1, z1⟩, st⟩ := X.specialBack hx (y := y) hyn hown (mvT hZ w1) (mvT hZ w2) (mvT hZ w4) hy (backOf (W := W) (Q := fun v h L => Q' v h ∧ Fr n0 L) (own_met hpl hef k0 []) hZ w4 w3 hf hlo) (g := mkF m pc L S) rfl (by rw [hml]; exact hsz) (Steps.refl _) (a := a) (argsL := argsL) (rest := rest) (lenOf hpd hl) hS (by show 2 * 0 + _ ≤ _; simpa using hW) (hb hby d) (fun _ _ => ⟨rfl, eT, hc', hs'⟩)
  dsimp only [Pt.U, Pt.locs, Pt.cells, Pt.slots] at X' l1 y1 z1 st hQ
  subst l1 y1 z1
  exact ⟨T', _, _, ⟨v, hQ.1, rfl⟩, X', Fr.app N hQ.2, fun _ q => st.trans q⟩
theorem own_callV {index : Nat} {y z : MethodName} {C : String} {cod' : ByteArray} {mxl' : Nat} {rt' : Option FieldType} {R' : Room} {Q' : Option Value → Heap → Prop} {L0 : Array Slot} {a : Addr} {argsL rest : List Value} {W cells' slots' : Nat} {ps : List FieldType} {r : Option FieldType}
    (k0 : own_V l Z n0 R' z.cls z.name cod' mxl' rt' Q' h 0 0 0 L0 []) (hef : ∀ m, entryFrame m (.ref a :: argsL).toArray mxl' = mkF m 0 L0 []) (hpl : plainFor z = true) (hpd : parseMethodDescriptor y.desc = some ⟨ps, r⟩) (hl : argsL.length = ps.length) (E : Exa Z h a C)
    (d : own_D cod pc (.invokevirtual index) 3 pc') (w1 : (Cond.methodLink own index y).before a0 Z = true) (w2 : (Cond.declares y).before a0 Z = true) (hnf : ∀ s : State, Z.Warmed39 s.vm → NotFace s y) (w3 : (Cond.selects C y z).before a0 Z = true) (w4 : (Cond.instanceMethod z).before a0 Z = true) (w5 : (Cond.code z cod' mxl' rt').before a0 Z = true) (w6 : (Cond.initialized z.cls).before a0 Z = true)
    (hy : y.cls ≠ "java/lang/invoke/MethodHandle" ∧ y.cls ≠ "java/lang/invoke/VarHandle") (hS : S = argsL.reverse ++ .ref a :: rest) (hsz : L.size = mxl) (hW : (rest.map fun v => v.category).sum ≤ W)
    (hf : R'.frames + 1 ≤ R.frames) (hlo : W + (mxl' + 11) + R'.locals ≤ R.locals) (hc : cells + R'.cells = cells') (hs : slots + R'.slots = slots') (hc' : cells' ≤ R.cells) (hs' : slots' ≤ R.slots)
    (k : ∀ v h', Q' v h' → own_V l Z n0 R own nm cod mxl rt Q h' cells' slots' pc' L (v.toList ++ rest)) : own_V l Z n0 R own nm cod mxl rt Q h cells slots pc L S := by
  obtain ⟨d, rfl⟩ := d
  subst hc hs
  refine own_stepC (F := fun h' S' => ∃ v, Q' v h' ∧ S' = v.toList ++ rest) (fun {p e s m args below meth c T locs} hx hZ hby hml hown _ X eT N => ?_) (by rintro h' _ ⟨v, q, rfl⟩; exact k v h' q)
  obtain ⟨cq, kq, q1, q2, q3⟩ := isOf hZ eT E
  obtain ⟨v, vm1, ⟨T', L1, k1, n1⟩, -, X', ⟨Lc, hQ, l1, y1, z1⟩, st⟩ := X.virtualBack hx (y := y) (z := z) hown (mvT hZ w1) (mvT hZ w2) (hnf s hZ) (mvT hZ w3) (mvT hZ w4) hy (backOf (W := W) (Q := fun v h L => Q' v h ∧ Fr n0 L) (own_met hpl hef k0 []) hZ w5 w6 hf hlo) q1 q3 (g := mkF m pc L S) rfl (by rw [hml]; exact hsz) (Steps.refl _) (argsL := argsL) (rest := rest) (lenOf hpd hl) hS (by show 2 * 0 + _ ≤ _; simpa using hW) (hb hby d) (fun _ _ => ⟨rfl, eT, hc', hs'⟩)
  dsimp only [Pt.U, Pt.locs, Pt.cells, Pt.slots] at X' l1 y1 z1 st hQ
  subst l1 y1 z1
  exact ⟨T', _, _, ⟨v, hQ.1, rfl⟩, X', Fr.app N hQ.2, fun _ q => st.trans q⟩
/-- the array at a holds just the values vs -/
def own_A (Z : State) (h : Heap) (a : Addr) (ty : FieldType) (vs : List Value) : Prop := ∃ cl : Cell, Arr Z h a cl ty ∧ cl.slots.toList = vs ∧ vs.length < 2 ^ 31
theorem own_A.ext {h' : Heap} {a : Addr} {ty : FieldType} {vs : List Value} (E : Ext h h') (A : own_A Z h a ty vs) : own_A Z h' a ty vs := by obtain ⟨cl, A1, r⟩ := A; exact ⟨cl, A1.ext E, r⟩
theorem own_A.other {h' : Heap} {a b : Addr} {sl : Nat} {v : Value} {ty : FieldType} {vs : List Value} (W : Wr h h' b sl v) (A : own_A Z h a ty vs) (hne : a ≠ b) : own_A Z h' a ty vs := by obtain ⟨cl, A1, r⟩ := A; exact ⟨cl, A1.other W hne, r⟩
theorem own_A.keep {h' : Heap} {a : Addr} {ty : FieldType} {vs : List Value} {ws : List Addr} (A : own_A Z h a ty vs) (K : Keep h h' ws) (hne : a ∉ ws) : own_A Z h' a ty vs := by obtain ⟨cl, A1, r⟩ := A; exact ⟨cl, ⟨K.2.1 _ _ A1.1 hne, A1.2⟩, r⟩
theorem own_A.lt {a : Addr} {ty : FieldType} {vs : List Value} (A : own_A Z h a ty vs) : a < h.size := by obtain ⟨cl, A1, r⟩ := A; exact A1.lt
theorem own_A.set {h' : Heap} {a : Addr} {i : Nat} {v : Value} {ty : FieldType} {vs : List Value} (W : Wr h h' a i v) (A : own_A Z h a ty vs) : own_A Z h' a ty (vs.set i v) := by
  obtain ⟨cl, A1, rfl, r⟩ := A
  exact ⟨_, A1.same W, by simp [Cell.setSlot], by simpa using r⟩
theorem own_nat {j : Int32} {i : Nat} (hj : j.toInt = (i : Int)) : ¬ j < 0 ∧ j.toNatClampNeg = i := by
  rw [Int32.lt_iff_toInt_lt, show (0 : Int32).toInt = 0 from rfl, Int32.toNatClampNeg, hj]; omega
theorem own_A.len {a : Addr} {ty : FieldType} {vs : List Value} (A : own_A Z h a ty vs) : vs.length < 2 ^ 31 := by obtain ⟨_, _, _, r⟩ := A; exact r
theorem own_arrlen {a : Addr} {ty : FieldType} {vs : List Value} {x : Int32} (d : own_D cod pc (.arraylength) 1 pc') (A : own_A Z h a ty vs) (hx : x.toInt = (vs.length : Int)) (k : own_V l Z n0 R own nm cod mxl rt Q h cells slots pc' L (.int x :: S)) : own_V l Z n0 R own nm cod mxl rt Q h cells slots pc L (.ref a :: S) := by
  obtain ⟨d, rfl⟩ := d
  obtain ⟨cl, A1, rfl, r⟩ := A
  have e : cl.slots.size.toInt32 = x := Int32.toInt_inj.mp (by rw [len_toInt (by simpa using r), hx]; simp)
  subst e
  exact own_step (fun hx hZ hby _ X eT _ q => X.arraylength hx (by rw [eT]; exact A1.1) (State.isArrayOf_alike hZ.alike A1.2.1) (g := mkF _ pc L (.ref a :: S)) rfl rfl (hb hby d) _ q) k
theorem own_iaload {a : Addr} {vs : List Value} {j : Int32} {i : Nat} {v : Value} (d : own_D cod pc (.iaload) 1 pc') (A : own_A Z h a .int vs) (hj : j.toInt = (i : Int)) (hv : vs[i]? = some v) (k : own_V l Z n0 R own nm cod mxl rt Q h cells slots pc' L (v :: S)) : own_V l Z n0 R own nm cod mxl rt Q h cells slots pc L (.int j :: .ref a :: S) := by
  obtain ⟨d, rfl⟩ := d
  obtain ⟨cl, A1, rfl, r⟩ := A
  obtain ⟨q1, rfl⟩ := own_nat hj
  have hv' : cl.slots[j.toNatClampNeg]? = some v := by simpa using hv
  have hin : ¬ (j < 0 ∨ cl.slots.size ≤ j.toNatClampNeg) := fun q => q.elim q1 fun q => by have := (Array.getElem?_eq_some_iff.mp hv').1; omega
  exact own_step (fun hx hZ hby _ X eT _ q => X.iaload hx (j := j) (v := v) (by rw [eT]; exact A1.1) (State.isArrayOf_alike hZ.alike A1.2.1) A1.2.2 hin hv' (g := mkF _ pc L (.int j :: .ref a :: S)) rfl rfl (hb hby d) _ q) k
theorem own_laload {a : Addr} {vs : List Value} {j : Int32} {i : Nat} {v : Value} (d : own_D cod pc (.laload) 1 pc') (A : own_A Z h a .long vs) (hj : j.toInt = (i : Int)) (hv : vs[i]? = some v) (k : own_V l Z n0 R own nm cod mxl rt Q h cells slots pc' L (v :: S)) : own_V l Z n0 R own nm cod mxl rt Q h cells slots pc L (.int j :: .ref a :: S) := by
  obtain ⟨d, rfl⟩ := d
  obtain ⟨cl, A1, rfl, r⟩ := A
  obtain ⟨q1, rfl⟩ := own_nat hj
  have hv' : cl.slots[j.toNatClampNeg]? = some v := by simpa using hv
  have hin : ¬ (j < 0 ∨ cl.slots.size ≤ j.toNatClampNeg) := fun q => q.elim q1 fun q => by have := (Array.getElem?_eq_some_iff.mp hv').1; omega
  exact own_step (fun hx hZ hby _ X eT _ q => X.laload hx (j := j) (v := v) (by rw [eT]; exact A1.1) (State.isArrayOf_alike hZ.alike A1.2.1) A1.2.2 hin hv' (g := mkF _ pc L (.int j :: .ref a :: S)) rfl rfl (hb hby d) _ q) k
theorem own_caload {a : Addr} {vs : List Value} {j : Int32} {i : Nat} {v : Value} (d : own_D cod pc (.caload) 1 pc') (A : own_A Z h a .char vs) (hj : j.toInt = (i : Int)) (hv : vs[i]? = some v) (k : own_V l Z n0 R own nm cod mxl rt Q h cells slots pc' L (v :: S)) : own_V l Z n0 R own nm cod mxl rt Q h cells slots pc L (.int j :: .ref a :: S) := by
  obtain ⟨d, rfl⟩ := d
  obtain ⟨cl, A1, rfl, r⟩ := A
  obtain ⟨q1, rfl⟩ := own_nat hj
  have hv' : cl.slots[j.toNatClampNeg]? = some v := by simpa using hv
  have hin : ¬ (j < 0 ∨ cl.slots.size ≤ j.toNatClampNeg) := fun q => q.elim q1 fun q => by have := (Array.getElem?_eq_some_iff.mp hv').1; omega
  exact own_step (fun hx hZ hby _ X eT _ q => X.caload hx (j := j) (v := v) (by rw [eT]; exact A1.1) (State.isArrayOf_alike hZ.alike A1.2.1) A1.2.2 hin hv' (g := mkF _ pc L (.int j :: .ref a :: S)) rfl rfl (hb hby d) _ q) k
theorem own_baload {a : Addr} {vs : List Value} {j : Int32} {i : Nat} {v : Value} (d : own_D cod pc (.baload) 1 pc') (A : own_A Z h a .byte vs) (hj : j.toInt = (i : Int)) (hv : vs[i]? = some v) (k : own_V l Z n0 R own nm cod mxl rt Q h cells slots pc' L (v :: S)) : own_V l Z n0 R own nm cod mxl rt Q h cells slots pc L (.int j :: .ref a :: S) := by
  obtain ⟨d, rfl⟩ := d
  obtain ⟨cl, A1, rfl, r⟩ := A
  obtain ⟨q1, rfl⟩ := own_nat hj
  have hv' : cl.slots[j.toNatClampNeg]? = some v := by simpa using hv
  have hin : ¬ (j < 0 ∨ cl.slots.size ≤ j.toNatClampNeg) := fun q => q.elim q1 fun q => by have := (Array.getElem?_eq_some_iff.mp hv').1; omega
  exact own_step (fun hx hZ hby _ X eT _ q => X.baloadBytes hx (j := j) (v := v) (by rw [eT]; exact A1.1) (State.isArrayOf_alike hZ.alike A1.2.1) A1.2.2 hin hv' (g := mkF _ pc L (.int j :: .ref a :: S)) rfl rfl (hb hby d) _ q) k
theorem own_aaload {a : Addr} {ty : FieldType} {vs : List Value} {j : Int32} {i : Nat} {v : Value} (d : own_D cod pc (.aaload) 1 pc') (A : own_A Z h a ty vs) (hty : ty.isReference = true) (hj : j.toInt = (i : Int)) (hv : vs[i]? = some v) (k : own_V l Z n0 R own nm cod mxl rt Q h cells slots pc' L (v :: S)) : own_V l Z n0 R own nm cod mxl rt Q h cells slots pc L (.int j :: .ref a :: S) := by
  obtain ⟨d, rfl⟩ := d
  obtain ⟨cl, A1, rfl, r⟩ := A
  obtain ⟨q1, rfl⟩ := own_nat hj
  have hv' : cl.slots[j.toNatClampNeg]? = some v := by simpa using hv
  have hin : ¬ (j < 0 ∨ cl.slots.size ≤ j.toNatClampNeg) := fun q => q.elim q1 fun q => by have := (Array.getElem?_eq_some_iff.mp hv').1; omega
  exact own_step (fun hx hZ hby _ X eT _ q => X.aaload hx (j := j) (v := v) (by rw [eT]; exact A1.1) (State.isArrayOf_alike hZ.alike A1.2.1) hty A1.2.2 hin hv' (g := mkF _ pc L (.int j :: .ref a :: S)) rfl rfl (hb hby d) _ q) k
theorem own_iastore {a : Addr} {vs : List Value} {j : Int32} {i : Nat} {x : Int32} (d : own_D cod pc (.iastore) 1 pc') (A : own_A Z h a .int vs) (hj : j.toInt = (i : Int)) (hi : i < vs.length) (ha : n0 ≤ a)
    (k : ∀ h', Wr h h' a i (.int x) → own_A Z h' a .int (vs.set i (.int x)) → own_V l Z n0 R own nm cod mxl rt Q h' cells slots pc' L S) : own_V l Z n0 R own nm cod mxl rt Q h cells slots pc L (.int x :: .int j :: .ref a :: S) := by
  obtain ⟨d, rfl⟩ := d
  have A0 := A
  obtain ⟨cl, A1, rfl, r⟩ := A
  obtain ⟨q1, rfl⟩ := own_nat hj
  have hin : ¬ (j < 0 ∨ cl.slots.size ≤ j.toNatClampNeg) := fun q => q.elim q1 fun q => by simp at hi; omega
  refine own_stepC (F := fun h' S' => Wr h h' a j.toNatClampNeg (.int x) ∧ S' = S) (fun hx hZ hby _ hown hnm X eT N => ?_) (by rintro h' S' ⟨W, rfl⟩; exact k h' W (own_A.set W A0))
  obtain ⟨T', h', X', e', W', st⟩ := stI X hx hZ eT A1 hin (g := mkF _ pc L (.int x :: .int j :: .ref a :: S)) rfl rfl (hb hby d)
  subst e'
  exact ⟨T', _, _, ⟨W', rfl⟩, X', Fr.snoc X' N ha, st⟩
theorem own_lastore {a : Addr} {vs : List Value} {j : Int32} {i : Nat} {x : Int64} (d : own_D cod pc (.lastore) 1 pc') (A : own_A Z h a .long vs) (hj : j.toInt = (i : Int)) (hi : i < vs.length) (ha : n0 ≤ a)
    (k : ∀ h', Wr h h' a i (.long x) → own_A Z h' a .long (vs.set i (.long x)) → own_V l Z n0 R own nm cod mxl rt Q h' cells slots pc' L S) : own_V l Z n0 R own nm cod mxl rt Q h cells slots pc L (.long x :: .int j :: .ref a :: S) := by
  obtain ⟨d, rfl⟩ := d
  have A0 := A
  obtain ⟨cl, A1, rfl, r⟩ := A
  obtain ⟨q1, rfl⟩ := own_nat hj
  have hin : ¬ (j < 0 ∨ cl.slots.size ≤ j.toNatClampNeg) := fun q => q.elim q1 fun q => by simp at hi; omega
  refine own_stepC (F := fun h' S' => Wr h h' a j.toNatClampNeg (.long x) ∧ S' = S) (fun hx hZ hby _ hown hnm X eT N => ?_) (by rintro h' S' ⟨W, rfl⟩; exact k h' W (own_A.set W A0))
  obtain ⟨T', h', X', e', W', st⟩ := stJ X hx hZ eT A1 hin (g := mkF _ pc L (.long x :: .int j :: .ref a :: S)) rfl rfl (hb hby d)
  subst e'
  exact ⟨T', _, _, ⟨W', rfl⟩, X', Fr.snoc X' N ha, st⟩
theorem own_castore {a : Addr} {vs : List Value} {j : Int32} {i : Nat} {x : Int32} (d : own_D cod pc (.castore) 1 pc') (A : own_A Z h a .char vs) (hj : j.toInt = (i : Int)) (hi : i < vs.length) (ha : n0 ≤ a)
    (k : ∀ h', Wr h h' a i (.int (nar .char x)) → own_A Z h' a .char (vs.set i (.int (nar .char x))) → own_V l Z n0 R own nm cod mxl rt Q h' cells slots pc' L S) : own_V l Z n0 R own nm cod mxl rt Q h cells slots pc L (.int x :: .int j :: .ref a :: S) := by
  obtain ⟨d, rfl⟩ := d
  have A0 := A
  obtain ⟨cl, A1, rfl, r⟩ := A
  obtain ⟨q1, rfl⟩ := own_nat hj
  have hin : ¬ (j < 0 ∨ cl.slots.size ≤ j.toNatClampNeg) := fun q => q.elim q1 fun q => by simp at hi; omega
  refine own_stepC (F := fun h' S' => Wr h h' a j.toNatClampNeg (.int (nar .char x)) ∧ S' = S) (fun hx hZ hby _ hown hnm X eT N => ?_) (by rintro h' S' ⟨W, rfl⟩; exact k h' W (own_A.set W A0))
  obtain ⟨T', h', X', e', W', st⟩ := stC X hx hZ eT A1 hin (g := mkF _ pc L (.int x :: .int j :: .ref a :: S)) rfl rfl (hb hby d)
  subst e'
  exact ⟨T', _, _, ⟨W', rfl⟩, X', Fr.snoc X' N ha, st⟩
theorem own_bastore {a : Addr} {vs : List Value} {j : Int32} {i : Nat} {x : Int32} (d : own_D cod pc (.bastore) 1 pc') (A : own_A Z h a .byte vs) (hj : j.toInt = (i : Int)) (hi : i < vs.length) (ha : n0 ≤ a)
    (k : ∀ h', Wr h h' a i (.int (nar .byte x)) → own_A Z h' a .byte (vs.set i (.int (nar .byte x))) → own_V l Z n0 R own nm cod mxl rt Q h' cells slots pc' L S) : own_V l Z n0 R own nm cod mxl rt Q h cells slots pc L (.int x :: .int j :: .ref a :: S) := by
  obtain ⟨d, rfl⟩ := d
  have A0 := A
  obtain ⟨cl, A1, rfl, r⟩ := A
  obtain ⟨q1, rfl⟩ := own_nat hj
  have hin : ¬ (j < 0 ∨ cl.slots.size ≤ j.toNatClampNeg) := fun q => q.elim q1 fun q => by simp at hi; omega
  refine own_stepC (F := fun h' S' => Wr h h' a j.toNatClampNeg (.int (nar .byte x)) ∧ S' = S) (fun hx hZ hby _ hown hnm X eT N => ?_) (by rintro h' S' ⟨W, rfl⟩; exact k h' W (own_A.set W A0))
  obtain ⟨T', h', X', e', W', st⟩ := stB X hx hZ eT A1 hin (g := mkF _ pc L (.int x :: .int j :: .ref a :: S)) rfl rfl (hb hby d)
  subst e'
  exact ⟨T', _, _, ⟨W', rfl⟩, X', Fr.snoc X' N ha, st⟩
theorem own_newarr {aty : ArrayType} {n : Int32} {i cells' slots' : Nat} (d : own_D cod pc (.newarray aty) 2 pc') (w : (Cond.arrayClass (newarray.typeOf aty)).before a0 Z = true) (hn : n.toInt = (i : Int)) {cap : Nat} (hcap : i ≤ cap) (hcb : cap * 8 ≤ 536870912) (hc : cells + 1 = cells') (hs : slots + cap = slots') (hc' : cells' ≤ R.cells) (hs' : slots' ≤ R.slots)
    (k : ∀ h', Ext h h' → own_A Z h' h.size (newarray.typeOf aty) (List.replicate i (defaultValue (newarray.typeOf aty))) → own_V l Z n0 R own nm cod mxl rt Q h' cells' slots' pc' L (.ref h.size :: S)) : own_V l Z n0 R own nm cod mxl rt Q h cells slots pc L (.int n :: S) := by
  obtain ⟨d, rfl⟩ := d
  subst hc hs
  obtain ⟨q1, rfl⟩ := own_nat hn
  refine own_stepC (F := fun h' S' => (Ext h h' ∧ own_A Z h' h.size (newarray.typeOf aty) (List.replicate n.toNatClampNeg (defaultValue (newarray.typeOf aty)))) ∧ S' = .ref h.size :: S) (fun hx hZ hby _ hown _ X eT N => ?_) (by rintro h' S' ⟨⟨q1, q2⟩, rfl⟩; exact k h' q1 q2)
  obtain ⟨T', h', cA, X', e', E', A', st⟩ := newP X hx hZ w eT (g := mkF _ pc L (.int n :: S)) rfl (hb hby d) rfl q1 hcap hcb hc' hs'
  subst e'
  refine ⟨T', _, _, ⟨⟨E', _, A', by simp [newA], ?_⟩, rfl⟩, X', N, st⟩
  simp; have := (back32 q1).2; omega
theorem own_ord {args : Array Value} {s : State} {C n ds O f dd : String} {a : Addr} {k : Int32} (ev : (Term.static C n ds).eval args s none [] s = some (.ref a)) (ho : (Jvm.Cond.eq (.field (.static C n ds) O f dd) (.int k)).value args s none s [] = some true) : s.fieldOf? a O f dd = some (.int k) := by
  obtain ⟨x, y, h1, h2, hk, -⟩ := cmp_v (Or.inl ho)
  have e1 : y = .int k := Option.some.inj (h2.symm.trans (Term.int_eval k))
  subst e1
  have h3 := h1
  rw [fld_at ev] at h3
  cases x <;> simp [Kin, Value.isRef] at hk
  rename_i z
  have : z = k := by simpa [Jvm.Cond.value, h1, h2] using ho
  rw [h3, this]
theorem own_fne {C n ds : String} {a b : Addr} {v w : Value} (F : Fld Z h a C n ds v) (G : Fld Z h b C n ds w) (hne : v ≠ w) : a ≠ b := by
  rintro rfl
  obtain ⟨c1, cf1, k1, i1, f1, h1, h2, -, -, -, -, h7⟩ := F
  obtain ⟨c2, cf2, k2, i2, f2, g1, g2, -, -, -, -, g7⟩ := G
  cases h1.symm.trans g1
  cases h2.symm.trans g2
  exact hne (Option.some.inj (h7.symm.trans g7))
theorem own_alen {args : Array Value} {s : State} {t : Term} {a : Addr} {cl : Cell} {ty : FieldType} {n : Int32} (ev : t.eval args s none [] s = some (.ref a)) (A : Arr s s.heap a cl ty) (hl : (Jvm.Cond.eq (.length t) (.int n)).value args s none s [] = some true) : (cl.slots.size : Int) = n.toInt ∧ cl.slots.size < 2 ^ 31 := by
  obtain ⟨x, y, h1, h2, -, -⟩ := cmp_v (Or.inl hl)
  have e1 : y = .int n := Option.some.inj (h2.symm.trans (Term.int_eval n))
  subst e1
  have q := h1
  simp only [Term.eval, ev, A.fin (Vm.Alike.refl _), Option.bind_eq_bind, Option.bind_some] at q
  split at q
  · rename_i hlt
    cases q
    have e2 : cl.slots.size.toInt32 = n := by simpa [Jvm.Cond.value, h1, h2] using hl
    exact ⟨by rw [← e2, len_toInt hlt], hlt⟩
  · cases q
theorem own_ael {args : Array Value} {s : State} {t : Term} {a b : Addr} {cl : Cell} {C n ds : String} {j : Int32} (ev : t.eval args s none [] s = some (.ref a)) (hc : s.heap[a]? = some cl) (ev2 : (Term.static C n ds).eval args s none [] s = some (.ref b)) (he : (Jvm.Cond.eq (.elem t (.int j)) (.static C n ds)).value args s none s [] = some true) : cl.slots[j.toNatClampNeg]? = some (.ref b) := by
  obtain ⟨x, y, h1, h2, hk, hk2⟩ := cmp_v (Or.inl he)
  have e1 : y = .ref b := Option.some.inj (h2.symm.trans ev2)
  subst e1
  have e2 := (elem_in h1 ev (Term.int_eval j) hc).2
  have hx : x.isRef = true := by cases x <;> simp [Kin, Value.isRef] at hk hk2 ⊢
  rw [e2, gotT (eq_R h1 h2 hx rfl) he]
theorem own_callU {index : Nat} {y z : MethodName} {C owner : String} {cod' : ByteArray} {mxl' : Nat} {rt' : Option FieldType} {R' : Room} {Q' : Option Value → Heap → Prop} {L0 : Array Slot} {a : Addr} {argsL rest : List Value} {W cells' slots' : Nat} {ps : List FieldType} {r : Option FieldType}
    (k0 : own_V l Z n0 R' z.cls z.name cod' mxl' rt' Q' h 0 0 0 L0 []) (hef : ∀ m, entryFrame m (.ref a :: argsL).toArray mxl' = mkF m 0 L0 []) (hpl : plainFor z = true) (hpd : parseMethodDescriptor y.desc = some ⟨ps, r⟩) (hl : argsL.length = ps.length) (E : Exa Z h a C)
    (d : own_D cod pc (.invokevirtual index) 3 pc') (w1 : (Cond.methodLink own index y).before a0 Z = true) (w2 : (Cond.sameMethod y.cls owner y.name y.desc).before a0 Z = true) (w2' : (Cond.declares ⟨owner, y.name, y.desc⟩).before a0 Z = true) (w3 : (Cond.selects C y z).before a0 Z = true) (w4 : (Cond.instanceMethod z).before a0 Z = true) (w5 : (Cond.code z cod' mxl' rt').before a0 Z = true) (w6 : (Cond.initialized z.cls).before a0 Z = true)
    (hy : owner ≠ "java/lang/invoke/MethodHandle" ∧ owner ≠ "java/lang/invoke/VarHandle") (hS : S = argsL.reverse ++ .ref a :: rest) (hsz : L.size = mxl) (hW : (rest.map fun v => v.category).sum ≤ W)
    (hf : R'.frames + 1 ≤ R.frames) (hlo : W + (mxl' + 11) + R'.locals ≤ R.locals) (hc : cells + R'.cells = cells') (hs : slots + R'.slots = slots') (hc' : cells' ≤ R.cells) (hs' : slots' ≤ R.slots)
    (k : ∀ v h', Q' v h' → own_V l Z n0 R own nm cod mxl rt Q h' cells' slots' pc' L (v.toList ++ rest)) : own_V l Z n0 R own nm cod mxl rt Q h cells slots pc L S := by
  obtain ⟨d, rfl⟩ := d
  subst hc hs
  refine own_stepC (F := fun h' S' => ∃ v, Q' v h' ∧ S' = v.toList ++ rest) (fun {p e s m args below meth c T locs} hx hZ hby hml hown _ X eT N => ?_) (by rintro h' _ ⟨v, q, rfl⟩; exact k v h' q)
  obtain ⟨cq, kq, q1, q2, q3⟩ := isOf hZ eT E
  obtain ⟨v, vm1, ⟨T', L1, k1, n1⟩, -, X', ⟨Lc, hQ, l1, y1, z1⟩, st⟩ := X.virtualBackUp hx (x := y) (y := z) (owner := owner) hown (mvT hZ w1) (mvT hZ w2) (mvT hZ w2') hy (mvT hZ w3) (mvT hZ w4) (backOf (W := W) (Q := fun v h L => Q' v h ∧ Fr n0 L) (own_met hpl hef k0 []) hZ w5 w6 hf hlo) q1 q3 (g := mkF m pc L S) rfl (by rw [hml]; exact hsz) (Steps.refl _) (argsL := argsL) (rest := rest) (lenOf hpd hl) hS (by show 2 * 0 + _ ≤ _; simpa using hW) (hb hby d) (fun _ _ => ⟨rfl, eT, hc', hs'⟩)
  dsimp only [Pt.U, Pt.locs, Pt.cells, Pt.slots] at X' l1 y1 z1 st hQ
  subst l1 y1 z1
  exact ⟨T', _, _, ⟨v, hQ.1, rfl⟩, X', Fr.app N hQ.2, fun _ q => st.trans q⟩
/-- an array of references of the class C -/
def own_R (Z : State) (h : Heap) (a : Addr) (C : String) (vs : List Value) : Prop := ∃ cl : Cell, Arr Z h a cl (.object C) ∧ Ovr Z cl.cls C ∧ cl.slots.toList = vs ∧ vs.length < 2 ^ 31
theorem own_R.A {a : Addr} {C : String} {vs : List Value} (A : own_R Z h a C vs) : own_A Z h a (.object C) vs := by obtain ⟨cl, A1, _, r⟩ := A; exact ⟨cl, A1, r⟩
theorem own_R.ext {h' : Heap} {a : Addr} {C : String} {vs : List Value} (E : Ext h h') (A : own_R Z h a C vs) : own_R Z h' a C vs := by obtain ⟨cl, A1, r⟩ := A; exact ⟨cl, A1.ext E, r⟩
theorem own_R.other {h' : Heap} {a b : Addr} {sl : Nat} {v : Value} {C : String} {vs : List Value} (W : Wr h h' b sl v) (A : own_R Z h a C vs) (hne : a ≠ b) : own_R Z h' a C vs := by obtain ⟨cl, A1, r⟩ := A; exact ⟨cl, A1.other W hne, r⟩
theorem own_R.keep {h' : Heap} {a : Addr} {C : String} {vs : List Value} {ws : List Addr} (A : own_R Z h a C vs) (K : Keep h h' ws) (hne : a ∉ ws) : own_R Z h' a C vs := by obtain ⟨cl, A1, r⟩ := A; exact ⟨cl, ⟨K.2.1 _ _ A1.1 hne, A1.2⟩, r⟩
theorem own_R.lt {a : Addr} {C : String} {vs : List Value} (A : own_R Z h a C vs) : a < h.size := by obtain ⟨cl, A1, r⟩ := A; exact A1.lt
theorem own_R.set {h' : Heap} {a : Addr} {i : Nat} {v : Value} {C : String} {vs : List Value} (W : Wr h h' a i v) (A : own_R Z h a C vs) : own_R Z h' a C (vs.set i v) := by
  obtain ⟨cl, A1, o, rfl, r⟩ := A
  exact ⟨_, A1.same W, o, by simp [Cell.setSlot], by simpa using r⟩
theorem own_newref {i : Nat} {C : String} {n : Int32} {j cells' slots' : Nat} (d : own_D cod pc (.anewarray i) 3 pc') (w1 : (Cond.classLink own i C).before a0 Z = true) (w2 : (Cond.arrayOver (.object C)).before a0 Z = true) (hn : n.toInt = (j : Int)) {cap : Nat} (hcap : j ≤ cap) (hcb : cap * 8 ≤ 536870912) (hc : cells + 1 = cells') (hs : slots + cap = slots') (hc' : cells' ≤ R.cells) (hs' : slots' ≤ R.slots)
    (k : ∀ h', Ext h h' → own_R Z h' h.size C (List.replicate j .null) → own_V l Z n0 R own nm cod mxl rt Q h' cells' slots' pc' L (.ref h.size :: S)) : own_V l Z n0 R own nm cod mxl rt Q h cells slots pc L (.int n :: S) := by
  obtain ⟨d, rfl⟩ := d
  subst hc hs
  obtain ⟨q1, rfl⟩ := own_nat hn
  refine own_stepC (F := fun h' S' => (Ext h h' ∧ own_R Z h' h.size C (List.replicate n.toNatClampNeg .null)) ∧ S' = .ref h.size :: S) (fun hx hZ hby _ hown _ X eT N => ?_) (by rintro h' S' ⟨⟨q1, q2⟩, rfl⟩; exact k h' q1 q2)
  obtain ⟨T', h', cA, X', e', E', A', O', st⟩ := newR X hx hZ hown w1 w2 eT (g := mkF _ pc L (.int n :: S)) rfl (hb hby d) rfl q1 hcap hcb hc' hs'
  subst e'
  refine ⟨T', _, _, ⟨⟨E', _, A', O', by simp [newA, defaultValue], ?_⟩, rfl⟩, X', N, st⟩
  simp; have := (back32 q1).2; omega
theorem own_aastore {a : Addr} {C : String} {vs : List Value} {j : Int32} {i : Nat} {v : Value} (d : own_D cod pc (.aastore) 1 pc') (A : own_R Z h a C vs) (hj : j.toInt = (i : Int)) (hi : i < vs.length) (hv : v = .null ∨ ∃ y, v = .ref y ∧ Ins Z h y C true) (ha : n0 ≤ a)
    (k : ∀ h', Wr h h' a i v → own_R Z h' a C (vs.set i v) → own_V l Z n0 R own nm cod mxl rt Q h' cells slots pc' L S) : own_V l Z n0 R own nm cod mxl rt Q h cells slots pc L (v :: .int j :: .ref a :: S) := by
  obtain ⟨d, rfl⟩ := d
  have A0 := A
  obtain ⟨cl, A1, O1, rfl, r⟩ := A
  obtain ⟨q1, rfl⟩ := own_nat hj
  have hin : ¬ (j < 0 ∨ cl.slots.size ≤ j.toNatClampNeg) := fun q => q.elim q1 fun q => by simp at hi; omega
  have F : Sto Z h a v := by
    rcases hv with rfl | ⟨y, rfl, I⟩
    · exact Or.inl rfl
    · exact Sto.of A1 O1 I
  refine own_stepC (F := fun h' S' => Wr h h' a j.toNatClampNeg v ∧ S' = S) (fun hx hZ hby _ hown hnm X eT N => ?_) (by rintro h' S' ⟨W, rfl⟩; exact k h' W (own_R.set W A0))
  obtain ⟨T', h', X', e', W', st⟩ := stR X hx hZ eT A1 hin rfl F (g := mkF _ pc L (v :: .int j :: .ref a :: S)) rfl rfl (hb hby d)
  subst e'
  exact ⟨T', _, _, ⟨W', rfl⟩, X', Fr.snoc X' N ha, st⟩
theorem own_tsw {df lo hi o : Int} {offs : Array Int} {n t : Nat} {x : Int32} (d : own_D cod pc (.tableswitch df lo hi offs) n pc') (hin : lo ≤ x.toInt ∧ x.toInt ≤ hi) (ho : offs[(x.toInt - lo).toNat]? = some o) (h1 : 0 ≤ (pc : Int) + o) (h2 : ((pc : Int) + o).toNat = t) (k : own_V l Z n0 R own nm cod mxl rt Q h cells slots t L S) : own_V l Z n0 R own nm cod mxl rt Q h cells slots pc L (.int x :: S) := by
  obtain ⟨d, -⟩ := d
  exact own_step (fun hx _ hby _ X _ _ q => XS.tswIn X.here hx rfl rfl (hb hby d) rfl (by omega) ho h1 h2 q) k
theorem own_catR {v : Value} (q : v.isRef = true) : v.category = 1 := by rcases ref_cases q with rfl | ⟨a, rfl⟩ <;> rfl
theorem own_skeep {h' : Heap} {C n ds : String} {v : Value} (F : Sta Z h C n ds v) (K : Keep h h' []) : Sta Z h' C n ds v := by
  obtain ⟨cf, i, k, f, st, cell, h1, h2, h3, h4, h5, h6, h7⟩ := F
  exact ⟨cf, i, k, f, st, cell, h1, h2, h3, h4, K.2.1 _ _ h5 (by simp), h6, h7⟩
theorem own_instY {i : Nat} {K : String} {a : Addr} (d : own_D cod pc (.instanceof i) 3 pc') (w : (Cond.classLink own i K).before a0 Z = true) (I : Ins Z h a K true) (k : own_V l Z n0 R own nm cod mxl rt Q h cells slots pc' L (.int 1 :: S)) : own_V l Z n0 R own nm cod mxl rt Q h cells slots pc L (.ref a :: S) := by
  obtain ⟨d, rfl⟩ := d
  refine own_stepC (F := fun h' S' => h' = h ∧ S' = .int 1 :: S) (fun hx hZ hby _ hown _ X eT N => ?_) (by rintro h' S' ⟨rfl, rfl⟩; exact k)
  obtain ⟨T', X', e', st⟩ := instY X hx hZ hown w eT I (g := mkF _ pc L (.ref a :: S)) rfl rfl (hb hby d)
  exact ⟨T', _, _, ⟨e', rfl⟩, X', N, st⟩
theorem own_instNull {i : Nat} (d : own_D cod pc (.instanceof i) 3 pc') (k : own_V l Z n0 R own nm cod mxl rt Q h cells slots pc' L (.int 0 :: S)) : own_V l Z n0 R own nm cod mxl rt Q h cells slots pc L (.null :: S) := by
  obtain ⟨d, rfl⟩ := d
  exact own_step (fun hx _ hby _ X _ _ q => X.instanceofNull hx (g := mkF _ pc L (.null :: S)) rfl rfl (hb hby d) _ q) k
theorem own_castY {i : Nat} {K : String} {a : Addr} (d : own_D cod pc (.checkcast i) 3 pc') (w : (Cond.classLink own i K).before a0 Z = true) (I : Ins Z h a K true) (k : own_V l Z n0 R own nm cod mxl rt Q h cells slots pc' L (.ref a :: S)) : own_V l Z n0 R own nm cod mxl rt Q h cells slots pc L (.ref a :: S) := by
  obtain ⟨d, rfl⟩ := d
  refine own_stepC (F := fun h' S' => h' = h ∧ S' = .ref a :: S) (fun hx hZ hby _ hown _ X eT N => ?_) (by rintro h' S' ⟨rfl, rfl⟩; exact k)
  obtain ⟨T', X', e', st⟩ := castY X hx hZ hown w eT I (g := mkF _ pc L (.ref a :: S)) rfl rfl (hb hby d)
  exact ⟨T', _, _, ⟨e', rfl⟩, X', N, st⟩
theorem own_castNull {i : Nat} (d : own_D cod pc (.checkcast i) 3 pc') (k : own_V l Z n0 R own nm cod mxl rt Q h cells slots pc' L (.null :: S)) : own_V l Z n0 R own nm cod mxl rt Q h cells slots pc L (.null :: S) := by
  obtain ⟨d, rfl⟩ := d
  exact own_step (fun hx _ hby _ X _ _ q => X.checkcastNull hx (g := mkF _ pc L (.null :: S)) rfl rfl (hb hby d) _ q) k
theorem own_dupX2s {tb : Tables} [Ours tb] {e : Env} {below : List Frame} {T target : State} {m : MethodId} {c : Code} {g : JFrame} (h : At T m c below) (hx : tb.exec = Jvm.exec) (hg : g.method = m) {x y z : Value} {rest : List Value} (hd : decode c.code g.pc = .ok (.dup_x2, 1)) (hs : g.stack = x :: y :: z :: rest) (hc : x.category = 1) (hc' : y.category = 1) (hc2 : z.category = 1)
    (hr : Steps tb e below (T.setTop { g with pc := g.pc + 1, stack := x :: y :: z :: x :: rest }) target) : Steps tb e below (T.setTop g) target := by
  subst hg
  jvm_step h [h.top, hx, hd, hs, hc, hc', hc2]
  exact hr
theorem own_dupX2 {x y z : Value} (d : own_D cod pc (.dup_x2) 1 pc') (hc : x.category = 1) (hc1 : y.category = 1) (hc2 : z.category = 1) (k : own_V l Z n0 R own nm cod mxl rt Q h cells slots pc' L (x :: y :: z :: x :: S)) : own_V l Z n0 R own nm cod mxl rt Q h cells slots pc L (x :: y :: z :: S) := by
  obtain ⟨d, rfl⟩ := d
  exact own_step (fun hx _ hby _ X _ _ q => own_dupX2s X.here hx rfl (hb hby d) rfl hc hc1 hc2 q) k
theorem own_dup2 {x y : Value} (d : own_D cod pc (.dup2) 1 pc') (hc : x.category = 1) (hc1 : y.category = 1) (k : own_V l Z n0 R own nm cod mxl rt Q h cells slots pc' L (x :: y :: x :: y :: S)) : own_V l Z n0 R own nm cod mxl rt Q h cells slots pc L (x :: y :: S) := by
  obtain ⟨d, rfl⟩ := d
  exact own_step (fun hx _ hby _ X _ _ q => Jvm.Free.XT.dup2 X.here hx rfl (hb hby d) rfl hc hc1 q) k
end OwnKit
theorem own_w {Z : State} {a0 : Array Value} (hw : ∀ d ∈ tables_1, d.before a0 Z = true) (i : Nat) {d : Jvm.Cond} (q : tables_1[i]? = some d) : d.before a0 Z = true := hw d (List.mem_of_getElem? q)
theorem own_ef6_III (m : MethodId) (x0 : Int32) (x1 : Int32) (x2 : Int32) : entryFrame m #[(.int x0), (.int x1), (.int x2)] 3 = mkF m 0 #[.val (.int x0), .val (.int x1), .val (.int x2)] [] := by first | (simp [entryFrame, mkF, argsToLocals, Value.category]; done) | rfl
theorem own_ef7_JII (m : MethodId) (x0 : Int64) (x1 : Int32) (x2 : Int32) : entryFrame m #[(.long x0), (.int x1), (.int x2)] 4 = mkF m 0 #[.val (.long x0), .second, .val (.int x1), .val (.int x2)] [] := by first | (simp [entryFrame, mkF, argsToLocals, Value.category]; done) | rfl
theorem own_ef2_AIIIA (m : MethodId) (x0 : Addr) (x1 : Int32) (x2 : Int32) (x3 : Int32) (x4 : Addr) : entryFrame m #[(.ref x0), (.int x1), (.int x2), (.int x3), (.ref x4)] 11 = mkF m 0 #[.val (.ref x0), .val (.int x1), .val (.int x2), .val (.int x3), .val (.ref x4), .unset, .unset, .unset, .unset, .unset, .unset] [] := by first | (simp [entryFrame, mkF, argsToLocals, Value.category]; done) | rfl
theorem own_ef13_AII (m : MethodId) (x0 : Addr) (x1 : Int32) (x2 : Int32) : entryFrame m #[(.ref x0), (.int x1), (.int x2)] 7 = mkF m 0 #[.val (.ref x0), .val (.int x1), .val (.int x2), .unset, .unset, .unset, .unset] [] := by first | (simp [entryFrame, mkF, argsToLocals, Value.category]; done) | rfl
theorem own_ef3_II (m : MethodId) (x0 : Int32) (x1 : Int32) : entryFrame m #[(.int x0), (.int x1)] 2 = mkF m 0 #[.val (.int x0), .val (.int x1)] [] := by first | (simp [entryFrame, mkF, argsToLocals, Value.category]; done) | rfl
theorem own_ef4_I (m : MethodId) (x0 : Int32) : entryFrame m #[(.int x0)] 2 = mkF m 0 #[.val (.int x0), .unset] [] := by first | (simp [entryFrame, mkF, argsToLocals, Value.category]; done) | rfl
theorem own_ef5_AIII (m : MethodId) (x0 : Addr) (x1 : Int32) (x2 : Int32) (x3 : Int32) : entryFrame m #[(.ref x0), (.int x1), (.int x2), (.int x3)] 5 = mkF m 0 #[.val (.ref x0), .val (.int x1), .val (.int x2), .val (.int x3), .unset] [] := by first | (simp [entryFrame, mkF, argsToLocals, Value.category]; done) | rfl
theorem own_ef8_AAII (m : MethodId) (x0 : Addr) (x1 : Addr) (x2 : Int32) (x3 : Int32) : entryFrame m #[(.ref x0), (.ref x1), (.int x2), (.int x3)] 12 = mkF m 0 #[.val (.ref x0), .val (.ref x1), .val (.int x2), .val (.int x3), .unset, .unset, .unset, .unset, .unset, .unset, .unset, .unset] [] := by first | (simp [entryFrame, mkF, argsToLocals, Value.category]; done) | rfl
theorem own_ef12_AIIIA (m : MethodId) (x0 : Addr) (x1 : Int32) (x2 : Int32) (x3 : Int32) (x4 : Addr) : entryFrame m #[(.ref x0), (.int x1), (.int x2), (.int x3), (.ref x4)] 9 = mkF m 0 #[.val (.ref x0), .val (.int x1), .val (.int x2), .val (.int x3), .val (.ref x4), .unset, .unset, .unset, .unset] [] := by first | (simp [entryFrame, mkF, argsToLocals, Value.category]; done) | rfl
theorem own_ef9_JJ (m : MethodId) (x0 : Int64) (x1 : Int64) : entryFrame m #[(.long x0), (.long x1)] 4 = mkF m 0 #[.val (.long x0), .second, .val (.long x1), .second] [] := by first | (simp [entryFrame, mkF, argsToLocals, Value.category]; done) | rfl
theorem own_ef10_JJ (m : MethodId) (x0 : Int64) (x1 : Int64) : entryFrame m #[(.long x0), (.long x1)] 4 = mkF m 0 #[.val (.long x0), .second, .val (.long x1), .second] [] := by first | (simp [entryFrame, mkF, argsToLocals, Value.category]; done) | rfl
theorem own_ef11_AIJ (m : MethodId) (x0 : Addr) (x1 : Int32) (x2 : Int64) : entryFrame m #[(.ref x0), (.int x1), (.long x2)] 4 = mkF m 0 #[.val (.ref x0), .val (.int x1), .val (.long x2), .second] [] := by first | (simp [entryFrame, mkF, argsToLocals, Value.category]; done) | rfl
theorem own_ef1_AIJJJJ (m : MethodId) (x0 : Addr) (x1 : Int32) (x2 : Int64) (x3 : Int64) (x4 : Int64) (x5 : Int64) : entryFrame m #[(.ref x0), (.int x1), (.long x2), (.long x3), (.long x4), (.long x5)] 10 = mkF m 0 #[.val (.ref x0), .val (.int x1), .val (.long x2), .second, .val (.long x3), .second, .val (.long x4), .second, .val (.long x5), .second] [] := by first | (simp [entryFrame, mkF, argsToLocals, Value.category]; done) | rfl
theorem own_ef0_JJJJJI (m : MethodId) (x0 : Int64) (x1 : Int64) (x2 : Int64) (x3 : Int64) (x4 : Int64) (x5 : Int32) : entryFrame m #[(.long x0), (.long x1), (.long x2), (.long x3), (.long x4), (.int x5)] maxLocals = mkF m 0 #[.val (.long x0), .second, .val (.long x1), .second, .val (.long x2), .second, .val (.long x3), .second, .val (.long x4), .second, .val (.int x5), .unset, .unset, .unset, .unset, .unset, .unset, .unset, .unset, .unset, .unset, .unset, .unset, .unset, .unset, .unset, .unset, .unset, .unset, .unset, .unset, .unset, .unset, .unset, .unset, .unset, .unset, .unset, .unset, .unset, .unset, .unset, .unset, .unset, .unset, .unset] [] := by first | (simp [entryFrame, mkF, argsToLocals, Value.category, maxLocals]; done) | rfl
theorem d0_0 : own_D code 0 (.iload 10) 2 2 := ⟨by decide +kernel, rfl⟩
theorem d0_2 : own_D code 2 (.bipush 63) 2 4 := ⟨by decide +kernel, rfl⟩
theorem d0_4 : own_D code 4 (.iand) 1 5 := ⟨by decide +kernel, rfl⟩
theorem d0_5 : own_D code 5 (.istore 11) 2 7 := ⟨by decide +kernel, rfl⟩
theorem d0_7 : own_D code 7 (.lconst 1) 1 8 := ⟨by decide +kernel, rfl⟩
theorem d0_8 : own_D code 8 (.iload 11) 2 10 := ⟨by decide +kernel, rfl⟩
theorem d0_10 : own_D code 10 (.lshl) 1 11 := ⟨by decide +kernel, rfl⟩
theorem d0_11 : own_D code 11 (.lconst 1) 1 12 := ⟨by decide +kernel, rfl⟩
theorem d0_12 : own_D code 12 (.lsub) 1 13 := ⟨by decide +kernel, rfl⟩
theorem d0_13 : own_D code 13 (.lstore 12) 2 15 := ⟨by decide +kernel, rfl⟩
theorem d0_15 : own_D code 15 (.lload 8) 2 17 := ⟨by decide +kernel, rfl⟩
theorem d0_17 : own_D code 17 (.lload 12) 2 19 := ⟨by decide +kernel, rfl⟩
theorem d0_19 : own_D code 19 (.ldc2_w 7) 3 22 := ⟨by decide +kernel, rfl⟩
theorem d0_22 : own_D code 22 (.lxor) 1 23 := ⟨by decide +kernel, rfl⟩
theorem d0_23 : own_D code 23 (.land) 1 24 := ⟨by decide +kernel, rfl⟩
theorem d0_24 : own_D code 24 (.lstore 14) 2 26 := ⟨by decide +kernel, rfl⟩
theorem d0_26 : own_D code 26 (.lload 14) 2 28 := ⟨by decide +kernel, rfl⟩
theorem d0_28 : own_D code 28 (.lload_n 0) 1 29 := ⟨by decide +kernel, rfl⟩
theorem d0_29 : own_D code 29 (.lload 12) 2 31 := ⟨by decide +kernel, rfl⟩
theorem d0_31 : own_D code 31 (.land) 1 32 := ⟨by decide +kernel, rfl⟩
theorem d0_32 : own_D code 32 (.lor) 1 33 := ⟨by decide +kernel, rfl⟩
theorem d0_33 : own_D code 33 (.lstore 16) 2 35 := ⟨by decide +kernel, rfl⟩
theorem d0_35 : own_D code 35 (.lload 14) 2 37 := ⟨by decide +kernel, rfl⟩
theorem d0_37 : own_D code 37 (.lload_n 2) 1 38 := ⟨by decide +kernel, rfl⟩
theorem d0_38 : own_D code 38 (.lload 12) 2 40 := ⟨by decide +kernel, rfl⟩
theorem d0_40 : own_D code 40 (.land) 1 41 := ⟨by decide +kernel, rfl⟩
theorem d0_41 : own_D code 41 (.lor) 1 42 := ⟨by decide +kernel, rfl⟩
theorem d0_42 : own_D code 42 (.lstore 18) 2 44 := ⟨by decide +kernel, rfl⟩
theorem d0_44 : own_D code 44 (.lload 14) 2 46 := ⟨by decide +kernel, rfl⟩
theorem d0_46 : own_D code 46 (.lload 4) 2 48 := ⟨by decide +kernel, rfl⟩
theorem d0_48 : own_D code 48 (.lload 12) 2 50 := ⟨by decide +kernel, rfl⟩
theorem d0_50 : own_D code 50 (.land) 1 51 := ⟨by decide +kernel, rfl⟩
theorem d0_51 : own_D code 51 (.lor) 1 52 := ⟨by decide +kernel, rfl⟩
theorem d0_52 : own_D code 52 (.lstore 20) 2 54 := ⟨by decide +kernel, rfl⟩
theorem d0_54 : own_D code 54 (.lload 14) 2 56 := ⟨by decide +kernel, rfl⟩
theorem d0_56 : own_D code 56 (.lload 6) 2 58 := ⟨by decide +kernel, rfl⟩
theorem d0_58 : own_D code 58 (.lload 12) 2 60 := ⟨by decide +kernel, rfl⟩
theorem d0_60 : own_D code 60 (.land) 1 61 := ⟨by decide +kernel, rfl⟩
theorem d0_61 : own_D code 61 (.lor) 1 62 := ⟨by decide +kernel, rfl⟩
theorem d0_62 : own_D code 62 (.lstore 22) 2 64 := ⟨by decide +kernel, rfl⟩
theorem d0_64 : own_D code 64 (.bipush 38) 2 66 := ⟨by decide +kernel, rfl⟩
theorem d0_66 : own_D code 66 (.newarray .long) 2 68 := ⟨by decide +kernel, rfl⟩
theorem d0_68 : own_D code 68 (.astore 24) 2 70 := ⟨by decide +kernel, rfl⟩
theorem d0_70 : own_D code 70 (.aload 24) 2 72 := ⟨by decide +kernel, rfl⟩
theorem d0_72 : own_D code 72 (.iconst 0) 1 73 := ⟨by decide +kernel, rfl⟩
theorem d0_73 : own_D code 73 (.ldc2_w 11) 3 76 := ⟨by decide +kernel, rfl⟩
theorem d0_76 : own_D code 76 (.lastore) 1 77 := ⟨by decide +kernel, rfl⟩
theorem d0_77 : own_D code 77 (.aload 24) 2 79 := ⟨by decide +kernel, rfl⟩
theorem d0_79 : own_D code 79 (.bipush 37) 2 81 := ⟨by decide +kernel, rfl⟩
theorem d0_81 : own_D code 81 (.ldc2_w 13) 3 84 := ⟨by decide +kernel, rfl⟩
theorem d0_84 : own_D code 84 (.lastore) 1 85 := ⟨by decide +kernel, rfl⟩
theorem d0_85 : own_D code 85 (.aload 24) 2 87 := ⟨by decide +kernel, rfl⟩
theorem d0_87 : own_D code 87 (.iconst 1) 1 88 := ⟨by decide +kernel, rfl⟩
theorem d0_88 : own_D code 88 (.lload 22) 2 90 := ⟨by decide +kernel, rfl⟩
theorem d0_90 : own_D code 90 (.lload 16) 2 92 := ⟨by decide +kernel, rfl⟩
theorem d0_92 : own_D code 92 (.lload 20) 2 94 := ⟨by decide +kernel, rfl⟩
theorem d0_94 : own_D code 94 (.lload 18) 2 96 := ⟨by decide +kernel, rfl⟩
theorem d0_96 : own_D code 96 (.invokestatic 15) 3 99 := ⟨by decide +kernel, rfl⟩
theorem d0_99 : own_D code 99 (.aload 24) 2 101 := ⟨by decide +kernel, rfl⟩
theorem d0_101 : own_D code 101 (.iconst 5) 1 102 := ⟨by decide +kernel, rfl⟩
theorem d0_102 : own_D code 102 (.lload 18) 2 104 := ⟨by decide +kernel, rfl⟩
theorem d0_104 : own_D code 104 (.lload 22) 2 106 := ⟨by decide +kernel, rfl⟩
theorem d0_106 : own_D code 106 (.lload 16) 2 108 := ⟨by decide +kernel, rfl⟩
theorem d0_108 : own_D code 108 (.lload 20) 2 110 := ⟨by decide +kernel, rfl⟩
theorem d0_110 : own_D code 110 (.invokestatic 15) 3 113 := ⟨by decide +kernel, rfl⟩
theorem d0_113 : own_D code 113 (.aload 24) 2 115 := ⟨by decide +kernel, rfl⟩
theorem d0_115 : own_D code 115 (.bipush 9) 2 117 := ⟨by decide +kernel, rfl⟩
theorem d0_117 : own_D code 117 (.lload 20) 2 119 := ⟨by decide +kernel, rfl⟩
theorem d0_119 : own_D code 119 (.lload 18) 2 121 := ⟨by decide +kernel, rfl⟩
theorem d0_121 : own_D code 121 (.lload 22) 2 123 := ⟨by decide +kernel, rfl⟩
theorem d0_123 : own_D code 123 (.lload 16) 2 125 := ⟨by decide +kernel, rfl⟩
theorem d0_125 : own_D code 125 (.invokestatic 15) 3 128 := ⟨by decide +kernel, rfl⟩
theorem d0_128 : own_D code 128 (.aload 24) 2 130 := ⟨by decide +kernel, rfl⟩
theorem d0_130 : own_D code 130 (.bipush 13) 2 132 := ⟨by decide +kernel, rfl⟩
theorem d0_132 : own_D code 132 (.lload 16) 2 134 := ⟨by decide +kernel, rfl⟩
theorem d0_134 : own_D code 134 (.lload 20) 2 136 := ⟨by decide +kernel, rfl⟩
theorem d0_136 : own_D code 136 (.lload 18) 2 138 := ⟨by decide +kernel, rfl⟩
theorem d0_138 : own_D code 138 (.lload 22) 2 140 := ⟨by decide +kernel, rfl⟩
theorem d0_140 : own_D code 140 (.invokestatic 15) 3 143 := ⟨by decide +kernel, rfl⟩
theorem d0_143 : own_D code 143 (.aload 24) 2 145 := ⟨by decide +kernel, rfl⟩
theorem d0_145 : own_D code 145 (.bipush 17) 2 147 := ⟨by decide +kernel, rfl⟩
theorem d0_147 : own_D code 147 (.lload 22) 2 149 := ⟨by decide +kernel, rfl⟩
theorem d0_149 : own_D code 149 (.lload 18) 2 151 := ⟨by decide +kernel, rfl⟩
theorem d0_151 : own_D code 151 (.lload 20) 2 153 := ⟨by decide +kernel, rfl⟩
theorem d0_153 : own_D code 153 (.lload 16) 2 155 := ⟨by decide +kernel, rfl⟩
theorem d0_155 : own_D code 155 (.invokestatic 15) 3 158 := ⟨by decide +kernel, rfl⟩
theorem d0_158 : own_D code 158 (.aload 24) 2 160 := ⟨by decide +kernel, rfl⟩
theorem d0_160 : own_D code 160 (.bipush 21) 2 162 := ⟨by decide +kernel, rfl⟩
theorem d0_162 : own_D code 162 (.lload 16) 2 164 := ⟨by decide +kernel, rfl⟩
theorem d0_164 : own_D code 164 (.lload 22) 2 166 := ⟨by decide +kernel, rfl⟩
theorem d0_166 : own_D code 166 (.lload 18) 2 168 := ⟨by decide +kernel, rfl⟩
theorem d0_168 : own_D code 168 (.lload 20) 2 170 := ⟨by decide +kernel, rfl⟩
theorem d0_170 : own_D code 170 (.invokestatic 15) 3 173 := ⟨by decide +kernel, rfl⟩
theorem d0_173 : own_D code 173 (.aload 24) 2 175 := ⟨by decide +kernel, rfl⟩
theorem d0_175 : own_D code 175 (.bipush 25) 2 177 := ⟨by decide +kernel, rfl⟩
theorem d0_177 : own_D code 177 (.lload 20) 2 179 := ⟨by decide +kernel, rfl⟩
theorem d0_179 : own_D code 179 (.lload 16) 2 181 := ⟨by decide +kernel, rfl⟩
theorem d0_181 : own_D code 181 (.lload 22) 2 183 := ⟨by decide +kernel, rfl⟩
theorem d0_183 : own_D code 183 (.lload 18) 2 185 := ⟨by decide +kernel, rfl⟩
theorem d0_185 : own_D code 185 (.invokestatic 15) 3 188 := ⟨by decide +kernel, rfl⟩
theorem d0_188 : own_D code 188 (.aload 24) 2 190 := ⟨by decide +kernel, rfl⟩
theorem d0_190 : own_D code 190 (.bipush 29) 2 192 := ⟨by decide +kernel, rfl⟩
theorem d0_192 : own_D code 192 (.lload 18) 2 194 := ⟨by decide +kernel, rfl⟩
theorem d0_194 : own_D code 194 (.lload 20) 2 196 := ⟨by decide +kernel, rfl⟩
theorem d0_196 : own_D code 196 (.lload 16) 2 198 := ⟨by decide +kernel, rfl⟩
theorem d0_198 : own_D code 198 (.lload 22) 2 200 := ⟨by decide +kernel, rfl⟩
theorem d0_200 : own_D code 200 (.invokestatic 15) 3 203 := ⟨by decide +kernel, rfl⟩
theorem d0_203 : own_D code 203 (.aload 24) 2 205 := ⟨by decide +kernel, rfl⟩
theorem d0_205 : own_D code 205 (.bipush 33) 2 207 := ⟨by decide +kernel, rfl⟩
theorem d0_207 : own_D code 207 (.lload 22) 2 209 := ⟨by decide +kernel, rfl⟩
theorem d0_209 : own_D code 209 (.lload 20) 2 211 := ⟨by decide +kernel, rfl⟩
theorem d0_211 : own_D code 211 (.lload 18) 2 213 := ⟨by decide +kernel, rfl⟩
theorem d0_213 : own_D code 213 (.lload 16) 2 215 := ⟨by decide +kernel, rfl⟩
theorem d0_215 : own_D code 215 (.invokestatic 15) 3 218 := ⟨by decide +kernel, rfl⟩
theorem d0_218 : own_D code 218 (.sipush 4096) 3 221 := ⟨by decide +kernel, rfl⟩
theorem d0_221 : own_D code 221 (.newarray .int) 2 223 := ⟨by decide +kernel, rfl⟩
theorem d0_223 : own_D code 223 (.astore 25) 2 225 := ⟨by decide +kernel, rfl⟩
theorem d0_225 : own_D code 225 (.aload 25) 2 227 := ⟨by decide +kernel, rfl⟩
theorem d0_227 : own_D code 227 (.iconst 0) 1 228 := ⟨by decide +kernel, rfl⟩
theorem d0_228 : own_D code 228 (.lload_n 0) 1 229 := ⟨by decide +kernel, rfl⟩
theorem d0_229 : own_D code 229 (.l2i) 1 230 := ⟨by decide +kernel, rfl⟩
theorem d0_230 : own_D code 230 (.iastore) 1 231 := ⟨by decide +kernel, rfl⟩
theorem d0_231 : own_D code 231 (.aload 25) 2 233 := ⟨by decide +kernel, rfl⟩
theorem d0_233 : own_D code 233 (.bipush 31) 2 235 := ⟨by decide +kernel, rfl⟩
theorem d0_235 : own_D code 235 (.lload_n 2) 1 236 := ⟨by decide +kernel, rfl⟩
theorem d0_236 : own_D code 236 (.l2i) 1 237 := ⟨by decide +kernel, rfl⟩
theorem d0_237 : own_D code 237 (.iastore) 1 238 := ⟨by decide +kernel, rfl⟩
theorem d0_238 : own_D code 238 (.aload 25) 2 240 := ⟨by decide +kernel, rfl⟩
theorem d0_240 : own_D code 240 (.sipush 2047) 3 243 := ⟨by decide +kernel, rfl⟩
theorem d0_243 : own_D code 243 (.lload 4) 2 245 := ⟨by decide +kernel, rfl⟩
theorem d0_245 : own_D code 245 (.l2i) 1 246 := ⟨by decide +kernel, rfl⟩
theorem d0_246 : own_D code 246 (.iastore) 1 247 := ⟨by decide +kernel, rfl⟩
theorem d0_247 : own_D code 247 (.aload 24) 2 249 := ⟨by decide +kernel, rfl⟩
theorem d0_249 : own_D code 249 (.iconst 1) 1 250 := ⟨by decide +kernel, rfl⟩
theorem d0_250 : own_D code 250 (.bipush 37) 2 252 := ⟨by decide +kernel, rfl⟩
theorem d0_252 : own_D code 252 (.iload 11) 2 254 := ⟨by decide +kernel, rfl⟩
theorem d0_254 : own_D code 254 (.aload 25) 2 256 := ⟨by decide +kernel, rfl⟩
theorem d0_256 : own_D code 256 (.invokestatic 23) 3 259 := ⟨by decide +kernel, rfl⟩
theorem d0_259 : own_D code 259 (.lload 16) 2 261 := ⟨by decide +kernel, rfl⟩
theorem d0_261 : own_D code 261 (.lload 18) 2 263 := ⟨by decide +kernel, rfl⟩
theorem d0_263 : own_D code 263 (.invokestatic 27) 3 266 := ⟨by decide +kernel, rfl⟩
theorem d0_266 : own_D code 266 (.lstore 26) 2 268 := ⟨by decide +kernel, rfl⟩
theorem d0_268 : own_D code 268 (.lload 16) 2 270 := ⟨by decide +kernel, rfl⟩
theorem d0_270 : own_D code 270 (.lload 18) 2 272 := ⟨by decide +kernel, rfl⟩
theorem d0_272 : own_D code 272 (.invokestatic 33) 3 275 := ⟨by decide +kernel, rfl⟩
theorem d0_275 : own_D code 275 (.lstore 28) 2 277 := ⟨by decide +kernel, rfl⟩
theorem d0_277 : own_D code 277 (.lload 20) 2 279 := ⟨by decide +kernel, rfl⟩
theorem d0_279 : own_D code 279 (.lload 22) 2 281 := ⟨by decide +kernel, rfl⟩
theorem d0_281 : own_D code 281 (.invokestatic 27) 3 284 := ⟨by decide +kernel, rfl⟩
theorem d0_284 : own_D code 284 (.lstore 30) 2 286 := ⟨by decide +kernel, rfl⟩
theorem d0_286 : own_D code 286 (.lload 20) 2 288 := ⟨by decide +kernel, rfl⟩
theorem d0_288 : own_D code 288 (.lload 22) 2 290 := ⟨by decide +kernel, rfl⟩
theorem d0_290 : own_D code 290 (.invokestatic 33) 3 293 := ⟨by decide +kernel, rfl⟩
theorem d0_293 : own_D code 293 (.lstore 32) 2 295 := ⟨by decide +kernel, rfl⟩
theorem d0_295 : own_D code 295 (.lload 26) 2 297 := ⟨by decide +kernel, rfl⟩
theorem d0_297 : own_D code 297 (.lload 30) 2 299 := ⟨by decide +kernel, rfl⟩
theorem d0_299 : own_D code 299 (.invokestatic 27) 3 302 := ⟨by decide +kernel, rfl⟩
theorem d0_302 : own_D code 302 (.lstore 34) 2 304 := ⟨by decide +kernel, rfl⟩
theorem d0_304 : own_D code 304 (.lload 28) 2 306 := ⟨by decide +kernel, rfl⟩
theorem d0_306 : own_D code 306 (.lload 32) 2 308 := ⟨by decide +kernel, rfl⟩
theorem d0_308 : own_D code 308 (.invokestatic 33) 3 311 := ⟨by decide +kernel, rfl⟩
theorem d0_311 : own_D code 311 (.lstore 36) 2 313 := ⟨by decide +kernel, rfl⟩
theorem d0_313 : own_D code 313 (.lload 26) 2 315 := ⟨by decide +kernel, rfl⟩
theorem d0_315 : own_D code 315 (.lload 30) 2 317 := ⟨by decide +kernel, rfl⟩
theorem d0_317 : own_D code 317 (.invokestatic 33) 3 320 := ⟨by decide +kernel, rfl⟩
theorem d0_320 : own_D code 320 (.lstore 38) 2 322 := ⟨by decide +kernel, rfl⟩
theorem d0_322 : own_D code 322 (.lload 28) 2 324 := ⟨by decide +kernel, rfl⟩
theorem d0_324 : own_D code 324 (.lload 32) 2 326 := ⟨by decide +kernel, rfl⟩
theorem d0_326 : own_D code 326 (.invokestatic 27) 3 329 := ⟨by decide +kernel, rfl⟩
theorem d0_329 : own_D code 329 (.lstore 40) 2 331 := ⟨by decide +kernel, rfl⟩
theorem d0_331 : own_D code 331 (.lload 38) 2 333 := ⟨by decide +kernel, rfl⟩
theorem d0_333 : own_D code 333 (.lload 40) 2 335 := ⟨by decide +kernel, rfl⟩
theorem d0_335 : own_D code 335 (.invokestatic 27) 3 338 := ⟨by decide +kernel, rfl⟩
theorem d0_338 : own_D code 338 (.lstore 42) 2 340 := ⟨by decide +kernel, rfl⟩
theorem d0_340 : own_D code 340 (.lload 38) 2 342 := ⟨by decide +kernel, rfl⟩
theorem d0_342 : own_D code 342 (.lload 40) 2 344 := ⟨by decide +kernel, rfl⟩
theorem d0_344 : own_D code 344 (.invokestatic 33) 3 347 := ⟨by decide +kernel, rfl⟩
theorem d0_347 : own_D code 347 (.lstore 44) 2 349 := ⟨by decide +kernel, rfl⟩
theorem d0_349 : own_D code 349 (.aload 24) 2 351 := ⟨by decide +kernel, rfl⟩
theorem d0_351 : own_D code 351 (.iconst 0) 1 352 := ⟨by decide +kernel, rfl⟩
theorem d0_352 : own_D code 352 (.laload) 1 353 := ⟨by decide +kernel, rfl⟩
theorem d0_353 : own_D code 353 (.ldc2_w 11) 3 356 := ⟨by decide +kernel, rfl⟩
theorem d0_356 : own_D code 356 (.lcmp) 1 357 := ⟨by decide +kernel, rfl⟩
theorem d0_357 : own_B code 357 (.ifCond .ne 66) 66 360 423 := ⟨by decide +kernel, rfl, by decide, by decide⟩
theorem d0_360 : own_D code 360 (.aload 24) 2 362 := ⟨by decide +kernel, rfl⟩
theorem d0_362 : own_D code 362 (.bipush 37) 2 364 := ⟨by decide +kernel, rfl⟩
theorem d0_364 : own_D code 364 (.laload) 1 365 := ⟨by decide +kernel, rfl⟩
theorem d0_365 : own_D code 365 (.ldc2_w 13) 3 368 := ⟨by decide +kernel, rfl⟩
theorem d0_368 : own_D code 368 (.lcmp) 1 369 := ⟨by decide +kernel, rfl⟩
theorem d0_369 : own_B code 369 (.ifCond .ne 54) 54 372 423 := ⟨by decide +kernel, rfl, by decide, by decide⟩
theorem d0_372 : own_D code 372 (.aload 24) 2 374 := ⟨by decide +kernel, rfl⟩
theorem d0_374 : own_D code 374 (.iconst 1) 1 375 := ⟨by decide +kernel, rfl⟩
theorem d0_375 : own_D code 375 (.lload 34) 2 377 := ⟨by decide +kernel, rfl⟩
theorem d0_377 : own_D code 377 (.invokestatic 36) 3 380 := ⟨by decide +kernel, rfl⟩
theorem d0_380 : own_B code 380 (.ifCond .eq 43) 43 383 423 := ⟨by decide +kernel, rfl, by decide, by decide⟩
theorem d0_383 : own_D code 383 (.aload 24) 2 385 := ⟨by decide +kernel, rfl⟩
theorem d0_385 : own_D code 385 (.bipush 10) 2 387 := ⟨by decide +kernel, rfl⟩
theorem d0_387 : own_D code 387 (.lload 42) 2 389 := ⟨by decide +kernel, rfl⟩
theorem d0_389 : own_D code 389 (.invokestatic 36) 3 392 := ⟨by decide +kernel, rfl⟩
theorem d0_392 : own_B code 392 (.ifCond .eq 31) 31 395 423 := ⟨by decide +kernel, rfl, by decide, by decide⟩
theorem d0_395 : own_D code 395 (.aload 24) 2 397 := ⟨by decide +kernel, rfl⟩
theorem d0_397 : own_D code 397 (.bipush 19) 2 399 := ⟨by decide +kernel, rfl⟩
theorem d0_399 : own_D code 399 (.lload 44) 2 401 := ⟨by decide +kernel, rfl⟩
theorem d0_401 : own_D code 401 (.invokestatic 36) 3 404 := ⟨by decide +kernel, rfl⟩
theorem d0_404 : own_B code 404 (.ifCond .eq 19) 19 407 423 := ⟨by decide +kernel, rfl, by decide, by decide⟩
theorem d0_407 : own_D code 407 (.aload 24) 2 409 := ⟨by decide +kernel, rfl⟩
theorem d0_409 : own_D code 409 (.bipush 28) 2 411 := ⟨by decide +kernel, rfl⟩
theorem d0_411 : own_D code 411 (.lload 36) 2 413 := ⟨by decide +kernel, rfl⟩
theorem d0_413 : own_D code 413 (.invokestatic 36) 3 416 := ⟨by decide +kernel, rfl⟩
theorem d0_416 : own_B code 416 (.ifCond .eq 7) 7 419 423 := ⟨by decide +kernel, rfl, by decide, by decide⟩
theorem d0_419 : own_D code 419 (.iconst 1) 1 420 := ⟨by decide +kernel, rfl⟩
theorem d0_420 : own_B code 420 (.goto 4) 4 423 424 := ⟨by decide +kernel, rfl, by decide, by decide⟩
theorem d0_424 : own_D code 424 (.ireturn) 1 425 := ⟨by decide +kernel, rfl⟩
theorem d1_0 : own_D method_3_code 0 (.aload_n 0) 1 1 := ⟨by decide +kernel, rfl⟩
theorem d1_1 : own_D method_3_code 1 (.iload_n 1) 1 2 := ⟨by decide +kernel, rfl⟩
theorem d1_2 : own_D method_3_code 2 (.lload_n 2) 1 3 := ⟨by decide +kernel, rfl⟩
theorem d1_3 : own_D method_3_code 3 (.lastore) 1 4 := ⟨by decide +kernel, rfl⟩
theorem d1_4 : own_D method_3_code 4 (.aload_n 0) 1 5 := ⟨by decide +kernel, rfl⟩
theorem d1_5 : own_D method_3_code 5 (.iload_n 1) 1 6 := ⟨by decide +kernel, rfl⟩
theorem d1_6 : own_D method_3_code 6 (.iconst 1) 1 7 := ⟨by decide +kernel, rfl⟩
theorem d1_7 : own_D method_3_code 7 (.iadd) 1 8 := ⟨by decide +kernel, rfl⟩
theorem d1_8 : own_D method_3_code 8 (.lload 4) 2 10 := ⟨by decide +kernel, rfl⟩
theorem d1_10 : own_D method_3_code 10 (.lastore) 1 11 := ⟨by decide +kernel, rfl⟩
theorem d1_11 : own_D method_3_code 11 (.aload_n 0) 1 12 := ⟨by decide +kernel, rfl⟩
theorem d1_12 : own_D method_3_code 12 (.iload_n 1) 1 13 := ⟨by decide +kernel, rfl⟩
theorem d1_13 : own_D method_3_code 13 (.iconst 2) 1 14 := ⟨by decide +kernel, rfl⟩
theorem d1_14 : own_D method_3_code 14 (.iadd) 1 15 := ⟨by decide +kernel, rfl⟩
theorem d1_15 : own_D method_3_code 15 (.lload 6) 2 17 := ⟨by decide +kernel, rfl⟩
theorem d1_17 : own_D method_3_code 17 (.lastore) 1 18 := ⟨by decide +kernel, rfl⟩
theorem d1_18 : own_D method_3_code 18 (.aload_n 0) 1 19 := ⟨by decide +kernel, rfl⟩
theorem d1_19 : own_D method_3_code 19 (.iload_n 1) 1 20 := ⟨by decide +kernel, rfl⟩
theorem d1_20 : own_D method_3_code 20 (.iconst 3) 1 21 := ⟨by decide +kernel, rfl⟩
theorem d1_21 : own_D method_3_code 21 (.iadd) 1 22 := ⟨by decide +kernel, rfl⟩
theorem d1_22 : own_D method_3_code 22 (.lload 8) 2 24 := ⟨by decide +kernel, rfl⟩
theorem d1_24 : own_D method_3_code 24 (.lastore) 1 25 := ⟨by decide +kernel, rfl⟩
theorem d1_25 : own_D method_3_code 25 (.return_) 1 26 := ⟨by decide +kernel, rfl⟩
theorem d2_0 : own_D prog_11_method_2_code 0 (.iload_n 2) 1 1 := ⟨by decide +kernel, rfl⟩
theorem d2_1 : own_D prog_11_method_2_code 1 (.iload_n 1) 1 2 := ⟨by decide +kernel, rfl⟩
theorem d2_2 : own_D prog_11_method_2_code 2 (.isub) 1 3 := ⟨by decide +kernel, rfl⟩
theorem d2_3 : own_D prog_11_method_2_code 3 (.bipush 32) 2 5 := ⟨by decide +kernel, rfl⟩
theorem d2_5 : own_B prog_11_method_2_code 5 (.if_icmp .le 7) 7 8 12 := ⟨by decide +kernel, rfl, by decide, by decide⟩
theorem d2_8 : own_D prog_11_method_2_code 8 (.iload_n 3) 1 9 := ⟨by decide +kernel, rfl⟩
theorem d2_9 : own_B prog_11_method_2_code 9 (.ifCond .ne 10) 10 12 19 := ⟨by decide +kernel, rfl, by decide, by decide⟩
theorem d2_12 : own_D prog_11_method_2_code 12 (.aload_n 0) 1 13 := ⟨by decide +kernel, rfl⟩
theorem d2_13 : own_D prog_11_method_2_code 13 (.iload_n 1) 1 14 := ⟨by decide +kernel, rfl⟩
theorem d2_14 : own_D prog_11_method_2_code 14 (.iload_n 2) 1 15 := ⟨by decide +kernel, rfl⟩
theorem d2_15 : own_D prog_11_method_2_code 15 (.invokestatic 9) 3 18 := ⟨by decide +kernel, rfl⟩
theorem d2_18 : own_D prog_11_method_2_code 18 (.return_) 1 19 := ⟨by decide +kernel, rfl⟩
theorem d2_19 : own_D prog_11_method_2_code 19 (.bipush 11) 2 21 := ⟨by decide +kernel, rfl⟩
theorem d2_21 : own_D prog_11_method_2_code 21 (.iload_n 3) 1 22 := ⟨by decide +kernel, rfl⟩
theorem d2_22 : own_D prog_11_method_2_code 22 (.invokestatic 13) 3 25 := ⟨by decide +kernel, rfl⟩
theorem d2_25 : own_D prog_11_method_2_code 25 (.bipush 31) 2 27 := ⟨by decide +kernel, rfl⟩
theorem d2_27 : own_D prog_11_method_2_code 27 (.iload_n 2) 1 28 := ⟨by decide +kernel, rfl⟩
theorem d2_28 : own_D prog_11_method_2_code 28 (.iload_n 1) 1 29 := ⟨by decide +kernel, rfl⟩
theorem d2_29 : own_D prog_11_method_2_code 29 (.isub) 1 30 := ⟨by decide +kernel, rfl⟩
theorem d2_30 : own_D prog_11_method_2_code 30 (.invokestatic 21) 3 33 := ⟨by decide +kernel, rfl⟩
theorem d2_33 : own_D prog_11_method_2_code 33 (.isub) 1 34 := ⟨by decide +kernel, rfl⟩
theorem d2_34 : own_D prog_11_method_2_code 34 (.invokestatic 13) 3 37 := ⟨by decide +kernel, rfl⟩
theorem d2_37 : own_D prog_11_method_2_code 37 (.istore 5) 2 39 := ⟨by decide +kernel, rfl⟩
theorem d2_39 : own_D prog_11_method_2_code 39 (.iload_n 3) 1 40 := ⟨by decide +kernel, rfl⟩
theorem d2_40 : own_D prog_11_method_2_code 40 (.iload 5) 2 42 := ⟨by decide +kernel, rfl⟩
theorem d2_42 : own_D prog_11_method_2_code 42 (.isub) 1 43 := ⟨by decide +kernel, rfl⟩
theorem d2_43 : own_D prog_11_method_2_code 43 (.istore 6) 2 45 := ⟨by decide +kernel, rfl⟩
theorem d2_45 : own_D prog_11_method_2_code 45 (.iconst 1) 1 46 := ⟨by decide +kernel, rfl⟩
theorem d2_46 : own_D prog_11_method_2_code 46 (.iload 5) 2 48 := ⟨by decide +kernel, rfl⟩
theorem d2_48 : own_D prog_11_method_2_code 48 (.ishl) 1 49 := ⟨by decide +kernel, rfl⟩
theorem d2_49 : own_D prog_11_method_2_code 49 (.istore 7) 2 51 := ⟨by decide +kernel, rfl⟩
theorem d2_51 : own_D prog_11_method_2_code 51 (.aload 4) 2 53 := ⟨by decide +kernel, rfl⟩
theorem d2_53 : own_D prog_11_method_2_code 53 (.iconst 0) 1 54 := ⟨by decide +kernel, rfl⟩
theorem d2_54 : own_D prog_11_method_2_code 54 (.iload 7) 2 56 := ⟨by decide +kernel, rfl⟩
theorem d2_56 : own_D prog_11_method_2_code 56 (.iconst 0) 1 57 := ⟨by decide +kernel, rfl⟩
theorem d2_57 : own_D prog_11_method_2_code 57 (.invokestatic 25) 3 60 := ⟨by decide +kernel, rfl⟩
theorem d2_60 : own_D prog_11_method_2_code 60 (.iload_n 1) 1 61 := ⟨by decide +kernel, rfl⟩
theorem d2_61 : own_D prog_11_method_2_code 61 (.istore 8) 2 63 := ⟨by decide +kernel, rfl⟩
theorem d2_63 : own_D prog_11_method_2_code 63 (.iload 8) 2 65 := ⟨by decide +kernel, rfl⟩
theorem d2_65 : own_D prog_11_method_2_code 65 (.iload_n 2) 1 66 := ⟨by decide +kernel, rfl⟩
theorem d2_66 : own_B prog_11_method_2_code 66 (.if_icmp .ge 27) 27 69 93 := ⟨by decide +kernel, rfl, by decide, by decide⟩
theorem d2_69 : own_D prog_11_method_2_code 69 (.aload 4) 2 71 := ⟨by decide +kernel, rfl⟩
theorem d2_71 : own_D prog_11_method_2_code 71 (.aload_n 0) 1 72 := ⟨by decide +kernel, rfl⟩
theorem d2_72 : own_D prog_11_method_2_code 72 (.iload 8) 2 74 := ⟨by decide +kernel, rfl⟩
theorem d2_74 : own_D prog_11_method_2_code 74 (.laload) 1 75 := ⟨by decide +kernel, rfl⟩
theorem d2_75 : own_D prog_11_method_2_code 75 (.iload 6) 2 77 := ⟨by decide +kernel, rfl⟩
theorem d2_77 : own_D prog_11_method_2_code 77 (.iload 7) 2 79 := ⟨by decide +kernel, rfl⟩
theorem d2_79 : own_D prog_11_method_2_code 79 (.invokestatic 31) 3 82 := ⟨by decide +kernel, rfl⟩
theorem d2_82 : own_D prog_11_method_2_code 82 (.dup2) 1 83 := ⟨by decide +kernel, rfl⟩
theorem d2_83 : own_D prog_11_method_2_code 83 (.iaload) 1 84 := ⟨by decide +kernel, rfl⟩
theorem d2_84 : own_D prog_11_method_2_code 84 (.iconst 1) 1 85 := ⟨by decide +kernel, rfl⟩
theorem d2_85 : own_D prog_11_method_2_code 85 (.iadd) 1 86 := ⟨by decide +kernel, rfl⟩
theorem d2_86 : own_D prog_11_method_2_code 86 (.iastore) 1 87 := ⟨by decide +kernel, rfl⟩
theorem d2_87 : own_D prog_11_method_2_code 87 (.iinc 8 1) 3 90 := ⟨by decide +kernel, rfl⟩
theorem d2_90 : own_B prog_11_method_2_code 90 (.goto (-27)) (-27) 93 63 := ⟨by decide +kernel, rfl, by decide, by decide⟩
theorem d2_93 : own_D prog_11_method_2_code 93 (.iload_n 1) 1 94 := ⟨by decide +kernel, rfl⟩
theorem d2_94 : own_D prog_11_method_2_code 94 (.istore 8) 2 96 := ⟨by decide +kernel, rfl⟩
theorem d2_96 : own_D prog_11_method_2_code 96 (.iconst 0) 1 97 := ⟨by decide +kernel, rfl⟩
theorem d2_97 : own_D prog_11_method_2_code 97 (.istore 9) 2 99 := ⟨by decide +kernel, rfl⟩
theorem d2_99 : own_D prog_11_method_2_code 99 (.iload 9) 2 101 := ⟨by decide +kernel, rfl⟩
theorem d2_101 : own_D prog_11_method_2_code 101 (.iload 7) 2 103 := ⟨by decide +kernel, rfl⟩
theorem d2_103 : own_B prog_11_method_2_code 103 (.if_icmp .ge 40) 40 106 143 := ⟨by decide +kernel, rfl, by decide, by decide⟩
theorem d2_106 : own_D prog_11_method_2_code 106 (.iload 8) 2 108 := ⟨by decide +kernel, rfl⟩
theorem d2_108 : own_D prog_11_method_2_code 108 (.istore 10) 2 110 := ⟨by decide +kernel, rfl⟩
theorem d2_110 : own_D prog_11_method_2_code 110 (.iload 8) 2 112 := ⟨by decide +kernel, rfl⟩
theorem d2_112 : own_D prog_11_method_2_code 112 (.aload 4) 2 114 := ⟨by decide +kernel, rfl⟩
theorem d2_114 : own_D prog_11_method_2_code 114 (.iload 9) 2 116 := ⟨by decide +kernel, rfl⟩
theorem d2_116 : own_D prog_11_method_2_code 116 (.iaload) 1 117 := ⟨by decide +kernel, rfl⟩
theorem d2_117 : own_D prog_11_method_2_code 117 (.iadd) 1 118 := ⟨by decide +kernel, rfl⟩
theorem d2_118 : own_D prog_11_method_2_code 118 (.istore 8) 2 120 := ⟨by decide +kernel, rfl⟩
theorem d2_120 : own_D prog_11_method_2_code 120 (.aload 4) 2 122 := ⟨by decide +kernel, rfl⟩
theorem d2_122 : own_D prog_11_method_2_code 122 (.iload 9) 2 124 := ⟨by decide +kernel, rfl⟩
theorem d2_124 : own_D prog_11_method_2_code 124 (.iload 8) 2 126 := ⟨by decide +kernel, rfl⟩
theorem d2_126 : own_D prog_11_method_2_code 126 (.iastore) 1 127 := ⟨by decide +kernel, rfl⟩
theorem d2_127 : own_D prog_11_method_2_code 127 (.aload 4) 2 129 := ⟨by decide +kernel, rfl⟩
theorem d2_129 : own_D prog_11_method_2_code 129 (.iload 7) 2 131 := ⟨by decide +kernel, rfl⟩
theorem d2_131 : own_D prog_11_method_2_code 131 (.iload 9) 2 133 := ⟨by decide +kernel, rfl⟩
theorem d2_133 : own_D prog_11_method_2_code 133 (.iadd) 1 134 := ⟨by decide +kernel, rfl⟩
theorem d2_134 : own_D prog_11_method_2_code 134 (.iload 10) 2 136 := ⟨by decide +kernel, rfl⟩
theorem d2_136 : own_D prog_11_method_2_code 136 (.iastore) 1 137 := ⟨by decide +kernel, rfl⟩
theorem d2_137 : own_D prog_11_method_2_code 137 (.iinc 9 1) 3 140 := ⟨by decide +kernel, rfl⟩
theorem d2_140 : own_B prog_11_method_2_code 140 (.goto (-41)) (-41) 143 99 := ⟨by decide +kernel, rfl, by decide, by decide⟩
theorem d2_143 : own_D prog_11_method_2_code 143 (.aload_n 0) 1 144 := ⟨by decide +kernel, rfl⟩
theorem d2_144 : own_D prog_11_method_2_code 144 (.aload 4) 2 146 := ⟨by decide +kernel, rfl⟩
theorem d2_146 : own_D prog_11_method_2_code 146 (.iload 7) 2 148 := ⟨by decide +kernel, rfl⟩
theorem d2_148 : own_D prog_11_method_2_code 148 (.iload 6) 2 150 := ⟨by decide +kernel, rfl⟩
theorem d2_150 : own_D prog_11_method_2_code 150 (.invokestatic 35) 3 153 := ⟨by decide +kernel, rfl⟩
theorem d2_153 : own_D prog_11_method_2_code 153 (.iload 6) 2 155 := ⟨by decide +kernel, rfl⟩
theorem d2_155 : own_B prog_11_method_2_code 155 (.ifCond .le 13) 13 158 168 := ⟨by decide +kernel, rfl, by decide, by decide⟩
theorem d2_158 : own_D prog_11_method_2_code 158 (.aload_n 0) 1 159 := ⟨by decide +kernel, rfl⟩
theorem d2_159 : own_D prog_11_method_2_code 159 (.iload_n 1) 1 160 := ⟨by decide +kernel, rfl⟩
theorem d2_160 : own_D prog_11_method_2_code 160 (.iload_n 2) 1 161 := ⟨by decide +kernel, rfl⟩
theorem d2_161 : own_D prog_11_method_2_code 161 (.iload 6) 2 163 := ⟨by decide +kernel, rfl⟩
theorem d2_163 : own_D prog_11_method_2_code 163 (.aload 4) 2 165 := ⟨by decide +kernel, rfl⟩
theorem d2_165 : own_D prog_11_method_2_code 165 (.invokestatic 39) 3 168 := ⟨by decide +kernel, rfl⟩
theorem d2_168 : own_D prog_11_method_2_code 168 (.return_) 1 169 := ⟨by decide +kernel, rfl⟩
theorem d3_0 : own_D jdk_29_method_69_code 0 (.iload_n 0) 1 1 := ⟨by decide +kernel, rfl⟩
theorem d3_1 : own_D jdk_29_method_69_code 1 (.iload_n 1) 1 2 := ⟨by decide +kernel, rfl⟩
theorem d3_2 : own_B jdk_29_method_69_code 2 (.if_icmp .gt 7) 7 5 9 := ⟨by decide +kernel, rfl, by decide, by decide⟩
theorem d3_5 : own_D jdk_29_method_69_code 5 (.iload_n 0) 1 6 := ⟨by decide +kernel, rfl⟩
theorem d3_6 : own_B jdk_29_method_69_code 6 (.goto 4) 4 9 10 := ⟨by decide +kernel, rfl, by decide, by decide⟩
theorem d3_9 : own_D jdk_29_method_69_code 9 (.iload_n 1) 1 10 := ⟨by decide +kernel, rfl⟩
theorem d3_10 : own_D jdk_29_method_69_code 10 (.ireturn) 1 11 := ⟨by decide +kernel, rfl⟩
theorem d4_0 : own_D jdk_33_method_47_code 0 (.iload_n 0) 1 1 := ⟨by decide +kernel, rfl⟩
theorem d4_1 : own_B jdk_33_method_47_code 1 (.ifCond .gt 14) 14 4 15 := ⟨by decide +kernel, rfl, by decide, by decide⟩
theorem d4_15 : own_D jdk_33_method_47_code 15 (.bipush 31) 2 17 := ⟨by decide +kernel, rfl⟩
theorem d4_17 : own_D jdk_33_method_47_code 17 (.istore_n 1) 1 18 := ⟨by decide +kernel, rfl⟩
theorem d4_18 : own_D jdk_33_method_47_code 18 (.iload_n 0) 1 19 := ⟨by decide +kernel, rfl⟩
theorem d4_19 : own_D jdk_33_method_47_code 19 (.ldc_w 264) 3 22 := ⟨by decide +kernel, rfl⟩
theorem d4_22 : own_B jdk_33_method_47_code 22 (.if_icmp .lt 11) 11 25 33 := ⟨by decide +kernel, rfl, by decide, by decide⟩
theorem d4_33 : own_D jdk_33_method_47_code 33 (.iload_n 0) 1 34 := ⟨by decide +kernel, rfl⟩
theorem d4_34 : own_D jdk_33_method_47_code 34 (.sipush 256) 3 37 := ⟨by decide +kernel, rfl⟩
theorem d4_37 : own_B jdk_33_method_47_code 37 (.if_icmp .lt 11) 11 40 48 := ⟨by decide +kernel, rfl, by decide, by decide⟩
theorem d4_48 : own_D jdk_33_method_47_code 48 (.iload_n 0) 1 49 := ⟨by decide +kernel, rfl⟩
theorem d4_49 : own_D jdk_33_method_47_code 49 (.bipush 16) 2 51 := ⟨by decide +kernel, rfl⟩
theorem d4_51 : own_B jdk_33_method_47_code 51 (.if_icmp .lt 10) 10 54 61 := ⟨by decide +kernel, rfl, by decide, by decide⟩
theorem d4_54 : own_D jdk_33_method_47_code 54 (.iinc 1 (-4)) 3 57 := ⟨by decide +kernel, rfl⟩
theorem d4_57 : own_D jdk_33_method_47_code 57 (.iload_n 0) 1 58 := ⟨by decide +kernel, rfl⟩
theorem d4_58 : own_D jdk_33_method_47_code 58 (.iconst 4) 1 59 := ⟨by decide +kernel, rfl⟩
theorem d4_59 : own_D jdk_33_method_47_code 59 (.iushr) 1 60 := ⟨by decide +kernel, rfl⟩
theorem d4_60 : own_D jdk_33_method_47_code 60 (.istore_n 0) 1 61 := ⟨by decide +kernel, rfl⟩
theorem d4_61 : own_D jdk_33_method_47_code 61 (.iload_n 0) 1 62 := ⟨by decide +kernel, rfl⟩
theorem d4_62 : own_D jdk_33_method_47_code 62 (.iconst 4) 1 63 := ⟨by decide +kernel, rfl⟩
theorem d4_63 : own_B jdk_33_method_47_code 63 (.if_icmp .lt 10) 10 66 73 := ⟨by decide +kernel, rfl, by decide, by decide⟩
theorem d4_73 : own_D jdk_33_method_47_code 73 (.iload_n 1) 1 74 := ⟨by decide +kernel, rfl⟩
theorem d4_74 : own_D jdk_33_method_47_code 74 (.iload_n 0) 1 75 := ⟨by decide +kernel, rfl⟩
theorem d4_75 : own_D jdk_33_method_47_code 75 (.iconst 1) 1 76 := ⟨by decide +kernel, rfl⟩
theorem d4_76 : own_D jdk_33_method_47_code 76 (.iushr) 1 77 := ⟨by decide +kernel, rfl⟩
theorem d4_77 : own_D jdk_33_method_47_code 77 (.isub) 1 78 := ⟨by decide +kernel, rfl⟩
theorem d4_78 : own_D jdk_33_method_47_code 78 (.ireturn) 1 79 := ⟨by decide +kernel, rfl⟩
theorem d5_0 : own_D jdk_65_method_104_code 0 (.aload_n 0) 1 1 := ⟨by decide +kernel, rfl⟩
theorem d5_1 : own_D jdk_65_method_104_code 1 (.arraylength) 1 2 := ⟨by decide +kernel, rfl⟩
theorem d5_2 : own_D jdk_65_method_104_code 2 (.iload_n 1) 1 3 := ⟨by decide +kernel, rfl⟩
theorem d5_3 : own_D jdk_65_method_104_code 3 (.iload_n 2) 1 4 := ⟨by decide +kernel, rfl⟩
theorem d5_4 : own_D jdk_65_method_104_code 4 (.invokestatic 13) 3 7 := ⟨by decide +kernel, rfl⟩
theorem d5_7 : own_D jdk_65_method_104_code 7 (.iload_n 1) 1 8 := ⟨by decide +kernel, rfl⟩
theorem d5_8 : own_D jdk_65_method_104_code 8 (.istore 4) 2 10 := ⟨by decide +kernel, rfl⟩
theorem d5_10 : own_D jdk_65_method_104_code 10 (.iload 4) 2 12 := ⟨by decide +kernel, rfl⟩
theorem d5_12 : own_D jdk_65_method_104_code 12 (.iload_n 2) 1 13 := ⟨by decide +kernel, rfl⟩
theorem d5_13 : own_B jdk_65_method_104_code 13 (.if_icmp .ge 14) 14 16 27 := ⟨by decide +kernel, rfl, by decide, by decide⟩
theorem d5_16 : own_D jdk_65_method_104_code 16 (.aload_n 0) 1 17 := ⟨by decide +kernel, rfl⟩
theorem d5_17 : own_D jdk_65_method_104_code 17 (.iload 4) 2 19 := ⟨by decide +kernel, rfl⟩
theorem d5_19 : own_D jdk_65_method_104_code 19 (.iload_n 3) 1 20 := ⟨by decide +kernel, rfl⟩
theorem d5_20 : own_D jdk_65_method_104_code 20 (.iastore) 1 21 := ⟨by decide +kernel, rfl⟩
theorem d5_21 : own_D jdk_65_method_104_code 21 (.iinc 4 1) 3 24 := ⟨by decide +kernel, rfl⟩
theorem d5_24 : own_B jdk_65_method_104_code 24 (.goto (-14)) (-14) 27 10 := ⟨by decide +kernel, rfl, by decide, by decide⟩
theorem d5_27 : own_D jdk_65_method_104_code 27 (.return_) 1 28 := ⟨by decide +kernel, rfl⟩
theorem d6_0 : own_D jdk_65_method_30_code 0 (.iload_n 1) 1 1 := ⟨by decide +kernel, rfl⟩
theorem d6_1 : own_D jdk_65_method_30_code 1 (.iload_n 2) 1 2 := ⟨by decide +kernel, rfl⟩
theorem d6_2 : own_B jdk_65_method_30_code 2 (.if_icmp .le 44) 44 5 46 := ⟨by decide +kernel, rfl, by decide, by decide⟩
theorem d6_46 : own_D jdk_65_method_30_code 46 (.iload_n 1) 1 47 := ⟨by decide +kernel, rfl⟩
theorem d6_47 : own_B jdk_65_method_30_code 47 (.ifCond .ge 12) 12 50 59 := ⟨by decide +kernel, rfl, by decide, by decide⟩
theorem d6_59 : own_D jdk_65_method_30_code 59 (.iload_n 2) 1 60 := ⟨by decide +kernel, rfl⟩
theorem d6_60 : own_D jdk_65_method_30_code 60 (.iload_n 0) 1 61 := ⟨by decide +kernel, rfl⟩
theorem d6_61 : own_B jdk_65_method_30_code 61 (.if_icmp .le 12) 12 64 73 := ⟨by decide +kernel, rfl, by decide, by decide⟩
theorem d6_73 : own_D jdk_65_method_30_code 73 (.return_) 1 74 := ⟨by decide +kernel, rfl⟩
theorem d7_0 : own_D prog_11_method_5_code 0 (.lload_n 0) 1 1 := ⟨by decide +kernel, rfl⟩
theorem d7_1 : own_D prog_11_method_5_code 1 (.iload_n 2) 1 2 := ⟨by decide +kernel, rfl⟩
theorem d7_2 : own_D prog_11_method_5_code 2 (.lushr) 1 3 := ⟨by decide +kernel, rfl⟩
theorem d7_3 : own_D prog_11_method_5_code 3 (.l2i) 1 4 := ⟨by decide +kernel, rfl⟩
theorem d7_4 : own_D prog_11_method_5_code 4 (.iload_n 3) 1 5 := ⟨by decide +kernel, rfl⟩
theorem d7_5 : own_D prog_11_method_5_code 5 (.iconst 1) 1 6 := ⟨by decide +kernel, rfl⟩
theorem d7_6 : own_D prog_11_method_5_code 6 (.isub) 1 7 := ⟨by decide +kernel, rfl⟩
theorem d7_7 : own_D prog_11_method_5_code 7 (.iand) 1 8 := ⟨by decide +kernel, rfl⟩
theorem d7_8 : own_D prog_11_method_5_code 8 (.ireturn) 1 9 := ⟨by decide +kernel, rfl⟩
theorem d8_0 : own_D prog_11_method_3_code 0 (.iconst 0) 1 1 := ⟨by decide +kernel, rfl⟩
theorem d8_1 : own_D prog_11_method_3_code 1 (.istore 4) 2 3 := ⟨by decide +kernel, rfl⟩
theorem d8_3 : own_D prog_11_method_3_code 3 (.iload 4) 2 5 := ⟨by decide +kernel, rfl⟩
theorem d8_5 : own_D prog_11_method_3_code 5 (.iload_n 2) 1 6 := ⟨by decide +kernel, rfl⟩
theorem d8_6 : own_B prog_11_method_3_code 6 (.if_icmp .ge 112) 112 9 118 := ⟨by decide +kernel, rfl, by decide, by decide⟩
theorem d8_9 : own_D prog_11_method_3_code 9 (.aload_n 1) 1 10 := ⟨by decide +kernel, rfl⟩
theorem d8_10 : own_D prog_11_method_3_code 10 (.iload_n 2) 1 11 := ⟨by decide +kernel, rfl⟩
theorem d8_11 : own_D prog_11_method_3_code 11 (.iload 4) 2 13 := ⟨by decide +kernel, rfl⟩
theorem d8_13 : own_D prog_11_method_3_code 13 (.iadd) 1 14 := ⟨by decide +kernel, rfl⟩
theorem d8_14 : own_D prog_11_method_3_code 14 (.iaload) 1 15 := ⟨by decide +kernel, rfl⟩
theorem d8_15 : own_D prog_11_method_3_code 15 (.aload_n 1) 1 16 := ⟨by decide +kernel, rfl⟩
theorem d8_16 : own_D prog_11_method_3_code 16 (.iload 4) 2 18 := ⟨by decide +kernel, rfl⟩
theorem d8_18 : own_D prog_11_method_3_code 18 (.iaload) 1 19 := ⟨by decide +kernel, rfl⟩
theorem d8_19 : own_B prog_11_method_3_code 19 (.if_icmp .ge 93) 93 22 112 := ⟨by decide +kernel, rfl, by decide, by decide⟩
theorem d8_22 : own_D prog_11_method_3_code 22 (.aload_n 1) 1 23 := ⟨by decide +kernel, rfl⟩
theorem d8_23 : own_D prog_11_method_3_code 23 (.iload_n 2) 1 24 := ⟨by decide +kernel, rfl⟩
theorem d8_24 : own_D prog_11_method_3_code 24 (.iload 4) 2 26 := ⟨by decide +kernel, rfl⟩
theorem d8_26 : own_D prog_11_method_3_code 26 (.iadd) 1 27 := ⟨by decide +kernel, rfl⟩
theorem d8_27 : own_D prog_11_method_3_code 27 (.iaload) 1 28 := ⟨by decide +kernel, rfl⟩
theorem d8_28 : own_D prog_11_method_3_code 28 (.istore 5) 2 30 := ⟨by decide +kernel, rfl⟩
theorem d8_30 : own_D prog_11_method_3_code 30 (.aload_n 0) 1 31 := ⟨by decide +kernel, rfl⟩
theorem d8_31 : own_D prog_11_method_3_code 31 (.iload 5) 2 33 := ⟨by decide +kernel, rfl⟩
theorem d8_33 : own_D prog_11_method_3_code 33 (.laload) 1 34 := ⟨by decide +kernel, rfl⟩
theorem d8_34 : own_D prog_11_method_3_code 34 (.lstore 6) 2 36 := ⟨by decide +kernel, rfl⟩
theorem d8_36 : own_D prog_11_method_3_code 36 (.lload 6) 2 38 := ⟨by decide +kernel, rfl⟩
theorem d8_38 : own_D prog_11_method_3_code 38 (.iload_n 3) 1 39 := ⟨by decide +kernel, rfl⟩
theorem d8_39 : own_D prog_11_method_3_code 39 (.iload_n 2) 1 40 := ⟨by decide +kernel, rfl⟩
theorem d8_40 : own_D prog_11_method_3_code 40 (.invokestatic 31) 3 43 := ⟨by decide +kernel, rfl⟩
theorem d8_43 : own_D prog_11_method_3_code 43 (.istore 8) 2 45 := ⟨by decide +kernel, rfl⟩
theorem d8_45 : own_D prog_11_method_3_code 45 (.iload 8) 2 47 := ⟨by decide +kernel, rfl⟩
theorem d8_47 : own_D prog_11_method_3_code 47 (.iload 4) 2 49 := ⟨by decide +kernel, rfl⟩
theorem d8_49 : own_B prog_11_method_3_code 49 (.if_icmp .eq 44) 44 52 93 := ⟨by decide +kernel, rfl, by decide, by decide⟩
theorem d8_52 : own_D prog_11_method_3_code 52 (.aload_n 1) 1 53 := ⟨by decide +kernel, rfl⟩
theorem d8_53 : own_D prog_11_method_3_code 53 (.iload_n 2) 1 54 := ⟨by decide +kernel, rfl⟩
theorem d8_54 : own_D prog_11_method_3_code 54 (.iload 8) 2 56 := ⟨by decide +kernel, rfl⟩
theorem d8_56 : own_D prog_11_method_3_code 56 (.iadd) 1 57 := ⟨by decide +kernel, rfl⟩
theorem d8_57 : own_D prog_11_method_3_code 57 (.dup2) 1 58 := ⟨by decide +kernel, rfl⟩
theorem d8_58 : own_D prog_11_method_3_code 58 (.iaload) 1 59 := ⟨by decide +kernel, rfl⟩
theorem d8_59 : own_D prog_11_method_3_code 59 (.dup_x2) 1 60 := ⟨by decide +kernel, rfl⟩
theorem d8_60 : own_D prog_11_method_3_code 60 (.iconst 1) 1 61 := ⟨by decide +kernel, rfl⟩
theorem d8_61 : own_D prog_11_method_3_code 61 (.iadd) 1 62 := ⟨by decide +kernel, rfl⟩
theorem d8_62 : own_D prog_11_method_3_code 62 (.iastore) 1 63 := ⟨by decide +kernel, rfl⟩
theorem d8_63 : own_D prog_11_method_3_code 63 (.istore 9) 2 65 := ⟨by decide +kernel, rfl⟩
theorem d8_65 : own_D prog_11_method_3_code 65 (.aload_n 0) 1 66 := ⟨by decide +kernel, rfl⟩
theorem d8_66 : own_D prog_11_method_3_code 66 (.iload 9) 2 68 := ⟨by decide +kernel, rfl⟩
theorem d8_68 : own_D prog_11_method_3_code 68 (.laload) 1 69 := ⟨by decide +kernel, rfl⟩
theorem d8_69 : own_D prog_11_method_3_code 69 (.lstore 10) 2 71 := ⟨by decide +kernel, rfl⟩
theorem d8_71 : own_D prog_11_method_3_code 71 (.aload_n 0) 1 72 := ⟨by decide +kernel, rfl⟩
theorem d8_72 : own_D prog_11_method_3_code 72 (.iload 9) 2 74 := ⟨by decide +kernel, rfl⟩
theorem d8_74 : own_D prog_11_method_3_code 74 (.lload 6) 2 76 := ⟨by decide +kernel, rfl⟩
theorem d8_76 : own_D prog_11_method_3_code 76 (.lastore) 1 77 := ⟨by decide +kernel, rfl⟩
theorem d8_77 : own_D prog_11_method_3_code 77 (.lload 10) 2 79 := ⟨by decide +kernel, rfl⟩
theorem d8_79 : own_D prog_11_method_3_code 79 (.lstore 6) 2 81 := ⟨by decide +kernel, rfl⟩
theorem d8_81 : own_D prog_11_method_3_code 81 (.lload 6) 2 83 := ⟨by decide +kernel, rfl⟩
theorem d8_83 : own_D prog_11_method_3_code 83 (.iload_n 3) 1 84 := ⟨by decide +kernel, rfl⟩
theorem d8_84 : own_D prog_11_method_3_code 84 (.iload_n 2) 1 85 := ⟨by decide +kernel, rfl⟩
theorem d8_85 : own_D prog_11_method_3_code 85 (.invokestatic 31) 3 88 := ⟨by decide +kernel, rfl⟩
theorem d8_88 : own_D prog_11_method_3_code 88 (.istore 8) 2 90 := ⟨by decide +kernel, rfl⟩
theorem d8_90 : own_B prog_11_method_3_code 90 (.goto (-45)) (-45) 93 45 := ⟨by decide +kernel, rfl, by decide, by decide⟩
theorem d8_93 : own_D prog_11_method_3_code 93 (.aload_n 0) 1 94 := ⟨by decide +kernel, rfl⟩
theorem d8_94 : own_D prog_11_method_3_code 94 (.iload 5) 2 96 := ⟨by decide +kernel, rfl⟩
theorem d8_96 : own_D prog_11_method_3_code 96 (.lload 6) 2 98 := ⟨by decide +kernel, rfl⟩
theorem d8_98 : own_D prog_11_method_3_code 98 (.lastore) 1 99 := ⟨by decide +kernel, rfl⟩
theorem d8_99 : own_D prog_11_method_3_code 99 (.aload_n 1) 1 100 := ⟨by decide +kernel, rfl⟩
theorem d8_100 : own_D prog_11_method_3_code 100 (.iload_n 2) 1 101 := ⟨by decide +kernel, rfl⟩
theorem d8_101 : own_D prog_11_method_3_code 101 (.iload 4) 2 103 := ⟨by decide +kernel, rfl⟩
theorem d8_103 : own_D prog_11_method_3_code 103 (.iadd) 1 104 := ⟨by decide +kernel, rfl⟩
theorem d8_104 : own_D prog_11_method_3_code 104 (.dup2) 1 105 := ⟨by decide +kernel, rfl⟩
theorem d8_105 : own_D prog_11_method_3_code 105 (.iaload) 1 106 := ⟨by decide +kernel, rfl⟩
theorem d8_106 : own_D prog_11_method_3_code 106 (.iconst 1) 1 107 := ⟨by decide +kernel, rfl⟩
theorem d8_107 : own_D prog_11_method_3_code 107 (.iadd) 1 108 := ⟨by decide +kernel, rfl⟩
theorem d8_108 : own_D prog_11_method_3_code 108 (.iastore) 1 109 := ⟨by decide +kernel, rfl⟩
theorem d8_109 : own_B prog_11_method_3_code 109 (.goto (-100)) (-100) 112 9 := ⟨by decide +kernel, rfl, by decide, by decide⟩
theorem d8_112 : own_D prog_11_method_3_code 112 (.iinc 4 1) 3 115 := ⟨by decide +kernel, rfl⟩
theorem d8_115 : own_B prog_11_method_3_code 115 (.goto (-112)) (-112) 118 3 := ⟨by decide +kernel, rfl, by decide, by decide⟩
theorem d8_118 : own_D prog_11_method_3_code 118 (.return_) 1 119 := ⟨by decide +kernel, rfl⟩
theorem d9_0 : own_D jdk_29_method_70_code 0 (.lload_n 0) 1 1 := ⟨by decide +kernel, rfl⟩
theorem d9_1 : own_D jdk_29_method_70_code 1 (.lload_n 2) 1 2 := ⟨by decide +kernel, rfl⟩
theorem d9_2 : own_D jdk_29_method_70_code 2 (.lcmp) 1 3 := ⟨by decide +kernel, rfl⟩
theorem d9_3 : own_B jdk_29_method_70_code 3 (.ifCond .gt 7) 7 6 10 := ⟨by decide +kernel, rfl, by decide, by decide⟩
theorem d9_6 : own_D jdk_29_method_70_code 6 (.lload_n 0) 1 7 := ⟨by decide +kernel, rfl⟩
theorem d9_7 : own_B jdk_29_method_70_code 7 (.goto 4) 4 10 11 := ⟨by decide +kernel, rfl, by decide, by decide⟩
theorem d9_10 : own_D jdk_29_method_70_code 10 (.lload_n 2) 1 11 := ⟨by decide +kernel, rfl⟩
theorem d9_11 : own_D jdk_29_method_70_code 11 (.lreturn) 1 12 := ⟨by decide +kernel, rfl⟩
theorem d10_0 : own_D jdk_29_method_66_code 0 (.lload_n 0) 1 1 := ⟨by decide +kernel, rfl⟩
theorem d10_1 : own_D jdk_29_method_66_code 1 (.lload_n 2) 1 2 := ⟨by decide +kernel, rfl⟩
theorem d10_2 : own_D jdk_29_method_66_code 2 (.lcmp) 1 3 := ⟨by decide +kernel, rfl⟩
theorem d10_3 : own_B jdk_29_method_66_code 3 (.ifCond .lt 7) 7 6 10 := ⟨by decide +kernel, rfl, by decide, by decide⟩
theorem d10_6 : own_D jdk_29_method_66_code 6 (.lload_n 0) 1 7 := ⟨by decide +kernel, rfl⟩
theorem d10_7 : own_B jdk_29_method_66_code 7 (.goto 4) 4 10 11 := ⟨by decide +kernel, rfl, by decide, by decide⟩
theorem d10_10 : own_D jdk_29_method_66_code 10 (.lload_n 2) 1 11 := ⟨by decide +kernel, rfl⟩
theorem d10_11 : own_D jdk_29_method_66_code 11 (.lreturn) 1 12 := ⟨by decide +kernel, rfl⟩
theorem d11_0 : own_D method_4_code 0 (.aload_n 0) 1 1 := ⟨by decide +kernel, rfl⟩
theorem d11_1 : own_D method_4_code 1 (.iload_n 1) 1 2 := ⟨by decide +kernel, rfl⟩
theorem d11_2 : own_D method_4_code 2 (.laload) 1 3 := ⟨by decide +kernel, rfl⟩
theorem d11_3 : own_D method_4_code 3 (.lload_n 2) 1 4 := ⟨by decide +kernel, rfl⟩
theorem d11_4 : own_D method_4_code 4 (.lcmp) 1 5 := ⟨by decide +kernel, rfl⟩
theorem d11_5 : own_B method_4_code 5 (.ifCond .ne 90) 90 8 95 := ⟨by decide +kernel, rfl, by decide, by decide⟩
theorem d11_8 : own_D method_4_code 8 (.aload_n 0) 1 9 := ⟨by decide +kernel, rfl⟩
theorem d11_9 : own_D method_4_code 9 (.iload_n 1) 1 10 := ⟨by decide +kernel, rfl⟩
theorem d11_10 : own_D method_4_code 10 (.iconst 1) 1 11 := ⟨by decide +kernel, rfl⟩
theorem d11_11 : own_D method_4_code 11 (.iadd) 1 12 := ⟨by decide +kernel, rfl⟩
theorem d11_12 : own_D method_4_code 12 (.laload) 1 13 := ⟨by decide +kernel, rfl⟩
theorem d11_13 : own_D method_4_code 13 (.lload_n 2) 1 14 := ⟨by decide +kernel, rfl⟩
theorem d11_14 : own_D method_4_code 14 (.lcmp) 1 15 := ⟨by decide +kernel, rfl⟩
theorem d11_15 : own_B method_4_code 15 (.ifCond .ne 80) 80 18 95 := ⟨by decide +kernel, rfl, by decide, by decide⟩
theorem d11_18 : own_D method_4_code 18 (.aload_n 0) 1 19 := ⟨by decide +kernel, rfl⟩
theorem d11_19 : own_D method_4_code 19 (.iload_n 1) 1 20 := ⟨by decide +kernel, rfl⟩
theorem d11_20 : own_D method_4_code 20 (.iconst 2) 1 21 := ⟨by decide +kernel, rfl⟩
theorem d11_21 : own_D method_4_code 21 (.iadd) 1 22 := ⟨by decide +kernel, rfl⟩
theorem d11_22 : own_D method_4_code 22 (.laload) 1 23 := ⟨by decide +kernel, rfl⟩
theorem d11_23 : own_D method_4_code 23 (.lload_n 2) 1 24 := ⟨by decide +kernel, rfl⟩
theorem d11_24 : own_D method_4_code 24 (.lcmp) 1 25 := ⟨by decide +kernel, rfl⟩
theorem d11_25 : own_B method_4_code 25 (.ifCond .ne 70) 70 28 95 := ⟨by decide +kernel, rfl, by decide, by decide⟩
theorem d11_28 : own_D method_4_code 28 (.aload_n 0) 1 29 := ⟨by decide +kernel, rfl⟩
theorem d11_29 : own_D method_4_code 29 (.iload_n 1) 1 30 := ⟨by decide +kernel, rfl⟩
theorem d11_30 : own_D method_4_code 30 (.iconst 3) 1 31 := ⟨by decide +kernel, rfl⟩
theorem d11_31 : own_D method_4_code 31 (.iadd) 1 32 := ⟨by decide +kernel, rfl⟩
theorem d11_32 : own_D method_4_code 32 (.laload) 1 33 := ⟨by decide +kernel, rfl⟩
theorem d11_33 : own_D method_4_code 33 (.lload_n 2) 1 34 := ⟨by decide +kernel, rfl⟩
theorem d11_34 : own_D method_4_code 34 (.lcmp) 1 35 := ⟨by decide +kernel, rfl⟩
theorem d11_35 : own_B method_4_code 35 (.ifCond .ne 60) 60 38 95 := ⟨by decide +kernel, rfl, by decide, by decide⟩
theorem d11_38 : own_D method_4_code 38 (.aload_n 0) 1 39 := ⟨by decide +kernel, rfl⟩
theorem d11_39 : own_D method_4_code 39 (.iload_n 1) 1 40 := ⟨by decide +kernel, rfl⟩
theorem d11_40 : own_D method_4_code 40 (.iconst 4) 1 41 := ⟨by decide +kernel, rfl⟩
theorem d11_41 : own_D method_4_code 41 (.iadd) 1 42 := ⟨by decide +kernel, rfl⟩
theorem d11_42 : own_D method_4_code 42 (.laload) 1 43 := ⟨by decide +kernel, rfl⟩
theorem d11_43 : own_D method_4_code 43 (.lload_n 2) 1 44 := ⟨by decide +kernel, rfl⟩
theorem d11_44 : own_D method_4_code 44 (.lcmp) 1 45 := ⟨by decide +kernel, rfl⟩
theorem d11_45 : own_B method_4_code 45 (.ifCond .ne 50) 50 48 95 := ⟨by decide +kernel, rfl, by decide, by decide⟩
theorem d11_48 : own_D method_4_code 48 (.aload_n 0) 1 49 := ⟨by decide +kernel, rfl⟩
theorem d11_49 : own_D method_4_code 49 (.iload_n 1) 1 50 := ⟨by decide +kernel, rfl⟩
theorem d11_50 : own_D method_4_code 50 (.iconst 5) 1 51 := ⟨by decide +kernel, rfl⟩
theorem d11_51 : own_D method_4_code 51 (.iadd) 1 52 := ⟨by decide +kernel, rfl⟩
theorem d11_52 : own_D method_4_code 52 (.laload) 1 53 := ⟨by decide +kernel, rfl⟩
theorem d11_53 : own_D method_4_code 53 (.lload_n 2) 1 54 := ⟨by decide +kernel, rfl⟩
theorem d11_54 : own_D method_4_code 54 (.lcmp) 1 55 := ⟨by decide +kernel, rfl⟩
theorem d11_55 : own_B method_4_code 55 (.ifCond .ne 40) 40 58 95 := ⟨by decide +kernel, rfl, by decide, by decide⟩
theorem d11_58 : own_D method_4_code 58 (.aload_n 0) 1 59 := ⟨by decide +kernel, rfl⟩
theorem d11_59 : own_D method_4_code 59 (.iload_n 1) 1 60 := ⟨by decide +kernel, rfl⟩
theorem d11_60 : own_D method_4_code 60 (.bipush 6) 2 62 := ⟨by decide +kernel, rfl⟩
theorem d11_62 : own_D method_4_code 62 (.iadd) 1 63 := ⟨by decide +kernel, rfl⟩
theorem d11_63 : own_D method_4_code 63 (.laload) 1 64 := ⟨by decide +kernel, rfl⟩
theorem d11_64 : own_D method_4_code 64 (.lload_n 2) 1 65 := ⟨by decide +kernel, rfl⟩
theorem d11_65 : own_D method_4_code 65 (.lcmp) 1 66 := ⟨by decide +kernel, rfl⟩
theorem d11_66 : own_B method_4_code 66 (.ifCond .ne 29) 29 69 95 := ⟨by decide +kernel, rfl, by decide, by decide⟩
theorem d11_69 : own_D method_4_code 69 (.aload_n 0) 1 70 := ⟨by decide +kernel, rfl⟩
theorem d11_70 : own_D method_4_code 70 (.iload_n 1) 1 71 := ⟨by decide +kernel, rfl⟩
theorem d11_71 : own_D method_4_code 71 (.bipush 7) 2 73 := ⟨by decide +kernel, rfl⟩
theorem d11_73 : own_D method_4_code 73 (.iadd) 1 74 := ⟨by decide +kernel, rfl⟩
theorem d11_74 : own_D method_4_code 74 (.laload) 1 75 := ⟨by decide +kernel, rfl⟩
theorem d11_75 : own_D method_4_code 75 (.lload_n 2) 1 76 := ⟨by decide +kernel, rfl⟩
theorem d11_76 : own_D method_4_code 76 (.lcmp) 1 77 := ⟨by decide +kernel, rfl⟩
theorem d11_77 : own_B method_4_code 77 (.ifCond .ne 18) 18 80 95 := ⟨by decide +kernel, rfl, by decide, by decide⟩
theorem d11_80 : own_D method_4_code 80 (.aload_n 0) 1 81 := ⟨by decide +kernel, rfl⟩
theorem d11_81 : own_D method_4_code 81 (.iload_n 1) 1 82 := ⟨by decide +kernel, rfl⟩
theorem d11_82 : own_D method_4_code 82 (.bipush 8) 2 84 := ⟨by decide +kernel, rfl⟩
theorem d11_84 : own_D method_4_code 84 (.iadd) 1 85 := ⟨by decide +kernel, rfl⟩
theorem d11_85 : own_D method_4_code 85 (.laload) 1 86 := ⟨by decide +kernel, rfl⟩
theorem d11_86 : own_D method_4_code 86 (.lload_n 2) 1 87 := ⟨by decide +kernel, rfl⟩
theorem d11_87 : own_D method_4_code 87 (.lcmp) 1 88 := ⟨by decide +kernel, rfl⟩
theorem d11_88 : own_B method_4_code 88 (.ifCond .ne 7) 7 91 95 := ⟨by decide +kernel, rfl, by decide, by decide⟩
theorem d11_91 : own_D method_4_code 91 (.iconst 1) 1 92 := ⟨by decide +kernel, rfl⟩
theorem d11_92 : own_B method_4_code 92 (.goto 4) 4 95 96 := ⟨by decide +kernel, rfl, by decide, by decide⟩
theorem d11_96 : own_D method_4_code 96 (.ireturn) 1 97 := ⟨by decide +kernel, rfl⟩
theorem d12_0 : own_D prog_11_method_4_code 0 (.iload_n 1) 1 1 := ⟨by decide +kernel, rfl⟩
theorem d12_1 : own_D prog_11_method_4_code 1 (.istore 5) 2 3 := ⟨by decide +kernel, rfl⟩
theorem d12_3 : own_D prog_11_method_4_code 3 (.iload 5) 2 5 := ⟨by decide +kernel, rfl⟩
theorem d12_5 : own_D prog_11_method_4_code 5 (.iload_n 2) 1 6 := ⟨by decide +kernel, rfl⟩
theorem d12_6 : own_B prog_11_method_4_code 6 (.if_icmp .ge 68) 68 9 74 := ⟨by decide +kernel, rfl, by decide, by decide⟩
theorem d12_9 : own_D prog_11_method_4_code 9 (.aload_n 0) 1 10 := ⟨by decide +kernel, rfl⟩
theorem d12_10 : own_D prog_11_method_4_code 10 (.iload 5) 2 12 := ⟨by decide +kernel, rfl⟩
theorem d12_12 : own_D prog_11_method_4_code 12 (.laload) 1 13 := ⟨by decide +kernel, rfl⟩
theorem d12_13 : own_D prog_11_method_4_code 13 (.iload_n 3) 1 14 := ⟨by decide +kernel, rfl⟩
theorem d12_14 : own_D prog_11_method_4_code 14 (.lushr) 1 15 := ⟨by decide +kernel, rfl⟩
theorem d12_15 : own_D prog_11_method_4_code 15 (.lstore 6) 2 17 := ⟨by decide +kernel, rfl⟩
theorem d12_17 : own_D prog_11_method_4_code 17 (.iload 5) 2 19 := ⟨by decide +kernel, rfl⟩
theorem d12_19 : own_D prog_11_method_4_code 19 (.iconst 1) 1 20 := ⟨by decide +kernel, rfl⟩
theorem d12_20 : own_D prog_11_method_4_code 20 (.iadd) 1 21 := ⟨by decide +kernel, rfl⟩
theorem d12_21 : own_D prog_11_method_4_code 21 (.istore 8) 2 23 := ⟨by decide +kernel, rfl⟩
theorem d12_23 : own_D prog_11_method_4_code 23 (.iload 8) 2 25 := ⟨by decide +kernel, rfl⟩
theorem d12_25 : own_D prog_11_method_4_code 25 (.iload_n 2) 1 26 := ⟨by decide +kernel, rfl⟩
theorem d12_26 : own_B prog_11_method_4_code 26 (.if_icmp .ge 21) 21 29 47 := ⟨by decide +kernel, rfl, by decide, by decide⟩
theorem d12_29 : own_D prog_11_method_4_code 29 (.aload_n 0) 1 30 := ⟨by decide +kernel, rfl⟩
theorem d12_30 : own_D prog_11_method_4_code 30 (.iload 8) 2 32 := ⟨by decide +kernel, rfl⟩
theorem d12_32 : own_D prog_11_method_4_code 32 (.laload) 1 33 := ⟨by decide +kernel, rfl⟩
theorem d12_33 : own_D prog_11_method_4_code 33 (.iload_n 3) 1 34 := ⟨by decide +kernel, rfl⟩
theorem d12_34 : own_D prog_11_method_4_code 34 (.lushr) 1 35 := ⟨by decide +kernel, rfl⟩
theorem d12_35 : own_D prog_11_method_4_code 35 (.lload 6) 2 37 := ⟨by decide +kernel, rfl⟩
theorem d12_37 : own_D prog_11_method_4_code 37 (.lcmp) 1 38 := ⟨by decide +kernel, rfl⟩
theorem d12_38 : own_B prog_11_method_4_code 38 (.ifCond .ne 9) 9 41 47 := ⟨by decide +kernel, rfl, by decide, by decide⟩
theorem d12_41 : own_D prog_11_method_4_code 41 (.iinc 8 1) 3 44 := ⟨by decide +kernel, rfl⟩
theorem d12_44 : own_B prog_11_method_4_code 44 (.goto (-21)) (-21) 47 23 := ⟨by decide +kernel, rfl, by decide, by decide⟩
theorem d12_47 : own_D prog_11_method_4_code 47 (.iload 8) 2 49 := ⟨by decide +kernel, rfl⟩
theorem d12_49 : own_D prog_11_method_4_code 49 (.iload 5) 2 51 := ⟨by decide +kernel, rfl⟩
theorem d12_51 : own_D prog_11_method_4_code 51 (.isub) 1 52 := ⟨by decide +kernel, rfl⟩
theorem d12_52 : own_D prog_11_method_4_code 52 (.iconst 1) 1 53 := ⟨by decide +kernel, rfl⟩
theorem d12_53 : own_B prog_11_method_4_code 53 (.if_icmp .le 14) 14 56 67 := ⟨by decide +kernel, rfl, by decide, by decide⟩
theorem d12_56 : own_D prog_11_method_4_code 56 (.aload_n 0) 1 57 := ⟨by decide +kernel, rfl⟩
theorem d12_57 : own_D prog_11_method_4_code 57 (.iload 5) 2 59 := ⟨by decide +kernel, rfl⟩
theorem d12_59 : own_D prog_11_method_4_code 59 (.iload 8) 2 61 := ⟨by decide +kernel, rfl⟩
theorem d12_61 : own_D prog_11_method_4_code 61 (.iload_n 3) 1 62 := ⟨by decide +kernel, rfl⟩
theorem d12_62 : own_D prog_11_method_4_code 62 (.aload 4) 2 64 := ⟨by decide +kernel, rfl⟩
theorem d12_64 : own_D prog_11_method_4_code 64 (.invokestatic 43) 3 67 := ⟨by decide +kernel, rfl⟩
theorem d12_67 : own_D prog_11_method_4_code 67 (.iload 8) 2 69 := ⟨by decide +kernel, rfl⟩
theorem d12_69 : own_D prog_11_method_4_code 69 (.istore 5) 2 71 := ⟨by decide +kernel, rfl⟩
theorem d12_71 : own_B prog_11_method_4_code 71 (.goto (-68)) (-68) 74 3 := ⟨by decide +kernel, rfl, by decide, by decide⟩
theorem d12_74 : own_D prog_11_method_4_code 74 (.return_) 1 75 := ⟨by decide +kernel, rfl⟩
theorem d13_0 : own_D prog_11_method_6_code 0 (.iload_n 1) 1 1 := ⟨by decide +kernel, rfl⟩
theorem d13_1 : own_D prog_11_method_6_code 1 (.iconst 1) 1 2 := ⟨by decide +kernel, rfl⟩
theorem d13_2 : own_D prog_11_method_6_code 2 (.iadd) 1 3 := ⟨by decide +kernel, rfl⟩
theorem d13_3 : own_D prog_11_method_6_code 3 (.istore_n 3) 1 4 := ⟨by decide +kernel, rfl⟩
theorem d13_4 : own_D prog_11_method_6_code 4 (.iload_n 3) 1 5 := ⟨by decide +kernel, rfl⟩
theorem d13_5 : own_D prog_11_method_6_code 5 (.iload_n 2) 1 6 := ⟨by decide +kernel, rfl⟩
theorem d13_6 : own_B prog_11_method_6_code 6 (.if_icmp .ge 57) 57 9 63 := ⟨by decide +kernel, rfl, by decide, by decide⟩
theorem d13_9 : own_D prog_11_method_6_code 9 (.aload_n 0) 1 10 := ⟨by decide +kernel, rfl⟩
theorem d13_10 : own_D prog_11_method_6_code 10 (.iload_n 3) 1 11 := ⟨by decide +kernel, rfl⟩
theorem d13_11 : own_D prog_11_method_6_code 11 (.laload) 1 12 := ⟨by decide +kernel, rfl⟩
theorem d13_12 : own_D prog_11_method_6_code 12 (.lstore 4) 2 14 := ⟨by decide +kernel, rfl⟩
theorem d13_14 : own_D prog_11_method_6_code 14 (.iload_n 3) 1 15 := ⟨by decide +kernel, rfl⟩
theorem d13_15 : own_D prog_11_method_6_code 15 (.istore 6) 2 17 := ⟨by decide +kernel, rfl⟩
theorem d13_17 : own_D prog_11_method_6_code 17 (.iload 6) 2 19 := ⟨by decide +kernel, rfl⟩
theorem d13_19 : own_D prog_11_method_6_code 19 (.iload_n 1) 1 20 := ⟨by decide +kernel, rfl⟩
theorem d13_20 : own_B prog_11_method_6_code 20 (.if_icmp .le 31) 31 23 51 := ⟨by decide +kernel, rfl, by decide, by decide⟩
theorem d13_23 : own_D prog_11_method_6_code 23 (.aload_n 0) 1 24 := ⟨by decide +kernel, rfl⟩
theorem d13_24 : own_D prog_11_method_6_code 24 (.iload 6) 2 26 := ⟨by decide +kernel, rfl⟩
theorem d13_26 : own_D prog_11_method_6_code 26 (.iconst 1) 1 27 := ⟨by decide +kernel, rfl⟩
theorem d13_27 : own_D prog_11_method_6_code 27 (.isub) 1 28 := ⟨by decide +kernel, rfl⟩
theorem d13_28 : own_D prog_11_method_6_code 28 (.laload) 1 29 := ⟨by decide +kernel, rfl⟩
theorem d13_29 : own_D prog_11_method_6_code 29 (.lload 4) 2 31 := ⟨by decide +kernel, rfl⟩
theorem d13_31 : own_D prog_11_method_6_code 31 (.lcmp) 1 32 := ⟨by decide +kernel, rfl⟩
theorem d13_32 : own_B prog_11_method_6_code 32 (.ifCond .le 19) 19 35 51 := ⟨by decide +kernel, rfl, by decide, by decide⟩
theorem d13_35 : own_D prog_11_method_6_code 35 (.aload_n 0) 1 36 := ⟨by decide +kernel, rfl⟩
theorem d13_36 : own_D prog_11_method_6_code 36 (.iload 6) 2 38 := ⟨by decide +kernel, rfl⟩
theorem d13_38 : own_D prog_11_method_6_code 38 (.aload_n 0) 1 39 := ⟨by decide +kernel, rfl⟩
theorem d13_39 : own_D prog_11_method_6_code 39 (.iload 6) 2 41 := ⟨by decide +kernel, rfl⟩
theorem d13_41 : own_D prog_11_method_6_code 41 (.iconst 1) 1 42 := ⟨by decide +kernel, rfl⟩
theorem d13_42 : own_D prog_11_method_6_code 42 (.isub) 1 43 := ⟨by decide +kernel, rfl⟩
theorem d13_43 : own_D prog_11_method_6_code 43 (.laload) 1 44 := ⟨by decide +kernel, rfl⟩
theorem d13_44 : own_D prog_11_method_6_code 44 (.lastore) 1 45 := ⟨by decide +kernel, rfl⟩
theorem d13_45 : own_D prog_11_method_6_code 45 (.iinc 6 (-1)) 3 48 := ⟨by decide +kernel, rfl⟩
theorem d13_48 : own_B prog_11_method_6_code 48 (.goto (-31)) (-31) 51 17 := ⟨by decide +kernel, rfl, by decide, by decide⟩
theorem d13_51 : own_D prog_11_method_6_code 51 (.aload_n 0) 1 52 := ⟨by decide +kernel, rfl⟩
theorem d13_52 : own_D prog_11_method_6_code 52 (.iload 6) 2 54 := ⟨by decide +kernel, rfl⟩
theorem d13_54 : own_D prog_11_method_6_code 54 (.lload 4) 2 56 := ⟨by decide +kernel, rfl⟩
theorem d13_56 : own_D prog_11_method_6_code 56 (.lastore) 1 57 := ⟨by decide +kernel, rfl⟩
theorem d13_57 : own_D prog_11_method_6_code 57 (.iinc 3 1) 3 60 := ⟨by decide +kernel, rfl⟩
theorem d13_60 : own_B prog_11_method_6_code 60 (.goto (-56)) (-56) 63 4 := ⟨by decide +kernel, rfl, by decide, by decide⟩
theorem d13_63 : own_D prog_11_method_6_code 63 (.return_) 1 64 := ⟨by decide +kernel, rfl⟩
theorem own_pd1 : parseMethodDescriptor "([JIJJJJ)V" = some ⟨[(.array .long), .int, .long, .long, .long, .long], none⟩ := by decide +kernel
theorem own_pd2 : parseMethodDescriptor "([JIII[I)V" = some ⟨[(.array .long), .int, .int, .int, (.array .int)], none⟩ := by decide +kernel
theorem own_pd3 : parseMethodDescriptor "(II)I" = some ⟨[.int, .int], some .int⟩ := by decide +kernel
theorem own_pd4 : parseMethodDescriptor "(I)I" = some ⟨[.int], some .int⟩ := by decide +kernel
theorem own_pd5 : parseMethodDescriptor "([IIII)V" = some ⟨[(.array .int), .int, .int, .int], none⟩ := by decide +kernel
theorem own_pd6 : parseMethodDescriptor "(III)V" = some ⟨[.int, .int, .int], none⟩ := by decide +kernel
theorem own_pd7 : parseMethodDescriptor "(JII)I" = some ⟨[.long, .int, .int], some .int⟩ := by decide +kernel
theorem own_pd8 : parseMethodDescriptor "([J[III)V" = some ⟨[(.array .long), (.array .int), .int, .int], none⟩ := by decide +kernel
theorem own_pd9 : parseMethodDescriptor "(JJ)J" = some ⟨[.long, .long], some .long⟩ := by decide +kernel
theorem own_pd10 : parseMethodDescriptor "(JJ)J" = some ⟨[.long, .long], some .long⟩ := by decide +kernel
theorem own_pd11 : parseMethodDescriptor "([JIJ)Z" = some ⟨[(.array .long), .int, .long], some .boolean⟩ := by decide +kernel
theorem own_pd12 : parseMethodDescriptor "([JIII[I)V" = some ⟨[(.array .long), .int, .int, .int, (.array .int)], none⟩ := by decide +kernel
theorem own_pd13 : parseMethodDescriptor "([JII)V" = some ⟨[(.array .long), .int, .int], none⟩ := by decide +kernel
theorem own_pl0 : plainFor (⟨"com/example/rank_keeper/rankkeeper/RadixSortSortPinLaw", "law", "(JJJJJI)Z"⟩ : MethodName) = true := plainFor_of_name (by first | (simp [plainName, overriddenIn]; done) | decide +kernel)
theorem own_pl1 : plainFor (⟨"com/example/rank_keeper/rankkeeper/RadixSortSortPinLaw", "put", "([JIJJJJ)V"⟩ : MethodName) = true := plainFor_of_name (by first | (simp [plainName, overriddenIn]; done) | decide +kernel)
theorem own_pl2 : plainFor (⟨"com/example/rank_keeper/rankkeeper/RadixSort", "sort", "([JIII[I)V"⟩ : MethodName) = true := plainFor_of_name (by first | (simp [plainName, overriddenIn]; done) | decide +kernel)
theorem own_pl3 : plainFor (⟨"java/lang/Math", "min", "(II)I"⟩ : MethodName) = true := Jvm.Free.JP.mathPlain rfl (by decide +kernel)
theorem own_pl4 : plainFor (⟨"java/lang/Integer", "numberOfLeadingZeros", "(I)I"⟩ : MethodName) = true := plainFor_of_name (by first | (simp [plainName, overriddenIn]; done) | decide +kernel)
theorem own_pl5 : plainFor (⟨"java/util/Arrays", "fill", "([IIII)V"⟩ : MethodName) = true := plainFor_of_name (by first | (simp [plainName, overriddenIn]; done) | decide +kernel)
theorem own_pl6 : plainFor (⟨"java/util/Arrays", "rangeCheck", "(III)V"⟩ : MethodName) = true := plainFor_of_name (by first | (simp [plainName, overriddenIn]; done) | decide +kernel)
theorem own_pl7 : plainFor (⟨"com/example/rank_keeper/rankkeeper/RadixSort", "digit", "(JII)I"⟩ : MethodName) = true := plainFor_of_name (by first | (simp [plainName, overriddenIn]; done) | decide +kernel)
theorem own_pl8 : plainFor (⟨"com/example/rank_keeper/rankkeeper/RadixSort", "place", "([J[III)V"⟩ : MethodName) = true := plainFor_of_name (by first | (simp [plainName, overriddenIn]; done) | decide +kernel)
theorem own_pl9 : plainFor (⟨"java/lang/Math", "min", "(JJ)J"⟩ : MethodName) = true := Jvm.Free.JP.mathPlain rfl (by decide +kernel)
theorem own_pl10 : plainFor (⟨"java/lang/Math", "max", "(JJ)J"⟩ : MethodName) = true := Jvm.Free.JP.mathPlain rfl (by decide +kernel)
theorem own_pl11 : plainFor (⟨"com/example/rank_keeper/rankkeeper/RadixSortSortPinLaw", "run", "([JIJ)Z"⟩ : MethodName) = true := plainFor_of_name (by first | (simp [plainName, overriddenIn]; done) | decide +kernel)
theorem own_pl12 : plainFor (⟨"com/example/rank_keeper/rankkeeper/RadixSort", "sortBuckets", "([JIII[I)V"⟩ : MethodName) = true := plainFor_of_name (by first | (simp [plainName, overriddenIn]; done) | decide +kernel)
theorem own_pl13 : plainFor (⟨"com/example/rank_keeper/rankkeeper/RadixSort", "insertionSort", "([JII)V"⟩ : MethodName) = true := plainFor_of_name (by first | (simp [plainName, overriddenIn]; done) | decide +kernel)
/-! plain Lean: segments of lists of longs -/
abbrev own_g (xs : List Int64) (i : Nat) : Int64 := xs.getD i 0
theorem own_gset {xs : List Int64} {i j : Nat} {x : Int64} (h : i < xs.length) : own_g (xs.set i x) j = if j = i then x else own_g xs j := by
  simp only [own_g, List.getD_eq_getElem?_getD, List.getElem?_set]
  by_cases e : i = j
  · subst e; simp [h]
  · rw [if_neg e, if_neg (fun q => e q.symm)]
theorem own_get {xs : List Int64} {i : Nat} (h : i < xs.length) : xs[i]? = some (own_g xs i) := by
  simp [own_g, List.getD_eq_getElem?_getD, List.getElem?_eq_getElem h]
def own_P (xs ys : List Int64) (lo hi : Nat) : Prop := ys.Perm xs ∧ ∀ i, (i < lo ∨ hi ≤ i) → own_g ys i = own_g xs i
theorem own_P.refl (xs : List Int64) (lo hi : Nat) : own_P xs xs lo hi := ⟨List.Perm.refl _, fun _ _ => rfl⟩
theorem own_P.trans {xs ys zs : List Int64} {lo hi : Nat} (A : own_P xs ys lo hi) (B : own_P ys zs lo hi) : own_P xs zs lo hi := ⟨B.1.trans A.1, fun i q => (B.2 i q).trans (A.2 i q)⟩
theorem own_P.mono {xs ys : List Int64} {lo hi lo' hi' : Nat} (A : own_P xs ys lo hi) (h1 : lo' ≤ lo) (h2 : hi ≤ hi') : own_P xs ys lo' hi' := ⟨A.1, fun i q => A.2 i (by omega)⟩
theorem own_P.len {xs ys : List Int64} {lo hi : Nat} (A : own_P xs ys lo hi) : ys.length = xs.length := A.1.length_eq
theorem own_swapP {xs : List Int64} {i j : Nat} (hi : i < xs.length) (hj : j < xs.length) (hne : i ≠ j) : ((xs.set i (own_g xs j)).set j (own_g xs i)).Perm xs := by
  have ei : xs[i] = own_g xs i := by have := own_get hi; rw [List.getElem?_eq_getElem hi] at this; exact Option.some.inj this
  have ej : xs[j] = own_g xs j := by have := own_get hj; rw [List.getElem?_eq_getElem hj] at this; exact Option.some.inj this
  rw [List.perm_iff_count]
  intro a
  rw [List.count_set (by simpa using hj), List.count_set hi]
  have e2 : (xs.set i (own_g xs j))[j]'(by simpa using hj) = own_g xs j := by rw [List.getElem_set_ne hne]; exact ej
  rw [e2, ei]
  have c1 : ∀ k (hk : k < xs.length), (xs[k] == a) = true → 1 ≤ List.count a xs := fun k hk q => by
    rw [beq_iff_eq] at q; subst q
    exact List.count_pos_iff.mpr (List.getElem_mem hk)
  have c1i := c1 i hi
  rw [ei] at c1i
  have hA : (if (own_g xs i == a) = true then 1 else 0) ≤ List.count a xs := by
    split
    · rename_i q; exact c1i q
    · exact Nat.zero_le _
  generalize (if (own_g xs i == a) = true then 1 else 0) = A at hA ⊢
  generalize (if (own_g xs j == a) = true then 1 else 0) = B
  omega
theorem own_P.swap {xs ys : List Int64} {lo hi i j : Nat} (A : own_P xs ys lo hi) (hi1 : lo ≤ i) (hi2 : i < hi) (hj1 : lo ≤ j) (hj2 : j < hi) (hl : hi ≤ ys.length) (hne : i ≠ j) : own_P xs ((ys.set i (own_g ys j)).set j (own_g ys i)) lo hi := by
  refine ⟨(own_swapP (by omega) (by omega) hne).trans A.1, fun k hk => ?_⟩
  rw [own_gset (by simp; omega), own_gset (by omega), if_neg (by omega), if_neg (by omega)]
  exact A.2 k hk
def own_seg (xs : List Int64) (lo hi : Nat) : List Int64 := (xs.drop lo).take (hi - lo)
theorem own_seg.len {xs : List Int64} {lo hi : Nat} (h : hi ≤ xs.length) : (own_seg xs lo hi).length = hi - lo := by simp [own_seg]; omega
theorem own_seg.at {xs : List Int64} {lo hi k : Nat} (hk : k < hi - lo) : (own_seg xs lo hi)[k]? = xs[lo + k]? := by simp [own_seg, List.getElem?_take, hk]
theorem own_seg.perm {xs ys : List Int64} {lo hi : Nat} (A : own_P xs ys lo hi) (h : lo ≤ hi) (h2 : hi ≤ xs.length) : (own_seg ys lo hi).Perm (own_seg xs lo hi) := by
  have hl := A.len
  have sp : ∀ zs : List Int64, zs = zs.take lo ++ (own_seg zs lo hi ++ zs.drop hi) := fun zs => by
    have e1 : zs.drop hi = (zs.drop lo).drop (hi - lo) := by rw [List.drop_drop]; congr 1; omega
    rw [own_seg, e1, List.take_append_drop, List.take_append_drop]
  have ea : ys.take lo = xs.take lo := by
    apply List.ext_getElem?
    intro k
    simp only [List.getElem?_take]
    split
    · rename_i q; rw [own_get (by omega), own_get (by omega), A.2 k (Or.inl q)]
    · rfl
  have eb : ys.drop hi = xs.drop hi := by
    apply List.ext_getElem?
    intro k
    simp only [List.getElem?_drop]
    by_cases q : hi + k < xs.length
    · rw [own_get (by omega), own_get (by omega), A.2 _ (Or.inr (by omega))]
    · rw [List.getElem?_eq_none (by omega), List.getElem?_eq_none (by omega)]
  have q := A.1
  rw [sp ys, sp xs, ea, eb, List.perm_append_left_iff, List.perm_append_right_iff] at q
  exact q
theorem own_seg.mem {xs : List Int64} {lo hi : Nat} (h2 : hi ≤ xs.length) {x : Int64} : x ∈ own_seg xs lo hi ↔ ∃ i, lo ≤ i ∧ i < hi ∧ own_g xs i = x := by
  constructor
  · intro q
    obtain ⟨k, hk⟩ := List.mem_iff_getElem?.mp q
    have hk1 : k < hi - lo := by have := (List.getElem?_eq_some_iff.mp hk).1; rw [own_seg.len h2] at this; exact this
    rw [own_seg.at hk1, own_get (by omega)] at hk
    exact ⟨lo + k, by omega, by omega, Option.some.inj hk⟩
  · rintro ⟨i, h1, h3, rfl⟩
    refine List.mem_iff_getElem?.mpr ⟨i - lo, ?_⟩
    rw [own_seg.at (by omega), show lo + (i - lo) = i by omega]
    exact own_get (by omega)
theorem own_P.all {xs ys : List Int64} {lo hi : Nat} (A : own_P xs ys lo hi) (h : lo ≤ hi) (h2 : hi ≤ xs.length) {p : Int64 → Prop} (hp : ∀ i, lo ≤ i → i < hi → p (own_g xs i)) : ∀ i, lo ≤ i → i < hi → p (own_g ys i) := by
  intro i h1 h3
  have q : own_g ys i ∈ own_seg xs lo hi := (own_seg.perm A h h2).mem_iff.mp ((own_seg.mem (by rw [A.len]; exact h2)).mpr ⟨i, h1, h3, rfl⟩)
  obtain ⟨j, j1, j2, e⟩ := (own_seg.mem h2).mp q
  rw [← e]; exact hp j j1 j2
/-- how many in the segment -/
def own_n (p : Int64 → Bool) (xs : List Int64) (lo hi : Nat) : Nat := (own_seg xs lo hi).countP p
theorem own_n.perm {p : Int64 → Bool} {xs ys : List Int64} {lo hi : Nat} (A : own_P xs ys lo hi) (h : lo ≤ hi) (h2 : hi ≤ xs.length) : own_n p ys lo hi = own_n p xs lo hi := (own_seg.perm A h h2).countP_eq p
theorem own_n.split {p : Int64 → Bool} {xs : List Int64} {lo mi hi : Nat} (h : lo ≤ mi) (h2 : mi ≤ hi) : own_n p xs lo hi = own_n p xs lo mi + own_n p xs mi hi := by
  have e : own_seg xs lo hi = own_seg xs lo mi ++ own_seg xs mi hi := by
    simp only [own_seg]
    rw [show hi - lo = (mi - lo) + (hi - mi) by omega, List.take_add, List.drop_drop, show lo + (mi - lo) = mi by omega]
  rw [own_n, e, List.countP_append]; rfl
theorem own_n.one {p : Int64 → Bool} {xs : List Int64} {i : Nat} (h : i < xs.length) : own_n p xs i (i + 1) = if p (own_g xs i) = true then 1 else 0 := by
  have e : own_seg xs i (i + 1) = [own_g xs i] := by
    apply List.ext_getElem?
    intro k
    by_cases q : k = 0
    · subst q; rw [own_seg.at (by omega)]; simpa using own_get h
    · rw [List.getElem?_eq_none (by rw [own_seg.len (by omega)]; omega), List.getElem?_eq_none (by simp; omega)]
  rw [own_n, e]
  by_cases q : p (own_g xs i) = true <;> simp [List.countP_cons, q]
theorem own_n.full {p : Int64 → Bool} {xs : List Int64} {lo hi : Nat} (h2 : hi ≤ xs.length) (hp : ∀ i, lo ≤ i → i < hi → p (own_g xs i) = true) : own_n p xs lo hi = hi - lo := by
  rw [own_n, ← own_seg.len (xs := xs) (lo := lo) h2]
  refine List.countP_eq_length.mpr fun a ha => ?_
  obtain ⟨i, i1, i2, rfl⟩ := (own_seg.mem h2).mp ha
  exact hp i i1 i2
theorem own_n.pos {p : Int64 → Bool} {xs : List Int64} {lo hi i : Nat} (h2 : hi ≤ xs.length) (h1 : lo ≤ i) (h3 : i < hi) (hp : p (own_g xs i) = true) : 1 ≤ own_n p xs lo hi :=
  List.countP_pos_iff.mpr ⟨_, (own_seg.mem h2).mpr ⟨i, h1, h3, rfl⟩, hp⟩
/-- a full stretch and one more -/
theorem own_n.more {p : Int64 → Bool} {xs : List Int64} {lo hi s t i : Nat} (h2 : hi ≤ xs.length) (h1 : lo ≤ s) (h3 : s ≤ t) (h4 : t ≤ hi) (hp : ∀ k, s ≤ k → k < t → p (own_g xs k) = true) (hi1 : lo ≤ i) (hi2 : i < hi) (hout : i < s ∨ t ≤ i) (hpi : p (own_g xs i) = true) : t - s + 1 ≤ own_n p xs lo hi := by
  rw [own_n.split (mi := s) h1 (by omega), own_n.split (lo := s) (mi := t) h3 h4, own_n.full (lo := s) (hi := t) (by omega) hp]
  rcases hout with q | q
  · have := own_n.pos (p := p) (lo := lo) (hi := s) (by omega) hi1 q hpi; omega
  · have := own_n.pos (p := p) (lo := t) (hi := hi) h2 q hi2 hpi; omega
/-- sorted between -/
def own_S (xs : List Int64) (lo hi : Nat) : Prop := ∀ i j, lo ≤ i → i < j → j < hi → (own_g xs i).toInt ≤ (own_g xs j).toInt

/-! plain Lean: the buckets of a pass -/
section OwnB
variable {xs us : List Int64} {lo hi B : Nat} {dg : Int64 → Nat} {N : Nat → Nat}
/-- where bucket b begins -/
def own_bg (dg : Int64 → Nat) (xs : List Int64) (lo hi b : Nat) : Nat := lo + own_n (fun x => decide (dg x < b)) xs lo hi
theorem own_bg.zero : own_bg dg xs lo hi 0 = lo := by simp [own_bg, own_n]
theorem own_bg.succ (b : Nat) : own_bg dg xs lo hi (b + 1) = own_bg dg xs lo hi b + own_n (fun x => decide (dg x = b)) xs lo hi := by
  have e : ∀ l : List Int64, l.countP (fun x => decide (dg x < b + 1)) = l.countP (fun x => decide (dg x < b)) + l.countP (fun x => decide (dg x = b)) := by
    intro l
    induction l with
    | nil => rfl
    | cons x t ih =>
      simp only [List.countP_cons, ih]
      by_cases h1 : dg x < b
      · simp [h1, show dg x < b + 1 by omega, show dg x ≠ b by omega]; omega
      · by_cases h2 : dg x = b
        · simp [h2]; omega
        · simp [h1, h2, show ¬ dg x < b + 1 by omega]
  simp only [own_bg, own_n, e]; omega
theorem own_bg.mono {b c : Nat} (h : b ≤ c) : own_bg dg xs lo hi b ≤ own_bg dg xs lo hi c := by
  induction c with
  | zero => have : b = 0 := by omega
            subst this; exact Nat.le_refl _
  | succ c ih =>
    by_cases q : b = c + 1
    · subst q; exact Nat.le_refl _
    · rw [own_bg.succ]; have := ih (by omega); omega
theorem own_bg.last (h : lo ≤ hi) (h2 : hi ≤ xs.length) (hd : ∀ i, lo ≤ i → i < hi → dg (own_g xs i) < B) : own_bg dg xs lo hi B = hi := by
  rw [own_bg, own_n.full h2 (fun i h1 h3 => decide_eq_true (hd i h1 h3))]; omega
theorem own_bg.le (h : lo ≤ hi) (h2 : hi ≤ xs.length) (hd : ∀ i, lo ≤ i → i < hi → dg (own_g xs i) < B) {b : Nat} (hb : b ≤ B) : own_bg dg xs lo hi b ≤ hi := Nat.le_trans (own_bg.mono hb) (Nat.le_of_eq (own_bg.last h h2 hd))
theorem own_bg.ge (b : Nat) : lo ≤ own_bg dg xs lo hi b := Nat.le_add_right _ _
/-- the invariant of 'place' -/
def own_I (dg : Int64 → Nat) (B : Nat) (xs : List Int64) (lo hi : Nat) (us : List Int64) (N : Nat → Nat) : Prop :=
  (own_P xs us lo hi) ∧
  (∀ b, b < B → own_bg dg xs lo hi b ≤ N b) ∧
  (∀ b, b < B → N b ≤ own_bg dg xs lo hi (b + 1)) ∧
  (∀ b, b < B → ∀ i, own_bg dg xs lo hi b ≤ i → i < N b → dg (own_g us i) = b)
theorem own_I.p {dg : Int64 → Nat} {B : Nat} {xs : List Int64} {lo hi : Nat} {us : List Int64} {N : Nat → Nat} (I : own_I dg B xs lo hi us N) : own_P xs us lo hi := I.1
theorem own_I.n1 {dg : Int64 → Nat} {B : Nat} {xs : List Int64} {lo hi : Nat} {us : List Int64} {N : Nat → Nat} (I : own_I dg B xs lo hi us N) : ∀ b, b < B → own_bg dg xs lo hi b ≤ N b := I.2.1
theorem own_I.n2 {dg : Int64 → Nat} {B : Nat} {xs : List Int64} {lo hi : Nat} {us : List Int64} {N : Nat → Nat} (I : own_I dg B xs lo hi us N) : ∀ b, b < B → N b ≤ own_bg dg xs lo hi (b + 1) := I.2.2.1
theorem own_I.d {dg : Int64 → Nat} {B : Nat} {xs : List Int64} {lo hi : Nat} {us : List Int64} {N : Nat → Nat} (I : own_I dg B xs lo hi us N) : ∀ b, b < B → ∀ i, own_bg dg xs lo hi b ≤ i → i < N b → dg (own_g us i) = b := I.2.2.2
def own_up (N : Nat → Nat) (k : Nat) : Nat → Nat := fun b => if b = k then N b + 1 else N b
theorem own_up.self (N : Nat → Nat) (k : Nat) : own_up N k k = N k + 1 := by simp [own_up]
theorem own_up.other {N : Nat → Nat} {k b : Nat} (h : b ≠ k) : own_up N k b = N b := by simp [own_up, h]
/-- two buckets' stretches lie apart -/
theorem own_apart {b c i : Nat} (h : b ≠ c) (h1 : own_bg dg xs lo hi b ≤ i) (h2 : i < own_bg dg xs lo hi (b + 1)) : i < own_bg dg xs lo hi c ∨ own_bg dg xs lo hi (c + 1) ≤ i := by
  by_cases q : b < c
  · left; exact Nat.lt_of_lt_of_le h2 (own_bg.mono q)
  · right; exact Nat.le_trans (own_bg.mono (show c + 1 ≤ b by omega)) h1
theorem own_I.room (I : own_I dg B xs lo hi us N) (h : lo ≤ hi) (hl : hi ≤ xs.length) (hd : ∀ i, lo ≤ i → i < hi → dg (own_g xs i) < B) {bk hm : Nat} (hb : bk < B) (hat : N bk < own_bg dg xs lo hi (bk + 1)) (hm' : dg (own_g us (N bk)) = hm) (hne : hm ≠ bk) : hm < B ∧ N hm < own_bg dg xs lo hi (hm + 1) ∧ N hm ≠ N bk := by
  have a1 := I.n1 bk hb
  have a2 : lo ≤ N bk := Nat.le_trans (own_bg.ge _) a1
  have a3 : N bk < hi := Nat.lt_of_lt_of_le hat (own_bg.le h hl hd (by omega))
  have hB : hm < B := by rw [← hm']; exact I.p.all (p := fun x => dg x < B) h hl hd _ a2 a3
  have hus : hi ≤ us.length := by rw [I.p.len]; exact hl
  have ap := own_apart (xs := xs) (lo := lo) (hi := hi) (dg := dg) (b := bk) (c := hm) (Ne.symm hne) a1 hat
  have b1 := I.n1 hm hB; have b2 := I.n2 hm hB
  have c1 := own_n.more (p := fun x => decide (dg x = hm)) (xs := us) (lo := lo) (hi := hi) (s := own_bg dg xs lo hi hm) (t := N hm) (i := N bk) hus (own_bg.ge _) b1 (Nat.le_trans b2 (own_bg.le h hl hd (by omega))) (fun k k1 k2 => decide_eq_true (I.d hm hB k k1 k2)) a2 a3 (by omega) (decide_eq_true hm')
  rw [own_n.perm I.p h hl] at c1
  have c2 := own_bg.succ (dg := dg) (xs := xs) (lo := lo) (hi := hi) hm
  refine ⟨hB, by omega, by omega⟩
theorem own_I.step (I : own_I dg B xs lo hi us N) (h : lo ≤ hi) (hl : hi ≤ xs.length) (hd : ∀ i, lo ≤ i → i < hi → dg (own_g xs i) < B) {bk hm : Nat} (hb : bk < B) (hat : N bk < own_bg dg xs lo hi (bk + 1)) (hm' : dg (own_g us (N bk)) = hm) (hne : hm ≠ bk) :
    own_I dg B xs lo hi ((us.set (N hm) (own_g us (N bk))).set (N bk) (own_g us (N hm))) (own_up N hm) := by
  obtain ⟨hB, r1, r2⟩ := I.room h hl hd hb hat hm' hne
  have hus : us.length = xs.length := I.p.len
  have a1 := I.n1 bk hb; have b1 := I.n1 hm hB
  have a2 : lo ≤ N bk := Nat.le_trans (own_bg.ge _) a1
  have a3 : N bk < hi := Nat.lt_of_lt_of_le hat (own_bg.le h hl hd (by omega))
  have b2 : lo ≤ N hm := Nat.le_trans (own_bg.ge _) b1
  have b3 : N hm < hi := Nat.lt_of_lt_of_le r1 (own_bg.le h hl hd (by omega))
  refine ⟨I.p.swap b2 b3 a2 a3 (by omega) r2, fun b hb' => ?_, fun b hb' => ?_, fun b hb' i i1 i2 => ?_⟩
  · by_cases q : b = hm
    · subst q; rw [own_up.self]; have := I.n1 b hb'; omega
    · rw [own_up.other q]; exact I.n1 b hb'
  · by_cases q : b = hm
    · subst q; rw [own_up.self]; omega
    · rw [own_up.other q]; exact I.n2 b hb'
  · rw [own_gset (by simp; omega), own_gset (by omega)]
    have n2 := I.n2 b hb'
    by_cases q : b = hm
    · subst q
      rw [own_up.self] at i2
      have ap := own_apart (xs := xs) (lo := lo) (hi := hi) (dg := dg) (b := bk) (c := b) (Ne.symm hne) a1 hat
      rw [if_neg (by omega)]
      by_cases e : i = N b
      · rw [if_pos e]; exact hm'
      · rw [if_neg e]; exact I.d b hb' i i1 (by omega)
    · rw [own_up.other q] at i2
      have ap := own_apart (xs := xs) (lo := lo) (hi := hi) (dg := dg) (b := hm) (c := b) (Ne.symm q) b1 r1
      have e1 : i ≠ N bk := by
        by_cases z : b = bk
        · subst z; omega
        · have ap2 := own_apart (xs := xs) (lo := lo) (hi := hi) (dg := dg) (b := bk) (c := b) (Ne.symm z) a1 hat; omega
      rw [if_neg e1, if_neg (by omega)]
      exact I.d b hb' i i1 i2
theorem own_I.close (I : own_I dg B xs lo hi us N) {bk : Nat} (hb : bk < B) (hat : N bk < own_bg dg xs lo hi (bk + 1)) (hm' : dg (own_g us (N bk)) = bk) : own_I dg B xs lo hi us (own_up N bk) := by
  refine ⟨I.p, fun b hb' => ?_, fun b hb' => ?_, fun b hb' i i1 i2 => ?_⟩
  · by_cases q : b = bk
    · subst q; rw [own_up.self]; have := I.n1 b hb'; omega
    · rw [own_up.other q]; exact I.n1 b hb'
  · by_cases q : b = bk
    · subst q; rw [own_up.self]; omega
    · rw [own_up.other q]; exact I.n2 b hb'
  · by_cases q : b = bk
    · subst q
      rw [own_up.self] at i2
      by_cases e : i = N b
      · subst e; exact hm'
      · exact I.d b hb' i i1 (by omega)
    · rw [own_up.other q] at i2; exact I.d b hb' i i1 i2
/-- how much is left to place -/
def own_M (dg : Int64 → Nat) (B : Nat) (xs : List Int64) (lo hi : Nat) (N : Nat → Nat) : Nat := ((List.range B).map fun b => own_bg dg xs lo hi (b + 1) - N b).sum
theorem own_sum {f g : Nat → Nat} {k : Nat} (he : ∀ b, b ≠ k → f b = g b) (h0 : f k + 1 = g k) (B : Nat) (hk : k < B) : ((List.range B).map f).sum + 1 = ((List.range B).map g).sum := by
  induction B with
  | zero => omega
  | succ B ih =>
    rw [List.range_succ, List.map_append, List.map_append, List.sum_append, List.sum_append]
    by_cases q : k = B
    · subst q
      have e : (List.range k).map f = (List.range k).map g := List.map_congr_left fun b hb => he b (by rw [List.mem_range] at hb; omega)
      rw [e]; simp; omega
    · have := ih (by omega)
      have e := he B (fun z => q z.symm)
      simp; omega
theorem own_M.up {k : Nat} (hk : k < B) (h : N k < own_bg dg xs lo hi (k + 1)) : own_M dg B xs lo hi (own_up N k) + 1 = own_M dg B xs lo hi N := by
  refine own_sum (k := k) (fun b hb => ?_) ?_ B hk
  · rw [own_up.other hb]
  · rw [own_up.self]; omega
/-- the end of 'place': ascending digits -/
theorem own_I.done (I : own_I dg B xs lo hi us N) (h : lo ≤ hi) (hl : hi ≤ xs.length) (hd : ∀ i, lo ≤ i → i < hi → dg (own_g xs i) < B) (hN : ∀ b, b < B → N b = own_bg dg xs lo hi (b + 1)) : ∀ i j, lo ≤ i → i ≤ j → j < hi → dg (own_g us i) ≤ dg (own_g us j) := by
  have cov : ∀ i, lo ≤ i → ∀ b, i < own_bg dg xs lo hi b → ∃ c, c < b ∧ own_bg dg xs lo hi c ≤ i ∧ i < own_bg dg xs lo hi (c + 1) := by
    intro i i1 b
    induction b with
    | zero => rw [own_bg.zero]; omega
    | succ b ih =>
      intro q
      by_cases z : i < own_bg dg xs lo hi b
      · obtain ⟨c, c1, c2⟩ := ih z; exact ⟨c, by omega, c2⟩
      · exact ⟨b, by omega, by omega, q⟩
  have lk : ∀ i, lo ≤ i → i < hi → ∃ c, c < B ∧ own_bg dg xs lo hi c ≤ i ∧ i < own_bg dg xs lo hi (c + 1) ∧ dg (own_g us i) = c := by
    intro i i1 i2
    obtain ⟨c, c1, c2, c3⟩ := cov i i1 B (by rw [own_bg.last h hl hd]; exact i2)
    exact ⟨c, c1, c2, c3, I.d c c1 i c2 (by rw [hN c c1]; exact c3)⟩
  intro i j i1 i2 i3
  obtain ⟨c, c1, c2, c3, c4⟩ := lk i i1 (by omega)
  obtain ⟨e, e1, e2, e3, e4⟩ := lk j (by omega) i3
  rw [c4, e4]
  apply Nat.le_of_not_lt
  intro q
  have := own_bg.mono (dg := dg) (xs := xs) (lo := lo) (hi := hi) (show e + 1 ≤ c by omega)
  omega
theorem own_I.start (h : lo ≤ hi) (hl : hi ≤ xs.length) : own_I dg B xs lo hi xs (own_bg dg xs lo hi) := ⟨own_P.refl _ _ _, fun _ _ => Nat.le_refl _, fun b _ => own_bg.mono (by omega), fun b _ i i1 i2 => by omega⟩
end OwnB
/-! the insertion -/
def own_T (xs : List Int64) (lo i : Nat) (us : List Int64) (k : Nat) : Prop :=
  (own_P xs us lo (i + 1)) ∧
  (lo ≤ k) ∧
  (k ≤ i) ∧
  (∀ p q, lo ≤ p → p < q → q ≤ i → p ≠ k → q ≠ k → (own_g us p).toInt ≤ (own_g us q).toInt) ∧
  (∀ q, k < q → q ≤ i → (own_g us k).toInt < (own_g us q).toInt)
theorem own_T.p {xs : List Int64} {lo i : Nat} {us : List Int64} {k : Nat} (I : own_T xs lo i us k) : own_P xs us lo (i + 1) := I.1
theorem own_T.k1 {xs : List Int64} {lo i : Nat} {us : List Int64} {k : Nat} (I : own_T xs lo i us k) : lo ≤ k := I.2.1
theorem own_T.k2 {xs : List Int64} {lo i : Nat} {us : List Int64} {k : Nat} (I : own_T xs lo i us k) : k ≤ i := I.2.2.1
theorem own_T.s {xs : List Int64} {lo i : Nat} {us : List Int64} {k : Nat} (I : own_T xs lo i us k) : ∀ p q, lo ≤ p → p < q → q ≤ i → p ≠ k → q ≠ k → (own_g us p).toInt ≤ (own_g us q).toInt := I.2.2.2.1
theorem own_T.g {xs : List Int64} {lo i : Nat} {us : List Int64} {k : Nat} (I : own_T xs lo i us k) : ∀ q, k < q → q ≤ i → (own_g us k).toInt < (own_g us q).toInt := I.2.2.2.2
theorem own_T.step {xs us : List Int64} {lo i k : Nat} (T : own_T xs lo i us k) (hl : i < xs.length) (h : lo < k) (hg : (own_g us k).toInt < (own_g us (k - 1)).toInt) : own_T xs lo i ((us.set k (own_g us (k - 1))).set (k - 1) (own_g us k)) (k - 1) := by
  have hu : us.length = xs.length := T.p.len
  have k2 := T.k2
  have v : ∀ q, own_g ((us.set k (own_g us (k - 1))).set (k - 1) (own_g us k)) q = if q = k - 1 then own_g us k else if q = k then own_g us (k - 1) else own_g us q := fun q => by rw [own_gset (by simp; omega), own_gset (by omega)]
  refine ⟨T.p.swap (by omega) (by omega) (by omega) (by omega) (by omega) (by omega), by omega, by omega, fun p q p1 p2 p3 p4 p5 => ?_, fun q q1 q2 => ?_⟩
  · rw [v, v, if_neg p4, if_neg p5]
    by_cases e1 : p = k
    · subst e1; rw [if_pos rfl, if_neg (by omega)]; exact T.s (p - 1) q (by omega) (by omega) p3 (by omega) (by omega)
    · rw [if_neg e1]
      by_cases e2 : q = k
      · subst e2; rw [if_pos rfl]; exact T.s p (q - 1) p1 (by omega) (by omega) (by omega) (by omega)
      · rw [if_neg e2]; exact T.s p q p1 p2 p3 e1 e2
  · rw [v, v, if_pos rfl, if_neg (by omega)]
    by_cases e2 : q = k
    · rw [if_pos e2]; exact hg
    · rw [if_neg e2]; exact T.g q (by omega) q2
theorem own_T.done {xs us : List Int64} {lo i k : Nat} (T : own_T xs lo i us k) (h : k = lo ∨ (own_g us (k - 1)).toInt ≤ (own_g us k).toInt) : own_S us lo (i + 1) := by
  intro p q p1 p2 p3
  have k1 := T.k1
  by_cases e1 : p = k
  · subst e1; exact Int.le_of_lt (T.g q p2 (by omega))
  · by_cases e2 : q = k
    · subst e2
      rcases h with h | h
      · omega
      · by_cases e3 : p = q - 1
        · rw [e3]; exact h
        · exact Int.le_trans (T.s p (q - 1) p1 (by omega) (by have := T.k2; omega) e1 (by omega)) h
    · exact T.s p q p1 p2 (by omega) e1 e2
theorem own_T.start {xs ys : List Int64} {lo i : Nat} (A : own_P xs ys lo i) (S : own_S ys lo i) (h : lo ≤ i) : own_T xs lo i ys i := ⟨A.mono (Nat.le_refl _) (by omega), h, Nat.le_refl _, fun p q p1 p2 p3 p4 p5 => S p q p1 p2 (by omega), fun q q1 q2 => by omega⟩

/-! the keys: floor division by a power of two -/
abbrev own_k (s : Nat) (x : Int64) : Int := x.toInt / (2 ^ s : Nat)
def own_dg (s d : Nat) (x : Int64) : Nat := (own_k s x % (2 ^ d : Nat)).toNat
theorem own_p2 (s : Nat) : (0 : Int) < ((2 ^ s : Nat) : Int) := by have := Nat.two_pow_pos s; omega
theorem own_dg.lt (s d : Nat) (x : Int64) : own_dg s d x < 2 ^ d := by
  have h1 := Int.emod_lt_of_pos (own_k s x) (own_p2 d); have h2 := Int.emod_nonneg (own_k s x) (show ((2 ^ d : Nat) : Int) ≠ 0 by have := own_p2 d; omega)
  simp only [own_dg]; omega
theorem own_dg.int (s d : Nat) (x : Int64) : (own_dg s d x : Int) = own_k s x % (2 ^ d : Nat) := by
  have h2 := Int.emod_nonneg (own_k s x) (show ((2 ^ d : Nat) : Int) ≠ 0 by have := own_p2 d; omega)
  simp only [own_dg]; omega
theorem own_k.up (s d : Nat) (x : Int64) : own_k s x = (2 ^ d : Nat) * own_k (s + d) x + (own_dg s d x : Int) := by
  rw [own_dg.int, own_k, own_k, Nat.pow_add, Int.natCast_mul, ← Int.ediv_ediv_of_nonneg (Int.le_of_lt (own_p2 s))]
  exact (Int.mul_ediv_add_emod _ _).symm
/-- equal high bits: the digits' order is the keys' -/
theorem own_k.le {s d : Nat} {x y : Int64} (e : own_k (s + d) x = own_k (s + d) y) (h : own_dg s d x ≤ own_dg s d y) : own_k s x ≤ own_k s y := by
  rw [own_k.up s d x, own_k.up s d y, e]; omega
theorem own_k.lt {s : Nat} {x y : Int64} (h : own_k s x < own_k s y) : x.toInt < y.toInt := by
  apply Int.lt_of_not_ge
  intro q
  have : own_k s y ≤ own_k s x := Int.ediv_le_ediv (own_p2 s) q
  omega
theorem own_k.mono {s : Nat} {x y : Int64} (h : x.toInt ≤ y.toInt) : own_k s x ≤ own_k s y := Int.ediv_le_ediv (own_p2 s) h
/-- the unsigned shift tells the keys apart -/
theorem own_k.ush {s : Nat} (hs : s ≤ 63) (x y : Int64) : (x.toInt % 18446744073709551616) / (2 ^ s : Nat) = (y.toInt % 18446744073709551616) / (2 ^ s : Nat) ↔ own_k s x = own_k s y := by
  have e : (18446744073709551616 : Int) = (2 ^ s : Nat) * (2 ^ (64 - s) : Nat) := by
    rw [← Int.natCast_mul, ← Nat.pow_add, show s + (64 - s) = 64 by omega]; rfl
  have e' : (9223372036854775808 : Int) = (2 ^ s : Nat) * (2 ^ (63 - s) : Nat) := by
    rw [← Int.natCast_mul, ← Nat.pow_add, show s + (63 - s) = 63 by omega]; rfl
  have hp := own_p2 s
  have key : ∀ z : Int64, (0 ≤ z.toInt ∧ (z.toInt % 18446744073709551616) / (2 ^ s : Nat) = own_k s z ∧ 0 ≤ own_k s z ∧ own_k s z < (2 ^ (63 - s) : Nat)) ∨ (z.toInt < 0 ∧ (z.toInt % 18446744073709551616) / (2 ^ s : Nat) = own_k s z + (2 ^ (64 - s) : Nat) ∧ own_k s z < 0 ∧ -((2 ^ (63 - s) : Nat) : Int) ≤ own_k s z) := by
    intro z
    have z1 := Int64.toInt_lt z; have z2 := Int64.le_toInt z
    by_cases q : 0 ≤ z.toInt
    · left
      refine ⟨q, by rw [Int.emod_eq_of_lt q (by omega)], Int.ediv_nonneg q (by omega), ?_⟩
      exact Int.ediv_lt_of_lt_mul hp (by rw [Int.mul_comm, ← e']; omega)
    · right
      have e2 : z.toInt % 18446744073709551616 = z.toInt + 18446744073709551616 := by omega
      refine ⟨by omega, by rw [e2, e, Int.add_mul_ediv_left _ _ (by omega)], Int.ediv_neg_of_neg_of_pos (by omega) hp, ?_⟩
      apply Int.le_ediv_of_mul_le hp
      rw [Int.neg_mul, Int.mul_comm, ← e']; omega
  have t : ((2 ^ (64 - s) : Nat) : Int) = 2 * (2 ^ (63 - s) : Nat) := by
    rw [show 64 - s = (63 - s) + 1 by omega, Nat.pow_succ]; omega
  rcases key x with ⟨_, x2, x3, x4⟩ | ⟨_, x2, x3, x4⟩ <;> rcases key y with ⟨_, y2, y3, y4⟩ | ⟨_, y2, y3, y4⟩ <;> rw [x2, y2] <;> omega
/-- the digit as the code reckons it -/
theorem own_dg.code {s d : Nat} (hsd : s + d ≤ 63) (hd : d ≤ 31) (X : Int) {q r : Int} (hq : q = (X % 18446744073709551616) / (2 ^ s : Nat)) (hr : (r - q) % 4294967296 = 0) : r % (2 ^ d : Nat) = X / (2 ^ s : Nat) % (2 ^ d : Nat) := by
  have hp := own_p2 s
  have e : (18446744073709551616 : Int) = (2 ^ s : Nat) * ((2 ^ d : Nat) * (2 ^ (64 - s - d) : Nat)) := by
    rw [← Int.natCast_mul, ← Int.natCast_mul, ← Nat.pow_add, ← Nat.pow_add, show s + (d + (64 - s - d)) = 64 by omega]; rfl
  have e2 : (4294967296 : Int) = (2 ^ d : Nat) * (2 ^ (32 - d) : Nat) := by
    rw [← Int.natCast_mul, ← Nat.pow_add, show d + (32 - d) = 32 by omega]; rfl
  have e3 : X / (2 ^ s : Nat) = q + (2 ^ d : Nat) * ((2 ^ (64 - s - d) : Nat) * (X / 18446744073709551616)) := by
    conv => lhs; rw [← Int.emod_add_mul_ediv X 18446744073709551616]
    conv => lhs; arg 1; arg 2; arg 1; rw [e]
    rw [Int.mul_assoc, Int.mul_assoc, Int.add_mul_ediv_left _ _ (by omega), hq]
  have e4 : r = q + (2 ^ d : Nat) * ((2 ^ (32 - d) : Nat) * ((r - q) / 4294967296)) := by
    have := Int.mul_ediv_add_emod (r - q) 4294967296
    rw [hr] at this
    rw [← Int.mul_assoc, ← e2]; omega
  rw [e3, e4, Int.add_mul_emod_self_left, Int.add_mul_emod_self_left]

/-! the runs of equal keys -/
def own_U (s : Nat) (xs : List Int64) (lo hi : Nat) (vs : List Int64) (st : Nat) : Prop :=
  (own_P xs vs lo hi) ∧
  (∀ i j, lo ≤ i → i ≤ j → j < hi → own_k s (own_g vs i) ≤ own_k s (own_g vs j)) ∧
  (own_S vs lo st) ∧
  (∀ i j, lo ≤ i → i < st → st ≤ j → j < hi → own_k s (own_g vs i) < own_k s (own_g vs j))
theorem own_U.p {s : Nat} {xs : List Int64} {lo hi : Nat} {vs : List Int64} {st : Nat} (I : own_U s xs lo hi vs st) : own_P xs vs lo hi := I.1
theorem own_U.k {s : Nat} {xs : List Int64} {lo hi : Nat} {vs : List Int64} {st : Nat} (I : own_U s xs lo hi vs st) : ∀ i j, lo ≤ i → i ≤ j → j < hi → own_k s (own_g vs i) ≤ own_k s (own_g vs j) := I.2.1
theorem own_U.srt {s : Nat} {xs : List Int64} {lo hi : Nat} {vs : List Int64} {st : Nat} (I : own_U s xs lo hi vs st) : own_S vs lo st := I.2.2.1
theorem own_U.bd {s : Nat} {xs : List Int64} {lo hi : Nat} {vs : List Int64} {st : Nat} (I : own_U s xs lo hi vs st) : ∀ i j, lo ≤ i → i < st → st ≤ j → j < hi → own_k s (own_g vs i) < own_k s (own_g vs j) := I.2.2.2
theorem own_U.start {s : Nat} {xs vs : List Int64} {lo hi : Nat} (A : own_P xs vs lo hi) (hk : ∀ i j, lo ≤ i → i ≤ j → j < hi → own_k s (own_g vs i) ≤ own_k s (own_g vs j)) : own_U s xs lo hi vs lo := ⟨A, hk, fun i j i1 i2 i3 => by omega, fun i j i1 i2 => by omega⟩
theorem own_U.step {s : Nat} {xs vs ys : List Int64} {lo hi st en : Nat} (U : own_U s xs lo hi vs st) (h1 : lo ≤ st) (h2 : st < en) (h3 : en ≤ hi) (hl : hi ≤ xs.length) (he : ∀ i, st ≤ i → i < en → own_k s (own_g vs i) = own_k s (own_g vs st)) (hx : en < hi → own_k s (own_g vs en) ≠ own_k s (own_g vs st)) (A : own_P vs ys st en) (S : own_S ys st en) : own_U s xs lo hi ys en := by
  have hv : vs.length = xs.length := U.p.len
  have keq : ∀ i, own_k s (own_g ys i) = own_k s (own_g vs i) := by
    intro i
    by_cases q : st ≤ i ∧ i < en
    · rw [he i q.1 q.2]
      exact A.all (p := fun x => own_k s x = own_k s (own_g vs st)) (by omega) (by omega) he i q.1 q.2
    · rw [A.2 i (by omega)]
  refine ⟨U.p.trans (A.mono h1 h3), fun i j i1 i2 i3 => by rw [keq, keq]; exact U.k i j i1 i2 i3, fun i j i1 i2 i3 => ?_, fun i j i1 i2 i3 i4 => ?_⟩
  · by_cases q : j < st
    · rw [A.2 i (by omega), A.2 j (by omega)]; exact U.srt i j i1 i2 q
    · by_cases q2 : st ≤ i
      · exact S i j q2 i2 i3
      · apply Int.le_of_lt
        apply own_k.lt (s := s)
        rw [keq, keq]; exact U.bd i j i1 (by omega) (by omega) (by omega)
  · rw [keq, keq]
    by_cases q : i < st
    · exact U.bd i j i1 q (by omega) i4
    · rw [he i (by omega) i2]
      have a1 := U.k st en h1 (by omega) (by omega)
      have a2 := U.k en j (by omega) i3 i4
      have a3 := hx (by omega)
      omega
/-- a pass that needs no more: equal keys of no bits -/
theorem own_k.zero (x : Int64) : own_k 0 x = x.toInt := by simp [own_k]
/-! the four values, nine times each -/
def own_mn (x y : Int64) : Int64 := if x.toInt > y.toInt then y else x
def own_mx (x y : Int64) : Int64 := if x.toInt < y.toInt then y else x
theorem own_mm (x y : Int64) : [own_mn x y, own_mx x y].Perm [x, y] := by
  unfold own_mn own_mx
  by_cases h1 : x.toInt > y.toInt
  · rw [if_pos h1, if_neg (by omega)]; exact List.Perm.swap _ _ _
  · rw [if_neg h1]
    by_cases h2 : x.toInt < y.toInt
    · rw [if_pos h2]
    · rw [if_neg h2, show x = y from Int64.toInt_inj.mp (by omega)]
theorem own_mnv (x y : Int64) : (own_mn x y).toInt ≤ x.toInt ∧ (own_mn x y).toInt ≤ y.toInt ∧ ((own_mn x y).toInt = x.toInt ∨ (own_mn x y).toInt = y.toInt) := by unfold own_mn; split <;> omega
theorem own_mxv (x y : Int64) : x.toInt ≤ (own_mx x y).toInt ∧ y.toInt ≤ (own_mx x y).toInt ∧ ((own_mx x y).toInt = x.toInt ∨ (own_mx x y).toInt = y.toInt) := by unfold own_mx; split <;> omega
def own_s0 (a b c d : Int64) : Int64 := own_mn (own_mn a b) (own_mn c d)
def own_s3 (a b c d : Int64) : Int64 := own_mx (own_mx a b) (own_mx c d)
def own_m1 (a b c d : Int64) : Int64 := own_mx (own_mn a b) (own_mn c d)
def own_m2 (a b c d : Int64) : Int64 := own_mn (own_mx a b) (own_mx c d)
def own_s1 (a b c d : Int64) : Int64 := own_mn (own_m1 a b c d) (own_m2 a b c d)
def own_s2 (a b c d : Int64) : Int64 := own_mx (own_m1 a b c d) (own_m2 a b c d)
theorem own_four (a b c d : Int64) : [own_s0 a b c d, own_s1 a b c d, own_s2 a b c d, own_s3 a b c d].Perm [a, b, c, d] := by
  have e1 := own_mm a b; have e2 := own_mm c d
  have e3 := own_mm (own_mn a b) (own_mn c d); have e4 := own_mm (own_mx a b) (own_mx c d)
  have e5 := own_mm (own_m1 a b c d) (own_m2 a b c d)
  have f1 : [own_s0 a b c d, own_s1 a b c d, own_s2 a b c d, own_s3 a b c d].Perm [own_s0 a b c d, own_m1 a b c d, own_m2 a b c d, own_s3 a b c d] := List.Perm.cons _ (e5.append_right [own_s3 a b c d])
  have f2 : [own_s0 a b c d, own_m1 a b c d, own_m2 a b c d, own_s3 a b c d].Perm [own_mn a b, own_mn c d, own_mx a b, own_mx c d] := e3.append e4
  have f3 : [own_mn a b, own_mn c d, own_mx a b, own_mx c d].Perm [own_mn a b, own_mx a b, own_mn c d, own_mx c d] := List.Perm.cons _ (List.Perm.swap _ _ _)
  exact f1.trans (f2.trans (f3.trans (e1.append e2)))
theorem own_asc (a b c d : Int64) : (own_s0 a b c d).toInt ≤ (own_s1 a b c d).toInt ∧ (own_s1 a b c d).toInt ≤ (own_s2 a b c d).toInt ∧ (own_s2 a b c d).toInt ≤ (own_s3 a b c d).toInt := by
  have a1 := own_mnv a b; have a2 := own_mnv c d; have a3 := own_mxv a b; have a4 := own_mxv c d
  have b1 := own_mnv (own_mn a b) (own_mn c d); have b2 := own_mxv (own_mn a b) (own_mn c d); have b3 := own_mnv (own_mx a b) (own_mx c d); have b4 := own_mxv (own_mx a b) (own_mx c d)
  have c1 := own_mnv (own_m1 a b c d) (own_m2 a b c d); have c2 := own_mxv (own_m1 a b c d) (own_m2 a b c d)
  unfold own_s0 own_s1 own_s2 own_s3
  unfold own_m1 own_m2 at *
  omega
def own_v0 (a b c d : Int64) : List Int64 := [9223372036854775807, d, a, c, b, b, d, a, c, c, b, d, a, a, c, b, d, d, b, c, a, a, d, b, c, c, a, d, b, b, c, a, d, d, c, b, a, -9223372036854775808]
theorem own_v0.seg (a b c d : Int64) : (own_seg (own_v0 a b c d) 1 37).Perm ([a, b, c, d].flatMap (List.replicate 9)) := by
  have e : ([3, 0, 2, 1, 1, 3, 0, 2, 2, 1, 3, 0, 0, 2, 1, 3, 3, 1, 2, 0, 0, 3, 1, 2, 2, 0, 3, 1, 1, 2, 0, 3, 3, 2, 1, 0] : List Nat).Perm ([0, 1, 2, 3].flatMap (List.replicate 9)) := by decide
  exact e.map (fun k => [a, b, c, d].getD k 0)
theorem own_runs {a b c d : Int64} {ys : List Int64} (A : own_P (own_v0 a b c d) ys 1 37) (S : own_S ys 1 37) : ∀ k, k < 36 → own_g ys (1 + k) = ([own_s0 a b c d, own_s1 a b c d, own_s2 a b c d, own_s3 a b c d].flatMap (List.replicate 9)).getD k 0 := by
  have hl : ys.length = 38 := A.len
  have e1 : (own_seg ys 1 37).Perm ([own_s0 a b c d, own_s1 a b c d, own_s2 a b c d, own_s3 a b c d].flatMap (List.replicate 9)) := (own_seg.perm A (by decide) (by show 37 ≤ 38; decide)).trans ((own_v0.seg a b c d).trans ((own_four a b c d).symm.flatMap_right _))
  have e2 := e1.eq_of_pairwise (le := fun x y => x.toInt ≤ y.toInt) (fun x y _ _ h1 h2 => Int64.toInt_inj.mp (by omega)) (by
    rw [List.pairwise_iff_getElem]
    intro i j hi hj hij
    have hn := own_seg.len (xs := ys) (lo := 1) (hi := 37) (by omega)
    have q1 := own_seg.at (xs := ys) (lo := 1) (hi := 37) (k := i) (by omega); have q2 := own_seg.at (xs := ys) (lo := 1) (hi := 37) (k := j) (by omega)
    rw [own_get (xs := ys) (by omega), List.getElem?_eq_getElem hi] at q1
    rw [own_get (xs := ys) (by omega), List.getElem?_eq_getElem hj] at q2
    rw [Option.some.inj q1, Option.some.inj q2]
    exact S _ _ (by omega) (by omega) (by omega)) (by
    obtain ⟨h1, h2, h3⟩ := own_asc a b c d
    simp [List.pairwise_append, List.pairwise_replicate]
    omega)
  intro k hk
  rw [← e2, List.getD_eq_getElem?_getD, own_seg.at (by omega), own_get (by omega)]
  rfl

abbrev own_c (cs : List Int32) (i : Nat) : Int32 := cs.getD i 0
theorem own_cset {cs : List Int32} {i j : Nat} {x : Int32} (h : i < cs.length) : own_c (cs.set i x) j = if j = i then x else own_c cs j := by
  simp only [own_c, List.getD_eq_getElem?_getD, List.getElem?_set]
  by_cases e : i = j
  · subst e; simp [h]
  · rw [if_neg e, if_neg (fun q => e q.symm)]
theorem own_la {xs : List Int64} {i : Nat} (h : i < xs.length) : (xs.map Value.long)[i]? = some (.long (own_g xs i)) := by rw [List.getElem?_map, own_get h]; rfl
theorem own_ia {cs : List Int32} {i : Nat} (h : i < cs.length) : (cs.map Value.int)[i]? = some (.int (own_c cs i)) := by
  simp [own_c, List.getD_eq_getElem?_getD, List.getElem?_eq_getElem h]
def own_mi (x y : Int32) : Int32 := if x.toInt > y.toInt then y else x
theorem own_miv (x y : Int32) : ((own_mi x y).toInt = x.toInt ∧ x.toInt ≤ y.toInt) ∨ ((own_mi x y).toInt = y.toInt ∧ y.toInt < x.toInt) := by unfold own_mi; split <;> omega
theorem own_ia1 {x : Int32} {n : Int} (hx : x.toInt = n) (h : 0 ≤ n) (h2 : n < 1000000) : (x + 1).toInt = n + 1 := by
  have a1 := c_iadd x 1; have a2 := Int32.toInt_lt (x + 1); have a3 := Int32.le_toInt (x + 1)
  rw [show (1 : Int32).toInt = 1 from rfl] at a1
  omega
theorem own_iad {x y : Int32} {m n : Int} (hx : x.toInt = m) (hy : y.toInt = n) (h : 0 ≤ m) (h2 : m < 1000000) (h3 : 0 ≤ n) (h4 : n < 1000000) : (x + y).toInt = m + n := by
  have a1 := c_iadd x y; have a2 := Int32.toInt_lt (x + y); have a3 := Int32.le_toInt (x + y)
  omega
theorem own_isb {x y : Int32} {m n : Int} (hx : x.toInt = m) (hy : y.toInt = n) (h : 0 ≤ m) (h2 : m < 1000000) (h3 : 0 ≤ n) (h4 : n < 1000000) : (x - y).toInt = m - n := by
  have a1 := c_isub x y; have a2 := Int32.toInt_lt (x - y); have a3 := Int32.le_toInt (x - y)
  omega
theorem own_tn {y : Int32} {n : Nat} (h : y.toInt = n) : y.toBitVec.toNat = n := by
  have h1 : y.toBitVec.toInt = n := h
  rw [BitVec.toInt_eq_toNat_cond] at h1
  have := y.toBitVec.isLt
  split at h1 <;> omega
theorem own_sh0 (x : Int64) : (x.toUInt64 >>> ((0 : Int32) &&& 0x3f).toInt64.toUInt64).toInt64 = x := by
  have e : ((0 : Int32) &&& 0x3f).toInt64.toUInt64 = 0 := by decide
  rw [e]; simp
theorem own_ush {x : Int64} {sh : Int32} {s : Nat} (hs : sh.toInt = s) (h63 : s ≤ 63) (h0 : 0 < s) : ((x.toUInt64 >>> (sh &&& 0x3f).toInt64.toUInt64).toInt64).toInt = (x.toInt % 18446744073709551616) / (2 ^ s : Nat) := c_lushr x sh s (by rw [own_tn hs]; omega) h0
theorem own_dgv {x : Int64} {sh bk : Int32} {s d : Nat} (hs : sh.toInt = s) (hb : bk.toInt = (2 ^ d : Nat)) (hsd : s + d ≤ 63) (hd : d ≤ 5) : ((x.toUInt64 >>> (sh &&& 0x3f).toInt64.toUInt64).toInt64.toInt32 &&& (bk - 1)).toInt = (own_dg s d x : Int) := by
  have p1 : 2 ^ d ≤ 32 := Nat.pow_le_pow_right (by decide) hd
  have p0 := Nat.two_pow_pos d
  have m1 : (bk - 1).toInt = ((2 ^ d - 1 : Nat) : Int) := by rw [own_isb hb (show (1 : Int32).toInt = 1 from rfl) (by omega) (by omega) (by omega) (by omega)]; omega
  rw [c_mask _ _ d (by omega) (own_tn m1), own_dg.int]
  by_cases q : s = 0
  · subst q
    have e0 : sh = 0 := Int32.toInt_inj.mp (hs.trans rfl)
    subst e0
    rw [own_sh0]
    refine own_dg.code hsd (by omega) x.toInt rfl ?_
    have := c_l2i x
    simp only [Nat.pow_zero, Int.natCast_one, Int.ediv_one]
    omega
  · exact own_dg.code hsd (by omega) x.toInt (own_ush hs (by omega) (by omega)) (c_l2i _)
theorem own_shl {d : Int32} {n : Nat} (hd : d.toInt = n) (h5 : n ≤ 5) : ((1 : Int32) <<< (d &&& 31)).toInt = (2 ^ n : Nat) := by
  have a1 := c_ishl 1 d n (by rw [own_tn hd]; omega)
  have p0 := Nat.two_pow_pos n
  have p1 : 2 ^ n ≤ 32 := Nat.pow_le_pow_right (by decide) h5
  have a2 := Int32.toInt_lt ((1 : Int32) <<< (d &&& 31)); have a3 := Int32.le_toInt ((1 : Int32) <<< (d &&& 31))
  rw [show (1 : Int32).toInt = 1 from rfl] at a1
  omega
theorem own_n.le {p : Int64 → Bool} {xs : List Int64} {lo hi : Nat} (h : hi ≤ xs.length) : own_n p xs lo hi ≤ hi - lo := by
  rw [own_n, ← own_seg.len (xs := xs) (lo := lo) h]; exact List.countP_le_length
set_option maxRecDepth 65536 in
set_option maxHeartbeats 4000000 in
theorem own_min {l : Launch} {Z : State} {a0 : Array Value} (hw : ∀ d ∈ tables_1, d.before a0 Z = true) {n0 : Nat} {h : Heap} (x y : Int32) :
    own_V l Z n0 ({ frames := 0, cells := 0, slots := 0, locals := 0 } : Room) "java/lang/Math" "min" jdk_29_method_69_code 2 (some .int) (fun v h' => v = some (.int (own_mi x y)) ∧ h = h') h 0 0 0 #[.val (.int x), .val (.int y)] [] := by
  refine own_iloadN d3_0 rfl ?_
  refine own_iloadN d3_1 rfl ?_
  refine own_icmpGt d3_2 (fun q => ?_) (fun q => ?_)
  · refine own_iloadN d3_9 rfl ?_
    exact own_retI d3_10 rfl (by decide) (by decide) ⟨by unfold own_mi; rw [if_pos q], rfl⟩
  · refine own_iloadN d3_5 rfl ?_
    refine own_goto d3_6 ?_
    exact own_retI d3_10 rfl (by decide) (by decide) ⟨by unfold own_mi; rw [if_neg (by omega)], rfl⟩
set_option maxRecDepth 65536 in
set_option maxHeartbeats 4000000 in
theorem own_minL {l : Launch} {Z : State} {a0 : Array Value} (hw : ∀ d ∈ tables_1, d.before a0 Z = true) {n0 : Nat} {h : Heap} (x y : Int64) :
    own_V l Z n0 ({ frames := 0, cells := 0, slots := 0, locals := 0 } : Room) "java/lang/Math" "min" jdk_29_method_70_code 4 (some .long) (fun v h' => v = some (.long (own_mn x y)) ∧ h = h') h 0 0 0 #[.val (.long x), .second, .val (.long y), .second] [] := by
  refine own_lloadN d9_0 rfl ?_
  refine own_lloadN d9_1 rfl ?_
  refine own_lcmpGt d9_2 d9_3 (fun q => ?_) (fun q => ?_)
  · refine own_lloadN d9_10 rfl ?_
    exact own_retJ d9_11 rfl (by decide) (by decide) ⟨by unfold own_mn; rw [if_pos q], rfl⟩
  · refine own_lloadN d9_6 rfl ?_
    refine own_goto d9_7 ?_
    exact own_retJ d9_11 rfl (by decide) (by decide) ⟨by unfold own_mn; rw [if_neg (by omega)], rfl⟩
set_option maxRecDepth 65536 in
set_option maxHeartbeats 4000000 in
theorem own_maxL {l : Launch} {Z : State} {a0 : Array Value} (hw : ∀ d ∈ tables_1, d.before a0 Z = true) {n0 : Nat} {h : Heap} (x y : Int64) :
    own_V l Z n0 ({ frames := 0, cells := 0, slots := 0, locals := 0 } : Room) "java/lang/Math" "max" jdk_29_method_66_code 4 (some .long) (fun v h' => v = some (.long (own_mx x y)) ∧ h = h') h 0 0 0 #[.val (.long x), .second, .val (.long y), .second] [] := by
  refine own_lloadN d10_0 rfl ?_
  refine own_lloadN d10_1 rfl ?_
  refine own_lcmpLt d10_2 d10_3 (fun q => ?_) (fun q => ?_)
  · refine own_lloadN d10_10 rfl ?_
    exact own_retJ d10_11 rfl (by decide) (by decide) ⟨by unfold own_mx; rw [if_pos q], rfl⟩
  · refine own_lloadN d10_6 rfl ?_
    refine own_goto d10_7 ?_
    exact own_retJ d10_11 rfl (by decide) (by decide) ⟨by unfold own_mx; rw [if_neg (by omega)], rfl⟩
set_option maxRecDepth 65536 in
set_option maxHeartbeats 4000000 in
theorem own_nlz {l : Launch} {Z : State} {a0 : Array Value} (hw : ∀ d ∈ tables_1, d.before a0 Z = true) {n0 : Nat} {h : Heap} (x : Int32) (h1 : 33 ≤ x.toInt) (h2 : x.toInt ≤ 36) :
    own_V l Z n0 ({ frames := 0, cells := 0, slots := 0, locals := 0 } : Room) "java/lang/Integer" "numberOfLeadingZeros" jdk_33_method_47_code 2 (some .int) (fun v h' => v = some (.int 26) ∧ h = h') h 0 0 0 #[.val (.int x), .unset] [] := by
  refine own_iloadN d4_0 rfl ?_
  refine own_ifGt d4_1 (fun _ => ?_) (fun q => False.elim (by omega))
  refine own_bipush (x := 31) d4_15 rfl ?_
  refine own_istoreN (L' := #[.val (.int x), .val (.int (31 : Int32))]) d4_17 rfl ?_
  refine own_iloadN d4_18 rfl ?_
  refine own_ldcwI d4_19 (own_w hw 21 rfl) ?_
  refine own_icmpLt d4_22 (fun _ => ?_) (fun q => False.elim (by have := (show (65536 : Int32).toInt = 65536 from rfl); omega))
  refine own_iloadN d4_33 rfl ?_
  refine own_sipush (x := 256) d4_34 rfl ?_
  refine own_icmpLt d4_37 (fun _ => ?_) (fun q => False.elim (by have := (show (256 : Int32).toInt = 256 from rfl); omega))
  refine own_iloadN d4_48 rfl ?_
  refine own_bipush (x := 16) d4_49 rfl ?_
  refine own_icmpLt d4_51 (fun q => False.elim (by have := (show (16 : Int32).toInt = 16 from rfl); omega)) (fun _ => ?_)
  refine own_iinc (L' := #[.val (.int x), .val (.int ((31 : Int32) + (-4 : Int32)))]) (z := -4) d4_54 rfl rfl rfl ?_
  refine own_iloadN d4_57 rfl ?_
  refine own_iconst (x := 4) d4_58 rfl ?_
  refine own_iushr d4_59 ?_
  have u := c_iushr x 4 4 (by decide) (by decide)
  have u2 : ((x.toUInt32 >>> ((4 : Int32) &&& 31).toUInt32).toInt32) = 2 := Int32.toInt_inj.mp (by rw [(show (2 : Int32).toInt = 2 from rfl)]; omega)
  rw [u2]
  refine own_istoreN (L' := #[.val (.int (2 : Int32)), .val (.int ((31 : Int32) + (-4 : Int32)))]) d4_60 rfl ?_
  refine own_iloadN d4_61 rfl ?_
  refine own_iconst (x := 4) d4_62 rfl ?_
  refine own_icmpLt d4_63 (fun _ => ?_) (fun q => False.elim (by exact absurd q (by decide)))
  refine own_iloadN d4_73 rfl ?_
  refine own_iloadN d4_74 rfl ?_
  refine own_iconst (x := 1) d4_75 rfl ?_
  refine own_iushr d4_76 ?_
  refine own_isub d4_77 ?_
  exact own_retI d4_78 rfl (by decide) (by decide) ⟨rfl, rfl⟩
set_option maxRecDepth 65536 in
set_option maxHeartbeats 4000000 in
theorem own_rc {l : Launch} {Z : State} {a0 : Array Value} (hw : ∀ d ∈ tables_1, d.before a0 Z = true) {n0 : Nat} {h : Heap} (n k : Int32) (h0 : 0 ≤ k.toInt) (h1 : k.toInt ≤ n.toInt) :
    own_V l Z n0 ({ frames := 0, cells := 0, slots := 0, locals := 0 } : Room) "java/util/Arrays" "rangeCheck" jdk_65_method_30_code 3 none (fun v h' => v = none ∧ h = h') h 0 0 0 #[.val (.int n), .val (.int 0), .val (.int k)] [] := by
  refine own_iloadN d6_0 rfl ?_
  refine own_iloadN d6_1 rfl ?_
  refine own_icmpLe d6_2 (fun _ => ?_) (fun q => False.elim (by have := (show (0 : Int32).toInt = 0 from rfl); omega))
  refine own_iloadN d6_46 rfl ?_
  refine own_ifGe d6_47 (fun _ => ?_) (fun q => False.elim (by exact absurd q (by decide)))
  refine own_iloadN d6_59 rfl ?_
  refine own_iloadN d6_60 rfl ?_
  refine own_icmpLe d6_61 (fun _ => ?_) (fun q => False.elim (by omega))
  exact own_ret0 d6_73.1 rfl (by decide) (by decide) ⟨rfl, rfl⟩
set_option maxRecDepth 65536 in
set_option maxHeartbeats 4000000 in
theorem own_fl {l : Launch} {Z : State} {a0 : Array Value} (hw : ∀ d ∈ tables_1, d.before a0 Z = true) {n0 : Nat} {B : Nat} (hB : B ≤ 32) {k : Int32} (hk : k.toInt = B) {av ac : Addr} (gc : n0 ≤ ac) (hne : av ≠ ac) {xs : List Int64} :
    ∀ (j I : Nat) (i : Int32) (cs : List Int32) (h : Heap), I + j = B → i.toInt = I → own_A Z h av .long (xs.map Value.long) → own_A Z h ac .int (cs.map Value.int) → cs.length = 4096 → (∀ b, b < I → own_c cs b = 0) → own_V l Z n0 ({ frames := 1, cells := 0, slots := 0, locals := 20 } : Room) "java/util/Arrays" "fill" jdk_65_method_104_code 5 none (fun v h' => v = none ∧ ∃ cs' : List Int32, own_A Z h' av .long (xs.map Value.long) ∧ own_A Z h' ac .int (cs'.map Value.int) ∧ cs'.length = 4096 ∧ ∀ b, b < B → own_c cs' b = 0) h 0 0 10 #[.val (.ref ac), .val (.int (0 : Int32)), .val (.int k), .val (.int (0 : Int32)), .val (.int i)] [] := by
  intro j
  induction j with
  | zero =>
    intro I i cs h hI ei A C hl hz
    refine own_iload d5_10 rfl ?_
    refine own_iloadN d5_12 rfl ?_
    refine own_icmpGe d5_13 (fun _ => ?_) (fun q => False.elim (by omega))
    exact own_ret0 d5_27.1 rfl (by decide) (by decide) ⟨rfl, cs, A, C, hl, fun b hb => hz b (by omega)⟩
  | succ j ih =>
    intro I i cs h hI ei A C hl hz
    refine own_iload d5_10 rfl ?_
    refine own_iloadN d5_12 rfl ?_
    refine own_icmpGe d5_13 (fun q => False.elim (by omega)) (fun _ => ?_)
    refine own_aloadN d5_16 rfl rfl ?_
    refine own_iload d5_17 rfl ?_
    refine own_iloadN d5_19 rfl ?_
    refine own_iastore (i := I) d5_20 C ei (by simp; omega) gc (fun h' W C => ?_)
    rw [← List.map_set] at C
    refine own_iinc (L' := #[.val (.ref ac), .val (.int (0 : Int32)), .val (.int k), .val (.int (0 : Int32)), .val (.int (i + (1 : Int32)))]) (z := 1) d5_21 rfl rfl rfl ?_
    refine own_goto d5_24 ?_
    exact ih (I + 1) (i + 1) (cs.set I 0) h' (by omega) (by rw [own_ia1 ei (by omega) (by omega)]; omega) (own_A.other W A hne) C (by simpa using hl) (fun b hb => by
      rw [own_cset (by omega)]
      split
      · rfl
      · exact hz b (by omega))

set_option maxRecDepth 65536 in
set_option maxHeartbeats 4000000 in
theorem own_fill {l : Launch} {Z : State} {a0 : Array Value} (hw : ∀ d ∈ tables_1, d.before a0 Z = true) {n0 : Nat} {h : Heap} {B : Nat} (hB : B ≤ 32) {k : Int32} (hk : k.toInt = B) {av ac : Addr} (gc : n0 ≤ ac) (hne : av ≠ ac) {xs : List Int64} {cs : List Int32} (A : own_A Z h av .long (xs.map Value.long)) (C : own_A Z h ac .int (cs.map Value.int)) (hl : cs.length = 4096) :
    own_V l Z n0 ({ frames := 1, cells := 0, slots := 0, locals := 20 } : Room) "java/util/Arrays" "fill" jdk_65_method_104_code 5 none (fun v h' => v = none ∧ ∃ cs' : List Int32, own_A Z h' av .long (xs.map Value.long) ∧ own_A Z h' ac .int (cs'.map Value.int) ∧ cs'.length = 4096 ∧ ∀ b, b < B → own_c cs' b = 0) h 0 0 0 #[.val (.ref ac), .val (.int 0), .val (.int k), .val (.int 0), .unset] [] := by
  refine own_aloadN d5_0 rfl rfl ?_
  refine own_arrlen (x := 4096) d5_1 C (by simp [hl]) ?_
  refine own_iloadN d5_2 rfl ?_
  refine own_iloadN d5_3 rfl ?_
  refine own_callS (y := (⟨"java/util/Arrays", "rangeCheck", "(III)V"⟩ : MethodName)) (argsL := [(.int (4096 : Int32)), (.int (0 : Int32)), (.int k)]) (rest := []) (W := 0) (cells' := 0) (slots' := 0) (R' := ({ frames := 0, cells := 0, slots := 0, locals := 0 } : Room)) (own_rc hw 4096 k (by omega) (by have := (show (4096 : Int32).toInt = 4096 from rfl); omega)) (fun m => own_ef6_III m (4096 : Int32) (0 : Int32) k) own_pl6 own_pd6 rfl d5_4 (own_w hw 26 rfl) (own_w hw 27 rfl) (own_w hw 24 rfl) (own_w hw 28 rfl) (by decide) rfl rfl (Nat.le_of_eq rfl) (by decide) (by decide) rfl rfl (by decide) (by decide) ?_
  rintro _ _ ⟨rfl, rfl⟩
  refine own_iloadN d5_7 rfl ?_
  refine own_istore (L' := #[.val (.ref ac), .val (.int (0 : Int32)), .val (.int k), .val (.int (0 : Int32)), .val (.int (0 : Int32))]) d5_8 rfl ?_
  exact own_fl hw hB hk gc hne B 0 0 cs h (by omega) rfl A C hl (by intro b hb; omega)
set_option maxRecDepth 65536 in
set_option maxHeartbeats 4000000 in
theorem own_digit {l : Launch} {Z : State} {a0 : Array Value} (hw : ∀ d ∈ tables_1, d.before a0 Z = true) {n0 : Nat} {h : Heap} (x : Int64) {s d : Nat} {sh bk : Int32} (hs : sh.toInt = s) (hb : bk.toInt = (2 ^ d : Nat)) (hsd : s + d ≤ 63) (hd : d ≤ 5) :
    own_V l Z n0 ({ frames := 0, cells := 0, slots := 0, locals := 0 } : Room) "com/example/rank_keeper/rankkeeper/RadixSort" "digit" prog_11_method_5_code 4 (some .int) (fun v h' => ∃ r : Int32, v = some (.int r) ∧ r.toInt = (own_dg s d x : Int) ∧ h = h') h 0 0 0 #[.val (.long x), .second, .val (.int sh), .val (.int bk)] [] := by
  refine own_lloadN d7_0 rfl ?_
  refine own_iloadN d7_1 rfl ?_
  refine own_lushr d7_2 ?_
  refine own_l2i d7_3 ?_
  refine own_iloadN d7_4 rfl ?_
  refine own_iconst (x := 1) d7_5 rfl ?_
  refine own_isub d7_6 ?_
  refine own_iand d7_7 ?_
  exact own_retI d7_8 rfl (by decide) (by decide) ⟨_, rfl, own_dgv hs hb hsd hd, rfl⟩
def own_ji (s : Slot) : Prop := s = .unset ∨ ∃ y : Int32, s = .val (.int y)
def own_jl (s t : Slot) : Prop := (s = .unset ∧ t = .unset) ∨ ∃ y : Int64, s = .val (.long y) ∧ t = .second
theorem own_ji.v (x : Int32) : own_ji (.val (.int x)) := Or.inr ⟨x, rfl⟩
theorem own_jl.v (x : Int64) : own_jl (.val (.long x)) .second := Or.inr ⟨x, rfl, rfl⟩
theorem own_setself {xs : List Int64} {i : Nat} (h : i < xs.length) : xs.set i (own_g xs i) = xs := by
  apply List.ext_getElem?
  intro k
  rw [List.getElem?_set]
  by_cases e : i = k
  · subst e; rw [if_pos rfl, if_pos h, own_get h]
  · rw [if_neg e]
theorem own_sw {vs : List Int64} {i j : Nat} {x y : Int64} (hij : j ≠ i) (hj : j < vs.length) (hi : i < vs.length) (hy : y = own_g vs j) :
    ((vs.set i x).set j (own_g (vs.set i x) i)).set i (own_g (vs.set i x) j) = (vs.set j x).set i y := by
  rw [own_gset hi, if_pos rfl, own_gset hi, if_neg hij, ← hy, List.set_comm x x (Ne.symm hij), List.set_set]
def own_W (l : Launch) (Z : State) (n0 : Nat) (av ac : Addr) (bk sh : Int32) (s d B : Nat) (xs : List Int64) (lo hi : Nat) (K : Nat) : Prop :=
  ∀ (bI : Nat) (b : Int32) (vs : List Int64) (N : Nat → Nat) (cs : List Int32) (h : Heap) (j5 j6 j7 j8 j9 j10 j11 : Slot), own_ji j5 → own_jl j6 j7 → own_ji j8 → own_ji j9 → own_jl j10 j11 → bI < B → b.toInt = bI → own_A Z h av .long (vs.map Value.long) → own_A Z h ac .int (cs.map Value.int) → cs.length = 4096 → own_I (own_dg s d) B xs lo hi vs N → (∀ e, e < B → (own_c cs e).toInt = (own_bg (own_dg s d) xs lo hi (e + 1) : Int)) → (∀ e, e < B → (own_c cs (B + e)).toInt = (N e : Int)) → (∀ e, e < bI → N e = own_bg (own_dg s d) xs lo hi (e + 1)) → own_M (own_dg s d) B xs lo hi N ≤ K → own_V l Z n0 ({ frames := 1, cells := 0, slots := 0, locals := 16 } : Room) "com/example/rank_keeper/rankkeeper/RadixSort" "place" prog_11_method_3_code 12 none (fun v h' => v = none ∧ ∃ (ys : List Int64) (cs' : List Int32), own_A Z h' av .long (ys.map Value.long) ∧ own_A Z h' ac .int (cs'.map Value.int) ∧ cs'.length = 4096 ∧ own_P xs ys lo hi ∧ ∀ i j, lo ≤ i → i ≤ j → j < hi → own_dg s d (own_g ys i) ≤ own_dg s d (own_g ys j)) h 0 0 9 #[.val (.ref av), .val (.ref ac), .val (.int bk), .val (.int sh), .val (.int b), j5, j6, j7, j8, j9, j10, j11] []

set_option maxRecDepth 65536 in
set_option maxHeartbeats 4000000 in
theorem own_inner {l : Launch} {Z : State} {a0 : Array Value} (hw : ∀ d ∈ tables_1, d.before a0 Z = true) {n0 : Nat} {av ac : Addr} (ga : n0 ≤ av) (gc : n0 ≤ ac) (hne : av ≠ ac) {bk sh : Int32} {s d B : Nat} (hs : sh.toInt = s) (hB : B = 2 ^ d) (hb : bk.toInt = B) (hsd : s + d ≤ 63) (hd : d ≤ 5) {xs : List Int64} {lo hi : Nat} (h1 : lo ≤ hi) (hl : hi ≤ xs.length) (h40 : hi ≤ 40) {K : Nat} (hcont : ∀ K', K' < K → own_W l Z n0 av ac bk sh s d B xs lo hi K') {bI : Nat} {b : Int32} (hbI : bI < B) (eb : b.toInt = bI) :
    ∀ (k : Nat) (N : Nat → Nat) (vs : List Int64) (val : Int64) (cs : List Int32) (h : Heap) (at' hom : Int32) (j9 j10 j11 : Slot), own_ji j9 → own_jl j10 j11 → at'.toInt = N bI → hom.toInt = (own_dg s d val : Int) → own_A Z h av .long (vs.map Value.long) → own_A Z h ac .int (cs.map Value.int) → vs.length = xs.length → cs.length = 4096 → N bI < vs.length → own_I (own_dg s d) B xs lo hi (vs.set (N bI) val) N → N bI < own_bg (own_dg s d) xs lo hi (bI + 1) → (∀ e, e < B → (own_c cs e).toInt = (own_bg (own_dg s d) xs lo hi (e + 1) : Int)) → (∀ e, e < B → (own_c cs (B + e)).toInt = (N e : Int)) → (∀ e, e < bI → N e = own_bg (own_dg s d) xs lo hi (e + 1)) → (own_M (own_dg s d) B xs lo hi N ≤ K ∧ own_M (own_dg s d) B xs lo hi N ≤ k) → own_V l Z n0 ({ frames := 1, cells := 0, slots := 0, locals := 16 } : Room) "com/example/rank_keeper/rankkeeper/RadixSort" "place" prog_11_method_3_code 12 none (fun v h' => v = none ∧ ∃ (ys : List Int64) (cs' : List Int32), own_A Z h' av .long (ys.map Value.long) ∧ own_A Z h' ac .int (cs'.map Value.int) ∧ cs'.length = 4096 ∧ own_P xs ys lo hi ∧ ∀ i j, lo ≤ i → i ≤ j → j < hi → own_dg s d (own_g ys i) ≤ own_dg s d (own_g ys j)) h 0 0 45 #[.val (.ref av), .val (.ref ac), .val (.int bk), .val (.int sh), .val (.int b), .val (.int at'), .val (.long val), .second, .val (.int hom), j9, j10, j11] [] := by
  intro k
  induction k with
  | zero =>
    intro N vs val cs h at' hom j9 j10 j11 hj9 hj10 eat eho A C hvl hl4 hNv I hat hE hN hP hM
    have hB32 : B ≤ 32 := by rw [hB]; exact Nat.pow_le_pow_right (by decide) hd
    have hdg : ∀ i, lo ≤ i → i < hi → own_dg s d (own_g xs i) < B := fun i _ _ => by rw [hB]; exact own_dg.lt s d _
    have hbg : ∀ e, e ≤ B → own_bg (own_dg s d) xs lo hi e ≤ hi := fun e he => own_bg.le h1 hl hdg he
    have gv : own_g (vs.set (N bI) val) (N bI) = val := by rw [own_gset hNv, if_pos rfl]
    refine own_iload d8_45 rfl ?_
    refine own_iload d8_47 rfl ?_
    refine own_icmpEq d8_49 (fun q => ?_) (fun q => ?_)
    · have hq : own_dg s d val = bI := by omega
      refine own_aloadN d8_93 rfl rfl ?_
      refine own_iload d8_94 rfl ?_
      refine own_lload d8_96 rfl ?_
      refine own_lastore (i := N bI) d8_98 A eat (by simp; omega) ga (fun h2 W A => ?_)
      rw [← List.map_set] at A
      have C := own_A.other W C (Ne.symm hne)
      clear W
      refine own_aloadN d8_99 rfl rfl ?_
      refine own_iloadN d8_100 rfl ?_
      refine own_iload d8_101 rfl ?_
      refine own_iadd d8_103 ?_
      refine own_dup2 d8_104 rfl rfl ?_
      have eix : (bk + b).toInt = ((B + bI : Nat) : Int) := by rw [own_iad hb eb (by omega) (by omega) (by omega) (by omega)]; omega
      refine own_iaload (i := B + bI) d8_105 C eix (own_ia (by omega)) ?_
      refine own_iconst (x := 1) d8_106 rfl ?_
      refine own_iadd d8_107 ?_
      refine own_iastore (i := B + bI) d8_108 C eix (by simp; omega) gc (fun h3 W C => ?_)
      rw [← List.map_set] at C
      have A := own_A.other W A hne
      clear W
      have ev := hN bI hbI
      have ev1 := own_ia1 ev (by omega) (by have := hbg (bI + 1) (by omega); omega)
      refine own_goto d8_109 ?_
      have Mu := own_M.up (dg := own_dg s d) (xs := xs) (lo := lo) (hi := hi) (B := B) (N := N) hbI hat
      refine hcont (own_M (own_dg s d) B xs lo hi (own_up N bI)) (by omega) bI b (vs.set (N bI) val) (own_up N bI) _ h3 _ _ _ _ _ _ _ (own_ji.v _) (own_jl.v _) (own_ji.v _) hj9 hj10 hbI eb A C (by simpa using hl4) (I.close hbI hat (by rw [gv]; exact hq)) (fun e he => ?_) (fun e he => ?_) (fun e he => ?_) (Nat.le_refl _)
      · rw [own_cset (by omega), if_neg (by omega)]; exact hE e he
      · rw [own_cset (by omega)]
        by_cases z : e = bI
        · subst z; rw [if_pos rfl, ev1, own_up.self]; omega
        · rw [if_neg (by omega), own_up.other z]; exact hN e he
      · rw [own_up.other (by omega)]; exact hP e he
    · obtain ⟨hmB, r1, r2⟩ := I.room h1 hl hdg hbI hat (hm := own_dg s d val) (by rw [gv]) (by omega)
      have Mu := own_M.up (dg := own_dg s d) (xs := xs) (lo := lo) (hi := hi) (B := B) (N := N) hmB r1
      omega
  | succ k ih =>
    intro N vs val cs h at' hom j9 j10 j11 hj9 hj10 eat eho A C hvl hl4 hNv I hat hE hN hP hM
    have hB32 : B ≤ 32 := by rw [hB]; exact Nat.pow_le_pow_right (by decide) hd
    have hdg : ∀ i, lo ≤ i → i < hi → own_dg s d (own_g xs i) < B := fun i _ _ => by rw [hB]; exact own_dg.lt s d _
    have hbg : ∀ e, e ≤ B → own_bg (own_dg s d) xs lo hi e ≤ hi := fun e he => own_bg.le h1 hl hdg he
    have gv : own_g (vs.set (N bI) val) (N bI) = val := by rw [own_gset hNv, if_pos rfl]
    refine own_iload d8_45 rfl ?_
    refine own_iload d8_47 rfl ?_
    refine own_icmpEq d8_49 (fun q => ?_) (fun q => ?_)
    · have hq : own_dg s d val = bI := by omega
      refine own_aloadN d8_93 rfl rfl ?_
      refine own_iload d8_94 rfl ?_
      refine own_lload d8_96 rfl ?_
      refine own_lastore (i := N bI) d8_98 A eat (by simp; omega) ga (fun h2 W A => ?_)
      rw [← List.map_set] at A
      have C := own_A.other W C (Ne.symm hne)
      clear W
      refine own_aloadN d8_99 rfl rfl ?_
      refine own_iloadN d8_100 rfl ?_
      refine own_iload d8_101 rfl ?_
      refine own_iadd d8_103 ?_
      refine own_dup2 d8_104 rfl rfl ?_
      have eix : (bk + b).toInt = ((B + bI : Nat) : Int) := by rw [own_iad hb eb (by omega) (by omega) (by omega) (by omega)]; omega
      refine own_iaload (i := B + bI) d8_105 C eix (own_ia (by omega)) ?_
      refine own_iconst (x := 1) d8_106 rfl ?_
      refine own_iadd d8_107 ?_
      refine own_iastore (i := B + bI) d8_108 C eix (by simp; omega) gc (fun h3 W C => ?_)
      rw [← List.map_set] at C
      have A := own_A.other W A hne
      clear W
      have ev := hN bI hbI
      have ev1 := own_ia1 ev (by omega) (by have := hbg (bI + 1) (by omega); omega)
      refine own_goto d8_109 ?_
      have Mu := own_M.up (dg := own_dg s d) (xs := xs) (lo := lo) (hi := hi) (B := B) (N := N) hbI hat
      refine hcont (own_M (own_dg s d) B xs lo hi (own_up N bI)) (by omega) bI b (vs.set (N bI) val) (own_up N bI) _ h3 _ _ _ _ _ _ _ (own_ji.v _) (own_jl.v _) (own_ji.v _) hj9 hj10 hbI eb A C (by simpa using hl4) (I.close hbI hat (by rw [gv]; exact hq)) (fun e he => ?_) (fun e he => ?_) (fun e he => ?_) (Nat.le_refl _)
      · rw [own_cset (by omega), if_neg (by omega)]; exact hE e he
      · rw [own_cset (by omega)]
        by_cases z : e = bI
        · subst z; rw [if_pos rfl, ev1, own_up.self]; omega
        · rw [if_neg (by omega), own_up.other z]; exact hN e he
      · rw [own_up.other (by omega)]; exact hP e he
    · obtain ⟨hm, ehm⟩ : ∃ hm, hm = own_dg s d val := ⟨_, rfl⟩
      rw [← ehm] at eho
      obtain ⟨hmB, r1, r2⟩ := I.room h1 hl hdg hbI hat (hm := hm) (by rw [gv, ehm]) (by omega)
      have Mu := own_M.up (dg := own_dg s d) (xs := xs) (lo := lo) (hi := hi) (B := B) (N := N) hmB r1
      have hbh := hbg (hm + 1) (by omega)
      have I2 := I.step h1 hl hdg hbI hat (hm := hm) (by rw [gv, ehm]) (by omega)
      refine own_aloadN d8_52 rfl rfl ?_
      refine own_iloadN d8_53 rfl ?_
      refine own_iload d8_54 rfl ?_
      refine own_iadd d8_56 ?_
      refine own_dup2 d8_57 rfl rfl ?_
      have eix : (bk + hom).toInt = ((B + hm : Nat) : Int) := by rw [own_iad hb eho (by omega) (by omega) (by omega) (by omega)]; omega
      have ev := hN hm hmB
      have ev1 := own_ia1 ev (by omega) (by omega)
      refine own_iaload (i := B + hm) d8_58 C eix (own_ia (by omega)) ?_
      refine own_dupX2 d8_59 rfl rfl rfl ?_
      refine own_iconst (x := 1) d8_60 rfl ?_
      refine own_iadd d8_61 ?_
      refine own_iastore (i := B + hm) d8_62 C eix (by simp; omega) gc (fun h2 W C => ?_)
      rw [← List.map_set] at C
      have A := own_A.other W A hne
      clear W
      refine own_istore (L' := #[.val (.ref av), .val (.ref ac), .val (.int bk), .val (.int sh), .val (.int b), .val (.int at'), .val (.long val), .second, .val (.int hom), .val (.int (own_c cs (B + hm))), j10, j11]) d8_63 (by rcases hj9 with rfl | ⟨y, rfl⟩ <;> rfl) ?_
      refine own_aloadN d8_65 rfl rfl ?_
      refine own_iload d8_66 rfl ?_
      refine own_laload (i := N hm) d8_68 A ev (own_la (by omega)) ?_
      refine own_lstore (L' := #[.val (.ref av), .val (.ref ac), .val (.int bk), .val (.int sh), .val (.int b), .val (.int at'), .val (.long val), .second, .val (.int hom), .val (.int (own_c cs (B + hm))), .val (.long (own_g vs (N hm))), .second]) d8_69 (by rcases hj10 with ⟨rfl, rfl⟩ | ⟨y, rfl, rfl⟩ <;> rfl) ?_
      refine own_aloadN d8_71 rfl rfl ?_
      refine own_iload d8_72 rfl ?_
      refine own_lload d8_74 rfl ?_
      refine own_lastore (i := N hm) d8_76 A ev (by simp; omega) ga (fun h3 W A => ?_)
      rw [← List.map_set] at A
      have C := own_A.other W C (Ne.symm hne)
      clear W
      refine own_lload d8_77 rfl ?_
      refine own_lstore (L' := #[.val (.ref av), .val (.ref ac), .val (.int bk), .val (.int sh), .val (.int b), .val (.int at'), .val (.long (own_g vs (N hm))), .second, .val (.int hom), .val (.int (own_c cs (B + hm))), .val (.long (own_g vs (N hm))), .second]) d8_79 rfl ?_
      refine own_lload d8_81 rfl ?_
      refine own_iloadN d8_83 rfl ?_
      refine own_iloadN d8_84 rfl ?_
      refine own_callS (y := (⟨"com/example/rank_keeper/rankkeeper/RadixSort", "digit", "(JII)I"⟩ : MethodName)) (argsL := [(.long (own_g vs (N hm))), (.int sh), (.int bk)]) (rest := []) (W := 0) (cells' := 0) (slots' := 0) (R' := ({ frames := 0, cells := 0, slots := 0, locals := 0 } : Room)) (own_digit hw (own_g vs (N hm)) hs (by rw [hb, hB]) hsd hd) (fun m => own_ef7_JII m (own_g vs (N hm)) sh bk) own_pl7 own_pd7 rfl d8_85 (own_w hw 29 rfl) (own_w hw 30 rfl) (own_w hw 11 rfl) (own_w hw 31 rfl) (by decide) rfl rfl (Nat.le_of_eq rfl) (by decide) (by decide) rfl rfl (by decide) (by decide) ?_
      rintro _ _ ⟨r, rfl, er, rfl⟩
      refine own_istore (L' := #[.val (.ref av), .val (.ref ac), .val (.int bk), .val (.int sh), .val (.int b), .val (.int at'), .val (.long (own_g vs (N hm))), .second, .val (.int r), .val (.int (own_c cs (B + hm))), .val (.long (own_g vs (N hm))), .second]) d8_88 rfl ?_
      refine own_goto d8_90 ?_
      refine ih (own_up N hm) (vs.set (N hm) val) (own_g vs (N hm)) _ h3 at' r _ _ _ (own_ji.v _) (own_jl.v _) (by rw [own_up.other (by omega)]; exact eat) er A C (by simpa using hvl) (by simpa using hl4) (by rw [own_up.other (by omega)]; simpa using hNv) ?_ (by rw [own_up.other (by omega)]; exact hat) (fun e he => ?_) (fun e he => ?_) (fun e he => ?_) (by omega)
      · rw [own_up.other (by omega), ← own_sw (by omega) (by omega) hNv rfl]; exact I2
      · rw [own_cset (by omega), if_neg (by omega)]; exact hE e he
      · rw [own_cset (by omega)]
        by_cases z : e = hm
        · subst z; rw [if_pos rfl, ev1, own_up.self]; omega
        · rw [if_neg (by omega), own_up.other z]; exact hN e he
      · have := hP e he
        rw [own_up.other (by rintro rfl; omega)]; exact this

set_option maxRecDepth 65536 in
set_option maxHeartbeats 4000000 in
theorem own_while {l : Launch} {Z : State} {a0 : Array Value} (hw : ∀ d ∈ tables_1, d.before a0 Z = true) {n0 : Nat} {av ac : Addr} (ga : n0 ≤ av) (gc : n0 ≤ ac) (hne : av ≠ ac) {bk sh : Int32} {s d B : Nat} (hs : sh.toInt = s) (hB : B = 2 ^ d) (hb : bk.toInt = B) (hsd : s + d ≤ 63) (hd : d ≤ 5) {xs : List Int64} {lo hi : Nat} (h1 : lo ≤ hi) (hl : hi ≤ xs.length) (h40 : hi ≤ 40) : ∀ K, own_W l Z n0 av ac bk sh s d B xs lo hi K := by
  intro K
  induction K using Nat.strongRecOn with
  | ind K ihK =>
  have key : ∀ (J j : Nat), j ≤ J → ∀ (bI : Nat) (b : Int32) (vs : List Int64) (N : Nat → Nat) (cs : List Int32) (h : Heap) (j5 j6 j7 j8 j9 j10 j11 : Slot), own_ji j5 → own_jl j6 j7 → own_ji j8 → own_ji j9 → own_jl j10 j11 → bI + j = B → bI < B → b.toInt = bI → own_A Z h av .long (vs.map Value.long) → own_A Z h ac .int (cs.map Value.int) → cs.length = 4096 → own_I (own_dg s d) B xs lo hi vs N → (∀ e, e < B → (own_c cs e).toInt = (own_bg (own_dg s d) xs lo hi (e + 1) : Int)) → (∀ e, e < B → (own_c cs (B + e)).toInt = (N e : Int)) → (∀ e, e < bI → N e = own_bg (own_dg s d) xs lo hi (e + 1)) → own_M (own_dg s d) B xs lo hi N ≤ K → own_V l Z n0 ({ frames := 1, cells := 0, slots := 0, locals := 16 } : Room) "com/example/rank_keeper/rankkeeper/RadixSort" "place" prog_11_method_3_code 12 none (fun v h' => v = none ∧ ∃ (ys : List Int64) (cs' : List Int32), own_A Z h' av .long (ys.map Value.long) ∧ own_A Z h' ac .int (cs'.map Value.int) ∧ cs'.length = 4096 ∧ own_P xs ys lo hi ∧ ∀ i j, lo ≤ i → i ≤ j → j < hi → own_dg s d (own_g ys i) ≤ own_dg s d (own_g ys j)) h 0 0 9 #[.val (.ref av), .val (.ref ac), .val (.int bk), .val (.int sh), .val (.int b), j5, j6, j7, j8, j9, j10, j11] [] := by
    intro J
    induction J with
    | zero => intro j hj bI b vs N cs h j5 j6 j7 j8 j9 j10 j11 hj5 hj6 hj8 hj9 hj10 hbj hbI; omega
    | succ J ihj0 =>
      intro j hjJ bI b vs N cs h j5 j6 j7 j8 j9 j10 j11 hj5 hj6 hj8 hj9 hj10 hbj hbI eb A C hl4 I hE hN hP hM
      have ihj : ∀ i, i + 1 = j → _ := fun i hi => ihj0 i (by omega)
      have hB32 : B ≤ 32 := by rw [hB]; exact Nat.pow_le_pow_right (by decide) hd
      have hdg : ∀ i, lo ≤ i → i < hi → own_dg s d (own_g xs i) < B := fun i _ _ => by rw [hB]; exact own_dg.lt s d _
      have hbg : ∀ e, e ≤ B → own_bg (own_dg s d) xs lo hi e ≤ hi := fun e he => own_bg.le h1 hl hdg he
      have eix : (bk + b).toInt = ((B + bI : Nat) : Int) := by rw [own_iad hb eb (by omega) (by omega) (by omega) (by omega)]; omega
      have ev := hN bI hbI; have eE := hE bI hbI; have n2 := I.n2 bI hbI
      have hbb := hbg (bI + 1) (by omega)
      have hvl : vs.length = xs.length := I.p.len
      refine own_aloadN d8_9 rfl rfl ?_
      refine own_iloadN d8_10 rfl ?_
      refine own_iload d8_11 rfl ?_
      refine own_iadd d8_13 ?_
      refine own_iaload (i := B + bI) d8_14 C eix (own_ia (by omega)) ?_
      refine own_aloadN d8_15 rfl rfl ?_
      refine own_iload d8_16 rfl ?_
      refine own_iaload (i := bI) d8_18 C eb (own_ia (by omega)) ?_
      refine own_icmpGe d8_19 (fun q => ?_) (fun q => ?_)
      · have hz : N bI = own_bg (own_dg s d) xs lo hi (bI + 1) := by omega
        have eb1 := own_ia1 eb (by omega) (by omega)
        refine own_iinc (L' := #[.val (.ref av), .val (.ref ac), .val (.int bk), .val (.int sh), .val (.int (b + (1 : Int32))), j5, j6, j7, j8, j9, j10, j11]) (z := 1) d8_112 rfl rfl rfl ?_
        refine own_goto d8_115 ?_
        refine own_iload d8_3 rfl ?_
        refine own_iloadN d8_5 rfl ?_
        refine own_icmpGe d8_6 (fun q2 => ?_) (fun q2 => ?_)
        · have hj0 : bI + 1 = B := by omega
          exact own_ret0 d8_118.1 rfl (by decide) (by decide) ⟨rfl, vs, cs, A, C, hl4, I.p, I.done h1 hl hdg (fun e he => by
            by_cases z : e = bI
            · subst z; exact hz
            · exact hP e (by omega))⟩
        · cases j with
          | zero => omega
          | succ j => exact ihj j rfl (bI + 1) (b + 1) vs N cs h j5 j6 j7 j8 j9 j10 j11 hj5 hj6 hj8 hj9 hj10 (by omega) (by omega) (by rw [eb1]; omega) A C hl4 I hE hN (fun e he => by
              by_cases z : e = bI
              · subst z; exact hz
              · exact hP e (by omega)) hM
      · refine own_aloadN d8_22 rfl rfl ?_
        refine own_iloadN d8_23 rfl ?_
        refine own_iload d8_24 rfl ?_
        refine own_iadd d8_26 ?_
        refine own_iaload (i := B + bI) d8_27 C eix (own_ia (by omega)) ?_
        refine own_istore (L' := #[.val (.ref av), .val (.ref ac), .val (.int bk), .val (.int sh), .val (.int b), .val (.int (own_c cs (B + bI))), j6, j7, j8, j9, j10, j11]) d8_28 (by rcases hj5 with rfl | ⟨y, rfl⟩ <;> rfl) ?_
        refine own_aloadN d8_30 rfl rfl ?_
        refine own_iload d8_31 rfl ?_
        refine own_laload (i := N bI) d8_33 A ev (own_la (by omega)) ?_
        refine own_lstore (L' := #[.val (.ref av), .val (.ref ac), .val (.int bk), .val (.int sh), .val (.int b), .val (.int (own_c cs (B + bI))), .val (.long (own_g vs (N bI))), .second, j8, j9, j10, j11]) d8_34 (by rcases hj6 with ⟨rfl, rfl⟩ | ⟨y, rfl, rfl⟩ <;> rfl) ?_
        refine own_lload d8_36 rfl ?_
        refine own_iloadN d8_38 rfl ?_
        refine own_iloadN d8_39 rfl ?_
        refine own_callS (y := (⟨"com/example/rank_keeper/rankkeeper/RadixSort", "digit", "(JII)I"⟩ : MethodName)) (argsL := [(.long (own_g vs (N bI))), (.int sh), (.int bk)]) (rest := []) (W := 0) (cells' := 0) (slots' := 0) (R' := ({ frames := 0, cells := 0, slots := 0, locals := 0 } : Room)) (own_digit hw (own_g vs (N bI)) hs (by rw [hb, hB]) hsd hd) (fun m => own_ef7_JII m (own_g vs (N bI)) sh bk) own_pl7 own_pd7 rfl d8_40 (own_w hw 29 rfl) (own_w hw 30 rfl) (own_w hw 11 rfl) (own_w hw 31 rfl) (by decide) rfl rfl (Nat.le_of_eq rfl) (by decide) (by decide) rfl rfl (by decide) (by decide) ?_
        rintro _ _ ⟨r, rfl, er, rfl⟩
        refine own_istore (L' := #[.val (.ref av), .val (.ref ac), .val (.int bk), .val (.int sh), .val (.int b), .val (.int (own_c cs (B + bI))), .val (.long (own_g vs (N bI))), .second, .val (.int r), j9, j10, j11]) d8_43 (by rcases hj8 with rfl | ⟨y, rfl⟩ <;> rfl) ?_
        exact own_inner hw ga gc hne hs hB hb hsd hd h1 hl h40 (K := K) (fun K' hK' => ihK K' hK') hbI eb K N vs (own_g vs (N bI)) cs h _ r _ _ _ hj9 hj10 ev er A C hvl hl4 (by omega) (by rw [own_setself (by omega)]; exact I) (by omega) hE hN hP ⟨hM, hM⟩
  intro bI b vs N cs h j5 j6 j7 j8 j9 j10 j11 hj5 hj6 hj8 hj9 hj10 hbI
  exact key (B - bI) (B - bI) (Nat.le_refl _) bI b vs N cs h j5 j6 j7 j8 j9 j10 j11 hj5 hj6 hj8 hj9 hj10 (by omega) hbI

set_option maxRecDepth 65536 in
set_option maxHeartbeats 4000000 in
theorem own_place {l : Launch} {Z : State} {a0 : Array Value} (hw : ∀ d ∈ tables_1, d.before a0 Z = true) {n0 : Nat} {h : Heap} {av ac : Addr} (ga : n0 ≤ av) (gc : n0 ≤ ac) (hne : av ≠ ac) {bk sh : Int32} {s d B : Nat} (hs : sh.toInt = s) (hB : B = 2 ^ d) (hb : bk.toInt = B) (hsd : s + d ≤ 63) (hd : d ≤ 5) {xs : List Int64} {lo hi : Nat} (h1 : lo ≤ hi) (hl : hi ≤ xs.length) (h40 : hi ≤ 40) {cs : List Int32} (A : own_A Z h av .long (xs.map Value.long)) (C : own_A Z h ac .int (cs.map Value.int)) (hl4 : cs.length = 4096) (hE : ∀ e, e < B → (own_c cs e).toInt = (own_bg (own_dg s d) xs lo hi (e + 1) : Int)) (hN : ∀ e, e < B → (own_c cs (B + e)).toInt = (own_bg (own_dg s d) xs lo hi e : Int)) :
    own_V l Z n0 ({ frames := 1, cells := 0, slots := 0, locals := 16 } : Room) "com/example/rank_keeper/rankkeeper/RadixSort" "place" prog_11_method_3_code 12 none (fun v h' => v = none ∧ ∃ (ys : List Int64) (cs' : List Int32), own_A Z h' av .long (ys.map Value.long) ∧ own_A Z h' ac .int (cs'.map Value.int) ∧ cs'.length = 4096 ∧ own_P xs ys lo hi ∧ ∀ i j, lo ≤ i → i ≤ j → j < hi → own_dg s d (own_g ys i) ≤ own_dg s d (own_g ys j)) h 0 0 0 #[.val (.ref av), .val (.ref ac), .val (.int bk), .val (.int sh), .unset, .unset, .unset, .unset, .unset, .unset, .unset, .unset] [] := by
  have p0 : 0 < B := by rw [hB]; exact Nat.two_pow_pos d
  refine own_iconst (x := 0) d8_0 rfl ?_
  refine own_istore (L' := #[.val (.ref av), .val (.ref ac), .val (.int bk), .val (.int sh), .val (.int (0 : Int32)), .unset, .unset, .unset, .unset, .unset, .unset, .unset]) d8_1 rfl ?_
  refine own_iload d8_3 rfl ?_
  refine own_iloadN d8_5 rfl ?_
  refine own_icmpGe d8_6 (fun q => False.elim (by have := (show (0 : Int32).toInt = 0 from rfl); omega)) (fun _ => ?_)
  exact own_while hw ga gc hne hs hB hb hsd hd h1 hl h40 _ 0 0 xs (own_bg (own_dg s d) xs lo hi) cs h _ _ _ _ _ _ _ (Or.inl rfl) (Or.inl ⟨rfl, rfl⟩) (Or.inl rfl) (Or.inl rfl) (Or.inl ⟨rfl, rfl⟩) p0 rfl A C hl4 (own_I.start h1 hl) hE hN (by intro e he; omega) (Nat.le_refl _)
theorem own_im1 {x : Int32} {n : Int} (hx : x.toInt = n) (h : 1 ≤ n) (h2 : n < 1000000) : (x + (-1)).toInt = n - 1 := by
  have a1 := c_iadd x (-1); have a2 := Int32.toInt_lt (x + (-1)); have a3 := Int32.le_toInt (x + (-1))
  rw [show (-1 : Int32).toInt = -1 from rfl] at a1
  omega
theorem own_is1 {x : Int32} {n : Int} (hx : x.toInt = n) (h : 1 ≤ n) (h2 : n < 1000000) : (x - 1).toInt = n - 1 := own_isb hx (show (1 : Int32).toInt = 1 from rfl) (by omega) h2 (by omega) (by omega)
theorem own_sv {vs : List Int64} {k : Nat} {x : Int64} (hk : k < vs.length) (h1 : 1 ≤ k) : ((vs.set k x).set k (own_g (vs.set k x) (k - 1))).set (k - 1) (own_g (vs.set k x) k) = (vs.set k (own_g vs (k - 1))).set (k - 1) x := by
  rw [own_gset hk, own_gset hk, if_pos rfl, if_neg (by omega), List.set_set]
set_option maxRecDepth 65536 in
set_option maxHeartbeats 4000000 in
theorem own_in1 {l : Launch} {Z : State} {a0 : Array Value} (hw : ∀ d ∈ tables_1, d.before a0 Z = true) {n0 : Nat} {av ac : Addr} (ga : n0 ≤ av) (hne : av ≠ ac) {fr to : Int32} {xs : List Int64} {cs : List Int32} {lo hi : Nat} (ef : fr.toInt = lo) (et : to.toInt = hi) (h1 : lo < hi) (hl : hi ≤ xs.length) (h40 : hi ≤ 40) {I : Nat} {i : Int32} (ei : i.toInt = I) (hI : I < hi) {val : Int64} (hcont : (∀ (ys : List Int64) (h' : Heap) (i' : Int32) (j4 j5 j6 : Slot), own_jl j4 j5 → own_ji j6 → i'.toInt = ((I + 1 : Nat) : Int) → own_A Z h' av .long (ys.map Value.long) → own_A Z h' ac .int (cs.map Value.int) → own_P xs ys lo (I + 1) → own_S ys lo (I + 1) → own_V l Z n0 ({ frames := 0, cells := 0, slots := 0, locals := 0 } : Room) "com/example/rank_keeper/rankkeeper/RadixSort" "insertionSort" prog_11_method_6_code 7 none (fun v h' => v = none ∧ ∃ ys : List Int64, own_A Z h' av .long (ys.map Value.long) ∧ own_A Z h' ac .int (cs.map Value.int) ∧ own_P xs ys lo hi ∧ own_S ys lo hi) h' 0 0 4 #[.val (.ref av), .val (.int fr), .val (.int to), .val (.int i'), j4, j5, j6] [])) :
    ∀ (m k : Nat) (vs : List Int64) (h : Heap) (at' : Int32), k = lo + m → at'.toInt = k → own_A Z h av .long (vs.map Value.long) → own_A Z h ac .int (cs.map Value.int) → vs.length = xs.length → own_T xs lo I (vs.set k val) k → own_V l Z n0 ({ frames := 0, cells := 0, slots := 0, locals := 0 } : Room) "com/example/rank_keeper/rankkeeper/RadixSort" "insertionSort" prog_11_method_6_code 7 none (fun v h' => v = none ∧ ∃ ys : List Int64, own_A Z h' av .long (ys.map Value.long) ∧ own_A Z h' ac .int (cs.map Value.int) ∧ own_P xs ys lo hi ∧ own_S ys lo hi) h 0 0 17 #[.val (.ref av), .val (.int fr), .val (.int to), .val (.int i), .val (.long val), .second, .val (.int at')] [] := by
  intro m
  induction m with
  | zero =>
    intro k vs h at' hm ea A C hvl T
    have k1 := T.k1; have k2 := T.k2
    have gk : own_g (vs.set k val) k = val := by rw [own_gset (by omega), if_pos rfl]
    refine own_iload d13_17 rfl ?_
    refine own_iloadN d13_19 rfl ?_
    refine own_icmpLe d13_20 (fun q => ?_) (fun q => ?_)
    · refine own_aloadN d13_51 rfl rfl ?_
      refine own_iload d13_52 rfl ?_
      refine own_lload d13_54 rfl ?_
      refine own_lastore (i := k) d13_56 A ea (by simp; omega) ga (fun h2 W A => ?_)
      rw [← List.map_set] at A
      have C := own_A.other W C (Ne.symm hne)
      clear W
      refine own_iinc (L' := #[.val (.ref av), .val (.int fr), .val (.int to), .val (.int (i + (1 : Int32))), .val (.long val), .second, .val (.int at')]) (z := 1) d13_57 rfl rfl rfl ?_
      refine own_goto d13_60 ?_
      exact hcont _ h2 _ _ _ _ (own_jl.v _) (own_ji.v _) (by rw [own_ia1 ei (by omega) (by omega)]; omega) A C T.p (T.done (Or.inl (by omega)))
    · omega
  | succ m ih =>
    intro k vs h at' hm ea A C hvl T
    have k1 := T.k1; have k2 := T.k2
    have gk : own_g (vs.set k val) k = val := by rw [own_gset (by omega), if_pos rfl]
    refine own_iload d13_17 rfl ?_
    refine own_iloadN d13_19 rfl ?_
    refine own_icmpLe d13_20 (fun q => ?_) (fun q => ?_)
    · refine own_aloadN d13_51 rfl rfl ?_
      refine own_iload d13_52 rfl ?_
      refine own_lload d13_54 rfl ?_
      refine own_lastore (i := k) d13_56 A ea (by simp; omega) ga (fun h2 W A => ?_)
      rw [← List.map_set] at A
      have C := own_A.other W C (Ne.symm hne)
      clear W
      refine own_iinc (L' := #[.val (.ref av), .val (.int fr), .val (.int to), .val (.int (i + (1 : Int32))), .val (.long val), .second, .val (.int at')]) (z := 1) d13_57 rfl rfl rfl ?_
      refine own_goto d13_60 ?_
      exact hcont _ h2 _ _ _ _ (own_jl.v _) (own_ji.v _) (by rw [own_ia1 ei (by omega) (by omega)]; omega) A C T.p (T.done (Or.inl (by omega)))
    · have gk1 : own_g (vs.set k val) (k - 1) = own_g vs (k - 1) := by rw [own_gset (by omega), if_neg (by omega)]
      have em := own_is1 ea (by omega) (by omega)
      have em : (at' - 1).toInt = ((k - 1 : Nat) : Int) := by rw [em]; omega
      refine own_aloadN d13_23 rfl rfl ?_
      refine own_iload d13_24 rfl ?_
      refine own_iconst (x := 1) d13_26 rfl ?_
      refine own_isub d13_27 ?_
      refine own_laload (i := k - 1) d13_28 A em (own_la (by omega)) ?_
      refine own_lload d13_29 rfl ?_
      refine own_lcmpLe d13_31 d13_32 (fun q2 => ?_) (fun q2 => ?_)
      · refine own_aloadN d13_51 rfl rfl ?_
        refine own_iload d13_52 rfl ?_
        refine own_lload d13_54 rfl ?_
        refine own_lastore (i := k) d13_56 A ea (by simp; omega) ga (fun h2 W A => ?_)
        rw [← List.map_set] at A
        have C := own_A.other W C (Ne.symm hne)
        clear W
        refine own_iinc (L' := #[.val (.ref av), .val (.int fr), .val (.int to), .val (.int (i + (1 : Int32))), .val (.long val), .second, .val (.int at')]) (z := 1) d13_57 rfl rfl rfl ?_
        refine own_goto d13_60 ?_
        exact hcont _ h2 _ _ _ _ (own_jl.v _) (own_ji.v _) (by rw [own_ia1 ei (by omega) (by omega)]; omega) A C T.p (T.done (Or.inr (by rw [gk, gk1]; omega)))
      · refine own_aloadN d13_35 rfl rfl ?_
        refine own_iload d13_36 rfl ?_
        refine own_aloadN d13_38 rfl rfl ?_
        refine own_iload d13_39 rfl ?_
        refine own_iconst (x := 1) d13_41 rfl ?_
        refine own_isub d13_42 ?_
        refine own_laload (i := k - 1) d13_43 A em (own_la (by omega)) ?_
        refine own_lastore (i := k) d13_44 A ea (by simp; omega) ga (fun h2 W A => ?_)
        rw [← List.map_set] at A
        have C := own_A.other W C (Ne.symm hne)
        clear W
        refine own_iinc (L' := #[.val (.ref av), .val (.int fr), .val (.int to), .val (.int i), .val (.long val), .second, .val (.int (at' + (-1 : Int32)))]) (z := -1) d13_45 rfl rfl rfl ?_
        refine own_goto d13_48 ?_
        exact ih (k - 1) (vs.set k (own_g vs (k - 1))) h2 _ (by omega) (by rw [own_im1 ea (by omega) (by omega)]; omega) A C (by simpa using hvl) (by rw [← own_sv (by omega) (by omega)]; exact T.step (by omega) (by omega) (by rw [gk, gk1]; omega))

set_option maxRecDepth 65536 in
set_option maxHeartbeats 4000000 in
theorem own_in2 {l : Launch} {Z : State} {a0 : Array Value} (hw : ∀ d ∈ tables_1, d.before a0 Z = true) {n0 : Nat} {av ac : Addr} (ga : n0 ≤ av) (hne : av ≠ ac) {fr to : Int32} {xs : List Int64} {cs : List Int32} {lo hi : Nat} (ef : fr.toInt = lo) (et : to.toInt = hi) (h1 : lo < hi) (hl : hi ≤ xs.length) (h40 : hi ≤ 40) :
    ∀ (j I : Nat) (i : Int32) (vs : List Int64) (h : Heap) (j4 j5 j6 : Slot), own_jl j4 j5 → own_ji j6 → I + j = hi → lo < I → i.toInt = I → own_A Z h av .long (vs.map Value.long) → own_A Z h ac .int (cs.map Value.int) → own_P xs vs lo I → own_S vs lo I → own_V l Z n0 ({ frames := 0, cells := 0, slots := 0, locals := 0 } : Room) "com/example/rank_keeper/rankkeeper/RadixSort" "insertionSort" prog_11_method_6_code 7 none (fun v h' => v = none ∧ ∃ ys : List Int64, own_A Z h' av .long (ys.map Value.long) ∧ own_A Z h' ac .int (cs.map Value.int) ∧ own_P xs ys lo hi ∧ own_S ys lo hi) h 0 0 4 #[.val (.ref av), .val (.int fr), .val (.int to), .val (.int i), j4, j5, j6] [] := by
  intro j
  induction j with
  | zero =>
    intro I i vs h j4 j5 j6 hj4 hj6 hI hlo ei A C P S
    refine own_iloadN d13_4 rfl ?_
    refine own_iloadN d13_5 rfl ?_
    refine own_icmpGe d13_6 (fun _ => ?_) (fun q => False.elim (by omega))
    have e : I = hi := by omega
    subst e
    exact own_ret0 d13_63.1 rfl (by decide) (by decide) ⟨rfl, vs, A, C, P, S⟩
  | succ j ih =>
    intro I i vs h j4 j5 j6 hj4 hj6 hI hlo ei A C P S
    have hvl : vs.length = xs.length := P.len
    refine own_iloadN d13_4 rfl ?_
    refine own_iloadN d13_5 rfl ?_
    refine own_icmpGe d13_6 (fun q => False.elim (by omega)) (fun _ => ?_)
    refine own_aloadN d13_9 rfl rfl ?_
    refine own_iloadN d13_10 rfl ?_
    refine own_laload (i := I) d13_11 A ei (own_la (by omega)) ?_
    refine own_lstore (L' := #[.val (.ref av), .val (.int fr), .val (.int to), .val (.int i), .val (.long (own_g vs I)), .second, j6]) d13_12 (by rcases hj4 with ⟨rfl, rfl⟩ | ⟨y, rfl, rfl⟩ <;> rfl) ?_
    refine own_iloadN d13_14 rfl ?_
    refine own_istore (L' := #[.val (.ref av), .val (.int fr), .val (.int to), .val (.int i), .val (.long (own_g vs I)), .second, .val (.int i)]) d13_15 (by rcases hj6 with rfl | ⟨y, rfl⟩ <;> rfl) ?_
    exact own_in1 hw ga hne ef et h1 hl h40 ei (by omega) (fun ys h' i' j4 j5 j6 q4 q6 e' A' C' P' S' => ih (I + 1) i' ys h' j4 j5 j6 q4 q6 (by omega) (by omega) e' A' C' P' S') (I - lo) I vs h i (by omega) ei A C hvl (by rw [own_setself (by omega)]; exact own_T.start P S (by omega))

set_option maxRecDepth 65536 in
set_option maxHeartbeats 4000000 in
theorem own_ins {l : Launch} {Z : State} {a0 : Array Value} (hw : ∀ d ∈ tables_1, d.before a0 Z = true) {n0 : Nat} {h : Heap} {av ac : Addr} (ga : n0 ≤ av) (hne : av ≠ ac) {fr to : Int32} {xs : List Int64} {cs : List Int32} {lo hi : Nat} (ef : fr.toInt = lo) (et : to.toInt = hi) (h1 : lo < hi) (hl : hi ≤ xs.length) (h40 : hi ≤ 40) (A : own_A Z h av .long (xs.map Value.long)) (C : own_A Z h ac .int (cs.map Value.int)) :
    own_V l Z n0 ({ frames := 0, cells := 0, slots := 0, locals := 0 } : Room) "com/example/rank_keeper/rankkeeper/RadixSort" "insertionSort" prog_11_method_6_code 7 none (fun v h' => v = none ∧ ∃ ys : List Int64, own_A Z h' av .long (ys.map Value.long) ∧ own_A Z h' ac .int (cs.map Value.int) ∧ own_P xs ys lo hi ∧ own_S ys lo hi) h 0 0 0 #[.val (.ref av), .val (.int fr), .val (.int to), .unset, .unset, .unset, .unset] [] := by
  refine own_iloadN d13_0 rfl ?_
  refine own_iconst (x := 1) d13_1 rfl ?_
  refine own_iadd d13_2 ?_
  refine own_istoreN (L' := #[.val (.ref av), .val (.int fr), .val (.int to), .val (.int (fr + (1 : Int32))), .unset, .unset, .unset]) d13_3 rfl ?_
  exact own_in2 hw ga hne ef et h1 hl h40 (hi - (lo + 1)) (lo + 1) _ xs h _ _ _ (Or.inl ⟨rfl, rfl⟩) (Or.inl rfl) (by omega) (by omega) (by rw [own_ia1 ef (by omega) (by omega)]; omega) A C (own_P.refl _ _ _) (fun p q p1 p2 p3 => by omega)
set_option maxRecDepth 65536 in
set_option maxHeartbeats 4000000 in
theorem own_cnt {l : Launch} {Z : State} {a0 : Array Value} (hw : ∀ d ∈ tables_1, d.before a0 Z = true) {n0 : Nat} {Q : Option Value → Heap → Prop} {f g : Nat} (hf : 2 ≤ f) (hg : 60 ≤ g) {av ac : Addr} (gc : n0 ≤ ac) (hne : av ≠ ac) {fr to bi db sh bk : Int32} {s d B : Nat} (hs : sh.toInt = s) (hB : B = 2 ^ d) (hb : bk.toInt = B) (hsd : s + d ≤ 63) (hd : d ≤ 5) {xs : List Int64} {lo hi : Nat} (ef : fr.toInt = lo) (et : to.toInt = hi) (h1 : lo ≤ hi) (hl : hi ≤ xs.length) (h40 : hi ≤ 40) (hcont : (∀ (cs : List Int32) (h : Heap) (i : Int32), own_A Z h av .long (xs.map Value.long) → own_A Z h ac .int (cs.map Value.int) → cs.length = 4096 → (∀ e, e < B → (own_c cs e).toInt = (own_n (fun x => decide (own_dg s d x = e)) xs lo hi : Int)) → own_V l Z n0 ({ frames := f, cells := 0, slots := 0, locals := g } : Room) "com/example/rank_keeper/rankkeeper/RadixSort" "sort" prog_11_method_2_code 11 none Q h 0 0 93 #[.val (.ref av), .val (.int fr), .val (.int to), .val (.int bi), .val (.ref ac), .val (.int db), .val (.int sh), .val (.int bk), .val (.int i), .unset, .unset] [])) :
    ∀ (j I : Nat) (i : Int32) (cs : List Int32) (h : Heap), I + j = hi → lo ≤ I → i.toInt = I → own_A Z h av .long (xs.map Value.long) → own_A Z h ac .int (cs.map Value.int) → cs.length = 4096 → (∀ e, e < B → (own_c cs e).toInt = (own_n (fun x => decide (own_dg s d x = e)) xs lo I : Int)) → own_V l Z n0 ({ frames := f, cells := 0, slots := 0, locals := g } : Room) "com/example/rank_keeper/rankkeeper/RadixSort" "sort" prog_11_method_2_code 11 none Q h 0 0 63 #[.val (.ref av), .val (.int fr), .val (.int to), .val (.int bi), .val (.ref ac), .val (.int db), .val (.int sh), .val (.int bk), .val (.int i), .unset, .unset] [] := by
  intro j
  induction j with
  | zero =>
    intro I i cs h hI hlo ei A C hl4 hc
    refine own_iload d2_63 rfl ?_
    refine own_iloadN d2_65 rfl ?_
    refine own_icmpGe d2_66 (fun _ => ?_) (fun q => False.elim (by omega))
    have e : I = hi := by omega
    subst e
    exact hcont cs h i A C hl4 hc
  | succ j ih =>
    intro I i cs h hI hlo ei A C hl4 hc
    have hB32 : B ≤ 32 := by rw [hB]; exact Nat.pow_le_pow_right (by decide) hd
    have hmB : own_dg s d (own_g xs I) < B := by rw [hB]; exact own_dg.lt s d _
    refine own_iload d2_63 rfl ?_
    refine own_iloadN d2_65 rfl ?_
    refine own_icmpGe d2_66 (fun q => False.elim (by omega)) (fun _ => ?_)
    refine own_aload d2_69 rfl rfl ?_
    refine own_aloadN d2_71 rfl rfl ?_
    refine own_iload d2_72 rfl ?_
    refine own_laload (i := I) d2_74 A ei (own_la (by omega)) ?_
    refine own_iload d2_75 rfl ?_
    refine own_iload d2_77 rfl ?_
    refine own_callS (y := (⟨"com/example/rank_keeper/rankkeeper/RadixSort", "digit", "(JII)I"⟩ : MethodName)) (argsL := [(.long (own_g xs I)), (.int sh), (.int bk)]) (rest := [(.ref ac)]) (W := 1) (cells' := 0) (slots' := 0) (R' := ({ frames := 0, cells := 0, slots := 0, locals := 0 } : Room)) (own_digit hw (own_g xs I) hs (by rw [hb, hB]) hsd hd) (fun m => own_ef7_JII m (own_g xs I) sh bk) own_pl7 own_pd7 rfl d2_79 (own_w hw 29 rfl) (own_w hw 30 rfl) (own_w hw 11 rfl) (own_w hw 31 rfl) (by decide) rfl rfl (Nat.le_of_eq rfl) (by first | omega | (dsimp only; omega) | simp) (by first | omega | (dsimp only; omega) | simp) rfl rfl (by first | omega | (dsimp only; omega) | simp) (by first | omega | (dsimp only; omega) | simp) ?_
    rintro _ _ ⟨r, rfl, er, rfl⟩
    refine own_dup2 d2_82 rfl rfl ?_
    obtain ⟨hm, ehm⟩ : ∃ hm, hm = own_dg s d (own_g xs I) := ⟨_, rfl⟩
    rw [← ehm] at er hmB
    have ev := hc hm hmB
    have nle := own_n.le (p := fun x => decide (own_dg s d x = hm)) (xs := xs) (lo := lo) (hi := I) (by omega)
    have ev1 := own_ia1 ev (by omega) (by omega)
    refine own_iaload (i := hm) d2_83 C er (own_ia (by omega)) ?_
    refine own_iconst (x := 1) d2_84 rfl ?_
    refine own_iadd d2_85 ?_
    refine own_iastore (i := hm) d2_86 C er (by simp; omega) gc (fun h2 W C => ?_)
    rw [← List.map_set] at C
    have A := own_A.other W A hne
    clear W
    refine own_iinc (L' := #[.val (.ref av), .val (.int fr), .val (.int to), .val (.int bi), .val (.ref ac), .val (.int db), .val (.int sh), .val (.int bk), .val (.int (i + (1 : Int32))), .unset, .unset]) (z := 1) d2_87 rfl rfl rfl ?_
    refine own_goto d2_90 ?_
    refine ih (I + 1) (i + 1) _ h2 (by omega) (by omega) (by rw [own_ia1 ei (by omega) (by omega)]; omega) A C (by simpa using hl4) (fun e he => ?_)
    rw [own_cset (by omega), own_n.split (mi := I) (by omega) (by omega), own_n.one (by omega), ← ehm]
    by_cases z : e = hm
    · subst z; rw [if_pos rfl, ev1, if_pos (decide_eq_true rfl)]; omega
    · rw [if_neg z, if_neg (by simpa using fun q => z q.symm)]; exact hc e he

set_option maxRecDepth 65536 in
set_option maxHeartbeats 4000000 in
theorem own_pre {l : Launch} {Z : State} {a0 : Array Value} (hw : ∀ d ∈ tables_1, d.before a0 Z = true) {n0 : Nat} {Q : Option Value → Heap → Prop} {f g : Nat} (hf : 2 ≤ f) (hg : 60 ≤ g) {av ac : Addr} (gc : n0 ≤ ac) (hne : av ≠ ac) {fr to bi db sh bk : Int32} {s d B : Nat} (hs : sh.toInt = s) (hB : B = 2 ^ d) (hb : bk.toInt = B) (hsd : s + d ≤ 63) (hd : d ≤ 5) {xs : List Int64} {lo hi : Nat} (ef : fr.toInt = lo) (et : to.toInt = hi) (h1 : lo ≤ hi) (hl : hi ≤ xs.length) (h40 : hi ≤ 40) (hcont : (∀ (cs : List Int32) (h : Heap) (j8 j9 j10 : Slot), own_A Z h av .long (xs.map Value.long) → own_A Z h ac .int (cs.map Value.int) → cs.length = 4096 → (∀ e, e < B → (own_c cs e).toInt = (own_bg (own_dg s d) xs lo hi (e + 1) : Int)) → (∀ e, e < B → (own_c cs (B + e)).toInt = (own_bg (own_dg s d) xs lo hi e : Int)) → own_V l Z n0 ({ frames := f, cells := 0, slots := 0, locals := g } : Room) "com/example/rank_keeper/rankkeeper/RadixSort" "sort" prog_11_method_2_code 11 none Q h 0 0 143 #[.val (.ref av), .val (.int fr), .val (.int to), .val (.int bi), .val (.ref ac), .val (.int db), .val (.int sh), .val (.int bk), j8, j9, j10] [])) :
    ∀ (j bI : Nat) (b nx : Int32) (cs : List Int32) (h : Heap) (j10 : Slot), own_ji j10 → bI + j = B → b.toInt = bI → nx.toInt = (own_bg (own_dg s d) xs lo hi bI : Int) → own_A Z h av .long (xs.map Value.long) → own_A Z h ac .int (cs.map Value.int) → cs.length = 4096 → (∀ e, e < bI → (own_c cs e).toInt = (own_bg (own_dg s d) xs lo hi (e + 1) : Int)) → (∀ e, e < bI → (own_c cs (B + e)).toInt = (own_bg (own_dg s d) xs lo hi e : Int)) → (∀ e, bI ≤ e → e < B → (own_c cs e).toInt = (own_n (fun x => decide (own_dg s d x = e)) xs lo hi : Int)) → own_V l Z n0 ({ frames := f, cells := 0, slots := 0, locals := g } : Room) "com/example/rank_keeper/rankkeeper/RadixSort" "sort" prog_11_method_2_code 11 none Q h 0 0 99 #[.val (.ref av), .val (.int fr), .val (.int to), .val (.int bi), .val (.ref ac), .val (.int db), .val (.int sh), .val (.int bk), .val (.int nx), .val (.int b), j10] [] := by
  intro j
  induction j with
  | zero =>
    intro bI b nx cs h j10 hj10 hbj eb enx A C hl4 hE hN hc
    refine own_iload d2_99 rfl ?_
    refine own_iload d2_101 rfl ?_
    refine own_icmpGe d2_103 (fun _ => ?_) (fun q => False.elim (by omega))
    exact hcont cs h _ _ _ A C hl4 (fun e he => hE e (by omega)) (fun e he => hN e (by omega))
  | succ j ih =>
    intro bI b nx cs h j10 hj10 hbj eb enx A C hl4 hE hN hc
    have hB32 : B ≤ 32 := by rw [hB]; exact Nat.pow_le_pow_right (by decide) hd
    have hdg : ∀ i, lo ≤ i → i < hi → own_dg s d (own_g xs i) < B := fun i _ _ => by rw [hB]; exact own_dg.lt s d _
    have g1 := own_bg.le h1 hl hdg (b := bI) (by omega)
    have g2 := own_bg.le h1 hl hdg (b := bI + 1) (by omega)
    have g3 := own_bg.succ (dg := own_dg s d) (xs := xs) (lo := lo) (hi := hi) bI
    have ev := hc bI (Nat.le_refl _) (by omega)
    have en := own_iad enx ev (by omega) (by omega) (by omega) (by omega)
    have eix : (bk + b).toInt = ((B + bI : Nat) : Int) := by rw [own_iad hb eb (by omega) (by omega) (by omega) (by omega)]; omega
    refine own_iload d2_99 rfl ?_
    refine own_iload d2_101 rfl ?_
    refine own_icmpGe d2_103 (fun q => False.elim (by omega)) (fun _ => ?_)
    refine own_iload d2_106 rfl ?_
    refine own_istore (L' := #[.val (.ref av), .val (.int fr), .val (.int to), .val (.int bi), .val (.ref ac), .val (.int db), .val (.int sh), .val (.int bk), .val (.int nx), .val (.int b), .val (.int nx)]) d2_108 (by rcases hj10 with rfl | ⟨y, rfl⟩ <;> rfl) ?_
    refine own_iload d2_110 rfl ?_
    refine own_aload d2_112 rfl rfl ?_
    refine own_iload d2_114 rfl ?_
    refine own_iaload (i := bI) d2_116 C eb (own_ia (by omega)) ?_
    refine own_iadd d2_117 ?_
    refine own_istore (L' := #[.val (.ref av), .val (.int fr), .val (.int to), .val (.int bi), .val (.ref ac), .val (.int db), .val (.int sh), .val (.int bk), .val (.int (nx + (own_c cs bI))), .val (.int b), .val (.int nx)]) d2_118 rfl ?_
    refine own_aload d2_120 rfl rfl ?_
    refine own_iload d2_122 rfl ?_
    refine own_iload d2_124 rfl ?_
    refine own_iastore (i := bI) d2_126 C eb (by simp; omega) gc (fun h2 W C => ?_)
    rw [← List.map_set] at C
    have A := own_A.other W A hne
    clear W
    refine own_aload d2_127 rfl rfl ?_
    refine own_iload d2_129 rfl ?_
    refine own_iload d2_131 rfl ?_
    refine own_iadd d2_133 ?_
    refine own_iload d2_134 rfl ?_
    refine own_iastore (i := B + bI) d2_136 C eix (by simp; omega) gc (fun h3 W C => ?_)
    rw [← List.map_set] at C
    have A := own_A.other W A hne
    clear W
    refine own_iinc (L' := #[.val (.ref av), .val (.int fr), .val (.int to), .val (.int bi), .val (.ref ac), .val (.int db), .val (.int sh), .val (.int bk), .val (.int (nx + (own_c cs bI))), .val (.int (b + (1 : Int32))), .val (.int nx)]) (z := 1) d2_137 rfl rfl rfl ?_
    refine own_goto d2_140 ?_
    refine ih (bI + 1) (b + 1) _ _ h3 _ (own_ji.v _) (by omega) (by rw [own_ia1 eb (by omega) (by omega)]; omega) (by rw [en, g3]; omega) A C (by simpa using hl4) (fun e he => ?_) (fun e he => ?_) (fun e he1 he2 => ?_)
    · rw [own_cset (by simp; omega), if_neg (by omega), own_cset (by omega)]
      by_cases z : e = bI
      · subst z; rw [if_pos rfl, en, g3]; omega
      · rw [if_neg z]; exact hE e (by omega)
    · rw [own_cset (by simp; omega)]
      by_cases z : e = bI
      · subst z; rw [if_pos rfl]; exact enx
      · rw [if_neg (by omega), own_cset (by omega), if_neg (by omega)]; exact hN e (by omega)
    · rw [own_cset (by simp; omega), if_neg (by omega), own_cset (by omega), if_neg (by omega)]; exact hc e (by omega) he2

def own_SORT (l : Launch) (Z : State) (n0 : Nat) (av ac : Addr) (b : Nat) : Prop :=
  ∀ (f g : Nat) (xs : List Int64) (cs : List Int32) (h : Heap) (lo hi : Nat) (fr to bi : Int32), 2 * ((b + 4) / 5) ≤ f → 2 ≤ f → 42 * ((b + 4) / 5) + 40 ≤ g → 82 ≤ g → fr.toInt = lo → to.toInt = hi → bi.toInt = b → b ≤ 63 → lo < hi → hi ≤ xs.length → hi ≤ 40 → hi ≤ lo + 36 → (∀ i j, lo ≤ i → i < hi → lo ≤ j → j < hi → own_k b (own_g xs i) = own_k b (own_g xs j)) → own_A Z h av .long (xs.map Value.long) → own_A Z h ac .int (cs.map Value.int) → cs.length = 4096 → own_V l Z n0 ({ frames := f, cells := 0, slots := 0, locals := g } : Room) "com/example/rank_keeper/rankkeeper/RadixSort" "sort" prog_11_method_2_code 11 none (fun v h' => v = none ∧ ∃ (ys : List Int64) (cs' : List Int32), own_A Z h' av .long (ys.map Value.long) ∧ own_A Z h' ac .int (cs'.map Value.int) ∧ cs'.length = 4096 ∧ own_P xs ys lo hi ∧ own_S ys lo hi) h 0 0 0 #[.val (.ref av), .val (.int fr), .val (.int to), .val (.int bi), .val (.ref ac), .unset, .unset, .unset, .unset, .unset, .unset] []

theorem own_kq {x y : Int64} {sh : Int32} {s : Nat} (hs : sh.toInt = s) (h63 : s ≤ 63) (h0 : 0 < s) : ((x.toUInt64 >>> (sh &&& 0x3f).toInt64.toUInt64).toInt64).toInt = ((y.toUInt64 >>> (sh &&& 0x3f).toInt64.toUInt64).toInt64).toInt ↔ own_k s x = own_k s y := by
  rw [own_ush hs h63 h0, own_ush hs h63 h0]; exact own_k.ush h63 x y
set_option maxRecDepth 65536 in
set_option maxHeartbeats 4000000 in
theorem own_b1 {l : Launch} {Z : State} {a0 : Array Value} (hw : ∀ d ∈ tables_1, d.before a0 Z = true) {n0 : Nat} {h : Heap} {av ac : Addr} (ga : n0 ≤ av) (gc : n0 ≤ ac) (hne : av ≠ ac) {s f g : Nat} (hf : 2 * ((s + 4) / 5) + 1 ≤ f) (hf3 : 3 ≤ f) (hg : 42 * ((s + 4) / 5) + 62 ≤ g) (hg3 : 104 ≤ g) (IH : own_SORT l Z n0 av ac s) (h0 : 0 < s) (h63 : s ≤ 63) {fr to sh : Int32} {xs : List Int64} {lo hi : Nat} (ef : fr.toInt = lo) (et : to.toInt = hi) (es : sh.toInt = s) (h1 : lo < hi) (hl : hi ≤ xs.length) (h40 : hi ≤ 40) (h36 : hi ≤ lo + 36) {vs : List Int64} {st : Nat} {start : Int32} (hvl : vs.length = xs.length) (A : own_A Z h av .long (vs.map Value.long)) (hcont : (∀ (en : Int32) (E : Nat), en.toInt = E → st < E → E ≤ hi → (∀ i, st ≤ i → i < E → own_k s (own_g vs i) = own_k s (own_g vs st)) → (E < hi → own_k s (own_g vs E) ≠ own_k s (own_g vs st)) → own_V l Z n0 ({ frames := f, cells := 0, slots := 0, locals := g } : Room) "com/example/rank_keeper/rankkeeper/RadixSort" "sortBuckets" prog_11_method_4_code 9 none (fun v h' => v = none ∧ ∃ (ys : List Int64) (cs' : List Int32), own_A Z h' av .long (ys.map Value.long) ∧ own_A Z h' ac .int (cs'.map Value.int) ∧ cs'.length = 4096 ∧ own_P xs ys lo hi ∧ own_S ys lo hi) h 0 0 47 #[.val (.ref av), .val (.int fr), .val (.int to), .val (.int sh), .val (.ref ac), .val (.int start), .val (.long (((own_g vs st).toUInt64 >>> (sh &&& 0x3f).toInt64.toUInt64).toInt64)), .second, .val (.int en)] [])) :
    ∀ (j E : Nat) (en : Int32), E + j = hi → st < E → en.toInt = E → (∀ i, st ≤ i → i < E → own_k s (own_g vs i) = own_k s (own_g vs st)) → own_V l Z n0 ({ frames := f, cells := 0, slots := 0, locals := g } : Room) "com/example/rank_keeper/rankkeeper/RadixSort" "sortBuckets" prog_11_method_4_code 9 none (fun v h' => v = none ∧ ∃ (ys : List Int64) (cs' : List Int32), own_A Z h' av .long (ys.map Value.long) ∧ own_A Z h' ac .int (cs'.map Value.int) ∧ cs'.length = 4096 ∧ own_P xs ys lo hi ∧ own_S ys lo hi) h 0 0 23 #[.val (.ref av), .val (.int fr), .val (.int to), .val (.int sh), .val (.ref ac), .val (.int start), .val (.long (((own_g vs st).toUInt64 >>> (sh &&& 0x3f).toInt64.toUInt64).toInt64)), .second, .val (.int en)] [] := by
  intro j
  induction j with
  | zero =>
    intro E en hEj hE een heq
    refine own_iload d12_23 rfl ?_
    refine own_iloadN d12_25 rfl ?_
    refine own_icmpGe d12_26 (fun _ => ?_) (fun q => False.elim (by omega))
    exact hcont en E een hE (by omega) heq (by intro q; omega)
  | succ j ih =>
    intro E en hEj hE een heq
    refine own_iload d12_23 rfl ?_
    refine own_iloadN d12_25 rfl ?_
    refine own_icmpGe d12_26 (fun q => False.elim (by omega)) (fun _ => ?_)
    refine own_aloadN d12_29 rfl rfl ?_
    refine own_iload d12_30 rfl ?_
    refine own_laload (i := E) d12_32 A een (own_la (by omega)) ?_
    refine own_iloadN d12_33 rfl ?_
    refine own_lushr d12_34 ?_
    refine own_lload d12_35 rfl ?_
    refine own_lcmpNe d12_37 d12_38 (fun q => ?_) (fun q => ?_)
    · exact hcont en E een hE (by omega) heq (fun _ z => q ((own_kq es h63 h0).mpr z))
    · refine own_iinc (L' := #[.val (.ref av), .val (.int fr), .val (.int to), .val (.int sh), .val (.ref ac), .val (.int start), .val (.long (((own_g vs st).toUInt64 >>> (sh &&& 0x3f).toInt64.toUInt64).toInt64)), .second, .val (.int (en + (1 : Int32)))]) (z := 1) d12_41 rfl rfl rfl ?_
      refine own_goto d12_44 ?_
      have q' := (own_kq es h63 h0).mp q
      exact ih (E + 1) (en + 1) (by omega) (by omega) (by rw [own_ia1 een (by omega) (by omega)]; omega) (fun i i1 i2 => by
        by_cases z : i = E
        · subst z; exact q'
        · exact heq i i1 (by omega))

set_option maxRecDepth 65536 in
set_option maxHeartbeats 4000000 in
theorem own_b2 {l : Launch} {Z : State} {a0 : Array Value} (hw : ∀ d ∈ tables_1, d.before a0 Z = true) {n0 : Nat} {av ac : Addr} (ga : n0 ≤ av) (gc : n0 ≤ ac) (hne : av ≠ ac) {s f g : Nat} (hf : 2 * ((s + 4) / 5) + 1 ≤ f) (hf3 : 3 ≤ f) (hg : 42 * ((s + 4) / 5) + 62 ≤ g) (hg3 : 104 ≤ g) (IH : own_SORT l Z n0 av ac s) (h0 : 0 < s) (h63 : s ≤ 63) {fr to sh : Int32} {xs : List Int64} {lo hi : Nat} (ef : fr.toInt = lo) (et : to.toInt = hi) (es : sh.toInt = s) (h1 : lo < hi) (hl : hi ≤ xs.length) (h40 : hi ≤ 40) (h36 : hi ≤ lo + 36) :
    ∀ (j st : Nat) (start : Int32) (vs : List Int64) (cs : List Int32) (h : Heap) (j6 j7 j8 : Slot), own_jl j6 j7 → own_ji j8 → hi - st = j → lo ≤ st → st ≤ hi → start.toInt = st → own_A Z h av .long (vs.map Value.long) → own_A Z h ac .int (cs.map Value.int) → cs.length = 4096 → own_U s xs lo hi vs st → own_V l Z n0 ({ frames := f, cells := 0, slots := 0, locals := g } : Room) "com/example/rank_keeper/rankkeeper/RadixSort" "sortBuckets" prog_11_method_4_code 9 none (fun v h' => v = none ∧ ∃ (ys : List Int64) (cs' : List Int32), own_A Z h' av .long (ys.map Value.long) ∧ own_A Z h' ac .int (cs'.map Value.int) ∧ cs'.length = 4096 ∧ own_P xs ys lo hi ∧ own_S ys lo hi) h 0 0 3 #[.val (.ref av), .val (.int fr), .val (.int to), .val (.int sh), .val (.ref ac), .val (.int start), j6, j7, j8] [] := by
  intro j
  induction j using Nat.strongRecOn with
  | ind j ih =>
    intro st start vs cs h j6 j7 j8 hj6 hj8 hj hlo hst ea A C hl4 Uu
    have hvl : vs.length = xs.length := Uu.p.len
    refine own_iload d12_3 rfl ?_
    refine own_iloadN d12_5 rfl ?_
    refine own_icmpGe d12_6 (fun q => ?_) (fun q => ?_)
    · have e : st = hi := by omega
      subst e
      exact own_ret0 d12_74.1 rfl (Nat.zero_le _) (Nat.zero_le _) ⟨rfl, vs, cs, A, C, hl4, Uu.p, Uu.srt⟩
    · refine own_aloadN d12_9 rfl rfl ?_
      refine own_iload d12_10 rfl ?_
      refine own_laload (i := st) d12_12 A ea (own_la (by omega)) ?_
      refine own_iloadN d12_13 rfl ?_
      refine own_lushr d12_14 ?_
      refine own_lstore (L' := #[.val (.ref av), .val (.int fr), .val (.int to), .val (.int sh), .val (.ref ac), .val (.int start), .val (.long (((own_g vs st).toUInt64 >>> (sh &&& 0x3f).toInt64.toUInt64).toInt64)), .second, j8]) d12_15 (by rcases hj6 with ⟨rfl, rfl⟩ | ⟨y, rfl, rfl⟩ <;> rfl) ?_
      refine own_iload d12_17 rfl ?_
      refine own_iconst (x := 1) d12_19 rfl ?_
      refine own_iadd d12_20 ?_
      refine own_istore (L' := #[.val (.ref av), .val (.int fr), .val (.int to), .val (.int sh), .val (.ref ac), .val (.int start), .val (.long (((own_g vs st).toUInt64 >>> (sh &&& 0x3f).toInt64.toUInt64).toInt64)), .second, .val (.int (start + (1 : Int32)))]) d12_21 (by rcases hj8 with rfl | ⟨y, rfl⟩ <;> rfl) ?_
      refine own_b1 hw ga gc hne hf hf3 hg hg3 IH h0 h63 ef et es h1 hl h40 h36 hvl A (fun en E een hE1 hE2 heq hex => ?_) (hi - (st + 1)) (st + 1) _ (by omega) (by omega) (by rw [own_ia1 ea (by omega) (by omega)]; omega) (fun i i1 i2 => by rw [show i = st by omega])
      have esub := own_isb een ea (by omega) (by omega) (by omega) (by omega)
      have l1 : (1 : Int32).toInt = 1 := rfl
      refine own_iload d12_47 rfl ?_
      refine own_iload d12_49 rfl ?_
      refine own_isub d12_51 ?_
      refine own_iconst (x := 1) d12_52 rfl ?_
      refine own_icmpLe d12_53 (fun q1 => ?_) (fun q1 => ?_)
      · refine own_iload d12_67 rfl ?_
        refine own_istore (L' := #[.val (.ref av), .val (.int fr), .val (.int to), .val (.int sh), .val (.ref ac), .val (.int en), .val (.long (((own_g vs st).toUInt64 >>> (sh &&& 0x3f).toInt64.toUInt64).toInt64)), .second, .val (.int en)]) d12_69 rfl ?_
        refine own_goto d12_71 ?_
        exact ih (hi - E) (by omega) E en vs cs h _ _ _ (own_jl.v _) (own_ji.v _) rfl (by omega) hE2 een A C hl4 (Uu.step hlo hE1 hE2 hl heq hex (own_P.refl _ _ _) (fun p q p1 p2 p3 => by omega))
      · refine own_aloadN d12_56 rfl rfl ?_
        refine own_iload d12_57 rfl ?_
        refine own_iload d12_59 rfl ?_
        refine own_iloadN d12_61 rfl ?_
        refine own_aload d12_62 rfl rfl ?_
        refine own_callS (y := (⟨"com/example/rank_keeper/rankkeeper/RadixSort", "sort", "([JIII[I)V"⟩ : MethodName)) (argsL := [(.ref av), (.int start), (.int en), (.int sh), (.ref ac)]) (rest := []) (W := 0) (cells' := 0) (slots' := 0) (R' := ({ frames := f - 1, cells := 0, slots := 0, locals := g - 22 } : Room)) (IH (f - 1) (g - 22) vs cs h st E start en sh (by omega) (by omega) (by omega) (by omega) ea een es h63 hE1 (by omega) (by omega) (by omega) (fun i j i1 i2 j1 j2 => by rw [heq i i1 i2, heq j j1 j2]) A C hl4) (fun m => own_ef2_AIIIA m av start en sh ac) own_pl2 own_pd2 rfl d12_64 (own_w hw 47 rfl) (own_w hw 10 rfl) (own_w hw 11 rfl) (own_w hw 12 rfl) (by decide) rfl rfl (Nat.le_of_eq rfl) (by first | omega | (dsimp only; omega) | simp) (by first | omega | (dsimp only; omega) | simp) rfl rfl (by first | omega | (dsimp only; omega) | simp) (by first | omega | (dsimp only; omega) | simp) ?_
        rintro _ h2 ⟨rfl, ys, cs', A', C', hl', P', S'⟩
        refine own_iload d12_67 rfl ?_
        refine own_istore (L' := #[.val (.ref av), .val (.int fr), .val (.int to), .val (.int sh), .val (.ref ac), .val (.int en), .val (.long (((own_g vs st).toUInt64 >>> (sh &&& 0x3f).toInt64.toUInt64).toInt64)), .second, .val (.int en)]) d12_69 rfl ?_
        refine own_goto d12_71 ?_
        exact ih (hi - E) (by omega) E en ys cs' h2 _ _ _ (own_jl.v _) (own_ji.v _) rfl (by omega) hE2 een A' C' hl' (Uu.step hlo hE1 hE2 hl heq hex P' S')

set_option maxRecDepth 65536 in
set_option maxHeartbeats 4000000 in
theorem own_sb {l : Launch} {Z : State} {a0 : Array Value} (hw : ∀ d ∈ tables_1, d.before a0 Z = true) {n0 : Nat} {h : Heap} {av ac : Addr} (ga : n0 ≤ av) (gc : n0 ≤ ac) (hne : av ≠ ac) {s f g : Nat} (hf : 2 * ((s + 4) / 5) + 1 ≤ f) (hf3 : 3 ≤ f) (hg : 42 * ((s + 4) / 5) + 62 ≤ g) (hg3 : 104 ≤ g) (IH : own_SORT l Z n0 av ac s) (h0 : 0 < s) (h63 : s ≤ 63) {fr to sh : Int32} {xs : List Int64} {lo hi : Nat} (ef : fr.toInt = lo) (et : to.toInt = hi) (es : sh.toInt = s) (h1 : lo < hi) (hl : hi ≤ xs.length) (h40 : hi ≤ 40) (h36 : hi ≤ lo + 36) {vs : List Int64} {cs : List Int32} (A : own_A Z h av .long (vs.map Value.long)) (C : own_A Z h ac .int (cs.map Value.int)) (hl4 : cs.length = 4096) (Uu : own_U s xs lo hi vs lo) :
    own_V l Z n0 ({ frames := f, cells := 0, slots := 0, locals := g } : Room) "com/example/rank_keeper/rankkeeper/RadixSort" "sortBuckets" prog_11_method_4_code 9 none (fun v h' => v = none ∧ ∃ (ys : List Int64) (cs' : List Int32), own_A Z h' av .long (ys.map Value.long) ∧ own_A Z h' ac .int (cs'.map Value.int) ∧ cs'.length = 4096 ∧ own_P xs ys lo hi ∧ own_S ys lo hi) h 0 0 0 #[.val (.ref av), .val (.int fr), .val (.int to), .val (.int sh), .val (.ref ac), .unset, .unset, .unset, .unset] [] := by
  refine own_iloadN d12_0 rfl ?_
  refine own_istore (L' := #[.val (.ref av), .val (.int fr), .val (.int to), .val (.int sh), .val (.ref ac), .val (.int fr), .unset, .unset, .unset]) d12_1 rfl ?_
  exact own_b2 hw ga gc hne hf hf3 hg hg3 IH h0 h63 ef et es h1 hl h40 h36 _ lo fr vs cs h _ _ _ (Or.inl ⟨rfl, rfl⟩) (Or.inl rfl) rfl (Nat.le_refl _) (by omega) ef A C hl4 Uu
set_option maxRecDepth 65536 in
set_option maxHeartbeats 4000000 in
theorem own_sort {l : Launch} {Z : State} {a0 : Array Value} (hw : ∀ d ∈ tables_1, d.before a0 Z = true) {n0 : Nat} {av ac : Addr} (ga : n0 ≤ av) (gc : n0 ≤ ac) (hne : av ≠ ac) : ∀ b, own_SORT l Z n0 av ac b := by
  intro b
  induction b using Nat.strongRecOn with
  | ind b IH =>
    intro f g xs cs h lo hi fr to bi hf hf2 hg hg2 ef et ebi h63 h1 hl h40 h36 hag A C hl4
    have esub := own_isb et ef (by omega) (by omega) (by omega) (by omega)
    have l32 : (32 : Int32).toInt = 32 := rfl
    refine own_iloadN d2_0 rfl ?_
    refine own_iloadN d2_1 rfl ?_
    refine own_isub d2_2 ?_
    refine own_bipush (x := 32) d2_3 rfl ?_
    refine own_icmpLe d2_5 (fun q => ?_) (fun q => ?_)
    · refine own_aloadN d2_12 rfl rfl ?_
      refine own_iloadN d2_13 rfl ?_
      refine own_iloadN d2_14 rfl ?_
      refine own_callS (y := (⟨"com/example/rank_keeper/rankkeeper/RadixSort", "insertionSort", "([JII)V"⟩ : MethodName)) (argsL := [(.ref av), (.int fr), (.int to)]) (rest := []) (W := 0) (cells' := 0) (slots' := 0) (R' := ({ frames := 0, cells := 0, slots := 0, locals := 0 } : Room)) (own_ins hw ga hne ef et h1 hl h40 A C) (fun m => own_ef13_AII m av fr to) own_pl13 own_pd13 rfl d2_15 (own_w hw 48 rfl) (own_w hw 49 rfl) (own_w hw 11 rfl) (own_w hw 50 rfl) (by decide) rfl rfl (Nat.le_of_eq rfl) (by first | omega | (dsimp only; omega) | simp) (by first | omega | (dsimp only; omega) | simp) rfl rfl (by first | omega | (dsimp only; omega) | simp) (by first | omega | (dsimp only; omega) | simp) ?_
      rintro _ h2 ⟨rfl, ys, A', C', P', S'⟩
      exact own_ret0 d2_18.1 rfl (Nat.zero_le _) (Nat.zero_le _) ⟨rfl, ys, cs, A', C', hl4, P', S'⟩
    · refine own_iloadN d2_8 rfl ?_
      refine own_ifNe d2_9 (fun q2 => ?_) (fun q2 => ?_)
      · refine own_bipush (x := 11) d2_19 rfl ?_
        refine own_iloadN d2_21 rfl ?_
        refine own_callS (y := (⟨"java/lang/Math", "min", "(II)I"⟩ : MethodName)) (argsL := [(.int (11 : Int32)), (.int bi)]) (rest := []) (W := 0) (cells' := 0) (slots' := 0) (R' := ({ frames := 0, cells := 0, slots := 0, locals := 0 } : Room)) (own_min hw 11 bi) (fun m => own_ef3_II m (11 : Int32) bi) own_pl3 own_pd3 rfl d2_22 (own_w hw 13 rfl) (own_w hw 14 rfl) (own_w hw 15 rfl) (own_w hw 16 rfl) (by decide) rfl rfl (Nat.le_of_eq rfl) (by first | omega | (dsimp only; omega) | simp) (by first | omega | (dsimp only; omega) | simp) rfl rfl (by first | omega | (dsimp only; omega) | simp) (by first | omega | (dsimp only; omega) | simp) ?_
        rintro _ _ ⟨rfl, rfl⟩
        refine own_bipush (x := 31) d2_25 rfl ?_
        refine own_iloadN d2_27 rfl ?_
        refine own_iloadN d2_28 rfl ?_
        refine own_isub d2_29 ?_
        refine own_callS (y := (⟨"java/lang/Integer", "numberOfLeadingZeros", "(I)I"⟩ : MethodName)) (argsL := [(.int (to - fr))]) (rest := [(.int (31 : Int32)), (.int (own_mi 11 bi))]) (W := 2) (cells' := 0) (slots' := 0) (R' := ({ frames := 0, cells := 0, slots := 0, locals := 0 } : Room)) (own_nlz hw (to - fr) (by omega) (by omega)) (fun m => own_ef4_I m (to - fr)) own_pl4 own_pd4 rfl d2_30 (own_w hw 17 rfl) (own_w hw 18 rfl) (own_w hw 19 rfl) (own_w hw 20 rfl) (by decide) rfl rfl (Nat.le_of_eq rfl) (by first | omega | (dsimp only; omega) | simp) (by first | omega | (dsimp only; omega) | simp) rfl rfl (by first | omega | (dsimp only; omega) | simp) (by first | omega | (dsimp only; omega) | simp) ?_
        rintro _ _ ⟨rfl, rfl⟩
        refine own_isub d2_33 ?_
        refine own_callS (y := (⟨"java/lang/Math", "min", "(II)I"⟩ : MethodName)) (argsL := [(.int (own_mi 11 bi)), (.int ((31 : Int32) - (26 : Int32)))]) (rest := []) (W := 0) (cells' := 0) (slots' := 0) (R' := ({ frames := 0, cells := 0, slots := 0, locals := 0 } : Room)) (own_min hw (own_mi 11 bi) (31 - 26)) (fun m => own_ef3_II m (own_mi 11 bi) ((31 : Int32) - (26 : Int32))) own_pl3 own_pd3 rfl d2_34 (own_w hw 13 rfl) (own_w hw 14 rfl) (own_w hw 15 rfl) (own_w hw 16 rfl) (by decide) rfl rfl (Nat.le_of_eq rfl) (by first | omega | (dsimp only; omega) | simp) (by first | omega | (dsimp only; omega) | simp) rfl rfl (by first | omega | (dsimp only; omega) | simp) (by first | omega | (dsimp only; omega) | simp) ?_
        rintro _ _ ⟨rfl, rfl⟩
        generalize g_db : (own_mi (own_mi 11 bi) (31 - 26)) = db
        have v1 := own_miv 11 bi; have v2 := own_miv (own_mi 11 bi) (31 - 26)
        rw [g_db] at v2
        rw [show (11 : Int32).toInt = 11 from rfl] at v1
        rw [show ((31 : Int32) - 26).toInt = 5 from rfl] at v2
        obtain ⟨d, ed⟩ : ∃ d : Nat, db.toInt = d := ⟨db.toInt.toNat, by omega⟩
        have hd5 : d ≤ 5 := by omega
        have hd1 : 1 ≤ d := by omega
        have hdb : d ≤ b := by omega
        have hd45 : d = 5 ∨ d = b := by omega
        clear v1 v2 g_db
        refine own_istore (L' := #[.val (.ref av), .val (.int fr), .val (.int to), .val (.int bi), .val (.ref ac), .val (.int db), .unset, .unset, .unset, .unset, .unset]) d2_37 rfl ?_
        refine own_iloadN d2_39 rfl ?_
        refine own_iload d2_40 rfl ?_
        refine own_isub d2_42 ?_
        generalize g_sh : (bi - db) = sh
        have es : sh.toInt = ((b - d : Nat) : Int) := by rw [← g_sh, own_isb ebi ed (by omega) (by omega) (by omega) (by omega)]; omega
        clear g_sh
        refine own_istore (L' := #[.val (.ref av), .val (.int fr), .val (.int to), .val (.int bi), .val (.ref ac), .val (.int db), .val (.int sh), .unset, .unset, .unset, .unset]) d2_43 rfl ?_
        refine own_iconst (x := 1) d2_45 rfl ?_
        refine own_iload d2_46 rfl ?_
        refine own_ishl d2_48 ?_
        generalize g_bk : ((1 : Int32) <<< (db &&& 31)) = bk
        have eb := own_shl ed hd5
        rw [g_bk] at eb
        clear g_bk
        have hB32 : 2 ^ d ≤ 32 := Nat.pow_le_pow_right (by decide) hd5
        have hB0 := Nat.two_pow_pos d
        obtain ⟨s, hs⟩ : ∃ s, s = b - d := ⟨_, rfl⟩
        rw [← hs] at es
        obtain ⟨B, hB⟩ : ∃ B, B = 2 ^ d := ⟨_, rfl⟩
        rw [← hB] at eb hB32 hB0
        refine own_istore (L' := #[.val (.ref av), .val (.int fr), .val (.int to), .val (.int bi), .val (.ref ac), .val (.int db), .val (.int sh), .val (.int bk), .unset, .unset, .unset]) d2_49 rfl ?_
        refine own_aload d2_51 rfl rfl ?_
        refine own_iconst (x := 0) d2_53 rfl ?_
        refine own_iload d2_54 rfl ?_
        refine own_iconst (x := 0) d2_56 rfl ?_
        refine own_callS (y := (⟨"java/util/Arrays", "fill", "([IIII)V"⟩ : MethodName)) (argsL := [(.ref ac), (.int (0 : Int32)), (.int bk), (.int (0 : Int32))]) (rest := []) (W := 0) (cells' := 0) (slots' := 0) (R' := ({ frames := 1, cells := 0, slots := 0, locals := 20 } : Room)) (own_fill hw hB32 eb gc hne A C hl4) (fun m => own_ef5_AIII m ac (0 : Int32) bk (0 : Int32)) own_pl5 own_pd5 rfl d2_57 (own_w hw 22 rfl) (own_w hw 23 rfl) (own_w hw 24 rfl) (own_w hw 25 rfl) (by decide) rfl rfl (Nat.le_of_eq rfl) (by first | omega | (dsimp only; omega) | simp) (by first | omega | (dsimp only; omega) | simp) rfl rfl (by first | omega | (dsimp only; omega) | simp) (by first | omega | (dsimp only; omega) | simp) ?_
        rintro _ h2 ⟨rfl, cs2, A, C, hl2, hz⟩
        refine own_iloadN d2_60 rfl ?_
        refine own_istore (L' := #[.val (.ref av), .val (.int fr), .val (.int to), .val (.int bi), .val (.ref ac), .val (.int db), .val (.int sh), .val (.int bk), .val (.int fr), .unset, .unset]) d2_61 rfl ?_
        refine own_cnt hw (by omega) (by omega) gc hne es hB eb (by omega) hd5 ef et (by omega) hl h40 (fun cs h3 i A C hl4 hc => ?_) (hi - lo) lo fr cs2 h2 (by omega) (Nat.le_refl _) ef A C hl2 (fun e he => by rw [hz e he]; simp [own_n, own_seg])
        refine own_iloadN d2_93 rfl ?_
        refine own_istore (L' := #[.val (.ref av), .val (.int fr), .val (.int to), .val (.int bi), .val (.ref ac), .val (.int db), .val (.int sh), .val (.int bk), .val (.int fr), .unset, .unset]) d2_94 rfl ?_
        refine own_iconst (x := 0) d2_96 rfl ?_
        refine own_istore (L' := #[.val (.ref av), .val (.int fr), .val (.int to), .val (.int bi), .val (.ref ac), .val (.int db), .val (.int sh), .val (.int bk), .val (.int fr), .val (.int (0 : Int32)), .unset]) d2_97 rfl ?_
        refine own_pre hw (by omega) (by omega) gc hne es hB eb (by omega) hd5 ef et (by omega) hl h40 (fun cs h4 j8 j9 j10 A C hl4 hE hN => ?_) B 0 0 fr cs h3 _ (Or.inl rfl) (by omega) rfl (by rw [own_bg.zero]; exact ef) A C hl4 (by intro e he; omega) (by intro e he; omega) (fun e _ he => hc e he)
        refine own_aloadN d2_143 rfl rfl ?_
        refine own_aload d2_144 rfl rfl ?_
        refine own_iload d2_146 rfl ?_
        refine own_iload d2_148 rfl ?_
        refine own_callS (y := (⟨"com/example/rank_keeper/rankkeeper/RadixSort", "place", "([J[III)V"⟩ : MethodName)) (argsL := [(.ref av), (.ref ac), (.int bk), (.int sh)]) (rest := []) (W := 0) (cells' := 0) (slots' := 0) (R' := ({ frames := 1, cells := 0, slots := 0, locals := 16 } : Room)) (own_place hw ga gc hne es hB eb (by omega) hd5 (by omega) hl h40 A C hl4 hE hN) (fun m => own_ef8_AAII m av ac bk sh) own_pl8 own_pd8 rfl d2_150 (own_w hw 32 rfl) (own_w hw 33 rfl) (own_w hw 11 rfl) (own_w hw 34 rfl) (by decide) rfl rfl (Nat.le_of_eq rfl) (by first | omega | (dsimp only; omega) | simp) (by first | omega | (dsimp only; omega) | simp) rfl rfl (by first | omega | (dsimp only; omega) | simp) (by first | omega | (dsimp only; omega) | simp) ?_
        rintro _ h5 ⟨rfl, ys, cs5, A, C, hl5, P5, O5⟩
        have agree := P5.all (p := fun x => own_k b x = own_k b (own_g xs lo)) (by omega) hl (fun i i1 i2 => hag i lo i1 i2 (Nat.le_refl _) h1)
        have hsd : s + d = b := by omega
        have kmono : ∀ i j, lo ≤ i → i ≤ j → j < hi → own_k s (own_g ys i) ≤ own_k s (own_g ys j) := fun i j i1 i2 i3 => own_k.le (d := d) (by rw [hsd, agree i i1 (by omega), agree j (by omega) i3]) (O5 i j i1 i2 i3)
        refine own_iload d2_153 rfl ?_
        refine own_ifLe d2_155 (fun q3 => ?_) (fun q3 => ?_)
        · have s0 : s = 0 := by omega
          subst s0
          exact own_ret0 d2_168.1 rfl (Nat.zero_le _) (Nat.zero_le _) ⟨rfl, ys, cs5, A, C, hl5, P5, fun i j i1 i2 i3 => by have := kmono i j i1 (by omega) i3; rwa [own_k.zero, own_k.zero] at this⟩
        · have hlv : (s + 4) / 5 + 1 = (b + 4) / 5 := by omega
          refine own_aloadN d2_158 rfl rfl ?_
          refine own_iloadN d2_159 rfl ?_
          refine own_iloadN d2_160 rfl ?_
          refine own_iload d2_161 rfl ?_
          refine own_aload d2_163 rfl rfl ?_
          refine own_callS (y := (⟨"com/example/rank_keeper/rankkeeper/RadixSort", "sortBuckets", "([JIII[I)V"⟩ : MethodName)) (argsL := [(.ref av), (.int fr), (.int to), (.int sh), (.ref ac)]) (rest := []) (W := 0) (cells' := 0) (slots' := 0) (R' := ({ frames := f - 1, cells := 0, slots := 0, locals := g - 20 } : Room)) (own_sb hw ga gc hne (s := s) (f := f - 1) (g := g - 20) (by omega) (by omega) (by omega) (by omega) (IH s (by omega)) (by omega) (by omega) ef et es h1 hl h40 h36 A C hl5 (own_U.start P5 kmono)) (fun m => own_ef12_AIIIA m av fr to sh ac) own_pl12 own_pd12 rfl d2_165 (own_w hw 44 rfl) (own_w hw 45 rfl) (own_w hw 11 rfl) (own_w hw 46 rfl) (by decide) rfl rfl (Nat.le_of_eq rfl) (by first | omega | (dsimp only; omega) | simp) (by first | omega | (dsimp only; omega) | simp) rfl rfl (by first | omega | (dsimp only; omega) | simp) (by first | omega | (dsimp only; omega) | simp) ?_
          rintro _ h6 ⟨rfl, r⟩
          exact own_ret0 d2_168.1 rfl (Nat.zero_le _) (Nat.zero_le _) ⟨rfl, r⟩
      · refine own_aloadN d2_12 rfl rfl ?_
        refine own_iloadN d2_13 rfl ?_
        refine own_iloadN d2_14 rfl ?_
        refine own_callS (y := (⟨"com/example/rank_keeper/rankkeeper/RadixSort", "insertionSort", "([JII)V"⟩ : MethodName)) (argsL := [(.ref av), (.int fr), (.int to)]) (rest := []) (W := 0) (cells' := 0) (slots' := 0) (R' := ({ frames := 0, cells := 0, slots := 0, locals := 0 } : Room)) (own_ins hw ga hne ef et h1 hl h40 A C) (fun m => own_ef13_AII m av fr to) own_pl13 own_pd13 rfl d2_15 (own_w hw 48 rfl) (own_w hw 49 rfl) (own_w hw 11 rfl) (own_w hw 50 rfl) (by decide) rfl rfl (Nat.le_of_eq rfl) (by first | omega | (dsimp only; omega) | simp) (by first | omega | (dsimp only; omega) | simp) rfl rfl (by first | omega | (dsimp only; omega) | simp) (by first | omega | (dsimp only; omega) | simp) ?_
        rintro _ h2 ⟨rfl, ys, A', C', P', S'⟩
        exact own_ret0 d2_18.1 rfl (Nat.zero_le _) (Nat.zero_le _) ⟨rfl, ys, cs, A', C', hl4, P', S'⟩

theorem own_tnL {y : Int64} {n : Nat} (h : (y.toInt - n) % 18446744073709551616 = 0) (hn : n < 18446744073709551616) : y.toBitVec.toNat = n := by
  have h1 : y.toBitVec.toInt = y.toInt := rfl
  rw [BitVec.toInt_eq_toNat_cond] at h1
  have := y.toBitVec.isLt
  split at h1 <;> omega
theorem own_mask {bits : Int32} {b : Nat} (hb : bits.toInt = b) (h63 : b ≤ 63) : ((1 : Int64) <<< (bits &&& 0x3f).toInt64 - 1).toBitVec.toNat = 2 ^ b - 1 := by
  have a1 := c_lshl 1 bits b (by rw [own_tn hb]; omega)
  have a2 := c_lsub ((1 : Int64) <<< (bits &&& 0x3f).toInt64) 1
  have p0 := Nat.two_pow_pos b
  have p1 : 2 ^ b ≤ 2 ^ 63 := Nat.pow_le_pow_right (by decide) h63
  have p2 : (2 : Nat) ^ 63 = 9223372036854775808 := by decide
  rw [p2] at p1
  generalize 2 ^ b = P at *
  rw [show (1 : Int64).toInt = 1 from rfl] at a1 a2
  refine own_tnL (n := P - 1) ?_ (by omega)
  rw [show ((P - 1 : Nat) : Int) = (P : Int) - 1 by omega]
  omega
theorem own_disj (h m : Int64) : (h &&& (m ^^^ (-1))) &&& m = 0 := by
  apply Int64.toBitVec_inj.mp
  show (h.toBitVec &&& (m.toBitVec ^^^ (-1 : Int64).toBitVec)) &&& m.toBitVec = (0 : Int64).toBitVec
  have e1 : (-1 : Int64).toBitVec = BitVec.allOnes 64 := by decide
  have e0 : (0 : Int64).toBitVec = 0#64 := by decide
  rw [e1, e0, BitVec.xor_allOnes]
  ext i hi
  simp
theorem own_va {m : Int64} {b : Nat} (hm : m.toBitVec.toNat = 2 ^ b - 1) (h63 : b ≤ 63) (hh a : Int64) : own_k b ((hh &&& (m ^^^ (-1))) ||| (a &&& m)) = own_k b (hh &&& (m ^^^ (-1))) := by
  have d := c_maskL (hh &&& (m ^^^ (-1))) m b h63 hm
  rw [own_disj] at d
  have r := c_maskL a m b h63 hm
  have p0 := own_p2 b
  generalize hcm : hh &&& (m ^^^ (-1)) = cm at *
  generalize hra : a &&& m = ra at *
  have r1 := Int.emod_nonneg a.toInt (show ((2 ^ b : Nat) : Int) ≠ 0 by omega)
  have r2 := Int.emod_lt_of_pos a.toInt p0
  rw [← r] at r1 r2
  have d' : cm.toInt % (2 ^ b : Nat) = 0 := d.symm
  have o := c_orL cm ra b h63 _ rfl d' r1 r2
  have e' : (9223372036854775808 : Int) = (2 ^ b : Nat) * (2 ^ (63 - b) : Nat) := by
    rw [← Int.natCast_mul, ← Nat.pow_add, show b + (63 - b) = 63 by omega]; rfl
  have q := Int.mul_ediv_add_emod cm.toInt ((2 ^ b : Nat) : Int)
  rw [d', Int.add_zero] at q
  have c1 := Int64.toInt_lt cm; have c2 := Int64.le_toInt cm
  have lt : cm.toInt / (2 ^ b : Nat) < (2 ^ (63 - b) : Nat) := Int.ediv_lt_of_lt_mul p0 (by rw [Int.mul_comm, ← e']; omega)
  have le2 : ((2 ^ b : Nat) : Int) * (cm.toInt / (2 ^ b : Nat) + 1) ≤ 9223372036854775808 := by rw [e']; exact Int.mul_le_mul_of_nonneg_left (by omega) (by omega)
  rw [Int.mul_add, q, Int.mul_one] at le2
  have o1 := Int64.toInt_lt (cm ||| ra); have o2 := Int64.le_toInt (cm ||| ra)
  have ev : (cm ||| ra).toInt = cm.toInt + ra.toInt := by omega
  show (cm ||| ra).toInt / _ = cm.toInt / _
  rw [ev]
  conv => lhs; rw [← q, Int.add_comm, Int.add_mul_ediv_left _ _ (by omega), Int.ediv_eq_zero_of_lt r1 r2, Int.zero_add]
theorem own_agree {va vb vc vd : Int64} {b : Nat} {H : Int} (h1 : own_k b va = H) (h2 : own_k b vb = H) (h3 : own_k b vc = H) (h4 : own_k b vd = H) : ∀ i, 1 ≤ i → i < 37 → own_k b (own_g (own_v0 va vb vc vd) i) = H := by
  intro i i1 i2
  have q := (own_v0.seg va vb vc vd).mem_iff.mp ((own_seg.mem (xs := own_v0 va vb vc vd) (lo := 1) (hi := 37) (by show 37 ≤ 38; decide)).mpr ⟨i, i1, i2, rfl⟩)
  obtain ⟨y, y1, y2⟩ := List.mem_flatMap.mp q
  obtain ⟨-, e⟩ := List.mem_replicate.mp y2
  rw [e]
  simp at y1
  rcases y1 with rfl | rfl | rfl | rfl <;> assumption
theorem own_ik {x : Int32} {k : Nat} (hx : x.toInt = k) (hk : k < 1000) (n : Int32) (m : Nat) (hn : n.toInt = m) (hm : m < 1000) : (x + n).toInt = ((k + m : Nat) : Int) := by rw [own_iad hx hn (by omega) (by omega) (by omega) (by omega)]; omega
set_option maxRecDepth 65536 in
set_option maxHeartbeats 4000000 in
theorem own_put {l : Launch} {Z : State} {a0 : Array Value} (hw : ∀ d ∈ tables_1, d.before a0 Z = true) {n0 : Nat} {h : Heap} {av : Addr} (ga : n0 ≤ av) {xs : List Int64} {at' : Int32} {k : Nat} (ea : at'.toInt = k) (hk : k + 4 ≤ xs.length) (h38 : xs.length = 38) (w0 w1 w2 w3 : Int64) (A : own_A Z h av .long (xs.map Value.long)) :
    own_V l Z n0 ({ frames := 0, cells := 0, slots := 0, locals := 0 } : Room) "com/example/rank_keeper/rankkeeper/RadixSortSortPinLaw" "put" method_3_code 10 none (fun v h' => v = none ∧ own_A Z h' av .long (((((xs.set (k + 0) w0).set (k + 1) w1).set (k + 2) w2).set (k + 3) w3).map Value.long)) h 0 0 0 #[.val (.ref av), .val (.int at'), .val (.long w0), .second, .val (.long w1), .second, .val (.long w2), .second, .val (.long w3), .second] [] := by
  refine own_aloadN d1_0 rfl rfl ?_
  refine own_iloadN d1_1 rfl ?_
  refine own_lloadN d1_2 rfl ?_
  refine own_lastore (i := k + 0) d1_3 A (by omega) (by simp; omega) ga (fun h0 W A => ?_)
  rw [← List.map_set] at A
  clear W
  refine own_aloadN d1_4 rfl rfl ?_
  refine own_iloadN d1_5 rfl ?_
  refine own_iconst (x := 1) d1_6 rfl ?_
  refine own_iadd d1_7 ?_
  refine own_lload d1_8 rfl ?_
  refine own_lastore (i := k + 1) d1_10 A (own_ik ea (by omega) 1 1 rfl (by decide)) (by simp; omega) ga (fun h1 W A => ?_)
  rw [← List.map_set] at A
  clear W
  refine own_aloadN d1_11 rfl rfl ?_
  refine own_iloadN d1_12 rfl ?_
  refine own_iconst (x := 2) d1_13 rfl ?_
  refine own_iadd d1_14 ?_
  refine own_lload d1_15 rfl ?_
  refine own_lastore (i := k + 2) d1_17 A (own_ik ea (by omega) 2 2 rfl (by decide)) (by simp; omega) ga (fun h2 W A => ?_)
  rw [← List.map_set] at A
  clear W
  refine own_aloadN d1_18 rfl rfl ?_
  refine own_iloadN d1_19 rfl ?_
  refine own_iconst (x := 3) d1_20 rfl ?_
  refine own_iadd d1_21 ?_
  refine own_lload d1_22 rfl ?_
  refine own_lastore (i := k + 3) d1_24 A (own_ik ea (by omega) 3 3 rfl (by decide)) (by simp; omega) ga (fun h3 W A => ?_)
  rw [← List.map_set] at A
  clear W
  exact own_ret0 d1_25.1 rfl (by decide) (by decide) ⟨rfl, A⟩
set_option maxRecDepth 65536 in
set_option maxHeartbeats 4000000 in
theorem own_run {l : Launch} {Z : State} {a0 : Array Value} (hw : ∀ d ∈ tables_1, d.before a0 Z = true) {n0 : Nat} {h : Heap} {av : Addr} {ys : List Int64} {at' : Int32} {k : Nat} {e : Int64} (ea : at'.toInt = k) (hk : k + 9 ≤ ys.length) (h38 : ys.length = 38) (he : ∀ j, j < 9 → own_g ys (k + j) = e) (A : own_A Z h av .long (ys.map Value.long)) :
    own_V l Z n0 ({ frames := 0, cells := 0, slots := 0, locals := 0 } : Room) "com/example/rank_keeper/rankkeeper/RadixSortSortPinLaw" "run" method_4_code 4 (some .boolean) (fun v h' => v = some (.int 1) ∧ h = h') h 0 0 0 #[.val (.ref av), .val (.int at'), .val (.long e), .second] [] := by
  refine own_aloadN d11_0 rfl rfl ?_
  refine own_iloadN d11_1 rfl ?_
  refine own_laload (i := k + 0) d11_2 A (by omega) (own_la (by omega)) ?_
  refine own_lloadN d11_3 rfl ?_
  refine own_lcmpNe d11_4 d11_5 (fun q => False.elim (by exact q (by rw [he 0 (by decide)]))) (fun _ => ?_)
  refine own_aloadN d11_8 rfl rfl ?_
  refine own_iloadN d11_9 rfl ?_
  refine own_iconst (x := 1) d11_10 rfl ?_
  refine own_iadd d11_11 ?_
  refine own_laload (i := k + 1) d11_12 A (own_ik ea (by omega) 1 1 rfl (by decide)) (own_la (by omega)) ?_
  refine own_lloadN d11_13 rfl ?_
  refine own_lcmpNe d11_14 d11_15 (fun q => False.elim (by exact q (by rw [he 1 (by decide)]))) (fun _ => ?_)
  refine own_aloadN d11_18 rfl rfl ?_
  refine own_iloadN d11_19 rfl ?_
  refine own_iconst (x := 2) d11_20 rfl ?_
  refine own_iadd d11_21 ?_
  refine own_laload (i := k + 2) d11_22 A (own_ik ea (by omega) 2 2 rfl (by decide)) (own_la (by omega)) ?_
  refine own_lloadN d11_23 rfl ?_
  refine own_lcmpNe d11_24 d11_25 (fun q => False.elim (by exact q (by rw [he 2 (by decide)]))) (fun _ => ?_)
  refine own_aloadN d11_28 rfl rfl ?_
  refine own_iloadN d11_29 rfl ?_
  refine own_iconst (x := 3) d11_30 rfl ?_
  refine own_iadd d11_31 ?_
  refine own_laload (i := k + 3) d11_32 A (own_ik ea (by omega) 3 3 rfl (by decide)) (own_la (by omega)) ?_
  refine own_lloadN d11_33 rfl ?_
  refine own_lcmpNe d11_34 d11_35 (fun q => False.elim (by exact q (by rw [he 3 (by decide)]))) (fun _ => ?_)
  refine own_aloadN d11_38 rfl rfl ?_
  refine own_iloadN d11_39 rfl ?_
  refine own_iconst (x := 4) d11_40 rfl ?_
  refine own_iadd d11_41 ?_
  refine own_laload (i := k + 4) d11_42 A (own_ik ea (by omega) 4 4 rfl (by decide)) (own_la (by omega)) ?_
  refine own_lloadN d11_43 rfl ?_
  refine own_lcmpNe d11_44 d11_45 (fun q => False.elim (by exact q (by rw [he 4 (by decide)]))) (fun _ => ?_)
  refine own_aloadN d11_48 rfl rfl ?_
  refine own_iloadN d11_49 rfl ?_
  refine own_iconst (x := 5) d11_50 rfl ?_
  refine own_iadd d11_51 ?_
  refine own_laload (i := k + 5) d11_52 A (own_ik ea (by omega) 5 5 rfl (by decide)) (own_la (by omega)) ?_
  refine own_lloadN d11_53 rfl ?_
  refine own_lcmpNe d11_54 d11_55 (fun q => False.elim (by exact q (by rw [he 5 (by decide)]))) (fun _ => ?_)
  refine own_aloadN d11_58 rfl rfl ?_
  refine own_iloadN d11_59 rfl ?_
  refine own_bipush (x := 6) d11_60 rfl ?_
  refine own_iadd d11_62 ?_
  refine own_laload (i := k + 6) d11_63 A (own_ik ea (by omega) 6 6 rfl (by decide)) (own_la (by omega)) ?_
  refine own_lloadN d11_64 rfl ?_
  refine own_lcmpNe d11_65 d11_66 (fun q => False.elim (by exact q (by rw [he 6 (by decide)]))) (fun _ => ?_)
  refine own_aloadN d11_69 rfl rfl ?_
  refine own_iloadN d11_70 rfl ?_
  refine own_bipush (x := 7) d11_71 rfl ?_
  refine own_iadd d11_73 ?_
  refine own_laload (i := k + 7) d11_74 A (own_ik ea (by omega) 7 7 rfl (by decide)) (own_la (by omega)) ?_
  refine own_lloadN d11_75 rfl ?_
  refine own_lcmpNe d11_76 d11_77 (fun q => False.elim (by exact q (by rw [he 7 (by decide)]))) (fun _ => ?_)
  refine own_aloadN d11_80 rfl rfl ?_
  refine own_iloadN d11_81 rfl ?_
  refine own_bipush (x := 8) d11_82 rfl ?_
  refine own_iadd d11_84 ?_
  refine own_laload (i := k + 8) d11_85 A (own_ik ea (by omega) 8 8 rfl (by decide)) (own_la (by omega)) ?_
  refine own_lloadN d11_86 rfl ?_
  refine own_lcmpNe d11_87 d11_88 (fun q => False.elim (by exact q (by rw [he 8 (by decide)]))) (fun _ => ?_)
  refine own_iconst (x := 1) d11_91 rfl ?_
  refine own_goto d11_92 ?_
  exact own_retZ d11_96 rfl (by decide) (by decide) (by decide) ⟨rfl, rfl⟩
set_option maxRecDepth 65536 in
set_option maxHeartbeats 4000000 in
theorem own_law2 {l : Launch} {Z : State} {a0 : Array Value} (hw : ∀ d ∈ tables_1, d.before a0 Z = true) {n0 : Nat} {h : Heap} (a b c d hh m cm va vb vc vd : Int64) (sd bits : Int32) {av ac : Addr} {ys : List Int64} (hyl : ys.length = 38) (A : own_A Z h av .long (ys.map Value.long)) (P : own_P (own_v0 va vb vc vd) ys 1 37) (S : own_S ys 1 37) :
    own_V l Z n0 room_1 "com/example/rank_keeper/rankkeeper/RadixSortSortPinLaw" "law" code maxLocals ret (fun v _ => v = some (.int 1)) h 2 4134 259 #[.val (.long a), .second, .val (.long b), .second, .val (.long c), .second, .val (.long d), .second, .val (.long hh), .second, .val (.int sd), .val (.int bits), .val (.long m), .second, .val (.long cm), .second, .val (.long va), .second, .val (.long vb), .second, .val (.long vc), .second, .val (.long vd), .second, .val (.ref av), .val (.ref ac), .unset, .unset, .unset, .unset, .unset, .unset, .unset, .unset, .unset, .unset, .unset, .unset, .unset, .unset, .unset, .unset, .unset, .unset, .unset, .unset] [] := by
  refine own_lload d0_259 rfl ?_
  refine own_lload d0_261 rfl ?_
  refine own_callS (y := (⟨"java/lang/Math", "min", "(JJ)J"⟩ : MethodName)) (argsL := [(.long va), (.long vb)]) (rest := []) (W := 0) (cells' := 2) (slots' := 4134) (R' := ({ frames := 0, cells := 0, slots := 0, locals := 0 } : Room)) (own_minL hw va vb) (fun m => own_ef9_JJ m va vb) own_pl9 own_pd9 rfl d0_263 (own_w hw 35 rfl) (own_w hw 36 rfl) (own_w hw 15 rfl) (own_w hw 37 rfl) (by decide) rfl rfl (Nat.le_of_eq rfl) (by decide) (by decide) rfl rfl (by decide) (by decide) ?_
  rintro _ _ ⟨rfl, rfl⟩
  change own_V l Z n0 _ _ _ _ _ _ _ h _ _ _ _ (.long (own_mn va vb) :: _)
  refine own_lstore (L' := #[.val (.long a), .second, .val (.long b), .second, .val (.long c), .second, .val (.long d), .second, .val (.long hh), .second, .val (.int sd), .val (.int bits), .val (.long m), .second, .val (.long cm), .second, .val (.long va), .second, .val (.long vb), .second, .val (.long vc), .second, .val (.long vd), .second, .val (.ref av), .val (.ref ac), .val (.long (own_mn va vb)), .second, .unset, .unset, .unset, .unset, .unset, .unset, .unset, .unset, .unset, .unset, .unset, .unset, .unset, .unset, .unset, .unset, .unset, .unset]) d0_266 rfl ?_
  refine own_lload d0_268 rfl ?_
  refine own_lload d0_270 rfl ?_
  refine own_callS (y := (⟨"java/lang/Math", "max", "(JJ)J"⟩ : MethodName)) (argsL := [(.long va), (.long vb)]) (rest := []) (W := 0) (cells' := 2) (slots' := 4134) (R' := ({ frames := 0, cells := 0, slots := 0, locals := 0 } : Room)) (own_maxL hw va vb) (fun m => own_ef10_JJ m va vb) own_pl10 own_pd10 rfl d0_272 (own_w hw 38 rfl) (own_w hw 39 rfl) (own_w hw 15 rfl) (own_w hw 40 rfl) (by decide) rfl rfl (Nat.le_of_eq rfl) (by decide) (by decide) rfl rfl (by decide) (by decide) ?_
  rintro _ _ ⟨rfl, rfl⟩
  change own_V l Z n0 _ _ _ _ _ _ _ h _ _ _ _ (.long (own_mx va vb) :: _)
  refine own_lstore (L' := #[.val (.long a), .second, .val (.long b), .second, .val (.long c), .second, .val (.long d), .second, .val (.long hh), .second, .val (.int sd), .val (.int bits), .val (.long m), .second, .val (.long cm), .second, .val (.long va), .second, .val (.long vb), .second, .val (.long vc), .second, .val (.long vd), .second, .val (.ref av), .val (.ref ac), .val (.long (own_mn va vb)), .second, .val (.long (own_mx va vb)), .second, .unset, .unset, .unset, .unset, .unset, .unset, .unset, .unset, .unset, .unset, .unset, .unset, .unset, .unset, .unset, .unset]) d0_275 rfl ?_
  refine own_lload d0_277 rfl ?_
  refine own_lload d0_279 rfl ?_
  refine own_callS (y := (⟨"java/lang/Math", "min", "(JJ)J"⟩ : MethodName)) (argsL := [(.long vc), (.long vd)]) (rest := []) (W := 0) (cells' := 2) (slots' := 4134) (R' := ({ frames := 0, cells := 0, slots := 0, locals := 0 } : Room)) (own_minL hw vc vd) (fun m => own_ef9_JJ m vc vd) own_pl9 own_pd9 rfl d0_281 (own_w hw 35 rfl) (own_w hw 36 rfl) (own_w hw 15 rfl) (own_w hw 37 rfl) (by decide) rfl rfl (Nat.le_of_eq rfl) (by decide) (by decide) rfl rfl (by decide) (by decide) ?_
  rintro _ _ ⟨rfl, rfl⟩
  change own_V l Z n0 _ _ _ _ _ _ _ h _ _ _ _ (.long (own_mn vc vd) :: _)
  refine own_lstore (L' := #[.val (.long a), .second, .val (.long b), .second, .val (.long c), .second, .val (.long d), .second, .val (.long hh), .second, .val (.int sd), .val (.int bits), .val (.long m), .second, .val (.long cm), .second, .val (.long va), .second, .val (.long vb), .second, .val (.long vc), .second, .val (.long vd), .second, .val (.ref av), .val (.ref ac), .val (.long (own_mn va vb)), .second, .val (.long (own_mx va vb)), .second, .val (.long (own_mn vc vd)), .second, .unset, .unset, .unset, .unset, .unset, .unset, .unset, .unset, .unset, .unset, .unset, .unset, .unset, .unset]) d0_284 rfl ?_
  refine own_lload d0_286 rfl ?_
  refine own_lload d0_288 rfl ?_
  refine own_callS (y := (⟨"java/lang/Math", "max", "(JJ)J"⟩ : MethodName)) (argsL := [(.long vc), (.long vd)]) (rest := []) (W := 0) (cells' := 2) (slots' := 4134) (R' := ({ frames := 0, cells := 0, slots := 0, locals := 0 } : Room)) (own_maxL hw vc vd) (fun m => own_ef10_JJ m vc vd) own_pl10 own_pd10 rfl d0_290 (own_w hw 38 rfl) (own_w hw 39 rfl) (own_w hw 15 rfl) (own_w hw 40 rfl) (by decide) rfl rfl (Nat.le_of_eq rfl) (by decide) (by decide) rfl rfl (by decide) (by decide) ?_
  rintro _ _ ⟨rfl, rfl⟩
  change own_V l Z n0 _ _ _ _ _ _ _ h _ _ _ _ (.long (own_mx vc vd) :: _)
  refine own_lstore (L' := #[.val (.long a), .second, .val (.long b), .second, .val (.long c), .second, .val (.long d), .second, .val (.long hh), .second, .val (.int sd), .val (.int bits), .val (.long m), .second, .val (.long cm), .second, .val (.long va), .second, .val (.long vb), .second, .val (.long vc), .second, .val (.long vd), .second, .val (.ref av), .val (.ref ac), .val (.long (own_mn va vb)), .second, .val (.long (own_mx va vb)), .second, .val (.long (own_mn vc vd)), .second, .val (.long (own_mx vc vd)), .second, .unset, .unset, .unset, .unset, .unset, .unset, .unset, .unset, .unset, .unset, .unset, .unset]) d0_293 rfl ?_
  refine own_lload d0_295 rfl ?_
  refine own_lload d0_297 rfl ?_
  refine own_callS (y := (⟨"java/lang/Math", "min", "(JJ)J"⟩ : MethodName)) (argsL := [(.long (own_mn va vb)), (.long (own_mn vc vd))]) (rest := []) (W := 0) (cells' := 2) (slots' := 4134) (R' := ({ frames := 0, cells := 0, slots := 0, locals := 0 } : Room)) (own_minL hw (own_mn va vb) (own_mn vc vd)) (fun m => own_ef9_JJ m (own_mn va vb) (own_mn vc vd)) own_pl9 own_pd9 rfl d0_299 (own_w hw 35 rfl) (own_w hw 36 rfl) (own_w hw 15 rfl) (own_w hw 37 rfl) (by decide) rfl rfl (Nat.le_of_eq rfl) (by decide) (by decide) rfl rfl (by decide) (by decide) ?_
  rintro _ _ ⟨rfl, rfl⟩
  change own_V l Z n0 _ _ _ _ _ _ _ h _ _ _ _ (.long (own_s0 va vb vc vd) :: _)
  refine own_lstore (L' := #[.val (.long a), .second, .val (.long b), .second, .val (.long c), .second, .val (.long d), .second, .val (.long hh), .second, .val (.int sd), .val (.int bits), .val (.long m), .second, .val (.long cm), .second, .val (.long va), .second, .val (.long vb), .second, .val (.long vc), .second, .val (.long vd), .second, .val (.ref av), .val (.ref ac), .val (.long (own_mn va vb)), .second, .val (.long (own_mx va vb)), .second, .val (.long (own_mn vc vd)), .second, .val (.long (own_mx vc vd)), .second, .val (.long (own_s0 va vb vc vd)), .second, .unset, .unset, .unset, .unset, .unset, .unset, .unset, .unset, .unset, .unset]) d0_302 rfl ?_
  refine own_lload d0_304 rfl ?_
  refine own_lload d0_306 rfl ?_
  refine own_callS (y := (⟨"java/lang/Math", "max", "(JJ)J"⟩ : MethodName)) (argsL := [(.long (own_mx va vb)), (.long (own_mx vc vd))]) (rest := []) (W := 0) (cells' := 2) (slots' := 4134) (R' := ({ frames := 0, cells := 0, slots := 0, locals := 0 } : Room)) (own_maxL hw (own_mx va vb) (own_mx vc vd)) (fun m => own_ef10_JJ m (own_mx va vb) (own_mx vc vd)) own_pl10 own_pd10 rfl d0_308 (own_w hw 38 rfl) (own_w hw 39 rfl) (own_w hw 15 rfl) (own_w hw 40 rfl) (by decide) rfl rfl (Nat.le_of_eq rfl) (by decide) (by decide) rfl rfl (by decide) (by decide) ?_
  rintro _ _ ⟨rfl, rfl⟩
  change own_V l Z n0 _ _ _ _ _ _ _ h _ _ _ _ (.long (own_s3 va vb vc vd) :: _)
  refine own_lstore (L' := #[.val (.long a), .second, .val (.long b), .second, .val (.long c), .second, .val (.long d), .second, .val (.long hh), .second, .val (.int sd), .val (.int bits), .val (.long m), .second, .val (.long cm), .second, .val (.long va), .second, .val (.long vb), .second, .val (.long vc), .second, .val (.long vd), .second, .val (.ref av), .val (.ref ac), .val (.long (own_mn va vb)), .second, .val (.long (own_mx va vb)), .second, .val (.long (own_mn vc vd)), .second, .val (.long (own_mx vc vd)), .second, .val (.long (own_s0 va vb vc vd)), .second, .val (.long (own_s3 va vb vc vd)), .second, .unset, .unset, .unset, .unset, .unset, .unset, .unset, .unset]) d0_311 rfl ?_
  refine own_lload d0_313 rfl ?_
  refine own_lload d0_315 rfl ?_
  refine own_callS (y := (⟨"java/lang/Math", "max", "(JJ)J"⟩ : MethodName)) (argsL := [(.long (own_mn va vb)), (.long (own_mn vc vd))]) (rest := []) (W := 0) (cells' := 2) (slots' := 4134) (R' := ({ frames := 0, cells := 0, slots := 0, locals := 0 } : Room)) (own_maxL hw (own_mn va vb) (own_mn vc vd)) (fun m => own_ef10_JJ m (own_mn va vb) (own_mn vc vd)) own_pl10 own_pd10 rfl d0_317 (own_w hw 38 rfl) (own_w hw 39 rfl) (own_w hw 15 rfl) (own_w hw 40 rfl) (by decide) rfl rfl (Nat.le_of_eq rfl) (by decide) (by decide) rfl rfl (by decide) (by decide) ?_
  rintro _ _ ⟨rfl, rfl⟩
  change own_V l Z n0 _ _ _ _ _ _ _ h _ _ _ _ (.long (own_m1 va vb vc vd) :: _)
  refine own_lstore (L' := #[.val (.long a), .second, .val (.long b), .second, .val (.long c), .second, .val (.long d), .second, .val (.long hh), .second, .val (.int sd), .val (.int bits), .val (.long m), .second, .val (.long cm), .second, .val (.long va), .second, .val (.long vb), .second, .val (.long vc), .second, .val (.long vd), .second, .val (.ref av), .val (.ref ac), .val (.long (own_mn va vb)), .second, .val (.long (own_mx va vb)), .second, .val (.long (own_mn vc vd)), .second, .val (.long (own_mx vc vd)), .second, .val (.long (own_s0 va vb vc vd)), .second, .val (.long (own_s3 va vb vc vd)), .second, .val (.long (own_m1 va vb vc vd)), .second, .unset, .unset, .unset, .unset, .unset, .unset]) d0_320 rfl ?_
  refine own_lload d0_322 rfl ?_
  refine own_lload d0_324 rfl ?_
  refine own_callS (y := (⟨"java/lang/Math", "min", "(JJ)J"⟩ : MethodName)) (argsL := [(.long (own_mx va vb)), (.long (own_mx vc vd))]) (rest := []) (W := 0) (cells' := 2) (slots' := 4134) (R' := ({ frames := 0, cells := 0, slots := 0, locals := 0 } : Room)) (own_minL hw (own_mx va vb) (own_mx vc vd)) (fun m => own_ef9_JJ m (own_mx va vb) (own_mx vc vd)) own_pl9 own_pd9 rfl d0_326 (own_w hw 35 rfl) (own_w hw 36 rfl) (own_w hw 15 rfl) (own_w hw 37 rfl) (by decide) rfl rfl (Nat.le_of_eq rfl) (by decide) (by decide) rfl rfl (by decide) (by decide) ?_
  rintro _ _ ⟨rfl, rfl⟩
  change own_V l Z n0 _ _ _ _ _ _ _ h _ _ _ _ (.long (own_m2 va vb vc vd) :: _)
  refine own_lstore (L' := #[.val (.long a), .second, .val (.long b), .second, .val (.long c), .second, .val (.long d), .second, .val (.long hh), .second, .val (.int sd), .val (.int bits), .val (.long m), .second, .val (.long cm), .second, .val (.long va), .second, .val (.long vb), .second, .val (.long vc), .second, .val (.long vd), .second, .val (.ref av), .val (.ref ac), .val (.long (own_mn va vb)), .second, .val (.long (own_mx va vb)), .second, .val (.long (own_mn vc vd)), .second, .val (.long (own_mx vc vd)), .second, .val (.long (own_s0 va vb vc vd)), .second, .val (.long (own_s3 va vb vc vd)), .second, .val (.long (own_m1 va vb vc vd)), .second, .val (.long (own_m2 va vb vc vd)), .second, .unset, .unset, .unset, .unset]) d0_329 rfl ?_
  refine own_lload d0_331 rfl ?_
  refine own_lload d0_333 rfl ?_
  refine own_callS (y := (⟨"java/lang/Math", "min", "(JJ)J"⟩ : MethodName)) (argsL := [(.long (own_m1 va vb vc vd)), (.long (own_m2 va vb vc vd))]) (rest := []) (W := 0) (cells' := 2) (slots' := 4134) (R' := ({ frames := 0, cells := 0, slots := 0, locals := 0 } : Room)) (own_minL hw (own_m1 va vb vc vd) (own_m2 va vb vc vd)) (fun m => own_ef9_JJ m (own_m1 va vb vc vd) (own_m2 va vb vc vd)) own_pl9 own_pd9 rfl d0_335 (own_w hw 35 rfl) (own_w hw 36 rfl) (own_w hw 15 rfl) (own_w hw 37 rfl) (by decide) rfl rfl (Nat.le_of_eq rfl) (by decide) (by decide) rfl rfl (by decide) (by decide) ?_
  rintro _ _ ⟨rfl, rfl⟩
  change own_V l Z n0 _ _ _ _ _ _ _ h _ _ _ _ (.long (own_s1 va vb vc vd) :: _)
  refine own_lstore (L' := #[.val (.long a), .second, .val (.long b), .second, .val (.long c), .second, .val (.long d), .second, .val (.long hh), .second, .val (.int sd), .val (.int bits), .val (.long m), .second, .val (.long cm), .second, .val (.long va), .second, .val (.long vb), .second, .val (.long vc), .second, .val (.long vd), .second, .val (.ref av), .val (.ref ac), .val (.long (own_mn va vb)), .second, .val (.long (own_mx va vb)), .second, .val (.long (own_mn vc vd)), .second, .val (.long (own_mx vc vd)), .second, .val (.long (own_s0 va vb vc vd)), .second, .val (.long (own_s3 va vb vc vd)), .second, .val (.long (own_m1 va vb vc vd)), .second, .val (.long (own_m2 va vb vc vd)), .second, .val (.long (own_s1 va vb vc vd)), .second, .unset, .unset]) d0_338 rfl ?_
  refine own_lload d0_340 rfl ?_
  refine own_lload d0_342 rfl ?_
  refine own_callS (y := (⟨"java/lang/Math", "max", "(JJ)J"⟩ : MethodName)) (argsL := [(.long (own_m1 va vb vc vd)), (.long (own_m2 va vb vc vd))]) (rest := []) (W := 0) (cells' := 2) (slots' := 4134) (R' := ({ frames := 0, cells := 0, slots := 0, locals := 0 } : Room)) (own_maxL hw (own_m1 va vb vc vd) (own_m2 va vb vc vd)) (fun m => own_ef10_JJ m (own_m1 va vb vc vd) (own_m2 va vb vc vd)) own_pl10 own_pd10 rfl d0_344 (own_w hw 38 rfl) (own_w hw 39 rfl) (own_w hw 15 rfl) (own_w hw 40 rfl) (by decide) rfl rfl (Nat.le_of_eq rfl) (by decide) (by decide) rfl rfl (by decide) (by decide) ?_
  rintro _ _ ⟨rfl, rfl⟩
  change own_V l Z n0 _ _ _ _ _ _ _ h _ _ _ _ (.long (own_s2 va vb vc vd) :: _)
  refine own_lstore (L' := #[.val (.long a), .second, .val (.long b), .second, .val (.long c), .second, .val (.long d), .second, .val (.long hh), .second, .val (.int sd), .val (.int bits), .val (.long m), .second, .val (.long cm), .second, .val (.long va), .second, .val (.long vb), .second, .val (.long vc), .second, .val (.long vd), .second, .val (.ref av), .val (.ref ac), .val (.long (own_mn va vb)), .second, .val (.long (own_mx va vb)), .second, .val (.long (own_mn vc vd)), .second, .val (.long (own_mx vc vd)), .second, .val (.long (own_s0 va vb vc vd)), .second, .val (.long (own_s3 va vb vc vd)), .second, .val (.long (own_m1 va vb vc vd)), .second, .val (.long (own_m2 va vb vc vd)), .second, .val (.long (own_s1 va vb vc vd)), .second, .val (.long (own_s2 va vb vc vd)), .second]) d0_347 rfl ?_
  refine own_aload d0_349 rfl rfl ?_
  refine own_iconst (x := 0) d0_351 rfl ?_
  refine own_laload (i := 0) d0_352 A rfl (own_la (by omega)) ?_
  refine own_ldcJ d0_353 (own_w hw 2 rfl) ?_
  refine own_lcmpNe d0_356 d0_357 (fun q => False.elim (by exact q (by rw [P.2 0 (Or.inl (by decide))]; rfl))) (fun _ => ?_)
  refine own_aload d0_360 rfl rfl ?_
  refine own_bipush (x := 37) d0_362 rfl ?_
  refine own_laload (i := 37) d0_364 A rfl (own_la (by omega)) ?_
  refine own_ldcJ d0_365 (own_w hw 3 rfl) ?_
  refine own_lcmpNe d0_368 d0_369 (fun q => False.elim (by exact q (by rw [P.2 37 (Or.inr (by decide))]; rfl))) (fun _ => ?_)
  refine own_aload d0_372 rfl rfl ?_
  refine own_iconst (x := 1) d0_374 rfl ?_
  refine own_lload d0_375 rfl ?_
  refine own_callS (y := (⟨"com/example/rank_keeper/rankkeeper/RadixSortSortPinLaw", "run", "([JIJ)Z"⟩ : MethodName)) (argsL := [(.ref av), (.int (1 : Int32)), (.long (own_s0 va vb vc vd))]) (rest := []) (W := 0) (cells' := 2) (slots' := 4134) (R' := ({ frames := 0, cells := 0, slots := 0, locals := 0 } : Room)) (own_run hw (k := 1) rfl (by omega) hyl (fun j hj => by
    have := own_runs P S (0 + j) (by omega)
    rw [show 1 + j = 1 + (0 + j) by omega, this]
    match j, hj with
    | 0, _ => rfl
    | 1, _ => rfl
    | 2, _ => rfl
    | 3, _ => rfl
    | 4, _ => rfl
    | 5, _ => rfl
    | 6, _ => rfl
    | 7, _ => rfl
    | 8, _ => rfl) A) (fun m => own_ef11_AIJ m av (1 : Int32) (own_s0 va vb vc vd)) own_pl11 own_pd11 rfl d0_377 (own_w hw 41 rfl) (own_w hw 42 rfl) (own_w hw 6 rfl) (own_w hw 43 rfl) (by decide) rfl rfl (Nat.le_of_eq rfl) (by decide) (by decide) rfl rfl (by decide) (by decide) ?_
  rintro _ _ ⟨rfl, rfl⟩
  refine own_ifEq d0_380 (fun q => False.elim (by exact absurd q (by decide))) (fun _ => ?_)
  refine own_aload d0_383 rfl rfl ?_
  refine own_bipush (x := 10) d0_385 rfl ?_
  refine own_lload d0_387 rfl ?_
  refine own_callS (y := (⟨"com/example/rank_keeper/rankkeeper/RadixSortSortPinLaw", "run", "([JIJ)Z"⟩ : MethodName)) (argsL := [(.ref av), (.int (10 : Int32)), (.long (own_s1 va vb vc vd))]) (rest := []) (W := 0) (cells' := 2) (slots' := 4134) (R' := ({ frames := 0, cells := 0, slots := 0, locals := 0 } : Room)) (own_run hw (k := 10) rfl (by omega) hyl (fun j hj => by
    have := own_runs P S (9 + j) (by omega)
    rw [show 10 + j = 1 + (9 + j) by omega, this]
    match j, hj with
    | 0, _ => rfl
    | 1, _ => rfl
    | 2, _ => rfl
    | 3, _ => rfl
    | 4, _ => rfl
    | 5, _ => rfl
    | 6, _ => rfl
    | 7, _ => rfl
    | 8, _ => rfl) A) (fun m => own_ef11_AIJ m av (10 : Int32) (own_s1 va vb vc vd)) own_pl11 own_pd11 rfl d0_389 (own_w hw 41 rfl) (own_w hw 42 rfl) (own_w hw 6 rfl) (own_w hw 43 rfl) (by decide) rfl rfl (Nat.le_of_eq rfl) (by decide) (by decide) rfl rfl (by decide) (by decide) ?_
  rintro _ _ ⟨rfl, rfl⟩
  refine own_ifEq d0_392 (fun q => False.elim (by exact absurd q (by decide))) (fun _ => ?_)
  refine own_aload d0_395 rfl rfl ?_
  refine own_bipush (x := 19) d0_397 rfl ?_
  refine own_lload d0_399 rfl ?_
  refine own_callS (y := (⟨"com/example/rank_keeper/rankkeeper/RadixSortSortPinLaw", "run", "([JIJ)Z"⟩ : MethodName)) (argsL := [(.ref av), (.int (19 : Int32)), (.long (own_s2 va vb vc vd))]) (rest := []) (W := 0) (cells' := 2) (slots' := 4134) (R' := ({ frames := 0, cells := 0, slots := 0, locals := 0 } : Room)) (own_run hw (k := 19) rfl (by omega) hyl (fun j hj => by
    have := own_runs P S (18 + j) (by omega)
    rw [show 19 + j = 1 + (18 + j) by omega, this]
    match j, hj with
    | 0, _ => rfl
    | 1, _ => rfl
    | 2, _ => rfl
    | 3, _ => rfl
    | 4, _ => rfl
    | 5, _ => rfl
    | 6, _ => rfl
    | 7, _ => rfl
    | 8, _ => rfl) A) (fun m => own_ef11_AIJ m av (19 : Int32) (own_s2 va vb vc vd)) own_pl11 own_pd11 rfl d0_401 (own_w hw 41 rfl) (own_w hw 42 rfl) (own_w hw 6 rfl) (own_w hw 43 rfl) (by decide) rfl rfl (Nat.le_of_eq rfl) (by decide) (by decide) rfl rfl (by decide) (by decide) ?_
  rintro _ _ ⟨rfl, rfl⟩
  refine own_ifEq d0_404 (fun q => False.elim (by exact absurd q (by decide))) (fun _ => ?_)
  refine own_aload d0_407 rfl rfl ?_
  refine own_bipush (x := 28) d0_409 rfl ?_
  refine own_lload d0_411 rfl ?_
  refine own_callS (y := (⟨"com/example/rank_keeper/rankkeeper/RadixSortSortPinLaw", "run", "([JIJ)Z"⟩ : MethodName)) (argsL := [(.ref av), (.int (28 : Int32)), (.long (own_s3 va vb vc vd))]) (rest := []) (W := 0) (cells' := 2) (slots' := 4134) (R' := ({ frames := 0, cells := 0, slots := 0, locals := 0 } : Room)) (own_run hw (k := 28) rfl (by omega) hyl (fun j hj => by
    have := own_runs P S (27 + j) (by omega)
    rw [show 28 + j = 1 + (27 + j) by omega, this]
    match j, hj with
    | 0, _ => rfl
    | 1, _ => rfl
    | 2, _ => rfl
    | 3, _ => rfl
    | 4, _ => rfl
    | 5, _ => rfl
    | 6, _ => rfl
    | 7, _ => rfl
    | 8, _ => rfl) A) (fun m => own_ef11_AIJ m av (28 : Int32) (own_s3 va vb vc vd)) own_pl11 own_pd11 rfl d0_413 (own_w hw 41 rfl) (own_w hw 42 rfl) (own_w hw 6 rfl) (own_w hw 43 rfl) (by decide) rfl rfl (Nat.le_of_eq rfl) (by decide) (by decide) rfl rfl (by decide) (by decide) ?_
  rintro _ _ ⟨rfl, rfl⟩
  refine own_ifEq d0_416 (fun q => False.elim (by exact absurd q (by decide))) (fun _ => ?_)
  refine own_iconst (x := 1) d0_419 rfl ?_
  refine own_goto d0_420 ?_
  exact own_retZ d0_424 rfl (by decide) (by decide) (by decide) rfl
set_option maxRecDepth 65536 in
set_option maxHeartbeats 4000000 in
theorem own_law3 {l : Launch} {Z : State} {a0 : Array Value} (hw : ∀ d ∈ tables_1, d.before a0 Z = true) {n0 : Nat} {h : Heap} (a b c d hh m cm va vb vc vd : Int64) (sd bits : Int32) {av : Addr} (ga : n0 ≤ av) {n : Nat} (hn : bits.toInt = n) (h63 : n ≤ 63) {H : Int} (ka : own_k n va = H) (kb : own_k n vb = H) (kc : own_k n vc = H) (kd : own_k n vd = H) (A : own_A Z h av .long ((own_v0 va vb vc vd).map Value.long)) :
    own_V l Z n0 room_1 "com/example/rank_keeper/rankkeeper/RadixSortSortPinLaw" "law" code maxLocals ret (fun v _ => v = some (.int 1)) h 1 38 218 #[.val (.long a), .second, .val (.long b), .second, .val (.long c), .second, .val (.long d), .second, .val (.long hh), .second, .val (.int sd), .val (.int bits), .val (.long m), .second, .val (.long cm), .second, .val (.long va), .second, .val (.long vb), .second, .val (.long vc), .second, .val (.long vd), .second, .val (.ref av), .unset, .unset, .unset, .unset, .unset, .unset, .unset, .unset, .unset, .unset, .unset, .unset, .unset, .unset, .unset, .unset, .unset, .unset, .unset, .unset, .unset] [] := by
  refine own_sipush (x := 4096) d0_218 rfl ?_
  refine own_newarr (a0 := a0) (i := 4096) (cap := 4096) d0_221 (own_w hw 8 rfl) rfl (by decide) (by decide) (cells' := 2) (slots' := 4134) rfl rfl (by decide) (by decide) (fun h13 E13 C => ?_)
  obtain ⟨ac, gac⟩ : ∃ z, z = h.size := ⟨_, rfl⟩
  rw [← gac] at C ⊢
  have hne : av ≠ ac := by rw [gac]; exact Nat.ne_of_lt A.lt
  have gc : n0 ≤ ac := by rw [gac]; exact Nat.le_trans ga (Nat.le_of_lt A.lt)
  have A := own_A.ext E13 A
  have C : own_A Z h13 ac .int ((List.replicate 4096 (0 : Int32)).map Value.int) := by rw [List.map_replicate]; exact C
  obtain ⟨cs, hcs⟩ : ∃ cs, cs = List.replicate 4096 (0 : Int32) := ⟨_, rfl⟩
  rw [← hcs] at C
  have hl4 : cs.length = 4096 := by rw [hcs]; simp
  clear hcs
  refine own_astore (L' := #[.val (.long a), .second, .val (.long b), .second, .val (.long c), .second, .val (.long d), .second, .val (.long hh), .second, .val (.int sd), .val (.int bits), .val (.long m), .second, .val (.long cm), .second, .val (.long va), .second, .val (.long vb), .second, .val (.long vc), .second, .val (.long vd), .second, .val (.ref av), .val (.ref ac), .unset, .unset, .unset, .unset, .unset, .unset, .unset, .unset, .unset, .unset, .unset, .unset, .unset, .unset, .unset, .unset, .unset, .unset, .unset, .unset]) d0_223 rfl rfl ?_
  refine own_aload d0_225 rfl rfl ?_
  refine own_iconst (x := 0) d0_227 rfl ?_
  refine own_lloadN d0_228 rfl ?_
  refine own_l2i d0_229 ?_
  refine own_iastore (i := 0) d0_230 C rfl (by simp [hl4]) gc (fun h14 W C => ?_)
  rw [← List.map_set] at C
  have A := own_A.other W A hne
  clear W
  obtain ⟨cs0, hcs⟩ : ∃ z, z = cs.set 0 (a.toInt32) := ⟨_, rfl⟩
  rw [← hcs] at C
  have hl4 : cs0.length = 4096 := by rw [hcs]; simpa using hl4
  clear hcs
  refine own_aload d0_231 rfl rfl ?_
  refine own_bipush (x := 31) d0_233 rfl ?_
  refine own_lloadN d0_235 rfl ?_
  refine own_l2i d0_236 ?_
  refine own_iastore (i := 31) d0_237 C rfl (by simp [hl4]) gc (fun h15 W C => ?_)
  rw [← List.map_set] at C
  have A := own_A.other W A hne
  clear W
  obtain ⟨cs1, hcs⟩ : ∃ z, z = cs0.set 31 (b.toInt32) := ⟨_, rfl⟩
  rw [← hcs] at C
  have hl4 : cs1.length = 4096 := by rw [hcs]; simpa using hl4
  clear hcs
  refine own_aload d0_238 rfl rfl ?_
  refine own_sipush (x := 2047) d0_240 rfl ?_
  refine own_lload d0_243 rfl ?_
  refine own_l2i d0_245 ?_
  refine own_iastore (i := 2047) d0_246 C rfl (by simp [hl4]) gc (fun h16 W C => ?_)
  rw [← List.map_set] at C
  have A := own_A.other W A hne
  clear W
  obtain ⟨cs2, hcs⟩ : ∃ z, z = cs1.set 2047 (c.toInt32) := ⟨_, rfl⟩
  rw [← hcs] at C
  have hl4 : cs2.length = 4096 := by rw [hcs]; simpa using hl4
  clear hcs
  refine own_aload d0_247 rfl rfl ?_
  refine own_iconst (x := 1) d0_249 rfl ?_
  refine own_bipush (x := 37) d0_250 rfl ?_
  refine own_iload d0_252 rfl ?_
  refine own_aload d0_254 rfl rfl ?_
  refine own_callS (y := (⟨"com/example/rank_keeper/rankkeeper/RadixSort", "sort", "([JIII[I)V"⟩ : MethodName)) (argsL := [(.ref av), (.int (1 : Int32)), (.int (37 : Int32)), (.int bits), (.ref ac)]) (rest := []) (W := 0) (cells' := 2) (slots' := 4134) (R' := ({ frames := 26, cells := 0, slots := 0, locals := 600 } : Room)) (own_sort hw ga gc hne n 26 600 (own_v0 va vb vc vd) cs2 h16 1 37 1 37 bits (by omega) (by omega) (by omega) (by omega) rfl rfl hn h63 (by decide) (by show 37 ≤ 38; decide) (by decide) (by decide) (fun i j i1 i2 j1 j2 => by rw [own_agree ka kb kc kd i i1 i2, own_agree ka kb kc kd j j1 j2]) A C hl4) (fun m => own_ef2_AIIIA m av (1 : Int32) (37 : Int32) bits ac) own_pl2 own_pd2 rfl d0_256 (own_w hw 9 rfl) (own_w hw 10 rfl) (own_w hw 11 rfl) (own_w hw 12 rfl) (by decide) rfl rfl (Nat.le_of_eq rfl) (by decide) (by decide) rfl rfl (by decide) (by decide) ?_
  rintro _ h17 ⟨rfl, ys, cs', A', C', hl', P, S⟩
  exact own_law2 hw a b c d hh m cm va vb vc vd sd bits P.len A' P S
set_option maxRecDepth 65536 in
set_option maxHeartbeats 4000000 in
theorem own_law4 {l : Launch} {Z : State} {a0 : Array Value} (hw : ∀ d ∈ tables_1, d.before a0 Z = true) {n0 : Nat} {h : Heap} (a b c d hh m cm va vb vc vd : Int64) (sd bits : Int32) (Z0 : n0 ≤ h.size) {n : Nat} (hn : bits.toInt = n) (h63 : n ≤ 63) {H : Int} (ka : own_k n va = H) (kb : own_k n vb = H) (kc : own_k n vc = H) (kd : own_k n vd = H) :
    own_V l Z n0 room_1 "com/example/rank_keeper/rankkeeper/RadixSortSortPinLaw" "law" code maxLocals ret (fun v _ => v = some (.int 1)) h 0 0 64 #[.val (.long a), .second, .val (.long b), .second, .val (.long c), .second, .val (.long d), .second, .val (.long hh), .second, .val (.int sd), .val (.int bits), .val (.long m), .second, .val (.long cm), .second, .val (.long va), .second, .val (.long vb), .second, .val (.long vc), .second, .val (.long vd), .second, .unset, .unset, .unset, .unset, .unset, .unset, .unset, .unset, .unset, .unset, .unset, .unset, .unset, .unset, .unset, .unset, .unset, .unset, .unset, .unset, .unset, .unset] [] := by
  refine own_bipush (x := 38) d0_64 rfl ?_
  refine own_newarr (a0 := a0) (i := 38) (cap := 38) d0_66 (own_w hw 1 rfl) rfl (by decide) (by decide) (cells' := 1) (slots' := 38) rfl rfl (by decide) (by decide) (fun h1 E1 A => ?_)
  obtain ⟨av, gv⟩ : ∃ z, z = h.size := ⟨_, rfl⟩
  rw [← gv] at A ⊢
  have ga : n0 ≤ av := by rw [gv]; exact Z0
  have A : own_A Z h1 av .long ((List.replicate 38 (0 : Int64)).map Value.long) := by rw [List.map_replicate]; exact A
  refine own_astore (L' := #[.val (.long a), .second, .val (.long b), .second, .val (.long c), .second, .val (.long d), .second, .val (.long hh), .second, .val (.int sd), .val (.int bits), .val (.long m), .second, .val (.long cm), .second, .val (.long va), .second, .val (.long vb), .second, .val (.long vc), .second, .val (.long vd), .second, .val (.ref av), .unset, .unset, .unset, .unset, .unset, .unset, .unset, .unset, .unset, .unset, .unset, .unset, .unset, .unset, .unset, .unset, .unset, .unset, .unset, .unset, .unset]) d0_68 rfl rfl ?_
  refine own_aload d0_70 rfl rfl ?_
  refine own_iconst (x := 0) d0_72 rfl ?_
  refine own_ldcJ d0_73 (own_w hw 2 rfl) ?_
  refine own_lastore (i := 0) d0_76 A rfl (by simp) ga (fun h2 W A => ?_)
  rw [← List.map_set] at A
  clear W
  refine own_aload d0_77 rfl rfl ?_
  refine own_bipush (x := 37) d0_79 rfl ?_
  refine own_ldcJ d0_81 (own_w hw 3 rfl) ?_
  refine own_lastore (i := 37) d0_84 A rfl (by simp) ga (fun h3 W A => ?_)
  rw [← List.map_set] at A
  clear W
  refine own_aload d0_85 rfl rfl ?_
  refine own_iconst (x := 1) d0_87 rfl ?_
  refine own_lload d0_88 rfl ?_
  refine own_lload d0_90 rfl ?_
  refine own_lload d0_92 rfl ?_
  refine own_lload d0_94 rfl ?_
  refine own_callS (y := (⟨"com/example/rank_keeper/rankkeeper/RadixSortSortPinLaw", "put", "([JIJJJJ)V"⟩ : MethodName)) (argsL := [(.ref av), (.int (1 : Int32)), (.long vd), (.long va), (.long vc), (.long vb)]) (rest := []) (W := 0) (cells' := 1) (slots' := 38) (R' := ({ frames := 0, cells := 0, slots := 0, locals := 0 } : Room)) (own_put hw ga (k := 1) rfl (by simp) (by simp) vd va vc vb A) (fun m => own_ef1_AIJJJJ m av (1 : Int32) vd va vc vb) own_pl1 own_pd1 rfl d0_96 (own_w hw 4 rfl) (own_w hw 5 rfl) (own_w hw 6 rfl) (own_w hw 7 rfl) (by decide) rfl rfl (Nat.le_of_eq rfl) (by decide) (by decide) rfl rfl (by decide) (by decide) ?_
  rintro _ h4 ⟨rfl, A⟩
  have A : own_A Z h4 av .long (([9223372036854775807, vd, va, vc, vb, 0, 0, 0, 0, 0, 0, 0, 0, 0, 0, 0, 0, 0, 0, 0, 0, 0, 0, 0, 0, 0, 0, 0, 0, 0, 0, 0, 0, 0, 0, 0, 0, -9223372036854775808] : List Int64).map Value.long) := A
  refine own_aload d0_99 rfl rfl ?_
  refine own_iconst (x := 5) d0_101 rfl ?_
  refine own_lload d0_102 rfl ?_
  refine own_lload d0_104 rfl ?_
  refine own_lload d0_106 rfl ?_
  refine own_lload d0_108 rfl ?_
  refine own_callS (y := (⟨"com/example/rank_keeper/rankkeeper/RadixSortSortPinLaw", "put", "([JIJJJJ)V"⟩ : MethodName)) (argsL := [(.ref av), (.int (5 : Int32)), (.long vb), (.long vd), (.long va), (.long vc)]) (rest := []) (W := 0) (cells' := 1) (slots' := 38) (R' := ({ frames := 0, cells := 0, slots := 0, locals := 0 } : Room)) (own_put hw ga (k := 5) rfl (by simp) (by simp) vb vd va vc A) (fun m => own_ef1_AIJJJJ m av (5 : Int32) vb vd va vc) own_pl1 own_pd1 rfl d0_110 (own_w hw 4 rfl) (own_w hw 5 rfl) (own_w hw 6 rfl) (own_w hw 7 rfl) (by decide) rfl rfl (Nat.le_of_eq rfl) (by decide) (by decide) rfl rfl (by decide) (by decide) ?_
  rintro _ h5 ⟨rfl, A⟩
  have A : own_A Z h5 av .long (([9223372036854775807, vd, va, vc, vb, vb, vd, va, vc, 0, 0, 0, 0, 0, 0, 0, 0, 0, 0, 0, 0, 0, 0, 0, 0, 0, 0, 0, 0, 0, 0, 0, 0, 0, 0, 0, 0, -9223372036854775808] : List Int64).map Value.long) := A
  refine own_aload d0_113 rfl rfl ?_
  refine own_bipush (x := 9) d0_115 rfl ?_
  refine own_lload d0_117 rfl ?_
  refine own_lload d0_119 rfl ?_
  refine own_lload d0_121 rfl ?_
  refine own_lload d0_123 rfl ?_
  refine own_callS (y := (⟨"com/example/rank_keeper/rankkeeper/RadixSortSortPinLaw", "put", "([JIJJJJ)V"⟩ : MethodName)) (argsL := [(.ref av), (.int (9 : Int32)), (.long vc), (.long vb), (.long vd), (.long va)]) (rest := []) (W := 0) (cells' := 1) (slots' := 38) (R' := ({ frames := 0, cells := 0, slots := 0, locals := 0 } : Room)) (own_put hw ga (k := 9) rfl (by simp) (by simp) vc vb vd va A) (fun m => own_ef1_AIJJJJ m av (9 : Int32) vc vb vd va) own_pl1 own_pd1 rfl d0_125 (own_w hw 4 rfl) (own_w hw 5 rfl) (own_w hw 6 rfl) (own_w hw 7 rfl) (by decide) rfl rfl (Nat.le_of_eq rfl) (by decide) (by decide) rfl rfl (by decide) (by decide) ?_
  rintro _ h6 ⟨rfl, A⟩
  have A : own_A Z h6 av .long (([9223372036854775807, vd, va, vc, vb, vb, vd, va, vc, vc, vb, vd, va, 0, 0, 0, 0, 0, 0, 0, 0, 0, 0, 0, 0, 0, 0, 0, 0, 0, 0, 0, 0, 0, 0, 0, 0, -9223372036854775808] : List Int64).map Value.long) := A
  refine own_aload d0_128 rfl rfl ?_
  refine own_bipush (x := 13) d0_130 rfl ?_
  refine own_lload d0_132 rfl ?_
  refine own_lload d0_134 rfl ?_
  refine own_lload d0_136 rfl ?_
  refine own_lload d0_138 rfl ?_
  refine own_callS (y := (⟨"com/example/rank_keeper/rankkeeper/RadixSortSortPinLaw", "put", "([JIJJJJ)V"⟩ : MethodName)) (argsL := [(.ref av), (.int (13 : Int32)), (.long va), (.long vc), (.long vb), (.long vd)]) (rest := []) (W := 0) (cells' := 1) (slots' := 38) (R' := ({ frames := 0, cells := 0, slots := 0, locals := 0 } : Room)) (own_put hw ga (k := 13) rfl (by simp) (by simp) va vc vb vd A) (fun m => own_ef1_AIJJJJ m av (13 : Int32) va vc vb vd) own_pl1 own_pd1 rfl d0_140 (own_w hw 4 rfl) (own_w hw 5 rfl) (own_w hw 6 rfl) (own_w hw 7 rfl) (by decide) rfl rfl (Nat.le_of_eq rfl) (by decide) (by decide) rfl rfl (by decide) (by decide) ?_
  rintro _ h7 ⟨rfl, A⟩
  have A : own_A Z h7 av .long (([9223372036854775807, vd, va, vc, vb, vb, vd, va, vc, vc, vb, vd, va, va, vc, vb, vd, 0, 0, 0, 0, 0, 0, 0, 0, 0, 0, 0, 0, 0, 0, 0, 0, 0, 0, 0, 0, -9223372036854775808] : List Int64).map Value.long) := A
  refine own_aload d0_143 rfl rfl ?_
  refine own_bipush (x := 17) d0_145 rfl ?_
  refine own_lload d0_147 rfl ?_
  refine own_lload d0_149 rfl ?_
  refine own_lload d0_151 rfl ?_
  refine own_lload d0_153 rfl ?_
  refine own_callS (y := (⟨"com/example/rank_keeper/rankkeeper/RadixSortSortPinLaw", "put", "([JIJJJJ)V"⟩ : MethodName)) (argsL := [(.ref av), (.int (17 : Int32)), (.long vd), (.long vb), (.long vc), (.long va)]) (rest := []) (W := 0) (cells' := 1) (slots' := 38) (R' := ({ frames := 0, cells := 0, slots := 0, locals := 0 } : Room)) (own_put hw ga (k := 17) rfl (by simp) (by simp) vd vb vc va A) (fun m => own_ef1_AIJJJJ m av (17 : Int32) vd vb vc va) own_pl1 own_pd1 rfl d0_155 (own_w hw 4 rfl) (own_w hw 5 rfl) (own_w hw 6 rfl) (own_w hw 7 rfl) (by decide) rfl rfl (Nat.le_of_eq rfl) (by decide) (by decide) rfl rfl (by decide) (by decide) ?_
  rintro _ h8 ⟨rfl, A⟩
  have A : own_A Z h8 av .long (([9223372036854775807, vd, va, vc, vb, vb, vd, va, vc, vc, vb, vd, va, va, vc, vb, vd, vd, vb, vc, va, 0, 0, 0, 0, 0, 0, 0, 0, 0, 0, 0, 0, 0, 0, 0, 0, -9223372036854775808] : List Int64).map Value.long) := A
  refine own_aload d0_158 rfl rfl ?_
  refine own_bipush (x := 21) d0_160 rfl ?_
  refine own_lload d0_162 rfl ?_
  refine own_lload d0_164 rfl ?_
  refine own_lload d0_166 rfl ?_
  refine own_lload d0_168 rfl ?_
  refine own_callS (y := (⟨"com/example/rank_keeper/rankkeeper/RadixSortSortPinLaw", "put", "([JIJJJJ)V"⟩ : MethodName)) (argsL := [(.ref av), (.int (21 : Int32)), (.long va), (.long vd), (.long vb), (.long vc)]) (rest := []) (W := 0) (cells' := 1) (slots' := 38) (R' := ({ frames := 0, cells := 0, slots := 0, locals := 0 } : Room)) (own_put hw ga (k := 21) rfl (by simp) (by simp) va vd vb vc A) (fun m => own_ef1_AIJJJJ m av (21 : Int32) va vd vb vc) own_pl1 own_pd1 rfl d0_170 (own_w hw 4 rfl) (own_w hw 5 rfl) (own_w hw 6 rfl) (own_w hw 7 rfl) (by decide) rfl rfl (Nat.le_of_eq rfl) (by decide) (by decide) rfl rfl (by decide) (by decide) ?_
  rintro _ h9 ⟨rfl, A⟩
  have A : own_A Z h9 av .long (([9223372036854775807, vd, va, vc, vb, vb, vd, va, vc, vc, vb, vd, va, va, vc, vb, vd, vd, vb, vc, va, va, vd, vb, vc, 0, 0, 0, 0, 0, 0, 0, 0, 0, 0, 0, 0, -9223372036854775808] : List Int64).map Value.long) := A
  refine own_aload d0_173 rfl rfl ?_
  refine own_bipush (x := 25) d0_175 rfl ?_
  refine own_lload d0_177 rfl ?_
  refine own_lload d0_179 rfl ?_
  refine own_lload d0_181 rfl ?_
  refine own_lload d0_183 rfl ?_
  refine own_callS (y := (⟨"com/example/rank_keeper/rankkeeper/RadixSortSortPinLaw", "put", "([JIJJJJ)V"⟩ : MethodName)) (argsL := [(.ref av), (.int (25 : Int32)), (.long vc), (.long va), (.long vd), (.long vb)]) (rest := []) (W := 0) (cells' := 1) (slots' := 38) (R' := ({ frames := 0, cells := 0, slots := 0, locals := 0 } : Room)) (own_put hw ga (k := 25) rfl (by simp) (by simp) vc va vd vb A) (fun m => own_ef1_AIJJJJ m av (25 : Int32) vc va vd vb) own_pl1 own_pd1 rfl d0_185 (own_w hw 4 rfl) (own_w hw 5 rfl) (own_w hw 6 rfl) (own_w hw 7 rfl) (by decide) rfl rfl (Nat.le_of_eq rfl) (by decide) (by decide) rfl rfl (by decide) (by decide) ?_
  rintro _ h10 ⟨rfl, A⟩
  have A : own_A Z h10 av .long (([9223372036854775807, vd, va, vc, vb, vb, vd, va, vc, vc, vb, vd, va, va, vc, vb, vd, vd, vb, vc, va, va, vd, vb, vc, vc, va, vd, vb, 0, 0, 0, 0, 0, 0, 0, 0, -9223372036854775808] : List Int64).map Value.long) := A
  refine own_aload d0_188 rfl rfl ?_
  refine own_bipush (x := 29) d0_190 rfl ?_
  refine own_lload d0_192 rfl ?_
  refine own_lload d0_194 rfl ?_
  refine own_lload d0_196 rfl ?_
  refine own_lload d0_198 rfl ?_
  refine own_callS (y := (⟨"com/example/rank_keeper/rankkeeper/RadixSortSortPinLaw", "put", "([JIJJJJ)V"⟩ : MethodName)) (argsL := [(.ref av), (.int (29 : Int32)), (.long vb), (.long vc), (.long va), (.long vd)]) (rest := []) (W := 0) (cells' := 1) (slots' := 38) (R' := ({ frames := 0, cells := 0, slots := 0, locals := 0 } : Room)) (own_put hw ga (k := 29) rfl (by simp) (by simp) vb vc va vd A) (fun m => own_ef1_AIJJJJ m av (29 : Int32) vb vc va vd) own_pl1 own_pd1 rfl d0_200 (own_w hw 4 rfl) (own_w hw 5 rfl) (own_w hw 6 rfl) (own_w hw 7 rfl) (by decide) rfl rfl (Nat.le_of_eq rfl) (by decide) (by decide) rfl rfl (by decide) (by decide) ?_
  rintro _ h11 ⟨rfl, A⟩
  have A : own_A Z h11 av .long (([9223372036854775807, vd, va, vc, vb, vb, vd, va, vc, vc, vb, vd, va, va, vc, vb, vd, vd, vb, vc, va, va, vd, vb, vc, vc, va, vd, vb, vb, vc, va, vd, 0, 0, 0, 0, -9223372036854775808] : List Int64).map Value.long) := A
  refine own_aload d0_203 rfl rfl ?_
  refine own_bipush (x := 33) d0_205 rfl ?_
  refine own_lload d0_207 rfl ?_
  refine own_lload d0_209 rfl ?_
  refine own_lload d0_211 rfl ?_
  refine own_lload d0_213 rfl ?_
  refine own_callS (y := (⟨"com/example/rank_keeper/rankkeeper/RadixSortSortPinLaw", "put", "([JIJJJJ)V"⟩ : MethodName)) (argsL := [(.ref av), (.int (33 : Int32)), (.long vd), (.long vc), (.long vb), (.long va)]) (rest := []) (W := 0) (cells' := 1) (slots' := 38) (R' := ({ frames := 0, cells := 0, slots := 0, locals := 0 } : Room)) (own_put hw ga (k := 33) rfl (by simp) (by simp) vd vc vb va A) (fun m => own_ef1_AIJJJJ m av (33 : Int32) vd vc vb va) own_pl1 own_pd1 rfl d0_215 (own_w hw 4 rfl) (own_w hw 5 rfl) (own_w hw 6 rfl) (own_w hw 7 rfl) (by decide) rfl rfl (Nat.le_of_eq rfl) (by decide) (by decide) rfl rfl (by decide) (by decide) ?_
  rintro _ h12 ⟨rfl, A⟩
  have A : own_A Z h12 av .long (([9223372036854775807, vd, va, vc, vb, vb, vd, va, vc, vc, vb, vd, va, va, vc, vb, vd, vd, vb, vc, va, va, vd, vb, vc, vc, va, vd, vb, vb, vc, va, vd, vd, vc, vb, va, -9223372036854775808] : List Int64).map Value.long) := A
  exact own_law3 hw a b c d hh m cm va vb vc vd sd bits ga hn h63 ka kb kc kd A
set_option maxRecDepth 65536 in
set_option maxHeartbeats 4000000 in
theorem own_law {l : Launch} {Z : State} {a0 : Array Value} (hw : ∀ d ∈ tables_1, d.before a0 Z = true) {n0 : Nat} {h : Heap} (a b c d hh : Int64) (sd : Int32) (Z0 : n0 ≤ h.size) :
    own_V l Z n0 room_1 "com/example/rank_keeper/rankkeeper/RadixSortSortPinLaw" "law" code maxLocals ret (fun v _ => v = some (.int 1)) h 0 0 0 #[.val (.long a), .second, .val (.long b), .second, .val (.long c), .second, .val (.long d), .second, .val (.long hh), .second, .val (.int sd), .unset, .unset, .unset, .unset, .unset, .unset, .unset, .unset, .unset, .unset, .unset, .unset, .unset, .unset, .unset, .unset, .unset, .unset, .unset, .unset, .unset, .unset, .unset, .unset, .unset, .unset, .unset, .unset, .unset, .unset, .unset, .unset, .unset, .unset, .unset] [] := by
  refine own_iload d0_0 rfl ?_
  refine own_bipush (x := 63) d0_2 rfl ?_
  refine own_iand d0_4 ?_
  generalize g_bits : (sd &&& (63 : Int32)) = bits
  have hbm := c_mask sd 63 6 (by decide) (by decide)
  rw [g_bits] at hbm
  clear g_bits
  obtain ⟨n, hn⟩ : ∃ n : Nat, bits.toInt = n := ⟨bits.toInt.toNat, by omega⟩
  have h63 : n ≤ 63 := by omega
  have hmk := own_mask hn h63
  refine own_istore (L' := #[.val (.long a), .second, .val (.long b), .second, .val (.long c), .second, .val (.long d), .second, .val (.long hh), .second, .val (.int sd), .val (.int bits), .unset, .unset, .unset, .unset, .unset, .unset, .unset, .unset, .unset, .unset, .unset, .unset, .unset, .unset, .unset, .unset, .unset, .unset, .unset, .unset, .unset, .unset, .unset, .unset, .unset, .unset, .unset, .unset, .unset, .unset, .unset, .unset, .unset, .unset]) d0_5 rfl ?_
  refine own_lconst (x := 1) d0_7 rfl ?_
  refine own_iload d0_8 rfl ?_
  refine own_lshl d0_10 ?_
  refine own_lconst (x := 1) d0_11 rfl ?_
  refine own_lsub d0_12 ?_
  generalize g_m : (((1 : Int64) <<< (bits &&& 0x3f).toInt64) - (1 : Int64)) = m
  rw [show ((1 : Int64) <<< (bits &&& 0x3f).toInt64 - 1) = m from g_m] at hmk
  have ka := own_va hmk h63 hh a
  have kb := own_va hmk h63 hh b
  have kc := own_va hmk h63 hh c
  have kd := own_va hmk h63 hh d
  refine own_lstore (L' := #[.val (.long a), .second, .val (.long b), .second, .val (.long c), .second, .val (.long d), .second, .val (.long hh), .second, .val (.int sd), .val (.int bits), .val (.long m), .second, .unset, .unset, .unset, .unset, .unset, .unset, .unset, .unset, .unset, .unset, .unset, .unset, .unset, .unset, .unset, .unset, .unset, .unset, .unset, .unset, .unset, .unset, .unset, .unset, .unset, .unset, .unset, .unset, .unset, .unset, .unset, .unset]) d0_13 rfl ?_
  refine own_lload d0_15 rfl ?_
  refine own_lload d0_17 rfl ?_
  refine own_ldcJ d0_19 (own_w hw 0 rfl) ?_
  refine own_lxor d0_22 ?_
  refine own_land d0_23 ?_
  generalize g_cm : (hh &&& (m ^^^ (-1 : Int64))) = cm at *
  refine own_lstore (L' := #[.val (.long a), .second, .val (.long b), .second, .val (.long c), .second, .val (.long d), .second, .val (.long hh), .second, .val (.int sd), .val (.int bits), .val (.long m), .second, .val (.long cm), .second, .unset, .unset, .unset, .unset, .unset, .unset, .unset, .unset, .unset, .unset, .unset, .unset, .unset, .unset, .unset, .unset, .unset, .unset, .unset, .unset, .unset, .unset, .unset, .unset, .unset, .unset, .unset, .unset, .unset, .unset]) d0_24 rfl ?_
  refine own_lload d0_26 rfl ?_
  refine own_lloadN d0_28 rfl ?_
  refine own_lload d0_29 rfl ?_
  refine own_land d0_31 ?_
  refine own_lor d0_32 ?_
  generalize g_va : (cm ||| (a &&& m)) = va at *
  refine own_lstore (L' := #[.val (.long a), .second, .val (.long b), .second, .val (.long c), .second, .val (.long d), .second, .val (.long hh), .second, .val (.int sd), .val (.int bits), .val (.long m), .second, .val (.long cm), .second, .val (.long va), .second, .unset, .unset, .unset, .unset, .unset, .unset, .unset, .unset, .unset, .unset, .unset, .unset, .unset, .unset, .unset, .unset, .unset, .unset, .unset, .unset, .unset, .unset, .unset, .unset, .unset, .unset, .unset, .unset]) d0_33 rfl ?_
  refine own_lload d0_35 rfl ?_
  refine own_lloadN d0_37 rfl ?_
  refine own_lload d0_38 rfl ?_
  refine own_land d0_40 ?_
  refine own_lor d0_41 ?_
  generalize g_vb : (cm ||| (b &&& m)) = vb at *
  refine own_lstore (L' := #[.val (.long a), .second, .val (.long b), .second, .val (.long c), .second, .val (.long d), .second, .val (.long hh), .second, .val (.int sd), .val (.int bits), .val (.long m), .second, .val (.long cm), .second, .val (.long va), .second, .val (.long vb), .second, .unset, .unset, .unset, .unset, .unset, .unset, .unset, .unset, .unset, .unset, .unset, .unset, .unset, .unset, .unset, .unset, .unset, .unset, .unset, .unset, .unset, .unset, .unset, .unset, .unset, .unset]) d0_42 rfl ?_
  refine own_lload d0_44 rfl ?_
  refine own_lload d0_46 rfl ?_
  refine own_lload d0_48 rfl ?_
  refine own_land d0_50 ?_
  refine own_lor d0_51 ?_
  generalize g_vc : (cm ||| (c &&& m)) = vc at *
  refine own_lstore (L' := #[.val (.long a), .second, .val (.long b), .second, .val (.long c), .second, .val (.long d), .second, .val (.long hh), .second, .val (.int sd), .val (.int bits), .val (.long m), .second, .val (.long cm), .second, .val (.long va), .second, .val (.long vb), .second, .val (.long vc), .second, .unset, .unset, .unset, .unset, .unset, .unset, .unset, .unset, .unset, .unset, .unset, .unset, .unset, .unset, .unset, .unset, .unset, .unset, .unset, .unset, .unset, .unset, .unset, .unset]) d0_52 rfl ?_
  refine own_lload d0_54 rfl ?_
  refine own_lload d0_56 rfl ?_
  refine own_lload d0_58 rfl ?_
  refine own_land d0_60 ?_
  refine own_lor d0_61 ?_
  generalize g_vd : (cm ||| (d &&& m)) = vd at *
  refine own_lstore (L' := #[.val (.long a), .second, .val (.long b), .second, .val (.long c), .second, .val (.long d), .second, .val (.long hh), .second, .val (.int sd), .val (.int bits), .val (.long m), .second, .val (.long cm), .second, .val (.long va), .second, .val (.long vb), .second, .val (.long vc), .second, .val (.long vd), .second, .unset, .unset, .unset, .unset, .unset, .unset, .unset, .unset, .unset, .unset, .unset, .unset, .unset, .unset, .unset, .unset, .unset, .unset, .unset, .unset, .unset, .unset]) d0_62 rfl ?_
  exact own_law4 hw a b c d hh m cm va vb vc vd sd bits Z0 hn h63 ka kb kc kd
set_option maxRecDepth 65536 in
set_option maxHeartbeats 4000000 in
theorem comes_1 {Post : Tables → Env → Array Value → State → Outcome → State → Prop} (hpost : ∀ tb e args s v u, (limb_1_1.after args s (.returned v) u = true ∧ limb_1_2.after args s (.returned v) u = true ∧ True) → FrameEnd s (.returned v) u (Jvm.fieldLocs frame_1_writes args s ++ Jvm.arrayLocs frame_1_arrays args s ++ Jvm.staticLocs frame_1_statics s) 16 8384 → Post tb e args s (.returned v) u) :
    ArmFor flags0 classFile x code maxLocals ret World_1 tables_1 room_1 Calls_1 rest_1 Pre_1 Post := by
  intro l hfl _ _ p e ha hc hk s m args below hf hA hF happ hP
  obtain ⟨hcalls, hrest, hpre⟩ := hP
  obtain ⟨-, -, -, hnamed, -, -, -, hat⟩ := (Spec.applies_iff hf).mp happ
  obtain ⟨hg, hn⟩ := and_e (Cond.before_iff.mp (show (Jvm.Cond.and given_1 narrow_1).before args s = true from hpre))
  obtain ⟨gc, g0⟩ := and_e hg
  obtain ⟨k0, g1⟩ := and_e g0
  obtain ⟨k1, g2⟩ := and_e g1
  obtain ⟨k2, g3⟩ := and_e g2
  obtain ⟨k3, g4⟩ := and_e g3
  obtain ⟨k4, g5⟩ := and_e g4
  obtain ⟨w0, w1, w2, w3, w4, w5, rfl⟩ : ∃ w0 w1 w2 w3 w4 w5 : Value, args = #[w0, w1, w2, w3, w4, w5] := by
    have hs : args.size = 6 := by simpa [Cond.value, given_1] using gc
    obtain ⟨L⟩ := args
    match L, hs with
    | [w0, w1, w2, w3, w4, w5], _ => exact ⟨w0, w1, w2, w3, w4, w5, rfl⟩
  have hw := fun d (hd : d ∈ tables_1) => atoms_spec (ws := Jvm.Cond.code x code maxLocals ret :: tables_1) hat d (List.mem_cons_of_mem _ hd)
  have hfit : Fit s := fun {y c} hc i hi => by
    obtain ⟨ha, rfl⟩ := Array.getElem?_eq_some_iff.mp hc
    have q := List.all_eq_true.mp ((Array.all_eq_true_iff_forall_mem.mp hF) _ (Array.getElem_mem ha)) i (List.mem_range.mpr hi)
    simpa [Array.getElem?_eq_getElem hi] using q
  obtain ⟨i0, ei0⟩ := isL_v k0
  obtain rfl : w0 = (.long i0) := Option.some.inj ei0
  obtain ⟨i1, ei1⟩ := isL_v k1
  obtain rfl : w1 = (.long i1) := Option.some.inj ei1
  obtain ⟨i2, ei2⟩ := isL_v k2
  obtain rfl : w2 = (.long i2) := Option.some.inj ei2
  obtain ⟨i3, ei3⟩ := isL_v k3
  obtain rfl : w3 = (.long i3) := Option.some.inj ei3
  obtain ⟨i4, ei4⟩ := isL_v k4
  obtain rfl : w4 = (.long i4) := Option.some.inj ei4
  obtain ⟨i5, ei5⟩ := is_v g5
  obtain rfl : w5 = (.int i5) := Option.some.inj ei5
  have hV := own_law hw i0 i1 i2 i3 i4 i5 (l := l) (n0 := s.heap.size) (h := s.heap) (Nat.le_refl _)
  have hef : ∀ m, entryFrame m #[(.long i0), (.long i1), (.long i2), (.long i3), (.long i4), (.int i5)] maxLocals = mkF m 0 #[.val (.long i0), .second, .val (.long i1), .second, .val (.long i2), .second, .val (.long i3), .second, .val (.long i4), .second, .val (.int i5), .unset, .unset, .unset, .unset, .unset, .unset, .unset, .unset, .unset, .unset, .unset, .unset, .unset, .unset, .unset, .unset, .unset, .unset, .unset, .unset, .unset, .unset, .unset, .unset, .unset, .unset, .unset, .unset, .unset, .unset, .unset, .unset, .unset, .unset, .unset] [] := (fun m => own_ef0_JJJJJI m i0 i1 i2 i3 i4 i5)
  have hM := own_met (y := x) own_pl0 hef hV tables_1
  obtain ⟨n, o, h1, h2, h3, _, L, rfl, ⟨rfl, N⟩, hq⟩ := hM p e ha hc hk s m _ below hf ((Spec.applies_iff_loose hf).mp happ).1 ⟨rfl, State.Warmed39.refl s, rfl⟩ trivial
  refine ⟨n, _, h1, h2, h3, hpost _ _ _ _ _ _ ⟨Cond.after_iff.mpr rfl, Cond.after_iff.mpr (eq_i res_at (Term.int_eval (1)) rfl), trivial⟩ ⟨hq.1, hq.2.1, (hq.2.2.sift fun y hy => Or.inr (N y hy)).mono (by decide) (by decide)⟩⟩
theorem main_1_1 : Claimed_1_1 := comes_1 fun _ _ _ _ _ _ h hF => ⟨h.1, hF⟩
theorem main_1_2 : Claimed_1_2 := comes_1 fun _ _ _ _ _ _ h hF => ⟨h.2.1, hF⟩
end Jvm.Pilot.@@N@@
namespace Jvm.Pilot.@@N@@
open Jvm Jvm.ClassFile Sem Op Lib Jvm.Free Jvm.Stand Jvm.Pilot.@@N@@.Jvm.D
/-! MADE BY PROGRAM (witnessworld.py) out of the Statement's table words and the real class files: 18 classes; the members and pool entries that the words name. The judged class is class 1, her method 1. -/
namespace start1
open Jvm.ClassFile
def u (s : String) : CpInfo := .utf8 (stringToUtf16 s)
/-- a pool by its gaps: so many unusable entries, then the entry; so many at the end -/
def gap : Nat → List CpInfo → List CpInfo
  | 0, r => r
  | n + 1, r => .unusable :: gap n r
def poolList (es : List (Nat × CpInfo)) (last : Nat) : List CpInfo := es.foldr (fun e r => gap e.1 (e.2 :: r)) (gap last [])
def pool (es : List (Nat × CpInfo)) (last : Nat) : Array CpInfo := ⟨poolList es last⟩
def fileOf (pool : Array CpInfo) (this : Nat) (attrs : Array Attribute := #[]) (ms : Array MethodInfo := #[]) (fl : Nat := 33) (sup : Nat := 0) (ifs : Array Nat := #[]) (fds : Array FieldInfo := #[]) : ClassFile where
  minorVersion := 0
  majorVersion := 65
  constantPool := pool
  accessFlags := fl
  thisClass := this
  superClass := sup
  interfaces := ifs
  fields := fds
  methods := ms
  attributes := attrs
def plain (name : String) (sup : Option ClassId) : Class where
  name := name
  kind := .ordinary
  loader := none
  accessFlags := 33
  super := sup
  interfaces := #[]
  cf := none
  fields := #[]
  methods := #[]
  instanceTypes := #[]
  staticTypes := #[]
  resolved := #[]
  callSites := []
  init := .initialized
  statics := none
  mirror := none

def pool0 : Array CpInfo := pool [(5, u "<init>"), (0, u "()V"), (1, .class_ 10), (1, u "java/lang/Object")] 113

def k0m0 : Method := { name := "<init>", desc := "()V", sig := { parameters := [], returnType := none }, accessFlags := 1, code := none }
/-- java/lang/Object -/
def k0 : Class := { plain "java/lang/Object" none with
  accessFlags := 33
  interfaces := #[]
  cf := some (fileOf pool0 8 #[] #[{ accessFlags := 1, nameIndex := 5, descriptorIndex := 6, attributes := #[] }] 33 0 #[] #[])
  fields := #[]
  methods := #[k0m0]
  instanceTypes := #[]
  staticTypes := #[]
  resolved := Array.replicate 124 none
  statics := none }

def pool1 : Array CpInfo := pool [(2, .class_ 4), (1, u "java/lang/Object"), (0, u "<init>"), (0, u "()V"), (0, .long 18446744073709551615), (3, .long 9223372036854775807), (1, .long 9223372036854775808), (1, .methodref 16 17), (0, .class_ 18), (0, .nameAndType 19 20), (0, u "com/example/rank_keeper/rankkeeper/RadixSortSortPinLaw"), (0, u "put"), (0, u "([JIJJJJ)V"), (0, .class_ 22), (0, u "com/example/rank_keeper/rankkeeper/RadixSort"), (0, .methodref 21 24), (0, .nameAndType 25 26), (0, u "sort"), (0, u "([JIII[I)V"), (0, .methodref 28 29), (0, .class_ 30), (0, .nameAndType 31 32), (0, u "java/lang/Math"), (0, u "min"), (0, u "(JJ)J"), (0, .methodref 28 34), (0, .nameAndType 35 32), (0, u "max"), (0, .methodref 16 37), (0, .nameAndType 38 39), (0, u "run"), (0, u "([JIJ)Z"), (2, u "law"), (0, u "(JJJJJI)Z")] 7

def k1m0 : Method := { name := "<init>", desc := "()V", sig := { parameters := [], returnType := none }, accessFlags := 2, code := none }
def k1c1 : Code := { maxStack := 10, maxLocals := 46, code := code, exceptionTable := #[], attributes := #[] }
def k1m1 : Method := { name := "law", desc := "(JJJJJI)Z", sig := { parameters := [.long, .long, .long, .long, .long, .int], returnType := some .boolean }, accessFlags := 9, code := some k1c1 }
def k1c2 : Code := { maxStack := 4, maxLocals := 10, code := method_3_code, exceptionTable := #[], attributes := #[] }
def k1m2 : Method := { name := "put", desc := "([JIJJJJ)V", sig := { parameters := [(.array .long), .int, .long, .long, .long, .long], returnType := none }, accessFlags := 10, code := some k1c2 }
def k1c3 : Code := { maxStack := 4, maxLocals := 4, code := method_4_code, exceptionTable := #[], attributes := #[] }
def k1m3 : Method := { name := "run", desc := "([JIJ)Z", sig := { parameters := [(.array .long), .int, .long], returnType := some .boolean }, accessFlags := 10, code := some k1c3 }
/-- com/example/rank_keeper/rankkeeper/RadixSortSortPinLaw -/
def k1 : Class := { plain "com/example/rank_keeper/rankkeeper/RadixSortSortPinLaw" (some 0) with
  accessFlags := 49
  interfaces := #[]
  cf := some (fileOf pool1 16 #[] #[{ accessFlags := 2, nameIndex := 5, descriptorIndex := 6, attributes := #[] }, { accessFlags := 9, nameIndex := 42, descriptorIndex := 43, attributes := #[] }, { accessFlags := 10, nameIndex := 19, descriptorIndex := 20, attributes := #[] }, { accessFlags := 10, nameIndex := 38, descriptorIndex := 39, attributes := #[] }] 49 2 #[] #[])
  fields := #[]
  methods := #[k1m0, k1m1, k1m2, k1m3]
  instanceTypes := #[]
  staticTypes := #[]
  resolved := Array.replicate 51 none
  statics := none }

def pool2 : Array CpInfo := pool [(1, .class_ 2), (0, u "com/example/rank_keeper/rankkeeper/RadixSort"), (1, .class_ 6), (1, u "java/lang/Object"), (0, u "<init>"), (0, u "()V"), (0, .methodref 1 10), (0, .nameAndType 11 12), (0, u "insertionSort"), (0, u "([JII)V"), (0, .methodref 14 15), (0, .class_ 16), (0, .nameAndType 17 18), (0, u "java/lang/Math"), (0, u "min"), (0, u "(II)I"), (0, .class_ 20), (0, u "java/lang/Integer"), (0, .methodref 19 22), (0, .nameAndType 23 24), (0, u "numberOfLeadingZeros"), (0, u "(I)I"), (0, .methodref 26 27), (0, .class_ 28), (0, .nameAndType 29 30), (0, u "java/util/Arrays"), (0, u "fill"), (0, u "([IIII)V"), (0, .methodref 1 32), (0, .nameAndType 33 34), (0, u "digit"), (0, u "(JII)I"), (0, .methodref 1 36), (0, .nameAndType 37 38), (0, u "place"), (0, u "([J[III)V"), (0, .methodref 1 40), (0, .nameAndType 41 42), (0, u "sortBuckets"), (0, u "([JIII[I)V"), (0, .methodref 1 44), (0, .nameAndType 45 42), (0, u "sort"), (0, u "DIGIT_BITS"), (0, u "I"), (2, u "SMALL"), (1, u "COUNTS")] 10

def k2m0 : Method := { name := "<init>", desc := "()V", sig := { parameters := [], returnType := none }, accessFlags := 2, code := none }
def k2c1 : Code := { maxStack := 5, maxLocals := 11, code := prog_11_method_2_code, exceptionTable := #[], attributes := #[] }
def k2m1 : Method := { name := "sort", desc := "([JIII[I)V", sig := { parameters := [(.array .long), .int, .int, .int, (.array .int)], returnType := none }, accessFlags := 8, code := some k2c1 }
def k2c2 : Code := { maxStack := 5, maxLocals := 12, code := prog_11_method_3_code, exceptionTable := #[], attributes := #[] }
def k2m2 : Method := { name := "place", desc := "([J[III)V", sig := { parameters := [(.array .long), (.array .int), .int, .int], returnType := none }, accessFlags := 10, code := some k2c2 }
def k2c3 : Code := { maxStack := 5, maxLocals := 9, code := prog_11_method_4_code, exceptionTable := #[], attributes := #[] }
def k2m3 : Method := { name := "sortBuckets", desc := "([JIII[I)V", sig := { parameters := [(.array .long), .int, .int, .int, (.array .int)], returnType := none }, accessFlags := 10, code := some k2c3 }
def k2c4 : Code := { maxStack := 3, maxLocals := 4, code := prog_11_method_5_code, exceptionTable := #[], attributes := #[] }
def k2m4 : Method := { name := "digit", desc := "(JII)I", sig := { parameters := [.long, .int, .int], returnType := some .int }, accessFlags := 10, code := some k2c4 }
def k2c5 : Code := { maxStack := 5, maxLocals := 7, code := prog_11_method_6_code, exceptionTable := #[], attributes := #[] }
def k2m5 : Method := { name := "insertionSort", desc := "([JII)V", sig := { parameters := [(.array .long), .int, .int], returnType := none }, accessFlags := 10, code := some k2c5 }
/-- com/example/rank_keeper/rankkeeper/RadixSort -/
def k2 : Class := { plain "com/example/rank_keeper/rankkeeper/RadixSort" (some 0) with
  accessFlags := 32
  interfaces := #[]
  cf := some (fileOf pool2 1 #[] #[{ accessFlags := 2, nameIndex := 7, descriptorIndex := 8, attributes := #[] }, { accessFlags := 8, nameIndex := 45, descriptorIndex := 42, attributes := #[] }, { accessFlags := 10, nameIndex := 37, descriptorIndex := 38, attributes := #[] }, { accessFlags := 10, nameIndex := 41, descriptorIndex := 42, attributes := #[] }, { accessFlags := 10, nameIndex := 33, descriptorIndex := 34, attributes := #[] }, { accessFlags := 10, nameIndex := 11, descriptorIndex := 12, attributes := #[] }] 32 4 #[] #[{ accessFlags := 26, nameIndex := 46, descriptorIndex := 47, attributes := #[] }, { accessFlags := 26, nameIndex := 50, descriptorIndex := 47, attributes := #[] }, { accessFlags := 24, nameIndex := 52, descriptorIndex := 47, attributes := #[] }])
  fields := #[{ name := "DIGIT_BITS", type := .int, accessFlags := 26, slot := 0, constantValue := 0 }, { name := "SMALL", type := .int, accessFlags := 26, slot := 1, constantValue := 0 }, { name := "COUNTS", type := .int, accessFlags := 24, slot := 2, constantValue := 0 }]
  methods := #[k2m0, k2m1, k2m2, k2m3, k2m4, k2m5]
  instanceTypes := #[]
  staticTypes := #[.int, .int, .int]
  resolved := Array.replicate 63 none
  statics := none }

def pool3 : Array CpInfo := pool [(1, .class_ 2), (0, u "java/lang/Math"), (1, .class_ 6), (1, u "java/lang/Object"), (0, u "<init>"), (0, u "()V"), (89, .class_ 100), (1, u "java/lang/Math$RandomNumberGeneratorHolder"), (20, u "(JJ)J"), (50, u "negativeZeroFloatBits"), (0, u "J"), (2, u "negativeZeroDoubleBits"), (21, u "max"), (2, u "min"), (43, u "$assertionsDisabled"), (0, u "Z"), (88, u "(II)I"), (2, u "twoToTheDoubleScaleDown"), (0, u "D"), (4, u "twoToTheDoubleScaleUp"), (9, u "E"), (3, u "PI"), (2, u "TAU"), (2, u "DEGREES_TO_RADIANS"), (0, u "RADIANS_TO_DEGREES")] 94

def k3m0 : Method := { name := "<init>", desc := "()V", sig := { parameters := [], returnType := none }, accessFlags := 2, code := none }
def k3c1 : Code := { maxStack := 4, maxLocals := 4, code := jdk_29_method_66_code, exceptionTable := #[], attributes := #[] }
def k3m1 : Method := { name := "max", desc := "(JJ)J", sig := { parameters := [.long, .long], returnType := some .long }, accessFlags := 9, code := some k3c1 }
def k3c2 : Code := { maxStack := 2, maxLocals := 2, code := jdk_29_method_69_code, exceptionTable := #[], attributes := #[] }
def k3m2 : Method := { name := "min", desc := "(II)I", sig := { parameters := [.int, .int], returnType := some .int }, accessFlags := 9, code := some k3c2 }
def k3c3 : Code := { maxStack := 4, maxLocals := 4, code := jdk_29_method_70_code, exceptionTable := #[], attributes := #[] }
def k3m3 : Method := { name := "min", desc := "(JJ)J", sig := { parameters := [.long, .long], returnType := some .long }, accessFlags := 9, code := some k3c3 }
/-- java/lang/Math -/
def k3 : Class := { plain "java/lang/Math" (some 0) with
  accessFlags := 49
  interfaces := #[]
  cf := some (fileOf pool3 1 #[.nestMembers #[98]] #[{ accessFlags := 2, nameIndex := 7, descriptorIndex := 8, attributes := #[] }, { accessFlags := 9, nameIndex := 198, descriptorIndex := 121, attributes := #[] }, { accessFlags := 9, nameIndex := 201, descriptorIndex := 335, attributes := #[] }, { accessFlags := 9, nameIndex := 201, descriptorIndex := 121, attributes := #[] }] 49 4 #[] #[{ accessFlags := 25, nameIndex := 354, descriptorIndex := 339, attributes := #[] }, { accessFlags := 25, nameIndex := 358, descriptorIndex := 339, attributes := #[] }, { accessFlags := 25, nameIndex := 361, descriptorIndex := 339, attributes := #[] }, { accessFlags := 26, nameIndex := 364, descriptorIndex := 339, attributes := #[] }, { accessFlags := 26, nameIndex := 365, descriptorIndex := 339, attributes := #[] }, { accessFlags := 26, nameIndex := 172, descriptorIndex := 173, attributes := #[] }, { accessFlags := 26, nameIndex := 176, descriptorIndex := 173, attributes := #[] }, { accessFlags := 8, nameIndex := 344, descriptorIndex := 339, attributes := #[] }, { accessFlags := 8, nameIndex := 338, descriptorIndex := 339, attributes := #[] }, { accessFlags := 4120, nameIndex := 245, descriptorIndex := 246, attributes := #[] }])
  fields := #[{ name := "E", type := .double, accessFlags := 25, slot := 0, constantValue := 0 }, { name := "PI", type := .double, accessFlags := 25, slot := 1, constantValue := 0 }, { name := "TAU", type := .double, accessFlags := 25, slot := 2, constantValue := 0 }, { name := "DEGREES_TO_RADIANS", type := .double, accessFlags := 26, slot := 3, constantValue := 0 }, { name := "RADIANS_TO_DEGREES", type := .double, accessFlags := 26, slot := 4, constantValue := 0 }, { name := "negativeZeroFloatBits", type := .long, accessFlags := 26, slot := 5, constantValue := 0 }, { name := "negativeZeroDoubleBits", type := .long, accessFlags := 26, slot := 6, constantValue := 0 }, { name := "twoToTheDoubleScaleUp", type := .double, accessFlags := 8, slot := 7, constantValue := 0 }, { name := "twoToTheDoubleScaleDown", type := .double, accessFlags := 8, slot := 8, constantValue := 0 }, { name := "$assertionsDisabled", type := .boolean, accessFlags := 4120, slot := 9, constantValue := 0 }]
  methods := #[k3m0, k3m1, k3m2, k3m3]
  instanceTypes := #[]
  staticTypes := #[.double, .double, .double, .double, .double, .long, .long, .double, .double, .boolean]
  resolved := Array.replicate 460 none
  statics := none }

def pool4 : Array CpInfo := pool [(1, .class_ 2), (0, u "java/io/Serializable"), (0, .class_ 4), (0, u "java/lang/Object")] 2

/-- java/io/Serializable -/
def k4 : Class := { plain "java/io/Serializable" (some 0) with
  accessFlags := 1537
  interfaces := #[]
  cf := some (fileOf pool4 1 #[] #[] 1537 3 #[] #[])
  fields := #[]
  methods := #[]
  instanceTypes := #[]
  staticTypes := #[]
  resolved := Array.replicate 7 none
  statics := none }

def pool5 : Array CpInfo := pool [(2, .class_ 4), (1, u "java/lang/Object"), (0, u "<init>"), (0, u "()V"), (1, .class_ 10), (1, u "java/lang/Number"), (2, .class_ 14), (0, u "java/io/Serializable"), (0, u "serialVersionUID"), (0, u "J")] 20

def k5m0 : Method := { name := "<init>", desc := "()V", sig := { parameters := [], returnType := none }, accessFlags := 1, code := none }
/-- java/lang/Number -/
def k5 : Class := { plain "java/lang/Number" (some 0) with
  accessFlags := 1057
  interfaces := #[4]
  cf := some (fileOf pool5 8 #[] #[{ accessFlags := 1, nameIndex := 5, descriptorIndex := 6, attributes := #[] }] 1057 2 #[13] #[{ accessFlags := 26, nameIndex := 15, descriptorIndex := 16, attributes := #[] }])
  fields := #[{ name := "serialVersionUID", type := .long, accessFlags := 26, slot := 0, constantValue := 0 }]
  methods := #[k5m0]
  instanceTypes := #[]
  staticTypes := #[.long]
  resolved := Array.replicate 37 none
  statics := none }

def pool6 : Array CpInfo := pool [(1, .class_ 2), (0, u "java/lang/Comparable"), (0, .class_ 4), (0, u "java/lang/Object")] 7

/-- java/lang/Comparable -/
def k6 : Class := { plain "java/lang/Comparable" (some 0) with
  accessFlags := 1537
  interfaces := #[]
  cf := some (fileOf pool6 1 #[] #[] 1537 3 #[] #[])
  fields := #[]
  methods := #[]
  instanceTypes := #[]
  staticTypes := #[]
  resolved := Array.replicate 12 none
  statics := none }

def pool7 : Array CpInfo := pool [(1, .class_ 2), (0, u "java/lang/constant/Constable"), (0, .class_ 4), (0, u "java/lang/Object")] 6

/-- java/lang/constant/Constable -/
def k7 : Class := { plain "java/lang/constant/Constable" (some 0) with
  accessFlags := 1537
  interfaces := #[]
  cf := some (fileOf pool7 1 #[] #[] 1537 3 #[] #[])
  fields := #[]
  methods := #[]
  instanceTypes := #[]
  staticTypes := #[]
  resolved := Array.replicate 11 none
  statics := none }

def pool8 : Array CpInfo := pool [(1, .class_ 2), (0, u "java/lang/constant/ConstantDesc"), (0, .class_ 4), (0, u "java/lang/Object")] 32

/-- java/lang/constant/ConstantDesc -/
def k8 : Class := { plain "java/lang/constant/ConstantDesc" (some 0) with
  accessFlags := 1537
  interfaces := #[]
  cf := some (fileOf pool8 1 #[] #[] 1537 3 #[] #[])
  fields := #[]
  methods := #[]
  instanceTypes := #[]
  staticTypes := #[]
  resolved := Array.replicate 37 none
  statics := none }

def pool9 : Array CpInfo := pool [(1, .class_ 2), (0, u "java/lang/Integer"), (16, u "digits"), (0, u "[C"), (32, u "numberOfLeadingZeros"), (0, u "(I)I"), (30, u "DigitOnes"), (0, u "[B"), (2, u "DigitTens"), (99, .class_ 190), (0, u "java/lang/Integer$IntegerCache"), (3, u "I"), (8, .class_ 204), (0, u "java/lang/Number"), (2, u "value"), (56, .integer 65536), (37, u "TYPE"), (0, u "Ljava/lang/Class;"), (0, .class_ 305), (0, u "java/lang/Comparable"), (0, .class_ 307), (0, u "java/lang/constant/Constable"), (0, .class_ 309), (0, u "java/lang/constant/ConstantDesc"), (0, u "MIN_VALUE"), (1, u "MAX_VALUE"), (3, u "SIZE"), (1, u "BYTES"), (1, u "serialVersionUID"), (0, u "J")] 131

def k9c0 : Code := { maxStack := 3, maxLocals := 2, code := jdk_33_method_47_code, exceptionTable := #[], attributes := #[] }
def k9m0 : Method := { name := "numberOfLeadingZeros", desc := "(I)I", sig := { parameters := [.int], returnType := some .int }, accessFlags := 9, code := some k9c0 }
/-- java/lang/Integer -/
def k9 : Class := { plain "java/lang/Integer" (some 5) with
  accessFlags := 49
  interfaces := #[6, 7, 8]
  cf := some (fileOf pool9 1 #[.nestMembers #[189]] #[{ accessFlags := 9, nameIndex := 53, descriptorIndex := 54, attributes := #[] }] 49 203 #[304, 306, 308] #[{ accessFlags := 25, nameIndex := 310, descriptorIndex := 194, attributes := #[] }, { accessFlags := 25, nameIndex := 312, descriptorIndex := 194, attributes := #[] }, { accessFlags := 25, nameIndex := 302, descriptorIndex := 303, attributes := #[] }, { accessFlags := 24, nameIndex := 19, descriptorIndex := 20, attributes := #[] }, { accessFlags := 24, nameIndex := 89, descriptorIndex := 86, attributes := #[] }, { accessFlags := 24, nameIndex := 85, descriptorIndex := 86, attributes := #[] }, { accessFlags := 18, nameIndex := 207, descriptorIndex := 194, attributes := #[] }, { accessFlags := 25, nameIndex := 316, descriptorIndex := 194, attributes := #[] }, { accessFlags := 25, nameIndex := 318, descriptorIndex := 194, attributes := #[] }, { accessFlags := 26, nameIndex := 320, descriptorIndex := 321, attributes := #[] }])
  fields := #[{ name := "MIN_VALUE", type := .int, accessFlags := 25, slot := 0, constantValue := 0 }, { name := "MAX_VALUE", type := .int, accessFlags := 25, slot := 1, constantValue := 0 }, { name := "TYPE", type := (.object "java/lang/Class"), accessFlags := 25, slot := 2, constantValue := 0 }, { name := "digits", type := (.array .char), accessFlags := 24, slot := 3, constantValue := 0 }, { name := "DigitTens", type := (.array .byte), accessFlags := 24, slot := 4, constantValue := 0 }, { name := "DigitOnes", type := (.array .byte), accessFlags := 24, slot := 5, constantValue := 0 }, { name := "value", type := .int, accessFlags := 18, slot := 0, constantValue := 0 }, { name := "SIZE", type := .int, accessFlags := 25, slot := 6, constantValue := 0 }, { name := "BYTES", type := .int, accessFlags := 25, slot := 7, constantValue := 0 }, { name := "serialVersionUID", type := .long, accessFlags := 26, slot := 8, constantValue := 0 }]
  methods := #[k9m0]
  instanceTypes := #[.int]
  staticTypes := #[.int, .int, (.object "java/lang/Class"), (.array .char), (.array .byte), (.array .byte), .int, .int, .long]
  resolved := Array.replicate 453 none
  statics := none }

def pool10 : Array CpInfo := pool [(2, .class_ 4), (1, u "java/lang/Object"), (0, u "<init>"), (0, u "()V"), (5, u "([IIII)V"), (0, .methodref 14 15), (0, .class_ 16), (0, .nameAndType 17 18), (0, u "java/util/Arrays"), (0, u "rangeCheck"), (0, u "(III)V"), (55, .class_ 76), (1, u "java/util/Arrays$NaturalOrder"), (36, .class_ 115), (1, u "java/util/Arrays$LegacyMergeSort"), (1, u "Z"), (257, .class_ 376), (0, u "java/util/Arrays$ArrayList"), (68, u "$assertionsDisabled"), (269, u "MIN_ARRAY_SORT_GRAN"), (0, u "I"), (2, u "INSERTIONSORT_THRESHOLD"), (120, u "fill"), (134, .class_ 976), (0, u "java/util/Arrays$ArrayItr")] 52

def k10m0 : Method := { name := "<init>", desc := "()V", sig := { parameters := [], returnType := none }, accessFlags := 2, code := none }
def k10c1 : Code := { maxStack := 4, maxLocals := 3, code := jdk_65_method_30_code, exceptionTable := #[], attributes := #[] }
def k10m1 : Method := { name := "rangeCheck", desc := "(III)V", sig := { parameters := [.int, .int, .int], returnType := none }, accessFlags := 8, code := some k10c1 }
def k10c2 : Code := { maxStack := 3, maxLocals := 5, code := jdk_65_method_104_code, exceptionTable := #[], attributes := #[] }
def k10m2 : Method := { name := "fill", desc := "([IIII)V", sig := { parameters := [(.array .int), .int, .int, .int], returnType := none }, accessFlags := 9, code := some k10c2 }
/-- java/util/Arrays -/
def k10 : Class := { plain "java/util/Arrays" (some 0) with
  accessFlags := 49
  interfaces := #[]
  cf := some (fileOf pool10 14 #[.nestMembers #[975, 375, 113, 74]] #[{ accessFlags := 2, nameIndex := 5, descriptorIndex := 6, attributes := #[] }, { accessFlags := 8, nameIndex := 17, descriptorIndex := 18, attributes := #[] }, { accessFlags := 9, nameIndex := 840, descriptorIndex := 12, attributes := #[] }] 49 2 #[] #[{ accessFlags := 26, nameIndex := 715, descriptorIndex := 716, attributes := #[] }, { accessFlags := 26, nameIndex := 719, descriptorIndex := 716, attributes := #[] }, { accessFlags := 4120, nameIndex := 445, descriptorIndex := 117, attributes := #[] }])
  fields := #[{ name := "MIN_ARRAY_SORT_GRAN", type := .int, accessFlags := 26, slot := 0, constantValue := 0 }, { name := "INSERTIONSORT_THRESHOLD", type := .int, accessFlags := 26, slot := 1, constantValue := 0 }, { name := "$assertionsDisabled", type := .boolean, accessFlags := 4120, slot := 2, constantValue := 0 }]
  methods := #[k10m0, k10m1, k10m2]
  instanceTypes := #[]
  staticTypes := #[.int, .int, .boolean]
  resolved := Array.replicate 1029 none
  statics := none }

def pool11 : Array CpInfo := pool [(1, u "java/lang/Cloneable"), (0, .class_ 1), (0, u "java/lang/Object"), (0, .class_ 3)] 3

/-- java/lang/Cloneable -/
def k11 : Class := { plain "java/lang/Cloneable" (some 0) with
  accessFlags := 1537
  interfaces := #[]
  cf := some (fileOf pool11 2 #[] #[] 1537 4 #[] #[])
  fields := #[]
  methods := #[]
  instanceTypes := #[]
  staticTypes := #[]
  resolved := Array.replicate 8 none
  statics := none }

/-- the primitive byte -/
def k12 : Class := { plain "byte" none with kind := .primitive 'B', accessFlags := 0x411 }
/-- [B -/
def k13 : Class := { plain "[B" (some 0) with kind := .array 12 .byte, interfaces := #[11, 4], accessFlags := 1041 }

/-- the primitive int -/
def k14 : Class := { plain "int" none with kind := .primitive 'I', accessFlags := 0x411 }
/-- [I -/
def k15 : Class := { plain "[I" (some 0) with kind := .array 14 .int, interfaces := #[11, 4], accessFlags := 1041 }

/-- the primitive long -/
def k16 : Class := { plain "long" none with kind := .primitive 'J', accessFlags := 0x411 }
/-- [J -/
def k17 : Class := { plain "[J" (some 0) with kind := .array 16 .long, interfaces := #[11, 4], accessFlags := 1041 }

def heap : Heap := #[]
def classes : Array Class := #[k0, k1, k2, k3, k4, k5, k6, k7, k8, k9, k10, k11, k12, k13, k14, k15, k16, k17]
def interned : List (Array UInt16 × Addr) := []
def slotsUsed : Nat := 0
def theMethod : MethodId := ⟨1, 1⟩
def args0 : Array Value := #[.long 5, .long 6, .long 7, .long 8, .long 9, .int 3]
def aboutOver (below : List Frame) : State where
  vm := { classes := classes, interned := interned.toArray }
  heap := heap
  slotsUsed := slotsUsed
  threads := #[{ frames := .invoking theMethod args0 :: below }]
def below0 : List Frame := [.native { method := ⟨0, 0⟩, args := #[] }]
def about1 : State := aboutOver below0
def p0 : Program := .bare "" "" ""
def e0 : Env := launch0.env 0 0 0
theorem w_frames : about1.frames = Frame.invoking theMethod args0 :: below0 := rfl
set_option maxRecDepth 65536 in
theorem w_args : argsFit about1.vm theMethod args0 = true := by decide +kernel
set_option maxRecDepth 65536 in
theorem w_heap : heapFits about1 = true := by decide +kernel
set_option maxRecDepth 65536 in
theorem w_runnable : about1.curStatus? = some .runnable := by decide +kernel
set_option maxRecDepth 65536 in
theorem w_alone : about1.alone = true := by decide +kernel
set_option maxRecDepth 65536 in
theorem w_named : about1.methodNamed? x = some theMethod := by decide +kernel
set_option maxRecDepth 65536 in
theorem w_hears : about1.hears theMethod below0 = true := by decide +kernel
set_option maxRecDepth 65536 in
theorem w_ripe : about1.ripe theMethod args0 below0 = true := by decide +kernel
theorem w_running : about1.status = .running := rfl
set_option maxRecDepth 65536 in
theorem w_room : about1.hasRoom e0.platform room_1 = true :=
  launch0.hasRoom_least _ room_1 (by decide +kernel) (by decide +kernel) (by decide +kernel) (by decide +kernel) (by decide +kernel) (by decide +kernel)
theorem allAtoms_all (ts : List Jvm.Cond) (a : Array Jvm.Value) (st : Jvm.State) : (allAtoms ts).before a st = ts.all (fun c => c.before a st) := by
  induction ts with
  | nil => rfl
  | cons c t ih =>
    show (Jvm.Cond.and c (allAtoms t)).before a st = _
    rw [Jvm.Cond.before_and, ih, List.all_cons]
def words1 : List Jvm.Cond := Jvm.Cond.code x code maxLocals ret :: tables_1
/-- a 'code' word, met by the world's own term for the bytes: nothing is compared byte by byte -/
theorem code_word {y : MethodName} {bytes : ByteArray} {mx : Nat} {rt : Option FieldType} {a : Array Value} {s : State} {m : MethodId} {meth : Method} {c : Code} (h1 : s.methodNamed? y = some m) (h2 : s.vm.method? m = some meth) (h3 : meth.code = some c) (h4 : c.code = bytes)
    (h5 : (c.maxLocals == mx && c.exceptionTable.isEmpty && decide (c.maxStack ≤ mostOperands) && decide (meth.sig.returnType = rt) && !meth.locks && decide (parseMethodDescriptor y.desc = some meth.sig)) = true) : (Jvm.Cond.code y bytes mx rt).before a s = true := by
  simp only [Bool.and_eq_true, beq_iff_eq, Bool.not_eq_true', decide_eq_true_eq] at h5
  obtain ⟨⟨⟨⟨⟨g1, g2⟩, g3⟩, g4⟩, g5⟩, g6⟩ := h5
  simp [Cond.before, Cond.holds, Cond.value, h1, h2, h3, h4, g1, g2, g3, g4, g5, g6]
def isCode : Jvm.Cond → Bool
  | .code _ _ _ _ => true
  | _ => false
theorem all_split {L : List Jvm.Cond} {P : Jvm.Cond → Bool} (h1 : L.all (fun c => isCode c || P c) = true) (h2 : ∀ c ∈ L.filter isCode, P c = true) : L.all P = true := by
  refine List.all_eq_true.mpr fun c hc => ?_
  have h := List.all_eq_true.mp h1 c hc
  rcases Bool.eq_false_or_eq_true (isCode c) with hi | hi
  · exact h2 c (List.mem_filter.mpr ⟨hc, hi⟩)
  · simpa [hi] using h
set_option maxRecDepth 65536 in
theorem w_c0 : (Jvm.Cond.code x code maxLocals ret).before args0 about1 = true := code_word (m := ⟨1, 1⟩) (meth := k1m1) (c := k1c1) (by decide +kernel) rfl rfl rfl (by decide +kernel)
set_option maxRecDepth 65536 in
theorem w_c1 : (Jvm.Cond.code ({ cls := "com/example/rank_keeper/rankkeeper/RadixSortSortPinLaw", name := "put", desc := "([JIJJJJ)V" } : Jvm.MethodName) method_3_code (10 : Nat) (Option.none : Option Jvm.ClassFile.FieldType)).before args0 about1 = true := code_word (m := ⟨1, 2⟩) (meth := k1m2) (c := k1c2) (by decide +kernel) rfl rfl rfl (by decide +kernel)
set_option maxRecDepth 65536 in
theorem w_c2 : (Jvm.Cond.code ({ cls := "com/example/rank_keeper/rankkeeper/RadixSort", name := "sort", desc := "([JIII[I)V" } : Jvm.MethodName) prog_11_method_2_code (11 : Nat) (Option.none : Option Jvm.ClassFile.FieldType)).before args0 about1 = true := code_word (m := ⟨2, 1⟩) (meth := k2m1) (c := k2c1) (by decide +kernel) rfl rfl rfl (by decide +kernel)
set_option maxRecDepth 65536 in
theorem w_c3 : (Jvm.Cond.code ({ cls := "java/lang/Math", name := "min", desc := "(II)I" } : Jvm.MethodName) jdk_29_method_69_code (2 : Nat) (Option.some Jvm.ClassFile.FieldType.int)).before args0 about1 = true := code_word (m := ⟨3, 2⟩) (meth := k3m2) (c := k3c2) (by decide +kernel) rfl rfl rfl (by decide +kernel)
set_option maxRecDepth 65536 in
theorem w_c4 : (Jvm.Cond.code ({ cls := "java/lang/Integer", name := "numberOfLeadingZeros", desc := "(I)I" } : Jvm.MethodName) jdk_33_method_47_code (2 : Nat) (Option.some Jvm.ClassFile.FieldType.int)).before args0 about1 = true := code_word (m := ⟨9, 0⟩) (meth := k9m0) (c := k9c0) (by decide +kernel) rfl rfl rfl (by decide +kernel)
set_option maxRecDepth 65536 in
theorem w_c5 : (Jvm.Cond.code ({ cls := "java/util/Arrays", name := "fill", desc := "([IIII)V" } : Jvm.MethodName) jdk_65_method_104_code (5 : Nat) (Option.none : Option Jvm.ClassFile.FieldType)).before args0 about1 = true := code_word (m := ⟨10, 2⟩) (meth := k10m2) (c := k10c2) (by decide +kernel) rfl rfl rfl (by decide +kernel)
set_option maxRecDepth 65536 in
theorem w_c6 : (Jvm.Cond.code ({ cls := "java/util/Arrays", name := "rangeCheck", desc := "(III)V" } : Jvm.MethodName) jdk_65_method_30_code (3 : Nat) (Option.none : Option Jvm.ClassFile.FieldType)).before args0 about1 = true := code_word (m := ⟨10, 1⟩) (meth := k10m1) (c := k10c1) (by decide +kernel) rfl rfl rfl (by decide +kernel)
set_option maxRecDepth 65536 in
theorem w_c7 : (Jvm.Cond.code ({ cls := "com/example/rank_keeper/rankkeeper/RadixSort", name := "digit", desc := "(JII)I" } : Jvm.MethodName) prog_11_method_5_code (4 : Nat) (Option.some Jvm.ClassFile.FieldType.int)).before args0 about1 = true := code_word (m := ⟨2, 4⟩) (meth := k2m4) (c := k2c4) (by decide +kernel) rfl rfl rfl (by decide +kernel)
set_option maxRecDepth 65536 in
theorem w_c8 : (Jvm.Cond.code ({ cls := "com/example/rank_keeper/rankkeeper/RadixSort", name := "place", desc := "([J[III)V" } : Jvm.MethodName) prog_11_method_3_code (12 : Nat) (Option.none : Option Jvm.ClassFile.FieldType)).before args0 about1 = true := code_word (m := ⟨2, 2⟩) (meth := k2m2) (c := k2c2) (by decide +kernel) rfl rfl rfl (by decide +kernel)
set_option maxRecDepth 65536 in
theorem w_c9 : (Jvm.Cond.code ({ cls := "java/lang/Math", name := "min", desc := "(JJ)J" } : Jvm.MethodName) jdk_29_method_70_code (4 : Nat) (Option.some Jvm.ClassFile.FieldType.long)).before args0 about1 = true := code_word (m := ⟨3, 3⟩) (meth := k3m3) (c := k3c3) (by decide +kernel) rfl rfl rfl (by decide +kernel)
set_option maxRecDepth 65536 in
theorem w_c10 : (Jvm.Cond.code ({ cls := "java/lang/Math", name := "max", desc := "(JJ)J" } : Jvm.MethodName) jdk_29_method_66_code (4 : Nat) (Option.some Jvm.ClassFile.FieldType.long)).before args0 about1 = true := code_word (m := ⟨3, 1⟩) (meth := k3m1) (c := k3c1) (by decide +kernel) rfl rfl rfl (by decide +kernel)
set_option maxRecDepth 65536 in
theorem w_c11 : (Jvm.Cond.code ({ cls := "com/example/rank_keeper/rankkeeper/RadixSortSortPinLaw", name := "run", desc := "([JIJ)Z" } : Jvm.MethodName) method_4_code (4 : Nat) (Option.some Jvm.ClassFile.FieldType.boolean)).before args0 about1 = true := code_word (m := ⟨1, 3⟩) (meth := k1m3) (c := k1c3) (by decide +kernel) rfl rfl rfl (by decide +kernel)
set_option maxRecDepth 65536 in
theorem w_c12 : (Jvm.Cond.code ({ cls := "com/example/rank_keeper/rankkeeper/RadixSort", name := "sortBuckets", desc := "([JIII[I)V" } : Jvm.MethodName) prog_11_method_4_code (9 : Nat) (Option.none : Option Jvm.ClassFile.FieldType)).before args0 about1 = true := code_word (m := ⟨2, 3⟩) (meth := k2m3) (c := k2c3) (by decide +kernel) rfl rfl rfl (by decide +kernel)
set_option maxRecDepth 65536 in
theorem w_c13 : (Jvm.Cond.code ({ cls := "com/example/rank_keeper/rankkeeper/RadixSort", name := "insertionSort", desc := "([JII)V" } : Jvm.MethodName) prog_11_method_6_code (7 : Nat) (Option.none : Option Jvm.ClassFile.FieldType)).before args0 about1 = true := code_word (m := ⟨2, 5⟩) (meth := k2m5) (c := k2c5) (by decide +kernel) rfl rfl rfl (by decide +kernel)
def codes1 : List Jvm.Cond := [Jvm.Cond.code x code maxLocals ret, Jvm.Cond.code ({ cls := "com/example/rank_keeper/rankkeeper/RadixSortSortPinLaw", name := "put", desc := "([JIJJJJ)V" } : Jvm.MethodName) method_3_code (10 : Nat) (Option.none : Option Jvm.ClassFile.FieldType), Jvm.Cond.code ({ cls := "com/example/rank_keeper/rankkeeper/RadixSort", name := "sort", desc := "([JIII[I)V" } : Jvm.MethodName) prog_11_method_2_code (11 : Nat) (Option.none : Option Jvm.ClassFile.FieldType), Jvm.Cond.code ({ cls := "java/lang/Math", name := "min", desc := "(II)I" } : Jvm.MethodName) jdk_29_method_69_code (2 : Nat) (Option.some Jvm.ClassFile.FieldType.int), Jvm.Cond.code ({ cls := "java/lang/Integer", name := "numberOfLeadingZeros", desc := "(I)I" } : Jvm.MethodName) jdk_33_method_47_code (2 : Nat) (Option.some Jvm.ClassFile.FieldType.int), Jvm.Cond.code ({ cls := "java/util/Arrays", name := "fill", desc := "([IIII)V" } : Jvm.MethodName) jdk_65_method_104_code (5 : Nat) (Option.none : Option Jvm.ClassFile.FieldType), Jvm.Cond.code ({ cls := "java/util/Arrays", name := "rangeCheck", desc := "(III)V" } : Jvm.MethodName) jdk_65_method_30_code (3 : Nat) (Option.none : Option Jvm.ClassFile.FieldType), Jvm.Cond.code ({ cls := "com/example/rank_keeper/rankkeeper/RadixSort", name := "digit", desc := "(JII)I" } : Jvm.MethodName) prog_11_method_5_code (4 : Nat) (Option.some Jvm.ClassFile.FieldType.int), Jvm.Cond.code ({ cls := "com/example/rank_keeper/rankkeeper/RadixSort", name := "place", desc := "([J[III)V" } : Jvm.MethodName) prog_11_method_3_code (12 : Nat) (Option.none : Option Jvm.ClassFile.FieldType), Jvm.Cond.code ({ cls := "java/lang/Math", name := "min", desc := "(JJ)J" } : Jvm.MethodName) jdk_29_method_70_code (4 : Nat) (Option.some Jvm.ClassFile.FieldType.long), Jvm.Cond.code ({ cls := "java/lang/Math", name := "max", desc := "(JJ)J" } : Jvm.MethodName) jdk_29_method_66_code (4 : Nat) (Option.some Jvm.ClassFile.FieldType.long), Jvm.Cond.code ({ cls := "com/example/rank_keeper/rankkeeper/RadixSortSortPinLaw", name := "run", desc := "([JIJ)Z" } : Jvm.MethodName) method_4_code (4 : Nat) (Option.some Jvm.ClassFile.FieldType.boolean), Jvm.Cond.code ({ cls := "com/example/rank_keeper/rankkeeper/RadixSort", name := "sortBuckets", desc := "([JIII[I)V" } : Jvm.MethodName) prog_11_method_4_code (9 : Nat) (Option.none : Option Jvm.ClassFile.FieldType), Jvm.Cond.code ({ cls := "com/example/rank_keeper/rankkeeper/RadixSort", name := "insertionSort", desc := "([JII)V" } : Jvm.MethodName) prog_11_method_6_code (7 : Nat) (Option.none : Option Jvm.ClassFile.FieldType)]
set_option maxRecDepth 65536 in
theorem codes_eq : words1.filter isCode = codes1 := rfl
theorem w_codes : ∀ c ∈ words1.filter isCode, c.before args0 about1 = true := by
  rw [codes_eq]
  intro c hc
  simp only [codes1, List.mem_cons, List.not_mem_nil, or_false] at hc
  rcases hc with rfl | rfl | rfl | rfl | rfl | rfl | rfl | rfl | rfl | rfl | rfl | rfl | rfl | rfl
  · exact w_c0
  · exact w_c1
  · exact w_c2
  · exact w_c3
  · exact w_c4
  · exact w_c5
  · exact w_c6
  · exact w_c7
  · exact w_c8
  · exact w_c9
  · exact w_c10
  · exact w_c11
  · exact w_c12
  · exact w_c13
set_option maxRecDepth 65536 in
theorem w_t1 : (words1.take 24).all (fun c => isCode c || c.before args0 about1) = true := by decide +kernel
set_option maxRecDepth 65536 in
theorem w_t2 : ((words1.drop 24).take 24).all (fun c => isCode c || c.before args0 about1) = true := by decide +kernel
set_option maxRecDepth 65536 in
theorem w_t3 : ((words1.drop 24).drop 24).all (fun c => isCode c || c.before args0 about1) = true := by decide +kernel
theorem w_tables : (allAtoms (Jvm.Cond.code x code maxLocals ret :: tables_1)).before args0 about1 = true := by
  rw [allAtoms_all]
  show words1.all (fun c => c.before args0 about1) = true
  refine all_split ?_ w_codes
  rw [← List.take_append_drop 24 words1, List.all_append, w_t1, ← List.take_append_drop 24 (words1.drop 24), List.all_append, w_t2, w_t3]
  rfl
set_option maxRecDepth 65536 in
theorem w_case : (Jvm.Cond.and given_1 narrow_1).before args0 about1 = true := by decide +kernel
theorem w_applies : (headSpec (Jvm.Cond.code x code maxLocals ret :: tables_1) room_1).applies x e0.platform about1 = true :=
  (Spec.applies_iff w_frames).mpr ⟨w_running, w_runnable, w_alone, w_named, w_hears, w_ripe, w_room, w_tables⟩
theorem atStart : AtStart classFile x code maxLocals ret World_1 tables_1 room_1 Calls_1 rest_1 Pre_1 launch0 p0 e0 about1 theMethod args0 below0 :=
  ⟨lists_1, trivial, launch0.admits_env _ _ _, launch0.least_env, fairChoices_fair.cas, fairChoices_fair.clock, w_frames, w_args, w_heap, w_applies, trivial, trivial, w_case⟩
end start1
theorem witness_1 : WitnessClaimed_1 := ⟨start1.p0, start1.e0, start1.about1, start1.theMethod, start1.args0, start1.below0, start1.atStart⟩
end Jvm.Pilot.@@N@@
