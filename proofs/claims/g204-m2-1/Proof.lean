import JvmDerived
import JvmDerived.Pilot.@@N@@Statement
import JvmDerived.Pilot.@@N@@Code
set_option linter.unusedVariables false
set_option linter.unusedSimpArgs false
namespace Jvm.Pilot.@@N@@
open Jvm Jvm.ClassFile Sem Op Lib Jvm.Free Jvm.Stand Jvm.LawKit Jvm.RoadKit Bundle Jvm.Pilot.@@N@@.Jvm.D
/-! THE OWN KIT: a walk as a weakest precondition (own_V), one law an instruction -/
def own_V (l : Launch) (Z : State) (n0 : Nat) (R : Room) (own nm : String) (cod : ByteArray) (mxl : Nat) (rt : Option FieldType) (Q : Option Value → Heap → Prop)
    (h : Heap) (cells slots : Nat) (pc : Nat) (L : Array Slot) (S : List Value) : Prop :=
  ∀ (p : Program) (e : Env) (s : State) (m : MethodId) (args : Array Value) (below : List Frame) (meth : Method) (c : Code) (T : State) (locs : List Loc),
    p.tables.exec = Jvm.exec → Z.Warmed39 s.vm → c.code = cod → c.maxLocals = mxl → s.vm.findClass own = some m.cls → meth.sig.returnType = rt → meth.name = nm → meth.locks = false →
    Stand p l e R s m args below meth c T locs cells slots → T.heap = h → Fr n0 locs →
    ∃ s₂ o, Steps p.tables e below (T.setTop (mkF m pc L S)) s₂ ∧ s₂.status = .running ∧ Ended s₂ below o ∧ ∃ v Lc, o = .returned v ∧ (Q v s₂.heap ∧ Fr n0 Lc) ∧ FrameEnd s o s₂ Lc R.cells R.slots
def own_D (cod : ByteArray) (pc : Nat) (i : Instr) (n pc' : Nat) : Prop := decode cod pc = .ok (i, n) ∧ pc + n = pc'
def own_B (cod : ByteArray) (pc : Nat) (i : Instr) (o : Int) (pc' t : Nat) : Prop := decode cod pc = .ok (i, 3) ∧ pc + 3 = pc' ∧ 0 ≤ (pc : Int) + o ∧ ((pc : Int) + o).toNat = t
section OwnKit
variable {l : Launch} {Z : State} {n0 : Nat} {R : Room} {own nm : String} {cod : ByteArray} {mxl : Nat} {rt : Option FieldType} {Q : Option Value → Heap → Prop} {h : Heap} {cells slots pc pc' : Nat} {L L' : Array Slot} {S S' : List Value} {a0 : Array Value}
theorem own_step (st : ∀ {p : Program} {e : Env} {s : State} {m : MethodId} {args : Array Value} {below : List Frame} {meth : Method} {c : Code} {T : State} {locs : List Loc}, p.tables.exec = Jvm.exec → Z.Warmed39 s.vm → c.code = cod → s.vm.findClass own = some m.cls →
      Stand p l e R s m args below meth c T locs cells slots → T.heap = h → ∀ {target : State}, Steps p.tables e below (T.setTop (mkF m pc' L' S')) target → Steps p.tables e below (T.setTop (mkF m pc L S)) target)
    (k : own_V l Z n0 R own nm cod mxl rt Q h cells slots pc' L' S') : own_V l Z n0 R own nm cod mxl rt Q h cells slots pc L S := by
  intro p e s m args below meth c T locs hx hZ hby hml hown hret hnm hlk X eT N
  obtain ⟨s₂, o, h1, r⟩ := k p e s m args below meth c T locs hx hZ hby hml hown hret hnm hlk X eT N
  exact ⟨s₂, o, st hx hZ hby hown X eT h1, r⟩
theorem own_stepC {F : Heap → List Value → Prop} {cells' slots' : Nat} (st : ∀ {p : Program} {e : Env} {s : State} {m : MethodId} {args : Array Value} {below : List Frame} {meth : Method} {c : Code} {T : State} {locs : List Loc}, p.tables.exec = Jvm.exec → Z.Warmed39 s.vm → c.code = cod → c.maxLocals = mxl → s.vm.findClass own = some m.cls → meth.name = nm →
      Stand p l e R s m args below meth c T locs cells slots → T.heap = h → Fr n0 locs →
      ∃ (T' : State) (locs' : List Loc) (S' : List Value), F T'.heap S' ∧ Stand p l e R s m args below meth c T' locs' cells' slots' ∧ Fr n0 locs' ∧ ∀ target, Steps p.tables e below (T'.setTop (mkF m pc' L' S')) target → Steps p.tables e below (T.setTop (mkF m pc L S)) target)
    (k : ∀ h' S', F h' S' → own_V l Z n0 R own nm cod mxl rt Q h' cells' slots' pc' L' S') : own_V l Z n0 R own nm cod mxl rt Q h cells slots pc L S := by
  intro p e s m args below meth c T locs hx hZ hby hml hown hret hnm hlk X eT N
  obtain ⟨T', locs', S', f, X', N', st'⟩ := st hx hZ hby hml hown hnm X eT N
  obtain ⟨s₂, o, h1, r⟩ := k _ _ f p e s m args below meth c T' locs' hx hZ hby hml hown hret hnm hlk X' rfl N'
  exact ⟨s₂, o, st' _ h1, r⟩
theorem own_iadd {x y : Int32} (d : own_D cod pc (.iadd) 1 pc') (k : own_V l Z n0 R own nm cod mxl rt Q h cells slots pc' L (.int (x + y) :: S)) : own_V l Z n0 R own nm cod mxl rt Q h cells slots pc L (.int y :: .int x :: S) := by
  obtain ⟨d, rfl⟩ := d
  exact own_step (fun hx _ hby _ X _ _ q => XS.iadd X.here hx rfl (hb hby d) rfl q) k
theorem own_isub {x y : Int32} (d : own_D cod pc (.isub) 1 pc') (k : own_V l Z n0 R own nm cod mxl rt Q h cells slots pc' L (.int (x - y) :: S)) : own_V l Z n0 R own nm cod mxl rt Q h cells slots pc L (.int y :: .int x :: S) := by
  obtain ⟨d, rfl⟩ := d
  exact own_step (fun hx _ hby _ X _ _ q => XS.isub X.here hx rfl (hb hby d) rfl q) k
theorem own_imul {x y : Int32} (d : own_D cod pc (.imul) 1 pc') (k : own_V l Z n0 R own nm cod mxl rt Q h cells slots pc' L (.int (x * y) :: S)) : own_V l Z n0 R own nm cod mxl rt Q h cells slots pc L (.int y :: .int x :: S) := by
  obtain ⟨d, rfl⟩ := d
  exact own_step (fun hx _ hby _ X _ _ q => XS.imul X.here hx rfl (hb hby d) rfl q) k
theorem own_iand {x y : Int32} (d : own_D cod pc (.iand) 1 pc') (k : own_V l Z n0 R own nm cod mxl rt Q h cells slots pc' L (.int (x &&& y) :: S)) : own_V l Z n0 R own nm cod mxl rt Q h cells slots pc L (.int y :: .int x :: S) := by
  obtain ⟨d, rfl⟩ := d
  exact own_step (fun hx _ hby _ X _ _ q => XS.iand X.here hx rfl (hb hby d) rfl q) k
theorem own_ior {x y : Int32} (d : own_D cod pc (.ior) 1 pc') (k : own_V l Z n0 R own nm cod mxl rt Q h cells slots pc' L (.int (x ||| y) :: S)) : own_V l Z n0 R own nm cod mxl rt Q h cells slots pc L (.int y :: .int x :: S) := by
  obtain ⟨d, rfl⟩ := d
  exact own_step (fun hx _ hby _ X _ _ q => XS.ior X.here hx rfl (hb hby d) rfl q) k
theorem own_ixor {x y : Int32} (d : own_D cod pc (.ixor) 1 pc') (k : own_V l Z n0 R own nm cod mxl rt Q h cells slots pc' L (.int (x ^^^ y) :: S)) : own_V l Z n0 R own nm cod mxl rt Q h cells slots pc L (.int y :: .int x :: S) := by
  obtain ⟨d, rfl⟩ := d
  exact own_step (fun hx _ hby _ X _ _ q => XS.ixor X.here hx rfl (hb hby d) rfl q) k
theorem own_ishl {x y : Int32} (d : own_D cod pc (.ishl) 1 pc') (k : own_V l Z n0 R own nm cod mxl rt Q h cells slots pc' L (.int (x <<< (y &&& 31)) :: S)) : own_V l Z n0 R own nm cod mxl rt Q h cells slots pc L (.int y :: .int x :: S) := by
  obtain ⟨d, rfl⟩ := d
  exact own_step (fun hx _ hby _ X _ _ q => XS.ishl X.here hx rfl (hb hby d) rfl q) k
theorem own_ishr {x y : Int32} (d : own_D cod pc (.ishr) 1 pc') (k : own_V l Z n0 R own nm cod mxl rt Q h cells slots pc' L (.int (x >>> (y &&& 31)) :: S)) : own_V l Z n0 R own nm cod mxl rt Q h cells slots pc L (.int y :: .int x :: S) := by
  obtain ⟨d, rfl⟩ := d
  exact own_step (fun hx _ hby _ X _ _ q => XS.ishr X.here hx rfl (hb hby d) rfl q) k
theorem own_iushr {x y : Int32} (d : own_D cod pc (.iushr) 1 pc') (k : own_V l Z n0 R own nm cod mxl rt Q h cells slots pc' L (.int ((x.toUInt32 >>> (y &&& 31).toUInt32).toInt32) :: S)) : own_V l Z n0 R own nm cod mxl rt Q h cells slots pc L (.int y :: .int x :: S) := by
  obtain ⟨d, rfl⟩ := d
  exact own_step (fun hx _ hby _ X _ _ q => XS.iushr X.here hx rfl (hb hby d) rfl q) k
theorem own_ladd {x y : Int64} (d : own_D cod pc (.ladd) 1 pc') (k : own_V l Z n0 R own nm cod mxl rt Q h cells slots pc' L (.long (x + y) :: S)) : own_V l Z n0 R own nm cod mxl rt Q h cells slots pc L (.long y :: .long x :: S) := by
  obtain ⟨d, rfl⟩ := d
  exact own_step (fun hx _ hby _ X _ _ q => XS.ladd X.here hx rfl (hb hby d) rfl q) k
theorem own_lsub {x y : Int64} (d : own_D cod pc (.lsub) 1 pc') (k : own_V l Z n0 R own nm cod mxl rt Q h cells slots pc' L (.long (x - y) :: S)) : own_V l Z n0 R own nm cod mxl rt Q h cells slots pc L (.long y :: .long x :: S) := by
  obtain ⟨d, rfl⟩ := d
  exact own_step (fun hx _ hby _ X _ _ q => XS.lsub X.here hx rfl (hb hby d) rfl q) k
theorem own_lmul {x y : Int64} (d : own_D cod pc (.lmul) 1 pc') (k : own_V l Z n0 R own nm cod mxl rt Q h cells slots pc' L (.long (x * y) :: S)) : own_V l Z n0 R own nm cod mxl rt Q h cells slots pc L (.long y :: .long x :: S) := by
  obtain ⟨d, rfl⟩ := d
  exact own_step (fun hx _ hby _ X _ _ q => XS.lmul X.here hx rfl (hb hby d) rfl q) k
theorem own_land {x y : Int64} (d : own_D cod pc (.land) 1 pc') (k : own_V l Z n0 R own nm cod mxl rt Q h cells slots pc' L (.long (x &&& y) :: S)) : own_V l Z n0 R own nm cod mxl rt Q h cells slots pc L (.long y :: .long x :: S) := by
  obtain ⟨d, rfl⟩ := d
  exact own_step (fun hx _ hby _ X _ _ q => XS.land X.here hx rfl (hb hby d) rfl q) k
theorem own_lor {x y : Int64} (d : own_D cod pc (.lor) 1 pc') (k : own_V l Z n0 R own nm cod mxl rt Q h cells slots pc' L (.long (x ||| y) :: S)) : own_V l Z n0 R own nm cod mxl rt Q h cells slots pc L (.long y :: .long x :: S) := by
  obtain ⟨d, rfl⟩ := d
  exact own_step (fun hx _ hby _ X _ _ q => XS.lor X.here hx rfl (hb hby d) rfl q) k
theorem own_lxor {x y : Int64} (d : own_D cod pc (.lxor) 1 pc') (k : own_V l Z n0 R own nm cod mxl rt Q h cells slots pc' L (.long (x ^^^ y) :: S)) : own_V l Z n0 R own nm cod mxl rt Q h cells slots pc L (.long y :: .long x :: S) := by
  obtain ⟨d, rfl⟩ := d
  exact own_step (fun hx _ hby _ X _ _ q => XS.lxor X.here hx rfl (hb hby d) rfl q) k
theorem own_lshl {x : Int64} {y : Int32} (d : own_D cod pc (.lshl) 1 pc') (k : own_V l Z n0 R own nm cod mxl rt Q h cells slots pc' L (.long (x <<< (y &&& 0x3f).toInt64) :: S)) : own_V l Z n0 R own nm cod mxl rt Q h cells slots pc L (.int y :: .long x :: S) := by
  obtain ⟨d, rfl⟩ := d
  exact own_step (fun hx _ hby _ X _ _ q => XS.lshl X.here hx rfl (hb hby d) rfl q) k
theorem own_lshr {x : Int64} {y : Int32} (d : own_D cod pc (.lshr) 1 pc') (k : own_V l Z n0 R own nm cod mxl rt Q h cells slots pc' L (.long (x >>> (y &&& 0x3f).toInt64) :: S)) : own_V l Z n0 R own nm cod mxl rt Q h cells slots pc L (.int y :: .long x :: S) := by
  obtain ⟨d, rfl⟩ := d
  exact own_step (fun hx _ hby _ X _ _ q => XS.lshr X.here hx rfl (hb hby d) rfl q) k
theorem own_lushr {x : Int64} {y : Int32} (d : own_D cod pc (.lushr) 1 pc') (k : own_V l Z n0 R own nm cod mxl rt Q h cells slots pc' L (.long ((x.toUInt64 >>> (y &&& 0x3f).toInt64.toUInt64).toInt64) :: S)) : own_V l Z n0 R own nm cod mxl rt Q h cells slots pc L (.int y :: .long x :: S) := by
  obtain ⟨d, rfl⟩ := d
  exact own_step (fun hx _ hby _ X _ _ q => XS.lushr X.here hx rfl (hb hby d) rfl q) k
theorem own_idiv {x y : Int32} (d : own_D cod pc (.idiv) 1 pc') (hy : y ≠ 0) (k : own_V l Z n0 R own nm cod mxl rt Q h cells slots pc' L (.int (x / y) :: S)) : own_V l Z n0 R own nm cod mxl rt Q h cells slots pc L (.int y :: .int x :: S) := by
  obtain ⟨d, rfl⟩ := d
  exact own_step (fun hx _ hby _ X _ _ q => XS.idiv X.here hx rfl (hb hby d) rfl hy q) k
theorem own_ldiv {x y : Int64} (d : own_D cod pc (.ldiv) 1 pc') (hy : y ≠ 0) (k : own_V l Z n0 R own nm cod mxl rt Q h cells slots pc' L (.long (x / y) :: S)) : own_V l Z n0 R own nm cod mxl rt Q h cells slots pc L (.long y :: .long x :: S) := by
  obtain ⟨d, rfl⟩ := d
  exact own_step (fun hx _ hby _ X _ _ q => XS.ldiv X.here hx rfl (hb hby d) rfl hy q) k
theorem own_lrem {x y : Int64} (d : own_D cod pc (.lrem) 1 pc') (hy : y ≠ 0) (k : own_V l Z n0 R own nm cod mxl rt Q h cells slots pc' L (.long (x - (x / y) * y) :: S)) : own_V l Z n0 R own nm cod mxl rt Q h cells slots pc L (.long y :: .long x :: S) := by
  obtain ⟨d, rfl⟩ := d
  exact own_step (fun hx _ hby _ X _ _ q => XS.lrem X.here hx rfl (hb hby d) rfl hy q) k
theorem own_irem {x y : Int32} (d : own_D cod pc (.irem) 1 pc') (hy : y ≠ 0) (k : own_V l Z n0 R own nm cod mxl rt Q h cells slots pc' L (.int (x % y) :: S)) : own_V l Z n0 R own nm cod mxl rt Q h cells slots pc L (.int y :: .int x :: S) := by
  obtain ⟨d, rfl⟩ := d
  exact own_step (fun hx _ hby _ X _ _ q => iremM X hx rfl (hb hby d) rfl hy q) k
theorem own_ineg {x : Int32} (d : own_D cod pc (.ineg) 1 pc') (k : own_V l Z n0 R own nm cod mxl rt Q h cells slots pc' L (.int (-x) :: S)) : own_V l Z n0 R own nm cod mxl rt Q h cells slots pc L (.int x :: S) := by
  obtain ⟨d, rfl⟩ := d
  exact own_step (fun hx _ hby _ X _ _ q => XS.ineg X.here hx rfl (hb hby d) rfl q) k
theorem own_i2l {x : Int32} (d : own_D cod pc (.i2l) 1 pc') (k : own_V l Z n0 R own nm cod mxl rt Q h cells slots pc' L (.long x.toInt64 :: S)) : own_V l Z n0 R own nm cod mxl rt Q h cells slots pc L (.int x :: S) := by
  obtain ⟨d, rfl⟩ := d
  exact own_step (fun hx _ hby _ X _ _ q => XS.i2l X.here hx rfl (hb hby d) rfl q) k
theorem own_i2b {x : Int32} (d : own_D cod pc (.i2b) 1 pc') (k : own_V l Z n0 R own nm cod mxl rt Q h cells slots pc' L (.int x.toInt8.toInt32 :: S)) : own_V l Z n0 R own nm cod mxl rt Q h cells slots pc L (.int x :: S) := by
  obtain ⟨d, rfl⟩ := d
  exact own_step (fun hx _ hby _ X _ _ q => XS.i2b X.here hx rfl (hb hby d) rfl q) k
theorem own_i2c {x : Int32} (d : own_D cod pc (.i2c) 1 pc') (k : own_V l Z n0 R own nm cod mxl rt Q h cells slots pc' L (.int x.toUInt32.toUInt16.toUInt32.toInt32 :: S)) : own_V l Z n0 R own nm cod mxl rt Q h cells slots pc L (.int x :: S) := by
  obtain ⟨d, rfl⟩ := d
  exact own_step (fun hx _ hby _ X _ _ q => XS.i2c X.here hx rfl (hb hby d) rfl q) k
theorem own_i2s {x : Int32} (d : own_D cod pc (.i2s) 1 pc') (k : own_V l Z n0 R own nm cod mxl rt Q h cells slots pc' L (.int x.toInt16.toInt32 :: S)) : own_V l Z n0 R own nm cod mxl rt Q h cells slots pc L (.int x :: S) := by
  obtain ⟨d, rfl⟩ := d
  exact own_step (fun hx _ hby _ X _ _ q => XS.i2s X.here hx rfl (hb hby d) rfl q) k
theorem own_l2i {x : Int64} (d : own_D cod pc (.l2i) 1 pc') (k : own_V l Z n0 R own nm cod mxl rt Q h cells slots pc' L (.int x.toInt32 :: S)) : own_V l Z n0 R own nm cod mxl rt Q h cells slots pc L (.long x :: S) := by
  obtain ⟨d, rfl⟩ := d
  exact own_step (fun hx _ hby _ X _ _ q => XS.l2i X.here hx rfl (hb hby d) rfl q) k
theorem own_lneg {x : Int64} (d : own_D cod pc (.lneg) 1 pc') (k : own_V l Z n0 R own nm cod mxl rt Q h cells slots pc' L (.long (-x) :: S)) : own_V l Z n0 R own nm cod mxl rt Q h cells slots pc L (.long x :: S) := by
  obtain ⟨d, rfl⟩ := d
  exact own_step (fun hx _ hby _ X _ _ q => XS.lneg X.here hx rfl (hb hby d) rfl q) k
theorem own_iconst {i : Int} {x : Int32} (d : own_D cod pc (.iconst i) 1 pc') (hx : Int32.ofInt i = x) (k : own_V l Z n0 R own nm cod mxl rt Q h cells slots pc' L (.int x :: S)) : own_V l Z n0 R own nm cod mxl rt Q h cells slots pc L S := by
  obtain ⟨d, rfl⟩ := d
  subst hx
  exact own_step (fun hx _ hby _ X _ _ q => XS.iconst X.here hx rfl (hb hby d) q) k
theorem own_bipush {i : Int} {x : Int32} (d : own_D cod pc (.bipush i) 2 pc') (hx : (Int8.ofInt i).toInt32 = x) (k : own_V l Z n0 R own nm cod mxl rt Q h cells slots pc' L (.int x :: S)) : own_V l Z n0 R own nm cod mxl rt Q h cells slots pc L S := by
  obtain ⟨d, rfl⟩ := d
  subst hx
  exact own_step (fun hx _ hby _ X _ _ q => XS.bipush X.here hx rfl (hb hby d) q) k
theorem own_sipush {i : Int} {x : Int32} (d : own_D cod pc (.sipush i) 3 pc') (hx : (Int16.ofInt i).toInt32 = x) (k : own_V l Z n0 R own nm cod mxl rt Q h cells slots pc' L (.int x :: S)) : own_V l Z n0 R own nm cod mxl rt Q h cells slots pc L S := by
  obtain ⟨d, rfl⟩ := d
  subst hx
  exact own_step (fun hx _ hby _ X _ _ q => XS.sipush X.here hx rfl (hb hby d) q) k
theorem own_lconst {i : Fin 2} {x : Int64} (d : own_D cod pc (.lconst i) 1 pc') (hx : Int64.ofNat i = x) (k : own_V l Z n0 R own nm cod mxl rt Q h cells slots pc' L (.long x :: S)) : own_V l Z n0 R own nm cod mxl rt Q h cells slots pc L S := by
  obtain ⟨d, rfl⟩ := d
  subst hx
  exact own_step (fun hx _ hby _ X _ _ q => XS.lconst X.here hx rfl (hb hby d) q) k
theorem own_aconstNull (d : own_D cod pc (.aconst_null) 1 pc') (k : own_V l Z n0 R own nm cod mxl rt Q h cells slots pc' L (.null :: S)) : own_V l Z n0 R own nm cod mxl rt Q h cells slots pc L (S) := by
  obtain ⟨d, rfl⟩ := d
  exact own_step (fun hx _ hby _ X _ _ q => XS.aconstNull X.here hx rfl (hb hby d) q) k
theorem own_iload {j : Nat} {x : Int32} (d : own_D cod pc (.iload j) 2 pc') (hl : L[j]? = some (.val (.int x))) (k : own_V l Z n0 R own nm cod mxl rt Q h cells slots pc' L (.int x :: S)) : own_V l Z n0 R own nm cod mxl rt Q h cells slots pc L (S) := by
  obtain ⟨d, rfl⟩ := d
  exact own_step (fun hx _ hby _ X _ _ q => XS.iload X.here hx rfl (hb hby d) hl q) k
theorem own_iloadN {j : Fin 4} {x : Int32} (d : own_D cod pc (.iload_n j) 1 pc') (hl : L[j.val]? = some (.val (.int x))) (k : own_V l Z n0 R own nm cod mxl rt Q h cells slots pc' L (.int x :: S)) : own_V l Z n0 R own nm cod mxl rt Q h cells slots pc L (S) := by
  obtain ⟨d, rfl⟩ := d
  exact own_step (fun hx _ hby _ X _ _ q => XS.iloadN X.here hx rfl (hb hby d) hl q) k
theorem own_lload {j : Nat} {x : Int64} (d : own_D cod pc (.lload j) 2 pc') (hl : L[j]? = some (.val (.long x))) (k : own_V l Z n0 R own nm cod mxl rt Q h cells slots pc' L (.long x :: S)) : own_V l Z n0 R own nm cod mxl rt Q h cells slots pc L (S) := by
  obtain ⟨d, rfl⟩ := d
  exact own_step (fun hx _ hby _ X _ _ q => XS.lload X.here hx rfl (hb hby d) hl q) k
theorem own_lloadN {j : Fin 4} {x : Int64} (d : own_D cod pc (.lload_n j) 1 pc') (hl : L[j.val]? = some (.val (.long x))) (k : own_V l Z n0 R own nm cod mxl rt Q h cells slots pc' L (.long x :: S)) : own_V l Z n0 R own nm cod mxl rt Q h cells slots pc L (S) := by
  obtain ⟨d, rfl⟩ := d
  exact own_step (fun hx _ hby _ X _ _ q => XS.lloadN X.here hx rfl (hb hby d) hl q) k
theorem own_aload {j : Nat} {x : Value} (d : own_D cod pc (.aload j) 2 pc') (hl : L[j]? = some (.val x)) (hv : x.isRef = true) (k : own_V l Z n0 R own nm cod mxl rt Q h cells slots pc' L (x :: S)) : own_V l Z n0 R own nm cod mxl rt Q h cells slots pc L (S) := by
  obtain ⟨d, rfl⟩ := d
  exact own_step (fun hx _ hby _ X _ _ q => XS.aload X.here hx rfl (hb hby d) hl hv q) k
theorem own_aloadN {j : Fin 4} {x : Value} (d : own_D cod pc (.aload_n j) 1 pc') (hl : L[j.val]? = some (.val x)) (hv : x.isRef = true) (k : own_V l Z n0 R own nm cod mxl rt Q h cells slots pc' L (x :: S)) : own_V l Z n0 R own nm cod mxl rt Q h cells slots pc L (S) := by
  obtain ⟨d, rfl⟩ := d
  exact own_step (fun hx _ hby _ X _ _ q => XS.aloadN X.here hx rfl (hb hby d) hl hv q) k
theorem own_istore {j : Nat} {x : Int32} (d : own_D cod pc (.istore j) 2 pc') (hl : storeLocals L j (.int x) = some L') (k : own_V l Z n0 R own nm cod mxl rt Q h cells slots pc' L' S) : own_V l Z n0 R own nm cod mxl rt Q h cells slots pc L (.int x :: S) := by
  obtain ⟨d, rfl⟩ := d
  exact own_step (fun hx _ hby _ X _ _ q => XS.istore X.here hx rfl (hb hby d) rfl hl q) k
theorem own_istoreN {j : Fin 4} {x : Int32} (d : own_D cod pc (.istore_n j) 1 pc') (hl : storeLocals L j.val (.int x) = some L') (k : own_V l Z n0 R own nm cod mxl rt Q h cells slots pc' L' S) : own_V l Z n0 R own nm cod mxl rt Q h cells slots pc L (.int x :: S) := by
  obtain ⟨d, rfl⟩ := d
  exact own_step (fun hx _ hby _ X _ _ q => XS.istoreN X.here hx rfl (hb hby d) rfl hl q) k
theorem own_lstore {j : Nat} {x : Int64} (d : own_D cod pc (.lstore j) 2 pc') (hl : storeLocals L j (.long x) = some L') (k : own_V l Z n0 R own nm cod mxl rt Q h cells slots pc' L' S) : own_V l Z n0 R own nm cod mxl rt Q h cells slots pc L (.long x :: S) := by
  obtain ⟨d, rfl⟩ := d
  exact own_step (fun hx _ hby _ X _ _ q => XS.lstore X.here hx rfl (hb hby d) rfl hl q) k
theorem own_lstoreN {j : Fin 4} {x : Int64} (d : own_D cod pc (.lstore_n j) 1 pc') (hl : storeLocals L j.val (.long x) = some L') (k : own_V l Z n0 R own nm cod mxl rt Q h cells slots pc' L' S) : own_V l Z n0 R own nm cod mxl rt Q h cells slots pc L (.long x :: S) := by
  obtain ⟨d, rfl⟩ := d
  exact own_step (fun hx _ hby _ X _ _ q => XS.lstoreN X.here hx rfl (hb hby d) rfl hl q) k
theorem own_astore {j : Nat} {x : Value} (d : own_D cod pc (.astore j) 2 pc') (hv : x.isRef = true) (hl : storeLocals L j x = some L') (k : own_V l Z n0 R own nm cod mxl rt Q h cells slots pc' L' S) : own_V l Z n0 R own nm cod mxl rt Q h cells slots pc L (x :: S) := by
  obtain ⟨d, rfl⟩ := d
  exact own_step (fun hx _ hby _ X _ _ q => XS.astore X.here hx rfl (hb hby d) rfl hv hl q) k
theorem own_astoreN {j : Fin 4} {x : Value} (d : own_D cod pc (.astore_n j) 1 pc') (hv : x.isRef = true) (hl : storeLocals L j.val x = some L') (k : own_V l Z n0 R own nm cod mxl rt Q h cells slots pc' L' S) : own_V l Z n0 R own nm cod mxl rt Q h cells slots pc L (x :: S) := by
  obtain ⟨d, rfl⟩ := d
  exact own_step (fun hx _ hby _ X _ _ q => XS.astoreN X.here hx rfl (hb hby d) rfl hv hl q) k
theorem own_iinc {j : Nat} {cst : Int} {x z : Int32} (d : own_D cod pc (.iinc j cst) 3 pc') (hl : L[j]? = some (.val (.int x))) (hz : Int32.ofInt cst = z) (hl' : storeLocals L j (.int (x + z)) = some L') (k : own_V l Z n0 R own nm cod mxl rt Q h cells slots pc' L' S) : own_V l Z n0 R own nm cod mxl rt Q h cells slots pc L S := by
  obtain ⟨d, rfl⟩ := d
  subst hz
  exact own_step (fun hx _ hby _ X _ _ q => XS.iinc X.here hx rfl (hb hby d) hl hl' q) k
theorem own_dup {x : Value} (d : own_D cod pc (.dup) 1 pc') (hc : x.category = 1) (k : own_V l Z n0 R own nm cod mxl rt Q h cells slots pc' L (x :: x :: S)) : own_V l Z n0 R own nm cod mxl rt Q h cells slots pc L (x :: S) := by
  obtain ⟨d, rfl⟩ := d
  exact own_step (fun hx _ hby _ X _ _ q => XS.dup X.here hx rfl (hb hby d) rfl hc q) k
theorem own_pop {x : Value} (d : own_D cod pc (.pop) 1 pc') (hc : x.category = 1) (k : own_V l Z n0 R own nm cod mxl rt Q h cells slots pc' L S) : own_V l Z n0 R own nm cod mxl rt Q h cells slots pc L (x :: S) := by
  obtain ⟨d, rfl⟩ := d
  exact own_step (fun hx _ hby _ X _ _ q => XS.pop X.here hx rfl (hb hby d) rfl hc q) k
theorem own_dupX1 {x y : Value} (d : own_D cod pc (.dup_x1) 1 pc') (hc : x.category = 1) (hc2 : y.category = 1) (k : own_V l Z n0 R own nm cod mxl rt Q h cells slots pc' L (x :: y :: x :: S)) : own_V l Z n0 R own nm cod mxl rt Q h cells slots pc L (x :: y :: S) := by
  obtain ⟨d, rfl⟩ := d
  exact own_step (fun hx _ hby _ X _ _ q => XS.dupX1 X.here hx rfl (hb hby d) rfl hc hc2 q) k
theorem own_goto {o : Int} {t : Nat} (d : own_B cod pc (.goto o) o pc' t) (k : own_V l Z n0 R own nm cod mxl rt Q h cells slots t L S) : own_V l Z n0 R own nm cod mxl rt Q h cells slots pc L S := by
  obtain ⟨d, -, h1, rfl⟩ := d
  exact own_step (fun hx _ hby _ X _ _ q => XS.goto X.here hx rfl rfl (hb hby d) h1 rfl q) k
theorem own_icmpB {cd : ClassFile.Cond} {o : Int} {t : Nat} {x y : Int32} (d : own_B cod pc (.if_icmp cd o) o pc' t) (k1 : if_icmp.holds cd x y = true → own_V l Z n0 R own nm cod mxl rt Q h cells slots t L S) (k2 : if_icmp.holds cd x y = false → own_V l Z n0 R own nm cod mxl rt Q h cells slots pc' L S) : own_V l Z n0 R own nm cod mxl rt Q h cells slots pc L (.int y :: .int x :: S) := by
  obtain ⟨d, rfl, h1, rfl⟩ := d
  cases q : if_icmp.holds cd x y
  · exact own_step (fun hx _ hby _ X _ _ w => XS.icmpNo X.here hx rfl (hb hby d) rfl q w) (k2 q)
  · exact own_step (fun hx _ hby _ X _ _ w => XS.icmpYes X.here hx rfl rfl (hb hby d) rfl q h1 rfl w) (k1 q)
theorem own_ifB {cd : ClassFile.Cond} {o : Int} {t : Nat} {x : Int32} (d : own_B cod pc (.ifCond cd o) o pc' t) (k1 : if_icmp.holds cd x 0 = true → own_V l Z n0 R own nm cod mxl rt Q h cells slots t L S) (k2 : if_icmp.holds cd x 0 = false → own_V l Z n0 R own nm cod mxl rt Q h cells slots pc' L S) : own_V l Z n0 R own nm cod mxl rt Q h cells slots pc L (.int x :: S) := by
  obtain ⟨d, rfl, h1, rfl⟩ := d
  cases q : if_icmp.holds cd x 0
  · exact own_step (fun hx _ hby _ X _ _ w => XS.ifNo X.here hx rfl (hb hby d) rfl ((if0 _ _).trans q) w) (k2 q)
  · exact own_step (fun hx _ hby _ X _ _ w => XS.ifYes X.here hx rfl rfl (hb hby d) rfl ((if0 _ _).trans q) h1 rfl w) (k1 q)
theorem own_lcmpB {cd : ClassFile.Cond} {o : Int} {t pc1 : Nat} {x y : Int64} (d1 : own_D cod pc (.lcmp) 1 pc1) (d : own_B cod pc1 (.ifCond cd o) o pc' t) (k1 : if_icmp.holds cd (lcmpW x y) 0 = true → own_V l Z n0 R own nm cod mxl rt Q h cells slots t L S) (k2 : if_icmp.holds cd (lcmpW x y) 0 = false → own_V l Z n0 R own nm cod mxl rt Q h cells slots pc' L S) : own_V l Z n0 R own nm cod mxl rt Q h cells slots pc L (.long y :: .long x :: S) := by
  obtain ⟨d1, rfl⟩ := d1
  exact own_step (fun hx _ hby _ X _ _ w => XS.lcmp X.here hx rfl (hb hby d1) rfl w) (own_ifB d k1 k2)
theorem own_ricmpLt {x y : Int32} : if_icmp.holds .lt x y = true ↔ x.toInt < y.toInt := by
  have z0 : (0 : Int32).toInt = 0 := rfl
  simp only [if_icmp.holds, decide_eq_true_eq, Int32.lt_iff_toInt_lt, Int32.le_iff_toInt_le, gt_iff_lt, ge_iff_le, z0]
theorem own_icmpLt {o : Int} {t : Nat} {x y : Int32} (d : own_B cod pc (.if_icmp .lt o) o pc' t) (k1 : x.toInt < y.toInt → own_V l Z n0 R own nm cod mxl rt Q h cells slots t L S) (k2 : ¬ (x.toInt < y.toInt) → own_V l Z n0 R own nm cod mxl rt Q h cells slots pc' L S) : own_V l Z n0 R own nm cod mxl rt Q h cells slots pc L (.int y :: .int x :: S) :=
  own_icmpB d (fun q => k1 (own_ricmpLt.mp q)) (fun q => k2 fun w => by rw [own_ricmpLt.mpr w] at q; cases q)
theorem own_rifLt {x : Int32} : if_icmp.holds .lt x 0 = true ↔ x.toInt < (0 : Int) := by
  have z0 : (0 : Int32).toInt = 0 := rfl
  simp only [if_icmp.holds, decide_eq_true_eq, Int32.lt_iff_toInt_lt, Int32.le_iff_toInt_le, gt_iff_lt, ge_iff_le, z0]
theorem own_ifLt {o : Int} {t : Nat} {x : Int32} (d : own_B cod pc (.ifCond .lt o) o pc' t) (k1 : x.toInt < (0 : Int) → own_V l Z n0 R own nm cod mxl rt Q h cells slots t L S) (k2 : ¬ (x.toInt < (0 : Int)) → own_V l Z n0 R own nm cod mxl rt Q h cells slots pc' L S) : own_V l Z n0 R own nm cod mxl rt Q h cells slots pc L (.int x :: S) :=
  own_ifB d (fun q => k1 (own_rifLt.mp q)) (fun q => k2 fun w => by rw [own_rifLt.mpr w] at q; cases q)
theorem own_rlcmpLt {x y : Int64} : if_icmp.holds .lt (lcmpW x y) 0 = true ↔ x.toInt < y.toInt := by
  have e := lw_lt x y; have e2 := lw_gt x y; rw [Int64.lt_iff_toInt_lt] at e e2; rw [Int32.lt_iff_toInt_lt] at e e2
  have z0 : (0 : Int32).toInt = 0 := rfl
  simp only [if_icmp.holds, decide_eq_true_eq, Int32.lt_iff_toInt_lt, Int32.le_iff_toInt_le, gt_iff_lt, ge_iff_le, z0] at *
  omega
theorem own_lcmpLt {o : Int} {t pc1 : Nat} {x y : Int64} (d1 : own_D cod pc (.lcmp) 1 pc1) (d : own_B cod pc1 (.ifCond .lt o) o pc' t) (k1 : x.toInt < y.toInt → own_V l Z n0 R own nm cod mxl rt Q h cells slots t L S) (k2 : ¬ (x.toInt < y.toInt) → own_V l Z n0 R own nm cod mxl rt Q h cells slots pc' L S) : own_V l Z n0 R own nm cod mxl rt Q h cells slots pc L (.long y :: .long x :: S) :=
  own_lcmpB d1 d (fun q => k1 (own_rlcmpLt.mp q)) (fun q => k2 fun w => by rw [own_rlcmpLt.mpr w] at q; cases q)
theorem own_ricmpGe {x y : Int32} : if_icmp.holds .ge x y = true ↔ x.toInt ≥ y.toInt := by
  have z0 : (0 : Int32).toInt = 0 := rfl
  simp only [if_icmp.holds, decide_eq_true_eq, Int32.lt_iff_toInt_lt, Int32.le_iff_toInt_le, gt_iff_lt, ge_iff_le, z0]
theorem own_icmpGe {o : Int} {t : Nat} {x y : Int32} (d : own_B cod pc (.if_icmp .ge o) o pc' t) (k1 : x.toInt ≥ y.toInt → own_V l Z n0 R own nm cod mxl rt Q h cells slots t L S) (k2 : ¬ (x.toInt ≥ y.toInt) → own_V l Z n0 R own nm cod mxl rt Q h cells slots pc' L S) : own_V l Z n0 R own nm cod mxl rt Q h cells slots pc L (.int y :: .int x :: S) :=
  own_icmpB d (fun q => k1 (own_ricmpGe.mp q)) (fun q => k2 fun w => by rw [own_ricmpGe.mpr w] at q; cases q)
theorem own_rifGe {x : Int32} : if_icmp.holds .ge x 0 = true ↔ x.toInt ≥ (0 : Int) := by
  have z0 : (0 : Int32).toInt = 0 := rfl
  simp only [if_icmp.holds, decide_eq_true_eq, Int32.lt_iff_toInt_lt, Int32.le_iff_toInt_le, gt_iff_lt, ge_iff_le, z0]
theorem own_ifGe {o : Int} {t : Nat} {x : Int32} (d : own_B cod pc (.ifCond .ge o) o pc' t) (k1 : x.toInt ≥ (0 : Int) → own_V l Z n0 R own nm cod mxl rt Q h cells slots t L S) (k2 : ¬ (x.toInt ≥ (0 : Int)) → own_V l Z n0 R own nm cod mxl rt Q h cells slots pc' L S) : own_V l Z n0 R own nm cod mxl rt Q h cells slots pc L (.int x :: S) :=
  own_ifB d (fun q => k1 (own_rifGe.mp q)) (fun q => k2 fun w => by rw [own_rifGe.mpr w] at q; cases q)
theorem own_rlcmpGe {x y : Int64} : if_icmp.holds .ge (lcmpW x y) 0 = true ↔ x.toInt ≥ y.toInt := by
  have e := lw_lt x y; have e2 := lw_gt x y; rw [Int64.lt_iff_toInt_lt] at e e2; rw [Int32.lt_iff_toInt_lt] at e e2
  have z0 : (0 : Int32).toInt = 0 := rfl
  simp only [if_icmp.holds, decide_eq_true_eq, Int32.lt_iff_toInt_lt, Int32.le_iff_toInt_le, gt_iff_lt, ge_iff_le, z0] at *
  omega
theorem own_lcmpGe {o : Int} {t pc1 : Nat} {x y : Int64} (d1 : own_D cod pc (.lcmp) 1 pc1) (d : own_B cod pc1 (.ifCond .ge o) o pc' t) (k1 : x.toInt ≥ y.toInt → own_V l Z n0 R own nm cod mxl rt Q h cells slots t L S) (k2 : ¬ (x.toInt ≥ y.toInt) → own_V l Z n0 R own nm cod mxl rt Q h cells slots pc' L S) : own_V l Z n0 R own nm cod mxl rt Q h cells slots pc L (.long y :: .long x :: S) :=
  own_lcmpB d1 d (fun q => k1 (own_rlcmpGe.mp q)) (fun q => k2 fun w => by rw [own_rlcmpGe.mpr w] at q; cases q)
theorem own_ricmpGt {x y : Int32} : if_icmp.holds .gt x y = true ↔ x.toInt > y.toInt := by
  have z0 : (0 : Int32).toInt = 0 := rfl
  simp only [if_icmp.holds, decide_eq_true_eq, Int32.lt_iff_toInt_lt, Int32.le_iff_toInt_le, gt_iff_lt, ge_iff_le, z0]
theorem own_icmpGt {o : Int} {t : Nat} {x y : Int32} (d : own_B cod pc (.if_icmp .gt o) o pc' t) (k1 : x.toInt > y.toInt → own_V l Z n0 R own nm cod mxl rt Q h cells slots t L S) (k2 : ¬ (x.toInt > y.toInt) → own_V l Z n0 R own nm cod mxl rt Q h cells slots pc' L S) : own_V l Z n0 R own nm cod mxl rt Q h cells slots pc L (.int y :: .int x :: S) :=
  own_icmpB d (fun q => k1 (own_ricmpGt.mp q)) (fun q => k2 fun w => by rw [own_ricmpGt.mpr w] at q; cases q)
theorem own_rifGt {x : Int32} : if_icmp.holds .gt x 0 = true ↔ x.toInt > (0 : Int) := by
  have z0 : (0 : Int32).toInt = 0 := rfl
  simp only [if_icmp.holds, decide_eq_true_eq, Int32.lt_iff_toInt_lt, Int32.le_iff_toInt_le, gt_iff_lt, ge_iff_le, z0]
theorem own_ifGt {o : Int} {t : Nat} {x : Int32} (d : own_B cod pc (.ifCond .gt o) o pc' t) (k1 : x.toInt > (0 : Int) → own_V l Z n0 R own nm cod mxl rt Q h cells slots t L S) (k2 : ¬ (x.toInt > (0 : Int)) → own_V l Z n0 R own nm cod mxl rt Q h cells slots pc' L S) : own_V l Z n0 R own nm cod mxl rt Q h cells slots pc L (.int x :: S) :=
  own_ifB d (fun q => k1 (own_rifGt.mp q)) (fun q => k2 fun w => by rw [own_rifGt.mpr w] at q; cases q)
theorem own_rlcmpGt {x y : Int64} : if_icmp.holds .gt (lcmpW x y) 0 = true ↔ x.toInt > y.toInt := by
  have e := lw_lt x y; have e2 := lw_gt x y; rw [Int64.lt_iff_toInt_lt] at e e2; rw [Int32.lt_iff_toInt_lt] at e e2
  have z0 : (0 : Int32).toInt = 0 := rfl
  simp only [if_icmp.holds, decide_eq_true_eq, Int32.lt_iff_toInt_lt, Int32.le_iff_toInt_le, gt_iff_lt, ge_iff_le, z0] at *
  omega
theorem own_lcmpGt {o : Int} {t pc1 : Nat} {x y : Int64} (d1 : own_D cod pc (.lcmp) 1 pc1) (d : own_B cod pc1 (.ifCond .gt o) o pc' t) (k1 : x.toInt > y.toInt → own_V l Z n0 R own nm cod mxl rt Q h cells slots t L S) (k2 : ¬ (x.toInt > y.toInt) → own_V l Z n0 R own nm cod mxl rt Q h cells slots pc' L S) : own_V l Z n0 R own nm cod mxl rt Q h cells slots pc L (.long y :: .long x :: S) :=
  own_lcmpB d1 d (fun q => k1 (own_rlcmpGt.mp q)) (fun q => k2 fun w => by rw [own_rlcmpGt.mpr w] at q; cases q)
theorem own_ricmpLe {x y : Int32} : if_icmp.holds .le x y = true ↔ x.toInt ≤ y.toInt := by
  have z0 : (0 : Int32).toInt = 0 := rfl
  simp only [if_icmp.holds, decide_eq_true_eq, Int32.lt_iff_toInt_lt, Int32.le_iff_toInt_le, gt_iff_lt, ge_iff_le, z0]
theorem own_icmpLe {o : Int} {t : Nat} {x y : Int32} (d : own_B cod pc (.if_icmp .le o) o pc' t) (k1 : x.toInt ≤ y.toInt → own_V l Z n0 R own nm cod mxl rt Q h cells slots t L S) (k2 : ¬ (x.toInt ≤ y.toInt) → own_V l Z n0 R own nm cod mxl rt Q h cells slots pc' L S) : own_V l Z n0 R own nm cod mxl rt Q h cells slots pc L (.int y :: .int x :: S) :=
  own_icmpB d (fun q => k1 (own_ricmpLe.mp q)) (fun q => k2 fun w => by rw [own_ricmpLe.mpr w] at q; cases q)
theorem own_rifLe {x : Int32} : if_icmp.holds .le x 0 = true ↔ x.toInt ≤ (0 : Int) := by
  have z0 : (0 : Int32).toInt = 0 := rfl
  simp only [if_icmp.holds, decide_eq_true_eq, Int32.lt_iff_toInt_lt, Int32.le_iff_toInt_le, gt_iff_lt, ge_iff_le, z0]
theorem own_ifLe {o : Int} {t : Nat} {x : Int32} (d : own_B cod pc (.ifCond .le o) o pc' t) (k1 : x.toInt ≤ (0 : Int) → own_V l Z n0 R own nm cod mxl rt Q h cells slots t L S) (k2 : ¬ (x.toInt ≤ (0 : Int)) → own_V l Z n0 R own nm cod mxl rt Q h cells slots pc' L S) : own_V l Z n0 R own nm cod mxl rt Q h cells slots pc L (.int x :: S) :=
  own_ifB d (fun q => k1 (own_rifLe.mp q)) (fun q => k2 fun w => by rw [own_rifLe.mpr w] at q; cases q)
theorem own_rlcmpLe {x y : Int64} : if_icmp.holds .le (lcmpW x y) 0 = true ↔ x.toInt ≤ y.toInt := by
  have e := lw_lt x y; have e2 := lw_gt x y; rw [Int64.lt_iff_toInt_lt] at e e2; rw [Int32.lt_iff_toInt_lt] at e e2
  have z0 : (0 : Int32).toInt = 0 := rfl
  simp only [if_icmp.holds, decide_eq_true_eq, Int32.lt_iff_toInt_lt, Int32.le_iff_toInt_le, gt_iff_lt, ge_iff_le, z0] at *
  omega
theorem own_lcmpLe {o : Int} {t pc1 : Nat} {x y : Int64} (d1 : own_D cod pc (.lcmp) 1 pc1) (d : own_B cod pc1 (.ifCond .le o) o pc' t) (k1 : x.toInt ≤ y.toInt → own_V l Z n0 R own nm cod mxl rt Q h cells slots t L S) (k2 : ¬ (x.toInt ≤ y.toInt) → own_V l Z n0 R own nm cod mxl rt Q h cells slots pc' L S) : own_V l Z n0 R own nm cod mxl rt Q h cells slots pc L (.long y :: .long x :: S) :=
  own_lcmpB d1 d (fun q => k1 (own_rlcmpLe.mp q)) (fun q => k2 fun w => by rw [own_rlcmpLe.mpr w] at q; cases q)
theorem own_ricmpEq {x y : Int32} : if_icmp.holds .eq x y = true ↔ x.toInt = y.toInt := by
  have e : True := trivial
  have e0 : ∀ x : Int32, x = 0 ↔ x.toInt = 0 := fun x => ⟨fun q => by rw [q]; rfl, fun q => Int32.toInt_inj.mp (q.trans rfl)⟩
  simp only [if_icmp.holds, beq_iff_eq, bne_iff_ne, ne_eq, Int32.toInt_inj]
theorem own_icmpEq {o : Int} {t : Nat} {x y : Int32} (d : own_B cod pc (.if_icmp .eq o) o pc' t) (k1 : x.toInt = y.toInt → own_V l Z n0 R own nm cod mxl rt Q h cells slots t L S) (k2 : ¬ (x.toInt = y.toInt) → own_V l Z n0 R own nm cod mxl rt Q h cells slots pc' L S) : own_V l Z n0 R own nm cod mxl rt Q h cells slots pc L (.int y :: .int x :: S) :=
  own_icmpB d (fun q => k1 (own_ricmpEq.mp q)) (fun q => k2 (by
    have e : ¬ (x.toInt = y.toInt) := fun w => by rw [own_ricmpEq.mpr w] at q; cases q
    first | exact e | exact Decidable.not_not.mp e))
theorem own_rifEq {x : Int32} : if_icmp.holds .eq x 0 = true ↔ x.toInt = (0 : Int) := by
  have e : True := trivial
  have e0 : ∀ x : Int32, x = 0 ↔ x.toInt = 0 := fun x => ⟨fun q => by rw [q]; rfl, fun q => Int32.toInt_inj.mp (q.trans rfl)⟩
  simp only [if_icmp.holds, beq_iff_eq, bne_iff_ne, ne_eq, e0]
theorem own_ifEq {o : Int} {t : Nat} {x : Int32} (d : own_B cod pc (.ifCond .eq o) o pc' t) (k1 : x.toInt = (0 : Int) → own_V l Z n0 R own nm cod mxl rt Q h cells slots t L S) (k2 : ¬ (x.toInt = (0 : Int)) → own_V l Z n0 R own nm cod mxl rt Q h cells slots pc' L S) : own_V l Z n0 R own nm cod mxl rt Q h cells slots pc L (.int x :: S) :=
  own_ifB d (fun q => k1 (own_rifEq.mp q)) (fun q => k2 (by
    have e : ¬ (x.toInt = (0 : Int)) := fun w => by rw [own_rifEq.mpr w] at q; cases q
    first | exact e | exact Decidable.not_not.mp e))
theorem own_rlcmpEq {x y : Int64} : if_icmp.holds .eq (lcmpW x y) 0 = true ↔ x.toInt = y.toInt := by
  have e : (lcmpW x y = 0 ↔ x.toInt = y.toInt) := (lw_eq x y).trans Int64.toInt_inj.symm
  have e0 : ∀ x : Int32, x = 0 ↔ x.toInt = 0 := fun x => ⟨fun q => by rw [q]; rfl, fun q => Int32.toInt_inj.mp (q.trans rfl)⟩
  simp only [if_icmp.holds, beq_iff_eq, bne_iff_ne, ne_eq, e]
theorem own_lcmpEq {o : Int} {t pc1 : Nat} {x y : Int64} (d1 : own_D cod pc (.lcmp) 1 pc1) (d : own_B cod pc1 (.ifCond .eq o) o pc' t) (k1 : x.toInt = y.toInt → own_V l Z n0 R own nm cod mxl rt Q h cells slots t L S) (k2 : ¬ (x.toInt = y.toInt) → own_V l Z n0 R own nm cod mxl rt Q h cells slots pc' L S) : own_V l Z n0 R own nm cod mxl rt Q h cells slots pc L (.long y :: .long x :: S) :=
  own_lcmpB d1 d (fun q => k1 (own_rlcmpEq.mp q)) (fun q => k2 (by
    have e : ¬ (x.toInt = y.toInt) := fun w => by rw [own_rlcmpEq.mpr w] at q; cases q
    first | exact e | exact Decidable.not_not.mp e))
theorem own_ricmpNe {x y : Int32} : if_icmp.holds .ne x y = true ↔ ¬ (x.toInt = y.toInt) := by
  have e : True := trivial
  have e0 : ∀ x : Int32, x = 0 ↔ x.toInt = 0 := fun x => ⟨fun q => by rw [q]; rfl, fun q => Int32.toInt_inj.mp (q.trans rfl)⟩
  simp only [if_icmp.holds, beq_iff_eq, bne_iff_ne, ne_eq, Int32.toInt_inj]
theorem own_icmpNe {o : Int} {t : Nat} {x y : Int32} (d : own_B cod pc (.if_icmp .ne o) o pc' t) (k1 : ¬ (x.toInt = y.toInt) → own_V l Z n0 R own nm cod mxl rt Q h cells slots t L S) (k2 : x.toInt = y.toInt → own_V l Z n0 R own nm cod mxl rt Q h cells slots pc' L S) : own_V l Z n0 R own nm cod mxl rt Q h cells slots pc L (.int y :: .int x :: S) :=
  own_icmpB d (fun q => k1 (own_ricmpNe.mp q)) (fun q => k2 (by
    have e : ¬ (¬ (x.toInt = y.toInt)) := fun w => by rw [own_ricmpNe.mpr w] at q; cases q
    first | exact e | exact Decidable.not_not.mp e))
theorem own_rifNe {x : Int32} : if_icmp.holds .ne x 0 = true ↔ ¬ (x.toInt = (0 : Int)) := by
  have e : True := trivial
  have e0 : ∀ x : Int32, x = 0 ↔ x.toInt = 0 := fun x => ⟨fun q => by rw [q]; rfl, fun q => Int32.toInt_inj.mp (q.trans rfl)⟩
  simp only [if_icmp.holds, beq_iff_eq, bne_iff_ne, ne_eq, e0]
theorem own_ifNe {o : Int} {t : Nat} {x : Int32} (d : own_B cod pc (.ifCond .ne o) o pc' t) (k1 : ¬ (x.toInt = (0 : Int)) → own_V l Z n0 R own nm cod mxl rt Q h cells slots t L S) (k2 : x.toInt = (0 : Int) → own_V l Z n0 R own nm cod mxl rt Q h cells slots pc' L S) : own_V l Z n0 R own nm cod mxl rt Q h cells slots pc L (.int x :: S) :=
  own_ifB d (fun q => k1 (own_rifNe.mp q)) (fun q => k2 (by
    have e : ¬ (¬ (x.toInt = (0 : Int))) := fun w => by rw [own_rifNe.mpr w] at q; cases q
    first | exact e | exact Decidable.not_not.mp e))
theorem own_rlcmpNe {x y : Int64} : if_icmp.holds .ne (lcmpW x y) 0 = true ↔ ¬ (x.toInt = y.toInt) := by
  have e : (lcmpW x y = 0 ↔ x.toInt = y.toInt) := (lw_eq x y).trans Int64.toInt_inj.symm
  have e0 : ∀ x : Int32, x = 0 ↔ x.toInt = 0 := fun x => ⟨fun q => by rw [q]; rfl, fun q => Int32.toInt_inj.mp (q.trans rfl)⟩
  simp only [if_icmp.holds, beq_iff_eq, bne_iff_ne, ne_eq, e]
theorem own_lcmpNe {o : Int} {t pc1 : Nat} {x y : Int64} (d1 : own_D cod pc (.lcmp) 1 pc1) (d : own_B cod pc1 (.ifCond .ne o) o pc' t) (k1 : ¬ (x.toInt = y.toInt) → own_V l Z n0 R own nm cod mxl rt Q h cells slots t L S) (k2 : x.toInt = y.toInt → own_V l Z n0 R own nm cod mxl rt Q h cells slots pc' L S) : own_V l Z n0 R own nm cod mxl rt Q h cells slots pc L (.long y :: .long x :: S) :=
  own_lcmpB d1 d (fun q => k1 (own_rlcmpNe.mp q)) (fun q => k2 (by
    have e : ¬ (¬ (x.toInt = y.toInt)) := fun w => by rw [own_rlcmpNe.mpr w] at q; cases q
    first | exact e | exact Decidable.not_not.mp e))
theorem own_acmpEq {o : Int} {t : Nat} {v w : Value} (d : own_B cod pc (.if_acmp .eq o) o pc' t) (hv : v.isRef = true) (hw : w.isRef = true) (k1 : v = w → own_V l Z n0 R own nm cod mxl rt Q h cells slots t L S) (k2 : ¬ (v = w) → own_V l Z n0 R own nm cod mxl rt Q h cells slots pc' L S) : own_V l Z n0 R own nm cod mxl rt Q h cells slots pc L (w :: v :: S) := by
  obtain ⟨d, rfl, h1, rfl⟩ := d
  by_cases q : v = w
  · exact own_step (fun hx _ hby _ X _ _ z => Jvm.RoadKit.acmp X hx rfl hv hw (same := true) rfl (hb hby d) rfl (decide_eq_true q) h1 rfl z) (k1 q)
  · exact own_step (fun hx _ hby _ X _ _ z => Jvm.RoadKit.acmp X hx rfl hv hw (same := false) rfl (hb hby d) rfl (decide_eq_false q) h1 rfl z) (k2 q)
theorem own_acmpNe {o : Int} {t : Nat} {v w : Value} (d : own_B cod pc (.if_acmp .ne o) o pc' t) (hv : v.isRef = true) (hw : w.isRef = true) (k1 : ¬ (v = w) → own_V l Z n0 R own nm cod mxl rt Q h cells slots t L S) (k2 : v = w → own_V l Z n0 R own nm cod mxl rt Q h cells slots pc' L S) : own_V l Z n0 R own nm cod mxl rt Q h cells slots pc L (w :: v :: S) := by
  obtain ⟨d, rfl, h1, rfl⟩ := d
  by_cases q : v = w
  · exact own_step (fun hx _ hby _ X _ _ z => Jvm.RoadKit.acmp X hx rfl hv hw (same := true) rfl (hb hby d) rfl (decide_eq_true q) h1 rfl z) (k2 q)
  · exact own_step (fun hx _ hby _ X _ _ z => Jvm.RoadKit.acmp X hx rfl hv hw (same := false) rfl (hb hby d) rfl (decide_eq_false q) h1 rfl z) (k1 q)
theorem own_ifnullN {o : Int} {t : Nat} (d : own_B cod pc (.ifnull o) o pc' t) (k : own_V l Z n0 R own nm cod mxl rt Q h cells slots t L S) : own_V l Z n0 R own nm cod mxl rt Q h cells slots pc L (.null :: S) := by
  obtain ⟨d, -, h1, rfl⟩ := d
  exact own_step (fun hx _ hby _ X _ _ q => XS.ifnullYes X.here hx rfl rfl (hb hby d) rfl h1 rfl q) k
theorem own_ifnullR {o : Int} {t : Nat} {a : Addr} (d : own_B cod pc (.ifnull o) o pc' t) (k : own_V l Z n0 R own nm cod mxl rt Q h cells slots pc' L S) : own_V l Z n0 R own nm cod mxl rt Q h cells slots pc L (.ref a :: S) := by
  obtain ⟨d, rfl, -, -⟩ := d
  exact own_step (fun hx _ hby _ X _ _ q => XS.ifnullNo X.here hx rfl (hb hby d) rfl q) k
theorem own_ifnonnullR {o : Int} {t : Nat} {a : Addr} (d : own_B cod pc (.ifnonnull o) o pc' t) (k : own_V l Z n0 R own nm cod mxl rt Q h cells slots t L S) : own_V l Z n0 R own nm cod mxl rt Q h cells slots pc L (.ref a :: S) := by
  obtain ⟨d, -, h1, rfl⟩ := d
  exact own_step (fun hx _ hby _ X _ _ q => XS.ifnonnullYes X.here hx rfl rfl (hb hby d) rfl h1 rfl q) k
theorem own_ifnonnullN {o : Int} {t : Nat} (d : own_B cod pc (.ifnonnull o) o pc' t) (k : own_V l Z n0 R own nm cod mxl rt Q h cells slots pc' L S) : own_V l Z n0 R own nm cod mxl rt Q h cells slots pc L (.null :: S) := by
  obtain ⟨d, rfl, -, -⟩ := d
  exact own_step (fun hx _ hby _ X _ _ q => XS.ifnonnullNo X.here hx rfl (hb hby d) rfl q) k
theorem own_ldcI {i : Nat} {x : Int32} (d : own_D cod pc (.ldc i) 2 pc') (w : (Cond.constant own i x).before a0 Z = true) (k : own_V l Z n0 R own nm cod mxl rt Q h cells slots pc' L (.int x :: S)) : own_V l Z n0 R own nm cod mxl rt Q h cells slots pc L S := by
  obtain ⟨d, rfl⟩ := d
  exact own_step (fun hx hZ hby hown X _ _ q => X.ldcInt hx hown (mvT hZ w) (g := mkF _ pc L S) rfl (hb hby d) _ q) k
theorem own_ldcwI {i : Nat} {x : Int32} (d : own_D cod pc (.ldc_w i) 3 pc') (w : (Cond.constant own i x).before a0 Z = true) (k : own_V l Z n0 R own nm cod mxl rt Q h cells slots pc' L (.int x :: S)) : own_V l Z n0 R own nm cod mxl rt Q h cells slots pc L S := by
  obtain ⟨d, rfl⟩ := d
  exact own_step (fun hx hZ hby hown X _ _ q => X.ldcwInt hx hown (mvT hZ w) (g := mkF _ pc L S) rfl (hb hby d) _ q) k
theorem own_ldcJ {i : Nat} {x : Int64} (d : own_D cod pc (.ldc2_w i) 3 pc') (w : (Cond.constantLong own i x).before a0 Z = true) (k : own_V l Z n0 R own nm cod mxl rt Q h cells slots pc' L (.long x :: S)) : own_V l Z n0 R own nm cod mxl rt Q h cells slots pc L S := by
  obtain ⟨d, rfl⟩ := d
  exact own_step (fun hx hZ hby hown X _ _ q => X.ldc2Long hx hown (mvT hZ w) (g := mkF _ pc L S) rfl (hb hby d) _ q) k
theorem own_getS {i : Nat} {R0 O n ds : String} {v : Value} (d : own_D cod pc (.getstatic i) 3 pc') (w : (Cond.fieldLink own i R0 n ds).before a0 Z = true) (via : Via Z R0 O n ds) (F : Sta Z h O n ds v) (k : own_V l Z n0 R own nm cod mxl rt Q h cells slots pc' L (v :: S)) : own_V l Z n0 R own nm cod mxl rt Q h cells slots pc L S := by
  obtain ⟨d, rfl⟩ := d
  refine own_stepC (F := fun h' S' => h' = h ∧ S' = v :: S) (fun hx hZ hby _ hown _ X eT N => ?_) (by rintro h' S' ⟨rfl, rfl⟩; exact k)
  obtain ⟨T', X', e', st⟩ := getS (host := "") X hx hZ hown w via eT F (g := mkF _ pc L S) rfl (hb hby d)
  exact ⟨T', _, _, ⟨e', rfl⟩, X', N, st⟩
theorem own_getF {i : Nat} {R0 O n ds : String} {v : Value} {a : Addr} (d : own_D cod pc (.getfield i) 3 pc') (w : (Cond.fieldLink own i R0 n ds).before a0 Z = true) (via : Via Z R0 O n ds) (F : Fld Z h a O n ds v) (k : own_V l Z n0 R own nm cod mxl rt Q h cells slots pc' L (v :: S)) : own_V l Z n0 R own nm cod mxl rt Q h cells slots pc L (.ref a :: S) := by
  obtain ⟨d, rfl⟩ := d
  refine own_stepC (F := fun h' S' => h' = h ∧ S' = v :: S) (fun hx hZ hby _ hown _ X eT N => ?_) (by rintro h' S' ⟨rfl, rfl⟩; exact k)
  obtain ⟨T', X', e', st⟩ := getF (host := "") X hx hZ hown (Or.inl w) via eT F (g := mkF _ pc L (.ref a :: S)) rfl rfl (hb hby d)
  exact ⟨T', _, _, ⟨e', rfl⟩, X', N, st⟩
theorem own_putF {i kk : Nat} {R0 O C n ds : String} {v old : Value} {a : Addr} {ty : FieldType} (d : own_D cod pc (.putfield i) 3 pc') (w : (Cond.fieldLink own i R0 n ds).before a0 Z = true) (via : Via Z R0 O n ds) (F : Fld Z h a O n ds old) (E : Exa Z h a C)
    (Lw : (Cond.lays C O n ds).before a0 Z = true ∨ ((Cond.laysFinal C O n ds).before a0 Z = true ∧ own = O ∧ nm = "<init>")) (wi : (Cond.instantiable C kk).before a0 Z = true) (hty : parseFieldDescriptor ds = some ty) (hn : narrow ty v = v) (hf : fits ty v = true) (ha : n0 ≤ a)
    (k : ∀ h', Wr h h' a (Jvm.RoadKit.slotOf Z O n ds) v → own_V l Z n0 R own nm cod mxl rt Q h' cells slots pc' L S) : own_V l Z n0 R own nm cod mxl rt Q h cells slots pc L (v :: .ref a :: S) := by
  obtain ⟨d, rfl⟩ := d
  refine own_stepC (F := fun h' S' => Wr h h' a (Jvm.RoadKit.slotOf Z O n ds) v ∧ S' = S) (fun hx hZ hby _ hown hnm X eT N => ?_) (by rintro h' S' ⟨W, rfl⟩; exact k h' W)
  obtain ⟨T', h', X', e', W', st⟩ := putF (host := "") X hx hZ hown (Or.inl w) via eT F E (Lw.imp id fun q => ⟨q.1, q.2.1, hnm.trans q.2.2⟩) wi hty hn hf (g := mkF _ pc L (v :: .ref a :: S)) rfl rfl (hb hby d)
  subst e'
  exact ⟨T', _, _, ⟨W', rfl⟩, X', Fr.snoc X' N ha, st⟩
theorem own_new {i n cells' slots' : Nat} {C : String} (d : own_D cod pc (.new i) 3 pc') (w : (Cond.classLink own i C).before a0 Z = true) (wi : (Cond.instantiable C n).before a0 Z = true) (wz : (Cond.initialized C).before a0 Z = true) (hc : cells + 1 = cells') (hs : slots + n = slots') (hc' : cells' ≤ R.cells) (hs' : slots' ≤ R.slots)
    (k : ∀ h', Ext h h' → Exa Z h' h.size C → (∀ {O nf ds : String} {ty : FieldType}, Laid Z a0 C O nf ds → parseFieldDescriptor ds = some ty → Fld Z h' h.size O nf ds (defaultValue ty)) → own_V l Z n0 R own nm cod mxl rt Q h' cells' slots' pc' L (.ref h.size :: S)) : own_V l Z n0 R own nm cod mxl rt Q h cells slots pc L S := by
  obtain ⟨d, rfl⟩ := d
  subst hc hs
  refine own_stepC (F := fun h' S' => (Ext h h' ∧ Exa Z h' h.size C ∧ ∀ {O nf ds : String} {ty : FieldType}, Laid Z a0 C O nf ds → parseFieldDescriptor ds = some ty → Fld Z h' h.size O nf ds (defaultValue ty)) ∧ S' = .ref h.size :: S) (fun hx hZ hby _ hown _ X eT N => ?_) (by rintro h' S' ⟨⟨q1, q2, q3⟩, rfl⟩; exact k h' q1 q2 q3)
  obtain ⟨T', h', X', e', E', A', D', -, st⟩ := newO X hx hZ hown w wi wz eT (g := mkF _ pc L S) rfl (hb hby d) hc' hs'
  subst e'
  exact ⟨T', _, _, ⟨⟨E', A', D'⟩, rfl⟩, X', N, st⟩
theorem own_initO {i W : Nat} {a : Addr} (d : own_D cod pc (.invokespecial i) 3 pc') (w1 : (Cond.methodLink own i Lib.objectInit).before a0 Z = true) (w2 : (Cond.instanceMethod Lib.objectInit).before a0 Z = true) (w3 : (Cond.code Lib.objectInit ⟨#[0xb1]⟩ 1 none).before a0 Z = true) (hsz : L.size = mxl) (hf : 1 ≤ R.frames) (hW : (S.map fun v => v.category).sum ≤ W) (hl : W + 12 ≤ R.locals)
    (k : own_V l Z n0 R own nm cod mxl rt Q h cells slots pc' L S) : own_V l Z n0 R own nm cod mxl rt Q h cells slots pc L (.ref a :: S) := by
  obtain ⟨d, rfl⟩ := d
  refine own_stepC (F := fun h' S' => h' = h ∧ S' = S) (fun hx hZ hby hml hown _ X eT N => ?_) (by rintro h' S' ⟨rfl, rfl⟩; exact k)
  obtain ⟨T', X', e', st⟩ := initO X hx hZ hown w1 w2 w3 eT (g := mkF _ pc L (.ref a :: S)) rfl (by rw [hml]; exact hsz) rfl (hb hby d) hf (W := W) (by show 2 * 0 + _ ≤ _; simpa using hW) hl
  exact ⟨T', _, _, ⟨e', rfl⟩, X', N, st⟩
theorem own_ret0 (d : decode cod pc = .ok (.return_, 1)) (hrt : rt = none) (hc : cells ≤ R.cells) (hs : slots ≤ R.slots) (hQ : Q none h) : own_V l Z n0 R own nm cod mxl rt Q h cells slots pc L [] := by
  intro p e s m args below meth c T locs hx hZ hby hml hown hret hnm hlk X eT N
  obtain ⟨fs, hr, hrun, hended, hW, hsame⟩ := X.leave (v := none) (fun _ => rfl) hlk
  refine ⟨_, _, X.returnOut hx (hret.trans hrt) (hb hby d) hr, hrun, hended, _, _, rfl, ⟨?_, N⟩, ⟨_, rfl⟩, hW, hsame.mono hc hs⟩
  show Q none T.heap
  rw [eT]; exact hQ
theorem own_retV {v : Value} {t : FieldType} {i : Instr} (d : decode cod pc = .ok (i, 1)) (hrt : rt = some t) (hn : narrow t v = v)
    (hi : (i = .ireturn ∧ (t = .int ∨ t = .boolean ∨ t = .byte ∨ t = .char ∨ t = .short) ∧ ∃ z, v = .int z) ∨ (i = .lreturn ∧ t = .long ∧ ∃ z, v = .long z) ∨ (i = .dreturn ∧ t = .double ∧ ∃ z, v = .double z) ∨ (i = .freturn ∧ t = .float ∧ ∃ z, v = .float z) ∨ (i = .areturn ∧ t.isReference = true ∧ v.isRef = true))
    (hc : cells ≤ R.cells) (hs : slots ≤ R.slots) (hQ : Q (some v) h) : own_V l Z n0 R own nm cod mxl rt Q h cells slots pc L (v :: S) := by
  intro p e s m args below meth c T locs hx hZ hby hml hown hret hnm hlk X eT N
  obtain ⟨fs, hr, hrun, hended, hW, hsame⟩ := X.leave (v := some v) (fun q => by rw [hret, hrt] at q; cases q) hlk
  refine ⟨_, _, retOut X hx (hret.trans hrt) hn hi (hb hby d) hr, hrun, hended, _, _, rfl, ⟨?_, N⟩, ⟨_, rfl⟩, hW, hsame.mono hc hs⟩
  show Q (some v) T.heap
  rw [eT]; exact hQ
theorem own_retI {x : Int32} (d : own_D cod pc (.ireturn) 1 pc') (hrt : rt = some .int) (hc : cells ≤ R.cells) (hs : slots ≤ R.slots) (hQ : Q (some (.int x)) h) : own_V l Z n0 R own nm cod mxl rt Q h cells slots pc L (.int x :: S) :=
  own_retV d.1 hrt rfl (Or.inl ⟨rfl, Or.inl rfl, _, rfl⟩) hc hs hQ
theorem own_retJ {x : Int64} (d : own_D cod pc (.lreturn) 1 pc') (hrt : rt = some .long) (hc : cells ≤ R.cells) (hs : slots ≤ R.slots) (hQ : Q (some (.long x)) h) : own_V l Z n0 R own nm cod mxl rt Q h cells slots pc L (.long x :: S) :=
  own_retV d.1 hrt rfl (Or.inr (Or.inl ⟨rfl, rfl, _, rfl⟩)) hc hs hQ
theorem own_retA {v : Value} {t : FieldType} (d : own_D cod pc (.areturn) 1 pc') (hrt : rt = some t) (ht : t.isReference = true) (hv : v.isRef = true) (hc : cells ≤ R.cells) (hs : slots ≤ R.slots) (hQ : Q (some v) h) : own_V l Z n0 R own nm cod mxl rt Q h cells slots pc L (v :: S) :=
  own_retV d.1 hrt (by rcases ref_cases hv with rfl | ⟨b, rfl⟩ <;> cases t <;> first | rfl | cases ht) (Or.inr (Or.inr (Or.inr (Or.inr ⟨rfl, ht, hv⟩)))) hc hs hQ
theorem own_retN {x : Int32} {t : FieldType} (d : own_D cod pc (.ireturn) 1 pc') (hrt : rt = some t) (ht : t = .boolean ∨ t = .byte ∨ t = .char ∨ t = .short) (hc : cells ≤ R.cells) (hs : slots ≤ R.slots) (hQ : Q (some (.int (nar t x))) h) : own_V l Z n0 R own nm cod mxl rt Q h cells slots pc L (.int x :: S) := by
  intro p e s m args below meth c T locs hx hZ hby hml hown hret hnm hlk X eT N
  obtain ⟨fs, hr, hrun, hended, hW, hsame⟩ := X.leave (v := some (.int (nar t x))) (fun q => by rw [hret, hrt] at q; cases q) hlk
  refine ⟨_, _, retN X hx (hret.trans hrt) ht (hb hby d.1) hr, hrun, hended, _, _, rfl, ⟨?_, N⟩, ⟨_, rfl⟩, hW, hsame.mono hc hs⟩
  show Q (some (.int (nar t x))) T.heap
  rw [eT]; exact hQ
theorem own_retZ {x : Int32} (d : own_D cod pc (.ireturn) 1 pc') (hrt : rt = some .boolean) (hx01 : x = 0 ∨ x = 1) (hc : cells ≤ R.cells) (hs : slots ≤ R.slots) (hQ : Q (some (.int x)) h) : own_V l Z n0 R own nm cod mxl rt Q h cells slots pc L (.int x :: S) :=
  own_retN d hrt (Or.inl rfl) hc hs (by rcases hx01 with rfl | rfl <;> exact hQ)
theorem own_met {y : MethodName} {as' : Array Value} {L0 : Array Slot} (hpl : plainFor y = true) (hef : ∀ m, entryFrame m as' mxl = mkF m 0 L0 []) (k : own_V l Z n0 R y.cls y.name cod mxl rt Q h 0 0 0 L0 []) (ws : List Jvm.Cond) :
    MetFree l y (head1 (Jvm.Cond.code y cod mxl rt :: ws) R) (fun a U => a = as' ∧ Z.Warmed39 U.vm ∧ U.heap = h) (fun _ _ _ _ _ => True) (fun _ U o U' => ∃ v L, o = .returned v ∧ (Q v U'.heap ∧ Fr n0 L) ∧ FrameEnd U o U' L R.cells R.slots) := by
  refine MetFree.of_bodySF hpl hisR ?_
  intro p e s m args below meth c s₁ Bd hml0 hP hK
  obtain ⟨rfl, hZ, hh⟩ := hP
  have e0 : s₁.heap = h := by rw [← hh, Bd.state]; rfl
  obtain ⟨s₂, o, h1, r⟩ := k p e s m _ below meth c s₁ [] Bd.exec hZ Bd.bytes hml0 (findClass_of_methodNamed Bd.named) Bd.returns (name_of_methodNamed Bd.named Bd.method).1 (BodyLoose.notSynchronized Bd) (Stand.of_body Bd) e0 (Fr.nil n0)
  exact ⟨s₂, o, castTop (hef m) h1, r⟩
theorem own_callS {index : Nat} {y : MethodName} {cod' : ByteArray} {mxl' : Nat} {rt' : Option FieldType} {R' : Room} {Q' : Option Value → Heap → Prop} {L0 : Array Slot} {argsL rest : List Value} {W cells' slots' : Nat} {ps : List FieldType} {r : Option FieldType}
    (k0 : own_V l Z n0 R' y.cls y.name cod' mxl' rt' Q' h 0 0 0 L0 []) (hef : ∀ m, entryFrame m argsL.toArray mxl' = mkF m 0 L0 []) (hpl : plainFor y = true) (hpd : parseMethodDescriptor y.desc = some ⟨ps, r⟩) (hl : argsL.length = ps.length)
    (d : own_D cod pc (.invokestatic index) 3 pc') (w1 : (Cond.methodLink own index y).before a0 Z = true) (w2 : (Cond.static y).before a0 Z = true) (w3 : (Cond.initialized y.cls).before a0 Z = true) (w4 : (Cond.code y cod' mxl' rt').before a0 Z = true)
    (hy : y.cls ≠ "java/lang/invoke/MethodHandle" ∧ y.cls ≠ "java/lang/invoke/VarHandle") (hS : S = argsL.reverse ++ rest) (hsz : L.size = mxl) (hW : (rest.map fun v => v.category).sum ≤ W)
    (hf : R'.frames + 1 ≤ R.frames) (hlo : W + (mxl' + 11) + R'.locals ≤ R.locals) (hc : cells + R'.cells = cells') (hs : slots + R'.slots = slots') (hc' : cells' ≤ R.cells) (hs' : slots' ≤ R.slots)
    (k : ∀ v h', Q' v h' → own_V l Z n0 R own nm cod mxl rt Q h' cells' slots' pc' L (v.toList ++ rest)) : own_V l Z n0 R own nm cod mxl rt Q h cells slots pc L S := by
  obtain ⟨d, rfl⟩ := d
  subst hc hs
  refine own_stepC (F := fun h' S' => ∃ v, Q' v h' ∧ S' = v.toList ++ rest) (fun {p e s m args below meth c T locs} hx hZ hby hml hown _ X eT N => ?_) (by rintro h' _ ⟨v, q, rfl⟩; exact k v h' q)
  obtain ⟨v, vm1, ⟨T', L1, k1, n1⟩, -, X', ⟨Lc, hQ, l1, y1, z1⟩, st⟩ := Jvm.LawKit.callS X hx (y := y) hown (mvT hZ w1) (mvT hZ w2) (mvT hZ w3) (mvT hZ w4) hy (backOf (W := W) (Q := fun v h L => Q' v h ∧ Fr n0 L) (own_met hpl hef k0 []) hZ w4 w3 hf hlo) (g := mkF m pc L S) rfl (by rw [hml]; exact hsz) (argsL := argsL) (rest := rest) (lenOf hpd hl) hS (by show 2 * 0 + _ ≤ _; simpa using hW) (hb hby d) (fun _ _ => ⟨rfl, eT, hc', hs'⟩)
  dsimp only [Pt.U, Pt.locs, Pt.cells, Pt.slots] at X' l1 y1 z1 st hQ
  subst l1 y1 z1
  exact ⟨T', _, _, ⟨v, hQ.1, rfl⟩, X', Fr.app N hQ.2, st⟩
theorem own_callI {index : Nat} {y : MethodName} {cod' : ByteArray} {mxl' : Nat} {R' : Room} {Q' : Option Value → Heap → Prop} {L0 : Array Slot} {a : Addr} {argsL rest : List Value} {W cells' slots' : Nat} {ps : List FieldType} {r : Option FieldType}
    (k0 : own_V l Z n0 R' y.cls y.name cod' mxl' none Q' h 0 0 0 L0 []) (hef : ∀ m, entryFrame m (.ref a :: argsL).toArray mxl' = mkF m 0 L0 []) (hpl : plainFor y = true) (hpd : parseMethodDescriptor y.desc = some ⟨ps, r⟩) (hl : argsL.length = ps.length) (hyn : y.name = "<init>")
    (d : own_D cod pc (.invokespecial index) 3 pc') (w1 : (Cond.methodLink own index y).before a0 Z = true) (w2 : (Cond.instanceMethod y).before a0 Z = true) (w3 : (Cond.initialized y.cls).before a0 Z = true) (w4 : (Cond.code y cod' mxl' none).before a0 Z = true)
    (hy : y.cls ≠ "java/lang/invoke/MethodHandle" ∧ y.cls ≠ "java/lang/invoke/VarHandle") (hS : S = argsL.reverse ++ .ref a :: rest) (hsz : L.size = mxl) (hW : (rest.map fun v => v.category).sum ≤ W)
    (hf : R'.frames + 1 ≤ R.frames) (hlo : W + (mxl' + 11) + R'.locals ≤ R.locals) (hc : cells + R'.cells = cells') (hs : slots + R'.slots = slots') (hc' : cells' ≤ R.cells) (hs' : slots' ≤ R.slots)
    (k : ∀ v h', Q' v h' → own_V l Z n0 R own nm cod mxl rt Q h' cells' slots' pc' L (v.toList ++ rest)) : own_V l Z n0 R own nm cod mxl rt Q h cells slots pc L S := by
  obtain ⟨d, rfl⟩ := d
  subst hc hs
  refine own_stepC (F := fun h' S' => ∃ v, Q' v h' ∧ S' = v.toList ++ rest) (fun {p e s m args below meth c T locs} hx hZ hby hml hown _ X eT N => ?_) (by rintro h' _ ⟨v, q, rfl⟩; exact k v h' q)
  obtain ⟨v, vm1, ⟨T', L1, k1, n1⟩, -, X', ⟨Lc, hQ, l1, y1, z1⟩, st⟩ := X.specialBack hx (y := y) hyn hown (mvT hZ w1) (mvT hZ w2) (mvT hZ w4) hy (backOf (W := W) (Q := fun v h L => Q' v h ∧ Fr n0 L) (own_met hpl hef k0 []) hZ w4 w3 hf hlo) (g := mkF m pc L S) rfl (by rw [hml]; exact hsz) (Steps.refl _) (a := a) (argsL := argsL) (rest := rest) (lenOf hpd hl) hS (by show 2 * 0 + _ ≤ _; simpa using hW) (hb hby d) (fun _ _ => ⟨rfl, eT, hc', hs'⟩)
  dsimp only [Pt.U, Pt.locs, Pt.cells, Pt.slots] at X' l1 y1 z1 st hQ
  subst l1 y1 z1
  exact ⟨T', _, _, ⟨v, hQ.1, rfl⟩, X', Fr.app N hQ.2, fun _ q => st.trans q⟩
theorem own_callV {index : Nat} {y z : MethodName} {C : String} {cod' : ByteArray} {mxl' : Nat} {rt' : Option FieldType} {R' : Room} {Q' : Option Value → Heap → Prop} {L0 : Array Slot} {a : Addr} {argsL rest : List Value} {W cells' slots' : Nat} {ps : List FieldType} {r : Option FieldType}
    (k0 : own_V l Z n0 R' z.cls z.name cod' mxl' rt' Q' h 0 0 0 L0 []) (hef : ∀ m, entryFrame m (.ref a :: argsL).toArray mxl' = mkF m 0 L0 []) (hpl : plainFor z = true) (hpd : parseMethodDescriptor y.desc = some ⟨ps, r⟩) (hl : argsL.length = ps.length) (E : Exa Z h a C)
    (d : own_D cod pc (.invokevirtual index) 3 pc') (w1 : (Cond.methodLink own index y).before a0 Z = true) (w2 : (Cond.declares y).before a0 Z = true) (hnf : ∀ s : State, Z.Warmed39 s.vm → NotFace s y) (w3 : (Cond.selects C y z).before a0 Z = true) (w4 : (Cond.instanceMethod z).before a0 Z = true) (w5 : (Cond.code z cod' mxl' rt').before a0 Z = true) (w6 : (Cond.initialized z.cls).before a0 Z = true)
    (hy : y.cls ≠ "java/lang/invoke/MethodHandle" ∧ y.cls ≠ "java/lang/invoke/VarHandle") (hS : S = argsL.reverse ++ .ref a :: rest) (hsz : L.size = mxl) (hW : (rest.map fun v => v.category).sum ≤ W)
    (hf : R'.frames + 1 ≤ R.frames) (hlo : W + (mxl' + 11) + R'.locals ≤ R.locals) (hc : cells + R'.cells = cells') (hs : slots + R'.slots = slots') (hc' : cells' ≤ R.cells) (hs' : slots' ≤ R.slots)
    (k : ∀ v h', Q' v h' → own_V l Z n0 R own nm cod mxl rt Q h' cells' slots' pc' L (v.toList ++ rest)) : own_V l Z n0 R own nm cod mxl rt Q h cells slots pc L S := by
  obtain ⟨d, rfl⟩ := d
  subst hc hs
  refine own_stepC (F := fun h' S' => ∃ v, Q' v h' ∧ S' = v.toList ++ rest) (fun {p e s m args below meth c T locs} hx hZ hby hml hown _ X eT N => ?_) (by rintro h' _ ⟨v, q, rfl⟩; exact k v h' q)
  obtain ⟨cq, kq, q1, q2, q3⟩ := isOf hZ eT E
  obtain ⟨v, vm1, ⟨T', L1, k1, n1⟩, -, X', ⟨Lc, hQ, l1, y1, z1⟩, st⟩ := X.virtualBack hx (y := y) (z := z) hown (mvT hZ w1) (mvT hZ w2) (hnf s hZ) (mvT hZ w3) (mvT hZ w4) hy (backOf (W := W) (Q := fun v h L => Q' v h ∧ Fr n0 L) (own_met hpl hef k0 []) hZ w5 w6 hf hlo) q1 q3 (g := mkF m pc L S) rfl (by rw [hml]; exact hsz) (Steps.refl _) (argsL := argsL) (rest := rest) (lenOf hpd hl) hS (by show 2 * 0 + _ ≤ _; simpa using hW) (hb hby d) (fun _ _ => ⟨rfl, eT, hc', hs'⟩)
  dsimp only [Pt.U, Pt.locs, Pt.cells, Pt.slots] at X' l1 y1 z1 st hQ
  subst l1 y1 z1
  exact ⟨T', _, _, ⟨v, hQ.1, rfl⟩, X', Fr.app N hQ.2, fun _ q => st.trans q⟩
/-- the array at a holds just the values vs -/
def own_A (Z : State) (h : Heap) (a : Addr) (ty : FieldType) (vs : List Value) : Prop := ∃ cl : Cell, Arr Z h a cl ty ∧ cl.slots.toList = vs ∧ vs.length < 2 ^ 31
theorem own_A.ext {h' : Heap} {a : Addr} {ty : FieldType} {vs : List Value} (E : Ext h h') (A : own_A Z h a ty vs) : own_A Z h' a ty vs := by obtain ⟨cl, A1, r⟩ := A; exact ⟨cl, A1.ext E, r⟩
theorem own_A.other {h' : Heap} {a b : Addr} {sl : Nat} {v : Value} {ty : FieldType} {vs : List Value} (W : Wr h h' b sl v) (A : own_A Z h a ty vs) (hne : a ≠ b) : own_A Z h' a ty vs := by obtain ⟨cl, A1, r⟩ := A; exact ⟨cl, A1.other W hne, r⟩
theorem own_A.keep {h' : Heap} {a : Addr} {ty : FieldType} {vs : List Value} {ws : List Addr} (A : own_A Z h a ty vs) (K : Keep h h' ws) (hne : a ∉ ws) : own_A Z h' a ty vs := by obtain ⟨cl, A1, r⟩ := A; exact ⟨cl, ⟨K.2.1 _ _ A1.1 hne, A1.2⟩, r⟩
theorem own_A.lt {a : Addr} {ty : FieldType} {vs : List Value} (A : own_A Z h a ty vs) : a < h.size := by obtain ⟨cl, A1, r⟩ := A; exact A1.lt
theorem own_A.set {h' : Heap} {a : Addr} {i : Nat} {v : Value} {ty : FieldType} {vs : List Value} (W : Wr h h' a i v) (A : own_A Z h a ty vs) : own_A Z h' a ty (vs.set i v) := by
  obtain ⟨cl, A1, rfl, r⟩ := A
  exact ⟨_, A1.same W, by simp [Cell.setSlot], by simpa using r⟩
theorem own_nat {j : Int32} {i : Nat} (hj : j.toInt = (i : Int)) : ¬ j < 0 ∧ j.toNatClampNeg = i := by
  rw [Int32.lt_iff_toInt_lt, show (0 : Int32).toInt = 0 from rfl, Int32.toNatClampNeg, hj]; omega
theorem own_A.len {a : Addr} {ty : FieldType} {vs : List Value} (A : own_A Z h a ty vs) : vs.length < 2 ^ 31 := by obtain ⟨_, _, _, r⟩ := A; exact r
theorem own_arrlen {a : Addr} {ty : FieldType} {vs : List Value} {x : Int32} (d : own_D cod pc (.arraylength) 1 pc') (A : own_A Z h a ty vs) (hx : x.toInt = (vs.length : Int)) (k : own_V l Z n0 R own nm cod mxl rt Q h cells slots pc' L (.int x :: S)) : own_V l Z n0 R own nm cod mxl rt Q h cells slots pc L (.ref a :: S) := by
  obtain ⟨d, rfl⟩ := d
  obtain ⟨cl, A1, rfl, r⟩ := A
  have e : cl.slots.size.toInt32 = x := Int32.toInt_inj.mp (by rw [len_toInt (by simpa using r), hx]; simp)
  subst e
  exact own_step (fun hx hZ hby _ X eT _ q => X.arraylength hx (by rw [eT]; exact A1.1) (State.isArrayOf_alike hZ.alike A1.2.1) (g := mkF _ pc L (.ref a :: S)) rfl rfl (hb hby d) _ q) k
theorem own_iaload {a : Addr} {vs : List Value} {j : Int32} {i : Nat} {v : Value} (d : own_D cod pc (.iaload) 1 pc') (A : own_A Z h a .int vs) (hj : j.toInt = (i : Int)) (hv : vs[i]? = some v) (k : own_V l Z n0 R own nm cod mxl rt Q h cells slots pc' L (v :: S)) : own_V l Z n0 R own nm cod mxl rt Q h cells slots pc L (.int j :: .ref a :: S) := by
  obtain ⟨d, rfl⟩ := d
  obtain ⟨cl, A1, rfl, r⟩ := A
  obtain ⟨q1, rfl⟩ := own_nat hj
  have hv' : cl.slots[j.toNatClampNeg]? = some v := by simpa using hv
  have hin : ¬ (j < 0 ∨ cl.slots.size ≤ j.toNatClampNeg) := fun q => q.elim q1 fun q => by have := (Array.getElem?_eq_some_iff.mp hv').1; omega
  exact own_step (fun hx hZ hby _ X eT _ q => X.iaload hx (j := j) (v := v) (by rw [eT]; exact A1.1) (State.isArrayOf_alike hZ.alike A1.2.1) A1.2.2 hin hv' (g := mkF _ pc L (.int j :: .ref a :: S)) rfl rfl (hb hby d) _ q) k
theorem own_laload {a : Addr} {vs : List Value} {j : Int32} {i : Nat} {v : Value} (d : own_D cod pc (.laload) 1 pc') (A : own_A Z h a .long vs) (hj : j.toInt = (i : Int)) (hv : vs[i]? = some v) (k : own_V l Z n0 R own nm cod mxl rt Q h cells slots pc' L (v :: S)) : own_V l Z n0 R own nm cod mxl rt Q h cells slots pc L (.int j :: .ref a :: S) := by
  obtain ⟨d, rfl⟩ := d
  obtain ⟨cl, A1, rfl, r⟩ := A
  obtain ⟨q1, rfl⟩ := own_nat hj
  have hv' : cl.slots[j.toNatClampNeg]? = some v := by simpa using hv
  have hin : ¬ (j < 0 ∨ cl.slots.size ≤ j.toNatClampNeg) := fun q => q.elim q1 fun q => by have := (Array.getElem?_eq_some_iff.mp hv').1; omega
  exact own_step (fun hx hZ hby _ X eT _ q => X.laload hx (j := j) (v := v) (by rw [eT]; exact A1.1) (State.isArrayOf_alike hZ.alike A1.2.1) A1.2.2 hin hv' (g := mkF _ pc L (.int j :: .ref a :: S)) rfl rfl (hb hby d) _ q) k
theorem own_caload {a : Addr} {vs : List Value} {j : Int32} {i : Nat} {v : Value} (d : own_D cod pc (.caload) 1 pc') (A : own_A Z h a .char vs) (hj : j.toInt = (i : Int)) (hv : vs[i]? = some v) (k : own_V l Z n0 R own nm cod mxl rt Q h cells slots pc' L (v :: S)) : own_V l Z n0 R own nm cod mxl rt Q h cells slots pc L (.int j :: .ref a :: S) := by
  obtain ⟨d, rfl⟩ := d
  obtain ⟨cl, A1, rfl, r⟩ := A
  obtain ⟨q1, rfl⟩ := own_nat hj
  have hv' : cl.slots[j.toNatClampNeg]? = some v := by simpa using hv
  have hin : ¬ (j < 0 ∨ cl.slots.size ≤ j.toNatClampNeg) := fun q => q.elim q1 fun q => by have := (Array.getElem?_eq_some_iff.mp hv').1; omega
  exact own_step (fun hx hZ hby _ X eT _ q => X.caload hx (j := j) (v := v) (by rw [eT]; exact A1.1) (State.isArrayOf_alike hZ.alike A1.2.1) A1.2.2 hin hv' (g := mkF _ pc L (.int j :: .ref a :: S)) rfl rfl (hb hby d) _ q) k
theorem own_baload {a : Addr} {vs : List Value} {j : Int32} {i : Nat} {v : Value} (d : own_D cod pc (.baload) 1 pc') (A : own_A Z h a .byte vs) (hj : j.toInt = (i : Int)) (hv : vs[i]? = some v) (k : own_V l Z n0 R own nm cod mxl rt Q h cells slots pc' L (v :: S)) : own_V l Z n0 R own nm cod mxl rt Q h cells slots pc L (.int j :: .ref a :: S) := by
  obtain ⟨d, rfl⟩ := d
  obtain ⟨cl, A1, rfl, r⟩ := A
  obtain ⟨q1, rfl⟩ := own_nat hj
  have hv' : cl.slots[j.toNatClampNeg]? = some v := by simpa using hv
  have hin : ¬ (j < 0 ∨ cl.slots.size ≤ j.toNatClampNeg) := fun q => q.elim q1 fun q => by have := (Array.getElem?_eq_some_iff.mp hv').1; omega
  exact own_step (fun hx hZ hby _ X eT _ q => X.baloadBytes hx (j := j) (v := v) (by rw [eT]; exact A1.1) (State.isArrayOf_alike hZ.alike A1.2.1) A1.2.2 hin hv' (g := mkF _ pc L (.int j :: .ref a :: S)) rfl rfl (hb hby d) _ q) k
theorem own_aaload {a : Addr} {ty : FieldType} {vs : List Value} {j : Int32} {i : Nat} {v : Value} (d : own_D cod pc (.aaload) 1 pc') (A : own_A Z h a ty vs) (hty : ty.isReference = true) (hj : j.toInt = (i : Int)) (hv : vs[i]? = some v) (k : own_V l Z n0 R own nm cod mxl rt Q h cells slots pc' L (v :: S)) : own_V l Z n0 R own nm cod mxl rt Q h cells slots pc L (.int j :: .ref a :: S) := by
  obtain ⟨d, rfl⟩ := d
  obtain ⟨cl, A1, rfl, r⟩ := A
  obtain ⟨q1, rfl⟩ := own_nat hj
  have hv' : cl.slots[j.toNatClampNeg]? = some v := by simpa using hv
  have hin : ¬ (j < 0 ∨ cl.slots.size ≤ j.toNatClampNeg) := fun q => q.elim q1 fun q => by have := (Array.getElem?_eq_some_iff.mp hv').1; omega
  exact own_step (fun hx hZ hby _ X eT _ q => X.aaload hx (j := j) (v := v) (by rw [eT]; exact A1.1) (State.isArrayOf_alike hZ.alike A1.2.1) hty A1.2.2 hin hv' (g := mkF _ pc L (.int j :: .ref a :: S)) rfl rfl (hb hby d) _ q) k
theorem own_iastore {a : Addr} {vs : List Value} {j : Int32} {i : Nat} {x : Int32} (d : own_D cod pc (.iastore) 1 pc') (A : own_A Z h a .int vs) (hj : j.toInt = (i : Int)) (hi : i < vs.length) (ha : n0 ≤ a)
    (k : ∀ h', Wr h h' a i (.int x) → own_A Z h' a .int (vs.set i (.int x)) → own_V l Z n0 R own nm cod mxl rt Q h' cells slots pc' L S) : own_V l Z n0 R own nm cod mxl rt Q h cells slots pc L (.int x :: .int j :: .ref a :: S) := by
  obtain ⟨d, rfl⟩ := d
  have A0 := A
  obtain ⟨cl, A1, rfl, r⟩ := A
  obtain ⟨q1, rfl⟩ := own_nat hj
  have hin : ¬ (j < 0 ∨ cl.slots.size ≤ j.toNatClampNeg) := fun q => q.elim q1 fun q => by simp at hi; omega
  refine own_stepC (F := fun h' S' => Wr h h' a j.toNatClampNeg (.int x) ∧ S' = S) (fun hx hZ hby _ hown hnm X eT N => ?_) (by rintro h' S' ⟨W, rfl⟩; exact k h' W (own_A.set W A0))
  obtain ⟨T', h', X', e', W', st⟩ := stI X hx hZ eT A1 hin (g := mkF _ pc L (.int x :: .int j :: .ref a :: S)) rfl rfl (hb hby d)
  subst e'
  exact ⟨T', _, _, ⟨W', rfl⟩, X', Fr.snoc X' N ha, st⟩
theorem own_lastore {a : Addr} {vs : List Value} {j : Int32} {i : Nat} {x : Int64} (d : own_D cod pc (.lastore) 1 pc') (A : own_A Z h a .long vs) (hj : j.toInt = (i : Int)) (hi : i < vs.length) (ha : n0 ≤ a)
    (k : ∀ h', Wr h h' a i (.long x) → own_A Z h' a .long (vs.set i (.long x)) → own_V l Z n0 R own nm cod mxl rt Q h' cells slots pc' L S) : own_V l Z n0 R own nm cod mxl rt Q h cells slots pc L (.long x :: .int j :: .ref a :: S) := by
  obtain ⟨d, rfl⟩ := d
  have A0 := A
  obtain ⟨cl, A1, rfl, r⟩ := A
  obtain ⟨q1, rfl⟩ := own_nat hj
  have hin : ¬ (j < 0 ∨ cl.slots.size ≤ j.toNatClampNeg) := fun q => q.elim q1 fun q => by simp at hi; omega
  refine own_stepC (F := fun h' S' => Wr h h' a j.toNatClampNeg (.long x) ∧ S' = S) (fun hx hZ hby _ hown hnm X eT N => ?_) (by rintro h' S' ⟨W, rfl⟩; exact k h' W (own_A.set W A0))
  obtain ⟨T', h', X', e', W', st⟩ := stJ X hx hZ eT A1 hin (g := mkF _ pc L (.long x :: .int j :: .ref a :: S)) rfl rfl (hb hby d)
  subst e'
  exact ⟨T', _, _, ⟨W', rfl⟩, X', Fr.snoc X' N ha, st⟩
theorem own_castore {a : Addr} {vs : List Value} {j : Int32} {i : Nat} {x : Int32} (d : own_D cod pc (.castore) 1 pc') (A : own_A Z h a .char vs) (hj : j.toInt = (i : Int)) (hi : i < vs.length) (ha : n0 ≤ a)
    (k : ∀ h', Wr h h' a i (.int (nar .char x)) → own_A Z h' a .char (vs.set i (.int (nar .char x))) → own_V l Z n0 R own nm cod mxl rt Q h' cells slots pc' L S) : own_V l Z n0 R own nm cod mxl rt Q h cells slots pc L (.int x :: .int j :: .ref a :: S) := by
  obtain ⟨d, rfl⟩ := d
  have A0 := A
  obtain ⟨cl, A1, rfl, r⟩ := A
  obtain ⟨q1, rfl⟩ := own_nat hj
  have hin : ¬ (j < 0 ∨ cl.slots.size ≤ j.toNatClampNeg) := fun q => q.elim q1 fun q => by simp at hi; omega
  refine own_stepC (F := fun h' S' => Wr h h' a j.toNatClampNeg (.int (nar .char x)) ∧ S' = S) (fun hx hZ hby _ hown hnm X eT N => ?_) (by rintro h' S' ⟨W, rfl⟩; exact k h' W (own_A.set W A0))
  obtain ⟨T', h', X', e', W', st⟩ := stC X hx hZ eT A1 hin (g := mkF _ pc L (.int x :: .int j :: .ref a :: S)) rfl rfl (hb hby d)
  subst e'
  exact ⟨T', _, _, ⟨W', rfl⟩, X', Fr.snoc X' N ha, st⟩
theorem own_bastore {a : Addr} {vs : List Value} {j : Int32} {i : Nat} {x : Int32} (d : own_D cod pc (.bastore) 1 pc') (A : own_A Z h a .byte vs) (hj : j.toInt = (i : Int)) (hi : i < vs.length) (ha : n0 ≤ a)
    (k : ∀ h', Wr h h' a i (.int (nar .byte x)) → own_A Z h' a .byte (vs.set i (.int (nar .byte x))) → own_V l Z n0 R own nm cod mxl rt Q h' cells slots pc' L S) : own_V l Z n0 R own nm cod mxl rt Q h cells slots pc L (.int x :: .int j :: .ref a :: S) := by
  obtain ⟨d, rfl⟩ := d
  have A0 := A
  obtain ⟨cl, A1, rfl, r⟩ := A
  obtain ⟨q1, rfl⟩ := own_nat hj
  have hin : ¬ (j < 0 ∨ cl.slots.size ≤ j.toNatClampNeg) := fun q => q.elim q1 fun q => by simp at hi; omega
  refine own_stepC (F := fun h' S' => Wr h h' a j.toNatClampNeg (.int (nar .byte x)) ∧ S' = S) (fun hx hZ hby _ hown hnm X eT N => ?_) (by rintro h' S' ⟨W, rfl⟩; exact k h' W (own_A.set W A0))
  obtain ⟨T', h', X', e', W', st⟩ := stB X hx hZ eT A1 hin (g := mkF _ pc L (.int x :: .int j :: .ref a :: S)) rfl rfl (hb hby d)
  subst e'
  exact ⟨T', _, _, ⟨W', rfl⟩, X', Fr.snoc X' N ha, st⟩
theorem own_newarr {aty : ArrayType} {n : Int32} {i cells' slots' : Nat} (d : own_D cod pc (.newarray aty) 2 pc') (w : (Cond.arrayClass (newarray.typeOf aty)).before a0 Z = true) (hn : n.toInt = (i : Int)) {cap : Nat} (hcap : i ≤ cap) (hcb : cap * 8 ≤ 536870912) (hc : cells + 1 = cells') (hs : slots + cap = slots') (hc' : cells' ≤ R.cells) (hs' : slots' ≤ R.slots)
    (k : ∀ h', Ext h h' → own_A Z h' h.size (newarray.typeOf aty) (List.replicate i (defaultValue (newarray.typeOf aty))) → own_V l Z n0 R own nm cod mxl rt Q h' cells' slots' pc' L (.ref h.size :: S)) : own_V l Z n0 R own nm cod mxl rt Q h cells slots pc L (.int n :: S) := by
  obtain ⟨d, rfl⟩ := d
  subst hc hs
  obtain ⟨q1, rfl⟩ := own_nat hn
  refine own_stepC (F := fun h' S' => (Ext h h' ∧ own_A Z h' h.size (newarray.typeOf aty) (List.replicate n.toNatClampNeg (defaultValue (newarray.typeOf aty)))) ∧ S' = .ref h.size :: S) (fun hx hZ hby _ hown _ X eT N => ?_) (by rintro h' S' ⟨⟨q1, q2⟩, rfl⟩; exact k h' q1 q2)
  obtain ⟨T', h', cA, X', e', E', A', st⟩ := newP X hx hZ w eT (g := mkF _ pc L (.int n :: S)) rfl (hb hby d) rfl q1 hcap hcb hc' hs'
  subst e'
  refine ⟨T', _, _, ⟨⟨E', _, A', by simp [newA], ?_⟩, rfl⟩, X', N, st⟩
  simp; have := (back32 q1).2; omega
theorem own_ord {args : Array Value} {s : State} {C n ds O f dd : String} {a : Addr} {k : Int32} (ev : (Term.static C n ds).eval args s none [] s = some (.ref a)) (ho : (Jvm.Cond.eq (.field (.static C n ds) O f dd) (.int k)).value args s none s [] = some true) : s.fieldOf? a O f dd = some (.int k) := by
  obtain ⟨x, y, h1, h2, hk, -⟩ := cmp_v (Or.inl ho)
  have e1 : y = .int k := Option.some.inj (h2.symm.trans (Term.int_eval k))
  subst e1
  have h3 := h1
  rw [fld_at ev] at h3
  cases x <;> simp [Kin, Value.isRef] at hk
  rename_i z
  have : z = k := by simpa [Jvm.Cond.value, h1, h2] using ho
  rw [h3, this]
theorem own_fne {C n ds : String} {a b : Addr} {v w : Value} (F : Fld Z h a C n ds v) (G : Fld Z h b C n ds w) (hne : v ≠ w) : a ≠ b := by
  rintro rfl
  obtain ⟨c1, cf1, k1, i1, f1, h1, h2, -, -, -, -, h7⟩ := F
  obtain ⟨c2, cf2, k2, i2, f2, g1, g2, -, -, -, -, g7⟩ := G
  cases h1.symm.trans g1
  cases h2.symm.trans g2
  exact hne (Option.some.inj (h7.symm.trans g7))
theorem own_alen {args : Array Value} {s : State} {t : Term} {a : Addr} {cl : Cell} {ty : FieldType} {n : Int32} (ev : t.eval args s none [] s = some (.ref a)) (A : Arr s s.heap a cl ty) (hl : (Jvm.Cond.eq (.length t) (.int n)).value args s none s [] = some true) : (cl.slots.size : Int) = n.toInt ∧ cl.slots.size < 2 ^ 31 := by
  obtain ⟨x, y, h1, h2, -, -⟩ := cmp_v (Or.inl hl)
  have e1 : y = .int n := Option.some.inj (h2.symm.trans (Term.int_eval n))
  subst e1
  have q := h1
  simp only [Term.eval, ev, A.fin (Vm.Alike.refl _), Option.bind_eq_bind, Option.bind_some] at q
  split at q
  · rename_i hlt
    cases q
    have e2 : cl.slots.size.toInt32 = n := by simpa [Jvm.Cond.value, h1, h2] using hl
    exact ⟨by rw [← e2, len_toInt hlt], hlt⟩
  · cases q
theorem own_ael {args : Array Value} {s : State} {t : Term} {a b : Addr} {cl : Cell} {C n ds : String} {j : Int32} (ev : t.eval args s none [] s = some (.ref a)) (hc : s.heap[a]? = some cl) (ev2 : (Term.static C n ds).eval args s none [] s = some (.ref b)) (he : (Jvm.Cond.eq (.elem t (.int j)) (.static C n ds)).value args s none s [] = some true) : cl.slots[j.toNatClampNeg]? = some (.ref b) := by
  obtain ⟨x, y, h1, h2, hk, hk2⟩ := cmp_v (Or.inl he)
  have e1 : y = .ref b := Option.some.inj (h2.symm.trans ev2)
  subst e1
  have e2 := (elem_in h1 ev (Term.int_eval j) hc).2
  have hx : x.isRef = true := by cases x <;> simp [Kin, Value.isRef] at hk hk2 ⊢
  rw [e2, gotT (eq_R h1 h2 hx rfl) he]
theorem own_callU {index : Nat} {y z : MethodName} {C owner : String} {cod' : ByteArray} {mxl' : Nat} {rt' : Option FieldType} {R' : Room} {Q' : Option Value → Heap → Prop} {L0 : Array Slot} {a : Addr} {argsL rest : List Value} {W cells' slots' : Nat} {ps : List FieldType} {r : Option FieldType}
    (k0 : own_V l Z n0 R' z.cls z.name cod' mxl' rt' Q' h 0 0 0 L0 []) (hef : ∀ m, entryFrame m (.ref a :: argsL).toArray mxl' = mkF m 0 L0 []) (hpl : plainFor z = true) (hpd : parseMethodDescriptor y.desc = some ⟨ps, r⟩) (hl : argsL.length = ps.length) (E : Exa Z h a C)
    (d : own_D cod pc (.invokevirtual index) 3 pc') (w1 : (Cond.methodLink own index y).before a0 Z = true) (w2 : (Cond.sameMethod y.cls owner y.name y.desc).before a0 Z = true) (w2' : (Cond.declares ⟨owner, y.name, y.desc⟩).before a0 Z = true) (w3 : (Cond.selects C y z).before a0 Z = true) (w4 : (Cond.instanceMethod z).before a0 Z = true) (w5 : (Cond.code z cod' mxl' rt').before a0 Z = true) (w6 : (Cond.initialized z.cls).before a0 Z = true)
    (hy : owner ≠ "java/lang/invoke/MethodHandle" ∧ owner ≠ "java/lang/invoke/VarHandle") (hS : S = argsL.reverse ++ .ref a :: rest) (hsz : L.size = mxl) (hW : (rest.map fun v => v.category).sum ≤ W)
    (hf : R'.frames + 1 ≤ R.frames) (hlo : W + (mxl' + 11) + R'.locals ≤ R.locals) (hc : cells + R'.cells = cells') (hs : slots + R'.slots = slots') (hc' : cells' ≤ R.cells) (hs' : slots' ≤ R.slots)
    (k : ∀ v h', Q' v h' → own_V l Z n0 R own nm cod mxl rt Q h' cells' slots' pc' L (v.toList ++ rest)) : own_V l Z n0 R own nm cod mxl rt Q h cells slots pc L S := by
  obtain ⟨d, rfl⟩ := d
  subst hc hs
  refine own_stepC (F := fun h' S' => ∃ v, Q' v h' ∧ S' = v.toList ++ rest) (fun {p e s m args below meth c T locs} hx hZ hby hml hown _ X eT N => ?_) (by rintro h' _ ⟨v, q, rfl⟩; exact k v h' q)
  obtain ⟨cq, kq, q1, q2, q3⟩ := isOf hZ eT E
  obtain ⟨v, vm1, ⟨T', L1, k1, n1⟩, -, X', ⟨Lc, hQ, l1, y1, z1⟩, st⟩ := X.virtualBackUp hx (x := y) (y := z) (owner := owner) hown (mvT hZ w1) (mvT hZ w2) (mvT hZ w2') hy (mvT hZ w3) (mvT hZ w4) (backOf (W := W) (Q := fun v h L => Q' v h ∧ Fr n0 L) (own_met hpl hef k0 []) hZ w5 w6 hf hlo) q1 q3 (g := mkF m pc L S) rfl (by rw [hml]; exact hsz) (Steps.refl _) (argsL := argsL) (rest := rest) (lenOf hpd hl) hS (by show 2 * 0 + _ ≤ _; simpa using hW) (hb hby d) (fun _ _ => ⟨rfl, eT, hc', hs'⟩)
  dsimp only [Pt.U, Pt.locs, Pt.cells, Pt.slots] at X' l1 y1 z1 st hQ
  subst l1 y1 z1
  exact ⟨T', _, _, ⟨v, hQ.1, rfl⟩, X', Fr.app N hQ.2, fun _ q => st.trans q⟩
/-- an array of references of the class C -/
def own_R (Z : State) (h : Heap) (a : Addr) (C : String) (vs : List Value) : Prop := ∃ cl : Cell, Arr Z h a cl (.object C) ∧ Ovr Z cl.cls C ∧ cl.slots.toList = vs ∧ vs.length < 2 ^ 31
theorem own_R.A {a : Addr} {C : String} {vs : List Value} (A : own_R Z h a C vs) : own_A Z h a (.object C) vs := by obtain ⟨cl, A1, _, r⟩ := A; exact ⟨cl, A1, r⟩
theorem own_R.ext {h' : Heap} {a : Addr} {C : String} {vs : List Value} (E : Ext h h') (A : own_R Z h a C vs) : own_R Z h' a C vs := by obtain ⟨cl, A1, r⟩ := A; exact ⟨cl, A1.ext E, r⟩
theorem own_R.other {h' : Heap} {a b : Addr} {sl : Nat} {v : Value} {C : String} {vs : List Value} (W : Wr h h' b sl v) (A : own_R Z h a C vs) (hne : a ≠ b) : own_R Z h' a C vs := by obtain ⟨cl, A1, r⟩ := A; exact ⟨cl, A1.other W hne, r⟩
theorem own_R.keep {h' : Heap} {a : Addr} {C : String} {vs : List Value} {ws : List Addr} (A : own_R Z h a C vs) (K : Keep h h' ws) (hne : a ∉ ws) : own_R Z h' a C vs := by obtain ⟨cl, A1, r⟩ := A; exact ⟨cl, ⟨K.2.1 _ _ A1.1 hne, A1.2⟩, r⟩
theorem own_R.lt {a : Addr} {C : String} {vs : List Value} (A : own_R Z h a C vs) : a < h.size := by obtain ⟨cl, A1, r⟩ := A; exact A1.lt
theorem own_R.set {h' : Heap} {a : Addr} {i : Nat} {v : Value} {C : String} {vs : List Value} (W : Wr h h' a i v) (A : own_R Z h a C vs) : own_R Z h' a C (vs.set i v) := by
  obtain ⟨cl, A1, o, rfl, r⟩ := A
  exact ⟨_, A1.same W, o, by simp [Cell.setSlot], by simpa using r⟩
theorem own_newref {i : Nat} {C : String} {n : Int32} {j cells' slots' : Nat} (d : own_D cod pc (.anewarray i) 3 pc') (w1 : (Cond.classLink own i C).before a0 Z = true) (w2 : (Cond.arrayOver (.object C)).before a0 Z = true) (hn : n.toInt = (j : Int)) {cap : Nat} (hcap : j ≤ cap) (hcb : cap * 8 ≤ 536870912) (hc : cells + 1 = cells') (hs : slots + cap = slots') (hc' : cells' ≤ R.cells) (hs' : slots' ≤ R.slots)
    (k : ∀ h', Ext h h' → own_R Z h' h.size C (List.replicate j .null) → own_V l Z n0 R own nm cod mxl rt Q h' cells' slots' pc' L (.ref h.size :: S)) : own_V l Z n0 R own nm cod mxl rt Q h cells slots pc L (.int n :: S) := by
  obtain ⟨d, rfl⟩ := d
  subst hc hs
  obtain ⟨q1, rfl⟩ := own_nat hn
  refine own_stepC (F := fun h' S' => (Ext h h' ∧ own_R Z h' h.size C (List.replicate n.toNatClampNeg .null)) ∧ S' = .ref h.size :: S) (fun hx hZ hby _ hown _ X eT N => ?_) (by rintro h' S' ⟨⟨q1, q2⟩, rfl⟩; exact k h' q1 q2)
  obtain ⟨T', h', cA, X', e', E', A', O', st⟩ := newR X hx hZ hown w1 w2 eT (g := mkF _ pc L (.int n :: S)) rfl (hb hby d) rfl q1 hcap hcb hc' hs'
  subst e'
  refine ⟨T', _, _, ⟨⟨E', _, A', O', by simp [newA, defaultValue], ?_⟩, rfl⟩, X', N, st⟩
  simp; have := (back32 q1).2; omega
theorem own_aastore {a : Addr} {C : String} {vs : List Value} {j : Int32} {i : Nat} {v : Value} (d : own_D cod pc (.aastore) 1 pc') (A : own_R Z h a C vs) (hj : j.toInt = (i : Int)) (hi : i < vs.length) (hv : v = .null ∨ ∃ y, v = .ref y ∧ Ins Z h y C true) (ha : n0 ≤ a)
    (k : ∀ h', Wr h h' a i v → own_R Z h' a C (vs.set i v) → own_V l Z n0 R own nm cod mxl rt Q h' cells slots pc' L S) : own_V l Z n0 R own nm cod mxl rt Q h cells slots pc L (v :: .int j :: .ref a :: S) := by
  obtain ⟨d, rfl⟩ := d
  have A0 := A
  obtain ⟨cl, A1, O1, rfl, r⟩ := A
  obtain ⟨q1, rfl⟩ := own_nat hj
  have hin : ¬ (j < 0 ∨ cl.slots.size ≤ j.toNatClampNeg) := fun q => q.elim q1 fun q => by simp at hi; omega
  have F : Sto Z h a v := by
    rcases hv with rfl | ⟨y, rfl, I⟩
    · exact Or.inl rfl
    · exact Sto.of A1 O1 I
  refine own_stepC (F := fun h' S' => Wr h h' a j.toNatClampNeg v ∧ S' = S) (fun hx hZ hby _ hown hnm X eT N => ?_) (by rintro h' S' ⟨W, rfl⟩; exact k h' W (own_R.set W A0))
  obtain ⟨T', h', X', e', W', st⟩ := stR X hx hZ eT A1 hin rfl F (g := mkF _ pc L (v :: .int j :: .ref a :: S)) rfl rfl (hb hby d)
  subst e'
  exact ⟨T', _, _, ⟨W', rfl⟩, X', Fr.snoc X' N ha, st⟩
theorem own_tsw {df lo hi o : Int} {offs : Array Int} {n t : Nat} {x : Int32} (d : own_D cod pc (.tableswitch df lo hi offs) n pc') (hin : lo ≤ x.toInt ∧ x.toInt ≤ hi) (ho : offs[(x.toInt - lo).toNat]? = some o) (h1 : 0 ≤ (pc : Int) + o) (h2 : ((pc : Int) + o).toNat = t) (k : own_V l Z n0 R own nm cod mxl rt Q h cells slots t L S) : own_V l Z n0 R own nm cod mxl rt Q h cells slots pc L (.int x :: S) := by
  obtain ⟨d, -⟩ := d
  exact own_step (fun hx _ hby _ X _ _ q => XS.tswIn X.here hx rfl rfl (hb hby d) rfl (by omega) ho h1 h2 q) k
theorem own_catR {v : Value} (q : v.isRef = true) : v.category = 1 := by rcases ref_cases q with rfl | ⟨a, rfl⟩ <;> rfl
theorem own_skeep {h' : Heap} {C n ds : String} {v : Value} (F : Sta Z h C n ds v) (K : Keep h h' []) : Sta Z h' C n ds v := by
  obtain ⟨cf, i, k, f, st, cell, h1, h2, h3, h4, h5, h6, h7⟩ := F
  exact ⟨cf, i, k, f, st, cell, h1, h2, h3, h4, K.2.1 _ _ h5 (by simp), h6, h7⟩
theorem own_instY {i : Nat} {K : String} {a : Addr} (d : own_D cod pc (.instanceof i) 3 pc') (w : (Cond.classLink own i K).before a0 Z = true) (I : Ins Z h a K true) (k : own_V l Z n0 R own nm cod mxl rt Q h cells slots pc' L (.int 1 :: S)) : own_V l Z n0 R own nm cod mxl rt Q h cells slots pc L (.ref a :: S) := by
  obtain ⟨d, rfl⟩ := d
  refine own_stepC (F := fun h' S' => h' = h ∧ S' = .int 1 :: S) (fun hx hZ hby _ hown _ X eT N => ?_) (by rintro h' S' ⟨rfl, rfl⟩; exact k)
  obtain ⟨T', X', e', st⟩ := instY X hx hZ hown w eT I (g := mkF _ pc L (.ref a :: S)) rfl rfl (hb hby d)
  exact ⟨T', _, _, ⟨e', rfl⟩, X', N, st⟩
theorem own_instNull {i : Nat} (d : own_D cod pc (.instanceof i) 3 pc') (k : own_V l Z n0 R own nm cod mxl rt Q h cells slots pc' L (.int 0 :: S)) : own_V l Z n0 R own nm cod mxl rt Q h cells slots pc L (.null :: S) := by
  obtain ⟨d, rfl⟩ := d
  exact own_step (fun hx _ hby _ X _ _ q => X.instanceofNull hx (g := mkF _ pc L (.null :: S)) rfl rfl (hb hby d) _ q) k
theorem own_castY {i : Nat} {K : String} {a : Addr} (d : own_D cod pc (.checkcast i) 3 pc') (w : (Cond.classLink own i K).before a0 Z = true) (I : Ins Z h a K true) (k : own_V l Z n0 R own nm cod mxl rt Q h cells slots pc' L (.ref a :: S)) : own_V l Z n0 R own nm cod mxl rt Q h cells slots pc L (.ref a :: S) := by
  obtain ⟨d, rfl⟩ := d
  refine own_stepC (F := fun h' S' => h' = h ∧ S' = .ref a :: S) (fun hx hZ hby _ hown _ X eT N => ?_) (by rintro h' S' ⟨rfl, rfl⟩; exact k)
  obtain ⟨T', X', e', st⟩ := castY X hx hZ hown w eT I (g := mkF _ pc L (.ref a :: S)) rfl rfl (hb hby d)
  exact ⟨T', _, _, ⟨e', rfl⟩, X', N, st⟩
theorem own_castNull {i : Nat} (d : own_D cod pc (.checkcast i) 3 pc') (k : own_V l Z n0 R own nm cod mxl rt Q h cells slots pc' L (.null :: S)) : own_V l Z n0 R own nm cod mxl rt Q h cells slots pc L (.null :: S) := by
  obtain ⟨d, rfl⟩ := d
  exact own_step (fun hx _ hby _ X _ _ q => X.checkcastNull hx (g := mkF _ pc L (.null :: S)) rfl rfl (hb hby d) _ q) k
end OwnKit
/-! THE HELD KIT: the same over wide walks; J: what is carried of the tables and the heap -/
def hel_V (l : Launch) (Z : State) (n0 : Nat) (J : Vm → Heap → Prop) (R : Room) (own nm : String) (cod : ByteArray) (mxl : Nat) (rt : Option FieldType) (Q : Option Value → Heap → Prop)
    (h : Heap) (cells slots : Nat) (pc : Nat) (L : Array Slot) (S : List Value) : Prop :=
  ∀ (p : Program) (e : Env) (s : State) (vm0 : Vm) (k0 : Nat) (m : MethodId) (args : Array Value) (below : List Frame) (meth : Method) (c : Code) (T : State) (locs : List Loc),
    p.tables.exec = Jvm.exec → Z.Warmed39 vm0 → c.code = cod → c.maxLocals = mxl → vm0.findClass own = some m.cls → meth.sig.returnType = rt → meth.name = nm → meth.locks = false →
    Stand p l e R (s.setVm vm0) m args below meth c T locs cells slots → T.heap = h → Fr n0 locs → s.Since vm0 k0 → k0 ≤ h.size → J vm0 h →
    ∃ s₂ o, Steps p.tables e below (T.setTop (mkF m pc L S)) s₂ ∧ s₂.status = .running ∧ Ended s₂ below o ∧ ∃ v Lc, o = .returned v ∧ (Q v s₂.heap ∧ Fr n0 Lc) ∧ ReturnedEndW s o s₂ Lc R.cells R.slots
def hel_J (Z : State) (EL : List (String × Nat)) (n0 : Nat) : Vm → Heap → Prop := fun vm h => CHv Z EL vm h ∧ ∀ x, n0 ≤ x → Safe Z EL vm h x
def hel_J2 (Z : State) (EL : List (String × Nat)) (x : Addr) : Vm → Heap → Prop := fun vm h => CHv Z EL vm h ∧ x < h.size ∧ Safe Z EL vm h x
section HelKit
variable {l : Launch} {Z : State} {n0 : Nat} {EL : List (String × Nat)} {J : Vm → Heap → Prop} {R : Room} {own nm : String} {cod : ByteArray} {mxl : Nat} {rt : Option FieldType} {Q : Option Value → Heap → Prop} {h : Heap} {cells slots pc pc' : Nat} {L L' : Array Slot} {S S' : List Value} {a0 : Array Value}
theorem hel_J.ext {vm : Vm} {h' : Heap} (E : Ext h h') (q : hel_J Z EL n0 vm h) : hel_J Z EL n0 vm h' := ⟨q.1.ext E, fun x hx => (q.2 x hx).ext E q.1⟩
theorem hel_J.at {p : Program} {e : Env} {s : State} {m : MethodId} {args : Array Value} {below : List Frame} {meth : Method} {c : Code} {T : State} {locs : List Loc} {vm0 : Vm} (X : Stand p l e R (s.setVm vm0) m args below meth c T locs cells slots) (hZ : Z.Warmed39 vm0) (w : EW Z a0 EL) (q : hel_J Z EL n0 vm0 h) : hel_J Z EL n0 T.vm h := by
  have A := CHv.at X hZ w q.1
  refine ⟨A.1, fun x hx B => ?_⟩
  rcases A.2.2 x B with r | r
  · exact q.2 x hx r
  · exact Safe.new r B
theorem hel_J.two {vm : Vm} {x : Addr} (q : hel_J Z EL n0 vm h) (h1 : n0 ≤ x) (h2 : x < h.size) : hel_J2 Z EL x vm h := ⟨q.1, h2, q.2 x h1⟩
theorem hel_J2.wr {vm : Vm} {h' : Heap} {x : Addr} {sl : Nat} {v : Value} (W : Wr h h' x sl v) (q : hel_J2 Z EL x vm h) : hel_J2 Z EL x vm h' := ⟨q.1.wr W q.2.2, by rw [Wr.size W]; exact q.2.1, q.2.2.wr W q.1 q.2.2⟩
/-- the rest of the walk is a narrow one -/
theorem hel_of {Q' : Option Value → Heap → Prop} (k : own_V l Z n0 R own nm cod mxl rt Q' h cells slots pc L S) (hQ : ∀ v h', Q' v h' → h.size ≤ h'.size ∧ Q v h') : hel_V l Z n0 J R own nm cod mxl rt Q h cells slots pc L S := by
  intro p e s vm0 k0 m args below meth c T locs hx hZ hby hml hown hret hnm hlk X eT N hS hk hJ
  obtain ⟨s₂, o, h1, h2, h3, v, Lc, rfl, ⟨q1, q2⟩, ⟨r1, r2, r3⟩⟩ := k p e (s.setVm vm0) m args below meth c T locs hx hZ hby hml hown hret hnm hlk X eT N
  obtain ⟨w1, w2, w3⟩ := hS.ended r2 (Nat.le_trans hk (hQ _ _ q1).1) r3
  exact ⟨s₂, _, h1, h2, h3, v, Lc, rfl, ⟨(hQ _ _ q1).2, q2⟩, ⟨_, rfl⟩, w1, w2, w3⟩
theorem hel_step (st : ∀ {p : Program} {e : Env} {s : State} {m : MethodId} {args : Array Value} {below : List Frame} {meth : Method} {c : Code} {T : State} {locs : List Loc}, p.tables.exec = Jvm.exec → Z.Warmed39 s.vm → c.code = cod → s.vm.findClass own = some m.cls →
      Stand p l e R s m args below meth c T locs cells slots → T.heap = h → ∀ {target : State}, Steps p.tables e below (T.setTop (mkF m pc' L' S')) target → Steps p.tables e below (T.setTop (mkF m pc L S)) target)
    (k : hel_V l Z n0 J R own nm cod mxl rt Q h cells slots pc' L' S') : hel_V l Z n0 J R own nm cod mxl rt Q h cells slots pc L S := by
  intro p e s vm0 k0 m args below meth c T locs hx hZ hby hml hown hret hnm hlk X eT N hS hk hJ
  obtain ⟨s₂, o, h1, r⟩ := k p e s vm0 k0 m args below meth c T locs hx hZ hby hml hown hret hnm hlk X eT N hS hk hJ
  exact ⟨s₂, o, st (s := s.setVm vm0) hx hZ hby hown X eT h1, r⟩
theorem hel_stepC {F : Heap → List Value → Prop} {cells' slots' : Nat} (st : ∀ {p : Program} {e : Env} {s : State} {m : MethodId} {args : Array Value} {below : List Frame} {meth : Method} {c : Code} {T : State} {locs : List Loc}, p.tables.exec = Jvm.exec → Z.Warmed39 s.vm → c.code = cod → c.maxLocals = mxl → s.vm.findClass own = some m.cls → meth.name = nm →
      Stand p l e R s m args below meth c T locs cells slots → T.heap = h → Fr n0 locs →
      ∃ (T' : State) (locs' : List Loc) (S' : List Value), F T'.heap S' ∧ Stand p l e R s m args below meth c T' locs' cells' slots' ∧ Fr n0 locs' ∧ h.size ≤ T'.heap.size ∧ ∀ target, Steps p.tables e below (T'.setTop (mkF m pc' L' S')) target → Steps p.tables e below (T.setTop (mkF m pc L S)) target)
    (hJF : ∀ vm h' S', F h' S' → J vm h → J vm h') (k : ∀ h' S', F h' S' → hel_V l Z n0 J R own nm cod mxl rt Q h' cells' slots' pc' L' S') : hel_V l Z n0 J R own nm cod mxl rt Q h cells slots pc L S := by
  intro p e s vm0 k0 m args below meth c T locs hx hZ hby hml hown hret hnm hlk X eT N hS hk hJ
  obtain ⟨T', locs', S', f, X', N', g', st'⟩ := st (s := s.setVm vm0) hx hZ hby hml hown hnm X eT N
  obtain ⟨s₂, o, h1, r⟩ := k _ _ f p e s vm0 k0 m args below meth c T' locs' hx hZ hby hml hown hret hnm hlk X' rfl N' hS (Nat.le_trans hk g') (hJF _ _ _ f hJ)
  exact ⟨s₂, o, st' _ h1, r⟩
theorem hel_iload {j : Nat} {x : Int32} (d : own_D cod pc (.iload j) 2 pc') (hl : L[j]? = some (.val (.int x))) (k : hel_V l Z n0 J R own nm cod mxl rt Q h cells slots pc' L (.int x :: S)) : hel_V l Z n0 J R own nm cod mxl rt Q h cells slots pc L (S) := by
  obtain ⟨d, rfl⟩ := d
  exact hel_step (fun hx _ hby _ X _ _ q => XS.iload X.here hx rfl (hb hby d) hl q) k
theorem hel_iloadN {j : Fin 4} {x : Int32} (d : own_D cod pc (.iload_n j) 1 pc') (hl : L[j.val]? = some (.val (.int x))) (k : hel_V l Z n0 J R own nm cod mxl rt Q h cells slots pc' L (.int x :: S)) : hel_V l Z n0 J R own nm cod mxl rt Q h cells slots pc L (S) := by
  obtain ⟨d, rfl⟩ := d
  exact hel_step (fun hx _ hby _ X _ _ q => XS.iloadN X.here hx rfl (hb hby d) hl q) k
theorem hel_aload {j : Nat} {x : Value} (d : own_D cod pc (.aload j) 2 pc') (hl : L[j]? = some (.val x)) (hv : x.isRef = true) (k : hel_V l Z n0 J R own nm cod mxl rt Q h cells slots pc' L (x :: S)) : hel_V l Z n0 J R own nm cod mxl rt Q h cells slots pc L (S) := by
  obtain ⟨d, rfl⟩ := d
  exact hel_step (fun hx _ hby _ X _ _ q => XS.aload X.here hx rfl (hb hby d) hl hv q) k
theorem hel_aloadN {j : Fin 4} {x : Value} (d : own_D cod pc (.aload_n j) 1 pc') (hl : L[j.val]? = some (.val x)) (hv : x.isRef = true) (k : hel_V l Z n0 J R own nm cod mxl rt Q h cells slots pc' L (x :: S)) : hel_V l Z n0 J R own nm cod mxl rt Q h cells slots pc L (S) := by
  obtain ⟨d, rfl⟩ := d
  exact hel_step (fun hx _ hby _ X _ _ q => XS.aloadN X.here hx rfl (hb hby d) hl hv q) k
theorem hel_istore {j : Nat} {x : Int32} (d : own_D cod pc (.istore j) 2 pc') (hl : storeLocals L j (.int x) = some L') (k : hel_V l Z n0 J R own nm cod mxl rt Q h cells slots pc' L' S) : hel_V l Z n0 J R own nm cod mxl rt Q h cells slots pc L (.int x :: S) := by
  obtain ⟨d, rfl⟩ := d
  exact hel_step (fun hx _ hby _ X _ _ q => XS.istore X.here hx rfl (hb hby d) rfl hl q) k
theorem hel_istoreN {j : Fin 4} {x : Int32} (d : own_D cod pc (.istore_n j) 1 pc') (hl : storeLocals L j.val (.int x) = some L') (k : hel_V l Z n0 J R own nm cod mxl rt Q h cells slots pc' L' S) : hel_V l Z n0 J R own nm cod mxl rt Q h cells slots pc L (.int x :: S) := by
  obtain ⟨d, rfl⟩ := d
  exact hel_step (fun hx _ hby _ X _ _ q => XS.istoreN X.here hx rfl (hb hby d) rfl hl q) k
theorem hel_astore {j : Nat} {x : Value} (d : own_D cod pc (.astore j) 2 pc') (hv : x.isRef = true) (hl : storeLocals L j x = some L') (k : hel_V l Z n0 J R own nm cod mxl rt Q h cells slots pc' L' S) : hel_V l Z n0 J R own nm cod mxl rt Q h cells slots pc L (x :: S) := by
  obtain ⟨d, rfl⟩ := d
  exact hel_step (fun hx _ hby _ X _ _ q => XS.astore X.here hx rfl (hb hby d) rfl hv hl q) k
theorem hel_astoreN {j : Fin 4} {x : Value} (d : own_D cod pc (.astore_n j) 1 pc') (hv : x.isRef = true) (hl : storeLocals L j.val x = some L') (k : hel_V l Z n0 J R own nm cod mxl rt Q h cells slots pc' L' S) : hel_V l Z n0 J R own nm cod mxl rt Q h cells slots pc L (x :: S) := by
  obtain ⟨d, rfl⟩ := d
  exact hel_step (fun hx _ hby _ X _ _ q => XS.astoreN X.here hx rfl (hb hby d) rfl hv hl q) k
theorem hel_iconst {i : Int} {x : Int32} (d : own_D cod pc (.iconst i) 1 pc') (hx : Int32.ofInt i = x) (k : hel_V l Z n0 J R own nm cod mxl rt Q h cells slots pc' L (.int x :: S)) : hel_V l Z n0 J R own nm cod mxl rt Q h cells slots pc L S := by
  obtain ⟨d, rfl⟩ := d
  subst hx
  exact hel_step (fun hx _ hby _ X _ _ q => XS.iconst X.here hx rfl (hb hby d) q) k
theorem hel_bipush {i : Int} {x : Int32} (d : own_D cod pc (.bipush i) 2 pc') (hx : (Int8.ofInt i).toInt32 = x) (k : hel_V l Z n0 J R own nm cod mxl rt Q h cells slots pc' L (.int x :: S)) : hel_V l Z n0 J R own nm cod mxl rt Q h cells slots pc L S := by
  obtain ⟨d, rfl⟩ := d
  subst hx
  exact hel_step (fun hx _ hby _ X _ _ q => XS.bipush X.here hx rfl (hb hby d) q) k
theorem hel_sipush {i : Int} {x : Int32} (d : own_D cod pc (.sipush i) 3 pc') (hx : (Int16.ofInt i).toInt32 = x) (k : hel_V l Z n0 J R own nm cod mxl rt Q h cells slots pc' L (.int x :: S)) : hel_V l Z n0 J R own nm cod mxl rt Q h cells slots pc L S := by
  obtain ⟨d, rfl⟩ := d
  subst hx
  exact hel_step (fun hx _ hby _ X _ _ q => XS.sipush X.here hx rfl (hb hby d) q) k
theorem hel_iand {x y : Int32} (d : own_D cod pc (.iand) 1 pc') (k : hel_V l Z n0 J R own nm cod mxl rt Q h cells slots pc' L (.int (x &&& y) :: S)) : hel_V l Z n0 J R own nm cod mxl rt Q h cells slots pc L (.int y :: .int x :: S) := by
  obtain ⟨d, rfl⟩ := d
  exact hel_step (fun hx _ hby _ X _ _ q => XS.iand X.here hx rfl (hb hby d) rfl q) k
theorem hel_ishr {x y : Int32} (d : own_D cod pc (.ishr) 1 pc') (k : hel_V l Z n0 J R own nm cod mxl rt Q h cells slots pc' L (.int (x >>> (y &&& 31)) :: S)) : hel_V l Z n0 J R own nm cod mxl rt Q h cells slots pc L (.int y :: .int x :: S) := by
  obtain ⟨d, rfl⟩ := d
  exact hel_step (fun hx _ hby _ X _ _ q => XS.ishr X.here hx rfl (hb hby d) rfl q) k
theorem hel_iadd {x y : Int32} (d : own_D cod pc (.iadd) 1 pc') (k : hel_V l Z n0 J R own nm cod mxl rt Q h cells slots pc' L (.int (x + y) :: S)) : hel_V l Z n0 J R own nm cod mxl rt Q h cells slots pc L (.int y :: .int x :: S) := by
  obtain ⟨d, rfl⟩ := d
  exact hel_step (fun hx _ hby _ X _ _ q => XS.iadd X.here hx rfl (hb hby d) rfl q) k
theorem hel_isub {x y : Int32} (d : own_D cod pc (.isub) 1 pc') (k : hel_V l Z n0 J R own nm cod mxl rt Q h cells slots pc' L (.int (x - y) :: S)) : hel_V l Z n0 J R own nm cod mxl rt Q h cells slots pc L (.int y :: .int x :: S) := by
  obtain ⟨d, rfl⟩ := d
  exact hel_step (fun hx _ hby _ X _ _ q => XS.isub X.here hx rfl (hb hby d) rfl q) k
theorem hel_irem {x y : Int32} (d : own_D cod pc (.irem) 1 pc') (hy : y ≠ 0) (k : hel_V l Z n0 J R own nm cod mxl rt Q h cells slots pc' L (.int (x % y) :: S)) : hel_V l Z n0 J R own nm cod mxl rt Q h cells slots pc L (.int y :: .int x :: S) := by
  obtain ⟨d, rfl⟩ := d
  exact hel_step (fun hx _ hby _ X _ _ q => iremM X hx rfl (hb hby d) rfl hy q) k
theorem hel_dup {x : Value} (d : own_D cod pc (.dup) 1 pc') (hc : x.category = 1) (k : hel_V l Z n0 J R own nm cod mxl rt Q h cells slots pc' L (x :: x :: S)) : hel_V l Z n0 J R own nm cod mxl rt Q h cells slots pc L (x :: S) := by
  obtain ⟨d, rfl⟩ := d
  exact hel_step (fun hx _ hby _ X _ _ q => XS.dup X.here hx rfl (hb hby d) rfl hc q) k
theorem hel_aconstNull (d : own_D cod pc (.aconst_null) 1 pc') (k : hel_V l Z n0 J R own nm cod mxl rt Q h cells slots pc' L (.null :: S)) : hel_V l Z n0 J R own nm cod mxl rt Q h cells slots pc L (S) := by
  obtain ⟨d, rfl⟩ := d
  exact hel_step (fun hx _ hby _ X _ _ q => XS.aconstNull X.here hx rfl (hb hby d) q) k
theorem hel_goto {o : Int} {t : Nat} (d : own_B cod pc (.goto o) o pc' t) (k : hel_V l Z n0 J R own nm cod mxl rt Q h cells slots t L S) : hel_V l Z n0 J R own nm cod mxl rt Q h cells slots pc L S := by
  obtain ⟨d, -, h1, rfl⟩ := d
  exact hel_step (fun hx _ hby _ X _ _ q => XS.goto X.here hx rfl rfl (hb hby d) h1 rfl q) k
theorem hel_ifB {cd : ClassFile.Cond} {o : Int} {t : Nat} {x : Int32} (d : own_B cod pc (.ifCond cd o) o pc' t) (k1 : if_icmp.holds cd x 0 = true → hel_V l Z n0 J R own nm cod mxl rt Q h cells slots t L S) (k2 : if_icmp.holds cd x 0 = false → hel_V l Z n0 J R own nm cod mxl rt Q h cells slots pc' L S) : hel_V l Z n0 J R own nm cod mxl rt Q h cells slots pc L (.int x :: S) := by
  obtain ⟨d, rfl, h1, rfl⟩ := d
  cases q : if_icmp.holds cd x 0
  · exact hel_step (fun hx _ hby _ X _ _ w => XS.ifNo X.here hx rfl (hb hby d) rfl ((if0 _ _).trans q) w) (k2 q)
  · exact hel_step (fun hx _ hby _ X _ _ w => XS.ifYes X.here hx rfl rfl (hb hby d) rfl ((if0 _ _).trans q) h1 rfl w) (k1 q)
theorem hel_ifEq {o : Int} {t : Nat} {x : Int32} (d : own_B cod pc (.ifCond .eq o) o pc' t) (k1 : x.toInt = (0 : Int) → hel_V l Z n0 J R own nm cod mxl rt Q h cells slots t L S) (k2 : ¬ (x.toInt = (0 : Int)) → hel_V l Z n0 J R own nm cod mxl rt Q h cells slots pc' L S) : hel_V l Z n0 J R own nm cod mxl rt Q h cells slots pc L (.int x :: S) :=
  hel_ifB d (fun q => k1 (own_rifEq.mp q)) (fun q => k2 (by
    have e : ¬ (x.toInt = (0 : Int)) := fun w => by rw [own_rifEq.mpr w] at q; cases q
    first | exact e | exact Decidable.not_not.mp e))
theorem hel_ifNe {o : Int} {t : Nat} {x : Int32} (d : own_B cod pc (.ifCond .ne o) o pc' t) (k1 : ¬ (x.toInt = (0 : Int)) → hel_V l Z n0 J R own nm cod mxl rt Q h cells slots t L S) (k2 : x.toInt = (0 : Int) → hel_V l Z n0 J R own nm cod mxl rt Q h cells slots pc' L S) : hel_V l Z n0 J R own nm cod mxl rt Q h cells slots pc L (.int x :: S) :=
  hel_ifB d (fun q => k1 (own_rifNe.mp q)) (fun q => k2 (by
    have e : ¬ (¬ (x.toInt = (0 : Int))) := fun w => by rw [own_rifNe.mpr w] at q; cases q
    first | exact e | exact Decidable.not_not.mp e))
theorem hel_icmpB {cd : ClassFile.Cond} {o : Int} {t : Nat} {x y : Int32} (d : own_B cod pc (.if_icmp cd o) o pc' t) (k1 : if_icmp.holds cd x y = true → hel_V l Z n0 J R own nm cod mxl rt Q h cells slots t L S) (k2 : if_icmp.holds cd x y = false → hel_V l Z n0 J R own nm cod mxl rt Q h cells slots pc' L S) : hel_V l Z n0 J R own nm cod mxl rt Q h cells slots pc L (.int y :: .int x :: S) := by
  obtain ⟨d, rfl, h1, rfl⟩ := d
  cases q : if_icmp.holds cd x y
  · exact hel_step (fun hx _ hby _ X _ _ w => XS.icmpNo X.here hx rfl (hb hby d) rfl q w) (k2 q)
  · exact hel_step (fun hx _ hby _ X _ _ w => XS.icmpYes X.here hx rfl rfl (hb hby d) rfl q h1 rfl w) (k1 q)
theorem hel_icmpNe {o : Int} {t : Nat} {x y : Int32} (d : own_B cod pc (.if_icmp .ne o) o pc' t) (k1 : ¬ (x.toInt = y.toInt) → hel_V l Z n0 J R own nm cod mxl rt Q h cells slots t L S) (k2 : x.toInt = y.toInt → hel_V l Z n0 J R own nm cod mxl rt Q h cells slots pc' L S) : hel_V l Z n0 J R own nm cod mxl rt Q h cells slots pc L (.int y :: .int x :: S) :=
  hel_icmpB d (fun q => k1 (own_ricmpNe.mp q)) (fun q => k2 (by
    have e : ¬ (¬ (x.toInt = y.toInt)) := fun w => by rw [own_ricmpNe.mpr w] at q; cases q
    first | exact e | exact Decidable.not_not.mp e))
theorem hel_icmpEq {o : Int} {t : Nat} {x y : Int32} (d : own_B cod pc (.if_icmp .eq o) o pc' t) (k1 : x.toInt = y.toInt → hel_V l Z n0 J R own nm cod mxl rt Q h cells slots t L S) (k2 : ¬ (x.toInt = y.toInt) → hel_V l Z n0 J R own nm cod mxl rt Q h cells slots pc' L S) : hel_V l Z n0 J R own nm cod mxl rt Q h cells slots pc L (.int y :: .int x :: S) :=
  hel_icmpB d (fun q => k1 (own_ricmpEq.mp q)) (fun q => k2 (by
    have e : ¬ (x.toInt = y.toInt) := fun w => by rw [own_ricmpEq.mpr w] at q; cases q
    first | exact e | exact Decidable.not_not.mp e))
theorem hel_arrlen {a : Addr} {ty : FieldType} {vs : List Value} {x : Int32} (d : own_D cod pc (.arraylength) 1 pc') (A : own_A Z h a ty vs) (hx : x.toInt = (vs.length : Int)) (k : hel_V l Z n0 J R own nm cod mxl rt Q h cells slots pc' L (.int x :: S)) : hel_V l Z n0 J R own nm cod mxl rt Q h cells slots pc L (.ref a :: S) := by
  obtain ⟨d, rfl⟩ := d
  obtain ⟨cl, A1, rfl, r⟩ := A
  have e : cl.slots.size.toInt32 = x := Int32.toInt_inj.mp (by rw [len_toInt (by simpa using r), hx]; simp)
  subst e
  exact hel_step (fun hx hZ hby _ X eT _ q => X.arraylength hx (by rw [eT]; exact A1.1) (State.isArrayOf_alike hZ.alike A1.2.1) (g := mkF _ pc L (.ref a :: S)) rfl rfl (hb hby d) _ q) k
theorem hel_i2c {x : Int32} (d : own_D cod pc (.i2c) 1 pc') (k : hel_V l Z n0 J R own nm cod mxl rt Q h cells slots pc' L (.int x.toUInt32.toUInt16.toUInt32.toInt32 :: S)) : hel_V l Z n0 J R own nm cod mxl rt Q h cells slots pc L (.int x :: S) := by
  obtain ⟨d, rfl⟩ := d
  exact hel_step (fun hx _ hby _ X _ _ q => XS.i2c X.here hx rfl (hb hby d) rfl q) k
theorem hel_getF {i : Nat} {R0 O n ds : String} {v : Value} {a : Addr} (d : own_D cod pc (.getfield i) 3 pc') (w : (Cond.fieldLink own i R0 n ds).before a0 Z = true) (via : Via Z R0 O n ds) (F : Fld Z h a O n ds v) (k : hel_V l Z n0 J R own nm cod mxl rt Q h cells slots pc' L (v :: S)) : hel_V l Z n0 J R own nm cod mxl rt Q h cells slots pc L (.ref a :: S) := by
  obtain ⟨d, rfl⟩ := d
  refine hel_stepC (F := fun h' S' => h' = h ∧ S' = v :: S) (fun hx hZ hby _ hown _ X eT N => ?_) (by rintro vm h' S' ⟨rfl, rfl⟩ q; exact q) (by rintro h' S' ⟨rfl, rfl⟩; exact k)
  obtain ⟨T', X', e', st⟩ := getF (host := "") X hx hZ hown (Or.inl w) via eT F (g := mkF _ pc L (.ref a :: S)) rfl rfl (hb hby d)
  exact ⟨T', _, _, ⟨e', rfl⟩, X', N, Nat.le_of_eq (by rw [e']), st⟩
theorem hel_putF {i kk : Nat} {R0 O C n ds : String} {v old : Value} {a : Addr} {ty : FieldType} (d : own_D cod pc (.putfield i) 3 pc') (w : (Cond.fieldLink own i R0 n ds).before a0 Z = true) (via : Via Z R0 O n ds) (F : Fld Z h a O n ds old) (E : Exa Z h a C)
    (Lw : (Cond.lays C O n ds).before a0 Z = true ∨ ((Cond.laysFinal C O n ds).before a0 Z = true ∧ own = O ∧ nm = "<init>")) (wi : (Cond.instantiable C kk).before a0 Z = true) (hty : parseFieldDescriptor ds = some ty) (hn : narrow ty v = v) (hf : fits ty v = true) (ha : n0 ≤ a)
    (k : ∀ h', Wr h h' a (Jvm.RoadKit.slotOf Z O n ds) v → hel_V l Z n0 (hel_J2 Z EL a) R own nm cod mxl rt Q h' cells slots pc' L S) : hel_V l Z n0 (hel_J2 Z EL a) R own nm cod mxl rt Q h cells slots pc L (v :: .ref a :: S) := by
  obtain ⟨d, rfl⟩ := d
  refine hel_stepC (F := fun h' S' => Wr h h' a (Jvm.RoadKit.slotOf Z O n ds) v ∧ S' = S) (fun hx hZ hby _ hown hnm X eT N => ?_) (by rintro vm h' S' ⟨W, rfl⟩ q; exact q.wr W) (by rintro h' S' ⟨W, rfl⟩; exact k h' W)
  obtain ⟨T', h', X', e', W', st⟩ := putF (host := "") X hx hZ hown (Or.inl w) via eT F E (Lw.imp id fun q => ⟨q.1, q.2.1, hnm.trans q.2.2⟩) wi hty hn hf (g := mkF _ pc L (v :: .ref a :: S)) rfl rfl (hb hby d)
  subst e'
  exact ⟨T', _, _, ⟨W', rfl⟩, X', Fr.snoc X' N ha, Nat.le_of_eq (Wr.size W').symm, st⟩
theorem hel_new {i n cells' slots' : Nat} {C : String} (d : own_D cod pc (.new i) 3 pc') (w : (Cond.classLink own i C).before a0 Z = true) (wi : (Cond.instantiable C n).before a0 Z = true) (wz : (Cond.initialized C).before a0 Z = true) (hc : cells + 1 = cells') (hs : slots + n = slots') (hc' : cells' ≤ R.cells) (hs' : slots' ≤ R.slots)
    (k : ∀ h', Ext h h' → Exa Z h' h.size C → (∀ {O nf ds : String} {ty : FieldType}, Laid Z a0 C O nf ds → parseFieldDescriptor ds = some ty → Fld Z h' h.size O nf ds (defaultValue ty)) → hel_V l Z n0 (hel_J Z EL n0) R own nm cod mxl rt Q h' cells' slots' pc' L (.ref h.size :: S)) : hel_V l Z n0 (hel_J Z EL n0) R own nm cod mxl rt Q h cells slots pc L S := by
  obtain ⟨d, rfl⟩ := d
  subst hc hs
  refine hel_stepC (F := fun h' S' => (Ext h h' ∧ Exa Z h' h.size C ∧ ∀ {O nf ds : String} {ty : FieldType}, Laid Z a0 C O nf ds → parseFieldDescriptor ds = some ty → Fld Z h' h.size O nf ds (defaultValue ty)) ∧ S' = .ref h.size :: S) (fun hx hZ hby _ hown _ X eT N => ?_) (by rintro vm h' S' ⟨⟨q1, -⟩, -⟩ q; exact q.ext q1) (by rintro h' S' ⟨⟨q1, q2, q3⟩, rfl⟩; exact k h' q1 q2 q3)
  obtain ⟨T', h', X', e', E', A', D', -, st⟩ := newO X hx hZ hown w wi wz eT (g := mkF _ pc L S) rfl (hb hby d) hc' hs'
  subst e'
  exact ⟨T', _, _, ⟨⟨E', A', D'⟩, rfl⟩, X', N, E'.1, st⟩
theorem hel_newarr {aty : ArrayType} {n : Int32} {i cells' slots' : Nat} (d : own_D cod pc (.newarray aty) 2 pc') (w : (Cond.arrayClass (newarray.typeOf aty)).before a0 Z = true) (hn : n.toInt = (i : Int)) {cap : Nat} (hcap : i ≤ cap) (hcb : cap * 8 ≤ 536870912) (hc : cells + 1 = cells') (hs : slots + cap = slots') (hc' : cells' ≤ R.cells) (hs' : slots' ≤ R.slots)
    (k : ∀ h', Ext h h' → own_A Z h' h.size (newarray.typeOf aty) (List.replicate i (defaultValue (newarray.typeOf aty))) → hel_V l Z n0 (hel_J Z EL n0) R own nm cod mxl rt Q h' cells' slots' pc' L (.ref h.size :: S)) : hel_V l Z n0 (hel_J Z EL n0) R own nm cod mxl rt Q h cells slots pc L (.int n :: S) := by
  obtain ⟨d, rfl⟩ := d
  subst hc hs
  obtain ⟨q1, rfl⟩ := own_nat hn
  refine hel_stepC (F := fun h' S' => (Ext h h' ∧ own_A Z h' h.size (newarray.typeOf aty) (List.replicate n.toNatClampNeg (defaultValue (newarray.typeOf aty)))) ∧ S' = .ref h.size :: S) (fun hx hZ hby _ hown _ X eT N => ?_) (by rintro vm h' S' ⟨⟨q1, -⟩, -⟩ q; exact q.ext q1) (by rintro h' S' ⟨⟨q1, q2⟩, rfl⟩; exact k h' q1 q2)
  obtain ⟨T', h', cA, X', e', E', A', st⟩ := newP X hx hZ w eT (g := mkF _ pc L (.int n :: S)) rfl (hb hby d) rfl q1 hcap hcb hc' hs'
  subst e'
  refine ⟨T', _, _, ⟨⟨E', _, A', by simp [newA], ?_⟩, rfl⟩, X', N, E'.1, st⟩
  simp; have := (back32 q1).2; omega
theorem hel_initO {i W : Nat} {a : Addr} (d : own_D cod pc (.invokespecial i) 3 pc') (w1 : (Cond.methodLink own i Lib.objectInit).before a0 Z = true) (w2 : (Cond.instanceMethod Lib.objectInit).before a0 Z = true) (w3 : (Cond.code Lib.objectInit ⟨#[0xb1]⟩ 1 none).before a0 Z = true) (hsz : L.size = mxl) (hf : 1 ≤ R.frames) (hW : (S.map fun v => v.category).sum ≤ W) (hl : W + 12 ≤ R.locals)
    (k : hel_V l Z n0 J R own nm cod mxl rt Q h cells slots pc' L S) : hel_V l Z n0 J R own nm cod mxl rt Q h cells slots pc L (.ref a :: S) := by
  obtain ⟨d, rfl⟩ := d
  refine hel_stepC (F := fun h' S' => h' = h ∧ S' = S) (fun hx hZ hby hml hown _ X eT N => ?_) (by rintro vm h' S' ⟨rfl, rfl⟩ q; exact q) (by rintro h' S' ⟨rfl, rfl⟩; exact k)
  obtain ⟨T', X', e', st⟩ := initO X hx hZ hown w1 w2 w3 eT (g := mkF _ pc L (.ref a :: S)) rfl (by rw [hml]; exact hsz) rfl (hb hby d) hf (W := W) (by show 2 * 0 + _ ≤ _; simpa using hW) hl
  exact ⟨T', _, _, ⟨e', rfl⟩, X', N, Nat.le_of_eq (by rw [e']), st⟩
/-- a static call of a narrow callee that keeps the heap -/
theorem hel_callN {index : Nat} {y : MethodName} {cod' : ByteArray} {mxl' : Nat} {rt' : Option FieldType} {R' : Room} {Q' : Option Value → Heap → Prop} {L0 : Array Slot} {argsL rest : List Value} {W cells' slots' : Nat} {ps : List FieldType} {r : Option FieldType}
    (k0 : own_V l Z n0 R' y.cls y.name cod' mxl' rt' Q' h 0 0 0 L0 []) (hQK : ∀ v h', Q' v h' → Keep h h' []) (hef : ∀ m, entryFrame m argsL.toArray mxl' = mkF m 0 L0 []) (hpl : plainFor y = true) (hpd : parseMethodDescriptor y.desc = some ⟨ps, r⟩) (hl : argsL.length = ps.length)
    (d : own_D cod pc (.invokestatic index) 3 pc') (w1 : (Cond.methodLink own index y).before a0 Z = true) (w2 : (Cond.static y).before a0 Z = true) (w3 : (Cond.initialized y.cls).before a0 Z = true) (w4 : (Cond.code y cod' mxl' rt').before a0 Z = true)
    (hy : y.cls ≠ "java/lang/invoke/MethodHandle" ∧ y.cls ≠ "java/lang/invoke/VarHandle") (hS : S = argsL.reverse ++ rest) (hsz : L.size = mxl) (hW : (rest.map fun v => v.category).sum ≤ W)
    (hf : R'.frames + 1 ≤ R.frames) (hlo : W + (mxl' + 11) + R'.locals ≤ R.locals) (hc : cells + R'.cells = cells') (hs : slots + R'.slots = slots') (hc' : cells' ≤ R.cells) (hs' : slots' ≤ R.slots)
    (k : ∀ v h', Q' v h' → hel_V l Z n0 (hel_J Z EL n0) R own nm cod mxl rt Q h' cells' slots' pc' L (v.toList ++ rest)) : hel_V l Z n0 (hel_J Z EL n0) R own nm cod mxl rt Q h cells slots pc L S := by
  obtain ⟨d, rfl⟩ := d
  subst hc hs
  refine hel_stepC (F := fun h' S' => ∃ v, Q' v h' ∧ S' = v.toList ++ rest) (fun {p e s m args below meth c T locs} hx hZ hby hml hown _ X eT N => ?_) (by
    rintro vm h' _ ⟨v, q, rfl⟩ z
    have K := hQK _ _ q
    exact ⟨z.1.keep K (by simp), fun x hx => (z.2 x hx).keep K (by simp) z.1⟩) (by rintro h' _ ⟨v, q, rfl⟩; exact k v h' q)
  obtain ⟨v, vm1, ⟨T', L1, k1, n1⟩, -, X', ⟨Lc, hQ, l1, y1, z1⟩, st⟩ := Jvm.LawKit.callS X hx (y := y) hown (mvT hZ w1) (mvT hZ w2) (mvT hZ w3) (mvT hZ w4) hy (backOf (W := W) (Q := fun v h L => Q' v h ∧ Fr n0 L) (own_met hpl hef k0 []) hZ w4 w3 hf hlo) (g := mkF m pc L S) rfl (by rw [hml]; exact hsz) (argsL := argsL) (rest := rest) (lenOf hpd hl) hS (by show 2 * 0 + _ ≤ _; simpa using hW) (hb hby d) (fun _ _ => ⟨rfl, eT, hc', hs'⟩)
  dsimp only [Pt.U, Pt.locs, Pt.cells, Pt.slots] at X' l1 y1 z1 st hQ
  subst l1 y1 z1
  exact ⟨T', _, _, ⟨v, hQ.1, rfl⟩, X', Fr.app N hQ.2, (hQK _ _ hQ.1).1, st⟩
theorem hel_ret0 (d : decode cod pc = .ok (.return_, 1)) (hrt : rt = none) (hc : cells ≤ R.cells) (hs : slots ≤ R.slots) (hQ : Q none h) : hel_V l Z n0 J R own nm cod mxl rt Q h cells slots pc L [] := by
  intro p e s vm0 k0 m args below meth c T locs hx hZ hby hml hown hret hnm hlk X eT N hS hk hJ
  obtain ⟨fs, hr, hrun, hended, hW, hsame⟩ := X.leave (v := none) (fun _ => rfl) hlk
  obtain ⟨w1, w2, w3⟩ := hS.ended hW (show k0 ≤ T.heap.size by rw [eT]; exact hk) hsame
  refine ⟨_, _, X.returnOut hx (hret.trans hrt) (hb hby d) hr, hrun, hended, _, _, rfl, ⟨?_, N⟩, ⟨_, rfl⟩, w1, w2, w3.mono hc hs⟩
  show Q none T.heap
  rw [eT]; exact hQ
theorem hel_retA {v : Value} {t : FieldType} (d : own_D cod pc (.areturn) 1 pc') (hrt : rt = some t) (ht : t.isReference = true) (hv : v.isRef = true) (hc : cells ≤ R.cells) (hs : slots ≤ R.slots) (hQ : Q (some v) h) : hel_V l Z n0 J R own nm cod mxl rt Q h cells slots pc L (v :: S) := by
  intro p e s vm0 k0 m args below meth c T locs hx hZ hby hml hown hret hnm hlk X eT N hS hk hJ
  obtain ⟨fs, hr, hrun, hended, hW, hsame⟩ := X.leave (v := some v) (fun q => by rw [hret, hrt] at q; cases q) hlk
  obtain ⟨w1, w2, w3⟩ := hS.ended hW (show k0 ≤ T.heap.size by rw [eT]; exact hk) hsame
  refine ⟨_, _, retOut X hx (hret.trans hrt) (by rcases ref_cases hv with rfl | ⟨b, rfl⟩ <;> cases t <;> first | rfl | cases ht) (Or.inr (Or.inr (Or.inr (Or.inr ⟨rfl, ht, hv⟩)))) (hb hby d.1) hr, hrun, hended, _, _, rfl, ⟨?_, N⟩, ⟨_, rfl⟩, w1, w2, w3.mono hc hs⟩
  show Q (some v) T.heap
  rw [eT]; exact hQ
theorem hel_met {y : MethodName} {as' : Array Value} {L0 : Array Slot} (hpl : plainFor y = true) (hef : ∀ m, entryFrame m as' mxl = mkF m 0 L0 []) (k : hel_V l Z n0 J R y.cls y.name cod mxl rt Q h 0 0 0 L0 []) (ws : List Jvm.Cond) :
    MetFree l y (head1 (Jvm.Cond.code y cod mxl rt :: ws) R) (fun a U => a = as' ∧ Z.Warmed39 U.vm ∧ U.heap = h ∧ J U.vm h) (fun _ _ _ _ _ => True) (fun _ U o U' => ∃ v L, o = .returned v ∧ (Q v U'.heap ∧ Fr n0 L) ∧ ReturnedEndW U o U' L R.cells R.slots) := by
  refine MetFree.of_bodySF hpl hisR ?_
  intro p e s m args below meth c s₁ Bd hml0 hP hK
  obtain ⟨rfl, hZ, hh, hJ⟩ := hP
  have e0 : s₁.heap = h := by rw [← hh, Bd.state]; rfl
  obtain ⟨s₂, o, h1, r⟩ := k p e s s.vm 0 m _ below meth c s₁ [] Bd.exec hZ Bd.bytes hml0 (findClass_of_methodNamed Bd.named) Bd.returns (name_of_methodNamed Bd.named Bd.method).1 (BodyLoose.notSynchronized Bd) (Stand.of_body Bd) e0 (Fr.nil n0) ((State.WarmedH.refl s).since 0) (Nat.zero_le _) hJ
  exact ⟨s₂, o, castTop (hef m) h1, r⟩
theorem hel_back {p : Program} {e : Env} {s : State} {args : Array Value} {below : List Frame} {vm0 : Vm} {y : MethodName} {bytes : ByteArray} {maxL : Nat} {ret : Option FieldType} {rm : Room} {len W : Nat} {as' : Array Value} {Q : Option Value → Heap → List Loc → Prop}
    (hM : MetFree l y (head1 [Cond.code y bytes maxL ret] rm) (fun a U => a = as' ∧ Z.Warmed39 U.vm ∧ U.heap = h ∧ hel_J Z EL n0 U.vm h) (fun _ _ _ _ _ => True) (fun _ U o U' => ∃ v L, o = .returned v ∧ Q v U'.heap L ∧ ReturnedEndW U o U' L rm.cells rm.slots))
    (hZ : Z.Warmed39 vm0) (wc : (Cond.code y bytes maxL ret).before a0 Z = true) (wz : (Cond.initialized y.cls).before a0 Z = true) (hf : rm.frames + 1 ≤ R.frames) (hl : W + (maxL + 11) + rm.locals ≤ R.locals) (hEL : EW Z a0 EL) (H : hel_J Z EL n0 vm0 h) :
    BackS l R p e below (s.setVm vm0) args y len W (fun A a => a = as' ∧ A.U.heap = h ∧ A.cells + rm.cells ≤ R.cells ∧ A.slots + rm.slots ≤ R.slots)
      (fun A _ v B => ∃ L, Q v B.U.heap L ∧ B.locs = A.locs ++ L ∧ B.cells = A.cells + rm.cells ∧ B.slots = A.slots + rm.slots) :=
  BackS.of_freeW (bytes := bytes) (maxL := maxL) (ret := ret) (E := fun _ _ o t L k n => k = rm.cells ∧ n = rm.slots ∧ ∃ v, o = .returned v ∧ Q v t.heap L) hM hf hl
    (fun m meth c A a Y hp => have hU : Z.Warmed39 A.U.vm := wtrans (s := s.setVm vm0) hZ Y.warmed
      ⟨by show (Cond.and _ .tt).before a A.U = true; rw [Cond.before_and, mv hU wc]; rfl, mv hU wc, mv hU wz, hp.2.2.1, hp.2.2.2⟩)
    (fun m meth c A a g mk Y hp => ⟨hp.1, wtrans (s := s.setVm vm0) hZ Y.warmed, hp.2.1, show hel_J Z EL n0 A.U.vm h from hel_J.at Y hZ hEL H⟩) (fun _ _ _ _ _ _ _ _ _ => trivial)
    (fun _ _ _ _ ⟨v, L, h1, h2, h3⟩ => ⟨L, _, _, h3, rfl, rfl, v, h1, h2⟩)
    (fun m meth c A a g mk v t L k n Y hp _ _ ⟨e1, e2, v', e3, e4⟩ => by cases e3; subst e1 e2; exact ⟨L, e4, rfl, rfl, rfl⟩)
theorem hel_callS {index : Nat} {y : MethodName} {cod' : ByteArray} {mxl' : Nat} {rt' : Option FieldType} {R' : Room} {Q' : Option Value → Heap → Prop} {L0 : Array Slot} {argsL rest : List Value} {W cells' slots' : Nat} {ps : List FieldType} {r : Option FieldType}
    (k0 : hel_V l Z n0 (hel_J Z EL n0) R' y.cls y.name cod' mxl' rt' Q' h 0 0 0 L0 []) (hEL : EW Z a0 EL) (hef : ∀ m, entryFrame m argsL.toArray mxl' = mkF m 0 L0 []) (hpl : plainFor y = true) (hpd : parseMethodDescriptor y.desc = some ⟨ps, r⟩) (hl : argsL.length = ps.length)
    (d : own_D cod pc (.invokestatic index) 3 pc') (w1 : (Cond.methodLink own index y).before a0 Z = true) (w2 : (Cond.static y).before a0 Z = true) (w3 : (Cond.initialized y.cls).before a0 Z = true) (w4 : (Cond.code y cod' mxl' rt').before a0 Z = true)
    (hy : y.cls ≠ "java/lang/invoke/MethodHandle" ∧ y.cls ≠ "java/lang/invoke/VarHandle") (hS : S = argsL.reverse ++ rest) (hsz : L.size = mxl) (hW : (rest.map fun v => v.category).sum ≤ W)
    (hf : R'.frames + 1 ≤ R.frames) (hlo : W + (mxl' + 11) + R'.locals ≤ R.locals) (hc : cells + R'.cells = cells') (hs : slots + R'.slots = slots') (hc' : cells' ≤ R.cells) (hs' : slots' ≤ R.slots)
    (k : ∀ v h', Q' v h' → hel_V l Z n0 (fun _ _ => True) R own nm cod mxl rt Q h' cells' slots' pc' L (v.toList ++ rest)) : hel_V l Z n0 (hel_J Z EL n0) R own nm cod mxl rt Q h cells slots pc L S := by
  obtain ⟨d, rfl⟩ := d
  subst hc hs
  intro p e s vm0 k0' m args below meth c T locs hx hZ hby hml hown hret hnm hlk X eT N hSi hk hJ
  obtain ⟨v, vm1, ⟨T', L1, k1, n1⟩, -, X', hS', g', ⟨Lc, hQ, l1, y1, z1⟩, st⟩ := callSS X hx (y := y) hown (mvT (s := s.setVm vm0) hZ w1) (mvT (s := s.setVm vm0) hZ w2) (mvT (s := s.setVm vm0) hZ w3) (mvT (s := s.setVm vm0) hZ w4) hy (hel_back (W := W) (Q := fun v h L => Q' v h ∧ Fr n0 L) (hel_met hpl hef k0 []) hZ w4 w3 hf hlo hEL hJ) (g := mkF m pc L S) rfl (by rw [hml]; exact hsz) (argsL := argsL) (rest := rest) (lenOf hpd hl) hS (by show 2 * 0 + _ ≤ _; simpa using hW) (hb hby d) (fun _ _ => ⟨rfl, eT, hc', hs'⟩)
  dsimp only [Pt.U, Pt.locs, Pt.cells, Pt.slots] at X' l1 y1 z1 st hQ hS' g'
  subst l1 y1 z1
  have hW' : Z.Warmed39 T'.vm := State.Warmed39.trans (t := s.setVm vm0) hZ hS'.1
  rw [eT] at g'
  obtain ⟨s₂, o, h1, r⟩ := k _ _ hQ.1 p e s T'.vm T'.heap.size m args below meth c T' _ hx hW' hby hml ((hS'.1.alike.findClass _ _).trans hown) hret hnm hlk X' rfl (Fr.app N hQ.2) (hSi.trans hS' (Nat.le_trans hk g')) (Nat.le_refl _) trivial
  exact ⟨s₂, o, st.trans h1, r⟩
theorem hel_callI {index : Nat} {y : MethodName} {cod' : ByteArray} {mxl' : Nat} {R' : Room} {Q' : Option Value → Heap → Prop} {L0 : Array Slot} {a : Addr} {argsL rest : List Value} {W cells' slots' : Nat} {ps : List FieldType} {r : Option FieldType}
    (k0 : hel_V l Z n0 (hel_J Z EL n0) R' y.cls y.name cod' mxl' none Q' h 0 0 0 L0 []) (hEL : EW Z a0 EL) (hef : ∀ m, entryFrame m (.ref a :: argsL).toArray mxl' = mkF m 0 L0 []) (hpl : plainFor y = true) (hpd : parseMethodDescriptor y.desc = some ⟨ps, r⟩) (hl : argsL.length = ps.length) (hyn : y.name = "<init>")
    (d : own_D cod pc (.invokespecial index) 3 pc') (w1 : (Cond.methodLink own index y).before a0 Z = true) (w2 : (Cond.instanceMethod y).before a0 Z = true) (w3 : (Cond.initialized y.cls).before a0 Z = true) (w4 : (Cond.code y cod' mxl' none).before a0 Z = true)
    (hy : y.cls ≠ "java/lang/invoke/MethodHandle" ∧ y.cls ≠ "java/lang/invoke/VarHandle") (hS : S = argsL.reverse ++ .ref a :: rest) (hsz : L.size = mxl) (hW : (rest.map fun v => v.category).sum ≤ W)
    (hf : R'.frames + 1 ≤ R.frames) (hlo : W + (mxl' + 11) + R'.locals ≤ R.locals) (hc : cells + R'.cells = cells') (hs : slots + R'.slots = slots') (hc' : cells' ≤ R.cells) (hs' : slots' ≤ R.slots)
    (k : ∀ v h', Q' v h' → hel_V l Z n0 (fun _ _ => True) R own nm cod mxl rt Q h' cells' slots' pc' L (v.toList ++ rest)) : hel_V l Z n0 (hel_J Z EL n0) R own nm cod mxl rt Q h cells slots pc L S := by
  obtain ⟨d, rfl⟩ := d
  subst hc hs
  intro p e s vm0 k0' m args below meth c T locs hx hZ hby hml hown hret hnm hlk X eT N hSi hk hJ
  obtain ⟨v, vm1, ⟨T', L1, k1, n1⟩, -, X', hS', g', ⟨Lc, hQ, l1, y1, z1⟩, st⟩ := X.specialBackS hx (y := y) hyn hown (mvT (s := s.setVm vm0) hZ w1) (mvT (s := s.setVm vm0) hZ w2) (mvT (s := s.setVm vm0) hZ w4) hy (hel_back (W := W) (Q := fun v h L => Q' v h ∧ Fr n0 L) (hel_met hpl hef k0 []) hZ w4 w3 hf hlo hEL hJ) (g := mkF m pc L S) rfl (by rw [hml]; exact hsz) (Steps.refl _) (a := a) (argsL := argsL) (rest := rest) (lenOf hpd hl) hS (by show 2 * 0 + _ ≤ _; simpa using hW) (hb hby d) (fun _ _ => ⟨rfl, eT, hc', hs'⟩)
  dsimp only [Pt.U, Pt.locs, Pt.cells, Pt.slots] at X' l1 y1 z1 st hQ hS' g'
  subst l1 y1 z1
  have hW' : Z.Warmed39 T'.vm := State.Warmed39.trans (t := s.setVm vm0) hZ hS'.1
  rw [eT] at g'
  obtain ⟨s₂, o, h1, r⟩ := k _ _ hQ.1 p e s T'.vm T'.heap.size m args below meth c T' _ hx hW' hby hml ((hS'.1.alike.findClass _ _).trans hown) hret hnm hlk X' rfl (Fr.app N hQ.2) (hSi.trans hS' (Nat.le_trans hk g')) (Nat.le_refl _) trivial
  exact ⟨s₂, o, st.trans h1, r⟩
/-- ldc of the empty String, its content known; x: what is written later -/
theorem hel_ldcE {i cells' slots' : Nat} {x : Addr} (d : own_D cod pc (.ldc i) 2 pc') (w : (Cond.stringLink own i "").before a0 Z = true) (wS : ∀ a ∈ Bundle.stringAtoms, a.before a0 Z = true) (hEL : EW Z a0 EL) (hmem : (own, i) ∈ EL) (hJ2 : ∀ vm, J vm h → hel_J2 Z EL x vm h) (hc : cells + 2 = cells') (hs : slots + 4 = slots') (hc' : cells' ≤ R.cells) (hs' : slots' ≤ R.slots)
    (k : ∀ h' a b, Ext h h' → Fld Z h' a "java/lang/String" "coder" "B" (.int 0) → Fld Z h' a "java/lang/String" "value" "[B" (.ref b) → own_A Z h' b .byte [] → x ≠ a → x ≠ b → hel_V l Z n0 (hel_J2 Z EL x) R own nm cod mxl rt Q h' cells' slots' pc' L (.ref a :: S)) : hel_V l Z n0 J R own nm cod mxl rt Q h cells slots pc L S := by
  obtain ⟨d, rfl⟩ := d
  subst hc hs
  intro p e s vm0 k0' m args below meth c T locs hx hZ hby hml hown hret hnm hlk X eT N hSi hk hJ
  have q := hJ2 _ hJ
  obtain ⟨a, T', h', k1, b, kb, X', e', E, hS', hk', hW', hf, A1, A2, A3, A4, -, -, hC, -, hne, st⟩ := ldcCH X hx hZ hown w wS eT hSi hk hEL hmem q.1 (vs := []) (z := 0) ⟨by simp, by simp⟩ (by decide) (by decide) (g := mkF m pc L S) rfl (hb hby d) (n := 0) (by simp) (by decide) hc' hs'
  subst e'
  have sx := hC.safe q.2.1 q.2.2
  obtain ⟨cl, B1, -, B3, -⟩ := A4
  have A : own_A Z T'.heap b .byte [] := ⟨cl, B1, by
    have : cl.slots.size = 0 := B3
    exact List.eq_nil_of_length_eq_zero (by simpa using this), by simp⟩
  obtain ⟨s₂, o, h1, r⟩ := k _ a b E A2 A3 A (hne x sx).1 (hne x sx).2 p e s T'.vm k1 m args below meth c T' _ hx hW' hby hml hf hret hnm hlk X' rfl N hS' hk' ⟨hC.1, Nat.lt_of_lt_of_le q.2.1 E.1, sx⟩
  exact ⟨s₂, o, st _ h1, r⟩
end HelKit
theorem own_w {Z : State} {a0 : Array Value} (hw : ∀ d ∈ tables_1, d.before a0 Z = true) (i : Nat) {d : Jvm.Cond} (q : tables_1[i]? = some d) : d.before a0 Z = true := hw d (List.mem_of_getElem? q)
theorem own_ef9_AIAII (m : MethodId) (x0 : Addr) (x1 : Int32) (x2 : Addr) (x3 : Int32) (x4 : Int32) : entryFrame m #[(.ref x0), (.int x1), (.ref x2), (.int x3), (.int x4)] 7 = mkF m 0 #[.val (.ref x0), .val (.int x1), .val (.ref x2), .val (.int x3), .val (.int x4), .unset, .unset] [] := by first | (simp [entryFrame, mkF, argsToLocals, Value.category]; done) | rfl
theorem own_ef8_AII (m : MethodId) (x0 : Addr) (x1 : Int32) (x2 : Int32) : entryFrame m #[(.ref x0), (.int x1), (.int x2)] 6 = mkF m 0 #[.val (.ref x0), .val (.int x1), .val (.int x2), .unset, .unset, .unset] [] := by first | (simp [entryFrame, mkF, argsToLocals, Value.category]; done) | rfl
theorem own_ef10_AI (m : MethodId) (x0 : Addr) (x1 : Int32) : entryFrame m #[(.ref x0), (.int x1)] 2 = mkF m 0 #[.val (.ref x0), .val (.int x1)] [] := by first | (simp [entryFrame, mkF, argsToLocals, Value.category]; done) | rfl
theorem own_ef6_AAIIn (m : MethodId) (x0 : Addr) (x1 : Addr) (x2 : Int32) (x3 : Int32) : entryFrame m #[(.ref x0), (.ref x1), (.int x2), (.int x3), .null] 6 = mkF m 0 #[.val (.ref x0), .val (.ref x1), .val (.int x2), .val (.int x3), .val .null, .unset] [] := by first | (simp [entryFrame, mkF, argsToLocals, Value.category]; done) | rfl
theorem own_ef5_AA (m : MethodId) (x0 : Addr) (x1 : Addr) : entryFrame m #[(.ref x0), (.ref x1)] 2 = mkF m 0 #[.val (.ref x0), .val (.ref x1)] [] := by first | (simp [entryFrame, mkF, argsToLocals, Value.category]; done) | rfl
theorem own_ef11_AA (m : MethodId) (x0 : Addr) (x1 : Addr) : entryFrame m #[(.ref x0), (.ref x1)] 3 = mkF m 0 #[.val (.ref x0), .val (.ref x1), .unset] [] := by first | (simp [entryFrame, mkF, argsToLocals, Value.category]; done) | rfl
theorem own_ef3_An (m : MethodId) (x0 : Addr) : entryFrame m #[(.ref x0), .null] 3 = mkF m 0 #[.val (.ref x0), .val .null, .unset] [] := by first | (simp [entryFrame, mkF, argsToLocals, Value.category]; done) | rfl
theorem own_ef3_AA (m : MethodId) (x0 : Addr) (x1 : Addr) : entryFrame m #[(.ref x0), (.ref x1)] 3 = mkF m 0 #[.val (.ref x0), .val (.ref x1), .unset] [] := by first | (simp [entryFrame, mkF, argsToLocals, Value.category]; done) | rfl
theorem own_ef2_n (m : MethodId)  : entryFrame m #[.null] 1 = mkF m 0 #[.val .null] [] := by first | (simp [entryFrame, mkF, argsToLocals, Value.category]; done) | rfl
theorem own_ef2_A (m : MethodId) (x0 : Addr) : entryFrame m #[(.ref x0)] 1 = mkF m 0 #[.val (.ref x0)] [] := by first | (simp [entryFrame, mkF, argsToLocals, Value.category]; done) | rfl
theorem own_ef1_II (m : MethodId) (x0 : Int32) (x1 : Int32) : entryFrame m #[(.int x0), (.int x1)] 3 = mkF m 0 #[.val (.int x0), .val (.int x1), .unset] [] := by first | (simp [entryFrame, mkF, argsToLocals, Value.category]; done) | rfl
theorem own_ef4_IIIII (m : MethodId) (x0 : Int32) (x1 : Int32) (x2 : Int32) (x3 : Int32) (x4 : Int32) : entryFrame m #[(.int x0), (.int x1), (.int x2), (.int x3), (.int x4)] 5 = mkF m 0 #[.val (.int x0), .val (.int x1), .val (.int x2), .val (.int x3), .val (.int x4)] [] := by first | (simp [entryFrame, mkF, argsToLocals, Value.category]; done) | rfl
theorem own_ef0_IIIII (m : MethodId) (x0 : Int32) (x1 : Int32) (x2 : Int32) (x3 : Int32) (x4 : Int32) : entryFrame m #[(.int x0), (.int x1), (.int x2), (.int x3), (.int x4)] maxLocals = mkF m 0 #[.val (.int x0), .val (.int x1), .val (.int x2), .val (.int x3), .val (.int x4), .unset, .unset, .unset, .unset, .unset, .unset, .unset, .unset, .unset, .unset] [] := by first | (simp [entryFrame, mkF, argsToLocals, Value.category, maxLocals]; done) | rfl
theorem d0_0 : own_D code 0 (.iload_n 0) 1 1 := ⟨by decide +kernel, rfl⟩
theorem d0_1 : own_D code 1 (.bipush 7) 2 3 := ⟨by decide +kernel, rfl⟩
theorem d0_3 : own_D code 3 (.iand) 1 4 := ⟨by decide +kernel, rfl⟩
theorem d0_4 : own_D code 4 (.istore 5) 2 6 := ⟨by decide +kernel, rfl⟩
theorem d0_6 : own_D code 6 (.iload_n 0) 1 7 := ⟨by decide +kernel, rfl⟩
theorem d0_7 : own_D code 7 (.iconst 3) 1 8 := ⟨by decide +kernel, rfl⟩
theorem d0_8 : own_D code 8 (.ishr) 1 9 := ⟨by decide +kernel, rfl⟩
theorem d0_9 : own_D code 9 (.iconst 1) 1 10 := ⟨by decide +kernel, rfl⟩
theorem d0_10 : own_D code 10 (.iand) 1 11 := ⟨by decide +kernel, rfl⟩
theorem d0_11 : own_B code 11 (.ifCond .eq 7) 7 14 18 := ⟨by decide +kernel, rfl, by decide, by decide⟩
theorem d0_14 : own_D code 14 (.iconst 1) 1 15 := ⟨by decide +kernel, rfl⟩
theorem d0_15 : own_B code 15 (.goto 4) 4 18 19 := ⟨by decide +kernel, rfl, by decide, by decide⟩
theorem d0_18 : own_D code 18 (.iconst 0) 1 19 := ⟨by decide +kernel, rfl⟩
theorem d0_19 : own_D code 19 (.istore 6) 2 21 := ⟨by decide +kernel, rfl⟩
theorem d0_21 : own_D code 21 (.iload_n 1) 1 22 := ⟨by decide +kernel, rfl⟩
theorem d0_22 : own_D code 22 (.iload 6) 2 24 := ⟨by decide +kernel, rfl⟩
theorem d0_24 : own_D code 24 (.invokestatic 12) 3 27 := ⟨by decide +kernel, rfl⟩
theorem d0_27 : own_D code 27 (.istore 7) 2 29 := ⟨by decide +kernel, rfl⟩
theorem d0_29 : own_D code 29 (.iload_n 2) 1 30 := ⟨by decide +kernel, rfl⟩
theorem d0_30 : own_D code 30 (.iload 6) 2 32 := ⟨by decide +kernel, rfl⟩
theorem d0_32 : own_D code 32 (.invokestatic 12) 3 35 := ⟨by decide +kernel, rfl⟩
theorem d0_35 : own_D code 35 (.istore 8) 2 37 := ⟨by decide +kernel, rfl⟩
theorem d0_37 : own_D code 37 (.iload_n 3) 1 38 := ⟨by decide +kernel, rfl⟩
theorem d0_38 : own_D code 38 (.iload 6) 2 40 := ⟨by decide +kernel, rfl⟩
theorem d0_40 : own_D code 40 (.invokestatic 12) 3 43 := ⟨by decide +kernel, rfl⟩
theorem d0_43 : own_D code 43 (.istore 9) 2 45 := ⟨by decide +kernel, rfl⟩
theorem d0_45 : own_D code 45 (.iload 4) 2 47 := ⟨by decide +kernel, rfl⟩
theorem d0_47 : own_D code 47 (.iload 6) 2 49 := ⟨by decide +kernel, rfl⟩
theorem d0_49 : own_D code 49 (.invokestatic 12) 3 52 := ⟨by decide +kernel, rfl⟩
theorem d0_52 : own_D code 52 (.istore 10) 2 54 := ⟨by decide +kernel, rfl⟩
theorem d0_54 : own_D code 54 (.iload 5) 2 56 := ⟨by decide +kernel, rfl⟩
theorem d0_56 : own_B code 56 (.ifCond .ne 12) 12 59 68 := ⟨by decide +kernel, rfl, by decide, by decide⟩
theorem d0_59 : own_D code 59 (.aconst_null) 1 60 := ⟨by decide +kernel, rfl⟩
theorem d0_60 : own_D code 60 (.astore 11) 2 62 := ⟨by decide +kernel, rfl⟩
theorem d0_62 : own_D code 62 (.iconst 0) 1 63 := ⟨by decide +kernel, rfl⟩
theorem d0_63 : own_D code 63 (.istore 12) 2 65 := ⟨by decide +kernel, rfl⟩
theorem d0_65 : own_B code 65 (.goto 60) 60 68 125 := ⟨by decide +kernel, rfl, by decide, by decide⟩
theorem d0_68 : own_D code 68 (.iload 5) 2 70 := ⟨by decide +kernel, rfl⟩
theorem d0_70 : own_D code 70 (.iconst 1) 1 71 := ⟨by decide +kernel, rfl⟩
theorem d0_71 : own_D code 71 (.isub) 1 72 := ⟨by decide +kernel, rfl⟩
theorem d0_72 : own_D code 72 (.iconst 5) 1 73 := ⟨by decide +kernel, rfl⟩
theorem d0_73 : own_D code 73 (.irem) 1 74 := ⟨by decide +kernel, rfl⟩
theorem d0_74 : own_D code 74 (.istore 13) 2 76 := ⟨by decide +kernel, rfl⟩
theorem d0_76 : own_D code 76 (.iload 13) 2 78 := ⟨by decide +kernel, rfl⟩
theorem d0_78 : own_D code 78 (.iload 7) 2 80 := ⟨by decide +kernel, rfl⟩
theorem d0_80 : own_D code 80 (.iload 8) 2 82 := ⟨by decide +kernel, rfl⟩
theorem d0_82 : own_D code 82 (.iload 9) 2 84 := ⟨by decide +kernel, rfl⟩
theorem d0_84 : own_D code 84 (.iload 10) 2 86 := ⟨by decide +kernel, rfl⟩
theorem d0_86 : own_D code 86 (.invokestatic 18) 3 89 := ⟨by decide +kernel, rfl⟩
theorem d0_89 : own_D code 89 (.astore 11) 2 91 := ⟨by decide +kernel, rfl⟩
theorem d0_91 : own_D code 91 (.iload 13) 2 93 := ⟨by decide +kernel, rfl⟩
theorem d0_93 : own_D code 93 (.iconst 3) 1 94 := ⟨by decide +kernel, rfl⟩
theorem d0_94 : own_B code 94 (.if_icmp .ne 28) 28 97 122 := ⟨by decide +kernel, rfl, by decide, by decide⟩
theorem d0_97 : own_D code 97 (.iload 7) 2 99 := ⟨by decide +kernel, rfl⟩
theorem d0_99 : own_D code 99 (.bipush 79) 2 101 := ⟨by decide +kernel, rfl⟩
theorem d0_101 : own_B code 101 (.if_icmp .ne 21) 21 104 122 := ⟨by decide +kernel, rfl, by decide, by decide⟩
theorem d0_104 : own_D code 104 (.iload 8) 2 106 := ⟨by decide +kernel, rfl⟩
theorem d0_106 : own_D code 106 (.bipush 102) 2 108 := ⟨by decide +kernel, rfl⟩
theorem d0_108 : own_B code 108 (.if_icmp .ne 14) 14 111 122 := ⟨by decide +kernel, rfl, by decide, by decide⟩
theorem d0_111 : own_D code 111 (.iload 9) 2 113 := ⟨by decide +kernel, rfl⟩
theorem d0_113 : own_D code 113 (.bipush 102) 2 115 := ⟨by decide +kernel, rfl⟩
theorem d0_115 : own_B code 115 (.if_icmp .ne 7) 7 118 122 := ⟨by decide +kernel, rfl, by decide, by decide⟩
theorem d0_118 : own_D code 118 (.iconst 1) 1 119 := ⟨by decide +kernel, rfl⟩
theorem d0_119 : own_B code 119 (.goto 4) 4 122 123 := ⟨by decide +kernel, rfl, by decide, by decide⟩
theorem d0_122 : own_D code 122 (.iconst 0) 1 123 := ⟨by decide +kernel, rfl⟩
theorem d0_123 : own_D code 123 (.istore 12) 2 125 := ⟨by decide +kernel, rfl⟩
theorem d0_125 : own_D code 125 (.aload 11) 2 127 := ⟨by decide +kernel, rfl⟩
theorem d0_127 : own_D code 127 (.invokestatic 22) 3 130 := ⟨by decide +kernel, rfl⟩
theorem d0_130 : own_D code 130 (.astore 13) 2 132 := ⟨by decide +kernel, rfl⟩
theorem d0_132 : own_D code 132 (.iload 12) 2 134 := ⟨by decide +kernel, rfl⟩
theorem d0_134 : own_B code 134 (.ifCond .eq 9) 9 137 143 := ⟨by decide +kernel, rfl, by decide, by decide⟩
theorem d0_137 : own_D code 137 (.getstatic 28) 3 140 := ⟨by decide +kernel, rfl⟩
theorem d0_140 : own_B code 140 (.goto 6) 6 143 146 := ⟨by decide +kernel, rfl, by decide, by decide⟩
theorem d0_143 : own_D code 143 (.getstatic 32) 3 146 := ⟨by decide +kernel, rfl⟩
theorem d0_146 : own_D code 146 (.astore 14) 2 148 := ⟨by decide +kernel, rfl⟩
theorem d0_148 : own_D code 148 (.aload 13) 2 150 := ⟨by decide +kernel, rfl⟩
theorem d0_150 : own_D code 150 (.aload 14) 2 152 := ⟨by decide +kernel, rfl⟩
theorem d0_152 : own_B code 152 (.if_acmp .ne 7) 7 155 159 := ⟨by decide +kernel, rfl, by decide, by decide⟩
theorem d0_155 : own_D code 155 (.iconst 1) 1 156 := ⟨by decide +kernel, rfl⟩
theorem d0_156 : own_B code 156 (.goto 4) 4 159 160 := ⟨by decide +kernel, rfl, by decide, by decide⟩
theorem d0_160 : own_D code 160 (.ireturn) 1 161 := ⟨by decide +kernel, rfl⟩
theorem d1_0 : own_D method_2_code 0 (.iload_n 1) 1 1 := ⟨by decide +kernel, rfl⟩
theorem d1_1 : own_B method_2_code 1 (.ifCond .eq 33) 33 4 34 := ⟨by decide +kernel, rfl, by decide, by decide⟩
theorem d1_4 : own_D method_2_code 4 (.iload_n 0) 1 5 := ⟨by decide +kernel, rfl⟩
theorem d1_5 : own_D method_2_code 5 (.iconst 3) 1 6 := ⟨by decide +kernel, rfl⟩
theorem d1_6 : own_D method_2_code 6 (.iand) 1 7 := ⟨by decide +kernel, rfl⟩
theorem d1_7 : own_D method_2_code 7 (.istore_n 2) 1 8 := ⟨by decide +kernel, rfl⟩
theorem d1_8 : own_D method_2_code 8 (.iload_n 2) 1 9 := ⟨by decide +kernel, rfl⟩
theorem d1_9 : own_B method_2_code 9 (.ifCond .ne 6) 6 12 15 := ⟨by decide +kernel, rfl, by decide, by decide⟩
theorem d1_12 : own_D method_2_code 12 (.bipush 79) 2 14 := ⟨by decide +kernel, rfl⟩
theorem d1_14 : own_D method_2_code 14 (.ireturn) 1 15 := ⟨by decide +kernel, rfl⟩
theorem d1_15 : own_D method_2_code 15 (.iload_n 2) 1 16 := ⟨by decide +kernel, rfl⟩
theorem d1_16 : own_D method_2_code 16 (.iconst 1) 1 17 := ⟨by decide +kernel, rfl⟩
theorem d1_17 : own_B method_2_code 17 (.if_icmp .ne 6) 6 20 23 := ⟨by decide +kernel, rfl, by decide, by decide⟩
theorem d1_20 : own_D method_2_code 20 (.bipush 102) 2 22 := ⟨by decide +kernel, rfl⟩
theorem d1_22 : own_D method_2_code 22 (.ireturn) 1 23 := ⟨by decide +kernel, rfl⟩
theorem d1_23 : own_D method_2_code 23 (.iload_n 2) 1 24 := ⟨by decide +kernel, rfl⟩
theorem d1_24 : own_D method_2_code 24 (.iconst 2) 1 25 := ⟨by decide +kernel, rfl⟩
theorem d1_25 : own_B method_2_code 25 (.if_icmp .ne 6) 6 28 31 := ⟨by decide +kernel, rfl, by decide, by decide⟩
theorem d1_28 : own_D method_2_code 28 (.bipush 70) 2 30 := ⟨by decide +kernel, rfl⟩
theorem d1_30 : own_D method_2_code 30 (.ireturn) 1 31 := ⟨by decide +kernel, rfl⟩
theorem d1_31 : own_D method_2_code 31 (.bipush 111) 2 33 := ⟨by decide +kernel, rfl⟩
theorem d1_33 : own_D method_2_code 33 (.ireturn) 1 34 := ⟨by decide +kernel, rfl⟩
theorem d1_34 : own_D method_2_code 34 (.iload_n 0) 1 35 := ⟨by decide +kernel, rfl⟩
theorem d1_35 : own_D method_2_code 35 (.sipush 255) 3 38 := ⟨by decide +kernel, rfl⟩
theorem d1_38 : own_D method_2_code 38 (.iand) 1 39 := ⟨by decide +kernel, rfl⟩
theorem d1_39 : own_D method_2_code 39 (.i2c) 1 40 := ⟨by decide +kernel, rfl⟩
theorem d1_40 : own_D method_2_code 40 (.ireturn) 1 41 := ⟨by decide +kernel, rfl⟩
theorem d2_0 : own_D prog_13_method_6_code 0 (.getstatic 7) 3 3 := ⟨by decide +kernel, rfl⟩
theorem d2_3 : own_D prog_13_method_6_code 3 (.getfield 29) 3 6 := ⟨by decide +kernel, rfl⟩
theorem d2_6 : own_D prog_13_method_6_code 6 (.aload_n 0) 1 7 := ⟨by decide +kernel, rfl⟩
theorem d2_7 : own_D prog_13_method_6_code 7 (.invokevirtual 36) 3 10 := ⟨by decide +kernel, rfl⟩
theorem d2_10 : own_B prog_13_method_6_code 10 (.ifCond .eq 9) 9 13 19 := ⟨by decide +kernel, rfl, by decide, by decide⟩
theorem d2_13 : own_D prog_13_method_6_code 13 (.getstatic 7) 3 16 := ⟨by decide +kernel, rfl⟩
theorem d2_16 : own_B prog_13_method_6_code 16 (.goto 6) 6 19 22 := ⟨by decide +kernel, rfl, by decide, by decide⟩
theorem d2_19 : own_D prog_13_method_6_code 19 (.getstatic 3) 3 22 := ⟨by decide +kernel, rfl⟩
theorem d2_22 : own_D prog_13_method_6_code 22 (.areturn) 1 23 := ⟨by decide +kernel, rfl⟩
theorem d3_0 : own_D jdk_42_method_66_code 0 (.aload_n 0) 1 1 := ⟨by decide +kernel, rfl⟩
theorem d3_1 : own_D jdk_42_method_66_code 1 (.aload_n 1) 1 2 := ⟨by decide +kernel, rfl⟩
theorem d3_2 : own_B jdk_42_method_66_code 2 (.if_acmp .ne 5) 5 5 7 := ⟨by decide +kernel, rfl, by decide, by decide⟩
theorem d3_7 : own_D jdk_42_method_66_code 7 (.aload_n 1) 1 8 := ⟨by decide +kernel, rfl⟩
theorem d3_8 : own_D jdk_42_method_66_code 8 (.instanceof 10) 3 11 := ⟨by decide +kernel, rfl⟩
theorem d3_11 : own_B jdk_42_method_66_code 11 (.ifCond .eq 43) 43 14 54 := ⟨by decide +kernel, rfl, by decide, by decide⟩
theorem d3_14 : own_D jdk_42_method_66_code 14 (.aload_n 1) 1 15 := ⟨by decide +kernel, rfl⟩
theorem d3_15 : own_D jdk_42_method_66_code 15 (.checkcast 10) 3 18 := ⟨by decide +kernel, rfl⟩
theorem d3_18 : own_D jdk_42_method_66_code 18 (.astore_n 2) 1 19 := ⟨by decide +kernel, rfl⟩
theorem d3_19 : own_D jdk_42_method_66_code 19 (.getstatic 38) 3 22 := ⟨by decide +kernel, rfl⟩
theorem d3_22 : own_B jdk_42_method_66_code 22 (.ifCond .eq 14) 14 25 36 := ⟨by decide +kernel, rfl, by decide, by decide⟩
theorem d3_25 : own_D jdk_42_method_66_code 25 (.aload_n 0) 1 26 := ⟨by decide +kernel, rfl⟩
theorem d3_26 : own_D jdk_42_method_66_code 26 (.getfield 15) 3 29 := ⟨by decide +kernel, rfl⟩
theorem d3_29 : own_D jdk_42_method_66_code 29 (.aload_n 2) 1 30 := ⟨by decide +kernel, rfl⟩
theorem d3_30 : own_D jdk_42_method_66_code 30 (.getfield 15) 3 33 := ⟨by decide +kernel, rfl⟩
theorem d3_33 : own_B jdk_42_method_66_code 33 (.if_icmp .ne 21) 21 36 54 := ⟨by decide +kernel, rfl, by decide, by decide⟩
theorem d3_36 : own_D jdk_42_method_66_code 36 (.aload_n 0) 1 37 := ⟨by decide +kernel, rfl⟩
theorem d3_37 : own_D jdk_42_method_66_code 37 (.getfield 9) 3 40 := ⟨by decide +kernel, rfl⟩
theorem d3_40 : own_D jdk_42_method_66_code 40 (.aload_n 2) 1 41 := ⟨by decide +kernel, rfl⟩
theorem d3_41 : own_D jdk_42_method_66_code 41 (.getfield 9) 3 44 := ⟨by decide +kernel, rfl⟩
theorem d3_44 : own_D jdk_42_method_66_code 44 (.invokestatic 541) 3 47 := ⟨by decide +kernel, rfl⟩
theorem d3_47 : own_B jdk_42_method_66_code 47 (.ifCond .eq 7) 7 50 54 := ⟨by decide +kernel, rfl, by decide, by decide⟩
theorem d3_50 : own_D jdk_42_method_66_code 50 (.iconst 1) 1 51 := ⟨by decide +kernel, rfl⟩
theorem d3_51 : own_B jdk_42_method_66_code 51 (.goto 4) 4 54 55 := ⟨by decide +kernel, rfl, by decide, by decide⟩
theorem d3_54 : own_D jdk_42_method_66_code 54 (.iconst 0) 1 55 := ⟨by decide +kernel, rfl⟩
theorem d3_55 : own_D jdk_42_method_66_code 55 (.ireturn) 1 56 := ⟨by decide +kernel, rfl⟩
theorem d4_0 : own_D method_3_code 0 (.iload_n 0) 1 1 := ⟨by decide +kernel, rfl⟩
theorem d4_1 : own_B method_3_code 1 (.ifCond .ne 14) 14 4 15 := ⟨by decide +kernel, rfl, by decide, by decide⟩
theorem d4_4 : own_D method_3_code 4 (.new 7) 3 7 := ⟨by decide +kernel, rfl⟩
theorem d4_7 : own_D method_3_code 7 (.dup) 1 8 := ⟨by decide +kernel, rfl⟩
theorem d4_8 : own_D method_3_code 8 (.iconst 0) 1 9 := ⟨by decide +kernel, rfl⟩
theorem d4_9 : own_D method_3_code 9 (.newarray .char) 2 11 := ⟨by decide +kernel, rfl⟩
theorem d4_11 : own_D method_3_code 11 (.invokespecial 9) 3 14 := ⟨by decide +kernel, rfl⟩
theorem d4_14 : own_D method_3_code 14 (.areturn) 1 15 := ⟨by decide +kernel, rfl⟩
theorem d4_15 : own_D method_3_code 15 (.iload_n 0) 1 16 := ⟨by decide +kernel, rfl⟩
theorem d4_16 : own_D method_3_code 16 (.iconst 1) 1 17 := ⟨by decide +kernel, rfl⟩
theorem d4_17 : own_B method_3_code 17 (.if_icmp .ne 18) 18 20 35 := ⟨by decide +kernel, rfl, by decide, by decide⟩
theorem d4_20 : own_D method_3_code 20 (.new 7) 3 23 := ⟨by decide +kernel, rfl⟩
theorem d4_23 : own_D method_3_code 23 (.dup) 1 24 := ⟨by decide +kernel, rfl⟩
theorem d4_24 : own_D method_3_code 24 (.iconst 1) 1 25 := ⟨by decide +kernel, rfl⟩
theorem d4_25 : own_D method_3_code 25 (.newarray .char) 2 27 := ⟨by decide +kernel, rfl⟩
theorem d4_27 : own_D method_3_code 27 (.dup) 1 28 := ⟨by decide +kernel, rfl⟩
theorem d4_28 : own_D method_3_code 28 (.iconst 0) 1 29 := ⟨by decide +kernel, rfl⟩
theorem d4_29 : own_D method_3_code 29 (.iload_n 1) 1 30 := ⟨by decide +kernel, rfl⟩
theorem d4_30 : own_D method_3_code 30 (.castore) 1 31 := ⟨by decide +kernel, rfl⟩
theorem d4_31 : own_D method_3_code 31 (.invokespecial 9) 3 34 := ⟨by decide +kernel, rfl⟩
theorem d4_34 : own_D method_3_code 34 (.areturn) 1 35 := ⟨by decide +kernel, rfl⟩
theorem d4_35 : own_D method_3_code 35 (.iload_n 0) 1 36 := ⟨by decide +kernel, rfl⟩
theorem d4_36 : own_D method_3_code 36 (.iconst 2) 1 37 := ⟨by decide +kernel, rfl⟩
theorem d4_37 : own_B method_3_code 37 (.if_icmp .ne 22) 22 40 59 := ⟨by decide +kernel, rfl, by decide, by decide⟩
theorem d4_40 : own_D method_3_code 40 (.new 7) 3 43 := ⟨by decide +kernel, rfl⟩
theorem d4_43 : own_D method_3_code 43 (.dup) 1 44 := ⟨by decide +kernel, rfl⟩
theorem d4_44 : own_D method_3_code 44 (.iconst 2) 1 45 := ⟨by decide +kernel, rfl⟩
theorem d4_45 : own_D method_3_code 45 (.newarray .char) 2 47 := ⟨by decide +kernel, rfl⟩
theorem d4_47 : own_D method_3_code 47 (.dup) 1 48 := ⟨by decide +kernel, rfl⟩
theorem d4_48 : own_D method_3_code 48 (.iconst 0) 1 49 := ⟨by decide +kernel, rfl⟩
theorem d4_49 : own_D method_3_code 49 (.iload_n 1) 1 50 := ⟨by decide +kernel, rfl⟩
theorem d4_50 : own_D method_3_code 50 (.castore) 1 51 := ⟨by decide +kernel, rfl⟩
theorem d4_51 : own_D method_3_code 51 (.dup) 1 52 := ⟨by decide +kernel, rfl⟩
theorem d4_52 : own_D method_3_code 52 (.iconst 1) 1 53 := ⟨by decide +kernel, rfl⟩
theorem d4_53 : own_D method_3_code 53 (.iload_n 2) 1 54 := ⟨by decide +kernel, rfl⟩
theorem d4_54 : own_D method_3_code 54 (.castore) 1 55 := ⟨by decide +kernel, rfl⟩
theorem d4_55 : own_D method_3_code 55 (.invokespecial 9) 3 58 := ⟨by decide +kernel, rfl⟩
theorem d4_58 : own_D method_3_code 58 (.areturn) 1 59 := ⟨by decide +kernel, rfl⟩
theorem d4_59 : own_D method_3_code 59 (.iload_n 0) 1 60 := ⟨by decide +kernel, rfl⟩
theorem d4_60 : own_D method_3_code 60 (.iconst 3) 1 61 := ⟨by decide +kernel, rfl⟩
theorem d4_61 : own_B method_3_code 61 (.if_icmp .ne 26) 26 64 87 := ⟨by decide +kernel, rfl, by decide, by decide⟩
theorem d4_64 : own_D method_3_code 64 (.new 7) 3 67 := ⟨by decide +kernel, rfl⟩
theorem d4_67 : own_D method_3_code 67 (.dup) 1 68 := ⟨by decide +kernel, rfl⟩
theorem d4_68 : own_D method_3_code 68 (.iconst 3) 1 69 := ⟨by decide +kernel, rfl⟩
theorem d4_69 : own_D method_3_code 69 (.newarray .char) 2 71 := ⟨by decide +kernel, rfl⟩
theorem d4_71 : own_D method_3_code 71 (.dup) 1 72 := ⟨by decide +kernel, rfl⟩
theorem d4_72 : own_D method_3_code 72 (.iconst 0) 1 73 := ⟨by decide +kernel, rfl⟩
theorem d4_73 : own_D method_3_code 73 (.iload_n 1) 1 74 := ⟨by decide +kernel, rfl⟩
theorem d4_74 : own_D method_3_code 74 (.castore) 1 75 := ⟨by decide +kernel, rfl⟩
theorem d4_75 : own_D method_3_code 75 (.dup) 1 76 := ⟨by decide +kernel, rfl⟩
theorem d4_76 : own_D method_3_code 76 (.iconst 1) 1 77 := ⟨by decide +kernel, rfl⟩
theorem d4_77 : own_D method_3_code 77 (.iload_n 2) 1 78 := ⟨by decide +kernel, rfl⟩
theorem d4_78 : own_D method_3_code 78 (.castore) 1 79 := ⟨by decide +kernel, rfl⟩
theorem d4_79 : own_D method_3_code 79 (.dup) 1 80 := ⟨by decide +kernel, rfl⟩
theorem d4_80 : own_D method_3_code 80 (.iconst 2) 1 81 := ⟨by decide +kernel, rfl⟩
theorem d4_81 : own_D method_3_code 81 (.iload_n 3) 1 82 := ⟨by decide +kernel, rfl⟩
theorem d4_82 : own_D method_3_code 82 (.castore) 1 83 := ⟨by decide +kernel, rfl⟩
theorem d4_83 : own_D method_3_code 83 (.invokespecial 9) 3 86 := ⟨by decide +kernel, rfl⟩
theorem d4_86 : own_D method_3_code 86 (.areturn) 1 87 := ⟨by decide +kernel, rfl⟩
theorem d4_87 : own_D method_3_code 87 (.new 7) 3 90 := ⟨by decide +kernel, rfl⟩
theorem d4_90 : own_D method_3_code 90 (.dup) 1 91 := ⟨by decide +kernel, rfl⟩
theorem d4_91 : own_D method_3_code 91 (.iconst 4) 1 92 := ⟨by decide +kernel, rfl⟩
theorem d4_92 : own_D method_3_code 92 (.newarray .char) 2 94 := ⟨by decide +kernel, rfl⟩
theorem d4_94 : own_D method_3_code 94 (.dup) 1 95 := ⟨by decide +kernel, rfl⟩
theorem d4_95 : own_D method_3_code 95 (.iconst 0) 1 96 := ⟨by decide +kernel, rfl⟩
theorem d4_96 : own_D method_3_code 96 (.iload_n 1) 1 97 := ⟨by decide +kernel, rfl⟩
theorem d4_97 : own_D method_3_code 97 (.castore) 1 98 := ⟨by decide +kernel, rfl⟩
theorem d4_98 : own_D method_3_code 98 (.dup) 1 99 := ⟨by decide +kernel, rfl⟩
theorem d4_99 : own_D method_3_code 99 (.iconst 1) 1 100 := ⟨by decide +kernel, rfl⟩
theorem d4_100 : own_D method_3_code 100 (.iload_n 2) 1 101 := ⟨by decide +kernel, rfl⟩
theorem d4_101 : own_D method_3_code 101 (.castore) 1 102 := ⟨by decide +kernel, rfl⟩
theorem d4_102 : own_D method_3_code 102 (.dup) 1 103 := ⟨by decide +kernel, rfl⟩
theorem d4_103 : own_D method_3_code 103 (.iconst 2) 1 104 := ⟨by decide +kernel, rfl⟩
theorem d4_104 : own_D method_3_code 104 (.iload_n 3) 1 105 := ⟨by decide +kernel, rfl⟩
theorem d4_105 : own_D method_3_code 105 (.castore) 1 106 := ⟨by decide +kernel, rfl⟩
theorem d4_106 : own_D method_3_code 106 (.dup) 1 107 := ⟨by decide +kernel, rfl⟩
theorem d4_107 : own_D method_3_code 107 (.iconst 3) 1 108 := ⟨by decide +kernel, rfl⟩
theorem d4_108 : own_D method_3_code 108 (.iload 4) 2 110 := ⟨by decide +kernel, rfl⟩
theorem d4_110 : own_D method_3_code 110 (.castore) 1 111 := ⟨by decide +kernel, rfl⟩
theorem d4_111 : own_D method_3_code 111 (.invokespecial 9) 3 114 := ⟨by decide +kernel, rfl⟩
theorem d4_114 : own_D method_3_code 114 (.areturn) 1 115 := ⟨by decide +kernel, rfl⟩
theorem d5_0 : own_D jdk_42_method_3_code 0 (.aload_n 0) 1 1 := ⟨by decide +kernel, rfl⟩
theorem d5_1 : own_D jdk_42_method_3_code 1 (.aload_n 1) 1 2 := ⟨by decide +kernel, rfl⟩
theorem d5_2 : own_D jdk_42_method_3_code 2 (.iconst 0) 1 3 := ⟨by decide +kernel, rfl⟩
theorem d5_3 : own_D jdk_42_method_3_code 3 (.aload_n 1) 1 4 := ⟨by decide +kernel, rfl⟩
theorem d5_4 : own_D jdk_42_method_3_code 4 (.arraylength) 1 5 := ⟨by decide +kernel, rfl⟩
theorem d5_5 : own_D jdk_42_method_3_code 5 (.aconst_null) 1 6 := ⟨by decide +kernel, rfl⟩
theorem d5_6 : own_D jdk_42_method_3_code 6 (.invokespecial 27) 3 9 := ⟨by decide +kernel, rfl⟩
theorem d5_9 : own_D jdk_42_method_3_code 9 (.return_) 1 10 := ⟨by decide +kernel, rfl⟩
theorem d6_0 : own_D jdk_42_method_149_code 0 (.aload_n 0) 1 1 := ⟨by decide +kernel, rfl⟩
theorem d6_1 : own_D jdk_42_method_149_code 1 (.invokespecial 1) 3 4 := ⟨by decide +kernel, rfl⟩
theorem d6_4 : own_D jdk_42_method_149_code 4 (.iload_n 3) 1 5 := ⟨by decide +kernel, rfl⟩
theorem d6_5 : own_B jdk_42_method_149_code 5 (.ifCond .ne 22) 22 8 27 := ⟨by decide +kernel, rfl, by decide, by decide⟩
theorem d6_8 : own_D jdk_42_method_149_code 8 (.aload_n 0) 1 9 := ⟨by decide +kernel, rfl⟩
theorem d6_9 : own_D jdk_42_method_149_code 9 (.ldc 7) 2 11 := ⟨by decide +kernel, rfl⟩
theorem d6_11 : own_D jdk_42_method_149_code 11 (.getfield 9) 3 14 := ⟨by decide +kernel, rfl⟩
theorem d6_14 : own_D jdk_42_method_149_code 14 (.putfield 9) 3 17 := ⟨by decide +kernel, rfl⟩
theorem d6_17 : own_D jdk_42_method_149_code 17 (.aload_n 0) 1 18 := ⟨by decide +kernel, rfl⟩
theorem d6_18 : own_D jdk_42_method_149_code 18 (.ldc 7) 2 20 := ⟨by decide +kernel, rfl⟩
theorem d6_20 : own_D jdk_42_method_149_code 20 (.getfield 15) 3 23 := ⟨by decide +kernel, rfl⟩
theorem d6_23 : own_D jdk_42_method_149_code 23 (.putfield 15) 3 26 := ⟨by decide +kernel, rfl⟩
theorem d6_26 : own_D jdk_42_method_149_code 26 (.return_) 1 27 := ⟨by decide +kernel, rfl⟩
theorem d6_27 : own_D jdk_42_method_149_code 27 (.getstatic 38) 3 30 := ⟨by decide +kernel, rfl⟩
theorem d6_30 : own_B jdk_42_method_149_code 30 (.ifCond .eq 28) 28 33 58 := ⟨by decide +kernel, rfl, by decide, by decide⟩
theorem d6_33 : own_D jdk_42_method_149_code 33 (.aload_n 1) 1 34 := ⟨by decide +kernel, rfl⟩
theorem d6_34 : own_D jdk_42_method_149_code 34 (.iload_n 2) 1 35 := ⟨by decide +kernel, rfl⟩
theorem d6_35 : own_D jdk_42_method_149_code 35 (.iload_n 3) 1 36 := ⟨by decide +kernel, rfl⟩
theorem d6_36 : own_D jdk_42_method_149_code 36 (.invokestatic 177) 3 39 := ⟨by decide +kernel, rfl⟩
theorem d6_39 : own_D jdk_42_method_149_code 39 (.astore 5) 2 41 := ⟨by decide +kernel, rfl⟩
theorem d6_41 : own_D jdk_42_method_149_code 41 (.aload_n 0) 1 42 := ⟨by decide +kernel, rfl⟩
theorem d6_42 : own_D jdk_42_method_149_code 42 (.aload 5) 2 44 := ⟨by decide +kernel, rfl⟩
theorem d6_44 : own_D jdk_42_method_149_code 44 (.iload_n 3) 1 45 := ⟨by decide +kernel, rfl⟩
theorem d6_45 : own_D jdk_42_method_149_code 45 (.invokestatic 47) 3 48 := ⟨by decide +kernel, rfl⟩
theorem d6_48 : own_D jdk_42_method_149_code 48 (.putfield 15) 3 51 := ⟨by decide +kernel, rfl⟩
theorem d6_51 : own_D jdk_42_method_149_code 51 (.aload_n 0) 1 52 := ⟨by decide +kernel, rfl⟩
theorem d6_52 : own_D jdk_42_method_149_code 52 (.aload 5) 2 54 := ⟨by decide +kernel, rfl⟩
theorem d6_54 : own_D jdk_42_method_149_code 54 (.putfield 9) 3 57 := ⟨by decide +kernel, rfl⟩
theorem d6_57 : own_D jdk_42_method_149_code 57 (.return_) 1 58 := ⟨by decide +kernel, rfl⟩
theorem d8_0 : own_D jdk_52_method_16_code 0 (.iload_n 2) 1 1 := ⟨by decide +kernel, rfl⟩
theorem d8_1 : own_D jdk_52_method_16_code 1 (.newarray .byte) 2 3 := ⟨by decide +kernel, rfl⟩
theorem d8_3 : own_D jdk_52_method_16_code 3 (.astore_n 3) 1 4 := ⟨by decide +kernel, rfl⟩
theorem d8_4 : own_D jdk_52_method_16_code 4 (.aload_n 0) 1 5 := ⟨by decide +kernel, rfl⟩
theorem d8_5 : own_D jdk_52_method_16_code 5 (.iload_n 1) 1 6 := ⟨by decide +kernel, rfl⟩
theorem d8_6 : own_D jdk_52_method_16_code 6 (.aload_n 3) 1 7 := ⟨by decide +kernel, rfl⟩
theorem d8_7 : own_D jdk_52_method_16_code 7 (.iconst 0) 1 8 := ⟨by decide +kernel, rfl⟩
theorem d8_8 : own_D jdk_52_method_16_code 8 (.iload_n 2) 1 9 := ⟨by decide +kernel, rfl⟩
theorem d8_9 : own_D jdk_52_method_16_code 9 (.invokestatic 115) 3 12 := ⟨by decide +kernel, rfl⟩
theorem d8_12 : own_D jdk_52_method_16_code 12 (.istore 4) 2 14 := ⟨by decide +kernel, rfl⟩
theorem d8_14 : own_D jdk_52_method_16_code 14 (.iload 4) 2 16 := ⟨by decide +kernel, rfl⟩
theorem d8_16 : own_D jdk_52_method_16_code 16 (.iload_n 2) 1 17 := ⟨by decide +kernel, rfl⟩
theorem d8_17 : own_B jdk_52_method_16_code 17 (.if_icmp .eq 40) 40 20 57 := ⟨by decide +kernel, rfl, by decide, by decide⟩
theorem d8_57 : own_D jdk_52_method_16_code 57 (.aload_n 3) 1 58 := ⟨by decide +kernel, rfl⟩
theorem d8_58 : own_D jdk_52_method_16_code 58 (.areturn) 1 59 := ⟨by decide +kernel, rfl⟩
theorem d9_0 : own_D jdk_52_method_21_code 0 (.iconst 0) 1 1 := ⟨by decide +kernel, rfl⟩
theorem d9_1 : own_D jdk_52_method_21_code 1 (.istore 5) 2 3 := ⟨by decide +kernel, rfl⟩
theorem d9_3 : own_D jdk_52_method_21_code 3 (.iload 5) 2 5 := ⟨by decide +kernel, rfl⟩
theorem d9_5 : own_D jdk_52_method_21_code 5 (.iload 4) 2 7 := ⟨by decide +kernel, rfl⟩
theorem d9_7 : own_B jdk_52_method_21_code 7 (.if_icmp .ge 37) 37 10 44 := ⟨by decide +kernel, rfl, by decide, by decide⟩
theorem d9_10 : own_D jdk_52_method_21_code 10 (.aload_n 0) 1 11 := ⟨by decide +kernel, rfl⟩
theorem d9_11 : own_D jdk_52_method_21_code 11 (.iload_n 1) 1 12 := ⟨by decide +kernel, rfl⟩
theorem d9_12 : own_D jdk_52_method_21_code 12 (.caload) 1 13 := ⟨by decide +kernel, rfl⟩
theorem d9_13 : own_D jdk_52_method_21_code 13 (.istore 6) 2 15 := ⟨by decide +kernel, rfl⟩
theorem d9_15 : own_D jdk_52_method_21_code 15 (.iload 6) 2 17 := ⟨by decide +kernel, rfl⟩
theorem d9_17 : own_D jdk_52_method_21_code 17 (.sipush 255) 3 20 := ⟨by decide +kernel, rfl⟩
theorem d9_20 : own_B jdk_52_method_21_code 20 (.if_icmp .le 6) 6 23 26 := ⟨by decide +kernel, rfl, by decide, by decide⟩
theorem d9_26 : own_D jdk_52_method_21_code 26 (.aload_n 2) 1 27 := ⟨by decide +kernel, rfl⟩
theorem d9_27 : own_D jdk_52_method_21_code 27 (.iload_n 3) 1 28 := ⟨by decide +kernel, rfl⟩
theorem d9_28 : own_D jdk_52_method_21_code 28 (.iload 6) 2 30 := ⟨by decide +kernel, rfl⟩
theorem d9_30 : own_D jdk_52_method_21_code 30 (.i2b) 1 31 := ⟨by decide +kernel, rfl⟩
theorem d9_31 : own_D jdk_52_method_21_code 31 (.bastore) 1 32 := ⟨by decide +kernel, rfl⟩
theorem d9_32 : own_D jdk_52_method_21_code 32 (.iinc 1 1) 3 35 := ⟨by decide +kernel, rfl⟩
theorem d9_35 : own_D jdk_52_method_21_code 35 (.iinc 3 1) 3 38 := ⟨by decide +kernel, rfl⟩
theorem d9_38 : own_D jdk_52_method_21_code 38 (.iinc 5 1) 3 41 := ⟨by decide +kernel, rfl⟩
theorem d9_41 : own_B jdk_52_method_21_code 41 (.goto (-38)) (-38) 44 3 := ⟨by decide +kernel, rfl, by decide, by decide⟩
theorem d9_44 : own_D jdk_52_method_21_code 44 (.iload 4) 2 46 := ⟨by decide +kernel, rfl⟩
theorem d9_46 : own_D jdk_52_method_21_code 46 (.ireturn) 1 47 := ⟨by decide +kernel, rfl⟩
theorem d10_0 : own_D jdk_52_method_15_code 0 (.iload_n 1) 1 1 := ⟨by decide +kernel, rfl⟩
theorem d10_1 : own_D jdk_52_method_15_code 1 (.aload_n 0) 1 2 := ⟨by decide +kernel, rfl⟩
theorem d10_2 : own_D jdk_52_method_15_code 2 (.arraylength) 1 3 := ⟨by decide +kernel, rfl⟩
theorem d10_3 : own_D jdk_52_method_15_code 3 (.isub) 1 4 := ⟨by decide +kernel, rfl⟩
theorem d10_4 : own_D jdk_52_method_15_code 4 (.bipush 31) 2 6 := ⟨by decide +kernel, rfl⟩
theorem d10_6 : own_D jdk_52_method_15_code 6 (.iushr) 1 7 := ⟨by decide +kernel, rfl⟩
theorem d10_7 : own_D jdk_52_method_15_code 7 (.i2b) 1 8 := ⟨by decide +kernel, rfl⟩
theorem d10_8 : own_D jdk_52_method_15_code 8 (.ireturn) 1 9 := ⟨by decide +kernel, rfl⟩
theorem d11_0 : own_D jdk_43_method_13_code 0 (.aload_n 0) 1 1 := ⟨by decide +kernel, rfl⟩
theorem d11_1 : own_D jdk_43_method_13_code 1 (.arraylength) 1 2 := ⟨by decide +kernel, rfl⟩
theorem d11_2 : own_D jdk_43_method_13_code 2 (.aload_n 1) 1 3 := ⟨by decide +kernel, rfl⟩
theorem d11_3 : own_D jdk_43_method_13_code 3 (.arraylength) 1 4 := ⟨by decide +kernel, rfl⟩
theorem d11_4 : own_B jdk_43_method_13_code 4 (.if_icmp .ne 30) 30 7 34 := ⟨by decide +kernel, rfl, by decide, by decide⟩
theorem d11_7 : own_D jdk_43_method_13_code 7 (.iconst 0) 1 8 := ⟨by decide +kernel, rfl⟩
theorem d11_8 : own_D jdk_43_method_13_code 8 (.istore_n 2) 1 9 := ⟨by decide +kernel, rfl⟩
theorem d11_9 : own_D jdk_43_method_13_code 9 (.iload_n 2) 1 10 := ⟨by decide +kernel, rfl⟩
theorem d11_10 : own_D jdk_43_method_13_code 10 (.aload_n 0) 1 11 := ⟨by decide +kernel, rfl⟩
theorem d11_11 : own_D jdk_43_method_13_code 11 (.arraylength) 1 12 := ⟨by decide +kernel, rfl⟩
theorem d11_12 : own_B jdk_43_method_13_code 12 (.if_icmp .ge 20) 20 15 32 := ⟨by decide +kernel, rfl, by decide, by decide⟩
theorem d11_15 : own_D jdk_43_method_13_code 15 (.aload_n 0) 1 16 := ⟨by decide +kernel, rfl⟩
theorem d11_16 : own_D jdk_43_method_13_code 16 (.iload_n 2) 1 17 := ⟨by decide +kernel, rfl⟩
theorem d11_17 : own_D jdk_43_method_13_code 17 (.baload) 1 18 := ⟨by decide +kernel, rfl⟩
theorem d11_18 : own_D jdk_43_method_13_code 18 (.aload_n 1) 1 19 := ⟨by decide +kernel, rfl⟩
theorem d11_19 : own_D jdk_43_method_13_code 19 (.iload_n 2) 1 20 := ⟨by decide +kernel, rfl⟩
theorem d11_20 : own_D jdk_43_method_13_code 20 (.baload) 1 21 := ⟨by decide +kernel, rfl⟩
theorem d11_21 : own_B jdk_43_method_13_code 21 (.if_icmp .eq 5) 5 24 26 := ⟨by decide +kernel, rfl, by decide, by decide⟩
theorem d11_24 : own_D jdk_43_method_13_code 24 (.iconst 0) 1 25 := ⟨by decide +kernel, rfl⟩
theorem d11_25 : own_D jdk_43_method_13_code 25 (.ireturn) 1 26 := ⟨by decide +kernel, rfl⟩
theorem d11_26 : own_D jdk_43_method_13_code 26 (.iinc 2 1) 3 29 := ⟨by decide +kernel, rfl⟩
theorem d11_29 : own_B jdk_43_method_13_code 29 (.goto (-20)) (-20) 32 9 := ⟨by decide +kernel, rfl, by decide, by decide⟩
theorem d11_32 : own_D jdk_43_method_13_code 32 (.iconst 1) 1 33 := ⟨by decide +kernel, rfl⟩
theorem d11_33 : own_D jdk_43_method_13_code 33 (.ireturn) 1 34 := ⟨by decide +kernel, rfl⟩
theorem d11_34 : own_D jdk_43_method_13_code 34 (.iconst 0) 1 35 := ⟨by decide +kernel, rfl⟩
theorem d11_35 : own_D jdk_43_method_13_code 35 (.ireturn) 1 36 := ⟨by decide +kernel, rfl⟩
theorem own_pd1 : parseMethodDescriptor "(IZ)C" = some ⟨[.int, .boolean], some .char⟩ := by decide +kernel
theorem own_pd2 : parseMethodDescriptor "(Ljava/lang/String;)Lcom/example/lightsout/lightsout/machine/PowerState;" = some ⟨[(.object "java/lang/String")], some (.object "com/example/lightsout/lightsout/machine/PowerState")⟩ := by decide +kernel
theorem own_pd3 : parseMethodDescriptor "(Ljava/lang/Object;)Z" = some ⟨[(.object "java/lang/Object")], some .boolean⟩ := by decide +kernel
theorem own_pd4 : parseMethodDescriptor "(ICCCC)Ljava/lang/String;" = some ⟨[.int, .char, .char, .char, .char], some (.object "java/lang/String")⟩ := by decide +kernel
theorem own_pd5 : parseMethodDescriptor "([C)V" = some ⟨[(.array .char)], none⟩ := by decide +kernel
theorem own_pd6 : parseMethodDescriptor "([CIILjava/lang/Void;)V" = some ⟨[(.array .char), .int, .int, (.object "java/lang/Void")], none⟩ := by decide +kernel
theorem own_pd8 : parseMethodDescriptor "([CII)[B" = some ⟨[(.array .char), .int, .int], some (.array .byte)⟩ := by decide +kernel
theorem own_pd9 : parseMethodDescriptor "([CI[BII)I" = some ⟨[(.array .char), .int, (.array .byte), .int, .int], some .int⟩ := by decide +kernel
theorem own_pd10 : parseMethodDescriptor "([BI)B" = some ⟨[(.array .byte), .int], some .byte⟩ := by decide +kernel
theorem own_pd11 : parseMethodDescriptor "([B[B)Z" = some ⟨[(.array .byte), (.array .byte)], some .boolean⟩ := by decide +kernel
theorem own_pl0 : plainFor (⟨"com/example/lightsout/lightsout/machine/PowerStateOfPinLaw", "law", "(IIIII)Z"⟩ : MethodName) = true := plainFor_of_name (by first | (simp [plainName, overriddenIn]; done) | decide +kernel)
theorem own_pl1 : plainFor (⟨"com/example/lightsout/lightsout/machine/PowerStateOfPinLaw", "ch", "(IZ)C"⟩ : MethodName) = true := plainFor_of_name (by first | (simp [plainName, overriddenIn]; done) | decide +kernel)
theorem own_pl2 : plainFor (⟨"com/example/lightsout/lightsout/machine/PowerState", "of", "(Ljava/lang/String;)Lcom/example/lightsout/lightsout/machine/PowerState;"⟩ : MethodName) = true := plainFor_of_name (by first | (simp [plainName, overriddenIn]; done) | decide +kernel)
theorem own_pl3 : plainFor (⟨"java/lang/String", "equals", "(Ljava/lang/Object;)Z"⟩ : MethodName) = true := plainFor_of_name (by first | (simp [plainName, overriddenIn]; done) | decide +kernel)
theorem own_pl4 : plainFor (⟨"com/example/lightsout/lightsout/machine/PowerStateOfPinLaw", "str", "(ICCCC)Ljava/lang/String;"⟩ : MethodName) = true := plainFor_of_name (by first | (simp [plainName, overriddenIn]; done) | decide +kernel)
theorem own_pl5 : plainFor (⟨"java/lang/String", "<init>", "([C)V"⟩ : MethodName) = true := plainFor_of_name (by first | (simp [plainName, overriddenIn]; done) | decide +kernel)
theorem own_pl6 : plainFor (⟨"java/lang/String", "<init>", "([CIILjava/lang/Void;)V"⟩ : MethodName) = true := plainFor_of_name (by first | (simp [plainName, overriddenIn]; done) | decide +kernel)
theorem own_pl8 : plainFor (⟨"java/lang/StringUTF16", "compress", "([CII)[B"⟩ : MethodName) = true := plainFor_of_name (by first | (simp [plainName, overriddenIn]; done) | decide +kernel)
theorem own_pl9 : plainFor (⟨"java/lang/StringUTF16", "compress", "([CI[BII)I"⟩ : MethodName) = true := plainFor_of_name (by first | (simp [plainName, overriddenIn]; done) | decide +kernel)
theorem own_pl10 : plainFor (⟨"java/lang/StringUTF16", "coderFromArrayLen", "([BI)B"⟩ : MethodName) = true := plainFor_of_name (by first | (simp [plainName, overriddenIn]; done) | decide +kernel)
theorem own_pl11 : plainFor (⟨"java/lang/StringLatin1", "equals", "([B[B)Z"⟩ : MethodName) = true := plainFor_of_name (by first | (simp [plainName, overriddenIn]; done) | decide +kernel)
theorem own_sin : ∀ d ∈ Bundle.stringAtoms, d ∈ tables_1 := by decide +kernel
theorem own_sw {Z : State} {a0 : Array Value} (hw : ∀ d ∈ tables_1, d.before a0 Z = true) : ∀ a ∈ Bundle.stringAtoms, a.before a0 Z = true := fun a ha => hw a (own_sin a ha)
abbrev own_EL : List (String × Nat) := [("java/lang/String", 7)]
def own_f (c : Int32) : Int32 := c.toInt8.toInt32
abbrev own_bs (cs : List Int32) : List Value := cs.map fun c => .int (own_f c)
theorem own_nc {c : Int32} (h0 : 0 ≤ c.toInt) (h1 : c.toInt ≤ 255) : nar .char c = c := Int32.toInt_inj.mp (by
  have := c_i2c c
  show (c.toUInt32.toUInt16.toUInt32.toInt32).toInt = _
  omega)
theorem own_nb (c : Int32) : nar .byte c.toInt8.toInt32 = own_f c := Int32.toInt_inj.mp (by
  have h1 := c_i2b c; have h2 := c_i2b c.toInt8.toInt32
  show (c.toInt8.toInt32.toInt8.toInt32).toInt = (c.toInt8.toInt32).toInt
  omega)
theorem own_fe {c : Int32} (h0 : 0 ≤ c.toInt) (h1 : c.toInt ≤ 255) (k : Int32) (hk : 0 ≤ k.toInt ∧ k.toInt < 128) : own_f c = k ↔ c.toInt = k.toInt := by
  have h2 := c_i2b c
  rw [← Int32.toInt_inj]
  show (c.toInt8.toInt32).toInt = _ ↔ _
  omega
theorem own_cset {cs : List Int32} {I j : Nat} {c : Int32} (hc : cs[I]? = some c) : (own_bs (cs.take I) ++ List.replicate (j + 1) (Value.int 0)).set I (.int (own_f c)) = own_bs (cs.take (I + 1)) ++ List.replicate j (Value.int 0) := by
  have hI := (List.getElem?_eq_some_iff.mp hc).1
  have hl : (own_bs (cs.take I)).length = I := by simp; omega
  rw [List.set_append_right _ _ (by omega), hl]
  simp [List.take_add_one, hc, List.replicate_succ]
theorem own_i1 {i : Int32} {I : Nat} (hi : i.toInt = I) (hI : I ≤ 4) : (i + 1).toInt = ((I + 1 : Nat) : Int) := by
  have a1 := c_iadd i 1; have a2 := Int32.toInt_lt (i + 1); have a3 := Int32.le_toInt (i + 1)
  rw [show (1 : Int32).toInt = 1 from rfl] at a1
  omega
theorem own_255 : (255 : Int32).toInt = 255 := rfl
theorem own_z8 (n : Int32) : nar .byte ((((n - n).toUInt32 >>> ((31 : Int32) &&& 31).toUInt32).toInt32).toInt8.toInt32) = 0 := by rw [Int32.sub_self]; rfl
abbrev own_off : List Int32 := [79, 102, 102]
set_option maxRecDepth 65536 in
set_option maxHeartbeats 4000000 in
theorem own_ch {l : Launch} {Z : State} {a0 : Array Value} (hw : ∀ d ∈ tables_1, d.before a0 Z = true) {n0 : Nat} {h : Heap} (x nr : Int32) :
    own_V l Z n0 ({ frames := 0, cells := 0, slots := 0, locals := 0 } : Room) "com/example/lightsout/lightsout/machine/PowerStateOfPinLaw" "ch" method_2_code 3 (some .char) (fun v h' => ∃ c : Int32, v = some (.int c) ∧ 0 ≤ c.toInt ∧ c.toInt ≤ 255 ∧ h = h') h 0 0 0 #[.val (.int x), .val (.int nr), .unset] [] := by
  refine own_iloadN d1_0 rfl ?_
  refine own_ifEq d1_1 (fun q => ?_) (fun q => ?_)
  · refine own_iloadN d1_34 rfl ?_
    refine own_sipush (x := 255) d1_35 rfl ?_
    refine own_iand d1_38 ?_
    refine own_i2c d1_39 ?_
    have m1 := c_mask x 255 8 (by decide) (by decide); have m2 := c_i2c (x &&& 255); have m3 := c_i2c (x &&& 255).toUInt32.toUInt16.toUInt32.toInt32
    exact own_retN d1_40 rfl (by simp) (by decide) (by decide) ⟨_, rfl, by show 0 ≤ ((x &&& 255).toUInt32.toUInt16.toUInt32.toInt32.toUInt32.toUInt16.toUInt32.toInt32).toInt; omega, by show ((x &&& 255).toUInt32.toUInt16.toUInt32.toInt32.toUInt32.toUInt16.toUInt32.toInt32).toInt ≤ 255; omega, rfl⟩
  · refine own_iloadN d1_4 rfl ?_
    refine own_iconst (x := 3) d1_5 rfl ?_
    refine own_iand d1_6 ?_
    refine own_istoreN (L' := #[.val (.int x), .val (.int nr), .val (.int (x &&& (3 : Int32)))]) d1_7 rfl ?_
    refine own_iloadN d1_8 rfl ?_
    refine own_ifNe d1_9 (fun q => ?_) (fun q => ?_)
    · refine own_iloadN d1_15 rfl ?_
      refine own_iconst (x := 1) d1_16 rfl ?_
      refine own_icmpNe d1_17 (fun q => ?_) (fun q => ?_)
      · refine own_iloadN d1_23 rfl ?_
        refine own_iconst (x := 2) d1_24 rfl ?_
        refine own_icmpNe d1_25 (fun q => ?_) (fun q => ?_)
        · refine own_bipush (x := 111) d1_31 rfl ?_
          exact own_retN d1_33 rfl (by simp) (by decide) (by decide) ⟨_, rfl, by decide, by decide, rfl⟩
        · refine own_bipush (x := 70) d1_28 rfl ?_
          exact own_retN d1_30 rfl (by simp) (by decide) (by decide) ⟨_, rfl, by decide, by decide, rfl⟩
      · refine own_bipush (x := 102) d1_20 rfl ?_
        exact own_retN d1_22 rfl (by simp) (by decide) (by decide) ⟨_, rfl, by decide, by decide, rfl⟩
    · refine own_bipush (x := 79) d1_12 rfl ?_
      exact own_retN d1_14 rfl (by simp) (by decide) (by decide) ⟨_, rfl, by decide, by decide, rfl⟩
set_option maxRecDepth 65536 in
set_option maxHeartbeats 4000000 in
theorem own_cl {l : Launch} {Z : State} {a0 : Array Value} (hw : ∀ d ∈ tables_1, d.before a0 Z = true) {n0 : Nat} {cs : List Int32} (hcs : ∀ c ∈ cs, 0 ≤ c.toInt ∧ c.toInt ≤ 255) (h4 : cs.length ≤ 4) {n : Int32} (en : n.toInt = cs.length) {a b : Addr} (gb : n0 ≤ b) (hne : a ≠ b) {h0 : Heap} :
    ∀ (j I : Nat) (i : Int32) (s6 : Slot) (h : Heap), (s6 = .unset ∨ ∃ y : Int32, s6 = .val (.int y)) → I + j = cs.length → i.toInt = I → own_A Z h a .char (cs.map Value.int) → own_A Z h b .byte (own_bs (cs.take I) ++ List.replicate j (.int 0)) → Keep h0 h [b] → own_V l Z n0 ({ frames := 0, cells := 0, slots := 0, locals := 0 } : Room) "java/lang/StringUTF16" "compress" jdk_52_method_21_code 7 (some .int) (fun v h' => v = some (.int n) ∧ Keep h0 h' [b] ∧ own_A Z h' b .byte (own_bs cs)) h 0 0 3 #[.val (.ref a), .val (.int i), .val (.ref b), .val (.int i), .val (.int n), .val (.int i), s6] [] := by
  intro j
  induction j with
  | zero =>
    intro I i s6 h hs6 hI ei A B K
    refine own_iload d9_3 rfl ?_
    refine own_iload d9_5 rfl ?_
    refine own_icmpGe d9_7 (fun _ => ?_) (fun q => False.elim (by omega))
    refine own_iload d9_44 rfl ?_
    have e : I = cs.length := by omega
    subst e
    exact own_retI d9_46 rfl (by decide) (by decide) ⟨rfl, K, by simpa using B⟩
  | succ j ih =>
    intro I i s6 h hs6 hI ei A B K
    have hI' : I < cs.length := by omega
    obtain ⟨c, hc⟩ : ∃ c, cs[I]? = some c := ⟨_, List.getElem?_eq_getElem hI'⟩
    have hcb := hcs c (List.mem_of_getElem? hc)
    refine own_iload d9_3 rfl ?_
    refine own_iload d9_5 rfl ?_
    refine own_icmpGe d9_7 (fun q => False.elim (by omega)) (fun _ => ?_)
    refine own_aloadN d9_10 rfl rfl ?_
    refine own_iloadN d9_11 rfl ?_
    refine own_caload (i := I) (v := .int c) d9_12 A ei (by simp [hc]) ?_
    refine own_istore (L' := #[.val (.ref a), .val (.int i), .val (.ref b), .val (.int i), .val (.int n), .val (.int i), .val (.int c)]) d9_13 (by rcases hs6 with rfl | ⟨y, rfl⟩ <;> rfl) ?_
    refine own_iload d9_15 rfl ?_
    refine own_sipush (x := 255) d9_17 rfl ?_
    refine own_icmpLe d9_20 (fun _ => ?_) (fun q => False.elim (by have := own_255; omega))
    refine own_aloadN d9_26 rfl rfl ?_
    refine own_iloadN d9_27 rfl ?_
    refine own_iload d9_28 rfl ?_
    refine own_i2b d9_30 ?_
    refine own_bastore (i := I) d9_31 B ei (by simp; omega) gb (fun h' W B => ?_)
    rw [own_nb, own_cset hc] at B
    refine own_iinc (L' := #[.val (.ref a), .val (.int (i + (1 : Int32))), .val (.ref b), .val (.int i), .val (.int n), .val (.int i), .val (.int c)]) (z := 1) d9_32 rfl rfl rfl ?_
    refine own_iinc (L' := #[.val (.ref a), .val (.int (i + (1 : Int32))), .val (.ref b), .val (.int (i + (1 : Int32))), .val (.int n), .val (.int i), .val (.int c)]) (z := 1) d9_35 rfl rfl rfl ?_
    refine own_iinc (L' := #[.val (.ref a), .val (.int (i + (1 : Int32))), .val (.ref b), .val (.int (i + (1 : Int32))), .val (.int n), .val (.int (i + (1 : Int32))), .val (.int c)]) (z := 1) d9_38 rfl rfl rfl ?_
    refine own_goto d9_41 ?_
    exact ih (I + 1) (i + 1) _ h' (Or.inr ⟨c, rfl⟩) (by omega) (own_i1 ei (by omega)) (own_A.other W A hne) B (K.wr W (Or.inl (by simp)))

set_option maxRecDepth 65536 in
set_option maxHeartbeats 4000000 in
theorem own_c21 {l : Launch} {Z : State} {a0 : Array Value} (hw : ∀ d ∈ tables_1, d.before a0 Z = true) {n0 : Nat} {h : Heap} {cs : List Int32} (hcs : ∀ c ∈ cs, 0 ≤ c.toInt ∧ c.toInt ≤ 255) (h4 : cs.length ≤ 4) {n : Int32} (en : n.toInt = cs.length) {a b : Addr} (gb : n0 ≤ b) (hne : a ≠ b) (A : own_A Z h a .char (cs.map Value.int)) (B : own_A Z h b .byte (List.replicate cs.length (.int 0))) :
    own_V l Z n0 ({ frames := 0, cells := 0, slots := 0, locals := 0 } : Room) "java/lang/StringUTF16" "compress" jdk_52_method_21_code 7 (some .int) (fun v h' => v = some (.int n) ∧ Keep h h' [b] ∧ own_A Z h' b .byte (own_bs cs)) h 0 0 0 #[.val (.ref a), .val (.int 0), .val (.ref b), .val (.int 0), .val (.int n), .unset, .unset] [] := by
  refine own_iconst (x := 0) d9_0 rfl ?_
  refine own_istore (L' := #[.val (.ref a), .val (.int (0 : Int32)), .val (.ref b), .val (.int (0 : Int32)), .val (.int n), .val (.int (0 : Int32)), .unset]) d9_1 rfl ?_
  exact own_cl hw hcs h4 en gb hne cs.length 0 0 _ h (Or.inl rfl) (by omega) rfl A (by simpa using B) (Keep.refl h [b])
set_option maxRecDepth 65536 in
set_option maxHeartbeats 4000000 in
theorem own_c16 {l : Launch} {Z : State} {a0 : Array Value} (hw : ∀ d ∈ tables_1, d.before a0 Z = true) {n0 : Nat} {h : Heap} {cs : List Int32} (hcs : ∀ c ∈ cs, 0 ≤ c.toInt ∧ c.toInt ≤ 255) (h4 : cs.length ≤ 4) {n : Int32} (en : n.toInt = cs.length) {a : Addr} (Z0 : n0 ≤ h.size) (A : own_A Z h a .char (cs.map Value.int)) :
    own_V l Z n0 ({ frames := 1, cells := 1, slots := 4, locals := 23 } : Room) "java/lang/StringUTF16" "compress" jdk_52_method_16_code 6 (some (.array .byte)) (fun v h' => ∃ b : Addr, v = some (.ref b) ∧ h.size ≤ b ∧ Keep h h' [] ∧ own_A Z h' b .byte (own_bs cs)) h 0 0 0 #[.val (.ref a), .val (.int 0), .val (.int n), .unset, .unset, .unset] [] := by
  refine own_iloadN d8_0 rfl ?_
  refine own_newarr (a0 := a0) (i := cs.length) (cap := 4) d8_1 (own_w hw 42 rfl) en h4 (by decide) (cells' := 1) (slots' := 4) rfl rfl (by decide) (by decide) (fun h1 E1 B => ?_)
  obtain ⟨b, gb⟩ : ∃ z, z = h.size := ⟨_, rfl⟩
  rw [← gb] at B ⊢
  have hne : a ≠ b := by rw [gb]; exact Nat.ne_of_lt A.lt
  have B : own_A Z h1 b .byte (List.replicate cs.length (.int 0)) := B
  refine own_astoreN (L' := #[.val (.ref a), .val (.int (0 : Int32)), .val (.int n), .val (.ref b), .unset, .unset]) d8_3 rfl rfl ?_
  refine own_aloadN d8_4 rfl rfl ?_
  refine own_iloadN d8_5 rfl ?_
  refine own_aloadN d8_6 rfl rfl ?_
  refine own_iconst (x := 0) d8_7 rfl ?_
  refine own_iloadN d8_8 rfl ?_
  refine own_callS (y := (⟨"java/lang/StringUTF16", "compress", "([CI[BII)I"⟩ : MethodName)) (argsL := [(.ref a), (.int (0 : Int32)), (.ref b), (.int (0 : Int32)), (.int n)]) (rest := []) (W := 0) (cells' := 1) (slots' := 4) (R' := ({ frames := 0, cells := 0, slots := 0, locals := 0 } : Room)) (own_c21 hw hcs h4 en (a := a) (b := b) (by rw [gb]; exact Z0) hne (A.ext E1) B) (fun m => own_ef9_AIAII m a (0 : Int32) b (0 : Int32) n) own_pl9 own_pd9 rfl d8_9 (own_w hw 43 rfl) (own_w hw 44 rfl) (own_w hw 40 rfl) (own_w hw 45 rfl) (by decide) rfl rfl (Nat.le_of_eq rfl) (by decide) (by decide) rfl rfl (by decide) (by decide) ?_
  rintro _ h2 ⟨rfl, K, B⟩
  refine own_istore (L' := #[.val (.ref a), .val (.int (0 : Int32)), .val (.int n), .val (.ref b), .val (.int n), .unset]) d8_12 rfl ?_
  refine own_iload d8_14 rfl ?_
  refine own_iloadN d8_16 rfl ?_
  refine own_icmpEq d8_17 (fun _ => ?_) (fun q => False.elim (by exact q rfl))
  refine own_aloadN d8_57 rfl rfl ?_
  exact own_retA d8_58 rfl rfl rfl (by decide) (by decide) ⟨b, rfl, Nat.le_refl _, ((Keep.refl h []).ext E1).trans K (by intro x hx; simp at hx; subst hx; exact Or.inr (Nat.le_of_eq gb.symm)), B⟩
set_option maxRecDepth 65536 in
set_option maxHeartbeats 4000000 in
theorem own_c15 {l : Launch} {Z : State} {a0 : Array Value} (hw : ∀ d ∈ tables_1, d.before a0 Z = true) {n0 : Nat} {h : Heap} {cs : List Int32} {n : Int32} (en : n.toInt = cs.length) {b : Addr} (B : own_A Z h b .byte (own_bs cs)) :
    own_V l Z n0 ({ frames := 0, cells := 0, slots := 0, locals := 0 } : Room) "java/lang/StringUTF16" "coderFromArrayLen" jdk_52_method_15_code 2 (some .byte) (fun v h' => v = some (.int 0) ∧ h = h') h 0 0 0 #[.val (.ref b), .val (.int n)] [] := by
  refine own_iloadN d10_0 rfl ?_
  refine own_aloadN d10_1 rfl rfl ?_
  refine own_arrlen (x := n) d10_2 B (by simpa using en) ?_
  refine own_isub d10_3 ?_
  refine own_bipush (x := 31) d10_4 rfl ?_
  refine own_iushr d10_6 ?_
  refine own_i2b d10_7 ?_
  exact own_retN d10_8 rfl (by simp) (by decide) (by decide) ⟨by rw [own_z8], rfl⟩
set_option maxRecDepth 65536 in
set_option maxHeartbeats 4000000 in
theorem own_i149 {l : Launch} {Z : State} {a0 : Array Value} (hw : ∀ d ∈ tables_1, d.before a0 Z = true) {n0 : Nat} {h : Heap} {cs : List Int32} (hcs : ∀ c ∈ cs, 0 ≤ c.toInt ∧ c.toInt ≤ 255) (h4 : cs.length ≤ 4) {n : Int32} (en : n.toInt = cs.length) (hn : n.toInt ≠ 0) (z : Int32) (hz : z.toInt ≠ 0) (CS : Sta Z h "java/lang/String" "COMPACT_STRINGS" "Z" (.int z)) {x a : Addr} (gx : n0 ≤ x) (E : Exa Z h x "java/lang/String") (Fc : Fld Z h x "java/lang/String" "coder" "B" (.int 0)) (Fv : Fld Z h x "java/lang/String" "value" "[B" .null) (A : own_A Z h a .char (cs.map Value.int)) (Z0 : n0 ≤ h.size) :
    own_V l Z n0 ({ frames := 2, cells := 1, slots := 4, locals := 42 } : Room) "java/lang/String" "<init>" jdk_42_method_149_code 6 none (fun v h' => ∃ b : Addr, v = none ∧ h.size ≤ b ∧ Keep h h' [x] ∧ Fld Z h' x "java/lang/String" "coder" "B" (.int 0) ∧ Fld Z h' x "java/lang/String" "value" "[B" (.ref b) ∧ own_A Z h' b .byte (own_bs cs)) h 0 0 0 #[.val (.ref x), .val (.ref a), .val (.int 0), .val (.int n), .val .null, .unset] [] := by
  have K := Keep.refl h [x]
  have xlt := E.lt
  refine own_aloadN d6_0 rfl rfl ?_
  refine own_initO (W := 0) d6_1 (own_w hw 34 rfl) (own_w hw 35 rfl) (own_w hw 36 rfl) rfl (by decide) (Nat.le_of_eq rfl) (by decide) ?_
  refine own_iloadN d6_4 rfl ?_
  refine own_ifNe d6_5 (fun _ => ?_) (fun q => False.elim (by omega))
  refine own_getS d6_27 (own_w hw 37 rfl) Via.refl CS ?_
  refine own_ifEq d6_30 (fun q => False.elim (by exact hz q)) (fun _ => ?_)
  refine own_aloadN d6_33 rfl rfl ?_
  refine own_iloadN d6_34 rfl ?_
  refine own_iloadN d6_35 rfl ?_
  refine own_callS (y := (⟨"java/lang/StringUTF16", "compress", "([CII)[B"⟩ : MethodName)) (argsL := [(.ref a), (.int (0 : Int32)), (.int n)]) (rest := []) (W := 0) (cells' := 1) (slots' := 4) (R' := ({ frames := 1, cells := 1, slots := 4, locals := 23 } : Room)) (own_c16 hw hcs h4 en Z0 A) (fun m => own_ef8_AII m a (0 : Int32) n) own_pl8 own_pd8 rfl d6_36 (own_w hw 38 rfl) (own_w hw 39 rfl) (own_w hw 40 rfl) (own_w hw 41 rfl) (by decide) rfl rfl (Nat.le_of_eq rfl) (by decide) (by decide) rfl rfl (by decide) (by decide) ?_
  rintro _ h1 ⟨b, rfl, gb, K1, B⟩
  have E := E.keep K1
  have Fc := Fc.keep K1 (by simp)
  have Fv := Fv.keep K1 (by simp)
  have K := Keep.trans K K1 (by intro x hx; simp at hx <;> simp [hx])
  have hne : b ≠ x := Ne.symm (Nat.ne_of_lt (Nat.lt_of_lt_of_le xlt gb))
  refine own_astore (L' := #[.val (.ref x), .val (.ref a), .val (.int (0 : Int32)), .val (.int n), .val .null, .val (.ref b)]) d6_39 rfl rfl ?_
  refine own_aloadN d6_41 rfl rfl ?_
  refine own_aload d6_42 rfl rfl ?_
  refine own_iloadN d6_44 rfl ?_
  refine own_callS (y := (⟨"java/lang/StringUTF16", "coderFromArrayLen", "([BI)B"⟩ : MethodName)) (argsL := [(.ref b), (.int n)]) (rest := [(.ref x)]) (W := 1) (cells' := 1) (slots' := 4) (R' := ({ frames := 0, cells := 0, slots := 0, locals := 0 } : Room)) (own_c15 hw en B) (fun m => own_ef10_AI m b n) own_pl10 own_pd10 rfl d6_45 (own_w hw 46 rfl) (own_w hw 47 rfl) (own_w hw 40 rfl) (own_w hw 48 rfl) (by decide) rfl rfl (Nat.le_of_eq rfl) (by decide) (by decide) rfl rfl (by decide) (by decide) ?_
  rintro _ _ ⟨rfl, rfl⟩
  refine own_putF (ty := .byte) d6_48 (own_w hw 49 rfl) Via.refl Fc E (Or.inr ⟨(own_w hw 50 rfl), rfl, rfl⟩) (own_w hw 25 rfl) (by decide) rfl rfl gx (fun h1 W1 => ?_)
  have E := E.wr W1
  have Fc := Fc.same W1
  have Fv := Fv.other W1 (Or.inr (slot_ne (Or.inr (own_w hw 52 rfl)) (Or.inr (own_w hw 50 rfl)) (by decide) (t := (.array .byte)) (t' := .byte) (by decide) (by decide)))
  have K := Keep.wr K W1 (Or.inl (by simp))
  have B := own_A.other W1 B hne
  refine own_aloadN d6_51 rfl rfl ?_
  refine own_aload d6_52 rfl rfl ?_
  refine own_putF (ty := (.array .byte)) d6_54 (own_w hw 51 rfl) Via.refl Fv E (Or.inr ⟨(own_w hw 52 rfl), rfl, rfl⟩) (own_w hw 25 rfl) (by decide) rfl rfl gx (fun h2 W2 => ?_)
  have E := E.wr W2
  have Fc := Fc.other W2 (Or.inr (slot_ne (Or.inr (own_w hw 50 rfl)) (Or.inr (own_w hw 52 rfl)) (by decide) (t := .byte) (t' := (.array .byte)) (by decide) (by decide)))
  have Fv := Fv.same W2
  have K := Keep.wr K W2 (Or.inl (by simp))
  have B := own_A.other W2 B hne
  exact own_ret0 d6_57.1 rfl (by decide) (by decide) ⟨b, rfl, gb, K, Fc, Fv, B⟩
set_option maxRecDepth 65536 in
set_option maxHeartbeats 4000000 in
theorem own_i3 {l : Launch} {Z : State} {a0 : Array Value} (hw : ∀ d ∈ tables_1, d.before a0 Z = true) {n0 : Nat} {h : Heap} {cs : List Int32} (hcs : ∀ c ∈ cs, 0 ≤ c.toInt ∧ c.toInt ≤ 255) (h4 : cs.length ≤ 4) {n : Int32} (en : n.toInt = cs.length) (hn : n.toInt ≠ 0) (z : Int32) (hz : z.toInt ≠ 0) (CS : Sta Z h "java/lang/String" "COMPACT_STRINGS" "Z" (.int z)) {x a : Addr} (gx : n0 ≤ x) (E : Exa Z h x "java/lang/String") (Fc : Fld Z h x "java/lang/String" "coder" "B" (.int 0)) (Fv : Fld Z h x "java/lang/String" "value" "[B" .null) (A : own_A Z h a .char (cs.map Value.int)) (Z0 : n0 ≤ h.size) :
    own_V l Z n0 ({ frames := 3, cells := 1, slots := 4, locals := 64 } : Room) "java/lang/String" "<init>" jdk_42_method_3_code 2 none (fun v h' => ∃ b : Addr, v = none ∧ h.size ≤ b ∧ Keep h h' [x] ∧ Fld Z h' x "java/lang/String" "coder" "B" (.int 0) ∧ Fld Z h' x "java/lang/String" "value" "[B" (.ref b) ∧ own_A Z h' b .byte (own_bs cs)) h 0 0 0 #[.val (.ref x), .val (.ref a)] [] := by
  refine own_aloadN d5_0 rfl rfl ?_
  refine own_aloadN d5_1 rfl rfl ?_
  refine own_iconst (x := 0) d5_2 rfl ?_
  refine own_aloadN d5_3 rfl rfl ?_
  refine own_arrlen (x := n) d5_4 A (by simpa using en) ?_
  refine own_aconstNull d5_5 ?_
  refine own_callI (y := (⟨"java/lang/String", "<init>", "([CIILjava/lang/Void;)V"⟩ : MethodName)) (argsL := [(.ref a), (.int (0 : Int32)), (.int n), .null]) (rest := []) (W := 0) (cells' := 1) (slots' := 4) (R' := ({ frames := 2, cells := 1, slots := 4, locals := 42 } : Room)) (own_i149 hw hcs h4 en hn z hz CS gx E Fc Fv A Z0) (fun m => own_ef6_AAIIn m x a (0 : Int32) n) own_pl6 own_pd6 rfl rfl d5_6 (own_w hw 30 rfl) (own_w hw 31 rfl) (own_w hw 16 rfl) (own_w hw 33 rfl) (by decide) rfl rfl (Nat.le_of_eq rfl) (by decide) (by decide) rfl rfl (by decide) (by decide) ?_
  rintro _ h1 ⟨b, rfl, r⟩
  exact own_ret0 d5_9.1 rfl (by decide) (by decide) ⟨b, rfl, r⟩
set_option maxRecDepth 65536 in
set_option maxHeartbeats 4000000 in
theorem own_str1 {l : Launch} {Z : State} {a0 : Array Value} (hw : ∀ d ∈ tables_1, d.before a0 Z = true) {n0 : Nat} {h : Heap} {n : Int32} (hn : n.toInt = 1) (c0 c1 c2 c3 : Int32) (b0 : 0 ≤ c0.toInt ∧ c0.toInt ≤ 255) (b1 : 0 ≤ c1.toInt ∧ c1.toInt ≤ 255) (b2 : 0 ≤ c2.toInt ∧ c2.toInt ≤ 255) (b3 : 0 ≤ c3.toInt ∧ c3.toInt ≤ 255) (z : Int32) (hz : z.toInt ≠ 0) (CS : Sta Z h "java/lang/String" "COMPACT_STRINGS" "Z" (.int z)) (Z0 : n0 ≤ h.size) :
    own_V l Z n0 ({ frames := 4, cells := 6, slots := 16, locals := 80 } : Room) "com/example/lightsout/lightsout/machine/PowerStateOfPinLaw" "str" method_3_code 5 (some (.object "java/lang/String")) (fun v h' => ∃ x b : Addr, v = some (.ref x) ∧ h.size ≤ x ∧ Keep h h' [] ∧ Exa Z h' x "java/lang/String" ∧ Fld Z h' x "java/lang/String" "coder" "B" (.int 0) ∧ Fld Z h' x "java/lang/String" "value" "[B" (.ref b) ∧ own_A Z h' b .byte (own_bs [c0])) h 0 0 0 #[.val (.int n), .val (.int c0), .val (.int c1), .val (.int c2), .val (.int c3)] [] := by
  have K := Keep.refl h []
  refine own_iloadN d4_0 rfl ?_
  refine own_ifNe d4_1 (fun _ => ?_) (fun q => False.elim (by omega))
  refine own_iloadN d4_15 rfl ?_
  refine own_iconst (x := 1) d4_16 rfl ?_
  refine own_icmpNe d4_17 (fun q => False.elim (by exact q (hn.trans rfl))) (fun _ => ?_)
  refine own_new (a0 := a0) d4_20 (own_w hw 24 rfl) (own_w hw 25 rfl) (own_w hw 16 rfl) (cells' := 1) (slots' := 4) rfl rfl (by decide) (by decide) (fun h1 E1 A1 D1 => ?_)
  obtain ⟨x, g1⟩ : ∃ z, z = h.size := ⟨_, rfl⟩
  rw [← g1] at A1 D1 ⊢
  have g_x : n0 ≤ x := by rw [g1]; exact Z0
  have CS := CS.ext E1
  have K := Keep.ext K E1
  have Z0 := Nat.le_trans Z0 E1.1
  have E_x := A1
  have F_coder_x : Fld Z h1 x "java/lang/String" "coder" "B" (.int (0 : Int32)) := D1 (Or.inr (own_w hw 50 rfl)) (ty := .byte) (by decide)
  have F_value_x : Fld Z h1 x "java/lang/String" "value" "[B" .null := D1 (Or.inr (own_w hw 52 rfl)) (ty := (.array .byte)) (by decide)
  refine own_dup d4_23 rfl ?_
  refine own_iconst (x := 1) d4_24 rfl ?_
  refine own_newarr (a0 := a0) (i := 1) (cap := 4) d4_25 (own_w hw 26 rfl) rfl (by decide) (by decide) (cells' := 2) (slots' := 8) rfl rfl (by decide) (by decide) (fun h2 E2 A => ?_)
  obtain ⟨a, ga⟩ : ∃ z, z = h1.size := ⟨_, rfl⟩
  rw [← ga] at A ⊢
  have hxa : x ≠ a := by rw [ga]; exact Nat.ne_of_lt E_x.lt
  have gna : n0 ≤ a := by rw [ga]; exact Z0
  have gha : h.size ≤ a := by rw [ga]; exact K.1
  have ghx : h.size ≤ x := Nat.le_of_eq g1.symm
  have CS := CS.ext E2
  have K := Keep.ext K E2
  have Z0 := Nat.le_trans Z0 E2.1
  have E_x := E_x.ext E2
  have F_coder_x := F_coder_x.ext E2
  have F_value_x := F_value_x.ext E2
  refine own_dup d4_27 rfl ?_
  refine own_iconst (x := 0) d4_28 rfl ?_
  refine own_iloadN d4_29 rfl ?_
  refine own_castore (i := 0) d4_30 A rfl (by simp) gna (fun h3 W3 A => ?_)
  have CS := CS.wr W3
  have K := Keep.wr K W3 (Or.inr gha)
  have Z0 : n0 ≤ h3.size := by rw [Wr.size W3]; exact Z0
  have E_x := E_x.wr W3
  have F_coder_x := F_coder_x.other W3 (Or.inl hxa)
  have F_value_x := F_value_x.other W3 (Or.inl hxa)
  rw [own_nc b0.1 b0.2] at A
  have A : own_A Z h3 a .char (([c0] : List Int32).map Value.int) := A
  refine own_callI (y := (⟨"java/lang/String", "<init>", "([C)V"⟩ : MethodName)) (argsL := [(.ref a)]) (rest := [(.ref x)]) (W := 1) (cells' := 3) (slots' := 12) (R' := ({ frames := 3, cells := 1, slots := 4, locals := 64 } : Room)) (own_i3 hw (cs := [c0]) (by simp [b0]) (by simp) (n := 1) rfl (by decide) z hz CS g_x E_x F_coder_x F_value_x A Z0) (fun m => own_ef5_AA m x a) own_pl5 own_pd5 rfl rfl d4_31 (own_w hw 27 rfl) (own_w hw 28 rfl) (own_w hw 16 rfl) (own_w hw 29 rfl) (by decide) rfl rfl (Nat.le_of_eq rfl) (by decide) (by decide) rfl rfl (by decide) (by decide) ?_
  rintro _ h9 ⟨b, rfl, gb, K9, Fc, Fv, B⟩
  have K := Keep.trans K K9 (by intro y hy; simp at hy; subst hy; exact Or.inr ghx)
  have E_x := E_x.keep K9
  exact own_retA d4_34 rfl rfl rfl (by decide) (by decide) ⟨x, b, rfl, Nat.le_refl _, K, E_x, Fc, Fv, B⟩
set_option maxRecDepth 65536 in
set_option maxHeartbeats 4000000 in
theorem own_str2 {l : Launch} {Z : State} {a0 : Array Value} (hw : ∀ d ∈ tables_1, d.before a0 Z = true) {n0 : Nat} {h : Heap} {n : Int32} (hn : n.toInt = 2) (c0 c1 c2 c3 : Int32) (b0 : 0 ≤ c0.toInt ∧ c0.toInt ≤ 255) (b1 : 0 ≤ c1.toInt ∧ c1.toInt ≤ 255) (b2 : 0 ≤ c2.toInt ∧ c2.toInt ≤ 255) (b3 : 0 ≤ c3.toInt ∧ c3.toInt ≤ 255) (z : Int32) (hz : z.toInt ≠ 0) (CS : Sta Z h "java/lang/String" "COMPACT_STRINGS" "Z" (.int z)) (Z0 : n0 ≤ h.size) :
    own_V l Z n0 ({ frames := 4, cells := 6, slots := 16, locals := 80 } : Room) "com/example/lightsout/lightsout/machine/PowerStateOfPinLaw" "str" method_3_code 5 (some (.object "java/lang/String")) (fun v h' => ∃ x b : Addr, v = some (.ref x) ∧ h.size ≤ x ∧ Keep h h' [] ∧ Exa Z h' x "java/lang/String" ∧ Fld Z h' x "java/lang/String" "coder" "B" (.int 0) ∧ Fld Z h' x "java/lang/String" "value" "[B" (.ref b) ∧ own_A Z h' b .byte (own_bs [c0, c1])) h 0 0 0 #[.val (.int n), .val (.int c0), .val (.int c1), .val (.int c2), .val (.int c3)] [] := by
  have K := Keep.refl h []
  refine own_iloadN d4_0 rfl ?_
  refine own_ifNe d4_1 (fun _ => ?_) (fun q => False.elim (by omega))
  refine own_iloadN d4_15 rfl ?_
  refine own_iconst (x := 1) d4_16 rfl ?_
  refine own_icmpNe d4_17 (fun _ => ?_) (fun q => False.elim (by have : (1 : Int32).toInt = 1 := rfl; omega))
  refine own_iloadN d4_35 rfl ?_
  refine own_iconst (x := 2) d4_36 rfl ?_
  refine own_icmpNe d4_37 (fun q => False.elim (by exact q (hn.trans rfl))) (fun _ => ?_)
  refine own_new (a0 := a0) d4_40 (own_w hw 24 rfl) (own_w hw 25 rfl) (own_w hw 16 rfl) (cells' := 1) (slots' := 4) rfl rfl (by decide) (by decide) (fun h1 E1 A1 D1 => ?_)
  obtain ⟨x, g1⟩ : ∃ z, z = h.size := ⟨_, rfl⟩
  rw [← g1] at A1 D1 ⊢
  have g_x : n0 ≤ x := by rw [g1]; exact Z0
  have CS := CS.ext E1
  have K := Keep.ext K E1
  have Z0 := Nat.le_trans Z0 E1.1
  have E_x := A1
  have F_coder_x : Fld Z h1 x "java/lang/String" "coder" "B" (.int (0 : Int32)) := D1 (Or.inr (own_w hw 50 rfl)) (ty := .byte) (by decide)
  have F_value_x : Fld Z h1 x "java/lang/String" "value" "[B" .null := D1 (Or.inr (own_w hw 52 rfl)) (ty := (.array .byte)) (by decide)
  refine own_dup d4_43 rfl ?_
  refine own_iconst (x := 2) d4_44 rfl ?_
  refine own_newarr (a0 := a0) (i := 2) (cap := 4) d4_45 (own_w hw 26 rfl) rfl (by decide) (by decide) (cells' := 2) (slots' := 8) rfl rfl (by decide) (by decide) (fun h2 E2 A => ?_)
  obtain ⟨a, ga⟩ : ∃ z, z = h1.size := ⟨_, rfl⟩
  rw [← ga] at A ⊢
  have hxa : x ≠ a := by rw [ga]; exact Nat.ne_of_lt E_x.lt
  have gna : n0 ≤ a := by rw [ga]; exact Z0
  have gha : h.size ≤ a := by rw [ga]; exact K.1
  have ghx : h.size ≤ x := Nat.le_of_eq g1.symm
  have CS := CS.ext E2
  have K := Keep.ext K E2
  have Z0 := Nat.le_trans Z0 E2.1
  have E_x := E_x.ext E2
  have F_coder_x := F_coder_x.ext E2
  have F_value_x := F_value_x.ext E2
  refine own_dup d4_47 rfl ?_
  refine own_iconst (x := 0) d4_48 rfl ?_
  refine own_iloadN d4_49 rfl ?_
  refine own_castore (i := 0) d4_50 A rfl (by simp) gna (fun h3 W3 A => ?_)
  have CS := CS.wr W3
  have K := Keep.wr K W3 (Or.inr gha)
  have Z0 : n0 ≤ h3.size := by rw [Wr.size W3]; exact Z0
  have E_x := E_x.wr W3
  have F_coder_x := F_coder_x.other W3 (Or.inl hxa)
  have F_value_x := F_value_x.other W3 (Or.inl hxa)
  rw [own_nc b0.1 b0.2] at A
  refine own_dup d4_51 rfl ?_
  refine own_iconst (x := 1) d4_52 rfl ?_
  refine own_iloadN d4_53 rfl ?_
  refine own_castore (i := 1) d4_54 A rfl (by simp) gna (fun h4 W4 A => ?_)
  have CS := CS.wr W4
  have K := Keep.wr K W4 (Or.inr gha)
  have Z0 : n0 ≤ h4.size := by rw [Wr.size W4]; exact Z0
  have E_x := E_x.wr W4
  have F_coder_x := F_coder_x.other W4 (Or.inl hxa)
  have F_value_x := F_value_x.other W4 (Or.inl hxa)
  rw [own_nc b1.1 b1.2] at A
  have A : own_A Z h4 a .char (([c0, c1] : List Int32).map Value.int) := A
  refine own_callI (y := (⟨"java/lang/String", "<init>", "([C)V"⟩ : MethodName)) (argsL := [(.ref a)]) (rest := [(.ref x)]) (W := 1) (cells' := 3) (slots' := 12) (R' := ({ frames := 3, cells := 1, slots := 4, locals := 64 } : Room)) (own_i3 hw (cs := [c0, c1]) (by simp [b0, b1]) (by simp) (n := 2) rfl (by decide) z hz CS g_x E_x F_coder_x F_value_x A Z0) (fun m => own_ef5_AA m x a) own_pl5 own_pd5 rfl rfl d4_55 (own_w hw 27 rfl) (own_w hw 28 rfl) (own_w hw 16 rfl) (own_w hw 29 rfl) (by decide) rfl rfl (Nat.le_of_eq rfl) (by decide) (by decide) rfl rfl (by decide) (by decide) ?_
  rintro _ h9 ⟨b, rfl, gb, K9, Fc, Fv, B⟩
  have K := Keep.trans K K9 (by intro y hy; simp at hy; subst hy; exact Or.inr ghx)
  have E_x := E_x.keep K9
  exact own_retA d4_58 rfl rfl rfl (by decide) (by decide) ⟨x, b, rfl, Nat.le_refl _, K, E_x, Fc, Fv, B⟩
set_option maxRecDepth 65536 in
set_option maxHeartbeats 4000000 in
theorem own_str3 {l : Launch} {Z : State} {a0 : Array Value} (hw : ∀ d ∈ tables_1, d.before a0 Z = true) {n0 : Nat} {h : Heap} {n : Int32} (hn : n.toInt = 3) (c0 c1 c2 c3 : Int32) (b0 : 0 ≤ c0.toInt ∧ c0.toInt ≤ 255) (b1 : 0 ≤ c1.toInt ∧ c1.toInt ≤ 255) (b2 : 0 ≤ c2.toInt ∧ c2.toInt ≤ 255) (b3 : 0 ≤ c3.toInt ∧ c3.toInt ≤ 255) (z : Int32) (hz : z.toInt ≠ 0) (CS : Sta Z h "java/lang/String" "COMPACT_STRINGS" "Z" (.int z)) (Z0 : n0 ≤ h.size) :
    own_V l Z n0 ({ frames := 4, cells := 6, slots := 16, locals := 80 } : Room) "com/example/lightsout/lightsout/machine/PowerStateOfPinLaw" "str" method_3_code 5 (some (.object "java/lang/String")) (fun v h' => ∃ x b : Addr, v = some (.ref x) ∧ h.size ≤ x ∧ Keep h h' [] ∧ Exa Z h' x "java/lang/String" ∧ Fld Z h' x "java/lang/String" "coder" "B" (.int 0) ∧ Fld Z h' x "java/lang/String" "value" "[B" (.ref b) ∧ own_A Z h' b .byte (own_bs [c0, c1, c2])) h 0 0 0 #[.val (.int n), .val (.int c0), .val (.int c1), .val (.int c2), .val (.int c3)] [] := by
  have K := Keep.refl h []
  refine own_iloadN d4_0 rfl ?_
  refine own_ifNe d4_1 (fun _ => ?_) (fun q => False.elim (by omega))
  refine own_iloadN d4_15 rfl ?_
  refine own_iconst (x := 1) d4_16 rfl ?_
  refine own_icmpNe d4_17 (fun _ => ?_) (fun q => False.elim (by have : (1 : Int32).toInt = 1 := rfl; omega))
  refine own_iloadN d4_35 rfl ?_
  refine own_iconst (x := 2) d4_36 rfl ?_
  refine own_icmpNe d4_37 (fun _ => ?_) (fun q => False.elim (by have : (2 : Int32).toInt = 2 := rfl; omega))
  refine own_iloadN d4_59 rfl ?_
  refine own_iconst (x := 3) d4_60 rfl ?_
  refine own_icmpNe d4_61 (fun q => False.elim (by exact q (hn.trans rfl))) (fun _ => ?_)
  refine own_new (a0 := a0) d4_64 (own_w hw 24 rfl) (own_w hw 25 rfl) (own_w hw 16 rfl) (cells' := 1) (slots' := 4) rfl rfl (by decide) (by decide) (fun h1 E1 A1 D1 => ?_)
  obtain ⟨x, g1⟩ : ∃ z, z = h.size := ⟨_, rfl⟩
  rw [← g1] at A1 D1 ⊢
  have g_x : n0 ≤ x := by rw [g1]; exact Z0
  have CS := CS.ext E1
  have K := Keep.ext K E1
  have Z0 := Nat.le_trans Z0 E1.1
  have E_x := A1
  have F_coder_x : Fld Z h1 x "java/lang/String" "coder" "B" (.int (0 : Int32)) := D1 (Or.inr (own_w hw 50 rfl)) (ty := .byte) (by decide)
  have F_value_x : Fld Z h1 x "java/lang/String" "value" "[B" .null := D1 (Or.inr (own_w hw 52 rfl)) (ty := (.array .byte)) (by decide)
  refine own_dup d4_67 rfl ?_
  refine own_iconst (x := 3) d4_68 rfl ?_
  refine own_newarr (a0 := a0) (i := 3) (cap := 4) d4_69 (own_w hw 26 rfl) rfl (by decide) (by decide) (cells' := 2) (slots' := 8) rfl rfl (by decide) (by decide) (fun h2 E2 A => ?_)
  obtain ⟨a, ga⟩ : ∃ z, z = h1.size := ⟨_, rfl⟩
  rw [← ga] at A ⊢
  have hxa : x ≠ a := by rw [ga]; exact Nat.ne_of_lt E_x.lt
  have gna : n0 ≤ a := by rw [ga]; exact Z0
  have gha : h.size ≤ a := by rw [ga]; exact K.1
  have ghx : h.size ≤ x := Nat.le_of_eq g1.symm
  have CS := CS.ext E2
  have K := Keep.ext K E2
  have Z0 := Nat.le_trans Z0 E2.1
  have E_x := E_x.ext E2
  have F_coder_x := F_coder_x.ext E2
  have F_value_x := F_value_x.ext E2
  refine own_dup d4_71 rfl ?_
  refine own_iconst (x := 0) d4_72 rfl ?_
  refine own_iloadN d4_73 rfl ?_
  refine own_castore (i := 0) d4_74 A rfl (by simp) gna (fun h3 W3 A => ?_)
  have CS := CS.wr W3
  have K := Keep.wr K W3 (Or.inr gha)
  have Z0 : n0 ≤ h3.size := by rw [Wr.size W3]; exact Z0
  have E_x := E_x.wr W3
  have F_coder_x := F_coder_x.other W3 (Or.inl hxa)
  have F_value_x := F_value_x.other W3 (Or.inl hxa)
  rw [own_nc b0.1 b0.2] at A
  refine own_dup d4_75 rfl ?_
  refine own_iconst (x := 1) d4_76 rfl ?_
  refine own_iloadN d4_77 rfl ?_
  refine own_castore (i := 1) d4_78 A rfl (by simp) gna (fun h4 W4 A => ?_)
  have CS := CS.wr W4
  have K := Keep.wr K W4 (Or.inr gha)
  have Z0 : n0 ≤ h4.size := by rw [Wr.size W4]; exact Z0
  have E_x := E_x.wr W4
  have F_coder_x := F_coder_x.other W4 (Or.inl hxa)
  have F_value_x := F_value_x.other W4 (Or.inl hxa)
  rw [own_nc b1.1 b1.2] at A
  refine own_dup d4_79 rfl ?_
  refine own_iconst (x := 2) d4_80 rfl ?_
  refine own_iloadN d4_81 rfl ?_
  refine own_castore (i := 2) d4_82 A rfl (by simp) gna (fun h5 W5 A => ?_)
  have CS := CS.wr W5
  have K := Keep.wr K W5 (Or.inr gha)
  have Z0 : n0 ≤ h5.size := by rw [Wr.size W5]; exact Z0
  have E_x := E_x.wr W5
  have F_coder_x := F_coder_x.other W5 (Or.inl hxa)
  have F_value_x := F_value_x.other W5 (Or.inl hxa)
  rw [own_nc b2.1 b2.2] at A
  have A : own_A Z h5 a .char (([c0, c1, c2] : List Int32).map Value.int) := A
  refine own_callI (y := (⟨"java/lang/String", "<init>", "([C)V"⟩ : MethodName)) (argsL := [(.ref a)]) (rest := [(.ref x)]) (W := 1) (cells' := 3) (slots' := 12) (R' := ({ frames := 3, cells := 1, slots := 4, locals := 64 } : Room)) (own_i3 hw (cs := [c0, c1, c2]) (by simp [b0, b1, b2]) (by simp) (n := 3) rfl (by decide) z hz CS g_x E_x F_coder_x F_value_x A Z0) (fun m => own_ef5_AA m x a) own_pl5 own_pd5 rfl rfl d4_83 (own_w hw 27 rfl) (own_w hw 28 rfl) (own_w hw 16 rfl) (own_w hw 29 rfl) (by decide) rfl rfl (Nat.le_of_eq rfl) (by decide) (by decide) rfl rfl (by decide) (by decide) ?_
  rintro _ h9 ⟨b, rfl, gb, K9, Fc, Fv, B⟩
  have K := Keep.trans K K9 (by intro y hy; simp at hy; subst hy; exact Or.inr ghx)
  have E_x := E_x.keep K9
  exact own_retA d4_86 rfl rfl rfl (by decide) (by decide) ⟨x, b, rfl, Nat.le_refl _, K, E_x, Fc, Fv, B⟩
set_option maxRecDepth 65536 in
set_option maxHeartbeats 4000000 in
theorem own_str4 {l : Launch} {Z : State} {a0 : Array Value} (hw : ∀ d ∈ tables_1, d.before a0 Z = true) {n0 : Nat} {h : Heap} {n : Int32} (hn : 4 ≤ n.toInt) (c0 c1 c2 c3 : Int32) (b0 : 0 ≤ c0.toInt ∧ c0.toInt ≤ 255) (b1 : 0 ≤ c1.toInt ∧ c1.toInt ≤ 255) (b2 : 0 ≤ c2.toInt ∧ c2.toInt ≤ 255) (b3 : 0 ≤ c3.toInt ∧ c3.toInt ≤ 255) (z : Int32) (hz : z.toInt ≠ 0) (CS : Sta Z h "java/lang/String" "COMPACT_STRINGS" "Z" (.int z)) (Z0 : n0 ≤ h.size) :
    own_V l Z n0 ({ frames := 4, cells := 6, slots := 16, locals := 80 } : Room) "com/example/lightsout/lightsout/machine/PowerStateOfPinLaw" "str" method_3_code 5 (some (.object "java/lang/String")) (fun v h' => ∃ x b : Addr, v = some (.ref x) ∧ h.size ≤ x ∧ Keep h h' [] ∧ Exa Z h' x "java/lang/String" ∧ Fld Z h' x "java/lang/String" "coder" "B" (.int 0) ∧ Fld Z h' x "java/lang/String" "value" "[B" (.ref b) ∧ own_A Z h' b .byte (own_bs [c0, c1, c2, c3])) h 0 0 0 #[.val (.int n), .val (.int c0), .val (.int c1), .val (.int c2), .val (.int c3)] [] := by
  have K := Keep.refl h []
  refine own_iloadN d4_0 rfl ?_
  refine own_ifNe d4_1 (fun _ => ?_) (fun q => False.elim (by omega))
  refine own_iloadN d4_15 rfl ?_
  refine own_iconst (x := 1) d4_16 rfl ?_
  refine own_icmpNe d4_17 (fun _ => ?_) (fun q => False.elim (by have : (1 : Int32).toInt = 1 := rfl; omega))
  refine own_iloadN d4_35 rfl ?_
  refine own_iconst (x := 2) d4_36 rfl ?_
  refine own_icmpNe d4_37 (fun _ => ?_) (fun q => False.elim (by have : (2 : Int32).toInt = 2 := rfl; omega))
  refine own_iloadN d4_59 rfl ?_
  refine own_iconst (x := 3) d4_60 rfl ?_
  refine own_icmpNe d4_61 (fun _ => ?_) (fun q => False.elim (by have : (3 : Int32).toInt = 3 := rfl; omega))
  refine own_new (a0 := a0) d4_87 (own_w hw 24 rfl) (own_w hw 25 rfl) (own_w hw 16 rfl) (cells' := 1) (slots' := 4) rfl rfl (by decide) (by decide) (fun h1 E1 A1 D1 => ?_)
  obtain ⟨x, g1⟩ : ∃ z, z = h.size := ⟨_, rfl⟩
  rw [← g1] at A1 D1 ⊢
  have g_x : n0 ≤ x := by rw [g1]; exact Z0
  have CS := CS.ext E1
  have K := Keep.ext K E1
  have Z0 := Nat.le_trans Z0 E1.1
  have E_x := A1
  have F_coder_x : Fld Z h1 x "java/lang/String" "coder" "B" (.int (0 : Int32)) := D1 (Or.inr (own_w hw 50 rfl)) (ty := .byte) (by decide)
  have F_value_x : Fld Z h1 x "java/lang/String" "value" "[B" .null := D1 (Or.inr (own_w hw 52 rfl)) (ty := (.array .byte)) (by decide)
  refine own_dup d4_90 rfl ?_
  refine own_iconst (x := 4) d4_91 rfl ?_
  refine own_newarr (a0 := a0) (i := 4) (cap := 4) d4_92 (own_w hw 26 rfl) rfl (by decide) (by decide) (cells' := 2) (slots' := 8) rfl rfl (by decide) (by decide) (fun h2 E2 A => ?_)
  obtain ⟨a, ga⟩ : ∃ z, z = h1.size := ⟨_, rfl⟩
  rw [← ga] at A ⊢
  have hxa : x ≠ a := by rw [ga]; exact Nat.ne_of_lt E_x.lt
  have gna : n0 ≤ a := by rw [ga]; exact Z0
  have gha : h.size ≤ a := by rw [ga]; exact K.1
  have ghx : h.size ≤ x := Nat.le_of_eq g1.symm
  have CS := CS.ext E2
  have K := Keep.ext K E2
  have Z0 := Nat.le_trans Z0 E2.1
  have E_x := E_x.ext E2
  have F_coder_x := F_coder_x.ext E2
  have F_value_x := F_value_x.ext E2
  refine own_dup d4_94 rfl ?_
  refine own_iconst (x := 0) d4_95 rfl ?_
  refine own_iloadN d4_96 rfl ?_
  refine own_castore (i := 0) d4_97 A rfl (by simp) gna (fun h3 W3 A => ?_)
  have CS := CS.wr W3
  have K := Keep.wr K W3 (Or.inr gha)
  have Z0 : n0 ≤ h3.size := by rw [Wr.size W3]; exact Z0
  have E_x := E_x.wr W3
  have F_coder_x := F_coder_x.other W3 (Or.inl hxa)
  have F_value_x := F_value_x.other W3 (Or.inl hxa)
  rw [own_nc b0.1 b0.2] at A
  refine own_dup d4_98 rfl ?_
  refine own_iconst (x := 1) d4_99 rfl ?_
  refine own_iloadN d4_100 rfl ?_
  refine own_castore (i := 1) d4_101 A rfl (by simp) gna (fun h4 W4 A => ?_)
  have CS := CS.wr W4
  have K := Keep.wr K W4 (Or.inr gha)
  have Z0 : n0 ≤ h4.size := by rw [Wr.size W4]; exact Z0
  have E_x := E_x.wr W4
  have F_coder_x := F_coder_x.other W4 (Or.inl hxa)
  have F_value_x := F_value_x.other W4 (Or.inl hxa)
  rw [own_nc b1.1 b1.2] at A
  refine own_dup d4_102 rfl ?_
  refine own_iconst (x := 2) d4_103 rfl ?_
  refine own_iloadN d4_104 rfl ?_
  refine own_castore (i := 2) d4_105 A rfl (by simp) gna (fun h5 W5 A => ?_)
  have CS := CS.wr W5
  have K := Keep.wr K W5 (Or.inr gha)
  have Z0 : n0 ≤ h5.size := by rw [Wr.size W5]; exact Z0
  have E_x := E_x.wr W5
  have F_coder_x := F_coder_x.other W5 (Or.inl hxa)
  have F_value_x := F_value_x.other W5 (Or.inl hxa)
  rw [own_nc b2.1 b2.2] at A
  refine own_dup d4_106 rfl ?_
  refine own_iconst (x := 3) d4_107 rfl ?_
  refine own_iload d4_108 rfl ?_
  refine own_castore (i := 3) d4_110 A rfl (by simp) gna (fun h6 W6 A => ?_)
  have CS := CS.wr W6
  have K := Keep.wr K W6 (Or.inr gha)
  have Z0 : n0 ≤ h6.size := by rw [Wr.size W6]; exact Z0
  have E_x := E_x.wr W6
  have F_coder_x := F_coder_x.other W6 (Or.inl hxa)
  have F_value_x := F_value_x.other W6 (Or.inl hxa)
  rw [own_nc b3.1 b3.2] at A
  have A : own_A Z h6 a .char (([c0, c1, c2, c3] : List Int32).map Value.int) := A
  refine own_callI (y := (⟨"java/lang/String", "<init>", "([C)V"⟩ : MethodName)) (argsL := [(.ref a)]) (rest := [(.ref x)]) (W := 1) (cells' := 3) (slots' := 12) (R' := ({ frames := 3, cells := 1, slots := 4, locals := 64 } : Room)) (own_i3 hw (cs := [c0, c1, c2, c3]) (by simp [b0, b1, b2, b3]) (by simp) (n := 4) rfl (by decide) z hz CS g_x E_x F_coder_x F_value_x A Z0) (fun m => own_ef5_AA m x a) own_pl5 own_pd5 rfl rfl d4_111 (own_w hw 27 rfl) (own_w hw 28 rfl) (own_w hw 16 rfl) (own_w hw 29 rfl) (by decide) rfl rfl (Nat.le_of_eq rfl) (by decide) (by decide) rfl rfl (by decide) (by decide) ?_
  rintro _ h9 ⟨b, rfl, gb, K9, Fc, Fv, B⟩
  have K := Keep.trans K K9 (by intro y hy; simp at hy; subst hy; exact Or.inr ghx)
  have E_x := E_x.keep K9
  exact own_retA d4_114 rfl rfl rfl (by decide) (by decide) ⟨x, b, rfl, Nat.le_refl _, K, E_x, Fc, Fv, B⟩
set_option maxRecDepth 65536 in
set_option maxHeartbeats 4000000 in
theorem own_el {l : Launch} {Z : State} {a0 : Array Value} (hw : ∀ d ∈ tables_1, d.before a0 Z = true) {n0 : Nat} {h : Heap} {us ws : List Int32} (hl : us.length = ws.length) (h4 : us.length ≤ 4) {n : Int32} (en : n.toInt = us.length) {a b : Addr} (A : own_A Z h a .byte (us.map Value.int)) (B : own_A Z h b .byte (ws.map Value.int)) :
    ∀ (j I : Nat) (i : Int32), I + j = us.length → i.toInt = I → (∀ k, k < I → us[k]? = ws[k]?) → own_V l Z n0 ({ frames := 0, cells := 0, slots := 0, locals := 0 } : Room) "java/lang/StringLatin1" "equals" jdk_43_method_13_code 3 (some .boolean) (fun v h' => v = some (.int (if us = ws then 1 else 0)) ∧ h = h') h 0 0 9 #[.val (.ref a), .val (.ref b), .val (.int i)] [] := by
  intro j
  induction j with
  | zero =>
    intro I i hI ei hp
    refine own_iloadN d11_9 rfl ?_
    refine own_aloadN d11_10 rfl rfl ?_
    refine own_arrlen (x := n) d11_11 A (by simpa using en) ?_
    refine own_icmpGe d11_12 (fun _ => ?_) (fun q => False.elim (by omega))
    refine own_iconst (x := 1) d11_32 rfl ?_
    have e : us = ws := by
      apply List.ext_getElem? ; intro k
      by_cases hk : k < I
      · exact hp k hk
      · rw [List.getElem?_eq_none (by omega), List.getElem?_eq_none (by omega)]
    exact own_retZ d11_33 rfl (by decide) (by decide) (by decide) ⟨by rw [if_pos e], rfl⟩
  | succ j ih =>
    intro I i hI ei hp
    obtain ⟨u, hu⟩ : ∃ u, us[I]? = some u := ⟨_, List.getElem?_eq_getElem (by omega)⟩
    obtain ⟨w, hw'⟩ : ∃ w, ws[I]? = some w := ⟨_, List.getElem?_eq_getElem (by omega)⟩
    refine own_iloadN d11_9 rfl ?_
    refine own_aloadN d11_10 rfl rfl ?_
    refine own_arrlen (x := n) d11_11 A (by simpa using en) ?_
    refine own_icmpGe d11_12 (fun q => False.elim (by omega)) (fun _ => ?_)
    refine own_aloadN d11_15 rfl rfl ?_
    refine own_iloadN d11_16 rfl ?_
    refine own_baload (i := I) (v := .int u) d11_17 A ei (by simp [hu]) ?_
    refine own_aloadN d11_18 rfl rfl ?_
    refine own_iloadN d11_19 rfl ?_
    refine own_baload (i := I) (v := .int w) d11_20 B ei (by simp [hw']) ?_
    refine own_icmpEq d11_21 (fun q => ?_) (fun q => ?_)
    · refine own_iinc (L' := #[.val (.ref a), .val (.ref b), .val (.int (i + (1 : Int32)))]) (z := 1) d11_26 rfl rfl rfl ?_
      refine own_goto d11_29 ?_
      exact ih (I + 1) (i + 1) (by omega) (own_i1 ei (by omega)) (fun k hk => by
        by_cases e : k = I
        · subst e; rw [hu, hw', Int32.toInt_inj.mp q]
        · exact hp k (by omega))
    · refine own_iconst (x := 0) d11_24 rfl ?_
      have e : us ≠ ws := by rintro rfl; cases hu.symm.trans hw'; exact q rfl
      exact own_retZ d11_25 rfl (by decide) (by decide) (by decide) ⟨by rw [if_neg e], rfl⟩

set_option maxRecDepth 65536 in
set_option maxHeartbeats 4000000 in
theorem own_sl {l : Launch} {Z : State} {a0 : Array Value} (hw : ∀ d ∈ tables_1, d.before a0 Z = true) {n0 : Nat} {h : Heap} {us ws : List Int32} (h4 : us.length ≤ 4) {n k : Int32} (en : n.toInt = us.length) (ek : k.toInt = ws.length) {a b : Addr} (A : own_A Z h a .byte (us.map Value.int)) (B : own_A Z h b .byte (ws.map Value.int)) :
    own_V l Z n0 ({ frames := 0, cells := 0, slots := 0, locals := 0 } : Room) "java/lang/StringLatin1" "equals" jdk_43_method_13_code 3 (some .boolean) (fun v h' => v = some (.int (if us = ws then 1 else 0)) ∧ h = h') h 0 0 0 #[.val (.ref a), .val (.ref b), .unset] [] := by
  refine own_aloadN d11_0 rfl rfl ?_
  refine own_arrlen (x := n) d11_1 A (by simpa using en) ?_
  refine own_aloadN d11_2 rfl rfl ?_
  refine own_arrlen (x := k) d11_3 B (by simpa using ek) ?_
  refine own_icmpNe d11_4 (fun q => ?_) (fun q => ?_)
  · refine own_iconst (x := 0) d11_34 rfl ?_
    have e : us ≠ ws := by rintro rfl; exact q (by omega)
    exact own_retZ d11_35 rfl (by decide) (by decide) (by decide) ⟨by rw [if_neg e], rfl⟩
  · refine own_iconst (x := 0) d11_7 rfl ?_
    refine own_istoreN (L' := #[.val (.ref a), .val (.ref b), .val (.int (0 : Int32))]) d11_8 rfl ?_
    exact own_el hw (by omega) h4 en A B us.length 0 0 (by omega) rfl (by intro k hk; omega)
set_option maxRecDepth 65536 in
set_option maxHeartbeats 4000000 in
theorem own_eqN {l : Launch} {Z : State} {a0 : Array Value} (hw : ∀ d ∈ tables_1, d.before a0 Z = true) {n0 : Nat} {h : Heap} (x : Addr) :
    own_V l Z n0 ({ frames := 1, cells := 0, slots := 0, locals := 14 } : Room) "java/lang/String" "equals" jdk_42_method_66_code 3 (some .boolean) (fun v h' => v = some (.int 0) ∧ h = h') h 0 0 0 #[.val (.ref x), .val .null, .unset] [] := by
  refine own_aloadN d3_0 rfl rfl ?_
  refine own_aloadN d3_1 rfl rfl ?_
  refine own_acmpNe d3_2 rfl rfl (fun _ => ?_) (fun q => False.elim (by cases q))
  refine own_aloadN d3_7 rfl rfl ?_
  refine own_instNull d3_8 ?_
  refine own_ifEq d3_11 (fun _ => ?_) (fun q => False.elim (by exact q rfl))
  refine own_iconst (x := 0) d3_54 rfl ?_
  exact own_retZ d3_55 rfl (by decide) (by decide) (by decide) ⟨rfl, rfl⟩
set_option maxRecDepth 65536 in
set_option maxHeartbeats 4000000 in
theorem own_eq {l : Launch} {Z : State} {a0 : Array Value} (hw : ∀ d ∈ tables_1, d.before a0 Z = true) {n0 : Nat} {h : Heap} {us ws : List Int32} (h4 : us.length ≤ 4) {n k : Int32} (en : n.toInt = us.length) (ek : k.toInt = ws.length) {x y bx bY : Addr} (hxy : x ≠ y) (z : Int32) (hz : z.toInt ≠ 0) (CS : Sta Z h "java/lang/String" "COMPACT_STRINGS" "Z" (.int z)) (Ex : Exa Z h x "java/lang/String") (Fcx : Fld Z h x "java/lang/String" "coder" "B" (.int 0)) (Fvx : Fld Z h x "java/lang/String" "value" "[B" (.ref bx)) (Ax : own_A Z h bx .byte (us.map Value.int)) (Ey : Exa Z h y "java/lang/String") (Fcy : Fld Z h y "java/lang/String" "coder" "B" (.int 0)) (Fvy : Fld Z h y "java/lang/String" "value" "[B" (.ref bY)) (Ay : own_A Z h bY .byte (ws.map Value.int)) :
    own_V l Z n0 ({ frames := 1, cells := 0, slots := 0, locals := 14 } : Room) "java/lang/String" "equals" jdk_42_method_66_code 3 (some .boolean) (fun v h' => v = some (.int (if us = ws then 1 else 0)) ∧ h = h') h 0 0 0 #[.val (.ref x), .val (.ref y), .unset] [] := by
  refine own_aloadN d3_0 rfl rfl ?_
  refine own_aloadN d3_1 rfl rfl ?_
  refine own_acmpNe d3_2 rfl rfl (fun _ => ?_) (fun q => False.elim (by cases q; exact hxy rfl))
  refine own_aloadN d3_7 rfl rfl ?_
  refine own_instY d3_8 (own_w hw 53 rfl) (Ins.self Ey) ?_
  refine own_ifEq d3_11 (fun q => False.elim (by exact absurd q (by decide))) (fun _ => ?_)
  refine own_aloadN d3_14 rfl rfl ?_
  refine own_castY d3_15 (own_w hw 53 rfl) (Ins.self Ey) ?_
  refine own_astoreN (L' := #[.val (.ref x), .val (.ref y), .val (.ref y)]) d3_18 rfl rfl ?_
  refine own_getS d3_19 (own_w hw 37 rfl) Via.refl CS ?_
  refine own_ifEq d3_22 (fun q => False.elim (by exact hz q)) (fun _ => ?_)
  refine own_aloadN d3_25 rfl rfl ?_
  refine own_getF d3_26 (own_w hw 49 rfl) Via.refl Fcx ?_
  refine own_aloadN d3_29 rfl rfl ?_
  refine own_getF d3_30 (own_w hw 49 rfl) Via.refl Fcy ?_
  refine own_icmpNe d3_33 (fun q => False.elim (by exact q rfl)) (fun _ => ?_)
  refine own_aloadN d3_36 rfl rfl ?_
  refine own_getF d3_37 (own_w hw 51 rfl) Via.refl Fvx ?_
  refine own_aloadN d3_40 rfl rfl ?_
  refine own_getF d3_41 (own_w hw 51 rfl) Via.refl Fvy ?_
  refine own_callS (y := (⟨"java/lang/StringLatin1", "equals", "([B[B)Z"⟩ : MethodName)) (argsL := [(.ref bx), (.ref bY)]) (rest := []) (W := 0) (cells' := 0) (slots' := 0) (R' := ({ frames := 0, cells := 0, slots := 0, locals := 0 } : Room)) (own_sl hw h4 en ek Ax Ay) (fun m => own_ef11_AA m bx bY) own_pl11 own_pd11 rfl d3_44 (own_w hw 54 rfl) (own_w hw 55 rfl) (own_w hw 56 rfl) (own_w hw 57 rfl) (by decide) rfl rfl (Nat.le_of_eq rfl) (by decide) (by decide) rfl rfl (by decide) (by decide) ?_
  rintro _ _ ⟨rfl, rfl⟩
  by_cases hu : us = ws
  · simp only [if_pos hu]
    refine own_ifEq d3_47 (fun q => False.elim (by exact absurd q (by decide))) (fun _ => ?_)
    refine own_iconst (x := 1) d3_50 rfl ?_
    refine own_goto d3_51 ?_
    exact own_retZ d3_55 rfl (by decide) (by decide) (by decide) ⟨rfl, rfl⟩
  · simp only [if_neg hu]
    refine own_ifEq d3_47 (fun _ => ?_) (fun q => False.elim (by exact q rfl))
    refine own_iconst (x := 0) d3_54 rfl ?_
    exact own_retZ d3_55 rfl (by decide) (by decide) (by decide) ⟨rfl, rfl⟩
set_option maxRecDepth 65536 in
set_option maxHeartbeats 4000000 in
theorem own_ofN {l : Launch} {Z : State} {a0 : Array Value} (hw : ∀ d ∈ tables_1, d.before a0 Z = true) {n0 : Nat} {h : Heap} {ao an x bx : Addr} (SO : Sta Z h "com/example/lightsout/lightsout/machine/PowerState" "OFF" "Lcom/example/lightsout/lightsout/machine/PowerState;" (.ref ao)) (SN : Sta Z h "com/example/lightsout/lightsout/machine/PowerState" "ON" "Lcom/example/lightsout/lightsout/machine/PowerState;" (.ref an)) (FO : Fld Z h ao "com/example/lightsout/lightsout/machine/PowerState" "value" "Ljava/lang/String;" (.ref x)) (Ex : Exa Z h x "java/lang/String") (Fcx : Fld Z h x "java/lang/String" "coder" "B" (.int 0)) (Fvx : Fld Z h x "java/lang/String" "value" "[B" (.ref bx)) (Ax : own_A Z h bx .byte (own_off.map Value.int)) (z : Int32) (hz : z.toInt ≠ 0) (CS : Sta Z h "java/lang/String" "COMPACT_STRINGS" "Z" (.int z))  :
    own_V l Z n0 ({ frames := 2, cells := 0, slots := 0, locals := 30 } : Room) "com/example/lightsout/lightsout/machine/PowerState" "of" prog_13_method_6_code 1 (some (.object "com/example/lightsout/lightsout/machine/PowerState")) (fun v h' => v = some (.ref an) ∧ h = h') h 0 0 0 #[.val .null] [] := by
  refine own_getS d2_0 (own_w hw 8 rfl) Via.refl SO ?_
  refine own_getF d2_3 (own_w hw 10 rfl) Via.refl FO ?_
  refine own_aloadN d2_6 rfl rfl ?_
  refine own_callV (y := (⟨"java/lang/String", "equals", "(Ljava/lang/Object;)Z"⟩ : MethodName)) (z := (⟨"java/lang/String", "equals", "(Ljava/lang/Object;)Z"⟩ : MethodName)) (argsL := [.null]) (rest := []) (W := 0) (cells' := 0) (slots' := 0) (R' := ({ frames := 1, cells := 0, slots := 0, locals := 14 } : Room)) (own_eqN hw x) (fun m => own_ef3_An m x) own_pl3 own_pd3 rfl Ex d2_7 (own_w hw 12 rfl) (own_w hw 13 rfl) (fun _ q => notFace_of_selects (args := #[]) (mvT q (own_w hw 15 rfl))) (own_w hw 15 rfl) (own_w hw 14 rfl) (own_w hw 17 rfl) (own_w hw 16 rfl) (by decide) rfl rfl (Nat.le_of_eq rfl) (by decide) (by decide) rfl rfl (by decide) (by decide) ?_
  rintro _ _ ⟨rfl, rfl⟩
  refine own_ifEq d2_10 (fun _ => ?_) (fun q => False.elim (by exact absurd q (by decide)))
  refine own_getS d2_19 (own_w hw 18 rfl) Via.refl SN ?_
  exact own_retA d2_22 rfl rfl rfl (by decide) (by decide) ⟨rfl, rfl⟩
set_option maxRecDepth 65536 in
set_option maxHeartbeats 4000000 in
theorem own_ofT {l : Launch} {Z : State} {a0 : Array Value} (hw : ∀ d ∈ tables_1, d.before a0 Z = true) {n0 : Nat} {h : Heap} {ao an x bx : Addr} (SO : Sta Z h "com/example/lightsout/lightsout/machine/PowerState" "OFF" "Lcom/example/lightsout/lightsout/machine/PowerState;" (.ref ao)) (SN : Sta Z h "com/example/lightsout/lightsout/machine/PowerState" "ON" "Lcom/example/lightsout/lightsout/machine/PowerState;" (.ref an)) (FO : Fld Z h ao "com/example/lightsout/lightsout/machine/PowerState" "value" "Ljava/lang/String;" (.ref x)) (Ex : Exa Z h x "java/lang/String") (Fcx : Fld Z h x "java/lang/String" "coder" "B" (.int 0)) (Fvx : Fld Z h x "java/lang/String" "value" "[B" (.ref bx)) (Ax : own_A Z h bx .byte (own_off.map Value.int)) (z : Int32) (hz : z.toInt ≠ 0) (CS : Sta Z h "java/lang/String" "COMPACT_STRINGS" "Z" (.int z)) {y bY : Addr} (hxy : x ≠ y) {ws : List Int32} {k : Int32} (ek : k.toInt = ws.length) (Ey : Exa Z h y "java/lang/String") (Fcy : Fld Z h y "java/lang/String" "coder" "B" (.int 0)) (Fvy : Fld Z h y "java/lang/String" "value" "[B" (.ref bY)) (Ay : own_A Z h bY .byte (ws.map Value.int)) (hu : own_off = ws) :
    own_V l Z n0 ({ frames := 2, cells := 0, slots := 0, locals := 30 } : Room) "com/example/lightsout/lightsout/machine/PowerState" "of" prog_13_method_6_code 1 (some (.object "com/example/lightsout/lightsout/machine/PowerState")) (fun v h' => v = some (.ref ao) ∧ h = h') h 0 0 0 #[.val (.ref y)] [] := by
  refine own_getS d2_0 (own_w hw 8 rfl) Via.refl SO ?_
  refine own_getF d2_3 (own_w hw 10 rfl) Via.refl FO ?_
  refine own_aloadN d2_6 rfl rfl ?_
  refine own_callV (y := (⟨"java/lang/String", "equals", "(Ljava/lang/Object;)Z"⟩ : MethodName)) (z := (⟨"java/lang/String", "equals", "(Ljava/lang/Object;)Z"⟩ : MethodName)) (argsL := [(.ref y)]) (rest := []) (W := 0) (cells' := 0) (slots' := 0) (R' := ({ frames := 1, cells := 0, slots := 0, locals := 14 } : Room)) (own_eq hw (us := own_off) (by decide) (n := 3) rfl ek hxy z hz CS Ex Fcx Fvx Ax Ey Fcy Fvy Ay) (fun m => own_ef3_AA m x y) own_pl3 own_pd3 rfl Ex d2_7 (own_w hw 12 rfl) (own_w hw 13 rfl) (fun _ q => notFace_of_selects (args := #[]) (mvT q (own_w hw 15 rfl))) (own_w hw 15 rfl) (own_w hw 14 rfl) (own_w hw 17 rfl) (own_w hw 16 rfl) (by decide) rfl rfl (Nat.le_of_eq rfl) (by decide) (by decide) rfl rfl (by decide) (by decide) ?_
  rintro _ _ ⟨rfl, rfl⟩
  simp only [if_pos hu]
  refine own_ifEq d2_10 (fun q => False.elim (by exact absurd q (by decide))) (fun _ => ?_)
  refine own_getS d2_13 (own_w hw 8 rfl) Via.refl SO ?_
  refine own_goto d2_16 ?_
  exact own_retA d2_22 rfl rfl rfl (by decide) (by decide) ⟨rfl, rfl⟩
set_option maxRecDepth 65536 in
set_option maxHeartbeats 4000000 in
theorem own_ofF {l : Launch} {Z : State} {a0 : Array Value} (hw : ∀ d ∈ tables_1, d.before a0 Z = true) {n0 : Nat} {h : Heap} {ao an x bx : Addr} (SO : Sta Z h "com/example/lightsout/lightsout/machine/PowerState" "OFF" "Lcom/example/lightsout/lightsout/machine/PowerState;" (.ref ao)) (SN : Sta Z h "com/example/lightsout/lightsout/machine/PowerState" "ON" "Lcom/example/lightsout/lightsout/machine/PowerState;" (.ref an)) (FO : Fld Z h ao "com/example/lightsout/lightsout/machine/PowerState" "value" "Ljava/lang/String;" (.ref x)) (Ex : Exa Z h x "java/lang/String") (Fcx : Fld Z h x "java/lang/String" "coder" "B" (.int 0)) (Fvx : Fld Z h x "java/lang/String" "value" "[B" (.ref bx)) (Ax : own_A Z h bx .byte (own_off.map Value.int)) (z : Int32) (hz : z.toInt ≠ 0) (CS : Sta Z h "java/lang/String" "COMPACT_STRINGS" "Z" (.int z)) {y bY : Addr} (hxy : x ≠ y) {ws : List Int32} {k : Int32} (ek : k.toInt = ws.length) (Ey : Exa Z h y "java/lang/String") (Fcy : Fld Z h y "java/lang/String" "coder" "B" (.int 0)) (Fvy : Fld Z h y "java/lang/String" "value" "[B" (.ref bY)) (Ay : own_A Z h bY .byte (ws.map Value.int)) (hu : own_off ≠ ws) :
    own_V l Z n0 ({ frames := 2, cells := 0, slots := 0, locals := 30 } : Room) "com/example/lightsout/lightsout/machine/PowerState" "of" prog_13_method_6_code 1 (some (.object "com/example/lightsout/lightsout/machine/PowerState")) (fun v h' => v = some (.ref an) ∧ h = h') h 0 0 0 #[.val (.ref y)] [] := by
  refine own_getS d2_0 (own_w hw 8 rfl) Via.refl SO ?_
  refine own_getF d2_3 (own_w hw 10 rfl) Via.refl FO ?_
  refine own_aloadN d2_6 rfl rfl ?_
  refine own_callV (y := (⟨"java/lang/String", "equals", "(Ljava/lang/Object;)Z"⟩ : MethodName)) (z := (⟨"java/lang/String", "equals", "(Ljava/lang/Object;)Z"⟩ : MethodName)) (argsL := [(.ref y)]) (rest := []) (W := 0) (cells' := 0) (slots' := 0) (R' := ({ frames := 1, cells := 0, slots := 0, locals := 14 } : Room)) (own_eq hw (us := own_off) (by decide) (n := 3) rfl ek hxy z hz CS Ex Fcx Fvx Ax Ey Fcy Fvy Ay) (fun m => own_ef3_AA m x y) own_pl3 own_pd3 rfl Ex d2_7 (own_w hw 12 rfl) (own_w hw 13 rfl) (fun _ q => notFace_of_selects (args := #[]) (mvT q (own_w hw 15 rfl))) (own_w hw 15 rfl) (own_w hw 14 rfl) (own_w hw 17 rfl) (own_w hw 16 rfl) (by decide) rfl rfl (Nat.le_of_eq rfl) (by decide) (by decide) rfl rfl (by decide) (by decide) ?_
  rintro _ _ ⟨rfl, rfl⟩
  simp only [if_neg hu]
  refine own_ifEq d2_10 (fun _ => ?_) (fun q => False.elim (by exact absurd q (by decide)))
  refine own_getS d2_19 (own_w hw 18 rfl) Via.refl SN ?_
  exact own_retA d2_22 rfl rfl rfl (by decide) (by decide) ⟨rfl, rfl⟩
theorem own_ew {Z : State} {a0 : Array Value} (hw : ∀ d ∈ tables_1, d.before a0 Z = true) : EW Z a0 own_EL := EW.cons (own_w hw 58 rfl) (by simp) EW.nil

set_option maxRecDepth 65536 in
set_option maxHeartbeats 4000000 in
theorem hel_i149 {l : Launch} {Z : State} {a0 : Array Value} (hw : ∀ d ∈ tables_1, d.before a0 Z = true) {n0 : Nat} {h : Heap} {x a : Addr} (gx : n0 ≤ x) (E : Exa Z h x "java/lang/String") (Fc : Fld Z h x "java/lang/String" "coder" "B" (.int 0)) (Fv : Fld Z h x "java/lang/String" "value" "[B" .null) (A : own_A Z h a .char []) (Z0 : n0 ≤ h.size) :
    hel_V l Z n0 (hel_J Z own_EL n0) ({ frames := 2, cells := 4, slots := 8, locals := 42 } : Room) "java/lang/String" "<init>" jdk_42_method_149_code 6 none (fun v h' => ∃ b : Addr, v = none ∧ Keep h h' [x] ∧ Fld Z h' x "java/lang/String" "coder" "B" (.int 0) ∧ Fld Z h' x "java/lang/String" "value" "[B" (.ref b) ∧ own_A Z h' b .byte ([])) h 0 0 0 #[.val (.ref x), .val (.ref a), .val (.int 0), .val (.int 0), .val .null, .unset] [] := by
  have K := Keep.refl h [x]
  have xlt := E.lt
  refine hel_aloadN d6_0 rfl rfl ?_
  refine hel_initO (W := 0) d6_1 (own_w hw 34 rfl) (own_w hw 35 rfl) (own_w hw 36 rfl) rfl (by decide) (Nat.le_of_eq rfl) (by decide) ?_
  refine hel_iloadN d6_4 rfl ?_
  refine hel_ifNe d6_5 (fun q => False.elim (by exact q rfl)) (fun _ => ?_)
  refine hel_aloadN d6_8 rfl rfl ?_
  refine hel_ldcE (a0 := a0) (EL := own_EL) (x := x) d6_9 (own_w hw 58 rfl) (own_sw hw) (own_ew hw) (by simp) (fun vm q => q.two gx xlt) (cells' := 2) (slots' := 4) rfl rfl (by decide) (by decide) (fun h1 e1 b1 E1 C1 V1 A1 na1 nb1 => ?_)
  have E := E.ext E1
  have Fc := Fc.ext E1
  have Fv := Fv.ext E1
  have K := Keep.ext K E1
  refine hel_getF d6_11 (own_w hw 51 rfl) Via.refl V1 ?_
  have B := A1
  refine hel_putF (ty := (.array .byte)) d6_14 (own_w hw 51 rfl) Via.refl Fv E (Or.inr ⟨(own_w hw 52 rfl), rfl, rfl⟩) (own_w hw 25 rfl) (by decide) rfl rfl gx (fun h2 W2 => ?_)
  have E := E.wr W2
  have Fc := Fc.other W2 (Or.inr (slot_ne (Or.inr (own_w hw 50 rfl)) (Or.inr (own_w hw 52 rfl)) (by decide) (t := .byte) (t' := (.array .byte)) (by decide) (by decide)))
  have Fv := Fv.same W2
  have K := Keep.wr K W2 (Or.inl (by simp))
  have B := own_A.other W2 B (Ne.symm nb1)
  refine hel_aloadN d6_17 rfl rfl ?_
  refine hel_ldcE (a0 := a0) (EL := own_EL) (x := x) d6_18 (own_w hw 58 rfl) (own_sw hw) (own_ew hw) (by simp) (fun vm q => q) (cells' := 4) (slots' := 8) rfl rfl (by decide) (by decide) (fun h3 e2 b2 E3 C3 V3 A3 na3 nb3 => ?_)
  have E := E.ext E3
  have Fc := Fc.ext E3
  have Fv := Fv.ext E3
  have K := Keep.ext K E3
  have B := own_A.ext E3 B
  refine hel_getF d6_20 (own_w hw 49 rfl) Via.refl C3 ?_
  refine hel_putF (ty := .byte) d6_23 (own_w hw 49 rfl) Via.refl Fc E (Or.inr ⟨(own_w hw 50 rfl), rfl, rfl⟩) (own_w hw 25 rfl) (by decide) rfl rfl gx (fun h4 W4 => ?_)
  have E := E.wr W4
  have Fc := Fc.same W4
  have Fv := Fv.other W4 (Or.inr (slot_ne (Or.inr (own_w hw 52 rfl)) (Or.inr (own_w hw 50 rfl)) (by decide) (t := (.array .byte)) (t' := .byte) (by decide) (by decide)))
  have K := Keep.wr K W4 (Or.inl (by simp))
  have B := own_A.other W4 B (Ne.symm nb1)
  exact hel_ret0 d6_26.1 rfl (by decide) (by decide) ⟨b1, rfl, K, Fc, Fv, B⟩
set_option maxRecDepth 65536 in
set_option maxHeartbeats 4000000 in
theorem hel_i3 {l : Launch} {Z : State} {a0 : Array Value} (hw : ∀ d ∈ tables_1, d.before a0 Z = true) {n0 : Nat} {h : Heap} {x a : Addr} (gx : n0 ≤ x) (E : Exa Z h x "java/lang/String") (Fc : Fld Z h x "java/lang/String" "coder" "B" (.int 0)) (Fv : Fld Z h x "java/lang/String" "value" "[B" .null) (A : own_A Z h a .char []) (Z0 : n0 ≤ h.size) :
    hel_V l Z n0 (hel_J Z own_EL n0) ({ frames := 3, cells := 4, slots := 8, locals := 64 } : Room) "java/lang/String" "<init>" jdk_42_method_3_code 2 none (fun v h' => ∃ b : Addr, v = none ∧ Keep h h' [x] ∧ Fld Z h' x "java/lang/String" "coder" "B" (.int 0) ∧ Fld Z h' x "java/lang/String" "value" "[B" (.ref b) ∧ own_A Z h' b .byte ([])) h 0 0 0 #[.val (.ref x), .val (.ref a)] [] := by
  refine hel_aloadN d5_0 rfl rfl ?_
  refine hel_aloadN d5_1 rfl rfl ?_
  refine hel_iconst (x := 0) d5_2 rfl ?_
  refine hel_aloadN d5_3 rfl rfl ?_
  refine hel_arrlen (x := 0) d5_4 A rfl ?_
  refine hel_aconstNull d5_5 ?_
  refine hel_callI (y := (⟨"java/lang/String", "<init>", "([CIILjava/lang/Void;)V"⟩ : MethodName)) (argsL := [(.ref a), (.int (0 : Int32)), (.int (0 : Int32)), .null]) (rest := []) (W := 0) (cells' := 4) (slots' := 8) (R' := ({ frames := 2, cells := 4, slots := 8, locals := 42 } : Room)) (hel_i149 hw gx E Fc Fv A Z0) (own_ew hw) (fun m => own_ef6_AAIIn m x a (0 : Int32) (0 : Int32)) own_pl6 own_pd6 rfl rfl d5_6 (own_w hw 30 rfl) (own_w hw 31 rfl) (own_w hw 16 rfl) (own_w hw 33 rfl) (by decide) rfl rfl (Nat.le_of_eq rfl) (by decide) (by decide) rfl rfl (by decide) (by decide) ?_
  rintro _ h1 ⟨b, rfl, r⟩
  exact hel_ret0 d5_9.1 rfl (by decide) (by decide) ⟨b, rfl, r⟩
set_option maxRecDepth 65536 in
set_option maxHeartbeats 4000000 in
theorem hel_str0 {l : Launch} {Z : State} {a0 : Array Value} (hw : ∀ d ∈ tables_1, d.before a0 Z = true) {n0 : Nat} {h : Heap} {n : Int32} (hn : n.toInt = 0) (c0 c1 c2 c3 : Int32) (Z0 : n0 ≤ h.size) :
    hel_V l Z n0 (hel_J Z own_EL n0) ({ frames := 4, cells := 6, slots := 16, locals := 80 } : Room) "com/example/lightsout/lightsout/machine/PowerStateOfPinLaw" "str" method_3_code 5 (some (.object "java/lang/String")) (fun v h' => ∃ x b : Addr, v = some (.ref x) ∧ h.size ≤ x ∧ Keep h h' [] ∧ Exa Z h' x "java/lang/String" ∧ Fld Z h' x "java/lang/String" "coder" "B" (.int 0) ∧ Fld Z h' x "java/lang/String" "value" "[B" (.ref b) ∧ own_A Z h' b .byte (own_bs ([] : List Int32))) h 0 0 0 #[.val (.int n), .val (.int c0), .val (.int c1), .val (.int c2), .val (.int c3)] [] := by
  have K := Keep.refl h []
  refine hel_iloadN d4_0 rfl ?_
  refine hel_ifNe d4_1 (fun q => False.elim (by exact q (hn.trans rfl))) (fun _ => ?_)
  refine hel_new (a0 := a0) d4_4 (own_w hw 24 rfl) (own_w hw 25 rfl) (own_w hw 16 rfl) (cells' := 1) (slots' := 4) rfl rfl (by decide) (by decide) (fun h1 E1 A1 D1 => ?_)
  obtain ⟨x, g1⟩ : ∃ z, z = h.size := ⟨_, rfl⟩
  rw [← g1] at A1 D1 ⊢
  have g_x : n0 ≤ x := by rw [g1]; exact Z0
  have K := Keep.ext K E1
  have Z0 := Nat.le_trans Z0 E1.1
  have E_x := A1
  have F_coder_x : Fld Z h1 x "java/lang/String" "coder" "B" (.int (0 : Int32)) := D1 (Or.inr (own_w hw 50 rfl)) (ty := .byte) (by decide)
  have F_value_x : Fld Z h1 x "java/lang/String" "value" "[B" .null := D1 (Or.inr (own_w hw 52 rfl)) (ty := (.array .byte)) (by decide)
  refine hel_dup d4_7 rfl ?_
  refine hel_iconst (x := 0) d4_8 rfl ?_
  refine hel_newarr (a0 := a0) (i := 0) (cap := 4) d4_9 (own_w hw 26 rfl) rfl (by decide) (by decide) (cells' := 2) (slots' := 8) rfl rfl (by decide) (by decide) (fun h2 E2 A => ?_)
  obtain ⟨a, ga⟩ : ∃ z, z = h1.size := ⟨_, rfl⟩
  rw [← ga] at A ⊢
  have ghx : h.size ≤ x := Nat.le_of_eq g1.symm
  have K := Keep.ext K E2
  have Z0 := Nat.le_trans Z0 E2.1
  have E_x := E_x.ext E2
  have F_coder_x := F_coder_x.ext E2
  have F_value_x := F_value_x.ext E2
  refine hel_callI (y := (⟨"java/lang/String", "<init>", "([C)V"⟩ : MethodName)) (argsL := [(.ref a)]) (rest := [(.ref x)]) (W := 1) (cells' := 6) (slots' := 16) (R' := ({ frames := 3, cells := 4, slots := 8, locals := 64 } : Room)) (hel_i3 hw g_x E_x F_coder_x F_value_x A Z0) (own_ew hw) (fun m => own_ef5_AA m x a) own_pl5 own_pd5 rfl rfl d4_11 (own_w hw 27 rfl) (own_w hw 28 rfl) (own_w hw 16 rfl) (own_w hw 29 rfl) (by decide) rfl rfl (Nat.le_of_eq rfl) (by decide) (by decide) rfl rfl (by decide) (by decide) ?_
  rintro _ h9 ⟨b, rfl, K9, Fc, Fv, B⟩
  have K := Keep.trans K K9 (by intro y hy; simp at hy; subst hy; exact Or.inr ghx)
  have E_x := E_x.keep K9
  exact hel_retA d4_14 rfl rfl rfl (by decide) (by decide) ⟨x, b, rfl, Nat.le_refl _, K, E_x, Fc, Fv, B⟩
set_option maxRecDepth 65536 in
set_option maxHeartbeats 4000000 in
theorem own_tailN {l : Launch} {Z : State} {a0 : Array Value} (hw : ∀ d ∈ tables_1, d.before a0 Z = true) {n0 : Nat} {h : Heap} (x0 x1 x2 x3 x4 m nr c0 c1 c2 c3 : Int32) {ao an x bx : Addr} (SO : Sta Z h "com/example/lightsout/lightsout/machine/PowerState" "OFF" "Lcom/example/lightsout/lightsout/machine/PowerState;" (.ref ao)) (SN : Sta Z h "com/example/lightsout/lightsout/machine/PowerState" "ON" "Lcom/example/lightsout/lightsout/machine/PowerState;" (.ref an)) (FO : Fld Z h ao "com/example/lightsout/lightsout/machine/PowerState" "value" "Ljava/lang/String;" (.ref x)) (Ex : Exa Z h x "java/lang/String") (Fcx : Fld Z h x "java/lang/String" "coder" "B" (.int 0)) (Fvx : Fld Z h x "java/lang/String" "value" "[B" (.ref bx)) (Ax : own_A Z h bx .byte (own_off.map Value.int)) (z : Int32) (hz : z.toInt ≠ 0) (CS : Sta Z h "java/lang/String" "COMPACT_STRINGS" "Z" (.int z)) :
    own_V l Z n0 room_1 "com/example/lightsout/lightsout/machine/PowerStateOfPinLaw" "law" code maxLocals ret (fun v h' => v = some (.int 1) ∧ h = h') h 0 0 125 #[.val (.int x0), .val (.int x1), .val (.int x2), .val (.int x3), .val (.int x4), .val (.int m), .val (.int nr), .val (.int c0), .val (.int c1), .val (.int c2), .val (.int c3), .val .null, .val (.int (0 : Int32)), .unset, .unset] [] := by
  refine own_aload d0_125 rfl rfl ?_
  refine own_callS (y := (⟨"com/example/lightsout/lightsout/machine/PowerState", "of", "(Ljava/lang/String;)Lcom/example/lightsout/lightsout/machine/PowerState;"⟩ : MethodName)) (argsL := [.null]) (rest := []) (W := 0) (cells' := 0) (slots' := 0) (R' := ({ frames := 2, cells := 0, slots := 0, locals := 30 } : Room)) (own_ofN hw SO SN FO Ex Fcx Fvx Ax z hz CS) (fun m => own_ef2_n m ) own_pl2 own_pd2 rfl d0_127 (own_w hw 4 rfl) (own_w hw 5 rfl) (own_w hw 6 rfl) (own_w hw 7 rfl) (by decide) rfl rfl (Nat.le_of_eq rfl) (by decide) (by decide) rfl rfl (by decide) (by decide) ?_
  rintro _ _ ⟨rfl, rfl⟩
  refine own_astore (L' := #[.val (.int x0), .val (.int x1), .val (.int x2), .val (.int x3), .val (.int x4), .val (.int m), .val (.int nr), .val (.int c0), .val (.int c1), .val (.int c2), .val (.int c3), .val .null, .val (.int (0 : Int32)), .val (.ref an), .unset]) d0_130 rfl rfl ?_
  refine own_iload d0_132 rfl ?_
  refine own_ifEq d0_134 (fun _ => ?_) (fun q => False.elim (by exact q rfl))
  refine own_getS d0_143 (own_w hw 20 rfl) Via.refl SN ?_
  refine own_astore (L' := #[.val (.int x0), .val (.int x1), .val (.int x2), .val (.int x3), .val (.int x4), .val (.int m), .val (.int nr), .val (.int c0), .val (.int c1), .val (.int c2), .val (.int c3), .val .null, .val (.int (0 : Int32)), .val (.ref an), .val (.ref an)]) d0_146 rfl rfl ?_
  refine own_aload d0_148 rfl rfl ?_
  refine own_aload d0_150 rfl rfl ?_
  refine own_acmpNe d0_152 rfl rfl (fun q => False.elim (by exact q rfl)) (fun _ => ?_)
  refine own_iconst (x := 1) d0_155 rfl ?_
  refine own_goto d0_156 ?_
  exact own_retZ d0_160 rfl (by decide) (by decide) (by decide) ⟨rfl, rfl⟩
set_option maxRecDepth 65536 in
set_option maxHeartbeats 4000000 in
theorem own_tail {l : Launch} {Z : State} {a0 : Array Value} (hw : ∀ d ∈ tables_1, d.before a0 Z = true) {n0 : Nat} {h : Heap} (n : Int32) (x0 x1 x2 x3 x4 m nr c0 c1 c2 c3 : Int32) {ao an x bx : Addr} (SO : Sta Z h "com/example/lightsout/lightsout/machine/PowerState" "OFF" "Lcom/example/lightsout/lightsout/machine/PowerState;" (.ref ao)) (SN : Sta Z h "com/example/lightsout/lightsout/machine/PowerState" "ON" "Lcom/example/lightsout/lightsout/machine/PowerState;" (.ref an)) (FO : Fld Z h ao "com/example/lightsout/lightsout/machine/PowerState" "value" "Ljava/lang/String;" (.ref x)) (Ex : Exa Z h x "java/lang/String") (Fcx : Fld Z h x "java/lang/String" "coder" "B" (.int 0)) (Fvx : Fld Z h x "java/lang/String" "value" "[B" (.ref bx)) (Ax : own_A Z h bx .byte (own_off.map Value.int)) (z : Int32) (hz : z.toInt ≠ 0) (CS : Sta Z h "java/lang/String" "COMPACT_STRINGS" "Z" (.int z)) {y bY : Addr} (hxy : x ≠ y) {ws : List Int32} {k : Int32} (ek : k.toInt = ws.length) (Ey : Exa Z h y "java/lang/String") (Fcy : Fld Z h y "java/lang/String" "coder" "B" (.int 0)) (Fvy : Fld Z h y "java/lang/String" "value" "[B" (.ref bY)) (Ay : own_A Z h bY .byte (ws.map Value.int)) (hoff : own_off = ws ↔ n.toInt = 3 ∧ c0.toInt = 79 ∧ c1.toInt = 102 ∧ c2.toInt = 102) :
    own_V l Z n0 room_1 "com/example/lightsout/lightsout/machine/PowerStateOfPinLaw" "law" code maxLocals ret (fun v h' => v = some (.int 1) ∧ h = h') h 6 16 91 #[.val (.int x0), .val (.int x1), .val (.int x2), .val (.int x3), .val (.int x4), .val (.int m), .val (.int nr), .val (.int c0), .val (.int c1), .val (.int c2), .val (.int c3), .val (.ref y), .unset, .val (.int n), .unset] [] := by
  have l3 : (3 : Int32).toInt = 3 := rfl
  have l79 : (79 : Int32).toInt = 79 := rfl
  have l102 : (102 : Int32).toInt = 102 := rfl
  refine own_iload d0_91 rfl ?_
  refine own_iconst (x := 3) d0_93 rfl ?_
  refine own_icmpNe d0_94 (fun h94 => ?_) (fun h94 => ?_)
  · have hu : own_off ≠ ws := fun e => by
      have := hoff.mp e
      omega
    refine own_iconst (x := 0) d0_122 rfl ?_
    refine own_istore (L' := #[.val (.int x0), .val (.int x1), .val (.int x2), .val (.int x3), .val (.int x4), .val (.int m), .val (.int nr), .val (.int c0), .val (.int c1), .val (.int c2), .val (.int c3), .val (.ref y), .val (.int (0 : Int32)), .val (.int n), .unset]) d0_123 rfl ?_
    refine own_aload d0_125 rfl rfl ?_
    refine own_callS (y := (⟨"com/example/lightsout/lightsout/machine/PowerState", "of", "(Ljava/lang/String;)Lcom/example/lightsout/lightsout/machine/PowerState;"⟩ : MethodName)) (argsL := [(.ref y)]) (rest := []) (W := 0) (cells' := 6) (slots' := 16) (R' := ({ frames := 2, cells := 0, slots := 0, locals := 30 } : Room)) (own_ofF hw SO SN FO Ex Fcx Fvx Ax z hz CS hxy ek Ey Fcy Fvy Ay hu) (fun m => own_ef2_A m y) own_pl2 own_pd2 rfl d0_127 (own_w hw 4 rfl) (own_w hw 5 rfl) (own_w hw 6 rfl) (own_w hw 7 rfl) (by decide) rfl rfl (Nat.le_of_eq rfl) (by decide) (by decide) rfl rfl (by decide) (by decide) ?_
    rintro _ _ ⟨rfl, rfl⟩
    refine own_astore (L' := #[.val (.int x0), .val (.int x1), .val (.int x2), .val (.int x3), .val (.int x4), .val (.int m), .val (.int nr), .val (.int c0), .val (.int c1), .val (.int c2), .val (.int c3), .val (.ref y), .val (.int (0 : Int32)), .val (.ref an), .unset]) d0_130 rfl rfl ?_
    refine own_iload d0_132 rfl ?_
    refine own_ifEq d0_134 (fun _ => ?_) (fun q => False.elim (by exact q rfl))
    refine own_getS d0_143 (own_w hw 20 rfl) Via.refl SN ?_
    refine own_astore (L' := #[.val (.int x0), .val (.int x1), .val (.int x2), .val (.int x3), .val (.int x4), .val (.int m), .val (.int nr), .val (.int c0), .val (.int c1), .val (.int c2), .val (.int c3), .val (.ref y), .val (.int (0 : Int32)), .val (.ref an), .val (.ref an)]) d0_146 rfl rfl ?_
    refine own_aload d0_148 rfl rfl ?_
    refine own_aload d0_150 rfl rfl ?_
    refine own_acmpNe d0_152 rfl rfl (fun q => False.elim (by exact q rfl)) (fun _ => ?_)
    refine own_iconst (x := 1) d0_155 rfl ?_
    refine own_goto d0_156 ?_
    exact own_retZ d0_160 rfl (by decide) (by decide) (by decide) ⟨rfl, rfl⟩
  · refine own_iload d0_97 rfl ?_
    refine own_bipush (x := 79) d0_99 rfl ?_
    refine own_icmpNe d0_101 (fun h101 => ?_) (fun h101 => ?_)
    · have hu : own_off ≠ ws := fun e => by
        have := hoff.mp e
        omega
      refine own_iconst (x := 0) d0_122 rfl ?_
      refine own_istore (L' := #[.val (.int x0), .val (.int x1), .val (.int x2), .val (.int x3), .val (.int x4), .val (.int m), .val (.int nr), .val (.int c0), .val (.int c1), .val (.int c2), .val (.int c3), .val (.ref y), .val (.int (0 : Int32)), .val (.int n), .unset]) d0_123 rfl ?_
      refine own_aload d0_125 rfl rfl ?_
      refine own_callS (y := (⟨"com/example/lightsout/lightsout/machine/PowerState", "of", "(Ljava/lang/String;)Lcom/example/lightsout/lightsout/machine/PowerState;"⟩ : MethodName)) (argsL := [(.ref y)]) (rest := []) (W := 0) (cells' := 6) (slots' := 16) (R' := ({ frames := 2, cells := 0, slots := 0, locals := 30 } : Room)) (own_ofF hw SO SN FO Ex Fcx Fvx Ax z hz CS hxy ek Ey Fcy Fvy Ay hu) (fun m => own_ef2_A m y) own_pl2 own_pd2 rfl d0_127 (own_w hw 4 rfl) (own_w hw 5 rfl) (own_w hw 6 rfl) (own_w hw 7 rfl) (by decide) rfl rfl (Nat.le_of_eq rfl) (by decide) (by decide) rfl rfl (by decide) (by decide) ?_
      rintro _ _ ⟨rfl, rfl⟩
      refine own_astore (L' := #[.val (.int x0), .val (.int x1), .val (.int x2), .val (.int x3), .val (.int x4), .val (.int m), .val (.int nr), .val (.int c0), .val (.int c1), .val (.int c2), .val (.int c3), .val (.ref y), .val (.int (0 : Int32)), .val (.ref an), .unset]) d0_130 rfl rfl ?_
      refine own_iload d0_132 rfl ?_
      refine own_ifEq d0_134 (fun _ => ?_) (fun q => False.elim (by exact q rfl))
      refine own_getS d0_143 (own_w hw 20 rfl) Via.refl SN ?_
      refine own_astore (L' := #[.val (.int x0), .val (.int x1), .val (.int x2), .val (.int x3), .val (.int x4), .val (.int m), .val (.int nr), .val (.int c0), .val (.int c1), .val (.int c2), .val (.int c3), .val (.ref y), .val (.int (0 : Int32)), .val (.ref an), .val (.ref an)]) d0_146 rfl rfl ?_
      refine own_aload d0_148 rfl rfl ?_
      refine own_aload d0_150 rfl rfl ?_
      refine own_acmpNe d0_152 rfl rfl (fun q => False.elim (by exact q rfl)) (fun _ => ?_)
      refine own_iconst (x := 1) d0_155 rfl ?_
      refine own_goto d0_156 ?_
      exact own_retZ d0_160 rfl (by decide) (by decide) (by decide) ⟨rfl, rfl⟩
    · refine own_iload d0_104 rfl ?_
      refine own_bipush (x := 102) d0_106 rfl ?_
      refine own_icmpNe d0_108 (fun h108 => ?_) (fun h108 => ?_)
      · have hu : own_off ≠ ws := fun e => by
          have := hoff.mp e
          omega
        refine own_iconst (x := 0) d0_122 rfl ?_
        refine own_istore (L' := #[.val (.int x0), .val (.int x1), .val (.int x2), .val (.int x3), .val (.int x4), .val (.int m), .val (.int nr), .val (.int c0), .val (.int c1), .val (.int c2), .val (.int c3), .val (.ref y), .val (.int (0 : Int32)), .val (.int n), .unset]) d0_123 rfl ?_
        refine own_aload d0_125 rfl rfl ?_
        refine own_callS (y := (⟨"com/example/lightsout/lightsout/machine/PowerState", "of", "(Ljava/lang/String;)Lcom/example/lightsout/lightsout/machine/PowerState;"⟩ : MethodName)) (argsL := [(.ref y)]) (rest := []) (W := 0) (cells' := 6) (slots' := 16) (R' := ({ frames := 2, cells := 0, slots := 0, locals := 30 } : Room)) (own_ofF hw SO SN FO Ex Fcx Fvx Ax z hz CS hxy ek Ey Fcy Fvy Ay hu) (fun m => own_ef2_A m y) own_pl2 own_pd2 rfl d0_127 (own_w hw 4 rfl) (own_w hw 5 rfl) (own_w hw 6 rfl) (own_w hw 7 rfl) (by decide) rfl rfl (Nat.le_of_eq rfl) (by decide) (by decide) rfl rfl (by decide) (by decide) ?_
        rintro _ _ ⟨rfl, rfl⟩
        refine own_astore (L' := #[.val (.int x0), .val (.int x1), .val (.int x2), .val (.int x3), .val (.int x4), .val (.int m), .val (.int nr), .val (.int c0), .val (.int c1), .val (.int c2), .val (.int c3), .val (.ref y), .val (.int (0 : Int32)), .val (.ref an), .unset]) d0_130 rfl rfl ?_
        refine own_iload d0_132 rfl ?_
        refine own_ifEq d0_134 (fun _ => ?_) (fun q => False.elim (by exact q rfl))
        refine own_getS d0_143 (own_w hw 20 rfl) Via.refl SN ?_
        refine own_astore (L' := #[.val (.int x0), .val (.int x1), .val (.int x2), .val (.int x3), .val (.int x4), .val (.int m), .val (.int nr), .val (.int c0), .val (.int c1), .val (.int c2), .val (.int c3), .val (.ref y), .val (.int (0 : Int32)), .val (.ref an), .val (.ref an)]) d0_146 rfl rfl ?_
        refine own_aload d0_148 rfl rfl ?_
        refine own_aload d0_150 rfl rfl ?_
        refine own_acmpNe d0_152 rfl rfl (fun q => False.elim (by exact q rfl)) (fun _ => ?_)
        refine own_iconst (x := 1) d0_155 rfl ?_
        refine own_goto d0_156 ?_
        exact own_retZ d0_160 rfl (by decide) (by decide) (by decide) ⟨rfl, rfl⟩
      · refine own_iload d0_111 rfl ?_
        refine own_bipush (x := 102) d0_113 rfl ?_
        refine own_icmpNe d0_115 (fun h115 => ?_) (fun h115 => ?_)
        · have hu : own_off ≠ ws := fun e => by
            have := hoff.mp e
            omega
          refine own_iconst (x := 0) d0_122 rfl ?_
          refine own_istore (L' := #[.val (.int x0), .val (.int x1), .val (.int x2), .val (.int x3), .val (.int x4), .val (.int m), .val (.int nr), .val (.int c0), .val (.int c1), .val (.int c2), .val (.int c3), .val (.ref y), .val (.int (0 : Int32)), .val (.int n), .unset]) d0_123 rfl ?_
          refine own_aload d0_125 rfl rfl ?_
          refine own_callS (y := (⟨"com/example/lightsout/lightsout/machine/PowerState", "of", "(Ljava/lang/String;)Lcom/example/lightsout/lightsout/machine/PowerState;"⟩ : MethodName)) (argsL := [(.ref y)]) (rest := []) (W := 0) (cells' := 6) (slots' := 16) (R' := ({ frames := 2, cells := 0, slots := 0, locals := 30 } : Room)) (own_ofF hw SO SN FO Ex Fcx Fvx Ax z hz CS hxy ek Ey Fcy Fvy Ay hu) (fun m => own_ef2_A m y) own_pl2 own_pd2 rfl d0_127 (own_w hw 4 rfl) (own_w hw 5 rfl) (own_w hw 6 rfl) (own_w hw 7 rfl) (by decide) rfl rfl (Nat.le_of_eq rfl) (by decide) (by decide) rfl rfl (by decide) (by decide) ?_
          rintro _ _ ⟨rfl, rfl⟩
          refine own_astore (L' := #[.val (.int x0), .val (.int x1), .val (.int x2), .val (.int x3), .val (.int x4), .val (.int m), .val (.int nr), .val (.int c0), .val (.int c1), .val (.int c2), .val (.int c3), .val (.ref y), .val (.int (0 : Int32)), .val (.ref an), .unset]) d0_130 rfl rfl ?_
          refine own_iload d0_132 rfl ?_
          refine own_ifEq d0_134 (fun _ => ?_) (fun q => False.elim (by exact q rfl))
          refine own_getS d0_143 (own_w hw 20 rfl) Via.refl SN ?_
          refine own_astore (L' := #[.val (.int x0), .val (.int x1), .val (.int x2), .val (.int x3), .val (.int x4), .val (.int m), .val (.int nr), .val (.int c0), .val (.int c1), .val (.int c2), .val (.int c3), .val (.ref y), .val (.int (0 : Int32)), .val (.ref an), .val (.ref an)]) d0_146 rfl rfl ?_
          refine own_aload d0_148 rfl rfl ?_
          refine own_aload d0_150 rfl rfl ?_
          refine own_acmpNe d0_152 rfl rfl (fun q => False.elim (by exact q rfl)) (fun _ => ?_)
          refine own_iconst (x := 1) d0_155 rfl ?_
          refine own_goto d0_156 ?_
          exact own_retZ d0_160 rfl (by decide) (by decide) (by decide) ⟨rfl, rfl⟩
        · have hu : own_off = ws := hoff.mpr (by omega)
          refine own_iconst (x := 1) d0_118 rfl ?_
          refine own_goto d0_119 ?_
          refine own_istore (L' := #[.val (.int x0), .val (.int x1), .val (.int x2), .val (.int x3), .val (.int x4), .val (.int m), .val (.int nr), .val (.int c0), .val (.int c1), .val (.int c2), .val (.int c3), .val (.ref y), .val (.int (1 : Int32)), .val (.int n), .unset]) d0_123 rfl ?_
          refine own_aload d0_125 rfl rfl ?_
          refine own_callS (y := (⟨"com/example/lightsout/lightsout/machine/PowerState", "of", "(Ljava/lang/String;)Lcom/example/lightsout/lightsout/machine/PowerState;"⟩ : MethodName)) (argsL := [(.ref y)]) (rest := []) (W := 0) (cells' := 6) (slots' := 16) (R' := ({ frames := 2, cells := 0, slots := 0, locals := 30 } : Room)) (own_ofT hw SO SN FO Ex Fcx Fvx Ax z hz CS hxy ek Ey Fcy Fvy Ay hu) (fun m => own_ef2_A m y) own_pl2 own_pd2 rfl d0_127 (own_w hw 4 rfl) (own_w hw 5 rfl) (own_w hw 6 rfl) (own_w hw 7 rfl) (by decide) rfl rfl (Nat.le_of_eq rfl) (by decide) (by decide) rfl rfl (by decide) (by decide) ?_
          rintro _ _ ⟨rfl, rfl⟩
          refine own_astore (L' := #[.val (.int x0), .val (.int x1), .val (.int x2), .val (.int x3), .val (.int x4), .val (.int m), .val (.int nr), .val (.int c0), .val (.int c1), .val (.int c2), .val (.int c3), .val (.ref y), .val (.int (1 : Int32)), .val (.ref ao), .unset]) d0_130 rfl rfl ?_
          refine own_iload d0_132 rfl ?_
          refine own_ifEq d0_134 (fun q => False.elim (by exact absurd q (by decide))) (fun _ => ?_)
          refine own_getS d0_137 (own_w hw 61 rfl) Via.refl SO ?_
          refine own_goto d0_140 ?_
          refine own_astore (L' := #[.val (.int x0), .val (.int x1), .val (.int x2), .val (.int x3), .val (.int x4), .val (.int m), .val (.int nr), .val (.int c0), .val (.int c1), .val (.int c2), .val (.int c3), .val (.ref y), .val (.int (1 : Int32)), .val (.ref ao), .val (.ref ao)]) d0_146 rfl rfl ?_
          refine own_aload d0_148 rfl rfl ?_
          refine own_aload d0_150 rfl rfl ?_
          refine own_acmpNe d0_152 rfl rfl (fun q => False.elim (by exact q rfl)) (fun _ => ?_)
          refine own_iconst (x := 1) d0_155 rfl ?_
          refine own_goto d0_156 ?_
          exact own_retZ d0_160 rfl (by decide) (by decide) (by decide) ⟨rfl, rfl⟩
theorem own_mm {m : Int32} (h0 : 0 ≤ m.toInt) (h1 : m.toInt ≤ 7) (hm : ¬ m.toInt = 0) {n : Int32} (e : (m - 1) % 5 = n) : 0 ≤ n.toInt ∧ n.toInt ≤ 4 := by
  have a1 := c_isub m 1; have a2 := Int32.toInt_lt (m - 1); have a3 := Int32.le_toInt (m - 1)
  rw [show (1 : Int32).toInt = 1 from rfl] at a1
  have a4 := (c_irem (m - 1) 5 5 rfl).1 (by omega)
  rw [e] at a4
  omega
theorem own_o3 {c0 c1 c2 : Int32} (b0 : 0 ≤ c0.toInt ∧ c0.toInt ≤ 255) (b1 : 0 ≤ c1.toInt ∧ c1.toInt ≤ 255) (b2 : 0 ≤ c2.toInt ∧ c2.toInt ≤ 255) {n : Int32} (hn : n.toInt = 3) : own_off = [own_f c0, own_f c1, own_f c2] ↔ n.toInt = 3 ∧ c0.toInt = 79 ∧ c1.toInt = 102 ∧ c2.toInt = 102 := by
  have e0 := own_fe b0.1 b0.2 79 (by decide); have e1 := own_fe b1.1 b1.2 102 (by decide); have e2 := own_fe b2.1 b2.2 102 (by decide)
  have l79 : (79 : Int32).toInt = 79 := rfl
  have l102 : (102 : Int32).toInt = 102 := rfl
  rw [l79] at e0; rw [l102] at e1 e2
  simp only [own_off, List.cons.injEq, and_true, hn, true_and, eq_comm (a := (79 : Int32)), eq_comm (a := (102 : Int32)), e0, e1, e2]
theorem own_on {n : Int32} {ws : List Int32} {c0 c1 c2 : Int32} (hl : ws.length ≠ 3) (hn : n.toInt ≠ 3) : own_off = ws ↔ n.toInt = 3 ∧ c0.toInt = 79 ∧ c1.toInt = 102 ∧ c2.toInt = 102 := ⟨fun e => absurd (e ▸ rfl) hl, fun e => absurd e.1 hn⟩

set_option maxRecDepth 65536 in
set_option maxHeartbeats 4000000 in
theorem hel_mid {l : Launch} {Z : State} {a0 : Array Value} (hw : ∀ d ∈ tables_1, d.before a0 Z = true) {n0 : Nat} {h : Heap} (x0 x1 x2 x3 x4 m nr : Int32) (hm0 : 0 ≤ m.toInt) (hm7 : m.toInt ≤ 7) (Z0 : n0 ≤ h.size) {ao an x bx : Addr} (SO : Sta Z h "com/example/lightsout/lightsout/machine/PowerState" "OFF" "Lcom/example/lightsout/lightsout/machine/PowerState;" (.ref ao)) (SN : Sta Z h "com/example/lightsout/lightsout/machine/PowerState" "ON" "Lcom/example/lightsout/lightsout/machine/PowerState;" (.ref an)) (FO : Fld Z h ao "com/example/lightsout/lightsout/machine/PowerState" "value" "Ljava/lang/String;" (.ref x)) (Ex : Exa Z h x "java/lang/String") (Fcx : Fld Z h x "java/lang/String" "coder" "B" (.int 0)) (Fvx : Fld Z h x "java/lang/String" "value" "[B" (.ref bx)) (Ax : own_A Z h bx .byte (own_off.map Value.int)) (z : Int32) (hz : z.toInt ≠ 0) (CS : Sta Z h "java/lang/String" "COMPACT_STRINGS" "Z" (.int z)) :
    hel_V l Z n0 (hel_J Z own_EL n0) room_1 "com/example/lightsout/lightsout/machine/PowerStateOfPinLaw" "law" code maxLocals ret (fun v _ => v = some (.int 1)) h 0 0 21 #[.val (.int x0), .val (.int x1), .val (.int x2), .val (.int x3), .val (.int x4), .val (.int m), .val (.int nr), .unset, .unset, .unset, .unset, .unset, .unset, .unset, .unset] [] := by
  refine hel_iloadN d0_21 rfl ?_
  refine hel_iload d0_22 rfl ?_
  refine hel_callN (y := (⟨"com/example/lightsout/lightsout/machine/PowerStateOfPinLaw", "ch", "(IZ)C"⟩ : MethodName)) (argsL := [(.int x1), (.int nr)]) (rest := []) (W := 0) (cells' := 0) (slots' := 0) (R' := ({ frames := 0, cells := 0, slots := 0, locals := 0 } : Room)) (own_ch hw x1 nr) (fun v h' q => by obtain ⟨_, _, _, _, rfl⟩ := q; exact Keep.refl h []) (fun m => own_ef1_II m x1 nr) own_pl1 own_pd1 rfl d0_24 (own_w hw 0 rfl) (own_w hw 1 rfl) (own_w hw 2 rfl) (own_w hw 3 rfl) (by decide) rfl rfl (Nat.le_of_eq rfl) (by decide) (by decide) rfl rfl (by decide) (by decide) ?_
  rintro _ _ ⟨c0, rfl, p0, q0, rfl⟩
  have b0 := And.intro p0 q0
  refine hel_istore (L' := #[.val (.int x0), .val (.int x1), .val (.int x2), .val (.int x3), .val (.int x4), .val (.int m), .val (.int nr), .val (.int c0), .unset, .unset, .unset, .unset, .unset, .unset, .unset]) d0_27 rfl ?_
  refine hel_iloadN d0_29 rfl ?_
  refine hel_iload d0_30 rfl ?_
  refine hel_callN (y := (⟨"com/example/lightsout/lightsout/machine/PowerStateOfPinLaw", "ch", "(IZ)C"⟩ : MethodName)) (argsL := [(.int x2), (.int nr)]) (rest := []) (W := 0) (cells' := 0) (slots' := 0) (R' := ({ frames := 0, cells := 0, slots := 0, locals := 0 } : Room)) (own_ch hw x2 nr) (fun v h' q => by obtain ⟨_, _, _, _, rfl⟩ := q; exact Keep.refl h []) (fun m => own_ef1_II m x2 nr) own_pl1 own_pd1 rfl d0_32 (own_w hw 0 rfl) (own_w hw 1 rfl) (own_w hw 2 rfl) (own_w hw 3 rfl) (by decide) rfl rfl (Nat.le_of_eq rfl) (by decide) (by decide) rfl rfl (by decide) (by decide) ?_
  rintro _ _ ⟨c1, rfl, p1, q1, rfl⟩
  have b1 := And.intro p1 q1
  refine hel_istore (L' := #[.val (.int x0), .val (.int x1), .val (.int x2), .val (.int x3), .val (.int x4), .val (.int m), .val (.int nr), .val (.int c0), .val (.int c1), .unset, .unset, .unset, .unset, .unset, .unset]) d0_35 rfl ?_
  refine hel_iloadN d0_37 rfl ?_
  refine hel_iload d0_38 rfl ?_
  refine hel_callN (y := (⟨"com/example/lightsout/lightsout/machine/PowerStateOfPinLaw", "ch", "(IZ)C"⟩ : MethodName)) (argsL := [(.int x3), (.int nr)]) (rest := []) (W := 0) (cells' := 0) (slots' := 0) (R' := ({ frames := 0, cells := 0, slots := 0, locals := 0 } : Room)) (own_ch hw x3 nr) (fun v h' q => by obtain ⟨_, _, _, _, rfl⟩ := q; exact Keep.refl h []) (fun m => own_ef1_II m x3 nr) own_pl1 own_pd1 rfl d0_40 (own_w hw 0 rfl) (own_w hw 1 rfl) (own_w hw 2 rfl) (own_w hw 3 rfl) (by decide) rfl rfl (Nat.le_of_eq rfl) (by decide) (by decide) rfl rfl (by decide) (by decide) ?_
  rintro _ _ ⟨c2, rfl, p2, q2, rfl⟩
  have b2 := And.intro p2 q2
  refine hel_istore (L' := #[.val (.int x0), .val (.int x1), .val (.int x2), .val (.int x3), .val (.int x4), .val (.int m), .val (.int nr), .val (.int c0), .val (.int c1), .val (.int c2), .unset, .unset, .unset, .unset, .unset]) d0_43 rfl ?_
  refine hel_iload d0_45 rfl ?_
  refine hel_iload d0_47 rfl ?_
  refine hel_callN (y := (⟨"com/example/lightsout/lightsout/machine/PowerStateOfPinLaw", "ch", "(IZ)C"⟩ : MethodName)) (argsL := [(.int x4), (.int nr)]) (rest := []) (W := 0) (cells' := 0) (slots' := 0) (R' := ({ frames := 0, cells := 0, slots := 0, locals := 0 } : Room)) (own_ch hw x4 nr) (fun v h' q => by obtain ⟨_, _, _, _, rfl⟩ := q; exact Keep.refl h []) (fun m => own_ef1_II m x4 nr) own_pl1 own_pd1 rfl d0_49 (own_w hw 0 rfl) (own_w hw 1 rfl) (own_w hw 2 rfl) (own_w hw 3 rfl) (by decide) rfl rfl (Nat.le_of_eq rfl) (by decide) (by decide) rfl rfl (by decide) (by decide) ?_
  rintro _ _ ⟨c3, rfl, p3, q3, rfl⟩
  have b3 := And.intro p3 q3
  refine hel_istore (L' := #[.val (.int x0), .val (.int x1), .val (.int x2), .val (.int x3), .val (.int x4), .val (.int m), .val (.int nr), .val (.int c0), .val (.int c1), .val (.int c2), .val (.int c3), .unset, .unset, .unset, .unset]) d0_52 rfl ?_
  refine hel_iload d0_54 rfl ?_
  refine hel_ifNe d0_56 (fun h56 => ?_) (fun h56 => ?_)
  · refine hel_iload d0_68 rfl ?_
    refine hel_iconst (x := 1) d0_70 rfl ?_
    refine hel_isub d0_71 ?_
    refine hel_iconst (x := 5) d0_72 rfl ?_
    refine hel_irem d0_73 (by decide) ?_
    generalize g_n : ((m - (1 : Int32)) % (5 : Int32)) = n
    have hn := own_mm hm0 hm7 h56 g_n
    clear g_n
    refine hel_istore (L' := #[.val (.int x0), .val (.int x1), .val (.int x2), .val (.int x3), .val (.int x4), .val (.int m), .val (.int nr), .val (.int c0), .val (.int c1), .val (.int c2), .val (.int c3), .unset, .unset, .val (.int n), .unset]) d0_74 rfl ?_
    refine hel_iload d0_76 rfl ?_
    refine hel_iload d0_78 rfl ?_
    refine hel_iload d0_80 rfl ?_
    refine hel_iload d0_82 rfl ?_
    refine hel_iload d0_84 rfl ?_
    have hk : n.toInt = 0 ∨ n.toInt = 1 ∨ n.toInt = 2 ∨ n.toInt = 3 ∨ n.toInt = 4 := by omega
    rcases hk with hk | hk | hk | hk | hk
    · refine hel_callS (y := (⟨"com/example/lightsout/lightsout/machine/PowerStateOfPinLaw", "str", "(ICCCC)Ljava/lang/String;"⟩ : MethodName)) (argsL := [(.int n), (.int c0), (.int c1), (.int c2), (.int c3)]) (rest := []) (W := 0) (cells' := 6) (slots' := 16) (R' := ({ frames := 4, cells := 6, slots := 16, locals := 80 } : Room)) (hel_str0 hw hk c0 c1 c2 c3 Z0) (own_ew hw) (fun m => own_ef4_IIIII m n c0 c1 c2 c3) own_pl4 own_pd4 rfl d0_86 (own_w hw 21 rfl) (own_w hw 22 rfl) (own_w hw 2 rfl) (own_w hw 23 rfl) (by decide) rfl rfl (Nat.le_of_eq rfl) (by decide) (by decide) rfl rfl (by decide) (by decide) ?_
      rintro _ h' ⟨y, bY, rfl, gy, K, Ey, Fcy, Fvy, Ay⟩
      refine hel_astore (L' := #[.val (.int x0), .val (.int x1), .val (.int x2), .val (.int x3), .val (.int x4), .val (.int m), .val (.int nr), .val (.int c0), .val (.int c1), .val (.int c2), .val (.int c3), .val (.ref y), .unset, .val (.int n), .unset]) d0_89 rfl rfl ?_
      have hxy : x ≠ y := Nat.ne_of_lt (Nat.lt_of_lt_of_le Ex.lt gy)
      exact hel_of (own_tail hw n x0 x1 x2 x3 x4 m nr c0 c1 c2 c3 (own_skeep SO K) (own_skeep SN K) (FO.keep K (by simp)) (Ex.keep K) (Fcx.keep K (by simp)) (Fvx.keep K (by simp)) (Ax.keep K (by simp)) z hz (own_skeep CS K) hxy (ws := ([] : List Int32)) (k := 0) rfl Ey Fcy Fvy Ay (own_on (by simp) (by omega))) (fun v h' q => ⟨Nat.le_of_eq (congrArg Array.size q.2), q.1⟩)
    · refine hel_callN (y := (⟨"com/example/lightsout/lightsout/machine/PowerStateOfPinLaw", "str", "(ICCCC)Ljava/lang/String;"⟩ : MethodName)) (argsL := [(.int n), (.int c0), (.int c1), (.int c2), (.int c3)]) (rest := []) (W := 0) (cells' := 6) (slots' := 16) (R' := ({ frames := 4, cells := 6, slots := 16, locals := 80 } : Room)) (own_str1 hw hk c0 c1 c2 c3 b0 b1 b2 b3 z hz CS Z0) (fun v h' q => by obtain ⟨_, _, _, _, K, _⟩ := q; exact K) (fun m => own_ef4_IIIII m n c0 c1 c2 c3) own_pl4 own_pd4 rfl d0_86 (own_w hw 21 rfl) (own_w hw 22 rfl) (own_w hw 2 rfl) (own_w hw 23 rfl) (by decide) rfl rfl (Nat.le_of_eq rfl) (by decide) (by decide) rfl rfl (by decide) (by decide) ?_
      rintro _ h' ⟨y, bY, rfl, gy, K, Ey, Fcy, Fvy, Ay⟩
      refine hel_astore (L' := #[.val (.int x0), .val (.int x1), .val (.int x2), .val (.int x3), .val (.int x4), .val (.int m), .val (.int nr), .val (.int c0), .val (.int c1), .val (.int c2), .val (.int c3), .val (.ref y), .unset, .val (.int n), .unset]) d0_89 rfl rfl ?_
      have hxy : x ≠ y := Nat.ne_of_lt (Nat.lt_of_lt_of_le Ex.lt gy)
      exact hel_of (own_tail hw n x0 x1 x2 x3 x4 m nr c0 c1 c2 c3 (own_skeep SO K) (own_skeep SN K) (FO.keep K (by simp)) (Ex.keep K) (Fcx.keep K (by simp)) (Fvx.keep K (by simp)) (Ax.keep K (by simp)) z hz (own_skeep CS K) hxy (ws := ([own_f c0] : List Int32)) (k := 1) rfl Ey Fcy Fvy Ay (own_on (by simp) (by omega))) (fun v h' q => ⟨Nat.le_of_eq (congrArg Array.size q.2), q.1⟩)
    · refine hel_callN (y := (⟨"com/example/lightsout/lightsout/machine/PowerStateOfPinLaw", "str", "(ICCCC)Ljava/lang/String;"⟩ : MethodName)) (argsL := [(.int n), (.int c0), (.int c1), (.int c2), (.int c3)]) (rest := []) (W := 0) (cells' := 6) (slots' := 16) (R' := ({ frames := 4, cells := 6, slots := 16, locals := 80 } : Room)) (own_str2 hw hk c0 c1 c2 c3 b0 b1 b2 b3 z hz CS Z0) (fun v h' q => by obtain ⟨_, _, _, _, K, _⟩ := q; exact K) (fun m => own_ef4_IIIII m n c0 c1 c2 c3) own_pl4 own_pd4 rfl d0_86 (own_w hw 21 rfl) (own_w hw 22 rfl) (own_w hw 2 rfl) (own_w hw 23 rfl) (by decide) rfl rfl (Nat.le_of_eq rfl) (by decide) (by decide) rfl rfl (by decide) (by decide) ?_
      rintro _ h' ⟨y, bY, rfl, gy, K, Ey, Fcy, Fvy, Ay⟩
      refine hel_astore (L' := #[.val (.int x0), .val (.int x1), .val (.int x2), .val (.int x3), .val (.int x4), .val (.int m), .val (.int nr), .val (.int c0), .val (.int c1), .val (.int c2), .val (.int c3), .val (.ref y), .unset, .val (.int n), .unset]) d0_89 rfl rfl ?_
      have hxy : x ≠ y := Nat.ne_of_lt (Nat.lt_of_lt_of_le Ex.lt gy)
      exact hel_of (own_tail hw n x0 x1 x2 x3 x4 m nr c0 c1 c2 c3 (own_skeep SO K) (own_skeep SN K) (FO.keep K (by simp)) (Ex.keep K) (Fcx.keep K (by simp)) (Fvx.keep K (by simp)) (Ax.keep K (by simp)) z hz (own_skeep CS K) hxy (ws := ([own_f c0, own_f c1] : List Int32)) (k := 2) rfl Ey Fcy Fvy Ay (own_on (by simp) (by omega))) (fun v h' q => ⟨Nat.le_of_eq (congrArg Array.size q.2), q.1⟩)
    · refine hel_callN (y := (⟨"com/example/lightsout/lightsout/machine/PowerStateOfPinLaw", "str", "(ICCCC)Ljava/lang/String;"⟩ : MethodName)) (argsL := [(.int n), (.int c0), (.int c1), (.int c2), (.int c3)]) (rest := []) (W := 0) (cells' := 6) (slots' := 16) (R' := ({ frames := 4, cells := 6, slots := 16, locals := 80 } : Room)) (own_str3 hw hk c0 c1 c2 c3 b0 b1 b2 b3 z hz CS Z0) (fun v h' q => by obtain ⟨_, _, _, _, K, _⟩ := q; exact K) (fun m => own_ef4_IIIII m n c0 c1 c2 c3) own_pl4 own_pd4 rfl d0_86 (own_w hw 21 rfl) (own_w hw 22 rfl) (own_w hw 2 rfl) (own_w hw 23 rfl) (by decide) rfl rfl (Nat.le_of_eq rfl) (by decide) (by decide) rfl rfl (by decide) (by decide) ?_
      rintro _ h' ⟨y, bY, rfl, gy, K, Ey, Fcy, Fvy, Ay⟩
      refine hel_astore (L' := #[.val (.int x0), .val (.int x1), .val (.int x2), .val (.int x3), .val (.int x4), .val (.int m), .val (.int nr), .val (.int c0), .val (.int c1), .val (.int c2), .val (.int c3), .val (.ref y), .unset, .val (.int n), .unset]) d0_89 rfl rfl ?_
      have hxy : x ≠ y := Nat.ne_of_lt (Nat.lt_of_lt_of_le Ex.lt gy)
      exact hel_of (own_tail hw n x0 x1 x2 x3 x4 m nr c0 c1 c2 c3 (own_skeep SO K) (own_skeep SN K) (FO.keep K (by simp)) (Ex.keep K) (Fcx.keep K (by simp)) (Fvx.keep K (by simp)) (Ax.keep K (by simp)) z hz (own_skeep CS K) hxy (ws := ([own_f c0, own_f c1, own_f c2] : List Int32)) (k := 3) rfl Ey Fcy Fvy Ay (own_o3 b0 b1 b2 hk)) (fun v h' q => ⟨Nat.le_of_eq (congrArg Array.size q.2), q.1⟩)
    · refine hel_callN (y := (⟨"com/example/lightsout/lightsout/machine/PowerStateOfPinLaw", "str", "(ICCCC)Ljava/lang/String;"⟩ : MethodName)) (argsL := [(.int n), (.int c0), (.int c1), (.int c2), (.int c3)]) (rest := []) (W := 0) (cells' := 6) (slots' := 16) (R' := ({ frames := 4, cells := 6, slots := 16, locals := 80 } : Room)) (own_str4 hw (Int.le_of_eq hk.symm) c0 c1 c2 c3 b0 b1 b2 b3 z hz CS Z0) (fun v h' q => by obtain ⟨_, _, _, _, K, _⟩ := q; exact K) (fun m => own_ef4_IIIII m n c0 c1 c2 c3) own_pl4 own_pd4 rfl d0_86 (own_w hw 21 rfl) (own_w hw 22 rfl) (own_w hw 2 rfl) (own_w hw 23 rfl) (by decide) rfl rfl (Nat.le_of_eq rfl) (by decide) (by decide) rfl rfl (by decide) (by decide) ?_
      rintro _ h' ⟨y, bY, rfl, gy, K, Ey, Fcy, Fvy, Ay⟩
      refine hel_astore (L' := #[.val (.int x0), .val (.int x1), .val (.int x2), .val (.int x3), .val (.int x4), .val (.int m), .val (.int nr), .val (.int c0), .val (.int c1), .val (.int c2), .val (.int c3), .val (.ref y), .unset, .val (.int n), .unset]) d0_89 rfl rfl ?_
      have hxy : x ≠ y := Nat.ne_of_lt (Nat.lt_of_lt_of_le Ex.lt gy)
      exact hel_of (own_tail hw n x0 x1 x2 x3 x4 m nr c0 c1 c2 c3 (own_skeep SO K) (own_skeep SN K) (FO.keep K (by simp)) (Ex.keep K) (Fcx.keep K (by simp)) (Fvx.keep K (by simp)) (Ax.keep K (by simp)) z hz (own_skeep CS K) hxy (ws := ([own_f c0, own_f c1, own_f c2, own_f c3] : List Int32)) (k := 4) rfl Ey Fcy Fvy Ay (own_on (by simp) (by omega))) (fun v h' q => ⟨Nat.le_of_eq (congrArg Array.size q.2), q.1⟩)
  · refine hel_aconstNull d0_59 ?_
    refine hel_astore (L' := #[.val (.int x0), .val (.int x1), .val (.int x2), .val (.int x3), .val (.int x4), .val (.int m), .val (.int nr), .val (.int c0), .val (.int c1), .val (.int c2), .val (.int c3), .val .null, .unset, .unset, .unset]) d0_60 rfl rfl ?_
    refine hel_iconst (x := 0) d0_62 rfl ?_
    refine hel_istore (L' := #[.val (.int x0), .val (.int x1), .val (.int x2), .val (.int x3), .val (.int x4), .val (.int m), .val (.int nr), .val (.int c0), .val (.int c1), .val (.int c2), .val (.int c3), .val .null, .val (.int (0 : Int32)), .unset, .unset]) d0_63 rfl ?_
    refine hel_goto d0_65 ?_
    exact hel_of (own_tailN hw x0 x1 x2 x3 x4 m nr c0 c1 c2 c3 SO SN FO Ex Fcx Fvx Ax z hz CS) (fun v h' q => ⟨Nat.le_of_eq (congrArg Array.size q.2), q.1⟩)
set_option maxRecDepth 65536 in
set_option maxHeartbeats 4000000 in
theorem hel_law {l : Launch} {Z : State} {a0 : Array Value} (hw : ∀ d ∈ tables_1, d.before a0 Z = true) {n0 : Nat} {h : Heap} (x0 x1 x2 x3 x4 : Int32) (Z0 : n0 ≤ h.size) {ao an x bx : Addr} (SO : Sta Z h "com/example/lightsout/lightsout/machine/PowerState" "OFF" "Lcom/example/lightsout/lightsout/machine/PowerState;" (.ref ao)) (SN : Sta Z h "com/example/lightsout/lightsout/machine/PowerState" "ON" "Lcom/example/lightsout/lightsout/machine/PowerState;" (.ref an)) (FO : Fld Z h ao "com/example/lightsout/lightsout/machine/PowerState" "value" "Ljava/lang/String;" (.ref x)) (Ex : Exa Z h x "java/lang/String") (Fcx : Fld Z h x "java/lang/String" "coder" "B" (.int 0)) (Fvx : Fld Z h x "java/lang/String" "value" "[B" (.ref bx)) (Ax : own_A Z h bx .byte (own_off.map Value.int)) (z : Int32) (hz : z.toInt ≠ 0) (CS : Sta Z h "java/lang/String" "COMPACT_STRINGS" "Z" (.int z)) :
    hel_V l Z n0 (hel_J Z own_EL n0) room_1 "com/example/lightsout/lightsout/machine/PowerStateOfPinLaw" "law" code maxLocals ret (fun v _ => v = some (.int 1)) h 0 0 0 #[.val (.int x0), .val (.int x1), .val (.int x2), .val (.int x3), .val (.int x4), .unset, .unset, .unset, .unset, .unset, .unset, .unset, .unset, .unset, .unset] [] := by
  refine hel_iloadN d0_0 rfl ?_
  refine hel_bipush (x := 7) d0_1 rfl ?_
  refine hel_iand d0_3 ?_
  generalize g_m : (x0 &&& (7 : Int32)) = m
  have hm := c_mask x0 7 3 (by decide) (by decide)
  rw [g_m] at hm
  clear g_m
  refine hel_istore (L' := #[.val (.int x0), .val (.int x1), .val (.int x2), .val (.int x3), .val (.int x4), .val (.int m), .unset, .unset, .unset, .unset, .unset, .unset, .unset, .unset, .unset]) d0_4 rfl ?_
  refine hel_iloadN d0_6 rfl ?_
  refine hel_iconst (x := 3) d0_7 rfl ?_
  refine hel_ishr d0_8 ?_
  refine hel_iconst (x := 1) d0_9 rfl ?_
  refine hel_iand d0_10 ?_
  refine hel_ifEq d0_11 (fun h11 => ?_) (fun h11 => ?_)
  · refine hel_iconst (x := 0) d0_18 rfl ?_
    refine hel_istore (L' := #[.val (.int x0), .val (.int x1), .val (.int x2), .val (.int x3), .val (.int x4), .val (.int m), .val (.int (0 : Int32)), .unset, .unset, .unset, .unset, .unset, .unset, .unset, .unset]) d0_19 rfl ?_
    exact hel_mid hw x0 x1 x2 x3 x4 m _ (by omega) (by omega) Z0 SO SN FO Ex Fcx Fvx Ax z hz CS
  · refine hel_iconst (x := 1) d0_14 rfl ?_
    refine hel_goto d0_15 ?_
    refine hel_istore (L' := #[.val (.int x0), .val (.int x1), .val (.int x2), .val (.int x3), .val (.int x4), .val (.int m), .val (.int (1 : Int32)), .unset, .unset, .unset, .unset, .unset, .unset, .unset, .unset]) d0_19 rfl ?_
    exact hel_mid hw x0 x1 x2 x3 x4 m _ (by omega) (by omega) Z0 SO SN FO Ex Fcx Fvx Ax z hz CS
theorem own_ordT {args : Array Value} {s : State} {t : Term} {O f dd : String} {a : Addr} {k : Int32} (ev : t.eval args s none [] s = some (.ref a)) (ho : (Jvm.Cond.eq (.field t O f dd) (.int k)).value args s none s [] = some true) : s.fieldOf? a O f dd = some (.int k) := by
  obtain ⟨x, y, h1, h2, hk, -⟩ := cmp_v (Or.inl ho)
  have e1 : y = .int k := Option.some.inj (h2.symm.trans (Term.int_eval k))
  subst e1
  have h3 := h1
  rw [fld_at ev] at h3
  cases x <;> simp [Kin, Value.isRef] at hk
  rename_i z
  have : z = k := by simpa [Jvm.Cond.value, h1, h2] using ho
  rw [h3, this]
theorem own_aei {args : Array Value} {s : State} {t : Term} {a : Addr} {cl : Cell} {j k : Int32} (ev : t.eval args s none [] s = some (.ref a)) (hc : s.heap[a]? = some cl) (he : (Jvm.Cond.eq (.elem t (.int j)) (.int k)).value args s none s [] = some true) : cl.slots[j.toNatClampNeg]? = some (.int k) := by
  obtain ⟨x, y, h1, h2, hk, hk2⟩ := cmp_v (Or.inl he)
  have e1 : y = .int k := Option.some.inj (h2.symm.trans (Term.int_eval k))
  subst e1
  have e2 := (elem_in h1 ev (Term.int_eval j) hc).2
  cases x <;> simp [Kin, Value.isRef] at hk
  rename_i z
  have : z = k := by simpa [Jvm.Cond.value, h1, h2] using he
  rw [e2, this]
theorem own_arr3 {sl : Array Value} {a b c : Value} (h : sl.size = 3) (h0 : sl[0]? = some a) (h1 : sl[1]? = some b) (h2 : sl[2]? = some c) : sl.toList = [a, b, c] := by
  obtain ⟨l⟩ := sl
  match l, h with
  | [p, q, r], _ => simp at h0 h1 h2; simp [h0, h1, h2]

set_option maxRecDepth 65536 in
set_option maxHeartbeats 4000000 in
theorem comes_1 {Post : Tables → Env → Array Value → State → Outcome → State → Prop} (hpost : ∀ tb e args s v u, (limb_1_1.after args s (.returned v) u = true ∧ limb_1_2.after args s (.returned v) u = true ∧ True) → ReturnedEndW s (.returned v) u (Jvm.fieldLocs frame_1_writes args s ++ Jvm.arrayLocs frame_1_arrays args s ++ Jvm.staticLocs frame_1_statics s) 16 1152 → Post tb e args s (.returned v) u) :
    ArmFor flags0 classFile x code maxLocals ret World_1 tables_1 room_1 Calls_1 rest_1 Pre_1 Post := by
  intro l hfl _ _ p e ha hc hk s m args below hf hA hF happ hP
  obtain ⟨hcalls, hrest, hpre⟩ := hP
  obtain ⟨-, -, -, hnamed, -, -, -, hat⟩ := (Spec.applies_iff hf).mp happ
  obtain ⟨hg, hn⟩ := and_e (Cond.before_iff.mp (show (Jvm.Cond.and given_1 narrow_1).before args s = true from hpre))
  obtain ⟨gc, g0⟩ := and_e hg
  obtain ⟨k0, g1⟩ := and_e g0
  obtain ⟨k1, g2⟩ := and_e g1
  obtain ⟨k2, g3⟩ := and_e g2
  obtain ⟨k3, g4⟩ := and_e g3
  obtain ⟨w0, w1, w2, w3, w4, rfl⟩ : ∃ w0 w1 w2 w3 w4 : Value, args = #[w0, w1, w2, w3, w4] := by
    have hs : args.size = 5 := by simpa [Cond.value, given_1] using gc
    obtain ⟨L⟩ := args
    match L, hs with
    | [w0, w1, w2, w3, w4], _ => exact ⟨w0, w1, w2, w3, w4, rfl⟩
  have hw := fun d (hd : d ∈ tables_1) => atoms_spec (ws := Jvm.Cond.code x code maxLocals ret :: tables_1) hat d (List.mem_cons_of_mem _ hd)
  have hfit : Fit s := fun {y c} hc i hi => by
    obtain ⟨ha, rfl⟩ := Array.getElem?_eq_some_iff.mp hc
    have q := List.all_eq_true.mp ((Array.all_eq_true_iff_forall_mem.mp hF) _ (Array.getElem_mem ha)) i (List.mem_range.mpr hi)
    simpa [Array.getElem?_eq_getElem hi] using q
  obtain ⟨hsets, hown0⟩ := atoms_of _ (rest_1_c_eq ▸ (show rest_1_c.before _ s = true from hrest))
  have hr0 := Cond.before_iff.mp hown0
  obtain ⟨i0, ei0⟩ := is_v k0
  obtain rfl : w0 = (.int i0) := Option.some.inj ei0
  obtain ⟨i1, ei1⟩ := is_v k1
  obtain rfl : w1 = (.int i1) := Option.some.inj ei1
  obtain ⟨i2, ei2⟩ := is_v k2
  obtain rfl : w2 = (.int i2) := Option.some.inj ei2
  obtain ⟨i3, ei3⟩ := is_v k3
  obtain rfl : w3 = (.int i3) := Option.some.inj ei3
  obtain ⟨i4, ei4⟩ := is_v g4
  obtain rfl : w4 = (.int i4) := Option.some.inj ei4
  obtain ⟨n0, m1⟩ := and_e hn
  obtain ⟨n1, m2⟩ := and_e m1
  obtain ⟨n2, m3⟩ := and_e m2
  obtain ⟨n3, m4⟩ := and_e m3
  obtain ⟨n4, m5⟩ := and_e m4
  obtain ⟨n5, m6⟩ := and_e m5
  obtain ⟨n6, m7⟩ := and_e m6
  obtain ⟨n7, m8⟩ := and_e m7
  obtain ⟨n8, m9⟩ := and_e m8
  obtain ⟨n9, m10⟩ := and_e m9
  obtain ⟨n10, m11⟩ := and_e m10
  obtain ⟨n11, m12⟩ := and_e m11
  obtain ⟨n12, m13⟩ := and_e m12
  obtain ⟨n13, m14⟩ := and_e m13
  have n14 := m14
  obtain ⟨ao, evO⟩ := exa_v n0
  have SO := Sta.start evO (Or.inr ⟨(own_w hw 6 rfl), (own_w hw 9 rfl)⟩)
  obtain ⟨an, evN⟩ := exa_v n2
  have SN := Sta.start evN (Or.inr ⟨(own_w hw 6 rfl), (own_w hw 19 rfl)⟩)
  obtain ⟨vx, evx⟩ := exa_v n1
  have Ex := Exa.start evx n1
  have FO := Fld.start ((fld_at evO).symm.trans evx)
  have Fcx := Fld.start (own_ordT evx n3)
  obtain ⟨bx, evb⟩ := arr_v n4
  have Fvx := Fld.start ((fld_at evx).symm.trans evb)
  obtain ⟨cl, Ac⟩ := Arr.start evb n4
  obtain ⟨l1, l2⟩ := own_alen evb Ac n5
  have l1 : cl.slots.size = 3 := by rw [show (3 : Int32).toInt = 3 from rfl] at l1; omega
  have Ax : own_A s s.heap bx .byte (own_off.map Value.int) := ⟨cl, Ac, own_arr3 l1 (own_aei evb Ac.1 n6) (own_aei evb Ac.1 n7) (own_aei evb Ac.1 n8), by decide⟩
  obtain ⟨z, evz⟩ := is_v (Cond.before_iff.mp (hsets _ (List.mem_of_getElem? (show jdkStatics_1[1]? = some _ from rfl))))
  have CS := Sta.start evz (Or.inl (hsets _ (List.mem_of_getElem? (show jdkStatics_1[0]? = some _ from rfl))))
  have hz : z.toInt ≠ 0 := fun q => by
    have q' : z = 0 := Int32.toInt_inj.mp (q.trans rfl)
    subst q'
    have e := not_v (Cond.before_iff.mp (hsets _ (List.mem_of_getElem? (show jdkStatics_1[2]? = some _ from rfl))))
    simp [Jvm.Cond.value, evz, Term.int_eval] at e
  have hcw : Jvm.Lit.compactW.before _ s = true := (hsets _ (List.mem_of_getElem? (show jdkStatics_1[2]? = some _ from rfl)))
  have hJ0 : hel_J s own_EL s.heap.size s.vm s.heap := ⟨CHv.start (own_ew hw) hcalls.1 hcw (own_w hw 42 rfl) (own_w hw 25 rfl), fun y hy => Safe.new hy⟩
  have hV := hel_law hw i0 i1 i2 i3 i4 (l := l) (n0 := s.heap.size) (h := s.heap) (Nat.le_refl _) SO SN FO Ex Fcx Fvx Ax z hz CS
  have hef : ∀ m, entryFrame m #[(.int i0), (.int i1), (.int i2), (.int i3), (.int i4)] maxLocals = mkF m 0 #[.val (.int i0), .val (.int i1), .val (.int i2), .val (.int i3), .val (.int i4), .unset, .unset, .unset, .unset, .unset, .unset, .unset, .unset, .unset, .unset] [] := (fun m => own_ef0_IIIII m i0 i1 i2 i3 i4)
  have hM := hel_met (y := x) own_pl0 hef hV tables_1
  obtain ⟨n, o, h1, h2, h3, _, L, rfl, ⟨rfl, N⟩, hq⟩ := hM p e ha hc hk s m _ below hf ((Spec.applies_iff_loose hf).mp happ).1 ⟨rfl, State.Warmed39.refl s, rfl, hJ0⟩ trivial
  refine ⟨n, _, h1, h2, h3, hpost _ _ _ _ _ _ ⟨Cond.after_iff.mpr rfl, Cond.after_iff.mpr (eq_i res_at (Term.int_eval (1)) rfl), trivial⟩ ⟨hq.1, hq.2.1, hq.2.2.1, (hq.2.2.2.sift fun y hy => Or.inr (N y hy)).mono (by decide) (by decide)⟩⟩
theorem main_1_1 : Claimed_1_1 := comes_1 fun _ _ _ _ _ _ h hF => ⟨h.1, hF⟩
theorem main_1_2 : Claimed_1_2 := comes_1 fun _ _ _ _ _ _ h hF => ⟨h.2.1, hF⟩
end Jvm.Pilot.@@N@@
namespace Jvm.Pilot.@@N@@
open Jvm Jvm.ClassFile Sem Op Lib Jvm.Free Jvm.Stand Jvm.Pilot.@@N@@.Jvm.D
/-! MADE BY PROGRAM (witnessworld.py) out of the Statement's table words and the real class files: 21 classes; the members and pool entries that the words name. The judged class is class 1, her method 3. -/
namespace start1
open Jvm.ClassFile
def u (s : String) : CpInfo := .utf8 (stringToUtf16 s)
/-- a pool by its gaps: so many unusable entries, then the entry; so many at the end -/
def gap : Nat → List CpInfo → List CpInfo
  | 0, r => r
  | n + 1, r => .unusable :: gap n r
def poolList (es : List (Nat × CpInfo)) (last : Nat) : List CpInfo := es.foldr (fun e r => gap e.1 (e.2 :: r)) (gap last [])
def pool (es : List (Nat × CpInfo)) (last : Nat) : Array CpInfo := ⟨poolList es last⟩
def fileOf (pool : Array CpInfo) (this : Nat) (attrs : Array Attribute := #[]) (ms : Array MethodInfo := #[]) (fl : Nat := 33) (sup : Nat := 0) (ifs : Array Nat := #[]) (fds : Array FieldInfo := #[]) : ClassFile where
  minorVersion := 0
  majorVersion := 65
  constantPool := pool
  accessFlags := fl
  thisClass := this
  superClass := sup
  interfaces := ifs
  fields := fds
  methods := ms
  attributes := attrs
def plain (name : String) (sup : Option ClassId) : Class where
  name := name
  kind := .ordinary
  loader := none
  accessFlags := 33
  super := sup
  interfaces := #[]
  cf := none
  fields := #[]
  methods := #[]
  instanceTypes := #[]
  staticTypes := #[]
  resolved := #[]
  callSites := []
  init := .initialized
  statics := none
  mirror := none

def pool0 : Array CpInfo := pool [(5, u "<init>"), (0, u "()V"), (1, .class_ 10), (1, u "java/lang/Object")] 113

def k0c0 : Code := { maxStack := 0, maxLocals := 1, code := object_method_1_code, exceptionTable := #[], attributes := #[] }
def k0m0 : Method := { name := "<init>", desc := "()V", sig := { parameters := [], returnType := none }, accessFlags := 1, code := some k0c0 }
/-- java/lang/Object -/
def k0 : Class := { plain "java/lang/Object" none with
  accessFlags := 33
  interfaces := #[]
  cf := some (fileOf pool0 8 #[] #[{ accessFlags := 1, nameIndex := 5, descriptorIndex := 6, attributes := #[] }] 33 0 #[] #[])
  fields := #[]
  methods := #[k0m0]
  instanceTypes := #[]
  staticTypes := #[]
  resolved := Array.replicate 124 none
  statics := none }

def pool1 : Array CpInfo := pool [(2, .class_ 4), (1, u "java/lang/Object"), (0, u "<init>"), (0, u "()V"), (0, .class_ 8), (0, u "java/lang/String"), (0, .methodref 7 10), (0, .nameAndType 5 11), (0, u "([C)V"), (0, .methodref 13 14), (0, .class_ 15), (0, .nameAndType 16 17), (0, u "com/example/lightsout/lightsout/machine/PowerStateOfPinLaw"), (0, u "ch"), (0, u "(IZ)C"), (0, .methodref 13 19), (0, .nameAndType 20 21), (0, u "str"), (0, u "(ICCCC)Ljava/lang/String;"), (0, .methodref 23 24), (0, .class_ 25), (0, .nameAndType 26 27), (0, u "com/example/lightsout/lightsout/machine/PowerState"), (0, u "of"), (0, u "(Ljava/lang/String;)Lcom/example/lightsout/lightsout/machine/PowerState;"), (0, .fieldref 23 29), (0, .nameAndType 30 31), (0, u "OFF"), (0, u "Lcom/example/lightsout/lightsout/machine/PowerState;"), (0, .fieldref 23 33), (0, .nameAndType 34 31), (0, u "ON"), (3, u "law"), (0, u "(IIIII)Z")] 2

def k1m0 : Method := { name := "<init>", desc := "()V", sig := { parameters := [], returnType := none }, accessFlags := 1, code := none }
def k1c1 : Code := { maxStack := 2, maxLocals := 3, code := method_2_code, exceptionTable := #[], attributes := #[] }
def k1m1 : Method := { name := "ch", desc := "(IZ)C", sig := { parameters := [.int, .boolean], returnType := some .char }, accessFlags := 10, code := some k1c1 }
def k1c2 : Code := { maxStack := 6, maxLocals := 5, code := method_3_code, exceptionTable := #[], attributes := #[] }
def k1m2 : Method := { name := "str", desc := "(ICCCC)Ljava/lang/String;", sig := { parameters := [.int, .char, .char, .char, .char], returnType := some (.object "java/lang/String") }, accessFlags := 10, code := some k1c2 }
def k1c3 : Code := { maxStack := 5, maxLocals := 15, code := code, exceptionTable := #[], attributes := #[] }
def k1m3 : Method := { name := "law", desc := "(IIIII)Z", sig := { parameters := [.int, .int, .int, .int, .int], returnType := some .boolean }, accessFlags := 9, code := some k1c3 }
/-- com/example/lightsout/lightsout/machine/PowerStateOfPinLaw -/
def k1 : Class := { plain "com/example/lightsout/lightsout/machine/PowerStateOfPinLaw" (some 0) with
  accessFlags := 49
  interfaces := #[]
  cf := some (fileOf pool1 13 #[] #[{ accessFlags := 1, nameIndex := 5, descriptorIndex := 6, attributes := #[] }, { accessFlags := 10, nameIndex := 16, descriptorIndex := 17, attributes := #[] }, { accessFlags := 10, nameIndex := 20, descriptorIndex := 21, attributes := #[] }, { accessFlags := 9, nameIndex := 38, descriptorIndex := 39, attributes := #[] }] 49 2 #[] #[])
  fields := #[]
  methods := #[k1m0, k1m1, k1m2, k1m3]
  instanceTypes := #[]
  staticTypes := #[]
  resolved := Array.replicate 42 none
  statics := none }

def pool2 : Array CpInfo := pool [(1, .class_ 2), (0, u "java/lang/constant/Constable"), (0, .class_ 4), (0, u "java/lang/Object")] 6

/-- java/lang/constant/Constable -/
def k2 : Class := { plain "java/lang/constant/Constable" (some 0) with
  accessFlags := 1537
  interfaces := #[]
  cf := some (fileOf pool2 1 #[] #[] 1537 3 #[] #[])
  fields := #[]
  methods := #[]
  instanceTypes := #[]
  staticTypes := #[]
  resolved := Array.replicate 11 none
  statics := none }

def pool3 : Array CpInfo := pool [(1, .class_ 2), (0, u "java/lang/Comparable"), (0, .class_ 4), (0, u "java/lang/Object")] 7

/-- java/lang/Comparable -/
def k3 : Class := { plain "java/lang/Comparable" (some 0) with
  accessFlags := 1537
  interfaces := #[]
  cf := some (fileOf pool3 1 #[] #[] 1537 3 #[] #[])
  fields := #[]
  methods := #[]
  instanceTypes := #[]
  staticTypes := #[]
  resolved := Array.replicate 12 none
  statics := none }

def pool4 : Array CpInfo := pool [(1, .class_ 2), (0, u "java/io/Serializable"), (0, .class_ 4), (0, u "java/lang/Object")] 2

/-- java/io/Serializable -/
def k4 : Class := { plain "java/io/Serializable" (some 0) with
  accessFlags := 1537
  interfaces := #[]
  cf := some (fileOf pool4 1 #[] #[] 1537 3 #[] #[])
  fields := #[]
  methods := #[]
  instanceTypes := #[]
  staticTypes := #[]
  resolved := Array.replicate 7 none
  statics := none }

def pool5 : Array CpInfo := pool [(2, .class_ 4), (1, u "java/lang/Enum"), (0, u "name"), (0, u "Ljava/lang/String;"), (2, u "ordinal"), (0, u "I"), (1, .class_ 14), (1, u "java/lang/Object"), (4, u "hash"), (86, .class_ 108), (1, u "java/lang/Enum$EnumDesc"), (2, .class_ 112), (0, u "java/lang/constant/Constable"), (0, .class_ 114), (0, u "java/lang/Comparable"), (0, .class_ 116), (0, u "java/io/Serializable")] 87

/-- java/lang/Enum -/
def k5 : Class := { plain "java/lang/Enum" (some 0) with
  accessFlags := 1057
  interfaces := #[2, 3, 4]
  cf := some (fileOf pool5 2 #[.nestMembers #[106]] #[] 1057 12 #[111, 113, 115] #[{ accessFlags := 18, nameIndex := 5, descriptorIndex := 6, attributes := #[] }, { accessFlags := 18, nameIndex := 9, descriptorIndex := 10, attributes := #[] }, { accessFlags := 2, nameIndex := 19, descriptorIndex := 10, attributes := #[] }])
  fields := #[{ name := "name", type := (.object "java/lang/String"), accessFlags := 18, slot := 0, constantValue := 0 }, { name := "ordinal", type := .int, accessFlags := 18, slot := 1, constantValue := 0 }, { name := "hash", type := .int, accessFlags := 2, slot := 2, constantValue := 0 }]
  methods := #[]
  instanceTypes := #[(.object "java/lang/String"), .int, .int]
  staticTypes := #[]
  resolved := Array.replicate 204 none
  statics := none }

def pool6 : Array CpInfo := pool [(1, .class_ 2), (0, u "com/example/lightsout/lightsout/machine/PowerState"), (0, .fieldref 1 4), (0, .nameAndType 5 6), (0, u "ON"), (0, u "Lcom/example/lightsout/lightsout/machine/PowerState;"), (0, .fieldref 1 8), (0, .nameAndType 9 6), (0, u "OFF"), (2, u "$VALUES"), (0, u "[Lcom/example/lightsout/lightsout/machine/PowerState;"), (6, .class_ 22), (1, u "java/lang/Enum"), (6, .fieldref 1 30), (0, .nameAndType 31 32), (0, u "value"), (0, u "Ljava/lang/String;"), (2, u "onTheWay"), (0, .methodref 37 38), (0, .class_ 39), (0, .nameAndType 40 41), (0, u "java/lang/String"), (0, u "equals"), (0, u "(Ljava/lang/Object;)Z"), (20, u "(Ljava/lang/String;)Lcom/example/lightsout/lightsout/machine/PowerState;"), (4, u "of")] 6

def k6c0 : Code := { maxStack := 2, maxLocals := 1, code := prog_13_method_6_code, exceptionTable := #[], attributes := #[] }
def k6m0 : Method := { name := "of", desc := "(Ljava/lang/String;)Lcom/example/lightsout/lightsout/machine/PowerState;", sig := { parameters := [(.object "java/lang/String")], returnType := some (.object "com/example/lightsout/lightsout/machine/PowerState") }, accessFlags := 9, code := some k6c0 }
/-- com/example/lightsout/lightsout/machine/PowerState -/
def k6 : Class := { plain "com/example/lightsout/lightsout/machine/PowerState" (some 5) with
  accessFlags := 16433
  interfaces := #[]
  cf := some (fileOf pool6 1 #[] #[{ accessFlags := 9, nameIndex := 67, descriptorIndex := 62, attributes := #[] }] 16433 20 #[] #[{ accessFlags := 16409, nameIndex := 5, descriptorIndex := 6, attributes := #[] }, { accessFlags := 16409, nameIndex := 9, descriptorIndex := 6, attributes := #[] }, { accessFlags := 18, nameIndex := 31, descriptorIndex := 32, attributes := #[] }, { accessFlags := 18, nameIndex := 35, descriptorIndex := 32, attributes := #[] }, { accessFlags := 4122, nameIndex := 12, descriptorIndex := 13, attributes := #[] }])
  fields := #[{ name := "ON", type := (.object "com/example/lightsout/lightsout/machine/PowerState"), accessFlags := 16409, slot := 0, constantValue := 0 }, { name := "OFF", type := (.object "com/example/lightsout/lightsout/machine/PowerState"), accessFlags := 16409, slot := 1, constantValue := 0 }, { name := "value", type := (.object "java/lang/String"), accessFlags := 18, slot := 3, constantValue := 0 }, { name := "onTheWay", type := (.object "java/lang/String"), accessFlags := 18, slot := 4, constantValue := 0 }, { name := "$VALUES", type := (.array (.object "com/example/lightsout/lightsout/machine/PowerState")), accessFlags := 4122, slot := 2, constantValue := 0 }]
  methods := #[k6m0]
  instanceTypes := #[(.object "java/lang/String"), .int, .int, (.object "java/lang/String"), (.object "java/lang/String")]
  staticTypes := #[(.object "com/example/lightsout/lightsout/machine/PowerState"), (.object "com/example/lightsout/lightsout/machine/PowerState"), (.array (.object "com/example/lightsout/lightsout/machine/PowerState"))]
  resolved := Array.replicate 74 none
  statics := some 0 }

def pool7 : Array CpInfo := pool [(2, .class_ 4), (1, u "java/lang/CharSequence"), (42, .class_ 48), (0, u "java/lang/CharSequence$1CodePointIterator"), (10, .class_ 60), (0, u "java/lang/CharSequence$1CharIterator"), (5, .class_ 67), (0, u "java/lang/Object")] 63

/-- java/lang/CharSequence -/
def k7 : Class := { plain "java/lang/CharSequence" (some 0) with
  accessFlags := 1537
  interfaces := #[]
  cf := some (fileOf pool7 2 #[.nestMembers #[47, 59]] #[] 1537 66 #[] #[])
  fields := #[]
  methods := #[]
  instanceTypes := #[]
  staticTypes := #[]
  resolved := Array.replicate 131 none
  statics := none }

def pool8 : Array CpInfo := pool [(1, .class_ 2), (0, u "java/lang/constant/ConstantDesc"), (0, .class_ 4), (0, u "java/lang/Object")] 32

/-- java/lang/constant/ConstantDesc -/
def k8 : Class := { plain "java/lang/constant/ConstantDesc" (some 0) with
  accessFlags := 1537
  interfaces := #[]
  cf := some (fileOf pool8 1 #[] #[] 1537 3 #[] #[])
  fields := #[]
  methods := #[]
  instanceTypes := #[]
  staticTypes := #[]
  resolved := Array.replicate 37 none
  statics := none }

def pool9 : Array CpInfo := pool [(1, .methodref 2 3), (0, .class_ 4), (0, .nameAndType 5 6), (0, u "java/lang/Object"), (0, u "<init>"), (0, u "()V"), (0, .string 8), (0, u ""), (0, .fieldref 10 11), (0, .class_ 12), (0, .nameAndType 13 14), (0, u "java/lang/String"), (0, u "value"), (0, u "[B"), (0, .fieldref 10 16), (0, .nameAndType 17 18), (0, u "coder"), (0, u "B"), (2, u "hash"), (0, u "I"), (2, u "hashIsZero"), (0, u "Z"), (0, .methodref 10 28), (0, .nameAndType 5 29), (0, u "([CIILjava/lang/Void;)V"), (8, .fieldref 10 39), (0, .nameAndType 40 26), (0, u "COMPACT_STRINGS"), (1, .class_ 44), (1, u "java/lang/StringUTF16"), (0, u "compress"), (1, .methodref 42 48), (0, .nameAndType 49 50), (0, u "coderFromArrayLen"), (0, u "([BI)B"), (56, .class_ 109), (1, u "java/lang/StringLatin1"), (67, .methodref 42 178), (0, .nameAndType 45 179), (0, u "([CII)[B"), (361, .methodref 107 542), (0, .nameAndType 543 544), (0, u "equals"), (0, u "([B[B)Z"), (28, u "(Ljava/lang/Object;)Z"), (1, .class_ 576), (0, u "java/lang/CharSequence"), (22, u "CASE_INSENSITIVE_ORDER"), (0, u "Ljava/util/Comparator;"), (409, u "([C)V"), (90, u "serialPersistentFields"), (0, u "[Ljava/io/ObjectStreamField;"), (0, .class_ 1104), (0, u "java/lang/String$CaseInsensitiveComparator"), (1, .class_ 1107), (0, u "java/io/Serializable"), (0, .class_ 1109), (0, u "java/lang/Comparable"), (0, .class_ 1111), (0, u "java/lang/constant/Constable"), (0, .class_ 1113), (0, u "java/lang/constant/ConstantDesc"), (2, u "serialVersionUID"), (0, u "J"), (3, u "REPL"), (0, u "C"), (2, u "LATIN1"), (1, u "UTF16")] 323

def k9m0 : Method := { name := "<init>", desc := "()V", sig := { parameters := [], returnType := none }, accessFlags := 1, code := none }
def k9c1 : Code := { maxStack := 5, maxLocals := 2, code := jdk_42_method_3_code, exceptionTable := #[], attributes := #[] }
def k9m1 : Method := { name := "<init>", desc := "([C)V", sig := { parameters := [(.array .char)], returnType := none }, accessFlags := 1, code := some k9c1 }
def k9c2 : Code := { maxStack := 2, maxLocals := 3, code := jdk_42_method_66_code, exceptionTable := #[], attributes := #[] }
def k9m2 : Method := { name := "equals", desc := "(Ljava/lang/Object;)Z", sig := { parameters := [(.object "java/lang/Object")], returnType := some .boolean }, accessFlags := 1, code := some k9c2 }
def k9c3 : Code := { maxStack := 4, maxLocals := 6, code := jdk_42_method_149_code, exceptionTable := #[], attributes := #[] }
def k9m3 : Method := { name := "<init>", desc := "([CIILjava/lang/Void;)V", sig := { parameters := [(.array .char), .int, .int, (.object "java/lang/Void")], returnType := none }, accessFlags := 2, code := some k9c3 }
/-- java/lang/String -/
def k9 : Class := { plain "java/lang/String" (some 0) with
  accessFlags := 49
  interfaces := #[4, 3, 7, 2, 8]
  cf := some (fileOf pool9 10 #[.nestMembers #[1103]] #[{ accessFlags := 1, nameIndex := 5, descriptorIndex := 6, attributes := #[] }, { accessFlags := 1, nameIndex := 5, descriptorIndex := 1010, attributes := #[] }, { accessFlags := 1, nameIndex := 543, descriptorIndex := 573, attributes := #[] }, { accessFlags := 2, nameIndex := 5, descriptorIndex := 29, attributes := #[] }] 49 2 #[1106, 1108, 575, 1110, 1112] #[{ accessFlags := 18, nameIndex := 13, descriptorIndex := 14, attributes := #[] }, { accessFlags := 18, nameIndex := 17, descriptorIndex := 18, attributes := #[] }, { accessFlags := 2, nameIndex := 21, descriptorIndex := 22, attributes := #[] }, { accessFlags := 2, nameIndex := 25, descriptorIndex := 26, attributes := #[] }, { accessFlags := 26, nameIndex := 1116, descriptorIndex := 1117, attributes := #[] }, { accessFlags := 24, nameIndex := 40, descriptorIndex := 26, attributes := #[] }, { accessFlags := 26, nameIndex := 1101, descriptorIndex := 1102, attributes := #[] }, { accessFlags := 26, nameIndex := 1121, descriptorIndex := 1122, attributes := #[] }, { accessFlags := 25, nameIndex := 599, descriptorIndex := 600, attributes := #[] }, { accessFlags := 24, nameIndex := 1125, descriptorIndex := 18, attributes := #[] }, { accessFlags := 24, nameIndex := 1127, descriptorIndex := 18, attributes := #[] }])
  fields := #[{ name := "value", type := (.array .byte), accessFlags := 18, slot := 0, constantValue := 0 }, { name := "coder", type := .byte, accessFlags := 18, slot := 1, constantValue := 0 }, { name := "hash", type := .int, accessFlags := 2, slot := 2, constantValue := 0 }, { name := "hashIsZero", type := .boolean, accessFlags := 2, slot := 3, constantValue := 0 }, { name := "serialVersionUID", type := .long, accessFlags := 26, slot := 0, constantValue := 0 }, { name := "COMPACT_STRINGS", type := .boolean, accessFlags := 24, slot := 1, constantValue := 0 }, { name := "serialPersistentFields", type := (.array (.object "java/io/ObjectStreamField")), accessFlags := 26, slot := 2, constantValue := 0 }, { name := "REPL", type := .char, accessFlags := 26, slot := 3, constantValue := 0 }, { name := "CASE_INSENSITIVE_ORDER", type := (.object "java/util/Comparator"), accessFlags := 25, slot := 4, constantValue := 0 }, { name := "LATIN1", type := .byte, accessFlags := 24, slot := 5, constantValue := 0 }, { name := "UTF16", type := .byte, accessFlags := 24, slot := 6, constantValue := 0 }]
  methods := #[k9m0, k9m1, k9m2, k9m3]
  instanceTypes := #[(.array .byte), .byte, .int, .boolean]
  staticTypes := #[.long, .boolean, (.array (.object "java/io/ObjectStreamField")), .char, (.object "java/util/Comparator"), .byte, .byte]
  resolved := Array.replicate 1451 none
  statics := some 1 }

def pool10 : Array CpInfo := pool [(6, .class_ 8), (1, u "java/lang/Object"), (0, u "<init>"), (0, u "()V"), (1, .class_ 14), (1, u "java/lang/StringUTF16"), (31, u "$assertionsDisabled"), (0, u "Z"), (13, u "HI_BYTE_SHIFT"), (0, u "I"), (2, u "LO_BYTE_SHIFT"), (49, .methodref 12 116), (0, .nameAndType 117 118), (0, u "compress"), (0, u "([CI[BII)I"), (3, u "([CII)[B"), (138, u "coderFromArrayLen"), (0, u "([BI)B"), (106, .class_ 371), (1, u "java/lang/StringUTF16$LinesSpliterator"), (58, u "MAX_LENGTH"), (196, .class_ 628), (0, u "java/lang/StringUTF16$CodePointsSpliterator"), (0, .class_ 630), (0, u "java/lang/StringUTF16$CharsSpliterator")] 4

def k10m0 : Method := { name := "<init>", desc := "()V", sig := { parameters := [], returnType := none }, accessFlags := 0, code := none }
def k10c1 : Code := { maxStack := 2, maxLocals := 2, code := jdk_52_method_15_code, exceptionTable := #[], attributes := #[] }
def k10m1 : Method := { name := "coderFromArrayLen", desc := "([BI)B", sig := { parameters := [(.array .byte), .int], returnType := some .byte }, accessFlags := 8, code := some k10c1 }
def k10c2 : Code := { maxStack := 5, maxLocals := 6, code := jdk_52_method_16_code, exceptionTable := #[], attributes := #[] }
def k10m2 : Method := { name := "compress", desc := "([CII)[B", sig := { parameters := [(.array .char), .int, .int], returnType := some (.array .byte) }, accessFlags := 9, code := some k10c2 }
def k10c3 : Code := { maxStack := 3, maxLocals := 7, code := jdk_52_method_21_code, exceptionTable := #[], attributes := #[] }
def k10m3 : Method := { name := "compress", desc := "([CI[BII)I", sig := { parameters := [(.array .char), .int, (.array .byte), .int, .int], returnType := some .int }, accessFlags := 9, code := some k10c3 }
/-- java/lang/StringUTF16 -/
def k10 : Class := { plain "java/lang/StringUTF16" (some 0) with
  accessFlags := 48
  interfaces := #[]
  cf := some (fileOf pool10 12 #[.nestMembers #[627, 629, 369]] #[{ accessFlags := 0, nameIndex := 9, descriptorIndex := 10, attributes := #[] }, { accessFlags := 8, nameIndex := 261, descriptorIndex := 262, attributes := #[] }, { accessFlags := 9, nameIndex := 117, descriptorIndex := 122, attributes := #[] }, { accessFlags := 9, nameIndex := 117, descriptorIndex := 118, attributes := #[] }] 48 6 #[] #[{ accessFlags := 26, nameIndex := 61, descriptorIndex := 62, attributes := #[] }, { accessFlags := 26, nameIndex := 65, descriptorIndex := 62, attributes := #[] }, { accessFlags := 24, nameIndex := 430, descriptorIndex := 62, attributes := #[] }, { accessFlags := 4120, nameIndex := 46, descriptorIndex := 47, attributes := #[] }])
  fields := #[{ name := "HI_BYTE_SHIFT", type := .int, accessFlags := 26, slot := 0, constantValue := 0 }, { name := "LO_BYTE_SHIFT", type := .int, accessFlags := 26, slot := 1, constantValue := 0 }, { name := "MAX_LENGTH", type := .int, accessFlags := 24, slot := 2, constantValue := 0 }, { name := "$assertionsDisabled", type := .boolean, accessFlags := 4120, slot := 3, constantValue := 0 }]
  methods := #[k10m0, k10m1, k10m2, k10m3]
  instanceTypes := #[]
  staticTypes := #[.int, .int, .int, .boolean]
  resolved := Array.replicate 635 none
  statics := none }

def pool11 : Array CpInfo := pool [(4, .class_ 6), (1, u "java/lang/Object"), (0, u "<init>"), (0, u "()V"), (5, .class_ 16), (1, u "java/lang/StringLatin1"), (104, u "$assertionsDisabled"), (0, u "Z"), (98, .class_ 223), (1, u "java/lang/StringLatin1$LinesSpliterator"), (57, u "equals"), (0, u "([B[B)Z"), (107, .class_ 391), (0, u "java/lang/StringLatin1$CharsSpliterator")] 3

def k11m0 : Method := { name := "<init>", desc := "()V", sig := { parameters := [], returnType := none }, accessFlags := 0, code := none }
def k11c1 : Code := { maxStack := 3, maxLocals := 3, code := jdk_43_method_13_code, exceptionTable := #[], attributes := #[] }
def k11m1 : Method := { name := "equals", desc := "([B[B)Z", sig := { parameters := [(.array .byte), (.array .byte)], returnType := some .boolean }, accessFlags := 9, code := some k11c1 }
/-- java/lang/StringLatin1 -/
def k11 : Class := { plain "java/lang/StringLatin1" (some 0) with
  accessFlags := 48
  interfaces := #[]
  cf := some (fileOf pool11 14 #[.nestMembers #[390, 221]] #[{ accessFlags := 0, nameIndex := 7, descriptorIndex := 8, attributes := #[] }, { accessFlags := 9, nameIndex := 281, descriptorIndex := 282, attributes := #[] }] 48 4 #[] #[{ accessFlags := 4120, nameIndex := 121, descriptorIndex := 122, attributes := #[] }])
  fields := #[{ name := "$assertionsDisabled", type := .boolean, accessFlags := 4120, slot := 0, constantValue := 0 }]
  methods := #[k11m0, k11m1]
  instanceTypes := #[]
  staticTypes := #[.boolean]
  resolved := Array.replicate 395 none
  statics := none }

def pool12 : Array CpInfo := pool [(2, .class_ 4), (1, u "java/lang/Object"), (0, u "<init>"), (0, u "()V"), (17, .class_ 26), (1, u "jdk/internal/util/Preconditions"), (28, .class_ 56), (0, u "jdk/internal/util/Preconditions$4"), (57, .class_ 115), (0, u "jdk/internal/util/Preconditions$1"), (7, u "SIOOBE_FORMATTER"), (0, u "Ljava/util/function/BiFunction;"), (0, .class_ 126), (0, u "jdk/internal/util/Preconditions$2"), (3, u "AIOOBE_FORMATTER"), (0, .class_ 132), (0, u "jdk/internal/util/Preconditions$3"), (3, u "IOOBE_FORMATTER")] 57

def k12m0 : Method := { name := "<init>", desc := "()V", sig := { parameters := [], returnType := none }, accessFlags := 1, code := none }
/-- jdk/internal/util/Preconditions -/
def k12 : Class := { plain "jdk/internal/util/Preconditions" (some 0) with
  accessFlags := 33
  interfaces := #[]
  cf := some (fileOf pool12 24 #[.nestMembers #[55, 131, 125, 114]] #[{ accessFlags := 1, nameIndex := 5, descriptorIndex := 6, attributes := #[] }] 33 2 #[] #[{ accessFlags := 25, nameIndex := 123, descriptorIndex := 124, attributes := #[] }, { accessFlags := 25, nameIndex := 130, descriptorIndex := 124, attributes := #[] }, { accessFlags := 25, nameIndex := 136, descriptorIndex := 124, attributes := #[] }])
  fields := #[{ name := "SIOOBE_FORMATTER", type := (.object "java/util/function/BiFunction"), accessFlags := 25, slot := 0, constantValue := 0 }, { name := "AIOOBE_FORMATTER", type := (.object "java/util/function/BiFunction"), accessFlags := 25, slot := 1, constantValue := 0 }, { name := "IOOBE_FORMATTER", type := (.object "java/util/function/BiFunction"), accessFlags := 25, slot := 2, constantValue := 0 }]
  methods := #[k12m0]
  instanceTypes := #[]
  staticTypes := #[(.object "java/util/function/BiFunction"), (.object "java/util/function/BiFunction"), (.object "java/util/function/BiFunction")]
  resolved := Array.replicate 194 none
  statics := some 2 }

def pool13 : Array CpInfo := pool [(9, u "<init>"), (6, .class_ 18), (1, u "java/lang/Object"), (0, u "()V"), (1, .class_ 23), (1, u "jdk/internal/util/ArraysSupport"), (0, u "LOG2_ARRAY_LONG_INDEX_SCALE"), (0, u "I"), (2, u "U"), (0, u "Ljdk/internal/misc/Unsafe;"), (8, u "BIG_ENDIAN"), (0, u "Z"), (8, u "LOG2_BYTE_BIT_SIZE"), (4, u "LOG2_ARRAY_INT_INDEX_SCALE"), (54, u "JLA"), (0, u "Ljdk/internal/access/JavaLangAccess;"), (11, u "LOG2_ARRAY_BOOLEAN_INDEX_SCALE"), (9, u "LOG2_ARRAY_BYTE_INDEX_SCALE"), (5, u "LOG2_ARRAY_CHAR_INDEX_SCALE"), (5, u "LOG2_ARRAY_SHORT_INDEX_SCALE"), (18, u "LOG2_ARRAY_FLOAT_INDEX_SCALE"), (24, u "LOG2_ARRAY_DOUBLE_INDEX_SCALE"), (89, u "T_BOOLEAN"), (2, u "T_CHAR"), (1, u "T_FLOAT"), (1, u "T_DOUBLE"), (1, u "T_BYTE"), (1, u "T_SHORT"), (1, u "T_INT"), (1, u "T_LONG"), (1, u "SOFT_MAX_ARRAY_LENGTH")] 83

def k13m0 : Method := { name := "<init>", desc := "()V", sig := { parameters := [], returnType := none }, accessFlags := 2, code := none }
/-- jdk/internal/util/ArraysSupport -/
def k13 : Class := { plain "jdk/internal/util/ArraysSupport" (some 0) with
  accessFlags := 33
  interfaces := #[]
  cf := some (fileOf pool13 21 #[] #[{ accessFlags := 2, nameIndex := 9, descriptorIndex := 19, attributes := #[] }] 33 16 #[] #[{ accessFlags := 24, nameIndex := 28, descriptorIndex := 29, attributes := #[] }, { accessFlags := 26, nameIndex := 38, descriptorIndex := 39, attributes := #[] }, { accessFlags := 25, nameIndex := 121, descriptorIndex := 25, attributes := #[] }, { accessFlags := 25, nameIndex := 131, descriptorIndex := 25, attributes := #[] }, { accessFlags := 25, nameIndex := 137, descriptorIndex := 25, attributes := #[] }, { accessFlags := 25, nameIndex := 143, descriptorIndex := 25, attributes := #[] }, { accessFlags := 25, nameIndex := 53, descriptorIndex := 25, attributes := #[] }, { accessFlags := 25, nameIndex := 24, descriptorIndex := 25, attributes := #[] }, { accessFlags := 25, nameIndex := 162, descriptorIndex := 25, attributes := #[] }, { accessFlags := 25, nameIndex := 187, descriptorIndex := 25, attributes := #[] }, { accessFlags := 26, nameIndex := 48, descriptorIndex := 25, attributes := #[] }, { accessFlags := 25, nameIndex := 277, descriptorIndex := 25, attributes := #[] }, { accessFlags := 25, nameIndex := 280, descriptorIndex := 25, attributes := #[] }, { accessFlags := 25, nameIndex := 282, descriptorIndex := 25, attributes := #[] }, { accessFlags := 25, nameIndex := 284, descriptorIndex := 25, attributes := #[] }, { accessFlags := 25, nameIndex := 286, descriptorIndex := 25, attributes := #[] }, { accessFlags := 25, nameIndex := 288, descriptorIndex := 25, attributes := #[] }, { accessFlags := 25, nameIndex := 290, descriptorIndex := 25, attributes := #[] }, { accessFlags := 25, nameIndex := 292, descriptorIndex := 25, attributes := #[] }, { accessFlags := 26, nameIndex := 108, descriptorIndex := 109, attributes := #[] }, { accessFlags := 25, nameIndex := 294, descriptorIndex := 25, attributes := #[] }])
  fields := #[{ name := "U", type := (.object "jdk/internal/misc/Unsafe"), accessFlags := 24, slot := 0, constantValue := 0 }, { name := "BIG_ENDIAN", type := .boolean, accessFlags := 26, slot := 1, constantValue := 0 }, { name := "LOG2_ARRAY_BOOLEAN_INDEX_SCALE", type := .int, accessFlags := 25, slot := 2, constantValue := 0 }, { name := "LOG2_ARRAY_BYTE_INDEX_SCALE", type := .int, accessFlags := 25, slot := 3, constantValue := 0 }, { name := "LOG2_ARRAY_CHAR_INDEX_SCALE", type := .int, accessFlags := 25, slot := 4, constantValue := 0 }, { name := "LOG2_ARRAY_SHORT_INDEX_SCALE", type := .int, accessFlags := 25, slot := 5, constantValue := 0 }, { name := "LOG2_ARRAY_INT_INDEX_SCALE", type := .int, accessFlags := 25, slot := 6, constantValue := 0 }, { name := "LOG2_ARRAY_LONG_INDEX_SCALE", type := .int, accessFlags := 25, slot := 7, constantValue := 0 }, { name := "LOG2_ARRAY_FLOAT_INDEX_SCALE", type := .int, accessFlags := 25, slot := 8, constantValue := 0 }, { name := "LOG2_ARRAY_DOUBLE_INDEX_SCALE", type := .int, accessFlags := 25, slot := 9, constantValue := 0 }, { name := "LOG2_BYTE_BIT_SIZE", type := .int, accessFlags := 26, slot := 10, constantValue := 0 }, { name := "T_BOOLEAN", type := .int, accessFlags := 25, slot := 11, constantValue := 0 }, { name := "T_CHAR", type := .int, accessFlags := 25, slot := 12, constantValue := 0 }, { name := "T_FLOAT", type := .int, accessFlags := 25, slot := 13, constantValue := 0 }, { name := "T_DOUBLE", type := .int, accessFlags := 25, slot := 14, constantValue := 0 }, { name := "T_BYTE", type := .int, accessFlags := 25, slot := 15, constantValue := 0 }, { name := "T_SHORT", type := .int, accessFlags := 25, slot := 16, constantValue := 0 }, { name := "T_INT", type := .int, accessFlags := 25, slot := 17, constantValue := 0 }, { name := "T_LONG", type := .int, accessFlags := 25, slot := 18, constantValue := 0 }, { name := "JLA", type := (.object "jdk/internal/access/JavaLangAccess"), accessFlags := 26, slot := 19, constantValue := 0 }, { name := "SOFT_MAX_ARRAY_LENGTH", type := .int, accessFlags := 25, slot := 20, constantValue := 0 }]
  methods := #[k13m0]
  instanceTypes := #[]
  staticTypes := #[(.object "jdk/internal/misc/Unsafe"), .boolean, .int, .int, .int, .int, .int, .int, .int, .int, .int, .int, .int, .int, .int, .int, .int, .int, .int, (.object "jdk/internal/access/JavaLangAccess"), .int]
  resolved := Array.replicate 378 none
  statics := none }

def pool14 : Array CpInfo := pool [(1, u "java/lang/Cloneable"), (0, .class_ 1), (0, u "java/lang/Object"), (0, .class_ 3)] 3

/-- java/lang/Cloneable -/
def k14 : Class := { plain "java/lang/Cloneable" (some 0) with
  accessFlags := 1537
  interfaces := #[]
  cf := some (fileOf pool14 2 #[] #[] 1537 4 #[] #[])
  fields := #[]
  methods := #[]
  instanceTypes := #[]
  staticTypes := #[]
  resolved := Array.replicate 8 none
  statics := none }

/-- the primitive byte -/
def k15 : Class := { plain "byte" none with kind := .primitive 'B', accessFlags := 0x411 }
/-- [B -/
def k16 : Class := { plain "[B" (some 0) with kind := .array 15 .byte, interfaces := #[14, 4], accessFlags := 1041 }

/-- the primitive char -/
def k17 : Class := { plain "char" none with kind := .primitive 'C', accessFlags := 0x411 }
/-- [C -/
def k18 : Class := { plain "[C" (some 0) with kind := .array 17 .char, interfaces := #[14, 4], accessFlags := 1041 }

/-- the primitive int -/
def k19 : Class := { plain "int" none with kind := .primitive 'I', accessFlags := 0x411 }
/-- [I -/
def k20 : Class := { plain "[I" (some 0) with kind := .array 19 .int, interfaces := #[14, 4], accessFlags := 1041 }

def heap : Heap := #[{ cls := 6, slots := #[.ref 8, .ref 7, .null], vm := .statics 6 },
  { cls := 9, slots := #[.long 0, .int 1, .null, .int 0, .null, .int 0, .int 0], vm := .statics 9 },
  { cls := 12, slots := #[.null, .null, .null], vm := .statics 12 },
  { cls := 16, slots := #[.int 79, .int 102, .int 102], vm := .none },
  { cls := 9, slots := #[.ref 3, .int 0, .int 0, .int 0], vm := .none },
  { cls := 16, slots := #[.int 79, .int 110], vm := .none },
  { cls := 9, slots := #[.ref 5, .int 0, .int 0, .int 0], vm := .none },
  { cls := 6, slots := #[.null, .int 0, .int 0, .ref 4, .null], vm := .none },
  { cls := 6, slots := #[.null, .int 1, .int 0, .ref 6, .null], vm := .none }]
def classes : Array Class := #[k0, k1, k2, k3, k4, k5, k6, k7, k8, k9, k10, k11, k12, k13, k14, k15, k16, k17, k18, k19, k20]
def interned : List (Array UInt16 × Addr) := []
def slotsUsed : Nat := 36
def theMethod : MethodId := ⟨1, 3⟩
def args0 : Array Value := #[.int 5, .int 6, .int 7, .int 8, .int 9]
def aboutOver (below : List Frame) : State where
  vm := { classes := classes, interned := interned.toArray }
  heap := heap
  slotsUsed := slotsUsed
  threads := #[{ frames := .invoking theMethod args0 :: below }]
def below0 : List Frame := [.native { method := ⟨0, 0⟩, args := #[] }]
def about1 : State := aboutOver below0
def p0 : Program := .bare "" "" ""
def e0 : Env := launch0.env 0 0 0
theorem w_frames : about1.frames = Frame.invoking theMethod args0 :: below0 := rfl
set_option maxRecDepth 65536 in
theorem w_args : argsFit about1.vm theMethod args0 = true := by decide +kernel
set_option maxRecDepth 65536 in
theorem w_heap : heapFits about1 = true := by decide +kernel
set_option maxRecDepth 65536 in
theorem w_runnable : about1.curStatus? = some .runnable := by decide +kernel
set_option maxRecDepth 65536 in
theorem w_alone : about1.alone = true := by decide +kernel
set_option maxRecDepth 65536 in
theorem w_named : about1.methodNamed? x = some theMethod := by decide +kernel
set_option maxRecDepth 65536 in
theorem w_hears : about1.hears theMethod below0 = true := by decide +kernel
set_option maxRecDepth 65536 in
theorem w_ripe : about1.ripe theMethod args0 below0 = true := by decide +kernel
theorem w_running : about1.status = .running := rfl
set_option maxRecDepth 65536 in
theorem w_room : about1.hasRoom e0.platform room_1 = true :=
  launch0.hasRoom_least _ room_1 (by decide +kernel) (by decide +kernel) (by decide +kernel) (by decide +kernel) (by decide +kernel) (by decide +kernel)
theorem allAtoms_all (ts : List Jvm.Cond) (a : Array Jvm.Value) (st : Jvm.State) : (allAtoms ts).before a st = ts.all (fun c => c.before a st) := by
  induction ts with
  | nil => rfl
  | cons c t ih =>
    show (Jvm.Cond.and c (allAtoms t)).before a st = _
    rw [Jvm.Cond.before_and, ih, List.all_cons]
def words1 : List Jvm.Cond := Jvm.Cond.code x code maxLocals ret :: tables_1
/-- a 'code' word, met by the world's own term for the bytes: nothing is compared byte by byte -/
theorem code_word {y : MethodName} {bytes : ByteArray} {mx : Nat} {rt : Option FieldType} {a : Array Value} {s : State} {m : MethodId} {meth : Method} {c : Code} (h1 : s.methodNamed? y = some m) (h2 : s.vm.method? m = some meth) (h3 : meth.code = some c) (h4 : c.code = bytes)
    (h5 : (c.maxLocals == mx && c.exceptionTable.isEmpty && decide (c.maxStack ≤ mostOperands) && decide (meth.sig.returnType = rt) && !meth.locks && decide (parseMethodDescriptor y.desc = some meth.sig)) = true) : (Jvm.Cond.code y bytes mx rt).before a s = true := by
  simp only [Bool.and_eq_true, beq_iff_eq, Bool.not_eq_true', decide_eq_true_eq] at h5
  obtain ⟨⟨⟨⟨⟨g1, g2⟩, g3⟩, g4⟩, g5⟩, g6⟩ := h5
  simp [Cond.before, Cond.holds, Cond.value, h1, h2, h3, h4, g1, g2, g3, g4, g5, g6]
def isCode : Jvm.Cond → Bool
  | .code _ _ _ _ => true
  | _ => false
theorem all_split {L : List Jvm.Cond} {P : Jvm.Cond → Bool} (h1 : L.all (fun c => isCode c || P c) = true) (h2 : ∀ c ∈ L.filter isCode, P c = true) : L.all P = true := by
  refine List.all_eq_true.mpr fun c hc => ?_
  have h := List.all_eq_true.mp h1 c hc
  rcases Bool.eq_false_or_eq_true (isCode c) with hi | hi
  · exact h2 c (List.mem_filter.mpr ⟨hc, hi⟩)
  · simpa [hi] using h
set_option maxRecDepth 65536 in
theorem w_c0 : (Jvm.Cond.code x code maxLocals ret).before args0 about1 = true := code_word (m := ⟨1, 3⟩) (meth := k1m3) (c := k1c3) (by decide +kernel) rfl rfl rfl (by decide +kernel)
set_option maxRecDepth 65536 in
theorem w_c1 : (Jvm.Cond.code ({ cls := "com/example/lightsout/lightsout/machine/PowerStateOfPinLaw", name := "ch", desc := "(IZ)C" } : Jvm.MethodName) method_2_code (3 : Nat) (Option.some Jvm.ClassFile.FieldType.char)).before args0 about1 = true := code_word (m := ⟨1, 1⟩) (meth := k1m1) (c := k1c1) (by decide +kernel) rfl rfl rfl (by decide +kernel)
set_option maxRecDepth 65536 in
theorem w_c2 : (Jvm.Cond.code ({ cls := "com/example/lightsout/lightsout/machine/PowerState", name := "of", desc := "(Ljava/lang/String;)Lcom/example/lightsout/lightsout/machine/PowerState;" } : Jvm.MethodName) prog_13_method_6_code (1 : Nat) (Option.some (Jvm.ClassFile.FieldType.object "com/example/lightsout/lightsout/machine/PowerState"))).before args0 about1 = true := code_word (m := ⟨6, 0⟩) (meth := k6m0) (c := k6c0) (by decide +kernel) rfl rfl rfl (by decide +kernel)
set_option maxRecDepth 65536 in
theorem w_c3 : (Jvm.Cond.code ({ cls := "java/lang/String", name := "equals", desc := "(Ljava/lang/Object;)Z" } : Jvm.MethodName) jdk_42_method_66_code (3 : Nat) (Option.some Jvm.ClassFile.FieldType.boolean)).before args0 about1 = true := code_word (m := ⟨9, 2⟩) (meth := k9m2) (c := k9c2) (by decide +kernel) rfl rfl rfl (by decide +kernel)
set_option maxRecDepth 65536 in
theorem w_c4 : (Jvm.Cond.code ({ cls := "com/example/lightsout/lightsout/machine/PowerStateOfPinLaw", name := "str", desc := "(ICCCC)Ljava/lang/String;" } : Jvm.MethodName) method_3_code (5 : Nat) (Option.some (Jvm.ClassFile.FieldType.object "java/lang/String"))).before args0 about1 = true := code_word (m := ⟨1, 2⟩) (meth := k1m2) (c := k1c2) (by decide +kernel) rfl rfl rfl (by decide +kernel)
set_option maxRecDepth 65536 in
theorem w_c5 : (Jvm.Cond.code ({ cls := "java/lang/String", name := "<init>", desc := "([C)V" } : Jvm.MethodName) jdk_42_method_3_code (2 : Nat) (Option.none : Option Jvm.ClassFile.FieldType)).before args0 about1 = true := code_word (m := ⟨9, 1⟩) (meth := k9m1) (c := k9c1) (by decide +kernel) rfl rfl rfl (by decide +kernel)
set_option maxRecDepth 65536 in
theorem w_c6 : (Jvm.Cond.code ({ cls := "java/lang/String", name := "<init>", desc := "([CIILjava/lang/Void;)V" } : Jvm.MethodName) jdk_42_method_149_code (6 : Nat) (Option.none : Option Jvm.ClassFile.FieldType)).before args0 about1 = true := code_word (m := ⟨9, 3⟩) (meth := k9m3) (c := k9c3) (by decide +kernel) rfl rfl rfl (by decide +kernel)
set_option maxRecDepth 65536 in
theorem w_c7 : (Jvm.Cond.code ({ cls := "java/lang/Object", name := "<init>", desc := "()V" } : Jvm.MethodName) object_method_1_code (1 : Nat) (Option.none : Option Jvm.ClassFile.FieldType)).before args0 about1 = true := code_word (m := ⟨0, 0⟩) (meth := k0m0) (c := k0c0) (by decide +kernel) rfl rfl rfl (by decide +kernel)
set_option maxRecDepth 65536 in
theorem w_c8 : (Jvm.Cond.code ({ cls := "java/lang/StringUTF16", name := "compress", desc := "([CII)[B" } : Jvm.MethodName) jdk_52_method_16_code (6 : Nat) (Option.some (Jvm.ClassFile.FieldType.array Jvm.ClassFile.FieldType.byte))).before args0 about1 = true := code_word (m := ⟨10, 2⟩) (meth := k10m2) (c := k10c2) (by decide +kernel) rfl rfl rfl (by decide +kernel)
set_option maxRecDepth 65536 in
theorem w_c9 : (Jvm.Cond.code ({ cls := "java/lang/StringUTF16", name := "compress", desc := "([CI[BII)I" } : Jvm.MethodName) jdk_52_method_21_code (7 : Nat) (Option.some Jvm.ClassFile.FieldType.int)).before args0 about1 = true := code_word (m := ⟨10, 3⟩) (meth := k10m3) (c := k10c3) (by decide +kernel) rfl rfl rfl (by decide +kernel)
set_option maxRecDepth 65536 in
theorem w_c10 : (Jvm.Cond.code ({ cls := "java/lang/StringUTF16", name := "coderFromArrayLen", desc := "([BI)B" } : Jvm.MethodName) jdk_52_method_15_code (2 : Nat) (Option.some Jvm.ClassFile.FieldType.byte)).before args0 about1 = true := code_word (m := ⟨10, 1⟩) (meth := k10m1) (c := k10c1) (by decide +kernel) rfl rfl rfl (by decide +kernel)
set_option maxRecDepth 65536 in
theorem w_c11 : (Jvm.Cond.code ({ cls := "java/lang/StringLatin1", name := "equals", desc := "([B[B)Z" } : Jvm.MethodName) jdk_43_method_13_code (3 : Nat) (Option.some Jvm.ClassFile.FieldType.boolean)).before args0 about1 = true := code_word (m := ⟨11, 1⟩) (meth := k11m1) (c := k11c1) (by decide +kernel) rfl rfl rfl (by decide +kernel)
def codes1 : List Jvm.Cond := [Jvm.Cond.code x code maxLocals ret, Jvm.Cond.code ({ cls := "com/example/lightsout/lightsout/machine/PowerStateOfPinLaw", name := "ch", desc := "(IZ)C" } : Jvm.MethodName) method_2_code (3 : Nat) (Option.some Jvm.ClassFile.FieldType.char), Jvm.Cond.code ({ cls := "com/example/lightsout/lightsout/machine/PowerState", name := "of", desc := "(Ljava/lang/String;)Lcom/example/lightsout/lightsout/machine/PowerState;" } : Jvm.MethodName) prog_13_method_6_code (1 : Nat) (Option.some (Jvm.ClassFile.FieldType.object "com/example/lightsout/lightsout/machine/PowerState")), Jvm.Cond.code ({ cls := "java/lang/String", name := "equals", desc := "(Ljava/lang/Object;)Z" } : Jvm.MethodName) jdk_42_method_66_code (3 : Nat) (Option.some Jvm.ClassFile.FieldType.boolean), Jvm.Cond.code ({ cls := "com/example/lightsout/lightsout/machine/PowerStateOfPinLaw", name := "str", desc := "(ICCCC)Ljava/lang/String;" } : Jvm.MethodName) method_3_code (5 : Nat) (Option.some (Jvm.ClassFile.FieldType.object "java/lang/String")), Jvm.Cond.code ({ cls := "java/lang/String", name := "<init>", desc := "([C)V" } : Jvm.MethodName) jdk_42_method_3_code (2 : Nat) (Option.none : Option Jvm.ClassFile.FieldType), Jvm.Cond.code ({ cls := "java/lang/String", name := "<init>", desc := "([CIILjava/lang/Void;)V" } : Jvm.MethodName) jdk_42_method_149_code (6 : Nat) (Option.none : Option Jvm.ClassFile.FieldType), Jvm.Cond.code ({ cls := "java/lang/Object", name := "<init>", desc := "()V" } : Jvm.MethodName) object_method_1_code (1 : Nat) (Option.none : Option Jvm.ClassFile.FieldType), Jvm.Cond.code ({ cls := "java/lang/StringUTF16", name := "compress", desc := "([CII)[B" } : Jvm.MethodName) jdk_52_method_16_code (6 : Nat) (Option.some (Jvm.ClassFile.FieldType.array Jvm.ClassFile.FieldType.byte)), Jvm.Cond.code ({ cls := "java/lang/StringUTF16", name := "compress", desc := "([CI[BII)I" } : Jvm.MethodName) jdk_52_method_21_code (7 : Nat) (Option.some Jvm.ClassFile.FieldType.int), Jvm.Cond.code ({ cls := "java/lang/StringUTF16", name := "coderFromArrayLen", desc := "([BI)B" } : Jvm.MethodName) jdk_52_method_15_code (2 : Nat) (Option.some Jvm.ClassFile.FieldType.byte), Jvm.Cond.code ({ cls := "java/lang/StringLatin1", name := "equals", desc := "([B[B)Z" } : Jvm.MethodName) jdk_43_method_13_code (3 : Nat) (Option.some Jvm.ClassFile.FieldType.boolean)]
set_option maxRecDepth 65536 in
theorem codes_eq : words1.filter isCode = codes1 := rfl
theorem w_codes : ∀ c ∈ words1.filter isCode, c.before args0 about1 = true := by
  rw [codes_eq]
  intro c hc
  simp only [codes1, List.mem_cons, List.not_mem_nil, or_false] at hc
  rcases hc with rfl | rfl | rfl | rfl | rfl | rfl | rfl | rfl | rfl | rfl | rfl | rfl
  · exact w_c0
  · exact w_c1
  · exact w_c2
  · exact w_c3
  · exact w_c4
  · exact w_c5
  · exact w_c6
  · exact w_c7
  · exact w_c8
  · exact w_c9
  · exact w_c10
  · exact w_c11
set_option maxRecDepth 65536 in
theorem w_t1 : (words1.take 24).all (fun c => isCode c || c.before args0 about1) = true := by decide +kernel
set_option maxRecDepth 65536 in
theorem w_t2 : ((words1.drop 24).take 24).all (fun c => isCode c || c.before args0 about1) = true := by decide +kernel
set_option maxRecDepth 65536 in
theorem w_t3 : ((words1.drop 24).drop 24).all (fun c => isCode c || c.before args0 about1) = true := by decide +kernel
theorem w_tables : (allAtoms (Jvm.Cond.code x code maxLocals ret :: tables_1)).before args0 about1 = true := by
  rw [allAtoms_all]
  show words1.all (fun c => c.before args0 about1) = true
  refine all_split ?_ w_codes
  rw [← List.take_append_drop 24 words1, List.all_append, w_t1, ← List.take_append_drop 24 (words1.drop 24), List.all_append, w_t2, w_t3]
  rfl
set_option maxRecDepth 65536 in
theorem w_rest : rest_1_c.before args0 about1 = true := by decide +kernel
set_option maxRecDepth 65536 in
theorem w_case : (Jvm.Cond.and given_1 narrow_1).before args0 about1 = true := by decide +kernel
set_option maxRecDepth 65536 in
theorem w_consts : constsHeld consts_1 about1 := Jvm.Lit.constsHeldB_iff.mp (by decide +kernel)
theorem w_applies : (headSpec (Jvm.Cond.code x code maxLocals ret :: tables_1) room_1).applies x e0.platform about1 = true :=
  (Spec.applies_iff w_frames).mpr ⟨w_running, w_runnable, w_alone, w_named, w_hears, w_ripe, w_room, w_tables⟩
theorem atStart : AtStart classFile x code maxLocals ret World_1 tables_1 room_1 Calls_1 rest_1 Pre_1 launch0 p0 e0 about1 theMethod args0 below0 :=
  ⟨lists_1, trivial, launch0.admits_env _ _ _, launch0.least_env, fairChoices_fair.cas, fairChoices_fair.clock, w_frames, w_args, w_heap, w_applies, ⟨w_consts, trivial⟩, w_rest, w_case⟩
end start1
theorem witness_1 : WitnessClaimed_1 := ⟨start1.p0, start1.e0, start1.about1, start1.theMethod, start1.args0, start1.below0, start1.atStart⟩
end Jvm.Pilot.@@N@@
