import JvmDerived
import JvmDerived.Pilot.@@N@@Statement
import JvmDerived.Pilot.@@N@@Code
set_option linter.unusedVariables false
set_option linter.unusedSimpArgs false
namespace Jvm.Pilot.@@N@@
open Jvm Jvm.ClassFile Sem Op Lib Jvm.Free Jvm.Stand Jvm.LawKit Jvm.RoadKit Bundle Jvm.Pilot.@@N@@.Jvm.D
/-! ## The walk goes forward from its goal: own_W says that the run from here ends as Q asks. -/
def own_Post (s : State) (Q : Option Value → Heap → List Loc → Prop) (kc ks : Nat) (o : Outcome) (s₂ : State) : Prop := ∃ v L, o = .returned v ∧ Q v s₂.heap L ∧ FrameEnd s o s₂ L kc ks
def own_Fin (p : Program) (e : Env) (below : List Frame) (P : Outcome → State → Prop) (A : State) : Prop :=
  ∃ s₂ o, Steps p.tables e below A s₂ ∧ s₂.status = .running ∧ Ended s₂ below o ∧ P o s₂
def own_W (p : Program) (e : Env) (below : List Frame) (P : Outcome → State → Prop) (T : State) (m : MethodId) (pc : Nat) (Ls : Array Slot) (S : List Value) : Prop :=
  own_Fin p e below P (T.setTop (mkF m pc Ls S))
theorem own_w {Z : State} {a0 : Array Value} (hw : ∀ d ∈ tables_1, d.before a0 Z = true) (i : Nat) {d : Jvm.Cond} (h : tables_1[i]? = some d) : d.before a0 Z = true := hw d (List.mem_of_getElem? h)
section OwnKit
variable {p : Program} {l : Launch} {e : Env} {R : Room} {s : State} {m : MethodId} {args : Array Value} {below : List Frame} {meth : Method} {c : Code} {T : State} {locs : List Loc} {cells slots : Nat} {Z : State} {a0 : Array Value} {h : Heap}
  {P : Outcome → State → Prop} {Q : Option Value → Heap → List Loc → Prop} {kc ks : Nat} {pc pc' : Nat} {Ls Ls' : Array Slot} {S : List Value}
theorem own_go {A B : State} (st : ∀ t, Steps p.tables e below B t → Steps p.tables e below A t) (K : own_Fin p e below P B) : own_Fin p e below P A :=
  let ⟨s₂, o, h1, r⟩ := K; ⟨s₂, o, st _ h1, r⟩
theorem own_enter {ml : Nat} (q : entryFrame m args ml = mkF m 0 Ls []) (K : own_W p e below (own_Post s Q kc ks) T m 0 Ls []) :
    ∃ s₂ o, Steps p.tables e below (T.setTop (entryFrame m args ml)) s₂ ∧ s₂.status = .running ∧ Ended s₂ below o ∧ ∃ v L, o = .returned v ∧ Q v s₂.heap L ∧ FrameEnd s o s₂ L kc ks := by
  rw [q]; exact K
theorem own_iloadN (X : Stand p l e R s m args below meth c T locs cells slots) (hx : p.tables.exec = Jvm.exec) {k : Fin 4} {v : Int32} (hd : decode c.code pc = .ok (.iload_n k, 1)) (hp : pc + 1 = pc') (hl : Ls[k.val]? = some (.val (.int v))) (K : own_W p e below P T m pc' Ls (.int v :: S)) : own_W p e below P T m pc Ls S := by
  subst hp; exact own_go (fun t => XS.iloadN (g := mkF m pc Ls S) X.here hx rfl hd hl) K
theorem own_iload (X : Stand p l e R s m args below meth c T locs cells slots) (hx : p.tables.exec = Jvm.exec) {k : Nat} {v : Int32} (hd : decode c.code pc = .ok (.iload k, 2)) (hp : pc + 2 = pc') (hl : Ls[k]? = some (.val (.int v))) (K : own_W p e below P T m pc' Ls (.int v :: S)) : own_W p e below P T m pc Ls S := by
  subst hp; exact own_go (fun t => XS.iload (g := mkF m pc Ls S) X.here hx rfl hd hl) K
theorem own_lloadN (X : Stand p l e R s m args below meth c T locs cells slots) (hx : p.tables.exec = Jvm.exec) {k : Fin 4} {v : Int64} (hd : decode c.code pc = .ok (.lload_n k, 1)) (hp : pc + 1 = pc') (hl : Ls[k.val]? = some (.val (.long v))) (K : own_W p e below P T m pc' Ls (.long v :: S)) : own_W p e below P T m pc Ls S := by
  subst hp; exact own_go (fun t => XT.lloadN (g := mkF m pc Ls S) X.here hx rfl hd hl) K
theorem own_lload (X : Stand p l e R s m args below meth c T locs cells slots) (hx : p.tables.exec = Jvm.exec) {k : Nat} {v : Int64} (hd : decode c.code pc = .ok (.lload k, 2)) (hp : pc + 2 = pc') (hl : Ls[k]? = some (.val (.long v))) (K : own_W p e below P T m pc' Ls (.long v :: S)) : own_W p e below P T m pc Ls S := by
  subst hp; exact own_go (fun t => XT.lload (g := mkF m pc Ls S) X.here hx rfl hd hl) K
theorem own_aloadN (X : Stand p l e R s m args below meth c T locs cells slots) (hx : p.tables.exec = Jvm.exec) {k : Fin 4} {v : Value} (hd : decode c.code pc = .ok (.aload_n k, 1)) (hp : pc + 1 = pc') (hl : Ls[k.val]? = some (.val v)) (hv : v.isRef = true) (K : own_W p e below P T m pc' Ls (v :: S)) : own_W p e below P T m pc Ls S := by
  subst hp; exact own_go (fun t => XS.aloadN (g := mkF m pc Ls S) X.here hx rfl hd hl hv) K
theorem own_aload (X : Stand p l e R s m args below meth c T locs cells slots) (hx : p.tables.exec = Jvm.exec) {k : Nat} {v : Value} (hd : decode c.code pc = .ok (.aload k, 2)) (hp : pc + 2 = pc') (hl : Ls[k]? = some (.val v)) (hv : v.isRef = true) (K : own_W p e below P T m pc' Ls (v :: S)) : own_W p e below P T m pc Ls S := by
  subst hp; exact own_go (fun t => XS.aload (g := mkF m pc Ls S) X.here hx rfl hd hl hv) K
theorem own_istoreN (X : Stand p l e R s m args below meth c T locs cells slots) (hx : p.tables.exec = Jvm.exec) {k : Fin 4} {v : Int32} (hd : decode c.code pc = .ok (.istore_n k, 1)) (hp : pc + 1 = pc') (hl : storeLocals Ls k.val (.int v) = some Ls') (K : own_W p e below P T m pc' Ls' S) : own_W p e below P T m pc Ls (.int v :: S) := by
  subst hp; exact own_go (fun t => XS.istoreN (g := mkF m pc Ls (.int v :: S)) X.here hx rfl hd rfl hl) K
theorem own_istore (X : Stand p l e R s m args below meth c T locs cells slots) (hx : p.tables.exec = Jvm.exec) {k : Nat} {v : Int32} (hd : decode c.code pc = .ok (.istore k, 2)) (hp : pc + 2 = pc') (hl : storeLocals Ls k (.int v) = some Ls') (K : own_W p e below P T m pc' Ls' S) : own_W p e below P T m pc Ls (.int v :: S) := by
  subst hp; exact own_go (fun t => XS.istore (g := mkF m pc Ls (.int v :: S)) X.here hx rfl hd rfl hl) K
theorem own_lstoreN (X : Stand p l e R s m args below meth c T locs cells slots) (hx : p.tables.exec = Jvm.exec) {k : Fin 4} {v : Int64} (hd : decode c.code pc = .ok (.lstore_n k, 1)) (hp : pc + 1 = pc') (hl : storeLocals Ls k.val (.long v) = some Ls') (K : own_W p e below P T m pc' Ls' S) : own_W p e below P T m pc Ls (.long v :: S) := by
  subst hp; exact own_go (fun t => XT.lstoreN (g := mkF m pc Ls (.long v :: S)) X.here hx rfl hd rfl hl) K
theorem own_lstore (X : Stand p l e R s m args below meth c T locs cells slots) (hx : p.tables.exec = Jvm.exec) {k : Nat} {v : Int64} (hd : decode c.code pc = .ok (.lstore k, 2)) (hp : pc + 2 = pc') (hl : storeLocals Ls k (.long v) = some Ls') (K : own_W p e below P T m pc' Ls' S) : own_W p e below P T m pc Ls (.long v :: S) := by
  subst hp; exact own_go (fun t => XT.lstore (g := mkF m pc Ls (.long v :: S)) X.here hx rfl hd rfl hl) K
theorem own_astoreN (X : Stand p l e R s m args below meth c T locs cells slots) (hx : p.tables.exec = Jvm.exec) {k : Fin 4} {v : Value} (hd : decode c.code pc = .ok (.astore_n k, 1)) (hp : pc + 1 = pc') (hv : v.isRef = true) (hl : storeLocals Ls k.val v = some Ls') (K : own_W p e below P T m pc' Ls' S) : own_W p e below P T m pc Ls (v :: S) := by
  subst hp; exact own_go (fun t => XS.astoreN (g := mkF m pc Ls (v :: S)) X.here hx rfl hd rfl hv hl) K
theorem own_astore (X : Stand p l e R s m args below meth c T locs cells slots) (hx : p.tables.exec = Jvm.exec) {k : Nat} {v : Value} (hd : decode c.code pc = .ok (.astore k, 2)) (hp : pc + 2 = pc') (hv : v.isRef = true) (hl : storeLocals Ls k v = some Ls') (K : own_W p e below P T m pc' Ls' S) : own_W p e below P T m pc Ls (v :: S) := by
  subst hp; exact own_go (fun t => XS.astore (g := mkF m pc Ls (v :: S)) X.here hx rfl hd rfl hv hl) K
theorem own_iconst (X : Stand p l e R s m args below meth c T locs cells slots) (hx : p.tables.exec = Jvm.exec) {i : Int} (v : Int32) (hd : decode c.code pc = .ok (.iconst i, 1)) (hp : pc + 1 = pc') (hv : Int32.ofInt i = v) (K : own_W p e below P T m pc' Ls (.int v :: S)) : own_W p e below P T m pc Ls S := by
  subst hp hv; exact own_go (fun t => XS.iconst (g := mkF m pc Ls S) X.here hx rfl hd) K
theorem own_bipush (X : Stand p l e R s m args below meth c T locs cells slots) (hx : p.tables.exec = Jvm.exec) {i : Int} (v : Int32) (hd : decode c.code pc = .ok (.bipush i, 2)) (hp : pc + 2 = pc') (hv : (Int8.ofInt i).toInt32 = v) (K : own_W p e below P T m pc' Ls (.int v :: S)) : own_W p e below P T m pc Ls S := by
  subst hp; exact own_go (fun t => XT.bipushV (g := mkF m pc Ls S) X.here hx rfl v hd hv) K
theorem own_sipush (X : Stand p l e R s m args below meth c T locs cells slots) (hx : p.tables.exec = Jvm.exec) {i : Int} (v : Int32) (hd : decode c.code pc = .ok (.sipush i, 3)) (hp : pc + 3 = pc') (hv : (Int16.ofInt i).toInt32 = v) (K : own_W p e below P T m pc' Ls (.int v :: S)) : own_W p e below P T m pc Ls S := by
  subst hp; exact own_go (fun t => XT.sipushV (g := mkF m pc Ls S) X.here hx rfl v hd hv) K
theorem own_lconst (X : Stand p l e R s m args below meth c T locs cells slots) (hx : p.tables.exec = Jvm.exec) {k : Fin 2} (v : Int64) (hd : decode c.code pc = .ok (.lconst k, 1)) (hp : pc + 1 = pc') (hv : Int64.ofNat k = v) (K : own_W p e below P T m pc' Ls (.long v :: S)) : own_W p e below P T m pc Ls S := by
  subst hp; exact own_go (fun t => XT.lconstV (g := mkF m pc Ls S) X.here hx rfl v hd hv) K
theorem own_aconst_null (X : Stand p l e R s m args below meth c T locs cells slots) (hx : p.tables.exec = Jvm.exec) (hd : decode c.code pc = .ok (.aconst_null, 1)) (hp : pc + 1 = pc') (K : own_W p e below P T m pc' Ls (.null :: S)) : own_W p e below P T m pc Ls S := by
  subst hp; exact own_go (fun t => XS.aconstNull (g := mkF m pc Ls S) X.here hx rfl hd) K
theorem own_ldc (X : Stand p l e R s m args below meth c T locs cells slots) (hx : p.tables.exec = Jvm.exec) (hZ : Z.Warmed39 s.vm) {own : String} {index : Nat} {v : Int32} (hown : s.vm.findClass own = some m.cls) (w : (Cond.constant own index v).before a0 Z = true) (hd : decode c.code pc = .ok (.ldc index, 2)) (hp : pc + 2 = pc') (K : own_W p e below P T m pc' Ls (.int v :: S)) : own_W p e below P T m pc Ls S := by
  subst hp; exact own_go (fun t => X.ldcI (g := mkF m pc Ls S) hx hown (mvT hZ w) rfl hd) K
theorem own_ldc2 (X : Stand p l e R s m args below meth c T locs cells slots) (hx : p.tables.exec = Jvm.exec) (hZ : Z.Warmed39 s.vm) {own : String} {index : Nat} {v : Int64} (hown : s.vm.findClass own = some m.cls) (w : (Cond.constantLong own index v).before a0 Z = true) (hd : decode c.code pc = .ok (.ldc2_w index, 3)) (hp : pc + 3 = pc') (K : own_W p e below P T m pc' Ls (.long v :: S)) : own_W p e below P T m pc Ls S := by
  subst hp; exact own_go (fun t => X.ldc2J (g := mkF m pc Ls S) hx hown (mvT hZ w) rfl hd) K
theorem own_iadd (X : Stand p l e R s m args below meth c T locs cells slots) (hx : p.tables.exec = Jvm.exec) {x y : Int32} (hd : decode c.code pc = .ok (.iadd, 1)) (hp : pc + 1 = pc') (K : own_W p e below P T m pc' Ls (.int (x + y) :: S)) : own_W p e below P T m pc Ls (.int y :: .int x :: S) := by
  subst hp; exact own_go (fun t => XS.iadd (g := mkF m pc Ls (.int y :: .int x :: S)) X.here hx rfl hd rfl) K
theorem own_isub (X : Stand p l e R s m args below meth c T locs cells slots) (hx : p.tables.exec = Jvm.exec) {x y : Int32} (hd : decode c.code pc = .ok (.isub, 1)) (hp : pc + 1 = pc') (K : own_W p e below P T m pc' Ls (.int (x - y) :: S)) : own_W p e below P T m pc Ls (.int y :: .int x :: S) := by
  subst hp; exact own_go (fun t => XS.isub (g := mkF m pc Ls (.int y :: .int x :: S)) X.here hx rfl hd rfl) K
theorem own_imul (X : Stand p l e R s m args below meth c T locs cells slots) (hx : p.tables.exec = Jvm.exec) {x y : Int32} (hd : decode c.code pc = .ok (.imul, 1)) (hp : pc + 1 = pc') (K : own_W p e below P T m pc' Ls (.int (x * y) :: S)) : own_W p e below P T m pc Ls (.int y :: .int x :: S) := by
  subst hp; exact own_go (fun t => XS.imul (g := mkF m pc Ls (.int y :: .int x :: S)) X.here hx rfl hd rfl) K
theorem own_iand (X : Stand p l e R s m args below meth c T locs cells slots) (hx : p.tables.exec = Jvm.exec) {x y : Int32} (hd : decode c.code pc = .ok (.iand, 1)) (hp : pc + 1 = pc') (K : own_W p e below P T m pc' Ls (.int (x &&& y) :: S)) : own_W p e below P T m pc Ls (.int y :: .int x :: S) := by
  subst hp; exact own_go (fun t => XS.iand (g := mkF m pc Ls (.int y :: .int x :: S)) X.here hx rfl hd rfl) K
theorem own_ior (X : Stand p l e R s m args below meth c T locs cells slots) (hx : p.tables.exec = Jvm.exec) {x y : Int32} (hd : decode c.code pc = .ok (.ior, 1)) (hp : pc + 1 = pc') (K : own_W p e below P T m pc' Ls (.int (x ||| y) :: S)) : own_W p e below P T m pc Ls (.int y :: .int x :: S) := by
  subst hp; exact own_go (fun t => XT.ior (g := mkF m pc Ls (.int y :: .int x :: S)) X.here hx rfl hd rfl) K
theorem own_ixor (X : Stand p l e R s m args below meth c T locs cells slots) (hx : p.tables.exec = Jvm.exec) {x y : Int32} (hd : decode c.code pc = .ok (.ixor, 1)) (hp : pc + 1 = pc') (K : own_W p e below P T m pc' Ls (.int (x ^^^ y) :: S)) : own_W p e below P T m pc Ls (.int y :: .int x :: S) := by
  subst hp; exact own_go (fun t => XT.ixor (g := mkF m pc Ls (.int y :: .int x :: S)) X.here hx rfl hd rfl) K
theorem own_ishl (X : Stand p l e R s m args below meth c T locs cells slots) (hx : p.tables.exec = Jvm.exec) {x y : Int32} (hd : decode c.code pc = .ok (.ishl, 1)) (hp : pc + 1 = pc') (K : own_W p e below P T m pc' Ls (.int (x <<< (y &&& 31)) :: S)) : own_W p e below P T m pc Ls (.int y :: .int x :: S) := by
  subst hp; exact own_go (fun t => XT.ishl (g := mkF m pc Ls (.int y :: .int x :: S)) X.here hx rfl hd rfl) K
theorem own_ishr (X : Stand p l e R s m args below meth c T locs cells slots) (hx : p.tables.exec = Jvm.exec) {x y : Int32} (hd : decode c.code pc = .ok (.ishr, 1)) (hp : pc + 1 = pc') (K : own_W p e below P T m pc' Ls (.int (x >>> (y &&& 31)) :: S)) : own_W p e below P T m pc Ls (.int y :: .int x :: S) := by
  subst hp; exact own_go (fun t => XT.ishr (g := mkF m pc Ls (.int y :: .int x :: S)) X.here hx rfl hd rfl) K
theorem own_iushr (X : Stand p l e R s m args below meth c T locs cells slots) (hx : p.tables.exec = Jvm.exec) {x y : Int32} (hd : decode c.code pc = .ok (.iushr, 1)) (hp : pc + 1 = pc') (K : own_W p e below P T m pc' Ls (.int (XT.ushr x y) :: S)) : own_W p e below P T m pc Ls (.int y :: .int x :: S) := by
  subst hp; exact own_go (fun t => XT.iushr (g := mkF m pc Ls (.int y :: .int x :: S)) X.here hx rfl hd rfl) K
theorem own_ladd (X : Stand p l e R s m args below meth c T locs cells slots) (hx : p.tables.exec = Jvm.exec) {x y : Int64} (hd : decode c.code pc = .ok (.ladd, 1)) (hp : pc + 1 = pc') (K : own_W p e below P T m pc' Ls (.long (x + y) :: S)) : own_W p e below P T m pc Ls (.long y :: .long x :: S) := by
  subst hp; exact own_go (fun t => XT.ladd (g := mkF m pc Ls (.long y :: .long x :: S)) X.here hx rfl hd rfl) K
theorem own_lsub (X : Stand p l e R s m args below meth c T locs cells slots) (hx : p.tables.exec = Jvm.exec) {x y : Int64} (hd : decode c.code pc = .ok (.lsub, 1)) (hp : pc + 1 = pc') (K : own_W p e below P T m pc' Ls (.long (x - y) :: S)) : own_W p e below P T m pc Ls (.long y :: .long x :: S) := by
  subst hp; exact own_go (fun t => XT.lsub (g := mkF m pc Ls (.long y :: .long x :: S)) X.here hx rfl hd rfl) K
theorem own_lmul (X : Stand p l e R s m args below meth c T locs cells slots) (hx : p.tables.exec = Jvm.exec) {x y : Int64} (hd : decode c.code pc = .ok (.lmul, 1)) (hp : pc + 1 = pc') (K : own_W p e below P T m pc' Ls (.long (x * y) :: S)) : own_W p e below P T m pc Ls (.long y :: .long x :: S) := by
  subst hp; exact own_go (fun t => XT.lmul (g := mkF m pc Ls (.long y :: .long x :: S)) X.here hx rfl hd rfl) K
theorem own_land (X : Stand p l e R s m args below meth c T locs cells slots) (hx : p.tables.exec = Jvm.exec) {x y : Int64} (hd : decode c.code pc = .ok (.land, 1)) (hp : pc + 1 = pc') (K : own_W p e below P T m pc' Ls (.long (x &&& y) :: S)) : own_W p e below P T m pc Ls (.long y :: .long x :: S) := by
  subst hp; exact own_go (fun t => XT.land (g := mkF m pc Ls (.long y :: .long x :: S)) X.here hx rfl hd rfl) K
theorem own_lor (X : Stand p l e R s m args below meth c T locs cells slots) (hx : p.tables.exec = Jvm.exec) {x y : Int64} (hd : decode c.code pc = .ok (.lor, 1)) (hp : pc + 1 = pc') (K : own_W p e below P T m pc' Ls (.long (x ||| y) :: S)) : own_W p e below P T m pc Ls (.long y :: .long x :: S) := by
  subst hp; exact own_go (fun t => XT.lor (g := mkF m pc Ls (.long y :: .long x :: S)) X.here hx rfl hd rfl) K
theorem own_lxor (X : Stand p l e R s m args below meth c T locs cells slots) (hx : p.tables.exec = Jvm.exec) {x y : Int64} (hd : decode c.code pc = .ok (.lxor, 1)) (hp : pc + 1 = pc') (K : own_W p e below P T m pc' Ls (.long (x ^^^ y) :: S)) : own_W p e below P T m pc Ls (.long y :: .long x :: S) := by
  subst hp; exact own_go (fun t => XT.lxor (g := mkF m pc Ls (.long y :: .long x :: S)) X.here hx rfl hd rfl) K
theorem own_lshl (X : Stand p l e R s m args below meth c T locs cells slots) (hx : p.tables.exec = Jvm.exec) {x : Int64} {y : Int32} (hd : decode c.code pc = .ok (.lshl, 1)) (hp : pc + 1 = pc') (K : own_W p e below P T m pc' Ls (.long (x <<< (y.toInt64 &&& 63)) :: S)) : own_W p e below P T m pc Ls (.int y :: .long x :: S) := by
  subst hp; exact own_go (fun t => XT.lshl (g := mkF m pc Ls (.int y :: .long x :: S)) X.here hx rfl hd rfl) K
theorem own_lshr (X : Stand p l e R s m args below meth c T locs cells slots) (hx : p.tables.exec = Jvm.exec) {x : Int64} {y : Int32} (hd : decode c.code pc = .ok (.lshr, 1)) (hp : pc + 1 = pc') (K : own_W p e below P T m pc' Ls (.long (x >>> (y.toInt64 &&& 63)) :: S)) : own_W p e below P T m pc Ls (.int y :: .long x :: S) := by
  subst hp; exact own_go (fun t => XT.lshr (g := mkF m pc Ls (.int y :: .long x :: S)) X.here hx rfl hd rfl) K
theorem own_lushr (X : Stand p l e R s m args below meth c T locs cells slots) (hx : p.tables.exec = Jvm.exec) {x : Int64} {y : Int32} (hd : decode c.code pc = .ok (.lushr, 1)) (hp : pc + 1 = pc') (K : own_W p e below P T m pc' Ls (.long (XT.ushrL x y) :: S)) : own_W p e below P T m pc Ls (.int y :: .long x :: S) := by
  subst hp; exact own_go (fun t => XT.lushr (g := mkF m pc Ls (.int y :: .long x :: S)) X.here hx rfl hd rfl) K
theorem own_idiv (X : Stand p l e R s m args below meth c T locs cells slots) (hx : p.tables.exec = Jvm.exec) {x y : Int32} (hd : decode c.code pc = .ok (.idiv, 1)) (hp : pc + 1 = pc') (hy : y ≠ 0) (K : own_W p e below P T m pc' Ls (.int (x / y) :: S)) : own_W p e below P T m pc Ls (.int y :: .int x :: S) := by
  subst hp; exact own_go (fun t => XS.idiv (g := mkF m pc Ls (.int y :: .int x :: S)) X.here hx rfl hd rfl hy) K
theorem own_irem (X : Stand p l e R s m args below meth c T locs cells slots) (hx : p.tables.exec = Jvm.exec) {x y : Int32} (hd : decode c.code pc = .ok (.irem, 1)) (hp : pc + 1 = pc') (hy : y ≠ 0) (K : own_W p e below P T m pc' Ls (.int (x % y) :: S)) : own_W p e below P T m pc Ls (.int y :: .int x :: S) := by
  subst hp; exact own_go (fun t => iremM (g := mkF m pc Ls (.int y :: .int x :: S)) X hx rfl hd rfl hy) K
theorem own_ldiv (X : Stand p l e R s m args below meth c T locs cells slots) (hx : p.tables.exec = Jvm.exec) {x y : Int64} (hd : decode c.code pc = .ok (.ldiv, 1)) (hp : pc + 1 = pc') (hy : y ≠ 0) (K : own_W p e below P T m pc' Ls (.long (x / y) :: S)) : own_W p e below P T m pc Ls (.long y :: .long x :: S) := by
  subst hp; exact own_go (fun t => XT.ldiv (g := mkF m pc Ls (.long y :: .long x :: S)) X.here hx rfl hd rfl hy) K
theorem own_lrem (X : Stand p l e R s m args below meth c T locs cells slots) (hx : p.tables.exec = Jvm.exec) {x y : Int64} (hd : decode c.code pc = .ok (.lrem, 1)) (hp : pc + 1 = pc') (hy : y ≠ 0) (K : own_W p e below P T m pc' Ls (.long (x % y) :: S)) : own_W p e below P T m pc Ls (.long y :: .long x :: S) := by
  subst hp; rw [← lrem_mod] at K; exact own_go (fun t => XT.lrem (g := mkF m pc Ls (.long y :: .long x :: S)) X.here hx rfl hd rfl hy) K
theorem own_ineg (X : Stand p l e R s m args below meth c T locs cells slots) (hx : p.tables.exec = Jvm.exec) {x : Int32} (hd : decode c.code pc = .ok (.ineg, 1)) (hp : pc + 1 = pc') (K : own_W p e below P T m pc' Ls (.int (-x) :: S)) : own_W p e below P T m pc Ls (.int x :: S) := by
  subst hp; exact own_go (fun t => XS.ineg (g := mkF m pc Ls (.int x :: S)) X.here hx rfl hd rfl) K
theorem own_lneg (X : Stand p l e R s m args below meth c T locs cells slots) (hx : p.tables.exec = Jvm.exec) {x : Int64} (hd : decode c.code pc = .ok (.lneg, 1)) (hp : pc + 1 = pc') (K : own_W p e below P T m pc' Ls (.long (-x) :: S)) : own_W p e below P T m pc Ls (.long x :: S) := by
  subst hp; exact own_go (fun t => XT.lneg (g := mkF m pc Ls (.long x :: S)) X.here hx rfl hd rfl) K
theorem own_i2l (X : Stand p l e R s m args below meth c T locs cells slots) (hx : p.tables.exec = Jvm.exec) {x : Int32} (hd : decode c.code pc = .ok (.i2l, 1)) (hp : pc + 1 = pc') (K : own_W p e below P T m pc' Ls (.long (x.toInt64) :: S)) : own_W p e below P T m pc Ls (.int x :: S) := by
  subst hp; exact own_go (fun t => XT.i2l (g := mkF m pc Ls (.int x :: S)) X.here hx rfl hd rfl) K
theorem own_l2i (X : Stand p l e R s m args below meth c T locs cells slots) (hx : p.tables.exec = Jvm.exec) {x : Int64} (hd : decode c.code pc = .ok (.l2i, 1)) (hp : pc + 1 = pc') (K : own_W p e below P T m pc' Ls (.int (x.toInt32) :: S)) : own_W p e below P T m pc Ls (.long x :: S) := by
  subst hp; exact own_go (fun t => XT.l2i (g := mkF m pc Ls (.long x :: S)) X.here hx rfl hd rfl) K
theorem own_i2b (X : Stand p l e R s m args below meth c T locs cells slots) (hx : p.tables.exec = Jvm.exec) {x : Int32} (hd : decode c.code pc = .ok (.i2b, 1)) (hp : pc + 1 = pc') (K : own_W p e below P T m pc' Ls (.int (x.toInt8.toInt32) :: S)) : own_W p e below P T m pc Ls (.int x :: S) := by
  subst hp; exact own_go (fun t => XT.i2b (g := mkF m pc Ls (.int x :: S)) X.here hx rfl hd rfl) K
theorem own_i2c (X : Stand p l e R s m args below meth c T locs cells slots) (hx : p.tables.exec = Jvm.exec) {x : Int32} (hd : decode c.code pc = .ok (.i2c, 1)) (hp : pc + 1 = pc') (K : own_W p e below P T m pc' Ls (.int (x.toUInt32.toUInt16.toUInt32.toInt32) :: S)) : own_W p e below P T m pc Ls (.int x :: S) := by
  subst hp; exact own_go (fun t => XT.i2c (g := mkF m pc Ls (.int x :: S)) X.here hx rfl hd rfl) K
theorem own_i2s (X : Stand p l e R s m args below meth c T locs cells slots) (hx : p.tables.exec = Jvm.exec) {x : Int32} (hd : decode c.code pc = .ok (.i2s, 1)) (hp : pc + 1 = pc') (K : own_W p e below P T m pc' Ls (.int (x.toInt16.toInt32) :: S)) : own_W p e below P T m pc Ls (.int x :: S) := by
  subst hp; exact own_go (fun t => XT.i2s (g := mkF m pc Ls (.int x :: S)) X.here hx rfl hd rfl) K
theorem own_iinc (X : Stand p l e R s m args below meth c T locs cells slots) (hx : p.tables.exec = Jvm.exec) {k : Nat} {cst : Int} {x : Int32} (v : Int32) (hd : decode c.code pc = .ok (.iinc k cst, 3)) (hp : pc + 3 = pc') (hv : Int32.ofInt cst = v) (hl : Ls[k]? = some (.val (.int x))) (hl' : storeLocals Ls k (.int (x + v)) = some Ls') (K : own_W p e below P T m pc' Ls' S) : own_W p e below P T m pc Ls S := by
  subst hp; exact own_go (fun t => XT.iincV (g := mkF m pc Ls S) X.here hx rfl v hd hv hl hl') K
theorem own_dup (X : Stand p l e R s m args below meth c T locs cells slots) (hx : p.tables.exec = Jvm.exec) {x : Value} (hd : decode c.code pc = .ok (.dup, 1)) (hp : pc + 1 = pc') (hc : x.category = 1) (K : own_W p e below P T m pc' Ls (x :: x :: S)) : own_W p e below P T m pc Ls (x :: S) := by
  subst hp; exact own_go (fun t => XS.dup (g := mkF m pc Ls (x :: S)) X.here hx rfl hd rfl hc) K
theorem own_pop (X : Stand p l e R s m args below meth c T locs cells slots) (hx : p.tables.exec = Jvm.exec) {x : Value} (hd : decode c.code pc = .ok (.pop, 1)) (hp : pc + 1 = pc') (hc : x.category = 1) (K : own_W p e below P T m pc' Ls S) : own_W p e below P T m pc Ls (x :: S) := by
  subst hp; exact own_go (fun t => XT.pop (g := mkF m pc Ls (x :: S)) X.here hx rfl hd rfl hc) K
theorem own_dup2 (X : Stand p l e R s m args below meth c T locs cells slots) (hx : p.tables.exec = Jvm.exec) {x y : Value} (hd : decode c.code pc = .ok (.dup2, 1)) (hp : pc + 1 = pc') (hc : x.category = 1) (hc' : y.category = 1) (K : own_W p e below P T m pc' Ls (x :: y :: x :: y :: S)) : own_W p e below P T m pc Ls (x :: y :: S) := by
  subst hp; exact own_go (fun t => XT.dup2 (g := mkF m pc Ls (x :: y :: S)) X.here hx rfl hd rfl hc hc') K
theorem own_goto (X : Stand p l e R s m args below meth c T locs cells slots) (hx : p.tables.exec = Jvm.exec) {o : Int} (hd : decode c.code pc = .ok (.goto o, 3)) (ho : 0 ≤ (pc : Int) + o) (hp : ((pc : Int) + o).toNat = pc') (K : own_W p e below P T m pc' Ls S) : own_W p e below P T m pc Ls S :=
  own_go (fun t => XS.goto (g := mkF m pc Ls S) X.here hx rfl (pc0 := pc) (pc' := pc') rfl hd ho hp) K
/-- what a taken branch tells (own_P), what one that isn't taken tells (own_N) -/
def own_P : ClassFile.Cond → Int32 → Int32 → Prop
  | .eq, x, y => x = y
  | .ne, x, y => ¬ x = y
  | .lt, x, y => x < y
  | .ge, x, y => ¬ x < y
  | .gt, x, y => y < x
  | .le, x, y => ¬ y < x
def own_N : ClassFile.Cond → Int32 → Int32 → Prop
  | .eq, x, y => ¬ x = y
  | .ne, x, y => x = y
  | .lt, x, y => ¬ x < y
  | .ge, x, y => x < y
  | .gt, x, y => ¬ y < x
  | .le, x, y => y < x
theorem own_holdsT {cd : ClassFile.Cond} {x y : Int32} (q : own_P cd x y) : if_icmp.holds cd x y = true := by
  cases cd <;> first | exact (teq q).1 | exact (feq q).2 | exact (tlt q).1 | exact (flt q).2.1 | exact (tlt q).2.2.1 | exact (flt q).2.2.2
theorem own_holdsF {cd : ClassFile.Cond} {x y : Int32} (q : own_N cd x y) : if_icmp.holds cd x y = false := by
  cases cd <;> first | exact (feq q).1 | exact (teq q).2 | exact (flt q).1 | exact (tlt q).2.1 | exact (flt q).2.2.1 | exact (tlt q).2.2.2
theorem own_or (cd : ClassFile.Cond) (x y : Int32) : own_P cd x y ∨ own_N cd x y := by
  cases cd
  · exact Classical.em (x = y)
  · exact (Classical.em (x = y)).symm
  · exact Classical.em (x < y)
  · exact (Classical.em (x < y)).symm
  · exact Classical.em (y < x)
  · exact (Classical.em (y < x)).symm
theorem own_icmpY (X : Stand p l e R s m args below meth c T locs cells slots) (hx : p.tables.exec = Jvm.exec) {cd : ClassFile.Cond} {x y : Int32} {o : Int} (hd : decode c.code pc = .ok (.if_icmp cd o, 3)) (ho : 0 ≤ (pc : Int) + o) (hp : ((pc : Int) + o).toNat = pc') (q : own_P cd x y) (K : own_W p e below P T m pc' Ls S) : own_W p e below P T m pc Ls (.int y :: .int x :: S) :=
  own_go (fun t => XS.icmpYes (g := mkF m pc Ls (.int y :: .int x :: S)) X.here hx rfl (pc0 := pc) (pc' := pc') rfl hd rfl (own_holdsT q) ho hp) K
theorem own_icmpN (X : Stand p l e R s m args below meth c T locs cells slots) (hx : p.tables.exec = Jvm.exec) {cd : ClassFile.Cond} {x y : Int32} {o : Int} (hd : decode c.code pc = .ok (.if_icmp cd o, 3)) (hp : pc + 3 = pc') (q : own_N cd x y) (K : own_W p e below P T m pc' Ls S) : own_W p e below P T m pc Ls (.int y :: .int x :: S) := by
  subst hp; exact own_go (fun t => XS.icmpNo (g := mkF m pc Ls (.int y :: .int x :: S)) X.here hx rfl hd rfl (own_holdsF q)) K
theorem own_icmp (X : Stand p l e R s m args below meth c T locs cells slots) (hx : p.tables.exec = Jvm.exec) {cd : ClassFile.Cond} {x y : Int32} {o : Int} {pcY pcN : Nat} (hd : decode c.code pc = .ok (.if_icmp cd o, 3)) (ho : 0 ≤ (pc : Int) + o) (hY : ((pc : Int) + o).toNat = pcY) (hN : pc + 3 = pcN) (KY : own_P cd x y → own_W p e below P T m pcY Ls S) (KN : own_N cd x y → own_W p e below P T m pcN Ls S) : own_W p e below P T m pc Ls (.int y :: .int x :: S) :=
  (own_or cd x y).elim (fun q => own_icmpY X hx hd ho hY q (KY q)) (fun q => own_icmpN X hx hd hN q (KN q))
theorem own_ifY (X : Stand p l e R s m args below meth c T locs cells slots) (hx : p.tables.exec = Jvm.exec) {cd : ClassFile.Cond} {x : Int32} {o : Int} (hd : decode c.code pc = .ok (.ifCond cd o, 3)) (ho : 0 ≤ (pc : Int) + o) (hp : ((pc : Int) + o).toNat = pc') (q : own_P cd x 0) (K : own_W p e below P T m pc' Ls S) : own_W p e below P T m pc Ls (.int x :: S) :=
  own_go (fun t => XS.ifYes (g := mkF m pc Ls (.int x :: S)) X.here hx rfl (pc0 := pc) (pc' := pc') rfl hd rfl ((if0 _ _).trans (own_holdsT q)) ho hp) K
theorem own_ifN (X : Stand p l e R s m args below meth c T locs cells slots) (hx : p.tables.exec = Jvm.exec) {cd : ClassFile.Cond} {x : Int32} {o : Int} (hd : decode c.code pc = .ok (.ifCond cd o, 3)) (hp : pc + 3 = pc') (q : own_N cd x 0) (K : own_W p e below P T m pc' Ls S) : own_W p e below P T m pc Ls (.int x :: S) := by
  subst hp; exact own_go (fun t => XS.ifNo (g := mkF m pc Ls (.int x :: S)) X.here hx rfl hd rfl ((if0 _ _).trans (own_holdsF q))) K
theorem own_if (X : Stand p l e R s m args below meth c T locs cells slots) (hx : p.tables.exec = Jvm.exec) {cd : ClassFile.Cond} {x : Int32} {o : Int} {pcY pcN : Nat} (hd : decode c.code pc = .ok (.ifCond cd o, 3)) (ho : 0 ≤ (pc : Int) + o) (hY : ((pc : Int) + o).toNat = pcY) (hN : pc + 3 = pcN) (KY : own_P cd x 0 → own_W p e below P T m pcY Ls S) (KN : own_N cd x 0 → own_W p e below P T m pcN Ls S) : own_W p e below P T m pc Ls (.int x :: S) :=
  (own_or cd x 0).elim (fun q => own_ifY X hx hd ho hY q (KY q)) (fun q => own_ifN X hx hd hN q (KN q))
/-- the same of two longs: lcmp and the branch behind it, in one -/
def own_PL : ClassFile.Cond → Int64 → Int64 → Prop
  | .eq, x, y => x = y
  | .ne, x, y => ¬ x = y
  | .lt, x, y => x < y
  | .ge, x, y => ¬ x < y
  | .gt, x, y => y < x
  | .le, x, y => ¬ y < x
def own_NL : ClassFile.Cond → Int64 → Int64 → Prop
  | .eq, x, y => ¬ x = y
  | .ne, x, y => x = y
  | .lt, x, y => ¬ x < y
  | .ge, x, y => x < y
  | .gt, x, y => ¬ y < x
  | .le, x, y => y < x
theorem own_holdsLT {cd : ClassFile.Cond} {x y : Int64} (q : own_PL cd x y) : ifCond.holds cd (XT.cmpL x y) = true := by
  cases cd
  · exact XT.ll_eq_t q
  · exact XT.ll_ne_t q
  · exact XT.ll_lt_t q
  · exact XT.ll_ge_t q
  · exact XT.ll_gt_t q
  · exact XT.ll_le_t q
theorem own_holdsLF {cd : ClassFile.Cond} {x y : Int64} (q : own_NL cd x y) : ifCond.holds cd (XT.cmpL x y) = false := by
  cases cd
  · exact XT.ll_eq_f q
  · exact XT.ll_ne_f q
  · exact XT.ll_lt_f q
  · exact XT.ll_ge_f q
  · exact XT.ll_gt_f q
  · exact XT.ll_le_f q
theorem own_orL (cd : ClassFile.Cond) (x y : Int64) : own_PL cd x y ∨ own_NL cd x y := by
  cases cd
  · exact Classical.em (x = y)
  · exact (Classical.em (x = y)).symm
  · exact Classical.em (x < y)
  · exact (Classical.em (x < y)).symm
  · exact Classical.em (y < x)
  · exact (Classical.em (y < x)).symm
theorem own_lcY (X : Stand p l e R s m args below meth c T locs cells slots) (hx : p.tables.exec = Jvm.exec) {cd : ClassFile.Cond} {x y : Int64} {o : Int} (hd1 : decode c.code pc = .ok (.lcmp, 1)) (hd : decode c.code (pc + 1) = .ok (.ifCond cd o, 3)) (ho : 0 ≤ ((pc + 1 : Nat) : Int) + o) (hp : (((pc + 1 : Nat) : Int) + o).toNat = pc') (q : own_PL cd x y) (K : own_W p e below P T m pc' Ls S) : own_W p e below P T m pc Ls (.long y :: .long x :: S) :=
  own_go (fun t => XT.lcmp (g := mkF m pc Ls (.long y :: .long x :: S)) X.here hx rfl hd1 rfl) (own_go (fun t => XS.ifYes (g := mkF m (pc + 1) Ls (.int (XT.cmpL x y) :: S)) X.here hx rfl (pc0 := pc + 1) (pc' := pc') rfl hd rfl (own_holdsLT q) ho hp) K)
theorem own_lcN (X : Stand p l e R s m args below meth c T locs cells slots) (hx : p.tables.exec = Jvm.exec) {cd : ClassFile.Cond} {x y : Int64} {o : Int} (hd1 : decode c.code pc = .ok (.lcmp, 1)) (hd : decode c.code (pc + 1) = .ok (.ifCond cd o, 3)) (hp : pc + 4 = pc') (q : own_NL cd x y) (K : own_W p e below P T m pc' Ls S) : own_W p e below P T m pc Ls (.long y :: .long x :: S) := by
  subst hp; exact own_go (fun t => XT.lcmp (g := mkF m pc Ls (.long y :: .long x :: S)) X.here hx rfl hd1 rfl) (own_go (fun t => XS.ifNo (g := mkF m (pc + 1) Ls (.int (XT.cmpL x y) :: S)) X.here hx rfl hd rfl (own_holdsLF q)) K)
theorem own_lc (X : Stand p l e R s m args below meth c T locs cells slots) (hx : p.tables.exec = Jvm.exec) {cd : ClassFile.Cond} {x y : Int64} {o : Int} {pcY pcN : Nat} (hd1 : decode c.code pc = .ok (.lcmp, 1)) (hd : decode c.code (pc + 1) = .ok (.ifCond cd o, 3)) (ho : 0 ≤ ((pc + 1 : Nat) : Int) + o) (hY : (((pc + 1 : Nat) : Int) + o).toNat = pcY) (hN : pc + 4 = pcN) (KY : own_PL cd x y → own_W p e below P T m pcY Ls S) (KN : own_NL cd x y → own_W p e below P T m pcN Ls S) : own_W p e below P T m pc Ls (.long y :: .long x :: S) :=
  (own_orL cd x y).elim (fun q => own_lcY X hx hd1 hd ho hY q (KY q)) (fun q => own_lcN X hx hd1 hd hN q (KN q))
theorem own_ifnullY (X : Stand p l e R s m args below meth c T locs cells slots) (hx : p.tables.exec = Jvm.exec) {o : Int} (hd : decode c.code pc = .ok (.ifnull o, 3)) (ho : 0 ≤ (pc : Int) + o) (hp : ((pc : Int) + o).toNat = pc') (K : own_W p e below P T m pc' Ls S) : own_W p e below P T m pc Ls (.null :: S) :=
  own_go (fun t => XS.ifnullYes (g := mkF m pc Ls (.null :: S)) X.here hx rfl (pc0 := pc) (pc' := pc') rfl hd rfl ho hp) K
theorem own_ifnullN (X : Stand p l e R s m args below meth c T locs cells slots) (hx : p.tables.exec = Jvm.exec) {o : Int} {a : Addr} (hd : decode c.code pc = .ok (.ifnull o, 3)) (hp : pc + 3 = pc') (K : own_W p e below P T m pc' Ls S) : own_W p e below P T m pc Ls (.ref a :: S) := by
  subst hp; exact own_go (fun t => XS.ifnullNo (g := mkF m pc Ls (.ref a :: S)) X.here hx rfl hd rfl) K
theorem own_ifnonnullY (X : Stand p l e R s m args below meth c T locs cells slots) (hx : p.tables.exec = Jvm.exec) {o : Int} {a : Addr} (hd : decode c.code pc = .ok (.ifnonnull o, 3)) (ho : 0 ≤ (pc : Int) + o) (hp : ((pc : Int) + o).toNat = pc') (K : own_W p e below P T m pc' Ls S) : own_W p e below P T m pc Ls (.ref a :: S) :=
  own_go (fun t => XT.ifnonnullYes (g := mkF m pc Ls (.ref a :: S)) X.here hx rfl (pc0 := pc) (pc' := pc') rfl hd rfl ho hp) K
theorem own_ifnonnullN (X : Stand p l e R s m args below meth c T locs cells slots) (hx : p.tables.exec = Jvm.exec) {o : Int} (hd : decode c.code pc = .ok (.ifnonnull o, 3)) (hp : pc + 3 = pc') (K : own_W p e below P T m pc' Ls S) : own_W p e below P T m pc Ls (.null :: S) := by
  subst hp; exact own_go (fun t => XT.ifnonnullNo (g := mkF m pc Ls (.null :: S)) X.here hx rfl hd rfl) K
theorem own_acmpY (X : Stand p l e R s m args below meth c T locs cells slots) (hx : p.tables.exec = Jvm.exec) {cd : ClassFile.ACond} {x y : Value} {o : Int} (hd : decode c.code pc = .ok (.if_acmp cd o, 3)) (ho : 0 ≤ (pc : Int) + o) (hp : ((pc : Int) + o).toNat = pc') (hx' : x.isRef = true) (hy' : y.isRef = true) (q : XT.acmp cd x y = true) (K : own_W p e below P T m pc' Ls S) : own_W p e below P T m pc Ls (y :: x :: S) :=
  own_go (fun t => XT.acmpYes (g := mkF m pc Ls (y :: x :: S)) X.here hx rfl (pc0 := pc) (pc' := pc') rfl hd rfl hx' hy' q ho hp) K
theorem own_acmpN (X : Stand p l e R s m args below meth c T locs cells slots) (hx : p.tables.exec = Jvm.exec) {cd : ClassFile.ACond} {x y : Value} {o : Int} (hd : decode c.code pc = .ok (.if_acmp cd o, 3)) (hp : pc + 3 = pc') (hx' : x.isRef = true) (hy' : y.isRef = true) (q : XT.acmp cd x y = false) (K : own_W p e below P T m pc' Ls S) : own_W p e below P T m pc Ls (y :: x :: S) := by
  subst hp; exact own_go (fun t => XT.acmpNo (g := mkF m pc Ls (y :: x :: S)) X.here hx rfl hd rfl hx' hy' q) K
/-! heap -/
theorem own_getF (X : Stand p l e R s m args below meth c T locs cells slots) (hx : p.tables.exec = Jvm.exec) (hZ : Z.Warmed39 s.vm) {own R0 O n d host : String} {index : Nat} (hown : s.vm.findClass own = some m.cls) (w : (Cond.fieldLink own index R0 n d).before a0 Z = true ∨ (Cond.fieldLinkNest own index R0 n d host).before a0 Z = true) (via : Via Z R0 O n d)
    (eT : T.heap = h) {a : Addr} {v : Value} (F : Fld Z h a O n d v) (hd : decode c.code pc = .ok (.getfield index, 3)) (hp : pc + 3 = pc')
    (K : ∀ T', Stand p l e R s m args below meth c T' locs cells slots → T'.heap = h → own_W p e below P T' m pc' Ls (v :: S)) : own_W p e below P T m pc Ls (.ref a :: S) := by
  subst hp
  obtain ⟨T', X', e', st⟩ := getF X hx hZ hown w via eT F (g := mkF m pc Ls (.ref a :: S)) rfl rfl hd
  exact own_go st (K T' X' e')
theorem own_getS (X : Stand p l e R s m args below meth c T locs cells slots) (hx : p.tables.exec = Jvm.exec) (hZ : Z.Warmed39 s.vm) {own R0 O n d host : String} {index : Nat} (hown : s.vm.findClass own = some m.cls) (w : (Cond.fieldLink own index R0 n d).before a0 Z = true ∨ (Cond.fieldLinkNest own index R0 n d host).before a0 Z = true) (via : Via Z R0 O n d)
    (eT : T.heap = h) {v : Value} (F : Sta Z h O n d v) (hd : decode c.code pc = .ok (.getstatic index, 3)) (hp : pc + 3 = pc')
    (K : ∀ T', Stand p l e R s m args below meth c T' locs cells slots → T'.heap = h → own_W p e below P T' m pc' Ls (v :: S)) : own_W p e below P T m pc Ls S := by
  subst hp
  obtain ⟨T', X', e', st⟩ := getS2 X hx hZ hown w via eT F (g := mkF m pc Ls S) rfl hd
  exact own_go st (K T' X' e')
theorem own_putF (X : Stand p l e R s m args below meth c T locs cells slots) (hx : p.tables.exec = Jvm.exec) (hZ : Z.Warmed39 s.vm) {own R0 O n d C : String} {index kk : Nat} {ty : FieldType} (hown : s.vm.findClass own = some m.cls) (w : (Cond.fieldLink own index R0 n d).before a0 Z = true) (via : Via Z R0 O n d)
    (eT : T.heap = h) {a : Addr} {v v' old : Value} (F : Fld Z h a O n d old) (E : Exa Z h a C) (L : (Cond.lays C O n d).before a0 Z = true ∨ ((Cond.laysFinal C O n d).before a0 Z = true ∧ own = O ∧ meth.name = "<init>")) (wi : (Cond.instantiable C kk).before a0 Z = true)
    (hty : parseFieldDescriptor d = some ty) (hn : narrow ty v = v') (hf : fits ty v' = true) (hd : decode c.code pc = .ok (.putfield index, 3)) (hp : pc + 3 = pc')
    (K : ∀ T' h' lc, Stand p l e R s m args below meth c T' lc cells slots → T'.heap = h' → Wr h h' a (Jvm.RoadKit.slotOf Z O n d) v' → (∀ n0, n0 ≤ a → Fr n0 locs → Fr n0 lc) → own_W p e below P T' m pc' Ls S) : own_W p e below P T m pc Ls (v :: .ref a :: S) := by
  subst hp
  obtain ⟨T', h', X', e', W', st⟩ := putFN X hx hZ hown w via eT F E L wi hty hn hf (g := mkF m pc Ls (v :: .ref a :: S)) rfl rfl hd
  exact own_go st (K T' h' _ X' e' W' fun _ q N => Fr.snoc X' N q)
theorem own_new (X : Stand p l e R s m args below meth c T locs cells slots) (hx : p.tables.exec = Jvm.exec) (hZ : Z.Warmed39 s.vm) {own C : String} {index n : Nat} (hown : s.vm.findClass own = some m.cls) (w : (Cond.classLink own index C).before a0 Z = true) (wi : (Cond.instantiable C n).before a0 Z = true) (wz : (Cond.initialized C).before a0 Z = true) (eT : T.heap = h)
    (hd : decode c.code pc = .ok (.new index, 3)) (hp : pc + 3 = pc') {cells' slots' : Nat} (hc' : cells + 1 = cells') (hs' : slots + n = slots') (hc : cells' ≤ R.cells) (hl : slots' ≤ R.slots)
    (K : ∀ T' h' a, Stand p l e R s m args below meth c T' locs cells' slots' → T'.heap = h' → Ext h h' → a = h.size → Exa Z h' a C → (∀ {O nm d : String} {ty : FieldType}, Laid Z a0 C O nm d → parseFieldDescriptor d = some ty → Fld Z h' a O nm d (defaultValue ty)) → own_W p e below P T' m pc' Ls (.ref a :: S)) : own_W p e below P T m pc Ls S := by
  subst hp hc' hs'
  obtain ⟨T', h', X', e', E', A', D', -, st⟩ := newO X hx hZ hown w wi wz eT (g := mkF m pc Ls S) rfl hd hc hl
  exact own_go st (K T' h' _ X' e' E' rfl A' D')
theorem own_newarr (X : Stand p l e R s m args below meth c T locs cells slots) (hx : p.tables.exec = Jvm.exec) (hZ : Z.Warmed39 s.vm) {aty : ArrayType} (w : (Cond.arrayClass (newarray.typeOf aty)).before a0 Z = true) (eT : T.heap = h) (hd : decode c.code pc = .ok (.newarray aty, 2)) (hp : pc + 2 = pc') {n : Int32}
    (hn : ¬ n < 0) (cap : Nat) (hcap : n.toNatClampNeg ≤ cap) (hb : cap * 8 ≤ 536870912) {cells' slots' : Nat} (hc' : cells + 1 = cells') (hs' : slots + cap = slots') (hc : cells' ≤ R.cells) (hl : slots' ≤ R.slots)
    (K : ∀ T' h' cA a, Stand p l e R s m args below meth c T' locs cells' slots' → T'.heap = h' → Ext h h' → a = h.size → Arv Z h' a cA (newarray.typeOf aty) n [] (defaultValue (newarray.typeOf aty)) → own_W p e below P T' m pc' Ls (.ref a :: S)) : own_W p e below P T m pc Ls (.int n :: S) := by
  subst hp hc' hs'
  obtain ⟨T', h', cA, X', e', E', A', st⟩ := newP X hx hZ w eT (g := mkF m pc Ls (.int n :: S)) rfl hd rfl hn hcap hb hc hl
  exact own_go st (K T' h' cA _ X' e' E' rfl (Arv.new A' hn))
theorem own_arrlen (X : Stand p l e R s m args below meth c T locs cells slots) (hx : p.tables.exec = Jvm.exec) (hZ : Z.Warmed39 s.vm) (eT : T.heap = h) {a : Addr} {k : ClassId} {ty : FieldType} {n : Int32} {vs : List Value} {dv : Value} (A : Arv Z h a k ty n vs dv) (hd : decode c.code pc = .ok (.arraylength, 1)) (hp : pc + 1 = pc')
    (K : own_W p e below P T m pc' Ls (.int n :: S)) : own_W p e below P T m pc Ls (.ref a :: S) := by
  subst hp
  obtain ⟨cl, Ar, -, Sz, M, -⟩ := A
  have q := len_of Sz M
  rw [← q] at K
  exact own_go (fun t => X.arraylength hx (cell := cl) (by rw [eT]; exact Ar.1) (State.isArrayOf_alike hZ.alike Ar.2.1) (g := mkF m pc Ls (.ref a :: S)) rfl rfl hd t) K
theorem own_iaload (X : Stand p l e R s m args below meth c T locs cells slots) (hx : p.tables.exec = Jvm.exec) (hZ : Z.Warmed39 s.vm) (eT : T.heap = h) {a : Addr} {k : ClassId} {n : Int32} {vs : List Value} {dv : Value} (A : Arv Z h a k .int n vs dv) {j : Int32} {v : Value} (hj : ¬ j < 0 ∧ j < n) (hv : vs.getD j.toNatClampNeg dv = v) (hd : decode c.code pc = .ok (.iaload, 1)) (hp : pc + 1 = pc')
    (K : own_W p e below P T m pc' Ls (v :: S)) : own_W p e below P T m pc Ls (.int j :: .ref a :: S) := by
  subst hp
  obtain ⟨cl, Ar, -, Sz, M, H, -⟩ := A
  have hin := inb_of Sz hj
  exact own_go (fun t => X.iaload hx (cell := cl) (j := j) (v := v) (by rw [eT]; exact Ar.1) (State.isArrayOf_alike hZ.alike Ar.2.1) Ar.2.2 hin (H.at hin hv) (g := mkF m pc Ls (.int j :: .ref a :: S)) rfl rfl hd t) K
theorem own_laload (X : Stand p l e R s m args below meth c T locs cells slots) (hx : p.tables.exec = Jvm.exec) (hZ : Z.Warmed39 s.vm) (eT : T.heap = h) {a : Addr} {k : ClassId} {n : Int32} {vs : List Value} {dv : Value} (A : Arv Z h a k .long n vs dv) {j : Int32} {v : Value} (hj : ¬ j < 0 ∧ j < n) (hv : vs.getD j.toNatClampNeg dv = v) (hd : decode c.code pc = .ok (.laload, 1)) (hp : pc + 1 = pc')
    (K : own_W p e below P T m pc' Ls (v :: S)) : own_W p e below P T m pc Ls (.int j :: .ref a :: S) := by
  subst hp
  obtain ⟨cl, Ar, -, Sz, M, H, -⟩ := A
  have hin := inb_of Sz hj
  exact own_go (fun t => X.laload hx (cell := cl) (j := j) (v := v) (by rw [eT]; exact Ar.1) (State.isArrayOf_alike hZ.alike Ar.2.1) Ar.2.2 hin (H.at hin hv) (g := mkF m pc Ls (.int j :: .ref a :: S)) rfl rfl hd t) K
theorem own_caload (X : Stand p l e R s m args below meth c T locs cells slots) (hx : p.tables.exec = Jvm.exec) (hZ : Z.Warmed39 s.vm) (eT : T.heap = h) {a : Addr} {k : ClassId} {n : Int32} {vs : List Value} {dv : Value} (A : Arv Z h a k .char n vs dv) {j : Int32} {v : Value} (hj : ¬ j < 0 ∧ j < n) (hv : vs.getD j.toNatClampNeg dv = v) (hd : decode c.code pc = .ok (.caload, 1)) (hp : pc + 1 = pc')
    (K : own_W p e below P T m pc' Ls (v :: S)) : own_W p e below P T m pc Ls (.int j :: .ref a :: S) := by
  subst hp
  obtain ⟨cl, Ar, -, Sz, M, H, -⟩ := A
  have hin := inb_of Sz hj
  exact own_go (fun t => X.caload hx (cell := cl) (j := j) (v := v) (by rw [eT]; exact Ar.1) (State.isArrayOf_alike hZ.alike Ar.2.1) Ar.2.2 hin (H.at hin hv) (g := mkF m pc Ls (.int j :: .ref a :: S)) rfl rfl hd t) K
theorem own_baloadB (X : Stand p l e R s m args below meth c T locs cells slots) (hx : p.tables.exec = Jvm.exec) (hZ : Z.Warmed39 s.vm) (eT : T.heap = h) {a : Addr} {k : ClassId} {n : Int32} {vs : List Value} {dv : Value} (A : Arv Z h a k .byte n vs dv) {j : Int32} {v : Value} (hj : ¬ j < 0 ∧ j < n) (hv : vs.getD j.toNatClampNeg dv = v) (hd : decode c.code pc = .ok (.baload, 1)) (hp : pc + 1 = pc')
    (K : own_W p e below P T m pc' Ls (v :: S)) : own_W p e below P T m pc Ls (.int j :: .ref a :: S) := by
  subst hp
  obtain ⟨cl, Ar, -, Sz, M, H, -⟩ := A
  have hin := inb_of Sz hj
  exact own_go (fun t => X.baloadBytes hx (cell := cl) (j := j) (v := v) (by rw [eT]; exact Ar.1) (State.isArrayOf_alike hZ.alike Ar.2.1) Ar.2.2 hin (H.at hin hv) (g := mkF m pc Ls (.int j :: .ref a :: S)) rfl rfl hd t) K
theorem own_baloadZ (X : Stand p l e R s m args below meth c T locs cells slots) (hx : p.tables.exec = Jvm.exec) (hZ : Z.Warmed39 s.vm) (eT : T.heap = h) {a : Addr} {k : ClassId} {n : Int32} {vs : List Value} {dv : Value} (A : Arv Z h a k .boolean n vs dv) {j : Int32} {v : Value} (hj : ¬ j < 0 ∧ j < n) (hv : vs.getD j.toNatClampNeg dv = v) (hd : decode c.code pc = .ok (.baload, 1)) (hp : pc + 1 = pc')
    (K : own_W p e below P T m pc' Ls (v :: S)) : own_W p e below P T m pc Ls (.int j :: .ref a :: S) := by
  subst hp
  obtain ⟨cl, Ar, -, Sz, M, H, -⟩ := A
  have hin := inb_of Sz hj
  exact own_go (fun t => X.baloadBooleans hx (cell := cl) (j := j) (v := v) (by rw [eT]; exact Ar.1) (State.isArrayOf_alike hZ.alike Ar.2.1) Ar.2.2 hin (H.at hin hv) (g := mkF m pc Ls (.int j :: .ref a :: S)) rfl rfl hd t) K
theorem own_aaload (X : Stand p l e R s m args below meth c T locs cells slots) (hx : p.tables.exec = Jvm.exec) (hZ : Z.Warmed39 s.vm) (eT : T.heap = h) {a : Addr} {k : ClassId} {ty : FieldType} (hty : ty.isReference = true) {n : Int32} {vs : List Value} {dv : Value} (A : Arv Z h a k ty n vs dv) {j : Int32} {v : Value} (hj : ¬ j < 0 ∧ j < n) (hv : vs.getD j.toNatClampNeg dv = v) (hd : decode c.code pc = .ok (.aaload, 1)) (hp : pc + 1 = pc')
    (K : own_W p e below P T m pc' Ls (v :: S)) : own_W p e below P T m pc Ls (.int j :: .ref a :: S) := by
  subst hp
  obtain ⟨cl, Ar, -, Sz, M, H, -⟩ := A
  have hin := inb_of Sz hj
  exact own_go (fun t => X.aaload hx (cell := cl) (j := j) (v := v) (by rw [eT]; exact Ar.1) (State.isArrayOf_alike hZ.alike Ar.2.1) hty Ar.2.2 hin (H.at hin hv) (g := mkF m pc Ls (.int j :: .ref a :: S)) rfl rfl hd t) K
theorem own_iastore (X : Stand p l e R s m args below meth c T locs cells slots) (hx : p.tables.exec = Jvm.exec) (hZ : Z.Warmed39 s.vm) (eT : T.heap = h) {a : Addr} {k : ClassId} {n : Int32} {vs : List Value} {dv : Value} (A : Arv Z h a k .int n vs dv) {j : Int32} {x : Int32} (hj : ¬ j < 0 ∧ j < n) (i : Nat) (hi : j.toNatClampNeg = i) (hlen : i < vs.length) (hd : decode c.code pc = .ok (.iastore, 1)) (hp : pc + 1 = pc')
    (K : ∀ T' h' lc, Stand p l e R s m args below meth c T' lc cells slots → T'.heap = h' → Keep h h' [a] → Arv Z h' a k .int n (vs.set i (.int x)) dv → (∀ n0, n0 ≤ a → Fr n0 locs → Fr n0 lc) → own_W p e below P T' m pc' Ls S) : own_W p e below P T m pc Ls (.int x :: .int j :: .ref a :: S) := by
  subst hp
  obtain ⟨cl, Ar, q1, Sz, M, H, G⟩ := A
  obtain ⟨T', h', X', e', W', st⟩ := stI X hx hZ eT Ar (inb_of Sz hj) (g := mkF m pc Ls (.int x :: .int j :: .ref a :: S)) rfl rfl hd
  exact own_go st (K T' h' _ X' e' (Keep.of_wr W') (Arv.set Ar q1 Sz M H G rfl W' i hi hlen) fun _ q N => Fr.snoc X' N q)
theorem own_lastore (X : Stand p l e R s m args below meth c T locs cells slots) (hx : p.tables.exec = Jvm.exec) (hZ : Z.Warmed39 s.vm) (eT : T.heap = h) {a : Addr} {k : ClassId} {n : Int32} {vs : List Value} {dv : Value} (A : Arv Z h a k .long n vs dv) {j : Int32} {x : Int64} (hj : ¬ j < 0 ∧ j < n) (i : Nat) (hi : j.toNatClampNeg = i) (hlen : i < vs.length) (hd : decode c.code pc = .ok (.lastore, 1)) (hp : pc + 1 = pc')
    (K : ∀ T' h' lc, Stand p l e R s m args below meth c T' lc cells slots → T'.heap = h' → Keep h h' [a] → Arv Z h' a k .long n (vs.set i (.long x)) dv → (∀ n0, n0 ≤ a → Fr n0 locs → Fr n0 lc) → own_W p e below P T' m pc' Ls S) : own_W p e below P T m pc Ls (.long x :: .int j :: .ref a :: S) := by
  subst hp
  obtain ⟨cl, Ar, q1, Sz, M, H, G⟩ := A
  obtain ⟨T', h', X', e', W', st⟩ := stJ X hx hZ eT Ar (inb_of Sz hj) (g := mkF m pc Ls (.long x :: .int j :: .ref a :: S)) rfl rfl hd
  exact own_go st (K T' h' _ X' e' (Keep.of_wr W') (Arv.set Ar q1 Sz M H G rfl W' i hi hlen) fun _ q N => Fr.snoc X' N q)
theorem own_castore (X : Stand p l e R s m args below meth c T locs cells slots) (hx : p.tables.exec = Jvm.exec) (hZ : Z.Warmed39 s.vm) (eT : T.heap = h) {a : Addr} {k : ClassId} {n : Int32} {vs : List Value} {dv : Value} (A : Arv Z h a k .char n vs dv) {j : Int32} {x : Int32} (hj : ¬ j < 0 ∧ j < n) (i : Nat) (hi : j.toNatClampNeg = i) (hlen : i < vs.length) (hd : decode c.code pc = .ok (.castore, 1)) (hp : pc + 1 = pc')
    (K : ∀ T' h' lc, Stand p l e R s m args below meth c T' lc cells slots → T'.heap = h' → Keep h h' [a] → Arv Z h' a k .char n (vs.set i (.int (nar .char x))) dv → (∀ n0, n0 ≤ a → Fr n0 locs → Fr n0 lc) → own_W p e below P T' m pc' Ls S) : own_W p e below P T m pc Ls (.int x :: .int j :: .ref a :: S) := by
  subst hp
  obtain ⟨cl, Ar, q1, Sz, M, H, G⟩ := A
  obtain ⟨T', h', X', e', W', st⟩ := stC X hx hZ eT Ar (inb_of Sz hj) (g := mkF m pc Ls (.int x :: .int j :: .ref a :: S)) rfl rfl hd
  exact own_go st (K T' h' _ X' e' (Keep.of_wr W') (Arv.set Ar q1 Sz M H G (fits_nar_char x) W' i hi hlen) fun _ q N => Fr.snoc X' N q)
theorem own_bastoreZ (X : Stand p l e R s m args below meth c T locs cells slots) (hx : p.tables.exec = Jvm.exec) (hZ : Z.Warmed39 s.vm) (eT : T.heap = h) {a : Addr} {k : ClassId} {n : Int32} {vs : List Value} {dv : Value} (A : Arv Z h a k .boolean n vs dv) {j : Int32} {x : Int32} (hj : ¬ j < 0 ∧ j < n) (i : Nat) (hi : j.toNatClampNeg = i) (hlen : i < vs.length) (hd : decode c.code pc = .ok (.bastore, 1)) (hp : pc + 1 = pc')
    (K : ∀ T' h' lc, Stand p l e R s m args below meth c T' lc cells slots → T'.heap = h' → Keep h h' [a] → Arv Z h' a k .boolean n (vs.set i (.int (nar .boolean x))) dv → (∀ n0, n0 ≤ a → Fr n0 locs → Fr n0 lc) → own_W p e below P T' m pc' Ls S) : own_W p e below P T m pc Ls (.int x :: .int j :: .ref a :: S) := by
  subst hp
  obtain ⟨cl, Ar, q1, Sz, M, H, G⟩ := A
  obtain ⟨T', h', X', e', W', st⟩ := stZ X hx hZ eT Ar (inb_of Sz hj) (g := mkF m pc Ls (.int x :: .int j :: .ref a :: S)) rfl rfl hd
  exact own_go st (K T' h' _ X' e' (Keep.of_wr W') (Arv.set Ar q1 Sz M H G (fits_nar_bool x) W' i hi hlen) fun _ q N => Fr.snoc X' N q)
theorem own_bastoreB (X : Stand p l e R s m args below meth c T locs cells slots) (hx : p.tables.exec = Jvm.exec) (hZ : Z.Warmed39 s.vm) (eT : T.heap = h) {a : Addr} {k : ClassId} {n : Int32} {vs : List Value} {dv : Value} (A : Arv Z h a k .byte n vs dv) {j : Int32} {x : Int32} (hj : ¬ j < 0 ∧ j < n) (i : Nat) (hi : j.toNatClampNeg = i) (hlen : i < vs.length) (hd : decode c.code pc = .ok (.bastore, 1)) (hp : pc + 1 = pc')
    (K : ∀ T' h' lc, Stand p l e R s m args below meth c T' lc cells slots → T'.heap = h' → Keep h h' [a] → Arv Z h' a k .byte n (vs.set i (.int (nar .byte x))) dv → (∀ n0, n0 ≤ a → Fr n0 locs → Fr n0 lc) → own_W p e below P T' m pc' Ls S) : own_W p e below P T m pc Ls (.int x :: .int j :: .ref a :: S) := by
  subst hp
  obtain ⟨cl, Ar, q1, Sz, M, H, G⟩ := A
  obtain ⟨T', h', X', e', W', st⟩ := stB X hx hZ eT Ar (inb_of Sz hj) (g := mkF m pc Ls (.int x :: .int j :: .ref a :: S)) rfl rfl hd
  exact own_go st (K T' h' _ X' e' (Keep.of_wr W') (Arv.set Ar q1 Sz M H G (fits_nar_byte x) W' i hi hlen) fun _ q N => Fr.snoc X' N q)
theorem own_cast (X : Stand p l e R s m args below meth c T locs cells slots) (hx : p.tables.exec = Jvm.exec) (hZ : Z.Warmed39 s.vm) {own C : String} {index : Nat} (hown : s.vm.findClass own = some m.cls) (w : (Cond.classLink own index C).before a0 Z = true) (eT : T.heap = h) {a : Addr} (E : Exa Z h a C) (hd : decode c.code pc = .ok (.checkcast index, 3)) (hp : pc + 3 = pc')
    (K : ∀ T', Stand p l e R s m args below meth c T' locs cells slots → T'.heap = h → own_W p e below P T' m pc' Ls (.ref a :: S)) : own_W p e below P T m pc Ls (.ref a :: S) := by
  subst hp
  obtain ⟨T', X', e', st⟩ := castY X hx hZ hown w eT (Ins.self E) (g := mkF m pc Ls (.ref a :: S)) rfl rfl hd
  exact own_go st (K T' X' e')
theorem own_inst (X : Stand p l e R s m args below meth c T locs cells slots) (hx : p.tables.exec = Jvm.exec) (hZ : Z.Warmed39 s.vm) {own C : String} {index : Nat} (hown : s.vm.findClass own = some m.cls) (w : (Cond.classLink own index C).before a0 Z = true) (eT : T.heap = h) {a : Addr} (E : Exa Z h a C) (hd : decode c.code pc = .ok (.instanceof index, 3)) (hp : pc + 3 = pc')
    (K : ∀ T', Stand p l e R s m args below meth c T' locs cells slots → T'.heap = h → own_W p e below P T' m pc' Ls (.int 1 :: S)) : own_W p e below P T m pc Ls (.ref a :: S) := by
  subst hp
  obtain ⟨T', X', e', st⟩ := instY X hx hZ hown w eT (Ins.self E) (g := mkF m pc Ls (.ref a :: S)) rfl rfl hd
  exact own_go st (K T' X' e')
theorem own_acmpne (X : Stand p l e R s m args below meth c T locs cells slots) (hx : p.tables.exec = Jvm.exec) {x y : Addr} {o : Int} {pcY pcN : Nat} (hd : decode c.code pc = .ok (.if_acmp .ne o, 3)) (ho : 0 ≤ (pc : Int) + o) (hY : ((pc : Int) + o).toNat = pcY) (hN : pc + 3 = pcN) (KY : ¬ x = y → own_W p e below P T m pcY Ls S) (KN : x = y → own_W p e below P T m pcN Ls S) : own_W p e below P T m pc Ls (.ref y :: .ref x :: S) :=
  (Classical.em (x = y)).elim (fun q => own_acmpN X hx hd hN rfl rfl (XT.aa_ne_f (congrArg Value.ref q)) (KN q)) (fun q => own_acmpY X hx hd ho hY rfl rfl (XT.aa_ne_t fun z => q (Value.ref.inj z)) (KY q))
theorem own_sta_keep {h' : Heap} {ws : List Addr} {C n d : String} {v : Value} (F : Sta Z h C n d v) (K : Keep h h' ws) (hn : ∀ x ∈ ws, ∀ cell : Cell, h[x]? = some cell → cell.vm.isStatics = false) : Sta Z h' C n d v := by
  obtain ⟨cf, i, k, f, st, cell, h1, h2, h3, h4, h5, h6, h7⟩ := F
  exact ⟨cf, i, k, f, st, cell, h1, h2, h3, h4, K.2.1 _ _ h5 (fun q => by rw [hn _ q _ h5] at h6; cases h6), h6, h7⟩
theorem own_ns_exa {a : Addr} {C : String} (E : Exa Z h a C) : ∀ cell : Cell, h[a]? = some cell → cell.vm.isStatics = false := fun cell hc => by
  obtain ⟨c', k, h1, h2, h3, h4, h5⟩ := E
  cases h1.symm.trans hc; exact h4
theorem own_ns_arv {a : Addr} {k : ClassId} {ty : FieldType} {z : Int32} {vs : List Value} {dv : Value} (A : Arv Z h a k ty z vs dv) : ∀ cell : Cell, h[a]? = some cell → cell.vm.isStatics = false := fun cell hc => by
  obtain ⟨c', Ar, -⟩ := A
  cases Ar.1.symm.trans hc; exact Ar.plain
theorem own_callS (X : Stand p l e R s m args below meth c T locs cells slots) (hx : p.tables.exec = Jvm.exec) (hZ : Z.Warmed39 s.vm) {own : String} {index : Nat} {y : MethodName} {bytes : ByteArray} {maxL : Nat} {ret : Option FieldType} {rm : Room} {Qc : Option Value → Heap → List Loc → Prop} {as' : Array Value} {S' : List Value} (argsL : List Value)
    (hown : s.vm.findClass own = some m.cls) (w1 : (Cond.methodLink own index y).before a0 Z = true) (w2 : (Cond.static y).before a0 Z = true) (w3 : (Cond.initialized y.cls).before a0 Z = true) (w4 : (Cond.code y bytes maxL ret).before a0 Z = true) (hy : y.cls ≠ "java/lang/invoke/MethodHandle" ∧ y.cls ≠ "java/lang/invoke/VarHandle")
    (hM : MetFree l y (head1 [Cond.code y bytes maxL ret] rm) (fun a U => a = as' ∧ Z.Warmed39 U.vm ∧ U.heap = h) (fun _ _ _ _ _ => True) (fun _ U o U' => ∃ v L, o = .returned v ∧ Qc v U'.heap L ∧ FrameEnd U o U' L rm.cells rm.slots))
    (eT : T.heap = h) {W cells' slots' : Nat} (hf : rm.frames + 1 ≤ R.frames) (hl : W + (maxL + 11) + rm.locals ≤ R.locals) (hc' : cells + rm.cells = cells') (hs' : slots + rm.slots = slots') (hc : cells' ≤ R.cells) (hs : slots' ≤ R.slots) (hsize : Ls.size = c.maxLocals) (hlen : ∀ sig, parseMethodDescriptor y.desc = some sig → argsL.length = sig.parameters.length) (has : argsL.toArray = as') (hstk : S' = argsL.reverse ++ S) (hW : 2 * 0 + (S.map fun v => v.category).sum ≤ W) (hd : decode c.code pc = .ok (.invokestatic index, 3)) (hp : pc + 3 = pc')
    (K : ∀ v T' h' L lc, Stand p l e R s m args below meth c T' lc cells' slots' → T'.heap = h' → Qc v h' L → (∀ n0, Fr n0 locs → Fr n0 L → Fr n0 lc) → own_W p e below P T' m pc' Ls (v.toList ++ S)) : own_W p e below P T m pc Ls S' := by
  subst hp hc' hs'
  obtain ⟨v, vm₁, ⟨T1, L1, k1, n1⟩, -, X1, ⟨Lc1, hQ1, l1, y1, z1⟩, st1⟩ := Jvm.LawKit.callS X hx hown (mvT hZ w1) (mvT hZ w2) (mvT hZ w3) (mvT hZ w4) hy (backOf hM hZ w4 w3 hf hl) (g := mkF m pc Ls S') rfl hsize (argsL := argsL) (rest := S) hlen hstk hW hd (fun _ _ => ⟨has, eT, hc, hs⟩)
  dsimp only [Pt.U, Pt.locs, Pt.cells, Pt.slots] at X1 l1 y1 z1 st1 hQ1
  subst l1 y1 z1
  exact own_go st1 (K v T1 _ Lc1 _ X1 rfl hQ1 fun _ a b => Fr.app a b)
theorem own_callN (X : Stand p l e R s m args below meth c T locs cells slots) (hx : p.tables.exec = Jvm.exec) (hZ : Z.Warmed39 s.vm) {own : String} {index : Nat} {y : MethodName} {bytes : ByteArray} {maxL : Nat} {rm : Room} {Qc : Option Value → Heap → List Loc → Prop} {as' : Array Value} {S' : List Value} (a : Addr) (argsL : List Value) (hy1 : y.name = "<init>")
    (hown : s.vm.findClass own = some m.cls) (w1 : (Cond.methodLink own index y).before a0 Z = true) (w2 : (Cond.instanceMethod y).before a0 Z = true) (w3 : (Cond.initialized y.cls).before a0 Z = true) (w4 : (Cond.code y bytes maxL none).before a0 Z = true) (hy : y.cls ≠ "java/lang/invoke/MethodHandle" ∧ y.cls ≠ "java/lang/invoke/VarHandle")
    (hM : MetFree l y (head1 [Cond.code y bytes maxL none] rm) (fun a U => a = as' ∧ Z.Warmed39 U.vm ∧ U.heap = h) (fun _ _ _ _ _ => True) (fun _ U o U' => ∃ v L, o = .returned v ∧ Qc v U'.heap L ∧ FrameEnd U o U' L rm.cells rm.slots))
    (eT : T.heap = h) {W cells' slots' : Nat} (hf : rm.frames + 1 ≤ R.frames) (hl : W + (maxL + 11) + rm.locals ≤ R.locals) (hc' : cells + rm.cells = cells') (hs' : slots + rm.slots = slots') (hc : cells' ≤ R.cells) (hs : slots' ≤ R.slots) (hsize : Ls.size = c.maxLocals) (hlen : ∀ sig, parseMethodDescriptor y.desc = some sig → argsL.length = sig.parameters.length) (has : (.ref a :: argsL).toArray = as') (hstk : S' = argsL.reverse ++ .ref a :: S) (hW : 2 * 0 + (S.map fun v => v.category).sum ≤ W) (hd : decode c.code pc = .ok (.invokespecial index, 3)) (hp : pc + 3 = pc')
    (K : ∀ v T' h' L lc, Stand p l e R s m args below meth c T' lc cells' slots' → T'.heap = h' → Qc v h' L → (∀ n0, Fr n0 locs → Fr n0 L → Fr n0 lc) → own_W p e below P T' m pc' Ls (v.toList ++ S)) : own_W p e below P T m pc Ls S' := by
  subst hp hc' hs'
  obtain ⟨v, vm₁, ⟨T1, L1, k1, n1⟩, -, X1, ⟨Lc1, hQ1, l1, y1, z1⟩, st1⟩ := X.specialBack hx hy1 hown (mvT hZ w1) (mvT hZ w2) (mvT hZ w4) hy (backOf hM hZ w4 w3 hf hl) (g := mkF m pc Ls S') rfl hsize (Steps.refl _) (a := a) (argsL := argsL) (rest := S) hlen hstk hW hd (fun _ _ => ⟨has, eT, hc, hs⟩)
  dsimp only [Pt.U, Pt.locs, Pt.cells, Pt.slots] at X1 l1 y1 z1 st1 hQ1
  subst l1 y1 z1
  exact own_go (fun t k => st1.trans k) (K v T1 _ Lc1 _ X1 rfl hQ1 fun _ a b => Fr.app a b)
theorem own_callV (X : Stand p l e R s m args below meth c T locs cells slots) (hx : p.tables.exec = Jvm.exec) (hZ : Z.Warmed39 s.vm) {own C : String} {index : Nat} {y : MethodName} {bytes : ByteArray} {maxL : Nat} {ret : Option FieldType} {rm : Room} {Qc : Option Value → Heap → List Loc → Prop} {as' : Array Value} {S' : List Value} (a : Addr) (argsL : List Value)
    (hown : s.vm.findClass own = some m.cls) (w1 : (Cond.methodLink own index y).before a0 Z = true) (w2 : (Cond.declares y).before a0 Z = true) (w5 : (Cond.selects C y y).before a0 Z = true) (w6 : (Cond.instanceMethod y).before a0 Z = true) (w3 : (Cond.initialized y.cls).before a0 Z = true) (w4 : (Cond.code y bytes maxL ret).before a0 Z = true) (hy : y.cls ≠ "java/lang/invoke/MethodHandle" ∧ y.cls ≠ "java/lang/invoke/VarHandle")
    (hM : MetFree l y (head1 [Cond.code y bytes maxL ret] rm) (fun a U => a = as' ∧ Z.Warmed39 U.vm ∧ U.heap = h) (fun _ _ _ _ _ => True) (fun _ U o U' => ∃ v L, o = .returned v ∧ Qc v U'.heap L ∧ FrameEnd U o U' L rm.cells rm.slots))
    (E : Exa Z h a C) (eT : T.heap = h) {W cells' slots' : Nat} (hf : rm.frames + 1 ≤ R.frames) (hl : W + (maxL + 11) + rm.locals ≤ R.locals) (hc' : cells + rm.cells = cells') (hs' : slots + rm.slots = slots') (hc : cells' ≤ R.cells) (hs : slots' ≤ R.slots) (hsize : Ls.size = c.maxLocals) (hlen : ∀ sig, parseMethodDescriptor y.desc = some sig → argsL.length = sig.parameters.length) (has : (.ref a :: argsL).toArray = as') (hstk : S' = argsL.reverse ++ .ref a :: S) (hW : 2 * 0 + (S.map fun v => v.category).sum ≤ W) (hd : decode c.code pc = .ok (.invokevirtual index, 3)) (hp : pc + 3 = pc')
    (K : ∀ v T' h' L lc, Stand p l e R s m args below meth c T' lc cells' slots' → T'.heap = h' → Qc v h' L → (∀ n0, Fr n0 locs → Fr n0 L → Fr n0 lc) → own_W p e below P T' m pc' Ls (v.toList ++ S)) : own_W p e below P T m pc Ls S' := by
  subst hp hc' hs'
  obtain ⟨cq, kq, qa, qb, qc⟩ := isOf hZ eT E
  obtain ⟨v, vm₁, ⟨T1, L1, k1, n1⟩, -, X1, ⟨Lc1, hQ1, l1, y1, z1⟩, st1⟩ := X.virtualBack hx hown (mvT hZ w1) (mvT hZ w2) (notFace_of_selects (args := #[]) (mvT hZ w5)) (mvT hZ w5) (mvT hZ w6) hy (backOf hM hZ w4 w3 hf hl) qa qc (g := mkF m pc Ls S') rfl hsize (Steps.refl _) (argsL := argsL) (rest := S) hlen hstk hW hd (fun _ _ => ⟨has, eT, hc, hs⟩)
  dsimp only [Pt.U, Pt.locs, Pt.cells, Pt.slots] at X1 l1 y1 z1 st1 hQ1
  subst l1 y1 z1
  exact own_go (fun t k => st1.trans k) (K v T1 _ Lc1 _ X1 rfl hQ1 fun _ a b => Fr.app a b)
theorem own_initO (X : Stand p l e R s m args below meth c T locs cells slots) (hx : p.tables.exec = Jvm.exec) (hZ : Z.Warmed39 s.vm) {own : String} {idx : Nat} (hown : s.vm.findClass own = some m.cls) (w1 : (Cond.methodLink own idx Lib.objectInit).before a0 Z = true) (w2 : (Cond.instanceMethod Lib.objectInit).before a0 Z = true) (w3 : (Cond.code Lib.objectInit ⟨#[0xb1]⟩ 1 none).before a0 Z = true) (eT : T.heap = h)
    (hsize : Ls.size = c.maxLocals) {a : Addr} (hd : decode c.code pc = .ok (.invokespecial idx, 3)) (hp : pc + 3 = pc') (hf : 1 ≤ R.frames) {W : Nat} (hW : 2 * 0 + (S.map fun v => v.category).sum ≤ W) (hl : W + 12 ≤ R.locals)
    (K : ∀ T', Stand p l e R s m args below meth c T' locs cells slots → T'.heap = h → own_W p e below P T' m pc' Ls S) : own_W p e below P T m pc Ls (.ref a :: S) := by
  subst hp
  obtain ⟨T', X', e', st⟩ := initO X hx hZ hown w1 w2 w3 eT (g := mkF m pc Ls (.ref a :: S)) rfl hsize rfl hd hf (W := W) hW hl
  exact own_go st (K T' X' e')
/-! returns -/
theorem own_retI (X : Stand p l e R s m args below meth c T locs cells slots) (hx : p.tables.exec = Jvm.exec) (hlk : meth.locks = false) {t : FieldType} {w w' : Value} (hret : meth.sig.returnType = some t) (hd : decode c.code pc = .ok (.ireturn, 1)) {z : Int32} (hw : w = .int z) (hn : narrow t w = w') (ht : t = .int ∨ t = .boolean ∨ t = .byte ∨ t = .char ∨ t = .short) (hc : cells ≤ kc) (hs : slots ≤ ks) (hq : Q (some w') T.heap locs) : own_W p e below (own_Post s Q kc ks) T m pc Ls (w :: S) := by
  subst hw
  obtain ⟨fs, hr, hrun, hended, hW, hsame⟩ := X.leave (v := some w') (fun h => by rw [hret] at h; cases h) hlk
  refine ⟨_, _, ?_, hrun, hended, _, _, rfl, hq, ⟨_, rfl⟩, hW, hsame.mono hc hs⟩
  have hm' : T.vm.method? m = some meth := X.method'
  show Steps p.tables e below (T.setTop { method := m, pc := pc, locals := Ls, stack := _ :: S, locked := none }) _
  rcases ht with rfl | rfl | rfl | rfl | rfl
  all_goals
    jvm_step X.here [X.here.top, hx, hd, hm', hret, hn]
    first | (intro acts; rw [hr _ acts rfl rfl rfl]) | rw [hr _ _ rfl rfl rfl]
    exact Steps.refl _
theorem own_retJ (X : Stand p l e R s m args below meth c T locs cells slots) (hx : p.tables.exec = Jvm.exec) (hlk : meth.locks = false) {z : Int64} (hret : meth.sig.returnType = some .long) (hd : decode c.code pc = .ok (.lreturn, 1)) (hc : cells ≤ kc) (hs : slots ≤ ks) (hq : Q (some (.long z)) T.heap locs) : own_W p e below (own_Post s Q kc ks) T m pc Ls (.long z :: S) := by
  obtain ⟨fs, hr, hrun, hended, hW, hsame⟩ := X.leave (v := some (.long z)) (fun h => by rw [hret] at h; cases h) hlk
  exact ⟨_, _, retOut X hx hret rfl (Or.inr (Or.inl ⟨rfl, rfl, z, rfl⟩)) hd hr, hrun, hended, _, _, rfl, hq, ⟨_, rfl⟩, hW, hsame.mono hc hs⟩
theorem own_retA (X : Stand p l e R s m args below meth c T locs cells slots) (hx : p.tables.exec = Jvm.exec) (hlk : meth.locks = false) {t : FieldType} {w : Value} (hret : meth.sig.returnType = some t) (hd : decode c.code pc = .ok (.areturn, 1)) (ht : t.isReference = true) (hw : w.isRef = true) (hn : narrow t w = w) (hc : cells ≤ kc) (hs : slots ≤ ks) (hq : Q (some w) T.heap locs) : own_W p e below (own_Post s Q kc ks) T m pc Ls (w :: S) := by
  obtain ⟨fs, hr, hrun, hended, hW, hsame⟩ := X.leave (v := some w) (fun h => by rw [hret] at h; cases h) hlk
  exact ⟨_, _, retOut X hx hret hn (Or.inr (Or.inr (Or.inr (Or.inr ⟨rfl, ht, hw⟩)))) hd hr, hrun, hended, _, _, rfl, hq, ⟨_, rfl⟩, hW, hsame.mono hc hs⟩
theorem own_ret0 (X : Stand p l e R s m args below meth c T locs cells slots) (hx : p.tables.exec = Jvm.exec) (hlk : meth.locks = false) (hret : meth.sig.returnType = none) (hd : decode c.code pc = .ok (.return_, 1)) (hc : cells ≤ kc) (hs : slots ≤ ks) (hq : Q none T.heap locs) : own_W p e below (own_Post s Q kc ks) T m pc Ls [] := by
  obtain ⟨fs, hr, hrun, hended, hW, hsame⟩ := X.leave (v := none) (fun _ => rfl) hlk
  exact ⟨_, _, X.returnOut hx hret hd hr, hrun, hended, _, _, rfl, hq, ⟨_, rfl⟩, hW, hsame.mono hc hs⟩
end OwnKit
section OwnKit2
variable {p : Program} {l : Launch} {e : Env} {R : Room} {s : State} {m : MethodId} {args : Array Value} {below : List Frame} {meth : Method} {c : Code} {T : State} {locs : List Loc} {cells slots : Nat} {Z : State} {a0 : Array Value} {h : Heap}
  {P : Outcome → State → Prop} {Q : Option Value → Heap → List Loc → Prop} {kc ks : Nat} {pc pc' : Nat} {Ls Ls' : Array Slot} {S : List Value}
theorem own_newarrE (X : Stand p l e R s m args below meth c T locs cells slots) (hx : p.tables.exec = Jvm.exec) (hZ : Z.Warmed39 s.vm) {aty : ArrayType} (w : (Cond.arrayClass (newarray.typeOf aty)).before a0 Z = true) (eT : T.heap = h) (hd : decode c.code pc = .ok (.newarray aty, 2)) (hp : pc + 2 = pc') {n : Int32}
    (hn : ¬ n < 0) (cap : Nat) (hcap : n.toNatClampNeg ≤ cap) (hb : cap * 8 ≤ 536870912) {cells' slots' : Nat} (hc' : cells + 1 = cells') (hs' : slots + cap = slots') (hc : cells' ≤ R.cells) (hl : slots' ≤ R.slots) {ad : String} (had : "[" ++ (newarray.typeOf aty).toString = ad)
    (K : ∀ T' h' cA a, Stand p l e R s m args below meth c T' locs cells' slots' → T'.heap = h' → Ext h h' → a = h.size → Exa Z h' a ad → Arv Z h' a cA (newarray.typeOf aty) n [] (defaultValue (newarray.typeOf aty)) → own_W p e below P T' m pc' Ls (.ref a :: S)) : own_W p e below P T m pc Ls (.int n :: S) := by
  subst hp hc' hs'
  obtain ⟨T', h', cA, X', e', E', A', Ea, st⟩ := newPE X hx hZ w eT (g := mkF m pc Ls (.int n :: S)) rfl hd rfl hn hcap hb hc hl had
  exact own_go st (K T' h' cA _ X' e' E' rfl Ea (Arv.new A' hn))
theorem own_clone (X : Stand p l e R s m args below meth c T locs cells slots) (hx : p.tables.exec = Jvm.exec) (hZ : Z.Warmed39 s.vm) {own ad : String} {index : Nat} (hown : s.vm.findClass own = some m.cls)
    (w1 : (Cond.methodLink own index ⟨ad, "clone", "()Ljava/lang/Object;"⟩).before a0 Z = true) (w2 : (Cond.sameMethod ad "java/lang/Object" "clone" "()Ljava/lang/Object;").before a0 Z = true) (w3 : (Cond.native ⟨"java/lang/Object", "clone", "()Ljava/lang/Object;"⟩).before a0 Z = true)
    (w4 : (Cond.instanceMethod ⟨"java/lang/Object", "clone", "()Ljava/lang/Object;"⟩).before a0 Z = true) (w5 : (Cond.selects ad ⟨ad, "clone", "()Ljava/lang/Object;"⟩ ⟨"java/lang/Object", "clone", "()Ljava/lang/Object;"⟩).before a0 Z = true) (w6 : (Cond.castable ad "java/lang/Cloneable").before a0 Z = true)
    (eT : T.heap = h) {a : Addr} {k : ClassId} {ty : FieldType} {z : Int32} {vs : List Value} {dv : Value} (F : Arv Z h a k ty z vs dv) (E : Exa Z h a ad) (hsize : Ls.size = c.maxLocals) (hd : decode c.code pc = .ok (.invokevirtual index, 3)) (hp : pc + 3 = pc')
    (hf : 1 ≤ R.frames) {W : Nat} (cap : Nat) (hW : 2 * 0 + (S.map fun v => v.category).sum ≤ W) (hlo : W + 14 ≤ R.locals) (hcap : z.toNatClampNeg ≤ cap) {cells' slots' : Nat} (hc' : cells + 1 = cells') (hs' : slots + cap = slots') (hc : cells' ≤ R.cells) (hl : slots' ≤ R.slots)
    (K : ∀ T' h' b, Stand p l e R s m args below meth c T' locs cells' slots' → T'.heap = h' → Ext h h' → b = h.size → Arv Z h' b k ty z vs dv → Exa Z h' b ad → own_W p e below P T' m pc' Ls (.ref b :: S)) : own_W p e below P T m pc Ls (.ref a :: S) := by
  subst hp hc' hs'
  obtain ⟨T', h', X', e', E', A', Ea, st⟩ := cloneH X hx hZ hown w1 w2 w3 w4 w5 w6 eT F.arh E (g := mkF m pc Ls (.ref a :: S)) rfl hsize rfl hd hf (W := W) hW hlo hcap hc hl
  exact own_go st (K T' h' _ X' e' E' rfl A' Ea)
theorem own_grid (X : Stand p l e R s m args below meth c T locs cells slots) (hx : p.tables.exec = Jvm.exec) (hZ : Z.Warmed39 s.vm) {own C ad : String} {ty : FieldType} {index : Nat} (hown : s.vm.findClass own = some m.cls) (hC : (FieldType.array ty).toString = C) (had : "[" ++ C = ad)
    (w1 : (Cond.classLink own index ad).before a0 Z = true) (w2 : (Cond.arrayOver (.array ty)).before a0 Z = true) (w3 : (Cond.arrayClass ty).before a0 Z = true) (eT : T.heap = h) (hd : decode c.code pc = .ok (.multianewarray index 2, 4)) (hp : pc + 4 = pc') {n k : Int32}
    (hn : ¬ n < 0) (hk : ¬ k < 0) (N cap : Nat) (hN : n.toNatClampNeg = N) (hcap : k.toNatClampNeg ≤ cap) (hb : cap * 8 ≤ 536870912) (hb1 : N ≤ 1000) (hdf : fits ty (defaultValue ty) = true) (hdd : (defaultValue ty).isDefault = true) {cells' slots' : Nat} (hc' : cells + (1 + N) = cells') (hs' : slots + (N + N * cap) = slots') (hc : cells' ≤ R.cells) (hl : slots' ≤ R.slots)
    (K : ∀ T' h' cA comp a xs, Stand p l e R s m args below meth c T' locs cells' slots' → T'.heap = h' → Ext h h' → a = h.size → xs = (List.range N).map (fun j => h.size + 1 + j) → Arv Z h' a cA (.array ty) n (xs.map .ref) .null → Exa Z h' a ad → (∀ (j : Nat) (x : Addr), xs[j]? = some x → Arv Z h' x comp ty k [] (defaultValue ty) ∧ Exa Z h' x C) → own_W p e below P T' m pc' Ls (.ref a :: S)) : own_W p e below P T m pc Ls (.int k :: .int n :: S) := by
  subst hp hc' hs'
  obtain ⟨T', h', cA, comp, X', e', E', A', -, Ea, Hx, st⟩ := gridM X hx hZ hown hC had w1 w2 w3 eT (g := mkF m pc Ls (.int k :: .int n :: S)) rfl hd rfl hn hk hN rfl hcap hb hb1 hdf hdd hc hl
  exact own_go st (K T' h' cA comp _ _ X' e' E' rfl rfl A' Ea fun j x q => ⟨Arv.new (Hx j x q).1 hk, (Hx j x q).2⟩)
theorem own_gridW (X : Stand p l e R s m args below meth c T locs cells slots) (hx : p.tables.exec = Jvm.exec) (hZ : Z.Warmed39 s.vm) {own C ad : String} {ty : FieldType} {index : Nat} (hown : s.vm.findClass own = some m.cls) (hC : (FieldType.array ty).toString = C) (had : "[" ++ C = ad)
    (w1 : (Cond.classLink own index ad).before a0 Z = true) (w2 : (Cond.arrayOver (.array ty)).before a0 Z = true) (w3 : (Cond.arrayClass ty).before a0 Z = true) (eT : T.heap = h) (hd : decode c.code pc = .ok (.multianewarray index 2, 4)) (hp : pc + 4 = pc') {n k : Int32}
    (hn : ¬ n < 0) (hk : ¬ k < 0) (N cap : Nat) (hN : n.toNatClampNeg ≤ N) (hcap : k.toNatClampNeg ≤ cap) (hb : cap * 8 ≤ 536870912) (hb1 : N ≤ 1000) (hdf : fits ty (defaultValue ty) = true) (hdd : (defaultValue ty).isDefault = true) {cells' slots' : Nat} (hc' : cells + (1 + N) = cells') (hs' : slots + (N + N * cap) = slots') (hc : cells' ≤ R.cells) (hl : slots' ≤ R.slots)
    (K : ∀ T' h' a, Stand p l e R s m args below meth c T' locs cells' slots' → T'.heap = h' → Ext h h' → a = h.size → own_W p e below P T' m pc' Ls (.ref a :: S)) : own_W p e below P T m pc Ls (.int k :: .int n :: S) := by
  subst hp hc' hs'
  have hm : n.toNatClampNeg * cap ≤ N * cap := Nat.mul_le_mul hN (Nat.le_refl _)
  obtain ⟨T', h', cA, comp, X', e', E', A', -, Ea, Hx, st⟩ := gridM X hx hZ hown hC had w1 w2 w3 eT (g := mkF m pc Ls (.int k :: .int n :: S)) rfl hd rfl hn hk rfl rfl hcap hb (by omega) hdf hdd (by omega) (by omega)
  exact own_go st (K T' h' _ (X'.more (by omega) (by omega)) e' E' rfl)
end OwnKit2
def own_g (x0 x1 x2 : Int64) (j : Int32) : Int64 := if j = 0 then x0 else if j = 1 then x1 else x2
def own_gI (x0 x1 x2 : Int32) (j : Int32) : Int32 := if j = 0 then x0 else if j = 1 then x1 else x2
def own_u (j k : Int32) (v x : Int64) : Int64 := if j = k then v else x
def own_uI (j k : Int32) (v x : Int32) : Int32 := if j = k then v else x
def own_3 (j : Int32) : Prop := j = 0 ∨ j = 1 ∨ j = 2
theorem own_3in {j : Int32} (h : own_3 j) : ¬ j < 0 ∧ j < 3 := by rcases h with rfl | rfl | rfl <;> decide
theorem own_3lt {j : Int32} (h : own_3 j) {a b c : Value} : j.toNatClampNeg < [a, b, c].length := by rcases h with rfl | rfl | rfl <;> (show _ < 3; decide)
theorem own_at {j : Int32} (h : own_3 j) (x0 x1 x2 : Int64) (dv : Value) : [Value.long x0, .long x1, .long x2].getD j.toNatClampNeg dv = .long (own_g x0 x1 x2 j) := by rcases h with rfl | rfl | rfl <;> rfl
theorem own_atI {j : Int32} (h : own_3 j) (x0 x1 x2 : Int32) (dv : Value) : [Value.int x0, .int x1, .int x2].getD j.toNatClampNeg dv = .int (own_gI x0 x1 x2 j) := by rcases h with rfl | rfl | rfl <;> rfl
theorem own_set {j : Int32} (h : own_3 j) (x0 x1 x2 v : Int64) : [Value.long x0, .long x1, .long x2].set j.toNatClampNeg (.long v) = [.long (own_u j 0 v x0), .long (own_u j 1 v x1), .long (own_u j 2 v x2)] := by rcases h with rfl | rfl | rfl <;> rfl
theorem own_setI {j : Int32} (h : own_3 j) (x0 x1 x2 v : Int32) : [Value.int x0, .int x1, .int x2].set j.toNatClampNeg (.int v) = [.int (own_uI j 0 v x0), .int (own_uI j 1 v x1), .int (own_uI j 2 v x2)] := by rcases h with rfl | rfl | rfl <;> rfl
theorem own_nb {p0 p1 p2 : Int32} (h0 : nar .boolean p0 = p0) (h1 : nar .boolean p1 = p1) (h2 : nar .boolean p2 = p2) (j : Int32) : nar .boolean (own_gI p0 p1 p2 j) = own_gI p0 p1 p2 j := by unfold own_gI; split; exact h0; split; exact h1; exact h2
theorem own_m3 (x : Int32) : own_3 ((x &&& 255) % 3) := by
  have q := c_mask x 255 8 (by decide) (by decide)
  have r := (c_irem (x &&& 255) 3 3 (by decide)).1 (by rw [q]; omega)
  have e0 : (0 : Int32).toInt = 0 := by decide
  have e1 : (1 : Int32).toInt = 1 := by decide
  have e2 : (2 : Int32).toInt = 2 := by decide
  unfold own_3
  simp only [← Int32.toInt_inj, e0, e1, e2]
  omega
theorem own_d_prog_105_method_1_code_0 : decode prog_105_method_1_code 0 = .ok (.aload_n 0, 1) := by decide +kernel
theorem own_d_prog_105_method_1_code_1 : decode prog_105_method_1_code 1 = .ok (.invokespecial 1, 3) := by decide +kernel
theorem own_d_prog_105_method_1_code_4 : decode prog_105_method_1_code 4 = .ok (.iload_n 2, 1) := by decide +kernel
theorem own_d_prog_105_method_1_code_5 : decode prog_105_method_1_code 5 = .ok (.iconst 1, 1) := by decide +kernel
theorem own_d_prog_105_method_1_code_6 : decode prog_105_method_1_code 6 = .ok (.if_icmp .ge 17, 3) := by decide +kernel
theorem own_d_prog_105_method_1_code_23 : decode prog_105_method_1_code 23 = .ok (.aload_n 0, 1) := by decide +kernel
theorem own_d_prog_105_method_1_code_24 : decode prog_105_method_1_code 24 = .ok (.aload_n 1, 1) := by decide +kernel
theorem own_d_prog_105_method_1_code_25 : decode prog_105_method_1_code 25 = .ok (.invokevirtual 16, 3) := by decide +kernel
theorem own_d_prog_105_method_1_code_28 : decode prog_105_method_1_code 28 = .ok (.checkcast 17, 3) := by decide +kernel
theorem own_d_prog_105_method_1_code_31 : decode prog_105_method_1_code 31 = .ok (.putfield 22, 3) := by decide +kernel
theorem own_d_prog_105_method_1_code_34 : decode prog_105_method_1_code 34 = .ok (.aload_n 0, 1) := by decide +kernel
theorem own_d_prog_105_method_1_code_35 : decode prog_105_method_1_code 35 = .ok (.iload_n 2, 1) := by decide +kernel
theorem own_d_prog_105_method_1_code_36 : decode prog_105_method_1_code 36 = .ok (.newarray .long, 2) := by decide +kernel
theorem own_d_prog_105_method_1_code_38 : decode prog_105_method_1_code 38 = .ok (.putfield 27, 3) := by decide +kernel
theorem own_d_prog_105_method_1_code_41 : decode prog_105_method_1_code 41 = .ok (.aload_n 0, 1) := by decide +kernel
theorem own_d_prog_105_method_1_code_42 : decode prog_105_method_1_code 42 = .ok (.aload_n 1, 1) := by decide +kernel
theorem own_d_prog_105_method_1_code_43 : decode prog_105_method_1_code 43 = .ok (.arraylength, 1) := by decide +kernel
theorem own_d_prog_105_method_1_code_44 : decode prog_105_method_1_code 44 = .ok (.iload_n 2, 1) := by decide +kernel
theorem own_d_prog_105_method_1_code_45 : decode prog_105_method_1_code 45 = .ok (.multianewarray 31 2, 4) := by decide +kernel
theorem own_d_prog_105_method_1_code_49 : decode prog_105_method_1_code 49 = .ok (.putfield 33, 3) := by decide +kernel
theorem own_d_prog_105_method_1_code_52 : decode prog_105_method_1_code 52 = .ok (.aload_n 0, 1) := by decide +kernel
theorem own_d_prog_105_method_1_code_53 : decode prog_105_method_1_code 53 = .ok (.aload_n 1, 1) := by decide +kernel
theorem own_d_prog_105_method_1_code_54 : decode prog_105_method_1_code 54 = .ok (.arraylength, 1) := by decide +kernel
theorem own_d_prog_105_method_1_code_55 : decode prog_105_method_1_code 55 = .ok (.iload_n 2, 1) := by decide +kernel
theorem own_d_prog_105_method_1_code_56 : decode prog_105_method_1_code 56 = .ok (.multianewarray 36 2, 4) := by decide +kernel
theorem own_d_prog_105_method_1_code_60 : decode prog_105_method_1_code 60 = .ok (.putfield 38, 3) := by decide +kernel
theorem own_d_prog_105_method_1_code_63 : decode prog_105_method_1_code 63 = .ok (.return_, 1) := by decide +kernel
theorem own_pn_com_example_latchwork_latchwork_storage_ColumnBatch : plainName "com/example/latchwork/latchwork/storage/ColumnBatch" = true := by first | (simp [plainName, overriddenIn]; done) | decide +kernel
theorem ef_init (m : MethodId) (x0 : Addr) (x1 : Addr) (x2 : Int32) : entryFrame m #[(.ref x0), (.ref x1), (.int x2)] 3 = mkF m 0 #[.val (.ref x0), .val (.ref x1), .val (.int x2)] [] := by first | (simp [entryFrame, mkF, argsToLocals, Value.category]; done) | rfl
def Q_init (Z : State) (a1 a2 : Addr) (k2 : ClassId) (vs : List Value) (h0 : Heap) (n0 : Nat) (v : Option Value) (h : Heap) (L : List Loc) : Prop := v = none ∧ Fr n0 L ∧ Keep h0 h [a1] ∧ ∃ bc bs bv v0 v1 bn m0 m1 : Nat, h0.size ≤ bc ∧ bc < bs ∧ bs < bv ∧ bv < v0 ∧ v0 < v1 ∧ v1 < bn ∧ bn < m0 ∧ m0 < m1 ∧ Fld Z h a1 "com/example/latchwork/latchwork/storage/ColumnBatch" "columns" "[I" (.ref bc) ∧ Fld Z h a1 "com/example/latchwork/latchwork/storage/ColumnBatch" "stamps" "[J" (.ref bs) ∧ Fld Z h a1 "com/example/latchwork/latchwork/storage/ColumnBatch" "values" "[[J" (.ref bv) ∧ Fld Z h a1 "com/example/latchwork/latchwork/storage/ColumnBatch" "nulls" "[[Z" (.ref bn) ∧ (∃ k0 : ClassId, Arv Z h bc k0 .int (2 : Int32) vs (.int (0 : Int32))) ∧ (∃ k1 : ClassId, Arv Z h bs k1 .long (3 : Int32) [(.long (0 : Int64)), (.long (0 : Int64)), (.long (0 : Int64))] (.long (0 : Int64))) ∧ (∃ k2 : ClassId, Arv Z h bv k2 (.array .long) (2 : Int32) [(.ref v0), (.ref v1)] .null) ∧ (∃ k3 : ClassId, Arv Z h v0 k3 .long (3 : Int32) [(.long (0 : Int64)), (.long (0 : Int64)), (.long (0 : Int64))] (.long (0 : Int64))) ∧ (∃ k4 : ClassId, Arv Z h v1 k4 .long (3 : Int32) [(.long (0 : Int64)), (.long (0 : Int64)), (.long (0 : Int64))] (.long (0 : Int64))) ∧ (∃ k5 : ClassId, Arv Z h bn k5 (.array .boolean) (2 : Int32) [(.ref m0), (.ref m1)] .null) ∧ (∃ k6 : ClassId, Arv Z h m0 k6 .boolean (3 : Int32) [(.int (0 : Int32)), (.int (0 : Int32)), (.int (0 : Int32))] (.int (0 : Int32))) ∧ (∃ k7 : ClassId, Arv Z h m1 k7 .boolean (3 : Int32) [(.int (0 : Int32)), (.int (0 : Int32)), (.int (0 : Int32))] (.int (0 : Int32)))
set_option maxRecDepth 65536 in
set_option maxHeartbeats 40000000 in
theorem rm_init (l : Launch) (Z : State) (a0 : Array Value) (hw : ∀ d ∈ tables_1, d.before a0 Z = true) (ws : List Jvm.Cond) (a1 a2 : Addr) (k2 : ClassId) (vs : List Value) (h0 : Heap) (n0 : Nat) (Z0 : n0 ≤ h0.size) (u_columns u_stamps u_values u_nulls : Value) (E_a1 : Exa Z h0 a1 "com/example/latchwork/latchwork/storage/ColumnBatch") (F_columns : Fld Z h0 a1 "com/example/latchwork/latchwork/storage/ColumnBatch" "columns" "[I" u_columns) (F_stamps : Fld Z h0 a1 "com/example/latchwork/latchwork/storage/ColumnBatch" "stamps" "[J" u_stamps) (F_values : Fld Z h0 a1 "com/example/latchwork/latchwork/storage/ColumnBatch" "values" "[[J" u_values) (F_nulls : Fld Z h0 a1 "com/example/latchwork/latchwork/storage/ColumnBatch" "nulls" "[[Z" u_nulls) (E_a2 : Exa Z h0 a2 "[I") (A_a2 : Arv Z h0 a2 k2 .int (2 : Int32) vs (.int (0 : Int32))) (ne12 : a1 ≠ a2) (z_a1 : n0 ≤ a1) :
    MetFree l (⟨"com/example/latchwork/latchwork/storage/ColumnBatch", "<init>", "([II)V"⟩ : MethodName) (head1 (Jvm.Cond.code (⟨"com/example/latchwork/latchwork/storage/ColumnBatch", "<init>", "([II)V"⟩ : MethodName) prog_105_method_1_code 3 none :: ws) ({ frames := 1, cells := 8, slots := 21, locals := 15 } : Room)) (fun a U => a = #[(.ref a1), (.ref a2), (.int (3 : Int32))] ∧ Z.Warmed39 U.vm ∧ U.heap = h0) (fun _ _ _ _ _ => True) (fun _ U o U' => ∃ v L, o = .returned v ∧ Q_init Z a1 a2 k2 vs h0 n0 v U'.heap L ∧ FrameEnd U o U' L ({ frames := 1, cells := 8, slots := 21, locals := 15 } : Room).cells ({ frames := 1, cells := 8, slots := 21, locals := 15 } : Room).slots) := by
  refine MetFree.of_bodySF (plainFor_of_name own_pn_com_example_latchwork_latchwork_storage_ColumnBatch) hisR ?_
  intro p e s m args below meth c s₁ Bd hml0 hP hK
  obtain ⟨rfl, hZ, hh⟩ := hP
  have hx := Bd.exec
  have hby := Bd.bytes
  have hml : c.maxLocals = 3 := hml0
  have hown : s.vm.findClass "com/example/latchwork/latchwork/storage/ColumnBatch" = some m.cls := findClass_of_methodNamed Bd.named
  have hnm := (name_of_methodNamed Bd.named Bd.method).1
  have hlk := Bd.notSynchronized
  obtain ⟨lc, hlc⟩ : ∃ lc : List Loc, lc = [] := ⟨_, rfl⟩
  have X : Stand p l e ({ frames := 1, cells := 8, slots := 21, locals := 15 } : Room) s m #[(.ref a1), (.ref a2), (.int (3 : Int32))] below meth c s₁ lc 0 0 := hlc ▸ Stand.of_body Bd
  have eT : s₁.heap = h0 := by rw [← hh, Bd.state]; rfl
  have N : Fr n0 lc := hlc ▸ Fr.nil n0
  refine own_enter (ef_init m a1 a2 (3 : Int32)) ?_
  obtain ⟨T, hT⟩ : ∃ T : State, T = s₁ := ⟨_, rfl⟩
  rw [← hT] at X eT ⊢
  show own_W p e below (own_Post s (Q_init Z a1 a2 k2 vs h0 n0) 8 21) T m 0 #[.val (.ref a1), .val (.ref a2), .val (.int (3 : Int32))] []
  have Kp : Keep h0 h0 [a1] := Keep.refl _ _
  refine own_aloadN X hx (hb hby own_d_prog_105_method_1_code_0) (pc' := 1) rfl rfl rfl ?_
  refine own_initO X hx hZ hown (own_w hw 7 rfl) (own_w hw 8 rfl) (own_w hw 9 rfl) eT (by rw [hml]; rfl) (hb hby own_d_prog_105_method_1_code_1) (pc' := 4) rfl (by decide) (W := 0) (Nat.le_of_eq rfl) (by decide) ?_
  intro T X eT
  refine own_iloadN X hx (hb hby own_d_prog_105_method_1_code_4) (pc' := 5) rfl rfl ?_
  refine own_iconst X hx (1 : Int32) (hb hby own_d_prog_105_method_1_code_5) (pc' := 6) rfl rfl ?_
  refine own_icmpY X hx (hb hby own_d_prog_105_method_1_code_6) (by decide) (pc' := 23) rfl (show ¬ ((3 : Int32) < (1 : Int32)) from (by decide)) ?_
  refine own_aloadN X hx (hb hby own_d_prog_105_method_1_code_23) (pc' := 24) rfl rfl rfl ?_
  refine own_aloadN X hx (hb hby own_d_prog_105_method_1_code_24) (pc' := 25) rfl rfl rfl ?_
  refine own_clone X hx hZ hown (own_w hw 10 rfl) (own_w hw 11 rfl) (own_w hw 15 rfl) (own_w hw 13 rfl) (own_w hw 14 rfl) (own_w hw 16 rfl) eT A_a2 E_a2 (by rw [hml]; rfl) (hb hby own_d_prog_105_method_1_code_25) (pc' := 28) rfl (by decide) (W := 1) 2 (Nat.le_of_eq rfl) (by decide) (by decide) (cells' := 1) (slots' := 2) rfl rfl (by decide) (by decide) ?_
  intro T h1 b1 X eT E gb1 A_b1 E_b1
  have lt_a1_b1 : a1 < b1 := Nat.lt_of_lt_of_le E_a1.lt (Nat.le_of_eq gb1.symm)
  have ne_a1_b1 : a1 ≠ b1 := Nat.ne_of_lt lt_a1_b1
  have lt_a2_b1 : a2 < b1 := Nat.lt_of_lt_of_le E_a2.lt (Nat.le_of_eq gb1.symm)
  have ne_a2_b1 : a2 ≠ b1 := Nat.ne_of_lt lt_a2_b1
  have z_b1 : n0 ≤ b1 := Nat.le_trans Z0 (Nat.le_of_eq gb1.symm)
  have s_b1 : h0.size ≤ b1 := Nat.le_trans Kp.1 (Nat.le_of_eq gb1.symm)
  have E_a1 := E_a1.ext E
  have E_a2 := E_a2.ext E
  have A_a2 := A_a2.ext E
  have F_columns := F_columns.ext E
  have F_stamps := F_stamps.ext E
  have F_values := F_values.ext E
  have F_nulls := F_nulls.ext E
  have Z0 := Nat.le_trans Z0 E.1
  have Kp := Kp.ext E
  refine own_cast X hx hZ hown (own_w hw 17 rfl) eT E_b1 (hb hby own_d_prog_105_method_1_code_28) (pc' := 31) rfl ?_
  intro T X eT
  refine own_putF X hx hZ hown (own_w hw 19 rfl) Via.refl eT F_columns E_a1 (Or.inr ⟨(own_w hw 20 rfl), rfl, hnm⟩) (own_w hw 2 rfl) (ty := (.array .int)) (v' := (.ref b1)) (by decide) rfl rfl (hb hby own_d_prog_105_method_1_code_31) (pc' := 34) rfl ?_
  intro T h2 lc X eT Wq fN
  have F_columns := F_columns.same Wq
  have E_a1 := E_a1.wr Wq
  have E_a2 := E_a2.wr Wq
  have A_a2 := A_a2.other Wq (Ne.symm ne12)
  have F_stamps := F_stamps.other Wq (Or.inr (slot_ne (Or.inr (own_w hw 23 rfl)) (Or.inr (own_w hw 20 rfl)) (by decide) (t := (.array .long)) (t' := (.array .int)) (by decide) (by decide)))
  have F_values := F_values.other Wq (Or.inr (slot_ne (Or.inr (own_w hw 27 rfl)) (Or.inr (own_w hw 20 rfl)) (by decide) (t := (.array (.array .long))) (t' := (.array .int)) (by decide) (by decide)))
  have F_nulls := F_nulls.other Wq (Or.inr (slot_ne (Or.inr (own_w hw 32 rfl)) (Or.inr (own_w hw 20 rfl)) (by decide) (t := (.array (.array .boolean))) (t' := (.array .int)) (by decide) (by decide)))
  have E_b1 := E_b1.wr Wq
  have A_b1 := A_b1.other Wq (Ne.symm ne_a1_b1)
  have Z0 := Nat.le_trans Z0 (Keep.of_wr Wq).1
  have N := fN _ z_a1 N
  have Kp := Kp.wr Wq (Or.inl (List.mem_of_getElem? (i := 0) rfl))
  refine own_aloadN X hx (hb hby own_d_prog_105_method_1_code_34) (pc' := 35) rfl rfl rfl ?_
  refine own_iloadN X hx (hb hby own_d_prog_105_method_1_code_35) (pc' := 36) rfl rfl ?_
  refine own_newarr X hx hZ (own_w hw 21 rfl) eT (hb hby own_d_prog_105_method_1_code_36) (pc' := 38) rfl (by decide) 3 (by decide) (by decide) (cells' := 2) (slots' := 5) rfl rfl (by decide) (by decide) ?_
  intro T h3 k_b3 b3 X eT E gb3 A_b3
  have lt_a1_b3 : a1 < b3 := Nat.lt_of_lt_of_le E_a1.lt (Nat.le_of_eq gb3.symm)
  have ne_a1_b3 : a1 ≠ b3 := Nat.ne_of_lt lt_a1_b3
  have lt_a2_b3 : a2 < b3 := Nat.lt_of_lt_of_le E_a2.lt (Nat.le_of_eq gb3.symm)
  have ne_a2_b3 : a2 ≠ b3 := Nat.ne_of_lt lt_a2_b3
  have lt_b1_b3 : b1 < b3 := Nat.lt_of_lt_of_le E_b1.lt (Nat.le_of_eq gb3.symm)
  have ne_b1_b3 : b1 ≠ b3 := Nat.ne_of_lt lt_b1_b3
  have z_b3 : n0 ≤ b3 := Nat.le_trans Z0 (Nat.le_of_eq gb3.symm)
  have s_b3 : h0.size ≤ b3 := Nat.le_trans Kp.1 (Nat.le_of_eq gb3.symm)
  have E_a1 := E_a1.ext E
  have E_a2 := E_a2.ext E
  have A_a2 := A_a2.ext E
  have F_stamps := F_stamps.ext E
  have F_values := F_values.ext E
  have F_nulls := F_nulls.ext E
  have E_b1 := E_b1.ext E
  have A_b1 := A_b1.ext E
  have F_columns := F_columns.ext E
  have Z0 := Nat.le_trans Z0 E.1
  have Kp := Kp.ext E
  have A_b3 : Arv Z h3 b3 k_b3 .long (3 : Int32) [(.long (0 : Int64)), (.long (0 : Int64)), (.long (0 : Int64))] (.long (0 : Int64)) := A_b3.pad (pad_rep [] (.long (0 : Int64)) 3)
  refine own_putF X hx hZ hown (own_w hw 22 rfl) Via.refl eT F_stamps E_a1 (Or.inr ⟨(own_w hw 23 rfl), rfl, hnm⟩) (own_w hw 2 rfl) (ty := (.array .long)) (v' := (.ref b3)) (by decide) rfl rfl (hb hby own_d_prog_105_method_1_code_38) (pc' := 41) rfl ?_
  intro T h4 lc X eT Wq fN
  have F_stamps := F_stamps.same Wq
  have E_a1 := E_a1.wr Wq
  have E_a2 := E_a2.wr Wq
  have A_a2 := A_a2.other Wq (Ne.symm ne12)
  have F_values := F_values.other Wq (Or.inr (slot_ne (Or.inr (own_w hw 27 rfl)) (Or.inr (own_w hw 23 rfl)) (by decide) (t := (.array (.array .long))) (t' := (.array .long)) (by decide) (by decide)))
  have F_nulls := F_nulls.other Wq (Or.inr (slot_ne (Or.inr (own_w hw 32 rfl)) (Or.inr (own_w hw 23 rfl)) (by decide) (t := (.array (.array .boolean))) (t' := (.array .long)) (by decide) (by decide)))
  have E_b1 := E_b1.wr Wq
  have A_b1 := A_b1.other Wq (Ne.symm ne_a1_b1)
  have F_columns := F_columns.other Wq (Or.inr (slot_ne (Or.inr (own_w hw 20 rfl)) (Or.inr (own_w hw 23 rfl)) (by decide) (t := (.array .int)) (t' := (.array .long)) (by decide) (by decide)))
  have A_b3 := A_b3.other Wq (Ne.symm ne_a1_b3)
  have Z0 := Nat.le_trans Z0 (Keep.of_wr Wq).1
  have N := fN _ z_a1 N
  have Kp := Kp.wr Wq (Or.inl (List.mem_of_getElem? (i := 0) rfl))
  refine own_aloadN X hx (hb hby own_d_prog_105_method_1_code_41) (pc' := 42) rfl rfl rfl ?_
  refine own_aloadN X hx (hb hby own_d_prog_105_method_1_code_42) (pc' := 43) rfl rfl rfl ?_
  refine own_arrlen X hx hZ eT A_a2 (hb hby own_d_prog_105_method_1_code_43) (pc' := 44) rfl ?_
  refine own_iloadN X hx (hb hby own_d_prog_105_method_1_code_44) (pc' := 45) rfl rfl ?_
  refine own_grid X hx hZ hown (ty := .long) (C := "[J") (ad := "[[J") (by decide) (by decide) (own_w hw 24 rfl) (own_w hw 25 rfl) (own_w hw 21 rfl) eT (hb hby own_d_prog_105_method_1_code_45) (pc' := 49) rfl (by decide) (by decide) 2 3 (by decide) (by decide) (by decide) (by decide) rfl rfl (cells' := 5) (slots' := 13) rfl rfl (by decide) (by decide) ?_
  intro T h5 k_b5 c_b5 b5 xs_b5 X eT E gb5 gx_b5 A_b5 E_b5 H_b5
  have lt_a1_b5 : a1 < b5 := Nat.lt_of_lt_of_le E_a1.lt (Nat.le_of_eq gb5.symm)
  have ne_a1_b5 : a1 ≠ b5 := Nat.ne_of_lt lt_a1_b5
  have lt_a2_b5 : a2 < b5 := Nat.lt_of_lt_of_le E_a2.lt (Nat.le_of_eq gb5.symm)
  have ne_a2_b5 : a2 ≠ b5 := Nat.ne_of_lt lt_a2_b5
  have lt_b1_b5 : b1 < b5 := Nat.lt_of_lt_of_le E_b1.lt (Nat.le_of_eq gb5.symm)
  have ne_b1_b5 : b1 ≠ b5 := Nat.ne_of_lt lt_b1_b5
  have lt_b3_b5 : b3 < b5 := Nat.lt_of_lt_of_le A_b3.lt (Nat.le_of_eq gb5.symm)
  have ne_b3_b5 : b3 ≠ b5 := Nat.ne_of_lt lt_b3_b5
  have z_b5 : n0 ≤ b5 := Nat.le_trans Z0 (Nat.le_of_eq gb5.symm)
  have s_b5 : h0.size ≤ b5 := Nat.le_trans Kp.1 (Nat.le_of_eq gb5.symm)
  obtain ⟨b5_0, gb5_0⟩ : ∃ z, z = h4.size + 1 + 0 := ⟨_, rfl⟩
  have lt_a1_b5_0 : a1 < b5_0 := Nat.lt_of_lt_of_le E_a1.lt (by omega)
  have ne_a1_b5_0 : a1 ≠ b5_0 := Nat.ne_of_lt lt_a1_b5_0
  have lt_a2_b5_0 : a2 < b5_0 := Nat.lt_of_lt_of_le E_a2.lt (by omega)
  have ne_a2_b5_0 : a2 ≠ b5_0 := Nat.ne_of_lt lt_a2_b5_0
  have lt_b1_b5_0 : b1 < b5_0 := Nat.lt_of_lt_of_le E_b1.lt (by omega)
  have ne_b1_b5_0 : b1 ≠ b5_0 := Nat.ne_of_lt lt_b1_b5_0
  have lt_b3_b5_0 : b3 < b5_0 := Nat.lt_of_lt_of_le A_b3.lt (by omega)
  have ne_b3_b5_0 : b3 ≠ b5_0 := Nat.ne_of_lt lt_b3_b5_0
  have z_b5_0 : n0 ≤ b5_0 := Nat.le_trans Z0 (by omega)
  have s_b5_0 : h0.size ≤ b5_0 := Nat.le_trans Kp.1 (by omega)
  have ne_b5_b5_0 : b5 ≠ b5_0 := by omega
  obtain ⟨b5_1, gb5_1⟩ : ∃ z, z = h4.size + 1 + 1 := ⟨_, rfl⟩
  have lt_a1_b5_1 : a1 < b5_1 := Nat.lt_of_lt_of_le E_a1.lt (by omega)
  have ne_a1_b5_1 : a1 ≠ b5_1 := Nat.ne_of_lt lt_a1_b5_1
  have lt_a2_b5_1 : a2 < b5_1 := Nat.lt_of_lt_of_le E_a2.lt (by omega)
  have ne_a2_b5_1 : a2 ≠ b5_1 := Nat.ne_of_lt lt_a2_b5_1
  have lt_b1_b5_1 : b1 < b5_1 := Nat.lt_of_lt_of_le E_b1.lt (by omega)
  have ne_b1_b5_1 : b1 ≠ b5_1 := Nat.ne_of_lt lt_b1_b5_1
  have lt_b3_b5_1 : b3 < b5_1 := Nat.lt_of_lt_of_le A_b3.lt (by omega)
  have ne_b3_b5_1 : b3 ≠ b5_1 := Nat.ne_of_lt lt_b3_b5_1
  have z_b5_1 : n0 ≤ b5_1 := Nat.le_trans Z0 (by omega)
  have s_b5_1 : h0.size ≤ b5_1 := Nat.le_trans Kp.1 (by omega)
  have ne_b5_b5_1 : b5 ≠ b5_1 := by omega
  have ne_b5_0_b5_1 : b5_0 ≠ b5_1 := by omega
  have E_a1 := E_a1.ext E
  have E_a2 := E_a2.ext E
  have A_a2 := A_a2.ext E
  have F_values := F_values.ext E
  have F_nulls := F_nulls.ext E
  have E_b1 := E_b1.ext E
  have A_b1 := A_b1.ext E
  have F_columns := F_columns.ext E
  have A_b3 := A_b3.ext E
  have F_stamps := F_stamps.ext E
  have Z0 := Nat.le_trans Z0 E.1
  have Kp := Kp.ext E
  have hx_b5 : xs_b5 = [b5_0, b5_1] := gx_b5.trans (by simp only [gb5_0, gb5_1]; rfl)
  rw [hx_b5] at A_b5 H_b5
  have A_b5 : Arv Z h5 b5 k_b5 (.array .long) (2 : Int32) [(.ref b5_0), (.ref b5_1)] .null := A_b5
  have A_b5_0 : Arv Z h5 b5_0 c_b5 .long (3 : Int32) [(.long (0 : Int64)), (.long (0 : Int64)), (.long (0 : Int64))] (.long (0 : Int64)) := (H_b5 0 b5_0 rfl).1.pad (pad_rep [] (.long (0 : Int64)) 3)
  have A_b5_1 : Arv Z h5 b5_1 c_b5 .long (3 : Int32) [(.long (0 : Int64)), (.long (0 : Int64)), (.long (0 : Int64))] (.long (0 : Int64)) := (H_b5 1 b5_1 rfl).1.pad (pad_rep [] (.long (0 : Int64)) 3)
  refine own_putF X hx hZ hown (own_w hw 26 rfl) Via.refl eT F_values E_a1 (Or.inr ⟨(own_w hw 27 rfl), rfl, hnm⟩) (own_w hw 2 rfl) (ty := (.array (.array .long))) (v' := (.ref b5)) (by decide) rfl rfl (hb hby own_d_prog_105_method_1_code_49) (pc' := 52) rfl ?_
  intro T h6 lc X eT Wq fN
  have F_values := F_values.same Wq
  have E_a1 := E_a1.wr Wq
  have E_a2 := E_a2.wr Wq
  have A_a2 := A_a2.other Wq (Ne.symm ne12)
  have F_nulls := F_nulls.other Wq (Or.inr (slot_ne (Or.inr (own_w hw 32 rfl)) (Or.inr (own_w hw 27 rfl)) (by decide) (t := (.array (.array .boolean))) (t' := (.array (.array .long))) (by decide) (by decide)))
  have E_b1 := E_b1.wr Wq
  have A_b1 := A_b1.other Wq (Ne.symm ne_a1_b1)
  have F_columns := F_columns.other Wq (Or.inr (slot_ne (Or.inr (own_w hw 20 rfl)) (Or.inr (own_w hw 27 rfl)) (by decide) (t := (.array .int)) (t' := (.array (.array .long))) (by decide) (by decide)))
  have A_b3 := A_b3.other Wq (Ne.symm ne_a1_b3)
  have F_stamps := F_stamps.other Wq (Or.inr (slot_ne (Or.inr (own_w hw 23 rfl)) (Or.inr (own_w hw 27 rfl)) (by decide) (t := (.array .long)) (t' := (.array (.array .long))) (by decide) (by decide)))
  have A_b5 := A_b5.other Wq (Ne.symm ne_a1_b5)
  have E_b5 := E_b5.wr Wq
  have A_b5_0 := A_b5_0.other Wq (Ne.symm ne_a1_b5_0)
  have A_b5_1 := A_b5_1.other Wq (Ne.symm ne_a1_b5_1)
  have Z0 := Nat.le_trans Z0 (Keep.of_wr Wq).1
  have N := fN _ z_a1 N
  have Kp := Kp.wr Wq (Or.inl (List.mem_of_getElem? (i := 0) rfl))
  refine own_aloadN X hx (hb hby own_d_prog_105_method_1_code_52) (pc' := 53) rfl rfl rfl ?_
  refine own_aloadN X hx (hb hby own_d_prog_105_method_1_code_53) (pc' := 54) rfl rfl rfl ?_
  refine own_arrlen X hx hZ eT A_a2 (hb hby own_d_prog_105_method_1_code_54) (pc' := 55) rfl ?_
  refine own_iloadN X hx (hb hby own_d_prog_105_method_1_code_55) (pc' := 56) rfl rfl ?_
  refine own_grid X hx hZ hown (ty := .boolean) (C := "[Z") (ad := "[[Z") (by decide) (by decide) (own_w hw 28 rfl) (own_w hw 29 rfl) (own_w hw 30 rfl) eT (hb hby own_d_prog_105_method_1_code_56) (pc' := 60) rfl (by decide) (by decide) 2 3 (by decide) (by decide) (by decide) (by decide) rfl rfl (cells' := 8) (slots' := 21) rfl rfl (by decide) (by decide) ?_
  intro T h7 k_b7 c_b7 b7 xs_b7 X eT E gb7 gx_b7 A_b7 E_b7 H_b7
  have lt_a1_b7 : a1 < b7 := Nat.lt_of_lt_of_le E_a1.lt (Nat.le_of_eq gb7.symm)
  have ne_a1_b7 : a1 ≠ b7 := Nat.ne_of_lt lt_a1_b7
  have lt_a2_b7 : a2 < b7 := Nat.lt_of_lt_of_le E_a2.lt (Nat.le_of_eq gb7.symm)
  have ne_a2_b7 : a2 ≠ b7 := Nat.ne_of_lt lt_a2_b7
  have lt_b1_b7 : b1 < b7 := Nat.lt_of_lt_of_le E_b1.lt (Nat.le_of_eq gb7.symm)
  have ne_b1_b7 : b1 ≠ b7 := Nat.ne_of_lt lt_b1_b7
  have lt_b3_b7 : b3 < b7 := Nat.lt_of_lt_of_le A_b3.lt (Nat.le_of_eq gb7.symm)
  have ne_b3_b7 : b3 ≠ b7 := Nat.ne_of_lt lt_b3_b7
  have lt_b5_b7 : b5 < b7 := Nat.lt_of_lt_of_le A_b5.lt (Nat.le_of_eq gb7.symm)
  have ne_b5_b7 : b5 ≠ b7 := Nat.ne_of_lt lt_b5_b7
  have lt_b5_0_b7 : b5_0 < b7 := Nat.lt_of_lt_of_le A_b5_0.lt (Nat.le_of_eq gb7.symm)
  have ne_b5_0_b7 : b5_0 ≠ b7 := Nat.ne_of_lt lt_b5_0_b7
  have lt_b5_1_b7 : b5_1 < b7 := Nat.lt_of_lt_of_le A_b5_1.lt (Nat.le_of_eq gb7.symm)
  have ne_b5_1_b7 : b5_1 ≠ b7 := Nat.ne_of_lt lt_b5_1_b7
  have z_b7 : n0 ≤ b7 := Nat.le_trans Z0 (Nat.le_of_eq gb7.symm)
  have s_b7 : h0.size ≤ b7 := Nat.le_trans Kp.1 (Nat.le_of_eq gb7.symm)
  obtain ⟨b7_0, gb7_0⟩ : ∃ z, z = h6.size + 1 + 0 := ⟨_, rfl⟩
  have lt_a1_b7_0 : a1 < b7_0 := Nat.lt_of_lt_of_le E_a1.lt (by omega)
  have ne_a1_b7_0 : a1 ≠ b7_0 := Nat.ne_of_lt lt_a1_b7_0
  have lt_a2_b7_0 : a2 < b7_0 := Nat.lt_of_lt_of_le E_a2.lt (by omega)
  have ne_a2_b7_0 : a2 ≠ b7_0 := Nat.ne_of_lt lt_a2_b7_0
  have lt_b1_b7_0 : b1 < b7_0 := Nat.lt_of_lt_of_le E_b1.lt (by omega)
  have ne_b1_b7_0 : b1 ≠ b7_0 := Nat.ne_of_lt lt_b1_b7_0
  have lt_b3_b7_0 : b3 < b7_0 := Nat.lt_of_lt_of_le A_b3.lt (by omega)
  have ne_b3_b7_0 : b3 ≠ b7_0 := Nat.ne_of_lt lt_b3_b7_0
  have lt_b5_b7_0 : b5 < b7_0 := Nat.lt_of_lt_of_le A_b5.lt (by omega)
  have ne_b5_b7_0 : b5 ≠ b7_0 := Nat.ne_of_lt lt_b5_b7_0
  have lt_b5_0_b7_0 : b5_0 < b7_0 := Nat.lt_of_lt_of_le A_b5_0.lt (by omega)
  have ne_b5_0_b7_0 : b5_0 ≠ b7_0 := Nat.ne_of_lt lt_b5_0_b7_0
  have lt_b5_1_b7_0 : b5_1 < b7_0 := Nat.lt_of_lt_of_le A_b5_1.lt (by omega)
  have ne_b5_1_b7_0 : b5_1 ≠ b7_0 := Nat.ne_of_lt lt_b5_1_b7_0
  have z_b7_0 : n0 ≤ b7_0 := Nat.le_trans Z0 (by omega)
  have s_b7_0 : h0.size ≤ b7_0 := Nat.le_trans Kp.1 (by omega)
  have ne_b7_b7_0 : b7 ≠ b7_0 := by omega
  obtain ⟨b7_1, gb7_1⟩ : ∃ z, z = h6.size + 1 + 1 := ⟨_, rfl⟩
  have lt_a1_b7_1 : a1 < b7_1 := Nat.lt_of_lt_of_le E_a1.lt (by omega)
  have ne_a1_b7_1 : a1 ≠ b7_1 := Nat.ne_of_lt lt_a1_b7_1
  have lt_a2_b7_1 : a2 < b7_1 := Nat.lt_of_lt_of_le E_a2.lt (by omega)
  have ne_a2_b7_1 : a2 ≠ b7_1 := Nat.ne_of_lt lt_a2_b7_1
  have lt_b1_b7_1 : b1 < b7_1 := Nat.lt_of_lt_of_le E_b1.lt (by omega)
  have ne_b1_b7_1 : b1 ≠ b7_1 := Nat.ne_of_lt lt_b1_b7_1
  have lt_b3_b7_1 : b3 < b7_1 := Nat.lt_of_lt_of_le A_b3.lt (by omega)
  have ne_b3_b7_1 : b3 ≠ b7_1 := Nat.ne_of_lt lt_b3_b7_1
  have lt_b5_b7_1 : b5 < b7_1 := Nat.lt_of_lt_of_le A_b5.lt (by omega)
  have ne_b5_b7_1 : b5 ≠ b7_1 := Nat.ne_of_lt lt_b5_b7_1
  have lt_b5_0_b7_1 : b5_0 < b7_1 := Nat.lt_of_lt_of_le A_b5_0.lt (by omega)
  have ne_b5_0_b7_1 : b5_0 ≠ b7_1 := Nat.ne_of_lt lt_b5_0_b7_1
  have lt_b5_1_b7_1 : b5_1 < b7_1 := Nat.lt_of_lt_of_le A_b5_1.lt (by omega)
  have ne_b5_1_b7_1 : b5_1 ≠ b7_1 := Nat.ne_of_lt lt_b5_1_b7_1
  have z_b7_1 : n0 ≤ b7_1 := Nat.le_trans Z0 (by omega)
  have s_b7_1 : h0.size ≤ b7_1 := Nat.le_trans Kp.1 (by omega)
  have ne_b7_b7_1 : b7 ≠ b7_1 := by omega
  have ne_b7_0_b7_1 : b7_0 ≠ b7_1 := by omega
  have E_a1 := E_a1.ext E
  have E_a2 := E_a2.ext E
  have A_a2 := A_a2.ext E
  have F_nulls := F_nulls.ext E
  have E_b1 := E_b1.ext E
  have A_b1 := A_b1.ext E
  have F_columns := F_columns.ext E
  have A_b3 := A_b3.ext E
  have F_stamps := F_stamps.ext E
  have A_b5 := A_b5.ext E
  have E_b5 := E_b5.ext E
  have A_b5_0 := A_b5_0.ext E
  have A_b5_1 := A_b5_1.ext E
  have F_values := F_values.ext E
  have Z0 := Nat.le_trans Z0 E.1
  have Kp := Kp.ext E
  have hx_b7 : xs_b7 = [b7_0, b7_1] := gx_b7.trans (by simp only [gb7_0, gb7_1]; rfl)
  rw [hx_b7] at A_b7 H_b7
  have A_b7 : Arv Z h7 b7 k_b7 (.array .boolean) (2 : Int32) [(.ref b7_0), (.ref b7_1)] .null := A_b7
  have A_b7_0 : Arv Z h7 b7_0 c_b7 .boolean (3 : Int32) [(.int (0 : Int32)), (.int (0 : Int32)), (.int (0 : Int32))] (.int (0 : Int32)) := (H_b7 0 b7_0 rfl).1.pad (pad_rep [] (.int (0 : Int32)) 3)
  have A_b7_1 : Arv Z h7 b7_1 c_b7 .boolean (3 : Int32) [(.int (0 : Int32)), (.int (0 : Int32)), (.int (0 : Int32))] (.int (0 : Int32)) := (H_b7 1 b7_1 rfl).1.pad (pad_rep [] (.int (0 : Int32)) 3)
  refine own_putF X hx hZ hown (own_w hw 31 rfl) Via.refl eT F_nulls E_a1 (Or.inr ⟨(own_w hw 32 rfl), rfl, hnm⟩) (own_w hw 2 rfl) (ty := (.array (.array .boolean))) (v' := (.ref b7)) (by decide) rfl rfl (hb hby own_d_prog_105_method_1_code_60) (pc' := 63) rfl ?_
  intro T h8 lc X eT Wq fN
  have F_nulls := F_nulls.same Wq
  have E_a1 := E_a1.wr Wq
  have E_a2 := E_a2.wr Wq
  have A_a2 := A_a2.other Wq (Ne.symm ne12)
  have E_b1 := E_b1.wr Wq
  have A_b1 := A_b1.other Wq (Ne.symm ne_a1_b1)
  have F_columns := F_columns.other Wq (Or.inr (slot_ne (Or.inr (own_w hw 20 rfl)) (Or.inr (own_w hw 32 rfl)) (by decide) (t := (.array .int)) (t' := (.array (.array .boolean))) (by decide) (by decide)))
  have A_b3 := A_b3.other Wq (Ne.symm ne_a1_b3)
  have F_stamps := F_stamps.other Wq (Or.inr (slot_ne (Or.inr (own_w hw 23 rfl)) (Or.inr (own_w hw 32 rfl)) (by decide) (t := (.array .long)) (t' := (.array (.array .boolean))) (by decide) (by decide)))
  have A_b5 := A_b5.other Wq (Ne.symm ne_a1_b5)
  have E_b5 := E_b5.wr Wq
  have A_b5_0 := A_b5_0.other Wq (Ne.symm ne_a1_b5_0)
  have A_b5_1 := A_b5_1.other Wq (Ne.symm ne_a1_b5_1)
  have F_values := F_values.other Wq (Or.inr (slot_ne (Or.inr (own_w hw 27 rfl)) (Or.inr (own_w hw 32 rfl)) (by decide) (t := (.array (.array .long))) (t' := (.array (.array .boolean))) (by decide) (by decide)))
  have A_b7 := A_b7.other Wq (Ne.symm ne_a1_b7)
  have E_b7 := E_b7.wr Wq
  have A_b7_0 := A_b7_0.other Wq (Ne.symm ne_a1_b7_0)
  have A_b7_1 := A_b7_1.other Wq (Ne.symm ne_a1_b7_1)
  have Z0 := Nat.le_trans Z0 (Keep.of_wr Wq).1
  have N := fN _ z_a1 N
  have Kp := Kp.wr Wq (Or.inl (List.mem_of_getElem? (i := 0) rfl))
  refine own_ret0 X hx hlk Bd.returns (hb hby own_d_prog_105_method_1_code_63) (by decide) (by decide) ?_
  rw [eT]
  exact ⟨rfl, N, Kp, b1, b3, b5, b5_0, b5_1, b7, b7_0, b7_1, s_b1, lt_b1_b3, lt_b3_b5, (by omega), (by omega), lt_b5_1_b7, (by omega), (by omega), F_columns, F_stamps, F_values, F_nulls, ⟨_, A_b1⟩, ⟨_, A_b3⟩, ⟨_, A_b5⟩, ⟨_, A_b5_0⟩, ⟨_, A_b5_1⟩, ⟨_, A_b7⟩, ⟨_, A_b7_0⟩, ⟨_, A_b7_1⟩⟩
theorem own_d_prog_105_method_8_code_0 : decode prog_105_method_8_code 0 = .ok (.aload_n 0, 1) := by decide +kernel
theorem own_d_prog_105_method_8_code_1 : decode prog_105_method_8_code 1 = .ok (.getfield 33, 3) := by decide +kernel
theorem own_d_prog_105_method_8_code_4 : decode prog_105_method_8_code 4 = .ok (.iload_n 1, 1) := by decide +kernel
theorem own_d_prog_105_method_8_code_5 : decode prog_105_method_8_code 5 = .ok (.aaload, 1) := by decide +kernel
theorem own_d_prog_105_method_8_code_6 : decode prog_105_method_8_code 6 = .ok (.areturn, 1) := by decide +kernel
theorem ef_values (m : MethodId) (x0 : Addr) (x1 : Int32) : entryFrame m #[(.ref x0), (.int x1)] 2 = mkF m 0 #[.val (.ref x0), .val (.int x1)] [] := by first | (simp [entryFrame, mkF, argsToLocals, Value.category]; done) | rfl
def Q_values (Z : State) (a1 b r : Addr) (p2 : Int32) (h0 : Heap) (n0 : Nat) (v : Option Value) (h : Heap) (L : List Loc) : Prop := v = some (.ref r) ∧ Fr n0 L ∧ h = h0
set_option maxRecDepth 65536 in
set_option maxHeartbeats 40000000 in
theorem rm_values (l : Launch) (Z : State) (a0 : Array Value) (hw : ∀ d ∈ tables_1, d.before a0 Z = true) (ws : List Jvm.Cond) (a1 b r : Addr) (p2 : Int32) (h0 : Heap) (n0 : Nat) (Z0 : n0 ≤ h0.size) (F : Fld Z h0 a1 "com/example/latchwork/latchwork/storage/ColumnBatch" "values" "[[J" (.ref b)) (k : ClassId) (vs : List Value) (A_b : Arv Z h0 b k (.array .long) (2 : Int32) vs .null) (hj : ¬ p2 < 0 ∧ p2 < 2) (hv : vs.getD p2.toNatClampNeg .null = .ref r) :
    MetFree l (⟨"com/example/latchwork/latchwork/storage/ColumnBatch", "values", "(I)[J"⟩ : MethodName) (head1 (Jvm.Cond.code (⟨"com/example/latchwork/latchwork/storage/ColumnBatch", "values", "(I)[J"⟩ : MethodName) prog_105_method_8_code 2 (some (.array .long)) :: ws) ({ frames := 0, cells := 0, slots := 0, locals := 0 } : Room)) (fun a U => a = #[(.ref a1), (.int p2)] ∧ Z.Warmed39 U.vm ∧ U.heap = h0) (fun _ _ _ _ _ => True) (fun _ U o U' => ∃ v L, o = .returned v ∧ Q_values Z a1 b r p2 h0 n0 v U'.heap L ∧ FrameEnd U o U' L ({ frames := 0, cells := 0, slots := 0, locals := 0 } : Room).cells ({ frames := 0, cells := 0, slots := 0, locals := 0 } : Room).slots) := by
  refine MetFree.of_bodySF (plainFor_of_name own_pn_com_example_latchwork_latchwork_storage_ColumnBatch) hisR ?_
  intro p e s m args below meth c s₁ Bd hml0 hP hK
  obtain ⟨rfl, hZ, hh⟩ := hP
  have hx := Bd.exec
  have hby := Bd.bytes
  have hml : c.maxLocals = 2 := hml0
  have hown : s.vm.findClass "com/example/latchwork/latchwork/storage/ColumnBatch" = some m.cls := findClass_of_methodNamed Bd.named
  have hnm := (name_of_methodNamed Bd.named Bd.method).1
  have hlk := Bd.notSynchronized
  obtain ⟨lc, hlc⟩ : ∃ lc : List Loc, lc = [] := ⟨_, rfl⟩
  have X : Stand p l e ({ frames := 0, cells := 0, slots := 0, locals := 0 } : Room) s m #[(.ref a1), (.int p2)] below meth c s₁ lc 0 0 := hlc ▸ Stand.of_body Bd
  have eT : s₁.heap = h0 := by rw [← hh, Bd.state]; rfl
  have N : Fr n0 lc := hlc ▸ Fr.nil n0
  refine own_enter (ef_values m a1 p2) ?_
  obtain ⟨T, hT⟩ : ∃ T : State, T = s₁ := ⟨_, rfl⟩
  rw [← hT] at X eT ⊢
  show own_W p e below (own_Post s (Q_values Z a1 b r p2 h0 n0) 0 0) T m 0 #[.val (.ref a1), .val (.int p2)] []
  refine own_aloadN X hx (hb hby own_d_prog_105_method_8_code_0) (pc' := 1) rfl rfl rfl ?_
  refine own_getF X hx hZ hown (host := "") (Or.inl (own_w hw 26 rfl)) Via.refl eT F (hb hby own_d_prog_105_method_8_code_1) (pc' := 4) rfl ?_
  intro T X eT
  refine own_iloadN X hx (hb hby own_d_prog_105_method_8_code_4) (pc' := 5) rfl rfl ?_
  refine own_aaload X hx hZ eT rfl A_b (v := (.ref r)) hj hv (hb hby own_d_prog_105_method_8_code_5) (pc' := 6) rfl ?_
  refine own_retA X hx hlk Bd.returns (hb hby own_d_prog_105_method_8_code_6) rfl rfl rfl (by decide) (by decide) ?_
  rw [eT]
  exact ⟨rfl, N, rfl⟩
theorem own_d_prog_105_method_9_code_0 : decode prog_105_method_9_code 0 = .ok (.aload_n 0, 1) := by decide +kernel
theorem own_d_prog_105_method_9_code_1 : decode prog_105_method_9_code 1 = .ok (.getfield 38, 3) := by decide +kernel
theorem own_d_prog_105_method_9_code_4 : decode prog_105_method_9_code 4 = .ok (.iload_n 1, 1) := by decide +kernel
theorem own_d_prog_105_method_9_code_5 : decode prog_105_method_9_code 5 = .ok (.aaload, 1) := by decide +kernel
theorem own_d_prog_105_method_9_code_6 : decode prog_105_method_9_code 6 = .ok (.areturn, 1) := by decide +kernel
theorem ef_nulls (m : MethodId) (x0 : Addr) (x1 : Int32) : entryFrame m #[(.ref x0), (.int x1)] 2 = mkF m 0 #[.val (.ref x0), .val (.int x1)] [] := by first | (simp [entryFrame, mkF, argsToLocals, Value.category]; done) | rfl
def Q_nulls (Z : State) (a1 b r : Addr) (p2 : Int32) (h0 : Heap) (n0 : Nat) (v : Option Value) (h : Heap) (L : List Loc) : Prop := v = some (.ref r) ∧ Fr n0 L ∧ h = h0
set_option maxRecDepth 65536 in
set_option maxHeartbeats 40000000 in
theorem rm_nulls (l : Launch) (Z : State) (a0 : Array Value) (hw : ∀ d ∈ tables_1, d.before a0 Z = true) (ws : List Jvm.Cond) (a1 b r : Addr) (p2 : Int32) (h0 : Heap) (n0 : Nat) (Z0 : n0 ≤ h0.size) (F : Fld Z h0 a1 "com/example/latchwork/latchwork/storage/ColumnBatch" "nulls" "[[Z" (.ref b)) (k : ClassId) (vs : List Value) (A_b : Arv Z h0 b k (.array .boolean) (2 : Int32) vs .null) (hj : ¬ p2 < 0 ∧ p2 < 2) (hv : vs.getD p2.toNatClampNeg .null = .ref r) :
    MetFree l (⟨"com/example/latchwork/latchwork/storage/ColumnBatch", "nulls", "(I)[Z"⟩ : MethodName) (head1 (Jvm.Cond.code (⟨"com/example/latchwork/latchwork/storage/ColumnBatch", "nulls", "(I)[Z"⟩ : MethodName) prog_105_method_9_code 2 (some (.array .boolean)) :: ws) ({ frames := 0, cells := 0, slots := 0, locals := 0 } : Room)) (fun a U => a = #[(.ref a1), (.int p2)] ∧ Z.Warmed39 U.vm ∧ U.heap = h0) (fun _ _ _ _ _ => True) (fun _ U o U' => ∃ v L, o = .returned v ∧ Q_nulls Z a1 b r p2 h0 n0 v U'.heap L ∧ FrameEnd U o U' L ({ frames := 0, cells := 0, slots := 0, locals := 0 } : Room).cells ({ frames := 0, cells := 0, slots := 0, locals := 0 } : Room).slots) := by
  refine MetFree.of_bodySF (plainFor_of_name own_pn_com_example_latchwork_latchwork_storage_ColumnBatch) hisR ?_
  intro p e s m args below meth c s₁ Bd hml0 hP hK
  obtain ⟨rfl, hZ, hh⟩ := hP
  have hx := Bd.exec
  have hby := Bd.bytes
  have hml : c.maxLocals = 2 := hml0
  have hown : s.vm.findClass "com/example/latchwork/latchwork/storage/ColumnBatch" = some m.cls := findClass_of_methodNamed Bd.named
  have hnm := (name_of_methodNamed Bd.named Bd.method).1
  have hlk := Bd.notSynchronized
  obtain ⟨lc, hlc⟩ : ∃ lc : List Loc, lc = [] := ⟨_, rfl⟩
  have X : Stand p l e ({ frames := 0, cells := 0, slots := 0, locals := 0 } : Room) s m #[(.ref a1), (.int p2)] below meth c s₁ lc 0 0 := hlc ▸ Stand.of_body Bd
  have eT : s₁.heap = h0 := by rw [← hh, Bd.state]; rfl
  have N : Fr n0 lc := hlc ▸ Fr.nil n0
  refine own_enter (ef_nulls m a1 p2) ?_
  obtain ⟨T, hT⟩ : ∃ T : State, T = s₁ := ⟨_, rfl⟩
  rw [← hT] at X eT ⊢
  show own_W p e below (own_Post s (Q_nulls Z a1 b r p2 h0 n0) 0 0) T m 0 #[.val (.ref a1), .val (.int p2)] []
  refine own_aloadN X hx (hb hby own_d_prog_105_method_9_code_0) (pc' := 1) rfl rfl rfl ?_
  refine own_getF X hx hZ hown (host := "") (Or.inl (own_w hw 31 rfl)) Via.refl eT F (hb hby own_d_prog_105_method_9_code_1) (pc' := 4) rfl ?_
  intro T X eT
  refine own_iloadN X hx (hb hby own_d_prog_105_method_9_code_4) (pc' := 5) rfl rfl ?_
  refine own_aaload X hx hZ eT rfl A_b (v := (.ref r)) hj hv (hb hby own_d_prog_105_method_9_code_5) (pc' := 6) rfl ?_
  refine own_retA X hx hlk Bd.returns (hb hby own_d_prog_105_method_9_code_6) rfl rfl rfl (by decide) (by decide) ?_
  rw [eT]
  exact ⟨rfl, N, rfl⟩
theorem own_d_prog_105_method_2_code_0 : decode prog_105_method_2_code 0 = .ok (.aload_n 0, 1) := by decide +kernel
theorem own_d_prog_105_method_2_code_1 : decode prog_105_method_2_code 1 = .ok (.getfield 27, 3) := by decide +kernel
theorem own_d_prog_105_method_2_code_4 : decode prog_105_method_2_code 4 = .ok (.arraylength, 1) := by decide +kernel
theorem own_d_prog_105_method_2_code_5 : decode prog_105_method_2_code 5 = .ok (.ireturn, 1) := by decide +kernel
theorem ef_cap (m : MethodId) (x0 : Addr) : entryFrame m #[(.ref x0)] 1 = mkF m 0 #[.val (.ref x0)] [] := by first | (simp [entryFrame, mkF, argsToLocals, Value.category]; done) | rfl
def Q_cap (Z : State) (a1 b : Addr) (h0 : Heap) (n0 : Nat) (v : Option Value) (h : Heap) (L : List Loc) : Prop := v = some (.int (3 : Int32)) ∧ Fr n0 L ∧ h = h0
set_option maxRecDepth 65536 in
set_option maxHeartbeats 40000000 in
theorem rm_cap (l : Launch) (Z : State) (a0 : Array Value) (hw : ∀ d ∈ tables_1, d.before a0 Z = true) (ws : List Jvm.Cond) (a1 b : Addr) (h0 : Heap) (n0 : Nat) (Z0 : n0 ≤ h0.size) (F : Fld Z h0 a1 "com/example/latchwork/latchwork/storage/ColumnBatch" "stamps" "[J" (.ref b)) (k : ClassId) (vs : List Value) (A_b : Arv Z h0 b k .long (3 : Int32) vs (.long (0 : Int64))) :
    MetFree l (⟨"com/example/latchwork/latchwork/storage/ColumnBatch", "capacity", "()I"⟩ : MethodName) (head1 (Jvm.Cond.code (⟨"com/example/latchwork/latchwork/storage/ColumnBatch", "capacity", "()I"⟩ : MethodName) prog_105_method_2_code 1 (some .int) :: ws) ({ frames := 0, cells := 0, slots := 0, locals := 0 } : Room)) (fun a U => a = #[(.ref a1)] ∧ Z.Warmed39 U.vm ∧ U.heap = h0) (fun _ _ _ _ _ => True) (fun _ U o U' => ∃ v L, o = .returned v ∧ Q_cap Z a1 b h0 n0 v U'.heap L ∧ FrameEnd U o U' L ({ frames := 0, cells := 0, slots := 0, locals := 0 } : Room).cells ({ frames := 0, cells := 0, slots := 0, locals := 0 } : Room).slots) := by
  refine MetFree.of_bodySF (plainFor_of_name own_pn_com_example_latchwork_latchwork_storage_ColumnBatch) hisR ?_
  intro p e s m args below meth c s₁ Bd hml0 hP hK
  obtain ⟨rfl, hZ, hh⟩ := hP
  have hx := Bd.exec
  have hby := Bd.bytes
  have hml : c.maxLocals = 1 := hml0
  have hown : s.vm.findClass "com/example/latchwork/latchwork/storage/ColumnBatch" = some m.cls := findClass_of_methodNamed Bd.named
  have hnm := (name_of_methodNamed Bd.named Bd.method).1
  have hlk := Bd.notSynchronized
  obtain ⟨lc, hlc⟩ : ∃ lc : List Loc, lc = [] := ⟨_, rfl⟩
  have X : Stand p l e ({ frames := 0, cells := 0, slots := 0, locals := 0 } : Room) s m #[(.ref a1)] below meth c s₁ lc 0 0 := hlc ▸ Stand.of_body Bd
  have eT : s₁.heap = h0 := by rw [← hh, Bd.state]; rfl
  have N : Fr n0 lc := hlc ▸ Fr.nil n0
  refine own_enter (ef_cap m a1) ?_
  obtain ⟨T, hT⟩ : ∃ T : State, T = s₁ := ⟨_, rfl⟩
  rw [← hT] at X eT ⊢
  show own_W p e below (own_Post s (Q_cap Z a1 b h0 n0) 0 0) T m 0 #[.val (.ref a1)] []
  refine own_aloadN X hx (hb hby own_d_prog_105_method_2_code_0) (pc' := 1) rfl rfl rfl ?_
  refine own_getF X hx hZ hown (host := "") (Or.inl (own_w hw 22 rfl)) Via.refl eT F (hb hby own_d_prog_105_method_2_code_1) (pc' := 4) rfl ?_
  intro T X eT
  refine own_arrlen X hx hZ eT A_b (hb hby own_d_prog_105_method_2_code_4) (pc' := 5) rfl ?_
  refine own_retI X hx hlk (t := .int) (w' := (.int (3 : Int32))) Bd.returns (hb hby own_d_prog_105_method_2_code_5) rfl rfl (by simp) (by decide) (by decide) ?_
  rw [eT]
  exact ⟨rfl, N, rfl⟩
theorem own_d_prog_105_method_10_code_0 : decode prog_105_method_10_code 0 = .ok (.iconst 0, 1) := by decide +kernel
theorem own_d_prog_105_method_10_code_1 : decode prog_105_method_10_code 1 = .ok (.istore_n 3, 1) := by decide +kernel
theorem own_d_prog_105_method_10_code_2 : decode prog_105_method_10_code 2 = .ok (.iload_n 3, 1) := by decide +kernel
theorem own_d_prog_105_method_10_code_3 : decode prog_105_method_10_code 3 = .ok (.aload_n 0, 1) := by decide +kernel
theorem own_d_prog_105_method_10_code_4 : decode prog_105_method_10_code 4 = .ok (.getfield 22, 3) := by decide +kernel
theorem own_d_prog_105_method_10_code_7 : decode prog_105_method_10_code 7 = .ok (.arraylength, 1) := by decide +kernel
theorem own_d_prog_105_method_10_code_8 : decode prog_105_method_10_code 8 = .ok (.if_icmp .ge 41, 3) := by decide +kernel
theorem own_d_prog_105_method_10_code_11 : decode prog_105_method_10_code 11 = .ok (.aload_n 0, 1) := by decide +kernel
theorem own_d_prog_105_method_10_code_12 : decode prog_105_method_10_code 12 = .ok (.getfield 33, 3) := by decide +kernel
theorem own_d_prog_105_method_10_code_15 : decode prog_105_method_10_code 15 = .ok (.iload_n 3, 1) := by decide +kernel
theorem own_d_prog_105_method_10_code_16 : decode prog_105_method_10_code 16 = .ok (.aaload, 1) := by decide +kernel
theorem own_d_prog_105_method_10_code_17 : decode prog_105_method_10_code 17 = .ok (.iload_n 2, 1) := by decide +kernel
theorem own_d_prog_105_method_10_code_18 : decode prog_105_method_10_code 18 = .ok (.aload_n 0, 1) := by decide +kernel
theorem own_d_prog_105_method_10_code_19 : decode prog_105_method_10_code 19 = .ok (.getfield 33, 3) := by decide +kernel
theorem own_d_prog_105_method_10_code_22 : decode prog_105_method_10_code 22 = .ok (.iload_n 3, 1) := by decide +kernel
theorem own_d_prog_105_method_10_code_23 : decode prog_105_method_10_code 23 = .ok (.aaload, 1) := by decide +kernel
theorem own_d_prog_105_method_10_code_24 : decode prog_105_method_10_code 24 = .ok (.iload_n 1, 1) := by decide +kernel
theorem own_d_prog_105_method_10_code_25 : decode prog_105_method_10_code 25 = .ok (.laload, 1) := by decide +kernel
theorem own_d_prog_105_method_10_code_26 : decode prog_105_method_10_code 26 = .ok (.lastore, 1) := by decide +kernel
theorem own_d_prog_105_method_10_code_27 : decode prog_105_method_10_code 27 = .ok (.aload_n 0, 1) := by decide +kernel
theorem own_d_prog_105_method_10_code_28 : decode prog_105_method_10_code 28 = .ok (.getfield 38, 3) := by decide +kernel
theorem own_d_prog_105_method_10_code_31 : decode prog_105_method_10_code 31 = .ok (.iload_n 3, 1) := by decide +kernel
theorem own_d_prog_105_method_10_code_32 : decode prog_105_method_10_code 32 = .ok (.aaload, 1) := by decide +kernel
theorem own_d_prog_105_method_10_code_33 : decode prog_105_method_10_code 33 = .ok (.iload_n 2, 1) := by decide +kernel
theorem own_d_prog_105_method_10_code_34 : decode prog_105_method_10_code 34 = .ok (.aload_n 0, 1) := by decide +kernel
theorem own_d_prog_105_method_10_code_35 : decode prog_105_method_10_code 35 = .ok (.getfield 38, 3) := by decide +kernel
theorem own_d_prog_105_method_10_code_38 : decode prog_105_method_10_code 38 = .ok (.iload_n 3, 1) := by decide +kernel
theorem own_d_prog_105_method_10_code_39 : decode prog_105_method_10_code 39 = .ok (.aaload, 1) := by decide +kernel
theorem own_d_prog_105_method_10_code_40 : decode prog_105_method_10_code 40 = .ok (.iload_n 1, 1) := by decide +kernel
theorem own_d_prog_105_method_10_code_41 : decode prog_105_method_10_code 41 = .ok (.baload, 1) := by decide +kernel
theorem own_d_prog_105_method_10_code_42 : decode prog_105_method_10_code 42 = .ok (.bastore, 1) := by decide +kernel
theorem own_d_prog_105_method_10_code_43 : decode prog_105_method_10_code 43 = .ok (.iinc 3 1, 3) := by decide +kernel
theorem own_d_prog_105_method_10_code_46 : decode prog_105_method_10_code 46 = .ok (.goto (-44), 3) := by decide +kernel
theorem own_d_prog_105_method_10_code_49 : decode prog_105_method_10_code 49 = .ok (.return_, 1) := by decide +kernel
theorem ef_move (m : MethodId) (x0 : Addr) (x1 : Int32) (x2 : Int32) : entryFrame m #[(.ref x0), (.int x1), (.int x2)] 4 = mkF m 0 #[.val (.ref x0), .val (.int x1), .val (.int x2), .unset] [] := by first | (simp [entryFrame, mkF, argsToLocals, Value.category]; done) | rfl
def Q_move (Z : State) (a1 bc bv bn v0 v1 m0 m1 : Addr) (fr tt : Int32) (kc kv kn k0 k1 k2 k3 : ClassId) (x0 x1 x2 y0 y1 y2 : Int64) (s0 s1 s2 t0 t1 t2 : Int32) (h0 : Heap) (n0 : Nat) (v : Option Value) (h : Heap) (L : List Loc) : Prop := v = none ∧ Fr n0 L ∧ Keep h0 h [v0, v1, m0, m1] ∧ Arv Z h v0 k0 .long (3 : Int32) [(.long (own_u tt 0 (own_g x0 x1 x2 fr) x0)), (.long (own_u tt 1 (own_g x0 x1 x2 fr) x1)), (.long (own_u tt 2 (own_g x0 x1 x2 fr) x2))] (.long (0 : Int64)) ∧ Arv Z h v1 k1 .long (3 : Int32) [(.long (own_u tt 0 (own_g y0 y1 y2 fr) y0)), (.long (own_u tt 1 (own_g y0 y1 y2 fr) y1)), (.long (own_u tt 2 (own_g y0 y1 y2 fr) y2))] (.long (0 : Int64)) ∧ Arv Z h m0 k2 .boolean (3 : Int32) [(.int (own_uI tt 0 (own_gI s0 s1 s2 fr) s0)), (.int (own_uI tt 1 (own_gI s0 s1 s2 fr) s1)), (.int (own_uI tt 2 (own_gI s0 s1 s2 fr) s2))] (.int (0 : Int32)) ∧ Arv Z h m1 k3 .boolean (3 : Int32) [(.int (own_uI tt 0 (own_gI t0 t1 t2 fr) t0)), (.int (own_uI tt 1 (own_gI t0 t1 t2 fr) t1)), (.int (own_uI tt 2 (own_gI t0 t1 t2 fr) t2))] (.int (0 : Int32))
set_option maxRecDepth 65536 in
set_option maxHeartbeats 40000000 in
theorem rm_move (l : Launch) (Z : State) (a0 : Array Value) (hw : ∀ d ∈ tables_1, d.before a0 Z = true) (ws : List Jvm.Cond) (a1 bc bv bn v0 v1 m0 m1 : Addr) (fr tt : Int32) (kc kv kn k0 k1 k2 k3 : ClassId) (x0 x1 x2 y0 y1 y2 : Int64) (s0 s1 s2 t0 t1 t2 : Int32) (h0 : Heap) (n0 : Nat) (Z0 : n0 ≤ h0.size) (F_columns : Fld Z h0 a1 "com/example/latchwork/latchwork/storage/ColumnBatch" "columns" "[I" (.ref bc)) (F_values : Fld Z h0 a1 "com/example/latchwork/latchwork/storage/ColumnBatch" "values" "[[J" (.ref bv)) (F_nulls : Fld Z h0 a1 "com/example/latchwork/latchwork/storage/ColumnBatch" "nulls" "[[Z" (.ref bn)) (vs : List Value) (A_bc : Arv Z h0 bc kc .int (2 : Int32) vs (.int (0 : Int32))) (A_bv : Arv Z h0 bv kv (.array .long) (2 : Int32) [(.ref v0), (.ref v1)] .null) (A_bn : Arv Z h0 bn kn (.array .boolean) (2 : Int32) [(.ref m0), (.ref m1)] .null) (A_v0 : Arv Z h0 v0 k0 .long (3 : Int32) [(.long x0), (.long x1), (.long x2)] (.long (0 : Int64))) (A_m0 : Arv Z h0 m0 k2 .boolean (3 : Int32) [(.int s0), (.int s1), (.int s2)] (.int (0 : Int32))) (A_v1 : Arv Z h0 v1 k1 .long (3 : Int32) [(.long y0), (.long y1), (.long y2)] (.long (0 : Int64))) (A_m1 : Arv Z h0 m1 k3 .boolean (3 : Int32) [(.int t0), (.int t1), (.int t2)] (.int (0 : Int32))) (ne_a1_v0 : a1 ≠ v0) (ne_bc_v0 : bc ≠ v0) (ne_bv_v0 : bv ≠ v0) (ne_bn_v0 : bn ≠ v0) (ne_a1_v1 : a1 ≠ v1) (ne_bc_v1 : bc ≠ v1) (ne_bv_v1 : bv ≠ v1) (ne_bn_v1 : bn ≠ v1) (ne_v0_v1 : v0 ≠ v1) (ne_a1_m0 : a1 ≠ m0) (ne_bc_m0 : bc ≠ m0) (ne_bv_m0 : bv ≠ m0) (ne_bn_m0 : bn ≠ m0) (ne_v0_m0 : v0 ≠ m0) (ne_v1_m0 : v1 ≠ m0) (ne_a1_m1 : a1 ≠ m1) (ne_bc_m1 : bc ≠ m1) (ne_bv_m1 : bv ≠ m1) (ne_bn_m1 : bn ≠ m1) (ne_v0_m1 : v0 ≠ m1) (ne_v1_m1 : v1 ≠ m1) (ne_m0_m1 : m0 ≠ m1) (bfr : own_3 fr) (btt : own_3 tt) (hs0 : nar .boolean s0 = s0) (hs1 : nar .boolean s1 = s1) (hs2 : nar .boolean s2 = s2) (ht0 : nar .boolean t0 = t0) (ht1 : nar .boolean t1 = t1) (ht2 : nar .boolean t2 = t2) (z_v0 : n0 ≤ v0) (z_v1 : n0 ≤ v1) (z_m0 : n0 ≤ m0) (z_m1 : n0 ≤ m1) :
    MetFree l (⟨"com/example/latchwork/latchwork/storage/ColumnBatch", "move", "(II)V"⟩ : MethodName) (head1 (Jvm.Cond.code (⟨"com/example/latchwork/latchwork/storage/ColumnBatch", "move", "(II)V"⟩ : MethodName) prog_105_method_10_code 4 none :: ws) ({ frames := 0, cells := 0, slots := 0, locals := 0 } : Room)) (fun a U => a = #[(.ref a1), (.int fr), (.int tt)] ∧ Z.Warmed39 U.vm ∧ U.heap = h0) (fun _ _ _ _ _ => True) (fun _ U o U' => ∃ v L, o = .returned v ∧ Q_move Z a1 bc bv bn v0 v1 m0 m1 fr tt kc kv kn k0 k1 k2 k3 x0 x1 x2 y0 y1 y2 s0 s1 s2 t0 t1 t2 h0 n0 v U'.heap L ∧ FrameEnd U o U' L ({ frames := 0, cells := 0, slots := 0, locals := 0 } : Room).cells ({ frames := 0, cells := 0, slots := 0, locals := 0 } : Room).slots) := by
  refine MetFree.of_bodySF (plainFor_of_name own_pn_com_example_latchwork_latchwork_storage_ColumnBatch) hisR ?_
  intro p e s m args below meth c s₁ Bd hml0 hP hK
  obtain ⟨rfl, hZ, hh⟩ := hP
  have hx := Bd.exec
  have hby := Bd.bytes
  have hml : c.maxLocals = 4 := hml0
  have hown : s.vm.findClass "com/example/latchwork/latchwork/storage/ColumnBatch" = some m.cls := findClass_of_methodNamed Bd.named
  have hnm := (name_of_methodNamed Bd.named Bd.method).1
  have hlk := Bd.notSynchronized
  obtain ⟨lc, hlc⟩ : ∃ lc : List Loc, lc = [] := ⟨_, rfl⟩
  have X : Stand p l e ({ frames := 0, cells := 0, slots := 0, locals := 0 } : Room) s m #[(.ref a1), (.int fr), (.int tt)] below meth c s₁ lc 0 0 := hlc ▸ Stand.of_body Bd
  have eT : s₁.heap = h0 := by rw [← hh, Bd.state]; rfl
  have N : Fr n0 lc := hlc ▸ Fr.nil n0
  refine own_enter (ef_move m a1 fr tt) ?_
  obtain ⟨T, hT⟩ : ∃ T : State, T = s₁ := ⟨_, rfl⟩
  rw [← hT] at X eT ⊢
  show own_W p e below (own_Post s (Q_move Z a1 bc bv bn v0 v1 m0 m1 fr tt kc kv kn k0 k1 k2 k3 x0 x1 x2 y0 y1 y2 s0 s1 s2 t0 t1 t2 h0 n0) 0 0) T m 0 #[.val (.ref a1), .val (.int fr), .val (.int tt), .unset] []
  have Kp : Keep h0 h0 [v0, v1, m0, m1] := Keep.refl _ _
  refine own_iconst X hx (0 : Int32) (hb hby own_d_prog_105_method_10_code_0) (pc' := 1) rfl rfl ?_
  refine own_istoreN X hx (hb hby own_d_prog_105_method_10_code_1) (pc' := 2) rfl (Ls' := #[.val (.ref a1), .val (.int fr), .val (.int tt), .val (.int (0 : Int32))]) rfl ?_
  refine own_iloadN X hx (hb hby own_d_prog_105_method_10_code_2) (pc' := 3) rfl rfl ?_
  refine own_aloadN X hx (hb hby own_d_prog_105_method_10_code_3) (pc' := 4) rfl rfl rfl ?_
  refine own_getF X hx hZ hown (host := "") (Or.inl (own_w hw 19 rfl)) Via.refl eT F_columns (hb hby own_d_prog_105_method_10_code_4) (pc' := 7) rfl ?_
  intro T X eT
  refine own_arrlen X hx hZ eT A_bc (hb hby own_d_prog_105_method_10_code_7) (pc' := 8) rfl ?_
  refine own_icmpN X hx (hb hby own_d_prog_105_method_10_code_8) (pc' := 11) rfl (show (0 : Int32) < (2 : Int32) from (by decide)) ?_
  refine own_aloadN X hx (hb hby own_d_prog_105_method_10_code_11) (pc' := 12) rfl rfl rfl ?_
  refine own_getF X hx hZ hown (host := "") (Or.inl (own_w hw 26 rfl)) Via.refl eT F_values (hb hby own_d_prog_105_method_10_code_12) (pc' := 15) rfl ?_
  intro T X eT
  refine own_iloadN X hx (hb hby own_d_prog_105_method_10_code_15) (pc' := 16) rfl rfl ?_
  refine own_aaload X hx hZ eT rfl A_bv (v := (.ref v0)) (by decide) rfl (hb hby own_d_prog_105_method_10_code_16) (pc' := 17) rfl ?_
  refine own_iloadN X hx (hb hby own_d_prog_105_method_10_code_17) (pc' := 18) rfl rfl ?_
  refine own_aloadN X hx (hb hby own_d_prog_105_method_10_code_18) (pc' := 19) rfl rfl rfl ?_
  refine own_getF X hx hZ hown (host := "") (Or.inl (own_w hw 26 rfl)) Via.refl eT F_values (hb hby own_d_prog_105_method_10_code_19) (pc' := 22) rfl ?_
  intro T X eT
  refine own_iloadN X hx (hb hby own_d_prog_105_method_10_code_22) (pc' := 23) rfl rfl ?_
  refine own_aaload X hx hZ eT rfl A_bv (v := (.ref v0)) (by decide) rfl (hb hby own_d_prog_105_method_10_code_23) (pc' := 24) rfl ?_
  refine own_iloadN X hx (hb hby own_d_prog_105_method_10_code_24) (pc' := 25) rfl rfl ?_
  refine own_laload X hx hZ eT A_v0 (v := (.long (own_g x0 x1 x2 fr))) (own_3in bfr) (own_at bfr _ _ _ _) (hb hby own_d_prog_105_method_10_code_25) (pc' := 26) rfl ?_
  refine own_lastore X hx hZ eT A_v0 (own_3in btt) tt.toNatClampNeg rfl (own_3lt btt) (hb hby own_d_prog_105_method_10_code_26) (pc' := 27) rfl ?_
  intro T h1 lc X eT Kq A_v0n fN
  have F_columns := F_columns.keep Kq (ninS ne_a1_v0 nin0)
  have F_values := F_values.keep Kq (ninS ne_a1_v0 nin0)
  have F_nulls := F_nulls.keep Kq (ninS ne_a1_v0 nin0)
  have A_bc := A_bc.keep Kq (ninS ne_bc_v0 nin0)
  have A_bv := A_bv.keep Kq (ninS ne_bv_v0 nin0)
  have A_bn := A_bn.keep Kq (ninS ne_bn_v0 nin0)
  have A_m0 := A_m0.keep Kq (ninS (Ne.symm ne_v0_m0) nin0)
  have A_v1 := A_v1.keep Kq (ninS (Ne.symm ne_v0_v1) nin0)
  have A_m1 := A_m1.keep Kq (ninS (Ne.symm ne_v0_m1) nin0)
  have Z0 := Nat.le_trans Z0 Kq.1
  have A_v0 := A_v0n
  have N := fN _ z_v0 N
  have Kp := Kp.trans Kq (allS (P := fun x => x ∈ [v0, v1, m0, m1] ∨ h0.size ≤ x) (Or.inl (List.mem_of_getElem? (i := 0) rfl)) all0)
  rw [own_set btt] at A_v0
  have A_v0 : Arv Z h1 v0 _ .long (3 : Int32) [(.long (own_u tt 0 (own_g x0 x1 x2 fr) x0)), (.long (own_u tt 1 (own_g x0 x1 x2 fr) x1)), (.long (own_u tt 2 (own_g x0 x1 x2 fr) x2))] (.long (0 : Int64)) := A_v0
  refine own_aloadN X hx (hb hby own_d_prog_105_method_10_code_27) (pc' := 28) rfl rfl rfl ?_
  refine own_getF X hx hZ hown (host := "") (Or.inl (own_w hw 31 rfl)) Via.refl eT F_nulls (hb hby own_d_prog_105_method_10_code_28) (pc' := 31) rfl ?_
  intro T X eT
  refine own_iloadN X hx (hb hby own_d_prog_105_method_10_code_31) (pc' := 32) rfl rfl ?_
  refine own_aaload X hx hZ eT rfl A_bn (v := (.ref m0)) (by decide) rfl (hb hby own_d_prog_105_method_10_code_32) (pc' := 33) rfl ?_
  refine own_iloadN X hx (hb hby own_d_prog_105_method_10_code_33) (pc' := 34) rfl rfl ?_
  refine own_aloadN X hx (hb hby own_d_prog_105_method_10_code_34) (pc' := 35) rfl rfl rfl ?_
  refine own_getF X hx hZ hown (host := "") (Or.inl (own_w hw 31 rfl)) Via.refl eT F_nulls (hb hby own_d_prog_105_method_10_code_35) (pc' := 38) rfl ?_
  intro T X eT
  refine own_iloadN X hx (hb hby own_d_prog_105_method_10_code_38) (pc' := 39) rfl rfl ?_
  refine own_aaload X hx hZ eT rfl A_bn (v := (.ref m0)) (by decide) rfl (hb hby own_d_prog_105_method_10_code_39) (pc' := 40) rfl ?_
  refine own_iloadN X hx (hb hby own_d_prog_105_method_10_code_40) (pc' := 41) rfl rfl ?_
  refine own_baloadZ X hx hZ eT A_m0 (v := (.int (own_gI s0 s1 s2 fr))) (own_3in bfr) (own_atI bfr _ _ _ _) (hb hby own_d_prog_105_method_10_code_41) (pc' := 42) rfl ?_
  refine own_bastoreZ X hx hZ eT A_m0 (own_3in btt) tt.toNatClampNeg rfl (own_3lt btt) (hb hby own_d_prog_105_method_10_code_42) (pc' := 43) rfl ?_
  intro T h2 lc X eT Kq A_m0n fN
  have F_columns := F_columns.keep Kq (ninS ne_a1_m0 nin0)
  have F_values := F_values.keep Kq (ninS ne_a1_m0 nin0)
  have F_nulls := F_nulls.keep Kq (ninS ne_a1_m0 nin0)
  have A_bc := A_bc.keep Kq (ninS ne_bc_m0 nin0)
  have A_bv := A_bv.keep Kq (ninS ne_bv_m0 nin0)
  have A_bn := A_bn.keep Kq (ninS ne_bn_m0 nin0)
  have A_v1 := A_v1.keep Kq (ninS ne_v1_m0 nin0)
  have A_m1 := A_m1.keep Kq (ninS (Ne.symm ne_m0_m1) nin0)
  have A_v0 := A_v0.keep Kq (ninS ne_v0_m0 nin0)
  have Z0 := Nat.le_trans Z0 Kq.1
  have A_m0 := A_m0n
  have N := fN _ z_m0 N
  have Kp := Kp.trans Kq (allS (P := fun x => x ∈ [v0, v1, m0, m1] ∨ h0.size ≤ x) (Or.inl (List.mem_of_getElem? (i := 2) rfl)) all0)
  rw [own_nb hs0 hs1 hs2, own_setI btt] at A_m0
  have A_m0 : Arv Z h2 m0 _ .boolean (3 : Int32) [(.int (own_uI tt 0 (own_gI s0 s1 s2 fr) s0)), (.int (own_uI tt 1 (own_gI s0 s1 s2 fr) s1)), (.int (own_uI tt 2 (own_gI s0 s1 s2 fr) s2))] (.int (0 : Int32)) := A_m0
  refine own_iinc X hx (1 : Int32) (hb hby own_d_prog_105_method_10_code_43) (pc' := 46) rfl rfl rfl (Ls' := #[.val (.ref a1), .val (.int fr), .val (.int tt), .val (.int (1 : Int32))]) rfl ?_
  refine own_goto X hx (hb hby own_d_prog_105_method_10_code_46) (by decide) (pc' := 2) rfl ?_
  refine own_iloadN X hx (hb hby own_d_prog_105_method_10_code_2) (pc' := 3) rfl rfl ?_
  refine own_aloadN X hx (hb hby own_d_prog_105_method_10_code_3) (pc' := 4) rfl rfl rfl ?_
  refine own_getF X hx hZ hown (host := "") (Or.inl (own_w hw 19 rfl)) Via.refl eT F_columns (hb hby own_d_prog_105_method_10_code_4) (pc' := 7) rfl ?_
  intro T X eT
  refine own_arrlen X hx hZ eT A_bc (hb hby own_d_prog_105_method_10_code_7) (pc' := 8) rfl ?_
  refine own_icmpN X hx (hb hby own_d_prog_105_method_10_code_8) (pc' := 11) rfl (show (1 : Int32) < (2 : Int32) from (by decide)) ?_
  refine own_aloadN X hx (hb hby own_d_prog_105_method_10_code_11) (pc' := 12) rfl rfl rfl ?_
  refine own_getF X hx hZ hown (host := "") (Or.inl (own_w hw 26 rfl)) Via.refl eT F_values (hb hby own_d_prog_105_method_10_code_12) (pc' := 15) rfl ?_
  intro T X eT
  refine own_iloadN X hx (hb hby own_d_prog_105_method_10_code_15) (pc' := 16) rfl rfl ?_
  refine own_aaload X hx hZ eT rfl A_bv (v := (.ref v1)) (by decide) rfl (hb hby own_d_prog_105_method_10_code_16) (pc' := 17) rfl ?_
  refine own_iloadN X hx (hb hby own_d_prog_105_method_10_code_17) (pc' := 18) rfl rfl ?_
  refine own_aloadN X hx (hb hby own_d_prog_105_method_10_code_18) (pc' := 19) rfl rfl rfl ?_
  refine own_getF X hx hZ hown (host := "") (Or.inl (own_w hw 26 rfl)) Via.refl eT F_values (hb hby own_d_prog_105_method_10_code_19) (pc' := 22) rfl ?_
  intro T X eT
  refine own_iloadN X hx (hb hby own_d_prog_105_method_10_code_22) (pc' := 23) rfl rfl ?_
  refine own_aaload X hx hZ eT rfl A_bv (v := (.ref v1)) (by decide) rfl (hb hby own_d_prog_105_method_10_code_23) (pc' := 24) rfl ?_
  refine own_iloadN X hx (hb hby own_d_prog_105_method_10_code_24) (pc' := 25) rfl rfl ?_
  refine own_laload X hx hZ eT A_v1 (v := (.long (own_g y0 y1 y2 fr))) (own_3in bfr) (own_at bfr _ _ _ _) (hb hby own_d_prog_105_method_10_code_25) (pc' := 26) rfl ?_
  refine own_lastore X hx hZ eT A_v1 (own_3in btt) tt.toNatClampNeg rfl (own_3lt btt) (hb hby own_d_prog_105_method_10_code_26) (pc' := 27) rfl ?_
  intro T h3 lc X eT Kq A_v1n fN
  have F_columns := F_columns.keep Kq (ninS ne_a1_v1 nin0)
  have F_values := F_values.keep Kq (ninS ne_a1_v1 nin0)
  have F_nulls := F_nulls.keep Kq (ninS ne_a1_v1 nin0)
  have A_bc := A_bc.keep Kq (ninS ne_bc_v1 nin0)
  have A_bv := A_bv.keep Kq (ninS ne_bv_v1 nin0)
  have A_bn := A_bn.keep Kq (ninS ne_bn_v1 nin0)
  have A_m1 := A_m1.keep Kq (ninS (Ne.symm ne_v1_m1) nin0)
  have A_v0 := A_v0.keep Kq (ninS ne_v0_v1 nin0)
  have A_m0 := A_m0.keep Kq (ninS (Ne.symm ne_v1_m0) nin0)
  have Z0 := Nat.le_trans Z0 Kq.1
  have A_v1 := A_v1n
  have N := fN _ z_v1 N
  have Kp := Kp.trans Kq (allS (P := fun x => x ∈ [v0, v1, m0, m1] ∨ h0.size ≤ x) (Or.inl (List.mem_of_getElem? (i := 1) rfl)) all0)
  rw [own_set btt] at A_v1
  have A_v1 : Arv Z h3 v1 _ .long (3 : Int32) [(.long (own_u tt 0 (own_g y0 y1 y2 fr) y0)), (.long (own_u tt 1 (own_g y0 y1 y2 fr) y1)), (.long (own_u tt 2 (own_g y0 y1 y2 fr) y2))] (.long (0 : Int64)) := A_v1
  refine own_aloadN X hx (hb hby own_d_prog_105_method_10_code_27) (pc' := 28) rfl rfl rfl ?_
  refine own_getF X hx hZ hown (host := "") (Or.inl (own_w hw 31 rfl)) Via.refl eT F_nulls (hb hby own_d_prog_105_method_10_code_28) (pc' := 31) rfl ?_
  intro T X eT
  refine own_iloadN X hx (hb hby own_d_prog_105_method_10_code_31) (pc' := 32) rfl rfl ?_
  refine own_aaload X hx hZ eT rfl A_bn (v := (.ref m1)) (by decide) rfl (hb hby own_d_prog_105_method_10_code_32) (pc' := 33) rfl ?_
  refine own_iloadN X hx (hb hby own_d_prog_105_method_10_code_33) (pc' := 34) rfl rfl ?_
  refine own_aloadN X hx (hb hby own_d_prog_105_method_10_code_34) (pc' := 35) rfl rfl rfl ?_
  refine own_getF X hx hZ hown (host := "") (Or.inl (own_w hw 31 rfl)) Via.refl eT F_nulls (hb hby own_d_prog_105_method_10_code_35) (pc' := 38) rfl ?_
  intro T X eT
  refine own_iloadN X hx (hb hby own_d_prog_105_method_10_code_38) (pc' := 39) rfl rfl ?_
  refine own_aaload X hx hZ eT rfl A_bn (v := (.ref m1)) (by decide) rfl (hb hby own_d_prog_105_method_10_code_39) (pc' := 40) rfl ?_
  refine own_iloadN X hx (hb hby own_d_prog_105_method_10_code_40) (pc' := 41) rfl rfl ?_
  refine own_baloadZ X hx hZ eT A_m1 (v := (.int (own_gI t0 t1 t2 fr))) (own_3in bfr) (own_atI bfr _ _ _ _) (hb hby own_d_prog_105_method_10_code_41) (pc' := 42) rfl ?_
  refine own_bastoreZ X hx hZ eT A_m1 (own_3in btt) tt.toNatClampNeg rfl (own_3lt btt) (hb hby own_d_prog_105_method_10_code_42) (pc' := 43) rfl ?_
  intro T h4 lc X eT Kq A_m1n fN
  have F_columns := F_columns.keep Kq (ninS ne_a1_m1 nin0)
  have F_values := F_values.keep Kq (ninS ne_a1_m1 nin0)
  have F_nulls := F_nulls.keep Kq (ninS ne_a1_m1 nin0)
  have A_bc := A_bc.keep Kq (ninS ne_bc_m1 nin0)
  have A_bv := A_bv.keep Kq (ninS ne_bv_m1 nin0)
  have A_bn := A_bn.keep Kq (ninS ne_bn_m1 nin0)
  have A_v0 := A_v0.keep Kq (ninS ne_v0_m1 nin0)
  have A_m0 := A_m0.keep Kq (ninS ne_m0_m1 nin0)
  have A_v1 := A_v1.keep Kq (ninS ne_v1_m1 nin0)
  have Z0 := Nat.le_trans Z0 Kq.1
  have A_m1 := A_m1n
  have N := fN _ z_m1 N
  have Kp := Kp.trans Kq (allS (P := fun x => x ∈ [v0, v1, m0, m1] ∨ h0.size ≤ x) (Or.inl (List.mem_of_getElem? (i := 3) rfl)) all0)
  rw [own_nb ht0 ht1 ht2, own_setI btt] at A_m1
  have A_m1 : Arv Z h4 m1 _ .boolean (3 : Int32) [(.int (own_uI tt 0 (own_gI t0 t1 t2 fr) t0)), (.int (own_uI tt 1 (own_gI t0 t1 t2 fr) t1)), (.int (own_uI tt 2 (own_gI t0 t1 t2 fr) t2))] (.int (0 : Int32)) := A_m1
  refine own_iinc X hx (1 : Int32) (hb hby own_d_prog_105_method_10_code_43) (pc' := 46) rfl rfl rfl (Ls' := #[.val (.ref a1), .val (.int fr), .val (.int tt), .val (.int (2 : Int32))]) rfl ?_
  refine own_goto X hx (hb hby own_d_prog_105_method_10_code_46) (by decide) (pc' := 2) rfl ?_
  refine own_iloadN X hx (hb hby own_d_prog_105_method_10_code_2) (pc' := 3) rfl rfl ?_
  refine own_aloadN X hx (hb hby own_d_prog_105_method_10_code_3) (pc' := 4) rfl rfl rfl ?_
  refine own_getF X hx hZ hown (host := "") (Or.inl (own_w hw 19 rfl)) Via.refl eT F_columns (hb hby own_d_prog_105_method_10_code_4) (pc' := 7) rfl ?_
  intro T X eT
  refine own_arrlen X hx hZ eT A_bc (hb hby own_d_prog_105_method_10_code_7) (pc' := 8) rfl ?_
  refine own_icmpY X hx (hb hby own_d_prog_105_method_10_code_8) (by decide) (pc' := 49) rfl (show ¬ ((2 : Int32) < (2 : Int32)) from (by decide)) ?_
  refine own_ret0 X hx hlk Bd.returns (hb hby own_d_prog_105_method_10_code_49) (by decide) (by decide) ?_
  rw [eT]
  exact ⟨rfl, N, Kp, A_v0, A_v1, A_m0, A_m1⟩
theorem own_d_method_3_code_0 : decode method_3_code 0 = .ok (.iload_n 2, 1) := by decide +kernel
theorem own_d_method_3_code_1 : decode method_3_code 1 = .ok (.ifCond .ne 8, 3) := by decide +kernel
theorem own_d_method_3_code_4 : decode method_3_code 4 = .ok (.lload 4, 2) := by decide +kernel
theorem own_d_method_3_code_6 : decode method_3_code 6 = .ok (.goto 15, 3) := by decide +kernel
theorem own_d_method_3_code_21 : decode method_3_code 21 = .ok (.lstore 13, 2) := by decide +kernel
theorem own_d_method_3_code_23 : decode method_3_code 23 = .ok (.iload_n 2, 1) := by decide +kernel
theorem own_d_method_3_code_24 : decode method_3_code 24 = .ok (.ifCond .ne 8, 3) := by decide +kernel
theorem own_d_method_3_code_27 : decode method_3_code 27 = .ok (.iload 10, 2) := by decide +kernel
theorem own_d_method_3_code_29 : decode method_3_code 29 = .ok (.goto 15, 3) := by decide +kernel
theorem own_d_method_3_code_44 : decode method_3_code 44 = .ok (.istore 15, 2) := by decide +kernel
theorem own_d_method_3_code_46 : decode method_3_code 46 = .ok (.iload_n 3, 1) := by decide +kernel
theorem own_d_method_3_code_47 : decode method_3_code 47 = .ok (.ifCond .ne 8, 3) := by decide +kernel
theorem own_d_method_3_code_50 : decode method_3_code 50 = .ok (.lload 13, 2) := by decide +kernel
theorem own_d_method_3_code_52 : decode method_3_code 52 = .ok (.goto 5, 3) := by decide +kernel
theorem own_d_method_3_code_57 : decode method_3_code 57 = .ok (.lstore 16, 2) := by decide +kernel
theorem own_d_method_3_code_59 : decode method_3_code 59 = .ok (.iload_n 3, 1) := by decide +kernel
theorem own_d_method_3_code_60 : decode method_3_code 60 = .ok (.iconst 1, 1) := by decide +kernel
theorem own_d_method_3_code_61 : decode method_3_code 61 = .ok (.if_icmp .ne 8, 3) := by decide +kernel
theorem own_d_method_3_code_69 : decode method_3_code 69 = .ok (.lload 6, 2) := by decide +kernel
theorem own_d_method_3_code_71 : decode method_3_code 71 = .ok (.lstore 18, 2) := by decide +kernel
theorem own_d_method_3_code_73 : decode method_3_code 73 = .ok (.iload_n 3, 1) := by decide +kernel
theorem own_d_method_3_code_74 : decode method_3_code 74 = .ok (.iconst 2, 1) := by decide +kernel
theorem own_d_method_3_code_75 : decode method_3_code 75 = .ok (.if_icmp .ne 8, 3) := by decide +kernel
theorem own_d_method_3_code_83 : decode method_3_code 83 = .ok (.lload 8, 2) := by decide +kernel
theorem own_d_method_3_code_85 : decode method_3_code 85 = .ok (.lstore 20, 2) := by decide +kernel
theorem own_d_method_3_code_87 : decode method_3_code 87 = .ok (.iload_n 3, 1) := by decide +kernel
theorem own_d_method_3_code_88 : decode method_3_code 88 = .ok (.ifCond .ne 8, 3) := by decide +kernel
theorem own_d_method_3_code_91 : decode method_3_code 91 = .ok (.iload 15, 2) := by decide +kernel
theorem own_d_method_3_code_93 : decode method_3_code 93 = .ok (.goto 5, 3) := by decide +kernel
theorem own_d_method_3_code_98 : decode method_3_code 98 = .ok (.istore 22, 2) := by decide +kernel
theorem own_d_method_3_code_100 : decode method_3_code 100 = .ok (.iload_n 3, 1) := by decide +kernel
theorem own_d_method_3_code_101 : decode method_3_code 101 = .ok (.iconst 1, 1) := by decide +kernel
theorem own_d_method_3_code_102 : decode method_3_code 102 = .ok (.if_icmp .ne 8, 3) := by decide +kernel
theorem own_d_method_3_code_110 : decode method_3_code 110 = .ok (.iload 11, 2) := by decide +kernel
theorem own_d_method_3_code_112 : decode method_3_code 112 = .ok (.istore 23, 2) := by decide +kernel
theorem own_d_method_3_code_114 : decode method_3_code 114 = .ok (.iload_n 3, 1) := by decide +kernel
theorem own_d_method_3_code_115 : decode method_3_code 115 = .ok (.iconst 2, 1) := by decide +kernel
theorem own_d_method_3_code_116 : decode method_3_code 116 = .ok (.if_icmp .ne 8, 3) := by decide +kernel
theorem own_d_method_3_code_124 : decode method_3_code 124 = .ok (.iload 12, 2) := by decide +kernel
theorem own_d_method_3_code_126 : decode method_3_code 126 = .ok (.istore 24, 2) := by decide +kernel
theorem own_d_method_3_code_128 : decode method_3_code 128 = .ok (.aload_n 0, 1) := by decide +kernel
theorem own_d_method_3_code_129 : decode method_3_code 129 = .ok (.arraylength, 1) := by decide +kernel
theorem own_d_method_3_code_130 : decode method_3_code 130 = .ok (.iconst 3, 1) := by decide +kernel
theorem own_d_method_3_code_131 : decode method_3_code 131 = .ok (.if_icmp .ne 64, 3) := by decide +kernel
theorem own_d_method_3_code_134 : decode method_3_code 134 = .ok (.aload_n 1, 1) := by decide +kernel
theorem own_d_method_3_code_135 : decode method_3_code 135 = .ok (.arraylength, 1) := by decide +kernel
theorem own_d_method_3_code_136 : decode method_3_code 136 = .ok (.iconst 3, 1) := by decide +kernel
theorem own_d_method_3_code_137 : decode method_3_code 137 = .ok (.if_icmp .ne 58, 3) := by decide +kernel
theorem own_d_method_3_code_140 : decode method_3_code 140 = .ok (.aload_n 0, 1) := by decide +kernel
theorem own_d_method_3_code_141 : decode method_3_code 141 = .ok (.iconst 0, 1) := by decide +kernel
theorem own_d_method_3_code_142 : decode method_3_code 142 = .ok (.laload, 1) := by decide +kernel
theorem own_d_method_3_code_143 : decode method_3_code 143 = .ok (.lload 16, 2) := by decide +kernel
theorem own_d_method_3_code_145 : decode method_3_code 145 = .ok (.lcmp, 1) := by decide +kernel
theorem own_d_method_3_code_146 : decode method_3_code 146 = .ok (.ifCond .ne 49, 3) := by decide +kernel
theorem own_d_method_3_code_149 : decode method_3_code 149 = .ok (.aload_n 0, 1) := by decide +kernel
theorem own_d_method_3_code_150 : decode method_3_code 150 = .ok (.iconst 1, 1) := by decide +kernel
theorem own_d_method_3_code_151 : decode method_3_code 151 = .ok (.laload, 1) := by decide +kernel
theorem own_d_method_3_code_152 : decode method_3_code 152 = .ok (.lload 18, 2) := by decide +kernel
theorem own_d_method_3_code_154 : decode method_3_code 154 = .ok (.lcmp, 1) := by decide +kernel
theorem own_d_method_3_code_155 : decode method_3_code 155 = .ok (.ifCond .ne 40, 3) := by decide +kernel
theorem own_d_method_3_code_158 : decode method_3_code 158 = .ok (.aload_n 0, 1) := by decide +kernel
theorem own_d_method_3_code_159 : decode method_3_code 159 = .ok (.iconst 2, 1) := by decide +kernel
theorem own_d_method_3_code_160 : decode method_3_code 160 = .ok (.laload, 1) := by decide +kernel
theorem own_d_method_3_code_161 : decode method_3_code 161 = .ok (.lload 20, 2) := by decide +kernel
theorem own_d_method_3_code_163 : decode method_3_code 163 = .ok (.lcmp, 1) := by decide +kernel
theorem own_d_method_3_code_164 : decode method_3_code 164 = .ok (.ifCond .ne 31, 3) := by decide +kernel
theorem own_d_method_3_code_167 : decode method_3_code 167 = .ok (.aload_n 1, 1) := by decide +kernel
theorem own_d_method_3_code_168 : decode method_3_code 168 = .ok (.iconst 0, 1) := by decide +kernel
theorem own_d_method_3_code_169 : decode method_3_code 169 = .ok (.baload, 1) := by decide +kernel
theorem own_d_method_3_code_170 : decode method_3_code 170 = .ok (.iload 22, 2) := by decide +kernel
theorem own_d_method_3_code_172 : decode method_3_code 172 = .ok (.if_icmp .ne 23, 3) := by decide +kernel
theorem own_d_method_3_code_175 : decode method_3_code 175 = .ok (.aload_n 1, 1) := by decide +kernel
theorem own_d_method_3_code_176 : decode method_3_code 176 = .ok (.iconst 1, 1) := by decide +kernel
theorem own_d_method_3_code_177 : decode method_3_code 177 = .ok (.baload, 1) := by decide +kernel
theorem own_d_method_3_code_178 : decode method_3_code 178 = .ok (.iload 23, 2) := by decide +kernel
theorem own_d_method_3_code_180 : decode method_3_code 180 = .ok (.if_icmp .ne 15, 3) := by decide +kernel
theorem own_d_method_3_code_183 : decode method_3_code 183 = .ok (.aload_n 1, 1) := by decide +kernel
theorem own_d_method_3_code_184 : decode method_3_code 184 = .ok (.iconst 2, 1) := by decide +kernel
theorem own_d_method_3_code_185 : decode method_3_code 185 = .ok (.baload, 1) := by decide +kernel
theorem own_d_method_3_code_186 : decode method_3_code 186 = .ok (.iload 24, 2) := by decide +kernel
theorem own_d_method_3_code_188 : decode method_3_code 188 = .ok (.if_icmp .ne 7, 3) := by decide +kernel
theorem own_d_method_3_code_191 : decode method_3_code 191 = .ok (.iconst 1, 1) := by decide +kernel
theorem own_d_method_3_code_192 : decode method_3_code 192 = .ok (.goto 4, 3) := by decide +kernel
theorem own_d_method_3_code_196 : decode method_3_code 196 = .ok (.ireturn, 1) := by decide +kernel
theorem own_d_method_3_code_55 : decode method_3_code 55 = .ok (.lload 4, 2) := by decide +kernel
theorem own_d_method_3_code_64 : decode method_3_code 64 = .ok (.lload 13, 2) := by decide +kernel
theorem own_d_method_3_code_66 : decode method_3_code 66 = .ok (.goto 5, 3) := by decide +kernel
theorem own_d_method_3_code_96 : decode method_3_code 96 = .ok (.iload 10, 2) := by decide +kernel
theorem own_d_method_3_code_105 : decode method_3_code 105 = .ok (.iload 15, 2) := by decide +kernel
theorem own_d_method_3_code_107 : decode method_3_code 107 = .ok (.goto 5, 3) := by decide +kernel
theorem own_d_method_3_code_78 : decode method_3_code 78 = .ok (.lload 13, 2) := by decide +kernel
theorem own_d_method_3_code_80 : decode method_3_code 80 = .ok (.goto 5, 3) := by decide +kernel
theorem own_d_method_3_code_119 : decode method_3_code 119 = .ok (.iload 15, 2) := by decide +kernel
theorem own_d_method_3_code_121 : decode method_3_code 121 = .ok (.goto 5, 3) := by decide +kernel
theorem own_d_method_3_code_9 : decode method_3_code 9 = .ok (.iload_n 2, 1) := by decide +kernel
theorem own_d_method_3_code_10 : decode method_3_code 10 = .ok (.iconst 1, 1) := by decide +kernel
theorem own_d_method_3_code_11 : decode method_3_code 11 = .ok (.if_icmp .ne 8, 3) := by decide +kernel
theorem own_d_method_3_code_14 : decode method_3_code 14 = .ok (.lload 6, 2) := by decide +kernel
theorem own_d_method_3_code_16 : decode method_3_code 16 = .ok (.goto 5, 3) := by decide +kernel
theorem own_d_method_3_code_32 : decode method_3_code 32 = .ok (.iload_n 2, 1) := by decide +kernel
theorem own_d_method_3_code_33 : decode method_3_code 33 = .ok (.iconst 1, 1) := by decide +kernel
theorem own_d_method_3_code_34 : decode method_3_code 34 = .ok (.if_icmp .ne 8, 3) := by decide +kernel
theorem own_d_method_3_code_37 : decode method_3_code 37 = .ok (.iload 11, 2) := by decide +kernel
theorem own_d_method_3_code_39 : decode method_3_code 39 = .ok (.goto 5, 3) := by decide +kernel
theorem own_d_method_3_code_19 : decode method_3_code 19 = .ok (.lload 8, 2) := by decide +kernel
theorem own_d_method_3_code_42 : decode method_3_code 42 = .ok (.iload 12, 2) := by decide +kernel
theorem own_pn_com_example_latchwork_latchwork_storage_ColumnBatchMovePinLaw : plainName "com/example/latchwork/latchwork/storage/ColumnBatchMovePinLaw" = true := by first | (simp [plainName, overriddenIn]; done) | decide +kernel
theorem ef_col (m : MethodId) (x0 : Addr) (x1 : Addr) (x2 : Int32) (x3 : Int32) (x4 : Int64) (x5 : Int64) (x6 : Int64) (x7 : Int32) (x8 : Int32) (x9 : Int32) : entryFrame m #[(.ref x0), (.ref x1), (.int x2), (.int x3), (.long x4), (.long x5), (.long x6), (.int x7), (.int x8), (.int x9)] 25 = mkF m 0 #[.val (.ref x0), .val (.ref x1), .val (.int x2), .val (.int x3), .val (.long x4), .second, .val (.long x5), .second, .val (.long x6), .second, .val (.int x7), .val (.int x8), .val (.int x9), .unset, .unset, .unset, .unset, .unset, .unset, .unset, .unset, .unset, .unset, .unset, .unset] [] := by first | (simp [entryFrame, mkF, argsToLocals, Value.category]; done) | rfl
def Q_col (Z : State) (v0 m0 : Addr) (fr tt : Int32) (x0 x1 x2 : Int64) (s0 s1 s2 : Int32) (h0 : Heap) (n0 : Nat) (v : Option Value) (h : Heap) (L : List Loc) : Prop := v = some (.int (1 : Int32)) ∧ Fr n0 L ∧ h = h0
set_option maxRecDepth 65536 in
set_option maxHeartbeats 40000000 in
theorem rm_col (l : Launch) (Z : State) (a0 : Array Value) (hw : ∀ d ∈ tables_1, d.before a0 Z = true) (ws : List Jvm.Cond) (v0 m0 : Addr) (fr tt : Int32) (x0 x1 x2 : Int64) (s0 s1 s2 : Int32) (h0 : Heap) (n0 : Nat) (Z0 : n0 ≤ h0.size) (k0 k1 : ClassId) (A_v0 : Arv Z h0 v0 k0 .long (3 : Int32) [(.long (own_u tt 0 (own_g x0 x1 x2 fr) x0)), (.long (own_u tt 1 (own_g x0 x1 x2 fr) x1)), (.long (own_u tt 2 (own_g x0 x1 x2 fr) x2))] (.long (0 : Int64))) (A_m0 : Arv Z h0 m0 k1 .boolean (3 : Int32) [(.int (own_uI tt 0 (own_gI s0 s1 s2 fr) s0)), (.int (own_uI tt 1 (own_gI s0 s1 s2 fr) s1)), (.int (own_uI tt 2 (own_gI s0 s1 s2 fr) s2))] (.int (0 : Int32))) (bfr : own_3 fr) (btt : own_3 tt) :
    MetFree l (⟨"com/example/latchwork/latchwork/storage/ColumnBatchMovePinLaw", "column", "([J[ZIIJJJZZZ)Z"⟩ : MethodName) (head1 (Jvm.Cond.code (⟨"com/example/latchwork/latchwork/storage/ColumnBatchMovePinLaw", "column", "([J[ZIIJJJZZZ)Z"⟩ : MethodName) method_3_code 25 (some .boolean) :: ws) ({ frames := 0, cells := 0, slots := 0, locals := 0 } : Room)) (fun a U => a = #[(.ref v0), (.ref m0), (.int fr), (.int tt), (.long x0), (.long x1), (.long x2), (.int s0), (.int s1), (.int s2)] ∧ Z.Warmed39 U.vm ∧ U.heap = h0) (fun _ _ _ _ _ => True) (fun _ U o U' => ∃ v L, o = .returned v ∧ Q_col Z v0 m0 fr tt x0 x1 x2 s0 s1 s2 h0 n0 v U'.heap L ∧ FrameEnd U o U' L ({ frames := 0, cells := 0, slots := 0, locals := 0 } : Room).cells ({ frames := 0, cells := 0, slots := 0, locals := 0 } : Room).slots) := by
  refine MetFree.of_bodySF (plainFor_of_name own_pn_com_example_latchwork_latchwork_storage_ColumnBatchMovePinLaw) hisR ?_
  intro p e s m args below meth c s₁ Bd hml0 hP hK
  obtain ⟨rfl, hZ, hh⟩ := hP
  have hx := Bd.exec
  have hby := Bd.bytes
  have hml : c.maxLocals = 25 := hml0
  have hown : s.vm.findClass "com/example/latchwork/latchwork/storage/ColumnBatchMovePinLaw" = some m.cls := findClass_of_methodNamed Bd.named
  have hnm := (name_of_methodNamed Bd.named Bd.method).1
  have hlk := Bd.notSynchronized
  obtain ⟨lc, hlc⟩ : ∃ lc : List Loc, lc = [] := ⟨_, rfl⟩
  have X : Stand p l e ({ frames := 0, cells := 0, slots := 0, locals := 0 } : Room) s m #[(.ref v0), (.ref m0), (.int fr), (.int tt), (.long x0), (.long x1), (.long x2), (.int s0), (.int s1), (.int s2)] below meth c s₁ lc 0 0 := hlc ▸ Stand.of_body Bd
  have eT : s₁.heap = h0 := by rw [← hh, Bd.state]; rfl
  have N : Fr n0 lc := hlc ▸ Fr.nil n0
  refine own_enter (ef_col m v0 m0 fr tt x0 x1 x2 s0 s1 s2) ?_
  obtain ⟨T, hT⟩ : ∃ T : State, T = s₁ := ⟨_, rfl⟩
  rw [← hT] at X eT ⊢
  show own_W p e below (own_Post s (Q_col Z v0 m0 fr tt x0 x1 x2 s0 s1 s2 h0 n0) 0 0) T m 0 #[.val (.ref v0), .val (.ref m0), .val (.int fr), .val (.int tt), .val (.long x0), .second, .val (.long x1), .second, .val (.long x2), .second, .val (.int s0), .val (.int s1), .val (.int s2), .unset, .unset, .unset, .unset, .unset, .unset, .unset, .unset, .unset, .unset, .unset, .unset] []
  rcases bfr with rfl | rfl | rfl <;> rcases btt with rfl | rfl | rfl
  · show own_W p e below (own_Post s (Q_col Z v0 m0 (0 : Int32) (0 : Int32) x0 x1 x2 s0 s1 s2 h0 n0) 0 0) T m 0 #[.val (.ref v0), .val (.ref m0), .val (.int (0 : Int32)), .val (.int (0 : Int32)), .val (.long x0), .second, .val (.long x1), .second, .val (.long x2), .second, .val (.int s0), .val (.int s1), .val (.int s2), .unset, .unset, .unset, .unset, .unset, .unset, .unset, .unset, .unset, .unset, .unset, .unset] []
    refine own_iloadN X hx (hb hby own_d_method_3_code_0) (pc' := 1) rfl rfl ?_
    refine own_ifN X hx (hb hby own_d_method_3_code_1) (pc' := 4) rfl (show (0 : Int32) = (0 : Int32) from (by decide)) ?_
    refine own_lload X hx (hb hby own_d_method_3_code_4) (pc' := 6) rfl rfl ?_
    refine own_goto X hx (hb hby own_d_method_3_code_6) (by decide) (pc' := 21) rfl ?_
    refine own_lstore X hx (hb hby own_d_method_3_code_21) (pc' := 23) rfl (Ls' := #[.val (.ref v0), .val (.ref m0), .val (.int (0 : Int32)), .val (.int (0 : Int32)), .val (.long x0), .second, .val (.long x1), .second, .val (.long x2), .second, .val (.int s0), .val (.int s1), .val (.int s2), .val (.long x0), .second, .unset, .unset, .unset, .unset, .unset, .unset, .unset, .unset, .unset, .unset]) rfl ?_
    refine own_iloadN X hx (hb hby own_d_method_3_code_23) (pc' := 24) rfl rfl ?_
    refine own_ifN X hx (hb hby own_d_method_3_code_24) (pc' := 27) rfl (show (0 : Int32) = (0 : Int32) from (by decide)) ?_
    refine own_iload X hx (hb hby own_d_method_3_code_27) (pc' := 29) rfl rfl ?_
    refine own_goto X hx (hb hby own_d_method_3_code_29) (by decide) (pc' := 44) rfl ?_
    refine own_istore X hx (hb hby own_d_method_3_code_44) (pc' := 46) rfl (Ls' := #[.val (.ref v0), .val (.ref m0), .val (.int (0 : Int32)), .val (.int (0 : Int32)), .val (.long x0), .second, .val (.long x1), .second, .val (.long x2), .second, .val (.int s0), .val (.int s1), .val (.int s2), .val (.long x0), .second, .val (.int s0), .unset, .unset, .unset, .unset, .unset, .unset, .unset, .unset, .unset]) rfl ?_
    refine own_iloadN X hx (hb hby own_d_method_3_code_46) (pc' := 47) rfl rfl ?_
    refine own_ifN X hx (hb hby own_d_method_3_code_47) (pc' := 50) rfl (show (0 : Int32) = (0 : Int32) from (by decide)) ?_
    refine own_lload X hx (hb hby own_d_method_3_code_50) (pc' := 52) rfl rfl ?_
    refine own_goto X hx (hb hby own_d_method_3_code_52) (by decide) (pc' := 57) rfl ?_
    refine own_lstore X hx (hb hby own_d_method_3_code_57) (pc' := 59) rfl (Ls' := #[.val (.ref v0), .val (.ref m0), .val (.int (0 : Int32)), .val (.int (0 : Int32)), .val (.long x0), .second, .val (.long x1), .second, .val (.long x2), .second, .val (.int s0), .val (.int s1), .val (.int s2), .val (.long x0), .second, .val (.int s0), .val (.long x0), .second, .unset, .unset, .unset, .unset, .unset, .unset, .unset]) rfl ?_
    refine own_iloadN X hx (hb hby own_d_method_3_code_59) (pc' := 60) rfl rfl ?_
    refine own_iconst X hx (1 : Int32) (hb hby own_d_method_3_code_60) (pc' := 61) rfl rfl ?_
    refine own_icmpY X hx (hb hby own_d_method_3_code_61) (by decide) (pc' := 69) rfl (show ¬ ((0 : Int32) = (1 : Int32)) from (by decide)) ?_
    refine own_lload X hx (hb hby own_d_method_3_code_69) (pc' := 71) rfl rfl ?_
    refine own_lstore X hx (hb hby own_d_method_3_code_71) (pc' := 73) rfl (Ls' := #[.val (.ref v0), .val (.ref m0), .val (.int (0 : Int32)), .val (.int (0 : Int32)), .val (.long x0), .second, .val (.long x1), .second, .val (.long x2), .second, .val (.int s0), .val (.int s1), .val (.int s2), .val (.long x0), .second, .val (.int s0), .val (.long x0), .second, .val (.long x1), .second, .unset, .unset, .unset, .unset, .unset]) rfl ?_
    refine own_iloadN X hx (hb hby own_d_method_3_code_73) (pc' := 74) rfl rfl ?_
    refine own_iconst X hx (2 : Int32) (hb hby own_d_method_3_code_74) (pc' := 75) rfl rfl ?_
    refine own_icmpY X hx (hb hby own_d_method_3_code_75) (by decide) (pc' := 83) rfl (show ¬ ((0 : Int32) = (2 : Int32)) from (by decide)) ?_
    refine own_lload X hx (hb hby own_d_method_3_code_83) (pc' := 85) rfl rfl ?_
    refine own_lstore X hx (hb hby own_d_method_3_code_85) (pc' := 87) rfl (Ls' := #[.val (.ref v0), .val (.ref m0), .val (.int (0 : Int32)), .val (.int (0 : Int32)), .val (.long x0), .second, .val (.long x1), .second, .val (.long x2), .second, .val (.int s0), .val (.int s1), .val (.int s2), .val (.long x0), .second, .val (.int s0), .val (.long x0), .second, .val (.long x1), .second, .val (.long x2), .second, .unset, .unset, .unset]) rfl ?_
    refine own_iloadN X hx (hb hby own_d_method_3_code_87) (pc' := 88) rfl rfl ?_
    refine own_ifN X hx (hb hby own_d_method_3_code_88) (pc' := 91) rfl (show (0 : Int32) = (0 : Int32) from (by decide)) ?_
    refine own_iload X hx (hb hby own_d_method_3_code_91) (pc' := 93) rfl rfl ?_
    refine own_goto X hx (hb hby own_d_method_3_code_93) (by decide) (pc' := 98) rfl ?_
    refine own_istore X hx (hb hby own_d_method_3_code_98) (pc' := 100) rfl (Ls' := #[.val (.ref v0), .val (.ref m0), .val (.int (0 : Int32)), .val (.int (0 : Int32)), .val (.long x0), .second, .val (.long x1), .second, .val (.long x2), .second, .val (.int s0), .val (.int s1), .val (.int s2), .val (.long x0), .second, .val (.int s0), .val (.long x0), .second, .val (.long x1), .second, .val (.long x2), .second, .val (.int s0), .unset, .unset]) rfl ?_
    refine own_iloadN X hx (hb hby own_d_method_3_code_100) (pc' := 101) rfl rfl ?_
    refine own_iconst X hx (1 : Int32) (hb hby own_d_method_3_code_101) (pc' := 102) rfl rfl ?_
    refine own_icmpY X hx (hb hby own_d_method_3_code_102) (by decide) (pc' := 110) rfl (show ¬ ((0 : Int32) = (1 : Int32)) from (by decide)) ?_
    refine own_iload X hx (hb hby own_d_method_3_code_110) (pc' := 112) rfl rfl ?_
    refine own_istore X hx (hb hby own_d_method_3_code_112) (pc' := 114) rfl (Ls' := #[.val (.ref v0), .val (.ref m0), .val (.int (0 : Int32)), .val (.int (0 : Int32)), .val (.long x0), .second, .val (.long x1), .second, .val (.long x2), .second, .val (.int s0), .val (.int s1), .val (.int s2), .val (.long x0), .second, .val (.int s0), .val (.long x0), .second, .val (.long x1), .second, .val (.long x2), .second, .val (.int s0), .val (.int s1), .unset]) rfl ?_
    refine own_iloadN X hx (hb hby own_d_method_3_code_114) (pc' := 115) rfl rfl ?_
    refine own_iconst X hx (2 : Int32) (hb hby own_d_method_3_code_115) (pc' := 116) rfl rfl ?_
    refine own_icmpY X hx (hb hby own_d_method_3_code_116) (by decide) (pc' := 124) rfl (show ¬ ((0 : Int32) = (2 : Int32)) from (by decide)) ?_
    refine own_iload X hx (hb hby own_d_method_3_code_124) (pc' := 126) rfl rfl ?_
    refine own_istore X hx (hb hby own_d_method_3_code_126) (pc' := 128) rfl (Ls' := #[.val (.ref v0), .val (.ref m0), .val (.int (0 : Int32)), .val (.int (0 : Int32)), .val (.long x0), .second, .val (.long x1), .second, .val (.long x2), .second, .val (.int s0), .val (.int s1), .val (.int s2), .val (.long x0), .second, .val (.int s0), .val (.long x0), .second, .val (.long x1), .second, .val (.long x2), .second, .val (.int s0), .val (.int s1), .val (.int s2)]) rfl ?_
    refine own_aloadN X hx (hb hby own_d_method_3_code_128) (pc' := 129) rfl rfl rfl ?_
    refine own_arrlen X hx hZ eT A_v0 (hb hby own_d_method_3_code_129) (pc' := 130) rfl ?_
    refine own_iconst X hx (3 : Int32) (hb hby own_d_method_3_code_130) (pc' := 131) rfl rfl ?_
    refine own_icmpN X hx (hb hby own_d_method_3_code_131) (pc' := 134) rfl (show (3 : Int32) = (3 : Int32) from (by decide)) ?_
    refine own_aloadN X hx (hb hby own_d_method_3_code_134) (pc' := 135) rfl rfl rfl ?_
    refine own_arrlen X hx hZ eT A_m0 (hb hby own_d_method_3_code_135) (pc' := 136) rfl ?_
    refine own_iconst X hx (3 : Int32) (hb hby own_d_method_3_code_136) (pc' := 137) rfl rfl ?_
    refine own_icmpN X hx (hb hby own_d_method_3_code_137) (pc' := 140) rfl (show (3 : Int32) = (3 : Int32) from (by decide)) ?_
    refine own_aloadN X hx (hb hby own_d_method_3_code_140) (pc' := 141) rfl rfl rfl ?_
    refine own_iconst X hx (0 : Int32) (hb hby own_d_method_3_code_141) (pc' := 142) rfl rfl ?_
    refine own_laload X hx hZ eT A_v0 (v := (.long (own_u (0 : Int32) 0 (own_g x0 x1 x2 (0 : Int32)) x0))) (by decide) rfl (hb hby own_d_method_3_code_142) (pc' := 143) rfl ?_
    refine own_lload X hx (hb hby own_d_method_3_code_143) (pc' := 145) rfl rfl ?_
    refine own_lcN X hx (hb hby own_d_method_3_code_145) (hb hby own_d_method_3_code_146) (pc' := 149) rfl (show (own_u (0 : Int32) 0 (own_g x0 x1 x2 (0 : Int32)) x0) = x0 from rfl) ?_
    refine own_aloadN X hx (hb hby own_d_method_3_code_149) (pc' := 150) rfl rfl rfl ?_
    refine own_iconst X hx (1 : Int32) (hb hby own_d_method_3_code_150) (pc' := 151) rfl rfl ?_
    refine own_laload X hx hZ eT A_v0 (v := (.long (own_u (0 : Int32) 1 (own_g x0 x1 x2 (0 : Int32)) x1))) (by decide) rfl (hb hby own_d_method_3_code_151) (pc' := 152) rfl ?_
    refine own_lload X hx (hb hby own_d_method_3_code_152) (pc' := 154) rfl rfl ?_
    refine own_lcN X hx (hb hby own_d_method_3_code_154) (hb hby own_d_method_3_code_155) (pc' := 158) rfl (show (own_u (0 : Int32) 1 (own_g x0 x1 x2 (0 : Int32)) x1) = x1 from rfl) ?_
    refine own_aloadN X hx (hb hby own_d_method_3_code_158) (pc' := 159) rfl rfl rfl ?_
    refine own_iconst X hx (2 : Int32) (hb hby own_d_method_3_code_159) (pc' := 160) rfl rfl ?_
    refine own_laload X hx hZ eT A_v0 (v := (.long (own_u (0 : Int32) 2 (own_g x0 x1 x2 (0 : Int32)) x2))) (by decide) rfl (hb hby own_d_method_3_code_160) (pc' := 161) rfl ?_
    refine own_lload X hx (hb hby own_d_method_3_code_161) (pc' := 163) rfl rfl ?_
    refine own_lcN X hx (hb hby own_d_method_3_code_163) (hb hby own_d_method_3_code_164) (pc' := 167) rfl (show (own_u (0 : Int32) 2 (own_g x0 x1 x2 (0 : Int32)) x2) = x2 from rfl) ?_
    refine own_aloadN X hx (hb hby own_d_method_3_code_167) (pc' := 168) rfl rfl rfl ?_
    refine own_iconst X hx (0 : Int32) (hb hby own_d_method_3_code_168) (pc' := 169) rfl rfl ?_
    refine own_baloadZ X hx hZ eT A_m0 (v := (.int (own_uI (0 : Int32) 0 (own_gI s0 s1 s2 (0 : Int32)) s0))) (by decide) rfl (hb hby own_d_method_3_code_169) (pc' := 170) rfl ?_
    refine own_iload X hx (hb hby own_d_method_3_code_170) (pc' := 172) rfl rfl ?_
    refine own_icmpN X hx (hb hby own_d_method_3_code_172) (pc' := 175) rfl (show (own_uI (0 : Int32) 0 (own_gI s0 s1 s2 (0 : Int32)) s0) = s0 from rfl) ?_
    refine own_aloadN X hx (hb hby own_d_method_3_code_175) (pc' := 176) rfl rfl rfl ?_
    refine own_iconst X hx (1 : Int32) (hb hby own_d_method_3_code_176) (pc' := 177) rfl rfl ?_
    refine own_baloadZ X hx hZ eT A_m0 (v := (.int (own_uI (0 : Int32) 1 (own_gI s0 s1 s2 (0 : Int32)) s1))) (by decide) rfl (hb hby own_d_method_3_code_177) (pc' := 178) rfl ?_
    refine own_iload X hx (hb hby own_d_method_3_code_178) (pc' := 180) rfl rfl ?_
    refine own_icmpN X hx (hb hby own_d_method_3_code_180) (pc' := 183) rfl (show (own_uI (0 : Int32) 1 (own_gI s0 s1 s2 (0 : Int32)) s1) = s1 from rfl) ?_
    refine own_aloadN X hx (hb hby own_d_method_3_code_183) (pc' := 184) rfl rfl rfl ?_
    refine own_iconst X hx (2 : Int32) (hb hby own_d_method_3_code_184) (pc' := 185) rfl rfl ?_
    refine own_baloadZ X hx hZ eT A_m0 (v := (.int (own_uI (0 : Int32) 2 (own_gI s0 s1 s2 (0 : Int32)) s2))) (by decide) rfl (hb hby own_d_method_3_code_185) (pc' := 186) rfl ?_
    refine own_iload X hx (hb hby own_d_method_3_code_186) (pc' := 188) rfl rfl ?_
    refine own_icmpN X hx (hb hby own_d_method_3_code_188) (pc' := 191) rfl (show (own_uI (0 : Int32) 2 (own_gI s0 s1 s2 (0 : Int32)) s2) = s2 from rfl) ?_
    refine own_iconst X hx (1 : Int32) (hb hby own_d_method_3_code_191) (pc' := 192) rfl rfl ?_
    refine own_goto X hx (hb hby own_d_method_3_code_192) (by decide) (pc' := 196) rfl ?_
    refine own_retI X hx hlk (t := .boolean) (w' := (.int (1 : Int32))) Bd.returns (hb hby own_d_method_3_code_196) rfl rfl (by simp) (by decide) (by decide) ?_
    rw [eT]
    exact ⟨rfl, N, rfl⟩
  · show own_W p e below (own_Post s (Q_col Z v0 m0 (0 : Int32) (1 : Int32) x0 x1 x2 s0 s1 s2 h0 n0) 0 0) T m 0 #[.val (.ref v0), .val (.ref m0), .val (.int (0 : Int32)), .val (.int (1 : Int32)), .val (.long x0), .second, .val (.long x1), .second, .val (.long x2), .second, .val (.int s0), .val (.int s1), .val (.int s2), .unset, .unset, .unset, .unset, .unset, .unset, .unset, .unset, .unset, .unset, .unset, .unset] []
    refine own_iloadN X hx (hb hby own_d_method_3_code_0) (pc' := 1) rfl rfl ?_
    refine own_ifN X hx (hb hby own_d_method_3_code_1) (pc' := 4) rfl (show (0 : Int32) = (0 : Int32) from (by decide)) ?_
    refine own_lload X hx (hb hby own_d_method_3_code_4) (pc' := 6) rfl rfl ?_
    refine own_goto X hx (hb hby own_d_method_3_code_6) (by decide) (pc' := 21) rfl ?_
    refine own_lstore X hx (hb hby own_d_method_3_code_21) (pc' := 23) rfl (Ls' := #[.val (.ref v0), .val (.ref m0), .val (.int (0 : Int32)), .val (.int (1 : Int32)), .val (.long x0), .second, .val (.long x1), .second, .val (.long x2), .second, .val (.int s0), .val (.int s1), .val (.int s2), .val (.long x0), .second, .unset, .unset, .unset, .unset, .unset, .unset, .unset, .unset, .unset, .unset]) rfl ?_
    refine own_iloadN X hx (hb hby own_d_method_3_code_23) (pc' := 24) rfl rfl ?_
    refine own_ifN X hx (hb hby own_d_method_3_code_24) (pc' := 27) rfl (show (0 : Int32) = (0 : Int32) from (by decide)) ?_
    refine own_iload X hx (hb hby own_d_method_3_code_27) (pc' := 29) rfl rfl ?_
    refine own_goto X hx (hb hby own_d_method_3_code_29) (by decide) (pc' := 44) rfl ?_
    refine own_istore X hx (hb hby own_d_method_3_code_44) (pc' := 46) rfl (Ls' := #[.val (.ref v0), .val (.ref m0), .val (.int (0 : Int32)), .val (.int (1 : Int32)), .val (.long x0), .second, .val (.long x1), .second, .val (.long x2), .second, .val (.int s0), .val (.int s1), .val (.int s2), .val (.long x0), .second, .val (.int s0), .unset, .unset, .unset, .unset, .unset, .unset, .unset, .unset, .unset]) rfl ?_
    refine own_iloadN X hx (hb hby own_d_method_3_code_46) (pc' := 47) rfl rfl ?_
    refine own_ifY X hx (hb hby own_d_method_3_code_47) (by decide) (pc' := 55) rfl (show ¬ ((1 : Int32) = (0 : Int32)) from (by decide)) ?_
    refine own_lload X hx (hb hby own_d_method_3_code_55) (pc' := 57) rfl rfl ?_
    refine own_lstore X hx (hb hby own_d_method_3_code_57) (pc' := 59) rfl (Ls' := #[.val (.ref v0), .val (.ref m0), .val (.int (0 : Int32)), .val (.int (1 : Int32)), .val (.long x0), .second, .val (.long x1), .second, .val (.long x2), .second, .val (.int s0), .val (.int s1), .val (.int s2), .val (.long x0), .second, .val (.int s0), .val (.long x0), .second, .unset, .unset, .unset, .unset, .unset, .unset, .unset]) rfl ?_
    refine own_iloadN X hx (hb hby own_d_method_3_code_59) (pc' := 60) rfl rfl ?_
    refine own_iconst X hx (1 : Int32) (hb hby own_d_method_3_code_60) (pc' := 61) rfl rfl ?_
    refine own_icmpN X hx (hb hby own_d_method_3_code_61) (pc' := 64) rfl (show (1 : Int32) = (1 : Int32) from (by decide)) ?_
    refine own_lload X hx (hb hby own_d_method_3_code_64) (pc' := 66) rfl rfl ?_
    refine own_goto X hx (hb hby own_d_method_3_code_66) (by decide) (pc' := 71) rfl ?_
    refine own_lstore X hx (hb hby own_d_method_3_code_71) (pc' := 73) rfl (Ls' := #[.val (.ref v0), .val (.ref m0), .val (.int (0 : Int32)), .val (.int (1 : Int32)), .val (.long x0), .second, .val (.long x1), .second, .val (.long x2), .second, .val (.int s0), .val (.int s1), .val (.int s2), .val (.long x0), .second, .val (.int s0), .val (.long x0), .second, .val (.long x0), .second, .unset, .unset, .unset, .unset, .unset]) rfl ?_
    refine own_iloadN X hx (hb hby own_d_method_3_code_73) (pc' := 74) rfl rfl ?_
    refine own_iconst X hx (2 : Int32) (hb hby own_d_method_3_code_74) (pc' := 75) rfl rfl ?_
    refine own_icmpY X hx (hb hby own_d_method_3_code_75) (by decide) (pc' := 83) rfl (show ¬ ((1 : Int32) = (2 : Int32)) from (by decide)) ?_
    refine own_lload X hx (hb hby own_d_method_3_code_83) (pc' := 85) rfl rfl ?_
    refine own_lstore X hx (hb hby own_d_method_3_code_85) (pc' := 87) rfl (Ls' := #[.val (.ref v0), .val (.ref m0), .val (.int (0 : Int32)), .val (.int (1 : Int32)), .val (.long x0), .second, .val (.long x1), .second, .val (.long x2), .second, .val (.int s0), .val (.int s1), .val (.int s2), .val (.long x0), .second, .val (.int s0), .val (.long x0), .second, .val (.long x0), .second, .val (.long x2), .second, .unset, .unset, .unset]) rfl ?_
    refine own_iloadN X hx (hb hby own_d_method_3_code_87) (pc' := 88) rfl rfl ?_
    refine own_ifY X hx (hb hby own_d_method_3_code_88) (by decide) (pc' := 96) rfl (show ¬ ((1 : Int32) = (0 : Int32)) from (by decide)) ?_
    refine own_iload X hx (hb hby own_d_method_3_code_96) (pc' := 98) rfl rfl ?_
    refine own_istore X hx (hb hby own_d_method_3_code_98) (pc' := 100) rfl (Ls' := #[.val (.ref v0), .val (.ref m0), .val (.int (0 : Int32)), .val (.int (1 : Int32)), .val (.long x0), .second, .val (.long x1), .second, .val (.long x2), .second, .val (.int s0), .val (.int s1), .val (.int s2), .val (.long x0), .second, .val (.int s0), .val (.long x0), .second, .val (.long x0), .second, .val (.long x2), .second, .val (.int s0), .unset, .unset]) rfl ?_
    refine own_iloadN X hx (hb hby own_d_method_3_code_100) (pc' := 101) rfl rfl ?_
    refine own_iconst X hx (1 : Int32) (hb hby own_d_method_3_code_101) (pc' := 102) rfl rfl ?_
    refine own_icmpN X hx (hb hby own_d_method_3_code_102) (pc' := 105) rfl (show (1 : Int32) = (1 : Int32) from (by decide)) ?_
    refine own_iload X hx (hb hby own_d_method_3_code_105) (pc' := 107) rfl rfl ?_
    refine own_goto X hx (hb hby own_d_method_3_code_107) (by decide) (pc' := 112) rfl ?_
    refine own_istore X hx (hb hby own_d_method_3_code_112) (pc' := 114) rfl (Ls' := #[.val (.ref v0), .val (.ref m0), .val (.int (0 : Int32)), .val (.int (1 : Int32)), .val (.long x0), .second, .val (.long x1), .second, .val (.long x2), .second, .val (.int s0), .val (.int s1), .val (.int s2), .val (.long x0), .second, .val (.int s0), .val (.long x0), .second, .val (.long x0), .second, .val (.long x2), .second, .val (.int s0), .val (.int s0), .unset]) rfl ?_
    refine own_iloadN X hx (hb hby own_d_method_3_code_114) (pc' := 115) rfl rfl ?_
    refine own_iconst X hx (2 : Int32) (hb hby own_d_method_3_code_115) (pc' := 116) rfl rfl ?_
    refine own_icmpY X hx (hb hby own_d_method_3_code_116) (by decide) (pc' := 124) rfl (show ¬ ((1 : Int32) = (2 : Int32)) from (by decide)) ?_
    refine own_iload X hx (hb hby own_d_method_3_code_124) (pc' := 126) rfl rfl ?_
    refine own_istore X hx (hb hby own_d_method_3_code_126) (pc' := 128) rfl (Ls' := #[.val (.ref v0), .val (.ref m0), .val (.int (0 : Int32)), .val (.int (1 : Int32)), .val (.long x0), .second, .val (.long x1), .second, .val (.long x2), .second, .val (.int s0), .val (.int s1), .val (.int s2), .val (.long x0), .second, .val (.int s0), .val (.long x0), .second, .val (.long x0), .second, .val (.long x2), .second, .val (.int s0), .val (.int s0), .val (.int s2)]) rfl ?_
    refine own_aloadN X hx (hb hby own_d_method_3_code_128) (pc' := 129) rfl rfl rfl ?_
    refine own_arrlen X hx hZ eT A_v0 (hb hby own_d_method_3_code_129) (pc' := 130) rfl ?_
    refine own_iconst X hx (3 : Int32) (hb hby own_d_method_3_code_130) (pc' := 131) rfl rfl ?_
    refine own_icmpN X hx (hb hby own_d_method_3_code_131) (pc' := 134) rfl (show (3 : Int32) = (3 : Int32) from (by decide)) ?_
    refine own_aloadN X hx (hb hby own_d_method_3_code_134) (pc' := 135) rfl rfl rfl ?_
    refine own_arrlen X hx hZ eT A_m0 (hb hby own_d_method_3_code_135) (pc' := 136) rfl ?_
    refine own_iconst X hx (3 : Int32) (hb hby own_d_method_3_code_136) (pc' := 137) rfl rfl ?_
    refine own_icmpN X hx (hb hby own_d_method_3_code_137) (pc' := 140) rfl (show (3 : Int32) = (3 : Int32) from (by decide)) ?_
    refine own_aloadN X hx (hb hby own_d_method_3_code_140) (pc' := 141) rfl rfl rfl ?_
    refine own_iconst X hx (0 : Int32) (hb hby own_d_method_3_code_141) (pc' := 142) rfl rfl ?_
    refine own_laload X hx hZ eT A_v0 (v := (.long (own_u (1 : Int32) 0 (own_g x0 x1 x2 (0 : Int32)) x0))) (by decide) rfl (hb hby own_d_method_3_code_142) (pc' := 143) rfl ?_
    refine own_lload X hx (hb hby own_d_method_3_code_143) (pc' := 145) rfl rfl ?_
    refine own_lcN X hx (hb hby own_d_method_3_code_145) (hb hby own_d_method_3_code_146) (pc' := 149) rfl (show (own_u (1 : Int32) 0 (own_g x0 x1 x2 (0 : Int32)) x0) = x0 from rfl) ?_
    refine own_aloadN X hx (hb hby own_d_method_3_code_149) (pc' := 150) rfl rfl rfl ?_
    refine own_iconst X hx (1 : Int32) (hb hby own_d_method_3_code_150) (pc' := 151) rfl rfl ?_
    refine own_laload X hx hZ eT A_v0 (v := (.long (own_u (1 : Int32) 1 (own_g x0 x1 x2 (0 : Int32)) x1))) (by decide) rfl (hb hby own_d_method_3_code_151) (pc' := 152) rfl ?_
    refine own_lload X hx (hb hby own_d_method_3_code_152) (pc' := 154) rfl rfl ?_
    refine own_lcN X hx (hb hby own_d_method_3_code_154) (hb hby own_d_method_3_code_155) (pc' := 158) rfl (show (own_u (1 : Int32) 1 (own_g x0 x1 x2 (0 : Int32)) x1) = x0 from rfl) ?_
    refine own_aloadN X hx (hb hby own_d_method_3_code_158) (pc' := 159) rfl rfl rfl ?_
    refine own_iconst X hx (2 : Int32) (hb hby own_d_method_3_code_159) (pc' := 160) rfl rfl ?_
    refine own_laload X hx hZ eT A_v0 (v := (.long (own_u (1 : Int32) 2 (own_g x0 x1 x2 (0 : Int32)) x2))) (by decide) rfl (hb hby own_d_method_3_code_160) (pc' := 161) rfl ?_
    refine own_lload X hx (hb hby own_d_method_3_code_161) (pc' := 163) rfl rfl ?_
    refine own_lcN X hx (hb hby own_d_method_3_code_163) (hb hby own_d_method_3_code_164) (pc' := 167) rfl (show (own_u (1 : Int32) 2 (own_g x0 x1 x2 (0 : Int32)) x2) = x2 from rfl) ?_
    refine own_aloadN X hx (hb hby own_d_method_3_code_167) (pc' := 168) rfl rfl rfl ?_
    refine own_iconst X hx (0 : Int32) (hb hby own_d_method_3_code_168) (pc' := 169) rfl rfl ?_
    refine own_baloadZ X hx hZ eT A_m0 (v := (.int (own_uI (1 : Int32) 0 (own_gI s0 s1 s2 (0 : Int32)) s0))) (by decide) rfl (hb hby own_d_method_3_code_169) (pc' := 170) rfl ?_
    refine own_iload X hx (hb hby own_d_method_3_code_170) (pc' := 172) rfl rfl ?_
    refine own_icmpN X hx (hb hby own_d_method_3_code_172) (pc' := 175) rfl (show (own_uI (1 : Int32) 0 (own_gI s0 s1 s2 (0 : Int32)) s0) = s0 from rfl) ?_
    refine own_aloadN X hx (hb hby own_d_method_3_code_175) (pc' := 176) rfl rfl rfl ?_
    refine own_iconst X hx (1 : Int32) (hb hby own_d_method_3_code_176) (pc' := 177) rfl rfl ?_
    refine own_baloadZ X hx hZ eT A_m0 (v := (.int (own_uI (1 : Int32) 1 (own_gI s0 s1 s2 (0 : Int32)) s1))) (by decide) rfl (hb hby own_d_method_3_code_177) (pc' := 178) rfl ?_
    refine own_iload X hx (hb hby own_d_method_3_code_178) (pc' := 180) rfl rfl ?_
    refine own_icmpN X hx (hb hby own_d_method_3_code_180) (pc' := 183) rfl (show (own_uI (1 : Int32) 1 (own_gI s0 s1 s2 (0 : Int32)) s1) = s0 from rfl) ?_
    refine own_aloadN X hx (hb hby own_d_method_3_code_183) (pc' := 184) rfl rfl rfl ?_
    refine own_iconst X hx (2 : Int32) (hb hby own_d_method_3_code_184) (pc' := 185) rfl rfl ?_
    refine own_baloadZ X hx hZ eT A_m0 (v := (.int (own_uI (1 : Int32) 2 (own_gI s0 s1 s2 (0 : Int32)) s2))) (by decide) rfl (hb hby own_d_method_3_code_185) (pc' := 186) rfl ?_
    refine own_iload X hx (hb hby own_d_method_3_code_186) (pc' := 188) rfl rfl ?_
    refine own_icmpN X hx (hb hby own_d_method_3_code_188) (pc' := 191) rfl (show (own_uI (1 : Int32) 2 (own_gI s0 s1 s2 (0 : Int32)) s2) = s2 from rfl) ?_
    refine own_iconst X hx (1 : Int32) (hb hby own_d_method_3_code_191) (pc' := 192) rfl rfl ?_
    refine own_goto X hx (hb hby own_d_method_3_code_192) (by decide) (pc' := 196) rfl ?_
    refine own_retI X hx hlk (t := .boolean) (w' := (.int (1 : Int32))) Bd.returns (hb hby own_d_method_3_code_196) rfl rfl (by simp) (by decide) (by decide) ?_
    rw [eT]
    exact ⟨rfl, N, rfl⟩
  · show own_W p e below (own_Post s (Q_col Z v0 m0 (0 : Int32) (2 : Int32) x0 x1 x2 s0 s1 s2 h0 n0) 0 0) T m 0 #[.val (.ref v0), .val (.ref m0), .val (.int (0 : Int32)), .val (.int (2 : Int32)), .val (.long x0), .second, .val (.long x1), .second, .val (.long x2), .second, .val (.int s0), .val (.int s1), .val (.int s2), .unset, .unset, .unset, .unset, .unset, .unset, .unset, .unset, .unset, .unset, .unset, .unset] []
    refine own_iloadN X hx (hb hby own_d_method_3_code_0) (pc' := 1) rfl rfl ?_
    refine own_ifN X hx (hb hby own_d_method_3_code_1) (pc' := 4) rfl (show (0 : Int32) = (0 : Int32) from (by decide)) ?_
    refine own_lload X hx (hb hby own_d_method_3_code_4) (pc' := 6) rfl rfl ?_
    refine own_goto X hx (hb hby own_d_method_3_code_6) (by decide) (pc' := 21) rfl ?_
    refine own_lstore X hx (hb hby own_d_method_3_code_21) (pc' := 23) rfl (Ls' := #[.val (.ref v0), .val (.ref m0), .val (.int (0 : Int32)), .val (.int (2 : Int32)), .val (.long x0), .second, .val (.long x1), .second, .val (.long x2), .second, .val (.int s0), .val (.int s1), .val (.int s2), .val (.long x0), .second, .unset, .unset, .unset, .unset, .unset, .unset, .unset, .unset, .unset, .unset]) rfl ?_
    refine own_iloadN X hx (hb hby own_d_method_3_code_23) (pc' := 24) rfl rfl ?_
    refine own_ifN X hx (hb hby own_d_method_3_code_24) (pc' := 27) rfl (show (0 : Int32) = (0 : Int32) from (by decide)) ?_
    refine own_iload X hx (hb hby own_d_method_3_code_27) (pc' := 29) rfl rfl ?_
    refine own_goto X hx (hb hby own_d_method_3_code_29) (by decide) (pc' := 44) rfl ?_
    refine own_istore X hx (hb hby own_d_method_3_code_44) (pc' := 46) rfl (Ls' := #[.val (.ref v0), .val (.ref m0), .val (.int (0 : Int32)), .val (.int (2 : Int32)), .val (.long x0), .second, .val (.long x1), .second, .val (.long x2), .second, .val (.int s0), .val (.int s1), .val (.int s2), .val (.long x0), .second, .val (.int s0), .unset, .unset, .unset, .unset, .unset, .unset, .unset, .unset, .unset]) rfl ?_
    refine own_iloadN X hx (hb hby own_d_method_3_code_46) (pc' := 47) rfl rfl ?_
    refine own_ifY X hx (hb hby own_d_method_3_code_47) (by decide) (pc' := 55) rfl (show ¬ ((2 : Int32) = (0 : Int32)) from (by decide)) ?_
    refine own_lload X hx (hb hby own_d_method_3_code_55) (pc' := 57) rfl rfl ?_
    refine own_lstore X hx (hb hby own_d_method_3_code_57) (pc' := 59) rfl (Ls' := #[.val (.ref v0), .val (.ref m0), .val (.int (0 : Int32)), .val (.int (2 : Int32)), .val (.long x0), .second, .val (.long x1), .second, .val (.long x2), .second, .val (.int s0), .val (.int s1), .val (.int s2), .val (.long x0), .second, .val (.int s0), .val (.long x0), .second, .unset, .unset, .unset, .unset, .unset, .unset, .unset]) rfl ?_
    refine own_iloadN X hx (hb hby own_d_method_3_code_59) (pc' := 60) rfl rfl ?_
    refine own_iconst X hx (1 : Int32) (hb hby own_d_method_3_code_60) (pc' := 61) rfl rfl ?_
    refine own_icmpY X hx (hb hby own_d_method_3_code_61) (by decide) (pc' := 69) rfl (show ¬ ((2 : Int32) = (1 : Int32)) from (by decide)) ?_
    refine own_lload X hx (hb hby own_d_method_3_code_69) (pc' := 71) rfl rfl ?_
    refine own_lstore X hx (hb hby own_d_method_3_code_71) (pc' := 73) rfl (Ls' := #[.val (.ref v0), .val (.ref m0), .val (.int (0 : Int32)), .val (.int (2 : Int32)), .val (.long x0), .second, .val (.long x1), .second, .val (.long x2), .second, .val (.int s0), .val (.int s1), .val (.int s2), .val (.long x0), .second, .val (.int s0), .val (.long x0), .second, .val (.long x1), .second, .unset, .unset, .unset, .unset, .unset]) rfl ?_
    refine own_iloadN X hx (hb hby own_d_method_3_code_73) (pc' := 74) rfl rfl ?_
    refine own_iconst X hx (2 : Int32) (hb hby own_d_method_3_code_74) (pc' := 75) rfl rfl ?_
    refine own_icmpN X hx (hb hby own_d_method_3_code_75) (pc' := 78) rfl (show (2 : Int32) = (2 : Int32) from (by decide)) ?_
    refine own_lload X hx (hb hby own_d_method_3_code_78) (pc' := 80) rfl rfl ?_
    refine own_goto X hx (hb hby own_d_method_3_code_80) (by decide) (pc' := 85) rfl ?_
    refine own_lstore X hx (hb hby own_d_method_3_code_85) (pc' := 87) rfl (Ls' := #[.val (.ref v0), .val (.ref m0), .val (.int (0 : Int32)), .val (.int (2 : Int32)), .val (.long x0), .second, .val (.long x1), .second, .val (.long x2), .second, .val (.int s0), .val (.int s1), .val (.int s2), .val (.long x0), .second, .val (.int s0), .val (.long x0), .second, .val (.long x1), .second, .val (.long x0), .second, .unset, .unset, .unset]) rfl ?_
    refine own_iloadN X hx (hb hby own_d_method_3_code_87) (pc' := 88) rfl rfl ?_
    refine own_ifY X hx (hb hby own_d_method_3_code_88) (by decide) (pc' := 96) rfl (show ¬ ((2 : Int32) = (0 : Int32)) from (by decide)) ?_
    refine own_iload X hx (hb hby own_d_method_3_code_96) (pc' := 98) rfl rfl ?_
    refine own_istore X hx (hb hby own_d_method_3_code_98) (pc' := 100) rfl (Ls' := #[.val (.ref v0), .val (.ref m0), .val (.int (0 : Int32)), .val (.int (2 : Int32)), .val (.long x0), .second, .val (.long x1), .second, .val (.long x2), .second, .val (.int s0), .val (.int s1), .val (.int s2), .val (.long x0), .second, .val (.int s0), .val (.long x0), .second, .val (.long x1), .second, .val (.long x0), .second, .val (.int s0), .unset, .unset]) rfl ?_
    refine own_iloadN X hx (hb hby own_d_method_3_code_100) (pc' := 101) rfl rfl ?_
    refine own_iconst X hx (1 : Int32) (hb hby own_d_method_3_code_101) (pc' := 102) rfl rfl ?_
    refine own_icmpY X hx (hb hby own_d_method_3_code_102) (by decide) (pc' := 110) rfl (show ¬ ((2 : Int32) = (1 : Int32)) from (by decide)) ?_
    refine own_iload X hx (hb hby own_d_method_3_code_110) (pc' := 112) rfl rfl ?_
    refine own_istore X hx (hb hby own_d_method_3_code_112) (pc' := 114) rfl (Ls' := #[.val (.ref v0), .val (.ref m0), .val (.int (0 : Int32)), .val (.int (2 : Int32)), .val (.long x0), .second, .val (.long x1), .second, .val (.long x2), .second, .val (.int s0), .val (.int s1), .val (.int s2), .val (.long x0), .second, .val (.int s0), .val (.long x0), .second, .val (.long x1), .second, .val (.long x0), .second, .val (.int s0), .val (.int s1), .unset]) rfl ?_
    refine own_iloadN X hx (hb hby own_d_method_3_code_114) (pc' := 115) rfl rfl ?_
    refine own_iconst X hx (2 : Int32) (hb hby own_d_method_3_code_115) (pc' := 116) rfl rfl ?_
    refine own_icmpN X hx (hb hby own_d_method_3_code_116) (pc' := 119) rfl (show (2 : Int32) = (2 : Int32) from (by decide)) ?_
    refine own_iload X hx (hb hby own_d_method_3_code_119) (pc' := 121) rfl rfl ?_
    refine own_goto X hx (hb hby own_d_method_3_code_121) (by decide) (pc' := 126) rfl ?_
    refine own_istore X hx (hb hby own_d_method_3_code_126) (pc' := 128) rfl (Ls' := #[.val (.ref v0), .val (.ref m0), .val (.int (0 : Int32)), .val (.int (2 : Int32)), .val (.long x0), .second, .val (.long x1), .second, .val (.long x2), .second, .val (.int s0), .val (.int s1), .val (.int s2), .val (.long x0), .second, .val (.int s0), .val (.long x0), .second, .val (.long x1), .second, .val (.long x0), .second, .val (.int s0), .val (.int s1), .val (.int s0)]) rfl ?_
    refine own_aloadN X hx (hb hby own_d_method_3_code_128) (pc' := 129) rfl rfl rfl ?_
    refine own_arrlen X hx hZ eT A_v0 (hb hby own_d_method_3_code_129) (pc' := 130) rfl ?_
    refine own_iconst X hx (3 : Int32) (hb hby own_d_method_3_code_130) (pc' := 131) rfl rfl ?_
    refine own_icmpN X hx (hb hby own_d_method_3_code_131) (pc' := 134) rfl (show (3 : Int32) = (3 : Int32) from (by decide)) ?_
    refine own_aloadN X hx (hb hby own_d_method_3_code_134) (pc' := 135) rfl rfl rfl ?_
    refine own_arrlen X hx hZ eT A_m0 (hb hby own_d_method_3_code_135) (pc' := 136) rfl ?_
    refine own_iconst X hx (3 : Int32) (hb hby own_d_method_3_code_136) (pc' := 137) rfl rfl ?_
    refine own_icmpN X hx (hb hby own_d_method_3_code_137) (pc' := 140) rfl (show (3 : Int32) = (3 : Int32) from (by decide)) ?_
    refine own_aloadN X hx (hb hby own_d_method_3_code_140) (pc' := 141) rfl rfl rfl ?_
    refine own_iconst X hx (0 : Int32) (hb hby own_d_method_3_code_141) (pc' := 142) rfl rfl ?_
    refine own_laload X hx hZ eT A_v0 (v := (.long (own_u (2 : Int32) 0 (own_g x0 x1 x2 (0 : Int32)) x0))) (by decide) rfl (hb hby own_d_method_3_code_142) (pc' := 143) rfl ?_
    refine own_lload X hx (hb hby own_d_method_3_code_143) (pc' := 145) rfl rfl ?_
    refine own_lcN X hx (hb hby own_d_method_3_code_145) (hb hby own_d_method_3_code_146) (pc' := 149) rfl (show (own_u (2 : Int32) 0 (own_g x0 x1 x2 (0 : Int32)) x0) = x0 from rfl) ?_
    refine own_aloadN X hx (hb hby own_d_method_3_code_149) (pc' := 150) rfl rfl rfl ?_
    refine own_iconst X hx (1 : Int32) (hb hby own_d_method_3_code_150) (pc' := 151) rfl rfl ?_
    refine own_laload X hx hZ eT A_v0 (v := (.long (own_u (2 : Int32) 1 (own_g x0 x1 x2 (0 : Int32)) x1))) (by decide) rfl (hb hby own_d_method_3_code_151) (pc' := 152) rfl ?_
    refine own_lload X hx (hb hby own_d_method_3_code_152) (pc' := 154) rfl rfl ?_
    refine own_lcN X hx (hb hby own_d_method_3_code_154) (hb hby own_d_method_3_code_155) (pc' := 158) rfl (show (own_u (2 : Int32) 1 (own_g x0 x1 x2 (0 : Int32)) x1) = x1 from rfl) ?_
    refine own_aloadN X hx (hb hby own_d_method_3_code_158) (pc' := 159) rfl rfl rfl ?_
    refine own_iconst X hx (2 : Int32) (hb hby own_d_method_3_code_159) (pc' := 160) rfl rfl ?_
    refine own_laload X hx hZ eT A_v0 (v := (.long (own_u (2 : Int32) 2 (own_g x0 x1 x2 (0 : Int32)) x2))) (by decide) rfl (hb hby own_d_method_3_code_160) (pc' := 161) rfl ?_
    refine own_lload X hx (hb hby own_d_method_3_code_161) (pc' := 163) rfl rfl ?_
    refine own_lcN X hx (hb hby own_d_method_3_code_163) (hb hby own_d_method_3_code_164) (pc' := 167) rfl (show (own_u (2 : Int32) 2 (own_g x0 x1 x2 (0 : Int32)) x2) = x0 from rfl) ?_
    refine own_aloadN X hx (hb hby own_d_method_3_code_167) (pc' := 168) rfl rfl rfl ?_
    refine own_iconst X hx (0 : Int32) (hb hby own_d_method_3_code_168) (pc' := 169) rfl rfl ?_
    refine own_baloadZ X hx hZ eT A_m0 (v := (.int (own_uI (2 : Int32) 0 (own_gI s0 s1 s2 (0 : Int32)) s0))) (by decide) rfl (hb hby own_d_method_3_code_169) (pc' := 170) rfl ?_
    refine own_iload X hx (hb hby own_d_method_3_code_170) (pc' := 172) rfl rfl ?_
    refine own_icmpN X hx (hb hby own_d_method_3_code_172) (pc' := 175) rfl (show (own_uI (2 : Int32) 0 (own_gI s0 s1 s2 (0 : Int32)) s0) = s0 from rfl) ?_
    refine own_aloadN X hx (hb hby own_d_method_3_code_175) (pc' := 176) rfl rfl rfl ?_
    refine own_iconst X hx (1 : Int32) (hb hby own_d_method_3_code_176) (pc' := 177) rfl rfl ?_
    refine own_baloadZ X hx hZ eT A_m0 (v := (.int (own_uI (2 : Int32) 1 (own_gI s0 s1 s2 (0 : Int32)) s1))) (by decide) rfl (hb hby own_d_method_3_code_177) (pc' := 178) rfl ?_
    refine own_iload X hx (hb hby own_d_method_3_code_178) (pc' := 180) rfl rfl ?_
    refine own_icmpN X hx (hb hby own_d_method_3_code_180) (pc' := 183) rfl (show (own_uI (2 : Int32) 1 (own_gI s0 s1 s2 (0 : Int32)) s1) = s1 from rfl) ?_
    refine own_aloadN X hx (hb hby own_d_method_3_code_183) (pc' := 184) rfl rfl rfl ?_
    refine own_iconst X hx (2 : Int32) (hb hby own_d_method_3_code_184) (pc' := 185) rfl rfl ?_
    refine own_baloadZ X hx hZ eT A_m0 (v := (.int (own_uI (2 : Int32) 2 (own_gI s0 s1 s2 (0 : Int32)) s2))) (by decide) rfl (hb hby own_d_method_3_code_185) (pc' := 186) rfl ?_
    refine own_iload X hx (hb hby own_d_method_3_code_186) (pc' := 188) rfl rfl ?_
    refine own_icmpN X hx (hb hby own_d_method_3_code_188) (pc' := 191) rfl (show (own_uI (2 : Int32) 2 (own_gI s0 s1 s2 (0 : Int32)) s2) = s0 from rfl) ?_
    refine own_iconst X hx (1 : Int32) (hb hby own_d_method_3_code_191) (pc' := 192) rfl rfl ?_
    refine own_goto X hx (hb hby own_d_method_3_code_192) (by decide) (pc' := 196) rfl ?_
    refine own_retI X hx hlk (t := .boolean) (w' := (.int (1 : Int32))) Bd.returns (hb hby own_d_method_3_code_196) rfl rfl (by simp) (by decide) (by decide) ?_
    rw [eT]
    exact ⟨rfl, N, rfl⟩
  · show own_W p e below (own_Post s (Q_col Z v0 m0 (1 : Int32) (0 : Int32) x0 x1 x2 s0 s1 s2 h0 n0) 0 0) T m 0 #[.val (.ref v0), .val (.ref m0), .val (.int (1 : Int32)), .val (.int (0 : Int32)), .val (.long x0), .second, .val (.long x1), .second, .val (.long x2), .second, .val (.int s0), .val (.int s1), .val (.int s2), .unset, .unset, .unset, .unset, .unset, .unset, .unset, .unset, .unset, .unset, .unset, .unset] []
    refine own_iloadN X hx (hb hby own_d_method_3_code_0) (pc' := 1) rfl rfl ?_
    refine own_ifY X hx (hb hby own_d_method_3_code_1) (by decide) (pc' := 9) rfl (show ¬ ((1 : Int32) = (0 : Int32)) from (by decide)) ?_
    refine own_iloadN X hx (hb hby own_d_method_3_code_9) (pc' := 10) rfl rfl ?_
    refine own_iconst X hx (1 : Int32) (hb hby own_d_method_3_code_10) (pc' := 11) rfl rfl ?_
    refine own_icmpN X hx (hb hby own_d_method_3_code_11) (pc' := 14) rfl (show (1 : Int32) = (1 : Int32) from (by decide)) ?_
    refine own_lload X hx (hb hby own_d_method_3_code_14) (pc' := 16) rfl rfl ?_
    refine own_goto X hx (hb hby own_d_method_3_code_16) (by decide) (pc' := 21) rfl ?_
    refine own_lstore X hx (hb hby own_d_method_3_code_21) (pc' := 23) rfl (Ls' := #[.val (.ref v0), .val (.ref m0), .val (.int (1 : Int32)), .val (.int (0 : Int32)), .val (.long x0), .second, .val (.long x1), .second, .val (.long x2), .second, .val (.int s0), .val (.int s1), .val (.int s2), .val (.long x1), .second, .unset, .unset, .unset, .unset, .unset, .unset, .unset, .unset, .unset, .unset]) rfl ?_
    refine own_iloadN X hx (hb hby own_d_method_3_code_23) (pc' := 24) rfl rfl ?_
    refine own_ifY X hx (hb hby own_d_method_3_code_24) (by decide) (pc' := 32) rfl (show ¬ ((1 : Int32) = (0 : Int32)) from (by decide)) ?_
    refine own_iloadN X hx (hb hby own_d_method_3_code_32) (pc' := 33) rfl rfl ?_
    refine own_iconst X hx (1 : Int32) (hb hby own_d_method_3_code_33) (pc' := 34) rfl rfl ?_
    refine own_icmpN X hx (hb hby own_d_method_3_code_34) (pc' := 37) rfl (show (1 : Int32) = (1 : Int32) from (by decide)) ?_
    refine own_iload X hx (hb hby own_d_method_3_code_37) (pc' := 39) rfl rfl ?_
    refine own_goto X hx (hb hby own_d_method_3_code_39) (by decide) (pc' := 44) rfl ?_
    refine own_istore X hx (hb hby own_d_method_3_code_44) (pc' := 46) rfl (Ls' := #[.val (.ref v0), .val (.ref m0), .val (.int (1 : Int32)), .val (.int (0 : Int32)), .val (.long x0), .second, .val (.long x1), .second, .val (.long x2), .second, .val (.int s0), .val (.int s1), .val (.int s2), .val (.long x1), .second, .val (.int s1), .unset, .unset, .unset, .unset, .unset, .unset, .unset, .unset, .unset]) rfl ?_
    refine own_iloadN X hx (hb hby own_d_method_3_code_46) (pc' := 47) rfl rfl ?_
    refine own_ifN X hx (hb hby own_d_method_3_code_47) (pc' := 50) rfl (show (0 : Int32) = (0 : Int32) from (by decide)) ?_
    refine own_lload X hx (hb hby own_d_method_3_code_50) (pc' := 52) rfl rfl ?_
    refine own_goto X hx (hb hby own_d_method_3_code_52) (by decide) (pc' := 57) rfl ?_
    refine own_lstore X hx (hb hby own_d_method_3_code_57) (pc' := 59) rfl (Ls' := #[.val (.ref v0), .val (.ref m0), .val (.int (1 : Int32)), .val (.int (0 : Int32)), .val (.long x0), .second, .val (.long x1), .second, .val (.long x2), .second, .val (.int s0), .val (.int s1), .val (.int s2), .val (.long x1), .second, .val (.int s1), .val (.long x1), .second, .unset, .unset, .unset, .unset, .unset, .unset, .unset]) rfl ?_
    refine own_iloadN X hx (hb hby own_d_method_3_code_59) (pc' := 60) rfl rfl ?_
    refine own_iconst X hx (1 : Int32) (hb hby own_d_method_3_code_60) (pc' := 61) rfl rfl ?_
    refine own_icmpY X hx (hb hby own_d_method_3_code_61) (by decide) (pc' := 69) rfl (show ¬ ((0 : Int32) = (1 : Int32)) from (by decide)) ?_
    refine own_lload X hx (hb hby own_d_method_3_code_69) (pc' := 71) rfl rfl ?_
    refine own_lstore X hx (hb hby own_d_method_3_code_71) (pc' := 73) rfl (Ls' := #[.val (.ref v0), .val (.ref m0), .val (.int (1 : Int32)), .val (.int (0 : Int32)), .val (.long x0), .second, .val (.long x1), .second, .val (.long x2), .second, .val (.int s0), .val (.int s1), .val (.int s2), .val (.long x1), .second, .val (.int s1), .val (.long x1), .second, .val (.long x1), .second, .unset, .unset, .unset, .unset, .unset]) rfl ?_
    refine own_iloadN X hx (hb hby own_d_method_3_code_73) (pc' := 74) rfl rfl ?_
    refine own_iconst X hx (2 : Int32) (hb hby own_d_method_3_code_74) (pc' := 75) rfl rfl ?_
    refine own_icmpY X hx (hb hby own_d_method_3_code_75) (by decide) (pc' := 83) rfl (show ¬ ((0 : Int32) = (2 : Int32)) from (by decide)) ?_
    refine own_lload X hx (hb hby own_d_method_3_code_83) (pc' := 85) rfl rfl ?_
    refine own_lstore X hx (hb hby own_d_method_3_code_85) (pc' := 87) rfl (Ls' := #[.val (.ref v0), .val (.ref m0), .val (.int (1 : Int32)), .val (.int (0 : Int32)), .val (.long x0), .second, .val (.long x1), .second, .val (.long x2), .second, .val (.int s0), .val (.int s1), .val (.int s2), .val (.long x1), .second, .val (.int s1), .val (.long x1), .second, .val (.long x1), .second, .val (.long x2), .second, .unset, .unset, .unset]) rfl ?_
    refine own_iloadN X hx (hb hby own_d_method_3_code_87) (pc' := 88) rfl rfl ?_
    refine own_ifN X hx (hb hby own_d_method_3_code_88) (pc' := 91) rfl (show (0 : Int32) = (0 : Int32) from (by decide)) ?_
    refine own_iload X hx (hb hby own_d_method_3_code_91) (pc' := 93) rfl rfl ?_
    refine own_goto X hx (hb hby own_d_method_3_code_93) (by decide) (pc' := 98) rfl ?_
    refine own_istore X hx (hb hby own_d_method_3_code_98) (pc' := 100) rfl (Ls' := #[.val (.ref v0), .val (.ref m0), .val (.int (1 : Int32)), .val (.int (0 : Int32)), .val (.long x0), .second, .val (.long x1), .second, .val (.long x2), .second, .val (.int s0), .val (.int s1), .val (.int s2), .val (.long x1), .second, .val (.int s1), .val (.long x1), .second, .val (.long x1), .second, .val (.long x2), .second, .val (.int s1), .unset, .unset]) rfl ?_
    refine own_iloadN X hx (hb hby own_d_method_3_code_100) (pc' := 101) rfl rfl ?_
    refine own_iconst X hx (1 : Int32) (hb hby own_d_method_3_code_101) (pc' := 102) rfl rfl ?_
    refine own_icmpY X hx (hb hby own_d_method_3_code_102) (by decide) (pc' := 110) rfl (show ¬ ((0 : Int32) = (1 : Int32)) from (by decide)) ?_
    refine own_iload X hx (hb hby own_d_method_3_code_110) (pc' := 112) rfl rfl ?_
    refine own_istore X hx (hb hby own_d_method_3_code_112) (pc' := 114) rfl (Ls' := #[.val (.ref v0), .val (.ref m0), .val (.int (1 : Int32)), .val (.int (0 : Int32)), .val (.long x0), .second, .val (.long x1), .second, .val (.long x2), .second, .val (.int s0), .val (.int s1), .val (.int s2), .val (.long x1), .second, .val (.int s1), .val (.long x1), .second, .val (.long x1), .second, .val (.long x2), .second, .val (.int s1), .val (.int s1), .unset]) rfl ?_
    refine own_iloadN X hx (hb hby own_d_method_3_code_114) (pc' := 115) rfl rfl ?_
    refine own_iconst X hx (2 : Int32) (hb hby own_d_method_3_code_115) (pc' := 116) rfl rfl ?_
    refine own_icmpY X hx (hb hby own_d_method_3_code_116) (by decide) (pc' := 124) rfl (show ¬ ((0 : Int32) = (2 : Int32)) from (by decide)) ?_
    refine own_iload X hx (hb hby own_d_method_3_code_124) (pc' := 126) rfl rfl ?_
    refine own_istore X hx (hb hby own_d_method_3_code_126) (pc' := 128) rfl (Ls' := #[.val (.ref v0), .val (.ref m0), .val (.int (1 : Int32)), .val (.int (0 : Int32)), .val (.long x0), .second, .val (.long x1), .second, .val (.long x2), .second, .val (.int s0), .val (.int s1), .val (.int s2), .val (.long x1), .second, .val (.int s1), .val (.long x1), .second, .val (.long x1), .second, .val (.long x2), .second, .val (.int s1), .val (.int s1), .val (.int s2)]) rfl ?_
    refine own_aloadN X hx (hb hby own_d_method_3_code_128) (pc' := 129) rfl rfl rfl ?_
    refine own_arrlen X hx hZ eT A_v0 (hb hby own_d_method_3_code_129) (pc' := 130) rfl ?_
    refine own_iconst X hx (3 : Int32) (hb hby own_d_method_3_code_130) (pc' := 131) rfl rfl ?_
    refine own_icmpN X hx (hb hby own_d_method_3_code_131) (pc' := 134) rfl (show (3 : Int32) = (3 : Int32) from (by decide)) ?_
    refine own_aloadN X hx (hb hby own_d_method_3_code_134) (pc' := 135) rfl rfl rfl ?_
    refine own_arrlen X hx hZ eT A_m0 (hb hby own_d_method_3_code_135) (pc' := 136) rfl ?_
    refine own_iconst X hx (3 : Int32) (hb hby own_d_method_3_code_136) (pc' := 137) rfl rfl ?_
    refine own_icmpN X hx (hb hby own_d_method_3_code_137) (pc' := 140) rfl (show (3 : Int32) = (3 : Int32) from (by decide)) ?_
    refine own_aloadN X hx (hb hby own_d_method_3_code_140) (pc' := 141) rfl rfl rfl ?_
    refine own_iconst X hx (0 : Int32) (hb hby own_d_method_3_code_141) (pc' := 142) rfl rfl ?_
    refine own_laload X hx hZ eT A_v0 (v := (.long (own_u (0 : Int32) 0 (own_g x0 x1 x2 (1 : Int32)) x0))) (by decide) rfl (hb hby own_d_method_3_code_142) (pc' := 143) rfl ?_
    refine own_lload X hx (hb hby own_d_method_3_code_143) (pc' := 145) rfl rfl ?_
    refine own_lcN X hx (hb hby own_d_method_3_code_145) (hb hby own_d_method_3_code_146) (pc' := 149) rfl (show (own_u (0 : Int32) 0 (own_g x0 x1 x2 (1 : Int32)) x0) = x1 from rfl) ?_
    refine own_aloadN X hx (hb hby own_d_method_3_code_149) (pc' := 150) rfl rfl rfl ?_
    refine own_iconst X hx (1 : Int32) (hb hby own_d_method_3_code_150) (pc' := 151) rfl rfl ?_
    refine own_laload X hx hZ eT A_v0 (v := (.long (own_u (0 : Int32) 1 (own_g x0 x1 x2 (1 : Int32)) x1))) (by decide) rfl (hb hby own_d_method_3_code_151) (pc' := 152) rfl ?_
    refine own_lload X hx (hb hby own_d_method_3_code_152) (pc' := 154) rfl rfl ?_
    refine own_lcN X hx (hb hby own_d_method_3_code_154) (hb hby own_d_method_3_code_155) (pc' := 158) rfl (show (own_u (0 : Int32) 1 (own_g x0 x1 x2 (1 : Int32)) x1) = x1 from rfl) ?_
    refine own_aloadN X hx (hb hby own_d_method_3_code_158) (pc' := 159) rfl rfl rfl ?_
    refine own_iconst X hx (2 : Int32) (hb hby own_d_method_3_code_159) (pc' := 160) rfl rfl ?_
    refine own_laload X hx hZ eT A_v0 (v := (.long (own_u (0 : Int32) 2 (own_g x0 x1 x2 (1 : Int32)) x2))) (by decide) rfl (hb hby own_d_method_3_code_160) (pc' := 161) rfl ?_
    refine own_lload X hx (hb hby own_d_method_3_code_161) (pc' := 163) rfl rfl ?_
    refine own_lcN X hx (hb hby own_d_method_3_code_163) (hb hby own_d_method_3_code_164) (pc' := 167) rfl (show (own_u (0 : Int32) 2 (own_g x0 x1 x2 (1 : Int32)) x2) = x2 from rfl) ?_
    refine own_aloadN X hx (hb hby own_d_method_3_code_167) (pc' := 168) rfl rfl rfl ?_
    refine own_iconst X hx (0 : Int32) (hb hby own_d_method_3_code_168) (pc' := 169) rfl rfl ?_
    refine own_baloadZ X hx hZ eT A_m0 (v := (.int (own_uI (0 : Int32) 0 (own_gI s0 s1 s2 (1 : Int32)) s0))) (by decide) rfl (hb hby own_d_method_3_code_169) (pc' := 170) rfl ?_
    refine own_iload X hx (hb hby own_d_method_3_code_170) (pc' := 172) rfl rfl ?_
    refine own_icmpN X hx (hb hby own_d_method_3_code_172) (pc' := 175) rfl (show (own_uI (0 : Int32) 0 (own_gI s0 s1 s2 (1 : Int32)) s0) = s1 from rfl) ?_
    refine own_aloadN X hx (hb hby own_d_method_3_code_175) (pc' := 176) rfl rfl rfl ?_
    refine own_iconst X hx (1 : Int32) (hb hby own_d_method_3_code_176) (pc' := 177) rfl rfl ?_
    refine own_baloadZ X hx hZ eT A_m0 (v := (.int (own_uI (0 : Int32) 1 (own_gI s0 s1 s2 (1 : Int32)) s1))) (by decide) rfl (hb hby own_d_method_3_code_177) (pc' := 178) rfl ?_
    refine own_iload X hx (hb hby own_d_method_3_code_178) (pc' := 180) rfl rfl ?_
    refine own_icmpN X hx (hb hby own_d_method_3_code_180) (pc' := 183) rfl (show (own_uI (0 : Int32) 1 (own_gI s0 s1 s2 (1 : Int32)) s1) = s1 from rfl) ?_
    refine own_aloadN X hx (hb hby own_d_method_3_code_183) (pc' := 184) rfl rfl rfl ?_
    refine own_iconst X hx (2 : Int32) (hb hby own_d_method_3_code_184) (pc' := 185) rfl rfl ?_
    refine own_baloadZ X hx hZ eT A_m0 (v := (.int (own_uI (0 : Int32) 2 (own_gI s0 s1 s2 (1 : Int32)) s2))) (by decide) rfl (hb hby own_d_method_3_code_185) (pc' := 186) rfl ?_
    refine own_iload X hx (hb hby own_d_method_3_code_186) (pc' := 188) rfl rfl ?_
    refine own_icmpN X hx (hb hby own_d_method_3_code_188) (pc' := 191) rfl (show (own_uI (0 : Int32) 2 (own_gI s0 s1 s2 (1 : Int32)) s2) = s2 from rfl) ?_
    refine own_iconst X hx (1 : Int32) (hb hby own_d_method_3_code_191) (pc' := 192) rfl rfl ?_
    refine own_goto X hx (hb hby own_d_method_3_code_192) (by decide) (pc' := 196) rfl ?_
    refine own_retI X hx hlk (t := .boolean) (w' := (.int (1 : Int32))) Bd.returns (hb hby own_d_method_3_code_196) rfl rfl (by simp) (by decide) (by decide) ?_
    rw [eT]
    exact ⟨rfl, N, rfl⟩
  · show own_W p e below (own_Post s (Q_col Z v0 m0 (1 : Int32) (1 : Int32) x0 x1 x2 s0 s1 s2 h0 n0) 0 0) T m 0 #[.val (.ref v0), .val (.ref m0), .val (.int (1 : Int32)), .val (.int (1 : Int32)), .val (.long x0), .second, .val (.long x1), .second, .val (.long x2), .second, .val (.int s0), .val (.int s1), .val (.int s2), .unset, .unset, .unset, .unset, .unset, .unset, .unset, .unset, .unset, .unset, .unset, .unset] []
    refine own_iloadN X hx (hb hby own_d_method_3_code_0) (pc' := 1) rfl rfl ?_
    refine own_ifY X hx (hb hby own_d_method_3_code_1) (by decide) (pc' := 9) rfl (show ¬ ((1 : Int32) = (0 : Int32)) from (by decide)) ?_
    refine own_iloadN X hx (hb hby own_d_method_3_code_9) (pc' := 10) rfl rfl ?_
    refine own_iconst X hx (1 : Int32) (hb hby own_d_method_3_code_10) (pc' := 11) rfl rfl ?_
    refine own_icmpN X hx (hb hby own_d_method_3_code_11) (pc' := 14) rfl (show (1 : Int32) = (1 : Int32) from (by decide)) ?_
    refine own_lload X hx (hb hby own_d_method_3_code_14) (pc' := 16) rfl rfl ?_
    refine own_goto X hx (hb hby own_d_method_3_code_16) (by decide) (pc' := 21) rfl ?_
    refine own_lstore X hx (hb hby own_d_method_3_code_21) (pc' := 23) rfl (Ls' := #[.val (.ref v0), .val (.ref m0), .val (.int (1 : Int32)), .val (.int (1 : Int32)), .val (.long x0), .second, .val (.long x1), .second, .val (.long x2), .second, .val (.int s0), .val (.int s1), .val (.int s2), .val (.long x1), .second, .unset, .unset, .unset, .unset, .unset, .unset, .unset, .unset, .unset, .unset]) rfl ?_
    refine own_iloadN X hx (hb hby own_d_method_3_code_23) (pc' := 24) rfl rfl ?_
    refine own_ifY X hx (hb hby own_d_method_3_code_24) (by decide) (pc' := 32) rfl (show ¬ ((1 : Int32) = (0 : Int32)) from (by decide)) ?_
    refine own_iloadN X hx (hb hby own_d_method_3_code_32) (pc' := 33) rfl rfl ?_
    refine own_iconst X hx (1 : Int32) (hb hby own_d_method_3_code_33) (pc' := 34) rfl rfl ?_
    refine own_icmpN X hx (hb hby own_d_method_3_code_34) (pc' := 37) rfl (show (1 : Int32) = (1 : Int32) from (by decide)) ?_
    refine own_iload X hx (hb hby own_d_method_3_code_37) (pc' := 39) rfl rfl ?_
    refine own_goto X hx (hb hby own_d_method_3_code_39) (by decide) (pc' := 44) rfl ?_
    refine own_istore X hx (hb hby own_d_method_3_code_44) (pc' := 46) rfl (Ls' := #[.val (.ref v0), .val (.ref m0), .val (.int (1 : Int32)), .val (.int (1 : Int32)), .val (.long x0), .second, .val (.long x1), .second, .val (.long x2), .second, .val (.int s0), .val (.int s1), .val (.int s2), .val (.long x1), .second, .val (.int s1), .unset, .unset, .unset, .unset, .unset, .unset, .unset, .unset, .unset]) rfl ?_
    refine own_iloadN X hx (hb hby own_d_method_3_code_46) (pc' := 47) rfl rfl ?_
    refine own_ifY X hx (hb hby own_d_method_3_code_47) (by decide) (pc' := 55) rfl (show ¬ ((1 : Int32) = (0 : Int32)) from (by decide)) ?_
    refine own_lload X hx (hb hby own_d_method_3_code_55) (pc' := 57) rfl rfl ?_
    refine own_lstore X hx (hb hby own_d_method_3_code_57) (pc' := 59) rfl (Ls' := #[.val (.ref v0), .val (.ref m0), .val (.int (1 : Int32)), .val (.int (1 : Int32)), .val (.long x0), .second, .val (.long x1), .second, .val (.long x2), .second, .val (.int s0), .val (.int s1), .val (.int s2), .val (.long x1), .second, .val (.int s1), .val (.long x0), .second, .unset, .unset, .unset, .unset, .unset, .unset, .unset]) rfl ?_
    refine own_iloadN X hx (hb hby own_d_method_3_code_59) (pc' := 60) rfl rfl ?_
    refine own_iconst X hx (1 : Int32) (hb hby own_d_method_3_code_60) (pc' := 61) rfl rfl ?_
    refine own_icmpN X hx (hb hby own_d_method_3_code_61) (pc' := 64) rfl (show (1 : Int32) = (1 : Int32) from (by decide)) ?_
    refine own_lload X hx (hb hby own_d_method_3_code_64) (pc' := 66) rfl rfl ?_
    refine own_goto X hx (hb hby own_d_method_3_code_66) (by decide) (pc' := 71) rfl ?_
    refine own_lstore X hx (hb hby own_d_method_3_code_71) (pc' := 73) rfl (Ls' := #[.val (.ref v0), .val (.ref m0), .val (.int (1 : Int32)), .val (.int (1 : Int32)), .val (.long x0), .second, .val (.long x1), .second, .val (.long x2), .second, .val (.int s0), .val (.int s1), .val (.int s2), .val (.long x1), .second, .val (.int s1), .val (.long x0), .second, .val (.long x1), .second, .unset, .unset, .unset, .unset, .unset]) rfl ?_
    refine own_iloadN X hx (hb hby own_d_method_3_code_73) (pc' := 74) rfl rfl ?_
    refine own_iconst X hx (2 : Int32) (hb hby own_d_method_3_code_74) (pc' := 75) rfl rfl ?_
    refine own_icmpY X hx (hb hby own_d_method_3_code_75) (by decide) (pc' := 83) rfl (show ¬ ((1 : Int32) = (2 : Int32)) from (by decide)) ?_
    refine own_lload X hx (hb hby own_d_method_3_code_83) (pc' := 85) rfl rfl ?_
    refine own_lstore X hx (hb hby own_d_method_3_code_85) (pc' := 87) rfl (Ls' := #[.val (.ref v0), .val (.ref m0), .val (.int (1 : Int32)), .val (.int (1 : Int32)), .val (.long x0), .second, .val (.long x1), .second, .val (.long x2), .second, .val (.int s0), .val (.int s1), .val (.int s2), .val (.long x1), .second, .val (.int s1), .val (.long x0), .second, .val (.long x1), .second, .val (.long x2), .second, .unset, .unset, .unset]) rfl ?_
    refine own_iloadN X hx (hb hby own_d_method_3_code_87) (pc' := 88) rfl rfl ?_
    refine own_ifY X hx (hb hby own_d_method_3_code_88) (by decide) (pc' := 96) rfl (show ¬ ((1 : Int32) = (0 : Int32)) from (by decide)) ?_
    refine own_iload X hx (hb hby own_d_method_3_code_96) (pc' := 98) rfl rfl ?_
    refine own_istore X hx (hb hby own_d_method_3_code_98) (pc' := 100) rfl (Ls' := #[.val (.ref v0), .val (.ref m0), .val (.int (1 : Int32)), .val (.int (1 : Int32)), .val (.long x0), .second, .val (.long x1), .second, .val (.long x2), .second, .val (.int s0), .val (.int s1), .val (.int s2), .val (.long x1), .second, .val (.int s1), .val (.long x0), .second, .val (.long x1), .second, .val (.long x2), .second, .val (.int s0), .unset, .unset]) rfl ?_
    refine own_iloadN X hx (hb hby own_d_method_3_code_100) (pc' := 101) rfl rfl ?_
    refine own_iconst X hx (1 : Int32) (hb hby own_d_method_3_code_101) (pc' := 102) rfl rfl ?_
    refine own_icmpN X hx (hb hby own_d_method_3_code_102) (pc' := 105) rfl (show (1 : Int32) = (1 : Int32) from (by decide)) ?_
    refine own_iload X hx (hb hby own_d_method_3_code_105) (pc' := 107) rfl rfl ?_
    refine own_goto X hx (hb hby own_d_method_3_code_107) (by decide) (pc' := 112) rfl ?_
    refine own_istore X hx (hb hby own_d_method_3_code_112) (pc' := 114) rfl (Ls' := #[.val (.ref v0), .val (.ref m0), .val (.int (1 : Int32)), .val (.int (1 : Int32)), .val (.long x0), .second, .val (.long x1), .second, .val (.long x2), .second, .val (.int s0), .val (.int s1), .val (.int s2), .val (.long x1), .second, .val (.int s1), .val (.long x0), .second, .val (.long x1), .second, .val (.long x2), .second, .val (.int s0), .val (.int s1), .unset]) rfl ?_
    refine own_iloadN X hx (hb hby own_d_method_3_code_114) (pc' := 115) rfl rfl ?_
    refine own_iconst X hx (2 : Int32) (hb hby own_d_method_3_code_115) (pc' := 116) rfl rfl ?_
    refine own_icmpY X hx (hb hby own_d_method_3_code_116) (by decide) (pc' := 124) rfl (show ¬ ((1 : Int32) = (2 : Int32)) from (by decide)) ?_
    refine own_iload X hx (hb hby own_d_method_3_code_124) (pc' := 126) rfl rfl ?_
    refine own_istore X hx (hb hby own_d_method_3_code_126) (pc' := 128) rfl (Ls' := #[.val (.ref v0), .val (.ref m0), .val (.int (1 : Int32)), .val (.int (1 : Int32)), .val (.long x0), .second, .val (.long x1), .second, .val (.long x2), .second, .val (.int s0), .val (.int s1), .val (.int s2), .val (.long x1), .second, .val (.int s1), .val (.long x0), .second, .val (.long x1), .second, .val (.long x2), .second, .val (.int s0), .val (.int s1), .val (.int s2)]) rfl ?_
    refine own_aloadN X hx (hb hby own_d_method_3_code_128) (pc' := 129) rfl rfl rfl ?_
    refine own_arrlen X hx hZ eT A_v0 (hb hby own_d_method_3_code_129) (pc' := 130) rfl ?_
    refine own_iconst X hx (3 : Int32) (hb hby own_d_method_3_code_130) (pc' := 131) rfl rfl ?_
    refine own_icmpN X hx (hb hby own_d_method_3_code_131) (pc' := 134) rfl (show (3 : Int32) = (3 : Int32) from (by decide)) ?_
    refine own_aloadN X hx (hb hby own_d_method_3_code_134) (pc' := 135) rfl rfl rfl ?_
    refine own_arrlen X hx hZ eT A_m0 (hb hby own_d_method_3_code_135) (pc' := 136) rfl ?_
    refine own_iconst X hx (3 : Int32) (hb hby own_d_method_3_code_136) (pc' := 137) rfl rfl ?_
    refine own_icmpN X hx (hb hby own_d_method_3_code_137) (pc' := 140) rfl (show (3 : Int32) = (3 : Int32) from (by decide)) ?_
    refine own_aloadN X hx (hb hby own_d_method_3_code_140) (pc' := 141) rfl rfl rfl ?_
    refine own_iconst X hx (0 : Int32) (hb hby own_d_method_3_code_141) (pc' := 142) rfl rfl ?_
    refine own_laload X hx hZ eT A_v0 (v := (.long (own_u (1 : Int32) 0 (own_g x0 x1 x2 (1 : Int32)) x0))) (by decide) rfl (hb hby own_d_method_3_code_142) (pc' := 143) rfl ?_
    refine own_lload X hx (hb hby own_d_method_3_code_143) (pc' := 145) rfl rfl ?_
    refine own_lcN X hx (hb hby own_d_method_3_code_145) (hb hby own_d_method_3_code_146) (pc' := 149) rfl (show (own_u (1 : Int32) 0 (own_g x0 x1 x2 (1 : Int32)) x0) = x0 from rfl) ?_
    refine own_aloadN X hx (hb hby own_d_method_3_code_149) (pc' := 150) rfl rfl rfl ?_
    refine own_iconst X hx (1 : Int32) (hb hby own_d_method_3_code_150) (pc' := 151) rfl rfl ?_
    refine own_laload X hx hZ eT A_v0 (v := (.long (own_u (1 : Int32) 1 (own_g x0 x1 x2 (1 : Int32)) x1))) (by decide) rfl (hb hby own_d_method_3_code_151) (pc' := 152) rfl ?_
    refine own_lload X hx (hb hby own_d_method_3_code_152) (pc' := 154) rfl rfl ?_
    refine own_lcN X hx (hb hby own_d_method_3_code_154) (hb hby own_d_method_3_code_155) (pc' := 158) rfl (show (own_u (1 : Int32) 1 (own_g x0 x1 x2 (1 : Int32)) x1) = x1 from rfl) ?_
    refine own_aloadN X hx (hb hby own_d_method_3_code_158) (pc' := 159) rfl rfl rfl ?_
    refine own_iconst X hx (2 : Int32) (hb hby own_d_method_3_code_159) (pc' := 160) rfl rfl ?_
    refine own_laload X hx hZ eT A_v0 (v := (.long (own_u (1 : Int32) 2 (own_g x0 x1 x2 (1 : Int32)) x2))) (by decide) rfl (hb hby own_d_method_3_code_160) (pc' := 161) rfl ?_
    refine own_lload X hx (hb hby own_d_method_3_code_161) (pc' := 163) rfl rfl ?_
    refine own_lcN X hx (hb hby own_d_method_3_code_163) (hb hby own_d_method_3_code_164) (pc' := 167) rfl (show (own_u (1 : Int32) 2 (own_g x0 x1 x2 (1 : Int32)) x2) = x2 from rfl) ?_
    refine own_aloadN X hx (hb hby own_d_method_3_code_167) (pc' := 168) rfl rfl rfl ?_
    refine own_iconst X hx (0 : Int32) (hb hby own_d_method_3_code_168) (pc' := 169) rfl rfl ?_
    refine own_baloadZ X hx hZ eT A_m0 (v := (.int (own_uI (1 : Int32) 0 (own_gI s0 s1 s2 (1 : Int32)) s0))) (by decide) rfl (hb hby own_d_method_3_code_169) (pc' := 170) rfl ?_
    refine own_iload X hx (hb hby own_d_method_3_code_170) (pc' := 172) rfl rfl ?_
    refine own_icmpN X hx (hb hby own_d_method_3_code_172) (pc' := 175) rfl (show (own_uI (1 : Int32) 0 (own_gI s0 s1 s2 (1 : Int32)) s0) = s0 from rfl) ?_
    refine own_aloadN X hx (hb hby own_d_method_3_code_175) (pc' := 176) rfl rfl rfl ?_
    refine own_iconst X hx (1 : Int32) (hb hby own_d_method_3_code_176) (pc' := 177) rfl rfl ?_
    refine own_baloadZ X hx hZ eT A_m0 (v := (.int (own_uI (1 : Int32) 1 (own_gI s0 s1 s2 (1 : Int32)) s1))) (by decide) rfl (hb hby own_d_method_3_code_177) (pc' := 178) rfl ?_
    refine own_iload X hx (hb hby own_d_method_3_code_178) (pc' := 180) rfl rfl ?_
    refine own_icmpN X hx (hb hby own_d_method_3_code_180) (pc' := 183) rfl (show (own_uI (1 : Int32) 1 (own_gI s0 s1 s2 (1 : Int32)) s1) = s1 from rfl) ?_
    refine own_aloadN X hx (hb hby own_d_method_3_code_183) (pc' := 184) rfl rfl rfl ?_
    refine own_iconst X hx (2 : Int32) (hb hby own_d_method_3_code_184) (pc' := 185) rfl rfl ?_
    refine own_baloadZ X hx hZ eT A_m0 (v := (.int (own_uI (1 : Int32) 2 (own_gI s0 s1 s2 (1 : Int32)) s2))) (by decide) rfl (hb hby own_d_method_3_code_185) (pc' := 186) rfl ?_
    refine own_iload X hx (hb hby own_d_method_3_code_186) (pc' := 188) rfl rfl ?_
    refine own_icmpN X hx (hb hby own_d_method_3_code_188) (pc' := 191) rfl (show (own_uI (1 : Int32) 2 (own_gI s0 s1 s2 (1 : Int32)) s2) = s2 from rfl) ?_
    refine own_iconst X hx (1 : Int32) (hb hby own_d_method_3_code_191) (pc' := 192) rfl rfl ?_
    refine own_goto X hx (hb hby own_d_method_3_code_192) (by decide) (pc' := 196) rfl ?_
    refine own_retI X hx hlk (t := .boolean) (w' := (.int (1 : Int32))) Bd.returns (hb hby own_d_method_3_code_196) rfl rfl (by simp) (by decide) (by decide) ?_
    rw [eT]
    exact ⟨rfl, N, rfl⟩
  · show own_W p e below (own_Post s (Q_col Z v0 m0 (1 : Int32) (2 : Int32) x0 x1 x2 s0 s1 s2 h0 n0) 0 0) T m 0 #[.val (.ref v0), .val (.ref m0), .val (.int (1 : Int32)), .val (.int (2 : Int32)), .val (.long x0), .second, .val (.long x1), .second, .val (.long x2), .second, .val (.int s0), .val (.int s1), .val (.int s2), .unset, .unset, .unset, .unset, .unset, .unset, .unset, .unset, .unset, .unset, .unset, .unset] []
    refine own_iloadN X hx (hb hby own_d_method_3_code_0) (pc' := 1) rfl rfl ?_
    refine own_ifY X hx (hb hby own_d_method_3_code_1) (by decide) (pc' := 9) rfl (show ¬ ((1 : Int32) = (0 : Int32)) from (by decide)) ?_
    refine own_iloadN X hx (hb hby own_d_method_3_code_9) (pc' := 10) rfl rfl ?_
    refine own_iconst X hx (1 : Int32) (hb hby own_d_method_3_code_10) (pc' := 11) rfl rfl ?_
    refine own_icmpN X hx (hb hby own_d_method_3_code_11) (pc' := 14) rfl (show (1 : Int32) = (1 : Int32) from (by decide)) ?_
    refine own_lload X hx (hb hby own_d_method_3_code_14) (pc' := 16) rfl rfl ?_
    refine own_goto X hx (hb hby own_d_method_3_code_16) (by decide) (pc' := 21) rfl ?_
    refine own_lstore X hx (hb hby own_d_method_3_code_21) (pc' := 23) rfl (Ls' := #[.val (.ref v0), .val (.ref m0), .val (.int (1 : Int32)), .val (.int (2 : Int32)), .val (.long x0), .second, .val (.long x1), .second, .val (.long x2), .second, .val (.int s0), .val (.int s1), .val (.int s2), .val (.long x1), .second, .unset, .unset, .unset, .unset, .unset, .unset, .unset, .unset, .unset, .unset]) rfl ?_
    refine own_iloadN X hx (hb hby own_d_method_3_code_23) (pc' := 24) rfl rfl ?_
    refine own_ifY X hx (hb hby own_d_method_3_code_24) (by decide) (pc' := 32) rfl (show ¬ ((1 : Int32) = (0 : Int32)) from (by decide)) ?_
    refine own_iloadN X hx (hb hby own_d_method_3_code_32) (pc' := 33) rfl rfl ?_
    refine own_iconst X hx (1 : Int32) (hb hby own_d_method_3_code_33) (pc' := 34) rfl rfl ?_
    refine own_icmpN X hx (hb hby own_d_method_3_code_34) (pc' := 37) rfl (show (1 : Int32) = (1 : Int32) from (by decide)) ?_
    refine own_iload X hx (hb hby own_d_method_3_code_37) (pc' := 39) rfl rfl ?_
    refine own_goto X hx (hb hby own_d_method_3_code_39) (by decide) (pc' := 44) rfl ?_
    refine own_istore X hx (hb hby own_d_method_3_code_44) (pc' := 46) rfl (Ls' := #[.val (.ref v0), .val (.ref m0), .val (.int (1 : Int32)), .val (.int (2 : Int32)), .val (.long x0), .second, .val (.long x1), .second, .val (.long x2), .second, .val (.int s0), .val (.int s1), .val (.int s2), .val (.long x1), .second, .val (.int s1), .unset, .unset, .unset, .unset, .unset, .unset, .unset, .unset, .unset]) rfl ?_
    refine own_iloadN X hx (hb hby own_d_method_3_code_46) (pc' := 47) rfl rfl ?_
    refine own_ifY X hx (hb hby own_d_method_3_code_47) (by decide) (pc' := 55) rfl (show ¬ ((2 : Int32) = (0 : Int32)) from (by decide)) ?_
    refine own_lload X hx (hb hby own_d_method_3_code_55) (pc' := 57) rfl rfl ?_
    refine own_lstore X hx (hb hby own_d_method_3_code_57) (pc' := 59) rfl (Ls' := #[.val (.ref v0), .val (.ref m0), .val (.int (1 : Int32)), .val (.int (2 : Int32)), .val (.long x0), .second, .val (.long x1), .second, .val (.long x2), .second, .val (.int s0), .val (.int s1), .val (.int s2), .val (.long x1), .second, .val (.int s1), .val (.long x0), .second, .unset, .unset, .unset, .unset, .unset, .unset, .unset]) rfl ?_
    refine own_iloadN X hx (hb hby own_d_method_3_code_59) (pc' := 60) rfl rfl ?_
    refine own_iconst X hx (1 : Int32) (hb hby own_d_method_3_code_60) (pc' := 61) rfl rfl ?_
    refine own_icmpY X hx (hb hby own_d_method_3_code_61) (by decide) (pc' := 69) rfl (show ¬ ((2 : Int32) = (1 : Int32)) from (by decide)) ?_
    refine own_lload X hx (hb hby own_d_method_3_code_69) (pc' := 71) rfl rfl ?_
    refine own_lstore X hx (hb hby own_d_method_3_code_71) (pc' := 73) rfl (Ls' := #[.val (.ref v0), .val (.ref m0), .val (.int (1 : Int32)), .val (.int (2 : Int32)), .val (.long x0), .second, .val (.long x1), .second, .val (.long x2), .second, .val (.int s0), .val (.int s1), .val (.int s2), .val (.long x1), .second, .val (.int s1), .val (.long x0), .second, .val (.long x1), .second, .unset, .unset, .unset, .unset, .unset]) rfl ?_
    refine own_iloadN X hx (hb hby own_d_method_3_code_73) (pc' := 74) rfl rfl ?_
    refine own_iconst X hx (2 : Int32) (hb hby own_d_method_3_code_74) (pc' := 75) rfl rfl ?_
    refine own_icmpN X hx (hb hby own_d_method_3_code_75) (pc' := 78) rfl (show (2 : Int32) = (2 : Int32) from (by decide)) ?_
    refine own_lload X hx (hb hby own_d_method_3_code_78) (pc' := 80) rfl rfl ?_
    refine own_goto X hx (hb hby own_d_method_3_code_80) (by decide) (pc' := 85) rfl ?_
    refine own_lstore X hx (hb hby own_d_method_3_code_85) (pc' := 87) rfl (Ls' := #[.val (.ref v0), .val (.ref m0), .val (.int (1 : Int32)), .val (.int (2 : Int32)), .val (.long x0), .second, .val (.long x1), .second, .val (.long x2), .second, .val (.int s0), .val (.int s1), .val (.int s2), .val (.long x1), .second, .val (.int s1), .val (.long x0), .second, .val (.long x1), .second, .val (.long x1), .second, .unset, .unset, .unset]) rfl ?_
    refine own_iloadN X hx (hb hby own_d_method_3_code_87) (pc' := 88) rfl rfl ?_
    refine own_ifY X hx (hb hby own_d_method_3_code_88) (by decide) (pc' := 96) rfl (show ¬ ((2 : Int32) = (0 : Int32)) from (by decide)) ?_
    refine own_iload X hx (hb hby own_d_method_3_code_96) (pc' := 98) rfl rfl ?_
    refine own_istore X hx (hb hby own_d_method_3_code_98) (pc' := 100) rfl (Ls' := #[.val (.ref v0), .val (.ref m0), .val (.int (1 : Int32)), .val (.int (2 : Int32)), .val (.long x0), .second, .val (.long x1), .second, .val (.long x2), .second, .val (.int s0), .val (.int s1), .val (.int s2), .val (.long x1), .second, .val (.int s1), .val (.long x0), .second, .val (.long x1), .second, .val (.long x1), .second, .val (.int s0), .unset, .unset]) rfl ?_
    refine own_iloadN X hx (hb hby own_d_method_3_code_100) (pc' := 101) rfl rfl ?_
    refine own_iconst X hx (1 : Int32) (hb hby own_d_method_3_code_101) (pc' := 102) rfl rfl ?_
    refine own_icmpY X hx (hb hby own_d_method_3_code_102) (by decide) (pc' := 110) rfl (show ¬ ((2 : Int32) = (1 : Int32)) from (by decide)) ?_
    refine own_iload X hx (hb hby own_d_method_3_code_110) (pc' := 112) rfl rfl ?_
    refine own_istore X hx (hb hby own_d_method_3_code_112) (pc' := 114) rfl (Ls' := #[.val (.ref v0), .val (.ref m0), .val (.int (1 : Int32)), .val (.int (2 : Int32)), .val (.long x0), .second, .val (.long x1), .second, .val (.long x2), .second, .val (.int s0), .val (.int s1), .val (.int s2), .val (.long x1), .second, .val (.int s1), .val (.long x0), .second, .val (.long x1), .second, .val (.long x1), .second, .val (.int s0), .val (.int s1), .unset]) rfl ?_
    refine own_iloadN X hx (hb hby own_d_method_3_code_114) (pc' := 115) rfl rfl ?_
    refine own_iconst X hx (2 : Int32) (hb hby own_d_method_3_code_115) (pc' := 116) rfl rfl ?_
    refine own_icmpN X hx (hb hby own_d_method_3_code_116) (pc' := 119) rfl (show (2 : Int32) = (2 : Int32) from (by decide)) ?_
    refine own_iload X hx (hb hby own_d_method_3_code_119) (pc' := 121) rfl rfl ?_
    refine own_goto X hx (hb hby own_d_method_3_code_121) (by decide) (pc' := 126) rfl ?_
    refine own_istore X hx (hb hby own_d_method_3_code_126) (pc' := 128) rfl (Ls' := #[.val (.ref v0), .val (.ref m0), .val (.int (1 : Int32)), .val (.int (2 : Int32)), .val (.long x0), .second, .val (.long x1), .second, .val (.long x2), .second, .val (.int s0), .val (.int s1), .val (.int s2), .val (.long x1), .second, .val (.int s1), .val (.long x0), .second, .val (.long x1), .second, .val (.long x1), .second, .val (.int s0), .val (.int s1), .val (.int s1)]) rfl ?_
    refine own_aloadN X hx (hb hby own_d_method_3_code_128) (pc' := 129) rfl rfl rfl ?_
    refine own_arrlen X hx hZ eT A_v0 (hb hby own_d_method_3_code_129) (pc' := 130) rfl ?_
    refine own_iconst X hx (3 : Int32) (hb hby own_d_method_3_code_130) (pc' := 131) rfl rfl ?_
    refine own_icmpN X hx (hb hby own_d_method_3_code_131) (pc' := 134) rfl (show (3 : Int32) = (3 : Int32) from (by decide)) ?_
    refine own_aloadN X hx (hb hby own_d_method_3_code_134) (pc' := 135) rfl rfl rfl ?_
    refine own_arrlen X hx hZ eT A_m0 (hb hby own_d_method_3_code_135) (pc' := 136) rfl ?_
    refine own_iconst X hx (3 : Int32) (hb hby own_d_method_3_code_136) (pc' := 137) rfl rfl ?_
    refine own_icmpN X hx (hb hby own_d_method_3_code_137) (pc' := 140) rfl (show (3 : Int32) = (3 : Int32) from (by decide)) ?_
    refine own_aloadN X hx (hb hby own_d_method_3_code_140) (pc' := 141) rfl rfl rfl ?_
    refine own_iconst X hx (0 : Int32) (hb hby own_d_method_3_code_141) (pc' := 142) rfl rfl ?_
    refine own_laload X hx hZ eT A_v0 (v := (.long (own_u (2 : Int32) 0 (own_g x0 x1 x2 (1 : Int32)) x0))) (by decide) rfl (hb hby own_d_method_3_code_142) (pc' := 143) rfl ?_
    refine own_lload X hx (hb hby own_d_method_3_code_143) (pc' := 145) rfl rfl ?_
    refine own_lcN X hx (hb hby own_d_method_3_code_145) (hb hby own_d_method_3_code_146) (pc' := 149) rfl (show (own_u (2 : Int32) 0 (own_g x0 x1 x2 (1 : Int32)) x0) = x0 from rfl) ?_
    refine own_aloadN X hx (hb hby own_d_method_3_code_149) (pc' := 150) rfl rfl rfl ?_
    refine own_iconst X hx (1 : Int32) (hb hby own_d_method_3_code_150) (pc' := 151) rfl rfl ?_
    refine own_laload X hx hZ eT A_v0 (v := (.long (own_u (2 : Int32) 1 (own_g x0 x1 x2 (1 : Int32)) x1))) (by decide) rfl (hb hby own_d_method_3_code_151) (pc' := 152) rfl ?_
    refine own_lload X hx (hb hby own_d_method_3_code_152) (pc' := 154) rfl rfl ?_
    refine own_lcN X hx (hb hby own_d_method_3_code_154) (hb hby own_d_method_3_code_155) (pc' := 158) rfl (show (own_u (2 : Int32) 1 (own_g x0 x1 x2 (1 : Int32)) x1) = x1 from rfl) ?_
    refine own_aloadN X hx (hb hby own_d_method_3_code_158) (pc' := 159) rfl rfl rfl ?_
    refine own_iconst X hx (2 : Int32) (hb hby own_d_method_3_code_159) (pc' := 160) rfl rfl ?_
    refine own_laload X hx hZ eT A_v0 (v := (.long (own_u (2 : Int32) 2 (own_g x0 x1 x2 (1 : Int32)) x2))) (by decide) rfl (hb hby own_d_method_3_code_160) (pc' := 161) rfl ?_
    refine own_lload X hx (hb hby own_d_method_3_code_161) (pc' := 163) rfl rfl ?_
    refine own_lcN X hx (hb hby own_d_method_3_code_163) (hb hby own_d_method_3_code_164) (pc' := 167) rfl (show (own_u (2 : Int32) 2 (own_g x0 x1 x2 (1 : Int32)) x2) = x1 from rfl) ?_
    refine own_aloadN X hx (hb hby own_d_method_3_code_167) (pc' := 168) rfl rfl rfl ?_
    refine own_iconst X hx (0 : Int32) (hb hby own_d_method_3_code_168) (pc' := 169) rfl rfl ?_
    refine own_baloadZ X hx hZ eT A_m0 (v := (.int (own_uI (2 : Int32) 0 (own_gI s0 s1 s2 (1 : Int32)) s0))) (by decide) rfl (hb hby own_d_method_3_code_169) (pc' := 170) rfl ?_
    refine own_iload X hx (hb hby own_d_method_3_code_170) (pc' := 172) rfl rfl ?_
    refine own_icmpN X hx (hb hby own_d_method_3_code_172) (pc' := 175) rfl (show (own_uI (2 : Int32) 0 (own_gI s0 s1 s2 (1 : Int32)) s0) = s0 from rfl) ?_
    refine own_aloadN X hx (hb hby own_d_method_3_code_175) (pc' := 176) rfl rfl rfl ?_
    refine own_iconst X hx (1 : Int32) (hb hby own_d_method_3_code_176) (pc' := 177) rfl rfl ?_
    refine own_baloadZ X hx hZ eT A_m0 (v := (.int (own_uI (2 : Int32) 1 (own_gI s0 s1 s2 (1 : Int32)) s1))) (by decide) rfl (hb hby own_d_method_3_code_177) (pc' := 178) rfl ?_
    refine own_iload X hx (hb hby own_d_method_3_code_178) (pc' := 180) rfl rfl ?_
    refine own_icmpN X hx (hb hby own_d_method_3_code_180) (pc' := 183) rfl (show (own_uI (2 : Int32) 1 (own_gI s0 s1 s2 (1 : Int32)) s1) = s1 from rfl) ?_
    refine own_aloadN X hx (hb hby own_d_method_3_code_183) (pc' := 184) rfl rfl rfl ?_
    refine own_iconst X hx (2 : Int32) (hb hby own_d_method_3_code_184) (pc' := 185) rfl rfl ?_
    refine own_baloadZ X hx hZ eT A_m0 (v := (.int (own_uI (2 : Int32) 2 (own_gI s0 s1 s2 (1 : Int32)) s2))) (by decide) rfl (hb hby own_d_method_3_code_185) (pc' := 186) rfl ?_
    refine own_iload X hx (hb hby own_d_method_3_code_186) (pc' := 188) rfl rfl ?_
    refine own_icmpN X hx (hb hby own_d_method_3_code_188) (pc' := 191) rfl (show (own_uI (2 : Int32) 2 (own_gI s0 s1 s2 (1 : Int32)) s2) = s1 from rfl) ?_
    refine own_iconst X hx (1 : Int32) (hb hby own_d_method_3_code_191) (pc' := 192) rfl rfl ?_
    refine own_goto X hx (hb hby own_d_method_3_code_192) (by decide) (pc' := 196) rfl ?_
    refine own_retI X hx hlk (t := .boolean) (w' := (.int (1 : Int32))) Bd.returns (hb hby own_d_method_3_code_196) rfl rfl (by simp) (by decide) (by decide) ?_
    rw [eT]
    exact ⟨rfl, N, rfl⟩
  · show own_W p e below (own_Post s (Q_col Z v0 m0 (2 : Int32) (0 : Int32) x0 x1 x2 s0 s1 s2 h0 n0) 0 0) T m 0 #[.val (.ref v0), .val (.ref m0), .val (.int (2 : Int32)), .val (.int (0 : Int32)), .val (.long x0), .second, .val (.long x1), .second, .val (.long x2), .second, .val (.int s0), .val (.int s1), .val (.int s2), .unset, .unset, .unset, .unset, .unset, .unset, .unset, .unset, .unset, .unset, .unset, .unset] []
    refine own_iloadN X hx (hb hby own_d_method_3_code_0) (pc' := 1) rfl rfl ?_
    refine own_ifY X hx (hb hby own_d_method_3_code_1) (by decide) (pc' := 9) rfl (show ¬ ((2 : Int32) = (0 : Int32)) from (by decide)) ?_
    refine own_iloadN X hx (hb hby own_d_method_3_code_9) (pc' := 10) rfl rfl ?_
    refine own_iconst X hx (1 : Int32) (hb hby own_d_method_3_code_10) (pc' := 11) rfl rfl ?_
    refine own_icmpY X hx (hb hby own_d_method_3_code_11) (by decide) (pc' := 19) rfl (show ¬ ((2 : Int32) = (1 : Int32)) from (by decide)) ?_
    refine own_lload X hx (hb hby own_d_method_3_code_19) (pc' := 21) rfl rfl ?_
    refine own_lstore X hx (hb hby own_d_method_3_code_21) (pc' := 23) rfl (Ls' := #[.val (.ref v0), .val (.ref m0), .val (.int (2 : Int32)), .val (.int (0 : Int32)), .val (.long x0), .second, .val (.long x1), .second, .val (.long x2), .second, .val (.int s0), .val (.int s1), .val (.int s2), .val (.long x2), .second, .unset, .unset, .unset, .unset, .unset, .unset, .unset, .unset, .unset, .unset]) rfl ?_
    refine own_iloadN X hx (hb hby own_d_method_3_code_23) (pc' := 24) rfl rfl ?_
    refine own_ifY X hx (hb hby own_d_method_3_code_24) (by decide) (pc' := 32) rfl (show ¬ ((2 : Int32) = (0 : Int32)) from (by decide)) ?_
    refine own_iloadN X hx (hb hby own_d_method_3_code_32) (pc' := 33) rfl rfl ?_
    refine own_iconst X hx (1 : Int32) (hb hby own_d_method_3_code_33) (pc' := 34) rfl rfl ?_
    refine own_icmpY X hx (hb hby own_d_method_3_code_34) (by decide) (pc' := 42) rfl (show ¬ ((2 : Int32) = (1 : Int32)) from (by decide)) ?_
    refine own_iload X hx (hb hby own_d_method_3_code_42) (pc' := 44) rfl rfl ?_
    refine own_istore X hx (hb hby own_d_method_3_code_44) (pc' := 46) rfl (Ls' := #[.val (.ref v0), .val (.ref m0), .val (.int (2 : Int32)), .val (.int (0 : Int32)), .val (.long x0), .second, .val (.long x1), .second, .val (.long x2), .second, .val (.int s0), .val (.int s1), .val (.int s2), .val (.long x2), .second, .val (.int s2), .unset, .unset, .unset, .unset, .unset, .unset, .unset, .unset, .unset]) rfl ?_
    refine own_iloadN X hx (hb hby own_d_method_3_code_46) (pc' := 47) rfl rfl ?_
    refine own_ifN X hx (hb hby own_d_method_3_code_47) (pc' := 50) rfl (show (0 : Int32) = (0 : Int32) from (by decide)) ?_
    refine own_lload X hx (hb hby own_d_method_3_code_50) (pc' := 52) rfl rfl ?_
    refine own_goto X hx (hb hby own_d_method_3_code_52) (by decide) (pc' := 57) rfl ?_
    refine own_lstore X hx (hb hby own_d_method_3_code_57) (pc' := 59) rfl (Ls' := #[.val (.ref v0), .val (.ref m0), .val (.int (2 : Int32)), .val (.int (0 : Int32)), .val (.long x0), .second, .val (.long x1), .second, .val (.long x2), .second, .val (.int s0), .val (.int s1), .val (.int s2), .val (.long x2), .second, .val (.int s2), .val (.long x2), .second, .unset, .unset, .unset, .unset, .unset, .unset, .unset]) rfl ?_
    refine own_iloadN X hx (hb hby own_d_method_3_code_59) (pc' := 60) rfl rfl ?_
    refine own_iconst X hx (1 : Int32) (hb hby own_d_method_3_code_60) (pc' := 61) rfl rfl ?_
    refine own_icmpY X hx (hb hby own_d_method_3_code_61) (by decide) (pc' := 69) rfl (show ¬ ((0 : Int32) = (1 : Int32)) from (by decide)) ?_
    refine own_lload X hx (hb hby own_d_method_3_code_69) (pc' := 71) rfl rfl ?_
    refine own_lstore X hx (hb hby own_d_method_3_code_71) (pc' := 73) rfl (Ls' := #[.val (.ref v0), .val (.ref m0), .val (.int (2 : Int32)), .val (.int (0 : Int32)), .val (.long x0), .second, .val (.long x1), .second, .val (.long x2), .second, .val (.int s0), .val (.int s1), .val (.int s2), .val (.long x2), .second, .val (.int s2), .val (.long x2), .second, .val (.long x1), .second, .unset, .unset, .unset, .unset, .unset]) rfl ?_
    refine own_iloadN X hx (hb hby own_d_method_3_code_73) (pc' := 74) rfl rfl ?_
    refine own_iconst X hx (2 : Int32) (hb hby own_d_method_3_code_74) (pc' := 75) rfl rfl ?_
    refine own_icmpY X hx (hb hby own_d_method_3_code_75) (by decide) (pc' := 83) rfl (show ¬ ((0 : Int32) = (2 : Int32)) from (by decide)) ?_
    refine own_lload X hx (hb hby own_d_method_3_code_83) (pc' := 85) rfl rfl ?_
    refine own_lstore X hx (hb hby own_d_method_3_code_85) (pc' := 87) rfl (Ls' := #[.val (.ref v0), .val (.ref m0), .val (.int (2 : Int32)), .val (.int (0 : Int32)), .val (.long x0), .second, .val (.long x1), .second, .val (.long x2), .second, .val (.int s0), .val (.int s1), .val (.int s2), .val (.long x2), .second, .val (.int s2), .val (.long x2), .second, .val (.long x1), .second, .val (.long x2), .second, .unset, .unset, .unset]) rfl ?_
    refine own_iloadN X hx (hb hby own_d_method_3_code_87) (pc' := 88) rfl rfl ?_
    refine own_ifN X hx (hb hby own_d_method_3_code_88) (pc' := 91) rfl (show (0 : Int32) = (0 : Int32) from (by decide)) ?_
    refine own_iload X hx (hb hby own_d_method_3_code_91) (pc' := 93) rfl rfl ?_
    refine own_goto X hx (hb hby own_d_method_3_code_93) (by decide) (pc' := 98) rfl ?_
    refine own_istore X hx (hb hby own_d_method_3_code_98) (pc' := 100) rfl (Ls' := #[.val (.ref v0), .val (.ref m0), .val (.int (2 : Int32)), .val (.int (0 : Int32)), .val (.long x0), .second, .val (.long x1), .second, .val (.long x2), .second, .val (.int s0), .val (.int s1), .val (.int s2), .val (.long x2), .second, .val (.int s2), .val (.long x2), .second, .val (.long x1), .second, .val (.long x2), .second, .val (.int s2), .unset, .unset]) rfl ?_
    refine own_iloadN X hx (hb hby own_d_method_3_code_100) (pc' := 101) rfl rfl ?_
    refine own_iconst X hx (1 : Int32) (hb hby own_d_method_3_code_101) (pc' := 102) rfl rfl ?_
    refine own_icmpY X hx (hb hby own_d_method_3_code_102) (by decide) (pc' := 110) rfl (show ¬ ((0 : Int32) = (1 : Int32)) from (by decide)) ?_
    refine own_iload X hx (hb hby own_d_method_3_code_110) (pc' := 112) rfl rfl ?_
    refine own_istore X hx (hb hby own_d_method_3_code_112) (pc' := 114) rfl (Ls' := #[.val (.ref v0), .val (.ref m0), .val (.int (2 : Int32)), .val (.int (0 : Int32)), .val (.long x0), .second, .val (.long x1), .second, .val (.long x2), .second, .val (.int s0), .val (.int s1), .val (.int s2), .val (.long x2), .second, .val (.int s2), .val (.long x2), .second, .val (.long x1), .second, .val (.long x2), .second, .val (.int s2), .val (.int s1), .unset]) rfl ?_
    refine own_iloadN X hx (hb hby own_d_method_3_code_114) (pc' := 115) rfl rfl ?_
    refine own_iconst X hx (2 : Int32) (hb hby own_d_method_3_code_115) (pc' := 116) rfl rfl ?_
    refine own_icmpY X hx (hb hby own_d_method_3_code_116) (by decide) (pc' := 124) rfl (show ¬ ((0 : Int32) = (2 : Int32)) from (by decide)) ?_
    refine own_iload X hx (hb hby own_d_method_3_code_124) (pc' := 126) rfl rfl ?_
    refine own_istore X hx (hb hby own_d_method_3_code_126) (pc' := 128) rfl (Ls' := #[.val (.ref v0), .val (.ref m0), .val (.int (2 : Int32)), .val (.int (0 : Int32)), .val (.long x0), .second, .val (.long x1), .second, .val (.long x2), .second, .val (.int s0), .val (.int s1), .val (.int s2), .val (.long x2), .second, .val (.int s2), .val (.long x2), .second, .val (.long x1), .second, .val (.long x2), .second, .val (.int s2), .val (.int s1), .val (.int s2)]) rfl ?_
    refine own_aloadN X hx (hb hby own_d_method_3_code_128) (pc' := 129) rfl rfl rfl ?_
    refine own_arrlen X hx hZ eT A_v0 (hb hby own_d_method_3_code_129) (pc' := 130) rfl ?_
    refine own_iconst X hx (3 : Int32) (hb hby own_d_method_3_code_130) (pc' := 131) rfl rfl ?_
    refine own_icmpN X hx (hb hby own_d_method_3_code_131) (pc' := 134) rfl (show (3 : Int32) = (3 : Int32) from (by decide)) ?_
    refine own_aloadN X hx (hb hby own_d_method_3_code_134) (pc' := 135) rfl rfl rfl ?_
    refine own_arrlen X hx hZ eT A_m0 (hb hby own_d_method_3_code_135) (pc' := 136) rfl ?_
    refine own_iconst X hx (3 : Int32) (hb hby own_d_method_3_code_136) (pc' := 137) rfl rfl ?_
    refine own_icmpN X hx (hb hby own_d_method_3_code_137) (pc' := 140) rfl (show (3 : Int32) = (3 : Int32) from (by decide)) ?_
    refine own_aloadN X hx (hb hby own_d_method_3_code_140) (pc' := 141) rfl rfl rfl ?_
    refine own_iconst X hx (0 : Int32) (hb hby own_d_method_3_code_141) (pc' := 142) rfl rfl ?_
    refine own_laload X hx hZ eT A_v0 (v := (.long (own_u (0 : Int32) 0 (own_g x0 x1 x2 (2 : Int32)) x0))) (by decide) rfl (hb hby own_d_method_3_code_142) (pc' := 143) rfl ?_
    refine own_lload X hx (hb hby own_d_method_3_code_143) (pc' := 145) rfl rfl ?_
    refine own_lcN X hx (hb hby own_d_method_3_code_145) (hb hby own_d_method_3_code_146) (pc' := 149) rfl (show (own_u (0 : Int32) 0 (own_g x0 x1 x2 (2 : Int32)) x0) = x2 from rfl) ?_
    refine own_aloadN X hx (hb hby own_d_method_3_code_149) (pc' := 150) rfl rfl rfl ?_
    refine own_iconst X hx (1 : Int32) (hb hby own_d_method_3_code_150) (pc' := 151) rfl rfl ?_
    refine own_laload X hx hZ eT A_v0 (v := (.long (own_u (0 : Int32) 1 (own_g x0 x1 x2 (2 : Int32)) x1))) (by decide) rfl (hb hby own_d_method_3_code_151) (pc' := 152) rfl ?_
    refine own_lload X hx (hb hby own_d_method_3_code_152) (pc' := 154) rfl rfl ?_
    refine own_lcN X hx (hb hby own_d_method_3_code_154) (hb hby own_d_method_3_code_155) (pc' := 158) rfl (show (own_u (0 : Int32) 1 (own_g x0 x1 x2 (2 : Int32)) x1) = x1 from rfl) ?_
    refine own_aloadN X hx (hb hby own_d_method_3_code_158) (pc' := 159) rfl rfl rfl ?_
    refine own_iconst X hx (2 : Int32) (hb hby own_d_method_3_code_159) (pc' := 160) rfl rfl ?_
    refine own_laload X hx hZ eT A_v0 (v := (.long (own_u (0 : Int32) 2 (own_g x0 x1 x2 (2 : Int32)) x2))) (by decide) rfl (hb hby own_d_method_3_code_160) (pc' := 161) rfl ?_
    refine own_lload X hx (hb hby own_d_method_3_code_161) (pc' := 163) rfl rfl ?_
    refine own_lcN X hx (hb hby own_d_method_3_code_163) (hb hby own_d_method_3_code_164) (pc' := 167) rfl (show (own_u (0 : Int32) 2 (own_g x0 x1 x2 (2 : Int32)) x2) = x2 from rfl) ?_
    refine own_aloadN X hx (hb hby own_d_method_3_code_167) (pc' := 168) rfl rfl rfl ?_
    refine own_iconst X hx (0 : Int32) (hb hby own_d_method_3_code_168) (pc' := 169) rfl rfl ?_
    refine own_baloadZ X hx hZ eT A_m0 (v := (.int (own_uI (0 : Int32) 0 (own_gI s0 s1 s2 (2 : Int32)) s0))) (by decide) rfl (hb hby own_d_method_3_code_169) (pc' := 170) rfl ?_
    refine own_iload X hx (hb hby own_d_method_3_code_170) (pc' := 172) rfl rfl ?_
    refine own_icmpN X hx (hb hby own_d_method_3_code_172) (pc' := 175) rfl (show (own_uI (0 : Int32) 0 (own_gI s0 s1 s2 (2 : Int32)) s0) = s2 from rfl) ?_
    refine own_aloadN X hx (hb hby own_d_method_3_code_175) (pc' := 176) rfl rfl rfl ?_
    refine own_iconst X hx (1 : Int32) (hb hby own_d_method_3_code_176) (pc' := 177) rfl rfl ?_
    refine own_baloadZ X hx hZ eT A_m0 (v := (.int (own_uI (0 : Int32) 1 (own_gI s0 s1 s2 (2 : Int32)) s1))) (by decide) rfl (hb hby own_d_method_3_code_177) (pc' := 178) rfl ?_
    refine own_iload X hx (hb hby own_d_method_3_code_178) (pc' := 180) rfl rfl ?_
    refine own_icmpN X hx (hb hby own_d_method_3_code_180) (pc' := 183) rfl (show (own_uI (0 : Int32) 1 (own_gI s0 s1 s2 (2 : Int32)) s1) = s1 from rfl) ?_
    refine own_aloadN X hx (hb hby own_d_method_3_code_183) (pc' := 184) rfl rfl rfl ?_
    refine own_iconst X hx (2 : Int32) (hb hby own_d_method_3_code_184) (pc' := 185) rfl rfl ?_
    refine own_baloadZ X hx hZ eT A_m0 (v := (.int (own_uI (0 : Int32) 2 (own_gI s0 s1 s2 (2 : Int32)) s2))) (by decide) rfl (hb hby own_d_method_3_code_185) (pc' := 186) rfl ?_
    refine own_iload X hx (hb hby own_d_method_3_code_186) (pc' := 188) rfl rfl ?_
    refine own_icmpN X hx (hb hby own_d_method_3_code_188) (pc' := 191) rfl (show (own_uI (0 : Int32) 2 (own_gI s0 s1 s2 (2 : Int32)) s2) = s2 from rfl) ?_
    refine own_iconst X hx (1 : Int32) (hb hby own_d_method_3_code_191) (pc' := 192) rfl rfl ?_
    refine own_goto X hx (hb hby own_d_method_3_code_192) (by decide) (pc' := 196) rfl ?_
    refine own_retI X hx hlk (t := .boolean) (w' := (.int (1 : Int32))) Bd.returns (hb hby own_d_method_3_code_196) rfl rfl (by simp) (by decide) (by decide) ?_
    rw [eT]
    exact ⟨rfl, N, rfl⟩
  · show own_W p e below (own_Post s (Q_col Z v0 m0 (2 : Int32) (1 : Int32) x0 x1 x2 s0 s1 s2 h0 n0) 0 0) T m 0 #[.val (.ref v0), .val (.ref m0), .val (.int (2 : Int32)), .val (.int (1 : Int32)), .val (.long x0), .second, .val (.long x1), .second, .val (.long x2), .second, .val (.int s0), .val (.int s1), .val (.int s2), .unset, .unset, .unset, .unset, .unset, .unset, .unset, .unset, .unset, .unset, .unset, .unset] []
    refine own_iloadN X hx (hb hby own_d_method_3_code_0) (pc' := 1) rfl rfl ?_
    refine own_ifY X hx (hb hby own_d_method_3_code_1) (by decide) (pc' := 9) rfl (show ¬ ((2 : Int32) = (0 : Int32)) from (by decide)) ?_
    refine own_iloadN X hx (hb hby own_d_method_3_code_9) (pc' := 10) rfl rfl ?_
    refine own_iconst X hx (1 : Int32) (hb hby own_d_method_3_code_10) (pc' := 11) rfl rfl ?_
    refine own_icmpY X hx (hb hby own_d_method_3_code_11) (by decide) (pc' := 19) rfl (show ¬ ((2 : Int32) = (1 : Int32)) from (by decide)) ?_
    refine own_lload X hx (hb hby own_d_method_3_code_19) (pc' := 21) rfl rfl ?_
    refine own_lstore X hx (hb hby own_d_method_3_code_21) (pc' := 23) rfl (Ls' := #[.val (.ref v0), .val (.ref m0), .val (.int (2 : Int32)), .val (.int (1 : Int32)), .val (.long x0), .second, .val (.long x1), .second, .val (.long x2), .second, .val (.int s0), .val (.int s1), .val (.int s2), .val (.long x2), .second, .unset, .unset, .unset, .unset, .unset, .unset, .unset, .unset, .unset, .unset]) rfl ?_
    refine own_iloadN X hx (hb hby own_d_method_3_code_23) (pc' := 24) rfl rfl ?_
    refine own_ifY X hx (hb hby own_d_method_3_code_24) (by decide) (pc' := 32) rfl (show ¬ ((2 : Int32) = (0 : Int32)) from (by decide)) ?_
    refine own_iloadN X hx (hb hby own_d_method_3_code_32) (pc' := 33) rfl rfl ?_
    refine own_iconst X hx (1 : Int32) (hb hby own_d_method_3_code_33) (pc' := 34) rfl rfl ?_
    refine own_icmpY X hx (hb hby own_d_method_3_code_34) (by decide) (pc' := 42) rfl (show ¬ ((2 : Int32) = (1 : Int32)) from (by decide)) ?_
    refine own_iload X hx (hb hby own_d_method_3_code_42) (pc' := 44) rfl rfl ?_
    refine own_istore X hx (hb hby own_d_method_3_code_44) (pc' := 46) rfl (Ls' := #[.val (.ref v0), .val (.ref m0), .val (.int (2 : Int32)), .val (.int (1 : Int32)), .val (.long x0), .second, .val (.long x1), .second, .val (.long x2), .second, .val (.int s0), .val (.int s1), .val (.int s2), .val (.long x2), .second, .val (.int s2), .unset, .unset, .unset, .unset, .unset, .unset, .unset, .unset, .unset]) rfl ?_
    refine own_iloadN X hx (hb hby own_d_method_3_code_46) (pc' := 47) rfl rfl ?_
    refine own_ifY X hx (hb hby own_d_method_3_code_47) (by decide) (pc' := 55) rfl (show ¬ ((1 : Int32) = (0 : Int32)) from (by decide)) ?_
    refine own_lload X hx (hb hby own_d_method_3_code_55) (pc' := 57) rfl rfl ?_
    refine own_lstore X hx (hb hby own_d_method_3_code_57) (pc' := 59) rfl (Ls' := #[.val (.ref v0), .val (.ref m0), .val (.int (2 : Int32)), .val (.int (1 : Int32)), .val (.long x0), .second, .val (.long x1), .second, .val (.long x2), .second, .val (.int s0), .val (.int s1), .val (.int s2), .val (.long x2), .second, .val (.int s2), .val (.long x0), .second, .unset, .unset, .unset, .unset, .unset, .unset, .unset]) rfl ?_
    refine own_iloadN X hx (hb hby own_d_method_3_code_59) (pc' := 60) rfl rfl ?_
    refine own_iconst X hx (1 : Int32) (hb hby own_d_method_3_code_60) (pc' := 61) rfl rfl ?_
    refine own_icmpN X hx (hb hby own_d_method_3_code_61) (pc' := 64) rfl (show (1 : Int32) = (1 : Int32) from (by decide)) ?_
    refine own_lload X hx (hb hby own_d_method_3_code_64) (pc' := 66) rfl rfl ?_
    refine own_goto X hx (hb hby own_d_method_3_code_66) (by decide) (pc' := 71) rfl ?_
    refine own_lstore X hx (hb hby own_d_method_3_code_71) (pc' := 73) rfl (Ls' := #[.val (.ref v0), .val (.ref m0), .val (.int (2 : Int32)), .val (.int (1 : Int32)), .val (.long x0), .second, .val (.long x1), .second, .val (.long x2), .second, .val (.int s0), .val (.int s1), .val (.int s2), .val (.long x2), .second, .val (.int s2), .val (.long x0), .second, .val (.long x2), .second, .unset, .unset, .unset, .unset, .unset]) rfl ?_
    refine own_iloadN X hx (hb hby own_d_method_3_code_73) (pc' := 74) rfl rfl ?_
    refine own_iconst X hx (2 : Int32) (hb hby own_d_method_3_code_74) (pc' := 75) rfl rfl ?_
    refine own_icmpY X hx (hb hby own_d_method_3_code_75) (by decide) (pc' := 83) rfl (show ¬ ((1 : Int32) = (2 : Int32)) from (by decide)) ?_
    refine own_lload X hx (hb hby own_d_method_3_code_83) (pc' := 85) rfl rfl ?_
    refine own_lstore X hx (hb hby own_d_method_3_code_85) (pc' := 87) rfl (Ls' := #[.val (.ref v0), .val (.ref m0), .val (.int (2 : Int32)), .val (.int (1 : Int32)), .val (.long x0), .second, .val (.long x1), .second, .val (.long x2), .second, .val (.int s0), .val (.int s1), .val (.int s2), .val (.long x2), .second, .val (.int s2), .val (.long x0), .second, .val (.long x2), .second, .val (.long x2), .second, .unset, .unset, .unset]) rfl ?_
    refine own_iloadN X hx (hb hby own_d_method_3_code_87) (pc' := 88) rfl rfl ?_
    refine own_ifY X hx (hb hby own_d_method_3_code_88) (by decide) (pc' := 96) rfl (show ¬ ((1 : Int32) = (0 : Int32)) from (by decide)) ?_
    refine own_iload X hx (hb hby own_d_method_3_code_96) (pc' := 98) rfl rfl ?_
    refine own_istore X hx (hb hby own_d_method_3_code_98) (pc' := 100) rfl (Ls' := #[.val (.ref v0), .val (.ref m0), .val (.int (2 : Int32)), .val (.int (1 : Int32)), .val (.long x0), .second, .val (.long x1), .second, .val (.long x2), .second, .val (.int s0), .val (.int s1), .val (.int s2), .val (.long x2), .second, .val (.int s2), .val (.long x0), .second, .val (.long x2), .second, .val (.long x2), .second, .val (.int s0), .unset, .unset]) rfl ?_
    refine own_iloadN X hx (hb hby own_d_method_3_code_100) (pc' := 101) rfl rfl ?_
    refine own_iconst X hx (1 : Int32) (hb hby own_d_method_3_code_101) (pc' := 102) rfl rfl ?_
    refine own_icmpN X hx (hb hby own_d_method_3_code_102) (pc' := 105) rfl (show (1 : Int32) = (1 : Int32) from (by decide)) ?_
    refine own_iload X hx (hb hby own_d_method_3_code_105) (pc' := 107) rfl rfl ?_
    refine own_goto X hx (hb hby own_d_method_3_code_107) (by decide) (pc' := 112) rfl ?_
    refine own_istore X hx (hb hby own_d_method_3_code_112) (pc' := 114) rfl (Ls' := #[.val (.ref v0), .val (.ref m0), .val (.int (2 : Int32)), .val (.int (1 : Int32)), .val (.long x0), .second, .val (.long x1), .second, .val (.long x2), .second, .val (.int s0), .val (.int s1), .val (.int s2), .val (.long x2), .second, .val (.int s2), .val (.long x0), .second, .val (.long x2), .second, .val (.long x2), .second, .val (.int s0), .val (.int s2), .unset]) rfl ?_
    refine own_iloadN X hx (hb hby own_d_method_3_code_114) (pc' := 115) rfl rfl ?_
    refine own_iconst X hx (2 : Int32) (hb hby own_d_method_3_code_115) (pc' := 116) rfl rfl ?_
    refine own_icmpY X hx (hb hby own_d_method_3_code_116) (by decide) (pc' := 124) rfl (show ¬ ((1 : Int32) = (2 : Int32)) from (by decide)) ?_
    refine own_iload X hx (hb hby own_d_method_3_code_124) (pc' := 126) rfl rfl ?_
    refine own_istore X hx (hb hby own_d_method_3_code_126) (pc' := 128) rfl (Ls' := #[.val (.ref v0), .val (.ref m0), .val (.int (2 : Int32)), .val (.int (1 : Int32)), .val (.long x0), .second, .val (.long x1), .second, .val (.long x2), .second, .val (.int s0), .val (.int s1), .val (.int s2), .val (.long x2), .second, .val (.int s2), .val (.long x0), .second, .val (.long x2), .second, .val (.long x2), .second, .val (.int s0), .val (.int s2), .val (.int s2)]) rfl ?_
    refine own_aloadN X hx (hb hby own_d_method_3_code_128) (pc' := 129) rfl rfl rfl ?_
    refine own_arrlen X hx hZ eT A_v0 (hb hby own_d_method_3_code_129) (pc' := 130) rfl ?_
    refine own_iconst X hx (3 : Int32) (hb hby own_d_method_3_code_130) (pc' := 131) rfl rfl ?_
    refine own_icmpN X hx (hb hby own_d_method_3_code_131) (pc' := 134) rfl (show (3 : Int32) = (3 : Int32) from (by decide)) ?_
    refine own_aloadN X hx (hb hby own_d_method_3_code_134) (pc' := 135) rfl rfl rfl ?_
    refine own_arrlen X hx hZ eT A_m0 (hb hby own_d_method_3_code_135) (pc' := 136) rfl ?_
    refine own_iconst X hx (3 : Int32) (hb hby own_d_method_3_code_136) (pc' := 137) rfl rfl ?_
    refine own_icmpN X hx (hb hby own_d_method_3_code_137) (pc' := 140) rfl (show (3 : Int32) = (3 : Int32) from (by decide)) ?_
    refine own_aloadN X hx (hb hby own_d_method_3_code_140) (pc' := 141) rfl rfl rfl ?_
    refine own_iconst X hx (0 : Int32) (hb hby own_d_method_3_code_141) (pc' := 142) rfl rfl ?_
    refine own_laload X hx hZ eT A_v0 (v := (.long (own_u (1 : Int32) 0 (own_g x0 x1 x2 (2 : Int32)) x0))) (by decide) rfl (hb hby own_d_method_3_code_142) (pc' := 143) rfl ?_
    refine own_lload X hx (hb hby own_d_method_3_code_143) (pc' := 145) rfl rfl ?_
    refine own_lcN X hx (hb hby own_d_method_3_code_145) (hb hby own_d_method_3_code_146) (pc' := 149) rfl (show (own_u (1 : Int32) 0 (own_g x0 x1 x2 (2 : Int32)) x0) = x0 from rfl) ?_
    refine own_aloadN X hx (hb hby own_d_method_3_code_149) (pc' := 150) rfl rfl rfl ?_
    refine own_iconst X hx (1 : Int32) (hb hby own_d_method_3_code_150) (pc' := 151) rfl rfl ?_
    refine own_laload X hx hZ eT A_v0 (v := (.long (own_u (1 : Int32) 1 (own_g x0 x1 x2 (2 : Int32)) x1))) (by decide) rfl (hb hby own_d_method_3_code_151) (pc' := 152) rfl ?_
    refine own_lload X hx (hb hby own_d_method_3_code_152) (pc' := 154) rfl rfl ?_
    refine own_lcN X hx (hb hby own_d_method_3_code_154) (hb hby own_d_method_3_code_155) (pc' := 158) rfl (show (own_u (1 : Int32) 1 (own_g x0 x1 x2 (2 : Int32)) x1) = x2 from rfl) ?_
    refine own_aloadN X hx (hb hby own_d_method_3_code_158) (pc' := 159) rfl rfl rfl ?_
    refine own_iconst X hx (2 : Int32) (hb hby own_d_method_3_code_159) (pc' := 160) rfl rfl ?_
    refine own_laload X hx hZ eT A_v0 (v := (.long (own_u (1 : Int32) 2 (own_g x0 x1 x2 (2 : Int32)) x2))) (by decide) rfl (hb hby own_d_method_3_code_160) (pc' := 161) rfl ?_
    refine own_lload X hx (hb hby own_d_method_3_code_161) (pc' := 163) rfl rfl ?_
    refine own_lcN X hx (hb hby own_d_method_3_code_163) (hb hby own_d_method_3_code_164) (pc' := 167) rfl (show (own_u (1 : Int32) 2 (own_g x0 x1 x2 (2 : Int32)) x2) = x2 from rfl) ?_
    refine own_aloadN X hx (hb hby own_d_method_3_code_167) (pc' := 168) rfl rfl rfl ?_
    refine own_iconst X hx (0 : Int32) (hb hby own_d_method_3_code_168) (pc' := 169) rfl rfl ?_
    refine own_baloadZ X hx hZ eT A_m0 (v := (.int (own_uI (1 : Int32) 0 (own_gI s0 s1 s2 (2 : Int32)) s0))) (by decide) rfl (hb hby own_d_method_3_code_169) (pc' := 170) rfl ?_
    refine own_iload X hx (hb hby own_d_method_3_code_170) (pc' := 172) rfl rfl ?_
    refine own_icmpN X hx (hb hby own_d_method_3_code_172) (pc' := 175) rfl (show (own_uI (1 : Int32) 0 (own_gI s0 s1 s2 (2 : Int32)) s0) = s0 from rfl) ?_
    refine own_aloadN X hx (hb hby own_d_method_3_code_175) (pc' := 176) rfl rfl rfl ?_
    refine own_iconst X hx (1 : Int32) (hb hby own_d_method_3_code_176) (pc' := 177) rfl rfl ?_
    refine own_baloadZ X hx hZ eT A_m0 (v := (.int (own_uI (1 : Int32) 1 (own_gI s0 s1 s2 (2 : Int32)) s1))) (by decide) rfl (hb hby own_d_method_3_code_177) (pc' := 178) rfl ?_
    refine own_iload X hx (hb hby own_d_method_3_code_178) (pc' := 180) rfl rfl ?_
    refine own_icmpN X hx (hb hby own_d_method_3_code_180) (pc' := 183) rfl (show (own_uI (1 : Int32) 1 (own_gI s0 s1 s2 (2 : Int32)) s1) = s2 from rfl) ?_
    refine own_aloadN X hx (hb hby own_d_method_3_code_183) (pc' := 184) rfl rfl rfl ?_
    refine own_iconst X hx (2 : Int32) (hb hby own_d_method_3_code_184) (pc' := 185) rfl rfl ?_
    refine own_baloadZ X hx hZ eT A_m0 (v := (.int (own_uI (1 : Int32) 2 (own_gI s0 s1 s2 (2 : Int32)) s2))) (by decide) rfl (hb hby own_d_method_3_code_185) (pc' := 186) rfl ?_
    refine own_iload X hx (hb hby own_d_method_3_code_186) (pc' := 188) rfl rfl ?_
    refine own_icmpN X hx (hb hby own_d_method_3_code_188) (pc' := 191) rfl (show (own_uI (1 : Int32) 2 (own_gI s0 s1 s2 (2 : Int32)) s2) = s2 from rfl) ?_
    refine own_iconst X hx (1 : Int32) (hb hby own_d_method_3_code_191) (pc' := 192) rfl rfl ?_
    refine own_goto X hx (hb hby own_d_method_3_code_192) (by decide) (pc' := 196) rfl ?_
    refine own_retI X hx hlk (t := .boolean) (w' := (.int (1 : Int32))) Bd.returns (hb hby own_d_method_3_code_196) rfl rfl (by simp) (by decide) (by decide) ?_
    rw [eT]
    exact ⟨rfl, N, rfl⟩
  · show own_W p e below (own_Post s (Q_col Z v0 m0 (2 : Int32) (2 : Int32) x0 x1 x2 s0 s1 s2 h0 n0) 0 0) T m 0 #[.val (.ref v0), .val (.ref m0), .val (.int (2 : Int32)), .val (.int (2 : Int32)), .val (.long x0), .second, .val (.long x1), .second, .val (.long x2), .second, .val (.int s0), .val (.int s1), .val (.int s2), .unset, .unset, .unset, .unset, .unset, .unset, .unset, .unset, .unset, .unset, .unset, .unset] []
    refine own_iloadN X hx (hb hby own_d_method_3_code_0) (pc' := 1) rfl rfl ?_
    refine own_ifY X hx (hb hby own_d_method_3_code_1) (by decide) (pc' := 9) rfl (show ¬ ((2 : Int32) = (0 : Int32)) from (by decide)) ?_
    refine own_iloadN X hx (hb hby own_d_method_3_code_9) (pc' := 10) rfl rfl ?_
    refine own_iconst X hx (1 : Int32) (hb hby own_d_method_3_code_10) (pc' := 11) rfl rfl ?_
    refine own_icmpY X hx (hb hby own_d_method_3_code_11) (by decide) (pc' := 19) rfl (show ¬ ((2 : Int32) = (1 : Int32)) from (by decide)) ?_
    refine own_lload X hx (hb hby own_d_method_3_code_19) (pc' := 21) rfl rfl ?_
    refine own_lstore X hx (hb hby own_d_method_3_code_21) (pc' := 23) rfl (Ls' := #[.val (.ref v0), .val (.ref m0), .val (.int (2 : Int32)), .val (.int (2 : Int32)), .val (.long x0), .second, .val (.long x1), .second, .val (.long x2), .second, .val (.int s0), .val (.int s1), .val (.int s2), .val (.long x2), .second, .unset, .unset, .unset, .unset, .unset, .unset, .unset, .unset, .unset, .unset]) rfl ?_
    refine own_iloadN X hx (hb hby own_d_method_3_code_23) (pc' := 24) rfl rfl ?_
    refine own_ifY X hx (hb hby own_d_method_3_code_24) (by decide) (pc' := 32) rfl (show ¬ ((2 : Int32) = (0 : Int32)) from (by decide)) ?_
    refine own_iloadN X hx (hb hby own_d_method_3_code_32) (pc' := 33) rfl rfl ?_
    refine own_iconst X hx (1 : Int32) (hb hby own_d_method_3_code_33) (pc' := 34) rfl rfl ?_
    refine own_icmpY X hx (hb hby own_d_method_3_code_34) (by decide) (pc' := 42) rfl (show ¬ ((2 : Int32) = (1 : Int32)) from (by decide)) ?_
    refine own_iload X hx (hb hby own_d_method_3_code_42) (pc' := 44) rfl rfl ?_
    refine own_istore X hx (hb hby own_d_method_3_code_44) (pc' := 46) rfl (Ls' := #[.val (.ref v0), .val (.ref m0), .val (.int (2 : Int32)), .val (.int (2 : Int32)), .val (.long x0), .second, .val (.long x1), .second, .val (.long x2), .second, .val (.int s0), .val (.int s1), .val (.int s2), .val (.long x2), .second, .val (.int s2), .unset, .unset, .unset, .unset, .unset, .unset, .unset, .unset, .unset]) rfl ?_
    refine own_iloadN X hx (hb hby own_d_method_3_code_46) (pc' := 47) rfl rfl ?_
    refine own_ifY X hx (hb hby own_d_method_3_code_47) (by decide) (pc' := 55) rfl (show ¬ ((2 : Int32) = (0 : Int32)) from (by decide)) ?_
    refine own_lload X hx (hb hby own_d_method_3_code_55) (pc' := 57) rfl rfl ?_
    refine own_lstore X hx (hb hby own_d_method_3_code_57) (pc' := 59) rfl (Ls' := #[.val (.ref v0), .val (.ref m0), .val (.int (2 : Int32)), .val (.int (2 : Int32)), .val (.long x0), .second, .val (.long x1), .second, .val (.long x2), .second, .val (.int s0), .val (.int s1), .val (.int s2), .val (.long x2), .second, .val (.int s2), .val (.long x0), .second, .unset, .unset, .unset, .unset, .unset, .unset, .unset]) rfl ?_
    refine own_iloadN X hx (hb hby own_d_method_3_code_59) (pc' := 60) rfl rfl ?_
    refine own_iconst X hx (1 : Int32) (hb hby own_d_method_3_code_60) (pc' := 61) rfl rfl ?_
    refine own_icmpY X hx (hb hby own_d_method_3_code_61) (by decide) (pc' := 69) rfl (show ¬ ((2 : Int32) = (1 : Int32)) from (by decide)) ?_
    refine own_lload X hx (hb hby own_d_method_3_code_69) (pc' := 71) rfl rfl ?_
    refine own_lstore X hx (hb hby own_d_method_3_code_71) (pc' := 73) rfl (Ls' := #[.val (.ref v0), .val (.ref m0), .val (.int (2 : Int32)), .val (.int (2 : Int32)), .val (.long x0), .second, .val (.long x1), .second, .val (.long x2), .second, .val (.int s0), .val (.int s1), .val (.int s2), .val (.long x2), .second, .val (.int s2), .val (.long x0), .second, .val (.long x1), .second, .unset, .unset, .unset, .unset, .unset]) rfl ?_
    refine own_iloadN X hx (hb hby own_d_method_3_code_73) (pc' := 74) rfl rfl ?_
    refine own_iconst X hx (2 : Int32) (hb hby own_d_method_3_code_74) (pc' := 75) rfl rfl ?_
    refine own_icmpN X hx (hb hby own_d_method_3_code_75) (pc' := 78) rfl (show (2 : Int32) = (2 : Int32) from (by decide)) ?_
    refine own_lload X hx (hb hby own_d_method_3_code_78) (pc' := 80) rfl rfl ?_
    refine own_goto X hx (hb hby own_d_method_3_code_80) (by decide) (pc' := 85) rfl ?_
    refine own_lstore X hx (hb hby own_d_method_3_code_85) (pc' := 87) rfl (Ls' := #[.val (.ref v0), .val (.ref m0), .val (.int (2 : Int32)), .val (.int (2 : Int32)), .val (.long x0), .second, .val (.long x1), .second, .val (.long x2), .second, .val (.int s0), .val (.int s1), .val (.int s2), .val (.long x2), .second, .val (.int s2), .val (.long x0), .second, .val (.long x1), .second, .val (.long x2), .second, .unset, .unset, .unset]) rfl ?_
    refine own_iloadN X hx (hb hby own_d_method_3_code_87) (pc' := 88) rfl rfl ?_
    refine own_ifY X hx (hb hby own_d_method_3_code_88) (by decide) (pc' := 96) rfl (show ¬ ((2 : Int32) = (0 : Int32)) from (by decide)) ?_
    refine own_iload X hx (hb hby own_d_method_3_code_96) (pc' := 98) rfl rfl ?_
    refine own_istore X hx (hb hby own_d_method_3_code_98) (pc' := 100) rfl (Ls' := #[.val (.ref v0), .val (.ref m0), .val (.int (2 : Int32)), .val (.int (2 : Int32)), .val (.long x0), .second, .val (.long x1), .second, .val (.long x2), .second, .val (.int s0), .val (.int s1), .val (.int s2), .val (.long x2), .second, .val (.int s2), .val (.long x0), .second, .val (.long x1), .second, .val (.long x2), .second, .val (.int s0), .unset, .unset]) rfl ?_
    refine own_iloadN X hx (hb hby own_d_method_3_code_100) (pc' := 101) rfl rfl ?_
    refine own_iconst X hx (1 : Int32) (hb hby own_d_method_3_code_101) (pc' := 102) rfl rfl ?_
    refine own_icmpY X hx (hb hby own_d_method_3_code_102) (by decide) (pc' := 110) rfl (show ¬ ((2 : Int32) = (1 : Int32)) from (by decide)) ?_
    refine own_iload X hx (hb hby own_d_method_3_code_110) (pc' := 112) rfl rfl ?_
    refine own_istore X hx (hb hby own_d_method_3_code_112) (pc' := 114) rfl (Ls' := #[.val (.ref v0), .val (.ref m0), .val (.int (2 : Int32)), .val (.int (2 : Int32)), .val (.long x0), .second, .val (.long x1), .second, .val (.long x2), .second, .val (.int s0), .val (.int s1), .val (.int s2), .val (.long x2), .second, .val (.int s2), .val (.long x0), .second, .val (.long x1), .second, .val (.long x2), .second, .val (.int s0), .val (.int s1), .unset]) rfl ?_
    refine own_iloadN X hx (hb hby own_d_method_3_code_114) (pc' := 115) rfl rfl ?_
    refine own_iconst X hx (2 : Int32) (hb hby own_d_method_3_code_115) (pc' := 116) rfl rfl ?_
    refine own_icmpN X hx (hb hby own_d_method_3_code_116) (pc' := 119) rfl (show (2 : Int32) = (2 : Int32) from (by decide)) ?_
    refine own_iload X hx (hb hby own_d_method_3_code_119) (pc' := 121) rfl rfl ?_
    refine own_goto X hx (hb hby own_d_method_3_code_121) (by decide) (pc' := 126) rfl ?_
    refine own_istore X hx (hb hby own_d_method_3_code_126) (pc' := 128) rfl (Ls' := #[.val (.ref v0), .val (.ref m0), .val (.int (2 : Int32)), .val (.int (2 : Int32)), .val (.long x0), .second, .val (.long x1), .second, .val (.long x2), .second, .val (.int s0), .val (.int s1), .val (.int s2), .val (.long x2), .second, .val (.int s2), .val (.long x0), .second, .val (.long x1), .second, .val (.long x2), .second, .val (.int s0), .val (.int s1), .val (.int s2)]) rfl ?_
    refine own_aloadN X hx (hb hby own_d_method_3_code_128) (pc' := 129) rfl rfl rfl ?_
    refine own_arrlen X hx hZ eT A_v0 (hb hby own_d_method_3_code_129) (pc' := 130) rfl ?_
    refine own_iconst X hx (3 : Int32) (hb hby own_d_method_3_code_130) (pc' := 131) rfl rfl ?_
    refine own_icmpN X hx (hb hby own_d_method_3_code_131) (pc' := 134) rfl (show (3 : Int32) = (3 : Int32) from (by decide)) ?_
    refine own_aloadN X hx (hb hby own_d_method_3_code_134) (pc' := 135) rfl rfl rfl ?_
    refine own_arrlen X hx hZ eT A_m0 (hb hby own_d_method_3_code_135) (pc' := 136) rfl ?_
    refine own_iconst X hx (3 : Int32) (hb hby own_d_method_3_code_136) (pc' := 137) rfl rfl ?_
    refine own_icmpN X hx (hb hby own_d_method_3_code_137) (pc' := 140) rfl (show (3 : Int32) = (3 : Int32) from (by decide)) ?_
    refine own_aloadN X hx (hb hby own_d_method_3_code_140) (pc' := 141) rfl rfl rfl ?_
    refine own_iconst X hx (0 : Int32) (hb hby own_d_method_3_code_141) (pc' := 142) rfl rfl ?_
    refine own_laload X hx hZ eT A_v0 (v := (.long (own_u (2 : Int32) 0 (own_g x0 x1 x2 (2 : Int32)) x0))) (by decide) rfl (hb hby own_d_method_3_code_142) (pc' := 143) rfl ?_
    refine own_lload X hx (hb hby own_d_method_3_code_143) (pc' := 145) rfl rfl ?_
    refine own_lcN X hx (hb hby own_d_method_3_code_145) (hb hby own_d_method_3_code_146) (pc' := 149) rfl (show (own_u (2 : Int32) 0 (own_g x0 x1 x2 (2 : Int32)) x0) = x0 from rfl) ?_
    refine own_aloadN X hx (hb hby own_d_method_3_code_149) (pc' := 150) rfl rfl rfl ?_
    refine own_iconst X hx (1 : Int32) (hb hby own_d_method_3_code_150) (pc' := 151) rfl rfl ?_
    refine own_laload X hx hZ eT A_v0 (v := (.long (own_u (2 : Int32) 1 (own_g x0 x1 x2 (2 : Int32)) x1))) (by decide) rfl (hb hby own_d_method_3_code_151) (pc' := 152) rfl ?_
    refine own_lload X hx (hb hby own_d_method_3_code_152) (pc' := 154) rfl rfl ?_
    refine own_lcN X hx (hb hby own_d_method_3_code_154) (hb hby own_d_method_3_code_155) (pc' := 158) rfl (show (own_u (2 : Int32) 1 (own_g x0 x1 x2 (2 : Int32)) x1) = x1 from rfl) ?_
    refine own_aloadN X hx (hb hby own_d_method_3_code_158) (pc' := 159) rfl rfl rfl ?_
    refine own_iconst X hx (2 : Int32) (hb hby own_d_method_3_code_159) (pc' := 160) rfl rfl ?_
    refine own_laload X hx hZ eT A_v0 (v := (.long (own_u (2 : Int32) 2 (own_g x0 x1 x2 (2 : Int32)) x2))) (by decide) rfl (hb hby own_d_method_3_code_160) (pc' := 161) rfl ?_
    refine own_lload X hx (hb hby own_d_method_3_code_161) (pc' := 163) rfl rfl ?_
    refine own_lcN X hx (hb hby own_d_method_3_code_163) (hb hby own_d_method_3_code_164) (pc' := 167) rfl (show (own_u (2 : Int32) 2 (own_g x0 x1 x2 (2 : Int32)) x2) = x2 from rfl) ?_
    refine own_aloadN X hx (hb hby own_d_method_3_code_167) (pc' := 168) rfl rfl rfl ?_
    refine own_iconst X hx (0 : Int32) (hb hby own_d_method_3_code_168) (pc' := 169) rfl rfl ?_
    refine own_baloadZ X hx hZ eT A_m0 (v := (.int (own_uI (2 : Int32) 0 (own_gI s0 s1 s2 (2 : Int32)) s0))) (by decide) rfl (hb hby own_d_method_3_code_169) (pc' := 170) rfl ?_
    refine own_iload X hx (hb hby own_d_method_3_code_170) (pc' := 172) rfl rfl ?_
    refine own_icmpN X hx (hb hby own_d_method_3_code_172) (pc' := 175) rfl (show (own_uI (2 : Int32) 0 (own_gI s0 s1 s2 (2 : Int32)) s0) = s0 from rfl) ?_
    refine own_aloadN X hx (hb hby own_d_method_3_code_175) (pc' := 176) rfl rfl rfl ?_
    refine own_iconst X hx (1 : Int32) (hb hby own_d_method_3_code_176) (pc' := 177) rfl rfl ?_
    refine own_baloadZ X hx hZ eT A_m0 (v := (.int (own_uI (2 : Int32) 1 (own_gI s0 s1 s2 (2 : Int32)) s1))) (by decide) rfl (hb hby own_d_method_3_code_177) (pc' := 178) rfl ?_
    refine own_iload X hx (hb hby own_d_method_3_code_178) (pc' := 180) rfl rfl ?_
    refine own_icmpN X hx (hb hby own_d_method_3_code_180) (pc' := 183) rfl (show (own_uI (2 : Int32) 1 (own_gI s0 s1 s2 (2 : Int32)) s1) = s1 from rfl) ?_
    refine own_aloadN X hx (hb hby own_d_method_3_code_183) (pc' := 184) rfl rfl rfl ?_
    refine own_iconst X hx (2 : Int32) (hb hby own_d_method_3_code_184) (pc' := 185) rfl rfl ?_
    refine own_baloadZ X hx hZ eT A_m0 (v := (.int (own_uI (2 : Int32) 2 (own_gI s0 s1 s2 (2 : Int32)) s2))) (by decide) rfl (hb hby own_d_method_3_code_185) (pc' := 186) rfl ?_
    refine own_iload X hx (hb hby own_d_method_3_code_186) (pc' := 188) rfl rfl ?_
    refine own_icmpN X hx (hb hby own_d_method_3_code_188) (pc' := 191) rfl (show (own_uI (2 : Int32) 2 (own_gI s0 s1 s2 (2 : Int32)) s2) = s2 from rfl) ?_
    refine own_iconst X hx (1 : Int32) (hb hby own_d_method_3_code_191) (pc' := 192) rfl rfl ?_
    refine own_goto X hx (hb hby own_d_method_3_code_192) (by decide) (pc' := 196) rfl ?_
    refine own_retI X hx hlk (t := .boolean) (w' := (.int (1 : Int32))) Bd.returns (hb hby own_d_method_3_code_196) rfl rfl (by simp) (by decide) (by decide) ?_
    rw [eT]
    exact ⟨rfl, N, rfl⟩
theorem own_pd_285bII29V : parseMethodDescriptor "([II)V" = some ⟨[(.array .int), .int], none⟩ := by decide +kernel
theorem own_pd_28I295bJ : parseMethodDescriptor "(I)[J" = some ⟨[.int], some (.array .long)⟩ := by decide +kernel
theorem own_pd_28I295bZ : parseMethodDescriptor "(I)[Z" = some ⟨[.int], some (.array .boolean)⟩ := by decide +kernel
theorem own_pd_28II29V : parseMethodDescriptor "(II)V" = some ⟨[.int, .int], none⟩ := by decide +kernel
theorem own_pd_285bJ5bZIIJJJZZZ29Z : parseMethodDescriptor "([J[ZIIJJJZZZ)Z" = some ⟨[(.array .long), (.array .boolean), .int, .int, .long, .long, .long, .boolean, .boolean, .boolean], some .boolean⟩ := by decide +kernel
theorem own_pd_2829I : parseMethodDescriptor "()I" = some ⟨[], some .int⟩ := by decide +kernel
theorem ef_law (m : MethodId) (x0 : Int64) (x1 : Int64) (x2 : Int64) (x3 : Int64) (x4 : Int64) (x5 : Int32) : entryFrame m #[(.long x0), (.long x1), (.long x2), (.long x3), (.long x4), (.int x5)] maxLocals = mkF m 0 #[.val (.long x0), .second, .val (.long x1), .second, .val (.long x2), .second, .val (.long x3), .second, .val (.long x4), .second, .val (.int x5), .unset, .unset, .unset, .unset, .unset, .unset, .unset, .unset, .unset, .unset, .unset, .unset, .unset, .unset, .unset, .unset, .unset, .unset, .unset, .unset, .unset, .unset, .unset, .unset, .unset, .unset, .unset, .unset, .unset, .unset, .unset, .unset] [] := by first | (simp [entryFrame, mkF, argsToLocals, Value.category, maxLocals]; done) | rfl
def Q_law (Z : State) (q0 q1 q2 q3 q4 : Int64) (p5 : Int32) (h0 : Heap) (n0 : Nat) (v : Option Value) (h : Heap) (L : List Loc) : Prop := v = some (.int 1) ∧ Fr n0 L
set_option maxRecDepth 65536 in
set_option maxHeartbeats 40000000 in
theorem rm_law (l : Launch) (Z : State) (a0 : Array Value) (hw : ∀ d ∈ tables_1, d.before a0 Z = true) (ws : List Jvm.Cond) (q0 q1 q2 q3 q4 : Int64) (p5 : Int32) (h0 : Heap) (n0 : Nat) (Z0 : n0 ≤ h0.size)  :
    MetFree l x (head1 (Jvm.Cond.code x code maxLocals ret :: ws) room_1) (fun a U => a = #[(.long q0), (.long q1), (.long q2), (.long q3), (.long q4), (.int p5)] ∧ Z.Warmed39 U.vm ∧ U.heap = h0) (fun _ _ _ _ _ => True) (fun _ U o U' => ∃ v L, o = .returned v ∧ Q_law Z q0 q1 q2 q3 q4 p5 h0 n0 v U'.heap L ∧ FrameEnd U o U' L room_1.cells room_1.slots) := by
  refine MetFree.of_bodySF (plainFor_of_name own_pn_com_example_latchwork_latchwork_storage_ColumnBatchMovePinLaw) hisR ?_
  intro p e s m args below meth c s₁ Bd hml0 hP hK
  obtain ⟨rfl, hZ, hh⟩ := hP
  have hx := Bd.exec
  have hby := Bd.bytes
  have hml : c.maxLocals = 43 := hml0
  have hown : s.vm.findClass "com/example/latchwork/latchwork/storage/ColumnBatchMovePinLaw" = some m.cls := findClass_of_methodNamed Bd.named
  have hnm := (name_of_methodNamed Bd.named Bd.method).1
  have hlk := Bd.notSynchronized
  obtain ⟨lc, hlc⟩ : ∃ lc : List Loc, lc = [] := ⟨_, rfl⟩
  have X : Stand p l e room_1 s m #[(.long q0), (.long q1), (.long q2), (.long q3), (.long q4), (.int p5)] below meth c s₁ lc 0 0 := hlc ▸ Stand.of_body Bd
  have eT : s₁.heap = h0 := by rw [← hh, Bd.state]; rfl
  have N : Fr n0 lc := hlc ▸ Fr.nil n0
  refine own_enter (ef_law m q0 q1 q2 q3 q4 p5) ?_
  obtain ⟨T, hT⟩ : ∃ T : State, T = s₁ := ⟨_, rfl⟩
  rw [← hT] at X eT ⊢
  show own_W p e below (own_Post s (Q_law Z q0 q1 q2 q3 q4 p5 h0 n0) 32 128) T m 0 #[.val (.long q0), .second, .val (.long q1), .second, .val (.long q2), .second, .val (.long q3), .second, .val (.long q4), .second, .val (.int p5), .unset, .unset, .unset, .unset, .unset, .unset, .unset, .unset, .unset, .unset, .unset, .unset, .unset, .unset, .unset, .unset, .unset, .unset, .unset, .unset, .unset, .unset, .unset, .unset, .unset, .unset, .unset, .unset, .unset, .unset, .unset, .unset] []
  refine own_iconst X hx (2 : Int32) (hb hby at_0) (pc' := 1) rfl rfl ?_
  refine own_newarrE X hx hZ (own_w hw 0 rfl) eT (hb hby at_1) (pc' := 3) rfl (by decide) 2 (by decide) (by decide) (cells' := 1) (slots' := 2) rfl rfl (by decide) (by decide) (ad := "[I") (by decide) ?_
  intro T h1 k_b1 b1 X eT E gb1 E_b1 A_b1
  have z_b1 : n0 ≤ b1 := Nat.le_trans Z0 (Nat.le_of_eq gb1.symm)
  have Z0 := Nat.le_trans Z0 E.1
  have A_b1 : Arv Z h1 b1 k_b1 .int (2 : Int32) [(.int (0 : Int32)), (.int (0 : Int32))] (.int (0 : Int32)) := A_b1.pad (pad_rep [] (.int (0 : Int32)) 2)
  refine own_astore X hx (hb hby at_3) (pc' := 5) rfl rfl (Ls' := #[.val (.long q0), .second, .val (.long q1), .second, .val (.long q2), .second, .val (.long q3), .second, .val (.long q4), .second, .val (.int p5), .val (.ref b1), .unset, .unset, .unset, .unset, .unset, .unset, .unset, .unset, .unset, .unset, .unset, .unset, .unset, .unset, .unset, .unset, .unset, .unset, .unset, .unset, .unset, .unset, .unset, .unset, .unset, .unset, .unset, .unset, .unset, .unset, .unset]) rfl ?_
  refine own_aload X hx (hb hby at_5) (pc' := 7) rfl rfl rfl ?_
  refine own_iconst X hx (0 : Int32) (hb hby at_7) (pc' := 8) rfl rfl ?_
  refine own_iconst X hx (0 : Int32) (hb hby at_8) (pc' := 9) rfl rfl ?_
  refine own_iastore X hx hZ eT A_b1 (by decide) 0 rfl (by show 0 < 2; decide) (hb hby at_9) (pc' := 10) rfl ?_
  intro T h2 lc X eT Kq A_b1n fN
  have E_b1 := E_b1.keep Kq
  have Z0 := Nat.le_trans Z0 Kq.1
  have A_b1 := A_b1n
  have N := fN _ z_b1 N
  have A_b1 : Arv Z h2 b1 _ .int (2 : Int32) [(.int (0 : Int32)), (.int (0 : Int32))] (.int (0 : Int32)) := A_b1
  refine own_aload X hx (hb hby at_10) (pc' := 12) rfl rfl rfl ?_
  refine own_iconst X hx (1 : Int32) (hb hby at_12) (pc' := 13) rfl rfl ?_
  refine own_iconst X hx (1 : Int32) (hb hby at_13) (pc' := 14) rfl rfl ?_
  refine own_iastore X hx hZ eT A_b1 (by decide) 1 rfl (by show 1 < 2; decide) (hb hby at_14) (pc' := 15) rfl ?_
  intro T h3 lc X eT Kq A_b1n fN
  have E_b1 := E_b1.keep Kq
  have Z0 := Nat.le_trans Z0 Kq.1
  have A_b1 := A_b1n
  have N := fN _ z_b1 N
  have A_b1 : Arv Z h3 b1 _ .int (2 : Int32) [(.int (0 : Int32)), (.int (1 : Int32))] (.int (0 : Int32)) := A_b1
  refine own_new X hx hZ hown (own_w hw 1 rfl) (own_w hw 2 rfl) (own_w hw 3 rfl) eT (hb hby at_15) (pc' := 18) rfl (cells' := 2) (slots' := 6) rfl rfl (by decide) (by decide) ?_
  intro T h4 b4 X eT E gb4 E_b4 Db4
  have lt_b1_b4 : b1 < b4 := Nat.lt_of_lt_of_le E_b1.lt (Nat.le_of_eq gb4.symm)
  have ne_b1_b4 : b1 ≠ b4 := Nat.ne_of_lt lt_b1_b4
  have z_b4 : n0 ≤ b4 := Nat.le_trans Z0 (Nat.le_of_eq gb4.symm)
  have E_b1 := E_b1.ext E
  have A_b1 := A_b1.ext E
  have Z0 := Nat.le_trans Z0 E.1
  have F_columns_b4 : Fld Z h4 b4 "com/example/latchwork/latchwork/storage/ColumnBatch" "columns" "[I" .null := Db4 (Or.inr (own_w hw 20 rfl)) (ty := (.array .int)) (by decide)
  have F_stamps_b4 : Fld Z h4 b4 "com/example/latchwork/latchwork/storage/ColumnBatch" "stamps" "[J" .null := Db4 (Or.inr (own_w hw 23 rfl)) (ty := (.array .long)) (by decide)
  have F_values_b4 : Fld Z h4 b4 "com/example/latchwork/latchwork/storage/ColumnBatch" "values" "[[J" .null := Db4 (Or.inr (own_w hw 27 rfl)) (ty := (.array (.array .long))) (by decide)
  have F_nulls_b4 : Fld Z h4 b4 "com/example/latchwork/latchwork/storage/ColumnBatch" "nulls" "[[Z" .null := Db4 (Or.inr (own_w hw 32 rfl)) (ty := (.array (.array .boolean))) (by decide)
  refine own_dup X hx (hb hby at_18) (pc' := 19) rfl rfl ?_
  refine own_aload X hx (hb hby at_19) (pc' := 21) rfl rfl rfl ?_
  refine own_iconst X hx (3 : Int32) (hb hby at_21) (pc' := 22) rfl rfl ?_
  refine own_callN X hx hZ b4 [(.ref b1), (.int (3 : Int32))] rfl hown (own_w hw 4 rfl) (own_w hw 5 rfl) (own_w hw 3 rfl) (own_w hw 6 rfl) (by decide) (rm_init l Z a0 hw [] b4 b1 _ _ h4 n0 Z0 _ _ _ _ E_b4 F_columns_b4 F_stamps_b4 F_values_b4 F_nulls_b4 E_b1 A_b1 (Ne.symm ne_b1_b4) z_b4) eT (W := 1) (by decide) (by decide) (cells' := 10) (slots' := 27) rfl rfl (by decide) (by decide) (by rw [hml]; rfl) (lenOf own_pd_285bII29V rfl) rfl (S := [(.ref b4)]) rfl (Nat.le_of_eq rfl) (hb hby at_22) (pc' := 25) rfl ?_
  intro v T h5 L lc X eT hq fN
  obtain ⟨rfl, Nq, Kq, bc, bs, bv, v0, v1, bn, m0, m1, hbc, lt0, lt1, lt2, lt3, lt4, lt5, lt6, F_columns, F_stamps, F_values, F_nulls, ⟨k_bc, A_bc⟩, ⟨k_bs, A_bs⟩, ⟨k_bv, A_bv⟩, ⟨k_v0, A_v0⟩, ⟨k_v1, A_v1⟩, ⟨k_bn, A_bn⟩, ⟨k_m0, A_m0⟩, ⟨k_m1, A_m1⟩⟩ := hq
  have N := fN _ N Nq
  have sz_bc : h4.size ≤ bc := by omega
  have lt_b1_bc : b1 < bc := Nat.lt_of_lt_of_le E_b1.lt sz_bc
  have ne_b1_bc : b1 ≠ bc := Nat.ne_of_lt lt_b1_bc
  have lt_b4_bc : b4 < bc := Nat.lt_of_lt_of_le E_b4.lt sz_bc
  have ne_b4_bc : b4 ≠ bc := Nat.ne_of_lt lt_b4_bc
  have z_bc : n0 ≤ bc := Nat.le_trans Z0 sz_bc
  have sz_bs : h4.size ≤ bs := by omega
  have lt_b1_bs : b1 < bs := Nat.lt_of_lt_of_le E_b1.lt sz_bs
  have ne_b1_bs : b1 ≠ bs := Nat.ne_of_lt lt_b1_bs
  have lt_b4_bs : b4 < bs := Nat.lt_of_lt_of_le E_b4.lt sz_bs
  have ne_b4_bs : b4 ≠ bs := Nat.ne_of_lt lt_b4_bs
  have z_bs : n0 ≤ bs := Nat.le_trans Z0 sz_bs
  have ne_bc_bs : bc ≠ bs := by omega
  have sz_bv : h4.size ≤ bv := by omega
  have lt_b1_bv : b1 < bv := Nat.lt_of_lt_of_le E_b1.lt sz_bv
  have ne_b1_bv : b1 ≠ bv := Nat.ne_of_lt lt_b1_bv
  have lt_b4_bv : b4 < bv := Nat.lt_of_lt_of_le E_b4.lt sz_bv
  have ne_b4_bv : b4 ≠ bv := Nat.ne_of_lt lt_b4_bv
  have z_bv : n0 ≤ bv := Nat.le_trans Z0 sz_bv
  have ne_bc_bv : bc ≠ bv := by omega
  have ne_bs_bv : bs ≠ bv := by omega
  have sz_v0 : h4.size ≤ v0 := by omega
  have lt_b1_v0 : b1 < v0 := Nat.lt_of_lt_of_le E_b1.lt sz_v0
  have ne_b1_v0 : b1 ≠ v0 := Nat.ne_of_lt lt_b1_v0
  have lt_b4_v0 : b4 < v0 := Nat.lt_of_lt_of_le E_b4.lt sz_v0
  have ne_b4_v0 : b4 ≠ v0 := Nat.ne_of_lt lt_b4_v0
  have z_v0 : n0 ≤ v0 := Nat.le_trans Z0 sz_v0
  have ne_bc_v0 : bc ≠ v0 := by omega
  have ne_bs_v0 : bs ≠ v0 := by omega
  have ne_bv_v0 : bv ≠ v0 := by omega
  have sz_v1 : h4.size ≤ v1 := by omega
  have lt_b1_v1 : b1 < v1 := Nat.lt_of_lt_of_le E_b1.lt sz_v1
  have ne_b1_v1 : b1 ≠ v1 := Nat.ne_of_lt lt_b1_v1
  have lt_b4_v1 : b4 < v1 := Nat.lt_of_lt_of_le E_b4.lt sz_v1
  have ne_b4_v1 : b4 ≠ v1 := Nat.ne_of_lt lt_b4_v1
  have z_v1 : n0 ≤ v1 := Nat.le_trans Z0 sz_v1
  have ne_bc_v1 : bc ≠ v1 := by omega
  have ne_bs_v1 : bs ≠ v1 := by omega
  have ne_bv_v1 : bv ≠ v1 := by omega
  have ne_v0_v1 : v0 ≠ v1 := by omega
  have sz_bn : h4.size ≤ bn := by omega
  have lt_b1_bn : b1 < bn := Nat.lt_of_lt_of_le E_b1.lt sz_bn
  have ne_b1_bn : b1 ≠ bn := Nat.ne_of_lt lt_b1_bn
  have lt_b4_bn : b4 < bn := Nat.lt_of_lt_of_le E_b4.lt sz_bn
  have ne_b4_bn : b4 ≠ bn := Nat.ne_of_lt lt_b4_bn
  have z_bn : n0 ≤ bn := Nat.le_trans Z0 sz_bn
  have ne_bc_bn : bc ≠ bn := by omega
  have ne_bs_bn : bs ≠ bn := by omega
  have ne_bv_bn : bv ≠ bn := by omega
  have ne_v0_bn : v0 ≠ bn := by omega
  have ne_v1_bn : v1 ≠ bn := by omega
  have sz_m0 : h4.size ≤ m0 := by omega
  have lt_b1_m0 : b1 < m0 := Nat.lt_of_lt_of_le E_b1.lt sz_m0
  have ne_b1_m0 : b1 ≠ m0 := Nat.ne_of_lt lt_b1_m0
  have lt_b4_m0 : b4 < m0 := Nat.lt_of_lt_of_le E_b4.lt sz_m0
  have ne_b4_m0 : b4 ≠ m0 := Nat.ne_of_lt lt_b4_m0
  have z_m0 : n0 ≤ m0 := Nat.le_trans Z0 sz_m0
  have ne_bc_m0 : bc ≠ m0 := by omega
  have ne_bs_m0 : bs ≠ m0 := by omega
  have ne_bv_m0 : bv ≠ m0 := by omega
  have ne_v0_m0 : v0 ≠ m0 := by omega
  have ne_v1_m0 : v1 ≠ m0 := by omega
  have ne_bn_m0 : bn ≠ m0 := by omega
  have sz_m1 : h4.size ≤ m1 := by omega
  have lt_b1_m1 : b1 < m1 := Nat.lt_of_lt_of_le E_b1.lt sz_m1
  have ne_b1_m1 : b1 ≠ m1 := Nat.ne_of_lt lt_b1_m1
  have lt_b4_m1 : b4 < m1 := Nat.lt_of_lt_of_le E_b4.lt sz_m1
  have ne_b4_m1 : b4 ≠ m1 := Nat.ne_of_lt lt_b4_m1
  have z_m1 : n0 ≤ m1 := Nat.le_trans Z0 sz_m1
  have ne_bc_m1 : bc ≠ m1 := by omega
  have ne_bs_m1 : bs ≠ m1 := by omega
  have ne_bv_m1 : bv ≠ m1 := by omega
  have ne_v0_m1 : v0 ≠ m1 := by omega
  have ne_v1_m1 : v1 ≠ m1 := by omega
  have ne_bn_m1 : bn ≠ m1 := by omega
  have ne_m0_m1 : m0 ≠ m1 := by omega
  have E_b1 := E_b1.keep Kq
  have A_b1 := A_b1.keep Kq (ninS ne_b1_b4 nin0)
  have E_b4 := E_b4.keep Kq
  have Z0 := Nat.le_trans Z0 Kq.1
  show own_W p e below (own_Post s (Q_law Z q0 q1 q2 q3 q4 p5 h0 n0) 32 128) T m 25 #[.val (.long q0), .second, .val (.long q1), .second, .val (.long q2), .second, .val (.long q3), .second, .val (.long q4), .second, .val (.int p5), .val (.ref b1), .unset, .unset, .unset, .unset, .unset, .unset, .unset, .unset, .unset, .unset, .unset, .unset, .unset, .unset, .unset, .unset, .unset, .unset, .unset, .unset, .unset, .unset, .unset, .unset, .unset, .unset, .unset, .unset, .unset, .unset, .unset] [(.ref b4)]
  refine own_astore X hx (hb hby at_25) (pc' := 27) rfl rfl (Ls' := #[.val (.long q0), .second, .val (.long q1), .second, .val (.long q2), .second, .val (.long q3), .second, .val (.long q4), .second, .val (.int p5), .val (.ref b1), .val (.ref b4), .unset, .unset, .unset, .unset, .unset, .unset, .unset, .unset, .unset, .unset, .unset, .unset, .unset, .unset, .unset, .unset, .unset, .unset, .unset, .unset, .unset, .unset, .unset, .unset, .unset, .unset, .unset, .unset, .unset, .unset]) rfl ?_
  refine own_aload X hx (hb hby at_27) (pc' := 29) rfl rfl rfl ?_
  refine own_iconst X hx (0 : Int32) (hb hby at_29) (pc' := 30) rfl rfl ?_
  refine own_callV X hx hZ (y := (⟨"com/example/latchwork/latchwork/storage/ColumnBatch", "values", "(I)[J"⟩ : MethodName)) b4 [(.int (0 : Int32))] hown (own_w hw 33 rfl) (own_w hw 34 rfl) (own_w hw 36 rfl) (own_w hw 35 rfl) (own_w hw 3 rfl) (own_w hw 37 rfl) (by decide) (rm_values l Z a0 hw [] b4 bv v0 (0 : Int32) h5 n0 Z0 F_values _ _ A_bv (by decide) rfl) E_b4 eT (W := 0) (by decide) (by decide) (cells' := 10) (slots' := 27) rfl rfl (by decide) (by decide) (by rw [hml]; rfl) (lenOf own_pd_28I295bJ rfl) rfl (S := []) rfl (Nat.le_of_eq rfl) (hb hby at_30) (pc' := 33) rfl ?_
  intro v T h6 L lc X eT hq fN
  obtain ⟨rfl, Nq, hqe⟩ := hq
  have N := fN _ N Nq
  rw [hqe] at eT
  show own_W p e below (own_Post s (Q_law Z q0 q1 q2 q3 q4 p5 h0 n0) 32 128) T m 33 #[.val (.long q0), .second, .val (.long q1), .second, .val (.long q2), .second, .val (.long q3), .second, .val (.long q4), .second, .val (.int p5), .val (.ref b1), .val (.ref b4), .unset, .unset, .unset, .unset, .unset, .unset, .unset, .unset, .unset, .unset, .unset, .unset, .unset, .unset, .unset, .unset, .unset, .unset, .unset, .unset, .unset, .unset, .unset, .unset, .unset, .unset, .unset, .unset, .unset, .unset] [(.ref v0)]
  refine own_astore X hx (hb hby at_33) (pc' := 35) rfl rfl (Ls' := #[.val (.long q0), .second, .val (.long q1), .second, .val (.long q2), .second, .val (.long q3), .second, .val (.long q4), .second, .val (.int p5), .val (.ref b1), .val (.ref b4), .val (.ref v0), .unset, .unset, .unset, .unset, .unset, .unset, .unset, .unset, .unset, .unset, .unset, .unset, .unset, .unset, .unset, .unset, .unset, .unset, .unset, .unset, .unset, .unset, .unset, .unset, .unset, .unset, .unset, .unset, .unset]) rfl ?_
  refine own_aload X hx (hb hby at_35) (pc' := 37) rfl rfl rfl ?_
  refine own_iconst X hx (1 : Int32) (hb hby at_37) (pc' := 38) rfl rfl ?_
  refine own_callV X hx hZ (y := (⟨"com/example/latchwork/latchwork/storage/ColumnBatch", "values", "(I)[J"⟩ : MethodName)) b4 [(.int (1 : Int32))] hown (own_w hw 33 rfl) (own_w hw 34 rfl) (own_w hw 36 rfl) (own_w hw 35 rfl) (own_w hw 3 rfl) (own_w hw 37 rfl) (by decide) (rm_values l Z a0 hw [] b4 bv v1 (1 : Int32) h5 n0 Z0 F_values _ _ A_bv (by decide) rfl) E_b4 eT (W := 0) (by decide) (by decide) (cells' := 10) (slots' := 27) rfl rfl (by decide) (by decide) (by rw [hml]; rfl) (lenOf own_pd_28I295bJ rfl) rfl (S := []) rfl (Nat.le_of_eq rfl) (hb hby at_38) (pc' := 41) rfl ?_
  intro v T h7 L lc X eT hq fN
  obtain ⟨rfl, Nq, hqe⟩ := hq
  have N := fN _ N Nq
  rw [hqe] at eT
  show own_W p e below (own_Post s (Q_law Z q0 q1 q2 q3 q4 p5 h0 n0) 32 128) T m 41 #[.val (.long q0), .second, .val (.long q1), .second, .val (.long q2), .second, .val (.long q3), .second, .val (.long q4), .second, .val (.int p5), .val (.ref b1), .val (.ref b4), .val (.ref v0), .unset, .unset, .unset, .unset, .unset, .unset, .unset, .unset, .unset, .unset, .unset, .unset, .unset, .unset, .unset, .unset, .unset, .unset, .unset, .unset, .unset, .unset, .unset, .unset, .unset, .unset, .unset, .unset, .unset] [(.ref v1)]
  refine own_astore X hx (hb hby at_41) (pc' := 43) rfl rfl (Ls' := #[.val (.long q0), .second, .val (.long q1), .second, .val (.long q2), .second, .val (.long q3), .second, .val (.long q4), .second, .val (.int p5), .val (.ref b1), .val (.ref b4), .val (.ref v0), .val (.ref v1), .unset, .unset, .unset, .unset, .unset, .unset, .unset, .unset, .unset, .unset, .unset, .unset, .unset, .unset, .unset, .unset, .unset, .unset, .unset, .unset, .unset, .unset, .unset, .unset, .unset, .unset, .unset, .unset]) rfl ?_
  refine own_aload X hx (hb hby at_43) (pc' := 45) rfl rfl rfl ?_
  refine own_iconst X hx (0 : Int32) (hb hby at_45) (pc' := 46) rfl rfl ?_
  refine own_callV X hx hZ (y := (⟨"com/example/latchwork/latchwork/storage/ColumnBatch", "nulls", "(I)[Z"⟩ : MethodName)) b4 [(.int (0 : Int32))] hown (own_w hw 38 rfl) (own_w hw 39 rfl) (own_w hw 41 rfl) (own_w hw 40 rfl) (own_w hw 3 rfl) (own_w hw 42 rfl) (by decide) (rm_nulls l Z a0 hw [] b4 bn m0 (0 : Int32) h5 n0 Z0 F_nulls _ _ A_bn (by decide) rfl) E_b4 eT (W := 0) (by decide) (by decide) (cells' := 10) (slots' := 27) rfl rfl (by decide) (by decide) (by rw [hml]; rfl) (lenOf own_pd_28I295bZ rfl) rfl (S := []) rfl (Nat.le_of_eq rfl) (hb hby at_46) (pc' := 49) rfl ?_
  intro v T h8 L lc X eT hq fN
  obtain ⟨rfl, Nq, hqe⟩ := hq
  have N := fN _ N Nq
  rw [hqe] at eT
  show own_W p e below (own_Post s (Q_law Z q0 q1 q2 q3 q4 p5 h0 n0) 32 128) T m 49 #[.val (.long q0), .second, .val (.long q1), .second, .val (.long q2), .second, .val (.long q3), .second, .val (.long q4), .second, .val (.int p5), .val (.ref b1), .val (.ref b4), .val (.ref v0), .val (.ref v1), .unset, .unset, .unset, .unset, .unset, .unset, .unset, .unset, .unset, .unset, .unset, .unset, .unset, .unset, .unset, .unset, .unset, .unset, .unset, .unset, .unset, .unset, .unset, .unset, .unset, .unset, .unset, .unset] [(.ref m0)]
  refine own_astore X hx (hb hby at_49) (pc' := 51) rfl rfl (Ls' := #[.val (.long q0), .second, .val (.long q1), .second, .val (.long q2), .second, .val (.long q3), .second, .val (.long q4), .second, .val (.int p5), .val (.ref b1), .val (.ref b4), .val (.ref v0), .val (.ref v1), .val (.ref m0), .unset, .unset, .unset, .unset, .unset, .unset, .unset, .unset, .unset, .unset, .unset, .unset, .unset, .unset, .unset, .unset, .unset, .unset, .unset, .unset, .unset, .unset, .unset, .unset, .unset, .unset, .unset]) rfl ?_
  refine own_aload X hx (hb hby at_51) (pc' := 53) rfl rfl rfl ?_
  refine own_iconst X hx (1 : Int32) (hb hby at_53) (pc' := 54) rfl rfl ?_
  refine own_callV X hx hZ (y := (⟨"com/example/latchwork/latchwork/storage/ColumnBatch", "nulls", "(I)[Z"⟩ : MethodName)) b4 [(.int (1 : Int32))] hown (own_w hw 38 rfl) (own_w hw 39 rfl) (own_w hw 41 rfl) (own_w hw 40 rfl) (own_w hw 3 rfl) (own_w hw 42 rfl) (by decide) (rm_nulls l Z a0 hw [] b4 bn m1 (1 : Int32) h5 n0 Z0 F_nulls _ _ A_bn (by decide) rfl) E_b4 eT (W := 0) (by decide) (by decide) (cells' := 10) (slots' := 27) rfl rfl (by decide) (by decide) (by rw [hml]; rfl) (lenOf own_pd_28I295bZ rfl) rfl (S := []) rfl (Nat.le_of_eq rfl) (hb hby at_54) (pc' := 57) rfl ?_
  intro v T h9 L lc X eT hq fN
  obtain ⟨rfl, Nq, hqe⟩ := hq
  have N := fN _ N Nq
  rw [hqe] at eT
  show own_W p e below (own_Post s (Q_law Z q0 q1 q2 q3 q4 p5 h0 n0) 32 128) T m 57 #[.val (.long q0), .second, .val (.long q1), .second, .val (.long q2), .second, .val (.long q3), .second, .val (.long q4), .second, .val (.int p5), .val (.ref b1), .val (.ref b4), .val (.ref v0), .val (.ref v1), .val (.ref m0), .unset, .unset, .unset, .unset, .unset, .unset, .unset, .unset, .unset, .unset, .unset, .unset, .unset, .unset, .unset, .unset, .unset, .unset, .unset, .unset, .unset, .unset, .unset, .unset, .unset, .unset, .unset] [(.ref m1)]
  refine own_astore X hx (hb hby at_57) (pc' := 59) rfl rfl (Ls' := #[.val (.long q0), .second, .val (.long q1), .second, .val (.long q2), .second, .val (.long q3), .second, .val (.long q4), .second, .val (.int p5), .val (.ref b1), .val (.ref b4), .val (.ref v0), .val (.ref v1), .val (.ref m0), .val (.ref m1), .unset, .unset, .unset, .unset, .unset, .unset, .unset, .unset, .unset, .unset, .unset, .unset, .unset, .unset, .unset, .unset, .unset, .unset, .unset, .unset, .unset, .unset, .unset, .unset, .unset, .unset]) rfl ?_
  refine own_lloadN X hx (hb hby at_59) (pc' := 60) rfl rfl ?_
  refine own_lstore X hx (hb hby at_60) (pc' := 62) rfl (Ls' := #[.val (.long q0), .second, .val (.long q1), .second, .val (.long q2), .second, .val (.long q3), .second, .val (.long q4), .second, .val (.int p5), .val (.ref b1), .val (.ref b4), .val (.ref v0), .val (.ref v1), .val (.ref m0), .val (.ref m1), .val (.long q0), .second, .unset, .unset, .unset, .unset, .unset, .unset, .unset, .unset, .unset, .unset, .unset, .unset, .unset, .unset, .unset, .unset, .unset, .unset, .unset, .unset, .unset, .unset, .unset, .unset]) rfl ?_
  refine own_lloadN X hx (hb hby at_62) (pc' := 63) rfl rfl ?_
  refine own_lstore X hx (hb hby at_63) (pc' := 65) rfl (Ls' := #[.val (.long q0), .second, .val (.long q1), .second, .val (.long q2), .second, .val (.long q3), .second, .val (.long q4), .second, .val (.int p5), .val (.ref b1), .val (.ref b4), .val (.ref v0), .val (.ref v1), .val (.ref m0), .val (.ref m1), .val (.long q0), .second, .val (.long q1), .second, .unset, .unset, .unset, .unset, .unset, .unset, .unset, .unset, .unset, .unset, .unset, .unset, .unset, .unset, .unset, .unset, .unset, .unset, .unset, .unset, .unset, .unset]) rfl ?_
  refine own_lload X hx (hb hby at_65) (pc' := 67) rfl rfl ?_
  refine own_lstore X hx (hb hby at_67) (pc' := 69) rfl (Ls' := #[.val (.long q0), .second, .val (.long q1), .second, .val (.long q2), .second, .val (.long q3), .second, .val (.long q4), .second, .val (.int p5), .val (.ref b1), .val (.ref b4), .val (.ref v0), .val (.ref v1), .val (.ref m0), .val (.ref m1), .val (.long q0), .second, .val (.long q1), .second, .val (.long q2), .second, .unset, .unset, .unset, .unset, .unset, .unset, .unset, .unset, .unset, .unset, .unset, .unset, .unset, .unset, .unset, .unset, .unset, .unset, .unset, .unset]) rfl ?_
  refine own_lload X hx (hb hby at_69) (pc' := 71) rfl rfl ?_
  refine own_lstore X hx (hb hby at_71) (pc' := 73) rfl (Ls' := #[.val (.long q0), .second, .val (.long q1), .second, .val (.long q2), .second, .val (.long q3), .second, .val (.long q4), .second, .val (.int p5), .val (.ref b1), .val (.ref b4), .val (.ref v0), .val (.ref v1), .val (.ref m0), .val (.ref m1), .val (.long q0), .second, .val (.long q1), .second, .val (.long q2), .second, .val (.long q3), .second, .unset, .unset, .unset, .unset, .unset, .unset, .unset, .unset, .unset, .unset, .unset, .unset, .unset, .unset, .unset, .unset, .unset, .unset]) rfl ?_
  refine own_lloadN X hx (hb hby at_73) (pc' := 74) rfl rfl ?_
  refine own_ldc2 X hx hZ hown (own_w hw 43 rfl) (hb hby at_74) (pc' := 77) rfl ?_
  refine own_lxor X hx (hb hby at_77) (pc' := 78) rfl ?_
  refine own_lstore X hx (hb hby at_78) (pc' := 80) rfl (Ls' := #[.val (.long q0), .second, .val (.long q1), .second, .val (.long q2), .second, .val (.long q3), .second, .val (.long q4), .second, .val (.int p5), .val (.ref b1), .val (.ref b4), .val (.ref v0), .val (.ref v1), .val (.ref m0), .val (.ref m1), .val (.long q0), .second, .val (.long q1), .second, .val (.long q2), .second, .val (.long q3), .second, .val (.long (q0 ^^^ (-1 : Int64))), .second, .unset, .unset, .unset, .unset, .unset, .unset, .unset, .unset, .unset, .unset, .unset, .unset, .unset, .unset, .unset, .unset]) rfl ?_
  refine own_lloadN X hx (hb hby at_80) (pc' := 81) rfl rfl ?_
  refine own_lload X hx (hb hby at_81) (pc' := 83) rfl rfl ?_
  refine own_lxor X hx (hb hby at_83) (pc' := 84) rfl ?_
  refine own_lstore X hx (hb hby at_84) (pc' := 86) rfl (Ls' := #[.val (.long q0), .second, .val (.long q1), .second, .val (.long q2), .second, .val (.long q3), .second, .val (.long q4), .second, .val (.int p5), .val (.ref b1), .val (.ref b4), .val (.ref v0), .val (.ref v1), .val (.ref m0), .val (.ref m1), .val (.long q0), .second, .val (.long q1), .second, .val (.long q2), .second, .val (.long q3), .second, .val (.long (q0 ^^^ (-1 : Int64))), .second, .val (.long (q1 ^^^ q2)), .second, .unset, .unset, .unset, .unset, .unset, .unset, .unset, .unset, .unset, .unset, .unset, .unset, .unset, .unset]) rfl ?_
  have J_173 : ∀ (s0 s1 s2 t0 t1 t2 : Int32), nar .boolean s0 = s0 → nar .boolean s1 = s1 → nar .boolean s2 = s2 → nar .boolean t0 = t0 → nar .boolean t1 = t1 → nar .boolean t2 = t2 → own_W p e below (own_Post s (Q_law Z q0 q1 q2 q3 q4 p5 h0 n0) 32 128) T m 173 #[.val (.long q0), .second, .val (.long q1), .second, .val (.long q2), .second, .val (.long q3), .second, .val (.long q4), .second, .val (.int p5), .val (.ref b1), .val (.ref b4), .val (.ref v0), .val (.ref v1), .val (.ref m0), .val (.ref m1), .val (.long q0), .second, .val (.long q1), .second, .val (.long q2), .second, .val (.long q3), .second, .val (.long (q0 ^^^ (-1 : Int64))), .second, .val (.long (q1 ^^^ q2)), .second, .val (.int s0), .val (.int s1), .val (.int s2), .val (.int t0), .val (.int t1), .val (.int t2), .unset, .unset, .unset, .unset, .unset, .unset, .unset, .unset] [] := by
    intro s0 s1 s2 t0 t1 t2 hs0 hs1 hs2 ht0 ht1 ht2
    refine own_iload X hx (hb hby at_173) (pc' := 175) rfl rfl ?_
    refine own_bipush X hx (8 : Int32) (hb hby at_175) (pc' := 177) rfl rfl ?_
    refine own_iushr X hx (hb hby at_177) (pc' := 178) rfl ?_
    refine own_sipush X hx (255 : Int32) (hb hby at_178) (pc' := 181) rfl rfl ?_
    refine own_iand X hx (hb hby at_181) (pc' := 182) rfl ?_
    refine own_iconst X hx (3 : Int32) (hb hby at_182) (pc' := 183) rfl rfl ?_
    refine own_irem X hx (hb hby at_183) (pc' := 184) rfl (by decide) ?_
    refine own_istore X hx (hb hby at_184) (pc' := 186) rfl (Ls' := #[.val (.long q0), .second, .val (.long q1), .second, .val (.long q2), .second, .val (.long q3), .second, .val (.long q4), .second, .val (.int p5), .val (.ref b1), .val (.ref b4), .val (.ref v0), .val (.ref v1), .val (.ref m0), .val (.ref m1), .val (.long q0), .second, .val (.long q1), .second, .val (.long q2), .second, .val (.long q3), .second, .val (.long (q0 ^^^ (-1 : Int64))), .second, .val (.long (q1 ^^^ q2)), .second, .val (.int s0), .val (.int s1), .val (.int s2), .val (.int t0), .val (.int t1), .val (.int t2), .val (.int (((XT.ushr p5 (8 : Int32)) &&& (255 : Int32)) % (3 : Int32))), .unset, .unset, .unset, .unset, .unset, .unset, .unset]) rfl ?_
    refine own_iload X hx (hb hby at_186) (pc' := 188) rfl rfl ?_
    refine own_bipush X hx (16 : Int32) (hb hby at_188) (pc' := 190) rfl rfl ?_
    refine own_iushr X hx (hb hby at_190) (pc' := 191) rfl ?_
    refine own_sipush X hx (255 : Int32) (hb hby at_191) (pc' := 194) rfl rfl ?_
    refine own_iand X hx (hb hby at_194) (pc' := 195) rfl ?_
    refine own_iconst X hx (3 : Int32) (hb hby at_195) (pc' := 196) rfl rfl ?_
    refine own_irem X hx (hb hby at_196) (pc' := 197) rfl (by decide) ?_
    refine own_istore X hx (hb hby at_197) (pc' := 199) rfl (Ls' := #[.val (.long q0), .second, .val (.long q1), .second, .val (.long q2), .second, .val (.long q3), .second, .val (.long q4), .second, .val (.int p5), .val (.ref b1), .val (.ref b4), .val (.ref v0), .val (.ref v1), .val (.ref m0), .val (.ref m1), .val (.long q0), .second, .val (.long q1), .second, .val (.long q2), .second, .val (.long q3), .second, .val (.long (q0 ^^^ (-1 : Int64))), .second, .val (.long (q1 ^^^ q2)), .second, .val (.int s0), .val (.int s1), .val (.int s2), .val (.int t0), .val (.int t1), .val (.int t2), .val (.int (((XT.ushr p5 (8 : Int32)) &&& (255 : Int32)) % (3 : Int32))), .val (.int (((XT.ushr p5 (16 : Int32)) &&& (255 : Int32)) % (3 : Int32))), .unset, .unset, .unset, .unset, .unset, .unset]) rfl ?_
    obtain ⟨fr, h_fr⟩ : ∃ z, z = (((XT.ushr p5 (8 : Int32)) &&& (255 : Int32)) % (3 : Int32)) := ⟨_, rfl⟩
    rw [← h_fr]
    obtain ⟨tt, h_tt⟩ : ∃ z, z = (((XT.ushr p5 (16 : Int32)) &&& (255 : Int32)) % (3 : Int32)) := ⟨_, rfl⟩
    rw [← h_tt]
    have bfr : own_3 fr := by rw [h_fr]; exact own_m3 _
    have btt : own_3 tt := by rw [h_tt]; exact own_m3 _
    refine own_lload X hx (hb hby at_199) (pc' := 201) rfl rfl ?_
    refine own_lstore X hx (hb hby at_201) (pc' := 203) rfl (Ls' := #[.val (.long q0), .second, .val (.long q1), .second, .val (.long q2), .second, .val (.long q3), .second, .val (.long q4), .second, .val (.int p5), .val (.ref b1), .val (.ref b4), .val (.ref v0), .val (.ref v1), .val (.ref m0), .val (.ref m1), .val (.long q0), .second, .val (.long q1), .second, .val (.long q2), .second, .val (.long q3), .second, .val (.long (q0 ^^^ (-1 : Int64))), .second, .val (.long (q1 ^^^ q2)), .second, .val (.int s0), .val (.int s1), .val (.int s2), .val (.int t0), .val (.int t1), .val (.int t2), .val (.int fr), .val (.int tt), .val (.long q4), .second, .unset, .unset, .unset, .unset]) rfl ?_
    refine own_lload X hx (hb hby at_203) (pc' := 205) rfl rfl ?_
    refine own_ldc2 X hx hZ hown (own_w hw 43 rfl) (hb hby at_205) (pc' := 208) rfl ?_
    refine own_lxor X hx (hb hby at_208) (pc' := 209) rfl ?_
    refine own_lstore X hx (hb hby at_209) (pc' := 211) rfl (Ls' := #[.val (.long q0), .second, .val (.long q1), .second, .val (.long q2), .second, .val (.long q3), .second, .val (.long q4), .second, .val (.int p5), .val (.ref b1), .val (.ref b4), .val (.ref v0), .val (.ref v1), .val (.ref m0), .val (.ref m1), .val (.long q0), .second, .val (.long q1), .second, .val (.long q2), .second, .val (.long q3), .second, .val (.long (q0 ^^^ (-1 : Int64))), .second, .val (.long (q1 ^^^ q2)), .second, .val (.int s0), .val (.int s1), .val (.int s2), .val (.int t0), .val (.int t1), .val (.int t2), .val (.int fr), .val (.int tt), .val (.long q4), .second, .val (.long (q4 ^^^ (-1 : Int64))), .second, .unset, .unset]) rfl ?_
    refine own_lload X hx (hb hby at_211) (pc' := 213) rfl rfl ?_
    refine own_lload X hx (hb hby at_213) (pc' := 215) rfl rfl ?_
    refine own_lxor X hx (hb hby at_215) (pc' := 216) rfl ?_
    refine own_lstore X hx (hb hby at_216) (pc' := 218) rfl (Ls' := #[.val (.long q0), .second, .val (.long q1), .second, .val (.long q2), .second, .val (.long q3), .second, .val (.long q4), .second, .val (.int p5), .val (.ref b1), .val (.ref b4), .val (.ref v0), .val (.ref v1), .val (.ref m0), .val (.ref m1), .val (.long q0), .second, .val (.long q1), .second, .val (.long q2), .second, .val (.long q3), .second, .val (.long (q0 ^^^ (-1 : Int64))), .second, .val (.long (q1 ^^^ q2)), .second, .val (.int s0), .val (.int s1), .val (.int s2), .val (.int t0), .val (.int t1), .val (.int t2), .val (.int fr), .val (.int tt), .val (.long q4), .second, .val (.long (q4 ^^^ (-1 : Int64))), .second, .val (.long (q4 ^^^ q3)), .second]) rfl ?_
    refine own_aload X hx (hb hby at_218) (pc' := 220) rfl rfl rfl ?_
    refine own_iconst X hx (0 : Int32) (hb hby at_220) (pc' := 221) rfl rfl ?_
    refine own_lload X hx (hb hby at_221) (pc' := 223) rfl rfl ?_
    refine own_lastore X hx hZ eT A_v0 (by decide) 0 rfl (by show 0 < 3; decide) (hb hby at_223) (pc' := 224) rfl ?_
    intro T h10 lc X eT Kq A_v0n fN
    have E_b1 := E_b1.keep Kq
    have A_b1 := A_b1.keep Kq (ninS ne_b1_v0 nin0)
    have E_b4 := E_b4.keep Kq
    have F_columns := F_columns.keep Kq (ninS ne_b4_v0 nin0)
    have F_stamps := F_stamps.keep Kq (ninS ne_b4_v0 nin0)
    have F_values := F_values.keep Kq (ninS ne_b4_v0 nin0)
    have F_nulls := F_nulls.keep Kq (ninS ne_b4_v0 nin0)
    have A_bc := A_bc.keep Kq (ninS ne_bc_v0 nin0)
    have A_bs := A_bs.keep Kq (ninS ne_bs_v0 nin0)
    have A_bv := A_bv.keep Kq (ninS ne_bv_v0 nin0)
    have A_bn := A_bn.keep Kq (ninS (Ne.symm ne_v0_bn) nin0)
    have A_v1 := A_v1.keep Kq (ninS (Ne.symm ne_v0_v1) nin0)
    have A_m0 := A_m0.keep Kq (ninS (Ne.symm ne_v0_m0) nin0)
    have A_m1 := A_m1.keep Kq (ninS (Ne.symm ne_v0_m1) nin0)
    have Z0 := Nat.le_trans Z0 Kq.1
    have A_v0 := A_v0n
    have N := fN _ z_v0 N
    have A_v0 : Arv Z h10 v0 _ .long (3 : Int32) [(.long q0), (.long (0 : Int64)), (.long (0 : Int64))] (.long (0 : Int64)) := A_v0
    refine own_aload X hx (hb hby at_224) (pc' := 226) rfl rfl rfl ?_
    refine own_iconst X hx (1 : Int32) (hb hby at_226) (pc' := 227) rfl rfl ?_
    refine own_lload X hx (hb hby at_227) (pc' := 229) rfl rfl ?_
    refine own_lastore X hx hZ eT A_v0 (by decide) 1 rfl (by show 1 < 3; decide) (hb hby at_229) (pc' := 230) rfl ?_
    intro T h11 lc X eT Kq A_v0n fN
    have E_b1 := E_b1.keep Kq
    have A_b1 := A_b1.keep Kq (ninS ne_b1_v0 nin0)
    have E_b4 := E_b4.keep Kq
    have F_columns := F_columns.keep Kq (ninS ne_b4_v0 nin0)
    have F_stamps := F_stamps.keep Kq (ninS ne_b4_v0 nin0)
    have F_values := F_values.keep Kq (ninS ne_b4_v0 nin0)
    have F_nulls := F_nulls.keep Kq (ninS ne_b4_v0 nin0)
    have A_bc := A_bc.keep Kq (ninS ne_bc_v0 nin0)
    have A_bs := A_bs.keep Kq (ninS ne_bs_v0 nin0)
    have A_bv := A_bv.keep Kq (ninS ne_bv_v0 nin0)
    have A_bn := A_bn.keep Kq (ninS (Ne.symm ne_v0_bn) nin0)
    have A_v1 := A_v1.keep Kq (ninS (Ne.symm ne_v0_v1) nin0)
    have A_m0 := A_m0.keep Kq (ninS (Ne.symm ne_v0_m0) nin0)
    have A_m1 := A_m1.keep Kq (ninS (Ne.symm ne_v0_m1) nin0)
    have Z0 := Nat.le_trans Z0 Kq.1
    have A_v0 := A_v0n
    have N := fN _ z_v0 N
    have A_v0 : Arv Z h11 v0 _ .long (3 : Int32) [(.long q0), (.long q1), (.long (0 : Int64))] (.long (0 : Int64)) := A_v0
    refine own_aload X hx (hb hby at_230) (pc' := 232) rfl rfl rfl ?_
    refine own_iconst X hx (2 : Int32) (hb hby at_232) (pc' := 233) rfl rfl ?_
    refine own_lload X hx (hb hby at_233) (pc' := 235) rfl rfl ?_
    refine own_lastore X hx hZ eT A_v0 (by decide) 2 rfl (by show 2 < 3; decide) (hb hby at_235) (pc' := 236) rfl ?_
    intro T h12 lc X eT Kq A_v0n fN
    have E_b1 := E_b1.keep Kq
    have A_b1 := A_b1.keep Kq (ninS ne_b1_v0 nin0)
    have E_b4 := E_b4.keep Kq
    have F_columns := F_columns.keep Kq (ninS ne_b4_v0 nin0)
    have F_stamps := F_stamps.keep Kq (ninS ne_b4_v0 nin0)
    have F_values := F_values.keep Kq (ninS ne_b4_v0 nin0)
    have F_nulls := F_nulls.keep Kq (ninS ne_b4_v0 nin0)
    have A_bc := A_bc.keep Kq (ninS ne_bc_v0 nin0)
    have A_bs := A_bs.keep Kq (ninS ne_bs_v0 nin0)
    have A_bv := A_bv.keep Kq (ninS ne_bv_v0 nin0)
    have A_bn := A_bn.keep Kq (ninS (Ne.symm ne_v0_bn) nin0)
    have A_v1 := A_v1.keep Kq (ninS (Ne.symm ne_v0_v1) nin0)
    have A_m0 := A_m0.keep Kq (ninS (Ne.symm ne_v0_m0) nin0)
    have A_m1 := A_m1.keep Kq (ninS (Ne.symm ne_v0_m1) nin0)
    have Z0 := Nat.le_trans Z0 Kq.1
    have A_v0 := A_v0n
    have N := fN _ z_v0 N
    have A_v0 : Arv Z h12 v0 _ .long (3 : Int32) [(.long q0), (.long q1), (.long q2)] (.long (0 : Int64)) := A_v0
    refine own_aload X hx (hb hby at_236) (pc' := 238) rfl rfl rfl ?_
    refine own_iconst X hx (0 : Int32) (hb hby at_238) (pc' := 239) rfl rfl ?_
    refine own_lload X hx (hb hby at_239) (pc' := 241) rfl rfl ?_
    refine own_lastore X hx hZ eT A_v1 (by decide) 0 rfl (by show 0 < 3; decide) (hb hby at_241) (pc' := 242) rfl ?_
    intro T h13 lc X eT Kq A_v1n fN
    have E_b1 := E_b1.keep Kq
    have A_b1 := A_b1.keep Kq (ninS ne_b1_v1 nin0)
    have E_b4 := E_b4.keep Kq
    have F_columns := F_columns.keep Kq (ninS ne_b4_v1 nin0)
    have F_stamps := F_stamps.keep Kq (ninS ne_b4_v1 nin0)
    have F_values := F_values.keep Kq (ninS ne_b4_v1 nin0)
    have F_nulls := F_nulls.keep Kq (ninS ne_b4_v1 nin0)
    have A_bc := A_bc.keep Kq (ninS ne_bc_v1 nin0)
    have A_bs := A_bs.keep Kq (ninS ne_bs_v1 nin0)
    have A_bv := A_bv.keep Kq (ninS ne_bv_v1 nin0)
    have A_bn := A_bn.keep Kq (ninS (Ne.symm ne_v1_bn) nin0)
    have A_m0 := A_m0.keep Kq (ninS (Ne.symm ne_v1_m0) nin0)
    have A_m1 := A_m1.keep Kq (ninS (Ne.symm ne_v1_m1) nin0)
    have A_v0 := A_v0.keep Kq (ninS ne_v0_v1 nin0)
    have Z0 := Nat.le_trans Z0 Kq.1
    have A_v1 := A_v1n
    have N := fN _ z_v1 N
    have A_v1 : Arv Z h13 v1 _ .long (3 : Int32) [(.long q3), (.long (0 : Int64)), (.long (0 : Int64))] (.long (0 : Int64)) := A_v1
    refine own_aload X hx (hb hby at_242) (pc' := 244) rfl rfl rfl ?_
    refine own_iconst X hx (1 : Int32) (hb hby at_244) (pc' := 245) rfl rfl ?_
    refine own_lload X hx (hb hby at_245) (pc' := 247) rfl rfl ?_
    refine own_lastore X hx hZ eT A_v1 (by decide) 1 rfl (by show 1 < 3; decide) (hb hby at_247) (pc' := 248) rfl ?_
    intro T h14 lc X eT Kq A_v1n fN
    have E_b1 := E_b1.keep Kq
    have A_b1 := A_b1.keep Kq (ninS ne_b1_v1 nin0)
    have E_b4 := E_b4.keep Kq
    have F_columns := F_columns.keep Kq (ninS ne_b4_v1 nin0)
    have F_stamps := F_stamps.keep Kq (ninS ne_b4_v1 nin0)
    have F_values := F_values.keep Kq (ninS ne_b4_v1 nin0)
    have F_nulls := F_nulls.keep Kq (ninS ne_b4_v1 nin0)
    have A_bc := A_bc.keep Kq (ninS ne_bc_v1 nin0)
    have A_bs := A_bs.keep Kq (ninS ne_bs_v1 nin0)
    have A_bv := A_bv.keep Kq (ninS ne_bv_v1 nin0)
    have A_bn := A_bn.keep Kq (ninS (Ne.symm ne_v1_bn) nin0)
    have A_m0 := A_m0.keep Kq (ninS (Ne.symm ne_v1_m0) nin0)
    have A_m1 := A_m1.keep Kq (ninS (Ne.symm ne_v1_m1) nin0)
    have A_v0 := A_v0.keep Kq (ninS ne_v0_v1 nin0)
    have Z0 := Nat.le_trans Z0 Kq.1
    have A_v1 := A_v1n
    have N := fN _ z_v1 N
    have A_v1 : Arv Z h14 v1 _ .long (3 : Int32) [(.long q3), (.long (q0 ^^^ (-1 : Int64))), (.long (0 : Int64))] (.long (0 : Int64)) := A_v1
    refine own_aload X hx (hb hby at_248) (pc' := 250) rfl rfl rfl ?_
    refine own_iconst X hx (2 : Int32) (hb hby at_250) (pc' := 251) rfl rfl ?_
    refine own_lload X hx (hb hby at_251) (pc' := 253) rfl rfl ?_
    refine own_lastore X hx hZ eT A_v1 (by decide) 2 rfl (by show 2 < 3; decide) (hb hby at_253) (pc' := 254) rfl ?_
    intro T h15 lc X eT Kq A_v1n fN
    have E_b1 := E_b1.keep Kq
    have A_b1 := A_b1.keep Kq (ninS ne_b1_v1 nin0)
    have E_b4 := E_b4.keep Kq
    have F_columns := F_columns.keep Kq (ninS ne_b4_v1 nin0)
    have F_stamps := F_stamps.keep Kq (ninS ne_b4_v1 nin0)
    have F_values := F_values.keep Kq (ninS ne_b4_v1 nin0)
    have F_nulls := F_nulls.keep Kq (ninS ne_b4_v1 nin0)
    have A_bc := A_bc.keep Kq (ninS ne_bc_v1 nin0)
    have A_bs := A_bs.keep Kq (ninS ne_bs_v1 nin0)
    have A_bv := A_bv.keep Kq (ninS ne_bv_v1 nin0)
    have A_bn := A_bn.keep Kq (ninS (Ne.symm ne_v1_bn) nin0)
    have A_m0 := A_m0.keep Kq (ninS (Ne.symm ne_v1_m0) nin0)
    have A_m1 := A_m1.keep Kq (ninS (Ne.symm ne_v1_m1) nin0)
    have A_v0 := A_v0.keep Kq (ninS ne_v0_v1 nin0)
    have Z0 := Nat.le_trans Z0 Kq.1
    have A_v1 := A_v1n
    have N := fN _ z_v1 N
    have A_v1 : Arv Z h15 v1 _ .long (3 : Int32) [(.long q3), (.long (q0 ^^^ (-1 : Int64))), (.long (q1 ^^^ q2))] (.long (0 : Int64)) := A_v1
    refine own_aload X hx (hb hby at_254) (pc' := 256) rfl rfl rfl ?_
    refine own_iconst X hx (0 : Int32) (hb hby at_256) (pc' := 257) rfl rfl ?_
    refine own_iload X hx (hb hby at_257) (pc' := 259) rfl rfl ?_
    refine own_bastoreZ X hx hZ eT A_m0 (by decide) 0 rfl (by show 0 < 3; decide) (hb hby at_259) (pc' := 260) rfl ?_
    intro T h16 lc X eT Kq A_m0n fN
    have E_b1 := E_b1.keep Kq
    have A_b1 := A_b1.keep Kq (ninS ne_b1_m0 nin0)
    have E_b4 := E_b4.keep Kq
    have F_columns := F_columns.keep Kq (ninS ne_b4_m0 nin0)
    have F_stamps := F_stamps.keep Kq (ninS ne_b4_m0 nin0)
    have F_values := F_values.keep Kq (ninS ne_b4_m0 nin0)
    have F_nulls := F_nulls.keep Kq (ninS ne_b4_m0 nin0)
    have A_bc := A_bc.keep Kq (ninS ne_bc_m0 nin0)
    have A_bs := A_bs.keep Kq (ninS ne_bs_m0 nin0)
    have A_bv := A_bv.keep Kq (ninS ne_bv_m0 nin0)
    have A_bn := A_bn.keep Kq (ninS ne_bn_m0 nin0)
    have A_m1 := A_m1.keep Kq (ninS (Ne.symm ne_m0_m1) nin0)
    have A_v0 := A_v0.keep Kq (ninS ne_v0_m0 nin0)
    have A_v1 := A_v1.keep Kq (ninS ne_v1_m0 nin0)
    have Z0 := Nat.le_trans Z0 Kq.1
    have A_m0 := A_m0n
    have N := fN _ z_m0 N
    rw [hs0] at A_m0
    have A_m0 : Arv Z h16 m0 _ .boolean (3 : Int32) [(.int s0), (.int (0 : Int32)), (.int (0 : Int32))] (.int (0 : Int32)) := A_m0
    refine own_aload X hx (hb hby at_260) (pc' := 262) rfl rfl rfl ?_
    refine own_iconst X hx (1 : Int32) (hb hby at_262) (pc' := 263) rfl rfl ?_
    refine own_iload X hx (hb hby at_263) (pc' := 265) rfl rfl ?_
    refine own_bastoreZ X hx hZ eT A_m0 (by decide) 1 rfl (by show 1 < 3; decide) (hb hby at_265) (pc' := 266) rfl ?_
    intro T h17 lc X eT Kq A_m0n fN
    have E_b1 := E_b1.keep Kq
    have A_b1 := A_b1.keep Kq (ninS ne_b1_m0 nin0)
    have E_b4 := E_b4.keep Kq
    have F_columns := F_columns.keep Kq (ninS ne_b4_m0 nin0)
    have F_stamps := F_stamps.keep Kq (ninS ne_b4_m0 nin0)
    have F_values := F_values.keep Kq (ninS ne_b4_m0 nin0)
    have F_nulls := F_nulls.keep Kq (ninS ne_b4_m0 nin0)
    have A_bc := A_bc.keep Kq (ninS ne_bc_m0 nin0)
    have A_bs := A_bs.keep Kq (ninS ne_bs_m0 nin0)
    have A_bv := A_bv.keep Kq (ninS ne_bv_m0 nin0)
    have A_bn := A_bn.keep Kq (ninS ne_bn_m0 nin0)
    have A_m1 := A_m1.keep Kq (ninS (Ne.symm ne_m0_m1) nin0)
    have A_v0 := A_v0.keep Kq (ninS ne_v0_m0 nin0)
    have A_v1 := A_v1.keep Kq (ninS ne_v1_m0 nin0)
    have Z0 := Nat.le_trans Z0 Kq.1
    have A_m0 := A_m0n
    have N := fN _ z_m0 N
    rw [hs1] at A_m0
    have A_m0 : Arv Z h17 m0 _ .boolean (3 : Int32) [(.int s0), (.int s1), (.int (0 : Int32))] (.int (0 : Int32)) := A_m0
    refine own_aload X hx (hb hby at_266) (pc' := 268) rfl rfl rfl ?_
    refine own_iconst X hx (2 : Int32) (hb hby at_268) (pc' := 269) rfl rfl ?_
    refine own_iload X hx (hb hby at_269) (pc' := 271) rfl rfl ?_
    refine own_bastoreZ X hx hZ eT A_m0 (by decide) 2 rfl (by show 2 < 3; decide) (hb hby at_271) (pc' := 272) rfl ?_
    intro T h18 lc X eT Kq A_m0n fN
    have E_b1 := E_b1.keep Kq
    have A_b1 := A_b1.keep Kq (ninS ne_b1_m0 nin0)
    have E_b4 := E_b4.keep Kq
    have F_columns := F_columns.keep Kq (ninS ne_b4_m0 nin0)
    have F_stamps := F_stamps.keep Kq (ninS ne_b4_m0 nin0)
    have F_values := F_values.keep Kq (ninS ne_b4_m0 nin0)
    have F_nulls := F_nulls.keep Kq (ninS ne_b4_m0 nin0)
    have A_bc := A_bc.keep Kq (ninS ne_bc_m0 nin0)
    have A_bs := A_bs.keep Kq (ninS ne_bs_m0 nin0)
    have A_bv := A_bv.keep Kq (ninS ne_bv_m0 nin0)
    have A_bn := A_bn.keep Kq (ninS ne_bn_m0 nin0)
    have A_m1 := A_m1.keep Kq (ninS (Ne.symm ne_m0_m1) nin0)
    have A_v0 := A_v0.keep Kq (ninS ne_v0_m0 nin0)
    have A_v1 := A_v1.keep Kq (ninS ne_v1_m0 nin0)
    have Z0 := Nat.le_trans Z0 Kq.1
    have A_m0 := A_m0n
    have N := fN _ z_m0 N
    rw [hs2] at A_m0
    have A_m0 : Arv Z h18 m0 _ .boolean (3 : Int32) [(.int s0), (.int s1), (.int s2)] (.int (0 : Int32)) := A_m0
    refine own_aload X hx (hb hby at_272) (pc' := 274) rfl rfl rfl ?_
    refine own_iconst X hx (0 : Int32) (hb hby at_274) (pc' := 275) rfl rfl ?_
    refine own_iload X hx (hb hby at_275) (pc' := 277) rfl rfl ?_
    refine own_bastoreZ X hx hZ eT A_m1 (by decide) 0 rfl (by show 0 < 3; decide) (hb hby at_277) (pc' := 278) rfl ?_
    intro T h19 lc X eT Kq A_m1n fN
    have E_b1 := E_b1.keep Kq
    have A_b1 := A_b1.keep Kq (ninS ne_b1_m1 nin0)
    have E_b4 := E_b4.keep Kq
    have F_columns := F_columns.keep Kq (ninS ne_b4_m1 nin0)
    have F_stamps := F_stamps.keep Kq (ninS ne_b4_m1 nin0)
    have F_values := F_values.keep Kq (ninS ne_b4_m1 nin0)
    have F_nulls := F_nulls.keep Kq (ninS ne_b4_m1 nin0)
    have A_bc := A_bc.keep Kq (ninS ne_bc_m1 nin0)
    have A_bs := A_bs.keep Kq (ninS ne_bs_m1 nin0)
    have A_bv := A_bv.keep Kq (ninS ne_bv_m1 nin0)
    have A_bn := A_bn.keep Kq (ninS ne_bn_m1 nin0)
    have A_v0 := A_v0.keep Kq (ninS ne_v0_m1 nin0)
    have A_v1 := A_v1.keep Kq (ninS ne_v1_m1 nin0)
    have A_m0 := A_m0.keep Kq (ninS ne_m0_m1 nin0)
    have Z0 := Nat.le_trans Z0 Kq.1
    have A_m1 := A_m1n
    have N := fN _ z_m1 N
    rw [ht0] at A_m1
    have A_m1 : Arv Z h19 m1 _ .boolean (3 : Int32) [(.int t0), (.int (0 : Int32)), (.int (0 : Int32))] (.int (0 : Int32)) := A_m1
    refine own_aload X hx (hb hby at_278) (pc' := 280) rfl rfl rfl ?_
    refine own_iconst X hx (1 : Int32) (hb hby at_280) (pc' := 281) rfl rfl ?_
    refine own_iload X hx (hb hby at_281) (pc' := 283) rfl rfl ?_
    refine own_bastoreZ X hx hZ eT A_m1 (by decide) 1 rfl (by show 1 < 3; decide) (hb hby at_283) (pc' := 284) rfl ?_
    intro T h20 lc X eT Kq A_m1n fN
    have E_b1 := E_b1.keep Kq
    have A_b1 := A_b1.keep Kq (ninS ne_b1_m1 nin0)
    have E_b4 := E_b4.keep Kq
    have F_columns := F_columns.keep Kq (ninS ne_b4_m1 nin0)
    have F_stamps := F_stamps.keep Kq (ninS ne_b4_m1 nin0)
    have F_values := F_values.keep Kq (ninS ne_b4_m1 nin0)
    have F_nulls := F_nulls.keep Kq (ninS ne_b4_m1 nin0)
    have A_bc := A_bc.keep Kq (ninS ne_bc_m1 nin0)
    have A_bs := A_bs.keep Kq (ninS ne_bs_m1 nin0)
    have A_bv := A_bv.keep Kq (ninS ne_bv_m1 nin0)
    have A_bn := A_bn.keep Kq (ninS ne_bn_m1 nin0)
    have A_v0 := A_v0.keep Kq (ninS ne_v0_m1 nin0)
    have A_v1 := A_v1.keep Kq (ninS ne_v1_m1 nin0)
    have A_m0 := A_m0.keep Kq (ninS ne_m0_m1 nin0)
    have Z0 := Nat.le_trans Z0 Kq.1
    have A_m1 := A_m1n
    have N := fN _ z_m1 N
    rw [ht1] at A_m1
    have A_m1 : Arv Z h20 m1 _ .boolean (3 : Int32) [(.int t0), (.int t1), (.int (0 : Int32))] (.int (0 : Int32)) := A_m1
    refine own_aload X hx (hb hby at_284) (pc' := 286) rfl rfl rfl ?_
    refine own_iconst X hx (2 : Int32) (hb hby at_286) (pc' := 287) rfl rfl ?_
    refine own_iload X hx (hb hby at_287) (pc' := 289) rfl rfl ?_
    refine own_bastoreZ X hx hZ eT A_m1 (by decide) 2 rfl (by show 2 < 3; decide) (hb hby at_289) (pc' := 290) rfl ?_
    intro T h21 lc X eT Kq A_m1n fN
    have E_b1 := E_b1.keep Kq
    have A_b1 := A_b1.keep Kq (ninS ne_b1_m1 nin0)
    have E_b4 := E_b4.keep Kq
    have F_columns := F_columns.keep Kq (ninS ne_b4_m1 nin0)
    have F_stamps := F_stamps.keep Kq (ninS ne_b4_m1 nin0)
    have F_values := F_values.keep Kq (ninS ne_b4_m1 nin0)
    have F_nulls := F_nulls.keep Kq (ninS ne_b4_m1 nin0)
    have A_bc := A_bc.keep Kq (ninS ne_bc_m1 nin0)
    have A_bs := A_bs.keep Kq (ninS ne_bs_m1 nin0)
    have A_bv := A_bv.keep Kq (ninS ne_bv_m1 nin0)
    have A_bn := A_bn.keep Kq (ninS ne_bn_m1 nin0)
    have A_v0 := A_v0.keep Kq (ninS ne_v0_m1 nin0)
    have A_v1 := A_v1.keep Kq (ninS ne_v1_m1 nin0)
    have A_m0 := A_m0.keep Kq (ninS ne_m0_m1 nin0)
    have Z0 := Nat.le_trans Z0 Kq.1
    have A_m1 := A_m1n
    have N := fN _ z_m1 N
    rw [ht2] at A_m1
    have A_m1 : Arv Z h21 m1 _ .boolean (3 : Int32) [(.int t0), (.int t1), (.int t2)] (.int (0 : Int32)) := A_m1
    refine own_aload X hx (hb hby at_290) (pc' := 292) rfl rfl rfl ?_
    refine own_getF X hx hZ hown (host := "") (Or.inl (own_w hw 44 rfl)) Via.refl eT F_stamps (hb hby at_292) (pc' := 295) rfl ?_
    intro T X eT
    refine own_iconst X hx (0 : Int32) (hb hby at_295) (pc' := 296) rfl rfl ?_
    refine own_lload X hx (hb hby at_296) (pc' := 298) rfl rfl ?_
    refine own_lastore X hx hZ eT A_bs (by decide) 0 rfl (by show 0 < 3; decide) (hb hby at_298) (pc' := 299) rfl ?_
    intro T h22 lc X eT Kq A_bsn fN
    have E_b1 := E_b1.keep Kq
    have A_b1 := A_b1.keep Kq (ninS ne_b1_bs nin0)
    have E_b4 := E_b4.keep Kq
    have F_columns := F_columns.keep Kq (ninS ne_b4_bs nin0)
    have F_stamps := F_stamps.keep Kq (ninS ne_b4_bs nin0)
    have F_values := F_values.keep Kq (ninS ne_b4_bs nin0)
    have F_nulls := F_nulls.keep Kq (ninS ne_b4_bs nin0)
    have A_bc := A_bc.keep Kq (ninS ne_bc_bs nin0)
    have A_bv := A_bv.keep Kq (ninS (Ne.symm ne_bs_bv) nin0)
    have A_bn := A_bn.keep Kq (ninS (Ne.symm ne_bs_bn) nin0)
    have A_v0 := A_v0.keep Kq (ninS (Ne.symm ne_bs_v0) nin0)
    have A_v1 := A_v1.keep Kq (ninS (Ne.symm ne_bs_v1) nin0)
    have A_m0 := A_m0.keep Kq (ninS (Ne.symm ne_bs_m0) nin0)
    have A_m1 := A_m1.keep Kq (ninS (Ne.symm ne_bs_m1) nin0)
    have Z0 := Nat.le_trans Z0 Kq.1
    have A_bs := A_bsn
    have N := fN _ z_bs N
    have A_bs : Arv Z h22 bs _ .long (3 : Int32) [(.long q4), (.long (0 : Int64)), (.long (0 : Int64))] (.long (0 : Int64)) := A_bs
    refine own_aload X hx (hb hby at_299) (pc' := 301) rfl rfl rfl ?_
    refine own_getF X hx hZ hown (host := "") (Or.inl (own_w hw 44 rfl)) Via.refl eT F_stamps (hb hby at_301) (pc' := 304) rfl ?_
    intro T X eT
    refine own_iconst X hx (1 : Int32) (hb hby at_304) (pc' := 305) rfl rfl ?_
    refine own_lload X hx (hb hby at_305) (pc' := 307) rfl rfl ?_
    refine own_lastore X hx hZ eT A_bs (by decide) 1 rfl (by show 1 < 3; decide) (hb hby at_307) (pc' := 308) rfl ?_
    intro T h23 lc X eT Kq A_bsn fN
    have E_b1 := E_b1.keep Kq
    have A_b1 := A_b1.keep Kq (ninS ne_b1_bs nin0)
    have E_b4 := E_b4.keep Kq
    have F_columns := F_columns.keep Kq (ninS ne_b4_bs nin0)
    have F_stamps := F_stamps.keep Kq (ninS ne_b4_bs nin0)
    have F_values := F_values.keep Kq (ninS ne_b4_bs nin0)
    have F_nulls := F_nulls.keep Kq (ninS ne_b4_bs nin0)
    have A_bc := A_bc.keep Kq (ninS ne_bc_bs nin0)
    have A_bv := A_bv.keep Kq (ninS (Ne.symm ne_bs_bv) nin0)
    have A_bn := A_bn.keep Kq (ninS (Ne.symm ne_bs_bn) nin0)
    have A_v0 := A_v0.keep Kq (ninS (Ne.symm ne_bs_v0) nin0)
    have A_v1 := A_v1.keep Kq (ninS (Ne.symm ne_bs_v1) nin0)
    have A_m0 := A_m0.keep Kq (ninS (Ne.symm ne_bs_m0) nin0)
    have A_m1 := A_m1.keep Kq (ninS (Ne.symm ne_bs_m1) nin0)
    have Z0 := Nat.le_trans Z0 Kq.1
    have A_bs := A_bsn
    have N := fN _ z_bs N
    have A_bs : Arv Z h23 bs _ .long (3 : Int32) [(.long q4), (.long (q4 ^^^ (-1 : Int64))), (.long (0 : Int64))] (.long (0 : Int64)) := A_bs
    refine own_aload X hx (hb hby at_308) (pc' := 310) rfl rfl rfl ?_
    refine own_getF X hx hZ hown (host := "") (Or.inl (own_w hw 44 rfl)) Via.refl eT F_stamps (hb hby at_310) (pc' := 313) rfl ?_
    intro T X eT
    refine own_iconst X hx (2 : Int32) (hb hby at_313) (pc' := 314) rfl rfl ?_
    refine own_lload X hx (hb hby at_314) (pc' := 316) rfl rfl ?_
    refine own_lastore X hx hZ eT A_bs (by decide) 2 rfl (by show 2 < 3; decide) (hb hby at_316) (pc' := 317) rfl ?_
    intro T h24 lc X eT Kq A_bsn fN
    have E_b1 := E_b1.keep Kq
    have A_b1 := A_b1.keep Kq (ninS ne_b1_bs nin0)
    have E_b4 := E_b4.keep Kq
    have F_columns := F_columns.keep Kq (ninS ne_b4_bs nin0)
    have F_stamps := F_stamps.keep Kq (ninS ne_b4_bs nin0)
    have F_values := F_values.keep Kq (ninS ne_b4_bs nin0)
    have F_nulls := F_nulls.keep Kq (ninS ne_b4_bs nin0)
    have A_bc := A_bc.keep Kq (ninS ne_bc_bs nin0)
    have A_bv := A_bv.keep Kq (ninS (Ne.symm ne_bs_bv) nin0)
    have A_bn := A_bn.keep Kq (ninS (Ne.symm ne_bs_bn) nin0)
    have A_v0 := A_v0.keep Kq (ninS (Ne.symm ne_bs_v0) nin0)
    have A_v1 := A_v1.keep Kq (ninS (Ne.symm ne_bs_v1) nin0)
    have A_m0 := A_m0.keep Kq (ninS (Ne.symm ne_bs_m0) nin0)
    have A_m1 := A_m1.keep Kq (ninS (Ne.symm ne_bs_m1) nin0)
    have Z0 := Nat.le_trans Z0 Kq.1
    have A_bs := A_bsn
    have N := fN _ z_bs N
    have A_bs : Arv Z h24 bs _ .long (3 : Int32) [(.long q4), (.long (q4 ^^^ (-1 : Int64))), (.long (q4 ^^^ q3))] (.long (0 : Int64)) := A_bs
    refine own_aload X hx (hb hby at_317) (pc' := 319) rfl rfl rfl ?_
    refine own_iload X hx (hb hby at_319) (pc' := 321) rfl rfl ?_
    refine own_iload X hx (hb hby at_321) (pc' := 323) rfl rfl ?_
    refine own_callV X hx hZ (y := (⟨"com/example/latchwork/latchwork/storage/ColumnBatch", "move", "(II)V"⟩ : MethodName)) b4 [(.int fr), (.int tt)] hown (own_w hw 45 rfl) (own_w hw 46 rfl) (own_w hw 48 rfl) (own_w hw 47 rfl) (own_w hw 3 rfl) (own_w hw 49 rfl) (by decide) (rm_move l Z a0 hw [] b4 bc bv bn v0 v1 m0 m1 fr tt _ _ _ _ _ _ _ q0 q1 q2 q3 (q0 ^^^ (-1 : Int64)) (q1 ^^^ q2) s0 s1 s2 t0 t1 t2 h24 n0 Z0 F_columns F_values F_nulls _ A_bc A_bv A_bn A_v0 A_m0 A_v1 A_m1 ne_b4_v0 ne_bc_v0 ne_bv_v0 (Ne.symm ne_v0_bn) ne_b4_v1 ne_bc_v1 ne_bv_v1 (Ne.symm ne_v1_bn) ne_v0_v1 ne_b4_m0 ne_bc_m0 ne_bv_m0 ne_bn_m0 ne_v0_m0 ne_v1_m0 ne_b4_m1 ne_bc_m1 ne_bv_m1 ne_bn_m1 ne_v0_m1 ne_v1_m1 ne_m0_m1 bfr btt hs0 hs1 hs2 ht0 ht1 ht2 z_v0 z_v1 z_m0 z_m1) E_b4 eT (W := 0) (by decide) (by decide) (cells' := 10) (slots' := 27) rfl rfl (by decide) (by decide) (by rw [hml]; rfl) (lenOf own_pd_28II29V rfl) rfl (S := []) rfl (Nat.le_of_eq rfl) (hb hby at_323) (pc' := 326) rfl ?_
    intro v T h25 L lc X eT hq fN
    obtain ⟨rfl, Nq, Kq, B_v0, B_v1, B_m0, B_m1⟩ := hq
    have N := fN _ N Nq
    have A_v0 := B_v0
    have A_v1 := B_v1
    have A_m0 := B_m0
    have A_m1 := B_m1
    have E_b1 := E_b1.keep Kq
    have A_b1 := A_b1.keep Kq (ninS ne_b1_v0 (ninS ne_b1_v1 (ninS ne_b1_m0 (ninS ne_b1_m1 nin0))))
    have E_b4 := E_b4.keep Kq
    have F_columns := F_columns.keep Kq (ninS ne_b4_v0 (ninS ne_b4_v1 (ninS ne_b4_m0 (ninS ne_b4_m1 nin0))))
    have F_stamps := F_stamps.keep Kq (ninS ne_b4_v0 (ninS ne_b4_v1 (ninS ne_b4_m0 (ninS ne_b4_m1 nin0))))
    have F_values := F_values.keep Kq (ninS ne_b4_v0 (ninS ne_b4_v1 (ninS ne_b4_m0 (ninS ne_b4_m1 nin0))))
    have F_nulls := F_nulls.keep Kq (ninS ne_b4_v0 (ninS ne_b4_v1 (ninS ne_b4_m0 (ninS ne_b4_m1 nin0))))
    have A_bc := A_bc.keep Kq (ninS ne_bc_v0 (ninS ne_bc_v1 (ninS ne_bc_m0 (ninS ne_bc_m1 nin0))))
    have A_bv := A_bv.keep Kq (ninS ne_bv_v0 (ninS ne_bv_v1 (ninS ne_bv_m0 (ninS ne_bv_m1 nin0))))
    have A_bn := A_bn.keep Kq (ninS (Ne.symm ne_v0_bn) (ninS (Ne.symm ne_v1_bn) (ninS ne_bn_m0 (ninS ne_bn_m1 nin0))))
    have A_bs := A_bs.keep Kq (ninS ne_bs_v0 (ninS ne_bs_v1 (ninS ne_bs_m0 (ninS ne_bs_m1 nin0))))
    have Z0 := Nat.le_trans Z0 Kq.1
    show own_W p e below (own_Post s (Q_law Z q0 q1 q2 q3 q4 p5 h0 n0) 32 128) T m 326 #[.val (.long q0), .second, .val (.long q1), .second, .val (.long q2), .second, .val (.long q3), .second, .val (.long q4), .second, .val (.int p5), .val (.ref b1), .val (.ref b4), .val (.ref v0), .val (.ref v1), .val (.ref m0), .val (.ref m1), .val (.long q0), .second, .val (.long q1), .second, .val (.long q2), .second, .val (.long q3), .second, .val (.long (q0 ^^^ (-1 : Int64))), .second, .val (.long (q1 ^^^ q2)), .second, .val (.int s0), .val (.int s1), .val (.int s2), .val (.int t0), .val (.int t1), .val (.int t2), .val (.int fr), .val (.int tt), .val (.long q4), .second, .val (.long (q4 ^^^ (-1 : Int64))), .second, .val (.long (q4 ^^^ q3)), .second] []
    refine own_aload X hx (hb hby at_326) (pc' := 328) rfl rfl rfl ?_
    refine own_aload X hx (hb hby at_328) (pc' := 330) rfl rfl rfl ?_
    refine own_iload X hx (hb hby at_330) (pc' := 332) rfl rfl ?_
    refine own_iload X hx (hb hby at_332) (pc' := 334) rfl rfl ?_
    refine own_lload X hx (hb hby at_334) (pc' := 336) rfl rfl ?_
    refine own_lload X hx (hb hby at_336) (pc' := 338) rfl rfl ?_
    refine own_lload X hx (hb hby at_338) (pc' := 340) rfl rfl ?_
    refine own_iload X hx (hb hby at_340) (pc' := 342) rfl rfl ?_
    refine own_iload X hx (hb hby at_342) (pc' := 344) rfl rfl ?_
    refine own_iload X hx (hb hby at_344) (pc' := 346) rfl rfl ?_
    refine own_callS X hx hZ [(.ref v0), (.ref m0), (.int fr), (.int tt), (.long q0), (.long q1), (.long q2), (.int s0), (.int s1), (.int s2)] hown (own_w hw 50 rfl) (own_w hw 51 rfl) (own_w hw 52 rfl) (own_w hw 53 rfl) (by decide) (rm_col l Z a0 hw [] v0 m0 fr tt q0 q1 q2 s0 s1 s2 h25 n0 Z0 _ _ A_v0 A_m0 bfr btt) eT (W := 0) (by decide) (by decide) (cells' := 10) (slots' := 27) rfl rfl (by decide) (by decide) (by rw [hml]; rfl) (lenOf own_pd_285bJ5bZIIJJJZZZ29Z rfl) rfl (S := []) rfl (Nat.le_of_eq rfl) (hb hby at_346) (pc' := 349) rfl ?_
    intro v T h26 L lc X eT hq fN
    obtain ⟨rfl, Nq, hqe⟩ := hq
    have N := fN _ N Nq
    rw [hqe] at eT
    show own_W p e below (own_Post s (Q_law Z q0 q1 q2 q3 q4 p5 h0 n0) 32 128) T m 349 #[.val (.long q0), .second, .val (.long q1), .second, .val (.long q2), .second, .val (.long q3), .second, .val (.long q4), .second, .val (.int p5), .val (.ref b1), .val (.ref b4), .val (.ref v0), .val (.ref v1), .val (.ref m0), .val (.ref m1), .val (.long q0), .second, .val (.long q1), .second, .val (.long q2), .second, .val (.long q3), .second, .val (.long (q0 ^^^ (-1 : Int64))), .second, .val (.long (q1 ^^^ q2)), .second, .val (.int s0), .val (.int s1), .val (.int s2), .val (.int t0), .val (.int t1), .val (.int t2), .val (.int fr), .val (.int tt), .val (.long q4), .second, .val (.long (q4 ^^^ (-1 : Int64))), .second, .val (.long (q4 ^^^ q3)), .second] [(.int (1 : Int32))]
    refine own_ifN X hx (hb hby at_349) (pc' := 352) rfl (show ¬ ((1 : Int32) = (0 : Int32)) from (by decide)) ?_
    refine own_aload X hx (hb hby at_352) (pc' := 354) rfl rfl rfl ?_
    refine own_aload X hx (hb hby at_354) (pc' := 356) rfl rfl rfl ?_
    refine own_iload X hx (hb hby at_356) (pc' := 358) rfl rfl ?_
    refine own_iload X hx (hb hby at_358) (pc' := 360) rfl rfl ?_
    refine own_lload X hx (hb hby at_360) (pc' := 362) rfl rfl ?_
    refine own_lload X hx (hb hby at_362) (pc' := 364) rfl rfl ?_
    refine own_lload X hx (hb hby at_364) (pc' := 366) rfl rfl ?_
    refine own_iload X hx (hb hby at_366) (pc' := 368) rfl rfl ?_
    refine own_iload X hx (hb hby at_368) (pc' := 370) rfl rfl ?_
    refine own_iload X hx (hb hby at_370) (pc' := 372) rfl rfl ?_
    refine own_callS X hx hZ [(.ref v1), (.ref m1), (.int fr), (.int tt), (.long q3), (.long (q0 ^^^ (-1 : Int64))), (.long (q1 ^^^ q2)), (.int t0), (.int t1), (.int t2)] hown (own_w hw 50 rfl) (own_w hw 51 rfl) (own_w hw 52 rfl) (own_w hw 53 rfl) (by decide) (rm_col l Z a0 hw [] v1 m1 fr tt q3 (q0 ^^^ (-1 : Int64)) (q1 ^^^ q2) t0 t1 t2 h25 n0 Z0 _ _ A_v1 A_m1 bfr btt) eT (W := 0) (by decide) (by decide) (cells' := 10) (slots' := 27) rfl rfl (by decide) (by decide) (by rw [hml]; rfl) (lenOf own_pd_285bJ5bZIIJJJZZZ29Z rfl) rfl (S := []) rfl (Nat.le_of_eq rfl) (hb hby at_372) (pc' := 375) rfl ?_
    intro v T h27 L lc X eT hq fN
    obtain ⟨rfl, Nq, hqe⟩ := hq
    have N := fN _ N Nq
    rw [hqe] at eT
    show own_W p e below (own_Post s (Q_law Z q0 q1 q2 q3 q4 p5 h0 n0) 32 128) T m 375 #[.val (.long q0), .second, .val (.long q1), .second, .val (.long q2), .second, .val (.long q3), .second, .val (.long q4), .second, .val (.int p5), .val (.ref b1), .val (.ref b4), .val (.ref v0), .val (.ref v1), .val (.ref m0), .val (.ref m1), .val (.long q0), .second, .val (.long q1), .second, .val (.long q2), .second, .val (.long q3), .second, .val (.long (q0 ^^^ (-1 : Int64))), .second, .val (.long (q1 ^^^ q2)), .second, .val (.int s0), .val (.int s1), .val (.int s2), .val (.int t0), .val (.int t1), .val (.int t2), .val (.int fr), .val (.int tt), .val (.long q4), .second, .val (.long (q4 ^^^ (-1 : Int64))), .second, .val (.long (q4 ^^^ q3)), .second] [(.int (1 : Int32))]
    refine own_ifN X hx (hb hby at_375) (pc' := 378) rfl (show ¬ ((1 : Int32) = (0 : Int32)) from (by decide)) ?_
    refine own_aload X hx (hb hby at_378) (pc' := 380) rfl rfl rfl ?_
    refine own_getF X hx hZ hown (host := "") (Or.inl (own_w hw 44 rfl)) Via.refl eT F_stamps (hb hby at_380) (pc' := 383) rfl ?_
    intro T X eT
    refine own_iconst X hx (0 : Int32) (hb hby at_383) (pc' := 384) rfl rfl ?_
    refine own_laload X hx hZ eT A_bs (v := (.long q4)) (by decide) rfl (hb hby at_384) (pc' := 385) rfl ?_
    refine own_lload X hx (hb hby at_385) (pc' := 387) rfl rfl ?_
    refine own_lcN X hx (hb hby at_387) (hb hby at_388) (pc' := 391) rfl (show q4 = q4 from rfl) ?_
    refine own_aload X hx (hb hby at_391) (pc' := 393) rfl rfl rfl ?_
    refine own_getF X hx hZ hown (host := "") (Or.inl (own_w hw 44 rfl)) Via.refl eT F_stamps (hb hby at_393) (pc' := 396) rfl ?_
    intro T X eT
    refine own_iconst X hx (1 : Int32) (hb hby at_396) (pc' := 397) rfl rfl ?_
    refine own_laload X hx hZ eT A_bs (v := (.long (q4 ^^^ (-1 : Int64)))) (by decide) rfl (hb hby at_397) (pc' := 398) rfl ?_
    refine own_lload X hx (hb hby at_398) (pc' := 400) rfl rfl ?_
    refine own_lcN X hx (hb hby at_400) (hb hby at_401) (pc' := 404) rfl (show (q4 ^^^ (-1 : Int64)) = (q4 ^^^ (-1 : Int64)) from rfl) ?_
    refine own_aload X hx (hb hby at_404) (pc' := 406) rfl rfl rfl ?_
    refine own_getF X hx hZ hown (host := "") (Or.inl (own_w hw 44 rfl)) Via.refl eT F_stamps (hb hby at_406) (pc' := 409) rfl ?_
    intro T X eT
    refine own_iconst X hx (2 : Int32) (hb hby at_409) (pc' := 410) rfl rfl ?_
    refine own_laload X hx hZ eT A_bs (v := (.long (q4 ^^^ q3))) (by decide) rfl (hb hby at_410) (pc' := 411) rfl ?_
    refine own_lload X hx (hb hby at_411) (pc' := 413) rfl rfl ?_
    refine own_lcN X hx (hb hby at_413) (hb hby at_414) (pc' := 417) rfl (show (q4 ^^^ q3) = (q4 ^^^ q3) from rfl) ?_
    refine own_aload X hx (hb hby at_417) (pc' := 419) rfl rfl rfl ?_
    refine own_callV X hx hZ (y := (⟨"com/example/latchwork/latchwork/storage/ColumnBatch", "capacity", "()I"⟩ : MethodName)) b4 [] hown (own_w hw 54 rfl) (own_w hw 55 rfl) (own_w hw 57 rfl) (own_w hw 56 rfl) (own_w hw 3 rfl) (own_w hw 58 rfl) (by decide) (rm_cap l Z a0 hw [] b4 bs h25 n0 Z0 F_stamps _ _ A_bs) E_b4 eT (W := 0) (by decide) (by decide) (cells' := 10) (slots' := 27) rfl rfl (by decide) (by decide) (by rw [hml]; rfl) (lenOf own_pd_2829I rfl) rfl (S := []) rfl (Nat.le_of_eq rfl) (hb hby at_419) (pc' := 422) rfl ?_
    intro v T h28 L lc X eT hq fN
    obtain ⟨rfl, Nq, hqe⟩ := hq
    have N := fN _ N Nq
    rw [hqe] at eT
    show own_W p e below (own_Post s (Q_law Z q0 q1 q2 q3 q4 p5 h0 n0) 32 128) T m 422 #[.val (.long q0), .second, .val (.long q1), .second, .val (.long q2), .second, .val (.long q3), .second, .val (.long q4), .second, .val (.int p5), .val (.ref b1), .val (.ref b4), .val (.ref v0), .val (.ref v1), .val (.ref m0), .val (.ref m1), .val (.long q0), .second, .val (.long q1), .second, .val (.long q2), .second, .val (.long q3), .second, .val (.long (q0 ^^^ (-1 : Int64))), .second, .val (.long (q1 ^^^ q2)), .second, .val (.int s0), .val (.int s1), .val (.int s2), .val (.int t0), .val (.int t1), .val (.int t2), .val (.int fr), .val (.int tt), .val (.long q4), .second, .val (.long (q4 ^^^ (-1 : Int64))), .second, .val (.long (q4 ^^^ q3)), .second] [(.int (3 : Int32))]
    refine own_iconst X hx (3 : Int32) (hb hby at_422) (pc' := 423) rfl rfl ?_
    refine own_icmpN X hx (hb hby at_423) (pc' := 426) rfl (show (3 : Int32) = (3 : Int32) from (by decide)) ?_
    refine own_iconst X hx (1 : Int32) (hb hby at_426) (pc' := 427) rfl rfl ?_
    refine own_goto X hx (hb hby at_427) (by decide) (pc' := 431) rfl ?_
    refine own_retI X hx hlk (t := .boolean) (w' := (.int (1 : Int32))) Bd.returns (hb hby at_431) rfl rfl (by simp) (by decide) (by decide) ?_
    rw [eT]
    exact ⟨rfl, N⟩
  have J_158 : ∀ (s0 s1 s2 t0 t1 : Int32), nar .boolean s0 = s0 → nar .boolean s1 = s1 → nar .boolean s2 = s2 → nar .boolean t0 = t0 → nar .boolean t1 = t1 → own_W p e below (own_Post s (Q_law Z q0 q1 q2 q3 q4 p5 h0 n0) 32 128) T m 158 #[.val (.long q0), .second, .val (.long q1), .second, .val (.long q2), .second, .val (.long q3), .second, .val (.long q4), .second, .val (.int p5), .val (.ref b1), .val (.ref b4), .val (.ref v0), .val (.ref v1), .val (.ref m0), .val (.ref m1), .val (.long q0), .second, .val (.long q1), .second, .val (.long q2), .second, .val (.long q3), .second, .val (.long (q0 ^^^ (-1 : Int64))), .second, .val (.long (q1 ^^^ q2)), .second, .val (.int s0), .val (.int s1), .val (.int s2), .val (.int t0), .val (.int t1), .unset, .unset, .unset, .unset, .unset, .unset, .unset, .unset, .unset] [] := by
    intro s0 s1 s2 t0 t1 hs0 hs1 hs2 ht0 ht1
    refine own_iload X hx (hb hby at_158) (pc' := 160) rfl rfl ?_
    refine own_bipush X hx (32 : Int32) (hb hby at_160) (pc' := 162) rfl rfl ?_
    refine own_iand X hx (hb hby at_162) (pc' := 163) rfl ?_
    refine own_if X hx (hb hby at_163) (by decide) (pcY := 170) (pcN := 166) rfl rfl (fun (hc163 : (p5 &&& (32 : Int32)) = (0 : Int32)) => ?_) (fun (hc163 : ¬ ((p5 &&& (32 : Int32)) = (0 : Int32))) => ?_)
    · refine own_iconst X hx (0 : Int32) (hb hby at_170) (pc' := 171) rfl rfl ?_
      refine own_istore X hx (hb hby at_171) (pc' := 173) rfl (Ls' := #[.val (.long q0), .second, .val (.long q1), .second, .val (.long q2), .second, .val (.long q3), .second, .val (.long q4), .second, .val (.int p5), .val (.ref b1), .val (.ref b4), .val (.ref v0), .val (.ref v1), .val (.ref m0), .val (.ref m1), .val (.long q0), .second, .val (.long q1), .second, .val (.long q2), .second, .val (.long q3), .second, .val (.long (q0 ^^^ (-1 : Int64))), .second, .val (.long (q1 ^^^ q2)), .second, .val (.int s0), .val (.int s1), .val (.int s2), .val (.int t0), .val (.int t1), .val (.int (0 : Int32)), .unset, .unset, .unset, .unset, .unset, .unset, .unset, .unset]) rfl ?_
      exact J_173 s0 s1 s2 t0 t1 (0 : Int32) hs0 hs1 hs2 ht0 ht1 rfl
    · refine own_iconst X hx (1 : Int32) (hb hby at_166) (pc' := 167) rfl rfl ?_
      refine own_goto X hx (hb hby at_167) (by decide) (pc' := 171) rfl ?_
      refine own_istore X hx (hb hby at_171) (pc' := 173) rfl (Ls' := #[.val (.long q0), .second, .val (.long q1), .second, .val (.long q2), .second, .val (.long q3), .second, .val (.long q4), .second, .val (.int p5), .val (.ref b1), .val (.ref b4), .val (.ref v0), .val (.ref v1), .val (.ref m0), .val (.ref m1), .val (.long q0), .second, .val (.long q1), .second, .val (.long q2), .second, .val (.long q3), .second, .val (.long (q0 ^^^ (-1 : Int64))), .second, .val (.long (q1 ^^^ q2)), .second, .val (.int s0), .val (.int s1), .val (.int s2), .val (.int t0), .val (.int t1), .val (.int (1 : Int32)), .unset, .unset, .unset, .unset, .unset, .unset, .unset, .unset]) rfl ?_
      exact J_173 s0 s1 s2 t0 t1 (1 : Int32) hs0 hs1 hs2 ht0 ht1 rfl
  have J_143 : ∀ (s0 s1 s2 t0 : Int32), nar .boolean s0 = s0 → nar .boolean s1 = s1 → nar .boolean s2 = s2 → nar .boolean t0 = t0 → own_W p e below (own_Post s (Q_law Z q0 q1 q2 q3 q4 p5 h0 n0) 32 128) T m 143 #[.val (.long q0), .second, .val (.long q1), .second, .val (.long q2), .second, .val (.long q3), .second, .val (.long q4), .second, .val (.int p5), .val (.ref b1), .val (.ref b4), .val (.ref v0), .val (.ref v1), .val (.ref m0), .val (.ref m1), .val (.long q0), .second, .val (.long q1), .second, .val (.long q2), .second, .val (.long q3), .second, .val (.long (q0 ^^^ (-1 : Int64))), .second, .val (.long (q1 ^^^ q2)), .second, .val (.int s0), .val (.int s1), .val (.int s2), .val (.int t0), .unset, .unset, .unset, .unset, .unset, .unset, .unset, .unset, .unset, .unset] [] := by
    intro s0 s1 s2 t0 hs0 hs1 hs2 ht0
    refine own_iload X hx (hb hby at_143) (pc' := 145) rfl rfl ?_
    refine own_bipush X hx (16 : Int32) (hb hby at_145) (pc' := 147) rfl rfl ?_
    refine own_iand X hx (hb hby at_147) (pc' := 148) rfl ?_
    refine own_if X hx (hb hby at_148) (by decide) (pcY := 155) (pcN := 151) rfl rfl (fun (hc148 : (p5 &&& (16 : Int32)) = (0 : Int32)) => ?_) (fun (hc148 : ¬ ((p5 &&& (16 : Int32)) = (0 : Int32))) => ?_)
    · refine own_iconst X hx (0 : Int32) (hb hby at_155) (pc' := 156) rfl rfl ?_
      refine own_istore X hx (hb hby at_156) (pc' := 158) rfl (Ls' := #[.val (.long q0), .second, .val (.long q1), .second, .val (.long q2), .second, .val (.long q3), .second, .val (.long q4), .second, .val (.int p5), .val (.ref b1), .val (.ref b4), .val (.ref v0), .val (.ref v1), .val (.ref m0), .val (.ref m1), .val (.long q0), .second, .val (.long q1), .second, .val (.long q2), .second, .val (.long q3), .second, .val (.long (q0 ^^^ (-1 : Int64))), .second, .val (.long (q1 ^^^ q2)), .second, .val (.int s0), .val (.int s1), .val (.int s2), .val (.int t0), .val (.int (0 : Int32)), .unset, .unset, .unset, .unset, .unset, .unset, .unset, .unset, .unset]) rfl ?_
      exact J_158 s0 s1 s2 t0 (0 : Int32) hs0 hs1 hs2 ht0 rfl
    · refine own_iconst X hx (1 : Int32) (hb hby at_151) (pc' := 152) rfl rfl ?_
      refine own_goto X hx (hb hby at_152) (by decide) (pc' := 156) rfl ?_
      refine own_istore X hx (hb hby at_156) (pc' := 158) rfl (Ls' := #[.val (.long q0), .second, .val (.long q1), .second, .val (.long q2), .second, .val (.long q3), .second, .val (.long q4), .second, .val (.int p5), .val (.ref b1), .val (.ref b4), .val (.ref v0), .val (.ref v1), .val (.ref m0), .val (.ref m1), .val (.long q0), .second, .val (.long q1), .second, .val (.long q2), .second, .val (.long q3), .second, .val (.long (q0 ^^^ (-1 : Int64))), .second, .val (.long (q1 ^^^ q2)), .second, .val (.int s0), .val (.int s1), .val (.int s2), .val (.int t0), .val (.int (1 : Int32)), .unset, .unset, .unset, .unset, .unset, .unset, .unset, .unset, .unset]) rfl ?_
      exact J_158 s0 s1 s2 t0 (1 : Int32) hs0 hs1 hs2 ht0 rfl
  have J_128 : ∀ (s0 s1 s2 : Int32), nar .boolean s0 = s0 → nar .boolean s1 = s1 → nar .boolean s2 = s2 → own_W p e below (own_Post s (Q_law Z q0 q1 q2 q3 q4 p5 h0 n0) 32 128) T m 128 #[.val (.long q0), .second, .val (.long q1), .second, .val (.long q2), .second, .val (.long q3), .second, .val (.long q4), .second, .val (.int p5), .val (.ref b1), .val (.ref b4), .val (.ref v0), .val (.ref v1), .val (.ref m0), .val (.ref m1), .val (.long q0), .second, .val (.long q1), .second, .val (.long q2), .second, .val (.long q3), .second, .val (.long (q0 ^^^ (-1 : Int64))), .second, .val (.long (q1 ^^^ q2)), .second, .val (.int s0), .val (.int s1), .val (.int s2), .unset, .unset, .unset, .unset, .unset, .unset, .unset, .unset, .unset, .unset, .unset] [] := by
    intro s0 s1 s2 hs0 hs1 hs2
    refine own_iload X hx (hb hby at_128) (pc' := 130) rfl rfl ?_
    refine own_bipush X hx (8 : Int32) (hb hby at_130) (pc' := 132) rfl rfl ?_
    refine own_iand X hx (hb hby at_132) (pc' := 133) rfl ?_
    refine own_if X hx (hb hby at_133) (by decide) (pcY := 140) (pcN := 136) rfl rfl (fun (hc133 : (p5 &&& (8 : Int32)) = (0 : Int32)) => ?_) (fun (hc133 : ¬ ((p5 &&& (8 : Int32)) = (0 : Int32))) => ?_)
    · refine own_iconst X hx (0 : Int32) (hb hby at_140) (pc' := 141) rfl rfl ?_
      refine own_istore X hx (hb hby at_141) (pc' := 143) rfl (Ls' := #[.val (.long q0), .second, .val (.long q1), .second, .val (.long q2), .second, .val (.long q3), .second, .val (.long q4), .second, .val (.int p5), .val (.ref b1), .val (.ref b4), .val (.ref v0), .val (.ref v1), .val (.ref m0), .val (.ref m1), .val (.long q0), .second, .val (.long q1), .second, .val (.long q2), .second, .val (.long q3), .second, .val (.long (q0 ^^^ (-1 : Int64))), .second, .val (.long (q1 ^^^ q2)), .second, .val (.int s0), .val (.int s1), .val (.int s2), .val (.int (0 : Int32)), .unset, .unset, .unset, .unset, .unset, .unset, .unset, .unset, .unset, .unset]) rfl ?_
      exact J_143 s0 s1 s2 (0 : Int32) hs0 hs1 hs2 rfl
    · refine own_iconst X hx (1 : Int32) (hb hby at_136) (pc' := 137) rfl rfl ?_
      refine own_goto X hx (hb hby at_137) (by decide) (pc' := 141) rfl ?_
      refine own_istore X hx (hb hby at_141) (pc' := 143) rfl (Ls' := #[.val (.long q0), .second, .val (.long q1), .second, .val (.long q2), .second, .val (.long q3), .second, .val (.long q4), .second, .val (.int p5), .val (.ref b1), .val (.ref b4), .val (.ref v0), .val (.ref v1), .val (.ref m0), .val (.ref m1), .val (.long q0), .second, .val (.long q1), .second, .val (.long q2), .second, .val (.long q3), .second, .val (.long (q0 ^^^ (-1 : Int64))), .second, .val (.long (q1 ^^^ q2)), .second, .val (.int s0), .val (.int s1), .val (.int s2), .val (.int (1 : Int32)), .unset, .unset, .unset, .unset, .unset, .unset, .unset, .unset, .unset, .unset]) rfl ?_
      exact J_143 s0 s1 s2 (1 : Int32) hs0 hs1 hs2 rfl
  have J_114 : ∀ (s0 s1 : Int32), nar .boolean s0 = s0 → nar .boolean s1 = s1 → own_W p e below (own_Post s (Q_law Z q0 q1 q2 q3 q4 p5 h0 n0) 32 128) T m 114 #[.val (.long q0), .second, .val (.long q1), .second, .val (.long q2), .second, .val (.long q3), .second, .val (.long q4), .second, .val (.int p5), .val (.ref b1), .val (.ref b4), .val (.ref v0), .val (.ref v1), .val (.ref m0), .val (.ref m1), .val (.long q0), .second, .val (.long q1), .second, .val (.long q2), .second, .val (.long q3), .second, .val (.long (q0 ^^^ (-1 : Int64))), .second, .val (.long (q1 ^^^ q2)), .second, .val (.int s0), .val (.int s1), .unset, .unset, .unset, .unset, .unset, .unset, .unset, .unset, .unset, .unset, .unset, .unset] [] := by
    intro s0 s1 hs0 hs1
    refine own_iload X hx (hb hby at_114) (pc' := 116) rfl rfl ?_
    refine own_iconst X hx (4 : Int32) (hb hby at_116) (pc' := 117) rfl rfl ?_
    refine own_iand X hx (hb hby at_117) (pc' := 118) rfl ?_
    refine own_if X hx (hb hby at_118) (by decide) (pcY := 125) (pcN := 121) rfl rfl (fun (hc118 : (p5 &&& (4 : Int32)) = (0 : Int32)) => ?_) (fun (hc118 : ¬ ((p5 &&& (4 : Int32)) = (0 : Int32))) => ?_)
    · refine own_iconst X hx (0 : Int32) (hb hby at_125) (pc' := 126) rfl rfl ?_
      refine own_istore X hx (hb hby at_126) (pc' := 128) rfl (Ls' := #[.val (.long q0), .second, .val (.long q1), .second, .val (.long q2), .second, .val (.long q3), .second, .val (.long q4), .second, .val (.int p5), .val (.ref b1), .val (.ref b4), .val (.ref v0), .val (.ref v1), .val (.ref m0), .val (.ref m1), .val (.long q0), .second, .val (.long q1), .second, .val (.long q2), .second, .val (.long q3), .second, .val (.long (q0 ^^^ (-1 : Int64))), .second, .val (.long (q1 ^^^ q2)), .second, .val (.int s0), .val (.int s1), .val (.int (0 : Int32)), .unset, .unset, .unset, .unset, .unset, .unset, .unset, .unset, .unset, .unset, .unset]) rfl ?_
      exact J_128 s0 s1 (0 : Int32) hs0 hs1 rfl
    · refine own_iconst X hx (1 : Int32) (hb hby at_121) (pc' := 122) rfl rfl ?_
      refine own_goto X hx (hb hby at_122) (by decide) (pc' := 126) rfl ?_
      refine own_istore X hx (hb hby at_126) (pc' := 128) rfl (Ls' := #[.val (.long q0), .second, .val (.long q1), .second, .val (.long q2), .second, .val (.long q3), .second, .val (.long q4), .second, .val (.int p5), .val (.ref b1), .val (.ref b4), .val (.ref v0), .val (.ref v1), .val (.ref m0), .val (.ref m1), .val (.long q0), .second, .val (.long q1), .second, .val (.long q2), .second, .val (.long q3), .second, .val (.long (q0 ^^^ (-1 : Int64))), .second, .val (.long (q1 ^^^ q2)), .second, .val (.int s0), .val (.int s1), .val (.int (1 : Int32)), .unset, .unset, .unset, .unset, .unset, .unset, .unset, .unset, .unset, .unset, .unset]) rfl ?_
      exact J_128 s0 s1 (1 : Int32) hs0 hs1 rfl
  have J_100 : ∀ (s0 : Int32), nar .boolean s0 = s0 → own_W p e below (own_Post s (Q_law Z q0 q1 q2 q3 q4 p5 h0 n0) 32 128) T m 100 #[.val (.long q0), .second, .val (.long q1), .second, .val (.long q2), .second, .val (.long q3), .second, .val (.long q4), .second, .val (.int p5), .val (.ref b1), .val (.ref b4), .val (.ref v0), .val (.ref v1), .val (.ref m0), .val (.ref m1), .val (.long q0), .second, .val (.long q1), .second, .val (.long q2), .second, .val (.long q3), .second, .val (.long (q0 ^^^ (-1 : Int64))), .second, .val (.long (q1 ^^^ q2)), .second, .val (.int s0), .unset, .unset, .unset, .unset, .unset, .unset, .unset, .unset, .unset, .unset, .unset, .unset, .unset] [] := by
    intro s0 hs0
    refine own_iload X hx (hb hby at_100) (pc' := 102) rfl rfl ?_
    refine own_iconst X hx (2 : Int32) (hb hby at_102) (pc' := 103) rfl rfl ?_
    refine own_iand X hx (hb hby at_103) (pc' := 104) rfl ?_
    refine own_if X hx (hb hby at_104) (by decide) (pcY := 111) (pcN := 107) rfl rfl (fun (hc104 : (p5 &&& (2 : Int32)) = (0 : Int32)) => ?_) (fun (hc104 : ¬ ((p5 &&& (2 : Int32)) = (0 : Int32))) => ?_)
    · refine own_iconst X hx (0 : Int32) (hb hby at_111) (pc' := 112) rfl rfl ?_
      refine own_istore X hx (hb hby at_112) (pc' := 114) rfl (Ls' := #[.val (.long q0), .second, .val (.long q1), .second, .val (.long q2), .second, .val (.long q3), .second, .val (.long q4), .second, .val (.int p5), .val (.ref b1), .val (.ref b4), .val (.ref v0), .val (.ref v1), .val (.ref m0), .val (.ref m1), .val (.long q0), .second, .val (.long q1), .second, .val (.long q2), .second, .val (.long q3), .second, .val (.long (q0 ^^^ (-1 : Int64))), .second, .val (.long (q1 ^^^ q2)), .second, .val (.int s0), .val (.int (0 : Int32)), .unset, .unset, .unset, .unset, .unset, .unset, .unset, .unset, .unset, .unset, .unset, .unset]) rfl ?_
      exact J_114 s0 (0 : Int32) hs0 rfl
    · refine own_iconst X hx (1 : Int32) (hb hby at_107) (pc' := 108) rfl rfl ?_
      refine own_goto X hx (hb hby at_108) (by decide) (pc' := 112) rfl ?_
      refine own_istore X hx (hb hby at_112) (pc' := 114) rfl (Ls' := #[.val (.long q0), .second, .val (.long q1), .second, .val (.long q2), .second, .val (.long q3), .second, .val (.long q4), .second, .val (.int p5), .val (.ref b1), .val (.ref b4), .val (.ref v0), .val (.ref v1), .val (.ref m0), .val (.ref m1), .val (.long q0), .second, .val (.long q1), .second, .val (.long q2), .second, .val (.long q3), .second, .val (.long (q0 ^^^ (-1 : Int64))), .second, .val (.long (q1 ^^^ q2)), .second, .val (.int s0), .val (.int (1 : Int32)), .unset, .unset, .unset, .unset, .unset, .unset, .unset, .unset, .unset, .unset, .unset, .unset]) rfl ?_
      exact J_114 s0 (1 : Int32) hs0 rfl
  refine own_iload X hx (hb hby at_86) (pc' := 88) rfl rfl ?_
  refine own_iconst X hx (1 : Int32) (hb hby at_88) (pc' := 89) rfl rfl ?_
  refine own_iand X hx (hb hby at_89) (pc' := 90) rfl ?_
  refine own_if X hx (hb hby at_90) (by decide) (pcY := 97) (pcN := 93) rfl rfl (fun (hc90 : (p5 &&& (1 : Int32)) = (0 : Int32)) => ?_) (fun (hc90 : ¬ ((p5 &&& (1 : Int32)) = (0 : Int32))) => ?_)
  · refine own_iconst X hx (0 : Int32) (hb hby at_97) (pc' := 98) rfl rfl ?_
    refine own_istore X hx (hb hby at_98) (pc' := 100) rfl (Ls' := #[.val (.long q0), .second, .val (.long q1), .second, .val (.long q2), .second, .val (.long q3), .second, .val (.long q4), .second, .val (.int p5), .val (.ref b1), .val (.ref b4), .val (.ref v0), .val (.ref v1), .val (.ref m0), .val (.ref m1), .val (.long q0), .second, .val (.long q1), .second, .val (.long q2), .second, .val (.long q3), .second, .val (.long (q0 ^^^ (-1 : Int64))), .second, .val (.long (q1 ^^^ q2)), .second, .val (.int (0 : Int32)), .unset, .unset, .unset, .unset, .unset, .unset, .unset, .unset, .unset, .unset, .unset, .unset, .unset]) rfl ?_
    exact J_100 (0 : Int32) rfl
  · refine own_iconst X hx (1 : Int32) (hb hby at_93) (pc' := 94) rfl rfl ?_
    refine own_goto X hx (hb hby at_94) (by decide) (pc' := 98) rfl ?_
    refine own_istore X hx (hb hby at_98) (pc' := 100) rfl (Ls' := #[.val (.long q0), .second, .val (.long q1), .second, .val (.long q2), .second, .val (.long q3), .second, .val (.long q4), .second, .val (.int p5), .val (.ref b1), .val (.ref b4), .val (.ref v0), .val (.ref v1), .val (.ref m0), .val (.ref m1), .val (.long q0), .second, .val (.long q1), .second, .val (.long q2), .second, .val (.long q3), .second, .val (.long (q0 ^^^ (-1 : Int64))), .second, .val (.long (q1 ^^^ q2)), .second, .val (.int (1 : Int32)), .unset, .unset, .unset, .unset, .unset, .unset, .unset, .unset, .unset, .unset, .unset, .unset, .unset]) rfl ?_
    exact J_100 (1 : Int32) rfl
set_option maxRecDepth 65536 in
set_option maxHeartbeats 40000000 in
theorem comes_1 {Post : Tables → Env → Array Value → State → Outcome → State → Prop} (hpost : ∀ tb e args s v u, (limb_1_1.after args s (.returned v) u = true ∧ limb_1_2.after args s (.returned v) u = true ∧ True) → FrameEnd s (.returned v) u (Jvm.fieldLocs frame_1_writes args s ++ Jvm.arrayLocs frame_1_arrays args s ++ Jvm.staticLocs frame_1_statics s) 32 128 → Post tb e args s (.returned v) u) :
    ArmFor flags0 classFile x code maxLocals ret World_1 tables_1 room_1 Calls_1 rest_1 Pre_1 Post := by
  intro l hfl _ _ p e ha hc hk s m args below hf hA hF happ hP
  obtain ⟨hcalls, hrest, hpre⟩ := hP
  obtain ⟨-, -, -, hnamed, -, -, -, hat⟩ := (Spec.applies_iff hf).mp happ
  obtain ⟨hg, hn⟩ := and_e (Cond.before_iff.mp (show (Jvm.Cond.and given_1 narrow_1).before args s = true from hpre))
  obtain ⟨gc, gr0⟩ := and_e hg
  obtain ⟨ga0, gr1⟩ := and_e gr0
  obtain ⟨ga1, gr2⟩ := and_e gr1
  obtain ⟨ga2, gr3⟩ := and_e gr2
  obtain ⟨ga3, gr4⟩ := and_e gr3
  obtain ⟨ga4, gr5⟩ := and_e gr4
  obtain ⟨w0, w1, w2, w3, w4, w5, rfl⟩ : ∃ w0 w1 w2 w3 w4 w5 : Value, args = #[w0, w1, w2, w3, w4, w5] := by
    have hs : args.size = 6 := by simpa [Cond.value, given_1] using gc
    obtain ⟨L⟩ := args
    match L, hs with
    | [w0, w1, w2, w3, w4, w5], _ => exact ⟨w0, w1, w2, w3, w4, w5, rfl⟩
  have hw := fun d (hd : d ∈ tables_1) => atoms_spec (ws := Jvm.Cond.code x code maxLocals ret :: tables_1) hat d (List.mem_cons_of_mem _ hd)
  obtain ⟨i0, ei0⟩ := isL_v ga0
  obtain rfl : w0 = (.long i0) := Option.some.inj ei0
  obtain ⟨i1, ei1⟩ := isL_v ga1
  obtain rfl : w1 = (.long i1) := Option.some.inj ei1
  obtain ⟨i2, ei2⟩ := isL_v ga2
  obtain rfl : w2 = (.long i2) := Option.some.inj ei2
  obtain ⟨i3, ei3⟩ := isL_v ga3
  obtain rfl : w3 = (.long i3) := Option.some.inj ei3
  obtain ⟨i4, ei4⟩ := isL_v ga4
  obtain rfl : w4 = (.long i4) := Option.some.inj ei4
  obtain ⟨i5, ei5⟩ := is_v gr5
  obtain rfl : w5 = (.int i5) := Option.some.inj ei5
  obtain ⟨n, o, h1, h2, h3, _, L, rfl, ⟨rfl, N⟩, hq⟩ := rm_law l s _ hw tables_1 i0 i1 i2 i3 i4 i5 s.heap s.heap.size (Nat.le_refl _)  p e ha hc hk s m _ below hf ((Spec.applies_iff_loose hf).mp happ).1 ⟨rfl, State.Warmed39.refl s, rfl⟩ trivial
  refine ⟨n, _, h1, h2, h3, hpost _ _ _ _ _ _ ⟨Cond.after_iff.mpr rfl, Cond.after_iff.mpr (eq_i res_at (Term.int_eval (1)) rfl), trivial⟩ ⟨hq.1, hq.2.1, (hq.2.2.sift fun y hy => Or.inr (N y hy)).mono (by decide) (by decide)⟩⟩
theorem main_1_1 : Claimed_1_1 := comes_1 fun _ _ _ _ _ _ h hF => ⟨h.1, hF⟩
theorem main_1_2 : Claimed_1_2 := comes_1 fun _ _ _ _ _ _ h hF => ⟨h.2.1, hF⟩
end Jvm.Pilot.@@N@@
namespace Jvm.Pilot.@@N@@
open Jvm Jvm.ClassFile Sem Op Lib Jvm.Free Jvm.Stand Jvm.Pilot.@@N@@.Jvm.D
/-! MADE BY PROGRAM (witnessworld.py) out of the Statement's table words and the real class files: 15 classes; the members and pool entries that the words name. The judged class is class 1, her method 1. -/
namespace start1
open Jvm.ClassFile
def u (s : String) : CpInfo := .utf8 (stringToUtf16 s)
/-- a pool by its gaps: so many unusable entries, then the entry; so many at the end -/
def gap : Nat → List CpInfo → List CpInfo
  | 0, r => r
  | n + 1, r => .unusable :: gap n r
def poolList (es : List (Nat × CpInfo)) (last : Nat) : List CpInfo := es.foldr (fun e r => gap e.1 (e.2 :: r)) (gap last [])
def pool (es : List (Nat × CpInfo)) (last : Nat) : Array CpInfo := ⟨poolList es last⟩
def fileOf (pool : Array CpInfo) (this : Nat) (attrs : Array Attribute := #[]) (ms : Array MethodInfo := #[]) (fl : Nat := 33) (sup : Nat := 0) (ifs : Array Nat := #[]) (fds : Array FieldInfo := #[]) : ClassFile where
  minorVersion := 0
  majorVersion := 65
  constantPool := pool
  accessFlags := fl
  thisClass := this
  superClass := sup
  interfaces := ifs
  fields := fds
  methods := ms
  attributes := attrs
def plain (name : String) (sup : Option ClassId) : Class where
  name := name
  kind := .ordinary
  loader := none
  accessFlags := 33
  super := sup
  interfaces := #[]
  cf := none
  fields := #[]
  methods := #[]
  instanceTypes := #[]
  staticTypes := #[]
  resolved := #[]
  callSites := []
  init := .initialized
  statics := none
  mirror := none

def pool0 : Array CpInfo := pool [(5, u "<init>"), (0, u "()V"), (1, .class_ 10), (1, u "java/lang/Object"), (85, u "clone"), (0, u "()Ljava/lang/Object;")] 26

def k0c0 : Code := { maxStack := 0, maxLocals := 1, code := object_method_1_code, exceptionTable := #[], attributes := #[] }
def k0m0 : Method := { name := "<init>", desc := "()V", sig := { parameters := [], returnType := none }, accessFlags := 1, code := some k0c0 }
def k0m1 : Method := { name := "clone", desc := "()Ljava/lang/Object;", sig := { parameters := [], returnType := some (.object "java/lang/Object") }, accessFlags := 260, code := none }
/-- java/lang/Object -/
def k0 : Class := { plain "java/lang/Object" none with
  accessFlags := 33
  interfaces := #[]
  cf := some (fileOf pool0 8 #[] #[{ accessFlags := 1, nameIndex := 5, descriptorIndex := 6, attributes := #[] }, { accessFlags := 260, nameIndex := 96, descriptorIndex := 97, attributes := #[] }] 33 0 #[] #[])
  fields := #[]
  methods := #[k0m0, k0m1]
  instanceTypes := #[]
  staticTypes := #[]
  resolved := Array.replicate 124 none
  statics := none }

def pool1 : Array CpInfo := pool [(2, .class_ 4), (1, u "java/lang/Object"), (0, u "<init>"), (0, u "()V"), (0, .class_ 8), (0, u "com/example/latchwork/latchwork/storage/ColumnBatch"), (0, .methodref 7 10), (0, .nameAndType 5 11), (0, u "([II)V"), (0, .methodref 7 13), (0, .nameAndType 14 15), (0, u "values"), (0, u "(I)[J"), (0, .methodref 7 17), (0, .nameAndType 18 19), (0, u "nulls"), (0, u "(I)[Z"), (0, .long 18446744073709551615), (1, .fieldref 7 23), (0, .nameAndType 24 25), (0, u "stamps"), (0, u "[J"), (0, .methodref 7 27), (0, .nameAndType 28 29), (0, u "move"), (0, u "(II)V"), (0, .methodref 31 32), (0, .class_ 33), (0, .nameAndType 34 35), (0, u "com/example/latchwork/latchwork/storage/ColumnBatchMovePinLaw"), (0, u "column"), (0, u "([J[ZIIJJJZZZ)Z"), (0, .methodref 7 37), (0, .nameAndType 38 39), (0, u "capacity"), (0, u "()I"), (2, u "law"), (0, u "(JJJJJI)Z")] 8

def k1m0 : Method := { name := "<init>", desc := "()V", sig := { parameters := [], returnType := none }, accessFlags := 1, code := none }
def k1c1 : Code := { maxStack := 13, maxLocals := 43, code := code, exceptionTable := #[], attributes := #[] }
def k1m1 : Method := { name := "law", desc := "(JJJJJI)Z", sig := { parameters := [.long, .long, .long, .long, .long, .int], returnType := some .boolean }, accessFlags := 9, code := some k1c1 }
def k1c2 : Code := { maxStack := 4, maxLocals := 25, code := method_3_code, exceptionTable := #[], attributes := #[] }
def k1m2 : Method := { name := "column", desc := "([J[ZIIJJJZZZ)Z", sig := { parameters := [(.array .long), (.array .boolean), .int, .int, .long, .long, .long, .boolean, .boolean, .boolean], returnType := some .boolean }, accessFlags := 10, code := some k1c2 }
/-- com/example/latchwork/latchwork/storage/ColumnBatchMovePinLaw -/
def k1 : Class := { plain "com/example/latchwork/latchwork/storage/ColumnBatchMovePinLaw" (some 0) with
  accessFlags := 49
  interfaces := #[]
  cf := some (fileOf pool1 31 #[] #[{ accessFlags := 1, nameIndex := 5, descriptorIndex := 6, attributes := #[] }, { accessFlags := 9, nameIndex := 42, descriptorIndex := 43, attributes := #[] }, { accessFlags := 10, nameIndex := 34, descriptorIndex := 35, attributes := #[] }] 49 2 #[] #[])
  fields := #[]
  methods := #[k1m0, k1m1, k1m2]
  instanceTypes := #[]
  staticTypes := #[]
  resolved := Array.replicate 52 none
  statics := none }

def pool2 : Array CpInfo := pool [(1, .methodref 2 3), (0, .class_ 4), (0, .nameAndType 5 6), (0, u "java/lang/Object"), (0, u "<init>"), (0, u "()V"), (9, .methodref 17 18), (0, .class_ 19), (0, .nameAndType 20 21), (0, u "[I"), (0, u "clone"), (0, u "()Ljava/lang/Object;"), (0, .fieldref 23 24), (0, .class_ 25), (0, .nameAndType 26 19), (0, u "com/example/latchwork/latchwork/storage/ColumnBatch"), (0, u "columns"), (0, .fieldref 23 28), (0, .nameAndType 29 30), (0, u "stamps"), (0, u "[J"), (0, .class_ 32), (0, u "[[J"), (0, .fieldref 23 34), (0, .nameAndType 35 32), (0, u "values"), (0, .class_ 37), (0, u "[[Z"), (0, .fieldref 23 39), (0, .nameAndType 40 37), (0, u "nulls"), (20, u "([II)V"), (3, u "capacity"), (0, u "()I"), (8, u "(I)[J"), (0, u "(I)[Z"), (0, u "move"), (0, u "(II)V")] 24

def k2c0 : Code := { maxStack := 3, maxLocals := 3, code := prog_105_method_1_code, exceptionTable := #[], attributes := #[] }
def k2m0 : Method := { name := "<init>", desc := "([II)V", sig := { parameters := [(.array .int), .int], returnType := none }, accessFlags := 1, code := some k2c0 }
def k2c1 : Code := { maxStack := 1, maxLocals := 1, code := prog_105_method_2_code, exceptionTable := #[], attributes := #[] }
def k2m1 : Method := { name := "capacity", desc := "()I", sig := { parameters := [], returnType := some .int }, accessFlags := 1, code := some k2c1 }
def k2c2 : Code := { maxStack := 2, maxLocals := 2, code := prog_105_method_8_code, exceptionTable := #[], attributes := #[] }
def k2m2 : Method := { name := "values", desc := "(I)[J", sig := { parameters := [.int], returnType := some (.array .long) }, accessFlags := 1, code := some k2c2 }
def k2c3 : Code := { maxStack := 2, maxLocals := 2, code := prog_105_method_9_code, exceptionTable := #[], attributes := #[] }
def k2m3 : Method := { name := "nulls", desc := "(I)[Z", sig := { parameters := [.int], returnType := some (.array .boolean) }, accessFlags := 1, code := some k2c3 }
def k2c4 : Code := { maxStack := 4, maxLocals := 4, code := prog_105_method_10_code, exceptionTable := #[], attributes := #[] }
def k2m4 : Method := { name := "move", desc := "(II)V", sig := { parameters := [.int, .int], returnType := none }, accessFlags := 1, code := some k2c4 }
/-- com/example/latchwork/latchwork/storage/ColumnBatch -/
def k2 : Class := { plain "com/example/latchwork/latchwork/storage/ColumnBatch" (some 0) with
  accessFlags := 49
  interfaces := #[]
  cf := some (fileOf pool2 23 #[] #[{ accessFlags := 1, nameIndex := 5, descriptorIndex := 61, attributes := #[] }, { accessFlags := 1, nameIndex := 65, descriptorIndex := 66, attributes := #[] }, { accessFlags := 1, nameIndex := 35, descriptorIndex := 75, attributes := #[] }, { accessFlags := 1, nameIndex := 40, descriptorIndex := 76, attributes := #[] }, { accessFlags := 1, nameIndex := 77, descriptorIndex := 78, attributes := #[] }] 49 2 #[] #[{ accessFlags := 18, nameIndex := 26, descriptorIndex := 19, attributes := #[] }, { accessFlags := 16, nameIndex := 29, descriptorIndex := 30, attributes := #[] }, { accessFlags := 16, nameIndex := 35, descriptorIndex := 32, attributes := #[] }, { accessFlags := 16, nameIndex := 40, descriptorIndex := 37, attributes := #[] }])
  fields := #[{ name := "columns", type := (.array .int), accessFlags := 18, slot := 0, constantValue := 0 }, { name := "stamps", type := (.array .long), accessFlags := 16, slot := 1, constantValue := 0 }, { name := "values", type := (.array (.array .long)), accessFlags := 16, slot := 2, constantValue := 0 }, { name := "nulls", type := (.array (.array .boolean)), accessFlags := 16, slot := 3, constantValue := 0 }]
  methods := #[k2m0, k2m1, k2m2, k2m3, k2m4]
  instanceTypes := #[(.array .int), (.array .long), (.array (.array .long)), (.array (.array .boolean))]
  staticTypes := #[]
  resolved := Array.replicate 103 none
  statics := none }

def pool3 : Array CpInfo := pool [(1, .class_ 2), (0, u "java/lang/Cloneable"), (0, .class_ 4), (0, u "java/lang/Object")] 2

/-- java/lang/Cloneable -/
def k3 : Class := { plain "java/lang/Cloneable" (some 0) with
  accessFlags := 1537
  interfaces := #[]
  cf := some (fileOf pool3 1 #[] #[] 1537 3 #[] #[])
  fields := #[]
  methods := #[]
  instanceTypes := #[]
  staticTypes := #[]
  resolved := Array.replicate 7 none
  statics := none }

def pool4 : Array CpInfo := pool [(1, u "java/io/Serializable"), (0, .class_ 1), (0, u "java/lang/Object"), (0, .class_ 3)] 3

/-- java/io/Serializable -/
def k4 : Class := { plain "java/io/Serializable" (some 0) with
  accessFlags := 1537
  interfaces := #[]
  cf := some (fileOf pool4 2 #[] #[] 1537 4 #[] #[])
  fields := #[]
  methods := #[]
  instanceTypes := #[]
  staticTypes := #[]
  resolved := Array.replicate 8 none
  statics := none }

/-- the primitive boolean -/
def k5 : Class := { plain "boolean" none with kind := .primitive 'Z', accessFlags := 0x411 }
/-- [Z -/
def k6 : Class := { plain "[Z" (some 0) with kind := .array 5 .boolean, interfaces := #[3, 4], accessFlags := 1041 }

/-- the primitive byte -/
def k7 : Class := { plain "byte" none with kind := .primitive 'B', accessFlags := 0x411 }
/-- [B -/
def k8 : Class := { plain "[B" (some 0) with kind := .array 7 .byte, interfaces := #[3, 4], accessFlags := 1041 }

/-- the primitive int -/
def k9 : Class := { plain "int" none with kind := .primitive 'I', accessFlags := 0x411 }
/-- [I -/
def k10 : Class := { plain "[I" (some 0) with kind := .array 9 .int, interfaces := #[3, 4], accessFlags := 1041 }

/-- the primitive long -/
def k11 : Class := { plain "long" none with kind := .primitive 'J', accessFlags := 0x411 }
/-- [J -/
def k12 : Class := { plain "[J" (some 0) with kind := .array 11 .long, interfaces := #[3, 4], accessFlags := 1041 }

/-- [[J -/
def k13 : Class := { plain "[[J" (some 0) with kind := .array 12 (.array .long), interfaces := #[3, 4], accessFlags := 1041 }

/-- [[Z -/
def k14 : Class := { plain "[[Z" (some 0) with kind := .array 6 (.array .boolean), interfaces := #[3, 4], accessFlags := 1041 }

def heap : Heap := #[]
def classes : Array Class := #[k0, k1, k2, k3, k4, k5, k6, k7, k8, k9, k10, k11, k12, k13, k14]
def interned : List (Array UInt16 × Addr) := []
def slotsUsed : Nat := 0
def theMethod : MethodId := ⟨1, 1⟩
def args0 : Array Value := #[.long 1, .long 1, .long 1, .long 1, .long 1, .int 1]
def aboutOver (below : List Frame) : State where
  vm := { classes := classes, interned := interned.toArray }
  heap := heap
  slotsUsed := slotsUsed
  threads := #[{ frames := .invoking theMethod args0 :: below }]
def below0 : List Frame := [.native { method := ⟨0, 0⟩, args := #[] }]
def about1 : State := aboutOver below0
def p0 : Program := .bare "" "" ""
def e0 : Env := launch0.env 0 0 0
theorem w_frames : about1.frames = Frame.invoking theMethod args0 :: below0 := rfl
set_option maxRecDepth 65536 in
theorem w_args : argsFit about1.vm theMethod args0 = true := by decide +kernel
set_option maxRecDepth 65536 in
theorem w_heap : heapFits about1 = true := by decide +kernel
set_option maxRecDepth 65536 in
theorem w_runnable : about1.curStatus? = some .runnable := by decide +kernel
set_option maxRecDepth 65536 in
theorem w_alone : about1.alone = true := by decide +kernel
set_option maxRecDepth 65536 in
theorem w_named : about1.methodNamed? x = some theMethod := by decide +kernel
set_option maxRecDepth 65536 in
theorem w_hears : about1.hears theMethod below0 = true := by decide +kernel
set_option maxRecDepth 65536 in
theorem w_ripe : about1.ripe theMethod args0 below0 = true := by decide +kernel
theorem w_running : about1.status = .running := rfl
set_option maxRecDepth 65536 in
theorem w_room : about1.hasRoom e0.platform room_1 = true :=
  launch0.hasRoom_least _ room_1 (by decide +kernel) (by decide +kernel) (by decide +kernel) (by decide +kernel) (by decide +kernel) (by decide +kernel)
theorem allAtoms_all (ts : List Jvm.Cond) (a : Array Jvm.Value) (st : Jvm.State) : (allAtoms ts).before a st = ts.all (fun c => c.before a st) := by
  induction ts with
  | nil => rfl
  | cons c t ih =>
    show (Jvm.Cond.and c (allAtoms t)).before a st = _
    rw [Jvm.Cond.before_and, ih, List.all_cons]
def words1 : List Jvm.Cond := Jvm.Cond.code x code maxLocals ret :: tables_1
/-- a 'code' word, met by the world's own term for the bytes: nothing is compared byte by byte -/
theorem code_word {y : MethodName} {bytes : ByteArray} {mx : Nat} {rt : Option FieldType} {a : Array Value} {s : State} {m : MethodId} {meth : Method} {c : Code} (h1 : s.methodNamed? y = some m) (h2 : s.vm.method? m = some meth) (h3 : meth.code = some c) (h4 : c.code = bytes)
    (h5 : (c.maxLocals == mx && c.exceptionTable.isEmpty && decide (c.maxStack ≤ mostOperands) && decide (meth.sig.returnType = rt) && !meth.locks && decide (parseMethodDescriptor y.desc = some meth.sig)) = true) : (Jvm.Cond.code y bytes mx rt).before a s = true := by
  simp only [Bool.and_eq_true, beq_iff_eq, Bool.not_eq_true', decide_eq_true_eq] at h5
  obtain ⟨⟨⟨⟨⟨g1, g2⟩, g3⟩, g4⟩, g5⟩, g6⟩ := h5
  simp [Cond.before, Cond.holds, Cond.value, h1, h2, h3, h4, g1, g2, g3, g4, g5, g6]
def isCode : Jvm.Cond → Bool
  | .code _ _ _ _ => true
  | _ => false
theorem all_split {L : List Jvm.Cond} {P : Jvm.Cond → Bool} (h1 : L.all (fun c => isCode c || P c) = true) (h2 : ∀ c ∈ L.filter isCode, P c = true) : L.all P = true := by
  refine List.all_eq_true.mpr fun c hc => ?_
  have h := List.all_eq_true.mp h1 c hc
  rcases Bool.eq_false_or_eq_true (isCode c) with hi | hi
  · exact h2 c (List.mem_filter.mpr ⟨hc, hi⟩)
  · simpa [hi] using h
set_option maxRecDepth 65536 in
theorem w_c0 : (Jvm.Cond.code x code maxLocals ret).before args0 about1 = true := code_word (m := ⟨1, 1⟩) (meth := k1m1) (c := k1c1) (by decide +kernel) rfl rfl rfl (by decide +kernel)
set_option maxRecDepth 65536 in
theorem w_c1 : (Jvm.Cond.code ({ cls := "com/example/latchwork/latchwork/storage/ColumnBatch", name := "<init>", desc := "([II)V" } : Jvm.MethodName) prog_105_method_1_code (3 : Nat) (Option.none : Option Jvm.ClassFile.FieldType)).before args0 about1 = true := code_word (m := ⟨2, 0⟩) (meth := k2m0) (c := k2c0) (by decide +kernel) rfl rfl rfl (by decide +kernel)
set_option maxRecDepth 65536 in
theorem w_c2 : (Jvm.Cond.code ({ cls := "java/lang/Object", name := "<init>", desc := "()V" } : Jvm.MethodName) object_method_1_code (1 : Nat) (Option.none : Option Jvm.ClassFile.FieldType)).before args0 about1 = true := code_word (m := ⟨0, 0⟩) (meth := k0m0) (c := k0c0) (by decide +kernel) rfl rfl rfl (by decide +kernel)
set_option maxRecDepth 65536 in
theorem w_c3 : (Jvm.Cond.code ({ cls := "com/example/latchwork/latchwork/storage/ColumnBatch", name := "values", desc := "(I)[J" } : Jvm.MethodName) prog_105_method_8_code (2 : Nat) (Option.some (Jvm.ClassFile.FieldType.array Jvm.ClassFile.FieldType.long))).before args0 about1 = true := code_word (m := ⟨2, 2⟩) (meth := k2m2) (c := k2c2) (by decide +kernel) rfl rfl rfl (by decide +kernel)
set_option maxRecDepth 65536 in
theorem w_c4 : (Jvm.Cond.code ({ cls := "com/example/latchwork/latchwork/storage/ColumnBatch", name := "nulls", desc := "(I)[Z" } : Jvm.MethodName) prog_105_method_9_code (2 : Nat) (Option.some (Jvm.ClassFile.FieldType.array Jvm.ClassFile.FieldType.boolean))).before args0 about1 = true := code_word (m := ⟨2, 3⟩) (meth := k2m3) (c := k2c3) (by decide +kernel) rfl rfl rfl (by decide +kernel)
set_option maxRecDepth 65536 in
theorem w_c5 : (Jvm.Cond.code ({ cls := "com/example/latchwork/latchwork/storage/ColumnBatch", name := "move", desc := "(II)V" } : Jvm.MethodName) prog_105_method_10_code (4 : Nat) (Option.none : Option Jvm.ClassFile.FieldType)).before args0 about1 = true := code_word (m := ⟨2, 4⟩) (meth := k2m4) (c := k2c4) (by decide +kernel) rfl rfl rfl (by decide +kernel)
set_option maxRecDepth 65536 in
theorem w_c6 : (Jvm.Cond.code ({ cls := "com/example/latchwork/latchwork/storage/ColumnBatchMovePinLaw", name := "column", desc := "([J[ZIIJJJZZZ)Z" } : Jvm.MethodName) method_3_code (25 : Nat) (Option.some Jvm.ClassFile.FieldType.boolean)).before args0 about1 = true := code_word (m := ⟨1, 2⟩) (meth := k1m2) (c := k1c2) (by decide +kernel) rfl rfl rfl (by decide +kernel)
set_option maxRecDepth 65536 in
theorem w_c7 : (Jvm.Cond.code ({ cls := "com/example/latchwork/latchwork/storage/ColumnBatch", name := "capacity", desc := "()I" } : Jvm.MethodName) prog_105_method_2_code (1 : Nat) (Option.some Jvm.ClassFile.FieldType.int)).before args0 about1 = true := code_word (m := ⟨2, 1⟩) (meth := k2m1) (c := k2c1) (by decide +kernel) rfl rfl rfl (by decide +kernel)
def codes1 : List Jvm.Cond := [Jvm.Cond.code x code maxLocals ret, Jvm.Cond.code ({ cls := "com/example/latchwork/latchwork/storage/ColumnBatch", name := "<init>", desc := "([II)V" } : Jvm.MethodName) prog_105_method_1_code (3 : Nat) (Option.none : Option Jvm.ClassFile.FieldType), Jvm.Cond.code ({ cls := "java/lang/Object", name := "<init>", desc := "()V" } : Jvm.MethodName) object_method_1_code (1 : Nat) (Option.none : Option Jvm.ClassFile.FieldType), Jvm.Cond.code ({ cls := "com/example/latchwork/latchwork/storage/ColumnBatch", name := "values", desc := "(I)[J" } : Jvm.MethodName) prog_105_method_8_code (2 : Nat) (Option.some (Jvm.ClassFile.FieldType.array Jvm.ClassFile.FieldType.long)), Jvm.Cond.code ({ cls := "com/example/latchwork/latchwork/storage/ColumnBatch", name := "nulls", desc := "(I)[Z" } : Jvm.MethodName) prog_105_method_9_code (2 : Nat) (Option.some (Jvm.ClassFile.FieldType.array Jvm.ClassFile.FieldType.boolean)), Jvm.Cond.code ({ cls := "com/example/latchwork/latchwork/storage/ColumnBatch", name := "move", desc := "(II)V" } : Jvm.MethodName) prog_105_method_10_code (4 : Nat) (Option.none : Option Jvm.ClassFile.FieldType), Jvm.Cond.code ({ cls := "com/example/latchwork/latchwork/storage/ColumnBatchMovePinLaw", name := "column", desc := "([J[ZIIJJJZZZ)Z" } : Jvm.MethodName) method_3_code (25 : Nat) (Option.some Jvm.ClassFile.FieldType.boolean), Jvm.Cond.code ({ cls := "com/example/latchwork/latchwork/storage/ColumnBatch", name := "capacity", desc := "()I" } : Jvm.MethodName) prog_105_method_2_code (1 : Nat) (Option.some Jvm.ClassFile.FieldType.int)]
set_option maxRecDepth 65536 in
theorem codes_eq : words1.filter isCode = codes1 := rfl
theorem w_codes : ∀ c ∈ words1.filter isCode, c.before args0 about1 = true := by
  rw [codes_eq]
  intro c hc
  simp only [codes1, List.mem_cons, List.not_mem_nil, or_false] at hc
  rcases hc with rfl | rfl | rfl | rfl | rfl | rfl | rfl | rfl
  · exact w_c0
  · exact w_c1
  · exact w_c2
  · exact w_c3
  · exact w_c4
  · exact w_c5
  · exact w_c6
  · exact w_c7
set_option maxRecDepth 65536 in
theorem w_t1 : (words1.take 24).all (fun c => isCode c || c.before args0 about1) = true := by decide +kernel
set_option maxRecDepth 65536 in
theorem w_t2 : ((words1.drop 24).take 24).all (fun c => isCode c || c.before args0 about1) = true := by decide +kernel
set_option maxRecDepth 65536 in
theorem w_t3 : ((words1.drop 24).drop 24).all (fun c => isCode c || c.before args0 about1) = true := by decide +kernel
theorem w_tables : (allAtoms (Jvm.Cond.code x code maxLocals ret :: tables_1)).before args0 about1 = true := by
  rw [allAtoms_all]
  show words1.all (fun c => c.before args0 about1) = true
  refine all_split ?_ w_codes
  rw [← List.take_append_drop 24 words1, List.all_append, w_t1, ← List.take_append_drop 24 (words1.drop 24), List.all_append, w_t2, w_t3]
  rfl
set_option maxRecDepth 65536 in
theorem w_case : (Jvm.Cond.and given_1 narrow_1).before args0 about1 = true := by decide +kernel
theorem w_applies : (headSpec (Jvm.Cond.code x code maxLocals ret :: tables_1) room_1).applies x e0.platform about1 = true :=
  (Spec.applies_iff w_frames).mpr ⟨w_running, w_runnable, w_alone, w_named, w_hears, w_ripe, w_room, w_tables⟩
theorem atStart : AtStart classFile x code maxLocals ret World_1 tables_1 room_1 Calls_1 rest_1 Pre_1 launch0 p0 e0 about1 theMethod args0 below0 :=
  ⟨lists_1, trivial, launch0.admits_env _ _ _, launch0.least_env, fairChoices_fair.cas, fairChoices_fair.clock, w_frames, w_args, w_heap, w_applies, trivial, trivial, w_case⟩
end start1
theorem witness_1 : WitnessClaimed_1 := ⟨start1.p0, start1.e0, start1.about1, start1.theMethod, start1.args0, start1.below0, start1.atStart⟩
end Jvm.Pilot.@@N@@
