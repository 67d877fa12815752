import JvmDerived
import JvmDerived.Pilot.@@N@@Statement
import JvmDerived.Pilot.@@N@@Code
set_option linter.unusedVariables false
set_option linter.unusedSimpArgs false
@@BLOCK:NumsL.lean.txt@@
namespace Jvm.OwnWalk
open Sem ClassFile Op Lib Jvm.Stand Jvm.Free Jvm.LawKit Jvm.RoadKit
section K
variable {p : Program} {l : Launch} {e : Env} {R : Room} {s : State} {m : MethodId} {args : Array Value} {below : List Frame} {meth : Method} {c : Code} {T : State} {locs : List Loc} {cells slots : Nat} {Z : State} {a0 : Array Value} {h : Heap} {P : Outcome → State → Prop} {pc : Nat} {Ls : Array Slot} {rest : List Value}
/-- from T with g on top the invocation ends, and P holds of its end -/
def Wout (p : Program) (e : Env) (below : List Frame) (P : Outcome → State → Prop) (T : State) (g : JFrame) : Prop :=
  ∃ U o, Steps p.tables e below (T.setTop g) U ∧ U.status = .running ∧ Ended U below o ∧ P o U
theorem Wout.of {T T' : State} {g g' : JFrame} (st : ∀ t, Steps p.tables e below (T'.setTop g') t → Steps p.tables e below (T.setTop g) t) (hr : Wout p e below P T' g') : Wout p e below P T g := by
  obtain ⟨U, o, h1, h2⟩ := hr
  exact ⟨U, o, st U h1, h2⟩
theorem Wout.tr {T T' : State} {g g' : JFrame} (st : Steps p.tables e below (T.setTop g) (T'.setTop g')) (hr : Wout p e below P T' g') : Wout p e below P T g := by
  obtain ⟨U, o, h1, h2⟩ := hr
  exact ⟨U, o, st.trans h1, h2⟩
theorem Wout.cast {T : State} {g g' : JFrame} (q : g = g') (hr : Wout p e below P T g') : Wout p e below P T g := q ▸ hr
/-- the end of an invocation that returned: Q of its value, the heap and the written places; the frame -/
def Pst (s : State) (Q : Option Value → Heap → List Loc → Prop) (C S : Nat) (o : Outcome) (U : State) : Prop := ∃ v L, o = .returned v ∧ Q v U.heap L ∧ FrameEnd s o U L C S
abbrev Met (l : Launch) (Z : State) (y : MethodName) (bytes : ByteArray) (maxL : Nat) (ret : Option FieldType) (ws : List Jvm.Cond) (rm : Room) (as' : Array Value) (h0 : Heap) (Q : Option Value → Heap → List Loc → Prop) : Prop :=
  MetFree l y (head1 (Jvm.Cond.code y bytes maxL ret :: ws) rm) (fun a U => a = as' ∧ Z.Warmed39 U.vm ∧ U.heap = h0) (fun _ _ _ _ _ => True) (fun _ U o U' => ∃ v L, o = .returned v ∧ Q v U'.heap L ∧ FrameEnd U o U' L rm.cells rm.slots)
theorem Met.start {y : MethodName} {bytes : ByteArray} {maxL : Nat} {ret : Option FieldType} {ws : List Jvm.Cond} {rm : Room} {as' : Array Value} {h0 : Heap} {Q : Option Value → Heap → List Loc → Prop} (hpl : plainFor y = true)
    (H : ∀ (p : Program) (e : Env) (s : State) (m : MethodId) (below : List Frame) (meth : Method) (c : Code) (T : State), Stand p l e rm s m as' below meth c T [] 0 0 → p.tables.exec = Jvm.exec → c.code = bytes → c.maxLocals = maxL → s.vm.findClass y.cls = some m.cls → meth.name = y.name → meth.sig.returnType = ret → meth.locks = false → Z.Warmed39 s.vm → T.heap = h0 → Wout p e below (Pst s Q rm.cells rm.slots) T (entryFrame m as' maxL)) :
    Met l Z y bytes maxL ret ws rm as' h0 Q := by
  refine MetFree.of_bodySF hpl hisR ?_
  intro p e s m args below meth c s₁ Bd hml0 hP hK
  obtain ⟨rfl, hZ, hh⟩ := hP
  exact H p e s m below meth c s₁ (Stand.of_body Bd) Bd.exec Bd.bytes hml0 (findClass_of_methodNamed Bd.named) (name_of_methodNamed Bd.named Bd.method).1 Bd.returns Bd.notSynchronized hZ (by rw [← hh, Bd.state]; rfl)
/-! what a branch says -/
def cI : ClassFile.Cond → Int32 → Prop
  | .eq, x => x = 0 | .ne, x => ¬ x = 0 | .lt, x => x < 0 | .ge, x => ¬ x < 0 | .gt, x => 0 < x | .le, x => ¬ 0 < x
def cII : ClassFile.Cond → Int32 → Int32 → Prop
  | .eq, x, y => x = y | .ne, x, y => ¬ x = y | .lt, x, y => x < y | .ge, x, y => ¬ x < y | .gt, x, y => y < x | .le, x, y => ¬ y < x
def cLL : ClassFile.Cond → Int64 → Int64 → Prop
  | .eq, x, y => x = y | .ne, x, y => ¬ x = y | .lt, x, y => x < y | .ge, x, y => ¬ x < y | .gt, x, y => y < x | .le, x, y => ¬ y < x
def cNeg : ClassFile.Cond → ClassFile.Cond
  | .eq => .ne | .ne => .eq | .lt => .ge | .ge => .lt | .gt => .le | .le => .gt
theorem cI_t : ∀ {cd : ClassFile.Cond} {x : Int32}, cI cd x → ifCond.holds cd x = true
  | .eq, _, q => XT.i0_eq_t q
  | .ne, _, q => XT.i0_ne_t q
  | .lt, _, q => XT.i0_lt_t q
  | .ge, _, q => XT.i0_ge_t q
  | .gt, _, q => XT.i0_gt_t q
  | .le, _, q => XT.i0_le_t q
theorem cI_f : ∀ {cd : ClassFile.Cond} {x : Int32}, cI (cNeg cd) x → ifCond.holds cd x = false
  | .eq, _, q => XT.i0_eq_f q
  | .ne, _, q => XT.i0_ne_f q
  | .lt, _, q => XT.i0_lt_f q
  | .ge, _, q => XT.i0_ge_f q
  | .gt, _, q => XT.i0_gt_f q
  | .le, _, q => XT.i0_le_f q
theorem cII_t : ∀ {cd : ClassFile.Cond} {x y : Int32}, cII cd x y → if_icmp.holds cd x y = true
  | .eq, _, _, q => XT.ii_eq_t q
  | .ne, _, _, q => XT.ii_ne_t q
  | .lt, _, _, q => XT.ii_lt_t q
  | .ge, _, _, q => XT.ii_ge_t q
  | .gt, _, _, q => XT.ii_gt_t q
  | .le, _, _, q => XT.ii_le_t q
theorem cII_f : ∀ {cd : ClassFile.Cond} {x y : Int32}, cII (cNeg cd) x y → if_icmp.holds cd x y = false
  | .eq, _, _, q => XT.ii_eq_f q
  | .ne, _, _, q => XT.ii_ne_f q
  | .lt, _, _, q => XT.ii_lt_f q
  | .ge, _, _, q => XT.ii_ge_f q
  | .gt, _, _, q => XT.ii_gt_f q
  | .le, _, _, q => XT.ii_le_f q
theorem cLL_t : ∀ {cd : ClassFile.Cond} {x y : Int64}, cLL cd x y → ifCond.holds cd (XT.cmpL x y) = true
  | .eq, _, _, q => XT.ll_eq_t q
  | .ne, _, _, q => XT.ll_ne_t q
  | .lt, _, _, q => XT.ll_lt_t q
  | .ge, _, _, q => XT.ll_ge_t q
  | .gt, _, _, q => XT.ll_gt_t q
  | .le, _, _, q => XT.ll_le_t q
theorem cLL_f : ∀ {cd : ClassFile.Cond} {x y : Int64}, cLL (cNeg cd) x y → ifCond.holds cd (XT.cmpL x y) = false
  | .eq, _, _, q => XT.ll_eq_f q
  | .ne, _, _, q => XT.ll_ne_f q
  | .lt, _, _, q => XT.ll_lt_f q
  | .ge, _, _, q => XT.ll_ge_f q
  | .gt, _, _, q => XT.ll_gt_f q
  | .le, _, _, q => XT.ll_le_f q
theorem cI_em (cd : ClassFile.Cond) (x : Int32) : cI cd x ∨ cI (cNeg cd) x := by
  cases cd <;> simp only [cI, cNeg] <;> first | exact Classical.em _ | exact (Classical.em _).symm
theorem cII_em (cd : ClassFile.Cond) (x y : Int32) : cII cd x y ∨ cII (cNeg cd) x y := by
  cases cd <;> simp only [cII, cNeg] <;> first | exact Classical.em _ | exact (Classical.em _).symm
theorem cLL_em (cd : ClassFile.Cond) (x y : Int64) : cLL cd x y ∨ cLL (cNeg cd) x y := by
  cases cd <;> simp only [cLL, cNeg] <;> first | exact Classical.em _ | exact (Classical.em _).symm

theorem o_iload (X : Stand p l e R s m args below meth c T locs cells slots) (hx : p.tables.exec = Jvm.exec) (n : Nat) {k : Nat} {v : Int32} (hd : decode c.code pc = .ok (.iload k, 2)) (hl : Ls[k]? = some (.val (.int v))) (hp : pc + 2 = n) (hr : Wout p e below P T (mkF m n Ls (.int v :: rest))) : Wout p e below P T (mkF m pc Ls (rest)) := by
  subst hp
  exact Wout.of (fun _ ht => XS.iload X.here hx rfl hd hl ht) hr
theorem o_iloadN (X : Stand p l e R s m args below meth c T locs cells slots) (hx : p.tables.exec = Jvm.exec) (n : Nat) {k : Fin 4} {v : Int32} (hd : decode c.code pc = .ok (.iload_n k, 1)) (hl : Ls[k.val]? = some (.val (.int v))) (hp : pc + 1 = n) (hr : Wout p e below P T (mkF m n Ls (.int v :: rest))) : Wout p e below P T (mkF m pc Ls (rest)) := by
  subst hp
  exact Wout.of (fun _ ht => XS.iloadN X.here hx rfl hd hl ht) hr
theorem o_istore (X : Stand p l e R s m args below meth c T locs cells slots) (hx : p.tables.exec = Jvm.exec) (n : Nat) {k : Nat} {v : Int32} {Ls' : Array Slot} (hd : decode c.code pc = .ok (.istore k, 2)) (hl : storeLocals Ls k (.int v) = some Ls') (hp : pc + 2 = n) (hr : Wout p e below P T (mkF m n Ls' (rest))) : Wout p e below P T (mkF m pc Ls (.int v :: rest)) := by
  subst hp
  exact Wout.of (fun _ ht => XS.istore X.here hx rfl hd rfl hl ht) hr
theorem o_istoreN (X : Stand p l e R s m args below meth c T locs cells slots) (hx : p.tables.exec = Jvm.exec) (n : Nat) {k : Fin 4} {v : Int32} {Ls' : Array Slot} (hd : decode c.code pc = .ok (.istore_n k, 1)) (hl : storeLocals Ls k.val (.int v) = some Ls') (hp : pc + 1 = n) (hr : Wout p e below P T (mkF m n Ls' (rest))) : Wout p e below P T (mkF m pc Ls (.int v :: rest)) := by
  subst hp
  exact Wout.of (fun _ ht => XS.istoreN X.here hx rfl hd rfl hl ht) hr
theorem o_lload (X : Stand p l e R s m args below meth c T locs cells slots) (hx : p.tables.exec = Jvm.exec) (n : Nat) {k : Nat} {v : Int64} (hd : decode c.code pc = .ok (.lload k, 2)) (hl : Ls[k]? = some (.val (.long v))) (hp : pc + 2 = n) (hr : Wout p e below P T (mkF m n Ls (.long v :: rest))) : Wout p e below P T (mkF m pc Ls (rest)) := by
  subst hp
  exact Wout.of (fun _ ht => XT.lload X.here hx rfl hd hl ht) hr
theorem o_lloadN (X : Stand p l e R s m args below meth c T locs cells slots) (hx : p.tables.exec = Jvm.exec) (n : Nat) {k : Fin 4} {v : Int64} (hd : decode c.code pc = .ok (.lload_n k, 1)) (hl : Ls[k.val]? = some (.val (.long v))) (hp : pc + 1 = n) (hr : Wout p e below P T (mkF m n Ls (.long v :: rest))) : Wout p e below P T (mkF m pc Ls (rest)) := by
  subst hp
  exact Wout.of (fun _ ht => XT.lloadN X.here hx rfl hd hl ht) hr
theorem o_lstore (X : Stand p l e R s m args below meth c T locs cells slots) (hx : p.tables.exec = Jvm.exec) (n : Nat) {k : Nat} {v : Int64} {Ls' : Array Slot} (hd : decode c.code pc = .ok (.lstore k, 2)) (hl : storeLocals Ls k (.long v) = some Ls') (hp : pc + 2 = n) (hr : Wout p e below P T (mkF m n Ls' (rest))) : Wout p e below P T (mkF m pc Ls (.long v :: rest)) := by
  subst hp
  exact Wout.of (fun _ ht => XT.lstore X.here hx rfl hd rfl hl ht) hr
theorem o_lstoreN (X : Stand p l e R s m args below meth c T locs cells slots) (hx : p.tables.exec = Jvm.exec) (n : Nat) {k : Fin 4} {v : Int64} {Ls' : Array Slot} (hd : decode c.code pc = .ok (.lstore_n k, 1)) (hl : storeLocals Ls k.val (.long v) = some Ls') (hp : pc + 1 = n) (hr : Wout p e below P T (mkF m n Ls' (rest))) : Wout p e below P T (mkF m pc Ls (.long v :: rest)) := by
  subst hp
  exact Wout.of (fun _ ht => XT.lstoreN X.here hx rfl hd rfl hl ht) hr
theorem o_aload (X : Stand p l e R s m args below meth c T locs cells slots) (hx : p.tables.exec = Jvm.exec) (n : Nat) {k : Nat} {v : Value} (hd : decode c.code pc = .ok (.aload k, 2)) (hl : Ls[k]? = some (.val v)) (hv : v.isRef = true) (hp : pc + 2 = n) (hr : Wout p e below P T (mkF m n Ls (v :: rest))) : Wout p e below P T (mkF m pc Ls (rest)) := by
  subst hp
  exact Wout.of (fun _ ht => XS.aload X.here hx rfl hd hl hv ht) hr
theorem o_aloadN (X : Stand p l e R s m args below meth c T locs cells slots) (hx : p.tables.exec = Jvm.exec) (n : Nat) {k : Fin 4} {v : Value} (hd : decode c.code pc = .ok (.aload_n k, 1)) (hl : Ls[k.val]? = some (.val v)) (hv : v.isRef = true) (hp : pc + 1 = n) (hr : Wout p e below P T (mkF m n Ls (v :: rest))) : Wout p e below P T (mkF m pc Ls (rest)) := by
  subst hp
  exact Wout.of (fun _ ht => XS.aloadN X.here hx rfl hd hl hv ht) hr
theorem o_astore (X : Stand p l e R s m args below meth c T locs cells slots) (hx : p.tables.exec = Jvm.exec) (n : Nat) {k : Nat} {v : Value} {Ls' : Array Slot} (hd : decode c.code pc = .ok (.astore k, 2)) (hv : v.isRef = true) (hl : storeLocals Ls k v = some Ls') (hp : pc + 2 = n) (hr : Wout p e below P T (mkF m n Ls' (rest))) : Wout p e below P T (mkF m pc Ls (v :: rest)) := by
  subst hp
  exact Wout.of (fun _ ht => XS.astore X.here hx rfl hd rfl hv hl ht) hr
theorem o_astoreN (X : Stand p l e R s m args below meth c T locs cells slots) (hx : p.tables.exec = Jvm.exec) (n : Nat) {k : Fin 4} {v : Value} {Ls' : Array Slot} (hd : decode c.code pc = .ok (.astore_n k, 1)) (hv : v.isRef = true) (hl : storeLocals Ls k.val v = some Ls') (hp : pc + 1 = n) (hr : Wout p e below P T (mkF m n Ls' (rest))) : Wout p e below P T (mkF m pc Ls (v :: rest)) := by
  subst hp
  exact Wout.of (fun _ ht => XS.astoreN X.here hx rfl hd rfl hv hl ht) hr
theorem o_iconst (X : Stand p l e R s m args below meth c T locs cells slots) (hx : p.tables.exec = Jvm.exec) (n : Nat) {i : Int} (v : Int32) (hd : decode c.code pc = .ok (.iconst i, 1)) (hv : Int32.ofInt i = v) (hp : pc + 1 = n) (hr : Wout p e below P T (mkF m n Ls (.int v :: rest))) : Wout p e below P T (mkF m pc Ls (rest)) := by
  subst hp
  exact Wout.of (fun _ ht => XT.iconstV X.here hx rfl v hd hv ht) hr
theorem o_bipush (X : Stand p l e R s m args below meth c T locs cells slots) (hx : p.tables.exec = Jvm.exec) (n : Nat) {i : Int} (v : Int32) (hd : decode c.code pc = .ok (.bipush i, 2)) (hv : (Int8.ofInt i).toInt32 = v) (hp : pc + 2 = n) (hr : Wout p e below P T (mkF m n Ls (.int v :: rest))) : Wout p e below P T (mkF m pc Ls (rest)) := by
  subst hp
  exact Wout.of (fun _ ht => XT.bipushV X.here hx rfl v hd hv ht) hr
theorem o_sipush (X : Stand p l e R s m args below meth c T locs cells slots) (hx : p.tables.exec = Jvm.exec) (n : Nat) {i : Int} (v : Int32) (hd : decode c.code pc = .ok (.sipush i, 3)) (hv : (Int16.ofInt i).toInt32 = v) (hp : pc + 3 = n) (hr : Wout p e below P T (mkF m n Ls (.int v :: rest))) : Wout p e below P T (mkF m pc Ls (rest)) := by
  subst hp
  exact Wout.of (fun _ ht => XT.sipushV X.here hx rfl v hd hv ht) hr
theorem o_lconst (X : Stand p l e R s m args below meth c T locs cells slots) (hx : p.tables.exec = Jvm.exec) (n : Nat) {k : Fin 2} (v : Int64) (hd : decode c.code pc = .ok (.lconst k, 1)) (hv : Int64.ofNat k = v) (hp : pc + 1 = n) (hr : Wout p e below P T (mkF m n Ls (.long v :: rest))) : Wout p e below P T (mkF m pc Ls (rest)) := by
  subst hp
  exact Wout.of (fun _ ht => XT.lconstV X.here hx rfl v hd hv ht) hr
theorem o_aconst_null (X : Stand p l e R s m args below meth c T locs cells slots) (hx : p.tables.exec = Jvm.exec) (n : Nat)  (hd : decode c.code pc = .ok (.aconst_null, 1)) (hp : pc + 1 = n) (hr : Wout p e below P T (mkF m n Ls (.null :: rest))) : Wout p e below P T (mkF m pc Ls (rest)) := by
  subst hp
  exact Wout.of (fun _ ht => XS.aconstNull X.here hx rfl hd ht) hr
theorem o_iadd (X : Stand p l e R s m args below meth c T locs cells slots) (hx : p.tables.exec = Jvm.exec) (n : Nat) {x y : Int32} (hd : decode c.code pc = .ok (.iadd, 1)) (hp : pc + 1 = n) (hr : Wout p e below P T (mkF m n Ls (.int (x + y) :: rest))) : Wout p e below P T (mkF m pc Ls (.int y :: .int x :: rest)) := by
  subst hp
  exact Wout.of (fun _ ht => XS.iadd X.here hx rfl hd rfl ht) hr
theorem o_isub (X : Stand p l e R s m args below meth c T locs cells slots) (hx : p.tables.exec = Jvm.exec) (n : Nat) {x y : Int32} (hd : decode c.code pc = .ok (.isub, 1)) (hp : pc + 1 = n) (hr : Wout p e below P T (mkF m n Ls (.int (x - y) :: rest))) : Wout p e below P T (mkF m pc Ls (.int y :: .int x :: rest)) := by
  subst hp
  exact Wout.of (fun _ ht => XS.isub X.here hx rfl hd rfl ht) hr
theorem o_imul (X : Stand p l e R s m args below meth c T locs cells slots) (hx : p.tables.exec = Jvm.exec) (n : Nat) {x y : Int32} (hd : decode c.code pc = .ok (.imul, 1)) (hp : pc + 1 = n) (hr : Wout p e below P T (mkF m n Ls (.int (x * y) :: rest))) : Wout p e below P T (mkF m pc Ls (.int y :: .int x :: rest)) := by
  subst hp
  exact Wout.of (fun _ ht => XS.imul X.here hx rfl hd rfl ht) hr
theorem o_iand (X : Stand p l e R s m args below meth c T locs cells slots) (hx : p.tables.exec = Jvm.exec) (n : Nat) {x y : Int32} (hd : decode c.code pc = .ok (.iand, 1)) (hp : pc + 1 = n) (hr : Wout p e below P T (mkF m n Ls (.int (x &&& y) :: rest))) : Wout p e below P T (mkF m pc Ls (.int y :: .int x :: rest)) := by
  subst hp
  exact Wout.of (fun _ ht => XS.iand X.here hx rfl hd rfl ht) hr
theorem o_ior (X : Stand p l e R s m args below meth c T locs cells slots) (hx : p.tables.exec = Jvm.exec) (n : Nat) {x y : Int32} (hd : decode c.code pc = .ok (.ior, 1)) (hp : pc + 1 = n) (hr : Wout p e below P T (mkF m n Ls (.int (x ||| y) :: rest))) : Wout p e below P T (mkF m pc Ls (.int y :: .int x :: rest)) := by
  subst hp
  exact Wout.of (fun _ ht => XT.ior X.here hx rfl hd rfl ht) hr
theorem o_ixor (X : Stand p l e R s m args below meth c T locs cells slots) (hx : p.tables.exec = Jvm.exec) (n : Nat) {x y : Int32} (hd : decode c.code pc = .ok (.ixor, 1)) (hp : pc + 1 = n) (hr : Wout p e below P T (mkF m n Ls (.int (x ^^^ y) :: rest))) : Wout p e below P T (mkF m pc Ls (.int y :: .int x :: rest)) := by
  subst hp
  exact Wout.of (fun _ ht => XT.ixor X.here hx rfl hd rfl ht) hr
theorem o_ishl (X : Stand p l e R s m args below meth c T locs cells slots) (hx : p.tables.exec = Jvm.exec) (n : Nat) {x y : Int32} (hd : decode c.code pc = .ok (.ishl, 1)) (hp : pc + 1 = n) (hr : Wout p e below P T (mkF m n Ls (.int (x <<< (y &&& 31)) :: rest))) : Wout p e below P T (mkF m pc Ls (.int y :: .int x :: rest)) := by
  subst hp
  exact Wout.of (fun _ ht => XT.ishl X.here hx rfl hd rfl ht) hr
theorem o_ishr (X : Stand p l e R s m args below meth c T locs cells slots) (hx : p.tables.exec = Jvm.exec) (n : Nat) {x y : Int32} (hd : decode c.code pc = .ok (.ishr, 1)) (hp : pc + 1 = n) (hr : Wout p e below P T (mkF m n Ls (.int (x >>> (y &&& 31)) :: rest))) : Wout p e below P T (mkF m pc Ls (.int y :: .int x :: rest)) := by
  subst hp
  exact Wout.of (fun _ ht => XT.ishr X.here hx rfl hd rfl ht) hr
theorem o_iushr (X : Stand p l e R s m args below meth c T locs cells slots) (hx : p.tables.exec = Jvm.exec) (n : Nat) {x y : Int32} (hd : decode c.code pc = .ok (.iushr, 1)) (hp : pc + 1 = n) (hr : Wout p e below P T (mkF m n Ls (.int (XT.ushr x y) :: rest))) : Wout p e below P T (mkF m pc Ls (.int y :: .int x :: rest)) := by
  subst hp
  exact Wout.of (fun _ ht => XT.iushr X.here hx rfl hd rfl ht) hr
theorem o_ladd (X : Stand p l e R s m args below meth c T locs cells slots) (hx : p.tables.exec = Jvm.exec) (n : Nat) {x y : Int64} (hd : decode c.code pc = .ok (.ladd, 1)) (hp : pc + 1 = n) (hr : Wout p e below P T (mkF m n Ls (.long (x + y) :: rest))) : Wout p e below P T (mkF m pc Ls (.long y :: .long x :: rest)) := by
  subst hp
  exact Wout.of (fun _ ht => XT.ladd X.here hx rfl hd rfl ht) hr
theorem o_lsub (X : Stand p l e R s m args below meth c T locs cells slots) (hx : p.tables.exec = Jvm.exec) (n : Nat) {x y : Int64} (hd : decode c.code pc = .ok (.lsub, 1)) (hp : pc + 1 = n) (hr : Wout p e below P T (mkF m n Ls (.long (x - y) :: rest))) : Wout p e below P T (mkF m pc Ls (.long y :: .long x :: rest)) := by
  subst hp
  exact Wout.of (fun _ ht => XT.lsub X.here hx rfl hd rfl ht) hr
theorem o_lmul (X : Stand p l e R s m args below meth c T locs cells slots) (hx : p.tables.exec = Jvm.exec) (n : Nat) {x y : Int64} (hd : decode c.code pc = .ok (.lmul, 1)) (hp : pc + 1 = n) (hr : Wout p e below P T (mkF m n Ls (.long (x * y) :: rest))) : Wout p e below P T (mkF m pc Ls (.long y :: .long x :: rest)) := by
  subst hp
  exact Wout.of (fun _ ht => XT.lmul X.here hx rfl hd rfl ht) hr
theorem o_land (X : Stand p l e R s m args below meth c T locs cells slots) (hx : p.tables.exec = Jvm.exec) (n : Nat) {x y : Int64} (hd : decode c.code pc = .ok (.land, 1)) (hp : pc + 1 = n) (hr : Wout p e below P T (mkF m n Ls (.long (x &&& y) :: rest))) : Wout p e below P T (mkF m pc Ls (.long y :: .long x :: rest)) := by
  subst hp
  exact Wout.of (fun _ ht => XT.land X.here hx rfl hd rfl ht) hr
theorem o_lor (X : Stand p l e R s m args below meth c T locs cells slots) (hx : p.tables.exec = Jvm.exec) (n : Nat) {x y : Int64} (hd : decode c.code pc = .ok (.lor, 1)) (hp : pc + 1 = n) (hr : Wout p e below P T (mkF m n Ls (.long (x ||| y) :: rest))) : Wout p e below P T (mkF m pc Ls (.long y :: .long x :: rest)) := by
  subst hp
  exact Wout.of (fun _ ht => XT.lor X.here hx rfl hd rfl ht) hr
theorem o_lxor (X : Stand p l e R s m args below meth c T locs cells slots) (hx : p.tables.exec = Jvm.exec) (n : Nat) {x y : Int64} (hd : decode c.code pc = .ok (.lxor, 1)) (hp : pc + 1 = n) (hr : Wout p e below P T (mkF m n Ls (.long (x ^^^ y) :: rest))) : Wout p e below P T (mkF m pc Ls (.long y :: .long x :: rest)) := by
  subst hp
  exact Wout.of (fun _ ht => XT.lxor X.here hx rfl hd rfl ht) hr
theorem o_irem (X : Stand p l e R s m args below meth c T locs cells slots) (hx : p.tables.exec = Jvm.exec) (n : Nat) {x y : Int32} (hd : decode c.code pc = .ok (.irem, 1)) (hy : y ≠ 0) (hp : pc + 1 = n) (hr : Wout p e below P T (mkF m n Ls (.int (x % y) :: rest))) : Wout p e below P T (mkF m pc Ls (.int y :: .int x :: rest)) := by
  subst hp
  exact Wout.of (fun _ ht => iremM X hx rfl hd rfl hy ht) hr
theorem o_idiv (X : Stand p l e R s m args below meth c T locs cells slots) (hx : p.tables.exec = Jvm.exec) (n : Nat) {x y : Int32} (hd : decode c.code pc = .ok (.idiv, 1)) (hy : y ≠ 0) (hp : pc + 1 = n) (hr : Wout p e below P T (mkF m n Ls (.int (x / y) :: rest))) : Wout p e below P T (mkF m pc Ls (.int y :: .int x :: rest)) := by
  subst hp
  exact Wout.of (fun _ ht => XS.idiv X.here hx rfl hd rfl hy ht) hr
theorem o_lshl (X : Stand p l e R s m args below meth c T locs cells slots) (hx : p.tables.exec = Jvm.exec) (n : Nat) {x : Int64} {y : Int32} (hd : decode c.code pc = .ok (.lshl, 1)) (hp : pc + 1 = n) (hr : Wout p e below P T (mkF m n Ls (.long (x <<< (y.toInt64 &&& 63)) :: rest))) : Wout p e below P T (mkF m pc Ls (.int y :: .long x :: rest)) := by
  subst hp
  exact Wout.of (fun _ ht => XT.lshl X.here hx rfl hd rfl ht) hr
theorem o_lshr (X : Stand p l e R s m args below meth c T locs cells slots) (hx : p.tables.exec = Jvm.exec) (n : Nat) {x : Int64} {y : Int32} (hd : decode c.code pc = .ok (.lshr, 1)) (hp : pc + 1 = n) (hr : Wout p e below P T (mkF m n Ls (.long (x >>> (y.toInt64 &&& 63)) :: rest))) : Wout p e below P T (mkF m pc Ls (.int y :: .long x :: rest)) := by
  subst hp
  exact Wout.of (fun _ ht => XT.lshr X.here hx rfl hd rfl ht) hr
theorem o_lushr (X : Stand p l e R s m args below meth c T locs cells slots) (hx : p.tables.exec = Jvm.exec) (n : Nat) {x : Int64} {y : Int32} (hd : decode c.code pc = .ok (.lushr, 1)) (hp : pc + 1 = n) (hr : Wout p e below P T (mkF m n Ls (.long (XT.ushrL x y) :: rest))) : Wout p e below P T (mkF m pc Ls (.int y :: .long x :: rest)) := by
  subst hp
  exact Wout.of (fun _ ht => XT.lushr X.here hx rfl hd rfl ht) hr
theorem o_ineg (X : Stand p l e R s m args below meth c T locs cells slots) (hx : p.tables.exec = Jvm.exec) (n : Nat) {x : Int32} (hd : decode c.code pc = .ok (.ineg, 1)) (hp : pc + 1 = n) (hr : Wout p e below P T (mkF m n Ls (.int (-x) :: rest))) : Wout p e below P T (mkF m pc Ls (.int x :: rest)) := by
  subst hp
  exact Wout.of (fun _ ht => XS.ineg X.here hx rfl hd rfl ht) hr
theorem o_i2l (X : Stand p l e R s m args below meth c T locs cells slots) (hx : p.tables.exec = Jvm.exec) (n : Nat) {x : Int32} (hd : decode c.code pc = .ok (.i2l, 1)) (hp : pc + 1 = n) (hr : Wout p e below P T (mkF m n Ls (.long (x.toInt64) :: rest))) : Wout p e below P T (mkF m pc Ls (.int x :: rest)) := by
  subst hp
  exact Wout.of (fun _ ht => XT.i2l X.here hx rfl hd rfl ht) hr
theorem o_l2i (X : Stand p l e R s m args below meth c T locs cells slots) (hx : p.tables.exec = Jvm.exec) (n : Nat) {x : Int64} (hd : decode c.code pc = .ok (.l2i, 1)) (hp : pc + 1 = n) (hr : Wout p e below P T (mkF m n Ls (.int (x.toInt32) :: rest))) : Wout p e below P T (mkF m pc Ls (.long x :: rest)) := by
  subst hp
  exact Wout.of (fun _ ht => XT.l2i X.here hx rfl hd rfl ht) hr
theorem o_i2b (X : Stand p l e R s m args below meth c T locs cells slots) (hx : p.tables.exec = Jvm.exec) (n : Nat) {x : Int32} (hd : decode c.code pc = .ok (.i2b, 1)) (hp : pc + 1 = n) (hr : Wout p e below P T (mkF m n Ls (.int (x.toInt8.toInt32) :: rest))) : Wout p e below P T (mkF m pc Ls (.int x :: rest)) := by
  subst hp
  exact Wout.of (fun _ ht => XT.i2b X.here hx rfl hd rfl ht) hr
theorem o_i2c (X : Stand p l e R s m args below meth c T locs cells slots) (hx : p.tables.exec = Jvm.exec) (n : Nat) {x : Int32} (hd : decode c.code pc = .ok (.i2c, 1)) (hp : pc + 1 = n) (hr : Wout p e below P T (mkF m n Ls (.int (x.toUInt32.toUInt16.toUInt32.toInt32) :: rest))) : Wout p e below P T (mkF m pc Ls (.int x :: rest)) := by
  subst hp
  exact Wout.of (fun _ ht => XT.i2c X.here hx rfl hd rfl ht) hr
theorem o_i2s (X : Stand p l e R s m args below meth c T locs cells slots) (hx : p.tables.exec = Jvm.exec) (n : Nat) {x : Int32} (hd : decode c.code pc = .ok (.i2s, 1)) (hp : pc + 1 = n) (hr : Wout p e below P T (mkF m n Ls (.int (x.toInt16.toInt32) :: rest))) : Wout p e below P T (mkF m pc Ls (.int x :: rest)) := by
  subst hp
  exact Wout.of (fun _ ht => XT.i2s X.here hx rfl hd rfl ht) hr
theorem o_lcmp (X : Stand p l e R s m args below meth c T locs cells slots) (hx : p.tables.exec = Jvm.exec) (n : Nat) {x y : Int64} (hd : decode c.code pc = .ok (.lcmp, 1)) (hp : pc + 1 = n) (hr : Wout p e below P T (mkF m n Ls (.int (XT.cmpL x y) :: rest))) : Wout p e below P T (mkF m pc Ls (.long y :: .long x :: rest)) := by
  subst hp
  exact Wout.of (fun _ ht => XT.lcmp X.here hx rfl hd rfl ht) hr
theorem o_dup (X : Stand p l e R s m args below meth c T locs cells slots) (hx : p.tables.exec = Jvm.exec) (n : Nat) {v : Value} (hd : decode c.code pc = .ok (.dup, 1)) (hc : v.category = 1) (hp : pc + 1 = n) (hr : Wout p e below P T (mkF m n Ls (v :: v :: rest))) : Wout p e below P T (mkF m pc Ls (v :: rest)) := by
  subst hp
  exact Wout.of (fun _ ht => XS.dup X.here hx rfl hd rfl hc ht) hr
theorem o_pop (X : Stand p l e R s m args below meth c T locs cells slots) (hx : p.tables.exec = Jvm.exec) (n : Nat) {v : Value} (hd : decode c.code pc = .ok (.pop, 1)) (hc : v.category = 1) (hp : pc + 1 = n) (hr : Wout p e below P T (mkF m n Ls (rest))) : Wout p e below P T (mkF m pc Ls (v :: rest)) := by
  subst hp
  exact Wout.of (fun _ ht => XT.pop X.here hx rfl hd rfl hc ht) hr
theorem o_dup_x1 (X : Stand p l e R s m args below meth c T locs cells slots) (hx : p.tables.exec = Jvm.exec) (n : Nat) {v w : Value} (hd : decode c.code pc = .ok (.dup_x1, 1)) (hc : v.category = 1) (hc' : w.category = 1) (hp : pc + 1 = n) (hr : Wout p e below P T (mkF m n Ls (v :: w :: v :: rest))) : Wout p e below P T (mkF m pc Ls (v :: w :: rest)) := by
  subst hp
  exact Wout.of (fun _ ht => XT.dupX1 X.here hx rfl hd rfl hc hc' ht) hr
theorem o_dup2 (X : Stand p l e R s m args below meth c T locs cells slots) (hx : p.tables.exec = Jvm.exec) (n : Nat) {v w : Value} (hd : decode c.code pc = .ok (.dup2, 1)) (hc : v.category = 1) (hc' : w.category = 1) (hp : pc + 1 = n) (hr : Wout p e below P T (mkF m n Ls (v :: w :: v :: w :: rest))) : Wout p e below P T (mkF m pc Ls (v :: w :: rest)) := by
  subst hp
  exact Wout.of (fun _ ht => XT.dup2 X.here hx rfl hd rfl hc hc' ht) hr
theorem o_iinc (X : Stand p l e R s m args below meth c T locs cells slots) (hx : p.tables.exec = Jvm.exec) (n : Nat) {k : Nat} {i : Int} {x : Int32} {Ls' : Array Slot} (v : Int32) (hd : decode c.code pc = .ok (.iinc k i, 3)) (hv : Int32.ofInt i = v) (hl : Ls[k]? = some (.val (.int x))) (hl' : storeLocals Ls k (.int (x + v)) = some Ls') (hp : pc + 3 = n) (hr : Wout p e below P T (mkF m n Ls' (rest))) : Wout p e below P T (mkF m pc Ls (rest)) := by
  subst hp
  exact Wout.of (fun _ ht => XT.iincV X.here hx rfl v hd hv hl hl' ht) hr
theorem o_dload (X : Stand p l e R s m args below meth c T locs cells slots) (hx : p.tables.exec = Jvm.exec) (n : Nat) {k : Nat} {v : UInt64} (hd : decode c.code pc = .ok (.dload k, 2)) (hl : Ls[k]? = some (.val (.double v))) (hp : pc + 2 = n) (hr : Wout p e below P T (mkF m n Ls (.double v :: rest))) : Wout p e below P T (mkF m pc Ls (rest)) := by
  subst hp
  exact Wout.of (fun _ ht => XS.dload X.here hx rfl hd hl ht) hr
theorem o_dloadN (X : Stand p l e R s m args below meth c T locs cells slots) (hx : p.tables.exec = Jvm.exec) (n : Nat) {k : Fin 4} {v : UInt64} (hd : decode c.code pc = .ok (.dload_n k, 1)) (hl : Ls[k.val]? = some (.val (.double v))) (hp : pc + 1 = n) (hr : Wout p e below P T (mkF m n Ls (.double v :: rest))) : Wout p e below P T (mkF m pc Ls (rest)) := by
  subst hp
  exact Wout.of (fun _ ht => XS.dloadN X.here hx rfl hd hl ht) hr
theorem o_dstore (X : Stand p l e R s m args below meth c T locs cells slots) (hx : p.tables.exec = Jvm.exec) (n : Nat) {k : Nat} {v : UInt64} {Ls' : Array Slot} (hd : decode c.code pc = .ok (.dstore k, 2)) (hl : storeLocals Ls k (.double v) = some Ls') (hp : pc + 2 = n) (hr : Wout p e below P T (mkF m n Ls' (rest))) : Wout p e below P T (mkF m pc Ls (.double v :: rest)) := by
  subst hp
  exact Wout.of (fun _ ht => XS.dstore X.here hx rfl hd rfl hl ht) hr
theorem o_dstoreN (X : Stand p l e R s m args below meth c T locs cells slots) (hx : p.tables.exec = Jvm.exec) (n : Nat) {k : Fin 4} {v : UInt64} {Ls' : Array Slot} (hd : decode c.code pc = .ok (.dstore_n k, 1)) (hl : storeLocals Ls k.val (.double v) = some Ls') (hp : pc + 1 = n) (hr : Wout p e below P T (mkF m n Ls' (rest))) : Wout p e below P T (mkF m pc Ls (.double v :: rest)) := by
  subst hp
  exact Wout.of (fun _ ht => XS.dstoreN X.here hx rfl hd rfl hl ht) hr
theorem o_i2d (X : Stand p l e R s m args below meth c T locs cells slots) (hx : p.tables.exec = Jvm.exec) (n : Nat) {x : Int32} (v : UInt64) (hd : decode c.code pc = .ok (.i2d, 1)) (hv : FP.i2d x = v) (hp : pc + 1 = n) (hr : Wout p e below P T (mkF m n Ls (.double v :: rest))) : Wout p e below P T (mkF m pc Ls (.int x :: rest)) := by
  subst hp
  exact Wout.of (fun _ ht => XS.i2dS X.here hx rfl hd rfl hv ht) hr
theorem o_l2d (X : Stand p l e R s m args below meth c T locs cells slots) (hx : p.tables.exec = Jvm.exec) (n : Nat) {x : Int64} (v : UInt64) (hd : decode c.code pc = .ok (.l2d, 1)) (hv : FP.l2d x = v) (hp : pc + 1 = n) (hr : Wout p e below P T (mkF m n Ls (.double v :: rest))) : Wout p e below P T (mkF m pc Ls (.long x :: rest)) := by
  subst hp
  exact Wout.of (fun _ ht => XS.l2dS X.here hx rfl hd rfl hv ht) hr
theorem o_dadd (X : Stand p l e R s m args below meth c T locs cells slots) (hx : p.tables.exec = Jvm.exec) (n : Nat) {x y : UInt64} (v : UInt64) (hd : decode c.code pc = .ok (.dadd, 1)) (hn : Jvm.Free.Fl.NoNaN64 (FP.dadd x y)) (hv : FP.dadd x y = v) (hp : pc + 1 = n) (hr : Wout p e below P T (mkF m n Ls (.double v :: rest))) : Wout p e below P T (mkF m pc Ls (.double y :: .double x :: rest)) := by
  subst hp
  exact Wout.of (fun _ ht => XS.daddS X.here hx rfl hd rfl hn hv ht) hr
theorem o_dcmp (X : Stand p l e R s m args below meth c T locs cells slots) (hx : p.tables.exec = Jvm.exec) (n : Nat) {o : CmpOp} {x y : UInt64} (v : Int32) (hd : decode c.code pc = .ok (.dcmp o, 1)) (hv : cmpValue (FP.dcmp x y) o = v) (hp : pc + 1 = n) (hr : Wout p e below P T (mkF m n Ls (.int v :: rest))) : Wout p e below P T (mkF m pc Ls (.double y :: .double x :: rest)) := by
  subst hp
  exact Wout.of (fun _ ht => XS.dcmpS X.here hx rfl hd rfl hv ht) hr
theorem jmp {pc n : Nat} {o : Int} (hp : (pc : Int) + o = (n : Int)) : 0 ≤ (pc : Int) + o ∧ ((pc : Int) + o).toNat = n := by rw [hp]; exact ⟨Int.natCast_nonneg n, Int.toNat_natCast n⟩
theorem o_goto (X : Stand p l e R s m args below meth c T locs cells slots) (hx : p.tables.exec = Jvm.exec) (n : Nat) {o : Int} (hd : decode c.code pc = .ok (.goto o, 3)) (hp : (pc : Int) + o = (n : Int)) (hr : Wout p e below P T (mkF m n Ls rest)) : Wout p e below P T (mkF m pc Ls rest) :=
  Wout.of (fun _ ht => XS.goto X.here hx rfl (pc0 := pc) rfl hd (jmp hp).1 (jmp hp).2 ht) hr
theorem o_ifT (X : Stand p l e R s m args below meth c T locs cells slots) (hx : p.tables.exec = Jvm.exec) (n : Nat) {cd : ClassFile.Cond} {x : Int32} {o : Int} (hd : decode c.code pc = .ok (.ifCond cd o, 3)) (hp : (pc : Int) + o = (n : Int)) (q : cI cd x) (hr : Wout p e below P T (mkF m n Ls rest)) : Wout p e below P T (mkF m pc Ls (.int x :: rest)) :=
  Wout.of (fun _ ht => XS.ifYes X.here hx rfl (pc0 := pc) rfl hd rfl (cI_t q) (jmp hp).1 (jmp hp).2 ht) hr
theorem o_ifF (X : Stand p l e R s m args below meth c T locs cells slots) (hx : p.tables.exec = Jvm.exec) (n : Nat) {cd : ClassFile.Cond} {x : Int32} {o : Int} (hd : decode c.code pc = .ok (.ifCond cd o, 3)) (hp : pc + 3 = n) (q : cI (cNeg cd) x) (hr : Wout p e below P T (mkF m n Ls rest)) : Wout p e below P T (mkF m pc Ls (.int x :: rest)) := by
  subst hp
  exact Wout.of (fun _ ht => XS.ifNo X.here hx rfl hd rfl (cI_f q) ht) hr
theorem o_if (X : Stand p l e R s m args below meth c T locs cells slots) (hx : p.tables.exec = Jvm.exec) (n1 n2 : Nat) {cd : ClassFile.Cond} {x : Int32} {o : Int} (hd : decode c.code pc = .ok (.ifCond cd o, 3)) (hp1 : (pc : Int) + o = (n1 : Int)) (hp2 : pc + 3 = n2) (h1 : cI cd x → Wout p e below P T (mkF m n1 Ls rest)) (h2 : cI (cNeg cd) x → Wout p e below P T (mkF m n2 Ls rest)) : Wout p e below P T (mkF m pc Ls (.int x :: rest)) :=
  (cI_em cd x).elim (fun q => o_ifT X hx n1 hd hp1 q (h1 q)) (fun q => o_ifF X hx n2 hd hp2 q (h2 q))
theorem o_ifLT (X : Stand p l e R s m args below meth c T locs cells slots) (hx : p.tables.exec = Jvm.exec) (n : Nat) {cd : ClassFile.Cond} {x y : Int64} {o : Int} (hd : decode c.code pc = .ok (.ifCond cd o, 3)) (hp : (pc : Int) + o = (n : Int)) (q : cLL cd x y) (hr : Wout p e below P T (mkF m n Ls rest)) : Wout p e below P T (mkF m pc Ls (.int (XT.cmpL x y) :: rest)) :=
  Wout.of (fun _ ht => XS.ifYes X.here hx rfl (pc0 := pc) rfl hd rfl (cLL_t q) (jmp hp).1 (jmp hp).2 ht) hr
theorem o_ifLF (X : Stand p l e R s m args below meth c T locs cells slots) (hx : p.tables.exec = Jvm.exec) (n : Nat) {cd : ClassFile.Cond} {x y : Int64} {o : Int} (hd : decode c.code pc = .ok (.ifCond cd o, 3)) (hp : pc + 3 = n) (q : cLL (cNeg cd) x y) (hr : Wout p e below P T (mkF m n Ls rest)) : Wout p e below P T (mkF m pc Ls (.int (XT.cmpL x y) :: rest)) := by
  subst hp
  exact Wout.of (fun _ ht => XS.ifNo X.here hx rfl hd rfl (cLL_f q) ht) hr
theorem o_ifL (X : Stand p l e R s m args below meth c T locs cells slots) (hx : p.tables.exec = Jvm.exec) (n1 n2 : Nat) {cd : ClassFile.Cond} {x y : Int64} {o : Int} (hd : decode c.code pc = .ok (.ifCond cd o, 3)) (hp1 : (pc : Int) + o = (n1 : Int)) (hp2 : pc + 3 = n2) (h1 : cLL cd x y → Wout p e below P T (mkF m n1 Ls rest)) (h2 : cLL (cNeg cd) x y → Wout p e below P T (mkF m n2 Ls rest)) : Wout p e below P T (mkF m pc Ls (.int (XT.cmpL x y) :: rest)) :=
  (cLL_em cd x y).elim (fun q => o_ifLT X hx n1 hd hp1 q (h1 q)) (fun q => o_ifLF X hx n2 hd hp2 q (h2 q))
theorem o_icmpT (X : Stand p l e R s m args below meth c T locs cells slots) (hx : p.tables.exec = Jvm.exec) (n : Nat) {cd : ClassFile.Cond} {x y : Int32} {o : Int} (hd : decode c.code pc = .ok (.if_icmp cd o, 3)) (hp : (pc : Int) + o = (n : Int)) (q : cII cd x y) (hr : Wout p e below P T (mkF m n Ls rest)) : Wout p e below P T (mkF m pc Ls (.int y :: .int x :: rest)) :=
  Wout.of (fun _ ht => XS.icmpYes X.here hx rfl (pc0 := pc) rfl hd rfl (cII_t q) (jmp hp).1 (jmp hp).2 ht) hr
theorem o_icmpF (X : Stand p l e R s m args below meth c T locs cells slots) (hx : p.tables.exec = Jvm.exec) (n : Nat) {cd : ClassFile.Cond} {x y : Int32} {o : Int} (hd : decode c.code pc = .ok (.if_icmp cd o, 3)) (hp : pc + 3 = n) (q : cII (cNeg cd) x y) (hr : Wout p e below P T (mkF m n Ls rest)) : Wout p e below P T (mkF m pc Ls (.int y :: .int x :: rest)) := by
  subst hp
  exact Wout.of (fun _ ht => XS.icmpNo X.here hx rfl hd rfl (cII_f q) ht) hr
theorem o_icmp (X : Stand p l e R s m args below meth c T locs cells slots) (hx : p.tables.exec = Jvm.exec) (n1 n2 : Nat) {cd : ClassFile.Cond} {x y : Int32} {o : Int} (hd : decode c.code pc = .ok (.if_icmp cd o, 3)) (hp1 : (pc : Int) + o = (n1 : Int)) (hp2 : pc + 3 = n2) (h1 : cII cd x y → Wout p e below P T (mkF m n1 Ls rest)) (h2 : cII (cNeg cd) x y → Wout p e below P T (mkF m n2 Ls rest)) : Wout p e below P T (mkF m pc Ls (.int y :: .int x :: rest)) :=
  (cII_em cd x y).elim (fun q => o_icmpT X hx n1 hd hp1 q (h1 q)) (fun q => o_icmpF X hx n2 hd hp2 q (h2 q))
theorem o_ifnullT (X : Stand p l e R s m args below meth c T locs cells slots) (hx : p.tables.exec = Jvm.exec) (n : Nat) {o : Int} (hd : decode c.code pc = .ok (.ifnull o, 3)) (hp : (pc : Int) + o = (n : Int)) (hr : Wout p e below P T (mkF m n Ls rest)) : Wout p e below P T (mkF m pc Ls (.null :: rest)) :=
  Wout.of (fun _ ht => XS.ifnullYes X.here hx rfl (pc0 := pc) rfl hd rfl (jmp hp).1 (jmp hp).2 ht) hr
theorem o_ifnullF (X : Stand p l e R s m args below meth c T locs cells slots) (hx : p.tables.exec = Jvm.exec) (n : Nat) {o : Int} {a : Addr} (hd : decode c.code pc = .ok (.ifnull o, 3)) (hp : pc + 3 = n) (hr : Wout p e below P T (mkF m n Ls rest)) : Wout p e below P T (mkF m pc Ls (.ref a :: rest)) := by
  subst hp
  exact Wout.of (fun _ ht => XS.ifnullNo X.here hx rfl hd rfl ht) hr
theorem o_ifnonnullT (X : Stand p l e R s m args below meth c T locs cells slots) (hx : p.tables.exec = Jvm.exec) (n : Nat) {o : Int} {a : Addr} (hd : decode c.code pc = .ok (.ifnonnull o, 3)) (hp : (pc : Int) + o = (n : Int)) (hr : Wout p e below P T (mkF m n Ls rest)) : Wout p e below P T (mkF m pc Ls (.ref a :: rest)) :=
  Wout.of (fun _ ht => XT.ifnonnullYes X.here hx rfl (pc0 := pc) rfl hd rfl (jmp hp).1 (jmp hp).2 ht) hr
theorem o_ifnonnullF (X : Stand p l e R s m args below meth c T locs cells slots) (hx : p.tables.exec = Jvm.exec) (n : Nat) {o : Int} (hd : decode c.code pc = .ok (.ifnonnull o, 3)) (hp : pc + 3 = n) (hr : Wout p e below P T (mkF m n Ls rest)) : Wout p e below P T (mkF m pc Ls (.null :: rest)) := by
  subst hp
  exact Wout.of (fun _ ht => XT.ifnonnullNo X.here hx rfl hd rfl ht) hr
theorem o_acmpT (X : Stand p l e R s m args below meth c T locs cells slots) (hx : p.tables.exec = Jvm.exec) (n : Nat) {cd : ClassFile.ACond} {x y : Value} {o : Int} (hd : decode c.code pc = .ok (.if_acmp cd o, 3)) (h1 : x.isRef = true) (h2 : y.isRef = true) (hp : (pc : Int) + o = (n : Int)) (q : XT.acmp cd x y = true) (hr : Wout p e below P T (mkF m n Ls rest)) : Wout p e below P T (mkF m pc Ls (y :: x :: rest)) :=
  Wout.of (fun _ ht => XT.acmpYes X.here hx rfl (pc0 := pc) rfl hd rfl h1 h2 q (jmp hp).1 (jmp hp).2 ht) hr
theorem o_acmpF (X : Stand p l e R s m args below meth c T locs cells slots) (hx : p.tables.exec = Jvm.exec) (n : Nat) {cd : ClassFile.ACond} {x y : Value} {o : Int} (hd : decode c.code pc = .ok (.if_acmp cd o, 3)) (h1 : x.isRef = true) (h2 : y.isRef = true) (hp : pc + 3 = n) (q : XT.acmp cd x y = false) (hr : Wout p e below P T (mkF m n Ls rest)) : Wout p e below P T (mkF m pc Ls (y :: x :: rest)) := by
  subst hp
  exact Wout.of (fun _ ht => XT.acmpNo X.here hx rfl hd rfl h1 h2 q ht) hr
theorem o_tsw (X : Stand p l e R s m args below meth c T locs cells slots) (hx : p.tables.exec = Jvm.exec) (n : Nat) {dflt low high : Int} {offs : Array Int} {len : Nat} {o : Int} {i : Int32} (hd : decode c.code pc = .ok (.tableswitch dflt low high offs, len)) (hin : ¬ (i.toInt < low ∨ i.toInt > high)) (hoff : offs[(i.toInt - low).toNat]? = some o) (hp : (pc : Int) + o = (n : Int)) (hr : Wout p e below P T (mkF m n Ls rest)) : Wout p e below P T (mkF m pc Ls (.int i :: rest)) :=
  Wout.of (fun _ ht => XS.tswIn X.here hx rfl (pc0 := pc) rfl hd rfl hin hoff (jmp hp).1 (jmp hp).2 ht) hr
/-! constants of the pool, fields, statics -/
theorem o_ldc (X : Stand p l e R s m args below meth c T locs cells slots) (hx : p.tables.exec = Jvm.exec) (hZ : Z.Warmed39 s.vm) (n : Nat) {own : String} {index : Nat} {v : Int32} (hown : s.vm.findClass own = some m.cls) (w : (Jvm.Cond.constant own index v).before a0 Z = true) (hd : decode c.code pc = .ok (.ldc index, 2)) (hp : pc + 2 = n) (hr : Wout p e below P T (mkF m n Ls (.int v :: rest))) : Wout p e below P T (mkF m pc Ls rest) := by
  subst hp
  exact Wout.of (fun _ ht => X.ldcI hx hown (mv hZ w) rfl hd ht) hr
theorem o_ldc2 (X : Stand p l e R s m args below meth c T locs cells slots) (hx : p.tables.exec = Jvm.exec) (hZ : Z.Warmed39 s.vm) (n : Nat) {own : String} {index : Nat} {v : Int64} (hown : s.vm.findClass own = some m.cls) (w : (Jvm.Cond.constantLong own index v).before a0 Z = true) (hd : decode c.code pc = .ok (.ldc2_w index, 3)) (hp : pc + 3 = n) (hr : Wout p e below P T (mkF m n Ls (.long v :: rest))) : Wout p e below P T (mkF m pc Ls rest) := by
  subst hp
  exact Wout.of (fun _ ht => X.ldc2J hx hown (mv hZ w) rfl hd ht) hr
theorem o_getF (X : Stand p l e R s m args below meth c T locs cells slots) (hx : p.tables.exec = Jvm.exec) (hZ : Z.Warmed39 s.vm) {own R0 O nm d host : String} {index : Nat} (hown : s.vm.findClass own = some m.cls) (w : (Jvm.Cond.fieldLink own index R0 nm d).before a0 Z = true ∨ (Jvm.Cond.fieldLinkNest own index R0 nm d host).before a0 Z = true) (via : Via Z R0 O nm d) (eT : T.heap = h) {a : Addr} {v : Value} (F : Fld Z h a O nm d v) (n : Nat) (hd : decode c.code pc = .ok (.getfield index, 3)) (hp : pc + 3 = n)
    (hr : ∀ T', Stand p l e R s m args below meth c T' locs cells slots → T'.heap = h → Wout p e below P T' (mkF m n Ls (v :: rest))) : Wout p e below P T (mkF m pc Ls (.ref a :: rest)) := by
  subst hp
  obtain ⟨T', X', e', st⟩ := getF X hx hZ hown w via eT F (g := mkF m pc Ls (.ref a :: rest)) rfl rfl hd
  exact Wout.of st (hr T' X' e')
theorem o_getS (X : Stand p l e R s m args below meth c T locs cells slots) (hx : p.tables.exec = Jvm.exec) (hZ : Z.Warmed39 s.vm) {own R0 O nm d host : String} {index : Nat} (hown : s.vm.findClass own = some m.cls) (w : (Jvm.Cond.fieldLink own index R0 nm d).before a0 Z = true ∨ (Jvm.Cond.fieldLinkNest own index R0 nm d host).before a0 Z = true) (via : Via Z R0 O nm d) (eT : T.heap = h) {v : Value} (F : Sta Z h O nm d v) (n : Nat) (hd : decode c.code pc = .ok (.getstatic index, 3)) (hp : pc + 3 = n)
    (hr : ∀ T', Stand p l e R s m args below meth c T' locs cells slots → T'.heap = h → Wout p e below P T' (mkF m n Ls (v :: rest))) : Wout p e below P T (mkF m pc Ls rest) := by
  subst hp
  obtain ⟨T', X', e', st⟩ := getS2 X hx hZ hown w via eT F (g := mkF m pc Ls rest) rfl hd
  exact Wout.of st (hr T' X' e')
theorem o_putF (X : Stand p l e R s m args below meth c T locs cells slots) (hx : p.tables.exec = Jvm.exec) (hZ : Z.Warmed39 s.vm) {own R0 O nm d host C : String} {index kk : Nat} (ty : FieldType) (hown : s.vm.findClass own = some m.cls) (w : (Jvm.Cond.fieldLink own index R0 nm d).before a0 Z = true ∨ (Jvm.Cond.fieldLinkNest own index R0 nm d host).before a0 Z = true) (via : Via Z R0 O nm d) (eT : T.heap = h) {a : Addr} {v old : Value} (F : Fld Z h a O nm d old) (E : Exa Z h a C)
    (L : (Jvm.Cond.lays C O nm d).before a0 Z = true ∨ ((Jvm.Cond.laysFinal C O nm d).before a0 Z = true ∧ own = O ∧ meth.name = "<init>")) (wi : (Jvm.Cond.instantiable C kk).before a0 Z = true) (hty : parseFieldDescriptor d = some ty) (hn : Jvm.narrow ty v = v) (hf : fits ty v = true) {n0 : Nat} (N : Fr n0 locs) (g : n0 ≤ a) (n : Nat) (hd : decode c.code pc = .ok (.putfield index, 3)) (hp : pc + 3 = n)
    (hr : ∀ T' h' locs', Stand p l e R s m args below meth c T' locs' cells slots → T'.heap = h' → Wr h h' a (RoadKit.slotOf Z O nm d) v → Fr n0 locs' → Wout p e below P T' (mkF m n Ls rest)) : Wout p e below P T (mkF m pc Ls (v :: .ref a :: rest)) := by
  subst hp
  obtain ⟨T', h', X', e', W, st⟩ := putF X hx hZ hown w via eT F E L wi hty hn hf (g := mkF m pc Ls (v :: .ref a :: rest)) rfl rfl hd
  exact Wout.of st (hr T' h' _ X' e' W (Fr.snoc X' N g))
theorem o_putFN (X : Stand p l e R s m args below meth c T locs cells slots) (hx : p.tables.exec = Jvm.exec) (hZ : Z.Warmed39 s.vm) {own R0 O nm d C : String} {index kk : Nat} (ty : FieldType) (hown : s.vm.findClass own = some m.cls) (w : (Jvm.Cond.fieldLink own index R0 nm d).before a0 Z = true) (via : Via Z R0 O nm d) (eT : T.heap = h) {a : Addr} {v v' old : Value} (F : Fld Z h a O nm d old) (E : Exa Z h a C)
    (L : (Jvm.Cond.lays C O nm d).before a0 Z = true ∨ ((Jvm.Cond.laysFinal C O nm d).before a0 Z = true ∧ own = O ∧ meth.name = "<init>")) (wi : (Jvm.Cond.instantiable C kk).before a0 Z = true) (hty : parseFieldDescriptor d = some ty) (hn : Jvm.narrow ty v = v') (hf : fits ty v' = true) {n0 : Nat} (N : Fr n0 locs) (g : n0 ≤ a) (n : Nat) (hd : decode c.code pc = .ok (.putfield index, 3)) (hp : pc + 3 = n)
    (hr : ∀ T' h' locs', Stand p l e R s m args below meth c T' locs' cells slots → T'.heap = h' → Wr h h' a (RoadKit.slotOf Z O nm d) v' → Fr n0 locs' → Wout p e below P T' (mkF m n Ls rest)) : Wout p e below P T (mkF m pc Ls (v :: .ref a :: rest)) := by
  subst hp
  obtain ⟨T', h', X', e', W, st⟩ := putFN X hx hZ hown w via eT F E L wi hty hn hf (g := mkF m pc Ls (v :: .ref a :: rest)) rfl rfl hd
  exact Wout.of st (hr T' h' _ X' e' W (Fr.snoc X' N g))
/-! objects and arrays that are made -/
theorem o_new (X : Stand p l e R s m args below meth c T locs cells slots) (hx : p.tables.exec = Jvm.exec) (hZ : Z.Warmed39 s.vm) {own C : String} {index k : Nat} (hown : s.vm.findClass own = some m.cls) (w : (Jvm.Cond.classLink own index C).before a0 Z = true) (wi : (Jvm.Cond.instantiable C k).before a0 Z = true) (wz : (Jvm.Cond.initialized C).before a0 Z = true) (eT : T.heap = h) (n : Nat) (hd : decode c.code pc = .ok (.new index, 3)) (hp : pc + 3 = n) (hc : cells + 1 ≤ R.cells) (hl : slots + k ≤ R.slots)
    (hr : ∀ T' h' (b : Addr), b = h.size → Stand p l e R s m args below meth c T' locs (cells + 1) (slots + k) → T'.heap = h' → Ext h h' → Exa Z h' b C → (∀ {O nm d : String} {ty : FieldType}, Laid Z a0 C O nm d → parseFieldDescriptor d = some ty → Fld Z h' b O nm d (defaultValue ty)) → Wout p e below P T' (mkF m n Ls (.ref b :: rest))) : Wout p e below P T (mkF m pc Ls rest) := by
  subst hp
  obtain ⟨T', h', X', e', E, A, D, -, st⟩ := newO X hx hZ hown w wi wz eT (g := mkF m pc Ls rest) rfl hd hc hl
  exact Wout.of st (hr T' h' _ rfl X' e' E A D)
theorem o_newarray (X : Stand p l e R s m args below meth c T locs cells slots) (hx : p.tables.exec = Jvm.exec) (hZ : Z.Warmed39 s.vm) {aty : ArrayType} (w : (Jvm.Cond.arrayClass (newarray.typeOf aty)).before a0 Z = true) (eT : T.heap = h) (n : Nat) (hd : decode c.code pc = .ok (.newarray aty, 2)) (hp : pc + 2 = n) {z : Int32} (hz : ¬ z < 0) (cap : Nat) (hcap : z.toNatClampNeg ≤ cap) (hbb : cap * 8 ≤ 536870912) (hc : cells + 1 ≤ R.cells) (hl : slots + cap ≤ R.slots)
    (hr : ∀ T' h' (b : Addr) (k : ClassId), b = h.size → Stand p l e R s m args below meth c T' locs (cells + 1) (slots + cap) → T'.heap = h' → Ext h h' → Arv Z h' b k (newarray.typeOf aty) z [] (defaultValue (newarray.typeOf aty)) → Wout p e below P T' (mkF m n Ls (.ref b :: rest))) : Wout p e below P T (mkF m pc Ls (.int z :: rest)) := by
  subst hp
  obtain ⟨T', h', cA, X', e', E, A, st⟩ := newP X hx hZ w eT (g := mkF m pc Ls (.int z :: rest)) rfl hd rfl hz hcap hbb hc hl
  exact Wout.of st (hr T' h' _ cA rfl X' e' E (Arv.new A hz))
theorem o_anewarray (X : Stand p l e R s m args below meth c T locs cells slots) (hx : p.tables.exec = Jvm.exec) (hZ : Z.Warmed39 s.vm) {own C : String} {index : Nat} (hown : s.vm.findClass own = some m.cls) (w1 : (Jvm.Cond.classLink own index C).before a0 Z = true) (w2 : (Jvm.Cond.arrayOver (.object C)).before a0 Z = true) (eT : T.heap = h) (n : Nat) (hd : decode c.code pc = .ok (.anewarray index, 3)) (hp : pc + 3 = n) {z : Int32} (hz : ¬ z < 0) (cap : Nat) (hcap : z.toNatClampNeg ≤ cap) (hbb : cap * 8 ≤ 536870912) (hc : cells + 1 ≤ R.cells) (hl : slots + cap ≤ R.slots)
    (hr : ∀ T' h' (b : Addr) (k : ClassId), b = h.size → Stand p l e R s m args below meth c T' locs (cells + 1) (slots + cap) → T'.heap = h' → Ext h h' → Arv Z h' b k (.object C) z [] .null → Ovr Z k C → Wout p e below P T' (mkF m n Ls (.ref b :: rest))) : Wout p e below P T (mkF m pc Ls (.int z :: rest)) := by
  subst hp
  obtain ⟨T', h', cA, X', e', E, A, O, st⟩ := newR X hx hZ hown w1 w2 eT (g := mkF m pc Ls (.int z :: rest)) rfl hd rfl hz hcap hbb hc hl
  exact Wout.of st (hr T' h' _ cA rfl X' e' E (Arv.new A hz) O)
theorem o_arraylength (X : Stand p l e R s m args below meth c T locs cells slots) (hx : p.tables.exec = Jvm.exec) (hZ : Z.Warmed39 s.vm) (eT : T.heap = h) {a : Addr} {k : ClassId} {ty : FieldType} {z : Int32} {vs : List Value} {dv : Value} (V : Arv Z h a k ty z vs dv) (n : Nat) (hd : decode c.code pc = .ok (.arraylength, 1)) (hp : pc + 1 = n) (hr : Wout p e below P T (mkF m n Ls (.int z :: rest))) : Wout p e below P T (mkF m pc Ls (.ref a :: rest)) := by
  subst hp
  obtain ⟨cl, A, -, S, M, -, -⟩ := V
  rw [← len_of S M] at hr
  exact Wout.of (fun _ ht => X.arraylength hx (cell := cl) (by rw [eT]; exact A.1) (State.isArrayOf_alike hZ.alike A.2.1) (g := mkF m pc Ls (.ref a :: rest)) rfl rfl hd _ ht) hr

theorem o_iaload (X : Stand p l e R s m args below meth c T locs cells slots) (hx : p.tables.exec = Jvm.exec) (hZ : Z.Warmed39 s.vm) (eT : T.heap = h) {a : Addr} {k : ClassId} {z : Int32} {vs : List Value} {dv : Value} (V : Arv Z h a k .int z vs dv) {j : Int32} (hj : ¬ j < 0 ∧ j < z) {v : Value} (hv : vs.getD j.toNatClampNeg dv = v) (n : Nat) (hd : decode c.code pc = .ok (.iaload, 1)) (hp : pc + 1 = n) (hr : Wout p e below P T (mkF m n Ls (v :: rest))) : Wout p e below P T (mkF m pc Ls (.int j :: .ref a :: rest)) := by
  subst hp
  obtain ⟨cl, A, -, S, M, H, -⟩ := V
  exact Wout.of (fun _ ht => X.iaload hx (j := j) (v := v) (by rw [eT]; exact A.1) (State.isArrayOf_alike hZ.alike A.2.1) A.2.2 (inb_of S hj) (H.at (inb_of S hj) hv) (g := mkF m pc Ls (.int j :: .ref a :: rest)) rfl rfl hd _ ht) hr
theorem o_laload (X : Stand p l e R s m args below meth c T locs cells slots) (hx : p.tables.exec = Jvm.exec) (hZ : Z.Warmed39 s.vm) (eT : T.heap = h) {a : Addr} {k : ClassId} {z : Int32} {vs : List Value} {dv : Value} (V : Arv Z h a k .long z vs dv) {j : Int32} (hj : ¬ j < 0 ∧ j < z) {v : Value} (hv : vs.getD j.toNatClampNeg dv = v) (n : Nat) (hd : decode c.code pc = .ok (.laload, 1)) (hp : pc + 1 = n) (hr : Wout p e below P T (mkF m n Ls (v :: rest))) : Wout p e below P T (mkF m pc Ls (.int j :: .ref a :: rest)) := by
  subst hp
  obtain ⟨cl, A, -, S, M, H, -⟩ := V
  exact Wout.of (fun _ ht => X.laload hx (j := j) (v := v) (by rw [eT]; exact A.1) (State.isArrayOf_alike hZ.alike A.2.1) A.2.2 (inb_of S hj) (H.at (inb_of S hj) hv) (g := mkF m pc Ls (.int j :: .ref a :: rest)) rfl rfl hd _ ht) hr
theorem o_caload (X : Stand p l e R s m args below meth c T locs cells slots) (hx : p.tables.exec = Jvm.exec) (hZ : Z.Warmed39 s.vm) (eT : T.heap = h) {a : Addr} {k : ClassId} {z : Int32} {vs : List Value} {dv : Value} (V : Arv Z h a k .char z vs dv) {j : Int32} (hj : ¬ j < 0 ∧ j < z) {v : Value} (hv : vs.getD j.toNatClampNeg dv = v) (n : Nat) (hd : decode c.code pc = .ok (.caload, 1)) (hp : pc + 1 = n) (hr : Wout p e below P T (mkF m n Ls (v :: rest))) : Wout p e below P T (mkF m pc Ls (.int j :: .ref a :: rest)) := by
  subst hp
  obtain ⟨cl, A, -, S, M, H, -⟩ := V
  exact Wout.of (fun _ ht => X.caload hx (j := j) (v := v) (by rw [eT]; exact A.1) (State.isArrayOf_alike hZ.alike A.2.1) A.2.2 (inb_of S hj) (H.at (inb_of S hj) hv) (g := mkF m pc Ls (.int j :: .ref a :: rest)) rfl rfl hd _ ht) hr
theorem o_saload (X : Stand p l e R s m args below meth c T locs cells slots) (hx : p.tables.exec = Jvm.exec) (hZ : Z.Warmed39 s.vm) (eT : T.heap = h) {a : Addr} {k : ClassId} {z : Int32} {vs : List Value} {dv : Value} (V : Arv Z h a k .short z vs dv) {j : Int32} (hj : ¬ j < 0 ∧ j < z) {v : Value} (hv : vs.getD j.toNatClampNeg dv = v) (n : Nat) (hd : decode c.code pc = .ok (.saload, 1)) (hp : pc + 1 = n) (hr : Wout p e below P T (mkF m n Ls (v :: rest))) : Wout p e below P T (mkF m pc Ls (.int j :: .ref a :: rest)) := by
  subst hp
  obtain ⟨cl, A, -, S, M, H, -⟩ := V
  exact Wout.of (fun _ ht => X.saload hx (j := j) (v := v) (by rw [eT]; exact A.1) (State.isArrayOf_alike hZ.alike A.2.1) A.2.2 (inb_of S hj) (H.at (inb_of S hj) hv) (g := mkF m pc Ls (.int j :: .ref a :: rest)) rfl rfl hd _ ht) hr
theorem o_baload (X : Stand p l e R s m args below meth c T locs cells slots) (hx : p.tables.exec = Jvm.exec) (hZ : Z.Warmed39 s.vm) (eT : T.heap = h) {a : Addr} {k : ClassId} {z : Int32} {vs : List Value} {dv : Value} (V : Arv Z h a k .byte z vs dv) {j : Int32} (hj : ¬ j < 0 ∧ j < z) {v : Value} (hv : vs.getD j.toNatClampNeg dv = v) (n : Nat) (hd : decode c.code pc = .ok (.baload, 1)) (hp : pc + 1 = n) (hr : Wout p e below P T (mkF m n Ls (v :: rest))) : Wout p e below P T (mkF m pc Ls (.int j :: .ref a :: rest)) := by
  subst hp
  obtain ⟨cl, A, -, S, M, H, -⟩ := V
  exact Wout.of (fun _ ht => X.baloadBytes hx (j := j) (v := v) (by rw [eT]; exact A.1) (State.isArrayOf_alike hZ.alike A.2.1) A.2.2 (inb_of S hj) (H.at (inb_of S hj) hv) (g := mkF m pc Ls (.int j :: .ref a :: rest)) rfl rfl hd _ ht) hr
theorem o_baloadZ (X : Stand p l e R s m args below meth c T locs cells slots) (hx : p.tables.exec = Jvm.exec) (hZ : Z.Warmed39 s.vm) (eT : T.heap = h) {a : Addr} {k : ClassId} {z : Int32} {vs : List Value} {dv : Value} (V : Arv Z h a k .boolean z vs dv) {j : Int32} (hj : ¬ j < 0 ∧ j < z) {v : Value} (hv : vs.getD j.toNatClampNeg dv = v) (n : Nat) (hd : decode c.code pc = .ok (.baload, 1)) (hp : pc + 1 = n) (hr : Wout p e below P T (mkF m n Ls (v :: rest))) : Wout p e below P T (mkF m pc Ls (.int j :: .ref a :: rest)) := by
  subst hp
  obtain ⟨cl, A, -, S, M, H, -⟩ := V
  exact Wout.of (fun _ ht => X.baloadBooleans hx (j := j) (v := v) (by rw [eT]; exact A.1) (State.isArrayOf_alike hZ.alike A.2.1) A.2.2 (inb_of S hj) (H.at (inb_of S hj) hv) (g := mkF m pc Ls (.int j :: .ref a :: rest)) rfl rfl hd _ ht) hr
theorem o_aaload (X : Stand p l e R s m args below meth c T locs cells slots) (hx : p.tables.exec = Jvm.exec) (hZ : Z.Warmed39 s.vm) (eT : T.heap = h) {a : Addr} {k : ClassId} {ty : FieldType} {z : Int32} {vs : List Value} {dv : Value} (V : Arv Z h a k ty z vs dv) (hty : ty.isReference = true) {j : Int32} (hj : ¬ j < 0 ∧ j < z) {v : Value} (hv : vs.getD j.toNatClampNeg dv = v) (n : Nat) (hd : decode c.code pc = .ok (.aaload, 1)) (hp : pc + 1 = n) (hr : Wout p e below P T (mkF m n Ls (v :: rest))) : Wout p e below P T (mkF m pc Ls (.int j :: .ref a :: rest)) := by
  subst hp
  obtain ⟨cl, A, -, S, M, H, -⟩ := V
  exact Wout.of (fun _ ht => X.aaload hx (j := j) (v := v) (by rw [eT]; exact A.1) (State.isArrayOf_alike hZ.alike A.2.1) hty A.2.2 (inb_of S hj) (H.at (inb_of S hj) hv) (g := mkF m pc Ls (.int j :: .ref a :: rest)) rfl rfl hd _ ht) hr
theorem o_iastore (X : Stand p l e R s m args below meth c T locs cells slots) (hx : p.tables.exec = Jvm.exec) (hZ : Z.Warmed39 s.vm) (eT : T.heap = h) {a : Addr} {k : ClassId} {z : Int32} {vs : List Value} {dv : Value} (V : Arv Z h a k .int z vs dv) {j : Int32} {x : Int32} (hj : ¬ j < 0 ∧ j < z) (i : Nat) (hi : j.toNatClampNeg = i) (hil : i < vs.length) {vs' : List Value} (hvs : vs.set i (.int x) = vs') {n0 : Nat} (N : Fr n0 locs) (g : n0 ≤ a) (n : Nat) (hd : decode c.code pc = .ok (.iastore, 1)) (hp : pc + 1 = n)
    (hr : ∀ T' h' locs', Stand p l e R s m args below meth c T' locs' cells slots → T'.heap = h' → Wr h h' a i (.int x) → Arv Z h' a k .int z vs' dv → Fr n0 locs' → Wout p e below P T' (mkF m n Ls rest)) : Wout p e below P T (mkF m pc Ls (.int x :: .int j :: .ref a :: rest)) := by
  subst hp hvs
  obtain ⟨cl, A, q1, S, M, H, G⟩ := V
  obtain ⟨T', h', X', e', W, st⟩ := stI X hx hZ eT A (j := j) (x := x) (inb_of S hj) (g := mkF m pc Ls (.int x :: .int j :: .ref a :: rest)) rfl rfl hd
  exact Wout.of st (hr T' h' _ X' e' (hi ▸ W) (Arv.set A q1 S M H G (rfl) W i hi hil) (Fr.snoc X' N g))
theorem o_lastore (X : Stand p l e R s m args below meth c T locs cells slots) (hx : p.tables.exec = Jvm.exec) (hZ : Z.Warmed39 s.vm) (eT : T.heap = h) {a : Addr} {k : ClassId} {z : Int32} {vs : List Value} {dv : Value} (V : Arv Z h a k .long z vs dv) {j : Int32} {x : Int64} (hj : ¬ j < 0 ∧ j < z) (i : Nat) (hi : j.toNatClampNeg = i) (hil : i < vs.length) {vs' : List Value} (hvs : vs.set i (.long x) = vs') {n0 : Nat} (N : Fr n0 locs) (g : n0 ≤ a) (n : Nat) (hd : decode c.code pc = .ok (.lastore, 1)) (hp : pc + 1 = n)
    (hr : ∀ T' h' locs', Stand p l e R s m args below meth c T' locs' cells slots → T'.heap = h' → Wr h h' a i (.long x) → Arv Z h' a k .long z vs' dv → Fr n0 locs' → Wout p e below P T' (mkF m n Ls rest)) : Wout p e below P T (mkF m pc Ls (.long x :: .int j :: .ref a :: rest)) := by
  subst hp hvs
  obtain ⟨cl, A, q1, S, M, H, G⟩ := V
  obtain ⟨T', h', X', e', W, st⟩ := stJ X hx hZ eT A (j := j) (x := x) (inb_of S hj) (g := mkF m pc Ls (.long x :: .int j :: .ref a :: rest)) rfl rfl hd
  exact Wout.of st (hr T' h' _ X' e' (hi ▸ W) (Arv.set A q1 S M H G (rfl) W i hi hil) (Fr.snoc X' N g))
theorem o_castore (X : Stand p l e R s m args below meth c T locs cells slots) (hx : p.tables.exec = Jvm.exec) (hZ : Z.Warmed39 s.vm) (eT : T.heap = h) {a : Addr} {k : ClassId} {z : Int32} {vs : List Value} {dv : Value} (V : Arv Z h a k .char z vs dv) {j : Int32} {x : Int32} (hj : ¬ j < 0 ∧ j < z) (i : Nat) (hi : j.toNatClampNeg = i) (hil : i < vs.length) {vs' : List Value} (hvs : vs.set i (.int (nar .char x)) = vs') {n0 : Nat} (N : Fr n0 locs) (g : n0 ≤ a) (n : Nat) (hd : decode c.code pc = .ok (.castore, 1)) (hp : pc + 1 = n)
    (hr : ∀ T' h' locs', Stand p l e R s m args below meth c T' locs' cells slots → T'.heap = h' → Wr h h' a i (.int (nar .char x)) → Arv Z h' a k .char z vs' dv → Fr n0 locs' → Wout p e below P T' (mkF m n Ls rest)) : Wout p e below P T (mkF m pc Ls (.int x :: .int j :: .ref a :: rest)) := by
  subst hp hvs
  obtain ⟨cl, A, q1, S, M, H, G⟩ := V
  obtain ⟨T', h', X', e', W, st⟩ := stC X hx hZ eT A (j := j) (x := x) (inb_of S hj) (g := mkF m pc Ls (.int x :: .int j :: .ref a :: rest)) rfl rfl hd
  exact Wout.of st (hr T' h' _ X' e' (hi ▸ W) (Arv.set A q1 S M H G (fits_nar_char x) W i hi hil) (Fr.snoc X' N g))
theorem o_sastore (X : Stand p l e R s m args below meth c T locs cells slots) (hx : p.tables.exec = Jvm.exec) (hZ : Z.Warmed39 s.vm) (eT : T.heap = h) {a : Addr} {k : ClassId} {z : Int32} {vs : List Value} {dv : Value} (V : Arv Z h a k .short z vs dv) {j : Int32} {x : Int32} (hj : ¬ j < 0 ∧ j < z) (i : Nat) (hi : j.toNatClampNeg = i) (hil : i < vs.length) {vs' : List Value} (hvs : vs.set i (.int (nar .short x)) = vs') {n0 : Nat} (N : Fr n0 locs) (g : n0 ≤ a) (n : Nat) (hd : decode c.code pc = .ok (.sastore, 1)) (hp : pc + 1 = n)
    (hr : ∀ T' h' locs', Stand p l e R s m args below meth c T' locs' cells slots → T'.heap = h' → Wr h h' a i (.int (nar .short x)) → Arv Z h' a k .short z vs' dv → Fr n0 locs' → Wout p e below P T' (mkF m n Ls rest)) : Wout p e below P T (mkF m pc Ls (.int x :: .int j :: .ref a :: rest)) := by
  subst hp hvs
  obtain ⟨cl, A, q1, S, M, H, G⟩ := V
  obtain ⟨T', h', X', e', W, st⟩ := stS X hx hZ eT A (j := j) (x := x) (inb_of S hj) (g := mkF m pc Ls (.int x :: .int j :: .ref a :: rest)) rfl rfl hd
  exact Wout.of st (hr T' h' _ X' e' (hi ▸ W) (Arv.set A q1 S M H G (fits_nar_short x) W i hi hil) (Fr.snoc X' N g))
theorem o_bastore (X : Stand p l e R s m args below meth c T locs cells slots) (hx : p.tables.exec = Jvm.exec) (hZ : Z.Warmed39 s.vm) (eT : T.heap = h) {a : Addr} {k : ClassId} {z : Int32} {vs : List Value} {dv : Value} (V : Arv Z h a k .byte z vs dv) {j : Int32} {x : Int32} (hj : ¬ j < 0 ∧ j < z) (i : Nat) (hi : j.toNatClampNeg = i) (hil : i < vs.length) {vs' : List Value} (hvs : vs.set i (.int (nar .byte x)) = vs') {n0 : Nat} (N : Fr n0 locs) (g : n0 ≤ a) (n : Nat) (hd : decode c.code pc = .ok (.bastore, 1)) (hp : pc + 1 = n)
    (hr : ∀ T' h' locs', Stand p l e R s m args below meth c T' locs' cells slots → T'.heap = h' → Wr h h' a i (.int (nar .byte x)) → Arv Z h' a k .byte z vs' dv → Fr n0 locs' → Wout p e below P T' (mkF m n Ls rest)) : Wout p e below P T (mkF m pc Ls (.int x :: .int j :: .ref a :: rest)) := by
  subst hp hvs
  obtain ⟨cl, A, q1, S, M, H, G⟩ := V
  obtain ⟨T', h', X', e', W, st⟩ := stB X hx hZ eT A (j := j) (x := x) (inb_of S hj) (g := mkF m pc Ls (.int x :: .int j :: .ref a :: rest)) rfl rfl hd
  exact Wout.of st (hr T' h' _ X' e' (hi ▸ W) (Arv.set A q1 S M H G (fits_nar_byte x) W i hi hil) (Fr.snoc X' N g))
theorem o_bastoreZ (X : Stand p l e R s m args below meth c T locs cells slots) (hx : p.tables.exec = Jvm.exec) (hZ : Z.Warmed39 s.vm) (eT : T.heap = h) {a : Addr} {k : ClassId} {z : Int32} {vs : List Value} {dv : Value} (V : Arv Z h a k .boolean z vs dv) {j : Int32} {x : Int32} (hj : ¬ j < 0 ∧ j < z) (i : Nat) (hi : j.toNatClampNeg = i) (hil : i < vs.length) {vs' : List Value} (hvs : vs.set i (.int (nar .boolean x)) = vs') {n0 : Nat} (N : Fr n0 locs) (g : n0 ≤ a) (n : Nat) (hd : decode c.code pc = .ok (.bastore, 1)) (hp : pc + 1 = n)
    (hr : ∀ T' h' locs', Stand p l e R s m args below meth c T' locs' cells slots → T'.heap = h' → Wr h h' a i (.int (nar .boolean x)) → Arv Z h' a k .boolean z vs' dv → Fr n0 locs' → Wout p e below P T' (mkF m n Ls rest)) : Wout p e below P T (mkF m pc Ls (.int x :: .int j :: .ref a :: rest)) := by
  subst hp hvs
  obtain ⟨cl, A, q1, S, M, H, G⟩ := V
  obtain ⟨T', h', X', e', W, st⟩ := stZ X hx hZ eT A (j := j) (x := x) (inb_of S hj) (g := mkF m pc Ls (.int x :: .int j :: .ref a :: rest)) rfl rfl hd
  exact Wout.of st (hr T' h' _ X' e' (hi ▸ W) (Arv.set A q1 S M H G (fits_nar_bool x) W i hi hil) (Fr.snoc X' N g))
theorem o_daload (X : Stand p l e R s m args below meth c T locs cells slots) (hx : p.tables.exec = Jvm.exec) (hZ : Z.Warmed39 s.vm) (eT : T.heap = h) {a : Addr} {k : ClassId} {z : Int32} {vs : List Value} {dv : Value} (V : Arv Z h a k .double z vs dv) {j : Int32} (hj : ¬ j < 0 ∧ j < z) {v : Value} (hv : vs.getD j.toNatClampNeg dv = v) (n : Nat) (hd : decode c.code pc = .ok (.daload, 1)) (hp : pc + 1 = n) (hr : Wout p e below P T (mkF m n Ls (v :: rest))) : Wout p e below P T (mkF m pc Ls (.int j :: .ref a :: rest)) := by
  subst hp
  obtain ⟨cl, A, -, S, M, H, -⟩ := V
  exact Wout.of (fun _ ht => X.daload hx (j := j) (v := v) (by rw [eT]; exact A.1) (State.isArrayOf_alike hZ.alike A.2.1) A.2.2 (inb_of S hj) (H.at (inb_of S hj) hv) (g := mkF m pc Ls (.int j :: .ref a :: rest)) rfl rfl hd _ ht) hr
theorem o_dastore (X : Stand p l e R s m args below meth c T locs cells slots) (hx : p.tables.exec = Jvm.exec) (hZ : Z.Warmed39 s.vm) (eT : T.heap = h) {a : Addr} {k : ClassId} {z : Int32} {vs : List Value} {dv : Value} (V : Arv Z h a k .double z vs dv) {j : Int32} {x : UInt64} (hj : ¬ j < 0 ∧ j < z) (i : Nat) (hi : j.toNatClampNeg = i) (hil : i < vs.length) {vs' : List Value} (hvs : vs.set i (.double x) = vs') {n0 : Nat} (N : Fr n0 locs) (g : n0 ≤ a) (n : Nat) (hd : decode c.code pc = .ok (.dastore, 1)) (hp : pc + 1 = n)
    (hr : ∀ T' h' locs', Stand p l e R s m args below meth c T' locs' cells slots → T'.heap = h' → Wr h h' a i (.double x) → Arv Z h' a k .double z vs' dv → Fr n0 locs' → Wout p e below P T' (mkF m n Ls rest)) : Wout p e below P T (mkF m pc Ls (.double x :: .int j :: .ref a :: rest)) := by
  subst hp hvs
  obtain ⟨cl, A, q1, S, M, H, G⟩ := V
  obtain ⟨T', h', X', e', W, st⟩ := stD X hx hZ eT A (j := j) (x := x) (inb_of S hj) (g := mkF m pc Ls (.double x :: .int j :: .ref a :: rest)) rfl rfl hd
  exact Wout.of st (hr T' h' _ X' e' (hi ▸ W) (Arv.set A q1 S M H G (rfl) W i hi hil) (Fr.snoc X' N g))
theorem o_aastore (X : Stand p l e R s m args below meth c T locs cells slots) (hx : p.tables.exec = Jvm.exec) (hZ : Z.Warmed39 s.vm) (eT : T.heap = h) {a : Addr} {k : ClassId} {ty : FieldType} {z : Int32} {vs : List Value} {dv : Value} (V : Arv Z h a k ty z vs dv) (hty : ty.isReference = true) {j : Int32} {v : Value} (hj : ¬ j < 0 ∧ j < z) (i : Nat) (hi : j.toNatClampNeg = i) (hil : i < vs.length) {vs' : List Value} (hvs : vs.set i v = vs') (hfit : fits ty v = true) (Fs : Sto Z h a v) {n0 : Nat} (N : Fr n0 locs) (g : n0 ≤ a) (n : Nat) (hd : decode c.code pc = .ok (.aastore, 1)) (hp : pc + 1 = n)
    (hr : ∀ T' h' locs', Stand p l e R s m args below meth c T' locs' cells slots → T'.heap = h' → Wr h h' a i v → Arv Z h' a k ty z vs' dv → Fr n0 locs' → Wout p e below P T' (mkF m n Ls rest)) : Wout p e below P T (mkF m pc Ls (v :: .int j :: .ref a :: rest)) := by
  subst hp hvs
  obtain ⟨cl, A, q1, S, M, H, G⟩ := V
  obtain ⟨T', h', X', e', W, st⟩ := stR X hx hZ eT A (j := j) (v := v) (inb_of S hj) hty Fs (g := mkF m pc Ls (v :: .int j :: .ref a :: rest)) rfl rfl hd
  exact Wout.of st (hr T' h' _ X' e' (hi ▸ W) (Arv.set A q1 S M H G hfit W i hi hil) (Fr.snoc X' N g))
theorem Sto.arv {a y : Addr} {k : ClassId} {ty : FieldType} {z : Int32} {vs : List Value} {dv : Value} {C : String} (V : Arv Z h a k ty z vs dv) (O : Ovr Z k C) (I : Ins Z h y C true) : Sto Z h a (.ref y) := by
  obtain ⟨cl, A, q1, -⟩ := V
  exact Sto.ofV A q1 O I
theorem o_checkcast (X : Stand p l e R s m args below meth c T locs cells slots) (hx : p.tables.exec = Jvm.exec) (hZ : Z.Warmed39 s.vm) {own K : String} {index : Nat} (hown : s.vm.findClass own = some m.cls) (w : (Jvm.Cond.classLink own index K).before a0 Z = true) (eT : T.heap = h) {a : Addr} (F : Ins Z h a K true) (n : Nat) (hd : decode c.code pc = .ok (.checkcast index, 3)) (hp : pc + 3 = n)
    (hr : ∀ T', Stand p l e R s m args below meth c T' locs cells slots → T'.heap = h → Wout p e below P T' (mkF m n Ls (.ref a :: rest))) : Wout p e below P T (mkF m pc Ls (.ref a :: rest)) := by
  subst hp
  obtain ⟨T', X', e', st⟩ := castY X hx hZ hown w eT F (g := mkF m pc Ls (.ref a :: rest)) rfl rfl hd
  exact Wout.of st (hr T' X' e')
theorem o_instanceof (X : Stand p l e R s m args below meth c T locs cells slots) (hx : p.tables.exec = Jvm.exec) (hZ : Z.Warmed39 s.vm) {own K : String} {index : Nat} (hown : s.vm.findClass own = some m.cls) (w : (Jvm.Cond.classLink own index K).before a0 Z = true) (eT : T.heap = h) {a : Addr} (F : Ins Z h a K true) (n : Nat) (hd : decode c.code pc = .ok (.instanceof index, 3)) (hp : pc + 3 = n)
    (hr : ∀ T', Stand p l e R s m args below meth c T' locs cells slots → T'.heap = h → Wout p e below P T' (mkF m n Ls (.int 1 :: rest))) : Wout p e below P T (mkF m pc Ls (.ref a :: rest)) := by
  subst hp
  obtain ⟨T', X', e', st⟩ := instY X hx hZ hown w eT F (g := mkF m pc Ls (.ref a :: rest)) rfl rfl hd
  exact Wout.of st (hr T' X' e')
/-! calls -/
theorem o_initO (X : Stand p l e R s m args below meth c T locs cells slots) (hx : p.tables.exec = Jvm.exec) (hZ : Z.Warmed39 s.vm) {own : String} {idx : Nat} (hown : s.vm.findClass own = some m.cls) (w1 : (Jvm.Cond.methodLink own idx Lib.objectInit).before a0 Z = true) (w2 : (Jvm.Cond.instanceMethod Lib.objectInit).before a0 Z = true) (w3 : (Jvm.Cond.code Lib.objectInit ⟨#[0xb1]⟩ 1 none).before a0 Z = true) (eT : T.heap = h) (hsz : Ls.size = c.maxLocals) {a : Addr} (hf : 1 ≤ R.frames) (W : Nat) (hW : (rest.map fun v => v.category).sum ≤ W) (hl : W + 12 ≤ R.locals) (n : Nat) (hd : decode c.code pc = .ok (.invokespecial idx, 3)) (hp : pc + 3 = n)
    (hr : ∀ T', Stand p l e R s m args below meth c T' locs cells slots → T'.heap = h → Wout p e below P T' (mkF m n Ls rest)) : Wout p e below P T (mkF m pc Ls (.ref a :: rest)) := by
  subst hp
  obtain ⟨T', X', e', st⟩ := initO X hx hZ hown w1 w2 w3 eT (g := mkF m pc Ls (.ref a :: rest)) rfl hsz rfl hd hf (W := W) (by simpa using hW) hl
  exact Wout.of st (hr T' X' e')
theorem o_callS (X : Stand p l e R s m args below meth c T locs cells slots) (hx : p.tables.exec = Jvm.exec) (hZ : Z.Warmed39 s.vm) {own : String} {index : Nat} {y : MethodName} {bytes : ByteArray} {maxL : Nat} {ret : Option FieldType} (hown : s.vm.findClass own = some m.cls) (w1 : (Jvm.Cond.methodLink own index y).before a0 Z = true) (w2 : (Jvm.Cond.static y).before a0 Z = true) (w3 : (Jvm.Cond.initialized y.cls).before a0 Z = true) (w4 : (Jvm.Cond.code y bytes maxL ret).before a0 Z = true)
    (hy : y.cls ≠ "java/lang/invoke/MethodHandle" ∧ y.cls ≠ "java/lang/invoke/VarHandle") {rm : Room} {as' : Array Value} {Q : Option Value → Heap → List Loc → Prop} (hM : Met l Z y bytes maxL ret [] rm as' h Q) (eT : T.heap = h) (hf : rm.frames + 1 ≤ R.frames) (W : Nat) (hl : W + (maxL + 11) + rm.locals ≤ R.locals) (hsz : Ls.size = c.maxLocals) (argsL : List Value) {st : List Value} (hlen : ∀ sig, parseMethodDescriptor y.desc = some sig → argsL.length = sig.parameters.length) (hst : st = argsL.reverse ++ rest) (has : argsL.toArray = as')
    (hW : (rest.map fun v => v.category).sum ≤ W) (hc : cells + rm.cells ≤ R.cells) (hs : slots + rm.slots ≤ R.slots) (n : Nat) (hd : decode c.code pc = .ok (.invokestatic index, 3)) (hp : pc + 3 = n)
    (hr : ∀ v T' h' L, Stand p l e R s m args below meth c T' (locs ++ L) (cells + rm.cells) (slots + rm.slots) → T'.heap = h' → Q v h' L → Wout p e below P T' (mkF m n Ls (v.toList ++ rest))) : Wout p e below P T (mkF m pc Ls st) := by
  subst hp has hst
  obtain ⟨v, vm₁, ⟨T', L', k', n'⟩, -, X', ⟨Lc, hQ, l1, y1, z1⟩, st⟩ := Jvm.LawKit.callS X hx hown (mv hZ w1) (mv hZ w2) (mv hZ w3) (mv hZ w4) hy (backOf (W := W) hM hZ w4 w3 hf hl) (g := mkF m pc Ls (argsL.reverse ++ rest)) rfl hsz (argsL := argsL) (rest := rest) hlen rfl (by simpa using hW) hd (fun _ _ => ⟨rfl, eT, hc, hs⟩)
  dsimp only [Pt.U, Pt.locs, Pt.cells, Pt.slots] at X' l1 y1 z1 hQ st
  subst l1 y1 z1
  exact Wout.of st (hr v T' T'.heap Lc X' rfl hQ)
theorem o_callI (X : Stand p l e R s m args below meth c T locs cells slots) (hx : p.tables.exec = Jvm.exec) (hZ : Z.Warmed39 s.vm) {own : String} {index : Nat} {y : MethodName} {bytes : ByteArray} {maxL : Nat} (hy1 : y.name = "<init>") (hown : s.vm.findClass own = some m.cls) (w1 : (Jvm.Cond.methodLink own index y).before a0 Z = true) (w2 : (Jvm.Cond.instanceMethod y).before a0 Z = true) (w3 : (Jvm.Cond.initialized y.cls).before a0 Z = true) (w4 : (Jvm.Cond.code y bytes maxL none).before a0 Z = true)
    (hy : y.cls ≠ "java/lang/invoke/MethodHandle" ∧ y.cls ≠ "java/lang/invoke/VarHandle") {rm : Room} {as' : Array Value} {Q : Option Value → Heap → List Loc → Prop} (hM : Met l Z y bytes maxL none [] rm as' h Q) (eT : T.heap = h) (hf : rm.frames + 1 ≤ R.frames) (W : Nat) (hl : W + (maxL + 11) + rm.locals ≤ R.locals) (hsz : Ls.size = c.maxLocals) {a : Addr} (argsL : List Value) {st : List Value} (hlen : ∀ sig, parseMethodDescriptor y.desc = some sig → argsL.length = sig.parameters.length) (hst : st = argsL.reverse ++ .ref a :: rest) (has : (.ref a :: argsL).toArray = as')
    (hW : (rest.map fun v => v.category).sum ≤ W) (hc : cells + rm.cells ≤ R.cells) (hs : slots + rm.slots ≤ R.slots) (n : Nat) (hd : decode c.code pc = .ok (.invokespecial index, 3)) (hp : pc + 3 = n)
    (hr : ∀ v T' h' L, Stand p l e R s m args below meth c T' (locs ++ L) (cells + rm.cells) (slots + rm.slots) → T'.heap = h' → Q v h' L → Wout p e below P T' (mkF m n Ls (v.toList ++ rest))) : Wout p e below P T (mkF m pc Ls st) := by
  subst hp has hst
  obtain ⟨v, vm₁, ⟨T', L', k', n'⟩, -, X', ⟨Lc, hQ, l1, y1, z1⟩, st⟩ := X.specialBack hx hy1 hown (mv hZ w1) (mv hZ w2) (mv hZ w4) hy (backOf (W := W) hM hZ w4 w3 hf hl) (g := mkF m pc Ls (argsL.reverse ++ .ref a :: rest)) rfl hsz (Steps.refl _) (a := a) (argsL := argsL) (rest := rest) hlen rfl (by simpa using hW) hd (fun _ _ => ⟨rfl, eT, hc, hs⟩)
  dsimp only [Pt.U, Pt.locs, Pt.cells, Pt.slots] at X' l1 y1 z1 hQ st
  subst l1 y1 z1
  exact Wout.tr st (hr v T' T'.heap Lc X' rfl hQ)
theorem o_callIB (X : Stand p l e R s m args below meth c T locs cells slots) (hx : p.tables.exec = Jvm.exec) (hZ : Z.Warmed39 s.vm) {own : String} {index : Nat} {y : MethodName} {bytes : ByteArray} {maxL : Nat} (hy1 : y.name = "<init>") (hown : s.vm.findClass own = some m.cls) (w1 : (Jvm.Cond.methodLink own index y).before a0 Z = true) (w2 : (Jvm.Cond.instanceMethod y).before a0 Z = true) (w4 : (Jvm.Cond.code y bytes maxL none).before a0 Z = true)
    (hy : y.cls ≠ "java/lang/invoke/MethodHandle" ∧ y.cls ≠ "java/lang/invoke/VarHandle") {kc ks W : Nat} {as' : Array Value} {Q : Option Value → Heap → List Loc → Prop} (hK : Back l R p e below s args y 3 W (fun A a => a = as' ∧ A.U.heap = h ∧ A.cells + kc ≤ R.cells ∧ A.slots + ks ≤ R.slots) (fun A _ v B => ∃ L, Q v B.U.heap L ∧ B.locs = A.locs ++ L ∧ B.cells = A.cells + kc ∧ B.slots = A.slots + ks)) (eT : T.heap = h) (hsz : Ls.size = c.maxLocals) {a : Addr} (argsL : List Value) {st : List Value} (hlen : ∀ sig, parseMethodDescriptor y.desc = some sig → argsL.length = sig.parameters.length) (hst : st = argsL.reverse ++ .ref a :: rest) (has : (.ref a :: argsL).toArray = as')
    (hW : (rest.map fun v => v.category).sum ≤ W) (hc : cells + kc ≤ R.cells) (hs : slots + ks ≤ R.slots) (n : Nat) (hd : decode c.code pc = .ok (.invokespecial index, 3)) (hp : pc + 3 = n)
    (hr : ∀ v T' h' L, Stand p l e R s m args below meth c T' (locs ++ L) (cells + kc) (slots + ks) → T'.heap = h' → Q v h' L → Wout p e below P T' (mkF m n Ls (v.toList ++ rest))) : Wout p e below P T (mkF m pc Ls st) := by
  subst hp has hst
  obtain ⟨v, vm₁, ⟨T', L', k', n'⟩, -, X', ⟨Lc, hQ, l1, y1, z1⟩, st⟩ := X.specialBack hx hy1 hown (mv hZ w1) (mv hZ w2) (mv hZ w4) hy hK (g := mkF m pc Ls (argsL.reverse ++ .ref a :: rest)) rfl hsz (Steps.refl _) (a := a) (argsL := argsL) (rest := rest) hlen rfl (by simpa using hW) hd (fun _ _ => ⟨rfl, eT, hc, hs⟩)
  dsimp only [Pt.U, Pt.locs, Pt.cells, Pt.slots] at X' l1 y1 z1 hQ st
  subst l1 y1 z1
  exact Wout.tr st (hr v T' T'.heap Lc X' rfl hQ)
theorem o_callV (X : Stand p l e R s m args below meth c T locs cells slots) (hx : p.tables.exec = Jvm.exec) (hZ : Z.Warmed39 s.vm) {own C : String} {index : Nat} {y : MethodName} {bytes : ByteArray} {maxL : Nat} {ret : Option FieldType} (hown : s.vm.findClass own = some m.cls) (w1 : (Jvm.Cond.methodLink own index y).before a0 Z = true) (w5 : (Jvm.Cond.declares y).before a0 Z = true) (w6 : (Jvm.Cond.selects C y y).before a0 Z = true) (w2 : (Jvm.Cond.instanceMethod y).before a0 Z = true) (w3 : (Jvm.Cond.initialized y.cls).before a0 Z = true) (w4 : (Jvm.Cond.code y bytes maxL ret).before a0 Z = true)
    (hy : y.cls ≠ "java/lang/invoke/MethodHandle" ∧ y.cls ≠ "java/lang/invoke/VarHandle") {rm : Room} {as' : Array Value} {Q : Option Value → Heap → List Loc → Prop} (hM : Met l Z y bytes maxL ret [] rm as' h Q) (eT : T.heap = h) (hf : rm.frames + 1 ≤ R.frames) (W : Nat) (hl : W + (maxL + 11) + rm.locals ≤ R.locals) (hsz : Ls.size = c.maxLocals) {a : Addr} (E : Exa Z h a C) (argsL : List Value) {st : List Value} (hlen : ∀ sig, parseMethodDescriptor y.desc = some sig → argsL.length = sig.parameters.length) (hst : st = argsL.reverse ++ .ref a :: rest) (has : (.ref a :: argsL).toArray = as')
    (hW : (rest.map fun v => v.category).sum ≤ W) (hc : cells + rm.cells ≤ R.cells) (hs : slots + rm.slots ≤ R.slots) (n : Nat) (hd : decode c.code pc = .ok (.invokevirtual index, 3)) (hp : pc + 3 = n)
    (hr : ∀ v T' h' L, Stand p l e R s m args below meth c T' (locs ++ L) (cells + rm.cells) (slots + rm.slots) → T'.heap = h' → Q v h' L → Wout p e below P T' (mkF m n Ls (v.toList ++ rest))) : Wout p e below P T (mkF m pc Ls st) := by
  subst hp has hst
  obtain ⟨cq, kq, qa, qb, qc⟩ := isOf hZ eT E
  obtain ⟨v, vm₁, ⟨T', L', k', n'⟩, -, X', ⟨Lc, hQ, l1, y1, z1⟩, st⟩ := X.virtualBack hx hown (mv hZ w1) (mv hZ w5) (notFace_of_selects (args := #[]) (mv hZ w6)) (mv hZ w6) (mv hZ w2) hy (backOf (W := W) hM hZ w4 w3 hf hl) qa qc (g := mkF m pc Ls (argsL.reverse ++ .ref a :: rest)) rfl hsz (Steps.refl _) (argsL := argsL) (rest := rest) hlen rfl (by simpa using hW) hd (fun _ _ => ⟨rfl, eT, hc, hs⟩)
  dsimp only [Pt.U, Pt.locs, Pt.cells, Pt.slots] at X' l1 y1 z1 hQ st
  subst l1 y1 z1
  exact Wout.tr st (hr v T' T'.heap Lc X' rfl hQ)
theorem o_callU (X : Stand p l e R s m args below meth c T locs cells slots) (hx : p.tables.exec = Jvm.exec) (hZ : Z.Warmed39 s.vm) {own C owner : String} {index : Nat} {y z : MethodName} {bytes : ByteArray} {maxL : Nat} {ret : Option FieldType} (hown : s.vm.findClass own = some m.cls) (w1 : (Jvm.Cond.methodLink own index y).before a0 Z = true) (w7 : (Jvm.Cond.sameMethod y.cls owner y.name y.desc).before a0 Z = true) (w5 : (Jvm.Cond.declares ⟨owner, y.name, y.desc⟩).before a0 Z = true) (w6 : (Jvm.Cond.selects C y z).before a0 Z = true) (w2 : (Jvm.Cond.instanceMethod z).before a0 Z = true) (w3 : (Jvm.Cond.initialized z.cls).before a0 Z = true) (w4 : (Jvm.Cond.code z bytes maxL ret).before a0 Z = true)
    (hy : owner ≠ "java/lang/invoke/MethodHandle" ∧ owner ≠ "java/lang/invoke/VarHandle") {rm : Room} {as' : Array Value} {Q : Option Value → Heap → List Loc → Prop} (hM : Met l Z z bytes maxL ret [] rm as' h Q) (eT : T.heap = h) (hf : rm.frames + 1 ≤ R.frames) (W : Nat) (hl : W + (maxL + 11) + rm.locals ≤ R.locals) (hsz : Ls.size = c.maxLocals) {a : Addr} (E : Exa Z h a C) (argsL : List Value) {st : List Value} (hlen : ∀ sig, parseMethodDescriptor y.desc = some sig → argsL.length = sig.parameters.length) (hst : st = argsL.reverse ++ .ref a :: rest) (has : (.ref a :: argsL).toArray = as')
    (hW : (rest.map fun v => v.category).sum ≤ W) (hc : cells + rm.cells ≤ R.cells) (hs : slots + rm.slots ≤ R.slots) (n : Nat) (hd : decode c.code pc = .ok (.invokevirtual index, 3)) (hp : pc + 3 = n)
    (hr : ∀ v T' h' L, Stand p l e R s m args below meth c T' (locs ++ L) (cells + rm.cells) (slots + rm.slots) → T'.heap = h' → Q v h' L → Wout p e below P T' (mkF m n Ls (v.toList ++ rest))) : Wout p e below P T (mkF m pc Ls st) := by
  subst hp has hst
  obtain ⟨cq, kq, qa, qb, qc⟩ := isOf hZ eT E
  obtain ⟨v, vm₁, ⟨T', L', k', n'⟩, -, X', ⟨Lc, hQ, l1, y1, z1⟩, st⟩ := X.virtualBackUp hx hown (mv hZ w1) (mv hZ w7) (mv hZ w5) hy (mv hZ w6) (mv hZ w2) (backOf (W := W) hM hZ w4 w3 hf hl) qa qc (g := mkF m pc Ls (argsL.reverse ++ .ref a :: rest)) rfl hsz (Steps.refl _) (argsL := argsL) (rest := rest) hlen rfl (by simpa using hW) hd (fun _ _ => ⟨rfl, eT, hc, hs⟩)
  dsimp only [Pt.U, Pt.locs, Pt.cells, Pt.slots] at X' l1 y1 z1 hQ st
  subst l1 y1 z1
  exact Wout.tr st (hr v T' T'.heap Lc X' rfl hQ)
/-! returns -/
theorem o_retW (X : Stand p l e R s m args below meth c T locs cells slots) (hx : p.tables.exec = Jvm.exec) {Q : Option Value → Heap → List Loc → Prop} {C S : Nat} {w w' : Value} {t : FieldType} {i : Instr} (hlk : meth.locks = false) (hret : meth.sig.returnType = some t) (hn : Jvm.narrow t w = w)
    (hi : (i = .ireturn ∧ (t = .int ∨ t = .boolean ∨ t = .byte ∨ t = .char ∨ t = .short) ∧ ∃ z, w = .int z) ∨ (i = .lreturn ∧ t = .long ∧ ∃ z, w = .long z) ∨ (i = .dreturn ∧ t = .double ∧ ∃ z, w = .double z) ∨ (i = .freturn ∧ t = .float ∧ ∃ z, w = .float z) ∨ (i = .areturn ∧ t.isReference = true ∧ w.isRef = true))
    (hd : decode c.code pc = .ok (i, 1)) (hc : cells ≤ C) (hs : slots ≤ S) (hq : Q (some w) T.heap locs) : Wout p e below (Pst s Q C S) T (mkF m pc Ls (w :: rest)) := by
  obtain ⟨fs, hr, hrun, hended, hW, hsame⟩ := X.leave (v := some w) (fun q => by rw [hret] at q; cases q) hlk
  exact ⟨_, _, retOut X hx hret hn hi hd hr, hrun, hended, _, _, rfl, hq, ⟨_, rfl⟩, hW, hsame.mono hc hs⟩
theorem o_retI (X : Stand p l e R s m args below meth c T locs cells slots) (hx : p.tables.exec = Jvm.exec) {Q : Option Value → Heap → List Loc → Prop} {C S : Nat} {x : Int32} {t : FieldType} (hlk : meth.locks = false) (hret : meth.sig.returnType = some t) (hn : Jvm.narrow t (.int x) = .int x) (ht : t = .int ∨ t = .boolean ∨ t = .byte ∨ t = .char ∨ t = .short)
    (hd : decode c.code pc = .ok (.ireturn, 1)) (hc : cells ≤ C) (hs : slots ≤ S) (hq : Q (some (.int x)) T.heap locs) : Wout p e below (Pst s Q C S) T (mkF m pc Ls (.int x :: rest)) :=
  o_retW X hx (w' := .null) hlk hret hn (Or.inl ⟨rfl, ht, x, rfl⟩) hd hc hs hq
theorem o_retL (X : Stand p l e R s m args below meth c T locs cells slots) (hx : p.tables.exec = Jvm.exec) {Q : Option Value → Heap → List Loc → Prop} {C S : Nat} {x : Int64} (hlk : meth.locks = false) (hret : meth.sig.returnType = some .long)
    (hd : decode c.code pc = .ok (.lreturn, 1)) (hc : cells ≤ C) (hs : slots ≤ S) (hq : Q (some (.long x)) T.heap locs) : Wout p e below (Pst s Q C S) T (mkF m pc Ls (.long x :: rest)) :=
  o_retW X hx (w' := .null) hlk hret rfl (Or.inr (Or.inl ⟨rfl, rfl, x, rfl⟩)) hd hc hs hq
theorem o_retA (X : Stand p l e R s m args below meth c T locs cells slots) (hx : p.tables.exec = Jvm.exec) {Q : Option Value → Heap → List Loc → Prop} {C S : Nat} {w : Value} {t : FieldType} (hlk : meth.locks = false) (hret : meth.sig.returnType = some t) (ht : t.isReference = true) (hw : w.isRef = true) (hn : Jvm.narrow t w = w)
    (hd : decode c.code pc = .ok (.areturn, 1)) (hc : cells ≤ C) (hs : slots ≤ S) (hq : Q (some w) T.heap locs) : Wout p e below (Pst s Q C S) T (mkF m pc Ls (w :: rest)) :=
  o_retW X hx (w' := .null) hlk hret hn (Or.inr (Or.inr (Or.inr (Or.inr ⟨rfl, ht, hw⟩)))) hd hc hs hq
theorem o_retD (X : Stand p l e R s m args below meth c T locs cells slots) (hx : p.tables.exec = Jvm.exec) {Q : Option Value → Heap → List Loc → Prop} {C S : Nat} {x : UInt64} (hlk : meth.locks = false) (hret : meth.sig.returnType = some .double)
    (hd : decode c.code pc = .ok (.dreturn, 1)) (hc : cells ≤ C) (hs : slots ≤ S) (hq : Q (some (.double x)) T.heap locs) : Wout p e below (Pst s Q C S) T (mkF m pc Ls (.double x :: rest)) :=
  o_retW X hx (w' := .null) hlk hret rfl (Or.inr (Or.inr (Or.inl ⟨rfl, rfl, x, rfl⟩))) hd hc hs hq
theorem o_retV (X : Stand p l e R s m args below meth c T locs cells slots) (hx : p.tables.exec = Jvm.exec) {Q : Option Value → Heap → List Loc → Prop} {C S : Nat} (hlk : meth.locks = false) (hret : meth.sig.returnType = none)
    (hd : decode c.code pc = .ok (.return_, 1)) (hc : cells ≤ C) (hs : slots ≤ S) (hq : Q none T.heap locs) : Wout p e below (Pst s Q C S) T (mkF m pc Ls []) := by
  obtain ⟨fs, hr, hrun, hended, hW, hsame⟩ := X.leave (v := none) (fun _ => rfl) hlk
  exact ⟨_, _, X.returnOut hx hret hd hr, hrun, hended, _, _, rfl, hq, ⟨_, rfl⟩, hW, hsame.mono hc hs⟩
/-! from the sheet's words -/
theorem fld_eq {t : Term} {a : Addr} {C n d : String} {k : Int32} (ev : t.eval args Z none [] Z = some (.ref a)) (q : (Jvm.Cond.eq (.field t C n d) (.int k)).value args Z none Z [] = some true) : Fld Z Z.heap a C n d (.int k) := by
  exact Fld.start ((fld_at ev).symm.trans (eqv_i rfl q))
theorem sta_bool {C n d : String} (w1 : (Jvm.Cond.initializedFor C n d).before args Z = true) (w2 : (Jvm.Cond.isInt (.static C n d)).before args Z = true) (w3 : (Jvm.Cond.not (.eq (.static C n d) (.int 0))).before args Z = true) : ∃ x : Int32, Sta Z Z.heap C n d (.int x) ∧ ¬ x = 0 := by
  obtain ⟨x, ev⟩ := is_v (Cond.before_iff.mp w2)
  refine ⟨x, Sta.start ev (Or.inl w1), fun q => ?_⟩
  have q2 := not_v (Cond.before_iff.mp w3)
  exact gotF (Cond.eq_ints ev rfl) q2 q
/-! numbers -/
theorem mask31 (x : Int32) : 0 ≤ (x &&& 2147483647).toInt := by
  have e := Jvm.Kit.i32_mask x 2147483647 (k := 31) (by decide) (by decide)
  omega
theorem rem_pos {y n : Int32} (hy : 0 ≤ y.toInt) (hn : 0 < n.toInt) : (y % n).toInt = y.toInt % n.toInt := by
  rw [Int32.toInt_mod, Int.tmod_eq_emod_of_nonneg hy]
theorem rem_in {y n : Int32} (hy : 0 ≤ y.toInt) (hn : 0 < n.toInt) : 0 ≤ (y % n).toInt ∧ (y % n).toInt < n.toInt := by
  rw [rem_pos hy hn]
  exact ⟨Int.emod_nonneg _ (by omega), Int.emod_lt_of_pos _ hn⟩
theorem in3 {k : Int32} (h1 : 0 ≤ k.toInt) (h2 : k.toInt < 3) : k = 0 ∨ k = 1 ∨ k = 2 := by
  have : k.toInt = 0 ∨ k.toInt = 1 ∨ k.toInt = 2 := by omega
  rcases this with q | q | q
  · exact Or.inl (Int32.toInt_inj.mp q)
  · exact Or.inr (Or.inl (Int32.toInt_inj.mp q))
  · exact Or.inr (Or.inr (Int32.toInt_inj.mp q))
theorem in4 {k : Int32} (h1 : 0 ≤ k.toInt) (h2 : k.toInt < 4) : k = 0 ∨ k = 1 ∨ k = 2 ∨ k = 3 := by
  have : k.toInt = 0 ∨ k.toInt = 1 ∨ k.toInt = 2 ∨ k.toInt = 3 := by omega
  rcases this with q | q | q | q
  · exact Or.inl (Int32.toInt_inj.mp q)
  · exact Or.inr (Or.inl (Int32.toInt_inj.mp q))
  · exact Or.inr (Or.inr (Or.inl (Int32.toInt_inj.mp q)))
  · exact Or.inr (Or.inr (Or.inr (Int32.toInt_inj.mp q)))
end K
end Jvm.OwnWalk
namespace Jvm.Pilot.@@N@@
open Jvm Jvm.ClassFile Sem Op Lib Jvm.Free Jvm.Stand Jvm.LawKit Jvm.RoadKit Jvm.OwnWalk Bundle Jvm.Pilot.@@N@@.Jvm.D
def own_sel (v0 v1 v2 v3 : Int64) (j : Int32) : Int64 := if j = 0 then v0 else if j = 1 then v1 else if j = 2 then v2 else v3
theorem own_j (x : Int32) : (x &&& (3 : Int32)) = 0 ∨ (x &&& (3 : Int32)) = 1 ∨ (x &&& (3 : Int32)) = 2 ∨ (x &&& (3 : Int32)) = 3 := by
  have e := Jvm.Kit.i32_mask x 3 (k := 2) (by decide) (by decide)
  exact in4 (by omega) (by omega)
theorem own_jin {j : Int32} (h : j = 0 ∨ j = 1 ∨ j = 2 ∨ j = 3) : ¬ j < 0 ∧ j < 4 := by rcases h with rfl | rfl | rfl | rfl <;> decide
theorem own_atL {j : Int32} (v0 v1 v2 v3 : Int64) (h : j = 0 ∨ j = 1 ∨ j = 2 ∨ j = 3) : [Value.long v0, .long v1, .long v2, .long v3].getD j.toNatClampNeg (.long 0) = .long (own_sel v0 v1 v2 v3 j) := by rcases h with rfl | rfl | rfl | rfl <;> rfl
theorem own_atD {j : Int32} (v0 v1 v2 v3 : Int64) (h : j = 0 ∨ j = 1 ∨ j = 2 ∨ j = 3) : [Value.double (FP.l2d v0), .double (FP.l2d v1), .double (FP.l2d v2), .double (FP.l2d v3)].getD j.toNatClampNeg (.double 0) = .double (FP.l2d (own_sel v0 v1 v2 v3 j)) := by rcases h with rfl | rfl | rfl | rfl <;> rfl
def own_R (k : Nat) (a : Int64) : Prop := -(2147483648 * (k : Int)) ≤ a.toInt ∧ a.toInt ≤ 2147483648 * (k : Int)
theorem own_R1 (x : Int32) : own_R 1 x.toInt64 := by
  have h1 := x.le_toInt
  have h2 := x.toInt_lt
  unfold own_R
  rw [Int32.toInt_toInt64]
  omega
theorem own_RB {k : Nat} {a : Int64} (hk : k ≤ 6) (h : own_R k a) : B53 a := by
  unfold own_R at h
  unfold B53
  omega
theorem own_Ra {k : Nat} {a b : Int64} (hk : k ≤ 5) (h : own_R k a) (g : own_R 1 b) : own_R (k + 1) (a + b) := by
  have e : (a + b).toInt = a.toInt + b.toInt := Jvm.RoadKit.add64 (own_RB (by omega) h) (own_RB (by omega) g)
  unfold own_R at *
  rw [e]
  omega
theorem own_Rs {v0 v1 v2 v3 : Int64} (h0 : own_R 1 v0) (h1 : own_R 1 v1) (h2 : own_R 1 v2) (h3 : own_R 1 v3) (j : Int32) : own_R 1 (own_sel v0 v1 v2 v3 j) := by
  unfold own_sel
  split
  · exact h0
  · split
    · exact h1
    · split
      · exact h2
      · exact h3
theorem own_in5 {k : Int32} (h1 : 0 ≤ k.toInt) (h2 : k.toInt < 5) : k = 0 ∨ k = 1 ∨ k = 2 ∨ k = 3 ∨ k = 4 := by
  have : k.toInt = 0 ∨ k.toInt = 1 ∨ k.toInt = 2 ∨ k.toInt = 3 ∨ k.toInt = 4 := by omega
  rcases this with q | q | q | q | q
  · exact Or.inl (Int32.toInt_inj.mp q)
  · exact Or.inr (Or.inl (Int32.toInt_inj.mp q))
  · exact Or.inr (Or.inr (Or.inl (Int32.toInt_inj.mp q)))
  · exact Or.inr (Or.inr (Or.inr (Or.inl (Int32.toInt_inj.mp q))))
  · exact Or.inr (Or.inr (Or.inr (Or.inr (Int32.toInt_inj.mp q))))
theorem own_cnt (x : Int32) : 0 ≤ (x &&& (7 : Int32)).toInt := by
  have e := Jvm.Kit.i32_mask x 7 (k := 3) (by decide) (by decide)
  omega
theorem d_jdk_30_method_1_0 : decode jdk_30_method_1_code 0 = .ok (.aload_n 0, 1) := by decide +kernel
theorem d_jdk_30_method_1_1 : decode jdk_30_method_1_code 1 = .ok (.invokespecial 1, 3) := by decide +kernel
theorem d_jdk_30_method_1_4 : decode jdk_30_method_1_code 4 = .ok (.return_, 1) := by decide +kernel
theorem pn_0 : plainName "java/lang/Record" = true := by first | (simp [plainName, overriddenIn]; done) | decide +kernel
def Q_rec (Z : State) (a1 : Addr) (h0 : Heap) (n0 : Nat) (v : Option Value) (h : Heap) (L : List Loc) : Prop := v = none ∧ Fr n0 L ∧ h = h0
set_option maxRecDepth 65536 in
set_option maxHeartbeats 40000000 in
theorem rm_rec (l : Launch) (Z : State) (a0 : Array Value) (hw : ∀ d ∈ tables_1, d.before a0 Z = true) (ws : List Jvm.Cond) (a1 : Addr) (h0 : Heap) (n0 : Nat) (Z0 : n0 ≤ h0.size)  :
    Met l Z (⟨"java/lang/Record", "<init>", "()V"⟩ : MethodName) jdk_30_method_1_code 1 none ws ({ frames := 1, cells := 0, slots := 0, locals := 12 } : Room) #[(.ref a1)] h0 (Q_rec Z a1 h0 n0) := by
  refine Met.start (plainFor_of_name pn_0) ?_
  intro p e s m below meth c T X hx hby hml hown hnm hret hlk hZ eT
  have N := Fr.nil n0
  refine Wout.cast (g' := (mkF m 0 #[.val (.ref a1)] [])) (by first | rfl | (simp [entryFrame, mkF, argsToLocals, Value.category]; done)) ?_
  refine o_aloadN X hx 1 (hb hby d_jdk_30_method_1_0) rfl rfl rfl ?_
  refine o_initO X hx hZ hown (hw _ (List.mem_of_getElem? (i := 14) rfl)) (hw _ (List.mem_of_getElem? (i := 15) rfl)) (hw _ (List.mem_of_getElem? (i := 16) rfl)) eT (by rw [hml]; rfl) (by decide) 0 (Nat.le_of_eq rfl) (by decide) 4 (hb hby d_jdk_30_method_1_1) rfl (fun T X eT => ?_)
  exact o_retV X hx hlk hret (hb hby d_jdk_30_method_1_4) (by decide) (by decide) (by rw [eT]; exact ⟨rfl, N, rfl⟩)
theorem d_prog_65_method_1_0 : decode prog_65_method_1_code 0 = .ok (.aload_n 0, 1) := by decide +kernel
theorem d_prog_65_method_1_1 : decode prog_65_method_1_code 1 = .ok (.invokespecial 1, 3) := by decide +kernel
theorem d_prog_65_method_1_4 : decode prog_65_method_1_code 4 = .ok (.aload_n 0, 1) := by decide +kernel
theorem d_prog_65_method_1_5 : decode prog_65_method_1_code 5 = .ok (.dload_n 1, 1) := by decide +kernel
theorem d_prog_65_method_1_6 : decode prog_65_method_1_code 6 = .ok (.putfield 7, 3) := by decide +kernel
theorem d_prog_65_method_1_9 : decode prog_65_method_1_code 9 = .ok (.aload_n 0, 1) := by decide +kernel
theorem d_prog_65_method_1_10 : decode prog_65_method_1_code 10 = .ok (.aload_n 3, 1) := by decide +kernel
theorem d_prog_65_method_1_11 : decode prog_65_method_1_code 11 = .ok (.putfield 13, 3) := by decide +kernel
theorem d_prog_65_method_1_14 : decode prog_65_method_1_code 14 = .ok (.return_, 1) := by decide +kernel
theorem pn_1 : plainName "com/example/spillway/spillway/RateModel$Supply" = true := by first | (simp [plainName, overriddenIn]; done) | decide +kernel
theorem pd_0 : parseMethodDescriptor "()V" = some ⟨[], none⟩ := by decide +kernel
def Q_init (Z : State) (a1 a2 : Addr) (x : UInt64) (u1 u2 : Value) (h0 : Heap) (n0 : Nat) (v : Option Value) (h : Heap) (L : List Loc) : Prop := v = none ∧ Fr n0 L ∧ Keep h0 h [a1] ∧ Exa Z h a1 "com/example/spillway/spillway/RateModel$Supply" ∧ Fld Z h a1 "com/example/spillway/spillway/RateModel$Supply" "measured" "D" (.double x) ∧ Fld Z h a1 "com/example/spillway/spillway/RateModel$Supply" "patterns" "[I" (.ref a2)
set_option maxRecDepth 65536 in
set_option maxHeartbeats 40000000 in
theorem rm_init (l : Launch) (Z : State) (a0 : Array Value) (hw : ∀ d ∈ tables_1, d.before a0 Z = true) (ws : List Jvm.Cond) (a1 a2 : Addr) (x : UInt64) (u1 u2 : Value) (h0 : Heap) (n0 : Nat) (Z0 : n0 ≤ h0.size) (E_a1 : Exa Z h0 a1 "com/example/spillway/spillway/RateModel$Supply") (F1 : Fld Z h0 a1 "com/example/spillway/spillway/RateModel$Supply" "measured" "D" u1) (F2 : Fld Z h0 a1 "com/example/spillway/spillway/RateModel$Supply" "patterns" "[I" u2) (g_a1 : n0 ≤ a1) :
    Met l Z (⟨"com/example/spillway/spillway/RateModel$Supply", "<init>", "(D[I)V"⟩ : MethodName) prog_65_method_1_code 4 none ws ({ frames := 2, cells := 0, slots := 0, locals := 24 } : Room) #[(.ref a1), (.double x), (.ref a2)] h0 (Q_init Z a1 a2 x u1 u2 h0 n0) := by
  refine Met.start (plainFor_of_name pn_1) ?_
  intro p e s m below meth c T X hx hby hml hown hnm hret hlk hZ eT
  have N := Fr.nil n0
  have K := Keep.refl h0 [a1]
  refine Wout.cast (g' := (mkF m 0 #[.val (.ref a1), .val (.double x), .second, .val (.ref a2)] [])) (by first | rfl | (simp [entryFrame, mkF, argsToLocals, Value.category]; done)) ?_
  refine o_aloadN X hx 1 (hb hby d_prog_65_method_1_0) rfl rfl rfl ?_
  refine o_callI X hx hZ rfl hown (hw _ (List.mem_of_getElem? (i := 9) rfl)) (hw _ (List.mem_of_getElem? (i := 10) rfl)) (hw _ (List.mem_of_getElem? (i := 12) rfl)) (hw _ (List.mem_of_getElem? (i := 13) rfl)) (by decide) (rm_rec l Z a0 hw [] a1 _ n0 Z0) eT (by decide) 0 (by decide) (by rw [hml]; rfl) [] (rest := []) (lenOf pd_0 rfl) rfl rfl (Nat.le_of_eq rfl) (by decide) (by decide) 4 (hb hby d_prog_65_method_1_1) rfl (fun v T h1 Lc X eT q => ?_)
  obtain ⟨rfl, N', e'⟩ := q
  replace N := Fr.app N N'
  replace eT := eT.trans e'
  show Wout p e below _ T (mkF m 4 #[.val (.ref a1), .val (.double x), .second, .val (.ref a2)] [])
  refine o_aloadN X hx 5 (hb hby d_prog_65_method_1_4) rfl rfl rfl ?_
  refine o_dloadN X hx 6 (hb hby d_prog_65_method_1_5) rfl rfl ?_
  refine o_putF X hx hZ .double hown (host := "") (Or.inl (hw _ (List.mem_of_getElem? (i := 17) rfl))) Via.refl eT F1 E_a1 (Or.inr ⟨(hw _ (List.mem_of_getElem? (i := 18) rfl)), rfl, hnm⟩) (hw _ (List.mem_of_getElem? (i := 4) rfl)) (by decide) rfl rfl N g_a1 9 (hb hby d_prog_65_method_1_6) rfl (fun T h2 locs X eT W N => ?_)
  replace E_a1 := E_a1.wr W
  replace F1 := F1.same W
  replace F2 := F2.other W (Or.inr (slot_ne (Or.inr (hw _ (List.mem_of_getElem? (i := 20) rfl))) (Or.inr (hw _ (List.mem_of_getElem? (i := 18) rfl))) (by decide) (t := (.array .int)) (t' := .double) (by decide) (by decide)))
  replace Z0 := Nat.le_trans Z0 (Keep.of_wr W).1
  replace K := K.wr W (Or.inl (List.mem_of_getElem? (i := 0) rfl))
  refine o_aloadN X hx 10 (hb hby d_prog_65_method_1_9) rfl rfl rfl ?_
  refine o_aloadN X hx 11 (hb hby d_prog_65_method_1_10) rfl rfl rfl ?_
  refine o_putF X hx hZ (.array .int) hown (host := "") (Or.inl (hw _ (List.mem_of_getElem? (i := 19) rfl))) Via.refl eT F2 E_a1 (Or.inr ⟨(hw _ (List.mem_of_getElem? (i := 20) rfl)), rfl, hnm⟩) (hw _ (List.mem_of_getElem? (i := 4) rfl)) (by decide) rfl rfl N g_a1 14 (hb hby d_prog_65_method_1_11) rfl (fun T h3 locs X eT W N => ?_)
  replace E_a1 := E_a1.wr W
  replace F1 := F1.other W (Or.inr (slot_ne (Or.inr (hw _ (List.mem_of_getElem? (i := 18) rfl))) (Or.inr (hw _ (List.mem_of_getElem? (i := 20) rfl))) (by decide) (t := .double) (t' := (.array .int)) (by decide) (by decide)))
  replace F2 := F2.same W
  replace Z0 := Nat.le_trans Z0 (Keep.of_wr W).1
  replace K := K.wr W (Or.inl (List.mem_of_getElem? (i := 0) rfl))
  exact o_retV X hx hlk hret (hb hby d_prog_65_method_1_14) (by decide) (by decide) (by rw [eT]; exact ⟨rfl, N, K, E_a1, F1, F2⟩)
theorem d_prog_65_method_2_0 : decode prog_65_method_2_code 0 = .ok (.aload_n 0, 1) := by decide +kernel
theorem d_prog_65_method_2_1 : decode prog_65_method_2_code 1 = .ok (.getfield 7, 3) := by decide +kernel
theorem d_prog_65_method_2_4 : decode prog_65_method_2_code 4 = .ok (.dstore_n 2, 1) := by decide +kernel
theorem d_prog_65_method_2_5 : decode prog_65_method_2_code 5 = .ok (.aload_n 0, 1) := by decide +kernel
theorem d_prog_65_method_2_6 : decode prog_65_method_2_code 6 = .ok (.getfield 13, 3) := by decide +kernel
theorem d_prog_65_method_2_9 : decode prog_65_method_2_code 9 = .ok (.astore 4, 2) := by decide +kernel
theorem d_prog_65_method_2_11 : decode prog_65_method_2_code 11 = .ok (.aload 4, 2) := by decide +kernel
theorem d_prog_65_method_2_13 : decode prog_65_method_2_code 13 = .ok (.arraylength, 1) := by decide +kernel
theorem d_prog_65_method_2_14 : decode prog_65_method_2_code 14 = .ok (.istore 5, 2) := by decide +kernel
theorem d_prog_65_method_2_16 : decode prog_65_method_2_code 16 = .ok (.iconst 0, 1) := by decide +kernel
theorem d_prog_65_method_2_17 : decode prog_65_method_2_code 17 = .ok (.istore 6, 2) := by decide +kernel
theorem d_prog_65_method_2_19 : decode prog_65_method_2_code 19 = .ok (.iload 6, 2) := by decide +kernel
theorem d_prog_65_method_2_21 : decode prog_65_method_2_code 21 = .ok (.iload 5, 2) := by decide +kernel
theorem d_prog_65_method_2_23 : decode prog_65_method_2_code 23 = .ok (.if_icmp .ge 23, 3) := by decide +kernel
theorem d_prog_65_method_2_26 : decode prog_65_method_2_code 26 = .ok (.aload 4, 2) := by decide +kernel
theorem d_prog_65_method_2_28 : decode prog_65_method_2_code 28 = .ok (.iload 6, 2) := by decide +kernel
theorem d_prog_65_method_2_30 : decode prog_65_method_2_code 30 = .ok (.iaload, 1) := by decide +kernel
theorem d_prog_65_method_2_31 : decode prog_65_method_2_code 31 = .ok (.istore 7, 2) := by decide +kernel
theorem d_prog_65_method_2_33 : decode prog_65_method_2_code 33 = .ok (.dload_n 2, 1) := by decide +kernel
theorem d_prog_65_method_2_34 : decode prog_65_method_2_code 34 = .ok (.aload_n 1, 1) := by decide +kernel
theorem d_prog_65_method_2_35 : decode prog_65_method_2_code 35 = .ok (.iload 7, 2) := by decide +kernel
theorem d_prog_65_method_2_37 : decode prog_65_method_2_code 37 = .ok (.daload, 1) := by decide +kernel
theorem d_prog_65_method_2_38 : decode prog_65_method_2_code 38 = .ok (.dadd, 1) := by decide +kernel
theorem d_prog_65_method_2_39 : decode prog_65_method_2_code 39 = .ok (.dstore_n 2, 1) := by decide +kernel
theorem d_prog_65_method_2_40 : decode prog_65_method_2_code 40 = .ok (.iinc 6 1, 3) := by decide +kernel
theorem d_prog_65_method_2_43 : decode prog_65_method_2_code 43 = .ok (.goto (-24), 3) := by decide +kernel
theorem d_prog_65_method_2_46 : decode prog_65_method_2_code 46 = .ok (.dload_n 2, 1) := by decide +kernel
theorem d_prog_65_method_2_47 : decode prog_65_method_2_code 47 = .ok (.dreturn, 1) := by decide +kernel
def Q_rate0 (Z : State) (a1 pa oa : Addr) (kp ko : ClassId) (mm v0 v1 v2 v3 : Int64) (h0 : Heap) (n0 : Nat) (v : Option Value) (h : Heap) (L : List Loc) : Prop := v = some (.double (FP.l2d mm)) ∧ Fr n0 L ∧ h = h0
set_option maxRecDepth 65536 in
set_option maxHeartbeats 40000000 in
theorem rm_rate0 (l : Launch) (Z : State) (a0 : Array Value) (hw : ∀ d ∈ tables_1, d.before a0 Z = true) (ws : List Jvm.Cond) (a1 pa oa : Addr) (kp ko : ClassId) (mm v0 v1 v2 v3 : Int64) (h0 : Heap) (n0 : Nat) (Z0 : n0 ≤ h0.size) (F1 : Fld Z h0 a1 "com/example/spillway/spillway/RateModel$Supply" "measured" "D" (.double (FP.l2d mm))) (F2 : Fld Z h0 a1 "com/example/spillway/spillway/RateModel$Supply" "patterns" "[I" (.ref pa)) (Vp : Arv Z h0 pa kp .int 0 [] (.int 0)) (Vo : Arv Z h0 oa ko .double 4 [(.double (FP.l2d v0)), (.double (FP.l2d v1)), (.double (FP.l2d v2)), (.double (FP.l2d v3))] (.double 0)) (R0 : own_R 1 mm) (Rv0 : own_R 1 v0) (Rv1 : own_R 1 v1) (Rv2 : own_R 1 v2) (Rv3 : own_R 1 v3) :
    Met l Z (⟨"com/example/spillway/spillway/RateModel$Supply", "rate", "([D)D"⟩ : MethodName) prog_65_method_2_code 8 (some .double) ws ({ frames := 0, cells := 0, slots := 0, locals := 0 } : Room) #[(.ref a1), (.ref oa)] h0 (Q_rate0 Z a1 pa oa kp ko mm v0 v1 v2 v3 h0 n0) := by
  refine Met.start (plainFor_of_name pn_1) ?_
  intro p e s m below meth c T X hx hby hml hown hnm hret hlk hZ eT
  have N := Fr.nil n0
  refine Wout.cast (g' := (mkF m 0 #[.val (.ref a1), .val (.ref oa), .unset, .unset, .unset, .unset, .unset, .unset] [])) (by first | rfl | (simp [entryFrame, mkF, argsToLocals, Value.category]; done)) ?_
  have P0 : own_R 1 mm := R0
  refine o_aloadN X hx 1 (hb hby d_prog_65_method_2_0) rfl rfl rfl ?_
  refine o_getF X hx hZ hown (host := "") (Or.inl (hw _ (List.mem_of_getElem? (i := 17) rfl))) Via.refl eT F1 4 (hb hby d_prog_65_method_2_1) rfl (fun T X eT => ?_)
  refine o_dstoreN X hx 5 (Ls' := #[.val (.ref a1), .val (.ref oa), .val (.double (FP.l2d mm)), .second, .unset, .unset, .unset, .unset]) (hb hby d_prog_65_method_2_4) rfl rfl ?_
  refine o_aloadN X hx 6 (hb hby d_prog_65_method_2_5) rfl rfl rfl ?_
  refine o_getF X hx hZ hown (host := "") (Or.inl (hw _ (List.mem_of_getElem? (i := 19) rfl))) Via.refl eT F2 9 (hb hby d_prog_65_method_2_6) rfl (fun T X eT => ?_)
  refine o_astore X hx 11 (Ls' := #[.val (.ref a1), .val (.ref oa), .val (.double (FP.l2d mm)), .second, .val (.ref pa), .unset, .unset, .unset]) (hb hby d_prog_65_method_2_9) rfl rfl rfl ?_
  refine o_aload X hx 13 (hb hby d_prog_65_method_2_11) rfl rfl rfl ?_
  refine o_arraylength X hx hZ eT Vp 14 (hb hby d_prog_65_method_2_13) rfl ?_
  refine o_istore X hx 16 (Ls' := #[.val (.ref a1), .val (.ref oa), .val (.double (FP.l2d mm)), .second, .val (.ref pa), .val (.int (0 : Int32)), .unset, .unset]) (hb hby d_prog_65_method_2_14) rfl rfl ?_
  refine o_iconst X hx 17 (0 : Int32) (hb hby d_prog_65_method_2_16) rfl rfl ?_
  refine o_istore X hx 19 (Ls' := #[.val (.ref a1), .val (.ref oa), .val (.double (FP.l2d mm)), .second, .val (.ref pa), .val (.int (0 : Int32)), .val (.int (0 : Int32)), .unset]) (hb hby d_prog_65_method_2_17) rfl rfl ?_
  refine o_iload X hx 21 (hb hby d_prog_65_method_2_19) rfl rfl ?_
  refine o_iload X hx 23 (hb hby d_prog_65_method_2_21) rfl rfl ?_
  refine o_icmpT X hx 46 (hb hby d_prog_65_method_2_23) rfl (by decide : ¬ (0 : Int32) < (0 : Int32)) ?_
  refine o_dloadN X hx 47 (hb hby d_prog_65_method_2_46) rfl rfl ?_
  exact o_retD X hx hlk hret (hb hby d_prog_65_method_2_47) (by decide) (by decide) (by rw [eT]; exact ⟨rfl, N, rfl⟩)
def Q_rate1 (Z : State) (a1 pa oa : Addr) (kp ko : ClassId) (mm v0 v1 v2 v3 : Int64) (j0 : Int32) (h0 : Heap) (n0 : Nat) (v : Option Value) (h : Heap) (L : List Loc) : Prop := v = some (.double (FP.l2d (mm + (own_sel v0 v1 v2 v3 j0)))) ∧ Fr n0 L ∧ h = h0
set_option maxRecDepth 65536 in
set_option maxHeartbeats 40000000 in
theorem rm_rate1 (l : Launch) (Z : State) (a0 : Array Value) (hw : ∀ d ∈ tables_1, d.before a0 Z = true) (ws : List Jvm.Cond) (a1 pa oa : Addr) (kp ko : ClassId) (mm v0 v1 v2 v3 : Int64) (j0 : Int32) (h0 : Heap) (n0 : Nat) (Z0 : n0 ≤ h0.size) (F1 : Fld Z h0 a1 "com/example/spillway/spillway/RateModel$Supply" "measured" "D" (.double (FP.l2d mm))) (F2 : Fld Z h0 a1 "com/example/spillway/spillway/RateModel$Supply" "patterns" "[I" (.ref pa)) (Vp : Arv Z h0 pa kp .int 1 [(.int j0)] (.int 0)) (Vo : Arv Z h0 oa ko .double 4 [(.double (FP.l2d v0)), (.double (FP.l2d v1)), (.double (FP.l2d v2)), (.double (FP.l2d v3))] (.double 0)) (R0 : own_R 1 mm) (Rv0 : own_R 1 v0) (Rv1 : own_R 1 v1) (Rv2 : own_R 1 v2) (Rv3 : own_R 1 v3) (hj0 : j0 = 0 ∨ j0 = 1 ∨ j0 = 2 ∨ j0 = 3) :
    Met l Z (⟨"com/example/spillway/spillway/RateModel$Supply", "rate", "([D)D"⟩ : MethodName) prog_65_method_2_code 8 (some .double) ws ({ frames := 0, cells := 0, slots := 0, locals := 0 } : Room) #[(.ref a1), (.ref oa)] h0 (Q_rate1 Z a1 pa oa kp ko mm v0 v1 v2 v3 j0 h0 n0) := by
  refine Met.start (plainFor_of_name pn_1) ?_
  intro p e s m below meth c T X hx hby hml hown hnm hret hlk hZ eT
  have N := Fr.nil n0
  refine Wout.cast (g' := (mkF m 0 #[.val (.ref a1), .val (.ref oa), .unset, .unset, .unset, .unset, .unset, .unset] [])) (by first | rfl | (simp [entryFrame, mkF, argsToLocals, Value.category]; done)) ?_
  have P0 : own_R 1 mm := R0
  have P1 : own_R 2 (mm + (own_sel v0 v1 v2 v3 j0)) := own_Ra (by decide) P0 (own_Rs Rv0 Rv1 Rv2 Rv3 j0)
  refine o_aloadN X hx 1 (hb hby d_prog_65_method_2_0) rfl rfl rfl ?_
  refine o_getF X hx hZ hown (host := "") (Or.inl (hw _ (List.mem_of_getElem? (i := 17) rfl))) Via.refl eT F1 4 (hb hby d_prog_65_method_2_1) rfl (fun T X eT => ?_)
  refine o_dstoreN X hx 5 (Ls' := #[.val (.ref a1), .val (.ref oa), .val (.double (FP.l2d mm)), .second, .unset, .unset, .unset, .unset]) (hb hby d_prog_65_method_2_4) rfl rfl ?_
  refine o_aloadN X hx 6 (hb hby d_prog_65_method_2_5) rfl rfl rfl ?_
  refine o_getF X hx hZ hown (host := "") (Or.inl (hw _ (List.mem_of_getElem? (i := 19) rfl))) Via.refl eT F2 9 (hb hby d_prog_65_method_2_6) rfl (fun T X eT => ?_)
  refine o_astore X hx 11 (Ls' := #[.val (.ref a1), .val (.ref oa), .val (.double (FP.l2d mm)), .second, .val (.ref pa), .unset, .unset, .unset]) (hb hby d_prog_65_method_2_9) rfl rfl rfl ?_
  refine o_aload X hx 13 (hb hby d_prog_65_method_2_11) rfl rfl rfl ?_
  refine o_arraylength X hx hZ eT Vp 14 (hb hby d_prog_65_method_2_13) rfl ?_
  refine o_istore X hx 16 (Ls' := #[.val (.ref a1), .val (.ref oa), .val (.double (FP.l2d mm)), .second, .val (.ref pa), .val (.int (1 : Int32)), .unset, .unset]) (hb hby d_prog_65_method_2_14) rfl rfl ?_
  refine o_iconst X hx 17 (0 : Int32) (hb hby d_prog_65_method_2_16) rfl rfl ?_
  refine o_istore X hx 19 (Ls' := #[.val (.ref a1), .val (.ref oa), .val (.double (FP.l2d mm)), .second, .val (.ref pa), .val (.int (1 : Int32)), .val (.int (0 : Int32)), .unset]) (hb hby d_prog_65_method_2_17) rfl rfl ?_
  refine o_iload X hx 21 (hb hby d_prog_65_method_2_19) rfl rfl ?_
  refine o_iload X hx 23 (hb hby d_prog_65_method_2_21) rfl rfl ?_
  refine o_icmpF X hx 26 (hb hby d_prog_65_method_2_23) rfl (by decide : (0 : Int32) < (1 : Int32)) ?_
  refine o_aload X hx 28 (hb hby d_prog_65_method_2_26) rfl rfl rfl ?_
  refine o_iload X hx 30 (hb hby d_prog_65_method_2_28) rfl rfl ?_
  refine o_iaload X hx hZ eT Vp ⟨by decide, by decide⟩ (v := (.int j0)) rfl 31 (hb hby d_prog_65_method_2_30) rfl ?_
  refine o_istore X hx 33 (Ls' := #[.val (.ref a1), .val (.ref oa), .val (.double (FP.l2d mm)), .second, .val (.ref pa), .val (.int (1 : Int32)), .val (.int (0 : Int32)), .val (.int j0)]) (hb hby d_prog_65_method_2_31) rfl rfl ?_
  refine o_dloadN X hx 34 (hb hby d_prog_65_method_2_33) rfl rfl ?_
  refine o_aloadN X hx 35 (hb hby d_prog_65_method_2_34) rfl rfl rfl ?_
  refine o_iload X hx 37 (hb hby d_prog_65_method_2_35) rfl rfl ?_
  refine o_daload X hx hZ eT Vo (own_jin hj0) (v := (.double (FP.l2d (own_sel v0 v1 v2 v3 j0)))) (own_atD v0 v1 v2 v3 hj0) 38 (hb hby d_prog_65_method_2_37) rfl ?_
  refine o_dadd X hx 39 (FP.l2d (mm + (own_sel v0 v1 v2 v3 j0))) (hb hby d_prog_65_method_2_38) (nn_w (dadd_w (own_RB (by decide) P0) (own_RB (by decide) (own_Rs Rv0 Rv1 Rv2 Rv3 j0)))) (dadd_w (own_RB (by decide) P0) (own_RB (by decide) (own_Rs Rv0 Rv1 Rv2 Rv3 j0))) rfl ?_
  refine o_dstoreN X hx 40 (Ls' := #[.val (.ref a1), .val (.ref oa), .val (.double (FP.l2d (mm + (own_sel v0 v1 v2 v3 j0)))), .second, .val (.ref pa), .val (.int (1 : Int32)), .val (.int (0 : Int32)), .val (.int j0)]) (hb hby d_prog_65_method_2_39) rfl rfl ?_
  refine o_iinc X hx 43 (Ls' := #[.val (.ref a1), .val (.ref oa), .val (.double (FP.l2d (mm + (own_sel v0 v1 v2 v3 j0)))), .second, .val (.ref pa), .val (.int (1 : Int32)), .val (.int ((0 : Int32) + (1 : Int32))), .val (.int j0)]) (1 : Int32) (hb hby d_prog_65_method_2_40) rfl rfl rfl rfl ?_
  rw [show ((0 : Int32) + (1 : Int32)) = (1 : Int32) from by decide]
  refine o_goto X hx 19 (hb hby d_prog_65_method_2_43) rfl ?_
  refine o_iload X hx 21 (hb hby d_prog_65_method_2_19) rfl rfl ?_
  refine o_iload X hx 23 (hb hby d_prog_65_method_2_21) rfl rfl ?_
  refine o_icmpT X hx 46 (hb hby d_prog_65_method_2_23) rfl (by decide : ¬ (1 : Int32) < (1 : Int32)) ?_
  refine o_dloadN X hx 47 (hb hby d_prog_65_method_2_46) rfl rfl ?_
  exact o_retD X hx hlk hret (hb hby d_prog_65_method_2_47) (by decide) (by decide) (by rw [eT]; exact ⟨rfl, N, rfl⟩)
def Q_rate2 (Z : State) (a1 pa oa : Addr) (kp ko : ClassId) (mm v0 v1 v2 v3 : Int64) (j0 j1 : Int32) (h0 : Heap) (n0 : Nat) (v : Option Value) (h : Heap) (L : List Loc) : Prop := v = some (.double (FP.l2d ((mm + (own_sel v0 v1 v2 v3 j0)) + (own_sel v0 v1 v2 v3 j1)))) ∧ Fr n0 L ∧ h = h0
set_option maxRecDepth 65536 in
set_option maxHeartbeats 40000000 in
theorem rm_rate2 (l : Launch) (Z : State) (a0 : Array Value) (hw : ∀ d ∈ tables_1, d.before a0 Z = true) (ws : List Jvm.Cond) (a1 pa oa : Addr) (kp ko : ClassId) (mm v0 v1 v2 v3 : Int64) (j0 j1 : Int32) (h0 : Heap) (n0 : Nat) (Z0 : n0 ≤ h0.size) (F1 : Fld Z h0 a1 "com/example/spillway/spillway/RateModel$Supply" "measured" "D" (.double (FP.l2d mm))) (F2 : Fld Z h0 a1 "com/example/spillway/spillway/RateModel$Supply" "patterns" "[I" (.ref pa)) (Vp : Arv Z h0 pa kp .int 2 [(.int j0), (.int j1)] (.int 0)) (Vo : Arv Z h0 oa ko .double 4 [(.double (FP.l2d v0)), (.double (FP.l2d v1)), (.double (FP.l2d v2)), (.double (FP.l2d v3))] (.double 0)) (R0 : own_R 1 mm) (Rv0 : own_R 1 v0) (Rv1 : own_R 1 v1) (Rv2 : own_R 1 v2) (Rv3 : own_R 1 v3) (hj0 : j0 = 0 ∨ j0 = 1 ∨ j0 = 2 ∨ j0 = 3) (hj1 : j1 = 0 ∨ j1 = 1 ∨ j1 = 2 ∨ j1 = 3) :
    Met l Z (⟨"com/example/spillway/spillway/RateModel$Supply", "rate", "([D)D"⟩ : MethodName) prog_65_method_2_code 8 (some .double) ws ({ frames := 0, cells := 0, slots := 0, locals := 0 } : Room) #[(.ref a1), (.ref oa)] h0 (Q_rate2 Z a1 pa oa kp ko mm v0 v1 v2 v3 j0 j1 h0 n0) := by
  refine Met.start (plainFor_of_name pn_1) ?_
  intro p e s m below meth c T X hx hby hml hown hnm hret hlk hZ eT
  have N := Fr.nil n0
  refine Wout.cast (g' := (mkF m 0 #[.val (.ref a1), .val (.ref oa), .unset, .unset, .unset, .unset, .unset, .unset] [])) (by first | rfl | (simp [entryFrame, mkF, argsToLocals, Value.category]; done)) ?_
  have P0 : own_R 1 mm := R0
  have P1 : own_R 2 (mm + (own_sel v0 v1 v2 v3 j0)) := own_Ra (by decide) P0 (own_Rs Rv0 Rv1 Rv2 Rv3 j0)
  have P2 : own_R 3 ((mm + (own_sel v0 v1 v2 v3 j0)) + (own_sel v0 v1 v2 v3 j1)) := own_Ra (by decide) P1 (own_Rs Rv0 Rv1 Rv2 Rv3 j1)
  refine o_aloadN X hx 1 (hb hby d_prog_65_method_2_0) rfl rfl rfl ?_
  refine o_getF X hx hZ hown (host := "") (Or.inl (hw _ (List.mem_of_getElem? (i := 17) rfl))) Via.refl eT F1 4 (hb hby d_prog_65_method_2_1) rfl (fun T X eT => ?_)
  refine o_dstoreN X hx 5 (Ls' := #[.val (.ref a1), .val (.ref oa), .val (.double (FP.l2d mm)), .second, .unset, .unset, .unset, .unset]) (hb hby d_prog_65_method_2_4) rfl rfl ?_
  refine o_aloadN X hx 6 (hb hby d_prog_65_method_2_5) rfl rfl rfl ?_
  refine o_getF X hx hZ hown (host := "") (Or.inl (hw _ (List.mem_of_getElem? (i := 19) rfl))) Via.refl eT F2 9 (hb hby d_prog_65_method_2_6) rfl (fun T X eT => ?_)
  refine o_astore X hx 11 (Ls' := #[.val (.ref a1), .val (.ref oa), .val (.double (FP.l2d mm)), .second, .val (.ref pa), .unset, .unset, .unset]) (hb hby d_prog_65_method_2_9) rfl rfl rfl ?_
  refine o_aload X hx 13 (hb hby d_prog_65_method_2_11) rfl rfl rfl ?_
  refine o_arraylength X hx hZ eT Vp 14 (hb hby d_prog_65_method_2_13) rfl ?_
  refine o_istore X hx 16 (Ls' := #[.val (.ref a1), .val (.ref oa), .val (.double (FP.l2d mm)), .second, .val (.ref pa), .val (.int (2 : Int32)), .unset, .unset]) (hb hby d_prog_65_method_2_14) rfl rfl ?_
  refine o_iconst X hx 17 (0 : Int32) (hb hby d_prog_65_method_2_16) rfl rfl ?_
  refine o_istore X hx 19 (Ls' := #[.val (.ref a1), .val (.ref oa), .val (.double (FP.l2d mm)), .second, .val (.ref pa), .val (.int (2 : Int32)), .val (.int (0 : Int32)), .unset]) (hb hby d_prog_65_method_2_17) rfl rfl ?_
  refine o_iload X hx 21 (hb hby d_prog_65_method_2_19) rfl rfl ?_
  refine o_iload X hx 23 (hb hby d_prog_65_method_2_21) rfl rfl ?_
  refine o_icmpF X hx 26 (hb hby d_prog_65_method_2_23) rfl (by decide : (0 : Int32) < (2 : Int32)) ?_
  refine o_aload X hx 28 (hb hby d_prog_65_method_2_26) rfl rfl rfl ?_
  refine o_iload X hx 30 (hb hby d_prog_65_method_2_28) rfl rfl ?_
  refine o_iaload X hx hZ eT Vp ⟨by decide, by decide⟩ (v := (.int j0)) rfl 31 (hb hby d_prog_65_method_2_30) rfl ?_
  refine o_istore X hx 33 (Ls' := #[.val (.ref a1), .val (.ref oa), .val (.double (FP.l2d mm)), .second, .val (.ref pa), .val (.int (2 : Int32)), .val (.int (0 : Int32)), .val (.int j0)]) (hb hby d_prog_65_method_2_31) rfl rfl ?_
  refine o_dloadN X hx 34 (hb hby d_prog_65_method_2_33) rfl rfl ?_
  refine o_aloadN X hx 35 (hb hby d_prog_65_method_2_34) rfl rfl rfl ?_
  refine o_iload X hx 37 (hb hby d_prog_65_method_2_35) rfl rfl ?_
  refine o_daload X hx hZ eT Vo (own_jin hj0) (v := (.double (FP.l2d (own_sel v0 v1 v2 v3 j0)))) (own_atD v0 v1 v2 v3 hj0) 38 (hb hby d_prog_65_method_2_37) rfl ?_
  refine o_dadd X hx 39 (FP.l2d (mm + (own_sel v0 v1 v2 v3 j0))) (hb hby d_prog_65_method_2_38) (nn_w (dadd_w (own_RB (by decide) P0) (own_RB (by decide) (own_Rs Rv0 Rv1 Rv2 Rv3 j0)))) (dadd_w (own_RB (by decide) P0) (own_RB (by decide) (own_Rs Rv0 Rv1 Rv2 Rv3 j0))) rfl ?_
  refine o_dstoreN X hx 40 (Ls' := #[.val (.ref a1), .val (.ref oa), .val (.double (FP.l2d (mm + (own_sel v0 v1 v2 v3 j0)))), .second, .val (.ref pa), .val (.int (2 : Int32)), .val (.int (0 : Int32)), .val (.int j0)]) (hb hby d_prog_65_method_2_39) rfl rfl ?_
  refine o_iinc X hx 43 (Ls' := #[.val (.ref a1), .val (.ref oa), .val (.double (FP.l2d (mm + (own_sel v0 v1 v2 v3 j0)))), .second, .val (.ref pa), .val (.int (2 : Int32)), .val (.int ((0 : Int32) + (1 : Int32))), .val (.int j0)]) (1 : Int32) (hb hby d_prog_65_method_2_40) rfl rfl rfl rfl ?_
  rw [show ((0 : Int32) + (1 : Int32)) = (1 : Int32) from by decide]
  refine o_goto X hx 19 (hb hby d_prog_65_method_2_43) rfl ?_
  refine o_iload X hx 21 (hb hby d_prog_65_method_2_19) rfl rfl ?_
  refine o_iload X hx 23 (hb hby d_prog_65_method_2_21) rfl rfl ?_
  refine o_icmpF X hx 26 (hb hby d_prog_65_method_2_23) rfl (by decide : (1 : Int32) < (2 : Int32)) ?_
  refine o_aload X hx 28 (hb hby d_prog_65_method_2_26) rfl rfl rfl ?_
  refine o_iload X hx 30 (hb hby d_prog_65_method_2_28) rfl rfl ?_
  refine o_iaload X hx hZ eT Vp ⟨by decide, by decide⟩ (v := (.int j1)) rfl 31 (hb hby d_prog_65_method_2_30) rfl ?_
  refine o_istore X hx 33 (Ls' := #[.val (.ref a1), .val (.ref oa), .val (.double (FP.l2d (mm + (own_sel v0 v1 v2 v3 j0)))), .second, .val (.ref pa), .val (.int (2 : Int32)), .val (.int (1 : Int32)), .val (.int j1)]) (hb hby d_prog_65_method_2_31) rfl rfl ?_
  refine o_dloadN X hx 34 (hb hby d_prog_65_method_2_33) rfl rfl ?_
  refine o_aloadN X hx 35 (hb hby d_prog_65_method_2_34) rfl rfl rfl ?_
  refine o_iload X hx 37 (hb hby d_prog_65_method_2_35) rfl rfl ?_
  refine o_daload X hx hZ eT Vo (own_jin hj1) (v := (.double (FP.l2d (own_sel v0 v1 v2 v3 j1)))) (own_atD v0 v1 v2 v3 hj1) 38 (hb hby d_prog_65_method_2_37) rfl ?_
  refine o_dadd X hx 39 (FP.l2d ((mm + (own_sel v0 v1 v2 v3 j0)) + (own_sel v0 v1 v2 v3 j1))) (hb hby d_prog_65_method_2_38) (nn_w (dadd_w (own_RB (by decide) P1) (own_RB (by decide) (own_Rs Rv0 Rv1 Rv2 Rv3 j1)))) (dadd_w (own_RB (by decide) P1) (own_RB (by decide) (own_Rs Rv0 Rv1 Rv2 Rv3 j1))) rfl ?_
  refine o_dstoreN X hx 40 (Ls' := #[.val (.ref a1), .val (.ref oa), .val (.double (FP.l2d ((mm + (own_sel v0 v1 v2 v3 j0)) + (own_sel v0 v1 v2 v3 j1)))), .second, .val (.ref pa), .val (.int (2 : Int32)), .val (.int (1 : Int32)), .val (.int j1)]) (hb hby d_prog_65_method_2_39) rfl rfl ?_
  refine o_iinc X hx 43 (Ls' := #[.val (.ref a1), .val (.ref oa), .val (.double (FP.l2d ((mm + (own_sel v0 v1 v2 v3 j0)) + (own_sel v0 v1 v2 v3 j1)))), .second, .val (.ref pa), .val (.int (2 : Int32)), .val (.int ((1 : Int32) + (1 : Int32))), .val (.int j1)]) (1 : Int32) (hb hby d_prog_65_method_2_40) rfl rfl rfl rfl ?_
  rw [show ((1 : Int32) + (1 : Int32)) = (2 : Int32) from by decide]
  refine o_goto X hx 19 (hb hby d_prog_65_method_2_43) rfl ?_
  refine o_iload X hx 21 (hb hby d_prog_65_method_2_19) rfl rfl ?_
  refine o_iload X hx 23 (hb hby d_prog_65_method_2_21) rfl rfl ?_
  refine o_icmpT X hx 46 (hb hby d_prog_65_method_2_23) rfl (by decide : ¬ (2 : Int32) < (2 : Int32)) ?_
  refine o_dloadN X hx 47 (hb hby d_prog_65_method_2_46) rfl rfl ?_
  exact o_retD X hx hlk hret (hb hby d_prog_65_method_2_47) (by decide) (by decide) (by rw [eT]; exact ⟨rfl, N, rfl⟩)
def Q_rate3 (Z : State) (a1 pa oa : Addr) (kp ko : ClassId) (mm v0 v1 v2 v3 : Int64) (j0 j1 j2 : Int32) (h0 : Heap) (n0 : Nat) (v : Option Value) (h : Heap) (L : List Loc) : Prop := v = some (.double (FP.l2d (((mm + (own_sel v0 v1 v2 v3 j0)) + (own_sel v0 v1 v2 v3 j1)) + (own_sel v0 v1 v2 v3 j2)))) ∧ Fr n0 L ∧ h = h0
set_option maxRecDepth 65536 in
set_option maxHeartbeats 40000000 in
theorem rm_rate3 (l : Launch) (Z : State) (a0 : Array Value) (hw : ∀ d ∈ tables_1, d.before a0 Z = true) (ws : List Jvm.Cond) (a1 pa oa : Addr) (kp ko : ClassId) (mm v0 v1 v2 v3 : Int64) (j0 j1 j2 : Int32) (h0 : Heap) (n0 : Nat) (Z0 : n0 ≤ h0.size) (F1 : Fld Z h0 a1 "com/example/spillway/spillway/RateModel$Supply" "measured" "D" (.double (FP.l2d mm))) (F2 : Fld Z h0 a1 "com/example/spillway/spillway/RateModel$Supply" "patterns" "[I" (.ref pa)) (Vp : Arv Z h0 pa kp .int 3 [(.int j0), (.int j1), (.int j2)] (.int 0)) (Vo : Arv Z h0 oa ko .double 4 [(.double (FP.l2d v0)), (.double (FP.l2d v1)), (.double (FP.l2d v2)), (.double (FP.l2d v3))] (.double 0)) (R0 : own_R 1 mm) (Rv0 : own_R 1 v0) (Rv1 : own_R 1 v1) (Rv2 : own_R 1 v2) (Rv3 : own_R 1 v3) (hj0 : j0 = 0 ∨ j0 = 1 ∨ j0 = 2 ∨ j0 = 3) (hj1 : j1 = 0 ∨ j1 = 1 ∨ j1 = 2 ∨ j1 = 3) (hj2 : j2 = 0 ∨ j2 = 1 ∨ j2 = 2 ∨ j2 = 3) :
    Met l Z (⟨"com/example/spillway/spillway/RateModel$Supply", "rate", "([D)D"⟩ : MethodName) prog_65_method_2_code 8 (some .double) ws ({ frames := 0, cells := 0, slots := 0, locals := 0 } : Room) #[(.ref a1), (.ref oa)] h0 (Q_rate3 Z a1 pa oa kp ko mm v0 v1 v2 v3 j0 j1 j2 h0 n0) := by
  refine Met.start (plainFor_of_name pn_1) ?_
  intro p e s m below meth c T X hx hby hml hown hnm hret hlk hZ eT
  have N := Fr.nil n0
  refine Wout.cast (g' := (mkF m 0 #[.val (.ref a1), .val (.ref oa), .unset, .unset, .unset, .unset, .unset, .unset] [])) (by first | rfl | (simp [entryFrame, mkF, argsToLocals, Value.category]; done)) ?_
  have P0 : own_R 1 mm := R0
  have P1 : own_R 2 (mm + (own_sel v0 v1 v2 v3 j0)) := own_Ra (by decide) P0 (own_Rs Rv0 Rv1 Rv2 Rv3 j0)
  have P2 : own_R 3 ((mm + (own_sel v0 v1 v2 v3 j0)) + (own_sel v0 v1 v2 v3 j1)) := own_Ra (by decide) P1 (own_Rs Rv0 Rv1 Rv2 Rv3 j1)
  have P3 : own_R 4 (((mm + (own_sel v0 v1 v2 v3 j0)) + (own_sel v0 v1 v2 v3 j1)) + (own_sel v0 v1 v2 v3 j2)) := own_Ra (by decide) P2 (own_Rs Rv0 Rv1 Rv2 Rv3 j2)
  refine o_aloadN X hx 1 (hb hby d_prog_65_method_2_0) rfl rfl rfl ?_
  refine o_getF X hx hZ hown (host := "") (Or.inl (hw _ (List.mem_of_getElem? (i := 17) rfl))) Via.refl eT F1 4 (hb hby d_prog_65_method_2_1) rfl (fun T X eT => ?_)
  refine o_dstoreN X hx 5 (Ls' := #[.val (.ref a1), .val (.ref oa), .val (.double (FP.l2d mm)), .second, .unset, .unset, .unset, .unset]) (hb hby d_prog_65_method_2_4) rfl rfl ?_
  refine o_aloadN X hx 6 (hb hby d_prog_65_method_2_5) rfl rfl rfl ?_
  refine o_getF X hx hZ hown (host := "") (Or.inl (hw _ (List.mem_of_getElem? (i := 19) rfl))) Via.refl eT F2 9 (hb hby d_prog_65_method_2_6) rfl (fun T X eT => ?_)
  refine o_astore X hx 11 (Ls' := #[.val (.ref a1), .val (.ref oa), .val (.double (FP.l2d mm)), .second, .val (.ref pa), .unset, .unset, .unset]) (hb hby d_prog_65_method_2_9) rfl rfl rfl ?_
  refine o_aload X hx 13 (hb hby d_prog_65_method_2_11) rfl rfl rfl ?_
  refine o_arraylength X hx hZ eT Vp 14 (hb hby d_prog_65_method_2_13) rfl ?_
  refine o_istore X hx 16 (Ls' := #[.val (.ref a1), .val (.ref oa), .val (.double (FP.l2d mm)), .second, .val (.ref pa), .val (.int (3 : Int32)), .unset, .unset]) (hb hby d_prog_65_method_2_14) rfl rfl ?_
  refine o_iconst X hx 17 (0 : Int32) (hb hby d_prog_65_method_2_16) rfl rfl ?_
  refine o_istore X hx 19 (Ls' := #[.val (.ref a1), .val (.ref oa), .val (.double (FP.l2d mm)), .second, .val (.ref pa), .val (.int (3 : Int32)), .val (.int (0 : Int32)), .unset]) (hb hby d_prog_65_method_2_17) rfl rfl ?_
  refine o_iload X hx 21 (hb hby d_prog_65_method_2_19) rfl rfl ?_
  refine o_iload X hx 23 (hb hby d_prog_65_method_2_21) rfl rfl ?_
  refine o_icmpF X hx 26 (hb hby d_prog_65_method_2_23) rfl (by decide : (0 : Int32) < (3 : Int32)) ?_
  refine o_aload X hx 28 (hb hby d_prog_65_method_2_26) rfl rfl rfl ?_
  refine o_iload X hx 30 (hb hby d_prog_65_method_2_28) rfl rfl ?_
  refine o_iaload X hx hZ eT Vp ⟨by decide, by decide⟩ (v := (.int j0)) rfl 31 (hb hby d_prog_65_method_2_30) rfl ?_
  refine o_istore X hx 33 (Ls' := #[.val (.ref a1), .val (.ref oa), .val (.double (FP.l2d mm)), .second, .val (.ref pa), .val (.int (3 : Int32)), .val (.int (0 : Int32)), .val (.int j0)]) (hb hby d_prog_65_method_2_31) rfl rfl ?_
  refine o_dloadN X hx 34 (hb hby d_prog_65_method_2_33) rfl rfl ?_
  refine o_aloadN X hx 35 (hb hby d_prog_65_method_2_34) rfl rfl rfl ?_
  refine o_iload X hx 37 (hb hby d_prog_65_method_2_35) rfl rfl ?_
  refine o_daload X hx hZ eT Vo (own_jin hj0) (v := (.double (FP.l2d (own_sel v0 v1 v2 v3 j0)))) (own_atD v0 v1 v2 v3 hj0) 38 (hb hby d_prog_65_method_2_37) rfl ?_
  refine o_dadd X hx 39 (FP.l2d (mm + (own_sel v0 v1 v2 v3 j0))) (hb hby d_prog_65_method_2_38) (nn_w (dadd_w (own_RB (by decide) P0) (own_RB (by decide) (own_Rs Rv0 Rv1 Rv2 Rv3 j0)))) (dadd_w (own_RB (by decide) P0) (own_RB (by decide) (own_Rs Rv0 Rv1 Rv2 Rv3 j0))) rfl ?_
  refine o_dstoreN X hx 40 (Ls' := #[.val (.ref a1), .val (.ref oa), .val (.double (FP.l2d (mm + (own_sel v0 v1 v2 v3 j0)))), .second, .val (.ref pa), .val (.int (3 : Int32)), .val (.int (0 : Int32)), .val (.int j0)]) (hb hby d_prog_65_method_2_39) rfl rfl ?_
  refine o_iinc X hx 43 (Ls' := #[.val (.ref a1), .val (.ref oa), .val (.double (FP.l2d (mm + (own_sel v0 v1 v2 v3 j0)))), .second, .val (.ref pa), .val (.int (3 : Int32)), .val (.int ((0 : Int32) + (1 : Int32))), .val (.int j0)]) (1 : Int32) (hb hby d_prog_65_method_2_40) rfl rfl rfl rfl ?_
  rw [show ((0 : Int32) + (1 : Int32)) = (1 : Int32) from by decide]
  refine o_goto X hx 19 (hb hby d_prog_65_method_2_43) rfl ?_
  refine o_iload X hx 21 (hb hby d_prog_65_method_2_19) rfl rfl ?_
  refine o_iload X hx 23 (hb hby d_prog_65_method_2_21) rfl rfl ?_
  refine o_icmpF X hx 26 (hb hby d_prog_65_method_2_23) rfl (by decide : (1 : Int32) < (3 : Int32)) ?_
  refine o_aload X hx 28 (hb hby d_prog_65_method_2_26) rfl rfl rfl ?_
  refine o_iload X hx 30 (hb hby d_prog_65_method_2_28) rfl rfl ?_
  refine o_iaload X hx hZ eT Vp ⟨by decide, by decide⟩ (v := (.int j1)) rfl 31 (hb hby d_prog_65_method_2_30) rfl ?_
  refine o_istore X hx 33 (Ls' := #[.val (.ref a1), .val (.ref oa), .val (.double (FP.l2d (mm + (own_sel v0 v1 v2 v3 j0)))), .second, .val (.ref pa), .val (.int (3 : Int32)), .val (.int (1 : Int32)), .val (.int j1)]) (hb hby d_prog_65_method_2_31) rfl rfl ?_
  refine o_dloadN X hx 34 (hb hby d_prog_65_method_2_33) rfl rfl ?_
  refine o_aloadN X hx 35 (hb hby d_prog_65_method_2_34) rfl rfl rfl ?_
  refine o_iload X hx 37 (hb hby d_prog_65_method_2_35) rfl rfl ?_
  refine o_daload X hx hZ eT Vo (own_jin hj1) (v := (.double (FP.l2d (own_sel v0 v1 v2 v3 j1)))) (own_atD v0 v1 v2 v3 hj1) 38 (hb hby d_prog_65_method_2_37) rfl ?_
  refine o_dadd X hx 39 (FP.l2d ((mm + (own_sel v0 v1 v2 v3 j0)) + (own_sel v0 v1 v2 v3 j1))) (hb hby d_prog_65_method_2_38) (nn_w (dadd_w (own_RB (by decide) P1) (own_RB (by decide) (own_Rs Rv0 Rv1 Rv2 Rv3 j1)))) (dadd_w (own_RB (by decide) P1) (own_RB (by decide) (own_Rs Rv0 Rv1 Rv2 Rv3 j1))) rfl ?_
  refine o_dstoreN X hx 40 (Ls' := #[.val (.ref a1), .val (.ref oa), .val (.double (FP.l2d ((mm + (own_sel v0 v1 v2 v3 j0)) + (own_sel v0 v1 v2 v3 j1)))), .second, .val (.ref pa), .val (.int (3 : Int32)), .val (.int (1 : Int32)), .val (.int j1)]) (hb hby d_prog_65_method_2_39) rfl rfl ?_
  refine o_iinc X hx 43 (Ls' := #[.val (.ref a1), .val (.ref oa), .val (.double (FP.l2d ((mm + (own_sel v0 v1 v2 v3 j0)) + (own_sel v0 v1 v2 v3 j1)))), .second, .val (.ref pa), .val (.int (3 : Int32)), .val (.int ((1 : Int32) + (1 : Int32))), .val (.int j1)]) (1 : Int32) (hb hby d_prog_65_method_2_40) rfl rfl rfl rfl ?_
  rw [show ((1 : Int32) + (1 : Int32)) = (2 : Int32) from by decide]
  refine o_goto X hx 19 (hb hby d_prog_65_method_2_43) rfl ?_
  refine o_iload X hx 21 (hb hby d_prog_65_method_2_19) rfl rfl ?_
  refine o_iload X hx 23 (hb hby d_prog_65_method_2_21) rfl rfl ?_
  refine o_icmpF X hx 26 (hb hby d_prog_65_method_2_23) rfl (by decide : (2 : Int32) < (3 : Int32)) ?_
  refine o_aload X hx 28 (hb hby d_prog_65_method_2_26) rfl rfl rfl ?_
  refine o_iload X hx 30 (hb hby d_prog_65_method_2_28) rfl rfl ?_
  refine o_iaload X hx hZ eT Vp ⟨by decide, by decide⟩ (v := (.int j2)) rfl 31 (hb hby d_prog_65_method_2_30) rfl ?_
  refine o_istore X hx 33 (Ls' := #[.val (.ref a1), .val (.ref oa), .val (.double (FP.l2d ((mm + (own_sel v0 v1 v2 v3 j0)) + (own_sel v0 v1 v2 v3 j1)))), .second, .val (.ref pa), .val (.int (3 : Int32)), .val (.int (2 : Int32)), .val (.int j2)]) (hb hby d_prog_65_method_2_31) rfl rfl ?_
  refine o_dloadN X hx 34 (hb hby d_prog_65_method_2_33) rfl rfl ?_
  refine o_aloadN X hx 35 (hb hby d_prog_65_method_2_34) rfl rfl rfl ?_
  refine o_iload X hx 37 (hb hby d_prog_65_method_2_35) rfl rfl ?_
  refine o_daload X hx hZ eT Vo (own_jin hj2) (v := (.double (FP.l2d (own_sel v0 v1 v2 v3 j2)))) (own_atD v0 v1 v2 v3 hj2) 38 (hb hby d_prog_65_method_2_37) rfl ?_
  refine o_dadd X hx 39 (FP.l2d (((mm + (own_sel v0 v1 v2 v3 j0)) + (own_sel v0 v1 v2 v3 j1)) + (own_sel v0 v1 v2 v3 j2))) (hb hby d_prog_65_method_2_38) (nn_w (dadd_w (own_RB (by decide) P2) (own_RB (by decide) (own_Rs Rv0 Rv1 Rv2 Rv3 j2)))) (dadd_w (own_RB (by decide) P2) (own_RB (by decide) (own_Rs Rv0 Rv1 Rv2 Rv3 j2))) rfl ?_
  refine o_dstoreN X hx 40 (Ls' := #[.val (.ref a1), .val (.ref oa), .val (.double (FP.l2d (((mm + (own_sel v0 v1 v2 v3 j0)) + (own_sel v0 v1 v2 v3 j1)) + (own_sel v0 v1 v2 v3 j2)))), .second, .val (.ref pa), .val (.int (3 : Int32)), .val (.int (2 : Int32)), .val (.int j2)]) (hb hby d_prog_65_method_2_39) rfl rfl ?_
  refine o_iinc X hx 43 (Ls' := #[.val (.ref a1), .val (.ref oa), .val (.double (FP.l2d (((mm + (own_sel v0 v1 v2 v3 j0)) + (own_sel v0 v1 v2 v3 j1)) + (own_sel v0 v1 v2 v3 j2)))), .second, .val (.ref pa), .val (.int (3 : Int32)), .val (.int ((2 : Int32) + (1 : Int32))), .val (.int j2)]) (1 : Int32) (hb hby d_prog_65_method_2_40) rfl rfl rfl rfl ?_
  rw [show ((2 : Int32) + (1 : Int32)) = (3 : Int32) from by decide]
  refine o_goto X hx 19 (hb hby d_prog_65_method_2_43) rfl ?_
  refine o_iload X hx 21 (hb hby d_prog_65_method_2_19) rfl rfl ?_
  refine o_iload X hx 23 (hb hby d_prog_65_method_2_21) rfl rfl ?_
  refine o_icmpT X hx 46 (hb hby d_prog_65_method_2_23) rfl (by decide : ¬ (3 : Int32) < (3 : Int32)) ?_
  refine o_dloadN X hx 47 (hb hby d_prog_65_method_2_46) rfl rfl ?_
  exact o_retD X hx hlk hret (hb hby d_prog_65_method_2_47) (by decide) (by decide) (by rw [eT]; exact ⟨rfl, N, rfl⟩)
def Q_rate4 (Z : State) (a1 pa oa : Addr) (kp ko : ClassId) (mm v0 v1 v2 v3 : Int64) (j0 j1 j2 j3 : Int32) (h0 : Heap) (n0 : Nat) (v : Option Value) (h : Heap) (L : List Loc) : Prop := v = some (.double (FP.l2d ((((mm + (own_sel v0 v1 v2 v3 j0)) + (own_sel v0 v1 v2 v3 j1)) + (own_sel v0 v1 v2 v3 j2)) + (own_sel v0 v1 v2 v3 j3)))) ∧ Fr n0 L ∧ h = h0
set_option maxRecDepth 65536 in
set_option maxHeartbeats 40000000 in
theorem rm_rate4 (l : Launch) (Z : State) (a0 : Array Value) (hw : ∀ d ∈ tables_1, d.before a0 Z = true) (ws : List Jvm.Cond) (a1 pa oa : Addr) (kp ko : ClassId) (mm v0 v1 v2 v3 : Int64) (j0 j1 j2 j3 : Int32) (h0 : Heap) (n0 : Nat) (Z0 : n0 ≤ h0.size) (F1 : Fld Z h0 a1 "com/example/spillway/spillway/RateModel$Supply" "measured" "D" (.double (FP.l2d mm))) (F2 : Fld Z h0 a1 "com/example/spillway/spillway/RateModel$Supply" "patterns" "[I" (.ref pa)) (Vp : Arv Z h0 pa kp .int 4 [(.int j0), (.int j1), (.int j2), (.int j3)] (.int 0)) (Vo : Arv Z h0 oa ko .double 4 [(.double (FP.l2d v0)), (.double (FP.l2d v1)), (.double (FP.l2d v2)), (.double (FP.l2d v3))] (.double 0)) (R0 : own_R 1 mm) (Rv0 : own_R 1 v0) (Rv1 : own_R 1 v1) (Rv2 : own_R 1 v2) (Rv3 : own_R 1 v3) (hj0 : j0 = 0 ∨ j0 = 1 ∨ j0 = 2 ∨ j0 = 3) (hj1 : j1 = 0 ∨ j1 = 1 ∨ j1 = 2 ∨ j1 = 3) (hj2 : j2 = 0 ∨ j2 = 1 ∨ j2 = 2 ∨ j2 = 3) (hj3 : j3 = 0 ∨ j3 = 1 ∨ j3 = 2 ∨ j3 = 3) :
    Met l Z (⟨"com/example/spillway/spillway/RateModel$Supply", "rate", "([D)D"⟩ : MethodName) prog_65_method_2_code 8 (some .double) ws ({ frames := 0, cells := 0, slots := 0, locals := 0 } : Room) #[(.ref a1), (.ref oa)] h0 (Q_rate4 Z a1 pa oa kp ko mm v0 v1 v2 v3 j0 j1 j2 j3 h0 n0) := by
  refine Met.start (plainFor_of_name pn_1) ?_
  intro p e s m below meth c T X hx hby hml hown hnm hret hlk hZ eT
  have N := Fr.nil n0
  refine Wout.cast (g' := (mkF m 0 #[.val (.ref a1), .val (.ref oa), .unset, .unset, .unset, .unset, .unset, .unset] [])) (by first | rfl | (simp [entryFrame, mkF, argsToLocals, Value.category]; done)) ?_
  have P0 : own_R 1 mm := R0
  have P1 : own_R 2 (mm + (own_sel v0 v1 v2 v3 j0)) := own_Ra (by decide) P0 (own_Rs Rv0 Rv1 Rv2 Rv3 j0)
  have P2 : own_R 3 ((mm + (own_sel v0 v1 v2 v3 j0)) + (own_sel v0 v1 v2 v3 j1)) := own_Ra (by decide) P1 (own_Rs Rv0 Rv1 Rv2 Rv3 j1)
  have P3 : own_R 4 (((mm + (own_sel v0 v1 v2 v3 j0)) + (own_sel v0 v1 v2 v3 j1)) + (own_sel v0 v1 v2 v3 j2)) := own_Ra (by decide) P2 (own_Rs Rv0 Rv1 Rv2 Rv3 j2)
  have P4 : own_R 5 ((((mm + (own_sel v0 v1 v2 v3 j0)) + (own_sel v0 v1 v2 v3 j1)) + (own_sel v0 v1 v2 v3 j2)) + (own_sel v0 v1 v2 v3 j3)) := own_Ra (by decide) P3 (own_Rs Rv0 Rv1 Rv2 Rv3 j3)
  refine o_aloadN X hx 1 (hb hby d_prog_65_method_2_0) rfl rfl rfl ?_
  refine o_getF X hx hZ hown (host := "") (Or.inl (hw _ (List.mem_of_getElem? (i := 17) rfl))) Via.refl eT F1 4 (hb hby d_prog_65_method_2_1) rfl (fun T X eT => ?_)
  refine o_dstoreN X hx 5 (Ls' := #[.val (.ref a1), .val (.ref oa), .val (.double (FP.l2d mm)), .second, .unset, .unset, .unset, .unset]) (hb hby d_prog_65_method_2_4) rfl rfl ?_
  refine o_aloadN X hx 6 (hb hby d_prog_65_method_2_5) rfl rfl rfl ?_
  refine o_getF X hx hZ hown (host := "") (Or.inl (hw _ (List.mem_of_getElem? (i := 19) rfl))) Via.refl eT F2 9 (hb hby d_prog_65_method_2_6) rfl (fun T X eT => ?_)
  refine o_astore X hx 11 (Ls' := #[.val (.ref a1), .val (.ref oa), .val (.double (FP.l2d mm)), .second, .val (.ref pa), .unset, .unset, .unset]) (hb hby d_prog_65_method_2_9) rfl rfl rfl ?_
  refine o_aload X hx 13 (hb hby d_prog_65_method_2_11) rfl rfl rfl ?_
  refine o_arraylength X hx hZ eT Vp 14 (hb hby d_prog_65_method_2_13) rfl ?_
  refine o_istore X hx 16 (Ls' := #[.val (.ref a1), .val (.ref oa), .val (.double (FP.l2d mm)), .second, .val (.ref pa), .val (.int (4 : Int32)), .unset, .unset]) (hb hby d_prog_65_method_2_14) rfl rfl ?_
  refine o_iconst X hx 17 (0 : Int32) (hb hby d_prog_65_method_2_16) rfl rfl ?_
  refine o_istore X hx 19 (Ls' := #[.val (.ref a1), .val (.ref oa), .val (.double (FP.l2d mm)), .second, .val (.ref pa), .val (.int (4 : Int32)), .val (.int (0 : Int32)), .unset]) (hb hby d_prog_65_method_2_17) rfl rfl ?_
  refine o_iload X hx 21 (hb hby d_prog_65_method_2_19) rfl rfl ?_
  refine o_iload X hx 23 (hb hby d_prog_65_method_2_21) rfl rfl ?_
  refine o_icmpF X hx 26 (hb hby d_prog_65_method_2_23) rfl (by decide : (0 : Int32) < (4 : Int32)) ?_
  refine o_aload X hx 28 (hb hby d_prog_65_method_2_26) rfl rfl rfl ?_
  refine o_iload X hx 30 (hb hby d_prog_65_method_2_28) rfl rfl ?_
  refine o_iaload X hx hZ eT Vp ⟨by decide, by decide⟩ (v := (.int j0)) rfl 31 (hb hby d_prog_65_method_2_30) rfl ?_
  refine o_istore X hx 33 (Ls' := #[.val (.ref a1), .val (.ref oa), .val (.double (FP.l2d mm)), .second, .val (.ref pa), .val (.int (4 : Int32)), .val (.int (0 : Int32)), .val (.int j0)]) (hb hby d_prog_65_method_2_31) rfl rfl ?_
  refine o_dloadN X hx 34 (hb hby d_prog_65_method_2_33) rfl rfl ?_
  refine o_aloadN X hx 35 (hb hby d_prog_65_method_2_34) rfl rfl rfl ?_
  refine o_iload X hx 37 (hb hby d_prog_65_method_2_35) rfl rfl ?_
  refine o_daload X hx hZ eT Vo (own_jin hj0) (v := (.double (FP.l2d (own_sel v0 v1 v2 v3 j0)))) (own_atD v0 v1 v2 v3 hj0) 38 (hb hby d_prog_65_method_2_37) rfl ?_
  refine o_dadd X hx 39 (FP.l2d (mm + (own_sel v0 v1 v2 v3 j0))) (hb hby d_prog_65_method_2_38) (nn_w (dadd_w (own_RB (by decide) P0) (own_RB (by decide) (own_Rs Rv0 Rv1 Rv2 Rv3 j0)))) (dadd_w (own_RB (by decide) P0) (own_RB (by decide) (own_Rs Rv0 Rv1 Rv2 Rv3 j0))) rfl ?_
  refine o_dstoreN X hx 40 (Ls' := #[.val (.ref a1), .val (.ref oa), .val (.double (FP.l2d (mm + (own_sel v0 v1 v2 v3 j0)))), .second, .val (.ref pa), .val (.int (4 : Int32)), .val (.int (0 : Int32)), .val (.int j0)]) (hb hby d_prog_65_method_2_39) rfl rfl ?_
  refine o_iinc X hx 43 (Ls' := #[.val (.ref a1), .val (.ref oa), .val (.double (FP.l2d (mm + (own_sel v0 v1 v2 v3 j0)))), .second, .val (.ref pa), .val (.int (4 : Int32)), .val (.int ((0 : Int32) + (1 : Int32))), .val (.int j0)]) (1 : Int32) (hb hby d_prog_65_method_2_40) rfl rfl rfl rfl ?_
  rw [show ((0 : Int32) + (1 : Int32)) = (1 : Int32) from by decide]
  refine o_goto X hx 19 (hb hby d_prog_65_method_2_43) rfl ?_
  refine o_iload X hx 21 (hb hby d_prog_65_method_2_19) rfl rfl ?_
  refine o_iload X hx 23 (hb hby d_prog_65_method_2_21) rfl rfl ?_
  refine o_icmpF X hx 26 (hb hby d_prog_65_method_2_23) rfl (by decide : (1 : Int32) < (4 : Int32)) ?_
  refine o_aload X hx 28 (hb hby d_prog_65_method_2_26) rfl rfl rfl ?_
  refine o_iload X hx 30 (hb hby d_prog_65_method_2_28) rfl rfl ?_
  refine o_iaload X hx hZ eT Vp ⟨by decide, by decide⟩ (v := (.int j1)) rfl 31 (hb hby d_prog_65_method_2_30) rfl ?_
  refine o_istore X hx 33 (Ls' := #[.val (.ref a1), .val (.ref oa), .val (.double (FP.l2d (mm + (own_sel v0 v1 v2 v3 j0)))), .second, .val (.ref pa), .val (.int (4 : Int32)), .val (.int (1 : Int32)), .val (.int j1)]) (hb hby d_prog_65_method_2_31) rfl rfl ?_
  refine o_dloadN X hx 34 (hb hby d_prog_65_method_2_33) rfl rfl ?_
  refine o_aloadN X hx 35 (hb hby d_prog_65_method_2_34) rfl rfl rfl ?_
  refine o_iload X hx 37 (hb hby d_prog_65_method_2_35) rfl rfl ?_
  refine o_daload X hx hZ eT Vo (own_jin hj1) (v := (.double (FP.l2d (own_sel v0 v1 v2 v3 j1)))) (own_atD v0 v1 v2 v3 hj1) 38 (hb hby d_prog_65_method_2_37) rfl ?_
  refine o_dadd X hx 39 (FP.l2d ((mm + (own_sel v0 v1 v2 v3 j0)) + (own_sel v0 v1 v2 v3 j1))) (hb hby d_prog_65_method_2_38) (nn_w (dadd_w (own_RB (by decide) P1) (own_RB (by decide) (own_Rs Rv0 Rv1 Rv2 Rv3 j1)))) (dadd_w (own_RB (by decide) P1) (own_RB (by decide) (own_Rs Rv0 Rv1 Rv2 Rv3 j1))) rfl ?_
  refine o_dstoreN X hx 40 (Ls' := #[.val (.ref a1), .val (.ref oa), .val (.double (FP.l2d ((mm + (own_sel v0 v1 v2 v3 j0)) + (own_sel v0 v1 v2 v3 j1)))), .second, .val (.ref pa), .val (.int (4 : Int32)), .val (.int (1 : Int32)), .val (.int j1)]) (hb hby d_prog_65_method_2_39) rfl rfl ?_
  refine o_iinc X hx 43 (Ls' := #[.val (.ref a1), .val (.ref oa), .val (.double (FP.l2d ((mm + (own_sel v0 v1 v2 v3 j0)) + (own_sel v0 v1 v2 v3 j1)))), .second, .val (.ref pa), .val (.int (4 : Int32)), .val (.int ((1 : Int32) + (1 : Int32))), .val (.int j1)]) (1 : Int32) (hb hby d_prog_65_method_2_40) rfl rfl rfl rfl ?_
  rw [show ((1 : Int32) + (1 : Int32)) = (2 : Int32) from by decide]
  refine o_goto X hx 19 (hb hby d_prog_65_method_2_43) rfl ?_
  refine o_iload X hx 21 (hb hby d_prog_65_method_2_19) rfl rfl ?_
  refine o_iload X hx 23 (hb hby d_prog_65_method_2_21) rfl rfl ?_
  refine o_icmpF X hx 26 (hb hby d_prog_65_method_2_23) rfl (by decide : (2 : Int32) < (4 : Int32)) ?_
  refine o_aload X hx 28 (hb hby d_prog_65_method_2_26) rfl rfl rfl ?_
  refine o_iload X hx 30 (hb hby d_prog_65_method_2_28) rfl rfl ?_
  refine o_iaload X hx hZ eT Vp ⟨by decide, by decide⟩ (v := (.int j2)) rfl 31 (hb hby d_prog_65_method_2_30) rfl ?_
  refine o_istore X hx 33 (Ls' := #[.val (.ref a1), .val (.ref oa), .val (.double (FP.l2d ((mm + (own_sel v0 v1 v2 v3 j0)) + (own_sel v0 v1 v2 v3 j1)))), .second, .val (.ref pa), .val (.int (4 : Int32)), .val (.int (2 : Int32)), .val (.int j2)]) (hb hby d_prog_65_method_2_31) rfl rfl ?_
  refine o_dloadN X hx 34 (hb hby d_prog_65_method_2_33) rfl rfl ?_
  refine o_aloadN X hx 35 (hb hby d_prog_65_method_2_34) rfl rfl rfl ?_
  refine o_iload X hx 37 (hb hby d_prog_65_method_2_35) rfl rfl ?_
  refine o_daload X hx hZ eT Vo (own_jin hj2) (v := (.double (FP.l2d (own_sel v0 v1 v2 v3 j2)))) (own_atD v0 v1 v2 v3 hj2) 38 (hb hby d_prog_65_method_2_37) rfl ?_
  refine o_dadd X hx 39 (FP.l2d (((mm + (own_sel v0 v1 v2 v3 j0)) + (own_sel v0 v1 v2 v3 j1)) + (own_sel v0 v1 v2 v3 j2))) (hb hby d_prog_65_method_2_38) (nn_w (dadd_w (own_RB (by decide) P2) (own_RB (by decide) (own_Rs Rv0 Rv1 Rv2 Rv3 j2)))) (dadd_w (own_RB (by decide) P2) (own_RB (by decide) (own_Rs Rv0 Rv1 Rv2 Rv3 j2))) rfl ?_
  refine o_dstoreN X hx 40 (Ls' := #[.val (.ref a1), .val (.ref oa), .val (.double (FP.l2d (((mm + (own_sel v0 v1 v2 v3 j0)) + (own_sel v0 v1 v2 v3 j1)) + (own_sel v0 v1 v2 v3 j2)))), .second, .val (.ref pa), .val (.int (4 : Int32)), .val (.int (2 : Int32)), .val (.int j2)]) (hb hby d_prog_65_method_2_39) rfl rfl ?_
  refine o_iinc X hx 43 (Ls' := #[.val (.ref a1), .val (.ref oa), .val (.double (FP.l2d (((mm + (own_sel v0 v1 v2 v3 j0)) + (own_sel v0 v1 v2 v3 j1)) + (own_sel v0 v1 v2 v3 j2)))), .second, .val (.ref pa), .val (.int (4 : Int32)), .val (.int ((2 : Int32) + (1 : Int32))), .val (.int j2)]) (1 : Int32) (hb hby d_prog_65_method_2_40) rfl rfl rfl rfl ?_
  rw [show ((2 : Int32) + (1 : Int32)) = (3 : Int32) from by decide]
  refine o_goto X hx 19 (hb hby d_prog_65_method_2_43) rfl ?_
  refine o_iload X hx 21 (hb hby d_prog_65_method_2_19) rfl rfl ?_
  refine o_iload X hx 23 (hb hby d_prog_65_method_2_21) rfl rfl ?_
  refine o_icmpF X hx 26 (hb hby d_prog_65_method_2_23) rfl (by decide : (3 : Int32) < (4 : Int32)) ?_
  refine o_aload X hx 28 (hb hby d_prog_65_method_2_26) rfl rfl rfl ?_
  refine o_iload X hx 30 (hb hby d_prog_65_method_2_28) rfl rfl ?_
  refine o_iaload X hx hZ eT Vp ⟨by decide, by decide⟩ (v := (.int j3)) rfl 31 (hb hby d_prog_65_method_2_30) rfl ?_
  refine o_istore X hx 33 (Ls' := #[.val (.ref a1), .val (.ref oa), .val (.double (FP.l2d (((mm + (own_sel v0 v1 v2 v3 j0)) + (own_sel v0 v1 v2 v3 j1)) + (own_sel v0 v1 v2 v3 j2)))), .second, .val (.ref pa), .val (.int (4 : Int32)), .val (.int (3 : Int32)), .val (.int j3)]) (hb hby d_prog_65_method_2_31) rfl rfl ?_
  refine o_dloadN X hx 34 (hb hby d_prog_65_method_2_33) rfl rfl ?_
  refine o_aloadN X hx 35 (hb hby d_prog_65_method_2_34) rfl rfl rfl ?_
  refine o_iload X hx 37 (hb hby d_prog_65_method_2_35) rfl rfl ?_
  refine o_daload X hx hZ eT Vo (own_jin hj3) (v := (.double (FP.l2d (own_sel v0 v1 v2 v3 j3)))) (own_atD v0 v1 v2 v3 hj3) 38 (hb hby d_prog_65_method_2_37) rfl ?_
  refine o_dadd X hx 39 (FP.l2d ((((mm + (own_sel v0 v1 v2 v3 j0)) + (own_sel v0 v1 v2 v3 j1)) + (own_sel v0 v1 v2 v3 j2)) + (own_sel v0 v1 v2 v3 j3))) (hb hby d_prog_65_method_2_38) (nn_w (dadd_w (own_RB (by decide) P3) (own_RB (by decide) (own_Rs Rv0 Rv1 Rv2 Rv3 j3)))) (dadd_w (own_RB (by decide) P3) (own_RB (by decide) (own_Rs Rv0 Rv1 Rv2 Rv3 j3))) rfl ?_
  refine o_dstoreN X hx 40 (Ls' := #[.val (.ref a1), .val (.ref oa), .val (.double (FP.l2d ((((mm + (own_sel v0 v1 v2 v3 j0)) + (own_sel v0 v1 v2 v3 j1)) + (own_sel v0 v1 v2 v3 j2)) + (own_sel v0 v1 v2 v3 j3)))), .second, .val (.ref pa), .val (.int (4 : Int32)), .val (.int (3 : Int32)), .val (.int j3)]) (hb hby d_prog_65_method_2_39) rfl rfl ?_
  refine o_iinc X hx 43 (Ls' := #[.val (.ref a1), .val (.ref oa), .val (.double (FP.l2d ((((mm + (own_sel v0 v1 v2 v3 j0)) + (own_sel v0 v1 v2 v3 j1)) + (own_sel v0 v1 v2 v3 j2)) + (own_sel v0 v1 v2 v3 j3)))), .second, .val (.ref pa), .val (.int (4 : Int32)), .val (.int ((3 : Int32) + (1 : Int32))), .val (.int j3)]) (1 : Int32) (hb hby d_prog_65_method_2_40) rfl rfl rfl rfl ?_
  rw [show ((3 : Int32) + (1 : Int32)) = (4 : Int32) from by decide]
  refine o_goto X hx 19 (hb hby d_prog_65_method_2_43) rfl ?_
  refine o_iload X hx 21 (hb hby d_prog_65_method_2_19) rfl rfl ?_
  refine o_iload X hx 23 (hb hby d_prog_65_method_2_21) rfl rfl ?_
  refine o_icmpT X hx 46 (hb hby d_prog_65_method_2_23) rfl (by decide : ¬ (4 : Int32) < (4 : Int32)) ?_
  refine o_dloadN X hx 47 (hb hby d_prog_65_method_2_46) rfl rfl ?_
  exact o_retD X hx hlk hret (hb hby d_prog_65_method_2_47) (by decide) (by decide) (by rw [eT]; exact ⟨rfl, N, rfl⟩)
theorem pn_2 : plainName "com/example/spillway/spillway/SupplyRatePinLaw" = true := by first | (simp [plainName, overriddenIn]; done) | decide +kernel
theorem pd_1 : parseMethodDescriptor "(D[I)V" = some ⟨[.double, (.array .int)], none⟩ := by decide +kernel
theorem pd_2 : parseMethodDescriptor "([D)D" = some ⟨[(.array .double)], some .double⟩ := by decide +kernel
def Q_law (Z : State) (p1 : Int32) (p2 p3 : Int64) (p4 : Int32) (h0 : Heap) (n0 : Nat) (v : Option Value) (h : Heap) (L : List Loc) : Prop := v = some (.int 1) ∧ Fr n0 L ∧ True
set_option maxRecDepth 65536 in
set_option maxHeartbeats 40000000 in
theorem rm_law (l : Launch) (Z : State) (a0 : Array Value) (hw : ∀ d ∈ tables_1, d.before a0 Z = true) (ws : List Jvm.Cond) (p1 : Int32) (p2 p3 : Int64) (p4 : Int32) (h0 : Heap) (n0 : Nat) (Z0 : n0 ≤ h0.size)  :
    Met l Z x code maxLocals ret ws room_1 #[(.int p1), (.long p2), (.long p3), (.int p4)] h0 (Q_law Z p1 p2 p3 p4 h0 n0) := by
  refine Met.start (plainFor_of_name pn_2) ?_
  intro p e s m below meth c T X hx hby hml hown hnm hret hlk hZ eT
  have N := Fr.nil n0
  refine Wout.cast (g' := (mkF m 0 #[.val (.int p1), .val (.long p2), .second, .val (.long p3), .second, .val (.int p4), .unset, .unset, .unset, .unset, .unset, .unset, .unset, .unset, .unset] [])) (by first | rfl | (simp [entryFrame, mkF, argsToLocals, Value.category, maxLocals]; done)) ?_
  refine o_iload X hx 2 (hb hby at_0) rfl rfl ?_
  refine o_bipush X hx 4 (7 : Int32) (hb hby at_2) rfl rfl ?_
  refine o_iand X hx 5 (hb hby at_4) rfl ?_
  refine o_iconst X hx 6 (5 : Int32) (hb hby at_5) rfl rfl ?_
  refine o_irem X hx 7 (hb hby at_6) (by decide) rfl ?_
  obtain ⟨n, h_n⟩ : ∃ z, z = ((p4 &&& (7 : Int32)) % (5 : Int32)) := ⟨_, rfl⟩
  rw [← h_n]
  have hn : 0 ≤ n.toInt ∧ n.toInt < 5 := by rw [h_n]; exact rem_in (n := 5) (own_cnt p4) (by decide)
  clear h_n
  refine o_istore X hx 9 (Ls' := #[.val (.int p1), .val (.long p2), .second, .val (.long p3), .second, .val (.int p4), .val (.int n), .unset, .unset, .unset, .unset, .unset, .unset, .unset, .unset]) (hb hby at_7) rfl rfl ?_
  refine o_iconst X hx 10 (4 : Int32) (hb hby at_9) rfl rfl ?_
  refine o_newarray X hx hZ (hw _ (List.mem_of_getElem? (i := 0) rfl)) eT 12 (hb hby at_10) rfl (by decide) 4 (by decide) (by decide) (by decide) (by decide) (fun T h1 b1 k1 hb1 X eT E A => ?_)
  have g_b1 : n0 ≤ b1 := Nat.le_trans Z0 (Nat.le_of_eq hb1.symm)
  replace Z0 := Nat.le_trans Z0 E.1
  have V_b1 : Arv Z h1 b1 k1 .int (4 : Int32) [(.int (0 : Int32)), (.int (0 : Int32)), (.int (0 : Int32)), (.int (0 : Int32))] (.int (0 : Int32)) := A.pad (pad_rep [] (.int (0 : Int32)) 4)
  refine o_dup X hx 13 (hb hby at_12) rfl rfl ?_
  refine o_iconst X hx 14 (0 : Int32) (hb hby at_13) rfl rfl ?_
  refine o_iload X hx 16 (hb hby at_14) rfl rfl ?_
  refine o_iconst X hx 17 (3 : Int32) (hb hby at_16) rfl rfl ?_
  refine o_iushr X hx 18 (hb hby at_17) rfl ?_
  refine o_iconst X hx 19 (3 : Int32) (hb hby at_18) rfl rfl ?_
  refine o_iand X hx 20 (hb hby at_19) rfl ?_
  obtain ⟨j0, h_j0⟩ : ∃ z, z = ((XT.ushr p4 (3 : Int32)) &&& (3 : Int32)) := ⟨_, rfl⟩
  rw [← h_j0]
  have hj0 := own_j (XT.ushr p4 (3 : Int32))
  rw [← h_j0] at hj0
  refine o_iastore X hx hZ eT V_b1 ⟨by decide, by decide⟩ 0 rfl (Nat.le_of_ble_eq_true rfl) (vs' := [(.int j0), (.int (0 : Int32)), (.int (0 : Int32)), (.int (0 : Int32))]) rfl N g_b1 21 (hb hby at_20) rfl (fun T h2 locs X eT W V' N => ?_)
  replace Z0 := Nat.le_trans Z0 (Keep.of_wr W).1
  replace V_b1 := V'
  refine o_dup X hx 22 (hb hby at_21) rfl rfl ?_
  refine o_iconst X hx 23 (1 : Int32) (hb hby at_22) rfl rfl ?_
  refine o_iload X hx 25 (hb hby at_23) rfl rfl ?_
  refine o_iconst X hx 26 (5 : Int32) (hb hby at_25) rfl rfl ?_
  refine o_iushr X hx 27 (hb hby at_26) rfl ?_
  refine o_iconst X hx 28 (3 : Int32) (hb hby at_27) rfl rfl ?_
  refine o_iand X hx 29 (hb hby at_28) rfl ?_
  obtain ⟨j1, h_j1⟩ : ∃ z, z = ((XT.ushr p4 (5 : Int32)) &&& (3 : Int32)) := ⟨_, rfl⟩
  rw [← h_j1]
  have hj1 := own_j (XT.ushr p4 (5 : Int32))
  rw [← h_j1] at hj1
  refine o_iastore X hx hZ eT V_b1 ⟨by decide, by decide⟩ 1 rfl (Nat.le_of_ble_eq_true rfl) (vs' := [(.int j0), (.int j1), (.int (0 : Int32)), (.int (0 : Int32))]) rfl N g_b1 30 (hb hby at_29) rfl (fun T h3 locs X eT W V' N => ?_)
  replace Z0 := Nat.le_trans Z0 (Keep.of_wr W).1
  replace V_b1 := V'
  refine o_dup X hx 31 (hb hby at_30) rfl rfl ?_
  refine o_iconst X hx 32 (2 : Int32) (hb hby at_31) rfl rfl ?_
  refine o_iload X hx 34 (hb hby at_32) rfl rfl ?_
  refine o_bipush X hx 36 (7 : Int32) (hb hby at_34) rfl rfl ?_
  refine o_iushr X hx 37 (hb hby at_36) rfl ?_
  refine o_iconst X hx 38 (3 : Int32) (hb hby at_37) rfl rfl ?_
  refine o_iand X hx 39 (hb hby at_38) rfl ?_
  obtain ⟨j2, h_j2⟩ : ∃ z, z = ((XT.ushr p4 (7 : Int32)) &&& (3 : Int32)) := ⟨_, rfl⟩
  rw [← h_j2]
  have hj2 := own_j (XT.ushr p4 (7 : Int32))
  rw [← h_j2] at hj2
  refine o_iastore X hx hZ eT V_b1 ⟨by decide, by decide⟩ 2 rfl (Nat.le_of_ble_eq_true rfl) (vs' := [(.int j0), (.int j1), (.int j2), (.int (0 : Int32))]) rfl N g_b1 40 (hb hby at_39) rfl (fun T h4 locs X eT W V' N => ?_)
  replace Z0 := Nat.le_trans Z0 (Keep.of_wr W).1
  replace V_b1 := V'
  refine o_dup X hx 41 (hb hby at_40) rfl rfl ?_
  refine o_iconst X hx 42 (3 : Int32) (hb hby at_41) rfl rfl ?_
  refine o_iload X hx 44 (hb hby at_42) rfl rfl ?_
  refine o_bipush X hx 46 (9 : Int32) (hb hby at_44) rfl rfl ?_
  refine o_iushr X hx 47 (hb hby at_46) rfl ?_
  refine o_iconst X hx 48 (3 : Int32) (hb hby at_47) rfl rfl ?_
  refine o_iand X hx 49 (hb hby at_48) rfl ?_
  obtain ⟨j3, h_j3⟩ : ∃ z, z = ((XT.ushr p4 (9 : Int32)) &&& (3 : Int32)) := ⟨_, rfl⟩
  rw [← h_j3]
  have hj3 := own_j (XT.ushr p4 (9 : Int32))
  rw [← h_j3] at hj3
  refine o_iastore X hx hZ eT V_b1 ⟨by decide, by decide⟩ 3 rfl (Nat.le_of_ble_eq_true rfl) (vs' := [(.int j0), (.int j1), (.int j2), (.int j3)]) rfl N g_b1 50 (hb hby at_49) rfl (fun T h5 locs X eT W V' N => ?_)
  replace Z0 := Nat.le_trans Z0 (Keep.of_wr W).1
  replace V_b1 := V'
  refine o_astore X hx 52 (Ls' := #[.val (.int p1), .val (.long p2), .second, .val (.long p3), .second, .val (.int p4), .val (.int n), .val (.ref b1), .unset, .unset, .unset, .unset, .unset, .unset, .unset]) (hb hby at_50) rfl rfl rfl ?_
  refine o_iconst X hx 53 (4 : Int32) (hb hby at_52) rfl rfl ?_
  refine o_newarray X hx hZ (hw _ (List.mem_of_getElem? (i := 1) rfl)) eT 55 (hb hby at_53) rfl (by decide) 4 (by decide) (by decide) (by decide) (by decide) (fun T h6 b6 k6 hb6 X eT E A => ?_)
  have ne_b1_b6 : b1 ≠ b6 := Nat.ne_of_lt (Nat.lt_of_lt_of_eq V_b1.lt hb6.symm)
  have g_b6 : n0 ≤ b6 := Nat.le_trans Z0 (Nat.le_of_eq hb6.symm)
  replace V_b1 := V_b1.ext E
  replace Z0 := Nat.le_trans Z0 E.1
  have V_b6 : Arv Z h6 b6 k6 .long (4 : Int32) [(.long (0 : Int64)), (.long (0 : Int64)), (.long (0 : Int64)), (.long (0 : Int64))] (.long (0 : Int64)) := A.pad (pad_rep [] (.long (0 : Int64)) 4)
  refine o_dup X hx 56 (hb hby at_55) rfl rfl ?_
  refine o_iconst X hx 57 (0 : Int32) (hb hby at_56) rfl rfl ?_
  refine o_lloadN X hx 58 (hb hby at_57) rfl rfl ?_
  refine o_bipush X hx 60 (32 : Int32) (hb hby at_58) rfl rfl ?_
  refine o_lushr X hx 61 (hb hby at_60) rfl ?_
  refine o_l2i X hx 62 (hb hby at_61) rfl ?_
  refine o_i2l X hx 63 (hb hby at_62) rfl ?_
  obtain ⟨v0, h_v0⟩ : ∃ z, z = (((((XT.ushrL p2 (32 : Int32))).toInt32)).toInt64) := ⟨_, rfl⟩
  rw [← h_v0]
  have Rv0 : own_R 1 v0 := by rw [h_v0]; exact own_R1 _
  refine o_lastore X hx hZ eT V_b6 ⟨by decide, by decide⟩ 0 rfl (Nat.le_of_ble_eq_true rfl) (vs' := [(.long v0), (.long (0 : Int64)), (.long (0 : Int64)), (.long (0 : Int64))]) rfl N g_b6 64 (hb hby at_63) rfl (fun T h7 locs X eT W V' N => ?_)
  replace V_b1 := V_b1.other W ne_b1_b6
  replace Z0 := Nat.le_trans Z0 (Keep.of_wr W).1
  replace V_b6 := V'
  refine o_dup X hx 65 (hb hby at_64) rfl rfl ?_
  refine o_iconst X hx 66 (1 : Int32) (hb hby at_65) rfl rfl ?_
  refine o_lloadN X hx 67 (hb hby at_66) rfl rfl ?_
  refine o_l2i X hx 68 (hb hby at_67) rfl ?_
  refine o_i2l X hx 69 (hb hby at_68) rfl ?_
  obtain ⟨v1, h_v1⟩ : ∃ z, z = ((((p2).toInt32)).toInt64) := ⟨_, rfl⟩
  rw [← h_v1]
  have Rv1 : own_R 1 v1 := by rw [h_v1]; exact own_R1 _
  refine o_lastore X hx hZ eT V_b6 ⟨by decide, by decide⟩ 1 rfl (Nat.le_of_ble_eq_true rfl) (vs' := [(.long v0), (.long v1), (.long (0 : Int64)), (.long (0 : Int64))]) rfl N g_b6 70 (hb hby at_69) rfl (fun T h8 locs X eT W V' N => ?_)
  replace V_b1 := V_b1.other W ne_b1_b6
  replace Z0 := Nat.le_trans Z0 (Keep.of_wr W).1
  replace V_b6 := V'
  refine o_dup X hx 71 (hb hby at_70) rfl rfl ?_
  refine o_iconst X hx 72 (2 : Int32) (hb hby at_71) rfl rfl ?_
  refine o_lloadN X hx 73 (hb hby at_72) rfl rfl ?_
  refine o_bipush X hx 75 (32 : Int32) (hb hby at_73) rfl rfl ?_
  refine o_lushr X hx 76 (hb hby at_75) rfl ?_
  refine o_l2i X hx 77 (hb hby at_76) rfl ?_
  refine o_i2l X hx 78 (hb hby at_77) rfl ?_
  obtain ⟨v2, h_v2⟩ : ∃ z, z = (((((XT.ushrL p3 (32 : Int32))).toInt32)).toInt64) := ⟨_, rfl⟩
  rw [← h_v2]
  have Rv2 : own_R 1 v2 := by rw [h_v2]; exact own_R1 _
  refine o_lastore X hx hZ eT V_b6 ⟨by decide, by decide⟩ 2 rfl (Nat.le_of_ble_eq_true rfl) (vs' := [(.long v0), (.long v1), (.long v2), (.long (0 : Int64))]) rfl N g_b6 79 (hb hby at_78) rfl (fun T h9 locs X eT W V' N => ?_)
  replace V_b1 := V_b1.other W ne_b1_b6
  replace Z0 := Nat.le_trans Z0 (Keep.of_wr W).1
  replace V_b6 := V'
  refine o_dup X hx 80 (hb hby at_79) rfl rfl ?_
  refine o_iconst X hx 81 (3 : Int32) (hb hby at_80) rfl rfl ?_
  refine o_lloadN X hx 82 (hb hby at_81) rfl rfl ?_
  refine o_l2i X hx 83 (hb hby at_82) rfl ?_
  refine o_i2l X hx 84 (hb hby at_83) rfl ?_
  obtain ⟨v3, h_v3⟩ : ∃ z, z = ((((p3).toInt32)).toInt64) := ⟨_, rfl⟩
  rw [← h_v3]
  have Rv3 : own_R 1 v3 := by rw [h_v3]; exact own_R1 _
  refine o_lastore X hx hZ eT V_b6 ⟨by decide, by decide⟩ 3 rfl (Nat.le_of_ble_eq_true rfl) (vs' := [(.long v0), (.long v1), (.long v2), (.long v3)]) rfl N g_b6 85 (hb hby at_84) rfl (fun T h10 locs X eT W V' N => ?_)
  replace V_b1 := V_b1.other W ne_b1_b6
  replace Z0 := Nat.le_trans Z0 (Keep.of_wr W).1
  replace V_b6 := V'
  refine o_astore X hx 87 (Ls' := #[.val (.int p1), .val (.long p2), .second, .val (.long p3), .second, .val (.int p4), .val (.int n), .val (.ref b1), .val (.ref b6), .unset, .unset, .unset, .unset, .unset, .unset]) (hb hby at_85) rfl rfl rfl ?_
  refine o_iconst X hx 88 (4 : Int32) (hb hby at_87) rfl rfl ?_
  refine o_newarray X hx hZ (hw _ (List.mem_of_getElem? (i := 2) rfl)) eT 90 (hb hby at_88) rfl (by decide) 4 (by decide) (by decide) (by decide) (by decide) (fun T h11 b11 k11 hb11 X eT E A => ?_)
  have ne_b1_b11 : b1 ≠ b11 := Nat.ne_of_lt (Nat.lt_of_lt_of_eq V_b1.lt hb11.symm)
  have ne_b6_b11 : b6 ≠ b11 := Nat.ne_of_lt (Nat.lt_of_lt_of_eq V_b6.lt hb11.symm)
  have g_b11 : n0 ≤ b11 := Nat.le_trans Z0 (Nat.le_of_eq hb11.symm)
  replace V_b1 := V_b1.ext E
  replace V_b6 := V_b6.ext E
  replace Z0 := Nat.le_trans Z0 E.1
  have V_b11 : Arv Z h11 b11 k11 .double (4 : Int32) [(.double (0 : UInt64)), (.double (0 : UInt64)), (.double (0 : UInt64)), (.double (0 : UInt64))] (.double (0 : UInt64)) := A.pad (pad_rep [] (.double (0 : UInt64)) 4)
  refine o_dup X hx 91 (hb hby at_90) rfl rfl ?_
  refine o_iconst X hx 92 (0 : Int32) (hb hby at_91) rfl rfl ?_
  refine o_aload X hx 94 (hb hby at_92) rfl rfl rfl ?_
  refine o_iconst X hx 95 (0 : Int32) (hb hby at_94) rfl rfl ?_
  refine o_laload X hx hZ eT V_b6 ⟨by decide, by decide⟩ (v := (.long v0)) rfl 96 (hb hby at_95) rfl ?_
  refine o_l2d X hx 97 (FP.l2d v0) (hb hby at_96) rfl rfl ?_
  refine o_dastore X hx hZ eT V_b11 ⟨by decide, by decide⟩ 0 rfl (Nat.le_of_ble_eq_true rfl) (vs' := [(.double (FP.l2d v0)), (.double (0 : UInt64)), (.double (0 : UInt64)), (.double (0 : UInt64))]) rfl N g_b11 98 (hb hby at_97) rfl (fun T h12 locs X eT W V' N => ?_)
  replace V_b1 := V_b1.other W ne_b1_b11
  replace V_b6 := V_b6.other W ne_b6_b11
  replace Z0 := Nat.le_trans Z0 (Keep.of_wr W).1
  replace V_b11 := V'
  refine o_dup X hx 99 (hb hby at_98) rfl rfl ?_
  refine o_iconst X hx 100 (1 : Int32) (hb hby at_99) rfl rfl ?_
  refine o_aload X hx 102 (hb hby at_100) rfl rfl rfl ?_
  refine o_iconst X hx 103 (1 : Int32) (hb hby at_102) rfl rfl ?_
  refine o_laload X hx hZ eT V_b6 ⟨by decide, by decide⟩ (v := (.long v1)) rfl 104 (hb hby at_103) rfl ?_
  refine o_l2d X hx 105 (FP.l2d v1) (hb hby at_104) rfl rfl ?_
  refine o_dastore X hx hZ eT V_b11 ⟨by decide, by decide⟩ 1 rfl (Nat.le_of_ble_eq_true rfl) (vs' := [(.double (FP.l2d v0)), (.double (FP.l2d v1)), (.double (0 : UInt64)), (.double (0 : UInt64))]) rfl N g_b11 106 (hb hby at_105) rfl (fun T h13 locs X eT W V' N => ?_)
  replace V_b1 := V_b1.other W ne_b1_b11
  replace V_b6 := V_b6.other W ne_b6_b11
  replace Z0 := Nat.le_trans Z0 (Keep.of_wr W).1
  replace V_b11 := V'
  refine o_dup X hx 107 (hb hby at_106) rfl rfl ?_
  refine o_iconst X hx 108 (2 : Int32) (hb hby at_107) rfl rfl ?_
  refine o_aload X hx 110 (hb hby at_108) rfl rfl rfl ?_
  refine o_iconst X hx 111 (2 : Int32) (hb hby at_110) rfl rfl ?_
  refine o_laload X hx hZ eT V_b6 ⟨by decide, by decide⟩ (v := (.long v2)) rfl 112 (hb hby at_111) rfl ?_
  refine o_l2d X hx 113 (FP.l2d v2) (hb hby at_112) rfl rfl ?_
  refine o_dastore X hx hZ eT V_b11 ⟨by decide, by decide⟩ 2 rfl (Nat.le_of_ble_eq_true rfl) (vs' := [(.double (FP.l2d v0)), (.double (FP.l2d v1)), (.double (FP.l2d v2)), (.double (0 : UInt64))]) rfl N g_b11 114 (hb hby at_113) rfl (fun T h14 locs X eT W V' N => ?_)
  replace V_b1 := V_b1.other W ne_b1_b11
  replace V_b6 := V_b6.other W ne_b6_b11
  replace Z0 := Nat.le_trans Z0 (Keep.of_wr W).1
  replace V_b11 := V'
  refine o_dup X hx 115 (hb hby at_114) rfl rfl ?_
  refine o_iconst X hx 116 (3 : Int32) (hb hby at_115) rfl rfl ?_
  refine o_aload X hx 118 (hb hby at_116) rfl rfl rfl ?_
  refine o_iconst X hx 119 (3 : Int32) (hb hby at_118) rfl rfl ?_
  refine o_laload X hx hZ eT V_b6 ⟨by decide, by decide⟩ (v := (.long v3)) rfl 120 (hb hby at_119) rfl ?_
  refine o_l2d X hx 121 (FP.l2d v3) (hb hby at_120) rfl rfl ?_
  refine o_dastore X hx hZ eT V_b11 ⟨by decide, by decide⟩ 3 rfl (Nat.le_of_ble_eq_true rfl) (vs' := [(.double (FP.l2d v0)), (.double (FP.l2d v1)), (.double (FP.l2d v2)), (.double (FP.l2d v3))]) rfl N g_b11 122 (hb hby at_121) rfl (fun T h15 locs X eT W V' N => ?_)
  replace V_b1 := V_b1.other W ne_b1_b11
  replace V_b6 := V_b6.other W ne_b6_b11
  replace Z0 := Nat.le_trans Z0 (Keep.of_wr W).1
  replace V_b11 := V'
  refine o_astore X hx 124 (Ls' := #[.val (.int p1), .val (.long p2), .second, .val (.long p3), .second, .val (.int p4), .val (.int n), .val (.ref b1), .val (.ref b6), .val (.ref b11), .unset, .unset, .unset, .unset, .unset]) (hb hby at_122) rfl rfl rfl ?_
  refine o_iload X hx 126 (hb hby at_124) rfl rfl ?_
  rcases own_in5 hn.1 hn.2 with rfl | rfl | rfl | rfl | rfl
  · show Wout p e below _ T (mkF m 126 #[.val (.int p1), .val (.long p2), .second, .val (.long p3), .second, .val (.int p4), .val (.int (0 : Int32)), .val (.ref b1), .val (.ref b6), .val (.ref b11), .unset, .unset, .unset, .unset, .unset] [(.int (0 : Int32))])
    refine o_newarray X hx hZ (hw _ (List.mem_of_getElem? (i := 0) rfl)) eT 128 (hb hby at_126) rfl (by decide) 0 (by decide) (by decide) (by decide) (by decide) (fun T h16 b16 k16 hb16 X eT E A => ?_)
    have ne_b1_b16 : b1 ≠ b16 := Nat.ne_of_lt (Nat.lt_of_lt_of_eq V_b1.lt hb16.symm)
    have ne_b6_b16 : b6 ≠ b16 := Nat.ne_of_lt (Nat.lt_of_lt_of_eq V_b6.lt hb16.symm)
    have ne_b11_b16 : b11 ≠ b16 := Nat.ne_of_lt (Nat.lt_of_lt_of_eq V_b11.lt hb16.symm)
    have g_b16 : n0 ≤ b16 := Nat.le_trans Z0 (Nat.le_of_eq hb16.symm)
    replace V_b1 := V_b1.ext E
    replace V_b6 := V_b6.ext E
    replace V_b11 := V_b11.ext E
    replace Z0 := Nat.le_trans Z0 E.1
    have V_b16 : Arv Z h16 b16 k16 .int (0 : Int32) [] (.int (0 : Int32)) := A.pad (pad_rep [] (.int (0 : Int32)) 0)
    refine o_astore X hx 130 (Ls' := #[.val (.int p1), .val (.long p2), .second, .val (.long p3), .second, .val (.int p4), .val (.int (0 : Int32)), .val (.ref b1), .val (.ref b6), .val (.ref b11), .val (.ref b16), .unset, .unset, .unset, .unset]) (hb hby at_128) rfl rfl rfl ?_
    refine o_iload X hx 132 (hb hby at_130) rfl rfl ?_
    refine o_ifT X hx 143 (hb hby at_132) rfl (by decide : ¬ (0 : Int32) < (0 : Int32)) ?_
    refine o_iload X hx 145 (hb hby at_143) rfl rfl ?_
    refine o_iconst X hx 146 (1 : Int32) (hb hby at_145) rfl rfl ?_
    refine o_icmpT X hx 157 (hb hby at_146) rfl (by decide : ¬ (1 : Int32) < (0 : Int32)) ?_
    refine o_iload X hx 159 (hb hby at_157) rfl rfl ?_
    refine o_iconst X hx 160 (2 : Int32) (hb hby at_159) rfl rfl ?_
    refine o_icmpT X hx 171 (hb hby at_160) rfl (by decide : ¬ (2 : Int32) < (0 : Int32)) ?_
    refine o_iload X hx 173 (hb hby at_171) rfl rfl ?_
    refine o_iconst X hx 174 (3 : Int32) (hb hby at_173) rfl rfl ?_
    refine o_icmpT X hx 185 (hb hby at_174) rfl (by decide : ¬ (3 : Int32) < (0 : Int32)) ?_
    refine o_iloadN X hx 186 (hb hby at_185) rfl rfl ?_
    refine o_i2l X hx 187 (hb hby at_186) rfl ?_
    refine o_lstore X hx 189 (Ls' := #[.val (.int p1), .val (.long p2), .second, .val (.long p3), .second, .val (.int p4), .val (.int (0 : Int32)), .val (.ref b1), .val (.ref b6), .val (.ref b11), .val (.ref b16), .val (.long ((p1).toInt64)), .second, .unset, .unset]) (hb hby at_187) rfl rfl ?_
    refine o_iload X hx 191 (hb hby at_189) rfl rfl ?_
    refine o_ifT X hx 206 (hb hby at_191) rfl (by decide : ¬ (0 : Int32) < (0 : Int32)) ?_
    refine o_iload X hx 208 (hb hby at_206) rfl rfl ?_
    refine o_iconst X hx 209 (1 : Int32) (hb hby at_208) rfl rfl ?_
    refine o_icmpT X hx 224 (hb hby at_209) rfl (by decide : ¬ (1 : Int32) < (0 : Int32)) ?_
    refine o_iload X hx 226 (hb hby at_224) rfl rfl ?_
    refine o_iconst X hx 227 (2 : Int32) (hb hby at_226) rfl rfl ?_
    refine o_icmpT X hx 242 (hb hby at_227) rfl (by decide : ¬ (2 : Int32) < (0 : Int32)) ?_
    refine o_iload X hx 244 (hb hby at_242) rfl rfl ?_
    refine o_iconst X hx 245 (3 : Int32) (hb hby at_244) rfl rfl ?_
    refine o_icmpT X hx 260 (hb hby at_245) rfl (by decide : ¬ (3 : Int32) < (0 : Int32)) ?_
    refine o_new X hx hZ hown (hw _ (List.mem_of_getElem? (i := 3) rfl)) (hw _ (List.mem_of_getElem? (i := 4) rfl)) (hw _ (List.mem_of_getElem? (i := 5) rfl)) eT 263 (hb hby at_260) rfl (by decide) (by decide) (fun T h17 b17 hb17 X eT E A D => ?_)
    have ne_b1_b17 : b1 ≠ b17 := Nat.ne_of_lt (Nat.lt_of_lt_of_eq V_b1.lt hb17.symm)
    have ne_b6_b17 : b6 ≠ b17 := Nat.ne_of_lt (Nat.lt_of_lt_of_eq V_b6.lt hb17.symm)
    have ne_b11_b17 : b11 ≠ b17 := Nat.ne_of_lt (Nat.lt_of_lt_of_eq V_b11.lt hb17.symm)
    have ne_b16_b17 : b16 ≠ b17 := Nat.ne_of_lt (Nat.lt_of_lt_of_eq V_b16.lt hb17.symm)
    have g_b17 : n0 ≤ b17 := Nat.le_trans Z0 (Nat.le_of_eq hb17.symm)
    replace V_b1 := V_b1.ext E
    replace V_b6 := V_b6.ext E
    replace V_b11 := V_b11.ext E
    replace V_b16 := V_b16.ext E
    replace Z0 := Nat.le_trans Z0 E.1
    have E_b17 := A
    have F_measured_b17 : Fld Z h17 b17 "com/example/spillway/spillway/RateModel$Supply" "measured" "D" (.double (0 : UInt64)) := D (Or.inr (hw _ (List.mem_of_getElem? (i := 18) rfl))) (ty := .double) (by decide)
    have F_patterns_b17 : Fld Z h17 b17 "com/example/spillway/spillway/RateModel$Supply" "patterns" "[I" .null := D (Or.inr (hw _ (List.mem_of_getElem? (i := 20) rfl))) (ty := (.array .int)) (by decide)
    refine o_dup X hx 264 (hb hby at_263) rfl rfl ?_
    refine o_iloadN X hx 265 (hb hby at_264) rfl rfl ?_
    refine o_i2d X hx 266 (FP.l2d (p1).toInt64) (hb hby at_265) (i2d_w _) rfl ?_
    refine o_aload X hx 268 (hb hby at_266) rfl rfl rfl ?_
    refine o_callI X hx hZ rfl hown (hw _ (List.mem_of_getElem? (i := 6) rfl)) (hw _ (List.mem_of_getElem? (i := 7) rfl)) (hw _ (List.mem_of_getElem? (i := 5) rfl)) (hw _ (List.mem_of_getElem? (i := 8) rfl)) (by decide) (rm_init l Z a0 hw [] b17 b16 (FP.l2d (p1).toInt64) _ _ _ n0 Z0 E_b17 F_measured_b17 F_patterns_b17 g_b17) eT (by decide) 1 (by decide) (by rw [hml]; rfl) [(.double (FP.l2d (p1).toInt64)), (.ref b16)] (rest := [(.ref b17)]) (lenOf pd_1 rfl) rfl rfl (Nat.le_of_eq rfl) (by decide) (by decide) 271 (hb hby at_268) rfl (fun v T h18 Lc X eT q => ?_)
    obtain ⟨rfl, N', K1, E', G1, G2⟩ := q
    replace N := Fr.app N N'
    replace V_b1 := V_b1.keep K1 (ninS ne_b1_b17 nin0)
    replace V_b6 := V_b6.keep K1 (ninS ne_b6_b17 nin0)
    replace V_b11 := V_b11.keep K1 (ninS ne_b11_b17 nin0)
    replace V_b16 := V_b16.keep K1 (ninS ne_b16_b17 nin0)
    replace Z0 := Nat.le_trans Z0 K1.1
    replace E_b17 := E'
    show Wout p e below _ T (mkF m 271 #[.val (.int p1), .val (.long p2), .second, .val (.long p3), .second, .val (.int p4), .val (.int (0 : Int32)), .val (.ref b1), .val (.ref b6), .val (.ref b11), .val (.ref b16), .val (.long ((p1).toInt64)), .second, .unset, .unset] [(.ref b17)])
    refine o_aload X hx 273 (hb hby at_271) rfl rfl rfl ?_
    refine o_callV X hx hZ hown (hw _ (List.mem_of_getElem? (i := 21) rfl)) (hw _ (List.mem_of_getElem? (i := 22) rfl)) (hw _ (List.mem_of_getElem? (i := 24) rfl)) (hw _ (List.mem_of_getElem? (i := 23) rfl)) (hw _ (List.mem_of_getElem? (i := 5) rfl)) (hw _ (List.mem_of_getElem? (i := 25) rfl)) (by decide) (rm_rate0 l Z a0 hw [] b17 b16 b11 k16 k11 (p1).toInt64 v0 v1 v2 v3  _ n0 Z0 G1 G2 V_b16 V_b11 (own_R1 p1) Rv0 Rv1 Rv2 Rv3 ) eT (by decide) 0 (by decide) (by rw [hml]; rfl) E_b17 [(.ref b11)] (rest := []) (lenOf pd_2 rfl) rfl rfl (Nat.le_of_eq rfl) (by decide) (by decide) 276 (hb hby at_273) rfl (fun v T h19 Lc X eT q => ?_)
    obtain ⟨rfl, N', e'⟩ := q
    replace N := Fr.app N N'
    replace eT := eT.trans e'
    show Wout p e below _ T (mkF m 276 #[.val (.int p1), .val (.long p2), .second, .val (.long p3), .second, .val (.int p4), .val (.int (0 : Int32)), .val (.ref b1), .val (.ref b6), .val (.ref b11), .val (.ref b16), .val (.long ((p1).toInt64)), .second, .unset, .unset] [(.double (FP.l2d (p1).toInt64))])
    refine o_dstore X hx 278 (Ls' := #[.val (.int p1), .val (.long p2), .second, .val (.long p3), .second, .val (.int p4), .val (.int (0 : Int32)), .val (.ref b1), .val (.ref b6), .val (.ref b11), .val (.ref b16), .val (.long ((p1).toInt64)), .second, .val (.double (FP.l2d (p1).toInt64)), .second]) (hb hby at_276) rfl rfl ?_
    refine o_dload X hx 280 (hb hby at_278) rfl rfl ?_
    refine o_lload X hx 282 (hb hby at_280) rfl rfl ?_
    refine o_l2d X hx 283 (FP.l2d ((p1).toInt64)) (hb hby at_282) rfl rfl ?_
    refine o_dcmp X hx 284 (0 : Int32) (hb hby at_283) (dcmpV_self (nn_w rfl) _) rfl ?_
    refine o_ifF X hx 287 (hb hby at_284) rfl (by decide : (0 : Int32) = (0 : Int32)) ?_
    refine o_iconst X hx 288 (1 : Int32) (hb hby at_287) rfl rfl ?_
    refine o_goto X hx 292 (hb hby at_288) rfl ?_
    exact o_retI X hx hlk hret rfl (by simp) (hb hby at_292) (by decide) (by decide) (by rw [eT]; exact ⟨rfl, N, trivial⟩)
  · show Wout p e below _ T (mkF m 126 #[.val (.int p1), .val (.long p2), .second, .val (.long p3), .second, .val (.int p4), .val (.int (1 : Int32)), .val (.ref b1), .val (.ref b6), .val (.ref b11), .unset, .unset, .unset, .unset, .unset] [(.int (1 : Int32))])
    refine o_newarray X hx hZ (hw _ (List.mem_of_getElem? (i := 0) rfl)) eT 128 (hb hby at_126) rfl (by decide) 1 (by decide) (by decide) (by decide) (by decide) (fun T h20 b20 k20 hb20 X eT E A => ?_)
    have ne_b1_b20 : b1 ≠ b20 := Nat.ne_of_lt (Nat.lt_of_lt_of_eq V_b1.lt hb20.symm)
    have ne_b6_b20 : b6 ≠ b20 := Nat.ne_of_lt (Nat.lt_of_lt_of_eq V_b6.lt hb20.symm)
    have ne_b11_b20 : b11 ≠ b20 := Nat.ne_of_lt (Nat.lt_of_lt_of_eq V_b11.lt hb20.symm)
    have g_b20 : n0 ≤ b20 := Nat.le_trans Z0 (Nat.le_of_eq hb20.symm)
    replace V_b1 := V_b1.ext E
    replace V_b6 := V_b6.ext E
    replace V_b11 := V_b11.ext E
    replace Z0 := Nat.le_trans Z0 E.1
    have V_b20 : Arv Z h20 b20 k20 .int (1 : Int32) [(.int (0 : Int32))] (.int (0 : Int32)) := A.pad (pad_rep [] (.int (0 : Int32)) 1)
    refine o_astore X hx 130 (Ls' := #[.val (.int p1), .val (.long p2), .second, .val (.long p3), .second, .val (.int p4), .val (.int (1 : Int32)), .val (.ref b1), .val (.ref b6), .val (.ref b11), .val (.ref b20), .unset, .unset, .unset, .unset]) (hb hby at_128) rfl rfl rfl ?_
    refine o_iload X hx 132 (hb hby at_130) rfl rfl ?_
    refine o_ifF X hx 135 (hb hby at_132) rfl (by decide : (0 : Int32) < (1 : Int32)) ?_
    refine o_aload X hx 137 (hb hby at_135) rfl rfl rfl ?_
    refine o_iconst X hx 138 (0 : Int32) (hb hby at_137) rfl rfl ?_
    refine o_aload X hx 140 (hb hby at_138) rfl rfl rfl ?_
    refine o_iconst X hx 141 (0 : Int32) (hb hby at_140) rfl rfl ?_
    refine o_iaload X hx hZ eT V_b1 ⟨by decide, by decide⟩ (v := (.int j0)) rfl 142 (hb hby at_141) rfl ?_
    refine o_iastore X hx hZ eT V_b20 ⟨by decide, by decide⟩ 0 rfl (Nat.le_of_ble_eq_true rfl) (vs' := [(.int j0)]) rfl N g_b20 143 (hb hby at_142) rfl (fun T h21 locs X eT W V' N => ?_)
    replace V_b1 := V_b1.other W ne_b1_b20
    replace V_b6 := V_b6.other W ne_b6_b20
    replace V_b11 := V_b11.other W ne_b11_b20
    replace Z0 := Nat.le_trans Z0 (Keep.of_wr W).1
    replace V_b20 := V'
    refine o_iload X hx 145 (hb hby at_143) rfl rfl ?_
    refine o_iconst X hx 146 (1 : Int32) (hb hby at_145) rfl rfl ?_
    refine o_icmpT X hx 157 (hb hby at_146) rfl (by decide : ¬ (1 : Int32) < (1 : Int32)) ?_
    refine o_iload X hx 159 (hb hby at_157) rfl rfl ?_
    refine o_iconst X hx 160 (2 : Int32) (hb hby at_159) rfl rfl ?_
    refine o_icmpT X hx 171 (hb hby at_160) rfl (by decide : ¬ (2 : Int32) < (1 : Int32)) ?_
    refine o_iload X hx 173 (hb hby at_171) rfl rfl ?_
    refine o_iconst X hx 174 (3 : Int32) (hb hby at_173) rfl rfl ?_
    refine o_icmpT X hx 185 (hb hby at_174) rfl (by decide : ¬ (3 : Int32) < (1 : Int32)) ?_
    refine o_iloadN X hx 186 (hb hby at_185) rfl rfl ?_
    refine o_i2l X hx 187 (hb hby at_186) rfl ?_
    refine o_lstore X hx 189 (Ls' := #[.val (.int p1), .val (.long p2), .second, .val (.long p3), .second, .val (.int p4), .val (.int (1 : Int32)), .val (.ref b1), .val (.ref b6), .val (.ref b11), .val (.ref b20), .val (.long ((p1).toInt64)), .second, .unset, .unset]) (hb hby at_187) rfl rfl ?_
    refine o_iload X hx 191 (hb hby at_189) rfl rfl ?_
    refine o_ifF X hx 194 (hb hby at_191) rfl (by decide : (0 : Int32) < (1 : Int32)) ?_
    refine o_lload X hx 196 (hb hby at_194) rfl rfl ?_
    refine o_aload X hx 198 (hb hby at_196) rfl rfl rfl ?_
    refine o_aload X hx 200 (hb hby at_198) rfl rfl rfl ?_
    refine o_iconst X hx 201 (0 : Int32) (hb hby at_200) rfl rfl ?_
    refine o_iaload X hx hZ eT V_b1 ⟨by decide, by decide⟩ (v := (.int j0)) rfl 202 (hb hby at_201) rfl ?_
    refine o_laload X hx hZ eT V_b6 (own_jin hj0) (v := (.long (own_sel v0 v1 v2 v3 j0))) (own_atL v0 v1 v2 v3 hj0) 203 (hb hby at_202) rfl ?_
    refine o_ladd X hx 204 (hb hby at_203) rfl ?_
    refine o_lstore X hx 206 (Ls' := #[.val (.int p1), .val (.long p2), .second, .val (.long p3), .second, .val (.int p4), .val (.int (1 : Int32)), .val (.ref b1), .val (.ref b6), .val (.ref b11), .val (.ref b20), .val (.long (((p1).toInt64) + (own_sel v0 v1 v2 v3 j0))), .second, .unset, .unset]) (hb hby at_204) rfl rfl ?_
    refine o_iload X hx 208 (hb hby at_206) rfl rfl ?_
    refine o_iconst X hx 209 (1 : Int32) (hb hby at_208) rfl rfl ?_
    refine o_icmpT X hx 224 (hb hby at_209) rfl (by decide : ¬ (1 : Int32) < (1 : Int32)) ?_
    refine o_iload X hx 226 (hb hby at_224) rfl rfl ?_
    refine o_iconst X hx 227 (2 : Int32) (hb hby at_226) rfl rfl ?_
    refine o_icmpT X hx 242 (hb hby at_227) rfl (by decide : ¬ (2 : Int32) < (1 : Int32)) ?_
    refine o_iload X hx 244 (hb hby at_242) rfl rfl ?_
    refine o_iconst X hx 245 (3 : Int32) (hb hby at_244) rfl rfl ?_
    refine o_icmpT X hx 260 (hb hby at_245) rfl (by decide : ¬ (3 : Int32) < (1 : Int32)) ?_
    refine o_new X hx hZ hown (hw _ (List.mem_of_getElem? (i := 3) rfl)) (hw _ (List.mem_of_getElem? (i := 4) rfl)) (hw _ (List.mem_of_getElem? (i := 5) rfl)) eT 263 (hb hby at_260) rfl (by decide) (by decide) (fun T h22 b22 hb22 X eT E A D => ?_)
    have ne_b1_b22 : b1 ≠ b22 := Nat.ne_of_lt (Nat.lt_of_lt_of_eq V_b1.lt hb22.symm)
    have ne_b6_b22 : b6 ≠ b22 := Nat.ne_of_lt (Nat.lt_of_lt_of_eq V_b6.lt hb22.symm)
    have ne_b11_b22 : b11 ≠ b22 := Nat.ne_of_lt (Nat.lt_of_lt_of_eq V_b11.lt hb22.symm)
    have ne_b20_b22 : b20 ≠ b22 := Nat.ne_of_lt (Nat.lt_of_lt_of_eq V_b20.lt hb22.symm)
    have g_b22 : n0 ≤ b22 := Nat.le_trans Z0 (Nat.le_of_eq hb22.symm)
    replace V_b1 := V_b1.ext E
    replace V_b6 := V_b6.ext E
    replace V_b11 := V_b11.ext E
    replace V_b20 := V_b20.ext E
    replace Z0 := Nat.le_trans Z0 E.1
    have E_b22 := A
    have F_measured_b22 : Fld Z h22 b22 "com/example/spillway/spillway/RateModel$Supply" "measured" "D" (.double (0 : UInt64)) := D (Or.inr (hw _ (List.mem_of_getElem? (i := 18) rfl))) (ty := .double) (by decide)
    have F_patterns_b22 : Fld Z h22 b22 "com/example/spillway/spillway/RateModel$Supply" "patterns" "[I" .null := D (Or.inr (hw _ (List.mem_of_getElem? (i := 20) rfl))) (ty := (.array .int)) (by decide)
    refine o_dup X hx 264 (hb hby at_263) rfl rfl ?_
    refine o_iloadN X hx 265 (hb hby at_264) rfl rfl ?_
    refine o_i2d X hx 266 (FP.l2d (p1).toInt64) (hb hby at_265) (i2d_w _) rfl ?_
    refine o_aload X hx 268 (hb hby at_266) rfl rfl rfl ?_
    refine o_callI X hx hZ rfl hown (hw _ (List.mem_of_getElem? (i := 6) rfl)) (hw _ (List.mem_of_getElem? (i := 7) rfl)) (hw _ (List.mem_of_getElem? (i := 5) rfl)) (hw _ (List.mem_of_getElem? (i := 8) rfl)) (by decide) (rm_init l Z a0 hw [] b22 b20 (FP.l2d (p1).toInt64) _ _ _ n0 Z0 E_b22 F_measured_b22 F_patterns_b22 g_b22) eT (by decide) 1 (by decide) (by rw [hml]; rfl) [(.double (FP.l2d (p1).toInt64)), (.ref b20)] (rest := [(.ref b22)]) (lenOf pd_1 rfl) rfl rfl (Nat.le_of_eq rfl) (by decide) (by decide) 271 (hb hby at_268) rfl (fun v T h23 Lc X eT q => ?_)
    obtain ⟨rfl, N', K1, E', G1, G2⟩ := q
    replace N := Fr.app N N'
    replace V_b1 := V_b1.keep K1 (ninS ne_b1_b22 nin0)
    replace V_b6 := V_b6.keep K1 (ninS ne_b6_b22 nin0)
    replace V_b11 := V_b11.keep K1 (ninS ne_b11_b22 nin0)
    replace V_b20 := V_b20.keep K1 (ninS ne_b20_b22 nin0)
    replace Z0 := Nat.le_trans Z0 K1.1
    replace E_b22 := E'
    show Wout p e below _ T (mkF m 271 #[.val (.int p1), .val (.long p2), .second, .val (.long p3), .second, .val (.int p4), .val (.int (1 : Int32)), .val (.ref b1), .val (.ref b6), .val (.ref b11), .val (.ref b20), .val (.long (((p1).toInt64) + (own_sel v0 v1 v2 v3 j0))), .second, .unset, .unset] [(.ref b22)])
    refine o_aload X hx 273 (hb hby at_271) rfl rfl rfl ?_
    refine o_callV X hx hZ hown (hw _ (List.mem_of_getElem? (i := 21) rfl)) (hw _ (List.mem_of_getElem? (i := 22) rfl)) (hw _ (List.mem_of_getElem? (i := 24) rfl)) (hw _ (List.mem_of_getElem? (i := 23) rfl)) (hw _ (List.mem_of_getElem? (i := 5) rfl)) (hw _ (List.mem_of_getElem? (i := 25) rfl)) (by decide) (rm_rate1 l Z a0 hw [] b22 b20 b11 k20 k11 (p1).toInt64 v0 v1 v2 v3 j0 _ n0 Z0 G1 G2 V_b20 V_b11 (own_R1 p1) Rv0 Rv1 Rv2 Rv3 hj0) eT (by decide) 0 (by decide) (by rw [hml]; rfl) E_b22 [(.ref b11)] (rest := []) (lenOf pd_2 rfl) rfl rfl (Nat.le_of_eq rfl) (by decide) (by decide) 276 (hb hby at_273) rfl (fun v T h24 Lc X eT q => ?_)
    obtain ⟨rfl, N', e'⟩ := q
    replace N := Fr.app N N'
    replace eT := eT.trans e'
    show Wout p e below _ T (mkF m 276 #[.val (.int p1), .val (.long p2), .second, .val (.long p3), .second, .val (.int p4), .val (.int (1 : Int32)), .val (.ref b1), .val (.ref b6), .val (.ref b11), .val (.ref b20), .val (.long (((p1).toInt64) + (own_sel v0 v1 v2 v3 j0))), .second, .unset, .unset] [(.double (FP.l2d ((p1).toInt64 + (own_sel v0 v1 v2 v3 j0))))])
    refine o_dstore X hx 278 (Ls' := #[.val (.int p1), .val (.long p2), .second, .val (.long p3), .second, .val (.int p4), .val (.int (1 : Int32)), .val (.ref b1), .val (.ref b6), .val (.ref b11), .val (.ref b20), .val (.long (((p1).toInt64) + (own_sel v0 v1 v2 v3 j0))), .second, .val (.double (FP.l2d ((p1).toInt64 + (own_sel v0 v1 v2 v3 j0)))), .second]) (hb hby at_276) rfl rfl ?_
    refine o_dload X hx 280 (hb hby at_278) rfl rfl ?_
    refine o_lload X hx 282 (hb hby at_280) rfl rfl ?_
    refine o_l2d X hx 283 (FP.l2d (((p1).toInt64) + (own_sel v0 v1 v2 v3 j0))) (hb hby at_282) rfl rfl ?_
    refine o_dcmp X hx 284 (0 : Int32) (hb hby at_283) (dcmpV_self (nn_w rfl) _) rfl ?_
    refine o_ifF X hx 287 (hb hby at_284) rfl (by decide : (0 : Int32) = (0 : Int32)) ?_
    refine o_iconst X hx 288 (1 : Int32) (hb hby at_287) rfl rfl ?_
    refine o_goto X hx 292 (hb hby at_288) rfl ?_
    exact o_retI X hx hlk hret rfl (by simp) (hb hby at_292) (by decide) (by decide) (by rw [eT]; exact ⟨rfl, N, trivial⟩)
  · show Wout p e below _ T (mkF m 126 #[.val (.int p1), .val (.long p2), .second, .val (.long p3), .second, .val (.int p4), .val (.int (2 : Int32)), .val (.ref b1), .val (.ref b6), .val (.ref b11), .unset, .unset, .unset, .unset, .unset] [(.int (2 : Int32))])
    refine o_newarray X hx hZ (hw _ (List.mem_of_getElem? (i := 0) rfl)) eT 128 (hb hby at_126) rfl (by decide) 2 (by decide) (by decide) (by decide) (by decide) (fun T h25 b25 k25 hb25 X eT E A => ?_)
    have ne_b1_b25 : b1 ≠ b25 := Nat.ne_of_lt (Nat.lt_of_lt_of_eq V_b1.lt hb25.symm)
    have ne_b6_b25 : b6 ≠ b25 := Nat.ne_of_lt (Nat.lt_of_lt_of_eq V_b6.lt hb25.symm)
    have ne_b11_b25 : b11 ≠ b25 := Nat.ne_of_lt (Nat.lt_of_lt_of_eq V_b11.lt hb25.symm)
    have g_b25 : n0 ≤ b25 := Nat.le_trans Z0 (Nat.le_of_eq hb25.symm)
    replace V_b1 := V_b1.ext E
    replace V_b6 := V_b6.ext E
    replace V_b11 := V_b11.ext E
    replace Z0 := Nat.le_trans Z0 E.1
    have V_b25 : Arv Z h25 b25 k25 .int (2 : Int32) [(.int (0 : Int32)), (.int (0 : Int32))] (.int (0 : Int32)) := A.pad (pad_rep [] (.int (0 : Int32)) 2)
    refine o_astore X hx 130 (Ls' := #[.val (.int p1), .val (.long p2), .second, .val (.long p3), .second, .val (.int p4), .val (.int (2 : Int32)), .val (.ref b1), .val (.ref b6), .val (.ref b11), .val (.ref b25), .unset, .unset, .unset, .unset]) (hb hby at_128) rfl rfl rfl ?_
    refine o_iload X hx 132 (hb hby at_130) rfl rfl ?_
    refine o_ifF X hx 135 (hb hby at_132) rfl (by decide : (0 : Int32) < (2 : Int32)) ?_
    refine o_aload X hx 137 (hb hby at_135) rfl rfl rfl ?_
    refine o_iconst X hx 138 (0 : Int32) (hb hby at_137) rfl rfl ?_
    refine o_aload X hx 140 (hb hby at_138) rfl rfl rfl ?_
    refine o_iconst X hx 141 (0 : Int32) (hb hby at_140) rfl rfl ?_
    refine o_iaload X hx hZ eT V_b1 ⟨by decide, by decide⟩ (v := (.int j0)) rfl 142 (hb hby at_141) rfl ?_
    refine o_iastore X hx hZ eT V_b25 ⟨by decide, by decide⟩ 0 rfl (Nat.le_of_ble_eq_true rfl) (vs' := [(.int j0), (.int (0 : Int32))]) rfl N g_b25 143 (hb hby at_142) rfl (fun T h26 locs X eT W V' N => ?_)
    replace V_b1 := V_b1.other W ne_b1_b25
    replace V_b6 := V_b6.other W ne_b6_b25
    replace V_b11 := V_b11.other W ne_b11_b25
    replace Z0 := Nat.le_trans Z0 (Keep.of_wr W).1
    replace V_b25 := V'
    refine o_iload X hx 145 (hb hby at_143) rfl rfl ?_
    refine o_iconst X hx 146 (1 : Int32) (hb hby at_145) rfl rfl ?_
    refine o_icmpF X hx 149 (hb hby at_146) rfl (by decide : (1 : Int32) < (2 : Int32)) ?_
    refine o_aload X hx 151 (hb hby at_149) rfl rfl rfl ?_
    refine o_iconst X hx 152 (1 : Int32) (hb hby at_151) rfl rfl ?_
    refine o_aload X hx 154 (hb hby at_152) rfl rfl rfl ?_
    refine o_iconst X hx 155 (1 : Int32) (hb hby at_154) rfl rfl ?_
    refine o_iaload X hx hZ eT V_b1 ⟨by decide, by decide⟩ (v := (.int j1)) rfl 156 (hb hby at_155) rfl ?_
    refine o_iastore X hx hZ eT V_b25 ⟨by decide, by decide⟩ 1 rfl (Nat.le_of_ble_eq_true rfl) (vs' := [(.int j0), (.int j1)]) rfl N g_b25 157 (hb hby at_156) rfl (fun T h27 locs X eT W V' N => ?_)
    replace V_b1 := V_b1.other W ne_b1_b25
    replace V_b6 := V_b6.other W ne_b6_b25
    replace V_b11 := V_b11.other W ne_b11_b25
    replace Z0 := Nat.le_trans Z0 (Keep.of_wr W).1
    replace V_b25 := V'
    refine o_iload X hx 159 (hb hby at_157) rfl rfl ?_
    refine o_iconst X hx 160 (2 : Int32) (hb hby at_159) rfl rfl ?_
    refine o_icmpT X hx 171 (hb hby at_160) rfl (by decide : ¬ (2 : Int32) < (2 : Int32)) ?_
    refine o_iload X hx 173 (hb hby at_171) rfl rfl ?_
    refine o_iconst X hx 174 (3 : Int32) (hb hby at_173) rfl rfl ?_
    refine o_icmpT X hx 185 (hb hby at_174) rfl (by decide : ¬ (3 : Int32) < (2 : Int32)) ?_
    refine o_iloadN X hx 186 (hb hby at_185) rfl rfl ?_
    refine o_i2l X hx 187 (hb hby at_186) rfl ?_
    refine o_lstore X hx 189 (Ls' := #[.val (.int p1), .val (.long p2), .second, .val (.long p3), .second, .val (.int p4), .val (.int (2 : Int32)), .val (.ref b1), .val (.ref b6), .val (.ref b11), .val (.ref b25), .val (.long ((p1).toInt64)), .second, .unset, .unset]) (hb hby at_187) rfl rfl ?_
    refine o_iload X hx 191 (hb hby at_189) rfl rfl ?_
    refine o_ifF X hx 194 (hb hby at_191) rfl (by decide : (0 : Int32) < (2 : Int32)) ?_
    refine o_lload X hx 196 (hb hby at_194) rfl rfl ?_
    refine o_aload X hx 198 (hb hby at_196) rfl rfl rfl ?_
    refine o_aload X hx 200 (hb hby at_198) rfl rfl rfl ?_
    refine o_iconst X hx 201 (0 : Int32) (hb hby at_200) rfl rfl ?_
    refine o_iaload X hx hZ eT V_b1 ⟨by decide, by decide⟩ (v := (.int j0)) rfl 202 (hb hby at_201) rfl ?_
    refine o_laload X hx hZ eT V_b6 (own_jin hj0) (v := (.long (own_sel v0 v1 v2 v3 j0))) (own_atL v0 v1 v2 v3 hj0) 203 (hb hby at_202) rfl ?_
    refine o_ladd X hx 204 (hb hby at_203) rfl ?_
    refine o_lstore X hx 206 (Ls' := #[.val (.int p1), .val (.long p2), .second, .val (.long p3), .second, .val (.int p4), .val (.int (2 : Int32)), .val (.ref b1), .val (.ref b6), .val (.ref b11), .val (.ref b25), .val (.long (((p1).toInt64) + (own_sel v0 v1 v2 v3 j0))), .second, .unset, .unset]) (hb hby at_204) rfl rfl ?_
    refine o_iload X hx 208 (hb hby at_206) rfl rfl ?_
    refine o_iconst X hx 209 (1 : Int32) (hb hby at_208) rfl rfl ?_
    refine o_icmpF X hx 212 (hb hby at_209) rfl (by decide : (1 : Int32) < (2 : Int32)) ?_
    refine o_lload X hx 214 (hb hby at_212) rfl rfl ?_
    refine o_aload X hx 216 (hb hby at_214) rfl rfl rfl ?_
    refine o_aload X hx 218 (hb hby at_216) rfl rfl rfl ?_
    refine o_iconst X hx 219 (1 : Int32) (hb hby at_218) rfl rfl ?_
    refine o_iaload X hx hZ eT V_b1 ⟨by decide, by decide⟩ (v := (.int j1)) rfl 220 (hb hby at_219) rfl ?_
    refine o_laload X hx hZ eT V_b6 (own_jin hj1) (v := (.long (own_sel v0 v1 v2 v3 j1))) (own_atL v0 v1 v2 v3 hj1) 221 (hb hby at_220) rfl ?_
    refine o_ladd X hx 222 (hb hby at_221) rfl ?_
    refine o_lstore X hx 224 (Ls' := #[.val (.int p1), .val (.long p2), .second, .val (.long p3), .second, .val (.int p4), .val (.int (2 : Int32)), .val (.ref b1), .val (.ref b6), .val (.ref b11), .val (.ref b25), .val (.long ((((p1).toInt64) + (own_sel v0 v1 v2 v3 j0)) + (own_sel v0 v1 v2 v3 j1))), .second, .unset, .unset]) (hb hby at_222) rfl rfl ?_
    refine o_iload X hx 226 (hb hby at_224) rfl rfl ?_
    refine o_iconst X hx 227 (2 : Int32) (hb hby at_226) rfl rfl ?_
    refine o_icmpT X hx 242 (hb hby at_227) rfl (by decide : ¬ (2 : Int32) < (2 : Int32)) ?_
    refine o_iload X hx 244 (hb hby at_242) rfl rfl ?_
    refine o_iconst X hx 245 (3 : Int32) (hb hby at_244) rfl rfl ?_
    refine o_icmpT X hx 260 (hb hby at_245) rfl (by decide : ¬ (3 : Int32) < (2 : Int32)) ?_
    refine o_new X hx hZ hown (hw _ (List.mem_of_getElem? (i := 3) rfl)) (hw _ (List.mem_of_getElem? (i := 4) rfl)) (hw _ (List.mem_of_getElem? (i := 5) rfl)) eT 263 (hb hby at_260) rfl (by decide) (by decide) (fun T h28 b28 hb28 X eT E A D => ?_)
    have ne_b1_b28 : b1 ≠ b28 := Nat.ne_of_lt (Nat.lt_of_lt_of_eq V_b1.lt hb28.symm)
    have ne_b6_b28 : b6 ≠ b28 := Nat.ne_of_lt (Nat.lt_of_lt_of_eq V_b6.lt hb28.symm)
    have ne_b11_b28 : b11 ≠ b28 := Nat.ne_of_lt (Nat.lt_of_lt_of_eq V_b11.lt hb28.symm)
    have ne_b25_b28 : b25 ≠ b28 := Nat.ne_of_lt (Nat.lt_of_lt_of_eq V_b25.lt hb28.symm)
    have g_b28 : n0 ≤ b28 := Nat.le_trans Z0 (Nat.le_of_eq hb28.symm)
    replace V_b1 := V_b1.ext E
    replace V_b6 := V_b6.ext E
    replace V_b11 := V_b11.ext E
    replace V_b25 := V_b25.ext E
    replace Z0 := Nat.le_trans Z0 E.1
    have E_b28 := A
    have F_measured_b28 : Fld Z h28 b28 "com/example/spillway/spillway/RateModel$Supply" "measured" "D" (.double (0 : UInt64)) := D (Or.inr (hw _ (List.mem_of_getElem? (i := 18) rfl))) (ty := .double) (by decide)
    have F_patterns_b28 : Fld Z h28 b28 "com/example/spillway/spillway/RateModel$Supply" "patterns" "[I" .null := D (Or.inr (hw _ (List.mem_of_getElem? (i := 20) rfl))) (ty := (.array .int)) (by decide)
    refine o_dup X hx 264 (hb hby at_263) rfl rfl ?_
    refine o_iloadN X hx 265 (hb hby at_264) rfl rfl ?_
    refine o_i2d X hx 266 (FP.l2d (p1).toInt64) (hb hby at_265) (i2d_w _) rfl ?_
    refine o_aload X hx 268 (hb hby at_266) rfl rfl rfl ?_
    refine o_callI X hx hZ rfl hown (hw _ (List.mem_of_getElem? (i := 6) rfl)) (hw _ (List.mem_of_getElem? (i := 7) rfl)) (hw _ (List.mem_of_getElem? (i := 5) rfl)) (hw _ (List.mem_of_getElem? (i := 8) rfl)) (by decide) (rm_init l Z a0 hw [] b28 b25 (FP.l2d (p1).toInt64) _ _ _ n0 Z0 E_b28 F_measured_b28 F_patterns_b28 g_b28) eT (by decide) 1 (by decide) (by rw [hml]; rfl) [(.double (FP.l2d (p1).toInt64)), (.ref b25)] (rest := [(.ref b28)]) (lenOf pd_1 rfl) rfl rfl (Nat.le_of_eq rfl) (by decide) (by decide) 271 (hb hby at_268) rfl (fun v T h29 Lc X eT q => ?_)
    obtain ⟨rfl, N', K1, E', G1, G2⟩ := q
    replace N := Fr.app N N'
    replace V_b1 := V_b1.keep K1 (ninS ne_b1_b28 nin0)
    replace V_b6 := V_b6.keep K1 (ninS ne_b6_b28 nin0)
    replace V_b11 := V_b11.keep K1 (ninS ne_b11_b28 nin0)
    replace V_b25 := V_b25.keep K1 (ninS ne_b25_b28 nin0)
    replace Z0 := Nat.le_trans Z0 K1.1
    replace E_b28 := E'
    show Wout p e below _ T (mkF m 271 #[.val (.int p1), .val (.long p2), .second, .val (.long p3), .second, .val (.int p4), .val (.int (2 : Int32)), .val (.ref b1), .val (.ref b6), .val (.ref b11), .val (.ref b25), .val (.long ((((p1).toInt64) + (own_sel v0 v1 v2 v3 j0)) + (own_sel v0 v1 v2 v3 j1))), .second, .unset, .unset] [(.ref b28)])
    refine o_aload X hx 273 (hb hby at_271) rfl rfl rfl ?_
    refine o_callV X hx hZ hown (hw _ (List.mem_of_getElem? (i := 21) rfl)) (hw _ (List.mem_of_getElem? (i := 22) rfl)) (hw _ (List.mem_of_getElem? (i := 24) rfl)) (hw _ (List.mem_of_getElem? (i := 23) rfl)) (hw _ (List.mem_of_getElem? (i := 5) rfl)) (hw _ (List.mem_of_getElem? (i := 25) rfl)) (by decide) (rm_rate2 l Z a0 hw [] b28 b25 b11 k25 k11 (p1).toInt64 v0 v1 v2 v3 j0 j1 _ n0 Z0 G1 G2 V_b25 V_b11 (own_R1 p1) Rv0 Rv1 Rv2 Rv3 hj0 hj1) eT (by decide) 0 (by decide) (by rw [hml]; rfl) E_b28 [(.ref b11)] (rest := []) (lenOf pd_2 rfl) rfl rfl (Nat.le_of_eq rfl) (by decide) (by decide) 276 (hb hby at_273) rfl (fun v T h30 Lc X eT q => ?_)
    obtain ⟨rfl, N', e'⟩ := q
    replace N := Fr.app N N'
    replace eT := eT.trans e'
    show Wout p e below _ T (mkF m 276 #[.val (.int p1), .val (.long p2), .second, .val (.long p3), .second, .val (.int p4), .val (.int (2 : Int32)), .val (.ref b1), .val (.ref b6), .val (.ref b11), .val (.ref b25), .val (.long ((((p1).toInt64) + (own_sel v0 v1 v2 v3 j0)) + (own_sel v0 v1 v2 v3 j1))), .second, .unset, .unset] [(.double (FP.l2d (((p1).toInt64 + (own_sel v0 v1 v2 v3 j0)) + (own_sel v0 v1 v2 v3 j1))))])
    refine o_dstore X hx 278 (Ls' := #[.val (.int p1), .val (.long p2), .second, .val (.long p3), .second, .val (.int p4), .val (.int (2 : Int32)), .val (.ref b1), .val (.ref b6), .val (.ref b11), .val (.ref b25), .val (.long ((((p1).toInt64) + (own_sel v0 v1 v2 v3 j0)) + (own_sel v0 v1 v2 v3 j1))), .second, .val (.double (FP.l2d (((p1).toInt64 + (own_sel v0 v1 v2 v3 j0)) + (own_sel v0 v1 v2 v3 j1)))), .second]) (hb hby at_276) rfl rfl ?_
    refine o_dload X hx 280 (hb hby at_278) rfl rfl ?_
    refine o_lload X hx 282 (hb hby at_280) rfl rfl ?_
    refine o_l2d X hx 283 (FP.l2d ((((p1).toInt64) + (own_sel v0 v1 v2 v3 j0)) + (own_sel v0 v1 v2 v3 j1))) (hb hby at_282) rfl rfl ?_
    refine o_dcmp X hx 284 (0 : Int32) (hb hby at_283) (dcmpV_self (nn_w rfl) _) rfl ?_
    refine o_ifF X hx 287 (hb hby at_284) rfl (by decide : (0 : Int32) = (0 : Int32)) ?_
    refine o_iconst X hx 288 (1 : Int32) (hb hby at_287) rfl rfl ?_
    refine o_goto X hx 292 (hb hby at_288) rfl ?_
    exact o_retI X hx hlk hret rfl (by simp) (hb hby at_292) (by decide) (by decide) (by rw [eT]; exact ⟨rfl, N, trivial⟩)
  · show Wout p e below _ T (mkF m 126 #[.val (.int p1), .val (.long p2), .second, .val (.long p3), .second, .val (.int p4), .val (.int (3 : Int32)), .val (.ref b1), .val (.ref b6), .val (.ref b11), .unset, .unset, .unset, .unset, .unset] [(.int (3 : Int32))])
    refine o_newarray X hx hZ (hw _ (List.mem_of_getElem? (i := 0) rfl)) eT 128 (hb hby at_126) rfl (by decide) 3 (by decide) (by decide) (by decide) (by decide) (fun T h31 b31 k31 hb31 X eT E A => ?_)
    have ne_b1_b31 : b1 ≠ b31 := Nat.ne_of_lt (Nat.lt_of_lt_of_eq V_b1.lt hb31.symm)
    have ne_b6_b31 : b6 ≠ b31 := Nat.ne_of_lt (Nat.lt_of_lt_of_eq V_b6.lt hb31.symm)
    have ne_b11_b31 : b11 ≠ b31 := Nat.ne_of_lt (Nat.lt_of_lt_of_eq V_b11.lt hb31.symm)
    have g_b31 : n0 ≤ b31 := Nat.le_trans Z0 (Nat.le_of_eq hb31.symm)
    replace V_b1 := V_b1.ext E
    replace V_b6 := V_b6.ext E
    replace V_b11 := V_b11.ext E
    replace Z0 := Nat.le_trans Z0 E.1
    have V_b31 : Arv Z h31 b31 k31 .int (3 : Int32) [(.int (0 : Int32)), (.int (0 : Int32)), (.int (0 : Int32))] (.int (0 : Int32)) := A.pad (pad_rep [] (.int (0 : Int32)) 3)
    refine o_astore X hx 130 (Ls' := #[.val (.int p1), .val (.long p2), .second, .val (.long p3), .second, .val (.int p4), .val (.int (3 : Int32)), .val (.ref b1), .val (.ref b6), .val (.ref b11), .val (.ref b31), .unset, .unset, .unset, .unset]) (hb hby at_128) rfl rfl rfl ?_
    refine o_iload X hx 132 (hb hby at_130) rfl rfl ?_
    refine o_ifF X hx 135 (hb hby at_132) rfl (by decide : (0 : Int32) < (3 : Int32)) ?_
    refine o_aload X hx 137 (hb hby at_135) rfl rfl rfl ?_
    refine o_iconst X hx 138 (0 : Int32) (hb hby at_137) rfl rfl ?_
    refine o_aload X hx 140 (hb hby at_138) rfl rfl rfl ?_
    refine o_iconst X hx 141 (0 : Int32) (hb hby at_140) rfl rfl ?_
    refine o_iaload X hx hZ eT V_b1 ⟨by decide, by decide⟩ (v := (.int j0)) rfl 142 (hb hby at_141) rfl ?_
    refine o_iastore X hx hZ eT V_b31 ⟨by decide, by decide⟩ 0 rfl (Nat.le_of_ble_eq_true rfl) (vs' := [(.int j0), (.int (0 : Int32)), (.int (0 : Int32))]) rfl N g_b31 143 (hb hby at_142) rfl (fun T h32 locs X eT W V' N => ?_)
    replace V_b1 := V_b1.other W ne_b1_b31
    replace V_b6 := V_b6.other W ne_b6_b31
    replace V_b11 := V_b11.other W ne_b11_b31
    replace Z0 := Nat.le_trans Z0 (Keep.of_wr W).1
    replace V_b31 := V'
    refine o_iload X hx 145 (hb hby at_143) rfl rfl ?_
    refine o_iconst X hx 146 (1 : Int32) (hb hby at_145) rfl rfl ?_
    refine o_icmpF X hx 149 (hb hby at_146) rfl (by decide : (1 : Int32) < (3 : Int32)) ?_
    refine o_aload X hx 151 (hb hby at_149) rfl rfl rfl ?_
    refine o_iconst X hx 152 (1 : Int32) (hb hby at_151) rfl rfl ?_
    refine o_aload X hx 154 (hb hby at_152) rfl rfl rfl ?_
    refine o_iconst X hx 155 (1 : Int32) (hb hby at_154) rfl rfl ?_
    refine o_iaload X hx hZ eT V_b1 ⟨by decide, by decide⟩ (v := (.int j1)) rfl 156 (hb hby at_155) rfl ?_
    refine o_iastore X hx hZ eT V_b31 ⟨by decide, by decide⟩ 1 rfl (Nat.le_of_ble_eq_true rfl) (vs' := [(.int j0), (.int j1), (.int (0 : Int32))]) rfl N g_b31 157 (hb hby at_156) rfl (fun T h33 locs X eT W V' N => ?_)
    replace V_b1 := V_b1.other W ne_b1_b31
    replace V_b6 := V_b6.other W ne_b6_b31
    replace V_b11 := V_b11.other W ne_b11_b31
    replace Z0 := Nat.le_trans Z0 (Keep.of_wr W).1
    replace V_b31 := V'
    refine o_iload X hx 159 (hb hby at_157) rfl rfl ?_
    refine o_iconst X hx 160 (2 : Int32) (hb hby at_159) rfl rfl ?_
    refine o_icmpF X hx 163 (hb hby at_160) rfl (by decide : (2 : Int32) < (3 : Int32)) ?_
    refine o_aload X hx 165 (hb hby at_163) rfl rfl rfl ?_
    refine o_iconst X hx 166 (2 : Int32) (hb hby at_165) rfl rfl ?_
    refine o_aload X hx 168 (hb hby at_166) rfl rfl rfl ?_
    refine o_iconst X hx 169 (2 : Int32) (hb hby at_168) rfl rfl ?_
    refine o_iaload X hx hZ eT V_b1 ⟨by decide, by decide⟩ (v := (.int j2)) rfl 170 (hb hby at_169) rfl ?_
    refine o_iastore X hx hZ eT V_b31 ⟨by decide, by decide⟩ 2 rfl (Nat.le_of_ble_eq_true rfl) (vs' := [(.int j0), (.int j1), (.int j2)]) rfl N g_b31 171 (hb hby at_170) rfl (fun T h34 locs X eT W V' N => ?_)
    replace V_b1 := V_b1.other W ne_b1_b31
    replace V_b6 := V_b6.other W ne_b6_b31
    replace V_b11 := V_b11.other W ne_b11_b31
    replace Z0 := Nat.le_trans Z0 (Keep.of_wr W).1
    replace V_b31 := V'
    refine o_iload X hx 173 (hb hby at_171) rfl rfl ?_
    refine o_iconst X hx 174 (3 : Int32) (hb hby at_173) rfl rfl ?_
    refine o_icmpT X hx 185 (hb hby at_174) rfl (by decide : ¬ (3 : Int32) < (3 : Int32)) ?_
    refine o_iloadN X hx 186 (hb hby at_185) rfl rfl ?_
    refine o_i2l X hx 187 (hb hby at_186) rfl ?_
    refine o_lstore X hx 189 (Ls' := #[.val (.int p1), .val (.long p2), .second, .val (.long p3), .second, .val (.int p4), .val (.int (3 : Int32)), .val (.ref b1), .val (.ref b6), .val (.ref b11), .val (.ref b31), .val (.long ((p1).toInt64)), .second, .unset, .unset]) (hb hby at_187) rfl rfl ?_
    refine o_iload X hx 191 (hb hby at_189) rfl rfl ?_
    refine o_ifF X hx 194 (hb hby at_191) rfl (by decide : (0 : Int32) < (3 : Int32)) ?_
    refine o_lload X hx 196 (hb hby at_194) rfl rfl ?_
    refine o_aload X hx 198 (hb hby at_196) rfl rfl rfl ?_
    refine o_aload X hx 200 (hb hby at_198) rfl rfl rfl ?_
    refine o_iconst X hx 201 (0 : Int32) (hb hby at_200) rfl rfl ?_
    refine o_iaload X hx hZ eT V_b1 ⟨by decide, by decide⟩ (v := (.int j0)) rfl 202 (hb hby at_201) rfl ?_
    refine o_laload X hx hZ eT V_b6 (own_jin hj0) (v := (.long (own_sel v0 v1 v2 v3 j0))) (own_atL v0 v1 v2 v3 hj0) 203 (hb hby at_202) rfl ?_
    refine o_ladd X hx 204 (hb hby at_203) rfl ?_
    refine o_lstore X hx 206 (Ls' := #[.val (.int p1), .val (.long p2), .second, .val (.long p3), .second, .val (.int p4), .val (.int (3 : Int32)), .val (.ref b1), .val (.ref b6), .val (.ref b11), .val (.ref b31), .val (.long (((p1).toInt64) + (own_sel v0 v1 v2 v3 j0))), .second, .unset, .unset]) (hb hby at_204) rfl rfl ?_
    refine o_iload X hx 208 (hb hby at_206) rfl rfl ?_
    refine o_iconst X hx 209 (1 : Int32) (hb hby at_208) rfl rfl ?_
    refine o_icmpF X hx 212 (hb hby at_209) rfl (by decide : (1 : Int32) < (3 : Int32)) ?_
    refine o_lload X hx 214 (hb hby at_212) rfl rfl ?_
    refine o_aload X hx 216 (hb hby at_214) rfl rfl rfl ?_
    refine o_aload X hx 218 (hb hby at_216) rfl rfl rfl ?_
    refine o_iconst X hx 219 (1 : Int32) (hb hby at_218) rfl rfl ?_
    refine o_iaload X hx hZ eT V_b1 ⟨by decide, by decide⟩ (v := (.int j1)) rfl 220 (hb hby at_219) rfl ?_
    refine o_laload X hx hZ eT V_b6 (own_jin hj1) (v := (.long (own_sel v0 v1 v2 v3 j1))) (own_atL v0 v1 v2 v3 hj1) 221 (hb hby at_220) rfl ?_
    refine o_ladd X hx 222 (hb hby at_221) rfl ?_
    refine o_lstore X hx 224 (Ls' := #[.val (.int p1), .val (.long p2), .second, .val (.long p3), .second, .val (.int p4), .val (.int (3 : Int32)), .val (.ref b1), .val (.ref b6), .val (.ref b11), .val (.ref b31), .val (.long ((((p1).toInt64) + (own_sel v0 v1 v2 v3 j0)) + (own_sel v0 v1 v2 v3 j1))), .second, .unset, .unset]) (hb hby at_222) rfl rfl ?_
    refine o_iload X hx 226 (hb hby at_224) rfl rfl ?_
    refine o_iconst X hx 227 (2 : Int32) (hb hby at_226) rfl rfl ?_
    refine o_icmpF X hx 230 (hb hby at_227) rfl (by decide : (2 : Int32) < (3 : Int32)) ?_
    refine o_lload X hx 232 (hb hby at_230) rfl rfl ?_
    refine o_aload X hx 234 (hb hby at_232) rfl rfl rfl ?_
    refine o_aload X hx 236 (hb hby at_234) rfl rfl rfl ?_
    refine o_iconst X hx 237 (2 : Int32) (hb hby at_236) rfl rfl ?_
    refine o_iaload X hx hZ eT V_b1 ⟨by decide, by decide⟩ (v := (.int j2)) rfl 238 (hb hby at_237) rfl ?_
    refine o_laload X hx hZ eT V_b6 (own_jin hj2) (v := (.long (own_sel v0 v1 v2 v3 j2))) (own_atL v0 v1 v2 v3 hj2) 239 (hb hby at_238) rfl ?_
    refine o_ladd X hx 240 (hb hby at_239) rfl ?_
    refine o_lstore X hx 242 (Ls' := #[.val (.int p1), .val (.long p2), .second, .val (.long p3), .second, .val (.int p4), .val (.int (3 : Int32)), .val (.ref b1), .val (.ref b6), .val (.ref b11), .val (.ref b31), .val (.long (((((p1).toInt64) + (own_sel v0 v1 v2 v3 j0)) + (own_sel v0 v1 v2 v3 j1)) + (own_sel v0 v1 v2 v3 j2))), .second, .unset, .unset]) (hb hby at_240) rfl rfl ?_
    refine o_iload X hx 244 (hb hby at_242) rfl rfl ?_
    refine o_iconst X hx 245 (3 : Int32) (hb hby at_244) rfl rfl ?_
    refine o_icmpT X hx 260 (hb hby at_245) rfl (by decide : ¬ (3 : Int32) < (3 : Int32)) ?_
    refine o_new X hx hZ hown (hw _ (List.mem_of_getElem? (i := 3) rfl)) (hw _ (List.mem_of_getElem? (i := 4) rfl)) (hw _ (List.mem_of_getElem? (i := 5) rfl)) eT 263 (hb hby at_260) rfl (by decide) (by decide) (fun T h35 b35 hb35 X eT E A D => ?_)
    have ne_b1_b35 : b1 ≠ b35 := Nat.ne_of_lt (Nat.lt_of_lt_of_eq V_b1.lt hb35.symm)
    have ne_b6_b35 : b6 ≠ b35 := Nat.ne_of_lt (Nat.lt_of_lt_of_eq V_b6.lt hb35.symm)
    have ne_b11_b35 : b11 ≠ b35 := Nat.ne_of_lt (Nat.lt_of_lt_of_eq V_b11.lt hb35.symm)
    have ne_b31_b35 : b31 ≠ b35 := Nat.ne_of_lt (Nat.lt_of_lt_of_eq V_b31.lt hb35.symm)
    have g_b35 : n0 ≤ b35 := Nat.le_trans Z0 (Nat.le_of_eq hb35.symm)
    replace V_b1 := V_b1.ext E
    replace V_b6 := V_b6.ext E
    replace V_b11 := V_b11.ext E
    replace V_b31 := V_b31.ext E
    replace Z0 := Nat.le_trans Z0 E.1
    have E_b35 := A
    have F_measured_b35 : Fld Z h35 b35 "com/example/spillway/spillway/RateModel$Supply" "measured" "D" (.double (0 : UInt64)) := D (Or.inr (hw _ (List.mem_of_getElem? (i := 18) rfl))) (ty := .double) (by decide)
    have F_patterns_b35 : Fld Z h35 b35 "com/example/spillway/spillway/RateModel$Supply" "patterns" "[I" .null := D (Or.inr (hw _ (List.mem_of_getElem? (i := 20) rfl))) (ty := (.array .int)) (by decide)
    refine o_dup X hx 264 (hb hby at_263) rfl rfl ?_
    refine o_iloadN X hx 265 (hb hby at_264) rfl rfl ?_
    refine o_i2d X hx 266 (FP.l2d (p1).toInt64) (hb hby at_265) (i2d_w _) rfl ?_
    refine o_aload X hx 268 (hb hby at_266) rfl rfl rfl ?_
    refine o_callI X hx hZ rfl hown (hw _ (List.mem_of_getElem? (i := 6) rfl)) (hw _ (List.mem_of_getElem? (i := 7) rfl)) (hw _ (List.mem_of_getElem? (i := 5) rfl)) (hw _ (List.mem_of_getElem? (i := 8) rfl)) (by decide) (rm_init l Z a0 hw [] b35 b31 (FP.l2d (p1).toInt64) _ _ _ n0 Z0 E_b35 F_measured_b35 F_patterns_b35 g_b35) eT (by decide) 1 (by decide) (by rw [hml]; rfl) [(.double (FP.l2d (p1).toInt64)), (.ref b31)] (rest := [(.ref b35)]) (lenOf pd_1 rfl) rfl rfl (Nat.le_of_eq rfl) (by decide) (by decide) 271 (hb hby at_268) rfl (fun v T h36 Lc X eT q => ?_)
    obtain ⟨rfl, N', K1, E', G1, G2⟩ := q
    replace N := Fr.app N N'
    replace V_b1 := V_b1.keep K1 (ninS ne_b1_b35 nin0)
    replace V_b6 := V_b6.keep K1 (ninS ne_b6_b35 nin0)
    replace V_b11 := V_b11.keep K1 (ninS ne_b11_b35 nin0)
    replace V_b31 := V_b31.keep K1 (ninS ne_b31_b35 nin0)
    replace Z0 := Nat.le_trans Z0 K1.1
    replace E_b35 := E'
    show Wout p e below _ T (mkF m 271 #[.val (.int p1), .val (.long p2), .second, .val (.long p3), .second, .val (.int p4), .val (.int (3 : Int32)), .val (.ref b1), .val (.ref b6), .val (.ref b11), .val (.ref b31), .val (.long (((((p1).toInt64) + (own_sel v0 v1 v2 v3 j0)) + (own_sel v0 v1 v2 v3 j1)) + (own_sel v0 v1 v2 v3 j2))), .second, .unset, .unset] [(.ref b35)])
    refine o_aload X hx 273 (hb hby at_271) rfl rfl rfl ?_
    refine o_callV X hx hZ hown (hw _ (List.mem_of_getElem? (i := 21) rfl)) (hw _ (List.mem_of_getElem? (i := 22) rfl)) (hw _ (List.mem_of_getElem? (i := 24) rfl)) (hw _ (List.mem_of_getElem? (i := 23) rfl)) (hw _ (List.mem_of_getElem? (i := 5) rfl)) (hw _ (List.mem_of_getElem? (i := 25) rfl)) (by decide) (rm_rate3 l Z a0 hw [] b35 b31 b11 k31 k11 (p1).toInt64 v0 v1 v2 v3 j0 j1 j2 _ n0 Z0 G1 G2 V_b31 V_b11 (own_R1 p1) Rv0 Rv1 Rv2 Rv3 hj0 hj1 hj2) eT (by decide) 0 (by decide) (by rw [hml]; rfl) E_b35 [(.ref b11)] (rest := []) (lenOf pd_2 rfl) rfl rfl (Nat.le_of_eq rfl) (by decide) (by decide) 276 (hb hby at_273) rfl (fun v T h37 Lc X eT q => ?_)
    obtain ⟨rfl, N', e'⟩ := q
    replace N := Fr.app N N'
    replace eT := eT.trans e'
    show Wout p e below _ T (mkF m 276 #[.val (.int p1), .val (.long p2), .second, .val (.long p3), .second, .val (.int p4), .val (.int (3 : Int32)), .val (.ref b1), .val (.ref b6), .val (.ref b11), .val (.ref b31), .val (.long (((((p1).toInt64) + (own_sel v0 v1 v2 v3 j0)) + (own_sel v0 v1 v2 v3 j1)) + (own_sel v0 v1 v2 v3 j2))), .second, .unset, .unset] [(.double (FP.l2d ((((p1).toInt64 + (own_sel v0 v1 v2 v3 j0)) + (own_sel v0 v1 v2 v3 j1)) + (own_sel v0 v1 v2 v3 j2))))])
    refine o_dstore X hx 278 (Ls' := #[.val (.int p1), .val (.long p2), .second, .val (.long p3), .second, .val (.int p4), .val (.int (3 : Int32)), .val (.ref b1), .val (.ref b6), .val (.ref b11), .val (.ref b31), .val (.long (((((p1).toInt64) + (own_sel v0 v1 v2 v3 j0)) + (own_sel v0 v1 v2 v3 j1)) + (own_sel v0 v1 v2 v3 j2))), .second, .val (.double (FP.l2d ((((p1).toInt64 + (own_sel v0 v1 v2 v3 j0)) + (own_sel v0 v1 v2 v3 j1)) + (own_sel v0 v1 v2 v3 j2)))), .second]) (hb hby at_276) rfl rfl ?_
    refine o_dload X hx 280 (hb hby at_278) rfl rfl ?_
    refine o_lload X hx 282 (hb hby at_280) rfl rfl ?_
    refine o_l2d X hx 283 (FP.l2d (((((p1).toInt64) + (own_sel v0 v1 v2 v3 j0)) + (own_sel v0 v1 v2 v3 j1)) + (own_sel v0 v1 v2 v3 j2))) (hb hby at_282) rfl rfl ?_
    refine o_dcmp X hx 284 (0 : Int32) (hb hby at_283) (dcmpV_self (nn_w rfl) _) rfl ?_
    refine o_ifF X hx 287 (hb hby at_284) rfl (by decide : (0 : Int32) = (0 : Int32)) ?_
    refine o_iconst X hx 288 (1 : Int32) (hb hby at_287) rfl rfl ?_
    refine o_goto X hx 292 (hb hby at_288) rfl ?_
    exact o_retI X hx hlk hret rfl (by simp) (hb hby at_292) (by decide) (by decide) (by rw [eT]; exact ⟨rfl, N, trivial⟩)
  · show Wout p e below _ T (mkF m 126 #[.val (.int p1), .val (.long p2), .second, .val (.long p3), .second, .val (.int p4), .val (.int (4 : Int32)), .val (.ref b1), .val (.ref b6), .val (.ref b11), .unset, .unset, .unset, .unset, .unset] [(.int (4 : Int32))])
    refine o_newarray X hx hZ (hw _ (List.mem_of_getElem? (i := 0) rfl)) eT 128 (hb hby at_126) rfl (by decide) 4 (by decide) (by decide) (by decide) (by decide) (fun T h38 b38 k38 hb38 X eT E A => ?_)
    have ne_b1_b38 : b1 ≠ b38 := Nat.ne_of_lt (Nat.lt_of_lt_of_eq V_b1.lt hb38.symm)
    have ne_b6_b38 : b6 ≠ b38 := Nat.ne_of_lt (Nat.lt_of_lt_of_eq V_b6.lt hb38.symm)
    have ne_b11_b38 : b11 ≠ b38 := Nat.ne_of_lt (Nat.lt_of_lt_of_eq V_b11.lt hb38.symm)
    have g_b38 : n0 ≤ b38 := Nat.le_trans Z0 (Nat.le_of_eq hb38.symm)
    replace V_b1 := V_b1.ext E
    replace V_b6 := V_b6.ext E
    replace V_b11 := V_b11.ext E
    replace Z0 := Nat.le_trans Z0 E.1
    have V_b38 : Arv Z h38 b38 k38 .int (4 : Int32) [(.int (0 : Int32)), (.int (0 : Int32)), (.int (0 : Int32)), (.int (0 : Int32))] (.int (0 : Int32)) := A.pad (pad_rep [] (.int (0 : Int32)) 4)
    refine o_astore X hx 130 (Ls' := #[.val (.int p1), .val (.long p2), .second, .val (.long p3), .second, .val (.int p4), .val (.int (4 : Int32)), .val (.ref b1), .val (.ref b6), .val (.ref b11), .val (.ref b38), .unset, .unset, .unset, .unset]) (hb hby at_128) rfl rfl rfl ?_
    refine o_iload X hx 132 (hb hby at_130) rfl rfl ?_
    refine o_ifF X hx 135 (hb hby at_132) rfl (by decide : (0 : Int32) < (4 : Int32)) ?_
    refine o_aload X hx 137 (hb hby at_135) rfl rfl rfl ?_
    refine o_iconst X hx 138 (0 : Int32) (hb hby at_137) rfl rfl ?_
    refine o_aload X hx 140 (hb hby at_138) rfl rfl rfl ?_
    refine o_iconst X hx 141 (0 : Int32) (hb hby at_140) rfl rfl ?_
    refine o_iaload X hx hZ eT V_b1 ⟨by decide, by decide⟩ (v := (.int j0)) rfl 142 (hb hby at_141) rfl ?_
    refine o_iastore X hx hZ eT V_b38 ⟨by decide, by decide⟩ 0 rfl (Nat.le_of_ble_eq_true rfl) (vs' := [(.int j0), (.int (0 : Int32)), (.int (0 : Int32)), (.int (0 : Int32))]) rfl N g_b38 143 (hb hby at_142) rfl (fun T h39 locs X eT W V' N => ?_)
    replace V_b1 := V_b1.other W ne_b1_b38
    replace V_b6 := V_b6.other W ne_b6_b38
    replace V_b11 := V_b11.other W ne_b11_b38
    replace Z0 := Nat.le_trans Z0 (Keep.of_wr W).1
    replace V_b38 := V'
    refine o_iload X hx 145 (hb hby at_143) rfl rfl ?_
    refine o_iconst X hx 146 (1 : Int32) (hb hby at_145) rfl rfl ?_
    refine o_icmpF X hx 149 (hb hby at_146) rfl (by decide : (1 : Int32) < (4 : Int32)) ?_
    refine o_aload X hx 151 (hb hby at_149) rfl rfl rfl ?_
    refine o_iconst X hx 152 (1 : Int32) (hb hby at_151) rfl rfl ?_
    refine o_aload X hx 154 (hb hby at_152) rfl rfl rfl ?_
    refine o_iconst X hx 155 (1 : Int32) (hb hby at_154) rfl rfl ?_
    refine o_iaload X hx hZ eT V_b1 ⟨by decide, by decide⟩ (v := (.int j1)) rfl 156 (hb hby at_155) rfl ?_
    refine o_iastore X hx hZ eT V_b38 ⟨by decide, by decide⟩ 1 rfl (Nat.le_of_ble_eq_true rfl) (vs' := [(.int j0), (.int j1), (.int (0 : Int32)), (.int (0 : Int32))]) rfl N g_b38 157 (hb hby at_156) rfl (fun T h40 locs X eT W V' N => ?_)
    replace V_b1 := V_b1.other W ne_b1_b38
    replace V_b6 := V_b6.other W ne_b6_b38
    replace V_b11 := V_b11.other W ne_b11_b38
    replace Z0 := Nat.le_trans Z0 (Keep.of_wr W).1
    replace V_b38 := V'
    refine o_iload X hx 159 (hb hby at_157) rfl rfl ?_
    refine o_iconst X hx 160 (2 : Int32) (hb hby at_159) rfl rfl ?_
    refine o_icmpF X hx 163 (hb hby at_160) rfl (by decide : (2 : Int32) < (4 : Int32)) ?_
    refine o_aload X hx 165 (hb hby at_163) rfl rfl rfl ?_
    refine o_iconst X hx 166 (2 : Int32) (hb hby at_165) rfl rfl ?_
    refine o_aload X hx 168 (hb hby at_166) rfl rfl rfl ?_
    refine o_iconst X hx 169 (2 : Int32) (hb hby at_168) rfl rfl ?_
    refine o_iaload X hx hZ eT V_b1 ⟨by decide, by decide⟩ (v := (.int j2)) rfl 170 (hb hby at_169) rfl ?_
    refine o_iastore X hx hZ eT V_b38 ⟨by decide, by decide⟩ 2 rfl (Nat.le_of_ble_eq_true rfl) (vs' := [(.int j0), (.int j1), (.int j2), (.int (0 : Int32))]) rfl N g_b38 171 (hb hby at_170) rfl (fun T h41 locs X eT W V' N => ?_)
    replace V_b1 := V_b1.other W ne_b1_b38
    replace V_b6 := V_b6.other W ne_b6_b38
    replace V_b11 := V_b11.other W ne_b11_b38
    replace Z0 := Nat.le_trans Z0 (Keep.of_wr W).1
    replace V_b38 := V'
    refine o_iload X hx 173 (hb hby at_171) rfl rfl ?_
    refine o_iconst X hx 174 (3 : Int32) (hb hby at_173) rfl rfl ?_
    refine o_icmpF X hx 177 (hb hby at_174) rfl (by decide : (3 : Int32) < (4 : Int32)) ?_
    refine o_aload X hx 179 (hb hby at_177) rfl rfl rfl ?_
    refine o_iconst X hx 180 (3 : Int32) (hb hby at_179) rfl rfl ?_
    refine o_aload X hx 182 (hb hby at_180) rfl rfl rfl ?_
    refine o_iconst X hx 183 (3 : Int32) (hb hby at_182) rfl rfl ?_
    refine o_iaload X hx hZ eT V_b1 ⟨by decide, by decide⟩ (v := (.int j3)) rfl 184 (hb hby at_183) rfl ?_
    refine o_iastore X hx hZ eT V_b38 ⟨by decide, by decide⟩ 3 rfl (Nat.le_of_ble_eq_true rfl) (vs' := [(.int j0), (.int j1), (.int j2), (.int j3)]) rfl N g_b38 185 (hb hby at_184) rfl (fun T h42 locs X eT W V' N => ?_)
    replace V_b1 := V_b1.other W ne_b1_b38
    replace V_b6 := V_b6.other W ne_b6_b38
    replace V_b11 := V_b11.other W ne_b11_b38
    replace Z0 := Nat.le_trans Z0 (Keep.of_wr W).1
    replace V_b38 := V'
    refine o_iloadN X hx 186 (hb hby at_185) rfl rfl ?_
    refine o_i2l X hx 187 (hb hby at_186) rfl ?_
    refine o_lstore X hx 189 (Ls' := #[.val (.int p1), .val (.long p2), .second, .val (.long p3), .second, .val (.int p4), .val (.int (4 : Int32)), .val (.ref b1), .val (.ref b6), .val (.ref b11), .val (.ref b38), .val (.long ((p1).toInt64)), .second, .unset, .unset]) (hb hby at_187) rfl rfl ?_
    refine o_iload X hx 191 (hb hby at_189) rfl rfl ?_
    refine o_ifF X hx 194 (hb hby at_191) rfl (by decide : (0 : Int32) < (4 : Int32)) ?_
    refine o_lload X hx 196 (hb hby at_194) rfl rfl ?_
    refine o_aload X hx 198 (hb hby at_196) rfl rfl rfl ?_
    refine o_aload X hx 200 (hb hby at_198) rfl rfl rfl ?_
    refine o_iconst X hx 201 (0 : Int32) (hb hby at_200) rfl rfl ?_
    refine o_iaload X hx hZ eT V_b1 ⟨by decide, by decide⟩ (v := (.int j0)) rfl 202 (hb hby at_201) rfl ?_
    refine o_laload X hx hZ eT V_b6 (own_jin hj0) (v := (.long (own_sel v0 v1 v2 v3 j0))) (own_atL v0 v1 v2 v3 hj0) 203 (hb hby at_202) rfl ?_
    refine o_ladd X hx 204 (hb hby at_203) rfl ?_
    refine o_lstore X hx 206 (Ls' := #[.val (.int p1), .val (.long p2), .second, .val (.long p3), .second, .val (.int p4), .val (.int (4 : Int32)), .val (.ref b1), .val (.ref b6), .val (.ref b11), .val (.ref b38), .val (.long (((p1).toInt64) + (own_sel v0 v1 v2 v3 j0))), .second, .unset, .unset]) (hb hby at_204) rfl rfl ?_
    refine o_iload X hx 208 (hb hby at_206) rfl rfl ?_
    refine o_iconst X hx 209 (1 : Int32) (hb hby at_208) rfl rfl ?_
    refine o_icmpF X hx 212 (hb hby at_209) rfl (by decide : (1 : Int32) < (4 : Int32)) ?_
    refine o_lload X hx 214 (hb hby at_212) rfl rfl ?_
    refine o_aload X hx 216 (hb hby at_214) rfl rfl rfl ?_
    refine o_aload X hx 218 (hb hby at_216) rfl rfl rfl ?_
    refine o_iconst X hx 219 (1 : Int32) (hb hby at_218) rfl rfl ?_
    refine o_iaload X hx hZ eT V_b1 ⟨by decide, by decide⟩ (v := (.int j1)) rfl 220 (hb hby at_219) rfl ?_
    refine o_laload X hx hZ eT V_b6 (own_jin hj1) (v := (.long (own_sel v0 v1 v2 v3 j1))) (own_atL v0 v1 v2 v3 hj1) 221 (hb hby at_220) rfl ?_
    refine o_ladd X hx 222 (hb hby at_221) rfl ?_
    refine o_lstore X hx 224 (Ls' := #[.val (.int p1), .val (.long p2), .second, .val (.long p3), .second, .val (.int p4), .val (.int (4 : Int32)), .val (.ref b1), .val (.ref b6), .val (.ref b11), .val (.ref b38), .val (.long ((((p1).toInt64) + (own_sel v0 v1 v2 v3 j0)) + (own_sel v0 v1 v2 v3 j1))), .second, .unset, .unset]) (hb hby at_222) rfl rfl ?_
    refine o_iload X hx 226 (hb hby at_224) rfl rfl ?_
    refine o_iconst X hx 227 (2 : Int32) (hb hby at_226) rfl rfl ?_
    refine o_icmpF X hx 230 (hb hby at_227) rfl (by decide : (2 : Int32) < (4 : Int32)) ?_
    refine o_lload X hx 232 (hb hby at_230) rfl rfl ?_
    refine o_aload X hx 234 (hb hby at_232) rfl rfl rfl ?_
    refine o_aload X hx 236 (hb hby at_234) rfl rfl rfl ?_
    refine o_iconst X hx 237 (2 : Int32) (hb hby at_236) rfl rfl ?_
    refine o_iaload X hx hZ eT V_b1 ⟨by decide, by decide⟩ (v := (.int j2)) rfl 238 (hb hby at_237) rfl ?_
    refine o_laload X hx hZ eT V_b6 (own_jin hj2) (v := (.long (own_sel v0 v1 v2 v3 j2))) (own_atL v0 v1 v2 v3 hj2) 239 (hb hby at_238) rfl ?_
    refine o_ladd X hx 240 (hb hby at_239) rfl ?_
    refine o_lstore X hx 242 (Ls' := #[.val (.int p1), .val (.long p2), .second, .val (.long p3), .second, .val (.int p4), .val (.int (4 : Int32)), .val (.ref b1), .val (.ref b6), .val (.ref b11), .val (.ref b38), .val (.long (((((p1).toInt64) + (own_sel v0 v1 v2 v3 j0)) + (own_sel v0 v1 v2 v3 j1)) + (own_sel v0 v1 v2 v3 j2))), .second, .unset, .unset]) (hb hby at_240) rfl rfl ?_
    refine o_iload X hx 244 (hb hby at_242) rfl rfl ?_
    refine o_iconst X hx 245 (3 : Int32) (hb hby at_244) rfl rfl ?_
    refine o_icmpF X hx 248 (hb hby at_245) rfl (by decide : (3 : Int32) < (4 : Int32)) ?_
    refine o_lload X hx 250 (hb hby at_248) rfl rfl ?_
    refine o_aload X hx 252 (hb hby at_250) rfl rfl rfl ?_
    refine o_aload X hx 254 (hb hby at_252) rfl rfl rfl ?_
    refine o_iconst X hx 255 (3 : Int32) (hb hby at_254) rfl rfl ?_
    refine o_iaload X hx hZ eT V_b1 ⟨by decide, by decide⟩ (v := (.int j3)) rfl 256 (hb hby at_255) rfl ?_
    refine o_laload X hx hZ eT V_b6 (own_jin hj3) (v := (.long (own_sel v0 v1 v2 v3 j3))) (own_atL v0 v1 v2 v3 hj3) 257 (hb hby at_256) rfl ?_
    refine o_ladd X hx 258 (hb hby at_257) rfl ?_
    refine o_lstore X hx 260 (Ls' := #[.val (.int p1), .val (.long p2), .second, .val (.long p3), .second, .val (.int p4), .val (.int (4 : Int32)), .val (.ref b1), .val (.ref b6), .val (.ref b11), .val (.ref b38), .val (.long ((((((p1).toInt64) + (own_sel v0 v1 v2 v3 j0)) + (own_sel v0 v1 v2 v3 j1)) + (own_sel v0 v1 v2 v3 j2)) + (own_sel v0 v1 v2 v3 j3))), .second, .unset, .unset]) (hb hby at_258) rfl rfl ?_
    refine o_new X hx hZ hown (hw _ (List.mem_of_getElem? (i := 3) rfl)) (hw _ (List.mem_of_getElem? (i := 4) rfl)) (hw _ (List.mem_of_getElem? (i := 5) rfl)) eT 263 (hb hby at_260) rfl (by decide) (by decide) (fun T h43 b43 hb43 X eT E A D => ?_)
    have ne_b1_b43 : b1 ≠ b43 := Nat.ne_of_lt (Nat.lt_of_lt_of_eq V_b1.lt hb43.symm)
    have ne_b6_b43 : b6 ≠ b43 := Nat.ne_of_lt (Nat.lt_of_lt_of_eq V_b6.lt hb43.symm)
    have ne_b11_b43 : b11 ≠ b43 := Nat.ne_of_lt (Nat.lt_of_lt_of_eq V_b11.lt hb43.symm)
    have ne_b38_b43 : b38 ≠ b43 := Nat.ne_of_lt (Nat.lt_of_lt_of_eq V_b38.lt hb43.symm)
    have g_b43 : n0 ≤ b43 := Nat.le_trans Z0 (Nat.le_of_eq hb43.symm)
    replace V_b1 := V_b1.ext E
    replace V_b6 := V_b6.ext E
    replace V_b11 := V_b11.ext E
    replace V_b38 := V_b38.ext E
    replace Z0 := Nat.le_trans Z0 E.1
    have E_b43 := A
    have F_measured_b43 : Fld Z h43 b43 "com/example/spillway/spillway/RateModel$Supply" "measured" "D" (.double (0 : UInt64)) := D (Or.inr (hw _ (List.mem_of_getElem? (i := 18) rfl))) (ty := .double) (by decide)
    have F_patterns_b43 : Fld Z h43 b43 "com/example/spillway/spillway/RateModel$Supply" "patterns" "[I" .null := D (Or.inr (hw _ (List.mem_of_getElem? (i := 20) rfl))) (ty := (.array .int)) (by decide)
    refine o_dup X hx 264 (hb hby at_263) rfl rfl ?_
    refine o_iloadN X hx 265 (hb hby at_264) rfl rfl ?_
    refine o_i2d X hx 266 (FP.l2d (p1).toInt64) (hb hby at_265) (i2d_w _) rfl ?_
    refine o_aload X hx 268 (hb hby at_266) rfl rfl rfl ?_
    refine o_callI X hx hZ rfl hown (hw _ (List.mem_of_getElem? (i := 6) rfl)) (hw _ (List.mem_of_getElem? (i := 7) rfl)) (hw _ (List.mem_of_getElem? (i := 5) rfl)) (hw _ (List.mem_of_getElem? (i := 8) rfl)) (by decide) (rm_init l Z a0 hw [] b43 b38 (FP.l2d (p1).toInt64) _ _ _ n0 Z0 E_b43 F_measured_b43 F_patterns_b43 g_b43) eT (by decide) 1 (by decide) (by rw [hml]; rfl) [(.double (FP.l2d (p1).toInt64)), (.ref b38)] (rest := [(.ref b43)]) (lenOf pd_1 rfl) rfl rfl (Nat.le_of_eq rfl) (by decide) (by decide) 271 (hb hby at_268) rfl (fun v T h44 Lc X eT q => ?_)
    obtain ⟨rfl, N', K1, E', G1, G2⟩ := q
    replace N := Fr.app N N'
    replace V_b1 := V_b1.keep K1 (ninS ne_b1_b43 nin0)
    replace V_b6 := V_b6.keep K1 (ninS ne_b6_b43 nin0)
    replace V_b11 := V_b11.keep K1 (ninS ne_b11_b43 nin0)
    replace V_b38 := V_b38.keep K1 (ninS ne_b38_b43 nin0)
    replace Z0 := Nat.le_trans Z0 K1.1
    replace E_b43 := E'
    show Wout p e below _ T (mkF m 271 #[.val (.int p1), .val (.long p2), .second, .val (.long p3), .second, .val (.int p4), .val (.int (4 : Int32)), .val (.ref b1), .val (.ref b6), .val (.ref b11), .val (.ref b38), .val (.long ((((((p1).toInt64) + (own_sel v0 v1 v2 v3 j0)) + (own_sel v0 v1 v2 v3 j1)) + (own_sel v0 v1 v2 v3 j2)) + (own_sel v0 v1 v2 v3 j3))), .second, .unset, .unset] [(.ref b43)])
    refine o_aload X hx 273 (hb hby at_271) rfl rfl rfl ?_
    refine o_callV X hx hZ hown (hw _ (List.mem_of_getElem? (i := 21) rfl)) (hw _ (List.mem_of_getElem? (i := 22) rfl)) (hw _ (List.mem_of_getElem? (i := 24) rfl)) (hw _ (List.mem_of_getElem? (i := 23) rfl)) (hw _ (List.mem_of_getElem? (i := 5) rfl)) (hw _ (List.mem_of_getElem? (i := 25) rfl)) (by decide) (rm_rate4 l Z a0 hw [] b43 b38 b11 k38 k11 (p1).toInt64 v0 v1 v2 v3 j0 j1 j2 j3 _ n0 Z0 G1 G2 V_b38 V_b11 (own_R1 p1) Rv0 Rv1 Rv2 Rv3 hj0 hj1 hj2 hj3) eT (by decide) 0 (by decide) (by rw [hml]; rfl) E_b43 [(.ref b11)] (rest := []) (lenOf pd_2 rfl) rfl rfl (Nat.le_of_eq rfl) (by decide) (by decide) 276 (hb hby at_273) rfl (fun v T h45 Lc X eT q => ?_)
    obtain ⟨rfl, N', e'⟩ := q
    replace N := Fr.app N N'
    replace eT := eT.trans e'
    show Wout p e below _ T (mkF m 276 #[.val (.int p1), .val (.long p2), .second, .val (.long p3), .second, .val (.int p4), .val (.int (4 : Int32)), .val (.ref b1), .val (.ref b6), .val (.ref b11), .val (.ref b38), .val (.long ((((((p1).toInt64) + (own_sel v0 v1 v2 v3 j0)) + (own_sel v0 v1 v2 v3 j1)) + (own_sel v0 v1 v2 v3 j2)) + (own_sel v0 v1 v2 v3 j3))), .second, .unset, .unset] [(.double (FP.l2d (((((p1).toInt64 + (own_sel v0 v1 v2 v3 j0)) + (own_sel v0 v1 v2 v3 j1)) + (own_sel v0 v1 v2 v3 j2)) + (own_sel v0 v1 v2 v3 j3))))])
    refine o_dstore X hx 278 (Ls' := #[.val (.int p1), .val (.long p2), .second, .val (.long p3), .second, .val (.int p4), .val (.int (4 : Int32)), .val (.ref b1), .val (.ref b6), .val (.ref b11), .val (.ref b38), .val (.long ((((((p1).toInt64) + (own_sel v0 v1 v2 v3 j0)) + (own_sel v0 v1 v2 v3 j1)) + (own_sel v0 v1 v2 v3 j2)) + (own_sel v0 v1 v2 v3 j3))), .second, .val (.double (FP.l2d (((((p1).toInt64 + (own_sel v0 v1 v2 v3 j0)) + (own_sel v0 v1 v2 v3 j1)) + (own_sel v0 v1 v2 v3 j2)) + (own_sel v0 v1 v2 v3 j3)))), .second]) (hb hby at_276) rfl rfl ?_
    refine o_dload X hx 280 (hb hby at_278) rfl rfl ?_
    refine o_lload X hx 282 (hb hby at_280) rfl rfl ?_
    refine o_l2d X hx 283 (FP.l2d ((((((p1).toInt64) + (own_sel v0 v1 v2 v3 j0)) + (own_sel v0 v1 v2 v3 j1)) + (own_sel v0 v1 v2 v3 j2)) + (own_sel v0 v1 v2 v3 j3))) (hb hby at_282) rfl rfl ?_
    refine o_dcmp X hx 284 (0 : Int32) (hb hby at_283) (dcmpV_self (nn_w rfl) _) rfl ?_
    refine o_ifF X hx 287 (hb hby at_284) rfl (by decide : (0 : Int32) = (0 : Int32)) ?_
    refine o_iconst X hx 288 (1 : Int32) (hb hby at_287) rfl rfl ?_
    refine o_goto X hx 292 (hb hby at_288) rfl ?_
    exact o_retI X hx hlk hret rfl (by simp) (hb hby at_292) (by decide) (by decide) (by rw [eT]; exact ⟨rfl, N, trivial⟩)
set_option maxRecDepth 65536 in
set_option maxHeartbeats 40000000 in
theorem comes_1 {Post : Tables → Env → Array Value → State → Outcome → State → Prop} (hpost : ∀ tb e args s v u, (limb_1_1.after args s (.returned v) u = true ∧ limb_1_2.after args s (.returned v) u = true ∧ True) → FrameEnd s (.returned v) u (Jvm.fieldLocs frame_1_writes args s ++ Jvm.arrayLocs frame_1_arrays args s ++ Jvm.staticLocs frame_1_statics s) 24 128 → Post tb e args s (.returned v) u) :
    ArmFor flags0 classFile x code maxLocals ret World_1 tables_1 room_1 Calls_1 rest_1 Pre_1 Post := by
  intro l hfl _ _ p e ha hc hk s m args below hf hA hF happ hP
  obtain ⟨hcalls, hrest, hpre⟩ := hP
  obtain ⟨-, -, -, hnamed, -, -, -, hat⟩ := (Spec.applies_iff hf).mp happ
  obtain ⟨hg, hn⟩ := and_e (Cond.before_iff.mp (show (Jvm.Cond.and given_1 narrow_1).before args s = true from hpre))
  obtain ⟨h1, hgs⟩ := and_e hg
  obtain ⟨w0, w1, w2, w3, rfl⟩ : ∃ w0 w1 w2 w3 : Value, args = #[w0, w1, w2, w3] := by
    have hs : args.size = 4 := by simpa [Cond.value, given_1] using h1
    obtain ⟨L⟩ := args
    match L, hs with
    | [w0, w1, w2, w3], _ => exact ⟨w0, w1, w2, w3, rfl⟩
  have hw := fun d (hd : d ∈ tables_1) => atoms_spec (ws := Jvm.Cond.code x code maxLocals ret :: tables_1) hat d (List.mem_cons_of_mem _ hd)
  have hfit : Fit s := fun {y c} hc i hi => by
    obtain ⟨ha, rfl⟩ := Array.getElem?_eq_some_iff.mp hc
    have q := List.all_eq_true.mp ((Array.all_eq_true_iff_forall_mem.mp hF) _ (Array.getElem_mem ha)) i (List.mem_range.mpr hi)
    simpa [Array.getElem?_eq_getElem hi] using q
  obtain ⟨hg0, hgs⟩ := and_e hgs
  obtain ⟨i0, e0⟩ := is_v hg0
  obtain rfl : w0 = (.int i0) := Option.some.inj e0
  obtain ⟨hg1, hgs⟩ := and_e hgs
  obtain ⟨i1, e1⟩ := isL_v hg1
  obtain rfl : w1 = (.long i1) := Option.some.inj e1
  obtain ⟨hg2, hgs⟩ := and_e hgs
  obtain ⟨i2, e2⟩ := isL_v hg2
  obtain rfl : w2 = (.long i2) := Option.some.inj e2
  obtain ⟨i3, e3⟩ := is_v hgs
  obtain rfl : w3 = (.int i3) := Option.some.inj e3
  obtain ⟨n, o, h1, h2, h3, _, L, rfl, ⟨rfl, N, _⟩, hq⟩ := rm_law l s _ hw tables_1 i0 i1 i2 i3 s.heap s.heap.size (Nat.le_refl _)  p e ha hc hk s m _ below hf ((Spec.applies_iff_loose hf).mp happ).1 ⟨rfl, State.Warmed39.refl s, rfl⟩ trivial
  refine ⟨n, _, h1, h2, h3, hpost _ _ _ _ _ _ ⟨Cond.after_iff.mpr rfl, Cond.after_iff.mpr (eq_i res_at (Term.int_eval (1)) rfl), trivial⟩ ⟨hq.1, hq.2.1, (hq.2.2.sift fun y hy => Or.inr (N y hy)).mono (by decide) (by decide)⟩⟩
theorem main_1_1 : Claimed_1_1 := comes_1 fun _ _ _ _ _ _ h hF => ⟨h.1, hF⟩
theorem main_1_2 : Claimed_1_2 := comes_1 fun _ _ _ _ _ _ h hF => ⟨h.2.1, hF⟩
end Jvm.Pilot.@@N@@
namespace Jvm.Pilot.@@N@@
open Jvm Jvm.ClassFile Sem Op Lib Jvm.Free Jvm.Stand Jvm.Pilot.@@N@@.Jvm.D
/-! MADE BY PROGRAM (witnessworld.py) out of the Statement's table words and the real class files: 12 classes; the members and pool entries that the words name. The judged class is class 1, her method 1. -/
namespace start1
open Jvm.ClassFile
def u (s : String) : CpInfo := .utf8 (stringToUtf16 s)
/-- a pool by its gaps: so many unusable entries, then the entry; so many at the end -/
def gap : Nat → List CpInfo → List CpInfo
  | 0, r => r
  | n + 1, r => .unusable :: gap n r
def poolList (es : List (Nat × CpInfo)) (last : Nat) : List CpInfo := es.foldr (fun e r => gap e.1 (e.2 :: r)) (gap last [])
def pool (es : List (Nat × CpInfo)) (last : Nat) : Array CpInfo := ⟨poolList es last⟩
def fileOf (pool : Array CpInfo) (this : Nat) (attrs : Array Attribute := #[]) (ms : Array MethodInfo := #[]) (fl : Nat := 33) (sup : Nat := 0) (ifs : Array Nat := #[]) (fds : Array FieldInfo := #[]) : ClassFile where
  minorVersion := 0
  majorVersion := 65
  constantPool := pool
  accessFlags := fl
  thisClass := this
  superClass := sup
  interfaces := ifs
  fields := fds
  methods := ms
  attributes := attrs
def plain (name : String) (sup : Option ClassId) : Class where
  name := name
  kind := .ordinary
  loader := none
  accessFlags := 33
  super := sup
  interfaces := #[]
  cf := none
  fields := #[]
  methods := #[]
  instanceTypes := #[]
  staticTypes := #[]
  resolved := #[]
  callSites := []
  init := .initialized
  statics := none
  mirror := none

def pool0 : Array CpInfo := pool [(5, u "<init>"), (0, u "()V"), (1, .class_ 10), (1, u "java/lang/Object")] 113

def k0c0 : Code := { maxStack := 0, maxLocals := 1, code := object_method_1_code, exceptionTable := #[], attributes := #[] }
def k0m0 : Method := { name := "<init>", desc := "()V", sig := { parameters := [], returnType := none }, accessFlags := 1, code := some k0c0 }
/-- java/lang/Object -/
def k0 : Class := { plain "java/lang/Object" none with
  accessFlags := 33
  interfaces := #[]
  cf := some (fileOf pool0 8 #[] #[{ accessFlags := 1, nameIndex := 5, descriptorIndex := 6, attributes := #[] }] 33 0 #[] #[])
  fields := #[]
  methods := #[k0m0]
  instanceTypes := #[]
  staticTypes := #[]
  resolved := Array.replicate 124 none
  statics := none }

def pool1 : Array CpInfo := pool [(2, .class_ 4), (1, u "java/lang/Object"), (0, u "<init>"), (0, u "()V"), (0, .class_ 8), (0, u "com/example/spillway/spillway/RateModel$Supply"), (0, .methodref 7 10), (0, .nameAndType 5 11), (0, u "(D[I)V"), (0, .methodref 7 13), (0, .nameAndType 14 15), (0, u "rate"), (0, u "([D)D"), (0, .class_ 17), (0, u "com/example/spillway/spillway/SupplyRatePinLaw"), (2, u "law"), (0, u "(IJJI)Z")] 13

def k1m0 : Method := { name := "<init>", desc := "()V", sig := { parameters := [], returnType := none }, accessFlags := 1, code := none }
def k1c1 : Code := { maxStack := 6, maxLocals := 15, code := code, exceptionTable := #[], attributes := #[] }
def k1m1 : Method := { name := "law", desc := "(IJJI)Z", sig := { parameters := [.int, .long, .long, .int], returnType := some .boolean }, accessFlags := 9, code := some k1c1 }
/-- com/example/spillway/spillway/SupplyRatePinLaw -/
def k1 : Class := { plain "com/example/spillway/spillway/SupplyRatePinLaw" (some 0) with
  accessFlags := 49
  interfaces := #[]
  cf := some (fileOf pool1 16 #[] #[{ accessFlags := 1, nameIndex := 5, descriptorIndex := 6, attributes := #[] }, { accessFlags := 9, nameIndex := 20, descriptorIndex := 21, attributes := #[] }] 49 2 #[] #[])
  fields := #[]
  methods := #[k1m0, k1m1]
  instanceTypes := #[]
  staticTypes := #[]
  resolved := Array.replicate 35 none
  statics := none }

def pool2 : Array CpInfo := pool [(1, .methodref 2 3), (0, .class_ 4), (0, .nameAndType 5 6), (0, u "java/lang/Object"), (0, u "<init>"), (0, u "()V"), (0, .class_ 8), (0, u "java/lang/Record")] 13

def k2c0 : Code := { maxStack := 1, maxLocals := 1, code := jdk_30_method_1_code, exceptionTable := #[], attributes := #[] }
def k2m0 : Method := { name := "<init>", desc := "()V", sig := { parameters := [], returnType := none }, accessFlags := 4, code := some k2c0 }
/-- java/lang/Record -/
def k2 : Class := { plain "java/lang/Record" (some 0) with
  accessFlags := 1057
  interfaces := #[]
  cf := some (fileOf pool2 7 #[] #[{ accessFlags := 4, nameIndex := 5, descriptorIndex := 6, attributes := #[] }] 1057 2 #[] #[])
  fields := #[]
  methods := #[k2m0]
  instanceTypes := #[]
  staticTypes := #[]
  resolved := Array.replicate 22 none
  statics := none }

def pool3 : Array CpInfo := pool [(1, .methodref 2 3), (0, .class_ 4), (0, .nameAndType 5 6), (0, u "java/lang/Record"), (0, u "<init>"), (0, u "()V"), (0, .fieldref 8 9), (0, .class_ 10), (0, .nameAndType 11 12), (0, u "com/example/spillway/spillway/RateModel$Supply"), (0, u "measured"), (0, u "D"), (0, .fieldref 8 14), (0, .nameAndType 15 16), (0, u "patterns"), (0, u "[I"), (2, u "(D[I)V"), (15, u "rate"), (0, u "([D)D"), (14, .class_ 52), (0, u "com/example/spillway/spillway/RateModel")] 20

def k3c0 : Code := { maxStack := 3, maxLocals := 4, code := prog_65_method_1_code, exceptionTable := #[], attributes := #[] }
def k3m0 : Method := { name := "<init>", desc := "(D[I)V", sig := { parameters := [.double, (.array .int)], returnType := none }, accessFlags := 0, code := some k3c0 }
def k3c1 : Code := { maxStack := 4, maxLocals := 8, code := prog_65_method_2_code, exceptionTable := #[], attributes := #[] }
def k3m1 : Method := { name := "rate", desc := "([D)D", sig := { parameters := [(.array .double)], returnType := some .double }, accessFlags := 0, code := some k3c1 }
/-- com/example/spillway/spillway/RateModel$Supply -/
def k3 : Class := { plain "com/example/spillway/spillway/RateModel$Supply" (some 2) with
  accessFlags := 48
  interfaces := #[]
  cf := some (fileOf pool3 8 #[.nestHost 51] #[{ accessFlags := 0, nameIndex := 5, descriptorIndex := 19, attributes := #[] }, { accessFlags := 0, nameIndex := 35, descriptorIndex := 36, attributes := #[] }] 48 2 #[] #[{ accessFlags := 18, nameIndex := 11, descriptorIndex := 12, attributes := #[] }, { accessFlags := 18, nameIndex := 15, descriptorIndex := 16, attributes := #[] }])
  fields := #[{ name := "measured", type := .double, accessFlags := 18, slot := 0, constantValue := 0 }, { name := "patterns", type := (.array .int), accessFlags := 18, slot := 1, constantValue := 0 }]
  methods := #[k3m0, k3m1]
  instanceTypes := #[.double, (.array .int)]
  staticTypes := #[]
  resolved := Array.replicate 73 none
  statics := none }

def pool4 : Array CpInfo := pool [(1, u "java/lang/Cloneable"), (0, .class_ 1), (0, u "java/lang/Object"), (0, .class_ 3)] 3

/-- java/lang/Cloneable -/
def k4 : Class := { plain "java/lang/Cloneable" (some 0) with
  accessFlags := 1537
  interfaces := #[]
  cf := some (fileOf pool4 2 #[] #[] 1537 4 #[] #[])
  fields := #[]
  methods := #[]
  instanceTypes := #[]
  staticTypes := #[]
  resolved := Array.replicate 8 none
  statics := none }

def pool5 : Array CpInfo := pool [(1, u "java/io/Serializable"), (0, .class_ 1), (0, u "java/lang/Object"), (0, .class_ 3)] 3

/-- java/io/Serializable -/
def k5 : Class := { plain "java/io/Serializable" (some 0) with
  accessFlags := 1537
  interfaces := #[]
  cf := some (fileOf pool5 2 #[] #[] 1537 4 #[] #[])
  fields := #[]
  methods := #[]
  instanceTypes := #[]
  staticTypes := #[]
  resolved := Array.replicate 8 none
  statics := none }

/-- the primitive byte -/
def k6 : Class := { plain "byte" none with kind := .primitive 'B', accessFlags := 0x411 }
/-- [B -/
def k7 : Class := { plain "[B" (some 0) with kind := .array 6 .byte, interfaces := #[4, 5], accessFlags := 1041 }

/-- the primitive int -/
def k8 : Class := { plain "int" none with kind := .primitive 'I', accessFlags := 0x411 }
/-- [I -/
def k9 : Class := { plain "[I" (some 0) with kind := .array 8 .int, interfaces := #[4, 5], accessFlags := 1041 }

/-- the primitive long -/
def k10 : Class := { plain "long" none with kind := .primitive 'J', accessFlags := 0x411 }
/-- [J -/
def k11 : Class := { plain "[J" (some 0) with kind := .array 10 .long, interfaces := #[4, 5], accessFlags := 1041 }

def heap : Heap := #[]
def kDp : Class := { plain "double" none with kind := .primitive 'D', accessFlags := 0x411 }
def kDa : Class := { plain "[D" (some 0) with kind := .array 12 .double, interfaces := #[4, 5], accessFlags := 1041 }
def classes : Array Class := #[k0, k1, k2, k3, k4, k5, k6, k7, k8, k9, k10, k11, kDp, kDa]
def interned : List (Array UInt16 × Addr) := []
def slotsUsed : Nat := 0
def theMethod : MethodId := ⟨1, 1⟩
def args0 : Array Value := #[.int 1, .long 2, .long 3, .int 4]
def aboutOver (below : List Frame) : State where
  vm := { classes := classes, interned := interned.toArray }
  heap := heap
  slotsUsed := slotsUsed
  threads := #[{ frames := .invoking theMethod args0 :: below }]
def below0 : List Frame := [.native { method := ⟨0, 0⟩, args := #[] }]
def about1 : State := aboutOver below0
def p0 : Program := .bare "" "" ""
def e0 : Env := launch0.env 0 0 0
theorem w_frames : about1.frames = Frame.invoking theMethod args0 :: below0 := rfl
set_option maxRecDepth 65536 in
theorem w_args : argsFit about1.vm theMethod args0 = true := by decide +kernel
set_option maxRecDepth 65536 in
theorem w_heap : heapFits about1 = true := by decide +kernel
set_option maxRecDepth 65536 in
theorem w_runnable : about1.curStatus? = some .runnable := by decide +kernel
set_option maxRecDepth 65536 in
theorem w_alone : about1.alone = true := by decide +kernel
set_option maxRecDepth 65536 in
theorem w_named : about1.methodNamed? x = some theMethod := by decide +kernel
set_option maxRecDepth 65536 in
theorem w_hears : about1.hears theMethod below0 = true := by decide +kernel
set_option maxRecDepth 65536 in
theorem w_ripe : about1.ripe theMethod args0 below0 = true := by decide +kernel
theorem w_running : about1.status = .running := rfl
set_option maxRecDepth 65536 in
theorem w_room : about1.hasRoom e0.platform room_1 = true :=
  launch0.hasRoom_least _ room_1 (by decide +kernel) (by decide +kernel) (by decide +kernel) (by decide +kernel) (by decide +kernel) (by decide +kernel)
theorem allAtoms_all (ts : List Jvm.Cond) (a : Array Jvm.Value) (st : Jvm.State) : (allAtoms ts).before a st = ts.all (fun c => c.before a st) := by
  induction ts with
  | nil => rfl
  | cons c t ih =>
    show (Jvm.Cond.and c (allAtoms t)).before a st = _
    rw [Jvm.Cond.before_and, ih, List.all_cons]
def words1 : List Jvm.Cond := Jvm.Cond.code x code maxLocals ret :: tables_1
/-- a 'code' word, met by the world's own term for the bytes: nothing is compared byte by byte -/
theorem code_word {y : MethodName} {bytes : ByteArray} {mx : Nat} {rt : Option FieldType} {a : Array Value} {s : State} {m : MethodId} {meth : Method} {c : Code} (h1 : s.methodNamed? y = some m) (h2 : s.vm.method? m = some meth) (h3 : meth.code = some c) (h4 : c.code = bytes)
    (h5 : (c.maxLocals == mx && c.exceptionTable.isEmpty && decide (c.maxStack ≤ mostOperands) && decide (meth.sig.returnType = rt) && !meth.locks && decide (parseMethodDescriptor y.desc = some meth.sig)) = true) : (Jvm.Cond.code y bytes mx rt).before a s = true := by
  simp only [Bool.and_eq_true, beq_iff_eq, Bool.not_eq_true', decide_eq_true_eq] at h5
  obtain ⟨⟨⟨⟨⟨g1, g2⟩, g3⟩, g4⟩, g5⟩, g6⟩ := h5
  simp [Cond.before, Cond.holds, Cond.value, h1, h2, h3, h4, g1, g2, g3, g4, g5, g6]
def isCode : Jvm.Cond → Bool
  | .code _ _ _ _ => true
  | _ => false
theorem all_split {L : List Jvm.Cond} {P : Jvm.Cond → Bool} (h1 : L.all (fun c => isCode c || P c) = true) (h2 : ∀ c ∈ L.filter isCode, P c = true) : L.all P = true := by
  refine List.all_eq_true.mpr fun c hc => ?_
  have h := List.all_eq_true.mp h1 c hc
  rcases Bool.eq_false_or_eq_true (isCode c) with hi | hi
  · exact h2 c (List.mem_filter.mpr ⟨hc, hi⟩)
  · simpa [hi] using h
set_option maxRecDepth 65536 in
theorem w_c0 : (Jvm.Cond.code x code maxLocals ret).before args0 about1 = true := code_word (m := ⟨1, 1⟩) (meth := k1m1) (c := k1c1) (by decide +kernel) rfl rfl rfl (by decide +kernel)
set_option maxRecDepth 65536 in
theorem w_c1 : (Jvm.Cond.code ({ cls := "com/example/spillway/spillway/RateModel$Supply", name := "<init>", desc := "(D[I)V" } : Jvm.MethodName) prog_65_method_1_code (4 : Nat) (Option.none : Option Jvm.ClassFile.FieldType)).before args0 about1 = true := code_word (m := ⟨3, 0⟩) (meth := k3m0) (c := k3c0) (by decide +kernel) rfl rfl rfl (by decide +kernel)
set_option maxRecDepth 65536 in
theorem w_c2 : (Jvm.Cond.code ({ cls := "java/lang/Record", name := "<init>", desc := "()V" } : Jvm.MethodName) jdk_30_method_1_code (1 : Nat) (Option.none : Option Jvm.ClassFile.FieldType)).before args0 about1 = true := code_word (m := ⟨2, 0⟩) (meth := k2m0) (c := k2c0) (by decide +kernel) rfl rfl rfl (by decide +kernel)
set_option maxRecDepth 65536 in
theorem w_c3 : (Jvm.Cond.code ({ cls := "java/lang/Object", name := "<init>", desc := "()V" } : Jvm.MethodName) object_method_1_code (1 : Nat) (Option.none : Option Jvm.ClassFile.FieldType)).before args0 about1 = true := code_word (m := ⟨0, 0⟩) (meth := k0m0) (c := k0c0) (by decide +kernel) rfl rfl rfl (by decide +kernel)
set_option maxRecDepth 65536 in
theorem w_c4 : (Jvm.Cond.code ({ cls := "com/example/spillway/spillway/RateModel$Supply", name := "rate", desc := "([D)D" } : Jvm.MethodName) prog_65_method_2_code (8 : Nat) (Option.some Jvm.ClassFile.FieldType.double)).before args0 about1 = true := code_word (m := ⟨3, 1⟩) (meth := k3m1) (c := k3c1) (by decide +kernel) rfl rfl rfl (by decide +kernel)
def codes1 : List Jvm.Cond := [Jvm.Cond.code x code maxLocals ret, Jvm.Cond.code ({ cls := "com/example/spillway/spillway/RateModel$Supply", name := "<init>", desc := "(D[I)V" } : Jvm.MethodName) prog_65_method_1_code (4 : Nat) (Option.none : Option Jvm.ClassFile.FieldType), Jvm.Cond.code ({ cls := "java/lang/Record", name := "<init>", desc := "()V" } : Jvm.MethodName) jdk_30_method_1_code (1 : Nat) (Option.none : Option Jvm.ClassFile.FieldType), Jvm.Cond.code ({ cls := "java/lang/Object", name := "<init>", desc := "()V" } : Jvm.MethodName) object_method_1_code (1 : Nat) (Option.none : Option Jvm.ClassFile.FieldType), Jvm.Cond.code ({ cls := "com/example/spillway/spillway/RateModel$Supply", name := "rate", desc := "([D)D" } : Jvm.MethodName) prog_65_method_2_code (8 : Nat) (Option.some Jvm.ClassFile.FieldType.double)]
set_option maxRecDepth 65536 in
theorem codes_eq : words1.filter isCode = codes1 := rfl
theorem w_codes : ∀ c ∈ words1.filter isCode, c.before args0 about1 = true := by
  rw [codes_eq]
  intro c hc
  simp only [codes1, List.mem_cons, List.not_mem_nil, or_false] at hc
  rcases hc with rfl | rfl | rfl | rfl | rfl
  · exact w_c0
  · exact w_c1
  · exact w_c2
  · exact w_c3
  · exact w_c4
set_option maxRecDepth 65536 in
theorem w_t1 : (words1.take 24).all (fun c => isCode c || c.before args0 about1) = true := by decide +kernel
set_option maxRecDepth 65536 in
theorem w_t2 : (words1.drop 24).all (fun c => isCode c || c.before args0 about1) = true := by decide +kernel
theorem w_tables : (allAtoms (Jvm.Cond.code x code maxLocals ret :: tables_1)).before args0 about1 = true := by
  rw [allAtoms_all]
  show words1.all (fun c => c.before args0 about1) = true
  refine all_split ?_ w_codes
  rw [← List.take_append_drop 24 words1, List.all_append, w_t1, w_t2]
  rfl
set_option maxRecDepth 65536 in
theorem w_case : (Jvm.Cond.and given_1 narrow_1).before args0 about1 = true := by decide +kernel
theorem w_applies : (headSpec (Jvm.Cond.code x code maxLocals ret :: tables_1) room_1).applies x e0.platform about1 = true :=
  (Spec.applies_iff w_frames).mpr ⟨w_running, w_runnable, w_alone, w_named, w_hears, w_ripe, w_room, w_tables⟩
theorem atStart : AtStart classFile x code maxLocals ret World_1 tables_1 room_1 Calls_1 rest_1 Pre_1 launch0 p0 e0 about1 theMethod args0 below0 :=
  ⟨lists_1, trivial, launch0.admits_env _ _ _, launch0.least_env, fairChoices_fair.cas, fairChoices_fair.clock, w_frames, w_args, w_heap, w_applies, trivial, trivial, w_case⟩
end start1
theorem witness_1 : WitnessClaimed_1 := ⟨start1.p0, start1.e0, start1.about1, start1.theMethod, start1.args0, start1.below0, start1.atStart⟩
end Jvm.Pilot.@@N@@
