import JvmDerived
import JvmDerived.Pilot.@@N@@Statement
import JvmDerived.Pilot.@@N@@Code
set_option linter.unusedVariables false
set_option linter.unusedSimpArgs false
@@BLOCK:NumsL.lean.txt@@
namespace Jvm.OwnWalk
open Sem ClassFile Op Lib Jvm.Stand Jvm.Free Jvm.LawKit Jvm.RoadKit
section K
variable {p : Program} {l : Launch} {e : Env} {R : Room} {s : State} {m : MethodId} {args : Array Value} {below : List Frame} {meth : Method} {c : Code} {T : State} {locs : List Loc} {cells slots : Nat} {Z : State} {a0 : Array Value} {h : Heap} {P : Outcome → State → Prop} {pc : Nat} {Ls : Array Slot} {rest : List Value}
/-- from T with g on top the invocation ends, and P holds of its end -/
def Wout (p : Program) (e : Env) (below : List Frame) (P : Outcome → State → Prop) (T : State) (g : JFrame) : Prop :=
  ∃ U o, Steps p.tables e below (T.setTop g) U ∧ U.status = .running ∧ Ended U below o ∧ P o U
theorem Wout.of {T T' : State} {g g' : JFrame} (st : ∀ t, Steps p.tables e below (T'.setTop g') t → Steps p.tables e below (T.setTop g) t) (hr : Wout p e below P T' g') : Wout p e below P T g := by
  obtain ⟨U, o, h1, h2⟩ := hr
  exact ⟨U, o, st U h1, h2⟩
theorem Wout.tr {T T' : State} {g g' : JFrame} (st : Steps p.tables e below (T.setTop g) (T'.setTop g')) (hr : Wout p e below P T' g') : Wout p e below P T g := by
  obtain ⟨U, o, h1, h2⟩ := hr
  exact ⟨U, o, st.trans h1, h2⟩
theorem Wout.cast {T : State} {g g' : JFrame} (q : g = g') (hr : Wout p e below P T g') : Wout p e below P T g := q ▸ hr
/-- the end of an invocation that returned: Q of its value, the heap and the written places; the frame -/
def Pst (s : State) (Q : Option Value → Heap → List Loc → Prop) (C S : Nat) (o : Outcome) (U : State) : Prop := ∃ v L, o = .returned v ∧ Q v U.heap L ∧ FrameEnd s o U L C S
abbrev Met (l : Launch) (Z : State) (y : MethodName) (bytes : ByteArray) (maxL : Nat) (ret : Option FieldType) (ws : List Jvm.Cond) (rm : Room) (as' : Array Value) (h0 : Heap) (Q : Option Value → Heap → List Loc → Prop) : Prop :=
  MetFree l y (head1 (Jvm.Cond.code y bytes maxL ret :: ws) rm) (fun a U => a = as' ∧ Z.Warmed39 U.vm ∧ U.heap = h0) (fun _ _ _ _ _ => True) (fun _ U o U' => ∃ v L, o = .returned v ∧ Q v U'.heap L ∧ FrameEnd U o U' L rm.cells rm.slots)
theorem Met.start {y : MethodName} {bytes : ByteArray} {maxL : Nat} {ret : Option FieldType} {ws : List Jvm.Cond} {rm : Room} {as' : Array Value} {h0 : Heap} {Q : Option Value → Heap → List Loc → Prop} (hpl : plainFor y = true)
    (H : ∀ (p : Program) (e : Env) (s : State) (m : MethodId) (below : List Frame) (meth : Method) (c : Code) (T : State), Stand p l e rm s m as' below meth c T [] 0 0 → p.tables.exec = Jvm.exec → c.code = bytes → c.maxLocals = maxL → s.vm.findClass y.cls = some m.cls → meth.name = y.name → meth.sig.returnType = ret → meth.locks = false → Z.Warmed39 s.vm → T.heap = h0 → Wout p e below (Pst s Q rm.cells rm.slots) T (entryFrame m as' maxL)) :
    Met l Z y bytes maxL ret ws rm as' h0 Q := by
  refine MetFree.of_bodySF hpl hisR ?_
  intro p e s m args below meth c s₁ Bd hml0 hP hK
  obtain ⟨rfl, hZ, hh⟩ := hP
  exact H p e s m below meth c s₁ (Stand.of_body Bd) Bd.exec Bd.bytes hml0 (findClass_of_methodNamed Bd.named) (name_of_methodNamed Bd.named Bd.method).1 Bd.returns Bd.notSynchronized hZ (by rw [← hh, Bd.state]; rfl)
/-! what a branch says -/
def cI : ClassFile.Cond → Int32 → Prop
  | .eq, x => x = 0 | .ne, x => ¬ x = 0 | .lt, x => x < 0 | .ge, x => ¬ x < 0 | .gt, x => 0 < x | .le, x => ¬ 0 < x
def cII : ClassFile.Cond → Int32 → Int32 → Prop
  | .eq, x, y => x = y | .ne, x, y => ¬ x = y | .lt, x, y => x < y | .ge, x, y => ¬ x < y | .gt, x, y => y < x | .le, x, y => ¬ y < x
def cLL : ClassFile.Cond → Int64 → Int64 → Prop
  | .eq, x, y => x = y | .ne, x, y => ¬ x = y | .lt, x, y => x < y | .ge, x, y => ¬ x < y | .gt, x, y => y < x | .le, x, y => ¬ y < x
def cNeg : ClassFile.Cond → ClassFile.Cond
  | .eq => .ne | .ne => .eq | .lt => .ge | .ge => .lt | .gt => .le | .le => .gt
theorem cI_t : ∀ {cd : ClassFile.Cond} {x : Int32}, cI cd x → ifCond.holds cd x = true
  | .eq, _, q => XT.i0_eq_t q
  | .ne, _, q => XT.i0_ne_t q
  | .lt, _, q => XT.i0_lt_t q
  | .ge, _, q => XT.i0_ge_t q
  | .gt, _, q => XT.i0_gt_t q
  | .le, _, q => XT.i0_le_t q
theorem cI_f : ∀ {cd : ClassFile.Cond} {x : Int32}, cI (cNeg cd) x → ifCond.holds cd x = false
  | .eq, _, q => XT.i0_eq_f q
  | .ne, _, q => XT.i0_ne_f q
  | .lt, _, q => XT.i0_lt_f q
  | .ge, _, q => XT.i0_ge_f q
  | .gt, _, q => XT.i0_gt_f q
  | .le, _, q => XT.i0_le_f q
theorem cII_t : ∀ {cd : ClassFile.Cond} {x y : Int32}, cII cd x y → if_icmp.holds cd x y = true
  | .eq, _, _, q => XT.ii_eq_t q
  | .ne, _, _, q => XT.ii_ne_t q
  | .lt, _, _, q => XT.ii_lt_t q
  | .ge, _, _, q => XT.ii_ge_t q
  | .gt, _, _, q => XT.ii_gt_t q
  | .le, _, _, q => XT.ii_le_t q
theorem cII_f : ∀ {cd : ClassFile.Cond} {x y : Int32}, cII (cNeg cd) x y → if_icmp.holds cd x y = false
  | .eq, _, _, q => XT.ii_eq_f q
  | .ne, _, _, q => XT.ii_ne_f q
  | .lt, _, _, q => XT.ii_lt_f q
  | .ge, _, _, q => XT.ii_ge_f q
  | .gt, _, _, q => XT.ii_gt_f q
  | .le, _, _, q => XT.ii_le_f q
theorem cLL_t : ∀ {cd : ClassFile.Cond} {x y : Int64}, cLL cd x y → ifCond.holds cd (XT.cmpL x y) = true
  | .eq, _, _, q => XT.ll_eq_t q
  | .ne, _, _, q => XT.ll_ne_t q
  | .lt, _, _, q => XT.ll_lt_t q
  | .ge, _, _, q => XT.ll_ge_t q
  | .gt, _, _, q => XT.ll_gt_t q
  | .le, _, _, q => XT.ll_le_t q
theorem cLL_f : ∀ {cd : ClassFile.Cond} {x y : Int64}, cLL (cNeg cd) x y → ifCond.holds cd (XT.cmpL x y) = false
  | .eq, _, _, q => XT.ll_eq_f q
  | .ne, _, _, q => XT.ll_ne_f q
  | .lt, _, _, q => XT.ll_lt_f q
  | .ge, _, _, q => XT.ll_ge_f q
  | .gt, _, _, q => XT.ll_gt_f q
  | .le, _, _, q => XT.ll_le_f q
theorem cI_em (cd : ClassFile.Cond) (x : Int32) : cI cd x ∨ cI (cNeg cd) x := by
  cases cd <;> simp only [cI, cNeg] <;> first | exact Classical.em _ | exact (Classical.em _).symm
theorem cII_em (cd : ClassFile.Cond) (x y : Int32) : cII cd x y ∨ cII (cNeg cd) x y := by
  cases cd <;> simp only [cII, cNeg] <;> first | exact Classical.em _ | exact (Classical.em _).symm
theorem cLL_em (cd : ClassFile.Cond) (x y : Int64) : cLL cd x y ∨ cLL (cNeg cd) x y := by
  cases cd <;> simp only [cLL, cNeg] <;> first | exact Classical.em _ | exact (Classical.em _).symm

theorem o_iload (X : Stand p l e R s m args below meth c T locs cells slots) (hx : p.tables.exec = Jvm.exec) (n : Nat) {k : Nat} {v : Int32} (hd : decode c.code pc = .ok (.iload k, 2)) (hl : Ls[k]? = some (.val (.int v))) (hp : pc + 2 = n) (hr : Wout p e below P T (mkF m n Ls (.int v :: rest))) : Wout p e below P T (mkF m pc Ls (rest)) := by
  subst hp
  exact Wout.of (fun _ ht => XS.iload X.here hx rfl hd hl ht) hr
theorem o_iloadN (X : Stand p l e R s m args below meth c T locs cells slots) (hx : p.tables.exec = Jvm.exec) (n : Nat) {k : Fin 4} {v : Int32} (hd : decode c.code pc = .ok (.iload_n k, 1)) (hl : Ls[k.val]? = some (.val (.int v))) (hp : pc + 1 = n) (hr : Wout p e below P T (mkF m n Ls (.int v :: rest))) : Wout p e below P T (mkF m pc Ls (rest)) := by
  subst hp
  exact Wout.of (fun _ ht => XS.iloadN X.here hx rfl hd hl ht) hr
theorem o_istore (X : Stand p l e R s m args below meth c T locs cells slots) (hx : p.tables.exec = Jvm.exec) (n : Nat) {k : Nat} {v : Int32} {Ls' : Array Slot} (hd : decode c.code pc = .ok (.istore k, 2)) (hl : storeLocals Ls k (.int v) = some Ls') (hp : pc + 2 = n) (hr : Wout p e below P T (mkF m n Ls' (rest))) : Wout p e below P T (mkF m pc Ls (.int v :: rest)) := by
  subst hp
  exact Wout.of (fun _ ht => XS.istore X.here hx rfl hd rfl hl ht) hr
theorem o_istoreN (X : Stand p l e R s m args below meth c T locs cells slots) (hx : p.tables.exec = Jvm.exec) (n : Nat) {k : Fin 4} {v : Int32} {Ls' : Array Slot} (hd : decode c.code pc = .ok (.istore_n k, 1)) (hl : storeLocals Ls k.val (.int v) = some Ls') (hp : pc + 1 = n) (hr : Wout p e below P T (mkF m n Ls' (rest))) : Wout p e below P T (mkF m pc Ls (.int v :: rest)) := by
  subst hp
  exact Wout.of (fun _ ht => XS.istoreN X.here hx rfl hd rfl hl ht) hr
theorem o_lload (X : Stand p l e R s m args below meth c T locs cells slots) (hx : p.tables.exec = Jvm.exec) (n : Nat) {k : Nat} {v : Int64} (hd : decode c.code pc = .ok (.lload k, 2)) (hl : Ls[k]? = some (.val (.long v))) (hp : pc + 2 = n) (hr : Wout p e below P T (mkF m n Ls (.long v :: rest))) : Wout p e below P T (mkF m pc Ls (rest)) := by
  subst hp
  exact Wout.of (fun _ ht => XT.lload X.here hx rfl hd hl ht) hr
theorem o_lloadN (X : Stand p l e R s m args below meth c T locs cells slots) (hx : p.tables.exec = Jvm.exec) (n : Nat) {k : Fin 4} {v : Int64} (hd : decode c.code pc = .ok (.lload_n k, 1)) (hl : Ls[k.val]? = some (.val (.long v))) (hp : pc + 1 = n) (hr : Wout p e below P T (mkF m n Ls (.long v :: rest))) : Wout p e below P T (mkF m pc Ls (rest)) := by
  subst hp
  exact Wout.of (fun _ ht => XT.lloadN X.here hx rfl hd hl ht) hr
theorem o_lstore (X : Stand p l e R s m args below meth c T locs cells slots) (hx : p.tables.exec = Jvm.exec) (n : Nat) {k : Nat} {v : Int64} {Ls' : Array Slot} (hd : decode c.code pc = .ok (.lstore k, 2)) (hl : storeLocals Ls k (.long v) = some Ls') (hp : pc + 2 = n) (hr : Wout p e below P T (mkF m n Ls' (rest))) : Wout p e below P T (mkF m pc Ls (.long v :: rest)) := by
  subst hp
  exact Wout.of (fun _ ht => XT.lstore X.here hx rfl hd rfl hl ht) hr
theorem o_lstoreN (X : Stand p l e R s m args below meth c T locs cells slots) (hx : p.tables.exec = Jvm.exec) (n : Nat) {k : Fin 4} {v : Int64} {Ls' : Array Slot} (hd : decode c.code pc = .ok (.lstore_n k, 1)) (hl : storeLocals Ls k.val (.long v) = some Ls') (hp : pc + 1 = n) (hr : Wout p e below P T (mkF m n Ls' (rest))) : Wout p e below P T (mkF m pc Ls (.long v :: rest)) := by
  subst hp
  exact Wout.of (fun _ ht => XT.lstoreN X.here hx rfl hd rfl hl ht) hr
theorem o_aload (X : Stand p l e R s m args below meth c T locs cells slots) (hx : p.tables.exec = Jvm.exec) (n : Nat) {k : Nat} {v : Value} (hd : decode c.code pc = .ok (.aload k, 2)) (hl : Ls[k]? = some (.val v)) (hv : v.isRef = true) (hp : pc + 2 = n) (hr : Wout p e below P T (mkF m n Ls (v :: rest))) : Wout p e below P T (mkF m pc Ls (rest)) := by
  subst hp
  exact Wout.of (fun _ ht => XS.aload X.here hx rfl hd hl hv ht) hr
theorem o_aloadN (X : Stand p l e R s m args below meth c T locs cells slots) (hx : p.tables.exec = Jvm.exec) (n : Nat) {k : Fin 4} {v : Value} (hd : decode c.code pc = .ok (.aload_n k, 1)) (hl : Ls[k.val]? = some (.val v)) (hv : v.isRef = true) (hp : pc + 1 = n) (hr : Wout p e below P T (mkF m n Ls (v :: rest))) : Wout p e below P T (mkF m pc Ls (rest)) := by
  subst hp
  exact Wout.of (fun _ ht => XS.aloadN X.here hx rfl hd hl hv ht) hr
theorem o_astore (X : Stand p l e R s m args below meth c T locs cells slots) (hx : p.tables.exec = Jvm.exec) (n : Nat) {k : Nat} {v : Value} {Ls' : Array Slot} (hd : decode c.code pc = .ok (.astore k, 2)) (hv : v.isRef = true) (hl : storeLocals Ls k v = some Ls') (hp : pc + 2 = n) (hr : Wout p e below P T (mkF m n Ls' (rest))) : Wout p e below P T (mkF m pc Ls (v :: rest)) := by
  subst hp
  exact Wout.of (fun _ ht => XS.astore X.here hx rfl hd rfl hv hl ht) hr
theorem o_astoreN (X : Stand p l e R s m args below meth c T locs cells slots) (hx : p.tables.exec = Jvm.exec) (n : Nat) {k : Fin 4} {v : Value} {Ls' : Array Slot} (hd : decode c.code pc = .ok (.astore_n k, 1)) (hv : v.isRef = true) (hl : storeLocals Ls k.val v = some Ls') (hp : pc + 1 = n) (hr : Wout p e below P T (mkF m n Ls' (rest))) : Wout p e below P T (mkF m pc Ls (v :: rest)) := by
  subst hp
  exact Wout.of (fun _ ht => XS.astoreN X.here hx rfl hd rfl hv hl ht) hr
theorem o_iconst (X : Stand p l e R s m args below meth c T locs cells slots) (hx : p.tables.exec = Jvm.exec) (n : Nat) {i : Int} (v : Int32) (hd : decode c.code pc = .ok (.iconst i, 1)) (hv : Int32.ofInt i = v) (hp : pc + 1 = n) (hr : Wout p e below P T (mkF m n Ls (.int v :: rest))) : Wout p e below P T (mkF m pc Ls (rest)) := by
  subst hp
  exact Wout.of (fun _ ht => XT.iconstV X.here hx rfl v hd hv ht) hr
theorem o_bipush (X : Stand p l e R s m args below meth c T locs cells slots) (hx : p.tables.exec = Jvm.exec) (n : Nat) {i : Int} (v : Int32) (hd : decode c.code pc = .ok (.bipush i, 2)) (hv : (Int8.ofInt i).toInt32 = v) (hp : pc + 2 = n) (hr : Wout p e below P T (mkF m n Ls (.int v :: rest))) : Wout p e below P T (mkF m pc Ls (rest)) := by
  subst hp
  exact Wout.of (fun _ ht => XT.bipushV X.here hx rfl v hd hv ht) hr
theorem o_sipush (X : Stand p l e R s m args below meth c T locs cells slots) (hx : p.tables.exec = Jvm.exec) (n : Nat) {i : Int} (v : Int32) (hd : decode c.code pc = .ok (.sipush i, 3)) (hv : (Int16.ofInt i).toInt32 = v) (hp : pc + 3 = n) (hr : Wout p e below P T (mkF m n Ls (.int v :: rest))) : Wout p e below P T (mkF m pc Ls (rest)) := by
  subst hp
  exact Wout.of (fun _ ht => XT.sipushV X.here hx rfl v hd hv ht) hr
theorem o_lconst (X : Stand p l e R s m args below meth c T locs cells slots) (hx : p.tables.exec = Jvm.exec) (n : Nat) {k : Fin 2} (v : Int64) (hd : decode c.code pc = .ok (.lconst k, 1)) (hv : Int64.ofNat k = v) (hp : pc + 1 = n) (hr : Wout p e below P T (mkF m n Ls (.long v :: rest))) : Wout p e below P T (mkF m pc Ls (rest)) := by
  subst hp
  exact Wout.of (fun _ ht => XT.lconstV X.here hx rfl v hd hv ht) hr
theorem o_aconst_null (X : Stand p l e R s m args below meth c T locs cells slots) (hx : p.tables.exec = Jvm.exec) (n : Nat)  (hd : decode c.code pc = .ok (.aconst_null, 1)) (hp : pc + 1 = n) (hr : Wout p e below P T (mkF m n Ls (.null :: rest))) : Wout p e below P T (mkF m pc Ls (rest)) := by
  subst hp
  exact Wout.of (fun _ ht => XS.aconstNull X.here hx rfl hd ht) hr
theorem o_iadd (X : Stand p l e R s m args below meth c T locs cells slots) (hx : p.tables.exec = Jvm.exec) (n : Nat) {x y : Int32} (hd : decode c.code pc = .ok (.iadd, 1)) (hp : pc + 1 = n) (hr : Wout p e below P T (mkF m n Ls (.int (x + y) :: rest))) : Wout p e below P T (mkF m pc Ls (.int y :: .int x :: rest)) := by
  subst hp
  exact Wout.of (fun _ ht => XS.iadd X.here hx rfl hd rfl ht) hr
theorem o_isub (X : Stand p l e R s m args below meth c T locs cells slots) (hx : p.tables.exec = Jvm.exec) (n : Nat) {x y : Int32} (hd : decode c.code pc = .ok (.isub, 1)) (hp : pc + 1 = n) (hr : Wout p e below P T (mkF m n Ls (.int (x - y) :: rest))) : Wout p e below P T (mkF m pc Ls (.int y :: .int x :: rest)) := by
  subst hp
  exact Wout.of (fun _ ht => XS.isub X.here hx rfl hd rfl ht) hr
theorem o_imul (X : Stand p l e R s m args below meth c T locs cells slots) (hx : p.tables.exec = Jvm.exec) (n : Nat) {x y : Int32} (hd : decode c.code pc = .ok (.imul, 1)) (hp : pc + 1 = n) (hr : Wout p e below P T (mkF m n Ls (.int (x * y) :: rest))) : Wout p e below P T (mkF m pc Ls (.int y :: .int x :: rest)) := by
  subst hp
  exact Wout.of (fun _ ht => XS.imul X.here hx rfl hd rfl ht) hr
theorem o_iand (X : Stand p l e R s m args below meth c T locs cells slots) (hx : p.tables.exec = Jvm.exec) (n : Nat) {x y : Int32} (hd : decode c.code pc = .ok (.iand, 1)) (hp : pc + 1 = n) (hr : Wout p e below P T (mkF m n Ls (.int (x &&& y) :: rest))) : Wout p e below P T (mkF m pc Ls (.int y :: .int x :: rest)) := by
  subst hp
  exact Wout.of (fun _ ht => XS.iand X.here hx rfl hd rfl ht) hr
theorem o_ior (X : Stand p l e R s m args below meth c T locs cells slots) (hx : p.tables.exec = Jvm.exec) (n : Nat) {x y : Int32} (hd : decode c.code pc = .ok (.ior, 1)) (hp : pc + 1 = n) (hr : Wout p e below P T (mkF m n Ls (.int (x ||| y) :: rest))) : Wout p e below P T (mkF m pc Ls (.int y :: .int x :: rest)) := by
  subst hp
  exact Wout.of (fun _ ht => XT.ior X.here hx rfl hd rfl ht) hr
theorem o_ixor (X : Stand p l e R s m args below meth c T locs cells slots) (hx : p.tables.exec = Jvm.exec) (n : Nat) {x y : Int32} (hd : decode c.code pc = .ok (.ixor, 1)) (hp : pc + 1 = n) (hr : Wout p e below P T (mkF m n Ls (.int (x ^^^ y) :: rest))) : Wout p e below P T (mkF m pc Ls (.int y :: .int x :: rest)) := by
  subst hp
  exact Wout.of (fun _ ht => XT.ixor X.here hx rfl hd rfl ht) hr
theorem o_ishl (X : Stand p l e R s m args below meth c T locs cells slots) (hx : p.tables.exec = Jvm.exec) (n : Nat) {x y : Int32} (hd : decode c.code pc = .ok (.ishl, 1)) (hp : pc + 1 = n) (hr : Wout p e below P T (mkF m n Ls (.int (x <<< (y &&& 31)) :: rest))) : Wout p e below P T (mkF m pc Ls (.int y :: .int x :: rest)) := by
  subst hp
  exact Wout.of (fun _ ht => XT.ishl X.here hx rfl hd rfl ht) hr
theorem o_ishr (X : Stand p l e R s m args below meth c T locs cells slots) (hx : p.tables.exec = Jvm.exec) (n : Nat) {x y : Int32} (hd : decode c.code pc = .ok (.ishr, 1)) (hp : pc + 1 = n) (hr : Wout p e below P T (mkF m n Ls (.int (x >>> (y &&& 31)) :: rest))) : Wout p e below P T (mkF m pc Ls (.int y :: .int x :: rest)) := by
  subst hp
  exact Wout.of (fun _ ht => XT.ishr X.here hx rfl hd rfl ht) hr
theorem o_iushr (X : Stand p l e R s m args below meth c T locs cells slots) (hx : p.tables.exec = Jvm.exec) (n : Nat) {x y : Int32} (hd : decode c.code pc = .ok (.iushr, 1)) (hp : pc + 1 = n) (hr : Wout p e below P T (mkF m n Ls (.int (XT.ushr x y) :: rest))) : Wout p e below P T (mkF m pc Ls (.int y :: .int x :: rest)) := by
  subst hp
  exact Wout.of (fun _ ht => XT.iushr X.here hx rfl hd rfl ht) hr
theorem o_ladd (X : Stand p l e R s m args below meth c T locs cells slots) (hx : p.tables.exec = Jvm.exec) (n : Nat) {x y : Int64} (hd : decode c.code pc = .ok (.ladd, 1)) (hp : pc + 1 = n) (hr : Wout p e below P T (mkF m n Ls (.long (x + y) :: rest))) : Wout p e below P T (mkF m pc Ls (.long y :: .long x :: rest)) := by
  subst hp
  exact Wout.of (fun _ ht => XT.ladd X.here hx rfl hd rfl ht) hr
theorem o_lsub (X : Stand p l e R s m args below meth c T locs cells slots) (hx : p.tables.exec = Jvm.exec) (n : Nat) {x y : Int64} (hd : decode c.code pc = .ok (.lsub, 1)) (hp : pc + 1 = n) (hr : Wout p e below P T (mkF m n Ls (.long (x - y) :: rest))) : Wout p e below P T (mkF m pc Ls (.long y :: .long x :: rest)) := by
  subst hp
  exact Wout.of (fun _ ht => XT.lsub X.here hx rfl hd rfl ht) hr
theorem o_lmul (X : Stand p l e R s m args below meth c T locs cells slots) (hx : p.tables.exec = Jvm.exec) (n : Nat) {x y : Int64} (hd : decode c.code pc = .ok (.lmul, 1)) (hp : pc + 1 = n) (hr : Wout p e below P T (mkF m n Ls (.long (x * y) :: rest))) : Wout p e below P T (mkF m pc Ls (.long y :: .long x :: rest)) := by
  subst hp
  exact Wout.of (fun _ ht => XT.lmul X.here hx rfl hd rfl ht) hr
theorem o_land (X : Stand p l e R s m args below meth c T locs cells slots) (hx : p.tables.exec = Jvm.exec) (n : Nat) {x y : Int64} (hd : decode c.code pc = .ok (.land, 1)) (hp : pc + 1 = n) (hr : Wout p e below P T (mkF m n Ls (.long (x &&& y) :: rest))) : Wout p e below P T (mkF m pc Ls (.long y :: .long x :: rest)) := by
  subst hp
  exact Wout.of (fun _ ht => XT.land X.here hx rfl hd rfl ht) hr
theorem o_lor (X : Stand p l e R s m args below meth c T locs cells slots) (hx : p.tables.exec = Jvm.exec) (n : Nat) {x y : Int64} (hd : decode c.code pc = .ok (.lor, 1)) (hp : pc + 1 = n) (hr : Wout p e below P T (mkF m n Ls (.long (x ||| y) :: rest))) : Wout p e below P T (mkF m pc Ls (.long y :: .long x :: rest)) := by
  subst hp
  exact Wout.of (fun _ ht => XT.lor X.here hx rfl hd rfl ht) hr
theorem o_lxor (X : Stand p l e R s m args below meth c T locs cells slots) (hx : p.tables.exec = Jvm.exec) (n : Nat) {x y : Int64} (hd : decode c.code pc = .ok (.lxor, 1)) (hp : pc + 1 = n) (hr : Wout p e below P T (mkF m n Ls (.long (x ^^^ y) :: rest))) : Wout p e below P T (mkF m pc Ls (.long y :: .long x :: rest)) := by
  subst hp
  exact Wout.of (fun _ ht => XT.lxor X.here hx rfl hd rfl ht) hr
theorem o_irem (X : Stand p l e R s m args below meth c T locs cells slots) (hx : p.tables.exec = Jvm.exec) (n : Nat) {x y : Int32} (hd : decode c.code pc = .ok (.irem, 1)) (hy : y ≠ 0) (hp : pc + 1 = n) (hr : Wout p e below P T (mkF m n Ls (.int (x % y) :: rest))) : Wout p e below P T (mkF m pc Ls (.int y :: .int x :: rest)) := by
  subst hp
  exact Wout.of (fun _ ht => iremM X hx rfl hd rfl hy ht) hr
theorem o_idiv (X : Stand p l e R s m args below meth c T locs cells slots) (hx : p.tables.exec = Jvm.exec) (n : Nat) {x y : Int32} (hd : decode c.code pc = .ok (.idiv, 1)) (hy : y ≠ 0) (hp : pc + 1 = n) (hr : Wout p e below P T (mkF m n Ls (.int (x / y) :: rest))) : Wout p e below P T (mkF m pc Ls (.int y :: .int x :: rest)) := by
  subst hp
  exact Wout.of (fun _ ht => XS.idiv X.here hx rfl hd rfl hy ht) hr
theorem o_lshl (X : Stand p l e R s m args below meth c T locs cells slots) (hx : p.tables.exec = Jvm.exec) (n : Nat) {x : Int64} {y : Int32} (hd : decode c.code pc = .ok (.lshl, 1)) (hp : pc + 1 = n) (hr : Wout p e below P T (mkF m n Ls (.long (x <<< (y.toInt64 &&& 63)) :: rest))) : Wout p e below P T (mkF m pc Ls (.int y :: .long x :: rest)) := by
  subst hp
  exact Wout.of (fun _ ht => XT.lshl X.here hx rfl hd rfl ht) hr
theorem o_lshr (X : Stand p l e R s m args below meth c T locs cells slots) (hx : p.tables.exec = Jvm.exec) (n : Nat) {x : Int64} {y : Int32} (hd : decode c.code pc = .ok (.lshr, 1)) (hp : pc + 1 = n) (hr : Wout p e below P T (mkF m n Ls (.long (x >>> (y.toInt64 &&& 63)) :: rest))) : Wout p e below P T (mkF m pc Ls (.int y :: .long x :: rest)) := by
  subst hp
  exact Wout.of (fun _ ht => XT.lshr X.here hx rfl hd rfl ht) hr
theorem o_lushr (X : Stand p l e R s m args below meth c T locs cells slots) (hx : p.tables.exec = Jvm.exec) (n : Nat) {x : Int64} {y : Int32} (hd : decode c.code pc = .ok (.lushr, 1)) (hp : pc + 1 = n) (hr : Wout p e below P T (mkF m n Ls (.long (XT.ushrL x y) :: rest))) : Wout p e below P T (mkF m pc Ls (.int y :: .long x :: rest)) := by
  subst hp
  exact Wout.of (fun _ ht => XT.lushr X.here hx rfl hd rfl ht) hr
theorem o_ineg (X : Stand p l e R s m args below meth c T locs cells slots) (hx : p.tables.exec = Jvm.exec) (n : Nat) {x : Int32} (hd : decode c.code pc = .ok (.ineg, 1)) (hp : pc + 1 = n) (hr : Wout p e below P T (mkF m n Ls (.int (-x) :: rest))) : Wout p e below P T (mkF m pc Ls (.int x :: rest)) := by
  subst hp
  exact Wout.of (fun _ ht => XS.ineg X.here hx rfl hd rfl ht) hr
theorem o_i2l (X : Stand p l e R s m args below meth c T locs cells slots) (hx : p.tables.exec = Jvm.exec) (n : Nat) {x : Int32} (hd : decode c.code pc = .ok (.i2l, 1)) (hp : pc + 1 = n) (hr : Wout p e below P T (mkF m n Ls (.long (x.toInt64) :: rest))) : Wout p e below P T (mkF m pc Ls (.int x :: rest)) := by
  subst hp
  exact Wout.of (fun _ ht => XT.i2l X.here hx rfl hd rfl ht) hr
theorem o_l2i (X : Stand p l e R s m args below meth c T locs cells slots) (hx : p.tables.exec = Jvm.exec) (n : Nat) {x : Int64} (hd : decode c.code pc = .ok (.l2i, 1)) (hp : pc + 1 = n) (hr : Wout p e below P T (mkF m n Ls (.int (x.toInt32) :: rest))) : Wout p e below P T (mkF m pc Ls (.long x :: rest)) := by
  subst hp
  exact Wout.of (fun _ ht => XT.l2i X.here hx rfl hd rfl ht) hr
theorem o_i2b (X : Stand p l e R s m args below meth c T locs cells slots) (hx : p.tables.exec = Jvm.exec) (n : Nat) {x : Int32} (hd : decode c.code pc = .ok (.i2b, 1)) (hp : pc + 1 = n) (hr : Wout p e below P T (mkF m n Ls (.int (x.toInt8.toInt32) :: rest))) : Wout p e below P T (mkF m pc Ls (.int x :: rest)) := by
  subst hp
  exact Wout.of (fun _ ht => XT.i2b X.here hx rfl hd rfl ht) hr
theorem o_i2c (X : Stand p l e R s m args below meth c T locs cells slots) (hx : p.tables.exec = Jvm.exec) (n : Nat) {x : Int32} (hd : decode c.code pc = .ok (.i2c, 1)) (hp : pc + 1 = n) (hr : Wout p e below P T (mkF m n Ls (.int (x.toUInt32.toUInt16.toUInt32.toInt32) :: rest))) : Wout p e below P T (mkF m pc Ls (.int x :: rest)) := by
  subst hp
  exact Wout.of (fun _ ht => XT.i2c X.here hx rfl hd rfl ht) hr
theorem o_i2s (X : Stand p l e R s m args below meth c T locs cells slots) (hx : p.tables.exec = Jvm.exec) (n : Nat) {x : Int32} (hd : decode c.code pc = .ok (.i2s, 1)) (hp : pc + 1 = n) (hr : Wout p e below P T (mkF m n Ls (.int (x.toInt16.toInt32) :: rest))) : Wout p e below P T (mkF m pc Ls (.int x :: rest)) := by
  subst hp
  exact Wout.of (fun _ ht => XT.i2s X.here hx rfl hd rfl ht) hr
theorem o_lcmp (X : Stand p l e R s m args below meth c T locs cells slots) (hx : p.tables.exec = Jvm.exec) (n : Nat) {x y : Int64} (hd : decode c.code pc = .ok (.lcmp, 1)) (hp : pc + 1 = n) (hr : Wout p e below P T (mkF m n Ls (.int (XT.cmpL x y) :: rest))) : Wout p e below P T (mkF m pc Ls (.long y :: .long x :: rest)) := by
  subst hp
  exact Wout.of (fun _ ht => XT.lcmp X.here hx rfl hd rfl ht) hr
theorem o_dup (X : Stand p l e R s m args below meth c T locs cells slots) (hx : p.tables.exec = Jvm.exec) (n : Nat) {v : Value} (hd : decode c.code pc = .ok (.dup, 1)) (hc : v.category = 1) (hp : pc + 1 = n) (hr : Wout p e below P T (mkF m n Ls (v :: v :: rest))) : Wout p e below P T (mkF m pc Ls (v :: rest)) := by
  subst hp
  exact Wout.of (fun _ ht => XS.dup X.here hx rfl hd rfl hc ht) hr
theorem o_pop (X : Stand p l e R s m args below meth c T locs cells slots) (hx : p.tables.exec = Jvm.exec) (n : Nat) {v : Value} (hd : decode c.code pc = .ok (.pop, 1)) (hc : v.category = 1) (hp : pc + 1 = n) (hr : Wout p e below P T (mkF m n Ls (rest))) : Wout p e below P T (mkF m pc Ls (v :: rest)) := by
  subst hp
  exact Wout.of (fun _ ht => XT.pop X.here hx rfl hd rfl hc ht) hr
theorem o_dup_x1 (X : Stand p l e R s m args below meth c T locs cells slots) (hx : p.tables.exec = Jvm.exec) (n : Nat) {v w : Value} (hd : decode c.code pc = .ok (.dup_x1, 1)) (hc : v.category = 1) (hc' : w.category = 1) (hp : pc + 1 = n) (hr : Wout p e below P T (mkF m n Ls (v :: w :: v :: rest))) : Wout p e below P T (mkF m pc Ls (v :: w :: rest)) := by
  subst hp
  exact Wout.of (fun _ ht => XT.dupX1 X.here hx rfl hd rfl hc hc' ht) hr
theorem o_dup2 (X : Stand p l e R s m args below meth c T locs cells slots) (hx : p.tables.exec = Jvm.exec) (n : Nat) {v w : Value} (hd : decode c.code pc = .ok (.dup2, 1)) (hc : v.category = 1) (hc' : w.category = 1) (hp : pc + 1 = n) (hr : Wout p e below P T (mkF m n Ls (v :: w :: v :: w :: rest))) : Wout p e below P T (mkF m pc Ls (v :: w :: rest)) := by
  subst hp
  exact Wout.of (fun _ ht => XT.dup2 X.here hx rfl hd rfl hc hc' ht) hr
theorem o_iinc (X : Stand p l e R s m args below meth c T locs cells slots) (hx : p.tables.exec = Jvm.exec) (n : Nat) {k : Nat} {i : Int} {x : Int32} {Ls' : Array Slot} (v : Int32) (hd : decode c.code pc = .ok (.iinc k i, 3)) (hv : Int32.ofInt i = v) (hl : Ls[k]? = some (.val (.int x))) (hl' : storeLocals Ls k (.int (x + v)) = some Ls') (hp : pc + 3 = n) (hr : Wout p e below P T (mkF m n Ls' (rest))) : Wout p e below P T (mkF m pc Ls (rest)) := by
  subst hp
  exact Wout.of (fun _ ht => XT.iincV X.here hx rfl v hd hv hl hl' ht) hr
theorem o_dload (X : Stand p l e R s m args below meth c T locs cells slots) (hx : p.tables.exec = Jvm.exec) (n : Nat) {k : Nat} {v : UInt64} (hd : decode c.code pc = .ok (.dload k, 2)) (hl : Ls[k]? = some (.val (.double v))) (hp : pc + 2 = n) (hr : Wout p e below P T (mkF m n Ls (.double v :: rest))) : Wout p e below P T (mkF m pc Ls (rest)) := by
  subst hp
  exact Wout.of (fun _ ht => XS.dload X.here hx rfl hd hl ht) hr
theorem o_dloadN (X : Stand p l e R s m args below meth c T locs cells slots) (hx : p.tables.exec = Jvm.exec) (n : Nat) {k : Fin 4} {v : UInt64} (hd : decode c.code pc = .ok (.dload_n k, 1)) (hl : Ls[k.val]? = some (.val (.double v))) (hp : pc + 1 = n) (hr : Wout p e below P T (mkF m n Ls (.double v :: rest))) : Wout p e below P T (mkF m pc Ls (rest)) := by
  subst hp
  exact Wout.of (fun _ ht => XS.dloadN X.here hx rfl hd hl ht) hr
theorem o_dstore (X : Stand p l e R s m args below meth c T locs cells slots) (hx : p.tables.exec = Jvm.exec) (n : Nat) {k : Nat} {v : UInt64} {Ls' : Array Slot} (hd : decode c.code pc = .ok (.dstore k, 2)) (hl : storeLocals Ls k (.double v) = some Ls') (hp : pc + 2 = n) (hr : Wout p e below P T (mkF m n Ls' (rest))) : Wout p e below P T (mkF m pc Ls (.double v :: rest)) := by
  subst hp
  exact Wout.of (fun _ ht => XS.dstore X.here hx rfl hd rfl hl ht) hr
theorem o_dstoreN (X : Stand p l e R s m args below meth c T locs cells slots) (hx : p.tables.exec = Jvm.exec) (n : Nat) {k : Fin 4} {v : UInt64} {Ls' : Array Slot} (hd : decode c.code pc = .ok (.dstore_n k, 1)) (hl : storeLocals Ls k.val (.double v) = some Ls') (hp : pc + 1 = n) (hr : Wout p e below P T (mkF m n Ls' (rest))) : Wout p e below P T (mkF m pc Ls (.double v :: rest)) := by
  subst hp
  exact Wout.of (fun _ ht => XS.dstoreN X.here hx rfl hd rfl hl ht) hr
theorem o_i2d (X : Stand p l e R s m args below meth c T locs cells slots) (hx : p.tables.exec = Jvm.exec) (n : Nat) {x : Int32} (v : UInt64) (hd : decode c.code pc = .ok (.i2d, 1)) (hv : FP.i2d x = v) (hp : pc + 1 = n) (hr : Wout p e below P T (mkF m n Ls (.double v :: rest))) : Wout p e below P T (mkF m pc Ls (.int x :: rest)) := by
  subst hp
  exact Wout.of (fun _ ht => XS.i2dS X.here hx rfl hd rfl hv ht) hr
theorem o_l2d (X : Stand p l e R s m args below meth c T locs cells slots) (hx : p.tables.exec = Jvm.exec) (n : Nat) {x : Int64} (v : UInt64) (hd : decode c.code pc = .ok (.l2d, 1)) (hv : FP.l2d x = v) (hp : pc + 1 = n) (hr : Wout p e below P T (mkF m n Ls (.double v :: rest))) : Wout p e below P T (mkF m pc Ls (.long x :: rest)) := by
  subst hp
  exact Wout.of (fun _ ht => XS.l2dS X.here hx rfl hd rfl hv ht) hr
theorem o_dadd (X : Stand p l e R s m args below meth c T locs cells slots) (hx : p.tables.exec = Jvm.exec) (n : Nat) {x y : UInt64} (v : UInt64) (hd : decode c.code pc = .ok (.dadd, 1)) (hn : Jvm.Free.Fl.NoNaN64 (FP.dadd x y)) (hv : FP.dadd x y = v) (hp : pc + 1 = n) (hr : Wout p e below P T (mkF m n Ls (.double v :: rest))) : Wout p e below P T (mkF m pc Ls (.double y :: .double x :: rest)) := by
  subst hp
  exact Wout.of (fun _ ht => XS.daddS X.here hx rfl hd rfl hn hv ht) hr
theorem o_dmul (X : Stand p l e R s m args below meth c T locs cells slots) (hx : p.tables.exec = Jvm.exec) (n : Nat) {x y : UInt64} (v : UInt64) (hd : decode c.code pc = .ok (.dmul, 1)) (hn : Jvm.Free.Fl.NoNaN64 (FP.dmul x y)) (hv : FP.dmul x y = v) (hp : pc + 1 = n) (hr : Wout p e below P T (mkF m n Ls (.double v :: rest))) : Wout p e below P T (mkF m pc Ls (.double y :: .double x :: rest)) := by
  subst hp
  exact Wout.of (fun _ ht => XS.dmulS X.here hx rfl hd rfl hn hv ht) hr
theorem o_dsub (X : Stand p l e R s m args below meth c T locs cells slots) (hx : p.tables.exec = Jvm.exec) (n : Nat) {x y : UInt64} (v : UInt64) (hd : decode c.code pc = .ok (.dsub, 1)) (hn : Jvm.Free.Fl.NoNaN64 (FP.dsub x y)) (hv : FP.dsub x y = v) (hp : pc + 1 = n) (hr : Wout p e below P T (mkF m n Ls (.double v :: rest))) : Wout p e below P T (mkF m pc Ls (.double y :: .double x :: rest)) := by
  subst hp
  exact Wout.of (fun _ ht => XS.dsubS X.here hx rfl hd rfl hn hv ht) hr
theorem o_d2l (X : Stand p l e R s m args below meth c T locs cells slots) (hx : p.tables.exec = Jvm.exec) (n : Nat) {x : UInt64} (v : Int64) (hd : decode c.code pc = .ok (.d2l, 1)) (hv : FP.d2l x = v) (hp : pc + 1 = n) (hr : Wout p e below P T (mkF m n Ls (.long v :: rest))) : Wout p e below P T (mkF m pc Ls (.double x :: rest)) := by
  subst hp
  exact Wout.of (fun _ ht => XS.d2lS X.here hx rfl hd rfl hv ht) hr
theorem o_lneg (X : Stand p l e R s m args below meth c T locs cells slots) (hx : p.tables.exec = Jvm.exec) (n : Nat) {x : Int64} (hd : decode c.code pc = .ok (.lneg, 1)) (hp : pc + 1 = n) (hr : Wout p e below P T (mkF m n Ls (.long (-x) :: rest))) : Wout p e below P T (mkF m pc Ls (.long x :: rest)) := by
  subst hp
  exact Wout.of (fun _ ht => XT.lneg X.here hx rfl hd rfl ht) hr
theorem o_ldc2D (X : Stand p l e R s m args below meth c T locs cells slots) (hx : p.tables.exec = Jvm.exec) (hZ : Z.Warmed39 s.vm) (n : Nat) {own : String} {index : Nat} {v : UInt64} (hown : s.vm.findClass own = some m.cls) (w : (Jvm.Cond.constantDouble own index v).before a0 Z = true) (hd : decode c.code pc = .ok (.ldc2_w index, 3)) (hp : pc + 3 = n) (hr : Wout p e below P T (mkF m n Ls (.double v :: rest))) : Wout p e below P T (mkF m pc Ls rest) := by
  subst hp
  exact Wout.of (fun _ ht => X.ldc2DoubleC hx hown (mv hZ w) (g := mkF m pc Ls rest) rfl hd _ ht) hr
theorem o_dcmp (X : Stand p l e R s m args below meth c T locs cells slots) (hx : p.tables.exec = Jvm.exec) (n : Nat) {o : CmpOp} {x y : UInt64} (v : Int32) (hd : decode c.code pc = .ok (.dcmp o, 1)) (hv : cmpValue (FP.dcmp x y) o = v) (hp : pc + 1 = n) (hr : Wout p e below P T (mkF m n Ls (.int v :: rest))) : Wout p e below P T (mkF m pc Ls (.double y :: .double x :: rest)) := by
  subst hp
  exact Wout.of (fun _ ht => XS.dcmpS X.here hx rfl hd rfl hv ht) hr
theorem jmp {pc n : Nat} {o : Int} (hp : (pc : Int) + o = (n : Int)) : 0 ≤ (pc : Int) + o ∧ ((pc : Int) + o).toNat = n := by rw [hp]; exact ⟨Int.natCast_nonneg n, Int.toNat_natCast n⟩
theorem o_goto (X : Stand p l e R s m args below meth c T locs cells slots) (hx : p.tables.exec = Jvm.exec) (n : Nat) {o : Int} (hd : decode c.code pc = .ok (.goto o, 3)) (hp : (pc : Int) + o = (n : Int)) (hr : Wout p e below P T (mkF m n Ls rest)) : Wout p e below P T (mkF m pc Ls rest) :=
  Wout.of (fun _ ht => XS.goto X.here hx rfl (pc0 := pc) rfl hd (jmp hp).1 (jmp hp).2 ht) hr
theorem o_ifT (X : Stand p l e R s m args below meth c T locs cells slots) (hx : p.tables.exec = Jvm.exec) (n : Nat) {cd : ClassFile.Cond} {x : Int32} {o : Int} (hd : decode c.code pc = .ok (.ifCond cd o, 3)) (hp : (pc : Int) + o = (n : Int)) (q : cI cd x) (hr : Wout p e below P T (mkF m n Ls rest)) : Wout p e below P T (mkF m pc Ls (.int x :: rest)) :=
  Wout.of (fun _ ht => XS.ifYes X.here hx rfl (pc0 := pc) rfl hd rfl (cI_t q) (jmp hp).1 (jmp hp).2 ht) hr
theorem o_ifF (X : Stand p l e R s m args below meth c T locs cells slots) (hx : p.tables.exec = Jvm.exec) (n : Nat) {cd : ClassFile.Cond} {x : Int32} {o : Int} (hd : decode c.code pc = .ok (.ifCond cd o, 3)) (hp : pc + 3 = n) (q : cI (cNeg cd) x) (hr : Wout p e below P T (mkF m n Ls rest)) : Wout p e below P T (mkF m pc Ls (.int x :: rest)) := by
  subst hp
  exact Wout.of (fun _ ht => XS.ifNo X.here hx rfl hd rfl (cI_f q) ht) hr
theorem o_if (X : Stand p l e R s m args below meth c T locs cells slots) (hx : p.tables.exec = Jvm.exec) (n1 n2 : Nat) {cd : ClassFile.Cond} {x : Int32} {o : Int} (hd : decode c.code pc = .ok (.ifCond cd o, 3)) (hp1 : (pc : Int) + o = (n1 : Int)) (hp2 : pc + 3 = n2) (h1 : cI cd x → Wout p e below P T (mkF m n1 Ls rest)) (h2 : cI (cNeg cd) x → Wout p e below P T (mkF m n2 Ls rest)) : Wout p e below P T (mkF m pc Ls (.int x :: rest)) :=
  (cI_em cd x).elim (fun q => o_ifT X hx n1 hd hp1 q (h1 q)) (fun q => o_ifF X hx n2 hd hp2 q (h2 q))
theorem o_ifLT (X : Stand p l e R s m args below meth c T locs cells slots) (hx : p.tables.exec = Jvm.exec) (n : Nat) {cd : ClassFile.Cond} {x y : Int64} {o : Int} (hd : decode c.code pc = .ok (.ifCond cd o, 3)) (hp : (pc : Int) + o = (n : Int)) (q : cLL cd x y) (hr : Wout p e below P T (mkF m n Ls rest)) : Wout p e below P T (mkF m pc Ls (.int (XT.cmpL x y) :: rest)) :=
  Wout.of (fun _ ht => XS.ifYes X.here hx rfl (pc0 := pc) rfl hd rfl (cLL_t q) (jmp hp).1 (jmp hp).2 ht) hr
theorem o_ifLF (X : Stand p l e R s m args below meth c T locs cells slots) (hx : p.tables.exec = Jvm.exec) (n : Nat) {cd : ClassFile.Cond} {x y : Int64} {o : Int} (hd : decode c.code pc = .ok (.ifCond cd o, 3)) (hp : pc + 3 = n) (q : cLL (cNeg cd) x y) (hr : Wout p e below P T (mkF m n Ls rest)) : Wout p e below P T (mkF m pc Ls (.int (XT.cmpL x y) :: rest)) := by
  subst hp
  exact Wout.of (fun _ ht => XS.ifNo X.here hx rfl hd rfl (cLL_f q) ht) hr
theorem o_ifL (X : Stand p l e R s m args below meth c T locs cells slots) (hx : p.tables.exec = Jvm.exec) (n1 n2 : Nat) {cd : ClassFile.Cond} {x y : Int64} {o : Int} (hd : decode c.code pc = .ok (.ifCond cd o, 3)) (hp1 : (pc : Int) + o = (n1 : Int)) (hp2 : pc + 3 = n2) (h1 : cLL cd x y → Wout p e below P T (mkF m n1 Ls rest)) (h2 : cLL (cNeg cd) x y → Wout p e below P T (mkF m n2 Ls rest)) : Wout p e below P T (mkF m pc Ls (.int (XT.cmpL x y) :: rest)) :=
  (cLL_em cd x y).elim (fun q => o_ifLT X hx n1 hd hp1 q (h1 q)) (fun q => o_ifLF X hx n2 hd hp2 q (h2 q))
theorem o_icmpT (X : Stand p l e R s m args below meth c T locs cells slots) (hx : p.tables.exec = Jvm.exec) (n : Nat) {cd : ClassFile.Cond} {x y : Int32} {o : Int} (hd : decode c.code pc = .ok (.if_icmp cd o, 3)) (hp : (pc : Int) + o = (n : Int)) (q : cII cd x y) (hr : Wout p e below P T (mkF m n Ls rest)) : Wout p e below P T (mkF m pc Ls (.int y :: .int x :: rest)) :=
  Wout.of (fun _ ht => XS.icmpYes X.here hx rfl (pc0 := pc) rfl hd rfl (cII_t q) (jmp hp).1 (jmp hp).2 ht) hr
theorem o_icmpF (X : Stand p l e R s m args below meth c T locs cells slots) (hx : p.tables.exec = Jvm.exec) (n : Nat) {cd : ClassFile.Cond} {x y : Int32} {o : Int} (hd : decode c.code pc = .ok (.if_icmp cd o, 3)) (hp : pc + 3 = n) (q : cII (cNeg cd) x y) (hr : Wout p e below P T (mkF m n Ls rest)) : Wout p e below P T (mkF m pc Ls (.int y :: .int x :: rest)) := by
  subst hp
  exact Wout.of (fun _ ht => XS.icmpNo X.here hx rfl hd rfl (cII_f q) ht) hr
theorem o_icmp (X : Stand p l e R s m args below meth c T locs cells slots) (hx : p.tables.exec = Jvm.exec) (n1 n2 : Nat) {cd : ClassFile.Cond} {x y : Int32} {o : Int} (hd : decode c.code pc = .ok (.if_icmp cd o, 3)) (hp1 : (pc : Int) + o = (n1 : Int)) (hp2 : pc + 3 = n2) (h1 : cII cd x y → Wout p e below P T (mkF m n1 Ls rest)) (h2 : cII (cNeg cd) x y → Wout p e below P T (mkF m n2 Ls rest)) : Wout p e below P T (mkF m pc Ls (.int y :: .int x :: rest)) :=
  (cII_em cd x y).elim (fun q => o_icmpT X hx n1 hd hp1 q (h1 q)) (fun q => o_icmpF X hx n2 hd hp2 q (h2 q))
theorem o_ifnullT (X : Stand p l e R s m args below meth c T locs cells slots) (hx : p.tables.exec = Jvm.exec) (n : Nat) {o : Int} (hd : decode c.code pc = .ok (.ifnull o, 3)) (hp : (pc : Int) + o = (n : Int)) (hr : Wout p e below P T (mkF m n Ls rest)) : Wout p e below P T (mkF m pc Ls (.null :: rest)) :=
  Wout.of (fun _ ht => XS.ifnullYes X.here hx rfl (pc0 := pc) rfl hd rfl (jmp hp).1 (jmp hp).2 ht) hr
theorem o_ifnullF (X : Stand p l e R s m args below meth c T locs cells slots) (hx : p.tables.exec = Jvm.exec) (n : Nat) {o : Int} {a : Addr} (hd : decode c.code pc = .ok (.ifnull o, 3)) (hp : pc + 3 = n) (hr : Wout p e below P T (mkF m n Ls rest)) : Wout p e below P T (mkF m pc Ls (.ref a :: rest)) := by
  subst hp
  exact Wout.of (fun _ ht => XS.ifnullNo X.here hx rfl hd rfl ht) hr
theorem o_ifnonnullT (X : Stand p l e R s m args below meth c T locs cells slots) (hx : p.tables.exec = Jvm.exec) (n : Nat) {o : Int} {a : Addr} (hd : decode c.code pc = .ok (.ifnonnull o, 3)) (hp : (pc : Int) + o = (n : Int)) (hr : Wout p e below P T (mkF m n Ls rest)) : Wout p e below P T (mkF m pc Ls (.ref a :: rest)) :=
  Wout.of (fun _ ht => XT.ifnonnullYes X.here hx rfl (pc0 := pc) rfl hd rfl (jmp hp).1 (jmp hp).2 ht) hr
theorem o_ifnonnullF (X : Stand p l e R s m args below meth c T locs cells slots) (hx : p.tables.exec = Jvm.exec) (n : Nat) {o : Int} (hd : decode c.code pc = .ok (.ifnonnull o, 3)) (hp : pc + 3 = n) (hr : Wout p e below P T (mkF m n Ls rest)) : Wout p e below P T (mkF m pc Ls (.null :: rest)) := by
  subst hp
  exact Wout.of (fun _ ht => XT.ifnonnullNo X.here hx rfl hd rfl ht) hr
theorem o_acmpT (X : Stand p l e R s m args below meth c T locs cells slots) (hx : p.tables.exec = Jvm.exec) (n : Nat) {cd : ClassFile.ACond} {x y : Value} {o : Int} (hd : decode c.code pc = .ok (.if_acmp cd o, 3)) (h1 : x.isRef = true) (h2 : y.isRef = true) (hp : (pc : Int) + o = (n : Int)) (q : XT.acmp cd x y = true) (hr : Wout p e below P T (mkF m n Ls rest)) : Wout p e below P T (mkF m pc Ls (y :: x :: rest)) :=
  Wout.of (fun _ ht => XT.acmpYes X.here hx rfl (pc0 := pc) rfl hd rfl h1 h2 q (jmp hp).1 (jmp hp).2 ht) hr
theorem o_acmpF (X : Stand p l e R s m args below meth c T locs cells slots) (hx : p.tables.exec = Jvm.exec) (n : Nat) {cd : ClassFile.ACond} {x y : Value} {o : Int} (hd : decode c.code pc = .ok (.if_acmp cd o, 3)) (h1 : x.isRef = true) (h2 : y.isRef = true) (hp : pc + 3 = n) (q : XT.acmp cd x y = false) (hr : Wout p e below P T (mkF m n Ls rest)) : Wout p e below P T (mkF m pc Ls (y :: x :: rest)) := by
  subst hp
  exact Wout.of (fun _ ht => XT.acmpNo X.here hx rfl hd rfl h1 h2 q ht) hr
theorem o_tsw (X : Stand p l e R s m args below meth c T locs cells slots) (hx : p.tables.exec = Jvm.exec) (n : Nat) {dflt low high : Int} {offs : Array Int} {len : Nat} {o : Int} {i : Int32} (hd : decode c.code pc = .ok (.tableswitch dflt low high offs, len)) (hin : ¬ (i.toInt < low ∨ i.toInt > high)) (hoff : offs[(i.toInt - low).toNat]? = some o) (hp : (pc : Int) + o = (n : Int)) (hr : Wout p e below P T (mkF m n Ls rest)) : Wout p e below P T (mkF m pc Ls (.int i :: rest)) :=
  Wout.of (fun _ ht => XS.tswIn X.here hx rfl (pc0 := pc) rfl hd rfl hin hoff (jmp hp).1 (jmp hp).2 ht) hr
theorem o_lswT (X : Stand p l e R s m args below meth c T locs cells slots) (hx : p.tables.exec = Jvm.exec) (n : Nat) {d : Int} {ps : Array (Int × Int)} {len : Nat} {a o : Int} {i : Int32} (hd : decode c.code pc = .ok (.lookupswitch d ps, len)) (hso : (ps.toList.zip (ps.toList.drop 1)).all (fun (a, next) => a.1 < next.1) = true) (hf : ps.find? (·.1 == i.toInt) = some (a, o)) (hp : (pc : Int) + o = (n : Int)) (hr : Wout p e below P T (mkF m n Ls rest)) : Wout p e below P T (mkF m pc Ls (.int i :: rest)) := by
  have q0 := (jmp hp).1
  have q := (jmp hp).2
  clear hp
  subst q
  exact Wout.of (fun _ ht => X.lookupswitchHit hx (g := mkF m pc Ls (.int i :: rest)) rfl rfl hd hso hf q0 _ ht) hr
theorem o_lswF (X : Stand p l e R s m args below meth c T locs cells slots) (hx : p.tables.exec = Jvm.exec) (n : Nat) {d : Int} {ps : Array (Int × Int)} {len : Nat} {i : Int32} (hd : decode c.code pc = .ok (.lookupswitch d ps, len)) (hso : (ps.toList.zip (ps.toList.drop 1)).all (fun (a, next) => a.1 < next.1) = true) (hf : ps.find? (·.1 == i.toInt) = none) (hp : (pc : Int) + d = (n : Int)) (hr : Wout p e below P T (mkF m n Ls rest)) : Wout p e below P T (mkF m pc Ls (.int i :: rest)) := by
  have q0 := (jmp hp).1
  have q := (jmp hp).2
  clear hp
  subst q
  exact Wout.of (fun _ ht => X.lookupswitchMiss hx (g := mkF m pc Ls (.int i :: rest)) rfl rfl hd hso hf q0 _ ht) hr
/-! constants of the pool, fields, statics -/
theorem o_ldc (X : Stand p l e R s m args below meth c T locs cells slots) (hx : p.tables.exec = Jvm.exec) (hZ : Z.Warmed39 s.vm) (n : Nat) {own : String} {index : Nat} {v : Int32} (hown : s.vm.findClass own = some m.cls) (w : (Jvm.Cond.constant own index v).before a0 Z = true) (hd : decode c.code pc = .ok (.ldc index, 2)) (hp : pc + 2 = n) (hr : Wout p e below P T (mkF m n Ls (.int v :: rest))) : Wout p e below P T (mkF m pc Ls rest) := by
  subst hp
  exact Wout.of (fun _ ht => X.ldcI hx hown (mv hZ w) rfl hd ht) hr
theorem o_ldc2 (X : Stand p l e R s m args below meth c T locs cells slots) (hx : p.tables.exec = Jvm.exec) (hZ : Z.Warmed39 s.vm) (n : Nat) {own : String} {index : Nat} {v : Int64} (hown : s.vm.findClass own = some m.cls) (w : (Jvm.Cond.constantLong own index v).before a0 Z = true) (hd : decode c.code pc = .ok (.ldc2_w index, 3)) (hp : pc + 3 = n) (hr : Wout p e below P T (mkF m n Ls (.long v :: rest))) : Wout p e below P T (mkF m pc Ls rest) := by
  subst hp
  exact Wout.of (fun _ ht => X.ldc2J hx hown (mv hZ w) rfl hd ht) hr
theorem o_getF (X : Stand p l e R s m args below meth c T locs cells slots) (hx : p.tables.exec = Jvm.exec) (hZ : Z.Warmed39 s.vm) {own R0 O nm d host : String} {index : Nat} (hown : s.vm.findClass own = some m.cls) (w : (Jvm.Cond.fieldLink own index R0 nm d).before a0 Z = true ∨ (Jvm.Cond.fieldLinkNest own index R0 nm d host).before a0 Z = true) (via : Via Z R0 O nm d) (eT : T.heap = h) {a : Addr} {v : Value} (F : Fld Z h a O nm d v) (n : Nat) (hd : decode c.code pc = .ok (.getfield index, 3)) (hp : pc + 3 = n)
    (hr : ∀ T', Stand p l e R s m args below meth c T' locs cells slots → T'.heap = h → Wout p e below P T' (mkF m n Ls (v :: rest))) : Wout p e below P T (mkF m pc Ls (.ref a :: rest)) := by
  subst hp
  obtain ⟨T', X', e', st⟩ := getF X hx hZ hown w via eT F (g := mkF m pc Ls (.ref a :: rest)) rfl rfl hd
  exact Wout.of st (hr T' X' e')
theorem o_getS (X : Stand p l e R s m args below meth c T locs cells slots) (hx : p.tables.exec = Jvm.exec) (hZ : Z.Warmed39 s.vm) {own R0 O nm d host : String} {index : Nat} (hown : s.vm.findClass own = some m.cls) (w : (Jvm.Cond.fieldLink own index R0 nm d).before a0 Z = true ∨ (Jvm.Cond.fieldLinkNest own index R0 nm d host).before a0 Z = true) (via : Via Z R0 O nm d) (eT : T.heap = h) {v : Value} (F : Sta Z h O nm d v) (n : Nat) (hd : decode c.code pc = .ok (.getstatic index, 3)) (hp : pc + 3 = n)
    (hr : ∀ T', Stand p l e R s m args below meth c T' locs cells slots → T'.heap = h → Wout p e below P T' (mkF m n Ls (v :: rest))) : Wout p e below P T (mkF m pc Ls rest) := by
  subst hp
  obtain ⟨T', X', e', st⟩ := getS2 X hx hZ hown w via eT F (g := mkF m pc Ls rest) rfl hd
  exact Wout.of st (hr T' X' e')
theorem o_putF (X : Stand p l e R s m args below meth c T locs cells slots) (hx : p.tables.exec = Jvm.exec) (hZ : Z.Warmed39 s.vm) {own R0 O nm d host C : String} {index kk : Nat} (ty : FieldType) (hown : s.vm.findClass own = some m.cls) (w : (Jvm.Cond.fieldLink own index R0 nm d).before a0 Z = true ∨ (Jvm.Cond.fieldLinkNest own index R0 nm d host).before a0 Z = true) (via : Via Z R0 O nm d) (eT : T.heap = h) {a : Addr} {v old : Value} (F : Fld Z h a O nm d old) (E : Exa Z h a C)
    (L : (Jvm.Cond.lays C O nm d).before a0 Z = true ∨ ((Jvm.Cond.laysFinal C O nm d).before a0 Z = true ∧ own = O ∧ meth.name = "<init>")) (wi : (Jvm.Cond.instantiable C kk).before a0 Z = true) (hty : parseFieldDescriptor d = some ty) (hn : Jvm.narrow ty v = v) (hf : fits ty v = true) {n0 : Nat} (N : Fr n0 locs) (g : n0 ≤ a) (n : Nat) (hd : decode c.code pc = .ok (.putfield index, 3)) (hp : pc + 3 = n)
    (hr : ∀ T' h' locs', Stand p l e R s m args below meth c T' locs' cells slots → T'.heap = h' → Wr h h' a (RoadKit.slotOf Z O nm d) v → Fr n0 locs' → Wout p e below P T' (mkF m n Ls rest)) : Wout p e below P T (mkF m pc Ls (v :: .ref a :: rest)) := by
  subst hp
  obtain ⟨T', h', X', e', W, st⟩ := putF X hx hZ hown w via eT F E L wi hty hn hf (g := mkF m pc Ls (v :: .ref a :: rest)) rfl rfl hd
  exact Wout.of st (hr T' h' _ X' e' W (Fr.snoc X' N g))
theorem o_putFN (X : Stand p l e R s m args below meth c T locs cells slots) (hx : p.tables.exec = Jvm.exec) (hZ : Z.Warmed39 s.vm) {own R0 O nm d C : String} {index kk : Nat} (ty : FieldType) (hown : s.vm.findClass own = some m.cls) (w : (Jvm.Cond.fieldLink own index R0 nm d).before a0 Z = true) (via : Via Z R0 O nm d) (eT : T.heap = h) {a : Addr} {v v' old : Value} (F : Fld Z h a O nm d old) (E : Exa Z h a C)
    (L : (Jvm.Cond.lays C O nm d).before a0 Z = true ∨ ((Jvm.Cond.laysFinal C O nm d).before a0 Z = true ∧ own = O ∧ meth.name = "<init>")) (wi : (Jvm.Cond.instantiable C kk).before a0 Z = true) (hty : parseFieldDescriptor d = some ty) (hn : Jvm.narrow ty v = v') (hf : fits ty v' = true) {n0 : Nat} (N : Fr n0 locs) (g : n0 ≤ a) (n : Nat) (hd : decode c.code pc = .ok (.putfield index, 3)) (hp : pc + 3 = n)
    (hr : ∀ T' h' locs', Stand p l e R s m args below meth c T' locs' cells slots → T'.heap = h' → Wr h h' a (RoadKit.slotOf Z O nm d) v' → Fr n0 locs' → Wout p e below P T' (mkF m n Ls rest)) : Wout p e below P T (mkF m pc Ls (v :: .ref a :: rest)) := by
  subst hp
  obtain ⟨T', h', X', e', W, st⟩ := putFN X hx hZ hown w via eT F E L wi hty hn hf (g := mkF m pc Ls (v :: .ref a :: rest)) rfl rfl hd
  exact Wout.of st (hr T' h' _ X' e' W (Fr.snoc X' N g))
/-! objects and arrays that are made -/
theorem o_new (X : Stand p l e R s m args below meth c T locs cells slots) (hx : p.tables.exec = Jvm.exec) (hZ : Z.Warmed39 s.vm) {own C : String} {index k : Nat} (hown : s.vm.findClass own = some m.cls) (w : (Jvm.Cond.classLink own index C).before a0 Z = true) (wi : (Jvm.Cond.instantiable C k).before a0 Z = true) (wz : (Jvm.Cond.initialized C).before a0 Z = true) (eT : T.heap = h) (n : Nat) (hd : decode c.code pc = .ok (.new index, 3)) (hp : pc + 3 = n) (hc : cells + 1 ≤ R.cells) (hl : slots + k ≤ R.slots)
    (hr : ∀ T' h' (b : Addr), b = h.size → Stand p l e R s m args below meth c T' locs (cells + 1) (slots + k) → T'.heap = h' → Ext h h' → Exa Z h' b C → (∀ {O nm d : String} {ty : FieldType}, Laid Z a0 C O nm d → parseFieldDescriptor d = some ty → Fld Z h' b O nm d (defaultValue ty)) → Wout p e below P T' (mkF m n Ls (.ref b :: rest))) : Wout p e below P T (mkF m pc Ls rest) := by
  subst hp
  obtain ⟨T', h', X', e', E, A, D, -, st⟩ := newO X hx hZ hown w wi wz eT (g := mkF m pc Ls rest) rfl hd hc hl
  exact Wout.of st (hr T' h' _ rfl X' e' E A D)
theorem o_newarray (X : Stand p l e R s m args below meth c T locs cells slots) (hx : p.tables.exec = Jvm.exec) (hZ : Z.Warmed39 s.vm) {aty : ArrayType} (w : (Jvm.Cond.arrayClass (newarray.typeOf aty)).before a0 Z = true) (eT : T.heap = h) (n : Nat) (hd : decode c.code pc = .ok (.newarray aty, 2)) (hp : pc + 2 = n) {z : Int32} (hz : ¬ z < 0) (cap : Nat) (hcap : z.toNatClampNeg ≤ cap) (hbb : cap * 8 ≤ 536870912) (hc : cells + 1 ≤ R.cells) (hl : slots + cap ≤ R.slots)
    (hr : ∀ T' h' (b : Addr) (k : ClassId), b = h.size → Stand p l e R s m args below meth c T' locs (cells + 1) (slots + cap) → T'.heap = h' → Ext h h' → Arv Z h' b k (newarray.typeOf aty) z [] (defaultValue (newarray.typeOf aty)) → Wout p e below P T' (mkF m n Ls (.ref b :: rest))) : Wout p e below P T (mkF m pc Ls (.int z :: rest)) := by
  subst hp
  obtain ⟨T', h', cA, X', e', E, A, st⟩ := newP X hx hZ w eT (g := mkF m pc Ls (.int z :: rest)) rfl hd rfl hz hcap hbb hc hl
  exact Wout.of st (hr T' h' _ cA rfl X' e' E (Arv.new A hz))
theorem o_anewarray (X : Stand p l e R s m args below meth c T locs cells slots) (hx : p.tables.exec = Jvm.exec) (hZ : Z.Warmed39 s.vm) {own C : String} {index : Nat} (hown : s.vm.findClass own = some m.cls) (w1 : (Jvm.Cond.classLink own index C).before a0 Z = true) (w2 : (Jvm.Cond.arrayOver (.object C)).before a0 Z = true) (eT : T.heap = h) (n : Nat) (hd : decode c.code pc = .ok (.anewarray index, 3)) (hp : pc + 3 = n) {z : Int32} (hz : ¬ z < 0) (cap : Nat) (hcap : z.toNatClampNeg ≤ cap) (hbb : cap * 8 ≤ 536870912) (hc : cells + 1 ≤ R.cells) (hl : slots + cap ≤ R.slots)
    (hr : ∀ T' h' (b : Addr) (k : ClassId), b = h.size → Stand p l e R s m args below meth c T' locs (cells + 1) (slots + cap) → T'.heap = h' → Ext h h' → Arv Z h' b k (.object C) z [] .null → Ovr Z k C → Wout p e below P T' (mkF m n Ls (.ref b :: rest))) : Wout p e below P T (mkF m pc Ls (.int z :: rest)) := by
  subst hp
  obtain ⟨T', h', cA, X', e', E, A, O, st⟩ := newR X hx hZ hown w1 w2 eT (g := mkF m pc Ls (.int z :: rest)) rfl hd rfl hz hcap hbb hc hl
  exact Wout.of st (hr T' h' _ cA rfl X' e' E (Arv.new A hz) O)
theorem o_arraylength (X : Stand p l e R s m args below meth c T locs cells slots) (hx : p.tables.exec = Jvm.exec) (hZ : Z.Warmed39 s.vm) (eT : T.heap = h) {a : Addr} {k : ClassId} {ty : FieldType} {z : Int32} {vs : List Value} {dv : Value} (V : Arv Z h a k ty z vs dv) (n : Nat) (hd : decode c.code pc = .ok (.arraylength, 1)) (hp : pc + 1 = n) (hr : Wout p e below P T (mkF m n Ls (.int z :: rest))) : Wout p e below P T (mkF m pc Ls (.ref a :: rest)) := by
  subst hp
  obtain ⟨cl, A, -, S, M, -, -⟩ := V
  rw [← len_of S M] at hr
  exact Wout.of (fun _ ht => X.arraylength hx (cell := cl) (by rw [eT]; exact A.1) (State.isArrayOf_alike hZ.alike A.2.1) (g := mkF m pc Ls (.ref a :: rest)) rfl rfl hd _ ht) hr

theorem o_iaload (X : Stand p l e R s m args below meth c T locs cells slots) (hx : p.tables.exec = Jvm.exec) (hZ : Z.Warmed39 s.vm) (eT : T.heap = h) {a : Addr} {k : ClassId} {z : Int32} {vs : List Value} {dv : Value} (V : Arv Z h a k .int z vs dv) {j : Int32} (hj : ¬ j < 0 ∧ j < z) {v : Value} (hv : vs.getD j.toNatClampNeg dv = v) (n : Nat) (hd : decode c.code pc = .ok (.iaload, 1)) (hp : pc + 1 = n) (hr : Wout p e below P T (mkF m n Ls (v :: rest))) : Wout p e below P T (mkF m pc Ls (.int j :: .ref a :: rest)) := by
  subst hp
  obtain ⟨cl, A, -, S, M, H, -⟩ := V
  exact Wout.of (fun _ ht => X.iaload hx (j := j) (v := v) (by rw [eT]; exact A.1) (State.isArrayOf_alike hZ.alike A.2.1) A.2.2 (inb_of S hj) (H.at (inb_of S hj) hv) (g := mkF m pc Ls (.int j :: .ref a :: rest)) rfl rfl hd _ ht) hr
theorem o_laload (X : Stand p l e R s m args below meth c T locs cells slots) (hx : p.tables.exec = Jvm.exec) (hZ : Z.Warmed39 s.vm) (eT : T.heap = h) {a : Addr} {k : ClassId} {z : Int32} {vs : List Value} {dv : Value} (V : Arv Z h a k .long z vs dv) {j : Int32} (hj : ¬ j < 0 ∧ j < z) {v : Value} (hv : vs.getD j.toNatClampNeg dv = v) (n : Nat) (hd : decode c.code pc = .ok (.laload, 1)) (hp : pc + 1 = n) (hr : Wout p e below P T (mkF m n Ls (v :: rest))) : Wout p e below P T (mkF m pc Ls (.int j :: .ref a :: rest)) := by
  subst hp
  obtain ⟨cl, A, -, S, M, H, -⟩ := V
  exact Wout.of (fun _ ht => X.laload hx (j := j) (v := v) (by rw [eT]; exact A.1) (State.isArrayOf_alike hZ.alike A.2.1) A.2.2 (inb_of S hj) (H.at (inb_of S hj) hv) (g := mkF m pc Ls (.int j :: .ref a :: rest)) rfl rfl hd _ ht) hr
theorem o_caload (X : Stand p l e R s m args below meth c T locs cells slots) (hx : p.tables.exec = Jvm.exec) (hZ : Z.Warmed39 s.vm) (eT : T.heap = h) {a : Addr} {k : ClassId} {z : Int32} {vs : List Value} {dv : Value} (V : Arv Z h a k .char z vs dv) {j : Int32} (hj : ¬ j < 0 ∧ j < z) {v : Value} (hv : vs.getD j.toNatClampNeg dv = v) (n : Nat) (hd : decode c.code pc = .ok (.caload, 1)) (hp : pc + 1 = n) (hr : Wout p e below P T (mkF m n Ls (v :: rest))) : Wout p e below P T (mkF m pc Ls (.int j :: .ref a :: rest)) := by
  subst hp
  obtain ⟨cl, A, -, S, M, H, -⟩ := V
  exact Wout.of (fun _ ht => X.caload hx (j := j) (v := v) (by rw [eT]; exact A.1) (State.isArrayOf_alike hZ.alike A.2.1) A.2.2 (inb_of S hj) (H.at (inb_of S hj) hv) (g := mkF m pc Ls (.int j :: .ref a :: rest)) rfl rfl hd _ ht) hr
theorem o_saload (X : Stand p l e R s m args below meth c T locs cells slots) (hx : p.tables.exec = Jvm.exec) (hZ : Z.Warmed39 s.vm) (eT : T.heap = h) {a : Addr} {k : ClassId} {z : Int32} {vs : List Value} {dv : Value} (V : Arv Z h a k .short z vs dv) {j : Int32} (hj : ¬ j < 0 ∧ j < z) {v : Value} (hv : vs.getD j.toNatClampNeg dv = v) (n : Nat) (hd : decode c.code pc = .ok (.saload, 1)) (hp : pc + 1 = n) (hr : Wout p e below P T (mkF m n Ls (v :: rest))) : Wout p e below P T (mkF m pc Ls (.int j :: .ref a :: rest)) := by
  subst hp
  obtain ⟨cl, A, -, S, M, H, -⟩ := V
  exact Wout.of (fun _ ht => X.saload hx (j := j) (v := v) (by rw [eT]; exact A.1) (State.isArrayOf_alike hZ.alike A.2.1) A.2.2 (inb_of S hj) (H.at (inb_of S hj) hv) (g := mkF m pc Ls (.int j :: .ref a :: rest)) rfl rfl hd _ ht) hr
theorem o_baload (X : Stand p l e R s m args below meth c T locs cells slots) (hx : p.tables.exec = Jvm.exec) (hZ : Z.Warmed39 s.vm) (eT : T.heap = h) {a : Addr} {k : ClassId} {z : Int32} {vs : List Value} {dv : Value} (V : Arv Z h a k .byte z vs dv) {j : Int32} (hj : ¬ j < 0 ∧ j < z) {v : Value} (hv : vs.getD j.toNatClampNeg dv = v) (n : Nat) (hd : decode c.code pc = .ok (.baload, 1)) (hp : pc + 1 = n) (hr : Wout p e below P T (mkF m n Ls (v :: rest))) : Wout p e below P T (mkF m pc Ls (.int j :: .ref a :: rest)) := by
  subst hp
  obtain ⟨cl, A, -, S, M, H, -⟩ := V
  exact Wout.of (fun _ ht => X.baloadBytes hx (j := j) (v := v) (by rw [eT]; exact A.1) (State.isArrayOf_alike hZ.alike A.2.1) A.2.2 (inb_of S hj) (H.at (inb_of S hj) hv) (g := mkF m pc Ls (.int j :: .ref a :: rest)) rfl rfl hd _ ht) hr
theorem o_baloadZ (X : Stand p l e R s m args below meth c T locs cells slots) (hx : p.tables.exec = Jvm.exec) (hZ : Z.Warmed39 s.vm) (eT : T.heap = h) {a : Addr} {k : ClassId} {z : Int32} {vs : List Value} {dv : Value} (V : Arv Z h a k .boolean z vs dv) {j : Int32} (hj : ¬ j < 0 ∧ j < z) {v : Value} (hv : vs.getD j.toNatClampNeg dv = v) (n : Nat) (hd : decode c.code pc = .ok (.baload, 1)) (hp : pc + 1 = n) (hr : Wout p e below P T (mkF m n Ls (v :: rest))) : Wout p e below P T (mkF m pc Ls (.int j :: .ref a :: rest)) := by
  subst hp
  obtain ⟨cl, A, -, S, M, H, -⟩ := V
  exact Wout.of (fun _ ht => X.baloadBooleans hx (j := j) (v := v) (by rw [eT]; exact A.1) (State.isArrayOf_alike hZ.alike A.2.1) A.2.2 (inb_of S hj) (H.at (inb_of S hj) hv) (g := mkF m pc Ls (.int j :: .ref a :: rest)) rfl rfl hd _ ht) hr
theorem o_aaload (X : Stand p l e R s m args below meth c T locs cells slots) (hx : p.tables.exec = Jvm.exec) (hZ : Z.Warmed39 s.vm) (eT : T.heap = h) {a : Addr} {k : ClassId} {ty : FieldType} {z : Int32} {vs : List Value} {dv : Value} (V : Arv Z h a k ty z vs dv) (hty : ty.isReference = true) {j : Int32} (hj : ¬ j < 0 ∧ j < z) {v : Value} (hv : vs.getD j.toNatClampNeg dv = v) (n : Nat) (hd : decode c.code pc = .ok (.aaload, 1)) (hp : pc + 1 = n) (hr : Wout p e below P T (mkF m n Ls (v :: rest))) : Wout p e below P T (mkF m pc Ls (.int j :: .ref a :: rest)) := by
  subst hp
  obtain ⟨cl, A, -, S, M, H, -⟩ := V
  exact Wout.of (fun _ ht => X.aaload hx (j := j) (v := v) (by rw [eT]; exact A.1) (State.isArrayOf_alike hZ.alike A.2.1) hty A.2.2 (inb_of S hj) (H.at (inb_of S hj) hv) (g := mkF m pc Ls (.int j :: .ref a :: rest)) rfl rfl hd _ ht) hr
theorem o_iastore (X : Stand p l e R s m args below meth c T locs cells slots) (hx : p.tables.exec = Jvm.exec) (hZ : Z.Warmed39 s.vm) (eT : T.heap = h) {a : Addr} {k : ClassId} {z : Int32} {vs : List Value} {dv : Value} (V : Arv Z h a k .int z vs dv) {j : Int32} {x : Int32} (hj : ¬ j < 0 ∧ j < z) (i : Nat) (hi : j.toNatClampNeg = i) (hil : i < vs.length) {vs' : List Value} (hvs : vs.set i (.int x) = vs') {n0 : Nat} (N : Fr n0 locs) (g : n0 ≤ a) (n : Nat) (hd : decode c.code pc = .ok (.iastore, 1)) (hp : pc + 1 = n)
    (hr : ∀ T' h' locs', Stand p l e R s m args below meth c T' locs' cells slots → T'.heap = h' → Wr h h' a i (.int x) → Arv Z h' a k .int z vs' dv → Fr n0 locs' → Wout p e below P T' (mkF m n Ls rest)) : Wout p e below P T (mkF m pc Ls (.int x :: .int j :: .ref a :: rest)) := by
  subst hp hvs
  obtain ⟨cl, A, q1, S, M, H, G⟩ := V
  obtain ⟨T', h', X', e', W, st⟩ := stI X hx hZ eT A (j := j) (x := x) (inb_of S hj) (g := mkF m pc Ls (.int x :: .int j :: .ref a :: rest)) rfl rfl hd
  exact Wout.of st (hr T' h' _ X' e' (hi ▸ W) (Arv.set A q1 S M H G (rfl) W i hi hil) (Fr.snoc X' N g))
theorem o_lastore (X : Stand p l e R s m args below meth c T locs cells slots) (hx : p.tables.exec = Jvm.exec) (hZ : Z.Warmed39 s.vm) (eT : T.heap = h) {a : Addr} {k : ClassId} {z : Int32} {vs : List Value} {dv : Value} (V : Arv Z h a k .long z vs dv) {j : Int32} {x : Int64} (hj : ¬ j < 0 ∧ j < z) (i : Nat) (hi : j.toNatClampNeg = i) (hil : i < vs.length) {vs' : List Value} (hvs : vs.set i (.long x) = vs') {n0 : Nat} (N : Fr n0 locs) (g : n0 ≤ a) (n : Nat) (hd : decode c.code pc = .ok (.lastore, 1)) (hp : pc + 1 = n)
    (hr : ∀ T' h' locs', Stand p l e R s m args below meth c T' locs' cells slots → T'.heap = h' → Wr h h' a i (.long x) → Arv Z h' a k .long z vs' dv → Fr n0 locs' → Wout p e below P T' (mkF m n Ls rest)) : Wout p e below P T (mkF m pc Ls (.long x :: .int j :: .ref a :: rest)) := by
  subst hp hvs
  obtain ⟨cl, A, q1, S, M, H, G⟩ := V
  obtain ⟨T', h', X', e', W, st⟩ := stJ X hx hZ eT A (j := j) (x := x) (inb_of S hj) (g := mkF m pc Ls (.long x :: .int j :: .ref a :: rest)) rfl rfl hd
  exact Wout.of st (hr T' h' _ X' e' (hi ▸ W) (Arv.set A q1 S M H G (rfl) W i hi hil) (Fr.snoc X' N g))
theorem o_castore (X : Stand p l e R s m args below meth c T locs cells slots) (hx : p.tables.exec = Jvm.exec) (hZ : Z.Warmed39 s.vm) (eT : T.heap = h) {a : Addr} {k : ClassId} {z : Int32} {vs : List Value} {dv : Value} (V : Arv Z h a k .char z vs dv) {j : Int32} {x : Int32} (hj : ¬ j < 0 ∧ j < z) (i : Nat) (hi : j.toNatClampNeg = i) (hil : i < vs.length) {vs' : List Value} (hvs : vs.set i (.int (nar .char x)) = vs') {n0 : Nat} (N : Fr n0 locs) (g : n0 ≤ a) (n : Nat) (hd : decode c.code pc = .ok (.castore, 1)) (hp : pc + 1 = n)
    (hr : ∀ T' h' locs', Stand p l e R s m args below meth c T' locs' cells slots → T'.heap = h' → Wr h h' a i (.int (nar .char x)) → Arv Z h' a k .char z vs' dv → Fr n0 locs' → Wout p e below P T' (mkF m n Ls rest)) : Wout p e below P T (mkF m pc Ls (.int x :: .int j :: .ref a :: rest)) := by
  subst hp hvs
  obtain ⟨cl, A, q1, S, M, H, G⟩ := V
  obtain ⟨T', h', X', e', W, st⟩ := stC X hx hZ eT A (j := j) (x := x) (inb_of S hj) (g := mkF m pc Ls (.int x :: .int j :: .ref a :: rest)) rfl rfl hd
  exact Wout.of st (hr T' h' _ X' e' (hi ▸ W) (Arv.set A q1 S M H G (fits_nar_char x) W i hi hil) (Fr.snoc X' N g))
theorem o_sastore (X : Stand p l e R s m args below meth c T locs cells slots) (hx : p.tables.exec = Jvm.exec) (hZ : Z.Warmed39 s.vm) (eT : T.heap = h) {a : Addr} {k : ClassId} {z : Int32} {vs : List Value} {dv : Value} (V : Arv Z h a k .short z vs dv) {j : Int32} {x : Int32} (hj : ¬ j < 0 ∧ j < z) (i : Nat) (hi : j.toNatClampNeg = i) (hil : i < vs.length) {vs' : List Value} (hvs : vs.set i (.int (nar .short x)) = vs') {n0 : Nat} (N : Fr n0 locs) (g : n0 ≤ a) (n : Nat) (hd : decode c.code pc = .ok (.sastore, 1)) (hp : pc + 1 = n)
    (hr : ∀ T' h' locs', Stand p l e R s m args below meth c T' locs' cells slots → T'.heap = h' → Wr h h' a i (.int (nar .short x)) → Arv Z h' a k .short z vs' dv → Fr n0 locs' → Wout p e below P T' (mkF m n Ls rest)) : Wout p e below P T (mkF m pc Ls (.int x :: .int j :: .ref a :: rest)) := by
  subst hp hvs
  obtain ⟨cl, A, q1, S, M, H, G⟩ := V
  obtain ⟨T', h', X', e', W, st⟩ := stS X hx hZ eT A (j := j) (x := x) (inb_of S hj) (g := mkF m pc Ls (.int x :: .int j :: .ref a :: rest)) rfl rfl hd
  exact Wout.of st (hr T' h' _ X' e' (hi ▸ W) (Arv.set A q1 S M H G (fits_nar_short x) W i hi hil) (Fr.snoc X' N g))
theorem o_bastore (X : Stand p l e R s m args below meth c T locs cells slots) (hx : p.tables.exec = Jvm.exec) (hZ : Z.Warmed39 s.vm) (eT : T.heap = h) {a : Addr} {k : ClassId} {z : Int32} {vs : List Value} {dv : Value} (V : Arv Z h a k .byte z vs dv) {j : Int32} {x : Int32} (hj : ¬ j < 0 ∧ j < z) (i : Nat) (hi : j.toNatClampNeg = i) (hil : i < vs.length) {vs' : List Value} (hvs : vs.set i (.int (nar .byte x)) = vs') {n0 : Nat} (N : Fr n0 locs) (g : n0 ≤ a) (n : Nat) (hd : decode c.code pc = .ok (.bastore, 1)) (hp : pc + 1 = n)
    (hr : ∀ T' h' locs', Stand p l e R s m args below meth c T' locs' cells slots → T'.heap = h' → Wr h h' a i (.int (nar .byte x)) → Arv Z h' a k .byte z vs' dv → Fr n0 locs' → Wout p e below P T' (mkF m n Ls rest)) : Wout p e below P T (mkF m pc Ls (.int x :: .int j :: .ref a :: rest)) := by
  subst hp hvs
  obtain ⟨cl, A, q1, S, M, H, G⟩ := V
  obtain ⟨T', h', X', e', W, st⟩ := stB X hx hZ eT A (j := j) (x := x) (inb_of S hj) (g := mkF m pc Ls (.int x :: .int j :: .ref a :: rest)) rfl rfl hd
  exact Wout.of st (hr T' h' _ X' e' (hi ▸ W) (Arv.set A q1 S M H G (fits_nar_byte x) W i hi hil) (Fr.snoc X' N g))
theorem o_bastoreZ (X : Stand p l e R s m args below meth c T locs cells slots) (hx : p.tables.exec = Jvm.exec) (hZ : Z.Warmed39 s.vm) (eT : T.heap = h) {a : Addr} {k : ClassId} {z : Int32} {vs : List Value} {dv : Value} (V : Arv Z h a k .boolean z vs dv) {j : Int32} {x : Int32} (hj : ¬ j < 0 ∧ j < z) (i : Nat) (hi : j.toNatClampNeg = i) (hil : i < vs.length) {vs' : List Value} (hvs : vs.set i (.int (nar .boolean x)) = vs') {n0 : Nat} (N : Fr n0 locs) (g : n0 ≤ a) (n : Nat) (hd : decode c.code pc = .ok (.bastore, 1)) (hp : pc + 1 = n)
    (hr : ∀ T' h' locs', Stand p l e R s m args below meth c T' locs' cells slots → T'.heap = h' → Wr h h' a i (.int (nar .boolean x)) → Arv Z h' a k .boolean z vs' dv → Fr n0 locs' → Wout p e below P T' (mkF m n Ls rest)) : Wout p e below P T (mkF m pc Ls (.int x :: .int j :: .ref a :: rest)) := by
  subst hp hvs
  obtain ⟨cl, A, q1, S, M, H, G⟩ := V
  obtain ⟨T', h', X', e', W, st⟩ := stZ X hx hZ eT A (j := j) (x := x) (inb_of S hj) (g := mkF m pc Ls (.int x :: .int j :: .ref a :: rest)) rfl rfl hd
  exact Wout.of st (hr T' h' _ X' e' (hi ▸ W) (Arv.set A q1 S M H G (fits_nar_bool x) W i hi hil) (Fr.snoc X' N g))
theorem o_daload (X : Stand p l e R s m args below meth c T locs cells slots) (hx : p.tables.exec = Jvm.exec) (hZ : Z.Warmed39 s.vm) (eT : T.heap = h) {a : Addr} {k : ClassId} {z : Int32} {vs : List Value} {dv : Value} (V : Arv Z h a k .double z vs dv) {j : Int32} (hj : ¬ j < 0 ∧ j < z) {v : Value} (hv : vs.getD j.toNatClampNeg dv = v) (n : Nat) (hd : decode c.code pc = .ok (.daload, 1)) (hp : pc + 1 = n) (hr : Wout p e below P T (mkF m n Ls (v :: rest))) : Wout p e below P T (mkF m pc Ls (.int j :: .ref a :: rest)) := by
  subst hp
  obtain ⟨cl, A, -, S, M, H, -⟩ := V
  exact Wout.of (fun _ ht => X.daload hx (j := j) (v := v) (by rw [eT]; exact A.1) (State.isArrayOf_alike hZ.alike A.2.1) A.2.2 (inb_of S hj) (H.at (inb_of S hj) hv) (g := mkF m pc Ls (.int j :: .ref a :: rest)) rfl rfl hd _ ht) hr
theorem o_dastore (X : Stand p l e R s m args below meth c T locs cells slots) (hx : p.tables.exec = Jvm.exec) (hZ : Z.Warmed39 s.vm) (eT : T.heap = h) {a : Addr} {k : ClassId} {z : Int32} {vs : List Value} {dv : Value} (V : Arv Z h a k .double z vs dv) {j : Int32} {x : UInt64} (hj : ¬ j < 0 ∧ j < z) (i : Nat) (hi : j.toNatClampNeg = i) (hil : i < vs.length) {vs' : List Value} (hvs : vs.set i (.double x) = vs') {n0 : Nat} (N : Fr n0 locs) (g : n0 ≤ a) (n : Nat) (hd : decode c.code pc = .ok (.dastore, 1)) (hp : pc + 1 = n)
    (hr : ∀ T' h' locs', Stand p l e R s m args below meth c T' locs' cells slots → T'.heap = h' → Wr h h' a i (.double x) → Arv Z h' a k .double z vs' dv → Fr n0 locs' → Wout p e below P T' (mkF m n Ls rest)) : Wout p e below P T (mkF m pc Ls (.double x :: .int j :: .ref a :: rest)) := by
  subst hp hvs
  obtain ⟨cl, A, q1, S, M, H, G⟩ := V
  obtain ⟨T', h', X', e', W, st⟩ := stD X hx hZ eT A (j := j) (x := x) (inb_of S hj) (g := mkF m pc Ls (.double x :: .int j :: .ref a :: rest)) rfl rfl hd
  exact Wout.of st (hr T' h' _ X' e' (hi ▸ W) (Arv.set A q1 S M H G (rfl) W i hi hil) (Fr.snoc X' N g))
theorem o_aastore (X : Stand p l e R s m args below meth c T locs cells slots) (hx : p.tables.exec = Jvm.exec) (hZ : Z.Warmed39 s.vm) (eT : T.heap = h) {a : Addr} {k : ClassId} {ty : FieldType} {z : Int32} {vs : List Value} {dv : Value} (V : Arv Z h a k ty z vs dv) (hty : ty.isReference = true) {j : Int32} {v : Value} (hj : ¬ j < 0 ∧ j < z) (i : Nat) (hi : j.toNatClampNeg = i) (hil : i < vs.length) {vs' : List Value} (hvs : vs.set i v = vs') (hfit : fits ty v = true) (Fs : Sto Z h a v) {n0 : Nat} (N : Fr n0 locs) (g : n0 ≤ a) (n : Nat) (hd : decode c.code pc = .ok (.aastore, 1)) (hp : pc + 1 = n)
    (hr : ∀ T' h' locs', Stand p l e R s m args below meth c T' locs' cells slots → T'.heap = h' → Wr h h' a i v → Arv Z h' a k ty z vs' dv → Fr n0 locs' → Wout p e below P T' (mkF m n Ls rest)) : Wout p e below P T (mkF m pc Ls (v :: .int j :: .ref a :: rest)) := by
  subst hp hvs
  obtain ⟨cl, A, q1, S, M, H, G⟩ := V
  obtain ⟨T', h', X', e', W, st⟩ := stR X hx hZ eT A (j := j) (v := v) (inb_of S hj) hty Fs (g := mkF m pc Ls (v :: .int j :: .ref a :: rest)) rfl rfl hd
  exact Wout.of st (hr T' h' _ X' e' (hi ▸ W) (Arv.set A q1 S M H G hfit W i hi hil) (Fr.snoc X' N g))
theorem Sto.arv {a y : Addr} {k : ClassId} {ty : FieldType} {z : Int32} {vs : List Value} {dv : Value} {C : String} (V : Arv Z h a k ty z vs dv) (O : Ovr Z k C) (I : Ins Z h y C true) : Sto Z h a (.ref y) := by
  obtain ⟨cl, A, q1, -⟩ := V
  exact Sto.ofV A q1 O I
theorem o_checkcast (X : Stand p l e R s m args below meth c T locs cells slots) (hx : p.tables.exec = Jvm.exec) (hZ : Z.Warmed39 s.vm) {own K : String} {index : Nat} (hown : s.vm.findClass own = some m.cls) (w : (Jvm.Cond.classLink own index K).before a0 Z = true) (eT : T.heap = h) {a : Addr} (F : Ins Z h a K true) (n : Nat) (hd : decode c.code pc = .ok (.checkcast index, 3)) (hp : pc + 3 = n)
    (hr : ∀ T', Stand p l e R s m args below meth c T' locs cells slots → T'.heap = h → Wout p e below P T' (mkF m n Ls (.ref a :: rest))) : Wout p e below P T (mkF m pc Ls (.ref a :: rest)) := by
  subst hp
  obtain ⟨T', X', e', st⟩ := castY X hx hZ hown w eT F (g := mkF m pc Ls (.ref a :: rest)) rfl rfl hd
  exact Wout.of st (hr T' X' e')
theorem o_instanceof (X : Stand p l e R s m args below meth c T locs cells slots) (hx : p.tables.exec = Jvm.exec) (hZ : Z.Warmed39 s.vm) {own K : String} {index : Nat} (hown : s.vm.findClass own = some m.cls) (w : (Jvm.Cond.classLink own index K).before a0 Z = true) (eT : T.heap = h) {a : Addr} (F : Ins Z h a K true) (n : Nat) (hd : decode c.code pc = .ok (.instanceof index, 3)) (hp : pc + 3 = n)
    (hr : ∀ T', Stand p l e R s m args below meth c T' locs cells slots → T'.heap = h → Wout p e below P T' (mkF m n Ls (.int 1 :: rest))) : Wout p e below P T (mkF m pc Ls (.ref a :: rest)) := by
  subst hp
  obtain ⟨T', X', e', st⟩ := instY X hx hZ hown w eT F (g := mkF m pc Ls (.ref a :: rest)) rfl rfl hd
  exact Wout.of st (hr T' X' e')
/-! calls -/
theorem o_initO (X : Stand p l e R s m args below meth c T locs cells slots) (hx : p.tables.exec = Jvm.exec) (hZ : Z.Warmed39 s.vm) {own : String} {idx : Nat} (hown : s.vm.findClass own = some m.cls) (w1 : (Jvm.Cond.methodLink own idx Lib.objectInit).before a0 Z = true) (w2 : (Jvm.Cond.instanceMethod Lib.objectInit).before a0 Z = true) (w3 : (Jvm.Cond.code Lib.objectInit ⟨#[0xb1]⟩ 1 none).before a0 Z = true) (eT : T.heap = h) (hsz : Ls.size = c.maxLocals) {a : Addr} (hf : 1 ≤ R.frames) (W : Nat) (hW : (rest.map fun v => v.category).sum ≤ W) (hl : W + 12 ≤ R.locals) (n : Nat) (hd : decode c.code pc = .ok (.invokespecial idx, 3)) (hp : pc + 3 = n)
    (hr : ∀ T', Stand p l e R s m args below meth c T' locs cells slots → T'.heap = h → Wout p e below P T' (mkF m n Ls rest)) : Wout p e below P T (mkF m pc Ls (.ref a :: rest)) := by
  subst hp
  obtain ⟨T', X', e', st⟩ := initO X hx hZ hown w1 w2 w3 eT (g := mkF m pc Ls (.ref a :: rest)) rfl hsz rfl hd hf (W := W) (by simpa using hW) hl
  exact Wout.of st (hr T' X' e')
theorem o_callS (X : Stand p l e R s m args below meth c T locs cells slots) (hx : p.tables.exec = Jvm.exec) (hZ : Z.Warmed39 s.vm) {own : String} {index : Nat} {y : MethodName} {bytes : ByteArray} {maxL : Nat} {ret : Option FieldType} (hown : s.vm.findClass own = some m.cls) (w1 : (Jvm.Cond.methodLink own index y).before a0 Z = true) (w2 : (Jvm.Cond.static y).before a0 Z = true) (w3 : (Jvm.Cond.initialized y.cls).before a0 Z = true) (w4 : (Jvm.Cond.code y bytes maxL ret).before a0 Z = true)
    (hy : y.cls ≠ "java/lang/invoke/MethodHandle" ∧ y.cls ≠ "java/lang/invoke/VarHandle") {rm : Room} {as' : Array Value} {Q : Option Value → Heap → List Loc → Prop} (hM : Met l Z y bytes maxL ret [] rm as' h Q) (eT : T.heap = h) (hf : rm.frames + 1 ≤ R.frames) (W : Nat) (hl : W + (maxL + 11) + rm.locals ≤ R.locals) (hsz : Ls.size = c.maxLocals) (argsL : List Value) {st : List Value} (hlen : ∀ sig, parseMethodDescriptor y.desc = some sig → argsL.length = sig.parameters.length) (hst : st = argsL.reverse ++ rest) (has : argsL.toArray = as')
    (hW : (rest.map fun v => v.category).sum ≤ W) (hc : cells + rm.cells ≤ R.cells) (hs : slots + rm.slots ≤ R.slots) (n : Nat) (hd : decode c.code pc = .ok (.invokestatic index, 3)) (hp : pc + 3 = n)
    (hr : ∀ v T' h' L, Stand p l e R s m args below meth c T' (locs ++ L) (cells + rm.cells) (slots + rm.slots) → T'.heap = h' → Q v h' L → Wout p e below P T' (mkF m n Ls (v.toList ++ rest))) : Wout p e below P T (mkF m pc Ls st) := by
  subst hp has hst
  obtain ⟨v, vm₁, ⟨T', L', k', n'⟩, -, X', ⟨Lc, hQ, l1, y1, z1⟩, st⟩ := Jvm.LawKit.callS X hx hown (mv hZ w1) (mv hZ w2) (mv hZ w3) (mv hZ w4) hy (backOf (W := W) hM hZ w4 w3 hf hl) (g := mkF m pc Ls (argsL.reverse ++ rest)) rfl hsz (argsL := argsL) (rest := rest) hlen rfl (by simpa using hW) hd (fun _ _ => ⟨rfl, eT, hc, hs⟩)
  dsimp only [Pt.U, Pt.locs, Pt.cells, Pt.slots] at X' l1 y1 z1 hQ st
  subst l1 y1 z1
  exact Wout.of st (hr v T' T'.heap Lc X' rfl hQ)
theorem o_callI (X : Stand p l e R s m args below meth c T locs cells slots) (hx : p.tables.exec = Jvm.exec) (hZ : Z.Warmed39 s.vm) {own : String} {index : Nat} {y : MethodName} {bytes : ByteArray} {maxL : Nat} (hy1 : y.name = "<init>") (hown : s.vm.findClass own = some m.cls) (w1 : (Jvm.Cond.methodLink own index y).before a0 Z = true) (w2 : (Jvm.Cond.instanceMethod y).before a0 Z = true) (w3 : (Jvm.Cond.initialized y.cls).before a0 Z = true) (w4 : (Jvm.Cond.code y bytes maxL none).before a0 Z = true)
    (hy : y.cls ≠ "java/lang/invoke/MethodHandle" ∧ y.cls ≠ "java/lang/invoke/VarHandle") {rm : Room} {as' : Array Value} {Q : Option Value → Heap → List Loc → Prop} (hM : Met l Z y bytes maxL none [] rm as' h Q) (eT : T.heap = h) (hf : rm.frames + 1 ≤ R.frames) (W : Nat) (hl : W + (maxL + 11) + rm.locals ≤ R.locals) (hsz : Ls.size = c.maxLocals) {a : Addr} (argsL : List Value) {st : List Value} (hlen : ∀ sig, parseMethodDescriptor y.desc = some sig → argsL.length = sig.parameters.length) (hst : st = argsL.reverse ++ .ref a :: rest) (has : (.ref a :: argsL).toArray = as')
    (hW : (rest.map fun v => v.category).sum ≤ W) (hc : cells + rm.cells ≤ R.cells) (hs : slots + rm.slots ≤ R.slots) (n : Nat) (hd : decode c.code pc = .ok (.invokespecial index, 3)) (hp : pc + 3 = n)
    (hr : ∀ v T' h' L, Stand p l e R s m args below meth c T' (locs ++ L) (cells + rm.cells) (slots + rm.slots) → T'.heap = h' → Q v h' L → Wout p e below P T' (mkF m n Ls (v.toList ++ rest))) : Wout p e below P T (mkF m pc Ls st) := by
  subst hp has hst
  obtain ⟨v, vm₁, ⟨T', L', k', n'⟩, -, X', ⟨Lc, hQ, l1, y1, z1⟩, st⟩ := X.specialBack hx hy1 hown (mv hZ w1) (mv hZ w2) (mv hZ w4) hy (backOf (W := W) hM hZ w4 w3 hf hl) (g := mkF m pc Ls (argsL.reverse ++ .ref a :: rest)) rfl hsz (Steps.refl _) (a := a) (argsL := argsL) (rest := rest) hlen rfl (by simpa using hW) hd (fun _ _ => ⟨rfl, eT, hc, hs⟩)
  dsimp only [Pt.U, Pt.locs, Pt.cells, Pt.slots] at X' l1 y1 z1 hQ st
  subst l1 y1 z1
  exact Wout.tr st (hr v T' T'.heap Lc X' rfl hQ)
theorem o_callIB (X : Stand p l e R s m args below meth c T locs cells slots) (hx : p.tables.exec = Jvm.exec) (hZ : Z.Warmed39 s.vm) {own : String} {index : Nat} {y : MethodName} {bytes : ByteArray} {maxL : Nat} (hy1 : y.name = "<init>") (hown : s.vm.findClass own = some m.cls) (w1 : (Jvm.Cond.methodLink own index y).before a0 Z = true) (w2 : (Jvm.Cond.instanceMethod y).before a0 Z = true) (w4 : (Jvm.Cond.code y bytes maxL none).before a0 Z = true)
    (hy : y.cls ≠ "java/lang/invoke/MethodHandle" ∧ y.cls ≠ "java/lang/invoke/VarHandle") {kc ks W : Nat} {as' : Array Value} {Q : Option Value → Heap → List Loc → Prop} (hK : Back l R p e below s args y 3 W (fun A a => a = as' ∧ A.U.heap = h ∧ A.cells + kc ≤ R.cells ∧ A.slots + ks ≤ R.slots) (fun A _ v B => ∃ L, Q v B.U.heap L ∧ B.locs = A.locs ++ L ∧ B.cells = A.cells + kc ∧ B.slots = A.slots + ks)) (eT : T.heap = h) (hsz : Ls.size = c.maxLocals) {a : Addr} (argsL : List Value) {st : List Value} (hlen : ∀ sig, parseMethodDescriptor y.desc = some sig → argsL.length = sig.parameters.length) (hst : st = argsL.reverse ++ .ref a :: rest) (has : (.ref a :: argsL).toArray = as')
    (hW : (rest.map fun v => v.category).sum ≤ W) (hc : cells + kc ≤ R.cells) (hs : slots + ks ≤ R.slots) (n : Nat) (hd : decode c.code pc = .ok (.invokespecial index, 3)) (hp : pc + 3 = n)
    (hr : ∀ v T' h' L, Stand p l e R s m args below meth c T' (locs ++ L) (cells + kc) (slots + ks) → T'.heap = h' → Q v h' L → Wout p e below P T' (mkF m n Ls (v.toList ++ rest))) : Wout p e below P T (mkF m pc Ls st) := by
  subst hp has hst
  obtain ⟨v, vm₁, ⟨T', L', k', n'⟩, -, X', ⟨Lc, hQ, l1, y1, z1⟩, st⟩ := X.specialBack hx hy1 hown (mv hZ w1) (mv hZ w2) (mv hZ w4) hy hK (g := mkF m pc Ls (argsL.reverse ++ .ref a :: rest)) rfl hsz (Steps.refl _) (a := a) (argsL := argsL) (rest := rest) hlen rfl (by simpa using hW) hd (fun _ _ => ⟨rfl, eT, hc, hs⟩)
  dsimp only [Pt.U, Pt.locs, Pt.cells, Pt.slots] at X' l1 y1 z1 hQ st
  subst l1 y1 z1
  exact Wout.tr st (hr v T' T'.heap Lc X' rfl hQ)
theorem o_callV (X : Stand p l e R s m args below meth c T locs cells slots) (hx : p.tables.exec = Jvm.exec) (hZ : Z.Warmed39 s.vm) {own C : String} {index : Nat} {y : MethodName} {bytes : ByteArray} {maxL : Nat} {ret : Option FieldType} (hown : s.vm.findClass own = some m.cls) (w1 : (Jvm.Cond.methodLink own index y).before a0 Z = true) (w5 : (Jvm.Cond.declares y).before a0 Z = true) (w6 : (Jvm.Cond.selects C y y).before a0 Z = true) (w2 : (Jvm.Cond.instanceMethod y).before a0 Z = true) (w3 : (Jvm.Cond.initialized y.cls).before a0 Z = true) (w4 : (Jvm.Cond.code y bytes maxL ret).before a0 Z = true)
    (hy : y.cls ≠ "java/lang/invoke/MethodHandle" ∧ y.cls ≠ "java/lang/invoke/VarHandle") {rm : Room} {as' : Array Value} {Q : Option Value → Heap → List Loc → Prop} (hM : Met l Z y bytes maxL ret [] rm as' h Q) (eT : T.heap = h) (hf : rm.frames + 1 ≤ R.frames) (W : Nat) (hl : W + (maxL + 11) + rm.locals ≤ R.locals) (hsz : Ls.size = c.maxLocals) {a : Addr} (E : Exa Z h a C) (argsL : List Value) {st : List Value} (hlen : ∀ sig, parseMethodDescriptor y.desc = some sig → argsL.length = sig.parameters.length) (hst : st = argsL.reverse ++ .ref a :: rest) (has : (.ref a :: argsL).toArray = as')
    (hW : (rest.map fun v => v.category).sum ≤ W) (hc : cells + rm.cells ≤ R.cells) (hs : slots + rm.slots ≤ R.slots) (n : Nat) (hd : decode c.code pc = .ok (.invokevirtual index, 3)) (hp : pc + 3 = n)
    (hr : ∀ v T' h' L, Stand p l e R s m args below meth c T' (locs ++ L) (cells + rm.cells) (slots + rm.slots) → T'.heap = h' → Q v h' L → Wout p e below P T' (mkF m n Ls (v.toList ++ rest))) : Wout p e below P T (mkF m pc Ls st) := by
  subst hp has hst
  obtain ⟨cq, kq, qa, qb, qc⟩ := isOf hZ eT E
  obtain ⟨v, vm₁, ⟨T', L', k', n'⟩, -, X', ⟨Lc, hQ, l1, y1, z1⟩, st⟩ := X.virtualBack hx hown (mv hZ w1) (mv hZ w5) (notFace_of_selects (args := #[]) (mv hZ w6)) (mv hZ w6) (mv hZ w2) hy (backOf (W := W) hM hZ w4 w3 hf hl) qa qc (g := mkF m pc Ls (argsL.reverse ++ .ref a :: rest)) rfl hsz (Steps.refl _) (argsL := argsL) (rest := rest) hlen rfl (by simpa using hW) hd (fun _ _ => ⟨rfl, eT, hc, hs⟩)
  dsimp only [Pt.U, Pt.locs, Pt.cells, Pt.slots] at X' l1 y1 z1 hQ st
  subst l1 y1 z1
  exact Wout.tr st (hr v T' T'.heap Lc X' rfl hQ)
theorem o_callP (X : Stand p l e R s m args below meth c T locs cells slots) (hx : p.tables.exec = Jvm.exec) (hZ : Z.Warmed39 s.vm) {own C : String} {index : Nat} {y z : MethodName} {bytes : ByteArray} {maxL : Nat} {ret : Option FieldType} (hown : s.vm.findClass own = some m.cls) (w1 : (Jvm.Cond.methodLink own index y).before a0 Z = true) (w6 : (Jvm.Cond.selects z.cls z z).before a0 Z = true) (hcz : z.cls = y.cls) (w2 : (Jvm.Cond.instanceMethod y).before a0 Z = true) (w7 : (Jvm.Cond.privateMethod y).before a0 Z = true) (w3 : (Jvm.Cond.initialized y.cls).before a0 Z = true) (w4 : (Jvm.Cond.code y bytes maxL ret).before a0 Z = true)
    (hy : y.cls ≠ "java/lang/invoke/MethodHandle" ∧ y.cls ≠ "java/lang/invoke/VarHandle") {rm : Room} {as' : Array Value} {Q : Option Value → Heap → List Loc → Prop} (hM : Met l Z y bytes maxL ret [] rm as' h Q) (eT : T.heap = h) (hf : rm.frames + 1 ≤ R.frames) (W : Nat) (hl : W + (maxL + 11) + rm.locals ≤ R.locals) (hsz : Ls.size = c.maxLocals) {a : Addr} (E : Exa Z h a C) (argsL : List Value) {st : List Value} (hlen : ∀ sig, parseMethodDescriptor y.desc = some sig → argsL.length = sig.parameters.length) (hst : st = argsL.reverse ++ .ref a :: rest) (has : (.ref a :: argsL).toArray = as')
    (hW : (rest.map fun v => v.category).sum ≤ W) (hc : cells + rm.cells ≤ R.cells) (hs : slots + rm.slots ≤ R.slots) (n : Nat) (hd : decode c.code pc = .ok (.invokevirtual index, 3)) (hp : pc + 3 = n)
    (hr : ∀ v T' h' L, Stand p l e R s m args below meth c T' (locs ++ L) (cells + rm.cells) (slots + rm.slots) → T'.heap = h' → Q v h' L → Wout p e below P T' (mkF m n Ls (v.toList ++ rest))) : Wout p e below P T (mkF m pc Ls st) := by
  subst hp has hst
  obtain ⟨cell, hcell, hobj⟩ := E.cell
  have hs0 : (Jvm.Cond.selects z.cls z z).before args s = true := mv hZ w6
  obtain ⟨c2, r2, m2, -, -, q3, -, kP, hkP, hkPi⟩ := Cond.selects_spec hs0
  have hpr := Cond.privateMethod_at (mvP (args := args) hZ w7)
  have hi : (Jvm.Cond.instanceMethod y).before args s = true := mv hZ w2
  have hcl : s.vm.findClass y.cls = some m2.cls := by rw [← hcz]; exact findClass_of_methodNamed q3
  have hsel : (Jvm.Cond.selects y.cls y y).before args s = true := selects_self_of_private hcl hkP hkPi hpr hi hy
  obtain ⟨v, vm₁, ⟨T', L', k', n'⟩, -, X', ⟨Lc, hQ, l1, y1, z1⟩, st⟩ := X.privateBack hx hown (mv hZ w1) hi hsel hpr (mv hZ w4) hy (backOf (W := W) hM hZ w4 w3 hf hl) (g := mkF m pc Ls (argsL.reverse ++ .ref a :: rest)) rfl hsz (Steps.refl _) (a := a) (cell := cell) (by rw [eT]; exact hcell) hobj (argsL := argsL) (rest := rest) hlen rfl (by simpa using hW) hd (fun _ _ => ⟨rfl, eT, hc, hs⟩)
  dsimp only [Pt.U, Pt.locs, Pt.cells, Pt.slots] at X' l1 y1 z1 hQ st
  subst l1 y1 z1
  exact Wout.tr st (hr v T' T'.heap Lc X' rfl hQ)
theorem o_callU (X : Stand p l e R s m args below meth c T locs cells slots) (hx : p.tables.exec = Jvm.exec) (hZ : Z.Warmed39 s.vm) {own C owner : String} {index : Nat} {y z : MethodName} {bytes : ByteArray} {maxL : Nat} {ret : Option FieldType} (hown : s.vm.findClass own = some m.cls) (w1 : (Jvm.Cond.methodLink own index y).before a0 Z = true) (w7 : (Jvm.Cond.sameMethod y.cls owner y.name y.desc).before a0 Z = true) (w5 : (Jvm.Cond.declares ⟨owner, y.name, y.desc⟩).before a0 Z = true) (w6 : (Jvm.Cond.selects C y z).before a0 Z = true) (w2 : (Jvm.Cond.instanceMethod z).before a0 Z = true) (w3 : (Jvm.Cond.initialized z.cls).before a0 Z = true) (w4 : (Jvm.Cond.code z bytes maxL ret).before a0 Z = true)
    (hy : owner ≠ "java/lang/invoke/MethodHandle" ∧ owner ≠ "java/lang/invoke/VarHandle") {rm : Room} {as' : Array Value} {Q : Option Value → Heap → List Loc → Prop} (hM : Met l Z z bytes maxL ret [] rm as' h Q) (eT : T.heap = h) (hf : rm.frames + 1 ≤ R.frames) (W : Nat) (hl : W + (maxL + 11) + rm.locals ≤ R.locals) (hsz : Ls.size = c.maxLocals) {a : Addr} (E : Exa Z h a C) (argsL : List Value) {st : List Value} (hlen : ∀ sig, parseMethodDescriptor y.desc = some sig → argsL.length = sig.parameters.length) (hst : st = argsL.reverse ++ .ref a :: rest) (has : (.ref a :: argsL).toArray = as')
    (hW : (rest.map fun v => v.category).sum ≤ W) (hc : cells + rm.cells ≤ R.cells) (hs : slots + rm.slots ≤ R.slots) (n : Nat) (hd : decode c.code pc = .ok (.invokevirtual index, 3)) (hp : pc + 3 = n)
    (hr : ∀ v T' h' L, Stand p l e R s m args below meth c T' (locs ++ L) (cells + rm.cells) (slots + rm.slots) → T'.heap = h' → Q v h' L → Wout p e below P T' (mkF m n Ls (v.toList ++ rest))) : Wout p e below P T (mkF m pc Ls st) := by
  subst hp has hst
  obtain ⟨cq, kq, qa, qb, qc⟩ := isOf hZ eT E
  obtain ⟨v, vm₁, ⟨T', L', k', n'⟩, -, X', ⟨Lc, hQ, l1, y1, z1⟩, st⟩ := X.virtualBackUp hx hown (mv hZ w1) (mv hZ w7) (mv hZ w5) hy (mv hZ w6) (mv hZ w2) (backOf (W := W) hM hZ w4 w3 hf hl) qa qc (g := mkF m pc Ls (argsL.reverse ++ .ref a :: rest)) rfl hsz (Steps.refl _) (argsL := argsL) (rest := rest) hlen rfl (by simpa using hW) hd (fun _ _ => ⟨rfl, eT, hc, hs⟩)
  dsimp only [Pt.U, Pt.locs, Pt.cells, Pt.slots] at X' l1 y1 z1 hQ st
  subst l1 y1 z1
  exact Wout.tr st (hr v T' T'.heap Lc X' rfl hQ)
/-! returns -/
theorem o_retW (X : Stand p l e R s m args below meth c T locs cells slots) (hx : p.tables.exec = Jvm.exec) {Q : Option Value → Heap → List Loc → Prop} {C S : Nat} {w w' : Value} {t : FieldType} {i : Instr} (hlk : meth.locks = false) (hret : meth.sig.returnType = some t) (hn : Jvm.narrow t w = w)
    (hi : (i = .ireturn ∧ (t = .int ∨ t = .boolean ∨ t = .byte ∨ t = .char ∨ t = .short) ∧ ∃ z, w = .int z) ∨ (i = .lreturn ∧ t = .long ∧ ∃ z, w = .long z) ∨ (i = .dreturn ∧ t = .double ∧ ∃ z, w = .double z) ∨ (i = .freturn ∧ t = .float ∧ ∃ z, w = .float z) ∨ (i = .areturn ∧ t.isReference = true ∧ w.isRef = true))
    (hd : decode c.code pc = .ok (i, 1)) (hc : cells ≤ C) (hs : slots ≤ S) (hq : Q (some w) T.heap locs) : Wout p e below (Pst s Q C S) T (mkF m pc Ls (w :: rest)) := by
  obtain ⟨fs, hr, hrun, hended, hW, hsame⟩ := X.leave (v := some w) (fun q => by rw [hret] at q; cases q) hlk
  exact ⟨_, _, retOut X hx hret hn hi hd hr, hrun, hended, _, _, rfl, hq, ⟨_, rfl⟩, hW, hsame.mono hc hs⟩
theorem o_retI (X : Stand p l e R s m args below meth c T locs cells slots) (hx : p.tables.exec = Jvm.exec) {Q : Option Value → Heap → List Loc → Prop} {C S : Nat} {x : Int32} {t : FieldType} (hlk : meth.locks = false) (hret : meth.sig.returnType = some t) (hn : Jvm.narrow t (.int x) = .int x) (ht : t = .int ∨ t = .boolean ∨ t = .byte ∨ t = .char ∨ t = .short)
    (hd : decode c.code pc = .ok (.ireturn, 1)) (hc : cells ≤ C) (hs : slots ≤ S) (hq : Q (some (.int x)) T.heap locs) : Wout p e below (Pst s Q C S) T (mkF m pc Ls (.int x :: rest)) :=
  o_retW X hx (w' := .null) hlk hret hn (Or.inl ⟨rfl, ht, x, rfl⟩) hd hc hs hq
theorem o_retL (X : Stand p l e R s m args below meth c T locs cells slots) (hx : p.tables.exec = Jvm.exec) {Q : Option Value → Heap → List Loc → Prop} {C S : Nat} {x : Int64} (hlk : meth.locks = false) (hret : meth.sig.returnType = some .long)
    (hd : decode c.code pc = .ok (.lreturn, 1)) (hc : cells ≤ C) (hs : slots ≤ S) (hq : Q (some (.long x)) T.heap locs) : Wout p e below (Pst s Q C S) T (mkF m pc Ls (.long x :: rest)) :=
  o_retW X hx (w' := .null) hlk hret rfl (Or.inr (Or.inl ⟨rfl, rfl, x, rfl⟩)) hd hc hs hq
theorem o_retA (X : Stand p l e R s m args below meth c T locs cells slots) (hx : p.tables.exec = Jvm.exec) {Q : Option Value → Heap → List Loc → Prop} {C S : Nat} {w : Value} {t : FieldType} (hlk : meth.locks = false) (hret : meth.sig.returnType = some t) (ht : t.isReference = true) (hw : w.isRef = true) (hn : Jvm.narrow t w = w)
    (hd : decode c.code pc = .ok (.areturn, 1)) (hc : cells ≤ C) (hs : slots ≤ S) (hq : Q (some w) T.heap locs) : Wout p e below (Pst s Q C S) T (mkF m pc Ls (w :: rest)) :=
  o_retW X hx (w' := .null) hlk hret hn (Or.inr (Or.inr (Or.inr (Or.inr ⟨rfl, ht, hw⟩)))) hd hc hs hq
theorem o_retD (X : Stand p l e R s m args below meth c T locs cells slots) (hx : p.tables.exec = Jvm.exec) {Q : Option Value → Heap → List Loc → Prop} {C S : Nat} {x : UInt64} (hlk : meth.locks = false) (hret : meth.sig.returnType = some .double)
    (hd : decode c.code pc = .ok (.dreturn, 1)) (hc : cells ≤ C) (hs : slots ≤ S) (hq : Q (some (.double x)) T.heap locs) : Wout p e below (Pst s Q C S) T (mkF m pc Ls (.double x :: rest)) :=
  o_retW X hx (w' := .null) hlk hret rfl (Or.inr (Or.inr (Or.inl ⟨rfl, rfl, x, rfl⟩))) hd hc hs hq
theorem o_retV (X : Stand p l e R s m args below meth c T locs cells slots) (hx : p.tables.exec = Jvm.exec) {Q : Option Value → Heap → List Loc → Prop} {C S : Nat} (hlk : meth.locks = false) (hret : meth.sig.returnType = none)
    (hd : decode c.code pc = .ok (.return_, 1)) (hc : cells ≤ C) (hs : slots ≤ S) (hq : Q none T.heap locs) : Wout p e below (Pst s Q C S) T (mkF m pc Ls []) := by
  obtain ⟨fs, hr, hrun, hended, hW, hsame⟩ := X.leave (v := none) (fun _ => rfl) hlk
  exact ⟨_, _, X.returnOut hx hret hd hr, hrun, hended, _, _, rfl, hq, ⟨_, rfl⟩, hW, hsame.mono hc hs⟩
/-! from the sheet's words -/
theorem fld_eq {t : Term} {a : Addr} {C n d : String} {k : Int32} (ev : t.eval args Z none [] Z = some (.ref a)) (q : (Jvm.Cond.eq (.field t C n d) (.int k)).value args Z none Z [] = some true) : Fld Z Z.heap a C n d (.int k) := by
  exact Fld.start ((fld_at ev).symm.trans (eqv_i rfl q))
theorem sta_bool {C n d : String} (w1 : (Jvm.Cond.initializedFor C n d).before args Z = true) (w2 : (Jvm.Cond.isInt (.static C n d)).before args Z = true) (w3 : (Jvm.Cond.not (.eq (.static C n d) (.int 0))).before args Z = true) : ∃ x : Int32, Sta Z Z.heap C n d (.int x) ∧ ¬ x = 0 := by
  obtain ⟨x, ev⟩ := is_v (Cond.before_iff.mp w2)
  refine ⟨x, Sta.start ev (Or.inl w1), fun q => ?_⟩
  have q2 := not_v (Cond.before_iff.mp w3)
  exact gotF (Cond.eq_ints ev rfl) q2 q
/-! numbers -/
theorem mask31 (x : Int32) : 0 ≤ (x &&& 2147483647).toInt := by
  have e := Jvm.Kit.i32_mask x 2147483647 (k := 31) (by decide) (by decide)
  omega
theorem rem_pos {y n : Int32} (hy : 0 ≤ y.toInt) (hn : 0 < n.toInt) : (y % n).toInt = y.toInt % n.toInt := by
  rw [Int32.toInt_mod, Int.tmod_eq_emod_of_nonneg hy]
theorem rem_in {y n : Int32} (hy : 0 ≤ y.toInt) (hn : 0 < n.toInt) : 0 ≤ (y % n).toInt ∧ (y % n).toInt < n.toInt := by
  rw [rem_pos hy hn]
  exact ⟨Int.emod_nonneg _ (by omega), Int.emod_lt_of_pos _ hn⟩
theorem in3 {k : Int32} (h1 : 0 ≤ k.toInt) (h2 : k.toInt < 3) : k = 0 ∨ k = 1 ∨ k = 2 := by
  have : k.toInt = 0 ∨ k.toInt = 1 ∨ k.toInt = 2 := by omega
  rcases this with q | q | q
  · exact Or.inl (Int32.toInt_inj.mp q)
  · exact Or.inr (Or.inl (Int32.toInt_inj.mp q))
  · exact Or.inr (Or.inr (Int32.toInt_inj.mp q))
theorem in4 {k : Int32} (h1 : 0 ≤ k.toInt) (h2 : k.toInt < 4) : k = 0 ∨ k = 1 ∨ k = 2 ∨ k = 3 := by
  have : k.toInt = 0 ∨ k.toInt = 1 ∨ k.toInt = 2 ∨ k.toInt = 3 := by omega
  rcases this with q | q | q | q
  · exact Or.inl (Int32.toInt_inj.mp q)
  · exact Or.inr (Or.inl (Int32.toInt_inj.mp q))
  · exact Or.inr (Or.inr (Or.inl (Int32.toInt_inj.mp q)))
  · exact Or.inr (Or.inr (Or.inr (Int32.toInt_inj.mp q)))
end K
end Jvm.OwnWalk
namespace Jvm.Pilot.@@N@@
open Jvm Jvm.ClassFile Sem Op Lib Jvm.Free Jvm.Stand Jvm.LawKit Jvm.RoadKit Jvm.OwnWalk Bundle Jvm.Pilot.@@N@@.Jvm.D
theorem own_R (q : Nat) {N : Nat} {d : FP.Core.Datum} (hd : FP.Core.Whole (N : Int) d) (h1 : 2 ^ 52 * 2 ^ q ≤ N) (h2 : N < 2 ^ 53 * 2 ^ q) (hq : q ≤ 12) :
    ∃ c : Nat, FP.Core.Whole ((c * 2 ^ q : Nat) : Int) (FP.Core.round FP.Core.b64 d) ∧ 2 ^ 52 ≤ c ∧ c ≤ 2 ^ 53 ∧ 2 * N ≤ (2 * c + 1) * 2 ^ q ∧ 2 * c * 2 ^ q ≤ 2 * N + 2 ^ q := by
  have hp : 0 < 2 ^ q := Nat.two_pow_pos q
  have hN : 0 < N := Nat.lt_of_lt_of_le (Nat.mul_pos (by decide) hp) h1
  cases d with
  | nan => exact hd.elim
  | inf _ => exact hd.elim
  | fin s c0 q0 =>
    have hs : s = false := by
      rw [FP.Core.whole_sign hd (by omega)]
      exact decide_eq_false (by omega)
    subst hs
    have hq1 : FP.Core.quantum FP.Core.b64 N 1 0 = (q : Int) := by
      refine FP.Core.quantum_eq hN (by decide) ?_ ?_ (Or.inr ?_)
      · rw [FP.Core.qmin_b64]; omega
      · show N * 2 ^ (-((q : Int) - 0 + ((53 : Nat) : Int))).toNat < 1 * 2 ^ ((q : Int) - 0 + ((53 : Nat) : Int)).toNat
        rw [show (-((q : Int) - 0 + ((53 : Nat) : Int))).toNat = 0 by omega, show ((q : Int) - 0 + ((53 : Nat) : Int)).toNat = 53 + q by omega, Nat.pow_add, Nat.pow_zero, Nat.mul_one, Nat.one_mul]
        exact h2
      · show ¬ (N * 2 ^ (-((q : Int) - 0 + (((53 : Nat) : Int) - 1))).toNat < 1 * 2 ^ ((q : Int) - 0 + (((53 : Nat) : Int) - 1)).toNat)
        rw [show (-((q : Int) - 0 + (((53 : Nat) : Int) - 1))).toNat = 0 by omega, show ((q : Int) - 0 + (((53 : Nat) : Int) - 1)).toNat = 52 + q by omega, Nat.pow_add, Nat.pow_zero, Nat.mul_one, Nat.one_mul]
        exact Nat.not_lt.mpr h1
    have e1 : FP.Core.unitsNum N 0 (q : Int) = N := by
      show N * 2 ^ ((0 : Int) - (q : Int)).toNat = N
      rw [show ((0 : Int) - (q : Int)).toNat = 0 by omega, Nat.pow_zero, Nat.mul_one]
    have e2 : FP.Core.unitsDen 1 0 (q : Int) = 2 ^ q := by
      show 1 * 2 ^ ((q : Int) - 0).toNat = 2 ^ q
      rw [show ((q : Int) - 0).toNat = q by omega, Nat.one_mul]
    have hr : FP.Core.round FP.Core.b64 (.fin false c0 q0) = FP.Core.settle FP.Core.b64 false (FP.Core.nearest N (2 ^ q)) (q : Int) := by
      rw [FP.Core.round_whole hd, Int.natAbs_natCast]
      show (if N = 0 then _ else FP.Core.settle FP.Core.b64 false (FP.Core.nearest (FP.Core.unitsNum N 0 (FP.Core.quantum FP.Core.b64 N 1 0)) (FP.Core.unitsDen 1 0 (FP.Core.quantum FP.Core.b64 N 1 0))) (FP.Core.quantum FP.Core.b64 N 1 0)) = _
      rw [if_neg (by omega), hq1, e1, e2]
    obtain ⟨s1, s2, -⟩ := FP.Core.nearest_spec N (2 ^ q) hp
    have g1 := FP.Core.nearest_ge (M := 2 ^ 52) hp h1
    have g2 := FP.Core.nearest_le (M := 2 ^ 53) hp (Nat.le_of_lt h2)
    refine ⟨FP.Core.nearest N (2 ^ q), ?_, g1, g2, s1, s2⟩
    rw [hr]
    clear hr s1 s2
    generalize FP.Core.nearest N (2 ^ q) = c at g1 g2 ⊢
    have hmax : FP.Core.b64.qmax = 971 := by decide
    by_cases hc : c < 2 ^ 53
    · have e3 : FP.Core.settle FP.Core.b64 false c (q : Int) = .fin false c (q : Int) := by
        show (if c < 2 ^ 53 then (if (q : Int) ≤ FP.Core.b64.qmax then FP.Core.Datum.fin false c (q : Int) else .inf false) else _) = _
        rw [if_pos hc, if_pos (by rw [hmax]; omega)]
      rw [e3]
      show FP.Core.signed false (c * 2 ^ (q : Int).toNat) = ((c * 2 ^ q : Nat) : Int) * ((2 ^ (-(q : Int)).toNat : Nat) : Int)
      rw [show (-(q : Int)).toNat = 0 by omega, Int.toNat_natCast, Nat.pow_zero]
      exact (Int.mul_one _).symm
    · have hc2 : c = 2 ^ 53 := Nat.le_antisymm g2 (Nat.not_lt.mp hc)
      have e3 : FP.Core.settle FP.Core.b64 false c (q : Int) = .fin false (2 ^ 52) ((q : Int) + 1) := by
        show (if c < 2 ^ 53 then _ else (if (q : Int) + 1 ≤ FP.Core.b64.qmax then FP.Core.Datum.fin false FP.Core.b64.tails ((q : Int) + 1) else .inf false)) = _
        rw [if_neg hc, if_pos (by rw [hmax]; omega), FP.Core.tails_b64]
      rw [e3, hc2]
      show FP.Core.signed false (2 ^ 52 * 2 ^ ((q : Int) + 1).toNat) = ((2 ^ 53 * 2 ^ q : Nat) : Int) * ((2 ^ (-((q : Int) + 1)).toNat : Nat) : Int)
      rw [show (-((q : Int) + 1)).toNat = 0 by omega, show ((q : Int) + 1).toNat = q + 1 by omega, Nat.pow_zero]
      have e4 : 2 ^ 52 * 2 ^ (q + 1) = 2 ^ 53 * 2 ^ q := by
        rw [show 2 ^ (q + 1) = 2 ^ q * 2 from Nat.pow_succ 2 q]
        generalize 2 ^ q = x
        omega
      rw [e4]
      exact (Int.mul_one _).symm
theorem own_nn {i : Int} {x : UInt64} (h : FP.Core.DInt i x) : Jvm.Free.Fl.NoNaN64 x := Jvm.Free.Fl.val64_no.mpr fun e => by
  have h' : FP.Core.Whole i (FP.Core.val64 x) := h
  rw [e] at h'
  exact h'
theorem own_two : FP.Core.DInt 2 4611686018427387904 := by
  show FP.Core.Whole _ (FP.Core.val64 _)
  rw [show FP.Core.val64 4611686018427387904 = .fin false (2 ^ 52) (-51) from by decide +kernel]
  show FP.Core.signed false (2 ^ 52 * 2 ^ (-51 : Int).toNat) = 2 * ((2 ^ (-(-51 : Int)).toNat : Nat) : Int)
  decide
theorem own_c53 : FP.Core.DInt 9007199254740992 4845873199050653696 := by
  show FP.Core.Whole _ (FP.Core.val64 _)
  rw [show FP.Core.val64 4845873199050653696 = .fin false (2 ^ 52) 1 from by decide +kernel]
  show FP.Core.signed false (2 ^ 52 * 2 ^ (1 : Int).toNat) = 9007199254740992 * ((2 ^ (-(1 : Int)).toNat : Nat) : Int)
  decide
theorem own_c63 : FP.Core.DInt 9223372036854775808 4890909195324358656 := by
  show FP.Core.Whole _ (FP.Core.val64 _)
  rw [show FP.Core.val64 4890909195324358656 = .fin false (2 ^ 52) 11 from by decide +kernel]
  show FP.Core.signed false (2 ^ 52 * 2 ^ (11 : Int).toNat) = 9223372036854775808 * ((2 ^ (-(11 : Int)).toNat : Nat) : Int)
  decide
theorem own_c64 : FP.Core.DInt 18446744073709551616 4895412794951729152 := by
  show FP.Core.Whole _ (FP.Core.val64 _)
  rw [show FP.Core.val64 4895412794951729152 = .fin false (2 ^ 52) 12 from by decide +kernel]
  show FP.Core.signed false (2 ^ 52 * 2 ^ (12 : Int).toNat) = 18446744073709551616 * ((2 ^ (-(12 : Int)).toNat : Nat) : Int)
  decide
theorem own_fix1 {c t : Nat} (ht : t < 2) (g1 : 4503599627370496 ≤ c) (g2 : c ≤ 9007199254740992) {d : FP.Core.Datum} (hd : FP.Core.Whole ((c * 4 + t : Nat) : Int) d) : FP.Core.Whole ((c * 4 : Nat) : Int) (FP.Core.round FP.Core.b64 d) := by
  by_cases hc : c < 9007199254740992
  · obtain ⟨c', v1, e1, e2, e3, e4⟩ := own_R 2 hd (by omega) (by omega) (by decide)
    have e : c' * 2 ^ 2 = c * 4 := by omega
    rw [e] at v1
    exact v1
  · obtain ⟨c', v1, e1, e2, e3, e4⟩ := own_R 3 hd (by omega) (by omega) (by decide)
    have e : c' * 2 ^ 3 = c * 4 := by omega
    rw [e] at v1
    exact v1
theorem own_big1 {H b : Nat} (hb : b < 2) (h1 : 9007199254740992 ≤ H) (h2 : H < 18014398509481984) {x y z w : UInt64} (hx : FP.Core.val64 x = FP.Core.round FP.Core.b64 (FP.Core.ofInt (H : Int))) (hy : FP.Core.val64 y = FP.Core.round FP.Core.b64 (FP.Core.exactProduct (FP.Core.val64 x) (FP.Core.val64 4611686018427387904))) (hz : FP.Core.DInt (b : Int) z) (hw : FP.Core.val64 w = FP.Core.round FP.Core.b64 (FP.Core.exactSum (FP.Core.val64 y) (FP.Core.val64 z))) :
    ∃ c : Nat, 4503599627370496 ≤ c ∧ c ≤ 9007199254740992 ∧ FP.Core.DInt ((c * 4 : Nat) : Int) w ∧ FP.Core.DInt ((c * 4 : Nat) : Int) y ∧ 2 * H ≤ (2 * c + 1) * 2 ∧ 2 * c * 2 ≤ 2 * H + 2 := by
  obtain ⟨c, w1, g1, g2, g3, g4⟩ := own_R 1 (N := H) (FP.Core.whole_ofInt (H : Int)) (by omega) (by omega) (by decide)
  rw [← hx] at w1
  have w2 := FP.Core.whole_product w1 (show FP.Core.Whole 2 (FP.Core.val64 4611686018427387904) from own_two)
  have e2 : ((c * 2 ^ 1 : Nat) : Int) * 2 = ((c * 4 + 0 : Nat) : Int) := by omega
  rw [e2] at w2
  have hy1 : FP.Core.DInt ((c * 4 : Nat) : Int) y := by
    show FP.Core.Whole _ (FP.Core.val64 y)
    rw [hy]
    exact own_fix1 (t := 0) (by decide) (by omega) (by omega) w2
  have w3 := FP.Core.whole_sum (show FP.Core.Whole _ (FP.Core.val64 y) from hy1) (show FP.Core.Whole _ (FP.Core.val64 z) from hz)
  have e3 : ((c * 4 : Nat) : Int) + (b : Int) = ((c * 4 + b : Nat) : Int) := by omega
  rw [e3] at w3
  refine ⟨c, by omega, by omega, ?_, hy1, by omega, by omega⟩
  show FP.Core.Whole _ (FP.Core.val64 w)
  rw [hw]
  exact own_fix1 hb (by omega) (by omega) w3
theorem own_fix2 {c t : Nat} (ht : t < 2) (g1 : 4503599627370496 ≤ c) (g2 : c ≤ 9007199254740992) {d : FP.Core.Datum} (hd : FP.Core.Whole ((c * 8 + t : Nat) : Int) d) : FP.Core.Whole ((c * 8 : Nat) : Int) (FP.Core.round FP.Core.b64 d) := by
  by_cases hc : c < 9007199254740992
  · obtain ⟨c', v1, e1, e2, e3, e4⟩ := own_R 3 hd (by omega) (by omega) (by decide)
    have e : c' * 2 ^ 3 = c * 8 := by omega
    rw [e] at v1
    exact v1
  · obtain ⟨c', v1, e1, e2, e3, e4⟩ := own_R 4 hd (by omega) (by omega) (by decide)
    have e : c' * 2 ^ 4 = c * 8 := by omega
    rw [e] at v1
    exact v1
theorem own_big2 {H b : Nat} (hb : b < 2) (h1 : 18014398509481984 ≤ H) (h2 : H < 36028797018963968) {x y z w : UInt64} (hx : FP.Core.val64 x = FP.Core.round FP.Core.b64 (FP.Core.ofInt (H : Int))) (hy : FP.Core.val64 y = FP.Core.round FP.Core.b64 (FP.Core.exactProduct (FP.Core.val64 x) (FP.Core.val64 4611686018427387904))) (hz : FP.Core.DInt (b : Int) z) (hw : FP.Core.val64 w = FP.Core.round FP.Core.b64 (FP.Core.exactSum (FP.Core.val64 y) (FP.Core.val64 z))) :
    ∃ c : Nat, 4503599627370496 ≤ c ∧ c ≤ 9007199254740992 ∧ FP.Core.DInt ((c * 8 : Nat) : Int) w ∧ FP.Core.DInt ((c * 8 : Nat) : Int) y ∧ 2 * H ≤ (2 * c + 1) * 4 ∧ 2 * c * 4 ≤ 2 * H + 4 := by
  obtain ⟨c, w1, g1, g2, g3, g4⟩ := own_R 2 (N := H) (FP.Core.whole_ofInt (H : Int)) (by omega) (by omega) (by decide)
  rw [← hx] at w1
  have w2 := FP.Core.whole_product w1 (show FP.Core.Whole 2 (FP.Core.val64 4611686018427387904) from own_two)
  have e2 : ((c * 2 ^ 2 : Nat) : Int) * 2 = ((c * 8 + 0 : Nat) : Int) := by omega
  rw [e2] at w2
  have hy1 : FP.Core.DInt ((c * 8 : Nat) : Int) y := by
    show FP.Core.Whole _ (FP.Core.val64 y)
    rw [hy]
    exact own_fix2 (t := 0) (by decide) (by omega) (by omega) w2
  have w3 := FP.Core.whole_sum (show FP.Core.Whole _ (FP.Core.val64 y) from hy1) (show FP.Core.Whole _ (FP.Core.val64 z) from hz)
  have e3 : ((c * 8 : Nat) : Int) + (b : Int) = ((c * 8 + b : Nat) : Int) := by omega
  rw [e3] at w3
  refine ⟨c, by omega, by omega, ?_, hy1, by omega, by omega⟩
  show FP.Core.Whole _ (FP.Core.val64 w)
  rw [hw]
  exact own_fix2 hb (by omega) (by omega) w3
theorem own_fix3 {c t : Nat} (ht : t < 2) (g1 : 4503599627370496 ≤ c) (g2 : c ≤ 9007199254740992) {d : FP.Core.Datum} (hd : FP.Core.Whole ((c * 16 + t : Nat) : Int) d) : FP.Core.Whole ((c * 16 : Nat) : Int) (FP.Core.round FP.Core.b64 d) := by
  by_cases hc : c < 9007199254740992
  · obtain ⟨c', v1, e1, e2, e3, e4⟩ := own_R 4 hd (by omega) (by omega) (by decide)
    have e : c' * 2 ^ 4 = c * 16 := by omega
    rw [e] at v1
    exact v1
  · obtain ⟨c', v1, e1, e2, e3, e4⟩ := own_R 5 hd (by omega) (by omega) (by decide)
    have e : c' * 2 ^ 5 = c * 16 := by omega
    rw [e] at v1
    exact v1
theorem own_big3 {H b : Nat} (hb : b < 2) (h1 : 36028797018963968 ≤ H) (h2 : H < 72057594037927936) {x y z w : UInt64} (hx : FP.Core.val64 x = FP.Core.round FP.Core.b64 (FP.Core.ofInt (H : Int))) (hy : FP.Core.val64 y = FP.Core.round FP.Core.b64 (FP.Core.exactProduct (FP.Core.val64 x) (FP.Core.val64 4611686018427387904))) (hz : FP.Core.DInt (b : Int) z) (hw : FP.Core.val64 w = FP.Core.round FP.Core.b64 (FP.Core.exactSum (FP.Core.val64 y) (FP.Core.val64 z))) :
    ∃ c : Nat, 4503599627370496 ≤ c ∧ c ≤ 9007199254740992 ∧ FP.Core.DInt ((c * 16 : Nat) : Int) w ∧ FP.Core.DInt ((c * 16 : Nat) : Int) y ∧ 2 * H ≤ (2 * c + 1) * 8 ∧ 2 * c * 8 ≤ 2 * H + 8 := by
  obtain ⟨c, w1, g1, g2, g3, g4⟩ := own_R 3 (N := H) (FP.Core.whole_ofInt (H : Int)) (by omega) (by omega) (by decide)
  rw [← hx] at w1
  have w2 := FP.Core.whole_product w1 (show FP.Core.Whole 2 (FP.Core.val64 4611686018427387904) from own_two)
  have e2 : ((c * 2 ^ 3 : Nat) : Int) * 2 = ((c * 16 + 0 : Nat) : Int) := by omega
  rw [e2] at w2
  have hy1 : FP.Core.DInt ((c * 16 : Nat) : Int) y := by
    show FP.Core.Whole _ (FP.Core.val64 y)
    rw [hy]
    exact own_fix3 (t := 0) (by decide) (by omega) (by omega) w2
  have w3 := FP.Core.whole_sum (show FP.Core.Whole _ (FP.Core.val64 y) from hy1) (show FP.Core.Whole _ (FP.Core.val64 z) from hz)
  have e3 : ((c * 16 : Nat) : Int) + (b : Int) = ((c * 16 + b : Nat) : Int) := by omega
  rw [e3] at w3
  refine ⟨c, by omega, by omega, ?_, hy1, by omega, by omega⟩
  show FP.Core.Whole _ (FP.Core.val64 w)
  rw [hw]
  exact own_fix3 hb (by omega) (by omega) w3
theorem own_fix4 {c t : Nat} (ht : t < 2) (g1 : 4503599627370496 ≤ c) (g2 : c ≤ 9007199254740992) {d : FP.Core.Datum} (hd : FP.Core.Whole ((c * 32 + t : Nat) : Int) d) : FP.Core.Whole ((c * 32 : Nat) : Int) (FP.Core.round FP.Core.b64 d) := by
  by_cases hc : c < 9007199254740992
  · obtain ⟨c', v1, e1, e2, e3, e4⟩ := own_R 5 hd (by omega) (by omega) (by decide)
    have e : c' * 2 ^ 5 = c * 32 := by omega
    rw [e] at v1
    exact v1
  · obtain ⟨c', v1, e1, e2, e3, e4⟩ := own_R 6 hd (by omega) (by omega) (by decide)
    have e : c' * 2 ^ 6 = c * 32 := by omega
    rw [e] at v1
    exact v1
theorem own_big4 {H b : Nat} (hb : b < 2) (h1 : 72057594037927936 ≤ H) (h2 : H < 144115188075855872) {x y z w : UInt64} (hx : FP.Core.val64 x = FP.Core.round FP.Core.b64 (FP.Core.ofInt (H : Int))) (hy : FP.Core.val64 y = FP.Core.round FP.Core.b64 (FP.Core.exactProduct (FP.Core.val64 x) (FP.Core.val64 4611686018427387904))) (hz : FP.Core.DInt (b : Int) z) (hw : FP.Core.val64 w = FP.Core.round FP.Core.b64 (FP.Core.exactSum (FP.Core.val64 y) (FP.Core.val64 z))) :
    ∃ c : Nat, 4503599627370496 ≤ c ∧ c ≤ 9007199254740992 ∧ FP.Core.DInt ((c * 32 : Nat) : Int) w ∧ FP.Core.DInt ((c * 32 : Nat) : Int) y ∧ 2 * H ≤ (2 * c + 1) * 16 ∧ 2 * c * 16 ≤ 2 * H + 16 := by
  obtain ⟨c, w1, g1, g2, g3, g4⟩ := own_R 4 (N := H) (FP.Core.whole_ofInt (H : Int)) (by omega) (by omega) (by decide)
  rw [← hx] at w1
  have w2 := FP.Core.whole_product w1 (show FP.Core.Whole 2 (FP.Core.val64 4611686018427387904) from own_two)
  have e2 : ((c * 2 ^ 4 : Nat) : Int) * 2 = ((c * 32 + 0 : Nat) : Int) := by omega
  rw [e2] at w2
  have hy1 : FP.Core.DInt ((c * 32 : Nat) : Int) y := by
    show FP.Core.Whole _ (FP.Core.val64 y)
    rw [hy]
    exact own_fix4 (t := 0) (by decide) (by omega) (by omega) w2
  have w3 := FP.Core.whole_sum (show FP.Core.Whole _ (FP.Core.val64 y) from hy1) (show FP.Core.Whole _ (FP.Core.val64 z) from hz)
  have e3 : ((c * 32 : Nat) : Int) + (b : Int) = ((c * 32 + b : Nat) : Int) := by omega
  rw [e3] at w3
  refine ⟨c, by omega, by omega, ?_, hy1, by omega, by omega⟩
  show FP.Core.Whole _ (FP.Core.val64 w)
  rw [hw]
  exact own_fix4 hb (by omega) (by omega) w3
theorem own_fix5 {c t : Nat} (ht : t < 2) (g1 : 4503599627370496 ≤ c) (g2 : c ≤ 9007199254740992) {d : FP.Core.Datum} (hd : FP.Core.Whole ((c * 64 + t : Nat) : Int) d) : FP.Core.Whole ((c * 64 : Nat) : Int) (FP.Core.round FP.Core.b64 d) := by
  by_cases hc : c < 9007199254740992
  · obtain ⟨c', v1, e1, e2, e3, e4⟩ := own_R 6 hd (by omega) (by omega) (by decide)
    have e : c' * 2 ^ 6 = c * 64 := by omega
    rw [e] at v1
    exact v1
  · obtain ⟨c', v1, e1, e2, e3, e4⟩ := own_R 7 hd (by omega) (by omega) (by decide)
    have e : c' * 2 ^ 7 = c * 64 := by omega
    rw [e] at v1
    exact v1
theorem own_big5 {H b : Nat} (hb : b < 2) (h1 : 144115188075855872 ≤ H) (h2 : H < 288230376151711744) {x y z w : UInt64} (hx : FP.Core.val64 x = FP.Core.round FP.Core.b64 (FP.Core.ofInt (H : Int))) (hy : FP.Core.val64 y = FP.Core.round FP.Core.b64 (FP.Core.exactProduct (FP.Core.val64 x) (FP.Core.val64 4611686018427387904))) (hz : FP.Core.DInt (b : Int) z) (hw : FP.Core.val64 w = FP.Core.round FP.Core.b64 (FP.Core.exactSum (FP.Core.val64 y) (FP.Core.val64 z))) :
    ∃ c : Nat, 4503599627370496 ≤ c ∧ c ≤ 9007199254740992 ∧ FP.Core.DInt ((c * 64 : Nat) : Int) w ∧ FP.Core.DInt ((c * 64 : Nat) : Int) y ∧ 2 * H ≤ (2 * c + 1) * 32 ∧ 2 * c * 32 ≤ 2 * H + 32 := by
  obtain ⟨c, w1, g1, g2, g3, g4⟩ := own_R 5 (N := H) (FP.Core.whole_ofInt (H : Int)) (by omega) (by omega) (by decide)
  rw [← hx] at w1
  have w2 := FP.Core.whole_product w1 (show FP.Core.Whole 2 (FP.Core.val64 4611686018427387904) from own_two)
  have e2 : ((c * 2 ^ 5 : Nat) : Int) * 2 = ((c * 64 + 0 : Nat) : Int) := by omega
  rw [e2] at w2
  have hy1 : FP.Core.DInt ((c * 64 : Nat) : Int) y := by
    show FP.Core.Whole _ (FP.Core.val64 y)
    rw [hy]
    exact own_fix5 (t := 0) (by decide) (by omega) (by omega) w2
  have w3 := FP.Core.whole_sum (show FP.Core.Whole _ (FP.Core.val64 y) from hy1) (show FP.Core.Whole _ (FP.Core.val64 z) from hz)
  have e3 : ((c * 64 : Nat) : Int) + (b : Int) = ((c * 64 + b : Nat) : Int) := by omega
  rw [e3] at w3
  refine ⟨c, by omega, by omega, ?_, hy1, by omega, by omega⟩
  show FP.Core.Whole _ (FP.Core.val64 w)
  rw [hw]
  exact own_fix5 hb (by omega) (by omega) w3
theorem own_fix6 {c t : Nat} (ht : t < 2) (g1 : 4503599627370496 ≤ c) (g2 : c ≤ 9007199254740992) {d : FP.Core.Datum} (hd : FP.Core.Whole ((c * 128 + t : Nat) : Int) d) : FP.Core.Whole ((c * 128 : Nat) : Int) (FP.Core.round FP.Core.b64 d) := by
  by_cases hc : c < 9007199254740992
  · obtain ⟨c', v1, e1, e2, e3, e4⟩ := own_R 7 hd (by omega) (by omega) (by decide)
    have e : c' * 2 ^ 7 = c * 128 := by omega
    rw [e] at v1
    exact v1
  · obtain ⟨c', v1, e1, e2, e3, e4⟩ := own_R 8 hd (by omega) (by omega) (by decide)
    have e : c' * 2 ^ 8 = c * 128 := by omega
    rw [e] at v1
    exact v1
theorem own_big6 {H b : Nat} (hb : b < 2) (h1 : 288230376151711744 ≤ H) (h2 : H < 576460752303423488) {x y z w : UInt64} (hx : FP.Core.val64 x = FP.Core.round FP.Core.b64 (FP.Core.ofInt (H : Int))) (hy : FP.Core.val64 y = FP.Core.round FP.Core.b64 (FP.Core.exactProduct (FP.Core.val64 x) (FP.Core.val64 4611686018427387904))) (hz : FP.Core.DInt (b : Int) z) (hw : FP.Core.val64 w = FP.Core.round FP.Core.b64 (FP.Core.exactSum (FP.Core.val64 y) (FP.Core.val64 z))) :
    ∃ c : Nat, 4503599627370496 ≤ c ∧ c ≤ 9007199254740992 ∧ FP.Core.DInt ((c * 128 : Nat) : Int) w ∧ FP.Core.DInt ((c * 128 : Nat) : Int) y ∧ 2 * H ≤ (2 * c + 1) * 64 ∧ 2 * c * 64 ≤ 2 * H + 64 := by
  obtain ⟨c, w1, g1, g2, g3, g4⟩ := own_R 6 (N := H) (FP.Core.whole_ofInt (H : Int)) (by omega) (by omega) (by decide)
  rw [← hx] at w1
  have w2 := FP.Core.whole_product w1 (show FP.Core.Whole 2 (FP.Core.val64 4611686018427387904) from own_two)
  have e2 : ((c * 2 ^ 6 : Nat) : Int) * 2 = ((c * 128 + 0 : Nat) : Int) := by omega
  rw [e2] at w2
  have hy1 : FP.Core.DInt ((c * 128 : Nat) : Int) y := by
    show FP.Core.Whole _ (FP.Core.val64 y)
    rw [hy]
    exact own_fix6 (t := 0) (by decide) (by omega) (by omega) w2
  have w3 := FP.Core.whole_sum (show FP.Core.Whole _ (FP.Core.val64 y) from hy1) (show FP.Core.Whole _ (FP.Core.val64 z) from hz)
  have e3 : ((c * 128 : Nat) : Int) + (b : Int) = ((c * 128 + b : Nat) : Int) := by omega
  rw [e3] at w3
  refine ⟨c, by omega, by omega, ?_, hy1, by omega, by omega⟩
  show FP.Core.Whole _ (FP.Core.val64 w)
  rw [hw]
  exact own_fix6 hb (by omega) (by omega) w3
theorem own_fix7 {c t : Nat} (ht : t < 2) (g1 : 4503599627370496 ≤ c) (g2 : c ≤ 9007199254740992) {d : FP.Core.Datum} (hd : FP.Core.Whole ((c * 256 + t : Nat) : Int) d) : FP.Core.Whole ((c * 256 : Nat) : Int) (FP.Core.round FP.Core.b64 d) := by
  by_cases hc : c < 9007199254740992
  · obtain ⟨c', v1, e1, e2, e3, e4⟩ := own_R 8 hd (by omega) (by omega) (by decide)
    have e : c' * 2 ^ 8 = c * 256 := by omega
    rw [e] at v1
    exact v1
  · obtain ⟨c', v1, e1, e2, e3, e4⟩ := own_R 9 hd (by omega) (by omega) (by decide)
    have e : c' * 2 ^ 9 = c * 256 := by omega
    rw [e] at v1
    exact v1
theorem own_big7 {H b : Nat} (hb : b < 2) (h1 : 576460752303423488 ≤ H) (h2 : H < 1152921504606846976) {x y z w : UInt64} (hx : FP.Core.val64 x = FP.Core.round FP.Core.b64 (FP.Core.ofInt (H : Int))) (hy : FP.Core.val64 y = FP.Core.round FP.Core.b64 (FP.Core.exactProduct (FP.Core.val64 x) (FP.Core.val64 4611686018427387904))) (hz : FP.Core.DInt (b : Int) z) (hw : FP.Core.val64 w = FP.Core.round FP.Core.b64 (FP.Core.exactSum (FP.Core.val64 y) (FP.Core.val64 z))) :
    ∃ c : Nat, 4503599627370496 ≤ c ∧ c ≤ 9007199254740992 ∧ FP.Core.DInt ((c * 256 : Nat) : Int) w ∧ FP.Core.DInt ((c * 256 : Nat) : Int) y ∧ 2 * H ≤ (2 * c + 1) * 128 ∧ 2 * c * 128 ≤ 2 * H + 128 := by
  obtain ⟨c, w1, g1, g2, g3, g4⟩ := own_R 7 (N := H) (FP.Core.whole_ofInt (H : Int)) (by omega) (by omega) (by decide)
  rw [← hx] at w1
  have w2 := FP.Core.whole_product w1 (show FP.Core.Whole 2 (FP.Core.val64 4611686018427387904) from own_two)
  have e2 : ((c * 2 ^ 7 : Nat) : Int) * 2 = ((c * 256 + 0 : Nat) : Int) := by omega
  rw [e2] at w2
  have hy1 : FP.Core.DInt ((c * 256 : Nat) : Int) y := by
    show FP.Core.Whole _ (FP.Core.val64 y)
    rw [hy]
    exact own_fix7 (t := 0) (by decide) (by omega) (by omega) w2
  have w3 := FP.Core.whole_sum (show FP.Core.Whole _ (FP.Core.val64 y) from hy1) (show FP.Core.Whole _ (FP.Core.val64 z) from hz)
  have e3 : ((c * 256 : Nat) : Int) + (b : Int) = ((c * 256 + b : Nat) : Int) := by omega
  rw [e3] at w3
  refine ⟨c, by omega, by omega, ?_, hy1, by omega, by omega⟩
  show FP.Core.Whole _ (FP.Core.val64 w)
  rw [hw]
  exact own_fix7 hb (by omega) (by omega) w3
theorem own_fix8 {c t : Nat} (ht : t < 2) (g1 : 4503599627370496 ≤ c) (g2 : c ≤ 9007199254740992) {d : FP.Core.Datum} (hd : FP.Core.Whole ((c * 512 + t : Nat) : Int) d) : FP.Core.Whole ((c * 512 : Nat) : Int) (FP.Core.round FP.Core.b64 d) := by
  by_cases hc : c < 9007199254740992
  · obtain ⟨c', v1, e1, e2, e3, e4⟩ := own_R 9 hd (by omega) (by omega) (by decide)
    have e : c' * 2 ^ 9 = c * 512 := by omega
    rw [e] at v1
    exact v1
  · obtain ⟨c', v1, e1, e2, e3, e4⟩ := own_R 10 hd (by omega) (by omega) (by decide)
    have e : c' * 2 ^ 10 = c * 512 := by omega
    rw [e] at v1
    exact v1
theorem own_big8 {H b : Nat} (hb : b < 2) (h1 : 1152921504606846976 ≤ H) (h2 : H < 2305843009213693952) {x y z w : UInt64} (hx : FP.Core.val64 x = FP.Core.round FP.Core.b64 (FP.Core.ofInt (H : Int))) (hy : FP.Core.val64 y = FP.Core.round FP.Core.b64 (FP.Core.exactProduct (FP.Core.val64 x) (FP.Core.val64 4611686018427387904))) (hz : FP.Core.DInt (b : Int) z) (hw : FP.Core.val64 w = FP.Core.round FP.Core.b64 (FP.Core.exactSum (FP.Core.val64 y) (FP.Core.val64 z))) :
    ∃ c : Nat, 4503599627370496 ≤ c ∧ c ≤ 9007199254740992 ∧ FP.Core.DInt ((c * 512 : Nat) : Int) w ∧ FP.Core.DInt ((c * 512 : Nat) : Int) y ∧ 2 * H ≤ (2 * c + 1) * 256 ∧ 2 * c * 256 ≤ 2 * H + 256 := by
  obtain ⟨c, w1, g1, g2, g3, g4⟩ := own_R 8 (N := H) (FP.Core.whole_ofInt (H : Int)) (by omega) (by omega) (by decide)
  rw [← hx] at w1
  have w2 := FP.Core.whole_product w1 (show FP.Core.Whole 2 (FP.Core.val64 4611686018427387904) from own_two)
  have e2 : ((c * 2 ^ 8 : Nat) : Int) * 2 = ((c * 512 + 0 : Nat) : Int) := by omega
  rw [e2] at w2
  have hy1 : FP.Core.DInt ((c * 512 : Nat) : Int) y := by
    show FP.Core.Whole _ (FP.Core.val64 y)
    rw [hy]
    exact own_fix8 (t := 0) (by decide) (by omega) (by omega) w2
  have w3 := FP.Core.whole_sum (show FP.Core.Whole _ (FP.Core.val64 y) from hy1) (show FP.Core.Whole _ (FP.Core.val64 z) from hz)
  have e3 : ((c * 512 : Nat) : Int) + (b : Int) = ((c * 512 + b : Nat) : Int) := by omega
  rw [e3] at w3
  refine ⟨c, by omega, by omega, ?_, hy1, by omega, by omega⟩
  show FP.Core.Whole _ (FP.Core.val64 w)
  rw [hw]
  exact own_fix8 hb (by omega) (by omega) w3
theorem own_fix9 {c t : Nat} (ht : t < 2) (g1 : 4503599627370496 ≤ c) (g2 : c ≤ 9007199254740992) {d : FP.Core.Datum} (hd : FP.Core.Whole ((c * 1024 + t : Nat) : Int) d) : FP.Core.Whole ((c * 1024 : Nat) : Int) (FP.Core.round FP.Core.b64 d) := by
  by_cases hc : c < 9007199254740992
  · obtain ⟨c', v1, e1, e2, e3, e4⟩ := own_R 10 hd (by omega) (by omega) (by decide)
    have e : c' * 2 ^ 10 = c * 1024 := by omega
    rw [e] at v1
    exact v1
  · obtain ⟨c', v1, e1, e2, e3, e4⟩ := own_R 11 hd (by omega) (by omega) (by decide)
    have e : c' * 2 ^ 11 = c * 1024 := by omega
    rw [e] at v1
    exact v1
theorem own_big9 {H b : Nat} (hb : b < 2) (h1 : 2305843009213693952 ≤ H) (h2 : H < 4611686018427387904) {x y z w : UInt64} (hx : FP.Core.val64 x = FP.Core.round FP.Core.b64 (FP.Core.ofInt (H : Int))) (hy : FP.Core.val64 y = FP.Core.round FP.Core.b64 (FP.Core.exactProduct (FP.Core.val64 x) (FP.Core.val64 4611686018427387904))) (hz : FP.Core.DInt (b : Int) z) (hw : FP.Core.val64 w = FP.Core.round FP.Core.b64 (FP.Core.exactSum (FP.Core.val64 y) (FP.Core.val64 z))) :
    ∃ c : Nat, 4503599627370496 ≤ c ∧ c ≤ 9007199254740992 ∧ FP.Core.DInt ((c * 1024 : Nat) : Int) w ∧ FP.Core.DInt ((c * 1024 : Nat) : Int) y ∧ 2 * H ≤ (2 * c + 1) * 512 ∧ 2 * c * 512 ≤ 2 * H + 512 := by
  obtain ⟨c, w1, g1, g2, g3, g4⟩ := own_R 9 (N := H) (FP.Core.whole_ofInt (H : Int)) (by omega) (by omega) (by decide)
  rw [← hx] at w1
  have w2 := FP.Core.whole_product w1 (show FP.Core.Whole 2 (FP.Core.val64 4611686018427387904) from own_two)
  have e2 : ((c * 2 ^ 9 : Nat) : Int) * 2 = ((c * 1024 + 0 : Nat) : Int) := by omega
  rw [e2] at w2
  have hy1 : FP.Core.DInt ((c * 1024 : Nat) : Int) y := by
    show FP.Core.Whole _ (FP.Core.val64 y)
    rw [hy]
    exact own_fix9 (t := 0) (by decide) (by omega) (by omega) w2
  have w3 := FP.Core.whole_sum (show FP.Core.Whole _ (FP.Core.val64 y) from hy1) (show FP.Core.Whole _ (FP.Core.val64 z) from hz)
  have e3 : ((c * 1024 : Nat) : Int) + (b : Int) = ((c * 1024 + b : Nat) : Int) := by omega
  rw [e3] at w3
  refine ⟨c, by omega, by omega, ?_, hy1, by omega, by omega⟩
  show FP.Core.Whole _ (FP.Core.val64 w)
  rw [hw]
  exact own_fix9 hb (by omega) (by omega) w3
theorem own_fix10 {c t : Nat} (ht : t < 2) (g1 : 4503599627370496 ≤ c) (g2 : c ≤ 9007199254740992) {d : FP.Core.Datum} (hd : FP.Core.Whole ((c * 2048 + t : Nat) : Int) d) : FP.Core.Whole ((c * 2048 : Nat) : Int) (FP.Core.round FP.Core.b64 d) := by
  by_cases hc : c < 9007199254740992
  · obtain ⟨c', v1, e1, e2, e3, e4⟩ := own_R 11 hd (by omega) (by omega) (by decide)
    have e : c' * 2 ^ 11 = c * 2048 := by omega
    rw [e] at v1
    exact v1
  · obtain ⟨c', v1, e1, e2, e3, e4⟩ := own_R 12 hd (by omega) (by omega) (by decide)
    have e : c' * 2 ^ 12 = c * 2048 := by omega
    rw [e] at v1
    exact v1
theorem own_big10 {H b : Nat} (hb : b < 2) (h1 : 4611686018427387904 ≤ H) (h2 : H < 9223372036854775808) {x y z w : UInt64} (hx : FP.Core.val64 x = FP.Core.round FP.Core.b64 (FP.Core.ofInt (H : Int))) (hy : FP.Core.val64 y = FP.Core.round FP.Core.b64 (FP.Core.exactProduct (FP.Core.val64 x) (FP.Core.val64 4611686018427387904))) (hz : FP.Core.DInt (b : Int) z) (hw : FP.Core.val64 w = FP.Core.round FP.Core.b64 (FP.Core.exactSum (FP.Core.val64 y) (FP.Core.val64 z))) :
    ∃ c : Nat, 4503599627370496 ≤ c ∧ c ≤ 9007199254740992 ∧ FP.Core.DInt ((c * 2048 : Nat) : Int) w ∧ FP.Core.DInt ((c * 2048 : Nat) : Int) y ∧ 2 * H ≤ (2 * c + 1) * 1024 ∧ 2 * c * 1024 ≤ 2 * H + 1024 := by
  obtain ⟨c, w1, g1, g2, g3, g4⟩ := own_R 10 (N := H) (FP.Core.whole_ofInt (H : Int)) (by omega) (by omega) (by decide)
  rw [← hx] at w1
  have w2 := FP.Core.whole_product w1 (show FP.Core.Whole 2 (FP.Core.val64 4611686018427387904) from own_two)
  have e2 : ((c * 2 ^ 10 : Nat) : Int) * 2 = ((c * 2048 + 0 : Nat) : Int) := by omega
  rw [e2] at w2
  have hy1 : FP.Core.DInt ((c * 2048 : Nat) : Int) y := by
    show FP.Core.Whole _ (FP.Core.val64 y)
    rw [hy]
    exact own_fix10 (t := 0) (by decide) (by omega) (by omega) w2
  have w3 := FP.Core.whole_sum (show FP.Core.Whole _ (FP.Core.val64 y) from hy1) (show FP.Core.Whole _ (FP.Core.val64 z) from hz)
  have e3 : ((c * 2048 : Nat) : Int) + (b : Int) = ((c * 2048 + b : Nat) : Int) := by omega
  rw [e3] at w3
  refine ⟨c, by omega, by omega, ?_, hy1, by omega, by omega⟩
  show FP.Core.Whole _ (FP.Core.val64 w)
  rw [hw]
  exact own_fix10 hb (by omega) (by omega) w3
theorem own_mid {H b : Nat} (hb : b < 2) (h1 : 4503599627370496 ≤ H) (h2 : H < 9007199254740992) {x y z w : UInt64} (hx : FP.Core.DInt (H : Int) x) (hy : FP.Core.val64 y = FP.Core.round FP.Core.b64 (FP.Core.exactProduct (FP.Core.val64 x) (FP.Core.val64 4611686018427387904))) (hz : FP.Core.DInt (b : Int) z) (hw : FP.Core.val64 w = FP.Core.round FP.Core.b64 (FP.Core.exactSum (FP.Core.val64 y) (FP.Core.val64 z))) :
    ∃ c : Nat, 4503599627370496 ≤ c ∧ c ≤ 9007199254740992 ∧ FP.Core.DInt ((c * 2 : Nat) : Int) w ∧ FP.Core.DInt ((H * 2 : Nat) : Int) y ∧ H * 2 + b ≤ c * 2 + 1 ∧ c * 2 ≤ H * 2 + b + 1 := by
  have w2 := FP.Core.whole_product (show FP.Core.Whole _ (FP.Core.val64 x) from hx) (show FP.Core.Whole 2 (FP.Core.val64 4611686018427387904) from own_two)
  have e2 : (H : Int) * 2 = ((H * 2 : Nat) : Int) := by omega
  rw [e2] at w2
  have hy1 : FP.Core.DInt ((H * 2 : Nat) : Int) y := by
    show FP.Core.Whole _ (FP.Core.val64 y)
    rw [hy]
    obtain ⟨c', v1, e1, e2, e3, e4⟩ := own_R 1 w2 (by omega) (by omega) (by decide)
    have e : c' * 2 ^ 1 = H * 2 := by omega
    rw [e] at v1
    exact v1
  have w3 := FP.Core.whole_sum (show FP.Core.Whole _ (FP.Core.val64 y) from hy1) (show FP.Core.Whole _ (FP.Core.val64 z) from hz)
  have e3 : ((H * 2 : Nat) : Int) + (b : Int) = ((H * 2 + b : Nat) : Int) := by omega
  rw [e3] at w3
  obtain ⟨c, v1, g1, g2, g3, g4⟩ := own_R 1 w3 (by omega) (by omega) (by decide)
  refine ⟨c, by omega, by omega, ?_, hy1, by omega, by omega⟩
  show FP.Core.Whole _ (FP.Core.val64 w)
  rw [hw]
  have e : c * 2 ^ 1 = c * 2 := by omega
  rw [e] at v1
  exact v1
theorem own_sub {N : Nat} (h0 : N % 2048 = 0) (h1 : N ≤ 9223372036854775808) {d : FP.Core.Datum} (hd : FP.Core.Whole (N : Int) d) : FP.Core.Whole (N : Int) (FP.Core.round FP.Core.b64 d) := by
  by_cases c0 : N ≤ 9007199254740992
  · exact FP.Core.whole_round FP.Core.good_b64 FP.Core.wide_b64 (show (N : Int).natAbs ≤ 2 ^ 53 by omega) hd
  by_cases c1 : N < 18014398509481984
  · obtain ⟨c', v1, e1, e2, e3, e4⟩ := own_R 1 hd (by omega) (by omega) (by decide)
    have e : c' * 2 ^ 1 = N := by omega
    rw [e] at v1
    exact v1
  by_cases c2 : N < 36028797018963968
  · obtain ⟨c', v1, e1, e2, e3, e4⟩ := own_R 2 hd (by omega) (by omega) (by decide)
    have e : c' * 2 ^ 2 = N := by omega
    rw [e] at v1
    exact v1
  by_cases c3 : N < 72057594037927936
  · obtain ⟨c', v1, e1, e2, e3, e4⟩ := own_R 3 hd (by omega) (by omega) (by decide)
    have e : c' * 2 ^ 3 = N := by omega
    rw [e] at v1
    exact v1
  by_cases c4 : N < 144115188075855872
  · obtain ⟨c', v1, e1, e2, e3, e4⟩ := own_R 4 hd (by omega) (by omega) (by decide)
    have e : c' * 2 ^ 4 = N := by omega
    rw [e] at v1
    exact v1
  by_cases c5 : N < 288230376151711744
  · obtain ⟨c', v1, e1, e2, e3, e4⟩ := own_R 5 hd (by omega) (by omega) (by decide)
    have e : c' * 2 ^ 5 = N := by omega
    rw [e] at v1
    exact v1
  by_cases c6 : N < 576460752303423488
  · obtain ⟨c', v1, e1, e2, e3, e4⟩ := own_R 6 hd (by omega) (by omega) (by decide)
    have e : c' * 2 ^ 6 = N := by omega
    rw [e] at v1
    exact v1
  by_cases c7 : N < 1152921504606846976
  · obtain ⟨c', v1, e1, e2, e3, e4⟩ := own_R 7 hd (by omega) (by omega) (by decide)
    have e : c' * 2 ^ 7 = N := by omega
    rw [e] at v1
    exact v1
  by_cases c8 : N < 2305843009213693952
  · obtain ⟨c', v1, e1, e2, e3, e4⟩ := own_R 8 hd (by omega) (by omega) (by decide)
    have e : c' * 2 ^ 8 = N := by omega
    rw [e] at v1
    exact v1
  by_cases c9 : N < 4611686018427387904
  · obtain ⟨c', v1, e1, e2, e3, e4⟩ := own_R 9 hd (by omega) (by omega) (by decide)
    have e : c' * 2 ^ 9 = N := by omega
    rw [e] at v1
    exact v1
  by_cases c10 : N < 9223372036854775808
  · obtain ⟨c', v1, e1, e2, e3, e4⟩ := own_R 10 hd (by omega) (by omega) (by decide)
    have e : c' * 2 ^ 10 = N := by omega
    rw [e] at v1
    exact v1
  by_cases c11 : N < 18446744073709551616
  · obtain ⟨c', v1, e1, e2, e3, e4⟩ := own_R 11 hd (by omega) (by omega) (by decide)
    have e : c' * 2 ^ 11 = N := by omega
    rw [e] at v1
    exact v1
  exact absurd h1 (by omega)
theorem own_dsub {R : Nat} (h1 : 9223372036854775808 ≤ R) (h2 : R ≤ 18446744073709551616) (h3 : R % 2048 = 0) {x : UInt64} (hx : FP.Core.DInt (R : Int) x) : FP.Core.DInt ((R - 9223372036854775808 : Nat) : Int) (FP.dsub x 4890909195324358656) := by
  show FP.Core.Whole _ (FP.Core.val64 (FP.Core.dsub x 4890909195324358656))
  rw [FP.Core.val64_dsub]
  have w := FP.Core.whole_sum (show FP.Core.Whole _ (FP.Core.val64 x) from hx) (FP.Core.whole_negate (show FP.Core.Whole _ (FP.Core.val64 4890909195324358656) from own_c63))
  have e : (R : Int) + -9223372036854775808 = ((R - 9223372036854775808 : Nat) : Int) := by omega
  rw [e] at w
  exact own_sub (by omega) (by omega) w
theorem own_d2l {i : Int} {x : UInt64} (h : FP.Core.DInt i x) : FP.d2l x = .ofInt (max (-2 ^ 63) (min (2 ^ 63 - 1) i)) := by
  have h' : FP.Core.Whole i (FP.Core.val64 x) := h
  show Int64.ofInt (FP.Core.toInt (-2 ^ 63) (2 ^ 63 - 1) (FP.Core.val64 x)) = _
  generalize FP.Core.val64 x = d at h' ⊢
  cases d with
  | nan => exact h'.elim
  | inf _ => exact h'.elim
  | fin s c q =>
    show Int64.ofInt (max (-2 ^ 63) (min (2 ^ 63 - 1) (FP.Core.truncate s c q))) = _
    rw [FP.Core.truncate_whole h']
theorem own_d2lN {R : Nat} {x : UInt64} (h : FP.Core.DInt (R : Int) x) : (FP.d2l x).toInt = if R < 9223372036854775808 then (R : Int) else 9223372036854775807 := by
  rw [own_d2l h, Int64.toInt_ofInt_of_le (by omega) (by omega)]
  split <;> omega
def own_cmp (i j : Int) : Int32 := if i < j then -1 else if i = j then 0 else 1
theorem own_dc {i j : Int} {x y : UInt64} (hx : FP.Core.DInt i x) (hy : FP.Core.DInt j y) (o : CmpOp) : cmpValue (FP.dcmp x y) o = own_cmp i j := by
  rw [show FP.dcmp x y = some (compare i j) from FP.Core.dcmp_int hx hy]
  unfold own_cmp
  simp only [compare, compareOfLessAndEq]
  by_cases h1 : i < j
  · simp [h1, cmpValue]
  · by_cases h2 : i = j
    · simp [h2, cmpValue]
    · simp [h1, h2, cmpValue]
theorem own_ge {i j : Int} (h : j ≤ i) : ¬ own_cmp i j < 0 := by
  unfold own_cmp
  rw [if_neg (by omega)]
  split <;> decide
theorem own_le {i j : Int} (h : i ≤ j) : ¬ 0 < own_cmp i j := by
  unfold own_cmp
  by_cases h1 : i < j
  · rw [if_pos h1]; decide
  · rw [if_neg h1, if_pos (by omega)]; decide
theorem own_eq {i j : Int} (h : i = j) : own_cmp i j = 0 := by
  unfold own_cmp
  rw [if_neg (by omega), if_pos h]
def own_abs (x : Int64) : Int64 := if x < 0 then -x else x
theorem own_ab {x k : Int64} (h1 : -k.toInt ≤ x.toInt) (h2 : x.toInt ≤ k.toInt) : ¬ k < own_abs x := by
  intro q
  have q2 := Int64.lt_iff_toInt_lt.mp q
  unfold own_abs at q2
  by_cases h : x < 0
  · rw [if_pos h] at q2
    have hk := k.toInt_lt
    rw [Jvm.Kit.i64_neg (by omega)] at q2
    omega
  · rw [if_neg h] at q2
    omega
theorem own_sh (x : Int64) (y : Int32) (n : Nat) (h : (y.toInt64.toUInt64 &&& Int64.toUInt64 63).toBitVec.toNat % 64 = n) : (XT.ushrL x y).toBitVec = x.toBitVec >>> n := by
  subst h
  simp [XT.ushrL, UInt64.toBitVec_shiftRight]
theorem own_us1 (v : Int64) : (XT.ushrL v (1 : Int32)).toInt = ((v.toBitVec.toNat / 2 : Nat) : Int) := by
  have e : (XT.ushrL v (1 : Int32)).toInt = ((XT.ushrL v (1 : Int32)).toBitVec).toInt := rfl
  have hl := v.toBitVec.isLt
  rw [e, own_sh v 1 1 (by decide), BitVec.toInt_eq_toNat_cond, BitVec.toNat_ushiftRight, Nat.shiftRight_eq_div_pow, if_pos (by omega)]
theorem own_us53 (v : Int64) : (XT.ushrL v (53 : Int32)).toInt = ((v.toBitVec.toNat / 9007199254740992 : Nat) : Int) := by
  have e : (XT.ushrL v (53 : Int32)).toInt = ((XT.ushrL v (53 : Int32)).toBitVec).toInt := rfl
  have hl := v.toBitVec.isLt
  rw [e, own_sh v 53 53 (by decide), BitVec.toInt_eq_toNat_cond, BitVec.toNat_ushiftRight, Nat.shiftRight_eq_div_pow, if_pos (by omega)]
theorem own_pos {v : Int64} (h : ¬ v < 0) : v.toInt = (v.toBitVec.toNat : Int) ∧ v.toBitVec.toNat < 9223372036854775808 := by
  have e : v.toInt = v.toBitVec.toInt := rfl
  rw [BitVec.toInt_eq_toNat_cond] at e
  have hl := v.toBitVec.isLt
  have g : (0 : Int64).toInt = 0 := rfl
  have h' : ¬ v.toInt < (0 : Int64).toInt := fun q => h (Int64.lt_iff_toInt_lt.mpr q)
  split at e <;> omega
theorem own_neg {v : Int64} (h : v < 0) : v.toInt = (v.toBitVec.toNat : Int) - 18446744073709551616 ∧ 9223372036854775808 ≤ v.toBitVec.toNat := by
  have e : v.toInt = v.toBitVec.toInt := rfl
  rw [BitVec.toInt_eq_toNat_cond] at e
  have hl := v.toBitVec.isLt
  have g : (0 : Int64).toInt = 0 := rfl
  have h' := Int64.lt_iff_toInt_lt.mp h
  split at e <;> omega
theorem own_bit (v : Int64) : (v &&& (1 : Int64)).toInt = ((v.toBitVec.toNat % 2 : Nat) : Int) := by
  have e := Jvm.Kit.i64_mask v 1 (k := 1) (by decide) (by decide)
  by_cases h : v < 0
  · have := own_neg h; omega
  · have := own_pos h; omega
theorem own_xor {n : Nat} (h1 : 9223372036854775808 ≤ n) (h2 : n < 18446744073709551616) : n ^^^ 9223372036854775808 = n - 9223372036854775808 := by
  obtain ⟨y, rfl⟩ : ∃ y, n = 2 ^ 63 + y := ⟨n - 2 ^ 63, by omega⟩
  have hy : y < 2 ^ 63 := by omega
  have e : 2 ^ 63 + y - 9223372036854775808 = y := by omega
  rw [e, show (9223372036854775808 : Nat) = 2 ^ 63 by decide]
  apply Nat.eq_of_testBit_eq
  intro j
  rw [Nat.testBit_xor, Nat.testBit_two_pow]
  by_cases hj : j < 63
  · rw [Nat.testBit_two_pow_add_gt hj, decide_eq_false (by omega)]
    simp
  · by_cases hj2 : j = 63
    · subst hj2
      rw [Nat.testBit_two_pow_add_eq]
      simp
    · have p1 : 2 ^ 64 ≤ 2 ^ j := Nat.pow_le_pow_right (by decide) (by omega)
      rw [Nat.testBit_lt_two_pow (x := 2 ^ 63 + y) (by omega), Nat.testBit_lt_two_pow (x := y) (by omega), decide_eq_false (by omega)]
      rfl
theorem own_t {v : Int64} (h : v < 0) : (v ^^^ (-9223372036854775808 : Int64)).toInt = ((v.toBitVec.toNat - 9223372036854775808 : Nat) : Int) := by
  have hn := own_neg h
  have hl := v.toBitVec.isLt
  have e : (v ^^^ (-9223372036854775808 : Int64)).toInt = ((v ^^^ (-9223372036854775808 : Int64)).toBitVec).toInt := rfl
  have en : ((v ^^^ (-9223372036854775808 : Int64)).toBitVec).toNat = v.toBitVec.toNat - 9223372036854775808 := by
    rw [Int64.toBitVec_xor, BitVec.toNat_xor, show ((-9223372036854775808 : Int64).toBitVec).toNat = 9223372036854775808 by decide]
    exact own_xor hn.2 (by omega)
  rw [e, BitVec.toInt_eq_toNat_cond, en, if_pos (by omega)]
def own_m (v : Int64) : UInt64 := FP.dmul (FP.l2d (XT.ushrL v (1 : Int32))) (4611686018427387904 : UInt64)
def own_r (v : Int64) : UInt64 := FP.dadd (FP.dmul (FP.l2d (XT.ushrL v (1 : Int32))) (4611686018427387904 : UInt64)) (FP.l2d (v &&& (1 : Int64)))
def own_P (V R : Nat) : Prop := (V < 9007199254740992 → R = V) ∧ (9007199254740992 ≤ V → V < 9223372036854775808 → 9007199254740992 ≤ R ∧ R ≤ 9223372036854775808 ∧ R ≤ V + V / 9007199254740992 + 1 ∧ V ≤ R + V / 9007199254740992 + 1) ∧ (9223372036854775808 ≤ V → 9223372036854775808 ≤ R ∧ R ≤ 18446744073709551616 ∧ R ≤ V + 1025 ∧ V ≤ R + 1025 ∧ R % 2048 = 0)
set_option maxRecDepth 100000 in
theorem own_main (v : Int64) : Jvm.Free.Fl.NoNaN64 (own_m v) ∧ Jvm.Free.Fl.NoNaN64 (own_r v) ∧ ∃ R : Nat, FP.Core.DInt (R : Int) (own_r v) ∧ own_P v.toBitVec.toNat R := by
  have hl := v.toBitVec.isLt
  have hH := own_us1 v
  have hB := own_bit v
  have hx : FP.Core.val64 (FP.l2d (XT.ushrL v (1 : Int32))) = FP.Core.round FP.Core.b64 (FP.Core.ofInt ((v.toBitVec.toNat / 2 : Nat) : Int)) := by
    have q := FP.Core.val64_l2d (XT.ushrL v (1 : Int32))
    rw [hH] at q
    exact q
  have hz : FP.Core.DInt ((v.toBitVec.toNat % 2 : Nat) : Int) (FP.l2d (v &&& (1 : Int64))) := by
    have q := FP.Core.l2d_int (a := v &&& (1 : Int64)) (by rw [hB]; omega)
    rw [hB] at q
    exact q
  have hy : FP.Core.val64 (own_m v) = _ := FP.Core.val64_dmul (FP.l2d (XT.ushrL v (1 : Int32))) 4611686018427387904
  have hw : FP.Core.val64 (own_r v) = _ := FP.Core.val64_dadd (own_m v) (FP.l2d (v &&& (1 : Int64)))
  have hxs : v.toBitVec.toNat / 2 ≤ 9007199254740992 → FP.Core.DInt ((v.toBitVec.toNat / 2 : Nat) : Int) (FP.l2d (XT.ushrL v (1 : Int32))) := fun q => by
    have q := FP.Core.l2d_int (a := XT.ushrL v (1 : Int32)) (by rw [hH]; omega)
    rw [hH] at q
    exact q
  have hm : ∀ (i j : Int), FP.Core.DInt i (own_m v) → FP.Core.DInt j (own_r v) → Jvm.Free.Fl.NoNaN64 (own_m v) ∧ Jvm.Free.Fl.NoNaN64 (own_r v) := fun i j h1 h2 => ⟨own_nn h1, own_nn h2⟩
  have hb : v.toBitVec.toNat % 2 < 2 := Nat.mod_lt _ (by decide)
  have hV : v.toBitVec.toNat = v.toBitVec.toNat / 2 * 2 + v.toBitVec.toNat % 2 := by omega
  generalize FP.l2d (XT.ushrL v (1 : Int32)) = x at *
  generalize FP.l2d (v &&& (1 : Int64)) = z at *
  generalize own_m v = y at *
  generalize own_r v = w at *
  generalize v.toBitVec.toNat = V at *
  clear hH hB
  by_cases c0 : V < 9007199254740992
  · have d1 := hxs (by omega)
    have w2 : FP.Core.DInt (((V / 2 : Nat) : Int) * 2) y := by
      show FP.Core.Whole _ (FP.Core.val64 y)
      rw [hy]
      exact FP.Core.whole_round FP.Core.good_b64 FP.Core.wide_b64 (show _ ≤ 2 ^ 53 by omega) (FP.Core.whole_product (show FP.Core.Whole _ (FP.Core.val64 x) from d1) (show FP.Core.Whole 2 (FP.Core.val64 4611686018427387904) from own_two))
    have w3 : FP.Core.DInt (((V / 2 : Nat) : Int) * 2 + ((V % 2 : Nat) : Int)) w := by
      show FP.Core.Whole _ (FP.Core.val64 w)
      rw [hw]
      exact FP.Core.whole_round FP.Core.good_b64 FP.Core.wide_b64 (show _ ≤ 2 ^ 53 by omega) (FP.Core.whole_sum (show FP.Core.Whole _ (FP.Core.val64 y) from w2) (show FP.Core.Whole _ (FP.Core.val64 z) from hz))
    have e : ((V / 2 : Nat) : Int) * 2 + ((V % 2 : Nat) : Int) = (V : Int) := by omega
    rw [e] at w3
    exact ⟨(hm _ _ w2 w3).1, (hm _ _ w2 w3).2, V, w3, fun _ => rfl, fun q => absurd c0 (by omega), fun q => absurd c0 (by omega)⟩
  by_cases c1 : V < 18014398509481984
  · obtain ⟨c, g1, g2, w3, w2, g3, g4⟩ := own_mid hb (by omega) (by omega) (hxs (by omega)) hy hz hw
    refine ⟨(hm _ _ w2 w3).1, (hm _ _ w2 w3).2, c * 2, w3, fun q => absurd q (by omega), fun _ _ => ?_, fun q => absurd q (by omega)⟩
    refine ⟨by omega, by omega, by omega, by omega⟩
  by_cases k1 : V / 2 < 18014398509481984
  · obtain ⟨c, g1, g2, w3, w2, g3, g4⟩ := own_big1 hb (by omega) (by omega) hx hy hz hw
    refine ⟨(hm _ _ w2 w3).1, (hm _ _ w2 w3).2, c * 4, w3, fun q => absurd q (by omega), fun q1 q2 => ?_, fun q => ?_⟩
    · refine ⟨by omega, by omega, by omega, by omega⟩
    · exact absurd q (by omega)
  by_cases k2 : V / 2 < 36028797018963968
  · obtain ⟨c, g1, g2, w3, w2, g3, g4⟩ := own_big2 hb (by omega) (by omega) hx hy hz hw
    refine ⟨(hm _ _ w2 w3).1, (hm _ _ w2 w3).2, c * 8, w3, fun q => absurd q (by omega), fun q1 q2 => ?_, fun q => ?_⟩
    · refine ⟨by omega, by omega, by omega, by omega⟩
    · exact absurd q (by omega)
  by_cases k3 : V / 2 < 72057594037927936
  · obtain ⟨c, g1, g2, w3, w2, g3, g4⟩ := own_big3 hb (by omega) (by omega) hx hy hz hw
    refine ⟨(hm _ _ w2 w3).1, (hm _ _ w2 w3).2, c * 16, w3, fun q => absurd q (by omega), fun q1 q2 => ?_, fun q => ?_⟩
    · refine ⟨by omega, by omega, by omega, by omega⟩
    · exact absurd q (by omega)
  by_cases k4 : V / 2 < 144115188075855872
  · obtain ⟨c, g1, g2, w3, w2, g3, g4⟩ := own_big4 hb (by omega) (by omega) hx hy hz hw
    refine ⟨(hm _ _ w2 w3).1, (hm _ _ w2 w3).2, c * 32, w3, fun q => absurd q (by omega), fun q1 q2 => ?_, fun q => ?_⟩
    · refine ⟨by omega, by omega, by omega, by omega⟩
    · exact absurd q (by omega)
  by_cases k5 : V / 2 < 288230376151711744
  · obtain ⟨c, g1, g2, w3, w2, g3, g4⟩ := own_big5 hb (by omega) (by omega) hx hy hz hw
    refine ⟨(hm _ _ w2 w3).1, (hm _ _ w2 w3).2, c * 64, w3, fun q => absurd q (by omega), fun q1 q2 => ?_, fun q => ?_⟩
    · refine ⟨by omega, by omega, by omega, by omega⟩
    · exact absurd q (by omega)
  by_cases k6 : V / 2 < 576460752303423488
  · obtain ⟨c, g1, g2, w3, w2, g3, g4⟩ := own_big6 hb (by omega) (by omega) hx hy hz hw
    refine ⟨(hm _ _ w2 w3).1, (hm _ _ w2 w3).2, c * 128, w3, fun q => absurd q (by omega), fun q1 q2 => ?_, fun q => ?_⟩
    · refine ⟨by omega, by omega, by omega, by omega⟩
    · exact absurd q (by omega)
  by_cases k7 : V / 2 < 1152921504606846976
  · obtain ⟨c, g1, g2, w3, w2, g3, g4⟩ := own_big7 hb (by omega) (by omega) hx hy hz hw
    refine ⟨(hm _ _ w2 w3).1, (hm _ _ w2 w3).2, c * 256, w3, fun q => absurd q (by omega), fun q1 q2 => ?_, fun q => ?_⟩
    · refine ⟨by omega, by omega, by omega, by omega⟩
    · exact absurd q (by omega)
  by_cases k8 : V / 2 < 2305843009213693952
  · obtain ⟨c, g1, g2, w3, w2, g3, g4⟩ := own_big8 hb (by omega) (by omega) hx hy hz hw
    refine ⟨(hm _ _ w2 w3).1, (hm _ _ w2 w3).2, c * 512, w3, fun q => absurd q (by omega), fun q1 q2 => ?_, fun q => ?_⟩
    · refine ⟨by omega, by omega, by omega, by omega⟩
    · exact absurd q (by omega)
  by_cases k9 : V / 2 < 4611686018427387904
  · obtain ⟨c, g1, g2, w3, w2, g3, g4⟩ := own_big9 hb (by omega) (by omega) hx hy hz hw
    refine ⟨(hm _ _ w2 w3).1, (hm _ _ w2 w3).2, c * 1024, w3, fun q => absurd q (by omega), fun q1 q2 => ?_, fun q => ?_⟩
    · refine ⟨by omega, by omega, by omega, by omega⟩
    · exact absurd q (by omega)
  obtain ⟨c, g1, g2, w3, w2, g3, g4⟩ := own_big10 hb (by omega) (by omega) hx hy hz hw
  refine ⟨(hm _ _ w2 w3).1, (hm _ _ w2 w3).2, c * 2048, w3, fun q => absurd q (by omega), fun q1 q2 => ?_, fun q => ?_⟩
  · exact absurd q2 (by omega)
  · refine ⟨by omega, by omega, by omega, by omega, by omega⟩
theorem own_near {v : Int64} {R : Nat} (h : own_P v.toBitVec.toNat R) (q0 : ¬ v < 0) (q1 : ¬ v < (9007199254740992 : Int64)) {x : UInt64} (hR : FP.Core.DInt (R : Int) x) : ¬ (XT.ushrL v (53 : Int32)) + (1 : Int64) < own_abs (FP.d2l x - v) := by
  have hv := own_pos q0
  have g : (9007199254740992 : Int64).toInt = 9007199254740992 := rfl
  have h1 : ¬ v.toInt < (9007199254740992 : Int64).toInt := fun q => q1 (Int64.lt_iff_toInt_lt.mpr q)
  have hg := own_d2lN hR
  have hu := own_us53 v
  obtain ⟨-, h2, -⟩ := h
  have h3 := h2 (by omega) hv.2
  have hd : (FP.d2l x - v).toInt = (FP.d2l x).toInt - v.toInt := Jvm.Kit.i64_sub (by split at hg <;> omega) (by split at hg <;> omega)
  have g1 : (1 : Int64).toInt = 1 := rfl
  have hs : ((XT.ushrL v (53 : Int32)) + (1 : Int64)).toInt = (XT.ushrL v (53 : Int32)).toInt + (1 : Int64).toInt := Jvm.Kit.i64_add (by omega) (by omega)
  refine own_ab ?_ ?_
  · split at hg <;> omega
  · split at hg <;> omega
theorem own_far {v : Int64} {R : Nat} (h : own_P v.toBitVec.toNat R) (q0 : v < 0) {x : UInt64} (hR : FP.Core.DInt ((R - 9223372036854775808 : Nat) : Int) x) : ¬ (1025 : Int64) < own_abs (FP.d2l x - (v ^^^ (-9223372036854775808 : Int64))) := by
  have hv := own_neg q0
  have hl := v.toBitVec.isLt
  have ht := own_t q0
  have hg := own_d2lN hR
  obtain ⟨-, -, h2⟩ := h
  have h3 := h2 hv.2
  have hd : (FP.d2l x - (v ^^^ (-9223372036854775808 : Int64))).toInt = (FP.d2l x).toInt - (v ^^^ (-9223372036854775808 : Int64)).toInt := Jvm.Kit.i64_sub (by split at hg <;> omega) (by split at hg <;> omega)
  have g1 : (1025 : Int64).toInt = 1025 := rfl
  refine own_ab ?_ ?_
  · split at hg <;> omega
  · split at hg <;> omega
theorem own_small {v : Int64} {R : Nat} (h : own_P v.toBitVec.toNat R) (q0 : ¬ v < 0) (q1 : v < (9007199254740992 : Int64)) : FP.Core.DInt (v.toInt) (FP.l2d v) ∧ (R : Int) = v.toInt := by
  have hv := own_pos q0
  have g : (9007199254740992 : Int64).toInt = 9007199254740992 := rfl
  have h1 := Int64.lt_iff_toInt_lt.mp q1
  have h2 := h.1 (by omega)
  exact ⟨FP.Core.l2d_int (by omega), by omega⟩
theorem own_in {v : Int64} {R : Nat} (h : own_P v.toBitVec.toNat R) (q0 : ¬ v < 0) (q1 : ¬ v < (9007199254740992 : Int64)) : (9007199254740992 : Int) ≤ (R : Int) ∧ (R : Int) ≤ (9223372036854775808 : Int) := by
  have hv := own_pos q0
  have g : (9007199254740992 : Int64).toInt = 9007199254740992 := rfl
  have h1 : ¬ v.toInt < (9007199254740992 : Int64).toInt := fun q => q1 (Int64.lt_iff_toInt_lt.mpr q)
  have h3 := h.2.1 (by omega) hv.2
  omega
theorem own_in2 {v : Int64} {R : Nat} (h : own_P v.toBitVec.toNat R) (q0 : v < 0) : 9223372036854775808 ≤ R ∧ R ≤ 18446744073709551616 ∧ R % 2048 = 0 := by
  have h3 := h.2.2 (own_neg q0).2
  exact ⟨h3.1, h3.2.1, h3.2.2.2.2⟩
theorem d_prog_29_method_7_0 : decode prog_29_method_7_code 0 = .ok (.lload_n 0, 1) := by decide +kernel
theorem d_prog_29_method_7_1 : decode prog_29_method_7_code 1 = .ok (.iconst 1, 1) := by decide +kernel
theorem d_prog_29_method_7_2 : decode prog_29_method_7_code 2 = .ok (.lushr, 1) := by decide +kernel
theorem d_prog_29_method_7_3 : decode prog_29_method_7_code 3 = .ok (.l2d, 1) := by decide +kernel
theorem d_prog_29_method_7_4 : decode prog_29_method_7_code 4 = .ok (.ldc2_w 75, 3) := by decide +kernel
theorem d_prog_29_method_7_7 : decode prog_29_method_7_code 7 = .ok (.dmul, 1) := by decide +kernel
theorem d_prog_29_method_7_8 : decode prog_29_method_7_code 8 = .ok (.lload_n 0, 1) := by decide +kernel
theorem d_prog_29_method_7_9 : decode prog_29_method_7_code 9 = .ok (.lconst 1, 1) := by decide +kernel
theorem d_prog_29_method_7_10 : decode prog_29_method_7_code 10 = .ok (.land, 1) := by decide +kernel
theorem d_prog_29_method_7_11 : decode prog_29_method_7_code 11 = .ok (.l2d, 1) := by decide +kernel
theorem d_prog_29_method_7_12 : decode prog_29_method_7_code 12 = .ok (.dadd, 1) := by decide +kernel
theorem d_prog_29_method_7_13 : decode prog_29_method_7_code 13 = .ok (.dreturn, 1) := by decide +kernel
theorem pn_0 : plainName "com/example/spillway/spillway/DurationSum" = true := by first | (simp [plainName, overriddenIn]; done) | decide +kernel
def Q_ud (Z : State) (vv : Int64) (h0 : Heap) (n0 : Nat) (v : Option Value) (h : Heap) (L : List Loc) : Prop := v = some (.double (own_r vv)) ∧ Fr n0 L ∧ h = h0
set_option maxRecDepth 65536 in
set_option maxHeartbeats 40000000 in
theorem rm_ud (l : Launch) (Z : State) (a0 : Array Value) (hw : ∀ d ∈ tables_1, d.before a0 Z = true) (ws : List Jvm.Cond) (vv : Int64) (h0 : Heap) (n0 : Nat) (Z0 : n0 ≤ h0.size) (n1 : Jvm.Free.Fl.NoNaN64 (own_m vv)) (n2 : Jvm.Free.Fl.NoNaN64 (own_r vv)) :
    Met l Z (⟨"com/example/spillway/spillway/DurationSum", "unsignedDouble", "(J)D"⟩ : MethodName) prog_29_method_7_code 2 (some .double) ws ({ frames := 0, cells := 0, slots := 0, locals := 0 } : Room) #[(.long vv)] h0 (Q_ud Z vv h0 n0) := by
  refine Met.start (plainFor_of_name pn_0) ?_
  intro p e s m below meth c T X hx hby hml hown hnm hret hlk hZ eT
  have N := Fr.nil n0
  refine Wout.cast (g' := (mkF m 0 #[.val (.long vv), .second] [])) (by first | (simp [entryFrame, mkF, argsToLocals, Value.category]; done) | rfl) ?_
  refine o_lloadN X hx 1 (hb hby d_prog_29_method_7_0) rfl rfl ?_
  refine o_iconst X hx 2 (1 : Int32) (hb hby d_prog_29_method_7_1) rfl rfl ?_
  refine o_lushr X hx 3 (hb hby d_prog_29_method_7_2) rfl ?_
  refine o_l2d X hx 4 (FP.l2d (XT.ushrL vv (1 : Int32))) (hb hby d_prog_29_method_7_3) rfl rfl ?_
  refine o_ldc2D X hx hZ 7 hown (hw _ (List.mem_of_getElem? (i := 7) rfl)) (hb hby d_prog_29_method_7_4) rfl ?_
  refine o_dmul X hx 8 (FP.dmul (FP.l2d (XT.ushrL vv (1 : Int32))) (4611686018427387904 : UInt64)) (hb hby d_prog_29_method_7_7) n1 rfl rfl ?_
  refine o_lloadN X hx 9 (hb hby d_prog_29_method_7_8) rfl rfl ?_
  refine o_lconst X hx 10 (1 : Int64) (hb hby d_prog_29_method_7_9) rfl rfl ?_
  refine o_land X hx 11 (hb hby d_prog_29_method_7_10) rfl ?_
  refine o_l2d X hx 12 (FP.l2d (vv &&& (1 : Int64))) (hb hby d_prog_29_method_7_11) rfl rfl ?_
  refine o_dadd X hx 13 (FP.dadd (FP.dmul (FP.l2d (XT.ushrL vv (1 : Int32))) (4611686018427387904 : UInt64)) (FP.l2d (vv &&& (1 : Int64)))) (hb hby d_prog_29_method_7_12) n2 rfl rfl ?_
  exact o_retD X hx hlk hret (hb hby d_prog_29_method_7_13) (by decide) (by decide) (by rw [eT]; exact ⟨rfl, N, rfl⟩)
theorem d_jdk_29_method_61_0 : decode jdk_29_method_61_code 0 = .ok (.lload_n 0, 1) := by decide +kernel
theorem d_jdk_29_method_61_1 : decode jdk_29_method_61_code 1 = .ok (.lconst 0, 1) := by decide +kernel
theorem d_jdk_29_method_61_2 : decode jdk_29_method_61_code 2 = .ok (.lcmp, 1) := by decide +kernel
theorem d_jdk_29_method_61_3 : decode jdk_29_method_61_code 3 = .ok (.ifCond .ge 8, 3) := by decide +kernel
theorem d_jdk_29_method_61_6 : decode jdk_29_method_61_code 6 = .ok (.lload_n 0, 1) := by decide +kernel
theorem d_jdk_29_method_61_7 : decode jdk_29_method_61_code 7 = .ok (.lneg, 1) := by decide +kernel
theorem d_jdk_29_method_61_8 : decode jdk_29_method_61_code 8 = .ok (.goto 4, 3) := by decide +kernel
theorem d_jdk_29_method_61_11 : decode jdk_29_method_61_code 11 = .ok (.lload_n 0, 1) := by decide +kernel
theorem d_jdk_29_method_61_12 : decode jdk_29_method_61_code 12 = .ok (.lreturn, 1) := by decide +kernel
def Q_abs (Z : State) (y : Int64) (h0 : Heap) (n0 : Nat) (v : Option Value) (h : Heap) (L : List Loc) : Prop := v = some (.long (own_abs y)) ∧ Fr n0 L ∧ h = h0
set_option maxRecDepth 65536 in
set_option maxHeartbeats 40000000 in
theorem rm_abs (l : Launch) (Z : State) (a0 : Array Value) (hw : ∀ d ∈ tables_1, d.before a0 Z = true) (ws : List Jvm.Cond) (y : Int64) (h0 : Heap) (n0 : Nat) (Z0 : n0 ≤ h0.size)  :
    Met l Z (⟨"java/lang/Math", "abs", "(J)J"⟩ : MethodName) jdk_29_method_61_code 2 (some .long) ws ({ frames := 0, cells := 0, slots := 0, locals := 0 } : Room) #[(.long y)] h0 (Q_abs Z y h0 n0) := by
  refine Met.start (Jvm.Free.JP.mathPlain rfl (by decide +kernel)) ?_
  intro p e s m below meth c T X hx hby hml hown hnm hret hlk hZ eT
  have N := Fr.nil n0
  refine Wout.cast (g' := (mkF m 0 #[.val (.long y), .second] [])) (by first | (simp [entryFrame, mkF, argsToLocals, Value.category]; done) | rfl) ?_
  refine o_lloadN X hx 1 (hb hby d_jdk_29_method_61_0) rfl rfl ?_
  refine o_lconst X hx 2 (0 : Int64) (hb hby d_jdk_29_method_61_1) rfl rfl ?_
  refine o_lcmp X hx 3 (hb hby d_jdk_29_method_61_2) rfl ?_
  refine o_ifL X hx 11 6 (hb hby d_jdk_29_method_61_3) rfl rfl (fun (q : ¬ y < (0 : Int64)) => ?_) (fun (q : y < (0 : Int64)) => ?_)
  · show Wout p e below _ T (mkF m 11 #[.val (.long y), .second] [])
    refine o_lloadN X hx 12 (hb hby d_jdk_29_method_61_11) rfl rfl ?_
    exact o_retL X hx hlk hret (hb hby d_jdk_29_method_61_12) (by decide) (by decide) (by rw [eT]; exact ⟨by rw [own_abs, if_neg q], N, rfl⟩)
  · show Wout p e below _ T (mkF m 6 #[.val (.long y), .second] [])
    refine o_lloadN X hx 7 (hb hby d_jdk_29_method_61_6) rfl rfl ?_
    refine o_lneg X hx 8 (hb hby d_jdk_29_method_61_7) rfl ?_
    refine o_goto X hx 12 (hb hby d_jdk_29_method_61_8) rfl ?_
    exact o_retL X hx hlk hret (hb hby d_jdk_29_method_61_12) (by decide) (by decide) (by rw [eT]; exact ⟨by rw [own_abs, if_pos q], N, rfl⟩)
theorem pn_1 : plainName "com/example/spillway/spillway/DurationSumUnsignedDoublePinLaw" = true := by first | (simp [plainName, overriddenIn]; done) | decide +kernel
theorem pd_0 : parseMethodDescriptor "(J)D" = some ⟨[.long], some .double⟩ := by decide +kernel
theorem pd_1 : parseMethodDescriptor "(J)J" = some ⟨[.long], some .long⟩ := by decide +kernel
def Q_law (Z : State) (p1 : Int64) (p2 : Int32) (h0 : Heap) (n0 : Nat) (v : Option Value) (h : Heap) (L : List Loc) : Prop := v = some (.int 1) ∧ Fr n0 L ∧ True
set_option maxRecDepth 65536 in
set_option maxHeartbeats 40000000 in
theorem rm_law (l : Launch) (Z : State) (a0 : Array Value) (hw : ∀ d ∈ tables_1, d.before a0 Z = true) (ws : List Jvm.Cond) (p1 : Int64) (p2 : Int32) (h0 : Heap) (n0 : Nat) (Z0 : n0 ≤ h0.size)  :
    Met l Z x code maxLocals ret ws room_1 #[(.long p1), (.int p2)] h0 (Q_law Z p1 p2 h0 n0) := by
  refine Met.start (plainFor_of_name pn_1) ?_
  intro p e s m below meth c T X hx hby hml hown hnm hret hlk hZ eT
  have N := Fr.nil n0
  refine Wout.cast (g' := (mkF m 0 #[.val (.long p1), .second, .val (.int p2), .unset, .unset, .unset, .unset, .unset, .unset, .unset, .unset, .unset] [])) (by first | (simp [entryFrame, mkF, argsToLocals, Value.category, maxLocals]; done) | rfl) ?_
  refine o_iloadN X hx 1 (hb hby at_0) rfl rfl ?_
  refine o_iconst X hx 2 (3 : Int32) (hb hby at_1) rfl rfl ?_
  refine o_iand X hx 3 (hb hby at_2) rfl ?_
  obtain ⟨mo, h_mo⟩ : ∃ z, z = (p2 &&& (3 : Int32)) := ⟨_, rfl⟩
  rw [← h_mo]
  refine o_istoreN X hx 4 (Ls' := #[.val (.long p1), .second, .val (.int p2), .val (.int mo), .unset, .unset, .unset, .unset, .unset, .unset, .unset, .unset]) (hb hby at_3) rfl rfl ?_
  refine o_iloadN X hx 5 (hb hby at_4) rfl rfl ?_
  have J : ∀ vv : Int64, Wout p e below (Pst s (Q_law Z p1 p2 h0 n0) room_1.cells room_1.slots) T (mkF m 59 #[.val (.long p1), .second, .val (.int p2), .val (.int mo), .val (.long vv), .second, .unset, .unset, .unset, .unset, .unset, .unset] []) := by
    intro vv
    obtain ⟨n1, n2, R, hR, hP⟩ := own_main vv
    refine o_lload X hx 61 (hb hby at_59) rfl rfl ?_
    refine o_callS X hx hZ hown (hw _ (List.mem_of_getElem? (i := 3) rfl)) (hw _ (List.mem_of_getElem? (i := 4) rfl)) (hw _ (List.mem_of_getElem? (i := 5) rfl)) (hw _ (List.mem_of_getElem? (i := 6) rfl)) (by decide) (rm_ud l Z a0 hw [] vv _ n0 Z0 n1 n2) eT (by decide) 0 (by decide) (by rw [hml]; rfl) [(.long vv)] (rest := []) (lenOf pd_0 rfl) rfl rfl (Nat.le_of_eq rfl) (by decide) (by decide) 64 (hb hby at_61) rfl (fun v T h1 Lc X eT q => ?_)
    obtain ⟨rfl, N', e'⟩ := q
    replace N := Fr.app N N'
    replace eT := eT.trans e'
    show Wout p e below _ T (mkF m 64 #[.val (.long p1), .second, .val (.int p2), .val (.int mo), .val (.long vv), .second, .unset, .unset, .unset, .unset, .unset, .unset] [(.double (own_r vv))])
    refine o_dstore X hx 66 (Ls' := #[.val (.long p1), .second, .val (.int p2), .val (.int mo), .val (.long vv), .second, .val (.double (own_r vv)), .second, .unset, .unset, .unset, .unset]) (hb hby at_64) rfl rfl ?_
    refine o_lload X hx 68 (hb hby at_66) rfl rfl ?_
    refine o_lconst X hx 69 (0 : Int64) (hb hby at_68) rfl rfl ?_
    refine o_lcmp X hx 70 (hb hby at_69) rfl ?_
    refine o_ifL X hx 97 73 (hb hby at_70) rfl rfl (fun (q0 : vv < (0 : Int64)) => ?_) (fun (q0 : ¬ vv < (0 : Int64)) => ?_)
    · show Wout p e below _ T (mkF m 97 #[.val (.long p1), .second, .val (.int p2), .val (.int mo), .val (.long vv), .second, .val (.double (own_r vv)), .second, .unset, .unset, .unset, .unset] [])
      refine o_lload X hx 99 (hb hby at_97) rfl rfl ?_
      refine o_lconst X hx 100 (0 : Int64) (hb hby at_99) rfl rfl ?_
      refine o_lcmp X hx 101 (hb hby at_100) rfl ?_
      refine o_ifLT X hx 154 (hb hby at_101) rfl q0 ?_
      have hi := own_in2 hP q0
      refine o_dload X hx 156 (hb hby at_154) rfl rfl ?_
      refine o_ldc2D X hx hZ 159 hown (hw _ (List.mem_of_getElem? (i := 8) rfl)) (hb hby at_156) rfl ?_
      refine o_dcmp X hx 160 (own_cmp (R : Int) 9223372036854775808) (hb hby at_159) (own_dc hR own_c63 _) rfl ?_
      refine o_ifF X hx 163 (hb hby at_160) rfl (own_ge (by omega)) ?_
      refine o_dload X hx 165 (hb hby at_163) rfl rfl ?_
      refine o_ldc2D X hx hZ 168 hown (hw _ (List.mem_of_getElem? (i := 9) rfl)) (hb hby at_165) rfl ?_
      refine o_dcmp X hx 169 (own_cmp (R : Int) 18446744073709551616) (hb hby at_168) (own_dc hR own_c64 _) rfl ?_
      refine o_ifT X hx 174 (hb hby at_169) rfl (own_le (by omega)) ?_
      refine o_dload X hx 176 (hb hby at_174) rfl rfl ?_
      refine o_ldc2D X hx hZ 179 hown (hw _ (List.mem_of_getElem? (i := 8) rfl)) (hb hby at_176) rfl ?_
      refine o_dsub X hx 180 (FP.dsub (own_r vv) (4890909195324358656 : UInt64)) (hb hby at_179) (own_nn (own_dsub hi.1 hi.2.1 hi.2.2 hR)) rfl rfl ?_
      refine o_d2l X hx 181 (FP.d2l (FP.dsub (own_r vv) (4890909195324358656 : UInt64))) (hb hby at_180) rfl rfl ?_
      refine o_lstore X hx 183 (Ls' := #[.val (.long p1), .second, .val (.int p2), .val (.int mo), .val (.long vv), .second, .val (.double (own_r vv)), .second, .val (.long (FP.d2l (FP.dsub (own_r vv) (4890909195324358656 : UInt64)))), .second, .unset, .unset]) (hb hby at_181) rfl rfl ?_
      refine o_lload X hx 185 (hb hby at_183) rfl rfl ?_
      refine o_ldc2 X hx hZ 188 hown (hw _ (List.mem_of_getElem? (i := 10) rfl)) (hb hby at_185) rfl ?_
      refine o_lxor X hx 189 (hb hby at_188) rfl ?_
      refine o_lstore X hx 191 (Ls' := #[.val (.long p1), .second, .val (.int p2), .val (.int mo), .val (.long vv), .second, .val (.double (own_r vv)), .second, .val (.long (FP.d2l (FP.dsub (own_r vv) (4890909195324358656 : UInt64)))), .second, .val (.long (vv ^^^ (-9223372036854775808 : Int64))), .second]) (hb hby at_189) rfl rfl ?_
      refine o_lload X hx 193 (hb hby at_191) rfl rfl ?_
      refine o_lload X hx 195 (hb hby at_193) rfl rfl ?_
      refine o_lsub X hx 196 (hb hby at_195) rfl ?_
      refine o_callS X hx hZ hown (hw _ (List.mem_of_getElem? (i := 11) rfl)) (hw _ (List.mem_of_getElem? (i := 12) rfl)) (hw _ (List.mem_of_getElem? (i := 13) rfl)) (hw _ (List.mem_of_getElem? (i := 14) rfl)) (by decide) (rm_abs l Z a0 hw [] ((FP.d2l (FP.dsub (own_r vv) (4890909195324358656 : UInt64))) - (vv ^^^ (-9223372036854775808 : Int64))) _ n0 Z0) eT (by decide) 0 (by decide) (by rw [hml]; rfl) [(.long ((FP.d2l (FP.dsub (own_r vv) (4890909195324358656 : UInt64))) - (vv ^^^ (-9223372036854775808 : Int64))))] (rest := []) (lenOf pd_1 rfl) rfl rfl (Nat.le_of_eq rfl) (by decide) (by decide) 199 (hb hby at_196) rfl (fun v T h2 Lc X eT q => ?_)
      obtain ⟨rfl, N', e'⟩ := q
      replace N := Fr.app N N'
      replace eT := eT.trans e'
      show Wout p e below _ T (mkF m 199 #[.val (.long p1), .second, .val (.int p2), .val (.int mo), .val (.long vv), .second, .val (.double (own_r vv)), .second, .val (.long (FP.d2l (FP.dsub (own_r vv) (4890909195324358656 : UInt64)))), .second, .val (.long (vv ^^^ (-9223372036854775808 : Int64))), .second] [(.long (own_abs ((FP.d2l (FP.dsub (own_r vv) (4890909195324358656 : UInt64))) - (vv ^^^ (-9223372036854775808 : Int64)))))])
      refine o_ldc2 X hx hZ 202 hown (hw _ (List.mem_of_getElem? (i := 15) rfl)) (hb hby at_199) rfl ?_
      refine o_lcmp X hx 203 (hb hby at_202) rfl ?_
      refine o_ifLF X hx 206 (hb hby at_203) rfl (own_far hP q0 (own_dsub hi.1 hi.2.1 hi.2.2 hR)) ?_
      refine o_iconst X hx 207 (1 : Int32) (hb hby at_206) rfl rfl ?_
      refine o_goto X hx 211 (hb hby at_207) rfl ?_
      exact o_retI X hx hlk hret rfl (by simp) (hb hby at_211) (by decide) (by decide) (by rw [eT]; exact ⟨rfl, N, trivial⟩)
    · show Wout p e below _ T (mkF m 73 #[.val (.long p1), .second, .val (.int p2), .val (.int mo), .val (.long vv), .second, .val (.double (own_r vv)), .second, .unset, .unset, .unset, .unset] [])
      refine o_lload X hx 75 (hb hby at_73) rfl rfl ?_
      refine o_ldc2 X hx hZ 78 hown (hw _ (List.mem_of_getElem? (i := 0) rfl)) (hb hby at_75) rfl ?_
      refine o_lcmp X hx 79 (hb hby at_78) rfl ?_
      refine o_ifL X hx 97 82 (hb hby at_79) rfl rfl (fun (q1 : ¬ vv < (9007199254740992 : Int64)) => ?_) (fun (q1 : vv < (9007199254740992 : Int64)) => ?_)
      · show Wout p e below _ T (mkF m 97 #[.val (.long p1), .second, .val (.int p2), .val (.int mo), .val (.long vv), .second, .val (.double (own_r vv)), .second, .unset, .unset, .unset, .unset] [])
        refine o_lload X hx 99 (hb hby at_97) rfl rfl ?_
        refine o_lconst X hx 100 (0 : Int64) (hb hby at_99) rfl rfl ?_
        refine o_lcmp X hx 101 (hb hby at_100) rfl ?_
        refine o_ifLF X hx 104 (hb hby at_101) rfl q0 ?_
        have hi := own_in hP q0 q1
        refine o_dload X hx 106 (hb hby at_104) rfl rfl ?_
        refine o_ldc2D X hx hZ 109 hown (hw _ (List.mem_of_getElem? (i := 17) rfl)) (hb hby at_106) rfl ?_
        refine o_dcmp X hx 110 (own_cmp (R : Int) 9007199254740992) (hb hby at_109) (own_dc hR own_c53 _) rfl ?_
        refine o_ifF X hx 113 (hb hby at_110) rfl (own_ge hi.1) ?_
        refine o_dload X hx 115 (hb hby at_113) rfl rfl ?_
        refine o_ldc2D X hx hZ 118 hown (hw _ (List.mem_of_getElem? (i := 8) rfl)) (hb hby at_115) rfl ?_
        refine o_dcmp X hx 119 (own_cmp (R : Int) 9223372036854775808) (hb hby at_118) (own_dc hR own_c63 _) rfl ?_
        refine o_ifT X hx 124 (hb hby at_119) rfl (own_le hi.2) ?_
        refine o_dload X hx 126 (hb hby at_124) rfl rfl ?_
        refine o_d2l X hx 127 (FP.d2l (own_r vv)) (hb hby at_126) rfl rfl ?_
        refine o_lstore X hx 129 (Ls' := #[.val (.long p1), .second, .val (.int p2), .val (.int mo), .val (.long vv), .second, .val (.double (own_r vv)), .second, .val (.long (FP.d2l (own_r vv))), .second, .unset, .unset]) (hb hby at_127) rfl rfl ?_
        refine o_lload X hx 131 (hb hby at_129) rfl rfl ?_
        refine o_lload X hx 133 (hb hby at_131) rfl rfl ?_
        refine o_lsub X hx 134 (hb hby at_133) rfl ?_
        refine o_callS X hx hZ hown (hw _ (List.mem_of_getElem? (i := 11) rfl)) (hw _ (List.mem_of_getElem? (i := 12) rfl)) (hw _ (List.mem_of_getElem? (i := 13) rfl)) (hw _ (List.mem_of_getElem? (i := 14) rfl)) (by decide) (rm_abs l Z a0 hw [] ((FP.d2l (own_r vv)) - vv) _ n0 Z0) eT (by decide) 0 (by decide) (by rw [hml]; rfl) [(.long ((FP.d2l (own_r vv)) - vv))] (rest := []) (lenOf pd_1 rfl) rfl rfl (Nat.le_of_eq rfl) (by decide) (by decide) 137 (hb hby at_134) rfl (fun v T h3 Lc X eT q => ?_)
        obtain ⟨rfl, N', e'⟩ := q
        replace N := Fr.app N N'
        replace eT := eT.trans e'
        show Wout p e below _ T (mkF m 137 #[.val (.long p1), .second, .val (.int p2), .val (.int mo), .val (.long vv), .second, .val (.double (own_r vv)), .second, .val (.long (FP.d2l (own_r vv))), .second, .unset, .unset] [(.long (own_abs ((FP.d2l (own_r vv)) - vv)))])
        refine o_lload X hx 139 (hb hby at_137) rfl rfl ?_
        refine o_bipush X hx 141 (53 : Int32) (hb hby at_139) rfl rfl ?_
        refine o_lushr X hx 142 (hb hby at_141) rfl ?_
        refine o_lconst X hx 143 (1 : Int64) (hb hby at_142) rfl rfl ?_
        refine o_ladd X hx 144 (hb hby at_143) rfl ?_
        refine o_lcmp X hx 145 (hb hby at_144) rfl ?_
        refine o_ifLF X hx 148 (hb hby at_145) rfl (own_near hP q0 q1 hR) ?_
        refine o_iconst X hx 149 (1 : Int32) (hb hby at_148) rfl rfl ?_
        refine o_goto X hx 153 (hb hby at_149) rfl ?_
        exact o_retI X hx hlk hret rfl (by simp) (hb hby at_153) (by decide) (by decide) (by rw [eT]; exact ⟨rfl, N, trivial⟩)
      · show Wout p e below _ T (mkF m 82 #[.val (.long p1), .second, .val (.int p2), .val (.int mo), .val (.long vv), .second, .val (.double (own_r vv)), .second, .unset, .unset, .unset, .unset] [])
        have hi := own_small hP q0 q1
        refine o_dload X hx 84 (hb hby at_82) rfl rfl ?_
        refine o_lload X hx 86 (hb hby at_84) rfl rfl ?_
        refine o_l2d X hx 87 (FP.l2d vv) (hb hby at_86) rfl rfl ?_
        refine o_dcmp X hx 88 (own_cmp (R : Int) vv.toInt) (hb hby at_87) (own_dc hR hi.1 _) rfl ?_
        refine o_ifF X hx 91 (hb hby at_88) rfl (own_eq hi.2) ?_
        refine o_iconst X hx 92 (1 : Int32) (hb hby at_91) rfl rfl ?_
        refine o_goto X hx 96 (hb hby at_92) rfl ?_
        exact o_retI X hx hlk hret rfl (by simp) (hb hby at_96) (by decide) (by decide) (by rw [eT]; exact ⟨rfl, N, trivial⟩)
  refine o_if X hx 14 8 (hb hby at_5) rfl rfl (fun (q : ¬ mo = (0 : Int32)) => ?_) (fun (q : mo = (0 : Int32)) => ?_)
  · show Wout p e below _ T (mkF m 14 #[.val (.long p1), .second, .val (.int p2), .val (.int mo), .unset, .unset, .unset, .unset, .unset, .unset, .unset, .unset] [])
    refine o_iloadN X hx 15 (hb hby at_14) rfl rfl ?_
    refine o_iconst X hx 16 (1 : Int32) (hb hby at_15) rfl rfl ?_
    refine o_icmp X hx 29 19 (hb hby at_16) rfl rfl (fun (q : ¬ mo = (1 : Int32)) => ?_) (fun (q : mo = (1 : Int32)) => ?_)
    · show Wout p e below _ T (mkF m 29 #[.val (.long p1), .second, .val (.int p2), .val (.int mo), .unset, .unset, .unset, .unset, .unset, .unset, .unset, .unset] [])
      refine o_iloadN X hx 30 (hb hby at_29) rfl rfl ?_
      refine o_iconst X hx 31 (2 : Int32) (hb hby at_30) rfl rfl ?_
      refine o_icmp X hx 52 34 (hb hby at_31) rfl rfl (fun (q : ¬ mo = (2 : Int32)) => ?_) (fun (q : mo = (2 : Int32)) => ?_)
      · show Wout p e below _ T (mkF m 52 #[.val (.long p1), .second, .val (.int p2), .val (.int mo), .unset, .unset, .unset, .unset, .unset, .unset, .unset, .unset] [])
        refine o_lloadN X hx 53 (hb hby at_52) rfl rfl ?_
        refine o_ldc2 X hx hZ 56 hown (hw _ (List.mem_of_getElem? (i := 16) rfl)) (hb hby at_53) rfl ?_
        refine o_land X hx 57 (hb hby at_56) rfl ?_
        refine o_lstore X hx 59 (Ls' := #[.val (.long p1), .second, .val (.int p2), .val (.int mo), .val (.long (p1 &&& (65535 : Int64))), .second, .unset, .unset, .unset, .unset, .unset, .unset]) (hb hby at_57) rfl rfl ?_
        exact J _
      · show Wout p e below _ T (mkF m 34 #[.val (.long p1), .second, .val (.int p2), .val (.int mo), .unset, .unset, .unset, .unset, .unset, .unset, .unset, .unset] [])
        refine o_ldc2 X hx hZ 37 hown (hw _ (List.mem_of_getElem? (i := 0) rfl)) (hb hby at_34) rfl ?_
        refine o_lloadN X hx 38 (hb hby at_37) rfl rfl ?_
        refine o_ldc2 X hx hZ 41 hown (hw _ (List.mem_of_getElem? (i := 1) rfl)) (hb hby at_38) rfl ?_
        refine o_land X hx 42 (hb hby at_41) rfl ?_
        refine o_ladd X hx 43 (hb hby at_42) rfl ?_
        refine o_ldc2 X hx hZ 46 hown (hw _ (List.mem_of_getElem? (i := 2) rfl)) (hb hby at_43) rfl ?_
        refine o_lsub X hx 47 (hb hby at_46) rfl ?_
        refine o_lstore X hx 49 (Ls' := #[.val (.long p1), .second, .val (.int p2), .val (.int mo), .val (.long (((9007199254740992 : Int64) + (p1 &&& (255 : Int64))) - (128 : Int64))), .second, .unset, .unset, .unset, .unset, .unset, .unset]) (hb hby at_47) rfl rfl ?_
        refine o_goto X hx 59 (hb hby at_49) rfl ?_
        exact J _
    · show Wout p e below _ T (mkF m 19 #[.val (.long p1), .second, .val (.int p2), .val (.int mo), .unset, .unset, .unset, .unset, .unset, .unset, .unset, .unset] [])
      refine o_lloadN X hx 20 (hb hby at_19) rfl rfl ?_
      refine o_ldc2 X hx hZ 23 hown (hw _ (List.mem_of_getElem? (i := 18) rfl)) (hb hby at_20) rfl ?_
      refine o_land X hx 24 (hb hby at_23) rfl ?_
      refine o_lstore X hx 26 (Ls' := #[.val (.long p1), .second, .val (.int p2), .val (.int mo), .val (.long (p1 &&& (9007199254740991 : Int64))), .second, .unset, .unset, .unset, .unset, .unset, .unset]) (hb hby at_24) rfl rfl ?_
      refine o_goto X hx 59 (hb hby at_26) rfl ?_
      exact J _
  · show Wout p e below _ T (mkF m 8 #[.val (.long p1), .second, .val (.int p2), .val (.int mo), .unset, .unset, .unset, .unset, .unset, .unset, .unset, .unset] [])
    refine o_lloadN X hx 9 (hb hby at_8) rfl rfl ?_
    refine o_lstore X hx 11 (Ls' := #[.val (.long p1), .second, .val (.int p2), .val (.int mo), .val (.long p1), .second, .unset, .unset, .unset, .unset, .unset, .unset]) (hb hby at_9) rfl rfl ?_
    refine o_goto X hx 59 (hb hby at_11) rfl ?_
    exact J _
set_option maxRecDepth 65536 in
set_option maxHeartbeats 40000000 in
theorem comes_1 {Post : Tables → Env → Array Value → State → Outcome → State → Prop} (hpost : ∀ tb e args s v u, (limb_1_1.after args s (.returned v) u = true ∧ limb_1_2.after args s (.returned v) u = true ∧ True) → FrameEnd s (.returned v) u (Jvm.fieldLocs frame_1_writes args s ++ Jvm.arrayLocs frame_1_arrays args s ++ Jvm.staticLocs frame_1_statics s) 0 0 → Post tb e args s (.returned v) u) :
    ArmFor flags0 classFile x code maxLocals ret World_1 tables_1 room_1 Calls_1 rest_1 Pre_1 Post := by
  intro l hfl _ _ p e ha hc hk s m args below hf hA hF happ hP
  obtain ⟨hcalls, hrest, hpre⟩ := hP
  obtain ⟨-, -, -, hnamed, -, -, -, hat⟩ := (Spec.applies_iff hf).mp happ
  obtain ⟨hg, hn⟩ := and_e (Cond.before_iff.mp (show (Jvm.Cond.and given_1 narrow_1).before args s = true from hpre))
  obtain ⟨h1, hgs⟩ := and_e hg
  obtain ⟨w0, w1, rfl⟩ : ∃ w0 w1 : Value, args = #[w0, w1] := by
    have hs : args.size = 2 := by simpa [Cond.value, given_1] using h1
    obtain ⟨L⟩ := args
    match L, hs with
    | [w0, w1], _ => exact ⟨w0, w1, rfl⟩
  have hw := fun d (hd : d ∈ tables_1) => atoms_spec (ws := Jvm.Cond.code x code maxLocals ret :: tables_1) hat d (List.mem_cons_of_mem _ hd)
  have hfit : Fit s := fun {y c} hc i hi => by
    obtain ⟨ha, rfl⟩ := Array.getElem?_eq_some_iff.mp hc
    have q := List.all_eq_true.mp ((Array.all_eq_true_iff_forall_mem.mp hF) _ (Array.getElem_mem ha)) i (List.mem_range.mpr hi)
    simpa [Array.getElem?_eq_getElem hi] using q
  obtain ⟨hg0, hgs⟩ := and_e hgs
  obtain ⟨i0, e0⟩ := isL_v hg0
  obtain rfl : w0 = (.long i0) := Option.some.inj e0
  obtain ⟨i1, e1⟩ := is_v hgs
  obtain rfl : w1 = (.int i1) := Option.some.inj e1
  obtain ⟨n, o, h1, h2, h3, _, L, rfl, ⟨rfl, N, _⟩, hq⟩ := rm_law l s _ hw tables_1 i0 i1 s.heap s.heap.size (Nat.le_refl _)  p e ha hc hk s m _ below hf ((Spec.applies_iff_loose hf).mp happ).1 ⟨rfl, State.Warmed39.refl s, rfl⟩ trivial
  refine ⟨n, _, h1, h2, h3, hpost _ _ _ _ _ _ ⟨Cond.after_iff.mpr rfl, Cond.after_iff.mpr (eq_i res_at (Term.int_eval (1)) rfl), trivial⟩ ⟨hq.1, hq.2.1, (hq.2.2.sift fun y hy => Or.inr (N y hy)).mono (by decide) (by decide)⟩⟩
theorem main_1_1 : Claimed_1_1 := comes_1 fun _ _ _ _ _ _ h hF => ⟨h.1, hF⟩
theorem main_1_2 : Claimed_1_2 := comes_1 fun _ _ _ _ _ _ h hF => ⟨h.2.1, hF⟩
end Jvm.Pilot.@@N@@
namespace Jvm.Pilot.@@N@@
open Jvm Jvm.ClassFile Sem Op Lib Jvm.Free Jvm.Stand Jvm.Pilot.@@N@@.Jvm.D
/-! MADE BY PROGRAM (witnessworld.py) out of the Statement's table words and the real class files: 10 classes; the members and pool entries that the words name. The judged class is class 1, her method 1. -/
namespace start1
open Jvm.ClassFile
def u (s : String) : CpInfo := .utf8 (stringToUtf16 s)
/-- a pool by its gaps: so many unusable entries, then the entry; so many at the end -/
def gap : Nat → List CpInfo → List CpInfo
  | 0, r => r
  | n + 1, r => .unusable :: gap n r
def poolList (es : List (Nat × CpInfo)) (last : Nat) : List CpInfo := es.foldr (fun e r => gap e.1 (e.2 :: r)) (gap last [])
def pool (es : List (Nat × CpInfo)) (last : Nat) : Array CpInfo := ⟨poolList es last⟩
def fileOf (pool : Array CpInfo) (this : Nat) (attrs : Array Attribute := #[]) (ms : Array MethodInfo := #[]) (fl : Nat := 33) (sup : Nat := 0) (ifs : Array Nat := #[]) (fds : Array FieldInfo := #[]) : ClassFile where
  minorVersion := 0
  majorVersion := 65
  constantPool := pool
  accessFlags := fl
  thisClass := this
  superClass := sup
  interfaces := ifs
  fields := fds
  methods := ms
  attributes := attrs
def plain (name : String) (sup : Option ClassId) : Class where
  name := name
  kind := .ordinary
  loader := none
  accessFlags := 33
  super := sup
  interfaces := #[]
  cf := none
  fields := #[]
  methods := #[]
  instanceTypes := #[]
  staticTypes := #[]
  resolved := #[]
  callSites := []
  init := .initialized
  statics := none
  mirror := none

def pool0 : Array CpInfo := pool [(5, u "<init>"), (0, u "()V"), (1, .class_ 10), (1, u "java/lang/Object")] 113

def k0m0 : Method := { name := "<init>", desc := "()V", sig := { parameters := [], returnType := none }, accessFlags := 1, code := none }
/-- java/lang/Object -/
def k0 : Class := { plain "java/lang/Object" none with
  accessFlags := 33
  interfaces := #[]
  cf := some (fileOf pool0 8 #[] #[{ accessFlags := 1, nameIndex := 5, descriptorIndex := 6, attributes := #[] }] 33 0 #[] #[])
  fields := #[]
  methods := #[k0m0]
  instanceTypes := #[]
  staticTypes := #[]
  resolved := Array.replicate 124 none
  statics := none }

def pool1 : Array CpInfo := pool [(2, .class_ 4), (1, u "java/lang/Object"), (0, u "<init>"), (0, u "()V"), (0, .long 9007199254740991), (1, .long 9007199254740992), (1, .long 255), (1, .long 128), (1, .long 65535), (1, .methodref 18 19), (0, .class_ 20), (0, .nameAndType 21 22), (0, u "com/example/spillway/spillway/DurationSum"), (0, u "unsignedDouble"), (0, u "(J)D"), (0, .double 4845873199050653696), (1, .double 4890909195324358656), (1, .methodref 28 29), (0, .class_ 30), (0, .nameAndType 31 32), (0, u "java/lang/Math"), (0, u "abs"), (0, u "(J)J"), (0, .double 4895412794951729152), (3, .long 9223372036854775808), (1, .long 1025), (1, .class_ 42), (0, u "com/example/spillway/spillway/DurationSumUnsignedDoublePinLaw"), (2, u "law"), (0, u "(JI)Z")] 3

def k1m0 : Method := { name := "<init>", desc := "()V", sig := { parameters := [], returnType := none }, accessFlags := 1, code := none }
def k1c1 : Code := { maxStack := 6, maxLocals := 12, code := code, exceptionTable := #[], attributes := #[] }
def k1m1 : Method := { name := "law", desc := "(JI)Z", sig := { parameters := [.long, .int], returnType := some .boolean }, accessFlags := 9, code := some k1c1 }
/-- com/example/spillway/spillway/DurationSumUnsignedDoublePinLaw -/
def k1 : Class := { plain "com/example/spillway/spillway/DurationSumUnsignedDoublePinLaw" (some 0) with
  accessFlags := 49
  interfaces := #[]
  cf := some (fileOf pool1 41 #[] #[{ accessFlags := 1, nameIndex := 5, descriptorIndex := 6, attributes := #[] }, { accessFlags := 9, nameIndex := 45, descriptorIndex := 46, attributes := #[] }] 49 2 #[] #[])
  fields := #[]
  methods := #[k1m0, k1m1]
  instanceTypes := #[]
  staticTypes := #[]
  resolved := Array.replicate 50 none
  statics := none }

def pool2 : Array CpInfo := pool [(2, .class_ 4), (1, u "java/lang/Object"), (0, u "<init>"), (0, u "()V"), (1, .class_ 10), (1, u "com/example/spillway/spillway/DurationSum"), (0, u "low"), (0, u "J"), (8, u "high"), (49, u "unsignedDouble"), (0, u "(J)D"), (2, .double 4611686018427387904)] 18

def k2m0 : Method := { name := "<init>", desc := "()V", sig := { parameters := [], returnType := none }, accessFlags := 0, code := none }
def k2c1 : Code := { maxStack := 6, maxLocals := 2, code := prog_29_method_7_code, exceptionTable := #[], attributes := #[] }
def k2m1 : Method := { name := "unsignedDouble", desc := "(J)D", sig := { parameters := [.long], returnType := some .double }, accessFlags := 8, code := some k2c1 }
/-- com/example/spillway/spillway/DurationSum -/
def k2 : Class := { plain "com/example/spillway/spillway/DurationSum" (some 0) with
  accessFlags := 48
  interfaces := #[]
  cf := some (fileOf pool2 8 #[] #[{ accessFlags := 0, nameIndex := 5, descriptorIndex := 6, attributes := #[] }, { accessFlags := 8, nameIndex := 71, descriptorIndex := 72, attributes := #[] }] 48 2 #[] #[{ accessFlags := 2, nameIndex := 11, descriptorIndex := 12, attributes := #[] }, { accessFlags := 2, nameIndex := 21, descriptorIndex := 12, attributes := #[] }])
  fields := #[{ name := "low", type := .long, accessFlags := 2, slot := 0, constantValue := 0 }, { name := "high", type := .long, accessFlags := 2, slot := 1, constantValue := 0 }]
  methods := #[k2m0, k2m1]
  instanceTypes := #[.long, .long]
  staticTypes := #[]
  resolved := Array.replicate 94 none
  statics := none }

def pool3 : Array CpInfo := pool [(1, .class_ 2), (0, u "java/lang/Math"), (1, .class_ 6), (1, u "java/lang/Object"), (0, u "<init>"), (0, u "()V"), (89, .class_ 100), (1, u "java/lang/Math$RandomNumberGeneratorHolder"), (23, u "abs"), (0, u "(J)J"), (46, u "negativeZeroFloatBits"), (0, u "J"), (2, u "negativeZeroDoubleBits"), (68, u "$assertionsDisabled"), (0, u "Z"), (91, u "twoToTheDoubleScaleDown"), (0, u "D"), (4, u "twoToTheDoubleScaleUp"), (9, u "E"), (3, u "PI"), (2, u "TAU"), (2, u "DEGREES_TO_RADIANS"), (0, u "RADIANS_TO_DEGREES")] 94

def k3m0 : Method := { name := "<init>", desc := "()V", sig := { parameters := [], returnType := none }, accessFlags := 2, code := none }
def k3c1 : Code := { maxStack := 4, maxLocals := 2, code := jdk_29_method_61_code, exceptionTable := #[], attributes := #[] }
def k3m1 : Method := { name := "abs", desc := "(J)J", sig := { parameters := [.long], returnType := some .long }, accessFlags := 9, code := some k3c1 }
/-- java/lang/Math -/
def k3 : Class := { plain "java/lang/Math" (some 0) with
  accessFlags := 49
  interfaces := #[]
  cf := some (fileOf pool3 1 #[.nestMembers #[98]] #[{ accessFlags := 2, nameIndex := 7, descriptorIndex := 8, attributes := #[] }, { accessFlags := 9, nameIndex := 124, descriptorIndex := 125, attributes := #[] }] 49 4 #[] #[{ accessFlags := 25, nameIndex := 354, descriptorIndex := 339, attributes := #[] }, { accessFlags := 25, nameIndex := 358, descriptorIndex := 339, attributes := #[] }, { accessFlags := 25, nameIndex := 361, descriptorIndex := 339, attributes := #[] }, { accessFlags := 26, nameIndex := 364, descriptorIndex := 339, attributes := #[] }, { accessFlags := 26, nameIndex := 365, descriptorIndex := 339, attributes := #[] }, { accessFlags := 26, nameIndex := 172, descriptorIndex := 173, attributes := #[] }, { accessFlags := 26, nameIndex := 176, descriptorIndex := 173, attributes := #[] }, { accessFlags := 8, nameIndex := 344, descriptorIndex := 339, attributes := #[] }, { accessFlags := 8, nameIndex := 338, descriptorIndex := 339, attributes := #[] }, { accessFlags := 4120, nameIndex := 245, descriptorIndex := 246, attributes := #[] }])
  fields := #[{ name := "E", type := .double, accessFlags := 25, slot := 0, constantValue := 0 }, { name := "PI", type := .double, accessFlags := 25, slot := 1, constantValue := 0 }, { name := "TAU", type := .double, accessFlags := 25, slot := 2, constantValue := 0 }, { name := "DEGREES_TO_RADIANS", type := .double, accessFlags := 26, slot := 3, constantValue := 0 }, { name := "RADIANS_TO_DEGREES", type := .double, accessFlags := 26, slot := 4, constantValue := 0 }, { name := "negativeZeroFloatBits", type := .long, accessFlags := 26, slot := 5, constantValue := 0 }, { name := "negativeZeroDoubleBits", type := .long, accessFlags := 26, slot := 6, constantValue := 0 }, { name := "twoToTheDoubleScaleUp", type := .double, accessFlags := 8, slot := 7, constantValue := 0 }, { name := "twoToTheDoubleScaleDown", type := .double, accessFlags := 8, slot := 8, constantValue := 0 }, { name := "$assertionsDisabled", type := .boolean, accessFlags := 4120, slot := 9, constantValue := 0 }]
  methods := #[k3m0, k3m1]
  instanceTypes := #[]
  staticTypes := #[.double, .double, .double, .double, .double, .long, .long, .double, .double, .boolean]
  resolved := Array.replicate 460 none
  statics := none }

def pool4 : Array CpInfo := pool [(1, u "java/lang/Cloneable"), (0, .class_ 1), (0, u "java/lang/Object"), (0, .class_ 3)] 3

/-- java/lang/Cloneable -/
def k4 : Class := { plain "java/lang/Cloneable" (some 0) with
  accessFlags := 1537
  interfaces := #[]
  cf := some (fileOf pool4 2 #[] #[] 1537 4 #[] #[])
  fields := #[]
  methods := #[]
  instanceTypes := #[]
  staticTypes := #[]
  resolved := Array.replicate 8 none
  statics := none }

def pool5 : Array CpInfo := pool [(1, u "java/io/Serializable"), (0, .class_ 1), (0, u "java/lang/Object"), (0, .class_ 3)] 3

/-- java/io/Serializable -/
def k5 : Class := { plain "java/io/Serializable" (some 0) with
  accessFlags := 1537
  interfaces := #[]
  cf := some (fileOf pool5 2 #[] #[] 1537 4 #[] #[])
  fields := #[]
  methods := #[]
  instanceTypes := #[]
  staticTypes := #[]
  resolved := Array.replicate 8 none
  statics := none }

/-- the primitive byte -/
def k6 : Class := { plain "byte" none with kind := .primitive 'B', accessFlags := 0x411 }
/-- [B -/
def k7 : Class := { plain "[B" (some 0) with kind := .array 6 .byte, interfaces := #[4, 5], accessFlags := 1041 }

/-- the primitive int -/
def k8 : Class := { plain "int" none with kind := .primitive 'I', accessFlags := 0x411 }
/-- [I -/
def k9 : Class := { plain "[I" (some 0) with kind := .array 8 .int, interfaces := #[4, 5], accessFlags := 1041 }

def heap : Heap := #[]
def classes : Array Class := #[k0, k1, k2, k3, k4, k5, k6, k7, k8, k9]
def interned : List (Array UInt16 × Addr) := []
def slotsUsed : Nat := 0
def theMethod : MethodId := ⟨1, 1⟩
def args0 : Array Value := #[.long 1, .int 2]
def aboutOver (below : List Frame) : State where
  vm := { classes := classes, interned := interned.toArray }
  heap := heap
  slotsUsed := slotsUsed
  threads := #[{ frames := .invoking theMethod args0 :: below }]
def below0 : List Frame := [.native { method := ⟨0, 0⟩, args := #[] }]
def about1 : State := aboutOver below0
def p0 : Program := .bare "" "" ""
def e0 : Env := launch0.env 0 0 0
theorem w_frames : about1.frames = Frame.invoking theMethod args0 :: below0 := rfl
set_option maxRecDepth 65536 in
theorem w_args : argsFit about1.vm theMethod args0 = true := by decide +kernel
set_option maxRecDepth 65536 in
theorem w_heap : heapFits about1 = true := by decide +kernel
set_option maxRecDepth 65536 in
theorem w_runnable : about1.curStatus? = some .runnable := by decide +kernel
set_option maxRecDepth 65536 in
theorem w_alone : about1.alone = true := by decide +kernel
set_option maxRecDepth 65536 in
theorem w_named : about1.methodNamed? x = some theMethod := by decide +kernel
set_option maxRecDepth 65536 in
theorem w_hears : about1.hears theMethod below0 = true := by decide +kernel
set_option maxRecDepth 65536 in
theorem w_ripe : about1.ripe theMethod args0 below0 = true := by decide +kernel
theorem w_running : about1.status = .running := rfl
set_option maxRecDepth 65536 in
theorem w_room : about1.hasRoom e0.platform room_1 = true :=
  launch0.hasRoom_least _ room_1 (by decide +kernel) (by decide +kernel) (by decide +kernel) (by decide +kernel) (by decide +kernel) (by decide +kernel)
theorem allAtoms_all (ts : List Jvm.Cond) (a : Array Jvm.Value) (st : Jvm.State) : (allAtoms ts).before a st = ts.all (fun c => c.before a st) := by
  induction ts with
  | nil => rfl
  | cons c t ih =>
    show (Jvm.Cond.and c (allAtoms t)).before a st = _
    rw [Jvm.Cond.before_and, ih, List.all_cons]
def words1 : List Jvm.Cond := Jvm.Cond.code x code maxLocals ret :: tables_1
/-- a 'code' word, met by the world's own term for the bytes: nothing is compared byte by byte -/
theorem code_word {y : MethodName} {bytes : ByteArray} {mx : Nat} {rt : Option FieldType} {a : Array Value} {s : State} {m : MethodId} {meth : Method} {c : Code} (h1 : s.methodNamed? y = some m) (h2 : s.vm.method? m = some meth) (h3 : meth.code = some c) (h4 : c.code = bytes)
    (h5 : (c.maxLocals == mx && c.exceptionTable.isEmpty && decide (c.maxStack ≤ mostOperands) && decide (meth.sig.returnType = rt) && !meth.locks && decide (parseMethodDescriptor y.desc = some meth.sig)) = true) : (Jvm.Cond.code y bytes mx rt).before a s = true := by
  simp only [Bool.and_eq_true, beq_iff_eq, Bool.not_eq_true', decide_eq_true_eq] at h5
  obtain ⟨⟨⟨⟨⟨g1, g2⟩, g3⟩, g4⟩, g5⟩, g6⟩ := h5
  simp [Cond.before, Cond.holds, Cond.value, h1, h2, h3, h4, g1, g2, g3, g4, g5, g6]
def isCode : Jvm.Cond → Bool
  | .code _ _ _ _ => true
  | _ => false
theorem all_split {L : List Jvm.Cond} {P : Jvm.Cond → Bool} (h1 : L.all (fun c => isCode c || P c) = true) (h2 : ∀ c ∈ L.filter isCode, P c = true) : L.all P = true := by
  refine List.all_eq_true.mpr fun c hc => ?_
  have h := List.all_eq_true.mp h1 c hc
  rcases Bool.eq_false_or_eq_true (isCode c) with hi | hi
  · exact h2 c (List.mem_filter.mpr ⟨hc, hi⟩)
  · simpa [hi] using h
set_option maxRecDepth 65536 in
theorem w_c0 : (Jvm.Cond.code x code maxLocals ret).before args0 about1 = true := code_word (m := ⟨1, 1⟩) (meth := k1m1) (c := k1c1) (by decide +kernel) rfl rfl rfl (by decide +kernel)
set_option maxRecDepth 65536 in
theorem w_c1 : (Jvm.Cond.code ({ cls := "com/example/spillway/spillway/DurationSum", name := "unsignedDouble", desc := "(J)D" } : Jvm.MethodName) prog_29_method_7_code (2 : Nat) (Option.some Jvm.ClassFile.FieldType.double)).before args0 about1 = true := code_word (m := ⟨2, 1⟩) (meth := k2m1) (c := k2c1) (by decide +kernel) rfl rfl rfl (by decide +kernel)
set_option maxRecDepth 65536 in
theorem w_c2 : (Jvm.Cond.code ({ cls := "java/lang/Math", name := "abs", desc := "(J)J" } : Jvm.MethodName) jdk_29_method_61_code (2 : Nat) (Option.some Jvm.ClassFile.FieldType.long)).before args0 about1 = true := code_word (m := ⟨3, 1⟩) (meth := k3m1) (c := k3c1) (by decide +kernel) rfl rfl rfl (by decide +kernel)
def codes1 : List Jvm.Cond := [Jvm.Cond.code x code maxLocals ret, Jvm.Cond.code ({ cls := "com/example/spillway/spillway/DurationSum", name := "unsignedDouble", desc := "(J)D" } : Jvm.MethodName) prog_29_method_7_code (2 : Nat) (Option.some Jvm.ClassFile.FieldType.double), Jvm.Cond.code ({ cls := "java/lang/Math", name := "abs", desc := "(J)J" } : Jvm.MethodName) jdk_29_method_61_code (2 : Nat) (Option.some Jvm.ClassFile.FieldType.long)]
set_option maxRecDepth 65536 in
theorem codes_eq : words1.filter isCode = codes1 := rfl
theorem w_codes : ∀ c ∈ words1.filter isCode, c.before args0 about1 = true := by
  rw [codes_eq]
  intro c hc
  simp only [codes1, List.mem_cons, List.not_mem_nil, or_false] at hc
  rcases hc with rfl | rfl | rfl
  · exact w_c0
  · exact w_c1
  · exact w_c2
set_option maxRecDepth 65536 in
theorem w_t1 : words1.all (fun c => isCode c || c.before args0 about1) = true := by decide +kernel
theorem w_tables : (allAtoms (Jvm.Cond.code x code maxLocals ret :: tables_1)).before args0 about1 = true := by
  rw [allAtoms_all]
  show words1.all (fun c => c.before args0 about1) = true
  refine all_split ?_ w_codes
  rw [w_t1]
set_option maxRecDepth 65536 in
theorem w_case : (Jvm.Cond.and given_1 narrow_1).before args0 about1 = true := by decide +kernel
theorem w_applies : (headSpec (Jvm.Cond.code x code maxLocals ret :: tables_1) room_1).applies x e0.platform about1 = true :=
  (Spec.applies_iff w_frames).mpr ⟨w_running, w_runnable, w_alone, w_named, w_hears, w_ripe, w_room, w_tables⟩
theorem atStart : AtStart classFile x code maxLocals ret World_1 tables_1 room_1 Calls_1 rest_1 Pre_1 launch0 p0 e0 about1 theMethod args0 below0 :=
  ⟨lists_1, trivial, launch0.admits_env _ _ _, launch0.least_env, fairChoices_fair.cas, fairChoices_fair.clock, w_frames, w_args, w_heap, w_applies, trivial, trivial, w_case⟩
end start1
theorem witness_1 : WitnessClaimed_1 := ⟨start1.p0, start1.e0, start1.about1, start1.theMethod, start1.args0, start1.below0, start1.atStart⟩
end Jvm.Pilot.@@N@@
