import JvmDerived
import JvmDerived.Pilot.@@N@@Statement
import JvmDerived.Pilot.@@N@@Code
set_option linter.unusedVariables false
set_option linter.unusedSimpArgs false
@@BLOCK:NumsL.lean.txt@@
namespace Jvm.OwnWalk
open Sem ClassFile Op Lib Jvm.Stand Jvm.Free Jvm.LawKit Jvm.RoadKit
section K
variable {p : Program} {l : Launch} {e : Env} {R : Room} {s : State} {m : MethodId} {args : Array Value} {below : List Frame} {meth : Method} {c : Code} {T : State} {locs : List Loc} {cells slots : Nat} {Z : State} {a0 : Array Value} {h : Heap} {P : Outcome → State → Prop} {pc : Nat} {Ls : Array Slot} {rest : List Value}
/-- from T with g on top the invocation ends, and P holds of its end -/
def Wout (p : Program) (e : Env) (below : List Frame) (P : Outcome → State → Prop) (T : State) (g : JFrame) : Prop :=
  ∃ U o, Steps p.tables e below (T.setTop g) U ∧ U.status = .running ∧ Ended U below o ∧ P o U
theorem Wout.of {T T' : State} {g g' : JFrame} (st : ∀ t, Steps p.tables e below (T'.setTop g') t → Steps p.tables e below (T.setTop g) t) (hr : Wout p e below P T' g') : Wout p e below P T g := by
  obtain ⟨U, o, h1, h2⟩ := hr
  exact ⟨U, o, st U h1, h2⟩
theorem Wout.tr {T T' : State} {g g' : JFrame} (st : Steps p.tables e below (T.setTop g) (T'.setTop g')) (hr : Wout p e below P T' g') : Wout p e below P T g := by
  obtain ⟨U, o, h1, h2⟩ := hr
  exact ⟨U, o, st.trans h1, h2⟩
theorem Wout.cast {T : State} {g g' : JFrame} (q : g = g') (hr : Wout p e below P T g') : Wout p e below P T g := q ▸ hr
/-- the end of an invocation that returned: Q of its value, the heap and the written places; the frame -/
def Pst (s : State) (Q : Option Value → Heap → List Loc → Prop) (C S : Nat) (o : Outcome) (U : State) : Prop := ∃ v L, o = .returned v ∧ Q v U.heap L ∧ FrameEnd s o U L C S
abbrev Met (l : Launch) (Z : State) (y : MethodName) (bytes : ByteArray) (maxL : Nat) (ret : Option FieldType) (ws : List Jvm.Cond) (rm : Room) (as' : Array Value) (h0 : Heap) (Q : Option Value → Heap → List Loc → Prop) : Prop :=
  MetFree l y (head1 (Jvm.Cond.code y bytes maxL ret :: ws) rm) (fun a U => a = as' ∧ Z.Warmed39 U.vm ∧ U.heap = h0) (fun _ _ _ _ _ => True) (fun _ U o U' => ∃ v L, o = .returned v ∧ Q v U'.heap L ∧ FrameEnd U o U' L rm.cells rm.slots)
theorem Met.start {y : MethodName} {bytes : ByteArray} {maxL : Nat} {ret : Option FieldType} {ws : List Jvm.Cond} {rm : Room} {as' : Array Value} {h0 : Heap} {Q : Option Value → Heap → List Loc → Prop} (hpl : plainFor y = true)
    (H : ∀ (p : Program) (e : Env) (s : State) (m : MethodId) (below : List Frame) (meth : Method) (c : Code) (T : State), Stand p l e rm s m as' below meth c T [] 0 0 → p.tables.exec = Jvm.exec → c.code = bytes → c.maxLocals = maxL → s.vm.findClass y.cls = some m.cls → meth.name = y.name → meth.sig.returnType = ret → meth.locks = false → Z.Warmed39 s.vm → T.heap = h0 → Wout p e below (Pst s Q rm.cells rm.slots) T (entryFrame m as' maxL)) :
    Met l Z y bytes maxL ret ws rm as' h0 Q := by
  refine MetFree.of_bodySF hpl hisR ?_
  intro p e s m args below meth c s₁ Bd hml0 hP hK
  obtain ⟨rfl, hZ, hh⟩ := hP
  exact H p e s m below meth c s₁ (Stand.of_body Bd) Bd.exec Bd.bytes hml0 (findClass_of_methodNamed Bd.named) (name_of_methodNamed Bd.named Bd.method).1 Bd.returns Bd.notSynchronized hZ (by rw [← hh, Bd.state]; rfl)
/-! what a branch says -/
def cI : ClassFile.Cond → Int32 → Prop
  | .eq, x => x = 0 | .ne, x => ¬ x = 0 | .lt, x => x < 0 | .ge, x => ¬ x < 0 | .gt, x => 0 < x | .le, x => ¬ 0 < x
def cII : ClassFile.Cond → Int32 → Int32 → Prop
  | .eq, x, y => x = y | .ne, x, y => ¬ x = y | .lt, x, y => x < y | .ge, x, y => ¬ x < y | .gt, x, y => y < x | .le, x, y => ¬ y < x
def cLL : ClassFile.Cond → Int64 → Int64 → Prop
  | .eq, x, y => x = y | .ne, x, y => ¬ x = y | .lt, x, y => x < y | .ge, x, y => ¬ x < y | .gt, x, y => y < x | .le, x, y => ¬ y < x
def cNeg : ClassFile.Cond → ClassFile.Cond
  | .eq => .ne | .ne => .eq | .lt => .ge | .ge => .lt | .gt => .le | .le => .gt
theorem cI_t : ∀ {cd : ClassFile.Cond} {x : Int32}, cI cd x → ifCond.holds cd x = true
  | .eq, _, q => XT.i0_eq_t q
  | .ne, _, q => XT.i0_ne_t q
  | .lt, _, q => XT.i0_lt_t q
  | .ge, _, q => XT.i0_ge_t q
  | .gt, _, q => XT.i0_gt_t q
  | .le, _, q => XT.i0_le_t q
theorem cI_f : ∀ {cd : ClassFile.Cond} {x : Int32}, cI (cNeg cd) x → ifCond.holds cd x = false
  | .eq, _, q => XT.i0_eq_f q
  | .ne, _, q => XT.i0_ne_f q
  | .lt, _, q => XT.i0_lt_f q
  | .ge, _, q => XT.i0_ge_f q
  | .gt, _, q => XT.i0_gt_f q
  | .le, _, q => XT.i0_le_f q
theorem cII_t : ∀ {cd : ClassFile.Cond} {x y : Int32}, cII cd x y → if_icmp.holds cd x y = true
  | .eq, _, _, q => XT.ii_eq_t q
  | .ne, _, _, q => XT.ii_ne_t q
  | .lt, _, _, q => XT.ii_lt_t q
  | .ge, _, _, q => XT.ii_ge_t q
  | .gt, _, _, q => XT.ii_gt_t q
  | .le, _, _, q => XT.ii_le_t q
theorem cII_f : ∀ {cd : ClassFile.Cond} {x y : Int32}, cII (cNeg cd) x y → if_icmp.holds cd x y = false
  | .eq, _, _, q => XT.ii_eq_f q
  | .ne, _, _, q => XT.ii_ne_f q
  | .lt, _, _, q => XT.ii_lt_f q
  | .ge, _, _, q => XT.ii_ge_f q
  | .gt, _, _, q => XT.ii_gt_f q
  | .le, _, _, q => XT.ii_le_f q
theorem cLL_t : ∀ {cd : ClassFile.Cond} {x y : Int64}, cLL cd x y → ifCond.holds cd (XT.cmpL x y) = true
  | .eq, _, _, q => XT.ll_eq_t q
  | .ne, _, _, q => XT.ll_ne_t q
  | .lt, _, _, q => XT.ll_lt_t q
  | .ge, _, _, q => XT.ll_ge_t q
  | .gt, _, _, q => XT.ll_gt_t q
  | .le, _, _, q => XT.ll_le_t q
theorem cLL_f : ∀ {cd : ClassFile.Cond} {x y : Int64}, cLL (cNeg cd) x y → ifCond.holds cd (XT.cmpL x y) = false
  | .eq, _, _, q => XT.ll_eq_f q
  | .ne, _, _, q => XT.ll_ne_f q
  | .lt, _, _, q => XT.ll_lt_f q
  | .ge, _, _, q => XT.ll_ge_f q
  | .gt, _, _, q => XT.ll_gt_f q
  | .le, _, _, q => XT.ll_le_f q
theorem cI_em (cd : ClassFile.Cond) (x : Int32) : cI cd x ∨ cI (cNeg cd) x := by
  cases cd <;> simp only [cI, cNeg] <;> first | exact Classical.em _ | exact (Classical.em _).symm
theorem cII_em (cd : ClassFile.Cond) (x y : Int32) : cII cd x y ∨ cII (cNeg cd) x y := by
  cases cd <;> simp only [cII, cNeg] <;> first | exact Classical.em _ | exact (Classical.em _).symm
theorem cLL_em (cd : ClassFile.Cond) (x y : Int64) : cLL cd x y ∨ cLL (cNeg cd) x y := by
  cases cd <;> simp only [cLL, cNeg] <;> first | exact Classical.em _ | exact (Classical.em _).symm

theorem o_iload (X : Stand p l e R s m args below meth c T locs cells slots) (hx : p.tables.exec = Jvm.exec) (n : Nat) {k : Nat} {v : Int32} (hd : decode c.code pc = .ok (.iload k, 2)) (hl : Ls[k]? = some (.val (.int v))) (hp : pc + 2 = n) (hr : Wout p e below P T (mkF m n Ls (.int v :: rest))) : Wout p e below P T (mkF m pc Ls (rest)) := by
  subst hp
  exact Wout.of (fun _ ht => XS.iload X.here hx rfl hd hl ht) hr
theorem o_iloadN (X : Stand p l e R s m args below meth c T locs cells slots) (hx : p.tables.exec = Jvm.exec) (n : Nat) {k : Fin 4} {v : Int32} (hd : decode c.code pc = .ok (.iload_n k, 1)) (hl : Ls[k.val]? = some (.val (.int v))) (hp : pc + 1 = n) (hr : Wout p e below P T (mkF m n Ls (.int v :: rest))) : Wout p e below P T (mkF m pc Ls (rest)) := by
  subst hp
  exact Wout.of (fun _ ht => XS.iloadN X.here hx rfl hd hl ht) hr
theorem o_istore (X : Stand p l e R s m args below meth c T locs cells slots) (hx : p.tables.exec = Jvm.exec) (n : Nat) {k : Nat} {v : Int32} {Ls' : Array Slot} (hd : decode c.code pc = .ok (.istore k, 2)) (hl : storeLocals Ls k (.int v) = some Ls') (hp : pc + 2 = n) (hr : Wout p e below P T (mkF m n Ls' (rest))) : Wout p e below P T (mkF m pc Ls (.int v :: rest)) := by
  subst hp
  exact Wout.of (fun _ ht => XS.istore X.here hx rfl hd rfl hl ht) hr
theorem o_istoreN (X : Stand p l e R s m args below meth c T locs cells slots) (hx : p.tables.exec = Jvm.exec) (n : Nat) {k : Fin 4} {v : Int32} {Ls' : Array Slot} (hd : decode c.code pc = .ok (.istore_n k, 1)) (hl : storeLocals Ls k.val (.int v) = some Ls') (hp : pc + 1 = n) (hr : Wout p e below P T (mkF m n Ls' (rest))) : Wout p e below P T (mkF m pc Ls (.int v :: rest)) := by
  subst hp
  exact Wout.of (fun _ ht => XS.istoreN X.here hx rfl hd rfl hl ht) hr
theorem o_lload (X : Stand p l e R s m args below meth c T locs cells slots) (hx : p.tables.exec = Jvm.exec) (n : Nat) {k : Nat} {v : Int64} (hd : decode c.code pc = .ok (.lload k, 2)) (hl : Ls[k]? = some (.val (.long v))) (hp : pc + 2 = n) (hr : Wout p e below P T (mkF m n Ls (.long v :: rest))) : Wout p e below P T (mkF m pc Ls (rest)) := by
  subst hp
  exact Wout.of (fun _ ht => XT.lload X.here hx rfl hd hl ht) hr
theorem o_lloadN (X : Stand p l e R s m args below meth c T locs cells slots) (hx : p.tables.exec = Jvm.exec) (n : Nat) {k : Fin 4} {v : Int64} (hd : decode c.code pc = .ok (.lload_n k, 1)) (hl : Ls[k.val]? = some (.val (.long v))) (hp : pc + 1 = n) (hr : Wout p e below P T (mkF m n Ls (.long v :: rest))) : Wout p e below P T (mkF m pc Ls (rest)) := by
  subst hp
  exact Wout.of (fun _ ht => XT.lloadN X.here hx rfl hd hl ht) hr
theorem o_lstore (X : Stand p l e R s m args below meth c T locs cells slots) (hx : p.tables.exec = Jvm.exec) (n : Nat) {k : Nat} {v : Int64} {Ls' : Array Slot} (hd : decode c.code pc = .ok (.lstore k, 2)) (hl : storeLocals Ls k (.long v) = some Ls') (hp : pc + 2 = n) (hr : Wout p e below P T (mkF m n Ls' (rest))) : Wout p e below P T (mkF m pc Ls (.long v :: rest)) := by
  subst hp
  exact Wout.of (fun _ ht => XT.lstore X.here hx rfl hd rfl hl ht) hr
theorem o_lstoreN (X : Stand p l e R s m args below meth c T locs cells slots) (hx : p.tables.exec = Jvm.exec) (n : Nat) {k : Fin 4} {v : Int64} {Ls' : Array Slot} (hd : decode c.code pc = .ok (.lstore_n k, 1)) (hl : storeLocals Ls k.val (.long v) = some Ls') (hp : pc + 1 = n) (hr : Wout p e below P T (mkF m n Ls' (rest))) : Wout p e below P T (mkF m pc Ls (.long v :: rest)) := by
  subst hp
  exact Wout.of (fun _ ht => XT.lstoreN X.here hx rfl hd rfl hl ht) hr
theorem o_aload (X : Stand p l e R s m args below meth c T locs cells slots) (hx : p.tables.exec = Jvm.exec) (n : Nat) {k : Nat} {v : Value} (hd : decode c.code pc = .ok (.aload k, 2)) (hl : Ls[k]? = some (.val v)) (hv : v.isRef = true) (hp : pc + 2 = n) (hr : Wout p e below P T (mkF m n Ls (v :: rest))) : Wout p e below P T (mkF m pc Ls (rest)) := by
  subst hp
  exact Wout.of (fun _ ht => XS.aload X.here hx rfl hd hl hv ht) hr
theorem o_aloadN (X : Stand p l e R s m args below meth c T locs cells slots) (hx : p.tables.exec = Jvm.exec) (n : Nat) {k : Fin 4} {v : Value} (hd : decode c.code pc = .ok (.aload_n k, 1)) (hl : Ls[k.val]? = some (.val v)) (hv : v.isRef = true) (hp : pc + 1 = n) (hr : Wout p e below P T (mkF m n Ls (v :: rest))) : Wout p e below P T (mkF m pc Ls (rest)) := by
  subst hp
  exact Wout.of (fun _ ht => XS.aloadN X.here hx rfl hd hl hv ht) hr
theorem o_astore (X : Stand p l e R s m args below meth c T locs cells slots) (hx : p.tables.exec = Jvm.exec) (n : Nat) {k : Nat} {v : Value} {Ls' : Array Slot} (hd : decode c.code pc = .ok (.astore k, 2)) (hv : v.isRef = true) (hl : storeLocals Ls k v = some Ls') (hp : pc + 2 = n) (hr : Wout p e below P T (mkF m n Ls' (rest))) : Wout p e below P T (mkF m pc Ls (v :: rest)) := by
  subst hp
  exact Wout.of (fun _ ht => XS.astore X.here hx rfl hd rfl hv hl ht) hr
theorem o_astoreN (X : Stand p l e R s m args below meth c T locs cells slots) (hx : p.tables.exec = Jvm.exec) (n : Nat) {k : Fin 4} {v : Value} {Ls' : Array Slot} (hd : decode c.code pc = .ok (.astore_n k, 1)) (hv : v.isRef = true) (hl : storeLocals Ls k.val v = some Ls') (hp : pc + 1 = n) (hr : Wout p e below P T (mkF m n Ls' (rest))) : Wout p e below P T (mkF m pc Ls (v :: rest)) := by
  subst hp
  exact Wout.of (fun _ ht => XS.astoreN X.here hx rfl hd rfl hv hl ht) hr
theorem o_iconst (X : Stand p l e R s m args below meth c T locs cells slots) (hx : p.tables.exec = Jvm.exec) (n : Nat) {i : Int} (v : Int32) (hd : decode c.code pc = .ok (.iconst i, 1)) (hv : Int32.ofInt i = v) (hp : pc + 1 = n) (hr : Wout p e below P T (mkF m n Ls (.int v :: rest))) : Wout p e below P T (mkF m pc Ls (rest)) := by
  subst hp
  exact Wout.of (fun _ ht => XT.iconstV X.here hx rfl v hd hv ht) hr
theorem o_bipush (X : Stand p l e R s m args below meth c T locs cells slots) (hx : p.tables.exec = Jvm.exec) (n : Nat) {i : Int} (v : Int32) (hd : decode c.code pc = .ok (.bipush i, 2)) (hv : (Int8.ofInt i).toInt32 = v) (hp : pc + 2 = n) (hr : Wout p e below P T (mkF m n Ls (.int v :: rest))) : Wout p e below P T (mkF m pc Ls (rest)) := by
  subst hp
  exact Wout.of (fun _ ht => XT.bipushV X.here hx rfl v hd hv ht) hr
theorem o_sipush (X : Stand p l e R s m args below meth c T locs cells slots) (hx : p.tables.exec = Jvm.exec) (n : Nat) {i : Int} (v : Int32) (hd : decode c.code pc = .ok (.sipush i, 3)) (hv : (Int16.ofInt i).toInt32 = v) (hp : pc + 3 = n) (hr : Wout p e below P T (mkF m n Ls (.int v :: rest))) : Wout p e below P T (mkF m pc Ls (rest)) := by
  subst hp
  exact Wout.of (fun _ ht => XT.sipushV X.here hx rfl v hd hv ht) hr
theorem o_lconst (X : Stand p l e R s m args below meth c T locs cells slots) (hx : p.tables.exec = Jvm.exec) (n : Nat) {k : Fin 2} (v : Int64) (hd : decode c.code pc = .ok (.lconst k, 1)) (hv : Int64.ofNat k = v) (hp : pc + 1 = n) (hr : Wout p e below P T (mkF m n Ls (.long v :: rest))) : Wout p e below P T (mkF m pc Ls (rest)) := by
  subst hp
  exact Wout.of (fun _ ht => XT.lconstV X.here hx rfl v hd hv ht) hr
theorem o_aconst_null (X : Stand p l e R s m args below meth c T locs cells slots) (hx : p.tables.exec = Jvm.exec) (n : Nat)  (hd : decode c.code pc = .ok (.aconst_null, 1)) (hp : pc + 1 = n) (hr : Wout p e below P T (mkF m n Ls (.null :: rest))) : Wout p e below P T (mkF m pc Ls (rest)) := by
  subst hp
  exact Wout.of (fun _ ht => XS.aconstNull X.here hx rfl hd ht) hr
theorem o_iadd (X : Stand p l e R s m args below meth c T locs cells slots) (hx : p.tables.exec = Jvm.exec) (n : Nat) {x y : Int32} (hd : decode c.code pc = .ok (.iadd, 1)) (hp : pc + 1 = n) (hr : Wout p e below P T (mkF m n Ls (.int (x + y) :: rest))) : Wout p e below P T (mkF m pc Ls (.int y :: .int x :: rest)) := by
  subst hp
  exact Wout.of (fun _ ht => XS.iadd X.here hx rfl hd rfl ht) hr
theorem o_isub (X : Stand p l e R s m args below meth c T locs cells slots) (hx : p.tables.exec = Jvm.exec) (n : Nat) {x y : Int32} (hd : decode c.code pc = .ok (.isub, 1)) (hp : pc + 1 = n) (hr : Wout p e below P T (mkF m n Ls (.int (x - y) :: rest))) : Wout p e below P T (mkF m pc Ls (.int y :: .int x :: rest)) := by
  subst hp
  exact Wout.of (fun _ ht => XS.isub X.here hx rfl hd rfl ht) hr
theorem o_imul (X : Stand p l e R s m args below meth c T locs cells slots) (hx : p.tables.exec = Jvm.exec) (n : Nat) {x y : Int32} (hd : decode c.code pc = .ok (.imul, 1)) (hp : pc + 1 = n) (hr : Wout p e below P T (mkF m n Ls (.int (x * y) :: rest))) : Wout p e below P T (mkF m pc Ls (.int y :: .int x :: rest)) := by
  subst hp
  exact Wout.of (fun _ ht => XS.imul X.here hx rfl hd rfl ht) hr
theorem o_iand (X : Stand p l e R s m args below meth c T locs cells slots) (hx : p.tables.exec = Jvm.exec) (n : Nat) {x y : Int32} (hd : decode c.code pc = .ok (.iand, 1)) (hp : pc + 1 = n) (hr : Wout p e below P T (mkF m n Ls (.int (x &&& y) :: rest))) : Wout p e below P T (mkF m pc Ls (.int y :: .int x :: rest)) := by
  subst hp
  exact Wout.of (fun _ ht => XS.iand X.here hx rfl hd rfl ht) hr
theorem o_ior (X : Stand p l e R s m args below meth c T locs cells slots) (hx : p.tables.exec = Jvm.exec) (n : Nat) {x y : Int32} (hd : decode c.code pc = .ok (.ior, 1)) (hp : pc + 1 = n) (hr : Wout p e below P T (mkF m n Ls (.int (x ||| y) :: rest))) : Wout p e below P T (mkF m pc Ls (.int y :: .int x :: rest)) := by
  subst hp
  exact Wout.of (fun _ ht => XT.ior X.here hx rfl hd rfl ht) hr
theorem o_ixor (X : Stand p l e R s m args below meth c T locs cells slots) (hx : p.tables.exec = Jvm.exec) (n : Nat) {x y : Int32} (hd : decode c.code pc = .ok (.ixor, 1)) (hp : pc + 1 = n) (hr : Wout p e below P T (mkF m n Ls (.int (x ^^^ y) :: rest))) : Wout p e below P T (mkF m pc Ls (.int y :: .int x :: rest)) := by
  subst hp
  exact Wout.of (fun _ ht => XT.ixor X.here hx rfl hd rfl ht) hr
theorem o_ishl (X : Stand p l e R s m args below meth c T locs cells slots) (hx : p.tables.exec = Jvm.exec) (n : Nat) {x y : Int32} (hd : decode c.code pc = .ok (.ishl, 1)) (hp : pc + 1 = n) (hr : Wout p e below P T (mkF m n Ls (.int (x <<< (y &&& 31)) :: rest))) : Wout p e below P T (mkF m pc Ls (.int y :: .int x :: rest)) := by
  subst hp
  exact Wout.of (fun _ ht => XT.ishl X.here hx rfl hd rfl ht) hr
theorem o_ishr (X : Stand p l e R s m args below meth c T locs cells slots) (hx : p.tables.exec = Jvm.exec) (n : Nat) {x y : Int32} (hd : decode c.code pc = .ok (.ishr, 1)) (hp : pc + 1 = n) (hr : Wout p e below P T (mkF m n Ls (.int (x >>> (y &&& 31)) :: rest))) : Wout p e below P T (mkF m pc Ls (.int y :: .int x :: rest)) := by
  subst hp
  exact Wout.of (fun _ ht => XT.ishr X.here hx rfl hd rfl ht) hr
theorem o_iushr (X : Stand p l e R s m args below meth c T locs cells slots) (hx : p.tables.exec = Jvm.exec) (n : Nat) {x y : Int32} (hd : decode c.code pc = .ok (.iushr, 1)) (hp : pc + 1 = n) (hr : Wout p e below P T (mkF m n Ls (.int (XT.ushr x y) :: rest))) : Wout p e below P T (mkF m pc Ls (.int y :: .int x :: rest)) := by
  subst hp
  exact Wout.of (fun _ ht => XT.iushr X.here hx rfl hd rfl ht) hr
theorem o_ladd (X : Stand p l e R s m args below meth c T locs cells slots) (hx : p.tables.exec = Jvm.exec) (n : Nat) {x y : Int64} (hd : decode c.code pc = .ok (.ladd, 1)) (hp : pc + 1 = n) (hr : Wout p e below P T (mkF m n Ls (.long (x + y) :: rest))) : Wout p e below P T (mkF m pc Ls (.long y :: .long x :: rest)) := by
  subst hp
  exact Wout.of (fun _ ht => XT.ladd X.here hx rfl hd rfl ht) hr
theorem o_lsub (X : Stand p l e R s m args below meth c T locs cells slots) (hx : p.tables.exec = Jvm.exec) (n : Nat) {x y : Int64} (hd : decode c.code pc = .ok (.lsub, 1)) (hp : pc + 1 = n) (hr : Wout p e below P T (mkF m n Ls (.long (x - y) :: rest))) : Wout p e below P T (mkF m pc Ls (.long y :: .long x :: rest)) := by
  subst hp
  exact Wout.of (fun _ ht => XT.lsub X.here hx rfl hd rfl ht) hr
theorem o_lmul (X : Stand p l e R s m args below meth c T locs cells slots) (hx : p.tables.exec = Jvm.exec) (n : Nat) {x y : Int64} (hd : decode c.code pc = .ok (.lmul, 1)) (hp : pc + 1 = n) (hr : Wout p e below P T (mkF m n Ls (.long (x * y) :: rest))) : Wout p e below P T (mkF m pc Ls (.long y :: .long x :: rest)) := by
  subst hp
  exact Wout.of (fun _ ht => XT.lmul X.here hx rfl hd rfl ht) hr
theorem o_land (X : Stand p l e R s m args below meth c T locs cells slots) (hx : p.tables.exec = Jvm.exec) (n : Nat) {x y : Int64} (hd : decode c.code pc = .ok (.land, 1)) (hp : pc + 1 = n) (hr : Wout p e below P T (mkF m n Ls (.long (x &&& y) :: rest))) : Wout p e below P T (mkF m pc Ls (.long y :: .long x :: rest)) := by
  subst hp
  exact Wout.of (fun _ ht => XT.land X.here hx rfl hd rfl ht) hr
theorem o_lor (X : Stand p l e R s m args below meth c T locs cells slots) (hx : p.tables.exec = Jvm.exec) (n : Nat) {x y : Int64} (hd : decode c.code pc = .ok (.lor, 1)) (hp : pc + 1 = n) (hr : Wout p e below P T (mkF m n Ls (.long (x ||| y) :: rest))) : Wout p e below P T (mkF m pc Ls (.long y :: .long x :: rest)) := by
  subst hp
  exact Wout.of (fun _ ht => XT.lor X.here hx rfl hd rfl ht) hr
theorem o_lxor (X : Stand p l e R s m args below meth c T locs cells slots) (hx : p.tables.exec = Jvm.exec) (n : Nat) {x y : Int64} (hd : decode c.code pc = .ok (.lxor, 1)) (hp : pc + 1 = n) (hr : Wout p e below P T (mkF m n Ls (.long (x ^^^ y) :: rest))) : Wout p e below P T (mkF m pc Ls (.long y :: .long x :: rest)) := by
  subst hp
  exact Wout.of (fun _ ht => XT.lxor X.here hx rfl hd rfl ht) hr
theorem o_irem (X : Stand p l e R s m args below meth c T locs cells slots) (hx : p.tables.exec = Jvm.exec) (n : Nat) {x y : Int32} (hd : decode c.code pc = .ok (.irem, 1)) (hy : y ≠ 0) (hp : pc + 1 = n) (hr : Wout p e below P T (mkF m n Ls (.int (x % y) :: rest))) : Wout p e below P T (mkF m pc Ls (.int y :: .int x :: rest)) := by
  subst hp
  exact Wout.of (fun _ ht => iremM X hx rfl hd rfl hy ht) hr
theorem o_idiv (X : Stand p l e R s m args below meth c T locs cells slots) (hx : p.tables.exec = Jvm.exec) (n : Nat) {x y : Int32} (hd : decode c.code pc = .ok (.idiv, 1)) (hy : y ≠ 0) (hp : pc + 1 = n) (hr : Wout p e below P T (mkF m n Ls (.int (x / y) :: rest))) : Wout p e below P T (mkF m pc Ls (.int y :: .int x :: rest)) := by
  subst hp
  exact Wout.of (fun _ ht => XS.idiv X.here hx rfl hd rfl hy ht) hr
theorem o_lshl (X : Stand p l e R s m args below meth c T locs cells slots) (hx : p.tables.exec = Jvm.exec) (n : Nat) {x : Int64} {y : Int32} (hd : decode c.code pc = .ok (.lshl, 1)) (hp : pc + 1 = n) (hr : Wout p e below P T (mkF m n Ls (.long (x <<< (y.toInt64 &&& 63)) :: rest))) : Wout p e below P T (mkF m pc Ls (.int y :: .long x :: rest)) := by
  subst hp
  exact Wout.of (fun _ ht => XT.lshl X.here hx rfl hd rfl ht) hr
theorem o_lshr (X : Stand p l e R s m args below meth c T locs cells slots) (hx : p.tables.exec = Jvm.exec) (n : Nat) {x : Int64} {y : Int32} (hd : decode c.code pc = .ok (.lshr, 1)) (hp : pc + 1 = n) (hr : Wout p e below P T (mkF m n Ls (.long (x >>> (y.toInt64 &&& 63)) :: rest))) : Wout p e below P T (mkF m pc Ls (.int y :: .long x :: rest)) := by
  subst hp
  exact Wout.of (fun _ ht => XT.lshr X.here hx rfl hd rfl ht) hr
theorem o_lushr (X : Stand p l e R s m args below meth c T locs cells slots) (hx : p.tables.exec = Jvm.exec) (n : Nat) {x : Int64} {y : Int32} (hd : decode c.code pc = .ok (.lushr, 1)) (hp : pc + 1 = n) (hr : Wout p e below P T (mkF m n Ls (.long (XT.ushrL x y) :: rest))) : Wout p e below P T (mkF m pc Ls (.int y :: .long x :: rest)) := by
  subst hp
  exact Wout.of (fun _ ht => XT.lushr X.here hx rfl hd rfl ht) hr
theorem o_ineg (X : Stand p l e R s m args below meth c T locs cells slots) (hx : p.tables.exec = Jvm.exec) (n : Nat) {x : Int32} (hd : decode c.code pc = .ok (.ineg, 1)) (hp : pc + 1 = n) (hr : Wout p e below P T (mkF m n Ls (.int (-x) :: rest))) : Wout p e below P T (mkF m pc Ls (.int x :: rest)) := by
  subst hp
  exact Wout.of (fun _ ht => XS.ineg X.here hx rfl hd rfl ht) hr
theorem o_i2l (X : Stand p l e R s m args below meth c T locs cells slots) (hx : p.tables.exec = Jvm.exec) (n : Nat) {x : Int32} (hd : decode c.code pc = .ok (.i2l, 1)) (hp : pc + 1 = n) (hr : Wout p e below P T (mkF m n Ls (.long (x.toInt64) :: rest))) : Wout p e below P T (mkF m pc Ls (.int x :: rest)) := by
  subst hp
  exact Wout.of (fun _ ht => XT.i2l X.here hx rfl hd rfl ht) hr
theorem o_l2i (X : Stand p l e R s m args below meth c T locs cells slots) (hx : p.tables.exec = Jvm.exec) (n : Nat) {x : Int64} (hd : decode c.code pc = .ok (.l2i, 1)) (hp : pc + 1 = n) (hr : Wout p e below P T (mkF m n Ls (.int (x.toInt32) :: rest))) : Wout p e below P T (mkF m pc Ls (.long x :: rest)) := by
  subst hp
  exact Wout.of (fun _ ht => XT.l2i X.here hx rfl hd rfl ht) hr
theorem o_i2b (X : Stand p l e R s m args below meth c T locs cells slots) (hx : p.tables.exec = Jvm.exec) (n : Nat) {x : Int32} (hd : decode c.code pc = .ok (.i2b, 1)) (hp : pc + 1 = n) (hr : Wout p e below P T (mkF m n Ls (.int (x.toInt8.toInt32) :: rest))) : Wout p e below P T (mkF m pc Ls (.int x :: rest)) := by
  subst hp
  exact Wout.of (fun _ ht => XT.i2b X.here hx rfl hd rfl ht) hr
theorem o_i2c (X : Stand p l e R s m args below meth c T locs cells slots) (hx : p.tables.exec = Jvm.exec) (n : Nat) {x : Int32} (hd : decode c.code pc = .ok (.i2c, 1)) (hp : pc + 1 = n) (hr : Wout p e below P T (mkF m n Ls (.int (x.toUInt32.toUInt16.toUInt32.toInt32) :: rest))) : Wout p e below P T (mkF m pc Ls (.int x :: rest)) := by
  subst hp
  exact Wout.of (fun _ ht => XT.i2c X.here hx rfl hd rfl ht) hr
theorem o_i2s (X : Stand p l e R s m args below meth c T locs cells slots) (hx : p.tables.exec = Jvm.exec) (n : Nat) {x : Int32} (hd : decode c.code pc = .ok (.i2s, 1)) (hp : pc + 1 = n) (hr : Wout p e below P T (mkF m n Ls (.int (x.toInt16.toInt32) :: rest))) : Wout p e below P T (mkF m pc Ls (.int x :: rest)) := by
  subst hp
  exact Wout.of (fun _ ht => XT.i2s X.here hx rfl hd rfl ht) hr
theorem o_lcmp (X : Stand p l e R s m args below meth c T locs cells slots) (hx : p.tables.exec = Jvm.exec) (n : Nat) {x y : Int64} (hd : decode c.code pc = .ok (.lcmp, 1)) (hp : pc + 1 = n) (hr : Wout p e below P T (mkF m n Ls (.int (XT.cmpL x y) :: rest))) : Wout p e below P T (mkF m pc Ls (.long y :: .long x :: rest)) := by
  subst hp
  exact Wout.of (fun _ ht => XT.lcmp X.here hx rfl hd rfl ht) hr
theorem o_dup (X : Stand p l e R s m args below meth c T locs cells slots) (hx : p.tables.exec = Jvm.exec) (n : Nat) {v : Value} (hd : decode c.code pc = .ok (.dup, 1)) (hc : v.category = 1) (hp : pc + 1 = n) (hr : Wout p e below P T (mkF m n Ls (v :: v :: rest))) : Wout p e below P T (mkF m pc Ls (v :: rest)) := by
  subst hp
  exact Wout.of (fun _ ht => XS.dup X.here hx rfl hd rfl hc ht) hr
theorem o_pop (X : Stand p l e R s m args below meth c T locs cells slots) (hx : p.tables.exec = Jvm.exec) (n : Nat) {v : Value} (hd : decode c.code pc = .ok (.pop, 1)) (hc : v.category = 1) (hp : pc + 1 = n) (hr : Wout p e below P T (mkF m n Ls (rest))) : Wout p e below P T (mkF m pc Ls (v :: rest)) := by
  subst hp
  exact Wout.of (fun _ ht => XT.pop X.here hx rfl hd rfl hc ht) hr
theorem o_dup_x1 (X : Stand p l e R s m args below meth c T locs cells slots) (hx : p.tables.exec = Jvm.exec) (n : Nat) {v w : Value} (hd : decode c.code pc = .ok (.dup_x1, 1)) (hc : v.category = 1) (hc' : w.category = 1) (hp : pc + 1 = n) (hr : Wout p e below P T (mkF m n Ls (v :: w :: v :: rest))) : Wout p e below P T (mkF m pc Ls (v :: w :: rest)) := by
  subst hp
  exact Wout.of (fun _ ht => XT.dupX1 X.here hx rfl hd rfl hc hc' ht) hr
theorem o_dup2 (X : Stand p l e R s m args below meth c T locs cells slots) (hx : p.tables.exec = Jvm.exec) (n : Nat) {v w : Value} (hd : decode c.code pc = .ok (.dup2, 1)) (hc : v.category = 1) (hc' : w.category = 1) (hp : pc + 1 = n) (hr : Wout p e below P T (mkF m n Ls (v :: w :: v :: w :: rest))) : Wout p e below P T (mkF m pc Ls (v :: w :: rest)) := by
  subst hp
  exact Wout.of (fun _ ht => XT.dup2 X.here hx rfl hd rfl hc hc' ht) hr
theorem o_iinc (X : Stand p l e R s m args below meth c T locs cells slots) (hx : p.tables.exec = Jvm.exec) (n : Nat) {k : Nat} {i : Int} {x : Int32} {Ls' : Array Slot} (v : Int32) (hd : decode c.code pc = .ok (.iinc k i, 3)) (hv : Int32.ofInt i = v) (hl : Ls[k]? = some (.val (.int x))) (hl' : storeLocals Ls k (.int (x + v)) = some Ls') (hp : pc + 3 = n) (hr : Wout p e below P T (mkF m n Ls' (rest))) : Wout p e below P T (mkF m pc Ls (rest)) := by
  subst hp
  exact Wout.of (fun _ ht => XT.iincV X.here hx rfl v hd hv hl hl' ht) hr
theorem jmp {pc n : Nat} {o : Int} (hp : (pc : Int) + o = (n : Int)) : 0 ≤ (pc : Int) + o ∧ ((pc : Int) + o).toNat = n := by rw [hp]; exact ⟨Int.natCast_nonneg n, Int.toNat_natCast n⟩
theorem o_goto (X : Stand p l e R s m args below meth c T locs cells slots) (hx : p.tables.exec = Jvm.exec) (n : Nat) {o : Int} (hd : decode c.code pc = .ok (.goto o, 3)) (hp : (pc : Int) + o = (n : Int)) (hr : Wout p e below P T (mkF m n Ls rest)) : Wout p e below P T (mkF m pc Ls rest) :=
  Wout.of (fun _ ht => XS.goto X.here hx rfl (pc0 := pc) rfl hd (jmp hp).1 (jmp hp).2 ht) hr
theorem o_ifT (X : Stand p l e R s m args below meth c T locs cells slots) (hx : p.tables.exec = Jvm.exec) (n : Nat) {cd : ClassFile.Cond} {x : Int32} {o : Int} (hd : decode c.code pc = .ok (.ifCond cd o, 3)) (hp : (pc : Int) + o = (n : Int)) (q : cI cd x) (hr : Wout p e below P T (mkF m n Ls rest)) : Wout p e below P T (mkF m pc Ls (.int x :: rest)) :=
  Wout.of (fun _ ht => XS.ifYes X.here hx rfl (pc0 := pc) rfl hd rfl (cI_t q) (jmp hp).1 (jmp hp).2 ht) hr
theorem o_ifF (X : Stand p l e R s m args below meth c T locs cells slots) (hx : p.tables.exec = Jvm.exec) (n : Nat) {cd : ClassFile.Cond} {x : Int32} {o : Int} (hd : decode c.code pc = .ok (.ifCond cd o, 3)) (hp : pc + 3 = n) (q : cI (cNeg cd) x) (hr : Wout p e below P T (mkF m n Ls rest)) : Wout p e below P T (mkF m pc Ls (.int x :: rest)) := by
  subst hp
  exact Wout.of (fun _ ht => XS.ifNo X.here hx rfl hd rfl (cI_f q) ht) hr
theorem o_if (X : Stand p l e R s m args below meth c T locs cells slots) (hx : p.tables.exec = Jvm.exec) (n1 n2 : Nat) {cd : ClassFile.Cond} {x : Int32} {o : Int} (hd : decode c.code pc = .ok (.ifCond cd o, 3)) (hp1 : (pc : Int) + o = (n1 : Int)) (hp2 : pc + 3 = n2) (h1 : cI cd x → Wout p e below P T (mkF m n1 Ls rest)) (h2 : cI (cNeg cd) x → Wout p e below P T (mkF m n2 Ls rest)) : Wout p e below P T (mkF m pc Ls (.int x :: rest)) :=
  (cI_em cd x).elim (fun q => o_ifT X hx n1 hd hp1 q (h1 q)) (fun q => o_ifF X hx n2 hd hp2 q (h2 q))
theorem o_ifLT (X : Stand p l e R s m args below meth c T locs cells slots) (hx : p.tables.exec = Jvm.exec) (n : Nat) {cd : ClassFile.Cond} {x y : Int64} {o : Int} (hd : decode c.code pc = .ok (.ifCond cd o, 3)) (hp : (pc : Int) + o = (n : Int)) (q : cLL cd x y) (hr : Wout p e below P T (mkF m n Ls rest)) : Wout p e below P T (mkF m pc Ls (.int (XT.cmpL x y) :: rest)) :=
  Wout.of (fun _ ht => XS.ifYes X.here hx rfl (pc0 := pc) rfl hd rfl (cLL_t q) (jmp hp).1 (jmp hp).2 ht) hr
theorem o_ifLF (X : Stand p l e R s m args below meth c T locs cells slots) (hx : p.tables.exec = Jvm.exec) (n : Nat) {cd : ClassFile.Cond} {x y : Int64} {o : Int} (hd : decode c.code pc = .ok (.ifCond cd o, 3)) (hp : pc + 3 = n) (q : cLL (cNeg cd) x y) (hr : Wout p e below P T (mkF m n Ls rest)) : Wout p e below P T (mkF m pc Ls (.int (XT.cmpL x y) :: rest)) := by
  subst hp
  exact Wout.of (fun _ ht => XS.ifNo X.here hx rfl hd rfl (cLL_f q) ht) hr
theorem o_ifL (X : Stand p l e R s m args below meth c T locs cells slots) (hx : p.tables.exec = Jvm.exec) (n1 n2 : Nat) {cd : ClassFile.Cond} {x y : Int64} {o : Int} (hd : decode c.code pc = .ok (.ifCond cd o, 3)) (hp1 : (pc : Int) + o = (n1 : Int)) (hp2 : pc + 3 = n2) (h1 : cLL cd x y → Wout p e below P T (mkF m n1 Ls rest)) (h2 : cLL (cNeg cd) x y → Wout p e below P T (mkF m n2 Ls rest)) : Wout p e below P T (mkF m pc Ls (.int (XT.cmpL x y) :: rest)) :=
  (cLL_em cd x y).elim (fun q => o_ifLT X hx n1 hd hp1 q (h1 q)) (fun q => o_ifLF X hx n2 hd hp2 q (h2 q))
theorem o_icmpT (X : Stand p l e R s m args below meth c T locs cells slots) (hx : p.tables.exec = Jvm.exec) (n : Nat) {cd : ClassFile.Cond} {x y : Int32} {o : Int} (hd : decode c.code pc = .ok (.if_icmp cd o, 3)) (hp : (pc : Int) + o = (n : Int)) (q : cII cd x y) (hr : Wout p e below P T (mkF m n Ls rest)) : Wout p e below P T (mkF m pc Ls (.int y :: .int x :: rest)) :=
  Wout.of (fun _ ht => XS.icmpYes X.here hx rfl (pc0 := pc) rfl hd rfl (cII_t q) (jmp hp).1 (jmp hp).2 ht) hr
theorem o_icmpF (X : Stand p l e R s m args below meth c T locs cells slots) (hx : p.tables.exec = Jvm.exec) (n : Nat) {cd : ClassFile.Cond} {x y : Int32} {o : Int} (hd : decode c.code pc = .ok (.if_icmp cd o, 3)) (hp : pc + 3 = n) (q : cII (cNeg cd) x y) (hr : Wout p e below P T (mkF m n Ls rest)) : Wout p e below P T (mkF m pc Ls (.int y :: .int x :: rest)) := by
  subst hp
  exact Wout.of (fun _ ht => XS.icmpNo X.here hx rfl hd rfl (cII_f q) ht) hr
theorem o_icmp (X : Stand p l e R s m args below meth c T locs cells slots) (hx : p.tables.exec = Jvm.exec) (n1 n2 : Nat) {cd : ClassFile.Cond} {x y : Int32} {o : Int} (hd : decode c.code pc = .ok (.if_icmp cd o, 3)) (hp1 : (pc : Int) + o = (n1 : Int)) (hp2 : pc + 3 = n2) (h1 : cII cd x y → Wout p e below P T (mkF m n1 Ls rest)) (h2 : cII (cNeg cd) x y → Wout p e below P T (mkF m n2 Ls rest)) : Wout p e below P T (mkF m pc Ls (.int y :: .int x :: rest)) :=
  (cII_em cd x y).elim (fun q => o_icmpT X hx n1 hd hp1 q (h1 q)) (fun q => o_icmpF X hx n2 hd hp2 q (h2 q))
theorem o_ifnullT (X : Stand p l e R s m args below meth c T locs cells slots) (hx : p.tables.exec = Jvm.exec) (n : Nat) {o : Int} (hd : decode c.code pc = .ok (.ifnull o, 3)) (hp : (pc : Int) + o = (n : Int)) (hr : Wout p e below P T (mkF m n Ls rest)) : Wout p e below P T (mkF m pc Ls (.null :: rest)) :=
  Wout.of (fun _ ht => XS.ifnullYes X.here hx rfl (pc0 := pc) rfl hd rfl (jmp hp).1 (jmp hp).2 ht) hr
theorem o_ifnullF (X : Stand p l e R s m args below meth c T locs cells slots) (hx : p.tables.exec = Jvm.exec) (n : Nat) {o : Int} {a : Addr} (hd : decode c.code pc = .ok (.ifnull o, 3)) (hp : pc + 3 = n) (hr : Wout p e below P T (mkF m n Ls rest)) : Wout p e below P T (mkF m pc Ls (.ref a :: rest)) := by
  subst hp
  exact Wout.of (fun _ ht => XS.ifnullNo X.here hx rfl hd rfl ht) hr
theorem o_ifnonnullT (X : Stand p l e R s m args below meth c T locs cells slots) (hx : p.tables.exec = Jvm.exec) (n : Nat) {o : Int} {a : Addr} (hd : decode c.code pc = .ok (.ifnonnull o, 3)) (hp : (pc : Int) + o = (n : Int)) (hr : Wout p e below P T (mkF m n Ls rest)) : Wout p e below P T (mkF m pc Ls (.ref a :: rest)) :=
  Wout.of (fun _ ht => XT.ifnonnullYes X.here hx rfl (pc0 := pc) rfl hd rfl (jmp hp).1 (jmp hp).2 ht) hr
theorem o_ifnonnullF (X : Stand p l e R s m args below meth c T locs cells slots) (hx : p.tables.exec = Jvm.exec) (n : Nat) {o : Int} (hd : decode c.code pc = .ok (.ifnonnull o, 3)) (hp : pc + 3 = n) (hr : Wout p e below P T (mkF m n Ls rest)) : Wout p e below P T (mkF m pc Ls (.null :: rest)) := by
  subst hp
  exact Wout.of (fun _ ht => XT.ifnonnullNo X.here hx rfl hd rfl ht) hr
theorem o_acmpT (X : Stand p l e R s m args below meth c T locs cells slots) (hx : p.tables.exec = Jvm.exec) (n : Nat) {cd : ClassFile.ACond} {x y : Value} {o : Int} (hd : decode c.code pc = .ok (.if_acmp cd o, 3)) (h1 : x.isRef = true) (h2 : y.isRef = true) (hp : (pc : Int) + o = (n : Int)) (q : XT.acmp cd x y = true) (hr : Wout p e below P T (mkF m n Ls rest)) : Wout p e below P T (mkF m pc Ls (y :: x :: rest)) :=
  Wout.of (fun _ ht => XT.acmpYes X.here hx rfl (pc0 := pc) rfl hd rfl h1 h2 q (jmp hp).1 (jmp hp).2 ht) hr
theorem o_acmpF (X : Stand p l e R s m args below meth c T locs cells slots) (hx : p.tables.exec = Jvm.exec) (n : Nat) {cd : ClassFile.ACond} {x y : Value} {o : Int} (hd : decode c.code pc = .ok (.if_acmp cd o, 3)) (h1 : x.isRef = true) (h2 : y.isRef = true) (hp : pc + 3 = n) (q : XT.acmp cd x y = false) (hr : Wout p e below P T (mkF m n Ls rest)) : Wout p e below P T (mkF m pc Ls (y :: x :: rest)) := by
  subst hp
  exact Wout.of (fun _ ht => XT.acmpNo X.here hx rfl hd rfl h1 h2 q ht) hr
theorem o_tsw (X : Stand p l e R s m args below meth c T locs cells slots) (hx : p.tables.exec = Jvm.exec) (n : Nat) {dflt low high : Int} {offs : Array Int} {len : Nat} {o : Int} {i : Int32} (hd : decode c.code pc = .ok (.tableswitch dflt low high offs, len)) (hin : ¬ (i.toInt < low ∨ i.toInt > high)) (hoff : offs[(i.toInt - low).toNat]? = some o) (hp : (pc : Int) + o = (n : Int)) (hr : Wout p e below P T (mkF m n Ls rest)) : Wout p e below P T (mkF m pc Ls (.int i :: rest)) :=
  Wout.of (fun _ ht => XS.tswIn X.here hx rfl (pc0 := pc) rfl hd rfl hin hoff (jmp hp).1 (jmp hp).2 ht) hr
/-! constants of the pool, fields, statics -/
theorem o_ldc (X : Stand p l e R s m args below meth c T locs cells slots) (hx : p.tables.exec = Jvm.exec) (hZ : Z.Warmed39 s.vm) (n : Nat) {own : String} {index : Nat} {v : Int32} (hown : s.vm.findClass own = some m.cls) (w : (Jvm.Cond.constant own index v).before a0 Z = true) (hd : decode c.code pc = .ok (.ldc index, 2)) (hp : pc + 2 = n) (hr : Wout p e below P T (mkF m n Ls (.int v :: rest))) : Wout p e below P T (mkF m pc Ls rest) := by
  subst hp
  exact Wout.of (fun _ ht => X.ldcI hx hown (mv hZ w) rfl hd ht) hr
theorem o_ldc2 (X : Stand p l e R s m args below meth c T locs cells slots) (hx : p.tables.exec = Jvm.exec) (hZ : Z.Warmed39 s.vm) (n : Nat) {own : String} {index : Nat} {v : Int64} (hown : s.vm.findClass own = some m.cls) (w : (Jvm.Cond.constantLong own index v).before a0 Z = true) (hd : decode c.code pc = .ok (.ldc2_w index, 3)) (hp : pc + 3 = n) (hr : Wout p e below P T (mkF m n Ls (.long v :: rest))) : Wout p e below P T (mkF m pc Ls rest) := by
  subst hp
  exact Wout.of (fun _ ht => X.ldc2J hx hown (mv hZ w) rfl hd ht) hr
theorem o_getF (X : Stand p l e R s m args below meth c T locs cells slots) (hx : p.tables.exec = Jvm.exec) (hZ : Z.Warmed39 s.vm) {own R0 O nm d host : String} {index : Nat} (hown : s.vm.findClass own = some m.cls) (w : (Jvm.Cond.fieldLink own index R0 nm d).before a0 Z = true ∨ (Jvm.Cond.fieldLinkNest own index R0 nm d host).before a0 Z = true) (via : Via Z R0 O nm d) (eT : T.heap = h) {a : Addr} {v : Value} (F : Fld Z h a O nm d v) (n : Nat) (hd : decode c.code pc = .ok (.getfield index, 3)) (hp : pc + 3 = n)
    (hr : ∀ T', Stand p l e R s m args below meth c T' locs cells slots → T'.heap = h → Wout p e below P T' (mkF m n Ls (v :: rest))) : Wout p e below P T (mkF m pc Ls (.ref a :: rest)) := by
  subst hp
  obtain ⟨T', X', e', st⟩ := getF X hx hZ hown w via eT F (g := mkF m pc Ls (.ref a :: rest)) rfl rfl hd
  exact Wout.of st (hr T' X' e')
theorem o_getS (X : Stand p l e R s m args below meth c T locs cells slots) (hx : p.tables.exec = Jvm.exec) (hZ : Z.Warmed39 s.vm) {own R0 O nm d host : String} {index : Nat} (hown : s.vm.findClass own = some m.cls) (w : (Jvm.Cond.fieldLink own index R0 nm d).before a0 Z = true ∨ (Jvm.Cond.fieldLinkNest own index R0 nm d host).before a0 Z = true) (via : Via Z R0 O nm d) (eT : T.heap = h) {v : Value} (F : Sta Z h O nm d v) (n : Nat) (hd : decode c.code pc = .ok (.getstatic index, 3)) (hp : pc + 3 = n)
    (hr : ∀ T', Stand p l e R s m args below meth c T' locs cells slots → T'.heap = h → Wout p e below P T' (mkF m n Ls (v :: rest))) : Wout p e below P T (mkF m pc Ls rest) := by
  subst hp
  obtain ⟨T', X', e', st⟩ := getS2 X hx hZ hown w via eT F (g := mkF m pc Ls rest) rfl hd
  exact Wout.of st (hr T' X' e')
theorem o_putF (X : Stand p l e R s m args below meth c T locs cells slots) (hx : p.tables.exec = Jvm.exec) (hZ : Z.Warmed39 s.vm) {own R0 O nm d host C : String} {index kk : Nat} (ty : FieldType) (hown : s.vm.findClass own = some m.cls) (w : (Jvm.Cond.fieldLink own index R0 nm d).before a0 Z = true ∨ (Jvm.Cond.fieldLinkNest own index R0 nm d host).before a0 Z = true) (via : Via Z R0 O nm d) (eT : T.heap = h) {a : Addr} {v old : Value} (F : Fld Z h a O nm d old) (E : Exa Z h a C)
    (L : (Jvm.Cond.lays C O nm d).before a0 Z = true ∨ ((Jvm.Cond.laysFinal C O nm d).before a0 Z = true ∧ own = O ∧ meth.name = "<init>")) (wi : (Jvm.Cond.instantiable C kk).before a0 Z = true) (hty : parseFieldDescriptor d = some ty) (hn : Jvm.narrow ty v = v) (hf : fits ty v = true) {n0 : Nat} (N : Fr n0 locs) (g : n0 ≤ a) (n : Nat) (hd : decode c.code pc = .ok (.putfield index, 3)) (hp : pc + 3 = n)
    (hr : ∀ T' h' locs', Stand p l e R s m args below meth c T' locs' cells slots → T'.heap = h' → Wr h h' a (RoadKit.slotOf Z O nm d) v → Fr n0 locs' → Wout p e below P T' (mkF m n Ls rest)) : Wout p e below P T (mkF m pc Ls (v :: .ref a :: rest)) := by
  subst hp
  obtain ⟨T', h', X', e', W, st⟩ := putF X hx hZ hown w via eT F E L wi hty hn hf (g := mkF m pc Ls (v :: .ref a :: rest)) rfl rfl hd
  exact Wout.of st (hr T' h' _ X' e' W (Fr.snoc X' N g))
theorem o_putFN (X : Stand p l e R s m args below meth c T locs cells slots) (hx : p.tables.exec = Jvm.exec) (hZ : Z.Warmed39 s.vm) {own R0 O nm d C : String} {index kk : Nat} (ty : FieldType) (hown : s.vm.findClass own = some m.cls) (w : (Jvm.Cond.fieldLink own index R0 nm d).before a0 Z = true) (via : Via Z R0 O nm d) (eT : T.heap = h) {a : Addr} {v v' old : Value} (F : Fld Z h a O nm d old) (E : Exa Z h a C)
    (L : (Jvm.Cond.lays C O nm d).before a0 Z = true ∨ ((Jvm.Cond.laysFinal C O nm d).before a0 Z = true ∧ own = O ∧ meth.name = "<init>")) (wi : (Jvm.Cond.instantiable C kk).before a0 Z = true) (hty : parseFieldDescriptor d = some ty) (hn : Jvm.narrow ty v = v') (hf : fits ty v' = true) {n0 : Nat} (N : Fr n0 locs) (g : n0 ≤ a) (n : Nat) (hd : decode c.code pc = .ok (.putfield index, 3)) (hp : pc + 3 = n)
    (hr : ∀ T' h' locs', Stand p l e R s m args below meth c T' locs' cells slots → T'.heap = h' → Wr h h' a (RoadKit.slotOf Z O nm d) v' → Fr n0 locs' → Wout p e below P T' (mkF m n Ls rest)) : Wout p e below P T (mkF m pc Ls (v :: .ref a :: rest)) := by
  subst hp
  obtain ⟨T', h', X', e', W, st⟩ := putFN X hx hZ hown w via eT F E L wi hty hn hf (g := mkF m pc Ls (v :: .ref a :: rest)) rfl rfl hd
  exact Wout.of st (hr T' h' _ X' e' W (Fr.snoc X' N g))
/-! objects and arrays that are made -/
theorem o_new (X : Stand p l e R s m args below meth c T locs cells slots) (hx : p.tables.exec = Jvm.exec) (hZ : Z.Warmed39 s.vm) {own C : String} {index k : Nat} (hown : s.vm.findClass own = some m.cls) (w : (Jvm.Cond.classLink own index C).before a0 Z = true) (wi : (Jvm.Cond.instantiable C k).before a0 Z = true) (wz : (Jvm.Cond.initialized C).before a0 Z = true) (eT : T.heap = h) (n : Nat) (hd : decode c.code pc = .ok (.new index, 3)) (hp : pc + 3 = n) (hc : cells + 1 ≤ R.cells) (hl : slots + k ≤ R.slots)
    (hr : ∀ T' h' (b : Addr), b = h.size → Stand p l e R s m args below meth c T' locs (cells + 1) (slots + k) → T'.heap = h' → Ext h h' → Exa Z h' b C → (∀ {O nm d : String} {ty : FieldType}, Laid Z a0 C O nm d → parseFieldDescriptor d = some ty → Fld Z h' b O nm d (defaultValue ty)) → Wout p e below P T' (mkF m n Ls (.ref b :: rest))) : Wout p e below P T (mkF m pc Ls rest) := by
  subst hp
  obtain ⟨T', h', X', e', E, A, D, -, st⟩ := newO X hx hZ hown w wi wz eT (g := mkF m pc Ls rest) rfl hd hc hl
  exact Wout.of st (hr T' h' _ rfl X' e' E A D)
theorem o_newarray (X : Stand p l e R s m args below meth c T locs cells slots) (hx : p.tables.exec = Jvm.exec) (hZ : Z.Warmed39 s.vm) {aty : ArrayType} (w : (Jvm.Cond.arrayClass (newarray.typeOf aty)).before a0 Z = true) (eT : T.heap = h) (n : Nat) (hd : decode c.code pc = .ok (.newarray aty, 2)) (hp : pc + 2 = n) {z : Int32} (hz : ¬ z < 0) (cap : Nat) (hcap : z.toNatClampNeg ≤ cap) (hbb : cap * 8 ≤ 536870912) (hc : cells + 1 ≤ R.cells) (hl : slots + cap ≤ R.slots)
    (hr : ∀ T' h' (b : Addr) (k : ClassId), b = h.size → Stand p l e R s m args below meth c T' locs (cells + 1) (slots + cap) → T'.heap = h' → Ext h h' → Arv Z h' b k (newarray.typeOf aty) z [] (defaultValue (newarray.typeOf aty)) → Wout p e below P T' (mkF m n Ls (.ref b :: rest))) : Wout p e below P T (mkF m pc Ls (.int z :: rest)) := by
  subst hp
  obtain ⟨T', h', cA, X', e', E, A, st⟩ := newP X hx hZ w eT (g := mkF m pc Ls (.int z :: rest)) rfl hd rfl hz hcap hbb hc hl
  exact Wout.of st (hr T' h' _ cA rfl X' e' E (Arv.new A hz))
theorem o_anewarray (X : Stand p l e R s m args below meth c T locs cells slots) (hx : p.tables.exec = Jvm.exec) (hZ : Z.Warmed39 s.vm) {own C : String} {index : Nat} (hown : s.vm.findClass own = some m.cls) (w1 : (Jvm.Cond.classLink own index C).before a0 Z = true) (w2 : (Jvm.Cond.arrayOver (.object C)).before a0 Z = true) (eT : T.heap = h) (n : Nat) (hd : decode c.code pc = .ok (.anewarray index, 3)) (hp : pc + 3 = n) {z : Int32} (hz : ¬ z < 0) (cap : Nat) (hcap : z.toNatClampNeg ≤ cap) (hbb : cap * 8 ≤ 536870912) (hc : cells + 1 ≤ R.cells) (hl : slots + cap ≤ R.slots)
    (hr : ∀ T' h' (b : Addr) (k : ClassId), b = h.size → Stand p l e R s m args below meth c T' locs (cells + 1) (slots + cap) → T'.heap = h' → Ext h h' → Arv Z h' b k (.object C) z [] .null → Ovr Z k C → Wout p e below P T' (mkF m n Ls (.ref b :: rest))) : Wout p e below P T (mkF m pc Ls (.int z :: rest)) := by
  subst hp
  obtain ⟨T', h', cA, X', e', E, A, O, st⟩ := newR X hx hZ hown w1 w2 eT (g := mkF m pc Ls (.int z :: rest)) rfl hd rfl hz hcap hbb hc hl
  exact Wout.of st (hr T' h' _ cA rfl X' e' E (Arv.new A hz) O)
theorem o_arraylength (X : Stand p l e R s m args below meth c T locs cells slots) (hx : p.tables.exec = Jvm.exec) (hZ : Z.Warmed39 s.vm) (eT : T.heap = h) {a : Addr} {k : ClassId} {ty : FieldType} {z : Int32} {vs : List Value} {dv : Value} (V : Arv Z h a k ty z vs dv) (n : Nat) (hd : decode c.code pc = .ok (.arraylength, 1)) (hp : pc + 1 = n) (hr : Wout p e below P T (mkF m n Ls (.int z :: rest))) : Wout p e below P T (mkF m pc Ls (.ref a :: rest)) := by
  subst hp
  obtain ⟨cl, A, -, S, M, -, -⟩ := V
  rw [← len_of S M] at hr
  exact Wout.of (fun _ ht => X.arraylength hx (cell := cl) (by rw [eT]; exact A.1) (State.isArrayOf_alike hZ.alike A.2.1) (g := mkF m pc Ls (.ref a :: rest)) rfl rfl hd _ ht) hr

theorem o_iaload (X : Stand p l e R s m args below meth c T locs cells slots) (hx : p.tables.exec = Jvm.exec) (hZ : Z.Warmed39 s.vm) (eT : T.heap = h) {a : Addr} {k : ClassId} {z : Int32} {vs : List Value} {dv : Value} (V : Arv Z h a k .int z vs dv) {j : Int32} (hj : ¬ j < 0 ∧ j < z) {v : Value} (hv : vs.getD j.toNatClampNeg dv = v) (n : Nat) (hd : decode c.code pc = .ok (.iaload, 1)) (hp : pc + 1 = n) (hr : Wout p e below P T (mkF m n Ls (v :: rest))) : Wout p e below P T (mkF m pc Ls (.int j :: .ref a :: rest)) := by
  subst hp
  obtain ⟨cl, A, -, S, M, H, -⟩ := V
  exact Wout.of (fun _ ht => X.iaload hx (j := j) (v := v) (by rw [eT]; exact A.1) (State.isArrayOf_alike hZ.alike A.2.1) A.2.2 (inb_of S hj) (H.at (inb_of S hj) hv) (g := mkF m pc Ls (.int j :: .ref a :: rest)) rfl rfl hd _ ht) hr
theorem o_laload (X : Stand p l e R s m args below meth c T locs cells slots) (hx : p.tables.exec = Jvm.exec) (hZ : Z.Warmed39 s.vm) (eT : T.heap = h) {a : Addr} {k : ClassId} {z : Int32} {vs : List Value} {dv : Value} (V : Arv Z h a k .long z vs dv) {j : Int32} (hj : ¬ j < 0 ∧ j < z) {v : Value} (hv : vs.getD j.toNatClampNeg dv = v) (n : Nat) (hd : decode c.code pc = .ok (.laload, 1)) (hp : pc + 1 = n) (hr : Wout p e below P T (mkF m n Ls (v :: rest))) : Wout p e below P T (mkF m pc Ls (.int j :: .ref a :: rest)) := by
  subst hp
  obtain ⟨cl, A, -, S, M, H, -⟩ := V
  exact Wout.of (fun _ ht => X.laload hx (j := j) (v := v) (by rw [eT]; exact A.1) (State.isArrayOf_alike hZ.alike A.2.1) A.2.2 (inb_of S hj) (H.at (inb_of S hj) hv) (g := mkF m pc Ls (.int j :: .ref a :: rest)) rfl rfl hd _ ht) hr
theorem o_caload (X : Stand p l e R s m args below meth c T locs cells slots) (hx : p.tables.exec = Jvm.exec) (hZ : Z.Warmed39 s.vm) (eT : T.heap = h) {a : Addr} {k : ClassId} {z : Int32} {vs : List Value} {dv : Value} (V : Arv Z h a k .char z vs dv) {j : Int32} (hj : ¬ j < 0 ∧ j < z) {v : Value} (hv : vs.getD j.toNatClampNeg dv = v) (n : Nat) (hd : decode c.code pc = .ok (.caload, 1)) (hp : pc + 1 = n) (hr : Wout p e below P T (mkF m n Ls (v :: rest))) : Wout p e below P T (mkF m pc Ls (.int j :: .ref a :: rest)) := by
  subst hp
  obtain ⟨cl, A, -, S, M, H, -⟩ := V
  exact Wout.of (fun _ ht => X.caload hx (j := j) (v := v) (by rw [eT]; exact A.1) (State.isArrayOf_alike hZ.alike A.2.1) A.2.2 (inb_of S hj) (H.at (inb_of S hj) hv) (g := mkF m pc Ls (.int j :: .ref a :: rest)) rfl rfl hd _ ht) hr
theorem o_saload (X : Stand p l e R s m args below meth c T locs cells slots) (hx : p.tables.exec = Jvm.exec) (hZ : Z.Warmed39 s.vm) (eT : T.heap = h) {a : Addr} {k : ClassId} {z : Int32} {vs : List Value} {dv : Value} (V : Arv Z h a k .short z vs dv) {j : Int32} (hj : ¬ j < 0 ∧ j < z) {v : Value} (hv : vs.getD j.toNatClampNeg dv = v) (n : Nat) (hd : decode c.code pc = .ok (.saload, 1)) (hp : pc + 1 = n) (hr : Wout p e below P T (mkF m n Ls (v :: rest))) : Wout p e below P T (mkF m pc Ls (.int j :: .ref a :: rest)) := by
  subst hp
  obtain ⟨cl, A, -, S, M, H, -⟩ := V
  exact Wout.of (fun _ ht => X.saload hx (j := j) (v := v) (by rw [eT]; exact A.1) (State.isArrayOf_alike hZ.alike A.2.1) A.2.2 (inb_of S hj) (H.at (inb_of S hj) hv) (g := mkF m pc Ls (.int j :: .ref a :: rest)) rfl rfl hd _ ht) hr
theorem o_baload (X : Stand p l e R s m args below meth c T locs cells slots) (hx : p.tables.exec = Jvm.exec) (hZ : Z.Warmed39 s.vm) (eT : T.heap = h) {a : Addr} {k : ClassId} {z : Int32} {vs : List Value} {dv : Value} (V : Arv Z h a k .byte z vs dv) {j : Int32} (hj : ¬ j < 0 ∧ j < z) {v : Value} (hv : vs.getD j.toNatClampNeg dv = v) (n : Nat) (hd : decode c.code pc = .ok (.baload, 1)) (hp : pc + 1 = n) (hr : Wout p e below P T (mkF m n Ls (v :: rest))) : Wout p e below P T (mkF m pc Ls (.int j :: .ref a :: rest)) := by
  subst hp
  obtain ⟨cl, A, -, S, M, H, -⟩ := V
  exact Wout.of (fun _ ht => X.baloadBytes hx (j := j) (v := v) (by rw [eT]; exact A.1) (State.isArrayOf_alike hZ.alike A.2.1) A.2.2 (inb_of S hj) (H.at (inb_of S hj) hv) (g := mkF m pc Ls (.int j :: .ref a :: rest)) rfl rfl hd _ ht) hr
theorem o_baloadZ (X : Stand p l e R s m args below meth c T locs cells slots) (hx : p.tables.exec = Jvm.exec) (hZ : Z.Warmed39 s.vm) (eT : T.heap = h) {a : Addr} {k : ClassId} {z : Int32} {vs : List Value} {dv : Value} (V : Arv Z h a k .boolean z vs dv) {j : Int32} (hj : ¬ j < 0 ∧ j < z) {v : Value} (hv : vs.getD j.toNatClampNeg dv = v) (n : Nat) (hd : decode c.code pc = .ok (.baload, 1)) (hp : pc + 1 = n) (hr : Wout p e below P T (mkF m n Ls (v :: rest))) : Wout p e below P T (mkF m pc Ls (.int j :: .ref a :: rest)) := by
  subst hp
  obtain ⟨cl, A, -, S, M, H, -⟩ := V
  exact Wout.of (fun _ ht => X.baloadBooleans hx (j := j) (v := v) (by rw [eT]; exact A.1) (State.isArrayOf_alike hZ.alike A.2.1) A.2.2 (inb_of S hj) (H.at (inb_of S hj) hv) (g := mkF m pc Ls (.int j :: .ref a :: rest)) rfl rfl hd _ ht) hr
theorem o_aaload (X : Stand p l e R s m args below meth c T locs cells slots) (hx : p.tables.exec = Jvm.exec) (hZ : Z.Warmed39 s.vm) (eT : T.heap = h) {a : Addr} {k : ClassId} {ty : FieldType} {z : Int32} {vs : List Value} {dv : Value} (V : Arv Z h a k ty z vs dv) (hty : ty.isReference = true) {j : Int32} (hj : ¬ j < 0 ∧ j < z) {v : Value} (hv : vs.getD j.toNatClampNeg dv = v) (n : Nat) (hd : decode c.code pc = .ok (.aaload, 1)) (hp : pc + 1 = n) (hr : Wout p e below P T (mkF m n Ls (v :: rest))) : Wout p e below P T (mkF m pc Ls (.int j :: .ref a :: rest)) := by
  subst hp
  obtain ⟨cl, A, -, S, M, H, -⟩ := V
  exact Wout.of (fun _ ht => X.aaload hx (j := j) (v := v) (by rw [eT]; exact A.1) (State.isArrayOf_alike hZ.alike A.2.1) hty A.2.2 (inb_of S hj) (H.at (inb_of S hj) hv) (g := mkF m pc Ls (.int j :: .ref a :: rest)) rfl rfl hd _ ht) hr
theorem o_iastore (X : Stand p l e R s m args below meth c T locs cells slots) (hx : p.tables.exec = Jvm.exec) (hZ : Z.Warmed39 s.vm) (eT : T.heap = h) {a : Addr} {k : ClassId} {z : Int32} {vs : List Value} {dv : Value} (V : Arv Z h a k .int z vs dv) {j : Int32} {x : Int32} (hj : ¬ j < 0 ∧ j < z) (i : Nat) (hi : j.toNatClampNeg = i) (hil : i < vs.length) {vs' : List Value} (hvs : vs.set i (.int x) = vs') {n0 : Nat} (N : Fr n0 locs) (g : n0 ≤ a) (n : Nat) (hd : decode c.code pc = .ok (.iastore, 1)) (hp : pc + 1 = n)
    (hr : ∀ T' h' locs', Stand p l e R s m args below meth c T' locs' cells slots → T'.heap = h' → Wr h h' a i (.int x) → Arv Z h' a k .int z vs' dv → Fr n0 locs' → Wout p e below P T' (mkF m n Ls rest)) : Wout p e below P T (mkF m pc Ls (.int x :: .int j :: .ref a :: rest)) := by
  subst hp hvs
  obtain ⟨cl, A, q1, S, M, H, G⟩ := V
  obtain ⟨T', h', X', e', W, st⟩ := stI X hx hZ eT A (j := j) (x := x) (inb_of S hj) (g := mkF m pc Ls (.int x :: .int j :: .ref a :: rest)) rfl rfl hd
  exact Wout.of st (hr T' h' _ X' e' (hi ▸ W) (Arv.set A q1 S M H G (rfl) W i hi hil) (Fr.snoc X' N g))
theorem o_lastore (X : Stand p l e R s m args below meth c T locs cells slots) (hx : p.tables.exec = Jvm.exec) (hZ : Z.Warmed39 s.vm) (eT : T.heap = h) {a : Addr} {k : ClassId} {z : Int32} {vs : List Value} {dv : Value} (V : Arv Z h a k .long z vs dv) {j : Int32} {x : Int64} (hj : ¬ j < 0 ∧ j < z) (i : Nat) (hi : j.toNatClampNeg = i) (hil : i < vs.length) {vs' : List Value} (hvs : vs.set i (.long x) = vs') {n0 : Nat} (N : Fr n0 locs) (g : n0 ≤ a) (n : Nat) (hd : decode c.code pc = .ok (.lastore, 1)) (hp : pc + 1 = n)
    (hr : ∀ T' h' locs', Stand p l e R s m args below meth c T' locs' cells slots → T'.heap = h' → Wr h h' a i (.long x) → Arv Z h' a k .long z vs' dv → Fr n0 locs' → Wout p e below P T' (mkF m n Ls rest)) : Wout p e below P T (mkF m pc Ls (.long x :: .int j :: .ref a :: rest)) := by
  subst hp hvs
  obtain ⟨cl, A, q1, S, M, H, G⟩ := V
  obtain ⟨T', h', X', e', W, st⟩ := stJ X hx hZ eT A (j := j) (x := x) (inb_of S hj) (g := mkF m pc Ls (.long x :: .int j :: .ref a :: rest)) rfl rfl hd
  exact Wout.of st (hr T' h' _ X' e' (hi ▸ W) (Arv.set A q1 S M H G (rfl) W i hi hil) (Fr.snoc X' N g))
theorem o_castore (X : Stand p l e R s m args below meth c T locs cells slots) (hx : p.tables.exec = Jvm.exec) (hZ : Z.Warmed39 s.vm) (eT : T.heap = h) {a : Addr} {k : ClassId} {z : Int32} {vs : List Value} {dv : Value} (V : Arv Z h a k .char z vs dv) {j : Int32} {x : Int32} (hj : ¬ j < 0 ∧ j < z) (i : Nat) (hi : j.toNatClampNeg = i) (hil : i < vs.length) {vs' : List Value} (hvs : vs.set i (.int (nar .char x)) = vs') {n0 : Nat} (N : Fr n0 locs) (g : n0 ≤ a) (n : Nat) (hd : decode c.code pc = .ok (.castore, 1)) (hp : pc + 1 = n)
    (hr : ∀ T' h' locs', Stand p l e R s m args below meth c T' locs' cells slots → T'.heap = h' → Wr h h' a i (.int (nar .char x)) → Arv Z h' a k .char z vs' dv → Fr n0 locs' → Wout p e below P T' (mkF m n Ls rest)) : Wout p e below P T (mkF m pc Ls (.int x :: .int j :: .ref a :: rest)) := by
  subst hp hvs
  obtain ⟨cl, A, q1, S, M, H, G⟩ := V
  obtain ⟨T', h', X', e', W, st⟩ := stC X hx hZ eT A (j := j) (x := x) (inb_of S hj) (g := mkF m pc Ls (.int x :: .int j :: .ref a :: rest)) rfl rfl hd
  exact Wout.of st (hr T' h' _ X' e' (hi ▸ W) (Arv.set A q1 S M H G (fits_nar_char x) W i hi hil) (Fr.snoc X' N g))
theorem o_sastore (X : Stand p l e R s m args below meth c T locs cells slots) (hx : p.tables.exec = Jvm.exec) (hZ : Z.Warmed39 s.vm) (eT : T.heap = h) {a : Addr} {k : ClassId} {z : Int32} {vs : List Value} {dv : Value} (V : Arv Z h a k .short z vs dv) {j : Int32} {x : Int32} (hj : ¬ j < 0 ∧ j < z) (i : Nat) (hi : j.toNatClampNeg = i) (hil : i < vs.length) {vs' : List Value} (hvs : vs.set i (.int (nar .short x)) = vs') {n0 : Nat} (N : Fr n0 locs) (g : n0 ≤ a) (n : Nat) (hd : decode c.code pc = .ok (.sastore, 1)) (hp : pc + 1 = n)
    (hr : ∀ T' h' locs', Stand p l e R s m args below meth c T' locs' cells slots → T'.heap = h' → Wr h h' a i (.int (nar .short x)) → Arv Z h' a k .short z vs' dv → Fr n0 locs' → Wout p e below P T' (mkF m n Ls rest)) : Wout p e below P T (mkF m pc Ls (.int x :: .int j :: .ref a :: rest)) := by
  subst hp hvs
  obtain ⟨cl, A, q1, S, M, H, G⟩ := V
  obtain ⟨T', h', X', e', W, st⟩ := stS X hx hZ eT A (j := j) (x := x) (inb_of S hj) (g := mkF m pc Ls (.int x :: .int j :: .ref a :: rest)) rfl rfl hd
  exact Wout.of st (hr T' h' _ X' e' (hi ▸ W) (Arv.set A q1 S M H G (fits_nar_short x) W i hi hil) (Fr.snoc X' N g))
theorem o_bastore (X : Stand p l e R s m args below meth c T locs cells slots) (hx : p.tables.exec = Jvm.exec) (hZ : Z.Warmed39 s.vm) (eT : T.heap = h) {a : Addr} {k : ClassId} {z : Int32} {vs : List Value} {dv : Value} (V : Arv Z h a k .byte z vs dv) {j : Int32} {x : Int32} (hj : ¬ j < 0 ∧ j < z) (i : Nat) (hi : j.toNatClampNeg = i) (hil : i < vs.length) {vs' : List Value} (hvs : vs.set i (.int (nar .byte x)) = vs') {n0 : Nat} (N : Fr n0 locs) (g : n0 ≤ a) (n : Nat) (hd : decode c.code pc = .ok (.bastore, 1)) (hp : pc + 1 = n)
    (hr : ∀ T' h' locs', Stand p l e R s m args below meth c T' locs' cells slots → T'.heap = h' → Wr h h' a i (.int (nar .byte x)) → Arv Z h' a k .byte z vs' dv → Fr n0 locs' → Wout p e below P T' (mkF m n Ls rest)) : Wout p e below P T (mkF m pc Ls (.int x :: .int j :: .ref a :: rest)) := by
  subst hp hvs
  obtain ⟨cl, A, q1, S, M, H, G⟩ := V
  obtain ⟨T', h', X', e', W, st⟩ := stB X hx hZ eT A (j := j) (x := x) (inb_of S hj) (g := mkF m pc Ls (.int x :: .int j :: .ref a :: rest)) rfl rfl hd
  exact Wout.of st (hr T' h' _ X' e' (hi ▸ W) (Arv.set A q1 S M H G (fits_nar_byte x) W i hi hil) (Fr.snoc X' N g))
theorem o_bastoreZ (X : Stand p l e R s m args below meth c T locs cells slots) (hx : p.tables.exec = Jvm.exec) (hZ : Z.Warmed39 s.vm) (eT : T.heap = h) {a : Addr} {k : ClassId} {z : Int32} {vs : List Value} {dv : Value} (V : Arv Z h a k .boolean z vs dv) {j : Int32} {x : Int32} (hj : ¬ j < 0 ∧ j < z) (i : Nat) (hi : j.toNatClampNeg = i) (hil : i < vs.length) {vs' : List Value} (hvs : vs.set i (.int (nar .boolean x)) = vs') {n0 : Nat} (N : Fr n0 locs) (g : n0 ≤ a) (n : Nat) (hd : decode c.code pc = .ok (.bastore, 1)) (hp : pc + 1 = n)
    (hr : ∀ T' h' locs', Stand p l e R s m args below meth c T' locs' cells slots → T'.heap = h' → Wr h h' a i (.int (nar .boolean x)) → Arv Z h' a k .boolean z vs' dv → Fr n0 locs' → Wout p e below P T' (mkF m n Ls rest)) : Wout p e below P T (mkF m pc Ls (.int x :: .int j :: .ref a :: rest)) := by
  subst hp hvs
  obtain ⟨cl, A, q1, S, M, H, G⟩ := V
  obtain ⟨T', h', X', e', W, st⟩ := stZ X hx hZ eT A (j := j) (x := x) (inb_of S hj) (g := mkF m pc Ls (.int x :: .int j :: .ref a :: rest)) rfl rfl hd
  exact Wout.of st (hr T' h' _ X' e' (hi ▸ W) (Arv.set A q1 S M H G (fits_nar_bool x) W i hi hil) (Fr.snoc X' N g))
theorem o_aastore (X : Stand p l e R s m args below meth c T locs cells slots) (hx : p.tables.exec = Jvm.exec) (hZ : Z.Warmed39 s.vm) (eT : T.heap = h) {a : Addr} {k : ClassId} {ty : FieldType} {z : Int32} {vs : List Value} {dv : Value} (V : Arv Z h a k ty z vs dv) (hty : ty.isReference = true) {j : Int32} {v : Value} (hj : ¬ j < 0 ∧ j < z) (i : Nat) (hi : j.toNatClampNeg = i) (hil : i < vs.length) {vs' : List Value} (hvs : vs.set i v = vs') (hfit : fits ty v = true) (Fs : Sto Z h a v) {n0 : Nat} (N : Fr n0 locs) (g : n0 ≤ a) (n : Nat) (hd : decode c.code pc = .ok (.aastore, 1)) (hp : pc + 1 = n)
    (hr : ∀ T' h' locs', Stand p l e R s m args below meth c T' locs' cells slots → T'.heap = h' → Wr h h' a i v → Arv Z h' a k ty z vs' dv → Fr n0 locs' → Wout p e below P T' (mkF m n Ls rest)) : Wout p e below P T (mkF m pc Ls (v :: .int j :: .ref a :: rest)) := by
  subst hp hvs
  obtain ⟨cl, A, q1, S, M, H, G⟩ := V
  obtain ⟨T', h', X', e', W, st⟩ := stR X hx hZ eT A (j := j) (v := v) (inb_of S hj) hty Fs (g := mkF m pc Ls (v :: .int j :: .ref a :: rest)) rfl rfl hd
  exact Wout.of st (hr T' h' _ X' e' (hi ▸ W) (Arv.set A q1 S M H G hfit W i hi hil) (Fr.snoc X' N g))
theorem Sto.arv {a y : Addr} {k : ClassId} {ty : FieldType} {z : Int32} {vs : List Value} {dv : Value} {C : String} (V : Arv Z h a k ty z vs dv) (O : Ovr Z k C) (I : Ins Z h y C true) : Sto Z h a (.ref y) := by
  obtain ⟨cl, A, q1, -⟩ := V
  exact Sto.ofV A q1 O I
theorem o_checkcast (X : Stand p l e R s m args below meth c T locs cells slots) (hx : p.tables.exec = Jvm.exec) (hZ : Z.Warmed39 s.vm) {own K : String} {index : Nat} (hown : s.vm.findClass own = some m.cls) (w : (Jvm.Cond.classLink own index K).before a0 Z = true) (eT : T.heap = h) {a : Addr} (F : Ins Z h a K true) (n : Nat) (hd : decode c.code pc = .ok (.checkcast index, 3)) (hp : pc + 3 = n)
    (hr : ∀ T', Stand p l e R s m args below meth c T' locs cells slots → T'.heap = h → Wout p e below P T' (mkF m n Ls (.ref a :: rest))) : Wout p e below P T (mkF m pc Ls (.ref a :: rest)) := by
  subst hp
  obtain ⟨T', X', e', st⟩ := castY X hx hZ hown w eT F (g := mkF m pc Ls (.ref a :: rest)) rfl rfl hd
  exact Wout.of st (hr T' X' e')
theorem o_instanceof (X : Stand p l e R s m args below meth c T locs cells slots) (hx : p.tables.exec = Jvm.exec) (hZ : Z.Warmed39 s.vm) {own K : String} {index : Nat} (hown : s.vm.findClass own = some m.cls) (w : (Jvm.Cond.classLink own index K).before a0 Z = true) (eT : T.heap = h) {a : Addr} (F : Ins Z h a K true) (n : Nat) (hd : decode c.code pc = .ok (.instanceof index, 3)) (hp : pc + 3 = n)
    (hr : ∀ T', Stand p l e R s m args below meth c T' locs cells slots → T'.heap = h → Wout p e below P T' (mkF m n Ls (.int 1 :: rest))) : Wout p e below P T (mkF m pc Ls (.ref a :: rest)) := by
  subst hp
  obtain ⟨T', X', e', st⟩ := instY X hx hZ hown w eT F (g := mkF m pc Ls (.ref a :: rest)) rfl rfl hd
  exact Wout.of st (hr T' X' e')
/-! calls -/
theorem o_initO (X : Stand p l e R s m args below meth c T locs cells slots) (hx : p.tables.exec = Jvm.exec) (hZ : Z.Warmed39 s.vm) {own : String} {idx : Nat} (hown : s.vm.findClass own = some m.cls) (w1 : (Jvm.Cond.methodLink own idx Lib.objectInit).before a0 Z = true) (w2 : (Jvm.Cond.instanceMethod Lib.objectInit).before a0 Z = true) (w3 : (Jvm.Cond.code Lib.objectInit ⟨#[0xb1]⟩ 1 none).before a0 Z = true) (eT : T.heap = h) (hsz : Ls.size = c.maxLocals) {a : Addr} (hf : 1 ≤ R.frames) (W : Nat) (hW : (rest.map fun v => v.category).sum ≤ W) (hl : W + 12 ≤ R.locals) (n : Nat) (hd : decode c.code pc = .ok (.invokespecial idx, 3)) (hp : pc + 3 = n)
    (hr : ∀ T', Stand p l e R s m args below meth c T' locs cells slots → T'.heap = h → Wout p e below P T' (mkF m n Ls rest)) : Wout p e below P T (mkF m pc Ls (.ref a :: rest)) := by
  subst hp
  obtain ⟨T', X', e', st⟩ := initO X hx hZ hown w1 w2 w3 eT (g := mkF m pc Ls (.ref a :: rest)) rfl hsz rfl hd hf (W := W) (by simpa using hW) hl
  exact Wout.of st (hr T' X' e')
theorem o_callS (X : Stand p l e R s m args below meth c T locs cells slots) (hx : p.tables.exec = Jvm.exec) (hZ : Z.Warmed39 s.vm) {own : String} {index : Nat} {y : MethodName} {bytes : ByteArray} {maxL : Nat} {ret : Option FieldType} (hown : s.vm.findClass own = some m.cls) (w1 : (Jvm.Cond.methodLink own index y).before a0 Z = true) (w2 : (Jvm.Cond.static y).before a0 Z = true) (w3 : (Jvm.Cond.initialized y.cls).before a0 Z = true) (w4 : (Jvm.Cond.code y bytes maxL ret).before a0 Z = true)
    (hy : y.cls ≠ "java/lang/invoke/MethodHandle" ∧ y.cls ≠ "java/lang/invoke/VarHandle") {rm : Room} {as' : Array Value} {Q : Option Value → Heap → List Loc → Prop} (hM : Met l Z y bytes maxL ret [] rm as' h Q) (eT : T.heap = h) (hf : rm.frames + 1 ≤ R.frames) (W : Nat) (hl : W + (maxL + 11) + rm.locals ≤ R.locals) (hsz : Ls.size = c.maxLocals) (argsL : List Value) {st : List Value} (hlen : ∀ sig, parseMethodDescriptor y.desc = some sig → argsL.length = sig.parameters.length) (hst : st = argsL.reverse ++ rest) (has : argsL.toArray = as')
    (hW : (rest.map fun v => v.category).sum ≤ W) (hc : cells + rm.cells ≤ R.cells) (hs : slots + rm.slots ≤ R.slots) (n : Nat) (hd : decode c.code pc = .ok (.invokestatic index, 3)) (hp : pc + 3 = n)
    (hr : ∀ v T' h' L, Stand p l e R s m args below meth c T' (locs ++ L) (cells + rm.cells) (slots + rm.slots) → T'.heap = h' → Q v h' L → Wout p e below P T' (mkF m n Ls (v.toList ++ rest))) : Wout p e below P T (mkF m pc Ls st) := by
  subst hp has hst
  obtain ⟨v, vm₁, ⟨T', L', k', n'⟩, -, X', ⟨Lc, hQ, l1, y1, z1⟩, st⟩ := Jvm.LawKit.callS X hx hown (mv hZ w1) (mv hZ w2) (mv hZ w3) (mv hZ w4) hy (backOf (W := W) hM hZ w4 w3 hf hl) (g := mkF m pc Ls (argsL.reverse ++ rest)) rfl hsz (argsL := argsL) (rest := rest) hlen rfl (by simpa using hW) hd (fun _ _ => ⟨rfl, eT, hc, hs⟩)
  dsimp only [Pt.U, Pt.locs, Pt.cells, Pt.slots] at X' l1 y1 z1 hQ st
  subst l1 y1 z1
  exact Wout.of st (hr v T' T'.heap Lc X' rfl hQ)
theorem o_callI (X : Stand p l e R s m args below meth c T locs cells slots) (hx : p.tables.exec = Jvm.exec) (hZ : Z.Warmed39 s.vm) {own : String} {index : Nat} {y : MethodName} {bytes : ByteArray} {maxL : Nat} (hy1 : y.name = "<init>") (hown : s.vm.findClass own = some m.cls) (w1 : (Jvm.Cond.methodLink own index y).before a0 Z = true) (w2 : (Jvm.Cond.instanceMethod y).before a0 Z = true) (w3 : (Jvm.Cond.initialized y.cls).before a0 Z = true) (w4 : (Jvm.Cond.code y bytes maxL none).before a0 Z = true)
    (hy : y.cls ≠ "java/lang/invoke/MethodHandle" ∧ y.cls ≠ "java/lang/invoke/VarHandle") {rm : Room} {as' : Array Value} {Q : Option Value → Heap → List Loc → Prop} (hM : Met l Z y bytes maxL none [] rm as' h Q) (eT : T.heap = h) (hf : rm.frames + 1 ≤ R.frames) (W : Nat) (hl : W + (maxL + 11) + rm.locals ≤ R.locals) (hsz : Ls.size = c.maxLocals) {a : Addr} (argsL : List Value) {st : List Value} (hlen : ∀ sig, parseMethodDescriptor y.desc = some sig → argsL.length = sig.parameters.length) (hst : st = argsL.reverse ++ .ref a :: rest) (has : (.ref a :: argsL).toArray = as')
    (hW : (rest.map fun v => v.category).sum ≤ W) (hc : cells + rm.cells ≤ R.cells) (hs : slots + rm.slots ≤ R.slots) (n : Nat) (hd : decode c.code pc = .ok (.invokespecial index, 3)) (hp : pc + 3 = n)
    (hr : ∀ v T' h' L, Stand p l e R s m args below meth c T' (locs ++ L) (cells + rm.cells) (slots + rm.slots) → T'.heap = h' → Q v h' L → Wout p e below P T' (mkF m n Ls (v.toList ++ rest))) : Wout p e below P T (mkF m pc Ls st) := by
  subst hp has hst
  obtain ⟨v, vm₁, ⟨T', L', k', n'⟩, -, X', ⟨Lc, hQ, l1, y1, z1⟩, st⟩ := X.specialBack hx hy1 hown (mv hZ w1) (mv hZ w2) (mv hZ w4) hy (backOf (W := W) hM hZ w4 w3 hf hl) (g := mkF m pc Ls (argsL.reverse ++ .ref a :: rest)) rfl hsz (Steps.refl _) (a := a) (argsL := argsL) (rest := rest) hlen rfl (by simpa using hW) hd (fun _ _ => ⟨rfl, eT, hc, hs⟩)
  dsimp only [Pt.U, Pt.locs, Pt.cells, Pt.slots] at X' l1 y1 z1 hQ st
  subst l1 y1 z1
  exact Wout.tr st (hr v T' T'.heap Lc X' rfl hQ)
theorem o_callIB (X : Stand p l e R s m args below meth c T locs cells slots) (hx : p.tables.exec = Jvm.exec) (hZ : Z.Warmed39 s.vm) {own : String} {index : Nat} {y : MethodName} {bytes : ByteArray} {maxL : Nat} (hy1 : y.name = "<init>") (hown : s.vm.findClass own = some m.cls) (w1 : (Jvm.Cond.methodLink own index y).before a0 Z = true) (w2 : (Jvm.Cond.instanceMethod y).before a0 Z = true) (w4 : (Jvm.Cond.code y bytes maxL none).before a0 Z = true)
    (hy : y.cls ≠ "java/lang/invoke/MethodHandle" ∧ y.cls ≠ "java/lang/invoke/VarHandle") {kc ks W : Nat} {as' : Array Value} {Q : Option Value → Heap → List Loc → Prop} (hK : Back l R p e below s args y 3 W (fun A a => a = as' ∧ A.U.heap = h ∧ A.cells + kc ≤ R.cells ∧ A.slots + ks ≤ R.slots) (fun A _ v B => ∃ L, Q v B.U.heap L ∧ B.locs = A.locs ++ L ∧ B.cells = A.cells + kc ∧ B.slots = A.slots + ks)) (eT : T.heap = h) (hsz : Ls.size = c.maxLocals) {a : Addr} (argsL : List Value) {st : List Value} (hlen : ∀ sig, parseMethodDescriptor y.desc = some sig → argsL.length = sig.parameters.length) (hst : st = argsL.reverse ++ .ref a :: rest) (has : (.ref a :: argsL).toArray = as')
    (hW : (rest.map fun v => v.category).sum ≤ W) (hc : cells + kc ≤ R.cells) (hs : slots + ks ≤ R.slots) (n : Nat) (hd : decode c.code pc = .ok (.invokespecial index, 3)) (hp : pc + 3 = n)
    (hr : ∀ v T' h' L, Stand p l e R s m args below meth c T' (locs ++ L) (cells + kc) (slots + ks) → T'.heap = h' → Q v h' L → Wout p e below P T' (mkF m n Ls (v.toList ++ rest))) : Wout p e below P T (mkF m pc Ls st) := by
  subst hp has hst
  obtain ⟨v, vm₁, ⟨T', L', k', n'⟩, -, X', ⟨Lc, hQ, l1, y1, z1⟩, st⟩ := X.specialBack hx hy1 hown (mv hZ w1) (mv hZ w2) (mv hZ w4) hy hK (g := mkF m pc Ls (argsL.reverse ++ .ref a :: rest)) rfl hsz (Steps.refl _) (a := a) (argsL := argsL) (rest := rest) hlen rfl (by simpa using hW) hd (fun _ _ => ⟨rfl, eT, hc, hs⟩)
  dsimp only [Pt.U, Pt.locs, Pt.cells, Pt.slots] at X' l1 y1 z1 hQ st
  subst l1 y1 z1
  exact Wout.tr st (hr v T' T'.heap Lc X' rfl hQ)
theorem o_callV (X : Stand p l e R s m args below meth c T locs cells slots) (hx : p.tables.exec = Jvm.exec) (hZ : Z.Warmed39 s.vm) {own C : String} {index : Nat} {y : MethodName} {bytes : ByteArray} {maxL : Nat} {ret : Option FieldType} (hown : s.vm.findClass own = some m.cls) (w1 : (Jvm.Cond.methodLink own index y).before a0 Z = true) (w5 : (Jvm.Cond.declares y).before a0 Z = true) (w6 : (Jvm.Cond.selects C y y).before a0 Z = true) (w2 : (Jvm.Cond.instanceMethod y).before a0 Z = true) (w3 : (Jvm.Cond.initialized y.cls).before a0 Z = true) (w4 : (Jvm.Cond.code y bytes maxL ret).before a0 Z = true)
    (hy : y.cls ≠ "java/lang/invoke/MethodHandle" ∧ y.cls ≠ "java/lang/invoke/VarHandle") {rm : Room} {as' : Array Value} {Q : Option Value → Heap → List Loc → Prop} (hM : Met l Z y bytes maxL ret [] rm as' h Q) (eT : T.heap = h) (hf : rm.frames + 1 ≤ R.frames) (W : Nat) (hl : W + (maxL + 11) + rm.locals ≤ R.locals) (hsz : Ls.size = c.maxLocals) {a : Addr} (E : Exa Z h a C) (argsL : List Value) {st : List Value} (hlen : ∀ sig, parseMethodDescriptor y.desc = some sig → argsL.length = sig.parameters.length) (hst : st = argsL.reverse ++ .ref a :: rest) (has : (.ref a :: argsL).toArray = as')
    (hW : (rest.map fun v => v.category).sum ≤ W) (hc : cells + rm.cells ≤ R.cells) (hs : slots + rm.slots ≤ R.slots) (n : Nat) (hd : decode c.code pc = .ok (.invokevirtual index, 3)) (hp : pc + 3 = n)
    (hr : ∀ v T' h' L, Stand p l e R s m args below meth c T' (locs ++ L) (cells + rm.cells) (slots + rm.slots) → T'.heap = h' → Q v h' L → Wout p e below P T' (mkF m n Ls (v.toList ++ rest))) : Wout p e below P T (mkF m pc Ls st) := by
  subst hp has hst
  obtain ⟨cq, kq, qa, qb, qc⟩ := isOf hZ eT E
  obtain ⟨v, vm₁, ⟨T', L', k', n'⟩, -, X', ⟨Lc, hQ, l1, y1, z1⟩, st⟩ := X.virtualBack hx hown (mv hZ w1) (mv hZ w5) (notFace_of_selects (args := #[]) (mv hZ w6)) (mv hZ w6) (mv hZ w2) hy (backOf (W := W) hM hZ w4 w3 hf hl) qa qc (g := mkF m pc Ls (argsL.reverse ++ .ref a :: rest)) rfl hsz (Steps.refl _) (argsL := argsL) (rest := rest) hlen rfl (by simpa using hW) hd (fun _ _ => ⟨rfl, eT, hc, hs⟩)
  dsimp only [Pt.U, Pt.locs, Pt.cells, Pt.slots] at X' l1 y1 z1 hQ st
  subst l1 y1 z1
  exact Wout.tr st (hr v T' T'.heap Lc X' rfl hQ)
theorem o_callU (X : Stand p l e R s m args below meth c T locs cells slots) (hx : p.tables.exec = Jvm.exec) (hZ : Z.Warmed39 s.vm) {own C owner : String} {index : Nat} {y z : MethodName} {bytes : ByteArray} {maxL : Nat} {ret : Option FieldType} (hown : s.vm.findClass own = some m.cls) (w1 : (Jvm.Cond.methodLink own index y).before a0 Z = true) (w7 : (Jvm.Cond.sameMethod y.cls owner y.name y.desc).before a0 Z = true) (w5 : (Jvm.Cond.declares ⟨owner, y.name, y.desc⟩).before a0 Z = true) (w6 : (Jvm.Cond.selects C y z).before a0 Z = true) (w2 : (Jvm.Cond.instanceMethod z).before a0 Z = true) (w3 : (Jvm.Cond.initialized z.cls).before a0 Z = true) (w4 : (Jvm.Cond.code z bytes maxL ret).before a0 Z = true)
    (hy : owner ≠ "java/lang/invoke/MethodHandle" ∧ owner ≠ "java/lang/invoke/VarHandle") {rm : Room} {as' : Array Value} {Q : Option Value → Heap → List Loc → Prop} (hM : Met l Z z bytes maxL ret [] rm as' h Q) (eT : T.heap = h) (hf : rm.frames + 1 ≤ R.frames) (W : Nat) (hl : W + (maxL + 11) + rm.locals ≤ R.locals) (hsz : Ls.size = c.maxLocals) {a : Addr} (E : Exa Z h a C) (argsL : List Value) {st : List Value} (hlen : ∀ sig, parseMethodDescriptor y.desc = some sig → argsL.length = sig.parameters.length) (hst : st = argsL.reverse ++ .ref a :: rest) (has : (.ref a :: argsL).toArray = as')
    (hW : (rest.map fun v => v.category).sum ≤ W) (hc : cells + rm.cells ≤ R.cells) (hs : slots + rm.slots ≤ R.slots) (n : Nat) (hd : decode c.code pc = .ok (.invokevirtual index, 3)) (hp : pc + 3 = n)
    (hr : ∀ v T' h' L, Stand p l e R s m args below meth c T' (locs ++ L) (cells + rm.cells) (slots + rm.slots) → T'.heap = h' → Q v h' L → Wout p e below P T' (mkF m n Ls (v.toList ++ rest))) : Wout p e below P T (mkF m pc Ls st) := by
  subst hp has hst
  obtain ⟨cq, kq, qa, qb, qc⟩ := isOf hZ eT E
  obtain ⟨v, vm₁, ⟨T', L', k', n'⟩, -, X', ⟨Lc, hQ, l1, y1, z1⟩, st⟩ := X.virtualBackUp hx hown (mv hZ w1) (mv hZ w7) (mv hZ w5) hy (mv hZ w6) (mv hZ w2) (backOf (W := W) hM hZ w4 w3 hf hl) qa qc (g := mkF m pc Ls (argsL.reverse ++ .ref a :: rest)) rfl hsz (Steps.refl _) (argsL := argsL) (rest := rest) hlen rfl (by simpa using hW) hd (fun _ _ => ⟨rfl, eT, hc, hs⟩)
  dsimp only [Pt.U, Pt.locs, Pt.cells, Pt.slots] at X' l1 y1 z1 hQ st
  subst l1 y1 z1
  exact Wout.tr st (hr v T' T'.heap Lc X' rfl hQ)
/-! returns -/
theorem o_retW (X : Stand p l e R s m args below meth c T locs cells slots) (hx : p.tables.exec = Jvm.exec) {Q : Option Value → Heap → List Loc → Prop} {C S : Nat} {w w' : Value} {t : FieldType} {i : Instr} (hlk : meth.locks = false) (hret : meth.sig.returnType = some t) (hn : Jvm.narrow t w = w)
    (hi : (i = .ireturn ∧ (t = .int ∨ t = .boolean ∨ t = .byte ∨ t = .char ∨ t = .short) ∧ ∃ z, w = .int z) ∨ (i = .lreturn ∧ t = .long ∧ ∃ z, w = .long z) ∨ (i = .dreturn ∧ t = .double ∧ ∃ z, w = .double z) ∨ (i = .freturn ∧ t = .float ∧ ∃ z, w = .float z) ∨ (i = .areturn ∧ t.isReference = true ∧ w.isRef = true))
    (hd : decode c.code pc = .ok (i, 1)) (hc : cells ≤ C) (hs : slots ≤ S) (hq : Q (some w) T.heap locs) : Wout p e below (Pst s Q C S) T (mkF m pc Ls (w :: rest)) := by
  obtain ⟨fs, hr, hrun, hended, hW, hsame⟩ := X.leave (v := some w) (fun q => by rw [hret] at q; cases q) hlk
  exact ⟨_, _, retOut X hx hret hn hi hd hr, hrun, hended, _, _, rfl, hq, ⟨_, rfl⟩, hW, hsame.mono hc hs⟩
theorem o_retI (X : Stand p l e R s m args below meth c T locs cells slots) (hx : p.tables.exec = Jvm.exec) {Q : Option Value → Heap → List Loc → Prop} {C S : Nat} {x : Int32} {t : FieldType} (hlk : meth.locks = false) (hret : meth.sig.returnType = some t) (hn : Jvm.narrow t (.int x) = .int x) (ht : t = .int ∨ t = .boolean ∨ t = .byte ∨ t = .char ∨ t = .short)
    (hd : decode c.code pc = .ok (.ireturn, 1)) (hc : cells ≤ C) (hs : slots ≤ S) (hq : Q (some (.int x)) T.heap locs) : Wout p e below (Pst s Q C S) T (mkF m pc Ls (.int x :: rest)) :=
  o_retW X hx (w' := .null) hlk hret hn (Or.inl ⟨rfl, ht, x, rfl⟩) hd hc hs hq
theorem o_retL (X : Stand p l e R s m args below meth c T locs cells slots) (hx : p.tables.exec = Jvm.exec) {Q : Option Value → Heap → List Loc → Prop} {C S : Nat} {x : Int64} (hlk : meth.locks = false) (hret : meth.sig.returnType = some .long)
    (hd : decode c.code pc = .ok (.lreturn, 1)) (hc : cells ≤ C) (hs : slots ≤ S) (hq : Q (some (.long x)) T.heap locs) : Wout p e below (Pst s Q C S) T (mkF m pc Ls (.long x :: rest)) :=
  o_retW X hx (w' := .null) hlk hret rfl (Or.inr (Or.inl ⟨rfl, rfl, x, rfl⟩)) hd hc hs hq
theorem o_retA (X : Stand p l e R s m args below meth c T locs cells slots) (hx : p.tables.exec = Jvm.exec) {Q : Option Value → Heap → List Loc → Prop} {C S : Nat} {w : Value} {t : FieldType} (hlk : meth.locks = false) (hret : meth.sig.returnType = some t) (ht : t.isReference = true) (hw : w.isRef = true) (hn : Jvm.narrow t w = w)
    (hd : decode c.code pc = .ok (.areturn, 1)) (hc : cells ≤ C) (hs : slots ≤ S) (hq : Q (some w) T.heap locs) : Wout p e below (Pst s Q C S) T (mkF m pc Ls (w :: rest)) :=
  o_retW X hx (w' := .null) hlk hret hn (Or.inr (Or.inr (Or.inr (Or.inr ⟨rfl, ht, hw⟩)))) hd hc hs hq
theorem o_retD (X : Stand p l e R s m args below meth c T locs cells slots) (hx : p.tables.exec = Jvm.exec) {Q : Option Value → Heap → List Loc → Prop} {C S : Nat} {x : UInt64} (hlk : meth.locks = false) (hret : meth.sig.returnType = some .double)
    (hd : decode c.code pc = .ok (.dreturn, 1)) (hc : cells ≤ C) (hs : slots ≤ S) (hq : Q (some (.double x)) T.heap locs) : Wout p e below (Pst s Q C S) T (mkF m pc Ls (.double x :: rest)) :=
  o_retW X hx (w' := .null) hlk hret rfl (Or.inr (Or.inr (Or.inl ⟨rfl, rfl, x, rfl⟩))) hd hc hs hq
theorem o_retV (X : Stand p l e R s m args below meth c T locs cells slots) (hx : p.tables.exec = Jvm.exec) {Q : Option Value → Heap → List Loc → Prop} {C S : Nat} (hlk : meth.locks = false) (hret : meth.sig.returnType = none)
    (hd : decode c.code pc = .ok (.return_, 1)) (hc : cells ≤ C) (hs : slots ≤ S) (hq : Q none T.heap locs) : Wout p e below (Pst s Q C S) T (mkF m pc Ls []) := by
  obtain ⟨fs, hr, hrun, hended, hW, hsame⟩ := X.leave (v := none) (fun _ => rfl) hlk
  exact ⟨_, _, X.returnOut hx hret hd hr, hrun, hended, _, _, rfl, hq, ⟨_, rfl⟩, hW, hsame.mono hc hs⟩
/-! from the sheet's words -/
theorem fld_eq {t : Term} {a : Addr} {C n d : String} {k : Int32} (ev : t.eval args Z none [] Z = some (.ref a)) (q : (Jvm.Cond.eq (.field t C n d) (.int k)).value args Z none Z [] = some true) : Fld Z Z.heap a C n d (.int k) := by
  exact Fld.start ((fld_at ev).symm.trans (eqv_i rfl q))
theorem sta_bool {C n d : String} (w1 : (Jvm.Cond.initializedFor C n d).before args Z = true) (w2 : (Jvm.Cond.isInt (.static C n d)).before args Z = true) (w3 : (Jvm.Cond.not (.eq (.static C n d) (.int 0))).before args Z = true) : ∃ x : Int32, Sta Z Z.heap C n d (.int x) ∧ ¬ x = 0 := by
  obtain ⟨x, ev⟩ := is_v (Cond.before_iff.mp w2)
  refine ⟨x, Sta.start ev (Or.inl w1), fun q => ?_⟩
  have q2 := not_v (Cond.before_iff.mp w3)
  exact gotF (Cond.eq_ints ev rfl) q2 q
/-! numbers -/
theorem mask31 (x : Int32) : 0 ≤ (x &&& 2147483647).toInt := by
  have e := Jvm.Kit.i32_mask x 2147483647 (k := 31) (by decide) (by decide)
  omega
theorem rem_pos {y n : Int32} (hy : 0 ≤ y.toInt) (hn : 0 < n.toInt) : (y % n).toInt = y.toInt % n.toInt := by
  rw [Int32.toInt_mod, Int.tmod_eq_emod_of_nonneg hy]
theorem rem_in {y n : Int32} (hy : 0 ≤ y.toInt) (hn : 0 < n.toInt) : 0 ≤ (y % n).toInt ∧ (y % n).toInt < n.toInt := by
  rw [rem_pos hy hn]
  exact ⟨Int.emod_nonneg _ (by omega), Int.emod_lt_of_pos _ hn⟩
theorem in3 {k : Int32} (h1 : 0 ≤ k.toInt) (h2 : k.toInt < 3) : k = 0 ∨ k = 1 ∨ k = 2 := by
  have : k.toInt = 0 ∨ k.toInt = 1 ∨ k.toInt = 2 := by omega
  rcases this with q | q | q
  · exact Or.inl (Int32.toInt_inj.mp q)
  · exact Or.inr (Or.inl (Int32.toInt_inj.mp q))
  · exact Or.inr (Or.inr (Int32.toInt_inj.mp q))
theorem in4 {k : Int32} (h1 : 0 ≤ k.toInt) (h2 : k.toInt < 4) : k = 0 ∨ k = 1 ∨ k = 2 ∨ k = 3 := by
  have : k.toInt = 0 ∨ k.toInt = 1 ∨ k.toInt = 2 ∨ k.toInt = 3 := by omega
  rcases this with q | q | q | q
  · exact Or.inl (Int32.toInt_inj.mp q)
  · exact Or.inr (Or.inl (Int32.toInt_inj.mp q))
  · exact Or.inr (Or.inr (Or.inl (Int32.toInt_inj.mp q)))
  · exact Or.inr (Or.inr (Or.inr (Int32.toInt_inj.mp q)))
end K
end Jvm.OwnWalk
namespace Jvm.Pilot.@@N@@
open Jvm Jvm.ClassFile Sem Op Lib Jvm.Free Jvm.Stand Jvm.LawKit Jvm.RoadKit Jvm.OwnWalk Bundle Jvm.Pilot.@@N@@.Jvm.D
def own_d (x : Int64) (s : Int32) : Int32 := (XT.ushrL x s).toInt32 &&& (15 : Int32)
def own_hex (d : Int32) : Int32 := if d < 10 then 48 + d else 55 + d
def own_hs : List Value := [(.int 48), (.int 49), (.int 50), (.int 51), (.int 52), (.int 53), (.int 54), (.int 55), (.int 56), (.int 57), (.int 65), (.int 66), (.int 67), (.int 68), (.int 69), (.int 70)]
theorem own_d16 (x : Int64) (s : Int32) : 0 ≤ (own_d x s).toInt ∧ (own_d x s).toInt < 16 := by
  have e := Jvm.Kit.i32_mask (XT.ushrL x s).toInt32 15 (k := 4) (by decide) (by decide)
  unfold own_d
  omega
theorem own_in16 {k : Int32} (h1 : 0 ≤ k.toInt) (h2 : k.toInt < 16) : ∃ n : Nat, n < 16 ∧ k = Int32.ofNat n := by
  refine ⟨k.toInt.toNat, by omega, Int32.toInt_inj.mp ?_⟩
  rw [Int32.toInt_ofNat_of_lt (by omega)]
  omega
theorem own_hsat {d : Int32} (h1 : 0 ≤ d.toInt) (h2 : d.toInt < 16) : own_hs.getD d.toNatClampNeg (.int 0) = .int (own_hex d) := by
  obtain ⟨n, hn, rfl⟩ := own_in16 h1 h2
  revert hn
  clear h1 h2
  match n with
  | 0 | 1 | 2 | 3 | 4 | 5 | 6 | 7 | 8 | 9 | 10 | 11 | 12 | 13 | 14 | 15 => intro _; rfl
  | n + 16 => intro h; omega
theorem own_idx {d : Int32} (h1 : 0 ≤ d.toInt) (h2 : d.toInt < 16) : ¬ d < 0 ∧ d < 16 := by
  have e0 : (0 : Int32).toInt = 0 := rfl
  have e1 : (16 : Int32).toInt = 16 := rfl
  exact ⟨fun q => by have := Int32.lt_iff_toInt_lt.mp q; omega, Int32.lt_iff_toInt_lt.mpr (by omega)⟩
def own_n (x : Int64) (i : Int32) : Int32 := (XT.ushrL (x <<< ((((4 : Int32) * i).toInt64) &&& 63)) 60).toInt32
def own_hx (x : Int64) (i : Int32) : Int32 := if own_n x i < 10 then ((48 : Int32) + own_n x i).toInt8.toInt32 else ((65 : Int32) + (own_n x i - 10)).toInt8.toInt32
theorem d_prog_27_method_3_0 : decode prog_27_method_3_code 0 = .ok (.iconst 0, 1) := by decide +kernel
theorem d_prog_27_method_3_1 : decode prog_27_method_3_code 1 = .ok (.istore 4, 2) := by decide +kernel
theorem d_prog_27_method_3_3 : decode prog_27_method_3_code 3 = .ok (.iload 4, 2) := by decide +kernel
theorem d_prog_27_method_3_5 : decode prog_27_method_3_code 5 = .ok (.bipush 16, 2) := by decide +kernel
theorem d_prog_27_method_3_7 : decode prog_27_method_3_code 7 = .ok (.if_icmp .ge 32, 3) := by decide +kernel
theorem d_prog_27_method_3_10 : decode prog_27_method_3_code 10 = .ok (.aload_n 0, 1) := by decide +kernel
theorem d_prog_27_method_3_11 : decode prog_27_method_3_code 11 = .ok (.iload_n 1, 1) := by decide +kernel
theorem d_prog_27_method_3_12 : decode prog_27_method_3_code 12 = .ok (.iload 4, 2) := by decide +kernel
theorem d_prog_27_method_3_14 : decode prog_27_method_3_code 14 = .ok (.iadd, 1) := by decide +kernel
theorem d_prog_27_method_3_15 : decode prog_27_method_3_code 15 = .ok (.getstatic 28, 3) := by decide +kernel
theorem d_prog_27_method_3_18 : decode prog_27_method_3_code 18 = .ok (.lload_n 2, 1) := by decide +kernel
theorem d_prog_27_method_3_19 : decode prog_27_method_3_code 19 = .ok (.iconst 4, 1) := by decide +kernel
theorem d_prog_27_method_3_20 : decode prog_27_method_3_code 20 = .ok (.bipush 15, 2) := by decide +kernel
theorem d_prog_27_method_3_22 : decode prog_27_method_3_code 22 = .ok (.iload 4, 2) := by decide +kernel
theorem d_prog_27_method_3_24 : decode prog_27_method_3_code 24 = .ok (.isub, 1) := by decide +kernel
theorem d_prog_27_method_3_25 : decode prog_27_method_3_code 25 = .ok (.imul, 1) := by decide +kernel
theorem d_prog_27_method_3_26 : decode prog_27_method_3_code 26 = .ok (.lushr, 1) := by decide +kernel
theorem d_prog_27_method_3_27 : decode prog_27_method_3_code 27 = .ok (.l2i, 1) := by decide +kernel
theorem d_prog_27_method_3_28 : decode prog_27_method_3_code 28 = .ok (.bipush 15, 2) := by decide +kernel
theorem d_prog_27_method_3_30 : decode prog_27_method_3_code 30 = .ok (.iand, 1) := by decide +kernel
theorem d_prog_27_method_3_31 : decode prog_27_method_3_code 31 = .ok (.baload, 1) := by decide +kernel
theorem d_prog_27_method_3_32 : decode prog_27_method_3_code 32 = .ok (.bastore, 1) := by decide +kernel
theorem d_prog_27_method_3_33 : decode prog_27_method_3_code 33 = .ok (.iinc 4 1, 3) := by decide +kernel
theorem d_prog_27_method_3_36 : decode prog_27_method_3_code 36 = .ok (.goto (-33), 3) := by decide +kernel
theorem d_prog_27_method_3_39 : decode prog_27_method_3_code 39 = .ok (.aload_n 0, 1) := by decide +kernel
theorem d_prog_27_method_3_40 : decode prog_27_method_3_code 40 = .ok (.iload_n 1, 1) := by decide +kernel
theorem d_prog_27_method_3_41 : decode prog_27_method_3_code 41 = .ok (.bipush 16, 2) := by decide +kernel
theorem d_prog_27_method_3_43 : decode prog_27_method_3_code 43 = .ok (.iadd, 1) := by decide +kernel
theorem d_prog_27_method_3_44 : decode prog_27_method_3_code 44 = .ok (.bipush 45, 2) := by decide +kernel
theorem d_prog_27_method_3_46 : decode prog_27_method_3_code 46 = .ok (.bastore, 1) := by decide +kernel
theorem d_prog_27_method_3_47 : decode prog_27_method_3_code 47 = .ok (.return_, 1) := by decide +kernel
theorem pn_0 : plainName "com/example/tidewater/tidewater/format/Pos" = true := by first | (simp [plainName, overriddenIn]; done) | decide +kernel
def Q_wl0 (Z : State) (a1 hxa : Addr) (k1 kh : ClassId) (xx : Int64) (f : Int32) (h0 : Heap) (n0 : Nat) (v : Option Value) (h : Heap) (L : List Loc) : Prop := v = none ∧ Fr n0 L ∧ Keep h0 h [a1] ∧ Arv Z h a1 k1 .byte 20 [(.int (nar .byte (own_hex (own_d xx (60 : Int32))))), (.int (nar .byte (own_hex (own_d xx (56 : Int32))))), (.int (nar .byte (own_hex (own_d xx (52 : Int32))))), (.int (nar .byte (own_hex (own_d xx (48 : Int32))))), (.int (nar .byte (own_hex (own_d xx (44 : Int32))))), (.int (nar .byte (own_hex (own_d xx (40 : Int32))))), (.int (nar .byte (own_hex (own_d xx (36 : Int32))))), (.int (nar .byte (own_hex (own_d xx (32 : Int32))))), (.int (nar .byte (own_hex (own_d xx (28 : Int32))))), (.int (nar .byte (own_hex (own_d xx (24 : Int32))))), (.int (nar .byte (own_hex (own_d xx (20 : Int32))))), (.int (nar .byte (own_hex (own_d xx (16 : Int32))))), (.int (nar .byte (own_hex (own_d xx (12 : Int32))))), (.int (nar .byte (own_hex (own_d xx (8 : Int32))))), (.int (nar .byte (own_hex (own_d xx (4 : Int32))))), (.int (nar .byte (own_hex (own_d xx (0 : Int32))))), (.int (nar .byte (45 : Int32))), (.int f), (.int f), (.int f)] (.int 0)
set_option maxRecDepth 65536 in
set_option maxHeartbeats 40000000 in
theorem rm_wl0 (l : Launch) (Z : State) (a0 : Array Value) (hw : ∀ d ∈ tables_1, d.before a0 Z = true) (ws : List Jvm.Cond) (a1 hxa : Addr) (k1 kh : ClassId) (xx : Int64) (f : Int32) (h0 : Heap) (n0 : Nat) (Z0 : n0 ≤ h0.size) (O : Old Z n0 h0) (SH : Sta Z Z.heap "com/example/tidewater/tidewater/format/Pos" "HEX" "[B" (.ref hxa)) (VH : Arv Z Z.heap hxa kh .byte 16 own_hs (.int 0)) (Va : Arv Z h0 a1 k1 .byte 20 [(.int f), (.int f), (.int f), (.int f), (.int f), (.int f), (.int f), (.int f), (.int f), (.int f), (.int f), (.int f), (.int f), (.int f), (.int f), (.int f), (.int f), (.int f), (.int f), (.int f)] (.int 0)) (g_a1 : n0 ≤ a1) :
    Met l Z (⟨"com/example/tidewater/tidewater/format/Pos", "writeLsn", "([BIJ)V"⟩ : MethodName) prog_27_method_3_code 5 none ws ({ frames := 0, cells := 0, slots := 0, locals := 0 } : Room) #[(.ref a1), (.int (0 : Int32)), (.long xx)] h0 (Q_wl0 Z a1 hxa k1 kh xx f h0 n0) := by
  refine Met.start (plainFor_of_name pn_0) ?_
  intro p e s m below meth c T X hx hby hml hown hnm hret hlk hZ eT
  have N := Fr.nil n0
  have K := Keep.refl h0 [a1]
  refine Wout.cast (g' := (mkF m 0 #[.val (.ref a1), .val (.int (0 : Int32)), .val (.long xx), .second, .unset] [])) (by first | rfl | (simp [entryFrame, mkF, argsToLocals, Value.category]; done)) ?_
  refine o_iconst X hx 1 (0 : Int32) (hb hby d_prog_27_method_3_0) rfl rfl ?_
  refine o_istore X hx 3 (Ls' := #[.val (.ref a1), .val (.int (0 : Int32)), .val (.long xx), .second, .val (.int (0 : Int32))]) (hb hby d_prog_27_method_3_1) rfl rfl ?_
  refine o_iload X hx 5 (hb hby d_prog_27_method_3_3) rfl rfl ?_
  refine o_bipush X hx 7 (16 : Int32) (hb hby d_prog_27_method_3_5) rfl rfl ?_
  refine o_icmpF X hx 10 (hb hby d_prog_27_method_3_7) rfl (by decide : (0 : Int32) < (16 : Int32)) ?_
  refine o_aloadN X hx 11 (hb hby d_prog_27_method_3_10) rfl rfl rfl ?_
  refine o_iloadN X hx 12 (hb hby d_prog_27_method_3_11) rfl rfl ?_
  refine o_iload X hx 14 (hb hby d_prog_27_method_3_12) rfl rfl ?_
  refine o_iadd X hx 15 (hb hby d_prog_27_method_3_14) rfl ?_
  rw [show ((0 : Int32) + (0 : Int32)) = (0 : Int32) from by decide]
  refine o_getS X hx hZ hown (host := "") (Or.inl (hw _ (List.mem_of_getElem? (i := 5) rfl))) Via.refl eT (SH.ext O.2) 18 (hb hby d_prog_27_method_3_15) rfl (fun T X eT => ?_)
  refine o_lloadN X hx 19 (hb hby d_prog_27_method_3_18) rfl rfl ?_
  refine o_iconst X hx 20 (4 : Int32) (hb hby d_prog_27_method_3_19) rfl rfl ?_
  refine o_bipush X hx 22 (15 : Int32) (hb hby d_prog_27_method_3_20) rfl rfl ?_
  refine o_iload X hx 24 (hb hby d_prog_27_method_3_22) rfl rfl ?_
  refine o_isub X hx 25 (hb hby d_prog_27_method_3_24) rfl ?_
  rw [show ((15 : Int32) - (0 : Int32)) = (15 : Int32) from by decide]
  refine o_imul X hx 26 (hb hby d_prog_27_method_3_25) rfl ?_
  rw [show ((4 : Int32) * (15 : Int32)) = (60 : Int32) from by decide]
  refine o_lushr X hx 27 (hb hby d_prog_27_method_3_26) rfl ?_
  refine o_l2i X hx 28 (hb hby d_prog_27_method_3_27) rfl ?_
  refine o_bipush X hx 30 (15 : Int32) (hb hby d_prog_27_method_3_28) rfl rfl ?_
  refine o_iand X hx 31 (hb hby d_prog_27_method_3_30) rfl ?_
  show Wout p e below _ T (mkF m 31 #[.val (.ref a1), .val (.int (0 : Int32)), .val (.long xx), .second, .val (.int (0 : Int32))] [(.int (own_d xx (60 : Int32))), (.ref hxa), (.int (0 : Int32)), (.ref a1)])
  refine o_baload X hx hZ eT (VH.ext O.2) (own_idx (own_d16 xx _).1 (own_d16 xx _).2) (v := (.int (own_hex (own_d xx (60 : Int32))))) (own_hsat (own_d16 xx _).1 (own_d16 xx _).2) 32 (hb hby d_prog_27_method_3_31) rfl ?_
  refine o_bastore X hx hZ eT Va ⟨by decide, by decide⟩ 0 rfl (Nat.le_of_ble_eq_true rfl) (vs' := [(.int (nar .byte (own_hex (own_d xx (60 : Int32))))), (.int f), (.int f), (.int f), (.int f), (.int f), (.int f), (.int f), (.int f), (.int f), (.int f), (.int f), (.int f), (.int f), (.int f), (.int f), (.int f), (.int f), (.int f), (.int f)]) rfl N g_a1 33 (hb hby d_prog_27_method_3_32) rfl (fun T h1 locs X eT W V' N => ?_)
  replace Z0 := Nat.le_trans Z0 (Keep.of_wr W).1
  replace K := K.wr W (Or.inl (List.mem_of_getElem? (i := 0) rfl))
  replace O := O.wr W g_a1
  replace Va := V'
  refine o_iinc X hx 36 (Ls' := #[.val (.ref a1), .val (.int (0 : Int32)), .val (.long xx), .second, .val (.int ((0 : Int32) + (1 : Int32)))]) (1 : Int32) (hb hby d_prog_27_method_3_33) rfl rfl rfl rfl ?_
  rw [show ((0 : Int32) + (1 : Int32)) = (1 : Int32) from by decide]
  refine o_goto X hx 3 (hb hby d_prog_27_method_3_36) rfl ?_
  refine o_iload X hx 5 (hb hby d_prog_27_method_3_3) rfl rfl ?_
  refine o_bipush X hx 7 (16 : Int32) (hb hby d_prog_27_method_3_5) rfl rfl ?_
  refine o_icmpF X hx 10 (hb hby d_prog_27_method_3_7) rfl (by decide : (1 : Int32) < (16 : Int32)) ?_
  refine o_aloadN X hx 11 (hb hby d_prog_27_method_3_10) rfl rfl rfl ?_
  refine o_iloadN X hx 12 (hb hby d_prog_27_method_3_11) rfl rfl ?_
  refine o_iload X hx 14 (hb hby d_prog_27_method_3_12) rfl rfl ?_
  refine o_iadd X hx 15 (hb hby d_prog_27_method_3_14) rfl ?_
  rw [show ((0 : Int32) + (1 : Int32)) = (1 : Int32) from by decide]
  refine o_getS X hx hZ hown (host := "") (Or.inl (hw _ (List.mem_of_getElem? (i := 5) rfl))) Via.refl eT (SH.ext O.2) 18 (hb hby d_prog_27_method_3_15) rfl (fun T X eT => ?_)
  refine o_lloadN X hx 19 (hb hby d_prog_27_method_3_18) rfl rfl ?_
  refine o_iconst X hx 20 (4 : Int32) (hb hby d_prog_27_method_3_19) rfl rfl ?_
  refine o_bipush X hx 22 (15 : Int32) (hb hby d_prog_27_method_3_20) rfl rfl ?_
  refine o_iload X hx 24 (hb hby d_prog_27_method_3_22) rfl rfl ?_
  refine o_isub X hx 25 (hb hby d_prog_27_method_3_24) rfl ?_
  rw [show ((15 : Int32) - (1 : Int32)) = (14 : Int32) from by decide]
  refine o_imul X hx 26 (hb hby d_prog_27_method_3_25) rfl ?_
  rw [show ((4 : Int32) * (14 : Int32)) = (56 : Int32) from by decide]
  refine o_lushr X hx 27 (hb hby d_prog_27_method_3_26) rfl ?_
  refine o_l2i X hx 28 (hb hby d_prog_27_method_3_27) rfl ?_
  refine o_bipush X hx 30 (15 : Int32) (hb hby d_prog_27_method_3_28) rfl rfl ?_
  refine o_iand X hx 31 (hb hby d_prog_27_method_3_30) rfl ?_
  show Wout p e below _ T (mkF m 31 #[.val (.ref a1), .val (.int (0 : Int32)), .val (.long xx), .second, .val (.int (1 : Int32))] [(.int (own_d xx (56 : Int32))), (.ref hxa), (.int (1 : Int32)), (.ref a1)])
  refine o_baload X hx hZ eT (VH.ext O.2) (own_idx (own_d16 xx _).1 (own_d16 xx _).2) (v := (.int (own_hex (own_d xx (56 : Int32))))) (own_hsat (own_d16 xx _).1 (own_d16 xx _).2) 32 (hb hby d_prog_27_method_3_31) rfl ?_
  refine o_bastore X hx hZ eT Va ⟨by decide, by decide⟩ 1 rfl (Nat.le_of_ble_eq_true rfl) (vs' := [(.int (nar .byte (own_hex (own_d xx (60 : Int32))))), (.int (nar .byte (own_hex (own_d xx (56 : Int32))))), (.int f), (.int f), (.int f), (.int f), (.int f), (.int f), (.int f), (.int f), (.int f), (.int f), (.int f), (.int f), (.int f), (.int f), (.int f), (.int f), (.int f), (.int f)]) rfl N g_a1 33 (hb hby d_prog_27_method_3_32) rfl (fun T h2 locs X eT W V' N => ?_)
  replace Z0 := Nat.le_trans Z0 (Keep.of_wr W).1
  replace K := K.wr W (Or.inl (List.mem_of_getElem? (i := 0) rfl))
  replace O := O.wr W g_a1
  replace Va := V'
  refine o_iinc X hx 36 (Ls' := #[.val (.ref a1), .val (.int (0 : Int32)), .val (.long xx), .second, .val (.int ((1 : Int32) + (1 : Int32)))]) (1 : Int32) (hb hby d_prog_27_method_3_33) rfl rfl rfl rfl ?_
  rw [show ((1 : Int32) + (1 : Int32)) = (2 : Int32) from by decide]
  refine o_goto X hx 3 (hb hby d_prog_27_method_3_36) rfl ?_
  refine o_iload X hx 5 (hb hby d_prog_27_method_3_3) rfl rfl ?_
  refine o_bipush X hx 7 (16 : Int32) (hb hby d_prog_27_method_3_5) rfl rfl ?_
  refine o_icmpF X hx 10 (hb hby d_prog_27_method_3_7) rfl (by decide : (2 : Int32) < (16 : Int32)) ?_
  refine o_aloadN X hx 11 (hb hby d_prog_27_method_3_10) rfl rfl rfl ?_
  refine o_iloadN X hx 12 (hb hby d_prog_27_method_3_11) rfl rfl ?_
  refine o_iload X hx 14 (hb hby d_prog_27_method_3_12) rfl rfl ?_
  refine o_iadd X hx 15 (hb hby d_prog_27_method_3_14) rfl ?_
  rw [show ((0 : Int32) + (2 : Int32)) = (2 : Int32) from by decide]
  refine o_getS X hx hZ hown (host := "") (Or.inl (hw _ (List.mem_of_getElem? (i := 5) rfl))) Via.refl eT (SH.ext O.2) 18 (hb hby d_prog_27_method_3_15) rfl (fun T X eT => ?_)
  refine o_lloadN X hx 19 (hb hby d_prog_27_method_3_18) rfl rfl ?_
  refine o_iconst X hx 20 (4 : Int32) (hb hby d_prog_27_method_3_19) rfl rfl ?_
  refine o_bipush X hx 22 (15 : Int32) (hb hby d_prog_27_method_3_20) rfl rfl ?_
  refine o_iload X hx 24 (hb hby d_prog_27_method_3_22) rfl rfl ?_
  refine o_isub X hx 25 (hb hby d_prog_27_method_3_24) rfl ?_
  rw [show ((15 : Int32) - (2 : Int32)) = (13 : Int32) from by decide]
  refine o_imul X hx 26 (hb hby d_prog_27_method_3_25) rfl ?_
  rw [show ((4 : Int32) * (13 : Int32)) = (52 : Int32) from by decide]
  refine o_lushr X hx 27 (hb hby d_prog_27_method_3_26) rfl ?_
  refine o_l2i X hx 28 (hb hby d_prog_27_method_3_27) rfl ?_
  refine o_bipush X hx 30 (15 : Int32) (hb hby d_prog_27_method_3_28) rfl rfl ?_
  refine o_iand X hx 31 (hb hby d_prog_27_method_3_30) rfl ?_
  show Wout p e below _ T (mkF m 31 #[.val (.ref a1), .val (.int (0 : Int32)), .val (.long xx), .second, .val (.int (2 : Int32))] [(.int (own_d xx (52 : Int32))), (.ref hxa), (.int (2 : Int32)), (.ref a1)])
  refine o_baload X hx hZ eT (VH.ext O.2) (own_idx (own_d16 xx _).1 (own_d16 xx _).2) (v := (.int (own_hex (own_d xx (52 : Int32))))) (own_hsat (own_d16 xx _).1 (own_d16 xx _).2) 32 (hb hby d_prog_27_method_3_31) rfl ?_
  refine o_bastore X hx hZ eT Va ⟨by decide, by decide⟩ 2 rfl (Nat.le_of_ble_eq_true rfl) (vs' := [(.int (nar .byte (own_hex (own_d xx (60 : Int32))))), (.int (nar .byte (own_hex (own_d xx (56 : Int32))))), (.int (nar .byte (own_hex (own_d xx (52 : Int32))))), (.int f), (.int f), (.int f), (.int f), (.int f), (.int f), (.int f), (.int f), (.int f), (.int f), (.int f), (.int f), (.int f), (.int f), (.int f), (.int f), (.int f)]) rfl N g_a1 33 (hb hby d_prog_27_method_3_32) rfl (fun T h3 locs X eT W V' N => ?_)
  replace Z0 := Nat.le_trans Z0 (Keep.of_wr W).1
  replace K := K.wr W (Or.inl (List.mem_of_getElem? (i := 0) rfl))
  replace O := O.wr W g_a1
  replace Va := V'
  refine o_iinc X hx 36 (Ls' := #[.val (.ref a1), .val (.int (0 : Int32)), .val (.long xx), .second, .val (.int ((2 : Int32) + (1 : Int32)))]) (1 : Int32) (hb hby d_prog_27_method_3_33) rfl rfl rfl rfl ?_
  rw [show ((2 : Int32) + (1 : Int32)) = (3 : Int32) from by decide]
  refine o_goto X hx 3 (hb hby d_prog_27_method_3_36) rfl ?_
  refine o_iload X hx 5 (hb hby d_prog_27_method_3_3) rfl rfl ?_
  refine o_bipush X hx 7 (16 : Int32) (hb hby d_prog_27_method_3_5) rfl rfl ?_
  refine o_icmpF X hx 10 (hb hby d_prog_27_method_3_7) rfl (by decide : (3 : Int32) < (16 : Int32)) ?_
  refine o_aloadN X hx 11 (hb hby d_prog_27_method_3_10) rfl rfl rfl ?_
  refine o_iloadN X hx 12 (hb hby d_prog_27_method_3_11) rfl rfl ?_
  refine o_iload X hx 14 (hb hby d_prog_27_method_3_12) rfl rfl ?_
  refine o_iadd X hx 15 (hb hby d_prog_27_method_3_14) rfl ?_
  rw [show ((0 : Int32) + (3 : Int32)) = (3 : Int32) from by decide]
  refine o_getS X hx hZ hown (host := "") (Or.inl (hw _ (List.mem_of_getElem? (i := 5) rfl))) Via.refl eT (SH.ext O.2) 18 (hb hby d_prog_27_method_3_15) rfl (fun T X eT => ?_)
  refine o_lloadN X hx 19 (hb hby d_prog_27_method_3_18) rfl rfl ?_
  refine o_iconst X hx 20 (4 : Int32) (hb hby d_prog_27_method_3_19) rfl rfl ?_
  refine o_bipush X hx 22 (15 : Int32) (hb hby d_prog_27_method_3_20) rfl rfl ?_
  refine o_iload X hx 24 (hb hby d_prog_27_method_3_22) rfl rfl ?_
  refine o_isub X hx 25 (hb hby d_prog_27_method_3_24) rfl ?_
  rw [show ((15 : Int32) - (3 : Int32)) = (12 : Int32) from by decide]
  refine o_imul X hx 26 (hb hby d_prog_27_method_3_25) rfl ?_
  rw [show ((4 : Int32) * (12 : Int32)) = (48 : Int32) from by decide]
  refine o_lushr X hx 27 (hb hby d_prog_27_method_3_26) rfl ?_
  refine o_l2i X hx 28 (hb hby d_prog_27_method_3_27) rfl ?_
  refine o_bipush X hx 30 (15 : Int32) (hb hby d_prog_27_method_3_28) rfl rfl ?_
  refine o_iand X hx 31 (hb hby d_prog_27_method_3_30) rfl ?_
  show Wout p e below _ T (mkF m 31 #[.val (.ref a1), .val (.int (0 : Int32)), .val (.long xx), .second, .val (.int (3 : Int32))] [(.int (own_d xx (48 : Int32))), (.ref hxa), (.int (3 : Int32)), (.ref a1)])
  refine o_baload X hx hZ eT (VH.ext O.2) (own_idx (own_d16 xx _).1 (own_d16 xx _).2) (v := (.int (own_hex (own_d xx (48 : Int32))))) (own_hsat (own_d16 xx _).1 (own_d16 xx _).2) 32 (hb hby d_prog_27_method_3_31) rfl ?_
  refine o_bastore X hx hZ eT Va ⟨by decide, by decide⟩ 3 rfl (Nat.le_of_ble_eq_true rfl) (vs' := [(.int (nar .byte (own_hex (own_d xx (60 : Int32))))), (.int (nar .byte (own_hex (own_d xx (56 : Int32))))), (.int (nar .byte (own_hex (own_d xx (52 : Int32))))), (.int (nar .byte (own_hex (own_d xx (48 : Int32))))), (.int f), (.int f), (.int f), (.int f), (.int f), (.int f), (.int f), (.int f), (.int f), (.int f), (.int f), (.int f), (.int f), (.int f), (.int f), (.int f)]) rfl N g_a1 33 (hb hby d_prog_27_method_3_32) rfl (fun T h4 locs X eT W V' N => ?_)
  replace Z0 := Nat.le_trans Z0 (Keep.of_wr W).1
  replace K := K.wr W (Or.inl (List.mem_of_getElem? (i := 0) rfl))
  replace O := O.wr W g_a1
  replace Va := V'
  refine o_iinc X hx 36 (Ls' := #[.val (.ref a1), .val (.int (0 : Int32)), .val (.long xx), .second, .val (.int ((3 : Int32) + (1 : Int32)))]) (1 : Int32) (hb hby d_prog_27_method_3_33) rfl rfl rfl rfl ?_
  rw [show ((3 : Int32) + (1 : Int32)) = (4 : Int32) from by decide]
  refine o_goto X hx 3 (hb hby d_prog_27_method_3_36) rfl ?_
  refine o_iload X hx 5 (hb hby d_prog_27_method_3_3) rfl rfl ?_
  refine o_bipush X hx 7 (16 : Int32) (hb hby d_prog_27_method_3_5) rfl rfl ?_
  refine o_icmpF X hx 10 (hb hby d_prog_27_method_3_7) rfl (by decide : (4 : Int32) < (16 : Int32)) ?_
  refine o_aloadN X hx 11 (hb hby d_prog_27_method_3_10) rfl rfl rfl ?_
  refine o_iloadN X hx 12 (hb hby d_prog_27_method_3_11) rfl rfl ?_
  refine o_iload X hx 14 (hb hby d_prog_27_method_3_12) rfl rfl ?_
  refine o_iadd X hx 15 (hb hby d_prog_27_method_3_14) rfl ?_
  rw [show ((0 : Int32) + (4 : Int32)) = (4 : Int32) from by decide]
  refine o_getS X hx hZ hown (host := "") (Or.inl (hw _ (List.mem_of_getElem? (i := 5) rfl))) Via.refl eT (SH.ext O.2) 18 (hb hby d_prog_27_method_3_15) rfl (fun T X eT => ?_)
  refine o_lloadN X hx 19 (hb hby d_prog_27_method_3_18) rfl rfl ?_
  refine o_iconst X hx 20 (4 : Int32) (hb hby d_prog_27_method_3_19) rfl rfl ?_
  refine o_bipush X hx 22 (15 : Int32) (hb hby d_prog_27_method_3_20) rfl rfl ?_
  refine o_iload X hx 24 (hb hby d_prog_27_method_3_22) rfl rfl ?_
  refine o_isub X hx 25 (hb hby d_prog_27_method_3_24) rfl ?_
  rw [show ((15 : Int32) - (4 : Int32)) = (11 : Int32) from by decide]
  refine o_imul X hx 26 (hb hby d_prog_27_method_3_25) rfl ?_
  rw [show ((4 : Int32) * (11 : Int32)) = (44 : Int32) from by decide]
  refine o_lushr X hx 27 (hb hby d_prog_27_method_3_26) rfl ?_
  refine o_l2i X hx 28 (hb hby d_prog_27_method_3_27) rfl ?_
  refine o_bipush X hx 30 (15 : Int32) (hb hby d_prog_27_method_3_28) rfl rfl ?_
  refine o_iand X hx 31 (hb hby d_prog_27_method_3_30) rfl ?_
  show Wout p e below _ T (mkF m 31 #[.val (.ref a1), .val (.int (0 : Int32)), .val (.long xx), .second, .val (.int (4 : Int32))] [(.int (own_d xx (44 : Int32))), (.ref hxa), (.int (4 : Int32)), (.ref a1)])
  refine o_baload X hx hZ eT (VH.ext O.2) (own_idx (own_d16 xx _).1 (own_d16 xx _).2) (v := (.int (own_hex (own_d xx (44 : Int32))))) (own_hsat (own_d16 xx _).1 (own_d16 xx _).2) 32 (hb hby d_prog_27_method_3_31) rfl ?_
  refine o_bastore X hx hZ eT Va ⟨by decide, by decide⟩ 4 rfl (Nat.le_of_ble_eq_true rfl) (vs' := [(.int (nar .byte (own_hex (own_d xx (60 : Int32))))), (.int (nar .byte (own_hex (own_d xx (56 : Int32))))), (.int (nar .byte (own_hex (own_d xx (52 : Int32))))), (.int (nar .byte (own_hex (own_d xx (48 : Int32))))), (.int (nar .byte (own_hex (own_d xx (44 : Int32))))), (.int f), (.int f), (.int f), (.int f), (.int f), (.int f), (.int f), (.int f), (.int f), (.int f), (.int f), (.int f), (.int f), (.int f), (.int f)]) rfl N g_a1 33 (hb hby d_prog_27_method_3_32) rfl (fun T h5 locs X eT W V' N => ?_)
  replace Z0 := Nat.le_trans Z0 (Keep.of_wr W).1
  replace K := K.wr W (Or.inl (List.mem_of_getElem? (i := 0) rfl))
  replace O := O.wr W g_a1
  replace Va := V'
  refine o_iinc X hx 36 (Ls' := #[.val (.ref a1), .val (.int (0 : Int32)), .val (.long xx), .second, .val (.int ((4 : Int32) + (1 : Int32)))]) (1 : Int32) (hb hby d_prog_27_method_3_33) rfl rfl rfl rfl ?_
  rw [show ((4 : Int32) + (1 : Int32)) = (5 : Int32) from by decide]
  refine o_goto X hx 3 (hb hby d_prog_27_method_3_36) rfl ?_
  refine o_iload X hx 5 (hb hby d_prog_27_method_3_3) rfl rfl ?_
  refine o_bipush X hx 7 (16 : Int32) (hb hby d_prog_27_method_3_5) rfl rfl ?_
  refine o_icmpF X hx 10 (hb hby d_prog_27_method_3_7) rfl (by decide : (5 : Int32) < (16 : Int32)) ?_
  refine o_aloadN X hx 11 (hb hby d_prog_27_method_3_10) rfl rfl rfl ?_
  refine o_iloadN X hx 12 (hb hby d_prog_27_method_3_11) rfl rfl ?_
  refine o_iload X hx 14 (hb hby d_prog_27_method_3_12) rfl rfl ?_
  refine o_iadd X hx 15 (hb hby d_prog_27_method_3_14) rfl ?_
  rw [show ((0 : Int32) + (5 : Int32)) = (5 : Int32) from by decide]
  refine o_getS X hx hZ hown (host := "") (Or.inl (hw _ (List.mem_of_getElem? (i := 5) rfl))) Via.refl eT (SH.ext O.2) 18 (hb hby d_prog_27_method_3_15) rfl (fun T X eT => ?_)
  refine o_lloadN X hx 19 (hb hby d_prog_27_method_3_18) rfl rfl ?_
  refine o_iconst X hx 20 (4 : Int32) (hb hby d_prog_27_method_3_19) rfl rfl ?_
  refine o_bipush X hx 22 (15 : Int32) (hb hby d_prog_27_method_3_20) rfl rfl ?_
  refine o_iload X hx 24 (hb hby d_prog_27_method_3_22) rfl rfl ?_
  refine o_isub X hx 25 (hb hby d_prog_27_method_3_24) rfl ?_
  rw [show ((15 : Int32) - (5 : Int32)) = (10 : Int32) from by decide]
  refine o_imul X hx 26 (hb hby d_prog_27_method_3_25) rfl ?_
  rw [show ((4 : Int32) * (10 : Int32)) = (40 : Int32) from by decide]
  refine o_lushr X hx 27 (hb hby d_prog_27_method_3_26) rfl ?_
  refine o_l2i X hx 28 (hb hby d_prog_27_method_3_27) rfl ?_
  refine o_bipush X hx 30 (15 : Int32) (hb hby d_prog_27_method_3_28) rfl rfl ?_
  refine o_iand X hx 31 (hb hby d_prog_27_method_3_30) rfl ?_
  show Wout p e below _ T (mkF m 31 #[.val (.ref a1), .val (.int (0 : Int32)), .val (.long xx), .second, .val (.int (5 : Int32))] [(.int (own_d xx (40 : Int32))), (.ref hxa), (.int (5 : Int32)), (.ref a1)])
  refine o_baload X hx hZ eT (VH.ext O.2) (own_idx (own_d16 xx _).1 (own_d16 xx _).2) (v := (.int (own_hex (own_d xx (40 : Int32))))) (own_hsat (own_d16 xx _).1 (own_d16 xx _).2) 32 (hb hby d_prog_27_method_3_31) rfl ?_
  refine o_bastore X hx hZ eT Va ⟨by decide, by decide⟩ 5 rfl (Nat.le_of_ble_eq_true rfl) (vs' := [(.int (nar .byte (own_hex (own_d xx (60 : Int32))))), (.int (nar .byte (own_hex (own_d xx (56 : Int32))))), (.int (nar .byte (own_hex (own_d xx (52 : Int32))))), (.int (nar .byte (own_hex (own_d xx (48 : Int32))))), (.int (nar .byte (own_hex (own_d xx (44 : Int32))))), (.int (nar .byte (own_hex (own_d xx (40 : Int32))))), (.int f), (.int f), (.int f), (.int f), (.int f), (.int f), (.int f), (.int f), (.int f), (.int f), (.int f), (.int f), (.int f), (.int f)]) rfl N g_a1 33 (hb hby d_prog_27_method_3_32) rfl (fun T h6 locs X eT W V' N => ?_)
  replace Z0 := Nat.le_trans Z0 (Keep.of_wr W).1
  replace K := K.wr W (Or.inl (List.mem_of_getElem? (i := 0) rfl))
  replace O := O.wr W g_a1
  replace Va := V'
  refine o_iinc X hx 36 (Ls' := #[.val (.ref a1), .val (.int (0 : Int32)), .val (.long xx), .second, .val (.int ((5 : Int32) + (1 : Int32)))]) (1 : Int32) (hb hby d_prog_27_method_3_33) rfl rfl rfl rfl ?_
  rw [show ((5 : Int32) + (1 : Int32)) = (6 : Int32) from by decide]
  refine o_goto X hx 3 (hb hby d_prog_27_method_3_36) rfl ?_
  refine o_iload X hx 5 (hb hby d_prog_27_method_3_3) rfl rfl ?_
  refine o_bipush X hx 7 (16 : Int32) (hb hby d_prog_27_method_3_5) rfl rfl ?_
  refine o_icmpF X hx 10 (hb hby d_prog_27_method_3_7) rfl (by decide : (6 : Int32) < (16 : Int32)) ?_
  refine o_aloadN X hx 11 (hb hby d_prog_27_method_3_10) rfl rfl rfl ?_
  refine o_iloadN X hx 12 (hb hby d_prog_27_method_3_11) rfl rfl ?_
  refine o_iload X hx 14 (hb hby d_prog_27_method_3_12) rfl rfl ?_
  refine o_iadd X hx 15 (hb hby d_prog_27_method_3_14) rfl ?_
  rw [show ((0 : Int32) + (6 : Int32)) = (6 : Int32) from by decide]
  refine o_getS X hx hZ hown (host := "") (Or.inl (hw _ (List.mem_of_getElem? (i := 5) rfl))) Via.refl eT (SH.ext O.2) 18 (hb hby d_prog_27_method_3_15) rfl (fun T X eT => ?_)
  refine o_lloadN X hx 19 (hb hby d_prog_27_method_3_18) rfl rfl ?_
  refine o_iconst X hx 20 (4 : Int32) (hb hby d_prog_27_method_3_19) rfl rfl ?_
  refine o_bipush X hx 22 (15 : Int32) (hb hby d_prog_27_method_3_20) rfl rfl ?_
  refine o_iload X hx 24 (hb hby d_prog_27_method_3_22) rfl rfl ?_
  refine o_isub X hx 25 (hb hby d_prog_27_method_3_24) rfl ?_
  rw [show ((15 : Int32) - (6 : Int32)) = (9 : Int32) from by decide]
  refine o_imul X hx 26 (hb hby d_prog_27_method_3_25) rfl ?_
  rw [show ((4 : Int32) * (9 : Int32)) = (36 : Int32) from by decide]
  refine o_lushr X hx 27 (hb hby d_prog_27_method_3_26) rfl ?_
  refine o_l2i X hx 28 (hb hby d_prog_27_method_3_27) rfl ?_
  refine o_bipush X hx 30 (15 : Int32) (hb hby d_prog_27_method_3_28) rfl rfl ?_
  refine o_iand X hx 31 (hb hby d_prog_27_method_3_30) rfl ?_
  show Wout p e below _ T (mkF m 31 #[.val (.ref a1), .val (.int (0 : Int32)), .val (.long xx), .second, .val (.int (6 : Int32))] [(.int (own_d xx (36 : Int32))), (.ref hxa), (.int (6 : Int32)), (.ref a1)])
  refine o_baload X hx hZ eT (VH.ext O.2) (own_idx (own_d16 xx _).1 (own_d16 xx _).2) (v := (.int (own_hex (own_d xx (36 : Int32))))) (own_hsat (own_d16 xx _).1 (own_d16 xx _).2) 32 (hb hby d_prog_27_method_3_31) rfl ?_
  refine o_bastore X hx hZ eT Va ⟨by decide, by decide⟩ 6 rfl (Nat.le_of_ble_eq_true rfl) (vs' := [(.int (nar .byte (own_hex (own_d xx (60 : Int32))))), (.int (nar .byte (own_hex (own_d xx (56 : Int32))))), (.int (nar .byte (own_hex (own_d xx (52 : Int32))))), (.int (nar .byte (own_hex (own_d xx (48 : Int32))))), (.int (nar .byte (own_hex (own_d xx (44 : Int32))))), (.int (nar .byte (own_hex (own_d xx (40 : Int32))))), (.int (nar .byte (own_hex (own_d xx (36 : Int32))))), (.int f), (.int f), (.int f), (.int f), (.int f), (.int f), (.int f), (.int f), (.int f), (.int f), (.int f), (.int f), (.int f)]) rfl N g_a1 33 (hb hby d_prog_27_method_3_32) rfl (fun T h7 locs X eT W V' N => ?_)
  replace Z0 := Nat.le_trans Z0 (Keep.of_wr W).1
  replace K := K.wr W (Or.inl (List.mem_of_getElem? (i := 0) rfl))
  replace O := O.wr W g_a1
  replace Va := V'
  refine o_iinc X hx 36 (Ls' := #[.val (.ref a1), .val (.int (0 : Int32)), .val (.long xx), .second, .val (.int ((6 : Int32) + (1 : Int32)))]) (1 : Int32) (hb hby d_prog_27_method_3_33) rfl rfl rfl rfl ?_
  rw [show ((6 : Int32) + (1 : Int32)) = (7 : Int32) from by decide]
  refine o_goto X hx 3 (hb hby d_prog_27_method_3_36) rfl ?_
  refine o_iload X hx 5 (hb hby d_prog_27_method_3_3) rfl rfl ?_
  refine o_bipush X hx 7 (16 : Int32) (hb hby d_prog_27_method_3_5) rfl rfl ?_
  refine o_icmpF X hx 10 (hb hby d_prog_27_method_3_7) rfl (by decide : (7 : Int32) < (16 : Int32)) ?_
  refine o_aloadN X hx 11 (hb hby d_prog_27_method_3_10) rfl rfl rfl ?_
  refine o_iloadN X hx 12 (hb hby d_prog_27_method_3_11) rfl rfl ?_
  refine o_iload X hx 14 (hb hby d_prog_27_method_3_12) rfl rfl ?_
  refine o_iadd X hx 15 (hb hby d_prog_27_method_3_14) rfl ?_
  rw [show ((0 : Int32) + (7 : Int32)) = (7 : Int32) from by decide]
  refine o_getS X hx hZ hown (host := "") (Or.inl (hw _ (List.mem_of_getElem? (i := 5) rfl))) Via.refl eT (SH.ext O.2) 18 (hb hby d_prog_27_method_3_15) rfl (fun T X eT => ?_)
  refine o_lloadN X hx 19 (hb hby d_prog_27_method_3_18) rfl rfl ?_
  refine o_iconst X hx 20 (4 : Int32) (hb hby d_prog_27_method_3_19) rfl rfl ?_
  refine o_bipush X hx 22 (15 : Int32) (hb hby d_prog_27_method_3_20) rfl rfl ?_
  refine o_iload X hx 24 (hb hby d_prog_27_method_3_22) rfl rfl ?_
  refine o_isub X hx 25 (hb hby d_prog_27_method_3_24) rfl ?_
  rw [show ((15 : Int32) - (7 : Int32)) = (8 : Int32) from by decide]
  refine o_imul X hx 26 (hb hby d_prog_27_method_3_25) rfl ?_
  rw [show ((4 : Int32) * (8 : Int32)) = (32 : Int32) from by decide]
  refine o_lushr X hx 27 (hb hby d_prog_27_method_3_26) rfl ?_
  refine o_l2i X hx 28 (hb hby d_prog_27_method_3_27) rfl ?_
  refine o_bipush X hx 30 (15 : Int32) (hb hby d_prog_27_method_3_28) rfl rfl ?_
  refine o_iand X hx 31 (hb hby d_prog_27_method_3_30) rfl ?_
  show Wout p e below _ T (mkF m 31 #[.val (.ref a1), .val (.int (0 : Int32)), .val (.long xx), .second, .val (.int (7 : Int32))] [(.int (own_d xx (32 : Int32))), (.ref hxa), (.int (7 : Int32)), (.ref a1)])
  refine o_baload X hx hZ eT (VH.ext O.2) (own_idx (own_d16 xx _).1 (own_d16 xx _).2) (v := (.int (own_hex (own_d xx (32 : Int32))))) (own_hsat (own_d16 xx _).1 (own_d16 xx _).2) 32 (hb hby d_prog_27_method_3_31) rfl ?_
  refine o_bastore X hx hZ eT Va ⟨by decide, by decide⟩ 7 rfl (Nat.le_of_ble_eq_true rfl) (vs' := [(.int (nar .byte (own_hex (own_d xx (60 : Int32))))), (.int (nar .byte (own_hex (own_d xx (56 : Int32))))), (.int (nar .byte (own_hex (own_d xx (52 : Int32))))), (.int (nar .byte (own_hex (own_d xx (48 : Int32))))), (.int (nar .byte (own_hex (own_d xx (44 : Int32))))), (.int (nar .byte (own_hex (own_d xx (40 : Int32))))), (.int (nar .byte (own_hex (own_d xx (36 : Int32))))), (.int (nar .byte (own_hex (own_d xx (32 : Int32))))), (.int f), (.int f), (.int f), (.int f), (.int f), (.int f), (.int f), (.int f), (.int f), (.int f), (.int f), (.int f)]) rfl N g_a1 33 (hb hby d_prog_27_method_3_32) rfl (fun T h8 locs X eT W V' N => ?_)
  replace Z0 := Nat.le_trans Z0 (Keep.of_wr W).1
  replace K := K.wr W (Or.inl (List.mem_of_getElem? (i := 0) rfl))
  replace O := O.wr W g_a1
  replace Va := V'
  refine o_iinc X hx 36 (Ls' := #[.val (.ref a1), .val (.int (0 : Int32)), .val (.long xx), .second, .val (.int ((7 : Int32) + (1 : Int32)))]) (1 : Int32) (hb hby d_prog_27_method_3_33) rfl rfl rfl rfl ?_
  rw [show ((7 : Int32) + (1 : Int32)) = (8 : Int32) from by decide]
  refine o_goto X hx 3 (hb hby d_prog_27_method_3_36) rfl ?_
  refine o_iload X hx 5 (hb hby d_prog_27_method_3_3) rfl rfl ?_
  refine o_bipush X hx 7 (16 : Int32) (hb hby d_prog_27_method_3_5) rfl rfl ?_
  refine o_icmpF X hx 10 (hb hby d_prog_27_method_3_7) rfl (by decide : (8 : Int32) < (16 : Int32)) ?_
  refine o_aloadN X hx 11 (hb hby d_prog_27_method_3_10) rfl rfl rfl ?_
  refine o_iloadN X hx 12 (hb hby d_prog_27_method_3_11) rfl rfl ?_
  refine o_iload X hx 14 (hb hby d_prog_27_method_3_12) rfl rfl ?_
  refine o_iadd X hx 15 (hb hby d_prog_27_method_3_14) rfl ?_
  rw [show ((0 : Int32) + (8 : Int32)) = (8 : Int32) from by decide]
  refine o_getS X hx hZ hown (host := "") (Or.inl (hw _ (List.mem_of_getElem? (i := 5) rfl))) Via.refl eT (SH.ext O.2) 18 (hb hby d_prog_27_method_3_15) rfl (fun T X eT => ?_)
  refine o_lloadN X hx 19 (hb hby d_prog_27_method_3_18) rfl rfl ?_
  refine o_iconst X hx 20 (4 : Int32) (hb hby d_prog_27_method_3_19) rfl rfl ?_
  refine o_bipush X hx 22 (15 : Int32) (hb hby d_prog_27_method_3_20) rfl rfl ?_
  refine o_iload X hx 24 (hb hby d_prog_27_method_3_22) rfl rfl ?_
  refine o_isub X hx 25 (hb hby d_prog_27_method_3_24) rfl ?_
  rw [show ((15 : Int32) - (8 : Int32)) = (7 : Int32) from by decide]
  refine o_imul X hx 26 (hb hby d_prog_27_method_3_25) rfl ?_
  rw [show ((4 : Int32) * (7 : Int32)) = (28 : Int32) from by decide]
  refine o_lushr X hx 27 (hb hby d_prog_27_method_3_26) rfl ?_
  refine o_l2i X hx 28 (hb hby d_prog_27_method_3_27) rfl ?_
  refine o_bipush X hx 30 (15 : Int32) (hb hby d_prog_27_method_3_28) rfl rfl ?_
  refine o_iand X hx 31 (hb hby d_prog_27_method_3_30) rfl ?_
  show Wout p e below _ T (mkF m 31 #[.val (.ref a1), .val (.int (0 : Int32)), .val (.long xx), .second, .val (.int (8 : Int32))] [(.int (own_d xx (28 : Int32))), (.ref hxa), (.int (8 : Int32)), (.ref a1)])
  refine o_baload X hx hZ eT (VH.ext O.2) (own_idx (own_d16 xx _).1 (own_d16 xx _).2) (v := (.int (own_hex (own_d xx (28 : Int32))))) (own_hsat (own_d16 xx _).1 (own_d16 xx _).2) 32 (hb hby d_prog_27_method_3_31) rfl ?_
  refine o_bastore X hx hZ eT Va ⟨by decide, by decide⟩ 8 rfl (Nat.le_of_ble_eq_true rfl) (vs' := [(.int (nar .byte (own_hex (own_d xx (60 : Int32))))), (.int (nar .byte (own_hex (own_d xx (56 : Int32))))), (.int (nar .byte (own_hex (own_d xx (52 : Int32))))), (.int (nar .byte (own_hex (own_d xx (48 : Int32))))), (.int (nar .byte (own_hex (own_d xx (44 : Int32))))), (.int (nar .byte (own_hex (own_d xx (40 : Int32))))), (.int (nar .byte (own_hex (own_d xx (36 : Int32))))), (.int (nar .byte (own_hex (own_d xx (32 : Int32))))), (.int (nar .byte (own_hex (own_d xx (28 : Int32))))), (.int f), (.int f), (.int f), (.int f), (.int f), (.int f), (.int f), (.int f), (.int f), (.int f), (.int f)]) rfl N g_a1 33 (hb hby d_prog_27_method_3_32) rfl (fun T h9 locs X eT W V' N => ?_)
  replace Z0 := Nat.le_trans Z0 (Keep.of_wr W).1
  replace K := K.wr W (Or.inl (List.mem_of_getElem? (i := 0) rfl))
  replace O := O.wr W g_a1
  replace Va := V'
  refine o_iinc X hx 36 (Ls' := #[.val (.ref a1), .val (.int (0 : Int32)), .val (.long xx), .second, .val (.int ((8 : Int32) + (1 : Int32)))]) (1 : Int32) (hb hby d_prog_27_method_3_33) rfl rfl rfl rfl ?_
  rw [show ((8 : Int32) + (1 : Int32)) = (9 : Int32) from by decide]
  refine o_goto X hx 3 (hb hby d_prog_27_method_3_36) rfl ?_
  refine o_iload X hx 5 (hb hby d_prog_27_method_3_3) rfl rfl ?_
  refine o_bipush X hx 7 (16 : Int32) (hb hby d_prog_27_method_3_5) rfl rfl ?_
  refine o_icmpF X hx 10 (hb hby d_prog_27_method_3_7) rfl (by decide : (9 : Int32) < (16 : Int32)) ?_
  refine o_aloadN X hx 11 (hb hby d_prog_27_method_3_10) rfl rfl rfl ?_
  refine o_iloadN X hx 12 (hb hby d_prog_27_method_3_11) rfl rfl ?_
  refine o_iload X hx 14 (hb hby d_prog_27_method_3_12) rfl rfl ?_
  refine o_iadd X hx 15 (hb hby d_prog_27_method_3_14) rfl ?_
  rw [show ((0 : Int32) + (9 : Int32)) = (9 : Int32) from by decide]
  refine o_getS X hx hZ hown (host := "") (Or.inl (hw _ (List.mem_of_getElem? (i := 5) rfl))) Via.refl eT (SH.ext O.2) 18 (hb hby d_prog_27_method_3_15) rfl (fun T X eT => ?_)
  refine o_lloadN X hx 19 (hb hby d_prog_27_method_3_18) rfl rfl ?_
  refine o_iconst X hx 20 (4 : Int32) (hb hby d_prog_27_method_3_19) rfl rfl ?_
  refine o_bipush X hx 22 (15 : Int32) (hb hby d_prog_27_method_3_20) rfl rfl ?_
  refine o_iload X hx 24 (hb hby d_prog_27_method_3_22) rfl rfl ?_
  refine o_isub X hx 25 (hb hby d_prog_27_method_3_24) rfl ?_
  rw [show ((15 : Int32) - (9 : Int32)) = (6 : Int32) from by decide]
  refine o_imul X hx 26 (hb hby d_prog_27_method_3_25) rfl ?_
  rw [show ((4 : Int32) * (6 : Int32)) = (24 : Int32) from by decide]
  refine o_lushr X hx 27 (hb hby d_prog_27_method_3_26) rfl ?_
  refine o_l2i X hx 28 (hb hby d_prog_27_method_3_27) rfl ?_
  refine o_bipush X hx 30 (15 : Int32) (hb hby d_prog_27_method_3_28) rfl rfl ?_
  refine o_iand X hx 31 (hb hby d_prog_27_method_3_30) rfl ?_
  show Wout p e below _ T (mkF m 31 #[.val (.ref a1), .val (.int (0 : Int32)), .val (.long xx), .second, .val (.int (9 : Int32))] [(.int (own_d xx (24 : Int32))), (.ref hxa), (.int (9 : Int32)), (.ref a1)])
  refine o_baload X hx hZ eT (VH.ext O.2) (own_idx (own_d16 xx _).1 (own_d16 xx _).2) (v := (.int (own_hex (own_d xx (24 : Int32))))) (own_hsat (own_d16 xx _).1 (own_d16 xx _).2) 32 (hb hby d_prog_27_method_3_31) rfl ?_
  refine o_bastore X hx hZ eT Va ⟨by decide, by decide⟩ 9 rfl (Nat.le_of_ble_eq_true rfl) (vs' := [(.int (nar .byte (own_hex (own_d xx (60 : Int32))))), (.int (nar .byte (own_hex (own_d xx (56 : Int32))))), (.int (nar .byte (own_hex (own_d xx (52 : Int32))))), (.int (nar .byte (own_hex (own_d xx (48 : Int32))))), (.int (nar .byte (own_hex (own_d xx (44 : Int32))))), (.int (nar .byte (own_hex (own_d xx (40 : Int32))))), (.int (nar .byte (own_hex (own_d xx (36 : Int32))))), (.int (nar .byte (own_hex (own_d xx (32 : Int32))))), (.int (nar .byte (own_hex (own_d xx (28 : Int32))))), (.int (nar .byte (own_hex (own_d xx (24 : Int32))))), (.int f), (.int f), (.int f), (.int f), (.int f), (.int f), (.int f), (.int f), (.int f), (.int f)]) rfl N g_a1 33 (hb hby d_prog_27_method_3_32) rfl (fun T h10 locs X eT W V' N => ?_)
  replace Z0 := Nat.le_trans Z0 (Keep.of_wr W).1
  replace K := K.wr W (Or.inl (List.mem_of_getElem? (i := 0) rfl))
  replace O := O.wr W g_a1
  replace Va := V'
  refine o_iinc X hx 36 (Ls' := #[.val (.ref a1), .val (.int (0 : Int32)), .val (.long xx), .second, .val (.int ((9 : Int32) + (1 : Int32)))]) (1 : Int32) (hb hby d_prog_27_method_3_33) rfl rfl rfl rfl ?_
  rw [show ((9 : Int32) + (1 : Int32)) = (10 : Int32) from by decide]
  refine o_goto X hx 3 (hb hby d_prog_27_method_3_36) rfl ?_
  refine o_iload X hx 5 (hb hby d_prog_27_method_3_3) rfl rfl ?_
  refine o_bipush X hx 7 (16 : Int32) (hb hby d_prog_27_method_3_5) rfl rfl ?_
  refine o_icmpF X hx 10 (hb hby d_prog_27_method_3_7) rfl (by decide : (10 : Int32) < (16 : Int32)) ?_
  refine o_aloadN X hx 11 (hb hby d_prog_27_method_3_10) rfl rfl rfl ?_
  refine o_iloadN X hx 12 (hb hby d_prog_27_method_3_11) rfl rfl ?_
  refine o_iload X hx 14 (hb hby d_prog_27_method_3_12) rfl rfl ?_
  refine o_iadd X hx 15 (hb hby d_prog_27_method_3_14) rfl ?_
  rw [show ((0 : Int32) + (10 : Int32)) = (10 : Int32) from by decide]
  refine o_getS X hx hZ hown (host := "") (Or.inl (hw _ (List.mem_of_getElem? (i := 5) rfl))) Via.refl eT (SH.ext O.2) 18 (hb hby d_prog_27_method_3_15) rfl (fun T X eT => ?_)
  refine o_lloadN X hx 19 (hb hby d_prog_27_method_3_18) rfl rfl ?_
  refine o_iconst X hx 20 (4 : Int32) (hb hby d_prog_27_method_3_19) rfl rfl ?_
  refine o_bipush X hx 22 (15 : Int32) (hb hby d_prog_27_method_3_20) rfl rfl ?_
  refine o_iload X hx 24 (hb hby d_prog_27_method_3_22) rfl rfl ?_
  refine o_isub X hx 25 (hb hby d_prog_27_method_3_24) rfl ?_
  rw [show ((15 : Int32) - (10 : Int32)) = (5 : Int32) from by decide]
  refine o_imul X hx 26 (hb hby d_prog_27_method_3_25) rfl ?_
  rw [show ((4 : Int32) * (5 : Int32)) = (20 : Int32) from by decide]
  refine o_lushr X hx 27 (hb hby d_prog_27_method_3_26) rfl ?_
  refine o_l2i X hx 28 (hb hby d_prog_27_method_3_27) rfl ?_
  refine o_bipush X hx 30 (15 : Int32) (hb hby d_prog_27_method_3_28) rfl rfl ?_
  refine o_iand X hx 31 (hb hby d_prog_27_method_3_30) rfl ?_
  show Wout p e below _ T (mkF m 31 #[.val (.ref a1), .val (.int (0 : Int32)), .val (.long xx), .second, .val (.int (10 : Int32))] [(.int (own_d xx (20 : Int32))), (.ref hxa), (.int (10 : Int32)), (.ref a1)])
  refine o_baload X hx hZ eT (VH.ext O.2) (own_idx (own_d16 xx _).1 (own_d16 xx _).2) (v := (.int (own_hex (own_d xx (20 : Int32))))) (own_hsat (own_d16 xx _).1 (own_d16 xx _).2) 32 (hb hby d_prog_27_method_3_31) rfl ?_
  refine o_bastore X hx hZ eT Va ⟨by decide, by decide⟩ 10 rfl (Nat.le_of_ble_eq_true rfl) (vs' := [(.int (nar .byte (own_hex (own_d xx (60 : Int32))))), (.int (nar .byte (own_hex (own_d xx (56 : Int32))))), (.int (nar .byte (own_hex (own_d xx (52 : Int32))))), (.int (nar .byte (own_hex (own_d xx (48 : Int32))))), (.int (nar .byte (own_hex (own_d xx (44 : Int32))))), (.int (nar .byte (own_hex (own_d xx (40 : Int32))))), (.int (nar .byte (own_hex (own_d xx (36 : Int32))))), (.int (nar .byte (own_hex (own_d xx (32 : Int32))))), (.int (nar .byte (own_hex (own_d xx (28 : Int32))))), (.int (nar .byte (own_hex (own_d xx (24 : Int32))))), (.int (nar .byte (own_hex (own_d xx (20 : Int32))))), (.int f), (.int f), (.int f), (.int f), (.int f), (.int f), (.int f), (.int f), (.int f)]) rfl N g_a1 33 (hb hby d_prog_27_method_3_32) rfl (fun T h11 locs X eT W V' N => ?_)
  replace Z0 := Nat.le_trans Z0 (Keep.of_wr W).1
  replace K := K.wr W (Or.inl (List.mem_of_getElem? (i := 0) rfl))
  replace O := O.wr W g_a1
  replace Va := V'
  refine o_iinc X hx 36 (Ls' := #[.val (.ref a1), .val (.int (0 : Int32)), .val (.long xx), .second, .val (.int ((10 : Int32) + (1 : Int32)))]) (1 : Int32) (hb hby d_prog_27_method_3_33) rfl rfl rfl rfl ?_
  rw [show ((10 : Int32) + (1 : Int32)) = (11 : Int32) from by decide]
  refine o_goto X hx 3 (hb hby d_prog_27_method_3_36) rfl ?_
  refine o_iload X hx 5 (hb hby d_prog_27_method_3_3) rfl rfl ?_
  refine o_bipush X hx 7 (16 : Int32) (hb hby d_prog_27_method_3_5) rfl rfl ?_
  refine o_icmpF X hx 10 (hb hby d_prog_27_method_3_7) rfl (by decide : (11 : Int32) < (16 : Int32)) ?_
  refine o_aloadN X hx 11 (hb hby d_prog_27_method_3_10) rfl rfl rfl ?_
  refine o_iloadN X hx 12 (hb hby d_prog_27_method_3_11) rfl rfl ?_
  refine o_iload X hx 14 (hb hby d_prog_27_method_3_12) rfl rfl ?_
  refine o_iadd X hx 15 (hb hby d_prog_27_method_3_14) rfl ?_
  rw [show ((0 : Int32) + (11 : Int32)) = (11 : Int32) from by decide]
  refine o_getS X hx hZ hown (host := "") (Or.inl (hw _ (List.mem_of_getElem? (i := 5) rfl))) Via.refl eT (SH.ext O.2) 18 (hb hby d_prog_27_method_3_15) rfl (fun T X eT => ?_)
  refine o_lloadN X hx 19 (hb hby d_prog_27_method_3_18) rfl rfl ?_
  refine o_iconst X hx 20 (4 : Int32) (hb hby d_prog_27_method_3_19) rfl rfl ?_
  refine o_bipush X hx 22 (15 : Int32) (hb hby d_prog_27_method_3_20) rfl rfl ?_
  refine o_iload X hx 24 (hb hby d_prog_27_method_3_22) rfl rfl ?_
  refine o_isub X hx 25 (hb hby d_prog_27_method_3_24) rfl ?_
  rw [show ((15 : Int32) - (11 : Int32)) = (4 : Int32) from by decide]
  refine o_imul X hx 26 (hb hby d_prog_27_method_3_25) rfl ?_
  rw [show ((4 : Int32) * (4 : Int32)) = (16 : Int32) from by decide]
  refine o_lushr X hx 27 (hb hby d_prog_27_method_3_26) rfl ?_
  refine o_l2i X hx 28 (hb hby d_prog_27_method_3_27) rfl ?_
  refine o_bipush X hx 30 (15 : Int32) (hb hby d_prog_27_method_3_28) rfl rfl ?_
  refine o_iand X hx 31 (hb hby d_prog_27_method_3_30) rfl ?_
  show Wout p e below _ T (mkF m 31 #[.val (.ref a1), .val (.int (0 : Int32)), .val (.long xx), .second, .val (.int (11 : Int32))] [(.int (own_d xx (16 : Int32))), (.ref hxa), (.int (11 : Int32)), (.ref a1)])
  refine o_baload X hx hZ eT (VH.ext O.2) (own_idx (own_d16 xx _).1 (own_d16 xx _).2) (v := (.int (own_hex (own_d xx (16 : Int32))))) (own_hsat (own_d16 xx _).1 (own_d16 xx _).2) 32 (hb hby d_prog_27_method_3_31) rfl ?_
  refine o_bastore X hx hZ eT Va ⟨by decide, by decide⟩ 11 rfl (Nat.le_of_ble_eq_true rfl) (vs' := [(.int (nar .byte (own_hex (own_d xx (60 : Int32))))), (.int (nar .byte (own_hex (own_d xx (56 : Int32))))), (.int (nar .byte (own_hex (own_d xx (52 : Int32))))), (.int (nar .byte (own_hex (own_d xx (48 : Int32))))), (.int (nar .byte (own_hex (own_d xx (44 : Int32))))), (.int (nar .byte (own_hex (own_d xx (40 : Int32))))), (.int (nar .byte (own_hex (own_d xx (36 : Int32))))), (.int (nar .byte (own_hex (own_d xx (32 : Int32))))), (.int (nar .byte (own_hex (own_d xx (28 : Int32))))), (.int (nar .byte (own_hex (own_d xx (24 : Int32))))), (.int (nar .byte (own_hex (own_d xx (20 : Int32))))), (.int (nar .byte (own_hex (own_d xx (16 : Int32))))), (.int f), (.int f), (.int f), (.int f), (.int f), (.int f), (.int f), (.int f)]) rfl N g_a1 33 (hb hby d_prog_27_method_3_32) rfl (fun T h12 locs X eT W V' N => ?_)
  replace Z0 := Nat.le_trans Z0 (Keep.of_wr W).1
  replace K := K.wr W (Or.inl (List.mem_of_getElem? (i := 0) rfl))
  replace O := O.wr W g_a1
  replace Va := V'
  refine o_iinc X hx 36 (Ls' := #[.val (.ref a1), .val (.int (0 : Int32)), .val (.long xx), .second, .val (.int ((11 : Int32) + (1 : Int32)))]) (1 : Int32) (hb hby d_prog_27_method_3_33) rfl rfl rfl rfl ?_
  rw [show ((11 : Int32) + (1 : Int32)) = (12 : Int32) from by decide]
  refine o_goto X hx 3 (hb hby d_prog_27_method_3_36) rfl ?_
  refine o_iload X hx 5 (hb hby d_prog_27_method_3_3) rfl rfl ?_
  refine o_bipush X hx 7 (16 : Int32) (hb hby d_prog_27_method_3_5) rfl rfl ?_
  refine o_icmpF X hx 10 (hb hby d_prog_27_method_3_7) rfl (by decide : (12 : Int32) < (16 : Int32)) ?_
  refine o_aloadN X hx 11 (hb hby d_prog_27_method_3_10) rfl rfl rfl ?_
  refine o_iloadN X hx 12 (hb hby d_prog_27_method_3_11) rfl rfl ?_
  refine o_iload X hx 14 (hb hby d_prog_27_method_3_12) rfl rfl ?_
  refine o_iadd X hx 15 (hb hby d_prog_27_method_3_14) rfl ?_
  rw [show ((0 : Int32) + (12 : Int32)) = (12 : Int32) from by decide]
  refine o_getS X hx hZ hown (host := "") (Or.inl (hw _ (List.mem_of_getElem? (i := 5) rfl))) Via.refl eT (SH.ext O.2) 18 (hb hby d_prog_27_method_3_15) rfl (fun T X eT => ?_)
  refine o_lloadN X hx 19 (hb hby d_prog_27_method_3_18) rfl rfl ?_
  refine o_iconst X hx 20 (4 : Int32) (hb hby d_prog_27_method_3_19) rfl rfl ?_
  refine o_bipush X hx 22 (15 : Int32) (hb hby d_prog_27_method_3_20) rfl rfl ?_
  refine o_iload X hx 24 (hb hby d_prog_27_method_3_22) rfl rfl ?_
  refine o_isub X hx 25 (hb hby d_prog_27_method_3_24) rfl ?_
  rw [show ((15 : Int32) - (12 : Int32)) = (3 : Int32) from by decide]
  refine o_imul X hx 26 (hb hby d_prog_27_method_3_25) rfl ?_
  rw [show ((4 : Int32) * (3 : Int32)) = (12 : Int32) from by decide]
  refine o_lushr X hx 27 (hb hby d_prog_27_method_3_26) rfl ?_
  refine o_l2i X hx 28 (hb hby d_prog_27_method_3_27) rfl ?_
  refine o_bipush X hx 30 (15 : Int32) (hb hby d_prog_27_method_3_28) rfl rfl ?_
  refine o_iand X hx 31 (hb hby d_prog_27_method_3_30) rfl ?_
  show Wout p e below _ T (mkF m 31 #[.val (.ref a1), .val (.int (0 : Int32)), .val (.long xx), .second, .val (.int (12 : Int32))] [(.int (own_d xx (12 : Int32))), (.ref hxa), (.int (12 : Int32)), (.ref a1)])
  refine o_baload X hx hZ eT (VH.ext O.2) (own_idx (own_d16 xx _).1 (own_d16 xx _).2) (v := (.int (own_hex (own_d xx (12 : Int32))))) (own_hsat (own_d16 xx _).1 (own_d16 xx _).2) 32 (hb hby d_prog_27_method_3_31) rfl ?_
  refine o_bastore X hx hZ eT Va ⟨by decide, by decide⟩ 12 rfl (Nat.le_of_ble_eq_true rfl) (vs' := [(.int (nar .byte (own_hex (own_d xx (60 : Int32))))), (.int (nar .byte (own_hex (own_d xx (56 : Int32))))), (.int (nar .byte (own_hex (own_d xx (52 : Int32))))), (.int (nar .byte (own_hex (own_d xx (48 : Int32))))), (.int (nar .byte (own_hex (own_d xx (44 : Int32))))), (.int (nar .byte (own_hex (own_d xx (40 : Int32))))), (.int (nar .byte (own_hex (own_d xx (36 : Int32))))), (.int (nar .byte (own_hex (own_d xx (32 : Int32))))), (.int (nar .byte (own_hex (own_d xx (28 : Int32))))), (.int (nar .byte (own_hex (own_d xx (24 : Int32))))), (.int (nar .byte (own_hex (own_d xx (20 : Int32))))), (.int (nar .byte (own_hex (own_d xx (16 : Int32))))), (.int (nar .byte (own_hex (own_d xx (12 : Int32))))), (.int f), (.int f), (.int f), (.int f), (.int f), (.int f), (.int f)]) rfl N g_a1 33 (hb hby d_prog_27_method_3_32) rfl (fun T h13 locs X eT W V' N => ?_)
  replace Z0 := Nat.le_trans Z0 (Keep.of_wr W).1
  replace K := K.wr W (Or.inl (List.mem_of_getElem? (i := 0) rfl))
  replace O := O.wr W g_a1
  replace Va := V'
  refine o_iinc X hx 36 (Ls' := #[.val (.ref a1), .val (.int (0 : Int32)), .val (.long xx), .second, .val (.int ((12 : Int32) + (1 : Int32)))]) (1 : Int32) (hb hby d_prog_27_method_3_33) rfl rfl rfl rfl ?_
  rw [show ((12 : Int32) + (1 : Int32)) = (13 : Int32) from by decide]
  refine o_goto X hx 3 (hb hby d_prog_27_method_3_36) rfl ?_
  refine o_iload X hx 5 (hb hby d_prog_27_method_3_3) rfl rfl ?_
  refine o_bipush X hx 7 (16 : Int32) (hb hby d_prog_27_method_3_5) rfl rfl ?_
  refine o_icmpF X hx 10 (hb hby d_prog_27_method_3_7) rfl (by decide : (13 : Int32) < (16 : Int32)) ?_
  refine o_aloadN X hx 11 (hb hby d_prog_27_method_3_10) rfl rfl rfl ?_
  refine o_iloadN X hx 12 (hb hby d_prog_27_method_3_11) rfl rfl ?_
  refine o_iload X hx 14 (hb hby d_prog_27_method_3_12) rfl rfl ?_
  refine o_iadd X hx 15 (hb hby d_prog_27_method_3_14) rfl ?_
  rw [show ((0 : Int32) + (13 : Int32)) = (13 : Int32) from by decide]
  refine o_getS X hx hZ hown (host := "") (Or.inl (hw _ (List.mem_of_getElem? (i := 5) rfl))) Via.refl eT (SH.ext O.2) 18 (hb hby d_prog_27_method_3_15) rfl (fun T X eT => ?_)
  refine o_lloadN X hx 19 (hb hby d_prog_27_method_3_18) rfl rfl ?_
  refine o_iconst X hx 20 (4 : Int32) (hb hby d_prog_27_method_3_19) rfl rfl ?_
  refine o_bipush X hx 22 (15 : Int32) (hb hby d_prog_27_method_3_20) rfl rfl ?_
  refine o_iload X hx 24 (hb hby d_prog_27_method_3_22) rfl rfl ?_
  refine o_isub X hx 25 (hb hby d_prog_27_method_3_24) rfl ?_
  rw [show ((15 : Int32) - (13 : Int32)) = (2 : Int32) from by decide]
  refine o_imul X hx 26 (hb hby d_prog_27_method_3_25) rfl ?_
  rw [show ((4 : Int32) * (2 : Int32)) = (8 : Int32) from by decide]
  refine o_lushr X hx 27 (hb hby d_prog_27_method_3_26) rfl ?_
  refine o_l2i X hx 28 (hb hby d_prog_27_method_3_27) rfl ?_
  refine o_bipush X hx 30 (15 : Int32) (hb hby d_prog_27_method_3_28) rfl rfl ?_
  refine o_iand X hx 31 (hb hby d_prog_27_method_3_30) rfl ?_
  show Wout p e below _ T (mkF m 31 #[.val (.ref a1), .val (.int (0 : Int32)), .val (.long xx), .second, .val (.int (13 : Int32))] [(.int (own_d xx (8 : Int32))), (.ref hxa), (.int (13 : Int32)), (.ref a1)])
  refine o_baload X hx hZ eT (VH.ext O.2) (own_idx (own_d16 xx _).1 (own_d16 xx _).2) (v := (.int (own_hex (own_d xx (8 : Int32))))) (own_hsat (own_d16 xx _).1 (own_d16 xx _).2) 32 (hb hby d_prog_27_method_3_31) rfl ?_
  refine o_bastore X hx hZ eT Va ⟨by decide, by decide⟩ 13 rfl (Nat.le_of_ble_eq_true rfl) (vs' := [(.int (nar .byte (own_hex (own_d xx (60 : Int32))))), (.int (nar .byte (own_hex (own_d xx (56 : Int32))))), (.int (nar .byte (own_hex (own_d xx (52 : Int32))))), (.int (nar .byte (own_hex (own_d xx (48 : Int32))))), (.int (nar .byte (own_hex (own_d xx (44 : Int32))))), (.int (nar .byte (own_hex (own_d xx (40 : Int32))))), (.int (nar .byte (own_hex (own_d xx (36 : Int32))))), (.int (nar .byte (own_hex (own_d xx (32 : Int32))))), (.int (nar .byte (own_hex (own_d xx (28 : Int32))))), (.int (nar .byte (own_hex (own_d xx (24 : Int32))))), (.int (nar .byte (own_hex (own_d xx (20 : Int32))))), (.int (nar .byte (own_hex (own_d xx (16 : Int32))))), (.int (nar .byte (own_hex (own_d xx (12 : Int32))))), (.int (nar .byte (own_hex (own_d xx (8 : Int32))))), (.int f), (.int f), (.int f), (.int f), (.int f), (.int f)]) rfl N g_a1 33 (hb hby d_prog_27_method_3_32) rfl (fun T h14 locs X eT W V' N => ?_)
  replace Z0 := Nat.le_trans Z0 (Keep.of_wr W).1
  replace K := K.wr W (Or.inl (List.mem_of_getElem? (i := 0) rfl))
  replace O := O.wr W g_a1
  replace Va := V'
  refine o_iinc X hx 36 (Ls' := #[.val (.ref a1), .val (.int (0 : Int32)), .val (.long xx), .second, .val (.int ((13 : Int32) + (1 : Int32)))]) (1 : Int32) (hb hby d_prog_27_method_3_33) rfl rfl rfl rfl ?_
  rw [show ((13 : Int32) + (1 : Int32)) = (14 : Int32) from by decide]
  refine o_goto X hx 3 (hb hby d_prog_27_method_3_36) rfl ?_
  refine o_iload X hx 5 (hb hby d_prog_27_method_3_3) rfl rfl ?_
  refine o_bipush X hx 7 (16 : Int32) (hb hby d_prog_27_method_3_5) rfl rfl ?_
  refine o_icmpF X hx 10 (hb hby d_prog_27_method_3_7) rfl (by decide : (14 : Int32) < (16 : Int32)) ?_
  refine o_aloadN X hx 11 (hb hby d_prog_27_method_3_10) rfl rfl rfl ?_
  refine o_iloadN X hx 12 (hb hby d_prog_27_method_3_11) rfl rfl ?_
  refine o_iload X hx 14 (hb hby d_prog_27_method_3_12) rfl rfl ?_
  refine o_iadd X hx 15 (hb hby d_prog_27_method_3_14) rfl ?_
  rw [show ((0 : Int32) + (14 : Int32)) = (14 : Int32) from by decide]
  refine o_getS X hx hZ hown (host := "") (Or.inl (hw _ (List.mem_of_getElem? (i := 5) rfl))) Via.refl eT (SH.ext O.2) 18 (hb hby d_prog_27_method_3_15) rfl (fun T X eT => ?_)
  refine o_lloadN X hx 19 (hb hby d_prog_27_method_3_18) rfl rfl ?_
  refine o_iconst X hx 20 (4 : Int32) (hb hby d_prog_27_method_3_19) rfl rfl ?_
  refine o_bipush X hx 22 (15 : Int32) (hb hby d_prog_27_method_3_20) rfl rfl ?_
  refine o_iload X hx 24 (hb hby d_prog_27_method_3_22) rfl rfl ?_
  refine o_isub X hx 25 (hb hby d_prog_27_method_3_24) rfl ?_
  rw [show ((15 : Int32) - (14 : Int32)) = (1 : Int32) from by decide]
  refine o_imul X hx 26 (hb hby d_prog_27_method_3_25) rfl ?_
  rw [show ((4 : Int32) * (1 : Int32)) = (4 : Int32) from by decide]
  refine o_lushr X hx 27 (hb hby d_prog_27_method_3_26) rfl ?_
  refine o_l2i X hx 28 (hb hby d_prog_27_method_3_27) rfl ?_
  refine o_bipush X hx 30 (15 : Int32) (hb hby d_prog_27_method_3_28) rfl rfl ?_
  refine o_iand X hx 31 (hb hby d_prog_27_method_3_30) rfl ?_
  show Wout p e below _ T (mkF m 31 #[.val (.ref a1), .val (.int (0 : Int32)), .val (.long xx), .second, .val (.int (14 : Int32))] [(.int (own_d xx (4 : Int32))), (.ref hxa), (.int (14 : Int32)), (.ref a1)])
  refine o_baload X hx hZ eT (VH.ext O.2) (own_idx (own_d16 xx _).1 (own_d16 xx _).2) (v := (.int (own_hex (own_d xx (4 : Int32))))) (own_hsat (own_d16 xx _).1 (own_d16 xx _).2) 32 (hb hby d_prog_27_method_3_31) rfl ?_
  refine o_bastore X hx hZ eT Va ⟨by decide, by decide⟩ 14 rfl (Nat.le_of_ble_eq_true rfl) (vs' := [(.int (nar .byte (own_hex (own_d xx (60 : Int32))))), (.int (nar .byte (own_hex (own_d xx (56 : Int32))))), (.int (nar .byte (own_hex (own_d xx (52 : Int32))))), (.int (nar .byte (own_hex (own_d xx (48 : Int32))))), (.int (nar .byte (own_hex (own_d xx (44 : Int32))))), (.int (nar .byte (own_hex (own_d xx (40 : Int32))))), (.int (nar .byte (own_hex (own_d xx (36 : Int32))))), (.int (nar .byte (own_hex (own_d xx (32 : Int32))))), (.int (nar .byte (own_hex (own_d xx (28 : Int32))))), (.int (nar .byte (own_hex (own_d xx (24 : Int32))))), (.int (nar .byte (own_hex (own_d xx (20 : Int32))))), (.int (nar .byte (own_hex (own_d xx (16 : Int32))))), (.int (nar .byte (own_hex (own_d xx (12 : Int32))))), (.int (nar .byte (own_hex (own_d xx (8 : Int32))))), (.int (nar .byte (own_hex (own_d xx (4 : Int32))))), (.int f), (.int f), (.int f), (.int f), (.int f)]) rfl N g_a1 33 (hb hby d_prog_27_method_3_32) rfl (fun T h15 locs X eT W V' N => ?_)
  replace Z0 := Nat.le_trans Z0 (Keep.of_wr W).1
  replace K := K.wr W (Or.inl (List.mem_of_getElem? (i := 0) rfl))
  replace O := O.wr W g_a1
  replace Va := V'
  refine o_iinc X hx 36 (Ls' := #[.val (.ref a1), .val (.int (0 : Int32)), .val (.long xx), .second, .val (.int ((14 : Int32) + (1 : Int32)))]) (1 : Int32) (hb hby d_prog_27_method_3_33) rfl rfl rfl rfl ?_
  rw [show ((14 : Int32) + (1 : Int32)) = (15 : Int32) from by decide]
  refine o_goto X hx 3 (hb hby d_prog_27_method_3_36) rfl ?_
  refine o_iload X hx 5 (hb hby d_prog_27_method_3_3) rfl rfl ?_
  refine o_bipush X hx 7 (16 : Int32) (hb hby d_prog_27_method_3_5) rfl rfl ?_
  refine o_icmpF X hx 10 (hb hby d_prog_27_method_3_7) rfl (by decide : (15 : Int32) < (16 : Int32)) ?_
  refine o_aloadN X hx 11 (hb hby d_prog_27_method_3_10) rfl rfl rfl ?_
  refine o_iloadN X hx 12 (hb hby d_prog_27_method_3_11) rfl rfl ?_
  refine o_iload X hx 14 (hb hby d_prog_27_method_3_12) rfl rfl ?_
  refine o_iadd X hx 15 (hb hby d_prog_27_method_3_14) rfl ?_
  rw [show ((0 : Int32) + (15 : Int32)) = (15 : Int32) from by decide]
  refine o_getS X hx hZ hown (host := "") (Or.inl (hw _ (List.mem_of_getElem? (i := 5) rfl))) Via.refl eT (SH.ext O.2) 18 (hb hby d_prog_27_method_3_15) rfl (fun T X eT => ?_)
  refine o_lloadN X hx 19 (hb hby d_prog_27_method_3_18) rfl rfl ?_
  refine o_iconst X hx 20 (4 : Int32) (hb hby d_prog_27_method_3_19) rfl rfl ?_
  refine o_bipush X hx 22 (15 : Int32) (hb hby d_prog_27_method_3_20) rfl rfl ?_
  refine o_iload X hx 24 (hb hby d_prog_27_method_3_22) rfl rfl ?_
  refine o_isub X hx 25 (hb hby d_prog_27_method_3_24) rfl ?_
  rw [show ((15 : Int32) - (15 : Int32)) = (0 : Int32) from by decide]
  refine o_imul X hx 26 (hb hby d_prog_27_method_3_25) rfl ?_
  rw [show ((4 : Int32) * (0 : Int32)) = (0 : Int32) from by decide]
  refine o_lushr X hx 27 (hb hby d_prog_27_method_3_26) rfl ?_
  refine o_l2i X hx 28 (hb hby d_prog_27_method_3_27) rfl ?_
  refine o_bipush X hx 30 (15 : Int32) (hb hby d_prog_27_method_3_28) rfl rfl ?_
  refine o_iand X hx 31 (hb hby d_prog_27_method_3_30) rfl ?_
  show Wout p e below _ T (mkF m 31 #[.val (.ref a1), .val (.int (0 : Int32)), .val (.long xx), .second, .val (.int (15 : Int32))] [(.int (own_d xx (0 : Int32))), (.ref hxa), (.int (15 : Int32)), (.ref a1)])
  refine o_baload X hx hZ eT (VH.ext O.2) (own_idx (own_d16 xx _).1 (own_d16 xx _).2) (v := (.int (own_hex (own_d xx (0 : Int32))))) (own_hsat (own_d16 xx _).1 (own_d16 xx _).2) 32 (hb hby d_prog_27_method_3_31) rfl ?_
  refine o_bastore X hx hZ eT Va ⟨by decide, by decide⟩ 15 rfl (Nat.le_of_ble_eq_true rfl) (vs' := [(.int (nar .byte (own_hex (own_d xx (60 : Int32))))), (.int (nar .byte (own_hex (own_d xx (56 : Int32))))), (.int (nar .byte (own_hex (own_d xx (52 : Int32))))), (.int (nar .byte (own_hex (own_d xx (48 : Int32))))), (.int (nar .byte (own_hex (own_d xx (44 : Int32))))), (.int (nar .byte (own_hex (own_d xx (40 : Int32))))), (.int (nar .byte (own_hex (own_d xx (36 : Int32))))), (.int (nar .byte (own_hex (own_d xx (32 : Int32))))), (.int (nar .byte (own_hex (own_d xx (28 : Int32))))), (.int (nar .byte (own_hex (own_d xx (24 : Int32))))), (.int (nar .byte (own_hex (own_d xx (20 : Int32))))), (.int (nar .byte (own_hex (own_d xx (16 : Int32))))), (.int (nar .byte (own_hex (own_d xx (12 : Int32))))), (.int (nar .byte (own_hex (own_d xx (8 : Int32))))), (.int (nar .byte (own_hex (own_d xx (4 : Int32))))), (.int (nar .byte (own_hex (own_d xx (0 : Int32))))), (.int f), (.int f), (.int f), (.int f)]) rfl N g_a1 33 (hb hby d_prog_27_method_3_32) rfl (fun T h16 locs X eT W V' N => ?_)
  replace Z0 := Nat.le_trans Z0 (Keep.of_wr W).1
  replace K := K.wr W (Or.inl (List.mem_of_getElem? (i := 0) rfl))
  replace O := O.wr W g_a1
  replace Va := V'
  refine o_iinc X hx 36 (Ls' := #[.val (.ref a1), .val (.int (0 : Int32)), .val (.long xx), .second, .val (.int ((15 : Int32) + (1 : Int32)))]) (1 : Int32) (hb hby d_prog_27_method_3_33) rfl rfl rfl rfl ?_
  rw [show ((15 : Int32) + (1 : Int32)) = (16 : Int32) from by decide]
  refine o_goto X hx 3 (hb hby d_prog_27_method_3_36) rfl ?_
  refine o_iload X hx 5 (hb hby d_prog_27_method_3_3) rfl rfl ?_
  refine o_bipush X hx 7 (16 : Int32) (hb hby d_prog_27_method_3_5) rfl rfl ?_
  refine o_icmpT X hx 39 (hb hby d_prog_27_method_3_7) rfl (by decide : ¬ (16 : Int32) < (16 : Int32)) ?_
  refine o_aloadN X hx 40 (hb hby d_prog_27_method_3_39) rfl rfl rfl ?_
  refine o_iloadN X hx 41 (hb hby d_prog_27_method_3_40) rfl rfl ?_
  refine o_bipush X hx 43 (16 : Int32) (hb hby d_prog_27_method_3_41) rfl rfl ?_
  refine o_iadd X hx 44 (hb hby d_prog_27_method_3_43) rfl ?_
  rw [show ((0 : Int32) + (16 : Int32)) = (16 : Int32) from by decide]
  refine o_bipush X hx 46 (45 : Int32) (hb hby d_prog_27_method_3_44) rfl rfl ?_
  refine o_bastore X hx hZ eT Va ⟨by decide, by decide⟩ 16 rfl (Nat.le_of_ble_eq_true rfl) (vs' := [(.int (nar .byte (own_hex (own_d xx (60 : Int32))))), (.int (nar .byte (own_hex (own_d xx (56 : Int32))))), (.int (nar .byte (own_hex (own_d xx (52 : Int32))))), (.int (nar .byte (own_hex (own_d xx (48 : Int32))))), (.int (nar .byte (own_hex (own_d xx (44 : Int32))))), (.int (nar .byte (own_hex (own_d xx (40 : Int32))))), (.int (nar .byte (own_hex (own_d xx (36 : Int32))))), (.int (nar .byte (own_hex (own_d xx (32 : Int32))))), (.int (nar .byte (own_hex (own_d xx (28 : Int32))))), (.int (nar .byte (own_hex (own_d xx (24 : Int32))))), (.int (nar .byte (own_hex (own_d xx (20 : Int32))))), (.int (nar .byte (own_hex (own_d xx (16 : Int32))))), (.int (nar .byte (own_hex (own_d xx (12 : Int32))))), (.int (nar .byte (own_hex (own_d xx (8 : Int32))))), (.int (nar .byte (own_hex (own_d xx (4 : Int32))))), (.int (nar .byte (own_hex (own_d xx (0 : Int32))))), (.int (nar .byte (45 : Int32))), (.int f), (.int f), (.int f)]) rfl N g_a1 47 (hb hby d_prog_27_method_3_46) rfl (fun T h17 locs X eT W V' N => ?_)
  replace Z0 := Nat.le_trans Z0 (Keep.of_wr W).1
  replace K := K.wr W (Or.inl (List.mem_of_getElem? (i := 0) rfl))
  replace O := O.wr W g_a1
  replace Va := V'
  exact o_retV X hx hlk hret (hb hby d_prog_27_method_3_47) (by decide) (by decide) (by rw [eT]; exact ⟨rfl, N, K, Va⟩)
def Q_wl1 (Z : State) (a1 hxa : Addr) (k1 kh : ClassId) (xx : Int64) (f : Int32) (h0 : Heap) (n0 : Nat) (v : Option Value) (h : Heap) (L : List Loc) : Prop := v = none ∧ Fr n0 L ∧ Keep h0 h [a1] ∧ Arv Z h a1 k1 .byte 20 [(.int f), (.int (nar .byte (own_hex (own_d xx (60 : Int32))))), (.int (nar .byte (own_hex (own_d xx (56 : Int32))))), (.int (nar .byte (own_hex (own_d xx (52 : Int32))))), (.int (nar .byte (own_hex (own_d xx (48 : Int32))))), (.int (nar .byte (own_hex (own_d xx (44 : Int32))))), (.int (nar .byte (own_hex (own_d xx (40 : Int32))))), (.int (nar .byte (own_hex (own_d xx (36 : Int32))))), (.int (nar .byte (own_hex (own_d xx (32 : Int32))))), (.int (nar .byte (own_hex (own_d xx (28 : Int32))))), (.int (nar .byte (own_hex (own_d xx (24 : Int32))))), (.int (nar .byte (own_hex (own_d xx (20 : Int32))))), (.int (nar .byte (own_hex (own_d xx (16 : Int32))))), (.int (nar .byte (own_hex (own_d xx (12 : Int32))))), (.int (nar .byte (own_hex (own_d xx (8 : Int32))))), (.int (nar .byte (own_hex (own_d xx (4 : Int32))))), (.int (nar .byte (own_hex (own_d xx (0 : Int32))))), (.int (nar .byte (45 : Int32))), (.int f), (.int f)] (.int 0)
set_option maxRecDepth 65536 in
set_option maxHeartbeats 40000000 in
theorem rm_wl1 (l : Launch) (Z : State) (a0 : Array Value) (hw : ∀ d ∈ tables_1, d.before a0 Z = true) (ws : List Jvm.Cond) (a1 hxa : Addr) (k1 kh : ClassId) (xx : Int64) (f : Int32) (h0 : Heap) (n0 : Nat) (Z0 : n0 ≤ h0.size) (O : Old Z n0 h0) (SH : Sta Z Z.heap "com/example/tidewater/tidewater/format/Pos" "HEX" "[B" (.ref hxa)) (VH : Arv Z Z.heap hxa kh .byte 16 own_hs (.int 0)) (Va : Arv Z h0 a1 k1 .byte 20 [(.int f), (.int f), (.int f), (.int f), (.int f), (.int f), (.int f), (.int f), (.int f), (.int f), (.int f), (.int f), (.int f), (.int f), (.int f), (.int f), (.int f), (.int f), (.int f), (.int f)] (.int 0)) (g_a1 : n0 ≤ a1) :
    Met l Z (⟨"com/example/tidewater/tidewater/format/Pos", "writeLsn", "([BIJ)V"⟩ : MethodName) prog_27_method_3_code 5 none ws ({ frames := 0, cells := 0, slots := 0, locals := 0 } : Room) #[(.ref a1), (.int (1 : Int32)), (.long xx)] h0 (Q_wl1 Z a1 hxa k1 kh xx f h0 n0) := by
  refine Met.start (plainFor_of_name pn_0) ?_
  intro p e s m below meth c T X hx hby hml hown hnm hret hlk hZ eT
  have N := Fr.nil n0
  have K := Keep.refl h0 [a1]
  refine Wout.cast (g' := (mkF m 0 #[.val (.ref a1), .val (.int (1 : Int32)), .val (.long xx), .second, .unset] [])) (by first | rfl | (simp [entryFrame, mkF, argsToLocals, Value.category]; done)) ?_
  refine o_iconst X hx 1 (0 : Int32) (hb hby d_prog_27_method_3_0) rfl rfl ?_
  refine o_istore X hx 3 (Ls' := #[.val (.ref a1), .val (.int (1 : Int32)), .val (.long xx), .second, .val (.int (0 : Int32))]) (hb hby d_prog_27_method_3_1) rfl rfl ?_
  refine o_iload X hx 5 (hb hby d_prog_27_method_3_3) rfl rfl ?_
  refine o_bipush X hx 7 (16 : Int32) (hb hby d_prog_27_method_3_5) rfl rfl ?_
  refine o_icmpF X hx 10 (hb hby d_prog_27_method_3_7) rfl (by decide : (0 : Int32) < (16 : Int32)) ?_
  refine o_aloadN X hx 11 (hb hby d_prog_27_method_3_10) rfl rfl rfl ?_
  refine o_iloadN X hx 12 (hb hby d_prog_27_method_3_11) rfl rfl ?_
  refine o_iload X hx 14 (hb hby d_prog_27_method_3_12) rfl rfl ?_
  refine o_iadd X hx 15 (hb hby d_prog_27_method_3_14) rfl ?_
  rw [show ((1 : Int32) + (0 : Int32)) = (1 : Int32) from by decide]
  refine o_getS X hx hZ hown (host := "") (Or.inl (hw _ (List.mem_of_getElem? (i := 5) rfl))) Via.refl eT (SH.ext O.2) 18 (hb hby d_prog_27_method_3_15) rfl (fun T X eT => ?_)
  refine o_lloadN X hx 19 (hb hby d_prog_27_method_3_18) rfl rfl ?_
  refine o_iconst X hx 20 (4 : Int32) (hb hby d_prog_27_method_3_19) rfl rfl ?_
  refine o_bipush X hx 22 (15 : Int32) (hb hby d_prog_27_method_3_20) rfl rfl ?_
  refine o_iload X hx 24 (hb hby d_prog_27_method_3_22) rfl rfl ?_
  refine o_isub X hx 25 (hb hby d_prog_27_method_3_24) rfl ?_
  rw [show ((15 : Int32) - (0 : Int32)) = (15 : Int32) from by decide]
  refine o_imul X hx 26 (hb hby d_prog_27_method_3_25) rfl ?_
  rw [show ((4 : Int32) * (15 : Int32)) = (60 : Int32) from by decide]
  refine o_lushr X hx 27 (hb hby d_prog_27_method_3_26) rfl ?_
  refine o_l2i X hx 28 (hb hby d_prog_27_method_3_27) rfl ?_
  refine o_bipush X hx 30 (15 : Int32) (hb hby d_prog_27_method_3_28) rfl rfl ?_
  refine o_iand X hx 31 (hb hby d_prog_27_method_3_30) rfl ?_
  show Wout p e below _ T (mkF m 31 #[.val (.ref a1), .val (.int (1 : Int32)), .val (.long xx), .second, .val (.int (0 : Int32))] [(.int (own_d xx (60 : Int32))), (.ref hxa), (.int (1 : Int32)), (.ref a1)])
  refine o_baload X hx hZ eT (VH.ext O.2) (own_idx (own_d16 xx _).1 (own_d16 xx _).2) (v := (.int (own_hex (own_d xx (60 : Int32))))) (own_hsat (own_d16 xx _).1 (own_d16 xx _).2) 32 (hb hby d_prog_27_method_3_31) rfl ?_
  refine o_bastore X hx hZ eT Va ⟨by decide, by decide⟩ 1 rfl (Nat.le_of_ble_eq_true rfl) (vs' := [(.int f), (.int (nar .byte (own_hex (own_d xx (60 : Int32))))), (.int f), (.int f), (.int f), (.int f), (.int f), (.int f), (.int f), (.int f), (.int f), (.int f), (.int f), (.int f), (.int f), (.int f), (.int f), (.int f), (.int f), (.int f)]) rfl N g_a1 33 (hb hby d_prog_27_method_3_32) rfl (fun T h1 locs X eT W V' N => ?_)
  replace Z0 := Nat.le_trans Z0 (Keep.of_wr W).1
  replace K := K.wr W (Or.inl (List.mem_of_getElem? (i := 0) rfl))
  replace O := O.wr W g_a1
  replace Va := V'
  refine o_iinc X hx 36 (Ls' := #[.val (.ref a1), .val (.int (1 : Int32)), .val (.long xx), .second, .val (.int ((0 : Int32) + (1 : Int32)))]) (1 : Int32) (hb hby d_prog_27_method_3_33) rfl rfl rfl rfl ?_
  rw [show ((0 : Int32) + (1 : Int32)) = (1 : Int32) from by decide]
  refine o_goto X hx 3 (hb hby d_prog_27_method_3_36) rfl ?_
  refine o_iload X hx 5 (hb hby d_prog_27_method_3_3) rfl rfl ?_
  refine o_bipush X hx 7 (16 : Int32) (hb hby d_prog_27_method_3_5) rfl rfl ?_
  refine o_icmpF X hx 10 (hb hby d_prog_27_method_3_7) rfl (by decide : (1 : Int32) < (16 : Int32)) ?_
  refine o_aloadN X hx 11 (hb hby d_prog_27_method_3_10) rfl rfl rfl ?_
  refine o_iloadN X hx 12 (hb hby d_prog_27_method_3_11) rfl rfl ?_
  refine o_iload X hx 14 (hb hby d_prog_27_method_3_12) rfl rfl ?_
  refine o_iadd X hx 15 (hb hby d_prog_27_method_3_14) rfl ?_
  rw [show ((1 : Int32) + (1 : Int32)) = (2 : Int32) from by decide]
  refine o_getS X hx hZ hown (host := "") (Or.inl (hw _ (List.mem_of_getElem? (i := 5) rfl))) Via.refl eT (SH.ext O.2) 18 (hb hby d_prog_27_method_3_15) rfl (fun T X eT => ?_)
  refine o_lloadN X hx 19 (hb hby d_prog_27_method_3_18) rfl rfl ?_
  refine o_iconst X hx 20 (4 : Int32) (hb hby d_prog_27_method_3_19) rfl rfl ?_
  refine o_bipush X hx 22 (15 : Int32) (hb hby d_prog_27_method_3_20) rfl rfl ?_
  refine o_iload X hx 24 (hb hby d_prog_27_method_3_22) rfl rfl ?_
  refine o_isub X hx 25 (hb hby d_prog_27_method_3_24) rfl ?_
  rw [show ((15 : Int32) - (1 : Int32)) = (14 : Int32) from by decide]
  refine o_imul X hx 26 (hb hby d_prog_27_method_3_25) rfl ?_
  rw [show ((4 : Int32) * (14 : Int32)) = (56 : Int32) from by decide]
  refine o_lushr X hx 27 (hb hby d_prog_27_method_3_26) rfl ?_
  refine o_l2i X hx 28 (hb hby d_prog_27_method_3_27) rfl ?_
  refine o_bipush X hx 30 (15 : Int32) (hb hby d_prog_27_method_3_28) rfl rfl ?_
  refine o_iand X hx 31 (hb hby d_prog_27_method_3_30) rfl ?_
  show Wout p e below _ T (mkF m 31 #[.val (.ref a1), .val (.int (1 : Int32)), .val (.long xx), .second, .val (.int (1 : Int32))] [(.int (own_d xx (56 : Int32))), (.ref hxa), (.int (2 : Int32)), (.ref a1)])
  refine o_baload X hx hZ eT (VH.ext O.2) (own_idx (own_d16 xx _).1 (own_d16 xx _).2) (v := (.int (own_hex (own_d xx (56 : Int32))))) (own_hsat (own_d16 xx _).1 (own_d16 xx _).2) 32 (hb hby d_prog_27_method_3_31) rfl ?_
  refine o_bastore X hx hZ eT Va ⟨by decide, by decide⟩ 2 rfl (Nat.le_of_ble_eq_true rfl) (vs' := [(.int f), (.int (nar .byte (own_hex (own_d xx (60 : Int32))))), (.int (nar .byte (own_hex (own_d xx (56 : Int32))))), (.int f), (.int f), (.int f), (.int f), (.int f), (.int f), (.int f), (.int f), (.int f), (.int f), (.int f), (.int f), (.int f), (.int f), (.int f), (.int f), (.int f)]) rfl N g_a1 33 (hb hby d_prog_27_method_3_32) rfl (fun T h2 locs X eT W V' N => ?_)
  replace Z0 := Nat.le_trans Z0 (Keep.of_wr W).1
  replace K := K.wr W (Or.inl (List.mem_of_getElem? (i := 0) rfl))
  replace O := O.wr W g_a1
  replace Va := V'
  refine o_iinc X hx 36 (Ls' := #[.val (.ref a1), .val (.int (1 : Int32)), .val (.long xx), .second, .val (.int ((1 : Int32) + (1 : Int32)))]) (1 : Int32) (hb hby d_prog_27_method_3_33) rfl rfl rfl rfl ?_
  rw [show ((1 : Int32) + (1 : Int32)) = (2 : Int32) from by decide]
  refine o_goto X hx 3 (hb hby d_prog_27_method_3_36) rfl ?_
  refine o_iload X hx 5 (hb hby d_prog_27_method_3_3) rfl rfl ?_
  refine o_bipush X hx 7 (16 : Int32) (hb hby d_prog_27_method_3_5) rfl rfl ?_
  refine o_icmpF X hx 10 (hb hby d_prog_27_method_3_7) rfl (by decide : (2 : Int32) < (16 : Int32)) ?_
  refine o_aloadN X hx 11 (hb hby d_prog_27_method_3_10) rfl rfl rfl ?_
  refine o_iloadN X hx 12 (hb hby d_prog_27_method_3_11) rfl rfl ?_
  refine o_iload X hx 14 (hb hby d_prog_27_method_3_12) rfl rfl ?_
  refine o_iadd X hx 15 (hb hby d_prog_27_method_3_14) rfl ?_
  rw [show ((1 : Int32) + (2 : Int32)) = (3 : Int32) from by decide]
  refine o_getS X hx hZ hown (host := "") (Or.inl (hw _ (List.mem_of_getElem? (i := 5) rfl))) Via.refl eT (SH.ext O.2) 18 (hb hby d_prog_27_method_3_15) rfl (fun T X eT => ?_)
  refine o_lloadN X hx 19 (hb hby d_prog_27_method_3_18) rfl rfl ?_
  refine o_iconst X hx 20 (4 : Int32) (hb hby d_prog_27_method_3_19) rfl rfl ?_
  refine o_bipush X hx 22 (15 : Int32) (hb hby d_prog_27_method_3_20) rfl rfl ?_
  refine o_iload X hx 24 (hb hby d_prog_27_method_3_22) rfl rfl ?_
  refine o_isub X hx 25 (hb hby d_prog_27_method_3_24) rfl ?_
  rw [show ((15 : Int32) - (2 : Int32)) = (13 : Int32) from by decide]
  refine o_imul X hx 26 (hb hby d_prog_27_method_3_25) rfl ?_
  rw [show ((4 : Int32) * (13 : Int32)) = (52 : Int32) from by decide]
  refine o_lushr X hx 27 (hb hby d_prog_27_method_3_26) rfl ?_
  refine o_l2i X hx 28 (hb hby d_prog_27_method_3_27) rfl ?_
  refine o_bipush X hx 30 (15 : Int32) (hb hby d_prog_27_method_3_28) rfl rfl ?_
  refine o_iand X hx 31 (hb hby d_prog_27_method_3_30) rfl ?_
  show Wout p e below _ T (mkF m 31 #[.val (.ref a1), .val (.int (1 : Int32)), .val (.long xx), .second, .val (.int (2 : Int32))] [(.int (own_d xx (52 : Int32))), (.ref hxa), (.int (3 : Int32)), (.ref a1)])
  refine o_baload X hx hZ eT (VH.ext O.2) (own_idx (own_d16 xx _).1 (own_d16 xx _).2) (v := (.int (own_hex (own_d xx (52 : Int32))))) (own_hsat (own_d16 xx _).1 (own_d16 xx _).2) 32 (hb hby d_prog_27_method_3_31) rfl ?_
  refine o_bastore X hx hZ eT Va ⟨by decide, by decide⟩ 3 rfl (Nat.le_of_ble_eq_true rfl) (vs' := [(.int f), (.int (nar .byte (own_hex (own_d xx (60 : Int32))))), (.int (nar .byte (own_hex (own_d xx (56 : Int32))))), (.int (nar .byte (own_hex (own_d xx (52 : Int32))))), (.int f), (.int f), (.int f), (.int f), (.int f), (.int f), (.int f), (.int f), (.int f), (.int f), (.int f), (.int f), (.int f), (.int f), (.int f), (.int f)]) rfl N g_a1 33 (hb hby d_prog_27_method_3_32) rfl (fun T h3 locs X eT W V' N => ?_)
  replace Z0 := Nat.le_trans Z0 (Keep.of_wr W).1
  replace K := K.wr W (Or.inl (List.mem_of_getElem? (i := 0) rfl))
  replace O := O.wr W g_a1
  replace Va := V'
  refine o_iinc X hx 36 (Ls' := #[.val (.ref a1), .val (.int (1 : Int32)), .val (.long xx), .second, .val (.int ((2 : Int32) + (1 : Int32)))]) (1 : Int32) (hb hby d_prog_27_method_3_33) rfl rfl rfl rfl ?_
  rw [show ((2 : Int32) + (1 : Int32)) = (3 : Int32) from by decide]
  refine o_goto X hx 3 (hb hby d_prog_27_method_3_36) rfl ?_
  refine o_iload X hx 5 (hb hby d_prog_27_method_3_3) rfl rfl ?_
  refine o_bipush X hx 7 (16 : Int32) (hb hby d_prog_27_method_3_5) rfl rfl ?_
  refine o_icmpF X hx 10 (hb hby d_prog_27_method_3_7) rfl (by decide : (3 : Int32) < (16 : Int32)) ?_
  refine o_aloadN X hx 11 (hb hby d_prog_27_method_3_10) rfl rfl rfl ?_
  refine o_iloadN X hx 12 (hb hby d_prog_27_method_3_11) rfl rfl ?_
  refine o_iload X hx 14 (hb hby d_prog_27_method_3_12) rfl rfl ?_
  refine o_iadd X hx 15 (hb hby d_prog_27_method_3_14) rfl ?_
  rw [show ((1 : Int32) + (3 : Int32)) = (4 : Int32) from by decide]
  refine o_getS X hx hZ hown (host := "") (Or.inl (hw _ (List.mem_of_getElem? (i := 5) rfl))) Via.refl eT (SH.ext O.2) 18 (hb hby d_prog_27_method_3_15) rfl (fun T X eT => ?_)
  refine o_lloadN X hx 19 (hb hby d_prog_27_method_3_18) rfl rfl ?_
  refine o_iconst X hx 20 (4 : Int32) (hb hby d_prog_27_method_3_19) rfl rfl ?_
  refine o_bipush X hx 22 (15 : Int32) (hb hby d_prog_27_method_3_20) rfl rfl ?_
  refine o_iload X hx 24 (hb hby d_prog_27_method_3_22) rfl rfl ?_
  refine o_isub X hx 25 (hb hby d_prog_27_method_3_24) rfl ?_
  rw [show ((15 : Int32) - (3 : Int32)) = (12 : Int32) from by decide]
  refine o_imul X hx 26 (hb hby d_prog_27_method_3_25) rfl ?_
  rw [show ((4 : Int32) * (12 : Int32)) = (48 : Int32) from by decide]
  refine o_lushr X hx 27 (hb hby d_prog_27_method_3_26) rfl ?_
  refine o_l2i X hx 28 (hb hby d_prog_27_method_3_27) rfl ?_
  refine o_bipush X hx 30 (15 : Int32) (hb hby d_prog_27_method_3_28) rfl rfl ?_
  refine o_iand X hx 31 (hb hby d_prog_27_method_3_30) rfl ?_
  show Wout p e below _ T (mkF m 31 #[.val (.ref a1), .val (.int (1 : Int32)), .val (.long xx), .second, .val (.int (3 : Int32))] [(.int (own_d xx (48 : Int32))), (.ref hxa), (.int (4 : Int32)), (.ref a1)])
  refine o_baload X hx hZ eT (VH.ext O.2) (own_idx (own_d16 xx _).1 (own_d16 xx _).2) (v := (.int (own_hex (own_d xx (48 : Int32))))) (own_hsat (own_d16 xx _).1 (own_d16 xx _).2) 32 (hb hby d_prog_27_method_3_31) rfl ?_
  refine o_bastore X hx hZ eT Va ⟨by decide, by decide⟩ 4 rfl (Nat.le_of_ble_eq_true rfl) (vs' := [(.int f), (.int (nar .byte (own_hex (own_d xx (60 : Int32))))), (.int (nar .byte (own_hex (own_d xx (56 : Int32))))), (.int (nar .byte (own_hex (own_d xx (52 : Int32))))), (.int (nar .byte (own_hex (own_d xx (48 : Int32))))), (.int f), (.int f), (.int f), (.int f), (.int f), (.int f), (.int f), (.int f), (.int f), (.int f), (.int f), (.int f), (.int f), (.int f), (.int f)]) rfl N g_a1 33 (hb hby d_prog_27_method_3_32) rfl (fun T h4 locs X eT W V' N => ?_)
  replace Z0 := Nat.le_trans Z0 (Keep.of_wr W).1
  replace K := K.wr W (Or.inl (List.mem_of_getElem? (i := 0) rfl))
  replace O := O.wr W g_a1
  replace Va := V'
  refine o_iinc X hx 36 (Ls' := #[.val (.ref a1), .val (.int (1 : Int32)), .val (.long xx), .second, .val (.int ((3 : Int32) + (1 : Int32)))]) (1 : Int32) (hb hby d_prog_27_method_3_33) rfl rfl rfl rfl ?_
  rw [show ((3 : Int32) + (1 : Int32)) = (4 : Int32) from by decide]
  refine o_goto X hx 3 (hb hby d_prog_27_method_3_36) rfl ?_
  refine o_iload X hx 5 (hb hby d_prog_27_method_3_3) rfl rfl ?_
  refine o_bipush X hx 7 (16 : Int32) (hb hby d_prog_27_method_3_5) rfl rfl ?_
  refine o_icmpF X hx 10 (hb hby d_prog_27_method_3_7) rfl (by decide : (4 : Int32) < (16 : Int32)) ?_
  refine o_aloadN X hx 11 (hb hby d_prog_27_method_3_10) rfl rfl rfl ?_
  refine o_iloadN X hx 12 (hb hby d_prog_27_method_3_11) rfl rfl ?_
  refine o_iload X hx 14 (hb hby d_prog_27_method_3_12) rfl rfl ?_
  refine o_iadd X hx 15 (hb hby d_prog_27_method_3_14) rfl ?_
  rw [show ((1 : Int32) + (4 : Int32)) = (5 : Int32) from by decide]
  refine o_getS X hx hZ hown (host := "") (Or.inl (hw _ (List.mem_of_getElem? (i := 5) rfl))) Via.refl eT (SH.ext O.2) 18 (hb hby d_prog_27_method_3_15) rfl (fun T X eT => ?_)
  refine o_lloadN X hx 19 (hb hby d_prog_27_method_3_18) rfl rfl ?_
  refine o_iconst X hx 20 (4 : Int32) (hb hby d_prog_27_method_3_19) rfl rfl ?_
  refine o_bipush X hx 22 (15 : Int32) (hb hby d_prog_27_method_3_20) rfl rfl ?_
  refine o_iload X hx 24 (hb hby d_prog_27_method_3_22) rfl rfl ?_
  refine o_isub X hx 25 (hb hby d_prog_27_method_3_24) rfl ?_
  rw [show ((15 : Int32) - (4 : Int32)) = (11 : Int32) from by decide]
  refine o_imul X hx 26 (hb hby d_prog_27_method_3_25) rfl ?_
  rw [show ((4 : Int32) * (11 : Int32)) = (44 : Int32) from by decide]
  refine o_lushr X hx 27 (hb hby d_prog_27_method_3_26) rfl ?_
  refine o_l2i X hx 28 (hb hby d_prog_27_method_3_27) rfl ?_
  refine o_bipush X hx 30 (15 : Int32) (hb hby d_prog_27_method_3_28) rfl rfl ?_
  refine o_iand X hx 31 (hb hby d_prog_27_method_3_30) rfl ?_
  show Wout p e below _ T (mkF m 31 #[.val (.ref a1), .val (.int (1 : Int32)), .val (.long xx), .second, .val (.int (4 : Int32))] [(.int (own_d xx (44 : Int32))), (.ref hxa), (.int (5 : Int32)), (.ref a1)])
  refine o_baload X hx hZ eT (VH.ext O.2) (own_idx (own_d16 xx _).1 (own_d16 xx _).2) (v := (.int (own_hex (own_d xx (44 : Int32))))) (own_hsat (own_d16 xx _).1 (own_d16 xx _).2) 32 (hb hby d_prog_27_method_3_31) rfl ?_
  refine o_bastore X hx hZ eT Va ⟨by decide, by decide⟩ 5 rfl (Nat.le_of_ble_eq_true rfl) (vs' := [(.int f), (.int (nar .byte (own_hex (own_d xx (60 : Int32))))), (.int (nar .byte (own_hex (own_d xx (56 : Int32))))), (.int (nar .byte (own_hex (own_d xx (52 : Int32))))), (.int (nar .byte (own_hex (own_d xx (48 : Int32))))), (.int (nar .byte (own_hex (own_d xx (44 : Int32))))), (.int f), (.int f), (.int f), (.int f), (.int f), (.int f), (.int f), (.int f), (.int f), (.int f), (.int f), (.int f), (.int f), (.int f)]) rfl N g_a1 33 (hb hby d_prog_27_method_3_32) rfl (fun T h5 locs X eT W V' N => ?_)
  replace Z0 := Nat.le_trans Z0 (Keep.of_wr W).1
  replace K := K.wr W (Or.inl (List.mem_of_getElem? (i := 0) rfl))
  replace O := O.wr W g_a1
  replace Va := V'
  refine o_iinc X hx 36 (Ls' := #[.val (.ref a1), .val (.int (1 : Int32)), .val (.long xx), .second, .val (.int ((4 : Int32) + (1 : Int32)))]) (1 : Int32) (hb hby d_prog_27_method_3_33) rfl rfl rfl rfl ?_
  rw [show ((4 : Int32) + (1 : Int32)) = (5 : Int32) from by decide]
  refine o_goto X hx 3 (hb hby d_prog_27_method_3_36) rfl ?_
  refine o_iload X hx 5 (hb hby d_prog_27_method_3_3) rfl rfl ?_
  refine o_bipush X hx 7 (16 : Int32) (hb hby d_prog_27_method_3_5) rfl rfl ?_
  refine o_icmpF X hx 10 (hb hby d_prog_27_method_3_7) rfl (by decide : (5 : Int32) < (16 : Int32)) ?_
  refine o_aloadN X hx 11 (hb hby d_prog_27_method_3_10) rfl rfl rfl ?_
  refine o_iloadN X hx 12 (hb hby d_prog_27_method_3_11) rfl rfl ?_
  refine o_iload X hx 14 (hb hby d_prog_27_method_3_12) rfl rfl ?_
  refine o_iadd X hx 15 (hb hby d_prog_27_method_3_14) rfl ?_
  rw [show ((1 : Int32) + (5 : Int32)) = (6 : Int32) from by decide]
  refine o_getS X hx hZ hown (host := "") (Or.inl (hw _ (List.mem_of_getElem? (i := 5) rfl))) Via.refl eT (SH.ext O.2) 18 (hb hby d_prog_27_method_3_15) rfl (fun T X eT => ?_)
  refine o_lloadN X hx 19 (hb hby d_prog_27_method_3_18) rfl rfl ?_
  refine o_iconst X hx 20 (4 : Int32) (hb hby d_prog_27_method_3_19) rfl rfl ?_
  refine o_bipush X hx 22 (15 : Int32) (hb hby d_prog_27_method_3_20) rfl rfl ?_
  refine o_iload X hx 24 (hb hby d_prog_27_method_3_22) rfl rfl ?_
  refine o_isub X hx 25 (hb hby d_prog_27_method_3_24) rfl ?_
  rw [show ((15 : Int32) - (5 : Int32)) = (10 : Int32) from by decide]
  refine o_imul X hx 26 (hb hby d_prog_27_method_3_25) rfl ?_
  rw [show ((4 : Int32) * (10 : Int32)) = (40 : Int32) from by decide]
  refine o_lushr X hx 27 (hb hby d_prog_27_method_3_26) rfl ?_
  refine o_l2i X hx 28 (hb hby d_prog_27_method_3_27) rfl ?_
  refine o_bipush X hx 30 (15 : Int32) (hb hby d_prog_27_method_3_28) rfl rfl ?_
  refine o_iand X hx 31 (hb hby d_prog_27_method_3_30) rfl ?_
  show Wout p e below _ T (mkF m 31 #[.val (.ref a1), .val (.int (1 : Int32)), .val (.long xx), .second, .val (.int (5 : Int32))] [(.int (own_d xx (40 : Int32))), (.ref hxa), (.int (6 : Int32)), (.ref a1)])
  refine o_baload X hx hZ eT (VH.ext O.2) (own_idx (own_d16 xx _).1 (own_d16 xx _).2) (v := (.int (own_hex (own_d xx (40 : Int32))))) (own_hsat (own_d16 xx _).1 (own_d16 xx _).2) 32 (hb hby d_prog_27_method_3_31) rfl ?_
  refine o_bastore X hx hZ eT Va ⟨by decide, by decide⟩ 6 rfl (Nat.le_of_ble_eq_true rfl) (vs' := [(.int f), (.int (nar .byte (own_hex (own_d xx (60 : Int32))))), (.int (nar .byte (own_hex (own_d xx (56 : Int32))))), (.int (nar .byte (own_hex (own_d xx (52 : Int32))))), (.int (nar .byte (own_hex (own_d xx (48 : Int32))))), (.int (nar .byte (own_hex (own_d xx (44 : Int32))))), (.int (nar .byte (own_hex (own_d xx (40 : Int32))))), (.int f), (.int f), (.int f), (.int f), (.int f), (.int f), (.int f), (.int f), (.int f), (.int f), (.int f), (.int f), (.int f)]) rfl N g_a1 33 (hb hby d_prog_27_method_3_32) rfl (fun T h6 locs X eT W V' N => ?_)
  replace Z0 := Nat.le_trans Z0 (Keep.of_wr W).1
  replace K := K.wr W (Or.inl (List.mem_of_getElem? (i := 0) rfl))
  replace O := O.wr W g_a1
  replace Va := V'
  refine o_iinc X hx 36 (Ls' := #[.val (.ref a1), .val (.int (1 : Int32)), .val (.long xx), .second, .val (.int ((5 : Int32) + (1 : Int32)))]) (1 : Int32) (hb hby d_prog_27_method_3_33) rfl rfl rfl rfl ?_
  rw [show ((5 : Int32) + (1 : Int32)) = (6 : Int32) from by decide]
  refine o_goto X hx 3 (hb hby d_prog_27_method_3_36) rfl ?_
  refine o_iload X hx 5 (hb hby d_prog_27_method_3_3) rfl rfl ?_
  refine o_bipush X hx 7 (16 : Int32) (hb hby d_prog_27_method_3_5) rfl rfl ?_
  refine o_icmpF X hx 10 (hb hby d_prog_27_method_3_7) rfl (by decide : (6 : Int32) < (16 : Int32)) ?_
  refine o_aloadN X hx 11 (hb hby d_prog_27_method_3_10) rfl rfl rfl ?_
  refine o_iloadN X hx 12 (hb hby d_prog_27_method_3_11) rfl rfl ?_
  refine o_iload X hx 14 (hb hby d_prog_27_method_3_12) rfl rfl ?_
  refine o_iadd X hx 15 (hb hby d_prog_27_method_3_14) rfl ?_
  rw [show ((1 : Int32) + (6 : Int32)) = (7 : Int32) from by decide]
  refine o_getS X hx hZ hown (host := "") (Or.inl (hw _ (List.mem_of_getElem? (i := 5) rfl))) Via.refl eT (SH.ext O.2) 18 (hb hby d_prog_27_method_3_15) rfl (fun T X eT => ?_)
  refine o_lloadN X hx 19 (hb hby d_prog_27_method_3_18) rfl rfl ?_
  refine o_iconst X hx 20 (4 : Int32) (hb hby d_prog_27_method_3_19) rfl rfl ?_
  refine o_bipush X hx 22 (15 : Int32) (hb hby d_prog_27_method_3_20) rfl rfl ?_
  refine o_iload X hx 24 (hb hby d_prog_27_method_3_22) rfl rfl ?_
  refine o_isub X hx 25 (hb hby d_prog_27_method_3_24) rfl ?_
  rw [show ((15 : Int32) - (6 : Int32)) = (9 : Int32) from by decide]
  refine o_imul X hx 26 (hb hby d_prog_27_method_3_25) rfl ?_
  rw [show ((4 : Int32) * (9 : Int32)) = (36 : Int32) from by decide]
  refine o_lushr X hx 27 (hb hby d_prog_27_method_3_26) rfl ?_
  refine o_l2i X hx 28 (hb hby d_prog_27_method_3_27) rfl ?_
  refine o_bipush X hx 30 (15 : Int32) (hb hby d_prog_27_method_3_28) rfl rfl ?_
  refine o_iand X hx 31 (hb hby d_prog_27_method_3_30) rfl ?_
  show Wout p e below _ T (mkF m 31 #[.val (.ref a1), .val (.int (1 : Int32)), .val (.long xx), .second, .val (.int (6 : Int32))] [(.int (own_d xx (36 : Int32))), (.ref hxa), (.int (7 : Int32)), (.ref a1)])
  refine o_baload X hx hZ eT (VH.ext O.2) (own_idx (own_d16 xx _).1 (own_d16 xx _).2) (v := (.int (own_hex (own_d xx (36 : Int32))))) (own_hsat (own_d16 xx _).1 (own_d16 xx _).2) 32 (hb hby d_prog_27_method_3_31) rfl ?_
  refine o_bastore X hx hZ eT Va ⟨by decide, by decide⟩ 7 rfl (Nat.le_of_ble_eq_true rfl) (vs' := [(.int f), (.int (nar .byte (own_hex (own_d xx (60 : Int32))))), (.int (nar .byte (own_hex (own_d xx (56 : Int32))))), (.int (nar .byte (own_hex (own_d xx (52 : Int32))))), (.int (nar .byte (own_hex (own_d xx (48 : Int32))))), (.int (nar .byte (own_hex (own_d xx (44 : Int32))))), (.int (nar .byte (own_hex (own_d xx (40 : Int32))))), (.int (nar .byte (own_hex (own_d xx (36 : Int32))))), (.int f), (.int f), (.int f), (.int f), (.int f), (.int f), (.int f), (.int f), (.int f), (.int f), (.int f), (.int f)]) rfl N g_a1 33 (hb hby d_prog_27_method_3_32) rfl (fun T h7 locs X eT W V' N => ?_)
  replace Z0 := Nat.le_trans Z0 (Keep.of_wr W).1
  replace K := K.wr W (Or.inl (List.mem_of_getElem? (i := 0) rfl))
  replace O := O.wr W g_a1
  replace Va := V'
  refine o_iinc X hx 36 (Ls' := #[.val (.ref a1), .val (.int (1 : Int32)), .val (.long xx), .second, .val (.int ((6 : Int32) + (1 : Int32)))]) (1 : Int32) (hb hby d_prog_27_method_3_33) rfl rfl rfl rfl ?_
  rw [show ((6 : Int32) + (1 : Int32)) = (7 : Int32) from by decide]
  refine o_goto X hx 3 (hb hby d_prog_27_method_3_36) rfl ?_
  refine o_iload X hx 5 (hb hby d_prog_27_method_3_3) rfl rfl ?_
  refine o_bipush X hx 7 (16 : Int32) (hb hby d_prog_27_method_3_5) rfl rfl ?_
  refine o_icmpF X hx 10 (hb hby d_prog_27_method_3_7) rfl (by decide : (7 : Int32) < (16 : Int32)) ?_
  refine o_aloadN X hx 11 (hb hby d_prog_27_method_3_10) rfl rfl rfl ?_
  refine o_iloadN X hx 12 (hb hby d_prog_27_method_3_11) rfl rfl ?_
  refine o_iload X hx 14 (hb hby d_prog_27_method_3_12) rfl rfl ?_
  refine o_iadd X hx 15 (hb hby d_prog_27_method_3_14) rfl ?_
  rw [show ((1 : Int32) + (7 : Int32)) = (8 : Int32) from by decide]
  refine o_getS X hx hZ hown (host := "") (Or.inl (hw _ (List.mem_of_getElem? (i := 5) rfl))) Via.refl eT (SH.ext O.2) 18 (hb hby d_prog_27_method_3_15) rfl (fun T X eT => ?_)
  refine o_lloadN X hx 19 (hb hby d_prog_27_method_3_18) rfl rfl ?_
  refine o_iconst X hx 20 (4 : Int32) (hb hby d_prog_27_method_3_19) rfl rfl ?_
  refine o_bipush X hx 22 (15 : Int32) (hb hby d_prog_27_method_3_20) rfl rfl ?_
  refine o_iload X hx 24 (hb hby d_prog_27_method_3_22) rfl rfl ?_
  refine o_isub X hx 25 (hb hby d_prog_27_method_3_24) rfl ?_
  rw [show ((15 : Int32) - (7 : Int32)) = (8 : Int32) from by decide]
  refine o_imul X hx 26 (hb hby d_prog_27_method_3_25) rfl ?_
  rw [show ((4 : Int32) * (8 : Int32)) = (32 : Int32) from by decide]
  refine o_lushr X hx 27 (hb hby d_prog_27_method_3_26) rfl ?_
  refine o_l2i X hx 28 (hb hby d_prog_27_method_3_27) rfl ?_
  refine o_bipush X hx 30 (15 : Int32) (hb hby d_prog_27_method_3_28) rfl rfl ?_
  refine o_iand X hx 31 (hb hby d_prog_27_method_3_30) rfl ?_
  show Wout p e below _ T (mkF m 31 #[.val (.ref a1), .val (.int (1 : Int32)), .val (.long xx), .second, .val (.int (7 : Int32))] [(.int (own_d xx (32 : Int32))), (.ref hxa), (.int (8 : Int32)), (.ref a1)])
  refine o_baload X hx hZ eT (VH.ext O.2) (own_idx (own_d16 xx _).1 (own_d16 xx _).2) (v := (.int (own_hex (own_d xx (32 : Int32))))) (own_hsat (own_d16 xx _).1 (own_d16 xx _).2) 32 (hb hby d_prog_27_method_3_31) rfl ?_
  refine o_bastore X hx hZ eT Va ⟨by decide, by decide⟩ 8 rfl (Nat.le_of_ble_eq_true rfl) (vs' := [(.int f), (.int (nar .byte (own_hex (own_d xx (60 : Int32))))), (.int (nar .byte (own_hex (own_d xx (56 : Int32))))), (.int (nar .byte (own_hex (own_d xx (52 : Int32))))), (.int (nar .byte (own_hex (own_d xx (48 : Int32))))), (.int (nar .byte (own_hex (own_d xx (44 : Int32))))), (.int (nar .byte (own_hex (own_d xx (40 : Int32))))), (.int (nar .byte (own_hex (own_d xx (36 : Int32))))), (.int (nar .byte (own_hex (own_d xx (32 : Int32))))), (.int f), (.int f), (.int f), (.int f), (.int f), (.int f), (.int f), (.int f), (.int f), (.int f), (.int f)]) rfl N g_a1 33 (hb hby d_prog_27_method_3_32) rfl (fun T h8 locs X eT W V' N => ?_)
  replace Z0 := Nat.le_trans Z0 (Keep.of_wr W).1
  replace K := K.wr W (Or.inl (List.mem_of_getElem? (i := 0) rfl))
  replace O := O.wr W g_a1
  replace Va := V'
  refine o_iinc X hx 36 (Ls' := #[.val (.ref a1), .val (.int (1 : Int32)), .val (.long xx), .second, .val (.int ((7 : Int32) + (1 : Int32)))]) (1 : Int32) (hb hby d_prog_27_method_3_33) rfl rfl rfl rfl ?_
  rw [show ((7 : Int32) + (1 : Int32)) = (8 : Int32) from by decide]
  refine o_goto X hx 3 (hb hby d_prog_27_method_3_36) rfl ?_
  refine o_iload X hx 5 (hb hby d_prog_27_method_3_3) rfl rfl ?_
  refine o_bipush X hx 7 (16 : Int32) (hb hby d_prog_27_method_3_5) rfl rfl ?_
  refine o_icmpF X hx 10 (hb hby d_prog_27_method_3_7) rfl (by decide : (8 : Int32) < (16 : Int32)) ?_
  refine o_aloadN X hx 11 (hb hby d_prog_27_method_3_10) rfl rfl rfl ?_
  refine o_iloadN X hx 12 (hb hby d_prog_27_method_3_11) rfl rfl ?_
  refine o_iload X hx 14 (hb hby d_prog_27_method_3_12) rfl rfl ?_
  refine o_iadd X hx 15 (hb hby d_prog_27_method_3_14) rfl ?_
  rw [show ((1 : Int32) + (8 : Int32)) = (9 : Int32) from by decide]
  refine o_getS X hx hZ hown (host := "") (Or.inl (hw _ (List.mem_of_getElem? (i := 5) rfl))) Via.refl eT (SH.ext O.2) 18 (hb hby d_prog_27_method_3_15) rfl (fun T X eT => ?_)
  refine o_lloadN X hx 19 (hb hby d_prog_27_method_3_18) rfl rfl ?_
  refine o_iconst X hx 20 (4 : Int32) (hb hby d_prog_27_method_3_19) rfl rfl ?_
  refine o_bipush X hx 22 (15 : Int32) (hb hby d_prog_27_method_3_20) rfl rfl ?_
  refine o_iload X hx 24 (hb hby d_prog_27_method_3_22) rfl rfl ?_
  refine o_isub X hx 25 (hb hby d_prog_27_method_3_24) rfl ?_
  rw [show ((15 : Int32) - (8 : Int32)) = (7 : Int32) from by decide]
  refine o_imul X hx 26 (hb hby d_prog_27_method_3_25) rfl ?_
  rw [show ((4 : Int32) * (7 : Int32)) = (28 : Int32) from by decide]
  refine o_lushr X hx 27 (hb hby d_prog_27_method_3_26) rfl ?_
  refine o_l2i X hx 28 (hb hby d_prog_27_method_3_27) rfl ?_
  refine o_bipush X hx 30 (15 : Int32) (hb hby d_prog_27_method_3_28) rfl rfl ?_
  refine o_iand X hx 31 (hb hby d_prog_27_method_3_30) rfl ?_
  show Wout p e below _ T (mkF m 31 #[.val (.ref a1), .val (.int (1 : Int32)), .val (.long xx), .second, .val (.int (8 : Int32))] [(.int (own_d xx (28 : Int32))), (.ref hxa), (.int (9 : Int32)), (.ref a1)])
  refine o_baload X hx hZ eT (VH.ext O.2) (own_idx (own_d16 xx _).1 (own_d16 xx _).2) (v := (.int (own_hex (own_d xx (28 : Int32))))) (own_hsat (own_d16 xx _).1 (own_d16 xx _).2) 32 (hb hby d_prog_27_method_3_31) rfl ?_
  refine o_bastore X hx hZ eT Va ⟨by decide, by decide⟩ 9 rfl (Nat.le_of_ble_eq_true rfl) (vs' := [(.int f), (.int (nar .byte (own_hex (own_d xx (60 : Int32))))), (.int (nar .byte (own_hex (own_d xx (56 : Int32))))), (.int (nar .byte (own_hex (own_d xx (52 : Int32))))), (.int (nar .byte (own_hex (own_d xx (48 : Int32))))), (.int (nar .byte (own_hex (own_d xx (44 : Int32))))), (.int (nar .byte (own_hex (own_d xx (40 : Int32))))), (.int (nar .byte (own_hex (own_d xx (36 : Int32))))), (.int (nar .byte (own_hex (own_d xx (32 : Int32))))), (.int (nar .byte (own_hex (own_d xx (28 : Int32))))), (.int f), (.int f), (.int f), (.int f), (.int f), (.int f), (.int f), (.int f), (.int f), (.int f)]) rfl N g_a1 33 (hb hby d_prog_27_method_3_32) rfl (fun T h9 locs X eT W V' N => ?_)
  replace Z0 := Nat.le_trans Z0 (Keep.of_wr W).1
  replace K := K.wr W (Or.inl (List.mem_of_getElem? (i := 0) rfl))
  replace O := O.wr W g_a1
  replace Va := V'
  refine o_iinc X hx 36 (Ls' := #[.val (.ref a1), .val (.int (1 : Int32)), .val (.long xx), .second, .val (.int ((8 : Int32) + (1 : Int32)))]) (1 : Int32) (hb hby d_prog_27_method_3_33) rfl rfl rfl rfl ?_
  rw [show ((8 : Int32) + (1 : Int32)) = (9 : Int32) from by decide]
  refine o_goto X hx 3 (hb hby d_prog_27_method_3_36) rfl ?_
  refine o_iload X hx 5 (hb hby d_prog_27_method_3_3) rfl rfl ?_
  refine o_bipush X hx 7 (16 : Int32) (hb hby d_prog_27_method_3_5) rfl rfl ?_
  refine o_icmpF X hx 10 (hb hby d_prog_27_method_3_7) rfl (by decide : (9 : Int32) < (16 : Int32)) ?_
  refine o_aloadN X hx 11 (hb hby d_prog_27_method_3_10) rfl rfl rfl ?_
  refine o_iloadN X hx 12 (hb hby d_prog_27_method_3_11) rfl rfl ?_
  refine o_iload X hx 14 (hb hby d_prog_27_method_3_12) rfl rfl ?_
  refine o_iadd X hx 15 (hb hby d_prog_27_method_3_14) rfl ?_
  rw [show ((1 : Int32) + (9 : Int32)) = (10 : Int32) from by decide]
  refine o_getS X hx hZ hown (host := "") (Or.inl (hw _ (List.mem_of_getElem? (i := 5) rfl))) Via.refl eT (SH.ext O.2) 18 (hb hby d_prog_27_method_3_15) rfl (fun T X eT => ?_)
  refine o_lloadN X hx 19 (hb hby d_prog_27_method_3_18) rfl rfl ?_
  refine o_iconst X hx 20 (4 : Int32) (hb hby d_prog_27_method_3_19) rfl rfl ?_
  refine o_bipush X hx 22 (15 : Int32) (hb hby d_prog_27_method_3_20) rfl rfl ?_
  refine o_iload X hx 24 (hb hby d_prog_27_method_3_22) rfl rfl ?_
  refine o_isub X hx 25 (hb hby d_prog_27_method_3_24) rfl ?_
  rw [show ((15 : Int32) - (9 : Int32)) = (6 : Int32) from by decide]
  refine o_imul X hx 26 (hb hby d_prog_27_method_3_25) rfl ?_
  rw [show ((4 : Int32) * (6 : Int32)) = (24 : Int32) from by decide]
  refine o_lushr X hx 27 (hb hby d_prog_27_method_3_26) rfl ?_
  refine o_l2i X hx 28 (hb hby d_prog_27_method_3_27) rfl ?_
  refine o_bipush X hx 30 (15 : Int32) (hb hby d_prog_27_method_3_28) rfl rfl ?_
  refine o_iand X hx 31 (hb hby d_prog_27_method_3_30) rfl ?_
  show Wout p e below _ T (mkF m 31 #[.val (.ref a1), .val (.int (1 : Int32)), .val (.long xx), .second, .val (.int (9 : Int32))] [(.int (own_d xx (24 : Int32))), (.ref hxa), (.int (10 : Int32)), (.ref a1)])
  refine o_baload X hx hZ eT (VH.ext O.2) (own_idx (own_d16 xx _).1 (own_d16 xx _).2) (v := (.int (own_hex (own_d xx (24 : Int32))))) (own_hsat (own_d16 xx _).1 (own_d16 xx _).2) 32 (hb hby d_prog_27_method_3_31) rfl ?_
  refine o_bastore X hx hZ eT Va ⟨by decide, by decide⟩ 10 rfl (Nat.le_of_ble_eq_true rfl) (vs' := [(.int f), (.int (nar .byte (own_hex (own_d xx (60 : Int32))))), (.int (nar .byte (own_hex (own_d xx (56 : Int32))))), (.int (nar .byte (own_hex (own_d xx (52 : Int32))))), (.int (nar .byte (own_hex (own_d xx (48 : Int32))))), (.int (nar .byte (own_hex (own_d xx (44 : Int32))))), (.int (nar .byte (own_hex (own_d xx (40 : Int32))))), (.int (nar .byte (own_hex (own_d xx (36 : Int32))))), (.int (nar .byte (own_hex (own_d xx (32 : Int32))))), (.int (nar .byte (own_hex (own_d xx (28 : Int32))))), (.int (nar .byte (own_hex (own_d xx (24 : Int32))))), (.int f), (.int f), (.int f), (.int f), (.int f), (.int f), (.int f), (.int f), (.int f)]) rfl N g_a1 33 (hb hby d_prog_27_method_3_32) rfl (fun T h10 locs X eT W V' N => ?_)
  replace Z0 := Nat.le_trans Z0 (Keep.of_wr W).1
  replace K := K.wr W (Or.inl (List.mem_of_getElem? (i := 0) rfl))
  replace O := O.wr W g_a1
  replace Va := V'
  refine o_iinc X hx 36 (Ls' := #[.val (.ref a1), .val (.int (1 : Int32)), .val (.long xx), .second, .val (.int ((9 : Int32) + (1 : Int32)))]) (1 : Int32) (hb hby d_prog_27_method_3_33) rfl rfl rfl rfl ?_
  rw [show ((9 : Int32) + (1 : Int32)) = (10 : Int32) from by decide]
  refine o_goto X hx 3 (hb hby d_prog_27_method_3_36) rfl ?_
  refine o_iload X hx 5 (hb hby d_prog_27_method_3_3) rfl rfl ?_
  refine o_bipush X hx 7 (16 : Int32) (hb hby d_prog_27_method_3_5) rfl rfl ?_
  refine o_icmpF X hx 10 (hb hby d_prog_27_method_3_7) rfl (by decide : (10 : Int32) < (16 : Int32)) ?_
  refine o_aloadN X hx 11 (hb hby d_prog_27_method_3_10) rfl rfl rfl ?_
  refine o_iloadN X hx 12 (hb hby d_prog_27_method_3_11) rfl rfl ?_
  refine o_iload X hx 14 (hb hby d_prog_27_method_3_12) rfl rfl ?_
  refine o_iadd X hx 15 (hb hby d_prog_27_method_3_14) rfl ?_
  rw [show ((1 : Int32) + (10 : Int32)) = (11 : Int32) from by decide]
  refine o_getS X hx hZ hown (host := "") (Or.inl (hw _ (List.mem_of_getElem? (i := 5) rfl))) Via.refl eT (SH.ext O.2) 18 (hb hby d_prog_27_method_3_15) rfl (fun T X eT => ?_)
  refine o_lloadN X hx 19 (hb hby d_prog_27_method_3_18) rfl rfl ?_
  refine o_iconst X hx 20 (4 : Int32) (hb hby d_prog_27_method_3_19) rfl rfl ?_
  refine o_bipush X hx 22 (15 : Int32) (hb hby d_prog_27_method_3_20) rfl rfl ?_
  refine o_iload X hx 24 (hb hby d_prog_27_method_3_22) rfl rfl ?_
  refine o_isub X hx 25 (hb hby d_prog_27_method_3_24) rfl ?_
  rw [show ((15 : Int32) - (10 : Int32)) = (5 : Int32) from by decide]
  refine o_imul X hx 26 (hb hby d_prog_27_method_3_25) rfl ?_
  rw [show ((4 : Int32) * (5 : Int32)) = (20 : Int32) from by decide]
  refine o_lushr X hx 27 (hb hby d_prog_27_method_3_26) rfl ?_
  refine o_l2i X hx 28 (hb hby d_prog_27_method_3_27) rfl ?_
  refine o_bipush X hx 30 (15 : Int32) (hb hby d_prog_27_method_3_28) rfl rfl ?_
  refine o_iand X hx 31 (hb hby d_prog_27_method_3_30) rfl ?_
  show Wout p e below _ T (mkF m 31 #[.val (.ref a1), .val (.int (1 : Int32)), .val (.long xx), .second, .val (.int (10 : Int32))] [(.int (own_d xx (20 : Int32))), (.ref hxa), (.int (11 : Int32)), (.ref a1)])
  refine o_baload X hx hZ eT (VH.ext O.2) (own_idx (own_d16 xx _).1 (own_d16 xx _).2) (v := (.int (own_hex (own_d xx (20 : Int32))))) (own_hsat (own_d16 xx _).1 (own_d16 xx _).2) 32 (hb hby d_prog_27_method_3_31) rfl ?_
  refine o_bastore X hx hZ eT Va ⟨by decide, by decide⟩ 11 rfl (Nat.le_of_ble_eq_true rfl) (vs' := [(.int f), (.int (nar .byte (own_hex (own_d xx (60 : Int32))))), (.int (nar .byte (own_hex (own_d xx (56 : Int32))))), (.int (nar .byte (own_hex (own_d xx (52 : Int32))))), (.int (nar .byte (own_hex (own_d xx (48 : Int32))))), (.int (nar .byte (own_hex (own_d xx (44 : Int32))))), (.int (nar .byte (own_hex (own_d xx (40 : Int32))))), (.int (nar .byte (own_hex (own_d xx (36 : Int32))))), (.int (nar .byte (own_hex (own_d xx (32 : Int32))))), (.int (nar .byte (own_hex (own_d xx (28 : Int32))))), (.int (nar .byte (own_hex (own_d xx (24 : Int32))))), (.int (nar .byte (own_hex (own_d xx (20 : Int32))))), (.int f), (.int f), (.int f), (.int f), (.int f), (.int f), (.int f), (.int f)]) rfl N g_a1 33 (hb hby d_prog_27_method_3_32) rfl (fun T h11 locs X eT W V' N => ?_)
  replace Z0 := Nat.le_trans Z0 (Keep.of_wr W).1
  replace K := K.wr W (Or.inl (List.mem_of_getElem? (i := 0) rfl))
  replace O := O.wr W g_a1
  replace Va := V'
  refine o_iinc X hx 36 (Ls' := #[.val (.ref a1), .val (.int (1 : Int32)), .val (.long xx), .second, .val (.int ((10 : Int32) + (1 : Int32)))]) (1 : Int32) (hb hby d_prog_27_method_3_33) rfl rfl rfl rfl ?_
  rw [show ((10 : Int32) + (1 : Int32)) = (11 : Int32) from by decide]
  refine o_goto X hx 3 (hb hby d_prog_27_method_3_36) rfl ?_
  refine o_iload X hx 5 (hb hby d_prog_27_method_3_3) rfl rfl ?_
  refine o_bipush X hx 7 (16 : Int32) (hb hby d_prog_27_method_3_5) rfl rfl ?_
  refine o_icmpF X hx 10 (hb hby d_prog_27_method_3_7) rfl (by decide : (11 : Int32) < (16 : Int32)) ?_
  refine o_aloadN X hx 11 (hb hby d_prog_27_method_3_10) rfl rfl rfl ?_
  refine o_iloadN X hx 12 (hb hby d_prog_27_method_3_11) rfl rfl ?_
  refine o_iload X hx 14 (hb hby d_prog_27_method_3_12) rfl rfl ?_
  refine o_iadd X hx 15 (hb hby d_prog_27_method_3_14) rfl ?_
  rw [show ((1 : Int32) + (11 : Int32)) = (12 : Int32) from by decide]
  refine o_getS X hx hZ hown (host := "") (Or.inl (hw _ (List.mem_of_getElem? (i := 5) rfl))) Via.refl eT (SH.ext O.2) 18 (hb hby d_prog_27_method_3_15) rfl (fun T X eT => ?_)
  refine o_lloadN X hx 19 (hb hby d_prog_27_method_3_18) rfl rfl ?_
  refine o_iconst X hx 20 (4 : Int32) (hb hby d_prog_27_method_3_19) rfl rfl ?_
  refine o_bipush X hx 22 (15 : Int32) (hb hby d_prog_27_method_3_20) rfl rfl ?_
  refine o_iload X hx 24 (hb hby d_prog_27_method_3_22) rfl rfl ?_
  refine o_isub X hx 25 (hb hby d_prog_27_method_3_24) rfl ?_
  rw [show ((15 : Int32) - (11 : Int32)) = (4 : Int32) from by decide]
  refine o_imul X hx 26 (hb hby d_prog_27_method_3_25) rfl ?_
  rw [show ((4 : Int32) * (4 : Int32)) = (16 : Int32) from by decide]
  refine o_lushr X hx 27 (hb hby d_prog_27_method_3_26) rfl ?_
  refine o_l2i X hx 28 (hb hby d_prog_27_method_3_27) rfl ?_
  refine o_bipush X hx 30 (15 : Int32) (hb hby d_prog_27_method_3_28) rfl rfl ?_
  refine o_iand X hx 31 (hb hby d_prog_27_method_3_30) rfl ?_
  show Wout p e below _ T (mkF m 31 #[.val (.ref a1), .val (.int (1 : Int32)), .val (.long xx), .second, .val (.int (11 : Int32))] [(.int (own_d xx (16 : Int32))), (.ref hxa), (.int (12 : Int32)), (.ref a1)])
  refine o_baload X hx hZ eT (VH.ext O.2) (own_idx (own_d16 xx _).1 (own_d16 xx _).2) (v := (.int (own_hex (own_d xx (16 : Int32))))) (own_hsat (own_d16 xx _).1 (own_d16 xx _).2) 32 (hb hby d_prog_27_method_3_31) rfl ?_
  refine o_bastore X hx hZ eT Va ⟨by decide, by decide⟩ 12 rfl (Nat.le_of_ble_eq_true rfl) (vs' := [(.int f), (.int (nar .byte (own_hex (own_d xx (60 : Int32))))), (.int (nar .byte (own_hex (own_d xx (56 : Int32))))), (.int (nar .byte (own_hex (own_d xx (52 : Int32))))), (.int (nar .byte (own_hex (own_d xx (48 : Int32))))), (.int (nar .byte (own_hex (own_d xx (44 : Int32))))), (.int (nar .byte (own_hex (own_d xx (40 : Int32))))), (.int (nar .byte (own_hex (own_d xx (36 : Int32))))), (.int (nar .byte (own_hex (own_d xx (32 : Int32))))), (.int (nar .byte (own_hex (own_d xx (28 : Int32))))), (.int (nar .byte (own_hex (own_d xx (24 : Int32))))), (.int (nar .byte (own_hex (own_d xx (20 : Int32))))), (.int (nar .byte (own_hex (own_d xx (16 : Int32))))), (.int f), (.int f), (.int f), (.int f), (.int f), (.int f), (.int f)]) rfl N g_a1 33 (hb hby d_prog_27_method_3_32) rfl (fun T h12 locs X eT W V' N => ?_)
  replace Z0 := Nat.le_trans Z0 (Keep.of_wr W).1
  replace K := K.wr W (Or.inl (List.mem_of_getElem? (i := 0) rfl))
  replace O := O.wr W g_a1
  replace Va := V'
  refine o_iinc X hx 36 (Ls' := #[.val (.ref a1), .val (.int (1 : Int32)), .val (.long xx), .second, .val (.int ((11 : Int32) + (1 : Int32)))]) (1 : Int32) (hb hby d_prog_27_method_3_33) rfl rfl rfl rfl ?_
  rw [show ((11 : Int32) + (1 : Int32)) = (12 : Int32) from by decide]
  refine o_goto X hx 3 (hb hby d_prog_27_method_3_36) rfl ?_
  refine o_iload X hx 5 (hb hby d_prog_27_method_3_3) rfl rfl ?_
  refine o_bipush X hx 7 (16 : Int32) (hb hby d_prog_27_method_3_5) rfl rfl ?_
  refine o_icmpF X hx 10 (hb hby d_prog_27_method_3_7) rfl (by decide : (12 : Int32) < (16 : Int32)) ?_
  refine o_aloadN X hx 11 (hb hby d_prog_27_method_3_10) rfl rfl rfl ?_
  refine o_iloadN X hx 12 (hb hby d_prog_27_method_3_11) rfl rfl ?_
  refine o_iload X hx 14 (hb hby d_prog_27_method_3_12) rfl rfl ?_
  refine o_iadd X hx 15 (hb hby d_prog_27_method_3_14) rfl ?_
  rw [show ((1 : Int32) + (12 : Int32)) = (13 : Int32) from by decide]
  refine o_getS X hx hZ hown (host := "") (Or.inl (hw _ (List.mem_of_getElem? (i := 5) rfl))) Via.refl eT (SH.ext O.2) 18 (hb hby d_prog_27_method_3_15) rfl (fun T X eT => ?_)
  refine o_lloadN X hx 19 (hb hby d_prog_27_method_3_18) rfl rfl ?_
  refine o_iconst X hx 20 (4 : Int32) (hb hby d_prog_27_method_3_19) rfl rfl ?_
  refine o_bipush X hx 22 (15 : Int32) (hb hby d_prog_27_method_3_20) rfl rfl ?_
  refine o_iload X hx 24 (hb hby d_prog_27_method_3_22) rfl rfl ?_
  refine o_isub X hx 25 (hb hby d_prog_27_method_3_24) rfl ?_
  rw [show ((15 : Int32) - (12 : Int32)) = (3 : Int32) from by decide]
  refine o_imul X hx 26 (hb hby d_prog_27_method_3_25) rfl ?_
  rw [show ((4 : Int32) * (3 : Int32)) = (12 : Int32) from by decide]
  refine o_lushr X hx 27 (hb hby d_prog_27_method_3_26) rfl ?_
  refine o_l2i X hx 28 (hb hby d_prog_27_method_3_27) rfl ?_
  refine o_bipush X hx 30 (15 : Int32) (hb hby d_prog_27_method_3_28) rfl rfl ?_
  refine o_iand X hx 31 (hb hby d_prog_27_method_3_30) rfl ?_
  show Wout p e below _ T (mkF m 31 #[.val (.ref a1), .val (.int (1 : Int32)), .val (.long xx), .second, .val (.int (12 : Int32))] [(.int (own_d xx (12 : Int32))), (.ref hxa), (.int (13 : Int32)), (.ref a1)])
  refine o_baload X hx hZ eT (VH.ext O.2) (own_idx (own_d16 xx _).1 (own_d16 xx _).2) (v := (.int (own_hex (own_d xx (12 : Int32))))) (own_hsat (own_d16 xx _).1 (own_d16 xx _).2) 32 (hb hby d_prog_27_method_3_31) rfl ?_
  refine o_bastore X hx hZ eT Va ⟨by decide, by decide⟩ 13 rfl (Nat.le_of_ble_eq_true rfl) (vs' := [(.int f), (.int (nar .byte (own_hex (own_d xx (60 : Int32))))), (.int (nar .byte (own_hex (own_d xx (56 : Int32))))), (.int (nar .byte (own_hex (own_d xx (52 : Int32))))), (.int (nar .byte (own_hex (own_d xx (48 : Int32))))), (.int (nar .byte (own_hex (own_d xx (44 : Int32))))), (.int (nar .byte (own_hex (own_d xx (40 : Int32))))), (.int (nar .byte (own_hex (own_d xx (36 : Int32))))), (.int (nar .byte (own_hex (own_d xx (32 : Int32))))), (.int (nar .byte (own_hex (own_d xx (28 : Int32))))), (.int (nar .byte (own_hex (own_d xx (24 : Int32))))), (.int (nar .byte (own_hex (own_d xx (20 : Int32))))), (.int (nar .byte (own_hex (own_d xx (16 : Int32))))), (.int (nar .byte (own_hex (own_d xx (12 : Int32))))), (.int f), (.int f), (.int f), (.int f), (.int f), (.int f)]) rfl N g_a1 33 (hb hby d_prog_27_method_3_32) rfl (fun T h13 locs X eT W V' N => ?_)
  replace Z0 := Nat.le_trans Z0 (Keep.of_wr W).1
  replace K := K.wr W (Or.inl (List.mem_of_getElem? (i := 0) rfl))
  replace O := O.wr W g_a1
  replace Va := V'
  refine o_iinc X hx 36 (Ls' := #[.val (.ref a1), .val (.int (1 : Int32)), .val (.long xx), .second, .val (.int ((12 : Int32) + (1 : Int32)))]) (1 : Int32) (hb hby d_prog_27_method_3_33) rfl rfl rfl rfl ?_
  rw [show ((12 : Int32) + (1 : Int32)) = (13 : Int32) from by decide]
  refine o_goto X hx 3 (hb hby d_prog_27_method_3_36) rfl ?_
  refine o_iload X hx 5 (hb hby d_prog_27_method_3_3) rfl rfl ?_
  refine o_bipush X hx 7 (16 : Int32) (hb hby d_prog_27_method_3_5) rfl rfl ?_
  refine o_icmpF X hx 10 (hb hby d_prog_27_method_3_7) rfl (by decide : (13 : Int32) < (16 : Int32)) ?_
  refine o_aloadN X hx 11 (hb hby d_prog_27_method_3_10) rfl rfl rfl ?_
  refine o_iloadN X hx 12 (hb hby d_prog_27_method_3_11) rfl rfl ?_
  refine o_iload X hx 14 (hb hby d_prog_27_method_3_12) rfl rfl ?_
  refine o_iadd X hx 15 (hb hby d_prog_27_method_3_14) rfl ?_
  rw [show ((1 : Int32) + (13 : Int32)) = (14 : Int32) from by decide]
  refine o_getS X hx hZ hown (host := "") (Or.inl (hw _ (List.mem_of_getElem? (i := 5) rfl))) Via.refl eT (SH.ext O.2) 18 (hb hby d_prog_27_method_3_15) rfl (fun T X eT => ?_)
  refine o_lloadN X hx 19 (hb hby d_prog_27_method_3_18) rfl rfl ?_
  refine o_iconst X hx 20 (4 : Int32) (hb hby d_prog_27_method_3_19) rfl rfl ?_
  refine o_bipush X hx 22 (15 : Int32) (hb hby d_prog_27_method_3_20) rfl rfl ?_
  refine o_iload X hx 24 (hb hby d_prog_27_method_3_22) rfl rfl ?_
  refine o_isub X hx 25 (hb hby d_prog_27_method_3_24) rfl ?_
  rw [show ((15 : Int32) - (13 : Int32)) = (2 : Int32) from by decide]
  refine o_imul X hx 26 (hb hby d_prog_27_method_3_25) rfl ?_
  rw [show ((4 : Int32) * (2 : Int32)) = (8 : Int32) from by decide]
  refine o_lushr X hx 27 (hb hby d_prog_27_method_3_26) rfl ?_
  refine o_l2i X hx 28 (hb hby d_prog_27_method_3_27) rfl ?_
  refine o_bipush X hx 30 (15 : Int32) (hb hby d_prog_27_method_3_28) rfl rfl ?_
  refine o_iand X hx 31 (hb hby d_prog_27_method_3_30) rfl ?_
  show Wout p e below _ T (mkF m 31 #[.val (.ref a1), .val (.int (1 : Int32)), .val (.long xx), .second, .val (.int (13 : Int32))] [(.int (own_d xx (8 : Int32))), (.ref hxa), (.int (14 : Int32)), (.ref a1)])
  refine o_baload X hx hZ eT (VH.ext O.2) (own_idx (own_d16 xx _).1 (own_d16 xx _).2) (v := (.int (own_hex (own_d xx (8 : Int32))))) (own_hsat (own_d16 xx _).1 (own_d16 xx _).2) 32 (hb hby d_prog_27_method_3_31) rfl ?_
  refine o_bastore X hx hZ eT Va ⟨by decide, by decide⟩ 14 rfl (Nat.le_of_ble_eq_true rfl) (vs' := [(.int f), (.int (nar .byte (own_hex (own_d xx (60 : Int32))))), (.int (nar .byte (own_hex (own_d xx (56 : Int32))))), (.int (nar .byte (own_hex (own_d xx (52 : Int32))))), (.int (nar .byte (own_hex (own_d xx (48 : Int32))))), (.int (nar .byte (own_hex (own_d xx (44 : Int32))))), (.int (nar .byte (own_hex (own_d xx (40 : Int32))))), (.int (nar .byte (own_hex (own_d xx (36 : Int32))))), (.int (nar .byte (own_hex (own_d xx (32 : Int32))))), (.int (nar .byte (own_hex (own_d xx (28 : Int32))))), (.int (nar .byte (own_hex (own_d xx (24 : Int32))))), (.int (nar .byte (own_hex (own_d xx (20 : Int32))))), (.int (nar .byte (own_hex (own_d xx (16 : Int32))))), (.int (nar .byte (own_hex (own_d xx (12 : Int32))))), (.int (nar .byte (own_hex (own_d xx (8 : Int32))))), (.int f), (.int f), (.int f), (.int f), (.int f)]) rfl N g_a1 33 (hb hby d_prog_27_method_3_32) rfl (fun T h14 locs X eT W V' N => ?_)
  replace Z0 := Nat.le_trans Z0 (Keep.of_wr W).1
  replace K := K.wr W (Or.inl (List.mem_of_getElem? (i := 0) rfl))
  replace O := O.wr W g_a1
  replace Va := V'
  refine o_iinc X hx 36 (Ls' := #[.val (.ref a1), .val (.int (1 : Int32)), .val (.long xx), .second, .val (.int ((13 : Int32) + (1 : Int32)))]) (1 : Int32) (hb hby d_prog_27_method_3_33) rfl rfl rfl rfl ?_
  rw [show ((13 : Int32) + (1 : Int32)) = (14 : Int32) from by decide]
  refine o_goto X hx 3 (hb hby d_prog_27_method_3_36) rfl ?_
  refine o_iload X hx 5 (hb hby d_prog_27_method_3_3) rfl rfl ?_
  refine o_bipush X hx 7 (16 : Int32) (hb hby d_prog_27_method_3_5) rfl rfl ?_
  refine o_icmpF X hx 10 (hb hby d_prog_27_method_3_7) rfl (by decide : (14 : Int32) < (16 : Int32)) ?_
  refine o_aloadN X hx 11 (hb hby d_prog_27_method_3_10) rfl rfl rfl ?_
  refine o_iloadN X hx 12 (hb hby d_prog_27_method_3_11) rfl rfl ?_
  refine o_iload X hx 14 (hb hby d_prog_27_method_3_12) rfl rfl ?_
  refine o_iadd X hx 15 (hb hby d_prog_27_method_3_14) rfl ?_
  rw [show ((1 : Int32) + (14 : Int32)) = (15 : Int32) from by decide]
  refine o_getS X hx hZ hown (host := "") (Or.inl (hw _ (List.mem_of_getElem? (i := 5) rfl))) Via.refl eT (SH.ext O.2) 18 (hb hby d_prog_27_method_3_15) rfl (fun T X eT => ?_)
  refine o_lloadN X hx 19 (hb hby d_prog_27_method_3_18) rfl rfl ?_
  refine o_iconst X hx 20 (4 : Int32) (hb hby d_prog_27_method_3_19) rfl rfl ?_
  refine o_bipush X hx 22 (15 : Int32) (hb hby d_prog_27_method_3_20) rfl rfl ?_
  refine o_iload X hx 24 (hb hby d_prog_27_method_3_22) rfl rfl ?_
  refine o_isub X hx 25 (hb hby d_prog_27_method_3_24) rfl ?_
  rw [show ((15 : Int32) - (14 : Int32)) = (1 : Int32) from by decide]
  refine o_imul X hx 26 (hb hby d_prog_27_method_3_25) rfl ?_
  rw [show ((4 : Int32) * (1 : Int32)) = (4 : Int32) from by decide]
  refine o_lushr X hx 27 (hb hby d_prog_27_method_3_26) rfl ?_
  refine o_l2i X hx 28 (hb hby d_prog_27_method_3_27) rfl ?_
  refine o_bipush X hx 30 (15 : Int32) (hb hby d_prog_27_method_3_28) rfl rfl ?_
  refine o_iand X hx 31 (hb hby d_prog_27_method_3_30) rfl ?_
  show Wout p e below _ T (mkF m 31 #[.val (.ref a1), .val (.int (1 : Int32)), .val (.long xx), .second, .val (.int (14 : Int32))] [(.int (own_d xx (4 : Int32))), (.ref hxa), (.int (15 : Int32)), (.ref a1)])
  refine o_baload X hx hZ eT (VH.ext O.2) (own_idx (own_d16 xx _).1 (own_d16 xx _).2) (v := (.int (own_hex (own_d xx (4 : Int32))))) (own_hsat (own_d16 xx _).1 (own_d16 xx _).2) 32 (hb hby d_prog_27_method_3_31) rfl ?_
  refine o_bastore X hx hZ eT Va ⟨by decide, by decide⟩ 15 rfl (Nat.le_of_ble_eq_true rfl) (vs' := [(.int f), (.int (nar .byte (own_hex (own_d xx (60 : Int32))))), (.int (nar .byte (own_hex (own_d xx (56 : Int32))))), (.int (nar .byte (own_hex (own_d xx (52 : Int32))))), (.int (nar .byte (own_hex (own_d xx (48 : Int32))))), (.int (nar .byte (own_hex (own_d xx (44 : Int32))))), (.int (nar .byte (own_hex (own_d xx (40 : Int32))))), (.int (nar .byte (own_hex (own_d xx (36 : Int32))))), (.int (nar .byte (own_hex (own_d xx (32 : Int32))))), (.int (nar .byte (own_hex (own_d xx (28 : Int32))))), (.int (nar .byte (own_hex (own_d xx (24 : Int32))))), (.int (nar .byte (own_hex (own_d xx (20 : Int32))))), (.int (nar .byte (own_hex (own_d xx (16 : Int32))))), (.int (nar .byte (own_hex (own_d xx (12 : Int32))))), (.int (nar .byte (own_hex (own_d xx (8 : Int32))))), (.int (nar .byte (own_hex (own_d xx (4 : Int32))))), (.int f), (.int f), (.int f), (.int f)]) rfl N g_a1 33 (hb hby d_prog_27_method_3_32) rfl (fun T h15 locs X eT W V' N => ?_)
  replace Z0 := Nat.le_trans Z0 (Keep.of_wr W).1
  replace K := K.wr W (Or.inl (List.mem_of_getElem? (i := 0) rfl))
  replace O := O.wr W g_a1
  replace Va := V'
  refine o_iinc X hx 36 (Ls' := #[.val (.ref a1), .val (.int (1 : Int32)), .val (.long xx), .second, .val (.int ((14 : Int32) + (1 : Int32)))]) (1 : Int32) (hb hby d_prog_27_method_3_33) rfl rfl rfl rfl ?_
  rw [show ((14 : Int32) + (1 : Int32)) = (15 : Int32) from by decide]
  refine o_goto X hx 3 (hb hby d_prog_27_method_3_36) rfl ?_
  refine o_iload X hx 5 (hb hby d_prog_27_method_3_3) rfl rfl ?_
  refine o_bipush X hx 7 (16 : Int32) (hb hby d_prog_27_method_3_5) rfl rfl ?_
  refine o_icmpF X hx 10 (hb hby d_prog_27_method_3_7) rfl (by decide : (15 : Int32) < (16 : Int32)) ?_
  refine o_aloadN X hx 11 (hb hby d_prog_27_method_3_10) rfl rfl rfl ?_
  refine o_iloadN X hx 12 (hb hby d_prog_27_method_3_11) rfl rfl ?_
  refine o_iload X hx 14 (hb hby d_prog_27_method_3_12) rfl rfl ?_
  refine o_iadd X hx 15 (hb hby d_prog_27_method_3_14) rfl ?_
  rw [show ((1 : Int32) + (15 : Int32)) = (16 : Int32) from by decide]
  refine o_getS X hx hZ hown (host := "") (Or.inl (hw _ (List.mem_of_getElem? (i := 5) rfl))) Via.refl eT (SH.ext O.2) 18 (hb hby d_prog_27_method_3_15) rfl (fun T X eT => ?_)
  refine o_lloadN X hx 19 (hb hby d_prog_27_method_3_18) rfl rfl ?_
  refine o_iconst X hx 20 (4 : Int32) (hb hby d_prog_27_method_3_19) rfl rfl ?_
  refine o_bipush X hx 22 (15 : Int32) (hb hby d_prog_27_method_3_20) rfl rfl ?_
  refine o_iload X hx 24 (hb hby d_prog_27_method_3_22) rfl rfl ?_
  refine o_isub X hx 25 (hb hby d_prog_27_method_3_24) rfl ?_
  rw [show ((15 : Int32) - (15 : Int32)) = (0 : Int32) from by decide]
  refine o_imul X hx 26 (hb hby d_prog_27_method_3_25) rfl ?_
  rw [show ((4 : Int32) * (0 : Int32)) = (0 : Int32) from by decide]
  refine o_lushr X hx 27 (hb hby d_prog_27_method_3_26) rfl ?_
  refine o_l2i X hx 28 (hb hby d_prog_27_method_3_27) rfl ?_
  refine o_bipush X hx 30 (15 : Int32) (hb hby d_prog_27_method_3_28) rfl rfl ?_
  refine o_iand X hx 31 (hb hby d_prog_27_method_3_30) rfl ?_
  show Wout p e below _ T (mkF m 31 #[.val (.ref a1), .val (.int (1 : Int32)), .val (.long xx), .second, .val (.int (15 : Int32))] [(.int (own_d xx (0 : Int32))), (.ref hxa), (.int (16 : Int32)), (.ref a1)])
  refine o_baload X hx hZ eT (VH.ext O.2) (own_idx (own_d16 xx _).1 (own_d16 xx _).2) (v := (.int (own_hex (own_d xx (0 : Int32))))) (own_hsat (own_d16 xx _).1 (own_d16 xx _).2) 32 (hb hby d_prog_27_method_3_31) rfl ?_
  refine o_bastore X hx hZ eT Va ⟨by decide, by decide⟩ 16 rfl (Nat.le_of_ble_eq_true rfl) (vs' := [(.int f), (.int (nar .byte (own_hex (own_d xx (60 : Int32))))), (.int (nar .byte (own_hex (own_d xx (56 : Int32))))), (.int (nar .byte (own_hex (own_d xx (52 : Int32))))), (.int (nar .byte (own_hex (own_d xx (48 : Int32))))), (.int (nar .byte (own_hex (own_d xx (44 : Int32))))), (.int (nar .byte (own_hex (own_d xx (40 : Int32))))), (.int (nar .byte (own_hex (own_d xx (36 : Int32))))), (.int (nar .byte (own_hex (own_d xx (32 : Int32))))), (.int (nar .byte (own_hex (own_d xx (28 : Int32))))), (.int (nar .byte (own_hex (own_d xx (24 : Int32))))), (.int (nar .byte (own_hex (own_d xx (20 : Int32))))), (.int (nar .byte (own_hex (own_d xx (16 : Int32))))), (.int (nar .byte (own_hex (own_d xx (12 : Int32))))), (.int (nar .byte (own_hex (own_d xx (8 : Int32))))), (.int (nar .byte (own_hex (own_d xx (4 : Int32))))), (.int (nar .byte (own_hex (own_d xx (0 : Int32))))), (.int f), (.int f), (.int f)]) rfl N g_a1 33 (hb hby d_prog_27_method_3_32) rfl (fun T h16 locs X eT W V' N => ?_)
  replace Z0 := Nat.le_trans Z0 (Keep.of_wr W).1
  replace K := K.wr W (Or.inl (List.mem_of_getElem? (i := 0) rfl))
  replace O := O.wr W g_a1
  replace Va := V'
  refine o_iinc X hx 36 (Ls' := #[.val (.ref a1), .val (.int (1 : Int32)), .val (.long xx), .second, .val (.int ((15 : Int32) + (1 : Int32)))]) (1 : Int32) (hb hby d_prog_27_method_3_33) rfl rfl rfl rfl ?_
  rw [show ((15 : Int32) + (1 : Int32)) = (16 : Int32) from by decide]
  refine o_goto X hx 3 (hb hby d_prog_27_method_3_36) rfl ?_
  refine o_iload X hx 5 (hb hby d_prog_27_method_3_3) rfl rfl ?_
  refine o_bipush X hx 7 (16 : Int32) (hb hby d_prog_27_method_3_5) rfl rfl ?_
  refine o_icmpT X hx 39 (hb hby d_prog_27_method_3_7) rfl (by decide : ¬ (16 : Int32) < (16 : Int32)) ?_
  refine o_aloadN X hx 40 (hb hby d_prog_27_method_3_39) rfl rfl rfl ?_
  refine o_iloadN X hx 41 (hb hby d_prog_27_method_3_40) rfl rfl ?_
  refine o_bipush X hx 43 (16 : Int32) (hb hby d_prog_27_method_3_41) rfl rfl ?_
  refine o_iadd X hx 44 (hb hby d_prog_27_method_3_43) rfl ?_
  rw [show ((1 : Int32) + (16 : Int32)) = (17 : Int32) from by decide]
  refine o_bipush X hx 46 (45 : Int32) (hb hby d_prog_27_method_3_44) rfl rfl ?_
  refine o_bastore X hx hZ eT Va ⟨by decide, by decide⟩ 17 rfl (Nat.le_of_ble_eq_true rfl) (vs' := [(.int f), (.int (nar .byte (own_hex (own_d xx (60 : Int32))))), (.int (nar .byte (own_hex (own_d xx (56 : Int32))))), (.int (nar .byte (own_hex (own_d xx (52 : Int32))))), (.int (nar .byte (own_hex (own_d xx (48 : Int32))))), (.int (nar .byte (own_hex (own_d xx (44 : Int32))))), (.int (nar .byte (own_hex (own_d xx (40 : Int32))))), (.int (nar .byte (own_hex (own_d xx (36 : Int32))))), (.int (nar .byte (own_hex (own_d xx (32 : Int32))))), (.int (nar .byte (own_hex (own_d xx (28 : Int32))))), (.int (nar .byte (own_hex (own_d xx (24 : Int32))))), (.int (nar .byte (own_hex (own_d xx (20 : Int32))))), (.int (nar .byte (own_hex (own_d xx (16 : Int32))))), (.int (nar .byte (own_hex (own_d xx (12 : Int32))))), (.int (nar .byte (own_hex (own_d xx (8 : Int32))))), (.int (nar .byte (own_hex (own_d xx (4 : Int32))))), (.int (nar .byte (own_hex (own_d xx (0 : Int32))))), (.int (nar .byte (45 : Int32))), (.int f), (.int f)]) rfl N g_a1 47 (hb hby d_prog_27_method_3_46) rfl (fun T h17 locs X eT W V' N => ?_)
  replace Z0 := Nat.le_trans Z0 (Keep.of_wr W).1
  replace K := K.wr W (Or.inl (List.mem_of_getElem? (i := 0) rfl))
  replace O := O.wr W g_a1
  replace Va := V'
  exact o_retV X hx hlk hret (hb hby d_prog_27_method_3_47) (by decide) (by decide) (by rw [eT]; exact ⟨rfl, N, K, Va⟩)
def Q_wl2 (Z : State) (a1 hxa : Addr) (k1 kh : ClassId) (xx : Int64) (f : Int32) (h0 : Heap) (n0 : Nat) (v : Option Value) (h : Heap) (L : List Loc) : Prop := v = none ∧ Fr n0 L ∧ Keep h0 h [a1] ∧ Arv Z h a1 k1 .byte 20 [(.int f), (.int f), (.int (nar .byte (own_hex (own_d xx (60 : Int32))))), (.int (nar .byte (own_hex (own_d xx (56 : Int32))))), (.int (nar .byte (own_hex (own_d xx (52 : Int32))))), (.int (nar .byte (own_hex (own_d xx (48 : Int32))))), (.int (nar .byte (own_hex (own_d xx (44 : Int32))))), (.int (nar .byte (own_hex (own_d xx (40 : Int32))))), (.int (nar .byte (own_hex (own_d xx (36 : Int32))))), (.int (nar .byte (own_hex (own_d xx (32 : Int32))))), (.int (nar .byte (own_hex (own_d xx (28 : Int32))))), (.int (nar .byte (own_hex (own_d xx (24 : Int32))))), (.int (nar .byte (own_hex (own_d xx (20 : Int32))))), (.int (nar .byte (own_hex (own_d xx (16 : Int32))))), (.int (nar .byte (own_hex (own_d xx (12 : Int32))))), (.int (nar .byte (own_hex (own_d xx (8 : Int32))))), (.int (nar .byte (own_hex (own_d xx (4 : Int32))))), (.int (nar .byte (own_hex (own_d xx (0 : Int32))))), (.int (nar .byte (45 : Int32))), (.int f)] (.int 0)
set_option maxRecDepth 65536 in
set_option maxHeartbeats 40000000 in
theorem rm_wl2 (l : Launch) (Z : State) (a0 : Array Value) (hw : ∀ d ∈ tables_1, d.before a0 Z = true) (ws : List Jvm.Cond) (a1 hxa : Addr) (k1 kh : ClassId) (xx : Int64) (f : Int32) (h0 : Heap) (n0 : Nat) (Z0 : n0 ≤ h0.size) (O : Old Z n0 h0) (SH : Sta Z Z.heap "com/example/tidewater/tidewater/format/Pos" "HEX" "[B" (.ref hxa)) (VH : Arv Z Z.heap hxa kh .byte 16 own_hs (.int 0)) (Va : Arv Z h0 a1 k1 .byte 20 [(.int f), (.int f), (.int f), (.int f), (.int f), (.int f), (.int f), (.int f), (.int f), (.int f), (.int f), (.int f), (.int f), (.int f), (.int f), (.int f), (.int f), (.int f), (.int f), (.int f)] (.int 0)) (g_a1 : n0 ≤ a1) :
    Met l Z (⟨"com/example/tidewater/tidewater/format/Pos", "writeLsn", "([BIJ)V"⟩ : MethodName) prog_27_method_3_code 5 none ws ({ frames := 0, cells := 0, slots := 0, locals := 0 } : Room) #[(.ref a1), (.int (2 : Int32)), (.long xx)] h0 (Q_wl2 Z a1 hxa k1 kh xx f h0 n0) := by
  refine Met.start (plainFor_of_name pn_0) ?_
  intro p e s m below meth c T X hx hby hml hown hnm hret hlk hZ eT
  have N := Fr.nil n0
  have K := Keep.refl h0 [a1]
  refine Wout.cast (g' := (mkF m 0 #[.val (.ref a1), .val (.int (2 : Int32)), .val (.long xx), .second, .unset] [])) (by first | rfl | (simp [entryFrame, mkF, argsToLocals, Value.category]; done)) ?_
  refine o_iconst X hx 1 (0 : Int32) (hb hby d_prog_27_method_3_0) rfl rfl ?_
  refine o_istore X hx 3 (Ls' := #[.val (.ref a1), .val (.int (2 : Int32)), .val (.long xx), .second, .val (.int (0 : Int32))]) (hb hby d_prog_27_method_3_1) rfl rfl ?_
  refine o_iload X hx 5 (hb hby d_prog_27_method_3_3) rfl rfl ?_
  refine o_bipush X hx 7 (16 : Int32) (hb hby d_prog_27_method_3_5) rfl rfl ?_
  refine o_icmpF X hx 10 (hb hby d_prog_27_method_3_7) rfl (by decide : (0 : Int32) < (16 : Int32)) ?_
  refine o_aloadN X hx 11 (hb hby d_prog_27_method_3_10) rfl rfl rfl ?_
  refine o_iloadN X hx 12 (hb hby d_prog_27_method_3_11) rfl rfl ?_
  refine o_iload X hx 14 (hb hby d_prog_27_method_3_12) rfl rfl ?_
  refine o_iadd X hx 15 (hb hby d_prog_27_method_3_14) rfl ?_
  rw [show ((2 : Int32) + (0 : Int32)) = (2 : Int32) from by decide]
  refine o_getS X hx hZ hown (host := "") (Or.inl (hw _ (List.mem_of_getElem? (i := 5) rfl))) Via.refl eT (SH.ext O.2) 18 (hb hby d_prog_27_method_3_15) rfl (fun T X eT => ?_)
  refine o_lloadN X hx 19 (hb hby d_prog_27_method_3_18) rfl rfl ?_
  refine o_iconst X hx 20 (4 : Int32) (hb hby d_prog_27_method_3_19) rfl rfl ?_
  refine o_bipush X hx 22 (15 : Int32) (hb hby d_prog_27_method_3_20) rfl rfl ?_
  refine o_iload X hx 24 (hb hby d_prog_27_method_3_22) rfl rfl ?_
  refine o_isub X hx 25 (hb hby d_prog_27_method_3_24) rfl ?_
  rw [show ((15 : Int32) - (0 : Int32)) = (15 : Int32) from by decide]
  refine o_imul X hx 26 (hb hby d_prog_27_method_3_25) rfl ?_
  rw [show ((4 : Int32) * (15 : Int32)) = (60 : Int32) from by decide]
  refine o_lushr X hx 27 (hb hby d_prog_27_method_3_26) rfl ?_
  refine o_l2i X hx 28 (hb hby d_prog_27_method_3_27) rfl ?_
  refine o_bipush X hx 30 (15 : Int32) (hb hby d_prog_27_method_3_28) rfl rfl ?_
  refine o_iand X hx 31 (hb hby d_prog_27_method_3_30) rfl ?_
  show Wout p e below _ T (mkF m 31 #[.val (.ref a1), .val (.int (2 : Int32)), .val (.long xx), .second, .val (.int (0 : Int32))] [(.int (own_d xx (60 : Int32))), (.ref hxa), (.int (2 : Int32)), (.ref a1)])
  refine o_baload X hx hZ eT (VH.ext O.2) (own_idx (own_d16 xx _).1 (own_d16 xx _).2) (v := (.int (own_hex (own_d xx (60 : Int32))))) (own_hsat (own_d16 xx _).1 (own_d16 xx _).2) 32 (hb hby d_prog_27_method_3_31) rfl ?_
  refine o_bastore X hx hZ eT Va ⟨by decide, by decide⟩ 2 rfl (Nat.le_of_ble_eq_true rfl) (vs' := [(.int f), (.int f), (.int (nar .byte (own_hex (own_d xx (60 : Int32))))), (.int f), (.int f), (.int f), (.int f), (.int f), (.int f), (.int f), (.int f), (.int f), (.int f), (.int f), (.int f), (.int f), (.int f), (.int f), (.int f), (.int f)]) rfl N g_a1 33 (hb hby d_prog_27_method_3_32) rfl (fun T h1 locs X eT W V' N => ?_)
  replace Z0 := Nat.le_trans Z0 (Keep.of_wr W).1
  replace K := K.wr W (Or.inl (List.mem_of_getElem? (i := 0) rfl))
  replace O := O.wr W g_a1
  replace Va := V'
  refine o_iinc X hx 36 (Ls' := #[.val (.ref a1), .val (.int (2 : Int32)), .val (.long xx), .second, .val (.int ((0 : Int32) + (1 : Int32)))]) (1 : Int32) (hb hby d_prog_27_method_3_33) rfl rfl rfl rfl ?_
  rw [show ((0 : Int32) + (1 : Int32)) = (1 : Int32) from by decide]
  refine o_goto X hx 3 (hb hby d_prog_27_method_3_36) rfl ?_
  refine o_iload X hx 5 (hb hby d_prog_27_method_3_3) rfl rfl ?_
  refine o_bipush X hx 7 (16 : Int32) (hb hby d_prog_27_method_3_5) rfl rfl ?_
  refine o_icmpF X hx 10 (hb hby d_prog_27_method_3_7) rfl (by decide : (1 : Int32) < (16 : Int32)) ?_
  refine o_aloadN X hx 11 (hb hby d_prog_27_method_3_10) rfl rfl rfl ?_
  refine o_iloadN X hx 12 (hb hby d_prog_27_method_3_11) rfl rfl ?_
  refine o_iload X hx 14 (hb hby d_prog_27_method_3_12) rfl rfl ?_
  refine o_iadd X hx 15 (hb hby d_prog_27_method_3_14) rfl ?_
  rw [show ((2 : Int32) + (1 : Int32)) = (3 : Int32) from by decide]
  refine o_getS X hx hZ hown (host := "") (Or.inl (hw _ (List.mem_of_getElem? (i := 5) rfl))) Via.refl eT (SH.ext O.2) 18 (hb hby d_prog_27_method_3_15) rfl (fun T X eT => ?_)
  refine o_lloadN X hx 19 (hb hby d_prog_27_method_3_18) rfl rfl ?_
  refine o_iconst X hx 20 (4 : Int32) (hb hby d_prog_27_method_3_19) rfl rfl ?_
  refine o_bipush X hx 22 (15 : Int32) (hb hby d_prog_27_method_3_20) rfl rfl ?_
  refine o_iload X hx 24 (hb hby d_prog_27_method_3_22) rfl rfl ?_
  refine o_isub X hx 25 (hb hby d_prog_27_method_3_24) rfl ?_
  rw [show ((15 : Int32) - (1 : Int32)) = (14 : Int32) from by decide]
  refine o_imul X hx 26 (hb hby d_prog_27_method_3_25) rfl ?_
  rw [show ((4 : Int32) * (14 : Int32)) = (56 : Int32) from by decide]
  refine o_lushr X hx 27 (hb hby d_prog_27_method_3_26) rfl ?_
  refine o_l2i X hx 28 (hb hby d_prog_27_method_3_27) rfl ?_
  refine o_bipush X hx 30 (15 : Int32) (hb hby d_prog_27_method_3_28) rfl rfl ?_
  refine o_iand X hx 31 (hb hby d_prog_27_method_3_30) rfl ?_
  show Wout p e below _ T (mkF m 31 #[.val (.ref a1), .val (.int (2 : Int32)), .val (.long xx), .second, .val (.int (1 : Int32))] [(.int (own_d xx (56 : Int32))), (.ref hxa), (.int (3 : Int32)), (.ref a1)])
  refine o_baload X hx hZ eT (VH.ext O.2) (own_idx (own_d16 xx _).1 (own_d16 xx _).2) (v := (.int (own_hex (own_d xx (56 : Int32))))) (own_hsat (own_d16 xx _).1 (own_d16 xx _).2) 32 (hb hby d_prog_27_method_3_31) rfl ?_
  refine o_bastore X hx hZ eT Va ⟨by decide, by decide⟩ 3 rfl (Nat.le_of_ble_eq_true rfl) (vs' := [(.int f), (.int f), (.int (nar .byte (own_hex (own_d xx (60 : Int32))))), (.int (nar .byte (own_hex (own_d xx (56 : Int32))))), (.int f), (.int f), (.int f), (.int f), (.int f), (.int f), (.int f), (.int f), (.int f), (.int f), (.int f), (.int f), (.int f), (.int f), (.int f), (.int f)]) rfl N g_a1 33 (hb hby d_prog_27_method_3_32) rfl (fun T h2 locs X eT W V' N => ?_)
  replace Z0 := Nat.le_trans Z0 (Keep.of_wr W).1
  replace K := K.wr W (Or.inl (List.mem_of_getElem? (i := 0) rfl))
  replace O := O.wr W g_a1
  replace Va := V'
  refine o_iinc X hx 36 (Ls' := #[.val (.ref a1), .val (.int (2 : Int32)), .val (.long xx), .second, .val (.int ((1 : Int32) + (1 : Int32)))]) (1 : Int32) (hb hby d_prog_27_method_3_33) rfl rfl rfl rfl ?_
  rw [show ((1 : Int32) + (1 : Int32)) = (2 : Int32) from by decide]
  refine o_goto X hx 3 (hb hby d_prog_27_method_3_36) rfl ?_
  refine o_iload X hx 5 (hb hby d_prog_27_method_3_3) rfl rfl ?_
  refine o_bipush X hx 7 (16 : Int32) (hb hby d_prog_27_method_3_5) rfl rfl ?_
  refine o_icmpF X hx 10 (hb hby d_prog_27_method_3_7) rfl (by decide : (2 : Int32) < (16 : Int32)) ?_
  refine o_aloadN X hx 11 (hb hby d_prog_27_method_3_10) rfl rfl rfl ?_
  refine o_iloadN X hx 12 (hb hby d_prog_27_method_3_11) rfl rfl ?_
  refine o_iload X hx 14 (hb hby d_prog_27_method_3_12) rfl rfl ?_
  refine o_iadd X hx 15 (hb hby d_prog_27_method_3_14) rfl ?_
  rw [show ((2 : Int32) + (2 : Int32)) = (4 : Int32) from by decide]
  refine o_getS X hx hZ hown (host := "") (Or.inl (hw _ (List.mem_of_getElem? (i := 5) rfl))) Via.refl eT (SH.ext O.2) 18 (hb hby d_prog_27_method_3_15) rfl (fun T X eT => ?_)
  refine o_lloadN X hx 19 (hb hby d_prog_27_method_3_18) rfl rfl ?_
  refine o_iconst X hx 20 (4 : Int32) (hb hby d_prog_27_method_3_19) rfl rfl ?_
  refine o_bipush X hx 22 (15 : Int32) (hb hby d_prog_27_method_3_20) rfl rfl ?_
  refine o_iload X hx 24 (hb hby d_prog_27_method_3_22) rfl rfl ?_
  refine o_isub X hx 25 (hb hby d_prog_27_method_3_24) rfl ?_
  rw [show ((15 : Int32) - (2 : Int32)) = (13 : Int32) from by decide]
  refine o_imul X hx 26 (hb hby d_prog_27_method_3_25) rfl ?_
  rw [show ((4 : Int32) * (13 : Int32)) = (52 : Int32) from by decide]
  refine o_lushr X hx 27 (hb hby d_prog_27_method_3_26) rfl ?_
  refine o_l2i X hx 28 (hb hby d_prog_27_method_3_27) rfl ?_
  refine o_bipush X hx 30 (15 : Int32) (hb hby d_prog_27_method_3_28) rfl rfl ?_
  refine o_iand X hx 31 (hb hby d_prog_27_method_3_30) rfl ?_
  show Wout p e below _ T (mkF m 31 #[.val (.ref a1), .val (.int (2 : Int32)), .val (.long xx), .second, .val (.int (2 : Int32))] [(.int (own_d xx (52 : Int32))), (.ref hxa), (.int (4 : Int32)), (.ref a1)])
  refine o_baload X hx hZ eT (VH.ext O.2) (own_idx (own_d16 xx _).1 (own_d16 xx _).2) (v := (.int (own_hex (own_d xx (52 : Int32))))) (own_hsat (own_d16 xx _).1 (own_d16 xx _).2) 32 (hb hby d_prog_27_method_3_31) rfl ?_
  refine o_bastore X hx hZ eT Va ⟨by decide, by decide⟩ 4 rfl (Nat.le_of_ble_eq_true rfl) (vs' := [(.int f), (.int f), (.int (nar .byte (own_hex (own_d xx (60 : Int32))))), (.int (nar .byte (own_hex (own_d xx (56 : Int32))))), (.int (nar .byte (own_hex (own_d xx (52 : Int32))))), (.int f), (.int f), (.int f), (.int f), (.int f), (.int f), (.int f), (.int f), (.int f), (.int f), (.int f), (.int f), (.int f), (.int f), (.int f)]) rfl N g_a1 33 (hb hby d_prog_27_method_3_32) rfl (fun T h3 locs X eT W V' N => ?_)
  replace Z0 := Nat.le_trans Z0 (Keep.of_wr W).1
  replace K := K.wr W (Or.inl (List.mem_of_getElem? (i := 0) rfl))
  replace O := O.wr W g_a1
  replace Va := V'
  refine o_iinc X hx 36 (Ls' := #[.val (.ref a1), .val (.int (2 : Int32)), .val (.long xx), .second, .val (.int ((2 : Int32) + (1 : Int32)))]) (1 : Int32) (hb hby d_prog_27_method_3_33) rfl rfl rfl rfl ?_
  rw [show ((2 : Int32) + (1 : Int32)) = (3 : Int32) from by decide]
  refine o_goto X hx 3 (hb hby d_prog_27_method_3_36) rfl ?_
  refine o_iload X hx 5 (hb hby d_prog_27_method_3_3) rfl rfl ?_
  refine o_bipush X hx 7 (16 : Int32) (hb hby d_prog_27_method_3_5) rfl rfl ?_
  refine o_icmpF X hx 10 (hb hby d_prog_27_method_3_7) rfl (by decide : (3 : Int32) < (16 : Int32)) ?_
  refine o_aloadN X hx 11 (hb hby d_prog_27_method_3_10) rfl rfl rfl ?_
  refine o_iloadN X hx 12 (hb hby d_prog_27_method_3_11) rfl rfl ?_
  refine o_iload X hx 14 (hb hby d_prog_27_method_3_12) rfl rfl ?_
  refine o_iadd X hx 15 (hb hby d_prog_27_method_3_14) rfl ?_
  rw [show ((2 : Int32) + (3 : Int32)) = (5 : Int32) from by decide]
  refine o_getS X hx hZ hown (host := "") (Or.inl (hw _ (List.mem_of_getElem? (i := 5) rfl))) Via.refl eT (SH.ext O.2) 18 (hb hby d_prog_27_method_3_15) rfl (fun T X eT => ?_)
  refine o_lloadN X hx 19 (hb hby d_prog_27_method_3_18) rfl rfl ?_
  refine o_iconst X hx 20 (4 : Int32) (hb hby d_prog_27_method_3_19) rfl rfl ?_
  refine o_bipush X hx 22 (15 : Int32) (hb hby d_prog_27_method_3_20) rfl rfl ?_
  refine o_iload X hx 24 (hb hby d_prog_27_method_3_22) rfl rfl ?_
  refine o_isub X hx 25 (hb hby d_prog_27_method_3_24) rfl ?_
  rw [show ((15 : Int32) - (3 : Int32)) = (12 : Int32) from by decide]
  refine o_imul X hx 26 (hb hby d_prog_27_method_3_25) rfl ?_
  rw [show ((4 : Int32) * (12 : Int32)) = (48 : Int32) from by decide]
  refine o_lushr X hx 27 (hb hby d_prog_27_method_3_26) rfl ?_
  refine o_l2i X hx 28 (hb hby d_prog_27_method_3_27) rfl ?_
  refine o_bipush X hx 30 (15 : Int32) (hb hby d_prog_27_method_3_28) rfl rfl ?_
  refine o_iand X hx 31 (hb hby d_prog_27_method_3_30) rfl ?_
  show Wout p e below _ T (mkF m 31 #[.val (.ref a1), .val (.int (2 : Int32)), .val (.long xx), .second, .val (.int (3 : Int32))] [(.int (own_d xx (48 : Int32))), (.ref hxa), (.int (5 : Int32)), (.ref a1)])
  refine o_baload X hx hZ eT (VH.ext O.2) (own_idx (own_d16 xx _).1 (own_d16 xx _).2) (v := (.int (own_hex (own_d xx (48 : Int32))))) (own_hsat (own_d16 xx _).1 (own_d16 xx _).2) 32 (hb hby d_prog_27_method_3_31) rfl ?_
  refine o_bastore X hx hZ eT Va ⟨by decide, by decide⟩ 5 rfl (Nat.le_of_ble_eq_true rfl) (vs' := [(.int f), (.int f), (.int (nar .byte (own_hex (own_d xx (60 : Int32))))), (.int (nar .byte (own_hex (own_d xx (56 : Int32))))), (.int (nar .byte (own_hex (own_d xx (52 : Int32))))), (.int (nar .byte (own_hex (own_d xx (48 : Int32))))), (.int f), (.int f), (.int f), (.int f), (.int f), (.int f), (.int f), (.int f), (.int f), (.int f), (.int f), (.int f), (.int f), (.int f)]) rfl N g_a1 33 (hb hby d_prog_27_method_3_32) rfl (fun T h4 locs X eT W V' N => ?_)
  replace Z0 := Nat.le_trans Z0 (Keep.of_wr W).1
  replace K := K.wr W (Or.inl (List.mem_of_getElem? (i := 0) rfl))
  replace O := O.wr W g_a1
  replace Va := V'
  refine o_iinc X hx 36 (Ls' := #[.val (.ref a1), .val (.int (2 : Int32)), .val (.long xx), .second, .val (.int ((3 : Int32) + (1 : Int32)))]) (1 : Int32) (hb hby d_prog_27_method_3_33) rfl rfl rfl rfl ?_
  rw [show ((3 : Int32) + (1 : Int32)) = (4 : Int32) from by decide]
  refine o_goto X hx 3 (hb hby d_prog_27_method_3_36) rfl ?_
  refine o_iload X hx 5 (hb hby d_prog_27_method_3_3) rfl rfl ?_
  refine o_bipush X hx 7 (16 : Int32) (hb hby d_prog_27_method_3_5) rfl rfl ?_
  refine o_icmpF X hx 10 (hb hby d_prog_27_method_3_7) rfl (by decide : (4 : Int32) < (16 : Int32)) ?_
  refine o_aloadN X hx 11 (hb hby d_prog_27_method_3_10) rfl rfl rfl ?_
  refine o_iloadN X hx 12 (hb hby d_prog_27_method_3_11) rfl rfl ?_
  refine o_iload X hx 14 (hb hby d_prog_27_method_3_12) rfl rfl ?_
  refine o_iadd X hx 15 (hb hby d_prog_27_method_3_14) rfl ?_
  rw [show ((2 : Int32) + (4 : Int32)) = (6 : Int32) from by decide]
  refine o_getS X hx hZ hown (host := "") (Or.inl (hw _ (List.mem_of_getElem? (i := 5) rfl))) Via.refl eT (SH.ext O.2) 18 (hb hby d_prog_27_method_3_15) rfl (fun T X eT => ?_)
  refine o_lloadN X hx 19 (hb hby d_prog_27_method_3_18) rfl rfl ?_
  refine o_iconst X hx 20 (4 : Int32) (hb hby d_prog_27_method_3_19) rfl rfl ?_
  refine o_bipush X hx 22 (15 : Int32) (hb hby d_prog_27_method_3_20) rfl rfl ?_
  refine o_iload X hx 24 (hb hby d_prog_27_method_3_22) rfl rfl ?_
  refine o_isub X hx 25 (hb hby d_prog_27_method_3_24) rfl ?_
  rw [show ((15 : Int32) - (4 : Int32)) = (11 : Int32) from by decide]
  refine o_imul X hx 26 (hb hby d_prog_27_method_3_25) rfl ?_
  rw [show ((4 : Int32) * (11 : Int32)) = (44 : Int32) from by decide]
  refine o_lushr X hx 27 (hb hby d_prog_27_method_3_26) rfl ?_
  refine o_l2i X hx 28 (hb hby d_prog_27_method_3_27) rfl ?_
  refine o_bipush X hx 30 (15 : Int32) (hb hby d_prog_27_method_3_28) rfl rfl ?_
  refine o_iand X hx 31 (hb hby d_prog_27_method_3_30) rfl ?_
  show Wout p e below _ T (mkF m 31 #[.val (.ref a1), .val (.int (2 : Int32)), .val (.long xx), .second, .val (.int (4 : Int32))] [(.int (own_d xx (44 : Int32))), (.ref hxa), (.int (6 : Int32)), (.ref a1)])
  refine o_baload X hx hZ eT (VH.ext O.2) (own_idx (own_d16 xx _).1 (own_d16 xx _).2) (v := (.int (own_hex (own_d xx (44 : Int32))))) (own_hsat (own_d16 xx _).1 (own_d16 xx _).2) 32 (hb hby d_prog_27_method_3_31) rfl ?_
  refine o_bastore X hx hZ eT Va ⟨by decide, by decide⟩ 6 rfl (Nat.le_of_ble_eq_true rfl) (vs' := [(.int f), (.int f), (.int (nar .byte (own_hex (own_d xx (60 : Int32))))), (.int (nar .byte (own_hex (own_d xx (56 : Int32))))), (.int (nar .byte (own_hex (own_d xx (52 : Int32))))), (.int (nar .byte (own_hex (own_d xx (48 : Int32))))), (.int (nar .byte (own_hex (own_d xx (44 : Int32))))), (.int f), (.int f), (.int f), (.int f), (.int f), (.int f), (.int f), (.int f), (.int f), (.int f), (.int f), (.int f), (.int f)]) rfl N g_a1 33 (hb hby d_prog_27_method_3_32) rfl (fun T h5 locs X eT W V' N => ?_)
  replace Z0 := Nat.le_trans Z0 (Keep.of_wr W).1
  replace K := K.wr W (Or.inl (List.mem_of_getElem? (i := 0) rfl))
  replace O := O.wr W g_a1
  replace Va := V'
  refine o_iinc X hx 36 (Ls' := #[.val (.ref a1), .val (.int (2 : Int32)), .val (.long xx), .second, .val (.int ((4 : Int32) + (1 : Int32)))]) (1 : Int32) (hb hby d_prog_27_method_3_33) rfl rfl rfl rfl ?_
  rw [show ((4 : Int32) + (1 : Int32)) = (5 : Int32) from by decide]
  refine o_goto X hx 3 (hb hby d_prog_27_method_3_36) rfl ?_
  refine o_iload X hx 5 (hb hby d_prog_27_method_3_3) rfl rfl ?_
  refine o_bipush X hx 7 (16 : Int32) (hb hby d_prog_27_method_3_5) rfl rfl ?_
  refine o_icmpF X hx 10 (hb hby d_prog_27_method_3_7) rfl (by decide : (5 : Int32) < (16 : Int32)) ?_
  refine o_aloadN X hx 11 (hb hby d_prog_27_method_3_10) rfl rfl rfl ?_
  refine o_iloadN X hx 12 (hb hby d_prog_27_method_3_11) rfl rfl ?_
  refine o_iload X hx 14 (hb hby d_prog_27_method_3_12) rfl rfl ?_
  refine o_iadd X hx 15 (hb hby d_prog_27_method_3_14) rfl ?_
  rw [show ((2 : Int32) + (5 : Int32)) = (7 : Int32) from by decide]
  refine o_getS X hx hZ hown (host := "") (Or.inl (hw _ (List.mem_of_getElem? (i := 5) rfl))) Via.refl eT (SH.ext O.2) 18 (hb hby d_prog_27_method_3_15) rfl (fun T X eT => ?_)
  refine o_lloadN X hx 19 (hb hby d_prog_27_method_3_18) rfl rfl ?_
  refine o_iconst X hx 20 (4 : Int32) (hb hby d_prog_27_method_3_19) rfl rfl ?_
  refine o_bipush X hx 22 (15 : Int32) (hb hby d_prog_27_method_3_20) rfl rfl ?_
  refine o_iload X hx 24 (hb hby d_prog_27_method_3_22) rfl rfl ?_
  refine o_isub X hx 25 (hb hby d_prog_27_method_3_24) rfl ?_
  rw [show ((15 : Int32) - (5 : Int32)) = (10 : Int32) from by decide]
  refine o_imul X hx 26 (hb hby d_prog_27_method_3_25) rfl ?_
  rw [show ((4 : Int32) * (10 : Int32)) = (40 : Int32) from by decide]
  refine o_lushr X hx 27 (hb hby d_prog_27_method_3_26) rfl ?_
  refine o_l2i X hx 28 (hb hby d_prog_27_method_3_27) rfl ?_
  refine o_bipush X hx 30 (15 : Int32) (hb hby d_prog_27_method_3_28) rfl rfl ?_
  refine o_iand X hx 31 (hb hby d_prog_27_method_3_30) rfl ?_
  show Wout p e below _ T (mkF m 31 #[.val (.ref a1), .val (.int (2 : Int32)), .val (.long xx), .second, .val (.int (5 : Int32))] [(.int (own_d xx (40 : Int32))), (.ref hxa), (.int (7 : Int32)), (.ref a1)])
  refine o_baload X hx hZ eT (VH.ext O.2) (own_idx (own_d16 xx _).1 (own_d16 xx _).2) (v := (.int (own_hex (own_d xx (40 : Int32))))) (own_hsat (own_d16 xx _).1 (own_d16 xx _).2) 32 (hb hby d_prog_27_method_3_31) rfl ?_
  refine o_bastore X hx hZ eT Va ⟨by decide, by decide⟩ 7 rfl (Nat.le_of_ble_eq_true rfl) (vs' := [(.int f), (.int f), (.int (nar .byte (own_hex (own_d xx (60 : Int32))))), (.int (nar .byte (own_hex (own_d xx (56 : Int32))))), (.int (nar .byte (own_hex (own_d xx (52 : Int32))))), (.int (nar .byte (own_hex (own_d xx (48 : Int32))))), (.int (nar .byte (own_hex (own_d xx (44 : Int32))))), (.int (nar .byte (own_hex (own_d xx (40 : Int32))))), (.int f), (.int f), (.int f), (.int f), (.int f), (.int f), (.int f), (.int f), (.int f), (.int f), (.int f), (.int f)]) rfl N g_a1 33 (hb hby d_prog_27_method_3_32) rfl (fun T h6 locs X eT W V' N => ?_)
  replace Z0 := Nat.le_trans Z0 (Keep.of_wr W).1
  replace K := K.wr W (Or.inl (List.mem_of_getElem? (i := 0) rfl))
  replace O := O.wr W g_a1
  replace Va := V'
  refine o_iinc X hx 36 (Ls' := #[.val (.ref a1), .val (.int (2 : Int32)), .val (.long xx), .second, .val (.int ((5 : Int32) + (1 : Int32)))]) (1 : Int32) (hb hby d_prog_27_method_3_33) rfl rfl rfl rfl ?_
  rw [show ((5 : Int32) + (1 : Int32)) = (6 : Int32) from by decide]
  refine o_goto X hx 3 (hb hby d_prog_27_method_3_36) rfl ?_
  refine o_iload X hx 5 (hb hby d_prog_27_method_3_3) rfl rfl ?_
  refine o_bipush X hx 7 (16 : Int32) (hb hby d_prog_27_method_3_5) rfl rfl ?_
  refine o_icmpF X hx 10 (hb hby d_prog_27_method_3_7) rfl (by decide : (6 : Int32) < (16 : Int32)) ?_
  refine o_aloadN X hx 11 (hb hby d_prog_27_method_3_10) rfl rfl rfl ?_
  refine o_iloadN X hx 12 (hb hby d_prog_27_method_3_11) rfl rfl ?_
  refine o_iload X hx 14 (hb hby d_prog_27_method_3_12) rfl rfl ?_
  refine o_iadd X hx 15 (hb hby d_prog_27_method_3_14) rfl ?_
  rw [show ((2 : Int32) + (6 : Int32)) = (8 : Int32) from by decide]
  refine o_getS X hx hZ hown (host := "") (Or.inl (hw _ (List.mem_of_getElem? (i := 5) rfl))) Via.refl eT (SH.ext O.2) 18 (hb hby d_prog_27_method_3_15) rfl (fun T X eT => ?_)
  refine o_lloadN X hx 19 (hb hby d_prog_27_method_3_18) rfl rfl ?_
  refine o_iconst X hx 20 (4 : Int32) (hb hby d_prog_27_method_3_19) rfl rfl ?_
  refine o_bipush X hx 22 (15 : Int32) (hb hby d_prog_27_method_3_20) rfl rfl ?_
  refine o_iload X hx 24 (hb hby d_prog_27_method_3_22) rfl rfl ?_
  refine o_isub X hx 25 (hb hby d_prog_27_method_3_24) rfl ?_
  rw [show ((15 : Int32) - (6 : Int32)) = (9 : Int32) from by decide]
  refine o_imul X hx 26 (hb hby d_prog_27_method_3_25) rfl ?_
  rw [show ((4 : Int32) * (9 : Int32)) = (36 : Int32) from by decide]
  refine o_lushr X hx 27 (hb hby d_prog_27_method_3_26) rfl ?_
  refine o_l2i X hx 28 (hb hby d_prog_27_method_3_27) rfl ?_
  refine o_bipush X hx 30 (15 : Int32) (hb hby d_prog_27_method_3_28) rfl rfl ?_
  refine o_iand X hx 31 (hb hby d_prog_27_method_3_30) rfl ?_
  show Wout p e below _ T (mkF m 31 #[.val (.ref a1), .val (.int (2 : Int32)), .val (.long xx), .second, .val (.int (6 : Int32))] [(.int (own_d xx (36 : Int32))), (.ref hxa), (.int (8 : Int32)), (.ref a1)])
  refine o_baload X hx hZ eT (VH.ext O.2) (own_idx (own_d16 xx _).1 (own_d16 xx _).2) (v := (.int (own_hex (own_d xx (36 : Int32))))) (own_hsat (own_d16 xx _).1 (own_d16 xx _).2) 32 (hb hby d_prog_27_method_3_31) rfl ?_
  refine o_bastore X hx hZ eT Va ⟨by decide, by decide⟩ 8 rfl (Nat.le_of_ble_eq_true rfl) (vs' := [(.int f), (.int f), (.int (nar .byte (own_hex (own_d xx (60 : Int32))))), (.int (nar .byte (own_hex (own_d xx (56 : Int32))))), (.int (nar .byte (own_hex (own_d xx (52 : Int32))))), (.int (nar .byte (own_hex (own_d xx (48 : Int32))))), (.int (nar .byte (own_hex (own_d xx (44 : Int32))))), (.int (nar .byte (own_hex (own_d xx (40 : Int32))))), (.int (nar .byte (own_hex (own_d xx (36 : Int32))))), (.int f), (.int f), (.int f), (.int f), (.int f), (.int f), (.int f), (.int f), (.int f), (.int f), (.int f)]) rfl N g_a1 33 (hb hby d_prog_27_method_3_32) rfl (fun T h7 locs X eT W V' N => ?_)
  replace Z0 := Nat.le_trans Z0 (Keep.of_wr W).1
  replace K := K.wr W (Or.inl (List.mem_of_getElem? (i := 0) rfl))
  replace O := O.wr W g_a1
  replace Va := V'
  refine o_iinc X hx 36 (Ls' := #[.val (.ref a1), .val (.int (2 : Int32)), .val (.long xx), .second, .val (.int ((6 : Int32) + (1 : Int32)))]) (1 : Int32) (hb hby d_prog_27_method_3_33) rfl rfl rfl rfl ?_
  rw [show ((6 : Int32) + (1 : Int32)) = (7 : Int32) from by decide]
  refine o_goto X hx 3 (hb hby d_prog_27_method_3_36) rfl ?_
  refine o_iload X hx 5 (hb hby d_prog_27_method_3_3) rfl rfl ?_
  refine o_bipush X hx 7 (16 : Int32) (hb hby d_prog_27_method_3_5) rfl rfl ?_
  refine o_icmpF X hx 10 (hb hby d_prog_27_method_3_7) rfl (by decide : (7 : Int32) < (16 : Int32)) ?_
  refine o_aloadN X hx 11 (hb hby d_prog_27_method_3_10) rfl rfl rfl ?_
  refine o_iloadN X hx 12 (hb hby d_prog_27_method_3_11) rfl rfl ?_
  refine o_iload X hx 14 (hb hby d_prog_27_method_3_12) rfl rfl ?_
  refine o_iadd X hx 15 (hb hby d_prog_27_method_3_14) rfl ?_
  rw [show ((2 : Int32) + (7 : Int32)) = (9 : Int32) from by decide]
  refine o_getS X hx hZ hown (host := "") (Or.inl (hw _ (List.mem_of_getElem? (i := 5) rfl))) Via.refl eT (SH.ext O.2) 18 (hb hby d_prog_27_method_3_15) rfl (fun T X eT => ?_)
  refine o_lloadN X hx 19 (hb hby d_prog_27_method_3_18) rfl rfl ?_
  refine o_iconst X hx 20 (4 : Int32) (hb hby d_prog_27_method_3_19) rfl rfl ?_
  refine o_bipush X hx 22 (15 : Int32) (hb hby d_prog_27_method_3_20) rfl rfl ?_
  refine o_iload X hx 24 (hb hby d_prog_27_method_3_22) rfl rfl ?_
  refine o_isub X hx 25 (hb hby d_prog_27_method_3_24) rfl ?_
  rw [show ((15 : Int32) - (7 : Int32)) = (8 : Int32) from by decide]
  refine o_imul X hx 26 (hb hby d_prog_27_method_3_25) rfl ?_
  rw [show ((4 : Int32) * (8 : Int32)) = (32 : Int32) from by decide]
  refine o_lushr X hx 27 (hb hby d_prog_27_method_3_26) rfl ?_
  refine o_l2i X hx 28 (hb hby d_prog_27_method_3_27) rfl ?_
  refine o_bipush X hx 30 (15 : Int32) (hb hby d_prog_27_method_3_28) rfl rfl ?_
  refine o_iand X hx 31 (hb hby d_prog_27_method_3_30) rfl ?_
  show Wout p e below _ T (mkF m 31 #[.val (.ref a1), .val (.int (2 : Int32)), .val (.long xx), .second, .val (.int (7 : Int32))] [(.int (own_d xx (32 : Int32))), (.ref hxa), (.int (9 : Int32)), (.ref a1)])
  refine o_baload X hx hZ eT (VH.ext O.2) (own_idx (own_d16 xx _).1 (own_d16 xx _).2) (v := (.int (own_hex (own_d xx (32 : Int32))))) (own_hsat (own_d16 xx _).1 (own_d16 xx _).2) 32 (hb hby d_prog_27_method_3_31) rfl ?_
  refine o_bastore X hx hZ eT Va ⟨by decide, by decide⟩ 9 rfl (Nat.le_of_ble_eq_true rfl) (vs' := [(.int f), (.int f), (.int (nar .byte (own_hex (own_d xx (60 : Int32))))), (.int (nar .byte (own_hex (own_d xx (56 : Int32))))), (.int (nar .byte (own_hex (own_d xx (52 : Int32))))), (.int (nar .byte (own_hex (own_d xx (48 : Int32))))), (.int (nar .byte (own_hex (own_d xx (44 : Int32))))), (.int (nar .byte (own_hex (own_d xx (40 : Int32))))), (.int (nar .byte (own_hex (own_d xx (36 : Int32))))), (.int (nar .byte (own_hex (own_d xx (32 : Int32))))), (.int f), (.int f), (.int f), (.int f), (.int f), (.int f), (.int f), (.int f), (.int f), (.int f)]) rfl N g_a1 33 (hb hby d_prog_27_method_3_32) rfl (fun T h8 locs X eT W V' N => ?_)
  replace Z0 := Nat.le_trans Z0 (Keep.of_wr W).1
  replace K := K.wr W (Or.inl (List.mem_of_getElem? (i := 0) rfl))
  replace O := O.wr W g_a1
  replace Va := V'
  refine o_iinc X hx 36 (Ls' := #[.val (.ref a1), .val (.int (2 : Int32)), .val (.long xx), .second, .val (.int ((7 : Int32) + (1 : Int32)))]) (1 : Int32) (hb hby d_prog_27_method_3_33) rfl rfl rfl rfl ?_
  rw [show ((7 : Int32) + (1 : Int32)) = (8 : Int32) from by decide]
  refine o_goto X hx 3 (hb hby d_prog_27_method_3_36) rfl ?_
  refine o_iload X hx 5 (hb hby d_prog_27_method_3_3) rfl rfl ?_
  refine o_bipush X hx 7 (16 : Int32) (hb hby d_prog_27_method_3_5) rfl rfl ?_
  refine o_icmpF X hx 10 (hb hby d_prog_27_method_3_7) rfl (by decide : (8 : Int32) < (16 : Int32)) ?_
  refine o_aloadN X hx 11 (hb hby d_prog_27_method_3_10) rfl rfl rfl ?_
  refine o_iloadN X hx 12 (hb hby d_prog_27_method_3_11) rfl rfl ?_
  refine o_iload X hx 14 (hb hby d_prog_27_method_3_12) rfl rfl ?_
  refine o_iadd X hx 15 (hb hby d_prog_27_method_3_14) rfl ?_
  rw [show ((2 : Int32) + (8 : Int32)) = (10 : Int32) from by decide]
  refine o_getS X hx hZ hown (host := "") (Or.inl (hw _ (List.mem_of_getElem? (i := 5) rfl))) Via.refl eT (SH.ext O.2) 18 (hb hby d_prog_27_method_3_15) rfl (fun T X eT => ?_)
  refine o_lloadN X hx 19 (hb hby d_prog_27_method_3_18) rfl rfl ?_
  refine o_iconst X hx 20 (4 : Int32) (hb hby d_prog_27_method_3_19) rfl rfl ?_
  refine o_bipush X hx 22 (15 : Int32) (hb hby d_prog_27_method_3_20) rfl rfl ?_
  refine o_iload X hx 24 (hb hby d_prog_27_method_3_22) rfl rfl ?_
  refine o_isub X hx 25 (hb hby d_prog_27_method_3_24) rfl ?_
  rw [show ((15 : Int32) - (8 : Int32)) = (7 : Int32) from by decide]
  refine o_imul X hx 26 (hb hby d_prog_27_method_3_25) rfl ?_
  rw [show ((4 : Int32) * (7 : Int32)) = (28 : Int32) from by decide]
  refine o_lushr X hx 27 (hb hby d_prog_27_method_3_26) rfl ?_
  refine o_l2i X hx 28 (hb hby d_prog_27_method_3_27) rfl ?_
  refine o_bipush X hx 30 (15 : Int32) (hb hby d_prog_27_method_3_28) rfl rfl ?_
  refine o_iand X hx 31 (hb hby d_prog_27_method_3_30) rfl ?_
  show Wout p e below _ T (mkF m 31 #[.val (.ref a1), .val (.int (2 : Int32)), .val (.long xx), .second, .val (.int (8 : Int32))] [(.int (own_d xx (28 : Int32))), (.ref hxa), (.int (10 : Int32)), (.ref a1)])
  refine o_baload X hx hZ eT (VH.ext O.2) (own_idx (own_d16 xx _).1 (own_d16 xx _).2) (v := (.int (own_hex (own_d xx (28 : Int32))))) (own_hsat (own_d16 xx _).1 (own_d16 xx _).2) 32 (hb hby d_prog_27_method_3_31) rfl ?_
  refine o_bastore X hx hZ eT Va ⟨by decide, by decide⟩ 10 rfl (Nat.le_of_ble_eq_true rfl) (vs' := [(.int f), (.int f), (.int (nar .byte (own_hex (own_d xx (60 : Int32))))), (.int (nar .byte (own_hex (own_d xx (56 : Int32))))), (.int (nar .byte (own_hex (own_d xx (52 : Int32))))), (.int (nar .byte (own_hex (own_d xx (48 : Int32))))), (.int (nar .byte (own_hex (own_d xx (44 : Int32))))), (.int (nar .byte (own_hex (own_d xx (40 : Int32))))), (.int (nar .byte (own_hex (own_d xx (36 : Int32))))), (.int (nar .byte (own_hex (own_d xx (32 : Int32))))), (.int (nar .byte (own_hex (own_d xx (28 : Int32))))), (.int f), (.int f), (.int f), (.int f), (.int f), (.int f), (.int f), (.int f), (.int f)]) rfl N g_a1 33 (hb hby d_prog_27_method_3_32) rfl (fun T h9 locs X eT W V' N => ?_)
  replace Z0 := Nat.le_trans Z0 (Keep.of_wr W).1
  replace K := K.wr W (Or.inl (List.mem_of_getElem? (i := 0) rfl))
  replace O := O.wr W g_a1
  replace Va := V'
  refine o_iinc X hx 36 (Ls' := #[.val (.ref a1), .val (.int (2 : Int32)), .val (.long xx), .second, .val (.int ((8 : Int32) + (1 : Int32)))]) (1 : Int32) (hb hby d_prog_27_method_3_33) rfl rfl rfl rfl ?_
  rw [show ((8 : Int32) + (1 : Int32)) = (9 : Int32) from by decide]
  refine o_goto X hx 3 (hb hby d_prog_27_method_3_36) rfl ?_
  refine o_iload X hx 5 (hb hby d_prog_27_method_3_3) rfl rfl ?_
  refine o_bipush X hx 7 (16 : Int32) (hb hby d_prog_27_method_3_5) rfl rfl ?_
  refine o_icmpF X hx 10 (hb hby d_prog_27_method_3_7) rfl (by decide : (9 : Int32) < (16 : Int32)) ?_
  refine o_aloadN X hx 11 (hb hby d_prog_27_method_3_10) rfl rfl rfl ?_
  refine o_iloadN X hx 12 (hb hby d_prog_27_method_3_11) rfl rfl ?_
  refine o_iload X hx 14 (hb hby d_prog_27_method_3_12) rfl rfl ?_
  refine o_iadd X hx 15 (hb hby d_prog_27_method_3_14) rfl ?_
  rw [show ((2 : Int32) + (9 : Int32)) = (11 : Int32) from by decide]
  refine o_getS X hx hZ hown (host := "") (Or.inl (hw _ (List.mem_of_getElem? (i := 5) rfl))) Via.refl eT (SH.ext O.2) 18 (hb hby d_prog_27_method_3_15) rfl (fun T X eT => ?_)
  refine o_lloadN X hx 19 (hb hby d_prog_27_method_3_18) rfl rfl ?_
  refine o_iconst X hx 20 (4 : Int32) (hb hby d_prog_27_method_3_19) rfl rfl ?_
  refine o_bipush X hx 22 (15 : Int32) (hb hby d_prog_27_method_3_20) rfl rfl ?_
  refine o_iload X hx 24 (hb hby d_prog_27_method_3_22) rfl rfl ?_
  refine o_isub X hx 25 (hb hby d_prog_27_method_3_24) rfl ?_
  rw [show ((15 : Int32) - (9 : Int32)) = (6 : Int32) from by decide]
  refine o_imul X hx 26 (hb hby d_prog_27_method_3_25) rfl ?_
  rw [show ((4 : Int32) * (6 : Int32)) = (24 : Int32) from by decide]
  refine o_lushr X hx 27 (hb hby d_prog_27_method_3_26) rfl ?_
  refine o_l2i X hx 28 (hb hby d_prog_27_method_3_27) rfl ?_
  refine o_bipush X hx 30 (15 : Int32) (hb hby d_prog_27_method_3_28) rfl rfl ?_
  refine o_iand X hx 31 (hb hby d_prog_27_method_3_30) rfl ?_
  show Wout p e below _ T (mkF m 31 #[.val (.ref a1), .val (.int (2 : Int32)), .val (.long xx), .second, .val (.int (9 : Int32))] [(.int (own_d xx (24 : Int32))), (.ref hxa), (.int (11 : Int32)), (.ref a1)])
  refine o_baload X hx hZ eT (VH.ext O.2) (own_idx (own_d16 xx _).1 (own_d16 xx _).2) (v := (.int (own_hex (own_d xx (24 : Int32))))) (own_hsat (own_d16 xx _).1 (own_d16 xx _).2) 32 (hb hby d_prog_27_method_3_31) rfl ?_
  refine o_bastore X hx hZ eT Va ⟨by decide, by decide⟩ 11 rfl (Nat.le_of_ble_eq_true rfl) (vs' := [(.int f), (.int f), (.int (nar .byte (own_hex (own_d xx (60 : Int32))))), (.int (nar .byte (own_hex (own_d xx (56 : Int32))))), (.int (nar .byte (own_hex (own_d xx (52 : Int32))))), (.int (nar .byte (own_hex (own_d xx (48 : Int32))))), (.int (nar .byte (own_hex (own_d xx (44 : Int32))))), (.int (nar .byte (own_hex (own_d xx (40 : Int32))))), (.int (nar .byte (own_hex (own_d xx (36 : Int32))))), (.int (nar .byte (own_hex (own_d xx (32 : Int32))))), (.int (nar .byte (own_hex (own_d xx (28 : Int32))))), (.int (nar .byte (own_hex (own_d xx (24 : Int32))))), (.int f), (.int f), (.int f), (.int f), (.int f), (.int f), (.int f), (.int f)]) rfl N g_a1 33 (hb hby d_prog_27_method_3_32) rfl (fun T h10 locs X eT W V' N => ?_)
  replace Z0 := Nat.le_trans Z0 (Keep.of_wr W).1
  replace K := K.wr W (Or.inl (List.mem_of_getElem? (i := 0) rfl))
  replace O := O.wr W g_a1
  replace Va := V'
  refine o_iinc X hx 36 (Ls' := #[.val (.ref a1), .val (.int (2 : Int32)), .val (.long xx), .second, .val (.int ((9 : Int32) + (1 : Int32)))]) (1 : Int32) (hb hby d_prog_27_method_3_33) rfl rfl rfl rfl ?_
  rw [show ((9 : Int32) + (1 : Int32)) = (10 : Int32) from by decide]
  refine o_goto X hx 3 (hb hby d_prog_27_method_3_36) rfl ?_
  refine o_iload X hx 5 (hb hby d_prog_27_method_3_3) rfl rfl ?_
  refine o_bipush X hx 7 (16 : Int32) (hb hby d_prog_27_method_3_5) rfl rfl ?_
  refine o_icmpF X hx 10 (hb hby d_prog_27_method_3_7) rfl (by decide : (10 : Int32) < (16 : Int32)) ?_
  refine o_aloadN X hx 11 (hb hby d_prog_27_method_3_10) rfl rfl rfl ?_
  refine o_iloadN X hx 12 (hb hby d_prog_27_method_3_11) rfl rfl ?_
  refine o_iload X hx 14 (hb hby d_prog_27_method_3_12) rfl rfl ?_
  refine o_iadd X hx 15 (hb hby d_prog_27_method_3_14) rfl ?_
  rw [show ((2 : Int32) + (10 : Int32)) = (12 : Int32) from by decide]
  refine o_getS X hx hZ hown (host := "") (Or.inl (hw _ (List.mem_of_getElem? (i := 5) rfl))) Via.refl eT (SH.ext O.2) 18 (hb hby d_prog_27_method_3_15) rfl (fun T X eT => ?_)
  refine o_lloadN X hx 19 (hb hby d_prog_27_method_3_18) rfl rfl ?_
  refine o_iconst X hx 20 (4 : Int32) (hb hby d_prog_27_method_3_19) rfl rfl ?_
  refine o_bipush X hx 22 (15 : Int32) (hb hby d_prog_27_method_3_20) rfl rfl ?_
  refine o_iload X hx 24 (hb hby d_prog_27_method_3_22) rfl rfl ?_
  refine o_isub X hx 25 (hb hby d_prog_27_method_3_24) rfl ?_
  rw [show ((15 : Int32) - (10 : Int32)) = (5 : Int32) from by decide]
  refine o_imul X hx 26 (hb hby d_prog_27_method_3_25) rfl ?_
  rw [show ((4 : Int32) * (5 : Int32)) = (20 : Int32) from by decide]
  refine o_lushr X hx 27 (hb hby d_prog_27_method_3_26) rfl ?_
  refine o_l2i X hx 28 (hb hby d_prog_27_method_3_27) rfl ?_
  refine o_bipush X hx 30 (15 : Int32) (hb hby d_prog_27_method_3_28) rfl rfl ?_
  refine o_iand X hx 31 (hb hby d_prog_27_method_3_30) rfl ?_
  show Wout p e below _ T (mkF m 31 #[.val (.ref a1), .val (.int (2 : Int32)), .val (.long xx), .second, .val (.int (10 : Int32))] [(.int (own_d xx (20 : Int32))), (.ref hxa), (.int (12 : Int32)), (.ref a1)])
  refine o_baload X hx hZ eT (VH.ext O.2) (own_idx (own_d16 xx _).1 (own_d16 xx _).2) (v := (.int (own_hex (own_d xx (20 : Int32))))) (own_hsat (own_d16 xx _).1 (own_d16 xx _).2) 32 (hb hby d_prog_27_method_3_31) rfl ?_
  refine o_bastore X hx hZ eT Va ⟨by decide, by decide⟩ 12 rfl (Nat.le_of_ble_eq_true rfl) (vs' := [(.int f), (.int f), (.int (nar .byte (own_hex (own_d xx (60 : Int32))))), (.int (nar .byte (own_hex (own_d xx (56 : Int32))))), (.int (nar .byte (own_hex (own_d xx (52 : Int32))))), (.int (nar .byte (own_hex (own_d xx (48 : Int32))))), (.int (nar .byte (own_hex (own_d xx (44 : Int32))))), (.int (nar .byte (own_hex (own_d xx (40 : Int32))))), (.int (nar .byte (own_hex (own_d xx (36 : Int32))))), (.int (nar .byte (own_hex (own_d xx (32 : Int32))))), (.int (nar .byte (own_hex (own_d xx (28 : Int32))))), (.int (nar .byte (own_hex (own_d xx (24 : Int32))))), (.int (nar .byte (own_hex (own_d xx (20 : Int32))))), (.int f), (.int f), (.int f), (.int f), (.int f), (.int f), (.int f)]) rfl N g_a1 33 (hb hby d_prog_27_method_3_32) rfl (fun T h11 locs X eT W V' N => ?_)
  replace Z0 := Nat.le_trans Z0 (Keep.of_wr W).1
  replace K := K.wr W (Or.inl (List.mem_of_getElem? (i := 0) rfl))
  replace O := O.wr W g_a1
  replace Va := V'
  refine o_iinc X hx 36 (Ls' := #[.val (.ref a1), .val (.int (2 : Int32)), .val (.long xx), .second, .val (.int ((10 : Int32) + (1 : Int32)))]) (1 : Int32) (hb hby d_prog_27_method_3_33) rfl rfl rfl rfl ?_
  rw [show ((10 : Int32) + (1 : Int32)) = (11 : Int32) from by decide]
  refine o_goto X hx 3 (hb hby d_prog_27_method_3_36) rfl ?_
  refine o_iload X hx 5 (hb hby d_prog_27_method_3_3) rfl rfl ?_
  refine o_bipush X hx 7 (16 : Int32) (hb hby d_prog_27_method_3_5) rfl rfl ?_
  refine o_icmpF X hx 10 (hb hby d_prog_27_method_3_7) rfl (by decide : (11 : Int32) < (16 : Int32)) ?_
  refine o_aloadN X hx 11 (hb hby d_prog_27_method_3_10) rfl rfl rfl ?_
  refine o_iloadN X hx 12 (hb hby d_prog_27_method_3_11) rfl rfl ?_
  refine o_iload X hx 14 (hb hby d_prog_27_method_3_12) rfl rfl ?_
  refine o_iadd X hx 15 (hb hby d_prog_27_method_3_14) rfl ?_
  rw [show ((2 : Int32) + (11 : Int32)) = (13 : Int32) from by decide]
  refine o_getS X hx hZ hown (host := "") (Or.inl (hw _ (List.mem_of_getElem? (i := 5) rfl))) Via.refl eT (SH.ext O.2) 18 (hb hby d_prog_27_method_3_15) rfl (fun T X eT => ?_)
  refine o_lloadN X hx 19 (hb hby d_prog_27_method_3_18) rfl rfl ?_
  refine o_iconst X hx 20 (4 : Int32) (hb hby d_prog_27_method_3_19) rfl rfl ?_
  refine o_bipush X hx 22 (15 : Int32) (hb hby d_prog_27_method_3_20) rfl rfl ?_
  refine o_iload X hx 24 (hb hby d_prog_27_method_3_22) rfl rfl ?_
  refine o_isub X hx 25 (hb hby d_prog_27_method_3_24) rfl ?_
  rw [show ((15 : Int32) - (11 : Int32)) = (4 : Int32) from by decide]
  refine o_imul X hx 26 (hb hby d_prog_27_method_3_25) rfl ?_
  rw [show ((4 : Int32) * (4 : Int32)) = (16 : Int32) from by decide]
  refine o_lushr X hx 27 (hb hby d_prog_27_method_3_26) rfl ?_
  refine o_l2i X hx 28 (hb hby d_prog_27_method_3_27) rfl ?_
  refine o_bipush X hx 30 (15 : Int32) (hb hby d_prog_27_method_3_28) rfl rfl ?_
  refine o_iand X hx 31 (hb hby d_prog_27_method_3_30) rfl ?_
  show Wout p e below _ T (mkF m 31 #[.val (.ref a1), .val (.int (2 : Int32)), .val (.long xx), .second, .val (.int (11 : Int32))] [(.int (own_d xx (16 : Int32))), (.ref hxa), (.int (13 : Int32)), (.ref a1)])
  refine o_baload X hx hZ eT (VH.ext O.2) (own_idx (own_d16 xx _).1 (own_d16 xx _).2) (v := (.int (own_hex (own_d xx (16 : Int32))))) (own_hsat (own_d16 xx _).1 (own_d16 xx _).2) 32 (hb hby d_prog_27_method_3_31) rfl ?_
  refine o_bastore X hx hZ eT Va ⟨by decide, by decide⟩ 13 rfl (Nat.le_of_ble_eq_true rfl) (vs' := [(.int f), (.int f), (.int (nar .byte (own_hex (own_d xx (60 : Int32))))), (.int (nar .byte (own_hex (own_d xx (56 : Int32))))), (.int (nar .byte (own_hex (own_d xx (52 : Int32))))), (.int (nar .byte (own_hex (own_d xx (48 : Int32))))), (.int (nar .byte (own_hex (own_d xx (44 : Int32))))), (.int (nar .byte (own_hex (own_d xx (40 : Int32))))), (.int (nar .byte (own_hex (own_d xx (36 : Int32))))), (.int (nar .byte (own_hex (own_d xx (32 : Int32))))), (.int (nar .byte (own_hex (own_d xx (28 : Int32))))), (.int (nar .byte (own_hex (own_d xx (24 : Int32))))), (.int (nar .byte (own_hex (own_d xx (20 : Int32))))), (.int (nar .byte (own_hex (own_d xx (16 : Int32))))), (.int f), (.int f), (.int f), (.int f), (.int f), (.int f)]) rfl N g_a1 33 (hb hby d_prog_27_method_3_32) rfl (fun T h12 locs X eT W V' N => ?_)
  replace Z0 := Nat.le_trans Z0 (Keep.of_wr W).1
  replace K := K.wr W (Or.inl (List.mem_of_getElem? (i := 0) rfl))
  replace O := O.wr W g_a1
  replace Va := V'
  refine o_iinc X hx 36 (Ls' := #[.val (.ref a1), .val (.int (2 : Int32)), .val (.long xx), .second, .val (.int ((11 : Int32) + (1 : Int32)))]) (1 : Int32) (hb hby d_prog_27_method_3_33) rfl rfl rfl rfl ?_
  rw [show ((11 : Int32) + (1 : Int32)) = (12 : Int32) from by decide]
  refine o_goto X hx 3 (hb hby d_prog_27_method_3_36) rfl ?_
  refine o_iload X hx 5 (hb hby d_prog_27_method_3_3) rfl rfl ?_
  refine o_bipush X hx 7 (16 : Int32) (hb hby d_prog_27_method_3_5) rfl rfl ?_
  refine o_icmpF X hx 10 (hb hby d_prog_27_method_3_7) rfl (by decide : (12 : Int32) < (16 : Int32)) ?_
  refine o_aloadN X hx 11 (hb hby d_prog_27_method_3_10) rfl rfl rfl ?_
  refine o_iloadN X hx 12 (hb hby d_prog_27_method_3_11) rfl rfl ?_
  refine o_iload X hx 14 (hb hby d_prog_27_method_3_12) rfl rfl ?_
  refine o_iadd X hx 15 (hb hby d_prog_27_method_3_14) rfl ?_
  rw [show ((2 : Int32) + (12 : Int32)) = (14 : Int32) from by decide]
  refine o_getS X hx hZ hown (host := "") (Or.inl (hw _ (List.mem_of_getElem? (i := 5) rfl))) Via.refl eT (SH.ext O.2) 18 (hb hby d_prog_27_method_3_15) rfl (fun T X eT => ?_)
  refine o_lloadN X hx 19 (hb hby d_prog_27_method_3_18) rfl rfl ?_
  refine o_iconst X hx 20 (4 : Int32) (hb hby d_prog_27_method_3_19) rfl rfl ?_
  refine o_bipush X hx 22 (15 : Int32) (hb hby d_prog_27_method_3_20) rfl rfl ?_
  refine o_iload X hx 24 (hb hby d_prog_27_method_3_22) rfl rfl ?_
  refine o_isub X hx 25 (hb hby d_prog_27_method_3_24) rfl ?_
  rw [show ((15 : Int32) - (12 : Int32)) = (3 : Int32) from by decide]
  refine o_imul X hx 26 (hb hby d_prog_27_method_3_25) rfl ?_
  rw [show ((4 : Int32) * (3 : Int32)) = (12 : Int32) from by decide]
  refine o_lushr X hx 27 (hb hby d_prog_27_method_3_26) rfl ?_
  refine o_l2i X hx 28 (hb hby d_prog_27_method_3_27) rfl ?_
  refine o_bipush X hx 30 (15 : Int32) (hb hby d_prog_27_method_3_28) rfl rfl ?_
  refine o_iand X hx 31 (hb hby d_prog_27_method_3_30) rfl ?_
  show Wout p e below _ T (mkF m 31 #[.val (.ref a1), .val (.int (2 : Int32)), .val (.long xx), .second, .val (.int (12 : Int32))] [(.int (own_d xx (12 : Int32))), (.ref hxa), (.int (14 : Int32)), (.ref a1)])
  refine o_baload X hx hZ eT (VH.ext O.2) (own_idx (own_d16 xx _).1 (own_d16 xx _).2) (v := (.int (own_hex (own_d xx (12 : Int32))))) (own_hsat (own_d16 xx _).1 (own_d16 xx _).2) 32 (hb hby d_prog_27_method_3_31) rfl ?_
  refine o_bastore X hx hZ eT Va ⟨by decide, by decide⟩ 14 rfl (Nat.le_of_ble_eq_true rfl) (vs' := [(.int f), (.int f), (.int (nar .byte (own_hex (own_d xx (60 : Int32))))), (.int (nar .byte (own_hex (own_d xx (56 : Int32))))), (.int (nar .byte (own_hex (own_d xx (52 : Int32))))), (.int (nar .byte (own_hex (own_d xx (48 : Int32))))), (.int (nar .byte (own_hex (own_d xx (44 : Int32))))), (.int (nar .byte (own_hex (own_d xx (40 : Int32))))), (.int (nar .byte (own_hex (own_d xx (36 : Int32))))), (.int (nar .byte (own_hex (own_d xx (32 : Int32))))), (.int (nar .byte (own_hex (own_d xx (28 : Int32))))), (.int (nar .byte (own_hex (own_d xx (24 : Int32))))), (.int (nar .byte (own_hex (own_d xx (20 : Int32))))), (.int (nar .byte (own_hex (own_d xx (16 : Int32))))), (.int (nar .byte (own_hex (own_d xx (12 : Int32))))), (.int f), (.int f), (.int f), (.int f), (.int f)]) rfl N g_a1 33 (hb hby d_prog_27_method_3_32) rfl (fun T h13 locs X eT W V' N => ?_)
  replace Z0 := Nat.le_trans Z0 (Keep.of_wr W).1
  replace K := K.wr W (Or.inl (List.mem_of_getElem? (i := 0) rfl))
  replace O := O.wr W g_a1
  replace Va := V'
  refine o_iinc X hx 36 (Ls' := #[.val (.ref a1), .val (.int (2 : Int32)), .val (.long xx), .second, .val (.int ((12 : Int32) + (1 : Int32)))]) (1 : Int32) (hb hby d_prog_27_method_3_33) rfl rfl rfl rfl ?_
  rw [show ((12 : Int32) + (1 : Int32)) = (13 : Int32) from by decide]
  refine o_goto X hx 3 (hb hby d_prog_27_method_3_36) rfl ?_
  refine o_iload X hx 5 (hb hby d_prog_27_method_3_3) rfl rfl ?_
  refine o_bipush X hx 7 (16 : Int32) (hb hby d_prog_27_method_3_5) rfl rfl ?_
  refine o_icmpF X hx 10 (hb hby d_prog_27_method_3_7) rfl (by decide : (13 : Int32) < (16 : Int32)) ?_
  refine o_aloadN X hx 11 (hb hby d_prog_27_method_3_10) rfl rfl rfl ?_
  refine o_iloadN X hx 12 (hb hby d_prog_27_method_3_11) rfl rfl ?_
  refine o_iload X hx 14 (hb hby d_prog_27_method_3_12) rfl rfl ?_
  refine o_iadd X hx 15 (hb hby d_prog_27_method_3_14) rfl ?_
  rw [show ((2 : Int32) + (13 : Int32)) = (15 : Int32) from by decide]
  refine o_getS X hx hZ hown (host := "") (Or.inl (hw _ (List.mem_of_getElem? (i := 5) rfl))) Via.refl eT (SH.ext O.2) 18 (hb hby d_prog_27_method_3_15) rfl (fun T X eT => ?_)
  refine o_lloadN X hx 19 (hb hby d_prog_27_method_3_18) rfl rfl ?_
  refine o_iconst X hx 20 (4 : Int32) (hb hby d_prog_27_method_3_19) rfl rfl ?_
  refine o_bipush X hx 22 (15 : Int32) (hb hby d_prog_27_method_3_20) rfl rfl ?_
  refine o_iload X hx 24 (hb hby d_prog_27_method_3_22) rfl rfl ?_
  refine o_isub X hx 25 (hb hby d_prog_27_method_3_24) rfl ?_
  rw [show ((15 : Int32) - (13 : Int32)) = (2 : Int32) from by decide]
  refine o_imul X hx 26 (hb hby d_prog_27_method_3_25) rfl ?_
  rw [show ((4 : Int32) * (2 : Int32)) = (8 : Int32) from by decide]
  refine o_lushr X hx 27 (hb hby d_prog_27_method_3_26) rfl ?_
  refine o_l2i X hx 28 (hb hby d_prog_27_method_3_27) rfl ?_
  refine o_bipush X hx 30 (15 : Int32) (hb hby d_prog_27_method_3_28) rfl rfl ?_
  refine o_iand X hx 31 (hb hby d_prog_27_method_3_30) rfl ?_
  show Wout p e below _ T (mkF m 31 #[.val (.ref a1), .val (.int (2 : Int32)), .val (.long xx), .second, .val (.int (13 : Int32))] [(.int (own_d xx (8 : Int32))), (.ref hxa), (.int (15 : Int32)), (.ref a1)])
  refine o_baload X hx hZ eT (VH.ext O.2) (own_idx (own_d16 xx _).1 (own_d16 xx _).2) (v := (.int (own_hex (own_d xx (8 : Int32))))) (own_hsat (own_d16 xx _).1 (own_d16 xx _).2) 32 (hb hby d_prog_27_method_3_31) rfl ?_
  refine o_bastore X hx hZ eT Va ⟨by decide, by decide⟩ 15 rfl (Nat.le_of_ble_eq_true rfl) (vs' := [(.int f), (.int f), (.int (nar .byte (own_hex (own_d xx (60 : Int32))))), (.int (nar .byte (own_hex (own_d xx (56 : Int32))))), (.int (nar .byte (own_hex (own_d xx (52 : Int32))))), (.int (nar .byte (own_hex (own_d xx (48 : Int32))))), (.int (nar .byte (own_hex (own_d xx (44 : Int32))))), (.int (nar .byte (own_hex (own_d xx (40 : Int32))))), (.int (nar .byte (own_hex (own_d xx (36 : Int32))))), (.int (nar .byte (own_hex (own_d xx (32 : Int32))))), (.int (nar .byte (own_hex (own_d xx (28 : Int32))))), (.int (nar .byte (own_hex (own_d xx (24 : Int32))))), (.int (nar .byte (own_hex (own_d xx (20 : Int32))))), (.int (nar .byte (own_hex (own_d xx (16 : Int32))))), (.int (nar .byte (own_hex (own_d xx (12 : Int32))))), (.int (nar .byte (own_hex (own_d xx (8 : Int32))))), (.int f), (.int f), (.int f), (.int f)]) rfl N g_a1 33 (hb hby d_prog_27_method_3_32) rfl (fun T h14 locs X eT W V' N => ?_)
  replace Z0 := Nat.le_trans Z0 (Keep.of_wr W).1
  replace K := K.wr W (Or.inl (List.mem_of_getElem? (i := 0) rfl))
  replace O := O.wr W g_a1
  replace Va := V'
  refine o_iinc X hx 36 (Ls' := #[.val (.ref a1), .val (.int (2 : Int32)), .val (.long xx), .second, .val (.int ((13 : Int32) + (1 : Int32)))]) (1 : Int32) (hb hby d_prog_27_method_3_33) rfl rfl rfl rfl ?_
  rw [show ((13 : Int32) + (1 : Int32)) = (14 : Int32) from by decide]
  refine o_goto X hx 3 (hb hby d_prog_27_method_3_36) rfl ?_
  refine o_iload X hx 5 (hb hby d_prog_27_method_3_3) rfl rfl ?_
  refine o_bipush X hx 7 (16 : Int32) (hb hby d_prog_27_method_3_5) rfl rfl ?_
  refine o_icmpF X hx 10 (hb hby d_prog_27_method_3_7) rfl (by decide : (14 : Int32) < (16 : Int32)) ?_
  refine o_aloadN X hx 11 (hb hby d_prog_27_method_3_10) rfl rfl rfl ?_
  refine o_iloadN X hx 12 (hb hby d_prog_27_method_3_11) rfl rfl ?_
  refine o_iload X hx 14 (hb hby d_prog_27_method_3_12) rfl rfl ?_
  refine o_iadd X hx 15 (hb hby d_prog_27_method_3_14) rfl ?_
  rw [show ((2 : Int32) + (14 : Int32)) = (16 : Int32) from by decide]
  refine o_getS X hx hZ hown (host := "") (Or.inl (hw _ (List.mem_of_getElem? (i := 5) rfl))) Via.refl eT (SH.ext O.2) 18 (hb hby d_prog_27_method_3_15) rfl (fun T X eT => ?_)
  refine o_lloadN X hx 19 (hb hby d_prog_27_method_3_18) rfl rfl ?_
  refine o_iconst X hx 20 (4 : Int32) (hb hby d_prog_27_method_3_19) rfl rfl ?_
  refine o_bipush X hx 22 (15 : Int32) (hb hby d_prog_27_method_3_20) rfl rfl ?_
  refine o_iload X hx 24 (hb hby d_prog_27_method_3_22) rfl rfl ?_
  refine o_isub X hx 25 (hb hby d_prog_27_method_3_24) rfl ?_
  rw [show ((15 : Int32) - (14 : Int32)) = (1 : Int32) from by decide]
  refine o_imul X hx 26 (hb hby d_prog_27_method_3_25) rfl ?_
  rw [show ((4 : Int32) * (1 : Int32)) = (4 : Int32) from by decide]
  refine o_lushr X hx 27 (hb hby d_prog_27_method_3_26) rfl ?_
  refine o_l2i X hx 28 (hb hby d_prog_27_method_3_27) rfl ?_
  refine o_bipush X hx 30 (15 : Int32) (hb hby d_prog_27_method_3_28) rfl rfl ?_
  refine o_iand X hx 31 (hb hby d_prog_27_method_3_30) rfl ?_
  show Wout p e below _ T (mkF m 31 #[.val (.ref a1), .val (.int (2 : Int32)), .val (.long xx), .second, .val (.int (14 : Int32))] [(.int (own_d xx (4 : Int32))), (.ref hxa), (.int (16 : Int32)), (.ref a1)])
  refine o_baload X hx hZ eT (VH.ext O.2) (own_idx (own_d16 xx _).1 (own_d16 xx _).2) (v := (.int (own_hex (own_d xx (4 : Int32))))) (own_hsat (own_d16 xx _).1 (own_d16 xx _).2) 32 (hb hby d_prog_27_method_3_31) rfl ?_
  refine o_bastore X hx hZ eT Va ⟨by decide, by decide⟩ 16 rfl (Nat.le_of_ble_eq_true rfl) (vs' := [(.int f), (.int f), (.int (nar .byte (own_hex (own_d xx (60 : Int32))))), (.int (nar .byte (own_hex (own_d xx (56 : Int32))))), (.int (nar .byte (own_hex (own_d xx (52 : Int32))))), (.int (nar .byte (own_hex (own_d xx (48 : Int32))))), (.int (nar .byte (own_hex (own_d xx (44 : Int32))))), (.int (nar .byte (own_hex (own_d xx (40 : Int32))))), (.int (nar .byte (own_hex (own_d xx (36 : Int32))))), (.int (nar .byte (own_hex (own_d xx (32 : Int32))))), (.int (nar .byte (own_hex (own_d xx (28 : Int32))))), (.int (nar .byte (own_hex (own_d xx (24 : Int32))))), (.int (nar .byte (own_hex (own_d xx (20 : Int32))))), (.int (nar .byte (own_hex (own_d xx (16 : Int32))))), (.int (nar .byte (own_hex (own_d xx (12 : Int32))))), (.int (nar .byte (own_hex (own_d xx (8 : Int32))))), (.int (nar .byte (own_hex (own_d xx (4 : Int32))))), (.int f), (.int f), (.int f)]) rfl N g_a1 33 (hb hby d_prog_27_method_3_32) rfl (fun T h15 locs X eT W V' N => ?_)
  replace Z0 := Nat.le_trans Z0 (Keep.of_wr W).1
  replace K := K.wr W (Or.inl (List.mem_of_getElem? (i := 0) rfl))
  replace O := O.wr W g_a1
  replace Va := V'
  refine o_iinc X hx 36 (Ls' := #[.val (.ref a1), .val (.int (2 : Int32)), .val (.long xx), .second, .val (.int ((14 : Int32) + (1 : Int32)))]) (1 : Int32) (hb hby d_prog_27_method_3_33) rfl rfl rfl rfl ?_
  rw [show ((14 : Int32) + (1 : Int32)) = (15 : Int32) from by decide]
  refine o_goto X hx 3 (hb hby d_prog_27_method_3_36) rfl ?_
  refine o_iload X hx 5 (hb hby d_prog_27_method_3_3) rfl rfl ?_
  refine o_bipush X hx 7 (16 : Int32) (hb hby d_prog_27_method_3_5) rfl rfl ?_
  refine o_icmpF X hx 10 (hb hby d_prog_27_method_3_7) rfl (by decide : (15 : Int32) < (16 : Int32)) ?_
  refine o_aloadN X hx 11 (hb hby d_prog_27_method_3_10) rfl rfl rfl ?_
  refine o_iloadN X hx 12 (hb hby d_prog_27_method_3_11) rfl rfl ?_
  refine o_iload X hx 14 (hb hby d_prog_27_method_3_12) rfl rfl ?_
  refine o_iadd X hx 15 (hb hby d_prog_27_method_3_14) rfl ?_
  rw [show ((2 : Int32) + (15 : Int32)) = (17 : Int32) from by decide]
  refine o_getS X hx hZ hown (host := "") (Or.inl (hw _ (List.mem_of_getElem? (i := 5) rfl))) Via.refl eT (SH.ext O.2) 18 (hb hby d_prog_27_method_3_15) rfl (fun T X eT => ?_)
  refine o_lloadN X hx 19 (hb hby d_prog_27_method_3_18) rfl rfl ?_
  refine o_iconst X hx 20 (4 : Int32) (hb hby d_prog_27_method_3_19) rfl rfl ?_
  refine o_bipush X hx 22 (15 : Int32) (hb hby d_prog_27_method_3_20) rfl rfl ?_
  refine o_iload X hx 24 (hb hby d_prog_27_method_3_22) rfl rfl ?_
  refine o_isub X hx 25 (hb hby d_prog_27_method_3_24) rfl ?_
  rw [show ((15 : Int32) - (15 : Int32)) = (0 : Int32) from by decide]
  refine o_imul X hx 26 (hb hby d_prog_27_method_3_25) rfl ?_
  rw [show ((4 : Int32) * (0 : Int32)) = (0 : Int32) from by decide]
  refine o_lushr X hx 27 (hb hby d_prog_27_method_3_26) rfl ?_
  refine o_l2i X hx 28 (hb hby d_prog_27_method_3_27) rfl ?_
  refine o_bipush X hx 30 (15 : Int32) (hb hby d_prog_27_method_3_28) rfl rfl ?_
  refine o_iand X hx 31 (hb hby d_prog_27_method_3_30) rfl ?_
  show Wout p e below _ T (mkF m 31 #[.val (.ref a1), .val (.int (2 : Int32)), .val (.long xx), .second, .val (.int (15 : Int32))] [(.int (own_d xx (0 : Int32))), (.ref hxa), (.int (17 : Int32)), (.ref a1)])
  refine o_baload X hx hZ eT (VH.ext O.2) (own_idx (own_d16 xx _).1 (own_d16 xx _).2) (v := (.int (own_hex (own_d xx (0 : Int32))))) (own_hsat (own_d16 xx _).1 (own_d16 xx _).2) 32 (hb hby d_prog_27_method_3_31) rfl ?_
  refine o_bastore X hx hZ eT Va ⟨by decide, by decide⟩ 17 rfl (Nat.le_of_ble_eq_true rfl) (vs' := [(.int f), (.int f), (.int (nar .byte (own_hex (own_d xx (60 : Int32))))), (.int (nar .byte (own_hex (own_d xx (56 : Int32))))), (.int (nar .byte (own_hex (own_d xx (52 : Int32))))), (.int (nar .byte (own_hex (own_d xx (48 : Int32))))), (.int (nar .byte (own_hex (own_d xx (44 : Int32))))), (.int (nar .byte (own_hex (own_d xx (40 : Int32))))), (.int (nar .byte (own_hex (own_d xx (36 : Int32))))), (.int (nar .byte (own_hex (own_d xx (32 : Int32))))), (.int (nar .byte (own_hex (own_d xx (28 : Int32))))), (.int (nar .byte (own_hex (own_d xx (24 : Int32))))), (.int (nar .byte (own_hex (own_d xx (20 : Int32))))), (.int (nar .byte (own_hex (own_d xx (16 : Int32))))), (.int (nar .byte (own_hex (own_d xx (12 : Int32))))), (.int (nar .byte (own_hex (own_d xx (8 : Int32))))), (.int (nar .byte (own_hex (own_d xx (4 : Int32))))), (.int (nar .byte (own_hex (own_d xx (0 : Int32))))), (.int f), (.int f)]) rfl N g_a1 33 (hb hby d_prog_27_method_3_32) rfl (fun T h16 locs X eT W V' N => ?_)
  replace Z0 := Nat.le_trans Z0 (Keep.of_wr W).1
  replace K := K.wr W (Or.inl (List.mem_of_getElem? (i := 0) rfl))
  replace O := O.wr W g_a1
  replace Va := V'
  refine o_iinc X hx 36 (Ls' := #[.val (.ref a1), .val (.int (2 : Int32)), .val (.long xx), .second, .val (.int ((15 : Int32) + (1 : Int32)))]) (1 : Int32) (hb hby d_prog_27_method_3_33) rfl rfl rfl rfl ?_
  rw [show ((15 : Int32) + (1 : Int32)) = (16 : Int32) from by decide]
  refine o_goto X hx 3 (hb hby d_prog_27_method_3_36) rfl ?_
  refine o_iload X hx 5 (hb hby d_prog_27_method_3_3) rfl rfl ?_
  refine o_bipush X hx 7 (16 : Int32) (hb hby d_prog_27_method_3_5) rfl rfl ?_
  refine o_icmpT X hx 39 (hb hby d_prog_27_method_3_7) rfl (by decide : ¬ (16 : Int32) < (16 : Int32)) ?_
  refine o_aloadN X hx 40 (hb hby d_prog_27_method_3_39) rfl rfl rfl ?_
  refine o_iloadN X hx 41 (hb hby d_prog_27_method_3_40) rfl rfl ?_
  refine o_bipush X hx 43 (16 : Int32) (hb hby d_prog_27_method_3_41) rfl rfl ?_
  refine o_iadd X hx 44 (hb hby d_prog_27_method_3_43) rfl ?_
  rw [show ((2 : Int32) + (16 : Int32)) = (18 : Int32) from by decide]
  refine o_bipush X hx 46 (45 : Int32) (hb hby d_prog_27_method_3_44) rfl rfl ?_
  refine o_bastore X hx hZ eT Va ⟨by decide, by decide⟩ 18 rfl (Nat.le_of_ble_eq_true rfl) (vs' := [(.int f), (.int f), (.int (nar .byte (own_hex (own_d xx (60 : Int32))))), (.int (nar .byte (own_hex (own_d xx (56 : Int32))))), (.int (nar .byte (own_hex (own_d xx (52 : Int32))))), (.int (nar .byte (own_hex (own_d xx (48 : Int32))))), (.int (nar .byte (own_hex (own_d xx (44 : Int32))))), (.int (nar .byte (own_hex (own_d xx (40 : Int32))))), (.int (nar .byte (own_hex (own_d xx (36 : Int32))))), (.int (nar .byte (own_hex (own_d xx (32 : Int32))))), (.int (nar .byte (own_hex (own_d xx (28 : Int32))))), (.int (nar .byte (own_hex (own_d xx (24 : Int32))))), (.int (nar .byte (own_hex (own_d xx (20 : Int32))))), (.int (nar .byte (own_hex (own_d xx (16 : Int32))))), (.int (nar .byte (own_hex (own_d xx (12 : Int32))))), (.int (nar .byte (own_hex (own_d xx (8 : Int32))))), (.int (nar .byte (own_hex (own_d xx (4 : Int32))))), (.int (nar .byte (own_hex (own_d xx (0 : Int32))))), (.int (nar .byte (45 : Int32))), (.int f)]) rfl N g_a1 47 (hb hby d_prog_27_method_3_46) rfl (fun T h17 locs X eT W V' N => ?_)
  replace Z0 := Nat.le_trans Z0 (Keep.of_wr W).1
  replace K := K.wr W (Or.inl (List.mem_of_getElem? (i := 0) rfl))
  replace O := O.wr W g_a1
  replace Va := V'
  exact o_retV X hx hlk hret (hb hby d_prog_27_method_3_47) (by decide) (by decide) (by rw [eT]; exact ⟨rfl, N, K, Va⟩)
def Q_wl3 (Z : State) (a1 hxa : Addr) (k1 kh : ClassId) (xx : Int64) (f : Int32) (h0 : Heap) (n0 : Nat) (v : Option Value) (h : Heap) (L : List Loc) : Prop := v = none ∧ Fr n0 L ∧ Keep h0 h [a1] ∧ Arv Z h a1 k1 .byte 20 [(.int f), (.int f), (.int f), (.int (nar .byte (own_hex (own_d xx (60 : Int32))))), (.int (nar .byte (own_hex (own_d xx (56 : Int32))))), (.int (nar .byte (own_hex (own_d xx (52 : Int32))))), (.int (nar .byte (own_hex (own_d xx (48 : Int32))))), (.int (nar .byte (own_hex (own_d xx (44 : Int32))))), (.int (nar .byte (own_hex (own_d xx (40 : Int32))))), (.int (nar .byte (own_hex (own_d xx (36 : Int32))))), (.int (nar .byte (own_hex (own_d xx (32 : Int32))))), (.int (nar .byte (own_hex (own_d xx (28 : Int32))))), (.int (nar .byte (own_hex (own_d xx (24 : Int32))))), (.int (nar .byte (own_hex (own_d xx (20 : Int32))))), (.int (nar .byte (own_hex (own_d xx (16 : Int32))))), (.int (nar .byte (own_hex (own_d xx (12 : Int32))))), (.int (nar .byte (own_hex (own_d xx (8 : Int32))))), (.int (nar .byte (own_hex (own_d xx (4 : Int32))))), (.int (nar .byte (own_hex (own_d xx (0 : Int32))))), (.int (nar .byte (45 : Int32)))] (.int 0)
set_option maxRecDepth 65536 in
set_option maxHeartbeats 40000000 in
theorem rm_wl3 (l : Launch) (Z : State) (a0 : Array Value) (hw : ∀ d ∈ tables_1, d.before a0 Z = true) (ws : List Jvm.Cond) (a1 hxa : Addr) (k1 kh : ClassId) (xx : Int64) (f : Int32) (h0 : Heap) (n0 : Nat) (Z0 : n0 ≤ h0.size) (O : Old Z n0 h0) (SH : Sta Z Z.heap "com/example/tidewater/tidewater/format/Pos" "HEX" "[B" (.ref hxa)) (VH : Arv Z Z.heap hxa kh .byte 16 own_hs (.int 0)) (Va : Arv Z h0 a1 k1 .byte 20 [(.int f), (.int f), (.int f), (.int f), (.int f), (.int f), (.int f), (.int f), (.int f), (.int f), (.int f), (.int f), (.int f), (.int f), (.int f), (.int f), (.int f), (.int f), (.int f), (.int f)] (.int 0)) (g_a1 : n0 ≤ a1) :
    Met l Z (⟨"com/example/tidewater/tidewater/format/Pos", "writeLsn", "([BIJ)V"⟩ : MethodName) prog_27_method_3_code 5 none ws ({ frames := 0, cells := 0, slots := 0, locals := 0 } : Room) #[(.ref a1), (.int (3 : Int32)), (.long xx)] h0 (Q_wl3 Z a1 hxa k1 kh xx f h0 n0) := by
  refine Met.start (plainFor_of_name pn_0) ?_
  intro p e s m below meth c T X hx hby hml hown hnm hret hlk hZ eT
  have N := Fr.nil n0
  have K := Keep.refl h0 [a1]
  refine Wout.cast (g' := (mkF m 0 #[.val (.ref a1), .val (.int (3 : Int32)), .val (.long xx), .second, .unset] [])) (by first | rfl | (simp [entryFrame, mkF, argsToLocals, Value.category]; done)) ?_
  refine o_iconst X hx 1 (0 : Int32) (hb hby d_prog_27_method_3_0) rfl rfl ?_
  refine o_istore X hx 3 (Ls' := #[.val (.ref a1), .val (.int (3 : Int32)), .val (.long xx), .second, .val (.int (0 : Int32))]) (hb hby d_prog_27_method_3_1) rfl rfl ?_
  refine o_iload X hx 5 (hb hby d_prog_27_method_3_3) rfl rfl ?_
  refine o_bipush X hx 7 (16 : Int32) (hb hby d_prog_27_method_3_5) rfl rfl ?_
  refine o_icmpF X hx 10 (hb hby d_prog_27_method_3_7) rfl (by decide : (0 : Int32) < (16 : Int32)) ?_
  refine o_aloadN X hx 11 (hb hby d_prog_27_method_3_10) rfl rfl rfl ?_
  refine o_iloadN X hx 12 (hb hby d_prog_27_method_3_11) rfl rfl ?_
  refine o_iload X hx 14 (hb hby d_prog_27_method_3_12) rfl rfl ?_
  refine o_iadd X hx 15 (hb hby d_prog_27_method_3_14) rfl ?_
  rw [show ((3 : Int32) + (0 : Int32)) = (3 : Int32) from by decide]
  refine o_getS X hx hZ hown (host := "") (Or.inl (hw _ (List.mem_of_getElem? (i := 5) rfl))) Via.refl eT (SH.ext O.2) 18 (hb hby d_prog_27_method_3_15) rfl (fun T X eT => ?_)
  refine o_lloadN X hx 19 (hb hby d_prog_27_method_3_18) rfl rfl ?_
  refine o_iconst X hx 20 (4 : Int32) (hb hby d_prog_27_method_3_19) rfl rfl ?_
  refine o_bipush X hx 22 (15 : Int32) (hb hby d_prog_27_method_3_20) rfl rfl ?_
  refine o_iload X hx 24 (hb hby d_prog_27_method_3_22) rfl rfl ?_
  refine o_isub X hx 25 (hb hby d_prog_27_method_3_24) rfl ?_
  rw [show ((15 : Int32) - (0 : Int32)) = (15 : Int32) from by decide]
  refine o_imul X hx 26 (hb hby d_prog_27_method_3_25) rfl ?_
  rw [show ((4 : Int32) * (15 : Int32)) = (60 : Int32) from by decide]
  refine o_lushr X hx 27 (hb hby d_prog_27_method_3_26) rfl ?_
  refine o_l2i X hx 28 (hb hby d_prog_27_method_3_27) rfl ?_
  refine o_bipush X hx 30 (15 : Int32) (hb hby d_prog_27_method_3_28) rfl rfl ?_
  refine o_iand X hx 31 (hb hby d_prog_27_method_3_30) rfl ?_
  show Wout p e below _ T (mkF m 31 #[.val (.ref a1), .val (.int (3 : Int32)), .val (.long xx), .second, .val (.int (0 : Int32))] [(.int (own_d xx (60 : Int32))), (.ref hxa), (.int (3 : Int32)), (.ref a1)])
  refine o_baload X hx hZ eT (VH.ext O.2) (own_idx (own_d16 xx _).1 (own_d16 xx _).2) (v := (.int (own_hex (own_d xx (60 : Int32))))) (own_hsat (own_d16 xx _).1 (own_d16 xx _).2) 32 (hb hby d_prog_27_method_3_31) rfl ?_
  refine o_bastore X hx hZ eT Va ⟨by decide, by decide⟩ 3 rfl (Nat.le_of_ble_eq_true rfl) (vs' := [(.int f), (.int f), (.int f), (.int (nar .byte (own_hex (own_d xx (60 : Int32))))), (.int f), (.int f), (.int f), (.int f), (.int f), (.int f), (.int f), (.int f), (.int f), (.int f), (.int f), (.int f), (.int f), (.int f), (.int f), (.int f)]) rfl N g_a1 33 (hb hby d_prog_27_method_3_32) rfl (fun T h1 locs X eT W V' N => ?_)
  replace Z0 := Nat.le_trans Z0 (Keep.of_wr W).1
  replace K := K.wr W (Or.inl (List.mem_of_getElem? (i := 0) rfl))
  replace O := O.wr W g_a1
  replace Va := V'
  refine o_iinc X hx 36 (Ls' := #[.val (.ref a1), .val (.int (3 : Int32)), .val (.long xx), .second, .val (.int ((0 : Int32) + (1 : Int32)))]) (1 : Int32) (hb hby d_prog_27_method_3_33) rfl rfl rfl rfl ?_
  rw [show ((0 : Int32) + (1 : Int32)) = (1 : Int32) from by decide]
  refine o_goto X hx 3 (hb hby d_prog_27_method_3_36) rfl ?_
  refine o_iload X hx 5 (hb hby d_prog_27_method_3_3) rfl rfl ?_
  refine o_bipush X hx 7 (16 : Int32) (hb hby d_prog_27_method_3_5) rfl rfl ?_
  refine o_icmpF X hx 10 (hb hby d_prog_27_method_3_7) rfl (by decide : (1 : Int32) < (16 : Int32)) ?_
  refine o_aloadN X hx 11 (hb hby d_prog_27_method_3_10) rfl rfl rfl ?_
  refine o_iloadN X hx 12 (hb hby d_prog_27_method_3_11) rfl rfl ?_
  refine o_iload X hx 14 (hb hby d_prog_27_method_3_12) rfl rfl ?_
  refine o_iadd X hx 15 (hb hby d_prog_27_method_3_14) rfl ?_
  rw [show ((3 : Int32) + (1 : Int32)) = (4 : Int32) from by decide]
  refine o_getS X hx hZ hown (host := "") (Or.inl (hw _ (List.mem_of_getElem? (i := 5) rfl))) Via.refl eT (SH.ext O.2) 18 (hb hby d_prog_27_method_3_15) rfl (fun T X eT => ?_)
  refine o_lloadN X hx 19 (hb hby d_prog_27_method_3_18) rfl rfl ?_
  refine o_iconst X hx 20 (4 : Int32) (hb hby d_prog_27_method_3_19) rfl rfl ?_
  refine o_bipush X hx 22 (15 : Int32) (hb hby d_prog_27_method_3_20) rfl rfl ?_
  refine o_iload X hx 24 (hb hby d_prog_27_method_3_22) rfl rfl ?_
  refine o_isub X hx 25 (hb hby d_prog_27_method_3_24) rfl ?_
  rw [show ((15 : Int32) - (1 : Int32)) = (14 : Int32) from by decide]
  refine o_imul X hx 26 (hb hby d_prog_27_method_3_25) rfl ?_
  rw [show ((4 : Int32) * (14 : Int32)) = (56 : Int32) from by decide]
  refine o_lushr X hx 27 (hb hby d_prog_27_method_3_26) rfl ?_
  refine o_l2i X hx 28 (hb hby d_prog_27_method_3_27) rfl ?_
  refine o_bipush X hx 30 (15 : Int32) (hb hby d_prog_27_method_3_28) rfl rfl ?_
  refine o_iand X hx 31 (hb hby d_prog_27_method_3_30) rfl ?_
  show Wout p e below _ T (mkF m 31 #[.val (.ref a1), .val (.int (3 : Int32)), .val (.long xx), .second, .val (.int (1 : Int32))] [(.int (own_d xx (56 : Int32))), (.ref hxa), (.int (4 : Int32)), (.ref a1)])
  refine o_baload X hx hZ eT (VH.ext O.2) (own_idx (own_d16 xx _).1 (own_d16 xx _).2) (v := (.int (own_hex (own_d xx (56 : Int32))))) (own_hsat (own_d16 xx _).1 (own_d16 xx _).2) 32 (hb hby d_prog_27_method_3_31) rfl ?_
  refine o_bastore X hx hZ eT Va ⟨by decide, by decide⟩ 4 rfl (Nat.le_of_ble_eq_true rfl) (vs' := [(.int f), (.int f), (.int f), (.int (nar .byte (own_hex (own_d xx (60 : Int32))))), (.int (nar .byte (own_hex (own_d xx (56 : Int32))))), (.int f), (.int f), (.int f), (.int f), (.int f), (.int f), (.int f), (.int f), (.int f), (.int f), (.int f), (.int f), (.int f), (.int f), (.int f)]) rfl N g_a1 33 (hb hby d_prog_27_method_3_32) rfl (fun T h2 locs X eT W V' N => ?_)
  replace Z0 := Nat.le_trans Z0 (Keep.of_wr W).1
  replace K := K.wr W (Or.inl (List.mem_of_getElem? (i := 0) rfl))
  replace O := O.wr W g_a1
  replace Va := V'
  refine o_iinc X hx 36 (Ls' := #[.val (.ref a1), .val (.int (3 : Int32)), .val (.long xx), .second, .val (.int ((1 : Int32) + (1 : Int32)))]) (1 : Int32) (hb hby d_prog_27_method_3_33) rfl rfl rfl rfl ?_
  rw [show ((1 : Int32) + (1 : Int32)) = (2 : Int32) from by decide]
  refine o_goto X hx 3 (hb hby d_prog_27_method_3_36) rfl ?_
  refine o_iload X hx 5 (hb hby d_prog_27_method_3_3) rfl rfl ?_
  refine o_bipush X hx 7 (16 : Int32) (hb hby d_prog_27_method_3_5) rfl rfl ?_
  refine o_icmpF X hx 10 (hb hby d_prog_27_method_3_7) rfl (by decide : (2 : Int32) < (16 : Int32)) ?_
  refine o_aloadN X hx 11 (hb hby d_prog_27_method_3_10) rfl rfl rfl ?_
  refine o_iloadN X hx 12 (hb hby d_prog_27_method_3_11) rfl rfl ?_
  refine o_iload X hx 14 (hb hby d_prog_27_method_3_12) rfl rfl ?_
  refine o_iadd X hx 15 (hb hby d_prog_27_method_3_14) rfl ?_
  rw [show ((3 : Int32) + (2 : Int32)) = (5 : Int32) from by decide]
  refine o_getS X hx hZ hown (host := "") (Or.inl (hw _ (List.mem_of_getElem? (i := 5) rfl))) Via.refl eT (SH.ext O.2) 18 (hb hby d_prog_27_method_3_15) rfl (fun T X eT => ?_)
  refine o_lloadN X hx 19 (hb hby d_prog_27_method_3_18) rfl rfl ?_
  refine o_iconst X hx 20 (4 : Int32) (hb hby d_prog_27_method_3_19) rfl rfl ?_
  refine o_bipush X hx 22 (15 : Int32) (hb hby d_prog_27_method_3_20) rfl rfl ?_
  refine o_iload X hx 24 (hb hby d_prog_27_method_3_22) rfl rfl ?_
  refine o_isub X hx 25 (hb hby d_prog_27_method_3_24) rfl ?_
  rw [show ((15 : Int32) - (2 : Int32)) = (13 : Int32) from by decide]
  refine o_imul X hx 26 (hb hby d_prog_27_method_3_25) rfl ?_
  rw [show ((4 : Int32) * (13 : Int32)) = (52 : Int32) from by decide]
  refine o_lushr X hx 27 (hb hby d_prog_27_method_3_26) rfl ?_
  refine o_l2i X hx 28 (hb hby d_prog_27_method_3_27) rfl ?_
  refine o_bipush X hx 30 (15 : Int32) (hb hby d_prog_27_method_3_28) rfl rfl ?_
  refine o_iand X hx 31 (hb hby d_prog_27_method_3_30) rfl ?_
  show Wout p e below _ T (mkF m 31 #[.val (.ref a1), .val (.int (3 : Int32)), .val (.long xx), .second, .val (.int (2 : Int32))] [(.int (own_d xx (52 : Int32))), (.ref hxa), (.int (5 : Int32)), (.ref a1)])
  refine o_baload X hx hZ eT (VH.ext O.2) (own_idx (own_d16 xx _).1 (own_d16 xx _).2) (v := (.int (own_hex (own_d xx (52 : Int32))))) (own_hsat (own_d16 xx _).1 (own_d16 xx _).2) 32 (hb hby d_prog_27_method_3_31) rfl ?_
  refine o_bastore X hx hZ eT Va ⟨by decide, by decide⟩ 5 rfl (Nat.le_of_ble_eq_true rfl) (vs' := [(.int f), (.int f), (.int f), (.int (nar .byte (own_hex (own_d xx (60 : Int32))))), (.int (nar .byte (own_hex (own_d xx (56 : Int32))))), (.int (nar .byte (own_hex (own_d xx (52 : Int32))))), (.int f), (.int f), (.int f), (.int f), (.int f), (.int f), (.int f), (.int f), (.int f), (.int f), (.int f), (.int f), (.int f), (.int f)]) rfl N g_a1 33 (hb hby d_prog_27_method_3_32) rfl (fun T h3 locs X eT W V' N => ?_)
  replace Z0 := Nat.le_trans Z0 (Keep.of_wr W).1
  replace K := K.wr W (Or.inl (List.mem_of_getElem? (i := 0) rfl))
  replace O := O.wr W g_a1
  replace Va := V'
  refine o_iinc X hx 36 (Ls' := #[.val (.ref a1), .val (.int (3 : Int32)), .val (.long xx), .second, .val (.int ((2 : Int32) + (1 : Int32)))]) (1 : Int32) (hb hby d_prog_27_method_3_33) rfl rfl rfl rfl ?_
  rw [show ((2 : Int32) + (1 : Int32)) = (3 : Int32) from by decide]
  refine o_goto X hx 3 (hb hby d_prog_27_method_3_36) rfl ?_
  refine o_iload X hx 5 (hb hby d_prog_27_method_3_3) rfl rfl ?_
  refine o_bipush X hx 7 (16 : Int32) (hb hby d_prog_27_method_3_5) rfl rfl ?_
  refine o_icmpF X hx 10 (hb hby d_prog_27_method_3_7) rfl (by decide : (3 : Int32) < (16 : Int32)) ?_
  refine o_aloadN X hx 11 (hb hby d_prog_27_method_3_10) rfl rfl rfl ?_
  refine o_iloadN X hx 12 (hb hby d_prog_27_method_3_11) rfl rfl ?_
  refine o_iload X hx 14 (hb hby d_prog_27_method_3_12) rfl rfl ?_
  refine o_iadd X hx 15 (hb hby d_prog_27_method_3_14) rfl ?_
  rw [show ((3 : Int32) + (3 : Int32)) = (6 : Int32) from by decide]
  refine o_getS X hx hZ hown (host := "") (Or.inl (hw _ (List.mem_of_getElem? (i := 5) rfl))) Via.refl eT (SH.ext O.2) 18 (hb hby d_prog_27_method_3_15) rfl (fun T X eT => ?_)
  refine o_lloadN X hx 19 (hb hby d_prog_27_method_3_18) rfl rfl ?_
  refine o_iconst X hx 20 (4 : Int32) (hb hby d_prog_27_method_3_19) rfl rfl ?_
  refine o_bipush X hx 22 (15 : Int32) (hb hby d_prog_27_method_3_20) rfl rfl ?_
  refine o_iload X hx 24 (hb hby d_prog_27_method_3_22) rfl rfl ?_
  refine o_isub X hx 25 (hb hby d_prog_27_method_3_24) rfl ?_
  rw [show ((15 : Int32) - (3 : Int32)) = (12 : Int32) from by decide]
  refine o_imul X hx 26 (hb hby d_prog_27_method_3_25) rfl ?_
  rw [show ((4 : Int32) * (12 : Int32)) = (48 : Int32) from by decide]
  refine o_lushr X hx 27 (hb hby d_prog_27_method_3_26) rfl ?_
  refine o_l2i X hx 28 (hb hby d_prog_27_method_3_27) rfl ?_
  refine o_bipush X hx 30 (15 : Int32) (hb hby d_prog_27_method_3_28) rfl rfl ?_
  refine o_iand X hx 31 (hb hby d_prog_27_method_3_30) rfl ?_
  show Wout p e below _ T (mkF m 31 #[.val (.ref a1), .val (.int (3 : Int32)), .val (.long xx), .second, .val (.int (3 : Int32))] [(.int (own_d xx (48 : Int32))), (.ref hxa), (.int (6 : Int32)), (.ref a1)])
  refine o_baload X hx hZ eT (VH.ext O.2) (own_idx (own_d16 xx _).1 (own_d16 xx _).2) (v := (.int (own_hex (own_d xx (48 : Int32))))) (own_hsat (own_d16 xx _).1 (own_d16 xx _).2) 32 (hb hby d_prog_27_method_3_31) rfl ?_
  refine o_bastore X hx hZ eT Va ⟨by decide, by decide⟩ 6 rfl (Nat.le_of_ble_eq_true rfl) (vs' := [(.int f), (.int f), (.int f), (.int (nar .byte (own_hex (own_d xx (60 : Int32))))), (.int (nar .byte (own_hex (own_d xx (56 : Int32))))), (.int (nar .byte (own_hex (own_d xx (52 : Int32))))), (.int (nar .byte (own_hex (own_d xx (48 : Int32))))), (.int f), (.int f), (.int f), (.int f), (.int f), (.int f), (.int f), (.int f), (.int f), (.int f), (.int f), (.int f), (.int f)]) rfl N g_a1 33 (hb hby d_prog_27_method_3_32) rfl (fun T h4 locs X eT W V' N => ?_)
  replace Z0 := Nat.le_trans Z0 (Keep.of_wr W).1
  replace K := K.wr W (Or.inl (List.mem_of_getElem? (i := 0) rfl))
  replace O := O.wr W g_a1
  replace Va := V'
  refine o_iinc X hx 36 (Ls' := #[.val (.ref a1), .val (.int (3 : Int32)), .val (.long xx), .second, .val (.int ((3 : Int32) + (1 : Int32)))]) (1 : Int32) (hb hby d_prog_27_method_3_33) rfl rfl rfl rfl ?_
  rw [show ((3 : Int32) + (1 : Int32)) = (4 : Int32) from by decide]
  refine o_goto X hx 3 (hb hby d_prog_27_method_3_36) rfl ?_
  refine o_iload X hx 5 (hb hby d_prog_27_method_3_3) rfl rfl ?_
  refine o_bipush X hx 7 (16 : Int32) (hb hby d_prog_27_method_3_5) rfl rfl ?_
  refine o_icmpF X hx 10 (hb hby d_prog_27_method_3_7) rfl (by decide : (4 : Int32) < (16 : Int32)) ?_
  refine o_aloadN X hx 11 (hb hby d_prog_27_method_3_10) rfl rfl rfl ?_
  refine o_iloadN X hx 12 (hb hby d_prog_27_method_3_11) rfl rfl ?_
  refine o_iload X hx 14 (hb hby d_prog_27_method_3_12) rfl rfl ?_
  refine o_iadd X hx 15 (hb hby d_prog_27_method_3_14) rfl ?_
  rw [show ((3 : Int32) + (4 : Int32)) = (7 : Int32) from by decide]
  refine o_getS X hx hZ hown (host := "") (Or.inl (hw _ (List.mem_of_getElem? (i := 5) rfl))) Via.refl eT (SH.ext O.2) 18 (hb hby d_prog_27_method_3_15) rfl (fun T X eT => ?_)
  refine o_lloadN X hx 19 (hb hby d_prog_27_method_3_18) rfl rfl ?_
  refine o_iconst X hx 20 (4 : Int32) (hb hby d_prog_27_method_3_19) rfl rfl ?_
  refine o_bipush X hx 22 (15 : Int32) (hb hby d_prog_27_method_3_20) rfl rfl ?_
  refine o_iload X hx 24 (hb hby d_prog_27_method_3_22) rfl rfl ?_
  refine o_isub X hx 25 (hb hby d_prog_27_method_3_24) rfl ?_
  rw [show ((15 : Int32) - (4 : Int32)) = (11 : Int32) from by decide]
  refine o_imul X hx 26 (hb hby d_prog_27_method_3_25) rfl ?_
  rw [show ((4 : Int32) * (11 : Int32)) = (44 : Int32) from by decide]
  refine o_lushr X hx 27 (hb hby d_prog_27_method_3_26) rfl ?_
  refine o_l2i X hx 28 (hb hby d_prog_27_method_3_27) rfl ?_
  refine o_bipush X hx 30 (15 : Int32) (hb hby d_prog_27_method_3_28) rfl rfl ?_
  refine o_iand X hx 31 (hb hby d_prog_27_method_3_30) rfl ?_
  show Wout p e below _ T (mkF m 31 #[.val (.ref a1), .val (.int (3 : Int32)), .val (.long xx), .second, .val (.int (4 : Int32))] [(.int (own_d xx (44 : Int32))), (.ref hxa), (.int (7 : Int32)), (.ref a1)])
  refine o_baload X hx hZ eT (VH.ext O.2) (own_idx (own_d16 xx _).1 (own_d16 xx _).2) (v := (.int (own_hex (own_d xx (44 : Int32))))) (own_hsat (own_d16 xx _).1 (own_d16 xx _).2) 32 (hb hby d_prog_27_method_3_31) rfl ?_
  refine o_bastore X hx hZ eT Va ⟨by decide, by decide⟩ 7 rfl (Nat.le_of_ble_eq_true rfl) (vs' := [(.int f), (.int f), (.int f), (.int (nar .byte (own_hex (own_d xx (60 : Int32))))), (.int (nar .byte (own_hex (own_d xx (56 : Int32))))), (.int (nar .byte (own_hex (own_d xx (52 : Int32))))), (.int (nar .byte (own_hex (own_d xx (48 : Int32))))), (.int (nar .byte (own_hex (own_d xx (44 : Int32))))), (.int f), (.int f), (.int f), (.int f), (.int f), (.int f), (.int f), (.int f), (.int f), (.int f), (.int f), (.int f)]) rfl N g_a1 33 (hb hby d_prog_27_method_3_32) rfl (fun T h5 locs X eT W V' N => ?_)
  replace Z0 := Nat.le_trans Z0 (Keep.of_wr W).1
  replace K := K.wr W (Or.inl (List.mem_of_getElem? (i := 0) rfl))
  replace O := O.wr W g_a1
  replace Va := V'
  refine o_iinc X hx 36 (Ls' := #[.val (.ref a1), .val (.int (3 : Int32)), .val (.long xx), .second, .val (.int ((4 : Int32) + (1 : Int32)))]) (1 : Int32) (hb hby d_prog_27_method_3_33) rfl rfl rfl rfl ?_
  rw [show ((4 : Int32) + (1 : Int32)) = (5 : Int32) from by decide]
  refine o_goto X hx 3 (hb hby d_prog_27_method_3_36) rfl ?_
  refine o_iload X hx 5 (hb hby d_prog_27_method_3_3) rfl rfl ?_
  refine o_bipush X hx 7 (16 : Int32) (hb hby d_prog_27_method_3_5) rfl rfl ?_
  refine o_icmpF X hx 10 (hb hby d_prog_27_method_3_7) rfl (by decide : (5 : Int32) < (16 : Int32)) ?_
  refine o_aloadN X hx 11 (hb hby d_prog_27_method_3_10) rfl rfl rfl ?_
  refine o_iloadN X hx 12 (hb hby d_prog_27_method_3_11) rfl rfl ?_
  refine o_iload X hx 14 (hb hby d_prog_27_method_3_12) rfl rfl ?_
  refine o_iadd X hx 15 (hb hby d_prog_27_method_3_14) rfl ?_
  rw [show ((3 : Int32) + (5 : Int32)) = (8 : Int32) from by decide]
  refine o_getS X hx hZ hown (host := "") (Or.inl (hw _ (List.mem_of_getElem? (i := 5) rfl))) Via.refl eT (SH.ext O.2) 18 (hb hby d_prog_27_method_3_15) rfl (fun T X eT => ?_)
  refine o_lloadN X hx 19 (hb hby d_prog_27_method_3_18) rfl rfl ?_
  refine o_iconst X hx 20 (4 : Int32) (hb hby d_prog_27_method_3_19) rfl rfl ?_
  refine o_bipush X hx 22 (15 : Int32) (hb hby d_prog_27_method_3_20) rfl rfl ?_
  refine o_iload X hx 24 (hb hby d_prog_27_method_3_22) rfl rfl ?_
  refine o_isub X hx 25 (hb hby d_prog_27_method_3_24) rfl ?_
  rw [show ((15 : Int32) - (5 : Int32)) = (10 : Int32) from by decide]
  refine o_imul X hx 26 (hb hby d_prog_27_method_3_25) rfl ?_
  rw [show ((4 : Int32) * (10 : Int32)) = (40 : Int32) from by decide]
  refine o_lushr X hx 27 (hb hby d_prog_27_method_3_26) rfl ?_
  refine o_l2i X hx 28 (hb hby d_prog_27_method_3_27) rfl ?_
  refine o_bipush X hx 30 (15 : Int32) (hb hby d_prog_27_method_3_28) rfl rfl ?_
  refine o_iand X hx 31 (hb hby d_prog_27_method_3_30) rfl ?_
  show Wout p e below _ T (mkF m 31 #[.val (.ref a1), .val (.int (3 : Int32)), .val (.long xx), .second, .val (.int (5 : Int32))] [(.int (own_d xx (40 : Int32))), (.ref hxa), (.int (8 : Int32)), (.ref a1)])
  refine o_baload X hx hZ eT (VH.ext O.2) (own_idx (own_d16 xx _).1 (own_d16 xx _).2) (v := (.int (own_hex (own_d xx (40 : Int32))))) (own_hsat (own_d16 xx _).1 (own_d16 xx _).2) 32 (hb hby d_prog_27_method_3_31) rfl ?_
  refine o_bastore X hx hZ eT Va ⟨by decide, by decide⟩ 8 rfl (Nat.le_of_ble_eq_true rfl) (vs' := [(.int f), (.int f), (.int f), (.int (nar .byte (own_hex (own_d xx (60 : Int32))))), (.int (nar .byte (own_hex (own_d xx (56 : Int32))))), (.int (nar .byte (own_hex (own_d xx (52 : Int32))))), (.int (nar .byte (own_hex (own_d xx (48 : Int32))))), (.int (nar .byte (own_hex (own_d xx (44 : Int32))))), (.int (nar .byte (own_hex (own_d xx (40 : Int32))))), (.int f), (.int f), (.int f), (.int f), (.int f), (.int f), (.int f), (.int f), (.int f), (.int f), (.int f)]) rfl N g_a1 33 (hb hby d_prog_27_method_3_32) rfl (fun T h6 locs X eT W V' N => ?_)
  replace Z0 := Nat.le_trans Z0 (Keep.of_wr W).1
  replace K := K.wr W (Or.inl (List.mem_of_getElem? (i := 0) rfl))
  replace O := O.wr W g_a1
  replace Va := V'
  refine o_iinc X hx 36 (Ls' := #[.val (.ref a1), .val (.int (3 : Int32)), .val (.long xx), .second, .val (.int ((5 : Int32) + (1 : Int32)))]) (1 : Int32) (hb hby d_prog_27_method_3_33) rfl rfl rfl rfl ?_
  rw [show ((5 : Int32) + (1 : Int32)) = (6 : Int32) from by decide]
  refine o_goto X hx 3 (hb hby d_prog_27_method_3_36) rfl ?_
  refine o_iload X hx 5 (hb hby d_prog_27_method_3_3) rfl rfl ?_
  refine o_bipush X hx 7 (16 : Int32) (hb hby d_prog_27_method_3_5) rfl rfl ?_
  refine o_icmpF X hx 10 (hb hby d_prog_27_method_3_7) rfl (by decide : (6 : Int32) < (16 : Int32)) ?_
  refine o_aloadN X hx 11 (hb hby d_prog_27_method_3_10) rfl rfl rfl ?_
  refine o_iloadN X hx 12 (hb hby d_prog_27_method_3_11) rfl rfl ?_
  refine o_iload X hx 14 (hb hby d_prog_27_method_3_12) rfl rfl ?_
  refine o_iadd X hx 15 (hb hby d_prog_27_method_3_14) rfl ?_
  rw [show ((3 : Int32) + (6 : Int32)) = (9 : Int32) from by decide]
  refine o_getS X hx hZ hown (host := "") (Or.inl (hw _ (List.mem_of_getElem? (i := 5) rfl))) Via.refl eT (SH.ext O.2) 18 (hb hby d_prog_27_method_3_15) rfl (fun T X eT => ?_)
  refine o_lloadN X hx 19 (hb hby d_prog_27_method_3_18) rfl rfl ?_
  refine o_iconst X hx 20 (4 : Int32) (hb hby d_prog_27_method_3_19) rfl rfl ?_
  refine o_bipush X hx 22 (15 : Int32) (hb hby d_prog_27_method_3_20) rfl rfl ?_
  refine o_iload X hx 24 (hb hby d_prog_27_method_3_22) rfl rfl ?_
  refine o_isub X hx 25 (hb hby d_prog_27_method_3_24) rfl ?_
  rw [show ((15 : Int32) - (6 : Int32)) = (9 : Int32) from by decide]
  refine o_imul X hx 26 (hb hby d_prog_27_method_3_25) rfl ?_
  rw [show ((4 : Int32) * (9 : Int32)) = (36 : Int32) from by decide]
  refine o_lushr X hx 27 (hb hby d_prog_27_method_3_26) rfl ?_
  refine o_l2i X hx 28 (hb hby d_prog_27_method_3_27) rfl ?_
  refine o_bipush X hx 30 (15 : Int32) (hb hby d_prog_27_method_3_28) rfl rfl ?_
  refine o_iand X hx 31 (hb hby d_prog_27_method_3_30) rfl ?_
  show Wout p e below _ T (mkF m 31 #[.val (.ref a1), .val (.int (3 : Int32)), .val (.long xx), .second, .val (.int (6 : Int32))] [(.int (own_d xx (36 : Int32))), (.ref hxa), (.int (9 : Int32)), (.ref a1)])
  refine o_baload X hx hZ eT (VH.ext O.2) (own_idx (own_d16 xx _).1 (own_d16 xx _).2) (v := (.int (own_hex (own_d xx (36 : Int32))))) (own_hsat (own_d16 xx _).1 (own_d16 xx _).2) 32 (hb hby d_prog_27_method_3_31) rfl ?_
  refine o_bastore X hx hZ eT Va ⟨by decide, by decide⟩ 9 rfl (Nat.le_of_ble_eq_true rfl) (vs' := [(.int f), (.int f), (.int f), (.int (nar .byte (own_hex (own_d xx (60 : Int32))))), (.int (nar .byte (own_hex (own_d xx (56 : Int32))))), (.int (nar .byte (own_hex (own_d xx (52 : Int32))))), (.int (nar .byte (own_hex (own_d xx (48 : Int32))))), (.int (nar .byte (own_hex (own_d xx (44 : Int32))))), (.int (nar .byte (own_hex (own_d xx (40 : Int32))))), (.int (nar .byte (own_hex (own_d xx (36 : Int32))))), (.int f), (.int f), (.int f), (.int f), (.int f), (.int f), (.int f), (.int f), (.int f), (.int f)]) rfl N g_a1 33 (hb hby d_prog_27_method_3_32) rfl (fun T h7 locs X eT W V' N => ?_)
  replace Z0 := Nat.le_trans Z0 (Keep.of_wr W).1
  replace K := K.wr W (Or.inl (List.mem_of_getElem? (i := 0) rfl))
  replace O := O.wr W g_a1
  replace Va := V'
  refine o_iinc X hx 36 (Ls' := #[.val (.ref a1), .val (.int (3 : Int32)), .val (.long xx), .second, .val (.int ((6 : Int32) + (1 : Int32)))]) (1 : Int32) (hb hby d_prog_27_method_3_33) rfl rfl rfl rfl ?_
  rw [show ((6 : Int32) + (1 : Int32)) = (7 : Int32) from by decide]
  refine o_goto X hx 3 (hb hby d_prog_27_method_3_36) rfl ?_
  refine o_iload X hx 5 (hb hby d_prog_27_method_3_3) rfl rfl ?_
  refine o_bipush X hx 7 (16 : Int32) (hb hby d_prog_27_method_3_5) rfl rfl ?_
  refine o_icmpF X hx 10 (hb hby d_prog_27_method_3_7) rfl (by decide : (7 : Int32) < (16 : Int32)) ?_
  refine o_aloadN X hx 11 (hb hby d_prog_27_method_3_10) rfl rfl rfl ?_
  refine o_iloadN X hx 12 (hb hby d_prog_27_method_3_11) rfl rfl ?_
  refine o_iload X hx 14 (hb hby d_prog_27_method_3_12) rfl rfl ?_
  refine o_iadd X hx 15 (hb hby d_prog_27_method_3_14) rfl ?_
  rw [show ((3 : Int32) + (7 : Int32)) = (10 : Int32) from by decide]
  refine o_getS X hx hZ hown (host := "") (Or.inl (hw _ (List.mem_of_getElem? (i := 5) rfl))) Via.refl eT (SH.ext O.2) 18 (hb hby d_prog_27_method_3_15) rfl (fun T X eT => ?_)
  refine o_lloadN X hx 19 (hb hby d_prog_27_method_3_18) rfl rfl ?_
  refine o_iconst X hx 20 (4 : Int32) (hb hby d_prog_27_method_3_19) rfl rfl ?_
  refine o_bipush X hx 22 (15 : Int32) (hb hby d_prog_27_method_3_20) rfl rfl ?_
  refine o_iload X hx 24 (hb hby d_prog_27_method_3_22) rfl rfl ?_
  refine o_isub X hx 25 (hb hby d_prog_27_method_3_24) rfl ?_
  rw [show ((15 : Int32) - (7 : Int32)) = (8 : Int32) from by decide]
  refine o_imul X hx 26 (hb hby d_prog_27_method_3_25) rfl ?_
  rw [show ((4 : Int32) * (8 : Int32)) = (32 : Int32) from by decide]
  refine o_lushr X hx 27 (hb hby d_prog_27_method_3_26) rfl ?_
  refine o_l2i X hx 28 (hb hby d_prog_27_method_3_27) rfl ?_
  refine o_bipush X hx 30 (15 : Int32) (hb hby d_prog_27_method_3_28) rfl rfl ?_
  refine o_iand X hx 31 (hb hby d_prog_27_method_3_30) rfl ?_
  show Wout p e below _ T (mkF m 31 #[.val (.ref a1), .val (.int (3 : Int32)), .val (.long xx), .second, .val (.int (7 : Int32))] [(.int (own_d xx (32 : Int32))), (.ref hxa), (.int (10 : Int32)), (.ref a1)])
  refine o_baload X hx hZ eT (VH.ext O.2) (own_idx (own_d16 xx _).1 (own_d16 xx _).2) (v := (.int (own_hex (own_d xx (32 : Int32))))) (own_hsat (own_d16 xx _).1 (own_d16 xx _).2) 32 (hb hby d_prog_27_method_3_31) rfl ?_
  refine o_bastore X hx hZ eT Va ⟨by decide, by decide⟩ 10 rfl (Nat.le_of_ble_eq_true rfl) (vs' := [(.int f), (.int f), (.int f), (.int (nar .byte (own_hex (own_d xx (60 : Int32))))), (.int (nar .byte (own_hex (own_d xx (56 : Int32))))), (.int (nar .byte (own_hex (own_d xx (52 : Int32))))), (.int (nar .byte (own_hex (own_d xx (48 : Int32))))), (.int (nar .byte (own_hex (own_d xx (44 : Int32))))), (.int (nar .byte (own_hex (own_d xx (40 : Int32))))), (.int (nar .byte (own_hex (own_d xx (36 : Int32))))), (.int (nar .byte (own_hex (own_d xx (32 : Int32))))), (.int f), (.int f), (.int f), (.int f), (.int f), (.int f), (.int f), (.int f), (.int f)]) rfl N g_a1 33 (hb hby d_prog_27_method_3_32) rfl (fun T h8 locs X eT W V' N => ?_)
  replace Z0 := Nat.le_trans Z0 (Keep.of_wr W).1
  replace K := K.wr W (Or.inl (List.mem_of_getElem? (i := 0) rfl))
  replace O := O.wr W g_a1
  replace Va := V'
  refine o_iinc X hx 36 (Ls' := #[.val (.ref a1), .val (.int (3 : Int32)), .val (.long xx), .second, .val (.int ((7 : Int32) + (1 : Int32)))]) (1 : Int32) (hb hby d_prog_27_method_3_33) rfl rfl rfl rfl ?_
  rw [show ((7 : Int32) + (1 : Int32)) = (8 : Int32) from by decide]
  refine o_goto X hx 3 (hb hby d_prog_27_method_3_36) rfl ?_
  refine o_iload X hx 5 (hb hby d_prog_27_method_3_3) rfl rfl ?_
  refine o_bipush X hx 7 (16 : Int32) (hb hby d_prog_27_method_3_5) rfl rfl ?_
  refine o_icmpF X hx 10 (hb hby d_prog_27_method_3_7) rfl (by decide : (8 : Int32) < (16 : Int32)) ?_
  refine o_aloadN X hx 11 (hb hby d_prog_27_method_3_10) rfl rfl rfl ?_
  refine o_iloadN X hx 12 (hb hby d_prog_27_method_3_11) rfl rfl ?_
  refine o_iload X hx 14 (hb hby d_prog_27_method_3_12) rfl rfl ?_
  refine o_iadd X hx 15 (hb hby d_prog_27_method_3_14) rfl ?_
  rw [show ((3 : Int32) + (8 : Int32)) = (11 : Int32) from by decide]
  refine o_getS X hx hZ hown (host := "") (Or.inl (hw _ (List.mem_of_getElem? (i := 5) rfl))) Via.refl eT (SH.ext O.2) 18 (hb hby d_prog_27_method_3_15) rfl (fun T X eT => ?_)
  refine o_lloadN X hx 19 (hb hby d_prog_27_method_3_18) rfl rfl ?_
  refine o_iconst X hx 20 (4 : Int32) (hb hby d_prog_27_method_3_19) rfl rfl ?_
  refine o_bipush X hx 22 (15 : Int32) (hb hby d_prog_27_method_3_20) rfl rfl ?_
  refine o_iload X hx 24 (hb hby d_prog_27_method_3_22) rfl rfl ?_
  refine o_isub X hx 25 (hb hby d_prog_27_method_3_24) rfl ?_
  rw [show ((15 : Int32) - (8 : Int32)) = (7 : Int32) from by decide]
  refine o_imul X hx 26 (hb hby d_prog_27_method_3_25) rfl ?_
  rw [show ((4 : Int32) * (7 : Int32)) = (28 : Int32) from by decide]
  refine o_lushr X hx 27 (hb hby d_prog_27_method_3_26) rfl ?_
  refine o_l2i X hx 28 (hb hby d_prog_27_method_3_27) rfl ?_
  refine o_bipush X hx 30 (15 : Int32) (hb hby d_prog_27_method_3_28) rfl rfl ?_
  refine o_iand X hx 31 (hb hby d_prog_27_method_3_30) rfl ?_
  show Wout p e below _ T (mkF m 31 #[.val (.ref a1), .val (.int (3 : Int32)), .val (.long xx), .second, .val (.int (8 : Int32))] [(.int (own_d xx (28 : Int32))), (.ref hxa), (.int (11 : Int32)), (.ref a1)])
  refine o_baload X hx hZ eT (VH.ext O.2) (own_idx (own_d16 xx _).1 (own_d16 xx _).2) (v := (.int (own_hex (own_d xx (28 : Int32))))) (own_hsat (own_d16 xx _).1 (own_d16 xx _).2) 32 (hb hby d_prog_27_method_3_31) rfl ?_
  refine o_bastore X hx hZ eT Va ⟨by decide, by decide⟩ 11 rfl (Nat.le_of_ble_eq_true rfl) (vs' := [(.int f), (.int f), (.int f), (.int (nar .byte (own_hex (own_d xx (60 : Int32))))), (.int (nar .byte (own_hex (own_d xx (56 : Int32))))), (.int (nar .byte (own_hex (own_d xx (52 : Int32))))), (.int (nar .byte (own_hex (own_d xx (48 : Int32))))), (.int (nar .byte (own_hex (own_d xx (44 : Int32))))), (.int (nar .byte (own_hex (own_d xx (40 : Int32))))), (.int (nar .byte (own_hex (own_d xx (36 : Int32))))), (.int (nar .byte (own_hex (own_d xx (32 : Int32))))), (.int (nar .byte (own_hex (own_d xx (28 : Int32))))), (.int f), (.int f), (.int f), (.int f), (.int f), (.int f), (.int f), (.int f)]) rfl N g_a1 33 (hb hby d_prog_27_method_3_32) rfl (fun T h9 locs X eT W V' N => ?_)
  replace Z0 := Nat.le_trans Z0 (Keep.of_wr W).1
  replace K := K.wr W (Or.inl (List.mem_of_getElem? (i := 0) rfl))
  replace O := O.wr W g_a1
  replace Va := V'
  refine o_iinc X hx 36 (Ls' := #[.val (.ref a1), .val (.int (3 : Int32)), .val (.long xx), .second, .val (.int ((8 : Int32) + (1 : Int32)))]) (1 : Int32) (hb hby d_prog_27_method_3_33) rfl rfl rfl rfl ?_
  rw [show ((8 : Int32) + (1 : Int32)) = (9 : Int32) from by decide]
  refine o_goto X hx 3 (hb hby d_prog_27_method_3_36) rfl ?_
  refine o_iload X hx 5 (hb hby d_prog_27_method_3_3) rfl rfl ?_
  refine o_bipush X hx 7 (16 : Int32) (hb hby d_prog_27_method_3_5) rfl rfl ?_
  refine o_icmpF X hx 10 (hb hby d_prog_27_method_3_7) rfl (by decide : (9 : Int32) < (16 : Int32)) ?_
  refine o_aloadN X hx 11 (hb hby d_prog_27_method_3_10) rfl rfl rfl ?_
  refine o_iloadN X hx 12 (hb hby d_prog_27_method_3_11) rfl rfl ?_
  refine o_iload X hx 14 (hb hby d_prog_27_method_3_12) rfl rfl ?_
  refine o_iadd X hx 15 (hb hby d_prog_27_method_3_14) rfl ?_
  rw [show ((3 : Int32) + (9 : Int32)) = (12 : Int32) from by decide]
  refine o_getS X hx hZ hown (host := "") (Or.inl (hw _ (List.mem_of_getElem? (i := 5) rfl))) Via.refl eT (SH.ext O.2) 18 (hb hby d_prog_27_method_3_15) rfl (fun T X eT => ?_)
  refine o_lloadN X hx 19 (hb hby d_prog_27_method_3_18) rfl rfl ?_
  refine o_iconst X hx 20 (4 : Int32) (hb hby d_prog_27_method_3_19) rfl rfl ?_
  refine o_bipush X hx 22 (15 : Int32) (hb hby d_prog_27_method_3_20) rfl rfl ?_
  refine o_iload X hx 24 (hb hby d_prog_27_method_3_22) rfl rfl ?_
  refine o_isub X hx 25 (hb hby d_prog_27_method_3_24) rfl ?_
  rw [show ((15 : Int32) - (9 : Int32)) = (6 : Int32) from by decide]
  refine o_imul X hx 26 (hb hby d_prog_27_method_3_25) rfl ?_
  rw [show ((4 : Int32) * (6 : Int32)) = (24 : Int32) from by decide]
  refine o_lushr X hx 27 (hb hby d_prog_27_method_3_26) rfl ?_
  refine o_l2i X hx 28 (hb hby d_prog_27_method_3_27) rfl ?_
  refine o_bipush X hx 30 (15 : Int32) (hb hby d_prog_27_method_3_28) rfl rfl ?_
  refine o_iand X hx 31 (hb hby d_prog_27_method_3_30) rfl ?_
  show Wout p e below _ T (mkF m 31 #[.val (.ref a1), .val (.int (3 : Int32)), .val (.long xx), .second, .val (.int (9 : Int32))] [(.int (own_d xx (24 : Int32))), (.ref hxa), (.int (12 : Int32)), (.ref a1)])
  refine o_baload X hx hZ eT (VH.ext O.2) (own_idx (own_d16 xx _).1 (own_d16 xx _).2) (v := (.int (own_hex (own_d xx (24 : Int32))))) (own_hsat (own_d16 xx _).1 (own_d16 xx _).2) 32 (hb hby d_prog_27_method_3_31) rfl ?_
  refine o_bastore X hx hZ eT Va ⟨by decide, by decide⟩ 12 rfl (Nat.le_of_ble_eq_true rfl) (vs' := [(.int f), (.int f), (.int f), (.int (nar .byte (own_hex (own_d xx (60 : Int32))))), (.int (nar .byte (own_hex (own_d xx (56 : Int32))))), (.int (nar .byte (own_hex (own_d xx (52 : Int32))))), (.int (nar .byte (own_hex (own_d xx (48 : Int32))))), (.int (nar .byte (own_hex (own_d xx (44 : Int32))))), (.int (nar .byte (own_hex (own_d xx (40 : Int32))))), (.int (nar .byte (own_hex (own_d xx (36 : Int32))))), (.int (nar .byte (own_hex (own_d xx (32 : Int32))))), (.int (nar .byte (own_hex (own_d xx (28 : Int32))))), (.int (nar .byte (own_hex (own_d xx (24 : Int32))))), (.int f), (.int f), (.int f), (.int f), (.int f), (.int f), (.int f)]) rfl N g_a1 33 (hb hby d_prog_27_method_3_32) rfl (fun T h10 locs X eT W V' N => ?_)
  replace Z0 := Nat.le_trans Z0 (Keep.of_wr W).1
  replace K := K.wr W (Or.inl (List.mem_of_getElem? (i := 0) rfl))
  replace O := O.wr W g_a1
  replace Va := V'
  refine o_iinc X hx 36 (Ls' := #[.val (.ref a1), .val (.int (3 : Int32)), .val (.long xx), .second, .val (.int ((9 : Int32) + (1 : Int32)))]) (1 : Int32) (hb hby d_prog_27_method_3_33) rfl rfl rfl rfl ?_
  rw [show ((9 : Int32) + (1 : Int32)) = (10 : Int32) from by decide]
  refine o_goto X hx 3 (hb hby d_prog_27_method_3_36) rfl ?_
  refine o_iload X hx 5 (hb hby d_prog_27_method_3_3) rfl rfl ?_
  refine o_bipush X hx 7 (16 : Int32) (hb hby d_prog_27_method_3_5) rfl rfl ?_
  refine o_icmpF X hx 10 (hb hby d_prog_27_method_3_7) rfl (by decide : (10 : Int32) < (16 : Int32)) ?_
  refine o_aloadN X hx 11 (hb hby d_prog_27_method_3_10) rfl rfl rfl ?_
  refine o_iloadN X hx 12 (hb hby d_prog_27_method_3_11) rfl rfl ?_
  refine o_iload X hx 14 (hb hby d_prog_27_method_3_12) rfl rfl ?_
  refine o_iadd X hx 15 (hb hby d_prog_27_method_3_14) rfl ?_
  rw [show ((3 : Int32) + (10 : Int32)) = (13 : Int32) from by decide]
  refine o_getS X hx hZ hown (host := "") (Or.inl (hw _ (List.mem_of_getElem? (i := 5) rfl))) Via.refl eT (SH.ext O.2) 18 (hb hby d_prog_27_method_3_15) rfl (fun T X eT => ?_)
  refine o_lloadN X hx 19 (hb hby d_prog_27_method_3_18) rfl rfl ?_
  refine o_iconst X hx 20 (4 : Int32) (hb hby d_prog_27_method_3_19) rfl rfl ?_
  refine o_bipush X hx 22 (15 : Int32) (hb hby d_prog_27_method_3_20) rfl rfl ?_
  refine o_iload X hx 24 (hb hby d_prog_27_method_3_22) rfl rfl ?_
  refine o_isub X hx 25 (hb hby d_prog_27_method_3_24) rfl ?_
  rw [show ((15 : Int32) - (10 : Int32)) = (5 : Int32) from by decide]
  refine o_imul X hx 26 (hb hby d_prog_27_method_3_25) rfl ?_
  rw [show ((4 : Int32) * (5 : Int32)) = (20 : Int32) from by decide]
  refine o_lushr X hx 27 (hb hby d_prog_27_method_3_26) rfl ?_
  refine o_l2i X hx 28 (hb hby d_prog_27_method_3_27) rfl ?_
  refine o_bipush X hx 30 (15 : Int32) (hb hby d_prog_27_method_3_28) rfl rfl ?_
  refine o_iand X hx 31 (hb hby d_prog_27_method_3_30) rfl ?_
  show Wout p e below _ T (mkF m 31 #[.val (.ref a1), .val (.int (3 : Int32)), .val (.long xx), .second, .val (.int (10 : Int32))] [(.int (own_d xx (20 : Int32))), (.ref hxa), (.int (13 : Int32)), (.ref a1)])
  refine o_baload X hx hZ eT (VH.ext O.2) (own_idx (own_d16 xx _).1 (own_d16 xx _).2) (v := (.int (own_hex (own_d xx (20 : Int32))))) (own_hsat (own_d16 xx _).1 (own_d16 xx _).2) 32 (hb hby d_prog_27_method_3_31) rfl ?_
  refine o_bastore X hx hZ eT Va ⟨by decide, by decide⟩ 13 rfl (Nat.le_of_ble_eq_true rfl) (vs' := [(.int f), (.int f), (.int f), (.int (nar .byte (own_hex (own_d xx (60 : Int32))))), (.int (nar .byte (own_hex (own_d xx (56 : Int32))))), (.int (nar .byte (own_hex (own_d xx (52 : Int32))))), (.int (nar .byte (own_hex (own_d xx (48 : Int32))))), (.int (nar .byte (own_hex (own_d xx (44 : Int32))))), (.int (nar .byte (own_hex (own_d xx (40 : Int32))))), (.int (nar .byte (own_hex (own_d xx (36 : Int32))))), (.int (nar .byte (own_hex (own_d xx (32 : Int32))))), (.int (nar .byte (own_hex (own_d xx (28 : Int32))))), (.int (nar .byte (own_hex (own_d xx (24 : Int32))))), (.int (nar .byte (own_hex (own_d xx (20 : Int32))))), (.int f), (.int f), (.int f), (.int f), (.int f), (.int f)]) rfl N g_a1 33 (hb hby d_prog_27_method_3_32) rfl (fun T h11 locs X eT W V' N => ?_)
  replace Z0 := Nat.le_trans Z0 (Keep.of_wr W).1
  replace K := K.wr W (Or.inl (List.mem_of_getElem? (i := 0) rfl))
  replace O := O.wr W g_a1
  replace Va := V'
  refine o_iinc X hx 36 (Ls' := #[.val (.ref a1), .val (.int (3 : Int32)), .val (.long xx), .second, .val (.int ((10 : Int32) + (1 : Int32)))]) (1 : Int32) (hb hby d_prog_27_method_3_33) rfl rfl rfl rfl ?_
  rw [show ((10 : Int32) + (1 : Int32)) = (11 : Int32) from by decide]
  refine o_goto X hx 3 (hb hby d_prog_27_method_3_36) rfl ?_
  refine o_iload X hx 5 (hb hby d_prog_27_method_3_3) rfl rfl ?_
  refine o_bipush X hx 7 (16 : Int32) (hb hby d_prog_27_method_3_5) rfl rfl ?_
  refine o_icmpF X hx 10 (hb hby d_prog_27_method_3_7) rfl (by decide : (11 : Int32) < (16 : Int32)) ?_
  refine o_aloadN X hx 11 (hb hby d_prog_27_method_3_10) rfl rfl rfl ?_
  refine o_iloadN X hx 12 (hb hby d_prog_27_method_3_11) rfl rfl ?_
  refine o_iload X hx 14 (hb hby d_prog_27_method_3_12) rfl rfl ?_
  refine o_iadd X hx 15 (hb hby d_prog_27_method_3_14) rfl ?_
  rw [show ((3 : Int32) + (11 : Int32)) = (14 : Int32) from by decide]
  refine o_getS X hx hZ hown (host := "") (Or.inl (hw _ (List.mem_of_getElem? (i := 5) rfl))) Via.refl eT (SH.ext O.2) 18 (hb hby d_prog_27_method_3_15) rfl (fun T X eT => ?_)
  refine o_lloadN X hx 19 (hb hby d_prog_27_method_3_18) rfl rfl ?_
  refine o_iconst X hx 20 (4 : Int32) (hb hby d_prog_27_method_3_19) rfl rfl ?_
  refine o_bipush X hx 22 (15 : Int32) (hb hby d_prog_27_method_3_20) rfl rfl ?_
  refine o_iload X hx 24 (hb hby d_prog_27_method_3_22) rfl rfl ?_
  refine o_isub X hx 25 (hb hby d_prog_27_method_3_24) rfl ?_
  rw [show ((15 : Int32) - (11 : Int32)) = (4 : Int32) from by decide]
  refine o_imul X hx 26 (hb hby d_prog_27_method_3_25) rfl ?_
  rw [show ((4 : Int32) * (4 : Int32)) = (16 : Int32) from by decide]
  refine o_lushr X hx 27 (hb hby d_prog_27_method_3_26) rfl ?_
  refine o_l2i X hx 28 (hb hby d_prog_27_method_3_27) rfl ?_
  refine o_bipush X hx 30 (15 : Int32) (hb hby d_prog_27_method_3_28) rfl rfl ?_
  refine o_iand X hx 31 (hb hby d_prog_27_method_3_30) rfl ?_
  show Wout p e below _ T (mkF m 31 #[.val (.ref a1), .val (.int (3 : Int32)), .val (.long xx), .second, .val (.int (11 : Int32))] [(.int (own_d xx (16 : Int32))), (.ref hxa), (.int (14 : Int32)), (.ref a1)])
  refine o_baload X hx hZ eT (VH.ext O.2) (own_idx (own_d16 xx _).1 (own_d16 xx _).2) (v := (.int (own_hex (own_d xx (16 : Int32))))) (own_hsat (own_d16 xx _).1 (own_d16 xx _).2) 32 (hb hby d_prog_27_method_3_31) rfl ?_
  refine o_bastore X hx hZ eT Va ⟨by decide, by decide⟩ 14 rfl (Nat.le_of_ble_eq_true rfl) (vs' := [(.int f), (.int f), (.int f), (.int (nar .byte (own_hex (own_d xx (60 : Int32))))), (.int (nar .byte (own_hex (own_d xx (56 : Int32))))), (.int (nar .byte (own_hex (own_d xx (52 : Int32))))), (.int (nar .byte (own_hex (own_d xx (48 : Int32))))), (.int (nar .byte (own_hex (own_d xx (44 : Int32))))), (.int (nar .byte (own_hex (own_d xx (40 : Int32))))), (.int (nar .byte (own_hex (own_d xx (36 : Int32))))), (.int (nar .byte (own_hex (own_d xx (32 : Int32))))), (.int (nar .byte (own_hex (own_d xx (28 : Int32))))), (.int (nar .byte (own_hex (own_d xx (24 : Int32))))), (.int (nar .byte (own_hex (own_d xx (20 : Int32))))), (.int (nar .byte (own_hex (own_d xx (16 : Int32))))), (.int f), (.int f), (.int f), (.int f), (.int f)]) rfl N g_a1 33 (hb hby d_prog_27_method_3_32) rfl (fun T h12 locs X eT W V' N => ?_)
  replace Z0 := Nat.le_trans Z0 (Keep.of_wr W).1
  replace K := K.wr W (Or.inl (List.mem_of_getElem? (i := 0) rfl))
  replace O := O.wr W g_a1
  replace Va := V'
  refine o_iinc X hx 36 (Ls' := #[.val (.ref a1), .val (.int (3 : Int32)), .val (.long xx), .second, .val (.int ((11 : Int32) + (1 : Int32)))]) (1 : Int32) (hb hby d_prog_27_method_3_33) rfl rfl rfl rfl ?_
  rw [show ((11 : Int32) + (1 : Int32)) = (12 : Int32) from by decide]
  refine o_goto X hx 3 (hb hby d_prog_27_method_3_36) rfl ?_
  refine o_iload X hx 5 (hb hby d_prog_27_method_3_3) rfl rfl ?_
  refine o_bipush X hx 7 (16 : Int32) (hb hby d_prog_27_method_3_5) rfl rfl ?_
  refine o_icmpF X hx 10 (hb hby d_prog_27_method_3_7) rfl (by decide : (12 : Int32) < (16 : Int32)) ?_
  refine o_aloadN X hx 11 (hb hby d_prog_27_method_3_10) rfl rfl rfl ?_
  refine o_iloadN X hx 12 (hb hby d_prog_27_method_3_11) rfl rfl ?_
  refine o_iload X hx 14 (hb hby d_prog_27_method_3_12) rfl rfl ?_
  refine o_iadd X hx 15 (hb hby d_prog_27_method_3_14) rfl ?_
  rw [show ((3 : Int32) + (12 : Int32)) = (15 : Int32) from by decide]
  refine o_getS X hx hZ hown (host := "") (Or.inl (hw _ (List.mem_of_getElem? (i := 5) rfl))) Via.refl eT (SH.ext O.2) 18 (hb hby d_prog_27_method_3_15) rfl (fun T X eT => ?_)
  refine o_lloadN X hx 19 (hb hby d_prog_27_method_3_18) rfl rfl ?_
  refine o_iconst X hx 20 (4 : Int32) (hb hby d_prog_27_method_3_19) rfl rfl ?_
  refine o_bipush X hx 22 (15 : Int32) (hb hby d_prog_27_method_3_20) rfl rfl ?_
  refine o_iload X hx 24 (hb hby d_prog_27_method_3_22) rfl rfl ?_
  refine o_isub X hx 25 (hb hby d_prog_27_method_3_24) rfl ?_
  rw [show ((15 : Int32) - (12 : Int32)) = (3 : Int32) from by decide]
  refine o_imul X hx 26 (hb hby d_prog_27_method_3_25) rfl ?_
  rw [show ((4 : Int32) * (3 : Int32)) = (12 : Int32) from by decide]
  refine o_lushr X hx 27 (hb hby d_prog_27_method_3_26) rfl ?_
  refine o_l2i X hx 28 (hb hby d_prog_27_method_3_27) rfl ?_
  refine o_bipush X hx 30 (15 : Int32) (hb hby d_prog_27_method_3_28) rfl rfl ?_
  refine o_iand X hx 31 (hb hby d_prog_27_method_3_30) rfl ?_
  show Wout p e below _ T (mkF m 31 #[.val (.ref a1), .val (.int (3 : Int32)), .val (.long xx), .second, .val (.int (12 : Int32))] [(.int (own_d xx (12 : Int32))), (.ref hxa), (.int (15 : Int32)), (.ref a1)])
  refine o_baload X hx hZ eT (VH.ext O.2) (own_idx (own_d16 xx _).1 (own_d16 xx _).2) (v := (.int (own_hex (own_d xx (12 : Int32))))) (own_hsat (own_d16 xx _).1 (own_d16 xx _).2) 32 (hb hby d_prog_27_method_3_31) rfl ?_
  refine o_bastore X hx hZ eT Va ⟨by decide, by decide⟩ 15 rfl (Nat.le_of_ble_eq_true rfl) (vs' := [(.int f), (.int f), (.int f), (.int (nar .byte (own_hex (own_d xx (60 : Int32))))), (.int (nar .byte (own_hex (own_d xx (56 : Int32))))), (.int (nar .byte (own_hex (own_d xx (52 : Int32))))), (.int (nar .byte (own_hex (own_d xx (48 : Int32))))), (.int (nar .byte (own_hex (own_d xx (44 : Int32))))), (.int (nar .byte (own_hex (own_d xx (40 : Int32))))), (.int (nar .byte (own_hex (own_d xx (36 : Int32))))), (.int (nar .byte (own_hex (own_d xx (32 : Int32))))), (.int (nar .byte (own_hex (own_d xx (28 : Int32))))), (.int (nar .byte (own_hex (own_d xx (24 : Int32))))), (.int (nar .byte (own_hex (own_d xx (20 : Int32))))), (.int (nar .byte (own_hex (own_d xx (16 : Int32))))), (.int (nar .byte (own_hex (own_d xx (12 : Int32))))), (.int f), (.int f), (.int f), (.int f)]) rfl N g_a1 33 (hb hby d_prog_27_method_3_32) rfl (fun T h13 locs X eT W V' N => ?_)
  replace Z0 := Nat.le_trans Z0 (Keep.of_wr W).1
  replace K := K.wr W (Or.inl (List.mem_of_getElem? (i := 0) rfl))
  replace O := O.wr W g_a1
  replace Va := V'
  refine o_iinc X hx 36 (Ls' := #[.val (.ref a1), .val (.int (3 : Int32)), .val (.long xx), .second, .val (.int ((12 : Int32) + (1 : Int32)))]) (1 : Int32) (hb hby d_prog_27_method_3_33) rfl rfl rfl rfl ?_
  rw [show ((12 : Int32) + (1 : Int32)) = (13 : Int32) from by decide]
  refine o_goto X hx 3 (hb hby d_prog_27_method_3_36) rfl ?_
  refine o_iload X hx 5 (hb hby d_prog_27_method_3_3) rfl rfl ?_
  refine o_bipush X hx 7 (16 : Int32) (hb hby d_prog_27_method_3_5) rfl rfl ?_
  refine o_icmpF X hx 10 (hb hby d_prog_27_method_3_7) rfl (by decide : (13 : Int32) < (16 : Int32)) ?_
  refine o_aloadN X hx 11 (hb hby d_prog_27_method_3_10) rfl rfl rfl ?_
  refine o_iloadN X hx 12 (hb hby d_prog_27_method_3_11) rfl rfl ?_
  refine o_iload X hx 14 (hb hby d_prog_27_method_3_12) rfl rfl ?_
  refine o_iadd X hx 15 (hb hby d_prog_27_method_3_14) rfl ?_
  rw [show ((3 : Int32) + (13 : Int32)) = (16 : Int32) from by decide]
  refine o_getS X hx hZ hown (host := "") (Or.inl (hw _ (List.mem_of_getElem? (i := 5) rfl))) Via.refl eT (SH.ext O.2) 18 (hb hby d_prog_27_method_3_15) rfl (fun T X eT => ?_)
  refine o_lloadN X hx 19 (hb hby d_prog_27_method_3_18) rfl rfl ?_
  refine o_iconst X hx 20 (4 : Int32) (hb hby d_prog_27_method_3_19) rfl rfl ?_
  refine o_bipush X hx 22 (15 : Int32) (hb hby d_prog_27_method_3_20) rfl rfl ?_
  refine o_iload X hx 24 (hb hby d_prog_27_method_3_22) rfl rfl ?_
  refine o_isub X hx 25 (hb hby d_prog_27_method_3_24) rfl ?_
  rw [show ((15 : Int32) - (13 : Int32)) = (2 : Int32) from by decide]
  refine o_imul X hx 26 (hb hby d_prog_27_method_3_25) rfl ?_
  rw [show ((4 : Int32) * (2 : Int32)) = (8 : Int32) from by decide]
  refine o_lushr X hx 27 (hb hby d_prog_27_method_3_26) rfl ?_
  refine o_l2i X hx 28 (hb hby d_prog_27_method_3_27) rfl ?_
  refine o_bipush X hx 30 (15 : Int32) (hb hby d_prog_27_method_3_28) rfl rfl ?_
  refine o_iand X hx 31 (hb hby d_prog_27_method_3_30) rfl ?_
  show Wout p e below _ T (mkF m 31 #[.val (.ref a1), .val (.int (3 : Int32)), .val (.long xx), .second, .val (.int (13 : Int32))] [(.int (own_d xx (8 : Int32))), (.ref hxa), (.int (16 : Int32)), (.ref a1)])
  refine o_baload X hx hZ eT (VH.ext O.2) (own_idx (own_d16 xx _).1 (own_d16 xx _).2) (v := (.int (own_hex (own_d xx (8 : Int32))))) (own_hsat (own_d16 xx _).1 (own_d16 xx _).2) 32 (hb hby d_prog_27_method_3_31) rfl ?_
  refine o_bastore X hx hZ eT Va ⟨by decide, by decide⟩ 16 rfl (Nat.le_of_ble_eq_true rfl) (vs' := [(.int f), (.int f), (.int f), (.int (nar .byte (own_hex (own_d xx (60 : Int32))))), (.int (nar .byte (own_hex (own_d xx (56 : Int32))))), (.int (nar .byte (own_hex (own_d xx (52 : Int32))))), (.int (nar .byte (own_hex (own_d xx (48 : Int32))))), (.int (nar .byte (own_hex (own_d xx (44 : Int32))))), (.int (nar .byte (own_hex (own_d xx (40 : Int32))))), (.int (nar .byte (own_hex (own_d xx (36 : Int32))))), (.int (nar .byte (own_hex (own_d xx (32 : Int32))))), (.int (nar .byte (own_hex (own_d xx (28 : Int32))))), (.int (nar .byte (own_hex (own_d xx (24 : Int32))))), (.int (nar .byte (own_hex (own_d xx (20 : Int32))))), (.int (nar .byte (own_hex (own_d xx (16 : Int32))))), (.int (nar .byte (own_hex (own_d xx (12 : Int32))))), (.int (nar .byte (own_hex (own_d xx (8 : Int32))))), (.int f), (.int f), (.int f)]) rfl N g_a1 33 (hb hby d_prog_27_method_3_32) rfl (fun T h14 locs X eT W V' N => ?_)
  replace Z0 := Nat.le_trans Z0 (Keep.of_wr W).1
  replace K := K.wr W (Or.inl (List.mem_of_getElem? (i := 0) rfl))
  replace O := O.wr W g_a1
  replace Va := V'
  refine o_iinc X hx 36 (Ls' := #[.val (.ref a1), .val (.int (3 : Int32)), .val (.long xx), .second, .val (.int ((13 : Int32) + (1 : Int32)))]) (1 : Int32) (hb hby d_prog_27_method_3_33) rfl rfl rfl rfl ?_
  rw [show ((13 : Int32) + (1 : Int32)) = (14 : Int32) from by decide]
  refine o_goto X hx 3 (hb hby d_prog_27_method_3_36) rfl ?_
  refine o_iload X hx 5 (hb hby d_prog_27_method_3_3) rfl rfl ?_
  refine o_bipush X hx 7 (16 : Int32) (hb hby d_prog_27_method_3_5) rfl rfl ?_
  refine o_icmpF X hx 10 (hb hby d_prog_27_method_3_7) rfl (by decide : (14 : Int32) < (16 : Int32)) ?_
  refine o_aloadN X hx 11 (hb hby d_prog_27_method_3_10) rfl rfl rfl ?_
  refine o_iloadN X hx 12 (hb hby d_prog_27_method_3_11) rfl rfl ?_
  refine o_iload X hx 14 (hb hby d_prog_27_method_3_12) rfl rfl ?_
  refine o_iadd X hx 15 (hb hby d_prog_27_method_3_14) rfl ?_
  rw [show ((3 : Int32) + (14 : Int32)) = (17 : Int32) from by decide]
  refine o_getS X hx hZ hown (host := "") (Or.inl (hw _ (List.mem_of_getElem? (i := 5) rfl))) Via.refl eT (SH.ext O.2) 18 (hb hby d_prog_27_method_3_15) rfl (fun T X eT => ?_)
  refine o_lloadN X hx 19 (hb hby d_prog_27_method_3_18) rfl rfl ?_
  refine o_iconst X hx 20 (4 : Int32) (hb hby d_prog_27_method_3_19) rfl rfl ?_
  refine o_bipush X hx 22 (15 : Int32) (hb hby d_prog_27_method_3_20) rfl rfl ?_
  refine o_iload X hx 24 (hb hby d_prog_27_method_3_22) rfl rfl ?_
  refine o_isub X hx 25 (hb hby d_prog_27_method_3_24) rfl ?_
  rw [show ((15 : Int32) - (14 : Int32)) = (1 : Int32) from by decide]
  refine o_imul X hx 26 (hb hby d_prog_27_method_3_25) rfl ?_
  rw [show ((4 : Int32) * (1 : Int32)) = (4 : Int32) from by decide]
  refine o_lushr X hx 27 (hb hby d_prog_27_method_3_26) rfl ?_
  refine o_l2i X hx 28 (hb hby d_prog_27_method_3_27) rfl ?_
  refine o_bipush X hx 30 (15 : Int32) (hb hby d_prog_27_method_3_28) rfl rfl ?_
  refine o_iand X hx 31 (hb hby d_prog_27_method_3_30) rfl ?_
  show Wout p e below _ T (mkF m 31 #[.val (.ref a1), .val (.int (3 : Int32)), .val (.long xx), .second, .val (.int (14 : Int32))] [(.int (own_d xx (4 : Int32))), (.ref hxa), (.int (17 : Int32)), (.ref a1)])
  refine o_baload X hx hZ eT (VH.ext O.2) (own_idx (own_d16 xx _).1 (own_d16 xx _).2) (v := (.int (own_hex (own_d xx (4 : Int32))))) (own_hsat (own_d16 xx _).1 (own_d16 xx _).2) 32 (hb hby d_prog_27_method_3_31) rfl ?_
  refine o_bastore X hx hZ eT Va ⟨by decide, by decide⟩ 17 rfl (Nat.le_of_ble_eq_true rfl) (vs' := [(.int f), (.int f), (.int f), (.int (nar .byte (own_hex (own_d xx (60 : Int32))))), (.int (nar .byte (own_hex (own_d xx (56 : Int32))))), (.int (nar .byte (own_hex (own_d xx (52 : Int32))))), (.int (nar .byte (own_hex (own_d xx (48 : Int32))))), (.int (nar .byte (own_hex (own_d xx (44 : Int32))))), (.int (nar .byte (own_hex (own_d xx (40 : Int32))))), (.int (nar .byte (own_hex (own_d xx (36 : Int32))))), (.int (nar .byte (own_hex (own_d xx (32 : Int32))))), (.int (nar .byte (own_hex (own_d xx (28 : Int32))))), (.int (nar .byte (own_hex (own_d xx (24 : Int32))))), (.int (nar .byte (own_hex (own_d xx (20 : Int32))))), (.int (nar .byte (own_hex (own_d xx (16 : Int32))))), (.int (nar .byte (own_hex (own_d xx (12 : Int32))))), (.int (nar .byte (own_hex (own_d xx (8 : Int32))))), (.int (nar .byte (own_hex (own_d xx (4 : Int32))))), (.int f), (.int f)]) rfl N g_a1 33 (hb hby d_prog_27_method_3_32) rfl (fun T h15 locs X eT W V' N => ?_)
  replace Z0 := Nat.le_trans Z0 (Keep.of_wr W).1
  replace K := K.wr W (Or.inl (List.mem_of_getElem? (i := 0) rfl))
  replace O := O.wr W g_a1
  replace Va := V'
  refine o_iinc X hx 36 (Ls' := #[.val (.ref a1), .val (.int (3 : Int32)), .val (.long xx), .second, .val (.int ((14 : Int32) + (1 : Int32)))]) (1 : Int32) (hb hby d_prog_27_method_3_33) rfl rfl rfl rfl ?_
  rw [show ((14 : Int32) + (1 : Int32)) = (15 : Int32) from by decide]
  refine o_goto X hx 3 (hb hby d_prog_27_method_3_36) rfl ?_
  refine o_iload X hx 5 (hb hby d_prog_27_method_3_3) rfl rfl ?_
  refine o_bipush X hx 7 (16 : Int32) (hb hby d_prog_27_method_3_5) rfl rfl ?_
  refine o_icmpF X hx 10 (hb hby d_prog_27_method_3_7) rfl (by decide : (15 : Int32) < (16 : Int32)) ?_
  refine o_aloadN X hx 11 (hb hby d_prog_27_method_3_10) rfl rfl rfl ?_
  refine o_iloadN X hx 12 (hb hby d_prog_27_method_3_11) rfl rfl ?_
  refine o_iload X hx 14 (hb hby d_prog_27_method_3_12) rfl rfl ?_
  refine o_iadd X hx 15 (hb hby d_prog_27_method_3_14) rfl ?_
  rw [show ((3 : Int32) + (15 : Int32)) = (18 : Int32) from by decide]
  refine o_getS X hx hZ hown (host := "") (Or.inl (hw _ (List.mem_of_getElem? (i := 5) rfl))) Via.refl eT (SH.ext O.2) 18 (hb hby d_prog_27_method_3_15) rfl (fun T X eT => ?_)
  refine o_lloadN X hx 19 (hb hby d_prog_27_method_3_18) rfl rfl ?_
  refine o_iconst X hx 20 (4 : Int32) (hb hby d_prog_27_method_3_19) rfl rfl ?_
  refine o_bipush X hx 22 (15 : Int32) (hb hby d_prog_27_method_3_20) rfl rfl ?_
  refine o_iload X hx 24 (hb hby d_prog_27_method_3_22) rfl rfl ?_
  refine o_isub X hx 25 (hb hby d_prog_27_method_3_24) rfl ?_
  rw [show ((15 : Int32) - (15 : Int32)) = (0 : Int32) from by decide]
  refine o_imul X hx 26 (hb hby d_prog_27_method_3_25) rfl ?_
  rw [show ((4 : Int32) * (0 : Int32)) = (0 : Int32) from by decide]
  refine o_lushr X hx 27 (hb hby d_prog_27_method_3_26) rfl ?_
  refine o_l2i X hx 28 (hb hby d_prog_27_method_3_27) rfl ?_
  refine o_bipush X hx 30 (15 : Int32) (hb hby d_prog_27_method_3_28) rfl rfl ?_
  refine o_iand X hx 31 (hb hby d_prog_27_method_3_30) rfl ?_
  show Wout p e below _ T (mkF m 31 #[.val (.ref a1), .val (.int (3 : Int32)), .val (.long xx), .second, .val (.int (15 : Int32))] [(.int (own_d xx (0 : Int32))), (.ref hxa), (.int (18 : Int32)), (.ref a1)])
  refine o_baload X hx hZ eT (VH.ext O.2) (own_idx (own_d16 xx _).1 (own_d16 xx _).2) (v := (.int (own_hex (own_d xx (0 : Int32))))) (own_hsat (own_d16 xx _).1 (own_d16 xx _).2) 32 (hb hby d_prog_27_method_3_31) rfl ?_
  refine o_bastore X hx hZ eT Va ⟨by decide, by decide⟩ 18 rfl (Nat.le_of_ble_eq_true rfl) (vs' := [(.int f), (.int f), (.int f), (.int (nar .byte (own_hex (own_d xx (60 : Int32))))), (.int (nar .byte (own_hex (own_d xx (56 : Int32))))), (.int (nar .byte (own_hex (own_d xx (52 : Int32))))), (.int (nar .byte (own_hex (own_d xx (48 : Int32))))), (.int (nar .byte (own_hex (own_d xx (44 : Int32))))), (.int (nar .byte (own_hex (own_d xx (40 : Int32))))), (.int (nar .byte (own_hex (own_d xx (36 : Int32))))), (.int (nar .byte (own_hex (own_d xx (32 : Int32))))), (.int (nar .byte (own_hex (own_d xx (28 : Int32))))), (.int (nar .byte (own_hex (own_d xx (24 : Int32))))), (.int (nar .byte (own_hex (own_d xx (20 : Int32))))), (.int (nar .byte (own_hex (own_d xx (16 : Int32))))), (.int (nar .byte (own_hex (own_d xx (12 : Int32))))), (.int (nar .byte (own_hex (own_d xx (8 : Int32))))), (.int (nar .byte (own_hex (own_d xx (4 : Int32))))), (.int (nar .byte (own_hex (own_d xx (0 : Int32))))), (.int f)]) rfl N g_a1 33 (hb hby d_prog_27_method_3_32) rfl (fun T h16 locs X eT W V' N => ?_)
  replace Z0 := Nat.le_trans Z0 (Keep.of_wr W).1
  replace K := K.wr W (Or.inl (List.mem_of_getElem? (i := 0) rfl))
  replace O := O.wr W g_a1
  replace Va := V'
  refine o_iinc X hx 36 (Ls' := #[.val (.ref a1), .val (.int (3 : Int32)), .val (.long xx), .second, .val (.int ((15 : Int32) + (1 : Int32)))]) (1 : Int32) (hb hby d_prog_27_method_3_33) rfl rfl rfl rfl ?_
  rw [show ((15 : Int32) + (1 : Int32)) = (16 : Int32) from by decide]
  refine o_goto X hx 3 (hb hby d_prog_27_method_3_36) rfl ?_
  refine o_iload X hx 5 (hb hby d_prog_27_method_3_3) rfl rfl ?_
  refine o_bipush X hx 7 (16 : Int32) (hb hby d_prog_27_method_3_5) rfl rfl ?_
  refine o_icmpT X hx 39 (hb hby d_prog_27_method_3_7) rfl (by decide : ¬ (16 : Int32) < (16 : Int32)) ?_
  refine o_aloadN X hx 40 (hb hby d_prog_27_method_3_39) rfl rfl rfl ?_
  refine o_iloadN X hx 41 (hb hby d_prog_27_method_3_40) rfl rfl ?_
  refine o_bipush X hx 43 (16 : Int32) (hb hby d_prog_27_method_3_41) rfl rfl ?_
  refine o_iadd X hx 44 (hb hby d_prog_27_method_3_43) rfl ?_
  rw [show ((3 : Int32) + (16 : Int32)) = (19 : Int32) from by decide]
  refine o_bipush X hx 46 (45 : Int32) (hb hby d_prog_27_method_3_44) rfl rfl ?_
  refine o_bastore X hx hZ eT Va ⟨by decide, by decide⟩ 19 rfl (Nat.le_of_ble_eq_true rfl) (vs' := [(.int f), (.int f), (.int f), (.int (nar .byte (own_hex (own_d xx (60 : Int32))))), (.int (nar .byte (own_hex (own_d xx (56 : Int32))))), (.int (nar .byte (own_hex (own_d xx (52 : Int32))))), (.int (nar .byte (own_hex (own_d xx (48 : Int32))))), (.int (nar .byte (own_hex (own_d xx (44 : Int32))))), (.int (nar .byte (own_hex (own_d xx (40 : Int32))))), (.int (nar .byte (own_hex (own_d xx (36 : Int32))))), (.int (nar .byte (own_hex (own_d xx (32 : Int32))))), (.int (nar .byte (own_hex (own_d xx (28 : Int32))))), (.int (nar .byte (own_hex (own_d xx (24 : Int32))))), (.int (nar .byte (own_hex (own_d xx (20 : Int32))))), (.int (nar .byte (own_hex (own_d xx (16 : Int32))))), (.int (nar .byte (own_hex (own_d xx (12 : Int32))))), (.int (nar .byte (own_hex (own_d xx (8 : Int32))))), (.int (nar .byte (own_hex (own_d xx (4 : Int32))))), (.int (nar .byte (own_hex (own_d xx (0 : Int32))))), (.int (nar .byte (45 : Int32)))]) rfl N g_a1 47 (hb hby d_prog_27_method_3_46) rfl (fun T h17 locs X eT W V' N => ?_)
  replace Z0 := Nat.le_trans Z0 (Keep.of_wr W).1
  replace K := K.wr W (Or.inl (List.mem_of_getElem? (i := 0) rfl))
  replace O := O.wr W g_a1
  replace Va := V'
  exact o_retV X hx hlk hret (hb hby d_prog_27_method_3_47) (by decide) (by decide) (by rw [eT]; exact ⟨rfl, N, K, Va⟩)
theorem d_method_3_0 : decode method_3_code 0 = .ok (.lload_n 0, 1) := by decide +kernel
theorem d_method_3_1 : decode method_3_code 1 = .ok (.iconst 4, 1) := by decide +kernel
theorem d_method_3_2 : decode method_3_code 2 = .ok (.iload_n 2, 1) := by decide +kernel
theorem d_method_3_3 : decode method_3_code 3 = .ok (.imul, 1) := by decide +kernel
theorem d_method_3_4 : decode method_3_code 4 = .ok (.lshl, 1) := by decide +kernel
theorem d_method_3_5 : decode method_3_code 5 = .ok (.bipush 60, 2) := by decide +kernel
theorem d_method_3_7 : decode method_3_code 7 = .ok (.lushr, 1) := by decide +kernel
theorem d_method_3_8 : decode method_3_code 8 = .ok (.l2i, 1) := by decide +kernel
theorem d_method_3_9 : decode method_3_code 9 = .ok (.istore_n 3, 1) := by decide +kernel
theorem d_method_3_10 : decode method_3_code 10 = .ok (.iload_n 3, 1) := by decide +kernel
theorem d_method_3_11 : decode method_3_code 11 = .ok (.bipush 10, 2) := by decide +kernel
theorem d_method_3_13 : decode method_3_code 13 = .ok (.if_icmp .ge 9, 3) := by decide +kernel
theorem d_method_3_16 : decode method_3_code 16 = .ok (.bipush 48, 2) := by decide +kernel
theorem d_method_3_18 : decode method_3_code 18 = .ok (.iload_n 3, 1) := by decide +kernel
theorem d_method_3_19 : decode method_3_code 19 = .ok (.iadd, 1) := by decide +kernel
theorem d_method_3_20 : decode method_3_code 20 = .ok (.i2b, 1) := by decide +kernel
theorem d_method_3_21 : decode method_3_code 21 = .ok (.ireturn, 1) := by decide +kernel
theorem d_method_3_22 : decode method_3_code 22 = .ok (.bipush 65, 2) := by decide +kernel
theorem d_method_3_24 : decode method_3_code 24 = .ok (.iload_n 3, 1) := by decide +kernel
theorem d_method_3_25 : decode method_3_code 25 = .ok (.bipush 10, 2) := by decide +kernel
theorem d_method_3_27 : decode method_3_code 27 = .ok (.isub, 1) := by decide +kernel
theorem d_method_3_28 : decode method_3_code 28 = .ok (.iadd, 1) := by decide +kernel
theorem d_method_3_29 : decode method_3_code 29 = .ok (.i2b, 1) := by decide +kernel
theorem d_method_3_30 : decode method_3_code 30 = .ok (.ireturn, 1) := by decide +kernel
theorem pn_1 : plainName "com/example/tidewater/tidewater/format/PosWriteLsnPinLaw" = true := by first | (simp [plainName, overriddenIn]; done) | decide +kernel
def Q_hex (Z : State) (xx : Int64) (i : Int32) (h0 : Heap) (n0 : Nat) (v : Option Value) (h : Heap) (L : List Loc) : Prop := v = some (.int (own_hx xx i)) ∧ Fr n0 L ∧ h = h0
set_option maxRecDepth 65536 in
set_option maxHeartbeats 40000000 in
theorem rm_hex (l : Launch) (Z : State) (a0 : Array Value) (hw : ∀ d ∈ tables_1, d.before a0 Z = true) (ws : List Jvm.Cond) (xx : Int64) (i : Int32) (h0 : Heap) (n0 : Nat) (Z0 : n0 ≤ h0.size)  :
    Met l Z (⟨"com/example/tidewater/tidewater/format/PosWriteLsnPinLaw", "hex", "(JI)B"⟩ : MethodName) method_3_code 4 (some .byte) ws ({ frames := 0, cells := 0, slots := 0, locals := 0 } : Room) #[(.long xx), (.int i)] h0 (Q_hex Z xx i h0 n0) := by
  refine Met.start (plainFor_of_name pn_1) ?_
  intro p e s m below meth c T X hx hby hml hown hnm hret hlk hZ eT
  have N := Fr.nil n0
  refine Wout.cast (g' := (mkF m 0 #[.val (.long xx), .second, .val (.int i), .unset] [])) (by first | rfl | (simp [entryFrame, mkF, argsToLocals, Value.category]; done)) ?_
  refine o_lloadN X hx 1 (hb hby d_method_3_0) rfl rfl ?_
  refine o_iconst X hx 2 (4 : Int32) (hb hby d_method_3_1) rfl rfl ?_
  refine o_iloadN X hx 3 (hb hby d_method_3_2) rfl rfl ?_
  refine o_imul X hx 4 (hb hby d_method_3_3) rfl ?_
  refine o_lshl X hx 5 (hb hby d_method_3_4) rfl ?_
  refine o_bipush X hx 7 (60 : Int32) (hb hby d_method_3_5) rfl rfl ?_
  refine o_lushr X hx 8 (hb hby d_method_3_7) rfl ?_
  refine o_l2i X hx 9 (hb hby d_method_3_8) rfl ?_
  show Wout p e below _ T (mkF m 9 #[.val (.long xx), .second, .val (.int i), .unset] [(.int (own_n xx i))])
  refine o_istoreN X hx 10 (Ls' := #[.val (.long xx), .second, .val (.int i), .val (.int (own_n xx i))]) (hb hby d_method_3_9) rfl rfl ?_
  refine o_iloadN X hx 11 (hb hby d_method_3_10) rfl rfl ?_
  refine o_bipush X hx 13 (10 : Int32) (hb hby d_method_3_11) rfl rfl ?_
  refine o_icmp X hx 22 16 (hb hby d_method_3_13) rfl rfl (fun (q : ¬ (own_n xx i) < (10 : Int32)) => ?_) (fun (q : (own_n xx i) < (10 : Int32)) => ?_)
  · show Wout p e below _ T (mkF m 22 #[.val (.long xx), .second, .val (.int i), .val (.int (own_n xx i))] [])
    refine o_bipush X hx 24 (65 : Int32) (hb hby d_method_3_22) rfl rfl ?_
    refine o_iloadN X hx 25 (hb hby d_method_3_24) rfl rfl ?_
    refine o_bipush X hx 27 (10 : Int32) (hb hby d_method_3_25) rfl rfl ?_
    refine o_isub X hx 28 (hb hby d_method_3_27) rfl ?_
    refine o_iadd X hx 29 (hb hby d_method_3_28) rfl ?_
    refine o_i2b X hx 30 (hb hby d_method_3_29) rfl ?_
    exact o_retI X hx hlk hret (XT.narrow_b _) (by simp) (hb hby d_method_3_30) (by decide) (by decide) (by rw [eT]; exact ⟨by rw [own_hx, if_neg q], N, rfl⟩)
  · show Wout p e below _ T (mkF m 16 #[.val (.long xx), .second, .val (.int i), .val (.int (own_n xx i))] [])
    refine o_bipush X hx 18 (48 : Int32) (hb hby d_method_3_16) rfl rfl ?_
    refine o_iloadN X hx 19 (hb hby d_method_3_18) rfl rfl ?_
    refine o_iadd X hx 20 (hb hby d_method_3_19) rfl ?_
    refine o_i2b X hx 21 (hb hby d_method_3_20) rfl ?_
    exact o_retI X hx hlk hret (XT.narrow_b _) (by simp) (hb hby d_method_3_21) (by decide) (by decide) (by rw [eT]; exact ⟨by rw [own_hx, if_pos q], N, rfl⟩)
theorem d_method_4_0 : decode method_4_code 0 = .ok (.iload 5, 2) := by decide +kernel
theorem d_method_4_2 : decode method_4_code 2 = .ok (.iload_n 1, 1) := by decide +kernel
theorem d_method_4_3 : decode method_4_code 3 = .ok (.if_icmp .ge 10, 3) := by decide +kernel
theorem d_method_4_6 : decode method_4_code 6 = .ok (.iload 4, 2) := by decide +kernel
theorem d_method_4_8 : decode method_4_code 8 = .ok (.istore 6, 2) := by decide +kernel
theorem d_method_4_10 : decode method_4_code 10 = .ok (.goto 45, 3) := by decide +kernel
theorem d_method_4_13 : decode method_4_code 13 = .ok (.iload 5, 2) := by decide +kernel
theorem d_method_4_15 : decode method_4_code 15 = .ok (.iload_n 1, 1) := by decide +kernel
theorem d_method_4_16 : decode method_4_code 16 = .ok (.bipush 16, 2) := by decide +kernel
theorem d_method_4_18 : decode method_4_code 18 = .ok (.iadd, 1) := by decide +kernel
theorem d_method_4_19 : decode method_4_code 19 = .ok (.if_icmp .ge 16, 3) := by decide +kernel
theorem d_method_4_22 : decode method_4_code 22 = .ok (.lload_n 2, 1) := by decide +kernel
theorem d_method_4_23 : decode method_4_code 23 = .ok (.iload 5, 2) := by decide +kernel
theorem d_method_4_25 : decode method_4_code 25 = .ok (.iload_n 1, 1) := by decide +kernel
theorem d_method_4_26 : decode method_4_code 26 = .ok (.isub, 1) := by decide +kernel
theorem d_method_4_27 : decode method_4_code 27 = .ok (.invokestatic 19, 3) := by decide +kernel
theorem d_method_4_30 : decode method_4_code 30 = .ok (.istore 6, 2) := by decide +kernel
theorem d_method_4_32 : decode method_4_code 32 = .ok (.goto 23, 3) := by decide +kernel
theorem d_method_4_35 : decode method_4_code 35 = .ok (.iload 5, 2) := by decide +kernel
theorem d_method_4_37 : decode method_4_code 37 = .ok (.iload_n 1, 1) := by decide +kernel
theorem d_method_4_38 : decode method_4_code 38 = .ok (.bipush 16, 2) := by decide +kernel
theorem d_method_4_40 : decode method_4_code 40 = .ok (.iadd, 1) := by decide +kernel
theorem d_method_4_41 : decode method_4_code 41 = .ok (.if_icmp .ne 10, 3) := by decide +kernel
theorem d_method_4_44 : decode method_4_code 44 = .ok (.bipush 45, 2) := by decide +kernel
theorem d_method_4_46 : decode method_4_code 46 = .ok (.istore 6, 2) := by decide +kernel
theorem d_method_4_48 : decode method_4_code 48 = .ok (.goto 7, 3) := by decide +kernel
theorem d_method_4_51 : decode method_4_code 51 = .ok (.iload 4, 2) := by decide +kernel
theorem d_method_4_53 : decode method_4_code 53 = .ok (.istore 6, 2) := by decide +kernel
theorem d_method_4_55 : decode method_4_code 55 = .ok (.aload_n 0, 1) := by decide +kernel
theorem d_method_4_56 : decode method_4_code 56 = .ok (.iload 5, 2) := by decide +kernel
theorem d_method_4_58 : decode method_4_code 58 = .ok (.baload, 1) := by decide +kernel
theorem d_method_4_59 : decode method_4_code 59 = .ok (.iload 6, 2) := by decide +kernel
theorem d_method_4_61 : decode method_4_code 61 = .ok (.if_icmp .ne 7, 3) := by decide +kernel
theorem d_method_4_64 : decode method_4_code 64 = .ok (.iconst 1, 1) := by decide +kernel
theorem d_method_4_65 : decode method_4_code 65 = .ok (.goto 4, 3) := by decide +kernel
theorem d_method_4_68 : decode method_4_code 68 = .ok (.iconst 0, 1) := by decide +kernel
theorem d_method_4_69 : decode method_4_code 69 = .ok (.ireturn, 1) := by decide +kernel
def Q_okA (Z : State) (a1 : Addr) (k1 : ClassId) (vs : List Value) (xx : Int64) (off f j y : Int32) (h0 : Heap) (n0 : Nat) (v : Option Value) (h : Heap) (L : List Loc) : Prop := v = some (.int 1) ∧ Fr n0 L ∧ h = h0
set_option maxRecDepth 65536 in
set_option maxHeartbeats 40000000 in
theorem rm_okA (l : Launch) (Z : State) (a0 : Array Value) (hw : ∀ d ∈ tables_1, d.before a0 Z = true) (ws : List Jvm.Cond) (a1 : Addr) (k1 : ClassId) (vs : List Value) (xx : Int64) (off f j y : Int32) (h0 : Heap) (n0 : Nat) (Z0 : n0 ≤ h0.size) (Va : Arv Z h0 a1 k1 .byte 20 vs (.int 0)) (hj : ¬ j < 0 ∧ j < 20) (hv : vs.getD j.toNatClampNeg (.int 0) = .int y) (q1 : j < off) (hy : y = f) :
    Met l Z (⟨"com/example/tidewater/tidewater/format/PosWriteLsnPinLaw", "ok", "([BIJBI)Z"⟩ : MethodName) method_4_code 7 (some .boolean) ws ({ frames := 1, cells := 0, slots := 0, locals := 16 } : Room) #[(.ref a1), (.int off), (.long xx), (.int f), (.int j)] h0 (Q_okA Z a1 k1 vs xx off f j y h0 n0) := by
  refine Met.start (plainFor_of_name pn_1) ?_
  intro p e s m below meth c T X hx hby hml hown hnm hret hlk hZ eT
  have N := Fr.nil n0
  refine Wout.cast (g' := (mkF m 0 #[.val (.ref a1), .val (.int off), .val (.long xx), .second, .val (.int f), .val (.int j), .unset] [])) (by first | rfl | (simp [entryFrame, mkF, argsToLocals, Value.category]; done)) ?_
  refine o_iload X hx 2 (hb hby d_method_4_0) rfl rfl ?_
  refine o_iloadN X hx 3 (hb hby d_method_4_2) rfl rfl ?_
  refine o_icmpF X hx 6 (hb hby d_method_4_3) rfl q1 ?_
  refine o_iload X hx 8 (hb hby d_method_4_6) rfl rfl ?_
  refine o_istore X hx 10 (Ls' := #[.val (.ref a1), .val (.int off), .val (.long xx), .second, .val (.int f), .val (.int j), .val (.int f)]) (hb hby d_method_4_8) rfl rfl ?_
  refine o_goto X hx 55 (hb hby d_method_4_10) rfl ?_
  refine o_aloadN X hx 56 (hb hby d_method_4_55) rfl rfl rfl ?_
  refine o_iload X hx 58 (hb hby d_method_4_56) rfl rfl ?_
  refine o_baload X hx hZ eT Va hj (v := (.int y)) hv 59 (hb hby d_method_4_58) rfl ?_
  refine o_iload X hx 61 (hb hby d_method_4_59) rfl rfl ?_
  refine o_icmpF X hx 64 (hb hby d_method_4_61) rfl hy ?_
  refine o_iconst X hx 65 (1 : Int32) (hb hby d_method_4_64) rfl rfl ?_
  refine o_goto X hx 69 (hb hby d_method_4_65) rfl ?_
  exact o_retI X hx hlk hret rfl (by simp) (hb hby d_method_4_69) (by decide) (by decide) (by rw [eT]; exact ⟨rfl, N, rfl⟩)
theorem pd_0 : parseMethodDescriptor "(JI)B" = some ⟨[.long, .int], some .byte⟩ := by decide +kernel
def Q_okH (Z : State) (a1 : Addr) (k1 : ClassId) (vs : List Value) (xx : Int64) (off f j y : Int32) (h0 : Heap) (n0 : Nat) (v : Option Value) (h : Heap) (L : List Loc) : Prop := v = some (.int 1) ∧ Fr n0 L ∧ h = h0
set_option maxRecDepth 65536 in
set_option maxHeartbeats 40000000 in
theorem rm_okH (l : Launch) (Z : State) (a0 : Array Value) (hw : ∀ d ∈ tables_1, d.before a0 Z = true) (ws : List Jvm.Cond) (a1 : Addr) (k1 : ClassId) (vs : List Value) (xx : Int64) (off f j y : Int32) (h0 : Heap) (n0 : Nat) (Z0 : n0 ≤ h0.size) (Va : Arv Z h0 a1 k1 .byte 20 vs (.int 0)) (hj : ¬ j < 0 ∧ j < 20) (hv : vs.getD j.toNatClampNeg (.int 0) = .int y) (q1 : ¬ j < off) (q2 : j < off + 16) (hy : y = own_hx xx (j - off)) :
    Met l Z (⟨"com/example/tidewater/tidewater/format/PosWriteLsnPinLaw", "ok", "([BIJBI)Z"⟩ : MethodName) method_4_code 7 (some .boolean) ws ({ frames := 1, cells := 0, slots := 0, locals := 16 } : Room) #[(.ref a1), (.int off), (.long xx), (.int f), (.int j)] h0 (Q_okH Z a1 k1 vs xx off f j y h0 n0) := by
  refine Met.start (plainFor_of_name pn_1) ?_
  intro p e s m below meth c T X hx hby hml hown hnm hret hlk hZ eT
  have N := Fr.nil n0
  refine Wout.cast (g' := (mkF m 0 #[.val (.ref a1), .val (.int off), .val (.long xx), .second, .val (.int f), .val (.int j), .unset] [])) (by first | rfl | (simp [entryFrame, mkF, argsToLocals, Value.category]; done)) ?_
  refine o_iload X hx 2 (hb hby d_method_4_0) rfl rfl ?_
  refine o_iloadN X hx 3 (hb hby d_method_4_2) rfl rfl ?_
  refine o_icmpT X hx 13 (hb hby d_method_4_3) rfl q1 ?_
  refine o_iload X hx 15 (hb hby d_method_4_13) rfl rfl ?_
  refine o_iloadN X hx 16 (hb hby d_method_4_15) rfl rfl ?_
  refine o_bipush X hx 18 (16 : Int32) (hb hby d_method_4_16) rfl rfl ?_
  refine o_iadd X hx 19 (hb hby d_method_4_18) rfl ?_
  refine o_icmpF X hx 22 (hb hby d_method_4_19) rfl q2 ?_
  refine o_lloadN X hx 23 (hb hby d_method_4_22) rfl rfl ?_
  refine o_iload X hx 25 (hb hby d_method_4_23) rfl rfl ?_
  refine o_iloadN X hx 26 (hb hby d_method_4_25) rfl rfl ?_
  refine o_isub X hx 27 (hb hby d_method_4_26) rfl ?_
  refine o_callS X hx hZ hown (hw _ (List.mem_of_getElem? (i := 11) rfl)) (hw _ (List.mem_of_getElem? (i := 12) rfl)) (hw _ (List.mem_of_getElem? (i := 9) rfl)) (hw _ (List.mem_of_getElem? (i := 13) rfl)) (by decide) (rm_hex l Z a0 hw [] xx (j - off) _ n0 Z0) eT (by decide) 0 (by decide) (by rw [hml]; rfl) [(.long xx), (.int (j - off))] (rest := []) (lenOf pd_0 rfl) rfl rfl (Nat.le_of_eq rfl) (by decide) (by decide) 30 (hb hby d_method_4_27) rfl (fun v T h1 Lc X eT q => ?_)
  obtain ⟨rfl, N', e'⟩ := q
  replace N := Fr.app N N'
  replace eT := eT.trans e'
  show Wout p e below _ T (mkF m 30 #[.val (.ref a1), .val (.int off), .val (.long xx), .second, .val (.int f), .val (.int j), .unset] [(.int (own_hx xx (j - off)))])
  refine o_istore X hx 32 (Ls' := #[.val (.ref a1), .val (.int off), .val (.long xx), .second, .val (.int f), .val (.int j), .val (.int (own_hx xx (j - off)))]) (hb hby d_method_4_30) rfl rfl ?_
  refine o_goto X hx 55 (hb hby d_method_4_32) rfl ?_
  refine o_aloadN X hx 56 (hb hby d_method_4_55) rfl rfl rfl ?_
  refine o_iload X hx 58 (hb hby d_method_4_56) rfl rfl ?_
  refine o_baload X hx hZ eT Va hj (v := (.int y)) hv 59 (hb hby d_method_4_58) rfl ?_
  refine o_iload X hx 61 (hb hby d_method_4_59) rfl rfl ?_
  refine o_icmpF X hx 64 (hb hby d_method_4_61) rfl hy ?_
  refine o_iconst X hx 65 (1 : Int32) (hb hby d_method_4_64) rfl rfl ?_
  refine o_goto X hx 69 (hb hby d_method_4_65) rfl ?_
  exact o_retI X hx hlk hret rfl (by simp) (hb hby d_method_4_69) (by decide) (by decide) (by rw [eT]; exact ⟨rfl, N, rfl⟩)
def Q_okD (Z : State) (a1 : Addr) (k1 : ClassId) (vs : List Value) (xx : Int64) (off f j y : Int32) (h0 : Heap) (n0 : Nat) (v : Option Value) (h : Heap) (L : List Loc) : Prop := v = some (.int 1) ∧ Fr n0 L ∧ h = h0
set_option maxRecDepth 65536 in
set_option maxHeartbeats 40000000 in
theorem rm_okD (l : Launch) (Z : State) (a0 : Array Value) (hw : ∀ d ∈ tables_1, d.before a0 Z = true) (ws : List Jvm.Cond) (a1 : Addr) (k1 : ClassId) (vs : List Value) (xx : Int64) (off f j y : Int32) (h0 : Heap) (n0 : Nat) (Z0 : n0 ≤ h0.size) (Va : Arv Z h0 a1 k1 .byte 20 vs (.int 0)) (hj : ¬ j < 0 ∧ j < 20) (hv : vs.getD j.toNatClampNeg (.int 0) = .int y) (q1 : ¬ j < off) (q2 : ¬ j < off + 16) (q3 : j = off + 16) (hy : y = 45) :
    Met l Z (⟨"com/example/tidewater/tidewater/format/PosWriteLsnPinLaw", "ok", "([BIJBI)Z"⟩ : MethodName) method_4_code 7 (some .boolean) ws ({ frames := 1, cells := 0, slots := 0, locals := 16 } : Room) #[(.ref a1), (.int off), (.long xx), (.int f), (.int j)] h0 (Q_okD Z a1 k1 vs xx off f j y h0 n0) := by
  refine Met.start (plainFor_of_name pn_1) ?_
  intro p e s m below meth c T X hx hby hml hown hnm hret hlk hZ eT
  have N := Fr.nil n0
  refine Wout.cast (g' := (mkF m 0 #[.val (.ref a1), .val (.int off), .val (.long xx), .second, .val (.int f), .val (.int j), .unset] [])) (by first | rfl | (simp [entryFrame, mkF, argsToLocals, Value.category]; done)) ?_
  refine o_iload X hx 2 (hb hby d_method_4_0) rfl rfl ?_
  refine o_iloadN X hx 3 (hb hby d_method_4_2) rfl rfl ?_
  refine o_icmpT X hx 13 (hb hby d_method_4_3) rfl q1 ?_
  refine o_iload X hx 15 (hb hby d_method_4_13) rfl rfl ?_
  refine o_iloadN X hx 16 (hb hby d_method_4_15) rfl rfl ?_
  refine o_bipush X hx 18 (16 : Int32) (hb hby d_method_4_16) rfl rfl ?_
  refine o_iadd X hx 19 (hb hby d_method_4_18) rfl ?_
  refine o_icmpT X hx 35 (hb hby d_method_4_19) rfl q2 ?_
  refine o_iload X hx 37 (hb hby d_method_4_35) rfl rfl ?_
  refine o_iloadN X hx 38 (hb hby d_method_4_37) rfl rfl ?_
  refine o_bipush X hx 40 (16 : Int32) (hb hby d_method_4_38) rfl rfl ?_
  refine o_iadd X hx 41 (hb hby d_method_4_40) rfl ?_
  refine o_icmpF X hx 44 (hb hby d_method_4_41) rfl q3 ?_
  refine o_bipush X hx 46 (45 : Int32) (hb hby d_method_4_44) rfl rfl ?_
  refine o_istore X hx 48 (Ls' := #[.val (.ref a1), .val (.int off), .val (.long xx), .second, .val (.int f), .val (.int j), .val (.int (45 : Int32))]) (hb hby d_method_4_46) rfl rfl ?_
  refine o_goto X hx 55 (hb hby d_method_4_48) rfl ?_
  refine o_aloadN X hx 56 (hb hby d_method_4_55) rfl rfl rfl ?_
  refine o_iload X hx 58 (hb hby d_method_4_56) rfl rfl ?_
  refine o_baload X hx hZ eT Va hj (v := (.int y)) hv 59 (hb hby d_method_4_58) rfl ?_
  refine o_iload X hx 61 (hb hby d_method_4_59) rfl rfl ?_
  refine o_icmpF X hx 64 (hb hby d_method_4_61) rfl hy ?_
  refine o_iconst X hx 65 (1 : Int32) (hb hby d_method_4_64) rfl rfl ?_
  refine o_goto X hx 69 (hb hby d_method_4_65) rfl ?_
  exact o_retI X hx hlk hret rfl (by simp) (hb hby d_method_4_69) (by decide) (by decide) (by rw [eT]; exact ⟨rfl, N, rfl⟩)
def Q_okB (Z : State) (a1 : Addr) (k1 : ClassId) (vs : List Value) (xx : Int64) (off f j y : Int32) (h0 : Heap) (n0 : Nat) (v : Option Value) (h : Heap) (L : List Loc) : Prop := v = some (.int 1) ∧ Fr n0 L ∧ h = h0
set_option maxRecDepth 65536 in
set_option maxHeartbeats 40000000 in
theorem rm_okB (l : Launch) (Z : State) (a0 : Array Value) (hw : ∀ d ∈ tables_1, d.before a0 Z = true) (ws : List Jvm.Cond) (a1 : Addr) (k1 : ClassId) (vs : List Value) (xx : Int64) (off f j y : Int32) (h0 : Heap) (n0 : Nat) (Z0 : n0 ≤ h0.size) (Va : Arv Z h0 a1 k1 .byte 20 vs (.int 0)) (hj : ¬ j < 0 ∧ j < 20) (hv : vs.getD j.toNatClampNeg (.int 0) = .int y) (q1 : ¬ j < off) (q2 : ¬ j < off + 16) (q3 : ¬ j = off + 16) (hy : y = f) :
    Met l Z (⟨"com/example/tidewater/tidewater/format/PosWriteLsnPinLaw", "ok", "([BIJBI)Z"⟩ : MethodName) method_4_code 7 (some .boolean) ws ({ frames := 1, cells := 0, slots := 0, locals := 16 } : Room) #[(.ref a1), (.int off), (.long xx), (.int f), (.int j)] h0 (Q_okB Z a1 k1 vs xx off f j y h0 n0) := by
  refine Met.start (plainFor_of_name pn_1) ?_
  intro p e s m below meth c T X hx hby hml hown hnm hret hlk hZ eT
  have N := Fr.nil n0
  refine Wout.cast (g' := (mkF m 0 #[.val (.ref a1), .val (.int off), .val (.long xx), .second, .val (.int f), .val (.int j), .unset] [])) (by first | rfl | (simp [entryFrame, mkF, argsToLocals, Value.category]; done)) ?_
  refine o_iload X hx 2 (hb hby d_method_4_0) rfl rfl ?_
  refine o_iloadN X hx 3 (hb hby d_method_4_2) rfl rfl ?_
  refine o_icmpT X hx 13 (hb hby d_method_4_3) rfl q1 ?_
  refine o_iload X hx 15 (hb hby d_method_4_13) rfl rfl ?_
  refine o_iloadN X hx 16 (hb hby d_method_4_15) rfl rfl ?_
  refine o_bipush X hx 18 (16 : Int32) (hb hby d_method_4_16) rfl rfl ?_
  refine o_iadd X hx 19 (hb hby d_method_4_18) rfl ?_
  refine o_icmpT X hx 35 (hb hby d_method_4_19) rfl q2 ?_
  refine o_iload X hx 37 (hb hby d_method_4_35) rfl rfl ?_
  refine o_iloadN X hx 38 (hb hby d_method_4_37) rfl rfl ?_
  refine o_bipush X hx 40 (16 : Int32) (hb hby d_method_4_38) rfl rfl ?_
  refine o_iadd X hx 41 (hb hby d_method_4_40) rfl ?_
  refine o_icmpT X hx 51 (hb hby d_method_4_41) rfl q3 ?_
  refine o_iload X hx 53 (hb hby d_method_4_51) rfl rfl ?_
  refine o_istore X hx 55 (Ls' := #[.val (.ref a1), .val (.int off), .val (.long xx), .second, .val (.int f), .val (.int j), .val (.int f)]) (hb hby d_method_4_53) rfl rfl ?_
  refine o_aloadN X hx 56 (hb hby d_method_4_55) rfl rfl rfl ?_
  refine o_iload X hx 58 (hb hby d_method_4_56) rfl rfl ?_
  refine o_baload X hx hZ eT Va hj (v := (.int y)) hv 59 (hb hby d_method_4_58) rfl ?_
  refine o_iload X hx 61 (hb hby d_method_4_59) rfl rfl ?_
  refine o_icmpF X hx 64 (hb hby d_method_4_61) rfl hy ?_
  refine o_iconst X hx 65 (1 : Int32) (hb hby d_method_4_64) rfl rfl ?_
  refine o_goto X hx 69 (hb hby d_method_4_65) rfl ?_
  exact o_retI X hx hlk hret rfl (by simp) (hb hby d_method_4_69) (by decide) (by decide) (by rw [eT]; exact ⟨rfl, N, rfl⟩)
theorem own_bv (x : BitVec 64) (k : Nat) (hk : k ≤ 15) : ((x >>> (60 - 4 * k)).signExtend 32 &&& 15#32) = ((x <<< (4 * k)) >>> 60).signExtend 32 := by
  rw [BitVec.signExtend_eq_setWidth_of_le _ (by decide), BitVec.signExtend_eq_setWidth_of_le _ (by decide)]
  apply BitVec.eq_of_getLsbD_eq
  intro i hi
  have h15 : (15#32).getLsbD i = decide (i < 4) := by
    match i with
    | 0 | 1 | 2 | 3 => rfl
    | i + 4 =>
      have : (15#32).getLsbD (i + 4) = false := by
        simp only [BitVec.getLsbD_ofNat]
        have : (15 : Nat).testBit (i + 4) = false := Nat.testBit_lt_two_pow (Nat.lt_of_lt_of_le (by decide : 15 < 2 ^ 4) (Nat.pow_le_pow_right (by decide) (by omega)))
        rw [this]; simp
      rw [this]; symm; exact decide_eq_false (by omega)
  simp only [BitVec.getLsbD_and, BitVec.getLsbD_setWidth, BitVec.getLsbD_ushiftRight, BitVec.getLsbD_shiftLeft, h15]
  by_cases h4 : i < 4
  · have e : 60 + i - 4 * k = 60 - 4 * k + i := by omega
    rw [e]
    simp [hi, h4, show ¬ 60 + i < 4 * k by omega, show 60 + i < 64 by omega]
  · simp [h4, show ¬ 60 + i < 64 by omega]
theorem own_sh (x : Int64) (y : Int32) (n : Nat) (h : (y.toInt64.toUInt64 &&& Int64.toUInt64 63).toBitVec.toNat % 64 = n) : (XT.ushrL x y).toBitVec = x.toBitVec >>> n := by
  subst h
  simp [XT.ushrL, UInt64.toBitVec_shiftRight]
theorem own_nd (x : Int64) (i s : Int32) (k : Nat) (hk : k ≤ 15) (h1 : (s.toInt64.toUInt64 &&& Int64.toUInt64 63).toBitVec.toNat % 64 = 60 - 4 * k) (h2 : (((((4 : Int32) * i).toInt64) &&& 63).toBitVec.smod 64).toNat = 4 * k) : own_n x i = own_d x s := by
  apply Int32.toBitVec_inj.mp
  unfold own_n own_d
  rw [Int32.toBitVec_and, Int64.toBitVec_toInt32, Int64.toBitVec_toInt32, own_sh x s _ h1, own_sh _ 60 60 (by decide), Int64.toBitVec_shiftLeft, BitVec.shiftLeft_eq', h2]
  exact (own_bv x.toBitVec k hk).symm
theorem own_main (x : Int64) (i s : Int32) (h : own_n x i = own_d x s) : nar .byte (own_hex (own_d x s)) = own_hx x i := by
  unfold own_hx
  rw [h]
  obtain ⟨n, hn, e⟩ := own_in16 (own_d16 x s).1 (own_d16 x s).2
  rw [e]
  clear h e
  match n, hn with
  | 0, _ | 1, _ | 2, _ | 3, _ | 4, _ | 5, _ | 6, _ | 7, _ | 8, _ | 9, _ | 10, _ | 11, _ | 12, _ | 13, _ | 14, _ | 15, _ => decide
  | n + 16, h => omega
theorem own_nar (x : Int32) : nar .byte (x.toInt8.toInt32) = x.toInt8.toInt32 := by simp [nar]
theorem own_and3 (x : Int32) : (x &&& (3 : Int32)) = 0 ∨ (x &&& (3 : Int32)) = 1 ∨ (x &&& (3 : Int32)) = 2 ∨ (x &&& (3 : Int32)) = 3 := by
  have e := Jvm.Kit.i32_mask x 3 (k := 2) (by decide) (by decide)
  exact in4 (by omega) (by omega)
theorem own_e0 (x : Int64) : nar .byte (own_hex (own_d x (60 : Int32))) = own_hx x (0 : Int32) := own_main x _ _ (own_nd x _ _ 0 (by decide) (by decide) (by decide))
theorem own_e1 (x : Int64) : nar .byte (own_hex (own_d x (56 : Int32))) = own_hx x (1 : Int32) := own_main x _ _ (own_nd x _ _ 1 (by decide) (by decide) (by decide))
theorem own_e2 (x : Int64) : nar .byte (own_hex (own_d x (52 : Int32))) = own_hx x (2 : Int32) := own_main x _ _ (own_nd x _ _ 2 (by decide) (by decide) (by decide))
theorem own_e3 (x : Int64) : nar .byte (own_hex (own_d x (48 : Int32))) = own_hx x (3 : Int32) := own_main x _ _ (own_nd x _ _ 3 (by decide) (by decide) (by decide))
theorem own_e4 (x : Int64) : nar .byte (own_hex (own_d x (44 : Int32))) = own_hx x (4 : Int32) := own_main x _ _ (own_nd x _ _ 4 (by decide) (by decide) (by decide))
theorem own_e5 (x : Int64) : nar .byte (own_hex (own_d x (40 : Int32))) = own_hx x (5 : Int32) := own_main x _ _ (own_nd x _ _ 5 (by decide) (by decide) (by decide))
theorem own_e6 (x : Int64) : nar .byte (own_hex (own_d x (36 : Int32))) = own_hx x (6 : Int32) := own_main x _ _ (own_nd x _ _ 6 (by decide) (by decide) (by decide))
theorem own_e7 (x : Int64) : nar .byte (own_hex (own_d x (32 : Int32))) = own_hx x (7 : Int32) := own_main x _ _ (own_nd x _ _ 7 (by decide) (by decide) (by decide))
theorem own_e8 (x : Int64) : nar .byte (own_hex (own_d x (28 : Int32))) = own_hx x (8 : Int32) := own_main x _ _ (own_nd x _ _ 8 (by decide) (by decide) (by decide))
theorem own_e9 (x : Int64) : nar .byte (own_hex (own_d x (24 : Int32))) = own_hx x (9 : Int32) := own_main x _ _ (own_nd x _ _ 9 (by decide) (by decide) (by decide))
theorem own_e10 (x : Int64) : nar .byte (own_hex (own_d x (20 : Int32))) = own_hx x (10 : Int32) := own_main x _ _ (own_nd x _ _ 10 (by decide) (by decide) (by decide))
theorem own_e11 (x : Int64) : nar .byte (own_hex (own_d x (16 : Int32))) = own_hx x (11 : Int32) := own_main x _ _ (own_nd x _ _ 11 (by decide) (by decide) (by decide))
theorem own_e12 (x : Int64) : nar .byte (own_hex (own_d x (12 : Int32))) = own_hx x (12 : Int32) := own_main x _ _ (own_nd x _ _ 12 (by decide) (by decide) (by decide))
theorem own_e13 (x : Int64) : nar .byte (own_hex (own_d x (8 : Int32))) = own_hx x (13 : Int32) := own_main x _ _ (own_nd x _ _ 13 (by decide) (by decide) (by decide))
theorem own_e14 (x : Int64) : nar .byte (own_hex (own_d x (4 : Int32))) = own_hx x (14 : Int32) := own_main x _ _ (own_nd x _ _ 14 (by decide) (by decide) (by decide))
theorem own_e15 (x : Int64) : nar .byte (own_hex (own_d x (0 : Int32))) = own_hx x (15 : Int32) := own_main x _ _ (own_nd x _ _ 15 (by decide) (by decide) (by decide))
theorem pd_1 : parseMethodDescriptor "([BIJ)V" = some ⟨[(.array .byte), .int, .long], none⟩ := by decide +kernel
theorem pd_2 : parseMethodDescriptor "([BIJBI)Z" = some ⟨[(.array .byte), .int, .long, .byte, .int], some .boolean⟩ := by decide +kernel
def Q_law (Z : State) (xx : Int64) (p2 p3 : Int32) (hxa : Addr) (kh : ClassId) (h0 : Heap) (n0 : Nat) (v : Option Value) (h : Heap) (L : List Loc) : Prop := v = some (.int 1) ∧ Fr n0 L ∧ True
set_option maxRecDepth 65536 in
set_option maxHeartbeats 40000000 in
theorem rm_law (l : Launch) (Z : State) (a0 : Array Value) (hw : ∀ d ∈ tables_1, d.before a0 Z = true) (ws : List Jvm.Cond) (xx : Int64) (p2 p3 : Int32) (hxa : Addr) (kh : ClassId) (h0 : Heap) (n0 : Nat) (Z0 : n0 ≤ h0.size) (O : Old Z n0 h0) (SH : Sta Z Z.heap "com/example/tidewater/tidewater/format/Pos" "HEX" "[B" (.ref hxa)) (VH : Arv Z Z.heap hxa kh .byte 16 own_hs (.int 0)) :
    Met l Z x code maxLocals ret ws room_1 #[(.long xx), (.int p2), (.int p3)] h0 (Q_law Z xx p2 p3 hxa kh h0 n0) := by
  refine Met.start (plainFor_of_name pn_1) ?_
  intro p e s m below meth c T X hx hby hml hown hnm hret hlk hZ eT
  have N := Fr.nil n0
  refine Wout.cast (g' := (mkF m 0 #[.val (.long xx), .second, .val (.int p2), .val (.int p3), .unset, .unset, .unset] [])) (by first | rfl | (simp [entryFrame, mkF, argsToLocals, Value.category, maxLocals]; done)) ?_
  refine o_iloadN X hx 1 (hb hby at_0) rfl rfl ?_
  refine o_iconst X hx 2 (3 : Int32) (hb hby at_1) rfl rfl ?_
  refine o_iand X hx 3 (hb hby at_2) rfl ?_
  obtain ⟨off, h_off⟩ : ∃ z, z = (p2 &&& (3 : Int32)) := ⟨_, rfl⟩
  rw [← h_off]
  have hoff := own_and3 p2
  rw [← h_off] at hoff
  clear h_off
  refine o_istore X hx 5 (Ls' := #[.val (.long xx), .second, .val (.int p2), .val (.int p3), .val (.int off), .unset, .unset]) (hb hby at_3) rfl rfl ?_
  refine o_iloadN X hx 6 (hb hby at_5) rfl rfl ?_
  refine o_i2b X hx 7 (hb hby at_6) rfl ?_
  obtain ⟨f, h_f⟩ : ∃ z, z = ((p3).toInt8.toInt32) := ⟨_, rfl⟩
  rw [← h_f]
  have hf : nar .byte f = f := by rw [h_f]; exact own_nar p3
  clear h_f
  refine o_istore X hx 9 (Ls' := #[.val (.long xx), .second, .val (.int p2), .val (.int p3), .val (.int off), .val (.int f), .unset]) (hb hby at_7) rfl rfl ?_
  refine o_bipush X hx 11 (20 : Int32) (hb hby at_9) rfl rfl ?_
  refine o_newarray X hx hZ (hw _ (List.mem_of_getElem? (i := 0) rfl)) eT 13 (hb hby at_11) rfl (by decide) 20 (by decide) (by decide) (by decide) (by decide) (fun T h1 b1 k1 hb1 X eT E A => ?_)
  have g_b1 : n0 ≤ b1 := Nat.le_trans Z0 (Nat.le_of_eq hb1.symm)
  replace Z0 := Nat.le_trans Z0 E.1
  replace O := O.ext E
  have V_b1 : Arv Z h1 b1 k1 .byte (20 : Int32) [(.int (0 : Int32)), (.int (0 : Int32)), (.int (0 : Int32)), (.int (0 : Int32)), (.int (0 : Int32)), (.int (0 : Int32)), (.int (0 : Int32)), (.int (0 : Int32)), (.int (0 : Int32)), (.int (0 : Int32)), (.int (0 : Int32)), (.int (0 : Int32)), (.int (0 : Int32)), (.int (0 : Int32)), (.int (0 : Int32)), (.int (0 : Int32)), (.int (0 : Int32)), (.int (0 : Int32)), (.int (0 : Int32)), (.int (0 : Int32))] (.int (0 : Int32)) := A.pad (pad_rep [] (.int (0 : Int32)) 20)
  refine o_astore X hx 15 (Ls' := #[.val (.long xx), .second, .val (.int p2), .val (.int p3), .val (.int off), .val (.int f), .val (.ref b1)]) (hb hby at_13) rfl rfl rfl ?_
  refine o_aload X hx 17 (hb hby at_15) rfl rfl rfl ?_
  refine o_iconst X hx 18 (0 : Int32) (hb hby at_17) rfl rfl ?_
  refine o_iload X hx 20 (hb hby at_18) rfl rfl ?_
  refine o_bastore X hx hZ eT V_b1 ⟨by decide, by decide⟩ 0 rfl (Nat.le_of_ble_eq_true rfl) (vs' := [(.int (nar .byte f)), (.int (0 : Int32)), (.int (0 : Int32)), (.int (0 : Int32)), (.int (0 : Int32)), (.int (0 : Int32)), (.int (0 : Int32)), (.int (0 : Int32)), (.int (0 : Int32)), (.int (0 : Int32)), (.int (0 : Int32)), (.int (0 : Int32)), (.int (0 : Int32)), (.int (0 : Int32)), (.int (0 : Int32)), (.int (0 : Int32)), (.int (0 : Int32)), (.int (0 : Int32)), (.int (0 : Int32)), (.int (0 : Int32))]) rfl N g_b1 21 (hb hby at_20) rfl (fun T h2 locs X eT W V' N => ?_)
  replace Z0 := Nat.le_trans Z0 (Keep.of_wr W).1
  replace O := O.wr W g_b1
  replace V_b1 := V'
  refine o_aload X hx 23 (hb hby at_21) rfl rfl rfl ?_
  refine o_iconst X hx 24 (1 : Int32) (hb hby at_23) rfl rfl ?_
  refine o_iload X hx 26 (hb hby at_24) rfl rfl ?_
  refine o_bastore X hx hZ eT V_b1 ⟨by decide, by decide⟩ 1 rfl (Nat.le_of_ble_eq_true rfl) (vs' := [(.int (nar .byte f)), (.int (nar .byte f)), (.int (0 : Int32)), (.int (0 : Int32)), (.int (0 : Int32)), (.int (0 : Int32)), (.int (0 : Int32)), (.int (0 : Int32)), (.int (0 : Int32)), (.int (0 : Int32)), (.int (0 : Int32)), (.int (0 : Int32)), (.int (0 : Int32)), (.int (0 : Int32)), (.int (0 : Int32)), (.int (0 : Int32)), (.int (0 : Int32)), (.int (0 : Int32)), (.int (0 : Int32)), (.int (0 : Int32))]) rfl N g_b1 27 (hb hby at_26) rfl (fun T h3 locs X eT W V' N => ?_)
  replace Z0 := Nat.le_trans Z0 (Keep.of_wr W).1
  replace O := O.wr W g_b1
  replace V_b1 := V'
  refine o_aload X hx 29 (hb hby at_27) rfl rfl rfl ?_
  refine o_iconst X hx 30 (2 : Int32) (hb hby at_29) rfl rfl ?_
  refine o_iload X hx 32 (hb hby at_30) rfl rfl ?_
  refine o_bastore X hx hZ eT V_b1 ⟨by decide, by decide⟩ 2 rfl (Nat.le_of_ble_eq_true rfl) (vs' := [(.int (nar .byte f)), (.int (nar .byte f)), (.int (nar .byte f)), (.int (0 : Int32)), (.int (0 : Int32)), (.int (0 : Int32)), (.int (0 : Int32)), (.int (0 : Int32)), (.int (0 : Int32)), (.int (0 : Int32)), (.int (0 : Int32)), (.int (0 : Int32)), (.int (0 : Int32)), (.int (0 : Int32)), (.int (0 : Int32)), (.int (0 : Int32)), (.int (0 : Int32)), (.int (0 : Int32)), (.int (0 : Int32)), (.int (0 : Int32))]) rfl N g_b1 33 (hb hby at_32) rfl (fun T h4 locs X eT W V' N => ?_)
  replace Z0 := Nat.le_trans Z0 (Keep.of_wr W).1
  replace O := O.wr W g_b1
  replace V_b1 := V'
  refine o_aload X hx 35 (hb hby at_33) rfl rfl rfl ?_
  refine o_iconst X hx 36 (3 : Int32) (hb hby at_35) rfl rfl ?_
  refine o_iload X hx 38 (hb hby at_36) rfl rfl ?_
  refine o_bastore X hx hZ eT V_b1 ⟨by decide, by decide⟩ 3 rfl (Nat.le_of_ble_eq_true rfl) (vs' := [(.int (nar .byte f)), (.int (nar .byte f)), (.int (nar .byte f)), (.int (nar .byte f)), (.int (0 : Int32)), (.int (0 : Int32)), (.int (0 : Int32)), (.int (0 : Int32)), (.int (0 : Int32)), (.int (0 : Int32)), (.int (0 : Int32)), (.int (0 : Int32)), (.int (0 : Int32)), (.int (0 : Int32)), (.int (0 : Int32)), (.int (0 : Int32)), (.int (0 : Int32)), (.int (0 : Int32)), (.int (0 : Int32)), (.int (0 : Int32))]) rfl N g_b1 39 (hb hby at_38) rfl (fun T h5 locs X eT W V' N => ?_)
  replace Z0 := Nat.le_trans Z0 (Keep.of_wr W).1
  replace O := O.wr W g_b1
  replace V_b1 := V'
  refine o_aload X hx 41 (hb hby at_39) rfl rfl rfl ?_
  refine o_iconst X hx 42 (4 : Int32) (hb hby at_41) rfl rfl ?_
  refine o_iload X hx 44 (hb hby at_42) rfl rfl ?_
  refine o_bastore X hx hZ eT V_b1 ⟨by decide, by decide⟩ 4 rfl (Nat.le_of_ble_eq_true rfl) (vs' := [(.int (nar .byte f)), (.int (nar .byte f)), (.int (nar .byte f)), (.int (nar .byte f)), (.int (nar .byte f)), (.int (0 : Int32)), (.int (0 : Int32)), (.int (0 : Int32)), (.int (0 : Int32)), (.int (0 : Int32)), (.int (0 : Int32)), (.int (0 : Int32)), (.int (0 : Int32)), (.int (0 : Int32)), (.int (0 : Int32)), (.int (0 : Int32)), (.int (0 : Int32)), (.int (0 : Int32)), (.int (0 : Int32)), (.int (0 : Int32))]) rfl N g_b1 45 (hb hby at_44) rfl (fun T h6 locs X eT W V' N => ?_)
  replace Z0 := Nat.le_trans Z0 (Keep.of_wr W).1
  replace O := O.wr W g_b1
  replace V_b1 := V'
  refine o_aload X hx 47 (hb hby at_45) rfl rfl rfl ?_
  refine o_iconst X hx 48 (5 : Int32) (hb hby at_47) rfl rfl ?_
  refine o_iload X hx 50 (hb hby at_48) rfl rfl ?_
  refine o_bastore X hx hZ eT V_b1 ⟨by decide, by decide⟩ 5 rfl (Nat.le_of_ble_eq_true rfl) (vs' := [(.int (nar .byte f)), (.int (nar .byte f)), (.int (nar .byte f)), (.int (nar .byte f)), (.int (nar .byte f)), (.int (nar .byte f)), (.int (0 : Int32)), (.int (0 : Int32)), (.int (0 : Int32)), (.int (0 : Int32)), (.int (0 : Int32)), (.int (0 : Int32)), (.int (0 : Int32)), (.int (0 : Int32)), (.int (0 : Int32)), (.int (0 : Int32)), (.int (0 : Int32)), (.int (0 : Int32)), (.int (0 : Int32)), (.int (0 : Int32))]) rfl N g_b1 51 (hb hby at_50) rfl (fun T h7 locs X eT W V' N => ?_)
  replace Z0 := Nat.le_trans Z0 (Keep.of_wr W).1
  replace O := O.wr W g_b1
  replace V_b1 := V'
  refine o_aload X hx 53 (hb hby at_51) rfl rfl rfl ?_
  refine o_bipush X hx 55 (6 : Int32) (hb hby at_53) rfl rfl ?_
  refine o_iload X hx 57 (hb hby at_55) rfl rfl ?_
  refine o_bastore X hx hZ eT V_b1 ⟨by decide, by decide⟩ 6 rfl (Nat.le_of_ble_eq_true rfl) (vs' := [(.int (nar .byte f)), (.int (nar .byte f)), (.int (nar .byte f)), (.int (nar .byte f)), (.int (nar .byte f)), (.int (nar .byte f)), (.int (nar .byte f)), (.int (0 : Int32)), (.int (0 : Int32)), (.int (0 : Int32)), (.int (0 : Int32)), (.int (0 : Int32)), (.int (0 : Int32)), (.int (0 : Int32)), (.int (0 : Int32)), (.int (0 : Int32)), (.int (0 : Int32)), (.int (0 : Int32)), (.int (0 : Int32)), (.int (0 : Int32))]) rfl N g_b1 58 (hb hby at_57) rfl (fun T h8 locs X eT W V' N => ?_)
  replace Z0 := Nat.le_trans Z0 (Keep.of_wr W).1
  replace O := O.wr W g_b1
  replace V_b1 := V'
  refine o_aload X hx 60 (hb hby at_58) rfl rfl rfl ?_
  refine o_bipush X hx 62 (7 : Int32) (hb hby at_60) rfl rfl ?_
  refine o_iload X hx 64 (hb hby at_62) rfl rfl ?_
  refine o_bastore X hx hZ eT V_b1 ⟨by decide, by decide⟩ 7 rfl (Nat.le_of_ble_eq_true rfl) (vs' := [(.int (nar .byte f)), (.int (nar .byte f)), (.int (nar .byte f)), (.int (nar .byte f)), (.int (nar .byte f)), (.int (nar .byte f)), (.int (nar .byte f)), (.int (nar .byte f)), (.int (0 : Int32)), (.int (0 : Int32)), (.int (0 : Int32)), (.int (0 : Int32)), (.int (0 : Int32)), (.int (0 : Int32)), (.int (0 : Int32)), (.int (0 : Int32)), (.int (0 : Int32)), (.int (0 : Int32)), (.int (0 : Int32)), (.int (0 : Int32))]) rfl N g_b1 65 (hb hby at_64) rfl (fun T h9 locs X eT W V' N => ?_)
  replace Z0 := Nat.le_trans Z0 (Keep.of_wr W).1
  replace O := O.wr W g_b1
  replace V_b1 := V'
  refine o_aload X hx 67 (hb hby at_65) rfl rfl rfl ?_
  refine o_bipush X hx 69 (8 : Int32) (hb hby at_67) rfl rfl ?_
  refine o_iload X hx 71 (hb hby at_69) rfl rfl ?_
  refine o_bastore X hx hZ eT V_b1 ⟨by decide, by decide⟩ 8 rfl (Nat.le_of_ble_eq_true rfl) (vs' := [(.int (nar .byte f)), (.int (nar .byte f)), (.int (nar .byte f)), (.int (nar .byte f)), (.int (nar .byte f)), (.int (nar .byte f)), (.int (nar .byte f)), (.int (nar .byte f)), (.int (nar .byte f)), (.int (0 : Int32)), (.int (0 : Int32)), (.int (0 : Int32)), (.int (0 : Int32)), (.int (0 : Int32)), (.int (0 : Int32)), (.int (0 : Int32)), (.int (0 : Int32)), (.int (0 : Int32)), (.int (0 : Int32)), (.int (0 : Int32))]) rfl N g_b1 72 (hb hby at_71) rfl (fun T h10 locs X eT W V' N => ?_)
  replace Z0 := Nat.le_trans Z0 (Keep.of_wr W).1
  replace O := O.wr W g_b1
  replace V_b1 := V'
  refine o_aload X hx 74 (hb hby at_72) rfl rfl rfl ?_
  refine o_bipush X hx 76 (9 : Int32) (hb hby at_74) rfl rfl ?_
  refine o_iload X hx 78 (hb hby at_76) rfl rfl ?_
  refine o_bastore X hx hZ eT V_b1 ⟨by decide, by decide⟩ 9 rfl (Nat.le_of_ble_eq_true rfl) (vs' := [(.int (nar .byte f)), (.int (nar .byte f)), (.int (nar .byte f)), (.int (nar .byte f)), (.int (nar .byte f)), (.int (nar .byte f)), (.int (nar .byte f)), (.int (nar .byte f)), (.int (nar .byte f)), (.int (nar .byte f)), (.int (0 : Int32)), (.int (0 : Int32)), (.int (0 : Int32)), (.int (0 : Int32)), (.int (0 : Int32)), (.int (0 : Int32)), (.int (0 : Int32)), (.int (0 : Int32)), (.int (0 : Int32)), (.int (0 : Int32))]) rfl N g_b1 79 (hb hby at_78) rfl (fun T h11 locs X eT W V' N => ?_)
  replace Z0 := Nat.le_trans Z0 (Keep.of_wr W).1
  replace O := O.wr W g_b1
  replace V_b1 := V'
  refine o_aload X hx 81 (hb hby at_79) rfl rfl rfl ?_
  refine o_bipush X hx 83 (10 : Int32) (hb hby at_81) rfl rfl ?_
  refine o_iload X hx 85 (hb hby at_83) rfl rfl ?_
  refine o_bastore X hx hZ eT V_b1 ⟨by decide, by decide⟩ 10 rfl (Nat.le_of_ble_eq_true rfl) (vs' := [(.int (nar .byte f)), (.int (nar .byte f)), (.int (nar .byte f)), (.int (nar .byte f)), (.int (nar .byte f)), (.int (nar .byte f)), (.int (nar .byte f)), (.int (nar .byte f)), (.int (nar .byte f)), (.int (nar .byte f)), (.int (nar .byte f)), (.int (0 : Int32)), (.int (0 : Int32)), (.int (0 : Int32)), (.int (0 : Int32)), (.int (0 : Int32)), (.int (0 : Int32)), (.int (0 : Int32)), (.int (0 : Int32)), (.int (0 : Int32))]) rfl N g_b1 86 (hb hby at_85) rfl (fun T h12 locs X eT W V' N => ?_)
  replace Z0 := Nat.le_trans Z0 (Keep.of_wr W).1
  replace O := O.wr W g_b1
  replace V_b1 := V'
  refine o_aload X hx 88 (hb hby at_86) rfl rfl rfl ?_
  refine o_bipush X hx 90 (11 : Int32) (hb hby at_88) rfl rfl ?_
  refine o_iload X hx 92 (hb hby at_90) rfl rfl ?_
  refine o_bastore X hx hZ eT V_b1 ⟨by decide, by decide⟩ 11 rfl (Nat.le_of_ble_eq_true rfl) (vs' := [(.int (nar .byte f)), (.int (nar .byte f)), (.int (nar .byte f)), (.int (nar .byte f)), (.int (nar .byte f)), (.int (nar .byte f)), (.int (nar .byte f)), (.int (nar .byte f)), (.int (nar .byte f)), (.int (nar .byte f)), (.int (nar .byte f)), (.int (nar .byte f)), (.int (0 : Int32)), (.int (0 : Int32)), (.int (0 : Int32)), (.int (0 : Int32)), (.int (0 : Int32)), (.int (0 : Int32)), (.int (0 : Int32)), (.int (0 : Int32))]) rfl N g_b1 93 (hb hby at_92) rfl (fun T h13 locs X eT W V' N => ?_)
  replace Z0 := Nat.le_trans Z0 (Keep.of_wr W).1
  replace O := O.wr W g_b1
  replace V_b1 := V'
  refine o_aload X hx 95 (hb hby at_93) rfl rfl rfl ?_
  refine o_bipush X hx 97 (12 : Int32) (hb hby at_95) rfl rfl ?_
  refine o_iload X hx 99 (hb hby at_97) rfl rfl ?_
  refine o_bastore X hx hZ eT V_b1 ⟨by decide, by decide⟩ 12 rfl (Nat.le_of_ble_eq_true rfl) (vs' := [(.int (nar .byte f)), (.int (nar .byte f)), (.int (nar .byte f)), (.int (nar .byte f)), (.int (nar .byte f)), (.int (nar .byte f)), (.int (nar .byte f)), (.int (nar .byte f)), (.int (nar .byte f)), (.int (nar .byte f)), (.int (nar .byte f)), (.int (nar .byte f)), (.int (nar .byte f)), (.int (0 : Int32)), (.int (0 : Int32)), (.int (0 : Int32)), (.int (0 : Int32)), (.int (0 : Int32)), (.int (0 : Int32)), (.int (0 : Int32))]) rfl N g_b1 100 (hb hby at_99) rfl (fun T h14 locs X eT W V' N => ?_)
  replace Z0 := Nat.le_trans Z0 (Keep.of_wr W).1
  replace O := O.wr W g_b1
  replace V_b1 := V'
  refine o_aload X hx 102 (hb hby at_100) rfl rfl rfl ?_
  refine o_bipush X hx 104 (13 : Int32) (hb hby at_102) rfl rfl ?_
  refine o_iload X hx 106 (hb hby at_104) rfl rfl ?_
  refine o_bastore X hx hZ eT V_b1 ⟨by decide, by decide⟩ 13 rfl (Nat.le_of_ble_eq_true rfl) (vs' := [(.int (nar .byte f)), (.int (nar .byte f)), (.int (nar .byte f)), (.int (nar .byte f)), (.int (nar .byte f)), (.int (nar .byte f)), (.int (nar .byte f)), (.int (nar .byte f)), (.int (nar .byte f)), (.int (nar .byte f)), (.int (nar .byte f)), (.int (nar .byte f)), (.int (nar .byte f)), (.int (nar .byte f)), (.int (0 : Int32)), (.int (0 : Int32)), (.int (0 : Int32)), (.int (0 : Int32)), (.int (0 : Int32)), (.int (0 : Int32))]) rfl N g_b1 107 (hb hby at_106) rfl (fun T h15 locs X eT W V' N => ?_)
  replace Z0 := Nat.le_trans Z0 (Keep.of_wr W).1
  replace O := O.wr W g_b1
  replace V_b1 := V'
  refine o_aload X hx 109 (hb hby at_107) rfl rfl rfl ?_
  refine o_bipush X hx 111 (14 : Int32) (hb hby at_109) rfl rfl ?_
  refine o_iload X hx 113 (hb hby at_111) rfl rfl ?_
  refine o_bastore X hx hZ eT V_b1 ⟨by decide, by decide⟩ 14 rfl (Nat.le_of_ble_eq_true rfl) (vs' := [(.int (nar .byte f)), (.int (nar .byte f)), (.int (nar .byte f)), (.int (nar .byte f)), (.int (nar .byte f)), (.int (nar .byte f)), (.int (nar .byte f)), (.int (nar .byte f)), (.int (nar .byte f)), (.int (nar .byte f)), (.int (nar .byte f)), (.int (nar .byte f)), (.int (nar .byte f)), (.int (nar .byte f)), (.int (nar .byte f)), (.int (0 : Int32)), (.int (0 : Int32)), (.int (0 : Int32)), (.int (0 : Int32)), (.int (0 : Int32))]) rfl N g_b1 114 (hb hby at_113) rfl (fun T h16 locs X eT W V' N => ?_)
  replace Z0 := Nat.le_trans Z0 (Keep.of_wr W).1
  replace O := O.wr W g_b1
  replace V_b1 := V'
  refine o_aload X hx 116 (hb hby at_114) rfl rfl rfl ?_
  refine o_bipush X hx 118 (15 : Int32) (hb hby at_116) rfl rfl ?_
  refine o_iload X hx 120 (hb hby at_118) rfl rfl ?_
  refine o_bastore X hx hZ eT V_b1 ⟨by decide, by decide⟩ 15 rfl (Nat.le_of_ble_eq_true rfl) (vs' := [(.int (nar .byte f)), (.int (nar .byte f)), (.int (nar .byte f)), (.int (nar .byte f)), (.int (nar .byte f)), (.int (nar .byte f)), (.int (nar .byte f)), (.int (nar .byte f)), (.int (nar .byte f)), (.int (nar .byte f)), (.int (nar .byte f)), (.int (nar .byte f)), (.int (nar .byte f)), (.int (nar .byte f)), (.int (nar .byte f)), (.int (nar .byte f)), (.int (0 : Int32)), (.int (0 : Int32)), (.int (0 : Int32)), (.int (0 : Int32))]) rfl N g_b1 121 (hb hby at_120) rfl (fun T h17 locs X eT W V' N => ?_)
  replace Z0 := Nat.le_trans Z0 (Keep.of_wr W).1
  replace O := O.wr W g_b1
  replace V_b1 := V'
  refine o_aload X hx 123 (hb hby at_121) rfl rfl rfl ?_
  refine o_bipush X hx 125 (16 : Int32) (hb hby at_123) rfl rfl ?_
  refine o_iload X hx 127 (hb hby at_125) rfl rfl ?_
  refine o_bastore X hx hZ eT V_b1 ⟨by decide, by decide⟩ 16 rfl (Nat.le_of_ble_eq_true rfl) (vs' := [(.int (nar .byte f)), (.int (nar .byte f)), (.int (nar .byte f)), (.int (nar .byte f)), (.int (nar .byte f)), (.int (nar .byte f)), (.int (nar .byte f)), (.int (nar .byte f)), (.int (nar .byte f)), (.int (nar .byte f)), (.int (nar .byte f)), (.int (nar .byte f)), (.int (nar .byte f)), (.int (nar .byte f)), (.int (nar .byte f)), (.int (nar .byte f)), (.int (nar .byte f)), (.int (0 : Int32)), (.int (0 : Int32)), (.int (0 : Int32))]) rfl N g_b1 128 (hb hby at_127) rfl (fun T h18 locs X eT W V' N => ?_)
  replace Z0 := Nat.le_trans Z0 (Keep.of_wr W).1
  replace O := O.wr W g_b1
  replace V_b1 := V'
  refine o_aload X hx 130 (hb hby at_128) rfl rfl rfl ?_
  refine o_bipush X hx 132 (17 : Int32) (hb hby at_130) rfl rfl ?_
  refine o_iload X hx 134 (hb hby at_132) rfl rfl ?_
  refine o_bastore X hx hZ eT V_b1 ⟨by decide, by decide⟩ 17 rfl (Nat.le_of_ble_eq_true rfl) (vs' := [(.int (nar .byte f)), (.int (nar .byte f)), (.int (nar .byte f)), (.int (nar .byte f)), (.int (nar .byte f)), (.int (nar .byte f)), (.int (nar .byte f)), (.int (nar .byte f)), (.int (nar .byte f)), (.int (nar .byte f)), (.int (nar .byte f)), (.int (nar .byte f)), (.int (nar .byte f)), (.int (nar .byte f)), (.int (nar .byte f)), (.int (nar .byte f)), (.int (nar .byte f)), (.int (nar .byte f)), (.int (0 : Int32)), (.int (0 : Int32))]) rfl N g_b1 135 (hb hby at_134) rfl (fun T h19 locs X eT W V' N => ?_)
  replace Z0 := Nat.le_trans Z0 (Keep.of_wr W).1
  replace O := O.wr W g_b1
  replace V_b1 := V'
  refine o_aload X hx 137 (hb hby at_135) rfl rfl rfl ?_
  refine o_bipush X hx 139 (18 : Int32) (hb hby at_137) rfl rfl ?_
  refine o_iload X hx 141 (hb hby at_139) rfl rfl ?_
  refine o_bastore X hx hZ eT V_b1 ⟨by decide, by decide⟩ 18 rfl (Nat.le_of_ble_eq_true rfl) (vs' := [(.int (nar .byte f)), (.int (nar .byte f)), (.int (nar .byte f)), (.int (nar .byte f)), (.int (nar .byte f)), (.int (nar .byte f)), (.int (nar .byte f)), (.int (nar .byte f)), (.int (nar .byte f)), (.int (nar .byte f)), (.int (nar .byte f)), (.int (nar .byte f)), (.int (nar .byte f)), (.int (nar .byte f)), (.int (nar .byte f)), (.int (nar .byte f)), (.int (nar .byte f)), (.int (nar .byte f)), (.int (nar .byte f)), (.int (0 : Int32))]) rfl N g_b1 142 (hb hby at_141) rfl (fun T h20 locs X eT W V' N => ?_)
  replace Z0 := Nat.le_trans Z0 (Keep.of_wr W).1
  replace O := O.wr W g_b1
  replace V_b1 := V'
  refine o_aload X hx 144 (hb hby at_142) rfl rfl rfl ?_
  refine o_bipush X hx 146 (19 : Int32) (hb hby at_144) rfl rfl ?_
  refine o_iload X hx 148 (hb hby at_146) rfl rfl ?_
  refine o_bastore X hx hZ eT V_b1 ⟨by decide, by decide⟩ 19 rfl (Nat.le_of_ble_eq_true rfl) (vs' := [(.int (nar .byte f)), (.int (nar .byte f)), (.int (nar .byte f)), (.int (nar .byte f)), (.int (nar .byte f)), (.int (nar .byte f)), (.int (nar .byte f)), (.int (nar .byte f)), (.int (nar .byte f)), (.int (nar .byte f)), (.int (nar .byte f)), (.int (nar .byte f)), (.int (nar .byte f)), (.int (nar .byte f)), (.int (nar .byte f)), (.int (nar .byte f)), (.int (nar .byte f)), (.int (nar .byte f)), (.int (nar .byte f)), (.int (nar .byte f))]) rfl N g_b1 149 (hb hby at_148) rfl (fun T h21 locs X eT W V' N => ?_)
  replace Z0 := Nat.le_trans Z0 (Keep.of_wr W).1
  replace O := O.wr W g_b1
  replace V_b1 := V'
  refine o_aload X hx 151 (hb hby at_149) rfl rfl rfl ?_
  refine o_iload X hx 153 (hb hby at_151) rfl rfl ?_
  refine o_lloadN X hx 154 (hb hby at_153) rfl rfl ?_
  rcases hoff with rfl | rfl | rfl | rfl
  · show Wout p e below _ T (mkF m 154 #[.val (.long xx), .second, .val (.int p2), .val (.int p3), .val (.int (0 : Int32)), .val (.int f), .val (.ref b1)] [(.long xx), (.int (0 : Int32)), (.ref b1)])
    refine o_callS X hx hZ hown (hw _ (List.mem_of_getElem? (i := 1) rfl)) (hw _ (List.mem_of_getElem? (i := 2) rfl)) (hw _ (List.mem_of_getElem? (i := 3) rfl)) (hw _ (List.mem_of_getElem? (i := 4) rfl)) (by decide) (rm_wl0 l Z a0 hw [] b1 hxa k1 kh xx (nar .byte f) _ n0 Z0 O SH VH V_b1 g_b1) eT (by decide) 0 (by decide) (by rw [hml]; rfl) [(.ref b1), (.int (0 : Int32)), (.long xx)] (rest := []) (lenOf pd_1 rfl) rfl rfl (Nat.le_of_eq rfl) (by decide) (by decide) 157 (hb hby at_154) rfl (fun v T h22 Lc X eT q => ?_)
    obtain ⟨rfl, N', K1, V1⟩ := q
    replace N := Fr.app N N'
    replace Z0 := Nat.le_trans Z0 K1.1
    replace O := O.keep K1 (allS (P := fun x => n0 ≤ x) g_b1 all0)
    replace V_b1 := V1
    show Wout p e below _ T (mkF m 157 #[.val (.long xx), .second, .val (.int p2), .val (.int p3), .val (.int (0 : Int32)), .val (.int f), .val (.ref b1)] [])
    refine o_aload X hx 159 (hb hby at_157) rfl rfl rfl ?_
    refine o_iload X hx 161 (hb hby at_159) rfl rfl ?_
    refine o_lloadN X hx 162 (hb hby at_161) rfl rfl ?_
    refine o_iload X hx 164 (hb hby at_162) rfl rfl ?_
    refine o_iconst X hx 165 (0 : Int32) (hb hby at_164) rfl rfl ?_
    refine o_callS X hx hZ hown (hw _ (List.mem_of_getElem? (i := 7) rfl)) (hw _ (List.mem_of_getElem? (i := 8) rfl)) (hw _ (List.mem_of_getElem? (i := 9) rfl)) (hw _ (List.mem_of_getElem? (i := 10) rfl)) (by decide) (rm_okH l Z a0 hw [] b1 k1 [(.int (nar .byte (own_hex (own_d xx (60 : Int32))))), (.int (nar .byte (own_hex (own_d xx (56 : Int32))))), (.int (nar .byte (own_hex (own_d xx (52 : Int32))))), (.int (nar .byte (own_hex (own_d xx (48 : Int32))))), (.int (nar .byte (own_hex (own_d xx (44 : Int32))))), (.int (nar .byte (own_hex (own_d xx (40 : Int32))))), (.int (nar .byte (own_hex (own_d xx (36 : Int32))))), (.int (nar .byte (own_hex (own_d xx (32 : Int32))))), (.int (nar .byte (own_hex (own_d xx (28 : Int32))))), (.int (nar .byte (own_hex (own_d xx (24 : Int32))))), (.int (nar .byte (own_hex (own_d xx (20 : Int32))))), (.int (nar .byte (own_hex (own_d xx (16 : Int32))))), (.int (nar .byte (own_hex (own_d xx (12 : Int32))))), (.int (nar .byte (own_hex (own_d xx (8 : Int32))))), (.int (nar .byte (own_hex (own_d xx (4 : Int32))))), (.int (nar .byte (own_hex (own_d xx (0 : Int32))))), (.int (nar .byte (45 : Int32))), (.int (nar .byte f)), (.int (nar .byte f)), (.int (nar .byte f))] xx (0 : Int32) f (0 : Int32) (nar .byte (own_hex (own_d xx (60 : Int32)))) _ n0 Z0 V_b1 (by decide) rfl (by decide) (by decide) (own_e0 xx)) eT (by decide) 0 (by decide) (by rw [hml]; rfl) [(.ref b1), (.int (0 : Int32)), (.long xx), (.int f), (.int (0 : Int32))] (rest := []) (lenOf pd_2 rfl) rfl rfl (Nat.le_of_eq rfl) (by decide) (by decide) 168 (hb hby at_165) rfl (fun v T h23 Lc X eT q => ?_)
    obtain ⟨rfl, N', e'⟩ := q
    replace N := Fr.app N N'
    replace eT := eT.trans e'
    show Wout p e below _ T (mkF m 168 #[.val (.long xx), .second, .val (.int p2), .val (.int p3), .val (.int (0 : Int32)), .val (.int f), .val (.ref b1)] [(.int (1 : Int32))])
    refine o_ifF X hx 171 (hb hby at_168) rfl (by decide : ¬ (1 : Int32) = (0 : Int32)) ?_
    refine o_aload X hx 173 (hb hby at_171) rfl rfl rfl ?_
    refine o_iload X hx 175 (hb hby at_173) rfl rfl ?_
    refine o_lloadN X hx 176 (hb hby at_175) rfl rfl ?_
    refine o_iload X hx 178 (hb hby at_176) rfl rfl ?_
    refine o_iconst X hx 179 (1 : Int32) (hb hby at_178) rfl rfl ?_
    refine o_callS X hx hZ hown (hw _ (List.mem_of_getElem? (i := 7) rfl)) (hw _ (List.mem_of_getElem? (i := 8) rfl)) (hw _ (List.mem_of_getElem? (i := 9) rfl)) (hw _ (List.mem_of_getElem? (i := 10) rfl)) (by decide) (rm_okH l Z a0 hw [] b1 k1 [(.int (nar .byte (own_hex (own_d xx (60 : Int32))))), (.int (nar .byte (own_hex (own_d xx (56 : Int32))))), (.int (nar .byte (own_hex (own_d xx (52 : Int32))))), (.int (nar .byte (own_hex (own_d xx (48 : Int32))))), (.int (nar .byte (own_hex (own_d xx (44 : Int32))))), (.int (nar .byte (own_hex (own_d xx (40 : Int32))))), (.int (nar .byte (own_hex (own_d xx (36 : Int32))))), (.int (nar .byte (own_hex (own_d xx (32 : Int32))))), (.int (nar .byte (own_hex (own_d xx (28 : Int32))))), (.int (nar .byte (own_hex (own_d xx (24 : Int32))))), (.int (nar .byte (own_hex (own_d xx (20 : Int32))))), (.int (nar .byte (own_hex (own_d xx (16 : Int32))))), (.int (nar .byte (own_hex (own_d xx (12 : Int32))))), (.int (nar .byte (own_hex (own_d xx (8 : Int32))))), (.int (nar .byte (own_hex (own_d xx (4 : Int32))))), (.int (nar .byte (own_hex (own_d xx (0 : Int32))))), (.int (nar .byte (45 : Int32))), (.int (nar .byte f)), (.int (nar .byte f)), (.int (nar .byte f))] xx (0 : Int32) f (1 : Int32) (nar .byte (own_hex (own_d xx (56 : Int32)))) _ n0 Z0 V_b1 (by decide) rfl (by decide) (by decide) (own_e1 xx)) eT (by decide) 0 (by decide) (by rw [hml]; rfl) [(.ref b1), (.int (0 : Int32)), (.long xx), (.int f), (.int (1 : Int32))] (rest := []) (lenOf pd_2 rfl) rfl rfl (Nat.le_of_eq rfl) (by decide) (by decide) 182 (hb hby at_179) rfl (fun v T h24 Lc X eT q => ?_)
    obtain ⟨rfl, N', e'⟩ := q
    replace N := Fr.app N N'
    replace eT := eT.trans e'
    show Wout p e below _ T (mkF m 182 #[.val (.long xx), .second, .val (.int p2), .val (.int p3), .val (.int (0 : Int32)), .val (.int f), .val (.ref b1)] [(.int (1 : Int32))])
    refine o_ifF X hx 185 (hb hby at_182) rfl (by decide : ¬ (1 : Int32) = (0 : Int32)) ?_
    refine o_aload X hx 187 (hb hby at_185) rfl rfl rfl ?_
    refine o_iload X hx 189 (hb hby at_187) rfl rfl ?_
    refine o_lloadN X hx 190 (hb hby at_189) rfl rfl ?_
    refine o_iload X hx 192 (hb hby at_190) rfl rfl ?_
    refine o_iconst X hx 193 (2 : Int32) (hb hby at_192) rfl rfl ?_
    refine o_callS X hx hZ hown (hw _ (List.mem_of_getElem? (i := 7) rfl)) (hw _ (List.mem_of_getElem? (i := 8) rfl)) (hw _ (List.mem_of_getElem? (i := 9) rfl)) (hw _ (List.mem_of_getElem? (i := 10) rfl)) (by decide) (rm_okH l Z a0 hw [] b1 k1 [(.int (nar .byte (own_hex (own_d xx (60 : Int32))))), (.int (nar .byte (own_hex (own_d xx (56 : Int32))))), (.int (nar .byte (own_hex (own_d xx (52 : Int32))))), (.int (nar .byte (own_hex (own_d xx (48 : Int32))))), (.int (nar .byte (own_hex (own_d xx (44 : Int32))))), (.int (nar .byte (own_hex (own_d xx (40 : Int32))))), (.int (nar .byte (own_hex (own_d xx (36 : Int32))))), (.int (nar .byte (own_hex (own_d xx (32 : Int32))))), (.int (nar .byte (own_hex (own_d xx (28 : Int32))))), (.int (nar .byte (own_hex (own_d xx (24 : Int32))))), (.int (nar .byte (own_hex (own_d xx (20 : Int32))))), (.int (nar .byte (own_hex (own_d xx (16 : Int32))))), (.int (nar .byte (own_hex (own_d xx (12 : Int32))))), (.int (nar .byte (own_hex (own_d xx (8 : Int32))))), (.int (nar .byte (own_hex (own_d xx (4 : Int32))))), (.int (nar .byte (own_hex (own_d xx (0 : Int32))))), (.int (nar .byte (45 : Int32))), (.int (nar .byte f)), (.int (nar .byte f)), (.int (nar .byte f))] xx (0 : Int32) f (2 : Int32) (nar .byte (own_hex (own_d xx (52 : Int32)))) _ n0 Z0 V_b1 (by decide) rfl (by decide) (by decide) (own_e2 xx)) eT (by decide) 0 (by decide) (by rw [hml]; rfl) [(.ref b1), (.int (0 : Int32)), (.long xx), (.int f), (.int (2 : Int32))] (rest := []) (lenOf pd_2 rfl) rfl rfl (Nat.le_of_eq rfl) (by decide) (by decide) 196 (hb hby at_193) rfl (fun v T h25 Lc X eT q => ?_)
    obtain ⟨rfl, N', e'⟩ := q
    replace N := Fr.app N N'
    replace eT := eT.trans e'
    show Wout p e below _ T (mkF m 196 #[.val (.long xx), .second, .val (.int p2), .val (.int p3), .val (.int (0 : Int32)), .val (.int f), .val (.ref b1)] [(.int (1 : Int32))])
    refine o_ifF X hx 199 (hb hby at_196) rfl (by decide : ¬ (1 : Int32) = (0 : Int32)) ?_
    refine o_aload X hx 201 (hb hby at_199) rfl rfl rfl ?_
    refine o_iload X hx 203 (hb hby at_201) rfl rfl ?_
    refine o_lloadN X hx 204 (hb hby at_203) rfl rfl ?_
    refine o_iload X hx 206 (hb hby at_204) rfl rfl ?_
    refine o_iconst X hx 207 (3 : Int32) (hb hby at_206) rfl rfl ?_
    refine o_callS X hx hZ hown (hw _ (List.mem_of_getElem? (i := 7) rfl)) (hw _ (List.mem_of_getElem? (i := 8) rfl)) (hw _ (List.mem_of_getElem? (i := 9) rfl)) (hw _ (List.mem_of_getElem? (i := 10) rfl)) (by decide) (rm_okH l Z a0 hw [] b1 k1 [(.int (nar .byte (own_hex (own_d xx (60 : Int32))))), (.int (nar .byte (own_hex (own_d xx (56 : Int32))))), (.int (nar .byte (own_hex (own_d xx (52 : Int32))))), (.int (nar .byte (own_hex (own_d xx (48 : Int32))))), (.int (nar .byte (own_hex (own_d xx (44 : Int32))))), (.int (nar .byte (own_hex (own_d xx (40 : Int32))))), (.int (nar .byte (own_hex (own_d xx (36 : Int32))))), (.int (nar .byte (own_hex (own_d xx (32 : Int32))))), (.int (nar .byte (own_hex (own_d xx (28 : Int32))))), (.int (nar .byte (own_hex (own_d xx (24 : Int32))))), (.int (nar .byte (own_hex (own_d xx (20 : Int32))))), (.int (nar .byte (own_hex (own_d xx (16 : Int32))))), (.int (nar .byte (own_hex (own_d xx (12 : Int32))))), (.int (nar .byte (own_hex (own_d xx (8 : Int32))))), (.int (nar .byte (own_hex (own_d xx (4 : Int32))))), (.int (nar .byte (own_hex (own_d xx (0 : Int32))))), (.int (nar .byte (45 : Int32))), (.int (nar .byte f)), (.int (nar .byte f)), (.int (nar .byte f))] xx (0 : Int32) f (3 : Int32) (nar .byte (own_hex (own_d xx (48 : Int32)))) _ n0 Z0 V_b1 (by decide) rfl (by decide) (by decide) (own_e3 xx)) eT (by decide) 0 (by decide) (by rw [hml]; rfl) [(.ref b1), (.int (0 : Int32)), (.long xx), (.int f), (.int (3 : Int32))] (rest := []) (lenOf pd_2 rfl) rfl rfl (Nat.le_of_eq rfl) (by decide) (by decide) 210 (hb hby at_207) rfl (fun v T h26 Lc X eT q => ?_)
    obtain ⟨rfl, N', e'⟩ := q
    replace N := Fr.app N N'
    replace eT := eT.trans e'
    show Wout p e below _ T (mkF m 210 #[.val (.long xx), .second, .val (.int p2), .val (.int p3), .val (.int (0 : Int32)), .val (.int f), .val (.ref b1)] [(.int (1 : Int32))])
    refine o_ifF X hx 213 (hb hby at_210) rfl (by decide : ¬ (1 : Int32) = (0 : Int32)) ?_
    refine o_aload X hx 215 (hb hby at_213) rfl rfl rfl ?_
    refine o_iload X hx 217 (hb hby at_215) rfl rfl ?_
    refine o_lloadN X hx 218 (hb hby at_217) rfl rfl ?_
    refine o_iload X hx 220 (hb hby at_218) rfl rfl ?_
    refine o_iconst X hx 221 (4 : Int32) (hb hby at_220) rfl rfl ?_
    refine o_callS X hx hZ hown (hw _ (List.mem_of_getElem? (i := 7) rfl)) (hw _ (List.mem_of_getElem? (i := 8) rfl)) (hw _ (List.mem_of_getElem? (i := 9) rfl)) (hw _ (List.mem_of_getElem? (i := 10) rfl)) (by decide) (rm_okH l Z a0 hw [] b1 k1 [(.int (nar .byte (own_hex (own_d xx (60 : Int32))))), (.int (nar .byte (own_hex (own_d xx (56 : Int32))))), (.int (nar .byte (own_hex (own_d xx (52 : Int32))))), (.int (nar .byte (own_hex (own_d xx (48 : Int32))))), (.int (nar .byte (own_hex (own_d xx (44 : Int32))))), (.int (nar .byte (own_hex (own_d xx (40 : Int32))))), (.int (nar .byte (own_hex (own_d xx (36 : Int32))))), (.int (nar .byte (own_hex (own_d xx (32 : Int32))))), (.int (nar .byte (own_hex (own_d xx (28 : Int32))))), (.int (nar .byte (own_hex (own_d xx (24 : Int32))))), (.int (nar .byte (own_hex (own_d xx (20 : Int32))))), (.int (nar .byte (own_hex (own_d xx (16 : Int32))))), (.int (nar .byte (own_hex (own_d xx (12 : Int32))))), (.int (nar .byte (own_hex (own_d xx (8 : Int32))))), (.int (nar .byte (own_hex (own_d xx (4 : Int32))))), (.int (nar .byte (own_hex (own_d xx (0 : Int32))))), (.int (nar .byte (45 : Int32))), (.int (nar .byte f)), (.int (nar .byte f)), (.int (nar .byte f))] xx (0 : Int32) f (4 : Int32) (nar .byte (own_hex (own_d xx (44 : Int32)))) _ n0 Z0 V_b1 (by decide) rfl (by decide) (by decide) (own_e4 xx)) eT (by decide) 0 (by decide) (by rw [hml]; rfl) [(.ref b1), (.int (0 : Int32)), (.long xx), (.int f), (.int (4 : Int32))] (rest := []) (lenOf pd_2 rfl) rfl rfl (Nat.le_of_eq rfl) (by decide) (by decide) 224 (hb hby at_221) rfl (fun v T h27 Lc X eT q => ?_)
    obtain ⟨rfl, N', e'⟩ := q
    replace N := Fr.app N N'
    replace eT := eT.trans e'
    show Wout p e below _ T (mkF m 224 #[.val (.long xx), .second, .val (.int p2), .val (.int p3), .val (.int (0 : Int32)), .val (.int f), .val (.ref b1)] [(.int (1 : Int32))])
    refine o_ifF X hx 227 (hb hby at_224) rfl (by decide : ¬ (1 : Int32) = (0 : Int32)) ?_
    refine o_aload X hx 229 (hb hby at_227) rfl rfl rfl ?_
    refine o_iload X hx 231 (hb hby at_229) rfl rfl ?_
    refine o_lloadN X hx 232 (hb hby at_231) rfl rfl ?_
    refine o_iload X hx 234 (hb hby at_232) rfl rfl ?_
    refine o_iconst X hx 235 (5 : Int32) (hb hby at_234) rfl rfl ?_
    refine o_callS X hx hZ hown (hw _ (List.mem_of_getElem? (i := 7) rfl)) (hw _ (List.mem_of_getElem? (i := 8) rfl)) (hw _ (List.mem_of_getElem? (i := 9) rfl)) (hw _ (List.mem_of_getElem? (i := 10) rfl)) (by decide) (rm_okH l Z a0 hw [] b1 k1 [(.int (nar .byte (own_hex (own_d xx (60 : Int32))))), (.int (nar .byte (own_hex (own_d xx (56 : Int32))))), (.int (nar .byte (own_hex (own_d xx (52 : Int32))))), (.int (nar .byte (own_hex (own_d xx (48 : Int32))))), (.int (nar .byte (own_hex (own_d xx (44 : Int32))))), (.int (nar .byte (own_hex (own_d xx (40 : Int32))))), (.int (nar .byte (own_hex (own_d xx (36 : Int32))))), (.int (nar .byte (own_hex (own_d xx (32 : Int32))))), (.int (nar .byte (own_hex (own_d xx (28 : Int32))))), (.int (nar .byte (own_hex (own_d xx (24 : Int32))))), (.int (nar .byte (own_hex (own_d xx (20 : Int32))))), (.int (nar .byte (own_hex (own_d xx (16 : Int32))))), (.int (nar .byte (own_hex (own_d xx (12 : Int32))))), (.int (nar .byte (own_hex (own_d xx (8 : Int32))))), (.int (nar .byte (own_hex (own_d xx (4 : Int32))))), (.int (nar .byte (own_hex (own_d xx (0 : Int32))))), (.int (nar .byte (45 : Int32))), (.int (nar .byte f)), (.int (nar .byte f)), (.int (nar .byte f))] xx (0 : Int32) f (5 : Int32) (nar .byte (own_hex (own_d xx (40 : Int32)))) _ n0 Z0 V_b1 (by decide) rfl (by decide) (by decide) (own_e5 xx)) eT (by decide) 0 (by decide) (by rw [hml]; rfl) [(.ref b1), (.int (0 : Int32)), (.long xx), (.int f), (.int (5 : Int32))] (rest := []) (lenOf pd_2 rfl) rfl rfl (Nat.le_of_eq rfl) (by decide) (by decide) 238 (hb hby at_235) rfl (fun v T h28 Lc X eT q => ?_)
    obtain ⟨rfl, N', e'⟩ := q
    replace N := Fr.app N N'
    replace eT := eT.trans e'
    show Wout p e below _ T (mkF m 238 #[.val (.long xx), .second, .val (.int p2), .val (.int p3), .val (.int (0 : Int32)), .val (.int f), .val (.ref b1)] [(.int (1 : Int32))])
    refine o_ifF X hx 241 (hb hby at_238) rfl (by decide : ¬ (1 : Int32) = (0 : Int32)) ?_
    refine o_aload X hx 243 (hb hby at_241) rfl rfl rfl ?_
    refine o_iload X hx 245 (hb hby at_243) rfl rfl ?_
    refine o_lloadN X hx 246 (hb hby at_245) rfl rfl ?_
    refine o_iload X hx 248 (hb hby at_246) rfl rfl ?_
    refine o_bipush X hx 250 (6 : Int32) (hb hby at_248) rfl rfl ?_
    refine o_callS X hx hZ hown (hw _ (List.mem_of_getElem? (i := 7) rfl)) (hw _ (List.mem_of_getElem? (i := 8) rfl)) (hw _ (List.mem_of_getElem? (i := 9) rfl)) (hw _ (List.mem_of_getElem? (i := 10) rfl)) (by decide) (rm_okH l Z a0 hw [] b1 k1 [(.int (nar .byte (own_hex (own_d xx (60 : Int32))))), (.int (nar .byte (own_hex (own_d xx (56 : Int32))))), (.int (nar .byte (own_hex (own_d xx (52 : Int32))))), (.int (nar .byte (own_hex (own_d xx (48 : Int32))))), (.int (nar .byte (own_hex (own_d xx (44 : Int32))))), (.int (nar .byte (own_hex (own_d xx (40 : Int32))))), (.int (nar .byte (own_hex (own_d xx (36 : Int32))))), (.int (nar .byte (own_hex (own_d xx (32 : Int32))))), (.int (nar .byte (own_hex (own_d xx (28 : Int32))))), (.int (nar .byte (own_hex (own_d xx (24 : Int32))))), (.int (nar .byte (own_hex (own_d xx (20 : Int32))))), (.int (nar .byte (own_hex (own_d xx (16 : Int32))))), (.int (nar .byte (own_hex (own_d xx (12 : Int32))))), (.int (nar .byte (own_hex (own_d xx (8 : Int32))))), (.int (nar .byte (own_hex (own_d xx (4 : Int32))))), (.int (nar .byte (own_hex (own_d xx (0 : Int32))))), (.int (nar .byte (45 : Int32))), (.int (nar .byte f)), (.int (nar .byte f)), (.int (nar .byte f))] xx (0 : Int32) f (6 : Int32) (nar .byte (own_hex (own_d xx (36 : Int32)))) _ n0 Z0 V_b1 (by decide) rfl (by decide) (by decide) (own_e6 xx)) eT (by decide) 0 (by decide) (by rw [hml]; rfl) [(.ref b1), (.int (0 : Int32)), (.long xx), (.int f), (.int (6 : Int32))] (rest := []) (lenOf pd_2 rfl) rfl rfl (Nat.le_of_eq rfl) (by decide) (by decide) 253 (hb hby at_250) rfl (fun v T h29 Lc X eT q => ?_)
    obtain ⟨rfl, N', e'⟩ := q
    replace N := Fr.app N N'
    replace eT := eT.trans e'
    show Wout p e below _ T (mkF m 253 #[.val (.long xx), .second, .val (.int p2), .val (.int p3), .val (.int (0 : Int32)), .val (.int f), .val (.ref b1)] [(.int (1 : Int32))])
    refine o_ifF X hx 256 (hb hby at_253) rfl (by decide : ¬ (1 : Int32) = (0 : Int32)) ?_
    refine o_aload X hx 258 (hb hby at_256) rfl rfl rfl ?_
    refine o_iload X hx 260 (hb hby at_258) rfl rfl ?_
    refine o_lloadN X hx 261 (hb hby at_260) rfl rfl ?_
    refine o_iload X hx 263 (hb hby at_261) rfl rfl ?_
    refine o_bipush X hx 265 (7 : Int32) (hb hby at_263) rfl rfl ?_
    refine o_callS X hx hZ hown (hw _ (List.mem_of_getElem? (i := 7) rfl)) (hw _ (List.mem_of_getElem? (i := 8) rfl)) (hw _ (List.mem_of_getElem? (i := 9) rfl)) (hw _ (List.mem_of_getElem? (i := 10) rfl)) (by decide) (rm_okH l Z a0 hw [] b1 k1 [(.int (nar .byte (own_hex (own_d xx (60 : Int32))))), (.int (nar .byte (own_hex (own_d xx (56 : Int32))))), (.int (nar .byte (own_hex (own_d xx (52 : Int32))))), (.int (nar .byte (own_hex (own_d xx (48 : Int32))))), (.int (nar .byte (own_hex (own_d xx (44 : Int32))))), (.int (nar .byte (own_hex (own_d xx (40 : Int32))))), (.int (nar .byte (own_hex (own_d xx (36 : Int32))))), (.int (nar .byte (own_hex (own_d xx (32 : Int32))))), (.int (nar .byte (own_hex (own_d xx (28 : Int32))))), (.int (nar .byte (own_hex (own_d xx (24 : Int32))))), (.int (nar .byte (own_hex (own_d xx (20 : Int32))))), (.int (nar .byte (own_hex (own_d xx (16 : Int32))))), (.int (nar .byte (own_hex (own_d xx (12 : Int32))))), (.int (nar .byte (own_hex (own_d xx (8 : Int32))))), (.int (nar .byte (own_hex (own_d xx (4 : Int32))))), (.int (nar .byte (own_hex (own_d xx (0 : Int32))))), (.int (nar .byte (45 : Int32))), (.int (nar .byte f)), (.int (nar .byte f)), (.int (nar .byte f))] xx (0 : Int32) f (7 : Int32) (nar .byte (own_hex (own_d xx (32 : Int32)))) _ n0 Z0 V_b1 (by decide) rfl (by decide) (by decide) (own_e7 xx)) eT (by decide) 0 (by decide) (by rw [hml]; rfl) [(.ref b1), (.int (0 : Int32)), (.long xx), (.int f), (.int (7 : Int32))] (rest := []) (lenOf pd_2 rfl) rfl rfl (Nat.le_of_eq rfl) (by decide) (by decide) 268 (hb hby at_265) rfl (fun v T h30 Lc X eT q => ?_)
    obtain ⟨rfl, N', e'⟩ := q
    replace N := Fr.app N N'
    replace eT := eT.trans e'
    show Wout p e below _ T (mkF m 268 #[.val (.long xx), .second, .val (.int p2), .val (.int p3), .val (.int (0 : Int32)), .val (.int f), .val (.ref b1)] [(.int (1 : Int32))])
    refine o_ifF X hx 271 (hb hby at_268) rfl (by decide : ¬ (1 : Int32) = (0 : Int32)) ?_
    refine o_aload X hx 273 (hb hby at_271) rfl rfl rfl ?_
    refine o_iload X hx 275 (hb hby at_273) rfl rfl ?_
    refine o_lloadN X hx 276 (hb hby at_275) rfl rfl ?_
    refine o_iload X hx 278 (hb hby at_276) rfl rfl ?_
    refine o_bipush X hx 280 (8 : Int32) (hb hby at_278) rfl rfl ?_
    refine o_callS X hx hZ hown (hw _ (List.mem_of_getElem? (i := 7) rfl)) (hw _ (List.mem_of_getElem? (i := 8) rfl)) (hw _ (List.mem_of_getElem? (i := 9) rfl)) (hw _ (List.mem_of_getElem? (i := 10) rfl)) (by decide) (rm_okH l Z a0 hw [] b1 k1 [(.int (nar .byte (own_hex (own_d xx (60 : Int32))))), (.int (nar .byte (own_hex (own_d xx (56 : Int32))))), (.int (nar .byte (own_hex (own_d xx (52 : Int32))))), (.int (nar .byte (own_hex (own_d xx (48 : Int32))))), (.int (nar .byte (own_hex (own_d xx (44 : Int32))))), (.int (nar .byte (own_hex (own_d xx (40 : Int32))))), (.int (nar .byte (own_hex (own_d xx (36 : Int32))))), (.int (nar .byte (own_hex (own_d xx (32 : Int32))))), (.int (nar .byte (own_hex (own_d xx (28 : Int32))))), (.int (nar .byte (own_hex (own_d xx (24 : Int32))))), (.int (nar .byte (own_hex (own_d xx (20 : Int32))))), (.int (nar .byte (own_hex (own_d xx (16 : Int32))))), (.int (nar .byte (own_hex (own_d xx (12 : Int32))))), (.int (nar .byte (own_hex (own_d xx (8 : Int32))))), (.int (nar .byte (own_hex (own_d xx (4 : Int32))))), (.int (nar .byte (own_hex (own_d xx (0 : Int32))))), (.int (nar .byte (45 : Int32))), (.int (nar .byte f)), (.int (nar .byte f)), (.int (nar .byte f))] xx (0 : Int32) f (8 : Int32) (nar .byte (own_hex (own_d xx (28 : Int32)))) _ n0 Z0 V_b1 (by decide) rfl (by decide) (by decide) (own_e8 xx)) eT (by decide) 0 (by decide) (by rw [hml]; rfl) [(.ref b1), (.int (0 : Int32)), (.long xx), (.int f), (.int (8 : Int32))] (rest := []) (lenOf pd_2 rfl) rfl rfl (Nat.le_of_eq rfl) (by decide) (by decide) 283 (hb hby at_280) rfl (fun v T h31 Lc X eT q => ?_)
    obtain ⟨rfl, N', e'⟩ := q
    replace N := Fr.app N N'
    replace eT := eT.trans e'
    show Wout p e below _ T (mkF m 283 #[.val (.long xx), .second, .val (.int p2), .val (.int p3), .val (.int (0 : Int32)), .val (.int f), .val (.ref b1)] [(.int (1 : Int32))])
    refine o_ifF X hx 286 (hb hby at_283) rfl (by decide : ¬ (1 : Int32) = (0 : Int32)) ?_
    refine o_aload X hx 288 (hb hby at_286) rfl rfl rfl ?_
    refine o_iload X hx 290 (hb hby at_288) rfl rfl ?_
    refine o_lloadN X hx 291 (hb hby at_290) rfl rfl ?_
    refine o_iload X hx 293 (hb hby at_291) rfl rfl ?_
    refine o_bipush X hx 295 (9 : Int32) (hb hby at_293) rfl rfl ?_
    refine o_callS X hx hZ hown (hw _ (List.mem_of_getElem? (i := 7) rfl)) (hw _ (List.mem_of_getElem? (i := 8) rfl)) (hw _ (List.mem_of_getElem? (i := 9) rfl)) (hw _ (List.mem_of_getElem? (i := 10) rfl)) (by decide) (rm_okH l Z a0 hw [] b1 k1 [(.int (nar .byte (own_hex (own_d xx (60 : Int32))))), (.int (nar .byte (own_hex (own_d xx (56 : Int32))))), (.int (nar .byte (own_hex (own_d xx (52 : Int32))))), (.int (nar .byte (own_hex (own_d xx (48 : Int32))))), (.int (nar .byte (own_hex (own_d xx (44 : Int32))))), (.int (nar .byte (own_hex (own_d xx (40 : Int32))))), (.int (nar .byte (own_hex (own_d xx (36 : Int32))))), (.int (nar .byte (own_hex (own_d xx (32 : Int32))))), (.int (nar .byte (own_hex (own_d xx (28 : Int32))))), (.int (nar .byte (own_hex (own_d xx (24 : Int32))))), (.int (nar .byte (own_hex (own_d xx (20 : Int32))))), (.int (nar .byte (own_hex (own_d xx (16 : Int32))))), (.int (nar .byte (own_hex (own_d xx (12 : Int32))))), (.int (nar .byte (own_hex (own_d xx (8 : Int32))))), (.int (nar .byte (own_hex (own_d xx (4 : Int32))))), (.int (nar .byte (own_hex (own_d xx (0 : Int32))))), (.int (nar .byte (45 : Int32))), (.int (nar .byte f)), (.int (nar .byte f)), (.int (nar .byte f))] xx (0 : Int32) f (9 : Int32) (nar .byte (own_hex (own_d xx (24 : Int32)))) _ n0 Z0 V_b1 (by decide) rfl (by decide) (by decide) (own_e9 xx)) eT (by decide) 0 (by decide) (by rw [hml]; rfl) [(.ref b1), (.int (0 : Int32)), (.long xx), (.int f), (.int (9 : Int32))] (rest := []) (lenOf pd_2 rfl) rfl rfl (Nat.le_of_eq rfl) (by decide) (by decide) 298 (hb hby at_295) rfl (fun v T h32 Lc X eT q => ?_)
    obtain ⟨rfl, N', e'⟩ := q
    replace N := Fr.app N N'
    replace eT := eT.trans e'
    show Wout p e below _ T (mkF m 298 #[.val (.long xx), .second, .val (.int p2), .val (.int p3), .val (.int (0 : Int32)), .val (.int f), .val (.ref b1)] [(.int (1 : Int32))])
    refine o_ifF X hx 301 (hb hby at_298) rfl (by decide : ¬ (1 : Int32) = (0 : Int32)) ?_
    refine o_aload X hx 303 (hb hby at_301) rfl rfl rfl ?_
    refine o_iload X hx 305 (hb hby at_303) rfl rfl ?_
    refine o_lloadN X hx 306 (hb hby at_305) rfl rfl ?_
    refine o_iload X hx 308 (hb hby at_306) rfl rfl ?_
    refine o_bipush X hx 310 (10 : Int32) (hb hby at_308) rfl rfl ?_
    refine o_callS X hx hZ hown (hw _ (List.mem_of_getElem? (i := 7) rfl)) (hw _ (List.mem_of_getElem? (i := 8) rfl)) (hw _ (List.mem_of_getElem? (i := 9) rfl)) (hw _ (List.mem_of_getElem? (i := 10) rfl)) (by decide) (rm_okH l Z a0 hw [] b1 k1 [(.int (nar .byte (own_hex (own_d xx (60 : Int32))))), (.int (nar .byte (own_hex (own_d xx (56 : Int32))))), (.int (nar .byte (own_hex (own_d xx (52 : Int32))))), (.int (nar .byte (own_hex (own_d xx (48 : Int32))))), (.int (nar .byte (own_hex (own_d xx (44 : Int32))))), (.int (nar .byte (own_hex (own_d xx (40 : Int32))))), (.int (nar .byte (own_hex (own_d xx (36 : Int32))))), (.int (nar .byte (own_hex (own_d xx (32 : Int32))))), (.int (nar .byte (own_hex (own_d xx (28 : Int32))))), (.int (nar .byte (own_hex (own_d xx (24 : Int32))))), (.int (nar .byte (own_hex (own_d xx (20 : Int32))))), (.int (nar .byte (own_hex (own_d xx (16 : Int32))))), (.int (nar .byte (own_hex (own_d xx (12 : Int32))))), (.int (nar .byte (own_hex (own_d xx (8 : Int32))))), (.int (nar .byte (own_hex (own_d xx (4 : Int32))))), (.int (nar .byte (own_hex (own_d xx (0 : Int32))))), (.int (nar .byte (45 : Int32))), (.int (nar .byte f)), (.int (nar .byte f)), (.int (nar .byte f))] xx (0 : Int32) f (10 : Int32) (nar .byte (own_hex (own_d xx (20 : Int32)))) _ n0 Z0 V_b1 (by decide) rfl (by decide) (by decide) (own_e10 xx)) eT (by decide) 0 (by decide) (by rw [hml]; rfl) [(.ref b1), (.int (0 : Int32)), (.long xx), (.int f), (.int (10 : Int32))] (rest := []) (lenOf pd_2 rfl) rfl rfl (Nat.le_of_eq rfl) (by decide) (by decide) 313 (hb hby at_310) rfl (fun v T h33 Lc X eT q => ?_)
    obtain ⟨rfl, N', e'⟩ := q
    replace N := Fr.app N N'
    replace eT := eT.trans e'
    show Wout p e below _ T (mkF m 313 #[.val (.long xx), .second, .val (.int p2), .val (.int p3), .val (.int (0 : Int32)), .val (.int f), .val (.ref b1)] [(.int (1 : Int32))])
    refine o_ifF X hx 316 (hb hby at_313) rfl (by decide : ¬ (1 : Int32) = (0 : Int32)) ?_
    refine o_aload X hx 318 (hb hby at_316) rfl rfl rfl ?_
    refine o_iload X hx 320 (hb hby at_318) rfl rfl ?_
    refine o_lloadN X hx 321 (hb hby at_320) rfl rfl ?_
    refine o_iload X hx 323 (hb hby at_321) rfl rfl ?_
    refine o_bipush X hx 325 (11 : Int32) (hb hby at_323) rfl rfl ?_
    refine o_callS X hx hZ hown (hw _ (List.mem_of_getElem? (i := 7) rfl)) (hw _ (List.mem_of_getElem? (i := 8) rfl)) (hw _ (List.mem_of_getElem? (i := 9) rfl)) (hw _ (List.mem_of_getElem? (i := 10) rfl)) (by decide) (rm_okH l Z a0 hw [] b1 k1 [(.int (nar .byte (own_hex (own_d xx (60 : Int32))))), (.int (nar .byte (own_hex (own_d xx (56 : Int32))))), (.int (nar .byte (own_hex (own_d xx (52 : Int32))))), (.int (nar .byte (own_hex (own_d xx (48 : Int32))))), (.int (nar .byte (own_hex (own_d xx (44 : Int32))))), (.int (nar .byte (own_hex (own_d xx (40 : Int32))))), (.int (nar .byte (own_hex (own_d xx (36 : Int32))))), (.int (nar .byte (own_hex (own_d xx (32 : Int32))))), (.int (nar .byte (own_hex (own_d xx (28 : Int32))))), (.int (nar .byte (own_hex (own_d xx (24 : Int32))))), (.int (nar .byte (own_hex (own_d xx (20 : Int32))))), (.int (nar .byte (own_hex (own_d xx (16 : Int32))))), (.int (nar .byte (own_hex (own_d xx (12 : Int32))))), (.int (nar .byte (own_hex (own_d xx (8 : Int32))))), (.int (nar .byte (own_hex (own_d xx (4 : Int32))))), (.int (nar .byte (own_hex (own_d xx (0 : Int32))))), (.int (nar .byte (45 : Int32))), (.int (nar .byte f)), (.int (nar .byte f)), (.int (nar .byte f))] xx (0 : Int32) f (11 : Int32) (nar .byte (own_hex (own_d xx (16 : Int32)))) _ n0 Z0 V_b1 (by decide) rfl (by decide) (by decide) (own_e11 xx)) eT (by decide) 0 (by decide) (by rw [hml]; rfl) [(.ref b1), (.int (0 : Int32)), (.long xx), (.int f), (.int (11 : Int32))] (rest := []) (lenOf pd_2 rfl) rfl rfl (Nat.le_of_eq rfl) (by decide) (by decide) 328 (hb hby at_325) rfl (fun v T h34 Lc X eT q => ?_)
    obtain ⟨rfl, N', e'⟩ := q
    replace N := Fr.app N N'
    replace eT := eT.trans e'
    show Wout p e below _ T (mkF m 328 #[.val (.long xx), .second, .val (.int p2), .val (.int p3), .val (.int (0 : Int32)), .val (.int f), .val (.ref b1)] [(.int (1 : Int32))])
    refine o_ifF X hx 331 (hb hby at_328) rfl (by decide : ¬ (1 : Int32) = (0 : Int32)) ?_
    refine o_aload X hx 333 (hb hby at_331) rfl rfl rfl ?_
    refine o_iload X hx 335 (hb hby at_333) rfl rfl ?_
    refine o_lloadN X hx 336 (hb hby at_335) rfl rfl ?_
    refine o_iload X hx 338 (hb hby at_336) rfl rfl ?_
    refine o_bipush X hx 340 (12 : Int32) (hb hby at_338) rfl rfl ?_
    refine o_callS X hx hZ hown (hw _ (List.mem_of_getElem? (i := 7) rfl)) (hw _ (List.mem_of_getElem? (i := 8) rfl)) (hw _ (List.mem_of_getElem? (i := 9) rfl)) (hw _ (List.mem_of_getElem? (i := 10) rfl)) (by decide) (rm_okH l Z a0 hw [] b1 k1 [(.int (nar .byte (own_hex (own_d xx (60 : Int32))))), (.int (nar .byte (own_hex (own_d xx (56 : Int32))))), (.int (nar .byte (own_hex (own_d xx (52 : Int32))))), (.int (nar .byte (own_hex (own_d xx (48 : Int32))))), (.int (nar .byte (own_hex (own_d xx (44 : Int32))))), (.int (nar .byte (own_hex (own_d xx (40 : Int32))))), (.int (nar .byte (own_hex (own_d xx (36 : Int32))))), (.int (nar .byte (own_hex (own_d xx (32 : Int32))))), (.int (nar .byte (own_hex (own_d xx (28 : Int32))))), (.int (nar .byte (own_hex (own_d xx (24 : Int32))))), (.int (nar .byte (own_hex (own_d xx (20 : Int32))))), (.int (nar .byte (own_hex (own_d xx (16 : Int32))))), (.int (nar .byte (own_hex (own_d xx (12 : Int32))))), (.int (nar .byte (own_hex (own_d xx (8 : Int32))))), (.int (nar .byte (own_hex (own_d xx (4 : Int32))))), (.int (nar .byte (own_hex (own_d xx (0 : Int32))))), (.int (nar .byte (45 : Int32))), (.int (nar .byte f)), (.int (nar .byte f)), (.int (nar .byte f))] xx (0 : Int32) f (12 : Int32) (nar .byte (own_hex (own_d xx (12 : Int32)))) _ n0 Z0 V_b1 (by decide) rfl (by decide) (by decide) (own_e12 xx)) eT (by decide) 0 (by decide) (by rw [hml]; rfl) [(.ref b1), (.int (0 : Int32)), (.long xx), (.int f), (.int (12 : Int32))] (rest := []) (lenOf pd_2 rfl) rfl rfl (Nat.le_of_eq rfl) (by decide) (by decide) 343 (hb hby at_340) rfl (fun v T h35 Lc X eT q => ?_)
    obtain ⟨rfl, N', e'⟩ := q
    replace N := Fr.app N N'
    replace eT := eT.trans e'
    show Wout p e below _ T (mkF m 343 #[.val (.long xx), .second, .val (.int p2), .val (.int p3), .val (.int (0 : Int32)), .val (.int f), .val (.ref b1)] [(.int (1 : Int32))])
    refine o_ifF X hx 346 (hb hby at_343) rfl (by decide : ¬ (1 : Int32) = (0 : Int32)) ?_
    refine o_aload X hx 348 (hb hby at_346) rfl rfl rfl ?_
    refine o_iload X hx 350 (hb hby at_348) rfl rfl ?_
    refine o_lloadN X hx 351 (hb hby at_350) rfl rfl ?_
    refine o_iload X hx 353 (hb hby at_351) rfl rfl ?_
    refine o_bipush X hx 355 (13 : Int32) (hb hby at_353) rfl rfl ?_
    refine o_callS X hx hZ hown (hw _ (List.mem_of_getElem? (i := 7) rfl)) (hw _ (List.mem_of_getElem? (i := 8) rfl)) (hw _ (List.mem_of_getElem? (i := 9) rfl)) (hw _ (List.mem_of_getElem? (i := 10) rfl)) (by decide) (rm_okH l Z a0 hw [] b1 k1 [(.int (nar .byte (own_hex (own_d xx (60 : Int32))))), (.int (nar .byte (own_hex (own_d xx (56 : Int32))))), (.int (nar .byte (own_hex (own_d xx (52 : Int32))))), (.int (nar .byte (own_hex (own_d xx (48 : Int32))))), (.int (nar .byte (own_hex (own_d xx (44 : Int32))))), (.int (nar .byte (own_hex (own_d xx (40 : Int32))))), (.int (nar .byte (own_hex (own_d xx (36 : Int32))))), (.int (nar .byte (own_hex (own_d xx (32 : Int32))))), (.int (nar .byte (own_hex (own_d xx (28 : Int32))))), (.int (nar .byte (own_hex (own_d xx (24 : Int32))))), (.int (nar .byte (own_hex (own_d xx (20 : Int32))))), (.int (nar .byte (own_hex (own_d xx (16 : Int32))))), (.int (nar .byte (own_hex (own_d xx (12 : Int32))))), (.int (nar .byte (own_hex (own_d xx (8 : Int32))))), (.int (nar .byte (own_hex (own_d xx (4 : Int32))))), (.int (nar .byte (own_hex (own_d xx (0 : Int32))))), (.int (nar .byte (45 : Int32))), (.int (nar .byte f)), (.int (nar .byte f)), (.int (nar .byte f))] xx (0 : Int32) f (13 : Int32) (nar .byte (own_hex (own_d xx (8 : Int32)))) _ n0 Z0 V_b1 (by decide) rfl (by decide) (by decide) (own_e13 xx)) eT (by decide) 0 (by decide) (by rw [hml]; rfl) [(.ref b1), (.int (0 : Int32)), (.long xx), (.int f), (.int (13 : Int32))] (rest := []) (lenOf pd_2 rfl) rfl rfl (Nat.le_of_eq rfl) (by decide) (by decide) 358 (hb hby at_355) rfl (fun v T h36 Lc X eT q => ?_)
    obtain ⟨rfl, N', e'⟩ := q
    replace N := Fr.app N N'
    replace eT := eT.trans e'
    show Wout p e below _ T (mkF m 358 #[.val (.long xx), .second, .val (.int p2), .val (.int p3), .val (.int (0 : Int32)), .val (.int f), .val (.ref b1)] [(.int (1 : Int32))])
    refine o_ifF X hx 361 (hb hby at_358) rfl (by decide : ¬ (1 : Int32) = (0 : Int32)) ?_
    refine o_aload X hx 363 (hb hby at_361) rfl rfl rfl ?_
    refine o_iload X hx 365 (hb hby at_363) rfl rfl ?_
    refine o_lloadN X hx 366 (hb hby at_365) rfl rfl ?_
    refine o_iload X hx 368 (hb hby at_366) rfl rfl ?_
    refine o_bipush X hx 370 (14 : Int32) (hb hby at_368) rfl rfl ?_
    refine o_callS X hx hZ hown (hw _ (List.mem_of_getElem? (i := 7) rfl)) (hw _ (List.mem_of_getElem? (i := 8) rfl)) (hw _ (List.mem_of_getElem? (i := 9) rfl)) (hw _ (List.mem_of_getElem? (i := 10) rfl)) (by decide) (rm_okH l Z a0 hw [] b1 k1 [(.int (nar .byte (own_hex (own_d xx (60 : Int32))))), (.int (nar .byte (own_hex (own_d xx (56 : Int32))))), (.int (nar .byte (own_hex (own_d xx (52 : Int32))))), (.int (nar .byte (own_hex (own_d xx (48 : Int32))))), (.int (nar .byte (own_hex (own_d xx (44 : Int32))))), (.int (nar .byte (own_hex (own_d xx (40 : Int32))))), (.int (nar .byte (own_hex (own_d xx (36 : Int32))))), (.int (nar .byte (own_hex (own_d xx (32 : Int32))))), (.int (nar .byte (own_hex (own_d xx (28 : Int32))))), (.int (nar .byte (own_hex (own_d xx (24 : Int32))))), (.int (nar .byte (own_hex (own_d xx (20 : Int32))))), (.int (nar .byte (own_hex (own_d xx (16 : Int32))))), (.int (nar .byte (own_hex (own_d xx (12 : Int32))))), (.int (nar .byte (own_hex (own_d xx (8 : Int32))))), (.int (nar .byte (own_hex (own_d xx (4 : Int32))))), (.int (nar .byte (own_hex (own_d xx (0 : Int32))))), (.int (nar .byte (45 : Int32))), (.int (nar .byte f)), (.int (nar .byte f)), (.int (nar .byte f))] xx (0 : Int32) f (14 : Int32) (nar .byte (own_hex (own_d xx (4 : Int32)))) _ n0 Z0 V_b1 (by decide) rfl (by decide) (by decide) (own_e14 xx)) eT (by decide) 0 (by decide) (by rw [hml]; rfl) [(.ref b1), (.int (0 : Int32)), (.long xx), (.int f), (.int (14 : Int32))] (rest := []) (lenOf pd_2 rfl) rfl rfl (Nat.le_of_eq rfl) (by decide) (by decide) 373 (hb hby at_370) rfl (fun v T h37 Lc X eT q => ?_)
    obtain ⟨rfl, N', e'⟩ := q
    replace N := Fr.app N N'
    replace eT := eT.trans e'
    show Wout p e below _ T (mkF m 373 #[.val (.long xx), .second, .val (.int p2), .val (.int p3), .val (.int (0 : Int32)), .val (.int f), .val (.ref b1)] [(.int (1 : Int32))])
    refine o_ifF X hx 376 (hb hby at_373) rfl (by decide : ¬ (1 : Int32) = (0 : Int32)) ?_
    refine o_aload X hx 378 (hb hby at_376) rfl rfl rfl ?_
    refine o_iload X hx 380 (hb hby at_378) rfl rfl ?_
    refine o_lloadN X hx 381 (hb hby at_380) rfl rfl ?_
    refine o_iload X hx 383 (hb hby at_381) rfl rfl ?_
    refine o_bipush X hx 385 (15 : Int32) (hb hby at_383) rfl rfl ?_
    refine o_callS X hx hZ hown (hw _ (List.mem_of_getElem? (i := 7) rfl)) (hw _ (List.mem_of_getElem? (i := 8) rfl)) (hw _ (List.mem_of_getElem? (i := 9) rfl)) (hw _ (List.mem_of_getElem? (i := 10) rfl)) (by decide) (rm_okH l Z a0 hw [] b1 k1 [(.int (nar .byte (own_hex (own_d xx (60 : Int32))))), (.int (nar .byte (own_hex (own_d xx (56 : Int32))))), (.int (nar .byte (own_hex (own_d xx (52 : Int32))))), (.int (nar .byte (own_hex (own_d xx (48 : Int32))))), (.int (nar .byte (own_hex (own_d xx (44 : Int32))))), (.int (nar .byte (own_hex (own_d xx (40 : Int32))))), (.int (nar .byte (own_hex (own_d xx (36 : Int32))))), (.int (nar .byte (own_hex (own_d xx (32 : Int32))))), (.int (nar .byte (own_hex (own_d xx (28 : Int32))))), (.int (nar .byte (own_hex (own_d xx (24 : Int32))))), (.int (nar .byte (own_hex (own_d xx (20 : Int32))))), (.int (nar .byte (own_hex (own_d xx (16 : Int32))))), (.int (nar .byte (own_hex (own_d xx (12 : Int32))))), (.int (nar .byte (own_hex (own_d xx (8 : Int32))))), (.int (nar .byte (own_hex (own_d xx (4 : Int32))))), (.int (nar .byte (own_hex (own_d xx (0 : Int32))))), (.int (nar .byte (45 : Int32))), (.int (nar .byte f)), (.int (nar .byte f)), (.int (nar .byte f))] xx (0 : Int32) f (15 : Int32) (nar .byte (own_hex (own_d xx (0 : Int32)))) _ n0 Z0 V_b1 (by decide) rfl (by decide) (by decide) (own_e15 xx)) eT (by decide) 0 (by decide) (by rw [hml]; rfl) [(.ref b1), (.int (0 : Int32)), (.long xx), (.int f), (.int (15 : Int32))] (rest := []) (lenOf pd_2 rfl) rfl rfl (Nat.le_of_eq rfl) (by decide) (by decide) 388 (hb hby at_385) rfl (fun v T h38 Lc X eT q => ?_)
    obtain ⟨rfl, N', e'⟩ := q
    replace N := Fr.app N N'
    replace eT := eT.trans e'
    show Wout p e below _ T (mkF m 388 #[.val (.long xx), .second, .val (.int p2), .val (.int p3), .val (.int (0 : Int32)), .val (.int f), .val (.ref b1)] [(.int (1 : Int32))])
    refine o_ifF X hx 391 (hb hby at_388) rfl (by decide : ¬ (1 : Int32) = (0 : Int32)) ?_
    refine o_aload X hx 393 (hb hby at_391) rfl rfl rfl ?_
    refine o_iload X hx 395 (hb hby at_393) rfl rfl ?_
    refine o_lloadN X hx 396 (hb hby at_395) rfl rfl ?_
    refine o_iload X hx 398 (hb hby at_396) rfl rfl ?_
    refine o_bipush X hx 400 (16 : Int32) (hb hby at_398) rfl rfl ?_
    refine o_callS X hx hZ hown (hw _ (List.mem_of_getElem? (i := 7) rfl)) (hw _ (List.mem_of_getElem? (i := 8) rfl)) (hw _ (List.mem_of_getElem? (i := 9) rfl)) (hw _ (List.mem_of_getElem? (i := 10) rfl)) (by decide) (rm_okD l Z a0 hw [] b1 k1 [(.int (nar .byte (own_hex (own_d xx (60 : Int32))))), (.int (nar .byte (own_hex (own_d xx (56 : Int32))))), (.int (nar .byte (own_hex (own_d xx (52 : Int32))))), (.int (nar .byte (own_hex (own_d xx (48 : Int32))))), (.int (nar .byte (own_hex (own_d xx (44 : Int32))))), (.int (nar .byte (own_hex (own_d xx (40 : Int32))))), (.int (nar .byte (own_hex (own_d xx (36 : Int32))))), (.int (nar .byte (own_hex (own_d xx (32 : Int32))))), (.int (nar .byte (own_hex (own_d xx (28 : Int32))))), (.int (nar .byte (own_hex (own_d xx (24 : Int32))))), (.int (nar .byte (own_hex (own_d xx (20 : Int32))))), (.int (nar .byte (own_hex (own_d xx (16 : Int32))))), (.int (nar .byte (own_hex (own_d xx (12 : Int32))))), (.int (nar .byte (own_hex (own_d xx (8 : Int32))))), (.int (nar .byte (own_hex (own_d xx (4 : Int32))))), (.int (nar .byte (own_hex (own_d xx (0 : Int32))))), (.int (nar .byte (45 : Int32))), (.int (nar .byte f)), (.int (nar .byte f)), (.int (nar .byte f))] xx (0 : Int32) f (16 : Int32) (nar .byte (45 : Int32)) _ n0 Z0 V_b1 (by decide) rfl (by decide) (by decide) (by decide) (by decide)) eT (by decide) 0 (by decide) (by rw [hml]; rfl) [(.ref b1), (.int (0 : Int32)), (.long xx), (.int f), (.int (16 : Int32))] (rest := []) (lenOf pd_2 rfl) rfl rfl (Nat.le_of_eq rfl) (by decide) (by decide) 403 (hb hby at_400) rfl (fun v T h39 Lc X eT q => ?_)
    obtain ⟨rfl, N', e'⟩ := q
    replace N := Fr.app N N'
    replace eT := eT.trans e'
    show Wout p e below _ T (mkF m 403 #[.val (.long xx), .second, .val (.int p2), .val (.int p3), .val (.int (0 : Int32)), .val (.int f), .val (.ref b1)] [(.int (1 : Int32))])
    refine o_ifF X hx 406 (hb hby at_403) rfl (by decide : ¬ (1 : Int32) = (0 : Int32)) ?_
    refine o_aload X hx 408 (hb hby at_406) rfl rfl rfl ?_
    refine o_iload X hx 410 (hb hby at_408) rfl rfl ?_
    refine o_lloadN X hx 411 (hb hby at_410) rfl rfl ?_
    refine o_iload X hx 413 (hb hby at_411) rfl rfl ?_
    refine o_bipush X hx 415 (17 : Int32) (hb hby at_413) rfl rfl ?_
    refine o_callS X hx hZ hown (hw _ (List.mem_of_getElem? (i := 7) rfl)) (hw _ (List.mem_of_getElem? (i := 8) rfl)) (hw _ (List.mem_of_getElem? (i := 9) rfl)) (hw _ (List.mem_of_getElem? (i := 10) rfl)) (by decide) (rm_okB l Z a0 hw [] b1 k1 [(.int (nar .byte (own_hex (own_d xx (60 : Int32))))), (.int (nar .byte (own_hex (own_d xx (56 : Int32))))), (.int (nar .byte (own_hex (own_d xx (52 : Int32))))), (.int (nar .byte (own_hex (own_d xx (48 : Int32))))), (.int (nar .byte (own_hex (own_d xx (44 : Int32))))), (.int (nar .byte (own_hex (own_d xx (40 : Int32))))), (.int (nar .byte (own_hex (own_d xx (36 : Int32))))), (.int (nar .byte (own_hex (own_d xx (32 : Int32))))), (.int (nar .byte (own_hex (own_d xx (28 : Int32))))), (.int (nar .byte (own_hex (own_d xx (24 : Int32))))), (.int (nar .byte (own_hex (own_d xx (20 : Int32))))), (.int (nar .byte (own_hex (own_d xx (16 : Int32))))), (.int (nar .byte (own_hex (own_d xx (12 : Int32))))), (.int (nar .byte (own_hex (own_d xx (8 : Int32))))), (.int (nar .byte (own_hex (own_d xx (4 : Int32))))), (.int (nar .byte (own_hex (own_d xx (0 : Int32))))), (.int (nar .byte (45 : Int32))), (.int (nar .byte f)), (.int (nar .byte f)), (.int (nar .byte f))] xx (0 : Int32) f (17 : Int32) (nar .byte f) _ n0 Z0 V_b1 (by decide) rfl (by decide) (by decide) (by decide) hf) eT (by decide) 0 (by decide) (by rw [hml]; rfl) [(.ref b1), (.int (0 : Int32)), (.long xx), (.int f), (.int (17 : Int32))] (rest := []) (lenOf pd_2 rfl) rfl rfl (Nat.le_of_eq rfl) (by decide) (by decide) 418 (hb hby at_415) rfl (fun v T h40 Lc X eT q => ?_)
    obtain ⟨rfl, N', e'⟩ := q
    replace N := Fr.app N N'
    replace eT := eT.trans e'
    show Wout p e below _ T (mkF m 418 #[.val (.long xx), .second, .val (.int p2), .val (.int p3), .val (.int (0 : Int32)), .val (.int f), .val (.ref b1)] [(.int (1 : Int32))])
    refine o_ifF X hx 421 (hb hby at_418) rfl (by decide : ¬ (1 : Int32) = (0 : Int32)) ?_
    refine o_aload X hx 423 (hb hby at_421) rfl rfl rfl ?_
    refine o_iload X hx 425 (hb hby at_423) rfl rfl ?_
    refine o_lloadN X hx 426 (hb hby at_425) rfl rfl ?_
    refine o_iload X hx 428 (hb hby at_426) rfl rfl ?_
    refine o_bipush X hx 430 (18 : Int32) (hb hby at_428) rfl rfl ?_
    refine o_callS X hx hZ hown (hw _ (List.mem_of_getElem? (i := 7) rfl)) (hw _ (List.mem_of_getElem? (i := 8) rfl)) (hw _ (List.mem_of_getElem? (i := 9) rfl)) (hw _ (List.mem_of_getElem? (i := 10) rfl)) (by decide) (rm_okB l Z a0 hw [] b1 k1 [(.int (nar .byte (own_hex (own_d xx (60 : Int32))))), (.int (nar .byte (own_hex (own_d xx (56 : Int32))))), (.int (nar .byte (own_hex (own_d xx (52 : Int32))))), (.int (nar .byte (own_hex (own_d xx (48 : Int32))))), (.int (nar .byte (own_hex (own_d xx (44 : Int32))))), (.int (nar .byte (own_hex (own_d xx (40 : Int32))))), (.int (nar .byte (own_hex (own_d xx (36 : Int32))))), (.int (nar .byte (own_hex (own_d xx (32 : Int32))))), (.int (nar .byte (own_hex (own_d xx (28 : Int32))))), (.int (nar .byte (own_hex (own_d xx (24 : Int32))))), (.int (nar .byte (own_hex (own_d xx (20 : Int32))))), (.int (nar .byte (own_hex (own_d xx (16 : Int32))))), (.int (nar .byte (own_hex (own_d xx (12 : Int32))))), (.int (nar .byte (own_hex (own_d xx (8 : Int32))))), (.int (nar .byte (own_hex (own_d xx (4 : Int32))))), (.int (nar .byte (own_hex (own_d xx (0 : Int32))))), (.int (nar .byte (45 : Int32))), (.int (nar .byte f)), (.int (nar .byte f)), (.int (nar .byte f))] xx (0 : Int32) f (18 : Int32) (nar .byte f) _ n0 Z0 V_b1 (by decide) rfl (by decide) (by decide) (by decide) hf) eT (by decide) 0 (by decide) (by rw [hml]; rfl) [(.ref b1), (.int (0 : Int32)), (.long xx), (.int f), (.int (18 : Int32))] (rest := []) (lenOf pd_2 rfl) rfl rfl (Nat.le_of_eq rfl) (by decide) (by decide) 433 (hb hby at_430) rfl (fun v T h41 Lc X eT q => ?_)
    obtain ⟨rfl, N', e'⟩ := q
    replace N := Fr.app N N'
    replace eT := eT.trans e'
    show Wout p e below _ T (mkF m 433 #[.val (.long xx), .second, .val (.int p2), .val (.int p3), .val (.int (0 : Int32)), .val (.int f), .val (.ref b1)] [(.int (1 : Int32))])
    refine o_ifF X hx 436 (hb hby at_433) rfl (by decide : ¬ (1 : Int32) = (0 : Int32)) ?_
    refine o_aload X hx 438 (hb hby at_436) rfl rfl rfl ?_
    refine o_iload X hx 440 (hb hby at_438) rfl rfl ?_
    refine o_lloadN X hx 441 (hb hby at_440) rfl rfl ?_
    refine o_iload X hx 443 (hb hby at_441) rfl rfl ?_
    refine o_bipush X hx 445 (19 : Int32) (hb hby at_443) rfl rfl ?_
    refine o_callS X hx hZ hown (hw _ (List.mem_of_getElem? (i := 7) rfl)) (hw _ (List.mem_of_getElem? (i := 8) rfl)) (hw _ (List.mem_of_getElem? (i := 9) rfl)) (hw _ (List.mem_of_getElem? (i := 10) rfl)) (by decide) (rm_okB l Z a0 hw [] b1 k1 [(.int (nar .byte (own_hex (own_d xx (60 : Int32))))), (.int (nar .byte (own_hex (own_d xx (56 : Int32))))), (.int (nar .byte (own_hex (own_d xx (52 : Int32))))), (.int (nar .byte (own_hex (own_d xx (48 : Int32))))), (.int (nar .byte (own_hex (own_d xx (44 : Int32))))), (.int (nar .byte (own_hex (own_d xx (40 : Int32))))), (.int (nar .byte (own_hex (own_d xx (36 : Int32))))), (.int (nar .byte (own_hex (own_d xx (32 : Int32))))), (.int (nar .byte (own_hex (own_d xx (28 : Int32))))), (.int (nar .byte (own_hex (own_d xx (24 : Int32))))), (.int (nar .byte (own_hex (own_d xx (20 : Int32))))), (.int (nar .byte (own_hex (own_d xx (16 : Int32))))), (.int (nar .byte (own_hex (own_d xx (12 : Int32))))), (.int (nar .byte (own_hex (own_d xx (8 : Int32))))), (.int (nar .byte (own_hex (own_d xx (4 : Int32))))), (.int (nar .byte (own_hex (own_d xx (0 : Int32))))), (.int (nar .byte (45 : Int32))), (.int (nar .byte f)), (.int (nar .byte f)), (.int (nar .byte f))] xx (0 : Int32) f (19 : Int32) (nar .byte f) _ n0 Z0 V_b1 (by decide) rfl (by decide) (by decide) (by decide) hf) eT (by decide) 0 (by decide) (by rw [hml]; rfl) [(.ref b1), (.int (0 : Int32)), (.long xx), (.int f), (.int (19 : Int32))] (rest := []) (lenOf pd_2 rfl) rfl rfl (Nat.le_of_eq rfl) (by decide) (by decide) 448 (hb hby at_445) rfl (fun v T h42 Lc X eT q => ?_)
    obtain ⟨rfl, N', e'⟩ := q
    replace N := Fr.app N N'
    replace eT := eT.trans e'
    show Wout p e below _ T (mkF m 448 #[.val (.long xx), .second, .val (.int p2), .val (.int p3), .val (.int (0 : Int32)), .val (.int f), .val (.ref b1)] [(.int (1 : Int32))])
    refine o_ifF X hx 451 (hb hby at_448) rfl (by decide : ¬ (1 : Int32) = (0 : Int32)) ?_
    refine o_iconst X hx 452 (1 : Int32) (hb hby at_451) rfl rfl ?_
    refine o_goto X hx 456 (hb hby at_452) rfl ?_
    exact o_retI X hx hlk hret rfl (by simp) (hb hby at_456) (by decide) (by decide) (by rw [eT]; exact ⟨rfl, N, trivial⟩)
  · show Wout p e below _ T (mkF m 154 #[.val (.long xx), .second, .val (.int p2), .val (.int p3), .val (.int (1 : Int32)), .val (.int f), .val (.ref b1)] [(.long xx), (.int (1 : Int32)), (.ref b1)])
    refine o_callS X hx hZ hown (hw _ (List.mem_of_getElem? (i := 1) rfl)) (hw _ (List.mem_of_getElem? (i := 2) rfl)) (hw _ (List.mem_of_getElem? (i := 3) rfl)) (hw _ (List.mem_of_getElem? (i := 4) rfl)) (by decide) (rm_wl1 l Z a0 hw [] b1 hxa k1 kh xx (nar .byte f) _ n0 Z0 O SH VH V_b1 g_b1) eT (by decide) 0 (by decide) (by rw [hml]; rfl) [(.ref b1), (.int (1 : Int32)), (.long xx)] (rest := []) (lenOf pd_1 rfl) rfl rfl (Nat.le_of_eq rfl) (by decide) (by decide) 157 (hb hby at_154) rfl (fun v T h43 Lc X eT q => ?_)
    obtain ⟨rfl, N', K1, V1⟩ := q
    replace N := Fr.app N N'
    replace Z0 := Nat.le_trans Z0 K1.1
    replace O := O.keep K1 (allS (P := fun x => n0 ≤ x) g_b1 all0)
    replace V_b1 := V1
    show Wout p e below _ T (mkF m 157 #[.val (.long xx), .second, .val (.int p2), .val (.int p3), .val (.int (1 : Int32)), .val (.int f), .val (.ref b1)] [])
    refine o_aload X hx 159 (hb hby at_157) rfl rfl rfl ?_
    refine o_iload X hx 161 (hb hby at_159) rfl rfl ?_
    refine o_lloadN X hx 162 (hb hby at_161) rfl rfl ?_
    refine o_iload X hx 164 (hb hby at_162) rfl rfl ?_
    refine o_iconst X hx 165 (0 : Int32) (hb hby at_164) rfl rfl ?_
    refine o_callS X hx hZ hown (hw _ (List.mem_of_getElem? (i := 7) rfl)) (hw _ (List.mem_of_getElem? (i := 8) rfl)) (hw _ (List.mem_of_getElem? (i := 9) rfl)) (hw _ (List.mem_of_getElem? (i := 10) rfl)) (by decide) (rm_okA l Z a0 hw [] b1 k1 [(.int (nar .byte f)), (.int (nar .byte (own_hex (own_d xx (60 : Int32))))), (.int (nar .byte (own_hex (own_d xx (56 : Int32))))), (.int (nar .byte (own_hex (own_d xx (52 : Int32))))), (.int (nar .byte (own_hex (own_d xx (48 : Int32))))), (.int (nar .byte (own_hex (own_d xx (44 : Int32))))), (.int (nar .byte (own_hex (own_d xx (40 : Int32))))), (.int (nar .byte (own_hex (own_d xx (36 : Int32))))), (.int (nar .byte (own_hex (own_d xx (32 : Int32))))), (.int (nar .byte (own_hex (own_d xx (28 : Int32))))), (.int (nar .byte (own_hex (own_d xx (24 : Int32))))), (.int (nar .byte (own_hex (own_d xx (20 : Int32))))), (.int (nar .byte (own_hex (own_d xx (16 : Int32))))), (.int (nar .byte (own_hex (own_d xx (12 : Int32))))), (.int (nar .byte (own_hex (own_d xx (8 : Int32))))), (.int (nar .byte (own_hex (own_d xx (4 : Int32))))), (.int (nar .byte (own_hex (own_d xx (0 : Int32))))), (.int (nar .byte (45 : Int32))), (.int (nar .byte f)), (.int (nar .byte f))] xx (1 : Int32) f (0 : Int32) (nar .byte f) _ n0 Z0 V_b1 (by decide) rfl (by decide) hf) eT (by decide) 0 (by decide) (by rw [hml]; rfl) [(.ref b1), (.int (1 : Int32)), (.long xx), (.int f), (.int (0 : Int32))] (rest := []) (lenOf pd_2 rfl) rfl rfl (Nat.le_of_eq rfl) (by decide) (by decide) 168 (hb hby at_165) rfl (fun v T h44 Lc X eT q => ?_)
    obtain ⟨rfl, N', e'⟩ := q
    replace N := Fr.app N N'
    replace eT := eT.trans e'
    show Wout p e below _ T (mkF m 168 #[.val (.long xx), .second, .val (.int p2), .val (.int p3), .val (.int (1 : Int32)), .val (.int f), .val (.ref b1)] [(.int (1 : Int32))])
    refine o_ifF X hx 171 (hb hby at_168) rfl (by decide : ¬ (1 : Int32) = (0 : Int32)) ?_
    refine o_aload X hx 173 (hb hby at_171) rfl rfl rfl ?_
    refine o_iload X hx 175 (hb hby at_173) rfl rfl ?_
    refine o_lloadN X hx 176 (hb hby at_175) rfl rfl ?_
    refine o_iload X hx 178 (hb hby at_176) rfl rfl ?_
    refine o_iconst X hx 179 (1 : Int32) (hb hby at_178) rfl rfl ?_
    refine o_callS X hx hZ hown (hw _ (List.mem_of_getElem? (i := 7) rfl)) (hw _ (List.mem_of_getElem? (i := 8) rfl)) (hw _ (List.mem_of_getElem? (i := 9) rfl)) (hw _ (List.mem_of_getElem? (i := 10) rfl)) (by decide) (rm_okH l Z a0 hw [] b1 k1 [(.int (nar .byte f)), (.int (nar .byte (own_hex (own_d xx (60 : Int32))))), (.int (nar .byte (own_hex (own_d xx (56 : Int32))))), (.int (nar .byte (own_hex (own_d xx (52 : Int32))))), (.int (nar .byte (own_hex (own_d xx (48 : Int32))))), (.int (nar .byte (own_hex (own_d xx (44 : Int32))))), (.int (nar .byte (own_hex (own_d xx (40 : Int32))))), (.int (nar .byte (own_hex (own_d xx (36 : Int32))))), (.int (nar .byte (own_hex (own_d xx (32 : Int32))))), (.int (nar .byte (own_hex (own_d xx (28 : Int32))))), (.int (nar .byte (own_hex (own_d xx (24 : Int32))))), (.int (nar .byte (own_hex (own_d xx (20 : Int32))))), (.int (nar .byte (own_hex (own_d xx (16 : Int32))))), (.int (nar .byte (own_hex (own_d xx (12 : Int32))))), (.int (nar .byte (own_hex (own_d xx (8 : Int32))))), (.int (nar .byte (own_hex (own_d xx (4 : Int32))))), (.int (nar .byte (own_hex (own_d xx (0 : Int32))))), (.int (nar .byte (45 : Int32))), (.int (nar .byte f)), (.int (nar .byte f))] xx (1 : Int32) f (1 : Int32) (nar .byte (own_hex (own_d xx (60 : Int32)))) _ n0 Z0 V_b1 (by decide) rfl (by decide) (by decide) (own_e0 xx)) eT (by decide) 0 (by decide) (by rw [hml]; rfl) [(.ref b1), (.int (1 : Int32)), (.long xx), (.int f), (.int (1 : Int32))] (rest := []) (lenOf pd_2 rfl) rfl rfl (Nat.le_of_eq rfl) (by decide) (by decide) 182 (hb hby at_179) rfl (fun v T h45 Lc X eT q => ?_)
    obtain ⟨rfl, N', e'⟩ := q
    replace N := Fr.app N N'
    replace eT := eT.trans e'
    show Wout p e below _ T (mkF m 182 #[.val (.long xx), .second, .val (.int p2), .val (.int p3), .val (.int (1 : Int32)), .val (.int f), .val (.ref b1)] [(.int (1 : Int32))])
    refine o_ifF X hx 185 (hb hby at_182) rfl (by decide : ¬ (1 : Int32) = (0 : Int32)) ?_
    refine o_aload X hx 187 (hb hby at_185) rfl rfl rfl ?_
    refine o_iload X hx 189 (hb hby at_187) rfl rfl ?_
    refine o_lloadN X hx 190 (hb hby at_189) rfl rfl ?_
    refine o_iload X hx 192 (hb hby at_190) rfl rfl ?_
    refine o_iconst X hx 193 (2 : Int32) (hb hby at_192) rfl rfl ?_
    refine o_callS X hx hZ hown (hw _ (List.mem_of_getElem? (i := 7) rfl)) (hw _ (List.mem_of_getElem? (i := 8) rfl)) (hw _ (List.mem_of_getElem? (i := 9) rfl)) (hw _ (List.mem_of_getElem? (i := 10) rfl)) (by decide) (rm_okH l Z a0 hw [] b1 k1 [(.int (nar .byte f)), (.int (nar .byte (own_hex (own_d xx (60 : Int32))))), (.int (nar .byte (own_hex (own_d xx (56 : Int32))))), (.int (nar .byte (own_hex (own_d xx (52 : Int32))))), (.int (nar .byte (own_hex (own_d xx (48 : Int32))))), (.int (nar .byte (own_hex (own_d xx (44 : Int32))))), (.int (nar .byte (own_hex (own_d xx (40 : Int32))))), (.int (nar .byte (own_hex (own_d xx (36 : Int32))))), (.int (nar .byte (own_hex (own_d xx (32 : Int32))))), (.int (nar .byte (own_hex (own_d xx (28 : Int32))))), (.int (nar .byte (own_hex (own_d xx (24 : Int32))))), (.int (nar .byte (own_hex (own_d xx (20 : Int32))))), (.int (nar .byte (own_hex (own_d xx (16 : Int32))))), (.int (nar .byte (own_hex (own_d xx (12 : Int32))))), (.int (nar .byte (own_hex (own_d xx (8 : Int32))))), (.int (nar .byte (own_hex (own_d xx (4 : Int32))))), (.int (nar .byte (own_hex (own_d xx (0 : Int32))))), (.int (nar .byte (45 : Int32))), (.int (nar .byte f)), (.int (nar .byte f))] xx (1 : Int32) f (2 : Int32) (nar .byte (own_hex (own_d xx (56 : Int32)))) _ n0 Z0 V_b1 (by decide) rfl (by decide) (by decide) (own_e1 xx)) eT (by decide) 0 (by decide) (by rw [hml]; rfl) [(.ref b1), (.int (1 : Int32)), (.long xx), (.int f), (.int (2 : Int32))] (rest := []) (lenOf pd_2 rfl) rfl rfl (Nat.le_of_eq rfl) (by decide) (by decide) 196 (hb hby at_193) rfl (fun v T h46 Lc X eT q => ?_)
    obtain ⟨rfl, N', e'⟩ := q
    replace N := Fr.app N N'
    replace eT := eT.trans e'
    show Wout p e below _ T (mkF m 196 #[.val (.long xx), .second, .val (.int p2), .val (.int p3), .val (.int (1 : Int32)), .val (.int f), .val (.ref b1)] [(.int (1 : Int32))])
    refine o_ifF X hx 199 (hb hby at_196) rfl (by decide : ¬ (1 : Int32) = (0 : Int32)) ?_
    refine o_aload X hx 201 (hb hby at_199) rfl rfl rfl ?_
    refine o_iload X hx 203 (hb hby at_201) rfl rfl ?_
    refine o_lloadN X hx 204 (hb hby at_203) rfl rfl ?_
    refine o_iload X hx 206 (hb hby at_204) rfl rfl ?_
    refine o_iconst X hx 207 (3 : Int32) (hb hby at_206) rfl rfl ?_
    refine o_callS X hx hZ hown (hw _ (List.mem_of_getElem? (i := 7) rfl)) (hw _ (List.mem_of_getElem? (i := 8) rfl)) (hw _ (List.mem_of_getElem? (i := 9) rfl)) (hw _ (List.mem_of_getElem? (i := 10) rfl)) (by decide) (rm_okH l Z a0 hw [] b1 k1 [(.int (nar .byte f)), (.int (nar .byte (own_hex (own_d xx (60 : Int32))))), (.int (nar .byte (own_hex (own_d xx (56 : Int32))))), (.int (nar .byte (own_hex (own_d xx (52 : Int32))))), (.int (nar .byte (own_hex (own_d xx (48 : Int32))))), (.int (nar .byte (own_hex (own_d xx (44 : Int32))))), (.int (nar .byte (own_hex (own_d xx (40 : Int32))))), (.int (nar .byte (own_hex (own_d xx (36 : Int32))))), (.int (nar .byte (own_hex (own_d xx (32 : Int32))))), (.int (nar .byte (own_hex (own_d xx (28 : Int32))))), (.int (nar .byte (own_hex (own_d xx (24 : Int32))))), (.int (nar .byte (own_hex (own_d xx (20 : Int32))))), (.int (nar .byte (own_hex (own_d xx (16 : Int32))))), (.int (nar .byte (own_hex (own_d xx (12 : Int32))))), (.int (nar .byte (own_hex (own_d xx (8 : Int32))))), (.int (nar .byte (own_hex (own_d xx (4 : Int32))))), (.int (nar .byte (own_hex (own_d xx (0 : Int32))))), (.int (nar .byte (45 : Int32))), (.int (nar .byte f)), (.int (nar .byte f))] xx (1 : Int32) f (3 : Int32) (nar .byte (own_hex (own_d xx (52 : Int32)))) _ n0 Z0 V_b1 (by decide) rfl (by decide) (by decide) (own_e2 xx)) eT (by decide) 0 (by decide) (by rw [hml]; rfl) [(.ref b1), (.int (1 : Int32)), (.long xx), (.int f), (.int (3 : Int32))] (rest := []) (lenOf pd_2 rfl) rfl rfl (Nat.le_of_eq rfl) (by decide) (by decide) 210 (hb hby at_207) rfl (fun v T h47 Lc X eT q => ?_)
    obtain ⟨rfl, N', e'⟩ := q
    replace N := Fr.app N N'
    replace eT := eT.trans e'
    show Wout p e below _ T (mkF m 210 #[.val (.long xx), .second, .val (.int p2), .val (.int p3), .val (.int (1 : Int32)), .val (.int f), .val (.ref b1)] [(.int (1 : Int32))])
    refine o_ifF X hx 213 (hb hby at_210) rfl (by decide : ¬ (1 : Int32) = (0 : Int32)) ?_
    refine o_aload X hx 215 (hb hby at_213) rfl rfl rfl ?_
    refine o_iload X hx 217 (hb hby at_215) rfl rfl ?_
    refine o_lloadN X hx 218 (hb hby at_217) rfl rfl ?_
    refine o_iload X hx 220 (hb hby at_218) rfl rfl ?_
    refine o_iconst X hx 221 (4 : Int32) (hb hby at_220) rfl rfl ?_
    refine o_callS X hx hZ hown (hw _ (List.mem_of_getElem? (i := 7) rfl)) (hw _ (List.mem_of_getElem? (i := 8) rfl)) (hw _ (List.mem_of_getElem? (i := 9) rfl)) (hw _ (List.mem_of_getElem? (i := 10) rfl)) (by decide) (rm_okH l Z a0 hw [] b1 k1 [(.int (nar .byte f)), (.int (nar .byte (own_hex (own_d xx (60 : Int32))))), (.int (nar .byte (own_hex (own_d xx (56 : Int32))))), (.int (nar .byte (own_hex (own_d xx (52 : Int32))))), (.int (nar .byte (own_hex (own_d xx (48 : Int32))))), (.int (nar .byte (own_hex (own_d xx (44 : Int32))))), (.int (nar .byte (own_hex (own_d xx (40 : Int32))))), (.int (nar .byte (own_hex (own_d xx (36 : Int32))))), (.int (nar .byte (own_hex (own_d xx (32 : Int32))))), (.int (nar .byte (own_hex (own_d xx (28 : Int32))))), (.int (nar .byte (own_hex (own_d xx (24 : Int32))))), (.int (nar .byte (own_hex (own_d xx (20 : Int32))))), (.int (nar .byte (own_hex (own_d xx (16 : Int32))))), (.int (nar .byte (own_hex (own_d xx (12 : Int32))))), (.int (nar .byte (own_hex (own_d xx (8 : Int32))))), (.int (nar .byte (own_hex (own_d xx (4 : Int32))))), (.int (nar .byte (own_hex (own_d xx (0 : Int32))))), (.int (nar .byte (45 : Int32))), (.int (nar .byte f)), (.int (nar .byte f))] xx (1 : Int32) f (4 : Int32) (nar .byte (own_hex (own_d xx (48 : Int32)))) _ n0 Z0 V_b1 (by decide) rfl (by decide) (by decide) (own_e3 xx)) eT (by decide) 0 (by decide) (by rw [hml]; rfl) [(.ref b1), (.int (1 : Int32)), (.long xx), (.int f), (.int (4 : Int32))] (rest := []) (lenOf pd_2 rfl) rfl rfl (Nat.le_of_eq rfl) (by decide) (by decide) 224 (hb hby at_221) rfl (fun v T h48 Lc X eT q => ?_)
    obtain ⟨rfl, N', e'⟩ := q
    replace N := Fr.app N N'
    replace eT := eT.trans e'
    show Wout p e below _ T (mkF m 224 #[.val (.long xx), .second, .val (.int p2), .val (.int p3), .val (.int (1 : Int32)), .val (.int f), .val (.ref b1)] [(.int (1 : Int32))])
    refine o_ifF X hx 227 (hb hby at_224) rfl (by decide : ¬ (1 : Int32) = (0 : Int32)) ?_
    refine o_aload X hx 229 (hb hby at_227) rfl rfl rfl ?_
    refine o_iload X hx 231 (hb hby at_229) rfl rfl ?_
    refine o_lloadN X hx 232 (hb hby at_231) rfl rfl ?_
    refine o_iload X hx 234 (hb hby at_232) rfl rfl ?_
    refine o_iconst X hx 235 (5 : Int32) (hb hby at_234) rfl rfl ?_
    refine o_callS X hx hZ hown (hw _ (List.mem_of_getElem? (i := 7) rfl)) (hw _ (List.mem_of_getElem? (i := 8) rfl)) (hw _ (List.mem_of_getElem? (i := 9) rfl)) (hw _ (List.mem_of_getElem? (i := 10) rfl)) (by decide) (rm_okH l Z a0 hw [] b1 k1 [(.int (nar .byte f)), (.int (nar .byte (own_hex (own_d xx (60 : Int32))))), (.int (nar .byte (own_hex (own_d xx (56 : Int32))))), (.int (nar .byte (own_hex (own_d xx (52 : Int32))))), (.int (nar .byte (own_hex (own_d xx (48 : Int32))))), (.int (nar .byte (own_hex (own_d xx (44 : Int32))))), (.int (nar .byte (own_hex (own_d xx (40 : Int32))))), (.int (nar .byte (own_hex (own_d xx (36 : Int32))))), (.int (nar .byte (own_hex (own_d xx (32 : Int32))))), (.int (nar .byte (own_hex (own_d xx (28 : Int32))))), (.int (nar .byte (own_hex (own_d xx (24 : Int32))))), (.int (nar .byte (own_hex (own_d xx (20 : Int32))))), (.int (nar .byte (own_hex (own_d xx (16 : Int32))))), (.int (nar .byte (own_hex (own_d xx (12 : Int32))))), (.int (nar .byte (own_hex (own_d xx (8 : Int32))))), (.int (nar .byte (own_hex (own_d xx (4 : Int32))))), (.int (nar .byte (own_hex (own_d xx (0 : Int32))))), (.int (nar .byte (45 : Int32))), (.int (nar .byte f)), (.int (nar .byte f))] xx (1 : Int32) f (5 : Int32) (nar .byte (own_hex (own_d xx (44 : Int32)))) _ n0 Z0 V_b1 (by decide) rfl (by decide) (by decide) (own_e4 xx)) eT (by decide) 0 (by decide) (by rw [hml]; rfl) [(.ref b1), (.int (1 : Int32)), (.long xx), (.int f), (.int (5 : Int32))] (rest := []) (lenOf pd_2 rfl) rfl rfl (Nat.le_of_eq rfl) (by decide) (by decide) 238 (hb hby at_235) rfl (fun v T h49 Lc X eT q => ?_)
    obtain ⟨rfl, N', e'⟩ := q
    replace N := Fr.app N N'
    replace eT := eT.trans e'
    show Wout p e below _ T (mkF m 238 #[.val (.long xx), .second, .val (.int p2), .val (.int p3), .val (.int (1 : Int32)), .val (.int f), .val (.ref b1)] [(.int (1 : Int32))])
    refine o_ifF X hx 241 (hb hby at_238) rfl (by decide : ¬ (1 : Int32) = (0 : Int32)) ?_
    refine o_aload X hx 243 (hb hby at_241) rfl rfl rfl ?_
    refine o_iload X hx 245 (hb hby at_243) rfl rfl ?_
    refine o_lloadN X hx 246 (hb hby at_245) rfl rfl ?_
    refine o_iload X hx 248 (hb hby at_246) rfl rfl ?_
    refine o_bipush X hx 250 (6 : Int32) (hb hby at_248) rfl rfl ?_
    refine o_callS X hx hZ hown (hw _ (List.mem_of_getElem? (i := 7) rfl)) (hw _ (List.mem_of_getElem? (i := 8) rfl)) (hw _ (List.mem_of_getElem? (i := 9) rfl)) (hw _ (List.mem_of_getElem? (i := 10) rfl)) (by decide) (rm_okH l Z a0 hw [] b1 k1 [(.int (nar .byte f)), (.int (nar .byte (own_hex (own_d xx (60 : Int32))))), (.int (nar .byte (own_hex (own_d xx (56 : Int32))))), (.int (nar .byte (own_hex (own_d xx (52 : Int32))))), (.int (nar .byte (own_hex (own_d xx (48 : Int32))))), (.int (nar .byte (own_hex (own_d xx (44 : Int32))))), (.int (nar .byte (own_hex (own_d xx (40 : Int32))))), (.int (nar .byte (own_hex (own_d xx (36 : Int32))))), (.int (nar .byte (own_hex (own_d xx (32 : Int32))))), (.int (nar .byte (own_hex (own_d xx (28 : Int32))))), (.int (nar .byte (own_hex (own_d xx (24 : Int32))))), (.int (nar .byte (own_hex (own_d xx (20 : Int32))))), (.int (nar .byte (own_hex (own_d xx (16 : Int32))))), (.int (nar .byte (own_hex (own_d xx (12 : Int32))))), (.int (nar .byte (own_hex (own_d xx (8 : Int32))))), (.int (nar .byte (own_hex (own_d xx (4 : Int32))))), (.int (nar .byte (own_hex (own_d xx (0 : Int32))))), (.int (nar .byte (45 : Int32))), (.int (nar .byte f)), (.int (nar .byte f))] xx (1 : Int32) f (6 : Int32) (nar .byte (own_hex (own_d xx (40 : Int32)))) _ n0 Z0 V_b1 (by decide) rfl (by decide) (by decide) (own_e5 xx)) eT (by decide) 0 (by decide) (by rw [hml]; rfl) [(.ref b1), (.int (1 : Int32)), (.long xx), (.int f), (.int (6 : Int32))] (rest := []) (lenOf pd_2 rfl) rfl rfl (Nat.le_of_eq rfl) (by decide) (by decide) 253 (hb hby at_250) rfl (fun v T h50 Lc X eT q => ?_)
    obtain ⟨rfl, N', e'⟩ := q
    replace N := Fr.app N N'
    replace eT := eT.trans e'
    show Wout p e below _ T (mkF m 253 #[.val (.long xx), .second, .val (.int p2), .val (.int p3), .val (.int (1 : Int32)), .val (.int f), .val (.ref b1)] [(.int (1 : Int32))])
    refine o_ifF X hx 256 (hb hby at_253) rfl (by decide : ¬ (1 : Int32) = (0 : Int32)) ?_
    refine o_aload X hx 258 (hb hby at_256) rfl rfl rfl ?_
    refine o_iload X hx 260 (hb hby at_258) rfl rfl ?_
    refine o_lloadN X hx 261 (hb hby at_260) rfl rfl ?_
    refine o_iload X hx 263 (hb hby at_261) rfl rfl ?_
    refine o_bipush X hx 265 (7 : Int32) (hb hby at_263) rfl rfl ?_
    refine o_callS X hx hZ hown (hw _ (List.mem_of_getElem? (i := 7) rfl)) (hw _ (List.mem_of_getElem? (i := 8) rfl)) (hw _ (List.mem_of_getElem? (i := 9) rfl)) (hw _ (List.mem_of_getElem? (i := 10) rfl)) (by decide) (rm_okH l Z a0 hw [] b1 k1 [(.int (nar .byte f)), (.int (nar .byte (own_hex (own_d xx (60 : Int32))))), (.int (nar .byte (own_hex (own_d xx (56 : Int32))))), (.int (nar .byte (own_hex (own_d xx (52 : Int32))))), (.int (nar .byte (own_hex (own_d xx (48 : Int32))))), (.int (nar .byte (own_hex (own_d xx (44 : Int32))))), (.int (nar .byte (own_hex (own_d xx (40 : Int32))))), (.int (nar .byte (own_hex (own_d xx (36 : Int32))))), (.int (nar .byte (own_hex (own_d xx (32 : Int32))))), (.int (nar .byte (own_hex (own_d xx (28 : Int32))))), (.int (nar .byte (own_hex (own_d xx (24 : Int32))))), (.int (nar .byte (own_hex (own_d xx (20 : Int32))))), (.int (nar .byte (own_hex (own_d xx (16 : Int32))))), (.int (nar .byte (own_hex (own_d xx (12 : Int32))))), (.int (nar .byte (own_hex (own_d xx (8 : Int32))))), (.int (nar .byte (own_hex (own_d xx (4 : Int32))))), (.int (nar .byte (own_hex (own_d xx (0 : Int32))))), (.int (nar .byte (45 : Int32))), (.int (nar .byte f)), (.int (nar .byte f))] xx (1 : Int32) f (7 : Int32) (nar .byte (own_hex (own_d xx (36 : Int32)))) _ n0 Z0 V_b1 (by decide) rfl (by decide) (by decide) (own_e6 xx)) eT (by decide) 0 (by decide) (by rw [hml]; rfl) [(.ref b1), (.int (1 : Int32)), (.long xx), (.int f), (.int (7 : Int32))] (rest := []) (lenOf pd_2 rfl) rfl rfl (Nat.le_of_eq rfl) (by decide) (by decide) 268 (hb hby at_265) rfl (fun v T h51 Lc X eT q => ?_)
    obtain ⟨rfl, N', e'⟩ := q
    replace N := Fr.app N N'
    replace eT := eT.trans e'
    show Wout p e below _ T (mkF m 268 #[.val (.long xx), .second, .val (.int p2), .val (.int p3), .val (.int (1 : Int32)), .val (.int f), .val (.ref b1)] [(.int (1 : Int32))])
    refine o_ifF X hx 271 (hb hby at_268) rfl (by decide : ¬ (1 : Int32) = (0 : Int32)) ?_
    refine o_aload X hx 273 (hb hby at_271) rfl rfl rfl ?_
    refine o_iload X hx 275 (hb hby at_273) rfl rfl ?_
    refine o_lloadN X hx 276 (hb hby at_275) rfl rfl ?_
    refine o_iload X hx 278 (hb hby at_276) rfl rfl ?_
    refine o_bipush X hx 280 (8 : Int32) (hb hby at_278) rfl rfl ?_
    refine o_callS X hx hZ hown (hw _ (List.mem_of_getElem? (i := 7) rfl)) (hw _ (List.mem_of_getElem? (i := 8) rfl)) (hw _ (List.mem_of_getElem? (i := 9) rfl)) (hw _ (List.mem_of_getElem? (i := 10) rfl)) (by decide) (rm_okH l Z a0 hw [] b1 k1 [(.int (nar .byte f)), (.int (nar .byte (own_hex (own_d xx (60 : Int32))))), (.int (nar .byte (own_hex (own_d xx (56 : Int32))))), (.int (nar .byte (own_hex (own_d xx (52 : Int32))))), (.int (nar .byte (own_hex (own_d xx (48 : Int32))))), (.int (nar .byte (own_hex (own_d xx (44 : Int32))))), (.int (nar .byte (own_hex (own_d xx (40 : Int32))))), (.int (nar .byte (own_hex (own_d xx (36 : Int32))))), (.int (nar .byte (own_hex (own_d xx (32 : Int32))))), (.int (nar .byte (own_hex (own_d xx (28 : Int32))))), (.int (nar .byte (own_hex (own_d xx (24 : Int32))))), (.int (nar .byte (own_hex (own_d xx (20 : Int32))))), (.int (nar .byte (own_hex (own_d xx (16 : Int32))))), (.int (nar .byte (own_hex (own_d xx (12 : Int32))))), (.int (nar .byte (own_hex (own_d xx (8 : Int32))))), (.int (nar .byte (own_hex (own_d xx (4 : Int32))))), (.int (nar .byte (own_hex (own_d xx (0 : Int32))))), (.int (nar .byte (45 : Int32))), (.int (nar .byte f)), (.int (nar .byte f))] xx (1 : Int32) f (8 : Int32) (nar .byte (own_hex (own_d xx (32 : Int32)))) _ n0 Z0 V_b1 (by decide) rfl (by decide) (by decide) (own_e7 xx)) eT (by decide) 0 (by decide) (by rw [hml]; rfl) [(.ref b1), (.int (1 : Int32)), (.long xx), (.int f), (.int (8 : Int32))] (rest := []) (lenOf pd_2 rfl) rfl rfl (Nat.le_of_eq rfl) (by decide) (by decide) 283 (hb hby at_280) rfl (fun v T h52 Lc X eT q => ?_)
    obtain ⟨rfl, N', e'⟩ := q
    replace N := Fr.app N N'
    replace eT := eT.trans e'
    show Wout p e below _ T (mkF m 283 #[.val (.long xx), .second, .val (.int p2), .val (.int p3), .val (.int (1 : Int32)), .val (.int f), .val (.ref b1)] [(.int (1 : Int32))])
    refine o_ifF X hx 286 (hb hby at_283) rfl (by decide : ¬ (1 : Int32) = (0 : Int32)) ?_
    refine o_aload X hx 288 (hb hby at_286) rfl rfl rfl ?_
    refine o_iload X hx 290 (hb hby at_288) rfl rfl ?_
    refine o_lloadN X hx 291 (hb hby at_290) rfl rfl ?_
    refine o_iload X hx 293 (hb hby at_291) rfl rfl ?_
    refine o_bipush X hx 295 (9 : Int32) (hb hby at_293) rfl rfl ?_
    refine o_callS X hx hZ hown (hw _ (List.mem_of_getElem? (i := 7) rfl)) (hw _ (List.mem_of_getElem? (i := 8) rfl)) (hw _ (List.mem_of_getElem? (i := 9) rfl)) (hw _ (List.mem_of_getElem? (i := 10) rfl)) (by decide) (rm_okH l Z a0 hw [] b1 k1 [(.int (nar .byte f)), (.int (nar .byte (own_hex (own_d xx (60 : Int32))))), (.int (nar .byte (own_hex (own_d xx (56 : Int32))))), (.int (nar .byte (own_hex (own_d xx (52 : Int32))))), (.int (nar .byte (own_hex (own_d xx (48 : Int32))))), (.int (nar .byte (own_hex (own_d xx (44 : Int32))))), (.int (nar .byte (own_hex (own_d xx (40 : Int32))))), (.int (nar .byte (own_hex (own_d xx (36 : Int32))))), (.int (nar .byte (own_hex (own_d xx (32 : Int32))))), (.int (nar .byte (own_hex (own_d xx (28 : Int32))))), (.int (nar .byte (own_hex (own_d xx (24 : Int32))))), (.int (nar .byte (own_hex (own_d xx (20 : Int32))))), (.int (nar .byte (own_hex (own_d xx (16 : Int32))))), (.int (nar .byte (own_hex (own_d xx (12 : Int32))))), (.int (nar .byte (own_hex (own_d xx (8 : Int32))))), (.int (nar .byte (own_hex (own_d xx (4 : Int32))))), (.int (nar .byte (own_hex (own_d xx (0 : Int32))))), (.int (nar .byte (45 : Int32))), (.int (nar .byte f)), (.int (nar .byte f))] xx (1 : Int32) f (9 : Int32) (nar .byte (own_hex (own_d xx (28 : Int32)))) _ n0 Z0 V_b1 (by decide) rfl (by decide) (by decide) (own_e8 xx)) eT (by decide) 0 (by decide) (by rw [hml]; rfl) [(.ref b1), (.int (1 : Int32)), (.long xx), (.int f), (.int (9 : Int32))] (rest := []) (lenOf pd_2 rfl) rfl rfl (Nat.le_of_eq rfl) (by decide) (by decide) 298 (hb hby at_295) rfl (fun v T h53 Lc X eT q => ?_)
    obtain ⟨rfl, N', e'⟩ := q
    replace N := Fr.app N N'
    replace eT := eT.trans e'
    show Wout p e below _ T (mkF m 298 #[.val (.long xx), .second, .val (.int p2), .val (.int p3), .val (.int (1 : Int32)), .val (.int f), .val (.ref b1)] [(.int (1 : Int32))])
    refine o_ifF X hx 301 (hb hby at_298) rfl (by decide : ¬ (1 : Int32) = (0 : Int32)) ?_
    refine o_aload X hx 303 (hb hby at_301) rfl rfl rfl ?_
    refine o_iload X hx 305 (hb hby at_303) rfl rfl ?_
    refine o_lloadN X hx 306 (hb hby at_305) rfl rfl ?_
    refine o_iload X hx 308 (hb hby at_306) rfl rfl ?_
    refine o_bipush X hx 310 (10 : Int32) (hb hby at_308) rfl rfl ?_
    refine o_callS X hx hZ hown (hw _ (List.mem_of_getElem? (i := 7) rfl)) (hw _ (List.mem_of_getElem? (i := 8) rfl)) (hw _ (List.mem_of_getElem? (i := 9) rfl)) (hw _ (List.mem_of_getElem? (i := 10) rfl)) (by decide) (rm_okH l Z a0 hw [] b1 k1 [(.int (nar .byte f)), (.int (nar .byte (own_hex (own_d xx (60 : Int32))))), (.int (nar .byte (own_hex (own_d xx (56 : Int32))))), (.int (nar .byte (own_hex (own_d xx (52 : Int32))))), (.int (nar .byte (own_hex (own_d xx (48 : Int32))))), (.int (nar .byte (own_hex (own_d xx (44 : Int32))))), (.int (nar .byte (own_hex (own_d xx (40 : Int32))))), (.int (nar .byte (own_hex (own_d xx (36 : Int32))))), (.int (nar .byte (own_hex (own_d xx (32 : Int32))))), (.int (nar .byte (own_hex (own_d xx (28 : Int32))))), (.int (nar .byte (own_hex (own_d xx (24 : Int32))))), (.int (nar .byte (own_hex (own_d xx (20 : Int32))))), (.int (nar .byte (own_hex (own_d xx (16 : Int32))))), (.int (nar .byte (own_hex (own_d xx (12 : Int32))))), (.int (nar .byte (own_hex (own_d xx (8 : Int32))))), (.int (nar .byte (own_hex (own_d xx (4 : Int32))))), (.int (nar .byte (own_hex (own_d xx (0 : Int32))))), (.int (nar .byte (45 : Int32))), (.int (nar .byte f)), (.int (nar .byte f))] xx (1 : Int32) f (10 : Int32) (nar .byte (own_hex (own_d xx (24 : Int32)))) _ n0 Z0 V_b1 (by decide) rfl (by decide) (by decide) (own_e9 xx)) eT (by decide) 0 (by decide) (by rw [hml]; rfl) [(.ref b1), (.int (1 : Int32)), (.long xx), (.int f), (.int (10 : Int32))] (rest := []) (lenOf pd_2 rfl) rfl rfl (Nat.le_of_eq rfl) (by decide) (by decide) 313 (hb hby at_310) rfl (fun v T h54 Lc X eT q => ?_)
    obtain ⟨rfl, N', e'⟩ := q
    replace N := Fr.app N N'
    replace eT := eT.trans e'
    show Wout p e below _ T (mkF m 313 #[.val (.long xx), .second, .val (.int p2), .val (.int p3), .val (.int (1 : Int32)), .val (.int f), .val (.ref b1)] [(.int (1 : Int32))])
    refine o_ifF X hx 316 (hb hby at_313) rfl (by decide : ¬ (1 : Int32) = (0 : Int32)) ?_
    refine o_aload X hx 318 (hb hby at_316) rfl rfl rfl ?_
    refine o_iload X hx 320 (hb hby at_318) rfl rfl ?_
    refine o_lloadN X hx 321 (hb hby at_320) rfl rfl ?_
    refine o_iload X hx 323 (hb hby at_321) rfl rfl ?_
    refine o_bipush X hx 325 (11 : Int32) (hb hby at_323) rfl rfl ?_
    refine o_callS X hx hZ hown (hw _ (List.mem_of_getElem? (i := 7) rfl)) (hw _ (List.mem_of_getElem? (i := 8) rfl)) (hw _ (List.mem_of_getElem? (i := 9) rfl)) (hw _ (List.mem_of_getElem? (i := 10) rfl)) (by decide) (rm_okH l Z a0 hw [] b1 k1 [(.int (nar .byte f)), (.int (nar .byte (own_hex (own_d xx (60 : Int32))))), (.int (nar .byte (own_hex (own_d xx (56 : Int32))))), (.int (nar .byte (own_hex (own_d xx (52 : Int32))))), (.int (nar .byte (own_hex (own_d xx (48 : Int32))))), (.int (nar .byte (own_hex (own_d xx (44 : Int32))))), (.int (nar .byte (own_hex (own_d xx (40 : Int32))))), (.int (nar .byte (own_hex (own_d xx (36 : Int32))))), (.int (nar .byte (own_hex (own_d xx (32 : Int32))))), (.int (nar .byte (own_hex (own_d xx (28 : Int32))))), (.int (nar .byte (own_hex (own_d xx (24 : Int32))))), (.int (nar .byte (own_hex (own_d xx (20 : Int32))))), (.int (nar .byte (own_hex (own_d xx (16 : Int32))))), (.int (nar .byte (own_hex (own_d xx (12 : Int32))))), (.int (nar .byte (own_hex (own_d xx (8 : Int32))))), (.int (nar .byte (own_hex (own_d xx (4 : Int32))))), (.int (nar .byte (own_hex (own_d xx (0 : Int32))))), (.int (nar .byte (45 : Int32))), (.int (nar .byte f)), (.int (nar .byte f))] xx (1 : Int32) f (11 : Int32) (nar .byte (own_hex (own_d xx (20 : Int32)))) _ n0 Z0 V_b1 (by decide) rfl (by decide) (by decide) (own_e10 xx)) eT (by decide) 0 (by decide) (by rw [hml]; rfl) [(.ref b1), (.int (1 : Int32)), (.long xx), (.int f), (.int (11 : Int32))] (rest := []) (lenOf pd_2 rfl) rfl rfl (Nat.le_of_eq rfl) (by decide) (by decide) 328 (hb hby at_325) rfl (fun v T h55 Lc X eT q => ?_)
    obtain ⟨rfl, N', e'⟩ := q
    replace N := Fr.app N N'
    replace eT := eT.trans e'
    show Wout p e below _ T (mkF m 328 #[.val (.long xx), .second, .val (.int p2), .val (.int p3), .val (.int (1 : Int32)), .val (.int f), .val (.ref b1)] [(.int (1 : Int32))])
    refine o_ifF X hx 331 (hb hby at_328) rfl (by decide : ¬ (1 : Int32) = (0 : Int32)) ?_
    refine o_aload X hx 333 (hb hby at_331) rfl rfl rfl ?_
    refine o_iload X hx 335 (hb hby at_333) rfl rfl ?_
    refine o_lloadN X hx 336 (hb hby at_335) rfl rfl ?_
    refine o_iload X hx 338 (hb hby at_336) rfl rfl ?_
    refine o_bipush X hx 340 (12 : Int32) (hb hby at_338) rfl rfl ?_
    refine o_callS X hx hZ hown (hw _ (List.mem_of_getElem? (i := 7) rfl)) (hw _ (List.mem_of_getElem? (i := 8) rfl)) (hw _ (List.mem_of_getElem? (i := 9) rfl)) (hw _ (List.mem_of_getElem? (i := 10) rfl)) (by decide) (rm_okH l Z a0 hw [] b1 k1 [(.int (nar .byte f)), (.int (nar .byte (own_hex (own_d xx (60 : Int32))))), (.int (nar .byte (own_hex (own_d xx (56 : Int32))))), (.int (nar .byte (own_hex (own_d xx (52 : Int32))))), (.int (nar .byte (own_hex (own_d xx (48 : Int32))))), (.int (nar .byte (own_hex (own_d xx (44 : Int32))))), (.int (nar .byte (own_hex (own_d xx (40 : Int32))))), (.int (nar .byte (own_hex (own_d xx (36 : Int32))))), (.int (nar .byte (own_hex (own_d xx (32 : Int32))))), (.int (nar .byte (own_hex (own_d xx (28 : Int32))))), (.int (nar .byte (own_hex (own_d xx (24 : Int32))))), (.int (nar .byte (own_hex (own_d xx (20 : Int32))))), (.int (nar .byte (own_hex (own_d xx (16 : Int32))))), (.int (nar .byte (own_hex (own_d xx (12 : Int32))))), (.int (nar .byte (own_hex (own_d xx (8 : Int32))))), (.int (nar .byte (own_hex (own_d xx (4 : Int32))))), (.int (nar .byte (own_hex (own_d xx (0 : Int32))))), (.int (nar .byte (45 : Int32))), (.int (nar .byte f)), (.int (nar .byte f))] xx (1 : Int32) f (12 : Int32) (nar .byte (own_hex (own_d xx (16 : Int32)))) _ n0 Z0 V_b1 (by decide) rfl (by decide) (by decide) (own_e11 xx)) eT (by decide) 0 (by decide) (by rw [hml]; rfl) [(.ref b1), (.int (1 : Int32)), (.long xx), (.int f), (.int (12 : Int32))] (rest := []) (lenOf pd_2 rfl) rfl rfl (Nat.le_of_eq rfl) (by decide) (by decide) 343 (hb hby at_340) rfl (fun v T h56 Lc X eT q => ?_)
    obtain ⟨rfl, N', e'⟩ := q
    replace N := Fr.app N N'
    replace eT := eT.trans e'
    show Wout p e below _ T (mkF m 343 #[.val (.long xx), .second, .val (.int p2), .val (.int p3), .val (.int (1 : Int32)), .val (.int f), .val (.ref b1)] [(.int (1 : Int32))])
    refine o_ifF X hx 346 (hb hby at_343) rfl (by decide : ¬ (1 : Int32) = (0 : Int32)) ?_
    refine o_aload X hx 348 (hb hby at_346) rfl rfl rfl ?_
    refine o_iload X hx 350 (hb hby at_348) rfl rfl ?_
    refine o_lloadN X hx 351 (hb hby at_350) rfl rfl ?_
    refine o_iload X hx 353 (hb hby at_351) rfl rfl ?_
    refine o_bipush X hx 355 (13 : Int32) (hb hby at_353) rfl rfl ?_
    refine o_callS X hx hZ hown (hw _ (List.mem_of_getElem? (i := 7) rfl)) (hw _ (List.mem_of_getElem? (i := 8) rfl)) (hw _ (List.mem_of_getElem? (i := 9) rfl)) (hw _ (List.mem_of_getElem? (i := 10) rfl)) (by decide) (rm_okH l Z a0 hw [] b1 k1 [(.int (nar .byte f)), (.int (nar .byte (own_hex (own_d xx (60 : Int32))))), (.int (nar .byte (own_hex (own_d xx (56 : Int32))))), (.int (nar .byte (own_hex (own_d xx (52 : Int32))))), (.int (nar .byte (own_hex (own_d xx (48 : Int32))))), (.int (nar .byte (own_hex (own_d xx (44 : Int32))))), (.int (nar .byte (own_hex (own_d xx (40 : Int32))))), (.int (nar .byte (own_hex (own_d xx (36 : Int32))))), (.int (nar .byte (own_hex (own_d xx (32 : Int32))))), (.int (nar .byte (own_hex (own_d xx (28 : Int32))))), (.int (nar .byte (own_hex (own_d xx (24 : Int32))))), (.int (nar .byte (own_hex (own_d xx (20 : Int32))))), (.int (nar .byte (own_hex (own_d xx (16 : Int32))))), (.int (nar .byte (own_hex (own_d xx (12 : Int32))))), (.int (nar .byte (own_hex (own_d xx (8 : Int32))))), (.int (nar .byte (own_hex (own_d xx (4 : Int32))))), (.int (nar .byte (own_hex (own_d xx (0 : Int32))))), (.int (nar .byte (45 : Int32))), (.int (nar .byte f)), (.int (nar .byte f))] xx (1 : Int32) f (13 : Int32) (nar .byte (own_hex (own_d xx (12 : Int32)))) _ n0 Z0 V_b1 (by decide) rfl (by decide) (by decide) (own_e12 xx)) eT (by decide) 0 (by decide) (by rw [hml]; rfl) [(.ref b1), (.int (1 : Int32)), (.long xx), (.int f), (.int (13 : Int32))] (rest := []) (lenOf pd_2 rfl) rfl rfl (Nat.le_of_eq rfl) (by decide) (by decide) 358 (hb hby at_355) rfl (fun v T h57 Lc X eT q => ?_)
    obtain ⟨rfl, N', e'⟩ := q
    replace N := Fr.app N N'
    replace eT := eT.trans e'
    show Wout p e below _ T (mkF m 358 #[.val (.long xx), .second, .val (.int p2), .val (.int p3), .val (.int (1 : Int32)), .val (.int f), .val (.ref b1)] [(.int (1 : Int32))])
    refine o_ifF X hx 361 (hb hby at_358) rfl (by decide : ¬ (1 : Int32) = (0 : Int32)) ?_
    refine o_aload X hx 363 (hb hby at_361) rfl rfl rfl ?_
    refine o_iload X hx 365 (hb hby at_363) rfl rfl ?_
    refine o_lloadN X hx 366 (hb hby at_365) rfl rfl ?_
    refine o_iload X hx 368 (hb hby at_366) rfl rfl ?_
    refine o_bipush X hx 370 (14 : Int32) (hb hby at_368) rfl rfl ?_
    refine o_callS X hx hZ hown (hw _ (List.mem_of_getElem? (i := 7) rfl)) (hw _ (List.mem_of_getElem? (i := 8) rfl)) (hw _ (List.mem_of_getElem? (i := 9) rfl)) (hw _ (List.mem_of_getElem? (i := 10) rfl)) (by decide) (rm_okH l Z a0 hw [] b1 k1 [(.int (nar .byte f)), (.int (nar .byte (own_hex (own_d xx (60 : Int32))))), (.int (nar .byte (own_hex (own_d xx (56 : Int32))))), (.int (nar .byte (own_hex (own_d xx (52 : Int32))))), (.int (nar .byte (own_hex (own_d xx (48 : Int32))))), (.int (nar .byte (own_hex (own_d xx (44 : Int32))))), (.int (nar .byte (own_hex (own_d xx (40 : Int32))))), (.int (nar .byte (own_hex (own_d xx (36 : Int32))))), (.int (nar .byte (own_hex (own_d xx (32 : Int32))))), (.int (nar .byte (own_hex (own_d xx (28 : Int32))))), (.int (nar .byte (own_hex (own_d xx (24 : Int32))))), (.int (nar .byte (own_hex (own_d xx (20 : Int32))))), (.int (nar .byte (own_hex (own_d xx (16 : Int32))))), (.int (nar .byte (own_hex (own_d xx (12 : Int32))))), (.int (nar .byte (own_hex (own_d xx (8 : Int32))))), (.int (nar .byte (own_hex (own_d xx (4 : Int32))))), (.int (nar .byte (own_hex (own_d xx (0 : Int32))))), (.int (nar .byte (45 : Int32))), (.int (nar .byte f)), (.int (nar .byte f))] xx (1 : Int32) f (14 : Int32) (nar .byte (own_hex (own_d xx (8 : Int32)))) _ n0 Z0 V_b1 (by decide) rfl (by decide) (by decide) (own_e13 xx)) eT (by decide) 0 (by decide) (by rw [hml]; rfl) [(.ref b1), (.int (1 : Int32)), (.long xx), (.int f), (.int (14 : Int32))] (rest := []) (lenOf pd_2 rfl) rfl rfl (Nat.le_of_eq rfl) (by decide) (by decide) 373 (hb hby at_370) rfl (fun v T h58 Lc X eT q => ?_)
    obtain ⟨rfl, N', e'⟩ := q
    replace N := Fr.app N N'
    replace eT := eT.trans e'
    show Wout p e below _ T (mkF m 373 #[.val (.long xx), .second, .val (.int p2), .val (.int p3), .val (.int (1 : Int32)), .val (.int f), .val (.ref b1)] [(.int (1 : Int32))])
    refine o_ifF X hx 376 (hb hby at_373) rfl (by decide : ¬ (1 : Int32) = (0 : Int32)) ?_
    refine o_aload X hx 378 (hb hby at_376) rfl rfl rfl ?_
    refine o_iload X hx 380 (hb hby at_378) rfl rfl ?_
    refine o_lloadN X hx 381 (hb hby at_380) rfl rfl ?_
    refine o_iload X hx 383 (hb hby at_381) rfl rfl ?_
    refine o_bipush X hx 385 (15 : Int32) (hb hby at_383) rfl rfl ?_
    refine o_callS X hx hZ hown (hw _ (List.mem_of_getElem? (i := 7) rfl)) (hw _ (List.mem_of_getElem? (i := 8) rfl)) (hw _ (List.mem_of_getElem? (i := 9) rfl)) (hw _ (List.mem_of_getElem? (i := 10) rfl)) (by decide) (rm_okH l Z a0 hw [] b1 k1 [(.int (nar .byte f)), (.int (nar .byte (own_hex (own_d xx (60 : Int32))))), (.int (nar .byte (own_hex (own_d xx (56 : Int32))))), (.int (nar .byte (own_hex (own_d xx (52 : Int32))))), (.int (nar .byte (own_hex (own_d xx (48 : Int32))))), (.int (nar .byte (own_hex (own_d xx (44 : Int32))))), (.int (nar .byte (own_hex (own_d xx (40 : Int32))))), (.int (nar .byte (own_hex (own_d xx (36 : Int32))))), (.int (nar .byte (own_hex (own_d xx (32 : Int32))))), (.int (nar .byte (own_hex (own_d xx (28 : Int32))))), (.int (nar .byte (own_hex (own_d xx (24 : Int32))))), (.int (nar .byte (own_hex (own_d xx (20 : Int32))))), (.int (nar .byte (own_hex (own_d xx (16 : Int32))))), (.int (nar .byte (own_hex (own_d xx (12 : Int32))))), (.int (nar .byte (own_hex (own_d xx (8 : Int32))))), (.int (nar .byte (own_hex (own_d xx (4 : Int32))))), (.int (nar .byte (own_hex (own_d xx (0 : Int32))))), (.int (nar .byte (45 : Int32))), (.int (nar .byte f)), (.int (nar .byte f))] xx (1 : Int32) f (15 : Int32) (nar .byte (own_hex (own_d xx (4 : Int32)))) _ n0 Z0 V_b1 (by decide) rfl (by decide) (by decide) (own_e14 xx)) eT (by decide) 0 (by decide) (by rw [hml]; rfl) [(.ref b1), (.int (1 : Int32)), (.long xx), (.int f), (.int (15 : Int32))] (rest := []) (lenOf pd_2 rfl) rfl rfl (Nat.le_of_eq rfl) (by decide) (by decide) 388 (hb hby at_385) rfl (fun v T h59 Lc X eT q => ?_)
    obtain ⟨rfl, N', e'⟩ := q
    replace N := Fr.app N N'
    replace eT := eT.trans e'
    show Wout p e below _ T (mkF m 388 #[.val (.long xx), .second, .val (.int p2), .val (.int p3), .val (.int (1 : Int32)), .val (.int f), .val (.ref b1)] [(.int (1 : Int32))])
    refine o_ifF X hx 391 (hb hby at_388) rfl (by decide : ¬ (1 : Int32) = (0 : Int32)) ?_
    refine o_aload X hx 393 (hb hby at_391) rfl rfl rfl ?_
    refine o_iload X hx 395 (hb hby at_393) rfl rfl ?_
    refine o_lloadN X hx 396 (hb hby at_395) rfl rfl ?_
    refine o_iload X hx 398 (hb hby at_396) rfl rfl ?_
    refine o_bipush X hx 400 (16 : Int32) (hb hby at_398) rfl rfl ?_
    refine o_callS X hx hZ hown (hw _ (List.mem_of_getElem? (i := 7) rfl)) (hw _ (List.mem_of_getElem? (i := 8) rfl)) (hw _ (List.mem_of_getElem? (i := 9) rfl)) (hw _ (List.mem_of_getElem? (i := 10) rfl)) (by decide) (rm_okH l Z a0 hw [] b1 k1 [(.int (nar .byte f)), (.int (nar .byte (own_hex (own_d xx (60 : Int32))))), (.int (nar .byte (own_hex (own_d xx (56 : Int32))))), (.int (nar .byte (own_hex (own_d xx (52 : Int32))))), (.int (nar .byte (own_hex (own_d xx (48 : Int32))))), (.int (nar .byte (own_hex (own_d xx (44 : Int32))))), (.int (nar .byte (own_hex (own_d xx (40 : Int32))))), (.int (nar .byte (own_hex (own_d xx (36 : Int32))))), (.int (nar .byte (own_hex (own_d xx (32 : Int32))))), (.int (nar .byte (own_hex (own_d xx (28 : Int32))))), (.int (nar .byte (own_hex (own_d xx (24 : Int32))))), (.int (nar .byte (own_hex (own_d xx (20 : Int32))))), (.int (nar .byte (own_hex (own_d xx (16 : Int32))))), (.int (nar .byte (own_hex (own_d xx (12 : Int32))))), (.int (nar .byte (own_hex (own_d xx (8 : Int32))))), (.int (nar .byte (own_hex (own_d xx (4 : Int32))))), (.int (nar .byte (own_hex (own_d xx (0 : Int32))))), (.int (nar .byte (45 : Int32))), (.int (nar .byte f)), (.int (nar .byte f))] xx (1 : Int32) f (16 : Int32) (nar .byte (own_hex (own_d xx (0 : Int32)))) _ n0 Z0 V_b1 (by decide) rfl (by decide) (by decide) (own_e15 xx)) eT (by decide) 0 (by decide) (by rw [hml]; rfl) [(.ref b1), (.int (1 : Int32)), (.long xx), (.int f), (.int (16 : Int32))] (rest := []) (lenOf pd_2 rfl) rfl rfl (Nat.le_of_eq rfl) (by decide) (by decide) 403 (hb hby at_400) rfl (fun v T h60 Lc X eT q => ?_)
    obtain ⟨rfl, N', e'⟩ := q
    replace N := Fr.app N N'
    replace eT := eT.trans e'
    show Wout p e below _ T (mkF m 403 #[.val (.long xx), .second, .val (.int p2), .val (.int p3), .val (.int (1 : Int32)), .val (.int f), .val (.ref b1)] [(.int (1 : Int32))])
    refine o_ifF X hx 406 (hb hby at_403) rfl (by decide : ¬ (1 : Int32) = (0 : Int32)) ?_
    refine o_aload X hx 408 (hb hby at_406) rfl rfl rfl ?_
    refine o_iload X hx 410 (hb hby at_408) rfl rfl ?_
    refine o_lloadN X hx 411 (hb hby at_410) rfl rfl ?_
    refine o_iload X hx 413 (hb hby at_411) rfl rfl ?_
    refine o_bipush X hx 415 (17 : Int32) (hb hby at_413) rfl rfl ?_
    refine o_callS X hx hZ hown (hw _ (List.mem_of_getElem? (i := 7) rfl)) (hw _ (List.mem_of_getElem? (i := 8) rfl)) (hw _ (List.mem_of_getElem? (i := 9) rfl)) (hw _ (List.mem_of_getElem? (i := 10) rfl)) (by decide) (rm_okD l Z a0 hw [] b1 k1 [(.int (nar .byte f)), (.int (nar .byte (own_hex (own_d xx (60 : Int32))))), (.int (nar .byte (own_hex (own_d xx (56 : Int32))))), (.int (nar .byte (own_hex (own_d xx (52 : Int32))))), (.int (nar .byte (own_hex (own_d xx (48 : Int32))))), (.int (nar .byte (own_hex (own_d xx (44 : Int32))))), (.int (nar .byte (own_hex (own_d xx (40 : Int32))))), (.int (nar .byte (own_hex (own_d xx (36 : Int32))))), (.int (nar .byte (own_hex (own_d xx (32 : Int32))))), (.int (nar .byte (own_hex (own_d xx (28 : Int32))))), (.int (nar .byte (own_hex (own_d xx (24 : Int32))))), (.int (nar .byte (own_hex (own_d xx (20 : Int32))))), (.int (nar .byte (own_hex (own_d xx (16 : Int32))))), (.int (nar .byte (own_hex (own_d xx (12 : Int32))))), (.int (nar .byte (own_hex (own_d xx (8 : Int32))))), (.int (nar .byte (own_hex (own_d xx (4 : Int32))))), (.int (nar .byte (own_hex (own_d xx (0 : Int32))))), (.int (nar .byte (45 : Int32))), (.int (nar .byte f)), (.int (nar .byte f))] xx (1 : Int32) f (17 : Int32) (nar .byte (45 : Int32)) _ n0 Z0 V_b1 (by decide) rfl (by decide) (by decide) (by decide) (by decide)) eT (by decide) 0 (by decide) (by rw [hml]; rfl) [(.ref b1), (.int (1 : Int32)), (.long xx), (.int f), (.int (17 : Int32))] (rest := []) (lenOf pd_2 rfl) rfl rfl (Nat.le_of_eq rfl) (by decide) (by decide) 418 (hb hby at_415) rfl (fun v T h61 Lc X eT q => ?_)
    obtain ⟨rfl, N', e'⟩ := q
    replace N := Fr.app N N'
    replace eT := eT.trans e'
    show Wout p e below _ T (mkF m 418 #[.val (.long xx), .second, .val (.int p2), .val (.int p3), .val (.int (1 : Int32)), .val (.int f), .val (.ref b1)] [(.int (1 : Int32))])
    refine o_ifF X hx 421 (hb hby at_418) rfl (by decide : ¬ (1 : Int32) = (0 : Int32)) ?_
    refine o_aload X hx 423 (hb hby at_421) rfl rfl rfl ?_
    refine o_iload X hx 425 (hb hby at_423) rfl rfl ?_
    refine o_lloadN X hx 426 (hb hby at_425) rfl rfl ?_
    refine o_iload X hx 428 (hb hby at_426) rfl rfl ?_
    refine o_bipush X hx 430 (18 : Int32) (hb hby at_428) rfl rfl ?_
    refine o_callS X hx hZ hown (hw _ (List.mem_of_getElem? (i := 7) rfl)) (hw _ (List.mem_of_getElem? (i := 8) rfl)) (hw _ (List.mem_of_getElem? (i := 9) rfl)) (hw _ (List.mem_of_getElem? (i := 10) rfl)) (by decide) (rm_okB l Z a0 hw [] b1 k1 [(.int (nar .byte f)), (.int (nar .byte (own_hex (own_d xx (60 : Int32))))), (.int (nar .byte (own_hex (own_d xx (56 : Int32))))), (.int (nar .byte (own_hex (own_d xx (52 : Int32))))), (.int (nar .byte (own_hex (own_d xx (48 : Int32))))), (.int (nar .byte (own_hex (own_d xx (44 : Int32))))), (.int (nar .byte (own_hex (own_d xx (40 : Int32))))), (.int (nar .byte (own_hex (own_d xx (36 : Int32))))), (.int (nar .byte (own_hex (own_d xx (32 : Int32))))), (.int (nar .byte (own_hex (own_d xx (28 : Int32))))), (.int (nar .byte (own_hex (own_d xx (24 : Int32))))), (.int (nar .byte (own_hex (own_d xx (20 : Int32))))), (.int (nar .byte (own_hex (own_d xx (16 : Int32))))), (.int (nar .byte (own_hex (own_d xx (12 : Int32))))), (.int (nar .byte (own_hex (own_d xx (8 : Int32))))), (.int (nar .byte (own_hex (own_d xx (4 : Int32))))), (.int (nar .byte (own_hex (own_d xx (0 : Int32))))), (.int (nar .byte (45 : Int32))), (.int (nar .byte f)), (.int (nar .byte f))] xx (1 : Int32) f (18 : Int32) (nar .byte f) _ n0 Z0 V_b1 (by decide) rfl (by decide) (by decide) (by decide) hf) eT (by decide) 0 (by decide) (by rw [hml]; rfl) [(.ref b1), (.int (1 : Int32)), (.long xx), (.int f), (.int (18 : Int32))] (rest := []) (lenOf pd_2 rfl) rfl rfl (Nat.le_of_eq rfl) (by decide) (by decide) 433 (hb hby at_430) rfl (fun v T h62 Lc X eT q => ?_)
    obtain ⟨rfl, N', e'⟩ := q
    replace N := Fr.app N N'
    replace eT := eT.trans e'
    show Wout p e below _ T (mkF m 433 #[.val (.long xx), .second, .val (.int p2), .val (.int p3), .val (.int (1 : Int32)), .val (.int f), .val (.ref b1)] [(.int (1 : Int32))])
    refine o_ifF X hx 436 (hb hby at_433) rfl (by decide : ¬ (1 : Int32) = (0 : Int32)) ?_
    refine o_aload X hx 438 (hb hby at_436) rfl rfl rfl ?_
    refine o_iload X hx 440 (hb hby at_438) rfl rfl ?_
    refine o_lloadN X hx 441 (hb hby at_440) rfl rfl ?_
    refine o_iload X hx 443 (hb hby at_441) rfl rfl ?_
    refine o_bipush X hx 445 (19 : Int32) (hb hby at_443) rfl rfl ?_
    refine o_callS X hx hZ hown (hw _ (List.mem_of_getElem? (i := 7) rfl)) (hw _ (List.mem_of_getElem? (i := 8) rfl)) (hw _ (List.mem_of_getElem? (i := 9) rfl)) (hw _ (List.mem_of_getElem? (i := 10) rfl)) (by decide) (rm_okB l Z a0 hw [] b1 k1 [(.int (nar .byte f)), (.int (nar .byte (own_hex (own_d xx (60 : Int32))))), (.int (nar .byte (own_hex (own_d xx (56 : Int32))))), (.int (nar .byte (own_hex (own_d xx (52 : Int32))))), (.int (nar .byte (own_hex (own_d xx (48 : Int32))))), (.int (nar .byte (own_hex (own_d xx (44 : Int32))))), (.int (nar .byte (own_hex (own_d xx (40 : Int32))))), (.int (nar .byte (own_hex (own_d xx (36 : Int32))))), (.int (nar .byte (own_hex (own_d xx (32 : Int32))))), (.int (nar .byte (own_hex (own_d xx (28 : Int32))))), (.int (nar .byte (own_hex (own_d xx (24 : Int32))))), (.int (nar .byte (own_hex (own_d xx (20 : Int32))))), (.int (nar .byte (own_hex (own_d xx (16 : Int32))))), (.int (nar .byte (own_hex (own_d xx (12 : Int32))))), (.int (nar .byte (own_hex (own_d xx (8 : Int32))))), (.int (nar .byte (own_hex (own_d xx (4 : Int32))))), (.int (nar .byte (own_hex (own_d xx (0 : Int32))))), (.int (nar .byte (45 : Int32))), (.int (nar .byte f)), (.int (nar .byte f))] xx (1 : Int32) f (19 : Int32) (nar .byte f) _ n0 Z0 V_b1 (by decide) rfl (by decide) (by decide) (by decide) hf) eT (by decide) 0 (by decide) (by rw [hml]; rfl) [(.ref b1), (.int (1 : Int32)), (.long xx), (.int f), (.int (19 : Int32))] (rest := []) (lenOf pd_2 rfl) rfl rfl (Nat.le_of_eq rfl) (by decide) (by decide) 448 (hb hby at_445) rfl (fun v T h63 Lc X eT q => ?_)
    obtain ⟨rfl, N', e'⟩ := q
    replace N := Fr.app N N'
    replace eT := eT.trans e'
    show Wout p e below _ T (mkF m 448 #[.val (.long xx), .second, .val (.int p2), .val (.int p3), .val (.int (1 : Int32)), .val (.int f), .val (.ref b1)] [(.int (1 : Int32))])
    refine o_ifF X hx 451 (hb hby at_448) rfl (by decide : ¬ (1 : Int32) = (0 : Int32)) ?_
    refine o_iconst X hx 452 (1 : Int32) (hb hby at_451) rfl rfl ?_
    refine o_goto X hx 456 (hb hby at_452) rfl ?_
    exact o_retI X hx hlk hret rfl (by simp) (hb hby at_456) (by decide) (by decide) (by rw [eT]; exact ⟨rfl, N, trivial⟩)
  · show Wout p e below _ T (mkF m 154 #[.val (.long xx), .second, .val (.int p2), .val (.int p3), .val (.int (2 : Int32)), .val (.int f), .val (.ref b1)] [(.long xx), (.int (2 : Int32)), (.ref b1)])
    refine o_callS X hx hZ hown (hw _ (List.mem_of_getElem? (i := 1) rfl)) (hw _ (List.mem_of_getElem? (i := 2) rfl)) (hw _ (List.mem_of_getElem? (i := 3) rfl)) (hw _ (List.mem_of_getElem? (i := 4) rfl)) (by decide) (rm_wl2 l Z a0 hw [] b1 hxa k1 kh xx (nar .byte f) _ n0 Z0 O SH VH V_b1 g_b1) eT (by decide) 0 (by decide) (by rw [hml]; rfl) [(.ref b1), (.int (2 : Int32)), (.long xx)] (rest := []) (lenOf pd_1 rfl) rfl rfl (Nat.le_of_eq rfl) (by decide) (by decide) 157 (hb hby at_154) rfl (fun v T h64 Lc X eT q => ?_)
    obtain ⟨rfl, N', K1, V1⟩ := q
    replace N := Fr.app N N'
    replace Z0 := Nat.le_trans Z0 K1.1
    replace O := O.keep K1 (allS (P := fun x => n0 ≤ x) g_b1 all0)
    replace V_b1 := V1
    show Wout p e below _ T (mkF m 157 #[.val (.long xx), .second, .val (.int p2), .val (.int p3), .val (.int (2 : Int32)), .val (.int f), .val (.ref b1)] [])
    refine o_aload X hx 159 (hb hby at_157) rfl rfl rfl ?_
    refine o_iload X hx 161 (hb hby at_159) rfl rfl ?_
    refine o_lloadN X hx 162 (hb hby at_161) rfl rfl ?_
    refine o_iload X hx 164 (hb hby at_162) rfl rfl ?_
    refine o_iconst X hx 165 (0 : Int32) (hb hby at_164) rfl rfl ?_
    refine o_callS X hx hZ hown (hw _ (List.mem_of_getElem? (i := 7) rfl)) (hw _ (List.mem_of_getElem? (i := 8) rfl)) (hw _ (List.mem_of_getElem? (i := 9) rfl)) (hw _ (List.mem_of_getElem? (i := 10) rfl)) (by decide) (rm_okA l Z a0 hw [] b1 k1 [(.int (nar .byte f)), (.int (nar .byte f)), (.int (nar .byte (own_hex (own_d xx (60 : Int32))))), (.int (nar .byte (own_hex (own_d xx (56 : Int32))))), (.int (nar .byte (own_hex (own_d xx (52 : Int32))))), (.int (nar .byte (own_hex (own_d xx (48 : Int32))))), (.int (nar .byte (own_hex (own_d xx (44 : Int32))))), (.int (nar .byte (own_hex (own_d xx (40 : Int32))))), (.int (nar .byte (own_hex (own_d xx (36 : Int32))))), (.int (nar .byte (own_hex (own_d xx (32 : Int32))))), (.int (nar .byte (own_hex (own_d xx (28 : Int32))))), (.int (nar .byte (own_hex (own_d xx (24 : Int32))))), (.int (nar .byte (own_hex (own_d xx (20 : Int32))))), (.int (nar .byte (own_hex (own_d xx (16 : Int32))))), (.int (nar .byte (own_hex (own_d xx (12 : Int32))))), (.int (nar .byte (own_hex (own_d xx (8 : Int32))))), (.int (nar .byte (own_hex (own_d xx (4 : Int32))))), (.int (nar .byte (own_hex (own_d xx (0 : Int32))))), (.int (nar .byte (45 : Int32))), (.int (nar .byte f))] xx (2 : Int32) f (0 : Int32) (nar .byte f) _ n0 Z0 V_b1 (by decide) rfl (by decide) hf) eT (by decide) 0 (by decide) (by rw [hml]; rfl) [(.ref b1), (.int (2 : Int32)), (.long xx), (.int f), (.int (0 : Int32))] (rest := []) (lenOf pd_2 rfl) rfl rfl (Nat.le_of_eq rfl) (by decide) (by decide) 168 (hb hby at_165) rfl (fun v T h65 Lc X eT q => ?_)
    obtain ⟨rfl, N', e'⟩ := q
    replace N := Fr.app N N'
    replace eT := eT.trans e'
    show Wout p e below _ T (mkF m 168 #[.val (.long xx), .second, .val (.int p2), .val (.int p3), .val (.int (2 : Int32)), .val (.int f), .val (.ref b1)] [(.int (1 : Int32))])
    refine o_ifF X hx 171 (hb hby at_168) rfl (by decide : ¬ (1 : Int32) = (0 : Int32)) ?_
    refine o_aload X hx 173 (hb hby at_171) rfl rfl rfl ?_
    refine o_iload X hx 175 (hb hby at_173) rfl rfl ?_
    refine o_lloadN X hx 176 (hb hby at_175) rfl rfl ?_
    refine o_iload X hx 178 (hb hby at_176) rfl rfl ?_
    refine o_iconst X hx 179 (1 : Int32) (hb hby at_178) rfl rfl ?_
    refine o_callS X hx hZ hown (hw _ (List.mem_of_getElem? (i := 7) rfl)) (hw _ (List.mem_of_getElem? (i := 8) rfl)) (hw _ (List.mem_of_getElem? (i := 9) rfl)) (hw _ (List.mem_of_getElem? (i := 10) rfl)) (by decide) (rm_okA l Z a0 hw [] b1 k1 [(.int (nar .byte f)), (.int (nar .byte f)), (.int (nar .byte (own_hex (own_d xx (60 : Int32))))), (.int (nar .byte (own_hex (own_d xx (56 : Int32))))), (.int (nar .byte (own_hex (own_d xx (52 : Int32))))), (.int (nar .byte (own_hex (own_d xx (48 : Int32))))), (.int (nar .byte (own_hex (own_d xx (44 : Int32))))), (.int (nar .byte (own_hex (own_d xx (40 : Int32))))), (.int (nar .byte (own_hex (own_d xx (36 : Int32))))), (.int (nar .byte (own_hex (own_d xx (32 : Int32))))), (.int (nar .byte (own_hex (own_d xx (28 : Int32))))), (.int (nar .byte (own_hex (own_d xx (24 : Int32))))), (.int (nar .byte (own_hex (own_d xx (20 : Int32))))), (.int (nar .byte (own_hex (own_d xx (16 : Int32))))), (.int (nar .byte (own_hex (own_d xx (12 : Int32))))), (.int (nar .byte (own_hex (own_d xx (8 : Int32))))), (.int (nar .byte (own_hex (own_d xx (4 : Int32))))), (.int (nar .byte (own_hex (own_d xx (0 : Int32))))), (.int (nar .byte (45 : Int32))), (.int (nar .byte f))] xx (2 : Int32) f (1 : Int32) (nar .byte f) _ n0 Z0 V_b1 (by decide) rfl (by decide) hf) eT (by decide) 0 (by decide) (by rw [hml]; rfl) [(.ref b1), (.int (2 : Int32)), (.long xx), (.int f), (.int (1 : Int32))] (rest := []) (lenOf pd_2 rfl) rfl rfl (Nat.le_of_eq rfl) (by decide) (by decide) 182 (hb hby at_179) rfl (fun v T h66 Lc X eT q => ?_)
    obtain ⟨rfl, N', e'⟩ := q
    replace N := Fr.app N N'
    replace eT := eT.trans e'
    show Wout p e below _ T (mkF m 182 #[.val (.long xx), .second, .val (.int p2), .val (.int p3), .val (.int (2 : Int32)), .val (.int f), .val (.ref b1)] [(.int (1 : Int32))])
    refine o_ifF X hx 185 (hb hby at_182) rfl (by decide : ¬ (1 : Int32) = (0 : Int32)) ?_
    refine o_aload X hx 187 (hb hby at_185) rfl rfl rfl ?_
    refine o_iload X hx 189 (hb hby at_187) rfl rfl ?_
    refine o_lloadN X hx 190 (hb hby at_189) rfl rfl ?_
    refine o_iload X hx 192 (hb hby at_190) rfl rfl ?_
    refine o_iconst X hx 193 (2 : Int32) (hb hby at_192) rfl rfl ?_
    refine o_callS X hx hZ hown (hw _ (List.mem_of_getElem? (i := 7) rfl)) (hw _ (List.mem_of_getElem? (i := 8) rfl)) (hw _ (List.mem_of_getElem? (i := 9) rfl)) (hw _ (List.mem_of_getElem? (i := 10) rfl)) (by decide) (rm_okH l Z a0 hw [] b1 k1 [(.int (nar .byte f)), (.int (nar .byte f)), (.int (nar .byte (own_hex (own_d xx (60 : Int32))))), (.int (nar .byte (own_hex (own_d xx (56 : Int32))))), (.int (nar .byte (own_hex (own_d xx (52 : Int32))))), (.int (nar .byte (own_hex (own_d xx (48 : Int32))))), (.int (nar .byte (own_hex (own_d xx (44 : Int32))))), (.int (nar .byte (own_hex (own_d xx (40 : Int32))))), (.int (nar .byte (own_hex (own_d xx (36 : Int32))))), (.int (nar .byte (own_hex (own_d xx (32 : Int32))))), (.int (nar .byte (own_hex (own_d xx (28 : Int32))))), (.int (nar .byte (own_hex (own_d xx (24 : Int32))))), (.int (nar .byte (own_hex (own_d xx (20 : Int32))))), (.int (nar .byte (own_hex (own_d xx (16 : Int32))))), (.int (nar .byte (own_hex (own_d xx (12 : Int32))))), (.int (nar .byte (own_hex (own_d xx (8 : Int32))))), (.int (nar .byte (own_hex (own_d xx (4 : Int32))))), (.int (nar .byte (own_hex (own_d xx (0 : Int32))))), (.int (nar .byte (45 : Int32))), (.int (nar .byte f))] xx (2 : Int32) f (2 : Int32) (nar .byte (own_hex (own_d xx (60 : Int32)))) _ n0 Z0 V_b1 (by decide) rfl (by decide) (by decide) (own_e0 xx)) eT (by decide) 0 (by decide) (by rw [hml]; rfl) [(.ref b1), (.int (2 : Int32)), (.long xx), (.int f), (.int (2 : Int32))] (rest := []) (lenOf pd_2 rfl) rfl rfl (Nat.le_of_eq rfl) (by decide) (by decide) 196 (hb hby at_193) rfl (fun v T h67 Lc X eT q => ?_)
    obtain ⟨rfl, N', e'⟩ := q
    replace N := Fr.app N N'
    replace eT := eT.trans e'
    show Wout p e below _ T (mkF m 196 #[.val (.long xx), .second, .val (.int p2), .val (.int p3), .val (.int (2 : Int32)), .val (.int f), .val (.ref b1)] [(.int (1 : Int32))])
    refine o_ifF X hx 199 (hb hby at_196) rfl (by decide : ¬ (1 : Int32) = (0 : Int32)) ?_
    refine o_aload X hx 201 (hb hby at_199) rfl rfl rfl ?_
    refine o_iload X hx 203 (hb hby at_201) rfl rfl ?_
    refine o_lloadN X hx 204 (hb hby at_203) rfl rfl ?_
    refine o_iload X hx 206 (hb hby at_204) rfl rfl ?_
    refine o_iconst X hx 207 (3 : Int32) (hb hby at_206) rfl rfl ?_
    refine o_callS X hx hZ hown (hw _ (List.mem_of_getElem? (i := 7) rfl)) (hw _ (List.mem_of_getElem? (i := 8) rfl)) (hw _ (List.mem_of_getElem? (i := 9) rfl)) (hw _ (List.mem_of_getElem? (i := 10) rfl)) (by decide) (rm_okH l Z a0 hw [] b1 k1 [(.int (nar .byte f)), (.int (nar .byte f)), (.int (nar .byte (own_hex (own_d xx (60 : Int32))))), (.int (nar .byte (own_hex (own_d xx (56 : Int32))))), (.int (nar .byte (own_hex (own_d xx (52 : Int32))))), (.int (nar .byte (own_hex (own_d xx (48 : Int32))))), (.int (nar .byte (own_hex (own_d xx (44 : Int32))))), (.int (nar .byte (own_hex (own_d xx (40 : Int32))))), (.int (nar .byte (own_hex (own_d xx (36 : Int32))))), (.int (nar .byte (own_hex (own_d xx (32 : Int32))))), (.int (nar .byte (own_hex (own_d xx (28 : Int32))))), (.int (nar .byte (own_hex (own_d xx (24 : Int32))))), (.int (nar .byte (own_hex (own_d xx (20 : Int32))))), (.int (nar .byte (own_hex (own_d xx (16 : Int32))))), (.int (nar .byte (own_hex (own_d xx (12 : Int32))))), (.int (nar .byte (own_hex (own_d xx (8 : Int32))))), (.int (nar .byte (own_hex (own_d xx (4 : Int32))))), (.int (nar .byte (own_hex (own_d xx (0 : Int32))))), (.int (nar .byte (45 : Int32))), (.int (nar .byte f))] xx (2 : Int32) f (3 : Int32) (nar .byte (own_hex (own_d xx (56 : Int32)))) _ n0 Z0 V_b1 (by decide) rfl (by decide) (by decide) (own_e1 xx)) eT (by decide) 0 (by decide) (by rw [hml]; rfl) [(.ref b1), (.int (2 : Int32)), (.long xx), (.int f), (.int (3 : Int32))] (rest := []) (lenOf pd_2 rfl) rfl rfl (Nat.le_of_eq rfl) (by decide) (by decide) 210 (hb hby at_207) rfl (fun v T h68 Lc X eT q => ?_)
    obtain ⟨rfl, N', e'⟩ := q
    replace N := Fr.app N N'
    replace eT := eT.trans e'
    show Wout p e below _ T (mkF m 210 #[.val (.long xx), .second, .val (.int p2), .val (.int p3), .val (.int (2 : Int32)), .val (.int f), .val (.ref b1)] [(.int (1 : Int32))])
    refine o_ifF X hx 213 (hb hby at_210) rfl (by decide : ¬ (1 : Int32) = (0 : Int32)) ?_
    refine o_aload X hx 215 (hb hby at_213) rfl rfl rfl ?_
    refine o_iload X hx 217 (hb hby at_215) rfl rfl ?_
    refine o_lloadN X hx 218 (hb hby at_217) rfl rfl ?_
    refine o_iload X hx 220 (hb hby at_218) rfl rfl ?_
    refine o_iconst X hx 221 (4 : Int32) (hb hby at_220) rfl rfl ?_
    refine o_callS X hx hZ hown (hw _ (List.mem_of_getElem? (i := 7) rfl)) (hw _ (List.mem_of_getElem? (i := 8) rfl)) (hw _ (List.mem_of_getElem? (i := 9) rfl)) (hw _ (List.mem_of_getElem? (i := 10) rfl)) (by decide) (rm_okH l Z a0 hw [] b1 k1 [(.int (nar .byte f)), (.int (nar .byte f)), (.int (nar .byte (own_hex (own_d xx (60 : Int32))))), (.int (nar .byte (own_hex (own_d xx (56 : Int32))))), (.int (nar .byte (own_hex (own_d xx (52 : Int32))))), (.int (nar .byte (own_hex (own_d xx (48 : Int32))))), (.int (nar .byte (own_hex (own_d xx (44 : Int32))))), (.int (nar .byte (own_hex (own_d xx (40 : Int32))))), (.int (nar .byte (own_hex (own_d xx (36 : Int32))))), (.int (nar .byte (own_hex (own_d xx (32 : Int32))))), (.int (nar .byte (own_hex (own_d xx (28 : Int32))))), (.int (nar .byte (own_hex (own_d xx (24 : Int32))))), (.int (nar .byte (own_hex (own_d xx (20 : Int32))))), (.int (nar .byte (own_hex (own_d xx (16 : Int32))))), (.int (nar .byte (own_hex (own_d xx (12 : Int32))))), (.int (nar .byte (own_hex (own_d xx (8 : Int32))))), (.int (nar .byte (own_hex (own_d xx (4 : Int32))))), (.int (nar .byte (own_hex (own_d xx (0 : Int32))))), (.int (nar .byte (45 : Int32))), (.int (nar .byte f))] xx (2 : Int32) f (4 : Int32) (nar .byte (own_hex (own_d xx (52 : Int32)))) _ n0 Z0 V_b1 (by decide) rfl (by decide) (by decide) (own_e2 xx)) eT (by decide) 0 (by decide) (by rw [hml]; rfl) [(.ref b1), (.int (2 : Int32)), (.long xx), (.int f), (.int (4 : Int32))] (rest := []) (lenOf pd_2 rfl) rfl rfl (Nat.le_of_eq rfl) (by decide) (by decide) 224 (hb hby at_221) rfl (fun v T h69 Lc X eT q => ?_)
    obtain ⟨rfl, N', e'⟩ := q
    replace N := Fr.app N N'
    replace eT := eT.trans e'
    show Wout p e below _ T (mkF m 224 #[.val (.long xx), .second, .val (.int p2), .val (.int p3), .val (.int (2 : Int32)), .val (.int f), .val (.ref b1)] [(.int (1 : Int32))])
    refine o_ifF X hx 227 (hb hby at_224) rfl (by decide : ¬ (1 : Int32) = (0 : Int32)) ?_
    refine o_aload X hx 229 (hb hby at_227) rfl rfl rfl ?_
    refine o_iload X hx 231 (hb hby at_229) rfl rfl ?_
    refine o_lloadN X hx 232 (hb hby at_231) rfl rfl ?_
    refine o_iload X hx 234 (hb hby at_232) rfl rfl ?_
    refine o_iconst X hx 235 (5 : Int32) (hb hby at_234) rfl rfl ?_
    refine o_callS X hx hZ hown (hw _ (List.mem_of_getElem? (i := 7) rfl)) (hw _ (List.mem_of_getElem? (i := 8) rfl)) (hw _ (List.mem_of_getElem? (i := 9) rfl)) (hw _ (List.mem_of_getElem? (i := 10) rfl)) (by decide) (rm_okH l Z a0 hw [] b1 k1 [(.int (nar .byte f)), (.int (nar .byte f)), (.int (nar .byte (own_hex (own_d xx (60 : Int32))))), (.int (nar .byte (own_hex (own_d xx (56 : Int32))))), (.int (nar .byte (own_hex (own_d xx (52 : Int32))))), (.int (nar .byte (own_hex (own_d xx (48 : Int32))))), (.int (nar .byte (own_hex (own_d xx (44 : Int32))))), (.int (nar .byte (own_hex (own_d xx (40 : Int32))))), (.int (nar .byte (own_hex (own_d xx (36 : Int32))))), (.int (nar .byte (own_hex (own_d xx (32 : Int32))))), (.int (nar .byte (own_hex (own_d xx (28 : Int32))))), (.int (nar .byte (own_hex (own_d xx (24 : Int32))))), (.int (nar .byte (own_hex (own_d xx (20 : Int32))))), (.int (nar .byte (own_hex (own_d xx (16 : Int32))))), (.int (nar .byte (own_hex (own_d xx (12 : Int32))))), (.int (nar .byte (own_hex (own_d xx (8 : Int32))))), (.int (nar .byte (own_hex (own_d xx (4 : Int32))))), (.int (nar .byte (own_hex (own_d xx (0 : Int32))))), (.int (nar .byte (45 : Int32))), (.int (nar .byte f))] xx (2 : Int32) f (5 : Int32) (nar .byte (own_hex (own_d xx (48 : Int32)))) _ n0 Z0 V_b1 (by decide) rfl (by decide) (by decide) (own_e3 xx)) eT (by decide) 0 (by decide) (by rw [hml]; rfl) [(.ref b1), (.int (2 : Int32)), (.long xx), (.int f), (.int (5 : Int32))] (rest := []) (lenOf pd_2 rfl) rfl rfl (Nat.le_of_eq rfl) (by decide) (by decide) 238 (hb hby at_235) rfl (fun v T h70 Lc X eT q => ?_)
    obtain ⟨rfl, N', e'⟩ := q
    replace N := Fr.app N N'
    replace eT := eT.trans e'
    show Wout p e below _ T (mkF m 238 #[.val (.long xx), .second, .val (.int p2), .val (.int p3), .val (.int (2 : Int32)), .val (.int f), .val (.ref b1)] [(.int (1 : Int32))])
    refine o_ifF X hx 241 (hb hby at_238) rfl (by decide : ¬ (1 : Int32) = (0 : Int32)) ?_
    refine o_aload X hx 243 (hb hby at_241) rfl rfl rfl ?_
    refine o_iload X hx 245 (hb hby at_243) rfl rfl ?_
    refine o_lloadN X hx 246 (hb hby at_245) rfl rfl ?_
    refine o_iload X hx 248 (hb hby at_246) rfl rfl ?_
    refine o_bipush X hx 250 (6 : Int32) (hb hby at_248) rfl rfl ?_
    refine o_callS X hx hZ hown (hw _ (List.mem_of_getElem? (i := 7) rfl)) (hw _ (List.mem_of_getElem? (i := 8) rfl)) (hw _ (List.mem_of_getElem? (i := 9) rfl)) (hw _ (List.mem_of_getElem? (i := 10) rfl)) (by decide) (rm_okH l Z a0 hw [] b1 k1 [(.int (nar .byte f)), (.int (nar .byte f)), (.int (nar .byte (own_hex (own_d xx (60 : Int32))))), (.int (nar .byte (own_hex (own_d xx (56 : Int32))))), (.int (nar .byte (own_hex (own_d xx (52 : Int32))))), (.int (nar .byte (own_hex (own_d xx (48 : Int32))))), (.int (nar .byte (own_hex (own_d xx (44 : Int32))))), (.int (nar .byte (own_hex (own_d xx (40 : Int32))))), (.int (nar .byte (own_hex (own_d xx (36 : Int32))))), (.int (nar .byte (own_hex (own_d xx (32 : Int32))))), (.int (nar .byte (own_hex (own_d xx (28 : Int32))))), (.int (nar .byte (own_hex (own_d xx (24 : Int32))))), (.int (nar .byte (own_hex (own_d xx (20 : Int32))))), (.int (nar .byte (own_hex (own_d xx (16 : Int32))))), (.int (nar .byte (own_hex (own_d xx (12 : Int32))))), (.int (nar .byte (own_hex (own_d xx (8 : Int32))))), (.int (nar .byte (own_hex (own_d xx (4 : Int32))))), (.int (nar .byte (own_hex (own_d xx (0 : Int32))))), (.int (nar .byte (45 : Int32))), (.int (nar .byte f))] xx (2 : Int32) f (6 : Int32) (nar .byte (own_hex (own_d xx (44 : Int32)))) _ n0 Z0 V_b1 (by decide) rfl (by decide) (by decide) (own_e4 xx)) eT (by decide) 0 (by decide) (by rw [hml]; rfl) [(.ref b1), (.int (2 : Int32)), (.long xx), (.int f), (.int (6 : Int32))] (rest := []) (lenOf pd_2 rfl) rfl rfl (Nat.le_of_eq rfl) (by decide) (by decide) 253 (hb hby at_250) rfl (fun v T h71 Lc X eT q => ?_)
    obtain ⟨rfl, N', e'⟩ := q
    replace N := Fr.app N N'
    replace eT := eT.trans e'
    show Wout p e below _ T (mkF m 253 #[.val (.long xx), .second, .val (.int p2), .val (.int p3), .val (.int (2 : Int32)), .val (.int f), .val (.ref b1)] [(.int (1 : Int32))])
    refine o_ifF X hx 256 (hb hby at_253) rfl (by decide : ¬ (1 : Int32) = (0 : Int32)) ?_
    refine o_aload X hx 258 (hb hby at_256) rfl rfl rfl ?_
    refine o_iload X hx 260 (hb hby at_258) rfl rfl ?_
    refine o_lloadN X hx 261 (hb hby at_260) rfl rfl ?_
    refine o_iload X hx 263 (hb hby at_261) rfl rfl ?_
    refine o_bipush X hx 265 (7 : Int32) (hb hby at_263) rfl rfl ?_
    refine o_callS X hx hZ hown (hw _ (List.mem_of_getElem? (i := 7) rfl)) (hw _ (List.mem_of_getElem? (i := 8) rfl)) (hw _ (List.mem_of_getElem? (i := 9) rfl)) (hw _ (List.mem_of_getElem? (i := 10) rfl)) (by decide) (rm_okH l Z a0 hw [] b1 k1 [(.int (nar .byte f)), (.int (nar .byte f)), (.int (nar .byte (own_hex (own_d xx (60 : Int32))))), (.int (nar .byte (own_hex (own_d xx (56 : Int32))))), (.int (nar .byte (own_hex (own_d xx (52 : Int32))))), (.int (nar .byte (own_hex (own_d xx (48 : Int32))))), (.int (nar .byte (own_hex (own_d xx (44 : Int32))))), (.int (nar .byte (own_hex (own_d xx (40 : Int32))))), (.int (nar .byte (own_hex (own_d xx (36 : Int32))))), (.int (nar .byte (own_hex (own_d xx (32 : Int32))))), (.int (nar .byte (own_hex (own_d xx (28 : Int32))))), (.int (nar .byte (own_hex (own_d xx (24 : Int32))))), (.int (nar .byte (own_hex (own_d xx (20 : Int32))))), (.int (nar .byte (own_hex (own_d xx (16 : Int32))))), (.int (nar .byte (own_hex (own_d xx (12 : Int32))))), (.int (nar .byte (own_hex (own_d xx (8 : Int32))))), (.int (nar .byte (own_hex (own_d xx (4 : Int32))))), (.int (nar .byte (own_hex (own_d xx (0 : Int32))))), (.int (nar .byte (45 : Int32))), (.int (nar .byte f))] xx (2 : Int32) f (7 : Int32) (nar .byte (own_hex (own_d xx (40 : Int32)))) _ n0 Z0 V_b1 (by decide) rfl (by decide) (by decide) (own_e5 xx)) eT (by decide) 0 (by decide) (by rw [hml]; rfl) [(.ref b1), (.int (2 : Int32)), (.long xx), (.int f), (.int (7 : Int32))] (rest := []) (lenOf pd_2 rfl) rfl rfl (Nat.le_of_eq rfl) (by decide) (by decide) 268 (hb hby at_265) rfl (fun v T h72 Lc X eT q => ?_)
    obtain ⟨rfl, N', e'⟩ := q
    replace N := Fr.app N N'
    replace eT := eT.trans e'
    show Wout p e below _ T (mkF m 268 #[.val (.long xx), .second, .val (.int p2), .val (.int p3), .val (.int (2 : Int32)), .val (.int f), .val (.ref b1)] [(.int (1 : Int32))])
    refine o_ifF X hx 271 (hb hby at_268) rfl (by decide : ¬ (1 : Int32) = (0 : Int32)) ?_
    refine o_aload X hx 273 (hb hby at_271) rfl rfl rfl ?_
    refine o_iload X hx 275 (hb hby at_273) rfl rfl ?_
    refine o_lloadN X hx 276 (hb hby at_275) rfl rfl ?_
    refine o_iload X hx 278 (hb hby at_276) rfl rfl ?_
    refine o_bipush X hx 280 (8 : Int32) (hb hby at_278) rfl rfl ?_
    refine o_callS X hx hZ hown (hw _ (List.mem_of_getElem? (i := 7) rfl)) (hw _ (List.mem_of_getElem? (i := 8) rfl)) (hw _ (List.mem_of_getElem? (i := 9) rfl)) (hw _ (List.mem_of_getElem? (i := 10) rfl)) (by decide) (rm_okH l Z a0 hw [] b1 k1 [(.int (nar .byte f)), (.int (nar .byte f)), (.int (nar .byte (own_hex (own_d xx (60 : Int32))))), (.int (nar .byte (own_hex (own_d xx (56 : Int32))))), (.int (nar .byte (own_hex (own_d xx (52 : Int32))))), (.int (nar .byte (own_hex (own_d xx (48 : Int32))))), (.int (nar .byte (own_hex (own_d xx (44 : Int32))))), (.int (nar .byte (own_hex (own_d xx (40 : Int32))))), (.int (nar .byte (own_hex (own_d xx (36 : Int32))))), (.int (nar .byte (own_hex (own_d xx (32 : Int32))))), (.int (nar .byte (own_hex (own_d xx (28 : Int32))))), (.int (nar .byte (own_hex (own_d xx (24 : Int32))))), (.int (nar .byte (own_hex (own_d xx (20 : Int32))))), (.int (nar .byte (own_hex (own_d xx (16 : Int32))))), (.int (nar .byte (own_hex (own_d xx (12 : Int32))))), (.int (nar .byte (own_hex (own_d xx (8 : Int32))))), (.int (nar .byte (own_hex (own_d xx (4 : Int32))))), (.int (nar .byte (own_hex (own_d xx (0 : Int32))))), (.int (nar .byte (45 : Int32))), (.int (nar .byte f))] xx (2 : Int32) f (8 : Int32) (nar .byte (own_hex (own_d xx (36 : Int32)))) _ n0 Z0 V_b1 (by decide) rfl (by decide) (by decide) (own_e6 xx)) eT (by decide) 0 (by decide) (by rw [hml]; rfl) [(.ref b1), (.int (2 : Int32)), (.long xx), (.int f), (.int (8 : Int32))] (rest := []) (lenOf pd_2 rfl) rfl rfl (Nat.le_of_eq rfl) (by decide) (by decide) 283 (hb hby at_280) rfl (fun v T h73 Lc X eT q => ?_)
    obtain ⟨rfl, N', e'⟩ := q
    replace N := Fr.app N N'
    replace eT := eT.trans e'
    show Wout p e below _ T (mkF m 283 #[.val (.long xx), .second, .val (.int p2), .val (.int p3), .val (.int (2 : Int32)), .val (.int f), .val (.ref b1)] [(.int (1 : Int32))])
    refine o_ifF X hx 286 (hb hby at_283) rfl (by decide : ¬ (1 : Int32) = (0 : Int32)) ?_
    refine o_aload X hx 288 (hb hby at_286) rfl rfl rfl ?_
    refine o_iload X hx 290 (hb hby at_288) rfl rfl ?_
    refine o_lloadN X hx 291 (hb hby at_290) rfl rfl ?_
    refine o_iload X hx 293 (hb hby at_291) rfl rfl ?_
    refine o_bipush X hx 295 (9 : Int32) (hb hby at_293) rfl rfl ?_
    refine o_callS X hx hZ hown (hw _ (List.mem_of_getElem? (i := 7) rfl)) (hw _ (List.mem_of_getElem? (i := 8) rfl)) (hw _ (List.mem_of_getElem? (i := 9) rfl)) (hw _ (List.mem_of_getElem? (i := 10) rfl)) (by decide) (rm_okH l Z a0 hw [] b1 k1 [(.int (nar .byte f)), (.int (nar .byte f)), (.int (nar .byte (own_hex (own_d xx (60 : Int32))))), (.int (nar .byte (own_hex (own_d xx (56 : Int32))))), (.int (nar .byte (own_hex (own_d xx (52 : Int32))))), (.int (nar .byte (own_hex (own_d xx (48 : Int32))))), (.int (nar .byte (own_hex (own_d xx (44 : Int32))))), (.int (nar .byte (own_hex (own_d xx (40 : Int32))))), (.int (nar .byte (own_hex (own_d xx (36 : Int32))))), (.int (nar .byte (own_hex (own_d xx (32 : Int32))))), (.int (nar .byte (own_hex (own_d xx (28 : Int32))))), (.int (nar .byte (own_hex (own_d xx (24 : Int32))))), (.int (nar .byte (own_hex (own_d xx (20 : Int32))))), (.int (nar .byte (own_hex (own_d xx (16 : Int32))))), (.int (nar .byte (own_hex (own_d xx (12 : Int32))))), (.int (nar .byte (own_hex (own_d xx (8 : Int32))))), (.int (nar .byte (own_hex (own_d xx (4 : Int32))))), (.int (nar .byte (own_hex (own_d xx (0 : Int32))))), (.int (nar .byte (45 : Int32))), (.int (nar .byte f))] xx (2 : Int32) f (9 : Int32) (nar .byte (own_hex (own_d xx (32 : Int32)))) _ n0 Z0 V_b1 (by decide) rfl (by decide) (by decide) (own_e7 xx)) eT (by decide) 0 (by decide) (by rw [hml]; rfl) [(.ref b1), (.int (2 : Int32)), (.long xx), (.int f), (.int (9 : Int32))] (rest := []) (lenOf pd_2 rfl) rfl rfl (Nat.le_of_eq rfl) (by decide) (by decide) 298 (hb hby at_295) rfl (fun v T h74 Lc X eT q => ?_)
    obtain ⟨rfl, N', e'⟩ := q
    replace N := Fr.app N N'
    replace eT := eT.trans e'
    show Wout p e below _ T (mkF m 298 #[.val (.long xx), .second, .val (.int p2), .val (.int p3), .val (.int (2 : Int32)), .val (.int f), .val (.ref b1)] [(.int (1 : Int32))])
    refine o_ifF X hx 301 (hb hby at_298) rfl (by decide : ¬ (1 : Int32) = (0 : Int32)) ?_
    refine o_aload X hx 303 (hb hby at_301) rfl rfl rfl ?_
    refine o_iload X hx 305 (hb hby at_303) rfl rfl ?_
    refine o_lloadN X hx 306 (hb hby at_305) rfl rfl ?_
    refine o_iload X hx 308 (hb hby at_306) rfl rfl ?_
    refine o_bipush X hx 310 (10 : Int32) (hb hby at_308) rfl rfl ?_
    refine o_callS X hx hZ hown (hw _ (List.mem_of_getElem? (i := 7) rfl)) (hw _ (List.mem_of_getElem? (i := 8) rfl)) (hw _ (List.mem_of_getElem? (i := 9) rfl)) (hw _ (List.mem_of_getElem? (i := 10) rfl)) (by decide) (rm_okH l Z a0 hw [] b1 k1 [(.int (nar .byte f)), (.int (nar .byte f)), (.int (nar .byte (own_hex (own_d xx (60 : Int32))))), (.int (nar .byte (own_hex (own_d xx (56 : Int32))))), (.int (nar .byte (own_hex (own_d xx (52 : Int32))))), (.int (nar .byte (own_hex (own_d xx (48 : Int32))))), (.int (nar .byte (own_hex (own_d xx (44 : Int32))))), (.int (nar .byte (own_hex (own_d xx (40 : Int32))))), (.int (nar .byte (own_hex (own_d xx (36 : Int32))))), (.int (nar .byte (own_hex (own_d xx (32 : Int32))))), (.int (nar .byte (own_hex (own_d xx (28 : Int32))))), (.int (nar .byte (own_hex (own_d xx (24 : Int32))))), (.int (nar .byte (own_hex (own_d xx (20 : Int32))))), (.int (nar .byte (own_hex (own_d xx (16 : Int32))))), (.int (nar .byte (own_hex (own_d xx (12 : Int32))))), (.int (nar .byte (own_hex (own_d xx (8 : Int32))))), (.int (nar .byte (own_hex (own_d xx (4 : Int32))))), (.int (nar .byte (own_hex (own_d xx (0 : Int32))))), (.int (nar .byte (45 : Int32))), (.int (nar .byte f))] xx (2 : Int32) f (10 : Int32) (nar .byte (own_hex (own_d xx (28 : Int32)))) _ n0 Z0 V_b1 (by decide) rfl (by decide) (by decide) (own_e8 xx)) eT (by decide) 0 (by decide) (by rw [hml]; rfl) [(.ref b1), (.int (2 : Int32)), (.long xx), (.int f), (.int (10 : Int32))] (rest := []) (lenOf pd_2 rfl) rfl rfl (Nat.le_of_eq rfl) (by decide) (by decide) 313 (hb hby at_310) rfl (fun v T h75 Lc X eT q => ?_)
    obtain ⟨rfl, N', e'⟩ := q
    replace N := Fr.app N N'
    replace eT := eT.trans e'
    show Wout p e below _ T (mkF m 313 #[.val (.long xx), .second, .val (.int p2), .val (.int p3), .val (.int (2 : Int32)), .val (.int f), .val (.ref b1)] [(.int (1 : Int32))])
    refine o_ifF X hx 316 (hb hby at_313) rfl (by decide : ¬ (1 : Int32) = (0 : Int32)) ?_
    refine o_aload X hx 318 (hb hby at_316) rfl rfl rfl ?_
    refine o_iload X hx 320 (hb hby at_318) rfl rfl ?_
    refine o_lloadN X hx 321 (hb hby at_320) rfl rfl ?_
    refine o_iload X hx 323 (hb hby at_321) rfl rfl ?_
    refine o_bipush X hx 325 (11 : Int32) (hb hby at_323) rfl rfl ?_
    refine o_callS X hx hZ hown (hw _ (List.mem_of_getElem? (i := 7) rfl)) (hw _ (List.mem_of_getElem? (i := 8) rfl)) (hw _ (List.mem_of_getElem? (i := 9) rfl)) (hw _ (List.mem_of_getElem? (i := 10) rfl)) (by decide) (rm_okH l Z a0 hw [] b1 k1 [(.int (nar .byte f)), (.int (nar .byte f)), (.int (nar .byte (own_hex (own_d xx (60 : Int32))))), (.int (nar .byte (own_hex (own_d xx (56 : Int32))))), (.int (nar .byte (own_hex (own_d xx (52 : Int32))))), (.int (nar .byte (own_hex (own_d xx (48 : Int32))))), (.int (nar .byte (own_hex (own_d xx (44 : Int32))))), (.int (nar .byte (own_hex (own_d xx (40 : Int32))))), (.int (nar .byte (own_hex (own_d xx (36 : Int32))))), (.int (nar .byte (own_hex (own_d xx (32 : Int32))))), (.int (nar .byte (own_hex (own_d xx (28 : Int32))))), (.int (nar .byte (own_hex (own_d xx (24 : Int32))))), (.int (nar .byte (own_hex (own_d xx (20 : Int32))))), (.int (nar .byte (own_hex (own_d xx (16 : Int32))))), (.int (nar .byte (own_hex (own_d xx (12 : Int32))))), (.int (nar .byte (own_hex (own_d xx (8 : Int32))))), (.int (nar .byte (own_hex (own_d xx (4 : Int32))))), (.int (nar .byte (own_hex (own_d xx (0 : Int32))))), (.int (nar .byte (45 : Int32))), (.int (nar .byte f))] xx (2 : Int32) f (11 : Int32) (nar .byte (own_hex (own_d xx (24 : Int32)))) _ n0 Z0 V_b1 (by decide) rfl (by decide) (by decide) (own_e9 xx)) eT (by decide) 0 (by decide) (by rw [hml]; rfl) [(.ref b1), (.int (2 : Int32)), (.long xx), (.int f), (.int (11 : Int32))] (rest := []) (lenOf pd_2 rfl) rfl rfl (Nat.le_of_eq rfl) (by decide) (by decide) 328 (hb hby at_325) rfl (fun v T h76 Lc X eT q => ?_)
    obtain ⟨rfl, N', e'⟩ := q
    replace N := Fr.app N N'
    replace eT := eT.trans e'
    show Wout p e below _ T (mkF m 328 #[.val (.long xx), .second, .val (.int p2), .val (.int p3), .val (.int (2 : Int32)), .val (.int f), .val (.ref b1)] [(.int (1 : Int32))])
    refine o_ifF X hx 331 (hb hby at_328) rfl (by decide : ¬ (1 : Int32) = (0 : Int32)) ?_
    refine o_aload X hx 333 (hb hby at_331) rfl rfl rfl ?_
    refine o_iload X hx 335 (hb hby at_333) rfl rfl ?_
    refine o_lloadN X hx 336 (hb hby at_335) rfl rfl ?_
    refine o_iload X hx 338 (hb hby at_336) rfl rfl ?_
    refine o_bipush X hx 340 (12 : Int32) (hb hby at_338) rfl rfl ?_
    refine o_callS X hx hZ hown (hw _ (List.mem_of_getElem? (i := 7) rfl)) (hw _ (List.mem_of_getElem? (i := 8) rfl)) (hw _ (List.mem_of_getElem? (i := 9) rfl)) (hw _ (List.mem_of_getElem? (i := 10) rfl)) (by decide) (rm_okH l Z a0 hw [] b1 k1 [(.int (nar .byte f)), (.int (nar .byte f)), (.int (nar .byte (own_hex (own_d xx (60 : Int32))))), (.int (nar .byte (own_hex (own_d xx (56 : Int32))))), (.int (nar .byte (own_hex (own_d xx (52 : Int32))))), (.int (nar .byte (own_hex (own_d xx (48 : Int32))))), (.int (nar .byte (own_hex (own_d xx (44 : Int32))))), (.int (nar .byte (own_hex (own_d xx (40 : Int32))))), (.int (nar .byte (own_hex (own_d xx (36 : Int32))))), (.int (nar .byte (own_hex (own_d xx (32 : Int32))))), (.int (nar .byte (own_hex (own_d xx (28 : Int32))))), (.int (nar .byte (own_hex (own_d xx (24 : Int32))))), (.int (nar .byte (own_hex (own_d xx (20 : Int32))))), (.int (nar .byte (own_hex (own_d xx (16 : Int32))))), (.int (nar .byte (own_hex (own_d xx (12 : Int32))))), (.int (nar .byte (own_hex (own_d xx (8 : Int32))))), (.int (nar .byte (own_hex (own_d xx (4 : Int32))))), (.int (nar .byte (own_hex (own_d xx (0 : Int32))))), (.int (nar .byte (45 : Int32))), (.int (nar .byte f))] xx (2 : Int32) f (12 : Int32) (nar .byte (own_hex (own_d xx (20 : Int32)))) _ n0 Z0 V_b1 (by decide) rfl (by decide) (by decide) (own_e10 xx)) eT (by decide) 0 (by decide) (by rw [hml]; rfl) [(.ref b1), (.int (2 : Int32)), (.long xx), (.int f), (.int (12 : Int32))] (rest := []) (lenOf pd_2 rfl) rfl rfl (Nat.le_of_eq rfl) (by decide) (by decide) 343 (hb hby at_340) rfl (fun v T h77 Lc X eT q => ?_)
    obtain ⟨rfl, N', e'⟩ := q
    replace N := Fr.app N N'
    replace eT := eT.trans e'
    show Wout p e below _ T (mkF m 343 #[.val (.long xx), .second, .val (.int p2), .val (.int p3), .val (.int (2 : Int32)), .val (.int f), .val (.ref b1)] [(.int (1 : Int32))])
    refine o_ifF X hx 346 (hb hby at_343) rfl (by decide : ¬ (1 : Int32) = (0 : Int32)) ?_
    refine o_aload X hx 348 (hb hby at_346) rfl rfl rfl ?_
    refine o_iload X hx 350 (hb hby at_348) rfl rfl ?_
    refine o_lloadN X hx 351 (hb hby at_350) rfl rfl ?_
    refine o_iload X hx 353 (hb hby at_351) rfl rfl ?_
    refine o_bipush X hx 355 (13 : Int32) (hb hby at_353) rfl rfl ?_
    refine o_callS X hx hZ hown (hw _ (List.mem_of_getElem? (i := 7) rfl)) (hw _ (List.mem_of_getElem? (i := 8) rfl)) (hw _ (List.mem_of_getElem? (i := 9) rfl)) (hw _ (List.mem_of_getElem? (i := 10) rfl)) (by decide) (rm_okH l Z a0 hw [] b1 k1 [(.int (nar .byte f)), (.int (nar .byte f)), (.int (nar .byte (own_hex (own_d xx (60 : Int32))))), (.int (nar .byte (own_hex (own_d xx (56 : Int32))))), (.int (nar .byte (own_hex (own_d xx (52 : Int32))))), (.int (nar .byte (own_hex (own_d xx (48 : Int32))))), (.int (nar .byte (own_hex (own_d xx (44 : Int32))))), (.int (nar .byte (own_hex (own_d xx (40 : Int32))))), (.int (nar .byte (own_hex (own_d xx (36 : Int32))))), (.int (nar .byte (own_hex (own_d xx (32 : Int32))))), (.int (nar .byte (own_hex (own_d xx (28 : Int32))))), (.int (nar .byte (own_hex (own_d xx (24 : Int32))))), (.int (nar .byte (own_hex (own_d xx (20 : Int32))))), (.int (nar .byte (own_hex (own_d xx (16 : Int32))))), (.int (nar .byte (own_hex (own_d xx (12 : Int32))))), (.int (nar .byte (own_hex (own_d xx (8 : Int32))))), (.int (nar .byte (own_hex (own_d xx (4 : Int32))))), (.int (nar .byte (own_hex (own_d xx (0 : Int32))))), (.int (nar .byte (45 : Int32))), (.int (nar .byte f))] xx (2 : Int32) f (13 : Int32) (nar .byte (own_hex (own_d xx (16 : Int32)))) _ n0 Z0 V_b1 (by decide) rfl (by decide) (by decide) (own_e11 xx)) eT (by decide) 0 (by decide) (by rw [hml]; rfl) [(.ref b1), (.int (2 : Int32)), (.long xx), (.int f), (.int (13 : Int32))] (rest := []) (lenOf pd_2 rfl) rfl rfl (Nat.le_of_eq rfl) (by decide) (by decide) 358 (hb hby at_355) rfl (fun v T h78 Lc X eT q => ?_)
    obtain ⟨rfl, N', e'⟩ := q
    replace N := Fr.app N N'
    replace eT := eT.trans e'
    show Wout p e below _ T (mkF m 358 #[.val (.long xx), .second, .val (.int p2), .val (.int p3), .val (.int (2 : Int32)), .val (.int f), .val (.ref b1)] [(.int (1 : Int32))])
    refine o_ifF X hx 361 (hb hby at_358) rfl (by decide : ¬ (1 : Int32) = (0 : Int32)) ?_
    refine o_aload X hx 363 (hb hby at_361) rfl rfl rfl ?_
    refine o_iload X hx 365 (hb hby at_363) rfl rfl ?_
    refine o_lloadN X hx 366 (hb hby at_365) rfl rfl ?_
    refine o_iload X hx 368 (hb hby at_366) rfl rfl ?_
    refine o_bipush X hx 370 (14 : Int32) (hb hby at_368) rfl rfl ?_
    refine o_callS X hx hZ hown (hw _ (List.mem_of_getElem? (i := 7) rfl)) (hw _ (List.mem_of_getElem? (i := 8) rfl)) (hw _ (List.mem_of_getElem? (i := 9) rfl)) (hw _ (List.mem_of_getElem? (i := 10) rfl)) (by decide) (rm_okH l Z a0 hw [] b1 k1 [(.int (nar .byte f)), (.int (nar .byte f)), (.int (nar .byte (own_hex (own_d xx (60 : Int32))))), (.int (nar .byte (own_hex (own_d xx (56 : Int32))))), (.int (nar .byte (own_hex (own_d xx (52 : Int32))))), (.int (nar .byte (own_hex (own_d xx (48 : Int32))))), (.int (nar .byte (own_hex (own_d xx (44 : Int32))))), (.int (nar .byte (own_hex (own_d xx (40 : Int32))))), (.int (nar .byte (own_hex (own_d xx (36 : Int32))))), (.int (nar .byte (own_hex (own_d xx (32 : Int32))))), (.int (nar .byte (own_hex (own_d xx (28 : Int32))))), (.int (nar .byte (own_hex (own_d xx (24 : Int32))))), (.int (nar .byte (own_hex (own_d xx (20 : Int32))))), (.int (nar .byte (own_hex (own_d xx (16 : Int32))))), (.int (nar .byte (own_hex (own_d xx (12 : Int32))))), (.int (nar .byte (own_hex (own_d xx (8 : Int32))))), (.int (nar .byte (own_hex (own_d xx (4 : Int32))))), (.int (nar .byte (own_hex (own_d xx (0 : Int32))))), (.int (nar .byte (45 : Int32))), (.int (nar .byte f))] xx (2 : Int32) f (14 : Int32) (nar .byte (own_hex (own_d xx (12 : Int32)))) _ n0 Z0 V_b1 (by decide) rfl (by decide) (by decide) (own_e12 xx)) eT (by decide) 0 (by decide) (by rw [hml]; rfl) [(.ref b1), (.int (2 : Int32)), (.long xx), (.int f), (.int (14 : Int32))] (rest := []) (lenOf pd_2 rfl) rfl rfl (Nat.le_of_eq rfl) (by decide) (by decide) 373 (hb hby at_370) rfl (fun v T h79 Lc X eT q => ?_)
    obtain ⟨rfl, N', e'⟩ := q
    replace N := Fr.app N N'
    replace eT := eT.trans e'
    show Wout p e below _ T (mkF m 373 #[.val (.long xx), .second, .val (.int p2), .val (.int p3), .val (.int (2 : Int32)), .val (.int f), .val (.ref b1)] [(.int (1 : Int32))])
    refine o_ifF X hx 376 (hb hby at_373) rfl (by decide : ¬ (1 : Int32) = (0 : Int32)) ?_
    refine o_aload X hx 378 (hb hby at_376) rfl rfl rfl ?_
    refine o_iload X hx 380 (hb hby at_378) rfl rfl ?_
    refine o_lloadN X hx 381 (hb hby at_380) rfl rfl ?_
    refine o_iload X hx 383 (hb hby at_381) rfl rfl ?_
    refine o_bipush X hx 385 (15 : Int32) (hb hby at_383) rfl rfl ?_
    refine o_callS X hx hZ hown (hw _ (List.mem_of_getElem? (i := 7) rfl)) (hw _ (List.mem_of_getElem? (i := 8) rfl)) (hw _ (List.mem_of_getElem? (i := 9) rfl)) (hw _ (List.mem_of_getElem? (i := 10) rfl)) (by decide) (rm_okH l Z a0 hw [] b1 k1 [(.int (nar .byte f)), (.int (nar .byte f)), (.int (nar .byte (own_hex (own_d xx (60 : Int32))))), (.int (nar .byte (own_hex (own_d xx (56 : Int32))))), (.int (nar .byte (own_hex (own_d xx (52 : Int32))))), (.int (nar .byte (own_hex (own_d xx (48 : Int32))))), (.int (nar .byte (own_hex (own_d xx (44 : Int32))))), (.int (nar .byte (own_hex (own_d xx (40 : Int32))))), (.int (nar .byte (own_hex (own_d xx (36 : Int32))))), (.int (nar .byte (own_hex (own_d xx (32 : Int32))))), (.int (nar .byte (own_hex (own_d xx (28 : Int32))))), (.int (nar .byte (own_hex (own_d xx (24 : Int32))))), (.int (nar .byte (own_hex (own_d xx (20 : Int32))))), (.int (nar .byte (own_hex (own_d xx (16 : Int32))))), (.int (nar .byte (own_hex (own_d xx (12 : Int32))))), (.int (nar .byte (own_hex (own_d xx (8 : Int32))))), (.int (nar .byte (own_hex (own_d xx (4 : Int32))))), (.int (nar .byte (own_hex (own_d xx (0 : Int32))))), (.int (nar .byte (45 : Int32))), (.int (nar .byte f))] xx (2 : Int32) f (15 : Int32) (nar .byte (own_hex (own_d xx (8 : Int32)))) _ n0 Z0 V_b1 (by decide) rfl (by decide) (by decide) (own_e13 xx)) eT (by decide) 0 (by decide) (by rw [hml]; rfl) [(.ref b1), (.int (2 : Int32)), (.long xx), (.int f), (.int (15 : Int32))] (rest := []) (lenOf pd_2 rfl) rfl rfl (Nat.le_of_eq rfl) (by decide) (by decide) 388 (hb hby at_385) rfl (fun v T h80 Lc X eT q => ?_)
    obtain ⟨rfl, N', e'⟩ := q
    replace N := Fr.app N N'
    replace eT := eT.trans e'
    show Wout p e below _ T (mkF m 388 #[.val (.long xx), .second, .val (.int p2), .val (.int p3), .val (.int (2 : Int32)), .val (.int f), .val (.ref b1)] [(.int (1 : Int32))])
    refine o_ifF X hx 391 (hb hby at_388) rfl (by decide : ¬ (1 : Int32) = (0 : Int32)) ?_
    refine o_aload X hx 393 (hb hby at_391) rfl rfl rfl ?_
    refine o_iload X hx 395 (hb hby at_393) rfl rfl ?_
    refine o_lloadN X hx 396 (hb hby at_395) rfl rfl ?_
    refine o_iload X hx 398 (hb hby at_396) rfl rfl ?_
    refine o_bipush X hx 400 (16 : Int32) (hb hby at_398) rfl rfl ?_
    refine o_callS X hx hZ hown (hw _ (List.mem_of_getElem? (i := 7) rfl)) (hw _ (List.mem_of_getElem? (i := 8) rfl)) (hw _ (List.mem_of_getElem? (i := 9) rfl)) (hw _ (List.mem_of_getElem? (i := 10) rfl)) (by decide) (rm_okH l Z a0 hw [] b1 k1 [(.int (nar .byte f)), (.int (nar .byte f)), (.int (nar .byte (own_hex (own_d xx (60 : Int32))))), (.int (nar .byte (own_hex (own_d xx (56 : Int32))))), (.int (nar .byte (own_hex (own_d xx (52 : Int32))))), (.int (nar .byte (own_hex (own_d xx (48 : Int32))))), (.int (nar .byte (own_hex (own_d xx (44 : Int32))))), (.int (nar .byte (own_hex (own_d xx (40 : Int32))))), (.int (nar .byte (own_hex (own_d xx (36 : Int32))))), (.int (nar .byte (own_hex (own_d xx (32 : Int32))))), (.int (nar .byte (own_hex (own_d xx (28 : Int32))))), (.int (nar .byte (own_hex (own_d xx (24 : Int32))))), (.int (nar .byte (own_hex (own_d xx (20 : Int32))))), (.int (nar .byte (own_hex (own_d xx (16 : Int32))))), (.int (nar .byte (own_hex (own_d xx (12 : Int32))))), (.int (nar .byte (own_hex (own_d xx (8 : Int32))))), (.int (nar .byte (own_hex (own_d xx (4 : Int32))))), (.int (nar .byte (own_hex (own_d xx (0 : Int32))))), (.int (nar .byte (45 : Int32))), (.int (nar .byte f))] xx (2 : Int32) f (16 : Int32) (nar .byte (own_hex (own_d xx (4 : Int32)))) _ n0 Z0 V_b1 (by decide) rfl (by decide) (by decide) (own_e14 xx)) eT (by decide) 0 (by decide) (by rw [hml]; rfl) [(.ref b1), (.int (2 : Int32)), (.long xx), (.int f), (.int (16 : Int32))] (rest := []) (lenOf pd_2 rfl) rfl rfl (Nat.le_of_eq rfl) (by decide) (by decide) 403 (hb hby at_400) rfl (fun v T h81 Lc X eT q => ?_)
    obtain ⟨rfl, N', e'⟩ := q
    replace N := Fr.app N N'
    replace eT := eT.trans e'
    show Wout p e below _ T (mkF m 403 #[.val (.long xx), .second, .val (.int p2), .val (.int p3), .val (.int (2 : Int32)), .val (.int f), .val (.ref b1)] [(.int (1 : Int32))])
    refine o_ifF X hx 406 (hb hby at_403) rfl (by decide : ¬ (1 : Int32) = (0 : Int32)) ?_
    refine o_aload X hx 408 (hb hby at_406) rfl rfl rfl ?_
    refine o_iload X hx 410 (hb hby at_408) rfl rfl ?_
    refine o_lloadN X hx 411 (hb hby at_410) rfl rfl ?_
    refine o_iload X hx 413 (hb hby at_411) rfl rfl ?_
    refine o_bipush X hx 415 (17 : Int32) (hb hby at_413) rfl rfl ?_
    refine o_callS X hx hZ hown (hw _ (List.mem_of_getElem? (i := 7) rfl)) (hw _ (List.mem_of_getElem? (i := 8) rfl)) (hw _ (List.mem_of_getElem? (i := 9) rfl)) (hw _ (List.mem_of_getElem? (i := 10) rfl)) (by decide) (rm_okH l Z a0 hw [] b1 k1 [(.int (nar .byte f)), (.int (nar .byte f)), (.int (nar .byte (own_hex (own_d xx (60 : Int32))))), (.int (nar .byte (own_hex (own_d xx (56 : Int32))))), (.int (nar .byte (own_hex (own_d xx (52 : Int32))))), (.int (nar .byte (own_hex (own_d xx (48 : Int32))))), (.int (nar .byte (own_hex (own_d xx (44 : Int32))))), (.int (nar .byte (own_hex (own_d xx (40 : Int32))))), (.int (nar .byte (own_hex (own_d xx (36 : Int32))))), (.int (nar .byte (own_hex (own_d xx (32 : Int32))))), (.int (nar .byte (own_hex (own_d xx (28 : Int32))))), (.int (nar .byte (own_hex (own_d xx (24 : Int32))))), (.int (nar .byte (own_hex (own_d xx (20 : Int32))))), (.int (nar .byte (own_hex (own_d xx (16 : Int32))))), (.int (nar .byte (own_hex (own_d xx (12 : Int32))))), (.int (nar .byte (own_hex (own_d xx (8 : Int32))))), (.int (nar .byte (own_hex (own_d xx (4 : Int32))))), (.int (nar .byte (own_hex (own_d xx (0 : Int32))))), (.int (nar .byte (45 : Int32))), (.int (nar .byte f))] xx (2 : Int32) f (17 : Int32) (nar .byte (own_hex (own_d xx (0 : Int32)))) _ n0 Z0 V_b1 (by decide) rfl (by decide) (by decide) (own_e15 xx)) eT (by decide) 0 (by decide) (by rw [hml]; rfl) [(.ref b1), (.int (2 : Int32)), (.long xx), (.int f), (.int (17 : Int32))] (rest := []) (lenOf pd_2 rfl) rfl rfl (Nat.le_of_eq rfl) (by decide) (by decide) 418 (hb hby at_415) rfl (fun v T h82 Lc X eT q => ?_)
    obtain ⟨rfl, N', e'⟩ := q
    replace N := Fr.app N N'
    replace eT := eT.trans e'
    show Wout p e below _ T (mkF m 418 #[.val (.long xx), .second, .val (.int p2), .val (.int p3), .val (.int (2 : Int32)), .val (.int f), .val (.ref b1)] [(.int (1 : Int32))])
    refine o_ifF X hx 421 (hb hby at_418) rfl (by decide : ¬ (1 : Int32) = (0 : Int32)) ?_
    refine o_aload X hx 423 (hb hby at_421) rfl rfl rfl ?_
    refine o_iload X hx 425 (hb hby at_423) rfl rfl ?_
    refine o_lloadN X hx 426 (hb hby at_425) rfl rfl ?_
    refine o_iload X hx 428 (hb hby at_426) rfl rfl ?_
    refine o_bipush X hx 430 (18 : Int32) (hb hby at_428) rfl rfl ?_
    refine o_callS X hx hZ hown (hw _ (List.mem_of_getElem? (i := 7) rfl)) (hw _ (List.mem_of_getElem? (i := 8) rfl)) (hw _ (List.mem_of_getElem? (i := 9) rfl)) (hw _ (List.mem_of_getElem? (i := 10) rfl)) (by decide) (rm_okD l Z a0 hw [] b1 k1 [(.int (nar .byte f)), (.int (nar .byte f)), (.int (nar .byte (own_hex (own_d xx (60 : Int32))))), (.int (nar .byte (own_hex (own_d xx (56 : Int32))))), (.int (nar .byte (own_hex (own_d xx (52 : Int32))))), (.int (nar .byte (own_hex (own_d xx (48 : Int32))))), (.int (nar .byte (own_hex (own_d xx (44 : Int32))))), (.int (nar .byte (own_hex (own_d xx (40 : Int32))))), (.int (nar .byte (own_hex (own_d xx (36 : Int32))))), (.int (nar .byte (own_hex (own_d xx (32 : Int32))))), (.int (nar .byte (own_hex (own_d xx (28 : Int32))))), (.int (nar .byte (own_hex (own_d xx (24 : Int32))))), (.int (nar .byte (own_hex (own_d xx (20 : Int32))))), (.int (nar .byte (own_hex (own_d xx (16 : Int32))))), (.int (nar .byte (own_hex (own_d xx (12 : Int32))))), (.int (nar .byte (own_hex (own_d xx (8 : Int32))))), (.int (nar .byte (own_hex (own_d xx (4 : Int32))))), (.int (nar .byte (own_hex (own_d xx (0 : Int32))))), (.int (nar .byte (45 : Int32))), (.int (nar .byte f))] xx (2 : Int32) f (18 : Int32) (nar .byte (45 : Int32)) _ n0 Z0 V_b1 (by decide) rfl (by decide) (by decide) (by decide) (by decide)) eT (by decide) 0 (by decide) (by rw [hml]; rfl) [(.ref b1), (.int (2 : Int32)), (.long xx), (.int f), (.int (18 : Int32))] (rest := []) (lenOf pd_2 rfl) rfl rfl (Nat.le_of_eq rfl) (by decide) (by decide) 433 (hb hby at_430) rfl (fun v T h83 Lc X eT q => ?_)
    obtain ⟨rfl, N', e'⟩ := q
    replace N := Fr.app N N'
    replace eT := eT.trans e'
    show Wout p e below _ T (mkF m 433 #[.val (.long xx), .second, .val (.int p2), .val (.int p3), .val (.int (2 : Int32)), .val (.int f), .val (.ref b1)] [(.int (1 : Int32))])
    refine o_ifF X hx 436 (hb hby at_433) rfl (by decide : ¬ (1 : Int32) = (0 : Int32)) ?_
    refine o_aload X hx 438 (hb hby at_436) rfl rfl rfl ?_
    refine o_iload X hx 440 (hb hby at_438) rfl rfl ?_
    refine o_lloadN X hx 441 (hb hby at_440) rfl rfl ?_
    refine o_iload X hx 443 (hb hby at_441) rfl rfl ?_
    refine o_bipush X hx 445 (19 : Int32) (hb hby at_443) rfl rfl ?_
    refine o_callS X hx hZ hown (hw _ (List.mem_of_getElem? (i := 7) rfl)) (hw _ (List.mem_of_getElem? (i := 8) rfl)) (hw _ (List.mem_of_getElem? (i := 9) rfl)) (hw _ (List.mem_of_getElem? (i := 10) rfl)) (by decide) (rm_okB l Z a0 hw [] b1 k1 [(.int (nar .byte f)), (.int (nar .byte f)), (.int (nar .byte (own_hex (own_d xx (60 : Int32))))), (.int (nar .byte (own_hex (own_d xx (56 : Int32))))), (.int (nar .byte (own_hex (own_d xx (52 : Int32))))), (.int (nar .byte (own_hex (own_d xx (48 : Int32))))), (.int (nar .byte (own_hex (own_d xx (44 : Int32))))), (.int (nar .byte (own_hex (own_d xx (40 : Int32))))), (.int (nar .byte (own_hex (own_d xx (36 : Int32))))), (.int (nar .byte (own_hex (own_d xx (32 : Int32))))), (.int (nar .byte (own_hex (own_d xx (28 : Int32))))), (.int (nar .byte (own_hex (own_d xx (24 : Int32))))), (.int (nar .byte (own_hex (own_d xx (20 : Int32))))), (.int (nar .byte (own_hex (own_d xx (16 : Int32))))), (.int (nar .byte (own_hex (own_d xx (12 : Int32))))), (.int (nar .byte (own_hex (own_d xx (8 : Int32))))), (.int (nar .byte (own_hex (own_d xx (4 : Int32))))), (.int (nar .byte (own_hex (own_d xx (0 : Int32))))), (.int (nar .byte (45 : Int32))), (.int (nar .byte f))] xx (2 : Int32) f (19 : Int32) (nar .byte f) _ n0 Z0 V_b1 (by decide) rfl (by decide) (by decide) (by decide) hf) eT (by decide) 0 (by decide) (by rw [hml]; rfl) [(.ref b1), (.int (2 : Int32)), (.long xx), (.int f), (.int (19 : Int32))] (rest := []) (lenOf pd_2 rfl) rfl rfl (Nat.le_of_eq rfl) (by decide) (by decide) 448 (hb hby at_445) rfl (fun v T h84 Lc X eT q => ?_)
    obtain ⟨rfl, N', e'⟩ := q
    replace N := Fr.app N N'
    replace eT := eT.trans e'
    show Wout p e below _ T (mkF m 448 #[.val (.long xx), .second, .val (.int p2), .val (.int p3), .val (.int (2 : Int32)), .val (.int f), .val (.ref b1)] [(.int (1 : Int32))])
    refine o_ifF X hx 451 (hb hby at_448) rfl (by decide : ¬ (1 : Int32) = (0 : Int32)) ?_
    refine o_iconst X hx 452 (1 : Int32) (hb hby at_451) rfl rfl ?_
    refine o_goto X hx 456 (hb hby at_452) rfl ?_
    exact o_retI X hx hlk hret rfl (by simp) (hb hby at_456) (by decide) (by decide) (by rw [eT]; exact ⟨rfl, N, trivial⟩)
  · show Wout p e below _ T (mkF m 154 #[.val (.long xx), .second, .val (.int p2), .val (.int p3), .val (.int (3 : Int32)), .val (.int f), .val (.ref b1)] [(.long xx), (.int (3 : Int32)), (.ref b1)])
    refine o_callS X hx hZ hown (hw _ (List.mem_of_getElem? (i := 1) rfl)) (hw _ (List.mem_of_getElem? (i := 2) rfl)) (hw _ (List.mem_of_getElem? (i := 3) rfl)) (hw _ (List.mem_of_getElem? (i := 4) rfl)) (by decide) (rm_wl3 l Z a0 hw [] b1 hxa k1 kh xx (nar .byte f) _ n0 Z0 O SH VH V_b1 g_b1) eT (by decide) 0 (by decide) (by rw [hml]; rfl) [(.ref b1), (.int (3 : Int32)), (.long xx)] (rest := []) (lenOf pd_1 rfl) rfl rfl (Nat.le_of_eq rfl) (by decide) (by decide) 157 (hb hby at_154) rfl (fun v T h85 Lc X eT q => ?_)
    obtain ⟨rfl, N', K1, V1⟩ := q
    replace N := Fr.app N N'
    replace Z0 := Nat.le_trans Z0 K1.1
    replace O := O.keep K1 (allS (P := fun x => n0 ≤ x) g_b1 all0)
    replace V_b1 := V1
    show Wout p e below _ T (mkF m 157 #[.val (.long xx), .second, .val (.int p2), .val (.int p3), .val (.int (3 : Int32)), .val (.int f), .val (.ref b1)] [])
    refine o_aload X hx 159 (hb hby at_157) rfl rfl rfl ?_
    refine o_iload X hx 161 (hb hby at_159) rfl rfl ?_
    refine o_lloadN X hx 162 (hb hby at_161) rfl rfl ?_
    refine o_iload X hx 164 (hb hby at_162) rfl rfl ?_
    refine o_iconst X hx 165 (0 : Int32) (hb hby at_164) rfl rfl ?_
    refine o_callS X hx hZ hown (hw _ (List.mem_of_getElem? (i := 7) rfl)) (hw _ (List.mem_of_getElem? (i := 8) rfl)) (hw _ (List.mem_of_getElem? (i := 9) rfl)) (hw _ (List.mem_of_getElem? (i := 10) rfl)) (by decide) (rm_okA l Z a0 hw [] b1 k1 [(.int (nar .byte f)), (.int (nar .byte f)), (.int (nar .byte f)), (.int (nar .byte (own_hex (own_d xx (60 : Int32))))), (.int (nar .byte (own_hex (own_d xx (56 : Int32))))), (.int (nar .byte (own_hex (own_d xx (52 : Int32))))), (.int (nar .byte (own_hex (own_d xx (48 : Int32))))), (.int (nar .byte (own_hex (own_d xx (44 : Int32))))), (.int (nar .byte (own_hex (own_d xx (40 : Int32))))), (.int (nar .byte (own_hex (own_d xx (36 : Int32))))), (.int (nar .byte (own_hex (own_d xx (32 : Int32))))), (.int (nar .byte (own_hex (own_d xx (28 : Int32))))), (.int (nar .byte (own_hex (own_d xx (24 : Int32))))), (.int (nar .byte (own_hex (own_d xx (20 : Int32))))), (.int (nar .byte (own_hex (own_d xx (16 : Int32))))), (.int (nar .byte (own_hex (own_d xx (12 : Int32))))), (.int (nar .byte (own_hex (own_d xx (8 : Int32))))), (.int (nar .byte (own_hex (own_d xx (4 : Int32))))), (.int (nar .byte (own_hex (own_d xx (0 : Int32))))), (.int (nar .byte (45 : Int32)))] xx (3 : Int32) f (0 : Int32) (nar .byte f) _ n0 Z0 V_b1 (by decide) rfl (by decide) hf) eT (by decide) 0 (by decide) (by rw [hml]; rfl) [(.ref b1), (.int (3 : Int32)), (.long xx), (.int f), (.int (0 : Int32))] (rest := []) (lenOf pd_2 rfl) rfl rfl (Nat.le_of_eq rfl) (by decide) (by decide) 168 (hb hby at_165) rfl (fun v T h86 Lc X eT q => ?_)
    obtain ⟨rfl, N', e'⟩ := q
    replace N := Fr.app N N'
    replace eT := eT.trans e'
    show Wout p e below _ T (mkF m 168 #[.val (.long xx), .second, .val (.int p2), .val (.int p3), .val (.int (3 : Int32)), .val (.int f), .val (.ref b1)] [(.int (1 : Int32))])
    refine o_ifF X hx 171 (hb hby at_168) rfl (by decide : ¬ (1 : Int32) = (0 : Int32)) ?_
    refine o_aload X hx 173 (hb hby at_171) rfl rfl rfl ?_
    refine o_iload X hx 175 (hb hby at_173) rfl rfl ?_
    refine o_lloadN X hx 176 (hb hby at_175) rfl rfl ?_
    refine o_iload X hx 178 (hb hby at_176) rfl rfl ?_
    refine o_iconst X hx 179 (1 : Int32) (hb hby at_178) rfl rfl ?_
    refine o_callS X hx hZ hown (hw _ (List.mem_of_getElem? (i := 7) rfl)) (hw _ (List.mem_of_getElem? (i := 8) rfl)) (hw _ (List.mem_of_getElem? (i := 9) rfl)) (hw _ (List.mem_of_getElem? (i := 10) rfl)) (by decide) (rm_okA l Z a0 hw [] b1 k1 [(.int (nar .byte f)), (.int (nar .byte f)), (.int (nar .byte f)), (.int (nar .byte (own_hex (own_d xx (60 : Int32))))), (.int (nar .byte (own_hex (own_d xx (56 : Int32))))), (.int (nar .byte (own_hex (own_d xx (52 : Int32))))), (.int (nar .byte (own_hex (own_d xx (48 : Int32))))), (.int (nar .byte (own_hex (own_d xx (44 : Int32))))), (.int (nar .byte (own_hex (own_d xx (40 : Int32))))), (.int (nar .byte (own_hex (own_d xx (36 : Int32))))), (.int (nar .byte (own_hex (own_d xx (32 : Int32))))), (.int (nar .byte (own_hex (own_d xx (28 : Int32))))), (.int (nar .byte (own_hex (own_d xx (24 : Int32))))), (.int (nar .byte (own_hex (own_d xx (20 : Int32))))), (.int (nar .byte (own_hex (own_d xx (16 : Int32))))), (.int (nar .byte (own_hex (own_d xx (12 : Int32))))), (.int (nar .byte (own_hex (own_d xx (8 : Int32))))), (.int (nar .byte (own_hex (own_d xx (4 : Int32))))), (.int (nar .byte (own_hex (own_d xx (0 : Int32))))), (.int (nar .byte (45 : Int32)))] xx (3 : Int32) f (1 : Int32) (nar .byte f) _ n0 Z0 V_b1 (by decide) rfl (by decide) hf) eT (by decide) 0 (by decide) (by rw [hml]; rfl) [(.ref b1), (.int (3 : Int32)), (.long xx), (.int f), (.int (1 : Int32))] (rest := []) (lenOf pd_2 rfl) rfl rfl (Nat.le_of_eq rfl) (by decide) (by decide) 182 (hb hby at_179) rfl (fun v T h87 Lc X eT q => ?_)
    obtain ⟨rfl, N', e'⟩ := q
    replace N := Fr.app N N'
    replace eT := eT.trans e'
    show Wout p e below _ T (mkF m 182 #[.val (.long xx), .second, .val (.int p2), .val (.int p3), .val (.int (3 : Int32)), .val (.int f), .val (.ref b1)] [(.int (1 : Int32))])
    refine o_ifF X hx 185 (hb hby at_182) rfl (by decide : ¬ (1 : Int32) = (0 : Int32)) ?_
    refine o_aload X hx 187 (hb hby at_185) rfl rfl rfl ?_
    refine o_iload X hx 189 (hb hby at_187) rfl rfl ?_
    refine o_lloadN X hx 190 (hb hby at_189) rfl rfl ?_
    refine o_iload X hx 192 (hb hby at_190) rfl rfl ?_
    refine o_iconst X hx 193 (2 : Int32) (hb hby at_192) rfl rfl ?_
    refine o_callS X hx hZ hown (hw _ (List.mem_of_getElem? (i := 7) rfl)) (hw _ (List.mem_of_getElem? (i := 8) rfl)) (hw _ (List.mem_of_getElem? (i := 9) rfl)) (hw _ (List.mem_of_getElem? (i := 10) rfl)) (by decide) (rm_okA l Z a0 hw [] b1 k1 [(.int (nar .byte f)), (.int (nar .byte f)), (.int (nar .byte f)), (.int (nar .byte (own_hex (own_d xx (60 : Int32))))), (.int (nar .byte (own_hex (own_d xx (56 : Int32))))), (.int (nar .byte (own_hex (own_d xx (52 : Int32))))), (.int (nar .byte (own_hex (own_d xx (48 : Int32))))), (.int (nar .byte (own_hex (own_d xx (44 : Int32))))), (.int (nar .byte (own_hex (own_d xx (40 : Int32))))), (.int (nar .byte (own_hex (own_d xx (36 : Int32))))), (.int (nar .byte (own_hex (own_d xx (32 : Int32))))), (.int (nar .byte (own_hex (own_d xx (28 : Int32))))), (.int (nar .byte (own_hex (own_d xx (24 : Int32))))), (.int (nar .byte (own_hex (own_d xx (20 : Int32))))), (.int (nar .byte (own_hex (own_d xx (16 : Int32))))), (.int (nar .byte (own_hex (own_d xx (12 : Int32))))), (.int (nar .byte (own_hex (own_d xx (8 : Int32))))), (.int (nar .byte (own_hex (own_d xx (4 : Int32))))), (.int (nar .byte (own_hex (own_d xx (0 : Int32))))), (.int (nar .byte (45 : Int32)))] xx (3 : Int32) f (2 : Int32) (nar .byte f) _ n0 Z0 V_b1 (by decide) rfl (by decide) hf) eT (by decide) 0 (by decide) (by rw [hml]; rfl) [(.ref b1), (.int (3 : Int32)), (.long xx), (.int f), (.int (2 : Int32))] (rest := []) (lenOf pd_2 rfl) rfl rfl (Nat.le_of_eq rfl) (by decide) (by decide) 196 (hb hby at_193) rfl (fun v T h88 Lc X eT q => ?_)
    obtain ⟨rfl, N', e'⟩ := q
    replace N := Fr.app N N'
    replace eT := eT.trans e'
    show Wout p e below _ T (mkF m 196 #[.val (.long xx), .second, .val (.int p2), .val (.int p3), .val (.int (3 : Int32)), .val (.int f), .val (.ref b1)] [(.int (1 : Int32))])
    refine o_ifF X hx 199 (hb hby at_196) rfl (by decide : ¬ (1 : Int32) = (0 : Int32)) ?_
    refine o_aload X hx 201 (hb hby at_199) rfl rfl rfl ?_
    refine o_iload X hx 203 (hb hby at_201) rfl rfl ?_
    refine o_lloadN X hx 204 (hb hby at_203) rfl rfl ?_
    refine o_iload X hx 206 (hb hby at_204) rfl rfl ?_
    refine o_iconst X hx 207 (3 : Int32) (hb hby at_206) rfl rfl ?_
    refine o_callS X hx hZ hown (hw _ (List.mem_of_getElem? (i := 7) rfl)) (hw _ (List.mem_of_getElem? (i := 8) rfl)) (hw _ (List.mem_of_getElem? (i := 9) rfl)) (hw _ (List.mem_of_getElem? (i := 10) rfl)) (by decide) (rm_okH l Z a0 hw [] b1 k1 [(.int (nar .byte f)), (.int (nar .byte f)), (.int (nar .byte f)), (.int (nar .byte (own_hex (own_d xx (60 : Int32))))), (.int (nar .byte (own_hex (own_d xx (56 : Int32))))), (.int (nar .byte (own_hex (own_d xx (52 : Int32))))), (.int (nar .byte (own_hex (own_d xx (48 : Int32))))), (.int (nar .byte (own_hex (own_d xx (44 : Int32))))), (.int (nar .byte (own_hex (own_d xx (40 : Int32))))), (.int (nar .byte (own_hex (own_d xx (36 : Int32))))), (.int (nar .byte (own_hex (own_d xx (32 : Int32))))), (.int (nar .byte (own_hex (own_d xx (28 : Int32))))), (.int (nar .byte (own_hex (own_d xx (24 : Int32))))), (.int (nar .byte (own_hex (own_d xx (20 : Int32))))), (.int (nar .byte (own_hex (own_d xx (16 : Int32))))), (.int (nar .byte (own_hex (own_d xx (12 : Int32))))), (.int (nar .byte (own_hex (own_d xx (8 : Int32))))), (.int (nar .byte (own_hex (own_d xx (4 : Int32))))), (.int (nar .byte (own_hex (own_d xx (0 : Int32))))), (.int (nar .byte (45 : Int32)))] xx (3 : Int32) f (3 : Int32) (nar .byte (own_hex (own_d xx (60 : Int32)))) _ n0 Z0 V_b1 (by decide) rfl (by decide) (by decide) (own_e0 xx)) eT (by decide) 0 (by decide) (by rw [hml]; rfl) [(.ref b1), (.int (3 : Int32)), (.long xx), (.int f), (.int (3 : Int32))] (rest := []) (lenOf pd_2 rfl) rfl rfl (Nat.le_of_eq rfl) (by decide) (by decide) 210 (hb hby at_207) rfl (fun v T h89 Lc X eT q => ?_)
    obtain ⟨rfl, N', e'⟩ := q
    replace N := Fr.app N N'
    replace eT := eT.trans e'
    show Wout p e below _ T (mkF m 210 #[.val (.long xx), .second, .val (.int p2), .val (.int p3), .val (.int (3 : Int32)), .val (.int f), .val (.ref b1)] [(.int (1 : Int32))])
    refine o_ifF X hx 213 (hb hby at_210) rfl (by decide : ¬ (1 : Int32) = (0 : Int32)) ?_
    refine o_aload X hx 215 (hb hby at_213) rfl rfl rfl ?_
    refine o_iload X hx 217 (hb hby at_215) rfl rfl ?_
    refine o_lloadN X hx 218 (hb hby at_217) rfl rfl ?_
    refine o_iload X hx 220 (hb hby at_218) rfl rfl ?_
    refine o_iconst X hx 221 (4 : Int32) (hb hby at_220) rfl rfl ?_
    refine o_callS X hx hZ hown (hw _ (List.mem_of_getElem? (i := 7) rfl)) (hw _ (List.mem_of_getElem? (i := 8) rfl)) (hw _ (List.mem_of_getElem? (i := 9) rfl)) (hw _ (List.mem_of_getElem? (i := 10) rfl)) (by decide) (rm_okH l Z a0 hw [] b1 k1 [(.int (nar .byte f)), (.int (nar .byte f)), (.int (nar .byte f)), (.int (nar .byte (own_hex (own_d xx (60 : Int32))))), (.int (nar .byte (own_hex (own_d xx (56 : Int32))))), (.int (nar .byte (own_hex (own_d xx (52 : Int32))))), (.int (nar .byte (own_hex (own_d xx (48 : Int32))))), (.int (nar .byte (own_hex (own_d xx (44 : Int32))))), (.int (nar .byte (own_hex (own_d xx (40 : Int32))))), (.int (nar .byte (own_hex (own_d xx (36 : Int32))))), (.int (nar .byte (own_hex (own_d xx (32 : Int32))))), (.int (nar .byte (own_hex (own_d xx (28 : Int32))))), (.int (nar .byte (own_hex (own_d xx (24 : Int32))))), (.int (nar .byte (own_hex (own_d xx (20 : Int32))))), (.int (nar .byte (own_hex (own_d xx (16 : Int32))))), (.int (nar .byte (own_hex (own_d xx (12 : Int32))))), (.int (nar .byte (own_hex (own_d xx (8 : Int32))))), (.int (nar .byte (own_hex (own_d xx (4 : Int32))))), (.int (nar .byte (own_hex (own_d xx (0 : Int32))))), (.int (nar .byte (45 : Int32)))] xx (3 : Int32) f (4 : Int32) (nar .byte (own_hex (own_d xx (56 : Int32)))) _ n0 Z0 V_b1 (by decide) rfl (by decide) (by decide) (own_e1 xx)) eT (by decide) 0 (by decide) (by rw [hml]; rfl) [(.ref b1), (.int (3 : Int32)), (.long xx), (.int f), (.int (4 : Int32))] (rest := []) (lenOf pd_2 rfl) rfl rfl (Nat.le_of_eq rfl) (by decide) (by decide) 224 (hb hby at_221) rfl (fun v T h90 Lc X eT q => ?_)
    obtain ⟨rfl, N', e'⟩ := q
    replace N := Fr.app N N'
    replace eT := eT.trans e'
    show Wout p e below _ T (mkF m 224 #[.val (.long xx), .second, .val (.int p2), .val (.int p3), .val (.int (3 : Int32)), .val (.int f), .val (.ref b1)] [(.int (1 : Int32))])
    refine o_ifF X hx 227 (hb hby at_224) rfl (by decide : ¬ (1 : Int32) = (0 : Int32)) ?_
    refine o_aload X hx 229 (hb hby at_227) rfl rfl rfl ?_
    refine o_iload X hx 231 (hb hby at_229) rfl rfl ?_
    refine o_lloadN X hx 232 (hb hby at_231) rfl rfl ?_
    refine o_iload X hx 234 (hb hby at_232) rfl rfl ?_
    refine o_iconst X hx 235 (5 : Int32) (hb hby at_234) rfl rfl ?_
    refine o_callS X hx hZ hown (hw _ (List.mem_of_getElem? (i := 7) rfl)) (hw _ (List.mem_of_getElem? (i := 8) rfl)) (hw _ (List.mem_of_getElem? (i := 9) rfl)) (hw _ (List.mem_of_getElem? (i := 10) rfl)) (by decide) (rm_okH l Z a0 hw [] b1 k1 [(.int (nar .byte f)), (.int (nar .byte f)), (.int (nar .byte f)), (.int (nar .byte (own_hex (own_d xx (60 : Int32))))), (.int (nar .byte (own_hex (own_d xx (56 : Int32))))), (.int (nar .byte (own_hex (own_d xx (52 : Int32))))), (.int (nar .byte (own_hex (own_d xx (48 : Int32))))), (.int (nar .byte (own_hex (own_d xx (44 : Int32))))), (.int (nar .byte (own_hex (own_d xx (40 : Int32))))), (.int (nar .byte (own_hex (own_d xx (36 : Int32))))), (.int (nar .byte (own_hex (own_d xx (32 : Int32))))), (.int (nar .byte (own_hex (own_d xx (28 : Int32))))), (.int (nar .byte (own_hex (own_d xx (24 : Int32))))), (.int (nar .byte (own_hex (own_d xx (20 : Int32))))), (.int (nar .byte (own_hex (own_d xx (16 : Int32))))), (.int (nar .byte (own_hex (own_d xx (12 : Int32))))), (.int (nar .byte (own_hex (own_d xx (8 : Int32))))), (.int (nar .byte (own_hex (own_d xx (4 : Int32))))), (.int (nar .byte (own_hex (own_d xx (0 : Int32))))), (.int (nar .byte (45 : Int32)))] xx (3 : Int32) f (5 : Int32) (nar .byte (own_hex (own_d xx (52 : Int32)))) _ n0 Z0 V_b1 (by decide) rfl (by decide) (by decide) (own_e2 xx)) eT (by decide) 0 (by decide) (by rw [hml]; rfl) [(.ref b1), (.int (3 : Int32)), (.long xx), (.int f), (.int (5 : Int32))] (rest := []) (lenOf pd_2 rfl) rfl rfl (Nat.le_of_eq rfl) (by decide) (by decide) 238 (hb hby at_235) rfl (fun v T h91 Lc X eT q => ?_)
    obtain ⟨rfl, N', e'⟩ := q
    replace N := Fr.app N N'
    replace eT := eT.trans e'
    show Wout p e below _ T (mkF m 238 #[.val (.long xx), .second, .val (.int p2), .val (.int p3), .val (.int (3 : Int32)), .val (.int f), .val (.ref b1)] [(.int (1 : Int32))])
    refine o_ifF X hx 241 (hb hby at_238) rfl (by decide : ¬ (1 : Int32) = (0 : Int32)) ?_
    refine o_aload X hx 243 (hb hby at_241) rfl rfl rfl ?_
    refine o_iload X hx 245 (hb hby at_243) rfl rfl ?_
    refine o_lloadN X hx 246 (hb hby at_245) rfl rfl ?_
    refine o_iload X hx 248 (hb hby at_246) rfl rfl ?_
    refine o_bipush X hx 250 (6 : Int32) (hb hby at_248) rfl rfl ?_
    refine o_callS X hx hZ hown (hw _ (List.mem_of_getElem? (i := 7) rfl)) (hw _ (List.mem_of_getElem? (i := 8) rfl)) (hw _ (List.mem_of_getElem? (i := 9) rfl)) (hw _ (List.mem_of_getElem? (i := 10) rfl)) (by decide) (rm_okH l Z a0 hw [] b1 k1 [(.int (nar .byte f)), (.int (nar .byte f)), (.int (nar .byte f)), (.int (nar .byte (own_hex (own_d xx (60 : Int32))))), (.int (nar .byte (own_hex (own_d xx (56 : Int32))))), (.int (nar .byte (own_hex (own_d xx (52 : Int32))))), (.int (nar .byte (own_hex (own_d xx (48 : Int32))))), (.int (nar .byte (own_hex (own_d xx (44 : Int32))))), (.int (nar .byte (own_hex (own_d xx (40 : Int32))))), (.int (nar .byte (own_hex (own_d xx (36 : Int32))))), (.int (nar .byte (own_hex (own_d xx (32 : Int32))))), (.int (nar .byte (own_hex (own_d xx (28 : Int32))))), (.int (nar .byte (own_hex (own_d xx (24 : Int32))))), (.int (nar .byte (own_hex (own_d xx (20 : Int32))))), (.int (nar .byte (own_hex (own_d xx (16 : Int32))))), (.int (nar .byte (own_hex (own_d xx (12 : Int32))))), (.int (nar .byte (own_hex (own_d xx (8 : Int32))))), (.int (nar .byte (own_hex (own_d xx (4 : Int32))))), (.int (nar .byte (own_hex (own_d xx (0 : Int32))))), (.int (nar .byte (45 : Int32)))] xx (3 : Int32) f (6 : Int32) (nar .byte (own_hex (own_d xx (48 : Int32)))) _ n0 Z0 V_b1 (by decide) rfl (by decide) (by decide) (own_e3 xx)) eT (by decide) 0 (by decide) (by rw [hml]; rfl) [(.ref b1), (.int (3 : Int32)), (.long xx), (.int f), (.int (6 : Int32))] (rest := []) (lenOf pd_2 rfl) rfl rfl (Nat.le_of_eq rfl) (by decide) (by decide) 253 (hb hby at_250) rfl (fun v T h92 Lc X eT q => ?_)
    obtain ⟨rfl, N', e'⟩ := q
    replace N := Fr.app N N'
    replace eT := eT.trans e'
    show Wout p e below _ T (mkF m 253 #[.val (.long xx), .second, .val (.int p2), .val (.int p3), .val (.int (3 : Int32)), .val (.int f), .val (.ref b1)] [(.int (1 : Int32))])
    refine o_ifF X hx 256 (hb hby at_253) rfl (by decide : ¬ (1 : Int32) = (0 : Int32)) ?_
    refine o_aload X hx 258 (hb hby at_256) rfl rfl rfl ?_
    refine o_iload X hx 260 (hb hby at_258) rfl rfl ?_
    refine o_lloadN X hx 261 (hb hby at_260) rfl rfl ?_
    refine o_iload X hx 263 (hb hby at_261) rfl rfl ?_
    refine o_bipush X hx 265 (7 : Int32) (hb hby at_263) rfl rfl ?_
    refine o_callS X hx hZ hown (hw _ (List.mem_of_getElem? (i := 7) rfl)) (hw _ (List.mem_of_getElem? (i := 8) rfl)) (hw _ (List.mem_of_getElem? (i := 9) rfl)) (hw _ (List.mem_of_getElem? (i := 10) rfl)) (by decide) (rm_okH l Z a0 hw [] b1 k1 [(.int (nar .byte f)), (.int (nar .byte f)), (.int (nar .byte f)), (.int (nar .byte (own_hex (own_d xx (60 : Int32))))), (.int (nar .byte (own_hex (own_d xx (56 : Int32))))), (.int (nar .byte (own_hex (own_d xx (52 : Int32))))), (.int (nar .byte (own_hex (own_d xx (48 : Int32))))), (.int (nar .byte (own_hex (own_d xx (44 : Int32))))), (.int (nar .byte (own_hex (own_d xx (40 : Int32))))), (.int (nar .byte (own_hex (own_d xx (36 : Int32))))), (.int (nar .byte (own_hex (own_d xx (32 : Int32))))), (.int (nar .byte (own_hex (own_d xx (28 : Int32))))), (.int (nar .byte (own_hex (own_d xx (24 : Int32))))), (.int (nar .byte (own_hex (own_d xx (20 : Int32))))), (.int (nar .byte (own_hex (own_d xx (16 : Int32))))), (.int (nar .byte (own_hex (own_d xx (12 : Int32))))), (.int (nar .byte (own_hex (own_d xx (8 : Int32))))), (.int (nar .byte (own_hex (own_d xx (4 : Int32))))), (.int (nar .byte (own_hex (own_d xx (0 : Int32))))), (.int (nar .byte (45 : Int32)))] xx (3 : Int32) f (7 : Int32) (nar .byte (own_hex (own_d xx (44 : Int32)))) _ n0 Z0 V_b1 (by decide) rfl (by decide) (by decide) (own_e4 xx)) eT (by decide) 0 (by decide) (by rw [hml]; rfl) [(.ref b1), (.int (3 : Int32)), (.long xx), (.int f), (.int (7 : Int32))] (rest := []) (lenOf pd_2 rfl) rfl rfl (Nat.le_of_eq rfl) (by decide) (by decide) 268 (hb hby at_265) rfl (fun v T h93 Lc X eT q => ?_)
    obtain ⟨rfl, N', e'⟩ := q
    replace N := Fr.app N N'
    replace eT := eT.trans e'
    show Wout p e below _ T (mkF m 268 #[.val (.long xx), .second, .val (.int p2), .val (.int p3), .val (.int (3 : Int32)), .val (.int f), .val (.ref b1)] [(.int (1 : Int32))])
    refine o_ifF X hx 271 (hb hby at_268) rfl (by decide : ¬ (1 : Int32) = (0 : Int32)) ?_
    refine o_aload X hx 273 (hb hby at_271) rfl rfl rfl ?_
    refine o_iload X hx 275 (hb hby at_273) rfl rfl ?_
    refine o_lloadN X hx 276 (hb hby at_275) rfl rfl ?_
    refine o_iload X hx 278 (hb hby at_276) rfl rfl ?_
    refine o_bipush X hx 280 (8 : Int32) (hb hby at_278) rfl rfl ?_
    refine o_callS X hx hZ hown (hw _ (List.mem_of_getElem? (i := 7) rfl)) (hw _ (List.mem_of_getElem? (i := 8) rfl)) (hw _ (List.mem_of_getElem? (i := 9) rfl)) (hw _ (List.mem_of_getElem? (i := 10) rfl)) (by decide) (rm_okH l Z a0 hw [] b1 k1 [(.int (nar .byte f)), (.int (nar .byte f)), (.int (nar .byte f)), (.int (nar .byte (own_hex (own_d xx (60 : Int32))))), (.int (nar .byte (own_hex (own_d xx (56 : Int32))))), (.int (nar .byte (own_hex (own_d xx (52 : Int32))))), (.int (nar .byte (own_hex (own_d xx (48 : Int32))))), (.int (nar .byte (own_hex (own_d xx (44 : Int32))))), (.int (nar .byte (own_hex (own_d xx (40 : Int32))))), (.int (nar .byte (own_hex (own_d xx (36 : Int32))))), (.int (nar .byte (own_hex (own_d xx (32 : Int32))))), (.int (nar .byte (own_hex (own_d xx (28 : Int32))))), (.int (nar .byte (own_hex (own_d xx (24 : Int32))))), (.int (nar .byte (own_hex (own_d xx (20 : Int32))))), (.int (nar .byte (own_hex (own_d xx (16 : Int32))))), (.int (nar .byte (own_hex (own_d xx (12 : Int32))))), (.int (nar .byte (own_hex (own_d xx (8 : Int32))))), (.int (nar .byte (own_hex (own_d xx (4 : Int32))))), (.int (nar .byte (own_hex (own_d xx (0 : Int32))))), (.int (nar .byte (45 : Int32)))] xx (3 : Int32) f (8 : Int32) (nar .byte (own_hex (own_d xx (40 : Int32)))) _ n0 Z0 V_b1 (by decide) rfl (by decide) (by decide) (own_e5 xx)) eT (by decide) 0 (by decide) (by rw [hml]; rfl) [(.ref b1), (.int (3 : Int32)), (.long xx), (.int f), (.int (8 : Int32))] (rest := []) (lenOf pd_2 rfl) rfl rfl (Nat.le_of_eq rfl) (by decide) (by decide) 283 (hb hby at_280) rfl (fun v T h94 Lc X eT q => ?_)
    obtain ⟨rfl, N', e'⟩ := q
    replace N := Fr.app N N'
    replace eT := eT.trans e'
    show Wout p e below _ T (mkF m 283 #[.val (.long xx), .second, .val (.int p2), .val (.int p3), .val (.int (3 : Int32)), .val (.int f), .val (.ref b1)] [(.int (1 : Int32))])
    refine o_ifF X hx 286 (hb hby at_283) rfl (by decide : ¬ (1 : Int32) = (0 : Int32)) ?_
    refine o_aload X hx 288 (hb hby at_286) rfl rfl rfl ?_
    refine o_iload X hx 290 (hb hby at_288) rfl rfl ?_
    refine o_lloadN X hx 291 (hb hby at_290) rfl rfl ?_
    refine o_iload X hx 293 (hb hby at_291) rfl rfl ?_
    refine o_bipush X hx 295 (9 : Int32) (hb hby at_293) rfl rfl ?_
    refine o_callS X hx hZ hown (hw _ (List.mem_of_getElem? (i := 7) rfl)) (hw _ (List.mem_of_getElem? (i := 8) rfl)) (hw _ (List.mem_of_getElem? (i := 9) rfl)) (hw _ (List.mem_of_getElem? (i := 10) rfl)) (by decide) (rm_okH l Z a0 hw [] b1 k1 [(.int (nar .byte f)), (.int (nar .byte f)), (.int (nar .byte f)), (.int (nar .byte (own_hex (own_d xx (60 : Int32))))), (.int (nar .byte (own_hex (own_d xx (56 : Int32))))), (.int (nar .byte (own_hex (own_d xx (52 : Int32))))), (.int (nar .byte (own_hex (own_d xx (48 : Int32))))), (.int (nar .byte (own_hex (own_d xx (44 : Int32))))), (.int (nar .byte (own_hex (own_d xx (40 : Int32))))), (.int (nar .byte (own_hex (own_d xx (36 : Int32))))), (.int (nar .byte (own_hex (own_d xx (32 : Int32))))), (.int (nar .byte (own_hex (own_d xx (28 : Int32))))), (.int (nar .byte (own_hex (own_d xx (24 : Int32))))), (.int (nar .byte (own_hex (own_d xx (20 : Int32))))), (.int (nar .byte (own_hex (own_d xx (16 : Int32))))), (.int (nar .byte (own_hex (own_d xx (12 : Int32))))), (.int (nar .byte (own_hex (own_d xx (8 : Int32))))), (.int (nar .byte (own_hex (own_d xx (4 : Int32))))), (.int (nar .byte (own_hex (own_d xx (0 : Int32))))), (.int (nar .byte (45 : Int32)))] xx (3 : Int32) f (9 : Int32) (nar .byte (own_hex (own_d xx (36 : Int32)))) _ n0 Z0 V_b1 (by decide) rfl (by decide) (by decide) (own_e6 xx)) eT (by decide) 0 (by decide) (by rw [hml]; rfl) [(.ref b1), (.int (3 : Int32)), (.long xx), (.int f), (.int (9 : Int32))] (rest := []) (lenOf pd_2 rfl) rfl rfl (Nat.le_of_eq rfl) (by decide) (by decide) 298 (hb hby at_295) rfl (fun v T h95 Lc X eT q => ?_)
    obtain ⟨rfl, N', e'⟩ := q
    replace N := Fr.app N N'
    replace eT := eT.trans e'
    show Wout p e below _ T (mkF m 298 #[.val (.long xx), .second, .val (.int p2), .val (.int p3), .val (.int (3 : Int32)), .val (.int f), .val (.ref b1)] [(.int (1 : Int32))])
    refine o_ifF X hx 301 (hb hby at_298) rfl (by decide : ¬ (1 : Int32) = (0 : Int32)) ?_
    refine o_aload X hx 303 (hb hby at_301) rfl rfl rfl ?_
    refine o_iload X hx 305 (hb hby at_303) rfl rfl ?_
    refine o_lloadN X hx 306 (hb hby at_305) rfl rfl ?_
    refine o_iload X hx 308 (hb hby at_306) rfl rfl ?_
    refine o_bipush X hx 310 (10 : Int32) (hb hby at_308) rfl rfl ?_
    refine o_callS X hx hZ hown (hw _ (List.mem_of_getElem? (i := 7) rfl)) (hw _ (List.mem_of_getElem? (i := 8) rfl)) (hw _ (List.mem_of_getElem? (i := 9) rfl)) (hw _ (List.mem_of_getElem? (i := 10) rfl)) (by decide) (rm_okH l Z a0 hw [] b1 k1 [(.int (nar .byte f)), (.int (nar .byte f)), (.int (nar .byte f)), (.int (nar .byte (own_hex (own_d xx (60 : Int32))))), (.int (nar .byte (own_hex (own_d xx (56 : Int32))))), (.int (nar .byte (own_hex (own_d xx (52 : Int32))))), (.int (nar .byte (own_hex (own_d xx (48 : Int32))))), (.int (nar .byte (own_hex (own_d xx (44 : Int32))))), (.int (nar .byte (own_hex (own_d xx (40 : Int32))))), (.int (nar .byte (own_hex (own_d xx (36 : Int32))))), (.int (nar .byte (own_hex (own_d xx (32 : Int32))))), (.int (nar .byte (own_hex (own_d xx (28 : Int32))))), (.int (nar .byte (own_hex (own_d xx (24 : Int32))))), (.int (nar .byte (own_hex (own_d xx (20 : Int32))))), (.int (nar .byte (own_hex (own_d xx (16 : Int32))))), (.int (nar .byte (own_hex (own_d xx (12 : Int32))))), (.int (nar .byte (own_hex (own_d xx (8 : Int32))))), (.int (nar .byte (own_hex (own_d xx (4 : Int32))))), (.int (nar .byte (own_hex (own_d xx (0 : Int32))))), (.int (nar .byte (45 : Int32)))] xx (3 : Int32) f (10 : Int32) (nar .byte (own_hex (own_d xx (32 : Int32)))) _ n0 Z0 V_b1 (by decide) rfl (by decide) (by decide) (own_e7 xx)) eT (by decide) 0 (by decide) (by rw [hml]; rfl) [(.ref b1), (.int (3 : Int32)), (.long xx), (.int f), (.int (10 : Int32))] (rest := []) (lenOf pd_2 rfl) rfl rfl (Nat.le_of_eq rfl) (by decide) (by decide) 313 (hb hby at_310) rfl (fun v T h96 Lc X eT q => ?_)
    obtain ⟨rfl, N', e'⟩ := q
    replace N := Fr.app N N'
    replace eT := eT.trans e'
    show Wout p e below _ T (mkF m 313 #[.val (.long xx), .second, .val (.int p2), .val (.int p3), .val (.int (3 : Int32)), .val (.int f), .val (.ref b1)] [(.int (1 : Int32))])
    refine o_ifF X hx 316 (hb hby at_313) rfl (by decide : ¬ (1 : Int32) = (0 : Int32)) ?_
    refine o_aload X hx 318 (hb hby at_316) rfl rfl rfl ?_
    refine o_iload X hx 320 (hb hby at_318) rfl rfl ?_
    refine o_lloadN X hx 321 (hb hby at_320) rfl rfl ?_
    refine o_iload X hx 323 (hb hby at_321) rfl rfl ?_
    refine o_bipush X hx 325 (11 : Int32) (hb hby at_323) rfl rfl ?_
    refine o_callS X hx hZ hown (hw _ (List.mem_of_getElem? (i := 7) rfl)) (hw _ (List.mem_of_getElem? (i := 8) rfl)) (hw _ (List.mem_of_getElem? (i := 9) rfl)) (hw _ (List.mem_of_getElem? (i := 10) rfl)) (by decide) (rm_okH l Z a0 hw [] b1 k1 [(.int (nar .byte f)), (.int (nar .byte f)), (.int (nar .byte f)), (.int (nar .byte (own_hex (own_d xx (60 : Int32))))), (.int (nar .byte (own_hex (own_d xx (56 : Int32))))), (.int (nar .byte (own_hex (own_d xx (52 : Int32))))), (.int (nar .byte (own_hex (own_d xx (48 : Int32))))), (.int (nar .byte (own_hex (own_d xx (44 : Int32))))), (.int (nar .byte (own_hex (own_d xx (40 : Int32))))), (.int (nar .byte (own_hex (own_d xx (36 : Int32))))), (.int (nar .byte (own_hex (own_d xx (32 : Int32))))), (.int (nar .byte (own_hex (own_d xx (28 : Int32))))), (.int (nar .byte (own_hex (own_d xx (24 : Int32))))), (.int (nar .byte (own_hex (own_d xx (20 : Int32))))), (.int (nar .byte (own_hex (own_d xx (16 : Int32))))), (.int (nar .byte (own_hex (own_d xx (12 : Int32))))), (.int (nar .byte (own_hex (own_d xx (8 : Int32))))), (.int (nar .byte (own_hex (own_d xx (4 : Int32))))), (.int (nar .byte (own_hex (own_d xx (0 : Int32))))), (.int (nar .byte (45 : Int32)))] xx (3 : Int32) f (11 : Int32) (nar .byte (own_hex (own_d xx (28 : Int32)))) _ n0 Z0 V_b1 (by decide) rfl (by decide) (by decide) (own_e8 xx)) eT (by decide) 0 (by decide) (by rw [hml]; rfl) [(.ref b1), (.int (3 : Int32)), (.long xx), (.int f), (.int (11 : Int32))] (rest := []) (lenOf pd_2 rfl) rfl rfl (Nat.le_of_eq rfl) (by decide) (by decide) 328 (hb hby at_325) rfl (fun v T h97 Lc X eT q => ?_)
    obtain ⟨rfl, N', e'⟩ := q
    replace N := Fr.app N N'
    replace eT := eT.trans e'
    show Wout p e below _ T (mkF m 328 #[.val (.long xx), .second, .val (.int p2), .val (.int p3), .val (.int (3 : Int32)), .val (.int f), .val (.ref b1)] [(.int (1 : Int32))])
    refine o_ifF X hx 331 (hb hby at_328) rfl (by decide : ¬ (1 : Int32) = (0 : Int32)) ?_
    refine o_aload X hx 333 (hb hby at_331) rfl rfl rfl ?_
    refine o_iload X hx 335 (hb hby at_333) rfl rfl ?_
    refine o_lloadN X hx 336 (hb hby at_335) rfl rfl ?_
    refine o_iload X hx 338 (hb hby at_336) rfl rfl ?_
    refine o_bipush X hx 340 (12 : Int32) (hb hby at_338) rfl rfl ?_
    refine o_callS X hx hZ hown (hw _ (List.mem_of_getElem? (i := 7) rfl)) (hw _ (List.mem_of_getElem? (i := 8) rfl)) (hw _ (List.mem_of_getElem? (i := 9) rfl)) (hw _ (List.mem_of_getElem? (i := 10) rfl)) (by decide) (rm_okH l Z a0 hw [] b1 k1 [(.int (nar .byte f)), (.int (nar .byte f)), (.int (nar .byte f)), (.int (nar .byte (own_hex (own_d xx (60 : Int32))))), (.int (nar .byte (own_hex (own_d xx (56 : Int32))))), (.int (nar .byte (own_hex (own_d xx (52 : Int32))))), (.int (nar .byte (own_hex (own_d xx (48 : Int32))))), (.int (nar .byte (own_hex (own_d xx (44 : Int32))))), (.int (nar .byte (own_hex (own_d xx (40 : Int32))))), (.int (nar .byte (own_hex (own_d xx (36 : Int32))))), (.int (nar .byte (own_hex (own_d xx (32 : Int32))))), (.int (nar .byte (own_hex (own_d xx (28 : Int32))))), (.int (nar .byte (own_hex (own_d xx (24 : Int32))))), (.int (nar .byte (own_hex (own_d xx (20 : Int32))))), (.int (nar .byte (own_hex (own_d xx (16 : Int32))))), (.int (nar .byte (own_hex (own_d xx (12 : Int32))))), (.int (nar .byte (own_hex (own_d xx (8 : Int32))))), (.int (nar .byte (own_hex (own_d xx (4 : Int32))))), (.int (nar .byte (own_hex (own_d xx (0 : Int32))))), (.int (nar .byte (45 : Int32)))] xx (3 : Int32) f (12 : Int32) (nar .byte (own_hex (own_d xx (24 : Int32)))) _ n0 Z0 V_b1 (by decide) rfl (by decide) (by decide) (own_e9 xx)) eT (by decide) 0 (by decide) (by rw [hml]; rfl) [(.ref b1), (.int (3 : Int32)), (.long xx), (.int f), (.int (12 : Int32))] (rest := []) (lenOf pd_2 rfl) rfl rfl (Nat.le_of_eq rfl) (by decide) (by decide) 343 (hb hby at_340) rfl (fun v T h98 Lc X eT q => ?_)
    obtain ⟨rfl, N', e'⟩ := q
    replace N := Fr.app N N'
    replace eT := eT.trans e'
    show Wout p e below _ T (mkF m 343 #[.val (.long xx), .second, .val (.int p2), .val (.int p3), .val (.int (3 : Int32)), .val (.int f), .val (.ref b1)] [(.int (1 : Int32))])
    refine o_ifF X hx 346 (hb hby at_343) rfl (by decide : ¬ (1 : Int32) = (0 : Int32)) ?_
    refine o_aload X hx 348 (hb hby at_346) rfl rfl rfl ?_
    refine o_iload X hx 350 (hb hby at_348) rfl rfl ?_
    refine o_lloadN X hx 351 (hb hby at_350) rfl rfl ?_
    refine o_iload X hx 353 (hb hby at_351) rfl rfl ?_
    refine o_bipush X hx 355 (13 : Int32) (hb hby at_353) rfl rfl ?_
    refine o_callS X hx hZ hown (hw _ (List.mem_of_getElem? (i := 7) rfl)) (hw _ (List.mem_of_getElem? (i := 8) rfl)) (hw _ (List.mem_of_getElem? (i := 9) rfl)) (hw _ (List.mem_of_getElem? (i := 10) rfl)) (by decide) (rm_okH l Z a0 hw [] b1 k1 [(.int (nar .byte f)), (.int (nar .byte f)), (.int (nar .byte f)), (.int (nar .byte (own_hex (own_d xx (60 : Int32))))), (.int (nar .byte (own_hex (own_d xx (56 : Int32))))), (.int (nar .byte (own_hex (own_d xx (52 : Int32))))), (.int (nar .byte (own_hex (own_d xx (48 : Int32))))), (.int (nar .byte (own_hex (own_d xx (44 : Int32))))), (.int (nar .byte (own_hex (own_d xx (40 : Int32))))), (.int (nar .byte (own_hex (own_d xx (36 : Int32))))), (.int (nar .byte (own_hex (own_d xx (32 : Int32))))), (.int (nar .byte (own_hex (own_d xx (28 : Int32))))), (.int (nar .byte (own_hex (own_d xx (24 : Int32))))), (.int (nar .byte (own_hex (own_d xx (20 : Int32))))), (.int (nar .byte (own_hex (own_d xx (16 : Int32))))), (.int (nar .byte (own_hex (own_d xx (12 : Int32))))), (.int (nar .byte (own_hex (own_d xx (8 : Int32))))), (.int (nar .byte (own_hex (own_d xx (4 : Int32))))), (.int (nar .byte (own_hex (own_d xx (0 : Int32))))), (.int (nar .byte (45 : Int32)))] xx (3 : Int32) f (13 : Int32) (nar .byte (own_hex (own_d xx (20 : Int32)))) _ n0 Z0 V_b1 (by decide) rfl (by decide) (by decide) (own_e10 xx)) eT (by decide) 0 (by decide) (by rw [hml]; rfl) [(.ref b1), (.int (3 : Int32)), (.long xx), (.int f), (.int (13 : Int32))] (rest := []) (lenOf pd_2 rfl) rfl rfl (Nat.le_of_eq rfl) (by decide) (by decide) 358 (hb hby at_355) rfl (fun v T h99 Lc X eT q => ?_)
    obtain ⟨rfl, N', e'⟩ := q
    replace N := Fr.app N N'
    replace eT := eT.trans e'
    show Wout p e below _ T (mkF m 358 #[.val (.long xx), .second, .val (.int p2), .val (.int p3), .val (.int (3 : Int32)), .val (.int f), .val (.ref b1)] [(.int (1 : Int32))])
    refine o_ifF X hx 361 (hb hby at_358) rfl (by decide : ¬ (1 : Int32) = (0 : Int32)) ?_
    refine o_aload X hx 363 (hb hby at_361) rfl rfl rfl ?_
    refine o_iload X hx 365 (hb hby at_363) rfl rfl ?_
    refine o_lloadN X hx 366 (hb hby at_365) rfl rfl ?_
    refine o_iload X hx 368 (hb hby at_366) rfl rfl ?_
    refine o_bipush X hx 370 (14 : Int32) (hb hby at_368) rfl rfl ?_
    refine o_callS X hx hZ hown (hw _ (List.mem_of_getElem? (i := 7) rfl)) (hw _ (List.mem_of_getElem? (i := 8) rfl)) (hw _ (List.mem_of_getElem? (i := 9) rfl)) (hw _ (List.mem_of_getElem? (i := 10) rfl)) (by decide) (rm_okH l Z a0 hw [] b1 k1 [(.int (nar .byte f)), (.int (nar .byte f)), (.int (nar .byte f)), (.int (nar .byte (own_hex (own_d xx (60 : Int32))))), (.int (nar .byte (own_hex (own_d xx (56 : Int32))))), (.int (nar .byte (own_hex (own_d xx (52 : Int32))))), (.int (nar .byte (own_hex (own_d xx (48 : Int32))))), (.int (nar .byte (own_hex (own_d xx (44 : Int32))))), (.int (nar .byte (own_hex (own_d xx (40 : Int32))))), (.int (nar .byte (own_hex (own_d xx (36 : Int32))))), (.int (nar .byte (own_hex (own_d xx (32 : Int32))))), (.int (nar .byte (own_hex (own_d xx (28 : Int32))))), (.int (nar .byte (own_hex (own_d xx (24 : Int32))))), (.int (nar .byte (own_hex (own_d xx (20 : Int32))))), (.int (nar .byte (own_hex (own_d xx (16 : Int32))))), (.int (nar .byte (own_hex (own_d xx (12 : Int32))))), (.int (nar .byte (own_hex (own_d xx (8 : Int32))))), (.int (nar .byte (own_hex (own_d xx (4 : Int32))))), (.int (nar .byte (own_hex (own_d xx (0 : Int32))))), (.int (nar .byte (45 : Int32)))] xx (3 : Int32) f (14 : Int32) (nar .byte (own_hex (own_d xx (16 : Int32)))) _ n0 Z0 V_b1 (by decide) rfl (by decide) (by decide) (own_e11 xx)) eT (by decide) 0 (by decide) (by rw [hml]; rfl) [(.ref b1), (.int (3 : Int32)), (.long xx), (.int f), (.int (14 : Int32))] (rest := []) (lenOf pd_2 rfl) rfl rfl (Nat.le_of_eq rfl) (by decide) (by decide) 373 (hb hby at_370) rfl (fun v T h100 Lc X eT q => ?_)
    obtain ⟨rfl, N', e'⟩ := q
    replace N := Fr.app N N'
    replace eT := eT.trans e'
    show Wout p e below _ T (mkF m 373 #[.val (.long xx), .second, .val (.int p2), .val (.int p3), .val (.int (3 : Int32)), .val (.int f), .val (.ref b1)] [(.int (1 : Int32))])
    refine o_ifF X hx 376 (hb hby at_373) rfl (by decide : ¬ (1 : Int32) = (0 : Int32)) ?_
    refine o_aload X hx 378 (hb hby at_376) rfl rfl rfl ?_
    refine o_iload X hx 380 (hb hby at_378) rfl rfl ?_
    refine o_lloadN X hx 381 (hb hby at_380) rfl rfl ?_
    refine o_iload X hx 383 (hb hby at_381) rfl rfl ?_
    refine o_bipush X hx 385 (15 : Int32) (hb hby at_383) rfl rfl ?_
    refine o_callS X hx hZ hown (hw _ (List.mem_of_getElem? (i := 7) rfl)) (hw _ (List.mem_of_getElem? (i := 8) rfl)) (hw _ (List.mem_of_getElem? (i := 9) rfl)) (hw _ (List.mem_of_getElem? (i := 10) rfl)) (by decide) (rm_okH l Z a0 hw [] b1 k1 [(.int (nar .byte f)), (.int (nar .byte f)), (.int (nar .byte f)), (.int (nar .byte (own_hex (own_d xx (60 : Int32))))), (.int (nar .byte (own_hex (own_d xx (56 : Int32))))), (.int (nar .byte (own_hex (own_d xx (52 : Int32))))), (.int (nar .byte (own_hex (own_d xx (48 : Int32))))), (.int (nar .byte (own_hex (own_d xx (44 : Int32))))), (.int (nar .byte (own_hex (own_d xx (40 : Int32))))), (.int (nar .byte (own_hex (own_d xx (36 : Int32))))), (.int (nar .byte (own_hex (own_d xx (32 : Int32))))), (.int (nar .byte (own_hex (own_d xx (28 : Int32))))), (.int (nar .byte (own_hex (own_d xx (24 : Int32))))), (.int (nar .byte (own_hex (own_d xx (20 : Int32))))), (.int (nar .byte (own_hex (own_d xx (16 : Int32))))), (.int (nar .byte (own_hex (own_d xx (12 : Int32))))), (.int (nar .byte (own_hex (own_d xx (8 : Int32))))), (.int (nar .byte (own_hex (own_d xx (4 : Int32))))), (.int (nar .byte (own_hex (own_d xx (0 : Int32))))), (.int (nar .byte (45 : Int32)))] xx (3 : Int32) f (15 : Int32) (nar .byte (own_hex (own_d xx (12 : Int32)))) _ n0 Z0 V_b1 (by decide) rfl (by decide) (by decide) (own_e12 xx)) eT (by decide) 0 (by decide) (by rw [hml]; rfl) [(.ref b1), (.int (3 : Int32)), (.long xx), (.int f), (.int (15 : Int32))] (rest := []) (lenOf pd_2 rfl) rfl rfl (Nat.le_of_eq rfl) (by decide) (by decide) 388 (hb hby at_385) rfl (fun v T h101 Lc X eT q => ?_)
    obtain ⟨rfl, N', e'⟩ := q
    replace N := Fr.app N N'
    replace eT := eT.trans e'
    show Wout p e below _ T (mkF m 388 #[.val (.long xx), .second, .val (.int p2), .val (.int p3), .val (.int (3 : Int32)), .val (.int f), .val (.ref b1)] [(.int (1 : Int32))])
    refine o_ifF X hx 391 (hb hby at_388) rfl (by decide : ¬ (1 : Int32) = (0 : Int32)) ?_
    refine o_aload X hx 393 (hb hby at_391) rfl rfl rfl ?_
    refine o_iload X hx 395 (hb hby at_393) rfl rfl ?_
    refine o_lloadN X hx 396 (hb hby at_395) rfl rfl ?_
    refine o_iload X hx 398 (hb hby at_396) rfl rfl ?_
    refine o_bipush X hx 400 (16 : Int32) (hb hby at_398) rfl rfl ?_
    refine o_callS X hx hZ hown (hw _ (List.mem_of_getElem? (i := 7) rfl)) (hw _ (List.mem_of_getElem? (i := 8) rfl)) (hw _ (List.mem_of_getElem? (i := 9) rfl)) (hw _ (List.mem_of_getElem? (i := 10) rfl)) (by decide) (rm_okH l Z a0 hw [] b1 k1 [(.int (nar .byte f)), (.int (nar .byte f)), (.int (nar .byte f)), (.int (nar .byte (own_hex (own_d xx (60 : Int32))))), (.int (nar .byte (own_hex (own_d xx (56 : Int32))))), (.int (nar .byte (own_hex (own_d xx (52 : Int32))))), (.int (nar .byte (own_hex (own_d xx (48 : Int32))))), (.int (nar .byte (own_hex (own_d xx (44 : Int32))))), (.int (nar .byte (own_hex (own_d xx (40 : Int32))))), (.int (nar .byte (own_hex (own_d xx (36 : Int32))))), (.int (nar .byte (own_hex (own_d xx (32 : Int32))))), (.int (nar .byte (own_hex (own_d xx (28 : Int32))))), (.int (nar .byte (own_hex (own_d xx (24 : Int32))))), (.int (nar .byte (own_hex (own_d xx (20 : Int32))))), (.int (nar .byte (own_hex (own_d xx (16 : Int32))))), (.int (nar .byte (own_hex (own_d xx (12 : Int32))))), (.int (nar .byte (own_hex (own_d xx (8 : Int32))))), (.int (nar .byte (own_hex (own_d xx (4 : Int32))))), (.int (nar .byte (own_hex (own_d xx (0 : Int32))))), (.int (nar .byte (45 : Int32)))] xx (3 : Int32) f (16 : Int32) (nar .byte (own_hex (own_d xx (8 : Int32)))) _ n0 Z0 V_b1 (by decide) rfl (by decide) (by decide) (own_e13 xx)) eT (by decide) 0 (by decide) (by rw [hml]; rfl) [(.ref b1), (.int (3 : Int32)), (.long xx), (.int f), (.int (16 : Int32))] (rest := []) (lenOf pd_2 rfl) rfl rfl (Nat.le_of_eq rfl) (by decide) (by decide) 403 (hb hby at_400) rfl (fun v T h102 Lc X eT q => ?_)
    obtain ⟨rfl, N', e'⟩ := q
    replace N := Fr.app N N'
    replace eT := eT.trans e'
    show Wout p e below _ T (mkF m 403 #[.val (.long xx), .second, .val (.int p2), .val (.int p3), .val (.int (3 : Int32)), .val (.int f), .val (.ref b1)] [(.int (1 : Int32))])
    refine o_ifF X hx 406 (hb hby at_403) rfl (by decide : ¬ (1 : Int32) = (0 : Int32)) ?_
    refine o_aload X hx 408 (hb hby at_406) rfl rfl rfl ?_
    refine o_iload X hx 410 (hb hby at_408) rfl rfl ?_
    refine o_lloadN X hx 411 (hb hby at_410) rfl rfl ?_
    refine o_iload X hx 413 (hb hby at_411) rfl rfl ?_
    refine o_bipush X hx 415 (17 : Int32) (hb hby at_413) rfl rfl ?_
    refine o_callS X hx hZ hown (hw _ (List.mem_of_getElem? (i := 7) rfl)) (hw _ (List.mem_of_getElem? (i := 8) rfl)) (hw _ (List.mem_of_getElem? (i := 9) rfl)) (hw _ (List.mem_of_getElem? (i := 10) rfl)) (by decide) (rm_okH l Z a0 hw [] b1 k1 [(.int (nar .byte f)), (.int (nar .byte f)), (.int (nar .byte f)), (.int (nar .byte (own_hex (own_d xx (60 : Int32))))), (.int (nar .byte (own_hex (own_d xx (56 : Int32))))), (.int (nar .byte (own_hex (own_d xx (52 : Int32))))), (.int (nar .byte (own_hex (own_d xx (48 : Int32))))), (.int (nar .byte (own_hex (own_d xx (44 : Int32))))), (.int (nar .byte (own_hex (own_d xx (40 : Int32))))), (.int (nar .byte (own_hex (own_d xx (36 : Int32))))), (.int (nar .byte (own_hex (own_d xx (32 : Int32))))), (.int (nar .byte (own_hex (own_d xx (28 : Int32))))), (.int (nar .byte (own_hex (own_d xx (24 : Int32))))), (.int (nar .byte (own_hex (own_d xx (20 : Int32))))), (.int (nar .byte (own_hex (own_d xx (16 : Int32))))), (.int (nar .byte (own_hex (own_d xx (12 : Int32))))), (.int (nar .byte (own_hex (own_d xx (8 : Int32))))), (.int (nar .byte (own_hex (own_d xx (4 : Int32))))), (.int (nar .byte (own_hex (own_d xx (0 : Int32))))), (.int (nar .byte (45 : Int32)))] xx (3 : Int32) f (17 : Int32) (nar .byte (own_hex (own_d xx (4 : Int32)))) _ n0 Z0 V_b1 (by decide) rfl (by decide) (by decide) (own_e14 xx)) eT (by decide) 0 (by decide) (by rw [hml]; rfl) [(.ref b1), (.int (3 : Int32)), (.long xx), (.int f), (.int (17 : Int32))] (rest := []) (lenOf pd_2 rfl) rfl rfl (Nat.le_of_eq rfl) (by decide) (by decide) 418 (hb hby at_415) rfl (fun v T h103 Lc X eT q => ?_)
    obtain ⟨rfl, N', e'⟩ := q
    replace N := Fr.app N N'
    replace eT := eT.trans e'
    show Wout p e below _ T (mkF m 418 #[.val (.long xx), .second, .val (.int p2), .val (.int p3), .val (.int (3 : Int32)), .val (.int f), .val (.ref b1)] [(.int (1 : Int32))])
    refine o_ifF X hx 421 (hb hby at_418) rfl (by decide : ¬ (1 : Int32) = (0 : Int32)) ?_
    refine o_aload X hx 423 (hb hby at_421) rfl rfl rfl ?_
    refine o_iload X hx 425 (hb hby at_423) rfl rfl ?_
    refine o_lloadN X hx 426 (hb hby at_425) rfl rfl ?_
    refine o_iload X hx 428 (hb hby at_426) rfl rfl ?_
    refine o_bipush X hx 430 (18 : Int32) (hb hby at_428) rfl rfl ?_
    refine o_callS X hx hZ hown (hw _ (List.mem_of_getElem? (i := 7) rfl)) (hw _ (List.mem_of_getElem? (i := 8) rfl)) (hw _ (List.mem_of_getElem? (i := 9) rfl)) (hw _ (List.mem_of_getElem? (i := 10) rfl)) (by decide) (rm_okH l Z a0 hw [] b1 k1 [(.int (nar .byte f)), (.int (nar .byte f)), (.int (nar .byte f)), (.int (nar .byte (own_hex (own_d xx (60 : Int32))))), (.int (nar .byte (own_hex (own_d xx (56 : Int32))))), (.int (nar .byte (own_hex (own_d xx (52 : Int32))))), (.int (nar .byte (own_hex (own_d xx (48 : Int32))))), (.int (nar .byte (own_hex (own_d xx (44 : Int32))))), (.int (nar .byte (own_hex (own_d xx (40 : Int32))))), (.int (nar .byte (own_hex (own_d xx (36 : Int32))))), (.int (nar .byte (own_hex (own_d xx (32 : Int32))))), (.int (nar .byte (own_hex (own_d xx (28 : Int32))))), (.int (nar .byte (own_hex (own_d xx (24 : Int32))))), (.int (nar .byte (own_hex (own_d xx (20 : Int32))))), (.int (nar .byte (own_hex (own_d xx (16 : Int32))))), (.int (nar .byte (own_hex (own_d xx (12 : Int32))))), (.int (nar .byte (own_hex (own_d xx (8 : Int32))))), (.int (nar .byte (own_hex (own_d xx (4 : Int32))))), (.int (nar .byte (own_hex (own_d xx (0 : Int32))))), (.int (nar .byte (45 : Int32)))] xx (3 : Int32) f (18 : Int32) (nar .byte (own_hex (own_d xx (0 : Int32)))) _ n0 Z0 V_b1 (by decide) rfl (by decide) (by decide) (own_e15 xx)) eT (by decide) 0 (by decide) (by rw [hml]; rfl) [(.ref b1), (.int (3 : Int32)), (.long xx), (.int f), (.int (18 : Int32))] (rest := []) (lenOf pd_2 rfl) rfl rfl (Nat.le_of_eq rfl) (by decide) (by decide) 433 (hb hby at_430) rfl (fun v T h104 Lc X eT q => ?_)
    obtain ⟨rfl, N', e'⟩ := q
    replace N := Fr.app N N'
    replace eT := eT.trans e'
    show Wout p e below _ T (mkF m 433 #[.val (.long xx), .second, .val (.int p2), .val (.int p3), .val (.int (3 : Int32)), .val (.int f), .val (.ref b1)] [(.int (1 : Int32))])
    refine o_ifF X hx 436 (hb hby at_433) rfl (by decide : ¬ (1 : Int32) = (0 : Int32)) ?_
    refine o_aload X hx 438 (hb hby at_436) rfl rfl rfl ?_
    refine o_iload X hx 440 (hb hby at_438) rfl rfl ?_
    refine o_lloadN X hx 441 (hb hby at_440) rfl rfl ?_
    refine o_iload X hx 443 (hb hby at_441) rfl rfl ?_
    refine o_bipush X hx 445 (19 : Int32) (hb hby at_443) rfl rfl ?_
    refine o_callS X hx hZ hown (hw _ (List.mem_of_getElem? (i := 7) rfl)) (hw _ (List.mem_of_getElem? (i := 8) rfl)) (hw _ (List.mem_of_getElem? (i := 9) rfl)) (hw _ (List.mem_of_getElem? (i := 10) rfl)) (by decide) (rm_okD l Z a0 hw [] b1 k1 [(.int (nar .byte f)), (.int (nar .byte f)), (.int (nar .byte f)), (.int (nar .byte (own_hex (own_d xx (60 : Int32))))), (.int (nar .byte (own_hex (own_d xx (56 : Int32))))), (.int (nar .byte (own_hex (own_d xx (52 : Int32))))), (.int (nar .byte (own_hex (own_d xx (48 : Int32))))), (.int (nar .byte (own_hex (own_d xx (44 : Int32))))), (.int (nar .byte (own_hex (own_d xx (40 : Int32))))), (.int (nar .byte (own_hex (own_d xx (36 : Int32))))), (.int (nar .byte (own_hex (own_d xx (32 : Int32))))), (.int (nar .byte (own_hex (own_d xx (28 : Int32))))), (.int (nar .byte (own_hex (own_d xx (24 : Int32))))), (.int (nar .byte (own_hex (own_d xx (20 : Int32))))), (.int (nar .byte (own_hex (own_d xx (16 : Int32))))), (.int (nar .byte (own_hex (own_d xx (12 : Int32))))), (.int (nar .byte (own_hex (own_d xx (8 : Int32))))), (.int (nar .byte (own_hex (own_d xx (4 : Int32))))), (.int (nar .byte (own_hex (own_d xx (0 : Int32))))), (.int (nar .byte (45 : Int32)))] xx (3 : Int32) f (19 : Int32) (nar .byte (45 : Int32)) _ n0 Z0 V_b1 (by decide) rfl (by decide) (by decide) (by decide) (by decide)) eT (by decide) 0 (by decide) (by rw [hml]; rfl) [(.ref b1), (.int (3 : Int32)), (.long xx), (.int f), (.int (19 : Int32))] (rest := []) (lenOf pd_2 rfl) rfl rfl (Nat.le_of_eq rfl) (by decide) (by decide) 448 (hb hby at_445) rfl (fun v T h105 Lc X eT q => ?_)
    obtain ⟨rfl, N', e'⟩ := q
    replace N := Fr.app N N'
    replace eT := eT.trans e'
    show Wout p e below _ T (mkF m 448 #[.val (.long xx), .second, .val (.int p2), .val (.int p3), .val (.int (3 : Int32)), .val (.int f), .val (.ref b1)] [(.int (1 : Int32))])
    refine o_ifF X hx 451 (hb hby at_448) rfl (by decide : ¬ (1 : Int32) = (0 : Int32)) ?_
    refine o_iconst X hx 452 (1 : Int32) (hb hby at_451) rfl rfl ?_
    refine o_goto X hx 456 (hb hby at_452) rfl ?_
    exact o_retI X hx hlk hret rfl (by simp) (hb hby at_456) (by decide) (by decide) (by rw [eT]; exact ⟨rfl, N, trivial⟩)
theorem own_or {args : Array Value} {s : State} {idx : List Nat} {a b : Jvm.Cond} (h : (Jvm.Cond.or a b).value args s none s idx = some true) (g : a.value args s none s idx = some false) : b.value args s none s idx = some true := by
  simpa [Cond.value, g] using h
theorem own_x {x j : Int32} {k : Int32} (hk : 0 ≤ k.toInt ∧ k.toInt < 100) (hj : 0 ≤ j.toInt ∧ j.toInt < 16) (h : x.toInt64 = j.toInt64 + k.toInt64) : x = k + j := by
  have e := congrArg Int64.toInt h
  rw [Int64.toInt_add, Int32.toInt_toInt64, Int32.toInt_toInt64, Int32.toInt_toInt64, XT.bmod64 ⟨by omega, by omega⟩] at e
  apply Int32.toInt_inj.mp
  rw [XT.add32 ⟨by omega, by omega⟩]
  omega
theorem own_start {s : State} {args : Array Value} {a : Addr} {c : Cell} {t : Term} (hf : Fit s) (et : ∀ idx, t.eval args s none idx s = some (.ref a)) (A : Arr s s.heap a c .byte)
    (h2 : (Jvm.Cond.eq (.length t) (.int 16)).value args s none s [] = some true)
    (h3 : (Jvm.Cond.all t (.or (.le (.int 10) (.index 0)) (.eq (.op1 .i2l (.elem t (.index 0))) (.op2 .ladd (.op1 .i2l (.index 0)) (.long 48))))).value args s none s [] = some true)
    (h4 : (Jvm.Cond.all t (.or (.lt (.index 0) (.int 10)) (.eq (.op1 .i2l (.elem t (.index 0))) (.op2 .ladd (.op1 .i2l (.index 0)) (.long 55))))).value args s none s [] = some true) :
    Arv s s.heap a c.cls .byte 16 own_hs (.int 0) := by
  have hA := A.fin (Vm.Alike.refl _)
  have e2 : (Term.length t).eval args s none [] s = some (.int 16) := eqv_i rfl h2
  have hsz : c.slots.size = 16 := by
    by_cases hlt : c.slots.size < 2 ^ 31
    · have q : c.slots.size.toInt32 = 16 := by
        have q0 := (len_f (et []) hA hlt).symm.trans e2
        simpa using q0
      have q2 := congrArg Int32.toInt q
      rw [len_toInt hlt] at q2
      have h16 : (16 : Int32).toInt = 16 := rfl
      omega
    · exfalso
      simp [Term.eval, et, hA, hlt] at e2
  have el : ∀ j : Int32, ¬ j < 0 → j < 16 → c.slots[j.toNatClampNeg]? = some (.int (own_hex j)) := by
    intro j hj hj2
    have h16 : (16 : Int32).toInt = 16 := rfl
    have h10 : (10 : Int32).toInt = 10 := rfl
    have en := nat_of hj
    have ej := Int32.lt_iff_toInt_lt.mp hj2
    have hin : ¬ (j < 0 ∨ c.slots.size ≤ j.toNatClampNeg) := fun q => q.elim hj (fun q => by omega)
    obtain ⟨v, hv, hfv⟩ := elem_fit hf A hin
    obtain ⟨x, rfl⟩ := fit_I hfv (by simp)
    have eE : (Term.elem t (.index 0)).eval args s none [j.toNatClampNeg] s = some (.int x) := (elem_f (et _) (idx_at hj) hA hj).trans hv
    have eI : (Term.index 0).eval args s none [j.toNatClampNeg] s = some (.int j) := idx_at hj
    have q3 := Cond.all_elim (et []) hA h3 j.toNatClampNeg (by omega)
    have q4 := Cond.all_elim (et []) hA h4 j.toNatClampNeg (by omega)
    rw [hv]
    unfold own_hex
    by_cases hlt : j < 10
    · rw [if_pos hlt]
      have q5 := own_or q3 (nay (Cond.le_ints rfl eI) (by rw [Int32.le_iff_toInt_le]; have := Int32.lt_iff_toInt_lt.mp hlt; omega))
      have q6 := eqv_l ((op2_f (i2l_at eI) (long_at 48)).trans rfl) q5
      have q7 : x.toInt64 = j.toInt64 + 48 := by rw [i2l_at eE] at q6; simpa using q6
      rw [own_x (k := 48) (by decide) (by omega) q7]
    · rw [if_neg hlt]
      have q5 := own_or q4 (nay (Cond.lt_ints eI rfl) hlt)
      have q6 := eqv_l ((op2_f (i2l_at eI) (long_at 55)).trans rfl) q5
      have q7 : x.toInt64 = j.toInt64 + 55 := by rw [i2l_at eE] at q6; simpa using q6
      rw [own_x (k := 55) (by decide) (by omega) q7]
  have el2 : ∀ k, k < 16 → c.slots[k]? = some (own_hs.getD k (.int 0)) := by
    intro k hk
    have ei : (Int32.ofNat k).toInt = k := Int32.toInt_ofNat_of_lt (by omega)
    obtain ⟨i1, i2⟩ := own_idx (d := Int32.ofNat k) (by omega) (by omega)
    have q := el _ i1 i2
    rw [← own_hsat (by omega) (by omega)] at q
    have en := nat_of i1
    have e3 : (Int32.ofNat k).toNatClampNeg = k := by omega
    rw [e3] at q
    exact q
  refine ⟨c, A, rfl, hsz, by decide, fun k hk => el2 k (by omega), fun i hi => ?_⟩
  rw [hsz] at hi
  match i, hi with
  | 0, _ | 1, _ | 2, _ | 3, _ | 4, _ | 5, _ | 6, _ | 7, _ | 8, _ | 9, _ | 10, _ | 11, _ | 12, _ | 13, _ | 14, _ | 15, _ => rfl
  | n + 16, h => omega
set_option maxRecDepth 65536 in
set_option maxHeartbeats 40000000 in
theorem comes_1 {Post : Tables → Env → Array Value → State → Outcome → State → Prop} (hpost : ∀ tb e args s v u, (limb_1_1.after args s (.returned v) u = true ∧ limb_1_2.after args s (.returned v) u = true ∧ True) → FrameEnd s (.returned v) u (Jvm.fieldLocs frame_1_writes args s ++ Jvm.arrayLocs frame_1_arrays args s ++ Jvm.staticLocs frame_1_statics s) 16 128 → Post tb e args s (.returned v) u) :
    ArmFor flags0 classFile x code maxLocals ret World_1 tables_1 room_1 Calls_1 rest_1 Pre_1 Post := by
  intro l hfl _ _ p e ha hc hk s m args below hf hA hF happ hP
  obtain ⟨hcalls, hrest, hpre⟩ := hP
  obtain ⟨-, -, -, hnamed, -, -, -, hat⟩ := (Spec.applies_iff hf).mp happ
  obtain ⟨hg, hn⟩ := and_e (Cond.before_iff.mp (show (Jvm.Cond.and given_1 narrow_1).before args s = true from hpre))
  obtain ⟨h1, hgs⟩ := and_e hg
  obtain ⟨w0, w1, w2, rfl⟩ : ∃ w0 w1 w2 : Value, args = #[w0, w1, w2] := by
    have hs : args.size = 3 := by simpa [Cond.value, given_1] using h1
    obtain ⟨L⟩ := args
    match L, hs with
    | [w0, w1, w2], _ => exact ⟨w0, w1, w2, rfl⟩
  have hw := fun d (hd : d ∈ tables_1) => atoms_spec (ws := Jvm.Cond.code x code maxLocals ret :: tables_1) hat d (List.mem_cons_of_mem _ hd)
  have hfit : Fit s := fun {y c} hc i hi => by
    obtain ⟨ha, rfl⟩ := Array.getElem?_eq_some_iff.mp hc
    have q := List.all_eq_true.mp ((Array.all_eq_true_iff_forall_mem.mp hF) _ (Array.getElem_mem ha)) i (List.mem_range.mpr hi)
    simpa [Array.getElem?_eq_getElem hi] using q
  obtain ⟨hg0, hgs⟩ := and_e hgs
  obtain ⟨i0, e0⟩ := isL_v hg0
  obtain rfl : w0 = (.long i0) := Option.some.inj e0
  obtain ⟨hg1, hgs⟩ := and_e hgs
  obtain ⟨i1, e1⟩ := is_v hg1
  obtain rfl : w1 = (.int i1) := Option.some.inj e1
  obtain ⟨i2, e2⟩ := is_v hgs
  obtain rfl : w2 = (.int i2) := Option.some.inj e2
  obtain ⟨hn1, hn⟩ := and_e hn
  obtain ⟨hn2, hn⟩ := and_e hn
  obtain ⟨hn3, hn4⟩ := and_e hn
  obtain ⟨hxa, ev⟩ := arr_v hn1
  have SH := Sta.start ev (Or.inr ⟨(hw _ (List.mem_of_getElem? (i := 3) rfl)), (hw _ (List.mem_of_getElem? (i := 6) rfl))⟩)
  obtain ⟨ch, AH⟩ := Arr.start ev hn1
  have VH := own_start hfit (fun idx => ev) AH hn2 hn3 hn4
  obtain ⟨n, o, h1, h2, h3, _, L, rfl, ⟨rfl, N, _⟩, hq⟩ := rm_law l s _ hw tables_1 i0 i1 i2 hxa ch.cls s.heap s.heap.size (Nat.le_refl _) (Old.start s) SH VH p e ha hc hk s m _ below hf ((Spec.applies_iff_loose hf).mp happ).1 ⟨rfl, State.Warmed39.refl s, rfl⟩ trivial
  refine ⟨n, _, h1, h2, h3, hpost _ _ _ _ _ _ ⟨Cond.after_iff.mpr rfl, Cond.after_iff.mpr (eq_i res_at (Term.int_eval (1)) rfl), trivial⟩ ⟨hq.1, hq.2.1, (hq.2.2.sift fun y hy => Or.inr (N y hy)).mono (by decide) (by decide)⟩⟩
theorem main_1_1 : Claimed_1_1 := comes_1 fun _ _ _ _ _ _ h hF => ⟨h.1, hF⟩
theorem main_1_2 : Claimed_1_2 := comes_1 fun _ _ _ _ _ _ h hF => ⟨h.2.1, hF⟩
end Jvm.Pilot.@@N@@
namespace Jvm.Pilot.@@N@@
open Jvm Jvm.ClassFile Sem Op Lib Jvm.Free Jvm.Stand Jvm.Pilot.@@N@@.Jvm.D
/-! MADE BY PROGRAM (witnessworld.py) out of the Statement's table words and the real class files: 9 classes; the members and pool entries that the words name. The judged class is class 1, her method 1. -/
namespace start1
open Jvm.ClassFile
def u (s : String) : CpInfo := .utf8 (stringToUtf16 s)
/-- a pool by its gaps: so many unusable entries, then the entry; so many at the end -/
def gap : Nat → List CpInfo → List CpInfo
  | 0, r => r
  | n + 1, r => .unusable :: gap n r
def poolList (es : List (Nat × CpInfo)) (last : Nat) : List CpInfo := es.foldr (fun e r => gap e.1 (e.2 :: r)) (gap last [])
def pool (es : List (Nat × CpInfo)) (last : Nat) : Array CpInfo := ⟨poolList es last⟩
def fileOf (pool : Array CpInfo) (this : Nat) (attrs : Array Attribute := #[]) (ms : Array MethodInfo := #[]) (fl : Nat := 33) (sup : Nat := 0) (ifs : Array Nat := #[]) (fds : Array FieldInfo := #[]) : ClassFile where
  minorVersion := 0
  majorVersion := 65
  constantPool := pool
  accessFlags := fl
  thisClass := this
  superClass := sup
  interfaces := ifs
  fields := fds
  methods := ms
  attributes := attrs
def plain (name : String) (sup : Option ClassId) : Class where
  name := name
  kind := .ordinary
  loader := none
  accessFlags := 33
  super := sup
  interfaces := #[]
  cf := none
  fields := #[]
  methods := #[]
  instanceTypes := #[]
  staticTypes := #[]
  resolved := #[]
  callSites := []
  init := .initialized
  statics := none
  mirror := none

def pool0 : Array CpInfo := pool [(5, u "<init>"), (0, u "()V"), (1, .class_ 10), (1, u "java/lang/Object")] 113

def k0m0 : Method := { name := "<init>", desc := "()V", sig := { parameters := [], returnType := none }, accessFlags := 1, code := none }
/-- java/lang/Object -/
def k0 : Class := { plain "java/lang/Object" none with
  accessFlags := 33
  interfaces := #[]
  cf := some (fileOf pool0 8 #[] #[{ accessFlags := 1, nameIndex := 5, descriptorIndex := 6, attributes := #[] }] 33 0 #[] #[])
  fields := #[]
  methods := #[k0m0]
  instanceTypes := #[]
  staticTypes := #[]
  resolved := Array.replicate 124 none
  statics := none }

def pool1 : Array CpInfo := pool [(2, .class_ 4), (1, u "java/lang/Object"), (0, u "<init>"), (0, u "()V"), (0, .methodref 8 9), (0, .class_ 10), (0, .nameAndType 11 12), (0, u "com/example/tidewater/tidewater/format/Pos"), (0, u "writeLsn"), (0, u "([BIJ)V"), (0, .methodref 14 15), (0, .class_ 16), (0, .nameAndType 17 18), (0, u "com/example/tidewater/tidewater/format/PosWriteLsnPinLaw"), (0, u "ok"), (0, u "([BIJBI)Z"), (0, .methodref 14 20), (0, .nameAndType 21 22), (0, u "hex"), (0, u "(JI)B"), (2, u "law"), (0, u "(JII)Z")] 5

def k1m0 : Method := { name := "<init>", desc := "()V", sig := { parameters := [], returnType := none }, accessFlags := 1, code := none }
def k1c1 : Code := { maxStack := 6, maxLocals := 7, code := code, exceptionTable := #[], attributes := #[] }
def k1m1 : Method := { name := "law", desc := "(JII)Z", sig := { parameters := [.long, .int, .int], returnType := some .boolean }, accessFlags := 9, code := some k1c1 }
def k1c2 : Code := { maxStack := 4, maxLocals := 4, code := method_3_code, exceptionTable := #[], attributes := #[] }
def k1m2 : Method := { name := "hex", desc := "(JI)B", sig := { parameters := [.long, .int], returnType := some .byte }, accessFlags := 10, code := some k1c2 }
def k1c3 : Code := { maxStack := 4, maxLocals := 7, code := method_4_code, exceptionTable := #[], attributes := #[] }
def k1m3 : Method := { name := "ok", desc := "([BIJBI)Z", sig := { parameters := [(.array .byte), .int, .long, .byte, .int], returnType := some .boolean }, accessFlags := 10, code := some k1c3 }
/-- com/example/tidewater/tidewater/format/PosWriteLsnPinLaw -/
def k1 : Class := { plain "com/example/tidewater/tidewater/format/PosWriteLsnPinLaw" (some 0) with
  accessFlags := 49
  interfaces := #[]
  cf := some (fileOf pool1 14 #[] #[{ accessFlags := 1, nameIndex := 5, descriptorIndex := 6, attributes := #[] }, { accessFlags := 9, nameIndex := 25, descriptorIndex := 26, attributes := #[] }, { accessFlags := 10, nameIndex := 21, descriptorIndex := 22, attributes := #[] }, { accessFlags := 10, nameIndex := 17, descriptorIndex := 18, attributes := #[] }] 49 2 #[] #[])
  fields := #[]
  methods := #[k1m0, k1m1, k1m2, k1m3]
  instanceTypes := #[]
  staticTypes := #[]
  resolved := Array.replicate 32 none
  statics := none }

def pool2 : Array CpInfo := pool [(2, .class_ 4), (1, u "java/lang/Object"), (0, u "<init>"), (0, u "()V"), (1, .class_ 10), (1, u "com/example/tidewater/tidewater/format/Pos"), (0, u "writeLsn"), (0, u "([BIJ)V"), (15, .fieldref 8 29), (0, .nameAndType 30 31), (0, u "HEX"), (0, u "[B"), (34, u "FORM"), (0, u "Ljava/util/regex/Pattern;"), (8, u "MOST_INDEX"), (0, u "I")] 13

def k2m0 : Method := { name := "<init>", desc := "()V", sig := { parameters := [], returnType := none }, accessFlags := 2, code := none }
def k2c1 : Code := { maxStack := 8, maxLocals := 5, code := prog_27_method_3_code, exceptionTable := #[], attributes := #[] }
def k2m1 : Method := { name := "writeLsn", desc := "([BIJ)V", sig := { parameters := [(.array .byte), .int, .long], returnType := none }, accessFlags := 9, code := some k2c1 }
/-- com/example/tidewater/tidewater/format/Pos -/
def k2 : Class := { plain "com/example/tidewater/tidewater/format/Pos" (some 0) with
  accessFlags := 49
  interfaces := #[]
  cf := some (fileOf pool2 8 #[] #[{ accessFlags := 2, nameIndex := 5, descriptorIndex := 6, attributes := #[] }, { accessFlags := 9, nameIndex := 11, descriptorIndex := 12, attributes := #[] }] 49 2 #[] #[{ accessFlags := 25, nameIndex := 66, descriptorIndex := 67, attributes := #[] }, { accessFlags := 26, nameIndex := 76, descriptorIndex := 77, attributes := #[] }, { accessFlags := 26, nameIndex := 30, descriptorIndex := 31, attributes := #[] }])
  fields := #[{ name := "FORM", type := (.object "java/util/regex/Pattern"), accessFlags := 25, slot := 0, constantValue := 0 }, { name := "MOST_INDEX", type := .int, accessFlags := 26, slot := 1, constantValue := 0 }, { name := "HEX", type := (.array .byte), accessFlags := 26, slot := 2, constantValue := 0 }]
  methods := #[k2m0, k2m1]
  instanceTypes := #[]
  staticTypes := #[(.object "java/util/regex/Pattern"), .int, (.array .byte)]
  resolved := Array.replicate 91 none
  statics := some 0 }

def pool3 : Array CpInfo := pool [(1, u "java/lang/Cloneable"), (0, .class_ 1), (0, u "java/lang/Object"), (0, .class_ 3)] 3

/-- java/lang/Cloneable -/
def k3 : Class := { plain "java/lang/Cloneable" (some 0) with
  accessFlags := 1537
  interfaces := #[]
  cf := some (fileOf pool3 2 #[] #[] 1537 4 #[] #[])
  fields := #[]
  methods := #[]
  instanceTypes := #[]
  staticTypes := #[]
  resolved := Array.replicate 8 none
  statics := none }

def pool4 : Array CpInfo := pool [(1, u "java/io/Serializable"), (0, .class_ 1), (0, u "java/lang/Object"), (0, .class_ 3)] 3

/-- java/io/Serializable -/
def k4 : Class := { plain "java/io/Serializable" (some 0) with
  accessFlags := 1537
  interfaces := #[]
  cf := some (fileOf pool4 2 #[] #[] 1537 4 #[] #[])
  fields := #[]
  methods := #[]
  instanceTypes := #[]
  staticTypes := #[]
  resolved := Array.replicate 8 none
  statics := none }

/-- the primitive byte -/
def k5 : Class := { plain "byte" none with kind := .primitive 'B', accessFlags := 0x411 }
/-- [B -/
def k6 : Class := { plain "[B" (some 0) with kind := .array 5 .byte, interfaces := #[3, 4], accessFlags := 1041 }

/-- the primitive int -/
def k7 : Class := { plain "int" none with kind := .primitive 'I', accessFlags := 0x411 }
/-- [I -/
def k8 : Class := { plain "[I" (some 0) with kind := .array 7 .int, interfaces := #[3, 4], accessFlags := 1041 }

def heap : Heap := #[{ cls := 2, slots := #[.null, .int 0, .ref 1], vm := .statics 2 },
  { cls := 6, slots := #[.int 48, .int 49, .int 50, .int 51, .int 52, .int 53, .int 54, .int 55, .int 56, .int 57, .int 65, .int 66, .int 67, .int 68, .int 69, .int 70], vm := .none }]
def classes : Array Class := #[k0, k1, k2, k3, k4, k5, k6, k7, k8]
def interned : List (Array UInt16 × Addr) := []
def slotsUsed : Nat := 19
def theMethod : MethodId := ⟨1, 1⟩
def args0 : Array Value := #[.long 1, .int 2, .int 3]
def aboutOver (below : List Frame) : State where
  vm := { classes := classes, interned := interned.toArray }
  heap := heap
  slotsUsed := slotsUsed
  threads := #[{ frames := .invoking theMethod args0 :: below }]
def below0 : List Frame := [.native { method := ⟨0, 0⟩, args := #[] }]
def about1 : State := aboutOver below0
def p0 : Program := .bare "" "" ""
def e0 : Env := launch0.env 0 0 0
theorem w_frames : about1.frames = Frame.invoking theMethod args0 :: below0 := rfl
set_option maxRecDepth 65536 in
theorem w_args : argsFit about1.vm theMethod args0 = true := by decide +kernel
set_option maxRecDepth 65536 in
theorem w_heap : heapFits about1 = true := by decide +kernel
set_option maxRecDepth 65536 in
theorem w_runnable : about1.curStatus? = some .runnable := by decide +kernel
set_option maxRecDepth 65536 in
theorem w_alone : about1.alone = true := by decide +kernel
set_option maxRecDepth 65536 in
theorem w_named : about1.methodNamed? x = some theMethod := by decide +kernel
set_option maxRecDepth 65536 in
theorem w_hears : about1.hears theMethod below0 = true := by decide +kernel
set_option maxRecDepth 65536 in
theorem w_ripe : about1.ripe theMethod args0 below0 = true := by decide +kernel
theorem w_running : about1.status = .running := rfl
set_option maxRecDepth 65536 in
theorem w_room : about1.hasRoom e0.platform room_1 = true :=
  launch0.hasRoom_least _ room_1 (by decide +kernel) (by decide +kernel) (by decide +kernel) (by decide +kernel) (by decide +kernel) (by decide +kernel)
theorem allAtoms_all (ts : List Jvm.Cond) (a : Array Jvm.Value) (st : Jvm.State) : (allAtoms ts).before a st = ts.all (fun c => c.before a st) := by
  induction ts with
  | nil => rfl
  | cons c t ih =>
    show (Jvm.Cond.and c (allAtoms t)).before a st = _
    rw [Jvm.Cond.before_and, ih, List.all_cons]
def words1 : List Jvm.Cond := Jvm.Cond.code x code maxLocals ret :: tables_1
/-- a 'code' word, met by the world's own term for the bytes: nothing is compared byte by byte -/
theorem code_word {y : MethodName} {bytes : ByteArray} {mx : Nat} {rt : Option FieldType} {a : Array Value} {s : State} {m : MethodId} {meth : Method} {c : Code} (h1 : s.methodNamed? y = some m) (h2 : s.vm.method? m = some meth) (h3 : meth.code = some c) (h4 : c.code = bytes)
    (h5 : (c.maxLocals == mx && c.exceptionTable.isEmpty && decide (c.maxStack ≤ mostOperands) && decide (meth.sig.returnType = rt) && !meth.locks && decide (parseMethodDescriptor y.desc = some meth.sig)) = true) : (Jvm.Cond.code y bytes mx rt).before a s = true := by
  simp only [Bool.and_eq_true, beq_iff_eq, Bool.not_eq_true', decide_eq_true_eq] at h5
  obtain ⟨⟨⟨⟨⟨g1, g2⟩, g3⟩, g4⟩, g5⟩, g6⟩ := h5
  simp [Cond.before, Cond.holds, Cond.value, h1, h2, h3, h4, g1, g2, g3, g4, g5, g6]
def isCode : Jvm.Cond → Bool
  | .code _ _ _ _ => true
  | _ => false
theorem all_split {L : List Jvm.Cond} {P : Jvm.Cond → Bool} (h1 : L.all (fun c => isCode c || P c) = true) (h2 : ∀ c ∈ L.filter isCode, P c = true) : L.all P = true := by
  refine List.all_eq_true.mpr fun c hc => ?_
  have h := List.all_eq_true.mp h1 c hc
  rcases Bool.eq_false_or_eq_true (isCode c) with hi | hi
  · exact h2 c (List.mem_filter.mpr ⟨hc, hi⟩)
  · simpa [hi] using h
set_option maxRecDepth 65536 in
theorem w_c0 : (Jvm.Cond.code x code maxLocals ret).before args0 about1 = true := code_word (m := ⟨1, 1⟩) (meth := k1m1) (c := k1c1) (by decide +kernel) rfl rfl rfl (by decide +kernel)
set_option maxRecDepth 65536 in
theorem w_c1 : (Jvm.Cond.code ({ cls := "com/example/tidewater/tidewater/format/Pos", name := "writeLsn", desc := "([BIJ)V" } : Jvm.MethodName) prog_27_method_3_code (5 : Nat) (Option.none : Option Jvm.ClassFile.FieldType)).before args0 about1 = true := code_word (m := ⟨2, 1⟩) (meth := k2m1) (c := k2c1) (by decide +kernel) rfl rfl rfl (by decide +kernel)
set_option maxRecDepth 65536 in
theorem w_c2 : (Jvm.Cond.code ({ cls := "com/example/tidewater/tidewater/format/PosWriteLsnPinLaw", name := "ok", desc := "([BIJBI)Z" } : Jvm.MethodName) method_4_code (7 : Nat) (Option.some Jvm.ClassFile.FieldType.boolean)).before args0 about1 = true := code_word (m := ⟨1, 3⟩) (meth := k1m3) (c := k1c3) (by decide +kernel) rfl rfl rfl (by decide +kernel)
set_option maxRecDepth 65536 in
theorem w_c3 : (Jvm.Cond.code ({ cls := "com/example/tidewater/tidewater/format/PosWriteLsnPinLaw", name := "hex", desc := "(JI)B" } : Jvm.MethodName) method_3_code (4 : Nat) (Option.some Jvm.ClassFile.FieldType.byte)).before args0 about1 = true := code_word (m := ⟨1, 2⟩) (meth := k1m2) (c := k1c2) (by decide +kernel) rfl rfl rfl (by decide +kernel)
def codes1 : List Jvm.Cond := [Jvm.Cond.code x code maxLocals ret, Jvm.Cond.code ({ cls := "com/example/tidewater/tidewater/format/Pos", name := "writeLsn", desc := "([BIJ)V" } : Jvm.MethodName) prog_27_method_3_code (5 : Nat) (Option.none : Option Jvm.ClassFile.FieldType), Jvm.Cond.code ({ cls := "com/example/tidewater/tidewater/format/PosWriteLsnPinLaw", name := "ok", desc := "([BIJBI)Z" } : Jvm.MethodName) method_4_code (7 : Nat) (Option.some Jvm.ClassFile.FieldType.boolean), Jvm.Cond.code ({ cls := "com/example/tidewater/tidewater/format/PosWriteLsnPinLaw", name := "hex", desc := "(JI)B" } : Jvm.MethodName) method_3_code (4 : Nat) (Option.some Jvm.ClassFile.FieldType.byte)]
set_option maxRecDepth 65536 in
theorem codes_eq : words1.filter isCode = codes1 := rfl
theorem w_codes : ∀ c ∈ words1.filter isCode, c.before args0 about1 = true := by
  rw [codes_eq]
  intro c hc
  simp only [codes1, List.mem_cons, List.not_mem_nil, or_false] at hc
  rcases hc with rfl | rfl | rfl | rfl
  · exact w_c0
  · exact w_c1
  · exact w_c2
  · exact w_c3
set_option maxRecDepth 65536 in
theorem w_t1 : words1.all (fun c => isCode c || c.before args0 about1) = true := by decide +kernel
theorem w_tables : (allAtoms (Jvm.Cond.code x code maxLocals ret :: tables_1)).before args0 about1 = true := by
  rw [allAtoms_all]
  show words1.all (fun c => c.before args0 about1) = true
  refine all_split ?_ w_codes
  rw [w_t1]
set_option maxRecDepth 65536 in
theorem w_case : (Jvm.Cond.and given_1 narrow_1).before args0 about1 = true := by decide +kernel
theorem w_applies : (headSpec (Jvm.Cond.code x code maxLocals ret :: tables_1) room_1).applies x e0.platform about1 = true :=
  (Spec.applies_iff w_frames).mpr ⟨w_running, w_runnable, w_alone, w_named, w_hears, w_ripe, w_room, w_tables⟩
theorem atStart : AtStart classFile x code maxLocals ret World_1 tables_1 room_1 Calls_1 rest_1 Pre_1 launch0 p0 e0 about1 theMethod args0 below0 :=
  ⟨lists_1, trivial, launch0.admits_env _ _ _, launch0.least_env, fairChoices_fair.cas, fairChoices_fair.clock, w_frames, w_args, w_heap, w_applies, trivial, trivial, w_case⟩
end start1
theorem witness_1 : WitnessClaimed_1 := ⟨start1.p0, start1.e0, start1.about1, start1.theMethod, start1.args0, start1.below0, start1.atStart⟩
end Jvm.Pilot.@@N@@
