import JvmDerived
import JvmDerived.Pilot.@@N@@Statement
import JvmDerived.Pilot.@@N@@Code
set_option linter.unusedVariables false
set_option linter.unusedSimpArgs false
@@BLOCK:NumsL.lean.txt@@
namespace Jvm.OwnWalk
open Sem ClassFile Op Lib Jvm.Stand Jvm.Free Jvm.LawKit Jvm.RoadKit
section K
variable {p : Program} {l : Launch} {e : Env} {R : Room} {s : State} {m : MethodId} {args : Array Value} {below : List Frame} {meth : Method} {c : Code} {T : State} {locs : List Loc} {cells slots : Nat} {Z : State} {a0 : Array Value} {h : Heap} {P : Outcome → State → Prop} {pc : Nat} {Ls : Array Slot} {rest : List Value}
/-- from T with g on top the invocation ends, and P holds of its end -/
def Wout (p : Program) (e : Env) (below : List Frame) (P : Outcome → State → Prop) (T : State) (g : JFrame) : Prop :=
  ∃ U o, Steps p.tables e below (T.setTop g) U ∧ U.status = .running ∧ Ended U below o ∧ P o U
theorem Wout.of {T T' : State} {g g' : JFrame} (st : ∀ t, Steps p.tables e below (T'.setTop g') t → Steps p.tables e below (T.setTop g) t) (hr : Wout p e below P T' g') : Wout p e below P T g := by
  obtain ⟨U, o, h1, h2⟩ := hr
  exact ⟨U, o, st U h1, h2⟩
theorem Wout.tr {T T' : State} {g g' : JFrame} (st : Steps p.tables e below (T.setTop g) (T'.setTop g')) (hr : Wout p e below P T' g') : Wout p e below P T g := by
  obtain ⟨U, o, h1, h2⟩ := hr
  exact ⟨U, o, st.trans h1, h2⟩
theorem Wout.cast {T : State} {g g' : JFrame} (q : g = g') (hr : Wout p e below P T g') : Wout p e below P T g := q ▸ hr
/-- the end of an invocation that returned: Q of its value, the heap and the written places; the frame -/
def Pst (s : State) (Q : Option Value → Heap → List Loc → Prop) (C S : Nat) (o : Outcome) (U : State) : Prop := ∃ v L, o = .returned v ∧ Q v U.heap L ∧ FrameEnd s o U L C S
abbrev Met (l : Launch) (Z : State) (y : MethodName) (bytes : ByteArray) (maxL : Nat) (ret : Option FieldType) (ws : List Jvm.Cond) (rm : Room) (as' : Array Value) (h0 : Heap) (Q : Option Value → Heap → List Loc → Prop) : Prop :=
  MetFree l y (head1 (Jvm.Cond.code y bytes maxL ret :: ws) rm) (fun a U => a = as' ∧ Z.Warmed39 U.vm ∧ U.heap = h0) (fun _ _ _ _ _ => True) (fun _ U o U' => ∃ v L, o = .returned v ∧ Q v U'.heap L ∧ FrameEnd U o U' L rm.cells rm.slots)
theorem Met.start {y : MethodName} {bytes : ByteArray} {maxL : Nat} {ret : Option FieldType} {ws : List Jvm.Cond} {rm : Room} {as' : Array Value} {h0 : Heap} {Q : Option Value → Heap → List Loc → Prop} (hpl : plainFor y = true)
    (H : ∀ (p : Program) (e : Env) (s : State) (m : MethodId) (below : List Frame) (meth : Method) (c : Code) (T : State), Stand p l e rm s m as' below meth c T [] 0 0 → p.tables.exec = Jvm.exec → c.code = bytes → c.maxLocals = maxL → s.vm.findClass y.cls = some m.cls → meth.name = y.name → meth.sig.returnType = ret → meth.locks = false → Z.Warmed39 s.vm → T.heap = h0 → Wout p e below (Pst s Q rm.cells rm.slots) T (entryFrame m as' maxL)) :
    Met l Z y bytes maxL ret ws rm as' h0 Q := by
  refine MetFree.of_bodySF hpl hisR ?_
  intro p e s m args below meth c s₁ Bd hml0 hP hK
  obtain ⟨rfl, hZ, hh⟩ := hP
  exact H p e s m below meth c s₁ (Stand.of_body Bd) Bd.exec Bd.bytes hml0 (findClass_of_methodNamed Bd.named) (name_of_methodNamed Bd.named Bd.method).1 Bd.returns Bd.notSynchronized hZ (by rw [← hh, Bd.state]; rfl)
/-! what a branch says -/
def cI : ClassFile.Cond → Int32 → Prop
  | .eq, x => x = 0 | .ne, x => ¬ x = 0 | .lt, x => x < 0 | .ge, x => ¬ x < 0 | .gt, x => 0 < x | .le, x => ¬ 0 < x
def cII : ClassFile.Cond → Int32 → Int32 → Prop
  | .eq, x, y => x = y | .ne, x, y => ¬ x = y | .lt, x, y => x < y | .ge, x, y => ¬ x < y | .gt, x, y => y < x | .le, x, y => ¬ y < x
def cLL : ClassFile.Cond → Int64 → Int64 → Prop
  | .eq, x, y => x = y | .ne, x, y => ¬ x = y | .lt, x, y => x < y | .ge, x, y => ¬ x < y | .gt, x, y => y < x | .le, x, y => ¬ y < x
def cNeg : ClassFile.Cond → ClassFile.Cond
  | .eq => .ne | .ne => .eq | .lt => .ge | .ge => .lt | .gt => .le | .le => .gt
theorem cI_t : ∀ {cd : ClassFile.Cond} {x : Int32}, cI cd x → ifCond.holds cd x = true
  | .eq, _, q => XT.i0_eq_t q
  | .ne, _, q => XT.i0_ne_t q
  | .lt, _, q => XT.i0_lt_t q
  | .ge, _, q => XT.i0_ge_t q
  | .gt, _, q => XT.i0_gt_t q
  | .le, _, q => XT.i0_le_t q
theorem cI_f : ∀ {cd : ClassFile.Cond} {x : Int32}, cI (cNeg cd) x → ifCond.holds cd x = false
  | .eq, _, q => XT.i0_eq_f q
  | .ne, _, q => XT.i0_ne_f q
  | .lt, _, q => XT.i0_lt_f q
  | .ge, _, q => XT.i0_ge_f q
  | .gt, _, q => XT.i0_gt_f q
  | .le, _, q => XT.i0_le_f q
theorem cII_t : ∀ {cd : ClassFile.Cond} {x y : Int32}, cII cd x y → if_icmp.holds cd x y = true
  | .eq, _, _, q => XT.ii_eq_t q
  | .ne, _, _, q => XT.ii_ne_t q
  | .lt, _, _, q => XT.ii_lt_t q
  | .ge, _, _, q => XT.ii_ge_t q
  | .gt, _, _, q => XT.ii_gt_t q
  | .le, _, _, q => XT.ii_le_t q
theorem cII_f : ∀ {cd : ClassFile.Cond} {x y : Int32}, cII (cNeg cd) x y → if_icmp.holds cd x y = false
  | .eq, _, _, q => XT.ii_eq_f q
  | .ne, _, _, q => XT.ii_ne_f q
  | .lt, _, _, q => XT.ii_lt_f q
  | .ge, _, _, q => XT.ii_ge_f q
  | .gt, _, _, q => XT.ii_gt_f q
  | .le, _, _, q => XT.ii_le_f q
theorem cLL_t : ∀ {cd : ClassFile.Cond} {x y : Int64}, cLL cd x y → ifCond.holds cd (XT.cmpL x y) = true
  | .eq, _, _, q => XT.ll_eq_t q
  | .ne, _, _, q => XT.ll_ne_t q
  | .lt, _, _, q => XT.ll_lt_t q
  | .ge, _, _, q => XT.ll_ge_t q
  | .gt, _, _, q => XT.ll_gt_t q
  | .le, _, _, q => XT.ll_le_t q
theorem cLL_f : ∀ {cd : ClassFile.Cond} {x y : Int64}, cLL (cNeg cd) x y → ifCond.holds cd (XT.cmpL x y) = false
  | .eq, _, _, q => XT.ll_eq_f q
  | .ne, _, _, q => XT.ll_ne_f q
  | .lt, _, _, q => XT.ll_lt_f q
  | .ge, _, _, q => XT.ll_ge_f q
  | .gt, _, _, q => XT.ll_gt_f q
  | .le, _, _, q => XT.ll_le_f q
theorem cI_em (cd : ClassFile.Cond) (x : Int32) : cI cd x ∨ cI (cNeg cd) x := by
  cases cd <;> simp only [cI, cNeg] <;> first | exact Classical.em _ | exact (Classical.em _).symm
theorem cII_em (cd : ClassFile.Cond) (x y : Int32) : cII cd x y ∨ cII (cNeg cd) x y := by
  cases cd <;> simp only [cII, cNeg] <;> first | exact Classical.em _ | exact (Classical.em _).symm
theorem cLL_em (cd : ClassFile.Cond) (x y : Int64) : cLL cd x y ∨ cLL (cNeg cd) x y := by
  cases cd <;> simp only [cLL, cNeg] <;> first | exact Classical.em _ | exact (Classical.em _).symm

theorem o_iload (X : Stand p l e R s m args below meth c T locs cells slots) (hx : p.tables.exec = Jvm.exec) (n : Nat) {k : Nat} {v : Int32} (hd : decode c.code pc = .ok (.iload k, 2)) (hl : Ls[k]? = some (.val (.int v))) (hp : pc + 2 = n) (hr : Wout p e below P T (mkF m n Ls (.int v :: rest))) : Wout p e below P T (mkF m pc Ls (rest)) := by
  subst hp
  exact Wout.of (fun _ ht => XS.iload X.here hx rfl hd hl ht) hr
theorem o_iloadN (X : Stand p l e R s m args below meth c T locs cells slots) (hx : p.tables.exec = Jvm.exec) (n : Nat) {k : Fin 4} {v : Int32} (hd : decode c.code pc = .ok (.iload_n k, 1)) (hl : Ls[k.val]? = some (.val (.int v))) (hp : pc + 1 = n) (hr : Wout p e below P T (mkF m n Ls (.int v :: rest))) : Wout p e below P T (mkF m pc Ls (rest)) := by
  subst hp
  exact Wout.of (fun _ ht => XS.iloadN X.here hx rfl hd hl ht) hr
theorem o_istore (X : Stand p l e R s m args below meth c T locs cells slots) (hx : p.tables.exec = Jvm.exec) (n : Nat) {k : Nat} {v : Int32} {Ls' : Array Slot} (hd : decode c.code pc = .ok (.istore k, 2)) (hl : storeLocals Ls k (.int v) = some Ls') (hp : pc + 2 = n) (hr : Wout p e below P T (mkF m n Ls' (rest))) : Wout p e below P T (mkF m pc Ls (.int v :: rest)) := by
  subst hp
  exact Wout.of (fun _ ht => XS.istore X.here hx rfl hd rfl hl ht) hr
theorem o_istoreN (X : Stand p l e R s m args below meth c T locs cells slots) (hx : p.tables.exec = Jvm.exec) (n : Nat) {k : Fin 4} {v : Int32} {Ls' : Array Slot} (hd : decode c.code pc = .ok (.istore_n k, 1)) (hl : storeLocals Ls k.val (.int v) = some Ls') (hp : pc + 1 = n) (hr : Wout p e below P T (mkF m n Ls' (rest))) : Wout p e below P T (mkF m pc Ls (.int v :: rest)) := by
  subst hp
  exact Wout.of (fun _ ht => XS.istoreN X.here hx rfl hd rfl hl ht) hr
theorem o_lload (X : Stand p l e R s m args below meth c T locs cells slots) (hx : p.tables.exec = Jvm.exec) (n : Nat) {k : Nat} {v : Int64} (hd : decode c.code pc = .ok (.lload k, 2)) (hl : Ls[k]? = some (.val (.long v))) (hp : pc + 2 = n) (hr : Wout p e below P T (mkF m n Ls (.long v :: rest))) : Wout p e below P T (mkF m pc Ls (rest)) := by
  subst hp
  exact Wout.of (fun _ ht => XT.lload X.here hx rfl hd hl ht) hr
theorem o_lloadN (X : Stand p l e R s m args below meth c T locs cells slots) (hx : p.tables.exec = Jvm.exec) (n : Nat) {k : Fin 4} {v : Int64} (hd : decode c.code pc = .ok (.lload_n k, 1)) (hl : Ls[k.val]? = some (.val (.long v))) (hp : pc + 1 = n) (hr : Wout p e below P T (mkF m n Ls (.long v :: rest))) : Wout p e below P T (mkF m pc Ls (rest)) := by
  subst hp
  exact Wout.of (fun _ ht => XT.lloadN X.here hx rfl hd hl ht) hr
theorem o_lstore (X : Stand p l e R s m args below meth c T locs cells slots) (hx : p.tables.exec = Jvm.exec) (n : Nat) {k : Nat} {v : Int64} {Ls' : Array Slot} (hd : decode c.code pc = .ok (.lstore k, 2)) (hl : storeLocals Ls k (.long v) = some Ls') (hp : pc + 2 = n) (hr : Wout p e below P T (mkF m n Ls' (rest))) : Wout p e below P T (mkF m pc Ls (.long v :: rest)) := by
  subst hp
  exact Wout.of (fun _ ht => XT.lstore X.here hx rfl hd rfl hl ht) hr
theorem o_lstoreN (X : Stand p l e R s m args below meth c T locs cells slots) (hx : p.tables.exec = Jvm.exec) (n : Nat) {k : Fin 4} {v : Int64} {Ls' : Array Slot} (hd : decode c.code pc = .ok (.lstore_n k, 1)) (hl : storeLocals Ls k.val (.long v) = some Ls') (hp : pc + 1 = n) (hr : Wout p e below P T (mkF m n Ls' (rest))) : Wout p e below P T (mkF m pc Ls (.long v :: rest)) := by
  subst hp
  exact Wout.of (fun _ ht => XT.lstoreN X.here hx rfl hd rfl hl ht) hr
theorem o_aload (X : Stand p l e R s m args below meth c T locs cells slots) (hx : p.tables.exec = Jvm.exec) (n : Nat) {k : Nat} {v : Value} (hd : decode c.code pc = .ok (.aload k, 2)) (hl : Ls[k]? = some (.val v)) (hv : v.isRef = true) (hp : pc + 2 = n) (hr : Wout p e below P T (mkF m n Ls (v :: rest))) : Wout p e below P T (mkF m pc Ls (rest)) := by
  subst hp
  exact Wout.of (fun _ ht => XS.aload X.here hx rfl hd hl hv ht) hr
theorem o_aloadN (X : Stand p l e R s m args below meth c T locs cells slots) (hx : p.tables.exec = Jvm.exec) (n : Nat) {k : Fin 4} {v : Value} (hd : decode c.code pc = .ok (.aload_n k, 1)) (hl : Ls[k.val]? = some (.val v)) (hv : v.isRef = true) (hp : pc + 1 = n) (hr : Wout p e below P T (mkF m n Ls (v :: rest))) : Wout p e below P T (mkF m pc Ls (rest)) := by
  subst hp
  exact Wout.of (fun _ ht => XS.aloadN X.here hx rfl hd hl hv ht) hr
theorem o_astore (X : Stand p l e R s m args below meth c T locs cells slots) (hx : p.tables.exec = Jvm.exec) (n : Nat) {k : Nat} {v : Value} {Ls' : Array Slot} (hd : decode c.code pc = .ok (.astore k, 2)) (hv : v.isRef = true) (hl : storeLocals Ls k v = some Ls') (hp : pc + 2 = n) (hr : Wout p e below P T (mkF m n Ls' (rest))) : Wout p e below P T (mkF m pc Ls (v :: rest)) := by
  subst hp
  exact Wout.of (fun _ ht => XS.astore X.here hx rfl hd rfl hv hl ht) hr
theorem o_astoreN (X : Stand p l e R s m args below meth c T locs cells slots) (hx : p.tables.exec = Jvm.exec) (n : Nat) {k : Fin 4} {v : Value} {Ls' : Array Slot} (hd : decode c.code pc = .ok (.astore_n k, 1)) (hv : v.isRef = true) (hl : storeLocals Ls k.val v = some Ls') (hp : pc + 1 = n) (hr : Wout p e below P T (mkF m n Ls' (rest))) : Wout p e below P T (mkF m pc Ls (v :: rest)) := by
  subst hp
  exact Wout.of (fun _ ht => XS.astoreN X.here hx rfl hd rfl hv hl ht) hr
theorem o_iconst (X : Stand p l e R s m args below meth c T locs cells slots) (hx : p.tables.exec = Jvm.exec) (n : Nat) {i : Int} (v : Int32) (hd : decode c.code pc = .ok (.iconst i, 1)) (hv : Int32.ofInt i = v) (hp : pc + 1 = n) (hr : Wout p e below P T (mkF m n Ls (.int v :: rest))) : Wout p e below P T (mkF m pc Ls (rest)) := by
  subst hp
  exact Wout.of (fun _ ht => XT.iconstV X.here hx rfl v hd hv ht) hr
theorem o_bipush (X : Stand p l e R s m args below meth c T locs cells slots) (hx : p.tables.exec = Jvm.exec) (n : Nat) {i : Int} (v : Int32) (hd : decode c.code pc = .ok (.bipush i, 2)) (hv : (Int8.ofInt i).toInt32 = v) (hp : pc + 2 = n) (hr : Wout p e below P T (mkF m n Ls (.int v :: rest))) : Wout p e below P T (mkF m pc Ls (rest)) := by
  subst hp
  exact Wout.of (fun _ ht => XT.bipushV X.here hx rfl v hd hv ht) hr
theorem o_sipush (X : Stand p l e R s m args below meth c T locs cells slots) (hx : p.tables.exec = Jvm.exec) (n : Nat) {i : Int} (v : Int32) (hd : decode c.code pc = .ok (.sipush i, 3)) (hv : (Int16.ofInt i).toInt32 = v) (hp : pc + 3 = n) (hr : Wout p e below P T (mkF m n Ls (.int v :: rest))) : Wout p e below P T (mkF m pc Ls (rest)) := by
  subst hp
  exact Wout.of (fun _ ht => XT.sipushV X.here hx rfl v hd hv ht) hr
theorem o_lconst (X : Stand p l e R s m args below meth c T locs cells slots) (hx : p.tables.exec = Jvm.exec) (n : Nat) {k : Fin 2} (v : Int64) (hd : decode c.code pc = .ok (.lconst k, 1)) (hv : Int64.ofNat k = v) (hp : pc + 1 = n) (hr : Wout p e below P T (mkF m n Ls (.long v :: rest))) : Wout p e below P T (mkF m pc Ls (rest)) := by
  subst hp
  exact Wout.of (fun _ ht => XT.lconstV X.here hx rfl v hd hv ht) hr
theorem o_aconst_null (X : Stand p l e R s m args below meth c T locs cells slots) (hx : p.tables.exec = Jvm.exec) (n : Nat)  (hd : decode c.code pc = .ok (.aconst_null, 1)) (hp : pc + 1 = n) (hr : Wout p e below P T (mkF m n Ls (.null :: rest))) : Wout p e below P T (mkF m pc Ls (rest)) := by
  subst hp
  exact Wout.of (fun _ ht => XS.aconstNull X.here hx rfl hd ht) hr
theorem o_iadd (X : Stand p l e R s m args below meth c T locs cells slots) (hx : p.tables.exec = Jvm.exec) (n : Nat) {x y : Int32} (hd : decode c.code pc = .ok (.iadd, 1)) (hp : pc + 1 = n) (hr : Wout p e below P T (mkF m n Ls (.int (x + y) :: rest))) : Wout p e below P T (mkF m pc Ls (.int y :: .int x :: rest)) := by
  subst hp
  exact Wout.of (fun _ ht => XS.iadd X.here hx rfl hd rfl ht) hr
theorem o_isub (X : Stand p l e R s m args below meth c T locs cells slots) (hx : p.tables.exec = Jvm.exec) (n : Nat) {x y : Int32} (hd : decode c.code pc = .ok (.isub, 1)) (hp : pc + 1 = n) (hr : Wout p e below P T (mkF m n Ls (.int (x - y) :: rest))) : Wout p e below P T (mkF m pc Ls (.int y :: .int x :: rest)) := by
  subst hp
  exact Wout.of (fun _ ht => XS.isub X.here hx rfl hd rfl ht) hr
theorem o_imul (X : Stand p l e R s m args below meth c T locs cells slots) (hx : p.tables.exec = Jvm.exec) (n : Nat) {x y : Int32} (hd : decode c.code pc = .ok (.imul, 1)) (hp : pc + 1 = n) (hr : Wout p e below P T (mkF m n Ls (.int (x * y) :: rest))) : Wout p e below P T (mkF m pc Ls (.int y :: .int x :: rest)) := by
  subst hp
  exact Wout.of (fun _ ht => XS.imul X.here hx rfl hd rfl ht) hr
theorem o_iand (X : Stand p l e R s m args below meth c T locs cells slots) (hx : p.tables.exec = Jvm.exec) (n : Nat) {x y : Int32} (hd : decode c.code pc = .ok (.iand, 1)) (hp : pc + 1 = n) (hr : Wout p e below P T (mkF m n Ls (.int (x &&& y) :: rest))) : Wout p e below P T (mkF m pc Ls (.int y :: .int x :: rest)) := by
  subst hp
  exact Wout.of (fun _ ht => XS.iand X.here hx rfl hd rfl ht) hr
theorem o_ior (X : Stand p l e R s m args below meth c T locs cells slots) (hx : p.tables.exec = Jvm.exec) (n : Nat) {x y : Int32} (hd : decode c.code pc = .ok (.ior, 1)) (hp : pc + 1 = n) (hr : Wout p e below P T (mkF m n Ls (.int (x ||| y) :: rest))) : Wout p e below P T (mkF m pc Ls (.int y :: .int x :: rest)) := by
  subst hp
  exact Wout.of (fun _ ht => XT.ior X.here hx rfl hd rfl ht) hr
theorem o_ixor (X : Stand p l e R s m args below meth c T locs cells slots) (hx : p.tables.exec = Jvm.exec) (n : Nat) {x y : Int32} (hd : decode c.code pc = .ok (.ixor, 1)) (hp : pc + 1 = n) (hr : Wout p e below P T (mkF m n Ls (.int (x ^^^ y) :: rest))) : Wout p e below P T (mkF m pc Ls (.int y :: .int x :: rest)) := by
  subst hp
  exact Wout.of (fun _ ht => XT.ixor X.here hx rfl hd rfl ht) hr
theorem o_ishl (X : Stand p l e R s m args below meth c T locs cells slots) (hx : p.tables.exec = Jvm.exec) (n : Nat) {x y : Int32} (hd : decode c.code pc = .ok (.ishl, 1)) (hp : pc + 1 = n) (hr : Wout p e below P T (mkF m n Ls (.int (x <<< (y &&& 31)) :: rest))) : Wout p e below P T (mkF m pc Ls (.int y :: .int x :: rest)) := by
  subst hp
  exact Wout.of (fun _ ht => XT.ishl X.here hx rfl hd rfl ht) hr
theorem o_ishr (X : Stand p l e R s m args below meth c T locs cells slots) (hx : p.tables.exec = Jvm.exec) (n : Nat) {x y : Int32} (hd : decode c.code pc = .ok (.ishr, 1)) (hp : pc + 1 = n) (hr : Wout p e below P T (mkF m n Ls (.int (x >>> (y &&& 31)) :: rest))) : Wout p e below P T (mkF m pc Ls (.int y :: .int x :: rest)) := by
  subst hp
  exact Wout.of (fun _ ht => XT.ishr X.here hx rfl hd rfl ht) hr
theorem o_iushr (X : Stand p l e R s m args below meth c T locs cells slots) (hx : p.tables.exec = Jvm.exec) (n : Nat) {x y : Int32} (hd : decode c.code pc = .ok (.iushr, 1)) (hp : pc + 1 = n) (hr : Wout p e below P T (mkF m n Ls (.int (XT.ushr x y) :: rest))) : Wout p e below P T (mkF m pc Ls (.int y :: .int x :: rest)) := by
  subst hp
  exact Wout.of (fun _ ht => XT.iushr X.here hx rfl hd rfl ht) hr
theorem o_ladd (X : Stand p l e R s m args below meth c T locs cells slots) (hx : p.tables.exec = Jvm.exec) (n : Nat) {x y : Int64} (hd : decode c.code pc = .ok (.ladd, 1)) (hp : pc + 1 = n) (hr : Wout p e below P T (mkF m n Ls (.long (x + y) :: rest))) : Wout p e below P T (mkF m pc Ls (.long y :: .long x :: rest)) := by
  subst hp
  exact Wout.of (fun _ ht => XT.ladd X.here hx rfl hd rfl ht) hr
theorem o_lsub (X : Stand p l e R s m args below meth c T locs cells slots) (hx : p.tables.exec = Jvm.exec) (n : Nat) {x y : Int64} (hd : decode c.code pc = .ok (.lsub, 1)) (hp : pc + 1 = n) (hr : Wout p e below P T (mkF m n Ls (.long (x - y) :: rest))) : Wout p e below P T (mkF m pc Ls (.long y :: .long x :: rest)) := by
  subst hp
  exact Wout.of (fun _ ht => XT.lsub X.here hx rfl hd rfl ht) hr
theorem o_lmul (X : Stand p l e R s m args below meth c T locs cells slots) (hx : p.tables.exec = Jvm.exec) (n : Nat) {x y : Int64} (hd : decode c.code pc = .ok (.lmul, 1)) (hp : pc + 1 = n) (hr : Wout p e below P T (mkF m n Ls (.long (x * y) :: rest))) : Wout p e below P T (mkF m pc Ls (.long y :: .long x :: rest)) := by
  subst hp
  exact Wout.of (fun _ ht => XT.lmul X.here hx rfl hd rfl ht) hr
theorem o_land (X : Stand p l e R s m args below meth c T locs cells slots) (hx : p.tables.exec = Jvm.exec) (n : Nat) {x y : Int64} (hd : decode c.code pc = .ok (.land, 1)) (hp : pc + 1 = n) (hr : Wout p e below P T (mkF m n Ls (.long (x &&& y) :: rest))) : Wout p e below P T (mkF m pc Ls (.long y :: .long x :: rest)) := by
  subst hp
  exact Wout.of (fun _ ht => XT.land X.here hx rfl hd rfl ht) hr
theorem o_lor (X : Stand p l e R s m args below meth c T locs cells slots) (hx : p.tables.exec = Jvm.exec) (n : Nat) {x y : Int64} (hd : decode c.code pc = .ok (.lor, 1)) (hp : pc + 1 = n) (hr : Wout p e below P T (mkF m n Ls (.long (x ||| y) :: rest))) : Wout p e below P T (mkF m pc Ls (.long y :: .long x :: rest)) := by
  subst hp
  exact Wout.of (fun _ ht => XT.lor X.here hx rfl hd rfl ht) hr
theorem o_lxor (X : Stand p l e R s m args below meth c T locs cells slots) (hx : p.tables.exec = Jvm.exec) (n : Nat) {x y : Int64} (hd : decode c.code pc = .ok (.lxor, 1)) (hp : pc + 1 = n) (hr : Wout p e below P T (mkF m n Ls (.long (x ^^^ y) :: rest))) : Wout p e below P T (mkF m pc Ls (.long y :: .long x :: rest)) := by
  subst hp
  exact Wout.of (fun _ ht => XT.lxor X.here hx rfl hd rfl ht) hr
theorem o_irem (X : Stand p l e R s m args below meth c T locs cells slots) (hx : p.tables.exec = Jvm.exec) (n : Nat) {x y : Int32} (hd : decode c.code pc = .ok (.irem, 1)) (hy : y ≠ 0) (hp : pc + 1 = n) (hr : Wout p e below P T (mkF m n Ls (.int (x % y) :: rest))) : Wout p e below P T (mkF m pc Ls (.int y :: .int x :: rest)) := by
  subst hp
  exact Wout.of (fun _ ht => iremM X hx rfl hd rfl hy ht) hr
theorem o_idiv (X : Stand p l e R s m args below meth c T locs cells slots) (hx : p.tables.exec = Jvm.exec) (n : Nat) {x y : Int32} (hd : decode c.code pc = .ok (.idiv, 1)) (hy : y ≠ 0) (hp : pc + 1 = n) (hr : Wout p e below P T (mkF m n Ls (.int (x / y) :: rest))) : Wout p e below P T (mkF m pc Ls (.int y :: .int x :: rest)) := by
  subst hp
  exact Wout.of (fun _ ht => XS.idiv X.here hx rfl hd rfl hy ht) hr
theorem o_lshl (X : Stand p l e R s m args below meth c T locs cells slots) (hx : p.tables.exec = Jvm.exec) (n : Nat) {x : Int64} {y : Int32} (hd : decode c.code pc = .ok (.lshl, 1)) (hp : pc + 1 = n) (hr : Wout p e below P T (mkF m n Ls (.long (x <<< (y.toInt64 &&& 63)) :: rest))) : Wout p e below P T (mkF m pc Ls (.int y :: .long x :: rest)) := by
  subst hp
  exact Wout.of (fun _ ht => XT.lshl X.here hx rfl hd rfl ht) hr
theorem o_lshr (X : Stand p l e R s m args below meth c T locs cells slots) (hx : p.tables.exec = Jvm.exec) (n : Nat) {x : Int64} {y : Int32} (hd : decode c.code pc = .ok (.lshr, 1)) (hp : pc + 1 = n) (hr : Wout p e below P T (mkF m n Ls (.long (x >>> (y.toInt64 &&& 63)) :: rest))) : Wout p e below P T (mkF m pc Ls (.int y :: .long x :: rest)) := by
  subst hp
  exact Wout.of (fun _ ht => XT.lshr X.here hx rfl hd rfl ht) hr
theorem o_lushr (X : Stand p l e R s m args below meth c T locs cells slots) (hx : p.tables.exec = Jvm.exec) (n : Nat) {x : Int64} {y : Int32} (hd : decode c.code pc = .ok (.lushr, 1)) (hp : pc + 1 = n) (hr : Wout p e below P T (mkF m n Ls (.long (XT.ushrL x y) :: rest))) : Wout p e below P T (mkF m pc Ls (.int y :: .long x :: rest)) := by
  subst hp
  exact Wout.of (fun _ ht => XT.lushr X.here hx rfl hd rfl ht) hr
theorem o_ineg (X : Stand p l e R s m args below meth c T locs cells slots) (hx : p.tables.exec = Jvm.exec) (n : Nat) {x : Int32} (hd : decode c.code pc = .ok (.ineg, 1)) (hp : pc + 1 = n) (hr : Wout p e below P T (mkF m n Ls (.int (-x) :: rest))) : Wout p e below P T (mkF m pc Ls (.int x :: rest)) := by
  subst hp
  exact Wout.of (fun _ ht => XS.ineg X.here hx rfl hd rfl ht) hr
theorem o_i2l (X : Stand p l e R s m args below meth c T locs cells slots) (hx : p.tables.exec = Jvm.exec) (n : Nat) {x : Int32} (hd : decode c.code pc = .ok (.i2l, 1)) (hp : pc + 1 = n) (hr : Wout p e below P T (mkF m n Ls (.long (x.toInt64) :: rest))) : Wout p e below P T (mkF m pc Ls (.int x :: rest)) := by
  subst hp
  exact Wout.of (fun _ ht => XT.i2l X.here hx rfl hd rfl ht) hr
theorem o_l2i (X : Stand p l e R s m args below meth c T locs cells slots) (hx : p.tables.exec = Jvm.exec) (n : Nat) {x : Int64} (hd : decode c.code pc = .ok (.l2i, 1)) (hp : pc + 1 = n) (hr : Wout p e below P T (mkF m n Ls (.int (x.toInt32) :: rest))) : Wout p e below P T (mkF m pc Ls (.long x :: rest)) := by
  subst hp
  exact Wout.of (fun _ ht => XT.l2i X.here hx rfl hd rfl ht) hr
theorem o_i2b (X : Stand p l e R s m args below meth c T locs cells slots) (hx : p.tables.exec = Jvm.exec) (n : Nat) {x : Int32} (hd : decode c.code pc = .ok (.i2b, 1)) (hp : pc + 1 = n) (hr : Wout p e below P T (mkF m n Ls (.int (x.toInt8.toInt32) :: rest))) : Wout p e below P T (mkF m pc Ls (.int x :: rest)) := by
  subst hp
  exact Wout.of (fun _ ht => XT.i2b X.here hx rfl hd rfl ht) hr
theorem o_i2c (X : Stand p l e R s m args below meth c T locs cells slots) (hx : p.tables.exec = Jvm.exec) (n : Nat) {x : Int32} (hd : decode c.code pc = .ok (.i2c, 1)) (hp : pc + 1 = n) (hr : Wout p e below P T (mkF m n Ls (.int (x.toUInt32.toUInt16.toUInt32.toInt32) :: rest))) : Wout p e below P T (mkF m pc Ls (.int x :: rest)) := by
  subst hp
  exact Wout.of (fun _ ht => XT.i2c X.here hx rfl hd rfl ht) hr
theorem o_i2s (X : Stand p l e R s m args below meth c T locs cells slots) (hx : p.tables.exec = Jvm.exec) (n : Nat) {x : Int32} (hd : decode c.code pc = .ok (.i2s, 1)) (hp : pc + 1 = n) (hr : Wout p e below P T (mkF m n Ls (.int (x.toInt16.toInt32) :: rest))) : Wout p e below P T (mkF m pc Ls (.int x :: rest)) := by
  subst hp
  exact Wout.of (fun _ ht => XT.i2s X.here hx rfl hd rfl ht) hr
theorem o_lcmp (X : Stand p l e R s m args below meth c T locs cells slots) (hx : p.tables.exec = Jvm.exec) (n : Nat) {x y : Int64} (hd : decode c.code pc = .ok (.lcmp, 1)) (hp : pc + 1 = n) (hr : Wout p e below P T (mkF m n Ls (.int (XT.cmpL x y) :: rest))) : Wout p e below P T (mkF m pc Ls (.long y :: .long x :: rest)) := by
  subst hp
  exact Wout.of (fun _ ht => XT.lcmp X.here hx rfl hd rfl ht) hr
theorem o_dup (X : Stand p l e R s m args below meth c T locs cells slots) (hx : p.tables.exec = Jvm.exec) (n : Nat) {v : Value} (hd : decode c.code pc = .ok (.dup, 1)) (hc : v.category = 1) (hp : pc + 1 = n) (hr : Wout p e below P T (mkF m n Ls (v :: v :: rest))) : Wout p e below P T (mkF m pc Ls (v :: rest)) := by
  subst hp
  exact Wout.of (fun _ ht => XS.dup X.here hx rfl hd rfl hc ht) hr
theorem o_pop (X : Stand p l e R s m args below meth c T locs cells slots) (hx : p.tables.exec = Jvm.exec) (n : Nat) {v : Value} (hd : decode c.code pc = .ok (.pop, 1)) (hc : v.category = 1) (hp : pc + 1 = n) (hr : Wout p e below P T (mkF m n Ls (rest))) : Wout p e below P T (mkF m pc Ls (v :: rest)) := by
  subst hp
  exact Wout.of (fun _ ht => XT.pop X.here hx rfl hd rfl hc ht) hr
theorem o_dup_x1 (X : Stand p l e R s m args below meth c T locs cells slots) (hx : p.tables.exec = Jvm.exec) (n : Nat) {v w : Value} (hd : decode c.code pc = .ok (.dup_x1, 1)) (hc : v.category = 1) (hc' : w.category = 1) (hp : pc + 1 = n) (hr : Wout p e below P T (mkF m n Ls (v :: w :: v :: rest))) : Wout p e below P T (mkF m pc Ls (v :: w :: rest)) := by
  subst hp
  exact Wout.of (fun _ ht => XT.dupX1 X.here hx rfl hd rfl hc hc' ht) hr
theorem o_dup2 (X : Stand p l e R s m args below meth c T locs cells slots) (hx : p.tables.exec = Jvm.exec) (n : Nat) {v w : Value} (hd : decode c.code pc = .ok (.dup2, 1)) (hc : v.category = 1) (hc' : w.category = 1) (hp : pc + 1 = n) (hr : Wout p e below P T (mkF m n Ls (v :: w :: v :: w :: rest))) : Wout p e below P T (mkF m pc Ls (v :: w :: rest)) := by
  subst hp
  exact Wout.of (fun _ ht => XT.dup2 X.here hx rfl hd rfl hc hc' ht) hr
theorem o_iinc (X : Stand p l e R s m args below meth c T locs cells slots) (hx : p.tables.exec = Jvm.exec) (n : Nat) {k : Nat} {i : Int} {x : Int32} {Ls' : Array Slot} (v : Int32) (hd : decode c.code pc = .ok (.iinc k i, 3)) (hv : Int32.ofInt i = v) (hl : Ls[k]? = some (.val (.int x))) (hl' : storeLocals Ls k (.int (x + v)) = some Ls') (hp : pc + 3 = n) (hr : Wout p e below P T (mkF m n Ls' (rest))) : Wout p e below P T (mkF m pc Ls (rest)) := by
  subst hp
  exact Wout.of (fun _ ht => XT.iincV X.here hx rfl v hd hv hl hl' ht) hr
theorem jmp {pc n : Nat} {o : Int} (hp : (pc : Int) + o = (n : Int)) : 0 ≤ (pc : Int) + o ∧ ((pc : Int) + o).toNat = n := by rw [hp]; exact ⟨Int.natCast_nonneg n, Int.toNat_natCast n⟩
theorem o_goto (X : Stand p l e R s m args below meth c T locs cells slots) (hx : p.tables.exec = Jvm.exec) (n : Nat) {o : Int} (hd : decode c.code pc = .ok (.goto o, 3)) (hp : (pc : Int) + o = (n : Int)) (hr : Wout p e below P T (mkF m n Ls rest)) : Wout p e below P T (mkF m pc Ls rest) :=
  Wout.of (fun _ ht => XS.goto X.here hx rfl (pc0 := pc) rfl hd (jmp hp).1 (jmp hp).2 ht) hr
theorem o_ifT (X : Stand p l e R s m args below meth c T locs cells slots) (hx : p.tables.exec = Jvm.exec) (n : Nat) {cd : ClassFile.Cond} {x : Int32} {o : Int} (hd : decode c.code pc = .ok (.ifCond cd o, 3)) (hp : (pc : Int) + o = (n : Int)) (q : cI cd x) (hr : Wout p e below P T (mkF m n Ls rest)) : Wout p e below P T (mkF m pc Ls (.int x :: rest)) :=
  Wout.of (fun _ ht => XS.ifYes X.here hx rfl (pc0 := pc) rfl hd rfl (cI_t q) (jmp hp).1 (jmp hp).2 ht) hr
theorem o_ifF (X : Stand p l e R s m args below meth c T locs cells slots) (hx : p.tables.exec = Jvm.exec) (n : Nat) {cd : ClassFile.Cond} {x : Int32} {o : Int} (hd : decode c.code pc = .ok (.ifCond cd o, 3)) (hp : pc + 3 = n) (q : cI (cNeg cd) x) (hr : Wout p e below P T (mkF m n Ls rest)) : Wout p e below P T (mkF m pc Ls (.int x :: rest)) := by
  subst hp
  exact Wout.of (fun _ ht => XS.ifNo X.here hx rfl hd rfl (cI_f q) ht) hr
theorem o_if (X : Stand p l e R s m args below meth c T locs cells slots) (hx : p.tables.exec = Jvm.exec) (n1 n2 : Nat) {cd : ClassFile.Cond} {x : Int32} {o : Int} (hd : decode c.code pc = .ok (.ifCond cd o, 3)) (hp1 : (pc : Int) + o = (n1 : Int)) (hp2 : pc + 3 = n2) (h1 : cI cd x → Wout p e below P T (mkF m n1 Ls rest)) (h2 : cI (cNeg cd) x → Wout p e below P T (mkF m n2 Ls rest)) : Wout p e below P T (mkF m pc Ls (.int x :: rest)) :=
  (cI_em cd x).elim (fun q => o_ifT X hx n1 hd hp1 q (h1 q)) (fun q => o_ifF X hx n2 hd hp2 q (h2 q))
theorem o_ifLT (X : Stand p l e R s m args below meth c T locs cells slots) (hx : p.tables.exec = Jvm.exec) (n : Nat) {cd : ClassFile.Cond} {x y : Int64} {o : Int} (hd : decode c.code pc = .ok (.ifCond cd o, 3)) (hp : (pc : Int) + o = (n : Int)) (q : cLL cd x y) (hr : Wout p e below P T (mkF m n Ls rest)) : Wout p e below P T (mkF m pc Ls (.int (XT.cmpL x y) :: rest)) :=
  Wout.of (fun _ ht => XS.ifYes X.here hx rfl (pc0 := pc) rfl hd rfl (cLL_t q) (jmp hp).1 (jmp hp).2 ht) hr
theorem o_ifLF (X : Stand p l e R s m args below meth c T locs cells slots) (hx : p.tables.exec = Jvm.exec) (n : Nat) {cd : ClassFile.Cond} {x y : Int64} {o : Int} (hd : decode c.code pc = .ok (.ifCond cd o, 3)) (hp : pc + 3 = n) (q : cLL (cNeg cd) x y) (hr : Wout p e below P T (mkF m n Ls rest)) : Wout p e below P T (mkF m pc Ls (.int (XT.cmpL x y) :: rest)) := by
  subst hp
  exact Wout.of (fun _ ht => XS.ifNo X.here hx rfl hd rfl (cLL_f q) ht) hr
theorem o_ifL (X : Stand p l e R s m args below meth c T locs cells slots) (hx : p.tables.exec = Jvm.exec) (n1 n2 : Nat) {cd : ClassFile.Cond} {x y : Int64} {o : Int} (hd : decode c.code pc = .ok (.ifCond cd o, 3)) (hp1 : (pc : Int) + o = (n1 : Int)) (hp2 : pc + 3 = n2) (h1 : cLL cd x y → Wout p e below P T (mkF m n1 Ls rest)) (h2 : cLL (cNeg cd) x y → Wout p e below P T (mkF m n2 Ls rest)) : Wout p e below P T (mkF m pc Ls (.int (XT.cmpL x y) :: rest)) :=
  (cLL_em cd x y).elim (fun q => o_ifLT X hx n1 hd hp1 q (h1 q)) (fun q => o_ifLF X hx n2 hd hp2 q (h2 q))
theorem o_icmpT (X : Stand p l e R s m args below meth c T locs cells slots) (hx : p.tables.exec = Jvm.exec) (n : Nat) {cd : ClassFile.Cond} {x y : Int32} {o : Int} (hd : decode c.code pc = .ok (.if_icmp cd o, 3)) (hp : (pc : Int) + o = (n : Int)) (q : cII cd x y) (hr : Wout p e below P T (mkF m n Ls rest)) : Wout p e below P T (mkF m pc Ls (.int y :: .int x :: rest)) :=
  Wout.of (fun _ ht => XS.icmpYes X.here hx rfl (pc0 := pc) rfl hd rfl (cII_t q) (jmp hp).1 (jmp hp).2 ht) hr
theorem o_icmpF (X : Stand p l e R s m args below meth c T locs cells slots) (hx : p.tables.exec = Jvm.exec) (n : Nat) {cd : ClassFile.Cond} {x y : Int32} {o : Int} (hd : decode c.code pc = .ok (.if_icmp cd o, 3)) (hp : pc + 3 = n) (q : cII (cNeg cd) x y) (hr : Wout p e below P T (mkF m n Ls rest)) : Wout p e below P T (mkF m pc Ls (.int y :: .int x :: rest)) := by
  subst hp
  exact Wout.of (fun _ ht => XS.icmpNo X.here hx rfl hd rfl (cII_f q) ht) hr
theorem o_icmp (X : Stand p l e R s m args below meth c T locs cells slots) (hx : p.tables.exec = Jvm.exec) (n1 n2 : Nat) {cd : ClassFile.Cond} {x y : Int32} {o : Int} (hd : decode c.code pc = .ok (.if_icmp cd o, 3)) (hp1 : (pc : Int) + o = (n1 : Int)) (hp2 : pc + 3 = n2) (h1 : cII cd x y → Wout p e below P T (mkF m n1 Ls rest)) (h2 : cII (cNeg cd) x y → Wout p e below P T (mkF m n2 Ls rest)) : Wout p e below P T (mkF m pc Ls (.int y :: .int x :: rest)) :=
  (cII_em cd x y).elim (fun q => o_icmpT X hx n1 hd hp1 q (h1 q)) (fun q => o_icmpF X hx n2 hd hp2 q (h2 q))
theorem o_ifnullT (X : Stand p l e R s m args below meth c T locs cells slots) (hx : p.tables.exec = Jvm.exec) (n : Nat) {o : Int} (hd : decode c.code pc = .ok (.ifnull o, 3)) (hp : (pc : Int) + o = (n : Int)) (hr : Wout p e below P T (mkF m n Ls rest)) : Wout p e below P T (mkF m pc Ls (.null :: rest)) :=
  Wout.of (fun _ ht => XS.ifnullYes X.here hx rfl (pc0 := pc) rfl hd rfl (jmp hp).1 (jmp hp).2 ht) hr
theorem o_ifnullF (X : Stand p l e R s m args below meth c T locs cells slots) (hx : p.tables.exec = Jvm.exec) (n : Nat) {o : Int} {a : Addr} (hd : decode c.code pc = .ok (.ifnull o, 3)) (hp : pc + 3 = n) (hr : Wout p e below P T (mkF m n Ls rest)) : Wout p e below P T (mkF m pc Ls (.ref a :: rest)) := by
  subst hp
  exact Wout.of (fun _ ht => XS.ifnullNo X.here hx rfl hd rfl ht) hr
theorem o_ifnonnullT (X : Stand p l e R s m args below meth c T locs cells slots) (hx : p.tables.exec = Jvm.exec) (n : Nat) {o : Int} {a : Addr} (hd : decode c.code pc = .ok (.ifnonnull o, 3)) (hp : (pc : Int) + o = (n : Int)) (hr : Wout p e below P T (mkF m n Ls rest)) : Wout p e below P T (mkF m pc Ls (.ref a :: rest)) :=
  Wout.of (fun _ ht => XT.ifnonnullYes X.here hx rfl (pc0 := pc) rfl hd rfl (jmp hp).1 (jmp hp).2 ht) hr
theorem o_ifnonnullF (X : Stand p l e R s m args below meth c T locs cells slots) (hx : p.tables.exec = Jvm.exec) (n : Nat) {o : Int} (hd : decode c.code pc = .ok (.ifnonnull o, 3)) (hp : pc + 3 = n) (hr : Wout p e below P T (mkF m n Ls rest)) : Wout p e below P T (mkF m pc Ls (.null :: rest)) := by
  subst hp
  exact Wout.of (fun _ ht => XT.ifnonnullNo X.here hx rfl hd rfl ht) hr
theorem o_acmpT (X : Stand p l e R s m args below meth c T locs cells slots) (hx : p.tables.exec = Jvm.exec) (n : Nat) {cd : ClassFile.ACond} {x y : Value} {o : Int} (hd : decode c.code pc = .ok (.if_acmp cd o, 3)) (h1 : x.isRef = true) (h2 : y.isRef = true) (hp : (pc : Int) + o = (n : Int)) (q : XT.acmp cd x y = true) (hr : Wout p e below P T (mkF m n Ls rest)) : Wout p e below P T (mkF m pc Ls (y :: x :: rest)) :=
  Wout.of (fun _ ht => XT.acmpYes X.here hx rfl (pc0 := pc) rfl hd rfl h1 h2 q (jmp hp).1 (jmp hp).2 ht) hr
theorem o_acmpF (X : Stand p l e R s m args below meth c T locs cells slots) (hx : p.tables.exec = Jvm.exec) (n : Nat) {cd : ClassFile.ACond} {x y : Value} {o : Int} (hd : decode c.code pc = .ok (.if_acmp cd o, 3)) (h1 : x.isRef = true) (h2 : y.isRef = true) (hp : pc + 3 = n) (q : XT.acmp cd x y = false) (hr : Wout p e below P T (mkF m n Ls rest)) : Wout p e below P T (mkF m pc Ls (y :: x :: rest)) := by
  subst hp
  exact Wout.of (fun _ ht => XT.acmpNo X.here hx rfl hd rfl h1 h2 q ht) hr
theorem o_tsw (X : Stand p l e R s m args below meth c T locs cells slots) (hx : p.tables.exec = Jvm.exec) (n : Nat) {dflt low high : Int} {offs : Array Int} {len : Nat} {o : Int} {i : Int32} (hd : decode c.code pc = .ok (.tableswitch dflt low high offs, len)) (hin : ¬ (i.toInt < low ∨ i.toInt > high)) (hoff : offs[(i.toInt - low).toNat]? = some o) (hp : (pc : Int) + o = (n : Int)) (hr : Wout p e below P T (mkF m n Ls rest)) : Wout p e below P T (mkF m pc Ls (.int i :: rest)) :=
  Wout.of (fun _ ht => XS.tswIn X.here hx rfl (pc0 := pc) rfl hd rfl hin hoff (jmp hp).1 (jmp hp).2 ht) hr
/-! constants of the pool, fields, statics -/
theorem o_ldc (X : Stand p l e R s m args below meth c T locs cells slots) (hx : p.tables.exec = Jvm.exec) (hZ : Z.Warmed39 s.vm) (n : Nat) {own : String} {index : Nat} {v : Int32} (hown : s.vm.findClass own = some m.cls) (w : (Jvm.Cond.constant own index v).before a0 Z = true) (hd : decode c.code pc = .ok (.ldc index, 2)) (hp : pc + 2 = n) (hr : Wout p e below P T (mkF m n Ls (.int v :: rest))) : Wout p e below P T (mkF m pc Ls rest) := by
  subst hp
  exact Wout.of (fun _ ht => X.ldcI hx hown (mv hZ w) rfl hd ht) hr
theorem o_ldc2 (X : Stand p l e R s m args below meth c T locs cells slots) (hx : p.tables.exec = Jvm.exec) (hZ : Z.Warmed39 s.vm) (n : Nat) {own : String} {index : Nat} {v : Int64} (hown : s.vm.findClass own = some m.cls) (w : (Jvm.Cond.constantLong own index v).before a0 Z = true) (hd : decode c.code pc = .ok (.ldc2_w index, 3)) (hp : pc + 3 = n) (hr : Wout p e below P T (mkF m n Ls (.long v :: rest))) : Wout p e below P T (mkF m pc Ls rest) := by
  subst hp
  exact Wout.of (fun _ ht => X.ldc2J hx hown (mv hZ w) rfl hd ht) hr
theorem o_getF (X : Stand p l e R s m args below meth c T locs cells slots) (hx : p.tables.exec = Jvm.exec) (hZ : Z.Warmed39 s.vm) {own R0 O nm d host : String} {index : Nat} (hown : s.vm.findClass own = some m.cls) (w : (Jvm.Cond.fieldLink own index R0 nm d).before a0 Z = true ∨ (Jvm.Cond.fieldLinkNest own index R0 nm d host).before a0 Z = true) (via : Via Z R0 O nm d) (eT : T.heap = h) {a : Addr} {v : Value} (F : Fld Z h a O nm d v) (n : Nat) (hd : decode c.code pc = .ok (.getfield index, 3)) (hp : pc + 3 = n)
    (hr : ∀ T', Stand p l e R s m args below meth c T' locs cells slots → T'.heap = h → Wout p e below P T' (mkF m n Ls (v :: rest))) : Wout p e below P T (mkF m pc Ls (.ref a :: rest)) := by
  subst hp
  obtain ⟨T', X', e', st⟩ := getF X hx hZ hown w via eT F (g := mkF m pc Ls (.ref a :: rest)) rfl rfl hd
  exact Wout.of st (hr T' X' e')
theorem o_getS (X : Stand p l e R s m args below meth c T locs cells slots) (hx : p.tables.exec = Jvm.exec) (hZ : Z.Warmed39 s.vm) {own R0 O nm d host : String} {index : Nat} (hown : s.vm.findClass own = some m.cls) (w : (Jvm.Cond.fieldLink own index R0 nm d).before a0 Z = true ∨ (Jvm.Cond.fieldLinkNest own index R0 nm d host).before a0 Z = true) (via : Via Z R0 O nm d) (eT : T.heap = h) {v : Value} (F : Sta Z h O nm d v) (n : Nat) (hd : decode c.code pc = .ok (.getstatic index, 3)) (hp : pc + 3 = n)
    (hr : ∀ T', Stand p l e R s m args below meth c T' locs cells slots → T'.heap = h → Wout p e below P T' (mkF m n Ls (v :: rest))) : Wout p e below P T (mkF m pc Ls rest) := by
  subst hp
  obtain ⟨T', X', e', st⟩ := getS2 X hx hZ hown w via eT F (g := mkF m pc Ls rest) rfl hd
  exact Wout.of st (hr T' X' e')
theorem o_putF (X : Stand p l e R s m args below meth c T locs cells slots) (hx : p.tables.exec = Jvm.exec) (hZ : Z.Warmed39 s.vm) {own R0 O nm d host C : String} {index kk : Nat} (ty : FieldType) (hown : s.vm.findClass own = some m.cls) (w : (Jvm.Cond.fieldLink own index R0 nm d).before a0 Z = true ∨ (Jvm.Cond.fieldLinkNest own index R0 nm d host).before a0 Z = true) (via : Via Z R0 O nm d) (eT : T.heap = h) {a : Addr} {v old : Value} (F : Fld Z h a O nm d old) (E : Exa Z h a C)
    (L : (Jvm.Cond.lays C O nm d).before a0 Z = true ∨ ((Jvm.Cond.laysFinal C O nm d).before a0 Z = true ∧ own = O ∧ meth.name = "<init>")) (wi : (Jvm.Cond.instantiable C kk).before a0 Z = true) (hty : parseFieldDescriptor d = some ty) (hn : Jvm.narrow ty v = v) (hf : fits ty v = true) {n0 : Nat} (N : Fr n0 locs) (g : n0 ≤ a) (n : Nat) (hd : decode c.code pc = .ok (.putfield index, 3)) (hp : pc + 3 = n)
    (hr : ∀ T' h' locs', Stand p l e R s m args below meth c T' locs' cells slots → T'.heap = h' → Wr h h' a (RoadKit.slotOf Z O nm d) v → Fr n0 locs' → Wout p e below P T' (mkF m n Ls rest)) : Wout p e below P T (mkF m pc Ls (v :: .ref a :: rest)) := by
  subst hp
  obtain ⟨T', h', X', e', W, st⟩ := putF X hx hZ hown w via eT F E L wi hty hn hf (g := mkF m pc Ls (v :: .ref a :: rest)) rfl rfl hd
  exact Wout.of st (hr T' h' _ X' e' W (Fr.snoc X' N g))
theorem o_putFN (X : Stand p l e R s m args below meth c T locs cells slots) (hx : p.tables.exec = Jvm.exec) (hZ : Z.Warmed39 s.vm) {own R0 O nm d C : String} {index kk : Nat} (ty : FieldType) (hown : s.vm.findClass own = some m.cls) (w : (Jvm.Cond.fieldLink own index R0 nm d).before a0 Z = true) (via : Via Z R0 O nm d) (eT : T.heap = h) {a : Addr} {v v' old : Value} (F : Fld Z h a O nm d old) (E : Exa Z h a C)
    (L : (Jvm.Cond.lays C O nm d).before a0 Z = true ∨ ((Jvm.Cond.laysFinal C O nm d).before a0 Z = true ∧ own = O ∧ meth.name = "<init>")) (wi : (Jvm.Cond.instantiable C kk).before a0 Z = true) (hty : parseFieldDescriptor d = some ty) (hn : Jvm.narrow ty v = v') (hf : fits ty v' = true) {n0 : Nat} (N : Fr n0 locs) (g : n0 ≤ a) (n : Nat) (hd : decode c.code pc = .ok (.putfield index, 3)) (hp : pc + 3 = n)
    (hr : ∀ T' h' locs', Stand p l e R s m args below meth c T' locs' cells slots → T'.heap = h' → Wr h h' a (RoadKit.slotOf Z O nm d) v' → Fr n0 locs' → Wout p e below P T' (mkF m n Ls rest)) : Wout p e below P T (mkF m pc Ls (v :: .ref a :: rest)) := by
  subst hp
  obtain ⟨T', h', X', e', W, st⟩ := putFN X hx hZ hown w via eT F E L wi hty hn hf (g := mkF m pc Ls (v :: .ref a :: rest)) rfl rfl hd
  exact Wout.of st (hr T' h' _ X' e' W (Fr.snoc X' N g))
/-! objects and arrays that are made -/
theorem o_new (X : Stand p l e R s m args below meth c T locs cells slots) (hx : p.tables.exec = Jvm.exec) (hZ : Z.Warmed39 s.vm) {own C : String} {index k : Nat} (hown : s.vm.findClass own = some m.cls) (w : (Jvm.Cond.classLink own index C).before a0 Z = true) (wi : (Jvm.Cond.instantiable C k).before a0 Z = true) (wz : (Jvm.Cond.initialized C).before a0 Z = true) (eT : T.heap = h) (n : Nat) (hd : decode c.code pc = .ok (.new index, 3)) (hp : pc + 3 = n) (hc : cells + 1 ≤ R.cells) (hl : slots + k ≤ R.slots)
    (hr : ∀ T' h' (b : Addr), b = h.size → Stand p l e R s m args below meth c T' locs (cells + 1) (slots + k) → T'.heap = h' → Ext h h' → Exa Z h' b C → (∀ {O nm d : String} {ty : FieldType}, Laid Z a0 C O nm d → parseFieldDescriptor d = some ty → Fld Z h' b O nm d (defaultValue ty)) → Wout p e below P T' (mkF m n Ls (.ref b :: rest))) : Wout p e below P T (mkF m pc Ls rest) := by
  subst hp
  obtain ⟨T', h', X', e', E, A, D, -, st⟩ := newO X hx hZ hown w wi wz eT (g := mkF m pc Ls rest) rfl hd hc hl
  exact Wout.of st (hr T' h' _ rfl X' e' E A D)
theorem o_newarray (X : Stand p l e R s m args below meth c T locs cells slots) (hx : p.tables.exec = Jvm.exec) (hZ : Z.Warmed39 s.vm) {aty : ArrayType} (w : (Jvm.Cond.arrayClass (newarray.typeOf aty)).before a0 Z = true) (eT : T.heap = h) (n : Nat) (hd : decode c.code pc = .ok (.newarray aty, 2)) (hp : pc + 2 = n) {z : Int32} (hz : ¬ z < 0) (cap : Nat) (hcap : z.toNatClampNeg ≤ cap) (hbb : cap * 8 ≤ 536870912) (hc : cells + 1 ≤ R.cells) (hl : slots + cap ≤ R.slots)
    (hr : ∀ T' h' (b : Addr) (k : ClassId), b = h.size → Stand p l e R s m args below meth c T' locs (cells + 1) (slots + cap) → T'.heap = h' → Ext h h' → Arv Z h' b k (newarray.typeOf aty) z [] (defaultValue (newarray.typeOf aty)) → Wout p e below P T' (mkF m n Ls (.ref b :: rest))) : Wout p e below P T (mkF m pc Ls (.int z :: rest)) := by
  subst hp
  obtain ⟨T', h', cA, X', e', E, A, st⟩ := newP X hx hZ w eT (g := mkF m pc Ls (.int z :: rest)) rfl hd rfl hz hcap hbb hc hl
  exact Wout.of st (hr T' h' _ cA rfl X' e' E (Arv.new A hz))
theorem o_anewarray (X : Stand p l e R s m args below meth c T locs cells slots) (hx : p.tables.exec = Jvm.exec) (hZ : Z.Warmed39 s.vm) {own C : String} {index : Nat} (hown : s.vm.findClass own = some m.cls) (w1 : (Jvm.Cond.classLink own index C).before a0 Z = true) (w2 : (Jvm.Cond.arrayOver (.object C)).before a0 Z = true) (eT : T.heap = h) (n : Nat) (hd : decode c.code pc = .ok (.anewarray index, 3)) (hp : pc + 3 = n) {z : Int32} (hz : ¬ z < 0) (cap : Nat) (hcap : z.toNatClampNeg ≤ cap) (hbb : cap * 8 ≤ 536870912) (hc : cells + 1 ≤ R.cells) (hl : slots + cap ≤ R.slots)
    (hr : ∀ T' h' (b : Addr) (k : ClassId), b = h.size → Stand p l e R s m args below meth c T' locs (cells + 1) (slots + cap) → T'.heap = h' → Ext h h' → Arv Z h' b k (.object C) z [] .null → Ovr Z k C → Wout p e below P T' (mkF m n Ls (.ref b :: rest))) : Wout p e below P T (mkF m pc Ls (.int z :: rest)) := by
  subst hp
  obtain ⟨T', h', cA, X', e', E, A, O, st⟩ := newR X hx hZ hown w1 w2 eT (g := mkF m pc Ls (.int z :: rest)) rfl hd rfl hz hcap hbb hc hl
  exact Wout.of st (hr T' h' _ cA rfl X' e' E (Arv.new A hz) O)
theorem o_arraylength (X : Stand p l e R s m args below meth c T locs cells slots) (hx : p.tables.exec = Jvm.exec) (hZ : Z.Warmed39 s.vm) (eT : T.heap = h) {a : Addr} {k : ClassId} {ty : FieldType} {z : Int32} {vs : List Value} {dv : Value} (V : Arv Z h a k ty z vs dv) (n : Nat) (hd : decode c.code pc = .ok (.arraylength, 1)) (hp : pc + 1 = n) (hr : Wout p e below P T (mkF m n Ls (.int z :: rest))) : Wout p e below P T (mkF m pc Ls (.ref a :: rest)) := by
  subst hp
  obtain ⟨cl, A, -, S, M, -, -⟩ := V
  rw [← len_of S M] at hr
  exact Wout.of (fun _ ht => X.arraylength hx (cell := cl) (by rw [eT]; exact A.1) (State.isArrayOf_alike hZ.alike A.2.1) (g := mkF m pc Ls (.ref a :: rest)) rfl rfl hd _ ht) hr

theorem o_iaload (X : Stand p l e R s m args below meth c T locs cells slots) (hx : p.tables.exec = Jvm.exec) (hZ : Z.Warmed39 s.vm) (eT : T.heap = h) {a : Addr} {k : ClassId} {z : Int32} {vs : List Value} {dv : Value} (V : Arv Z h a k .int z vs dv) {j : Int32} (hj : ¬ j < 0 ∧ j < z) {v : Value} (hv : vs.getD j.toNatClampNeg dv = v) (n : Nat) (hd : decode c.code pc = .ok (.iaload, 1)) (hp : pc + 1 = n) (hr : Wout p e below P T (mkF m n Ls (v :: rest))) : Wout p e below P T (mkF m pc Ls (.int j :: .ref a :: rest)) := by
  subst hp
  obtain ⟨cl, A, -, S, M, H, -⟩ := V
  exact Wout.of (fun _ ht => X.iaload hx (j := j) (v := v) (by rw [eT]; exact A.1) (State.isArrayOf_alike hZ.alike A.2.1) A.2.2 (inb_of S hj) (H.at (inb_of S hj) hv) (g := mkF m pc Ls (.int j :: .ref a :: rest)) rfl rfl hd _ ht) hr
theorem o_laload (X : Stand p l e R s m args below meth c T locs cells slots) (hx : p.tables.exec = Jvm.exec) (hZ : Z.Warmed39 s.vm) (eT : T.heap = h) {a : Addr} {k : ClassId} {z : Int32} {vs : List Value} {dv : Value} (V : Arv Z h a k .long z vs dv) {j : Int32} (hj : ¬ j < 0 ∧ j < z) {v : Value} (hv : vs.getD j.toNatClampNeg dv = v) (n : Nat) (hd : decode c.code pc = .ok (.laload, 1)) (hp : pc + 1 = n) (hr : Wout p e below P T (mkF m n Ls (v :: rest))) : Wout p e below P T (mkF m pc Ls (.int j :: .ref a :: rest)) := by
  subst hp
  obtain ⟨cl, A, -, S, M, H, -⟩ := V
  exact Wout.of (fun _ ht => X.laload hx (j := j) (v := v) (by rw [eT]; exact A.1) (State.isArrayOf_alike hZ.alike A.2.1) A.2.2 (inb_of S hj) (H.at (inb_of S hj) hv) (g := mkF m pc Ls (.int j :: .ref a :: rest)) rfl rfl hd _ ht) hr
theorem o_caload (X : Stand p l e R s m args below meth c T locs cells slots) (hx : p.tables.exec = Jvm.exec) (hZ : Z.Warmed39 s.vm) (eT : T.heap = h) {a : Addr} {k : ClassId} {z : Int32} {vs : List Value} {dv : Value} (V : Arv Z h a k .char z vs dv) {j : Int32} (hj : ¬ j < 0 ∧ j < z) {v : Value} (hv : vs.getD j.toNatClampNeg dv = v) (n : Nat) (hd : decode c.code pc = .ok (.caload, 1)) (hp : pc + 1 = n) (hr : Wout p e below P T (mkF m n Ls (v :: rest))) : Wout p e below P T (mkF m pc Ls (.int j :: .ref a :: rest)) := by
  subst hp
  obtain ⟨cl, A, -, S, M, H, -⟩ := V
  exact Wout.of (fun _ ht => X.caload hx (j := j) (v := v) (by rw [eT]; exact A.1) (State.isArrayOf_alike hZ.alike A.2.1) A.2.2 (inb_of S hj) (H.at (inb_of S hj) hv) (g := mkF m pc Ls (.int j :: .ref a :: rest)) rfl rfl hd _ ht) hr
theorem o_saload (X : Stand p l e R s m args below meth c T locs cells slots) (hx : p.tables.exec = Jvm.exec) (hZ : Z.Warmed39 s.vm) (eT : T.heap = h) {a : Addr} {k : ClassId} {z : Int32} {vs : List Value} {dv : Value} (V : Arv Z h a k .short z vs dv) {j : Int32} (hj : ¬ j < 0 ∧ j < z) {v : Value} (hv : vs.getD j.toNatClampNeg dv = v) (n : Nat) (hd : decode c.code pc = .ok (.saload, 1)) (hp : pc + 1 = n) (hr : Wout p e below P T (mkF m n Ls (v :: rest))) : Wout p e below P T (mkF m pc Ls (.int j :: .ref a :: rest)) := by
  subst hp
  obtain ⟨cl, A, -, S, M, H, -⟩ := V
  exact Wout.of (fun _ ht => X.saload hx (j := j) (v := v) (by rw [eT]; exact A.1) (State.isArrayOf_alike hZ.alike A.2.1) A.2.2 (inb_of S hj) (H.at (inb_of S hj) hv) (g := mkF m pc Ls (.int j :: .ref a :: rest)) rfl rfl hd _ ht) hr
theorem o_baload (X : Stand p l e R s m args below meth c T locs cells slots) (hx : p.tables.exec = Jvm.exec) (hZ : Z.Warmed39 s.vm) (eT : T.heap = h) {a : Addr} {k : ClassId} {z : Int32} {vs : List Value} {dv : Value} (V : Arv Z h a k .byte z vs dv) {j : Int32} (hj : ¬ j < 0 ∧ j < z) {v : Value} (hv : vs.getD j.toNatClampNeg dv = v) (n : Nat) (hd : decode c.code pc = .ok (.baload, 1)) (hp : pc + 1 = n) (hr : Wout p e below P T (mkF m n Ls (v :: rest))) : Wout p e below P T (mkF m pc Ls (.int j :: .ref a :: rest)) := by
  subst hp
  obtain ⟨cl, A, -, S, M, H, -⟩ := V
  exact Wout.of (fun _ ht => X.baloadBytes hx (j := j) (v := v) (by rw [eT]; exact A.1) (State.isArrayOf_alike hZ.alike A.2.1) A.2.2 (inb_of S hj) (H.at (inb_of S hj) hv) (g := mkF m pc Ls (.int j :: .ref a :: rest)) rfl rfl hd _ ht) hr
theorem o_baloadZ (X : Stand p l e R s m args below meth c T locs cells slots) (hx : p.tables.exec = Jvm.exec) (hZ : Z.Warmed39 s.vm) (eT : T.heap = h) {a : Addr} {k : ClassId} {z : Int32} {vs : List Value} {dv : Value} (V : Arv Z h a k .boolean z vs dv) {j : Int32} (hj : ¬ j < 0 ∧ j < z) {v : Value} (hv : vs.getD j.toNatClampNeg dv = v) (n : Nat) (hd : decode c.code pc = .ok (.baload, 1)) (hp : pc + 1 = n) (hr : Wout p e below P T (mkF m n Ls (v :: rest))) : Wout p e below P T (mkF m pc Ls (.int j :: .ref a :: rest)) := by
  subst hp
  obtain ⟨cl, A, -, S, M, H, -⟩ := V
  exact Wout.of (fun _ ht => X.baloadBooleans hx (j := j) (v := v) (by rw [eT]; exact A.1) (State.isArrayOf_alike hZ.alike A.2.1) A.2.2 (inb_of S hj) (H.at (inb_of S hj) hv) (g := mkF m pc Ls (.int j :: .ref a :: rest)) rfl rfl hd _ ht) hr
theorem o_aaload (X : Stand p l e R s m args below meth c T locs cells slots) (hx : p.tables.exec = Jvm.exec) (hZ : Z.Warmed39 s.vm) (eT : T.heap = h) {a : Addr} {k : ClassId} {ty : FieldType} {z : Int32} {vs : List Value} {dv : Value} (V : Arv Z h a k ty z vs dv) (hty : ty.isReference = true) {j : Int32} (hj : ¬ j < 0 ∧ j < z) {v : Value} (hv : vs.getD j.toNatClampNeg dv = v) (n : Nat) (hd : decode c.code pc = .ok (.aaload, 1)) (hp : pc + 1 = n) (hr : Wout p e below P T (mkF m n Ls (v :: rest))) : Wout p e below P T (mkF m pc Ls (.int j :: .ref a :: rest)) := by
  subst hp
  obtain ⟨cl, A, -, S, M, H, -⟩ := V
  exact Wout.of (fun _ ht => X.aaload hx (j := j) (v := v) (by rw [eT]; exact A.1) (State.isArrayOf_alike hZ.alike A.2.1) hty A.2.2 (inb_of S hj) (H.at (inb_of S hj) hv) (g := mkF m pc Ls (.int j :: .ref a :: rest)) rfl rfl hd _ ht) hr
theorem o_iastore (X : Stand p l e R s m args below meth c T locs cells slots) (hx : p.tables.exec = Jvm.exec) (hZ : Z.Warmed39 s.vm) (eT : T.heap = h) {a : Addr} {k : ClassId} {z : Int32} {vs : List Value} {dv : Value} (V : Arv Z h a k .int z vs dv) {j : Int32} {x : Int32} (hj : ¬ j < 0 ∧ j < z) (i : Nat) (hi : j.toNatClampNeg = i) (hil : i < vs.length) {vs' : List Value} (hvs : vs.set i (.int x) = vs') {n0 : Nat} (N : Fr n0 locs) (g : n0 ≤ a) (n : Nat) (hd : decode c.code pc = .ok (.iastore, 1)) (hp : pc + 1 = n)
    (hr : ∀ T' h' locs', Stand p l e R s m args below meth c T' locs' cells slots → T'.heap = h' → Wr h h' a i (.int x) → Arv Z h' a k .int z vs' dv → Fr n0 locs' → Wout p e below P T' (mkF m n Ls rest)) : Wout p e below P T (mkF m pc Ls (.int x :: .int j :: .ref a :: rest)) := by
  subst hp hvs
  obtain ⟨cl, A, q1, S, M, H, G⟩ := V
  obtain ⟨T', h', X', e', W, st⟩ := stI X hx hZ eT A (j := j) (x := x) (inb_of S hj) (g := mkF m pc Ls (.int x :: .int j :: .ref a :: rest)) rfl rfl hd
  exact Wout.of st (hr T' h' _ X' e' (hi ▸ W) (Arv.set A q1 S M H G (rfl) W i hi hil) (Fr.snoc X' N g))
theorem o_lastore (X : Stand p l e R s m args below meth c T locs cells slots) (hx : p.tables.exec = Jvm.exec) (hZ : Z.Warmed39 s.vm) (eT : T.heap = h) {a : Addr} {k : ClassId} {z : Int32} {vs : List Value} {dv : Value} (V : Arv Z h a k .long z vs dv) {j : Int32} {x : Int64} (hj : ¬ j < 0 ∧ j < z) (i : Nat) (hi : j.toNatClampNeg = i) (hil : i < vs.length) {vs' : List Value} (hvs : vs.set i (.long x) = vs') {n0 : Nat} (N : Fr n0 locs) (g : n0 ≤ a) (n : Nat) (hd : decode c.code pc = .ok (.lastore, 1)) (hp : pc + 1 = n)
    (hr : ∀ T' h' locs', Stand p l e R s m args below meth c T' locs' cells slots → T'.heap = h' → Wr h h' a i (.long x) → Arv Z h' a k .long z vs' dv → Fr n0 locs' → Wout p e below P T' (mkF m n Ls rest)) : Wout p e below P T (mkF m pc Ls (.long x :: .int j :: .ref a :: rest)) := by
  subst hp hvs
  obtain ⟨cl, A, q1, S, M, H, G⟩ := V
  obtain ⟨T', h', X', e', W, st⟩ := stJ X hx hZ eT A (j := j) (x := x) (inb_of S hj) (g := mkF m pc Ls (.long x :: .int j :: .ref a :: rest)) rfl rfl hd
  exact Wout.of st (hr T' h' _ X' e' (hi ▸ W) (Arv.set A q1 S M H G (rfl) W i hi hil) (Fr.snoc X' N g))
theorem o_castore (X : Stand p l e R s m args below meth c T locs cells slots) (hx : p.tables.exec = Jvm.exec) (hZ : Z.Warmed39 s.vm) (eT : T.heap = h) {a : Addr} {k : ClassId} {z : Int32} {vs : List Value} {dv : Value} (V : Arv Z h a k .char z vs dv) {j : Int32} {x : Int32} (hj : ¬ j < 0 ∧ j < z) (i : Nat) (hi : j.toNatClampNeg = i) (hil : i < vs.length) {vs' : List Value} (hvs : vs.set i (.int (nar .char x)) = vs') {n0 : Nat} (N : Fr n0 locs) (g : n0 ≤ a) (n : Nat) (hd : decode c.code pc = .ok (.castore, 1)) (hp : pc + 1 = n)
    (hr : ∀ T' h' locs', Stand p l e R s m args below meth c T' locs' cells slots → T'.heap = h' → Wr h h' a i (.int (nar .char x)) → Arv Z h' a k .char z vs' dv → Fr n0 locs' → Wout p e below P T' (mkF m n Ls rest)) : Wout p e below P T (mkF m pc Ls (.int x :: .int j :: .ref a :: rest)) := by
  subst hp hvs
  obtain ⟨cl, A, q1, S, M, H, G⟩ := V
  obtain ⟨T', h', X', e', W, st⟩ := stC X hx hZ eT A (j := j) (x := x) (inb_of S hj) (g := mkF m pc Ls (.int x :: .int j :: .ref a :: rest)) rfl rfl hd
  exact Wout.of st (hr T' h' _ X' e' (hi ▸ W) (Arv.set A q1 S M H G (fits_nar_char x) W i hi hil) (Fr.snoc X' N g))
theorem o_sastore (X : Stand p l e R s m args below meth c T locs cells slots) (hx : p.tables.exec = Jvm.exec) (hZ : Z.Warmed39 s.vm) (eT : T.heap = h) {a : Addr} {k : ClassId} {z : Int32} {vs : List Value} {dv : Value} (V : Arv Z h a k .short z vs dv) {j : Int32} {x : Int32} (hj : ¬ j < 0 ∧ j < z) (i : Nat) (hi : j.toNatClampNeg = i) (hil : i < vs.length) {vs' : List Value} (hvs : vs.set i (.int (nar .short x)) = vs') {n0 : Nat} (N : Fr n0 locs) (g : n0 ≤ a) (n : Nat) (hd : decode c.code pc = .ok (.sastore, 1)) (hp : pc + 1 = n)
    (hr : ∀ T' h' locs', Stand p l e R s m args below meth c T' locs' cells slots → T'.heap = h' → Wr h h' a i (.int (nar .short x)) → Arv Z h' a k .short z vs' dv → Fr n0 locs' → Wout p e below P T' (mkF m n Ls rest)) : Wout p e below P T (mkF m pc Ls (.int x :: .int j :: .ref a :: rest)) := by
  subst hp hvs
  obtain ⟨cl, A, q1, S, M, H, G⟩ := V
  obtain ⟨T', h', X', e', W, st⟩ := stS X hx hZ eT A (j := j) (x := x) (inb_of S hj) (g := mkF m pc Ls (.int x :: .int j :: .ref a :: rest)) rfl rfl hd
  exact Wout.of st (hr T' h' _ X' e' (hi ▸ W) (Arv.set A q1 S M H G (fits_nar_short x) W i hi hil) (Fr.snoc X' N g))
theorem o_bastore (X : Stand p l e R s m args below meth c T locs cells slots) (hx : p.tables.exec = Jvm.exec) (hZ : Z.Warmed39 s.vm) (eT : T.heap = h) {a : Addr} {k : ClassId} {z : Int32} {vs : List Value} {dv : Value} (V : Arv Z h a k .byte z vs dv) {j : Int32} {x : Int32} (hj : ¬ j < 0 ∧ j < z) (i : Nat) (hi : j.toNatClampNeg = i) (hil : i < vs.length) {vs' : List Value} (hvs : vs.set i (.int (nar .byte x)) = vs') {n0 : Nat} (N : Fr n0 locs) (g : n0 ≤ a) (n : Nat) (hd : decode c.code pc = .ok (.bastore, 1)) (hp : pc + 1 = n)
    (hr : ∀ T' h' locs', Stand p l e R s m args below meth c T' locs' cells slots → T'.heap = h' → Wr h h' a i (.int (nar .byte x)) → Arv Z h' a k .byte z vs' dv → Fr n0 locs' → Wout p e below P T' (mkF m n Ls rest)) : Wout p e below P T (mkF m pc Ls (.int x :: .int j :: .ref a :: rest)) := by
  subst hp hvs
  obtain ⟨cl, A, q1, S, M, H, G⟩ := V
  obtain ⟨T', h', X', e', W, st⟩ := stB X hx hZ eT A (j := j) (x := x) (inb_of S hj) (g := mkF m pc Ls (.int x :: .int j :: .ref a :: rest)) rfl rfl hd
  exact Wout.of st (hr T' h' _ X' e' (hi ▸ W) (Arv.set A q1 S M H G (fits_nar_byte x) W i hi hil) (Fr.snoc X' N g))
theorem o_bastoreZ (X : Stand p l e R s m args below meth c T locs cells slots) (hx : p.tables.exec = Jvm.exec) (hZ : Z.Warmed39 s.vm) (eT : T.heap = h) {a : Addr} {k : ClassId} {z : Int32} {vs : List Value} {dv : Value} (V : Arv Z h a k .boolean z vs dv) {j : Int32} {x : Int32} (hj : ¬ j < 0 ∧ j < z) (i : Nat) (hi : j.toNatClampNeg = i) (hil : i < vs.length) {vs' : List Value} (hvs : vs.set i (.int (nar .boolean x)) = vs') {n0 : Nat} (N : Fr n0 locs) (g : n0 ≤ a) (n : Nat) (hd : decode c.code pc = .ok (.bastore, 1)) (hp : pc + 1 = n)
    (hr : ∀ T' h' locs', Stand p l e R s m args below meth c T' locs' cells slots → T'.heap = h' → Wr h h' a i (.int (nar .boolean x)) → Arv Z h' a k .boolean z vs' dv → Fr n0 locs' → Wout p e below P T' (mkF m n Ls rest)) : Wout p e below P T (mkF m pc Ls (.int x :: .int j :: .ref a :: rest)) := by
  subst hp hvs
  obtain ⟨cl, A, q1, S, M, H, G⟩ := V
  obtain ⟨T', h', X', e', W, st⟩ := stZ X hx hZ eT A (j := j) (x := x) (inb_of S hj) (g := mkF m pc Ls (.int x :: .int j :: .ref a :: rest)) rfl rfl hd
  exact Wout.of st (hr T' h' _ X' e' (hi ▸ W) (Arv.set A q1 S M H G (fits_nar_bool x) W i hi hil) (Fr.snoc X' N g))
theorem o_aastore (X : Stand p l e R s m args below meth c T locs cells slots) (hx : p.tables.exec = Jvm.exec) (hZ : Z.Warmed39 s.vm) (eT : T.heap = h) {a : Addr} {k : ClassId} {ty : FieldType} {z : Int32} {vs : List Value} {dv : Value} (V : Arv Z h a k ty z vs dv) (hty : ty.isReference = true) {j : Int32} {v : Value} (hj : ¬ j < 0 ∧ j < z) (i : Nat) (hi : j.toNatClampNeg = i) (hil : i < vs.length) {vs' : List Value} (hvs : vs.set i v = vs') (hfit : fits ty v = true) (Fs : Sto Z h a v) {n0 : Nat} (N : Fr n0 locs) (g : n0 ≤ a) (n : Nat) (hd : decode c.code pc = .ok (.aastore, 1)) (hp : pc + 1 = n)
    (hr : ∀ T' h' locs', Stand p l e R s m args below meth c T' locs' cells slots → T'.heap = h' → Wr h h' a i v → Arv Z h' a k ty z vs' dv → Fr n0 locs' → Wout p e below P T' (mkF m n Ls rest)) : Wout p e below P T (mkF m pc Ls (v :: .int j :: .ref a :: rest)) := by
  subst hp hvs
  obtain ⟨cl, A, q1, S, M, H, G⟩ := V
  obtain ⟨T', h', X', e', W, st⟩ := stR X hx hZ eT A (j := j) (v := v) (inb_of S hj) hty Fs (g := mkF m pc Ls (v :: .int j :: .ref a :: rest)) rfl rfl hd
  exact Wout.of st (hr T' h' _ X' e' (hi ▸ W) (Arv.set A q1 S M H G hfit W i hi hil) (Fr.snoc X' N g))
theorem Sto.arv {a y : Addr} {k : ClassId} {ty : FieldType} {z : Int32} {vs : List Value} {dv : Value} {C : String} (V : Arv Z h a k ty z vs dv) (O : Ovr Z k C) (I : Ins Z h y C true) : Sto Z h a (.ref y) := by
  obtain ⟨cl, A, q1, -⟩ := V
  exact Sto.ofV A q1 O I
theorem o_checkcast (X : Stand p l e R s m args below meth c T locs cells slots) (hx : p.tables.exec = Jvm.exec) (hZ : Z.Warmed39 s.vm) {own K : String} {index : Nat} (hown : s.vm.findClass own = some m.cls) (w : (Jvm.Cond.classLink own index K).before a0 Z = true) (eT : T.heap = h) {a : Addr} (F : Ins Z h a K true) (n : Nat) (hd : decode c.code pc = .ok (.checkcast index, 3)) (hp : pc + 3 = n)
    (hr : ∀ T', Stand p l e R s m args below meth c T' locs cells slots → T'.heap = h → Wout p e below P T' (mkF m n Ls (.ref a :: rest))) : Wout p e below P T (mkF m pc Ls (.ref a :: rest)) := by
  subst hp
  obtain ⟨T', X', e', st⟩ := castY X hx hZ hown w eT F (g := mkF m pc Ls (.ref a :: rest)) rfl rfl hd
  exact Wout.of st (hr T' X' e')
theorem o_instanceof (X : Stand p l e R s m args below meth c T locs cells slots) (hx : p.tables.exec = Jvm.exec) (hZ : Z.Warmed39 s.vm) {own K : String} {index : Nat} (hown : s.vm.findClass own = some m.cls) (w : (Jvm.Cond.classLink own index K).before a0 Z = true) (eT : T.heap = h) {a : Addr} (F : Ins Z h a K true) (n : Nat) (hd : decode c.code pc = .ok (.instanceof index, 3)) (hp : pc + 3 = n)
    (hr : ∀ T', Stand p l e R s m args below meth c T' locs cells slots → T'.heap = h → Wout p e below P T' (mkF m n Ls (.int 1 :: rest))) : Wout p e below P T (mkF m pc Ls (.ref a :: rest)) := by
  subst hp
  obtain ⟨T', X', e', st⟩ := instY X hx hZ hown w eT F (g := mkF m pc Ls (.ref a :: rest)) rfl rfl hd
  exact Wout.of st (hr T' X' e')
/-! calls -/
theorem o_initO (X : Stand p l e R s m args below meth c T locs cells slots) (hx : p.tables.exec = Jvm.exec) (hZ : Z.Warmed39 s.vm) {own : String} {idx : Nat} (hown : s.vm.findClass own = some m.cls) (w1 : (Jvm.Cond.methodLink own idx Lib.objectInit).before a0 Z = true) (w2 : (Jvm.Cond.instanceMethod Lib.objectInit).before a0 Z = true) (w3 : (Jvm.Cond.code Lib.objectInit ⟨#[0xb1]⟩ 1 none).before a0 Z = true) (eT : T.heap = h) (hsz : Ls.size = c.maxLocals) {a : Addr} (hf : 1 ≤ R.frames) (W : Nat) (hW : (rest.map fun v => v.category).sum ≤ W) (hl : W + 12 ≤ R.locals) (n : Nat) (hd : decode c.code pc = .ok (.invokespecial idx, 3)) (hp : pc + 3 = n)
    (hr : ∀ T', Stand p l e R s m args below meth c T' locs cells slots → T'.heap = h → Wout p e below P T' (mkF m n Ls rest)) : Wout p e below P T (mkF m pc Ls (.ref a :: rest)) := by
  subst hp
  obtain ⟨T', X', e', st⟩ := initO X hx hZ hown w1 w2 w3 eT (g := mkF m pc Ls (.ref a :: rest)) rfl hsz rfl hd hf (W := W) (by simpa using hW) hl
  exact Wout.of st (hr T' X' e')
theorem o_callS (X : Stand p l e R s m args below meth c T locs cells slots) (hx : p.tables.exec = Jvm.exec) (hZ : Z.Warmed39 s.vm) {own : String} {index : Nat} {y : MethodName} {bytes : ByteArray} {maxL : Nat} {ret : Option FieldType} (hown : s.vm.findClass own = some m.cls) (w1 : (Jvm.Cond.methodLink own index y).before a0 Z = true) (w2 : (Jvm.Cond.static y).before a0 Z = true) (w3 : (Jvm.Cond.initialized y.cls).before a0 Z = true) (w4 : (Jvm.Cond.code y bytes maxL ret).before a0 Z = true)
    (hy : y.cls ≠ "java/lang/invoke/MethodHandle" ∧ y.cls ≠ "java/lang/invoke/VarHandle") {rm : Room} {as' : Array Value} {Q : Option Value → Heap → List Loc → Prop} (hM : Met l Z y bytes maxL ret [] rm as' h Q) (eT : T.heap = h) (hf : rm.frames + 1 ≤ R.frames) (W : Nat) (hl : W + (maxL + 11) + rm.locals ≤ R.locals) (hsz : Ls.size = c.maxLocals) (argsL : List Value) {st : List Value} (hlen : ∀ sig, parseMethodDescriptor y.desc = some sig → argsL.length = sig.parameters.length) (hst : st = argsL.reverse ++ rest) (has : argsL.toArray = as')
    (hW : (rest.map fun v => v.category).sum ≤ W) (hc : cells + rm.cells ≤ R.cells) (hs : slots + rm.slots ≤ R.slots) (n : Nat) (hd : decode c.code pc = .ok (.invokestatic index, 3)) (hp : pc + 3 = n)
    (hr : ∀ v T' h' L, Stand p l e R s m args below meth c T' (locs ++ L) (cells + rm.cells) (slots + rm.slots) → T'.heap = h' → Q v h' L → Wout p e below P T' (mkF m n Ls (v.toList ++ rest))) : Wout p e below P T (mkF m pc Ls st) := by
  subst hp has hst
  obtain ⟨v, vm₁, ⟨T', L', k', n'⟩, -, X', ⟨Lc, hQ, l1, y1, z1⟩, st⟩ := Jvm.LawKit.callS X hx hown (mv hZ w1) (mv hZ w2) (mv hZ w3) (mv hZ w4) hy (backOf (W := W) hM hZ w4 w3 hf hl) (g := mkF m pc Ls (argsL.reverse ++ rest)) rfl hsz (argsL := argsL) (rest := rest) hlen rfl (by simpa using hW) hd (fun _ _ => ⟨rfl, eT, hc, hs⟩)
  dsimp only [Pt.U, Pt.locs, Pt.cells, Pt.slots] at X' l1 y1 z1 hQ st
  subst l1 y1 z1
  exact Wout.of st (hr v T' T'.heap Lc X' rfl hQ)
theorem o_callI (X : Stand p l e R s m args below meth c T locs cells slots) (hx : p.tables.exec = Jvm.exec) (hZ : Z.Warmed39 s.vm) {own : String} {index : Nat} {y : MethodName} {bytes : ByteArray} {maxL : Nat} (hy1 : y.name = "<init>") (hown : s.vm.findClass own = some m.cls) (w1 : (Jvm.Cond.methodLink own index y).before a0 Z = true) (w2 : (Jvm.Cond.instanceMethod y).before a0 Z = true) (w3 : (Jvm.Cond.initialized y.cls).before a0 Z = true) (w4 : (Jvm.Cond.code y bytes maxL none).before a0 Z = true)
    (hy : y.cls ≠ "java/lang/invoke/MethodHandle" ∧ y.cls ≠ "java/lang/invoke/VarHandle") {rm : Room} {as' : Array Value} {Q : Option Value → Heap → List Loc → Prop} (hM : Met l Z y bytes maxL none [] rm as' h Q) (eT : T.heap = h) (hf : rm.frames + 1 ≤ R.frames) (W : Nat) (hl : W + (maxL + 11) + rm.locals ≤ R.locals) (hsz : Ls.size = c.maxLocals) {a : Addr} (argsL : List Value) {st : List Value} (hlen : ∀ sig, parseMethodDescriptor y.desc = some sig → argsL.length = sig.parameters.length) (hst : st = argsL.reverse ++ .ref a :: rest) (has : (.ref a :: argsL).toArray = as')
    (hW : (rest.map fun v => v.category).sum ≤ W) (hc : cells + rm.cells ≤ R.cells) (hs : slots + rm.slots ≤ R.slots) (n : Nat) (hd : decode c.code pc = .ok (.invokespecial index, 3)) (hp : pc + 3 = n)
    (hr : ∀ v T' h' L, Stand p l e R s m args below meth c T' (locs ++ L) (cells + rm.cells) (slots + rm.slots) → T'.heap = h' → Q v h' L → Wout p e below P T' (mkF m n Ls (v.toList ++ rest))) : Wout p e below P T (mkF m pc Ls st) := by
  subst hp has hst
  obtain ⟨v, vm₁, ⟨T', L', k', n'⟩, -, X', ⟨Lc, hQ, l1, y1, z1⟩, st⟩ := X.specialBack hx hy1 hown (mv hZ w1) (mv hZ w2) (mv hZ w4) hy (backOf (W := W) hM hZ w4 w3 hf hl) (g := mkF m pc Ls (argsL.reverse ++ .ref a :: rest)) rfl hsz (Steps.refl _) (a := a) (argsL := argsL) (rest := rest) hlen rfl (by simpa using hW) hd (fun _ _ => ⟨rfl, eT, hc, hs⟩)
  dsimp only [Pt.U, Pt.locs, Pt.cells, Pt.slots] at X' l1 y1 z1 hQ st
  subst l1 y1 z1
  exact Wout.tr st (hr v T' T'.heap Lc X' rfl hQ)
theorem o_callIB (X : Stand p l e R s m args below meth c T locs cells slots) (hx : p.tables.exec = Jvm.exec) (hZ : Z.Warmed39 s.vm) {own : String} {index : Nat} {y : MethodName} {bytes : ByteArray} {maxL : Nat} (hy1 : y.name = "<init>") (hown : s.vm.findClass own = some m.cls) (w1 : (Jvm.Cond.methodLink own index y).before a0 Z = true) (w2 : (Jvm.Cond.instanceMethod y).before a0 Z = true) (w4 : (Jvm.Cond.code y bytes maxL none).before a0 Z = true)
    (hy : y.cls ≠ "java/lang/invoke/MethodHandle" ∧ y.cls ≠ "java/lang/invoke/VarHandle") {kc ks W : Nat} {as' : Array Value} {Q : Option Value → Heap → List Loc → Prop} (hK : Back l R p e below s args y 3 W (fun A a => a = as' ∧ A.U.heap = h ∧ A.cells + kc ≤ R.cells ∧ A.slots + ks ≤ R.slots) (fun A _ v B => ∃ L, Q v B.U.heap L ∧ B.locs = A.locs ++ L ∧ B.cells = A.cells + kc ∧ B.slots = A.slots + ks)) (eT : T.heap = h) (hsz : Ls.size = c.maxLocals) {a : Addr} (argsL : List Value) {st : List Value} (hlen : ∀ sig, parseMethodDescriptor y.desc = some sig → argsL.length = sig.parameters.length) (hst : st = argsL.reverse ++ .ref a :: rest) (has : (.ref a :: argsL).toArray = as')
    (hW : (rest.map fun v => v.category).sum ≤ W) (hc : cells + kc ≤ R.cells) (hs : slots + ks ≤ R.slots) (n : Nat) (hd : decode c.code pc = .ok (.invokespecial index, 3)) (hp : pc + 3 = n)
    (hr : ∀ v T' h' L, Stand p l e R s m args below meth c T' (locs ++ L) (cells + kc) (slots + ks) → T'.heap = h' → Q v h' L → Wout p e below P T' (mkF m n Ls (v.toList ++ rest))) : Wout p e below P T (mkF m pc Ls st) := by
  subst hp has hst
  obtain ⟨v, vm₁, ⟨T', L', k', n'⟩, -, X', ⟨Lc, hQ, l1, y1, z1⟩, st⟩ := X.specialBack hx hy1 hown (mv hZ w1) (mv hZ w2) (mv hZ w4) hy hK (g := mkF m pc Ls (argsL.reverse ++ .ref a :: rest)) rfl hsz (Steps.refl _) (a := a) (argsL := argsL) (rest := rest) hlen rfl (by simpa using hW) hd (fun _ _ => ⟨rfl, eT, hc, hs⟩)
  dsimp only [Pt.U, Pt.locs, Pt.cells, Pt.slots] at X' l1 y1 z1 hQ st
  subst l1 y1 z1
  exact Wout.tr st (hr v T' T'.heap Lc X' rfl hQ)
theorem o_callV (X : Stand p l e R s m args below meth c T locs cells slots) (hx : p.tables.exec = Jvm.exec) (hZ : Z.Warmed39 s.vm) {own C : String} {index : Nat} {y : MethodName} {bytes : ByteArray} {maxL : Nat} {ret : Option FieldType} (hown : s.vm.findClass own = some m.cls) (w1 : (Jvm.Cond.methodLink own index y).before a0 Z = true) (w5 : (Jvm.Cond.declares y).before a0 Z = true) (w6 : (Jvm.Cond.selects C y y).before a0 Z = true) (w2 : (Jvm.Cond.instanceMethod y).before a0 Z = true) (w3 : (Jvm.Cond.initialized y.cls).before a0 Z = true) (w4 : (Jvm.Cond.code y bytes maxL ret).before a0 Z = true)
    (hy : y.cls ≠ "java/lang/invoke/MethodHandle" ∧ y.cls ≠ "java/lang/invoke/VarHandle") {rm : Room} {as' : Array Value} {Q : Option Value → Heap → List Loc → Prop} (hM : Met l Z y bytes maxL ret [] rm as' h Q) (eT : T.heap = h) (hf : rm.frames + 1 ≤ R.frames) (W : Nat) (hl : W + (maxL + 11) + rm.locals ≤ R.locals) (hsz : Ls.size = c.maxLocals) {a : Addr} (E : Exa Z h a C) (argsL : List Value) {st : List Value} (hlen : ∀ sig, parseMethodDescriptor y.desc = some sig → argsL.length = sig.parameters.length) (hst : st = argsL.reverse ++ .ref a :: rest) (has : (.ref a :: argsL).toArray = as')
    (hW : (rest.map fun v => v.category).sum ≤ W) (hc : cells + rm.cells ≤ R.cells) (hs : slots + rm.slots ≤ R.slots) (n : Nat) (hd : decode c.code pc = .ok (.invokevirtual index, 3)) (hp : pc + 3 = n)
    (hr : ∀ v T' h' L, Stand p l e R s m args below meth c T' (locs ++ L) (cells + rm.cells) (slots + rm.slots) → T'.heap = h' → Q v h' L → Wout p e below P T' (mkF m n Ls (v.toList ++ rest))) : Wout p e below P T (mkF m pc Ls st) := by
  subst hp has hst
  obtain ⟨cq, kq, qa, qb, qc⟩ := isOf hZ eT E
  obtain ⟨v, vm₁, ⟨T', L', k', n'⟩, -, X', ⟨Lc, hQ, l1, y1, z1⟩, st⟩ := X.virtualBack hx hown (mv hZ w1) (mv hZ w5) (notFace_of_selects (args := #[]) (mv hZ w6)) (mv hZ w6) (mv hZ w2) hy (backOf (W := W) hM hZ w4 w3 hf hl) qa qc (g := mkF m pc Ls (argsL.reverse ++ .ref a :: rest)) rfl hsz (Steps.refl _) (argsL := argsL) (rest := rest) hlen rfl (by simpa using hW) hd (fun _ _ => ⟨rfl, eT, hc, hs⟩)
  dsimp only [Pt.U, Pt.locs, Pt.cells, Pt.slots] at X' l1 y1 z1 hQ st
  subst l1 y1 z1
  exact Wout.tr st (hr v T' T'.heap Lc X' rfl hQ)
theorem o_callU (X : Stand p l e R s m args below meth c T locs cells slots) (hx : p.tables.exec = Jvm.exec) (hZ : Z.Warmed39 s.vm) {own C owner : String} {index : Nat} {y z : MethodName} {bytes : ByteArray} {maxL : Nat} {ret : Option FieldType} (hown : s.vm.findClass own = some m.cls) (w1 : (Jvm.Cond.methodLink own index y).before a0 Z = true) (w7 : (Jvm.Cond.sameMethod y.cls owner y.name y.desc).before a0 Z = true) (w5 : (Jvm.Cond.declares ⟨owner, y.name, y.desc⟩).before a0 Z = true) (w6 : (Jvm.Cond.selects C y z).before a0 Z = true) (w2 : (Jvm.Cond.instanceMethod z).before a0 Z = true) (w3 : (Jvm.Cond.initialized z.cls).before a0 Z = true) (w4 : (Jvm.Cond.code z bytes maxL ret).before a0 Z = true)
    (hy : owner ≠ "java/lang/invoke/MethodHandle" ∧ owner ≠ "java/lang/invoke/VarHandle") {rm : Room} {as' : Array Value} {Q : Option Value → Heap → List Loc → Prop} (hM : Met l Z z bytes maxL ret [] rm as' h Q) (eT : T.heap = h) (hf : rm.frames + 1 ≤ R.frames) (W : Nat) (hl : W + (maxL + 11) + rm.locals ≤ R.locals) (hsz : Ls.size = c.maxLocals) {a : Addr} (E : Exa Z h a C) (argsL : List Value) {st : List Value} (hlen : ∀ sig, parseMethodDescriptor y.desc = some sig → argsL.length = sig.parameters.length) (hst : st = argsL.reverse ++ .ref a :: rest) (has : (.ref a :: argsL).toArray = as')
    (hW : (rest.map fun v => v.category).sum ≤ W) (hc : cells + rm.cells ≤ R.cells) (hs : slots + rm.slots ≤ R.slots) (n : Nat) (hd : decode c.code pc = .ok (.invokevirtual index, 3)) (hp : pc + 3 = n)
    (hr : ∀ v T' h' L, Stand p l e R s m args below meth c T' (locs ++ L) (cells + rm.cells) (slots + rm.slots) → T'.heap = h' → Q v h' L → Wout p e below P T' (mkF m n Ls (v.toList ++ rest))) : Wout p e below P T (mkF m pc Ls st) := by
  subst hp has hst
  obtain ⟨cq, kq, qa, qb, qc⟩ := isOf hZ eT E
  obtain ⟨v, vm₁, ⟨T', L', k', n'⟩, -, X', ⟨Lc, hQ, l1, y1, z1⟩, st⟩ := X.virtualBackUp hx hown (mv hZ w1) (mv hZ w7) (mv hZ w5) hy (mv hZ w6) (mv hZ w2) (backOf (W := W) hM hZ w4 w3 hf hl) qa qc (g := mkF m pc Ls (argsL.reverse ++ .ref a :: rest)) rfl hsz (Steps.refl _) (argsL := argsL) (rest := rest) hlen rfl (by simpa using hW) hd (fun _ _ => ⟨rfl, eT, hc, hs⟩)
  dsimp only [Pt.U, Pt.locs, Pt.cells, Pt.slots] at X' l1 y1 z1 hQ st
  subst l1 y1 z1
  exact Wout.tr st (hr v T' T'.heap Lc X' rfl hQ)
/-! returns -/
theorem o_retW (X : Stand p l e R s m args below meth c T locs cells slots) (hx : p.tables.exec = Jvm.exec) {Q : Option Value → Heap → List Loc → Prop} {C S : Nat} {w w' : Value} {t : FieldType} {i : Instr} (hlk : meth.locks = false) (hret : meth.sig.returnType = some t) (hn : Jvm.narrow t w = w)
    (hi : (i = .ireturn ∧ (t = .int ∨ t = .boolean ∨ t = .byte ∨ t = .char ∨ t = .short) ∧ ∃ z, w = .int z) ∨ (i = .lreturn ∧ t = .long ∧ ∃ z, w = .long z) ∨ (i = .dreturn ∧ t = .double ∧ ∃ z, w = .double z) ∨ (i = .freturn ∧ t = .float ∧ ∃ z, w = .float z) ∨ (i = .areturn ∧ t.isReference = true ∧ w.isRef = true))
    (hd : decode c.code pc = .ok (i, 1)) (hc : cells ≤ C) (hs : slots ≤ S) (hq : Q (some w) T.heap locs) : Wout p e below (Pst s Q C S) T (mkF m pc Ls (w :: rest)) := by
  obtain ⟨fs, hr, hrun, hended, hW, hsame⟩ := X.leave (v := some w) (fun q => by rw [hret] at q; cases q) hlk
  exact ⟨_, _, retOut X hx hret hn hi hd hr, hrun, hended, _, _, rfl, hq, ⟨_, rfl⟩, hW, hsame.mono hc hs⟩
theorem o_retI (X : Stand p l e R s m args below meth c T locs cells slots) (hx : p.tables.exec = Jvm.exec) {Q : Option Value → Heap → List Loc → Prop} {C S : Nat} {x : Int32} {t : FieldType} (hlk : meth.locks = false) (hret : meth.sig.returnType = some t) (hn : Jvm.narrow t (.int x) = .int x) (ht : t = .int ∨ t = .boolean ∨ t = .byte ∨ t = .char ∨ t = .short)
    (hd : decode c.code pc = .ok (.ireturn, 1)) (hc : cells ≤ C) (hs : slots ≤ S) (hq : Q (some (.int x)) T.heap locs) : Wout p e below (Pst s Q C S) T (mkF m pc Ls (.int x :: rest)) :=
  o_retW X hx (w' := .null) hlk hret hn (Or.inl ⟨rfl, ht, x, rfl⟩) hd hc hs hq
theorem o_retL (X : Stand p l e R s m args below meth c T locs cells slots) (hx : p.tables.exec = Jvm.exec) {Q : Option Value → Heap → List Loc → Prop} {C S : Nat} {x : Int64} (hlk : meth.locks = false) (hret : meth.sig.returnType = some .long)
    (hd : decode c.code pc = .ok (.lreturn, 1)) (hc : cells ≤ C) (hs : slots ≤ S) (hq : Q (some (.long x)) T.heap locs) : Wout p e below (Pst s Q C S) T (mkF m pc Ls (.long x :: rest)) :=
  o_retW X hx (w' := .null) hlk hret rfl (Or.inr (Or.inl ⟨rfl, rfl, x, rfl⟩)) hd hc hs hq
theorem o_retA (X : Stand p l e R s m args below meth c T locs cells slots) (hx : p.tables.exec = Jvm.exec) {Q : Option Value → Heap → List Loc → Prop} {C S : Nat} {w : Value} {t : FieldType} (hlk : meth.locks = false) (hret : meth.sig.returnType = some t) (ht : t.isReference = true) (hw : w.isRef = true) (hn : Jvm.narrow t w = w)
    (hd : decode c.code pc = .ok (.areturn, 1)) (hc : cells ≤ C) (hs : slots ≤ S) (hq : Q (some w) T.heap locs) : Wout p e below (Pst s Q C S) T (mkF m pc Ls (w :: rest)) :=
  o_retW X hx (w' := .null) hlk hret hn (Or.inr (Or.inr (Or.inr (Or.inr ⟨rfl, ht, hw⟩)))) hd hc hs hq
theorem o_retD (X : Stand p l e R s m args below meth c T locs cells slots) (hx : p.tables.exec = Jvm.exec) {Q : Option Value → Heap → List Loc → Prop} {C S : Nat} {x : UInt64} (hlk : meth.locks = false) (hret : meth.sig.returnType = some .double)
    (hd : decode c.code pc = .ok (.dreturn, 1)) (hc : cells ≤ C) (hs : slots ≤ S) (hq : Q (some (.double x)) T.heap locs) : Wout p e below (Pst s Q C S) T (mkF m pc Ls (.double x :: rest)) :=
  o_retW X hx (w' := .null) hlk hret rfl (Or.inr (Or.inr (Or.inl ⟨rfl, rfl, x, rfl⟩))) hd hc hs hq
theorem o_retV (X : Stand p l e R s m args below meth c T locs cells slots) (hx : p.tables.exec = Jvm.exec) {Q : Option Value → Heap → List Loc → Prop} {C S : Nat} (hlk : meth.locks = false) (hret : meth.sig.returnType = none)
    (hd : decode c.code pc = .ok (.return_, 1)) (hc : cells ≤ C) (hs : slots ≤ S) (hq : Q none T.heap locs) : Wout p e below (Pst s Q C S) T (mkF m pc Ls []) := by
  obtain ⟨fs, hr, hrun, hended, hW, hsame⟩ := X.leave (v := none) (fun _ => rfl) hlk
  exact ⟨_, _, X.returnOut hx hret hd hr, hrun, hended, _, _, rfl, hq, ⟨_, rfl⟩, hW, hsame.mono hc hs⟩
/-! from the sheet's words -/
theorem fld_eq {t : Term} {a : Addr} {C n d : String} {k : Int32} (ev : t.eval args Z none [] Z = some (.ref a)) (q : (Jvm.Cond.eq (.field t C n d) (.int k)).value args Z none Z [] = some true) : Fld Z Z.heap a C n d (.int k) := by
  exact Fld.start ((fld_at ev).symm.trans (eqv_i rfl q))
theorem sta_bool {C n d : String} (w1 : (Jvm.Cond.initializedFor C n d).before args Z = true) (w2 : (Jvm.Cond.isInt (.static C n d)).before args Z = true) (w3 : (Jvm.Cond.not (.eq (.static C n d) (.int 0))).before args Z = true) : ∃ x : Int32, Sta Z Z.heap C n d (.int x) ∧ ¬ x = 0 := by
  obtain ⟨x, ev⟩ := is_v (Cond.before_iff.mp w2)
  refine ⟨x, Sta.start ev (Or.inl w1), fun q => ?_⟩
  have q2 := not_v (Cond.before_iff.mp w3)
  exact gotF (Cond.eq_ints ev rfl) q2 q
/-! numbers -/
theorem mask31 (x : Int32) : 0 ≤ (x &&& 2147483647).toInt := by
  have e := Jvm.Kit.i32_mask x 2147483647 (k := 31) (by decide) (by decide)
  omega
theorem rem_pos {y n : Int32} (hy : 0 ≤ y.toInt) (hn : 0 < n.toInt) : (y % n).toInt = y.toInt % n.toInt := by
  rw [Int32.toInt_mod, Int.tmod_eq_emod_of_nonneg hy]
theorem rem_in {y n : Int32} (hy : 0 ≤ y.toInt) (hn : 0 < n.toInt) : 0 ≤ (y % n).toInt ∧ (y % n).toInt < n.toInt := by
  rw [rem_pos hy hn]
  exact ⟨Int.emod_nonneg _ (by omega), Int.emod_lt_of_pos _ hn⟩
theorem in3 {k : Int32} (h1 : 0 ≤ k.toInt) (h2 : k.toInt < 3) : k = 0 ∨ k = 1 ∨ k = 2 := by
  have : k.toInt = 0 ∨ k.toInt = 1 ∨ k.toInt = 2 := by omega
  rcases this with q | q | q
  · exact Or.inl (Int32.toInt_inj.mp q)
  · exact Or.inr (Or.inl (Int32.toInt_inj.mp q))
  · exact Or.inr (Or.inr (Int32.toInt_inj.mp q))
theorem in4 {k : Int32} (h1 : 0 ≤ k.toInt) (h2 : k.toInt < 4) : k = 0 ∨ k = 1 ∨ k = 2 ∨ k = 3 := by
  have : k.toInt = 0 ∨ k.toInt = 1 ∨ k.toInt = 2 ∨ k.toInt = 3 := by omega
  rcases this with q | q | q | q
  · exact Or.inl (Int32.toInt_inj.mp q)
  · exact Or.inr (Or.inl (Int32.toInt_inj.mp q))
  · exact Or.inr (Or.inr (Or.inl (Int32.toInt_inj.mp q)))
  · exact Or.inr (Or.inr (Or.inr (Int32.toInt_inj.mp q)))
end K
end Jvm.OwnWalk
namespace Jvm.Pilot.@@N@@
open Jvm Jvm.ClassFile Sem Op Lib Jvm.Free Jvm.Stand Jvm.LawKit Jvm.RoadKit Jvm.OwnWalk Bundle Jvm.Pilot.@@N@@.Jvm.D
theorem d_prog_11_method_1_0 : decode prog_11_method_1_code 0 = .ok (.aload_n 0, 1) := by decide +kernel
theorem d_prog_11_method_1_1 : decode prog_11_method_1_code 1 = .ok (.invokespecial 1, 3) := by decide +kernel
theorem d_prog_11_method_1_4 : decode prog_11_method_1_code 4 = .ok (.aload_n 0, 1) := by decide +kernel
theorem d_prog_11_method_1_5 : decode prog_11_method_1_code 5 = .ok (.aload_n 1, 1) := by decide +kernel
theorem d_prog_11_method_1_6 : decode prog_11_method_1_code 6 = .ok (.putfield 7, 3) := by decide +kernel
theorem d_prog_11_method_1_9 : decode prog_11_method_1_code 9 = .ok (.aload_n 0, 1) := by decide +kernel
theorem d_prog_11_method_1_10 : decode prog_11_method_1_code 10 = .ok (.iload_n 2, 1) := by decide +kernel
theorem d_prog_11_method_1_11 : decode prog_11_method_1_code 11 = .ok (.newarray .int, 2) := by decide +kernel
theorem d_prog_11_method_1_13 : decode prog_11_method_1_code 13 = .ok (.putfield 13, 3) := by decide +kernel
theorem d_prog_11_method_1_16 : decode prog_11_method_1_code 16 = .ok (.aload_n 0, 1) := by decide +kernel
theorem d_prog_11_method_1_17 : decode prog_11_method_1_code 17 = .ok (.iload_n 2, 1) := by decide +kernel
theorem d_prog_11_method_1_18 : decode prog_11_method_1_code 18 = .ok (.newarray .int, 2) := by decide +kernel
theorem d_prog_11_method_1_20 : decode prog_11_method_1_code 20 = .ok (.putfield 17, 3) := by decide +kernel
theorem d_prog_11_method_1_23 : decode prog_11_method_1_code 23 = .ok (.return_, 1) := by decide +kernel
theorem pn_0 : plainName "com/example/tidewater/tidewater/StreamRow" = true := by first | (simp [plainName, overriddenIn]; done) | decide +kernel
def Q_init (Z : State) (a1 a2 : Addr) (u1 u2 u3 : Value) (h0 : Heap) (n0 : Nat) (v : Option Value) (h : Heap) (L : List Loc) : Prop := ∃ (sa ea : Addr) (ks ke : ClassId), v = none ∧ Fr n0 L ∧ Keep h0 h [a1] ∧ Exa Z h a1 "com/example/tidewater/tidewater/StreamRow" ∧ Fld Z h a1 "com/example/tidewater/tidewater/StreamRow" "message" "[B" (.ref a2) ∧ Fld Z h a1 "com/example/tidewater/tidewater/StreamRow" "starts" "[I" (.ref sa) ∧ Fld Z h a1 "com/example/tidewater/tidewater/StreamRow" "ends" "[I" (.ref ea) ∧ Arv Z h sa ks .int 3 [(.int 0), (.int 0), (.int 0)] (.int 0) ∧ Arv Z h ea ke .int 3 [(.int 0), (.int 0), (.int 0)] (.int 0) ∧ n0 ≤ sa ∧ n0 ≤ ea ∧ sa ≠ ea ∧ a1 ≠ sa ∧ a1 ≠ ea ∧ h0.size ≤ sa ∧ h0.size ≤ ea
set_option maxRecDepth 65536 in
set_option maxHeartbeats 40000000 in
theorem rm_init (l : Launch) (Z : State) (a0 : Array Value) (hw : ∀ d ∈ tables_1, d.before a0 Z = true) (ws : List Jvm.Cond) (a1 a2 : Addr) (u1 u2 u3 : Value) (h0 : Heap) (n0 : Nat) (Z0 : n0 ≤ h0.size) (E_a1 : Exa Z h0 a1 "com/example/tidewater/tidewater/StreamRow") (F1 : Fld Z h0 a1 "com/example/tidewater/tidewater/StreamRow" "message" "[B" u1) (F2 : Fld Z h0 a1 "com/example/tidewater/tidewater/StreamRow" "starts" "[I" u2) (F3 : Fld Z h0 a1 "com/example/tidewater/tidewater/StreamRow" "ends" "[I" u3) (g_a1 : n0 ≤ a1) :
    Met l Z (⟨"com/example/tidewater/tidewater/StreamRow", "<init>", "([BI)V"⟩ : MethodName) prog_11_method_1_code 3 none ws ({ frames := 1, cells := 2, slots := 6, locals := 12 } : Room) #[(.ref a1), (.ref a2), (.int (3 : Int32))] h0 (Q_init Z a1 a2 u1 u2 u3 h0 n0) := by
  refine Met.start (plainFor_of_name pn_0) ?_
  intro p e s m below meth c T X hx hby hml hown hnm hret hlk hZ eT
  have N := Fr.nil n0
  have K := Keep.refl h0 [a1]
  refine Wout.cast (g' := (mkF m 0 #[.val (.ref a1), .val (.ref a2), .val (.int (3 : Int32))] [])) (by first | (simp [entryFrame, mkF, argsToLocals, Value.category]; done) | rfl) ?_
  refine o_aloadN X hx 1 (hb hby d_prog_11_method_1_0) rfl rfl rfl ?_
  refine o_initO X hx hZ hown (hw _ (List.mem_of_getElem? (i := 7) rfl)) (hw _ (List.mem_of_getElem? (i := 8) rfl)) (hw _ (List.mem_of_getElem? (i := 9) rfl)) eT (by rw [hml]; rfl) (by decide) 0 (Nat.le_of_eq rfl) (by decide) 4 (hb hby d_prog_11_method_1_1) rfl (fun T X eT => ?_)
  refine o_aloadN X hx 5 (hb hby d_prog_11_method_1_4) rfl rfl rfl ?_
  refine o_aloadN X hx 6 (hb hby d_prog_11_method_1_5) rfl rfl rfl ?_
  refine o_putF X hx hZ (.array .byte) hown (host := "") (Or.inl (hw _ (List.mem_of_getElem? (i := 10) rfl))) Via.refl eT F1 E_a1 (Or.inr ⟨(hw _ (List.mem_of_getElem? (i := 11) rfl)), rfl, hnm⟩) (hw _ (List.mem_of_getElem? (i := 2) rfl)) (by decide) rfl rfl N g_a1 9 (hb hby d_prog_11_method_1_6) rfl (fun T h1 locs X eT W N => ?_)
  replace E_a1 := E_a1.wr W
  replace F1 := F1.same W
  replace F2 := F2.other W (Or.inr (slot_ne (Or.inr (hw _ (List.mem_of_getElem? (i := 14) rfl))) (Or.inr (hw _ (List.mem_of_getElem? (i := 11) rfl))) (by decide) (t := (.array .int)) (t' := (.array .byte)) (by decide) (by decide)))
  replace F3 := F3.other W (Or.inr (slot_ne (Or.inr (hw _ (List.mem_of_getElem? (i := 16) rfl))) (Or.inr (hw _ (List.mem_of_getElem? (i := 11) rfl))) (by decide) (t := (.array .int)) (t' := (.array .byte)) (by decide) (by decide)))
  replace Z0 := Nat.le_trans Z0 (Keep.of_wr W).1
  replace K := K.wr W (Or.inl (List.mem_of_getElem? (i := 0) rfl))
  refine o_aloadN X hx 10 (hb hby d_prog_11_method_1_9) rfl rfl rfl ?_
  refine o_iloadN X hx 11 (hb hby d_prog_11_method_1_10) rfl rfl ?_
  refine o_newarray X hx hZ (hw _ (List.mem_of_getElem? (i := 12) rfl)) eT 13 (hb hby d_prog_11_method_1_11) rfl (by decide) 3 (by decide) (by decide) (by decide) (by decide) (fun T h2 b2 k2 hb2 X eT E A => ?_)
  have ne_a1_b2 : a1 ≠ b2 := Nat.ne_of_lt (Nat.lt_of_lt_of_eq E_a1.lt hb2.symm)
  have g_b2 : n0 ≤ b2 := Nat.le_trans Z0 (Nat.le_of_eq hb2.symm)
  have sz_b2 : h0.size ≤ b2 := Nat.le_trans K.1 (Nat.le_of_eq hb2.symm)
  replace E_a1 := E_a1.ext E
  replace F1 := F1.ext E
  replace F2 := F2.ext E
  replace F3 := F3.ext E
  replace Z0 := Nat.le_trans Z0 E.1
  replace K := K.ext E
  have V_b2 : Arv Z h2 b2 k2 .int (3 : Int32) [(.int (0 : Int32)), (.int (0 : Int32)), (.int (0 : Int32))] (.int (0 : Int32)) := A.pad (pad_rep [] (.int (0 : Int32)) 3)
  refine o_putF X hx hZ (.array .int) hown (host := "") (Or.inl (hw _ (List.mem_of_getElem? (i := 13) rfl))) Via.refl eT F2 E_a1 (Or.inr ⟨(hw _ (List.mem_of_getElem? (i := 14) rfl)), rfl, hnm⟩) (hw _ (List.mem_of_getElem? (i := 2) rfl)) (by decide) rfl rfl N g_a1 16 (hb hby d_prog_11_method_1_13) rfl (fun T h3 locs X eT W N => ?_)
  replace E_a1 := E_a1.wr W
  replace F1 := F1.other W (Or.inr (slot_ne (Or.inr (hw _ (List.mem_of_getElem? (i := 11) rfl))) (Or.inr (hw _ (List.mem_of_getElem? (i := 14) rfl))) (by decide) (t := (.array .byte)) (t' := (.array .int)) (by decide) (by decide)))
  replace F2 := F2.same W
  replace F3 := F3.other W (Or.inr (slot_ne (Or.inr (hw _ (List.mem_of_getElem? (i := 16) rfl))) (Or.inr (hw _ (List.mem_of_getElem? (i := 14) rfl))) (by decide) (t := (.array .int)) (t' := (.array .int)) (by decide) (by decide)))
  replace V_b2 := V_b2.other W (Ne.symm ne_a1_b2)
  replace Z0 := Nat.le_trans Z0 (Keep.of_wr W).1
  replace K := K.wr W (Or.inl (List.mem_of_getElem? (i := 0) rfl))
  refine o_aloadN X hx 17 (hb hby d_prog_11_method_1_16) rfl rfl rfl ?_
  refine o_iloadN X hx 18 (hb hby d_prog_11_method_1_17) rfl rfl ?_
  refine o_newarray X hx hZ (hw _ (List.mem_of_getElem? (i := 12) rfl)) eT 20 (hb hby d_prog_11_method_1_18) rfl (by decide) 3 (by decide) (by decide) (by decide) (by decide) (fun T h4 b4 k4 hb4 X eT E A => ?_)
  have ne_a1_b4 : a1 ≠ b4 := Nat.ne_of_lt (Nat.lt_of_lt_of_eq E_a1.lt hb4.symm)
  have ne_b2_b4 : b2 ≠ b4 := Nat.ne_of_lt (Nat.lt_of_lt_of_eq V_b2.lt hb4.symm)
  have g_b4 : n0 ≤ b4 := Nat.le_trans Z0 (Nat.le_of_eq hb4.symm)
  have sz_b4 : h0.size ≤ b4 := Nat.le_trans K.1 (Nat.le_of_eq hb4.symm)
  replace E_a1 := E_a1.ext E
  replace F1 := F1.ext E
  replace F2 := F2.ext E
  replace F3 := F3.ext E
  replace V_b2 := V_b2.ext E
  replace Z0 := Nat.le_trans Z0 E.1
  replace K := K.ext E
  have V_b4 : Arv Z h4 b4 k4 .int (3 : Int32) [(.int (0 : Int32)), (.int (0 : Int32)), (.int (0 : Int32))] (.int (0 : Int32)) := A.pad (pad_rep [] (.int (0 : Int32)) 3)
  refine o_putF X hx hZ (.array .int) hown (host := "") (Or.inl (hw _ (List.mem_of_getElem? (i := 15) rfl))) Via.refl eT F3 E_a1 (Or.inr ⟨(hw _ (List.mem_of_getElem? (i := 16) rfl)), rfl, hnm⟩) (hw _ (List.mem_of_getElem? (i := 2) rfl)) (by decide) rfl rfl N g_a1 23 (hb hby d_prog_11_method_1_20) rfl (fun T h5 locs X eT W N => ?_)
  replace E_a1 := E_a1.wr W
  replace F1 := F1.other W (Or.inr (slot_ne (Or.inr (hw _ (List.mem_of_getElem? (i := 11) rfl))) (Or.inr (hw _ (List.mem_of_getElem? (i := 16) rfl))) (by decide) (t := (.array .byte)) (t' := (.array .int)) (by decide) (by decide)))
  replace F2 := F2.other W (Or.inr (slot_ne (Or.inr (hw _ (List.mem_of_getElem? (i := 14) rfl))) (Or.inr (hw _ (List.mem_of_getElem? (i := 16) rfl))) (by decide) (t := (.array .int)) (t' := (.array .int)) (by decide) (by decide)))
  replace F3 := F3.same W
  replace V_b2 := V_b2.other W (Ne.symm ne_a1_b2)
  replace V_b4 := V_b4.other W (Ne.symm ne_a1_b4)
  replace Z0 := Nat.le_trans Z0 (Keep.of_wr W).1
  replace K := K.wr W (Or.inl (List.mem_of_getElem? (i := 0) rfl))
  exact o_retV X hx hlk hret (hb hby d_prog_11_method_1_23) (by decide) (by decide) (by rw [eT]; exact ⟨b2, b4, k2, k4, rfl, N, K, E_a1, F1, F2, F3, V_b2, V_b4, g_b2, g_b4, ne_b2_b4, ne_a1_b2, ne_a1_b4, sz_b2, sz_b4⟩)
theorem d_prog_11_method_2_0 : decode prog_11_method_2_code 0 = .ok (.aload_n 0, 1) := by decide +kernel
theorem d_prog_11_method_2_1 : decode prog_11_method_2_code 1 = .ok (.getfield 13, 3) := by decide +kernel
theorem d_prog_11_method_2_4 : decode prog_11_method_2_code 4 = .ok (.iload_n 1, 1) := by decide +kernel
theorem d_prog_11_method_2_5 : decode prog_11_method_2_code 5 = .ok (.iconst (-1), 1) := by decide +kernel
theorem d_prog_11_method_2_6 : decode prog_11_method_2_code 6 = .ok (.iastore, 1) := by decide +kernel
theorem d_prog_11_method_2_7 : decode prog_11_method_2_code 7 = .ok (.aload_n 0, 1) := by decide +kernel
theorem d_prog_11_method_2_8 : decode prog_11_method_2_code 8 = .ok (.getfield 17, 3) := by decide +kernel
theorem d_prog_11_method_2_11 : decode prog_11_method_2_code 11 = .ok (.iload_n 1, 1) := by decide +kernel
theorem d_prog_11_method_2_12 : decode prog_11_method_2_code 12 = .ok (.iconst (-1), 1) := by decide +kernel
theorem d_prog_11_method_2_13 : decode prog_11_method_2_code 13 = .ok (.iastore, 1) := by decide +kernel
theorem d_prog_11_method_2_14 : decode prog_11_method_2_code 14 = .ok (.return_, 1) := by decide +kernel
def Q_setn (Z : State) (a1 sa ea : Addr) (ks ke : ClassId) (vs ws' : List Value) (col : Int32) (h0 : Heap) (n0 : Nat) (v : Option Value) (h : Heap) (L : List Loc) : Prop := v = none ∧ Fr n0 L ∧ Keep h0 h [sa, ea] ∧ Arv Z h sa ks .int 3 (vs.set col.toNatClampNeg (.int (-1))) (.int 0) ∧ Arv Z h ea ke .int 3 (ws'.set col.toNatClampNeg (.int (-1))) (.int 0)
set_option maxRecDepth 65536 in
set_option maxHeartbeats 40000000 in
theorem rm_setn (l : Launch) (Z : State) (a0 : Array Value) (hw : ∀ d ∈ tables_1, d.before a0 Z = true) (ws : List Jvm.Cond) (a1 sa ea : Addr) (ks ke : ClassId) (vs ws' : List Value) (col : Int32) (h0 : Heap) (n0 : Nat) (Z0 : n0 ≤ h0.size) (F2 : Fld Z h0 a1 "com/example/tidewater/tidewater/StreamRow" "starts" "[I" (.ref sa)) (F3 : Fld Z h0 a1 "com/example/tidewater/tidewater/StreamRow" "ends" "[I" (.ref ea)) (Vs : Arv Z h0 sa ks .int 3 vs (.int 0)) (Ve : Arv Z h0 ea ke .int 3 ws' (.int 0)) (g_sa : n0 ≤ sa) (g_ea : n0 ≤ ea) (ne1 : sa ≠ ea) (ne2 : a1 ≠ sa) (ne3 : a1 ≠ ea) (hc : ¬ col < 0 ∧ col < 3) (hl1 : col.toNatClampNeg < vs.length) (hl2 : col.toNatClampNeg < ws'.length) :
    Met l Z (⟨"com/example/tidewater/tidewater/StreamRow", "setNull", "(I)V"⟩ : MethodName) prog_11_method_2_code 2 none ws ({ frames := 0, cells := 0, slots := 0, locals := 0 } : Room) #[(.ref a1), (.int col)] h0 (Q_setn Z a1 sa ea ks ke vs ws' col h0 n0) := by
  refine Met.start (plainFor_of_name pn_0) ?_
  intro p e s m below meth c T X hx hby hml hown hnm hret hlk hZ eT
  have N := Fr.nil n0
  have K := Keep.refl h0 [sa, ea]
  refine Wout.cast (g' := (mkF m 0 #[.val (.ref a1), .val (.int col)] [])) (by first | (simp [entryFrame, mkF, argsToLocals, Value.category]; done) | rfl) ?_
  refine o_aloadN X hx 1 (hb hby d_prog_11_method_2_0) rfl rfl rfl ?_
  refine o_getF X hx hZ hown (host := "") (Or.inl (hw _ (List.mem_of_getElem? (i := 13) rfl))) Via.refl eT F2 4 (hb hby d_prog_11_method_2_1) rfl (fun T X eT => ?_)
  refine o_iloadN X hx 5 (hb hby d_prog_11_method_2_4) rfl rfl ?_
  refine o_iconst X hx 6 (-1 : Int32) (hb hby d_prog_11_method_2_5) rfl rfl ?_
  refine o_iastore X hx hZ eT Vs hc col.toNatClampNeg rfl hl1 (vs' := (vs.set col.toNatClampNeg (.int (-1 : Int32)))) rfl N g_sa 7 (hb hby d_prog_11_method_2_6) rfl (fun T h1 locs X eT W V' N => ?_)
  replace F2 := F2.other W (Or.inl ne2)
  replace F3 := F3.other W (Or.inl ne2)
  replace Ve := Ve.other W (Ne.symm ne1)
  replace Z0 := Nat.le_trans Z0 (Keep.of_wr W).1
  replace K := K.wr W (Or.inl (List.mem_of_getElem? (i := 0) rfl))
  replace Vs := V'
  refine o_aloadN X hx 8 (hb hby d_prog_11_method_2_7) rfl rfl rfl ?_
  refine o_getF X hx hZ hown (host := "") (Or.inl (hw _ (List.mem_of_getElem? (i := 15) rfl))) Via.refl eT F3 11 (hb hby d_prog_11_method_2_8) rfl (fun T X eT => ?_)
  refine o_iloadN X hx 12 (hb hby d_prog_11_method_2_11) rfl rfl ?_
  refine o_iconst X hx 13 (-1 : Int32) (hb hby d_prog_11_method_2_12) rfl rfl ?_
  refine o_iastore X hx hZ eT Ve hc col.toNatClampNeg rfl hl2 (vs' := (ws'.set col.toNatClampNeg (.int (-1 : Int32)))) rfl N g_ea 14 (hb hby d_prog_11_method_2_13) rfl (fun T h2 locs X eT W V' N => ?_)
  replace F2 := F2.other W (Or.inl ne3)
  replace F3 := F3.other W (Or.inl ne3)
  replace Vs := Vs.other W ne1
  replace Z0 := Nat.le_trans Z0 (Keep.of_wr W).1
  replace K := K.wr W (Or.inl (List.mem_of_getElem? (i := 1) rfl))
  replace Ve := V'
  exact o_retV X hx hlk hret (hb hby d_prog_11_method_2_14) (by decide) (by decide) (by rw [eT]; exact ⟨rfl, N, K, Vs, Ve⟩)
theorem d_prog_11_method_3_0 : decode prog_11_method_3_code 0 = .ok (.aload_n 0, 1) := by decide +kernel
theorem d_prog_11_method_3_1 : decode prog_11_method_3_code 1 = .ok (.getfield 13, 3) := by decide +kernel
theorem d_prog_11_method_3_4 : decode prog_11_method_3_code 4 = .ok (.iload_n 1, 1) := by decide +kernel
theorem d_prog_11_method_3_5 : decode prog_11_method_3_code 5 = .ok (.iload_n 2, 1) := by decide +kernel
theorem d_prog_11_method_3_6 : decode prog_11_method_3_code 6 = .ok (.iastore, 1) := by decide +kernel
theorem d_prog_11_method_3_7 : decode prog_11_method_3_code 7 = .ok (.aload_n 0, 1) := by decide +kernel
theorem d_prog_11_method_3_8 : decode prog_11_method_3_code 8 = .ok (.getfield 17, 3) := by decide +kernel
theorem d_prog_11_method_3_11 : decode prog_11_method_3_code 11 = .ok (.iload_n 1, 1) := by decide +kernel
theorem d_prog_11_method_3_12 : decode prog_11_method_3_code 12 = .ok (.iload_n 3, 1) := by decide +kernel
theorem d_prog_11_method_3_13 : decode prog_11_method_3_code 13 = .ok (.iastore, 1) := by decide +kernel
theorem d_prog_11_method_3_14 : decode prog_11_method_3_code 14 = .ok (.return_, 1) := by decide +kernel
def Q_sett (Z : State) (a1 sa ea : Addr) (ks ke : ClassId) (vs ws' : List Value) (col : Int32) (p3 p4 : Int32) (h0 : Heap) (n0 : Nat) (v : Option Value) (h : Heap) (L : List Loc) : Prop := v = none ∧ Fr n0 L ∧ Keep h0 h [sa, ea] ∧ Arv Z h sa ks .int 3 (vs.set col.toNatClampNeg (.int p3)) (.int 0) ∧ Arv Z h ea ke .int 3 (ws'.set col.toNatClampNeg (.int p4)) (.int 0)
set_option maxRecDepth 65536 in
set_option maxHeartbeats 40000000 in
theorem rm_sett (l : Launch) (Z : State) (a0 : Array Value) (hw : ∀ d ∈ tables_1, d.before a0 Z = true) (ws : List Jvm.Cond) (a1 sa ea : Addr) (ks ke : ClassId) (vs ws' : List Value) (col : Int32) (p3 p4 : Int32) (h0 : Heap) (n0 : Nat) (Z0 : n0 ≤ h0.size) (F2 : Fld Z h0 a1 "com/example/tidewater/tidewater/StreamRow" "starts" "[I" (.ref sa)) (F3 : Fld Z h0 a1 "com/example/tidewater/tidewater/StreamRow" "ends" "[I" (.ref ea)) (Vs : Arv Z h0 sa ks .int 3 vs (.int 0)) (Ve : Arv Z h0 ea ke .int 3 ws' (.int 0)) (g_sa : n0 ≤ sa) (g_ea : n0 ≤ ea) (ne1 : sa ≠ ea) (ne2 : a1 ≠ sa) (ne3 : a1 ≠ ea) (hc : ¬ col < 0 ∧ col < 3) (hl1 : col.toNatClampNeg < vs.length) (hl2 : col.toNatClampNeg < ws'.length) :
    Met l Z (⟨"com/example/tidewater/tidewater/StreamRow", "set", "(III)V"⟩ : MethodName) prog_11_method_3_code 4 none ws ({ frames := 0, cells := 0, slots := 0, locals := 0 } : Room) #[(.ref a1), (.int col), (.int p3), (.int p4)] h0 (Q_sett Z a1 sa ea ks ke vs ws' col p3 p4 h0 n0) := by
  refine Met.start (plainFor_of_name pn_0) ?_
  intro p e s m below meth c T X hx hby hml hown hnm hret hlk hZ eT
  have N := Fr.nil n0
  have K := Keep.refl h0 [sa, ea]
  refine Wout.cast (g' := (mkF m 0 #[.val (.ref a1), .val (.int col), .val (.int p3), .val (.int p4)] [])) (by first | (simp [entryFrame, mkF, argsToLocals, Value.category]; done) | rfl) ?_
  refine o_aloadN X hx 1 (hb hby d_prog_11_method_3_0) rfl rfl rfl ?_
  refine o_getF X hx hZ hown (host := "") (Or.inl (hw _ (List.mem_of_getElem? (i := 13) rfl))) Via.refl eT F2 4 (hb hby d_prog_11_method_3_1) rfl (fun T X eT => ?_)
  refine o_iloadN X hx 5 (hb hby d_prog_11_method_3_4) rfl rfl ?_
  refine o_iloadN X hx 6 (hb hby d_prog_11_method_3_5) rfl rfl ?_
  refine o_iastore X hx hZ eT Vs hc col.toNatClampNeg rfl hl1 (vs' := (vs.set col.toNatClampNeg (.int p3))) rfl N g_sa 7 (hb hby d_prog_11_method_3_6) rfl (fun T h1 locs X eT W V' N => ?_)
  replace F2 := F2.other W (Or.inl ne2)
  replace F3 := F3.other W (Or.inl ne2)
  replace Ve := Ve.other W (Ne.symm ne1)
  replace Z0 := Nat.le_trans Z0 (Keep.of_wr W).1
  replace K := K.wr W (Or.inl (List.mem_of_getElem? (i := 0) rfl))
  replace Vs := V'
  refine o_aloadN X hx 8 (hb hby d_prog_11_method_3_7) rfl rfl rfl ?_
  refine o_getF X hx hZ hown (host := "") (Or.inl (hw _ (List.mem_of_getElem? (i := 15) rfl))) Via.refl eT F3 11 (hb hby d_prog_11_method_3_8) rfl (fun T X eT => ?_)
  refine o_iloadN X hx 12 (hb hby d_prog_11_method_3_11) rfl rfl ?_
  refine o_iloadN X hx 13 (hb hby d_prog_11_method_3_12) rfl rfl ?_
  refine o_iastore X hx hZ eT Ve hc col.toNatClampNeg rfl hl2 (vs' := (ws'.set col.toNatClampNeg (.int p4))) rfl N g_ea 14 (hb hby d_prog_11_method_3_13) rfl (fun T h2 locs X eT W V' N => ?_)
  replace F2 := F2.other W (Or.inl ne3)
  replace F3 := F3.other W (Or.inl ne3)
  replace Vs := Vs.other W ne1
  replace Z0 := Nat.le_trans Z0 (Keep.of_wr W).1
  replace K := K.wr W (Or.inl (List.mem_of_getElem? (i := 1) rfl))
  replace Ve := V'
  exact o_retV X hx hlk hret (hb hby d_prog_11_method_3_14) (by decide) (by decide) (by rw [eT]; exact ⟨rfl, N, K, Vs, Ve⟩)
theorem d_method_2_0 : decode method_2_code 0 = .ok (.iload_n 2, 1) := by decide +kernel
theorem d_method_2_1 : decode method_2_code 1 = .ok (.ifCond .eq 11, 3) := by decide +kernel
theorem d_method_2_4 : decode method_2_code 4 = .ok (.aload_n 0, 1) := by decide +kernel
theorem d_method_2_5 : decode method_2_code 5 = .ok (.iload_n 1, 1) := by decide +kernel
theorem d_method_2_6 : decode method_2_code 6 = .ok (.invokevirtual 7, 3) := by decide +kernel
theorem d_method_2_9 : decode method_2_code 9 = .ok (.goto 11, 3) := by decide +kernel
theorem d_method_2_12 : decode method_2_code 12 = .ok (.aload_n 0, 1) := by decide +kernel
theorem d_method_2_13 : decode method_2_code 13 = .ok (.iload_n 1, 1) := by decide +kernel
theorem d_method_2_14 : decode method_2_code 14 = .ok (.iload_n 3, 1) := by decide +kernel
theorem d_method_2_15 : decode method_2_code 15 = .ok (.iload 4, 2) := by decide +kernel
theorem d_method_2_17 : decode method_2_code 17 = .ok (.invokevirtual 13, 3) := by decide +kernel
theorem d_method_2_20 : decode method_2_code 20 = .ok (.return_, 1) := by decide +kernel
theorem pn_1 : plainName "com/example/tidewater/tidewater/StreamRowBytesPinLaw" = true := by first | (simp [plainName, overriddenIn]; done) | decide +kernel
theorem pd_0 : parseMethodDescriptor "(I)V" = some ⟨[.int], none⟩ := by decide +kernel
def Q_app1 (Z : State) (a1 sa ea : Addr) (ks ke : ClassId) (vs ws' : List Value) (col : Int32) (p3 p4 : Int32) (h0 : Heap) (n0 : Nat) (v : Option Value) (h : Heap) (L : List Loc) : Prop := v = none ∧ Fr n0 L ∧ Keep h0 h [sa, ea] ∧ Arv Z h sa ks .int 3 (vs.set col.toNatClampNeg (.int (-1))) (.int 0) ∧ Arv Z h ea ke .int 3 (ws'.set col.toNatClampNeg (.int (-1))) (.int 0)
set_option maxRecDepth 65536 in
set_option maxHeartbeats 40000000 in
theorem rm_app1 (l : Launch) (Z : State) (a0 : Array Value) (hw : ∀ d ∈ tables_1, d.before a0 Z = true) (ws : List Jvm.Cond) (a1 sa ea : Addr) (ks ke : ClassId) (vs ws' : List Value) (col : Int32) (p3 p4 : Int32) (h0 : Heap) (n0 : Nat) (Z0 : n0 ≤ h0.size) (E_a1 : Exa Z h0 a1 "com/example/tidewater/tidewater/StreamRow") (F2 : Fld Z h0 a1 "com/example/tidewater/tidewater/StreamRow" "starts" "[I" (.ref sa)) (F3 : Fld Z h0 a1 "com/example/tidewater/tidewater/StreamRow" "ends" "[I" (.ref ea)) (Vs : Arv Z h0 sa ks .int 3 vs (.int 0)) (Ve : Arv Z h0 ea ke .int 3 ws' (.int 0)) (g_sa : n0 ≤ sa) (g_ea : n0 ≤ ea) (ne1 : sa ≠ ea) (ne2 : a1 ≠ sa) (ne3 : a1 ≠ ea) (hc : ¬ col < 0 ∧ col < 3) (hl1 : col.toNatClampNeg < vs.length) (hl2 : col.toNatClampNeg < ws'.length) :
    Met l Z (⟨"com/example/tidewater/tidewater/StreamRowBytesPinLaw", "apply", "(Lcom/example/tidewater/tidewater/StreamRow;IZII)V"⟩ : MethodName) method_2_code 5 none ws ({ frames := 1, cells := 0, slots := 0, locals := 16 } : Room) #[(.ref a1), (.int col), (.int (1 : Int32)), (.int p3), (.int p4)] h0 (Q_app1 Z a1 sa ea ks ke vs ws' col p3 p4 h0 n0) := by
  refine Met.start (plainFor_of_name pn_1) ?_
  intro p e s m below meth c T X hx hby hml hown hnm hret hlk hZ eT
  have N := Fr.nil n0
  have K := Keep.refl h0 [sa, ea]
  refine Wout.cast (g' := (mkF m 0 #[.val (.ref a1), .val (.int col), .val (.int (1 : Int32)), .val (.int p3), .val (.int p4)] [])) (by first | (simp [entryFrame, mkF, argsToLocals, Value.category]; done) | rfl) ?_
  refine o_iloadN X hx 1 (hb hby d_method_2_0) rfl rfl ?_
  refine o_ifF X hx 4 (hb hby d_method_2_1) rfl (by decide : ¬ (1 : Int32) = (0 : Int32)) ?_
  refine o_aloadN X hx 5 (hb hby d_method_2_4) rfl rfl rfl ?_
  refine o_iloadN X hx 6 (hb hby d_method_2_5) rfl rfl ?_
  refine o_callV X hx hZ hown (hw _ (List.mem_of_getElem? (i := 22) rfl)) (hw _ (List.mem_of_getElem? (i := 23) rfl)) (hw _ (List.mem_of_getElem? (i := 25) rfl)) (hw _ (List.mem_of_getElem? (i := 24) rfl)) (hw _ (List.mem_of_getElem? (i := 3) rfl)) (hw _ (List.mem_of_getElem? (i := 26) rfl)) (by decide) (rm_setn l Z a0 hw [] a1 sa ea ks ke vs ws' col _ n0 Z0 F2 F3 Vs Ve g_sa g_ea ne1 ne2 ne3 hc hl1 hl2) eT (by decide) 0 (by decide) (by rw [hml]; rfl) E_a1 [(.int col)] (rest := []) (lenOf pd_0 rfl) rfl rfl (Nat.le_of_eq rfl) (by decide) (by decide) 9 (hb hby d_method_2_6) rfl (fun v T h1 Lc X eT q => ?_)
  obtain ⟨rfl, N', K1, V1, V2⟩ := q
  replace N := Fr.app N N'
  replace K := K.trans K1 (allS (P := fun x => x ∈ [sa, ea] ∨ h0.size ≤ x) (Or.inl (List.mem_of_getElem? (i := 0) rfl)) (allS (P := fun x => x ∈ [sa, ea] ∨ h0.size ≤ x) (Or.inl (List.mem_of_getElem? (i := 1) rfl)) all0))
  show Wout p e below _ T (mkF m 9 #[.val (.ref a1), .val (.int col), .val (.int (1 : Int32)), .val (.int p3), .val (.int p4)] [])
  refine o_goto X hx 20 (hb hby d_method_2_9) rfl ?_
  exact o_retV X hx hlk hret (hb hby d_method_2_20) (by decide) (by decide) (by rw [eT]; exact ⟨rfl, N, K, V1, V2⟩)
theorem pd_1 : parseMethodDescriptor "(III)V" = some ⟨[.int, .int, .int], none⟩ := by decide +kernel
def Q_app0 (Z : State) (a1 sa ea : Addr) (ks ke : ClassId) (vs ws' : List Value) (col : Int32) (p3 p4 : Int32) (h0 : Heap) (n0 : Nat) (v : Option Value) (h : Heap) (L : List Loc) : Prop := v = none ∧ Fr n0 L ∧ Keep h0 h [sa, ea] ∧ Arv Z h sa ks .int 3 (vs.set col.toNatClampNeg (.int p3)) (.int 0) ∧ Arv Z h ea ke .int 3 (ws'.set col.toNatClampNeg (.int p4)) (.int 0)
set_option maxRecDepth 65536 in
set_option maxHeartbeats 40000000 in
theorem rm_app0 (l : Launch) (Z : State) (a0 : Array Value) (hw : ∀ d ∈ tables_1, d.before a0 Z = true) (ws : List Jvm.Cond) (a1 sa ea : Addr) (ks ke : ClassId) (vs ws' : List Value) (col : Int32) (p3 p4 : Int32) (h0 : Heap) (n0 : Nat) (Z0 : n0 ≤ h0.size) (E_a1 : Exa Z h0 a1 "com/example/tidewater/tidewater/StreamRow") (F2 : Fld Z h0 a1 "com/example/tidewater/tidewater/StreamRow" "starts" "[I" (.ref sa)) (F3 : Fld Z h0 a1 "com/example/tidewater/tidewater/StreamRow" "ends" "[I" (.ref ea)) (Vs : Arv Z h0 sa ks .int 3 vs (.int 0)) (Ve : Arv Z h0 ea ke .int 3 ws' (.int 0)) (g_sa : n0 ≤ sa) (g_ea : n0 ≤ ea) (ne1 : sa ≠ ea) (ne2 : a1 ≠ sa) (ne3 : a1 ≠ ea) (hc : ¬ col < 0 ∧ col < 3) (hl1 : col.toNatClampNeg < vs.length) (hl2 : col.toNatClampNeg < ws'.length) :
    Met l Z (⟨"com/example/tidewater/tidewater/StreamRowBytesPinLaw", "apply", "(Lcom/example/tidewater/tidewater/StreamRow;IZII)V"⟩ : MethodName) method_2_code 5 none ws ({ frames := 1, cells := 0, slots := 0, locals := 16 } : Room) #[(.ref a1), (.int col), (.int (0 : Int32)), (.int p3), (.int p4)] h0 (Q_app0 Z a1 sa ea ks ke vs ws' col p3 p4 h0 n0) := by
  refine Met.start (plainFor_of_name pn_1) ?_
  intro p e s m below meth c T X hx hby hml hown hnm hret hlk hZ eT
  have N := Fr.nil n0
  have K := Keep.refl h0 [sa, ea]
  refine Wout.cast (g' := (mkF m 0 #[.val (.ref a1), .val (.int col), .val (.int (0 : Int32)), .val (.int p3), .val (.int p4)] [])) (by first | (simp [entryFrame, mkF, argsToLocals, Value.category]; done) | rfl) ?_
  refine o_iloadN X hx 1 (hb hby d_method_2_0) rfl rfl ?_
  refine o_ifT X hx 12 (hb hby d_method_2_1) rfl (by decide : (0 : Int32) = (0 : Int32)) ?_
  refine o_aloadN X hx 13 (hb hby d_method_2_12) rfl rfl rfl ?_
  refine o_iloadN X hx 14 (hb hby d_method_2_13) rfl rfl ?_
  refine o_iloadN X hx 15 (hb hby d_method_2_14) rfl rfl ?_
  refine o_iload X hx 17 (hb hby d_method_2_15) rfl rfl ?_
  refine o_callV X hx hZ hown (hw _ (List.mem_of_getElem? (i := 32) rfl)) (hw _ (List.mem_of_getElem? (i := 33) rfl)) (hw _ (List.mem_of_getElem? (i := 35) rfl)) (hw _ (List.mem_of_getElem? (i := 34) rfl)) (hw _ (List.mem_of_getElem? (i := 3) rfl)) (hw _ (List.mem_of_getElem? (i := 36) rfl)) (by decide) (rm_sett l Z a0 hw [] a1 sa ea ks ke vs ws' col p3 p4 _ n0 Z0 F2 F3 Vs Ve g_sa g_ea ne1 ne2 ne3 hc hl1 hl2) eT (by decide) 0 (by decide) (by rw [hml]; rfl) E_a1 [(.int col), (.int p3), (.int p4)] (rest := []) (lenOf pd_1 rfl) rfl rfl (Nat.le_of_eq rfl) (by decide) (by decide) 20 (hb hby d_method_2_17) rfl (fun v T h1 Lc X eT q => ?_)
  obtain ⟨rfl, N', K1, V1, V2⟩ := q
  replace N := Fr.app N N'
  replace K := K.trans K1 (allS (P := fun x => x ∈ [sa, ea] ∨ h0.size ≤ x) (Or.inl (List.mem_of_getElem? (i := 0) rfl)) (allS (P := fun x => x ∈ [sa, ea] ∨ h0.size ≤ x) (Or.inl (List.mem_of_getElem? (i := 1) rfl)) all0))
  show Wout p e below _ T (mkF m 20 #[.val (.ref a1), .val (.int col), .val (.int (0 : Int32)), .val (.int p3), .val (.int p4)] [])
  exact o_retV X hx hlk hret (hb hby d_method_2_20) (by decide) (by decide) (by rw [eT]; exact ⟨rfl, N, K, V1, V2⟩)
theorem d_prog_11_method_9_0 : decode prog_11_method_9_code 0 = .ok (.aload_n 0, 1) := by decide +kernel
theorem d_prog_11_method_9_1 : decode prog_11_method_9_code 1 = .ok (.getfield 13, 3) := by decide +kernel
theorem d_prog_11_method_9_4 : decode prog_11_method_9_code 4 = .ok (.iload_n 1, 1) := by decide +kernel
theorem d_prog_11_method_9_5 : decode prog_11_method_9_code 5 = .ok (.iaload, 1) := by decide +kernel
theorem d_prog_11_method_9_6 : decode prog_11_method_9_code 6 = .ok (.ifCond .ge 7, 3) := by decide +kernel
theorem d_prog_11_method_9_9 : decode prog_11_method_9_code 9 = .ok (.aconst_null, 1) := by decide +kernel
theorem d_prog_11_method_9_10 : decode prog_11_method_9_code 10 = .ok (.goto 7, 3) := by decide +kernel
theorem d_prog_11_method_9_13 : decode prog_11_method_9_code 13 = .ok (.aload_n 0, 1) := by decide +kernel
theorem d_prog_11_method_9_14 : decode prog_11_method_9_code 14 = .ok (.getfield 7, 3) := by decide +kernel
theorem d_prog_11_method_9_17 : decode prog_11_method_9_code 17 = .ok (.areturn, 1) := by decide +kernel
def Q_bytN (Z : State) (a1 a2 sa : Addr) (ks : ClassId) (vs : List Value) (col x : Int32) (h0 : Heap) (n0 : Nat) (v : Option Value) (h : Heap) (L : List Loc) : Prop := v = some .null ∧ Fr n0 L ∧ h = h0
set_option maxRecDepth 65536 in
set_option maxHeartbeats 40000000 in
theorem rm_bytN (l : Launch) (Z : State) (a0 : Array Value) (hw : ∀ d ∈ tables_1, d.before a0 Z = true) (ws : List Jvm.Cond) (a1 a2 sa : Addr) (ks : ClassId) (vs : List Value) (col x : Int32) (h0 : Heap) (n0 : Nat) (Z0 : n0 ≤ h0.size) (F1 : Fld Z h0 a1 "com/example/tidewater/tidewater/StreamRow" "message" "[B" (.ref a2)) (F2 : Fld Z h0 a1 "com/example/tidewater/tidewater/StreamRow" "starts" "[I" (.ref sa)) (Vs : Arv Z h0 sa ks .int 3 vs (.int 0)) (hc : ¬ col < 0 ∧ col < 3) (hv : vs.getD col.toNatClampNeg (.int 0) = .int x) (q : x < 0) :
    Met l Z (⟨"com/example/tidewater/tidewater/StreamRow", "bytes", "(I)[B"⟩ : MethodName) prog_11_method_9_code 2 (some (.array .byte)) ws ({ frames := 0, cells := 0, slots := 0, locals := 0 } : Room) #[(.ref a1), (.int col)] h0 (Q_bytN Z a1 a2 sa ks vs col x h0 n0) := by
  refine Met.start (plainFor_of_name pn_0) ?_
  intro p e s m below meth c T X hx hby hml hown hnm hret hlk hZ eT
  have N := Fr.nil n0
  refine Wout.cast (g' := (mkF m 0 #[.val (.ref a1), .val (.int col)] [])) (by first | (simp [entryFrame, mkF, argsToLocals, Value.category]; done) | rfl) ?_
  refine o_aloadN X hx 1 (hb hby d_prog_11_method_9_0) rfl rfl rfl ?_
  refine o_getF X hx hZ hown (host := "") (Or.inl (hw _ (List.mem_of_getElem? (i := 13) rfl))) Via.refl eT F2 4 (hb hby d_prog_11_method_9_1) rfl (fun T X eT => ?_)
  refine o_iloadN X hx 5 (hb hby d_prog_11_method_9_4) rfl rfl ?_
  refine o_iaload X hx hZ eT Vs hc (v := (.int x)) hv 6 (hb hby d_prog_11_method_9_5) rfl ?_
  refine o_ifF X hx 9 (hb hby d_prog_11_method_9_6) rfl q ?_
  refine o_aconst_null X hx 10 (hb hby d_prog_11_method_9_9) rfl ?_
  refine o_goto X hx 17 (hb hby d_prog_11_method_9_10) rfl ?_
  exact o_retA X hx hlk hret rfl rfl rfl (hb hby d_prog_11_method_9_17) (by decide) (by decide) (by rw [eT]; exact ⟨rfl, N, rfl⟩)
def Q_bytM (Z : State) (a1 a2 sa : Addr) (ks : ClassId) (vs : List Value) (col x : Int32) (h0 : Heap) (n0 : Nat) (v : Option Value) (h : Heap) (L : List Loc) : Prop := v = some (.ref a2) ∧ Fr n0 L ∧ h = h0
set_option maxRecDepth 65536 in
set_option maxHeartbeats 40000000 in
theorem rm_bytM (l : Launch) (Z : State) (a0 : Array Value) (hw : ∀ d ∈ tables_1, d.before a0 Z = true) (ws : List Jvm.Cond) (a1 a2 sa : Addr) (ks : ClassId) (vs : List Value) (col x : Int32) (h0 : Heap) (n0 : Nat) (Z0 : n0 ≤ h0.size) (F1 : Fld Z h0 a1 "com/example/tidewater/tidewater/StreamRow" "message" "[B" (.ref a2)) (F2 : Fld Z h0 a1 "com/example/tidewater/tidewater/StreamRow" "starts" "[I" (.ref sa)) (Vs : Arv Z h0 sa ks .int 3 vs (.int 0)) (hc : ¬ col < 0 ∧ col < 3) (hv : vs.getD col.toNatClampNeg (.int 0) = .int x) (q : ¬ x < 0) :
    Met l Z (⟨"com/example/tidewater/tidewater/StreamRow", "bytes", "(I)[B"⟩ : MethodName) prog_11_method_9_code 2 (some (.array .byte)) ws ({ frames := 0, cells := 0, slots := 0, locals := 0 } : Room) #[(.ref a1), (.int col)] h0 (Q_bytM Z a1 a2 sa ks vs col x h0 n0) := by
  refine Met.start (plainFor_of_name pn_0) ?_
  intro p e s m below meth c T X hx hby hml hown hnm hret hlk hZ eT
  have N := Fr.nil n0
  refine Wout.cast (g' := (mkF m 0 #[.val (.ref a1), .val (.int col)] [])) (by first | (simp [entryFrame, mkF, argsToLocals, Value.category]; done) | rfl) ?_
  refine o_aloadN X hx 1 (hb hby d_prog_11_method_9_0) rfl rfl rfl ?_
  refine o_getF X hx hZ hown (host := "") (Or.inl (hw _ (List.mem_of_getElem? (i := 13) rfl))) Via.refl eT F2 4 (hb hby d_prog_11_method_9_1) rfl (fun T X eT => ?_)
  refine o_iloadN X hx 5 (hb hby d_prog_11_method_9_4) rfl rfl ?_
  refine o_iaload X hx hZ eT Vs hc (v := (.int x)) hv 6 (hb hby d_prog_11_method_9_5) rfl ?_
  refine o_ifT X hx 13 (hb hby d_prog_11_method_9_6) rfl q ?_
  refine o_aloadN X hx 14 (hb hby d_prog_11_method_9_13) rfl rfl rfl ?_
  refine o_getF X hx hZ hown (host := "") (Or.inl (hw _ (List.mem_of_getElem? (i := 10) rfl))) Via.refl eT F1 17 (hb hby d_prog_11_method_9_14) rfl (fun T X eT => ?_)
  exact o_retA X hx hlk hret rfl rfl rfl (hb hby d_prog_11_method_9_17) (by decide) (by decide) (by rw [eT]; exact ⟨rfl, N, rfl⟩)
theorem own_nz5 {k : Int32} (h : 0 ≤ k.toInt ∧ k.toInt < 5) : (5 : Int32) - k ≠ 0 := fun q => by
  have e : ((5 : Int32) - k).toInt = (5 : Int32).toInt - k.toInt := XT.sub32 ⟨by have : (5 : Int32).toInt = 5 := rfl; omega, by have : (5 : Int32).toInt = 5 := rfl; omega⟩
  rw [q] at e
  have h5 : (5 : Int32).toInt = 5 := rfl
  have h0 : (0 : Int32).toInt = 0 := rfl
  omega
theorem own_nn {k : Int32} (h : 0 ≤ k.toInt) : ¬ k < 0 := fun q => by
  have := Int32.lt_iff_toInt_lt.mp q
  have h0 : (0 : Int32).toInt = 0 := rfl
  omega
theorem own_len (i : Nat) (x : Value) : i < 3 → ∀ a b c : Value, i < ([a, b, c].set i x).length := fun h a b c => by simpa using h
theorem own_cd (cc b : Int32) (h : 0 ≤ cc.toInt ∧ cc.toInt < 3) : (¬ (cc + 1 + (b &&& 1)) % 3 < 0 ∧ (cc + 1 + (b &&& 1)) % 3 < 3) ∧ cc.toNatClampNeg ≠ ((cc + 1 + (b &&& 1)) % 3).toNatClampNeg := by
  rcases in3 h.1 h.2 with rfl | rfl | rfl <;> rcases and_one b with q | q <;> rw [q] <;> decide
theorem own_c3 {cc : Int32} (h : 0 ≤ cc.toInt ∧ cc.toInt < 3) : (¬ cc < 0 ∧ cc < 3) := by
  rcases in3 h.1 h.2 with rfl | rfl | rfl <;> decide
theorem own_n3 {k : Int32} (h : ¬ k < 0 ∧ k < 3) : k.toNatClampNeg < 3 := by
  have h1 := Int32.lt_iff_toInt_lt.mp h.2
  have h3 : (3 : Int32).toInt = 3 := rfl
  have e := nat_of h.1
  omega
theorem own_get1 {i j : Nat} (x y a b c d : Value) (hi : i < 3) (hne : i ≠ j) : (([a, b, c].set i x).set j y).getD i d = x := by
  rw [List.getD_eq_getElem?_getD, List.getElem?_set_ne (Ne.symm hne), List.getElem?_set_self (by simpa using hi)]
  rfl
theorem own_get2 {i j : Nat} (x y a b c d : Value) (hj : j < 3) : (([a, b, c].set i x).set j y).getD j d = y := by
  rw [List.getD_eq_getElem?_getD, List.getElem?_set_self (by simpa using hj)]
  rfl
theorem pd_2 : parseMethodDescriptor "([BI)V" = some ⟨[(.array .byte), .int], none⟩ := by decide +kernel
theorem pd_3 : parseMethodDescriptor "(Lcom/example/tidewater/tidewater/StreamRow;IZII)V" = some ⟨[(.object "com/example/tidewater/tidewater/StreamRow"), .int, .boolean, .int, .int], none⟩ := by decide +kernel
theorem pd_4 : parseMethodDescriptor "(I)[B" = some ⟨[.int], some (.array .byte)⟩ := by decide +kernel
def Q_law (Z : State) (p1 p2 p3 p4 p5 p6 : Int32) (h0 : Heap) (n0 : Nat) (v : Option Value) (h : Heap) (L : List Loc) : Prop := v = some (.int 1) ∧ Fr n0 L ∧ True
set_option maxRecDepth 65536 in
set_option maxHeartbeats 40000000 in
theorem rm_law (l : Launch) (Z : State) (a0 : Array Value) (hw : ∀ d ∈ tables_1, d.before a0 Z = true) (ws : List Jvm.Cond) (p1 p2 p3 p4 p5 p6 : Int32) (h0 : Heap) (n0 : Nat) (Z0 : n0 ≤ h0.size)  :
    Met l Z x code maxLocals ret ws room_1 #[(.int p1), (.int p2), (.int p3), (.int p4), (.int p5), (.int p6)] h0 (Q_law Z p1 p2 p3 p4 p5 p6 h0 n0) := by
  refine Met.start (plainFor_of_name pn_1) ?_
  intro p e s m below meth c T X hx hby hml hown hnm hret hlk hZ eT
  have N := Fr.nil n0
  refine Wout.cast (g' := (mkF m 0 #[.val (.int p1), .val (.int p2), .val (.int p3), .val (.int p4), .val (.int p5), .val (.int p6), .unset, .unset, .unset, .unset, .unset, .unset, .unset, .unset, .unset, .unset, .unset, .unset, .unset, .unset] [])) (by first | (simp [entryFrame, mkF, argsToLocals, Value.category, maxLocals]; done) | rfl) ?_
  refine o_iconst X hx 1 (4 : Int32) (hb hby at_0) rfl rfl ?_
  refine o_newarray X hx hZ (hw _ (List.mem_of_getElem? (i := 0) rfl)) eT 3 (hb hby at_1) rfl (by decide) 4 (by decide) (by decide) (by decide) (by decide) (fun T h1 b1 k1 hb1 X eT E A => ?_)
  have g_b1 : n0 ≤ b1 := Nat.le_trans Z0 (Nat.le_of_eq hb1.symm)
  replace Z0 := Nat.le_trans Z0 E.1
  have V_b1 : Arv Z h1 b1 k1 .byte (4 : Int32) [(.int (0 : Int32)), (.int (0 : Int32)), (.int (0 : Int32)), (.int (0 : Int32))] (.int (0 : Int32)) := A.pad (pad_rep [] (.int (0 : Int32)) 4)
  refine o_dup X hx 4 (hb hby at_3) rfl rfl ?_
  refine o_iconst X hx 5 (0 : Int32) (hb hby at_4) rfl rfl ?_
  refine o_iload X hx 7 (hb hby at_5) rfl rfl ?_
  refine o_i2b X hx 8 (hb hby at_7) rfl ?_
  refine o_bastore X hx hZ eT V_b1 ⟨by decide, by decide⟩ 0 rfl (Nat.le_of_ble_eq_true rfl) (vs' := [(.int (nar .byte ((p5).toInt8.toInt32))), (.int (0 : Int32)), (.int (0 : Int32)), (.int (0 : Int32))]) rfl N g_b1 9 (hb hby at_8) rfl (fun T h2 locs X eT W V' N => ?_)
  replace Z0 := Nat.le_trans Z0 (Keep.of_wr W).1
  replace V_b1 := V'
  refine o_dup X hx 10 (hb hby at_9) rfl rfl ?_
  refine o_iconst X hx 11 (1 : Int32) (hb hby at_10) rfl rfl ?_
  refine o_iload X hx 13 (hb hby at_11) rfl rfl ?_
  refine o_bipush X hx 15 (8 : Int32) (hb hby at_13) rfl rfl ?_
  refine o_ishr X hx 16 (hb hby at_15) rfl ?_
  refine o_i2b X hx 17 (hb hby at_16) rfl ?_
  refine o_bastore X hx hZ eT V_b1 ⟨by decide, by decide⟩ 1 rfl (Nat.le_of_ble_eq_true rfl) (vs' := [(.int (nar .byte ((p5).toInt8.toInt32))), (.int (nar .byte (((p5 >>> ((8 : Int32) &&& 31))).toInt8.toInt32))), (.int (0 : Int32)), (.int (0 : Int32))]) rfl N g_b1 18 (hb hby at_17) rfl (fun T h3 locs X eT W V' N => ?_)
  replace Z0 := Nat.le_trans Z0 (Keep.of_wr W).1
  replace V_b1 := V'
  refine o_dup X hx 19 (hb hby at_18) rfl rfl ?_
  refine o_iconst X hx 20 (2 : Int32) (hb hby at_19) rfl rfl ?_
  refine o_iload X hx 22 (hb hby at_20) rfl rfl ?_
  refine o_bipush X hx 24 (16 : Int32) (hb hby at_22) rfl rfl ?_
  refine o_ishr X hx 25 (hb hby at_24) rfl ?_
  refine o_i2b X hx 26 (hb hby at_25) rfl ?_
  refine o_bastore X hx hZ eT V_b1 ⟨by decide, by decide⟩ 2 rfl (Nat.le_of_ble_eq_true rfl) (vs' := [(.int (nar .byte ((p5).toInt8.toInt32))), (.int (nar .byte (((p5 >>> ((8 : Int32) &&& 31))).toInt8.toInt32))), (.int (nar .byte (((p5 >>> ((16 : Int32) &&& 31))).toInt8.toInt32))), (.int (0 : Int32))]) rfl N g_b1 27 (hb hby at_26) rfl (fun T h4 locs X eT W V' N => ?_)
  replace Z0 := Nat.le_trans Z0 (Keep.of_wr W).1
  replace V_b1 := V'
  refine o_dup X hx 28 (hb hby at_27) rfl rfl ?_
  refine o_iconst X hx 29 (3 : Int32) (hb hby at_28) rfl rfl ?_
  refine o_iload X hx 31 (hb hby at_29) rfl rfl ?_
  refine o_bipush X hx 33 (24 : Int32) (hb hby at_31) rfl rfl ?_
  refine o_ishr X hx 34 (hb hby at_33) rfl ?_
  refine o_i2b X hx 35 (hb hby at_34) rfl ?_
  refine o_bastore X hx hZ eT V_b1 ⟨by decide, by decide⟩ 3 rfl (Nat.le_of_ble_eq_true rfl) (vs' := [(.int (nar .byte ((p5).toInt8.toInt32))), (.int (nar .byte (((p5 >>> ((8 : Int32) &&& 31))).toInt8.toInt32))), (.int (nar .byte (((p5 >>> ((16 : Int32) &&& 31))).toInt8.toInt32))), (.int (nar .byte (((p5 >>> ((24 : Int32) &&& 31))).toInt8.toInt32)))]) rfl N g_b1 36 (hb hby at_35) rfl (fun T h5 locs X eT W V' N => ?_)
  replace Z0 := Nat.le_trans Z0 (Keep.of_wr W).1
  replace V_b1 := V'
  refine o_astore X hx 38 (Ls' := #[.val (.int p1), .val (.int p2), .val (.int p3), .val (.int p4), .val (.int p5), .val (.int p6), .val (.ref b1), .unset, .unset, .unset, .unset, .unset, .unset, .unset, .unset, .unset, .unset, .unset, .unset, .unset]) (hb hby at_36) rfl rfl rfl ?_
  refine o_new X hx hZ hown (hw _ (List.mem_of_getElem? (i := 1) rfl)) (hw _ (List.mem_of_getElem? (i := 2) rfl)) (hw _ (List.mem_of_getElem? (i := 3) rfl)) eT 41 (hb hby at_38) rfl (by decide) (by decide) (fun T h6 b6 hb6 X eT E A D => ?_)
  have ne_b1_b6 : b1 ≠ b6 := Nat.ne_of_lt (Nat.lt_of_lt_of_eq V_b1.lt hb6.symm)
  have g_b6 : n0 ≤ b6 := Nat.le_trans Z0 (Nat.le_of_eq hb6.symm)
  replace V_b1 := V_b1.ext E
  replace Z0 := Nat.le_trans Z0 E.1
  have E_b6 := A
  have F_message_b6 : Fld Z h6 b6 "com/example/tidewater/tidewater/StreamRow" "message" "[B" .null := D (Or.inr (hw _ (List.mem_of_getElem? (i := 11) rfl))) (ty := (.array .byte)) (by decide)
  have F_starts_b6 : Fld Z h6 b6 "com/example/tidewater/tidewater/StreamRow" "starts" "[I" .null := D (Or.inr (hw _ (List.mem_of_getElem? (i := 14) rfl))) (ty := (.array .int)) (by decide)
  have F_ends_b6 : Fld Z h6 b6 "com/example/tidewater/tidewater/StreamRow" "ends" "[I" .null := D (Or.inr (hw _ (List.mem_of_getElem? (i := 16) rfl))) (ty := (.array .int)) (by decide)
  refine o_dup X hx 42 (hb hby at_41) rfl rfl ?_
  refine o_aload X hx 44 (hb hby at_42) rfl rfl rfl ?_
  refine o_iconst X hx 45 (3 : Int32) (hb hby at_44) rfl rfl ?_
  refine o_callI X hx hZ rfl hown (hw _ (List.mem_of_getElem? (i := 4) rfl)) (hw _ (List.mem_of_getElem? (i := 5) rfl)) (hw _ (List.mem_of_getElem? (i := 3) rfl)) (hw _ (List.mem_of_getElem? (i := 6) rfl)) (by decide) (rm_init l Z a0 hw [] b6 b1 _ _ _ _ n0 Z0 E_b6 F_message_b6 F_starts_b6 F_ends_b6 g_b6) eT (by decide) 1 (by decide) (by rw [hml]; rfl) [(.ref b1), (.int (3 : Int32))] (rest := [(.ref b6)]) (lenOf pd_2 rfl) rfl rfl (Nat.le_of_eq rfl) (by decide) (by decide) 48 (hb hby at_45) rfl (fun v T h7 Lc X eT q => ?_)
  obtain ⟨sa, ea, ks, ke, rfl, N', K1, E', G1, G2, G3, Vs, Ve, g_sa, g_ea, ne1, ne2, ne3, -, -⟩ := q
  replace N := Fr.app N N'
  replace E_b6 := E'
  replace F_message_b6 := G1
  replace F_starts_b6 := G2
  replace F_ends_b6 := G3
  replace Z0 := Nat.le_trans Z0 K1.1
  clear V_b1
  show Wout p e below _ T (mkF m 48 #[.val (.int p1), .val (.int p2), .val (.int p3), .val (.int p4), .val (.int p5), .val (.int p6), .val (.ref b1), .unset, .unset, .unset, .unset, .unset, .unset, .unset, .unset, .unset, .unset, .unset, .unset, .unset] [(.ref b6)])
  refine o_astore X hx 50 (Ls' := #[.val (.int p1), .val (.int p2), .val (.int p3), .val (.int p4), .val (.int p5), .val (.int p6), .val (.ref b1), .val (.ref b6), .unset, .unset, .unset, .unset, .unset, .unset, .unset, .unset, .unset, .unset, .unset, .unset]) (hb hby at_48) rfl rfl rfl ?_
  refine o_iloadN X hx 51 (hb hby at_50) rfl rfl ?_
  refine o_ldc X hx hZ 53 hown (hw _ (List.mem_of_getElem? (i := 17) rfl)) (hb hby at_51) rfl ?_
  refine o_iand X hx 54 (hb hby at_53) rfl ?_
  refine o_iconst X hx 55 (3 : Int32) (hb hby at_54) rfl rfl ?_
  refine o_irem X hx 56 (hb hby at_55) (by decide) rfl ?_
  obtain ⟨cc, h_cc⟩ : ∃ z, z = ((p1 &&& (2147483647 : Int32)) % (3 : Int32)) := ⟨_, rfl⟩
  rw [← h_cc]
  have k0 : 0 ≤ cc.toInt ∧ cc.toInt < 3 := by rw [h_cc]; exact rem_in (n := 3) (mask31 p1) (by decide)
  have kc := own_c3 k0
  refine o_istore X hx 58 (Ls' := #[.val (.int p1), .val (.int p2), .val (.int p3), .val (.int p4), .val (.int p5), .val (.int p6), .val (.ref b1), .val (.ref b6), .val (.int cc), .unset, .unset, .unset, .unset, .unset, .unset, .unset, .unset, .unset, .unset, .unset]) (hb hby at_56) rfl rfl ?_
  refine o_iload X hx 60 (hb hby at_58) rfl rfl ?_
  refine o_iconst X hx 61 (1 : Int32) (hb hby at_60) rfl rfl ?_
  refine o_iadd X hx 62 (hb hby at_61) rfl ?_
  refine o_iload X hx 64 (hb hby at_62) rfl rfl ?_
  refine o_iconst X hx 65 (1 : Int32) (hb hby at_64) rfl rfl ?_
  refine o_iand X hx 66 (hb hby at_65) rfl ?_
  refine o_iadd X hx 67 (hb hby at_66) rfl ?_
  refine o_iconst X hx 68 (3 : Int32) (hb hby at_67) rfl rfl ?_
  refine o_irem X hx 69 (hb hby at_68) (by decide) rfl ?_
  obtain ⟨dd, h_dd⟩ : ∃ z, z = (((cc + (1 : Int32)) + (p6 &&& (1 : Int32))) % (3 : Int32)) := ⟨_, rfl⟩
  rw [← h_dd]
  have kd := own_cd cc p6 k0
  rw [← h_dd] at kd
  refine o_istore X hx 71 (Ls' := #[.val (.int p1), .val (.int p2), .val (.int p3), .val (.int p4), .val (.int p5), .val (.int p6), .val (.ref b1), .val (.ref b6), .val (.int cc), .val (.int dd), .unset, .unset, .unset, .unset, .unset, .unset, .unset, .unset, .unset, .unset]) (hb hby at_69) rfl rfl ?_
  refine o_iloadN X hx 72 (hb hby at_71) rfl rfl ?_
  refine o_iconst X hx 73 (1 : Int32) (hb hby at_72) rfl rfl ?_
  refine o_iand X hx 74 (hb hby at_73) rfl ?_
  have J1 : ∀ nc : Int32, (nc = 0 ∨ nc = 1) → Wout p e below (Pst s (Q_law Z p1 p2 p3 p4 p5 p6 h0 n0) room_1.cells room_1.slots) T (mkF m 82 #[.val (.int p1), .val (.int p2), .val (.int p3), .val (.int p4), .val (.int p5), .val (.int p6), .val (.ref b1), .val (.ref b6), .val (.int cc), .val (.int dd), .unset, .unset, .unset, .unset, .unset, .unset, .unset, .unset, .unset, .unset] [(.int nc)]) := by
    intro nc hnc
    rcases hnc with rfl | rfl
    · show Wout p e below _ T (mkF m 82 #[.val (.int p1), .val (.int p2), .val (.int p3), .val (.int p4), .val (.int p5), .val (.int p6), .val (.ref b1), .val (.ref b6), .val (.int cc), .val (.int dd), .unset, .unset, .unset, .unset, .unset, .unset, .unset, .unset, .unset, .unset] [(.int (0 : Int32))])
      refine o_istore X hx 84 (Ls' := #[.val (.int p1), .val (.int p2), .val (.int p3), .val (.int p4), .val (.int p5), .val (.int p6), .val (.ref b1), .val (.ref b6), .val (.int cc), .val (.int dd), .val (.int (0 : Int32)), .unset, .unset, .unset, .unset, .unset, .unset, .unset, .unset, .unset]) (hb hby at_82) rfl rfl ?_
      refine o_iloadN X hx 85 (hb hby at_84) rfl rfl ?_
      refine o_iconst X hx 86 (2 : Int32) (hb hby at_85) rfl rfl ?_
      refine o_iand X hx 87 (hb hby at_86) rfl ?_
      have J2 : ∀ nd : Int32, (nd = 0 ∨ nd = 1) → Wout p e below (Pst s (Q_law Z p1 p2 p3 p4 p5 p6 h0 n0) room_1.cells room_1.slots) T (mkF m 95 #[.val (.int p1), .val (.int p2), .val (.int p3), .val (.int p4), .val (.int p5), .val (.int p6), .val (.ref b1), .val (.ref b6), .val (.int cc), .val (.int dd), .val (.int (0 : Int32)), .unset, .unset, .unset, .unset, .unset, .unset, .unset, .unset, .unset] [(.int nd)]) := by
        intro nd hnd
        rcases hnd with rfl | rfl
        · show Wout p e below _ T (mkF m 95 #[.val (.int p1), .val (.int p2), .val (.int p3), .val (.int p4), .val (.int p5), .val (.int p6), .val (.ref b1), .val (.ref b6), .val (.int cc), .val (.int dd), .val (.int (0 : Int32)), .unset, .unset, .unset, .unset, .unset, .unset, .unset, .unset, .unset] [(.int (0 : Int32))])
          refine o_istore X hx 97 (Ls' := #[.val (.int p1), .val (.int p2), .val (.int p3), .val (.int p4), .val (.int p5), .val (.int p6), .val (.ref b1), .val (.ref b6), .val (.int cc), .val (.int dd), .val (.int (0 : Int32)), .val (.int (0 : Int32)), .unset, .unset, .unset, .unset, .unset, .unset, .unset, .unset]) (hb hby at_95) rfl rfl ?_
          refine o_iloadN X hx 98 (hb hby at_97) rfl rfl ?_
          refine o_ldc X hx hZ 100 hown (hw _ (List.mem_of_getElem? (i := 17) rfl)) (hb hby at_98) rfl ?_
          refine o_iand X hx 101 (hb hby at_100) rfl ?_
          refine o_iconst X hx 102 (5 : Int32) (hb hby at_101) rfl rfl ?_
          refine o_irem X hx 103 (hb hby at_102) (by decide) rfl ?_
          obtain ⟨st1, h_st1⟩ : ∃ z, z = ((p3 &&& (2147483647 : Int32)) % (5 : Int32)) := ⟨_, rfl⟩
          rw [← h_st1]
          have k1 : 0 ≤ st1.toInt ∧ st1.toInt < 5 := by rw [h_st1]; exact rem_in (n := 5) (mask31 p3) (by decide)
          refine o_istore X hx 105 (Ls' := #[.val (.int p1), .val (.int p2), .val (.int p3), .val (.int p4), .val (.int p5), .val (.int p6), .val (.ref b1), .val (.ref b6), .val (.int cc), .val (.int dd), .val (.int (0 : Int32)), .val (.int (0 : Int32)), .val (.int st1), .unset, .unset, .unset, .unset, .unset, .unset, .unset]) (hb hby at_103) rfl rfl ?_
          refine o_iload X hx 107 (hb hby at_105) rfl rfl ?_
          refine o_iloadN X hx 108 (hb hby at_107) rfl rfl ?_
          refine o_bipush X hx 110 (8 : Int32) (hb hby at_108) rfl rfl ?_
          refine o_iushr X hx 111 (hb hby at_110) rfl ?_
          refine o_iconst X hx 112 (5 : Int32) (hb hby at_111) rfl rfl ?_
          refine o_iload X hx 114 (hb hby at_112) rfl rfl ?_
          refine o_isub X hx 115 (hb hby at_114) rfl ?_
          refine o_irem X hx 116 (hb hby at_115) (own_nz5 k1) rfl ?_
          refine o_iadd X hx 117 (hb hby at_116) rfl ?_
          refine o_istore X hx 119 (Ls' := #[.val (.int p1), .val (.int p2), .val (.int p3), .val (.int p4), .val (.int p5), .val (.int p6), .val (.ref b1), .val (.ref b6), .val (.int cc), .val (.int dd), .val (.int (0 : Int32)), .val (.int (0 : Int32)), .val (.int st1), .val (.int (st1 + ((XT.ushr p3 (8 : Int32)) % ((5 : Int32) - st1)))), .unset, .unset, .unset, .unset, .unset, .unset]) (hb hby at_117) rfl rfl ?_
          refine o_iloadN X hx 120 (hb hby at_119) rfl rfl ?_
          refine o_ldc X hx hZ 122 hown (hw _ (List.mem_of_getElem? (i := 17) rfl)) (hb hby at_120) rfl ?_
          refine o_iand X hx 123 (hb hby at_122) rfl ?_
          refine o_iconst X hx 124 (5 : Int32) (hb hby at_123) rfl rfl ?_
          refine o_irem X hx 125 (hb hby at_124) (by decide) rfl ?_
          obtain ⟨st2, h_st2⟩ : ∃ z, z = ((p4 &&& (2147483647 : Int32)) % (5 : Int32)) := ⟨_, rfl⟩
          rw [← h_st2]
          have k2 : 0 ≤ st2.toInt ∧ st2.toInt < 5 := by rw [h_st2]; exact rem_in (n := 5) (mask31 p4) (by decide)
          refine o_istore X hx 127 (Ls' := #[.val (.int p1), .val (.int p2), .val (.int p3), .val (.int p4), .val (.int p5), .val (.int p6), .val (.ref b1), .val (.ref b6), .val (.int cc), .val (.int dd), .val (.int (0 : Int32)), .val (.int (0 : Int32)), .val (.int st1), .val (.int (st1 + ((XT.ushr p3 (8 : Int32)) % ((5 : Int32) - st1)))), .val (.int st2), .unset, .unset, .unset, .unset, .unset]) (hb hby at_125) rfl rfl ?_
          refine o_iload X hx 129 (hb hby at_127) rfl rfl ?_
          refine o_iloadN X hx 130 (hb hby at_129) rfl rfl ?_
          refine o_bipush X hx 132 (8 : Int32) (hb hby at_130) rfl rfl ?_
          refine o_iushr X hx 133 (hb hby at_132) rfl ?_
          refine o_iconst X hx 134 (5 : Int32) (hb hby at_133) rfl rfl ?_
          refine o_iload X hx 136 (hb hby at_134) rfl rfl ?_
          refine o_isub X hx 137 (hb hby at_136) rfl ?_
          refine o_irem X hx 138 (hb hby at_137) (own_nz5 k2) rfl ?_
          refine o_iadd X hx 139 (hb hby at_138) rfl ?_
          refine o_istore X hx 141 (Ls' := #[.val (.int p1), .val (.int p2), .val (.int p3), .val (.int p4), .val (.int p5), .val (.int p6), .val (.ref b1), .val (.ref b6), .val (.int cc), .val (.int dd), .val (.int (0 : Int32)), .val (.int (0 : Int32)), .val (.int st1), .val (.int (st1 + ((XT.ushr p3 (8 : Int32)) % ((5 : Int32) - st1)))), .val (.int st2), .val (.int (st2 + ((XT.ushr p4 (8 : Int32)) % ((5 : Int32) - st2)))), .unset, .unset, .unset, .unset]) (hb hby at_139) rfl rfl ?_
          refine o_aload X hx 143 (hb hby at_141) rfl rfl rfl ?_
          refine o_iload X hx 145 (hb hby at_143) rfl rfl ?_
          refine o_iload X hx 147 (hb hby at_145) rfl rfl ?_
          refine o_iload X hx 149 (hb hby at_147) rfl rfl ?_
          refine o_iload X hx 151 (hb hby at_149) rfl rfl ?_
          refine o_callS X hx hZ hown (hw _ (List.mem_of_getElem? (i := 18) rfl)) (hw _ (List.mem_of_getElem? (i := 19) rfl)) (hw _ (List.mem_of_getElem? (i := 20) rfl)) (hw _ (List.mem_of_getElem? (i := 21) rfl)) (by decide) (rm_app0 l Z a0 hw [] b6 sa ea ks ke [(.int 0), (.int 0), (.int 0)] [(.int 0), (.int 0), (.int 0)] cc st1 (st1 + ((XT.ushr p3 (8 : Int32)) % ((5 : Int32) - st1))) _ n0 Z0 E_b6 F_starts_b6 F_ends_b6 Vs Ve g_sa g_ea ne1 ne2 ne3 kc (own_n3 kc) (own_n3 kc)) eT (by decide) 0 (by decide) (by rw [hml]; rfl) [(.ref b6), (.int cc), (.int (0 : Int32)), (.int st1), (.int (st1 + ((XT.ushr p3 (8 : Int32)) % ((5 : Int32) - st1))))] (rest := []) (lenOf pd_3 rfl) rfl rfl (Nat.le_of_eq rfl) (by decide) (by decide) 154 (hb hby at_151) rfl (fun v T h8 Lc X eT q => ?_)
          obtain ⟨rfl, N', K1, V1, V2⟩ := q
          replace N := Fr.app N N'
          replace E_b6 := E_b6.keep K1
          replace F_message_b6 := F_message_b6.keep K1 (ninS ne2 (ninS ne3 nin0))
          replace F_starts_b6 := F_starts_b6.keep K1 (ninS ne2 (ninS ne3 nin0))
          replace F_ends_b6 := F_ends_b6.keep K1 (ninS ne2 (ninS ne3 nin0))
          replace Z0 := Nat.le_trans Z0 K1.1
          replace Vs := V1
          replace Ve := V2
          show Wout p e below _ T (mkF m 154 #[.val (.int p1), .val (.int p2), .val (.int p3), .val (.int p4), .val (.int p5), .val (.int p6), .val (.ref b1), .val (.ref b6), .val (.int cc), .val (.int dd), .val (.int (0 : Int32)), .val (.int (0 : Int32)), .val (.int st1), .val (.int (st1 + ((XT.ushr p3 (8 : Int32)) % ((5 : Int32) - st1)))), .val (.int st2), .val (.int (st2 + ((XT.ushr p4 (8 : Int32)) % ((5 : Int32) - st2)))), .unset, .unset, .unset, .unset] [])
          refine o_aload X hx 156 (hb hby at_154) rfl rfl rfl ?_
          refine o_iload X hx 158 (hb hby at_156) rfl rfl ?_
          refine o_iload X hx 160 (hb hby at_158) rfl rfl ?_
          refine o_iload X hx 162 (hb hby at_160) rfl rfl ?_
          refine o_iload X hx 164 (hb hby at_162) rfl rfl ?_
          refine o_callS X hx hZ hown (hw _ (List.mem_of_getElem? (i := 18) rfl)) (hw _ (List.mem_of_getElem? (i := 19) rfl)) (hw _ (List.mem_of_getElem? (i := 20) rfl)) (hw _ (List.mem_of_getElem? (i := 21) rfl)) (by decide) (rm_app0 l Z a0 hw [] b6 sa ea ks ke ([(.int 0), (.int 0), (.int 0)].set cc.toNatClampNeg (.int st1)) ([(.int 0), (.int 0), (.int 0)].set cc.toNatClampNeg (.int (st1 + ((XT.ushr p3 (8 : Int32)) % ((5 : Int32) - st1))))) dd st2 (st2 + ((XT.ushr p4 (8 : Int32)) % ((5 : Int32) - st2))) _ n0 Z0 E_b6 F_starts_b6 F_ends_b6 Vs Ve g_sa g_ea ne1 ne2 ne3 kd.1 (by rw [List.length_set]; exact own_n3 kd.1) (by rw [List.length_set]; exact own_n3 kd.1)) eT (by decide) 0 (by decide) (by rw [hml]; rfl) [(.ref b6), (.int dd), (.int (0 : Int32)), (.int st2), (.int (st2 + ((XT.ushr p4 (8 : Int32)) % ((5 : Int32) - st2))))] (rest := []) (lenOf pd_3 rfl) rfl rfl (Nat.le_of_eq rfl) (by decide) (by decide) 167 (hb hby at_164) rfl (fun v T h9 Lc X eT q => ?_)
          obtain ⟨rfl, N', K1, V1, V2⟩ := q
          replace N := Fr.app N N'
          replace E_b6 := E_b6.keep K1
          replace F_message_b6 := F_message_b6.keep K1 (ninS ne2 (ninS ne3 nin0))
          replace F_starts_b6 := F_starts_b6.keep K1 (ninS ne2 (ninS ne3 nin0))
          replace F_ends_b6 := F_ends_b6.keep K1 (ninS ne2 (ninS ne3 nin0))
          replace Z0 := Nat.le_trans Z0 K1.1
          replace Vs := V1
          replace Ve := V2
          show Wout p e below _ T (mkF m 167 #[.val (.int p1), .val (.int p2), .val (.int p3), .val (.int p4), .val (.int p5), .val (.int p6), .val (.ref b1), .val (.ref b6), .val (.int cc), .val (.int dd), .val (.int (0 : Int32)), .val (.int (0 : Int32)), .val (.int st1), .val (.int (st1 + ((XT.ushr p3 (8 : Int32)) % ((5 : Int32) - st1)))), .val (.int st2), .val (.int (st2 + ((XT.ushr p4 (8 : Int32)) % ((5 : Int32) - st2)))), .unset, .unset, .unset, .unset] [])
          refine o_aload X hx 169 (hb hby at_167) rfl rfl rfl ?_
          refine o_iload X hx 171 (hb hby at_169) rfl rfl ?_
          refine o_callV X hx hZ hown (hw _ (List.mem_of_getElem? (i := 27) rfl)) (hw _ (List.mem_of_getElem? (i := 28) rfl)) (hw _ (List.mem_of_getElem? (i := 30) rfl)) (hw _ (List.mem_of_getElem? (i := 29) rfl)) (hw _ (List.mem_of_getElem? (i := 3) rfl)) (hw _ (List.mem_of_getElem? (i := 31) rfl)) (by decide) (rm_bytM l Z a0 hw [] b6 b1 sa ks (([(.int 0), (.int 0), (.int 0)].set cc.toNatClampNeg (.int st1)).set dd.toNatClampNeg (.int st2)) cc st1 _ n0 Z0 F_message_b6 F_starts_b6 Vs kc (own_get1 _ _ _ _ _ _ (own_n3 kc) kd.2) (own_nn k1.1)) eT (by decide) 0 (by decide) (by rw [hml]; rfl) E_b6 [(.int cc)] (rest := []) (lenOf pd_4 rfl) rfl rfl (Nat.le_of_eq rfl) (by decide) (by decide) 174 (hb hby at_171) rfl (fun v T h10 Lc X eT q => ?_)
          obtain ⟨rfl, N', e'⟩ := q
          replace N := Fr.app N N'
          replace eT := eT.trans e'
          show Wout p e below _ T (mkF m 174 #[.val (.int p1), .val (.int p2), .val (.int p3), .val (.int p4), .val (.int p5), .val (.int p6), .val (.ref b1), .val (.ref b6), .val (.int cc), .val (.int dd), .val (.int (0 : Int32)), .val (.int (0 : Int32)), .val (.int st1), .val (.int (st1 + ((XT.ushr p3 (8 : Int32)) % ((5 : Int32) - st1)))), .val (.int st2), .val (.int (st2 + ((XT.ushr p4 (8 : Int32)) % ((5 : Int32) - st2)))), .unset, .unset, .unset, .unset] [(.ref b1)])
          refine o_astore X hx 176 (Ls' := #[.val (.int p1), .val (.int p2), .val (.int p3), .val (.int p4), .val (.int p5), .val (.int p6), .val (.ref b1), .val (.ref b6), .val (.int cc), .val (.int dd), .val (.int (0 : Int32)), .val (.int (0 : Int32)), .val (.int st1), .val (.int (st1 + ((XT.ushr p3 (8 : Int32)) % ((5 : Int32) - st1)))), .val (.int st2), .val (.int (st2 + ((XT.ushr p4 (8 : Int32)) % ((5 : Int32) - st2)))), .val (.ref b1), .unset, .unset, .unset]) (hb hby at_174) rfl rfl rfl ?_
          refine o_aload X hx 178 (hb hby at_176) rfl rfl rfl ?_
          refine o_iload X hx 180 (hb hby at_178) rfl rfl ?_
          refine o_callV X hx hZ hown (hw _ (List.mem_of_getElem? (i := 27) rfl)) (hw _ (List.mem_of_getElem? (i := 28) rfl)) (hw _ (List.mem_of_getElem? (i := 30) rfl)) (hw _ (List.mem_of_getElem? (i := 29) rfl)) (hw _ (List.mem_of_getElem? (i := 3) rfl)) (hw _ (List.mem_of_getElem? (i := 31) rfl)) (by decide) (rm_bytM l Z a0 hw [] b6 b1 sa ks (([(.int 0), (.int 0), (.int 0)].set cc.toNatClampNeg (.int st1)).set dd.toNatClampNeg (.int st2)) dd st2 _ n0 Z0 F_message_b6 F_starts_b6 Vs kd.1 (own_get2 _ _ _ _ _ _ (own_n3 kd.1)) (own_nn k2.1)) eT (by decide) 0 (by decide) (by rw [hml]; rfl) E_b6 [(.int dd)] (rest := []) (lenOf pd_4 rfl) rfl rfl (Nat.le_of_eq rfl) (by decide) (by decide) 183 (hb hby at_180) rfl (fun v T h11 Lc X eT q => ?_)
          obtain ⟨rfl, N', e'⟩ := q
          replace N := Fr.app N N'
          replace eT := eT.trans e'
          show Wout p e below _ T (mkF m 183 #[.val (.int p1), .val (.int p2), .val (.int p3), .val (.int p4), .val (.int p5), .val (.int p6), .val (.ref b1), .val (.ref b6), .val (.int cc), .val (.int dd), .val (.int (0 : Int32)), .val (.int (0 : Int32)), .val (.int st1), .val (.int (st1 + ((XT.ushr p3 (8 : Int32)) % ((5 : Int32) - st1)))), .val (.int st2), .val (.int (st2 + ((XT.ushr p4 (8 : Int32)) % ((5 : Int32) - st2)))), .val (.ref b1), .unset, .unset, .unset] [(.ref b1)])
          refine o_astore X hx 185 (Ls' := #[.val (.int p1), .val (.int p2), .val (.int p3), .val (.int p4), .val (.int p5), .val (.int p6), .val (.ref b1), .val (.ref b6), .val (.int cc), .val (.int dd), .val (.int (0 : Int32)), .val (.int (0 : Int32)), .val (.int st1), .val (.int (st1 + ((XT.ushr p3 (8 : Int32)) % ((5 : Int32) - st1)))), .val (.int st2), .val (.int (st2 + ((XT.ushr p4 (8 : Int32)) % ((5 : Int32) - st2)))), .val (.ref b1), .val (.ref b1), .unset, .unset]) (hb hby at_183) rfl rfl rfl ?_
          refine o_iload X hx 187 (hb hby at_185) rfl rfl ?_
          refine o_ifT X hx 203 (hb hby at_187) rfl (by decide : (0 : Int32) = (0 : Int32)) ?_
          refine o_aload X hx 205 (hb hby at_203) rfl rfl rfl ?_
          refine o_aload X hx 207 (hb hby at_205) rfl rfl rfl ?_
          refine o_acmpF X hx 210 (hb hby at_207) rfl rfl rfl (XT.aa_ne_f rfl) ?_
          refine o_iconst X hx 211 (1 : Int32) (hb hby at_210) rfl rfl ?_
          refine o_goto X hx 215 (hb hby at_211) rfl ?_
          refine o_istore X hx 217 (Ls' := #[.val (.int p1), .val (.int p2), .val (.int p3), .val (.int p4), .val (.int p5), .val (.int p6), .val (.ref b1), .val (.ref b6), .val (.int cc), .val (.int dd), .val (.int (0 : Int32)), .val (.int (0 : Int32)), .val (.int st1), .val (.int (st1 + ((XT.ushr p3 (8 : Int32)) % ((5 : Int32) - st1)))), .val (.int st2), .val (.int (st2 + ((XT.ushr p4 (8 : Int32)) % ((5 : Int32) - st2)))), .val (.ref b1), .val (.ref b1), .val (.int (1 : Int32)), .unset]) (hb hby at_215) rfl rfl ?_
          refine o_iload X hx 219 (hb hby at_217) rfl rfl ?_
          refine o_ifT X hx 235 (hb hby at_219) rfl (by decide : (0 : Int32) = (0 : Int32)) ?_
          refine o_aload X hx 237 (hb hby at_235) rfl rfl rfl ?_
          refine o_aload X hx 239 (hb hby at_237) rfl rfl rfl ?_
          refine o_acmpF X hx 242 (hb hby at_239) rfl rfl rfl (XT.aa_ne_f rfl) ?_
          refine o_iconst X hx 243 (1 : Int32) (hb hby at_242) rfl rfl ?_
          refine o_goto X hx 247 (hb hby at_243) rfl ?_
          refine o_istore X hx 249 (Ls' := #[.val (.int p1), .val (.int p2), .val (.int p3), .val (.int p4), .val (.int p5), .val (.int p6), .val (.ref b1), .val (.ref b6), .val (.int cc), .val (.int dd), .val (.int (0 : Int32)), .val (.int (0 : Int32)), .val (.int st1), .val (.int (st1 + ((XT.ushr p3 (8 : Int32)) % ((5 : Int32) - st1)))), .val (.int st2), .val (.int (st2 + ((XT.ushr p4 (8 : Int32)) % ((5 : Int32) - st2)))), .val (.ref b1), .val (.ref b1), .val (.int (1 : Int32)), .val (.int (1 : Int32))]) (hb hby at_247) rfl rfl ?_
          refine o_iload X hx 251 (hb hby at_249) rfl rfl ?_
          refine o_ifF X hx 254 (hb hby at_251) rfl (by decide : ¬ (1 : Int32) = (0 : Int32)) ?_
          refine o_iload X hx 256 (hb hby at_254) rfl rfl ?_
          refine o_ifF X hx 259 (hb hby at_256) rfl (by decide : ¬ (1 : Int32) = (0 : Int32)) ?_
          refine o_iconst X hx 260 (1 : Int32) (hb hby at_259) rfl rfl ?_
          refine o_goto X hx 264 (hb hby at_260) rfl ?_
          exact o_retI X hx hlk hret rfl (by simp) (hb hby at_264) (by decide) (by decide) (by rw [eT]; exact ⟨rfl, N, trivial⟩)
        · show Wout p e below _ T (mkF m 95 #[.val (.int p1), .val (.int p2), .val (.int p3), .val (.int p4), .val (.int p5), .val (.int p6), .val (.ref b1), .val (.ref b6), .val (.int cc), .val (.int dd), .val (.int (0 : Int32)), .unset, .unset, .unset, .unset, .unset, .unset, .unset, .unset, .unset] [(.int (1 : Int32))])
          refine o_istore X hx 97 (Ls' := #[.val (.int p1), .val (.int p2), .val (.int p3), .val (.int p4), .val (.int p5), .val (.int p6), .val (.ref b1), .val (.ref b6), .val (.int cc), .val (.int dd), .val (.int (0 : Int32)), .val (.int (1 : Int32)), .unset, .unset, .unset, .unset, .unset, .unset, .unset, .unset]) (hb hby at_95) rfl rfl ?_
          refine o_iloadN X hx 98 (hb hby at_97) rfl rfl ?_
          refine o_ldc X hx hZ 100 hown (hw _ (List.mem_of_getElem? (i := 17) rfl)) (hb hby at_98) rfl ?_
          refine o_iand X hx 101 (hb hby at_100) rfl ?_
          refine o_iconst X hx 102 (5 : Int32) (hb hby at_101) rfl rfl ?_
          refine o_irem X hx 103 (hb hby at_102) (by decide) rfl ?_
          obtain ⟨st1, h_st1⟩ : ∃ z, z = ((p3 &&& (2147483647 : Int32)) % (5 : Int32)) := ⟨_, rfl⟩
          rw [← h_st1]
          have k1 : 0 ≤ st1.toInt ∧ st1.toInt < 5 := by rw [h_st1]; exact rem_in (n := 5) (mask31 p3) (by decide)
          refine o_istore X hx 105 (Ls' := #[.val (.int p1), .val (.int p2), .val (.int p3), .val (.int p4), .val (.int p5), .val (.int p6), .val (.ref b1), .val (.ref b6), .val (.int cc), .val (.int dd), .val (.int (0 : Int32)), .val (.int (1 : Int32)), .val (.int st1), .unset, .unset, .unset, .unset, .unset, .unset, .unset]) (hb hby at_103) rfl rfl ?_
          refine o_iload X hx 107 (hb hby at_105) rfl rfl ?_
          refine o_iloadN X hx 108 (hb hby at_107) rfl rfl ?_
          refine o_bipush X hx 110 (8 : Int32) (hb hby at_108) rfl rfl ?_
          refine o_iushr X hx 111 (hb hby at_110) rfl ?_
          refine o_iconst X hx 112 (5 : Int32) (hb hby at_111) rfl rfl ?_
          refine o_iload X hx 114 (hb hby at_112) rfl rfl ?_
          refine o_isub X hx 115 (hb hby at_114) rfl ?_
          refine o_irem X hx 116 (hb hby at_115) (own_nz5 k1) rfl ?_
          refine o_iadd X hx 117 (hb hby at_116) rfl ?_
          refine o_istore X hx 119 (Ls' := #[.val (.int p1), .val (.int p2), .val (.int p3), .val (.int p4), .val (.int p5), .val (.int p6), .val (.ref b1), .val (.ref b6), .val (.int cc), .val (.int dd), .val (.int (0 : Int32)), .val (.int (1 : Int32)), .val (.int st1), .val (.int (st1 + ((XT.ushr p3 (8 : Int32)) % ((5 : Int32) - st1)))), .unset, .unset, .unset, .unset, .unset, .unset]) (hb hby at_117) rfl rfl ?_
          refine o_iloadN X hx 120 (hb hby at_119) rfl rfl ?_
          refine o_ldc X hx hZ 122 hown (hw _ (List.mem_of_getElem? (i := 17) rfl)) (hb hby at_120) rfl ?_
          refine o_iand X hx 123 (hb hby at_122) rfl ?_
          refine o_iconst X hx 124 (5 : Int32) (hb hby at_123) rfl rfl ?_
          refine o_irem X hx 125 (hb hby at_124) (by decide) rfl ?_
          obtain ⟨st2, h_st2⟩ : ∃ z, z = ((p4 &&& (2147483647 : Int32)) % (5 : Int32)) := ⟨_, rfl⟩
          rw [← h_st2]
          have k2 : 0 ≤ st2.toInt ∧ st2.toInt < 5 := by rw [h_st2]; exact rem_in (n := 5) (mask31 p4) (by decide)
          refine o_istore X hx 127 (Ls' := #[.val (.int p1), .val (.int p2), .val (.int p3), .val (.int p4), .val (.int p5), .val (.int p6), .val (.ref b1), .val (.ref b6), .val (.int cc), .val (.int dd), .val (.int (0 : Int32)), .val (.int (1 : Int32)), .val (.int st1), .val (.int (st1 + ((XT.ushr p3 (8 : Int32)) % ((5 : Int32) - st1)))), .val (.int st2), .unset, .unset, .unset, .unset, .unset]) (hb hby at_125) rfl rfl ?_
          refine o_iload X hx 129 (hb hby at_127) rfl rfl ?_
          refine o_iloadN X hx 130 (hb hby at_129) rfl rfl ?_
          refine o_bipush X hx 132 (8 : Int32) (hb hby at_130) rfl rfl ?_
          refine o_iushr X hx 133 (hb hby at_132) rfl ?_
          refine o_iconst X hx 134 (5 : Int32) (hb hby at_133) rfl rfl ?_
          refine o_iload X hx 136 (hb hby at_134) rfl rfl ?_
          refine o_isub X hx 137 (hb hby at_136) rfl ?_
          refine o_irem X hx 138 (hb hby at_137) (own_nz5 k2) rfl ?_
          refine o_iadd X hx 139 (hb hby at_138) rfl ?_
          refine o_istore X hx 141 (Ls' := #[.val (.int p1), .val (.int p2), .val (.int p3), .val (.int p4), .val (.int p5), .val (.int p6), .val (.ref b1), .val (.ref b6), .val (.int cc), .val (.int dd), .val (.int (0 : Int32)), .val (.int (1 : Int32)), .val (.int st1), .val (.int (st1 + ((XT.ushr p3 (8 : Int32)) % ((5 : Int32) - st1)))), .val (.int st2), .val (.int (st2 + ((XT.ushr p4 (8 : Int32)) % ((5 : Int32) - st2)))), .unset, .unset, .unset, .unset]) (hb hby at_139) rfl rfl ?_
          refine o_aload X hx 143 (hb hby at_141) rfl rfl rfl ?_
          refine o_iload X hx 145 (hb hby at_143) rfl rfl ?_
          refine o_iload X hx 147 (hb hby at_145) rfl rfl ?_
          refine o_iload X hx 149 (hb hby at_147) rfl rfl ?_
          refine o_iload X hx 151 (hb hby at_149) rfl rfl ?_
          refine o_callS X hx hZ hown (hw _ (List.mem_of_getElem? (i := 18) rfl)) (hw _ (List.mem_of_getElem? (i := 19) rfl)) (hw _ (List.mem_of_getElem? (i := 20) rfl)) (hw _ (List.mem_of_getElem? (i := 21) rfl)) (by decide) (rm_app0 l Z a0 hw [] b6 sa ea ks ke [(.int 0), (.int 0), (.int 0)] [(.int 0), (.int 0), (.int 0)] cc st1 (st1 + ((XT.ushr p3 (8 : Int32)) % ((5 : Int32) - st1))) _ n0 Z0 E_b6 F_starts_b6 F_ends_b6 Vs Ve g_sa g_ea ne1 ne2 ne3 kc (own_n3 kc) (own_n3 kc)) eT (by decide) 0 (by decide) (by rw [hml]; rfl) [(.ref b6), (.int cc), (.int (0 : Int32)), (.int st1), (.int (st1 + ((XT.ushr p3 (8 : Int32)) % ((5 : Int32) - st1))))] (rest := []) (lenOf pd_3 rfl) rfl rfl (Nat.le_of_eq rfl) (by decide) (by decide) 154 (hb hby at_151) rfl (fun v T h12 Lc X eT q => ?_)
          obtain ⟨rfl, N', K1, V1, V2⟩ := q
          replace N := Fr.app N N'
          replace E_b6 := E_b6.keep K1
          replace F_message_b6 := F_message_b6.keep K1 (ninS ne2 (ninS ne3 nin0))
          replace F_starts_b6 := F_starts_b6.keep K1 (ninS ne2 (ninS ne3 nin0))
          replace F_ends_b6 := F_ends_b6.keep K1 (ninS ne2 (ninS ne3 nin0))
          replace Z0 := Nat.le_trans Z0 K1.1
          replace Vs := V1
          replace Ve := V2
          show Wout p e below _ T (mkF m 154 #[.val (.int p1), .val (.int p2), .val (.int p3), .val (.int p4), .val (.int p5), .val (.int p6), .val (.ref b1), .val (.ref b6), .val (.int cc), .val (.int dd), .val (.int (0 : Int32)), .val (.int (1 : Int32)), .val (.int st1), .val (.int (st1 + ((XT.ushr p3 (8 : Int32)) % ((5 : Int32) - st1)))), .val (.int st2), .val (.int (st2 + ((XT.ushr p4 (8 : Int32)) % ((5 : Int32) - st2)))), .unset, .unset, .unset, .unset] [])
          refine o_aload X hx 156 (hb hby at_154) rfl rfl rfl ?_
          refine o_iload X hx 158 (hb hby at_156) rfl rfl ?_
          refine o_iload X hx 160 (hb hby at_158) rfl rfl ?_
          refine o_iload X hx 162 (hb hby at_160) rfl rfl ?_
          refine o_iload X hx 164 (hb hby at_162) rfl rfl ?_
          refine o_callS X hx hZ hown (hw _ (List.mem_of_getElem? (i := 18) rfl)) (hw _ (List.mem_of_getElem? (i := 19) rfl)) (hw _ (List.mem_of_getElem? (i := 20) rfl)) (hw _ (List.mem_of_getElem? (i := 21) rfl)) (by decide) (rm_app1 l Z a0 hw [] b6 sa ea ks ke ([(.int 0), (.int 0), (.int 0)].set cc.toNatClampNeg (.int st1)) ([(.int 0), (.int 0), (.int 0)].set cc.toNatClampNeg (.int (st1 + ((XT.ushr p3 (8 : Int32)) % ((5 : Int32) - st1))))) dd st2 (st2 + ((XT.ushr p4 (8 : Int32)) % ((5 : Int32) - st2))) _ n0 Z0 E_b6 F_starts_b6 F_ends_b6 Vs Ve g_sa g_ea ne1 ne2 ne3 kd.1 (by rw [List.length_set]; exact own_n3 kd.1) (by rw [List.length_set]; exact own_n3 kd.1)) eT (by decide) 0 (by decide) (by rw [hml]; rfl) [(.ref b6), (.int dd), (.int (1 : Int32)), (.int st2), (.int (st2 + ((XT.ushr p4 (8 : Int32)) % ((5 : Int32) - st2))))] (rest := []) (lenOf pd_3 rfl) rfl rfl (Nat.le_of_eq rfl) (by decide) (by decide) 167 (hb hby at_164) rfl (fun v T h13 Lc X eT q => ?_)
          obtain ⟨rfl, N', K1, V1, V2⟩ := q
          replace N := Fr.app N N'
          replace E_b6 := E_b6.keep K1
          replace F_message_b6 := F_message_b6.keep K1 (ninS ne2 (ninS ne3 nin0))
          replace F_starts_b6 := F_starts_b6.keep K1 (ninS ne2 (ninS ne3 nin0))
          replace F_ends_b6 := F_ends_b6.keep K1 (ninS ne2 (ninS ne3 nin0))
          replace Z0 := Nat.le_trans Z0 K1.1
          replace Vs := V1
          replace Ve := V2
          show Wout p e below _ T (mkF m 167 #[.val (.int p1), .val (.int p2), .val (.int p3), .val (.int p4), .val (.int p5), .val (.int p6), .val (.ref b1), .val (.ref b6), .val (.int cc), .val (.int dd), .val (.int (0 : Int32)), .val (.int (1 : Int32)), .val (.int st1), .val (.int (st1 + ((XT.ushr p3 (8 : Int32)) % ((5 : Int32) - st1)))), .val (.int st2), .val (.int (st2 + ((XT.ushr p4 (8 : Int32)) % ((5 : Int32) - st2)))), .unset, .unset, .unset, .unset] [])
          refine o_aload X hx 169 (hb hby at_167) rfl rfl rfl ?_
          refine o_iload X hx 171 (hb hby at_169) rfl rfl ?_
          refine o_callV X hx hZ hown (hw _ (List.mem_of_getElem? (i := 27) rfl)) (hw _ (List.mem_of_getElem? (i := 28) rfl)) (hw _ (List.mem_of_getElem? (i := 30) rfl)) (hw _ (List.mem_of_getElem? (i := 29) rfl)) (hw _ (List.mem_of_getElem? (i := 3) rfl)) (hw _ (List.mem_of_getElem? (i := 31) rfl)) (by decide) (rm_bytM l Z a0 hw [] b6 b1 sa ks (([(.int 0), (.int 0), (.int 0)].set cc.toNatClampNeg (.int st1)).set dd.toNatClampNeg (.int (-1))) cc st1 _ n0 Z0 F_message_b6 F_starts_b6 Vs kc (own_get1 _ _ _ _ _ _ (own_n3 kc) kd.2) (own_nn k1.1)) eT (by decide) 0 (by decide) (by rw [hml]; rfl) E_b6 [(.int cc)] (rest := []) (lenOf pd_4 rfl) rfl rfl (Nat.le_of_eq rfl) (by decide) (by decide) 174 (hb hby at_171) rfl (fun v T h14 Lc X eT q => ?_)
          obtain ⟨rfl, N', e'⟩ := q
          replace N := Fr.app N N'
          replace eT := eT.trans e'
          show Wout p e below _ T (mkF m 174 #[.val (.int p1), .val (.int p2), .val (.int p3), .val (.int p4), .val (.int p5), .val (.int p6), .val (.ref b1), .val (.ref b6), .val (.int cc), .val (.int dd), .val (.int (0 : Int32)), .val (.int (1 : Int32)), .val (.int st1), .val (.int (st1 + ((XT.ushr p3 (8 : Int32)) % ((5 : Int32) - st1)))), .val (.int st2), .val (.int (st2 + ((XT.ushr p4 (8 : Int32)) % ((5 : Int32) - st2)))), .unset, .unset, .unset, .unset] [(.ref b1)])
          refine o_astore X hx 176 (Ls' := #[.val (.int p1), .val (.int p2), .val (.int p3), .val (.int p4), .val (.int p5), .val (.int p6), .val (.ref b1), .val (.ref b6), .val (.int cc), .val (.int dd), .val (.int (0 : Int32)), .val (.int (1 : Int32)), .val (.int st1), .val (.int (st1 + ((XT.ushr p3 (8 : Int32)) % ((5 : Int32) - st1)))), .val (.int st2), .val (.int (st2 + ((XT.ushr p4 (8 : Int32)) % ((5 : Int32) - st2)))), .val (.ref b1), .unset, .unset, .unset]) (hb hby at_174) rfl rfl rfl ?_
          refine o_aload X hx 178 (hb hby at_176) rfl rfl rfl ?_
          refine o_iload X hx 180 (hb hby at_178) rfl rfl ?_
          refine o_callV X hx hZ hown (hw _ (List.mem_of_getElem? (i := 27) rfl)) (hw _ (List.mem_of_getElem? (i := 28) rfl)) (hw _ (List.mem_of_getElem? (i := 30) rfl)) (hw _ (List.mem_of_getElem? (i := 29) rfl)) (hw _ (List.mem_of_getElem? (i := 3) rfl)) (hw _ (List.mem_of_getElem? (i := 31) rfl)) (by decide) (rm_bytN l Z a0 hw [] b6 b1 sa ks (([(.int 0), (.int 0), (.int 0)].set cc.toNatClampNeg (.int st1)).set dd.toNatClampNeg (.int (-1))) dd (-1) _ n0 Z0 F_message_b6 F_starts_b6 Vs kd.1 (own_get2 _ _ _ _ _ _ (own_n3 kd.1)) (by decide)) eT (by decide) 0 (by decide) (by rw [hml]; rfl) E_b6 [(.int dd)] (rest := []) (lenOf pd_4 rfl) rfl rfl (Nat.le_of_eq rfl) (by decide) (by decide) 183 (hb hby at_180) rfl (fun v T h15 Lc X eT q => ?_)
          obtain ⟨rfl, N', e'⟩ := q
          replace N := Fr.app N N'
          replace eT := eT.trans e'
          show Wout p e below _ T (mkF m 183 #[.val (.int p1), .val (.int p2), .val (.int p3), .val (.int p4), .val (.int p5), .val (.int p6), .val (.ref b1), .val (.ref b6), .val (.int cc), .val (.int dd), .val (.int (0 : Int32)), .val (.int (1 : Int32)), .val (.int st1), .val (.int (st1 + ((XT.ushr p3 (8 : Int32)) % ((5 : Int32) - st1)))), .val (.int st2), .val (.int (st2 + ((XT.ushr p4 (8 : Int32)) % ((5 : Int32) - st2)))), .val (.ref b1), .unset, .unset, .unset] [.null])
          refine o_astore X hx 185 (Ls' := #[.val (.int p1), .val (.int p2), .val (.int p3), .val (.int p4), .val (.int p5), .val (.int p6), .val (.ref b1), .val (.ref b6), .val (.int cc), .val (.int dd), .val (.int (0 : Int32)), .val (.int (1 : Int32)), .val (.int st1), .val (.int (st1 + ((XT.ushr p3 (8 : Int32)) % ((5 : Int32) - st1)))), .val (.int st2), .val (.int (st2 + ((XT.ushr p4 (8 : Int32)) % ((5 : Int32) - st2)))), .val (.ref b1), .val .null, .unset, .unset]) (hb hby at_183) rfl rfl rfl ?_
          refine o_iload X hx 187 (hb hby at_185) rfl rfl ?_
          refine o_ifT X hx 203 (hb hby at_187) rfl (by decide : (0 : Int32) = (0 : Int32)) ?_
          refine o_aload X hx 205 (hb hby at_203) rfl rfl rfl ?_
          refine o_aload X hx 207 (hb hby at_205) rfl rfl rfl ?_
          refine o_acmpF X hx 210 (hb hby at_207) rfl rfl rfl (XT.aa_ne_f rfl) ?_
          refine o_iconst X hx 211 (1 : Int32) (hb hby at_210) rfl rfl ?_
          refine o_goto X hx 215 (hb hby at_211) rfl ?_
          refine o_istore X hx 217 (Ls' := #[.val (.int p1), .val (.int p2), .val (.int p3), .val (.int p4), .val (.int p5), .val (.int p6), .val (.ref b1), .val (.ref b6), .val (.int cc), .val (.int dd), .val (.int (0 : Int32)), .val (.int (1 : Int32)), .val (.int st1), .val (.int (st1 + ((XT.ushr p3 (8 : Int32)) % ((5 : Int32) - st1)))), .val (.int st2), .val (.int (st2 + ((XT.ushr p4 (8 : Int32)) % ((5 : Int32) - st2)))), .val (.ref b1), .val .null, .val (.int (1 : Int32)), .unset]) (hb hby at_215) rfl rfl ?_
          refine o_iload X hx 219 (hb hby at_217) rfl rfl ?_
          refine o_ifF X hx 222 (hb hby at_219) rfl (by decide : ¬ (1 : Int32) = (0 : Int32)) ?_
          refine o_aload X hx 224 (hb hby at_222) rfl rfl rfl ?_
          refine o_ifnonnullF X hx 227 (hb hby at_224) rfl ?_
          refine o_iconst X hx 228 (1 : Int32) (hb hby at_227) rfl rfl ?_
          refine o_goto X hx 247 (hb hby at_228) rfl ?_
          refine o_istore X hx 249 (Ls' := #[.val (.int p1), .val (.int p2), .val (.int p3), .val (.int p4), .val (.int p5), .val (.int p6), .val (.ref b1), .val (.ref b6), .val (.int cc), .val (.int dd), .val (.int (0 : Int32)), .val (.int (1 : Int32)), .val (.int st1), .val (.int (st1 + ((XT.ushr p3 (8 : Int32)) % ((5 : Int32) - st1)))), .val (.int st2), .val (.int (st2 + ((XT.ushr p4 (8 : Int32)) % ((5 : Int32) - st2)))), .val (.ref b1), .val .null, .val (.int (1 : Int32)), .val (.int (1 : Int32))]) (hb hby at_247) rfl rfl ?_
          refine o_iload X hx 251 (hb hby at_249) rfl rfl ?_
          refine o_ifF X hx 254 (hb hby at_251) rfl (by decide : ¬ (1 : Int32) = (0 : Int32)) ?_
          refine o_iload X hx 256 (hb hby at_254) rfl rfl ?_
          refine o_ifF X hx 259 (hb hby at_256) rfl (by decide : ¬ (1 : Int32) = (0 : Int32)) ?_
          refine o_iconst X hx 260 (1 : Int32) (hb hby at_259) rfl rfl ?_
          refine o_goto X hx 264 (hb hby at_260) rfl ?_
          exact o_retI X hx hlk hret rfl (by simp) (hb hby at_264) (by decide) (by decide) (by rw [eT]; exact ⟨rfl, N, trivial⟩)
      refine o_if X hx 94 90 (hb hby at_87) rfl rfl (fun (q2 : (p2 &&& (2 : Int32)) = (0 : Int32)) => ?_) (fun (q2 : ¬ (p2 &&& (2 : Int32)) = (0 : Int32)) => ?_)
      · show Wout p e below _ T (mkF m 94 #[.val (.int p1), .val (.int p2), .val (.int p3), .val (.int p4), .val (.int p5), .val (.int p6), .val (.ref b1), .val (.ref b6), .val (.int cc), .val (.int dd), .val (.int (0 : Int32)), .unset, .unset, .unset, .unset, .unset, .unset, .unset, .unset, .unset] [])
        refine o_iconst X hx 95 (0 : Int32) (hb hby at_94) rfl rfl ?_
        exact J2 _ (Or.inl rfl)
      · show Wout p e below _ T (mkF m 90 #[.val (.int p1), .val (.int p2), .val (.int p3), .val (.int p4), .val (.int p5), .val (.int p6), .val (.ref b1), .val (.ref b6), .val (.int cc), .val (.int dd), .val (.int (0 : Int32)), .unset, .unset, .unset, .unset, .unset, .unset, .unset, .unset, .unset] [])
        refine o_iconst X hx 91 (1 : Int32) (hb hby at_90) rfl rfl ?_
        refine o_goto X hx 95 (hb hby at_91) rfl ?_
        exact J2 _ (Or.inr rfl)
    · show Wout p e below _ T (mkF m 82 #[.val (.int p1), .val (.int p2), .val (.int p3), .val (.int p4), .val (.int p5), .val (.int p6), .val (.ref b1), .val (.ref b6), .val (.int cc), .val (.int dd), .unset, .unset, .unset, .unset, .unset, .unset, .unset, .unset, .unset, .unset] [(.int (1 : Int32))])
      refine o_istore X hx 84 (Ls' := #[.val (.int p1), .val (.int p2), .val (.int p3), .val (.int p4), .val (.int p5), .val (.int p6), .val (.ref b1), .val (.ref b6), .val (.int cc), .val (.int dd), .val (.int (1 : Int32)), .unset, .unset, .unset, .unset, .unset, .unset, .unset, .unset, .unset]) (hb hby at_82) rfl rfl ?_
      refine o_iloadN X hx 85 (hb hby at_84) rfl rfl ?_
      refine o_iconst X hx 86 (2 : Int32) (hb hby at_85) rfl rfl ?_
      refine o_iand X hx 87 (hb hby at_86) rfl ?_
      have J2 : ∀ nd : Int32, (nd = 0 ∨ nd = 1) → Wout p e below (Pst s (Q_law Z p1 p2 p3 p4 p5 p6 h0 n0) room_1.cells room_1.slots) T (mkF m 95 #[.val (.int p1), .val (.int p2), .val (.int p3), .val (.int p4), .val (.int p5), .val (.int p6), .val (.ref b1), .val (.ref b6), .val (.int cc), .val (.int dd), .val (.int (1 : Int32)), .unset, .unset, .unset, .unset, .unset, .unset, .unset, .unset, .unset] [(.int nd)]) := by
        intro nd hnd
        rcases hnd with rfl | rfl
        · show Wout p e below _ T (mkF m 95 #[.val (.int p1), .val (.int p2), .val (.int p3), .val (.int p4), .val (.int p5), .val (.int p6), .val (.ref b1), .val (.ref b6), .val (.int cc), .val (.int dd), .val (.int (1 : Int32)), .unset, .unset, .unset, .unset, .unset, .unset, .unset, .unset, .unset] [(.int (0 : Int32))])
          refine o_istore X hx 97 (Ls' := #[.val (.int p1), .val (.int p2), .val (.int p3), .val (.int p4), .val (.int p5), .val (.int p6), .val (.ref b1), .val (.ref b6), .val (.int cc), .val (.int dd), .val (.int (1 : Int32)), .val (.int (0 : Int32)), .unset, .unset, .unset, .unset, .unset, .unset, .unset, .unset]) (hb hby at_95) rfl rfl ?_
          refine o_iloadN X hx 98 (hb hby at_97) rfl rfl ?_
          refine o_ldc X hx hZ 100 hown (hw _ (List.mem_of_getElem? (i := 17) rfl)) (hb hby at_98) rfl ?_
          refine o_iand X hx 101 (hb hby at_100) rfl ?_
          refine o_iconst X hx 102 (5 : Int32) (hb hby at_101) rfl rfl ?_
          refine o_irem X hx 103 (hb hby at_102) (by decide) rfl ?_
          obtain ⟨st1, h_st1⟩ : ∃ z, z = ((p3 &&& (2147483647 : Int32)) % (5 : Int32)) := ⟨_, rfl⟩
          rw [← h_st1]
          have k1 : 0 ≤ st1.toInt ∧ st1.toInt < 5 := by rw [h_st1]; exact rem_in (n := 5) (mask31 p3) (by decide)
          refine o_istore X hx 105 (Ls' := #[.val (.int p1), .val (.int p2), .val (.int p3), .val (.int p4), .val (.int p5), .val (.int p6), .val (.ref b1), .val (.ref b6), .val (.int cc), .val (.int dd), .val (.int (1 : Int32)), .val (.int (0 : Int32)), .val (.int st1), .unset, .unset, .unset, .unset, .unset, .unset, .unset]) (hb hby at_103) rfl rfl ?_
          refine o_iload X hx 107 (hb hby at_105) rfl rfl ?_
          refine o_iloadN X hx 108 (hb hby at_107) rfl rfl ?_
          refine o_bipush X hx 110 (8 : Int32) (hb hby at_108) rfl rfl ?_
          refine o_iushr X hx 111 (hb hby at_110) rfl ?_
          refine o_iconst X hx 112 (5 : Int32) (hb hby at_111) rfl rfl ?_
          refine o_iload X hx 114 (hb hby at_112) rfl rfl ?_
          refine o_isub X hx 115 (hb hby at_114) rfl ?_
          refine o_irem X hx 116 (hb hby at_115) (own_nz5 k1) rfl ?_
          refine o_iadd X hx 117 (hb hby at_116) rfl ?_
          refine o_istore X hx 119 (Ls' := #[.val (.int p1), .val (.int p2), .val (.int p3), .val (.int p4), .val (.int p5), .val (.int p6), .val (.ref b1), .val (.ref b6), .val (.int cc), .val (.int dd), .val (.int (1 : Int32)), .val (.int (0 : Int32)), .val (.int st1), .val (.int (st1 + ((XT.ushr p3 (8 : Int32)) % ((5 : Int32) - st1)))), .unset, .unset, .unset, .unset, .unset, .unset]) (hb hby at_117) rfl rfl ?_
          refine o_iloadN X hx 120 (hb hby at_119) rfl rfl ?_
          refine o_ldc X hx hZ 122 hown (hw _ (List.mem_of_getElem? (i := 17) rfl)) (hb hby at_120) rfl ?_
          refine o_iand X hx 123 (hb hby at_122) rfl ?_
          refine o_iconst X hx 124 (5 : Int32) (hb hby at_123) rfl rfl ?_
          refine o_irem X hx 125 (hb hby at_124) (by decide) rfl ?_
          obtain ⟨st2, h_st2⟩ : ∃ z, z = ((p4 &&& (2147483647 : Int32)) % (5 : Int32)) := ⟨_, rfl⟩
          rw [← h_st2]
          have k2 : 0 ≤ st2.toInt ∧ st2.toInt < 5 := by rw [h_st2]; exact rem_in (n := 5) (mask31 p4) (by decide)
          refine o_istore X hx 127 (Ls' := #[.val (.int p1), .val (.int p2), .val (.int p3), .val (.int p4), .val (.int p5), .val (.int p6), .val (.ref b1), .val (.ref b6), .val (.int cc), .val (.int dd), .val (.int (1 : Int32)), .val (.int (0 : Int32)), .val (.int st1), .val (.int (st1 + ((XT.ushr p3 (8 : Int32)) % ((5 : Int32) - st1)))), .val (.int st2), .unset, .unset, .unset, .unset, .unset]) (hb hby at_125) rfl rfl ?_
          refine o_iload X hx 129 (hb hby at_127) rfl rfl ?_
          refine o_iloadN X hx 130 (hb hby at_129) rfl rfl ?_
          refine o_bipush X hx 132 (8 : Int32) (hb hby at_130) rfl rfl ?_
          refine o_iushr X hx 133 (hb hby at_132) rfl ?_
          refine o_iconst X hx 134 (5 : Int32) (hb hby at_133) rfl rfl ?_
          refine o_iload X hx 136 (hb hby at_134) rfl rfl ?_
          refine o_isub X hx 137 (hb hby at_136) rfl ?_
          refine o_irem X hx 138 (hb hby at_137) (own_nz5 k2) rfl ?_
          refine o_iadd X hx 139 (hb hby at_138) rfl ?_
          refine o_istore X hx 141 (Ls' := #[.val (.int p1), .val (.int p2), .val (.int p3), .val (.int p4), .val (.int p5), .val (.int p6), .val (.ref b1), .val (.ref b6), .val (.int cc), .val (.int dd), .val (.int (1 : Int32)), .val (.int (0 : Int32)), .val (.int st1), .val (.int (st1 + ((XT.ushr p3 (8 : Int32)) % ((5 : Int32) - st1)))), .val (.int st2), .val (.int (st2 + ((XT.ushr p4 (8 : Int32)) % ((5 : Int32) - st2)))), .unset, .unset, .unset, .unset]) (hb hby at_139) rfl rfl ?_
          refine o_aload X hx 143 (hb hby at_141) rfl rfl rfl ?_
          refine o_iload X hx 145 (hb hby at_143) rfl rfl ?_
          refine o_iload X hx 147 (hb hby at_145) rfl rfl ?_
          refine o_iload X hx 149 (hb hby at_147) rfl rfl ?_
          refine o_iload X hx 151 (hb hby at_149) rfl rfl ?_
          refine o_callS X hx hZ hown (hw _ (List.mem_of_getElem? (i := 18) rfl)) (hw _ (List.mem_of_getElem? (i := 19) rfl)) (hw _ (List.mem_of_getElem? (i := 20) rfl)) (hw _ (List.mem_of_getElem? (i := 21) rfl)) (by decide) (rm_app1 l Z a0 hw [] b6 sa ea ks ke [(.int 0), (.int 0), (.int 0)] [(.int 0), (.int 0), (.int 0)] cc st1 (st1 + ((XT.ushr p3 (8 : Int32)) % ((5 : Int32) - st1))) _ n0 Z0 E_b6 F_starts_b6 F_ends_b6 Vs Ve g_sa g_ea ne1 ne2 ne3 kc (own_n3 kc) (own_n3 kc)) eT (by decide) 0 (by decide) (by rw [hml]; rfl) [(.ref b6), (.int cc), (.int (1 : Int32)), (.int st1), (.int (st1 + ((XT.ushr p3 (8 : Int32)) % ((5 : Int32) - st1))))] (rest := []) (lenOf pd_3 rfl) rfl rfl (Nat.le_of_eq rfl) (by decide) (by decide) 154 (hb hby at_151) rfl (fun v T h16 Lc X eT q => ?_)
          obtain ⟨rfl, N', K1, V1, V2⟩ := q
          replace N := Fr.app N N'
          replace E_b6 := E_b6.keep K1
          replace F_message_b6 := F_message_b6.keep K1 (ninS ne2 (ninS ne3 nin0))
          replace F_starts_b6 := F_starts_b6.keep K1 (ninS ne2 (ninS ne3 nin0))
          replace F_ends_b6 := F_ends_b6.keep K1 (ninS ne2 (ninS ne3 nin0))
          replace Z0 := Nat.le_trans Z0 K1.1
          replace Vs := V1
          replace Ve := V2
          show Wout p e below _ T (mkF m 154 #[.val (.int p1), .val (.int p2), .val (.int p3), .val (.int p4), .val (.int p5), .val (.int p6), .val (.ref b1), .val (.ref b6), .val (.int cc), .val (.int dd), .val (.int (1 : Int32)), .val (.int (0 : Int32)), .val (.int st1), .val (.int (st1 + ((XT.ushr p3 (8 : Int32)) % ((5 : Int32) - st1)))), .val (.int st2), .val (.int (st2 + ((XT.ushr p4 (8 : Int32)) % ((5 : Int32) - st2)))), .unset, .unset, .unset, .unset] [])
          refine o_aload X hx 156 (hb hby at_154) rfl rfl rfl ?_
          refine o_iload X hx 158 (hb hby at_156) rfl rfl ?_
          refine o_iload X hx 160 (hb hby at_158) rfl rfl ?_
          refine o_iload X hx 162 (hb hby at_160) rfl rfl ?_
          refine o_iload X hx 164 (hb hby at_162) rfl rfl ?_
          refine o_callS X hx hZ hown (hw _ (List.mem_of_getElem? (i := 18) rfl)) (hw _ (List.mem_of_getElem? (i := 19) rfl)) (hw _ (List.mem_of_getElem? (i := 20) rfl)) (hw _ (List.mem_of_getElem? (i := 21) rfl)) (by decide) (rm_app0 l Z a0 hw [] b6 sa ea ks ke ([(.int 0), (.int 0), (.int 0)].set cc.toNatClampNeg (.int (-1))) ([(.int 0), (.int 0), (.int 0)].set cc.toNatClampNeg (.int (-1))) dd st2 (st2 + ((XT.ushr p4 (8 : Int32)) % ((5 : Int32) - st2))) _ n0 Z0 E_b6 F_starts_b6 F_ends_b6 Vs Ve g_sa g_ea ne1 ne2 ne3 kd.1 (by rw [List.length_set]; exact own_n3 kd.1) (by rw [List.length_set]; exact own_n3 kd.1)) eT (by decide) 0 (by decide) (by rw [hml]; rfl) [(.ref b6), (.int dd), (.int (0 : Int32)), (.int st2), (.int (st2 + ((XT.ushr p4 (8 : Int32)) % ((5 : Int32) - st2))))] (rest := []) (lenOf pd_3 rfl) rfl rfl (Nat.le_of_eq rfl) (by decide) (by decide) 167 (hb hby at_164) rfl (fun v T h17 Lc X eT q => ?_)
          obtain ⟨rfl, N', K1, V1, V2⟩ := q
          replace N := Fr.app N N'
          replace E_b6 := E_b6.keep K1
          replace F_message_b6 := F_message_b6.keep K1 (ninS ne2 (ninS ne3 nin0))
          replace F_starts_b6 := F_starts_b6.keep K1 (ninS ne2 (ninS ne3 nin0))
          replace F_ends_b6 := F_ends_b6.keep K1 (ninS ne2 (ninS ne3 nin0))
          replace Z0 := Nat.le_trans Z0 K1.1
          replace Vs := V1
          replace Ve := V2
          show Wout p e below _ T (mkF m 167 #[.val (.int p1), .val (.int p2), .val (.int p3), .val (.int p4), .val (.int p5), .val (.int p6), .val (.ref b1), .val (.ref b6), .val (.int cc), .val (.int dd), .val (.int (1 : Int32)), .val (.int (0 : Int32)), .val (.int st1), .val (.int (st1 + ((XT.ushr p3 (8 : Int32)) % ((5 : Int32) - st1)))), .val (.int st2), .val (.int (st2 + ((XT.ushr p4 (8 : Int32)) % ((5 : Int32) - st2)))), .unset, .unset, .unset, .unset] [])
          refine o_aload X hx 169 (hb hby at_167) rfl rfl rfl ?_
          refine o_iload X hx 171 (hb hby at_169) rfl rfl ?_
          refine o_callV X hx hZ hown (hw _ (List.mem_of_getElem? (i := 27) rfl)) (hw _ (List.mem_of_getElem? (i := 28) rfl)) (hw _ (List.mem_of_getElem? (i := 30) rfl)) (hw _ (List.mem_of_getElem? (i := 29) rfl)) (hw _ (List.mem_of_getElem? (i := 3) rfl)) (hw _ (List.mem_of_getElem? (i := 31) rfl)) (by decide) (rm_bytN l Z a0 hw [] b6 b1 sa ks (([(.int 0), (.int 0), (.int 0)].set cc.toNatClampNeg (.int (-1))).set dd.toNatClampNeg (.int st2)) cc (-1) _ n0 Z0 F_message_b6 F_starts_b6 Vs kc (own_get1 _ _ _ _ _ _ (own_n3 kc) kd.2) (by decide)) eT (by decide) 0 (by decide) (by rw [hml]; rfl) E_b6 [(.int cc)] (rest := []) (lenOf pd_4 rfl) rfl rfl (Nat.le_of_eq rfl) (by decide) (by decide) 174 (hb hby at_171) rfl (fun v T h18 Lc X eT q => ?_)
          obtain ⟨rfl, N', e'⟩ := q
          replace N := Fr.app N N'
          replace eT := eT.trans e'
          show Wout p e below _ T (mkF m 174 #[.val (.int p1), .val (.int p2), .val (.int p3), .val (.int p4), .val (.int p5), .val (.int p6), .val (.ref b1), .val (.ref b6), .val (.int cc), .val (.int dd), .val (.int (1 : Int32)), .val (.int (0 : Int32)), .val (.int st1), .val (.int (st1 + ((XT.ushr p3 (8 : Int32)) % ((5 : Int32) - st1)))), .val (.int st2), .val (.int (st2 + ((XT.ushr p4 (8 : Int32)) % ((5 : Int32) - st2)))), .unset, .unset, .unset, .unset] [.null])
          refine o_astore X hx 176 (Ls' := #[.val (.int p1), .val (.int p2), .val (.int p3), .val (.int p4), .val (.int p5), .val (.int p6), .val (.ref b1), .val (.ref b6), .val (.int cc), .val (.int dd), .val (.int (1 : Int32)), .val (.int (0 : Int32)), .val (.int st1), .val (.int (st1 + ((XT.ushr p3 (8 : Int32)) % ((5 : Int32) - st1)))), .val (.int st2), .val (.int (st2 + ((XT.ushr p4 (8 : Int32)) % ((5 : Int32) - st2)))), .val .null, .unset, .unset, .unset]) (hb hby at_174) rfl rfl rfl ?_
          refine o_aload X hx 178 (hb hby at_176) rfl rfl rfl ?_
          refine o_iload X hx 180 (hb hby at_178) rfl rfl ?_
          refine o_callV X hx hZ hown (hw _ (List.mem_of_getElem? (i := 27) rfl)) (hw _ (List.mem_of_getElem? (i := 28) rfl)) (hw _ (List.mem_of_getElem? (i := 30) rfl)) (hw _ (List.mem_of_getElem? (i := 29) rfl)) (hw _ (List.mem_of_getElem? (i := 3) rfl)) (hw _ (List.mem_of_getElem? (i := 31) rfl)) (by decide) (rm_bytM l Z a0 hw [] b6 b1 sa ks (([(.int 0), (.int 0), (.int 0)].set cc.toNatClampNeg (.int (-1))).set dd.toNatClampNeg (.int st2)) dd st2 _ n0 Z0 F_message_b6 F_starts_b6 Vs kd.1 (own_get2 _ _ _ _ _ _ (own_n3 kd.1)) (own_nn k2.1)) eT (by decide) 0 (by decide) (by rw [hml]; rfl) E_b6 [(.int dd)] (rest := []) (lenOf pd_4 rfl) rfl rfl (Nat.le_of_eq rfl) (by decide) (by decide) 183 (hb hby at_180) rfl (fun v T h19 Lc X eT q => ?_)
          obtain ⟨rfl, N', e'⟩ := q
          replace N := Fr.app N N'
          replace eT := eT.trans e'
          show Wout p e below _ T (mkF m 183 #[.val (.int p1), .val (.int p2), .val (.int p3), .val (.int p4), .val (.int p5), .val (.int p6), .val (.ref b1), .val (.ref b6), .val (.int cc), .val (.int dd), .val (.int (1 : Int32)), .val (.int (0 : Int32)), .val (.int st1), .val (.int (st1 + ((XT.ushr p3 (8 : Int32)) % ((5 : Int32) - st1)))), .val (.int st2), .val (.int (st2 + ((XT.ushr p4 (8 : Int32)) % ((5 : Int32) - st2)))), .val .null, .unset, .unset, .unset] [(.ref b1)])
          refine o_astore X hx 185 (Ls' := #[.val (.int p1), .val (.int p2), .val (.int p3), .val (.int p4), .val (.int p5), .val (.int p6), .val (.ref b1), .val (.ref b6), .val (.int cc), .val (.int dd), .val (.int (1 : Int32)), .val (.int (0 : Int32)), .val (.int st1), .val (.int (st1 + ((XT.ushr p3 (8 : Int32)) % ((5 : Int32) - st1)))), .val (.int st2), .val (.int (st2 + ((XT.ushr p4 (8 : Int32)) % ((5 : Int32) - st2)))), .val .null, .val (.ref b1), .unset, .unset]) (hb hby at_183) rfl rfl rfl ?_
          refine o_iload X hx 187 (hb hby at_185) rfl rfl ?_
          refine o_ifF X hx 190 (hb hby at_187) rfl (by decide : ¬ (1 : Int32) = (0 : Int32)) ?_
          refine o_aload X hx 192 (hb hby at_190) rfl rfl rfl ?_
          refine o_ifnonnullF X hx 195 (hb hby at_192) rfl ?_
          refine o_iconst X hx 196 (1 : Int32) (hb hby at_195) rfl rfl ?_
          refine o_goto X hx 215 (hb hby at_196) rfl ?_
          refine o_istore X hx 217 (Ls' := #[.val (.int p1), .val (.int p2), .val (.int p3), .val (.int p4), .val (.int p5), .val (.int p6), .val (.ref b1), .val (.ref b6), .val (.int cc), .val (.int dd), .val (.int (1 : Int32)), .val (.int (0 : Int32)), .val (.int st1), .val (.int (st1 + ((XT.ushr p3 (8 : Int32)) % ((5 : Int32) - st1)))), .val (.int st2), .val (.int (st2 + ((XT.ushr p4 (8 : Int32)) % ((5 : Int32) - st2)))), .val .null, .val (.ref b1), .val (.int (1 : Int32)), .unset]) (hb hby at_215) rfl rfl ?_
          refine o_iload X hx 219 (hb hby at_217) rfl rfl ?_
          refine o_ifT X hx 235 (hb hby at_219) rfl (by decide : (0 : Int32) = (0 : Int32)) ?_
          refine o_aload X hx 237 (hb hby at_235) rfl rfl rfl ?_
          refine o_aload X hx 239 (hb hby at_237) rfl rfl rfl ?_
          refine o_acmpF X hx 242 (hb hby at_239) rfl rfl rfl (XT.aa_ne_f rfl) ?_
          refine o_iconst X hx 243 (1 : Int32) (hb hby at_242) rfl rfl ?_
          refine o_goto X hx 247 (hb hby at_243) rfl ?_
          refine o_istore X hx 249 (Ls' := #[.val (.int p1), .val (.int p2), .val (.int p3), .val (.int p4), .val (.int p5), .val (.int p6), .val (.ref b1), .val (.ref b6), .val (.int cc), .val (.int dd), .val (.int (1 : Int32)), .val (.int (0 : Int32)), .val (.int st1), .val (.int (st1 + ((XT.ushr p3 (8 : Int32)) % ((5 : Int32) - st1)))), .val (.int st2), .val (.int (st2 + ((XT.ushr p4 (8 : Int32)) % ((5 : Int32) - st2)))), .val .null, .val (.ref b1), .val (.int (1 : Int32)), .val (.int (1 : Int32))]) (hb hby at_247) rfl rfl ?_
          refine o_iload X hx 251 (hb hby at_249) rfl rfl ?_
          refine o_ifF X hx 254 (hb hby at_251) rfl (by decide : ¬ (1 : Int32) = (0 : Int32)) ?_
          refine o_iload X hx 256 (hb hby at_254) rfl rfl ?_
          refine o_ifF X hx 259 (hb hby at_256) rfl (by decide : ¬ (1 : Int32) = (0 : Int32)) ?_
          refine o_iconst X hx 260 (1 : Int32) (hb hby at_259) rfl rfl ?_
          refine o_goto X hx 264 (hb hby at_260) rfl ?_
          exact o_retI X hx hlk hret rfl (by simp) (hb hby at_264) (by decide) (by decide) (by rw [eT]; exact ⟨rfl, N, trivial⟩)
        · show Wout p e below _ T (mkF m 95 #[.val (.int p1), .val (.int p2), .val (.int p3), .val (.int p4), .val (.int p5), .val (.int p6), .val (.ref b1), .val (.ref b6), .val (.int cc), .val (.int dd), .val (.int (1 : Int32)), .unset, .unset, .unset, .unset, .unset, .unset, .unset, .unset, .unset] [(.int (1 : Int32))])
          refine o_istore X hx 97 (Ls' := #[.val (.int p1), .val (.int p2), .val (.int p3), .val (.int p4), .val (.int p5), .val (.int p6), .val (.ref b1), .val (.ref b6), .val (.int cc), .val (.int dd), .val (.int (1 : Int32)), .val (.int (1 : Int32)), .unset, .unset, .unset, .unset, .unset, .unset, .unset, .unset]) (hb hby at_95) rfl rfl ?_
          refine o_iloadN X hx 98 (hb hby at_97) rfl rfl ?_
          refine o_ldc X hx hZ 100 hown (hw _ (List.mem_of_getElem? (i := 17) rfl)) (hb hby at_98) rfl ?_
          refine o_iand X hx 101 (hb hby at_100) rfl ?_
          refine o_iconst X hx 102 (5 : Int32) (hb hby at_101) rfl rfl ?_
          refine o_irem X hx 103 (hb hby at_102) (by decide) rfl ?_
          obtain ⟨st1, h_st1⟩ : ∃ z, z = ((p3 &&& (2147483647 : Int32)) % (5 : Int32)) := ⟨_, rfl⟩
          rw [← h_st1]
          have k1 : 0 ≤ st1.toInt ∧ st1.toInt < 5 := by rw [h_st1]; exact rem_in (n := 5) (mask31 p3) (by decide)
          refine o_istore X hx 105 (Ls' := #[.val (.int p1), .val (.int p2), .val (.int p3), .val (.int p4), .val (.int p5), .val (.int p6), .val (.ref b1), .val (.ref b6), .val (.int cc), .val (.int dd), .val (.int (1 : Int32)), .val (.int (1 : Int32)), .val (.int st1), .unset, .unset, .unset, .unset, .unset, .unset, .unset]) (hb hby at_103) rfl rfl ?_
          refine o_iload X hx 107 (hb hby at_105) rfl rfl ?_
          refine o_iloadN X hx 108 (hb hby at_107) rfl rfl ?_
          refine o_bipush X hx 110 (8 : Int32) (hb hby at_108) rfl rfl ?_
          refine o_iushr X hx 111 (hb hby at_110) rfl ?_
          refine o_iconst X hx 112 (5 : Int32) (hb hby at_111) rfl rfl ?_
          refine o_iload X hx 114 (hb hby at_112) rfl rfl ?_
          refine o_isub X hx 115 (hb hby at_114) rfl ?_
          refine o_irem X hx 116 (hb hby at_115) (own_nz5 k1) rfl ?_
          refine o_iadd X hx 117 (hb hby at_116) rfl ?_
          refine o_istore X hx 119 (Ls' := #[.val (.int p1), .val (.int p2), .val (.int p3), .val (.int p4), .val (.int p5), .val (.int p6), .val (.ref b1), .val (.ref b6), .val (.int cc), .val (.int dd), .val (.int (1 : Int32)), .val (.int (1 : Int32)), .val (.int st1), .val (.int (st1 + ((XT.ushr p3 (8 : Int32)) % ((5 : Int32) - st1)))), .unset, .unset, .unset, .unset, .unset, .unset]) (hb hby at_117) rfl rfl ?_
          refine o_iloadN X hx 120 (hb hby at_119) rfl rfl ?_
          refine o_ldc X hx hZ 122 hown (hw _ (List.mem_of_getElem? (i := 17) rfl)) (hb hby at_120) rfl ?_
          refine o_iand X hx 123 (hb hby at_122) rfl ?_
          refine o_iconst X hx 124 (5 : Int32) (hb hby at_123) rfl rfl ?_
          refine o_irem X hx 125 (hb hby at_124) (by decide) rfl ?_
          obtain ⟨st2, h_st2⟩ : ∃ z, z = ((p4 &&& (2147483647 : Int32)) % (5 : Int32)) := ⟨_, rfl⟩
          rw [← h_st2]
          have k2 : 0 ≤ st2.toInt ∧ st2.toInt < 5 := by rw [h_st2]; exact rem_in (n := 5) (mask31 p4) (by decide)
          refine o_istore X hx 127 (Ls' := #[.val (.int p1), .val (.int p2), .val (.int p3), .val (.int p4), .val (.int p5), .val (.int p6), .val (.ref b1), .val (.ref b6), .val (.int cc), .val (.int dd), .val (.int (1 : Int32)), .val (.int (1 : Int32)), .val (.int st1), .val (.int (st1 + ((XT.ushr p3 (8 : Int32)) % ((5 : Int32) - st1)))), .val (.int st2), .unset, .unset, .unset, .unset, .unset]) (hb hby at_125) rfl rfl ?_
          refine o_iload X hx 129 (hb hby at_127) rfl rfl ?_
          refine o_iloadN X hx 130 (hb hby at_129) rfl rfl ?_
          refine o_bipush X hx 132 (8 : Int32) (hb hby at_130) rfl rfl ?_
          refine o_iushr X hx 133 (hb hby at_132) rfl ?_
          refine o_iconst X hx 134 (5 : Int32) (hb hby at_133) rfl rfl ?_
          refine o_iload X hx 136 (hb hby at_134) rfl rfl ?_
          refine o_isub X hx 137 (hb hby at_136) rfl ?_
          refine o_irem X hx 138 (hb hby at_137) (own_nz5 k2) rfl ?_
          refine o_iadd X hx 139 (hb hby at_138) rfl ?_
          refine o_istore X hx 141 (Ls' := #[.val (.int p1), .val (.int p2), .val (.int p3), .val (.int p4), .val (.int p5), .val (.int p6), .val (.ref b1), .val (.ref b6), .val (.int cc), .val (.int dd), .val (.int (1 : Int32)), .val (.int (1 : Int32)), .val (.int st1), .val (.int (st1 + ((XT.ushr p3 (8 : Int32)) % ((5 : Int32) - st1)))), .val (.int st2), .val (.int (st2 + ((XT.ushr p4 (8 : Int32)) % ((5 : Int32) - st2)))), .unset, .unset, .unset, .unset]) (hb hby at_139) rfl rfl ?_
          refine o_aload X hx 143 (hb hby at_141) rfl rfl rfl ?_
          refine o_iload X hx 145 (hb hby at_143) rfl rfl ?_
          refine o_iload X hx 147 (hb hby at_145) rfl rfl ?_
          refine o_iload X hx 149 (hb hby at_147) rfl rfl ?_
          refine o_iload X hx 151 (hb hby at_149) rfl rfl ?_
          refine o_callS X hx hZ hown (hw _ (List.mem_of_getElem? (i := 18) rfl)) (hw _ (List.mem_of_getElem? (i := 19) rfl)) (hw _ (List.mem_of_getElem? (i := 20) rfl)) (hw _ (List.mem_of_getElem? (i := 21) rfl)) (by decide) (rm_app1 l Z a0 hw [] b6 sa ea ks ke [(.int 0), (.int 0), (.int 0)] [(.int 0), (.int 0), (.int 0)] cc st1 (st1 + ((XT.ushr p3 (8 : Int32)) % ((5 : Int32) - st1))) _ n0 Z0 E_b6 F_starts_b6 F_ends_b6 Vs Ve g_sa g_ea ne1 ne2 ne3 kc (own_n3 kc) (own_n3 kc)) eT (by decide) 0 (by decide) (by rw [hml]; rfl) [(.ref b6), (.int cc), (.int (1 : Int32)), (.int st1), (.int (st1 + ((XT.ushr p3 (8 : Int32)) % ((5 : Int32) - st1))))] (rest := []) (lenOf pd_3 rfl) rfl rfl (Nat.le_of_eq rfl) (by decide) (by decide) 154 (hb hby at_151) rfl (fun v T h20 Lc X eT q => ?_)
          obtain ⟨rfl, N', K1, V1, V2⟩ := q
          replace N := Fr.app N N'
          replace E_b6 := E_b6.keep K1
          replace F_message_b6 := F_message_b6.keep K1 (ninS ne2 (ninS ne3 nin0))
          replace F_starts_b6 := F_starts_b6.keep K1 (ninS ne2 (ninS ne3 nin0))
          replace F_ends_b6 := F_ends_b6.keep K1 (ninS ne2 (ninS ne3 nin0))
          replace Z0 := Nat.le_trans Z0 K1.1
          replace Vs := V1
          replace Ve := V2
          show Wout p e below _ T (mkF m 154 #[.val (.int p1), .val (.int p2), .val (.int p3), .val (.int p4), .val (.int p5), .val (.int p6), .val (.ref b1), .val (.ref b6), .val (.int cc), .val (.int dd), .val (.int (1 : Int32)), .val (.int (1 : Int32)), .val (.int st1), .val (.int (st1 + ((XT.ushr p3 (8 : Int32)) % ((5 : Int32) - st1)))), .val (.int st2), .val (.int (st2 + ((XT.ushr p4 (8 : Int32)) % ((5 : Int32) - st2)))), .unset, .unset, .unset, .unset] [])
          refine o_aload X hx 156 (hb hby at_154) rfl rfl rfl ?_
          refine o_iload X hx 158 (hb hby at_156) rfl rfl ?_
          refine o_iload X hx 160 (hb hby at_158) rfl rfl ?_
          refine o_iload X hx 162 (hb hby at_160) rfl rfl ?_
          refine o_iload X hx 164 (hb hby at_162) rfl rfl ?_
          refine o_callS X hx hZ hown (hw _ (List.mem_of_getElem? (i := 18) rfl)) (hw _ (List.mem_of_getElem? (i := 19) rfl)) (hw _ (List.mem_of_getElem? (i := 20) rfl)) (hw _ (List.mem_of_getElem? (i := 21) rfl)) (by decide) (rm_app1 l Z a0 hw [] b6 sa ea ks ke ([(.int 0), (.int 0), (.int 0)].set cc.toNatClampNeg (.int (-1))) ([(.int 0), (.int 0), (.int 0)].set cc.toNatClampNeg (.int (-1))) dd st2 (st2 + ((XT.ushr p4 (8 : Int32)) % ((5 : Int32) - st2))) _ n0 Z0 E_b6 F_starts_b6 F_ends_b6 Vs Ve g_sa g_ea ne1 ne2 ne3 kd.1 (by rw [List.length_set]; exact own_n3 kd.1) (by rw [List.length_set]; exact own_n3 kd.1)) eT (by decide) 0 (by decide) (by rw [hml]; rfl) [(.ref b6), (.int dd), (.int (1 : Int32)), (.int st2), (.int (st2 + ((XT.ushr p4 (8 : Int32)) % ((5 : Int32) - st2))))] (rest := []) (lenOf pd_3 rfl) rfl rfl (Nat.le_of_eq rfl) (by decide) (by decide) 167 (hb hby at_164) rfl (fun v T h21 Lc X eT q => ?_)
          obtain ⟨rfl, N', K1, V1, V2⟩ := q
          replace N := Fr.app N N'
          replace E_b6 := E_b6.keep K1
          replace F_message_b6 := F_message_b6.keep K1 (ninS ne2 (ninS ne3 nin0))
          replace F_starts_b6 := F_starts_b6.keep K1 (ninS ne2 (ninS ne3 nin0))
          replace F_ends_b6 := F_ends_b6.keep K1 (ninS ne2 (ninS ne3 nin0))
          replace Z0 := Nat.le_trans Z0 K1.1
          replace Vs := V1
          replace Ve := V2
          show Wout p e below _ T (mkF m 167 #[.val (.int p1), .val (.int p2), .val (.int p3), .val (.int p4), .val (.int p5), .val (.int p6), .val (.ref b1), .val (.ref b6), .val (.int cc), .val (.int dd), .val (.int (1 : Int32)), .val (.int (1 : Int32)), .val (.int st1), .val (.int (st1 + ((XT.ushr p3 (8 : Int32)) % ((5 : Int32) - st1)))), .val (.int st2), .val (.int (st2 + ((XT.ushr p4 (8 : Int32)) % ((5 : Int32) - st2)))), .unset, .unset, .unset, .unset] [])
          refine o_aload X hx 169 (hb hby at_167) rfl rfl rfl ?_
          refine o_iload X hx 171 (hb hby at_169) rfl rfl ?_
          refine o_callV X hx hZ hown (hw _ (List.mem_of_getElem? (i := 27) rfl)) (hw _ (List.mem_of_getElem? (i := 28) rfl)) (hw _ (List.mem_of_getElem? (i := 30) rfl)) (hw _ (List.mem_of_getElem? (i := 29) rfl)) (hw _ (List.mem_of_getElem? (i := 3) rfl)) (hw _ (List.mem_of_getElem? (i := 31) rfl)) (by decide) (rm_bytN l Z a0 hw [] b6 b1 sa ks (([(.int 0), (.int 0), (.int 0)].set cc.toNatClampNeg (.int (-1))).set dd.toNatClampNeg (.int (-1))) cc (-1) _ n0 Z0 F_message_b6 F_starts_b6 Vs kc (own_get1 _ _ _ _ _ _ (own_n3 kc) kd.2) (by decide)) eT (by decide) 0 (by decide) (by rw [hml]; rfl) E_b6 [(.int cc)] (rest := []) (lenOf pd_4 rfl) rfl rfl (Nat.le_of_eq rfl) (by decide) (by decide) 174 (hb hby at_171) rfl (fun v T h22 Lc X eT q => ?_)
          obtain ⟨rfl, N', e'⟩ := q
          replace N := Fr.app N N'
          replace eT := eT.trans e'
          show Wout p e below _ T (mkF m 174 #[.val (.int p1), .val (.int p2), .val (.int p3), .val (.int p4), .val (.int p5), .val (.int p6), .val (.ref b1), .val (.ref b6), .val (.int cc), .val (.int dd), .val (.int (1 : Int32)), .val (.int (1 : Int32)), .val (.int st1), .val (.int (st1 + ((XT.ushr p3 (8 : Int32)) % ((5 : Int32) - st1)))), .val (.int st2), .val (.int (st2 + ((XT.ushr p4 (8 : Int32)) % ((5 : Int32) - st2)))), .unset, .unset, .unset, .unset] [.null])
          refine o_astore X hx 176 (Ls' := #[.val (.int p1), .val (.int p2), .val (.int p3), .val (.int p4), .val (.int p5), .val (.int p6), .val (.ref b1), .val (.ref b6), .val (.int cc), .val (.int dd), .val (.int (1 : Int32)), .val (.int (1 : Int32)), .val (.int st1), .val (.int (st1 + ((XT.ushr p3 (8 : Int32)) % ((5 : Int32) - st1)))), .val (.int st2), .val (.int (st2 + ((XT.ushr p4 (8 : Int32)) % ((5 : Int32) - st2)))), .val .null, .unset, .unset, .unset]) (hb hby at_174) rfl rfl rfl ?_
          refine o_aload X hx 178 (hb hby at_176) rfl rfl rfl ?_
          refine o_iload X hx 180 (hb hby at_178) rfl rfl ?_
          refine o_callV X hx hZ hown (hw _ (List.mem_of_getElem? (i := 27) rfl)) (hw _ (List.mem_of_getElem? (i := 28) rfl)) (hw _ (List.mem_of_getElem? (i := 30) rfl)) (hw _ (List.mem_of_getElem? (i := 29) rfl)) (hw _ (List.mem_of_getElem? (i := 3) rfl)) (hw _ (List.mem_of_getElem? (i := 31) rfl)) (by decide) (rm_bytN l Z a0 hw [] b6 b1 sa ks (([(.int 0), (.int 0), (.int 0)].set cc.toNatClampNeg (.int (-1))).set dd.toNatClampNeg (.int (-1))) dd (-1) _ n0 Z0 F_message_b6 F_starts_b6 Vs kd.1 (own_get2 _ _ _ _ _ _ (own_n3 kd.1)) (by decide)) eT (by decide) 0 (by decide) (by rw [hml]; rfl) E_b6 [(.int dd)] (rest := []) (lenOf pd_4 rfl) rfl rfl (Nat.le_of_eq rfl) (by decide) (by decide) 183 (hb hby at_180) rfl (fun v T h23 Lc X eT q => ?_)
          obtain ⟨rfl, N', e'⟩ := q
          replace N := Fr.app N N'
          replace eT := eT.trans e'
          show Wout p e below _ T (mkF m 183 #[.val (.int p1), .val (.int p2), .val (.int p3), .val (.int p4), .val (.int p5), .val (.int p6), .val (.ref b1), .val (.ref b6), .val (.int cc), .val (.int dd), .val (.int (1 : Int32)), .val (.int (1 : Int32)), .val (.int st1), .val (.int (st1 + ((XT.ushr p3 (8 : Int32)) % ((5 : Int32) - st1)))), .val (.int st2), .val (.int (st2 + ((XT.ushr p4 (8 : Int32)) % ((5 : Int32) - st2)))), .val .null, .unset, .unset, .unset] [.null])
          refine o_astore X hx 185 (Ls' := #[.val (.int p1), .val (.int p2), .val (.int p3), .val (.int p4), .val (.int p5), .val (.int p6), .val (.ref b1), .val (.ref b6), .val (.int cc), .val (.int dd), .val (.int (1 : Int32)), .val (.int (1 : Int32)), .val (.int st1), .val (.int (st1 + ((XT.ushr p3 (8 : Int32)) % ((5 : Int32) - st1)))), .val (.int st2), .val (.int (st2 + ((XT.ushr p4 (8 : Int32)) % ((5 : Int32) - st2)))), .val .null, .val .null, .unset, .unset]) (hb hby at_183) rfl rfl rfl ?_
          refine o_iload X hx 187 (hb hby at_185) rfl rfl ?_
          refine o_ifF X hx 190 (hb hby at_187) rfl (by decide : ¬ (1 : Int32) = (0 : Int32)) ?_
          refine o_aload X hx 192 (hb hby at_190) rfl rfl rfl ?_
          refine o_ifnonnullF X hx 195 (hb hby at_192) rfl ?_
          refine o_iconst X hx 196 (1 : Int32) (hb hby at_195) rfl rfl ?_
          refine o_goto X hx 215 (hb hby at_196) rfl ?_
          refine o_istore X hx 217 (Ls' := #[.val (.int p1), .val (.int p2), .val (.int p3), .val (.int p4), .val (.int p5), .val (.int p6), .val (.ref b1), .val (.ref b6), .val (.int cc), .val (.int dd), .val (.int (1 : Int32)), .val (.int (1 : Int32)), .val (.int st1), .val (.int (st1 + ((XT.ushr p3 (8 : Int32)) % ((5 : Int32) - st1)))), .val (.int st2), .val (.int (st2 + ((XT.ushr p4 (8 : Int32)) % ((5 : Int32) - st2)))), .val .null, .val .null, .val (.int (1 : Int32)), .unset]) (hb hby at_215) rfl rfl ?_
          refine o_iload X hx 219 (hb hby at_217) rfl rfl ?_
          refine o_ifF X hx 222 (hb hby at_219) rfl (by decide : ¬ (1 : Int32) = (0 : Int32)) ?_
          refine o_aload X hx 224 (hb hby at_222) rfl rfl rfl ?_
          refine o_ifnonnullF X hx 227 (hb hby at_224) rfl ?_
          refine o_iconst X hx 228 (1 : Int32) (hb hby at_227) rfl rfl ?_
          refine o_goto X hx 247 (hb hby at_228) rfl ?_
          refine o_istore X hx 249 (Ls' := #[.val (.int p1), .val (.int p2), .val (.int p3), .val (.int p4), .val (.int p5), .val (.int p6), .val (.ref b1), .val (.ref b6), .val (.int cc), .val (.int dd), .val (.int (1 : Int32)), .val (.int (1 : Int32)), .val (.int st1), .val (.int (st1 + ((XT.ushr p3 (8 : Int32)) % ((5 : Int32) - st1)))), .val (.int st2), .val (.int (st2 + ((XT.ushr p4 (8 : Int32)) % ((5 : Int32) - st2)))), .val .null, .val .null, .val (.int (1 : Int32)), .val (.int (1 : Int32))]) (hb hby at_247) rfl rfl ?_
          refine o_iload X hx 251 (hb hby at_249) rfl rfl ?_
          refine o_ifF X hx 254 (hb hby at_251) rfl (by decide : ¬ (1 : Int32) = (0 : Int32)) ?_
          refine o_iload X hx 256 (hb hby at_254) rfl rfl ?_
          refine o_ifF X hx 259 (hb hby at_256) rfl (by decide : ¬ (1 : Int32) = (0 : Int32)) ?_
          refine o_iconst X hx 260 (1 : Int32) (hb hby at_259) rfl rfl ?_
          refine o_goto X hx 264 (hb hby at_260) rfl ?_
          exact o_retI X hx hlk hret rfl (by simp) (hb hby at_264) (by decide) (by decide) (by rw [eT]; exact ⟨rfl, N, trivial⟩)
      refine o_if X hx 94 90 (hb hby at_87) rfl rfl (fun (q2 : (p2 &&& (2 : Int32)) = (0 : Int32)) => ?_) (fun (q2 : ¬ (p2 &&& (2 : Int32)) = (0 : Int32)) => ?_)
      · show Wout p e below _ T (mkF m 94 #[.val (.int p1), .val (.int p2), .val (.int p3), .val (.int p4), .val (.int p5), .val (.int p6), .val (.ref b1), .val (.ref b6), .val (.int cc), .val (.int dd), .val (.int (1 : Int32)), .unset, .unset, .unset, .unset, .unset, .unset, .unset, .unset, .unset] [])
        refine o_iconst X hx 95 (0 : Int32) (hb hby at_94) rfl rfl ?_
        exact J2 _ (Or.inl rfl)
      · show Wout p e below _ T (mkF m 90 #[.val (.int p1), .val (.int p2), .val (.int p3), .val (.int p4), .val (.int p5), .val (.int p6), .val (.ref b1), .val (.ref b6), .val (.int cc), .val (.int dd), .val (.int (1 : Int32)), .unset, .unset, .unset, .unset, .unset, .unset, .unset, .unset, .unset] [])
        refine o_iconst X hx 91 (1 : Int32) (hb hby at_90) rfl rfl ?_
        refine o_goto X hx 95 (hb hby at_91) rfl ?_
        exact J2 _ (Or.inr rfl)
  refine o_if X hx 81 77 (hb hby at_74) rfl rfl (fun (q1 : (p2 &&& (1 : Int32)) = (0 : Int32)) => ?_) (fun (q1 : ¬ (p2 &&& (1 : Int32)) = (0 : Int32)) => ?_)
  · show Wout p e below _ T (mkF m 81 #[.val (.int p1), .val (.int p2), .val (.int p3), .val (.int p4), .val (.int p5), .val (.int p6), .val (.ref b1), .val (.ref b6), .val (.int cc), .val (.int dd), .unset, .unset, .unset, .unset, .unset, .unset, .unset, .unset, .unset, .unset] [])
    refine o_iconst X hx 82 (0 : Int32) (hb hby at_81) rfl rfl ?_
    exact J1 _ (Or.inl rfl)
  · show Wout p e below _ T (mkF m 77 #[.val (.int p1), .val (.int p2), .val (.int p3), .val (.int p4), .val (.int p5), .val (.int p6), .val (.ref b1), .val (.ref b6), .val (.int cc), .val (.int dd), .unset, .unset, .unset, .unset, .unset, .unset, .unset, .unset, .unset, .unset] [])
    refine o_iconst X hx 78 (1 : Int32) (hb hby at_77) rfl rfl ?_
    refine o_goto X hx 82 (hb hby at_78) rfl ?_
    exact J1 _ (Or.inr rfl)
set_option maxRecDepth 65536 in
set_option maxHeartbeats 40000000 in
theorem comes_1 {Post : Tables → Env → Array Value → State → Outcome → State → Prop} (hpost : ∀ tb e args s v u, (limb_1_1.after args s (.returned v) u = true ∧ limb_1_2.after args s (.returned v) u = true ∧ True) → FrameEnd s (.returned v) u (Jvm.fieldLocs frame_1_writes args s ++ Jvm.arrayLocs frame_1_arrays args s ++ Jvm.staticLocs frame_1_statics s) 16 128 → Post tb e args s (.returned v) u) :
    ArmFor flags0 classFile x code maxLocals ret World_1 tables_1 room_1 Calls_1 rest_1 Pre_1 Post := by
  intro l hfl _ _ p e ha hc hk s m args below hf hA hF happ hP
  obtain ⟨hcalls, hrest, hpre⟩ := hP
  obtain ⟨-, -, -, hnamed, -, -, -, hat⟩ := (Spec.applies_iff hf).mp happ
  obtain ⟨hg, hn⟩ := and_e (Cond.before_iff.mp (show (Jvm.Cond.and given_1 narrow_1).before args s = true from hpre))
  obtain ⟨h1, hgs⟩ := and_e hg
  obtain ⟨w0, w1, w2, w3, w4, w5, rfl⟩ : ∃ w0 w1 w2 w3 w4 w5 : Value, args = #[w0, w1, w2, w3, w4, w5] := by
    have hs : args.size = 6 := by simpa [Cond.value, given_1] using h1
    obtain ⟨L⟩ := args
    match L, hs with
    | [w0, w1, w2, w3, w4, w5], _ => exact ⟨w0, w1, w2, w3, w4, w5, rfl⟩
  have hw := fun d (hd : d ∈ tables_1) => atoms_spec (ws := Jvm.Cond.code x code maxLocals ret :: tables_1) hat d (List.mem_cons_of_mem _ hd)
  have hfit : Fit s := fun {y c} hc i hi => by
    obtain ⟨ha, rfl⟩ := Array.getElem?_eq_some_iff.mp hc
    have q := List.all_eq_true.mp ((Array.all_eq_true_iff_forall_mem.mp hF) _ (Array.getElem_mem ha)) i (List.mem_range.mpr hi)
    simpa [Array.getElem?_eq_getElem hi] using q
  obtain ⟨hg0, hgs⟩ := and_e hgs
  obtain ⟨i0, e0⟩ := is_v hg0
  obtain rfl : w0 = (.int i0) := Option.some.inj e0
  obtain ⟨hg1, hgs⟩ := and_e hgs
  obtain ⟨i1, e1⟩ := is_v hg1
  obtain rfl : w1 = (.int i1) := Option.some.inj e1
  obtain ⟨hg2, hgs⟩ := and_e hgs
  obtain ⟨i2, e2⟩ := is_v hg2
  obtain rfl : w2 = (.int i2) := Option.some.inj e2
  obtain ⟨hg3, hgs⟩ := and_e hgs
  obtain ⟨i3, e3⟩ := is_v hg3
  obtain rfl : w3 = (.int i3) := Option.some.inj e3
  obtain ⟨hg4, hgs⟩ := and_e hgs
  obtain ⟨i4, e4⟩ := is_v hg4
  obtain rfl : w4 = (.int i4) := Option.some.inj e4
  obtain ⟨i5, e5⟩ := is_v hgs
  obtain rfl : w5 = (.int i5) := Option.some.inj e5
  obtain ⟨n, o, h1, h2, h3, _, L, rfl, ⟨rfl, N, _⟩, hq⟩ := rm_law l s _ hw tables_1 i0 i1 i2 i3 i4 i5 s.heap s.heap.size (Nat.le_refl _)  p e ha hc hk s m _ below hf ((Spec.applies_iff_loose hf).mp happ).1 ⟨rfl, State.Warmed39.refl s, rfl⟩ trivial
  refine ⟨n, _, h1, h2, h3, hpost _ _ _ _ _ _ ⟨Cond.after_iff.mpr rfl, Cond.after_iff.mpr (eq_i res_at (Term.int_eval (1)) rfl), trivial⟩ ⟨hq.1, hq.2.1, (hq.2.2.sift fun y hy => Or.inr (N y hy)).mono (by decide) (by decide)⟩⟩
theorem main_1_1 : Claimed_1_1 := comes_1 fun _ _ _ _ _ _ h hF => ⟨h.1, hF⟩
theorem main_1_2 : Claimed_1_2 := comes_1 fun _ _ _ _ _ _ h hF => ⟨h.2.1, hF⟩
end Jvm.Pilot.@@N@@
namespace Jvm.Pilot.@@N@@
open Jvm Jvm.ClassFile Sem Op Lib Jvm.Free Jvm.Stand Jvm.Pilot.@@N@@.Jvm.D
/-! MADE BY PROGRAM (witnessworld.py) out of the Statement's table words and the real class files: 10 classes; the members and pool entries that the words name. The judged class is class 1, her method 2. -/
namespace start1
open Jvm.ClassFile
def u (s : String) : CpInfo := .utf8 (stringToUtf16 s)
/-- a pool by its gaps: so many unusable entries, then the entry; so many at the end -/
def gap : Nat → List CpInfo → List CpInfo
  | 0, r => r
  | n + 1, r => .unusable :: gap n r
def poolList (es : List (Nat × CpInfo)) (last : Nat) : List CpInfo := es.foldr (fun e r => gap e.1 (e.2 :: r)) (gap last [])
def pool (es : List (Nat × CpInfo)) (last : Nat) : Array CpInfo := ⟨poolList es last⟩
def fileOf (pool : Array CpInfo) (this : Nat) (attrs : Array Attribute := #[]) (ms : Array MethodInfo := #[]) (fl : Nat := 33) (sup : Nat := 0) (ifs : Array Nat := #[]) (fds : Array FieldInfo := #[]) : ClassFile where
  minorVersion := 0
  majorVersion := 65
  constantPool := pool
  accessFlags := fl
  thisClass := this
  superClass := sup
  interfaces := ifs
  fields := fds
  methods := ms
  attributes := attrs
def plain (name : String) (sup : Option ClassId) : Class where
  name := name
  kind := .ordinary
  loader := none
  accessFlags := 33
  super := sup
  interfaces := #[]
  cf := none
  fields := #[]
  methods := #[]
  instanceTypes := #[]
  staticTypes := #[]
  resolved := #[]
  callSites := []
  init := .initialized
  statics := none
  mirror := none

def pool0 : Array CpInfo := pool [(5, u "<init>"), (0, u "()V"), (1, .class_ 10), (1, u "java/lang/Object")] 113

def k0c0 : Code := { maxStack := 0, maxLocals := 1, code := object_method_1_code, exceptionTable := #[], attributes := #[] }
def k0m0 : Method := { name := "<init>", desc := "()V", sig := { parameters := [], returnType := none }, accessFlags := 1, code := some k0c0 }
/-- java/lang/Object -/
def k0 : Class := { plain "java/lang/Object" none with
  accessFlags := 33
  interfaces := #[]
  cf := some (fileOf pool0 8 #[] #[{ accessFlags := 1, nameIndex := 5, descriptorIndex := 6, attributes := #[] }] 33 0 #[] #[])
  fields := #[]
  methods := #[k0m0]
  instanceTypes := #[]
  staticTypes := #[]
  resolved := Array.replicate 124 none
  statics := none }

def pool1 : Array CpInfo := pool [(2, .class_ 4), (1, u "java/lang/Object"), (0, u "<init>"), (0, u "()V"), (0, .methodref 8 9), (0, .class_ 10), (0, .nameAndType 11 12), (0, u "com/example/tidewater/tidewater/StreamRow"), (0, u "setNull"), (0, u "(I)V"), (0, .methodref 8 14), (0, .nameAndType 15 16), (0, u "set"), (0, u "(III)V"), (0, .methodref 8 18), (0, .nameAndType 5 19), (0, u "([BI)V"), (0, .integer 2147483647), (0, .methodref 22 23), (0, .class_ 24), (0, .nameAndType 25 26), (0, u "com/example/tidewater/tidewater/StreamRowBytesPinLaw"), (0, u "apply"), (0, u "(Lcom/example/tidewater/tidewater/StreamRow;IZII)V"), (0, .methodref 8 28), (0, .nameAndType 29 30), (0, u "bytes"), (0, u "(I)[B"), (3, u "law"), (0, u "(IIIIII)Z")] 4

def k1m0 : Method := { name := "<init>", desc := "()V", sig := { parameters := [], returnType := none }, accessFlags := 1, code := none }
def k1c1 : Code := { maxStack := 4, maxLocals := 5, code := method_2_code, exceptionTable := #[], attributes := #[] }
def k1m1 : Method := { name := "apply", desc := "(Lcom/example/tidewater/tidewater/StreamRow;IZII)V", sig := { parameters := [(.object "com/example/tidewater/tidewater/StreamRow"), .int, .boolean, .int, .int], returnType := none }, accessFlags := 10, code := some k1c1 }
def k1c2 : Code := { maxStack := 5, maxLocals := 20, code := code, exceptionTable := #[], attributes := #[] }
def k1m2 : Method := { name := "law", desc := "(IIIIII)Z", sig := { parameters := [.int, .int, .int, .int, .int, .int], returnType := some .boolean }, accessFlags := 9, code := some k1c2 }
/-- com/example/tidewater/tidewater/StreamRowBytesPinLaw -/
def k1 : Class := { plain "com/example/tidewater/tidewater/StreamRowBytesPinLaw" (some 0) with
  accessFlags := 49
  interfaces := #[]
  cf := some (fileOf pool1 22 #[] #[{ accessFlags := 1, nameIndex := 5, descriptorIndex := 6, attributes := #[] }, { accessFlags := 10, nameIndex := 25, descriptorIndex := 26, attributes := #[] }, { accessFlags := 9, nameIndex := 34, descriptorIndex := 35, attributes := #[] }] 49 2 #[] #[])
  fields := #[]
  methods := #[k1m0, k1m1, k1m2]
  instanceTypes := #[]
  staticTypes := #[]
  resolved := Array.replicate 40 none
  statics := none }

def pool2 : Array CpInfo := pool [(1, .class_ 2), (0, u "com/example/tidewater/tidewater/format/Row"), (0, .class_ 4), (0, u "java/lang/Object")] 9

/-- com/example/tidewater/tidewater/format/Row -/
def k2 : Class := { plain "com/example/tidewater/tidewater/format/Row" (some 0) with
  accessFlags := 1537
  interfaces := #[]
  cf := some (fileOf pool2 1 #[] #[] 1537 3 #[] #[])
  fields := #[]
  methods := #[]
  instanceTypes := #[]
  staticTypes := #[]
  resolved := Array.replicate 14 none
  statics := none }

def pool3 : Array CpInfo := pool [(1, .methodref 2 3), (0, .class_ 4), (0, .nameAndType 5 6), (0, u "java/lang/Object"), (0, u "<init>"), (0, u "()V"), (0, .fieldref 8 9), (0, .class_ 10), (0, .nameAndType 11 12), (0, u "com/example/tidewater/tidewater/StreamRow"), (0, u "message"), (0, u "[B"), (0, .fieldref 8 14), (0, .nameAndType 15 16), (0, u "starts"), (0, u "[I"), (0, .fieldref 8 18), (0, .nameAndType 19 16), (0, u "ends"), (2, u "setNull"), (0, u "(I)V"), (2, u "set"), (0, u "(III)V"), (21, .class_ 50), (0, u "com/example/tidewater/tidewater/format/Row"), (0, u "([BI)V"), (12, u "bytes"), (0, u "(I)[B")] 8

def k3c0 : Code := { maxStack := 2, maxLocals := 3, code := prog_11_method_1_code, exceptionTable := #[], attributes := #[] }
def k3m0 : Method := { name := "<init>", desc := "([BI)V", sig := { parameters := [(.array .byte), .int], returnType := none }, accessFlags := 0, code := some k3c0 }
def k3c1 : Code := { maxStack := 3, maxLocals := 2, code := prog_11_method_2_code, exceptionTable := #[], attributes := #[] }
def k3m1 : Method := { name := "setNull", desc := "(I)V", sig := { parameters := [.int], returnType := none }, accessFlags := 0, code := some k3c1 }
def k3c2 : Code := { maxStack := 3, maxLocals := 4, code := prog_11_method_3_code, exceptionTable := #[], attributes := #[] }
def k3m2 : Method := { name := "set", desc := "(III)V", sig := { parameters := [.int, .int, .int], returnType := none }, accessFlags := 0, code := some k3c2 }
def k3c3 : Code := { maxStack := 2, maxLocals := 2, code := prog_11_method_9_code, exceptionTable := #[], attributes := #[] }
def k3m3 : Method := { name := "bytes", desc := "(I)[B", sig := { parameters := [.int], returnType := some (.array .byte) }, accessFlags := 1, code := some k3c3 }
/-- com/example/tidewater/tidewater/StreamRow -/
def k3 : Class := { plain "com/example/tidewater/tidewater/StreamRow" (some 0) with
  accessFlags := 49
  interfaces := #[2]
  cf := some (fileOf pool3 8 #[] #[{ accessFlags := 0, nameIndex := 5, descriptorIndex := 51, attributes := #[] }, { accessFlags := 0, nameIndex := 22, descriptorIndex := 23, attributes := #[] }, { accessFlags := 0, nameIndex := 26, descriptorIndex := 27, attributes := #[] }, { accessFlags := 1, nameIndex := 64, descriptorIndex := 65, attributes := #[] }] 49 2 #[49] #[{ accessFlags := 18, nameIndex := 11, descriptorIndex := 12, attributes := #[] }, { accessFlags := 18, nameIndex := 15, descriptorIndex := 16, attributes := #[] }, { accessFlags := 18, nameIndex := 19, descriptorIndex := 16, attributes := #[] }])
  fields := #[{ name := "message", type := (.array .byte), accessFlags := 18, slot := 0, constantValue := 0 }, { name := "starts", type := (.array .int), accessFlags := 18, slot := 1, constantValue := 0 }, { name := "ends", type := (.array .int), accessFlags := 18, slot := 2, constantValue := 0 }]
  methods := #[k3m0, k3m1, k3m2, k3m3]
  instanceTypes := #[(.array .byte), (.array .int), (.array .int)]
  staticTypes := #[]
  resolved := Array.replicate 74 none
  statics := none }

def pool4 : Array CpInfo := pool [(1, u "java/lang/Cloneable"), (0, .class_ 1), (0, u "java/lang/Object"), (0, .class_ 3)] 3

/-- java/lang/Cloneable -/
def k4 : Class := { plain "java/lang/Cloneable" (some 0) with
  accessFlags := 1537
  interfaces := #[]
  cf := some (fileOf pool4 2 #[] #[] 1537 4 #[] #[])
  fields := #[]
  methods := #[]
  instanceTypes := #[]
  staticTypes := #[]
  resolved := Array.replicate 8 none
  statics := none }

def pool5 : Array CpInfo := pool [(1, u "java/io/Serializable"), (0, .class_ 1), (0, u "java/lang/Object"), (0, .class_ 3)] 3

/-- java/io/Serializable -/
def k5 : Class := { plain "java/io/Serializable" (some 0) with
  accessFlags := 1537
  interfaces := #[]
  cf := some (fileOf pool5 2 #[] #[] 1537 4 #[] #[])
  fields := #[]
  methods := #[]
  instanceTypes := #[]
  staticTypes := #[]
  resolved := Array.replicate 8 none
  statics := none }

/-- the primitive byte -/
def k6 : Class := { plain "byte" none with kind := .primitive 'B', accessFlags := 0x411 }
/-- [B -/
def k7 : Class := { plain "[B" (some 0) with kind := .array 6 .byte, interfaces := #[4, 5], accessFlags := 1041 }

/-- the primitive int -/
def k8 : Class := { plain "int" none with kind := .primitive 'I', accessFlags := 0x411 }
/-- [I -/
def k9 : Class := { plain "[I" (some 0) with kind := .array 8 .int, interfaces := #[4, 5], accessFlags := 1041 }

def heap : Heap := #[]
def classes : Array Class := #[k0, k1, k2, k3, k4, k5, k6, k7, k8, k9]
def interned : List (Array UInt16 × Addr) := []
def slotsUsed : Nat := 0
def theMethod : MethodId := ⟨1, 2⟩
def args0 : Array Value := #[.int 1, .int 2, .int 3, .int 4, .int 5, .int 6]
def aboutOver (below : List Frame) : State where
  vm := { classes := classes, interned := interned.toArray }
  heap := heap
  slotsUsed := slotsUsed
  threads := #[{ frames := .invoking theMethod args0 :: below }]
def below0 : List Frame := [.native { method := ⟨0, 0⟩, args := #[] }]
def about1 : State := aboutOver below0
def p0 : Program := .bare "" "" ""
def e0 : Env := launch0.env 0 0 0
theorem w_frames : about1.frames = Frame.invoking theMethod args0 :: below0 := rfl
set_option maxRecDepth 65536 in
theorem w_args : argsFit about1.vm theMethod args0 = true := by decide +kernel
set_option maxRecDepth 65536 in
theorem w_heap : heapFits about1 = true := by decide +kernel
set_option maxRecDepth 65536 in
theorem w_runnable : about1.curStatus? = some .runnable := by decide +kernel
set_option maxRecDepth 65536 in
theorem w_alone : about1.alone = true := by decide +kernel
set_option maxRecDepth 65536 in
theorem w_named : about1.methodNamed? x = some theMethod := by decide +kernel
set_option maxRecDepth 65536 in
theorem w_hears : about1.hears theMethod below0 = true := by decide +kernel
set_option maxRecDepth 65536 in
theorem w_ripe : about1.ripe theMethod args0 below0 = true := by decide +kernel
theorem w_running : about1.status = .running := rfl
set_option maxRecDepth 65536 in
theorem w_room : about1.hasRoom e0.platform room_1 = true :=
  launch0.hasRoom_least _ room_1 (by decide +kernel) (by decide +kernel) (by decide +kernel) (by decide +kernel) (by decide +kernel) (by decide +kernel)
theorem allAtoms_all (ts : List Jvm.Cond) (a : Array Jvm.Value) (st : Jvm.State) : (allAtoms ts).before a st = ts.all (fun c => c.before a st) := by
  induction ts with
  | nil => rfl
  | cons c t ih =>
    show (Jvm.Cond.and c (allAtoms t)).before a st = _
    rw [Jvm.Cond.before_and, ih, List.all_cons]
def words1 : List Jvm.Cond := Jvm.Cond.code x code maxLocals ret :: tables_1
/-- a 'code' word, met by the world's own term for the bytes: nothing is compared byte by byte -/
theorem code_word {y : MethodName} {bytes : ByteArray} {mx : Nat} {rt : Option FieldType} {a : Array Value} {s : State} {m : MethodId} {meth : Method} {c : Code} (h1 : s.methodNamed? y = some m) (h2 : s.vm.method? m = some meth) (h3 : meth.code = some c) (h4 : c.code = bytes)
    (h5 : (c.maxLocals == mx && c.exceptionTable.isEmpty && decide (c.maxStack ≤ mostOperands) && decide (meth.sig.returnType = rt) && !meth.locks && decide (parseMethodDescriptor y.desc = some meth.sig)) = true) : (Jvm.Cond.code y bytes mx rt).before a s = true := by
  simp only [Bool.and_eq_true, beq_iff_eq, Bool.not_eq_true', decide_eq_true_eq] at h5
  obtain ⟨⟨⟨⟨⟨g1, g2⟩, g3⟩, g4⟩, g5⟩, g6⟩ := h5
  simp [Cond.before, Cond.holds, Cond.value, h1, h2, h3, h4, g1, g2, g3, g4, g5, g6]
def isCode : Jvm.Cond → Bool
  | .code _ _ _ _ => true
  | _ => false
theorem all_split {L : List Jvm.Cond} {P : Jvm.Cond → Bool} (h1 : L.all (fun c => isCode c || P c) = true) (h2 : ∀ c ∈ L.filter isCode, P c = true) : L.all P = true := by
  refine List.all_eq_true.mpr fun c hc => ?_
  have h := List.all_eq_true.mp h1 c hc
  rcases Bool.eq_false_or_eq_true (isCode c) with hi | hi
  · exact h2 c (List.mem_filter.mpr ⟨hc, hi⟩)
  · simpa [hi] using h
set_option maxRecDepth 65536 in
theorem w_c0 : (Jvm.Cond.code x code maxLocals ret).before args0 about1 = true := code_word (m := ⟨1, 2⟩) (meth := k1m2) (c := k1c2) (by decide +kernel) rfl rfl rfl (by decide +kernel)
set_option maxRecDepth 65536 in
theorem w_c1 : (Jvm.Cond.code ({ cls := "com/example/tidewater/tidewater/StreamRow", name := "<init>", desc := "([BI)V" } : Jvm.MethodName) prog_11_method_1_code (3 : Nat) (Option.none : Option Jvm.ClassFile.FieldType)).before args0 about1 = true := code_word (m := ⟨3, 0⟩) (meth := k3m0) (c := k3c0) (by decide +kernel) rfl rfl rfl (by decide +kernel)
set_option maxRecDepth 65536 in
theorem w_c2 : (Jvm.Cond.code ({ cls := "java/lang/Object", name := "<init>", desc := "()V" } : Jvm.MethodName) object_method_1_code (1 : Nat) (Option.none : Option Jvm.ClassFile.FieldType)).before args0 about1 = true := code_word (m := ⟨0, 0⟩) (meth := k0m0) (c := k0c0) (by decide +kernel) rfl rfl rfl (by decide +kernel)
set_option maxRecDepth 65536 in
theorem w_c3 : (Jvm.Cond.code ({ cls := "com/example/tidewater/tidewater/StreamRowBytesPinLaw", name := "apply", desc := "(Lcom/example/tidewater/tidewater/StreamRow;IZII)V" } : Jvm.MethodName) method_2_code (5 : Nat) (Option.none : Option Jvm.ClassFile.FieldType)).before args0 about1 = true := code_word (m := ⟨1, 1⟩) (meth := k1m1) (c := k1c1) (by decide +kernel) rfl rfl rfl (by decide +kernel)
set_option maxRecDepth 65536 in
theorem w_c4 : (Jvm.Cond.code ({ cls := "com/example/tidewater/tidewater/StreamRow", name := "setNull", desc := "(I)V" } : Jvm.MethodName) prog_11_method_2_code (2 : Nat) (Option.none : Option Jvm.ClassFile.FieldType)).before args0 about1 = true := code_word (m := ⟨3, 1⟩) (meth := k3m1) (c := k3c1) (by decide +kernel) rfl rfl rfl (by decide +kernel)
set_option maxRecDepth 65536 in
theorem w_c5 : (Jvm.Cond.code ({ cls := "com/example/tidewater/tidewater/StreamRow", name := "bytes", desc := "(I)[B" } : Jvm.MethodName) prog_11_method_9_code (2 : Nat) (Option.some (Jvm.ClassFile.FieldType.array Jvm.ClassFile.FieldType.byte))).before args0 about1 = true := code_word (m := ⟨3, 3⟩) (meth := k3m3) (c := k3c3) (by decide +kernel) rfl rfl rfl (by decide +kernel)
set_option maxRecDepth 65536 in
theorem w_c6 : (Jvm.Cond.code ({ cls := "com/example/tidewater/tidewater/StreamRow", name := "set", desc := "(III)V" } : Jvm.MethodName) prog_11_method_3_code (4 : Nat) (Option.none : Option Jvm.ClassFile.FieldType)).before args0 about1 = true := code_word (m := ⟨3, 2⟩) (meth := k3m2) (c := k3c2) (by decide +kernel) rfl rfl rfl (by decide +kernel)
def codes1 : List Jvm.Cond := [Jvm.Cond.code x code maxLocals ret, Jvm.Cond.code ({ cls := "com/example/tidewater/tidewater/StreamRow", name := "<init>", desc := "([BI)V" } : Jvm.MethodName) prog_11_method_1_code (3 : Nat) (Option.none : Option Jvm.ClassFile.FieldType), Jvm.Cond.code ({ cls := "java/lang/Object", name := "<init>", desc := "()V" } : Jvm.MethodName) object_method_1_code (1 : Nat) (Option.none : Option Jvm.ClassFile.FieldType), Jvm.Cond.code ({ cls := "com/example/tidewater/tidewater/StreamRowBytesPinLaw", name := "apply", desc := "(Lcom/example/tidewater/tidewater/StreamRow;IZII)V" } : Jvm.MethodName) method_2_code (5 : Nat) (Option.none : Option Jvm.ClassFile.FieldType), Jvm.Cond.code ({ cls := "com/example/tidewater/tidewater/StreamRow", name := "setNull", desc := "(I)V" } : Jvm.MethodName) prog_11_method_2_code (2 : Nat) (Option.none : Option Jvm.ClassFile.FieldType), Jvm.Cond.code ({ cls := "com/example/tidewater/tidewater/StreamRow", name := "bytes", desc := "(I)[B" } : Jvm.MethodName) prog_11_method_9_code (2 : Nat) (Option.some (Jvm.ClassFile.FieldType.array Jvm.ClassFile.FieldType.byte)), Jvm.Cond.code ({ cls := "com/example/tidewater/tidewater/StreamRow", name := "set", desc := "(III)V" } : Jvm.MethodName) prog_11_method_3_code (4 : Nat) (Option.none : Option Jvm.ClassFile.FieldType)]
set_option maxRecDepth 65536 in
theorem codes_eq : words1.filter isCode = codes1 := rfl
theorem w_codes : ∀ c ∈ words1.filter isCode, c.before args0 about1 = true := by
  rw [codes_eq]
  intro c hc
  simp only [codes1, List.mem_cons, List.not_mem_nil, or_false] at hc
  rcases hc with rfl | rfl | rfl | rfl | rfl | rfl | rfl
  · exact w_c0
  · exact w_c1
  · exact w_c2
  · exact w_c3
  · exact w_c4
  · exact w_c5
  · exact w_c6
set_option maxRecDepth 65536 in
theorem w_t1 : (words1.take 24).all (fun c => isCode c || c.before args0 about1) = true := by decide +kernel
set_option maxRecDepth 65536 in
theorem w_t2 : (words1.drop 24).all (fun c => isCode c || c.before args0 about1) = true := by decide +kernel
theorem w_tables : (allAtoms (Jvm.Cond.code x code maxLocals ret :: tables_1)).before args0 about1 = true := by
  rw [allAtoms_all]
  show words1.all (fun c => c.before args0 about1) = true
  refine all_split ?_ w_codes
  rw [← List.take_append_drop 24 words1, List.all_append, w_t1, w_t2]
  rfl
set_option maxRecDepth 65536 in
theorem w_case : (Jvm.Cond.and given_1 narrow_1).before args0 about1 = true := by decide +kernel
theorem w_applies : (headSpec (Jvm.Cond.code x code maxLocals ret :: tables_1) room_1).applies x e0.platform about1 = true :=
  (Spec.applies_iff w_frames).mpr ⟨w_running, w_runnable, w_alone, w_named, w_hears, w_ripe, w_room, w_tables⟩
theorem atStart : AtStart classFile x code maxLocals ret World_1 tables_1 room_1 Calls_1 rest_1 Pre_1 launch0 p0 e0 about1 theMethod args0 below0 :=
  ⟨lists_1, trivial, launch0.admits_env _ _ _, launch0.least_env, fairChoices_fair.cas, fairChoices_fair.clock, w_frames, w_args, w_heap, w_applies, trivial, trivial, w_case⟩
end start1
theorem witness_1 : WitnessClaimed_1 := ⟨start1.p0, start1.e0, start1.about1, start1.theMethod, start1.args0, start1.below0, start1.atStart⟩
end Jvm.Pilot.@@N@@
