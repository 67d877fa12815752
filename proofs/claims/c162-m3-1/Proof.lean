import JvmDerived
import JvmDerived.Pilot.@@N@@Statement
import JvmDerived.Pilot.@@N@@Code
set_option linter.unusedVariables false
set_option linter.unusedSimpArgs false
@@BLOCK:NumsL.lean.txt@@
namespace Jvm.OwnWalk
open Sem ClassFile Op Lib Jvm.Stand Jvm.Free Jvm.LawKit Jvm.RoadKit
section K
variable {p : Program} {l : Launch} {e : Env} {R : Room} {s : State} {m : MethodId} {args : Array Value} {below : List Frame} {meth : Method} {c : Code} {T : State} {locs : List Loc} {cells slots : Nat} {Z : State} {a0 : Array Value} {h : Heap} {P : Outcome → State → Prop} {pc : Nat} {Ls : Array Slot} {rest : List Value}
/-- from T with g on top the invocation ends, and P holds of its end -/
def Wout (p : Program) (e : Env) (below : List Frame) (P : Outcome → State → Prop) (T : State) (g : JFrame) : Prop :=
  ∃ U o, Steps p.tables e below (T.setTop g) U ∧ U.status = .running ∧ Ended U below o ∧ P o U
theorem Wout.of {T T' : State} {g g' : JFrame} (st : ∀ t, Steps p.tables e below (T'.setTop g') t → Steps p.tables e below (T.setTop g) t) (hr : Wout p e below P T' g') : Wout p e below P T g := by
  obtain ⟨U, o, h1, h2⟩ := hr
  exact ⟨U, o, st U h1, h2⟩
theorem Wout.tr {T T' : State} {g g' : JFrame} (st : Steps p.tables e below (T.setTop g) (T'.setTop g')) (hr : Wout p e below P T' g') : Wout p e below P T g := by
  obtain ⟨U, o, h1, h2⟩ := hr
  exact ⟨U, o, st.trans h1, h2⟩
theorem Wout.cast {T : State} {g g' : JFrame} (q : g = g') (hr : Wout p e below P T g') : Wout p e below P T g := q ▸ hr
/-- the end of an invocation that returned: Q of its value, the heap and the written places; the frame -/
def Pst (s : State) (Q : Option Value → Heap → List Loc → Prop) (C S : Nat) (o : Outcome) (U : State) : Prop := ∃ v L, o = .returned v ∧ Q v U.heap L ∧ FrameEnd s o U L C S
abbrev Met (l : Launch) (Z : State) (y : MethodName) (bytes : ByteArray) (maxL : Nat) (ret : Option FieldType) (ws : List Jvm.Cond) (rm : Room) (as' : Array Value) (h0 : Heap) (Q : Option Value → Heap → List Loc → Prop) : Prop :=
  MetFree l y (head1 (Jvm.Cond.code y bytes maxL ret :: ws) rm) (fun a U => a = as' ∧ Z.Warmed39 U.vm ∧ U.heap = h0) (fun _ _ _ _ _ => True) (fun _ U o U' => ∃ v L, o = .returned v ∧ Q v U'.heap L ∧ FrameEnd U o U' L rm.cells rm.slots)
theorem Met.start {y : MethodName} {bytes : ByteArray} {maxL : Nat} {ret : Option FieldType} {ws : List Jvm.Cond} {rm : Room} {as' : Array Value} {h0 : Heap} {Q : Option Value → Heap → List Loc → Prop} (hpl : plainFor y = true)
    (H : ∀ (p : Program) (e : Env) (s : State) (m : MethodId) (below : List Frame) (meth : Method) (c : Code) (T : State), Stand p l e rm s m as' below meth c T [] 0 0 → p.tables.exec = Jvm.exec → c.code = bytes → c.maxLocals = maxL → s.vm.findClass y.cls = some m.cls → meth.name = y.name → meth.sig.returnType = ret → meth.locks = false → Z.Warmed39 s.vm → T.heap = h0 → Wout p e below (Pst s Q rm.cells rm.slots) T (entryFrame m as' maxL)) :
    Met l Z y bytes maxL ret ws rm as' h0 Q := by
  refine MetFree.of_bodySF hpl hisR ?_
  intro p e s m args below meth c s₁ Bd hml0 hP hK
  obtain ⟨rfl, hZ, hh⟩ := hP
  exact H p e s m below meth c s₁ (Stand.of_body Bd) Bd.exec Bd.bytes hml0 (findClass_of_methodNamed Bd.named) (name_of_methodNamed Bd.named Bd.method).1 Bd.returns Bd.notSynchronized hZ (by rw [← hh, Bd.state]; rfl)
/-! what a branch says -/
def cI : ClassFile.Cond → Int32 → Prop
  | .eq, x => x = 0 | .ne, x => ¬ x = 0 | .lt, x => x < 0 | .ge, x => ¬ x < 0 | .gt, x => 0 < x | .le, x => ¬ 0 < x
def cII : ClassFile.Cond → Int32 → Int32 → Prop
  | .eq, x, y => x = y | .ne, x, y => ¬ x = y | .lt, x, y => x < y | .ge, x, y => ¬ x < y | .gt, x, y => y < x | .le, x, y => ¬ y < x
def cLL : ClassFile.Cond → Int64 → Int64 → Prop
  | .eq, x, y => x = y | .ne, x, y => ¬ x = y | .lt, x, y => x < y | .ge, x, y => ¬ x < y | .gt, x, y => y < x | .le, x, y => ¬ y < x
def cNeg : ClassFile.Cond → ClassFile.Cond
  | .eq => .ne | .ne => .eq | .lt => .ge | .ge => .lt | .gt => .le | .le => .gt
theorem cI_t : ∀ {cd : ClassFile.Cond} {x : Int32}, cI cd x → ifCond.holds cd x = true
  | .eq, _, q => XT.i0_eq_t q
  | .ne, _, q => XT.i0_ne_t q
  | .lt, _, q => XT.i0_lt_t q
  | .ge, _, q => XT.i0_ge_t q
  | .gt, _, q => XT.i0_gt_t q
  | .le, _, q => XT.i0_le_t q
theorem cI_f : ∀ {cd : ClassFile.Cond} {x : Int32}, cI (cNeg cd) x → ifCond.holds cd x = false
  | .eq, _, q => XT.i0_eq_f q
  | .ne, _, q => XT.i0_ne_f q
  | .lt, _, q => XT.i0_lt_f q
  | .ge, _, q => XT.i0_ge_f q
  | .gt, _, q => XT.i0_gt_f q
  | .le, _, q => XT.i0_le_f q
theorem cII_t : ∀ {cd : ClassFile.Cond} {x y : Int32}, cII cd x y → if_icmp.holds cd x y = true
  | .eq, _, _, q => XT.ii_eq_t q
  | .ne, _, _, q => XT.ii_ne_t q
  | .lt, _, _, q => XT.ii_lt_t q
  | .ge, _, _, q => XT.ii_ge_t q
  | .gt, _, _, q => XT.ii_gt_t q
  | .le, _, _, q => XT.ii_le_t q
theorem cII_f : ∀ {cd : ClassFile.Cond} {x y : Int32}, cII (cNeg cd) x y → if_icmp.holds cd x y = false
  | .eq, _, _, q => XT.ii_eq_f q
  | .ne, _, _, q => XT.ii_ne_f q
  | .lt, _, _, q => XT.ii_lt_f q
  | .ge, _, _, q => XT.ii_ge_f q
  | .gt, _, _, q => XT.ii_gt_f q
  | .le, _, _, q => XT.ii_le_f q
theorem cLL_t : ∀ {cd : ClassFile.Cond} {x y : Int64}, cLL cd x y → ifCond.holds cd (XT.cmpL x y) = true
  | .eq, _, _, q => XT.ll_eq_t q
  | .ne, _, _, q => XT.ll_ne_t q
  | .lt, _, _, q => XT.ll_lt_t q
  | .ge, _, _, q => XT.ll_ge_t q
  | .gt, _, _, q => XT.ll_gt_t q
  | .le, _, _, q => XT.ll_le_t q
theorem cLL_f : ∀ {cd : ClassFile.Cond} {x y : Int64}, cLL (cNeg cd) x y → ifCond.holds cd (XT.cmpL x y) = false
  | .eq, _, _, q => XT.ll_eq_f q
  | .ne, _, _, q => XT.ll_ne_f q
  | .lt, _, _, q => XT.ll_lt_f q
  | .ge, _, _, q => XT.ll_ge_f q
  | .gt, _, _, q => XT.ll_gt_f q
  | .le, _, _, q => XT.ll_le_f q
theorem cI_em (cd : ClassFile.Cond) (x : Int32) : cI cd x ∨ cI (cNeg cd) x := by
  cases cd <;> simp only [cI, cNeg] <;> first | exact Classical.em _ | exact (Classical.em _).symm
theorem cII_em (cd : ClassFile.Cond) (x y : Int32) : cII cd x y ∨ cII (cNeg cd) x y := by
  cases cd <;> simp only [cII, cNeg] <;> first | exact Classical.em _ | exact (Classical.em _).symm
theorem cLL_em (cd : ClassFile.Cond) (x y : Int64) : cLL cd x y ∨ cLL (cNeg cd) x y := by
  cases cd <;> simp only [cLL, cNeg] <;> first | exact Classical.em _ | exact (Classical.em _).symm

theorem o_iload (X : Stand p l e R s m args below meth c T locs cells slots) (hx : p.tables.exec = Jvm.exec) (n : Nat) {k : Nat} {v : Int32} (hd : decode c.code pc = .ok (.iload k, 2)) (hl : Ls[k]? = some (.val (.int v))) (hp : pc + 2 = n) (hr : Wout p e below P T (mkF m n Ls (.int v :: rest))) : Wout p e below P T (mkF m pc Ls (rest)) := by
  subst hp
  exact Wout.of (fun _ ht => XS.iload X.here hx rfl hd hl ht) hr
theorem o_iloadN (X : Stand p l e R s m args below meth c T locs cells slots) (hx : p.tables.exec = Jvm.exec) (n : Nat) {k : Fin 4} {v : Int32} (hd : decode c.code pc = .ok (.iload_n k, 1)) (hl : Ls[k.val]? = some (.val (.int v))) (hp : pc + 1 = n) (hr : Wout p e below P T (mkF m n Ls (.int v :: rest))) : Wout p e below P T (mkF m pc Ls (rest)) := by
  subst hp
  exact Wout.of (fun _ ht => XS.iloadN X.here hx rfl hd hl ht) hr
theorem o_istore (X : Stand p l e R s m args below meth c T locs cells slots) (hx : p.tables.exec = Jvm.exec) (n : Nat) {k : Nat} {v : Int32} {Ls' : Array Slot} (hd : decode c.code pc = .ok (.istore k, 2)) (hl : storeLocals Ls k (.int v) = some Ls') (hp : pc + 2 = n) (hr : Wout p e below P T (mkF m n Ls' (rest))) : Wout p e below P T (mkF m pc Ls (.int v :: rest)) := by
  subst hp
  exact Wout.of (fun _ ht => XS.istore X.here hx rfl hd rfl hl ht) hr
theorem o_istoreN (X : Stand p l e R s m args below meth c T locs cells slots) (hx : p.tables.exec = Jvm.exec) (n : Nat) {k : Fin 4} {v : Int32} {Ls' : Array Slot} (hd : decode c.code pc = .ok (.istore_n k, 1)) (hl : storeLocals Ls k.val (.int v) = some Ls') (hp : pc + 1 = n) (hr : Wout p e below P T (mkF m n Ls' (rest))) : Wout p e below P T (mkF m pc Ls (.int v :: rest)) := by
  subst hp
  exact Wout.of (fun _ ht => XS.istoreN X.here hx rfl hd rfl hl ht) hr
theorem o_lload (X : Stand p l e R s m args below meth c T locs cells slots) (hx : p.tables.exec = Jvm.exec) (n : Nat) {k : Nat} {v : Int64} (hd : decode c.code pc = .ok (.lload k, 2)) (hl : Ls[k]? = some (.val (.long v))) (hp : pc + 2 = n) (hr : Wout p e below P T (mkF m n Ls (.long v :: rest))) : Wout p e below P T (mkF m pc Ls (rest)) := by
  subst hp
  exact Wout.of (fun _ ht => XT.lload X.here hx rfl hd hl ht) hr
theorem o_lloadN (X : Stand p l e R s m args below meth c T locs cells slots) (hx : p.tables.exec = Jvm.exec) (n : Nat) {k : Fin 4} {v : Int64} (hd : decode c.code pc = .ok (.lload_n k, 1)) (hl : Ls[k.val]? = some (.val (.long v))) (hp : pc + 1 = n) (hr : Wout p e below P T (mkF m n Ls (.long v :: rest))) : Wout p e below P T (mkF m pc Ls (rest)) := by
  subst hp
  exact Wout.of (fun _ ht => XT.lloadN X.here hx rfl hd hl ht) hr
theorem o_lstore (X : Stand p l e R s m args below meth c T locs cells slots) (hx : p.tables.exec = Jvm.exec) (n : Nat) {k : Nat} {v : Int64} {Ls' : Array Slot} (hd : decode c.code pc = .ok (.lstore k, 2)) (hl : storeLocals Ls k (.long v) = some Ls') (hp : pc + 2 = n) (hr : Wout p e below P T (mkF m n Ls' (rest))) : Wout p e below P T (mkF m pc Ls (.long v :: rest)) := by
  subst hp
  exact Wout.of (fun _ ht => XT.lstore X.here hx rfl hd rfl hl ht) hr
theorem o_lstoreN (X : Stand p l e R s m args below meth c T locs cells slots) (hx : p.tables.exec = Jvm.exec) (n : Nat) {k : Fin 4} {v : Int64} {Ls' : Array Slot} (hd : decode c.code pc = .ok (.lstore_n k, 1)) (hl : storeLocals Ls k.val (.long v) = some Ls') (hp : pc + 1 = n) (hr : Wout p e below P T (mkF m n Ls' (rest))) : Wout p e below P T (mkF m pc Ls (.long v :: rest)) := by
  subst hp
  exact Wout.of (fun _ ht => XT.lstoreN X.here hx rfl hd rfl hl ht) hr
theorem o_aload (X : Stand p l e R s m args below meth c T locs cells slots) (hx : p.tables.exec = Jvm.exec) (n : Nat) {k : Nat} {v : Value} (hd : decode c.code pc = .ok (.aload k, 2)) (hl : Ls[k]? = some (.val v)) (hv : v.isRef = true) (hp : pc + 2 = n) (hr : Wout p e below P T (mkF m n Ls (v :: rest))) : Wout p e below P T (mkF m pc Ls (rest)) := by
  subst hp
  exact Wout.of (fun _ ht => XS.aload X.here hx rfl hd hl hv ht) hr
theorem o_aloadN (X : Stand p l e R s m args below meth c T locs cells slots) (hx : p.tables.exec = Jvm.exec) (n : Nat) {k : Fin 4} {v : Value} (hd : decode c.code pc = .ok (.aload_n k, 1)) (hl : Ls[k.val]? = some (.val v)) (hv : v.isRef = true) (hp : pc + 1 = n) (hr : Wout p e below P T (mkF m n Ls (v :: rest))) : Wout p e below P T (mkF m pc Ls (rest)) := by
  subst hp
  exact Wout.of (fun _ ht => XS.aloadN X.here hx rfl hd hl hv ht) hr
theorem o_astore (X : Stand p l e R s m args below meth c T locs cells slots) (hx : p.tables.exec = Jvm.exec) (n : Nat) {k : Nat} {v : Value} {Ls' : Array Slot} (hd : decode c.code pc = .ok (.astore k, 2)) (hv : v.isRef = true) (hl : storeLocals Ls k v = some Ls') (hp : pc + 2 = n) (hr : Wout p e below P T (mkF m n Ls' (rest))) : Wout p e below P T (mkF m pc Ls (v :: rest)) := by
  subst hp
  exact Wout.of (fun _ ht => XS.astore X.here hx rfl hd rfl hv hl ht) hr
theorem o_astoreN (X : Stand p l e R s m args below meth c T locs cells slots) (hx : p.tables.exec = Jvm.exec) (n : Nat) {k : Fin 4} {v : Value} {Ls' : Array Slot} (hd : decode c.code pc = .ok (.astore_n k, 1)) (hv : v.isRef = true) (hl : storeLocals Ls k.val v = some Ls') (hp : pc + 1 = n) (hr : Wout p e below P T (mkF m n Ls' (rest))) : Wout p e below P T (mkF m pc Ls (v :: rest)) := by
  subst hp
  exact Wout.of (fun _ ht => XS.astoreN X.here hx rfl hd rfl hv hl ht) hr
theorem o_iconst (X : Stand p l e R s m args below meth c T locs cells slots) (hx : p.tables.exec = Jvm.exec) (n : Nat) {i : Int} (v : Int32) (hd : decode c.code pc = .ok (.iconst i, 1)) (hv : Int32.ofInt i = v) (hp : pc + 1 = n) (hr : Wout p e below P T (mkF m n Ls (.int v :: rest))) : Wout p e below P T (mkF m pc Ls (rest)) := by
  subst hp
  exact Wout.of (fun _ ht => XT.iconstV X.here hx rfl v hd hv ht) hr
theorem o_bipush (X : Stand p l e R s m args below meth c T locs cells slots) (hx : p.tables.exec = Jvm.exec) (n : Nat) {i : Int} (v : Int32) (hd : decode c.code pc = .ok (.bipush i, 2)) (hv : (Int8.ofInt i).toInt32 = v) (hp : pc + 2 = n) (hr : Wout p e below P T (mkF m n Ls (.int v :: rest))) : Wout p e below P T (mkF m pc Ls (rest)) := by
  subst hp
  exact Wout.of (fun _ ht => XT.bipushV X.here hx rfl v hd hv ht) hr
theorem o_sipush (X : Stand p l e R s m args below meth c T locs cells slots) (hx : p.tables.exec = Jvm.exec) (n : Nat) {i : Int} (v : Int32) (hd : decode c.code pc = .ok (.sipush i, 3)) (hv : (Int16.ofInt i).toInt32 = v) (hp : pc + 3 = n) (hr : Wout p e below P T (mkF m n Ls (.int v :: rest))) : Wout p e below P T (mkF m pc Ls (rest)) := by
  subst hp
  exact Wout.of (fun _ ht => XT.sipushV X.here hx rfl v hd hv ht) hr
theorem o_lconst (X : Stand p l e R s m args below meth c T locs cells slots) (hx : p.tables.exec = Jvm.exec) (n : Nat) {k : Fin 2} (v : Int64) (hd : decode c.code pc = .ok (.lconst k, 1)) (hv : Int64.ofNat k = v) (hp : pc + 1 = n) (hr : Wout p e below P T (mkF m n Ls (.long v :: rest))) : Wout p e below P T (mkF m pc Ls (rest)) := by
  subst hp
  exact Wout.of (fun _ ht => XT.lconstV X.here hx rfl v hd hv ht) hr
theorem o_aconst_null (X : Stand p l e R s m args below meth c T locs cells slots) (hx : p.tables.exec = Jvm.exec) (n : Nat)  (hd : decode c.code pc = .ok (.aconst_null, 1)) (hp : pc + 1 = n) (hr : Wout p e below P T (mkF m n Ls (.null :: rest))) : Wout p e below P T (mkF m pc Ls (rest)) := by
  subst hp
  exact Wout.of (fun _ ht => XS.aconstNull X.here hx rfl hd ht) hr
theorem o_iadd (X : Stand p l e R s m args below meth c T locs cells slots) (hx : p.tables.exec = Jvm.exec) (n : Nat) {x y : Int32} (hd : decode c.code pc = .ok (.iadd, 1)) (hp : pc + 1 = n) (hr : Wout p e below P T (mkF m n Ls (.int (x + y) :: rest))) : Wout p e below P T (mkF m pc Ls (.int y :: .int x :: rest)) := by
  subst hp
  exact Wout.of (fun _ ht => XS.iadd X.here hx rfl hd rfl ht) hr
theorem o_isub (X : Stand p l e R s m args below meth c T locs cells slots) (hx : p.tables.exec = Jvm.exec) (n : Nat) {x y : Int32} (hd : decode c.code pc = .ok (.isub, 1)) (hp : pc + 1 = n) (hr : Wout p e below P T (mkF m n Ls (.int (x - y) :: rest))) : Wout p e below P T (mkF m pc Ls (.int y :: .int x :: rest)) := by
  subst hp
  exact Wout.of (fun _ ht => XS.isub X.here hx rfl hd rfl ht) hr
theorem o_imul (X : Stand p l e R s m args below meth c T locs cells slots) (hx : p.tables.exec = Jvm.exec) (n : Nat) {x y : Int32} (hd : decode c.code pc = .ok (.imul, 1)) (hp : pc + 1 = n) (hr : Wout p e below P T (mkF m n Ls (.int (x * y) :: rest))) : Wout p e below P T (mkF m pc Ls (.int y :: .int x :: rest)) := by
  subst hp
  exact Wout.of (fun _ ht => XS.imul X.here hx rfl hd rfl ht) hr
theorem o_iand (X : Stand p l e R s m args below meth c T locs cells slots) (hx : p.tables.exec = Jvm.exec) (n : Nat) {x y : Int32} (hd : decode c.code pc = .ok (.iand, 1)) (hp : pc + 1 = n) (hr : Wout p e below P T (mkF m n Ls (.int (x &&& y) :: rest))) : Wout p e below P T (mkF m pc Ls (.int y :: .int x :: rest)) := by
  subst hp
  exact Wout.of (fun _ ht => XS.iand X.here hx rfl hd rfl ht) hr
theorem o_ior (X : Stand p l e R s m args below meth c T locs cells slots) (hx : p.tables.exec = Jvm.exec) (n : Nat) {x y : Int32} (hd : decode c.code pc = .ok (.ior, 1)) (hp : pc + 1 = n) (hr : Wout p e below P T (mkF m n Ls (.int (x ||| y) :: rest))) : Wout p e below P T (mkF m pc Ls (.int y :: .int x :: rest)) := by
  subst hp
  exact Wout.of (fun _ ht => XT.ior X.here hx rfl hd rfl ht) hr
theorem o_ixor (X : Stand p l e R s m args below meth c T locs cells slots) (hx : p.tables.exec = Jvm.exec) (n : Nat) {x y : Int32} (hd : decode c.code pc = .ok (.ixor, 1)) (hp : pc + 1 = n) (hr : Wout p e below P T (mkF m n Ls (.int (x ^^^ y) :: rest))) : Wout p e below P T (mkF m pc Ls (.int y :: .int x :: rest)) := by
  subst hp
  exact Wout.of (fun _ ht => XT.ixor X.here hx rfl hd rfl ht) hr
theorem o_ishl (X : Stand p l e R s m args below meth c T locs cells slots) (hx : p.tables.exec = Jvm.exec) (n : Nat) {x y : Int32} (hd : decode c.code pc = .ok (.ishl, 1)) (hp : pc + 1 = n) (hr : Wout p e below P T (mkF m n Ls (.int (x <<< (y &&& 31)) :: rest))) : Wout p e below P T (mkF m pc Ls (.int y :: .int x :: rest)) := by
  subst hp
  exact Wout.of (fun _ ht => XT.ishl X.here hx rfl hd rfl ht) hr
theorem o_ishr (X : Stand p l e R s m args below meth c T locs cells slots) (hx : p.tables.exec = Jvm.exec) (n : Nat) {x y : Int32} (hd : decode c.code pc = .ok (.ishr, 1)) (hp : pc + 1 = n) (hr : Wout p e below P T (mkF m n Ls (.int (x >>> (y &&& 31)) :: rest))) : Wout p e below P T (mkF m pc Ls (.int y :: .int x :: rest)) := by
  subst hp
  exact Wout.of (fun _ ht => XT.ishr X.here hx rfl hd rfl ht) hr
theorem o_iushr (X : Stand p l e R s m args below meth c T locs cells slots) (hx : p.tables.exec = Jvm.exec) (n : Nat) {x y : Int32} (hd : decode c.code pc = .ok (.iushr, 1)) (hp : pc + 1 = n) (hr : Wout p e below P T (mkF m n Ls (.int (XT.ushr x y) :: rest))) : Wout p e below P T (mkF m pc Ls (.int y :: .int x :: rest)) := by
  subst hp
  exact Wout.of (fun _ ht => XT.iushr X.here hx rfl hd rfl ht) hr
theorem o_ladd (X : Stand p l e R s m args below meth c T locs cells slots) (hx : p.tables.exec = Jvm.exec) (n : Nat) {x y : Int64} (hd : decode c.code pc = .ok (.ladd, 1)) (hp : pc + 1 = n) (hr : Wout p e below P T (mkF m n Ls (.long (x + y) :: rest))) : Wout p e below P T (mkF m pc Ls (.long y :: .long x :: rest)) := by
  subst hp
  exact Wout.of (fun _ ht => XT.ladd X.here hx rfl hd rfl ht) hr
theorem o_lsub (X : Stand p l e R s m args below meth c T locs cells slots) (hx : p.tables.exec = Jvm.exec) (n : Nat) {x y : Int64} (hd : decode c.code pc = .ok (.lsub, 1)) (hp : pc + 1 = n) (hr : Wout p e below P T (mkF m n Ls (.long (x - y) :: rest))) : Wout p e below P T (mkF m pc Ls (.long y :: .long x :: rest)) := by
  subst hp
  exact Wout.of (fun _ ht => XT.lsub X.here hx rfl hd rfl ht) hr
theorem o_lmul (X : Stand p l e R s m args below meth c T locs cells slots) (hx : p.tables.exec = Jvm.exec) (n : Nat) {x y : Int64} (hd : decode c.code pc = .ok (.lmul, 1)) (hp : pc + 1 = n) (hr : Wout p e below P T (mkF m n Ls (.long (x * y) :: rest))) : Wout p e below P T (mkF m pc Ls (.long y :: .long x :: rest)) := by
  subst hp
  exact Wout.of (fun _ ht => XT.lmul X.here hx rfl hd rfl ht) hr
theorem o_land (X : Stand p l e R s m args below meth c T locs cells slots) (hx : p.tables.exec = Jvm.exec) (n : Nat) {x y : Int64} (hd : decode c.code pc = .ok (.land, 1)) (hp : pc + 1 = n) (hr : Wout p e below P T (mkF m n Ls (.long (x &&& y) :: rest))) : Wout p e below P T (mkF m pc Ls (.long y :: .long x :: rest)) := by
  subst hp
  exact Wout.of (fun _ ht => XT.land X.here hx rfl hd rfl ht) hr
theorem o_lor (X : Stand p l e R s m args below meth c T locs cells slots) (hx : p.tables.exec = Jvm.exec) (n : Nat) {x y : Int64} (hd : decode c.code pc = .ok (.lor, 1)) (hp : pc + 1 = n) (hr : Wout p e below P T (mkF m n Ls (.long (x ||| y) :: rest))) : Wout p e below P T (mkF m pc Ls (.long y :: .long x :: rest)) := by
  subst hp
  exact Wout.of (fun _ ht => XT.lor X.here hx rfl hd rfl ht) hr
theorem o_lxor (X : Stand p l e R s m args below meth c T locs cells slots) (hx : p.tables.exec = Jvm.exec) (n : Nat) {x y : Int64} (hd : decode c.code pc = .ok (.lxor, 1)) (hp : pc + 1 = n) (hr : Wout p e below P T (mkF m n Ls (.long (x ^^^ y) :: rest))) : Wout p e below P T (mkF m pc Ls (.long y :: .long x :: rest)) := by
  subst hp
  exact Wout.of (fun _ ht => XT.lxor X.here hx rfl hd rfl ht) hr
theorem o_irem (X : Stand p l e R s m args below meth c T locs cells slots) (hx : p.tables.exec = Jvm.exec) (n : Nat) {x y : Int32} (hd : decode c.code pc = .ok (.irem, 1)) (hy : y ≠ 0) (hp : pc + 1 = n) (hr : Wout p e below P T (mkF m n Ls (.int (x % y) :: rest))) : Wout p e below P T (mkF m pc Ls (.int y :: .int x :: rest)) := by
  subst hp
  exact Wout.of (fun _ ht => iremM X hx rfl hd rfl hy ht) hr
theorem o_idiv (X : Stand p l e R s m args below meth c T locs cells slots) (hx : p.tables.exec = Jvm.exec) (n : Nat) {x y : Int32} (hd : decode c.code pc = .ok (.idiv, 1)) (hy : y ≠ 0) (hp : pc + 1 = n) (hr : Wout p e below P T (mkF m n Ls (.int (x / y) :: rest))) : Wout p e below P T (mkF m pc Ls (.int y :: .int x :: rest)) := by
  subst hp
  exact Wout.of (fun _ ht => XS.idiv X.here hx rfl hd rfl hy ht) hr
theorem o_lshl (X : Stand p l e R s m args below meth c T locs cells slots) (hx : p.tables.exec = Jvm.exec) (n : Nat) {x : Int64} {y : Int32} (hd : decode c.code pc = .ok (.lshl, 1)) (hp : pc + 1 = n) (hr : Wout p e below P T (mkF m n Ls (.long (x <<< (y.toInt64 &&& 63)) :: rest))) : Wout p e below P T (mkF m pc Ls (.int y :: .long x :: rest)) := by
  subst hp
  exact Wout.of (fun _ ht => XT.lshl X.here hx rfl hd rfl ht) hr
theorem o_lshr (X : Stand p l e R s m args below meth c T locs cells slots) (hx : p.tables.exec = Jvm.exec) (n : Nat) {x : Int64} {y : Int32} (hd : decode c.code pc = .ok (.lshr, 1)) (hp : pc + 1 = n) (hr : Wout p e below P T (mkF m n Ls (.long (x >>> (y.toInt64 &&& 63)) :: rest))) : Wout p e below P T (mkF m pc Ls (.int y :: .long x :: rest)) := by
  subst hp
  exact Wout.of (fun _ ht => XT.lshr X.here hx rfl hd rfl ht) hr
theorem o_lushr (X : Stand p l e R s m args below meth c T locs cells slots) (hx : p.tables.exec = Jvm.exec) (n : Nat) {x : Int64} {y : Int32} (hd : decode c.code pc = .ok (.lushr, 1)) (hp : pc + 1 = n) (hr : Wout p e below P T (mkF m n Ls (.long (XT.ushrL x y) :: rest))) : Wout p e below P T (mkF m pc Ls (.int y :: .long x :: rest)) := by
  subst hp
  exact Wout.of (fun _ ht => XT.lushr X.here hx rfl hd rfl ht) hr
theorem o_ineg (X : Stand p l e R s m args below meth c T locs cells slots) (hx : p.tables.exec = Jvm.exec) (n : Nat) {x : Int32} (hd : decode c.code pc = .ok (.ineg, 1)) (hp : pc + 1 = n) (hr : Wout p e below P T (mkF m n Ls (.int (-x) :: rest))) : Wout p e below P T (mkF m pc Ls (.int x :: rest)) := by
  subst hp
  exact Wout.of (fun _ ht => XS.ineg X.here hx rfl hd rfl ht) hr
theorem o_i2l (X : Stand p l e R s m args below meth c T locs cells slots) (hx : p.tables.exec = Jvm.exec) (n : Nat) {x : Int32} (hd : decode c.code pc = .ok (.i2l, 1)) (hp : pc + 1 = n) (hr : Wout p e below P T (mkF m n Ls (.long (x.toInt64) :: rest))) : Wout p e below P T (mkF m pc Ls (.int x :: rest)) := by
  subst hp
  exact Wout.of (fun _ ht => XT.i2l X.here hx rfl hd rfl ht) hr
theorem o_l2i (X : Stand p l e R s m args below meth c T locs cells slots) (hx : p.tables.exec = Jvm.exec) (n : Nat) {x : Int64} (hd : decode c.code pc = .ok (.l2i, 1)) (hp : pc + 1 = n) (hr : Wout p e below P T (mkF m n Ls (.int (x.toInt32) :: rest))) : Wout p e below P T (mkF m pc Ls (.long x :: rest)) := by
  subst hp
  exact Wout.of (fun _ ht => XT.l2i X.here hx rfl hd rfl ht) hr
theorem o_i2b (X : Stand p l e R s m args below meth c T locs cells slots) (hx : p.tables.exec = Jvm.exec) (n : Nat) {x : Int32} (hd : decode c.code pc = .ok (.i2b, 1)) (hp : pc + 1 = n) (hr : Wout p e below P T (mkF m n Ls (.int (x.toInt8.toInt32) :: rest))) : Wout p e below P T (mkF m pc Ls (.int x :: rest)) := by
  subst hp
  exact Wout.of (fun _ ht => XT.i2b X.here hx rfl hd rfl ht) hr
theorem o_i2c (X : Stand p l e R s m args below meth c T locs cells slots) (hx : p.tables.exec = Jvm.exec) (n : Nat) {x : Int32} (hd : decode c.code pc = .ok (.i2c, 1)) (hp : pc + 1 = n) (hr : Wout p e below P T (mkF m n Ls (.int (x.toUInt32.toUInt16.toUInt32.toInt32) :: rest))) : Wout p e below P T (mkF m pc Ls (.int x :: rest)) := by
  subst hp
  exact Wout.of (fun _ ht => XT.i2c X.here hx rfl hd rfl ht) hr
theorem o_i2s (X : Stand p l e R s m args below meth c T locs cells slots) (hx : p.tables.exec = Jvm.exec) (n : Nat) {x : Int32} (hd : decode c.code pc = .ok (.i2s, 1)) (hp : pc + 1 = n) (hr : Wout p e below P T (mkF m n Ls (.int (x.toInt16.toInt32) :: rest))) : Wout p e below P T (mkF m pc Ls (.int x :: rest)) := by
  subst hp
  exact Wout.of (fun _ ht => XT.i2s X.here hx rfl hd rfl ht) hr
theorem o_lcmp (X : Stand p l e R s m args below meth c T locs cells slots) (hx : p.tables.exec = Jvm.exec) (n : Nat) {x y : Int64} (hd : decode c.code pc = .ok (.lcmp, 1)) (hp : pc + 1 = n) (hr : Wout p e below P T (mkF m n Ls (.int (XT.cmpL x y) :: rest))) : Wout p e below P T (mkF m pc Ls (.long y :: .long x :: rest)) := by
  subst hp
  exact Wout.of (fun _ ht => XT.lcmp X.here hx rfl hd rfl ht) hr
theorem o_dup (X : Stand p l e R s m args below meth c T locs cells slots) (hx : p.tables.exec = Jvm.exec) (n : Nat) {v : Value} (hd : decode c.code pc = .ok (.dup, 1)) (hc : v.category = 1) (hp : pc + 1 = n) (hr : Wout p e below P T (mkF m n Ls (v :: v :: rest))) : Wout p e below P T (mkF m pc Ls (v :: rest)) := by
  subst hp
  exact Wout.of (fun _ ht => XS.dup X.here hx rfl hd rfl hc ht) hr
theorem o_pop (X : Stand p l e R s m args below meth c T locs cells slots) (hx : p.tables.exec = Jvm.exec) (n : Nat) {v : Value} (hd : decode c.code pc = .ok (.pop, 1)) (hc : v.category = 1) (hp : pc + 1 = n) (hr : Wout p e below P T (mkF m n Ls (rest))) : Wout p e below P T (mkF m pc Ls (v :: rest)) := by
  subst hp
  exact Wout.of (fun _ ht => XT.pop X.here hx rfl hd rfl hc ht) hr
theorem o_dup_x1 (X : Stand p l e R s m args below meth c T locs cells slots) (hx : p.tables.exec = Jvm.exec) (n : Nat) {v w : Value} (hd : decode c.code pc = .ok (.dup_x1, 1)) (hc : v.category = 1) (hc' : w.category = 1) (hp : pc + 1 = n) (hr : Wout p e below P T (mkF m n Ls (v :: w :: v :: rest))) : Wout p e below P T (mkF m pc Ls (v :: w :: rest)) := by
  subst hp
  exact Wout.of (fun _ ht => XT.dupX1 X.here hx rfl hd rfl hc hc' ht) hr
theorem o_dup2 (X : Stand p l e R s m args below meth c T locs cells slots) (hx : p.tables.exec = Jvm.exec) (n : Nat) {v w : Value} (hd : decode c.code pc = .ok (.dup2, 1)) (hc : v.category = 1) (hc' : w.category = 1) (hp : pc + 1 = n) (hr : Wout p e below P T (mkF m n Ls (v :: w :: v :: w :: rest))) : Wout p e below P T (mkF m pc Ls (v :: w :: rest)) := by
  subst hp
  exact Wout.of (fun _ ht => XT.dup2 X.here hx rfl hd rfl hc hc' ht) hr
theorem o_iinc (X : Stand p l e R s m args below meth c T locs cells slots) (hx : p.tables.exec = Jvm.exec) (n : Nat) {k : Nat} {i : Int} {x : Int32} {Ls' : Array Slot} (v : Int32) (hd : decode c.code pc = .ok (.iinc k i, 3)) (hv : Int32.ofInt i = v) (hl : Ls[k]? = some (.val (.int x))) (hl' : storeLocals Ls k (.int (x + v)) = some Ls') (hp : pc + 3 = n) (hr : Wout p e below P T (mkF m n Ls' (rest))) : Wout p e below P T (mkF m pc Ls (rest)) := by
  subst hp
  exact Wout.of (fun _ ht => XT.iincV X.here hx rfl v hd hv hl hl' ht) hr
theorem jmp {pc n : Nat} {o : Int} (hp : (pc : Int) + o = (n : Int)) : 0 ≤ (pc : Int) + o ∧ ((pc : Int) + o).toNat = n := by rw [hp]; exact ⟨Int.natCast_nonneg n, Int.toNat_natCast n⟩
theorem o_goto (X : Stand p l e R s m args below meth c T locs cells slots) (hx : p.tables.exec = Jvm.exec) (n : Nat) {o : Int} (hd : decode c.code pc = .ok (.goto o, 3)) (hp : (pc : Int) + o = (n : Int)) (hr : Wout p e below P T (mkF m n Ls rest)) : Wout p e below P T (mkF m pc Ls rest) :=
  Wout.of (fun _ ht => XS.goto X.here hx rfl (pc0 := pc) rfl hd (jmp hp).1 (jmp hp).2 ht) hr
theorem o_ifT (X : Stand p l e R s m args below meth c T locs cells slots) (hx : p.tables.exec = Jvm.exec) (n : Nat) {cd : ClassFile.Cond} {x : Int32} {o : Int} (hd : decode c.code pc = .ok (.ifCond cd o, 3)) (hp : (pc : Int) + o = (n : Int)) (q : cI cd x) (hr : Wout p e below P T (mkF m n Ls rest)) : Wout p e below P T (mkF m pc Ls (.int x :: rest)) :=
  Wout.of (fun _ ht => XS.ifYes X.here hx rfl (pc0 := pc) rfl hd rfl (cI_t q) (jmp hp).1 (jmp hp).2 ht) hr
theorem o_ifF (X : Stand p l e R s m args below meth c T locs cells slots) (hx : p.tables.exec = Jvm.exec) (n : Nat) {cd : ClassFile.Cond} {x : Int32} {o : Int} (hd : decode c.code pc = .ok (.ifCond cd o, 3)) (hp : pc + 3 = n) (q : cI (cNeg cd) x) (hr : Wout p e below P T (mkF m n Ls rest)) : Wout p e below P T (mkF m pc Ls (.int x :: rest)) := by
  subst hp
  exact Wout.of (fun _ ht => XS.ifNo X.here hx rfl hd rfl (cI_f q) ht) hr
theorem o_if (X : Stand p l e R s m args below meth c T locs cells slots) (hx : p.tables.exec = Jvm.exec) (n1 n2 : Nat) {cd : ClassFile.Cond} {x : Int32} {o : Int} (hd : decode c.code pc = .ok (.ifCond cd o, 3)) (hp1 : (pc : Int) + o = (n1 : Int)) (hp2 : pc + 3 = n2) (h1 : cI cd x → Wout p e below P T (mkF m n1 Ls rest)) (h2 : cI (cNeg cd) x → Wout p e below P T (mkF m n2 Ls rest)) : Wout p e below P T (mkF m pc Ls (.int x :: rest)) :=
  (cI_em cd x).elim (fun q => o_ifT X hx n1 hd hp1 q (h1 q)) (fun q => o_ifF X hx n2 hd hp2 q (h2 q))
theorem o_ifLT (X : Stand p l e R s m args below meth c T locs cells slots) (hx : p.tables.exec = Jvm.exec) (n : Nat) {cd : ClassFile.Cond} {x y : Int64} {o : Int} (hd : decode c.code pc = .ok (.ifCond cd o, 3)) (hp : (pc : Int) + o = (n : Int)) (q : cLL cd x y) (hr : Wout p e below P T (mkF m n Ls rest)) : Wout p e below P T (mkF m pc Ls (.int (XT.cmpL x y) :: rest)) :=
  Wout.of (fun _ ht => XS.ifYes X.here hx rfl (pc0 := pc) rfl hd rfl (cLL_t q) (jmp hp).1 (jmp hp).2 ht) hr
theorem o_ifLF (X : Stand p l e R s m args below meth c T locs cells slots) (hx : p.tables.exec = Jvm.exec) (n : Nat) {cd : ClassFile.Cond} {x y : Int64} {o : Int} (hd : decode c.code pc = .ok (.ifCond cd o, 3)) (hp : pc + 3 = n) (q : cLL (cNeg cd) x y) (hr : Wout p e below P T (mkF m n Ls rest)) : Wout p e below P T (mkF m pc Ls (.int (XT.cmpL x y) :: rest)) := by
  subst hp
  exact Wout.of (fun _ ht => XS.ifNo X.here hx rfl hd rfl (cLL_f q) ht) hr
theorem o_ifL (X : Stand p l e R s m args below meth c T locs cells slots) (hx : p.tables.exec = Jvm.exec) (n1 n2 : Nat) {cd : ClassFile.Cond} {x y : Int64} {o : Int} (hd : decode c.code pc = .ok (.ifCond cd o, 3)) (hp1 : (pc : Int) + o = (n1 : Int)) (hp2 : pc + 3 = n2) (h1 : cLL cd x y → Wout p e below P T (mkF m n1 Ls rest)) (h2 : cLL (cNeg cd) x y → Wout p e below P T (mkF m n2 Ls rest)) : Wout p e below P T (mkF m pc Ls (.int (XT.cmpL x y) :: rest)) :=
  (cLL_em cd x y).elim (fun q => o_ifLT X hx n1 hd hp1 q (h1 q)) (fun q => o_ifLF X hx n2 hd hp2 q (h2 q))
theorem o_icmpT (X : Stand p l e R s m args below meth c T locs cells slots) (hx : p.tables.exec = Jvm.exec) (n : Nat) {cd : ClassFile.Cond} {x y : Int32} {o : Int} (hd : decode c.code pc = .ok (.if_icmp cd o, 3)) (hp : (pc : Int) + o = (n : Int)) (q : cII cd x y) (hr : Wout p e below P T (mkF m n Ls rest)) : Wout p e below P T (mkF m pc Ls (.int y :: .int x :: rest)) :=
  Wout.of (fun _ ht => XS.icmpYes X.here hx rfl (pc0 := pc) rfl hd rfl (cII_t q) (jmp hp).1 (jmp hp).2 ht) hr
theorem o_icmpF (X : Stand p l e R s m args below meth c T locs cells slots) (hx : p.tables.exec = Jvm.exec) (n : Nat) {cd : ClassFile.Cond} {x y : Int32} {o : Int} (hd : decode c.code pc = .ok (.if_icmp cd o, 3)) (hp : pc + 3 = n) (q : cII (cNeg cd) x y) (hr : Wout p e below P T (mkF m n Ls rest)) : Wout p e below P T (mkF m pc Ls (.int y :: .int x :: rest)) := by
  subst hp
  exact Wout.of (fun _ ht => XS.icmpNo X.here hx rfl hd rfl (cII_f q) ht) hr
theorem o_icmp (X : Stand p l e R s m args below meth c T locs cells slots) (hx : p.tables.exec = Jvm.exec) (n1 n2 : Nat) {cd : ClassFile.Cond} {x y : Int32} {o : Int} (hd : decode c.code pc = .ok (.if_icmp cd o, 3)) (hp1 : (pc : Int) + o = (n1 : Int)) (hp2 : pc + 3 = n2) (h1 : cII cd x y → Wout p e below P T (mkF m n1 Ls rest)) (h2 : cII (cNeg cd) x y → Wout p e below P T (mkF m n2 Ls rest)) : Wout p e below P T (mkF m pc Ls (.int y :: .int x :: rest)) :=
  (cII_em cd x y).elim (fun q => o_icmpT X hx n1 hd hp1 q (h1 q)) (fun q => o_icmpF X hx n2 hd hp2 q (h2 q))
theorem o_ifnullT (X : Stand p l e R s m args below meth c T locs cells slots) (hx : p.tables.exec = Jvm.exec) (n : Nat) {o : Int} (hd : decode c.code pc = .ok (.ifnull o, 3)) (hp : (pc : Int) + o = (n : Int)) (hr : Wout p e below P T (mkF m n Ls rest)) : Wout p e below P T (mkF m pc Ls (.null :: rest)) :=
  Wout.of (fun _ ht => XS.ifnullYes X.here hx rfl (pc0 := pc) rfl hd rfl (jmp hp).1 (jmp hp).2 ht) hr
theorem o_ifnullF (X : Stand p l e R s m args below meth c T locs cells slots) (hx : p.tables.exec = Jvm.exec) (n : Nat) {o : Int} {a : Addr} (hd : decode c.code pc = .ok (.ifnull o, 3)) (hp : pc + 3 = n) (hr : Wout p e below P T (mkF m n Ls rest)) : Wout p e below P T (mkF m pc Ls (.ref a :: rest)) := by
  subst hp
  exact Wout.of (fun _ ht => XS.ifnullNo X.here hx rfl hd rfl ht) hr
theorem o_ifnonnullT (X : Stand p l e R s m args below meth c T locs cells slots) (hx : p.tables.exec = Jvm.exec) (n : Nat) {o : Int} {a : Addr} (hd : decode c.code pc = .ok (.ifnonnull o, 3)) (hp : (pc : Int) + o = (n : Int)) (hr : Wout p e below P T (mkF m n Ls rest)) : Wout p e below P T (mkF m pc Ls (.ref a :: rest)) :=
  Wout.of (fun _ ht => XT.ifnonnullYes X.here hx rfl (pc0 := pc) rfl hd rfl (jmp hp).1 (jmp hp).2 ht) hr
theorem o_ifnonnullF (X : Stand p l e R s m args below meth c T locs cells slots) (hx : p.tables.exec = Jvm.exec) (n : Nat) {o : Int} (hd : decode c.code pc = .ok (.ifnonnull o, 3)) (hp : pc + 3 = n) (hr : Wout p e below P T (mkF m n Ls rest)) : Wout p e below P T (mkF m pc Ls (.null :: rest)) := by
  subst hp
  exact Wout.of (fun _ ht => XT.ifnonnullNo X.here hx rfl hd rfl ht) hr
theorem o_acmpT (X : Stand p l e R s m args below meth c T locs cells slots) (hx : p.tables.exec = Jvm.exec) (n : Nat) {cd : ClassFile.ACond} {x y : Value} {o : Int} (hd : decode c.code pc = .ok (.if_acmp cd o, 3)) (h1 : x.isRef = true) (h2 : y.isRef = true) (hp : (pc : Int) + o = (n : Int)) (q : XT.acmp cd x y = true) (hr : Wout p e below P T (mkF m n Ls rest)) : Wout p e below P T (mkF m pc Ls (y :: x :: rest)) :=
  Wout.of (fun _ ht => XT.acmpYes X.here hx rfl (pc0 := pc) rfl hd rfl h1 h2 q (jmp hp).1 (jmp hp).2 ht) hr
theorem o_acmpF (X : Stand p l e R s m args below meth c T locs cells slots) (hx : p.tables.exec = Jvm.exec) (n : Nat) {cd : ClassFile.ACond} {x y : Value} {o : Int} (hd : decode c.code pc = .ok (.if_acmp cd o, 3)) (h1 : x.isRef = true) (h2 : y.isRef = true) (hp : pc + 3 = n) (q : XT.acmp cd x y = false) (hr : Wout p e below P T (mkF m n Ls rest)) : Wout p e below P T (mkF m pc Ls (y :: x :: rest)) := by
  subst hp
  exact Wout.of (fun _ ht => XT.acmpNo X.here hx rfl hd rfl h1 h2 q ht) hr
theorem o_tsw (X : Stand p l e R s m args below meth c T locs cells slots) (hx : p.tables.exec = Jvm.exec) (n : Nat) {dflt low high : Int} {offs : Array Int} {len : Nat} {o : Int} {i : Int32} (hd : decode c.code pc = .ok (.tableswitch dflt low high offs, len)) (hin : ¬ (i.toInt < low ∨ i.toInt > high)) (hoff : offs[(i.toInt - low).toNat]? = some o) (hp : (pc : Int) + o = (n : Int)) (hr : Wout p e below P T (mkF m n Ls rest)) : Wout p e below P T (mkF m pc Ls (.int i :: rest)) :=
  Wout.of (fun _ ht => XS.tswIn X.here hx rfl (pc0 := pc) rfl hd rfl hin hoff (jmp hp).1 (jmp hp).2 ht) hr
theorem o_lswT (X : Stand p l e R s m args below meth c T locs cells slots) (hx : p.tables.exec = Jvm.exec) (n : Nat) {d : Int} {ps : Array (Int × Int)} {len : Nat} {a o : Int} {i : Int32} (hd : decode c.code pc = .ok (.lookupswitch d ps, len)) (hso : (ps.toList.zip (ps.toList.drop 1)).all (fun (a, next) => a.1 < next.1) = true) (hf : ps.find? (·.1 == i.toInt) = some (a, o)) (hp : (pc : Int) + o = (n : Int)) (hr : Wout p e below P T (mkF m n Ls rest)) : Wout p e below P T (mkF m pc Ls (.int i :: rest)) := by
  have q0 := (jmp hp).1
  have q := (jmp hp).2
  clear hp
  subst q
  exact Wout.of (fun _ ht => X.lookupswitchHit hx (g := mkF m pc Ls (.int i :: rest)) rfl rfl hd hso hf q0 _ ht) hr
theorem o_lswF (X : Stand p l e R s m args below meth c T locs cells slots) (hx : p.tables.exec = Jvm.exec) (n : Nat) {d : Int} {ps : Array (Int × Int)} {len : Nat} {i : Int32} (hd : decode c.code pc = .ok (.lookupswitch d ps, len)) (hso : (ps.toList.zip (ps.toList.drop 1)).all (fun (a, next) => a.1 < next.1) = true) (hf : ps.find? (·.1 == i.toInt) = none) (hp : (pc : Int) + d = (n : Int)) (hr : Wout p e below P T (mkF m n Ls rest)) : Wout p e below P T (mkF m pc Ls (.int i :: rest)) := by
  have q0 := (jmp hp).1
  have q := (jmp hp).2
  clear hp
  subst q
  exact Wout.of (fun _ ht => X.lookupswitchMiss hx (g := mkF m pc Ls (.int i :: rest)) rfl rfl hd hso hf q0 _ ht) hr
/-! constants of the pool, fields, statics -/
theorem o_ldc (X : Stand p l e R s m args below meth c T locs cells slots) (hx : p.tables.exec = Jvm.exec) (hZ : Z.Warmed39 s.vm) (n : Nat) {own : String} {index : Nat} {v : Int32} (hown : s.vm.findClass own = some m.cls) (w : (Jvm.Cond.constant own index v).before a0 Z = true) (hd : decode c.code pc = .ok (.ldc index, 2)) (hp : pc + 2 = n) (hr : Wout p e below P T (mkF m n Ls (.int v :: rest))) : Wout p e below P T (mkF m pc Ls rest) := by
  subst hp
  exact Wout.of (fun _ ht => X.ldcI hx hown (mv hZ w) rfl hd ht) hr
theorem o_ldc2 (X : Stand p l e R s m args below meth c T locs cells slots) (hx : p.tables.exec = Jvm.exec) (hZ : Z.Warmed39 s.vm) (n : Nat) {own : String} {index : Nat} {v : Int64} (hown : s.vm.findClass own = some m.cls) (w : (Jvm.Cond.constantLong own index v).before a0 Z = true) (hd : decode c.code pc = .ok (.ldc2_w index, 3)) (hp : pc + 3 = n) (hr : Wout p e below P T (mkF m n Ls (.long v :: rest))) : Wout p e below P T (mkF m pc Ls rest) := by
  subst hp
  exact Wout.of (fun _ ht => X.ldc2J hx hown (mv hZ w) rfl hd ht) hr
theorem o_getF (X : Stand p l e R s m args below meth c T locs cells slots) (hx : p.tables.exec = Jvm.exec) (hZ : Z.Warmed39 s.vm) {own R0 O nm d host : String} {index : Nat} (hown : s.vm.findClass own = some m.cls) (w : (Jvm.Cond.fieldLink own index R0 nm d).before a0 Z = true ∨ (Jvm.Cond.fieldLinkNest own index R0 nm d host).before a0 Z = true) (via : Via Z R0 O nm d) (eT : T.heap = h) {a : Addr} {v : Value} (F : Fld Z h a O nm d v) (n : Nat) (hd : decode c.code pc = .ok (.getfield index, 3)) (hp : pc + 3 = n)
    (hr : ∀ T', Stand p l e R s m args below meth c T' locs cells slots → T'.heap = h → Wout p e below P T' (mkF m n Ls (v :: rest))) : Wout p e below P T (mkF m pc Ls (.ref a :: rest)) := by
  subst hp
  obtain ⟨T', X', e', st⟩ := getF X hx hZ hown w via eT F (g := mkF m pc Ls (.ref a :: rest)) rfl rfl hd
  exact Wout.of st (hr T' X' e')
theorem o_getS (X : Stand p l e R s m args below meth c T locs cells slots) (hx : p.tables.exec = Jvm.exec) (hZ : Z.Warmed39 s.vm) {own R0 O nm d host : String} {index : Nat} (hown : s.vm.findClass own = some m.cls) (w : (Jvm.Cond.fieldLink own index R0 nm d).before a0 Z = true ∨ (Jvm.Cond.fieldLinkNest own index R0 nm d host).before a0 Z = true) (via : Via Z R0 O nm d) (eT : T.heap = h) {v : Value} (F : Sta Z h O nm d v) (n : Nat) (hd : decode c.code pc = .ok (.getstatic index, 3)) (hp : pc + 3 = n)
    (hr : ∀ T', Stand p l e R s m args below meth c T' locs cells slots → T'.heap = h → Wout p e below P T' (mkF m n Ls (v :: rest))) : Wout p e below P T (mkF m pc Ls rest) := by
  subst hp
  obtain ⟨T', X', e', st⟩ := getS2 X hx hZ hown w via eT F (g := mkF m pc Ls rest) rfl hd
  exact Wout.of st (hr T' X' e')
theorem o_putF (X : Stand p l e R s m args below meth c T locs cells slots) (hx : p.tables.exec = Jvm.exec) (hZ : Z.Warmed39 s.vm) {own R0 O nm d host C : String} {index kk : Nat} (ty : FieldType) (hown : s.vm.findClass own = some m.cls) (w : (Jvm.Cond.fieldLink own index R0 nm d).before a0 Z = true ∨ (Jvm.Cond.fieldLinkNest own index R0 nm d host).before a0 Z = true) (via : Via Z R0 O nm d) (eT : T.heap = h) {a : Addr} {v old : Value} (F : Fld Z h a O nm d old) (E : Exa Z h a C)
    (L : (Jvm.Cond.lays C O nm d).before a0 Z = true ∨ ((Jvm.Cond.laysFinal C O nm d).before a0 Z = true ∧ own = O ∧ meth.name = "<init>")) (wi : (Jvm.Cond.instantiable C kk).before a0 Z = true) (hty : parseFieldDescriptor d = some ty) (hn : Jvm.narrow ty v = v) (hf : fits ty v = true) {n0 : Nat} (N : Fr n0 locs) (g : n0 ≤ a) (n : Nat) (hd : decode c.code pc = .ok (.putfield index, 3)) (hp : pc + 3 = n)
    (hr : ∀ T' h' locs', Stand p l e R s m args below meth c T' locs' cells slots → T'.heap = h' → Wr h h' a (RoadKit.slotOf Z O nm d) v → Fr n0 locs' → Wout p e below P T' (mkF m n Ls rest)) : Wout p e below P T (mkF m pc Ls (v :: .ref a :: rest)) := by
  subst hp
  obtain ⟨T', h', X', e', W, st⟩ := putF X hx hZ hown w via eT F E L wi hty hn hf (g := mkF m pc Ls (v :: .ref a :: rest)) rfl rfl hd
  exact Wout.of st (hr T' h' _ X' e' W (Fr.snoc X' N g))
theorem o_putFN (X : Stand p l e R s m args below meth c T locs cells slots) (hx : p.tables.exec = Jvm.exec) (hZ : Z.Warmed39 s.vm) {own R0 O nm d C : String} {index kk : Nat} (ty : FieldType) (hown : s.vm.findClass own = some m.cls) (w : (Jvm.Cond.fieldLink own index R0 nm d).before a0 Z = true) (via : Via Z R0 O nm d) (eT : T.heap = h) {a : Addr} {v v' old : Value} (F : Fld Z h a O nm d old) (E : Exa Z h a C)
    (L : (Jvm.Cond.lays C O nm d).before a0 Z = true ∨ ((Jvm.Cond.laysFinal C O nm d).before a0 Z = true ∧ own = O ∧ meth.name = "<init>")) (wi : (Jvm.Cond.instantiable C kk).before a0 Z = true) (hty : parseFieldDescriptor d = some ty) (hn : Jvm.narrow ty v = v') (hf : fits ty v' = true) {n0 : Nat} (N : Fr n0 locs) (g : n0 ≤ a) (n : Nat) (hd : decode c.code pc = .ok (.putfield index, 3)) (hp : pc + 3 = n)
    (hr : ∀ T' h' locs', Stand p l e R s m args below meth c T' locs' cells slots → T'.heap = h' → Wr h h' a (RoadKit.slotOf Z O nm d) v' → Fr n0 locs' → Wout p e below P T' (mkF m n Ls rest)) : Wout p e below P T (mkF m pc Ls (v :: .ref a :: rest)) := by
  subst hp
  obtain ⟨T', h', X', e', W, st⟩ := putFN X hx hZ hown w via eT F E L wi hty hn hf (g := mkF m pc Ls (v :: .ref a :: rest)) rfl rfl hd
  exact Wout.of st (hr T' h' _ X' e' W (Fr.snoc X' N g))
/-! objects and arrays that are made -/
theorem o_new (X : Stand p l e R s m args below meth c T locs cells slots) (hx : p.tables.exec = Jvm.exec) (hZ : Z.Warmed39 s.vm) {own C : String} {index k : Nat} (hown : s.vm.findClass own = some m.cls) (w : (Jvm.Cond.classLink own index C).before a0 Z = true) (wi : (Jvm.Cond.instantiable C k).before a0 Z = true) (wz : (Jvm.Cond.initialized C).before a0 Z = true) (eT : T.heap = h) (n : Nat) (hd : decode c.code pc = .ok (.new index, 3)) (hp : pc + 3 = n) (hc : cells + 1 ≤ R.cells) (hl : slots + k ≤ R.slots)
    (hr : ∀ T' h' (b : Addr), b = h.size → Stand p l e R s m args below meth c T' locs (cells + 1) (slots + k) → T'.heap = h' → Ext h h' → Exa Z h' b C → (∀ {O nm d : String} {ty : FieldType}, Laid Z a0 C O nm d → parseFieldDescriptor d = some ty → Fld Z h' b O nm d (defaultValue ty)) → Wout p e below P T' (mkF m n Ls (.ref b :: rest))) : Wout p e below P T (mkF m pc Ls rest) := by
  subst hp
  obtain ⟨T', h', X', e', E, A, D, -, st⟩ := newO X hx hZ hown w wi wz eT (g := mkF m pc Ls rest) rfl hd hc hl
  exact Wout.of st (hr T' h' _ rfl X' e' E A D)
theorem o_newarray (X : Stand p l e R s m args below meth c T locs cells slots) (hx : p.tables.exec = Jvm.exec) (hZ : Z.Warmed39 s.vm) {aty : ArrayType} (w : (Jvm.Cond.arrayClass (newarray.typeOf aty)).before a0 Z = true) (eT : T.heap = h) (n : Nat) (hd : decode c.code pc = .ok (.newarray aty, 2)) (hp : pc + 2 = n) {z : Int32} (hz : ¬ z < 0) (cap : Nat) (hcap : z.toNatClampNeg ≤ cap) (hbb : cap * 8 ≤ 536870912) (hc : cells + 1 ≤ R.cells) (hl : slots + cap ≤ R.slots)
    (hr : ∀ T' h' (b : Addr) (k : ClassId), b = h.size → Stand p l e R s m args below meth c T' locs (cells + 1) (slots + cap) → T'.heap = h' → Ext h h' → Arv Z h' b k (newarray.typeOf aty) z [] (defaultValue (newarray.typeOf aty)) → Wout p e below P T' (mkF m n Ls (.ref b :: rest))) : Wout p e below P T (mkF m pc Ls (.int z :: rest)) := by
  subst hp
  obtain ⟨T', h', cA, X', e', E, A, st⟩ := newP X hx hZ w eT (g := mkF m pc Ls (.int z :: rest)) rfl hd rfl hz hcap hbb hc hl
  exact Wout.of st (hr T' h' _ cA rfl X' e' E (Arv.new A hz))
theorem o_anewarray (X : Stand p l e R s m args below meth c T locs cells slots) (hx : p.tables.exec = Jvm.exec) (hZ : Z.Warmed39 s.vm) {own C : String} {index : Nat} (hown : s.vm.findClass own = some m.cls) (w1 : (Jvm.Cond.classLink own index C).before a0 Z = true) (w2 : (Jvm.Cond.arrayOver (.object C)).before a0 Z = true) (eT : T.heap = h) (n : Nat) (hd : decode c.code pc = .ok (.anewarray index, 3)) (hp : pc + 3 = n) {z : Int32} (hz : ¬ z < 0) (cap : Nat) (hcap : z.toNatClampNeg ≤ cap) (hbb : cap * 8 ≤ 536870912) (hc : cells + 1 ≤ R.cells) (hl : slots + cap ≤ R.slots)
    (hr : ∀ T' h' (b : Addr) (k : ClassId), b = h.size → Stand p l e R s m args below meth c T' locs (cells + 1) (slots + cap) → T'.heap = h' → Ext h h' → Arv Z h' b k (.object C) z [] .null → Ovr Z k C → Wout p e below P T' (mkF m n Ls (.ref b :: rest))) : Wout p e below P T (mkF m pc Ls (.int z :: rest)) := by
  subst hp
  obtain ⟨T', h', cA, X', e', E, A, O, st⟩ := newR X hx hZ hown w1 w2 eT (g := mkF m pc Ls (.int z :: rest)) rfl hd rfl hz hcap hbb hc hl
  exact Wout.of st (hr T' h' _ cA rfl X' e' E (Arv.new A hz) O)
theorem o_arraylength (X : Stand p l e R s m args below meth c T locs cells slots) (hx : p.tables.exec = Jvm.exec) (hZ : Z.Warmed39 s.vm) (eT : T.heap = h) {a : Addr} {k : ClassId} {ty : FieldType} {z : Int32} {vs : List Value} {dv : Value} (V : Arv Z h a k ty z vs dv) (n : Nat) (hd : decode c.code pc = .ok (.arraylength, 1)) (hp : pc + 1 = n) (hr : Wout p e below P T (mkF m n Ls (.int z :: rest))) : Wout p e below P T (mkF m pc Ls (.ref a :: rest)) := by
  subst hp
  obtain ⟨cl, A, -, S, M, -, -⟩ := V
  rw [← len_of S M] at hr
  exact Wout.of (fun _ ht => X.arraylength hx (cell := cl) (by rw [eT]; exact A.1) (State.isArrayOf_alike hZ.alike A.2.1) (g := mkF m pc Ls (.ref a :: rest)) rfl rfl hd _ ht) hr

theorem o_iaload (X : Stand p l e R s m args below meth c T locs cells slots) (hx : p.tables.exec = Jvm.exec) (hZ : Z.Warmed39 s.vm) (eT : T.heap = h) {a : Addr} {k : ClassId} {z : Int32} {vs : List Value} {dv : Value} (V : Arv Z h a k .int z vs dv) {j : Int32} (hj : ¬ j < 0 ∧ j < z) {v : Value} (hv : vs.getD j.toNatClampNeg dv = v) (n : Nat) (hd : decode c.code pc = .ok (.iaload, 1)) (hp : pc + 1 = n) (hr : Wout p e below P T (mkF m n Ls (v :: rest))) : Wout p e below P T (mkF m pc Ls (.int j :: .ref a :: rest)) := by
  subst hp
  obtain ⟨cl, A, -, S, M, H, -⟩ := V
  exact Wout.of (fun _ ht => X.iaload hx (j := j) (v := v) (by rw [eT]; exact A.1) (State.isArrayOf_alike hZ.alike A.2.1) A.2.2 (inb_of S hj) (H.at (inb_of S hj) hv) (g := mkF m pc Ls (.int j :: .ref a :: rest)) rfl rfl hd _ ht) hr
theorem o_laload (X : Stand p l e R s m args below meth c T locs cells slots) (hx : p.tables.exec = Jvm.exec) (hZ : Z.Warmed39 s.vm) (eT : T.heap = h) {a : Addr} {k : ClassId} {z : Int32} {vs : List Value} {dv : Value} (V : Arv Z h a k .long z vs dv) {j : Int32} (hj : ¬ j < 0 ∧ j < z) {v : Value} (hv : vs.getD j.toNatClampNeg dv = v) (n : Nat) (hd : decode c.code pc = .ok (.laload, 1)) (hp : pc + 1 = n) (hr : Wout p e below P T (mkF m n Ls (v :: rest))) : Wout p e below P T (mkF m pc Ls (.int j :: .ref a :: rest)) := by
  subst hp
  obtain ⟨cl, A, -, S, M, H, -⟩ := V
  exact Wout.of (fun _ ht => X.laload hx (j := j) (v := v) (by rw [eT]; exact A.1) (State.isArrayOf_alike hZ.alike A.2.1) A.2.2 (inb_of S hj) (H.at (inb_of S hj) hv) (g := mkF m pc Ls (.int j :: .ref a :: rest)) rfl rfl hd _ ht) hr
theorem o_caload (X : Stand p l e R s m args below meth c T locs cells slots) (hx : p.tables.exec = Jvm.exec) (hZ : Z.Warmed39 s.vm) (eT : T.heap = h) {a : Addr} {k : ClassId} {z : Int32} {vs : List Value} {dv : Value} (V : Arv Z h a k .char z vs dv) {j : Int32} (hj : ¬ j < 0 ∧ j < z) {v : Value} (hv : vs.getD j.toNatClampNeg dv = v) (n : Nat) (hd : decode c.code pc = .ok (.caload, 1)) (hp : pc + 1 = n) (hr : Wout p e below P T (mkF m n Ls (v :: rest))) : Wout p e below P T (mkF m pc Ls (.int j :: .ref a :: rest)) := by
  subst hp
  obtain ⟨cl, A, -, S, M, H, -⟩ := V
  exact Wout.of (fun _ ht => X.caload hx (j := j) (v := v) (by rw [eT]; exact A.1) (State.isArrayOf_alike hZ.alike A.2.1) A.2.2 (inb_of S hj) (H.at (inb_of S hj) hv) (g := mkF m pc Ls (.int j :: .ref a :: rest)) rfl rfl hd _ ht) hr
theorem o_saload (X : Stand p l e R s m args below meth c T locs cells slots) (hx : p.tables.exec = Jvm.exec) (hZ : Z.Warmed39 s.vm) (eT : T.heap = h) {a : Addr} {k : ClassId} {z : Int32} {vs : List Value} {dv : Value} (V : Arv Z h a k .short z vs dv) {j : Int32} (hj : ¬ j < 0 ∧ j < z) {v : Value} (hv : vs.getD j.toNatClampNeg dv = v) (n : Nat) (hd : decode c.code pc = .ok (.saload, 1)) (hp : pc + 1 = n) (hr : Wout p e below P T (mkF m n Ls (v :: rest))) : Wout p e below P T (mkF m pc Ls (.int j :: .ref a :: rest)) := by
  subst hp
  obtain ⟨cl, A, -, S, M, H, -⟩ := V
  exact Wout.of (fun _ ht => X.saload hx (j := j) (v := v) (by rw [eT]; exact A.1) (State.isArrayOf_alike hZ.alike A.2.1) A.2.2 (inb_of S hj) (H.at (inb_of S hj) hv) (g := mkF m pc Ls (.int j :: .ref a :: rest)) rfl rfl hd _ ht) hr
theorem o_baload (X : Stand p l e R s m args below meth c T locs cells slots) (hx : p.tables.exec = Jvm.exec) (hZ : Z.Warmed39 s.vm) (eT : T.heap = h) {a : Addr} {k : ClassId} {z : Int32} {vs : List Value} {dv : Value} (V : Arv Z h a k .byte z vs dv) {j : Int32} (hj : ¬ j < 0 ∧ j < z) {v : Value} (hv : vs.getD j.toNatClampNeg dv = v) (n : Nat) (hd : decode c.code pc = .ok (.baload, 1)) (hp : pc + 1 = n) (hr : Wout p e below P T (mkF m n Ls (v :: rest))) : Wout p e below P T (mkF m pc Ls (.int j :: .ref a :: rest)) := by
  subst hp
  obtain ⟨cl, A, -, S, M, H, -⟩ := V
  exact Wout.of (fun _ ht => X.baloadBytes hx (j := j) (v := v) (by rw [eT]; exact A.1) (State.isArrayOf_alike hZ.alike A.2.1) A.2.2 (inb_of S hj) (H.at (inb_of S hj) hv) (g := mkF m pc Ls (.int j :: .ref a :: rest)) rfl rfl hd _ ht) hr
theorem o_baloadZ (X : Stand p l e R s m args below meth c T locs cells slots) (hx : p.tables.exec = Jvm.exec) (hZ : Z.Warmed39 s.vm) (eT : T.heap = h) {a : Addr} {k : ClassId} {z : Int32} {vs : List Value} {dv : Value} (V : Arv Z h a k .boolean z vs dv) {j : Int32} (hj : ¬ j < 0 ∧ j < z) {v : Value} (hv : vs.getD j.toNatClampNeg dv = v) (n : Nat) (hd : decode c.code pc = .ok (.baload, 1)) (hp : pc + 1 = n) (hr : Wout p e below P T (mkF m n Ls (v :: rest))) : Wout p e below P T (mkF m pc Ls (.int j :: .ref a :: rest)) := by
  subst hp
  obtain ⟨cl, A, -, S, M, H, -⟩ := V
  exact Wout.of (fun _ ht => X.baloadBooleans hx (j := j) (v := v) (by rw [eT]; exact A.1) (State.isArrayOf_alike hZ.alike A.2.1) A.2.2 (inb_of S hj) (H.at (inb_of S hj) hv) (g := mkF m pc Ls (.int j :: .ref a :: rest)) rfl rfl hd _ ht) hr
theorem o_aaload (X : Stand p l e R s m args below meth c T locs cells slots) (hx : p.tables.exec = Jvm.exec) (hZ : Z.Warmed39 s.vm) (eT : T.heap = h) {a : Addr} {k : ClassId} {ty : FieldType} {z : Int32} {vs : List Value} {dv : Value} (V : Arv Z h a k ty z vs dv) (hty : ty.isReference = true) {j : Int32} (hj : ¬ j < 0 ∧ j < z) {v : Value} (hv : vs.getD j.toNatClampNeg dv = v) (n : Nat) (hd : decode c.code pc = .ok (.aaload, 1)) (hp : pc + 1 = n) (hr : Wout p e below P T (mkF m n Ls (v :: rest))) : Wout p e below P T (mkF m pc Ls (.int j :: .ref a :: rest)) := by
  subst hp
  obtain ⟨cl, A, -, S, M, H, -⟩ := V
  exact Wout.of (fun _ ht => X.aaload hx (j := j) (v := v) (by rw [eT]; exact A.1) (State.isArrayOf_alike hZ.alike A.2.1) hty A.2.2 (inb_of S hj) (H.at (inb_of S hj) hv) (g := mkF m pc Ls (.int j :: .ref a :: rest)) rfl rfl hd _ ht) hr
theorem o_iastore (X : Stand p l e R s m args below meth c T locs cells slots) (hx : p.tables.exec = Jvm.exec) (hZ : Z.Warmed39 s.vm) (eT : T.heap = h) {a : Addr} {k : ClassId} {z : Int32} {vs : List Value} {dv : Value} (V : Arv Z h a k .int z vs dv) {j : Int32} {x : Int32} (hj : ¬ j < 0 ∧ j < z) (i : Nat) (hi : j.toNatClampNeg = i) (hil : i < vs.length) {vs' : List Value} (hvs : vs.set i (.int x) = vs') {n0 : Nat} (N : Fr n0 locs) (g : n0 ≤ a) (n : Nat) (hd : decode c.code pc = .ok (.iastore, 1)) (hp : pc + 1 = n)
    (hr : ∀ T' h' locs', Stand p l e R s m args below meth c T' locs' cells slots → T'.heap = h' → Wr h h' a i (.int x) → Arv Z h' a k .int z vs' dv → Fr n0 locs' → Wout p e below P T' (mkF m n Ls rest)) : Wout p e below P T (mkF m pc Ls (.int x :: .int j :: .ref a :: rest)) := by
  subst hp hvs
  obtain ⟨cl, A, q1, S, M, H, G⟩ := V
  obtain ⟨T', h', X', e', W, st⟩ := stI X hx hZ eT A (j := j) (x := x) (inb_of S hj) (g := mkF m pc Ls (.int x :: .int j :: .ref a :: rest)) rfl rfl hd
  exact Wout.of st (hr T' h' _ X' e' (hi ▸ W) (Arv.set A q1 S M H G (rfl) W i hi hil) (Fr.snoc X' N g))
theorem o_lastore (X : Stand p l e R s m args below meth c T locs cells slots) (hx : p.tables.exec = Jvm.exec) (hZ : Z.Warmed39 s.vm) (eT : T.heap = h) {a : Addr} {k : ClassId} {z : Int32} {vs : List Value} {dv : Value} (V : Arv Z h a k .long z vs dv) {j : Int32} {x : Int64} (hj : ¬ j < 0 ∧ j < z) (i : Nat) (hi : j.toNatClampNeg = i) (hil : i < vs.length) {vs' : List Value} (hvs : vs.set i (.long x) = vs') {n0 : Nat} (N : Fr n0 locs) (g : n0 ≤ a) (n : Nat) (hd : decode c.code pc = .ok (.lastore, 1)) (hp : pc + 1 = n)
    (hr : ∀ T' h' locs', Stand p l e R s m args below meth c T' locs' cells slots → T'.heap = h' → Wr h h' a i (.long x) → Arv Z h' a k .long z vs' dv → Fr n0 locs' → Wout p e below P T' (mkF m n Ls rest)) : Wout p e below P T (mkF m pc Ls (.long x :: .int j :: .ref a :: rest)) := by
  subst hp hvs
  obtain ⟨cl, A, q1, S, M, H, G⟩ := V
  obtain ⟨T', h', X', e', W, st⟩ := stJ X hx hZ eT A (j := j) (x := x) (inb_of S hj) (g := mkF m pc Ls (.long x :: .int j :: .ref a :: rest)) rfl rfl hd
  exact Wout.of st (hr T' h' _ X' e' (hi ▸ W) (Arv.set A q1 S M H G (rfl) W i hi hil) (Fr.snoc X' N g))
theorem o_castore (X : Stand p l e R s m args below meth c T locs cells slots) (hx : p.tables.exec = Jvm.exec) (hZ : Z.Warmed39 s.vm) (eT : T.heap = h) {a : Addr} {k : ClassId} {z : Int32} {vs : List Value} {dv : Value} (V : Arv Z h a k .char z vs dv) {j : Int32} {x : Int32} (hj : ¬ j < 0 ∧ j < z) (i : Nat) (hi : j.toNatClampNeg = i) (hil : i < vs.length) {vs' : List Value} (hvs : vs.set i (.int (nar .char x)) = vs') {n0 : Nat} (N : Fr n0 locs) (g : n0 ≤ a) (n : Nat) (hd : decode c.code pc = .ok (.castore, 1)) (hp : pc + 1 = n)
    (hr : ∀ T' h' locs', Stand p l e R s m args below meth c T' locs' cells slots → T'.heap = h' → Wr h h' a i (.int (nar .char x)) → Arv Z h' a k .char z vs' dv → Fr n0 locs' → Wout p e below P T' (mkF m n Ls rest)) : Wout p e below P T (mkF m pc Ls (.int x :: .int j :: .ref a :: rest)) := by
  subst hp hvs
  obtain ⟨cl, A, q1, S, M, H, G⟩ := V
  obtain ⟨T', h', X', e', W, st⟩ := stC X hx hZ eT A (j := j) (x := x) (inb_of S hj) (g := mkF m pc Ls (.int x :: .int j :: .ref a :: rest)) rfl rfl hd
  exact Wout.of st (hr T' h' _ X' e' (hi ▸ W) (Arv.set A q1 S M H G (fits_nar_char x) W i hi hil) (Fr.snoc X' N g))
theorem o_sastore (X : Stand p l e R s m args below meth c T locs cells slots) (hx : p.tables.exec = Jvm.exec) (hZ : Z.Warmed39 s.vm) (eT : T.heap = h) {a : Addr} {k : ClassId} {z : Int32} {vs : List Value} {dv : Value} (V : Arv Z h a k .short z vs dv) {j : Int32} {x : Int32} (hj : ¬ j < 0 ∧ j < z) (i : Nat) (hi : j.toNatClampNeg = i) (hil : i < vs.length) {vs' : List Value} (hvs : vs.set i (.int (nar .short x)) = vs') {n0 : Nat} (N : Fr n0 locs) (g : n0 ≤ a) (n : Nat) (hd : decode c.code pc = .ok (.sastore, 1)) (hp : pc + 1 = n)
    (hr : ∀ T' h' locs', Stand p l e R s m args below meth c T' locs' cells slots → T'.heap = h' → Wr h h' a i (.int (nar .short x)) → Arv Z h' a k .short z vs' dv → Fr n0 locs' → Wout p e below P T' (mkF m n Ls rest)) : Wout p e below P T (mkF m pc Ls (.int x :: .int j :: .ref a :: rest)) := by
  subst hp hvs
  obtain ⟨cl, A, q1, S, M, H, G⟩ := V
  obtain ⟨T', h', X', e', W, st⟩ := stS X hx hZ eT A (j := j) (x := x) (inb_of S hj) (g := mkF m pc Ls (.int x :: .int j :: .ref a :: rest)) rfl rfl hd
  exact Wout.of st (hr T' h' _ X' e' (hi ▸ W) (Arv.set A q1 S M H G (fits_nar_short x) W i hi hil) (Fr.snoc X' N g))
theorem o_bastore (X : Stand p l e R s m args below meth c T locs cells slots) (hx : p.tables.exec = Jvm.exec) (hZ : Z.Warmed39 s.vm) (eT : T.heap = h) {a : Addr} {k : ClassId} {z : Int32} {vs : List Value} {dv : Value} (V : Arv Z h a k .byte z vs dv) {j : Int32} {x : Int32} (hj : ¬ j < 0 ∧ j < z) (i : Nat) (hi : j.toNatClampNeg = i) (hil : i < vs.length) {vs' : List Value} (hvs : vs.set i (.int (nar .byte x)) = vs') {n0 : Nat} (N : Fr n0 locs) (g : n0 ≤ a) (n : Nat) (hd : decode c.code pc = .ok (.bastore, 1)) (hp : pc + 1 = n)
    (hr : ∀ T' h' locs', Stand p l e R s m args below meth c T' locs' cells slots → T'.heap = h' → Wr h h' a i (.int (nar .byte x)) → Arv Z h' a k .byte z vs' dv → Fr n0 locs' → Wout p e below P T' (mkF m n Ls rest)) : Wout p e below P T (mkF m pc Ls (.int x :: .int j :: .ref a :: rest)) := by
  subst hp hvs
  obtain ⟨cl, A, q1, S, M, H, G⟩ := V
  obtain ⟨T', h', X', e', W, st⟩ := stB X hx hZ eT A (j := j) (x := x) (inb_of S hj) (g := mkF m pc Ls (.int x :: .int j :: .ref a :: rest)) rfl rfl hd
  exact Wout.of st (hr T' h' _ X' e' (hi ▸ W) (Arv.set A q1 S M H G (fits_nar_byte x) W i hi hil) (Fr.snoc X' N g))
theorem o_bastoreZ (X : Stand p l e R s m args below meth c T locs cells slots) (hx : p.tables.exec = Jvm.exec) (hZ : Z.Warmed39 s.vm) (eT : T.heap = h) {a : Addr} {k : ClassId} {z : Int32} {vs : List Value} {dv : Value} (V : Arv Z h a k .boolean z vs dv) {j : Int32} {x : Int32} (hj : ¬ j < 0 ∧ j < z) (i : Nat) (hi : j.toNatClampNeg = i) (hil : i < vs.length) {vs' : List Value} (hvs : vs.set i (.int (nar .boolean x)) = vs') {n0 : Nat} (N : Fr n0 locs) (g : n0 ≤ a) (n : Nat) (hd : decode c.code pc = .ok (.bastore, 1)) (hp : pc + 1 = n)
    (hr : ∀ T' h' locs', Stand p l e R s m args below meth c T' locs' cells slots → T'.heap = h' → Wr h h' a i (.int (nar .boolean x)) → Arv Z h' a k .boolean z vs' dv → Fr n0 locs' → Wout p e below P T' (mkF m n Ls rest)) : Wout p e below P T (mkF m pc Ls (.int x :: .int j :: .ref a :: rest)) := by
  subst hp hvs
  obtain ⟨cl, A, q1, S, M, H, G⟩ := V
  obtain ⟨T', h', X', e', W, st⟩ := stZ X hx hZ eT A (j := j) (x := x) (inb_of S hj) (g := mkF m pc Ls (.int x :: .int j :: .ref a :: rest)) rfl rfl hd
  exact Wout.of st (hr T' h' _ X' e' (hi ▸ W) (Arv.set A q1 S M H G (fits_nar_bool x) W i hi hil) (Fr.snoc X' N g))
theorem o_aastore (X : Stand p l e R s m args below meth c T locs cells slots) (hx : p.tables.exec = Jvm.exec) (hZ : Z.Warmed39 s.vm) (eT : T.heap = h) {a : Addr} {k : ClassId} {ty : FieldType} {z : Int32} {vs : List Value} {dv : Value} (V : Arv Z h a k ty z vs dv) (hty : ty.isReference = true) {j : Int32} {v : Value} (hj : ¬ j < 0 ∧ j < z) (i : Nat) (hi : j.toNatClampNeg = i) (hil : i < vs.length) {vs' : List Value} (hvs : vs.set i v = vs') (hfit : fits ty v = true) (Fs : Sto Z h a v) {n0 : Nat} (N : Fr n0 locs) (g : n0 ≤ a) (n : Nat) (hd : decode c.code pc = .ok (.aastore, 1)) (hp : pc + 1 = n)
    (hr : ∀ T' h' locs', Stand p l e R s m args below meth c T' locs' cells slots → T'.heap = h' → Wr h h' a i v → Arv Z h' a k ty z vs' dv → Fr n0 locs' → Wout p e below P T' (mkF m n Ls rest)) : Wout p e below P T (mkF m pc Ls (v :: .int j :: .ref a :: rest)) := by
  subst hp hvs
  obtain ⟨cl, A, q1, S, M, H, G⟩ := V
  obtain ⟨T', h', X', e', W, st⟩ := stR X hx hZ eT A (j := j) (v := v) (inb_of S hj) hty Fs (g := mkF m pc Ls (v :: .int j :: .ref a :: rest)) rfl rfl hd
  exact Wout.of st (hr T' h' _ X' e' (hi ▸ W) (Arv.set A q1 S M H G hfit W i hi hil) (Fr.snoc X' N g))
theorem Sto.arv {a y : Addr} {k : ClassId} {ty : FieldType} {z : Int32} {vs : List Value} {dv : Value} {C : String} (V : Arv Z h a k ty z vs dv) (O : Ovr Z k C) (I : Ins Z h y C true) : Sto Z h a (.ref y) := by
  obtain ⟨cl, A, q1, -⟩ := V
  exact Sto.ofV A q1 O I
theorem o_checkcast (X : Stand p l e R s m args below meth c T locs cells slots) (hx : p.tables.exec = Jvm.exec) (hZ : Z.Warmed39 s.vm) {own K : String} {index : Nat} (hown : s.vm.findClass own = some m.cls) (w : (Jvm.Cond.classLink own index K).before a0 Z = true) (eT : T.heap = h) {a : Addr} (F : Ins Z h a K true) (n : Nat) (hd : decode c.code pc = .ok (.checkcast index, 3)) (hp : pc + 3 = n)
    (hr : ∀ T', Stand p l e R s m args below meth c T' locs cells slots → T'.heap = h → Wout p e below P T' (mkF m n Ls (.ref a :: rest))) : Wout p e below P T (mkF m pc Ls (.ref a :: rest)) := by
  subst hp
  obtain ⟨T', X', e', st⟩ := castY X hx hZ hown w eT F (g := mkF m pc Ls (.ref a :: rest)) rfl rfl hd
  exact Wout.of st (hr T' X' e')
theorem o_instanceof (X : Stand p l e R s m args below meth c T locs cells slots) (hx : p.tables.exec = Jvm.exec) (hZ : Z.Warmed39 s.vm) {own K : String} {index : Nat} (hown : s.vm.findClass own = some m.cls) (w : (Jvm.Cond.classLink own index K).before a0 Z = true) (eT : T.heap = h) {a : Addr} (F : Ins Z h a K true) (n : Nat) (hd : decode c.code pc = .ok (.instanceof index, 3)) (hp : pc + 3 = n)
    (hr : ∀ T', Stand p l e R s m args below meth c T' locs cells slots → T'.heap = h → Wout p e below P T' (mkF m n Ls (.int 1 :: rest))) : Wout p e below P T (mkF m pc Ls (.ref a :: rest)) := by
  subst hp
  obtain ⟨T', X', e', st⟩ := instY X hx hZ hown w eT F (g := mkF m pc Ls (.ref a :: rest)) rfl rfl hd
  exact Wout.of st (hr T' X' e')
/-! calls -/
theorem o_initO (X : Stand p l e R s m args below meth c T locs cells slots) (hx : p.tables.exec = Jvm.exec) (hZ : Z.Warmed39 s.vm) {own : String} {idx : Nat} (hown : s.vm.findClass own = some m.cls) (w1 : (Jvm.Cond.methodLink own idx Lib.objectInit).before a0 Z = true) (w2 : (Jvm.Cond.instanceMethod Lib.objectInit).before a0 Z = true) (w3 : (Jvm.Cond.code Lib.objectInit ⟨#[0xb1]⟩ 1 none).before a0 Z = true) (eT : T.heap = h) (hsz : Ls.size = c.maxLocals) {a : Addr} (hf : 1 ≤ R.frames) (W : Nat) (hW : (rest.map fun v => v.category).sum ≤ W) (hl : W + 12 ≤ R.locals) (n : Nat) (hd : decode c.code pc = .ok (.invokespecial idx, 3)) (hp : pc + 3 = n)
    (hr : ∀ T', Stand p l e R s m args below meth c T' locs cells slots → T'.heap = h → Wout p e below P T' (mkF m n Ls rest)) : Wout p e below P T (mkF m pc Ls (.ref a :: rest)) := by
  subst hp
  obtain ⟨T', X', e', st⟩ := initO X hx hZ hown w1 w2 w3 eT (g := mkF m pc Ls (.ref a :: rest)) rfl hsz rfl hd hf (W := W) (by simpa using hW) hl
  exact Wout.of st (hr T' X' e')
theorem o_callS (X : Stand p l e R s m args below meth c T locs cells slots) (hx : p.tables.exec = Jvm.exec) (hZ : Z.Warmed39 s.vm) {own : String} {index : Nat} {y : MethodName} {bytes : ByteArray} {maxL : Nat} {ret : Option FieldType} (hown : s.vm.findClass own = some m.cls) (w1 : (Jvm.Cond.methodLink own index y).before a0 Z = true) (w2 : (Jvm.Cond.static y).before a0 Z = true) (w3 : (Jvm.Cond.initialized y.cls).before a0 Z = true) (w4 : (Jvm.Cond.code y bytes maxL ret).before a0 Z = true)
    (hy : y.cls ≠ "java/lang/invoke/MethodHandle" ∧ y.cls ≠ "java/lang/invoke/VarHandle") {rm : Room} {as' : Array Value} {Q : Option Value → Heap → List Loc → Prop} (hM : Met l Z y bytes maxL ret [] rm as' h Q) (eT : T.heap = h) (hf : rm.frames + 1 ≤ R.frames) (W : Nat) (hl : W + (maxL + 11) + rm.locals ≤ R.locals) (hsz : Ls.size = c.maxLocals) (argsL : List Value) {st : List Value} (hlen : ∀ sig, parseMethodDescriptor y.desc = some sig → argsL.length = sig.parameters.length) (hst : st = argsL.reverse ++ rest) (has : argsL.toArray = as')
    (hW : (rest.map fun v => v.category).sum ≤ W) (hc : cells + rm.cells ≤ R.cells) (hs : slots + rm.slots ≤ R.slots) (n : Nat) (hd : decode c.code pc = .ok (.invokestatic index, 3)) (hp : pc + 3 = n)
    (hr : ∀ v T' h' L, Stand p l e R s m args below meth c T' (locs ++ L) (cells + rm.cells) (slots + rm.slots) → T'.heap = h' → Q v h' L → Wout p e below P T' (mkF m n Ls (v.toList ++ rest))) : Wout p e below P T (mkF m pc Ls st) := by
  subst hp has hst
  obtain ⟨v, vm₁, ⟨T', L', k', n'⟩, -, X', ⟨Lc, hQ, l1, y1, z1⟩, st⟩ := Jvm.LawKit.callS X hx hown (mv hZ w1) (mv hZ w2) (mv hZ w3) (mv hZ w4) hy (backOf (W := W) hM hZ w4 w3 hf hl) (g := mkF m pc Ls (argsL.reverse ++ rest)) rfl hsz (argsL := argsL) (rest := rest) hlen rfl (by simpa using hW) hd (fun _ _ => ⟨rfl, eT, hc, hs⟩)
  dsimp only [Pt.U, Pt.locs, Pt.cells, Pt.slots] at X' l1 y1 z1 hQ st
  subst l1 y1 z1
  exact Wout.of st (hr v T' T'.heap Lc X' rfl hQ)
theorem o_callI (X : Stand p l e R s m args below meth c T locs cells slots) (hx : p.tables.exec = Jvm.exec) (hZ : Z.Warmed39 s.vm) {own : String} {index : Nat} {y : MethodName} {bytes : ByteArray} {maxL : Nat} (hy1 : y.name = "<init>") (hown : s.vm.findClass own = some m.cls) (w1 : (Jvm.Cond.methodLink own index y).before a0 Z = true) (w2 : (Jvm.Cond.instanceMethod y).before a0 Z = true) (w3 : (Jvm.Cond.initialized y.cls).before a0 Z = true) (w4 : (Jvm.Cond.code y bytes maxL none).before a0 Z = true)
    (hy : y.cls ≠ "java/lang/invoke/MethodHandle" ∧ y.cls ≠ "java/lang/invoke/VarHandle") {rm : Room} {as' : Array Value} {Q : Option Value → Heap → List Loc → Prop} (hM : Met l Z y bytes maxL none [] rm as' h Q) (eT : T.heap = h) (hf : rm.frames + 1 ≤ R.frames) (W : Nat) (hl : W + (maxL + 11) + rm.locals ≤ R.locals) (hsz : Ls.size = c.maxLocals) {a : Addr} (argsL : List Value) {st : List Value} (hlen : ∀ sig, parseMethodDescriptor y.desc = some sig → argsL.length = sig.parameters.length) (hst : st = argsL.reverse ++ .ref a :: rest) (has : (.ref a :: argsL).toArray = as')
    (hW : (rest.map fun v => v.category).sum ≤ W) (hc : cells + rm.cells ≤ R.cells) (hs : slots + rm.slots ≤ R.slots) (n : Nat) (hd : decode c.code pc = .ok (.invokespecial index, 3)) (hp : pc + 3 = n)
    (hr : ∀ v T' h' L, Stand p l e R s m args below meth c T' (locs ++ L) (cells + rm.cells) (slots + rm.slots) → T'.heap = h' → Q v h' L → Wout p e below P T' (mkF m n Ls (v.toList ++ rest))) : Wout p e below P T (mkF m pc Ls st) := by
  subst hp has hst
  obtain ⟨v, vm₁, ⟨T', L', k', n'⟩, -, X', ⟨Lc, hQ, l1, y1, z1⟩, st⟩ := X.specialBack hx hy1 hown (mv hZ w1) (mv hZ w2) (mv hZ w4) hy (backOf (W := W) hM hZ w4 w3 hf hl) (g := mkF m pc Ls (argsL.reverse ++ .ref a :: rest)) rfl hsz (Steps.refl _) (a := a) (argsL := argsL) (rest := rest) hlen rfl (by simpa using hW) hd (fun _ _ => ⟨rfl, eT, hc, hs⟩)
  dsimp only [Pt.U, Pt.locs, Pt.cells, Pt.slots] at X' l1 y1 z1 hQ st
  subst l1 y1 z1
  exact Wout.tr st (hr v T' T'.heap Lc X' rfl hQ)
theorem o_callIB (X : Stand p l e R s m args below meth c T locs cells slots) (hx : p.tables.exec = Jvm.exec) (hZ : Z.Warmed39 s.vm) {own : String} {index : Nat} {y : MethodName} {bytes : ByteArray} {maxL : Nat} (hy1 : y.name = "<init>") (hown : s.vm.findClass own = some m.cls) (w1 : (Jvm.Cond.methodLink own index y).before a0 Z = true) (w2 : (Jvm.Cond.instanceMethod y).before a0 Z = true) (w4 : (Jvm.Cond.code y bytes maxL none).before a0 Z = true)
    (hy : y.cls ≠ "java/lang/invoke/MethodHandle" ∧ y.cls ≠ "java/lang/invoke/VarHandle") {kc ks W : Nat} {as' : Array Value} {Q : Option Value → Heap → List Loc → Prop} (hK : Back l R p e below s args y 3 W (fun A a => a = as' ∧ A.U.heap = h ∧ A.cells + kc ≤ R.cells ∧ A.slots + ks ≤ R.slots) (fun A _ v B => ∃ L, Q v B.U.heap L ∧ B.locs = A.locs ++ L ∧ B.cells = A.cells + kc ∧ B.slots = A.slots + ks)) (eT : T.heap = h) (hsz : Ls.size = c.maxLocals) {a : Addr} (argsL : List Value) {st : List Value} (hlen : ∀ sig, parseMethodDescriptor y.desc = some sig → argsL.length = sig.parameters.length) (hst : st = argsL.reverse ++ .ref a :: rest) (has : (.ref a :: argsL).toArray = as')
    (hW : (rest.map fun v => v.category).sum ≤ W) (hc : cells + kc ≤ R.cells) (hs : slots + ks ≤ R.slots) (n : Nat) (hd : decode c.code pc = .ok (.invokespecial index, 3)) (hp : pc + 3 = n)
    (hr : ∀ v T' h' L, Stand p l e R s m args below meth c T' (locs ++ L) (cells + kc) (slots + ks) → T'.heap = h' → Q v h' L → Wout p e below P T' (mkF m n Ls (v.toList ++ rest))) : Wout p e below P T (mkF m pc Ls st) := by
  subst hp has hst
  obtain ⟨v, vm₁, ⟨T', L', k', n'⟩, -, X', ⟨Lc, hQ, l1, y1, z1⟩, st⟩ := X.specialBack hx hy1 hown (mv hZ w1) (mv hZ w2) (mv hZ w4) hy hK (g := mkF m pc Ls (argsL.reverse ++ .ref a :: rest)) rfl hsz (Steps.refl _) (a := a) (argsL := argsL) (rest := rest) hlen rfl (by simpa using hW) hd (fun _ _ => ⟨rfl, eT, hc, hs⟩)
  dsimp only [Pt.U, Pt.locs, Pt.cells, Pt.slots] at X' l1 y1 z1 hQ st
  subst l1 y1 z1
  exact Wout.tr st (hr v T' T'.heap Lc X' rfl hQ)
theorem o_callV (X : Stand p l e R s m args below meth c T locs cells slots) (hx : p.tables.exec = Jvm.exec) (hZ : Z.Warmed39 s.vm) {own C : String} {index : Nat} {y : MethodName} {bytes : ByteArray} {maxL : Nat} {ret : Option FieldType} (hown : s.vm.findClass own = some m.cls) (w1 : (Jvm.Cond.methodLink own index y).before a0 Z = true) (w5 : (Jvm.Cond.declares y).before a0 Z = true) (w6 : (Jvm.Cond.selects C y y).before a0 Z = true) (w2 : (Jvm.Cond.instanceMethod y).before a0 Z = true) (w3 : (Jvm.Cond.initialized y.cls).before a0 Z = true) (w4 : (Jvm.Cond.code y bytes maxL ret).before a0 Z = true)
    (hy : y.cls ≠ "java/lang/invoke/MethodHandle" ∧ y.cls ≠ "java/lang/invoke/VarHandle") {rm : Room} {as' : Array Value} {Q : Option Value → Heap → List Loc → Prop} (hM : Met l Z y bytes maxL ret [] rm as' h Q) (eT : T.heap = h) (hf : rm.frames + 1 ≤ R.frames) (W : Nat) (hl : W + (maxL + 11) + rm.locals ≤ R.locals) (hsz : Ls.size = c.maxLocals) {a : Addr} (E : Exa Z h a C) (argsL : List Value) {st : List Value} (hlen : ∀ sig, parseMethodDescriptor y.desc = some sig → argsL.length = sig.parameters.length) (hst : st = argsL.reverse ++ .ref a :: rest) (has : (.ref a :: argsL).toArray = as')
    (hW : (rest.map fun v => v.category).sum ≤ W) (hc : cells + rm.cells ≤ R.cells) (hs : slots + rm.slots ≤ R.slots) (n : Nat) (hd : decode c.code pc = .ok (.invokevirtual index, 3)) (hp : pc + 3 = n)
    (hr : ∀ v T' h' L, Stand p l e R s m args below meth c T' (locs ++ L) (cells + rm.cells) (slots + rm.slots) → T'.heap = h' → Q v h' L → Wout p e below P T' (mkF m n Ls (v.toList ++ rest))) : Wout p e below P T (mkF m pc Ls st) := by
  subst hp has hst
  obtain ⟨cq, kq, qa, qb, qc⟩ := isOf hZ eT E
  obtain ⟨v, vm₁, ⟨T', L', k', n'⟩, -, X', ⟨Lc, hQ, l1, y1, z1⟩, st⟩ := X.virtualBack hx hown (mv hZ w1) (mv hZ w5) (notFace_of_selects (args := #[]) (mv hZ w6)) (mv hZ w6) (mv hZ w2) hy (backOf (W := W) hM hZ w4 w3 hf hl) qa qc (g := mkF m pc Ls (argsL.reverse ++ .ref a :: rest)) rfl hsz (Steps.refl _) (argsL := argsL) (rest := rest) hlen rfl (by simpa using hW) hd (fun _ _ => ⟨rfl, eT, hc, hs⟩)
  dsimp only [Pt.U, Pt.locs, Pt.cells, Pt.slots] at X' l1 y1 z1 hQ st
  subst l1 y1 z1
  exact Wout.tr st (hr v T' T'.heap Lc X' rfl hQ)
theorem o_callP (X : Stand p l e R s m args below meth c T locs cells slots) (hx : p.tables.exec = Jvm.exec) (hZ : Z.Warmed39 s.vm) {own C : String} {index : Nat} {y z : MethodName} {bytes : ByteArray} {maxL : Nat} {ret : Option FieldType} (hown : s.vm.findClass own = some m.cls) (w1 : (Jvm.Cond.methodLink own index y).before a0 Z = true) (w6 : (Jvm.Cond.selects z.cls z z).before a0 Z = true) (hcz : z.cls = y.cls) (w2 : (Jvm.Cond.instanceMethod y).before a0 Z = true) (w7 : (Jvm.Cond.privateMethod y).before a0 Z = true) (w3 : (Jvm.Cond.initialized y.cls).before a0 Z = true) (w4 : (Jvm.Cond.code y bytes maxL ret).before a0 Z = true)
    (hy : y.cls ≠ "java/lang/invoke/MethodHandle" ∧ y.cls ≠ "java/lang/invoke/VarHandle") {rm : Room} {as' : Array Value} {Q : Option Value → Heap → List Loc → Prop} (hM : Met l Z y bytes maxL ret [] rm as' h Q) (eT : T.heap = h) (hf : rm.frames + 1 ≤ R.frames) (W : Nat) (hl : W + (maxL + 11) + rm.locals ≤ R.locals) (hsz : Ls.size = c.maxLocals) {a : Addr} (E : Exa Z h a C) (argsL : List Value) {st : List Value} (hlen : ∀ sig, parseMethodDescriptor y.desc = some sig → argsL.length = sig.parameters.length) (hst : st = argsL.reverse ++ .ref a :: rest) (has : (.ref a :: argsL).toArray = as')
    (hW : (rest.map fun v => v.category).sum ≤ W) (hc : cells + rm.cells ≤ R.cells) (hs : slots + rm.slots ≤ R.slots) (n : Nat) (hd : decode c.code pc = .ok (.invokevirtual index, 3)) (hp : pc + 3 = n)
    (hr : ∀ v T' h' L, Stand p l e R s m args below meth c T' (locs ++ L) (cells + rm.cells) (slots + rm.slots) → T'.heap = h' → Q v h' L → Wout p e below P T' (mkF m n Ls (v.toList ++ rest))) : Wout p e below P T (mkF m pc Ls st) := by
  subst hp has hst
  obtain ⟨cell, hcell, hobj⟩ := E.cell
  have hs0 : (Jvm.Cond.selects z.cls z z).before args s = true := mv hZ w6
  obtain ⟨c2, r2, m2, -, -, q3, -, kP, hkP, hkPi⟩ := Cond.selects_spec hs0
  have hpr := Cond.privateMethod_at (mvP (args := args) hZ w7)
  have hi : (Jvm.Cond.instanceMethod y).before args s = true := mv hZ w2
  have hcl : s.vm.findClass y.cls = some m2.cls := by rw [← hcz]; exact findClass_of_methodNamed q3
  have hsel : (Jvm.Cond.selects y.cls y y).before args s = true := selects_self_of_private hcl hkP hkPi hpr hi hy
  obtain ⟨v, vm₁, ⟨T', L', k', n'⟩, -, X', ⟨Lc, hQ, l1, y1, z1⟩, st⟩ := X.privateBack hx hown (mv hZ w1) hi hsel hpr (mv hZ w4) hy (backOf (W := W) hM hZ w4 w3 hf hl) (g := mkF m pc Ls (argsL.reverse ++ .ref a :: rest)) rfl hsz (Steps.refl _) (a := a) (cell := cell) (by rw [eT]; exact hcell) hobj (argsL := argsL) (rest := rest) hlen rfl (by simpa using hW) hd (fun _ _ => ⟨rfl, eT, hc, hs⟩)
  dsimp only [Pt.U, Pt.locs, Pt.cells, Pt.slots] at X' l1 y1 z1 hQ st
  subst l1 y1 z1
  exact Wout.tr st (hr v T' T'.heap Lc X' rfl hQ)
theorem o_callU (X : Stand p l e R s m args below meth c T locs cells slots) (hx : p.tables.exec = Jvm.exec) (hZ : Z.Warmed39 s.vm) {own C owner : String} {index : Nat} {y z : MethodName} {bytes : ByteArray} {maxL : Nat} {ret : Option FieldType} (hown : s.vm.findClass own = some m.cls) (w1 : (Jvm.Cond.methodLink own index y).before a0 Z = true) (w7 : (Jvm.Cond.sameMethod y.cls owner y.name y.desc).before a0 Z = true) (w5 : (Jvm.Cond.declares ⟨owner, y.name, y.desc⟩).before a0 Z = true) (w6 : (Jvm.Cond.selects C y z).before a0 Z = true) (w2 : (Jvm.Cond.instanceMethod z).before a0 Z = true) (w3 : (Jvm.Cond.initialized z.cls).before a0 Z = true) (w4 : (Jvm.Cond.code z bytes maxL ret).before a0 Z = true)
    (hy : owner ≠ "java/lang/invoke/MethodHandle" ∧ owner ≠ "java/lang/invoke/VarHandle") {rm : Room} {as' : Array Value} {Q : Option Value → Heap → List Loc → Prop} (hM : Met l Z z bytes maxL ret [] rm as' h Q) (eT : T.heap = h) (hf : rm.frames + 1 ≤ R.frames) (W : Nat) (hl : W + (maxL + 11) + rm.locals ≤ R.locals) (hsz : Ls.size = c.maxLocals) {a : Addr} (E : Exa Z h a C) (argsL : List Value) {st : List Value} (hlen : ∀ sig, parseMethodDescriptor y.desc = some sig → argsL.length = sig.parameters.length) (hst : st = argsL.reverse ++ .ref a :: rest) (has : (.ref a :: argsL).toArray = as')
    (hW : (rest.map fun v => v.category).sum ≤ W) (hc : cells + rm.cells ≤ R.cells) (hs : slots + rm.slots ≤ R.slots) (n : Nat) (hd : decode c.code pc = .ok (.invokevirtual index, 3)) (hp : pc + 3 = n)
    (hr : ∀ v T' h' L, Stand p l e R s m args below meth c T' (locs ++ L) (cells + rm.cells) (slots + rm.slots) → T'.heap = h' → Q v h' L → Wout p e below P T' (mkF m n Ls (v.toList ++ rest))) : Wout p e below P T (mkF m pc Ls st) := by
  subst hp has hst
  obtain ⟨cq, kq, qa, qb, qc⟩ := isOf hZ eT E
  obtain ⟨v, vm₁, ⟨T', L', k', n'⟩, -, X', ⟨Lc, hQ, l1, y1, z1⟩, st⟩ := X.virtualBackUp hx hown (mv hZ w1) (mv hZ w7) (mv hZ w5) hy (mv hZ w6) (mv hZ w2) (backOf (W := W) hM hZ w4 w3 hf hl) qa qc (g := mkF m pc Ls (argsL.reverse ++ .ref a :: rest)) rfl hsz (Steps.refl _) (argsL := argsL) (rest := rest) hlen rfl (by simpa using hW) hd (fun _ _ => ⟨rfl, eT, hc, hs⟩)
  dsimp only [Pt.U, Pt.locs, Pt.cells, Pt.slots] at X' l1 y1 z1 hQ st
  subst l1 y1 z1
  exact Wout.tr st (hr v T' T'.heap Lc X' rfl hQ)
/-! returns -/
theorem o_retW (X : Stand p l e R s m args below meth c T locs cells slots) (hx : p.tables.exec = Jvm.exec) {Q : Option Value → Heap → List Loc → Prop} {C S : Nat} {w w' : Value} {t : FieldType} {i : Instr} (hlk : meth.locks = false) (hret : meth.sig.returnType = some t) (hn : Jvm.narrow t w = w)
    (hi : (i = .ireturn ∧ (t = .int ∨ t = .boolean ∨ t = .byte ∨ t = .char ∨ t = .short) ∧ ∃ z, w = .int z) ∨ (i = .lreturn ∧ t = .long ∧ ∃ z, w = .long z) ∨ (i = .dreturn ∧ t = .double ∧ ∃ z, w = .double z) ∨ (i = .freturn ∧ t = .float ∧ ∃ z, w = .float z) ∨ (i = .areturn ∧ t.isReference = true ∧ w.isRef = true))
    (hd : decode c.code pc = .ok (i, 1)) (hc : cells ≤ C) (hs : slots ≤ S) (hq : Q (some w) T.heap locs) : Wout p e below (Pst s Q C S) T (mkF m pc Ls (w :: rest)) := by
  obtain ⟨fs, hr, hrun, hended, hW, hsame⟩ := X.leave (v := some w) (fun q => by rw [hret] at q; cases q) hlk
  exact ⟨_, _, retOut X hx hret hn hi hd hr, hrun, hended, _, _, rfl, hq, ⟨_, rfl⟩, hW, hsame.mono hc hs⟩
theorem o_retI (X : Stand p l e R s m args below meth c T locs cells slots) (hx : p.tables.exec = Jvm.exec) {Q : Option Value → Heap → List Loc → Prop} {C S : Nat} {x : Int32} {t : FieldType} (hlk : meth.locks = false) (hret : meth.sig.returnType = some t) (hn : Jvm.narrow t (.int x) = .int x) (ht : t = .int ∨ t = .boolean ∨ t = .byte ∨ t = .char ∨ t = .short)
    (hd : decode c.code pc = .ok (.ireturn, 1)) (hc : cells ≤ C) (hs : slots ≤ S) (hq : Q (some (.int x)) T.heap locs) : Wout p e below (Pst s Q C S) T (mkF m pc Ls (.int x :: rest)) :=
  o_retW X hx (w' := .null) hlk hret hn (Or.inl ⟨rfl, ht, x, rfl⟩) hd hc hs hq
theorem o_retL (X : Stand p l e R s m args below meth c T locs cells slots) (hx : p.tables.exec = Jvm.exec) {Q : Option Value → Heap → List Loc → Prop} {C S : Nat} {x : Int64} (hlk : meth.locks = false) (hret : meth.sig.returnType = some .long)
    (hd : decode c.code pc = .ok (.lreturn, 1)) (hc : cells ≤ C) (hs : slots ≤ S) (hq : Q (some (.long x)) T.heap locs) : Wout p e below (Pst s Q C S) T (mkF m pc Ls (.long x :: rest)) :=
  o_retW X hx (w' := .null) hlk hret rfl (Or.inr (Or.inl ⟨rfl, rfl, x, rfl⟩)) hd hc hs hq
theorem o_retA (X : Stand p l e R s m args below meth c T locs cells slots) (hx : p.tables.exec = Jvm.exec) {Q : Option Value → Heap → List Loc → Prop} {C S : Nat} {w : Value} {t : FieldType} (hlk : meth.locks = false) (hret : meth.sig.returnType = some t) (ht : t.isReference = true) (hw : w.isRef = true) (hn : Jvm.narrow t w = w)
    (hd : decode c.code pc = .ok (.areturn, 1)) (hc : cells ≤ C) (hs : slots ≤ S) (hq : Q (some w) T.heap locs) : Wout p e below (Pst s Q C S) T (mkF m pc Ls (w :: rest)) :=
  o_retW X hx (w' := .null) hlk hret hn (Or.inr (Or.inr (Or.inr (Or.inr ⟨rfl, ht, hw⟩)))) hd hc hs hq
theorem o_retD (X : Stand p l e R s m args below meth c T locs cells slots) (hx : p.tables.exec = Jvm.exec) {Q : Option Value → Heap → List Loc → Prop} {C S : Nat} {x : UInt64} (hlk : meth.locks = false) (hret : meth.sig.returnType = some .double)
    (hd : decode c.code pc = .ok (.dreturn, 1)) (hc : cells ≤ C) (hs : slots ≤ S) (hq : Q (some (.double x)) T.heap locs) : Wout p e below (Pst s Q C S) T (mkF m pc Ls (.double x :: rest)) :=
  o_retW X hx (w' := .null) hlk hret rfl (Or.inr (Or.inr (Or.inl ⟨rfl, rfl, x, rfl⟩))) hd hc hs hq
theorem o_retV (X : Stand p l e R s m args below meth c T locs cells slots) (hx : p.tables.exec = Jvm.exec) {Q : Option Value → Heap → List Loc → Prop} {C S : Nat} (hlk : meth.locks = false) (hret : meth.sig.returnType = none)
    (hd : decode c.code pc = .ok (.return_, 1)) (hc : cells ≤ C) (hs : slots ≤ S) (hq : Q none T.heap locs) : Wout p e below (Pst s Q C S) T (mkF m pc Ls []) := by
  obtain ⟨fs, hr, hrun, hended, hW, hsame⟩ := X.leave (v := none) (fun _ => rfl) hlk
  exact ⟨_, _, X.returnOut hx hret hd hr, hrun, hended, _, _, rfl, hq, ⟨_, rfl⟩, hW, hsame.mono hc hs⟩
/-! from the sheet's words -/
theorem fld_eq {t : Term} {a : Addr} {C n d : String} {k : Int32} (ev : t.eval args Z none [] Z = some (.ref a)) (q : (Jvm.Cond.eq (.field t C n d) (.int k)).value args Z none Z [] = some true) : Fld Z Z.heap a C n d (.int k) := by
  exact Fld.start ((fld_at ev).symm.trans (eqv_i rfl q))
theorem sta_bool {C n d : String} (w1 : (Jvm.Cond.initializedFor C n d).before args Z = true) (w2 : (Jvm.Cond.isInt (.static C n d)).before args Z = true) (w3 : (Jvm.Cond.not (.eq (.static C n d) (.int 0))).before args Z = true) : ∃ x : Int32, Sta Z Z.heap C n d (.int x) ∧ ¬ x = 0 := by
  obtain ⟨x, ev⟩ := is_v (Cond.before_iff.mp w2)
  refine ⟨x, Sta.start ev (Or.inl w1), fun q => ?_⟩
  have q2 := not_v (Cond.before_iff.mp w3)
  exact gotF (Cond.eq_ints ev rfl) q2 q
/-! numbers -/
theorem mask31 (x : Int32) : 0 ≤ (x &&& 2147483647).toInt := by
  have e := Jvm.Kit.i32_mask x 2147483647 (k := 31) (by decide) (by decide)
  omega
theorem rem_pos {y n : Int32} (hy : 0 ≤ y.toInt) (hn : 0 < n.toInt) : (y % n).toInt = y.toInt % n.toInt := by
  rw [Int32.toInt_mod, Int.tmod_eq_emod_of_nonneg hy]
theorem rem_in {y n : Int32} (hy : 0 ≤ y.toInt) (hn : 0 < n.toInt) : 0 ≤ (y % n).toInt ∧ (y % n).toInt < n.toInt := by
  rw [rem_pos hy hn]
  exact ⟨Int.emod_nonneg _ (by omega), Int.emod_lt_of_pos _ hn⟩
theorem in3 {k : Int32} (h1 : 0 ≤ k.toInt) (h2 : k.toInt < 3) : k = 0 ∨ k = 1 ∨ k = 2 := by
  have : k.toInt = 0 ∨ k.toInt = 1 ∨ k.toInt = 2 := by omega
  rcases this with q | q | q
  · exact Or.inl (Int32.toInt_inj.mp q)
  · exact Or.inr (Or.inl (Int32.toInt_inj.mp q))
  · exact Or.inr (Or.inr (Int32.toInt_inj.mp q))
theorem in4 {k : Int32} (h1 : 0 ≤ k.toInt) (h2 : k.toInt < 4) : k = 0 ∨ k = 1 ∨ k = 2 ∨ k = 3 := by
  have : k.toInt = 0 ∨ k.toInt = 1 ∨ k.toInt = 2 ∨ k.toInt = 3 := by omega
  rcases this with q | q | q | q
  · exact Or.inl (Int32.toInt_inj.mp q)
  · exact Or.inr (Or.inl (Int32.toInt_inj.mp q))
  · exact Or.inr (Or.inr (Or.inl (Int32.toInt_inj.mp q)))
  · exact Or.inr (Or.inr (Or.inr (Int32.toInt_inj.mp q)))
end K
end Jvm.OwnWalk
namespace Jvm.OwnWalk
open Sem ClassFile Op Lib Jvm.Stand Jvm.Free Jvm.LawKit Jvm.RoadKit
section KW
variable {p : Program} {l : Launch} {e : Env} {R : Room} {s : State} {m : MethodId} {args : Array Value} {below : List Frame} {meth : Method} {c : Code} {T : State} {locs : List Loc} {cells slots : Nat} {Z : State} {a0 : Array Value} {h : Heap} {P : Outcome → State → Prop} {pc : Nat} {Ls : Array Slot} {rest : List Value} {vm0 : Vm} {k0 : Nat}
def PstW (s : State) (Q : Option Value → Heap → List Loc → Vm → Prop) (C S : Nat) (o : Outcome) (U : State) : Prop := ∃ v L, o = .returned v ∧ Q v U.heap L U.vm ∧ ReturnedEndW s o U L C S
abbrev MetW (l : Launch) (Z : State) (y : MethodName) (bytes : ByteArray) (maxL : Nat) (ret : Option FieldType) (ws : List Jvm.Cond) (rm : Room) (as' : Array Value) (h0 : Heap) (Pv : Vm → Prop) (Q : Option Value → Heap → List Loc → Vm → Prop) : Prop :=
  MetFree l y (head1 (Jvm.Cond.code y bytes maxL ret :: ws) rm) (fun a U => a = as' ∧ Z.Warmed39 U.vm ∧ U.heap = h0 ∧ Pv U.vm) (fun _ _ _ _ _ => True) (fun _ U o U' => ∃ v L, o = .returned v ∧ Q v U'.heap L U'.vm ∧ ReturnedEndW U o U' L rm.cells rm.slots)
theorem MetW.start {y : MethodName} {bytes : ByteArray} {maxL : Nat} {ret : Option FieldType} {ws : List Jvm.Cond} {rm : Room} {as' : Array Value} {h0 : Heap} {Pv : Vm → Prop} {Q : Option Value → Heap → List Loc → Vm → Prop} (hpl : plainFor y = true)
    (H : ∀ (p : Program) (e : Env) (s : State) (m : MethodId) (below : List Frame) (meth : Method) (c : Code) (T : State) (vm0 : Vm) (k0 : Nat), Stand p l e rm (s.setVm vm0) m as' below meth c T [] 0 0 → p.tables.exec = Jvm.exec → c.code = bytes → c.maxLocals = maxL → (s.setVm vm0).vm.findClass y.cls = some m.cls → meth.name = y.name → meth.sig.returnType = ret → meth.locks = false → Z.Warmed39 (s.setVm vm0).vm → T.heap = h0 → s.Since vm0 k0 → k0 ≤ h0.size → Pv vm0 → s.heap = h0 → Wout p e below (PstW s Q rm.cells rm.slots) T (entryFrame m as' maxL)) :
    MetW l Z y bytes maxL ret ws rm as' h0 Pv Q := by
  refine MetFree.of_bodySF hpl hisR ?_
  intro p e s m args below meth c s₁ Bd hml0 hP hK
  obtain ⟨rfl, hZ, hh, hv⟩ := hP
  exact H p e s m below meth c s₁ s.vm s.heap.size (Stand.of_body Bd) Bd.exec Bd.bytes hml0 (findClass_of_methodNamed Bd.named) (name_of_methodNamed Bd.named Bd.method).1 Bd.returns Bd.notSynchronized hZ (by rw [← hh, Bd.state]; rfl) ⟨State.Warmed39.refl s, fun j q hj hq => absurd (Array.getElem?_eq_some_iff.mp hq).1 (Nat.not_lt.mpr hj)⟩ (by rw [hh]; exact Nat.le_refl _) hv hh
theorem backW {y : MethodName} {bytes : ByteArray} {maxL : Nat} {ret : Option FieldType} {rm : Room} {len W : Nat} {as' : Array Value} {Pv : Vm → Prop} {Q : Option Value → Heap → List Loc → Vm → Prop} (hM : MetW l Z y bytes maxL ret [] rm as' h Pv Q)
    (hZ : Z.Warmed39 s.vm) (wc : (Jvm.Cond.code y bytes maxL ret).before a0 Z = true) (wz : (Jvm.Cond.initialized y.cls).before a0 Z = true) (hf : rm.frames + 1 ≤ R.frames) (hl : W + (maxL + 11) + rm.locals ≤ R.locals) (hv : ∀ vm', s.WarmedH vm' → Pv vm') :
    BackS l R p e below s args y len W (fun A a => a = as' ∧ A.U.heap = h ∧ A.cells + rm.cells ≤ R.cells ∧ A.slots + rm.slots ≤ R.slots)
      (fun A _ v B => ∃ L, Q v B.U.heap L B.U.vm ∧ B.locs = A.locs ++ L ∧ B.cells = A.cells + rm.cells ∧ B.slots = A.slots + rm.slots) := by
  refine BackS.of_freeW (bytes := bytes) (maxL := maxL) (ret := ret) (E := fun _ _ o t L k n => k = rm.cells ∧ n = rm.slots ∧ ∃ v, o = .returned v ∧ Q v t.heap L t.vm) hM hf hl ?_ ?_ (fun _ _ _ _ _ _ _ _ _ => trivial) ?_ ?_
  · intro m meth c A a Y hp
    have hU : Z.Warmed39 A.U.vm := wtrans hZ Y.warmed
    refine ⟨?_, mv hU wc, mv hU wz, hp.2.2.1, hp.2.2.2⟩
    show (Jvm.Cond.and _ .tt).before a A.U = true
    rw [Cond.before_and, mv hU wc]
    rfl
  · intro m meth c A a g mk Y hp
    exact ⟨hp.1, wtrans hZ Y.warmed, hp.2.1, hv _ Y.warmed⟩
  · intro a first o t q
    obtain ⟨v, L, h1, h2, h3⟩ := q
    exact ⟨L, _, _, h3, rfl, rfl, v, h1, h2⟩
  · intro m meth c A a g mk v t L k n Y hp _ _ q
    obtain ⟨e1, e2, v', e3, e4⟩ := q
    cases e3
    subst e1 e2
    exact ⟨L, e4, rfl, rfl, rfl⟩
theorem o_callSW (X : Stand p l e R (s.setVm vm0) m args below meth c T locs cells slots) (hx : p.tables.exec = Jvm.exec) (hS : s.Since vm0 k0) (hk : k0 ≤ h.size) (hZ : Z.Warmed39 (s.setVm vm0).vm) {own : String} {index : Nat} {y : MethodName} {bytes : ByteArray} {maxL : Nat} {ret : Option FieldType} (hown : (s.setVm vm0).vm.findClass own = some m.cls) (w1 : (Jvm.Cond.methodLink own index y).before a0 Z = true) (w2 : (Jvm.Cond.static y).before a0 Z = true) (w3 : (Jvm.Cond.initialized y.cls).before a0 Z = true) (w4 : (Jvm.Cond.code y bytes maxL ret).before a0 Z = true)
    (hy : y.cls ≠ "java/lang/invoke/MethodHandle" ∧ y.cls ≠ "java/lang/invoke/VarHandle") {rm : Room} {as' : Array Value} {Pv : Vm → Prop} {Q : Option Value → Heap → List Loc → Vm → Prop} (hM : MetW l Z y bytes maxL ret [] rm as' h Pv Q) (hv : ∀ vm', (s.setVm vm0).WarmedH vm' → Pv vm') (eT : T.heap = h) (hf : rm.frames + 1 ≤ R.frames) (W : Nat) (hl : W + (maxL + 11) + rm.locals ≤ R.locals) (hsz : Ls.size = c.maxLocals) (argsL : List Value) {st : List Value} (hlen : ∀ sig, parseMethodDescriptor y.desc = some sig → argsL.length = sig.parameters.length) (hst : st = argsL.reverse ++ rest) (has : argsL.toArray = as')
    (hW : (rest.map fun v => v.category).sum ≤ W) (hc : cells + rm.cells ≤ R.cells) (hs : slots + rm.slots ≤ R.slots) (n : Nat) (hd : decode c.code pc = .ok (.invokestatic index, 3)) (hp : pc + 3 = n)
    (hr : ∀ v T' h' L vm1 k1, Stand p l e R (s.setVm vm1) m args below meth c T' (locs ++ L) (cells + rm.cells) (slots + rm.slots) → T'.heap = h' → s.Since vm1 k1 → k1 ≤ h'.size → Z.Warmed39 (s.setVm vm1).vm → (s.setVm vm1).vm.findClass own = some m.cls → (s.setVm vm0).Warmed39 vm1 → Q v h' L vm1 → Wout p e below P T' (mkF m n Ls (v.toList ++ rest))) : Wout p e below P T (mkF m pc Ls st) := by
  subst hp has hst
  obtain ⟨v, vm₁, ⟨T', L', k', n'⟩, -, X', h2, gr, ⟨Lc, hQ, l1, y1, z1⟩, st⟩ := callSS X hx hown (mv hZ w1) (mv hZ w2) (mv hZ w3) (mv hZ w4) hy (backW (W := W) hM hZ w4 w3 hf hl hv) (g := mkF m pc Ls (argsL.reverse ++ rest)) rfl hsz (argsL := argsL) (rest := rest) hlen rfl (by simpa using hW) hd (fun _ _ => ⟨rfl, eT, hc, hs⟩)
  dsimp only [Pt.U, Pt.locs, Pt.cells, Pt.slots] at X' l1 y1 z1 hQ st h2 gr
  subst l1 y1 z1
  obtain ⟨X2, h3, hZ2, hown2⟩ := rebS hS (by rw [eT]; exact hk) X' h2 gr hZ hown
  exact Wout.tr st (hr v T' T'.heap Lc _ _ X2 rfl h3 (Nat.le_refl _) hZ2 hown2 h2.1 hQ)
theorem o_callIW (X : Stand p l e R (s.setVm vm0) m args below meth c T locs cells slots) (hx : p.tables.exec = Jvm.exec) (hS : s.Since vm0 k0) (hk : k0 ≤ h.size) (hZ : Z.Warmed39 (s.setVm vm0).vm) {own : String} {index : Nat} {y : MethodName} {bytes : ByteArray} {maxL : Nat} (hy1 : y.name = "<init>") (hown : (s.setVm vm0).vm.findClass own = some m.cls) (w1 : (Jvm.Cond.methodLink own index y).before a0 Z = true) (w2 : (Jvm.Cond.instanceMethod y).before a0 Z = true) (w3 : (Jvm.Cond.initialized y.cls).before a0 Z = true) (w4 : (Jvm.Cond.code y bytes maxL none).before a0 Z = true)
    (hy : y.cls ≠ "java/lang/invoke/MethodHandle" ∧ y.cls ≠ "java/lang/invoke/VarHandle") {rm : Room} {as' : Array Value} {Pv : Vm → Prop} {Q : Option Value → Heap → List Loc → Vm → Prop} (hM : MetW l Z y bytes maxL none [] rm as' h Pv Q) (hv : ∀ vm', (s.setVm vm0).WarmedH vm' → Pv vm') (eT : T.heap = h) (hf : rm.frames + 1 ≤ R.frames) (W : Nat) (hl : W + (maxL + 11) + rm.locals ≤ R.locals) (hsz : Ls.size = c.maxLocals) {a : Addr} (argsL : List Value) {st : List Value} (hlen : ∀ sig, parseMethodDescriptor y.desc = some sig → argsL.length = sig.parameters.length) (hst : st = argsL.reverse ++ .ref a :: rest) (has : (.ref a :: argsL).toArray = as')
    (hW : (rest.map fun v => v.category).sum ≤ W) (hc : cells + rm.cells ≤ R.cells) (hs : slots + rm.slots ≤ R.slots) (n : Nat) (hd : decode c.code pc = .ok (.invokespecial index, 3)) (hp : pc + 3 = n)
    (hr : ∀ v T' h' L vm1 k1, Stand p l e R (s.setVm vm1) m args below meth c T' (locs ++ L) (cells + rm.cells) (slots + rm.slots) → T'.heap = h' → s.Since vm1 k1 → k1 ≤ h'.size → Z.Warmed39 (s.setVm vm1).vm → (s.setVm vm1).vm.findClass own = some m.cls → (s.setVm vm0).Warmed39 vm1 → Q v h' L vm1 → Wout p e below P T' (mkF m n Ls (v.toList ++ rest))) : Wout p e below P T (mkF m pc Ls st) := by
  subst hp has hst
  obtain ⟨v, vm₁, ⟨T', L', k', n'⟩, -, X', h2, gr, ⟨Lc, hQ, l1, y1, z1⟩, st⟩ := X.specialBackS hx hy1 hown (mv hZ w1) (mv hZ w2) (mv hZ w4) hy (backW (W := W) hM hZ w4 w3 hf hl hv) (g := mkF m pc Ls (argsL.reverse ++ .ref a :: rest)) rfl hsz (Steps.refl _) (a := a) (argsL := argsL) (rest := rest) hlen rfl (by simpa using hW) hd (fun _ _ => ⟨rfl, eT, hc, hs⟩)
  dsimp only [Pt.U, Pt.locs, Pt.cells, Pt.slots] at X' l1 y1 z1 hQ st h2 gr
  subst l1 y1 z1
  obtain ⟨X2, h3, hZ2, hown2⟩ := rebS hS (by rw [eT]; exact hk) X' h2 gr hZ hown
  exact Wout.tr st (hr v T' T'.heap Lc _ _ X2 rfl h3 (Nat.le_refl _) hZ2 hown2 h2.1 hQ)
theorem o_callVW (X : Stand p l e R (s.setVm vm0) m args below meth c T locs cells slots) (hx : p.tables.exec = Jvm.exec) (hS : s.Since vm0 k0) (hk : k0 ≤ h.size) (hZ : Z.Warmed39 (s.setVm vm0).vm) {own C : String} {index : Nat} {y : MethodName} {bytes : ByteArray} {maxL : Nat} {ret : Option FieldType} (hown : (s.setVm vm0).vm.findClass own = some m.cls) (w1 : (Jvm.Cond.methodLink own index y).before a0 Z = true) (w5 : (Jvm.Cond.declares y).before a0 Z = true) (w6 : (Jvm.Cond.selects C y y).before a0 Z = true) (w2 : (Jvm.Cond.instanceMethod y).before a0 Z = true) (w3 : (Jvm.Cond.initialized y.cls).before a0 Z = true) (w4 : (Jvm.Cond.code y bytes maxL ret).before a0 Z = true)
    (hy : y.cls ≠ "java/lang/invoke/MethodHandle" ∧ y.cls ≠ "java/lang/invoke/VarHandle") {rm : Room} {as' : Array Value} {Pv : Vm → Prop} {Q : Option Value → Heap → List Loc → Vm → Prop} (hM : MetW l Z y bytes maxL ret [] rm as' h Pv Q) (hv : ∀ vm', (s.setVm vm0).WarmedH vm' → Pv vm') (eT : T.heap = h) (hf : rm.frames + 1 ≤ R.frames) (W : Nat) (hl : W + (maxL + 11) + rm.locals ≤ R.locals) (hsz : Ls.size = c.maxLocals) {a : Addr} (E : Exa Z h a C) (argsL : List Value) {st : List Value} (hlen : ∀ sig, parseMethodDescriptor y.desc = some sig → argsL.length = sig.parameters.length) (hst : st = argsL.reverse ++ .ref a :: rest) (has : (.ref a :: argsL).toArray = as')
    (hW : (rest.map fun v => v.category).sum ≤ W) (hc : cells + rm.cells ≤ R.cells) (hs : slots + rm.slots ≤ R.slots) (n : Nat) (hd : decode c.code pc = .ok (.invokevirtual index, 3)) (hp : pc + 3 = n)
    (hr : ∀ v T' h' L vm1 k1, Stand p l e R (s.setVm vm1) m args below meth c T' (locs ++ L) (cells + rm.cells) (slots + rm.slots) → T'.heap = h' → s.Since vm1 k1 → k1 ≤ h'.size → Z.Warmed39 (s.setVm vm1).vm → (s.setVm vm1).vm.findClass own = some m.cls → (s.setVm vm0).Warmed39 vm1 → Q v h' L vm1 → Wout p e below P T' (mkF m n Ls (v.toList ++ rest))) : Wout p e below P T (mkF m pc Ls st) := by
  subst hp has hst
  obtain ⟨cq, kq, qa, qb, qc⟩ := isOf hZ eT E
  obtain ⟨v, vm₁, ⟨T', L', k', n'⟩, -, X', h2, gr, ⟨Lc, hQ, l1, y1, z1⟩, st⟩ := X.virtualBackS hx hown (mv hZ w1) (mv hZ w5) (notFace_of_selects (args := #[]) (mv hZ w6)) (mv hZ w6) (mv hZ w2) hy (backW (W := W) hM hZ w4 w3 hf hl hv) qa qc (g := mkF m pc Ls (argsL.reverse ++ .ref a :: rest)) rfl hsz (Steps.refl _) (argsL := argsL) (rest := rest) hlen rfl (by simpa using hW) hd (fun _ _ => ⟨rfl, eT, hc, hs⟩)
  dsimp only [Pt.U, Pt.locs, Pt.cells, Pt.slots] at X' l1 y1 z1 hQ st h2 gr
  subst l1 y1 z1
  obtain ⟨X2, h3, hZ2, hown2⟩ := rebS hS (by rw [eT]; exact hk) X' h2 gr hZ hown
  exact Wout.tr st (hr v T' T'.heap Lc _ _ X2 rfl h3 (Nat.le_refl _) hZ2 hown2 h2.1 hQ)
theorem o_retWW (X : Stand p l e R (s.setVm vm0) m args below meth c T locs cells slots) (hx : p.tables.exec = Jvm.exec) (hS : s.Since vm0 k0) (hk : k0 ≤ T.heap.size) {Q : Option Value → Heap → List Loc → Vm → Prop} {C S : Nat} {w : Value} {t : FieldType} {i : Instr} (hlk : meth.locks = false) (hret : meth.sig.returnType = some t) (hn : Jvm.narrow t w = w)
    (hi : (i = .ireturn ∧ (t = .int ∨ t = .boolean ∨ t = .byte ∨ t = .char ∨ t = .short) ∧ ∃ z, w = .int z) ∨ (i = .lreturn ∧ t = .long ∧ ∃ z, w = .long z) ∨ (i = .dreturn ∧ t = .double ∧ ∃ z, w = .double z) ∨ (i = .freturn ∧ t = .float ∧ ∃ z, w = .float z) ∨ (i = .areturn ∧ t.isReference = true ∧ w.isRef = true))
    (hd : decode c.code pc = .ok (i, 1)) (hc : cells ≤ C) (hs : slots ≤ S) (hq : Q (some w) T.heap locs T.vm) : Wout p e below (PstW s Q C S) T (mkF m pc Ls (w :: rest)) := by
  obtain ⟨fs, hr, hrun, hended, h1, h2, h3, h4⟩ := X.leaveW hS hk (v := some w) (fun q => by rw [hret] at q; cases q) hlk
  exact ⟨_, _, retOut X hx hret hn hi hd hr, hrun, hended, _, _, rfl, hq, h1, h2, h3, h4.mono hc hs⟩
theorem o_retIW (X : Stand p l e R (s.setVm vm0) m args below meth c T locs cells slots) (hx : p.tables.exec = Jvm.exec) (hS : s.Since vm0 k0) (hk : k0 ≤ T.heap.size) {Q : Option Value → Heap → List Loc → Vm → Prop} {C S : Nat} {x : Int32} {t : FieldType} (hlk : meth.locks = false) (hret : meth.sig.returnType = some t) (hn : Jvm.narrow t (.int x) = .int x) (ht : t = .int ∨ t = .boolean ∨ t = .byte ∨ t = .char ∨ t = .short)
    (hd : decode c.code pc = .ok (.ireturn, 1)) (hc : cells ≤ C) (hs : slots ≤ S) (hq : Q (some (.int x)) T.heap locs T.vm) : Wout p e below (PstW s Q C S) T (mkF m pc Ls (.int x :: rest)) :=
  o_retWW X hx hS hk hlk hret hn (Or.inl ⟨rfl, ht, x, rfl⟩) hd hc hs hq
theorem o_retAW (X : Stand p l e R (s.setVm vm0) m args below meth c T locs cells slots) (hx : p.tables.exec = Jvm.exec) (hS : s.Since vm0 k0) (hk : k0 ≤ T.heap.size) {Q : Option Value → Heap → List Loc → Vm → Prop} {C S : Nat} {w : Value} {t : FieldType} (hlk : meth.locks = false) (hret : meth.sig.returnType = some t) (ht : t.isReference = true) (hw : w.isRef = true) (hn : Jvm.narrow t w = w)
    (hd : decode c.code pc = .ok (.areturn, 1)) (hc : cells ≤ C) (hs : slots ≤ S) (hq : Q (some w) T.heap locs T.vm) : Wout p e below (PstW s Q C S) T (mkF m pc Ls (w :: rest)) :=
  o_retWW X hx hS hk hlk hret hn (Or.inr (Or.inr (Or.inr (Or.inr ⟨rfl, ht, hw⟩)))) hd hc hs hq
theorem o_retVW (X : Stand p l e R (s.setVm vm0) m args below meth c T locs cells slots) (hx : p.tables.exec = Jvm.exec) (hS : s.Since vm0 k0) (hk : k0 ≤ T.heap.size) {Q : Option Value → Heap → List Loc → Vm → Prop} {C S : Nat} (hlk : meth.locks = false) (hret : meth.sig.returnType = none)
    (hd : decode c.code pc = .ok (.return_, 1)) (hc : cells ≤ C) (hs : slots ≤ S) (hq : Q none T.heap locs T.vm) : Wout p e below (PstW s Q C S) T (mkF m pc Ls []) := by
  obtain ⟨fs, hr, hrun, hended, h1, h2, h3, h4⟩ := X.leaveW hS hk (v := none) (fun _ => rfl) hlk
  exact ⟨_, _, X.returnOut hx hret hd hr, hrun, hended, _, _, rfl, hq, h1, h2, h3, h4.mono hc hs⟩
theorem o_ldcS (X : Stand p l e R (s.setVm vm0) m args below meth c T locs cells slots) (hx : p.tables.exec = Jvm.exec) (hS : s.Since vm0 k0) (hk : k0 ≤ h.size) (hZ : Z.Warmed39 (s.setVm vm0).vm) {own text : String} {index : Nat} (hown : (s.setVm vm0).vm.findClass own = some m.cls) (w : (Jvm.Cond.stringLink own index text).before a0 Z = true) (wS : ∀ a ∈ Bundle.stringAtoms, a.before a0 Z = true) (eT : T.heap = h) (n : Nat) (hd : decode c.code pc = .ok (.ldc index, 2)) (hp : pc + 2 = n) (q : Nat) (hn : 4 * text.toList.length ≤ q) (hbig : q ≤ 536870912) (hc : cells + 2 ≤ R.cells) (hl : slots + (q + 4) ≤ R.slots)
    (hr : ∀ a T' h' vm1 k1, Stand p l e R (s.setVm vm1) m args below meth c T' locs (cells + 2) (slots + (q + 4)) → T'.heap = h' → Ext h h' → s.Since vm1 k1 → k1 ≤ h'.size → Z.Warmed39 (s.setVm vm1).vm → (s.setVm vm1).vm.findClass own = some m.cls → Wout p e below P T' (mkF m n Ls (.ref a :: rest))) : Wout p e below P T (mkF m pc Ls rest) := by
  subst hp
  obtain ⟨a, T', h', k1, X', e', E, hS', hk', hZ', hown', st⟩ := ldcS X hx hZ hown w wS eT hS hk (g := mkF m pc Ls rest) rfl hd hn hbig hc hl
  exact Wout.of st (hr a T' h' _ k1 X' e' E hS' hk' hZ' hown')
/-- the tables vm book the String a at an entry -/
def LitV (Z : State) (vm : Vm) (own : String) (index : Nat) (a : Addr) : Prop := Lit (Z.setVm vm) own index a
theorem LitV.of {own : String} {index : Nat} {a : Addr} (L : Lit (s.setVm vm0) own index a) : LitV Z vm0 own index a := L
theorem LitV.stay {own : String} {index : Nat} {a : Addr} {vm1 : Vm} (L : LitV Z vm0 own index a) (hW : (s.setVm vm0).Warmed39 vm1) : LitV Z vm1 own index a := (Lit.stays (s := s) (show Lit (s.setVm vm0) own index a from L) hW :)
theorem LitV.stayH {own : String} {index : Nat} {a : Addr} {vm1 : Vm} (L : LitV Z vm0 own index a) (hW : (s.setVm vm0).WarmedH vm1) : LitV Z vm1 own index a := L.stay hW.wide
theorem o_ldcA (X : Stand p l e R (s.setVm vm0) m args below meth c T locs cells slots) (hx : p.tables.exec = Jvm.exec) (hZ : Z.Warmed39 (s.setVm vm0).vm) {own text : String} {index : Nat} (hown : (s.setVm vm0).vm.findClass own = some m.cls) (w : (Jvm.Cond.stringLink own index text).before a0 Z = true) {a : Addr} (L : LitV Z vm0 own index a) (n : Nat) (hd : decode c.code pc = .ok (.ldc index, 2)) (hp : pc + 2 = n) (hr : Wout p e below P T (mkF m n Ls (.ref a :: rest))) : Wout p e below P T (mkF m pc Ls rest) := by
  subst hp
  exact Wout.of (ldcAgain X hx hZ hown w (show Lit (s.setVm vm0) own index a from L) (g := mkF m pc Ls rest) rfl hd) hr
theorem o_ldcC (X : Stand p l e R (s.setVm vm0) m args below meth c T locs cells slots) (hx : p.tables.exec = Jvm.exec) (hS : s.Since vm0 k0) (hk : k0 ≤ h.size) (hZ : Z.Warmed39 (s.setVm vm0).vm) {own text : String} {index : Nat} (hown : (s.setVm vm0).vm.findClass own = some m.cls) (w : (Jvm.Cond.stringLink own index text).before a0 Z = true) (wS : ∀ a ∈ Bundle.stringAtoms, a.before a0 Z = true) (eT : T.heap = h) (n : Nat) (hd : decode c.code pc = .ok (.ldc index, 2)) (hp : pc + 2 = n) (q : Nat) (hn : 4 * text.toList.length ≤ q) (hbig : q ≤ 536870912) (hc : cells + 2 ≤ R.cells) (hl : slots + (q + 4) ≤ R.slots)
    (hr : ∀ a T' h' vm1 k1, Stand p l e R (s.setVm vm1) m args below meth c T' locs (cells + 2) (slots + (q + 4)) → T'.heap = h' → Ext h h' → s.Since vm1 k1 → k1 ≤ h'.size → Z.Warmed39 (s.setVm vm1).vm → (s.setVm vm1).vm.findClass own = some m.cls → (s.setVm vm0).Warmed39 vm1 → LitV Z vm1 own index a → Wout p e below P T' (mkF m n Ls (.ref a :: rest))) : Wout p e below P T (mkF m pc Ls rest) := by
  subst hp
  obtain ⟨a, T', X', hS', ⟨kk, hkk, hrr⟩, hb, -, st⟩ := X.ldcStringCold hx (own := own) hown (mvS hZ w) (fun d hd => by
    have q := wS d hd
    simp only [Bundle.stringAtoms, List.mem_cons, List.not_mem_nil, or_false] at hd
    rcases hd with rfl | rfl | rfl | rfl | rfl | rfl | rfl
    · exact mv hZ q
    · exact mv hZ q
    · exact mvA hZ q
    · exact mv hZ q
    · exact mv hZ q
    · exact mv hZ q
    · exact mv hZ q) (g := mkF m pc Ls rest) rfl hd hn hbig hc hl
  subst eT
  have E := ext_of hb
  have hown' : (s.setVm T'.vm).vm.findClass own = some m.cls := (hS'.1.alike.findClass _ _).trans hown
  have hL : LitV Z T'.vm own index a := by
    show (Z.setVm T'.vm).resolvedAt? own index = some (.string a)
    have q1 : T'.vm.findClass own = some m.cls := hown'
    simp [State.resolvedAt?, q1, hkk, hrr]
  exact Wout.of st (hr a T' T'.heap T'.vm T'.heap.size X' rfl E (hS.trans hS' (Nat.le_trans hk E.1)) (Nat.le_refl _) (State.Warmed39.trans (t := s.setVm vm0) hZ hS'.1) hown' hS'.1 hL)
/-- a String constant of which the assumed word speaks: what it is -/
theorem o_ldcH (X : Stand p l e R (s.setVm vm0) m args below meth c T locs cells slots) (hx : p.tables.exec = Jvm.exec) (hS : s.Since vm0 k0) (hk : k0 ≤ h.size) (hZ : Z.Warmed39 (s.setVm vm0).vm) {own text : String} {index : Nat} {Ts : List String} (hown : (s.setVm vm0).vm.findClass own = some m.cls) (w : (Jvm.Cond.stringLink own index text).before a0 Z = true) (wS : ∀ a ∈ Bundle.stringAtoms, a.before a0 Z = true) (eT : T.heap = h) (N0 : Fr s.heap.size locs) (hkeep : ∀ (b : Addr) (cl : Cell), Z.heap[b]? = some cl → s.heap[b]? = some cl) (I : IB Z vm0 Ts) (hnot : text ∉ Ts) (hh : Jvm.Lit.constHeld Z own index) (hcw : Jvm.Lit.compactW.before a0 Z = true)
    {vs : List Value} {z : Int32} (ht : (∀ c ∈ text.toList, c.toNat < 256) ∧ text.toList.map (fun c => Value.int (Jvm.Lit.byteI c.toNat.toUInt16)) = vs) (hz : ¬ z < 0) (hl : z.toNatClampNeg = vs.length) (n : Nat) (hd : decode c.code pc = .ok (.ldc index, 2)) (hp : pc + 2 = n) (q : Nat) (hn : 4 * text.toList.length ≤ q) (hbig : q ≤ 536870912) (hc : cells + 2 ≤ R.cells) (hl' : slots + (q + 4) ≤ R.slots)
    (hr : ∀ a T' h' vm1 k1 b k, Stand p l e R (s.setVm vm1) m args below meth c T' locs (cells + 2) (slots + (q + 4)) → T'.heap = h' → Ext h h' → s.Since vm1 k1 → k1 ≤ h'.size → Z.Warmed39 (s.setVm vm1).vm → (s.setVm vm1).vm.findClass own = some m.cls → Exa Z h' a "java/lang/String" → Fld Z h' a "java/lang/String" "coder" "B" (.int 0) → Fld Z h' a "java/lang/String" "value" "[B" (.ref b) → Arv Z h' b k .byte z vs (.int 0) → LitV Z vm1 own index a → Wout p e below P T' (mkF m n Ls (.ref a :: rest))) : Wout p e below P T (mkF m pc Ls rest) := by
  subst hp
  obtain ⟨a, T', h', k1, b, k, X', e', E, hS', hk', hZ', hown', q1, q2, q3, q4, -, -, -, L, st⟩ := ldcSVL X hx hZ hown w wS eT hS hk N0 hkeep I hnot hh hcw ht hz hl (g := mkF m pc Ls rest) rfl hd hn hbig hc hl'
  exact Wout.of st (hr a T' h' _ k1 b k X' e' E hS' hk' hZ' hown' q1 q2 q3 q4 (LitV.of L))
theorem ib_stayH {vm' : Vm} {Ts : List String} (I : IB Z vm0 Ts) (hW : (s.setVm vm0).WarmedH vm') : IB Z vm' Ts := by
  obtain ⟨more, e, hm⟩ := I
  exact ⟨more, (show vm'.interned = vm0.interned from hW.interned_eq).trans e, hm⟩
theorem fld_inj {a : Addr} {C nm d : String} {v v' : Value} (F : Fld Z h a C nm d v) (F' : Fld Z h a C nm d v') : v = v' := by
  obtain ⟨cell1, cf1, kf1, i1, f1, g1, g2, g3, g4, g5, g6, g7⟩ := F
  obtain ⟨cell2, cf2, kf2, i2, f2, v1, v2, v3, v4, v5, v6, v7⟩ := F'
  cases g1.symm.trans v1
  cases g2.symm.trans v2
  exact Option.some.inj (g7.symm.trans v7)
end KW
end Jvm.OwnWalk
namespace Jvm.Pilot.@@N@@
open Jvm Jvm.ClassFile Sem Op Lib Jvm.Free Jvm.Stand Jvm.LawKit Jvm.RoadKit Jvm.OwnWalk Bundle Jvm.Pilot.@@N@@.Jvm.D
theorem d_jdk_31_method_11_0 : decode jdk_31_method_11_code 0 = .ok (.aload_n 0, 1) := by decide +kernel
theorem d_jdk_31_method_11_1 : decode jdk_31_method_11_code 1 = .ok (.ifnonnull 12, 3) := by decide +kernel
theorem d_jdk_31_method_11_4 : decode jdk_31_method_11_code 4 = .ok (.new 84, 3) := by decide +kernel
theorem d_jdk_31_method_11_7 : decode jdk_31_method_11_code 7 = .ok (.dup, 1) := by decide +kernel
theorem d_jdk_31_method_11_8 : decode jdk_31_method_11_code 8 = .ok (.aload_n 1, 1) := by decide +kernel
theorem d_jdk_31_method_11_9 : decode jdk_31_method_11_code 9 = .ok (.invokespecial 87, 3) := by decide +kernel
theorem d_jdk_31_method_11_12 : decode jdk_31_method_11_code 12 = .ok (.athrow, 1) := by decide +kernel
theorem d_jdk_31_method_11_13 : decode jdk_31_method_11_code 13 = .ok (.aload_n 0, 1) := by decide +kernel
theorem d_jdk_31_method_11_14 : decode jdk_31_method_11_code 14 = .ok (.areturn, 1) := by decide +kernel
theorem pn_0 : plainName "java/util/Objects" = true := by first | (simp [plainName, overriddenIn]; done) | decide +kernel
def Q_rnn (Z : State) (a1 a2 : Addr) (h0 : Heap) (n0 : Nat) (v : Option Value) (h : Heap) (L : List Loc) : Prop := v = some (.ref a1) ∧ Fr n0 L ∧ h = h0
set_option maxRecDepth 65536 in
set_option maxHeartbeats 40000000 in
theorem rm_rnn (l : Launch) (Z : State) (a0 : Array Value) (hw : ∀ d ∈ tables_1, d.before a0 Z = true) (ws : List Jvm.Cond) (a1 a2 : Addr) (h0 : Heap) (n0 : Nat) (Z0 : n0 ≤ h0.size)  :
    Met l Z (⟨"java/util/Objects", "requireNonNull", "(Ljava/lang/Object;Ljava/lang/String;)Ljava/lang/Object;"⟩ : MethodName) jdk_31_method_11_code 2 (some (.object "java/lang/Object")) ws ({ frames := 0, cells := 0, slots := 0, locals := 0 } : Room) #[(.ref a1), (.ref a2)] h0 (Q_rnn Z a1 a2 h0 n0) := by
  refine Met.start (plainFor_of_name pn_0) ?_
  intro p e s m below meth c T X hx hby hml hown hnm hret hlk hZ eT
  have N := Fr.nil n0
  refine Wout.cast (g' := (mkF m 0 #[.val (.ref a1), .val (.ref a2)] [])) (by first | (simp [entryFrame, mkF, argsToLocals, Value.category]; done) | rfl) ?_
  refine o_aloadN X hx 1 (hb hby d_jdk_31_method_11_0) rfl rfl rfl ?_
  refine o_ifnonnullT X hx 13 (hb hby d_jdk_31_method_11_1) rfl ?_
  refine o_aloadN X hx 14 (hb hby d_jdk_31_method_11_13) rfl rfl rfl ?_
  exact o_retA X hx hlk hret rfl rfl rfl (hb hby d_jdk_31_method_11_14) (by decide) (by decide) (by rw [eT]; exact ⟨rfl, N, rfl⟩)
theorem d_method_2_0 : decode method_2_code 0 = .ok (.iload_n 0, 1) := by decide +kernel
theorem d_method_2_1 : decode method_2_code 1 = .ok (.ldc 7, 2) := by decide +kernel
theorem d_method_2_3 : decode method_2_code 3 = .ok (.iand, 1) := by decide +kernel
theorem d_method_2_4 : decode method_2_code 4 = .ok (.bipush 7, 2) := by decide +kernel
theorem d_method_2_6 : decode method_2_code 6 = .ok (.irem, 1) := by decide +kernel
theorem d_method_2_7 : decode method_2_code 7 = .ok (.istore_n 1, 1) := by decide +kernel
theorem d_method_2_8 : decode method_2_code 8 = .ok (.iload_n 1, 1) := by decide +kernel
theorem d_method_2_9 : decode method_2_code 9 = .ok (.ifCond .ne 7, 3) := by decide +kernel
theorem d_method_2_12 : decode method_2_code 12 = .ok (.getstatic 8, 3) := by decide +kernel
theorem d_method_2_15 : decode method_2_code 15 = .ok (.areturn, 1) := by decide +kernel
theorem d_method_2_16 : decode method_2_code 16 = .ok (.iload_n 1, 1) := by decide +kernel
theorem d_method_2_17 : decode method_2_code 17 = .ok (.iconst 1, 1) := by decide +kernel
theorem d_method_2_18 : decode method_2_code 18 = .ok (.if_icmp .ne 7, 3) := by decide +kernel
theorem d_method_2_21 : decode method_2_code 21 = .ok (.getstatic 14, 3) := by decide +kernel
theorem d_method_2_24 : decode method_2_code 24 = .ok (.areturn, 1) := by decide +kernel
theorem d_method_2_25 : decode method_2_code 25 = .ok (.iload_n 1, 1) := by decide +kernel
theorem d_method_2_26 : decode method_2_code 26 = .ok (.iconst 2, 1) := by decide +kernel
theorem d_method_2_27 : decode method_2_code 27 = .ok (.if_icmp .ne 7, 3) := by decide +kernel
theorem d_method_2_30 : decode method_2_code 30 = .ok (.getstatic 17, 3) := by decide +kernel
theorem d_method_2_33 : decode method_2_code 33 = .ok (.areturn, 1) := by decide +kernel
theorem d_method_2_34 : decode method_2_code 34 = .ok (.iload_n 1, 1) := by decide +kernel
theorem d_method_2_35 : decode method_2_code 35 = .ok (.iconst 3, 1) := by decide +kernel
theorem d_method_2_36 : decode method_2_code 36 = .ok (.if_icmp .ne 7, 3) := by decide +kernel
theorem d_method_2_39 : decode method_2_code 39 = .ok (.getstatic 20, 3) := by decide +kernel
theorem d_method_2_42 : decode method_2_code 42 = .ok (.areturn, 1) := by decide +kernel
theorem d_method_2_43 : decode method_2_code 43 = .ok (.iload_n 1, 1) := by decide +kernel
theorem d_method_2_44 : decode method_2_code 44 = .ok (.iconst 4, 1) := by decide +kernel
theorem d_method_2_45 : decode method_2_code 45 = .ok (.if_icmp .ne 7, 3) := by decide +kernel
theorem d_method_2_48 : decode method_2_code 48 = .ok (.getstatic 23, 3) := by decide +kernel
theorem d_method_2_51 : decode method_2_code 51 = .ok (.areturn, 1) := by decide +kernel
theorem d_method_2_52 : decode method_2_code 52 = .ok (.iload_n 1, 1) := by decide +kernel
theorem d_method_2_53 : decode method_2_code 53 = .ok (.iconst 5, 1) := by decide +kernel
theorem d_method_2_54 : decode method_2_code 54 = .ok (.if_icmp .ne 7, 3) := by decide +kernel
theorem d_method_2_57 : decode method_2_code 57 = .ok (.getstatic 26, 3) := by decide +kernel
theorem d_method_2_60 : decode method_2_code 60 = .ok (.areturn, 1) := by decide +kernel
theorem d_method_2_61 : decode method_2_code 61 = .ok (.getstatic 29, 3) := by decide +kernel
theorem d_method_2_64 : decode method_2_code 64 = .ok (.areturn, 1) := by decide +kernel
theorem pn_1 : plainName "com/example/nestx/nestx/TransactionDefinitionWithIsolationPinLaw" = true := by first | (simp [plainName, overriddenIn]; done) | decide +kernel
def Q_prop (Z : State) (k : Int32) (a_REQUIRED a_SUPPORTS a_MANDATORY a_REQUIRES_NEW a_NOT_SUPPORTED a_NEVER a_NESTED : Addr) (h0 : Heap) (n0 : Nat) (v : Option Value) (h : Heap) (L : List Loc) : Prop := ∃ b : Addr, v = some (.ref b) ∧ Fr n0 L ∧ h = h0 ∧ Exa Z Z.heap b "com/example/nestx/nestx/Propagation"
set_option maxRecDepth 65536 in
set_option maxHeartbeats 40000000 in
theorem rm_prop (l : Launch) (Z : State) (a0 : Array Value) (hw : ∀ d ∈ tables_1, d.before a0 Z = true) (ws : List Jvm.Cond) (k : Int32) (a_REQUIRED a_SUPPORTS a_MANDATORY a_REQUIRES_NEW a_NOT_SUPPORTED a_NEVER a_NESTED : Addr) (h0 : Heap) (n0 : Nat) (Z0 : n0 ≤ h0.size) (O : Old Z n0 h0) (S_REQUIRED : Sta Z Z.heap "com/example/nestx/nestx/Propagation" "REQUIRED" "Lcom/example/nestx/nestx/Propagation;" (.ref a_REQUIRED)) (E_REQUIRED : Exa Z Z.heap a_REQUIRED "com/example/nestx/nestx/Propagation") (S_SUPPORTS : Sta Z Z.heap "com/example/nestx/nestx/Propagation" "SUPPORTS" "Lcom/example/nestx/nestx/Propagation;" (.ref a_SUPPORTS)) (E_SUPPORTS : Exa Z Z.heap a_SUPPORTS "com/example/nestx/nestx/Propagation") (S_MANDATORY : Sta Z Z.heap "com/example/nestx/nestx/Propagation" "MANDATORY" "Lcom/example/nestx/nestx/Propagation;" (.ref a_MANDATORY)) (E_MANDATORY : Exa Z Z.heap a_MANDATORY "com/example/nestx/nestx/Propagation") (S_REQUIRES_NEW : Sta Z Z.heap "com/example/nestx/nestx/Propagation" "REQUIRES_NEW" "Lcom/example/nestx/nestx/Propagation;" (.ref a_REQUIRES_NEW)) (E_REQUIRES_NEW : Exa Z Z.heap a_REQUIRES_NEW "com/example/nestx/nestx/Propagation") (S_NOT_SUPPORTED : Sta Z Z.heap "com/example/nestx/nestx/Propagation" "NOT_SUPPORTED" "Lcom/example/nestx/nestx/Propagation;" (.ref a_NOT_SUPPORTED)) (E_NOT_SUPPORTED : Exa Z Z.heap a_NOT_SUPPORTED "com/example/nestx/nestx/Propagation") (S_NEVER : Sta Z Z.heap "com/example/nestx/nestx/Propagation" "NEVER" "Lcom/example/nestx/nestx/Propagation;" (.ref a_NEVER)) (E_NEVER : Exa Z Z.heap a_NEVER "com/example/nestx/nestx/Propagation") (S_NESTED : Sta Z Z.heap "com/example/nestx/nestx/Propagation" "NESTED" "Lcom/example/nestx/nestx/Propagation;" (.ref a_NESTED)) (E_NESTED : Exa Z Z.heap a_NESTED "com/example/nestx/nestx/Propagation") :
    Met l Z (⟨"com/example/nestx/nestx/TransactionDefinitionWithIsolationPinLaw", "prop", "(I)Lcom/example/nestx/nestx/Propagation;"⟩ : MethodName) method_2_code 2 (some (.object "com/example/nestx/nestx/Propagation")) ws ({ frames := 0, cells := 0, slots := 0, locals := 0 } : Room) #[(.int k)] h0 (Q_prop Z k a_REQUIRED a_SUPPORTS a_MANDATORY a_REQUIRES_NEW a_NOT_SUPPORTED a_NEVER a_NESTED h0 n0) := by
  refine Met.start (plainFor_of_name pn_1) ?_
  intro p e s m below meth c T X hx hby hml hown hnm hret hlk hZ eT
  have N := Fr.nil n0
  refine Wout.cast (g' := (mkF m 0 #[.val (.int k), .unset] [])) (by first | (simp [entryFrame, mkF, argsToLocals, Value.category]; done) | rfl) ?_
  refine o_iloadN X hx 1 (hb hby d_method_2_0) rfl rfl ?_
  refine o_ldc X hx hZ 3 hown (hw _ (List.mem_of_getElem? (i := 4) rfl)) (hb hby d_method_2_1) rfl ?_
  refine o_iand X hx 4 (hb hby d_method_2_3) rfl ?_
  refine o_bipush X hx 6 (7 : Int32) (hb hby d_method_2_4) rfl rfl ?_
  refine o_irem X hx 7 (hb hby d_method_2_6) (by decide) rfl ?_
  refine o_istoreN X hx 8 (Ls' := #[.val (.int k), .val (.int ((k &&& (2147483647 : Int32)) % (7 : Int32)))]) (hb hby d_method_2_7) rfl rfl ?_
  refine o_iloadN X hx 9 (hb hby d_method_2_8) rfl rfl ?_
  refine o_if X hx 16 12 (hb hby d_method_2_9) rfl rfl (fun (q : ¬ ((k &&& (2147483647 : Int32)) % (7 : Int32)) = (0 : Int32)) => ?_) (fun (q : ((k &&& (2147483647 : Int32)) % (7 : Int32)) = (0 : Int32)) => ?_)
  · show Wout p e below _ T (mkF m 16 #[.val (.int k), .val (.int ((k &&& (2147483647 : Int32)) % (7 : Int32)))] [])
    refine o_iloadN X hx 17 (hb hby d_method_2_16) rfl rfl ?_
    refine o_iconst X hx 18 (1 : Int32) (hb hby d_method_2_17) rfl rfl ?_
    refine o_icmp X hx 25 21 (hb hby d_method_2_18) rfl rfl (fun (q : ¬ ((k &&& (2147483647 : Int32)) % (7 : Int32)) = (1 : Int32)) => ?_) (fun (q : ((k &&& (2147483647 : Int32)) % (7 : Int32)) = (1 : Int32)) => ?_)
    · show Wout p e below _ T (mkF m 25 #[.val (.int k), .val (.int ((k &&& (2147483647 : Int32)) % (7 : Int32)))] [])
      refine o_iloadN X hx 26 (hb hby d_method_2_25) rfl rfl ?_
      refine o_iconst X hx 27 (2 : Int32) (hb hby d_method_2_26) rfl rfl ?_
      refine o_icmp X hx 34 30 (hb hby d_method_2_27) rfl rfl (fun (q : ¬ ((k &&& (2147483647 : Int32)) % (7 : Int32)) = (2 : Int32)) => ?_) (fun (q : ((k &&& (2147483647 : Int32)) % (7 : Int32)) = (2 : Int32)) => ?_)
      · show Wout p e below _ T (mkF m 34 #[.val (.int k), .val (.int ((k &&& (2147483647 : Int32)) % (7 : Int32)))] [])
        refine o_iloadN X hx 35 (hb hby d_method_2_34) rfl rfl ?_
        refine o_iconst X hx 36 (3 : Int32) (hb hby d_method_2_35) rfl rfl ?_
        refine o_icmp X hx 43 39 (hb hby d_method_2_36) rfl rfl (fun (q : ¬ ((k &&& (2147483647 : Int32)) % (7 : Int32)) = (3 : Int32)) => ?_) (fun (q : ((k &&& (2147483647 : Int32)) % (7 : Int32)) = (3 : Int32)) => ?_)
        · show Wout p e below _ T (mkF m 43 #[.val (.int k), .val (.int ((k &&& (2147483647 : Int32)) % (7 : Int32)))] [])
          refine o_iloadN X hx 44 (hb hby d_method_2_43) rfl rfl ?_
          refine o_iconst X hx 45 (4 : Int32) (hb hby d_method_2_44) rfl rfl ?_
          refine o_icmp X hx 52 48 (hb hby d_method_2_45) rfl rfl (fun (q : ¬ ((k &&& (2147483647 : Int32)) % (7 : Int32)) = (4 : Int32)) => ?_) (fun (q : ((k &&& (2147483647 : Int32)) % (7 : Int32)) = (4 : Int32)) => ?_)
          · show Wout p e below _ T (mkF m 52 #[.val (.int k), .val (.int ((k &&& (2147483647 : Int32)) % (7 : Int32)))] [])
            refine o_iloadN X hx 53 (hb hby d_method_2_52) rfl rfl ?_
            refine o_iconst X hx 54 (5 : Int32) (hb hby d_method_2_53) rfl rfl ?_
            refine o_icmp X hx 61 57 (hb hby d_method_2_54) rfl rfl (fun (q : ¬ ((k &&& (2147483647 : Int32)) % (7 : Int32)) = (5 : Int32)) => ?_) (fun (q : ((k &&& (2147483647 : Int32)) % (7 : Int32)) = (5 : Int32)) => ?_)
            · show Wout p e below _ T (mkF m 61 #[.val (.int k), .val (.int ((k &&& (2147483647 : Int32)) % (7 : Int32)))] [])
              refine o_getS X hx hZ hown (host := "") (Or.inl (hw _ (List.mem_of_getElem? (i := 110) rfl))) Via.refl eT (S_NESTED.ext O.2) 64 (hb hby d_method_2_61) rfl (fun T X eT => ?_)
              exact o_retA X hx hlk hret rfl rfl rfl (hb hby d_method_2_64) (by decide) (by decide) (by rw [eT]; exact ⟨_, rfl, N, rfl, E_NESTED⟩)
            · show Wout p e below _ T (mkF m 57 #[.val (.int k), .val (.int ((k &&& (2147483647 : Int32)) % (7 : Int32)))] [])
              refine o_getS X hx hZ hown (host := "") (Or.inl (hw _ (List.mem_of_getElem? (i := 104) rfl))) Via.refl eT (S_NEVER.ext O.2) 60 (hb hby d_method_2_57) rfl (fun T X eT => ?_)
              exact o_retA X hx hlk hret rfl rfl rfl (hb hby d_method_2_60) (by decide) (by decide) (by rw [eT]; exact ⟨_, rfl, N, rfl, E_NEVER⟩)
          · show Wout p e below _ T (mkF m 48 #[.val (.int k), .val (.int ((k &&& (2147483647 : Int32)) % (7 : Int32)))] [])
            refine o_getS X hx hZ hown (host := "") (Or.inl (hw _ (List.mem_of_getElem? (i := 114) rfl))) Via.refl eT (S_NOT_SUPPORTED.ext O.2) 51 (hb hby d_method_2_48) rfl (fun T X eT => ?_)
            exact o_retA X hx hlk hret rfl rfl rfl (hb hby d_method_2_51) (by decide) (by decide) (by rw [eT]; exact ⟨_, rfl, N, rfl, E_NOT_SUPPORTED⟩)
        · show Wout p e below _ T (mkF m 39 #[.val (.int k), .val (.int ((k &&& (2147483647 : Int32)) % (7 : Int32)))] [])
          refine o_getS X hx hZ hown (host := "") (Or.inl (hw _ (List.mem_of_getElem? (i := 99) rfl))) Via.refl eT (S_REQUIRES_NEW.ext O.2) 42 (hb hby d_method_2_39) rfl (fun T X eT => ?_)
          exact o_retA X hx hlk hret rfl rfl rfl (hb hby d_method_2_42) (by decide) (by decide) (by rw [eT]; exact ⟨_, rfl, N, rfl, E_REQUIRES_NEW⟩)
      · show Wout p e below _ T (mkF m 30 #[.val (.int k), .val (.int ((k &&& (2147483647 : Int32)) % (7 : Int32)))] [])
        refine o_getS X hx hZ hown (host := "") (Or.inl (hw _ (List.mem_of_getElem? (i := 112) rfl))) Via.refl eT (S_MANDATORY.ext O.2) 33 (hb hby d_method_2_30) rfl (fun T X eT => ?_)
        exact o_retA X hx hlk hret rfl rfl rfl (hb hby d_method_2_33) (by decide) (by decide) (by rw [eT]; exact ⟨_, rfl, N, rfl, E_MANDATORY⟩)
    · show Wout p e below _ T (mkF m 21 #[.val (.int k), .val (.int ((k &&& (2147483647 : Int32)) % (7 : Int32)))] [])
      refine o_getS X hx hZ hown (host := "") (Or.inl (hw _ (List.mem_of_getElem? (i := 108) rfl))) Via.refl eT (S_SUPPORTS.ext O.2) 24 (hb hby d_method_2_21) rfl (fun T X eT => ?_)
      exact o_retA X hx hlk hret rfl rfl rfl (hb hby d_method_2_24) (by decide) (by decide) (by rw [eT]; exact ⟨_, rfl, N, rfl, E_SUPPORTS⟩)
  · show Wout p e below _ T (mkF m 12 #[.val (.int k), .val (.int ((k &&& (2147483647 : Int32)) % (7 : Int32)))] [])
    refine o_getS X hx hZ hown (host := "") (Or.inl (hw _ (List.mem_of_getElem? (i := 5) rfl))) Via.refl eT (S_REQUIRED.ext O.2) 15 (hb hby d_method_2_12) rfl (fun T X eT => ?_)
    exact o_retA X hx hlk hret rfl rfl rfl (hb hby d_method_2_15) (by decide) (by decide) (by rw [eT]; exact ⟨_, rfl, N, rfl, E_REQUIRED⟩)
theorem d_method_3_0 : decode method_3_code 0 = .ok (.iload_n 0, 1) := by decide +kernel
theorem d_method_3_1 : decode method_3_code 1 = .ok (.ldc 7, 2) := by decide +kernel
theorem d_method_3_3 : decode method_3_code 3 = .ok (.iand, 1) := by decide +kernel
theorem d_method_3_4 : decode method_3_code 4 = .ok (.iconst 5, 1) := by decide +kernel
theorem d_method_3_5 : decode method_3_code 5 = .ok (.irem, 1) := by decide +kernel
theorem d_method_3_6 : decode method_3_code 6 = .ok (.istore_n 1, 1) := by decide +kernel
theorem d_method_3_7 : decode method_3_code 7 = .ok (.iload_n 1, 1) := by decide +kernel
theorem d_method_3_8 : decode method_3_code 8 = .ok (.ifCond .ne 7, 3) := by decide +kernel
theorem d_method_3_11 : decode method_3_code 11 = .ok (.getstatic 32, 3) := by decide +kernel
theorem d_method_3_14 : decode method_3_code 14 = .ok (.areturn, 1) := by decide +kernel
theorem d_method_3_15 : decode method_3_code 15 = .ok (.iload_n 1, 1) := by decide +kernel
theorem d_method_3_16 : decode method_3_code 16 = .ok (.iconst 1, 1) := by decide +kernel
theorem d_method_3_17 : decode method_3_code 17 = .ok (.if_icmp .ne 7, 3) := by decide +kernel
theorem d_method_3_20 : decode method_3_code 20 = .ok (.getstatic 38, 3) := by decide +kernel
theorem d_method_3_23 : decode method_3_code 23 = .ok (.areturn, 1) := by decide +kernel
theorem d_method_3_24 : decode method_3_code 24 = .ok (.iload_n 1, 1) := by decide +kernel
theorem d_method_3_25 : decode method_3_code 25 = .ok (.iconst 2, 1) := by decide +kernel
theorem d_method_3_26 : decode method_3_code 26 = .ok (.if_icmp .ne 7, 3) := by decide +kernel
theorem d_method_3_29 : decode method_3_code 29 = .ok (.getstatic 41, 3) := by decide +kernel
theorem d_method_3_32 : decode method_3_code 32 = .ok (.areturn, 1) := by decide +kernel
theorem d_method_3_33 : decode method_3_code 33 = .ok (.iload_n 1, 1) := by decide +kernel
theorem d_method_3_34 : decode method_3_code 34 = .ok (.iconst 3, 1) := by decide +kernel
theorem d_method_3_35 : decode method_3_code 35 = .ok (.if_icmp .ne 7, 3) := by decide +kernel
theorem d_method_3_38 : decode method_3_code 38 = .ok (.getstatic 44, 3) := by decide +kernel
theorem d_method_3_41 : decode method_3_code 41 = .ok (.areturn, 1) := by decide +kernel
theorem d_method_3_42 : decode method_3_code 42 = .ok (.getstatic 47, 3) := by decide +kernel
theorem d_method_3_45 : decode method_3_code 45 = .ok (.areturn, 1) := by decide +kernel
def Q_iso (Z : State) (k : Int32) (a_DEFAULT a_READ_UNCOMMITTED a_READ_COMMITTED a_REPEATABLE_READ a_SERIALIZABLE : Addr) (h0 : Heap) (n0 : Nat) (v : Option Value) (h : Heap) (L : List Loc) : Prop := ∃ b : Addr, v = some (.ref b) ∧ Fr n0 L ∧ h = h0 ∧ Exa Z Z.heap b "com/example/nestx/nestx/Isolation"
set_option maxRecDepth 65536 in
set_option maxHeartbeats 40000000 in
theorem rm_iso (l : Launch) (Z : State) (a0 : Array Value) (hw : ∀ d ∈ tables_1, d.before a0 Z = true) (ws : List Jvm.Cond) (k : Int32) (a_DEFAULT a_READ_UNCOMMITTED a_READ_COMMITTED a_REPEATABLE_READ a_SERIALIZABLE : Addr) (h0 : Heap) (n0 : Nat) (Z0 : n0 ≤ h0.size) (O : Old Z n0 h0) (S_DEFAULT : Sta Z Z.heap "com/example/nestx/nestx/Isolation" "DEFAULT" "Lcom/example/nestx/nestx/Isolation;" (.ref a_DEFAULT)) (E_DEFAULT : Exa Z Z.heap a_DEFAULT "com/example/nestx/nestx/Isolation") (S_READ_UNCOMMITTED : Sta Z Z.heap "com/example/nestx/nestx/Isolation" "READ_UNCOMMITTED" "Lcom/example/nestx/nestx/Isolation;" (.ref a_READ_UNCOMMITTED)) (E_READ_UNCOMMITTED : Exa Z Z.heap a_READ_UNCOMMITTED "com/example/nestx/nestx/Isolation") (S_READ_COMMITTED : Sta Z Z.heap "com/example/nestx/nestx/Isolation" "READ_COMMITTED" "Lcom/example/nestx/nestx/Isolation;" (.ref a_READ_COMMITTED)) (E_READ_COMMITTED : Exa Z Z.heap a_READ_COMMITTED "com/example/nestx/nestx/Isolation") (S_REPEATABLE_READ : Sta Z Z.heap "com/example/nestx/nestx/Isolation" "REPEATABLE_READ" "Lcom/example/nestx/nestx/Isolation;" (.ref a_REPEATABLE_READ)) (E_REPEATABLE_READ : Exa Z Z.heap a_REPEATABLE_READ "com/example/nestx/nestx/Isolation") (S_SERIALIZABLE : Sta Z Z.heap "com/example/nestx/nestx/Isolation" "SERIALIZABLE" "Lcom/example/nestx/nestx/Isolation;" (.ref a_SERIALIZABLE)) (E_SERIALIZABLE : Exa Z Z.heap a_SERIALIZABLE "com/example/nestx/nestx/Isolation") :
    Met l Z (⟨"com/example/nestx/nestx/TransactionDefinitionWithIsolationPinLaw", "iso", "(I)Lcom/example/nestx/nestx/Isolation;"⟩ : MethodName) method_3_code 2 (some (.object "com/example/nestx/nestx/Isolation")) ws ({ frames := 0, cells := 0, slots := 0, locals := 0 } : Room) #[(.int k)] h0 (Q_iso Z k a_DEFAULT a_READ_UNCOMMITTED a_READ_COMMITTED a_REPEATABLE_READ a_SERIALIZABLE h0 n0) := by
  refine Met.start (plainFor_of_name pn_1) ?_
  intro p e s m below meth c T X hx hby hml hown hnm hret hlk hZ eT
  have N := Fr.nil n0
  refine Wout.cast (g' := (mkF m 0 #[.val (.int k), .unset] [])) (by first | (simp [entryFrame, mkF, argsToLocals, Value.category]; done) | rfl) ?_
  refine o_iloadN X hx 1 (hb hby d_method_3_0) rfl rfl ?_
  refine o_ldc X hx hZ 3 hown (hw _ (List.mem_of_getElem? (i := 4) rfl)) (hb hby d_method_3_1) rfl ?_
  refine o_iand X hx 4 (hb hby d_method_3_3) rfl ?_
  refine o_iconst X hx 5 (5 : Int32) (hb hby d_method_3_4) rfl rfl ?_
  refine o_irem X hx 6 (hb hby d_method_3_5) (by decide) rfl ?_
  refine o_istoreN X hx 7 (Ls' := #[.val (.int k), .val (.int ((k &&& (2147483647 : Int32)) % (5 : Int32)))]) (hb hby d_method_3_6) rfl rfl ?_
  refine o_iloadN X hx 8 (hb hby d_method_3_7) rfl rfl ?_
  refine o_if X hx 15 11 (hb hby d_method_3_8) rfl rfl (fun (q : ¬ ((k &&& (2147483647 : Int32)) % (5 : Int32)) = (0 : Int32)) => ?_) (fun (q : ((k &&& (2147483647 : Int32)) % (5 : Int32)) = (0 : Int32)) => ?_)
  · show Wout p e below _ T (mkF m 15 #[.val (.int k), .val (.int ((k &&& (2147483647 : Int32)) % (5 : Int32)))] [])
    refine o_iloadN X hx 16 (hb hby d_method_3_15) rfl rfl ?_
    refine o_iconst X hx 17 (1 : Int32) (hb hby d_method_3_16) rfl rfl ?_
    refine o_icmp X hx 24 20 (hb hby d_method_3_17) rfl rfl (fun (q : ¬ ((k &&& (2147483647 : Int32)) % (5 : Int32)) = (1 : Int32)) => ?_) (fun (q : ((k &&& (2147483647 : Int32)) % (5 : Int32)) = (1 : Int32)) => ?_)
    · show Wout p e below _ T (mkF m 24 #[.val (.int k), .val (.int ((k &&& (2147483647 : Int32)) % (5 : Int32)))] [])
      refine o_iloadN X hx 25 (hb hby d_method_3_24) rfl rfl ?_
      refine o_iconst X hx 26 (2 : Int32) (hb hby d_method_3_25) rfl rfl ?_
      refine o_icmp X hx 33 29 (hb hby d_method_3_26) rfl rfl (fun (q : ¬ ((k &&& (2147483647 : Int32)) % (5 : Int32)) = (2 : Int32)) => ?_) (fun (q : ((k &&& (2147483647 : Int32)) % (5 : Int32)) = (2 : Int32)) => ?_)
      · show Wout p e below _ T (mkF m 33 #[.val (.int k), .val (.int ((k &&& (2147483647 : Int32)) % (5 : Int32)))] [])
        refine o_iloadN X hx 34 (hb hby d_method_3_33) rfl rfl ?_
        refine o_iconst X hx 35 (3 : Int32) (hb hby d_method_3_34) rfl rfl ?_
        refine o_icmp X hx 42 38 (hb hby d_method_3_35) rfl rfl (fun (q : ¬ ((k &&& (2147483647 : Int32)) % (5 : Int32)) = (3 : Int32)) => ?_) (fun (q : ((k &&& (2147483647 : Int32)) % (5 : Int32)) = (3 : Int32)) => ?_)
        · show Wout p e below _ T (mkF m 42 #[.val (.int k), .val (.int ((k &&& (2147483647 : Int32)) % (5 : Int32)))] [])
          refine o_getS X hx hZ hown (host := "") (Or.inl (hw _ (List.mem_of_getElem? (i := 101) rfl))) Via.refl eT (S_SERIALIZABLE.ext O.2) 45 (hb hby d_method_3_42) rfl (fun T X eT => ?_)
          exact o_retA X hx hlk hret rfl rfl rfl (hb hby d_method_3_45) (by decide) (by decide) (by rw [eT]; exact ⟨_, rfl, N, rfl, E_SERIALIZABLE⟩)
        · show Wout p e below _ T (mkF m 38 #[.val (.int k), .val (.int ((k &&& (2147483647 : Int32)) % (5 : Int32)))] [])
          refine o_getS X hx hZ hown (host := "") (Or.inl (hw _ (List.mem_of_getElem? (i := 11) rfl))) Via.refl eT (S_REPEATABLE_READ.ext O.2) 41 (hb hby d_method_3_38) rfl (fun T X eT => ?_)
          exact o_retA X hx hlk hret rfl rfl rfl (hb hby d_method_3_41) (by decide) (by decide) (by rw [eT]; exact ⟨_, rfl, N, rfl, E_REPEATABLE_READ⟩)
      · show Wout p e below _ T (mkF m 29 #[.val (.int k), .val (.int ((k &&& (2147483647 : Int32)) % (5 : Int32)))] [])
        refine o_getS X hx hZ hown (host := "") (Or.inl (hw _ (List.mem_of_getElem? (i := 14) rfl))) Via.refl eT (S_READ_COMMITTED.ext O.2) 32 (hb hby d_method_3_29) rfl (fun T X eT => ?_)
        exact o_retA X hx hlk hret rfl rfl rfl (hb hby d_method_3_32) (by decide) (by decide) (by rw [eT]; exact ⟨_, rfl, N, rfl, E_READ_COMMITTED⟩)
    · show Wout p e below _ T (mkF m 20 #[.val (.int k), .val (.int ((k &&& (2147483647 : Int32)) % (5 : Int32)))] [])
      refine o_getS X hx hZ hown (host := "") (Or.inl (hw _ (List.mem_of_getElem? (i := 106) rfl))) Via.refl eT (S_READ_UNCOMMITTED.ext O.2) 23 (hb hby d_method_3_20) rfl (fun T X eT => ?_)
      exact o_retA X hx hlk hret rfl rfl rfl (hb hby d_method_3_23) (by decide) (by decide) (by rw [eT]; exact ⟨_, rfl, N, rfl, E_READ_UNCOMMITTED⟩)
  · show Wout p e below _ T (mkF m 11 #[.val (.int k), .val (.int ((k &&& (2147483647 : Int32)) % (5 : Int32)))] [])
    refine o_getS X hx hZ hown (host := "") (Or.inl (hw _ (List.mem_of_getElem? (i := 103) rfl))) Via.refl eT (S_DEFAULT.ext O.2) 14 (hb hby d_method_3_11) rfl (fun T X eT => ?_)
    exact o_retA X hx hlk hret rfl rfl rfl (hb hby d_method_3_14) (by decide) (by decide) (by rw [eT]; exact ⟨_, rfl, N, rfl, E_DEFAULT⟩)
theorem d_prog_32_method_2_0 : decode prog_32_method_2_code 0 = .ok (.aload_n 0, 1) := by decide +kernel
theorem d_prog_32_method_2_1 : decode prog_32_method_2_code 1 = .ok (.invokespecial 19, 3) := by decide +kernel
theorem d_prog_32_method_2_4 : decode prog_32_method_2_code 4 = .ok (.aload_n 0, 1) := by decide +kernel
theorem d_prog_32_method_2_5 : decode prog_32_method_2_code 5 = .ok (.aload_n 1, 1) := by decide +kernel
theorem d_prog_32_method_2_6 : decode prog_32_method_2_code 6 = .ok (.ldc 24, 2) := by decide +kernel
theorem d_prog_32_method_2_8 : decode prog_32_method_2_code 8 = .ok (.invokestatic 26, 3) := by decide +kernel
theorem d_prog_32_method_2_11 : decode prog_32_method_2_code 11 = .ok (.checkcast 32, 3) := by decide +kernel
theorem d_prog_32_method_2_14 : decode prog_32_method_2_code 14 = .ok (.putfield 34, 3) := by decide +kernel
theorem d_prog_32_method_2_17 : decode prog_32_method_2_code 17 = .ok (.aload_n 0, 1) := by decide +kernel
theorem d_prog_32_method_2_18 : decode prog_32_method_2_code 18 = .ok (.aload_n 2, 1) := by decide +kernel
theorem d_prog_32_method_2_19 : decode prog_32_method_2_code 19 = .ok (.ldc 37, 2) := by decide +kernel
theorem d_prog_32_method_2_21 : decode prog_32_method_2_code 21 = .ok (.invokestatic 26, 3) := by decide +kernel
theorem d_prog_32_method_2_24 : decode prog_32_method_2_code 24 = .ok (.checkcast 2, 3) := by decide +kernel
theorem d_prog_32_method_2_27 : decode prog_32_method_2_code 27 = .ok (.putfield 39, 3) := by decide +kernel
theorem d_prog_32_method_2_30 : decode prog_32_method_2_code 30 = .ok (.aload_n 0, 1) := by decide +kernel
theorem d_prog_32_method_2_31 : decode prog_32_method_2_code 31 = .ok (.iload_n 3, 1) := by decide +kernel
theorem d_prog_32_method_2_32 : decode prog_32_method_2_code 32 = .ok (.putfield 41, 3) := by decide +kernel
theorem d_prog_32_method_2_35 : decode prog_32_method_2_code 35 = .ok (.aload_n 0, 1) := by decide +kernel
theorem d_prog_32_method_2_36 : decode prog_32_method_2_code 36 = .ok (.iload 4, 2) := by decide +kernel
theorem d_prog_32_method_2_38 : decode prog_32_method_2_code 38 = .ok (.putfield 45, 3) := by decide +kernel
theorem d_prog_32_method_2_41 : decode prog_32_method_2_code 41 = .ok (.aload_n 0, 1) := by decide +kernel
theorem d_prog_32_method_2_42 : decode prog_32_method_2_code 42 = .ok (.aload 5, 2) := by decide +kernel
theorem d_prog_32_method_2_44 : decode prog_32_method_2_code 44 = .ok (.ldc 49, 2) := by decide +kernel
theorem d_prog_32_method_2_46 : decode prog_32_method_2_code 46 = .ok (.invokestatic 26, 3) := by decide +kernel
theorem d_prog_32_method_2_49 : decode prog_32_method_2_code 49 = .ok (.checkcast 10, 3) := by decide +kernel
theorem d_prog_32_method_2_52 : decode prog_32_method_2_code 52 = .ok (.putfield 51, 3) := by decide +kernel
theorem d_prog_32_method_2_55 : decode prog_32_method_2_code 55 = .ok (.return_, 1) := by decide +kernel
theorem pn_2 : plainName "com/example/nestx/nestx/TransactionDefinition" = true := by first | (simp [plainName, overriddenIn]; done) | decide +kernel
theorem pd_0 : parseMethodDescriptor "(Ljava/lang/Object;Ljava/lang/String;)Ljava/lang/Object;" = some ⟨[(.object "java/lang/Object"), (.object "java/lang/String")], some (.object "java/lang/Object")⟩ := by decide +kernel
def Q_i5c (Z : State) (a1 ap ai ar : Addr) (ro tt : Int32) (u0 u1 u2 u3 u4 : Value) (h0 : Heap) (n0 : Nat) (v : Option Value) (h : Heap) (L : List Loc) (vm : Vm) : Prop := ∃ c1 c2 c3 : Addr, v = none ∧ Fr n0 L ∧ Keep h0 h [a1] ∧ Exa Z h a1 "com/example/nestx/nestx/TransactionDefinition" ∧ Fld Z h a1 "com/example/nestx/nestx/TransactionDefinition" "propagation" "Lcom/example/nestx/nestx/Propagation;" (.ref ap) ∧ Fld Z h a1 "com/example/nestx/nestx/TransactionDefinition" "isolation" "Lcom/example/nestx/nestx/Isolation;" (.ref ai) ∧ Fld Z h a1 "com/example/nestx/nestx/TransactionDefinition" "readOnly" "Z" (.int ro) ∧ Fld Z h a1 "com/example/nestx/nestx/TransactionDefinition" "timeout" "I" (.int tt) ∧ Fld Z h a1 "com/example/nestx/nestx/TransactionDefinition" "rollbackRule" "Lcom/example/nestx/nestx/RollbackRule;" (.ref ar) ∧ LitV Z vm "com/example/nestx/nestx/TransactionDefinition" 24 c1 ∧ LitV Z vm "com/example/nestx/nestx/TransactionDefinition" 37 c2 ∧ LitV Z vm "com/example/nestx/nestx/TransactionDefinition" 49 c3
set_option maxRecDepth 65536 in
set_option maxHeartbeats 40000000 in
theorem rm_i5c (l : Launch) (Z : State) (a0 : Array Value) (hw : ∀ d ∈ tables_1, d.before a0 Z = true) (ws : List Jvm.Cond) (a1 ap ai ar : Addr) (ro tt : Int32) (u0 u1 u2 u3 u4 : Value) (h0 : Heap) (n0 : Nat) (Z0 : n0 ≤ h0.size) (O : Old Z n0 h0) (E_ap : Exa Z Z.heap ap "com/example/nestx/nestx/Propagation") (E_ai : Exa Z Z.heap ai "com/example/nestx/nestx/Isolation") (E_ar : Exa Z Z.heap ar "com/example/nestx/nestx/RollbackRule") (hro : nar .boolean ro = ro) (E_a1 : Exa Z h0 a1 "com/example/nestx/nestx/TransactionDefinition") (F0 : Fld Z h0 a1 "com/example/nestx/nestx/TransactionDefinition" "propagation" "Lcom/example/nestx/nestx/Propagation;" u0) (F1 : Fld Z h0 a1 "com/example/nestx/nestx/TransactionDefinition" "isolation" "Lcom/example/nestx/nestx/Isolation;" u1) (F2 : Fld Z h0 a1 "com/example/nestx/nestx/TransactionDefinition" "readOnly" "Z" u2) (F3 : Fld Z h0 a1 "com/example/nestx/nestx/TransactionDefinition" "timeout" "I" u3) (F4 : Fld Z h0 a1 "com/example/nestx/nestx/TransactionDefinition" "rollbackRule" "Lcom/example/nestx/nestx/RollbackRule;" u4) (g_a1 : n0 ≤ a1) :
    MetW l Z (⟨"com/example/nestx/nestx/TransactionDefinition", "<init>", "(Lcom/example/nestx/nestx/Propagation;Lcom/example/nestx/nestx/Isolation;ZILcom/example/nestx/nestx/RollbackRule;)V"⟩ : MethodName) prog_32_method_2_code 6 none ws ({ frames := 1, cells := 6, slots := 140, locals := 16 } : Room) #[(.ref a1), (.ref ap), (.ref ai), (.int ro), (.int tt), (.ref ar)] h0 (fun _ => True) (Q_i5c Z a1 ap ai ar ro tt u0 u1 u2 u3 u4 h0 n0) := by
  refine MetW.start (plainFor_of_name pn_2) ?_
  intro p e s m below meth c T vm0 k0 X hx hby hml hown hnm hret hlk hZ eT hS hk hv hh0
  have N := Fr.nil n0
  have K := Keep.refl h0 [a1]
  refine Wout.cast (g' := (mkF m 0 #[.val (.ref a1), .val (.ref ap), .val (.ref ai), .val (.int ro), .val (.int tt), .val (.ref ar)] [])) (by first | (simp [entryFrame, mkF, argsToLocals, Value.category]; done) | rfl) ?_
  have wS : ∀ a ∈ Bundle.stringAtoms, a.before a0 Z = true := fun q hq => hw q ((by decide +kernel : ∀ q ∈ Bundle.stringAtoms, q ∈ tables_1) q hq)
  refine o_aloadN X hx 1 (hb hby d_prog_32_method_2_0) rfl rfl rfl ?_
  refine o_initO X hx hZ hown (hw _ (List.mem_of_getElem? (i := 30) rfl)) (hw _ (List.mem_of_getElem? (i := 31) rfl)) (hw _ (List.mem_of_getElem? (i := 32) rfl)) eT (by rw [hml]; rfl) (by decide) 0 (Nat.le_of_eq rfl) (by decide) 4 (hb hby d_prog_32_method_2_1) rfl (fun T X eT => ?_)
  refine o_aloadN X hx 5 (hb hby d_prog_32_method_2_4) rfl rfl rfl ?_
  refine o_aloadN X hx 6 (hb hby d_prog_32_method_2_5) rfl rfl rfl ?_
  refine o_ldcC X hx hS hk hZ hown (hw _ (List.mem_of_getElem? (i := 33) rfl)) wS eT 8 (hb hby d_prog_32_method_2_6) rfl 44 (by decide) (by decide) (by decide) (by decide) (fun lit1 T h1 vm0 k0 X eT E hS hk hZ hown hW L1 => ?_)
  replace E_a1 := E_a1.ext E
  replace F0 := F0.ext E
  replace F1 := F1.ext E
  replace F2 := F2.ext E
  replace F3 := F3.ext E
  replace F4 := F4.ext E
  replace Z0 := Nat.le_trans Z0 E.1
  replace K := K.ext E
  replace O := O.ext E
  refine o_callS X hx hZ hown (hw _ (List.mem_of_getElem? (i := 41) rfl)) (hw _ (List.mem_of_getElem? (i := 42) rfl)) (hw _ (List.mem_of_getElem? (i := 43) rfl)) (hw _ (List.mem_of_getElem? (i := 44) rfl)) (by decide) (rm_rnn l Z a0 hw [] ap lit1 _ n0 Z0) eT (by decide) 1 (by decide) (by rw [hml]; rfl) [(.ref ap), (.ref lit1)] (rest := [(.ref a1)]) (lenOf pd_0 rfl) rfl rfl (Nat.le_of_eq rfl) (by decide) (by decide) 11 (hb hby d_prog_32_method_2_8) rfl (fun v T h2 Lc X eT q => ?_)
  obtain ⟨rfl, N', e'⟩ := q
  replace N := Fr.app N N'
  replace eT := eT.trans e'
  show Wout p e below _ T (mkF m 11 #[.val (.ref a1), .val (.ref ap), .val (.ref ai), .val (.int ro), .val (.int tt), .val (.ref ar)] [(.ref ap), (.ref a1)])
  refine o_checkcast X hx hZ hown (hw _ (List.mem_of_getElem? (i := 45) rfl)) eT (Ins.self (E_ap.ext O.2)) 14 (hb hby d_prog_32_method_2_11) rfl (fun T X eT => ?_)
  refine o_putF X hx hZ (.object "com/example/nestx/nestx/Propagation") hown (host := "") (Or.inl (hw _ (List.mem_of_getElem? (i := 47) rfl))) Via.refl eT F0 E_a1 (Or.inr ⟨(hw _ (List.mem_of_getElem? (i := 48) rfl)), rfl, hnm⟩) (hw _ (List.mem_of_getElem? (i := 17) rfl)) (by decide) rfl rfl N g_a1 17 (hb hby d_prog_32_method_2_14) rfl (fun T h3 locs X eT W N => ?_)
  replace E_a1 := E_a1.wr W
  replace F0 := F0.same W
  replace F1 := F1.other W (Or.inr (slot_ne (Or.inr (hw _ (List.mem_of_getElem? (i := 53) rfl))) (Or.inr (hw _ (List.mem_of_getElem? (i := 48) rfl))) (by decide) (t := (.object "com/example/nestx/nestx/Isolation")) (t' := (.object "com/example/nestx/nestx/Propagation")) (by decide) (by decide)))
  replace F2 := F2.other W (Or.inr (slot_ne (Or.inr (hw _ (List.mem_of_getElem? (i := 55) rfl))) (Or.inr (hw _ (List.mem_of_getElem? (i := 48) rfl))) (by decide) (t := .boolean) (t' := (.object "com/example/nestx/nestx/Propagation")) (by decide) (by decide)))
  replace F3 := F3.other W (Or.inr (slot_ne (Or.inr (hw _ (List.mem_of_getElem? (i := 57) rfl))) (Or.inr (hw _ (List.mem_of_getElem? (i := 48) rfl))) (by decide) (t := .int) (t' := (.object "com/example/nestx/nestx/Propagation")) (by decide) (by decide)))
  replace F4 := F4.other W (Or.inr (slot_ne (Or.inr (hw _ (List.mem_of_getElem? (i := 62) rfl))) (Or.inr (hw _ (List.mem_of_getElem? (i := 48) rfl))) (by decide) (t := (.object "com/example/nestx/nestx/RollbackRule")) (t' := (.object "com/example/nestx/nestx/Propagation")) (by decide) (by decide)))
  replace Z0 := Nat.le_trans Z0 (Keep.of_wr W).1
  replace hk := Nat.le_trans hk (Keep.of_wr W).1
  replace K := K.wr W (Or.inl (List.mem_of_getElem? (i := 0) rfl))
  replace O := O.wr W g_a1
  refine o_aloadN X hx 18 (hb hby d_prog_32_method_2_17) rfl rfl rfl ?_
  refine o_aloadN X hx 19 (hb hby d_prog_32_method_2_18) rfl rfl rfl ?_
  refine o_ldcC X hx hS hk hZ hown (hw _ (List.mem_of_getElem? (i := 49) rfl)) wS eT 21 (hb hby d_prog_32_method_2_19) rfl 36 (by decide) (by decide) (by decide) (by decide) (fun lit4 T h4 vm0 k0 X eT E hS hk hZ hown hW L4 => ?_)
  replace E_a1 := E_a1.ext E
  replace F0 := F0.ext E
  replace F1 := F1.ext E
  replace F2 := F2.ext E
  replace F3 := F3.ext E
  replace F4 := F4.ext E
  replace Z0 := Nat.le_trans Z0 E.1
  replace K := K.ext E
  replace O := O.ext E
  replace L1 := L1.stay hW
  refine o_callS X hx hZ hown (hw _ (List.mem_of_getElem? (i := 41) rfl)) (hw _ (List.mem_of_getElem? (i := 42) rfl)) (hw _ (List.mem_of_getElem? (i := 43) rfl)) (hw _ (List.mem_of_getElem? (i := 44) rfl)) (by decide) (rm_rnn l Z a0 hw [] ai lit4 _ n0 Z0) eT (by decide) 1 (by decide) (by rw [hml]; rfl) [(.ref ai), (.ref lit4)] (rest := [(.ref a1)]) (lenOf pd_0 rfl) rfl rfl (Nat.le_of_eq rfl) (by decide) (by decide) 24 (hb hby d_prog_32_method_2_21) rfl (fun v T h5 Lc X eT q => ?_)
  obtain ⟨rfl, N', e'⟩ := q
  replace N := Fr.app N N'
  replace eT := eT.trans e'
  show Wout p e below _ T (mkF m 24 #[.val (.ref a1), .val (.ref ap), .val (.ref ai), .val (.int ro), .val (.int tt), .val (.ref ar)] [(.ref ai), (.ref a1)])
  refine o_checkcast X hx hZ hown (hw _ (List.mem_of_getElem? (i := 50) rfl)) eT (Ins.self (E_ai.ext O.2)) 27 (hb hby d_prog_32_method_2_24) rfl (fun T X eT => ?_)
  refine o_putF X hx hZ (.object "com/example/nestx/nestx/Isolation") hown (host := "") (Or.inl (hw _ (List.mem_of_getElem? (i := 52) rfl))) Via.refl eT F1 E_a1 (Or.inr ⟨(hw _ (List.mem_of_getElem? (i := 53) rfl)), rfl, hnm⟩) (hw _ (List.mem_of_getElem? (i := 17) rfl)) (by decide) rfl rfl N g_a1 30 (hb hby d_prog_32_method_2_27) rfl (fun T h6 locs X eT W N => ?_)
  replace E_a1 := E_a1.wr W
  replace F0 := F0.other W (Or.inr (slot_ne (Or.inr (hw _ (List.mem_of_getElem? (i := 48) rfl))) (Or.inr (hw _ (List.mem_of_getElem? (i := 53) rfl))) (by decide) (t := (.object "com/example/nestx/nestx/Propagation")) (t' := (.object "com/example/nestx/nestx/Isolation")) (by decide) (by decide)))
  replace F1 := F1.same W
  replace F2 := F2.other W (Or.inr (slot_ne (Or.inr (hw _ (List.mem_of_getElem? (i := 55) rfl))) (Or.inr (hw _ (List.mem_of_getElem? (i := 53) rfl))) (by decide) (t := .boolean) (t' := (.object "com/example/nestx/nestx/Isolation")) (by decide) (by decide)))
  replace F3 := F3.other W (Or.inr (slot_ne (Or.inr (hw _ (List.mem_of_getElem? (i := 57) rfl))) (Or.inr (hw _ (List.mem_of_getElem? (i := 53) rfl))) (by decide) (t := .int) (t' := (.object "com/example/nestx/nestx/Isolation")) (by decide) (by decide)))
  replace F4 := F4.other W (Or.inr (slot_ne (Or.inr (hw _ (List.mem_of_getElem? (i := 62) rfl))) (Or.inr (hw _ (List.mem_of_getElem? (i := 53) rfl))) (by decide) (t := (.object "com/example/nestx/nestx/RollbackRule")) (t' := (.object "com/example/nestx/nestx/Isolation")) (by decide) (by decide)))
  replace Z0 := Nat.le_trans Z0 (Keep.of_wr W).1
  replace hk := Nat.le_trans hk (Keep.of_wr W).1
  replace K := K.wr W (Or.inl (List.mem_of_getElem? (i := 0) rfl))
  replace O := O.wr W g_a1
  refine o_aloadN X hx 31 (hb hby d_prog_32_method_2_30) rfl rfl rfl ?_
  refine o_iloadN X hx 32 (hb hby d_prog_32_method_2_31) rfl rfl ?_
  refine o_putFN X hx hZ .boolean hown (hw _ (List.mem_of_getElem? (i := 54) rfl)) Via.refl eT F2 E_a1 (Or.inr ⟨(hw _ (List.mem_of_getElem? (i := 55) rfl)), rfl, hnm⟩) (hw _ (List.mem_of_getElem? (i := 17) rfl)) (v' := (.int (nar .boolean ro))) (by decide) rfl (fits_nar_bool _) N g_a1 35 (hb hby d_prog_32_method_2_32) rfl (fun T h7 locs X eT W N => ?_)
  replace E_a1 := E_a1.wr W
  replace F0 := F0.other W (Or.inr (slot_ne (Or.inr (hw _ (List.mem_of_getElem? (i := 48) rfl))) (Or.inr (hw _ (List.mem_of_getElem? (i := 55) rfl))) (by decide) (t := (.object "com/example/nestx/nestx/Propagation")) (t' := .boolean) (by decide) (by decide)))
  replace F1 := F1.other W (Or.inr (slot_ne (Or.inr (hw _ (List.mem_of_getElem? (i := 53) rfl))) (Or.inr (hw _ (List.mem_of_getElem? (i := 55) rfl))) (by decide) (t := (.object "com/example/nestx/nestx/Isolation")) (t' := .boolean) (by decide) (by decide)))
  replace F2 := F2.same W
  replace F3 := F3.other W (Or.inr (slot_ne (Or.inr (hw _ (List.mem_of_getElem? (i := 57) rfl))) (Or.inr (hw _ (List.mem_of_getElem? (i := 55) rfl))) (by decide) (t := .int) (t' := .boolean) (by decide) (by decide)))
  replace F4 := F4.other W (Or.inr (slot_ne (Or.inr (hw _ (List.mem_of_getElem? (i := 62) rfl))) (Or.inr (hw _ (List.mem_of_getElem? (i := 55) rfl))) (by decide) (t := (.object "com/example/nestx/nestx/RollbackRule")) (t' := .boolean) (by decide) (by decide)))
  replace Z0 := Nat.le_trans Z0 (Keep.of_wr W).1
  replace hk := Nat.le_trans hk (Keep.of_wr W).1
  replace K := K.wr W (Or.inl (List.mem_of_getElem? (i := 0) rfl))
  replace O := O.wr W g_a1
  refine o_aloadN X hx 36 (hb hby d_prog_32_method_2_35) rfl rfl rfl ?_
  refine o_iload X hx 38 (hb hby d_prog_32_method_2_36) rfl rfl ?_
  refine o_putF X hx hZ .int hown (host := "") (Or.inl (hw _ (List.mem_of_getElem? (i := 56) rfl))) Via.refl eT F3 E_a1 (Or.inr ⟨(hw _ (List.mem_of_getElem? (i := 57) rfl)), rfl, hnm⟩) (hw _ (List.mem_of_getElem? (i := 17) rfl)) (by decide) rfl rfl N g_a1 41 (hb hby d_prog_32_method_2_38) rfl (fun T h8 locs X eT W N => ?_)
  replace E_a1 := E_a1.wr W
  replace F0 := F0.other W (Or.inr (slot_ne (Or.inr (hw _ (List.mem_of_getElem? (i := 48) rfl))) (Or.inr (hw _ (List.mem_of_getElem? (i := 57) rfl))) (by decide) (t := (.object "com/example/nestx/nestx/Propagation")) (t' := .int) (by decide) (by decide)))
  replace F1 := F1.other W (Or.inr (slot_ne (Or.inr (hw _ (List.mem_of_getElem? (i := 53) rfl))) (Or.inr (hw _ (List.mem_of_getElem? (i := 57) rfl))) (by decide) (t := (.object "com/example/nestx/nestx/Isolation")) (t' := .int) (by decide) (by decide)))
  replace F2 := F2.other W (Or.inr (slot_ne (Or.inr (hw _ (List.mem_of_getElem? (i := 55) rfl))) (Or.inr (hw _ (List.mem_of_getElem? (i := 57) rfl))) (by decide) (t := .boolean) (t' := .int) (by decide) (by decide)))
  replace F3 := F3.same W
  replace F4 := F4.other W (Or.inr (slot_ne (Or.inr (hw _ (List.mem_of_getElem? (i := 62) rfl))) (Or.inr (hw _ (List.mem_of_getElem? (i := 57) rfl))) (by decide) (t := (.object "com/example/nestx/nestx/RollbackRule")) (t' := .int) (by decide) (by decide)))
  replace Z0 := Nat.le_trans Z0 (Keep.of_wr W).1
  replace hk := Nat.le_trans hk (Keep.of_wr W).1
  replace K := K.wr W (Or.inl (List.mem_of_getElem? (i := 0) rfl))
  replace O := O.wr W g_a1
  refine o_aloadN X hx 42 (hb hby d_prog_32_method_2_41) rfl rfl rfl ?_
  refine o_aload X hx 44 (hb hby d_prog_32_method_2_42) rfl rfl rfl ?_
  refine o_ldcC X hx hS hk hZ hown (hw _ (List.mem_of_getElem? (i := 58) rfl)) wS eT 46 (hb hby d_prog_32_method_2_44) rfl 48 (by decide) (by decide) (by decide) (by decide) (fun lit9 T h9 vm0 k0 X eT E hS hk hZ hown hW L9 => ?_)
  replace E_a1 := E_a1.ext E
  replace F0 := F0.ext E
  replace F1 := F1.ext E
  replace F2 := F2.ext E
  replace F3 := F3.ext E
  replace F4 := F4.ext E
  replace Z0 := Nat.le_trans Z0 E.1
  replace K := K.ext E
  replace O := O.ext E
  replace L1 := L1.stay hW
  replace L4 := L4.stay hW
  refine o_callS X hx hZ hown (hw _ (List.mem_of_getElem? (i := 41) rfl)) (hw _ (List.mem_of_getElem? (i := 42) rfl)) (hw _ (List.mem_of_getElem? (i := 43) rfl)) (hw _ (List.mem_of_getElem? (i := 44) rfl)) (by decide) (rm_rnn l Z a0 hw [] ar lit9 _ n0 Z0) eT (by decide) 1 (by decide) (by rw [hml]; rfl) [(.ref ar), (.ref lit9)] (rest := [(.ref a1)]) (lenOf pd_0 rfl) rfl rfl (Nat.le_of_eq rfl) (by decide) (by decide) 49 (hb hby d_prog_32_method_2_46) rfl (fun v T h10 Lc X eT q => ?_)
  obtain ⟨rfl, N', e'⟩ := q
  replace N := Fr.app N N'
  replace eT := eT.trans e'
  show Wout p e below _ T (mkF m 49 #[.val (.ref a1), .val (.ref ap), .val (.ref ai), .val (.int ro), .val (.int tt), .val (.ref ar)] [(.ref ar), (.ref a1)])
  refine o_checkcast X hx hZ hown (hw _ (List.mem_of_getElem? (i := 59) rfl)) eT (Ins.self (E_ar.ext O.2)) 52 (hb hby d_prog_32_method_2_49) rfl (fun T X eT => ?_)
  refine o_putF X hx hZ (.object "com/example/nestx/nestx/RollbackRule") hown (host := "") (Or.inl (hw _ (List.mem_of_getElem? (i := 61) rfl))) Via.refl eT F4 E_a1 (Or.inr ⟨(hw _ (List.mem_of_getElem? (i := 62) rfl)), rfl, hnm⟩) (hw _ (List.mem_of_getElem? (i := 17) rfl)) (by decide) rfl rfl N g_a1 55 (hb hby d_prog_32_method_2_52) rfl (fun T h11 locs X eT W N => ?_)
  replace E_a1 := E_a1.wr W
  replace F0 := F0.other W (Or.inr (slot_ne (Or.inr (hw _ (List.mem_of_getElem? (i := 48) rfl))) (Or.inr (hw _ (List.mem_of_getElem? (i := 62) rfl))) (by decide) (t := (.object "com/example/nestx/nestx/Propagation")) (t' := (.object "com/example/nestx/nestx/RollbackRule")) (by decide) (by decide)))
  replace F1 := F1.other W (Or.inr (slot_ne (Or.inr (hw _ (List.mem_of_getElem? (i := 53) rfl))) (Or.inr (hw _ (List.mem_of_getElem? (i := 62) rfl))) (by decide) (t := (.object "com/example/nestx/nestx/Isolation")) (t' := (.object "com/example/nestx/nestx/RollbackRule")) (by decide) (by decide)))
  replace F2 := F2.other W (Or.inr (slot_ne (Or.inr (hw _ (List.mem_of_getElem? (i := 55) rfl))) (Or.inr (hw _ (List.mem_of_getElem? (i := 62) rfl))) (by decide) (t := .boolean) (t' := (.object "com/example/nestx/nestx/RollbackRule")) (by decide) (by decide)))
  replace F3 := F3.other W (Or.inr (slot_ne (Or.inr (hw _ (List.mem_of_getElem? (i := 57) rfl))) (Or.inr (hw _ (List.mem_of_getElem? (i := 62) rfl))) (by decide) (t := .int) (t' := (.object "com/example/nestx/nestx/RollbackRule")) (by decide) (by decide)))
  replace F4 := F4.same W
  replace Z0 := Nat.le_trans Z0 (Keep.of_wr W).1
  replace hk := Nat.le_trans hk (Keep.of_wr W).1
  replace K := K.wr W (Or.inl (List.mem_of_getElem? (i := 0) rfl))
  replace O := O.wr W g_a1
  exact o_retVW X hx hS (by rw [eT]; exact hk) hlk hret (hb hby d_prog_32_method_2_55) (by decide) (by decide) (by rw [eT]; exact ⟨lit1, lit4, lit9, rfl, N, K, E_a1, F0, F1, hro ▸ F2, F3, F4, L1.stayH X.warmed, L4.stayH X.warmed, L9.stayH X.warmed⟩)
def Q_i5a (Z : State) (a1 ap ai ar : Addr) (ro tt : Int32) (u0 u1 u2 u3 u4 : Value) (c1 c2 c3 : Addr) (h0 : Heap) (n0 : Nat) (v : Option Value) (h : Heap) (L : List Loc) (vm : Vm) : Prop := v = none ∧ Fr n0 L ∧ Keep h0 h [a1] ∧ Exa Z h a1 "com/example/nestx/nestx/TransactionDefinition" ∧ Fld Z h a1 "com/example/nestx/nestx/TransactionDefinition" "propagation" "Lcom/example/nestx/nestx/Propagation;" (.ref ap) ∧ Fld Z h a1 "com/example/nestx/nestx/TransactionDefinition" "isolation" "Lcom/example/nestx/nestx/Isolation;" (.ref ai) ∧ Fld Z h a1 "com/example/nestx/nestx/TransactionDefinition" "readOnly" "Z" (.int ro) ∧ Fld Z h a1 "com/example/nestx/nestx/TransactionDefinition" "timeout" "I" (.int tt) ∧ Fld Z h a1 "com/example/nestx/nestx/TransactionDefinition" "rollbackRule" "Lcom/example/nestx/nestx/RollbackRule;" (.ref ar)
set_option maxRecDepth 65536 in
set_option maxHeartbeats 40000000 in
theorem rm_i5a (l : Launch) (Z : State) (a0 : Array Value) (hw : ∀ d ∈ tables_1, d.before a0 Z = true) (ws : List Jvm.Cond) (a1 ap ai ar : Addr) (ro tt : Int32) (u0 u1 u2 u3 u4 : Value) (c1 c2 c3 : Addr) (h0 : Heap) (n0 : Nat) (Z0 : n0 ≤ h0.size) (O : Old Z n0 h0) (E_ap : Exa Z Z.heap ap "com/example/nestx/nestx/Propagation") (E_ai : Exa Z Z.heap ai "com/example/nestx/nestx/Isolation") (E_ar : Exa Z Z.heap ar "com/example/nestx/nestx/RollbackRule") (hro : nar .boolean ro = ro) (E_a1 : Exa Z h0 a1 "com/example/nestx/nestx/TransactionDefinition") (F0 : Fld Z h0 a1 "com/example/nestx/nestx/TransactionDefinition" "propagation" "Lcom/example/nestx/nestx/Propagation;" u0) (F1 : Fld Z h0 a1 "com/example/nestx/nestx/TransactionDefinition" "isolation" "Lcom/example/nestx/nestx/Isolation;" u1) (F2 : Fld Z h0 a1 "com/example/nestx/nestx/TransactionDefinition" "readOnly" "Z" u2) (F3 : Fld Z h0 a1 "com/example/nestx/nestx/TransactionDefinition" "timeout" "I" u3) (F4 : Fld Z h0 a1 "com/example/nestx/nestx/TransactionDefinition" "rollbackRule" "Lcom/example/nestx/nestx/RollbackRule;" u4) (g_a1 : n0 ≤ a1) :
    MetW l Z (⟨"com/example/nestx/nestx/TransactionDefinition", "<init>", "(Lcom/example/nestx/nestx/Propagation;Lcom/example/nestx/nestx/Isolation;ZILcom/example/nestx/nestx/RollbackRule;)V"⟩ : MethodName) prog_32_method_2_code 6 none ws ({ frames := 1, cells := 0, slots := 0, locals := 16 } : Room) #[(.ref a1), (.ref ap), (.ref ai), (.int ro), (.int tt), (.ref ar)] h0 (fun vm => LitV Z vm "com/example/nestx/nestx/TransactionDefinition" 24 c1 ∧ LitV Z vm "com/example/nestx/nestx/TransactionDefinition" 37 c2 ∧ LitV Z vm "com/example/nestx/nestx/TransactionDefinition" 49 c3) (Q_i5a Z a1 ap ai ar ro tt u0 u1 u2 u3 u4 c1 c2 c3 h0 n0) := by
  refine MetW.start (plainFor_of_name pn_2) ?_
  intro p e s m below meth c T vm0 k0 X hx hby hml hown hnm hret hlk hZ eT hS hk hv hh0
  have N := Fr.nil n0
  have K := Keep.refl h0 [a1]
  refine Wout.cast (g' := (mkF m 0 #[.val (.ref a1), .val (.ref ap), .val (.ref ai), .val (.int ro), .val (.int tt), .val (.ref ar)] [])) (by first | (simp [entryFrame, mkF, argsToLocals, Value.category]; done) | rfl) ?_
  have wS : ∀ a ∈ Bundle.stringAtoms, a.before a0 Z = true := fun q hq => hw q ((by decide +kernel : ∀ q ∈ Bundle.stringAtoms, q ∈ tables_1) q hq)
  obtain ⟨L1, L2, L3⟩ := hv
  refine o_aloadN X hx 1 (hb hby d_prog_32_method_2_0) rfl rfl rfl ?_
  refine o_initO X hx hZ hown (hw _ (List.mem_of_getElem? (i := 30) rfl)) (hw _ (List.mem_of_getElem? (i := 31) rfl)) (hw _ (List.mem_of_getElem? (i := 32) rfl)) eT (by rw [hml]; rfl) (by decide) 0 (Nat.le_of_eq rfl) (by decide) 4 (hb hby d_prog_32_method_2_1) rfl (fun T X eT => ?_)
  refine o_aloadN X hx 5 (hb hby d_prog_32_method_2_4) rfl rfl rfl ?_
  refine o_aloadN X hx 6 (hb hby d_prog_32_method_2_5) rfl rfl rfl ?_
  refine o_ldcA X hx hZ hown (hw _ (List.mem_of_getElem? (i := 33) rfl)) L1 8 (hb hby d_prog_32_method_2_6) rfl ?_
  refine o_callS X hx hZ hown (hw _ (List.mem_of_getElem? (i := 41) rfl)) (hw _ (List.mem_of_getElem? (i := 42) rfl)) (hw _ (List.mem_of_getElem? (i := 43) rfl)) (hw _ (List.mem_of_getElem? (i := 44) rfl)) (by decide) (rm_rnn l Z a0 hw [] ap c1 _ n0 Z0) eT (by decide) 1 (by decide) (by rw [hml]; rfl) [(.ref ap), (.ref c1)] (rest := [(.ref a1)]) (lenOf pd_0 rfl) rfl rfl (Nat.le_of_eq rfl) (by decide) (by decide) 11 (hb hby d_prog_32_method_2_8) rfl (fun v T h1 Lc X eT q => ?_)
  obtain ⟨rfl, N', e'⟩ := q
  replace N := Fr.app N N'
  replace eT := eT.trans e'
  show Wout p e below _ T (mkF m 11 #[.val (.ref a1), .val (.ref ap), .val (.ref ai), .val (.int ro), .val (.int tt), .val (.ref ar)] [(.ref ap), (.ref a1)])
  refine o_checkcast X hx hZ hown (hw _ (List.mem_of_getElem? (i := 45) rfl)) eT (Ins.self (E_ap.ext O.2)) 14 (hb hby d_prog_32_method_2_11) rfl (fun T X eT => ?_)
  refine o_putF X hx hZ (.object "com/example/nestx/nestx/Propagation") hown (host := "") (Or.inl (hw _ (List.mem_of_getElem? (i := 47) rfl))) Via.refl eT F0 E_a1 (Or.inr ⟨(hw _ (List.mem_of_getElem? (i := 48) rfl)), rfl, hnm⟩) (hw _ (List.mem_of_getElem? (i := 17) rfl)) (by decide) rfl rfl N g_a1 17 (hb hby d_prog_32_method_2_14) rfl (fun T h2 locs X eT W N => ?_)
  replace E_a1 := E_a1.wr W
  replace F0 := F0.same W
  replace F1 := F1.other W (Or.inr (slot_ne (Or.inr (hw _ (List.mem_of_getElem? (i := 53) rfl))) (Or.inr (hw _ (List.mem_of_getElem? (i := 48) rfl))) (by decide) (t := (.object "com/example/nestx/nestx/Isolation")) (t' := (.object "com/example/nestx/nestx/Propagation")) (by decide) (by decide)))
  replace F2 := F2.other W (Or.inr (slot_ne (Or.inr (hw _ (List.mem_of_getElem? (i := 55) rfl))) (Or.inr (hw _ (List.mem_of_getElem? (i := 48) rfl))) (by decide) (t := .boolean) (t' := (.object "com/example/nestx/nestx/Propagation")) (by decide) (by decide)))
  replace F3 := F3.other W (Or.inr (slot_ne (Or.inr (hw _ (List.mem_of_getElem? (i := 57) rfl))) (Or.inr (hw _ (List.mem_of_getElem? (i := 48) rfl))) (by decide) (t := .int) (t' := (.object "com/example/nestx/nestx/Propagation")) (by decide) (by decide)))
  replace F4 := F4.other W (Or.inr (slot_ne (Or.inr (hw _ (List.mem_of_getElem? (i := 62) rfl))) (Or.inr (hw _ (List.mem_of_getElem? (i := 48) rfl))) (by decide) (t := (.object "com/example/nestx/nestx/RollbackRule")) (t' := (.object "com/example/nestx/nestx/Propagation")) (by decide) (by decide)))
  replace Z0 := Nat.le_trans Z0 (Keep.of_wr W).1
  replace hk := Nat.le_trans hk (Keep.of_wr W).1
  replace K := K.wr W (Or.inl (List.mem_of_getElem? (i := 0) rfl))
  replace O := O.wr W g_a1
  refine o_aloadN X hx 18 (hb hby d_prog_32_method_2_17) rfl rfl rfl ?_
  refine o_aloadN X hx 19 (hb hby d_prog_32_method_2_18) rfl rfl rfl ?_
  refine o_ldcA X hx hZ hown (hw _ (List.mem_of_getElem? (i := 49) rfl)) L2 21 (hb hby d_prog_32_method_2_19) rfl ?_
  refine o_callS X hx hZ hown (hw _ (List.mem_of_getElem? (i := 41) rfl)) (hw _ (List.mem_of_getElem? (i := 42) rfl)) (hw _ (List.mem_of_getElem? (i := 43) rfl)) (hw _ (List.mem_of_getElem? (i := 44) rfl)) (by decide) (rm_rnn l Z a0 hw [] ai c2 _ n0 Z0) eT (by decide) 1 (by decide) (by rw [hml]; rfl) [(.ref ai), (.ref c2)] (rest := [(.ref a1)]) (lenOf pd_0 rfl) rfl rfl (Nat.le_of_eq rfl) (by decide) (by decide) 24 (hb hby d_prog_32_method_2_21) rfl (fun v T h3 Lc X eT q => ?_)
  obtain ⟨rfl, N', e'⟩ := q
  replace N := Fr.app N N'
  replace eT := eT.trans e'
  show Wout p e below _ T (mkF m 24 #[.val (.ref a1), .val (.ref ap), .val (.ref ai), .val (.int ro), .val (.int tt), .val (.ref ar)] [(.ref ai), (.ref a1)])
  refine o_checkcast X hx hZ hown (hw _ (List.mem_of_getElem? (i := 50) rfl)) eT (Ins.self (E_ai.ext O.2)) 27 (hb hby d_prog_32_method_2_24) rfl (fun T X eT => ?_)
  refine o_putF X hx hZ (.object "com/example/nestx/nestx/Isolation") hown (host := "") (Or.inl (hw _ (List.mem_of_getElem? (i := 52) rfl))) Via.refl eT F1 E_a1 (Or.inr ⟨(hw _ (List.mem_of_getElem? (i := 53) rfl)), rfl, hnm⟩) (hw _ (List.mem_of_getElem? (i := 17) rfl)) (by decide) rfl rfl N g_a1 30 (hb hby d_prog_32_method_2_27) rfl (fun T h4 locs X eT W N => ?_)
  replace E_a1 := E_a1.wr W
  replace F0 := F0.other W (Or.inr (slot_ne (Or.inr (hw _ (List.mem_of_getElem? (i := 48) rfl))) (Or.inr (hw _ (List.mem_of_getElem? (i := 53) rfl))) (by decide) (t := (.object "com/example/nestx/nestx/Propagation")) (t' := (.object "com/example/nestx/nestx/Isolation")) (by decide) (by decide)))
  replace F1 := F1.same W
  replace F2 := F2.other W (Or.inr (slot_ne (Or.inr (hw _ (List.mem_of_getElem? (i := 55) rfl))) (Or.inr (hw _ (List.mem_of_getElem? (i := 53) rfl))) (by decide) (t := .boolean) (t' := (.object "com/example/nestx/nestx/Isolation")) (by decide) (by decide)))
  replace F3 := F3.other W (Or.inr (slot_ne (Or.inr (hw _ (List.mem_of_getElem? (i := 57) rfl))) (Or.inr (hw _ (List.mem_of_getElem? (i := 53) rfl))) (by decide) (t := .int) (t' := (.object "com/example/nestx/nestx/Isolation")) (by decide) (by decide)))
  replace F4 := F4.other W (Or.inr (slot_ne (Or.inr (hw _ (List.mem_of_getElem? (i := 62) rfl))) (Or.inr (hw _ (List.mem_of_getElem? (i := 53) rfl))) (by decide) (t := (.object "com/example/nestx/nestx/RollbackRule")) (t' := (.object "com/example/nestx/nestx/Isolation")) (by decide) (by decide)))
  replace Z0 := Nat.le_trans Z0 (Keep.of_wr W).1
  replace hk := Nat.le_trans hk (Keep.of_wr W).1
  replace K := K.wr W (Or.inl (List.mem_of_getElem? (i := 0) rfl))
  replace O := O.wr W g_a1
  refine o_aloadN X hx 31 (hb hby d_prog_32_method_2_30) rfl rfl rfl ?_
  refine o_iloadN X hx 32 (hb hby d_prog_32_method_2_31) rfl rfl ?_
  refine o_putFN X hx hZ .boolean hown (hw _ (List.mem_of_getElem? (i := 54) rfl)) Via.refl eT F2 E_a1 (Or.inr ⟨(hw _ (List.mem_of_getElem? (i := 55) rfl)), rfl, hnm⟩) (hw _ (List.mem_of_getElem? (i := 17) rfl)) (v' := (.int (nar .boolean ro))) (by decide) rfl (fits_nar_bool _) N g_a1 35 (hb hby d_prog_32_method_2_32) rfl (fun T h5 locs X eT W N => ?_)
  replace E_a1 := E_a1.wr W
  replace F0 := F0.other W (Or.inr (slot_ne (Or.inr (hw _ (List.mem_of_getElem? (i := 48) rfl))) (Or.inr (hw _ (List.mem_of_getElem? (i := 55) rfl))) (by decide) (t := (.object "com/example/nestx/nestx/Propagation")) (t' := .boolean) (by decide) (by decide)))
  replace F1 := F1.other W (Or.inr (slot_ne (Or.inr (hw _ (List.mem_of_getElem? (i := 53) rfl))) (Or.inr (hw _ (List.mem_of_getElem? (i := 55) rfl))) (by decide) (t := (.object "com/example/nestx/nestx/Isolation")) (t' := .boolean) (by decide) (by decide)))
  replace F2 := F2.same W
  replace F3 := F3.other W (Or.inr (slot_ne (Or.inr (hw _ (List.mem_of_getElem? (i := 57) rfl))) (Or.inr (hw _ (List.mem_of_getElem? (i := 55) rfl))) (by decide) (t := .int) (t' := .boolean) (by decide) (by decide)))
  replace F4 := F4.other W (Or.inr (slot_ne (Or.inr (hw _ (List.mem_of_getElem? (i := 62) rfl))) (Or.inr (hw _ (List.mem_of_getElem? (i := 55) rfl))) (by decide) (t := (.object "com/example/nestx/nestx/RollbackRule")) (t' := .boolean) (by decide) (by decide)))
  replace Z0 := Nat.le_trans Z0 (Keep.of_wr W).1
  replace hk := Nat.le_trans hk (Keep.of_wr W).1
  replace K := K.wr W (Or.inl (List.mem_of_getElem? (i := 0) rfl))
  replace O := O.wr W g_a1
  refine o_aloadN X hx 36 (hb hby d_prog_32_method_2_35) rfl rfl rfl ?_
  refine o_iload X hx 38 (hb hby d_prog_32_method_2_36) rfl rfl ?_
  refine o_putF X hx hZ .int hown (host := "") (Or.inl (hw _ (List.mem_of_getElem? (i := 56) rfl))) Via.refl eT F3 E_a1 (Or.inr ⟨(hw _ (List.mem_of_getElem? (i := 57) rfl)), rfl, hnm⟩) (hw _ (List.mem_of_getElem? (i := 17) rfl)) (by decide) rfl rfl N g_a1 41 (hb hby d_prog_32_method_2_38) rfl (fun T h6 locs X eT W N => ?_)
  replace E_a1 := E_a1.wr W
  replace F0 := F0.other W (Or.inr (slot_ne (Or.inr (hw _ (List.mem_of_getElem? (i := 48) rfl))) (Or.inr (hw _ (List.mem_of_getElem? (i := 57) rfl))) (by decide) (t := (.object "com/example/nestx/nestx/Propagation")) (t' := .int) (by decide) (by decide)))
  replace F1 := F1.other W (Or.inr (slot_ne (Or.inr (hw _ (List.mem_of_getElem? (i := 53) rfl))) (Or.inr (hw _ (List.mem_of_getElem? (i := 57) rfl))) (by decide) (t := (.object "com/example/nestx/nestx/Isolation")) (t' := .int) (by decide) (by decide)))
  replace F2 := F2.other W (Or.inr (slot_ne (Or.inr (hw _ (List.mem_of_getElem? (i := 55) rfl))) (Or.inr (hw _ (List.mem_of_getElem? (i := 57) rfl))) (by decide) (t := .boolean) (t' := .int) (by decide) (by decide)))
  replace F3 := F3.same W
  replace F4 := F4.other W (Or.inr (slot_ne (Or.inr (hw _ (List.mem_of_getElem? (i := 62) rfl))) (Or.inr (hw _ (List.mem_of_getElem? (i := 57) rfl))) (by decide) (t := (.object "com/example/nestx/nestx/RollbackRule")) (t' := .int) (by decide) (by decide)))
  replace Z0 := Nat.le_trans Z0 (Keep.of_wr W).1
  replace hk := Nat.le_trans hk (Keep.of_wr W).1
  replace K := K.wr W (Or.inl (List.mem_of_getElem? (i := 0) rfl))
  replace O := O.wr W g_a1
  refine o_aloadN X hx 42 (hb hby d_prog_32_method_2_41) rfl rfl rfl ?_
  refine o_aload X hx 44 (hb hby d_prog_32_method_2_42) rfl rfl rfl ?_
  refine o_ldcA X hx hZ hown (hw _ (List.mem_of_getElem? (i := 58) rfl)) L3 46 (hb hby d_prog_32_method_2_44) rfl ?_
  refine o_callS X hx hZ hown (hw _ (List.mem_of_getElem? (i := 41) rfl)) (hw _ (List.mem_of_getElem? (i := 42) rfl)) (hw _ (List.mem_of_getElem? (i := 43) rfl)) (hw _ (List.mem_of_getElem? (i := 44) rfl)) (by decide) (rm_rnn l Z a0 hw [] ar c3 _ n0 Z0) eT (by decide) 1 (by decide) (by rw [hml]; rfl) [(.ref ar), (.ref c3)] (rest := [(.ref a1)]) (lenOf pd_0 rfl) rfl rfl (Nat.le_of_eq rfl) (by decide) (by decide) 49 (hb hby d_prog_32_method_2_46) rfl (fun v T h7 Lc X eT q => ?_)
  obtain ⟨rfl, N', e'⟩ := q
  replace N := Fr.app N N'
  replace eT := eT.trans e'
  show Wout p e below _ T (mkF m 49 #[.val (.ref a1), .val (.ref ap), .val (.ref ai), .val (.int ro), .val (.int tt), .val (.ref ar)] [(.ref ar), (.ref a1)])
  refine o_checkcast X hx hZ hown (hw _ (List.mem_of_getElem? (i := 59) rfl)) eT (Ins.self (E_ar.ext O.2)) 52 (hb hby d_prog_32_method_2_49) rfl (fun T X eT => ?_)
  refine o_putF X hx hZ (.object "com/example/nestx/nestx/RollbackRule") hown (host := "") (Or.inl (hw _ (List.mem_of_getElem? (i := 61) rfl))) Via.refl eT F4 E_a1 (Or.inr ⟨(hw _ (List.mem_of_getElem? (i := 62) rfl)), rfl, hnm⟩) (hw _ (List.mem_of_getElem? (i := 17) rfl)) (by decide) rfl rfl N g_a1 55 (hb hby d_prog_32_method_2_52) rfl (fun T h8 locs X eT W N => ?_)
  replace E_a1 := E_a1.wr W
  replace F0 := F0.other W (Or.inr (slot_ne (Or.inr (hw _ (List.mem_of_getElem? (i := 48) rfl))) (Or.inr (hw _ (List.mem_of_getElem? (i := 62) rfl))) (by decide) (t := (.object "com/example/nestx/nestx/Propagation")) (t' := (.object "com/example/nestx/nestx/RollbackRule")) (by decide) (by decide)))
  replace F1 := F1.other W (Or.inr (slot_ne (Or.inr (hw _ (List.mem_of_getElem? (i := 53) rfl))) (Or.inr (hw _ (List.mem_of_getElem? (i := 62) rfl))) (by decide) (t := (.object "com/example/nestx/nestx/Isolation")) (t' := (.object "com/example/nestx/nestx/RollbackRule")) (by decide) (by decide)))
  replace F2 := F2.other W (Or.inr (slot_ne (Or.inr (hw _ (List.mem_of_getElem? (i := 55) rfl))) (Or.inr (hw _ (List.mem_of_getElem? (i := 62) rfl))) (by decide) (t := .boolean) (t' := (.object "com/example/nestx/nestx/RollbackRule")) (by decide) (by decide)))
  replace F3 := F3.other W (Or.inr (slot_ne (Or.inr (hw _ (List.mem_of_getElem? (i := 57) rfl))) (Or.inr (hw _ (List.mem_of_getElem? (i := 62) rfl))) (by decide) (t := .int) (t' := (.object "com/example/nestx/nestx/RollbackRule")) (by decide) (by decide)))
  replace F4 := F4.same W
  replace Z0 := Nat.le_trans Z0 (Keep.of_wr W).1
  replace hk := Nat.le_trans hk (Keep.of_wr W).1
  replace K := K.wr W (Or.inl (List.mem_of_getElem? (i := 0) rfl))
  replace O := O.wr W g_a1
  exact o_retVW X hx hS (by rw [eT]; exact hk) hlk hret (hb hby d_prog_32_method_2_55) (by decide) (by decide) (by rw [eT]; exact ⟨rfl, N, K, E_a1, F0, F1, hro ▸ F2, F3, F4⟩)
theorem d_prog_32_method_1_0 : decode prog_32_method_1_code 0 = .ok (.aload_n 0, 1) := by decide +kernel
theorem d_prog_32_method_1_1 : decode prog_32_method_1_code 1 = .ok (.aload_n 1, 1) := by decide +kernel
theorem d_prog_32_method_1_2 : decode prog_32_method_1_code 2 = .ok (.getstatic 1, 3) := by decide +kernel
theorem d_prog_32_method_1_5 : decode prog_32_method_1_code 5 = .ok (.iconst 0, 1) := by decide +kernel
theorem d_prog_32_method_1_6 : decode prog_32_method_1_code 6 = .ok (.iconst (-1), 1) := by decide +kernel
theorem d_prog_32_method_1_7 : decode prog_32_method_1_code 7 = .ok (.getstatic 9, 3) := by decide +kernel
theorem d_prog_32_method_1_10 : decode prog_32_method_1_code 10 = .ok (.invokespecial 15, 3) := by decide +kernel
theorem d_prog_32_method_1_13 : decode prog_32_method_1_code 13 = .ok (.return_, 1) := by decide +kernel
theorem pd_1 : parseMethodDescriptor "(Lcom/example/nestx/nestx/Propagation;Lcom/example/nestx/nestx/Isolation;ZILcom/example/nestx/nestx/RollbackRule;)V" = some ⟨[(.object "com/example/nestx/nestx/Propagation"), (.object "com/example/nestx/nestx/Isolation"), .boolean, .int, (.object "com/example/nestx/nestx/RollbackRule")], none⟩ := by decide +kernel
def Q_i1 (Z : State) (a1 ap ai ar : Addr) (u0 u1 u2 u3 u4 : Value) (h0 : Heap) (n0 : Nat) (v : Option Value) (h : Heap) (L : List Loc) (vm : Vm) : Prop := ∃ c1 c2 c3 : Addr, v = none ∧ Fr n0 L ∧ Keep h0 h [a1] ∧ Exa Z h a1 "com/example/nestx/nestx/TransactionDefinition" ∧ Fld Z h a1 "com/example/nestx/nestx/TransactionDefinition" "propagation" "Lcom/example/nestx/nestx/Propagation;" (.ref ap) ∧ Fld Z h a1 "com/example/nestx/nestx/TransactionDefinition" "isolation" "Lcom/example/nestx/nestx/Isolation;" (.ref ai) ∧ Fld Z h a1 "com/example/nestx/nestx/TransactionDefinition" "readOnly" "Z" (.int 0) ∧ Fld Z h a1 "com/example/nestx/nestx/TransactionDefinition" "timeout" "I" (.int (-1)) ∧ Fld Z h a1 "com/example/nestx/nestx/TransactionDefinition" "rollbackRule" "Lcom/example/nestx/nestx/RollbackRule;" (.ref ar) ∧ LitV Z vm "com/example/nestx/nestx/TransactionDefinition" 24 c1 ∧ LitV Z vm "com/example/nestx/nestx/TransactionDefinition" 37 c2 ∧ LitV Z vm "com/example/nestx/nestx/TransactionDefinition" 49 c3
set_option maxRecDepth 65536 in
set_option maxHeartbeats 40000000 in
theorem rm_i1 (l : Launch) (Z : State) (a0 : Array Value) (hw : ∀ d ∈ tables_1, d.before a0 Z = true) (ws : List Jvm.Cond) (a1 ap ai ar : Addr) (u0 u1 u2 u3 u4 : Value) (h0 : Heap) (n0 : Nat) (Z0 : n0 ≤ h0.size) (O : Old Z n0 h0) (SI : Sta Z Z.heap "com/example/nestx/nestx/Isolation" "DEFAULT" "Lcom/example/nestx/nestx/Isolation;" (.ref ai)) (SR : Sta Z Z.heap "com/example/nestx/nestx/RollbackRule" "EVERY_FAILURE" "Lcom/example/nestx/nestx/RollbackRule;" (.ref ar)) (E_ap : Exa Z Z.heap ap "com/example/nestx/nestx/Propagation") (E_ai : Exa Z Z.heap ai "com/example/nestx/nestx/Isolation") (E_ar : Exa Z Z.heap ar "com/example/nestx/nestx/RollbackRule") (E_a1 : Exa Z h0 a1 "com/example/nestx/nestx/TransactionDefinition") (F0 : Fld Z h0 a1 "com/example/nestx/nestx/TransactionDefinition" "propagation" "Lcom/example/nestx/nestx/Propagation;" u0) (F1 : Fld Z h0 a1 "com/example/nestx/nestx/TransactionDefinition" "isolation" "Lcom/example/nestx/nestx/Isolation;" u1) (F2 : Fld Z h0 a1 "com/example/nestx/nestx/TransactionDefinition" "readOnly" "Z" u2) (F3 : Fld Z h0 a1 "com/example/nestx/nestx/TransactionDefinition" "timeout" "I" u3) (F4 : Fld Z h0 a1 "com/example/nestx/nestx/TransactionDefinition" "rollbackRule" "Lcom/example/nestx/nestx/RollbackRule;" u4) (g_a1 : n0 ≤ a1) :
    MetW l Z (⟨"com/example/nestx/nestx/TransactionDefinition", "<init>", "(Lcom/example/nestx/nestx/Propagation;)V"⟩ : MethodName) prog_32_method_1_code 2 none ws ({ frames := 2, cells := 6, slots := 140, locals := 40 } : Room) #[(.ref a1), (.ref ap)] h0 (fun _ => True) (Q_i1 Z a1 ap ai ar u0 u1 u2 u3 u4 h0 n0) := by
  refine MetW.start (plainFor_of_name pn_2) ?_
  intro p e s m below meth c T vm0 k0 X hx hby hml hown hnm hret hlk hZ eT hS hk hv hh0
  have N := Fr.nil n0
  have K := Keep.refl h0 [a1]
  refine Wout.cast (g' := (mkF m 0 #[.val (.ref a1), .val (.ref ap)] [])) (by first | (simp [entryFrame, mkF, argsToLocals, Value.category]; done) | rfl) ?_
  refine o_aloadN X hx 1 (hb hby d_prog_32_method_1_0) rfl rfl rfl ?_
  refine o_aloadN X hx 2 (hb hby d_prog_32_method_1_1) rfl rfl rfl ?_
  refine o_getS X hx hZ hown (host := "") (Or.inl (hw _ (List.mem_of_getElem? (i := 22) rfl))) Via.refl eT (SI.ext O.2) 5 (hb hby d_prog_32_method_1_2) rfl (fun T X eT => ?_)
  refine o_iconst X hx 6 (0 : Int32) (hb hby d_prog_32_method_1_5) rfl rfl ?_
  refine o_iconst X hx 7 (-1 : Int32) (hb hby d_prog_32_method_1_6) rfl rfl ?_
  refine o_getS X hx hZ hown (host := "") (Or.inl (hw _ (List.mem_of_getElem? (i := 24) rfl))) Via.refl eT (SR.ext O.2) 10 (hb hby d_prog_32_method_1_7) rfl (fun T X eT => ?_)
  refine o_callIW X hx hS hk hZ rfl hown (hw _ (List.mem_of_getElem? (i := 27) rfl)) (hw _ (List.mem_of_getElem? (i := 28) rfl)) (hw _ (List.mem_of_getElem? (i := 18) rfl)) (hw _ (List.mem_of_getElem? (i := 29) rfl)) (by decide) (rm_i5c l Z a0 hw [] a1 ap ai ar 0 (-1) _ _ _ _ _ _ n0 Z0 O E_ap E_ai E_ar (by decide) E_a1 F0 F1 F2 F3 F4 g_a1) (fun _ _ => trivial) eT (by decide) 0 (by decide) (by rw [hml]; rfl) [(.ref ap), (.ref ai), (.int (0 : Int32)), (.int (-1 : Int32)), (.ref ar)] (rest := []) (lenOf pd_1 rfl) rfl rfl (Nat.le_of_eq rfl) (by decide) (by decide) 13 (hb hby d_prog_32_method_1_10) rfl (fun v T h1 Lc vm0 k0 X eT hS hk hZ hown hW q => ?_)
  obtain ⟨c1, c2, c3, rfl, N', K1, E', G0, G1, G2, G3, G4, L1, L2, L3⟩ := q
  replace N := Fr.app N N'
  show Wout p e below _ T (mkF m 13 #[.val (.ref a1), .val (.ref ap)] [])
  exact o_retVW X hx hS (by rw [eT]; exact hk) hlk hret (hb hby d_prog_32_method_1_13) (by decide) (by decide) (by rw [eT]; exact ⟨c1, c2, c3, rfl, N, K1, E', G0, G1, G2, G3, G4, L1.stayH X.warmed, L2.stayH X.warmed, L3.stayH X.warmed⟩)
theorem d_prog_32_method_4_0 : decode prog_32_method_4_code 0 = .ok (.new 7, 3) := by decide +kernel
theorem d_prog_32_method_4_3 : decode prog_32_method_4_code 3 = .ok (.dup, 1) := by decide +kernel
theorem d_prog_32_method_4_4 : decode prog_32_method_4_code 4 = .ok (.aload_n 0, 1) := by decide +kernel
theorem d_prog_32_method_4_5 : decode prog_32_method_4_code 5 = .ok (.getfield 34, 3) := by decide +kernel
theorem d_prog_32_method_4_8 : decode prog_32_method_4_code 8 = .ok (.aload_n 0, 1) := by decide +kernel
theorem d_prog_32_method_4_9 : decode prog_32_method_4_code 9 = .ok (.getfield 39, 3) := by decide +kernel
theorem d_prog_32_method_4_12 : decode prog_32_method_4_code 12 = .ok (.iload_n 1, 1) := by decide +kernel
theorem d_prog_32_method_4_13 : decode prog_32_method_4_code 13 = .ok (.aload_n 0, 1) := by decide +kernel
theorem d_prog_32_method_4_14 : decode prog_32_method_4_code 14 = .ok (.getfield 45, 3) := by decide +kernel
theorem d_prog_32_method_4_17 : decode prog_32_method_4_code 17 = .ok (.aload_n 0, 1) := by decide +kernel
theorem d_prog_32_method_4_18 : decode prog_32_method_4_code 18 = .ok (.getfield 51, 3) := by decide +kernel
theorem d_prog_32_method_4_21 : decode prog_32_method_4_code 21 = .ok (.invokespecial 15, 3) := by decide +kernel
theorem d_prog_32_method_4_24 : decode prog_32_method_4_code 24 = .ok (.areturn, 1) := by decide +kernel
def Q_wro (Z : State) (a1 ap ar : Addr) (ai : Addr) (ro : Int32) (r0 tt : Int32) (c1 c2 c3 : Addr) (h0 : Heap) (n0 : Nat) (v : Option Value) (h : Heap) (L : List Loc) (vm : Vm) : Prop := ∃ b : Addr, v = some (.ref b) ∧ Fr n0 L ∧ Keep h0 h [] ∧ Exa Z h b "com/example/nestx/nestx/TransactionDefinition" ∧ Fld Z h b "com/example/nestx/nestx/TransactionDefinition" "propagation" "Lcom/example/nestx/nestx/Propagation;" (.ref ap) ∧ Fld Z h b "com/example/nestx/nestx/TransactionDefinition" "isolation" "Lcom/example/nestx/nestx/Isolation;" (.ref ai) ∧ Fld Z h b "com/example/nestx/nestx/TransactionDefinition" "readOnly" "Z" (.int ro) ∧ Fld Z h b "com/example/nestx/nestx/TransactionDefinition" "timeout" "I" (.int tt) ∧ Fld Z h b "com/example/nestx/nestx/TransactionDefinition" "rollbackRule" "Lcom/example/nestx/nestx/RollbackRule;" (.ref ar)
set_option maxRecDepth 65536 in
set_option maxHeartbeats 40000000 in
theorem rm_wro (l : Launch) (Z : State) (a0 : Array Value) (hw : ∀ d ∈ tables_1, d.before a0 Z = true) (ws : List Jvm.Cond) (a1 ap ar : Addr) (ai : Addr) (ro : Int32) (r0 tt : Int32) (c1 c2 c3 : Addr) (h0 : Heap) (n0 : Nat) (Z0 : n0 ≤ h0.size) (O : Old Z n0 h0) (E_ap : Exa Z Z.heap ap "com/example/nestx/nestx/Propagation") (E_ai : Exa Z Z.heap ai "com/example/nestx/nestx/Isolation") (E_ar : Exa Z Z.heap ar "com/example/nestx/nestx/RollbackRule") (hro : nar .boolean ro = ro) (E_a1 : Exa Z h0 a1 "com/example/nestx/nestx/TransactionDefinition") (F0 : Fld Z h0 a1 "com/example/nestx/nestx/TransactionDefinition" "propagation" "Lcom/example/nestx/nestx/Propagation;" (.ref ap)) (F1 : Fld Z h0 a1 "com/example/nestx/nestx/TransactionDefinition" "isolation" "Lcom/example/nestx/nestx/Isolation;" (.ref ai)) (F2 : Fld Z h0 a1 "com/example/nestx/nestx/TransactionDefinition" "readOnly" "Z" (.int r0)) (F3 : Fld Z h0 a1 "com/example/nestx/nestx/TransactionDefinition" "timeout" "I" (.int tt)) (F4 : Fld Z h0 a1 "com/example/nestx/nestx/TransactionDefinition" "rollbackRule" "Lcom/example/nestx/nestx/RollbackRule;" (.ref ar)) :
    MetW l Z (⟨"com/example/nestx/nestx/TransactionDefinition", "withReadOnly", "(Z)Lcom/example/nestx/nestx/TransactionDefinition;"⟩ : MethodName) prog_32_method_4_code 2 (some (.object "com/example/nestx/nestx/TransactionDefinition")) ws ({ frames := 2, cells := 1, slots := 5, locals := 48 } : Room) #[(.ref a1), (.int ro)] h0 (fun vm => LitV Z vm "com/example/nestx/nestx/TransactionDefinition" 24 c1 ∧ LitV Z vm "com/example/nestx/nestx/TransactionDefinition" 37 c2 ∧ LitV Z vm "com/example/nestx/nestx/TransactionDefinition" 49 c3) (Q_wro Z a1 ap ar ai ro r0 tt c1 c2 c3 h0 n0) := by
  refine MetW.start (plainFor_of_name pn_2) ?_
  intro p e s m below meth c T vm0 k0 X hx hby hml hown hnm hret hlk hZ eT hS hk hv hh0
  have N := Fr.nil n0
  have K := Keep.refl h0 []
  refine Wout.cast (g' := (mkF m 0 #[.val (.ref a1), .val (.int ro)] [])) (by first | (simp [entryFrame, mkF, argsToLocals, Value.category]; done) | rfl) ?_
  obtain ⟨L1, L2, L3⟩ := hv
  refine o_new X hx hZ hown (hw _ (List.mem_of_getElem? (i := 68) rfl)) (hw _ (List.mem_of_getElem? (i := 17) rfl)) (hw _ (List.mem_of_getElem? (i := 18) rfl)) eT 3 (hb hby d_prog_32_method_4_0) rfl (by decide) (by decide) (fun T h1 b1 hb1 X eT E A D => ?_)
  have ne_a1_b1 : a1 ≠ b1 := Nat.ne_of_lt (Nat.lt_of_lt_of_eq E_a1.lt hb1.symm)
  have g_b1 : n0 ≤ b1 := Nat.le_trans Z0 (Nat.le_of_eq hb1.symm)
  have sz_b1 : h0.size ≤ b1 := Nat.le_trans K.1 (Nat.le_of_eq hb1.symm)
  replace E_a1 := E_a1.ext E
  replace F0 := F0.ext E
  replace F1 := F1.ext E
  replace F2 := F2.ext E
  replace F3 := F3.ext E
  replace F4 := F4.ext E
  replace Z0 := Nat.le_trans Z0 E.1
  replace hk := Nat.le_trans hk E.1
  replace K := K.ext E
  replace O := O.ext E
  have E_b1 := A
  have F_propagation_b1 : Fld Z h1 b1 "com/example/nestx/nestx/TransactionDefinition" "propagation" "Lcom/example/nestx/nestx/Propagation;" .null := D (Or.inr (hw _ (List.mem_of_getElem? (i := 48) rfl))) (ty := (.object "com/example/nestx/nestx/Propagation")) (by decide)
  have F_isolation_b1 : Fld Z h1 b1 "com/example/nestx/nestx/TransactionDefinition" "isolation" "Lcom/example/nestx/nestx/Isolation;" .null := D (Or.inr (hw _ (List.mem_of_getElem? (i := 53) rfl))) (ty := (.object "com/example/nestx/nestx/Isolation")) (by decide)
  have F_readOnly_b1 : Fld Z h1 b1 "com/example/nestx/nestx/TransactionDefinition" "readOnly" "Z" (.int (0 : Int32)) := D (Or.inr (hw _ (List.mem_of_getElem? (i := 55) rfl))) (ty := .boolean) (by decide)
  have F_timeout_b1 : Fld Z h1 b1 "com/example/nestx/nestx/TransactionDefinition" "timeout" "I" (.int (0 : Int32)) := D (Or.inr (hw _ (List.mem_of_getElem? (i := 57) rfl))) (ty := .int) (by decide)
  have F_rollbackRule_b1 : Fld Z h1 b1 "com/example/nestx/nestx/TransactionDefinition" "rollbackRule" "Lcom/example/nestx/nestx/RollbackRule;" .null := D (Or.inr (hw _ (List.mem_of_getElem? (i := 62) rfl))) (ty := (.object "com/example/nestx/nestx/RollbackRule")) (by decide)
  refine o_dup X hx 4 (hb hby d_prog_32_method_4_3) rfl rfl ?_
  refine o_aloadN X hx 5 (hb hby d_prog_32_method_4_4) rfl rfl rfl ?_
  refine o_getF X hx hZ hown (host := "") (Or.inl (hw _ (List.mem_of_getElem? (i := 47) rfl))) Via.refl eT F0 8 (hb hby d_prog_32_method_4_5) rfl (fun T X eT => ?_)
  refine o_aloadN X hx 9 (hb hby d_prog_32_method_4_8) rfl rfl rfl ?_
  refine o_getF X hx hZ hown (host := "") (Or.inl (hw _ (List.mem_of_getElem? (i := 52) rfl))) Via.refl eT F1 12 (hb hby d_prog_32_method_4_9) rfl (fun T X eT => ?_)
  refine o_iloadN X hx 13 (hb hby d_prog_32_method_4_12) rfl rfl ?_
  refine o_aloadN X hx 14 (hb hby d_prog_32_method_4_13) rfl rfl rfl ?_
  refine o_getF X hx hZ hown (host := "") (Or.inl (hw _ (List.mem_of_getElem? (i := 56) rfl))) Via.refl eT F3 17 (hb hby d_prog_32_method_4_14) rfl (fun T X eT => ?_)
  refine o_aloadN X hx 18 (hb hby d_prog_32_method_4_17) rfl rfl rfl ?_
  refine o_getF X hx hZ hown (host := "") (Or.inl (hw _ (List.mem_of_getElem? (i := 61) rfl))) Via.refl eT F4 21 (hb hby d_prog_32_method_4_18) rfl (fun T X eT => ?_)
  refine o_callIW X hx hS hk hZ rfl hown (hw _ (List.mem_of_getElem? (i := 27) rfl)) (hw _ (List.mem_of_getElem? (i := 28) rfl)) (hw _ (List.mem_of_getElem? (i := 18) rfl)) (hw _ (List.mem_of_getElem? (i := 29) rfl)) (by decide) (rm_i5a l Z a0 hw [] b1 ap ai ar ro tt _ _ _ _ _ c1 c2 c3 _ n0 Z0 O E_ap E_ai E_ar hro E_b1 F_propagation_b1 F_isolation_b1 F_readOnly_b1 F_timeout_b1 F_rollbackRule_b1 g_b1) (fun vm' hW => ⟨L1.stayH hW, L2.stayH hW, L3.stayH hW⟩) eT (by decide) 1 (by decide) (by rw [hml]; rfl) [(.ref ap), (.ref ai), (.int ro), (.int tt), (.ref ar)] (rest := [(.ref b1)]) (lenOf pd_1 rfl) rfl rfl (Nat.le_of_eq rfl) (by decide) (by decide) 24 (hb hby d_prog_32_method_4_21) rfl (fun v T h2 Lc vm0 k0 X eT hS hk hZ hown hW q => ?_)
  obtain ⟨rfl, N', K1, E', G0, G1, G2, G3, G4⟩ := q
  replace N := Fr.app N N'
  replace L1 := L1.stay hW
  replace L2 := L2.stay hW
  replace L3 := L3.stay hW
  replace E_a1 := E_a1.keep K1
  replace F0 := F0.keep K1 (ninS ne_a1_b1 nin0)
  replace F1 := F1.keep K1 (ninS ne_a1_b1 nin0)
  replace F2 := F2.keep K1 (ninS ne_a1_b1 nin0)
  replace F3 := F3.keep K1 (ninS ne_a1_b1 nin0)
  replace F4 := F4.keep K1 (ninS ne_a1_b1 nin0)
  replace Z0 := Nat.le_trans Z0 K1.1
  replace K := K.trans K1 (allS (P := fun x => x ∈ [] ∨ h0.size ≤ x) (Or.inr sz_b1) all0)
  replace O := O.keep K1 (allS (P := fun x => n0 ≤ x) g_b1 all0)
  show Wout p e below _ T (mkF m 24 #[.val (.ref a1), .val (.int ro)] [(.ref b1)])
  exact o_retAW X hx hS (by rw [eT]; exact hk) hlk hret rfl rfl rfl (hb hby d_prog_32_method_4_24) (by decide) (by decide) (by rw [eT]; exact ⟨b1, rfl, N, K, E', G0, G1, G2, G3, G4⟩)
theorem d_prog_32_method_5_0 : decode prog_32_method_5_code 0 = .ok (.iload_n 1, 1) := by decide +kernel
theorem d_prog_32_method_5_1 : decode prog_32_method_5_code 1 = .ok (.iconst (-1), 1) := by decide +kernel
theorem d_prog_32_method_5_2 : decode prog_32_method_5_code 2 = .ok (.if_icmp .ge 17, 3) := by decide +kernel
theorem d_prog_32_method_5_5 : decode prog_32_method_5_code 5 = .ok (.new 53, 3) := by decide +kernel
theorem d_prog_32_method_5_8 : decode prog_32_method_5_code 8 = .ok (.dup, 1) := by decide +kernel
theorem d_prog_32_method_5_9 : decode prog_32_method_5_code 9 = .ok (.iload_n 1, 1) := by decide +kernel
theorem d_prog_32_method_5_10 : decode prog_32_method_5_code 10 = .ok (.invokedynamic 55, 5) := by decide +kernel
theorem d_prog_32_method_5_15 : decode prog_32_method_5_code 15 = .ok (.invokespecial 59, 3) := by decide +kernel
theorem d_prog_32_method_5_18 : decode prog_32_method_5_code 18 = .ok (.athrow, 1) := by decide +kernel
theorem d_prog_32_method_5_19 : decode prog_32_method_5_code 19 = .ok (.new 7, 3) := by decide +kernel
theorem d_prog_32_method_5_22 : decode prog_32_method_5_code 22 = .ok (.dup, 1) := by decide +kernel
theorem d_prog_32_method_5_23 : decode prog_32_method_5_code 23 = .ok (.aload_n 0, 1) := by decide +kernel
theorem d_prog_32_method_5_24 : decode prog_32_method_5_code 24 = .ok (.getfield 34, 3) := by decide +kernel
theorem d_prog_32_method_5_27 : decode prog_32_method_5_code 27 = .ok (.aload_n 0, 1) := by decide +kernel
theorem d_prog_32_method_5_28 : decode prog_32_method_5_code 28 = .ok (.getfield 39, 3) := by decide +kernel
theorem d_prog_32_method_5_31 : decode prog_32_method_5_code 31 = .ok (.aload_n 0, 1) := by decide +kernel
theorem d_prog_32_method_5_32 : decode prog_32_method_5_code 32 = .ok (.getfield 41, 3) := by decide +kernel
theorem d_prog_32_method_5_35 : decode prog_32_method_5_code 35 = .ok (.iload_n 1, 1) := by decide +kernel
theorem d_prog_32_method_5_36 : decode prog_32_method_5_code 36 = .ok (.aload_n 0, 1) := by decide +kernel
theorem d_prog_32_method_5_37 : decode prog_32_method_5_code 37 = .ok (.getfield 51, 3) := by decide +kernel
theorem d_prog_32_method_5_40 : decode prog_32_method_5_code 40 = .ok (.invokespecial 15, 3) := by decide +kernel
theorem d_prog_32_method_5_43 : decode prog_32_method_5_code 43 = .ok (.areturn, 1) := by decide +kernel
def Q_wto (Z : State) (a1 ap ar : Addr) (ai : Addr) (tt : Int32) (ro t0 : Int32) (c1 c2 c3 : Addr) (h0 : Heap) (n0 : Nat) (v : Option Value) (h : Heap) (L : List Loc) (vm : Vm) : Prop := ∃ b : Addr, v = some (.ref b) ∧ Fr n0 L ∧ Keep h0 h [] ∧ Exa Z h b "com/example/nestx/nestx/TransactionDefinition" ∧ Fld Z h b "com/example/nestx/nestx/TransactionDefinition" "propagation" "Lcom/example/nestx/nestx/Propagation;" (.ref ap) ∧ Fld Z h b "com/example/nestx/nestx/TransactionDefinition" "isolation" "Lcom/example/nestx/nestx/Isolation;" (.ref ai) ∧ Fld Z h b "com/example/nestx/nestx/TransactionDefinition" "readOnly" "Z" (.int ro) ∧ Fld Z h b "com/example/nestx/nestx/TransactionDefinition" "timeout" "I" (.int tt) ∧ Fld Z h b "com/example/nestx/nestx/TransactionDefinition" "rollbackRule" "Lcom/example/nestx/nestx/RollbackRule;" (.ref ar)
set_option maxRecDepth 65536 in
set_option maxHeartbeats 40000000 in
theorem rm_wto (l : Launch) (Z : State) (a0 : Array Value) (hw : ∀ d ∈ tables_1, d.before a0 Z = true) (ws : List Jvm.Cond) (a1 ap ar : Addr) (ai : Addr) (tt : Int32) (ro t0 : Int32) (c1 c2 c3 : Addr) (h0 : Heap) (n0 : Nat) (Z0 : n0 ≤ h0.size) (O : Old Z n0 h0) (E_ap : Exa Z Z.heap ap "com/example/nestx/nestx/Propagation") (E_ai : Exa Z Z.heap ai "com/example/nestx/nestx/Isolation") (E_ar : Exa Z Z.heap ar "com/example/nestx/nestx/RollbackRule") (hro : nar .boolean ro = ro) (E_a1 : Exa Z h0 a1 "com/example/nestx/nestx/TransactionDefinition") (F0 : Fld Z h0 a1 "com/example/nestx/nestx/TransactionDefinition" "propagation" "Lcom/example/nestx/nestx/Propagation;" (.ref ap)) (F1 : Fld Z h0 a1 "com/example/nestx/nestx/TransactionDefinition" "isolation" "Lcom/example/nestx/nestx/Isolation;" (.ref ai)) (F2 : Fld Z h0 a1 "com/example/nestx/nestx/TransactionDefinition" "readOnly" "Z" (.int ro)) (F3 : Fld Z h0 a1 "com/example/nestx/nestx/TransactionDefinition" "timeout" "I" (.int t0)) (F4 : Fld Z h0 a1 "com/example/nestx/nestx/TransactionDefinition" "rollbackRule" "Lcom/example/nestx/nestx/RollbackRule;" (.ref ar)) (q : ¬ tt < (-1)) :
    MetW l Z (⟨"com/example/nestx/nestx/TransactionDefinition", "withTimeout", "(I)Lcom/example/nestx/nestx/TransactionDefinition;"⟩ : MethodName) prog_32_method_5_code 2 (some (.object "com/example/nestx/nestx/TransactionDefinition")) ws ({ frames := 2, cells := 1, slots := 5, locals := 48 } : Room) #[(.ref a1), (.int tt)] h0 (fun vm => LitV Z vm "com/example/nestx/nestx/TransactionDefinition" 24 c1 ∧ LitV Z vm "com/example/nestx/nestx/TransactionDefinition" 37 c2 ∧ LitV Z vm "com/example/nestx/nestx/TransactionDefinition" 49 c3) (Q_wto Z a1 ap ar ai tt ro t0 c1 c2 c3 h0 n0) := by
  refine MetW.start (plainFor_of_name pn_2) ?_
  intro p e s m below meth c T vm0 k0 X hx hby hml hown hnm hret hlk hZ eT hS hk hv hh0
  have N := Fr.nil n0
  have K := Keep.refl h0 []
  refine Wout.cast (g' := (mkF m 0 #[.val (.ref a1), .val (.int tt)] [])) (by first | (simp [entryFrame, mkF, argsToLocals, Value.category]; done) | rfl) ?_
  obtain ⟨L1, L2, L3⟩ := hv
  refine o_iloadN X hx 1 (hb hby d_prog_32_method_5_0) rfl rfl ?_
  refine o_iconst X hx 2 (-1 : Int32) (hb hby d_prog_32_method_5_1) rfl rfl ?_
  refine o_icmpT X hx 19 (hb hby d_prog_32_method_5_2) rfl q ?_
  refine o_new X hx hZ hown (hw _ (List.mem_of_getElem? (i := 68) rfl)) (hw _ (List.mem_of_getElem? (i := 17) rfl)) (hw _ (List.mem_of_getElem? (i := 18) rfl)) eT 22 (hb hby d_prog_32_method_5_19) rfl (by decide) (by decide) (fun T h1 b1 hb1 X eT E A D => ?_)
  have ne_a1_b1 : a1 ≠ b1 := Nat.ne_of_lt (Nat.lt_of_lt_of_eq E_a1.lt hb1.symm)
  have g_b1 : n0 ≤ b1 := Nat.le_trans Z0 (Nat.le_of_eq hb1.symm)
  have sz_b1 : h0.size ≤ b1 := Nat.le_trans K.1 (Nat.le_of_eq hb1.symm)
  replace E_a1 := E_a1.ext E
  replace F0 := F0.ext E
  replace F1 := F1.ext E
  replace F2 := F2.ext E
  replace F3 := F3.ext E
  replace F4 := F4.ext E
  replace Z0 := Nat.le_trans Z0 E.1
  replace hk := Nat.le_trans hk E.1
  replace K := K.ext E
  replace O := O.ext E
  have E_b1 := A
  have F_propagation_b1 : Fld Z h1 b1 "com/example/nestx/nestx/TransactionDefinition" "propagation" "Lcom/example/nestx/nestx/Propagation;" .null := D (Or.inr (hw _ (List.mem_of_getElem? (i := 48) rfl))) (ty := (.object "com/example/nestx/nestx/Propagation")) (by decide)
  have F_isolation_b1 : Fld Z h1 b1 "com/example/nestx/nestx/TransactionDefinition" "isolation" "Lcom/example/nestx/nestx/Isolation;" .null := D (Or.inr (hw _ (List.mem_of_getElem? (i := 53) rfl))) (ty := (.object "com/example/nestx/nestx/Isolation")) (by decide)
  have F_readOnly_b1 : Fld Z h1 b1 "com/example/nestx/nestx/TransactionDefinition" "readOnly" "Z" (.int (0 : Int32)) := D (Or.inr (hw _ (List.mem_of_getElem? (i := 55) rfl))) (ty := .boolean) (by decide)
  have F_timeout_b1 : Fld Z h1 b1 "com/example/nestx/nestx/TransactionDefinition" "timeout" "I" (.int (0 : Int32)) := D (Or.inr (hw _ (List.mem_of_getElem? (i := 57) rfl))) (ty := .int) (by decide)
  have F_rollbackRule_b1 : Fld Z h1 b1 "com/example/nestx/nestx/TransactionDefinition" "rollbackRule" "Lcom/example/nestx/nestx/RollbackRule;" .null := D (Or.inr (hw _ (List.mem_of_getElem? (i := 62) rfl))) (ty := (.object "com/example/nestx/nestx/RollbackRule")) (by decide)
  refine o_dup X hx 23 (hb hby d_prog_32_method_5_22) rfl rfl ?_
  refine o_aloadN X hx 24 (hb hby d_prog_32_method_5_23) rfl rfl rfl ?_
  refine o_getF X hx hZ hown (host := "") (Or.inl (hw _ (List.mem_of_getElem? (i := 47) rfl))) Via.refl eT F0 27 (hb hby d_prog_32_method_5_24) rfl (fun T X eT => ?_)
  refine o_aloadN X hx 28 (hb hby d_prog_32_method_5_27) rfl rfl rfl ?_
  refine o_getF X hx hZ hown (host := "") (Or.inl (hw _ (List.mem_of_getElem? (i := 52) rfl))) Via.refl eT F1 31 (hb hby d_prog_32_method_5_28) rfl (fun T X eT => ?_)
  refine o_aloadN X hx 32 (hb hby d_prog_32_method_5_31) rfl rfl rfl ?_
  refine o_getF X hx hZ hown (host := "") (Or.inl (hw _ (List.mem_of_getElem? (i := 54) rfl))) Via.refl eT F2 35 (hb hby d_prog_32_method_5_32) rfl (fun T X eT => ?_)
  refine o_iloadN X hx 36 (hb hby d_prog_32_method_5_35) rfl rfl ?_
  refine o_aloadN X hx 37 (hb hby d_prog_32_method_5_36) rfl rfl rfl ?_
  refine o_getF X hx hZ hown (host := "") (Or.inl (hw _ (List.mem_of_getElem? (i := 61) rfl))) Via.refl eT F4 40 (hb hby d_prog_32_method_5_37) rfl (fun T X eT => ?_)
  refine o_callIW X hx hS hk hZ rfl hown (hw _ (List.mem_of_getElem? (i := 27) rfl)) (hw _ (List.mem_of_getElem? (i := 28) rfl)) (hw _ (List.mem_of_getElem? (i := 18) rfl)) (hw _ (List.mem_of_getElem? (i := 29) rfl)) (by decide) (rm_i5a l Z a0 hw [] b1 ap ai ar ro tt _ _ _ _ _ c1 c2 c3 _ n0 Z0 O E_ap E_ai E_ar hro E_b1 F_propagation_b1 F_isolation_b1 F_readOnly_b1 F_timeout_b1 F_rollbackRule_b1 g_b1) (fun vm' hW => ⟨L1.stayH hW, L2.stayH hW, L3.stayH hW⟩) eT (by decide) 1 (by decide) (by rw [hml]; rfl) [(.ref ap), (.ref ai), (.int ro), (.int tt), (.ref ar)] (rest := [(.ref b1)]) (lenOf pd_1 rfl) rfl rfl (Nat.le_of_eq rfl) (by decide) (by decide) 43 (hb hby d_prog_32_method_5_40) rfl (fun v T h2 Lc vm0 k0 X eT hS hk hZ hown hW q => ?_)
  obtain ⟨rfl, N', K1, E', G0, G1, G2, G3, G4⟩ := q
  replace N := Fr.app N N'
  replace L1 := L1.stay hW
  replace L2 := L2.stay hW
  replace L3 := L3.stay hW
  replace E_a1 := E_a1.keep K1
  replace F0 := F0.keep K1 (ninS ne_a1_b1 nin0)
  replace F1 := F1.keep K1 (ninS ne_a1_b1 nin0)
  replace F2 := F2.keep K1 (ninS ne_a1_b1 nin0)
  replace F3 := F3.keep K1 (ninS ne_a1_b1 nin0)
  replace F4 := F4.keep K1 (ninS ne_a1_b1 nin0)
  replace Z0 := Nat.le_trans Z0 K1.1
  replace K := K.trans K1 (allS (P := fun x => x ∈ [] ∨ h0.size ≤ x) (Or.inr sz_b1) all0)
  replace O := O.keep K1 (allS (P := fun x => n0 ≤ x) g_b1 all0)
  show Wout p e below _ T (mkF m 43 #[.val (.ref a1), .val (.int tt)] [(.ref b1)])
  exact o_retAW X hx hS (by rw [eT]; exact hk) hlk hret rfl rfl rfl (hb hby d_prog_32_method_5_43) (by decide) (by decide) (by rw [eT]; exact ⟨b1, rfl, N, K, E', G0, G1, G2, G3, G4⟩)
theorem d_prog_32_method_3_0 : decode prog_32_method_3_code 0 = .ok (.new 7, 3) := by decide +kernel
theorem d_prog_32_method_3_3 : decode prog_32_method_3_code 3 = .ok (.dup, 1) := by decide +kernel
theorem d_prog_32_method_3_4 : decode prog_32_method_3_code 4 = .ok (.aload_n 0, 1) := by decide +kernel
theorem d_prog_32_method_3_5 : decode prog_32_method_3_code 5 = .ok (.getfield 34, 3) := by decide +kernel
theorem d_prog_32_method_3_8 : decode prog_32_method_3_code 8 = .ok (.aload_n 1, 1) := by decide +kernel
theorem d_prog_32_method_3_9 : decode prog_32_method_3_code 9 = .ok (.aload_n 0, 1) := by decide +kernel
theorem d_prog_32_method_3_10 : decode prog_32_method_3_code 10 = .ok (.getfield 41, 3) := by decide +kernel
theorem d_prog_32_method_3_13 : decode prog_32_method_3_code 13 = .ok (.aload_n 0, 1) := by decide +kernel
theorem d_prog_32_method_3_14 : decode prog_32_method_3_code 14 = .ok (.getfield 45, 3) := by decide +kernel
theorem d_prog_32_method_3_17 : decode prog_32_method_3_code 17 = .ok (.aload_n 0, 1) := by decide +kernel
theorem d_prog_32_method_3_18 : decode prog_32_method_3_code 18 = .ok (.getfield 51, 3) := by decide +kernel
theorem d_prog_32_method_3_21 : decode prog_32_method_3_code 21 = .ok (.invokespecial 15, 3) := by decide +kernel
theorem d_prog_32_method_3_24 : decode prog_32_method_3_code 24 = .ok (.areturn, 1) := by decide +kernel
def Q_wis (Z : State) (a1 ap ar : Addr) (ai j0 : Addr) (ro tt : Int32) (c1 c2 c3 : Addr) (h0 : Heap) (n0 : Nat) (v : Option Value) (h : Heap) (L : List Loc) (vm : Vm) : Prop := ∃ b : Addr, v = some (.ref b) ∧ Fr n0 L ∧ Keep h0 h [] ∧ Exa Z h b "com/example/nestx/nestx/TransactionDefinition" ∧ Fld Z h b "com/example/nestx/nestx/TransactionDefinition" "propagation" "Lcom/example/nestx/nestx/Propagation;" (.ref ap) ∧ Fld Z h b "com/example/nestx/nestx/TransactionDefinition" "isolation" "Lcom/example/nestx/nestx/Isolation;" (.ref ai) ∧ Fld Z h b "com/example/nestx/nestx/TransactionDefinition" "readOnly" "Z" (.int ro) ∧ Fld Z h b "com/example/nestx/nestx/TransactionDefinition" "timeout" "I" (.int tt) ∧ Fld Z h b "com/example/nestx/nestx/TransactionDefinition" "rollbackRule" "Lcom/example/nestx/nestx/RollbackRule;" (.ref ar)
set_option maxRecDepth 65536 in
set_option maxHeartbeats 40000000 in
theorem rm_wis (l : Launch) (Z : State) (a0 : Array Value) (hw : ∀ d ∈ tables_1, d.before a0 Z = true) (ws : List Jvm.Cond) (a1 ap ar : Addr) (ai j0 : Addr) (ro tt : Int32) (c1 c2 c3 : Addr) (h0 : Heap) (n0 : Nat) (Z0 : n0 ≤ h0.size) (O : Old Z n0 h0) (E_ap : Exa Z Z.heap ap "com/example/nestx/nestx/Propagation") (E_ai : Exa Z Z.heap ai "com/example/nestx/nestx/Isolation") (E_ar : Exa Z Z.heap ar "com/example/nestx/nestx/RollbackRule") (hro : nar .boolean ro = ro) (E_a1 : Exa Z h0 a1 "com/example/nestx/nestx/TransactionDefinition") (F0 : Fld Z h0 a1 "com/example/nestx/nestx/TransactionDefinition" "propagation" "Lcom/example/nestx/nestx/Propagation;" (.ref ap)) (F1 : Fld Z h0 a1 "com/example/nestx/nestx/TransactionDefinition" "isolation" "Lcom/example/nestx/nestx/Isolation;" (.ref j0)) (F2 : Fld Z h0 a1 "com/example/nestx/nestx/TransactionDefinition" "readOnly" "Z" (.int ro)) (F3 : Fld Z h0 a1 "com/example/nestx/nestx/TransactionDefinition" "timeout" "I" (.int tt)) (F4 : Fld Z h0 a1 "com/example/nestx/nestx/TransactionDefinition" "rollbackRule" "Lcom/example/nestx/nestx/RollbackRule;" (.ref ar)) :
    MetW l Z (⟨"com/example/nestx/nestx/TransactionDefinition", "withIsolation", "(Lcom/example/nestx/nestx/Isolation;)Lcom/example/nestx/nestx/TransactionDefinition;"⟩ : MethodName) prog_32_method_3_code 2 (some (.object "com/example/nestx/nestx/TransactionDefinition")) ws ({ frames := 2, cells := 1, slots := 5, locals := 48 } : Room) #[(.ref a1), (.ref ai)] h0 (fun vm => LitV Z vm "com/example/nestx/nestx/TransactionDefinition" 24 c1 ∧ LitV Z vm "com/example/nestx/nestx/TransactionDefinition" 37 c2 ∧ LitV Z vm "com/example/nestx/nestx/TransactionDefinition" 49 c3) (Q_wis Z a1 ap ar ai j0 ro tt c1 c2 c3 h0 n0) := by
  refine MetW.start (plainFor_of_name pn_2) ?_
  intro p e s m below meth c T vm0 k0 X hx hby hml hown hnm hret hlk hZ eT hS hk hv hh0
  have N := Fr.nil n0
  have K := Keep.refl h0 []
  refine Wout.cast (g' := (mkF m 0 #[.val (.ref a1), .val (.ref ai)] [])) (by first | (simp [entryFrame, mkF, argsToLocals, Value.category]; done) | rfl) ?_
  obtain ⟨L1, L2, L3⟩ := hv
  refine o_new X hx hZ hown (hw _ (List.mem_of_getElem? (i := 68) rfl)) (hw _ (List.mem_of_getElem? (i := 17) rfl)) (hw _ (List.mem_of_getElem? (i := 18) rfl)) eT 3 (hb hby d_prog_32_method_3_0) rfl (by decide) (by decide) (fun T h1 b1 hb1 X eT E A D => ?_)
  have ne_a1_b1 : a1 ≠ b1 := Nat.ne_of_lt (Nat.lt_of_lt_of_eq E_a1.lt hb1.symm)
  have g_b1 : n0 ≤ b1 := Nat.le_trans Z0 (Nat.le_of_eq hb1.symm)
  have sz_b1 : h0.size ≤ b1 := Nat.le_trans K.1 (Nat.le_of_eq hb1.symm)
  replace E_a1 := E_a1.ext E
  replace F0 := F0.ext E
  replace F1 := F1.ext E
  replace F2 := F2.ext E
  replace F3 := F3.ext E
  replace F4 := F4.ext E
  replace Z0 := Nat.le_trans Z0 E.1
  replace hk := Nat.le_trans hk E.1
  replace K := K.ext E
  replace O := O.ext E
  have E_b1 := A
  have F_propagation_b1 : Fld Z h1 b1 "com/example/nestx/nestx/TransactionDefinition" "propagation" "Lcom/example/nestx/nestx/Propagation;" .null := D (Or.inr (hw _ (List.mem_of_getElem? (i := 48) rfl))) (ty := (.object "com/example/nestx/nestx/Propagation")) (by decide)
  have F_isolation_b1 : Fld Z h1 b1 "com/example/nestx/nestx/TransactionDefinition" "isolation" "Lcom/example/nestx/nestx/Isolation;" .null := D (Or.inr (hw _ (List.mem_of_getElem? (i := 53) rfl))) (ty := (.object "com/example/nestx/nestx/Isolation")) (by decide)
  have F_readOnly_b1 : Fld Z h1 b1 "com/example/nestx/nestx/TransactionDefinition" "readOnly" "Z" (.int (0 : Int32)) := D (Or.inr (hw _ (List.mem_of_getElem? (i := 55) rfl))) (ty := .boolean) (by decide)
  have F_timeout_b1 : Fld Z h1 b1 "com/example/nestx/nestx/TransactionDefinition" "timeout" "I" (.int (0 : Int32)) := D (Or.inr (hw _ (List.mem_of_getElem? (i := 57) rfl))) (ty := .int) (by decide)
  have F_rollbackRule_b1 : Fld Z h1 b1 "com/example/nestx/nestx/TransactionDefinition" "rollbackRule" "Lcom/example/nestx/nestx/RollbackRule;" .null := D (Or.inr (hw _ (List.mem_of_getElem? (i := 62) rfl))) (ty := (.object "com/example/nestx/nestx/RollbackRule")) (by decide)
  refine o_dup X hx 4 (hb hby d_prog_32_method_3_3) rfl rfl ?_
  refine o_aloadN X hx 5 (hb hby d_prog_32_method_3_4) rfl rfl rfl ?_
  refine o_getF X hx hZ hown (host := "") (Or.inl (hw _ (List.mem_of_getElem? (i := 47) rfl))) Via.refl eT F0 8 (hb hby d_prog_32_method_3_5) rfl (fun T X eT => ?_)
  refine o_aloadN X hx 9 (hb hby d_prog_32_method_3_8) rfl rfl rfl ?_
  refine o_aloadN X hx 10 (hb hby d_prog_32_method_3_9) rfl rfl rfl ?_
  refine o_getF X hx hZ hown (host := "") (Or.inl (hw _ (List.mem_of_getElem? (i := 54) rfl))) Via.refl eT F2 13 (hb hby d_prog_32_method_3_10) rfl (fun T X eT => ?_)
  refine o_aloadN X hx 14 (hb hby d_prog_32_method_3_13) rfl rfl rfl ?_
  refine o_getF X hx hZ hown (host := "") (Or.inl (hw _ (List.mem_of_getElem? (i := 56) rfl))) Via.refl eT F3 17 (hb hby d_prog_32_method_3_14) rfl (fun T X eT => ?_)
  refine o_aloadN X hx 18 (hb hby d_prog_32_method_3_17) rfl rfl rfl ?_
  refine o_getF X hx hZ hown (host := "") (Or.inl (hw _ (List.mem_of_getElem? (i := 61) rfl))) Via.refl eT F4 21 (hb hby d_prog_32_method_3_18) rfl (fun T X eT => ?_)
  refine o_callIW X hx hS hk hZ rfl hown (hw _ (List.mem_of_getElem? (i := 27) rfl)) (hw _ (List.mem_of_getElem? (i := 28) rfl)) (hw _ (List.mem_of_getElem? (i := 18) rfl)) (hw _ (List.mem_of_getElem? (i := 29) rfl)) (by decide) (rm_i5a l Z a0 hw [] b1 ap ai ar ro tt _ _ _ _ _ c1 c2 c3 _ n0 Z0 O E_ap E_ai E_ar hro E_b1 F_propagation_b1 F_isolation_b1 F_readOnly_b1 F_timeout_b1 F_rollbackRule_b1 g_b1) (fun vm' hW => ⟨L1.stayH hW, L2.stayH hW, L3.stayH hW⟩) eT (by decide) 1 (by decide) (by rw [hml]; rfl) [(.ref ap), (.ref ai), (.int ro), (.int tt), (.ref ar)] (rest := [(.ref b1)]) (lenOf pd_1 rfl) rfl rfl (Nat.le_of_eq rfl) (by decide) (by decide) 24 (hb hby d_prog_32_method_3_21) rfl (fun v T h2 Lc vm0 k0 X eT hS hk hZ hown hW q => ?_)
  obtain ⟨rfl, N', K1, E', G0, G1, G2, G3, G4⟩ := q
  replace N := Fr.app N N'
  replace L1 := L1.stay hW
  replace L2 := L2.stay hW
  replace L3 := L3.stay hW
  replace E_a1 := E_a1.keep K1
  replace F0 := F0.keep K1 (ninS ne_a1_b1 nin0)
  replace F1 := F1.keep K1 (ninS ne_a1_b1 nin0)
  replace F2 := F2.keep K1 (ninS ne_a1_b1 nin0)
  replace F3 := F3.keep K1 (ninS ne_a1_b1 nin0)
  replace F4 := F4.keep K1 (ninS ne_a1_b1 nin0)
  replace Z0 := Nat.le_trans Z0 K1.1
  replace K := K.trans K1 (allS (P := fun x => x ∈ [] ∨ h0.size ≤ x) (Or.inr sz_b1) all0)
  replace O := O.keep K1 (allS (P := fun x => n0 ≤ x) g_b1 all0)
  show Wout p e below _ T (mkF m 24 #[.val (.ref a1), .val (.ref ai)] [(.ref b1)])
  exact o_retAW X hx hS (by rw [eT]; exact hk) hlk hret rfl rfl rfl (hb hby d_prog_32_method_3_24) (by decide) (by decide) (by rw [eT]; exact ⟨b1, rfl, N, K, E', G0, G1, G2, G3, G4⟩)
theorem d_prog_32_method_7_0 : decode prog_32_method_7_code 0 = .ok (.aload_n 0, 1) := by decide +kernel
theorem d_prog_32_method_7_1 : decode prog_32_method_7_code 1 = .ok (.getfield 34, 3) := by decide +kernel
theorem d_prog_32_method_7_4 : decode prog_32_method_7_code 4 = .ok (.areturn, 1) := by decide +kernel
def Q_get_propagation (Z : State) (a1 : Addr) (z : Addr) (h0 : Heap) (n0 : Nat) (v : Option Value) (h : Heap) (L : List Loc) : Prop := v = some (.ref z) ∧ Fr n0 L ∧ h = h0
set_option maxRecDepth 65536 in
set_option maxHeartbeats 40000000 in
theorem rm_get_propagation (l : Launch) (Z : State) (a0 : Array Value) (hw : ∀ d ∈ tables_1, d.before a0 Z = true) (ws : List Jvm.Cond) (a1 : Addr) (z : Addr) (h0 : Heap) (n0 : Nat) (Z0 : n0 ≤ h0.size) (F1 : Fld Z h0 a1 "com/example/nestx/nestx/TransactionDefinition" "propagation" "Lcom/example/nestx/nestx/Propagation;" (.ref z)) :
    Met l Z (⟨"com/example/nestx/nestx/TransactionDefinition", "propagation", "()Lcom/example/nestx/nestx/Propagation;"⟩ : MethodName) prog_32_method_7_code 1 (some (.object "com/example/nestx/nestx/Propagation")) ws ({ frames := 0, cells := 0, slots := 0, locals := 0 } : Room) #[(.ref a1)] h0 (Q_get_propagation Z a1 z h0 n0) := by
  refine Met.start (plainFor_of_name pn_2) ?_
  intro p e s m below meth c T X hx hby hml hown hnm hret hlk hZ eT
  have N := Fr.nil n0
  refine Wout.cast (g' := (mkF m 0 #[.val (.ref a1)] [])) (by first | (simp [entryFrame, mkF, argsToLocals, Value.category]; done) | rfl) ?_
  refine o_aloadN X hx 1 (hb hby d_prog_32_method_7_0) rfl rfl rfl ?_
  refine o_getF X hx hZ hown (host := "") (Or.inl (hw _ (List.mem_of_getElem? (i := 47) rfl))) Via.refl eT F1 4 (hb hby d_prog_32_method_7_1) rfl (fun T X eT => ?_)
  exact o_retA X hx hlk hret rfl rfl rfl (hb hby d_prog_32_method_7_4) (by decide) (by decide) (by rw [eT]; exact ⟨rfl, N, rfl⟩)
theorem d_prog_32_method_8_0 : decode prog_32_method_8_code 0 = .ok (.aload_n 0, 1) := by decide +kernel
theorem d_prog_32_method_8_1 : decode prog_32_method_8_code 1 = .ok (.getfield 39, 3) := by decide +kernel
theorem d_prog_32_method_8_4 : decode prog_32_method_8_code 4 = .ok (.areturn, 1) := by decide +kernel
def Q_get_isolation (Z : State) (a1 : Addr) (z : Addr) (h0 : Heap) (n0 : Nat) (v : Option Value) (h : Heap) (L : List Loc) : Prop := v = some (.ref z) ∧ Fr n0 L ∧ h = h0
set_option maxRecDepth 65536 in
set_option maxHeartbeats 40000000 in
theorem rm_get_isolation (l : Launch) (Z : State) (a0 : Array Value) (hw : ∀ d ∈ tables_1, d.before a0 Z = true) (ws : List Jvm.Cond) (a1 : Addr) (z : Addr) (h0 : Heap) (n0 : Nat) (Z0 : n0 ≤ h0.size) (F1 : Fld Z h0 a1 "com/example/nestx/nestx/TransactionDefinition" "isolation" "Lcom/example/nestx/nestx/Isolation;" (.ref z)) :
    Met l Z (⟨"com/example/nestx/nestx/TransactionDefinition", "isolation", "()Lcom/example/nestx/nestx/Isolation;"⟩ : MethodName) prog_32_method_8_code 1 (some (.object "com/example/nestx/nestx/Isolation")) ws ({ frames := 0, cells := 0, slots := 0, locals := 0 } : Room) #[(.ref a1)] h0 (Q_get_isolation Z a1 z h0 n0) := by
  refine Met.start (plainFor_of_name pn_2) ?_
  intro p e s m below meth c T X hx hby hml hown hnm hret hlk hZ eT
  have N := Fr.nil n0
  refine Wout.cast (g' := (mkF m 0 #[.val (.ref a1)] [])) (by first | (simp [entryFrame, mkF, argsToLocals, Value.category]; done) | rfl) ?_
  refine o_aloadN X hx 1 (hb hby d_prog_32_method_8_0) rfl rfl rfl ?_
  refine o_getF X hx hZ hown (host := "") (Or.inl (hw _ (List.mem_of_getElem? (i := 52) rfl))) Via.refl eT F1 4 (hb hby d_prog_32_method_8_1) rfl (fun T X eT => ?_)
  exact o_retA X hx hlk hret rfl rfl rfl (hb hby d_prog_32_method_8_4) (by decide) (by decide) (by rw [eT]; exact ⟨rfl, N, rfl⟩)
theorem d_prog_32_method_9_0 : decode prog_32_method_9_code 0 = .ok (.aload_n 0, 1) := by decide +kernel
theorem d_prog_32_method_9_1 : decode prog_32_method_9_code 1 = .ok (.getfield 41, 3) := by decide +kernel
theorem d_prog_32_method_9_4 : decode prog_32_method_9_code 4 = .ok (.ireturn, 1) := by decide +kernel
def Q_get_readOnly (Z : State) (a1 : Addr) (z : Int32) (h0 : Heap) (n0 : Nat) (v : Option Value) (h : Heap) (L : List Loc) : Prop := v = some (.int z) ∧ Fr n0 L ∧ h = h0
set_option maxRecDepth 65536 in
set_option maxHeartbeats 40000000 in
theorem rm_get_readOnly (l : Launch) (Z : State) (a0 : Array Value) (hw : ∀ d ∈ tables_1, d.before a0 Z = true) (ws : List Jvm.Cond) (a1 : Addr) (z : Int32) (h0 : Heap) (n0 : Nat) (Z0 : n0 ≤ h0.size) (F1 : Fld Z h0 a1 "com/example/nestx/nestx/TransactionDefinition" "readOnly" "Z" (.int z)) (hz : nar .boolean z = z) :
    Met l Z (⟨"com/example/nestx/nestx/TransactionDefinition", "isReadOnly", "()Z"⟩ : MethodName) prog_32_method_9_code 1 (some .boolean) ws ({ frames := 0, cells := 0, slots := 0, locals := 0 } : Room) #[(.ref a1)] h0 (Q_get_readOnly Z a1 z h0 n0) := by
  refine Met.start (plainFor_of_name pn_2) ?_
  intro p e s m below meth c T X hx hby hml hown hnm hret hlk hZ eT
  have N := Fr.nil n0
  refine Wout.cast (g' := (mkF m 0 #[.val (.ref a1)] [])) (by first | (simp [entryFrame, mkF, argsToLocals, Value.category]; done) | rfl) ?_
  refine o_aloadN X hx 1 (hb hby d_prog_32_method_9_0) rfl rfl rfl ?_
  refine o_getF X hx hZ hown (host := "") (Or.inl (hw _ (List.mem_of_getElem? (i := 54) rfl))) Via.refl eT F1 4 (hb hby d_prog_32_method_9_1) rfl (fun T X eT => ?_)
  exact o_retI X hx hlk hret (congrArg Value.int hz) (by simp) (hb hby d_prog_32_method_9_4) (by decide) (by decide) (by rw [eT]; exact ⟨rfl, N, rfl⟩)
theorem d_prog_32_method_10_0 : decode prog_32_method_10_code 0 = .ok (.aload_n 0, 1) := by decide +kernel
theorem d_prog_32_method_10_1 : decode prog_32_method_10_code 1 = .ok (.getfield 45, 3) := by decide +kernel
theorem d_prog_32_method_10_4 : decode prog_32_method_10_code 4 = .ok (.ireturn, 1) := by decide +kernel
def Q_get_timeout (Z : State) (a1 : Addr) (z : Int32) (h0 : Heap) (n0 : Nat) (v : Option Value) (h : Heap) (L : List Loc) : Prop := v = some (.int z) ∧ Fr n0 L ∧ h = h0
set_option maxRecDepth 65536 in
set_option maxHeartbeats 40000000 in
theorem rm_get_timeout (l : Launch) (Z : State) (a0 : Array Value) (hw : ∀ d ∈ tables_1, d.before a0 Z = true) (ws : List Jvm.Cond) (a1 : Addr) (z : Int32) (h0 : Heap) (n0 : Nat) (Z0 : n0 ≤ h0.size) (F1 : Fld Z h0 a1 "com/example/nestx/nestx/TransactionDefinition" "timeout" "I" (.int z)) :
    Met l Z (⟨"com/example/nestx/nestx/TransactionDefinition", "timeout", "()I"⟩ : MethodName) prog_32_method_10_code 1 (some .int) ws ({ frames := 0, cells := 0, slots := 0, locals := 0 } : Room) #[(.ref a1)] h0 (Q_get_timeout Z a1 z h0 n0) := by
  refine Met.start (plainFor_of_name pn_2) ?_
  intro p e s m below meth c T X hx hby hml hown hnm hret hlk hZ eT
  have N := Fr.nil n0
  refine Wout.cast (g' := (mkF m 0 #[.val (.ref a1)] [])) (by first | (simp [entryFrame, mkF, argsToLocals, Value.category]; done) | rfl) ?_
  refine o_aloadN X hx 1 (hb hby d_prog_32_method_10_0) rfl rfl rfl ?_
  refine o_getF X hx hZ hown (host := "") (Or.inl (hw _ (List.mem_of_getElem? (i := 56) rfl))) Via.refl eT F1 4 (hb hby d_prog_32_method_10_1) rfl (fun T X eT => ?_)
  exact o_retI X hx hlk hret rfl (by simp) (hb hby d_prog_32_method_10_4) (by decide) (by decide) (by rw [eT]; exact ⟨rfl, N, rfl⟩)
theorem own_secs (t : Int32) : ¬ ((t &&& (2147483647 : Int32)) - (1 : Int32)) < (-1 : Int32) := by
  have h := mask31 t
  generalize (t &&& (2147483647 : Int32)) = y at *
  have hy := y.toInt_lt
  intro q
  have q2 := Int32.lt_iff_toInt_lt.mp q
  have h1 : (1 : Int32).toInt = 1 := rfl
  have h2 : (-1 : Int32).toInt = -1 := rfl
  rw [XT.sub32 ⟨by omega, by omega⟩] at q2
  omega
theorem pd_2 : parseMethodDescriptor "(I)Lcom/example/nestx/nestx/Propagation;" = some ⟨[.int], some (.object "com/example/nestx/nestx/Propagation")⟩ := by decide +kernel
theorem pd_3 : parseMethodDescriptor "(I)Lcom/example/nestx/nestx/Isolation;" = some ⟨[.int], some (.object "com/example/nestx/nestx/Isolation")⟩ := by decide +kernel
theorem pd_4 : parseMethodDescriptor "(Lcom/example/nestx/nestx/Propagation;)V" = some ⟨[(.object "com/example/nestx/nestx/Propagation")], none⟩ := by decide +kernel
theorem pd_5 : parseMethodDescriptor "(Z)Lcom/example/nestx/nestx/TransactionDefinition;" = some ⟨[.boolean], some (.object "com/example/nestx/nestx/TransactionDefinition")⟩ := by decide +kernel
theorem pd_6 : parseMethodDescriptor "(I)Lcom/example/nestx/nestx/TransactionDefinition;" = some ⟨[.int], some (.object "com/example/nestx/nestx/TransactionDefinition")⟩ := by decide +kernel
theorem pd_7 : parseMethodDescriptor "(Lcom/example/nestx/nestx/Isolation;)Lcom/example/nestx/nestx/TransactionDefinition;" = some ⟨[(.object "com/example/nestx/nestx/Isolation")], some (.object "com/example/nestx/nestx/TransactionDefinition")⟩ := by decide +kernel
theorem pd_8 : parseMethodDescriptor "()Lcom/example/nestx/nestx/Isolation;" = some ⟨[], some (.object "com/example/nestx/nestx/Isolation")⟩ := by decide +kernel
theorem pd_9 : parseMethodDescriptor "()Lcom/example/nestx/nestx/Propagation;" = some ⟨[], some (.object "com/example/nestx/nestx/Propagation")⟩ := by decide +kernel
theorem pd_10 : parseMethodDescriptor "()Z" = some ⟨[], some .boolean⟩ := by decide +kernel
theorem pd_11 : parseMethodDescriptor "()I" = some ⟨[], some .int⟩ := by decide +kernel
def Q_law (Z : State) (p1 p2 p3 p4 p5 : Int32) (a_REQUIRED a_SUPPORTS a_MANDATORY a_REQUIRES_NEW a_NOT_SUPPORTED a_NEVER a_NESTED a_DEFAULT a_READ_UNCOMMITTED a_READ_COMMITTED a_REPEATABLE_READ a_SERIALIZABLE ar : Addr) (h0 : Heap) (n0 : Nat) (v : Option Value) (h : Heap) (L : List Loc) (vm : Vm) : Prop := v = some (.int 1) ∧ Fr n0 L ∧ True
set_option maxRecDepth 65536 in
set_option maxHeartbeats 40000000 in
theorem rm_law (l : Launch) (Z : State) (a0 : Array Value) (hw : ∀ d ∈ tables_1, d.before a0 Z = true) (ws : List Jvm.Cond) (p1 p2 p3 p4 p5 : Int32) (a_REQUIRED a_SUPPORTS a_MANDATORY a_REQUIRES_NEW a_NOT_SUPPORTED a_NEVER a_NESTED a_DEFAULT a_READ_UNCOMMITTED a_READ_COMMITTED a_REPEATABLE_READ a_SERIALIZABLE ar : Addr) (h0 : Heap) (n0 : Nat) (Z0 : n0 ≤ h0.size) (O : Old Z n0 h0) (S_REQUIRED : Sta Z Z.heap "com/example/nestx/nestx/Propagation" "REQUIRED" "Lcom/example/nestx/nestx/Propagation;" (.ref a_REQUIRED)) (E_REQUIRED : Exa Z Z.heap a_REQUIRED "com/example/nestx/nestx/Propagation") (S_SUPPORTS : Sta Z Z.heap "com/example/nestx/nestx/Propagation" "SUPPORTS" "Lcom/example/nestx/nestx/Propagation;" (.ref a_SUPPORTS)) (E_SUPPORTS : Exa Z Z.heap a_SUPPORTS "com/example/nestx/nestx/Propagation") (S_MANDATORY : Sta Z Z.heap "com/example/nestx/nestx/Propagation" "MANDATORY" "Lcom/example/nestx/nestx/Propagation;" (.ref a_MANDATORY)) (E_MANDATORY : Exa Z Z.heap a_MANDATORY "com/example/nestx/nestx/Propagation") (S_REQUIRES_NEW : Sta Z Z.heap "com/example/nestx/nestx/Propagation" "REQUIRES_NEW" "Lcom/example/nestx/nestx/Propagation;" (.ref a_REQUIRES_NEW)) (E_REQUIRES_NEW : Exa Z Z.heap a_REQUIRES_NEW "com/example/nestx/nestx/Propagation") (S_NOT_SUPPORTED : Sta Z Z.heap "com/example/nestx/nestx/Propagation" "NOT_SUPPORTED" "Lcom/example/nestx/nestx/Propagation;" (.ref a_NOT_SUPPORTED)) (E_NOT_SUPPORTED : Exa Z Z.heap a_NOT_SUPPORTED "com/example/nestx/nestx/Propagation") (S_NEVER : Sta Z Z.heap "com/example/nestx/nestx/Propagation" "NEVER" "Lcom/example/nestx/nestx/Propagation;" (.ref a_NEVER)) (E_NEVER : Exa Z Z.heap a_NEVER "com/example/nestx/nestx/Propagation") (S_NESTED : Sta Z Z.heap "com/example/nestx/nestx/Propagation" "NESTED" "Lcom/example/nestx/nestx/Propagation;" (.ref a_NESTED)) (E_NESTED : Exa Z Z.heap a_NESTED "com/example/nestx/nestx/Propagation") (S_DEFAULT : Sta Z Z.heap "com/example/nestx/nestx/Isolation" "DEFAULT" "Lcom/example/nestx/nestx/Isolation;" (.ref a_DEFAULT)) (E_DEFAULT : Exa Z Z.heap a_DEFAULT "com/example/nestx/nestx/Isolation") (S_READ_UNCOMMITTED : Sta Z Z.heap "com/example/nestx/nestx/Isolation" "READ_UNCOMMITTED" "Lcom/example/nestx/nestx/Isolation;" (.ref a_READ_UNCOMMITTED)) (E_READ_UNCOMMITTED : Exa Z Z.heap a_READ_UNCOMMITTED "com/example/nestx/nestx/Isolation") (S_READ_COMMITTED : Sta Z Z.heap "com/example/nestx/nestx/Isolation" "READ_COMMITTED" "Lcom/example/nestx/nestx/Isolation;" (.ref a_READ_COMMITTED)) (E_READ_COMMITTED : Exa Z Z.heap a_READ_COMMITTED "com/example/nestx/nestx/Isolation") (S_REPEATABLE_READ : Sta Z Z.heap "com/example/nestx/nestx/Isolation" "REPEATABLE_READ" "Lcom/example/nestx/nestx/Isolation;" (.ref a_REPEATABLE_READ)) (E_REPEATABLE_READ : Exa Z Z.heap a_REPEATABLE_READ "com/example/nestx/nestx/Isolation") (S_SERIALIZABLE : Sta Z Z.heap "com/example/nestx/nestx/Isolation" "SERIALIZABLE" "Lcom/example/nestx/nestx/Isolation;" (.ref a_SERIALIZABLE)) (E_SERIALIZABLE : Exa Z Z.heap a_SERIALIZABLE "com/example/nestx/nestx/Isolation") (SR : Sta Z Z.heap "com/example/nestx/nestx/RollbackRule" "EVERY_FAILURE" "Lcom/example/nestx/nestx/RollbackRule;" (.ref ar)) (E_ar : Exa Z Z.heap ar "com/example/nestx/nestx/RollbackRule") :
    MetW l Z x code maxLocals ret ws room_1 #[(.int p1), (.int p2), (.int p3), (.int p4), (.int p5)] h0 (fun _ => True) (Q_law Z p1 p2 p3 p4 p5 a_REQUIRED a_SUPPORTS a_MANDATORY a_REQUIRES_NEW a_NOT_SUPPORTED a_NEVER a_NESTED a_DEFAULT a_READ_UNCOMMITTED a_READ_COMMITTED a_REPEATABLE_READ a_SERIALIZABLE ar h0 n0) := by
  refine MetW.start (plainFor_of_name pn_1) ?_
  intro p e s m below meth c T vm0 k0 X hx hby hml hown hnm hret hlk hZ eT hS hk hv hh0
  have N := Fr.nil n0
  refine Wout.cast (g' := (mkF m 0 #[.val (.int p1), .val (.int p2), .val (.int p3), .val (.int p4), .val (.int p5), .unset, .unset, .unset, .unset, .unset, .unset, .unset, .unset, .unset] [])) (by first | (simp [entryFrame, mkF, argsToLocals, Value.category, maxLocals]; done) | rfl) ?_
  refine o_iloadN X hx 1 (hb hby at_0) rfl rfl ?_
  refine o_callS X hx hZ hown (hw _ (List.mem_of_getElem? (i := 0) rfl)) (hw _ (List.mem_of_getElem? (i := 1) rfl)) (hw _ (List.mem_of_getElem? (i := 2) rfl)) (hw _ (List.mem_of_getElem? (i := 3) rfl)) (by decide) (rm_prop l Z a0 hw [] p1 a_REQUIRED a_SUPPORTS a_MANDATORY a_REQUIRES_NEW a_NOT_SUPPORTED a_NEVER a_NESTED _ n0 Z0 O S_REQUIRED E_REQUIRED S_SUPPORTS E_SUPPORTS S_MANDATORY E_MANDATORY S_REQUIRES_NEW E_REQUIRES_NEW S_NOT_SUPPORTED E_NOT_SUPPORTED S_NEVER E_NEVER S_NESTED E_NESTED) eT (by decide) 0 (by decide) (by rw [hml]; rfl) [(.int p1)] (rest := []) (lenOf pd_2 rfl) rfl rfl (Nat.le_of_eq rfl) (by decide) (by decide) 4 (hb hby at_1) rfl (fun v T h1 Lc X eT q => ?_)
  obtain ⟨pr, rfl, N', e', E_pr⟩ := q
  replace N := Fr.app N N'
  replace eT := eT.trans e'
  show Wout p e below _ T (mkF m 4 #[.val (.int p1), .val (.int p2), .val (.int p3), .val (.int p4), .val (.int p5), .unset, .unset, .unset, .unset, .unset, .unset, .unset, .unset, .unset] [(.ref pr)])
  refine o_astore X hx 6 (Ls' := #[.val (.int p1), .val (.int p2), .val (.int p3), .val (.int p4), .val (.int p5), .val (.ref pr), .unset, .unset, .unset, .unset, .unset, .unset, .unset, .unset]) (hb hby at_4) rfl rfl rfl ?_
  refine o_iloadN X hx 7 (hb hby at_6) rfl rfl ?_
  refine o_callS X hx hZ hown (hw _ (List.mem_of_getElem? (i := 8) rfl)) (hw _ (List.mem_of_getElem? (i := 9) rfl)) (hw _ (List.mem_of_getElem? (i := 2) rfl)) (hw _ (List.mem_of_getElem? (i := 10) rfl)) (by decide) (rm_iso l Z a0 hw [] p2 a_DEFAULT a_READ_UNCOMMITTED a_READ_COMMITTED a_REPEATABLE_READ a_SERIALIZABLE _ n0 Z0 O S_DEFAULT E_DEFAULT S_READ_UNCOMMITTED E_READ_UNCOMMITTED S_READ_COMMITTED E_READ_COMMITTED S_REPEATABLE_READ E_REPEATABLE_READ S_SERIALIZABLE E_SERIALIZABLE) eT (by decide) 0 (by decide) (by rw [hml]; rfl) [(.int p2)] (rest := []) (lenOf pd_3 rfl) rfl rfl (Nat.le_of_eq rfl) (by decide) (by decide) 10 (hb hby at_7) rfl (fun v T h2 Lc X eT q => ?_)
  obtain ⟨bef, rfl, N', e', E_bef⟩ := q
  replace N := Fr.app N N'
  replace eT := eT.trans e'
  show Wout p e below _ T (mkF m 10 #[.val (.int p1), .val (.int p2), .val (.int p3), .val (.int p4), .val (.int p5), .val (.ref pr), .unset, .unset, .unset, .unset, .unset, .unset, .unset, .unset] [(.ref bef)])
  refine o_astore X hx 12 (Ls' := #[.val (.int p1), .val (.int p2), .val (.int p3), .val (.int p4), .val (.int p5), .val (.ref pr), .val (.ref bef), .unset, .unset, .unset, .unset, .unset, .unset, .unset]) (hb hby at_10) rfl rfl rfl ?_
  refine o_iloadN X hx 13 (hb hby at_12) rfl rfl ?_
  refine o_callS X hx hZ hown (hw _ (List.mem_of_getElem? (i := 8) rfl)) (hw _ (List.mem_of_getElem? (i := 9) rfl)) (hw _ (List.mem_of_getElem? (i := 2) rfl)) (hw _ (List.mem_of_getElem? (i := 10) rfl)) (by decide) (rm_iso l Z a0 hw [] p3 a_DEFAULT a_READ_UNCOMMITTED a_READ_COMMITTED a_REPEATABLE_READ a_SERIALIZABLE _ n0 Z0 O S_DEFAULT E_DEFAULT S_READ_UNCOMMITTED E_READ_UNCOMMITTED S_READ_COMMITTED E_READ_COMMITTED S_REPEATABLE_READ E_REPEATABLE_READ S_SERIALIZABLE E_SERIALIZABLE) eT (by decide) 0 (by decide) (by rw [hml]; rfl) [(.int p3)] (rest := []) (lenOf pd_3 rfl) rfl rfl (Nat.le_of_eq rfl) (by decide) (by decide) 16 (hb hby at_13) rfl (fun v T h3 Lc X eT q => ?_)
  obtain ⟨aft, rfl, N', e', E_aft⟩ := q
  replace N := Fr.app N N'
  replace eT := eT.trans e'
  show Wout p e below _ T (mkF m 16 #[.val (.int p1), .val (.int p2), .val (.int p3), .val (.int p4), .val (.int p5), .val (.ref pr), .val (.ref bef), .unset, .unset, .unset, .unset, .unset, .unset, .unset] [(.ref aft)])
  refine o_astore X hx 18 (Ls' := #[.val (.int p1), .val (.int p2), .val (.int p3), .val (.int p4), .val (.int p5), .val (.ref pr), .val (.ref bef), .val (.ref aft), .unset, .unset, .unset, .unset, .unset, .unset]) (hb hby at_16) rfl rfl rfl ?_
  refine o_iloadN X hx 19 (hb hby at_18) rfl rfl ?_
  refine o_iconst X hx 20 (1 : Int32) (hb hby at_19) rfl rfl ?_
  refine o_iand X hx 21 (hb hby at_20) rfl ?_
  have J : ∀ ro : Int32, (nar .boolean ro = ro) → Wout p e below (PstW s (Q_law Z p1 p2 p3 p4 p5 a_REQUIRED a_SUPPORTS a_MANDATORY a_REQUIRES_NEW a_NOT_SUPPORTED a_NEVER a_NESTED a_DEFAULT a_READ_UNCOMMITTED a_READ_COMMITTED a_REPEATABLE_READ a_SERIALIZABLE ar h0 n0) room_1.cells room_1.slots) T (mkF m 29 #[.val (.int p1), .val (.int p2), .val (.int p3), .val (.int p4), .val (.int p5), .val (.ref pr), .val (.ref bef), .val (.ref aft), .unset, .unset, .unset, .unset, .unset, .unset] [(.int ro)]) := by
    intro ro hro
    refine o_istore X hx 31 (Ls' := #[.val (.int p1), .val (.int p2), .val (.int p3), .val (.int p4), .val (.int p5), .val (.ref pr), .val (.ref bef), .val (.ref aft), .val (.int ro), .unset, .unset, .unset, .unset, .unset]) (hb hby at_29) rfl rfl ?_
    refine o_iload X hx 33 (hb hby at_31) rfl rfl ?_
    refine o_ldc X hx hZ 35 hown (hw _ (List.mem_of_getElem? (i := 4) rfl)) (hb hby at_33) rfl ?_
    refine o_iand X hx 36 (hb hby at_35) rfl ?_
    refine o_iconst X hx 37 (1 : Int32) (hb hby at_36) rfl rfl ?_
    refine o_isub X hx 38 (hb hby at_37) rfl ?_
    obtain ⟨tt, h_tt⟩ : ∃ z, z = ((p5 &&& (2147483647 : Int32)) - (1 : Int32)) := ⟨_, rfl⟩
    rw [← h_tt]
    have htt : ¬ tt < (-1 : Int32) := by rw [h_tt]; exact own_secs p5
    refine o_istore X hx 40 (Ls' := #[.val (.int p1), .val (.int p2), .val (.int p3), .val (.int p4), .val (.int p5), .val (.ref pr), .val (.ref bef), .val (.ref aft), .val (.int ro), .val (.int tt), .unset, .unset, .unset, .unset]) (hb hby at_38) rfl rfl ?_
    refine o_new X hx hZ hown (hw _ (List.mem_of_getElem? (i := 16) rfl)) (hw _ (List.mem_of_getElem? (i := 17) rfl)) (hw _ (List.mem_of_getElem? (i := 18) rfl)) eT 43 (hb hby at_40) rfl (by decide) (by decide) (fun T h4 b4 hb4 X eT E A D => ?_)
    have g_b4 : n0 ≤ b4 := Nat.le_trans Z0 (Nat.le_of_eq hb4.symm)
    replace Z0 := Nat.le_trans Z0 E.1
    replace hk := Nat.le_trans hk E.1
    replace O := O.ext E
    have E_b4 := A
    have F_propagation_b4 : Fld Z h4 b4 "com/example/nestx/nestx/TransactionDefinition" "propagation" "Lcom/example/nestx/nestx/Propagation;" .null := D (Or.inr (hw _ (List.mem_of_getElem? (i := 48) rfl))) (ty := (.object "com/example/nestx/nestx/Propagation")) (by decide)
    have F_isolation_b4 : Fld Z h4 b4 "com/example/nestx/nestx/TransactionDefinition" "isolation" "Lcom/example/nestx/nestx/Isolation;" .null := D (Or.inr (hw _ (List.mem_of_getElem? (i := 53) rfl))) (ty := (.object "com/example/nestx/nestx/Isolation")) (by decide)
    have F_readOnly_b4 : Fld Z h4 b4 "com/example/nestx/nestx/TransactionDefinition" "readOnly" "Z" (.int (0 : Int32)) := D (Or.inr (hw _ (List.mem_of_getElem? (i := 55) rfl))) (ty := .boolean) (by decide)
    have F_timeout_b4 : Fld Z h4 b4 "com/example/nestx/nestx/TransactionDefinition" "timeout" "I" (.int (0 : Int32)) := D (Or.inr (hw _ (List.mem_of_getElem? (i := 57) rfl))) (ty := .int) (by decide)
    have F_rollbackRule_b4 : Fld Z h4 b4 "com/example/nestx/nestx/TransactionDefinition" "rollbackRule" "Lcom/example/nestx/nestx/RollbackRule;" .null := D (Or.inr (hw _ (List.mem_of_getElem? (i := 62) rfl))) (ty := (.object "com/example/nestx/nestx/RollbackRule")) (by decide)
    refine o_dup X hx 44 (hb hby at_43) rfl rfl ?_
    refine o_aload X hx 46 (hb hby at_44) rfl rfl rfl ?_
    refine o_callIW X hx hS hk hZ rfl hown (hw _ (List.mem_of_getElem? (i := 19) rfl)) (hw _ (List.mem_of_getElem? (i := 20) rfl)) (hw _ (List.mem_of_getElem? (i := 18) rfl)) (hw _ (List.mem_of_getElem? (i := 21) rfl)) (by decide) (rm_i1 l Z a0 hw [] b4 pr a_DEFAULT ar _ _ _ _ _ _ n0 Z0 O S_DEFAULT SR E_pr E_DEFAULT E_ar E_b4 F_propagation_b4 F_isolation_b4 F_readOnly_b4 F_timeout_b4 F_rollbackRule_b4 g_b4) (fun _ _ => trivial) eT (by decide) 1 (by decide) (by rw [hml]; rfl) [(.ref pr)] (rest := [(.ref b4)]) (lenOf pd_4 rfl) rfl rfl (Nat.le_of_eq rfl) (by decide) (by decide) 49 (hb hby at_46) rfl (fun v T h5 Lc vm0 k0 X eT hS hk hZ hown hW q => ?_)
    obtain ⟨c1, c2, c3, rfl, N', K1, E', G0, G1, G2, G3, G4, L1, L2, L3⟩ := q
    replace N := Fr.app N N'
    replace O := O.keep K1 (allS (P := fun x => n0 ≤ x) g_b4 all0)
    replace Z0 := Nat.le_trans Z0 K1.1
    replace E_b4 := E'
    have A0 := G0
    have A1 := G1
    have A2 := G2
    have A3 := G3
    have A4 := G4
    show Wout p e below _ T (mkF m 49 #[.val (.int p1), .val (.int p2), .val (.int p3), .val (.int p4), .val (.int p5), .val (.ref pr), .val (.ref bef), .val (.ref aft), .val (.int ro), .val (.int tt), .unset, .unset, .unset, .unset] [(.ref b4)])
    refine o_iload X hx 51 (hb hby at_49) rfl rfl ?_
    refine o_callVW X hx hS hk hZ hown (hw _ (List.mem_of_getElem? (i := 63) rfl)) (hw _ (List.mem_of_getElem? (i := 64) rfl)) (hw _ (List.mem_of_getElem? (i := 66) rfl)) (hw _ (List.mem_of_getElem? (i := 65) rfl)) (hw _ (List.mem_of_getElem? (i := 18) rfl)) (hw _ (List.mem_of_getElem? (i := 67) rfl)) (by decide) (rm_wro l Z a0 hw [] b4 pr ar a_DEFAULT ro 0 (-1) c1 c2 c3 _ n0 Z0 O E_pr E_DEFAULT E_ar hro E_b4 A0 A1 A2 A3 A4) (fun vm' hW => ⟨L1.stayH hW, L2.stayH hW, L3.stayH hW⟩) eT (by decide) 0 (by decide) (by rw [hml]; rfl) E_b4 [(.int ro)] (rest := []) (lenOf pd_5 rfl) rfl rfl (Nat.le_of_eq rfl) (by decide) (by decide) 54 (hb hby at_51) rfl (fun v T h6 Lc vm0 k0 X eT hS hk hZ hown hW q => ?_)
    obtain ⟨o2, rfl, N', K1, E', G0, G1, G2, G3, G4⟩ := q
    replace N := Fr.app N N'
    replace L1 := L1.stay hW
    replace L2 := L2.stay hW
    replace L3 := L3.stay hW
    replace E_b4 := E_b4.keep K1
    replace A0 := A0.keep K1 nin0
    replace A1 := A1.keep K1 nin0
    replace A2 := A2.keep K1 nin0
    replace A3 := A3.keep K1 nin0
    replace A4 := A4.keep K1 nin0
    replace Z0 := Nat.le_trans Z0 K1.1
    replace O := O.keep K1 all0
    have E_o2 := E'
    have B0 := G0
    have B1 := G1
    have B2 := G2
    have B3 := G3
    have B4 := G4
    show Wout p e below _ T (mkF m 54 #[.val (.int p1), .val (.int p2), .val (.int p3), .val (.int p4), .val (.int p5), .val (.ref pr), .val (.ref bef), .val (.ref aft), .val (.int ro), .val (.int tt), .unset, .unset, .unset, .unset] [(.ref o2)])
    refine o_iload X hx 56 (hb hby at_54) rfl rfl ?_
    refine o_callVW X hx hS hk hZ hown (hw _ (List.mem_of_getElem? (i := 69) rfl)) (hw _ (List.mem_of_getElem? (i := 70) rfl)) (hw _ (List.mem_of_getElem? (i := 72) rfl)) (hw _ (List.mem_of_getElem? (i := 71) rfl)) (hw _ (List.mem_of_getElem? (i := 18) rfl)) (hw _ (List.mem_of_getElem? (i := 73) rfl)) (by decide) (rm_wto l Z a0 hw [] o2 pr ar a_DEFAULT tt ro (-1) c1 c2 c3 _ n0 Z0 O E_pr E_DEFAULT E_ar hro E_o2 B0 B1 B2 B3 B4 htt) (fun vm' hW => ⟨L1.stayH hW, L2.stayH hW, L3.stayH hW⟩) eT (by decide) 0 (by decide) (by rw [hml]; rfl) E_o2 [(.int tt)] (rest := []) (lenOf pd_6 rfl) rfl rfl (Nat.le_of_eq rfl) (by decide) (by decide) 59 (hb hby at_56) rfl (fun v T h7 Lc vm0 k0 X eT hS hk hZ hown hW q => ?_)
    obtain ⟨o3, rfl, N', K1, E', G0, G1, G2, G3, G4⟩ := q
    replace N := Fr.app N N'
    replace L1 := L1.stay hW
    replace L2 := L2.stay hW
    replace L3 := L3.stay hW
    replace E_b4 := E_b4.keep K1
    replace A0 := A0.keep K1 nin0
    replace A1 := A1.keep K1 nin0
    replace A2 := A2.keep K1 nin0
    replace A3 := A3.keep K1 nin0
    replace A4 := A4.keep K1 nin0
    replace E_o2 := E_o2.keep K1
    replace B0 := B0.keep K1 nin0
    replace B1 := B1.keep K1 nin0
    replace B2 := B2.keep K1 nin0
    replace B3 := B3.keep K1 nin0
    replace B4 := B4.keep K1 nin0
    replace Z0 := Nat.le_trans Z0 K1.1
    replace O := O.keep K1 all0
    have E_o3 := E'
    have D0 := G0
    have D1 := G1
    have D2 := G2
    have D3 := G3
    have D4 := G4
    show Wout p e below _ T (mkF m 59 #[.val (.int p1), .val (.int p2), .val (.int p3), .val (.int p4), .val (.int p5), .val (.ref pr), .val (.ref bef), .val (.ref aft), .val (.int ro), .val (.int tt), .unset, .unset, .unset, .unset] [(.ref o3)])
    refine o_aload X hx 61 (hb hby at_59) rfl rfl rfl ?_
    refine o_callVW X hx hS hk hZ hown (hw _ (List.mem_of_getElem? (i := 74) rfl)) (hw _ (List.mem_of_getElem? (i := 75) rfl)) (hw _ (List.mem_of_getElem? (i := 77) rfl)) (hw _ (List.mem_of_getElem? (i := 76) rfl)) (hw _ (List.mem_of_getElem? (i := 18) rfl)) (hw _ (List.mem_of_getElem? (i := 78) rfl)) (by decide) (rm_wis l Z a0 hw [] o3 pr ar bef a_DEFAULT ro tt c1 c2 c3 _ n0 Z0 O E_pr E_bef E_ar hro E_o3 D0 D1 D2 D3 D4) (fun vm' hW => ⟨L1.stayH hW, L2.stayH hW, L3.stayH hW⟩) eT (by decide) 0 (by decide) (by rw [hml]; rfl) E_o3 [(.ref bef)] (rest := []) (lenOf pd_7 rfl) rfl rfl (Nat.le_of_eq rfl) (by decide) (by decide) 64 (hb hby at_61) rfl (fun v T h8 Lc vm0 k0 X eT hS hk hZ hown hW q => ?_)
    obtain ⟨o4, rfl, N', K1, E', G0, G1, G2, G3, G4⟩ := q
    replace N := Fr.app N N'
    replace L1 := L1.stay hW
    replace L2 := L2.stay hW
    replace L3 := L3.stay hW
    replace E_b4 := E_b4.keep K1
    replace A0 := A0.keep K1 nin0
    replace A1 := A1.keep K1 nin0
    replace A2 := A2.keep K1 nin0
    replace A3 := A3.keep K1 nin0
    replace A4 := A4.keep K1 nin0
    replace E_o2 := E_o2.keep K1
    replace B0 := B0.keep K1 nin0
    replace B1 := B1.keep K1 nin0
    replace B2 := B2.keep K1 nin0
    replace B3 := B3.keep K1 nin0
    replace B4 := B4.keep K1 nin0
    replace E_o3 := E_o3.keep K1
    replace D0 := D0.keep K1 nin0
    replace D1 := D1.keep K1 nin0
    replace D2 := D2.keep K1 nin0
    replace D3 := D3.keep K1 nin0
    replace D4 := D4.keep K1 nin0
    replace Z0 := Nat.le_trans Z0 K1.1
    replace O := O.keep K1 all0
    have E_o4 := E'
    have G'0 := G0
    have G'1 := G1
    have G'2 := G2
    have G'3 := G3
    have G'4 := G4
    show Wout p e below _ T (mkF m 64 #[.val (.int p1), .val (.int p2), .val (.int p3), .val (.int p4), .val (.int p5), .val (.ref pr), .val (.ref bef), .val (.ref aft), .val (.int ro), .val (.int tt), .unset, .unset, .unset, .unset] [(.ref o4)])
    refine o_astore X hx 66 (Ls' := #[.val (.int p1), .val (.int p2), .val (.int p3), .val (.int p4), .val (.int p5), .val (.ref pr), .val (.ref bef), .val (.ref aft), .val (.int ro), .val (.int tt), .val (.ref o4), .unset, .unset, .unset]) (hb hby at_64) rfl rfl rfl ?_
    refine o_aload X hx 68 (hb hby at_66) rfl rfl rfl ?_
    refine o_aload X hx 70 (hb hby at_68) rfl rfl rfl ?_
    refine o_callVW X hx hS hk hZ hown (hw _ (List.mem_of_getElem? (i := 74) rfl)) (hw _ (List.mem_of_getElem? (i := 75) rfl)) (hw _ (List.mem_of_getElem? (i := 77) rfl)) (hw _ (List.mem_of_getElem? (i := 76) rfl)) (hw _ (List.mem_of_getElem? (i := 18) rfl)) (hw _ (List.mem_of_getElem? (i := 78) rfl)) (by decide) (rm_wis l Z a0 hw [] o4 pr ar aft bef ro tt c1 c2 c3 _ n0 Z0 O E_pr E_aft E_ar hro E_o4 G'0 G'1 G'2 G'3 G'4) (fun vm' hW => ⟨L1.stayH hW, L2.stayH hW, L3.stayH hW⟩) eT (by decide) 0 (by decide) (by rw [hml]; rfl) E_o4 [(.ref aft)] (rest := []) (lenOf pd_7 rfl) rfl rfl (Nat.le_of_eq rfl) (by decide) (by decide) 73 (hb hby at_70) rfl (fun v T h9 Lc vm0 k0 X eT hS hk hZ hown hW q => ?_)
    obtain ⟨o5, rfl, N', K1, E', G0, G1, G2, G3, G4⟩ := q
    replace N := Fr.app N N'
    replace L1 := L1.stay hW
    replace L2 := L2.stay hW
    replace L3 := L3.stay hW
    replace E_b4 := E_b4.keep K1
    replace A0 := A0.keep K1 nin0
    replace A1 := A1.keep K1 nin0
    replace A2 := A2.keep K1 nin0
    replace A3 := A3.keep K1 nin0
    replace A4 := A4.keep K1 nin0
    replace E_o2 := E_o2.keep K1
    replace B0 := B0.keep K1 nin0
    replace B1 := B1.keep K1 nin0
    replace B2 := B2.keep K1 nin0
    replace B3 := B3.keep K1 nin0
    replace B4 := B4.keep K1 nin0
    replace E_o3 := E_o3.keep K1
    replace D0 := D0.keep K1 nin0
    replace D1 := D1.keep K1 nin0
    replace D2 := D2.keep K1 nin0
    replace D3 := D3.keep K1 nin0
    replace D4 := D4.keep K1 nin0
    replace E_o4 := E_o4.keep K1
    replace G'0 := G'0.keep K1 nin0
    replace G'1 := G'1.keep K1 nin0
    replace G'2 := G'2.keep K1 nin0
    replace G'3 := G'3.keep K1 nin0
    replace G'4 := G'4.keep K1 nin0
    replace Z0 := Nat.le_trans Z0 K1.1
    replace O := O.keep K1 all0
    have E_o5 := E'
    have H0 := G0
    have H1 := G1
    have H2 := G2
    have H3 := G3
    have H4 := G4
    show Wout p e below _ T (mkF m 73 #[.val (.int p1), .val (.int p2), .val (.int p3), .val (.int p4), .val (.int p5), .val (.ref pr), .val (.ref bef), .val (.ref aft), .val (.int ro), .val (.int tt), .val (.ref o4), .unset, .unset, .unset] [(.ref o5)])
    refine o_astore X hx 75 (Ls' := #[.val (.int p1), .val (.int p2), .val (.int p3), .val (.int p4), .val (.int p5), .val (.ref pr), .val (.ref bef), .val (.ref aft), .val (.int ro), .val (.int tt), .val (.ref o4), .val (.ref o5), .unset, .unset]) (hb hby at_73) rfl rfl rfl ?_
    refine o_aload X hx 77 (hb hby at_75) rfl rfl rfl ?_
    refine o_callV X hx hZ hown (hw _ (List.mem_of_getElem? (i := 79) rfl)) (hw _ (List.mem_of_getElem? (i := 80) rfl)) (hw _ (List.mem_of_getElem? (i := 82) rfl)) (hw _ (List.mem_of_getElem? (i := 81) rfl)) (hw _ (List.mem_of_getElem? (i := 18) rfl)) (hw _ (List.mem_of_getElem? (i := 83) rfl)) (by decide) (rm_get_isolation l Z a0 hw [] o5 aft _ n0 Z0 H1) eT (by decide) 0 (by decide) (by rw [hml]; rfl) E_o5 [] (rest := []) (lenOf pd_8 rfl) rfl rfl (Nat.le_of_eq rfl) (by decide) (by decide) 80 (hb hby at_77) rfl (fun v T h10 Lc X eT q => ?_)
    obtain ⟨rfl, N', e'⟩ := q
    replace N := Fr.app N N'
    replace eT := eT.trans e'
    show Wout p e below _ T (mkF m 80 #[.val (.int p1), .val (.int p2), .val (.int p3), .val (.int p4), .val (.int p5), .val (.ref pr), .val (.ref bef), .val (.ref aft), .val (.int ro), .val (.int tt), .val (.ref o4), .val (.ref o5), .unset, .unset] [(.ref aft)])
    refine o_aload X hx 82 (hb hby at_80) rfl rfl rfl ?_
    refine o_acmpF X hx 85 (hb hby at_82) rfl rfl rfl (XT.aa_ne_f rfl) ?_
    refine o_aload X hx 87 (hb hby at_85) rfl rfl rfl ?_
    refine o_callV X hx hZ hown (hw _ (List.mem_of_getElem? (i := 84) rfl)) (hw _ (List.mem_of_getElem? (i := 85) rfl)) (hw _ (List.mem_of_getElem? (i := 87) rfl)) (hw _ (List.mem_of_getElem? (i := 86) rfl)) (hw _ (List.mem_of_getElem? (i := 18) rfl)) (hw _ (List.mem_of_getElem? (i := 88) rfl)) (by decide) (rm_get_propagation l Z a0 hw [] o5 pr _ n0 Z0 H0) eT (by decide) 0 (by decide) (by rw [hml]; rfl) E_o5 [] (rest := []) (lenOf pd_9 rfl) rfl rfl (Nat.le_of_eq rfl) (by decide) (by decide) 90 (hb hby at_87) rfl (fun v T h11 Lc X eT q => ?_)
    obtain ⟨rfl, N', e'⟩ := q
    replace N := Fr.app N N'
    replace eT := eT.trans e'
    show Wout p e below _ T (mkF m 90 #[.val (.int p1), .val (.int p2), .val (.int p3), .val (.int p4), .val (.int p5), .val (.ref pr), .val (.ref bef), .val (.ref aft), .val (.int ro), .val (.int tt), .val (.ref o4), .val (.ref o5), .unset, .unset] [(.ref pr)])
    refine o_aload X hx 92 (hb hby at_90) rfl rfl rfl ?_
    refine o_acmpF X hx 95 (hb hby at_92) rfl rfl rfl (XT.aa_ne_f rfl) ?_
    refine o_aload X hx 97 (hb hby at_95) rfl rfl rfl ?_
    refine o_callV X hx hZ hown (hw _ (List.mem_of_getElem? (i := 89) rfl)) (hw _ (List.mem_of_getElem? (i := 90) rfl)) (hw _ (List.mem_of_getElem? (i := 92) rfl)) (hw _ (List.mem_of_getElem? (i := 91) rfl)) (hw _ (List.mem_of_getElem? (i := 18) rfl)) (hw _ (List.mem_of_getElem? (i := 93) rfl)) (by decide) (rm_get_readOnly l Z a0 hw [] o5 ro _ n0 Z0 H2 hro) eT (by decide) 0 (by decide) (by rw [hml]; rfl) E_o5 [] (rest := []) (lenOf pd_10 rfl) rfl rfl (Nat.le_of_eq rfl) (by decide) (by decide) 100 (hb hby at_97) rfl (fun v T h12 Lc X eT q => ?_)
    obtain ⟨rfl, N', e'⟩ := q
    replace N := Fr.app N N'
    replace eT := eT.trans e'
    show Wout p e below _ T (mkF m 100 #[.val (.int p1), .val (.int p2), .val (.int p3), .val (.int p4), .val (.int p5), .val (.ref pr), .val (.ref bef), .val (.ref aft), .val (.int ro), .val (.int tt), .val (.ref o4), .val (.ref o5), .unset, .unset] [(.int ro)])
    refine o_iload X hx 102 (hb hby at_100) rfl rfl ?_
    refine o_icmpF X hx 105 (hb hby at_102) rfl (rfl : ro = ro) ?_
    refine o_aload X hx 107 (hb hby at_105) rfl rfl rfl ?_
    refine o_callV X hx hZ hown (hw _ (List.mem_of_getElem? (i := 94) rfl)) (hw _ (List.mem_of_getElem? (i := 95) rfl)) (hw _ (List.mem_of_getElem? (i := 97) rfl)) (hw _ (List.mem_of_getElem? (i := 96) rfl)) (hw _ (List.mem_of_getElem? (i := 18) rfl)) (hw _ (List.mem_of_getElem? (i := 98) rfl)) (by decide) (rm_get_timeout l Z a0 hw [] o5 tt _ n0 Z0 H3) eT (by decide) 0 (by decide) (by rw [hml]; rfl) E_o5 [] (rest := []) (lenOf pd_11 rfl) rfl rfl (Nat.le_of_eq rfl) (by decide) (by decide) 110 (hb hby at_107) rfl (fun v T h13 Lc X eT q => ?_)
    obtain ⟨rfl, N', e'⟩ := q
    replace N := Fr.app N N'
    replace eT := eT.trans e'
    show Wout p e below _ T (mkF m 110 #[.val (.int p1), .val (.int p2), .val (.int p3), .val (.int p4), .val (.int p5), .val (.ref pr), .val (.ref bef), .val (.ref aft), .val (.int ro), .val (.int tt), .val (.ref o4), .val (.ref o5), .unset, .unset] [(.int tt)])
    refine o_iload X hx 112 (hb hby at_110) rfl rfl ?_
    refine o_icmpF X hx 115 (hb hby at_112) rfl (rfl : tt = tt) ?_
    refine o_iconst X hx 116 (1 : Int32) (hb hby at_115) rfl rfl ?_
    refine o_goto X hx 120 (hb hby at_116) rfl ?_
    refine o_istore X hx 122 (Ls' := #[.val (.int p1), .val (.int p2), .val (.int p3), .val (.int p4), .val (.int p5), .val (.ref pr), .val (.ref bef), .val (.ref aft), .val (.int ro), .val (.int tt), .val (.ref o4), .val (.ref o5), .val (.int (1 : Int32)), .unset]) (hb hby at_120) rfl rfl ?_
    refine o_aload X hx 124 (hb hby at_122) rfl rfl rfl ?_
    refine o_callV X hx hZ hown (hw _ (List.mem_of_getElem? (i := 79) rfl)) (hw _ (List.mem_of_getElem? (i := 80) rfl)) (hw _ (List.mem_of_getElem? (i := 82) rfl)) (hw _ (List.mem_of_getElem? (i := 81) rfl)) (hw _ (List.mem_of_getElem? (i := 18) rfl)) (hw _ (List.mem_of_getElem? (i := 83) rfl)) (by decide) (rm_get_isolation l Z a0 hw [] o4 bef _ n0 Z0 G'1) eT (by decide) 0 (by decide) (by rw [hml]; rfl) E_o4 [] (rest := []) (lenOf pd_8 rfl) rfl rfl (Nat.le_of_eq rfl) (by decide) (by decide) 127 (hb hby at_124) rfl (fun v T h14 Lc X eT q => ?_)
    obtain ⟨rfl, N', e'⟩ := q
    replace N := Fr.app N N'
    replace eT := eT.trans e'
    show Wout p e below _ T (mkF m 127 #[.val (.int p1), .val (.int p2), .val (.int p3), .val (.int p4), .val (.int p5), .val (.ref pr), .val (.ref bef), .val (.ref aft), .val (.int ro), .val (.int tt), .val (.ref o4), .val (.ref o5), .val (.int (1 : Int32)), .unset] [(.ref bef)])
    refine o_aload X hx 129 (hb hby at_127) rfl rfl rfl ?_
    refine o_acmpF X hx 132 (hb hby at_129) rfl rfl rfl (XT.aa_ne_f rfl) ?_
    refine o_aload X hx 134 (hb hby at_132) rfl rfl rfl ?_
    refine o_callV X hx hZ hown (hw _ (List.mem_of_getElem? (i := 84) rfl)) (hw _ (List.mem_of_getElem? (i := 85) rfl)) (hw _ (List.mem_of_getElem? (i := 87) rfl)) (hw _ (List.mem_of_getElem? (i := 86) rfl)) (hw _ (List.mem_of_getElem? (i := 18) rfl)) (hw _ (List.mem_of_getElem? (i := 88) rfl)) (by decide) (rm_get_propagation l Z a0 hw [] o4 pr _ n0 Z0 G'0) eT (by decide) 0 (by decide) (by rw [hml]; rfl) E_o4 [] (rest := []) (lenOf pd_9 rfl) rfl rfl (Nat.le_of_eq rfl) (by decide) (by decide) 137 (hb hby at_134) rfl (fun v T h15 Lc X eT q => ?_)
    obtain ⟨rfl, N', e'⟩ := q
    replace N := Fr.app N N'
    replace eT := eT.trans e'
    show Wout p e below _ T (mkF m 137 #[.val (.int p1), .val (.int p2), .val (.int p3), .val (.int p4), .val (.int p5), .val (.ref pr), .val (.ref bef), .val (.ref aft), .val (.int ro), .val (.int tt), .val (.ref o4), .val (.ref o5), .val (.int (1 : Int32)), .unset] [(.ref pr)])
    refine o_aload X hx 139 (hb hby at_137) rfl rfl rfl ?_
    refine o_acmpF X hx 142 (hb hby at_139) rfl rfl rfl (XT.aa_ne_f rfl) ?_
    refine o_aload X hx 144 (hb hby at_142) rfl rfl rfl ?_
    refine o_callV X hx hZ hown (hw _ (List.mem_of_getElem? (i := 89) rfl)) (hw _ (List.mem_of_getElem? (i := 90) rfl)) (hw _ (List.mem_of_getElem? (i := 92) rfl)) (hw _ (List.mem_of_getElem? (i := 91) rfl)) (hw _ (List.mem_of_getElem? (i := 18) rfl)) (hw _ (List.mem_of_getElem? (i := 93) rfl)) (by decide) (rm_get_readOnly l Z a0 hw [] o4 ro _ n0 Z0 G'2 hro) eT (by decide) 0 (by decide) (by rw [hml]; rfl) E_o4 [] (rest := []) (lenOf pd_10 rfl) rfl rfl (Nat.le_of_eq rfl) (by decide) (by decide) 147 (hb hby at_144) rfl (fun v T h16 Lc X eT q => ?_)
    obtain ⟨rfl, N', e'⟩ := q
    replace N := Fr.app N N'
    replace eT := eT.trans e'
    show Wout p e below _ T (mkF m 147 #[.val (.int p1), .val (.int p2), .val (.int p3), .val (.int p4), .val (.int p5), .val (.ref pr), .val (.ref bef), .val (.ref aft), .val (.int ro), .val (.int tt), .val (.ref o4), .val (.ref o5), .val (.int (1 : Int32)), .unset] [(.int ro)])
    refine o_iload X hx 149 (hb hby at_147) rfl rfl ?_
    refine o_icmpF X hx 152 (hb hby at_149) rfl (rfl : ro = ro) ?_
    refine o_aload X hx 154 (hb hby at_152) rfl rfl rfl ?_
    refine o_callV X hx hZ hown (hw _ (List.mem_of_getElem? (i := 94) rfl)) (hw _ (List.mem_of_getElem? (i := 95) rfl)) (hw _ (List.mem_of_getElem? (i := 97) rfl)) (hw _ (List.mem_of_getElem? (i := 96) rfl)) (hw _ (List.mem_of_getElem? (i := 18) rfl)) (hw _ (List.mem_of_getElem? (i := 98) rfl)) (by decide) (rm_get_timeout l Z a0 hw [] o4 tt _ n0 Z0 G'3) eT (by decide) 0 (by decide) (by rw [hml]; rfl) E_o4 [] (rest := []) (lenOf pd_11 rfl) rfl rfl (Nat.le_of_eq rfl) (by decide) (by decide) 157 (hb hby at_154) rfl (fun v T h17 Lc X eT q => ?_)
    obtain ⟨rfl, N', e'⟩ := q
    replace N := Fr.app N N'
    replace eT := eT.trans e'
    show Wout p e below _ T (mkF m 157 #[.val (.int p1), .val (.int p2), .val (.int p3), .val (.int p4), .val (.int p5), .val (.ref pr), .val (.ref bef), .val (.ref aft), .val (.int ro), .val (.int tt), .val (.ref o4), .val (.ref o5), .val (.int (1 : Int32)), .unset] [(.int tt)])
    refine o_iload X hx 159 (hb hby at_157) rfl rfl ?_
    refine o_icmpF X hx 162 (hb hby at_159) rfl (rfl : tt = tt) ?_
    refine o_iconst X hx 163 (1 : Int32) (hb hby at_162) rfl rfl ?_
    refine o_goto X hx 167 (hb hby at_163) rfl ?_
    refine o_istore X hx 169 (Ls' := #[.val (.int p1), .val (.int p2), .val (.int p3), .val (.int p4), .val (.int p5), .val (.ref pr), .val (.ref bef), .val (.ref aft), .val (.int ro), .val (.int tt), .val (.ref o4), .val (.ref o5), .val (.int (1 : Int32)), .val (.int (1 : Int32))]) (hb hby at_167) rfl rfl ?_
    refine o_iload X hx 171 (hb hby at_169) rfl rfl ?_
    refine o_ifF X hx 174 (hb hby at_171) rfl (by decide : ¬ (1 : Int32) = (0 : Int32)) ?_
    refine o_iload X hx 176 (hb hby at_174) rfl rfl ?_
    refine o_ifF X hx 179 (hb hby at_176) rfl (by decide : ¬ (1 : Int32) = (0 : Int32)) ?_
    refine o_iconst X hx 180 (1 : Int32) (hb hby at_179) rfl rfl ?_
    refine o_goto X hx 184 (hb hby at_180) rfl ?_
    exact o_retIW X hx hS (by rw [eT]; exact hk) hlk hret rfl (by simp) (hb hby at_184) (by decide) (by decide) (by rw [eT]; exact ⟨rfl, N, trivial⟩)
  refine o_if X hx 28 24 (hb hby at_21) rfl rfl (fun (qf : (p4 &&& (1 : Int32)) = (0 : Int32)) => ?_) (fun (qf : ¬ (p4 &&& (1 : Int32)) = (0 : Int32)) => ?_)
  · show Wout p e below _ T (mkF m 28 #[.val (.int p1), .val (.int p2), .val (.int p3), .val (.int p4), .val (.int p5), .val (.ref pr), .val (.ref bef), .val (.ref aft), .unset, .unset, .unset, .unset, .unset, .unset] [])
    refine o_iconst X hx 29 (0 : Int32) (hb hby at_28) rfl rfl ?_
    exact J _ (by decide)
  · show Wout p e below _ T (mkF m 24 #[.val (.int p1), .val (.int p2), .val (.int p3), .val (.int p4), .val (.int p5), .val (.ref pr), .val (.ref bef), .val (.ref aft), .unset, .unset, .unset, .unset, .unset, .unset] [])
    refine o_iconst X hx 25 (1 : Int32) (hb hby at_24) rfl rfl ?_
    refine o_goto X hx 29 (hb hby at_25) rfl ?_
    exact J _ (by decide)
set_option maxRecDepth 65536 in
set_option maxHeartbeats 40000000 in
theorem comes_1 {Post : Tables → Env → Array Value → State → Outcome → State → Prop} (hpost : ∀ tb e args s v u, (limb_1_1.after args s (.returned v) u = true ∧ limb_1_2.after args s (.returned v) u = true ∧ True) → ReturnedEndW s (.returned v) u (Jvm.fieldLocs frame_1_writes args s ++ Jvm.arrayLocs frame_1_arrays args s ++ Jvm.staticLocs frame_1_statics s) 24 3200 → Post tb e args s (.returned v) u) :
    ArmFor flags0 classFile x code maxLocals ret World_1 tables_1 room_1 Calls_1 rest_1 Pre_1 Post := by
  intro l hfl _ _ p e ha hc hk s m args below hf hA hF happ hP
  obtain ⟨hcalls, hrest, hpre⟩ := hP
  obtain ⟨-, -, -, hnamed, -, -, -, hat⟩ := (Spec.applies_iff hf).mp happ
  obtain ⟨hg, hn⟩ := and_e (Cond.before_iff.mp (show (Jvm.Cond.and given_1 narrow_1).before args s = true from hpre))
  obtain ⟨h1, hgs⟩ := and_e hg
  obtain ⟨w0, w1, w2, w3, w4, rfl⟩ : ∃ w0 w1 w2 w3 w4 : Value, args = #[w0, w1, w2, w3, w4] := by
    have hs : args.size = 5 := by simpa [Cond.value, given_1] using h1
    obtain ⟨L⟩ := args
    match L, hs with
    | [w0, w1, w2, w3, w4], _ => exact ⟨w0, w1, w2, w3, w4, rfl⟩
  have hw := fun d (hd : d ∈ tables_1) => atoms_spec (ws := Jvm.Cond.code x code maxLocals ret :: tables_1) hat d (List.mem_cons_of_mem _ hd)
  have hfit : Fit s := fun {y c} hc i hi => by
    obtain ⟨ha, rfl⟩ := Array.getElem?_eq_some_iff.mp hc
    have q := List.all_eq_true.mp ((Array.all_eq_true_iff_forall_mem.mp hF) _ (Array.getElem_mem ha)) i (List.mem_range.mpr hi)
    simpa [Array.getElem?_eq_getElem hi] using q
  obtain ⟨hg0, hgs⟩ := and_e hgs
  obtain ⟨i0, e0⟩ := is_v hg0
  obtain rfl : w0 = (.int i0) := Option.some.inj e0
  obtain ⟨hg1, hgs⟩ := and_e hgs
  obtain ⟨i1, e1⟩ := is_v hg1
  obtain rfl : w1 = (.int i1) := Option.some.inj e1
  obtain ⟨hg2, hgs⟩ := and_e hgs
  obtain ⟨i2, e2⟩ := is_v hg2
  obtain rfl : w2 = (.int i2) := Option.some.inj e2
  obtain ⟨hg3, hgs⟩ := and_e hgs
  obtain ⟨i3, e3⟩ := is_v hg3
  obtain rfl : w3 = (.int i3) := Option.some.inj e3
  obtain ⟨i4, e4⟩ := is_v hgs
  obtain rfl : w4 = (.int i4) := Option.some.inj e4
  obtain ⟨hq0, hn⟩ := and_e hn
  obtain ⟨a_REQUIRED, ev_REQUIRED⟩ := exa_v hq0
  have E_REQUIRED := Exa.start ev_REQUIRED hq0
  have S_REQUIRED := Sta.start ev_REQUIRED (Or.inr ⟨(hw _ (List.mem_of_getElem? (i := 6) rfl)), (hw _ (List.mem_of_getElem? (i := 7) rfl))⟩)
  obtain ⟨hq1, hn⟩ := and_e hn
  obtain ⟨a_REPEATABLE_READ, ev_REPEATABLE_READ⟩ := exa_v hq1
  have E_REPEATABLE_READ := Exa.start ev_REPEATABLE_READ hq1
  have S_REPEATABLE_READ := Sta.start ev_REPEATABLE_READ (Or.inr ⟨(hw _ (List.mem_of_getElem? (i := 12) rfl)), (hw _ (List.mem_of_getElem? (i := 13) rfl))⟩)
  obtain ⟨hq2, hn⟩ := and_e hn
  obtain ⟨a_READ_COMMITTED, ev_READ_COMMITTED⟩ := exa_v hq2
  have E_READ_COMMITTED := Exa.start ev_READ_COMMITTED hq2
  have S_READ_COMMITTED := Sta.start ev_READ_COMMITTED (Or.inr ⟨(hw _ (List.mem_of_getElem? (i := 12) rfl)), (hw _ (List.mem_of_getElem? (i := 15) rfl))⟩)
  obtain ⟨hq3, hn⟩ := and_e hn
  obtain ⟨a_DEFAULT, ev_DEFAULT⟩ := exa_v hq3
  have E_DEFAULT := Exa.start ev_DEFAULT hq3
  have S_DEFAULT := Sta.start ev_DEFAULT (Or.inr ⟨(hw _ (List.mem_of_getElem? (i := 12) rfl)), (hw _ (List.mem_of_getElem? (i := 23) rfl))⟩)
  obtain ⟨hq4, hn⟩ := and_e hn
  obtain ⟨a_EVERY_FAILURE, ev_EVERY_FAILURE⟩ := exa_v hq4
  have E_EVERY_FAILURE := Exa.start ev_EVERY_FAILURE hq4
  have S_EVERY_FAILURE := Sta.start ev_EVERY_FAILURE (Or.inr ⟨(hw _ (List.mem_of_getElem? (i := 25) rfl)), (hw _ (List.mem_of_getElem? (i := 26) rfl))⟩)
  obtain ⟨hq5, hn⟩ := and_e hn
  obtain ⟨a_REQUIRES_NEW, ev_REQUIRES_NEW⟩ := exa_v hq5
  have E_REQUIRES_NEW := Exa.start ev_REQUIRES_NEW hq5
  have S_REQUIRES_NEW := Sta.start ev_REQUIRES_NEW (Or.inr ⟨(hw _ (List.mem_of_getElem? (i := 6) rfl)), (hw _ (List.mem_of_getElem? (i := 100) rfl))⟩)
  obtain ⟨hq6, hn⟩ := and_e hn
  obtain ⟨a_SERIALIZABLE, ev_SERIALIZABLE⟩ := exa_v hq6
  have E_SERIALIZABLE := Exa.start ev_SERIALIZABLE hq6
  have S_SERIALIZABLE := Sta.start ev_SERIALIZABLE (Or.inr ⟨(hw _ (List.mem_of_getElem? (i := 12) rfl)), (hw _ (List.mem_of_getElem? (i := 102) rfl))⟩)
  obtain ⟨hq7, hn⟩ := and_e hn
  obtain ⟨a_NEVER, ev_NEVER⟩ := exa_v hq7
  have E_NEVER := Exa.start ev_NEVER hq7
  have S_NEVER := Sta.start ev_NEVER (Or.inr ⟨(hw _ (List.mem_of_getElem? (i := 6) rfl)), (hw _ (List.mem_of_getElem? (i := 105) rfl))⟩)
  obtain ⟨hq8, hn⟩ := and_e hn
  obtain ⟨a_READ_UNCOMMITTED, ev_READ_UNCOMMITTED⟩ := exa_v hq8
  have E_READ_UNCOMMITTED := Exa.start ev_READ_UNCOMMITTED hq8
  have S_READ_UNCOMMITTED := Sta.start ev_READ_UNCOMMITTED (Or.inr ⟨(hw _ (List.mem_of_getElem? (i := 12) rfl)), (hw _ (List.mem_of_getElem? (i := 107) rfl))⟩)
  obtain ⟨hq9, hn⟩ := and_e hn
  obtain ⟨a_SUPPORTS, ev_SUPPORTS⟩ := exa_v hq9
  have E_SUPPORTS := Exa.start ev_SUPPORTS hq9
  have S_SUPPORTS := Sta.start ev_SUPPORTS (Or.inr ⟨(hw _ (List.mem_of_getElem? (i := 6) rfl)), (hw _ (List.mem_of_getElem? (i := 109) rfl))⟩)
  obtain ⟨hq10, hn⟩ := and_e hn
  obtain ⟨a_NESTED, ev_NESTED⟩ := exa_v hq10
  have E_NESTED := Exa.start ev_NESTED hq10
  have S_NESTED := Sta.start ev_NESTED (Or.inr ⟨(hw _ (List.mem_of_getElem? (i := 6) rfl)), (hw _ (List.mem_of_getElem? (i := 111) rfl))⟩)
  obtain ⟨hq11, hn⟩ := and_e hn
  obtain ⟨a_MANDATORY, ev_MANDATORY⟩ := exa_v hq11
  have E_MANDATORY := Exa.start ev_MANDATORY hq11
  have S_MANDATORY := Sta.start ev_MANDATORY (Or.inr ⟨(hw _ (List.mem_of_getElem? (i := 6) rfl)), (hw _ (List.mem_of_getElem? (i := 113) rfl))⟩)
  obtain ⟨a_NOT_SUPPORTED, ev_NOT_SUPPORTED⟩ := exa_v hn
  have E_NOT_SUPPORTED := Exa.start ev_NOT_SUPPORTED hn
  have S_NOT_SUPPORTED := Sta.start ev_NOT_SUPPORTED (Or.inr ⟨(hw _ (List.mem_of_getElem? (i := 6) rfl)), (hw _ (List.mem_of_getElem? (i := 115) rfl))⟩)
  obtain ⟨n, o, h1, h2, h3, _, L, rfl, ⟨rfl, N, _⟩, hq⟩ := rm_law l s _ hw tables_1 i0 i1 i2 i3 i4 a_REQUIRED a_SUPPORTS a_MANDATORY a_REQUIRES_NEW a_NOT_SUPPORTED a_NEVER a_NESTED a_DEFAULT a_READ_UNCOMMITTED a_READ_COMMITTED a_REPEATABLE_READ a_SERIALIZABLE a_EVERY_FAILURE s.heap s.heap.size (Nat.le_refl _) (Old.start s) S_REQUIRED E_REQUIRED S_SUPPORTS E_SUPPORTS S_MANDATORY E_MANDATORY S_REQUIRES_NEW E_REQUIRES_NEW S_NOT_SUPPORTED E_NOT_SUPPORTED S_NEVER E_NEVER S_NESTED E_NESTED S_DEFAULT E_DEFAULT S_READ_UNCOMMITTED E_READ_UNCOMMITTED S_READ_COMMITTED E_READ_COMMITTED S_REPEATABLE_READ E_REPEATABLE_READ S_SERIALIZABLE E_SERIALIZABLE S_EVERY_FAILURE E_EVERY_FAILURE p e ha hc hk s m _ below hf ((Spec.applies_iff_loose hf).mp happ).1 ⟨rfl, State.Warmed39.refl s, rfl, trivial⟩ trivial
  refine ⟨n, _, h1, h2, h3, hpost _ _ _ _ _ _ ⟨Cond.after_iff.mpr rfl, Cond.after_iff.mpr (eq_i res_at (Term.int_eval (1)) rfl), trivial⟩ ⟨hq.1, hq.2.1, hq.2.2.1, (hq.2.2.2.sift fun y hy => Or.inr (N y hy)).mono (by decide) (by decide)⟩⟩
theorem main_1_1 : Claimed_1_1 := comes_1 fun _ _ _ _ _ _ h hF => ⟨h.1, hF⟩
theorem main_1_2 : Claimed_1_2 := comes_1 fun _ _ _ _ _ _ h hF => ⟨h.2.1, hF⟩
end Jvm.Pilot.@@N@@
namespace Jvm.Pilot.@@N@@
open Jvm Jvm.ClassFile Sem Op Lib Jvm.Free Jvm.Stand Jvm.Pilot.@@N@@.Jvm.D
/-! MADE BY PROGRAM (witnessworld.py) out of the Statement's table words and the real class files: 19 classes; the members and pool entries that the words name. The judged class is class 1, her method 3. -/
namespace start1
open Jvm.ClassFile
def u (s : String) : CpInfo := .utf8 (stringToUtf16 s)
/-- a pool by its gaps: so many unusable entries, then the entry; so many at the end -/
def gap : Nat → List CpInfo → List CpInfo
  | 0, r => r
  | n + 1, r => .unusable :: gap n r
def poolList (es : List (Nat × CpInfo)) (last : Nat) : List CpInfo := es.foldr (fun e r => gap e.1 (e.2 :: r)) (gap last [])
def pool (es : List (Nat × CpInfo)) (last : Nat) : Array CpInfo := ⟨poolList es last⟩
def fileOf (pool : Array CpInfo) (this : Nat) (attrs : Array Attribute := #[]) (ms : Array MethodInfo := #[]) (fl : Nat := 33) (sup : Nat := 0) (ifs : Array Nat := #[]) (fds : Array FieldInfo := #[]) : ClassFile where
  minorVersion := 0
  majorVersion := 65
  constantPool := pool
  accessFlags := fl
  thisClass := this
  superClass := sup
  interfaces := ifs
  fields := fds
  methods := ms
  attributes := attrs
def plain (name : String) (sup : Option ClassId) : Class where
  name := name
  kind := .ordinary
  loader := none
  accessFlags := 33
  super := sup
  interfaces := #[]
  cf := none
  fields := #[]
  methods := #[]
  instanceTypes := #[]
  staticTypes := #[]
  resolved := #[]
  callSites := []
  init := .initialized
  statics := none
  mirror := none

def pool0 : Array CpInfo := pool [(5, u "<init>"), (0, u "()V"), (1, .class_ 10), (1, u "java/lang/Object")] 113

def k0c0 : Code := { maxStack := 0, maxLocals := 1, code := object_method_1_code, exceptionTable := #[], attributes := #[] }
def k0m0 : Method := { name := "<init>", desc := "()V", sig := { parameters := [], returnType := none }, accessFlags := 1, code := some k0c0 }
/-- java/lang/Object -/
def k0 : Class := { plain "java/lang/Object" none with
  accessFlags := 33
  interfaces := #[]
  cf := some (fileOf pool0 8 #[] #[{ accessFlags := 1, nameIndex := 5, descriptorIndex := 6, attributes := #[] }] 33 0 #[] #[])
  fields := #[]
  methods := #[k0m0]
  instanceTypes := #[]
  staticTypes := #[]
  resolved := Array.replicate 124 none
  statics := none }

def pool1 : Array CpInfo := pool [(2, .class_ 4), (1, u "java/lang/Object"), (0, u "<init>"), (0, u "()V"), (0, .integer 2147483647), (0, .fieldref 9 10), (0, .class_ 11), (0, .nameAndType 12 13), (0, u "com/example/nestx/nestx/Propagation"), (0, u "REQUIRED"), (0, u "Lcom/example/nestx/nestx/Propagation;"), (0, .fieldref 9 15), (0, .nameAndType 16 13), (0, u "SUPPORTS"), (0, .fieldref 9 18), (0, .nameAndType 19 13), (0, u "MANDATORY"), (0, .fieldref 9 21), (0, .nameAndType 22 13), (0, u "REQUIRES_NEW"), (0, .fieldref 9 24), (0, .nameAndType 25 13), (0, u "NOT_SUPPORTED"), (0, .fieldref 9 27), (0, .nameAndType 28 13), (0, u "NEVER"), (0, .fieldref 9 30), (0, .nameAndType 31 13), (0, u "NESTED"), (0, .fieldref 33 34), (0, .class_ 35), (0, .nameAndType 36 37), (0, u "com/example/nestx/nestx/Isolation"), (0, u "DEFAULT"), (0, u "Lcom/example/nestx/nestx/Isolation;"), (0, .fieldref 33 39), (0, .nameAndType 40 37), (0, u "READ_UNCOMMITTED"), (0, .fieldref 33 42), (0, .nameAndType 43 37), (0, u "READ_COMMITTED"), (0, .fieldref 33 45), (0, .nameAndType 46 37), (0, u "REPEATABLE_READ"), (0, .fieldref 33 48), (0, .nameAndType 49 37), (0, u "SERIALIZABLE"), (0, .methodref 51 52), (0, .class_ 53), (0, .nameAndType 54 55), (0, u "com/example/nestx/nestx/TransactionDefinitionWithIsolationPinLaw"), (0, u "prop"), (0, u "(I)Lcom/example/nestx/nestx/Propagation;"), (0, .methodref 51 57), (0, .nameAndType 58 59), (0, u "iso"), (0, u "(I)Lcom/example/nestx/nestx/Isolation;"), (0, .class_ 61), (0, u "com/example/nestx/nestx/TransactionDefinition"), (0, .methodref 60 63), (0, .nameAndType 5 64), (0, u "(Lcom/example/nestx/nestx/Propagation;)V"), (0, .methodref 60 66), (0, .nameAndType 67 68), (0, u "withReadOnly"), (0, u "(Z)Lcom/example/nestx/nestx/TransactionDefinition;"), (0, .methodref 60 70), (0, .nameAndType 71 72), (0, u "withTimeout"), (0, u "(I)Lcom/example/nestx/nestx/TransactionDefinition;"), (0, .methodref 60 74), (0, .nameAndType 75 76), (0, u "withIsolation"), (0, u "(Lcom/example/nestx/nestx/Isolation;)Lcom/example/nestx/nestx/TransactionDefinition;"), (0, .methodref 60 78), (0, .nameAndType 79 80), (0, u "isolation"), (0, u "()Lcom/example/nestx/nestx/Isolation;"), (0, .methodref 60 82), (0, .nameAndType 83 84), (0, u "propagation"), (0, u "()Lcom/example/nestx/nestx/Propagation;"), (0, .methodref 60 86), (0, .nameAndType 87 88), (0, u "isReadOnly"), (0, u "()Z"), (0, .methodref 60 90), (0, .nameAndType 91 92), (0, u "timeout"), (0, u "()I"), (3, u "law"), (0, u "(IIIII)Z")] 2

def k1m0 : Method := { name := "<init>", desc := "()V", sig := { parameters := [], returnType := none }, accessFlags := 2, code := none }
def k1c1 : Code := { maxStack := 2, maxLocals := 2, code := method_2_code, exceptionTable := #[], attributes := #[] }
def k1m1 : Method := { name := "prop", desc := "(I)Lcom/example/nestx/nestx/Propagation;", sig := { parameters := [.int], returnType := some (.object "com/example/nestx/nestx/Propagation") }, accessFlags := 10, code := some k1c1 }
def k1c2 : Code := { maxStack := 2, maxLocals := 2, code := method_3_code, exceptionTable := #[], attributes := #[] }
def k1m2 : Method := { name := "iso", desc := "(I)Lcom/example/nestx/nestx/Isolation;", sig := { parameters := [.int], returnType := some (.object "com/example/nestx/nestx/Isolation") }, accessFlags := 10, code := some k1c2 }
def k1c3 : Code := { maxStack := 3, maxLocals := 14, code := code, exceptionTable := #[], attributes := #[] }
def k1m3 : Method := { name := "law", desc := "(IIIII)Z", sig := { parameters := [.int, .int, .int, .int, .int], returnType := some .boolean }, accessFlags := 9, code := some k1c3 }
/-- com/example/nestx/nestx/TransactionDefinitionWithIsolationPinLaw -/
def k1 : Class := { plain "com/example/nestx/nestx/TransactionDefinitionWithIsolationPinLaw" (some 0) with
  accessFlags := 49
  interfaces := #[]
  cf := some (fileOf pool1 51 #[] #[{ accessFlags := 2, nameIndex := 5, descriptorIndex := 6, attributes := #[] }, { accessFlags := 10, nameIndex := 54, descriptorIndex := 55, attributes := #[] }, { accessFlags := 10, nameIndex := 58, descriptorIndex := 59, attributes := #[] }, { accessFlags := 9, nameIndex := 96, descriptorIndex := 97, attributes := #[] }] 49 2 #[] #[])
  fields := #[]
  methods := #[k1m0, k1m1, k1m2, k1m3]
  instanceTypes := #[]
  staticTypes := #[]
  resolved := Array.replicate 100 none
  statics := none }

def pool2 : Array CpInfo := pool [(1, .class_ 2), (0, u "java/lang/constant/Constable"), (0, .class_ 4), (0, u "java/lang/Object")] 6

/-- java/lang/constant/Constable -/
def k2 : Class := { plain "java/lang/constant/Constable" (some 0) with
  accessFlags := 1537
  interfaces := #[]
  cf := some (fileOf pool2 1 #[] #[] 1537 3 #[] #[])
  fields := #[]
  methods := #[]
  instanceTypes := #[]
  staticTypes := #[]
  resolved := Array.replicate 11 none
  statics := none }

def pool3 : Array CpInfo := pool [(1, .class_ 2), (0, u "java/lang/Comparable"), (0, .class_ 4), (0, u "java/lang/Object")] 7

/-- java/lang/Comparable -/
def k3 : Class := { plain "java/lang/Comparable" (some 0) with
  accessFlags := 1537
  interfaces := #[]
  cf := some (fileOf pool3 1 #[] #[] 1537 3 #[] #[])
  fields := #[]
  methods := #[]
  instanceTypes := #[]
  staticTypes := #[]
  resolved := Array.replicate 12 none
  statics := none }

def pool4 : Array CpInfo := pool [(1, .class_ 2), (0, u "java/io/Serializable"), (0, .class_ 4), (0, u "java/lang/Object")] 2

/-- java/io/Serializable -/
def k4 : Class := { plain "java/io/Serializable" (some 0) with
  accessFlags := 1537
  interfaces := #[]
  cf := some (fileOf pool4 1 #[] #[] 1537 3 #[] #[])
  fields := #[]
  methods := #[]
  instanceTypes := #[]
  staticTypes := #[]
  resolved := Array.replicate 7 none
  statics := none }

def pool5 : Array CpInfo := pool [(2, .class_ 4), (1, u "java/lang/Enum"), (0, u "name"), (0, u "Ljava/lang/String;"), (2, u "ordinal"), (0, u "I"), (1, .class_ 14), (1, u "java/lang/Object"), (4, u "hash"), (86, .class_ 108), (1, u "java/lang/Enum$EnumDesc"), (2, .class_ 112), (0, u "java/lang/constant/Constable"), (0, .class_ 114), (0, u "java/lang/Comparable"), (0, .class_ 116), (0, u "java/io/Serializable")] 87

/-- java/lang/Enum -/
def k5 : Class := { plain "java/lang/Enum" (some 0) with
  accessFlags := 1057
  interfaces := #[2, 3, 4]
  cf := some (fileOf pool5 2 #[.nestMembers #[106]] #[] 1057 12 #[111, 113, 115] #[{ accessFlags := 18, nameIndex := 5, descriptorIndex := 6, attributes := #[] }, { accessFlags := 18, nameIndex := 9, descriptorIndex := 10, attributes := #[] }, { accessFlags := 2, nameIndex := 19, descriptorIndex := 10, attributes := #[] }])
  fields := #[{ name := "name", type := (.object "java/lang/String"), accessFlags := 18, slot := 0, constantValue := 0 }, { name := "ordinal", type := .int, accessFlags := 18, slot := 1, constantValue := 0 }, { name := "hash", type := .int, accessFlags := 2, slot := 2, constantValue := 0 }]
  methods := #[]
  instanceTypes := #[(.object "java/lang/String"), .int, .int]
  staticTypes := #[]
  resolved := Array.replicate 204 none
  statics := none }

def pool6 : Array CpInfo := pool [(1, .class_ 2), (0, u "com/example/nestx/nestx/Propagation"), (2, u "REQUIRED"), (0, u "Lcom/example/nestx/nestx/Propagation;"), (2, u "SUPPORTS"), (2, u "MANDATORY"), (2, u "REQUIRES_NEW"), (2, u "NOT_SUPPORTED"), (2, u "NEVER"), (2, u "NESTED"), (2, u "$VALUES"), (0, u "[Lcom/example/nestx/nestx/Propagation;"), (6, .class_ 37), (1, u "java/lang/Enum")] 29

/-- com/example/nestx/nestx/Propagation -/
def k6 : Class := { plain "com/example/nestx/nestx/Propagation" (some 5) with
  accessFlags := 16433
  interfaces := #[]
  cf := some (fileOf pool6 1 #[] #[] 16433 35 #[] #[{ accessFlags := 16409, nameIndex := 5, descriptorIndex := 6, attributes := #[] }, { accessFlags := 16409, nameIndex := 9, descriptorIndex := 6, attributes := #[] }, { accessFlags := 16409, nameIndex := 12, descriptorIndex := 6, attributes := #[] }, { accessFlags := 16409, nameIndex := 15, descriptorIndex := 6, attributes := #[] }, { accessFlags := 16409, nameIndex := 18, descriptorIndex := 6, attributes := #[] }, { accessFlags := 16409, nameIndex := 21, descriptorIndex := 6, attributes := #[] }, { accessFlags := 16409, nameIndex := 24, descriptorIndex := 6, attributes := #[] }, { accessFlags := 4122, nameIndex := 27, descriptorIndex := 28, attributes := #[] }])
  fields := #[{ name := "REQUIRED", type := (.object "com/example/nestx/nestx/Propagation"), accessFlags := 16409, slot := 0, constantValue := 0 }, { name := "SUPPORTS", type := (.object "com/example/nestx/nestx/Propagation"), accessFlags := 16409, slot := 1, constantValue := 0 }, { name := "MANDATORY", type := (.object "com/example/nestx/nestx/Propagation"), accessFlags := 16409, slot := 2, constantValue := 0 }, { name := "REQUIRES_NEW", type := (.object "com/example/nestx/nestx/Propagation"), accessFlags := 16409, slot := 3, constantValue := 0 }, { name := "NOT_SUPPORTED", type := (.object "com/example/nestx/nestx/Propagation"), accessFlags := 16409, slot := 4, constantValue := 0 }, { name := "NEVER", type := (.object "com/example/nestx/nestx/Propagation"), accessFlags := 16409, slot := 5, constantValue := 0 }, { name := "NESTED", type := (.object "com/example/nestx/nestx/Propagation"), accessFlags := 16409, slot := 6, constantValue := 0 }, { name := "$VALUES", type := (.array (.object "com/example/nestx/nestx/Propagation")), accessFlags := 4122, slot := 7, constantValue := 0 }]
  methods := #[]
  instanceTypes := #[(.object "java/lang/String"), .int, .int]
  staticTypes := #[(.object "com/example/nestx/nestx/Propagation"), (.object "com/example/nestx/nestx/Propagation"), (.object "com/example/nestx/nestx/Propagation"), (.object "com/example/nestx/nestx/Propagation"), (.object "com/example/nestx/nestx/Propagation"), (.object "com/example/nestx/nestx/Propagation"), (.object "com/example/nestx/nestx/Propagation"), (.array (.object "com/example/nestx/nestx/Propagation"))]
  resolved := Array.replicate 67 none
  statics := some 0 }

def pool7 : Array CpInfo := pool [(1, .class_ 2), (0, u "com/example/nestx/nestx/Isolation"), (2, u "DEFAULT"), (0, u "Lcom/example/nestx/nestx/Isolation;"), (2, u "READ_UNCOMMITTED"), (2, u "READ_COMMITTED"), (2, u "REPEATABLE_READ"), (2, u "SERIALIZABLE"), (2, u "$VALUES"), (0, u "[Lcom/example/nestx/nestx/Isolation;"), (6, .class_ 31), (1, u "java/lang/Enum")] 47

/-- com/example/nestx/nestx/Isolation -/
def k7 : Class := { plain "com/example/nestx/nestx/Isolation" (some 5) with
  accessFlags := 16433
  interfaces := #[]
  cf := some (fileOf pool7 1 #[] #[] 16433 29 #[] #[{ accessFlags := 16409, nameIndex := 5, descriptorIndex := 6, attributes := #[] }, { accessFlags := 16409, nameIndex := 9, descriptorIndex := 6, attributes := #[] }, { accessFlags := 16409, nameIndex := 12, descriptorIndex := 6, attributes := #[] }, { accessFlags := 16409, nameIndex := 15, descriptorIndex := 6, attributes := #[] }, { accessFlags := 16409, nameIndex := 18, descriptorIndex := 6, attributes := #[] }, { accessFlags := 4122, nameIndex := 21, descriptorIndex := 22, attributes := #[] }])
  fields := #[{ name := "DEFAULT", type := (.object "com/example/nestx/nestx/Isolation"), accessFlags := 16409, slot := 0, constantValue := 0 }, { name := "READ_UNCOMMITTED", type := (.object "com/example/nestx/nestx/Isolation"), accessFlags := 16409, slot := 1, constantValue := 0 }, { name := "READ_COMMITTED", type := (.object "com/example/nestx/nestx/Isolation"), accessFlags := 16409, slot := 2, constantValue := 0 }, { name := "REPEATABLE_READ", type := (.object "com/example/nestx/nestx/Isolation"), accessFlags := 16409, slot := 3, constantValue := 0 }, { name := "SERIALIZABLE", type := (.object "com/example/nestx/nestx/Isolation"), accessFlags := 16409, slot := 4, constantValue := 0 }, { name := "$VALUES", type := (.array (.object "com/example/nestx/nestx/Isolation")), accessFlags := 4122, slot := 5, constantValue := 0 }]
  methods := #[]
  instanceTypes := #[(.object "java/lang/String"), .int, .int]
  staticTypes := #[(.object "com/example/nestx/nestx/Isolation"), (.object "com/example/nestx/nestx/Isolation"), (.object "com/example/nestx/nestx/Isolation"), (.object "com/example/nestx/nestx/Isolation"), (.object "com/example/nestx/nestx/Isolation"), (.array (.object "com/example/nestx/nestx/Isolation"))]
  resolved := Array.replicate 79 none
  statics := some 1 }

def pool8 : Array CpInfo := pool [(1, .fieldref 2 3), (0, .class_ 4), (0, .nameAndType 5 6), (0, u "com/example/nestx/nestx/Isolation"), (0, u "DEFAULT"), (0, u "Lcom/example/nestx/nestx/Isolation;"), (0, .class_ 8), (0, u "com/example/nestx/nestx/TransactionDefinition"), (0, .fieldref 10 11), (0, .class_ 12), (0, .nameAndType 13 14), (0, u "com/example/nestx/nestx/RollbackRule"), (0, u "EVERY_FAILURE"), (0, u "Lcom/example/nestx/nestx/RollbackRule;"), (0, .methodref 7 16), (0, .nameAndType 17 18), (0, u "<init>"), (0, u "(Lcom/example/nestx/nestx/Propagation;Lcom/example/nestx/nestx/Isolation;ZILcom/example/nestx/nestx/RollbackRule;)V"), (0, .methodref 20 21), (0, .class_ 22), (0, .nameAndType 17 23), (0, u "java/lang/Object"), (0, u "()V"), (0, .string 25), (0, u "propagation"), (0, .methodref 27 28), (0, .class_ 29), (0, .nameAndType 30 31), (0, u "java/util/Objects"), (0, u "requireNonNull"), (0, u "(Ljava/lang/Object;Ljava/lang/String;)Ljava/lang/Object;"), (0, .class_ 33), (0, u "com/example/nestx/nestx/Propagation"), (0, .fieldref 7 35), (0, .nameAndType 25 36), (0, u "Lcom/example/nestx/nestx/Propagation;"), (0, .string 38), (0, u "isolation"), (0, .fieldref 7 40), (0, .nameAndType 38 6), (0, .fieldref 7 42), (0, .nameAndType 43 44), (0, u "readOnly"), (0, u "Z"), (0, .fieldref 7 46), (0, .nameAndType 47 48), (0, u "timeout"), (0, u "I"), (0, .string 50), (0, u "rollbackRule"), (0, .fieldref 7 52), (0, .nameAndType 50 14), (13, u "NO_TIMEOUT"), (2, u "(Lcom/example/nestx/nestx/Propagation;)V"), (2, u "withIsolation"), (0, u "(Lcom/example/nestx/nestx/Isolation;)Lcom/example/nestx/nestx/TransactionDefinition;"), (0, u "withReadOnly"), (0, u "(Z)Lcom/example/nestx/nestx/TransactionDefinition;"), (0, u "withTimeout"), (0, u "(I)Lcom/example/nestx/nestx/TransactionDefinition;"), (3, u "()Lcom/example/nestx/nestx/Propagation;"), (0, u "()Lcom/example/nestx/nestx/Isolation;"), (0, u "isReadOnly"), (0, u "()Z"), (0, u "()I")] 17

def k8c0 : Code := { maxStack := 6, maxLocals := 2, code := prog_32_method_1_code, exceptionTable := #[], attributes := #[] }
def k8m0 : Method := { name := "<init>", desc := "(Lcom/example/nestx/nestx/Propagation;)V", sig := { parameters := [(.object "com/example/nestx/nestx/Propagation")], returnType := none }, accessFlags := 1, code := some k8c0 }
def k8c1 : Code := { maxStack := 3, maxLocals := 6, code := prog_32_method_2_code, exceptionTable := #[], attributes := #[] }
def k8m1 : Method := { name := "<init>", desc := "(Lcom/example/nestx/nestx/Propagation;Lcom/example/nestx/nestx/Isolation;ZILcom/example/nestx/nestx/RollbackRule;)V", sig := { parameters := [(.object "com/example/nestx/nestx/Propagation"), (.object "com/example/nestx/nestx/Isolation"), .boolean, .int, (.object "com/example/nestx/nestx/RollbackRule")], returnType := none }, accessFlags := 2, code := some k8c1 }
def k8c2 : Code := { maxStack := 7, maxLocals := 2, code := prog_32_method_3_code, exceptionTable := #[], attributes := #[] }
def k8m2 : Method := { name := "withIsolation", desc := "(Lcom/example/nestx/nestx/Isolation;)Lcom/example/nestx/nestx/TransactionDefinition;", sig := { parameters := [(.object "com/example/nestx/nestx/Isolation")], returnType := some (.object "com/example/nestx/nestx/TransactionDefinition") }, accessFlags := 1, code := some k8c2 }
def k8c3 : Code := { maxStack := 7, maxLocals := 2, code := prog_32_method_4_code, exceptionTable := #[], attributes := #[] }
def k8m3 : Method := { name := "withReadOnly", desc := "(Z)Lcom/example/nestx/nestx/TransactionDefinition;", sig := { parameters := [.boolean], returnType := some (.object "com/example/nestx/nestx/TransactionDefinition") }, accessFlags := 1, code := some k8c3 }
def k8c4 : Code := { maxStack := 7, maxLocals := 2, code := prog_32_method_5_code, exceptionTable := #[], attributes := #[] }
def k8m4 : Method := { name := "withTimeout", desc := "(I)Lcom/example/nestx/nestx/TransactionDefinition;", sig := { parameters := [.int], returnType := some (.object "com/example/nestx/nestx/TransactionDefinition") }, accessFlags := 1, code := some k8c4 }
def k8c5 : Code := { maxStack := 1, maxLocals := 1, code := prog_32_method_7_code, exceptionTable := #[], attributes := #[] }
def k8m5 : Method := { name := "propagation", desc := "()Lcom/example/nestx/nestx/Propagation;", sig := { parameters := [], returnType := some (.object "com/example/nestx/nestx/Propagation") }, accessFlags := 1, code := some k8c5 }
def k8c6 : Code := { maxStack := 1, maxLocals := 1, code := prog_32_method_8_code, exceptionTable := #[], attributes := #[] }
def k8m6 : Method := { name := "isolation", desc := "()Lcom/example/nestx/nestx/Isolation;", sig := { parameters := [], returnType := some (.object "com/example/nestx/nestx/Isolation") }, accessFlags := 1, code := some k8c6 }
def k8c7 : Code := { maxStack := 1, maxLocals := 1, code := prog_32_method_9_code, exceptionTable := #[], attributes := #[] }
def k8m7 : Method := { name := "isReadOnly", desc := "()Z", sig := { parameters := [], returnType := some .boolean }, accessFlags := 1, code := some k8c7 }
def k8c8 : Code := { maxStack := 1, maxLocals := 1, code := prog_32_method_10_code, exceptionTable := #[], attributes := #[] }
def k8m8 : Method := { name := "timeout", desc := "()I", sig := { parameters := [], returnType := some .int }, accessFlags := 1, code := some k8c8 }
/-- com/example/nestx/nestx/TransactionDefinition -/
def k8 : Class := { plain "com/example/nestx/nestx/TransactionDefinition" (some 0) with
  accessFlags := 33
  interfaces := #[]
  cf := some (fileOf pool8 7 #[] #[{ accessFlags := 1, nameIndex := 17, descriptorIndex := 69, attributes := #[] }, { accessFlags := 2, nameIndex := 17, descriptorIndex := 18, attributes := #[] }, { accessFlags := 1, nameIndex := 72, descriptorIndex := 73, attributes := #[] }, { accessFlags := 1, nameIndex := 74, descriptorIndex := 75, attributes := #[] }, { accessFlags := 1, nameIndex := 76, descriptorIndex := 77, attributes := #[] }, { accessFlags := 1, nameIndex := 25, descriptorIndex := 81, attributes := #[] }, { accessFlags := 1, nameIndex := 38, descriptorIndex := 82, attributes := #[] }, { accessFlags := 1, nameIndex := 83, descriptorIndex := 84, attributes := #[] }, { accessFlags := 1, nameIndex := 47, descriptorIndex := 85, attributes := #[] }] 33 20 #[] #[{ accessFlags := 25, nameIndex := 66, descriptorIndex := 48, attributes := #[] }, { accessFlags := 18, nameIndex := 25, descriptorIndex := 36, attributes := #[] }, { accessFlags := 18, nameIndex := 38, descriptorIndex := 6, attributes := #[] }, { accessFlags := 18, nameIndex := 43, descriptorIndex := 44, attributes := #[] }, { accessFlags := 18, nameIndex := 47, descriptorIndex := 48, attributes := #[] }, { accessFlags := 18, nameIndex := 50, descriptorIndex := 14, attributes := #[] }])
  fields := #[{ name := "NO_TIMEOUT", type := .int, accessFlags := 25, slot := 0, constantValue := 0 }, { name := "propagation", type := (.object "com/example/nestx/nestx/Propagation"), accessFlags := 18, slot := 0, constantValue := 0 }, { name := "isolation", type := (.object "com/example/nestx/nestx/Isolation"), accessFlags := 18, slot := 1, constantValue := 0 }, { name := "readOnly", type := .boolean, accessFlags := 18, slot := 2, constantValue := 0 }, { name := "timeout", type := .int, accessFlags := 18, slot := 3, constantValue := 0 }, { name := "rollbackRule", type := (.object "com/example/nestx/nestx/RollbackRule"), accessFlags := 18, slot := 4, constantValue := 0 }]
  methods := #[k8m0, k8m1, k8m2, k8m3, k8m4, k8m5, k8m6, k8m7, k8m8]
  instanceTypes := #[(.object "com/example/nestx/nestx/Propagation"), (.object "com/example/nestx/nestx/Isolation"), .boolean, .int, (.object "com/example/nestx/nestx/RollbackRule")]
  staticTypes := #[.int]
  resolved := Array.replicate 103 none
  statics := none }

def pool9 : Array CpInfo := pool [(2, .class_ 4), (1, u "java/lang/Object"), (3, .class_ 10), (1, u "com/example/nestx/nestx/RollbackRule"), (0, u "checkedRollsBack"), (0, u "Z"), (2, u "exceptionRules"), (0, u "Ljava/util/List;"), (51, u "EVERY_FAILURE"), (0, u "Lcom/example/nestx/nestx/RollbackRule;"), (2, u "UNCHECKED_ONLY")] 14

/-- com/example/nestx/nestx/RollbackRule -/
def k9 : Class := { plain "com/example/nestx/nestx/RollbackRule" (some 0) with
  accessFlags := 32
  interfaces := #[]
  cf := some (fileOf pool9 8 #[] #[] 32 2 #[] #[{ accessFlags := 24, nameIndex := 68, descriptorIndex := 69, attributes := #[] }, { accessFlags := 24, nameIndex := 72, descriptorIndex := 69, attributes := #[] }, { accessFlags := 18, nameIndex := 11, descriptorIndex := 12, attributes := #[] }, { accessFlags := 18, nameIndex := 15, descriptorIndex := 16, attributes := #[] }])
  fields := #[{ name := "EVERY_FAILURE", type := (.object "com/example/nestx/nestx/RollbackRule"), accessFlags := 24, slot := 0, constantValue := 0 }, { name := "UNCHECKED_ONLY", type := (.object "com/example/nestx/nestx/RollbackRule"), accessFlags := 24, slot := 1, constantValue := 0 }, { name := "checkedRollsBack", type := .boolean, accessFlags := 18, slot := 0, constantValue := 0 }, { name := "exceptionRules", type := (.object "java/util/List"), accessFlags := 18, slot := 1, constantValue := 0 }]
  methods := #[]
  instanceTypes := #[.boolean, (.object "java/util/List")]
  staticTypes := #[(.object "com/example/nestx/nestx/RollbackRule"), (.object "com/example/nestx/nestx/RollbackRule")]
  resolved := Array.replicate 87 none
  statics := some 2 }

def pool10 : Array CpInfo := pool [(2, .class_ 4), (1, u "java/lang/CharSequence"), (42, .class_ 48), (0, u "java/lang/CharSequence$1CodePointIterator"), (10, .class_ 60), (0, u "java/lang/CharSequence$1CharIterator"), (5, .class_ 67), (0, u "java/lang/Object")] 63

/-- java/lang/CharSequence -/
def k10 : Class := { plain "java/lang/CharSequence" (some 0) with
  accessFlags := 1537
  interfaces := #[]
  cf := some (fileOf pool10 2 #[.nestMembers #[47, 59]] #[] 1537 66 #[] #[])
  fields := #[]
  methods := #[]
  instanceTypes := #[]
  staticTypes := #[]
  resolved := Array.replicate 131 none
  statics := none }

def pool11 : Array CpInfo := pool [(1, .class_ 2), (0, u "java/lang/constant/ConstantDesc"), (0, .class_ 4), (0, u "java/lang/Object")] 32

/-- java/lang/constant/ConstantDesc -/
def k11 : Class := { plain "java/lang/constant/ConstantDesc" (some 0) with
  accessFlags := 1537
  interfaces := #[]
  cf := some (fileOf pool11 1 #[] #[] 1537 3 #[] #[])
  fields := #[]
  methods := #[]
  instanceTypes := #[]
  staticTypes := #[]
  resolved := Array.replicate 37 none
  statics := none }

def pool12 : Array CpInfo := pool [(2, .class_ 4), (1, u "java/lang/Object"), (0, u "<init>"), (0, u "()V"), (3, .class_ 12), (1, u "java/lang/String"), (0, u "value"), (0, u "[B"), (2, u "coder"), (0, u "B"), (2, u "hash"), (0, u "I"), (2, u "hashIsZero"), (0, u "Z"), (13, u "COMPACT_STRINGS"), (534, .class_ 576), (0, u "java/lang/CharSequence"), (22, u "CASE_INSENSITIVE_ORDER"), (0, u "Ljava/util/Comparator;"), (500, u "serialPersistentFields"), (0, u "[Ljava/io/ObjectStreamField;"), (0, .class_ 1104), (0, u "java/lang/String$CaseInsensitiveComparator"), (1, .class_ 1107), (0, u "java/io/Serializable"), (0, .class_ 1109), (0, u "java/lang/Comparable"), (0, .class_ 1111), (0, u "java/lang/constant/Constable"), (0, .class_ 1113), (0, u "java/lang/constant/ConstantDesc"), (2, u "serialVersionUID"), (0, u "J"), (3, u "REPL"), (0, u "C"), (2, u "LATIN1"), (1, u "UTF16")] 323

def k12m0 : Method := { name := "<init>", desc := "()V", sig := { parameters := [], returnType := none }, accessFlags := 1, code := none }
/-- java/lang/String -/
def k12 : Class := { plain "java/lang/String" (some 0) with
  accessFlags := 49
  interfaces := #[4, 3, 10, 2, 11]
  cf := some (fileOf pool12 10 #[.nestMembers #[1103]] #[{ accessFlags := 1, nameIndex := 5, descriptorIndex := 6, attributes := #[] }] 49 2 #[1106, 1108, 575, 1110, 1112] #[{ accessFlags := 18, nameIndex := 13, descriptorIndex := 14, attributes := #[] }, { accessFlags := 18, nameIndex := 17, descriptorIndex := 18, attributes := #[] }, { accessFlags := 2, nameIndex := 21, descriptorIndex := 22, attributes := #[] }, { accessFlags := 2, nameIndex := 25, descriptorIndex := 26, attributes := #[] }, { accessFlags := 26, nameIndex := 1116, descriptorIndex := 1117, attributes := #[] }, { accessFlags := 24, nameIndex := 40, descriptorIndex := 26, attributes := #[] }, { accessFlags := 26, nameIndex := 1101, descriptorIndex := 1102, attributes := #[] }, { accessFlags := 26, nameIndex := 1121, descriptorIndex := 1122, attributes := #[] }, { accessFlags := 25, nameIndex := 599, descriptorIndex := 600, attributes := #[] }, { accessFlags := 24, nameIndex := 1125, descriptorIndex := 18, attributes := #[] }, { accessFlags := 24, nameIndex := 1127, descriptorIndex := 18, attributes := #[] }])
  fields := #[{ name := "value", type := (.array .byte), accessFlags := 18, slot := 0, constantValue := 0 }, { name := "coder", type := .byte, accessFlags := 18, slot := 1, constantValue := 0 }, { name := "hash", type := .int, accessFlags := 2, slot := 2, constantValue := 0 }, { name := "hashIsZero", type := .boolean, accessFlags := 2, slot := 3, constantValue := 0 }, { name := "serialVersionUID", type := .long, accessFlags := 26, slot := 0, constantValue := 0 }, { name := "COMPACT_STRINGS", type := .boolean, accessFlags := 24, slot := 1, constantValue := 0 }, { name := "serialPersistentFields", type := (.array (.object "java/io/ObjectStreamField")), accessFlags := 26, slot := 2, constantValue := 0 }, { name := "REPL", type := .char, accessFlags := 26, slot := 3, constantValue := 0 }, { name := "CASE_INSENSITIVE_ORDER", type := (.object "java/util/Comparator"), accessFlags := 25, slot := 4, constantValue := 0 }, { name := "LATIN1", type := .byte, accessFlags := 24, slot := 5, constantValue := 0 }, { name := "UTF16", type := .byte, accessFlags := 24, slot := 6, constantValue := 0 }]
  methods := #[k12m0]
  instanceTypes := #[(.array .byte), .byte, .int, .boolean]
  staticTypes := #[.long, .boolean, (.array (.object "java/io/ObjectStreamField")), .char, (.object "java/util/Comparator"), .byte, .byte]
  resolved := Array.replicate 1451 none
  statics := none }

def pool13 : Array CpInfo := pool [(2, .class_ 4), (1, u "java/lang/Object"), (0, u "<init>"), (0, u "()V"), (35, .class_ 44), (1, u "java/util/Objects"), (0, u "requireNonNull"), (48, u "(Ljava/lang/Object;Ljava/lang/String;)Ljava/lang/Object;")] 89

def k13m0 : Method := { name := "<init>", desc := "()V", sig := { parameters := [], returnType := none }, accessFlags := 2, code := none }
def k13c1 : Code := { maxStack := 3, maxLocals := 2, code := jdk_31_method_11_code, exceptionTable := #[], attributes := #[] }
def k13m1 : Method := { name := "requireNonNull", desc := "(Ljava/lang/Object;Ljava/lang/String;)Ljava/lang/Object;", sig := { parameters := [(.object "java/lang/Object"), (.object "java/lang/String")], returnType := some (.object "java/lang/Object") }, accessFlags := 9, code := some k13c1 }
/-- java/util/Objects -/
def k13 : Class := { plain "java/util/Objects" (some 0) with
  accessFlags := 49
  interfaces := #[]
  cf := some (fileOf pool13 42 #[] #[{ accessFlags := 2, nameIndex := 5, descriptorIndex := 6, attributes := #[] }, { accessFlags := 9, nameIndex := 45, descriptorIndex := 94, attributes := #[] }] 49 2 #[] #[])
  fields := #[]
  methods := #[k13m0, k13m1]
  instanceTypes := #[]
  staticTypes := #[]
  resolved := Array.replicate 184 none
  statics := none }

def pool14 : Array CpInfo := pool [(1, u "java/lang/Cloneable"), (0, .class_ 1), (0, u "java/lang/Object"), (0, .class_ 3)] 3

/-- java/lang/Cloneable -/
def k14 : Class := { plain "java/lang/Cloneable" (some 0) with
  accessFlags := 1537
  interfaces := #[]
  cf := some (fileOf pool14 2 #[] #[] 1537 4 #[] #[])
  fields := #[]
  methods := #[]
  instanceTypes := #[]
  staticTypes := #[]
  resolved := Array.replicate 8 none
  statics := none }

/-- the primitive byte -/
def k15 : Class := { plain "byte" none with kind := .primitive 'B', accessFlags := 0x411 }
/-- [B -/
def k16 : Class := { plain "[B" (some 0) with kind := .array 15 .byte, interfaces := #[14, 4], accessFlags := 1041 }

/-- the primitive int -/
def k17 : Class := { plain "int" none with kind := .primitive 'I', accessFlags := 0x411 }
/-- [I -/
def k18 : Class := { plain "[I" (some 0) with kind := .array 17 .int, interfaces := #[14, 4], accessFlags := 1041 }

def heap : Heap := #[{ cls := 6, slots := #[.ref 3, .ref 12, .ref 14, .ref 8, .ref 15, .ref 10, .ref 13, .null], vm := .statics 6 },
  { cls := 7, slots := #[.ref 6, .ref 11, .ref 5, .ref 4, .ref 9, .null], vm := .statics 7 },
  { cls := 9, slots := #[.ref 7, .null], vm := .statics 9 },
  { cls := 6, slots := #[.null, .int 0, .int 0], vm := .none },
  { cls := 7, slots := #[.null, .int 1, .int 0], vm := .none },
  { cls := 7, slots := #[.null, .int 2, .int 0], vm := .none },
  { cls := 7, slots := #[.null, .int 3, .int 0], vm := .none },
  { cls := 9, slots := #[.int 0, .null], vm := .none },
  { cls := 6, slots := #[.null, .int 5, .int 0], vm := .none },
  { cls := 7, slots := #[.null, .int 6, .int 0], vm := .none },
  { cls := 6, slots := #[.null, .int 7, .int 0], vm := .none },
  { cls := 7, slots := #[.null, .int 8, .int 0], vm := .none },
  { cls := 6, slots := #[.null, .int 9, .int 0], vm := .none },
  { cls := 6, slots := #[.null, .int 10, .int 0], vm := .none },
  { cls := 6, slots := #[.null, .int 11, .int 0], vm := .none },
  { cls := 6, slots := #[.null, .int 12, .int 0], vm := .none }]
def classes : Array Class := #[k0, k1, k2, k3, k4, k5, k6, k7, k8, k9, k10, k11, k12, k13, k14, k15, k16, k17, k18]
def interned : List (Array UInt16 × Addr) := []
def slotsUsed : Nat := 54
def theMethod : MethodId := ⟨1, 3⟩
def args0 : Array Value := #[.int 1, .int 2, .int 3, .int 4, .int 5]
def aboutOver (below : List Frame) : State where
  vm := { classes := classes, interned := interned.toArray }
  heap := heap
  slotsUsed := slotsUsed
  threads := #[{ frames := .invoking theMethod args0 :: below }]
def below0 : List Frame := [.native { method := ⟨0, 0⟩, args := #[] }]
def about1 : State := aboutOver below0
def p0 : Program := .bare "" "" ""
def e0 : Env := launch0.env 0 0 0
theorem w_frames : about1.frames = Frame.invoking theMethod args0 :: below0 := rfl
set_option maxRecDepth 65536 in
theorem w_args : argsFit about1.vm theMethod args0 = true := by decide +kernel
set_option maxRecDepth 65536 in
theorem w_heap : heapFits about1 = true := by decide +kernel
set_option maxRecDepth 65536 in
theorem w_runnable : about1.curStatus? = some .runnable := by decide +kernel
set_option maxRecDepth 65536 in
theorem w_alone : about1.alone = true := by decide +kernel
set_option maxRecDepth 65536 in
theorem w_named : about1.methodNamed? x = some theMethod := by decide +kernel
set_option maxRecDepth 65536 in
theorem w_hears : about1.hears theMethod below0 = true := by decide +kernel
set_option maxRecDepth 65536 in
theorem w_ripe : about1.ripe theMethod args0 below0 = true := by decide +kernel
theorem w_running : about1.status = .running := rfl
set_option maxRecDepth 65536 in
theorem w_room : about1.hasRoom e0.platform room_1 = true :=
  launch0.hasRoom_least _ room_1 (by decide +kernel) (by decide +kernel) (by decide +kernel) (by decide +kernel) (by decide +kernel) (by decide +kernel)
theorem allAtoms_all (ts : List Jvm.Cond) (a : Array Jvm.Value) (st : Jvm.State) : (allAtoms ts).before a st = ts.all (fun c => c.before a st) := by
  induction ts with
  | nil => rfl
  | cons c t ih =>
    show (Jvm.Cond.and c (allAtoms t)).before a st = _
    rw [Jvm.Cond.before_and, ih, List.all_cons]
def words1 : List Jvm.Cond := Jvm.Cond.code x code maxLocals ret :: tables_1
/-- a 'code' word, met by the world's own term for the bytes: nothing is compared byte by byte -/
theorem code_word {y : MethodName} {bytes : ByteArray} {mx : Nat} {rt : Option FieldType} {a : Array Value} {s : State} {m : MethodId} {meth : Method} {c : Code} (h1 : s.methodNamed? y = some m) (h2 : s.vm.method? m = some meth) (h3 : meth.code = some c) (h4 : c.code = bytes)
    (h5 : (c.maxLocals == mx && c.exceptionTable.isEmpty && decide (c.maxStack ≤ mostOperands) && decide (meth.sig.returnType = rt) && !meth.locks && decide (parseMethodDescriptor y.desc = some meth.sig)) = true) : (Jvm.Cond.code y bytes mx rt).before a s = true := by
  simp only [Bool.and_eq_true, beq_iff_eq, Bool.not_eq_true', decide_eq_true_eq] at h5
  obtain ⟨⟨⟨⟨⟨g1, g2⟩, g3⟩, g4⟩, g5⟩, g6⟩ := h5
  simp [Cond.before, Cond.holds, Cond.value, h1, h2, h3, h4, g1, g2, g3, g4, g5, g6]
def isCode : Jvm.Cond → Bool
  | .code _ _ _ _ => true
  | _ => false
theorem all_split {L : List Jvm.Cond} {P : Jvm.Cond → Bool} (h1 : L.all (fun c => isCode c || P c) = true) (h2 : ∀ c ∈ L.filter isCode, P c = true) : L.all P = true := by
  refine List.all_eq_true.mpr fun c hc => ?_
  have h := List.all_eq_true.mp h1 c hc
  rcases Bool.eq_false_or_eq_true (isCode c) with hi | hi
  · exact h2 c (List.mem_filter.mpr ⟨hc, hi⟩)
  · simpa [hi] using h
set_option maxRecDepth 65536 in
theorem w_c0 : (Jvm.Cond.code x code maxLocals ret).before args0 about1 = true := code_word (m := ⟨1, 3⟩) (meth := k1m3) (c := k1c3) (by decide +kernel) rfl rfl rfl (by decide +kernel)
set_option maxRecDepth 65536 in
theorem w_c1 : (Jvm.Cond.code ({ cls := "com/example/nestx/nestx/TransactionDefinitionWithIsolationPinLaw", name := "prop", desc := "(I)Lcom/example/nestx/nestx/Propagation;" } : Jvm.MethodName) method_2_code (2 : Nat) (Option.some (Jvm.ClassFile.FieldType.object "com/example/nestx/nestx/Propagation"))).before args0 about1 = true := code_word (m := ⟨1, 1⟩) (meth := k1m1) (c := k1c1) (by decide +kernel) rfl rfl rfl (by decide +kernel)
set_option maxRecDepth 65536 in
theorem w_c2 : (Jvm.Cond.code ({ cls := "com/example/nestx/nestx/TransactionDefinitionWithIsolationPinLaw", name := "iso", desc := "(I)Lcom/example/nestx/nestx/Isolation;" } : Jvm.MethodName) method_3_code (2 : Nat) (Option.some (Jvm.ClassFile.FieldType.object "com/example/nestx/nestx/Isolation"))).before args0 about1 = true := code_word (m := ⟨1, 2⟩) (meth := k1m2) (c := k1c2) (by decide +kernel) rfl rfl rfl (by decide +kernel)
set_option maxRecDepth 65536 in
theorem w_c3 : (Jvm.Cond.code ({ cls := "com/example/nestx/nestx/TransactionDefinition", name := "<init>", desc := "(Lcom/example/nestx/nestx/Propagation;)V" } : Jvm.MethodName) prog_32_method_1_code (2 : Nat) (Option.none : Option Jvm.ClassFile.FieldType)).before args0 about1 = true := code_word (m := ⟨8, 0⟩) (meth := k8m0) (c := k8c0) (by decide +kernel) rfl rfl rfl (by decide +kernel)
set_option maxRecDepth 65536 in
theorem w_c4 : (Jvm.Cond.code ({ cls := "com/example/nestx/nestx/TransactionDefinition", name := "<init>", desc := "(Lcom/example/nestx/nestx/Propagation;Lcom/example/nestx/nestx/Isolation;ZILcom/example/nestx/nestx/RollbackRule;)V" } : Jvm.MethodName) prog_32_method_2_code (6 : Nat) (Option.none : Option Jvm.ClassFile.FieldType)).before args0 about1 = true := code_word (m := ⟨8, 1⟩) (meth := k8m1) (c := k8c1) (by decide +kernel) rfl rfl rfl (by decide +kernel)
set_option maxRecDepth 65536 in
theorem w_c5 : (Jvm.Cond.code ({ cls := "java/lang/Object", name := "<init>", desc := "()V" } : Jvm.MethodName) object_method_1_code (1 : Nat) (Option.none : Option Jvm.ClassFile.FieldType)).before args0 about1 = true := code_word (m := ⟨0, 0⟩) (meth := k0m0) (c := k0c0) (by decide +kernel) rfl rfl rfl (by decide +kernel)
set_option maxRecDepth 65536 in
theorem w_c6 : (Jvm.Cond.code ({ cls := "java/util/Objects", name := "requireNonNull", desc := "(Ljava/lang/Object;Ljava/lang/String;)Ljava/lang/Object;" } : Jvm.MethodName) jdk_31_method_11_code (2 : Nat) (Option.some (Jvm.ClassFile.FieldType.object "java/lang/Object"))).before args0 about1 = true := code_word (m := ⟨13, 1⟩) (meth := k13m1) (c := k13c1) (by decide +kernel) rfl rfl rfl (by decide +kernel)
set_option maxRecDepth 65536 in
theorem w_c7 : (Jvm.Cond.code ({ cls := "com/example/nestx/nestx/TransactionDefinition", name := "withReadOnly", desc := "(Z)Lcom/example/nestx/nestx/TransactionDefinition;" } : Jvm.MethodName) prog_32_method_4_code (2 : Nat) (Option.some (Jvm.ClassFile.FieldType.object "com/example/nestx/nestx/TransactionDefinition"))).before args0 about1 = true := code_word (m := ⟨8, 3⟩) (meth := k8m3) (c := k8c3) (by decide +kernel) rfl rfl rfl (by decide +kernel)
set_option maxRecDepth 65536 in
theorem w_c8 : (Jvm.Cond.code ({ cls := "com/example/nestx/nestx/TransactionDefinition", name := "withTimeout", desc := "(I)Lcom/example/nestx/nestx/TransactionDefinition;" } : Jvm.MethodName) prog_32_method_5_code (2 : Nat) (Option.some (Jvm.ClassFile.FieldType.object "com/example/nestx/nestx/TransactionDefinition"))).before args0 about1 = true := code_word (m := ⟨8, 4⟩) (meth := k8m4) (c := k8c4) (by decide +kernel) rfl rfl rfl (by decide +kernel)
set_option maxRecDepth 65536 in
theorem w_c9 : (Jvm.Cond.code ({ cls := "com/example/nestx/nestx/TransactionDefinition", name := "withIsolation", desc := "(Lcom/example/nestx/nestx/Isolation;)Lcom/example/nestx/nestx/TransactionDefinition;" } : Jvm.MethodName) prog_32_method_3_code (2 : Nat) (Option.some (Jvm.ClassFile.FieldType.object "com/example/nestx/nestx/TransactionDefinition"))).before args0 about1 = true := code_word (m := ⟨8, 2⟩) (meth := k8m2) (c := k8c2) (by decide +kernel) rfl rfl rfl (by decide +kernel)
set_option maxRecDepth 65536 in
theorem w_c10 : (Jvm.Cond.code ({ cls := "com/example/nestx/nestx/TransactionDefinition", name := "isolation", desc := "()Lcom/example/nestx/nestx/Isolation;" } : Jvm.MethodName) prog_32_method_8_code (1 : Nat) (Option.some (Jvm.ClassFile.FieldType.object "com/example/nestx/nestx/Isolation"))).before args0 about1 = true := code_word (m := ⟨8, 6⟩) (meth := k8m6) (c := k8c6) (by decide +kernel) rfl rfl rfl (by decide +kernel)
set_option maxRecDepth 65536 in
theorem w_c11 : (Jvm.Cond.code ({ cls := "com/example/nestx/nestx/TransactionDefinition", name := "propagation", desc := "()Lcom/example/nestx/nestx/Propagation;" } : Jvm.MethodName) prog_32_method_7_code (1 : Nat) (Option.some (Jvm.ClassFile.FieldType.object "com/example/nestx/nestx/Propagation"))).before args0 about1 = true := code_word (m := ⟨8, 5⟩) (meth := k8m5) (c := k8c5) (by decide +kernel) rfl rfl rfl (by decide +kernel)
set_option maxRecDepth 65536 in
theorem w_c12 : (Jvm.Cond.code ({ cls := "com/example/nestx/nestx/TransactionDefinition", name := "isReadOnly", desc := "()Z" } : Jvm.MethodName) prog_32_method_9_code (1 : Nat) (Option.some Jvm.ClassFile.FieldType.boolean)).before args0 about1 = true := code_word (m := ⟨8, 7⟩) (meth := k8m7) (c := k8c7) (by decide +kernel) rfl rfl rfl (by decide +kernel)
set_option maxRecDepth 65536 in
theorem w_c13 : (Jvm.Cond.code ({ cls := "com/example/nestx/nestx/TransactionDefinition", name := "timeout", desc := "()I" } : Jvm.MethodName) prog_32_method_10_code (1 : Nat) (Option.some Jvm.ClassFile.FieldType.int)).before args0 about1 = true := code_word (m := ⟨8, 8⟩) (meth := k8m8) (c := k8c8) (by decide +kernel) rfl rfl rfl (by decide +kernel)
def codes1 : List Jvm.Cond := [Jvm.Cond.code x code maxLocals ret, Jvm.Cond.code ({ cls := "com/example/nestx/nestx/TransactionDefinitionWithIsolationPinLaw", name := "prop", desc := "(I)Lcom/example/nestx/nestx/Propagation;" } : Jvm.MethodName) method_2_code (2 : Nat) (Option.some (Jvm.ClassFile.FieldType.object "com/example/nestx/nestx/Propagation")), Jvm.Cond.code ({ cls := "com/example/nestx/nestx/TransactionDefinitionWithIsolationPinLaw", name := "iso", desc := "(I)Lcom/example/nestx/nestx/Isolation;" } : Jvm.MethodName) method_3_code (2 : Nat) (Option.some (Jvm.ClassFile.FieldType.object "com/example/nestx/nestx/Isolation")), Jvm.Cond.code ({ cls := "com/example/nestx/nestx/TransactionDefinition", name := "<init>", desc := "(Lcom/example/nestx/nestx/Propagation;)V" } : Jvm.MethodName) prog_32_method_1_code (2 : Nat) (Option.none : Option Jvm.ClassFile.FieldType), Jvm.Cond.code ({ cls := "com/example/nestx/nestx/TransactionDefinition", name := "<init>", desc := "(Lcom/example/nestx/nestx/Propagation;Lcom/example/nestx/nestx/Isolation;ZILcom/example/nestx/nestx/RollbackRule;)V" } : Jvm.MethodName) prog_32_method_2_code (6 : Nat) (Option.none : Option Jvm.ClassFile.FieldType), Jvm.Cond.code ({ cls := "java/lang/Object", name := "<init>", desc := "()V" } : Jvm.MethodName) object_method_1_code (1 : Nat) (Option.none : Option Jvm.ClassFile.FieldType), Jvm.Cond.code ({ cls := "java/util/Objects", name := "requireNonNull", desc := "(Ljava/lang/Object;Ljava/lang/String;)Ljava/lang/Object;" } : Jvm.MethodName) jdk_31_method_11_code (2 : Nat) (Option.some (Jvm.ClassFile.FieldType.object "java/lang/Object")), Jvm.Cond.code ({ cls := "com/example/nestx/nestx/TransactionDefinition", name := "withReadOnly", desc := "(Z)Lcom/example/nestx/nestx/TransactionDefinition;" } : Jvm.MethodName) prog_32_method_4_code (2 : Nat) (Option.some (Jvm.ClassFile.FieldType.object "com/example/nestx/nestx/TransactionDefinition")), Jvm.Cond.code ({ cls := "com/example/nestx/nestx/TransactionDefinition", name := "withTimeout", desc := "(I)Lcom/example/nestx/nestx/TransactionDefinition;" } : Jvm.MethodName) prog_32_method_5_code (2 : Nat) (Option.some (Jvm.ClassFile.FieldType.object "com/example/nestx/nestx/TransactionDefinition")), Jvm.Cond.code ({ cls := "com/example/nestx/nestx/TransactionDefinition", name := "withIsolation", desc := "(Lcom/example/nestx/nestx/Isolation;)Lcom/example/nestx/nestx/TransactionDefinition;" } : Jvm.MethodName) prog_32_method_3_code (2 : Nat) (Option.some (Jvm.ClassFile.FieldType.object "com/example/nestx/nestx/TransactionDefinition")), Jvm.Cond.code ({ cls := "com/example/nestx/nestx/TransactionDefinition", name := "isolation", desc := "()Lcom/example/nestx/nestx/Isolation;" } : Jvm.MethodName) prog_32_method_8_code (1 : Nat) (Option.some (Jvm.ClassFile.FieldType.object "com/example/nestx/nestx/Isolation")), Jvm.Cond.code ({ cls := "com/example/nestx/nestx/TransactionDefinition", name := "propagation", desc := "()Lcom/example/nestx/nestx/Propagation;" } : Jvm.MethodName) prog_32_method_7_code (1 : Nat) (Option.some (Jvm.ClassFile.FieldType.object "com/example/nestx/nestx/Propagation")), Jvm.Cond.code ({ cls := "com/example/nestx/nestx/TransactionDefinition", name := "isReadOnly", desc := "()Z" } : Jvm.MethodName) prog_32_method_9_code (1 : Nat) (Option.some Jvm.ClassFile.FieldType.boolean), Jvm.Cond.code ({ cls := "com/example/nestx/nestx/TransactionDefinition", name := "timeout", desc := "()I" } : Jvm.MethodName) prog_32_method_10_code (1 : Nat) (Option.some Jvm.ClassFile.FieldType.int)]
set_option maxRecDepth 65536 in
theorem codes_eq : words1.filter isCode = codes1 := rfl
theorem w_codes : ∀ c ∈ words1.filter isCode, c.before args0 about1 = true := by
  rw [codes_eq]
  intro c hc
  simp only [codes1, List.mem_cons, List.not_mem_nil, or_false] at hc
  rcases hc with rfl | rfl | rfl | rfl | rfl | rfl | rfl | rfl | rfl | rfl | rfl | rfl | rfl | rfl
  · exact w_c0
  · exact w_c1
  · exact w_c2
  · exact w_c3
  · exact w_c4
  · exact w_c5
  · exact w_c6
  · exact w_c7
  · exact w_c8
  · exact w_c9
  · exact w_c10
  · exact w_c11
  · exact w_c12
  · exact w_c13
set_option maxRecDepth 65536 in
theorem w_t1 : (words1.take 24).all (fun c => isCode c || c.before args0 about1) = true := by decide +kernel
set_option maxRecDepth 65536 in
theorem w_t2 : ((words1.drop 24).take 24).all (fun c => isCode c || c.before args0 about1) = true := by decide +kernel
set_option maxRecDepth 65536 in
theorem w_t3 : (((words1.drop 24).drop 24).take 24).all (fun c => isCode c || c.before args0 about1) = true := by decide +kernel
set_option maxRecDepth 65536 in
theorem w_t4 : ((((words1.drop 24).drop 24).drop 24).take 24).all (fun c => isCode c || c.before args0 about1) = true := by decide +kernel
set_option maxRecDepth 65536 in
theorem w_t5 : ((((words1.drop 24).drop 24).drop 24).drop 24).all (fun c => isCode c || c.before args0 about1) = true := by decide +kernel
theorem w_tables : (allAtoms (Jvm.Cond.code x code maxLocals ret :: tables_1)).before args0 about1 = true := by
  rw [allAtoms_all]
  show words1.all (fun c => c.before args0 about1) = true
  refine all_split ?_ w_codes
  rw [← List.take_append_drop 24 words1, List.all_append, w_t1, ← List.take_append_drop 24 (words1.drop 24), List.all_append, w_t2, ← List.take_append_drop 24 ((words1.drop 24).drop 24), List.all_append, w_t3, ← List.take_append_drop 24 (((words1.drop 24).drop 24).drop 24), List.all_append, w_t4, w_t5]
  rfl
set_option maxRecDepth 65536 in
theorem w_case : (Jvm.Cond.and given_1 narrow_1).before args0 about1 = true := by decide +kernel
theorem w_applies : (headSpec (Jvm.Cond.code x code maxLocals ret :: tables_1) room_1).applies x e0.platform about1 = true :=
  (Spec.applies_iff w_frames).mpr ⟨w_running, w_runnable, w_alone, w_named, w_hears, w_ripe, w_room, w_tables⟩
theorem atStart : AtStart classFile x code maxLocals ret World_1 tables_1 room_1 Calls_1 rest_1 Pre_1 launch0 p0 e0 about1 theMethod args0 below0 :=
  ⟨lists_1, trivial, launch0.admits_env _ _ _, launch0.least_env, fairChoices_fair.cas, fairChoices_fair.clock, w_frames, w_args, w_heap, w_applies, trivial, trivial, w_case⟩
end start1
theorem witness_1 : WitnessClaimed_1 := ⟨start1.p0, start1.e0, start1.about1, start1.theMethod, start1.args0, start1.below0, start1.atStart⟩
end Jvm.Pilot.@@N@@
