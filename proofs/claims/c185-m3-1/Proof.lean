import JvmDerived
import JvmDerived.Pilot.@@N@@Statement
import JvmDerived.Pilot.@@N@@Code
set_option linter.unusedVariables false
set_option linter.unusedSimpArgs false
@@BLOCK:NumsL.lean.txt@@
namespace Jvm.OwnWalk
open Sem ClassFile Op Lib Jvm.Stand Jvm.Free Jvm.LawKit Jvm.RoadKit
section K
variable {p : Program} {l : Launch} {e : Env} {R : Room} {s : State} {m : MethodId} {args : Array Value} {below : List Frame} {meth : Method} {c : Code} {T : State} {locs : List Loc} {cells slots : Nat} {Z : State} {a0 : Array Value} {h : Heap} {P : Outcome → State → Prop} {pc : Nat} {Ls : Array Slot} {rest : List Value}
/-- from T with g on top the invocation ends, and P holds of its end -/
def Wout (p : Program) (e : Env) (below : List Frame) (P : Outcome → State → Prop) (T : State) (g : JFrame) : Prop :=
  ∃ U o, Steps p.tables e below (T.setTop g) U ∧ U.status = .running ∧ Ended U below o ∧ P o U
theorem Wout.of {T T' : State} {g g' : JFrame} (st : ∀ t, Steps p.tables e below (T'.setTop g') t → Steps p.tables e below (T.setTop g) t) (hr : Wout p e below P T' g') : Wout p e below P T g := by
  obtain ⟨U, o, h1, h2⟩ := hr
  exact ⟨U, o, st U h1, h2⟩
theorem Wout.tr {T T' : State} {g g' : JFrame} (st : Steps p.tables e below (T.setTop g) (T'.setTop g')) (hr : Wout p e below P T' g') : Wout p e below P T g := by
  obtain ⟨U, o, h1, h2⟩ := hr
  exact ⟨U, o, st.trans h1, h2⟩
theorem Wout.cast {T : State} {g g' : JFrame} (q : g = g') (hr : Wout p e below P T g') : Wout p e below P T g := q ▸ hr
/-- the end of an invocation that returned: Q of its value, the heap and the written places; the frame -/
def Pst (s : State) (Q : Option Value → Heap → List Loc → Prop) (C S : Nat) (o : Outcome) (U : State) : Prop := ∃ v L, o = .returned v ∧ Q v U.heap L ∧ FrameEnd s o U L C S
abbrev Met (l : Launch) (Z : State) (y : MethodName) (bytes : ByteArray) (maxL : Nat) (ret : Option FieldType) (ws : List Jvm.Cond) (rm : Room) (as' : Array Value) (h0 : Heap) (Q : Option Value → Heap → List Loc → Prop) : Prop :=
  MetFree l y (head1 (Jvm.Cond.code y bytes maxL ret :: ws) rm) (fun a U => a = as' ∧ Z.Warmed39 U.vm ∧ U.heap = h0) (fun _ _ _ _ _ => True) (fun _ U o U' => ∃ v L, o = .returned v ∧ Q v U'.heap L ∧ FrameEnd U o U' L rm.cells rm.slots)
theorem Met.start {y : MethodName} {bytes : ByteArray} {maxL : Nat} {ret : Option FieldType} {ws : List Jvm.Cond} {rm : Room} {as' : Array Value} {h0 : Heap} {Q : Option Value → Heap → List Loc → Prop} (hpl : plainFor y = true)
    (H : ∀ (p : Program) (e : Env) (s : State) (m : MethodId) (below : List Frame) (meth : Method) (c : Code) (T : State), Stand p l e rm s m as' below meth c T [] 0 0 → p.tables.exec = Jvm.exec → c.code = bytes → c.maxLocals = maxL → s.vm.findClass y.cls = some m.cls → meth.name = y.name → meth.sig.returnType = ret → meth.locks = false → Z.Warmed39 s.vm → T.heap = h0 → Wout p e below (Pst s Q rm.cells rm.slots) T (entryFrame m as' maxL)) :
    Met l Z y bytes maxL ret ws rm as' h0 Q := by
  refine MetFree.of_bodySF hpl hisR ?_
  intro p e s m args below meth c s₁ Bd hml0 hP hK
  obtain ⟨rfl, hZ, hh⟩ := hP
  exact H p e s m below meth c s₁ (Stand.of_body Bd) Bd.exec Bd.bytes hml0 (findClass_of_methodNamed Bd.named) (name_of_methodNamed Bd.named Bd.method).1 Bd.returns Bd.notSynchronized hZ (by rw [← hh, Bd.state]; rfl)
/-! what a branch says -/
def cI : ClassFile.Cond → Int32 → Prop
  | .eq, x => x = 0 | .ne, x => ¬ x = 0 | .lt, x => x < 0 | .ge, x => ¬ x < 0 | .gt, x => 0 < x | .le, x => ¬ 0 < x
def cII : ClassFile.Cond → Int32 → Int32 → Prop
  | .eq, x, y => x = y | .ne, x, y => ¬ x = y | .lt, x, y => x < y | .ge, x, y => ¬ x < y | .gt, x, y => y < x | .le, x, y => ¬ y < x
def cLL : ClassFile.Cond → Int64 → Int64 → Prop
  | .eq, x, y => x = y | .ne, x, y => ¬ x = y | .lt, x, y => x < y | .ge, x, y => ¬ x < y | .gt, x, y => y < x | .le, x, y => ¬ y < x
def cNeg : ClassFile.Cond → ClassFile.Cond
  | .eq => .ne | .ne => .eq | .lt => .ge | .ge => .lt | .gt => .le | .le => .gt
theorem cI_t : ∀ {cd : ClassFile.Cond} {x : Int32}, cI cd x → ifCond.holds cd x = true
  | .eq, _, q => XT.i0_eq_t q
  | .ne, _, q => XT.i0_ne_t q
  | .lt, _, q => XT.i0_lt_t q
  | .ge, _, q => XT.i0_ge_t q
  | .gt, _, q => XT.i0_gt_t q
  | .le, _, q => XT.i0_le_t q
theorem cI_f : ∀ {cd : ClassFile.Cond} {x : Int32}, cI (cNeg cd) x → ifCond.holds cd x = false
  | .eq, _, q => XT.i0_eq_f q
  | .ne, _, q => XT.i0_ne_f q
  | .lt, _, q => XT.i0_lt_f q
  | .ge, _, q => XT.i0_ge_f q
  | .gt, _, q => XT.i0_gt_f q
  | .le, _, q => XT.i0_le_f q
theorem cII_t : ∀ {cd : ClassFile.Cond} {x y : Int32}, cII cd x y → if_icmp.holds cd x y = true
  | .eq, _, _, q => XT.ii_eq_t q
  | .ne, _, _, q => XT.ii_ne_t q
  | .lt, _, _, q => XT.ii_lt_t q
  | .ge, _, _, q => XT.ii_ge_t q
  | .gt, _, _, q => XT.ii_gt_t q
  | .le, _, _, q => XT.ii_le_t q
theorem cII_f : ∀ {cd : ClassFile.Cond} {x y : Int32}, cII (cNeg cd) x y → if_icmp.holds cd x y = false
  | .eq, _, _, q => XT.ii_eq_f q
  | .ne, _, _, q => XT.ii_ne_f q
  | .lt, _, _, q => XT.ii_lt_f q
  | .ge, _, _, q => XT.ii_ge_f q
  | .gt, _, _, q => XT.ii_gt_f q
  | .le, _, _, q => XT.ii_le_f q
theorem cLL_t : ∀ {cd : ClassFile.Cond} {x y : Int64}, cLL cd x y → ifCond.holds cd (XT.cmpL x y) = true
  | .eq, _, _, q => XT.ll_eq_t q
  | .ne, _, _, q => XT.ll_ne_t q
  | .lt, _, _, q => XT.ll_lt_t q
  | .ge, _, _, q => XT.ll_ge_t q
  | .gt, _, _, q => XT.ll_gt_t q
  | .le, _, _, q => XT.ll_le_t q
theorem cLL_f : ∀ {cd : ClassFile.Cond} {x y : Int64}, cLL (cNeg cd) x y → ifCond.holds cd (XT.cmpL x y) = false
  | .eq, _, _, q => XT.ll_eq_f q
  | .ne, _, _, q => XT.ll_ne_f q
  | .lt, _, _, q => XT.ll_lt_f q
  | .ge, _, _, q => XT.ll_ge_f q
  | .gt, _, _, q => XT.ll_gt_f q
  | .le, _, _, q => XT.ll_le_f q
theorem cI_em (cd : ClassFile.Cond) (x : Int32) : cI cd x ∨ cI (cNeg cd) x := by
  cases cd <;> simp only [cI, cNeg] <;> first | exact Classical.em _ | exact (Classical.em _).symm
theorem cII_em (cd : ClassFile.Cond) (x y : Int32) : cII cd x y ∨ cII (cNeg cd) x y := by
  cases cd <;> simp only [cII, cNeg] <;> first | exact Classical.em _ | exact (Classical.em _).symm
theorem cLL_em (cd : ClassFile.Cond) (x y : Int64) : cLL cd x y ∨ cLL (cNeg cd) x y := by
  cases cd <;> simp only [cLL, cNeg] <;> first | exact Classical.em _ | exact (Classical.em _).symm

theorem o_iload (X : Stand p l e R s m args below meth c T locs cells slots) (hx : p.tables.exec = Jvm.exec) (n : Nat) {k : Nat} {v : Int32} (hd : decode c.code pc = .ok (.iload k, 2)) (hl : Ls[k]? = some (.val (.int v))) (hp : pc + 2 = n) (hr : Wout p e below P T (mkF m n Ls (.int v :: rest))) : Wout p e below P T (mkF m pc Ls (rest)) := by
  subst hp
  exact Wout.of (fun _ ht => XS.iload X.here hx rfl hd hl ht) hr
theorem o_iloadN (X : Stand p l e R s m args below meth c T locs cells slots) (hx : p.tables.exec = Jvm.exec) (n : Nat) {k : Fin 4} {v : Int32} (hd : decode c.code pc = .ok (.iload_n k, 1)) (hl : Ls[k.val]? = some (.val (.int v))) (hp : pc + 1 = n) (hr : Wout p e below P T (mkF m n Ls (.int v :: rest))) : Wout p e below P T (mkF m pc Ls (rest)) := by
  subst hp
  exact Wout.of (fun _ ht => XS.iloadN X.here hx rfl hd hl ht) hr
theorem o_istore (X : Stand p l e R s m args below meth c T locs cells slots) (hx : p.tables.exec = Jvm.exec) (n : Nat) {k : Nat} {v : Int32} {Ls' : Array Slot} (hd : decode c.code pc = .ok (.istore k, 2)) (hl : storeLocals Ls k (.int v) = some Ls') (hp : pc + 2 = n) (hr : Wout p e below P T (mkF m n Ls' (rest))) : Wout p e below P T (mkF m pc Ls (.int v :: rest)) := by
  subst hp
  exact Wout.of (fun _ ht => XS.istore X.here hx rfl hd rfl hl ht) hr
theorem o_istoreN (X : Stand p l e R s m args below meth c T locs cells slots) (hx : p.tables.exec = Jvm.exec) (n : Nat) {k : Fin 4} {v : Int32} {Ls' : Array Slot} (hd : decode c.code pc = .ok (.istore_n k, 1)) (hl : storeLocals Ls k.val (.int v) = some Ls') (hp : pc + 1 = n) (hr : Wout p e below P T (mkF m n Ls' (rest))) : Wout p e below P T (mkF m pc Ls (.int v :: rest)) := by
  subst hp
  exact Wout.of (fun _ ht => XS.istoreN X.here hx rfl hd rfl hl ht) hr
theorem o_lload (X : Stand p l e R s m args below meth c T locs cells slots) (hx : p.tables.exec = Jvm.exec) (n : Nat) {k : Nat} {v : Int64} (hd : decode c.code pc = .ok (.lload k, 2)) (hl : Ls[k]? = some (.val (.long v))) (hp : pc + 2 = n) (hr : Wout p e below P T (mkF m n Ls (.long v :: rest))) : Wout p e below P T (mkF m pc Ls (rest)) := by
  subst hp
  exact Wout.of (fun _ ht => XT.lload X.here hx rfl hd hl ht) hr
theorem o_lloadN (X : Stand p l e R s m args below meth c T locs cells slots) (hx : p.tables.exec = Jvm.exec) (n : Nat) {k : Fin 4} {v : Int64} (hd : decode c.code pc = .ok (.lload_n k, 1)) (hl : Ls[k.val]? = some (.val (.long v))) (hp : pc + 1 = n) (hr : Wout p e below P T (mkF m n Ls (.long v :: rest))) : Wout p e below P T (mkF m pc Ls (rest)) := by
  subst hp
  exact Wout.of (fun _ ht => XT.lloadN X.here hx rfl hd hl ht) hr
theorem o_lstore (X : Stand p l e R s m args below meth c T locs cells slots) (hx : p.tables.exec = Jvm.exec) (n : Nat) {k : Nat} {v : Int64} {Ls' : Array Slot} (hd : decode c.code pc = .ok (.lstore k, 2)) (hl : storeLocals Ls k (.long v) = some Ls') (hp : pc + 2 = n) (hr : Wout p e below P T (mkF m n Ls' (rest))) : Wout p e below P T (mkF m pc Ls (.long v :: rest)) := by
  subst hp
  exact Wout.of (fun _ ht => XT.lstore X.here hx rfl hd rfl hl ht) hr
theorem o_lstoreN (X : Stand p l e R s m args below meth c T locs cells slots) (hx : p.tables.exec = Jvm.exec) (n : Nat) {k : Fin 4} {v : Int64} {Ls' : Array Slot} (hd : decode c.code pc = .ok (.lstore_n k, 1)) (hl : storeLocals Ls k.val (.long v) = some Ls') (hp : pc + 1 = n) (hr : Wout p e below P T (mkF m n Ls' (rest))) : Wout p e below P T (mkF m pc Ls (.long v :: rest)) := by
  subst hp
  exact Wout.of (fun _ ht => XT.lstoreN X.here hx rfl hd rfl hl ht) hr
theorem o_aload (X : Stand p l e R s m args below meth c T locs cells slots) (hx : p.tables.exec = Jvm.exec) (n : Nat) {k : Nat} {v : Value} (hd : decode c.code pc = .ok (.aload k, 2)) (hl : Ls[k]? = some (.val v)) (hv : v.isRef = true) (hp : pc + 2 = n) (hr : Wout p e below P T (mkF m n Ls (v :: rest))) : Wout p e below P T (mkF m pc Ls (rest)) := by
  subst hp
  exact Wout.of (fun _ ht => XS.aload X.here hx rfl hd hl hv ht) hr
theorem o_aloadN (X : Stand p l e R s m args below meth c T locs cells slots) (hx : p.tables.exec = Jvm.exec) (n : Nat) {k : Fin 4} {v : Value} (hd : decode c.code pc = .ok (.aload_n k, 1)) (hl : Ls[k.val]? = some (.val v)) (hv : v.isRef = true) (hp : pc + 1 = n) (hr : Wout p e below P T (mkF m n Ls (v :: rest))) : Wout p e below P T (mkF m pc Ls (rest)) := by
  subst hp
  exact Wout.of (fun _ ht => XS.aloadN X.here hx rfl hd hl hv ht) hr
theorem o_astore (X : Stand p l e R s m args below meth c T locs cells slots) (hx : p.tables.exec = Jvm.exec) (n : Nat) {k : Nat} {v : Value} {Ls' : Array Slot} (hd : decode c.code pc = .ok (.astore k, 2)) (hv : v.isRef = true) (hl : storeLocals Ls k v = some Ls') (hp : pc + 2 = n) (hr : Wout p e below P T (mkF m n Ls' (rest))) : Wout p e below P T (mkF m pc Ls (v :: rest)) := by
  subst hp
  exact Wout.of (fun _ ht => XS.astore X.here hx rfl hd rfl hv hl ht) hr
theorem o_astoreN (X : Stand p l e R s m args below meth c T locs cells slots) (hx : p.tables.exec = Jvm.exec) (n : Nat) {k : Fin 4} {v : Value} {Ls' : Array Slot} (hd : decode c.code pc = .ok (.astore_n k, 1)) (hv : v.isRef = true) (hl : storeLocals Ls k.val v = some Ls') (hp : pc + 1 = n) (hr : Wout p e below P T (mkF m n Ls' (rest))) : Wout p e below P T (mkF m pc Ls (v :: rest)) := by
  subst hp
  exact Wout.of (fun _ ht => XS.astoreN X.here hx rfl hd rfl hv hl ht) hr
theorem o_iconst (X : Stand p l e R s m args below meth c T locs cells slots) (hx : p.tables.exec = Jvm.exec) (n : Nat) {i : Int} (v : Int32) (hd : decode c.code pc = .ok (.iconst i, 1)) (hv : Int32.ofInt i = v) (hp : pc + 1 = n) (hr : Wout p e below P T (mkF m n Ls (.int v :: rest))) : Wout p e below P T (mkF m pc Ls (rest)) := by
  subst hp
  exact Wout.of (fun _ ht => XT.iconstV X.here hx rfl v hd hv ht) hr
theorem o_bipush (X : Stand p l e R s m args below meth c T locs cells slots) (hx : p.tables.exec = Jvm.exec) (n : Nat) {i : Int} (v : Int32) (hd : decode c.code pc = .ok (.bipush i, 2)) (hv : (Int8.ofInt i).toInt32 = v) (hp : pc + 2 = n) (hr : Wout p e below P T (mkF m n Ls (.int v :: rest))) : Wout p e below P T (mkF m pc Ls (rest)) := by
  subst hp
  exact Wout.of (fun _ ht => XT.bipushV X.here hx rfl v hd hv ht) hr
theorem o_sipush (X : Stand p l e R s m args below meth c T locs cells slots) (hx : p.tables.exec = Jvm.exec) (n : Nat) {i : Int} (v : Int32) (hd : decode c.code pc = .ok (.sipush i, 3)) (hv : (Int16.ofInt i).toInt32 = v) (hp : pc + 3 = n) (hr : Wout p e below P T (mkF m n Ls (.int v :: rest))) : Wout p e below P T (mkF m pc Ls (rest)) := by
  subst hp
  exact Wout.of (fun _ ht => XT.sipushV X.here hx rfl v hd hv ht) hr
theorem o_lconst (X : Stand p l e R s m args below meth c T locs cells slots) (hx : p.tables.exec = Jvm.exec) (n : Nat) {k : Fin 2} (v : Int64) (hd : decode c.code pc = .ok (.lconst k, 1)) (hv : Int64.ofNat k = v) (hp : pc + 1 = n) (hr : Wout p e below P T (mkF m n Ls (.long v :: rest))) : Wout p e below P T (mkF m pc Ls (rest)) := by
  subst hp
  exact Wout.of (fun _ ht => XT.lconstV X.here hx rfl v hd hv ht) hr
theorem o_aconst_null (X : Stand p l e R s m args below meth c T locs cells slots) (hx : p.tables.exec = Jvm.exec) (n : Nat)  (hd : decode c.code pc = .ok (.aconst_null, 1)) (hp : pc + 1 = n) (hr : Wout p e below P T (mkF m n Ls (.null :: rest))) : Wout p e below P T (mkF m pc Ls (rest)) := by
  subst hp
  exact Wout.of (fun _ ht => XS.aconstNull X.here hx rfl hd ht) hr
theorem o_iadd (X : Stand p l e R s m args below meth c T locs cells slots) (hx : p.tables.exec = Jvm.exec) (n : Nat) {x y : Int32} (hd : decode c.code pc = .ok (.iadd, 1)) (hp : pc + 1 = n) (hr : Wout p e below P T (mkF m n Ls (.int (x + y) :: rest))) : Wout p e below P T (mkF m pc Ls (.int y :: .int x :: rest)) := by
  subst hp
  exact Wout.of (fun _ ht => XS.iadd X.here hx rfl hd rfl ht) hr
theorem o_isub (X : Stand p l e R s m args below meth c T locs cells slots) (hx : p.tables.exec = Jvm.exec) (n : Nat) {x y : Int32} (hd : decode c.code pc = .ok (.isub, 1)) (hp : pc + 1 = n) (hr : Wout p e below P T (mkF m n Ls (.int (x - y) :: rest))) : Wout p e below P T (mkF m pc Ls (.int y :: .int x :: rest)) := by
  subst hp
  exact Wout.of (fun _ ht => XS.isub X.here hx rfl hd rfl ht) hr
theorem o_imul (X : Stand p l e R s m args below meth c T locs cells slots) (hx : p.tables.exec = Jvm.exec) (n : Nat) {x y : Int32} (hd : decode c.code pc = .ok (.imul, 1)) (hp : pc + 1 = n) (hr : Wout p e below P T (mkF m n Ls (.int (x * y) :: rest))) : Wout p e below P T (mkF m pc Ls (.int y :: .int x :: rest)) := by
  subst hp
  exact Wout.of (fun _ ht => XS.imul X.here hx rfl hd rfl ht) hr
theorem o_iand (X : Stand p l e R s m args below meth c T locs cells slots) (hx : p.tables.exec = Jvm.exec) (n : Nat) {x y : Int32} (hd : decode c.code pc = .ok (.iand, 1)) (hp : pc + 1 = n) (hr : Wout p e below P T (mkF m n Ls (.int (x &&& y) :: rest))) : Wout p e below P T (mkF m pc Ls (.int y :: .int x :: rest)) := by
  subst hp
  exact Wout.of (fun _ ht => XS.iand X.here hx rfl hd rfl ht) hr
theorem o_ior (X : Stand p l e R s m args below meth c T locs cells slots) (hx : p.tables.exec = Jvm.exec) (n : Nat) {x y : Int32} (hd : decode c.code pc = .ok (.ior, 1)) (hp : pc + 1 = n) (hr : Wout p e below P T (mkF m n Ls (.int (x ||| y) :: rest))) : Wout p e below P T (mkF m pc Ls (.int y :: .int x :: rest)) := by
  subst hp
  exact Wout.of (fun _ ht => XT.ior X.here hx rfl hd rfl ht) hr
theorem o_ixor (X : Stand p l e R s m args below meth c T locs cells slots) (hx : p.tables.exec = Jvm.exec) (n : Nat) {x y : Int32} (hd : decode c.code pc = .ok (.ixor, 1)) (hp : pc + 1 = n) (hr : Wout p e below P T (mkF m n Ls (.int (x ^^^ y) :: rest))) : Wout p e below P T (mkF m pc Ls (.int y :: .int x :: rest)) := by
  subst hp
  exact Wout.of (fun _ ht => XT.ixor X.here hx rfl hd rfl ht) hr
theorem o_ishl (X : Stand p l e R s m args below meth c T locs cells slots) (hx : p.tables.exec = Jvm.exec) (n : Nat) {x y : Int32} (hd : decode c.code pc = .ok (.ishl, 1)) (hp : pc + 1 = n) (hr : Wout p e below P T (mkF m n Ls (.int (x <<< (y &&& 31)) :: rest))) : Wout p e below P T (mkF m pc Ls (.int y :: .int x :: rest)) := by
  subst hp
  exact Wout.of (fun _ ht => XT.ishl X.here hx rfl hd rfl ht) hr
theorem o_ishr (X : Stand p l e R s m args below meth c T locs cells slots) (hx : p.tables.exec = Jvm.exec) (n : Nat) {x y : Int32} (hd : decode c.code pc = .ok (.ishr, 1)) (hp : pc + 1 = n) (hr : Wout p e below P T (mkF m n Ls (.int (x >>> (y &&& 31)) :: rest))) : Wout p e below P T (mkF m pc Ls (.int y :: .int x :: rest)) := by
  subst hp
  exact Wout.of (fun _ ht => XT.ishr X.here hx rfl hd rfl ht) hr
theorem o_iushr (X : Stand p l e R s m args below meth c T locs cells slots) (hx : p.tables.exec = Jvm.exec) (n : Nat) {x y : Int32} (hd : decode c.code pc = .ok (.iushr, 1)) (hp : pc + 1 = n) (hr : Wout p e below P T (mkF m n Ls (.int (XT.ushr x y) :: rest))) : Wout p e below P T (mkF m pc Ls (.int y :: .int x :: rest)) := by
  subst hp
  exact Wout.of (fun _ ht => XT.iushr X.here hx rfl hd rfl ht) hr
theorem o_ladd (X : Stand p l e R s m args below meth c T locs cells slots) (hx : p.tables.exec = Jvm.exec) (n : Nat) {x y : Int64} (hd : decode c.code pc = .ok (.ladd, 1)) (hp : pc + 1 = n) (hr : Wout p e below P T (mkF m n Ls (.long (x + y) :: rest))) : Wout p e below P T (mkF m pc Ls (.long y :: .long x :: rest)) := by
  subst hp
  exact Wout.of (fun _ ht => XT.ladd X.here hx rfl hd rfl ht) hr
theorem o_lsub (X : Stand p l e R s m args below meth c T locs cells slots) (hx : p.tables.exec = Jvm.exec) (n : Nat) {x y : Int64} (hd : decode c.code pc = .ok (.lsub, 1)) (hp : pc + 1 = n) (hr : Wout p e below P T (mkF m n Ls (.long (x - y) :: rest))) : Wout p e below P T (mkF m pc Ls (.long y :: .long x :: rest)) := by
  subst hp
  exact Wout.of (fun _ ht => XT.lsub X.here hx rfl hd rfl ht) hr
theorem o_lmul (X : Stand p l e R s m args below meth c T locs cells slots) (hx : p.tables.exec = Jvm.exec) (n : Nat) {x y : Int64} (hd : decode c.code pc = .ok (.lmul, 1)) (hp : pc + 1 = n) (hr : Wout p e below P T (mkF m n Ls (.long (x * y) :: rest))) : Wout p e below P T (mkF m pc Ls (.long y :: .long x :: rest)) := by
  subst hp
  exact Wout.of (fun _ ht => XT.lmul X.here hx rfl hd rfl ht) hr
theorem o_land (X : Stand p l e R s m args below meth c T locs cells slots) (hx : p.tables.exec = Jvm.exec) (n : Nat) {x y : Int64} (hd : decode c.code pc = .ok (.land, 1)) (hp : pc + 1 = n) (hr : Wout p e below P T (mkF m n Ls (.long (x &&& y) :: rest))) : Wout p e below P T (mkF m pc Ls (.long y :: .long x :: rest)) := by
  subst hp
  exact Wout.of (fun _ ht => XT.land X.here hx rfl hd rfl ht) hr
theorem o_lor (X : Stand p l e R s m args below meth c T locs cells slots) (hx : p.tables.exec = Jvm.exec) (n : Nat) {x y : Int64} (hd : decode c.code pc = .ok (.lor, 1)) (hp : pc + 1 = n) (hr : Wout p e below P T (mkF m n Ls (.long (x ||| y) :: rest))) : Wout p e below P T (mkF m pc Ls (.long y :: .long x :: rest)) := by
  subst hp
  exact Wout.of (fun _ ht => XT.lor X.here hx rfl hd rfl ht) hr
theorem o_lxor (X : Stand p l e R s m args below meth c T locs cells slots) (hx : p.tables.exec = Jvm.exec) (n : Nat) {x y : Int64} (hd : decode c.code pc = .ok (.lxor, 1)) (hp : pc + 1 = n) (hr : Wout p e below P T (mkF m n Ls (.long (x ^^^ y) :: rest))) : Wout p e below P T (mkF m pc Ls (.long y :: .long x :: rest)) := by
  subst hp
  exact Wout.of (fun _ ht => XT.lxor X.here hx rfl hd rfl ht) hr
theorem o_irem (X : Stand p l e R s m args below meth c T locs cells slots) (hx : p.tables.exec = Jvm.exec) (n : Nat) {x y : Int32} (hd : decode c.code pc = .ok (.irem, 1)) (hy : y ≠ 0) (hp : pc + 1 = n) (hr : Wout p e below P T (mkF m n Ls (.int (x % y) :: rest))) : Wout p e below P T (mkF m pc Ls (.int y :: .int x :: rest)) := by
  subst hp
  exact Wout.of (fun _ ht => iremM X hx rfl hd rfl hy ht) hr
theorem o_idiv (X : Stand p l e R s m args below meth c T locs cells slots) (hx : p.tables.exec = Jvm.exec) (n : Nat) {x y : Int32} (hd : decode c.code pc = .ok (.idiv, 1)) (hy : y ≠ 0) (hp : pc + 1 = n) (hr : Wout p e below P T (mkF m n Ls (.int (x / y) :: rest))) : Wout p e below P T (mkF m pc Ls (.int y :: .int x :: rest)) := by
  subst hp
  exact Wout.of (fun _ ht => XS.idiv X.here hx rfl hd rfl hy ht) hr
theorem o_lshl (X : Stand p l e R s m args below meth c T locs cells slots) (hx : p.tables.exec = Jvm.exec) (n : Nat) {x : Int64} {y : Int32} (hd : decode c.code pc = .ok (.lshl, 1)) (hp : pc + 1 = n) (hr : Wout p e below P T (mkF m n Ls (.long (x <<< (y.toInt64 &&& 63)) :: rest))) : Wout p e below P T (mkF m pc Ls (.int y :: .long x :: rest)) := by
  subst hp
  exact Wout.of (fun _ ht => XT.lshl X.here hx rfl hd rfl ht) hr
theorem o_lshr (X : Stand p l e R s m args below meth c T locs cells slots) (hx : p.tables.exec = Jvm.exec) (n : Nat) {x : Int64} {y : Int32} (hd : decode c.code pc = .ok (.lshr, 1)) (hp : pc + 1 = n) (hr : Wout p e below P T (mkF m n Ls (.long (x >>> (y.toInt64 &&& 63)) :: rest))) : Wout p e below P T (mkF m pc Ls (.int y :: .long x :: rest)) := by
  subst hp
  exact Wout.of (fun _ ht => XT.lshr X.here hx rfl hd rfl ht) hr
theorem o_lushr (X : Stand p l e R s m args below meth c T locs cells slots) (hx : p.tables.exec = Jvm.exec) (n : Nat) {x : Int64} {y : Int32} (hd : decode c.code pc = .ok (.lushr, 1)) (hp : pc + 1 = n) (hr : Wout p e below P T (mkF m n Ls (.long (XT.ushrL x y) :: rest))) : Wout p e below P T (mkF m pc Ls (.int y :: .long x :: rest)) := by
  subst hp
  exact Wout.of (fun _ ht => XT.lushr X.here hx rfl hd rfl ht) hr
theorem o_ineg (X : Stand p l e R s m args below meth c T locs cells slots) (hx : p.tables.exec = Jvm.exec) (n : Nat) {x : Int32} (hd : decode c.code pc = .ok (.ineg, 1)) (hp : pc + 1 = n) (hr : Wout p e below P T (mkF m n Ls (.int (-x) :: rest))) : Wout p e below P T (mkF m pc Ls (.int x :: rest)) := by
  subst hp
  exact Wout.of (fun _ ht => XS.ineg X.here hx rfl hd rfl ht) hr
theorem o_i2l (X : Stand p l e R s m args below meth c T locs cells slots) (hx : p.tables.exec = Jvm.exec) (n : Nat) {x : Int32} (hd : decode c.code pc = .ok (.i2l, 1)) (hp : pc + 1 = n) (hr : Wout p e below P T (mkF m n Ls (.long (x.toInt64) :: rest))) : Wout p e below P T (mkF m pc Ls (.int x :: rest)) := by
  subst hp
  exact Wout.of (fun _ ht => XT.i2l X.here hx rfl hd rfl ht) hr
theorem o_l2i (X : Stand p l e R s m args below meth c T locs cells slots) (hx : p.tables.exec = Jvm.exec) (n : Nat) {x : Int64} (hd : decode c.code pc = .ok (.l2i, 1)) (hp : pc + 1 = n) (hr : Wout p e below P T (mkF m n Ls (.int (x.toInt32) :: rest))) : Wout p e below P T (mkF m pc Ls (.long x :: rest)) := by
  subst hp
  exact Wout.of (fun _ ht => XT.l2i X.here hx rfl hd rfl ht) hr
theorem o_i2b (X : Stand p l e R s m args below meth c T locs cells slots) (hx : p.tables.exec = Jvm.exec) (n : Nat) {x : Int32} (hd : decode c.code pc = .ok (.i2b, 1)) (hp : pc + 1 = n) (hr : Wout p e below P T (mkF m n Ls (.int (x.toInt8.toInt32) :: rest))) : Wout p e below P T (mkF m pc Ls (.int x :: rest)) := by
  subst hp
  exact Wout.of (fun _ ht => XT.i2b X.here hx rfl hd rfl ht) hr
theorem o_i2c (X : Stand p l e R s m args below meth c T locs cells slots) (hx : p.tables.exec = Jvm.exec) (n : Nat) {x : Int32} (hd : decode c.code pc = .ok (.i2c, 1)) (hp : pc + 1 = n) (hr : Wout p e below P T (mkF m n Ls (.int (x.toUInt32.toUInt16.toUInt32.toInt32) :: rest))) : Wout p e below P T (mkF m pc Ls (.int x :: rest)) := by
  subst hp
  exact Wout.of (fun _ ht => XT.i2c X.here hx rfl hd rfl ht) hr
theorem o_i2s (X : Stand p l e R s m args below meth c T locs cells slots) (hx : p.tables.exec = Jvm.exec) (n : Nat) {x : Int32} (hd : decode c.code pc = .ok (.i2s, 1)) (hp : pc + 1 = n) (hr : Wout p e below P T (mkF m n Ls (.int (x.toInt16.toInt32) :: rest))) : Wout p e below P T (mkF m pc Ls (.int x :: rest)) := by
  subst hp
  exact Wout.of (fun _ ht => XT.i2s X.here hx rfl hd rfl ht) hr
theorem o_lcmp (X : Stand p l e R s m args below meth c T locs cells slots) (hx : p.tables.exec = Jvm.exec) (n : Nat) {x y : Int64} (hd : decode c.code pc = .ok (.lcmp, 1)) (hp : pc + 1 = n) (hr : Wout p e below P T (mkF m n Ls (.int (XT.cmpL x y) :: rest))) : Wout p e below P T (mkF m pc Ls (.long y :: .long x :: rest)) := by
  subst hp
  exact Wout.of (fun _ ht => XT.lcmp X.here hx rfl hd rfl ht) hr
theorem o_dup (X : Stand p l e R s m args below meth c T locs cells slots) (hx : p.tables.exec = Jvm.exec) (n : Nat) {v : Value} (hd : decode c.code pc = .ok (.dup, 1)) (hc : v.category = 1) (hp : pc + 1 = n) (hr : Wout p e below P T (mkF m n Ls (v :: v :: rest))) : Wout p e below P T (mkF m pc Ls (v :: rest)) := by
  subst hp
  exact Wout.of (fun _ ht => XS.dup X.here hx rfl hd rfl hc ht) hr
theorem o_pop (X : Stand p l e R s m args below meth c T locs cells slots) (hx : p.tables.exec = Jvm.exec) (n : Nat) {v : Value} (hd : decode c.code pc = .ok (.pop, 1)) (hc : v.category = 1) (hp : pc + 1 = n) (hr : Wout p e below P T (mkF m n Ls (rest))) : Wout p e below P T (mkF m pc Ls (v :: rest)) := by
  subst hp
  exact Wout.of (fun _ ht => XT.pop X.here hx rfl hd rfl hc ht) hr
theorem o_dup_x1 (X : Stand p l e R s m args below meth c T locs cells slots) (hx : p.tables.exec = Jvm.exec) (n : Nat) {v w : Value} (hd : decode c.code pc = .ok (.dup_x1, 1)) (hc : v.category = 1) (hc' : w.category = 1) (hp : pc + 1 = n) (hr : Wout p e below P T (mkF m n Ls (v :: w :: v :: rest))) : Wout p e below P T (mkF m pc Ls (v :: w :: rest)) := by
  subst hp
  exact Wout.of (fun _ ht => XT.dupX1 X.here hx rfl hd rfl hc hc' ht) hr
theorem o_dup2 (X : Stand p l e R s m args below meth c T locs cells slots) (hx : p.tables.exec = Jvm.exec) (n : Nat) {v w : Value} (hd : decode c.code pc = .ok (.dup2, 1)) (hc : v.category = 1) (hc' : w.category = 1) (hp : pc + 1 = n) (hr : Wout p e below P T (mkF m n Ls (v :: w :: v :: w :: rest))) : Wout p e below P T (mkF m pc Ls (v :: w :: rest)) := by
  subst hp
  exact Wout.of (fun _ ht => XT.dup2 X.here hx rfl hd rfl hc hc' ht) hr
theorem o_iinc (X : Stand p l e R s m args below meth c T locs cells slots) (hx : p.tables.exec = Jvm.exec) (n : Nat) {k : Nat} {i : Int} {x : Int32} {Ls' : Array Slot} (v : Int32) (hd : decode c.code pc = .ok (.iinc k i, 3)) (hv : Int32.ofInt i = v) (hl : Ls[k]? = some (.val (.int x))) (hl' : storeLocals Ls k (.int (x + v)) = some Ls') (hp : pc + 3 = n) (hr : Wout p e below P T (mkF m n Ls' (rest))) : Wout p e below P T (mkF m pc Ls (rest)) := by
  subst hp
  exact Wout.of (fun _ ht => XT.iincV X.here hx rfl v hd hv hl hl' ht) hr
theorem jmp {pc n : Nat} {o : Int} (hp : (pc : Int) + o = (n : Int)) : 0 ≤ (pc : Int) + o ∧ ((pc : Int) + o).toNat = n := by rw [hp]; exact ⟨Int.natCast_nonneg n, Int.toNat_natCast n⟩
theorem o_goto (X : Stand p l e R s m args below meth c T locs cells slots) (hx : p.tables.exec = Jvm.exec) (n : Nat) {o : Int} (hd : decode c.code pc = .ok (.goto o, 3)) (hp : (pc : Int) + o = (n : Int)) (hr : Wout p e below P T (mkF m n Ls rest)) : Wout p e below P T (mkF m pc Ls rest) :=
  Wout.of (fun _ ht => XS.goto X.here hx rfl (pc0 := pc) rfl hd (jmp hp).1 (jmp hp).2 ht) hr
theorem o_ifT (X : Stand p l e R s m args below meth c T locs cells slots) (hx : p.tables.exec = Jvm.exec) (n : Nat) {cd : ClassFile.Cond} {x : Int32} {o : Int} (hd : decode c.code pc = .ok (.ifCond cd o, 3)) (hp : (pc : Int) + o = (n : Int)) (q : cI cd x) (hr : Wout p e below P T (mkF m n Ls rest)) : Wout p e below P T (mkF m pc Ls (.int x :: rest)) :=
  Wout.of (fun _ ht => XS.ifYes X.here hx rfl (pc0 := pc) rfl hd rfl (cI_t q) (jmp hp).1 (jmp hp).2 ht) hr
theorem o_ifF (X : Stand p l e R s m args below meth c T locs cells slots) (hx : p.tables.exec = Jvm.exec) (n : Nat) {cd : ClassFile.Cond} {x : Int32} {o : Int} (hd : decode c.code pc = .ok (.ifCond cd o, 3)) (hp : pc + 3 = n) (q : cI (cNeg cd) x) (hr : Wout p e below P T (mkF m n Ls rest)) : Wout p e below P T (mkF m pc Ls (.int x :: rest)) := by
  subst hp
  exact Wout.of (fun _ ht => XS.ifNo X.here hx rfl hd rfl (cI_f q) ht) hr
theorem o_if (X : Stand p l e R s m args below meth c T locs cells slots) (hx : p.tables.exec = Jvm.exec) (n1 n2 : Nat) {cd : ClassFile.Cond} {x : Int32} {o : Int} (hd : decode c.code pc = .ok (.ifCond cd o, 3)) (hp1 : (pc : Int) + o = (n1 : Int)) (hp2 : pc + 3 = n2) (h1 : cI cd x → Wout p e below P T (mkF m n1 Ls rest)) (h2 : cI (cNeg cd) x → Wout p e below P T (mkF m n2 Ls rest)) : Wout p e below P T (mkF m pc Ls (.int x :: rest)) :=
  (cI_em cd x).elim (fun q => o_ifT X hx n1 hd hp1 q (h1 q)) (fun q => o_ifF X hx n2 hd hp2 q (h2 q))
theorem o_ifLT (X : Stand p l e R s m args below meth c T locs cells slots) (hx : p.tables.exec = Jvm.exec) (n : Nat) {cd : ClassFile.Cond} {x y : Int64} {o : Int} (hd : decode c.code pc = .ok (.ifCond cd o, 3)) (hp : (pc : Int) + o = (n : Int)) (q : cLL cd x y) (hr : Wout p e below P T (mkF m n Ls rest)) : Wout p e below P T (mkF m pc Ls (.int (XT.cmpL x y) :: rest)) :=
  Wout.of (fun _ ht => XS.ifYes X.here hx rfl (pc0 := pc) rfl hd rfl (cLL_t q) (jmp hp).1 (jmp hp).2 ht) hr
theorem o_ifLF (X : Stand p l e R s m args below meth c T locs cells slots) (hx : p.tables.exec = Jvm.exec) (n : Nat) {cd : ClassFile.Cond} {x y : Int64} {o : Int} (hd : decode c.code pc = .ok (.ifCond cd o, 3)) (hp : pc + 3 = n) (q : cLL (cNeg cd) x y) (hr : Wout p e below P T (mkF m n Ls rest)) : Wout p e below P T (mkF m pc Ls (.int (XT.cmpL x y) :: rest)) := by
  subst hp
  exact Wout.of (fun _ ht => XS.ifNo X.here hx rfl hd rfl (cLL_f q) ht) hr
theorem o_ifL (X : Stand p l e R s m args below meth c T locs cells slots) (hx : p.tables.exec = Jvm.exec) (n1 n2 : Nat) {cd : ClassFile.Cond} {x y : Int64} {o : Int} (hd : decode c.code pc = .ok (.ifCond cd o, 3)) (hp1 : (pc : Int) + o = (n1 : Int)) (hp2 : pc + 3 = n2) (h1 : cLL cd x y → Wout p e below P T (mkF m n1 Ls rest)) (h2 : cLL (cNeg cd) x y → Wout p e below P T (mkF m n2 Ls rest)) : Wout p e below P T (mkF m pc Ls (.int (XT.cmpL x y) :: rest)) :=
  (cLL_em cd x y).elim (fun q => o_ifLT X hx n1 hd hp1 q (h1 q)) (fun q => o_ifLF X hx n2 hd hp2 q (h2 q))
theorem o_icmpT (X : Stand p l e R s m args below meth c T locs cells slots) (hx : p.tables.exec = Jvm.exec) (n : Nat) {cd : ClassFile.Cond} {x y : Int32} {o : Int} (hd : decode c.code pc = .ok (.if_icmp cd o, 3)) (hp : (pc : Int) + o = (n : Int)) (q : cII cd x y) (hr : Wout p e below P T (mkF m n Ls rest)) : Wout p e below P T (mkF m pc Ls (.int y :: .int x :: rest)) :=
  Wout.of (fun _ ht => XS.icmpYes X.here hx rfl (pc0 := pc) rfl hd rfl (cII_t q) (jmp hp).1 (jmp hp).2 ht) hr
theorem o_icmpF (X : Stand p l e R s m args below meth c T locs cells slots) (hx : p.tables.exec = Jvm.exec) (n : Nat) {cd : ClassFile.Cond} {x y : Int32} {o : Int} (hd : decode c.code pc = .ok (.if_icmp cd o, 3)) (hp : pc + 3 = n) (q : cII (cNeg cd) x y) (hr : Wout p e below P T (mkF m n Ls rest)) : Wout p e below P T (mkF m pc Ls (.int y :: .int x :: rest)) := by
  subst hp
  exact Wout.of (fun _ ht => XS.icmpNo X.here hx rfl hd rfl (cII_f q) ht) hr
theorem o_icmp (X : Stand p l e R s m args below meth c T locs cells slots) (hx : p.tables.exec = Jvm.exec) (n1 n2 : Nat) {cd : ClassFile.Cond} {x y : Int32} {o : Int} (hd : decode c.code pc = .ok (.if_icmp cd o, 3)) (hp1 : (pc : Int) + o = (n1 : Int)) (hp2 : pc + 3 = n2) (h1 : cII cd x y → Wout p e below P T (mkF m n1 Ls rest)) (h2 : cII (cNeg cd) x y → Wout p e below P T (mkF m n2 Ls rest)) : Wout p e below P T (mkF m pc Ls (.int y :: .int x :: rest)) :=
  (cII_em cd x y).elim (fun q => o_icmpT X hx n1 hd hp1 q (h1 q)) (fun q => o_icmpF X hx n2 hd hp2 q (h2 q))
theorem o_ifnullT (X : Stand p l e R s m args below meth c T locs cells slots) (hx : p.tables.exec = Jvm.exec) (n : Nat) {o : Int} (hd : decode c.code pc = .ok (.ifnull o, 3)) (hp : (pc : Int) + o = (n : Int)) (hr : Wout p e below P T (mkF m n Ls rest)) : Wout p e below P T (mkF m pc Ls (.null :: rest)) :=
  Wout.of (fun _ ht => XS.ifnullYes X.here hx rfl (pc0 := pc) rfl hd rfl (jmp hp).1 (jmp hp).2 ht) hr
theorem o_ifnullF (X : Stand p l e R s m args below meth c T locs cells slots) (hx : p.tables.exec = Jvm.exec) (n : Nat) {o : Int} {a : Addr} (hd : decode c.code pc = .ok (.ifnull o, 3)) (hp : pc + 3 = n) (hr : Wout p e below P T (mkF m n Ls rest)) : Wout p e below P T (mkF m pc Ls (.ref a :: rest)) := by
  subst hp
  exact Wout.of (fun _ ht => XS.ifnullNo X.here hx rfl hd rfl ht) hr
theorem o_ifnonnullT (X : Stand p l e R s m args below meth c T locs cells slots) (hx : p.tables.exec = Jvm.exec) (n : Nat) {o : Int} {a : Addr} (hd : decode c.code pc = .ok (.ifnonnull o, 3)) (hp : (pc : Int) + o = (n : Int)) (hr : Wout p e below P T (mkF m n Ls rest)) : Wout p e below P T (mkF m pc Ls (.ref a :: rest)) :=
  Wout.of (fun _ ht => XT.ifnonnullYes X.here hx rfl (pc0 := pc) rfl hd rfl (jmp hp).1 (jmp hp).2 ht) hr
theorem o_ifnonnullF (X : Stand p l e R s m args below meth c T locs cells slots) (hx : p.tables.exec = Jvm.exec) (n : Nat) {o : Int} (hd : decode c.code pc = .ok (.ifnonnull o, 3)) (hp : pc + 3 = n) (hr : Wout p e below P T (mkF m n Ls rest)) : Wout p e below P T (mkF m pc Ls (.null :: rest)) := by
  subst hp
  exact Wout.of (fun _ ht => XT.ifnonnullNo X.here hx rfl hd rfl ht) hr
theorem o_acmpT (X : Stand p l e R s m args below meth c T locs cells slots) (hx : p.tables.exec = Jvm.exec) (n : Nat) {cd : ClassFile.ACond} {x y : Value} {o : Int} (hd : decode c.code pc = .ok (.if_acmp cd o, 3)) (h1 : x.isRef = true) (h2 : y.isRef = true) (hp : (pc : Int) + o = (n : Int)) (q : XT.acmp cd x y = true) (hr : Wout p e below P T (mkF m n Ls rest)) : Wout p e below P T (mkF m pc Ls (y :: x :: rest)) :=
  Wout.of (fun _ ht => XT.acmpYes X.here hx rfl (pc0 := pc) rfl hd rfl h1 h2 q (jmp hp).1 (jmp hp).2 ht) hr
theorem o_acmpF (X : Stand p l e R s m args below meth c T locs cells slots) (hx : p.tables.exec = Jvm.exec) (n : Nat) {cd : ClassFile.ACond} {x y : Value} {o : Int} (hd : decode c.code pc = .ok (.if_acmp cd o, 3)) (h1 : x.isRef = true) (h2 : y.isRef = true) (hp : pc + 3 = n) (q : XT.acmp cd x y = false) (hr : Wout p e below P T (mkF m n Ls rest)) : Wout p e below P T (mkF m pc Ls (y :: x :: rest)) := by
  subst hp
  exact Wout.of (fun _ ht => XT.acmpNo X.here hx rfl hd rfl h1 h2 q ht) hr
theorem o_tsw (X : Stand p l e R s m args below meth c T locs cells slots) (hx : p.tables.exec = Jvm.exec) (n : Nat) {dflt low high : Int} {offs : Array Int} {len : Nat} {o : Int} {i : Int32} (hd : decode c.code pc = .ok (.tableswitch dflt low high offs, len)) (hin : ¬ (i.toInt < low ∨ i.toInt > high)) (hoff : offs[(i.toInt - low).toNat]? = some o) (hp : (pc : Int) + o = (n : Int)) (hr : Wout p e below P T (mkF m n Ls rest)) : Wout p e below P T (mkF m pc Ls (.int i :: rest)) :=
  Wout.of (fun _ ht => XS.tswIn X.here hx rfl (pc0 := pc) rfl hd rfl hin hoff (jmp hp).1 (jmp hp).2 ht) hr
/-! constants of the pool, fields, statics -/
theorem o_ldc (X : Stand p l e R s m args below meth c T locs cells slots) (hx : p.tables.exec = Jvm.exec) (hZ : Z.Warmed39 s.vm) (n : Nat) {own : String} {index : Nat} {v : Int32} (hown : s.vm.findClass own = some m.cls) (w : (Jvm.Cond.constant own index v).before a0 Z = true) (hd : decode c.code pc = .ok (.ldc index, 2)) (hp : pc + 2 = n) (hr : Wout p e below P T (mkF m n Ls (.int v :: rest))) : Wout p e below P T (mkF m pc Ls rest) := by
  subst hp
  exact Wout.of (fun _ ht => X.ldcI hx hown (mv hZ w) rfl hd ht) hr
theorem o_ldc2 (X : Stand p l e R s m args below meth c T locs cells slots) (hx : p.tables.exec = Jvm.exec) (hZ : Z.Warmed39 s.vm) (n : Nat) {own : String} {index : Nat} {v : Int64} (hown : s.vm.findClass own = some m.cls) (w : (Jvm.Cond.constantLong own index v).before a0 Z = true) (hd : decode c.code pc = .ok (.ldc2_w index, 3)) (hp : pc + 3 = n) (hr : Wout p e below P T (mkF m n Ls (.long v :: rest))) : Wout p e below P T (mkF m pc Ls rest) := by
  subst hp
  exact Wout.of (fun _ ht => X.ldc2J hx hown (mv hZ w) rfl hd ht) hr
theorem o_getF (X : Stand p l e R s m args below meth c T locs cells slots) (hx : p.tables.exec = Jvm.exec) (hZ : Z.Warmed39 s.vm) {own R0 O nm d host : String} {index : Nat} (hown : s.vm.findClass own = some m.cls) (w : (Jvm.Cond.fieldLink own index R0 nm d).before a0 Z = true ∨ (Jvm.Cond.fieldLinkNest own index R0 nm d host).before a0 Z = true) (via : Via Z R0 O nm d) (eT : T.heap = h) {a : Addr} {v : Value} (F : Fld Z h a O nm d v) (n : Nat) (hd : decode c.code pc = .ok (.getfield index, 3)) (hp : pc + 3 = n)
    (hr : ∀ T', Stand p l e R s m args below meth c T' locs cells slots → T'.heap = h → Wout p e below P T' (mkF m n Ls (v :: rest))) : Wout p e below P T (mkF m pc Ls (.ref a :: rest)) := by
  subst hp
  obtain ⟨T', X', e', st⟩ := getF X hx hZ hown w via eT F (g := mkF m pc Ls (.ref a :: rest)) rfl rfl hd
  exact Wout.of st (hr T' X' e')
theorem o_getS (X : Stand p l e R s m args below meth c T locs cells slots) (hx : p.tables.exec = Jvm.exec) (hZ : Z.Warmed39 s.vm) {own R0 O nm d host : String} {index : Nat} (hown : s.vm.findClass own = some m.cls) (w : (Jvm.Cond.fieldLink own index R0 nm d).before a0 Z = true ∨ (Jvm.Cond.fieldLinkNest own index R0 nm d host).before a0 Z = true) (via : Via Z R0 O nm d) (eT : T.heap = h) {v : Value} (F : Sta Z h O nm d v) (n : Nat) (hd : decode c.code pc = .ok (.getstatic index, 3)) (hp : pc + 3 = n)
    (hr : ∀ T', Stand p l e R s m args below meth c T' locs cells slots → T'.heap = h → Wout p e below P T' (mkF m n Ls (v :: rest))) : Wout p e below P T (mkF m pc Ls rest) := by
  subst hp
  obtain ⟨T', X', e', st⟩ := getS2 X hx hZ hown w via eT F (g := mkF m pc Ls rest) rfl hd
  exact Wout.of st (hr T' X' e')
theorem o_putF (X : Stand p l e R s m args below meth c T locs cells slots) (hx : p.tables.exec = Jvm.exec) (hZ : Z.Warmed39 s.vm) {own R0 O nm d host C : String} {index kk : Nat} (ty : FieldType) (hown : s.vm.findClass own = some m.cls) (w : (Jvm.Cond.fieldLink own index R0 nm d).before a0 Z = true ∨ (Jvm.Cond.fieldLinkNest own index R0 nm d host).before a0 Z = true) (via : Via Z R0 O nm d) (eT : T.heap = h) {a : Addr} {v old : Value} (F : Fld Z h a O nm d old) (E : Exa Z h a C)
    (L : (Jvm.Cond.lays C O nm d).before a0 Z = true ∨ ((Jvm.Cond.laysFinal C O nm d).before a0 Z = true ∧ own = O ∧ meth.name = "<init>")) (wi : (Jvm.Cond.instantiable C kk).before a0 Z = true) (hty : parseFieldDescriptor d = some ty) (hn : Jvm.narrow ty v = v) (hf : fits ty v = true) {n0 : Nat} (N : Fr n0 locs) (g : n0 ≤ a) (n : Nat) (hd : decode c.code pc = .ok (.putfield index, 3)) (hp : pc + 3 = n)
    (hr : ∀ T' h' locs', Stand p l e R s m args below meth c T' locs' cells slots → T'.heap = h' → Wr h h' a (RoadKit.slotOf Z O nm d) v → Fr n0 locs' → Wout p e below P T' (mkF m n Ls rest)) : Wout p e below P T (mkF m pc Ls (v :: .ref a :: rest)) := by
  subst hp
  obtain ⟨T', h', X', e', W, st⟩ := putF X hx hZ hown w via eT F E L wi hty hn hf (g := mkF m pc Ls (v :: .ref a :: rest)) rfl rfl hd
  exact Wout.of st (hr T' h' _ X' e' W (Fr.snoc X' N g))
theorem o_putFN (X : Stand p l e R s m args below meth c T locs cells slots) (hx : p.tables.exec = Jvm.exec) (hZ : Z.Warmed39 s.vm) {own R0 O nm d C : String} {index kk : Nat} (ty : FieldType) (hown : s.vm.findClass own = some m.cls) (w : (Jvm.Cond.fieldLink own index R0 nm d).before a0 Z = true) (via : Via Z R0 O nm d) (eT : T.heap = h) {a : Addr} {v v' old : Value} (F : Fld Z h a O nm d old) (E : Exa Z h a C)
    (L : (Jvm.Cond.lays C O nm d).before a0 Z = true ∨ ((Jvm.Cond.laysFinal C O nm d).before a0 Z = true ∧ own = O ∧ meth.name = "<init>")) (wi : (Jvm.Cond.instantiable C kk).before a0 Z = true) (hty : parseFieldDescriptor d = some ty) (hn : Jvm.narrow ty v = v') (hf : fits ty v' = true) {n0 : Nat} (N : Fr n0 locs) (g : n0 ≤ a) (n : Nat) (hd : decode c.code pc = .ok (.putfield index, 3)) (hp : pc + 3 = n)
    (hr : ∀ T' h' locs', Stand p l e R s m args below meth c T' locs' cells slots → T'.heap = h' → Wr h h' a (RoadKit.slotOf Z O nm d) v' → Fr n0 locs' → Wout p e below P T' (mkF m n Ls rest)) : Wout p e below P T (mkF m pc Ls (v :: .ref a :: rest)) := by
  subst hp
  obtain ⟨T', h', X', e', W, st⟩ := putFN X hx hZ hown w via eT F E L wi hty hn hf (g := mkF m pc Ls (v :: .ref a :: rest)) rfl rfl hd
  exact Wout.of st (hr T' h' _ X' e' W (Fr.snoc X' N g))
/-! objects and arrays that are made -/
theorem o_new (X : Stand p l e R s m args below meth c T locs cells slots) (hx : p.tables.exec = Jvm.exec) (hZ : Z.Warmed39 s.vm) {own C : String} {index k : Nat} (hown : s.vm.findClass own = some m.cls) (w : (Jvm.Cond.classLink own index C).before a0 Z = true) (wi : (Jvm.Cond.instantiable C k).before a0 Z = true) (wz : (Jvm.Cond.initialized C).before a0 Z = true) (eT : T.heap = h) (n : Nat) (hd : decode c.code pc = .ok (.new index, 3)) (hp : pc + 3 = n) (hc : cells + 1 ≤ R.cells) (hl : slots + k ≤ R.slots)
    (hr : ∀ T' h' (b : Addr), b = h.size → Stand p l e R s m args below meth c T' locs (cells + 1) (slots + k) → T'.heap = h' → Ext h h' → Exa Z h' b C → (∀ {O nm d : String} {ty : FieldType}, Laid Z a0 C O nm d → parseFieldDescriptor d = some ty → Fld Z h' b O nm d (defaultValue ty)) → Wout p e below P T' (mkF m n Ls (.ref b :: rest))) : Wout p e below P T (mkF m pc Ls rest) := by
  subst hp
  obtain ⟨T', h', X', e', E, A, D, -, st⟩ := newO X hx hZ hown w wi wz eT (g := mkF m pc Ls rest) rfl hd hc hl
  exact Wout.of st (hr T' h' _ rfl X' e' E A D)
theorem o_newarray (X : Stand p l e R s m args below meth c T locs cells slots) (hx : p.tables.exec = Jvm.exec) (hZ : Z.Warmed39 s.vm) {aty : ArrayType} (w : (Jvm.Cond.arrayClass (newarray.typeOf aty)).before a0 Z = true) (eT : T.heap = h) (n : Nat) (hd : decode c.code pc = .ok (.newarray aty, 2)) (hp : pc + 2 = n) {z : Int32} (hz : ¬ z < 0) (cap : Nat) (hcap : z.toNatClampNeg ≤ cap) (hbb : cap * 8 ≤ 536870912) (hc : cells + 1 ≤ R.cells) (hl : slots + cap ≤ R.slots)
    (hr : ∀ T' h' (b : Addr) (k : ClassId), b = h.size → Stand p l e R s m args below meth c T' locs (cells + 1) (slots + cap) → T'.heap = h' → Ext h h' → Arv Z h' b k (newarray.typeOf aty) z [] (defaultValue (newarray.typeOf aty)) → Wout p e below P T' (mkF m n Ls (.ref b :: rest))) : Wout p e below P T (mkF m pc Ls (.int z :: rest)) := by
  subst hp
  obtain ⟨T', h', cA, X', e', E, A, st⟩ := newP X hx hZ w eT (g := mkF m pc Ls (.int z :: rest)) rfl hd rfl hz hcap hbb hc hl
  exact Wout.of st (hr T' h' _ cA rfl X' e' E (Arv.new A hz))
theorem o_anewarray (X : Stand p l e R s m args below meth c T locs cells slots) (hx : p.tables.exec = Jvm.exec) (hZ : Z.Warmed39 s.vm) {own C : String} {index : Nat} (hown : s.vm.findClass own = some m.cls) (w1 : (Jvm.Cond.classLink own index C).before a0 Z = true) (w2 : (Jvm.Cond.arrayOver (.object C)).before a0 Z = true) (eT : T.heap = h) (n : Nat) (hd : decode c.code pc = .ok (.anewarray index, 3)) (hp : pc + 3 = n) {z : Int32} (hz : ¬ z < 0) (cap : Nat) (hcap : z.toNatClampNeg ≤ cap) (hbb : cap * 8 ≤ 536870912) (hc : cells + 1 ≤ R.cells) (hl : slots + cap ≤ R.slots)
    (hr : ∀ T' h' (b : Addr) (k : ClassId), b = h.size → Stand p l e R s m args below meth c T' locs (cells + 1) (slots + cap) → T'.heap = h' → Ext h h' → Arv Z h' b k (.object C) z [] .null → Ovr Z k C → Wout p e below P T' (mkF m n Ls (.ref b :: rest))) : Wout p e below P T (mkF m pc Ls (.int z :: rest)) := by
  subst hp
  obtain ⟨T', h', cA, X', e', E, A, O, st⟩ := newR X hx hZ hown w1 w2 eT (g := mkF m pc Ls (.int z :: rest)) rfl hd rfl hz hcap hbb hc hl
  exact Wout.of st (hr T' h' _ cA rfl X' e' E (Arv.new A hz) O)
theorem o_arraylength (X : Stand p l e R s m args below meth c T locs cells slots) (hx : p.tables.exec = Jvm.exec) (hZ : Z.Warmed39 s.vm) (eT : T.heap = h) {a : Addr} {k : ClassId} {ty : FieldType} {z : Int32} {vs : List Value} {dv : Value} (V : Arv Z h a k ty z vs dv) (n : Nat) (hd : decode c.code pc = .ok (.arraylength, 1)) (hp : pc + 1 = n) (hr : Wout p e below P T (mkF m n Ls (.int z :: rest))) : Wout p e below P T (mkF m pc Ls (.ref a :: rest)) := by
  subst hp
  obtain ⟨cl, A, -, S, M, -, -⟩ := V
  rw [← len_of S M] at hr
  exact Wout.of (fun _ ht => X.arraylength hx (cell := cl) (by rw [eT]; exact A.1) (State.isArrayOf_alike hZ.alike A.2.1) (g := mkF m pc Ls (.ref a :: rest)) rfl rfl hd _ ht) hr

theorem o_iaload (X : Stand p l e R s m args below meth c T locs cells slots) (hx : p.tables.exec = Jvm.exec) (hZ : Z.Warmed39 s.vm) (eT : T.heap = h) {a : Addr} {k : ClassId} {z : Int32} {vs : List Value} {dv : Value} (V : Arv Z h a k .int z vs dv) {j : Int32} (hj : ¬ j < 0 ∧ j < z) {v : Value} (hv : vs.getD j.toNatClampNeg dv = v) (n : Nat) (hd : decode c.code pc = .ok (.iaload, 1)) (hp : pc + 1 = n) (hr : Wout p e below P T (mkF m n Ls (v :: rest))) : Wout p e below P T (mkF m pc Ls (.int j :: .ref a :: rest)) := by
  subst hp
  obtain ⟨cl, A, -, S, M, H, -⟩ := V
  exact Wout.of (fun _ ht => X.iaload hx (j := j) (v := v) (by rw [eT]; exact A.1) (State.isArrayOf_alike hZ.alike A.2.1) A.2.2 (inb_of S hj) (H.at (inb_of S hj) hv) (g := mkF m pc Ls (.int j :: .ref a :: rest)) rfl rfl hd _ ht) hr
theorem o_laload (X : Stand p l e R s m args below meth c T locs cells slots) (hx : p.tables.exec = Jvm.exec) (hZ : Z.Warmed39 s.vm) (eT : T.heap = h) {a : Addr} {k : ClassId} {z : Int32} {vs : List Value} {dv : Value} (V : Arv Z h a k .long z vs dv) {j : Int32} (hj : ¬ j < 0 ∧ j < z) {v : Value} (hv : vs.getD j.toNatClampNeg dv = v) (n : Nat) (hd : decode c.code pc = .ok (.laload, 1)) (hp : pc + 1 = n) (hr : Wout p e below P T (mkF m n Ls (v :: rest))) : Wout p e below P T (mkF m pc Ls (.int j :: .ref a :: rest)) := by
  subst hp
  obtain ⟨cl, A, -, S, M, H, -⟩ := V
  exact Wout.of (fun _ ht => X.laload hx (j := j) (v := v) (by rw [eT]; exact A.1) (State.isArrayOf_alike hZ.alike A.2.1) A.2.2 (inb_of S hj) (H.at (inb_of S hj) hv) (g := mkF m pc Ls (.int j :: .ref a :: rest)) rfl rfl hd _ ht) hr
theorem o_caload (X : Stand p l e R s m args below meth c T locs cells slots) (hx : p.tables.exec = Jvm.exec) (hZ : Z.Warmed39 s.vm) (eT : T.heap = h) {a : Addr} {k : ClassId} {z : Int32} {vs : List Value} {dv : Value} (V : Arv Z h a k .char z vs dv) {j : Int32} (hj : ¬ j < 0 ∧ j < z) {v : Value} (hv : vs.getD j.toNatClampNeg dv = v) (n : Nat) (hd : decode c.code pc = .ok (.caload, 1)) (hp : pc + 1 = n) (hr : Wout p e below P T (mkF m n Ls (v :: rest))) : Wout p e below P T (mkF m pc Ls (.int j :: .ref a :: rest)) := by
  subst hp
  obtain ⟨cl, A, -, S, M, H, -⟩ := V
  exact Wout.of (fun _ ht => X.caload hx (j := j) (v := v) (by rw [eT]; exact A.1) (State.isArrayOf_alike hZ.alike A.2.1) A.2.2 (inb_of S hj) (H.at (inb_of S hj) hv) (g := mkF m pc Ls (.int j :: .ref a :: rest)) rfl rfl hd _ ht) hr
theorem o_saload (X : Stand p l e R s m args below meth c T locs cells slots) (hx : p.tables.exec = Jvm.exec) (hZ : Z.Warmed39 s.vm) (eT : T.heap = h) {a : Addr} {k : ClassId} {z : Int32} {vs : List Value} {dv : Value} (V : Arv Z h a k .short z vs dv) {j : Int32} (hj : ¬ j < 0 ∧ j < z) {v : Value} (hv : vs.getD j.toNatClampNeg dv = v) (n : Nat) (hd : decode c.code pc = .ok (.saload, 1)) (hp : pc + 1 = n) (hr : Wout p e below P T (mkF m n Ls (v :: rest))) : Wout p e below P T (mkF m pc Ls (.int j :: .ref a :: rest)) := by
  subst hp
  obtain ⟨cl, A, -, S, M, H, -⟩ := V
  exact Wout.of (fun _ ht => X.saload hx (j := j) (v := v) (by rw [eT]; exact A.1) (State.isArrayOf_alike hZ.alike A.2.1) A.2.2 (inb_of S hj) (H.at (inb_of S hj) hv) (g := mkF m pc Ls (.int j :: .ref a :: rest)) rfl rfl hd _ ht) hr
theorem o_baload (X : Stand p l e R s m args below meth c T locs cells slots) (hx : p.tables.exec = Jvm.exec) (hZ : Z.Warmed39 s.vm) (eT : T.heap = h) {a : Addr} {k : ClassId} {z : Int32} {vs : List Value} {dv : Value} (V : Arv Z h a k .byte z vs dv) {j : Int32} (hj : ¬ j < 0 ∧ j < z) {v : Value} (hv : vs.getD j.toNatClampNeg dv = v) (n : Nat) (hd : decode c.code pc = .ok (.baload, 1)) (hp : pc + 1 = n) (hr : Wout p e below P T (mkF m n Ls (v :: rest))) : Wout p e below P T (mkF m pc Ls (.int j :: .ref a :: rest)) := by
  subst hp
  obtain ⟨cl, A, -, S, M, H, -⟩ := V
  exact Wout.of (fun _ ht => X.baloadBytes hx (j := j) (v := v) (by rw [eT]; exact A.1) (State.isArrayOf_alike hZ.alike A.2.1) A.2.2 (inb_of S hj) (H.at (inb_of S hj) hv) (g := mkF m pc Ls (.int j :: .ref a :: rest)) rfl rfl hd _ ht) hr
theorem o_baloadZ (X : Stand p l e R s m args below meth c T locs cells slots) (hx : p.tables.exec = Jvm.exec) (hZ : Z.Warmed39 s.vm) (eT : T.heap = h) {a : Addr} {k : ClassId} {z : Int32} {vs : List Value} {dv : Value} (V : Arv Z h a k .boolean z vs dv) {j : Int32} (hj : ¬ j < 0 ∧ j < z) {v : Value} (hv : vs.getD j.toNatClampNeg dv = v) (n : Nat) (hd : decode c.code pc = .ok (.baload, 1)) (hp : pc + 1 = n) (hr : Wout p e below P T (mkF m n Ls (v :: rest))) : Wout p e below P T (mkF m pc Ls (.int j :: .ref a :: rest)) := by
  subst hp
  obtain ⟨cl, A, -, S, M, H, -⟩ := V
  exact Wout.of (fun _ ht => X.baloadBooleans hx (j := j) (v := v) (by rw [eT]; exact A.1) (State.isArrayOf_alike hZ.alike A.2.1) A.2.2 (inb_of S hj) (H.at (inb_of S hj) hv) (g := mkF m pc Ls (.int j :: .ref a :: rest)) rfl rfl hd _ ht) hr
theorem o_aaload (X : Stand p l e R s m args below meth c T locs cells slots) (hx : p.tables.exec = Jvm.exec) (hZ : Z.Warmed39 s.vm) (eT : T.heap = h) {a : Addr} {k : ClassId} {ty : FieldType} {z : Int32} {vs : List Value} {dv : Value} (V : Arv Z h a k ty z vs dv) (hty : ty.isReference = true) {j : Int32} (hj : ¬ j < 0 ∧ j < z) {v : Value} (hv : vs.getD j.toNatClampNeg dv = v) (n : Nat) (hd : decode c.code pc = .ok (.aaload, 1)) (hp : pc + 1 = n) (hr : Wout p e below P T (mkF m n Ls (v :: rest))) : Wout p e below P T (mkF m pc Ls (.int j :: .ref a :: rest)) := by
  subst hp
  obtain ⟨cl, A, -, S, M, H, -⟩ := V
  exact Wout.of (fun _ ht => X.aaload hx (j := j) (v := v) (by rw [eT]; exact A.1) (State.isArrayOf_alike hZ.alike A.2.1) hty A.2.2 (inb_of S hj) (H.at (inb_of S hj) hv) (g := mkF m pc Ls (.int j :: .ref a :: rest)) rfl rfl hd _ ht) hr
theorem o_iastore (X : Stand p l e R s m args below meth c T locs cells slots) (hx : p.tables.exec = Jvm.exec) (hZ : Z.Warmed39 s.vm) (eT : T.heap = h) {a : Addr} {k : ClassId} {z : Int32} {vs : List Value} {dv : Value} (V : Arv Z h a k .int z vs dv) {j : Int32} {x : Int32} (hj : ¬ j < 0 ∧ j < z) (i : Nat) (hi : j.toNatClampNeg = i) (hil : i < vs.length) {vs' : List Value} (hvs : vs.set i (.int x) = vs') {n0 : Nat} (N : Fr n0 locs) (g : n0 ≤ a) (n : Nat) (hd : decode c.code pc = .ok (.iastore, 1)) (hp : pc + 1 = n)
    (hr : ∀ T' h' locs', Stand p l e R s m args below meth c T' locs' cells slots → T'.heap = h' → Wr h h' a i (.int x) → Arv Z h' a k .int z vs' dv → Fr n0 locs' → Wout p e below P T' (mkF m n Ls rest)) : Wout p e below P T (mkF m pc Ls (.int x :: .int j :: .ref a :: rest)) := by
  subst hp hvs
  obtain ⟨cl, A, q1, S, M, H, G⟩ := V
  obtain ⟨T', h', X', e', W, st⟩ := stI X hx hZ eT A (j := j) (x := x) (inb_of S hj) (g := mkF m pc Ls (.int x :: .int j :: .ref a :: rest)) rfl rfl hd
  exact Wout.of st (hr T' h' _ X' e' (hi ▸ W) (Arv.set A q1 S M H G (rfl) W i hi hil) (Fr.snoc X' N g))
theorem o_lastore (X : Stand p l e R s m args below meth c T locs cells slots) (hx : p.tables.exec = Jvm.exec) (hZ : Z.Warmed39 s.vm) (eT : T.heap = h) {a : Addr} {k : ClassId} {z : Int32} {vs : List Value} {dv : Value} (V : Arv Z h a k .long z vs dv) {j : Int32} {x : Int64} (hj : ¬ j < 0 ∧ j < z) (i : Nat) (hi : j.toNatClampNeg = i) (hil : i < vs.length) {vs' : List Value} (hvs : vs.set i (.long x) = vs') {n0 : Nat} (N : Fr n0 locs) (g : n0 ≤ a) (n : Nat) (hd : decode c.code pc = .ok (.lastore, 1)) (hp : pc + 1 = n)
    (hr : ∀ T' h' locs', Stand p l e R s m args below meth c T' locs' cells slots → T'.heap = h' → Wr h h' a i (.long x) → Arv Z h' a k .long z vs' dv → Fr n0 locs' → Wout p e below P T' (mkF m n Ls rest)) : Wout p e below P T (mkF m pc Ls (.long x :: .int j :: .ref a :: rest)) := by
  subst hp hvs
  obtain ⟨cl, A, q1, S, M, H, G⟩ := V
  obtain ⟨T', h', X', e', W, st⟩ := stJ X hx hZ eT A (j := j) (x := x) (inb_of S hj) (g := mkF m pc Ls (.long x :: .int j :: .ref a :: rest)) rfl rfl hd
  exact Wout.of st (hr T' h' _ X' e' (hi ▸ W) (Arv.set A q1 S M H G (rfl) W i hi hil) (Fr.snoc X' N g))
theorem o_castore (X : Stand p l e R s m args below meth c T locs cells slots) (hx : p.tables.exec = Jvm.exec) (hZ : Z.Warmed39 s.vm) (eT : T.heap = h) {a : Addr} {k : ClassId} {z : Int32} {vs : List Value} {dv : Value} (V : Arv Z h a k .char z vs dv) {j : Int32} {x : Int32} (hj : ¬ j < 0 ∧ j < z) (i : Nat) (hi : j.toNatClampNeg = i) (hil : i < vs.length) {vs' : List Value} (hvs : vs.set i (.int (nar .char x)) = vs') {n0 : Nat} (N : Fr n0 locs) (g : n0 ≤ a) (n : Nat) (hd : decode c.code pc = .ok (.castore, 1)) (hp : pc + 1 = n)
    (hr : ∀ T' h' locs', Stand p l e R s m args below meth c T' locs' cells slots → T'.heap = h' → Wr h h' a i (.int (nar .char x)) → Arv Z h' a k .char z vs' dv → Fr n0 locs' → Wout p e below P T' (mkF m n Ls rest)) : Wout p e below P T (mkF m pc Ls (.int x :: .int j :: .ref a :: rest)) := by
  subst hp hvs
  obtain ⟨cl, A, q1, S, M, H, G⟩ := V
  obtain ⟨T', h', X', e', W, st⟩ := stC X hx hZ eT A (j := j) (x := x) (inb_of S hj) (g := mkF m pc Ls (.int x :: .int j :: .ref a :: rest)) rfl rfl hd
  exact Wout.of st (hr T' h' _ X' e' (hi ▸ W) (Arv.set A q1 S M H G (fits_nar_char x) W i hi hil) (Fr.snoc X' N g))
theorem o_sastore (X : Stand p l e R s m args below meth c T locs cells slots) (hx : p.tables.exec = Jvm.exec) (hZ : Z.Warmed39 s.vm) (eT : T.heap = h) {a : Addr} {k : ClassId} {z : Int32} {vs : List Value} {dv : Value} (V : Arv Z h a k .short z vs dv) {j : Int32} {x : Int32} (hj : ¬ j < 0 ∧ j < z) (i : Nat) (hi : j.toNatClampNeg = i) (hil : i < vs.length) {vs' : List Value} (hvs : vs.set i (.int (nar .short x)) = vs') {n0 : Nat} (N : Fr n0 locs) (g : n0 ≤ a) (n : Nat) (hd : decode c.code pc = .ok (.sastore, 1)) (hp : pc + 1 = n)
    (hr : ∀ T' h' locs', Stand p l e R s m args below meth c T' locs' cells slots → T'.heap = h' → Wr h h' a i (.int (nar .short x)) → Arv Z h' a k .short z vs' dv → Fr n0 locs' → Wout p e below P T' (mkF m n Ls rest)) : Wout p e below P T (mkF m pc Ls (.int x :: .int j :: .ref a :: rest)) := by
  subst hp hvs
  obtain ⟨cl, A, q1, S, M, H, G⟩ := V
  obtain ⟨T', h', X', e', W, st⟩ := stS X hx hZ eT A (j := j) (x := x) (inb_of S hj) (g := mkF m pc Ls (.int x :: .int j :: .ref a :: rest)) rfl rfl hd
  exact Wout.of st (hr T' h' _ X' e' (hi ▸ W) (Arv.set A q1 S M H G (fits_nar_short x) W i hi hil) (Fr.snoc X' N g))
theorem o_bastore (X : Stand p l e R s m args below meth c T locs cells slots) (hx : p.tables.exec = Jvm.exec) (hZ : Z.Warmed39 s.vm) (eT : T.heap = h) {a : Addr} {k : ClassId} {z : Int32} {vs : List Value} {dv : Value} (V : Arv Z h a k .byte z vs dv) {j : Int32} {x : Int32} (hj : ¬ j < 0 ∧ j < z) (i : Nat) (hi : j.toNatClampNeg = i) (hil : i < vs.length) {vs' : List Value} (hvs : vs.set i (.int (nar .byte x)) = vs') {n0 : Nat} (N : Fr n0 locs) (g : n0 ≤ a) (n : Nat) (hd : decode c.code pc = .ok (.bastore, 1)) (hp : pc + 1 = n)
    (hr : ∀ T' h' locs', Stand p l e R s m args below meth c T' locs' cells slots → T'.heap = h' → Wr h h' a i (.int (nar .byte x)) → Arv Z h' a k .byte z vs' dv → Fr n0 locs' → Wout p e below P T' (mkF m n Ls rest)) : Wout p e below P T (mkF m pc Ls (.int x :: .int j :: .ref a :: rest)) := by
  subst hp hvs
  obtain ⟨cl, A, q1, S, M, H, G⟩ := V
  obtain ⟨T', h', X', e', W, st⟩ := stB X hx hZ eT A (j := j) (x := x) (inb_of S hj) (g := mkF m pc Ls (.int x :: .int j :: .ref a :: rest)) rfl rfl hd
  exact Wout.of st (hr T' h' _ X' e' (hi ▸ W) (Arv.set A q1 S M H G (fits_nar_byte x) W i hi hil) (Fr.snoc X' N g))
theorem o_bastoreZ (X : Stand p l e R s m args below meth c T locs cells slots) (hx : p.tables.exec = Jvm.exec) (hZ : Z.Warmed39 s.vm) (eT : T.heap = h) {a : Addr} {k : ClassId} {z : Int32} {vs : List Value} {dv : Value} (V : Arv Z h a k .boolean z vs dv) {j : Int32} {x : Int32} (hj : ¬ j < 0 ∧ j < z) (i : Nat) (hi : j.toNatClampNeg = i) (hil : i < vs.length) {vs' : List Value} (hvs : vs.set i (.int (nar .boolean x)) = vs') {n0 : Nat} (N : Fr n0 locs) (g : n0 ≤ a) (n : Nat) (hd : decode c.code pc = .ok (.bastore, 1)) (hp : pc + 1 = n)
    (hr : ∀ T' h' locs', Stand p l e R s m args below meth c T' locs' cells slots → T'.heap = h' → Wr h h' a i (.int (nar .boolean x)) → Arv Z h' a k .boolean z vs' dv → Fr n0 locs' → Wout p e below P T' (mkF m n Ls rest)) : Wout p e below P T (mkF m pc Ls (.int x :: .int j :: .ref a :: rest)) := by
  subst hp hvs
  obtain ⟨cl, A, q1, S, M, H, G⟩ := V
  obtain ⟨T', h', X', e', W, st⟩ := stZ X hx hZ eT A (j := j) (x := x) (inb_of S hj) (g := mkF m pc Ls (.int x :: .int j :: .ref a :: rest)) rfl rfl hd
  exact Wout.of st (hr T' h' _ X' e' (hi ▸ W) (Arv.set A q1 S M H G (fits_nar_bool x) W i hi hil) (Fr.snoc X' N g))
theorem o_aastore (X : Stand p l e R s m args below meth c T locs cells slots) (hx : p.tables.exec = Jvm.exec) (hZ : Z.Warmed39 s.vm) (eT : T.heap = h) {a : Addr} {k : ClassId} {ty : FieldType} {z : Int32} {vs : List Value} {dv : Value} (V : Arv Z h a k ty z vs dv) (hty : ty.isReference = true) {j : Int32} {v : Value} (hj : ¬ j < 0 ∧ j < z) (i : Nat) (hi : j.toNatClampNeg = i) (hil : i < vs.length) {vs' : List Value} (hvs : vs.set i v = vs') (hfit : fits ty v = true) (Fs : Sto Z h a v) {n0 : Nat} (N : Fr n0 locs) (g : n0 ≤ a) (n : Nat) (hd : decode c.code pc = .ok (.aastore, 1)) (hp : pc + 1 = n)
    (hr : ∀ T' h' locs', Stand p l e R s m args below meth c T' locs' cells slots → T'.heap = h' → Wr h h' a i v → Arv Z h' a k ty z vs' dv → Fr n0 locs' → Wout p e below P T' (mkF m n Ls rest)) : Wout p e below P T (mkF m pc Ls (v :: .int j :: .ref a :: rest)) := by
  subst hp hvs
  obtain ⟨cl, A, q1, S, M, H, G⟩ := V
  obtain ⟨T', h', X', e', W, st⟩ := stR X hx hZ eT A (j := j) (v := v) (inb_of S hj) hty Fs (g := mkF m pc Ls (v :: .int j :: .ref a :: rest)) rfl rfl hd
  exact Wout.of st (hr T' h' _ X' e' (hi ▸ W) (Arv.set A q1 S M H G hfit W i hi hil) (Fr.snoc X' N g))
theorem Sto.arv {a y : Addr} {k : ClassId} {ty : FieldType} {z : Int32} {vs : List Value} {dv : Value} {C : String} (V : Arv Z h a k ty z vs dv) (O : Ovr Z k C) (I : Ins Z h y C true) : Sto Z h a (.ref y) := by
  obtain ⟨cl, A, q1, -⟩ := V
  exact Sto.ofV A q1 O I
theorem o_checkcast (X : Stand p l e R s m args below meth c T locs cells slots) (hx : p.tables.exec = Jvm.exec) (hZ : Z.Warmed39 s.vm) {own K : String} {index : Nat} (hown : s.vm.findClass own = some m.cls) (w : (Jvm.Cond.classLink own index K).before a0 Z = true) (eT : T.heap = h) {a : Addr} (F : Ins Z h a K true) (n : Nat) (hd : decode c.code pc = .ok (.checkcast index, 3)) (hp : pc + 3 = n)
    (hr : ∀ T', Stand p l e R s m args below meth c T' locs cells slots → T'.heap = h → Wout p e below P T' (mkF m n Ls (.ref a :: rest))) : Wout p e below P T (mkF m pc Ls (.ref a :: rest)) := by
  subst hp
  obtain ⟨T', X', e', st⟩ := castY X hx hZ hown w eT F (g := mkF m pc Ls (.ref a :: rest)) rfl rfl hd
  exact Wout.of st (hr T' X' e')
theorem o_instanceof (X : Stand p l e R s m args below meth c T locs cells slots) (hx : p.tables.exec = Jvm.exec) (hZ : Z.Warmed39 s.vm) {own K : String} {index : Nat} (hown : s.vm.findClass own = some m.cls) (w : (Jvm.Cond.classLink own index K).before a0 Z = true) (eT : T.heap = h) {a : Addr} (F : Ins Z h a K true) (n : Nat) (hd : decode c.code pc = .ok (.instanceof index, 3)) (hp : pc + 3 = n)
    (hr : ∀ T', Stand p l e R s m args below meth c T' locs cells slots → T'.heap = h → Wout p e below P T' (mkF m n Ls (.int 1 :: rest))) : Wout p e below P T (mkF m pc Ls (.ref a :: rest)) := by
  subst hp
  obtain ⟨T', X', e', st⟩ := instY X hx hZ hown w eT F (g := mkF m pc Ls (.ref a :: rest)) rfl rfl hd
  exact Wout.of st (hr T' X' e')
/-! calls -/
theorem o_initO (X : Stand p l e R s m args below meth c T locs cells slots) (hx : p.tables.exec = Jvm.exec) (hZ : Z.Warmed39 s.vm) {own : String} {idx : Nat} (hown : s.vm.findClass own = some m.cls) (w1 : (Jvm.Cond.methodLink own idx Lib.objectInit).before a0 Z = true) (w2 : (Jvm.Cond.instanceMethod Lib.objectInit).before a0 Z = true) (w3 : (Jvm.Cond.code Lib.objectInit ⟨#[0xb1]⟩ 1 none).before a0 Z = true) (eT : T.heap = h) (hsz : Ls.size = c.maxLocals) {a : Addr} (hf : 1 ≤ R.frames) (W : Nat) (hW : (rest.map fun v => v.category).sum ≤ W) (hl : W + 12 ≤ R.locals) (n : Nat) (hd : decode c.code pc = .ok (.invokespecial idx, 3)) (hp : pc + 3 = n)
    (hr : ∀ T', Stand p l e R s m args below meth c T' locs cells slots → T'.heap = h → Wout p e below P T' (mkF m n Ls rest)) : Wout p e below P T (mkF m pc Ls (.ref a :: rest)) := by
  subst hp
  obtain ⟨T', X', e', st⟩ := initO X hx hZ hown w1 w2 w3 eT (g := mkF m pc Ls (.ref a :: rest)) rfl hsz rfl hd hf (W := W) (by simpa using hW) hl
  exact Wout.of st (hr T' X' e')
theorem o_callS (X : Stand p l e R s m args below meth c T locs cells slots) (hx : p.tables.exec = Jvm.exec) (hZ : Z.Warmed39 s.vm) {own : String} {index : Nat} {y : MethodName} {bytes : ByteArray} {maxL : Nat} {ret : Option FieldType} (hown : s.vm.findClass own = some m.cls) (w1 : (Jvm.Cond.methodLink own index y).before a0 Z = true) (w2 : (Jvm.Cond.static y).before a0 Z = true) (w3 : (Jvm.Cond.initialized y.cls).before a0 Z = true) (w4 : (Jvm.Cond.code y bytes maxL ret).before a0 Z = true)
    (hy : y.cls ≠ "java/lang/invoke/MethodHandle" ∧ y.cls ≠ "java/lang/invoke/VarHandle") {rm : Room} {as' : Array Value} {Q : Option Value → Heap → List Loc → Prop} (hM : Met l Z y bytes maxL ret [] rm as' h Q) (eT : T.heap = h) (hf : rm.frames + 1 ≤ R.frames) (W : Nat) (hl : W + (maxL + 11) + rm.locals ≤ R.locals) (hsz : Ls.size = c.maxLocals) (argsL : List Value) {st : List Value} (hlen : ∀ sig, parseMethodDescriptor y.desc = some sig → argsL.length = sig.parameters.length) (hst : st = argsL.reverse ++ rest) (has : argsL.toArray = as')
    (hW : (rest.map fun v => v.category).sum ≤ W) (hc : cells + rm.cells ≤ R.cells) (hs : slots + rm.slots ≤ R.slots) (n : Nat) (hd : decode c.code pc = .ok (.invokestatic index, 3)) (hp : pc + 3 = n)
    (hr : ∀ v T' h' L, Stand p l e R s m args below meth c T' (locs ++ L) (cells + rm.cells) (slots + rm.slots) → T'.heap = h' → Q v h' L → Wout p e below P T' (mkF m n Ls (v.toList ++ rest))) : Wout p e below P T (mkF m pc Ls st) := by
  subst hp has hst
  obtain ⟨v, vm₁, ⟨T', L', k', n'⟩, -, X', ⟨Lc, hQ, l1, y1, z1⟩, st⟩ := Jvm.LawKit.callS X hx hown (mv hZ w1) (mv hZ w2) (mv hZ w3) (mv hZ w4) hy (backOf (W := W) hM hZ w4 w3 hf hl) (g := mkF m pc Ls (argsL.reverse ++ rest)) rfl hsz (argsL := argsL) (rest := rest) hlen rfl (by simpa using hW) hd (fun _ _ => ⟨rfl, eT, hc, hs⟩)
  dsimp only [Pt.U, Pt.locs, Pt.cells, Pt.slots] at X' l1 y1 z1 hQ st
  subst l1 y1 z1
  exact Wout.of st (hr v T' T'.heap Lc X' rfl hQ)
theorem o_callI (X : Stand p l e R s m args below meth c T locs cells slots) (hx : p.tables.exec = Jvm.exec) (hZ : Z.Warmed39 s.vm) {own : String} {index : Nat} {y : MethodName} {bytes : ByteArray} {maxL : Nat} (hy1 : y.name = "<init>") (hown : s.vm.findClass own = some m.cls) (w1 : (Jvm.Cond.methodLink own index y).before a0 Z = true) (w2 : (Jvm.Cond.instanceMethod y).before a0 Z = true) (w3 : (Jvm.Cond.initialized y.cls).before a0 Z = true) (w4 : (Jvm.Cond.code y bytes maxL none).before a0 Z = true)
    (hy : y.cls ≠ "java/lang/invoke/MethodHandle" ∧ y.cls ≠ "java/lang/invoke/VarHandle") {rm : Room} {as' : Array Value} {Q : Option Value → Heap → List Loc → Prop} (hM : Met l Z y bytes maxL none [] rm as' h Q) (eT : T.heap = h) (hf : rm.frames + 1 ≤ R.frames) (W : Nat) (hl : W + (maxL + 11) + rm.locals ≤ R.locals) (hsz : Ls.size = c.maxLocals) {a : Addr} (argsL : List Value) {st : List Value} (hlen : ∀ sig, parseMethodDescriptor y.desc = some sig → argsL.length = sig.parameters.length) (hst : st = argsL.reverse ++ .ref a :: rest) (has : (.ref a :: argsL).toArray = as')
    (hW : (rest.map fun v => v.category).sum ≤ W) (hc : cells + rm.cells ≤ R.cells) (hs : slots + rm.slots ≤ R.slots) (n : Nat) (hd : decode c.code pc = .ok (.invokespecial index, 3)) (hp : pc + 3 = n)
    (hr : ∀ v T' h' L, Stand p l e R s m args below meth c T' (locs ++ L) (cells + rm.cells) (slots + rm.slots) → T'.heap = h' → Q v h' L → Wout p e below P T' (mkF m n Ls (v.toList ++ rest))) : Wout p e below P T (mkF m pc Ls st) := by
  subst hp has hst
  obtain ⟨v, vm₁, ⟨T', L', k', n'⟩, -, X', ⟨Lc, hQ, l1, y1, z1⟩, st⟩ := X.specialBack hx hy1 hown (mv hZ w1) (mv hZ w2) (mv hZ w4) hy (backOf (W := W) hM hZ w4 w3 hf hl) (g := mkF m pc Ls (argsL.reverse ++ .ref a :: rest)) rfl hsz (Steps.refl _) (a := a) (argsL := argsL) (rest := rest) hlen rfl (by simpa using hW) hd (fun _ _ => ⟨rfl, eT, hc, hs⟩)
  dsimp only [Pt.U, Pt.locs, Pt.cells, Pt.slots] at X' l1 y1 z1 hQ st
  subst l1 y1 z1
  exact Wout.tr st (hr v T' T'.heap Lc X' rfl hQ)
theorem o_callIB (X : Stand p l e R s m args below meth c T locs cells slots) (hx : p.tables.exec = Jvm.exec) (hZ : Z.Warmed39 s.vm) {own : String} {index : Nat} {y : MethodName} {bytes : ByteArray} {maxL : Nat} (hy1 : y.name = "<init>") (hown : s.vm.findClass own = some m.cls) (w1 : (Jvm.Cond.methodLink own index y).before a0 Z = true) (w2 : (Jvm.Cond.instanceMethod y).before a0 Z = true) (w4 : (Jvm.Cond.code y bytes maxL none).before a0 Z = true)
    (hy : y.cls ≠ "java/lang/invoke/MethodHandle" ∧ y.cls ≠ "java/lang/invoke/VarHandle") {kc ks W : Nat} {as' : Array Value} {Q : Option Value → Heap → List Loc → Prop} (hK : Back l R p e below s args y 3 W (fun A a => a = as' ∧ A.U.heap = h ∧ A.cells + kc ≤ R.cells ∧ A.slots + ks ≤ R.slots) (fun A _ v B => ∃ L, Q v B.U.heap L ∧ B.locs = A.locs ++ L ∧ B.cells = A.cells + kc ∧ B.slots = A.slots + ks)) (eT : T.heap = h) (hsz : Ls.size = c.maxLocals) {a : Addr} (argsL : List Value) {st : List Value} (hlen : ∀ sig, parseMethodDescriptor y.desc = some sig → argsL.length = sig.parameters.length) (hst : st = argsL.reverse ++ .ref a :: rest) (has : (.ref a :: argsL).toArray = as')
    (hW : (rest.map fun v => v.category).sum ≤ W) (hc : cells + kc ≤ R.cells) (hs : slots + ks ≤ R.slots) (n : Nat) (hd : decode c.code pc = .ok (.invokespecial index, 3)) (hp : pc + 3 = n)
    (hr : ∀ v T' h' L, Stand p l e R s m args below meth c T' (locs ++ L) (cells + kc) (slots + ks) → T'.heap = h' → Q v h' L → Wout p e below P T' (mkF m n Ls (v.toList ++ rest))) : Wout p e below P T (mkF m pc Ls st) := by
  subst hp has hst
  obtain ⟨v, vm₁, ⟨T', L', k', n'⟩, -, X', ⟨Lc, hQ, l1, y1, z1⟩, st⟩ := X.specialBack hx hy1 hown (mv hZ w1) (mv hZ w2) (mv hZ w4) hy hK (g := mkF m pc Ls (argsL.reverse ++ .ref a :: rest)) rfl hsz (Steps.refl _) (a := a) (argsL := argsL) (rest := rest) hlen rfl (by simpa using hW) hd (fun _ _ => ⟨rfl, eT, hc, hs⟩)
  dsimp only [Pt.U, Pt.locs, Pt.cells, Pt.slots] at X' l1 y1 z1 hQ st
  subst l1 y1 z1
  exact Wout.tr st (hr v T' T'.heap Lc X' rfl hQ)
theorem o_callV (X : Stand p l e R s m args below meth c T locs cells slots) (hx : p.tables.exec = Jvm.exec) (hZ : Z.Warmed39 s.vm) {own C : String} {index : Nat} {y : MethodName} {bytes : ByteArray} {maxL : Nat} {ret : Option FieldType} (hown : s.vm.findClass own = some m.cls) (w1 : (Jvm.Cond.methodLink own index y).before a0 Z = true) (w5 : (Jvm.Cond.declares y).before a0 Z = true) (w6 : (Jvm.Cond.selects C y y).before a0 Z = true) (w2 : (Jvm.Cond.instanceMethod y).before a0 Z = true) (w3 : (Jvm.Cond.initialized y.cls).before a0 Z = true) (w4 : (Jvm.Cond.code y bytes maxL ret).before a0 Z = true)
    (hy : y.cls ≠ "java/lang/invoke/MethodHandle" ∧ y.cls ≠ "java/lang/invoke/VarHandle") {rm : Room} {as' : Array Value} {Q : Option Value → Heap → List Loc → Prop} (hM : Met l Z y bytes maxL ret [] rm as' h Q) (eT : T.heap = h) (hf : rm.frames + 1 ≤ R.frames) (W : Nat) (hl : W + (maxL + 11) + rm.locals ≤ R.locals) (hsz : Ls.size = c.maxLocals) {a : Addr} (E : Exa Z h a C) (argsL : List Value) {st : List Value} (hlen : ∀ sig, parseMethodDescriptor y.desc = some sig → argsL.length = sig.parameters.length) (hst : st = argsL.reverse ++ .ref a :: rest) (has : (.ref a :: argsL).toArray = as')
    (hW : (rest.map fun v => v.category).sum ≤ W) (hc : cells + rm.cells ≤ R.cells) (hs : slots + rm.slots ≤ R.slots) (n : Nat) (hd : decode c.code pc = .ok (.invokevirtual index, 3)) (hp : pc + 3 = n)
    (hr : ∀ v T' h' L, Stand p l e R s m args below meth c T' (locs ++ L) (cells + rm.cells) (slots + rm.slots) → T'.heap = h' → Q v h' L → Wout p e below P T' (mkF m n Ls (v.toList ++ rest))) : Wout p e below P T (mkF m pc Ls st) := by
  subst hp has hst
  obtain ⟨cq, kq, qa, qb, qc⟩ := isOf hZ eT E
  obtain ⟨v, vm₁, ⟨T', L', k', n'⟩, -, X', ⟨Lc, hQ, l1, y1, z1⟩, st⟩ := X.virtualBack hx hown (mv hZ w1) (mv hZ w5) (notFace_of_selects (args := #[]) (mv hZ w6)) (mv hZ w6) (mv hZ w2) hy (backOf (W := W) hM hZ w4 w3 hf hl) qa qc (g := mkF m pc Ls (argsL.reverse ++ .ref a :: rest)) rfl hsz (Steps.refl _) (argsL := argsL) (rest := rest) hlen rfl (by simpa using hW) hd (fun _ _ => ⟨rfl, eT, hc, hs⟩)
  dsimp only [Pt.U, Pt.locs, Pt.cells, Pt.slots] at X' l1 y1 z1 hQ st
  subst l1 y1 z1
  exact Wout.tr st (hr v T' T'.heap Lc X' rfl hQ)
theorem o_callU (X : Stand p l e R s m args below meth c T locs cells slots) (hx : p.tables.exec = Jvm.exec) (hZ : Z.Warmed39 s.vm) {own C owner : String} {index : Nat} {y z : MethodName} {bytes : ByteArray} {maxL : Nat} {ret : Option FieldType} (hown : s.vm.findClass own = some m.cls) (w1 : (Jvm.Cond.methodLink own index y).before a0 Z = true) (w7 : (Jvm.Cond.sameMethod y.cls owner y.name y.desc).before a0 Z = true) (w5 : (Jvm.Cond.declares ⟨owner, y.name, y.desc⟩).before a0 Z = true) (w6 : (Jvm.Cond.selects C y z).before a0 Z = true) (w2 : (Jvm.Cond.instanceMethod z).before a0 Z = true) (w3 : (Jvm.Cond.initialized z.cls).before a0 Z = true) (w4 : (Jvm.Cond.code z bytes maxL ret).before a0 Z = true)
    (hy : owner ≠ "java/lang/invoke/MethodHandle" ∧ owner ≠ "java/lang/invoke/VarHandle") {rm : Room} {as' : Array Value} {Q : Option Value → Heap → List Loc → Prop} (hM : Met l Z z bytes maxL ret [] rm as' h Q) (eT : T.heap = h) (hf : rm.frames + 1 ≤ R.frames) (W : Nat) (hl : W + (maxL + 11) + rm.locals ≤ R.locals) (hsz : Ls.size = c.maxLocals) {a : Addr} (E : Exa Z h a C) (argsL : List Value) {st : List Value} (hlen : ∀ sig, parseMethodDescriptor y.desc = some sig → argsL.length = sig.parameters.length) (hst : st = argsL.reverse ++ .ref a :: rest) (has : (.ref a :: argsL).toArray = as')
    (hW : (rest.map fun v => v.category).sum ≤ W) (hc : cells + rm.cells ≤ R.cells) (hs : slots + rm.slots ≤ R.slots) (n : Nat) (hd : decode c.code pc = .ok (.invokevirtual index, 3)) (hp : pc + 3 = n)
    (hr : ∀ v T' h' L, Stand p l e R s m args below meth c T' (locs ++ L) (cells + rm.cells) (slots + rm.slots) → T'.heap = h' → Q v h' L → Wout p e below P T' (mkF m n Ls (v.toList ++ rest))) : Wout p e below P T (mkF m pc Ls st) := by
  subst hp has hst
  obtain ⟨cq, kq, qa, qb, qc⟩ := isOf hZ eT E
  obtain ⟨v, vm₁, ⟨T', L', k', n'⟩, -, X', ⟨Lc, hQ, l1, y1, z1⟩, st⟩ := X.virtualBackUp hx hown (mv hZ w1) (mv hZ w7) (mv hZ w5) hy (mv hZ w6) (mv hZ w2) (backOf (W := W) hM hZ w4 w3 hf hl) qa qc (g := mkF m pc Ls (argsL.reverse ++ .ref a :: rest)) rfl hsz (Steps.refl _) (argsL := argsL) (rest := rest) hlen rfl (by simpa using hW) hd (fun _ _ => ⟨rfl, eT, hc, hs⟩)
  dsimp only [Pt.U, Pt.locs, Pt.cells, Pt.slots] at X' l1 y1 z1 hQ st
  subst l1 y1 z1
  exact Wout.tr st (hr v T' T'.heap Lc X' rfl hQ)
/-! returns -/
theorem o_retW (X : Stand p l e R s m args below meth c T locs cells slots) (hx : p.tables.exec = Jvm.exec) {Q : Option Value → Heap → List Loc → Prop} {C S : Nat} {w w' : Value} {t : FieldType} {i : Instr} (hlk : meth.locks = false) (hret : meth.sig.returnType = some t) (hn : Jvm.narrow t w = w)
    (hi : (i = .ireturn ∧ (t = .int ∨ t = .boolean ∨ t = .byte ∨ t = .char ∨ t = .short) ∧ ∃ z, w = .int z) ∨ (i = .lreturn ∧ t = .long ∧ ∃ z, w = .long z) ∨ (i = .dreturn ∧ t = .double ∧ ∃ z, w = .double z) ∨ (i = .freturn ∧ t = .float ∧ ∃ z, w = .float z) ∨ (i = .areturn ∧ t.isReference = true ∧ w.isRef = true))
    (hd : decode c.code pc = .ok (i, 1)) (hc : cells ≤ C) (hs : slots ≤ S) (hq : Q (some w) T.heap locs) : Wout p e below (Pst s Q C S) T (mkF m pc Ls (w :: rest)) := by
  obtain ⟨fs, hr, hrun, hended, hW, hsame⟩ := X.leave (v := some w) (fun q => by rw [hret] at q; cases q) hlk
  exact ⟨_, _, retOut X hx hret hn hi hd hr, hrun, hended, _, _, rfl, hq, ⟨_, rfl⟩, hW, hsame.mono hc hs⟩
theorem o_retI (X : Stand p l e R s m args below meth c T locs cells slots) (hx : p.tables.exec = Jvm.exec) {Q : Option Value → Heap → List Loc → Prop} {C S : Nat} {x : Int32} {t : FieldType} (hlk : meth.locks = false) (hret : meth.sig.returnType = some t) (hn : Jvm.narrow t (.int x) = .int x) (ht : t = .int ∨ t = .boolean ∨ t = .byte ∨ t = .char ∨ t = .short)
    (hd : decode c.code pc = .ok (.ireturn, 1)) (hc : cells ≤ C) (hs : slots ≤ S) (hq : Q (some (.int x)) T.heap locs) : Wout p e below (Pst s Q C S) T (mkF m pc Ls (.int x :: rest)) :=
  o_retW X hx (w' := .null) hlk hret hn (Or.inl ⟨rfl, ht, x, rfl⟩) hd hc hs hq
theorem o_retL (X : Stand p l e R s m args below meth c T locs cells slots) (hx : p.tables.exec = Jvm.exec) {Q : Option Value → Heap → List Loc → Prop} {C S : Nat} {x : Int64} (hlk : meth.locks = false) (hret : meth.sig.returnType = some .long)
    (hd : decode c.code pc = .ok (.lreturn, 1)) (hc : cells ≤ C) (hs : slots ≤ S) (hq : Q (some (.long x)) T.heap locs) : Wout p e below (Pst s Q C S) T (mkF m pc Ls (.long x :: rest)) :=
  o_retW X hx (w' := .null) hlk hret rfl (Or.inr (Or.inl ⟨rfl, rfl, x, rfl⟩)) hd hc hs hq
theorem o_retA (X : Stand p l e R s m args below meth c T locs cells slots) (hx : p.tables.exec = Jvm.exec) {Q : Option Value → Heap → List Loc → Prop} {C S : Nat} {w : Value} {t : FieldType} (hlk : meth.locks = false) (hret : meth.sig.returnType = some t) (ht : t.isReference = true) (hw : w.isRef = true) (hn : Jvm.narrow t w = w)
    (hd : decode c.code pc = .ok (.areturn, 1)) (hc : cells ≤ C) (hs : slots ≤ S) (hq : Q (some w) T.heap locs) : Wout p e below (Pst s Q C S) T (mkF m pc Ls (w :: rest)) :=
  o_retW X hx (w' := .null) hlk hret hn (Or.inr (Or.inr (Or.inr (Or.inr ⟨rfl, ht, hw⟩)))) hd hc hs hq
theorem o_retD (X : Stand p l e R s m args below meth c T locs cells slots) (hx : p.tables.exec = Jvm.exec) {Q : Option Value → Heap → List Loc → Prop} {C S : Nat} {x : UInt64} (hlk : meth.locks = false) (hret : meth.sig.returnType = some .double)
    (hd : decode c.code pc = .ok (.dreturn, 1)) (hc : cells ≤ C) (hs : slots ≤ S) (hq : Q (some (.double x)) T.heap locs) : Wout p e below (Pst s Q C S) T (mkF m pc Ls (.double x :: rest)) :=
  o_retW X hx (w' := .null) hlk hret rfl (Or.inr (Or.inr (Or.inl ⟨rfl, rfl, x, rfl⟩))) hd hc hs hq
theorem o_retV (X : Stand p l e R s m args below meth c T locs cells slots) (hx : p.tables.exec = Jvm.exec) {Q : Option Value → Heap → List Loc → Prop} {C S : Nat} (hlk : meth.locks = false) (hret : meth.sig.returnType = none)
    (hd : decode c.code pc = .ok (.return_, 1)) (hc : cells ≤ C) (hs : slots ≤ S) (hq : Q none T.heap locs) : Wout p e below (Pst s Q C S) T (mkF m pc Ls []) := by
  obtain ⟨fs, hr, hrun, hended, hW, hsame⟩ := X.leave (v := none) (fun _ => rfl) hlk
  exact ⟨_, _, X.returnOut hx hret hd hr, hrun, hended, _, _, rfl, hq, ⟨_, rfl⟩, hW, hsame.mono hc hs⟩
/-! from the sheet's words -/
theorem fld_eq {t : Term} {a : Addr} {C n d : String} {k : Int32} (ev : t.eval args Z none [] Z = some (.ref a)) (q : (Jvm.Cond.eq (.field t C n d) (.int k)).value args Z none Z [] = some true) : Fld Z Z.heap a C n d (.int k) := by
  exact Fld.start ((fld_at ev).symm.trans (eqv_i rfl q))
theorem sta_bool {C n d : String} (w1 : (Jvm.Cond.initializedFor C n d).before args Z = true) (w2 : (Jvm.Cond.isInt (.static C n d)).before args Z = true) (w3 : (Jvm.Cond.not (.eq (.static C n d) (.int 0))).before args Z = true) : ∃ x : Int32, Sta Z Z.heap C n d (.int x) ∧ ¬ x = 0 := by
  obtain ⟨x, ev⟩ := is_v (Cond.before_iff.mp w2)
  refine ⟨x, Sta.start ev (Or.inl w1), fun q => ?_⟩
  have q2 := not_v (Cond.before_iff.mp w3)
  exact gotF (Cond.eq_ints ev rfl) q2 q
/-! numbers -/
theorem mask31 (x : Int32) : 0 ≤ (x &&& 2147483647).toInt := by
  have e := Jvm.Kit.i32_mask x 2147483647 (k := 31) (by decide) (by decide)
  omega
theorem rem_pos {y n : Int32} (hy : 0 ≤ y.toInt) (hn : 0 < n.toInt) : (y % n).toInt = y.toInt % n.toInt := by
  rw [Int32.toInt_mod, Int.tmod_eq_emod_of_nonneg hy]
theorem rem_in {y n : Int32} (hy : 0 ≤ y.toInt) (hn : 0 < n.toInt) : 0 ≤ (y % n).toInt ∧ (y % n).toInt < n.toInt := by
  rw [rem_pos hy hn]
  exact ⟨Int.emod_nonneg _ (by omega), Int.emod_lt_of_pos _ hn⟩
theorem in3 {k : Int32} (h1 : 0 ≤ k.toInt) (h2 : k.toInt < 3) : k = 0 ∨ k = 1 ∨ k = 2 := by
  have : k.toInt = 0 ∨ k.toInt = 1 ∨ k.toInt = 2 := by omega
  rcases this with q | q | q
  · exact Or.inl (Int32.toInt_inj.mp q)
  · exact Or.inr (Or.inl (Int32.toInt_inj.mp q))
  · exact Or.inr (Or.inr (Int32.toInt_inj.mp q))
theorem in4 {k : Int32} (h1 : 0 ≤ k.toInt) (h2 : k.toInt < 4) : k = 0 ∨ k = 1 ∨ k = 2 ∨ k = 3 := by
  have : k.toInt = 0 ∨ k.toInt = 1 ∨ k.toInt = 2 ∨ k.toInt = 3 := by omega
  rcases this with q | q | q | q
  · exact Or.inl (Int32.toInt_inj.mp q)
  · exact Or.inr (Or.inl (Int32.toInt_inj.mp q))
  · exact Or.inr (Or.inr (Or.inl (Int32.toInt_inj.mp q)))
  · exact Or.inr (Or.inr (Or.inr (Int32.toInt_inj.mp q)))
end K
end Jvm.OwnWalk
namespace Jvm.Pilot.@@N@@
open Jvm Jvm.ClassFile Sem Op Lib Jvm.Free Jvm.Stand Jvm.LawKit Jvm.RoadKit Jvm.OwnWalk Bundle Jvm.Pilot.@@N@@.Jvm.D
def own_words : List Jvm.Cond := tables_1 ++ jdkStatics_1
theorem d_jdk_22_method_1_0 : decode jdk_22_method_1_code 0 = .ok (.aload_n 0, 1) := by decide +kernel
theorem d_jdk_22_method_1_1 : decode jdk_22_method_1_code 1 = .ok (.invokespecial 1, 3) := by decide +kernel
theorem d_jdk_22_method_1_4 : decode jdk_22_method_1_code 4 = .ok (.return_, 1) := by decide +kernel
theorem pn_0 : plainName "java/util/AbstractCollection" = true := by first | (simp [plainName, overriddenIn]; done) | decide +kernel
def Q_ac (Z : State) (a1 : Addr) (h0 : Heap) (n0 : Nat) (v : Option Value) (h : Heap) (L : List Loc) : Prop := v = none ∧ Fr n0 L ∧ h = h0
set_option maxRecDepth 65536 in
set_option maxHeartbeats 40000000 in
theorem rm_ac (l : Launch) (Z : State) (a0 : Array Value) (hw : ∀ d ∈ own_words, d.before a0 Z = true) (ws : List Jvm.Cond) (a1 : Addr) (h0 : Heap) (n0 : Nat) (Z0 : n0 ≤ h0.size)  :
    Met l Z (⟨"java/util/AbstractCollection", "<init>", "()V"⟩ : MethodName) jdk_22_method_1_code 1 none ws ({ frames := 1, cells := 0, slots := 0, locals := 12 } : Room) #[(.ref a1)] h0 (Q_ac Z a1 h0 n0) := by
  refine Met.start (plainFor_of_name pn_0) ?_
  intro p e s m below meth c T X hx hby hml hown hnm hret hlk hZ eT
  have N := Fr.nil n0
  refine Wout.cast (g' := (mkF m 0 #[.val (.ref a1)] [])) (by first | rfl | (simp [entryFrame, mkF, argsToLocals, Value.category]; done)) ?_
  refine o_aloadN X hx 1 (hb hby d_jdk_22_method_1_0) rfl rfl rfl ?_
  refine o_initO X hx hZ hown (hw _ (List.mem_of_getElem? (i := 34) rfl)) (hw _ (List.mem_of_getElem? (i := 14) rfl)) (hw _ (List.mem_of_getElem? (i := 15) rfl)) eT (by rw [hml]; rfl) (by decide) 0 (Nat.le_of_eq rfl) (by decide) 4 (hb hby d_jdk_22_method_1_1) rfl (fun T X eT => ?_)
  exact o_retV X hx hlk hret (hb hby d_jdk_22_method_1_4) (by decide) (by decide) (by rw [eT]; exact ⟨rfl, N, rfl⟩)
theorem d_jdk_39_method_1_0 : decode jdk_39_method_1_code 0 = .ok (.aload_n 0, 1) := by decide +kernel
theorem d_jdk_39_method_1_1 : decode jdk_39_method_1_code 1 = .ok (.invokespecial 1, 3) := by decide +kernel
theorem d_jdk_39_method_1_4 : decode jdk_39_method_1_code 4 = .ok (.aload_n 0, 1) := by decide +kernel
theorem d_jdk_39_method_1_5 : decode jdk_39_method_1_code 5 = .ok (.iconst 0, 1) := by decide +kernel
theorem d_jdk_39_method_1_6 : decode jdk_39_method_1_code 6 = .ok (.putfield 7, 3) := by decide +kernel
theorem d_jdk_39_method_1_9 : decode jdk_39_method_1_code 9 = .ok (.return_, 1) := by decide +kernel
theorem pn_1 : plainName "java/util/AbstractList" = true := by first | (simp [plainName, overriddenIn]; done) | decide +kernel
theorem pd_0 : parseMethodDescriptor "()V" = some ⟨[], none⟩ := by decide +kernel
def Q_abl (Z : State) (a1 : Addr) (u1 u2 : Value) (h0 : Heap) (n0 : Nat) (v : Option Value) (h : Heap) (L : List Loc) : Prop := v = none ∧ Fr n0 L ∧ Keep h0 h [a1] ∧ Exa Z h a1 "java/util/ArrayList" ∧ Fld Z h a1 "java/util/ArrayList" "elementData" "[Ljava/lang/Object;" u2
set_option maxRecDepth 65536 in
set_option maxHeartbeats 40000000 in
theorem rm_abl (l : Launch) (Z : State) (a0 : Array Value) (hw : ∀ d ∈ own_words, d.before a0 Z = true) (ws : List Jvm.Cond) (a1 : Addr) (u1 u2 : Value) (h0 : Heap) (n0 : Nat) (Z0 : n0 ≤ h0.size) (E_a1 : Exa Z h0 a1 "java/util/ArrayList") (F1 : Fld Z h0 a1 "java/util/AbstractList" "modCount" "I" u1) (F2 : Fld Z h0 a1 "java/util/ArrayList" "elementData" "[Ljava/lang/Object;" u2) (g_a1 : n0 ≤ a1) :
    Met l Z (⟨"java/util/AbstractList", "<init>", "()V"⟩ : MethodName) jdk_39_method_1_code 1 none ws ({ frames := 2, cells := 0, slots := 0, locals := 24 } : Room) #[(.ref a1)] h0 (Q_abl Z a1 u1 u2 h0 n0) := by
  refine Met.start (plainFor_of_name pn_1) ?_
  intro p e s m below meth c T X hx hby hml hown hnm hret hlk hZ eT
  have N := Fr.nil n0
  have K := Keep.refl h0 [a1]
  refine Wout.cast (g' := (mkF m 0 #[.val (.ref a1)] [])) (by first | rfl | (simp [entryFrame, mkF, argsToLocals, Value.category]; done)) ?_
  refine o_aloadN X hx 1 (hb hby d_jdk_39_method_1_0) rfl rfl rfl ?_
  refine o_callI X hx hZ rfl hown (hw _ (List.mem_of_getElem? (i := 28) rfl)) (hw _ (List.mem_of_getElem? (i := 29) rfl)) (hw _ (List.mem_of_getElem? (i := 32) rfl)) (hw _ (List.mem_of_getElem? (i := 33) rfl)) (by decide) (rm_ac l Z a0 hw [] a1 _ n0 Z0) eT (by decide) 0 (by decide) (by rw [hml]; rfl) [] (rest := []) (lenOf pd_0 rfl) rfl rfl (Nat.le_of_eq rfl) (by decide) (by decide) 4 (hb hby d_jdk_39_method_1_1) rfl (fun v T h1 Lc X eT q => ?_)
  obtain ⟨rfl, N', e'⟩ := q
  replace N := Fr.app N N'
  replace eT := eT.trans e'
  show Wout p e below _ T (mkF m 4 #[.val (.ref a1)] [])
  refine o_aloadN X hx 5 (hb hby d_jdk_39_method_1_4) rfl rfl rfl ?_
  refine o_iconst X hx 6 (0 : Int32) (hb hby d_jdk_39_method_1_5) rfl rfl ?_
  refine o_putF X hx hZ .int hown (host := "") (Or.inl (hw _ (List.mem_of_getElem? (i := 35) rfl))) Via.refl eT F1 E_a1 (Or.inl (hw _ (List.mem_of_getElem? (i := 36) rfl))) (hw _ (List.mem_of_getElem? (i := 17) rfl)) (by decide) rfl rfl N g_a1 9 (hb hby d_jdk_39_method_1_6) rfl (fun T h2 locs X eT W N => ?_)
  replace E_a1 := E_a1.wr W
  replace F1 := F1.same W
  replace F2 := F2.other W (Or.inr (slot_ne (Or.inl (hw _ (List.mem_of_getElem? (i := 39) rfl))) (Or.inl (hw _ (List.mem_of_getElem? (i := 36) rfl))) (by decide) (t := (.array (.object "java/lang/Object"))) (t' := .int) (by decide) (by decide)))
  replace Z0 := Nat.le_trans Z0 (Keep.of_wr W).1
  replace K := K.wr W (Or.inl (List.mem_of_getElem? (i := 0) rfl))
  exact o_retV X hx hlk hret (hb hby d_jdk_39_method_1_9) (by decide) (by decide) (by rw [eT]; exact ⟨rfl, N, K, E_a1, F2⟩)
theorem d_jdk_38_method_2_0 : decode jdk_38_method_2_code 0 = .ok (.aload_n 0, 1) := by decide +kernel
theorem d_jdk_38_method_2_1 : decode jdk_38_method_2_code 1 = .ok (.invokespecial 1, 3) := by decide +kernel
theorem d_jdk_38_method_2_4 : decode jdk_38_method_2_code 4 = .ok (.aload_n 0, 1) := by decide +kernel
theorem d_jdk_38_method_2_5 : decode jdk_38_method_2_code 5 = .ok (.getstatic 39, 3) := by decide +kernel
theorem d_jdk_38_method_2_8 : decode jdk_38_method_2_code 8 = .ok (.putfield 9, 3) := by decide +kernel
theorem d_jdk_38_method_2_11 : decode jdk_38_method_2_code 11 = .ok (.return_, 1) := by decide +kernel
theorem pn_2 : plainName "java/util/ArrayList" = true := by first | (simp [plainName, overriddenIn]; done) | decide +kernel
def Q_al (Z : State) (a1 ed : Addr) (u1 u2 : Value) (h0 : Heap) (n0 : Nat) (v : Option Value) (h : Heap) (L : List Loc) : Prop := v = none ∧ Fr n0 L ∧ Keep h0 h [a1]
set_option maxRecDepth 65536 in
set_option maxHeartbeats 40000000 in
theorem rm_al (l : Launch) (Z : State) (a0 : Array Value) (hw : ∀ d ∈ own_words, d.before a0 Z = true) (ws : List Jvm.Cond) (a1 ed : Addr) (u1 u2 : Value) (h0 : Heap) (n0 : Nat) (Z0 : n0 ≤ h0.size) (O : Old Z n0 h0) (SE : Sta Z Z.heap "java/util/ArrayList" "DEFAULTCAPACITY_EMPTY_ELEMENTDATA" "[Ljava/lang/Object;" (.ref ed)) (E_a1 : Exa Z h0 a1 "java/util/ArrayList") (F1 : Fld Z h0 a1 "java/util/AbstractList" "modCount" "I" u1) (F2 : Fld Z h0 a1 "java/util/ArrayList" "elementData" "[Ljava/lang/Object;" u2) (g_a1 : n0 ≤ a1) :
    Met l Z (⟨"java/util/ArrayList", "<init>", "()V"⟩ : MethodName) jdk_38_method_2_code 1 none ws ({ frames := 3, cells := 0, slots := 0, locals := 36 } : Room) #[(.ref a1)] h0 (Q_al Z a1 ed u1 u2 h0 n0) := by
  refine Met.start (plainFor_of_name pn_2) ?_
  intro p e s m below meth c T X hx hby hml hown hnm hret hlk hZ eT
  have N := Fr.nil n0
  have K := Keep.refl h0 [a1]
  refine Wout.cast (g' := (mkF m 0 #[.val (.ref a1)] [])) (by first | rfl | (simp [entryFrame, mkF, argsToLocals, Value.category]; done)) ?_
  refine o_aloadN X hx 1 (hb hby d_jdk_38_method_2_0) rfl rfl rfl ?_
  refine o_callI X hx hZ rfl hown (hw _ (List.mem_of_getElem? (i := 22) rfl)) (hw _ (List.mem_of_getElem? (i := 23) rfl)) (hw _ (List.mem_of_getElem? (i := 26) rfl)) (hw _ (List.mem_of_getElem? (i := 27) rfl)) (by decide) (rm_abl l Z a0 hw [] a1 _ _ _ n0 Z0 E_a1 F1 F2 g_a1) eT (by decide) 0 (by decide) (by rw [hml]; rfl) [] (rest := []) (lenOf pd_0 rfl) rfl rfl (Nat.le_of_eq rfl) (by decide) (by decide) 4 (hb hby d_jdk_38_method_2_1) rfl (fun v T h1 Lc X eT q => ?_)
  obtain ⟨rfl, N', K1, E', G2⟩ := q
  replace N := Fr.app N N'
  replace Z0 := Nat.le_trans Z0 K1.1
  replace K := K.trans K1 (allS (P := fun x => x ∈ [a1] ∨ h0.size ≤ x) (Or.inl (List.mem_of_getElem? (i := 0) rfl)) all0)
  replace O := O.keep K1 (allS (P := fun x => n0 ≤ x) g_a1 all0)
  replace E_a1 := E'
  replace F2 := G2
  show Wout p e below _ T (mkF m 4 #[.val (.ref a1)] [])
  refine o_aloadN X hx 5 (hb hby d_jdk_38_method_2_4) rfl rfl rfl ?_
  refine o_getS X hx hZ hown (host := "") (Or.inl (hw _ (List.mem_of_getElem? (i := 37) rfl))) Via.refl eT (SE.ext O.2) 8 (hb hby d_jdk_38_method_2_5) rfl (fun T X eT => ?_)
  refine o_putF X hx hZ (.array (.object "java/lang/Object")) hown (host := "") (Or.inl (hw _ (List.mem_of_getElem? (i := 38) rfl))) Via.refl eT F2 E_a1 (Or.inl (hw _ (List.mem_of_getElem? (i := 39) rfl))) (hw _ (List.mem_of_getElem? (i := 17) rfl)) (by decide) rfl rfl N g_a1 11 (hb hby d_jdk_38_method_2_8) rfl (fun T h2 locs X eT W N => ?_)
  replace E_a1 := E_a1.wr W
  replace F2 := F2.same W
  replace Z0 := Nat.le_trans Z0 (Keep.of_wr W).1
  replace K := K.wr W (Or.inl (List.mem_of_getElem? (i := 0) rfl))
  replace O := O.wr W g_a1
  exact o_retV X hx hlk hret (hb hby d_jdk_38_method_2_11) (by decide) (by decide) (by rw [eT]; exact ⟨rfl, N, K⟩)
theorem d_jdk_68_method_2_0 : decode jdk_68_method_2_code 0 = .ok (.aload_n 0, 1) := by decide +kernel
theorem d_jdk_68_method_2_1 : decode jdk_68_method_2_code 1 = .ok (.invokespecial 3, 3) := by decide +kernel
theorem d_jdk_68_method_2_4 : decode jdk_68_method_2_code 4 = .ok (.getstatic 18, 3) := by decide +kernel
theorem d_jdk_68_method_2_7 : decode jdk_68_method_2_code 7 = .ok (.ifCond .eq 18, 3) := by decide +kernel
theorem d_jdk_68_method_2_10 : decode jdk_68_method_2_code 10 = .ok (.aload_n 0, 1) := by decide +kernel
theorem d_jdk_68_method_2_11 : decode jdk_68_method_2_code 11 = .ok (.iload_n 1, 1) := by decide +kernel
theorem d_jdk_68_method_2_12 : decode jdk_68_method_2_code 12 = .ok (.newarray .byte, 2) := by decide +kernel
theorem d_jdk_68_method_2_14 : decode jdk_68_method_2_code 14 = .ok (.putfield 15, 3) := by decide +kernel
theorem d_jdk_68_method_2_17 : decode jdk_68_method_2_code 17 = .ok (.aload_n 0, 1) := by decide +kernel
theorem d_jdk_68_method_2_18 : decode jdk_68_method_2_code 18 = .ok (.iconst 0, 1) := by decide +kernel
theorem d_jdk_68_method_2_19 : decode jdk_68_method_2_code 19 = .ok (.putfield 22, 3) := by decide +kernel
theorem d_jdk_68_method_2_22 : decode jdk_68_method_2_code 22 = .ok (.goto 16, 3) := by decide +kernel
theorem d_jdk_68_method_2_25 : decode jdk_68_method_2_code 25 = .ok (.aload_n 0, 1) := by decide +kernel
theorem d_jdk_68_method_2_26 : decode jdk_68_method_2_code 26 = .ok (.iload_n 1, 1) := by decide +kernel
theorem d_jdk_68_method_2_27 : decode jdk_68_method_2_code 27 = .ok (.invokestatic 26, 3) := by decide +kernel
theorem d_jdk_68_method_2_30 : decode jdk_68_method_2_code 30 = .ok (.putfield 15, 3) := by decide +kernel
theorem d_jdk_68_method_2_33 : decode jdk_68_method_2_code 33 = .ok (.aload_n 0, 1) := by decide +kernel
theorem d_jdk_68_method_2_34 : decode jdk_68_method_2_code 34 = .ok (.iconst 1, 1) := by decide +kernel
theorem d_jdk_68_method_2_35 : decode jdk_68_method_2_code 35 = .ok (.putfield 22, 3) := by decide +kernel
theorem d_jdk_68_method_2_38 : decode jdk_68_method_2_code 38 = .ok (.return_, 1) := by decide +kernel
theorem pn_3 : plainName "java/lang/AbstractStringBuilder" = true := by first | (simp [plainName, overriddenIn]; done) | decide +kernel
def Q_asb (Z : State) (a1 : Addr) (cs : Int32) (u1 u2 : Value) (h0 : Heap) (n0 : Nat) (v : Option Value) (h : Heap) (L : List Loc) : Prop := v = none ∧ Fr n0 L ∧ Keep h0 h [a1]
set_option maxRecDepth 65536 in
set_option maxHeartbeats 40000000 in
theorem rm_asb (l : Launch) (Z : State) (a0 : Array Value) (hw : ∀ d ∈ own_words, d.before a0 Z = true) (ws : List Jvm.Cond) (a1 : Addr) (cs : Int32) (u1 u2 : Value) (h0 : Heap) (n0 : Nat) (Z0 : n0 ≤ h0.size) (SC : Sta Z h0 "java/lang/String" "COMPACT_STRINGS" "Z" (.int cs)) (hcs : ¬ cs = 0) (E_a1 : Exa Z h0 a1 "java/lang/StringBuilder") (F1 : Fld Z h0 a1 "java/lang/AbstractStringBuilder" "value" "[B" u1) (F2 : Fld Z h0 a1 "java/lang/AbstractStringBuilder" "coder" "B" u2) (g_a1 : n0 ≤ a1) :
    Met l Z (⟨"java/lang/AbstractStringBuilder", "<init>", "(I)V"⟩ : MethodName) jdk_68_method_2_code 2 none ws ({ frames := 1, cells := 1, slots := 16, locals := 12 } : Room) #[(.ref a1), (.int (16 : Int32))] h0 (Q_asb Z a1 cs u1 u2 h0 n0) := by
  refine Met.start (plainFor_of_name pn_3) ?_
  intro p e s m below meth c T X hx hby hml hown hnm hret hlk hZ eT
  have N := Fr.nil n0
  have K := Keep.refl h0 [a1]
  refine Wout.cast (g' := (mkF m 0 #[.val (.ref a1), .val (.int (16 : Int32))] [])) (by first | rfl | (simp [entryFrame, mkF, argsToLocals, Value.category]; done)) ?_
  refine o_aloadN X hx 1 (hb hby d_jdk_68_method_2_0) rfl rfl rfl ?_
  refine o_initO X hx hZ hown (hw _ (List.mem_of_getElem? (i := 66) rfl)) (hw _ (List.mem_of_getElem? (i := 14) rfl)) (hw _ (List.mem_of_getElem? (i := 15) rfl)) eT (by rw [hml]; rfl) (by decide) 0 (Nat.le_of_eq rfl) (by decide) 4 (hb hby d_jdk_68_method_2_1) rfl (fun T X eT => ?_)
  refine o_getS X hx hZ hown (host := "") (Or.inl (hw _ (List.mem_of_getElem? (i := 67) rfl))) Via.refl eT SC 7 (hb hby d_jdk_68_method_2_4) rfl (fun T X eT => ?_)
  refine o_ifF X hx 10 (hb hby d_jdk_68_method_2_7) rfl hcs ?_
  refine o_aloadN X hx 11 (hb hby d_jdk_68_method_2_10) rfl rfl rfl ?_
  refine o_iloadN X hx 12 (hb hby d_jdk_68_method_2_11) rfl rfl ?_
  refine o_newarray X hx hZ (hw _ (List.mem_of_getElem? (i := 0) rfl)) eT 14 (hb hby d_jdk_68_method_2_12) rfl (by decide) 16 (by decide) (by decide) (by decide) (by decide) (fun T h1 b1 k1 hb1 X eT E A => ?_)
  have ne_a1_b1 : a1 ≠ b1 := Nat.ne_of_lt (Nat.lt_of_lt_of_eq E_a1.lt hb1.symm)
  have g_b1 : n0 ≤ b1 := Nat.le_trans Z0 (Nat.le_of_eq hb1.symm)
  have sz_b1 : h0.size ≤ b1 := Nat.le_trans K.1 (Nat.le_of_eq hb1.symm)
  replace E_a1 := E_a1.ext E
  replace F1 := F1.ext E
  replace F2 := F2.ext E
  replace Z0 := Nat.le_trans Z0 E.1
  replace K := K.ext E
  have V_b1 : Arv Z h1 b1 k1 .byte (16 : Int32) [(.int (0 : Int32)), (.int (0 : Int32)), (.int (0 : Int32)), (.int (0 : Int32)), (.int (0 : Int32)), (.int (0 : Int32)), (.int (0 : Int32)), (.int (0 : Int32)), (.int (0 : Int32)), (.int (0 : Int32)), (.int (0 : Int32)), (.int (0 : Int32)), (.int (0 : Int32)), (.int (0 : Int32)), (.int (0 : Int32)), (.int (0 : Int32))] (.int (0 : Int32)) := A.pad (pad_rep [] (.int (0 : Int32)) 16)
  clear V_b1
  refine o_putF X hx hZ (.array .byte) hown (host := "") (Or.inl (hw _ (List.mem_of_getElem? (i := 69) rfl))) Via.refl eT F1 E_a1 (Or.inl (hw _ (List.mem_of_getElem? (i := 70) rfl))) (hw _ (List.mem_of_getElem? (i := 55) rfl)) (by decide) rfl rfl N g_a1 17 (hb hby d_jdk_68_method_2_14) rfl (fun T h2 locs X eT W N => ?_)
  replace E_a1 := E_a1.wr W
  replace F1 := F1.same W
  replace F2 := F2.other W (Or.inr (slot_ne (Or.inl (hw _ (List.mem_of_getElem? (i := 72) rfl))) (Or.inl (hw _ (List.mem_of_getElem? (i := 70) rfl))) (by decide) (t := .byte) (t' := (.array .byte)) (by decide) (by decide)))
  replace Z0 := Nat.le_trans Z0 (Keep.of_wr W).1
  replace K := K.wr W (Or.inl (List.mem_of_getElem? (i := 0) rfl))
  refine o_aloadN X hx 18 (hb hby d_jdk_68_method_2_17) rfl rfl rfl ?_
  refine o_iconst X hx 19 (0 : Int32) (hb hby d_jdk_68_method_2_18) rfl rfl ?_
  refine o_putFN X hx hZ .byte hown (hw _ (List.mem_of_getElem? (i := 71) rfl)) Via.refl eT F2 E_a1 (Or.inl (hw _ (List.mem_of_getElem? (i := 72) rfl))) (hw _ (List.mem_of_getElem? (i := 55) rfl)) (v' := (.int (nar .byte (0 : Int32)))) (by decide) rfl (fits_nar_byte _) N g_a1 22 (hb hby d_jdk_68_method_2_19) rfl (fun T h3 locs X eT W N => ?_)
  replace E_a1 := E_a1.wr W
  replace F1 := F1.other W (Or.inr (slot_ne (Or.inl (hw _ (List.mem_of_getElem? (i := 70) rfl))) (Or.inl (hw _ (List.mem_of_getElem? (i := 72) rfl))) (by decide) (t := (.array .byte)) (t' := .byte) (by decide) (by decide)))
  replace F2 := F2.same W
  replace Z0 := Nat.le_trans Z0 (Keep.of_wr W).1
  replace K := K.wr W (Or.inl (List.mem_of_getElem? (i := 0) rfl))
  refine o_goto X hx 38 (hb hby d_jdk_68_method_2_22) rfl ?_
  exact o_retV X hx hlk hret (hb hby d_jdk_68_method_2_38) (by decide) (by decide) (by rw [eT]; exact ⟨rfl, N, K⟩)
theorem d_jdk_67_method_1_0 : decode jdk_67_method_1_code 0 = .ok (.aload_n 0, 1) := by decide +kernel
theorem d_jdk_67_method_1_1 : decode jdk_67_method_1_code 1 = .ok (.bipush 16, 2) := by decide +kernel
theorem d_jdk_67_method_1_3 : decode jdk_67_method_1_code 3 = .ok (.invokespecial 1, 3) := by decide +kernel
theorem d_jdk_67_method_1_6 : decode jdk_67_method_1_code 6 = .ok (.return_, 1) := by decide +kernel
theorem pn_4 : plainName "java/lang/StringBuilder" = true := by first | (simp [plainName, overriddenIn]; done) | decide +kernel
theorem pd_1 : parseMethodDescriptor "(I)V" = some ⟨[.int], none⟩ := by decide +kernel
def Q_sb (Z : State) (a1 : Addr) (cs : Int32) (u1 u2 : Value) (h0 : Heap) (n0 : Nat) (v : Option Value) (h : Heap) (L : List Loc) : Prop := v = none ∧ Fr n0 L ∧ Keep h0 h [a1]
set_option maxRecDepth 65536 in
set_option maxHeartbeats 40000000 in
theorem rm_sb (l : Launch) (Z : State) (a0 : Array Value) (hw : ∀ d ∈ own_words, d.before a0 Z = true) (ws : List Jvm.Cond) (a1 : Addr) (cs : Int32) (u1 u2 : Value) (h0 : Heap) (n0 : Nat) (Z0 : n0 ≤ h0.size) (SC : Sta Z h0 "java/lang/String" "COMPACT_STRINGS" "Z" (.int cs)) (hcs : ¬ cs = 0) (E_a1 : Exa Z h0 a1 "java/lang/StringBuilder") (F1 : Fld Z h0 a1 "java/lang/AbstractStringBuilder" "value" "[B" u1) (F2 : Fld Z h0 a1 "java/lang/AbstractStringBuilder" "coder" "B" u2) (g_a1 : n0 ≤ a1) :
    Met l Z (⟨"java/lang/StringBuilder", "<init>", "()V"⟩ : MethodName) jdk_67_method_1_code 1 none ws ({ frames := 2, cells := 1, slots := 16, locals := 25 } : Room) #[(.ref a1)] h0 (Q_sb Z a1 cs u1 u2 h0 n0) := by
  refine Met.start (plainFor_of_name pn_4) ?_
  intro p e s m below meth c T X hx hby hml hown hnm hret hlk hZ eT
  have N := Fr.nil n0
  have K := Keep.refl h0 [a1]
  refine Wout.cast (g' := (mkF m 0 #[.val (.ref a1)] [])) (by first | rfl | (simp [entryFrame, mkF, argsToLocals, Value.category]; done)) ?_
  refine o_aloadN X hx 1 (hb hby d_jdk_67_method_1_0) rfl rfl rfl ?_
  refine o_bipush X hx 3 (16 : Int32) (hb hby d_jdk_67_method_1_1) rfl rfl ?_
  refine o_callI X hx hZ rfl hown (hw _ (List.mem_of_getElem? (i := 60) rfl)) (hw _ (List.mem_of_getElem? (i := 61) rfl)) (hw _ (List.mem_of_getElem? (i := 64) rfl)) (hw _ (List.mem_of_getElem? (i := 65) rfl)) (by decide) (rm_asb l Z a0 hw [] a1 cs _ _ _ n0 Z0 SC hcs E_a1 F1 F2 g_a1) eT (by decide) 0 (by decide) (by rw [hml]; rfl) [(.int (16 : Int32))] (rest := []) (lenOf pd_1 rfl) rfl rfl (Nat.le_of_eq rfl) (by decide) (by decide) 6 (hb hby d_jdk_67_method_1_3) rfl (fun v T h1 Lc X eT q => ?_)
  obtain ⟨rfl, N', K1⟩ := q
  replace N := Fr.app N N'
  show Wout p e below _ T (mkF m 6 #[.val (.ref a1)] [])
  exact o_retV X hx hlk hret (hb hby d_jdk_67_method_1_6) (by decide) (by decide) (by rw [eT]; exact ⟨rfl, N, K1⟩)
theorem d_prog_43_method_1_0 : decode prog_43_method_1_code 0 = .ok (.aload_n 0, 1) := by decide +kernel
theorem d_prog_43_method_1_1 : decode prog_43_method_1_code 1 = .ok (.invokespecial 1, 3) := by decide +kernel
theorem d_prog_43_method_1_4 : decode prog_43_method_1_code 4 = .ok (.aload_n 0, 1) := by decide +kernel
theorem d_prog_43_method_1_5 : decode prog_43_method_1_code 5 = .ok (.new 7, 3) := by decide +kernel
theorem d_prog_43_method_1_8 : decode prog_43_method_1_code 8 = .ok (.dup, 1) := by decide +kernel
theorem d_prog_43_method_1_9 : decode prog_43_method_1_code 9 = .ok (.invokespecial 9, 3) := by decide +kernel
theorem d_prog_43_method_1_12 : decode prog_43_method_1_code 12 = .ok (.putfield 10, 3) := by decide +kernel
theorem d_prog_43_method_1_15 : decode prog_43_method_1_code 15 = .ok (.aload_n 0, 1) := by decide +kernel
theorem d_prog_43_method_1_16 : decode prog_43_method_1_code 16 = .ok (.bipush 32, 2) := by decide +kernel
theorem d_prog_43_method_1_18 : decode prog_43_method_1_code 18 = .ok (.anewarray 16, 3) := by decide +kernel
theorem d_prog_43_method_1_21 : decode prog_43_method_1_code 21 = .ok (.putfield 18, 3) := by decide +kernel
theorem d_prog_43_method_1_24 : decode prog_43_method_1_code 24 = .ok (.aload_n 0, 1) := by decide +kernel
theorem d_prog_43_method_1_25 : decode prog_43_method_1_code 25 = .ok (.bipush 32, 2) := by decide +kernel
theorem d_prog_43_method_1_27 : decode prog_43_method_1_code 27 = .ok (.newarray .long, 2) := by decide +kernel
theorem d_prog_43_method_1_29 : decode prog_43_method_1_code 29 = .ok (.putfield 22, 3) := by decide +kernel
theorem d_prog_43_method_1_32 : decode prog_43_method_1_code 32 = .ok (.aload_n 0, 1) := by decide +kernel
theorem d_prog_43_method_1_33 : decode prog_43_method_1_code 33 = .ok (.bipush 32, 2) := by decide +kernel
theorem d_prog_43_method_1_35 : decode prog_43_method_1_code 35 = .ok (.newarray .int, 2) := by decide +kernel
theorem d_prog_43_method_1_37 : decode prog_43_method_1_code 37 = .ok (.putfield 26, 3) := by decide +kernel
theorem d_prog_43_method_1_40 : decode prog_43_method_1_code 40 = .ok (.return_, 1) := by decide +kernel
theorem pn_5 : plainName "com/example/libjpatch/libjpatch/JsonReader" = true := by first | (simp [plainName, overriddenIn]; done) | decide +kernel
def Q_jr (Z : State) (a1 ed : Addr) (cs : Int32) (u_containers u_sharedNames u_sharedKeys u_sharedStarts u_latin1 u_wide u_utf8 : Value) (h0 : Heap) (n0 : Nat) (v : Option Value) (h : Heap) (L : List Loc) : Prop := v = none ∧ Fr n0 L ∧ Keep h0 h [a1] ∧ Exa Z h a1 "com/example/libjpatch/libjpatch/Utf8Reader" ∧ Fld Z h a1 "com/example/libjpatch/libjpatch/Utf8Reader" "latin1" "[B" u_latin1 ∧ Fld Z h a1 "com/example/libjpatch/libjpatch/Utf8Reader" "wide" "Ljava/lang/StringBuilder;" u_wide ∧ Fld Z h a1 "com/example/libjpatch/libjpatch/Utf8Reader" "utf8" "[B" u_utf8 ∧ Fld Z h a1 "com/example/libjpatch/libjpatch/JsonReader" "position" "I" (.int 0) ∧ Fld Z h a1 "com/example/libjpatch/libjpatch/JsonReader" "excess" "J" (.long 0)
set_option maxRecDepth 65536 in
set_option maxHeartbeats 40000000 in
theorem rm_jr (l : Launch) (Z : State) (a0 : Array Value) (hw : ∀ d ∈ own_words, d.before a0 Z = true) (ws : List Jvm.Cond) (a1 ed : Addr) (cs : Int32) (u_containers u_sharedNames u_sharedKeys u_sharedStarts u_latin1 u_wide u_utf8 : Value) (h0 : Heap) (n0 : Nat) (Z0 : n0 ≤ h0.size) (O : Old Z n0 h0) (SE : Sta Z Z.heap "java/util/ArrayList" "DEFAULTCAPACITY_EMPTY_ELEMENTDATA" "[Ljava/lang/Object;" (.ref ed)) (SC : Sta Z Z.heap "java/lang/String" "COMPACT_STRINGS" "Z" (.int cs)) (hcs : ¬ cs = 0) (E_a1 : Exa Z h0 a1 "com/example/libjpatch/libjpatch/Utf8Reader") (F_containers : Fld Z h0 a1 "com/example/libjpatch/libjpatch/JsonReader" "containers" "Ljava/util/ArrayList;" u_containers) (F_sharedNames : Fld Z h0 a1 "com/example/libjpatch/libjpatch/JsonReader" "sharedNames" "[Ljava/lang/String;" u_sharedNames) (F_sharedKeys : Fld Z h0 a1 "com/example/libjpatch/libjpatch/JsonReader" "sharedKeys" "[J" u_sharedKeys) (F_sharedStarts : Fld Z h0 a1 "com/example/libjpatch/libjpatch/JsonReader" "sharedStarts" "[I" u_sharedStarts) (F_latin1 : Fld Z h0 a1 "com/example/libjpatch/libjpatch/Utf8Reader" "latin1" "[B" u_latin1) (F_wide : Fld Z h0 a1 "com/example/libjpatch/libjpatch/Utf8Reader" "wide" "Ljava/lang/StringBuilder;" u_wide) (F_utf8 : Fld Z h0 a1 "com/example/libjpatch/libjpatch/Utf8Reader" "utf8" "[B" u_utf8) (F_position : Fld Z h0 a1 "com/example/libjpatch/libjpatch/JsonReader" "position" "I" (.int 0)) (F_excess : Fld Z h0 a1 "com/example/libjpatch/libjpatch/JsonReader" "excess" "J" (.long 0)) (g_a1 : n0 ≤ a1) :
    Met l Z (⟨"com/example/libjpatch/libjpatch/JsonReader", "<init>", "()V"⟩ : MethodName) prog_43_method_1_code 1 none ws ({ frames := 4, cells := 4, slots := 99, locals := 50 } : Room) #[(.ref a1)] h0 (Q_jr Z a1 ed cs u_containers u_sharedNames u_sharedKeys u_sharedStarts u_latin1 u_wide u_utf8 h0 n0) := by
  refine Met.start (plainFor_of_name pn_5) ?_
  intro p e s m below meth c T X hx hby hml hown hnm hret hlk hZ eT
  have N := Fr.nil n0
  have K := Keep.refl h0 [a1]
  refine Wout.cast (g' := (mkF m 0 #[.val (.ref a1)] [])) (by first | rfl | (simp [entryFrame, mkF, argsToLocals, Value.category]; done)) ?_
  refine o_aloadN X hx 1 (hb hby d_prog_43_method_1_0) rfl rfl rfl ?_
  refine o_initO X hx hZ hown (hw _ (List.mem_of_getElem? (i := 13) rfl)) (hw _ (List.mem_of_getElem? (i := 14) rfl)) (hw _ (List.mem_of_getElem? (i := 15) rfl)) eT (by rw [hml]; rfl) (by decide) 0 (Nat.le_of_eq rfl) (by decide) 4 (hb hby d_prog_43_method_1_1) rfl (fun T X eT => ?_)
  refine o_aloadN X hx 5 (hb hby d_prog_43_method_1_4) rfl rfl rfl ?_
  refine o_new X hx hZ hown (hw _ (List.mem_of_getElem? (i := 16) rfl)) (hw _ (List.mem_of_getElem? (i := 17) rfl)) (hw _ (List.mem_of_getElem? (i := 18) rfl)) eT 8 (hb hby d_prog_43_method_1_5) rfl (by decide) (by decide) (fun T h1 b1 hb1 X eT E A D => ?_)
  have ne_a1_b1 : a1 ≠ b1 := Nat.ne_of_lt (Nat.lt_of_lt_of_eq E_a1.lt hb1.symm)
  have g_b1 : n0 ≤ b1 := Nat.le_trans Z0 (Nat.le_of_eq hb1.symm)
  have sz_b1 : h0.size ≤ b1 := Nat.le_trans K.1 (Nat.le_of_eq hb1.symm)
  replace E_a1 := E_a1.ext E
  replace F_containers := F_containers.ext E
  replace F_sharedNames := F_sharedNames.ext E
  replace F_sharedKeys := F_sharedKeys.ext E
  replace F_sharedStarts := F_sharedStarts.ext E
  replace F_latin1 := F_latin1.ext E
  replace F_wide := F_wide.ext E
  replace F_utf8 := F_utf8.ext E
  replace F_position := F_position.ext E
  replace F_excess := F_excess.ext E
  replace Z0 := Nat.le_trans Z0 E.1
  replace K := K.ext E
  replace O := O.ext E
  have E_b1 := A
  have F_modCount_b1 : Fld Z h1 b1 "java/util/AbstractList" "modCount" "I" (.int (0 : Int32)) := D (Or.inl (hw _ (List.mem_of_getElem? (i := 36) rfl))) (ty := .int) (by decide)
  have F_elementData_b1 : Fld Z h1 b1 "java/util/ArrayList" "elementData" "[Ljava/lang/Object;" .null := D (Or.inl (hw _ (List.mem_of_getElem? (i := 39) rfl))) (ty := (.array (.object "java/lang/Object"))) (by decide)
  refine o_dup X hx 9 (hb hby d_prog_43_method_1_8) rfl rfl ?_
  refine o_callI X hx hZ rfl hown (hw _ (List.mem_of_getElem? (i := 19) rfl)) (hw _ (List.mem_of_getElem? (i := 20) rfl)) (hw _ (List.mem_of_getElem? (i := 18) rfl)) (hw _ (List.mem_of_getElem? (i := 21) rfl)) (by decide) (rm_al l Z a0 hw [] b1 ed _ _ _ n0 Z0 O SE E_b1 F_modCount_b1 F_elementData_b1 g_b1) eT (by decide) 2 (by decide) (by rw [hml]; rfl) [] (rest := [(.ref b1), (.ref a1)]) (lenOf pd_0 rfl) rfl rfl (Nat.le_of_eq rfl) (by decide) (by decide) 12 (hb hby d_prog_43_method_1_9) rfl (fun v T h2 Lc X eT q => ?_)
  obtain ⟨rfl, N', K1⟩ := q
  replace N := Fr.app N N'
  replace E_a1 := E_a1.keep K1
  replace F_containers := F_containers.keep K1 (ninS ne_a1_b1 nin0)
  replace F_sharedNames := F_sharedNames.keep K1 (ninS ne_a1_b1 nin0)
  replace F_sharedKeys := F_sharedKeys.keep K1 (ninS ne_a1_b1 nin0)
  replace F_sharedStarts := F_sharedStarts.keep K1 (ninS ne_a1_b1 nin0)
  replace F_latin1 := F_latin1.keep K1 (ninS ne_a1_b1 nin0)
  replace F_wide := F_wide.keep K1 (ninS ne_a1_b1 nin0)
  replace F_utf8 := F_utf8.keep K1 (ninS ne_a1_b1 nin0)
  replace F_position := F_position.keep K1 (ninS ne_a1_b1 nin0)
  replace F_excess := F_excess.keep K1 (ninS ne_a1_b1 nin0)
  replace Z0 := Nat.le_trans Z0 K1.1
  replace K := K.trans K1 (allS (P := fun x => x ∈ [a1] ∨ h0.size ≤ x) (Or.inr sz_b1) all0)
  replace O := O.keep K1 (allS (P := fun x => n0 ≤ x) g_b1 all0)
  show Wout p e below _ T (mkF m 12 #[.val (.ref a1)] [(.ref b1), (.ref a1)])
  refine o_putF X hx hZ (.object "java/util/ArrayList") hown (host := "") (Or.inl (hw _ (List.mem_of_getElem? (i := 40) rfl))) Via.refl eT F_containers E_a1 (Or.inr ⟨(hw _ (List.mem_of_getElem? (i := 41) rfl)), rfl, hnm⟩) (hw _ (List.mem_of_getElem? (i := 3) rfl)) (by decide) rfl rfl N g_a1 15 (hb hby d_prog_43_method_1_12) rfl (fun T h3 locs X eT W N => ?_)
  replace E_a1 := E_a1.wr W
  replace F_containers := F_containers.same W
  replace F_sharedNames := F_sharedNames.other W (Or.inr (slot_ne (Or.inl (hw _ (List.mem_of_getElem? (i := 45) rfl))) (Or.inr (hw _ (List.mem_of_getElem? (i := 41) rfl))) (by decide) (t := (.array (.object "java/lang/String"))) (t' := (.object "java/util/ArrayList")) (by decide) (by decide)))
  replace F_sharedKeys := F_sharedKeys.other W (Or.inr (slot_ne (Or.inl (hw _ (List.mem_of_getElem? (i := 48) rfl))) (Or.inr (hw _ (List.mem_of_getElem? (i := 41) rfl))) (by decide) (t := (.array .long)) (t' := (.object "java/util/ArrayList")) (by decide) (by decide)))
  replace F_sharedStarts := F_sharedStarts.other W (Or.inr (slot_ne (Or.inl (hw _ (List.mem_of_getElem? (i := 51) rfl))) (Or.inr (hw _ (List.mem_of_getElem? (i := 41) rfl))) (by decide) (t := (.array .int)) (t' := (.object "java/util/ArrayList")) (by decide) (by decide)))
  replace F_latin1 := F_latin1.other W (Or.inr (slot_ne (Or.inl (hw _ (List.mem_of_getElem? (i := 53) rfl))) (Or.inr (hw _ (List.mem_of_getElem? (i := 41) rfl))) (by decide) (t := (.array .byte)) (t' := (.object "java/util/ArrayList")) (by decide) (by decide)))
  replace F_wide := F_wide.other W (Or.inr (slot_ne (Or.inr (hw _ (List.mem_of_getElem? (i := 74) rfl))) (Or.inr (hw _ (List.mem_of_getElem? (i := 41) rfl))) (by decide) (t := (.object "java/lang/StringBuilder")) (t' := (.object "java/util/ArrayList")) (by decide) (by decide)))
  replace F_utf8 := F_utf8.other W (Or.inr (slot_ne (Or.inr (hw _ (List.mem_of_getElem? (i := 76) rfl))) (Or.inr (hw _ (List.mem_of_getElem? (i := 41) rfl))) (by decide) (t := (.array .byte)) (t' := (.object "java/util/ArrayList")) (by decide) (by decide)))
  replace F_position := F_position.other W (Or.inr (slot_ne (Or.inl (hw _ (List.mem_of_getElem? (i := 79) rfl))) (Or.inr (hw _ (List.mem_of_getElem? (i := 41) rfl))) (by decide) (t := .int) (t' := (.object "java/util/ArrayList")) (by decide) (by decide)))
  replace F_excess := F_excess.other W (Or.inr (slot_ne (Or.inl (hw _ (List.mem_of_getElem? (i := 88) rfl))) (Or.inr (hw _ (List.mem_of_getElem? (i := 41) rfl))) (by decide) (t := .long) (t' := (.object "java/util/ArrayList")) (by decide) (by decide)))
  replace Z0 := Nat.le_trans Z0 (Keep.of_wr W).1
  replace K := K.wr W (Or.inl (List.mem_of_getElem? (i := 0) rfl))
  replace O := O.wr W g_a1
  refine o_aloadN X hx 16 (hb hby d_prog_43_method_1_15) rfl rfl rfl ?_
  refine o_bipush X hx 18 (32 : Int32) (hb hby d_prog_43_method_1_16) rfl rfl ?_
  refine o_anewarray X hx hZ hown (hw _ (List.mem_of_getElem? (i := 42) rfl)) (hw _ (List.mem_of_getElem? (i := 43) rfl)) eT 21 (hb hby d_prog_43_method_1_18) rfl (by decide) 32 (by decide) (by decide) (by decide) (by decide) (fun T h4 b4 k4 hb4 X eT E A Ov4 => ?_)
  have ne_a1_b4 : a1 ≠ b4 := Nat.ne_of_lt (Nat.lt_of_lt_of_eq E_a1.lt hb4.symm)
  have g_b4 : n0 ≤ b4 := Nat.le_trans Z0 (Nat.le_of_eq hb4.symm)
  have sz_b4 : h0.size ≤ b4 := Nat.le_trans K.1 (Nat.le_of_eq hb4.symm)
  replace E_a1 := E_a1.ext E
  replace F_containers := F_containers.ext E
  replace F_sharedNames := F_sharedNames.ext E
  replace F_sharedKeys := F_sharedKeys.ext E
  replace F_sharedStarts := F_sharedStarts.ext E
  replace F_latin1 := F_latin1.ext E
  replace F_wide := F_wide.ext E
  replace F_utf8 := F_utf8.ext E
  replace F_position := F_position.ext E
  replace F_excess := F_excess.ext E
  replace Z0 := Nat.le_trans Z0 E.1
  replace K := K.ext E
  replace O := O.ext E
  have V_b4 : Arv Z h4 b4 k4 (.object "java/lang/String") (32 : Int32) [.null, .null, .null, .null, .null, .null, .null, .null, .null, .null, .null, .null, .null, .null, .null, .null, .null, .null, .null, .null, .null, .null, .null, .null, .null, .null, .null, .null, .null, .null, .null, .null] .null := A.pad (pad_rep [] .null 32)
  clear V_b4
  refine o_putF X hx hZ (.array (.object "java/lang/String")) hown (host := "") (Or.inl (hw _ (List.mem_of_getElem? (i := 44) rfl))) Via.refl eT F_sharedNames E_a1 (Or.inl (hw _ (List.mem_of_getElem? (i := 45) rfl))) (hw _ (List.mem_of_getElem? (i := 3) rfl)) (by decide) rfl rfl N g_a1 24 (hb hby d_prog_43_method_1_21) rfl (fun T h5 locs X eT W N => ?_)
  replace E_a1 := E_a1.wr W
  replace F_containers := F_containers.other W (Or.inr (slot_ne (Or.inr (hw _ (List.mem_of_getElem? (i := 41) rfl))) (Or.inl (hw _ (List.mem_of_getElem? (i := 45) rfl))) (by decide) (t := (.object "java/util/ArrayList")) (t' := (.array (.object "java/lang/String"))) (by decide) (by decide)))
  replace F_sharedNames := F_sharedNames.same W
  replace F_sharedKeys := F_sharedKeys.other W (Or.inr (slot_ne (Or.inl (hw _ (List.mem_of_getElem? (i := 48) rfl))) (Or.inl (hw _ (List.mem_of_getElem? (i := 45) rfl))) (by decide) (t := (.array .long)) (t' := (.array (.object "java/lang/String"))) (by decide) (by decide)))
  replace F_sharedStarts := F_sharedStarts.other W (Or.inr (slot_ne (Or.inl (hw _ (List.mem_of_getElem? (i := 51) rfl))) (Or.inl (hw _ (List.mem_of_getElem? (i := 45) rfl))) (by decide) (t := (.array .int)) (t' := (.array (.object "java/lang/String"))) (by decide) (by decide)))
  replace F_latin1 := F_latin1.other W (Or.inr (slot_ne (Or.inl (hw _ (List.mem_of_getElem? (i := 53) rfl))) (Or.inl (hw _ (List.mem_of_getElem? (i := 45) rfl))) (by decide) (t := (.array .byte)) (t' := (.array (.object "java/lang/String"))) (by decide) (by decide)))
  replace F_wide := F_wide.other W (Or.inr (slot_ne (Or.inr (hw _ (List.mem_of_getElem? (i := 74) rfl))) (Or.inl (hw _ (List.mem_of_getElem? (i := 45) rfl))) (by decide) (t := (.object "java/lang/StringBuilder")) (t' := (.array (.object "java/lang/String"))) (by decide) (by decide)))
  replace F_utf8 := F_utf8.other W (Or.inr (slot_ne (Or.inr (hw _ (List.mem_of_getElem? (i := 76) rfl))) (Or.inl (hw _ (List.mem_of_getElem? (i := 45) rfl))) (by decide) (t := (.array .byte)) (t' := (.array (.object "java/lang/String"))) (by decide) (by decide)))
  replace F_position := F_position.other W (Or.inr (slot_ne (Or.inl (hw _ (List.mem_of_getElem? (i := 79) rfl))) (Or.inl (hw _ (List.mem_of_getElem? (i := 45) rfl))) (by decide) (t := .int) (t' := (.array (.object "java/lang/String"))) (by decide) (by decide)))
  replace F_excess := F_excess.other W (Or.inr (slot_ne (Or.inl (hw _ (List.mem_of_getElem? (i := 88) rfl))) (Or.inl (hw _ (List.mem_of_getElem? (i := 45) rfl))) (by decide) (t := .long) (t' := (.array (.object "java/lang/String"))) (by decide) (by decide)))
  replace Z0 := Nat.le_trans Z0 (Keep.of_wr W).1
  replace K := K.wr W (Or.inl (List.mem_of_getElem? (i := 0) rfl))
  replace O := O.wr W g_a1
  refine o_aloadN X hx 25 (hb hby d_prog_43_method_1_24) rfl rfl rfl ?_
  refine o_bipush X hx 27 (32 : Int32) (hb hby d_prog_43_method_1_25) rfl rfl ?_
  refine o_newarray X hx hZ (hw _ (List.mem_of_getElem? (i := 46) rfl)) eT 29 (hb hby d_prog_43_method_1_27) rfl (by decide) 32 (by decide) (by decide) (by decide) (by decide) (fun T h6 b6 k6 hb6 X eT E A => ?_)
  have ne_a1_b6 : a1 ≠ b6 := Nat.ne_of_lt (Nat.lt_of_lt_of_eq E_a1.lt hb6.symm)
  have g_b6 : n0 ≤ b6 := Nat.le_trans Z0 (Nat.le_of_eq hb6.symm)
  have sz_b6 : h0.size ≤ b6 := Nat.le_trans K.1 (Nat.le_of_eq hb6.symm)
  replace E_a1 := E_a1.ext E
  replace F_containers := F_containers.ext E
  replace F_sharedNames := F_sharedNames.ext E
  replace F_sharedKeys := F_sharedKeys.ext E
  replace F_sharedStarts := F_sharedStarts.ext E
  replace F_latin1 := F_latin1.ext E
  replace F_wide := F_wide.ext E
  replace F_utf8 := F_utf8.ext E
  replace F_position := F_position.ext E
  replace F_excess := F_excess.ext E
  replace Z0 := Nat.le_trans Z0 E.1
  replace K := K.ext E
  replace O := O.ext E
  have V_b6 : Arv Z h6 b6 k6 .long (32 : Int32) [(.long (0 : Int64)), (.long (0 : Int64)), (.long (0 : Int64)), (.long (0 : Int64)), (.long (0 : Int64)), (.long (0 : Int64)), (.long (0 : Int64)), (.long (0 : Int64)), (.long (0 : Int64)), (.long (0 : Int64)), (.long (0 : Int64)), (.long (0 : Int64)), (.long (0 : Int64)), (.long (0 : Int64)), (.long (0 : Int64)), (.long (0 : Int64)), (.long (0 : Int64)), (.long (0 : Int64)), (.long (0 : Int64)), (.long (0 : Int64)), (.long (0 : Int64)), (.long (0 : Int64)), (.long (0 : Int64)), (.long (0 : Int64)), (.long (0 : Int64)), (.long (0 : Int64)), (.long (0 : Int64)), (.long (0 : Int64)), (.long (0 : Int64)), (.long (0 : Int64)), (.long (0 : Int64)), (.long (0 : Int64))] (.long (0 : Int64)) := A.pad (pad_rep [] (.long (0 : Int64)) 32)
  clear V_b6
  refine o_putF X hx hZ (.array .long) hown (host := "") (Or.inl (hw _ (List.mem_of_getElem? (i := 47) rfl))) Via.refl eT F_sharedKeys E_a1 (Or.inl (hw _ (List.mem_of_getElem? (i := 48) rfl))) (hw _ (List.mem_of_getElem? (i := 3) rfl)) (by decide) rfl rfl N g_a1 32 (hb hby d_prog_43_method_1_29) rfl (fun T h7 locs X eT W N => ?_)
  replace E_a1 := E_a1.wr W
  replace F_containers := F_containers.other W (Or.inr (slot_ne (Or.inr (hw _ (List.mem_of_getElem? (i := 41) rfl))) (Or.inl (hw _ (List.mem_of_getElem? (i := 48) rfl))) (by decide) (t := (.object "java/util/ArrayList")) (t' := (.array .long)) (by decide) (by decide)))
  replace F_sharedNames := F_sharedNames.other W (Or.inr (slot_ne (Or.inl (hw _ (List.mem_of_getElem? (i := 45) rfl))) (Or.inl (hw _ (List.mem_of_getElem? (i := 48) rfl))) (by decide) (t := (.array (.object "java/lang/String"))) (t' := (.array .long)) (by decide) (by decide)))
  replace F_sharedKeys := F_sharedKeys.same W
  replace F_sharedStarts := F_sharedStarts.other W (Or.inr (slot_ne (Or.inl (hw _ (List.mem_of_getElem? (i := 51) rfl))) (Or.inl (hw _ (List.mem_of_getElem? (i := 48) rfl))) (by decide) (t := (.array .int)) (t' := (.array .long)) (by decide) (by decide)))
  replace F_latin1 := F_latin1.other W (Or.inr (slot_ne (Or.inl (hw _ (List.mem_of_getElem? (i := 53) rfl))) (Or.inl (hw _ (List.mem_of_getElem? (i := 48) rfl))) (by decide) (t := (.array .byte)) (t' := (.array .long)) (by decide) (by decide)))
  replace F_wide := F_wide.other W (Or.inr (slot_ne (Or.inr (hw _ (List.mem_of_getElem? (i := 74) rfl))) (Or.inl (hw _ (List.mem_of_getElem? (i := 48) rfl))) (by decide) (t := (.object "java/lang/StringBuilder")) (t' := (.array .long)) (by decide) (by decide)))
  replace F_utf8 := F_utf8.other W (Or.inr (slot_ne (Or.inr (hw _ (List.mem_of_getElem? (i := 76) rfl))) (Or.inl (hw _ (List.mem_of_getElem? (i := 48) rfl))) (by decide) (t := (.array .byte)) (t' := (.array .long)) (by decide) (by decide)))
  replace F_position := F_position.other W (Or.inr (slot_ne (Or.inl (hw _ (List.mem_of_getElem? (i := 79) rfl))) (Or.inl (hw _ (List.mem_of_getElem? (i := 48) rfl))) (by decide) (t := .int) (t' := (.array .long)) (by decide) (by decide)))
  replace F_excess := F_excess.other W (Or.inr (slot_ne (Or.inl (hw _ (List.mem_of_getElem? (i := 88) rfl))) (Or.inl (hw _ (List.mem_of_getElem? (i := 48) rfl))) (by decide) (t := .long) (t' := (.array .long)) (by decide) (by decide)))
  replace Z0 := Nat.le_trans Z0 (Keep.of_wr W).1
  replace K := K.wr W (Or.inl (List.mem_of_getElem? (i := 0) rfl))
  replace O := O.wr W g_a1
  refine o_aloadN X hx 33 (hb hby d_prog_43_method_1_32) rfl rfl rfl ?_
  refine o_bipush X hx 35 (32 : Int32) (hb hby d_prog_43_method_1_33) rfl rfl ?_
  refine o_newarray X hx hZ (hw _ (List.mem_of_getElem? (i := 49) rfl)) eT 37 (hb hby d_prog_43_method_1_35) rfl (by decide) 32 (by decide) (by decide) (by decide) (by decide) (fun T h8 b8 k8 hb8 X eT E A => ?_)
  have ne_a1_b8 : a1 ≠ b8 := Nat.ne_of_lt (Nat.lt_of_lt_of_eq E_a1.lt hb8.symm)
  have g_b8 : n0 ≤ b8 := Nat.le_trans Z0 (Nat.le_of_eq hb8.symm)
  have sz_b8 : h0.size ≤ b8 := Nat.le_trans K.1 (Nat.le_of_eq hb8.symm)
  replace E_a1 := E_a1.ext E
  replace F_containers := F_containers.ext E
  replace F_sharedNames := F_sharedNames.ext E
  replace F_sharedKeys := F_sharedKeys.ext E
  replace F_sharedStarts := F_sharedStarts.ext E
  replace F_latin1 := F_latin1.ext E
  replace F_wide := F_wide.ext E
  replace F_utf8 := F_utf8.ext E
  replace F_position := F_position.ext E
  replace F_excess := F_excess.ext E
  replace Z0 := Nat.le_trans Z0 E.1
  replace K := K.ext E
  replace O := O.ext E
  have V_b8 : Arv Z h8 b8 k8 .int (32 : Int32) [(.int (0 : Int32)), (.int (0 : Int32)), (.int (0 : Int32)), (.int (0 : Int32)), (.int (0 : Int32)), (.int (0 : Int32)), (.int (0 : Int32)), (.int (0 : Int32)), (.int (0 : Int32)), (.int (0 : Int32)), (.int (0 : Int32)), (.int (0 : Int32)), (.int (0 : Int32)), (.int (0 : Int32)), (.int (0 : Int32)), (.int (0 : Int32)), (.int (0 : Int32)), (.int (0 : Int32)), (.int (0 : Int32)), (.int (0 : Int32)), (.int (0 : Int32)), (.int (0 : Int32)), (.int (0 : Int32)), (.int (0 : Int32)), (.int (0 : Int32)), (.int (0 : Int32)), (.int (0 : Int32)), (.int (0 : Int32)), (.int (0 : Int32)), (.int (0 : Int32)), (.int (0 : Int32)), (.int (0 : Int32))] (.int (0 : Int32)) := A.pad (pad_rep [] (.int (0 : Int32)) 32)
  clear V_b8
  refine o_putF X hx hZ (.array .int) hown (host := "") (Or.inl (hw _ (List.mem_of_getElem? (i := 50) rfl))) Via.refl eT F_sharedStarts E_a1 (Or.inl (hw _ (List.mem_of_getElem? (i := 51) rfl))) (hw _ (List.mem_of_getElem? (i := 3) rfl)) (by decide) rfl rfl N g_a1 40 (hb hby d_prog_43_method_1_37) rfl (fun T h9 locs X eT W N => ?_)
  replace E_a1 := E_a1.wr W
  replace F_containers := F_containers.other W (Or.inr (slot_ne (Or.inr (hw _ (List.mem_of_getElem? (i := 41) rfl))) (Or.inl (hw _ (List.mem_of_getElem? (i := 51) rfl))) (by decide) (t := (.object "java/util/ArrayList")) (t' := (.array .int)) (by decide) (by decide)))
  replace F_sharedNames := F_sharedNames.other W (Or.inr (slot_ne (Or.inl (hw _ (List.mem_of_getElem? (i := 45) rfl))) (Or.inl (hw _ (List.mem_of_getElem? (i := 51) rfl))) (by decide) (t := (.array (.object "java/lang/String"))) (t' := (.array .int)) (by decide) (by decide)))
  replace F_sharedKeys := F_sharedKeys.other W (Or.inr (slot_ne (Or.inl (hw _ (List.mem_of_getElem? (i := 48) rfl))) (Or.inl (hw _ (List.mem_of_getElem? (i := 51) rfl))) (by decide) (t := (.array .long)) (t' := (.array .int)) (by decide) (by decide)))
  replace F_sharedStarts := F_sharedStarts.same W
  replace F_latin1 := F_latin1.other W (Or.inr (slot_ne (Or.inl (hw _ (List.mem_of_getElem? (i := 53) rfl))) (Or.inl (hw _ (List.mem_of_getElem? (i := 51) rfl))) (by decide) (t := (.array .byte)) (t' := (.array .int)) (by decide) (by decide)))
  replace F_wide := F_wide.other W (Or.inr (slot_ne (Or.inr (hw _ (List.mem_of_getElem? (i := 74) rfl))) (Or.inl (hw _ (List.mem_of_getElem? (i := 51) rfl))) (by decide) (t := (.object "java/lang/StringBuilder")) (t' := (.array .int)) (by decide) (by decide)))
  replace F_utf8 := F_utf8.other W (Or.inr (slot_ne (Or.inr (hw _ (List.mem_of_getElem? (i := 76) rfl))) (Or.inl (hw _ (List.mem_of_getElem? (i := 51) rfl))) (by decide) (t := (.array .byte)) (t' := (.array .int)) (by decide) (by decide)))
  replace F_position := F_position.other W (Or.inr (slot_ne (Or.inl (hw _ (List.mem_of_getElem? (i := 79) rfl))) (Or.inl (hw _ (List.mem_of_getElem? (i := 51) rfl))) (by decide) (t := .int) (t' := (.array .int)) (by decide) (by decide)))
  replace F_excess := F_excess.other W (Or.inr (slot_ne (Or.inl (hw _ (List.mem_of_getElem? (i := 88) rfl))) (Or.inl (hw _ (List.mem_of_getElem? (i := 51) rfl))) (by decide) (t := .long) (t' := (.array .int)) (by decide) (by decide)))
  replace Z0 := Nat.le_trans Z0 (Keep.of_wr W).1
  replace K := K.wr W (Or.inl (List.mem_of_getElem? (i := 0) rfl))
  replace O := O.wr W g_a1
  exact o_retV X hx hlk hret (hb hby d_prog_43_method_1_40) (by decide) (by decide) (by rw [eT]; exact ⟨rfl, N, K, E_a1, F_latin1, F_wide, F_utf8, F_position, F_excess⟩)
theorem d_prog_101_method_1_0 : decode prog_101_method_1_code 0 = .ok (.aload_n 0, 1) := by decide +kernel
theorem d_prog_101_method_1_1 : decode prog_101_method_1_code 1 = .ok (.invokespecial 1, 3) := by decide +kernel
theorem d_prog_101_method_1_4 : decode prog_101_method_1_code 4 = .ok (.aload_n 0, 1) := by decide +kernel
theorem d_prog_101_method_1_5 : decode prog_101_method_1_code 5 = .ok (.bipush 64, 2) := by decide +kernel
theorem d_prog_101_method_1_7 : decode prog_101_method_1_code 7 = .ok (.newarray .byte, 2) := by decide +kernel
theorem d_prog_101_method_1_9 : decode prog_101_method_1_code 9 = .ok (.putfield 7, 3) := by decide +kernel
theorem d_prog_101_method_1_12 : decode prog_101_method_1_code 12 = .ok (.aload_n 0, 1) := by decide +kernel
theorem d_prog_101_method_1_13 : decode prog_101_method_1_code 13 = .ok (.new 13, 3) := by decide +kernel
theorem d_prog_101_method_1_16 : decode prog_101_method_1_code 16 = .ok (.dup, 1) := by decide +kernel
theorem d_prog_101_method_1_17 : decode prog_101_method_1_code 17 = .ok (.invokespecial 15, 3) := by decide +kernel
theorem d_prog_101_method_1_20 : decode prog_101_method_1_code 20 = .ok (.putfield 16, 3) := by decide +kernel
theorem d_prog_101_method_1_23 : decode prog_101_method_1_code 23 = .ok (.aload_n 0, 1) := by decide +kernel
theorem d_prog_101_method_1_24 : decode prog_101_method_1_code 24 = .ok (.aload_n 1, 1) := by decide +kernel
theorem d_prog_101_method_1_25 : decode prog_101_method_1_code 25 = .ok (.putfield 20, 3) := by decide +kernel
theorem d_prog_101_method_1_28 : decode prog_101_method_1_code 28 = .ok (.return_, 1) := by decide +kernel
theorem pn_6 : plainName "com/example/libjpatch/libjpatch/Utf8Reader" = true := by first | (simp [plainName, overriddenIn]; done) | decide +kernel
def Q_ur (Z : State) (a1 a2 ed : Addr) (cs : Int32) (u_containers u_sharedNames u_sharedKeys u_sharedStarts u_latin1 u_wide u_utf8 : Value) (h0 : Heap) (n0 : Nat) (v : Option Value) (h : Heap) (L : List Loc) : Prop := v = none ∧ Fr n0 L ∧ Keep h0 h [a1] ∧ Exa Z h a1 "com/example/libjpatch/libjpatch/Utf8Reader" ∧ Fld Z h a1 "com/example/libjpatch/libjpatch/Utf8Reader" "utf8" "[B" (.ref a2) ∧ Fld Z h a1 "com/example/libjpatch/libjpatch/JsonReader" "position" "I" (.int 0) ∧ Fld Z h a1 "com/example/libjpatch/libjpatch/JsonReader" "excess" "J" (.long 0)
set_option maxRecDepth 65536 in
set_option maxHeartbeats 40000000 in
theorem rm_ur (l : Launch) (Z : State) (a0 : Array Value) (hw : ∀ d ∈ own_words, d.before a0 Z = true) (ws : List Jvm.Cond) (a1 a2 ed : Addr) (cs : Int32) (u_containers u_sharedNames u_sharedKeys u_sharedStarts u_latin1 u_wide u_utf8 : Value) (h0 : Heap) (n0 : Nat) (Z0 : n0 ≤ h0.size) (O : Old Z n0 h0) (SE : Sta Z Z.heap "java/util/ArrayList" "DEFAULTCAPACITY_EMPTY_ELEMENTDATA" "[Ljava/lang/Object;" (.ref ed)) (SC : Sta Z Z.heap "java/lang/String" "COMPACT_STRINGS" "Z" (.int cs)) (hcs : ¬ cs = 0) (E_a1 : Exa Z h0 a1 "com/example/libjpatch/libjpatch/Utf8Reader") (F_containers : Fld Z h0 a1 "com/example/libjpatch/libjpatch/JsonReader" "containers" "Ljava/util/ArrayList;" u_containers) (F_sharedNames : Fld Z h0 a1 "com/example/libjpatch/libjpatch/JsonReader" "sharedNames" "[Ljava/lang/String;" u_sharedNames) (F_sharedKeys : Fld Z h0 a1 "com/example/libjpatch/libjpatch/JsonReader" "sharedKeys" "[J" u_sharedKeys) (F_sharedStarts : Fld Z h0 a1 "com/example/libjpatch/libjpatch/JsonReader" "sharedStarts" "[I" u_sharedStarts) (F_latin1 : Fld Z h0 a1 "com/example/libjpatch/libjpatch/Utf8Reader" "latin1" "[B" u_latin1) (F_wide : Fld Z h0 a1 "com/example/libjpatch/libjpatch/Utf8Reader" "wide" "Ljava/lang/StringBuilder;" u_wide) (F_utf8 : Fld Z h0 a1 "com/example/libjpatch/libjpatch/Utf8Reader" "utf8" "[B" u_utf8) (F_position : Fld Z h0 a1 "com/example/libjpatch/libjpatch/JsonReader" "position" "I" (.int 0)) (F_excess : Fld Z h0 a1 "com/example/libjpatch/libjpatch/JsonReader" "excess" "J" (.long 0)) (g_a1 : n0 ≤ a1) :
    Met l Z (⟨"com/example/libjpatch/libjpatch/Utf8Reader", "<init>", "([B)V"⟩ : MethodName) prog_101_method_1_code 2 none ws ({ frames := 5, cells := 7, slots := 183, locals := 64 } : Room) #[(.ref a1), (.ref a2)] h0 (Q_ur Z a1 a2 ed cs u_containers u_sharedNames u_sharedKeys u_sharedStarts u_latin1 u_wide u_utf8 h0 n0) := by
  refine Met.start (plainFor_of_name pn_6) ?_
  intro p e s m below meth c T X hx hby hml hown hnm hret hlk hZ eT
  have N := Fr.nil n0
  have K := Keep.refl h0 [a1]
  refine Wout.cast (g' := (mkF m 0 #[.val (.ref a1), .val (.ref a2)] [])) (by first | rfl | (simp [entryFrame, mkF, argsToLocals, Value.category]; done)) ?_
  refine o_aloadN X hx 1 (hb hby d_prog_101_method_1_0) rfl rfl rfl ?_
  refine o_callI X hx hZ rfl hown (hw _ (List.mem_of_getElem? (i := 8) rfl)) (hw _ (List.mem_of_getElem? (i := 9) rfl)) (hw _ (List.mem_of_getElem? (i := 11) rfl)) (hw _ (List.mem_of_getElem? (i := 12) rfl)) (by decide) (rm_jr l Z a0 hw [] a1 ed cs _ _ _ _ _ _ _ _ n0 Z0 O SE SC hcs E_a1 F_containers F_sharedNames F_sharedKeys F_sharedStarts F_latin1 F_wide F_utf8 F_position F_excess g_a1) eT (by decide) 0 (by decide) (by rw [hml]; rfl) [] (rest := []) (lenOf pd_0 rfl) rfl rfl (Nat.le_of_eq rfl) (by decide) (by decide) 4 (hb hby d_prog_101_method_1_1) rfl (fun v T h1 Lc X eT q => ?_)
  obtain ⟨rfl, N', K1, E', G_latin1, G_wide, G_utf8, G_position, G_excess⟩ := q
  replace N := Fr.app N N'
  replace Z0 := Nat.le_trans Z0 K1.1
  replace K := K.trans K1 (allS (P := fun x => x ∈ [a1] ∨ h0.size ≤ x) (Or.inl (List.mem_of_getElem? (i := 0) rfl)) all0)
  replace O := O.keep K1 (allS (P := fun x => n0 ≤ x) g_a1 all0)
  replace E_a1 := E'
  replace F_latin1 := G_latin1
  replace F_wide := G_wide
  replace F_utf8 := G_utf8
  replace F_position := G_position
  replace F_excess := G_excess
  show Wout p e below _ T (mkF m 4 #[.val (.ref a1), .val (.ref a2)] [])
  refine o_aloadN X hx 5 (hb hby d_prog_101_method_1_4) rfl rfl rfl ?_
  refine o_bipush X hx 7 (64 : Int32) (hb hby d_prog_101_method_1_5) rfl rfl ?_
  refine o_newarray X hx hZ (hw _ (List.mem_of_getElem? (i := 0) rfl)) eT 9 (hb hby d_prog_101_method_1_7) rfl (by decide) 64 (by decide) (by decide) (by decide) (by decide) (fun T h2 b2 k2 hb2 X eT E A => ?_)
  have ne_a1_b2 : a1 ≠ b2 := Nat.ne_of_lt (Nat.lt_of_lt_of_eq E_a1.lt hb2.symm)
  have g_b2 : n0 ≤ b2 := Nat.le_trans Z0 (Nat.le_of_eq hb2.symm)
  have sz_b2 : h0.size ≤ b2 := Nat.le_trans K.1 (Nat.le_of_eq hb2.symm)
  replace E_a1 := E_a1.ext E
  replace F_latin1 := F_latin1.ext E
  replace F_wide := F_wide.ext E
  replace F_utf8 := F_utf8.ext E
  replace F_position := F_position.ext E
  replace F_excess := F_excess.ext E
  replace Z0 := Nat.le_trans Z0 E.1
  replace K := K.ext E
  replace O := O.ext E
  have V_b2 : Arv Z h2 b2 k2 .byte (64 : Int32) [(.int (0 : Int32)), (.int (0 : Int32)), (.int (0 : Int32)), (.int (0 : Int32)), (.int (0 : Int32)), (.int (0 : Int32)), (.int (0 : Int32)), (.int (0 : Int32)), (.int (0 : Int32)), (.int (0 : Int32)), (.int (0 : Int32)), (.int (0 : Int32)), (.int (0 : Int32)), (.int (0 : Int32)), (.int (0 : Int32)), (.int (0 : Int32)), (.int (0 : Int32)), (.int (0 : Int32)), (.int (0 : Int32)), (.int (0 : Int32)), (.int (0 : Int32)), (.int (0 : Int32)), (.int (0 : Int32)), (.int (0 : Int32)), (.int (0 : Int32)), (.int (0 : Int32)), (.int (0 : Int32)), (.int (0 : Int32)), (.int (0 : Int32)), (.int (0 : Int32)), (.int (0 : Int32)), (.int (0 : Int32)), (.int (0 : Int32)), (.int (0 : Int32)), (.int (0 : Int32)), (.int (0 : Int32)), (.int (0 : Int32)), (.int (0 : Int32)), (.int (0 : Int32)), (.int (0 : Int32)), (.int (0 : Int32)), (.int (0 : Int32)), (.int (0 : Int32)), (.int (0 : Int32)), (.int (0 : Int32)), (.int (0 : Int32)), (.int (0 : Int32)), (.int (0 : Int32)), (.int (0 : Int32)), (.int (0 : Int32)), (.int (0 : Int32)), (.int (0 : Int32)), (.int (0 : Int32)), (.int (0 : Int32)), (.int (0 : Int32)), (.int (0 : Int32)), (.int (0 : Int32)), (.int (0 : Int32)), (.int (0 : Int32)), (.int (0 : Int32)), (.int (0 : Int32)), (.int (0 : Int32)), (.int (0 : Int32)), (.int (0 : Int32))] (.int (0 : Int32)) := A.pad (pad_rep [] (.int (0 : Int32)) 64)
  clear V_b2
  refine o_putF X hx hZ (.array .byte) hown (host := "") (Or.inl (hw _ (List.mem_of_getElem? (i := 52) rfl))) Via.refl eT F_latin1 E_a1 (Or.inl (hw _ (List.mem_of_getElem? (i := 53) rfl))) (hw _ (List.mem_of_getElem? (i := 3) rfl)) (by decide) rfl rfl N g_a1 12 (hb hby d_prog_101_method_1_9) rfl (fun T h3 locs X eT W N => ?_)
  replace E_a1 := E_a1.wr W
  replace F_latin1 := F_latin1.same W
  replace F_wide := F_wide.other W (Or.inr (slot_ne (Or.inr (hw _ (List.mem_of_getElem? (i := 74) rfl))) (Or.inl (hw _ (List.mem_of_getElem? (i := 53) rfl))) (by decide) (t := (.object "java/lang/StringBuilder")) (t' := (.array .byte)) (by decide) (by decide)))
  replace F_utf8 := F_utf8.other W (Or.inr (slot_ne (Or.inr (hw _ (List.mem_of_getElem? (i := 76) rfl))) (Or.inl (hw _ (List.mem_of_getElem? (i := 53) rfl))) (by decide) (t := (.array .byte)) (t' := (.array .byte)) (by decide) (by decide)))
  replace F_position := F_position.other W (Or.inr (slot_ne (Or.inl (hw _ (List.mem_of_getElem? (i := 79) rfl))) (Or.inl (hw _ (List.mem_of_getElem? (i := 53) rfl))) (by decide) (t := .int) (t' := (.array .byte)) (by decide) (by decide)))
  replace F_excess := F_excess.other W (Or.inr (slot_ne (Or.inl (hw _ (List.mem_of_getElem? (i := 88) rfl))) (Or.inl (hw _ (List.mem_of_getElem? (i := 53) rfl))) (by decide) (t := .long) (t' := (.array .byte)) (by decide) (by decide)))
  replace Z0 := Nat.le_trans Z0 (Keep.of_wr W).1
  replace K := K.wr W (Or.inl (List.mem_of_getElem? (i := 0) rfl))
  replace O := O.wr W g_a1
  refine o_aloadN X hx 13 (hb hby d_prog_101_method_1_12) rfl rfl rfl ?_
  refine o_new X hx hZ hown (hw _ (List.mem_of_getElem? (i := 54) rfl)) (hw _ (List.mem_of_getElem? (i := 55) rfl)) (hw _ (List.mem_of_getElem? (i := 56) rfl)) eT 16 (hb hby d_prog_101_method_1_13) rfl (by decide) (by decide) (fun T h4 b4 hb4 X eT E A D => ?_)
  have ne_a1_b4 : a1 ≠ b4 := Nat.ne_of_lt (Nat.lt_of_lt_of_eq E_a1.lt hb4.symm)
  have g_b4 : n0 ≤ b4 := Nat.le_trans Z0 (Nat.le_of_eq hb4.symm)
  have sz_b4 : h0.size ≤ b4 := Nat.le_trans K.1 (Nat.le_of_eq hb4.symm)
  replace E_a1 := E_a1.ext E
  replace F_latin1 := F_latin1.ext E
  replace F_wide := F_wide.ext E
  replace F_utf8 := F_utf8.ext E
  replace F_position := F_position.ext E
  replace F_excess := F_excess.ext E
  replace Z0 := Nat.le_trans Z0 E.1
  replace K := K.ext E
  replace O := O.ext E
  have E_b4 := A
  have F_value_b4 : Fld Z h4 b4 "java/lang/AbstractStringBuilder" "value" "[B" .null := D (Or.inl (hw _ (List.mem_of_getElem? (i := 70) rfl))) (ty := (.array .byte)) (by decide)
  have F_coder_b4 : Fld Z h4 b4 "java/lang/AbstractStringBuilder" "coder" "B" (.int (0 : Int32)) := D (Or.inl (hw _ (List.mem_of_getElem? (i := 72) rfl))) (ty := .byte) (by decide)
  refine o_dup X hx 17 (hb hby d_prog_101_method_1_16) rfl rfl ?_
  refine o_callI X hx hZ rfl hown (hw _ (List.mem_of_getElem? (i := 57) rfl)) (hw _ (List.mem_of_getElem? (i := 58) rfl)) (hw _ (List.mem_of_getElem? (i := 56) rfl)) (hw _ (List.mem_of_getElem? (i := 59) rfl)) (by decide) (rm_sb l Z a0 hw [] b4 cs _ _ _ n0 Z0 (SC.ext O.2) hcs E_b4 F_value_b4 F_coder_b4 g_b4) eT (by decide) 2 (by decide) (by rw [hml]; rfl) [] (rest := [(.ref b4), (.ref a1)]) (lenOf pd_0 rfl) rfl rfl (Nat.le_of_eq rfl) (by decide) (by decide) 20 (hb hby d_prog_101_method_1_17) rfl (fun v T h5 Lc X eT q => ?_)
  obtain ⟨rfl, N', K1⟩ := q
  replace N := Fr.app N N'
  replace E_a1 := E_a1.keep K1
  replace F_latin1 := F_latin1.keep K1 (ninS ne_a1_b4 nin0)
  replace F_wide := F_wide.keep K1 (ninS ne_a1_b4 nin0)
  replace F_utf8 := F_utf8.keep K1 (ninS ne_a1_b4 nin0)
  replace F_position := F_position.keep K1 (ninS ne_a1_b4 nin0)
  replace F_excess := F_excess.keep K1 (ninS ne_a1_b4 nin0)
  replace Z0 := Nat.le_trans Z0 K1.1
  replace K := K.trans K1 (allS (P := fun x => x ∈ [a1] ∨ h0.size ≤ x) (Or.inr sz_b4) all0)
  replace O := O.keep K1 (allS (P := fun x => n0 ≤ x) g_b4 all0)
  show Wout p e below _ T (mkF m 20 #[.val (.ref a1), .val (.ref a2)] [(.ref b4), (.ref a1)])
  refine o_putF X hx hZ (.object "java/lang/StringBuilder") hown (host := "") (Or.inl (hw _ (List.mem_of_getElem? (i := 73) rfl))) Via.refl eT F_wide E_a1 (Or.inr ⟨(hw _ (List.mem_of_getElem? (i := 74) rfl)), rfl, hnm⟩) (hw _ (List.mem_of_getElem? (i := 3) rfl)) (by decide) rfl rfl N g_a1 23 (hb hby d_prog_101_method_1_20) rfl (fun T h6 locs X eT W N => ?_)
  replace E_a1 := E_a1.wr W
  replace F_latin1 := F_latin1.other W (Or.inr (slot_ne (Or.inl (hw _ (List.mem_of_getElem? (i := 53) rfl))) (Or.inr (hw _ (List.mem_of_getElem? (i := 74) rfl))) (by decide) (t := (.array .byte)) (t' := (.object "java/lang/StringBuilder")) (by decide) (by decide)))
  replace F_wide := F_wide.same W
  replace F_utf8 := F_utf8.other W (Or.inr (slot_ne (Or.inr (hw _ (List.mem_of_getElem? (i := 76) rfl))) (Or.inr (hw _ (List.mem_of_getElem? (i := 74) rfl))) (by decide) (t := (.array .byte)) (t' := (.object "java/lang/StringBuilder")) (by decide) (by decide)))
  replace F_position := F_position.other W (Or.inr (slot_ne (Or.inl (hw _ (List.mem_of_getElem? (i := 79) rfl))) (Or.inr (hw _ (List.mem_of_getElem? (i := 74) rfl))) (by decide) (t := .int) (t' := (.object "java/lang/StringBuilder")) (by decide) (by decide)))
  replace F_excess := F_excess.other W (Or.inr (slot_ne (Or.inl (hw _ (List.mem_of_getElem? (i := 88) rfl))) (Or.inr (hw _ (List.mem_of_getElem? (i := 74) rfl))) (by decide) (t := .long) (t' := (.object "java/lang/StringBuilder")) (by decide) (by decide)))
  replace Z0 := Nat.le_trans Z0 (Keep.of_wr W).1
  replace K := K.wr W (Or.inl (List.mem_of_getElem? (i := 0) rfl))
  replace O := O.wr W g_a1
  refine o_aloadN X hx 24 (hb hby d_prog_101_method_1_23) rfl rfl rfl ?_
  refine o_aloadN X hx 25 (hb hby d_prog_101_method_1_24) rfl rfl rfl ?_
  refine o_putF X hx hZ (.array .byte) hown (host := "") (Or.inl (hw _ (List.mem_of_getElem? (i := 75) rfl))) Via.refl eT F_utf8 E_a1 (Or.inr ⟨(hw _ (List.mem_of_getElem? (i := 76) rfl)), rfl, hnm⟩) (hw _ (List.mem_of_getElem? (i := 3) rfl)) (by decide) rfl rfl N g_a1 28 (hb hby d_prog_101_method_1_25) rfl (fun T h7 locs X eT W N => ?_)
  replace E_a1 := E_a1.wr W
  replace F_latin1 := F_latin1.other W (Or.inr (slot_ne (Or.inl (hw _ (List.mem_of_getElem? (i := 53) rfl))) (Or.inr (hw _ (List.mem_of_getElem? (i := 76) rfl))) (by decide) (t := (.array .byte)) (t' := (.array .byte)) (by decide) (by decide)))
  replace F_wide := F_wide.other W (Or.inr (slot_ne (Or.inr (hw _ (List.mem_of_getElem? (i := 74) rfl))) (Or.inr (hw _ (List.mem_of_getElem? (i := 76) rfl))) (by decide) (t := (.object "java/lang/StringBuilder")) (t' := (.array .byte)) (by decide) (by decide)))
  replace F_utf8 := F_utf8.same W
  replace F_position := F_position.other W (Or.inr (slot_ne (Or.inl (hw _ (List.mem_of_getElem? (i := 79) rfl))) (Or.inr (hw _ (List.mem_of_getElem? (i := 76) rfl))) (by decide) (t := .int) (t' := (.array .byte)) (by decide) (by decide)))
  replace F_excess := F_excess.other W (Or.inr (slot_ne (Or.inl (hw _ (List.mem_of_getElem? (i := 88) rfl))) (Or.inr (hw _ (List.mem_of_getElem? (i := 76) rfl))) (by decide) (t := .long) (t' := (.array .byte)) (by decide) (by decide)))
  replace Z0 := Nat.le_trans Z0 (Keep.of_wr W).1
  replace K := K.wr W (Or.inl (List.mem_of_getElem? (i := 0) rfl))
  replace O := O.wr W g_a1
  exact o_retV X hx hlk hret (hb hby d_prog_101_method_1_28) (by decide) (by decide) (by rw [eT]; exact ⟨rfl, N, K, E_a1, F_utf8, F_position, F_excess⟩)
theorem d_prog_101_method_2_0 : decode prog_101_method_2_code 0 = .ok (.aload_n 0, 1) := by decide +kernel
theorem d_prog_101_method_2_1 : decode prog_101_method_2_code 1 = .ok (.getfield 23, 3) := by decide +kernel
theorem d_prog_101_method_2_4 : decode prog_101_method_2_code 4 = .ok (.aload_n 0, 1) := by decide +kernel
theorem d_prog_101_method_2_5 : decode prog_101_method_2_code 5 = .ok (.getfield 20, 3) := by decide +kernel
theorem d_prog_101_method_2_8 : decode prog_101_method_2_code 8 = .ok (.arraylength, 1) := by decide +kernel
theorem d_prog_101_method_2_9 : decode prog_101_method_2_code 9 = .ok (.if_icmp .ge 19, 3) := by decide +kernel
theorem d_prog_101_method_2_12 : decode prog_101_method_2_code 12 = .ok (.aload_n 0, 1) := by decide +kernel
theorem d_prog_101_method_2_13 : decode prog_101_method_2_code 13 = .ok (.getfield 20, 3) := by decide +kernel
theorem d_prog_101_method_2_16 : decode prog_101_method_2_code 16 = .ok (.aload_n 0, 1) := by decide +kernel
theorem d_prog_101_method_2_17 : decode prog_101_method_2_code 17 = .ok (.getfield 23, 3) := by decide +kernel
theorem d_prog_101_method_2_20 : decode prog_101_method_2_code 20 = .ok (.baload, 1) := by decide +kernel
theorem d_prog_101_method_2_21 : decode prog_101_method_2_code 21 = .ok (.sipush 255, 3) := by decide +kernel
theorem d_prog_101_method_2_24 : decode prog_101_method_2_code 24 = .ok (.iand, 1) := by decide +kernel
theorem d_prog_101_method_2_25 : decode prog_101_method_2_code 25 = .ok (.goto 4, 3) := by decide +kernel
theorem d_prog_101_method_2_28 : decode prog_101_method_2_code 28 = .ok (.iconst (-1), 1) := by decide +kernel
theorem d_prog_101_method_2_29 : decode prog_101_method_2_code 29 = .ok (.ireturn, 1) := by decide +kernel
def Q_pkE (Z : State) (a1 aa : Addr) (ka : ClassId) (i z : Int32) (vs : List Value) (h0 : Heap) (n0 : Nat) (v : Option Value) (h : Heap) (L : List Loc) : Prop := v = some (.int (-1)) ∧ Fr n0 L ∧ h = h0
set_option maxRecDepth 65536 in
set_option maxHeartbeats 40000000 in
theorem rm_pkE (l : Launch) (Z : State) (a0 : Array Value) (hw : ∀ d ∈ own_words, d.before a0 Z = true) (ws : List Jvm.Cond) (a1 aa : Addr) (ka : ClassId) (i z : Int32) (vs : List Value) (h0 : Heap) (n0 : Nat) (Z0 : n0 ≤ h0.size) (F1 : Fld Z h0 a1 "com/example/libjpatch/libjpatch/JsonReader" "position" "I" (.int i)) (F2 : Fld Z h0 a1 "com/example/libjpatch/libjpatch/Utf8Reader" "utf8" "[B" (.ref aa)) (Va : Arv Z h0 aa ka .byte z vs (.int 0)) (q : ¬ i < z) :
    Met l Z (⟨"com/example/libjpatch/libjpatch/Utf8Reader", "peek", "()I"⟩ : MethodName) prog_101_method_2_code 1 (some .int) ws ({ frames := 0, cells := 0, slots := 0, locals := 0 } : Room) #[(.ref a1)] h0 (Q_pkE Z a1 aa ka i z vs h0 n0) := by
  refine Met.start (plainFor_of_name pn_6) ?_
  intro p e s m below meth c T X hx hby hml hown hnm hret hlk hZ eT
  have N := Fr.nil n0
  refine Wout.cast (g' := (mkF m 0 #[.val (.ref a1)] [])) (by first | rfl | (simp [entryFrame, mkF, argsToLocals, Value.category]; done)) ?_
  refine o_aloadN X hx 1 (hb hby d_prog_101_method_2_0) rfl rfl rfl ?_
  refine o_getF X hx hZ hown (host := "") (Or.inl (hw _ (List.mem_of_getElem? (i := 85) rfl))) (Via.of (hw _ (List.mem_of_getElem? (i := 78) rfl))) eT F1 4 (hb hby d_prog_101_method_2_1) rfl (fun T X eT => ?_)
  refine o_aloadN X hx 5 (hb hby d_prog_101_method_2_4) rfl rfl rfl ?_
  refine o_getF X hx hZ hown (host := "") (Or.inl (hw _ (List.mem_of_getElem? (i := 75) rfl))) Via.refl eT F2 8 (hb hby d_prog_101_method_2_5) rfl (fun T X eT => ?_)
  refine o_arraylength X hx hZ eT Va 9 (hb hby d_prog_101_method_2_8) rfl ?_
  refine o_icmpT X hx 28 (hb hby d_prog_101_method_2_9) rfl q ?_
  refine o_iconst X hx 29 (-1 : Int32) (hb hby d_prog_101_method_2_28) rfl rfl ?_
  exact o_retI X hx hlk hret rfl (by simp) (hb hby d_prog_101_method_2_29) (by decide) (by decide) (by rw [eT]; exact ⟨rfl, N, rfl⟩)
def Q_pkV (Z : State) (a1 aa : Addr) (ka : ClassId) (i z x : Int32) (vs : List Value) (h0 : Heap) (n0 : Nat) (v : Option Value) (h : Heap) (L : List Loc) : Prop := v = some (.int (x &&& 255)) ∧ Fr n0 L ∧ h = h0
set_option maxRecDepth 65536 in
set_option maxHeartbeats 40000000 in
theorem rm_pkV (l : Launch) (Z : State) (a0 : Array Value) (hw : ∀ d ∈ own_words, d.before a0 Z = true) (ws : List Jvm.Cond) (a1 aa : Addr) (ka : ClassId) (i z x : Int32) (vs : List Value) (h0 : Heap) (n0 : Nat) (Z0 : n0 ≤ h0.size) (F1 : Fld Z h0 a1 "com/example/libjpatch/libjpatch/JsonReader" "position" "I" (.int i)) (F2 : Fld Z h0 a1 "com/example/libjpatch/libjpatch/Utf8Reader" "utf8" "[B" (.ref aa)) (Va : Arv Z h0 aa ka .byte z vs (.int 0)) (hj : ¬ i < 0 ∧ i < z) (hv : vs.getD i.toNatClampNeg (.int 0) = .int x) :
    Met l Z (⟨"com/example/libjpatch/libjpatch/Utf8Reader", "peek", "()I"⟩ : MethodName) prog_101_method_2_code 1 (some .int) ws ({ frames := 0, cells := 0, slots := 0, locals := 0 } : Room) #[(.ref a1)] h0 (Q_pkV Z a1 aa ka i z x vs h0 n0) := by
  refine Met.start (plainFor_of_name pn_6) ?_
  intro p e s m below meth c T X hx hby hml hown hnm hret hlk hZ eT
  have N := Fr.nil n0
  refine Wout.cast (g' := (mkF m 0 #[.val (.ref a1)] [])) (by first | rfl | (simp [entryFrame, mkF, argsToLocals, Value.category]; done)) ?_
  refine o_aloadN X hx 1 (hb hby d_prog_101_method_2_0) rfl rfl rfl ?_
  refine o_getF X hx hZ hown (host := "") (Or.inl (hw _ (List.mem_of_getElem? (i := 85) rfl))) (Via.of (hw _ (List.mem_of_getElem? (i := 78) rfl))) eT F1 4 (hb hby d_prog_101_method_2_1) rfl (fun T X eT => ?_)
  refine o_aloadN X hx 5 (hb hby d_prog_101_method_2_4) rfl rfl rfl ?_
  refine o_getF X hx hZ hown (host := "") (Or.inl (hw _ (List.mem_of_getElem? (i := 75) rfl))) Via.refl eT F2 8 (hb hby d_prog_101_method_2_5) rfl (fun T X eT => ?_)
  refine o_arraylength X hx hZ eT Va 9 (hb hby d_prog_101_method_2_8) rfl ?_
  refine o_icmpF X hx 12 (hb hby d_prog_101_method_2_9) rfl hj.2 ?_
  refine o_aloadN X hx 13 (hb hby d_prog_101_method_2_12) rfl rfl rfl ?_
  refine o_getF X hx hZ hown (host := "") (Or.inl (hw _ (List.mem_of_getElem? (i := 75) rfl))) Via.refl eT F2 16 (hb hby d_prog_101_method_2_13) rfl (fun T X eT => ?_)
  refine o_aloadN X hx 17 (hb hby d_prog_101_method_2_16) rfl rfl rfl ?_
  refine o_getF X hx hZ hown (host := "") (Or.inl (hw _ (List.mem_of_getElem? (i := 85) rfl))) (Via.of (hw _ (List.mem_of_getElem? (i := 78) rfl))) eT F1 20 (hb hby d_prog_101_method_2_17) rfl (fun T X eT => ?_)
  refine o_baload X hx hZ eT Va hj (v := (.int x)) hv 21 (hb hby d_prog_101_method_2_20) rfl ?_
  refine o_sipush X hx 24 (255 : Int32) (hb hby d_prog_101_method_2_21) rfl rfl ?_
  refine o_iand X hx 25 (hb hby d_prog_101_method_2_24) rfl ?_
  refine o_goto X hx 29 (hb hby d_prog_101_method_2_25) rfl ?_
  exact o_retI X hx hlk hret rfl (by simp) (hb hby d_prog_101_method_2_29) (by decide) (by decide) (by rw [eT]; exact ⟨rfl, N, rfl⟩)
theorem own_b8 (x : Int32) : -128 ≤ (x.toInt8.toInt32).toInt ∧ (x.toInt8.toInt32).toInt < 128 := by
  rw [Int8.toInt_toInt32]
  have h1 := x.toInt8.le_toInt
  have h2 := x.toInt8.toInt_lt
  omega
theorem own_nar (x : Int32) : nar .byte (x.toInt8.toInt32) = x.toInt8.toInt32 := by simp [nar]
theorem own_lo (x : Int32) (q : x.toInt8.toInt32 < (0 : Int32)) : (nar .byte (x.toInt8.toInt32)) &&& (255 : Int32) = x.toInt8.toInt32 + (256 : Int32) := by
  rw [own_nar]
  have h := own_b8 x
  have e := Jvm.Kit.i32_mask x.toInt8.toInt32 255 (k := 8) (by decide) (by decide)
  generalize x.toInt8.toInt32 = v at *
  have q2 := Int32.lt_iff_toInt_lt.mp q
  have h0 : (0 : Int32).toInt = 0 := rfl
  have h6 : (256 : Int32).toInt = 256 := rfl
  apply Int32.toInt_inj.mp
  rw [e, XT.add32 ⟨by omega, by omega⟩]
  omega
theorem own_hi (x : Int32) (q : ¬ x.toInt8.toInt32 < (0 : Int32)) : (nar .byte (x.toInt8.toInt32)) &&& (255 : Int32) = x.toInt8.toInt32 := by
  rw [own_nar]
  have h := own_b8 x
  have e := Jvm.Kit.i32_mask x.toInt8.toInt32 255 (k := 8) (by decide) (by decide)
  generalize x.toInt8.toInt32 = v at *
  have q2 : ¬ v.toInt < (0 : Int32).toInt := fun z => q (Int32.lt_iff_toInt_lt.mpr z)
  have h0 : (0 : Int32).toInt = 0 := rfl
  apply Int32.toInt_inj.mp
  rw [e]
  omega
theorem own_and3 (x : Int32) : (x &&& (3 : Int32)) = 0 ∨ (x &&& (3 : Int32)) = 1 ∨ (x &&& (3 : Int32)) = 2 ∨ (x &&& (3 : Int32)) = 3 := by
  have e := Jvm.Kit.i32_mask x 3 (k := 2) (by decide) (by decide)
  exact in4 (by omega) (by omega)
theorem own_pos {k : Int32} {n : Nat} {z : Int32} (h : 0 ≤ k.toInt) (hz : z.toInt = n) (q : k < z) : k.toInt < n := by
  have q2 := Int32.lt_iff_toInt_lt.mp q
  omega
theorem own_in1 {k : Int32} (h1 : 0 ≤ k.toInt) (h2 : k.toInt < 1) : k = 0 := Int32.toInt_inj.mp (by have h0 : (0 : Int32).toInt = 0 := rfl; omega)
theorem own_in2 {k : Int32} (h1 : 0 ≤ k.toInt) (h2 : k.toInt < 2) : k = 0 ∨ k = 1 := by
  have : k.toInt = 0 ∨ k.toInt = 1 := by omega
  exact this.imp (fun q => Int32.toInt_inj.mp q) (fun q => Int32.toInt_inj.mp q)
theorem pn_7 : plainName "com/example/libjpatch/libjpatch/Utf8ReaderPeekPinLaw" = true := by first | (simp [plainName, overriddenIn]; done) | decide +kernel
theorem pd_2 : parseMethodDescriptor "([B)V" = some ⟨[(.array .byte)], none⟩ := by decide +kernel
theorem pd_3 : parseMethodDescriptor "()I" = some ⟨[], some .int⟩ := by decide +kernel
def Q_law (Z : State) (p1 p2 p3 p4 p5 cs : Int32) (ed : Addr) (h0 : Heap) (n0 : Nat) (v : Option Value) (h : Heap) (L : List Loc) : Prop := v = some (.int 1) ∧ Fr n0 L ∧ True
set_option maxRecDepth 65536 in
set_option maxHeartbeats 40000000 in
theorem rm_law (l : Launch) (Z : State) (a0 : Array Value) (hw : ∀ d ∈ own_words, d.before a0 Z = true) (ws : List Jvm.Cond) (p1 p2 p3 p4 p5 cs : Int32) (ed : Addr) (h0 : Heap) (n0 : Nat) (Z0 : n0 ≤ h0.size) (O : Old Z n0 h0) (SE : Sta Z Z.heap "java/util/ArrayList" "DEFAULTCAPACITY_EMPTY_ELEMENTDATA" "[Ljava/lang/Object;" (.ref ed)) (SC : Sta Z Z.heap "java/lang/String" "COMPACT_STRINGS" "Z" (.int cs)) (hcs : ¬ cs = 0) :
    Met l Z x code maxLocals ret ws room_1 #[(.int p1), (.int p2), (.int p3), (.int p4), (.int p5)] h0 (Q_law Z p1 p2 p3 p4 p5 cs ed h0 n0) := by
  refine Met.start (plainFor_of_name pn_7) ?_
  intro p e s m below meth c T X hx hby hml hown hnm hret hlk hZ eT
  have N := Fr.nil n0
  refine Wout.cast (g' := (mkF m 0 #[.val (.int p1), .val (.int p2), .val (.int p3), .val (.int p4), .val (.int p5), .unset, .unset, .unset, .unset, .unset, .unset, .unset, .unset, .unset, .unset, .unset] [])) (by first | rfl | (simp [entryFrame, mkF, argsToLocals, Value.category, maxLocals]; done)) ?_
  refine o_iloadN X hx 1 (hb hby at_0) rfl rfl ?_
  refine o_i2b X hx 2 (hb hby at_1) rfl ?_
  refine o_istore X hx 4 (Ls' := #[.val (.int p1), .val (.int p2), .val (.int p3), .val (.int p4), .val (.int p5), .val (.int ((p1).toInt8.toInt32)), .unset, .unset, .unset, .unset, .unset, .unset, .unset, .unset, .unset, .unset]) (hb hby at_2) rfl rfl ?_
  refine o_iloadN X hx 5 (hb hby at_4) rfl rfl ?_
  refine o_i2b X hx 6 (hb hby at_5) rfl ?_
  refine o_istore X hx 8 (Ls' := #[.val (.int p1), .val (.int p2), .val (.int p3), .val (.int p4), .val (.int p5), .val (.int ((p1).toInt8.toInt32)), .val (.int ((p2).toInt8.toInt32)), .unset, .unset, .unset, .unset, .unset, .unset, .unset, .unset, .unset]) (hb hby at_6) rfl rfl ?_
  refine o_iloadN X hx 9 (hb hby at_8) rfl rfl ?_
  refine o_i2b X hx 10 (hb hby at_9) rfl ?_
  refine o_istore X hx 12 (Ls' := #[.val (.int p1), .val (.int p2), .val (.int p3), .val (.int p4), .val (.int p5), .val (.int ((p1).toInt8.toInt32)), .val (.int ((p2).toInt8.toInt32)), .val (.int ((p3).toInt8.toInt32)), .unset, .unset, .unset, .unset, .unset, .unset, .unset, .unset]) (hb hby at_10) rfl rfl ?_
  refine o_iloadN X hx 13 (hb hby at_12) rfl rfl ?_
  refine o_iconst X hx 14 (3 : Int32) (hb hby at_13) rfl rfl ?_
  refine o_iand X hx 15 (hb hby at_14) rfl ?_
  obtain ⟨n, h_n⟩ : ∃ z, z = (p4 &&& (3 : Int32)) := ⟨_, rfl⟩
  rw [← h_n]
  have hn := own_and3 p4
  rw [← h_n] at hn
  clear h_n
  rcases hn with rfl | rfl | rfl | rfl
  · show Wout p e below _ T (mkF m 15 #[.val (.int p1), .val (.int p2), .val (.int p3), .val (.int p4), .val (.int p5), .val (.int ((p1).toInt8.toInt32)), .val (.int ((p2).toInt8.toInt32)), .val (.int ((p3).toInt8.toInt32)), .unset, .unset, .unset, .unset, .unset, .unset, .unset, .unset] [(.int (0 : Int32))])
    refine o_istore X hx 17 (Ls' := #[.val (.int p1), .val (.int p2), .val (.int p3), .val (.int p4), .val (.int p5), .val (.int ((p1).toInt8.toInt32)), .val (.int ((p2).toInt8.toInt32)), .val (.int ((p3).toInt8.toInt32)), .val (.int (0 : Int32)), .unset, .unset, .unset, .unset, .unset, .unset, .unset]) (hb hby at_15) rfl rfl ?_
    refine o_iload X hx 19 (hb hby at_17) rfl rfl ?_
    refine o_ifF X hx 22 (hb hby at_19) rfl (by decide : (0 : Int32) = (0 : Int32)) ?_
    refine o_iconst X hx 23 (0 : Int32) (hb hby at_22) rfl rfl ?_
    refine o_newarray X hx hZ (hw _ (List.mem_of_getElem? (i := 0) rfl)) eT 25 (hb hby at_23) rfl (by decide) 0 (by decide) (by decide) (by decide) (by decide) (fun T h1 b1 k1 hb1 X eT E A => ?_)
    have g_b1 : n0 ≤ b1 := Nat.le_trans Z0 (Nat.le_of_eq hb1.symm)
    replace Z0 := Nat.le_trans Z0 E.1
    replace O := O.ext E
    have V_b1 : Arv Z h1 b1 k1 .byte (0 : Int32) [] (.int (0 : Int32)) := A.pad (pad_rep [] (.int (0 : Int32)) 0)
    refine o_astore X hx 27 (Ls' := #[.val (.int p1), .val (.int p2), .val (.int p3), .val (.int p4), .val (.int p5), .val (.int ((p1).toInt8.toInt32)), .val (.int ((p2).toInt8.toInt32)), .val (.int ((p3).toInt8.toInt32)), .val (.int (0 : Int32)), .val (.ref b1), .unset, .unset, .unset, .unset, .unset, .unset]) (hb hby at_25) rfl rfl rfl ?_
    refine o_goto X hx 93 (hb hby at_27) rfl ?_
    refine o_iloadN X hx 94 (hb hby at_93) rfl rfl ?_
    refine o_iconst X hx 95 (4 : Int32) (hb hby at_94) rfl rfl ?_
    refine o_iand X hx 96 (hb hby at_95) rfl ?_
    have J : ∀ pos : Int32, (0 ≤ pos.toInt) → Wout p e below (Pst s (Q_law Z p1 p2 p3 p4 p5 cs ed h0 n0) room_1.cells room_1.slots) T (mkF m 114 #[.val (.int p1), .val (.int p2), .val (.int p3), .val (.int p4), .val (.int p5), .val (.int ((p1).toInt8.toInt32)), .val (.int ((p2).toInt8.toInt32)), .val (.int ((p3).toInt8.toInt32)), .val (.int (0 : Int32)), .val (.ref b1), .unset, .unset, .unset, .unset, .unset, .unset] [(.int pos)]) := by
      intro pos hpos
      refine o_istore X hx 116 (Ls' := #[.val (.int p1), .val (.int p2), .val (.int p3), .val (.int p4), .val (.int p5), .val (.int ((p1).toInt8.toInt32)), .val (.int ((p2).toInt8.toInt32)), .val (.int ((p3).toInt8.toInt32)), .val (.int (0 : Int32)), .val (.ref b1), .val (.int pos), .unset, .unset, .unset, .unset, .unset]) (hb hby at_114) rfl rfl ?_
      refine o_new X hx hZ hown (hw _ (List.mem_of_getElem? (i := 2) rfl)) (hw _ (List.mem_of_getElem? (i := 3) rfl)) (hw _ (List.mem_of_getElem? (i := 4) rfl)) eT 119 (hb hby at_116) rfl (by decide) (by decide) (fun T h2 b2 hb2 X eT E A D => ?_)
      have ne_b1_b2 : b1 ≠ b2 := Nat.ne_of_lt (Nat.lt_of_lt_of_eq V_b1.lt hb2.symm)
      have g_b2 : n0 ≤ b2 := Nat.le_trans Z0 (Nat.le_of_eq hb2.symm)
      replace V_b1 := V_b1.ext E
      replace Z0 := Nat.le_trans Z0 E.1
      replace O := O.ext E
      have E_b2 := A
      have F_containers_b2 : Fld Z h2 b2 "com/example/libjpatch/libjpatch/JsonReader" "containers" "Ljava/util/ArrayList;" .null := D (Or.inr (hw _ (List.mem_of_getElem? (i := 41) rfl))) (ty := (.object "java/util/ArrayList")) (by decide)
      have F_sharedNames_b2 : Fld Z h2 b2 "com/example/libjpatch/libjpatch/JsonReader" "sharedNames" "[Ljava/lang/String;" .null := D (Or.inl (hw _ (List.mem_of_getElem? (i := 45) rfl))) (ty := (.array (.object "java/lang/String"))) (by decide)
      have F_sharedKeys_b2 : Fld Z h2 b2 "com/example/libjpatch/libjpatch/JsonReader" "sharedKeys" "[J" .null := D (Or.inl (hw _ (List.mem_of_getElem? (i := 48) rfl))) (ty := (.array .long)) (by decide)
      have F_sharedStarts_b2 : Fld Z h2 b2 "com/example/libjpatch/libjpatch/JsonReader" "sharedStarts" "[I" .null := D (Or.inl (hw _ (List.mem_of_getElem? (i := 51) rfl))) (ty := (.array .int)) (by decide)
      have F_latin1_b2 : Fld Z h2 b2 "com/example/libjpatch/libjpatch/Utf8Reader" "latin1" "[B" .null := D (Or.inl (hw _ (List.mem_of_getElem? (i := 53) rfl))) (ty := (.array .byte)) (by decide)
      have F_wide_b2 : Fld Z h2 b2 "com/example/libjpatch/libjpatch/Utf8Reader" "wide" "Ljava/lang/StringBuilder;" .null := D (Or.inr (hw _ (List.mem_of_getElem? (i := 74) rfl))) (ty := (.object "java/lang/StringBuilder")) (by decide)
      have F_utf8_b2 : Fld Z h2 b2 "com/example/libjpatch/libjpatch/Utf8Reader" "utf8" "[B" .null := D (Or.inr (hw _ (List.mem_of_getElem? (i := 76) rfl))) (ty := (.array .byte)) (by decide)
      have F_position_b2 : Fld Z h2 b2 "com/example/libjpatch/libjpatch/JsonReader" "position" "I" (.int (0 : Int32)) := D (Or.inl (hw _ (List.mem_of_getElem? (i := 79) rfl))) (ty := .int) (by decide)
      have F_excess_b2 : Fld Z h2 b2 "com/example/libjpatch/libjpatch/JsonReader" "excess" "J" (.long (0 : Int64)) := D (Or.inl (hw _ (List.mem_of_getElem? (i := 88) rfl))) (ty := .long) (by decide)
      refine o_dup X hx 120 (hb hby at_119) rfl rfl ?_
      refine o_aload X hx 122 (hb hby at_120) rfl rfl rfl ?_
      refine o_callI X hx hZ rfl hown (hw _ (List.mem_of_getElem? (i := 5) rfl)) (hw _ (List.mem_of_getElem? (i := 6) rfl)) (hw _ (List.mem_of_getElem? (i := 4) rfl)) (hw _ (List.mem_of_getElem? (i := 7) rfl)) (by decide) (rm_ur l Z a0 hw [] b2 b1 ed cs _ _ _ _ _ _ _ _ n0 Z0 O SE SC hcs E_b2 F_containers_b2 F_sharedNames_b2 F_sharedKeys_b2 F_sharedStarts_b2 F_latin1_b2 F_wide_b2 F_utf8_b2 F_position_b2 F_excess_b2 g_b2) eT (by decide) 1 (by decide) (by rw [hml]; rfl) [(.ref b1)] (rest := [(.ref b2)]) (lenOf pd_2 rfl) rfl rfl (Nat.le_of_eq rfl) (by decide) (by decide) 125 (hb hby at_122) rfl (fun v T h3 Lc X eT q => ?_)
      obtain ⟨rfl, N', K1, E', G1, G2, G3⟩ := q
      replace N := Fr.app N N'
      replace V_b1 := V_b1.keep K1 (ninS ne_b1_b2 nin0)
      replace Z0 := Nat.le_trans Z0 K1.1
      replace O := O.keep K1 (allS (P := fun x => n0 ≤ x) g_b2 all0)
      replace E_b2 := E'
      have F1 := G1
      have F2 := G2
      have F3 := G3
      show Wout p e below _ T (mkF m 125 #[.val (.int p1), .val (.int p2), .val (.int p3), .val (.int p4), .val (.int p5), .val (.int ((p1).toInt8.toInt32)), .val (.int ((p2).toInt8.toInt32)), .val (.int ((p3).toInt8.toInt32)), .val (.int (0 : Int32)), .val (.ref b1), .val (.int pos), .unset, .unset, .unset, .unset, .unset] [(.ref b2)])
      refine o_astore X hx 127 (Ls' := #[.val (.int p1), .val (.int p2), .val (.int p3), .val (.int p4), .val (.int p5), .val (.int ((p1).toInt8.toInt32)), .val (.int ((p2).toInt8.toInt32)), .val (.int ((p3).toInt8.toInt32)), .val (.int (0 : Int32)), .val (.ref b1), .val (.int pos), .val (.ref b2), .unset, .unset, .unset, .unset]) (hb hby at_125) rfl rfl rfl ?_
      refine o_aload X hx 129 (hb hby at_127) rfl rfl rfl ?_
      refine o_iload X hx 131 (hb hby at_129) rfl rfl ?_
      refine o_putF X hx hZ .int hown (host := "") (Or.inl (hw _ (List.mem_of_getElem? (i := 77) rfl))) (Via.of (hw _ (List.mem_of_getElem? (i := 78) rfl))) eT F2 E_b2 (Or.inl (hw _ (List.mem_of_getElem? (i := 79) rfl))) (hw _ (List.mem_of_getElem? (i := 3) rfl)) (by decide) rfl rfl N g_b2 134 (hb hby at_131) rfl (fun T h4 locs X eT W N => ?_)
      replace V_b1 := V_b1.other W ne_b1_b2
      replace E_b2 := E_b2.wr W
      replace F1 := F1.other W (Or.inr (slot_ne (Or.inr (hw _ (List.mem_of_getElem? (i := 76) rfl))) (Or.inl (hw _ (List.mem_of_getElem? (i := 79) rfl))) (by decide) (t := (.array .byte)) (t' := .int) (by decide) (by decide)))
      replace F2 := F2.same W
      replace F3 := F3.other W (Or.inr (slot_ne (Or.inl (hw _ (List.mem_of_getElem? (i := 88) rfl))) (Or.inl (hw _ (List.mem_of_getElem? (i := 79) rfl))) (by decide) (t := .long) (t' := .int) (by decide) (by decide)))
      replace Z0 := Nat.le_trans Z0 (Keep.of_wr W).1
      replace O := O.wr W g_b2
      refine o_aload X hx 136 (hb hby at_134) rfl rfl rfl ?_
      by_cases q : pos < (0 : Int32)
      · show Wout p e below _ T (mkF m 136 #[.val (.int p1), .val (.int p2), .val (.int p3), .val (.int p4), .val (.int p5), .val (.int ((p1).toInt8.toInt32)), .val (.int ((p2).toInt8.toInt32)), .val (.int ((p3).toInt8.toInt32)), .val (.int (0 : Int32)), .val (.ref b1), .val (.int pos), .val (.ref b2), .unset, .unset, .unset, .unset] [(.ref b2)])
        exact absurd (own_pos (n := 0) hpos rfl q) (by omega)
      · show Wout p e below _ T (mkF m 136 #[.val (.int p1), .val (.int p2), .val (.int p3), .val (.int p4), .val (.int p5), .val (.int ((p1).toInt8.toInt32)), .val (.int ((p2).toInt8.toInt32)), .val (.int ((p3).toInt8.toInt32)), .val (.int (0 : Int32)), .val (.ref b1), .val (.int pos), .val (.ref b2), .unset, .unset, .unset, .unset] [(.ref b2)])
        refine o_callV X hx hZ hown (hw _ (List.mem_of_getElem? (i := 80) rfl)) (hw _ (List.mem_of_getElem? (i := 81) rfl)) (hw _ (List.mem_of_getElem? (i := 83) rfl)) (hw _ (List.mem_of_getElem? (i := 82) rfl)) (hw _ (List.mem_of_getElem? (i := 4) rfl)) (hw _ (List.mem_of_getElem? (i := 84) rfl)) (by decide) (rm_pkE l Z a0 hw [] b2 b1 k1 pos (0 : Int32) [] _ n0 Z0 F2 F1 V_b1 q) eT (by decide) 0 (by decide) (by rw [hml]; rfl) E_b2 [] (rest := []) (lenOf pd_3 rfl) rfl rfl (Nat.le_of_eq rfl) (by decide) (by decide) 139 (hb hby at_136) rfl (fun v T h5 Lc X eT q => ?_)
        obtain ⟨rfl, N', e'⟩ := q
        replace N := Fr.app N N'
        replace eT := eT.trans e'
        show Wout p e below _ T (mkF m 139 #[.val (.int p1), .val (.int p2), .val (.int p3), .val (.int p4), .val (.int p5), .val (.int ((p1).toInt8.toInt32)), .val (.int ((p2).toInt8.toInt32)), .val (.int ((p3).toInt8.toInt32)), .val (.int (0 : Int32)), .val (.ref b1), .val (.int pos), .val (.ref b2), .unset, .unset, .unset, .unset] [(.int (-1 : Int32))])
        refine o_istore X hx 141 (Ls' := #[.val (.int p1), .val (.int p2), .val (.int p3), .val (.int p4), .val (.int p5), .val (.int ((p1).toInt8.toInt32)), .val (.int ((p2).toInt8.toInt32)), .val (.int ((p3).toInt8.toInt32)), .val (.int (0 : Int32)), .val (.ref b1), .val (.int pos), .val (.ref b2), .val (.int (-1 : Int32)), .unset, .unset, .unset]) (hb hby at_139) rfl rfl ?_
        refine o_aload X hx 143 (hb hby at_141) rfl rfl rfl ?_
        refine o_callV X hx hZ hown (hw _ (List.mem_of_getElem? (i := 80) rfl)) (hw _ (List.mem_of_getElem? (i := 81) rfl)) (hw _ (List.mem_of_getElem? (i := 83) rfl)) (hw _ (List.mem_of_getElem? (i := 82) rfl)) (hw _ (List.mem_of_getElem? (i := 4) rfl)) (hw _ (List.mem_of_getElem? (i := 84) rfl)) (by decide) (rm_pkE l Z a0 hw [] b2 b1 k1 pos (0 : Int32) [] _ n0 Z0 F2 F1 V_b1 q) eT (by decide) 0 (by decide) (by rw [hml]; rfl) E_b2 [] (rest := []) (lenOf pd_3 rfl) rfl rfl (Nat.le_of_eq rfl) (by decide) (by decide) 146 (hb hby at_143) rfl (fun v T h6 Lc X eT q => ?_)
        obtain ⟨rfl, N', e'⟩ := q
        replace N := Fr.app N N'
        replace eT := eT.trans e'
        show Wout p e below _ T (mkF m 146 #[.val (.int p1), .val (.int p2), .val (.int p3), .val (.int p4), .val (.int p5), .val (.int ((p1).toInt8.toInt32)), .val (.int ((p2).toInt8.toInt32)), .val (.int ((p3).toInt8.toInt32)), .val (.int (0 : Int32)), .val (.ref b1), .val (.int pos), .val (.ref b2), .val (.int (-1 : Int32)), .unset, .unset, .unset] [(.int (-1 : Int32))])
        refine o_istore X hx 148 (Ls' := #[.val (.int p1), .val (.int p2), .val (.int p3), .val (.int p4), .val (.int p5), .val (.int ((p1).toInt8.toInt32)), .val (.int ((p2).toInt8.toInt32)), .val (.int ((p3).toInt8.toInt32)), .val (.int (0 : Int32)), .val (.ref b1), .val (.int pos), .val (.ref b2), .val (.int (-1 : Int32)), .val (.int (-1 : Int32)), .unset, .unset]) (hb hby at_146) rfl rfl ?_
        refine o_iload X hx 150 (hb hby at_148) rfl rfl ?_
        refine o_iload X hx 152 (hb hby at_150) rfl rfl ?_
        refine o_icmpF X hx 155 (hb hby at_152) rfl q ?_
        refine o_iconst X hx 156 (-1 : Int32) (hb hby at_155) rfl rfl ?_
        refine o_istore X hx 158 (Ls' := #[.val (.int p1), .val (.int p2), .val (.int p3), .val (.int p4), .val (.int p5), .val (.int ((p1).toInt8.toInt32)), .val (.int ((p2).toInt8.toInt32)), .val (.int ((p3).toInt8.toInt32)), .val (.int (0 : Int32)), .val (.ref b1), .val (.int pos), .val (.ref b2), .val (.int (-1 : Int32)), .val (.int (-1 : Int32)), .val (.int (-1 : Int32)), .unset]) (hb hby at_156) rfl rfl ?_
        refine o_goto X hx 204 (hb hby at_158) rfl ?_
        refine o_iload X hx 206 (hb hby at_204) rfl rfl ?_
        refine o_iload X hx 208 (hb hby at_206) rfl rfl ?_
        refine o_icmpF X hx 211 (hb hby at_208) rfl (by decide : (-1 : Int32) = (-1 : Int32)) ?_
        refine o_iload X hx 213 (hb hby at_211) rfl rfl ?_
        refine o_iload X hx 215 (hb hby at_213) rfl rfl ?_
        refine o_icmpF X hx 218 (hb hby at_215) rfl (by decide : (-1 : Int32) = (-1 : Int32)) ?_
        refine o_aload X hx 220 (hb hby at_218) rfl rfl rfl ?_
        refine o_getF X hx hZ hown (host := "") (Or.inl (hw _ (List.mem_of_getElem? (i := 77) rfl))) (Via.of (hw _ (List.mem_of_getElem? (i := 78) rfl))) eT F2 223 (hb hby at_220) rfl (fun T X eT => ?_)
        refine o_iload X hx 225 (hb hby at_223) rfl rfl ?_
        refine o_icmpF X hx 228 (hb hby at_225) rfl (rfl : pos = pos) ?_
        refine o_aload X hx 230 (hb hby at_228) rfl rfl rfl ?_
        refine o_getF X hx hZ hown (host := "") (Or.inl (hw _ (List.mem_of_getElem? (i := 86) rfl))) (Via.of (hw _ (List.mem_of_getElem? (i := 87) rfl))) eT F3 233 (hb hby at_230) rfl (fun T X eT => ?_)
        refine o_lconst X hx 234 (0 : Int64) (hb hby at_233) rfl rfl ?_
        refine o_lcmp X hx 235 (hb hby at_234) rfl ?_
        refine o_ifLF X hx 238 (hb hby at_235) rfl (rfl : (0 : Int64) = (0 : Int64)) ?_
        refine o_iconst X hx 239 (1 : Int32) (hb hby at_238) rfl rfl ?_
        refine o_goto X hx 243 (hb hby at_239) rfl ?_
        exact o_retI X hx hlk hret rfl (by simp) (hb hby at_243) (by decide) (by decide) (by rw [eT]; exact ⟨rfl, N, trivial⟩)
    refine o_if X hx 107 99 (hb hby at_96) rfl rfl (fun (q4 : (p4 &&& (4 : Int32)) = (0 : Int32)) => ?_) (fun (q4 : ¬ (p4 &&& (4 : Int32)) = (0 : Int32)) => ?_)
    · show Wout p e below _ T (mkF m 107 #[.val (.int p1), .val (.int p2), .val (.int p3), .val (.int p4), .val (.int p5), .val (.int ((p1).toInt8.toInt32)), .val (.int ((p2).toInt8.toInt32)), .val (.int ((p3).toInt8.toInt32)), .val (.int (0 : Int32)), .val (.ref b1), .unset, .unset, .unset, .unset, .unset, .unset] [])
      refine o_iload X hx 109 (hb hby at_107) rfl rfl ?_
      refine o_ldc X hx hZ 111 hown (hw _ (List.mem_of_getElem? (i := 1) rfl)) (hb hby at_109) rfl ?_
      refine o_iand X hx 112 (hb hby at_111) rfl ?_
      refine o_iconst X hx 113 (5 : Int32) (hb hby at_112) rfl rfl ?_
      refine o_irem X hx 114 (hb hby at_113) (by decide) rfl ?_
      exact J _ (rem_in (n := 5) (mask31 p5) (by decide)).1
    · show Wout p e below _ T (mkF m 99 #[.val (.int p1), .val (.int p2), .val (.int p3), .val (.int p4), .val (.int p5), .val (.int ((p1).toInt8.toInt32)), .val (.int ((p2).toInt8.toInt32)), .val (.int ((p3).toInt8.toInt32)), .val (.int (0 : Int32)), .val (.ref b1), .unset, .unset, .unset, .unset, .unset, .unset] [])
      refine o_iload X hx 101 (hb hby at_99) rfl rfl ?_
      refine o_ldc X hx hZ 103 hown (hw _ (List.mem_of_getElem? (i := 1) rfl)) (hb hby at_101) rfl ?_
      refine o_iand X hx 104 (hb hby at_103) rfl ?_
      refine o_goto X hx 114 (hb hby at_104) rfl ?_
      exact J _ (mask31 p5)
  · show Wout p e below _ T (mkF m 15 #[.val (.int p1), .val (.int p2), .val (.int p3), .val (.int p4), .val (.int p5), .val (.int ((p1).toInt8.toInt32)), .val (.int ((p2).toInt8.toInt32)), .val (.int ((p3).toInt8.toInt32)), .unset, .unset, .unset, .unset, .unset, .unset, .unset, .unset] [(.int (1 : Int32))])
    refine o_istore X hx 17 (Ls' := #[.val (.int p1), .val (.int p2), .val (.int p3), .val (.int p4), .val (.int p5), .val (.int ((p1).toInt8.toInt32)), .val (.int ((p2).toInt8.toInt32)), .val (.int ((p3).toInt8.toInt32)), .val (.int (1 : Int32)), .unset, .unset, .unset, .unset, .unset, .unset, .unset]) (hb hby at_15) rfl rfl ?_
    refine o_iload X hx 19 (hb hby at_17) rfl rfl ?_
    refine o_ifT X hx 30 (hb hby at_19) rfl (by decide : ¬ (1 : Int32) = (0 : Int32)) ?_
    refine o_iload X hx 32 (hb hby at_30) rfl rfl ?_
    refine o_iconst X hx 33 (1 : Int32) (hb hby at_32) rfl rfl ?_
    refine o_icmpF X hx 36 (hb hby at_33) rfl (by decide : (1 : Int32) = (1 : Int32)) ?_
    refine o_iconst X hx 37 (1 : Int32) (hb hby at_36) rfl rfl ?_
    refine o_newarray X hx hZ (hw _ (List.mem_of_getElem? (i := 0) rfl)) eT 39 (hb hby at_37) rfl (by decide) 1 (by decide) (by decide) (by decide) (by decide) (fun T h7 b7 k7 hb7 X eT E A => ?_)
    have g_b7 : n0 ≤ b7 := Nat.le_trans Z0 (Nat.le_of_eq hb7.symm)
    replace Z0 := Nat.le_trans Z0 E.1
    replace O := O.ext E
    have V_b7 : Arv Z h7 b7 k7 .byte (1 : Int32) [(.int (0 : Int32))] (.int (0 : Int32)) := A.pad (pad_rep [] (.int (0 : Int32)) 1)
    refine o_dup X hx 40 (hb hby at_39) rfl rfl ?_
    refine o_iconst X hx 41 (0 : Int32) (hb hby at_40) rfl rfl ?_
    refine o_iload X hx 43 (hb hby at_41) rfl rfl ?_
    refine o_bastore X hx hZ eT V_b7 ⟨by decide, by decide⟩ 0 rfl (Nat.le_of_ble_eq_true rfl) (vs' := [(.int (nar .byte ((p1).toInt8.toInt32)))]) rfl N g_b7 44 (hb hby at_43) rfl (fun T h8 locs X eT W V' N => ?_)
    replace Z0 := Nat.le_trans Z0 (Keep.of_wr W).1
    replace O := O.wr W g_b7
    replace V_b7 := V'
    refine o_astore X hx 46 (Ls' := #[.val (.int p1), .val (.int p2), .val (.int p3), .val (.int p4), .val (.int p5), .val (.int ((p1).toInt8.toInt32)), .val (.int ((p2).toInt8.toInt32)), .val (.int ((p3).toInt8.toInt32)), .val (.int (1 : Int32)), .val (.ref b7), .unset, .unset, .unset, .unset, .unset, .unset]) (hb hby at_44) rfl rfl rfl ?_
    refine o_goto X hx 93 (hb hby at_46) rfl ?_
    refine o_iloadN X hx 94 (hb hby at_93) rfl rfl ?_
    refine o_iconst X hx 95 (4 : Int32) (hb hby at_94) rfl rfl ?_
    refine o_iand X hx 96 (hb hby at_95) rfl ?_
    have J : ∀ pos : Int32, (0 ≤ pos.toInt) → Wout p e below (Pst s (Q_law Z p1 p2 p3 p4 p5 cs ed h0 n0) room_1.cells room_1.slots) T (mkF m 114 #[.val (.int p1), .val (.int p2), .val (.int p3), .val (.int p4), .val (.int p5), .val (.int ((p1).toInt8.toInt32)), .val (.int ((p2).toInt8.toInt32)), .val (.int ((p3).toInt8.toInt32)), .val (.int (1 : Int32)), .val (.ref b7), .unset, .unset, .unset, .unset, .unset, .unset] [(.int pos)]) := by
      intro pos hpos
      refine o_istore X hx 116 (Ls' := #[.val (.int p1), .val (.int p2), .val (.int p3), .val (.int p4), .val (.int p5), .val (.int ((p1).toInt8.toInt32)), .val (.int ((p2).toInt8.toInt32)), .val (.int ((p3).toInt8.toInt32)), .val (.int (1 : Int32)), .val (.ref b7), .val (.int pos), .unset, .unset, .unset, .unset, .unset]) (hb hby at_114) rfl rfl ?_
      refine o_new X hx hZ hown (hw _ (List.mem_of_getElem? (i := 2) rfl)) (hw _ (List.mem_of_getElem? (i := 3) rfl)) (hw _ (List.mem_of_getElem? (i := 4) rfl)) eT 119 (hb hby at_116) rfl (by decide) (by decide) (fun T h9 b9 hb9 X eT E A D => ?_)
      have ne_b7_b9 : b7 ≠ b9 := Nat.ne_of_lt (Nat.lt_of_lt_of_eq V_b7.lt hb9.symm)
      have g_b9 : n0 ≤ b9 := Nat.le_trans Z0 (Nat.le_of_eq hb9.symm)
      replace V_b7 := V_b7.ext E
      replace Z0 := Nat.le_trans Z0 E.1
      replace O := O.ext E
      have E_b9 := A
      have F_containers_b9 : Fld Z h9 b9 "com/example/libjpatch/libjpatch/JsonReader" "containers" "Ljava/util/ArrayList;" .null := D (Or.inr (hw _ (List.mem_of_getElem? (i := 41) rfl))) (ty := (.object "java/util/ArrayList")) (by decide)
      have F_sharedNames_b9 : Fld Z h9 b9 "com/example/libjpatch/libjpatch/JsonReader" "sharedNames" "[Ljava/lang/String;" .null := D (Or.inl (hw _ (List.mem_of_getElem? (i := 45) rfl))) (ty := (.array (.object "java/lang/String"))) (by decide)
      have F_sharedKeys_b9 : Fld Z h9 b9 "com/example/libjpatch/libjpatch/JsonReader" "sharedKeys" "[J" .null := D (Or.inl (hw _ (List.mem_of_getElem? (i := 48) rfl))) (ty := (.array .long)) (by decide)
      have F_sharedStarts_b9 : Fld Z h9 b9 "com/example/libjpatch/libjpatch/JsonReader" "sharedStarts" "[I" .null := D (Or.inl (hw _ (List.mem_of_getElem? (i := 51) rfl))) (ty := (.array .int)) (by decide)
      have F_latin1_b9 : Fld Z h9 b9 "com/example/libjpatch/libjpatch/Utf8Reader" "latin1" "[B" .null := D (Or.inl (hw _ (List.mem_of_getElem? (i := 53) rfl))) (ty := (.array .byte)) (by decide)
      have F_wide_b9 : Fld Z h9 b9 "com/example/libjpatch/libjpatch/Utf8Reader" "wide" "Ljava/lang/StringBuilder;" .null := D (Or.inr (hw _ (List.mem_of_getElem? (i := 74) rfl))) (ty := (.object "java/lang/StringBuilder")) (by decide)
      have F_utf8_b9 : Fld Z h9 b9 "com/example/libjpatch/libjpatch/Utf8Reader" "utf8" "[B" .null := D (Or.inr (hw _ (List.mem_of_getElem? (i := 76) rfl))) (ty := (.array .byte)) (by decide)
      have F_position_b9 : Fld Z h9 b9 "com/example/libjpatch/libjpatch/JsonReader" "position" "I" (.int (0 : Int32)) := D (Or.inl (hw _ (List.mem_of_getElem? (i := 79) rfl))) (ty := .int) (by decide)
      have F_excess_b9 : Fld Z h9 b9 "com/example/libjpatch/libjpatch/JsonReader" "excess" "J" (.long (0 : Int64)) := D (Or.inl (hw _ (List.mem_of_getElem? (i := 88) rfl))) (ty := .long) (by decide)
      refine o_dup X hx 120 (hb hby at_119) rfl rfl ?_
      refine o_aload X hx 122 (hb hby at_120) rfl rfl rfl ?_
      refine o_callI X hx hZ rfl hown (hw _ (List.mem_of_getElem? (i := 5) rfl)) (hw _ (List.mem_of_getElem? (i := 6) rfl)) (hw _ (List.mem_of_getElem? (i := 4) rfl)) (hw _ (List.mem_of_getElem? (i := 7) rfl)) (by decide) (rm_ur l Z a0 hw [] b9 b7 ed cs _ _ _ _ _ _ _ _ n0 Z0 O SE SC hcs E_b9 F_containers_b9 F_sharedNames_b9 F_sharedKeys_b9 F_sharedStarts_b9 F_latin1_b9 F_wide_b9 F_utf8_b9 F_position_b9 F_excess_b9 g_b9) eT (by decide) 1 (by decide) (by rw [hml]; rfl) [(.ref b7)] (rest := [(.ref b9)]) (lenOf pd_2 rfl) rfl rfl (Nat.le_of_eq rfl) (by decide) (by decide) 125 (hb hby at_122) rfl (fun v T h10 Lc X eT q => ?_)
      obtain ⟨rfl, N', K1, E', G1, G2, G3⟩ := q
      replace N := Fr.app N N'
      replace V_b7 := V_b7.keep K1 (ninS ne_b7_b9 nin0)
      replace Z0 := Nat.le_trans Z0 K1.1
      replace O := O.keep K1 (allS (P := fun x => n0 ≤ x) g_b9 all0)
      replace E_b9 := E'
      have F1 := G1
      have F2 := G2
      have F3 := G3
      show Wout p e below _ T (mkF m 125 #[.val (.int p1), .val (.int p2), .val (.int p3), .val (.int p4), .val (.int p5), .val (.int ((p1).toInt8.toInt32)), .val (.int ((p2).toInt8.toInt32)), .val (.int ((p3).toInt8.toInt32)), .val (.int (1 : Int32)), .val (.ref b7), .val (.int pos), .unset, .unset, .unset, .unset, .unset] [(.ref b9)])
      refine o_astore X hx 127 (Ls' := #[.val (.int p1), .val (.int p2), .val (.int p3), .val (.int p4), .val (.int p5), .val (.int ((p1).toInt8.toInt32)), .val (.int ((p2).toInt8.toInt32)), .val (.int ((p3).toInt8.toInt32)), .val (.int (1 : Int32)), .val (.ref b7), .val (.int pos), .val (.ref b9), .unset, .unset, .unset, .unset]) (hb hby at_125) rfl rfl rfl ?_
      refine o_aload X hx 129 (hb hby at_127) rfl rfl rfl ?_
      refine o_iload X hx 131 (hb hby at_129) rfl rfl ?_
      refine o_putF X hx hZ .int hown (host := "") (Or.inl (hw _ (List.mem_of_getElem? (i := 77) rfl))) (Via.of (hw _ (List.mem_of_getElem? (i := 78) rfl))) eT F2 E_b9 (Or.inl (hw _ (List.mem_of_getElem? (i := 79) rfl))) (hw _ (List.mem_of_getElem? (i := 3) rfl)) (by decide) rfl rfl N g_b9 134 (hb hby at_131) rfl (fun T h11 locs X eT W N => ?_)
      replace V_b7 := V_b7.other W ne_b7_b9
      replace E_b9 := E_b9.wr W
      replace F1 := F1.other W (Or.inr (slot_ne (Or.inr (hw _ (List.mem_of_getElem? (i := 76) rfl))) (Or.inl (hw _ (List.mem_of_getElem? (i := 79) rfl))) (by decide) (t := (.array .byte)) (t' := .int) (by decide) (by decide)))
      replace F2 := F2.same W
      replace F3 := F3.other W (Or.inr (slot_ne (Or.inl (hw _ (List.mem_of_getElem? (i := 88) rfl))) (Or.inl (hw _ (List.mem_of_getElem? (i := 79) rfl))) (by decide) (t := .long) (t' := .int) (by decide) (by decide)))
      replace Z0 := Nat.le_trans Z0 (Keep.of_wr W).1
      replace O := O.wr W g_b9
      refine o_aload X hx 136 (hb hby at_134) rfl rfl rfl ?_
      by_cases q : pos < (1 : Int32)
      · show Wout p e below _ T (mkF m 136 #[.val (.int p1), .val (.int p2), .val (.int p3), .val (.int p4), .val (.int p5), .val (.int ((p1).toInt8.toInt32)), .val (.int ((p2).toInt8.toInt32)), .val (.int ((p3).toInt8.toInt32)), .val (.int (1 : Int32)), .val (.ref b7), .val (.int pos), .val (.ref b9), .unset, .unset, .unset, .unset] [(.ref b9)])
        have q' := own_pos (n := 1) hpos rfl q
        obtain rfl := own_in1 hpos q'
        show Wout p e below _ T (mkF m 136 #[.val (.int p1), .val (.int p2), .val (.int p3), .val (.int p4), .val (.int p5), .val (.int ((p1).toInt8.toInt32)), .val (.int ((p2).toInt8.toInt32)), .val (.int ((p3).toInt8.toInt32)), .val (.int (1 : Int32)), .val (.ref b7), .val (.int (0 : Int32)), .val (.ref b9), .unset, .unset, .unset, .unset] [(.ref b9)])
        refine o_callV X hx hZ hown (hw _ (List.mem_of_getElem? (i := 80) rfl)) (hw _ (List.mem_of_getElem? (i := 81) rfl)) (hw _ (List.mem_of_getElem? (i := 83) rfl)) (hw _ (List.mem_of_getElem? (i := 82) rfl)) (hw _ (List.mem_of_getElem? (i := 4) rfl)) (hw _ (List.mem_of_getElem? (i := 84) rfl)) (by decide) (rm_pkV l Z a0 hw [] b9 b7 k7 (0 : Int32) (1 : Int32) (nar .byte (((p1).toInt8.toInt32))) [(.int (nar .byte (((p1).toInt8.toInt32))))] _ n0 Z0 F2 F1 V_b7 (by decide) rfl) eT (by decide) 0 (by decide) (by rw [hml]; rfl) E_b9 [] (rest := []) (lenOf pd_3 rfl) rfl rfl (Nat.le_of_eq rfl) (by decide) (by decide) 139 (hb hby at_136) rfl (fun v T h12 Lc X eT q => ?_)
        obtain ⟨rfl, N', e'⟩ := q
        replace N := Fr.app N N'
        replace eT := eT.trans e'
        show Wout p e below _ T (mkF m 139 #[.val (.int p1), .val (.int p2), .val (.int p3), .val (.int p4), .val (.int p5), .val (.int ((p1).toInt8.toInt32)), .val (.int ((p2).toInt8.toInt32)), .val (.int ((p3).toInt8.toInt32)), .val (.int (1 : Int32)), .val (.ref b7), .val (.int (0 : Int32)), .val (.ref b9), .unset, .unset, .unset, .unset] [(.int ((nar .byte (((p1).toInt8.toInt32))) &&& (255 : Int32)))])
        refine o_istore X hx 141 (Ls' := #[.val (.int p1), .val (.int p2), .val (.int p3), .val (.int p4), .val (.int p5), .val (.int ((p1).toInt8.toInt32)), .val (.int ((p2).toInt8.toInt32)), .val (.int ((p3).toInt8.toInt32)), .val (.int (1 : Int32)), .val (.ref b7), .val (.int (0 : Int32)), .val (.ref b9), .val (.int ((nar .byte (((p1).toInt8.toInt32))) &&& (255 : Int32))), .unset, .unset, .unset]) (hb hby at_139) rfl rfl ?_
        refine o_aload X hx 143 (hb hby at_141) rfl rfl rfl ?_
        refine o_callV X hx hZ hown (hw _ (List.mem_of_getElem? (i := 80) rfl)) (hw _ (List.mem_of_getElem? (i := 81) rfl)) (hw _ (List.mem_of_getElem? (i := 83) rfl)) (hw _ (List.mem_of_getElem? (i := 82) rfl)) (hw _ (List.mem_of_getElem? (i := 4) rfl)) (hw _ (List.mem_of_getElem? (i := 84) rfl)) (by decide) (rm_pkV l Z a0 hw [] b9 b7 k7 (0 : Int32) (1 : Int32) (nar .byte (((p1).toInt8.toInt32))) [(.int (nar .byte (((p1).toInt8.toInt32))))] _ n0 Z0 F2 F1 V_b7 (by decide) rfl) eT (by decide) 0 (by decide) (by rw [hml]; rfl) E_b9 [] (rest := []) (lenOf pd_3 rfl) rfl rfl (Nat.le_of_eq rfl) (by decide) (by decide) 146 (hb hby at_143) rfl (fun v T h13 Lc X eT q => ?_)
        obtain ⟨rfl, N', e'⟩ := q
        replace N := Fr.app N N'
        replace eT := eT.trans e'
        show Wout p e below _ T (mkF m 146 #[.val (.int p1), .val (.int p2), .val (.int p3), .val (.int p4), .val (.int p5), .val (.int ((p1).toInt8.toInt32)), .val (.int ((p2).toInt8.toInt32)), .val (.int ((p3).toInt8.toInt32)), .val (.int (1 : Int32)), .val (.ref b7), .val (.int (0 : Int32)), .val (.ref b9), .val (.int ((nar .byte (((p1).toInt8.toInt32))) &&& (255 : Int32))), .unset, .unset, .unset] [(.int ((nar .byte (((p1).toInt8.toInt32))) &&& (255 : Int32)))])
        refine o_istore X hx 148 (Ls' := #[.val (.int p1), .val (.int p2), .val (.int p3), .val (.int p4), .val (.int p5), .val (.int ((p1).toInt8.toInt32)), .val (.int ((p2).toInt8.toInt32)), .val (.int ((p3).toInt8.toInt32)), .val (.int (1 : Int32)), .val (.ref b7), .val (.int (0 : Int32)), .val (.ref b9), .val (.int ((nar .byte (((p1).toInt8.toInt32))) &&& (255 : Int32))), .val (.int ((nar .byte (((p1).toInt8.toInt32))) &&& (255 : Int32))), .unset, .unset]) (hb hby at_146) rfl rfl ?_
        refine o_iload X hx 150 (hb hby at_148) rfl rfl ?_
        refine o_iload X hx 152 (hb hby at_150) rfl rfl ?_
        refine o_icmpT X hx 161 (hb hby at_152) rfl (by decide : (0 : Int32) < (1 : Int32)) ?_
        refine o_iload X hx 163 (hb hby at_161) rfl rfl ?_
        refine o_ifF X hx 166 (hb hby at_163) rfl (by decide : (0 : Int32) = (0 : Int32)) ?_
        refine o_iload X hx 168 (hb hby at_166) rfl rfl ?_
        refine o_goto X hx 184 (hb hby at_168) rfl ?_
        refine o_istore X hx 186 (Ls' := #[.val (.int p1), .val (.int p2), .val (.int p3), .val (.int p4), .val (.int p5), .val (.int ((p1).toInt8.toInt32)), .val (.int ((p2).toInt8.toInt32)), .val (.int ((p3).toInt8.toInt32)), .val (.int (1 : Int32)), .val (.ref b7), .val (.int (0 : Int32)), .val (.ref b9), .val (.int ((nar .byte (((p1).toInt8.toInt32))) &&& (255 : Int32))), .val (.int ((nar .byte (((p1).toInt8.toInt32))) &&& (255 : Int32))), .unset, .val (.int ((p1).toInt8.toInt32))]) (hb hby at_184) rfl rfl ?_
        refine o_iload X hx 188 (hb hby at_186) rfl rfl ?_
        refine o_if X hx 200 191 (hb hby at_188) rfl rfl (fun (qs : ¬ ((p1).toInt8.toInt32) < (0 : Int32)) => ?_) (fun (qs : ((p1).toInt8.toInt32) < (0 : Int32)) => ?_)
        · show Wout p e below _ T (mkF m 200 #[.val (.int p1), .val (.int p2), .val (.int p3), .val (.int p4), .val (.int p5), .val (.int ((p1).toInt8.toInt32)), .val (.int ((p2).toInt8.toInt32)), .val (.int ((p3).toInt8.toInt32)), .val (.int (1 : Int32)), .val (.ref b7), .val (.int (0 : Int32)), .val (.ref b9), .val (.int ((nar .byte (((p1).toInt8.toInt32))) &&& (255 : Int32))), .val (.int ((nar .byte (((p1).toInt8.toInt32))) &&& (255 : Int32))), .unset, .val (.int ((p1).toInt8.toInt32))] [])
          refine o_iload X hx 202 (hb hby at_200) rfl rfl ?_
          refine o_istore X hx 204 (Ls' := #[.val (.int p1), .val (.int p2), .val (.int p3), .val (.int p4), .val (.int p5), .val (.int ((p1).toInt8.toInt32)), .val (.int ((p2).toInt8.toInt32)), .val (.int ((p3).toInt8.toInt32)), .val (.int (1 : Int32)), .val (.ref b7), .val (.int (0 : Int32)), .val (.ref b9), .val (.int ((nar .byte (((p1).toInt8.toInt32))) &&& (255 : Int32))), .val (.int ((nar .byte (((p1).toInt8.toInt32))) &&& (255 : Int32))), .val (.int ((p1).toInt8.toInt32)), .val (.int ((p1).toInt8.toInt32))]) (hb hby at_202) rfl rfl ?_
          refine o_iload X hx 206 (hb hby at_204) rfl rfl ?_
          refine o_iload X hx 208 (hb hby at_206) rfl rfl ?_
          refine o_icmpF X hx 211 (hb hby at_208) rfl (own_hi p1 qs) ?_
          refine o_iload X hx 213 (hb hby at_211) rfl rfl ?_
          refine o_iload X hx 215 (hb hby at_213) rfl rfl ?_
          refine o_icmpF X hx 218 (hb hby at_215) rfl (own_hi p1 qs) ?_
          refine o_aload X hx 220 (hb hby at_218) rfl rfl rfl ?_
          refine o_getF X hx hZ hown (host := "") (Or.inl (hw _ (List.mem_of_getElem? (i := 77) rfl))) (Via.of (hw _ (List.mem_of_getElem? (i := 78) rfl))) eT F2 223 (hb hby at_220) rfl (fun T X eT => ?_)
          refine o_iload X hx 225 (hb hby at_223) rfl rfl ?_
          refine o_icmpF X hx 228 (hb hby at_225) rfl (by decide : (0 : Int32) = (0 : Int32)) ?_
          refine o_aload X hx 230 (hb hby at_228) rfl rfl rfl ?_
          refine o_getF X hx hZ hown (host := "") (Or.inl (hw _ (List.mem_of_getElem? (i := 86) rfl))) (Via.of (hw _ (List.mem_of_getElem? (i := 87) rfl))) eT F3 233 (hb hby at_230) rfl (fun T X eT => ?_)
          refine o_lconst X hx 234 (0 : Int64) (hb hby at_233) rfl rfl ?_
          refine o_lcmp X hx 235 (hb hby at_234) rfl ?_
          refine o_ifLF X hx 238 (hb hby at_235) rfl (rfl : (0 : Int64) = (0 : Int64)) ?_
          refine o_iconst X hx 239 (1 : Int32) (hb hby at_238) rfl rfl ?_
          refine o_goto X hx 243 (hb hby at_239) rfl ?_
          exact o_retI X hx hlk hret rfl (by simp) (hb hby at_243) (by decide) (by decide) (by rw [eT]; exact ⟨rfl, N, trivial⟩)
        · show Wout p e below _ T (mkF m 191 #[.val (.int p1), .val (.int p2), .val (.int p3), .val (.int p4), .val (.int p5), .val (.int ((p1).toInt8.toInt32)), .val (.int ((p2).toInt8.toInt32)), .val (.int ((p3).toInt8.toInt32)), .val (.int (1 : Int32)), .val (.ref b7), .val (.int (0 : Int32)), .val (.ref b9), .val (.int ((nar .byte (((p1).toInt8.toInt32))) &&& (255 : Int32))), .val (.int ((nar .byte (((p1).toInt8.toInt32))) &&& (255 : Int32))), .unset, .val (.int ((p1).toInt8.toInt32))] [])
          refine o_iload X hx 193 (hb hby at_191) rfl rfl ?_
          refine o_sipush X hx 196 (256 : Int32) (hb hby at_193) rfl rfl ?_
          refine o_iadd X hx 197 (hb hby at_196) rfl ?_
          refine o_goto X hx 202 (hb hby at_197) rfl ?_
          refine o_istore X hx 204 (Ls' := #[.val (.int p1), .val (.int p2), .val (.int p3), .val (.int p4), .val (.int p5), .val (.int ((p1).toInt8.toInt32)), .val (.int ((p2).toInt8.toInt32)), .val (.int ((p3).toInt8.toInt32)), .val (.int (1 : Int32)), .val (.ref b7), .val (.int (0 : Int32)), .val (.ref b9), .val (.int ((nar .byte (((p1).toInt8.toInt32))) &&& (255 : Int32))), .val (.int ((nar .byte (((p1).toInt8.toInt32))) &&& (255 : Int32))), .val (.int (((p1).toInt8.toInt32) + (256 : Int32))), .val (.int ((p1).toInt8.toInt32))]) (hb hby at_202) rfl rfl ?_
          refine o_iload X hx 206 (hb hby at_204) rfl rfl ?_
          refine o_iload X hx 208 (hb hby at_206) rfl rfl ?_
          refine o_icmpF X hx 211 (hb hby at_208) rfl (own_lo p1 qs) ?_
          refine o_iload X hx 213 (hb hby at_211) rfl rfl ?_
          refine o_iload X hx 215 (hb hby at_213) rfl rfl ?_
          refine o_icmpF X hx 218 (hb hby at_215) rfl (own_lo p1 qs) ?_
          refine o_aload X hx 220 (hb hby at_218) rfl rfl rfl ?_
          refine o_getF X hx hZ hown (host := "") (Or.inl (hw _ (List.mem_of_getElem? (i := 77) rfl))) (Via.of (hw _ (List.mem_of_getElem? (i := 78) rfl))) eT F2 223 (hb hby at_220) rfl (fun T X eT => ?_)
          refine o_iload X hx 225 (hb hby at_223) rfl rfl ?_
          refine o_icmpF X hx 228 (hb hby at_225) rfl (by decide : (0 : Int32) = (0 : Int32)) ?_
          refine o_aload X hx 230 (hb hby at_228) rfl rfl rfl ?_
          refine o_getF X hx hZ hown (host := "") (Or.inl (hw _ (List.mem_of_getElem? (i := 86) rfl))) (Via.of (hw _ (List.mem_of_getElem? (i := 87) rfl))) eT F3 233 (hb hby at_230) rfl (fun T X eT => ?_)
          refine o_lconst X hx 234 (0 : Int64) (hb hby at_233) rfl rfl ?_
          refine o_lcmp X hx 235 (hb hby at_234) rfl ?_
          refine o_ifLF X hx 238 (hb hby at_235) rfl (rfl : (0 : Int64) = (0 : Int64)) ?_
          refine o_iconst X hx 239 (1 : Int32) (hb hby at_238) rfl rfl ?_
          refine o_goto X hx 243 (hb hby at_239) rfl ?_
          exact o_retI X hx hlk hret rfl (by simp) (hb hby at_243) (by decide) (by decide) (by rw [eT]; exact ⟨rfl, N, trivial⟩)
      · show Wout p e below _ T (mkF m 136 #[.val (.int p1), .val (.int p2), .val (.int p3), .val (.int p4), .val (.int p5), .val (.int ((p1).toInt8.toInt32)), .val (.int ((p2).toInt8.toInt32)), .val (.int ((p3).toInt8.toInt32)), .val (.int (1 : Int32)), .val (.ref b7), .val (.int pos), .val (.ref b9), .unset, .unset, .unset, .unset] [(.ref b9)])
        refine o_callV X hx hZ hown (hw _ (List.mem_of_getElem? (i := 80) rfl)) (hw _ (List.mem_of_getElem? (i := 81) rfl)) (hw _ (List.mem_of_getElem? (i := 83) rfl)) (hw _ (List.mem_of_getElem? (i := 82) rfl)) (hw _ (List.mem_of_getElem? (i := 4) rfl)) (hw _ (List.mem_of_getElem? (i := 84) rfl)) (by decide) (rm_pkE l Z a0 hw [] b9 b7 k7 pos (1 : Int32) [(.int (nar .byte (((p1).toInt8.toInt32))))] _ n0 Z0 F2 F1 V_b7 q) eT (by decide) 0 (by decide) (by rw [hml]; rfl) E_b9 [] (rest := []) (lenOf pd_3 rfl) rfl rfl (Nat.le_of_eq rfl) (by decide) (by decide) 139 (hb hby at_136) rfl (fun v T h14 Lc X eT q => ?_)
        obtain ⟨rfl, N', e'⟩ := q
        replace N := Fr.app N N'
        replace eT := eT.trans e'
        show Wout p e below _ T (mkF m 139 #[.val (.int p1), .val (.int p2), .val (.int p3), .val (.int p4), .val (.int p5), .val (.int ((p1).toInt8.toInt32)), .val (.int ((p2).toInt8.toInt32)), .val (.int ((p3).toInt8.toInt32)), .val (.int (1 : Int32)), .val (.ref b7), .val (.int pos), .val (.ref b9), .unset, .unset, .unset, .unset] [(.int (-1 : Int32))])
        refine o_istore X hx 141 (Ls' := #[.val (.int p1), .val (.int p2), .val (.int p3), .val (.int p4), .val (.int p5), .val (.int ((p1).toInt8.toInt32)), .val (.int ((p2).toInt8.toInt32)), .val (.int ((p3).toInt8.toInt32)), .val (.int (1 : Int32)), .val (.ref b7), .val (.int pos), .val (.ref b9), .val (.int (-1 : Int32)), .unset, .unset, .unset]) (hb hby at_139) rfl rfl ?_
        refine o_aload X hx 143 (hb hby at_141) rfl rfl rfl ?_
        refine o_callV X hx hZ hown (hw _ (List.mem_of_getElem? (i := 80) rfl)) (hw _ (List.mem_of_getElem? (i := 81) rfl)) (hw _ (List.mem_of_getElem? (i := 83) rfl)) (hw _ (List.mem_of_getElem? (i := 82) rfl)) (hw _ (List.mem_of_getElem? (i := 4) rfl)) (hw _ (List.mem_of_getElem? (i := 84) rfl)) (by decide) (rm_pkE l Z a0 hw [] b9 b7 k7 pos (1 : Int32) [(.int (nar .byte (((p1).toInt8.toInt32))))] _ n0 Z0 F2 F1 V_b7 q) eT (by decide) 0 (by decide) (by rw [hml]; rfl) E_b9 [] (rest := []) (lenOf pd_3 rfl) rfl rfl (Nat.le_of_eq rfl) (by decide) (by decide) 146 (hb hby at_143) rfl (fun v T h15 Lc X eT q => ?_)
        obtain ⟨rfl, N', e'⟩ := q
        replace N := Fr.app N N'
        replace eT := eT.trans e'
        show Wout p e below _ T (mkF m 146 #[.val (.int p1), .val (.int p2), .val (.int p3), .val (.int p4), .val (.int p5), .val (.int ((p1).toInt8.toInt32)), .val (.int ((p2).toInt8.toInt32)), .val (.int ((p3).toInt8.toInt32)), .val (.int (1 : Int32)), .val (.ref b7), .val (.int pos), .val (.ref b9), .val (.int (-1 : Int32)), .unset, .unset, .unset] [(.int (-1 : Int32))])
        refine o_istore X hx 148 (Ls' := #[.val (.int p1), .val (.int p2), .val (.int p3), .val (.int p4), .val (.int p5), .val (.int ((p1).toInt8.toInt32)), .val (.int ((p2).toInt8.toInt32)), .val (.int ((p3).toInt8.toInt32)), .val (.int (1 : Int32)), .val (.ref b7), .val (.int pos), .val (.ref b9), .val (.int (-1 : Int32)), .val (.int (-1 : Int32)), .unset, .unset]) (hb hby at_146) rfl rfl ?_
        refine o_iload X hx 150 (hb hby at_148) rfl rfl ?_
        refine o_iload X hx 152 (hb hby at_150) rfl rfl ?_
        refine o_icmpF X hx 155 (hb hby at_152) rfl q ?_
        refine o_iconst X hx 156 (-1 : Int32) (hb hby at_155) rfl rfl ?_
        refine o_istore X hx 158 (Ls' := #[.val (.int p1), .val (.int p2), .val (.int p3), .val (.int p4), .val (.int p5), .val (.int ((p1).toInt8.toInt32)), .val (.int ((p2).toInt8.toInt32)), .val (.int ((p3).toInt8.toInt32)), .val (.int (1 : Int32)), .val (.ref b7), .val (.int pos), .val (.ref b9), .val (.int (-1 : Int32)), .val (.int (-1 : Int32)), .val (.int (-1 : Int32)), .unset]) (hb hby at_156) rfl rfl ?_
        refine o_goto X hx 204 (hb hby at_158) rfl ?_
        refine o_iload X hx 206 (hb hby at_204) rfl rfl ?_
        refine o_iload X hx 208 (hb hby at_206) rfl rfl ?_
        refine o_icmpF X hx 211 (hb hby at_208) rfl (by decide : (-1 : Int32) = (-1 : Int32)) ?_
        refine o_iload X hx 213 (hb hby at_211) rfl rfl ?_
        refine o_iload X hx 215 (hb hby at_213) rfl rfl ?_
        refine o_icmpF X hx 218 (hb hby at_215) rfl (by decide : (-1 : Int32) = (-1 : Int32)) ?_
        refine o_aload X hx 220 (hb hby at_218) rfl rfl rfl ?_
        refine o_getF X hx hZ hown (host := "") (Or.inl (hw _ (List.mem_of_getElem? (i := 77) rfl))) (Via.of (hw _ (List.mem_of_getElem? (i := 78) rfl))) eT F2 223 (hb hby at_220) rfl (fun T X eT => ?_)
        refine o_iload X hx 225 (hb hby at_223) rfl rfl ?_
        refine o_icmpF X hx 228 (hb hby at_225) rfl (rfl : pos = pos) ?_
        refine o_aload X hx 230 (hb hby at_228) rfl rfl rfl ?_
        refine o_getF X hx hZ hown (host := "") (Or.inl (hw _ (List.mem_of_getElem? (i := 86) rfl))) (Via.of (hw _ (List.mem_of_getElem? (i := 87) rfl))) eT F3 233 (hb hby at_230) rfl (fun T X eT => ?_)
        refine o_lconst X hx 234 (0 : Int64) (hb hby at_233) rfl rfl ?_
        refine o_lcmp X hx 235 (hb hby at_234) rfl ?_
        refine o_ifLF X hx 238 (hb hby at_235) rfl (rfl : (0 : Int64) = (0 : Int64)) ?_
        refine o_iconst X hx 239 (1 : Int32) (hb hby at_238) rfl rfl ?_
        refine o_goto X hx 243 (hb hby at_239) rfl ?_
        exact o_retI X hx hlk hret rfl (by simp) (hb hby at_243) (by decide) (by decide) (by rw [eT]; exact ⟨rfl, N, trivial⟩)
    refine o_if X hx 107 99 (hb hby at_96) rfl rfl (fun (q4 : (p4 &&& (4 : Int32)) = (0 : Int32)) => ?_) (fun (q4 : ¬ (p4 &&& (4 : Int32)) = (0 : Int32)) => ?_)
    · show Wout p e below _ T (mkF m 107 #[.val (.int p1), .val (.int p2), .val (.int p3), .val (.int p4), .val (.int p5), .val (.int ((p1).toInt8.toInt32)), .val (.int ((p2).toInt8.toInt32)), .val (.int ((p3).toInt8.toInt32)), .val (.int (1 : Int32)), .val (.ref b7), .unset, .unset, .unset, .unset, .unset, .unset] [])
      refine o_iload X hx 109 (hb hby at_107) rfl rfl ?_
      refine o_ldc X hx hZ 111 hown (hw _ (List.mem_of_getElem? (i := 1) rfl)) (hb hby at_109) rfl ?_
      refine o_iand X hx 112 (hb hby at_111) rfl ?_
      refine o_iconst X hx 113 (5 : Int32) (hb hby at_112) rfl rfl ?_
      refine o_irem X hx 114 (hb hby at_113) (by decide) rfl ?_
      exact J _ (rem_in (n := 5) (mask31 p5) (by decide)).1
    · show Wout p e below _ T (mkF m 99 #[.val (.int p1), .val (.int p2), .val (.int p3), .val (.int p4), .val (.int p5), .val (.int ((p1).toInt8.toInt32)), .val (.int ((p2).toInt8.toInt32)), .val (.int ((p3).toInt8.toInt32)), .val (.int (1 : Int32)), .val (.ref b7), .unset, .unset, .unset, .unset, .unset, .unset] [])
      refine o_iload X hx 101 (hb hby at_99) rfl rfl ?_
      refine o_ldc X hx hZ 103 hown (hw _ (List.mem_of_getElem? (i := 1) rfl)) (hb hby at_101) rfl ?_
      refine o_iand X hx 104 (hb hby at_103) rfl ?_
      refine o_goto X hx 114 (hb hby at_104) rfl ?_
      exact J _ (mask31 p5)
  · show Wout p e below _ T (mkF m 15 #[.val (.int p1), .val (.int p2), .val (.int p3), .val (.int p4), .val (.int p5), .val (.int ((p1).toInt8.toInt32)), .val (.int ((p2).toInt8.toInt32)), .val (.int ((p3).toInt8.toInt32)), .unset, .unset, .unset, .unset, .unset, .unset, .unset, .unset] [(.int (2 : Int32))])
    refine o_istore X hx 17 (Ls' := #[.val (.int p1), .val (.int p2), .val (.int p3), .val (.int p4), .val (.int p5), .val (.int ((p1).toInt8.toInt32)), .val (.int ((p2).toInt8.toInt32)), .val (.int ((p3).toInt8.toInt32)), .val (.int (2 : Int32)), .unset, .unset, .unset, .unset, .unset, .unset, .unset]) (hb hby at_15) rfl rfl ?_
    refine o_iload X hx 19 (hb hby at_17) rfl rfl ?_
    refine o_ifT X hx 30 (hb hby at_19) rfl (by decide : ¬ (2 : Int32) = (0 : Int32)) ?_
    refine o_iload X hx 32 (hb hby at_30) rfl rfl ?_
    refine o_iconst X hx 33 (1 : Int32) (hb hby at_32) rfl rfl ?_
    refine o_icmpT X hx 49 (hb hby at_33) rfl (by decide : ¬ (2 : Int32) = (1 : Int32)) ?_
    refine o_iload X hx 51 (hb hby at_49) rfl rfl ?_
    refine o_iconst X hx 52 (2 : Int32) (hb hby at_51) rfl rfl ?_
    refine o_icmpF X hx 55 (hb hby at_52) rfl (by decide : (2 : Int32) = (2 : Int32)) ?_
    refine o_iconst X hx 56 (2 : Int32) (hb hby at_55) rfl rfl ?_
    refine o_newarray X hx hZ (hw _ (List.mem_of_getElem? (i := 0) rfl)) eT 58 (hb hby at_56) rfl (by decide) 2 (by decide) (by decide) (by decide) (by decide) (fun T h16 b16 k16 hb16 X eT E A => ?_)
    have g_b16 : n0 ≤ b16 := Nat.le_trans Z0 (Nat.le_of_eq hb16.symm)
    replace Z0 := Nat.le_trans Z0 E.1
    replace O := O.ext E
    have V_b16 : Arv Z h16 b16 k16 .byte (2 : Int32) [(.int (0 : Int32)), (.int (0 : Int32))] (.int (0 : Int32)) := A.pad (pad_rep [] (.int (0 : Int32)) 2)
    refine o_dup X hx 59 (hb hby at_58) rfl rfl ?_
    refine o_iconst X hx 60 (0 : Int32) (hb hby at_59) rfl rfl ?_
    refine o_iload X hx 62 (hb hby at_60) rfl rfl ?_
    refine o_bastore X hx hZ eT V_b16 ⟨by decide, by decide⟩ 0 rfl (Nat.le_of_ble_eq_true rfl) (vs' := [(.int (nar .byte ((p1).toInt8.toInt32))), (.int (0 : Int32))]) rfl N g_b16 63 (hb hby at_62) rfl (fun T h17 locs X eT W V' N => ?_)
    replace Z0 := Nat.le_trans Z0 (Keep.of_wr W).1
    replace O := O.wr W g_b16
    replace V_b16 := V'
    refine o_dup X hx 64 (hb hby at_63) rfl rfl ?_
    refine o_iconst X hx 65 (1 : Int32) (hb hby at_64) rfl rfl ?_
    refine o_iload X hx 67 (hb hby at_65) rfl rfl ?_
    refine o_bastore X hx hZ eT V_b16 ⟨by decide, by decide⟩ 1 rfl (Nat.le_of_ble_eq_true rfl) (vs' := [(.int (nar .byte ((p1).toInt8.toInt32))), (.int (nar .byte ((p2).toInt8.toInt32)))]) rfl N g_b16 68 (hb hby at_67) rfl (fun T h18 locs X eT W V' N => ?_)
    replace Z0 := Nat.le_trans Z0 (Keep.of_wr W).1
    replace O := O.wr W g_b16
    replace V_b16 := V'
    refine o_astore X hx 70 (Ls' := #[.val (.int p1), .val (.int p2), .val (.int p3), .val (.int p4), .val (.int p5), .val (.int ((p1).toInt8.toInt32)), .val (.int ((p2).toInt8.toInt32)), .val (.int ((p3).toInt8.toInt32)), .val (.int (2 : Int32)), .val (.ref b16), .unset, .unset, .unset, .unset, .unset, .unset]) (hb hby at_68) rfl rfl rfl ?_
    refine o_goto X hx 93 (hb hby at_70) rfl ?_
    refine o_iloadN X hx 94 (hb hby at_93) rfl rfl ?_
    refine o_iconst X hx 95 (4 : Int32) (hb hby at_94) rfl rfl ?_
    refine o_iand X hx 96 (hb hby at_95) rfl ?_
    have J : ∀ pos : Int32, (0 ≤ pos.toInt) → Wout p e below (Pst s (Q_law Z p1 p2 p3 p4 p5 cs ed h0 n0) room_1.cells room_1.slots) T (mkF m 114 #[.val (.int p1), .val (.int p2), .val (.int p3), .val (.int p4), .val (.int p5), .val (.int ((p1).toInt8.toInt32)), .val (.int ((p2).toInt8.toInt32)), .val (.int ((p3).toInt8.toInt32)), .val (.int (2 : Int32)), .val (.ref b16), .unset, .unset, .unset, .unset, .unset, .unset] [(.int pos)]) := by
      intro pos hpos
      refine o_istore X hx 116 (Ls' := #[.val (.int p1), .val (.int p2), .val (.int p3), .val (.int p4), .val (.int p5), .val (.int ((p1).toInt8.toInt32)), .val (.int ((p2).toInt8.toInt32)), .val (.int ((p3).toInt8.toInt32)), .val (.int (2 : Int32)), .val (.ref b16), .val (.int pos), .unset, .unset, .unset, .unset, .unset]) (hb hby at_114) rfl rfl ?_
      refine o_new X hx hZ hown (hw _ (List.mem_of_getElem? (i := 2) rfl)) (hw _ (List.mem_of_getElem? (i := 3) rfl)) (hw _ (List.mem_of_getElem? (i := 4) rfl)) eT 119 (hb hby at_116) rfl (by decide) (by decide) (fun T h19 b19 hb19 X eT E A D => ?_)
      have ne_b16_b19 : b16 ≠ b19 := Nat.ne_of_lt (Nat.lt_of_lt_of_eq V_b16.lt hb19.symm)
      have g_b19 : n0 ≤ b19 := Nat.le_trans Z0 (Nat.le_of_eq hb19.symm)
      replace V_b16 := V_b16.ext E
      replace Z0 := Nat.le_trans Z0 E.1
      replace O := O.ext E
      have E_b19 := A
      have F_containers_b19 : Fld Z h19 b19 "com/example/libjpatch/libjpatch/JsonReader" "containers" "Ljava/util/ArrayList;" .null := D (Or.inr (hw _ (List.mem_of_getElem? (i := 41) rfl))) (ty := (.object "java/util/ArrayList")) (by decide)
      have F_sharedNames_b19 : Fld Z h19 b19 "com/example/libjpatch/libjpatch/JsonReader" "sharedNames" "[Ljava/lang/String;" .null := D (Or.inl (hw _ (List.mem_of_getElem? (i := 45) rfl))) (ty := (.array (.object "java/lang/String"))) (by decide)
      have F_sharedKeys_b19 : Fld Z h19 b19 "com/example/libjpatch/libjpatch/JsonReader" "sharedKeys" "[J" .null := D (Or.inl (hw _ (List.mem_of_getElem? (i := 48) rfl))) (ty := (.array .long)) (by decide)
      have F_sharedStarts_b19 : Fld Z h19 b19 "com/example/libjpatch/libjpatch/JsonReader" "sharedStarts" "[I" .null := D (Or.inl (hw _ (List.mem_of_getElem? (i := 51) rfl))) (ty := (.array .int)) (by decide)
      have F_latin1_b19 : Fld Z h19 b19 "com/example/libjpatch/libjpatch/Utf8Reader" "latin1" "[B" .null := D (Or.inl (hw _ (List.mem_of_getElem? (i := 53) rfl))) (ty := (.array .byte)) (by decide)
      have F_wide_b19 : Fld Z h19 b19 "com/example/libjpatch/libjpatch/Utf8Reader" "wide" "Ljava/lang/StringBuilder;" .null := D (Or.inr (hw _ (List.mem_of_getElem? (i := 74) rfl))) (ty := (.object "java/lang/StringBuilder")) (by decide)
      have F_utf8_b19 : Fld Z h19 b19 "com/example/libjpatch/libjpatch/Utf8Reader" "utf8" "[B" .null := D (Or.inr (hw _ (List.mem_of_getElem? (i := 76) rfl))) (ty := (.array .byte)) (by decide)
      have F_position_b19 : Fld Z h19 b19 "com/example/libjpatch/libjpatch/JsonReader" "position" "I" (.int (0 : Int32)) := D (Or.inl (hw _ (List.mem_of_getElem? (i := 79) rfl))) (ty := .int) (by decide)
      have F_excess_b19 : Fld Z h19 b19 "com/example/libjpatch/libjpatch/JsonReader" "excess" "J" (.long (0 : Int64)) := D (Or.inl (hw _ (List.mem_of_getElem? (i := 88) rfl))) (ty := .long) (by decide)
      refine o_dup X hx 120 (hb hby at_119) rfl rfl ?_
      refine o_aload X hx 122 (hb hby at_120) rfl rfl rfl ?_
      refine o_callI X hx hZ rfl hown (hw _ (List.mem_of_getElem? (i := 5) rfl)) (hw _ (List.mem_of_getElem? (i := 6) rfl)) (hw _ (List.mem_of_getElem? (i := 4) rfl)) (hw _ (List.mem_of_getElem? (i := 7) rfl)) (by decide) (rm_ur l Z a0 hw [] b19 b16 ed cs _ _ _ _ _ _ _ _ n0 Z0 O SE SC hcs E_b19 F_containers_b19 F_sharedNames_b19 F_sharedKeys_b19 F_sharedStarts_b19 F_latin1_b19 F_wide_b19 F_utf8_b19 F_position_b19 F_excess_b19 g_b19) eT (by decide) 1 (by decide) (by rw [hml]; rfl) [(.ref b16)] (rest := [(.ref b19)]) (lenOf pd_2 rfl) rfl rfl (Nat.le_of_eq rfl) (by decide) (by decide) 125 (hb hby at_122) rfl (fun v T h20 Lc X eT q => ?_)
      obtain ⟨rfl, N', K1, E', G1, G2, G3⟩ := q
      replace N := Fr.app N N'
      replace V_b16 := V_b16.keep K1 (ninS ne_b16_b19 nin0)
      replace Z0 := Nat.le_trans Z0 K1.1
      replace O := O.keep K1 (allS (P := fun x => n0 ≤ x) g_b19 all0)
      replace E_b19 := E'
      have F1 := G1
      have F2 := G2
      have F3 := G3
      show Wout p e below _ T (mkF m 125 #[.val (.int p1), .val (.int p2), .val (.int p3), .val (.int p4), .val (.int p5), .val (.int ((p1).toInt8.toInt32)), .val (.int ((p2).toInt8.toInt32)), .val (.int ((p3).toInt8.toInt32)), .val (.int (2 : Int32)), .val (.ref b16), .val (.int pos), .unset, .unset, .unset, .unset, .unset] [(.ref b19)])
      refine o_astore X hx 127 (Ls' := #[.val (.int p1), .val (.int p2), .val (.int p3), .val (.int p4), .val (.int p5), .val (.int ((p1).toInt8.toInt32)), .val (.int ((p2).toInt8.toInt32)), .val (.int ((p3).toInt8.toInt32)), .val (.int (2 : Int32)), .val (.ref b16), .val (.int pos), .val (.ref b19), .unset, .unset, .unset, .unset]) (hb hby at_125) rfl rfl rfl ?_
      refine o_aload X hx 129 (hb hby at_127) rfl rfl rfl ?_
      refine o_iload X hx 131 (hb hby at_129) rfl rfl ?_
      refine o_putF X hx hZ .int hown (host := "") (Or.inl (hw _ (List.mem_of_getElem? (i := 77) rfl))) (Via.of (hw _ (List.mem_of_getElem? (i := 78) rfl))) eT F2 E_b19 (Or.inl (hw _ (List.mem_of_getElem? (i := 79) rfl))) (hw _ (List.mem_of_getElem? (i := 3) rfl)) (by decide) rfl rfl N g_b19 134 (hb hby at_131) rfl (fun T h21 locs X eT W N => ?_)
      replace V_b16 := V_b16.other W ne_b16_b19
      replace E_b19 := E_b19.wr W
      replace F1 := F1.other W (Or.inr (slot_ne (Or.inr (hw _ (List.mem_of_getElem? (i := 76) rfl))) (Or.inl (hw _ (List.mem_of_getElem? (i := 79) rfl))) (by decide) (t := (.array .byte)) (t' := .int) (by decide) (by decide)))
      replace F2 := F2.same W
      replace F3 := F3.other W (Or.inr (slot_ne (Or.inl (hw _ (List.mem_of_getElem? (i := 88) rfl))) (Or.inl (hw _ (List.mem_of_getElem? (i := 79) rfl))) (by decide) (t := .long) (t' := .int) (by decide) (by decide)))
      replace Z0 := Nat.le_trans Z0 (Keep.of_wr W).1
      replace O := O.wr W g_b19
      refine o_aload X hx 136 (hb hby at_134) rfl rfl rfl ?_
      by_cases q : pos < (2 : Int32)
      · show Wout p e below _ T (mkF m 136 #[.val (.int p1), .val (.int p2), .val (.int p3), .val (.int p4), .val (.int p5), .val (.int ((p1).toInt8.toInt32)), .val (.int ((p2).toInt8.toInt32)), .val (.int ((p3).toInt8.toInt32)), .val (.int (2 : Int32)), .val (.ref b16), .val (.int pos), .val (.ref b19), .unset, .unset, .unset, .unset] [(.ref b19)])
        have q' := own_pos (n := 2) hpos rfl q
        rcases own_in2 hpos q' with rfl | rfl
        · show Wout p e below _ T (mkF m 136 #[.val (.int p1), .val (.int p2), .val (.int p3), .val (.int p4), .val (.int p5), .val (.int ((p1).toInt8.toInt32)), .val (.int ((p2).toInt8.toInt32)), .val (.int ((p3).toInt8.toInt32)), .val (.int (2 : Int32)), .val (.ref b16), .val (.int (0 : Int32)), .val (.ref b19), .unset, .unset, .unset, .unset] [(.ref b19)])
          refine o_callV X hx hZ hown (hw _ (List.mem_of_getElem? (i := 80) rfl)) (hw _ (List.mem_of_getElem? (i := 81) rfl)) (hw _ (List.mem_of_getElem? (i := 83) rfl)) (hw _ (List.mem_of_getElem? (i := 82) rfl)) (hw _ (List.mem_of_getElem? (i := 4) rfl)) (hw _ (List.mem_of_getElem? (i := 84) rfl)) (by decide) (rm_pkV l Z a0 hw [] b19 b16 k16 (0 : Int32) (2 : Int32) (nar .byte (((p1).toInt8.toInt32))) [(.int (nar .byte (((p1).toInt8.toInt32)))), (.int (nar .byte (((p2).toInt8.toInt32))))] _ n0 Z0 F2 F1 V_b16 (by decide) rfl) eT (by decide) 0 (by decide) (by rw [hml]; rfl) E_b19 [] (rest := []) (lenOf pd_3 rfl) rfl rfl (Nat.le_of_eq rfl) (by decide) (by decide) 139 (hb hby at_136) rfl (fun v T h22 Lc X eT q => ?_)
          obtain ⟨rfl, N', e'⟩ := q
          replace N := Fr.app N N'
          replace eT := eT.trans e'
          show Wout p e below _ T (mkF m 139 #[.val (.int p1), .val (.int p2), .val (.int p3), .val (.int p4), .val (.int p5), .val (.int ((p1).toInt8.toInt32)), .val (.int ((p2).toInt8.toInt32)), .val (.int ((p3).toInt8.toInt32)), .val (.int (2 : Int32)), .val (.ref b16), .val (.int (0 : Int32)), .val (.ref b19), .unset, .unset, .unset, .unset] [(.int ((nar .byte (((p1).toInt8.toInt32))) &&& (255 : Int32)))])
          refine o_istore X hx 141 (Ls' := #[.val (.int p1), .val (.int p2), .val (.int p3), .val (.int p4), .val (.int p5), .val (.int ((p1).toInt8.toInt32)), .val (.int ((p2).toInt8.toInt32)), .val (.int ((p3).toInt8.toInt32)), .val (.int (2 : Int32)), .val (.ref b16), .val (.int (0 : Int32)), .val (.ref b19), .val (.int ((nar .byte (((p1).toInt8.toInt32))) &&& (255 : Int32))), .unset, .unset, .unset]) (hb hby at_139) rfl rfl ?_
          refine o_aload X hx 143 (hb hby at_141) rfl rfl rfl ?_
          refine o_callV X hx hZ hown (hw _ (List.mem_of_getElem? (i := 80) rfl)) (hw _ (List.mem_of_getElem? (i := 81) rfl)) (hw _ (List.mem_of_getElem? (i := 83) rfl)) (hw _ (List.mem_of_getElem? (i := 82) rfl)) (hw _ (List.mem_of_getElem? (i := 4) rfl)) (hw _ (List.mem_of_getElem? (i := 84) rfl)) (by decide) (rm_pkV l Z a0 hw [] b19 b16 k16 (0 : Int32) (2 : Int32) (nar .byte (((p1).toInt8.toInt32))) [(.int (nar .byte (((p1).toInt8.toInt32)))), (.int (nar .byte (((p2).toInt8.toInt32))))] _ n0 Z0 F2 F1 V_b16 (by decide) rfl) eT (by decide) 0 (by decide) (by rw [hml]; rfl) E_b19 [] (rest := []) (lenOf pd_3 rfl) rfl rfl (Nat.le_of_eq rfl) (by decide) (by decide) 146 (hb hby at_143) rfl (fun v T h23 Lc X eT q => ?_)
          obtain ⟨rfl, N', e'⟩ := q
          replace N := Fr.app N N'
          replace eT := eT.trans e'
          show Wout p e below _ T (mkF m 146 #[.val (.int p1), .val (.int p2), .val (.int p3), .val (.int p4), .val (.int p5), .val (.int ((p1).toInt8.toInt32)), .val (.int ((p2).toInt8.toInt32)), .val (.int ((p3).toInt8.toInt32)), .val (.int (2 : Int32)), .val (.ref b16), .val (.int (0 : Int32)), .val (.ref b19), .val (.int ((nar .byte (((p1).toInt8.toInt32))) &&& (255 : Int32))), .unset, .unset, .unset] [(.int ((nar .byte (((p1).toInt8.toInt32))) &&& (255 : Int32)))])
          refine o_istore X hx 148 (Ls' := #[.val (.int p1), .val (.int p2), .val (.int p3), .val (.int p4), .val (.int p5), .val (.int ((p1).toInt8.toInt32)), .val (.int ((p2).toInt8.toInt32)), .val (.int ((p3).toInt8.toInt32)), .val (.int (2 : Int32)), .val (.ref b16), .val (.int (0 : Int32)), .val (.ref b19), .val (.int ((nar .byte (((p1).toInt8.toInt32))) &&& (255 : Int32))), .val (.int ((nar .byte (((p1).toInt8.toInt32))) &&& (255 : Int32))), .unset, .unset]) (hb hby at_146) rfl rfl ?_
          refine o_iload X hx 150 (hb hby at_148) rfl rfl ?_
          refine o_iload X hx 152 (hb hby at_150) rfl rfl ?_
          refine o_icmpT X hx 161 (hb hby at_152) rfl (by decide : (0 : Int32) < (2 : Int32)) ?_
          refine o_iload X hx 163 (hb hby at_161) rfl rfl ?_
          refine o_ifF X hx 166 (hb hby at_163) rfl (by decide : (0 : Int32) = (0 : Int32)) ?_
          refine o_iload X hx 168 (hb hby at_166) rfl rfl ?_
          refine o_goto X hx 184 (hb hby at_168) rfl ?_
          refine o_istore X hx 186 (Ls' := #[.val (.int p1), .val (.int p2), .val (.int p3), .val (.int p4), .val (.int p5), .val (.int ((p1).toInt8.toInt32)), .val (.int ((p2).toInt8.toInt32)), .val (.int ((p3).toInt8.toInt32)), .val (.int (2 : Int32)), .val (.ref b16), .val (.int (0 : Int32)), .val (.ref b19), .val (.int ((nar .byte (((p1).toInt8.toInt32))) &&& (255 : Int32))), .val (.int ((nar .byte (((p1).toInt8.toInt32))) &&& (255 : Int32))), .unset, .val (.int ((p1).toInt8.toInt32))]) (hb hby at_184) rfl rfl ?_
          refine o_iload X hx 188 (hb hby at_186) rfl rfl ?_
          refine o_if X hx 200 191 (hb hby at_188) rfl rfl (fun (qs : ¬ ((p1).toInt8.toInt32) < (0 : Int32)) => ?_) (fun (qs : ((p1).toInt8.toInt32) < (0 : Int32)) => ?_)
          · show Wout p e below _ T (mkF m 200 #[.val (.int p1), .val (.int p2), .val (.int p3), .val (.int p4), .val (.int p5), .val (.int ((p1).toInt8.toInt32)), .val (.int ((p2).toInt8.toInt32)), .val (.int ((p3).toInt8.toInt32)), .val (.int (2 : Int32)), .val (.ref b16), .val (.int (0 : Int32)), .val (.ref b19), .val (.int ((nar .byte (((p1).toInt8.toInt32))) &&& (255 : Int32))), .val (.int ((nar .byte (((p1).toInt8.toInt32))) &&& (255 : Int32))), .unset, .val (.int ((p1).toInt8.toInt32))] [])
            refine o_iload X hx 202 (hb hby at_200) rfl rfl ?_
            refine o_istore X hx 204 (Ls' := #[.val (.int p1), .val (.int p2), .val (.int p3), .val (.int p4), .val (.int p5), .val (.int ((p1).toInt8.toInt32)), .val (.int ((p2).toInt8.toInt32)), .val (.int ((p3).toInt8.toInt32)), .val (.int (2 : Int32)), .val (.ref b16), .val (.int (0 : Int32)), .val (.ref b19), .val (.int ((nar .byte (((p1).toInt8.toInt32))) &&& (255 : Int32))), .val (.int ((nar .byte (((p1).toInt8.toInt32))) &&& (255 : Int32))), .val (.int ((p1).toInt8.toInt32)), .val (.int ((p1).toInt8.toInt32))]) (hb hby at_202) rfl rfl ?_
            refine o_iload X hx 206 (hb hby at_204) rfl rfl ?_
            refine o_iload X hx 208 (hb hby at_206) rfl rfl ?_
            refine o_icmpF X hx 211 (hb hby at_208) rfl (own_hi p1 qs) ?_
            refine o_iload X hx 213 (hb hby at_211) rfl rfl ?_
            refine o_iload X hx 215 (hb hby at_213) rfl rfl ?_
            refine o_icmpF X hx 218 (hb hby at_215) rfl (own_hi p1 qs) ?_
            refine o_aload X hx 220 (hb hby at_218) rfl rfl rfl ?_
            refine o_getF X hx hZ hown (host := "") (Or.inl (hw _ (List.mem_of_getElem? (i := 77) rfl))) (Via.of (hw _ (List.mem_of_getElem? (i := 78) rfl))) eT F2 223 (hb hby at_220) rfl (fun T X eT => ?_)
            refine o_iload X hx 225 (hb hby at_223) rfl rfl ?_
            refine o_icmpF X hx 228 (hb hby at_225) rfl (by decide : (0 : Int32) = (0 : Int32)) ?_
            refine o_aload X hx 230 (hb hby at_228) rfl rfl rfl ?_
            refine o_getF X hx hZ hown (host := "") (Or.inl (hw _ (List.mem_of_getElem? (i := 86) rfl))) (Via.of (hw _ (List.mem_of_getElem? (i := 87) rfl))) eT F3 233 (hb hby at_230) rfl (fun T X eT => ?_)
            refine o_lconst X hx 234 (0 : Int64) (hb hby at_233) rfl rfl ?_
            refine o_lcmp X hx 235 (hb hby at_234) rfl ?_
            refine o_ifLF X hx 238 (hb hby at_235) rfl (rfl : (0 : Int64) = (0 : Int64)) ?_
            refine o_iconst X hx 239 (1 : Int32) (hb hby at_238) rfl rfl ?_
            refine o_goto X hx 243 (hb hby at_239) rfl ?_
            exact o_retI X hx hlk hret rfl (by simp) (hb hby at_243) (by decide) (by decide) (by rw [eT]; exact ⟨rfl, N, trivial⟩)
          · show Wout p e below _ T (mkF m 191 #[.val (.int p1), .val (.int p2), .val (.int p3), .val (.int p4), .val (.int p5), .val (.int ((p1).toInt8.toInt32)), .val (.int ((p2).toInt8.toInt32)), .val (.int ((p3).toInt8.toInt32)), .val (.int (2 : Int32)), .val (.ref b16), .val (.int (0 : Int32)), .val (.ref b19), .val (.int ((nar .byte (((p1).toInt8.toInt32))) &&& (255 : Int32))), .val (.int ((nar .byte (((p1).toInt8.toInt32))) &&& (255 : Int32))), .unset, .val (.int ((p1).toInt8.toInt32))] [])
            refine o_iload X hx 193 (hb hby at_191) rfl rfl ?_
            refine o_sipush X hx 196 (256 : Int32) (hb hby at_193) rfl rfl ?_
            refine o_iadd X hx 197 (hb hby at_196) rfl ?_
            refine o_goto X hx 202 (hb hby at_197) rfl ?_
            refine o_istore X hx 204 (Ls' := #[.val (.int p1), .val (.int p2), .val (.int p3), .val (.int p4), .val (.int p5), .val (.int ((p1).toInt8.toInt32)), .val (.int ((p2).toInt8.toInt32)), .val (.int ((p3).toInt8.toInt32)), .val (.int (2 : Int32)), .val (.ref b16), .val (.int (0 : Int32)), .val (.ref b19), .val (.int ((nar .byte (((p1).toInt8.toInt32))) &&& (255 : Int32))), .val (.int ((nar .byte (((p1).toInt8.toInt32))) &&& (255 : Int32))), .val (.int (((p1).toInt8.toInt32) + (256 : Int32))), .val (.int ((p1).toInt8.toInt32))]) (hb hby at_202) rfl rfl ?_
            refine o_iload X hx 206 (hb hby at_204) rfl rfl ?_
            refine o_iload X hx 208 (hb hby at_206) rfl rfl ?_
            refine o_icmpF X hx 211 (hb hby at_208) rfl (own_lo p1 qs) ?_
            refine o_iload X hx 213 (hb hby at_211) rfl rfl ?_
            refine o_iload X hx 215 (hb hby at_213) rfl rfl ?_
            refine o_icmpF X hx 218 (hb hby at_215) rfl (own_lo p1 qs) ?_
            refine o_aload X hx 220 (hb hby at_218) rfl rfl rfl ?_
            refine o_getF X hx hZ hown (host := "") (Or.inl (hw _ (List.mem_of_getElem? (i := 77) rfl))) (Via.of (hw _ (List.mem_of_getElem? (i := 78) rfl))) eT F2 223 (hb hby at_220) rfl (fun T X eT => ?_)
            refine o_iload X hx 225 (hb hby at_223) rfl rfl ?_
            refine o_icmpF X hx 228 (hb hby at_225) rfl (by decide : (0 : Int32) = (0 : Int32)) ?_
            refine o_aload X hx 230 (hb hby at_228) rfl rfl rfl ?_
            refine o_getF X hx hZ hown (host := "") (Or.inl (hw _ (List.mem_of_getElem? (i := 86) rfl))) (Via.of (hw _ (List.mem_of_getElem? (i := 87) rfl))) eT F3 233 (hb hby at_230) rfl (fun T X eT => ?_)
            refine o_lconst X hx 234 (0 : Int64) (hb hby at_233) rfl rfl ?_
            refine o_lcmp X hx 235 (hb hby at_234) rfl ?_
            refine o_ifLF X hx 238 (hb hby at_235) rfl (rfl : (0 : Int64) = (0 : Int64)) ?_
            refine o_iconst X hx 239 (1 : Int32) (hb hby at_238) rfl rfl ?_
            refine o_goto X hx 243 (hb hby at_239) rfl ?_
            exact o_retI X hx hlk hret rfl (by simp) (hb hby at_243) (by decide) (by decide) (by rw [eT]; exact ⟨rfl, N, trivial⟩)
        · show Wout p e below _ T (mkF m 136 #[.val (.int p1), .val (.int p2), .val (.int p3), .val (.int p4), .val (.int p5), .val (.int ((p1).toInt8.toInt32)), .val (.int ((p2).toInt8.toInt32)), .val (.int ((p3).toInt8.toInt32)), .val (.int (2 : Int32)), .val (.ref b16), .val (.int (1 : Int32)), .val (.ref b19), .unset, .unset, .unset, .unset] [(.ref b19)])
          refine o_callV X hx hZ hown (hw _ (List.mem_of_getElem? (i := 80) rfl)) (hw _ (List.mem_of_getElem? (i := 81) rfl)) (hw _ (List.mem_of_getElem? (i := 83) rfl)) (hw _ (List.mem_of_getElem? (i := 82) rfl)) (hw _ (List.mem_of_getElem? (i := 4) rfl)) (hw _ (List.mem_of_getElem? (i := 84) rfl)) (by decide) (rm_pkV l Z a0 hw [] b19 b16 k16 (1 : Int32) (2 : Int32) (nar .byte (((p2).toInt8.toInt32))) [(.int (nar .byte (((p1).toInt8.toInt32)))), (.int (nar .byte (((p2).toInt8.toInt32))))] _ n0 Z0 F2 F1 V_b16 (by decide) rfl) eT (by decide) 0 (by decide) (by rw [hml]; rfl) E_b19 [] (rest := []) (lenOf pd_3 rfl) rfl rfl (Nat.le_of_eq rfl) (by decide) (by decide) 139 (hb hby at_136) rfl (fun v T h24 Lc X eT q => ?_)
          obtain ⟨rfl, N', e'⟩ := q
          replace N := Fr.app N N'
          replace eT := eT.trans e'
          show Wout p e below _ T (mkF m 139 #[.val (.int p1), .val (.int p2), .val (.int p3), .val (.int p4), .val (.int p5), .val (.int ((p1).toInt8.toInt32)), .val (.int ((p2).toInt8.toInt32)), .val (.int ((p3).toInt8.toInt32)), .val (.int (2 : Int32)), .val (.ref b16), .val (.int (1 : Int32)), .val (.ref b19), .unset, .unset, .unset, .unset] [(.int ((nar .byte (((p2).toInt8.toInt32))) &&& (255 : Int32)))])
          refine o_istore X hx 141 (Ls' := #[.val (.int p1), .val (.int p2), .val (.int p3), .val (.int p4), .val (.int p5), .val (.int ((p1).toInt8.toInt32)), .val (.int ((p2).toInt8.toInt32)), .val (.int ((p3).toInt8.toInt32)), .val (.int (2 : Int32)), .val (.ref b16), .val (.int (1 : Int32)), .val (.ref b19), .val (.int ((nar .byte (((p2).toInt8.toInt32))) &&& (255 : Int32))), .unset, .unset, .unset]) (hb hby at_139) rfl rfl ?_
          refine o_aload X hx 143 (hb hby at_141) rfl rfl rfl ?_
          refine o_callV X hx hZ hown (hw _ (List.mem_of_getElem? (i := 80) rfl)) (hw _ (List.mem_of_getElem? (i := 81) rfl)) (hw _ (List.mem_of_getElem? (i := 83) rfl)) (hw _ (List.mem_of_getElem? (i := 82) rfl)) (hw _ (List.mem_of_getElem? (i := 4) rfl)) (hw _ (List.mem_of_getElem? (i := 84) rfl)) (by decide) (rm_pkV l Z a0 hw [] b19 b16 k16 (1 : Int32) (2 : Int32) (nar .byte (((p2).toInt8.toInt32))) [(.int (nar .byte (((p1).toInt8.toInt32)))), (.int (nar .byte (((p2).toInt8.toInt32))))] _ n0 Z0 F2 F1 V_b16 (by decide) rfl) eT (by decide) 0 (by decide) (by rw [hml]; rfl) E_b19 [] (rest := []) (lenOf pd_3 rfl) rfl rfl (Nat.le_of_eq rfl) (by decide) (by decide) 146 (hb hby at_143) rfl (fun v T h25 Lc X eT q => ?_)
          obtain ⟨rfl, N', e'⟩ := q
          replace N := Fr.app N N'
          replace eT := eT.trans e'
          show Wout p e below _ T (mkF m 146 #[.val (.int p1), .val (.int p2), .val (.int p3), .val (.int p4), .val (.int p5), .val (.int ((p1).toInt8.toInt32)), .val (.int ((p2).toInt8.toInt32)), .val (.int ((p3).toInt8.toInt32)), .val (.int (2 : Int32)), .val (.ref b16), .val (.int (1 : Int32)), .val (.ref b19), .val (.int ((nar .byte (((p2).toInt8.toInt32))) &&& (255 : Int32))), .unset, .unset, .unset] [(.int ((nar .byte (((p2).toInt8.toInt32))) &&& (255 : Int32)))])
          refine o_istore X hx 148 (Ls' := #[.val (.int p1), .val (.int p2), .val (.int p3), .val (.int p4), .val (.int p5), .val (.int ((p1).toInt8.toInt32)), .val (.int ((p2).toInt8.toInt32)), .val (.int ((p3).toInt8.toInt32)), .val (.int (2 : Int32)), .val (.ref b16), .val (.int (1 : Int32)), .val (.ref b19), .val (.int ((nar .byte (((p2).toInt8.toInt32))) &&& (255 : Int32))), .val (.int ((nar .byte (((p2).toInt8.toInt32))) &&& (255 : Int32))), .unset, .unset]) (hb hby at_146) rfl rfl ?_
          refine o_iload X hx 150 (hb hby at_148) rfl rfl ?_
          refine o_iload X hx 152 (hb hby at_150) rfl rfl ?_
          refine o_icmpT X hx 161 (hb hby at_152) rfl (by decide : (1 : Int32) < (2 : Int32)) ?_
          refine o_iload X hx 163 (hb hby at_161) rfl rfl ?_
          refine o_ifT X hx 171 (hb hby at_163) rfl (by decide : ¬ (1 : Int32) = (0 : Int32)) ?_
          refine o_iload X hx 173 (hb hby at_171) rfl rfl ?_
          refine o_iconst X hx 174 (1 : Int32) (hb hby at_173) rfl rfl ?_
          refine o_icmpF X hx 177 (hb hby at_174) rfl (by decide : (1 : Int32) = (1 : Int32)) ?_
          refine o_iload X hx 179 (hb hby at_177) rfl rfl ?_
          refine o_goto X hx 184 (hb hby at_179) rfl ?_
          refine o_istore X hx 186 (Ls' := #[.val (.int p1), .val (.int p2), .val (.int p3), .val (.int p4), .val (.int p5), .val (.int ((p1).toInt8.toInt32)), .val (.int ((p2).toInt8.toInt32)), .val (.int ((p3).toInt8.toInt32)), .val (.int (2 : Int32)), .val (.ref b16), .val (.int (1 : Int32)), .val (.ref b19), .val (.int ((nar .byte (((p2).toInt8.toInt32))) &&& (255 : Int32))), .val (.int ((nar .byte (((p2).toInt8.toInt32))) &&& (255 : Int32))), .unset, .val (.int ((p2).toInt8.toInt32))]) (hb hby at_184) rfl rfl ?_
          refine o_iload X hx 188 (hb hby at_186) rfl rfl ?_
          refine o_if X hx 200 191 (hb hby at_188) rfl rfl (fun (qs : ¬ ((p2).toInt8.toInt32) < (0 : Int32)) => ?_) (fun (qs : ((p2).toInt8.toInt32) < (0 : Int32)) => ?_)
          · show Wout p e below _ T (mkF m 200 #[.val (.int p1), .val (.int p2), .val (.int p3), .val (.int p4), .val (.int p5), .val (.int ((p1).toInt8.toInt32)), .val (.int ((p2).toInt8.toInt32)), .val (.int ((p3).toInt8.toInt32)), .val (.int (2 : Int32)), .val (.ref b16), .val (.int (1 : Int32)), .val (.ref b19), .val (.int ((nar .byte (((p2).toInt8.toInt32))) &&& (255 : Int32))), .val (.int ((nar .byte (((p2).toInt8.toInt32))) &&& (255 : Int32))), .unset, .val (.int ((p2).toInt8.toInt32))] [])
            refine o_iload X hx 202 (hb hby at_200) rfl rfl ?_
            refine o_istore X hx 204 (Ls' := #[.val (.int p1), .val (.int p2), .val (.int p3), .val (.int p4), .val (.int p5), .val (.int ((p1).toInt8.toInt32)), .val (.int ((p2).toInt8.toInt32)), .val (.int ((p3).toInt8.toInt32)), .val (.int (2 : Int32)), .val (.ref b16), .val (.int (1 : Int32)), .val (.ref b19), .val (.int ((nar .byte (((p2).toInt8.toInt32))) &&& (255 : Int32))), .val (.int ((nar .byte (((p2).toInt8.toInt32))) &&& (255 : Int32))), .val (.int ((p2).toInt8.toInt32)), .val (.int ((p2).toInt8.toInt32))]) (hb hby at_202) rfl rfl ?_
            refine o_iload X hx 206 (hb hby at_204) rfl rfl ?_
            refine o_iload X hx 208 (hb hby at_206) rfl rfl ?_
            refine o_icmpF X hx 211 (hb hby at_208) rfl (own_hi p2 qs) ?_
            refine o_iload X hx 213 (hb hby at_211) rfl rfl ?_
            refine o_iload X hx 215 (hb hby at_213) rfl rfl ?_
            refine o_icmpF X hx 218 (hb hby at_215) rfl (own_hi p2 qs) ?_
            refine o_aload X hx 220 (hb hby at_218) rfl rfl rfl ?_
            refine o_getF X hx hZ hown (host := "") (Or.inl (hw _ (List.mem_of_getElem? (i := 77) rfl))) (Via.of (hw _ (List.mem_of_getElem? (i := 78) rfl))) eT F2 223 (hb hby at_220) rfl (fun T X eT => ?_)
            refine o_iload X hx 225 (hb hby at_223) rfl rfl ?_
            refine o_icmpF X hx 228 (hb hby at_225) rfl (by decide : (1 : Int32) = (1 : Int32)) ?_
            refine o_aload X hx 230 (hb hby at_228) rfl rfl rfl ?_
            refine o_getF X hx hZ hown (host := "") (Or.inl (hw _ (List.mem_of_getElem? (i := 86) rfl))) (Via.of (hw _ (List.mem_of_getElem? (i := 87) rfl))) eT F3 233 (hb hby at_230) rfl (fun T X eT => ?_)
            refine o_lconst X hx 234 (0 : Int64) (hb hby at_233) rfl rfl ?_
            refine o_lcmp X hx 235 (hb hby at_234) rfl ?_
            refine o_ifLF X hx 238 (hb hby at_235) rfl (rfl : (0 : Int64) = (0 : Int64)) ?_
            refine o_iconst X hx 239 (1 : Int32) (hb hby at_238) rfl rfl ?_
            refine o_goto X hx 243 (hb hby at_239) rfl ?_
            exact o_retI X hx hlk hret rfl (by simp) (hb hby at_243) (by decide) (by decide) (by rw [eT]; exact ⟨rfl, N, trivial⟩)
          · show Wout p e below _ T (mkF m 191 #[.val (.int p1), .val (.int p2), .val (.int p3), .val (.int p4), .val (.int p5), .val (.int ((p1).toInt8.toInt32)), .val (.int ((p2).toInt8.toInt32)), .val (.int ((p3).toInt8.toInt32)), .val (.int (2 : Int32)), .val (.ref b16), .val (.int (1 : Int32)), .val (.ref b19), .val (.int ((nar .byte (((p2).toInt8.toInt32))) &&& (255 : Int32))), .val (.int ((nar .byte (((p2).toInt8.toInt32))) &&& (255 : Int32))), .unset, .val (.int ((p2).toInt8.toInt32))] [])
            refine o_iload X hx 193 (hb hby at_191) rfl rfl ?_
            refine o_sipush X hx 196 (256 : Int32) (hb hby at_193) rfl rfl ?_
            refine o_iadd X hx 197 (hb hby at_196) rfl ?_
            refine o_goto X hx 202 (hb hby at_197) rfl ?_
            refine o_istore X hx 204 (Ls' := #[.val (.int p1), .val (.int p2), .val (.int p3), .val (.int p4), .val (.int p5), .val (.int ((p1).toInt8.toInt32)), .val (.int ((p2).toInt8.toInt32)), .val (.int ((p3).toInt8.toInt32)), .val (.int (2 : Int32)), .val (.ref b16), .val (.int (1 : Int32)), .val (.ref b19), .val (.int ((nar .byte (((p2).toInt8.toInt32))) &&& (255 : Int32))), .val (.int ((nar .byte (((p2).toInt8.toInt32))) &&& (255 : Int32))), .val (.int (((p2).toInt8.toInt32) + (256 : Int32))), .val (.int ((p2).toInt8.toInt32))]) (hb hby at_202) rfl rfl ?_
            refine o_iload X hx 206 (hb hby at_204) rfl rfl ?_
            refine o_iload X hx 208 (hb hby at_206) rfl rfl ?_
            refine o_icmpF X hx 211 (hb hby at_208) rfl (own_lo p2 qs) ?_
            refine o_iload X hx 213 (hb hby at_211) rfl rfl ?_
            refine o_iload X hx 215 (hb hby at_213) rfl rfl ?_
            refine o_icmpF X hx 218 (hb hby at_215) rfl (own_lo p2 qs) ?_
            refine o_aload X hx 220 (hb hby at_218) rfl rfl rfl ?_
            refine o_getF X hx hZ hown (host := "") (Or.inl (hw _ (List.mem_of_getElem? (i := 77) rfl))) (Via.of (hw _ (List.mem_of_getElem? (i := 78) rfl))) eT F2 223 (hb hby at_220) rfl (fun T X eT => ?_)
            refine o_iload X hx 225 (hb hby at_223) rfl rfl ?_
            refine o_icmpF X hx 228 (hb hby at_225) rfl (by decide : (1 : Int32) = (1 : Int32)) ?_
            refine o_aload X hx 230 (hb hby at_228) rfl rfl rfl ?_
            refine o_getF X hx hZ hown (host := "") (Or.inl (hw _ (List.mem_of_getElem? (i := 86) rfl))) (Via.of (hw _ (List.mem_of_getElem? (i := 87) rfl))) eT F3 233 (hb hby at_230) rfl (fun T X eT => ?_)
            refine o_lconst X hx 234 (0 : Int64) (hb hby at_233) rfl rfl ?_
            refine o_lcmp X hx 235 (hb hby at_234) rfl ?_
            refine o_ifLF X hx 238 (hb hby at_235) rfl (rfl : (0 : Int64) = (0 : Int64)) ?_
            refine o_iconst X hx 239 (1 : Int32) (hb hby at_238) rfl rfl ?_
            refine o_goto X hx 243 (hb hby at_239) rfl ?_
            exact o_retI X hx hlk hret rfl (by simp) (hb hby at_243) (by decide) (by decide) (by rw [eT]; exact ⟨rfl, N, trivial⟩)
      · show Wout p e below _ T (mkF m 136 #[.val (.int p1), .val (.int p2), .val (.int p3), .val (.int p4), .val (.int p5), .val (.int ((p1).toInt8.toInt32)), .val (.int ((p2).toInt8.toInt32)), .val (.int ((p3).toInt8.toInt32)), .val (.int (2 : Int32)), .val (.ref b16), .val (.int pos), .val (.ref b19), .unset, .unset, .unset, .unset] [(.ref b19)])
        refine o_callV X hx hZ hown (hw _ (List.mem_of_getElem? (i := 80) rfl)) (hw _ (List.mem_of_getElem? (i := 81) rfl)) (hw _ (List.mem_of_getElem? (i := 83) rfl)) (hw _ (List.mem_of_getElem? (i := 82) rfl)) (hw _ (List.mem_of_getElem? (i := 4) rfl)) (hw _ (List.mem_of_getElem? (i := 84) rfl)) (by decide) (rm_pkE l Z a0 hw [] b19 b16 k16 pos (2 : Int32) [(.int (nar .byte (((p1).toInt8.toInt32)))), (.int (nar .byte (((p2).toInt8.toInt32))))] _ n0 Z0 F2 F1 V_b16 q) eT (by decide) 0 (by decide) (by rw [hml]; rfl) E_b19 [] (rest := []) (lenOf pd_3 rfl) rfl rfl (Nat.le_of_eq rfl) (by decide) (by decide) 139 (hb hby at_136) rfl (fun v T h26 Lc X eT q => ?_)
        obtain ⟨rfl, N', e'⟩ := q
        replace N := Fr.app N N'
        replace eT := eT.trans e'
        show Wout p e below _ T (mkF m 139 #[.val (.int p1), .val (.int p2), .val (.int p3), .val (.int p4), .val (.int p5), .val (.int ((p1).toInt8.toInt32)), .val (.int ((p2).toInt8.toInt32)), .val (.int ((p3).toInt8.toInt32)), .val (.int (2 : Int32)), .val (.ref b16), .val (.int pos), .val (.ref b19), .unset, .unset, .unset, .unset] [(.int (-1 : Int32))])
        refine o_istore X hx 141 (Ls' := #[.val (.int p1), .val (.int p2), .val (.int p3), .val (.int p4), .val (.int p5), .val (.int ((p1).toInt8.toInt32)), .val (.int ((p2).toInt8.toInt32)), .val (.int ((p3).toInt8.toInt32)), .val (.int (2 : Int32)), .val (.ref b16), .val (.int pos), .val (.ref b19), .val (.int (-1 : Int32)), .unset, .unset, .unset]) (hb hby at_139) rfl rfl ?_
        refine o_aload X hx 143 (hb hby at_141) rfl rfl rfl ?_
        refine o_callV X hx hZ hown (hw _ (List.mem_of_getElem? (i := 80) rfl)) (hw _ (List.mem_of_getElem? (i := 81) rfl)) (hw _ (List.mem_of_getElem? (i := 83) rfl)) (hw _ (List.mem_of_getElem? (i := 82) rfl)) (hw _ (List.mem_of_getElem? (i := 4) rfl)) (hw _ (List.mem_of_getElem? (i := 84) rfl)) (by decide) (rm_pkE l Z a0 hw [] b19 b16 k16 pos (2 : Int32) [(.int (nar .byte (((p1).toInt8.toInt32)))), (.int (nar .byte (((p2).toInt8.toInt32))))] _ n0 Z0 F2 F1 V_b16 q) eT (by decide) 0 (by decide) (by rw [hml]; rfl) E_b19 [] (rest := []) (lenOf pd_3 rfl) rfl rfl (Nat.le_of_eq rfl) (by decide) (by decide) 146 (hb hby at_143) rfl (fun v T h27 Lc X eT q => ?_)
        obtain ⟨rfl, N', e'⟩ := q
        replace N := Fr.app N N'
        replace eT := eT.trans e'
        show Wout p e below _ T (mkF m 146 #[.val (.int p1), .val (.int p2), .val (.int p3), .val (.int p4), .val (.int p5), .val (.int ((p1).toInt8.toInt32)), .val (.int ((p2).toInt8.toInt32)), .val (.int ((p3).toInt8.toInt32)), .val (.int (2 : Int32)), .val (.ref b16), .val (.int pos), .val (.ref b19), .val (.int (-1 : Int32)), .unset, .unset, .unset] [(.int (-1 : Int32))])
        refine o_istore X hx 148 (Ls' := #[.val (.int p1), .val (.int p2), .val (.int p3), .val (.int p4), .val (.int p5), .val (.int ((p1).toInt8.toInt32)), .val (.int ((p2).toInt8.toInt32)), .val (.int ((p3).toInt8.toInt32)), .val (.int (2 : Int32)), .val (.ref b16), .val (.int pos), .val (.ref b19), .val (.int (-1 : Int32)), .val (.int (-1 : Int32)), .unset, .unset]) (hb hby at_146) rfl rfl ?_
        refine o_iload X hx 150 (hb hby at_148) rfl rfl ?_
        refine o_iload X hx 152 (hb hby at_150) rfl rfl ?_
        refine o_icmpF X hx 155 (hb hby at_152) rfl q ?_
        refine o_iconst X hx 156 (-1 : Int32) (hb hby at_155) rfl rfl ?_
        refine o_istore X hx 158 (Ls' := #[.val (.int p1), .val (.int p2), .val (.int p3), .val (.int p4), .val (.int p5), .val (.int ((p1).toInt8.toInt32)), .val (.int ((p2).toInt8.toInt32)), .val (.int ((p3).toInt8.toInt32)), .val (.int (2 : Int32)), .val (.ref b16), .val (.int pos), .val (.ref b19), .val (.int (-1 : Int32)), .val (.int (-1 : Int32)), .val (.int (-1 : Int32)), .unset]) (hb hby at_156) rfl rfl ?_
        refine o_goto X hx 204 (hb hby at_158) rfl ?_
        refine o_iload X hx 206 (hb hby at_204) rfl rfl ?_
        refine o_iload X hx 208 (hb hby at_206) rfl rfl ?_
        refine o_icmpF X hx 211 (hb hby at_208) rfl (by decide : (-1 : Int32) = (-1 : Int32)) ?_
        refine o_iload X hx 213 (hb hby at_211) rfl rfl ?_
        refine o_iload X hx 215 (hb hby at_213) rfl rfl ?_
        refine o_icmpF X hx 218 (hb hby at_215) rfl (by decide : (-1 : Int32) = (-1 : Int32)) ?_
        refine o_aload X hx 220 (hb hby at_218) rfl rfl rfl ?_
        refine o_getF X hx hZ hown (host := "") (Or.inl (hw _ (List.mem_of_getElem? (i := 77) rfl))) (Via.of (hw _ (List.mem_of_getElem? (i := 78) rfl))) eT F2 223 (hb hby at_220) rfl (fun T X eT => ?_)
        refine o_iload X hx 225 (hb hby at_223) rfl rfl ?_
        refine o_icmpF X hx 228 (hb hby at_225) rfl (rfl : pos = pos) ?_
        refine o_aload X hx 230 (hb hby at_228) rfl rfl rfl ?_
        refine o_getF X hx hZ hown (host := "") (Or.inl (hw _ (List.mem_of_getElem? (i := 86) rfl))) (Via.of (hw _ (List.mem_of_getElem? (i := 87) rfl))) eT F3 233 (hb hby at_230) rfl (fun T X eT => ?_)
        refine o_lconst X hx 234 (0 : Int64) (hb hby at_233) rfl rfl ?_
        refine o_lcmp X hx 235 (hb hby at_234) rfl ?_
        refine o_ifLF X hx 238 (hb hby at_235) rfl (rfl : (0 : Int64) = (0 : Int64)) ?_
        refine o_iconst X hx 239 (1 : Int32) (hb hby at_238) rfl rfl ?_
        refine o_goto X hx 243 (hb hby at_239) rfl ?_
        exact o_retI X hx hlk hret rfl (by simp) (hb hby at_243) (by decide) (by decide) (by rw [eT]; exact ⟨rfl, N, trivial⟩)
    refine o_if X hx 107 99 (hb hby at_96) rfl rfl (fun (q4 : (p4 &&& (4 : Int32)) = (0 : Int32)) => ?_) (fun (q4 : ¬ (p4 &&& (4 : Int32)) = (0 : Int32)) => ?_)
    · show Wout p e below _ T (mkF m 107 #[.val (.int p1), .val (.int p2), .val (.int p3), .val (.int p4), .val (.int p5), .val (.int ((p1).toInt8.toInt32)), .val (.int ((p2).toInt8.toInt32)), .val (.int ((p3).toInt8.toInt32)), .val (.int (2 : Int32)), .val (.ref b16), .unset, .unset, .unset, .unset, .unset, .unset] [])
      refine o_iload X hx 109 (hb hby at_107) rfl rfl ?_
      refine o_ldc X hx hZ 111 hown (hw _ (List.mem_of_getElem? (i := 1) rfl)) (hb hby at_109) rfl ?_
      refine o_iand X hx 112 (hb hby at_111) rfl ?_
      refine o_iconst X hx 113 (5 : Int32) (hb hby at_112) rfl rfl ?_
      refine o_irem X hx 114 (hb hby at_113) (by decide) rfl ?_
      exact J _ (rem_in (n := 5) (mask31 p5) (by decide)).1
    · show Wout p e below _ T (mkF m 99 #[.val (.int p1), .val (.int p2), .val (.int p3), .val (.int p4), .val (.int p5), .val (.int ((p1).toInt8.toInt32)), .val (.int ((p2).toInt8.toInt32)), .val (.int ((p3).toInt8.toInt32)), .val (.int (2 : Int32)), .val (.ref b16), .unset, .unset, .unset, .unset, .unset, .unset] [])
      refine o_iload X hx 101 (hb hby at_99) rfl rfl ?_
      refine o_ldc X hx hZ 103 hown (hw _ (List.mem_of_getElem? (i := 1) rfl)) (hb hby at_101) rfl ?_
      refine o_iand X hx 104 (hb hby at_103) rfl ?_
      refine o_goto X hx 114 (hb hby at_104) rfl ?_
      exact J _ (mask31 p5)
  · show Wout p e below _ T (mkF m 15 #[.val (.int p1), .val (.int p2), .val (.int p3), .val (.int p4), .val (.int p5), .val (.int ((p1).toInt8.toInt32)), .val (.int ((p2).toInt8.toInt32)), .val (.int ((p3).toInt8.toInt32)), .unset, .unset, .unset, .unset, .unset, .unset, .unset, .unset] [(.int (3 : Int32))])
    refine o_istore X hx 17 (Ls' := #[.val (.int p1), .val (.int p2), .val (.int p3), .val (.int p4), .val (.int p5), .val (.int ((p1).toInt8.toInt32)), .val (.int ((p2).toInt8.toInt32)), .val (.int ((p3).toInt8.toInt32)), .val (.int (3 : Int32)), .unset, .unset, .unset, .unset, .unset, .unset, .unset]) (hb hby at_15) rfl rfl ?_
    refine o_iload X hx 19 (hb hby at_17) rfl rfl ?_
    refine o_ifT X hx 30 (hb hby at_19) rfl (by decide : ¬ (3 : Int32) = (0 : Int32)) ?_
    refine o_iload X hx 32 (hb hby at_30) rfl rfl ?_
    refine o_iconst X hx 33 (1 : Int32) (hb hby at_32) rfl rfl ?_
    refine o_icmpT X hx 49 (hb hby at_33) rfl (by decide : ¬ (3 : Int32) = (1 : Int32)) ?_
    refine o_iload X hx 51 (hb hby at_49) rfl rfl ?_
    refine o_iconst X hx 52 (2 : Int32) (hb hby at_51) rfl rfl ?_
    refine o_icmpT X hx 73 (hb hby at_52) rfl (by decide : ¬ (3 : Int32) = (2 : Int32)) ?_
    refine o_iconst X hx 74 (3 : Int32) (hb hby at_73) rfl rfl ?_
    refine o_newarray X hx hZ (hw _ (List.mem_of_getElem? (i := 0) rfl)) eT 76 (hb hby at_74) rfl (by decide) 3 (by decide) (by decide) (by decide) (by decide) (fun T h28 b28 k28 hb28 X eT E A => ?_)
    have g_b28 : n0 ≤ b28 := Nat.le_trans Z0 (Nat.le_of_eq hb28.symm)
    replace Z0 := Nat.le_trans Z0 E.1
    replace O := O.ext E
    have V_b28 : Arv Z h28 b28 k28 .byte (3 : Int32) [(.int (0 : Int32)), (.int (0 : Int32)), (.int (0 : Int32))] (.int (0 : Int32)) := A.pad (pad_rep [] (.int (0 : Int32)) 3)
    refine o_dup X hx 77 (hb hby at_76) rfl rfl ?_
    refine o_iconst X hx 78 (0 : Int32) (hb hby at_77) rfl rfl ?_
    refine o_iload X hx 80 (hb hby at_78) rfl rfl ?_
    refine o_bastore X hx hZ eT V_b28 ⟨by decide, by decide⟩ 0 rfl (Nat.le_of_ble_eq_true rfl) (vs' := [(.int (nar .byte ((p1).toInt8.toInt32))), (.int (0 : Int32)), (.int (0 : Int32))]) rfl N g_b28 81 (hb hby at_80) rfl (fun T h29 locs X eT W V' N => ?_)
    replace Z0 := Nat.le_trans Z0 (Keep.of_wr W).1
    replace O := O.wr W g_b28
    replace V_b28 := V'
    refine o_dup X hx 82 (hb hby at_81) rfl rfl ?_
    refine o_iconst X hx 83 (1 : Int32) (hb hby at_82) rfl rfl ?_
    refine o_iload X hx 85 (hb hby at_83) rfl rfl ?_
    refine o_bastore X hx hZ eT V_b28 ⟨by decide, by decide⟩ 1 rfl (Nat.le_of_ble_eq_true rfl) (vs' := [(.int (nar .byte ((p1).toInt8.toInt32))), (.int (nar .byte ((p2).toInt8.toInt32))), (.int (0 : Int32))]) rfl N g_b28 86 (hb hby at_85) rfl (fun T h30 locs X eT W V' N => ?_)
    replace Z0 := Nat.le_trans Z0 (Keep.of_wr W).1
    replace O := O.wr W g_b28
    replace V_b28 := V'
    refine o_dup X hx 87 (hb hby at_86) rfl rfl ?_
    refine o_iconst X hx 88 (2 : Int32) (hb hby at_87) rfl rfl ?_
    refine o_iload X hx 90 (hb hby at_88) rfl rfl ?_
    refine o_bastore X hx hZ eT V_b28 ⟨by decide, by decide⟩ 2 rfl (Nat.le_of_ble_eq_true rfl) (vs' := [(.int (nar .byte ((p1).toInt8.toInt32))), (.int (nar .byte ((p2).toInt8.toInt32))), (.int (nar .byte ((p3).toInt8.toInt32)))]) rfl N g_b28 91 (hb hby at_90) rfl (fun T h31 locs X eT W V' N => ?_)
    replace Z0 := Nat.le_trans Z0 (Keep.of_wr W).1
    replace O := O.wr W g_b28
    replace V_b28 := V'
    refine o_astore X hx 93 (Ls' := #[.val (.int p1), .val (.int p2), .val (.int p3), .val (.int p4), .val (.int p5), .val (.int ((p1).toInt8.toInt32)), .val (.int ((p2).toInt8.toInt32)), .val (.int ((p3).toInt8.toInt32)), .val (.int (3 : Int32)), .val (.ref b28), .unset, .unset, .unset, .unset, .unset, .unset]) (hb hby at_91) rfl rfl rfl ?_
    refine o_iloadN X hx 94 (hb hby at_93) rfl rfl ?_
    refine o_iconst X hx 95 (4 : Int32) (hb hby at_94) rfl rfl ?_
    refine o_iand X hx 96 (hb hby at_95) rfl ?_
    have J : ∀ pos : Int32, (0 ≤ pos.toInt) → Wout p e below (Pst s (Q_law Z p1 p2 p3 p4 p5 cs ed h0 n0) room_1.cells room_1.slots) T (mkF m 114 #[.val (.int p1), .val (.int p2), .val (.int p3), .val (.int p4), .val (.int p5), .val (.int ((p1).toInt8.toInt32)), .val (.int ((p2).toInt8.toInt32)), .val (.int ((p3).toInt8.toInt32)), .val (.int (3 : Int32)), .val (.ref b28), .unset, .unset, .unset, .unset, .unset, .unset] [(.int pos)]) := by
      intro pos hpos
      refine o_istore X hx 116 (Ls' := #[.val (.int p1), .val (.int p2), .val (.int p3), .val (.int p4), .val (.int p5), .val (.int ((p1).toInt8.toInt32)), .val (.int ((p2).toInt8.toInt32)), .val (.int ((p3).toInt8.toInt32)), .val (.int (3 : Int32)), .val (.ref b28), .val (.int pos), .unset, .unset, .unset, .unset, .unset]) (hb hby at_114) rfl rfl ?_
      refine o_new X hx hZ hown (hw _ (List.mem_of_getElem? (i := 2) rfl)) (hw _ (List.mem_of_getElem? (i := 3) rfl)) (hw _ (List.mem_of_getElem? (i := 4) rfl)) eT 119 (hb hby at_116) rfl (by decide) (by decide) (fun T h32 b32 hb32 X eT E A D => ?_)
      have ne_b28_b32 : b28 ≠ b32 := Nat.ne_of_lt (Nat.lt_of_lt_of_eq V_b28.lt hb32.symm)
      have g_b32 : n0 ≤ b32 := Nat.le_trans Z0 (Nat.le_of_eq hb32.symm)
      replace V_b28 := V_b28.ext E
      replace Z0 := Nat.le_trans Z0 E.1
      replace O := O.ext E
      have E_b32 := A
      have F_containers_b32 : Fld Z h32 b32 "com/example/libjpatch/libjpatch/JsonReader" "containers" "Ljava/util/ArrayList;" .null := D (Or.inr (hw _ (List.mem_of_getElem? (i := 41) rfl))) (ty := (.object "java/util/ArrayList")) (by decide)
      have F_sharedNames_b32 : Fld Z h32 b32 "com/example/libjpatch/libjpatch/JsonReader" "sharedNames" "[Ljava/lang/String;" .null := D (Or.inl (hw _ (List.mem_of_getElem? (i := 45) rfl))) (ty := (.array (.object "java/lang/String"))) (by decide)
      have F_sharedKeys_b32 : Fld Z h32 b32 "com/example/libjpatch/libjpatch/JsonReader" "sharedKeys" "[J" .null := D (Or.inl (hw _ (List.mem_of_getElem? (i := 48) rfl))) (ty := (.array .long)) (by decide)
      have F_sharedStarts_b32 : Fld Z h32 b32 "com/example/libjpatch/libjpatch/JsonReader" "sharedStarts" "[I" .null := D (Or.inl (hw _ (List.mem_of_getElem? (i := 51) rfl))) (ty := (.array .int)) (by decide)
      have F_latin1_b32 : Fld Z h32 b32 "com/example/libjpatch/libjpatch/Utf8Reader" "latin1" "[B" .null := D (Or.inl (hw _ (List.mem_of_getElem? (i := 53) rfl))) (ty := (.array .byte)) (by decide)
      have F_wide_b32 : Fld Z h32 b32 "com/example/libjpatch/libjpatch/Utf8Reader" "wide" "Ljava/lang/StringBuilder;" .null := D (Or.inr (hw _ (List.mem_of_getElem? (i := 74) rfl))) (ty := (.object "java/lang/StringBuilder")) (by decide)
      have F_utf8_b32 : Fld Z h32 b32 "com/example/libjpatch/libjpatch/Utf8Reader" "utf8" "[B" .null := D (Or.inr (hw _ (List.mem_of_getElem? (i := 76) rfl))) (ty := (.array .byte)) (by decide)
      have F_position_b32 : Fld Z h32 b32 "com/example/libjpatch/libjpatch/JsonReader" "position" "I" (.int (0 : Int32)) := D (Or.inl (hw _ (List.mem_of_getElem? (i := 79) rfl))) (ty := .int) (by decide)
      have F_excess_b32 : Fld Z h32 b32 "com/example/libjpatch/libjpatch/JsonReader" "excess" "J" (.long (0 : Int64)) := D (Or.inl (hw _ (List.mem_of_getElem? (i := 88) rfl))) (ty := .long) (by decide)
      refine o_dup X hx 120 (hb hby at_119) rfl rfl ?_
      refine o_aload X hx 122 (hb hby at_120) rfl rfl rfl ?_
      refine o_callI X hx hZ rfl hown (hw _ (List.mem_of_getElem? (i := 5) rfl)) (hw _ (List.mem_of_getElem? (i := 6) rfl)) (hw _ (List.mem_of_getElem? (i := 4) rfl)) (hw _ (List.mem_of_getElem? (i := 7) rfl)) (by decide) (rm_ur l Z a0 hw [] b32 b28 ed cs _ _ _ _ _ _ _ _ n0 Z0 O SE SC hcs E_b32 F_containers_b32 F_sharedNames_b32 F_sharedKeys_b32 F_sharedStarts_b32 F_latin1_b32 F_wide_b32 F_utf8_b32 F_position_b32 F_excess_b32 g_b32) eT (by decide) 1 (by decide) (by rw [hml]; rfl) [(.ref b28)] (rest := [(.ref b32)]) (lenOf pd_2 rfl) rfl rfl (Nat.le_of_eq rfl) (by decide) (by decide) 125 (hb hby at_122) rfl (fun v T h33 Lc X eT q => ?_)
      obtain ⟨rfl, N', K1, E', G1, G2, G3⟩ := q
      replace N := Fr.app N N'
      replace V_b28 := V_b28.keep K1 (ninS ne_b28_b32 nin0)
      replace Z0 := Nat.le_trans Z0 K1.1
      replace O := O.keep K1 (allS (P := fun x => n0 ≤ x) g_b32 all0)
      replace E_b32 := E'
      have F1 := G1
      have F2 := G2
      have F3 := G3
      show Wout p e below _ T (mkF m 125 #[.val (.int p1), .val (.int p2), .val (.int p3), .val (.int p4), .val (.int p5), .val (.int ((p1).toInt8.toInt32)), .val (.int ((p2).toInt8.toInt32)), .val (.int ((p3).toInt8.toInt32)), .val (.int (3 : Int32)), .val (.ref b28), .val (.int pos), .unset, .unset, .unset, .unset, .unset] [(.ref b32)])
      refine o_astore X hx 127 (Ls' := #[.val (.int p1), .val (.int p2), .val (.int p3), .val (.int p4), .val (.int p5), .val (.int ((p1).toInt8.toInt32)), .val (.int ((p2).toInt8.toInt32)), .val (.int ((p3).toInt8.toInt32)), .val (.int (3 : Int32)), .val (.ref b28), .val (.int pos), .val (.ref b32), .unset, .unset, .unset, .unset]) (hb hby at_125) rfl rfl rfl ?_
      refine o_aload X hx 129 (hb hby at_127) rfl rfl rfl ?_
      refine o_iload X hx 131 (hb hby at_129) rfl rfl ?_
      refine o_putF X hx hZ .int hown (host := "") (Or.inl (hw _ (List.mem_of_getElem? (i := 77) rfl))) (Via.of (hw _ (List.mem_of_getElem? (i := 78) rfl))) eT F2 E_b32 (Or.inl (hw _ (List.mem_of_getElem? (i := 79) rfl))) (hw _ (List.mem_of_getElem? (i := 3) rfl)) (by decide) rfl rfl N g_b32 134 (hb hby at_131) rfl (fun T h34 locs X eT W N => ?_)
      replace V_b28 := V_b28.other W ne_b28_b32
      replace E_b32 := E_b32.wr W
      replace F1 := F1.other W (Or.inr (slot_ne (Or.inr (hw _ (List.mem_of_getElem? (i := 76) rfl))) (Or.inl (hw _ (List.mem_of_getElem? (i := 79) rfl))) (by decide) (t := (.array .byte)) (t' := .int) (by decide) (by decide)))
      replace F2 := F2.same W
      replace F3 := F3.other W (Or.inr (slot_ne (Or.inl (hw _ (List.mem_of_getElem? (i := 88) rfl))) (Or.inl (hw _ (List.mem_of_getElem? (i := 79) rfl))) (by decide) (t := .long) (t' := .int) (by decide) (by decide)))
      replace Z0 := Nat.le_trans Z0 (Keep.of_wr W).1
      replace O := O.wr W g_b32
      refine o_aload X hx 136 (hb hby at_134) rfl rfl rfl ?_
      by_cases q : pos < (3 : Int32)
      · show Wout p e below _ T (mkF m 136 #[.val (.int p1), .val (.int p2), .val (.int p3), .val (.int p4), .val (.int p5), .val (.int ((p1).toInt8.toInt32)), .val (.int ((p2).toInt8.toInt32)), .val (.int ((p3).toInt8.toInt32)), .val (.int (3 : Int32)), .val (.ref b28), .val (.int pos), .val (.ref b32), .unset, .unset, .unset, .unset] [(.ref b32)])
        have q' := own_pos (n := 3) hpos rfl q
        rcases in3 hpos q' with rfl | rfl | rfl
        · show Wout p e below _ T (mkF m 136 #[.val (.int p1), .val (.int p2), .val (.int p3), .val (.int p4), .val (.int p5), .val (.int ((p1).toInt8.toInt32)), .val (.int ((p2).toInt8.toInt32)), .val (.int ((p3).toInt8.toInt32)), .val (.int (3 : Int32)), .val (.ref b28), .val (.int (0 : Int32)), .val (.ref b32), .unset, .unset, .unset, .unset] [(.ref b32)])
          refine o_callV X hx hZ hown (hw _ (List.mem_of_getElem? (i := 80) rfl)) (hw _ (List.mem_of_getElem? (i := 81) rfl)) (hw _ (List.mem_of_getElem? (i := 83) rfl)) (hw _ (List.mem_of_getElem? (i := 82) rfl)) (hw _ (List.mem_of_getElem? (i := 4) rfl)) (hw _ (List.mem_of_getElem? (i := 84) rfl)) (by decide) (rm_pkV l Z a0 hw [] b32 b28 k28 (0 : Int32) (3 : Int32) (nar .byte (((p1).toInt8.toInt32))) [(.int (nar .byte (((p1).toInt8.toInt32)))), (.int (nar .byte (((p2).toInt8.toInt32)))), (.int (nar .byte (((p3).toInt8.toInt32))))] _ n0 Z0 F2 F1 V_b28 (by decide) rfl) eT (by decide) 0 (by decide) (by rw [hml]; rfl) E_b32 [] (rest := []) (lenOf pd_3 rfl) rfl rfl (Nat.le_of_eq rfl) (by decide) (by decide) 139 (hb hby at_136) rfl (fun v T h35 Lc X eT q => ?_)
          obtain ⟨rfl, N', e'⟩ := q
          replace N := Fr.app N N'
          replace eT := eT.trans e'
          show Wout p e below _ T (mkF m 139 #[.val (.int p1), .val (.int p2), .val (.int p3), .val (.int p4), .val (.int p5), .val (.int ((p1).toInt8.toInt32)), .val (.int ((p2).toInt8.toInt32)), .val (.int ((p3).toInt8.toInt32)), .val (.int (3 : Int32)), .val (.ref b28), .val (.int (0 : Int32)), .val (.ref b32), .unset, .unset, .unset, .unset] [(.int ((nar .byte (((p1).toInt8.toInt32))) &&& (255 : Int32)))])
          refine o_istore X hx 141 (Ls' := #[.val (.int p1), .val (.int p2), .val (.int p3), .val (.int p4), .val (.int p5), .val (.int ((p1).toInt8.toInt32)), .val (.int ((p2).toInt8.toInt32)), .val (.int ((p3).toInt8.toInt32)), .val (.int (3 : Int32)), .val (.ref b28), .val (.int (0 : Int32)), .val (.ref b32), .val (.int ((nar .byte (((p1).toInt8.toInt32))) &&& (255 : Int32))), .unset, .unset, .unset]) (hb hby at_139) rfl rfl ?_
          refine o_aload X hx 143 (hb hby at_141) rfl rfl rfl ?_
          refine o_callV X hx hZ hown (hw _ (List.mem_of_getElem? (i := 80) rfl)) (hw _ (List.mem_of_getElem? (i := 81) rfl)) (hw _ (List.mem_of_getElem? (i := 83) rfl)) (hw _ (List.mem_of_getElem? (i := 82) rfl)) (hw _ (List.mem_of_getElem? (i := 4) rfl)) (hw _ (List.mem_of_getElem? (i := 84) rfl)) (by decide) (rm_pkV l Z a0 hw [] b32 b28 k28 (0 : Int32) (3 : Int32) (nar .byte (((p1).toInt8.toInt32))) [(.int (nar .byte (((p1).toInt8.toInt32)))), (.int (nar .byte (((p2).toInt8.toInt32)))), (.int (nar .byte (((p3).toInt8.toInt32))))] _ n0 Z0 F2 F1 V_b28 (by decide) rfl) eT (by decide) 0 (by decide) (by rw [hml]; rfl) E_b32 [] (rest := []) (lenOf pd_3 rfl) rfl rfl (Nat.le_of_eq rfl) (by decide) (by decide) 146 (hb hby at_143) rfl (fun v T h36 Lc X eT q => ?_)
          obtain ⟨rfl, N', e'⟩ := q
          replace N := Fr.app N N'
          replace eT := eT.trans e'
          show Wout p e below _ T (mkF m 146 #[.val (.int p1), .val (.int p2), .val (.int p3), .val (.int p4), .val (.int p5), .val (.int ((p1).toInt8.toInt32)), .val (.int ((p2).toInt8.toInt32)), .val (.int ((p3).toInt8.toInt32)), .val (.int (3 : Int32)), .val (.ref b28), .val (.int (0 : Int32)), .val (.ref b32), .val (.int ((nar .byte (((p1).toInt8.toInt32))) &&& (255 : Int32))), .unset, .unset, .unset] [(.int ((nar .byte (((p1).toInt8.toInt32))) &&& (255 : Int32)))])
          refine o_istore X hx 148 (Ls' := #[.val (.int p1), .val (.int p2), .val (.int p3), .val (.int p4), .val (.int p5), .val (.int ((p1).toInt8.toInt32)), .val (.int ((p2).toInt8.toInt32)), .val (.int ((p3).toInt8.toInt32)), .val (.int (3 : Int32)), .val (.ref b28), .val (.int (0 : Int32)), .val (.ref b32), .val (.int ((nar .byte (((p1).toInt8.toInt32))) &&& (255 : Int32))), .val (.int ((nar .byte (((p1).toInt8.toInt32))) &&& (255 : Int32))), .unset, .unset]) (hb hby at_146) rfl rfl ?_
          refine o_iload X hx 150 (hb hby at_148) rfl rfl ?_
          refine o_iload X hx 152 (hb hby at_150) rfl rfl ?_
          refine o_icmpT X hx 161 (hb hby at_152) rfl (by decide : (0 : Int32) < (3 : Int32)) ?_
          refine o_iload X hx 163 (hb hby at_161) rfl rfl ?_
          refine o_ifF X hx 166 (hb hby at_163) rfl (by decide : (0 : Int32) = (0 : Int32)) ?_
          refine o_iload X hx 168 (hb hby at_166) rfl rfl ?_
          refine o_goto X hx 184 (hb hby at_168) rfl ?_
          refine o_istore X hx 186 (Ls' := #[.val (.int p1), .val (.int p2), .val (.int p3), .val (.int p4), .val (.int p5), .val (.int ((p1).toInt8.toInt32)), .val (.int ((p2).toInt8.toInt32)), .val (.int ((p3).toInt8.toInt32)), .val (.int (3 : Int32)), .val (.ref b28), .val (.int (0 : Int32)), .val (.ref b32), .val (.int ((nar .byte (((p1).toInt8.toInt32))) &&& (255 : Int32))), .val (.int ((nar .byte (((p1).toInt8.toInt32))) &&& (255 : Int32))), .unset, .val (.int ((p1).toInt8.toInt32))]) (hb hby at_184) rfl rfl ?_
          refine o_iload X hx 188 (hb hby at_186) rfl rfl ?_
          refine o_if X hx 200 191 (hb hby at_188) rfl rfl (fun (qs : ¬ ((p1).toInt8.toInt32) < (0 : Int32)) => ?_) (fun (qs : ((p1).toInt8.toInt32) < (0 : Int32)) => ?_)
          · show Wout p e below _ T (mkF m 200 #[.val (.int p1), .val (.int p2), .val (.int p3), .val (.int p4), .val (.int p5), .val (.int ((p1).toInt8.toInt32)), .val (.int ((p2).toInt8.toInt32)), .val (.int ((p3).toInt8.toInt32)), .val (.int (3 : Int32)), .val (.ref b28), .val (.int (0 : Int32)), .val (.ref b32), .val (.int ((nar .byte (((p1).toInt8.toInt32))) &&& (255 : Int32))), .val (.int ((nar .byte (((p1).toInt8.toInt32))) &&& (255 : Int32))), .unset, .val (.int ((p1).toInt8.toInt32))] [])
            refine o_iload X hx 202 (hb hby at_200) rfl rfl ?_
            refine o_istore X hx 204 (Ls' := #[.val (.int p1), .val (.int p2), .val (.int p3), .val (.int p4), .val (.int p5), .val (.int ((p1).toInt8.toInt32)), .val (.int ((p2).toInt8.toInt32)), .val (.int ((p3).toInt8.toInt32)), .val (.int (3 : Int32)), .val (.ref b28), .val (.int (0 : Int32)), .val (.ref b32), .val (.int ((nar .byte (((p1).toInt8.toInt32))) &&& (255 : Int32))), .val (.int ((nar .byte (((p1).toInt8.toInt32))) &&& (255 : Int32))), .val (.int ((p1).toInt8.toInt32)), .val (.int ((p1).toInt8.toInt32))]) (hb hby at_202) rfl rfl ?_
            refine o_iload X hx 206 (hb hby at_204) rfl rfl ?_
            refine o_iload X hx 208 (hb hby at_206) rfl rfl ?_
            refine o_icmpF X hx 211 (hb hby at_208) rfl (own_hi p1 qs) ?_
            refine o_iload X hx 213 (hb hby at_211) rfl rfl ?_
            refine o_iload X hx 215 (hb hby at_213) rfl rfl ?_
            refine o_icmpF X hx 218 (hb hby at_215) rfl (own_hi p1 qs) ?_
            refine o_aload X hx 220 (hb hby at_218) rfl rfl rfl ?_
            refine o_getF X hx hZ hown (host := "") (Or.inl (hw _ (List.mem_of_getElem? (i := 77) rfl))) (Via.of (hw _ (List.mem_of_getElem? (i := 78) rfl))) eT F2 223 (hb hby at_220) rfl (fun T X eT => ?_)
            refine o_iload X hx 225 (hb hby at_223) rfl rfl ?_
            refine o_icmpF X hx 228 (hb hby at_225) rfl (by decide : (0 : Int32) = (0 : Int32)) ?_
            refine o_aload X hx 230 (hb hby at_228) rfl rfl rfl ?_
            refine o_getF X hx hZ hown (host := "") (Or.inl (hw _ (List.mem_of_getElem? (i := 86) rfl))) (Via.of (hw _ (List.mem_of_getElem? (i := 87) rfl))) eT F3 233 (hb hby at_230) rfl (fun T X eT => ?_)
            refine o_lconst X hx 234 (0 : Int64) (hb hby at_233) rfl rfl ?_
            refine o_lcmp X hx 235 (hb hby at_234) rfl ?_
            refine o_ifLF X hx 238 (hb hby at_235) rfl (rfl : (0 : Int64) = (0 : Int64)) ?_
            refine o_iconst X hx 239 (1 : Int32) (hb hby at_238) rfl rfl ?_
            refine o_goto X hx 243 (hb hby at_239) rfl ?_
            exact o_retI X hx hlk hret rfl (by simp) (hb hby at_243) (by decide) (by decide) (by rw [eT]; exact ⟨rfl, N, trivial⟩)
          · show Wout p e below _ T (mkF m 191 #[.val (.int p1), .val (.int p2), .val (.int p3), .val (.int p4), .val (.int p5), .val (.int ((p1).toInt8.toInt32)), .val (.int ((p2).toInt8.toInt32)), .val (.int ((p3).toInt8.toInt32)), .val (.int (3 : Int32)), .val (.ref b28), .val (.int (0 : Int32)), .val (.ref b32), .val (.int ((nar .byte (((p1).toInt8.toInt32))) &&& (255 : Int32))), .val (.int ((nar .byte (((p1).toInt8.toInt32))) &&& (255 : Int32))), .unset, .val (.int ((p1).toInt8.toInt32))] [])
            refine o_iload X hx 193 (hb hby at_191) rfl rfl ?_
            refine o_sipush X hx 196 (256 : Int32) (hb hby at_193) rfl rfl ?_
            refine o_iadd X hx 197 (hb hby at_196) rfl ?_
            refine o_goto X hx 202 (hb hby at_197) rfl ?_
            refine o_istore X hx 204 (Ls' := #[.val (.int p1), .val (.int p2), .val (.int p3), .val (.int p4), .val (.int p5), .val (.int ((p1).toInt8.toInt32)), .val (.int ((p2).toInt8.toInt32)), .val (.int ((p3).toInt8.toInt32)), .val (.int (3 : Int32)), .val (.ref b28), .val (.int (0 : Int32)), .val (.ref b32), .val (.int ((nar .byte (((p1).toInt8.toInt32))) &&& (255 : Int32))), .val (.int ((nar .byte (((p1).toInt8.toInt32))) &&& (255 : Int32))), .val (.int (((p1).toInt8.toInt32) + (256 : Int32))), .val (.int ((p1).toInt8.toInt32))]) (hb hby at_202) rfl rfl ?_
            refine o_iload X hx 206 (hb hby at_204) rfl rfl ?_
            refine o_iload X hx 208 (hb hby at_206) rfl rfl ?_
            refine o_icmpF X hx 211 (hb hby at_208) rfl (own_lo p1 qs) ?_
            refine o_iload X hx 213 (hb hby at_211) rfl rfl ?_
            refine o_iload X hx 215 (hb hby at_213) rfl rfl ?_
            refine o_icmpF X hx 218 (hb hby at_215) rfl (own_lo p1 qs) ?_
            refine o_aload X hx 220 (hb hby at_218) rfl rfl rfl ?_
            refine o_getF X hx hZ hown (host := "") (Or.inl (hw _ (List.mem_of_getElem? (i := 77) rfl))) (Via.of (hw _ (List.mem_of_getElem? (i := 78) rfl))) eT F2 223 (hb hby at_220) rfl (fun T X eT => ?_)
            refine o_iload X hx 225 (hb hby at_223) rfl rfl ?_
            refine o_icmpF X hx 228 (hb hby at_225) rfl (by decide : (0 : Int32) = (0 : Int32)) ?_
            refine o_aload X hx 230 (hb hby at_228) rfl rfl rfl ?_
            refine o_getF X hx hZ hown (host := "") (Or.inl (hw _ (List.mem_of_getElem? (i := 86) rfl))) (Via.of (hw _ (List.mem_of_getElem? (i := 87) rfl))) eT F3 233 (hb hby at_230) rfl (fun T X eT => ?_)
            refine o_lconst X hx 234 (0 : Int64) (hb hby at_233) rfl rfl ?_
            refine o_lcmp X hx 235 (hb hby at_234) rfl ?_
            refine o_ifLF X hx 238 (hb hby at_235) rfl (rfl : (0 : Int64) = (0 : Int64)) ?_
            refine o_iconst X hx 239 (1 : Int32) (hb hby at_238) rfl rfl ?_
            refine o_goto X hx 243 (hb hby at_239) rfl ?_
            exact o_retI X hx hlk hret rfl (by simp) (hb hby at_243) (by decide) (by decide) (by rw [eT]; exact ⟨rfl, N, trivial⟩)
        · show Wout p e below _ T (mkF m 136 #[.val (.int p1), .val (.int p2), .val (.int p3), .val (.int p4), .val (.int p5), .val (.int ((p1).toInt8.toInt32)), .val (.int ((p2).toInt8.toInt32)), .val (.int ((p3).toInt8.toInt32)), .val (.int (3 : Int32)), .val (.ref b28), .val (.int (1 : Int32)), .val (.ref b32), .unset, .unset, .unset, .unset] [(.ref b32)])
          refine o_callV X hx hZ hown (hw _ (List.mem_of_getElem? (i := 80) rfl)) (hw _ (List.mem_of_getElem? (i := 81) rfl)) (hw _ (List.mem_of_getElem? (i := 83) rfl)) (hw _ (List.mem_of_getElem? (i := 82) rfl)) (hw _ (List.mem_of_getElem? (i := 4) rfl)) (hw _ (List.mem_of_getElem? (i := 84) rfl)) (by decide) (rm_pkV l Z a0 hw [] b32 b28 k28 (1 : Int32) (3 : Int32) (nar .byte (((p2).toInt8.toInt32))) [(.int (nar .byte (((p1).toInt8.toInt32)))), (.int (nar .byte (((p2).toInt8.toInt32)))), (.int (nar .byte (((p3).toInt8.toInt32))))] _ n0 Z0 F2 F1 V_b28 (by decide) rfl) eT (by decide) 0 (by decide) (by rw [hml]; rfl) E_b32 [] (rest := []) (lenOf pd_3 rfl) rfl rfl (Nat.le_of_eq rfl) (by decide) (by decide) 139 (hb hby at_136) rfl (fun v T h37 Lc X eT q => ?_)
          obtain ⟨rfl, N', e'⟩ := q
          replace N := Fr.app N N'
          replace eT := eT.trans e'
          show Wout p e below _ T (mkF m 139 #[.val (.int p1), .val (.int p2), .val (.int p3), .val (.int p4), .val (.int p5), .val (.int ((p1).toInt8.toInt32)), .val (.int ((p2).toInt8.toInt32)), .val (.int ((p3).toInt8.toInt32)), .val (.int (3 : Int32)), .val (.ref b28), .val (.int (1 : Int32)), .val (.ref b32), .unset, .unset, .unset, .unset] [(.int ((nar .byte (((p2).toInt8.toInt32))) &&& (255 : Int32)))])
          refine o_istore X hx 141 (Ls' := #[.val (.int p1), .val (.int p2), .val (.int p3), .val (.int p4), .val (.int p5), .val (.int ((p1).toInt8.toInt32)), .val (.int ((p2).toInt8.toInt32)), .val (.int ((p3).toInt8.toInt32)), .val (.int (3 : Int32)), .val (.ref b28), .val (.int (1 : Int32)), .val (.ref b32), .val (.int ((nar .byte (((p2).toInt8.toInt32))) &&& (255 : Int32))), .unset, .unset, .unset]) (hb hby at_139) rfl rfl ?_
          refine o_aload X hx 143 (hb hby at_141) rfl rfl rfl ?_
          refine o_callV X hx hZ hown (hw _ (List.mem_of_getElem? (i := 80) rfl)) (hw _ (List.mem_of_getElem? (i := 81) rfl)) (hw _ (List.mem_of_getElem? (i := 83) rfl)) (hw _ (List.mem_of_getElem? (i := 82) rfl)) (hw _ (List.mem_of_getElem? (i := 4) rfl)) (hw _ (List.mem_of_getElem? (i := 84) rfl)) (by decide) (rm_pkV l Z a0 hw [] b32 b28 k28 (1 : Int32) (3 : Int32) (nar .byte (((p2).toInt8.toInt32))) [(.int (nar .byte (((p1).toInt8.toInt32)))), (.int (nar .byte (((p2).toInt8.toInt32)))), (.int (nar .byte (((p3).toInt8.toInt32))))] _ n0 Z0 F2 F1 V_b28 (by decide) rfl) eT (by decide) 0 (by decide) (by rw [hml]; rfl) E_b32 [] (rest := []) (lenOf pd_3 rfl) rfl rfl (Nat.le_of_eq rfl) (by decide) (by decide) 146 (hb hby at_143) rfl (fun v T h38 Lc X eT q => ?_)
          obtain ⟨rfl, N', e'⟩ := q
          replace N := Fr.app N N'
          replace eT := eT.trans e'
          show Wout p e below _ T (mkF m 146 #[.val (.int p1), .val (.int p2), .val (.int p3), .val (.int p4), .val (.int p5), .val (.int ((p1).toInt8.toInt32)), .val (.int ((p2).toInt8.toInt32)), .val (.int ((p3).toInt8.toInt32)), .val (.int (3 : Int32)), .val (.ref b28), .val (.int (1 : Int32)), .val (.ref b32), .val (.int ((nar .byte (((p2).toInt8.toInt32))) &&& (255 : Int32))), .unset, .unset, .unset] [(.int ((nar .byte (((p2).toInt8.toInt32))) &&& (255 : Int32)))])
          refine o_istore X hx 148 (Ls' := #[.val (.int p1), .val (.int p2), .val (.int p3), .val (.int p4), .val (.int p5), .val (.int ((p1).toInt8.toInt32)), .val (.int ((p2).toInt8.toInt32)), .val (.int ((p3).toInt8.toInt32)), .val (.int (3 : Int32)), .val (.ref b28), .val (.int (1 : Int32)), .val (.ref b32), .val (.int ((nar .byte (((p2).toInt8.toInt32))) &&& (255 : Int32))), .val (.int ((nar .byte (((p2).toInt8.toInt32))) &&& (255 : Int32))), .unset, .unset]) (hb hby at_146) rfl rfl ?_
          refine o_iload X hx 150 (hb hby at_148) rfl rfl ?_
          refine o_iload X hx 152 (hb hby at_150) rfl rfl ?_
          refine o_icmpT X hx 161 (hb hby at_152) rfl (by decide : (1 : Int32) < (3 : Int32)) ?_
          refine o_iload X hx 163 (hb hby at_161) rfl rfl ?_
          refine o_ifT X hx 171 (hb hby at_163) rfl (by decide : ¬ (1 : Int32) = (0 : Int32)) ?_
          refine o_iload X hx 173 (hb hby at_171) rfl rfl ?_
          refine o_iconst X hx 174 (1 : Int32) (hb hby at_173) rfl rfl ?_
          refine o_icmpF X hx 177 (hb hby at_174) rfl (by decide : (1 : Int32) = (1 : Int32)) ?_
          refine o_iload X hx 179 (hb hby at_177) rfl rfl ?_
          refine o_goto X hx 184 (hb hby at_179) rfl ?_
          refine o_istore X hx 186 (Ls' := #[.val (.int p1), .val (.int p2), .val (.int p3), .val (.int p4), .val (.int p5), .val (.int ((p1).toInt8.toInt32)), .val (.int ((p2).toInt8.toInt32)), .val (.int ((p3).toInt8.toInt32)), .val (.int (3 : Int32)), .val (.ref b28), .val (.int (1 : Int32)), .val (.ref b32), .val (.int ((nar .byte (((p2).toInt8.toInt32))) &&& (255 : Int32))), .val (.int ((nar .byte (((p2).toInt8.toInt32))) &&& (255 : Int32))), .unset, .val (.int ((p2).toInt8.toInt32))]) (hb hby at_184) rfl rfl ?_
          refine o_iload X hx 188 (hb hby at_186) rfl rfl ?_
          refine o_if X hx 200 191 (hb hby at_188) rfl rfl (fun (qs : ¬ ((p2).toInt8.toInt32) < (0 : Int32)) => ?_) (fun (qs : ((p2).toInt8.toInt32) < (0 : Int32)) => ?_)
          · show Wout p e below _ T (mkF m 200 #[.val (.int p1), .val (.int p2), .val (.int p3), .val (.int p4), .val (.int p5), .val (.int ((p1).toInt8.toInt32)), .val (.int ((p2).toInt8.toInt32)), .val (.int ((p3).toInt8.toInt32)), .val (.int (3 : Int32)), .val (.ref b28), .val (.int (1 : Int32)), .val (.ref b32), .val (.int ((nar .byte (((p2).toInt8.toInt32))) &&& (255 : Int32))), .val (.int ((nar .byte (((p2).toInt8.toInt32))) &&& (255 : Int32))), .unset, .val (.int ((p2).toInt8.toInt32))] [])
            refine o_iload X hx 202 (hb hby at_200) rfl rfl ?_
            refine o_istore X hx 204 (Ls' := #[.val (.int p1), .val (.int p2), .val (.int p3), .val (.int p4), .val (.int p5), .val (.int ((p1).toInt8.toInt32)), .val (.int ((p2).toInt8.toInt32)), .val (.int ((p3).toInt8.toInt32)), .val (.int (3 : Int32)), .val (.ref b28), .val (.int (1 : Int32)), .val (.ref b32), .val (.int ((nar .byte (((p2).toInt8.toInt32))) &&& (255 : Int32))), .val (.int ((nar .byte (((p2).toInt8.toInt32))) &&& (255 : Int32))), .val (.int ((p2).toInt8.toInt32)), .val (.int ((p2).toInt8.toInt32))]) (hb hby at_202) rfl rfl ?_
            refine o_iload X hx 206 (hb hby at_204) rfl rfl ?_
            refine o_iload X hx 208 (hb hby at_206) rfl rfl ?_
            refine o_icmpF X hx 211 (hb hby at_208) rfl (own_hi p2 qs) ?_
            refine o_iload X hx 213 (hb hby at_211) rfl rfl ?_
            refine o_iload X hx 215 (hb hby at_213) rfl rfl ?_
            refine o_icmpF X hx 218 (hb hby at_215) rfl (own_hi p2 qs) ?_
            refine o_aload X hx 220 (hb hby at_218) rfl rfl rfl ?_
            refine o_getF X hx hZ hown (host := "") (Or.inl (hw _ (List.mem_of_getElem? (i := 77) rfl))) (Via.of (hw _ (List.mem_of_getElem? (i := 78) rfl))) eT F2 223 (hb hby at_220) rfl (fun T X eT => ?_)
            refine o_iload X hx 225 (hb hby at_223) rfl rfl ?_
            refine o_icmpF X hx 228 (hb hby at_225) rfl (by decide : (1 : Int32) = (1 : Int32)) ?_
            refine o_aload X hx 230 (hb hby at_228) rfl rfl rfl ?_
            refine o_getF X hx hZ hown (host := "") (Or.inl (hw _ (List.mem_of_getElem? (i := 86) rfl))) (Via.of (hw _ (List.mem_of_getElem? (i := 87) rfl))) eT F3 233 (hb hby at_230) rfl (fun T X eT => ?_)
            refine o_lconst X hx 234 (0 : Int64) (hb hby at_233) rfl rfl ?_
            refine o_lcmp X hx 235 (hb hby at_234) rfl ?_
            refine o_ifLF X hx 238 (hb hby at_235) rfl (rfl : (0 : Int64) = (0 : Int64)) ?_
            refine o_iconst X hx 239 (1 : Int32) (hb hby at_238) rfl rfl ?_
            refine o_goto X hx 243 (hb hby at_239) rfl ?_
            exact o_retI X hx hlk hret rfl (by simp) (hb hby at_243) (by decide) (by decide) (by rw [eT]; exact ⟨rfl, N, trivial⟩)
          · show Wout p e below _ T (mkF m 191 #[.val (.int p1), .val (.int p2), .val (.int p3), .val (.int p4), .val (.int p5), .val (.int ((p1).toInt8.toInt32)), .val (.int ((p2).toInt8.toInt32)), .val (.int ((p3).toInt8.toInt32)), .val (.int (3 : Int32)), .val (.ref b28), .val (.int (1 : Int32)), .val (.ref b32), .val (.int ((nar .byte (((p2).toInt8.toInt32))) &&& (255 : Int32))), .val (.int ((nar .byte (((p2).toInt8.toInt32))) &&& (255 : Int32))), .unset, .val (.int ((p2).toInt8.toInt32))] [])
            refine o_iload X hx 193 (hb hby at_191) rfl rfl ?_
            refine o_sipush X hx 196 (256 : Int32) (hb hby at_193) rfl rfl ?_
            refine o_iadd X hx 197 (hb hby at_196) rfl ?_
            refine o_goto X hx 202 (hb hby at_197) rfl ?_
            refine o_istore X hx 204 (Ls' := #[.val (.int p1), .val (.int p2), .val (.int p3), .val (.int p4), .val (.int p5), .val (.int ((p1).toInt8.toInt32)), .val (.int ((p2).toInt8.toInt32)), .val (.int ((p3).toInt8.toInt32)), .val (.int (3 : Int32)), .val (.ref b28), .val (.int (1 : Int32)), .val (.ref b32), .val (.int ((nar .byte (((p2).toInt8.toInt32))) &&& (255 : Int32))), .val (.int ((nar .byte (((p2).toInt8.toInt32))) &&& (255 : Int32))), .val (.int (((p2).toInt8.toInt32) + (256 : Int32))), .val (.int ((p2).toInt8.toInt32))]) (hb hby at_202) rfl rfl ?_
            refine o_iload X hx 206 (hb hby at_204) rfl rfl ?_
            refine o_iload X hx 208 (hb hby at_206) rfl rfl ?_
            refine o_icmpF X hx 211 (hb hby at_208) rfl (own_lo p2 qs) ?_
            refine o_iload X hx 213 (hb hby at_211) rfl rfl ?_
            refine o_iload X hx 215 (hb hby at_213) rfl rfl ?_
            refine o_icmpF X hx 218 (hb hby at_215) rfl (own_lo p2 qs) ?_
            refine o_aload X hx 220 (hb hby at_218) rfl rfl rfl ?_
            refine o_getF X hx hZ hown (host := "") (Or.inl (hw _ (List.mem_of_getElem? (i := 77) rfl))) (Via.of (hw _ (List.mem_of_getElem? (i := 78) rfl))) eT F2 223 (hb hby at_220) rfl (fun T X eT => ?_)
            refine o_iload X hx 225 (hb hby at_223) rfl rfl ?_
            refine o_icmpF X hx 228 (hb hby at_225) rfl (by decide : (1 : Int32) = (1 : Int32)) ?_
            refine o_aload X hx 230 (hb hby at_228) rfl rfl rfl ?_
            refine o_getF X hx hZ hown (host := "") (Or.inl (hw _ (List.mem_of_getElem? (i := 86) rfl))) (Via.of (hw _ (List.mem_of_getElem? (i := 87) rfl))) eT F3 233 (hb hby at_230) rfl (fun T X eT => ?_)
            refine o_lconst X hx 234 (0 : Int64) (hb hby at_233) rfl rfl ?_
            refine o_lcmp X hx 235 (hb hby at_234) rfl ?_
            refine o_ifLF X hx 238 (hb hby at_235) rfl (rfl : (0 : Int64) = (0 : Int64)) ?_
            refine o_iconst X hx 239 (1 : Int32) (hb hby at_238) rfl rfl ?_
            refine o_goto X hx 243 (hb hby at_239) rfl ?_
            exact o_retI X hx hlk hret rfl (by simp) (hb hby at_243) (by decide) (by decide) (by rw [eT]; exact ⟨rfl, N, trivial⟩)
        · show Wout p e below _ T (mkF m 136 #[.val (.int p1), .val (.int p2), .val (.int p3), .val (.int p4), .val (.int p5), .val (.int ((p1).toInt8.toInt32)), .val (.int ((p2).toInt8.toInt32)), .val (.int ((p3).toInt8.toInt32)), .val (.int (3 : Int32)), .val (.ref b28), .val (.int (2 : Int32)), .val (.ref b32), .unset, .unset, .unset, .unset] [(.ref b32)])
          refine o_callV X hx hZ hown (hw _ (List.mem_of_getElem? (i := 80) rfl)) (hw _ (List.mem_of_getElem? (i := 81) rfl)) (hw _ (List.mem_of_getElem? (i := 83) rfl)) (hw _ (List.mem_of_getElem? (i := 82) rfl)) (hw _ (List.mem_of_getElem? (i := 4) rfl)) (hw _ (List.mem_of_getElem? (i := 84) rfl)) (by decide) (rm_pkV l Z a0 hw [] b32 b28 k28 (2 : Int32) (3 : Int32) (nar .byte (((p3).toInt8.toInt32))) [(.int (nar .byte (((p1).toInt8.toInt32)))), (.int (nar .byte (((p2).toInt8.toInt32)))), (.int (nar .byte (((p3).toInt8.toInt32))))] _ n0 Z0 F2 F1 V_b28 (by decide) rfl) eT (by decide) 0 (by decide) (by rw [hml]; rfl) E_b32 [] (rest := []) (lenOf pd_3 rfl) rfl rfl (Nat.le_of_eq rfl) (by decide) (by decide) 139 (hb hby at_136) rfl (fun v T h39 Lc X eT q => ?_)
          obtain ⟨rfl, N', e'⟩ := q
          replace N := Fr.app N N'
          replace eT := eT.trans e'
          show Wout p e below _ T (mkF m 139 #[.val (.int p1), .val (.int p2), .val (.int p3), .val (.int p4), .val (.int p5), .val (.int ((p1).toInt8.toInt32)), .val (.int ((p2).toInt8.toInt32)), .val (.int ((p3).toInt8.toInt32)), .val (.int (3 : Int32)), .val (.ref b28), .val (.int (2 : Int32)), .val (.ref b32), .unset, .unset, .unset, .unset] [(.int ((nar .byte (((p3).toInt8.toInt32))) &&& (255 : Int32)))])
          refine o_istore X hx 141 (Ls' := #[.val (.int p1), .val (.int p2), .val (.int p3), .val (.int p4), .val (.int p5), .val (.int ((p1).toInt8.toInt32)), .val (.int ((p2).toInt8.toInt32)), .val (.int ((p3).toInt8.toInt32)), .val (.int (3 : Int32)), .val (.ref b28), .val (.int (2 : Int32)), .val (.ref b32), .val (.int ((nar .byte (((p3).toInt8.toInt32))) &&& (255 : Int32))), .unset, .unset, .unset]) (hb hby at_139) rfl rfl ?_
          refine o_aload X hx 143 (hb hby at_141) rfl rfl rfl ?_
          refine o_callV X hx hZ hown (hw _ (List.mem_of_getElem? (i := 80) rfl)) (hw _ (List.mem_of_getElem? (i := 81) rfl)) (hw _ (List.mem_of_getElem? (i := 83) rfl)) (hw _ (List.mem_of_getElem? (i := 82) rfl)) (hw _ (List.mem_of_getElem? (i := 4) rfl)) (hw _ (List.mem_of_getElem? (i := 84) rfl)) (by decide) (rm_pkV l Z a0 hw [] b32 b28 k28 (2 : Int32) (3 : Int32) (nar .byte (((p3).toInt8.toInt32))) [(.int (nar .byte (((p1).toInt8.toInt32)))), (.int (nar .byte (((p2).toInt8.toInt32)))), (.int (nar .byte (((p3).toInt8.toInt32))))] _ n0 Z0 F2 F1 V_b28 (by decide) rfl) eT (by decide) 0 (by decide) (by rw [hml]; rfl) E_b32 [] (rest := []) (lenOf pd_3 rfl) rfl rfl (Nat.le_of_eq rfl) (by decide) (by decide) 146 (hb hby at_143) rfl (fun v T h40 Lc X eT q => ?_)
          obtain ⟨rfl, N', e'⟩ := q
          replace N := Fr.app N N'
          replace eT := eT.trans e'
          show Wout p e below _ T (mkF m 146 #[.val (.int p1), .val (.int p2), .val (.int p3), .val (.int p4), .val (.int p5), .val (.int ((p1).toInt8.toInt32)), .val (.int ((p2).toInt8.toInt32)), .val (.int ((p3).toInt8.toInt32)), .val (.int (3 : Int32)), .val (.ref b28), .val (.int (2 : Int32)), .val (.ref b32), .val (.int ((nar .byte (((p3).toInt8.toInt32))) &&& (255 : Int32))), .unset, .unset, .unset] [(.int ((nar .byte (((p3).toInt8.toInt32))) &&& (255 : Int32)))])
          refine o_istore X hx 148 (Ls' := #[.val (.int p1), .val (.int p2), .val (.int p3), .val (.int p4), .val (.int p5), .val (.int ((p1).toInt8.toInt32)), .val (.int ((p2).toInt8.toInt32)), .val (.int ((p3).toInt8.toInt32)), .val (.int (3 : Int32)), .val (.ref b28), .val (.int (2 : Int32)), .val (.ref b32), .val (.int ((nar .byte (((p3).toInt8.toInt32))) &&& (255 : Int32))), .val (.int ((nar .byte (((p3).toInt8.toInt32))) &&& (255 : Int32))), .unset, .unset]) (hb hby at_146) rfl rfl ?_
          refine o_iload X hx 150 (hb hby at_148) rfl rfl ?_
          refine o_iload X hx 152 (hb hby at_150) rfl rfl ?_
          refine o_icmpT X hx 161 (hb hby at_152) rfl (by decide : (2 : Int32) < (3 : Int32)) ?_
          refine o_iload X hx 163 (hb hby at_161) rfl rfl ?_
          refine o_ifT X hx 171 (hb hby at_163) rfl (by decide : ¬ (2 : Int32) = (0 : Int32)) ?_
          refine o_iload X hx 173 (hb hby at_171) rfl rfl ?_
          refine o_iconst X hx 174 (1 : Int32) (hb hby at_173) rfl rfl ?_
          refine o_icmpT X hx 182 (hb hby at_174) rfl (by decide : ¬ (2 : Int32) = (1 : Int32)) ?_
          refine o_iload X hx 184 (hb hby at_182) rfl rfl ?_
          refine o_istore X hx 186 (Ls' := #[.val (.int p1), .val (.int p2), .val (.int p3), .val (.int p4), .val (.int p5), .val (.int ((p1).toInt8.toInt32)), .val (.int ((p2).toInt8.toInt32)), .val (.int ((p3).toInt8.toInt32)), .val (.int (3 : Int32)), .val (.ref b28), .val (.int (2 : Int32)), .val (.ref b32), .val (.int ((nar .byte (((p3).toInt8.toInt32))) &&& (255 : Int32))), .val (.int ((nar .byte (((p3).toInt8.toInt32))) &&& (255 : Int32))), .unset, .val (.int ((p3).toInt8.toInt32))]) (hb hby at_184) rfl rfl ?_
          refine o_iload X hx 188 (hb hby at_186) rfl rfl ?_
          refine o_if X hx 200 191 (hb hby at_188) rfl rfl (fun (qs : ¬ ((p3).toInt8.toInt32) < (0 : Int32)) => ?_) (fun (qs : ((p3).toInt8.toInt32) < (0 : Int32)) => ?_)
          · show Wout p e below _ T (mkF m 200 #[.val (.int p1), .val (.int p2), .val (.int p3), .val (.int p4), .val (.int p5), .val (.int ((p1).toInt8.toInt32)), .val (.int ((p2).toInt8.toInt32)), .val (.int ((p3).toInt8.toInt32)), .val (.int (3 : Int32)), .val (.ref b28), .val (.int (2 : Int32)), .val (.ref b32), .val (.int ((nar .byte (((p3).toInt8.toInt32))) &&& (255 : Int32))), .val (.int ((nar .byte (((p3).toInt8.toInt32))) &&& (255 : Int32))), .unset, .val (.int ((p3).toInt8.toInt32))] [])
            refine o_iload X hx 202 (hb hby at_200) rfl rfl ?_
            refine o_istore X hx 204 (Ls' := #[.val (.int p1), .val (.int p2), .val (.int p3), .val (.int p4), .val (.int p5), .val (.int ((p1).toInt8.toInt32)), .val (.int ((p2).toInt8.toInt32)), .val (.int ((p3).toInt8.toInt32)), .val (.int (3 : Int32)), .val (.ref b28), .val (.int (2 : Int32)), .val (.ref b32), .val (.int ((nar .byte (((p3).toInt8.toInt32))) &&& (255 : Int32))), .val (.int ((nar .byte (((p3).toInt8.toInt32))) &&& (255 : Int32))), .val (.int ((p3).toInt8.toInt32)), .val (.int ((p3).toInt8.toInt32))]) (hb hby at_202) rfl rfl ?_
            refine o_iload X hx 206 (hb hby at_204) rfl rfl ?_
            refine o_iload X hx 208 (hb hby at_206) rfl rfl ?_
            refine o_icmpF X hx 211 (hb hby at_208) rfl (own_hi p3 qs) ?_
            refine o_iload X hx 213 (hb hby at_211) rfl rfl ?_
            refine o_iload X hx 215 (hb hby at_213) rfl rfl ?_
            refine o_icmpF X hx 218 (hb hby at_215) rfl (own_hi p3 qs) ?_
            refine o_aload X hx 220 (hb hby at_218) rfl rfl rfl ?_
            refine o_getF X hx hZ hown (host := "") (Or.inl (hw _ (List.mem_of_getElem? (i := 77) rfl))) (Via.of (hw _ (List.mem_of_getElem? (i := 78) rfl))) eT F2 223 (hb hby at_220) rfl (fun T X eT => ?_)
            refine o_iload X hx 225 (hb hby at_223) rfl rfl ?_
            refine o_icmpF X hx 228 (hb hby at_225) rfl (by decide : (2 : Int32) = (2 : Int32)) ?_
            refine o_aload X hx 230 (hb hby at_228) rfl rfl rfl ?_
            refine o_getF X hx hZ hown (host := "") (Or.inl (hw _ (List.mem_of_getElem? (i := 86) rfl))) (Via.of (hw _ (List.mem_of_getElem? (i := 87) rfl))) eT F3 233 (hb hby at_230) rfl (fun T X eT => ?_)
            refine o_lconst X hx 234 (0 : Int64) (hb hby at_233) rfl rfl ?_
            refine o_lcmp X hx 235 (hb hby at_234) rfl ?_
            refine o_ifLF X hx 238 (hb hby at_235) rfl (rfl : (0 : Int64) = (0 : Int64)) ?_
            refine o_iconst X hx 239 (1 : Int32) (hb hby at_238) rfl rfl ?_
            refine o_goto X hx 243 (hb hby at_239) rfl ?_
            exact o_retI X hx hlk hret rfl (by simp) (hb hby at_243) (by decide) (by decide) (by rw [eT]; exact ⟨rfl, N, trivial⟩)
          · show Wout p e below _ T (mkF m 191 #[.val (.int p1), .val (.int p2), .val (.int p3), .val (.int p4), .val (.int p5), .val (.int ((p1).toInt8.toInt32)), .val (.int ((p2).toInt8.toInt32)), .val (.int ((p3).toInt8.toInt32)), .val (.int (3 : Int32)), .val (.ref b28), .val (.int (2 : Int32)), .val (.ref b32), .val (.int ((nar .byte (((p3).toInt8.toInt32))) &&& (255 : Int32))), .val (.int ((nar .byte (((p3).toInt8.toInt32))) &&& (255 : Int32))), .unset, .val (.int ((p3).toInt8.toInt32))] [])
            refine o_iload X hx 193 (hb hby at_191) rfl rfl ?_
            refine o_sipush X hx 196 (256 : Int32) (hb hby at_193) rfl rfl ?_
            refine o_iadd X hx 197 (hb hby at_196) rfl ?_
            refine o_goto X hx 202 (hb hby at_197) rfl ?_
            refine o_istore X hx 204 (Ls' := #[.val (.int p1), .val (.int p2), .val (.int p3), .val (.int p4), .val (.int p5), .val (.int ((p1).toInt8.toInt32)), .val (.int ((p2).toInt8.toInt32)), .val (.int ((p3).toInt8.toInt32)), .val (.int (3 : Int32)), .val (.ref b28), .val (.int (2 : Int32)), .val (.ref b32), .val (.int ((nar .byte (((p3).toInt8.toInt32))) &&& (255 : Int32))), .val (.int ((nar .byte (((p3).toInt8.toInt32))) &&& (255 : Int32))), .val (.int (((p3).toInt8.toInt32) + (256 : Int32))), .val (.int ((p3).toInt8.toInt32))]) (hb hby at_202) rfl rfl ?_
            refine o_iload X hx 206 (hb hby at_204) rfl rfl ?_
            refine o_iload X hx 208 (hb hby at_206) rfl rfl ?_
            refine o_icmpF X hx 211 (hb hby at_208) rfl (own_lo p3 qs) ?_
            refine o_iload X hx 213 (hb hby at_211) rfl rfl ?_
            refine o_iload X hx 215 (hb hby at_213) rfl rfl ?_
            refine o_icmpF X hx 218 (hb hby at_215) rfl (own_lo p3 qs) ?_
            refine o_aload X hx 220 (hb hby at_218) rfl rfl rfl ?_
            refine o_getF X hx hZ hown (host := "") (Or.inl (hw _ (List.mem_of_getElem? (i := 77) rfl))) (Via.of (hw _ (List.mem_of_getElem? (i := 78) rfl))) eT F2 223 (hb hby at_220) rfl (fun T X eT => ?_)
            refine o_iload X hx 225 (hb hby at_223) rfl rfl ?_
            refine o_icmpF X hx 228 (hb hby at_225) rfl (by decide : (2 : Int32) = (2 : Int32)) ?_
            refine o_aload X hx 230 (hb hby at_228) rfl rfl rfl ?_
            refine o_getF X hx hZ hown (host := "") (Or.inl (hw _ (List.mem_of_getElem? (i := 86) rfl))) (Via.of (hw _ (List.mem_of_getElem? (i := 87) rfl))) eT F3 233 (hb hby at_230) rfl (fun T X eT => ?_)
            refine o_lconst X hx 234 (0 : Int64) (hb hby at_233) rfl rfl ?_
            refine o_lcmp X hx 235 (hb hby at_234) rfl ?_
            refine o_ifLF X hx 238 (hb hby at_235) rfl (rfl : (0 : Int64) = (0 : Int64)) ?_
            refine o_iconst X hx 239 (1 : Int32) (hb hby at_238) rfl rfl ?_
            refine o_goto X hx 243 (hb hby at_239) rfl ?_
            exact o_retI X hx hlk hret rfl (by simp) (hb hby at_243) (by decide) (by decide) (by rw [eT]; exact ⟨rfl, N, trivial⟩)
      · show Wout p e below _ T (mkF m 136 #[.val (.int p1), .val (.int p2), .val (.int p3), .val (.int p4), .val (.int p5), .val (.int ((p1).toInt8.toInt32)), .val (.int ((p2).toInt8.toInt32)), .val (.int ((p3).toInt8.toInt32)), .val (.int (3 : Int32)), .val (.ref b28), .val (.int pos), .val (.ref b32), .unset, .unset, .unset, .unset] [(.ref b32)])
        refine o_callV X hx hZ hown (hw _ (List.mem_of_getElem? (i := 80) rfl)) (hw _ (List.mem_of_getElem? (i := 81) rfl)) (hw _ (List.mem_of_getElem? (i := 83) rfl)) (hw _ (List.mem_of_getElem? (i := 82) rfl)) (hw _ (List.mem_of_getElem? (i := 4) rfl)) (hw _ (List.mem_of_getElem? (i := 84) rfl)) (by decide) (rm_pkE l Z a0 hw [] b32 b28 k28 pos (3 : Int32) [(.int (nar .byte (((p1).toInt8.toInt32)))), (.int (nar .byte (((p2).toInt8.toInt32)))), (.int (nar .byte (((p3).toInt8.toInt32))))] _ n0 Z0 F2 F1 V_b28 q) eT (by decide) 0 (by decide) (by rw [hml]; rfl) E_b32 [] (rest := []) (lenOf pd_3 rfl) rfl rfl (Nat.le_of_eq rfl) (by decide) (by decide) 139 (hb hby at_136) rfl (fun v T h41 Lc X eT q => ?_)
        obtain ⟨rfl, N', e'⟩ := q
        replace N := Fr.app N N'
        replace eT := eT.trans e'
        show Wout p e below _ T (mkF m 139 #[.val (.int p1), .val (.int p2), .val (.int p3), .val (.int p4), .val (.int p5), .val (.int ((p1).toInt8.toInt32)), .val (.int ((p2).toInt8.toInt32)), .val (.int ((p3).toInt8.toInt32)), .val (.int (3 : Int32)), .val (.ref b28), .val (.int pos), .val (.ref b32), .unset, .unset, .unset, .unset] [(.int (-1 : Int32))])
        refine o_istore X hx 141 (Ls' := #[.val (.int p1), .val (.int p2), .val (.int p3), .val (.int p4), .val (.int p5), .val (.int ((p1).toInt8.toInt32)), .val (.int ((p2).toInt8.toInt32)), .val (.int ((p3).toInt8.toInt32)), .val (.int (3 : Int32)), .val (.ref b28), .val (.int pos), .val (.ref b32), .val (.int (-1 : Int32)), .unset, .unset, .unset]) (hb hby at_139) rfl rfl ?_
        refine o_aload X hx 143 (hb hby at_141) rfl rfl rfl ?_
        refine o_callV X hx hZ hown (hw _ (List.mem_of_getElem? (i := 80) rfl)) (hw _ (List.mem_of_getElem? (i := 81) rfl)) (hw _ (List.mem_of_getElem? (i := 83) rfl)) (hw _ (List.mem_of_getElem? (i := 82) rfl)) (hw _ (List.mem_of_getElem? (i := 4) rfl)) (hw _ (List.mem_of_getElem? (i := 84) rfl)) (by decide) (rm_pkE l Z a0 hw [] b32 b28 k28 pos (3 : Int32) [(.int (nar .byte (((p1).toInt8.toInt32)))), (.int (nar .byte (((p2).toInt8.toInt32)))), (.int (nar .byte (((p3).toInt8.toInt32))))] _ n0 Z0 F2 F1 V_b28 q) eT (by decide) 0 (by decide) (by rw [hml]; rfl) E_b32 [] (rest := []) (lenOf pd_3 rfl) rfl rfl (Nat.le_of_eq rfl) (by decide) (by decide) 146 (hb hby at_143) rfl (fun v T h42 Lc X eT q => ?_)
        obtain ⟨rfl, N', e'⟩ := q
        replace N := Fr.app N N'
        replace eT := eT.trans e'
        show Wout p e below _ T (mkF m 146 #[.val (.int p1), .val (.int p2), .val (.int p3), .val (.int p4), .val (.int p5), .val (.int ((p1).toInt8.toInt32)), .val (.int ((p2).toInt8.toInt32)), .val (.int ((p3).toInt8.toInt32)), .val (.int (3 : Int32)), .val (.ref b28), .val (.int pos), .val (.ref b32), .val (.int (-1 : Int32)), .unset, .unset, .unset] [(.int (-1 : Int32))])
        refine o_istore X hx 148 (Ls' := #[.val (.int p1), .val (.int p2), .val (.int p3), .val (.int p4), .val (.int p5), .val (.int ((p1).toInt8.toInt32)), .val (.int ((p2).toInt8.toInt32)), .val (.int ((p3).toInt8.toInt32)), .val (.int (3 : Int32)), .val (.ref b28), .val (.int pos), .val (.ref b32), .val (.int (-1 : Int32)), .val (.int (-1 : Int32)), .unset, .unset]) (hb hby at_146) rfl rfl ?_
        refine o_iload X hx 150 (hb hby at_148) rfl rfl ?_
        refine o_iload X hx 152 (hb hby at_150) rfl rfl ?_
        refine o_icmpF X hx 155 (hb hby at_152) rfl q ?_
        refine o_iconst X hx 156 (-1 : Int32) (hb hby at_155) rfl rfl ?_
        refine o_istore X hx 158 (Ls' := #[.val (.int p1), .val (.int p2), .val (.int p3), .val (.int p4), .val (.int p5), .val (.int ((p1).toInt8.toInt32)), .val (.int ((p2).toInt8.toInt32)), .val (.int ((p3).toInt8.toInt32)), .val (.int (3 : Int32)), .val (.ref b28), .val (.int pos), .val (.ref b32), .val (.int (-1 : Int32)), .val (.int (-1 : Int32)), .val (.int (-1 : Int32)), .unset]) (hb hby at_156) rfl rfl ?_
        refine o_goto X hx 204 (hb hby at_158) rfl ?_
        refine o_iload X hx 206 (hb hby at_204) rfl rfl ?_
        refine o_iload X hx 208 (hb hby at_206) rfl rfl ?_
        refine o_icmpF X hx 211 (hb hby at_208) rfl (by decide : (-1 : Int32) = (-1 : Int32)) ?_
        refine o_iload X hx 213 (hb hby at_211) rfl rfl ?_
        refine o_iload X hx 215 (hb hby at_213) rfl rfl ?_
        refine o_icmpF X hx 218 (hb hby at_215) rfl (by decide : (-1 : Int32) = (-1 : Int32)) ?_
        refine o_aload X hx 220 (hb hby at_218) rfl rfl rfl ?_
        refine o_getF X hx hZ hown (host := "") (Or.inl (hw _ (List.mem_of_getElem? (i := 77) rfl))) (Via.of (hw _ (List.mem_of_getElem? (i := 78) rfl))) eT F2 223 (hb hby at_220) rfl (fun T X eT => ?_)
        refine o_iload X hx 225 (hb hby at_223) rfl rfl ?_
        refine o_icmpF X hx 228 (hb hby at_225) rfl (rfl : pos = pos) ?_
        refine o_aload X hx 230 (hb hby at_228) rfl rfl rfl ?_
        refine o_getF X hx hZ hown (host := "") (Or.inl (hw _ (List.mem_of_getElem? (i := 86) rfl))) (Via.of (hw _ (List.mem_of_getElem? (i := 87) rfl))) eT F3 233 (hb hby at_230) rfl (fun T X eT => ?_)
        refine o_lconst X hx 234 (0 : Int64) (hb hby at_233) rfl rfl ?_
        refine o_lcmp X hx 235 (hb hby at_234) rfl ?_
        refine o_ifLF X hx 238 (hb hby at_235) rfl (rfl : (0 : Int64) = (0 : Int64)) ?_
        refine o_iconst X hx 239 (1 : Int32) (hb hby at_238) rfl rfl ?_
        refine o_goto X hx 243 (hb hby at_239) rfl ?_
        exact o_retI X hx hlk hret rfl (by simp) (hb hby at_243) (by decide) (by decide) (by rw [eT]; exact ⟨rfl, N, trivial⟩)
    refine o_if X hx 107 99 (hb hby at_96) rfl rfl (fun (q4 : (p4 &&& (4 : Int32)) = (0 : Int32)) => ?_) (fun (q4 : ¬ (p4 &&& (4 : Int32)) = (0 : Int32)) => ?_)
    · show Wout p e below _ T (mkF m 107 #[.val (.int p1), .val (.int p2), .val (.int p3), .val (.int p4), .val (.int p5), .val (.int ((p1).toInt8.toInt32)), .val (.int ((p2).toInt8.toInt32)), .val (.int ((p3).toInt8.toInt32)), .val (.int (3 : Int32)), .val (.ref b28), .unset, .unset, .unset, .unset, .unset, .unset] [])
      refine o_iload X hx 109 (hb hby at_107) rfl rfl ?_
      refine o_ldc X hx hZ 111 hown (hw _ (List.mem_of_getElem? (i := 1) rfl)) (hb hby at_109) rfl ?_
      refine o_iand X hx 112 (hb hby at_111) rfl ?_
      refine o_iconst X hx 113 (5 : Int32) (hb hby at_112) rfl rfl ?_
      refine o_irem X hx 114 (hb hby at_113) (by decide) rfl ?_
      exact J _ (rem_in (n := 5) (mask31 p5) (by decide)).1
    · show Wout p e below _ T (mkF m 99 #[.val (.int p1), .val (.int p2), .val (.int p3), .val (.int p4), .val (.int p5), .val (.int ((p1).toInt8.toInt32)), .val (.int ((p2).toInt8.toInt32)), .val (.int ((p3).toInt8.toInt32)), .val (.int (3 : Int32)), .val (.ref b28), .unset, .unset, .unset, .unset, .unset, .unset] [])
      refine o_iload X hx 101 (hb hby at_99) rfl rfl ?_
      refine o_ldc X hx hZ 103 hown (hw _ (List.mem_of_getElem? (i := 1) rfl)) (hb hby at_101) rfl ?_
      refine o_iand X hx 104 (hb hby at_103) rfl ?_
      refine o_goto X hx 114 (hb hby at_104) rfl ?_
      exact J _ (mask31 p5)
set_option maxRecDepth 65536 in
set_option maxHeartbeats 40000000 in
theorem comes_1 {Post : Tables → Env → Array Value → State → Outcome → State → Prop} (hpost : ∀ tb e args s v u, (limb_1_1.after args s (.returned v) u = true ∧ limb_1_2.after args s (.returned v) u = true ∧ True) → FrameEnd s (.returned v) u (Jvm.fieldLocs frame_1_writes args s ++ Jvm.arrayLocs frame_1_arrays args s ++ Jvm.staticLocs frame_1_statics s) 32 512 → Post tb e args s (.returned v) u) :
    ArmFor flags0 classFile x code maxLocals ret World_1 tables_1 room_1 Calls_1 rest_1 Pre_1 Post := by
  intro l hfl _ _ p e ha hc hk s m args below hf hA hF happ hP
  obtain ⟨hcalls, hrest, hpre⟩ := hP
  obtain ⟨-, -, -, hnamed, -, -, -, hat⟩ := (Spec.applies_iff hf).mp happ
  obtain ⟨hg, hn⟩ := and_e (Cond.before_iff.mp (show (Jvm.Cond.and given_1 narrow_1).before args s = true from hpre))
  obtain ⟨h1, hgs⟩ := and_e hg
  obtain ⟨w0, w1, w2, w3, w4, rfl⟩ : ∃ w0 w1 w2 w3 w4 : Value, args = #[w0, w1, w2, w3, w4] := by
    have hs : args.size = 5 := by simpa [Cond.value, given_1] using h1
    obtain ⟨L⟩ := args
    match L, hs with
    | [w0, w1, w2, w3, w4], _ => exact ⟨w0, w1, w2, w3, w4, rfl⟩
  have hw := fun d (hd : d ∈ tables_1) => atoms_spec (ws := Jvm.Cond.code x code maxLocals ret :: tables_1) hat d (List.mem_cons_of_mem _ hd)
  have hfit : Fit s := fun {y c} hc i hi => by
    obtain ⟨ha, rfl⟩ := Array.getElem?_eq_some_iff.mp hc
    have q := List.all_eq_true.mp ((Array.all_eq_true_iff_forall_mem.mp hF) _ (Array.getElem_mem ha)) i (List.mem_range.mpr hi)
    simpa [Array.getElem?_eq_getElem hi] using q
  obtain ⟨hg0, hgs⟩ := and_e hgs
  obtain ⟨i0, e0⟩ := is_v hg0
  obtain rfl : w0 = (.int i0) := Option.some.inj e0
  obtain ⟨hg1, hgs⟩ := and_e hgs
  obtain ⟨i1, e1⟩ := is_v hg1
  obtain rfl : w1 = (.int i1) := Option.some.inj e1
  obtain ⟨hg2, hgs⟩ := and_e hgs
  obtain ⟨i2, e2⟩ := is_v hg2
  obtain rfl : w2 = (.int i2) := Option.some.inj e2
  obtain ⟨hg3, hgs⟩ := and_e hgs
  obtain ⟨i3, e3⟩ := is_v hg3
  obtain rfl : w3 = (.int i3) := Option.some.inj e3
  obtain ⟨i4, e4⟩ := is_v hgs
  obtain rfl : w4 = (.int i4) := Option.some.inj e4
  have hsets := (atoms_of (args := #[(.int i0), (.int i1), (.int i2), (.int i3), (.int i4)]) (s := s) (own := restOwn_1) jdkStatics_1 (by have q : (rest_1_c).before #[(.int i0), (.int i1), (.int i2), (.int i3), (.int i4)] s = true := hrest; rw [rest_1_c_eq] at q; exact q)).1
  have hw : ∀ d ∈ own_words, d.before _ s = true := fun d hd => (List.mem_append.mp hd).elim (hw d) (hsets d)
  obtain ⟨cs, SC, hcs⟩ := sta_bool (C := "java/lang/String") (n := "COMPACT_STRINGS") (d := "Z") (hsets _ (List.mem_of_getElem? (i := 9) rfl)) (hsets _ (List.mem_of_getElem? (i := 10) rfl)) (hsets _ (List.mem_of_getElem? (i := 11) rfl))
  have hx7 := Cond.before_iff.mp (hsets _ (List.mem_of_getElem? (i := 7) rfl))
  obtain ⟨ed, ev⟩ := exa_v hx7
  have SE := Sta.start ev (Or.inr ⟨(hw _ (List.mem_of_getElem? (i := 18) rfl)), (hsets _ (List.mem_of_getElem? (i := 2) rfl))⟩)
  obtain ⟨n, o, h1, h2, h3, _, L, rfl, ⟨rfl, N, _⟩, hq⟩ := rm_law l s _ hw tables_1 i0 i1 i2 i3 i4 cs ed s.heap s.heap.size (Nat.le_refl _) (Old.start s) SE SC hcs p e ha hc hk s m _ below hf ((Spec.applies_iff_loose hf).mp happ).1 ⟨rfl, State.Warmed39.refl s, rfl⟩ trivial
  refine ⟨n, _, h1, h2, h3, hpost _ _ _ _ _ _ ⟨Cond.after_iff.mpr rfl, Cond.after_iff.mpr (eq_i res_at (Term.int_eval (1)) rfl), trivial⟩ ⟨hq.1, hq.2.1, (hq.2.2.sift fun y hy => Or.inr (N y hy)).mono (by decide) (by decide)⟩⟩
theorem main_1_1 : Claimed_1_1 := comes_1 fun _ _ _ _ _ _ h hF => ⟨h.1, hF⟩
theorem main_1_2 : Claimed_1_2 := comes_1 fun _ _ _ _ _ _ h hF => ⟨h.2.1, hF⟩
end Jvm.Pilot.@@N@@
namespace Jvm.Pilot.@@N@@
open Jvm Jvm.ClassFile Sem Op Lib Jvm.Free Jvm.Stand Jvm.Pilot.@@N@@.Jvm.D
/-! MADE BY PROGRAM (witnessworld.py) out of the Statement's table words and the real class files: 33 classes; the members and pool entries that the words name. The judged class is class 1, her method 1. -/
namespace start1
open Jvm.ClassFile
def u (s : String) : CpInfo := .utf8 (stringToUtf16 s)
/-- a pool by its gaps: so many unusable entries, then the entry; so many at the end -/
def gap : Nat → List CpInfo → List CpInfo
  | 0, r => r
  | n + 1, r => .unusable :: gap n r
def poolList (es : List (Nat × CpInfo)) (last : Nat) : List CpInfo := es.foldr (fun e r => gap e.1 (e.2 :: r)) (gap last [])
def pool (es : List (Nat × CpInfo)) (last : Nat) : Array CpInfo := ⟨poolList es last⟩
def fileOf (pool : Array CpInfo) (this : Nat) (attrs : Array Attribute := #[]) (ms : Array MethodInfo := #[]) (fl : Nat := 33) (sup : Nat := 0) (ifs : Array Nat := #[]) (fds : Array FieldInfo := #[]) : ClassFile where
  minorVersion := 0
  majorVersion := 65
  constantPool := pool
  accessFlags := fl
  thisClass := this
  superClass := sup
  interfaces := ifs
  fields := fds
  methods := ms
  attributes := attrs
def plain (name : String) (sup : Option ClassId) : Class where
  name := name
  kind := .ordinary
  loader := none
  accessFlags := 33
  super := sup
  interfaces := #[]
  cf := none
  fields := #[]
  methods := #[]
  instanceTypes := #[]
  staticTypes := #[]
  resolved := #[]
  callSites := []
  init := .initialized
  statics := none
  mirror := none

def pool0 : Array CpInfo := pool [(5, u "<init>"), (0, u "()V"), (1, .class_ 10), (1, u "java/lang/Object")] 113

def k0c0 : Code := { maxStack := 0, maxLocals := 1, code := object_method_1_code, exceptionTable := #[], attributes := #[] }
def k0m0 : Method := { name := "<init>", desc := "()V", sig := { parameters := [], returnType := none }, accessFlags := 1, code := some k0c0 }
/-- java/lang/Object -/
def k0 : Class := { plain "java/lang/Object" none with
  accessFlags := 33
  interfaces := #[]
  cf := some (fileOf pool0 8 #[] #[{ accessFlags := 1, nameIndex := 5, descriptorIndex := 6, attributes := #[] }] 33 0 #[] #[])
  fields := #[]
  methods := #[k0m0]
  instanceTypes := #[]
  staticTypes := #[]
  resolved := Array.replicate 124 none
  statics := none }

def pool1 : Array CpInfo := pool [(2, .class_ 4), (1, u "java/lang/Object"), (0, u "<init>"), (0, u "()V"), (0, .integer 2147483647), (0, .class_ 9), (0, u "com/example/libjpatch/libjpatch/Utf8Reader"), (0, .methodref 8 11), (0, .nameAndType 5 12), (0, u "([B)V"), (0, .fieldref 8 14), (0, .nameAndType 15 16), (0, u "position"), (0, u "I"), (0, .methodref 8 18), (0, .nameAndType 19 20), (0, u "peek"), (0, u "()I"), (2, .fieldref 8 24), (0, .nameAndType 25 26), (0, u "excess"), (0, u "J"), (0, .class_ 28), (0, u "com/example/libjpatch/libjpatch/Utf8ReaderPeekPinLaw"), (2, u "law"), (0, u "(IIIII)Z")] 5

def k1m0 : Method := { name := "<init>", desc := "()V", sig := { parameters := [], returnType := none }, accessFlags := 1, code := none }
def k1c1 : Code := { maxStack := 4, maxLocals := 16, code := code, exceptionTable := #[], attributes := #[] }
def k1m1 : Method := { name := "law", desc := "(IIIII)Z", sig := { parameters := [.int, .int, .int, .int, .int], returnType := some .boolean }, accessFlags := 9, code := some k1c1 }
/-- com/example/libjpatch/libjpatch/Utf8ReaderPeekPinLaw -/
def k1 : Class := { plain "com/example/libjpatch/libjpatch/Utf8ReaderPeekPinLaw" (some 0) with
  accessFlags := 49
  interfaces := #[]
  cf := some (fileOf pool1 27 #[] #[{ accessFlags := 1, nameIndex := 5, descriptorIndex := 6, attributes := #[] }, { accessFlags := 9, nameIndex := 31, descriptorIndex := 32, attributes := #[] }] 49 2 #[] #[])
  fields := #[]
  methods := #[k1m0, k1m1]
  instanceTypes := #[]
  staticTypes := #[]
  resolved := Array.replicate 38 none
  statics := none }

def pool2 : Array CpInfo := pool [(1, .methodref 2 3), (0, .class_ 4), (0, .nameAndType 5 6), (0, u "java/lang/Object"), (0, u "<init>"), (0, u "()V"), (0, .class_ 8), (0, u "java/util/ArrayList"), (0, .methodref 7 3), (0, .fieldref 11 12), (0, .class_ 13), (0, .nameAndType 14 15), (0, u "com/example/libjpatch/libjpatch/JsonReader"), (0, u "containers"), (0, u "Ljava/util/ArrayList;"), (0, .class_ 17), (0, u "java/lang/String"), (0, .fieldref 11 19), (0, .nameAndType 20 21), (0, u "sharedNames"), (0, u "[Ljava/lang/String;"), (0, .fieldref 11 23), (0, .nameAndType 24 25), (0, u "sharedKeys"), (0, u "[J"), (0, .fieldref 11 27), (0, .nameAndType 28 29), (0, u "sharedStarts"), (0, u "[I"), (28, u "depth"), (0, u "I"), (13, .class_ 74), (0, u "com/example/libjpatch/libjpatch/JsonReader$Container"), (6, u "position"), (154, u "excess"), (0, u "J"), (6, u "sharedCount"), (97, u "END"), (2, u "END_OF_TEXT"), (0, u "Ljava/lang/String;"), (0, u "ESCAPES"), (0, u "ESCAPED"), (0, u "FIRST_NAME_SLOTS"), (1, u "MOST_NAME_SLOTS"), (0, u "NAME_PROBES"), (1, u "NAME_SPREAD")] 48

def k2c0 : Code := { maxStack := 3, maxLocals := 1, code := prog_43_method_1_code, exceptionTable := #[], attributes := #[] }
def k2m0 : Method := { name := "<init>", desc := "()V", sig := { parameters := [], returnType := none }, accessFlags := 0, code := some k2c0 }
/-- com/example/libjpatch/libjpatch/JsonReader -/
def k2 : Class := { plain "com/example/libjpatch/libjpatch/JsonReader" (some 0) with
  accessFlags := 1056
  interfaces := #[]
  cf := some (fileOf pool2 11 #[.nestMembers #[73]] #[{ accessFlags := 0, nameIndex := 5, descriptorIndex := 6, attributes := #[] }] 1056 2 #[] #[{ accessFlags := 24, nameIndex := 342, descriptorIndex := 59, attributes := #[] }, { accessFlags := 26, nameIndex := 345, descriptorIndex := 346, attributes := #[] }, { accessFlags := 26, nameIndex := 347, descriptorIndex := 346, attributes := #[] }, { accessFlags := 26, nameIndex := 348, descriptorIndex := 346, attributes := #[] }, { accessFlags := 26, nameIndex := 349, descriptorIndex := 59, attributes := #[] }, { accessFlags := 26, nameIndex := 351, descriptorIndex := 59, attributes := #[] }, { accessFlags := 26, nameIndex := 352, descriptorIndex := 59, attributes := #[] }, { accessFlags := 26, nameIndex := 354, descriptorIndex := 59, attributes := #[] }, { accessFlags := 0, nameIndex := 81, descriptorIndex := 59, attributes := #[] }, { accessFlags := 0, nameIndex := 236, descriptorIndex := 237, attributes := #[] }, { accessFlags := 18, nameIndex := 14, descriptorIndex := 15, attributes := #[] }, { accessFlags := 2, nameIndex := 58, descriptorIndex := 59, attributes := #[] }, { accessFlags := 2, nameIndex := 20, descriptorIndex := 21, attributes := #[] }, { accessFlags := 2, nameIndex := 24, descriptorIndex := 25, attributes := #[] }, { accessFlags := 2, nameIndex := 28, descriptorIndex := 29, attributes := #[] }, { accessFlags := 2, nameIndex := 244, descriptorIndex := 59, attributes := #[] }])
  fields := #[{ name := "END", type := .int, accessFlags := 24, slot := 0, constantValue := 0 }, { name := "END_OF_TEXT", type := (.object "java/lang/String"), accessFlags := 26, slot := 1, constantValue := 0 }, { name := "ESCAPES", type := (.object "java/lang/String"), accessFlags := 26, slot := 2, constantValue := 0 }, { name := "ESCAPED", type := (.object "java/lang/String"), accessFlags := 26, slot := 3, constantValue := 0 }, { name := "FIRST_NAME_SLOTS", type := .int, accessFlags := 26, slot := 4, constantValue := 0 }, { name := "MOST_NAME_SLOTS", type := .int, accessFlags := 26, slot := 5, constantValue := 0 }, { name := "NAME_PROBES", type := .int, accessFlags := 26, slot := 6, constantValue := 0 }, { name := "NAME_SPREAD", type := .int, accessFlags := 26, slot := 7, constantValue := 0 }, { name := "position", type := .int, accessFlags := 0, slot := 0, constantValue := 0 }, { name := "excess", type := .long, accessFlags := 0, slot := 1, constantValue := 0 }, { name := "containers", type := (.object "java/util/ArrayList"), accessFlags := 18, slot := 2, constantValue := 0 }, { name := "depth", type := .int, accessFlags := 2, slot := 3, constantValue := 0 }, { name := "sharedNames", type := (.array (.object "java/lang/String")), accessFlags := 2, slot := 4, constantValue := 0 }, { name := "sharedKeys", type := (.array .long), accessFlags := 2, slot := 5, constantValue := 0 }, { name := "sharedStarts", type := (.array .int), accessFlags := 2, slot := 6, constantValue := 0 }, { name := "sharedCount", type := .int, accessFlags := 2, slot := 7, constantValue := 0 }]
  methods := #[k2m0]
  instanceTypes := #[.int, .long, (.object "java/util/ArrayList"), .int, (.array (.object "java/lang/String")), (.array .long), (.array .int), .int]
  staticTypes := #[.int, (.object "java/lang/String"), (.object "java/lang/String"), (.object "java/lang/String"), .int, .int, .int, .int]
  resolved := Array.replicate 403 none
  statics := none }

def pool3 : Array CpInfo := pool [(1, .methodref 2 3), (0, .class_ 4), (0, .nameAndType 5 6), (0, u "com/example/libjpatch/libjpatch/JsonReader"), (0, u "<init>"), (0, u "()V"), (0, .fieldref 8 9), (0, .class_ 10), (0, .nameAndType 11 12), (0, u "com/example/libjpatch/libjpatch/Utf8Reader"), (0, u "latin1"), (0, u "[B"), (0, .class_ 14), (0, u "java/lang/StringBuilder"), (0, .methodref 13 3), (0, .fieldref 8 17), (0, .nameAndType 18 19), (0, u "wide"), (0, u "Ljava/lang/StringBuilder;"), (0, .fieldref 8 21), (0, .nameAndType 22 12), (0, u "utf8"), (0, .fieldref 8 24), (0, .nameAndType 25 26), (0, u "position"), (0, u "I"), (11, u "J"), (27, u "()I"), (37, u "WORDS"), (0, u "Ljava/lang/invoke/VarHandle;"), (19, u "latin1Length"), (2, u "widened"), (0, u "Z"), (168, u "ONES"), (1, u "HIGH_BITS"), (0, u "MIX"), (0, u "([B)V"), (2, u "peek")] 34

def k3c0 : Code := { maxStack := 3, maxLocals := 2, code := prog_101_method_1_code, exceptionTable := #[], attributes := #[] }
def k3m0 : Method := { name := "<init>", desc := "([B)V", sig := { parameters := [(.array .byte)], returnType := none }, accessFlags := 0, code := some k3c0 }
def k3c1 : Code := { maxStack := 2, maxLocals := 1, code := prog_101_method_2_code, exceptionTable := #[], attributes := #[] }
def k3m1 : Method := { name := "peek", desc := "()I", sig := { parameters := [], returnType := some .int }, accessFlags := 0, code := some k3c1 }
/-- com/example/libjpatch/libjpatch/Utf8Reader -/
def k3 : Class := { plain "com/example/libjpatch/libjpatch/Utf8Reader" (some 2) with
  accessFlags := 48
  interfaces := #[]
  cf := some (fileOf pool3 8 #[] #[{ accessFlags := 0, nameIndex := 5, descriptorIndex := 302, attributes := #[] }, { accessFlags := 0, nameIndex := 305, descriptorIndex := 66, attributes := #[] }] 48 2 #[] #[{ accessFlags := 26, nameIndex := 104, descriptorIndex := 105, attributes := #[] }, { accessFlags := 26, nameIndex := 298, descriptorIndex := 38, attributes := #[] }, { accessFlags := 26, nameIndex := 300, descriptorIndex := 38, attributes := #[] }, { accessFlags := 26, nameIndex := 301, descriptorIndex := 38, attributes := #[] }, { accessFlags := 18, nameIndex := 22, descriptorIndex := 12, attributes := #[] }, { accessFlags := 2, nameIndex := 11, descriptorIndex := 12, attributes := #[] }, { accessFlags := 2, nameIndex := 125, descriptorIndex := 26, attributes := #[] }, { accessFlags := 18, nameIndex := 18, descriptorIndex := 19, attributes := #[] }, { accessFlags := 2, nameIndex := 128, descriptorIndex := 129, attributes := #[] }])
  fields := #[{ name := "WORDS", type := (.object "java/lang/invoke/VarHandle"), accessFlags := 26, slot := 0, constantValue := 0 }, { name := "ONES", type := .long, accessFlags := 26, slot := 1, constantValue := 0 }, { name := "HIGH_BITS", type := .long, accessFlags := 26, slot := 2, constantValue := 0 }, { name := "MIX", type := .long, accessFlags := 26, slot := 3, constantValue := 0 }, { name := "utf8", type := (.array .byte), accessFlags := 18, slot := 8, constantValue := 0 }, { name := "latin1", type := (.array .byte), accessFlags := 2, slot := 9, constantValue := 0 }, { name := "latin1Length", type := .int, accessFlags := 2, slot := 10, constantValue := 0 }, { name := "wide", type := (.object "java/lang/StringBuilder"), accessFlags := 18, slot := 11, constantValue := 0 }, { name := "widened", type := .boolean, accessFlags := 2, slot := 12, constantValue := 0 }]
  methods := #[k3m0, k3m1]
  instanceTypes := #[.int, .long, (.object "java/util/ArrayList"), .int, (.array (.object "java/lang/String")), (.array .long), (.array .int), .int, (.array .byte), (.array .byte), .int, (.object "java/lang/StringBuilder"), .boolean]
  staticTypes := #[(.object "java/lang/invoke/VarHandle"), .long, .long, .long]
  resolved := Array.replicate 340 none
  statics := none }

def pool4 : Array CpInfo := pool [(8, .class_ 10), (1, u "java/lang/Iterable"), (24, .class_ 36), (0, u "java/lang/Object")] 25

/-- java/lang/Iterable -/
def k4 : Class := { plain "java/lang/Iterable" (some 0) with
  accessFlags := 1537
  interfaces := #[]
  cf := some (fileOf pool4 8 #[] #[] 1537 35 #[] #[])
  fields := #[]
  methods := #[]
  instanceTypes := #[]
  staticTypes := #[]
  resolved := Array.replicate 62 none
  statics := none }

def pool5 : Array CpInfo := pool [(10, .class_ 12), (1, u "java/util/Collection"), (47, .class_ 61), (0, u "java/lang/Object"), (0, .class_ 63), (0, u "java/lang/Iterable")] 51

/-- java/util/Collection -/
def k5 : Class := { plain "java/util/Collection" (some 0) with
  accessFlags := 1537
  interfaces := #[4]
  cf := some (fileOf pool5 10 #[] #[] 1537 60 #[62] #[])
  fields := #[]
  methods := #[]
  instanceTypes := #[]
  staticTypes := #[]
  resolved := Array.replicate 115 none
  statics := none }

def pool6 : Array CpInfo := pool [(1, .methodref 2 3), (0, .class_ 4), (0, .nameAndType 5 6), (0, u "java/lang/Object"), (0, u "<init>"), (0, u "()V"), (1, .class_ 10), (1, u "java/util/AbstractCollection"), (66, .class_ 78), (0, u "java/util/Collection")] 81

def k6c0 : Code := { maxStack := 1, maxLocals := 1, code := jdk_22_method_1_code, exceptionTable := #[], attributes := #[] }
def k6m0 : Method := { name := "<init>", desc := "()V", sig := { parameters := [], returnType := none }, accessFlags := 4, code := some k6c0 }
/-- java/util/AbstractCollection -/
def k6 : Class := { plain "java/util/AbstractCollection" (some 0) with
  accessFlags := 1057
  interfaces := #[5]
  cf := some (fileOf pool6 8 #[] #[{ accessFlags := 4, nameIndex := 5, descriptorIndex := 6, attributes := #[] }] 1057 2 #[77] #[])
  fields := #[]
  methods := #[k6m0]
  instanceTypes := #[]
  staticTypes := #[]
  resolved := Array.replicate 160 none
  statics := none }

def pool7 : Array CpInfo := pool [(8, .class_ 10), (1, u "java/util/SequencedCollection"), (15, .class_ 27), (0, u "java/lang/Object"), (0, .class_ 29), (0, u "java/util/Collection")] 27

/-- java/util/SequencedCollection -/
def k7 : Class := { plain "java/util/SequencedCollection" (some 0) with
  accessFlags := 1537
  interfaces := #[5]
  cf := some (fileOf pool7 8 #[] #[] 1537 26 #[28] #[])
  fields := #[]
  methods := #[]
  instanceTypes := #[]
  staticTypes := #[]
  resolved := Array.replicate 57 none
  statics := none }

def pool8 : Array CpInfo := pool [(8, .class_ 10), (1, u "java/util/List"), (92, .class_ 104), (0, u "java/lang/Object"), (15, .class_ 121), (0, u "java/util/SequencedCollection")] 129

/-- java/util/List -/
def k8 : Class := { plain "java/util/List" (some 0) with
  accessFlags := 1537
  interfaces := #[7]
  cf := some (fileOf pool8 8 #[] #[] 1537 103 #[120] #[])
  fields := #[]
  methods := #[]
  instanceTypes := #[]
  staticTypes := #[]
  resolved := Array.replicate 251 none
  statics := none }

def pool9 : Array CpInfo := pool [(1, .methodref 2 3), (0, .class_ 4), (0, .nameAndType 5 6), (0, u "java/util/AbstractCollection"), (0, u "<init>"), (0, u "()V"), (0, .fieldref 8 9), (0, .class_ 10), (0, .nameAndType 11 12), (0, u "java/util/AbstractList"), (0, u "modCount"), (0, u "I"), (64, .class_ 78), (0, u "java/util/AbstractList$Itr"), (3, .class_ 83), (0, u "java/util/AbstractList$ListItr"), (9, .class_ 94), (0, u "java/util/AbstractList$RandomAccessSubList"), (3, .class_ 99), (0, u "java/util/AbstractList$SubList"), (33, .class_ 134), (0, u "java/util/List"), (73, .class_ 209), (0, u "java/util/AbstractList$SubList$1"), (0, .class_ 211), (0, u "java/util/AbstractList$RandomAccessSpliterator")] 6

def k9c0 : Code := { maxStack := 2, maxLocals := 1, code := jdk_39_method_1_code, exceptionTable := #[], attributes := #[] }
def k9m0 : Method := { name := "<init>", desc := "()V", sig := { parameters := [], returnType := none }, accessFlags := 4, code := some k9c0 }
/-- java/util/AbstractList -/
def k9 : Class := { plain "java/util/AbstractList" (some 6) with
  accessFlags := 1057
  interfaces := #[8]
  cf := some (fileOf pool9 8 #[.nestMembers #[93, 98, 208, 210, 82, 77]] #[{ accessFlags := 4, nameIndex := 5, descriptorIndex := 6, attributes := #[] }] 1057 2 #[133] #[{ accessFlags := 132, nameIndex := 11, descriptorIndex := 12, attributes := #[] }])
  fields := #[{ name := "modCount", type := .int, accessFlags := 132, slot := 0, constantValue := 0 }]
  methods := #[k9m0]
  instanceTypes := #[.int]
  staticTypes := #[]
  resolved := Array.replicate 218 none
  statics := none }

def pool10 : Array CpInfo := pool [(1, .class_ 2), (0, u "java/util/RandomAccess"), (0, .class_ 4), (0, u "java/lang/Object")] 2

/-- java/util/RandomAccess -/
def k10 : Class := { plain "java/util/RandomAccess" (some 0) with
  accessFlags := 1537
  interfaces := #[]
  cf := some (fileOf pool10 1 #[] #[] 1537 3 #[] #[])
  fields := #[]
  methods := #[]
  instanceTypes := #[]
  staticTypes := #[]
  resolved := Array.replicate 7 none
  statics := none }

def pool11 : Array CpInfo := pool [(1, .class_ 2), (0, u "java/lang/Cloneable"), (0, .class_ 4), (0, u "java/lang/Object")] 2

/-- java/lang/Cloneable -/
def k11 : Class := { plain "java/lang/Cloneable" (some 0) with
  accessFlags := 1537
  interfaces := #[]
  cf := some (fileOf pool11 1 #[] #[] 1537 3 #[] #[])
  fields := #[]
  methods := #[]
  instanceTypes := #[]
  staticTypes := #[]
  resolved := Array.replicate 7 none
  statics := none }

def pool12 : Array CpInfo := pool [(1, .class_ 2), (0, u "java/io/Serializable"), (0, .class_ 4), (0, u "java/lang/Object")] 2

/-- java/io/Serializable -/
def k12 : Class := { plain "java/io/Serializable" (some 0) with
  accessFlags := 1537
  interfaces := #[]
  cf := some (fileOf pool12 1 #[] #[] 1537 3 #[] #[])
  fields := #[]
  methods := #[]
  instanceTypes := #[]
  staticTypes := #[]
  resolved := Array.replicate 7 none
  statics := none }

def pool13 : Array CpInfo := pool [(1, .methodref 2 3), (0, .class_ 4), (0, .nameAndType 5 6), (0, u "java/util/AbstractList"), (0, u "<init>"), (0, u "()V"), (2, .fieldref 10 11), (0, .class_ 12), (0, .nameAndType 13 14), (0, u "java/util/ArrayList"), (0, u "elementData"), (0, u "[Ljava/lang/Object;"), (2, u "EMPTY_ELEMENTDATA"), (21, .fieldref 10 40), (0, .nameAndType 41 14), (0, u "DEFAULTCAPACITY_EMPTY_ELEMENTDATA"), (8, u "size"), (0, u "I"), (96, .class_ 149), (0, u "java/util/List"), (112, .class_ 263), (0, u "java/util/ArrayList$ListItr"), (3, .class_ 268), (0, u "java/util/ArrayList$Itr"), (7, .class_ 277), (0, u "java/util/ArrayList$SubList"), (12, .class_ 291), (0, u "java/util/ArrayList$ArrayListSpliterator"), (37, .class_ 330), (0, u "java/util/RandomAccess"), (0, .class_ 332), (0, u "java/lang/Cloneable"), (0, .class_ 334), (0, u "java/io/Serializable"), (0, u "serialVersionUID"), (0, u "J"), (3, u "DEFAULT_CAPACITY"), (159, .class_ 501), (0, u "java/util/ArrayList$SubList$2"), (0, .class_ 503), (0, u "java/util/ArrayList$SubList$1")] 5

def k13c0 : Code := { maxStack := 2, maxLocals := 1, code := jdk_38_method_2_code, exceptionTable := #[], attributes := #[] }
def k13m0 : Method := { name := "<init>", desc := "()V", sig := { parameters := [], returnType := none }, accessFlags := 1, code := some k13c0 }
/-- java/util/ArrayList -/
def k13 : Class := { plain "java/util/ArrayList" (some 9) with
  accessFlags := 33
  interfaces := #[8, 10, 11, 12]
  cf := some (fileOf pool13 10 #[.nestMembers #[290, 276, 500, 502, 262, 267]] #[{ accessFlags := 1, nameIndex := 5, descriptorIndex := 6, attributes := #[] }] 33 2 #[148, 329, 331, 333] #[{ accessFlags := 26, nameIndex := 335, descriptorIndex := 336, attributes := #[] }, { accessFlags := 26, nameIndex := 340, descriptorIndex := 51, attributes := #[] }, { accessFlags := 26, nameIndex := 17, descriptorIndex := 14, attributes := #[] }, { accessFlags := 26, nameIndex := 41, descriptorIndex := 14, attributes := #[] }, { accessFlags := 128, nameIndex := 13, descriptorIndex := 14, attributes := #[] }, { accessFlags := 2, nameIndex := 50, descriptorIndex := 51, attributes := #[] }])
  fields := #[{ name := "serialVersionUID", type := .long, accessFlags := 26, slot := 0, constantValue := 0 }, { name := "DEFAULT_CAPACITY", type := .int, accessFlags := 26, slot := 1, constantValue := 0 }, { name := "EMPTY_ELEMENTDATA", type := (.array (.object "java/lang/Object")), accessFlags := 26, slot := 2, constantValue := 0 }, { name := "DEFAULTCAPACITY_EMPTY_ELEMENTDATA", type := (.array (.object "java/lang/Object")), accessFlags := 26, slot := 3, constantValue := 0 }, { name := "elementData", type := (.array (.object "java/lang/Object")), accessFlags := 128, slot := 1, constantValue := 0 }, { name := "size", type := .int, accessFlags := 2, slot := 2, constantValue := 0 }]
  methods := #[k13m0]
  instanceTypes := #[.int, (.array (.object "java/lang/Object")), .int]
  staticTypes := #[.long, .int, (.array (.object "java/lang/Object")), (.array (.object "java/lang/Object"))]
  resolved := Array.replicate 509 none
  statics := some 0 }

def pool14 : Array CpInfo := pool [(1, .class_ 2), (0, u "java/lang/Comparable"), (0, .class_ 4), (0, u "java/lang/Object")] 7

/-- java/lang/Comparable -/
def k14 : Class := { plain "java/lang/Comparable" (some 0) with
  accessFlags := 1537
  interfaces := #[]
  cf := some (fileOf pool14 1 #[] #[] 1537 3 #[] #[])
  fields := #[]
  methods := #[]
  instanceTypes := #[]
  staticTypes := #[]
  resolved := Array.replicate 12 none
  statics := none }

def pool15 : Array CpInfo := pool [(2, .class_ 4), (1, u "java/lang/CharSequence"), (42, .class_ 48), (0, u "java/lang/CharSequence$1CodePointIterator"), (10, .class_ 60), (0, u "java/lang/CharSequence$1CharIterator"), (5, .class_ 67), (0, u "java/lang/Object")] 63

/-- java/lang/CharSequence -/
def k15 : Class := { plain "java/lang/CharSequence" (some 0) with
  accessFlags := 1537
  interfaces := #[]
  cf := some (fileOf pool15 2 #[.nestMembers #[47, 59]] #[] 1537 66 #[] #[])
  fields := #[]
  methods := #[]
  instanceTypes := #[]
  staticTypes := #[]
  resolved := Array.replicate 131 none
  statics := none }

def pool16 : Array CpInfo := pool [(1, .class_ 2), (0, u "java/lang/constant/Constable"), (0, .class_ 4), (0, u "java/lang/Object")] 6

/-- java/lang/constant/Constable -/
def k16 : Class := { plain "java/lang/constant/Constable" (some 0) with
  accessFlags := 1537
  interfaces := #[]
  cf := some (fileOf pool16 1 #[] #[] 1537 3 #[] #[])
  fields := #[]
  methods := #[]
  instanceTypes := #[]
  staticTypes := #[]
  resolved := Array.replicate 11 none
  statics := none }

def pool17 : Array CpInfo := pool [(1, .class_ 2), (0, u "java/lang/constant/ConstantDesc"), (0, .class_ 4), (0, u "java/lang/Object")] 32

/-- java/lang/constant/ConstantDesc -/
def k17 : Class := { plain "java/lang/constant/ConstantDesc" (some 0) with
  accessFlags := 1537
  interfaces := #[]
  cf := some (fileOf pool17 1 #[] #[] 1537 3 #[] #[])
  fields := #[]
  methods := #[]
  instanceTypes := #[]
  staticTypes := #[]
  resolved := Array.replicate 37 none
  statics := none }

def pool18 : Array CpInfo := pool [(2, .class_ 4), (1, u "java/lang/Object"), (0, u "<init>"), (0, u "()V"), (3, .class_ 12), (1, u "java/lang/String"), (0, u "value"), (0, u "[B"), (2, u "coder"), (0, u "B"), (2, u "hash"), (0, u "I"), (2, u "hashIsZero"), (0, u "Z"), (13, u "COMPACT_STRINGS"), (534, .class_ 576), (0, u "java/lang/CharSequence"), (22, u "CASE_INSENSITIVE_ORDER"), (0, u "Ljava/util/Comparator;"), (500, u "serialPersistentFields"), (0, u "[Ljava/io/ObjectStreamField;"), (0, .class_ 1104), (0, u "java/lang/String$CaseInsensitiveComparator"), (1, .class_ 1107), (0, u "java/io/Serializable"), (0, .class_ 1109), (0, u "java/lang/Comparable"), (0, .class_ 1111), (0, u "java/lang/constant/Constable"), (0, .class_ 1113), (0, u "java/lang/constant/ConstantDesc"), (2, u "serialVersionUID"), (0, u "J"), (3, u "REPL"), (0, u "C"), (2, u "LATIN1"), (1, u "UTF16")] 323

def k18m0 : Method := { name := "<init>", desc := "()V", sig := { parameters := [], returnType := none }, accessFlags := 1, code := none }
/-- java/lang/String -/
def k18 : Class := { plain "java/lang/String" (some 0) with
  accessFlags := 49
  interfaces := #[12, 14, 15, 16, 17]
  cf := some (fileOf pool18 10 #[.nestMembers #[1103]] #[{ accessFlags := 1, nameIndex := 5, descriptorIndex := 6, attributes := #[] }] 49 2 #[1106, 1108, 575, 1110, 1112] #[{ accessFlags := 18, nameIndex := 13, descriptorIndex := 14, attributes := #[] }, { accessFlags := 18, nameIndex := 17, descriptorIndex := 18, attributes := #[] }, { accessFlags := 2, nameIndex := 21, descriptorIndex := 22, attributes := #[] }, { accessFlags := 2, nameIndex := 25, descriptorIndex := 26, attributes := #[] }, { accessFlags := 26, nameIndex := 1116, descriptorIndex := 1117, attributes := #[] }, { accessFlags := 24, nameIndex := 40, descriptorIndex := 26, attributes := #[] }, { accessFlags := 26, nameIndex := 1101, descriptorIndex := 1102, attributes := #[] }, { accessFlags := 26, nameIndex := 1121, descriptorIndex := 1122, attributes := #[] }, { accessFlags := 25, nameIndex := 599, descriptorIndex := 600, attributes := #[] }, { accessFlags := 24, nameIndex := 1125, descriptorIndex := 18, attributes := #[] }, { accessFlags := 24, nameIndex := 1127, descriptorIndex := 18, attributes := #[] }])
  fields := #[{ name := "value", type := (.array .byte), accessFlags := 18, slot := 0, constantValue := 0 }, { name := "coder", type := .byte, accessFlags := 18, slot := 1, constantValue := 0 }, { name := "hash", type := .int, accessFlags := 2, slot := 2, constantValue := 0 }, { name := "hashIsZero", type := .boolean, accessFlags := 2, slot := 3, constantValue := 0 }, { name := "serialVersionUID", type := .long, accessFlags := 26, slot := 0, constantValue := 0 }, { name := "COMPACT_STRINGS", type := .boolean, accessFlags := 24, slot := 1, constantValue := 0 }, { name := "serialPersistentFields", type := (.array (.object "java/io/ObjectStreamField")), accessFlags := 26, slot := 2, constantValue := 0 }, { name := "REPL", type := .char, accessFlags := 26, slot := 3, constantValue := 0 }, { name := "CASE_INSENSITIVE_ORDER", type := (.object "java/util/Comparator"), accessFlags := 25, slot := 4, constantValue := 0 }, { name := "LATIN1", type := .byte, accessFlags := 24, slot := 5, constantValue := 0 }, { name := "UTF16", type := .byte, accessFlags := 24, slot := 6, constantValue := 0 }]
  methods := #[k18m0]
  instanceTypes := #[(.array .byte), .byte, .int, .boolean]
  staticTypes := #[.long, .boolean, (.array (.object "java/io/ObjectStreamField")), .char, (.object "java/util/Comparator"), .byte, .byte]
  resolved := Array.replicate 1451 none
  statics := some 1 }

def pool19 : Array CpInfo := pool [(1, .class_ 2), (0, u "java/lang/Appendable"), (0, .class_ 4), (0, u "java/lang/Object")] 9

/-- java/lang/Appendable -/
def k19 : Class := { plain "java/lang/Appendable" (some 0) with
  accessFlags := 1537
  interfaces := #[]
  cf := some (fileOf pool19 1 #[] #[] 1537 3 #[] #[])
  fields := #[]
  methods := #[]
  instanceTypes := #[]
  staticTypes := #[]
  resolved := Array.replicate 14 none
  statics := none }

def pool20 : Array CpInfo := pool [(1, .class_ 2), (0, u "java/lang/String"), (0, .methodref 4 5), (0, .class_ 6), (0, .nameAndType 7 8), (0, u "java/lang/Object"), (0, u "<init>"), (0, u "()V"), (1, .class_ 12), (1, u "java/lang/AbstractStringBuilder"), (0, u "EMPTYVALUE"), (0, u "[B"), (0, .fieldref 10 16), (0, .nameAndType 17 14), (0, u "value"), (0, .fieldref 1 19), (0, .nameAndType 20 21), (0, u "COMPACT_STRINGS"), (0, u "Z"), (0, .fieldref 10 23), (0, .nameAndType 24 25), (0, u "coder"), (0, u "B"), (22, .class_ 49), (0, u "java/lang/CharSequence"), (25, u "maybeLatin1"), (5, u "count"), (0, u "I"), (20, u "(I)V"), (340, .class_ 445), (0, u "java/lang/Appendable")] 163

def k20m0 : Method := { name := "<init>", desc := "()V", sig := { parameters := [], returnType := none }, accessFlags := 0, code := none }
def k20c1 : Code := { maxStack := 2, maxLocals := 2, code := jdk_68_method_2_code, exceptionTable := #[], attributes := #[] }
def k20m1 : Method := { name := "<init>", desc := "(I)V", sig := { parameters := [.int], returnType := none }, accessFlags := 0, code := some k20c1 }
/-- java/lang/AbstractStringBuilder -/
def k20 : Class := { plain "java/lang/AbstractStringBuilder" (some 0) with
  accessFlags := 1056
  interfaces := #[19, 15]
  cf := some (fileOf pool20 10 #[] #[{ accessFlags := 0, nameIndex := 7, descriptorIndex := 8, attributes := #[] }, { accessFlags := 0, nameIndex := 7, descriptorIndex := 103, attributes := #[] }] 1056 4 #[444, 48] #[{ accessFlags := 0, nameIndex := 17, descriptorIndex := 14, attributes := #[] }, { accessFlags := 0, nameIndex := 24, descriptorIndex := 25, attributes := #[] }, { accessFlags := 0, nameIndex := 75, descriptorIndex := 21, attributes := #[] }, { accessFlags := 0, nameIndex := 81, descriptorIndex := 82, attributes := #[] }, { accessFlags := 26, nameIndex := 13, descriptorIndex := 14, attributes := #[] }])
  fields := #[{ name := "value", type := (.array .byte), accessFlags := 0, slot := 0, constantValue := 0 }, { name := "coder", type := .byte, accessFlags := 0, slot := 1, constantValue := 0 }, { name := "maybeLatin1", type := .boolean, accessFlags := 0, slot := 2, constantValue := 0 }, { name := "count", type := .int, accessFlags := 0, slot := 3, constantValue := 0 }, { name := "EMPTYVALUE", type := (.array .byte), accessFlags := 26, slot := 0, constantValue := 0 }]
  methods := #[k20m0, k20m1]
  instanceTypes := #[(.array .byte), .byte, .boolean, .int]
  staticTypes := #[(.array .byte)]
  resolved := Array.replicate 609 none
  statics := none }

def pool21 : Array CpInfo := pool [(1, .methodref 2 3), (0, .class_ 4), (0, .nameAndType 5 6), (0, u "java/lang/AbstractStringBuilder"), (0, u "<init>"), (0, u "(I)V"), (17, .class_ 26), (1, u "java/lang/StringBuilder"), (118, u "()V"), (203, .class_ 350), (0, u "java/lang/Appendable"), (0, .class_ 352), (0, u "java/io/Serializable"), (0, .class_ 354), (0, u "java/lang/Comparable"), (0, .class_ 356), (0, u "java/lang/CharSequence"), (0, u "serialVersionUID"), (0, u "J")] 63

def k21c0 : Code := { maxStack := 2, maxLocals := 1, code := jdk_67_method_1_code, exceptionTable := #[], attributes := #[] }
def k21m0 : Method := { name := "<init>", desc := "()V", sig := { parameters := [], returnType := none }, accessFlags := 1, code := some k21c0 }
/-- java/lang/StringBuilder -/
def k21 : Class := { plain "java/lang/StringBuilder" (some 20) with
  accessFlags := 49
  interfaces := #[19, 12, 14, 15]
  cf := some (fileOf pool21 24 #[] #[{ accessFlags := 1, nameIndex := 5, descriptorIndex := 145, attributes := #[] }] 49 2 #[349, 351, 353, 355] #[{ accessFlags := 24, nameIndex := 357, descriptorIndex := 358, attributes := #[] }])
  fields := #[{ name := "serialVersionUID", type := .long, accessFlags := 24, slot := 0, constantValue := 0 }]
  methods := #[k21m0]
  instanceTypes := #[(.array .byte), .byte, .boolean, .int]
  staticTypes := #[.long]
  resolved := Array.replicate 422 none
  statics := none }

def pool22 : Array CpInfo := pool [(4, .class_ 6), (1, u "java/lang/Object"), (0, u "<init>"), (0, u "()V"), (5, .class_ 16), (1, u "java/lang/StringLatin1"), (104, u "$assertionsDisabled"), (0, u "Z"), (98, .class_ 223), (1, u "java/lang/StringLatin1$LinesSpliterator"), (166, .class_ 391), (0, u "java/lang/StringLatin1$CharsSpliterator")] 3

def k22m0 : Method := { name := "<init>", desc := "()V", sig := { parameters := [], returnType := none }, accessFlags := 0, code := none }
/-- java/lang/StringLatin1 -/
def k22 : Class := { plain "java/lang/StringLatin1" (some 0) with
  accessFlags := 48
  interfaces := #[]
  cf := some (fileOf pool22 14 #[.nestMembers #[390, 221]] #[{ accessFlags := 0, nameIndex := 7, descriptorIndex := 8, attributes := #[] }] 48 4 #[] #[{ accessFlags := 4120, nameIndex := 121, descriptorIndex := 122, attributes := #[] }])
  fields := #[{ name := "$assertionsDisabled", type := .boolean, accessFlags := 4120, slot := 0, constantValue := 0 }]
  methods := #[k22m0]
  instanceTypes := #[]
  staticTypes := #[.boolean]
  resolved := Array.replicate 395 none
  statics := none }

def pool23 : Array CpInfo := pool [(2, .class_ 4), (1, u "java/lang/Object"), (0, u "<init>"), (0, u "()V"), (17, .class_ 26), (1, u "jdk/internal/util/Preconditions"), (28, .class_ 56), (0, u "jdk/internal/util/Preconditions$4"), (57, .class_ 115), (0, u "jdk/internal/util/Preconditions$1"), (7, u "SIOOBE_FORMATTER"), (0, u "Ljava/util/function/BiFunction;"), (0, .class_ 126), (0, u "jdk/internal/util/Preconditions$2"), (3, u "AIOOBE_FORMATTER"), (0, .class_ 132), (0, u "jdk/internal/util/Preconditions$3"), (3, u "IOOBE_FORMATTER")] 57

def k23m0 : Method := { name := "<init>", desc := "()V", sig := { parameters := [], returnType := none }, accessFlags := 1, code := none }
/-- jdk/internal/util/Preconditions -/
def k23 : Class := { plain "jdk/internal/util/Preconditions" (some 0) with
  accessFlags := 33
  interfaces := #[]
  cf := some (fileOf pool23 24 #[.nestMembers #[55, 131, 125, 114]] #[{ accessFlags := 1, nameIndex := 5, descriptorIndex := 6, attributes := #[] }] 33 2 #[] #[{ accessFlags := 25, nameIndex := 123, descriptorIndex := 124, attributes := #[] }, { accessFlags := 25, nameIndex := 130, descriptorIndex := 124, attributes := #[] }, { accessFlags := 25, nameIndex := 136, descriptorIndex := 124, attributes := #[] }])
  fields := #[{ name := "SIOOBE_FORMATTER", type := (.object "java/util/function/BiFunction"), accessFlags := 25, slot := 0, constantValue := 0 }, { name := "AIOOBE_FORMATTER", type := (.object "java/util/function/BiFunction"), accessFlags := 25, slot := 1, constantValue := 0 }, { name := "IOOBE_FORMATTER", type := (.object "java/util/function/BiFunction"), accessFlags := 25, slot := 2, constantValue := 0 }]
  methods := #[k23m0]
  instanceTypes := #[]
  staticTypes := #[(.object "java/util/function/BiFunction"), (.object "java/util/function/BiFunction"), (.object "java/util/function/BiFunction")]
  resolved := Array.replicate 194 none
  statics := some 2 }

def pool24 : Array CpInfo := pool [(9, u "<init>"), (6, .class_ 18), (1, u "java/lang/Object"), (0, u "()V"), (1, .class_ 23), (1, u "jdk/internal/util/ArraysSupport"), (0, u "LOG2_ARRAY_LONG_INDEX_SCALE"), (0, u "I"), (2, u "U"), (0, u "Ljdk/internal/misc/Unsafe;"), (8, u "BIG_ENDIAN"), (0, u "Z"), (8, u "LOG2_BYTE_BIT_SIZE"), (4, u "LOG2_ARRAY_INT_INDEX_SCALE"), (54, u "JLA"), (0, u "Ljdk/internal/access/JavaLangAccess;"), (11, u "LOG2_ARRAY_BOOLEAN_INDEX_SCALE"), (9, u "LOG2_ARRAY_BYTE_INDEX_SCALE"), (5, u "LOG2_ARRAY_CHAR_INDEX_SCALE"), (5, u "LOG2_ARRAY_SHORT_INDEX_SCALE"), (18, u "LOG2_ARRAY_FLOAT_INDEX_SCALE"), (24, u "LOG2_ARRAY_DOUBLE_INDEX_SCALE"), (89, u "T_BOOLEAN"), (2, u "T_CHAR"), (1, u "T_FLOAT"), (1, u "T_DOUBLE"), (1, u "T_BYTE"), (1, u "T_SHORT"), (1, u "T_INT"), (1, u "T_LONG"), (1, u "SOFT_MAX_ARRAY_LENGTH")] 83

def k24m0 : Method := { name := "<init>", desc := "()V", sig := { parameters := [], returnType := none }, accessFlags := 2, code := none }
/-- jdk/internal/util/ArraysSupport -/
def k24 : Class := { plain "jdk/internal/util/ArraysSupport" (some 0) with
  accessFlags := 33
  interfaces := #[]
  cf := some (fileOf pool24 21 #[] #[{ accessFlags := 2, nameIndex := 9, descriptorIndex := 19, attributes := #[] }] 33 16 #[] #[{ accessFlags := 24, nameIndex := 28, descriptorIndex := 29, attributes := #[] }, { accessFlags := 26, nameIndex := 38, descriptorIndex := 39, attributes := #[] }, { accessFlags := 25, nameIndex := 121, descriptorIndex := 25, attributes := #[] }, { accessFlags := 25, nameIndex := 131, descriptorIndex := 25, attributes := #[] }, { accessFlags := 25, nameIndex := 137, descriptorIndex := 25, attributes := #[] }, { accessFlags := 25, nameIndex := 143, descriptorIndex := 25, attributes := #[] }, { accessFlags := 25, nameIndex := 53, descriptorIndex := 25, attributes := #[] }, { accessFlags := 25, nameIndex := 24, descriptorIndex := 25, attributes := #[] }, { accessFlags := 25, nameIndex := 162, descriptorIndex := 25, attributes := #[] }, { accessFlags := 25, nameIndex := 187, descriptorIndex := 25, attributes := #[] }, { accessFlags := 26, nameIndex := 48, descriptorIndex := 25, attributes := #[] }, { accessFlags := 25, nameIndex := 277, descriptorIndex := 25, attributes := #[] }, { accessFlags := 25, nameIndex := 280, descriptorIndex := 25, attributes := #[] }, { accessFlags := 25, nameIndex := 282, descriptorIndex := 25, attributes := #[] }, { accessFlags := 25, nameIndex := 284, descriptorIndex := 25, attributes := #[] }, { accessFlags := 25, nameIndex := 286, descriptorIndex := 25, attributes := #[] }, { accessFlags := 25, nameIndex := 288, descriptorIndex := 25, attributes := #[] }, { accessFlags := 25, nameIndex := 290, descriptorIndex := 25, attributes := #[] }, { accessFlags := 25, nameIndex := 292, descriptorIndex := 25, attributes := #[] }, { accessFlags := 26, nameIndex := 108, descriptorIndex := 109, attributes := #[] }, { accessFlags := 25, nameIndex := 294, descriptorIndex := 25, attributes := #[] }])
  fields := #[{ name := "U", type := (.object "jdk/internal/misc/Unsafe"), accessFlags := 24, slot := 0, constantValue := 0 }, { name := "BIG_ENDIAN", type := .boolean, accessFlags := 26, slot := 1, constantValue := 0 }, { name := "LOG2_ARRAY_BOOLEAN_INDEX_SCALE", type := .int, accessFlags := 25, slot := 2, constantValue := 0 }, { name := "LOG2_ARRAY_BYTE_INDEX_SCALE", type := .int, accessFlags := 25, slot := 3, constantValue := 0 }, { name := "LOG2_ARRAY_CHAR_INDEX_SCALE", type := .int, accessFlags := 25, slot := 4, constantValue := 0 }, { name := "LOG2_ARRAY_SHORT_INDEX_SCALE", type := .int, accessFlags := 25, slot := 5, constantValue := 0 }, { name := "LOG2_ARRAY_INT_INDEX_SCALE", type := .int, accessFlags := 25, slot := 6, constantValue := 0 }, { name := "LOG2_ARRAY_LONG_INDEX_SCALE", type := .int, accessFlags := 25, slot := 7, constantValue := 0 }, { name := "LOG2_ARRAY_FLOAT_INDEX_SCALE", type := .int, accessFlags := 25, slot := 8, constantValue := 0 }, { name := "LOG2_ARRAY_DOUBLE_INDEX_SCALE", type := .int, accessFlags := 25, slot := 9, constantValue := 0 }, { name := "LOG2_BYTE_BIT_SIZE", type := .int, accessFlags := 26, slot := 10, constantValue := 0 }, { name := "T_BOOLEAN", type := .int, accessFlags := 25, slot := 11, constantValue := 0 }, { name := "T_CHAR", type := .int, accessFlags := 25, slot := 12, constantValue := 0 }, { name := "T_FLOAT", type := .int, accessFlags := 25, slot := 13, constantValue := 0 }, { name := "T_DOUBLE", type := .int, accessFlags := 25, slot := 14, constantValue := 0 }, { name := "T_BYTE", type := .int, accessFlags := 25, slot := 15, constantValue := 0 }, { name := "T_SHORT", type := .int, accessFlags := 25, slot := 16, constantValue := 0 }, { name := "T_INT", type := .int, accessFlags := 25, slot := 17, constantValue := 0 }, { name := "T_LONG", type := .int, accessFlags := 25, slot := 18, constantValue := 0 }, { name := "JLA", type := (.object "jdk/internal/access/JavaLangAccess"), accessFlags := 26, slot := 19, constantValue := 0 }, { name := "SOFT_MAX_ARRAY_LENGTH", type := .int, accessFlags := 25, slot := 20, constantValue := 0 }]
  methods := #[k24m0]
  instanceTypes := #[]
  staticTypes := #[(.object "jdk/internal/misc/Unsafe"), .boolean, .int, .int, .int, .int, .int, .int, .int, .int, .int, .int, .int, .int, .int, .int, .int, .int, .int, (.object "jdk/internal/access/JavaLangAccess"), .int]
  resolved := Array.replicate 378 none
  statics := none }

/-- the primitive byte -/
def k25 : Class := { plain "byte" none with kind := .primitive 'B', accessFlags := 0x411 }
/-- [B -/
def k26 : Class := { plain "[B" (some 0) with kind := .array 25 .byte, interfaces := #[11, 12], accessFlags := 1041 }

/-- the primitive int -/
def k27 : Class := { plain "int" none with kind := .primitive 'I', accessFlags := 0x411 }
/-- [I -/
def k28 : Class := { plain "[I" (some 0) with kind := .array 27 .int, interfaces := #[11, 12], accessFlags := 1041 }

/-- the primitive long -/
def k29 : Class := { plain "long" none with kind := .primitive 'J', accessFlags := 0x411 }
/-- [J -/
def k30 : Class := { plain "[J" (some 0) with kind := .array 29 .long, interfaces := #[11, 12], accessFlags := 1041 }

/-- [Ljava/lang/Object; -/
def k31 : Class := { plain "[Ljava/lang/Object;" (some 0) with kind := .array 0 (.object "java/lang/Object"), interfaces := #[11, 12], accessFlags := 1041 }

/-- [Ljava/lang/String; -/
def k32 : Class := { plain "[Ljava/lang/String;" (some 0) with kind := .array 18 (.object "java/lang/String"), interfaces := #[11, 12], accessFlags := 1041 }

def heap : Heap := #[{ cls := 13, slots := #[.long 0, .int 0, .ref 3, .ref 4], vm := .statics 13 },
  { cls := 18, slots := #[.long 0, .int 1, .null, .int 0, .null, .int 0, .int 0], vm := .statics 18 },
  { cls := 23, slots := #[.null, .null, .null], vm := .statics 23 },
  { cls := 31, slots := #[], vm := .none },
  { cls := 31, slots := #[], vm := .none }]
def classes : Array Class := #[k0, k1, k2, k3, k4, k5, k6, k7, k8, k9, k10, k11, k12, k13, k14, k15, k16, k17, k18, k19, k20, k21, k22, k23, k24, k25, k26, k27, k28, k29, k30, k31, k32]
def interned : List (Array UInt16 × Addr) := []
def slotsUsed : Nat := 14
def theMethod : MethodId := ⟨1, 1⟩
def args0 : Array Value := #[.int 1, .int 2, .int 3, .int 4, .int 5]
def aboutOver (below : List Frame) : State where
  vm := { classes := classes, interned := interned.toArray }
  heap := heap
  slotsUsed := slotsUsed
  threads := #[{ frames := .invoking theMethod args0 :: below }]
def below0 : List Frame := [.native { method := ⟨0, 0⟩, args := #[] }]
def about1 : State := aboutOver below0
def p0 : Program := .bare "" "" ""
def e0 : Env := launch0.env 0 0 0
theorem w_frames : about1.frames = Frame.invoking theMethod args0 :: below0 := rfl
set_option maxRecDepth 65536 in
theorem w_args : argsFit about1.vm theMethod args0 = true := by decide +kernel
set_option maxRecDepth 65536 in
theorem w_heap : heapFits about1 = true := by decide +kernel
set_option maxRecDepth 65536 in
theorem w_runnable : about1.curStatus? = some .runnable := by decide +kernel
set_option maxRecDepth 65536 in
theorem w_alone : about1.alone = true := by decide +kernel
set_option maxRecDepth 65536 in
theorem w_named : about1.methodNamed? x = some theMethod := by decide +kernel
set_option maxRecDepth 65536 in
theorem w_hears : about1.hears theMethod below0 = true := by decide +kernel
set_option maxRecDepth 65536 in
theorem w_ripe : about1.ripe theMethod args0 below0 = true := by decide +kernel
theorem w_running : about1.status = .running := rfl
set_option maxRecDepth 65536 in
theorem w_room : about1.hasRoom e0.platform room_1 = true :=
  launch0.hasRoom_least _ room_1 (by decide +kernel) (by decide +kernel) (by decide +kernel) (by decide +kernel) (by decide +kernel) (by decide +kernel)
theorem allAtoms_all (ts : List Jvm.Cond) (a : Array Jvm.Value) (st : Jvm.State) : (allAtoms ts).before a st = ts.all (fun c => c.before a st) := by
  induction ts with
  | nil => rfl
  | cons c t ih =>
    show (Jvm.Cond.and c (allAtoms t)).before a st = _
    rw [Jvm.Cond.before_and, ih, List.all_cons]
def words1 : List Jvm.Cond := Jvm.Cond.code x code maxLocals ret :: tables_1
/-- a 'code' word, met by the world's own term for the bytes: nothing is compared byte by byte -/
theorem code_word {y : MethodName} {bytes : ByteArray} {mx : Nat} {rt : Option FieldType} {a : Array Value} {s : State} {m : MethodId} {meth : Method} {c : Code} (h1 : s.methodNamed? y = some m) (h2 : s.vm.method? m = some meth) (h3 : meth.code = some c) (h4 : c.code = bytes)
    (h5 : (c.maxLocals == mx && c.exceptionTable.isEmpty && decide (c.maxStack ≤ mostOperands) && decide (meth.sig.returnType = rt) && !meth.locks && decide (parseMethodDescriptor y.desc = some meth.sig)) = true) : (Jvm.Cond.code y bytes mx rt).before a s = true := by
  simp only [Bool.and_eq_true, beq_iff_eq, Bool.not_eq_true', decide_eq_true_eq] at h5
  obtain ⟨⟨⟨⟨⟨g1, g2⟩, g3⟩, g4⟩, g5⟩, g6⟩ := h5
  simp [Cond.before, Cond.holds, Cond.value, h1, h2, h3, h4, g1, g2, g3, g4, g5, g6]
def isCode : Jvm.Cond → Bool
  | .code _ _ _ _ => true
  | _ => false
theorem all_split {L : List Jvm.Cond} {P : Jvm.Cond → Bool} (h1 : L.all (fun c => isCode c || P c) = true) (h2 : ∀ c ∈ L.filter isCode, P c = true) : L.all P = true := by
  refine List.all_eq_true.mpr fun c hc => ?_
  have h := List.all_eq_true.mp h1 c hc
  rcases Bool.eq_false_or_eq_true (isCode c) with hi | hi
  · exact h2 c (List.mem_filter.mpr ⟨hc, hi⟩)
  · simpa [hi] using h
set_option maxRecDepth 65536 in
theorem w_c0 : (Jvm.Cond.code x code maxLocals ret).before args0 about1 = true := code_word (m := ⟨1, 1⟩) (meth := k1m1) (c := k1c1) (by decide +kernel) rfl rfl rfl (by decide +kernel)
set_option maxRecDepth 65536 in
theorem w_c1 : (Jvm.Cond.code ({ cls := "com/example/libjpatch/libjpatch/Utf8Reader", name := "<init>", desc := "([B)V" } : Jvm.MethodName) prog_101_method_1_code (2 : Nat) (Option.none : Option Jvm.ClassFile.FieldType)).before args0 about1 = true := code_word (m := ⟨3, 0⟩) (meth := k3m0) (c := k3c0) (by decide +kernel) rfl rfl rfl (by decide +kernel)
set_option maxRecDepth 65536 in
theorem w_c2 : (Jvm.Cond.code ({ cls := "com/example/libjpatch/libjpatch/JsonReader", name := "<init>", desc := "()V" } : Jvm.MethodName) prog_43_method_1_code (1 : Nat) (Option.none : Option Jvm.ClassFile.FieldType)).before args0 about1 = true := code_word (m := ⟨2, 0⟩) (meth := k2m0) (c := k2c0) (by decide +kernel) rfl rfl rfl (by decide +kernel)
set_option maxRecDepth 65536 in
theorem w_c3 : (Jvm.Cond.code ({ cls := "java/lang/Object", name := "<init>", desc := "()V" } : Jvm.MethodName) object_method_1_code (1 : Nat) (Option.none : Option Jvm.ClassFile.FieldType)).before args0 about1 = true := code_word (m := ⟨0, 0⟩) (meth := k0m0) (c := k0c0) (by decide +kernel) rfl rfl rfl (by decide +kernel)
set_option maxRecDepth 65536 in
theorem w_c4 : (Jvm.Cond.code ({ cls := "java/util/ArrayList", name := "<init>", desc := "()V" } : Jvm.MethodName) jdk_38_method_2_code (1 : Nat) (Option.none : Option Jvm.ClassFile.FieldType)).before args0 about1 = true := code_word (m := ⟨13, 0⟩) (meth := k13m0) (c := k13c0) (by decide +kernel) rfl rfl rfl (by decide +kernel)
set_option maxRecDepth 65536 in
theorem w_c5 : (Jvm.Cond.code ({ cls := "java/util/AbstractList", name := "<init>", desc := "()V" } : Jvm.MethodName) jdk_39_method_1_code (1 : Nat) (Option.none : Option Jvm.ClassFile.FieldType)).before args0 about1 = true := code_word (m := ⟨9, 0⟩) (meth := k9m0) (c := k9c0) (by decide +kernel) rfl rfl rfl (by decide +kernel)
set_option maxRecDepth 65536 in
theorem w_c6 : (Jvm.Cond.code ({ cls := "java/util/AbstractCollection", name := "<init>", desc := "()V" } : Jvm.MethodName) jdk_22_method_1_code (1 : Nat) (Option.none : Option Jvm.ClassFile.FieldType)).before args0 about1 = true := code_word (m := ⟨6, 0⟩) (meth := k6m0) (c := k6c0) (by decide +kernel) rfl rfl rfl (by decide +kernel)
set_option maxRecDepth 65536 in
theorem w_c7 : (Jvm.Cond.code ({ cls := "java/lang/StringBuilder", name := "<init>", desc := "()V" } : Jvm.MethodName) jdk_67_method_1_code (1 : Nat) (Option.none : Option Jvm.ClassFile.FieldType)).before args0 about1 = true := code_word (m := ⟨21, 0⟩) (meth := k21m0) (c := k21c0) (by decide +kernel) rfl rfl rfl (by decide +kernel)
set_option maxRecDepth 65536 in
theorem w_c8 : (Jvm.Cond.code ({ cls := "java/lang/AbstractStringBuilder", name := "<init>", desc := "(I)V" } : Jvm.MethodName) jdk_68_method_2_code (2 : Nat) (Option.none : Option Jvm.ClassFile.FieldType)).before args0 about1 = true := code_word (m := ⟨20, 1⟩) (meth := k20m1) (c := k20c1) (by decide +kernel) rfl rfl rfl (by decide +kernel)
set_option maxRecDepth 65536 in
theorem w_c9 : (Jvm.Cond.code ({ cls := "com/example/libjpatch/libjpatch/Utf8Reader", name := "peek", desc := "()I" } : Jvm.MethodName) prog_101_method_2_code (1 : Nat) (Option.some Jvm.ClassFile.FieldType.int)).before args0 about1 = true := code_word (m := ⟨3, 1⟩) (meth := k3m1) (c := k3c1) (by decide +kernel) rfl rfl rfl (by decide +kernel)
def codes1 : List Jvm.Cond := [Jvm.Cond.code x code maxLocals ret, Jvm.Cond.code ({ cls := "com/example/libjpatch/libjpatch/Utf8Reader", name := "<init>", desc := "([B)V" } : Jvm.MethodName) prog_101_method_1_code (2 : Nat) (Option.none : Option Jvm.ClassFile.FieldType), Jvm.Cond.code ({ cls := "com/example/libjpatch/libjpatch/JsonReader", name := "<init>", desc := "()V" } : Jvm.MethodName) prog_43_method_1_code (1 : Nat) (Option.none : Option Jvm.ClassFile.FieldType), Jvm.Cond.code ({ cls := "java/lang/Object", name := "<init>", desc := "()V" } : Jvm.MethodName) object_method_1_code (1 : Nat) (Option.none : Option Jvm.ClassFile.FieldType), Jvm.Cond.code ({ cls := "java/util/ArrayList", name := "<init>", desc := "()V" } : Jvm.MethodName) jdk_38_method_2_code (1 : Nat) (Option.none : Option Jvm.ClassFile.FieldType), Jvm.Cond.code ({ cls := "java/util/AbstractList", name := "<init>", desc := "()V" } : Jvm.MethodName) jdk_39_method_1_code (1 : Nat) (Option.none : Option Jvm.ClassFile.FieldType), Jvm.Cond.code ({ cls := "java/util/AbstractCollection", name := "<init>", desc := "()V" } : Jvm.MethodName) jdk_22_method_1_code (1 : Nat) (Option.none : Option Jvm.ClassFile.FieldType), Jvm.Cond.code ({ cls := "java/lang/StringBuilder", name := "<init>", desc := "()V" } : Jvm.MethodName) jdk_67_method_1_code (1 : Nat) (Option.none : Option Jvm.ClassFile.FieldType), Jvm.Cond.code ({ cls := "java/lang/AbstractStringBuilder", name := "<init>", desc := "(I)V" } : Jvm.MethodName) jdk_68_method_2_code (2 : Nat) (Option.none : Option Jvm.ClassFile.FieldType), Jvm.Cond.code ({ cls := "com/example/libjpatch/libjpatch/Utf8Reader", name := "peek", desc := "()I" } : Jvm.MethodName) prog_101_method_2_code (1 : Nat) (Option.some Jvm.ClassFile.FieldType.int)]
set_option maxRecDepth 65536 in
theorem codes_eq : words1.filter isCode = codes1 := rfl
theorem w_codes : ∀ c ∈ words1.filter isCode, c.before args0 about1 = true := by
  rw [codes_eq]
  intro c hc
  simp only [codes1, List.mem_cons, List.not_mem_nil, or_false] at hc
  rcases hc with rfl | rfl | rfl | rfl | rfl | rfl | rfl | rfl | rfl | rfl
  · exact w_c0
  · exact w_c1
  · exact w_c2
  · exact w_c3
  · exact w_c4
  · exact w_c5
  · exact w_c6
  · exact w_c7
  · exact w_c8
  · exact w_c9
set_option maxRecDepth 65536 in
theorem w_t1 : (words1.take 24).all (fun c => isCode c || c.before args0 about1) = true := by decide +kernel
set_option maxRecDepth 65536 in
theorem w_t2 : ((words1.drop 24).take 24).all (fun c => isCode c || c.before args0 about1) = true := by decide +kernel
set_option maxRecDepth 65536 in
theorem w_t3 : (((words1.drop 24).drop 24).take 24).all (fun c => isCode c || c.before args0 about1) = true := by decide +kernel
set_option maxRecDepth 65536 in
theorem w_t4 : (((words1.drop 24).drop 24).drop 24).all (fun c => isCode c || c.before args0 about1) = true := by decide +kernel
theorem w_tables : (allAtoms (Jvm.Cond.code x code maxLocals ret :: tables_1)).before args0 about1 = true := by
  rw [allAtoms_all]
  show words1.all (fun c => c.before args0 about1) = true
  refine all_split ?_ w_codes
  rw [← List.take_append_drop 24 words1, List.all_append, w_t1, ← List.take_append_drop 24 (words1.drop 24), List.all_append, w_t2, ← List.take_append_drop 24 ((words1.drop 24).drop 24), List.all_append, w_t3, w_t4]
  rfl
set_option maxRecDepth 65536 in
theorem w_rest : rest_1_c.before args0 about1 = true := by decide +kernel
set_option maxRecDepth 65536 in
theorem w_case : (Jvm.Cond.and given_1 narrow_1).before args0 about1 = true := by decide +kernel
theorem w_applies : (headSpec (Jvm.Cond.code x code maxLocals ret :: tables_1) room_1).applies x e0.platform about1 = true :=
  (Spec.applies_iff w_frames).mpr ⟨w_running, w_runnable, w_alone, w_named, w_hears, w_ripe, w_room, w_tables⟩
theorem atStart : AtStart classFile x code maxLocals ret World_1 tables_1 room_1 Calls_1 rest_1 Pre_1 launch0 p0 e0 about1 theMethod args0 below0 :=
  ⟨lists_1, trivial, launch0.admits_env _ _ _, launch0.least_env, fairChoices_fair.cas, fairChoices_fair.clock, w_frames, w_args, w_heap, w_applies, trivial, w_rest, w_case⟩
end start1
theorem witness_1 : WitnessClaimed_1 := ⟨start1.p0, start1.e0, start1.about1, start1.theMethod, start1.args0, start1.below0, start1.atStart⟩
end Jvm.Pilot.@@N@@
