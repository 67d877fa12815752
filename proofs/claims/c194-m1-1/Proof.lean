import JvmDerived
import JvmDerived.Pilot.@@N@@Statement
import JvmDerived.Pilot.@@N@@Code
set_option linter.unusedVariables false
set_option linter.unusedSimpArgs false
@@BLOCK:NumsL.lean.txt@@
namespace Jvm.OwnWalk
open Sem ClassFile Op Lib Jvm.Stand Jvm.Free Jvm.LawKit Jvm.RoadKit
section K
variable {p : Program} {l : Launch} {e : Env} {R : Room} {s : State} {m : MethodId} {args : Array Value} {below : List Frame} {meth : Method} {c : Code} {T : State} {locs : List Loc} {cells slots : Nat} {Z : State} {a0 : Array Value} {h : Heap} {P : Outcome → State → Prop} {pc : Nat} {Ls : Array Slot} {rest : List Value}
/-- from T with g on top the invocation ends, and P holds of its end -/
def Wout (p : Program) (e : Env) (below : List Frame) (P : Outcome → State → Prop) (T : State) (g : JFrame) : Prop :=
  ∃ U o, Steps p.tables e below (T.setTop g) U ∧ U.status = .running ∧ Ended U below o ∧ P o U
theorem Wout.of {T T' : State} {g g' : JFrame} (st : ∀ t, Steps p.tables e below (T'.setTop g') t → Steps p.tables e below (T.setTop g) t) (hr : Wout p e below P T' g') : Wout p e below P T g := by
  obtain ⟨U, o, h1, h2⟩ := hr
  exact ⟨U, o, st U h1, h2⟩
theorem Wout.tr {T T' : State} {g g' : JFrame} (st : Steps p.tables e below (T.setTop g) (T'.setTop g')) (hr : Wout p e below P T' g') : Wout p e below P T g := by
  obtain ⟨U, o, h1, h2⟩ := hr
  exact ⟨U, o, st.trans h1, h2⟩
theorem Wout.cast {T : State} {g g' : JFrame} (q : g = g') (hr : Wout p e below P T g') : Wout p e below P T g := q ▸ hr
/-- the end of an invocation that returned: Q of its value, the heap and the written places; the frame -/
def Pst (s : State) (Q : Option Value → Heap → List Loc → Prop) (C S : Nat) (o : Outcome) (U : State) : Prop := ∃ v L, o = .returned v ∧ Q v U.heap L ∧ FrameEnd s o U L C S
abbrev Met (l : Launch) (Z : State) (y : MethodName) (bytes : ByteArray) (maxL : Nat) (ret : Option FieldType) (ws : List Jvm.Cond) (rm : Room) (as' : Array Value) (h0 : Heap) (Q : Option Value → Heap → List Loc → Prop) : Prop :=
  MetFree l y (head1 (Jvm.Cond.code y bytes maxL ret :: ws) rm) (fun a U => a = as' ∧ Z.Warmed39 U.vm ∧ U.heap = h0) (fun _ _ _ _ _ => True) (fun _ U o U' => ∃ v L, o = .returned v ∧ Q v U'.heap L ∧ FrameEnd U o U' L rm.cells rm.slots)
theorem Met.start {y : MethodName} {bytes : ByteArray} {maxL : Nat} {ret : Option FieldType} {ws : List Jvm.Cond} {rm : Room} {as' : Array Value} {h0 : Heap} {Q : Option Value → Heap → List Loc → Prop} (hpl : plainFor y = true)
    (H : ∀ (p : Program) (e : Env) (s : State) (m : MethodId) (below : List Frame) (meth : Method) (c : Code) (T : State), Stand p l e rm s m as' below meth c T [] 0 0 → p.tables.exec = Jvm.exec → c.code = bytes → c.maxLocals = maxL → s.vm.findClass y.cls = some m.cls → meth.name = y.name → meth.sig.returnType = ret → meth.locks = false → Z.Warmed39 s.vm → T.heap = h0 → Wout p e below (Pst s Q rm.cells rm.slots) T (entryFrame m as' maxL)) :
    Met l Z y bytes maxL ret ws rm as' h0 Q := by
  refine MetFree.of_bodySF hpl hisR ?_
  intro p e s m args below meth c s₁ Bd hml0 hP hK
  obtain ⟨rfl, hZ, hh⟩ := hP
  exact H p e s m below meth c s₁ (Stand.of_body Bd) Bd.exec Bd.bytes hml0 (findClass_of_methodNamed Bd.named) (name_of_methodNamed Bd.named Bd.method).1 Bd.returns Bd.notSynchronized hZ (by rw [← hh, Bd.state]; rfl)
/-! what a branch says -/
def cI : ClassFile.Cond → Int32 → Prop
  | .eq, x => x = 0 | .ne, x => ¬ x = 0 | .lt, x => x < 0 | .ge, x => ¬ x < 0 | .gt, x => 0 < x | .le, x => ¬ 0 < x
def cII : ClassFile.Cond → Int32 → Int32 → Prop
  | .eq, x, y => x = y | .ne, x, y => ¬ x = y | .lt, x, y => x < y | .ge, x, y => ¬ x < y | .gt, x, y => y < x | .le, x, y => ¬ y < x
def cLL : ClassFile.Cond → Int64 → Int64 → Prop
  | .eq, x, y => x = y | .ne, x, y => ¬ x = y | .lt, x, y => x < y | .ge, x, y => ¬ x < y | .gt, x, y => y < x | .le, x, y => ¬ y < x
def cNeg : ClassFile.Cond → ClassFile.Cond
  | .eq => .ne | .ne => .eq | .lt => .ge | .ge => .lt | .gt => .le | .le => .gt
theorem cI_t : ∀ {cd : ClassFile.Cond} {x : Int32}, cI cd x → ifCond.holds cd x = true
  | .eq, _, q => XT.i0_eq_t q
  | .ne, _, q => XT.i0_ne_t q
  | .lt, _, q => XT.i0_lt_t q
  | .ge, _, q => XT.i0_ge_t q
  | .gt, _, q => XT.i0_gt_t q
  | .le, _, q => XT.i0_le_t q
theorem cI_f : ∀ {cd : ClassFile.Cond} {x : Int32}, cI (cNeg cd) x → ifCond.holds cd x = false
  | .eq, _, q => XT.i0_eq_f q
  | .ne, _, q => XT.i0_ne_f q
  | .lt, _, q => XT.i0_lt_f q
  | .ge, _, q => XT.i0_ge_f q
  | .gt, _, q => XT.i0_gt_f q
  | .le, _, q => XT.i0_le_f q
theorem cII_t : ∀ {cd : ClassFile.Cond} {x y : Int32}, cII cd x y → if_icmp.holds cd x y = true
  | .eq, _, _, q => XT.ii_eq_t q
  | .ne, _, _, q => XT.ii_ne_t q
  | .lt, _, _, q => XT.ii_lt_t q
  | .ge, _, _, q => XT.ii_ge_t q
  | .gt, _, _, q => XT.ii_gt_t q
  | .le, _, _, q => XT.ii_le_t q
theorem cII_f : ∀ {cd : ClassFile.Cond} {x y : Int32}, cII (cNeg cd) x y → if_icmp.holds cd x y = false
  | .eq, _, _, q => XT.ii_eq_f q
  | .ne, _, _, q => XT.ii_ne_f q
  | .lt, _, _, q => XT.ii_lt_f q
  | .ge, _, _, q => XT.ii_ge_f q
  | .gt, _, _, q => XT.ii_gt_f q
  | .le, _, _, q => XT.ii_le_f q
theorem cLL_t : ∀ {cd : ClassFile.Cond} {x y : Int64}, cLL cd x y → ifCond.holds cd (XT.cmpL x y) = true
  | .eq, _, _, q => XT.ll_eq_t q
  | .ne, _, _, q => XT.ll_ne_t q
  | .lt, _, _, q => XT.ll_lt_t q
  | .ge, _, _, q => XT.ll_ge_t q
  | .gt, _, _, q => XT.ll_gt_t q
  | .le, _, _, q => XT.ll_le_t q
theorem cLL_f : ∀ {cd : ClassFile.Cond} {x y : Int64}, cLL (cNeg cd) x y → ifCond.holds cd (XT.cmpL x y) = false
  | .eq, _, _, q => XT.ll_eq_f q
  | .ne, _, _, q => XT.ll_ne_f q
  | .lt, _, _, q => XT.ll_lt_f q
  | .ge, _, _, q => XT.ll_ge_f q
  | .gt, _, _, q => XT.ll_gt_f q
  | .le, _, _, q => XT.ll_le_f q
theorem cI_em (cd : ClassFile.Cond) (x : Int32) : cI cd x ∨ cI (cNeg cd) x := by
  cases cd <;> simp only [cI, cNeg] <;> first | exact Classical.em _ | exact (Classical.em _).symm
theorem cII_em (cd : ClassFile.Cond) (x y : Int32) : cII cd x y ∨ cII (cNeg cd) x y := by
  cases cd <;> simp only [cII, cNeg] <;> first | exact Classical.em _ | exact (Classical.em _).symm
theorem cLL_em (cd : ClassFile.Cond) (x y : Int64) : cLL cd x y ∨ cLL (cNeg cd) x y := by
  cases cd <;> simp only [cLL, cNeg] <;> first | exact Classical.em _ | exact (Classical.em _).symm

theorem o_iload (X : Stand p l e R s m args below meth c T locs cells slots) (hx : p.tables.exec = Jvm.exec) (n : Nat) {k : Nat} {v : Int32} (hd : decode c.code pc = .ok (.iload k, 2)) (hl : Ls[k]? = some (.val (.int v))) (hp : pc + 2 = n) (hr : Wout p e below P T (mkF m n Ls (.int v :: rest))) : Wout p e below P T (mkF m pc Ls (rest)) := by
  subst hp
  exact Wout.of (fun _ ht => XS.iload X.here hx rfl hd hl ht) hr
theorem o_iloadN (X : Stand p l e R s m args below meth c T locs cells slots) (hx : p.tables.exec = Jvm.exec) (n : Nat) {k : Fin 4} {v : Int32} (hd : decode c.code pc = .ok (.iload_n k, 1)) (hl : Ls[k.val]? = some (.val (.int v))) (hp : pc + 1 = n) (hr : Wout p e below P T (mkF m n Ls (.int v :: rest))) : Wout p e below P T (mkF m pc Ls (rest)) := by
  subst hp
  exact Wout.of (fun _ ht => XS.iloadN X.here hx rfl hd hl ht) hr
theorem o_istore (X : Stand p l e R s m args below meth c T locs cells slots) (hx : p.tables.exec = Jvm.exec) (n : Nat) {k : Nat} {v : Int32} {Ls' : Array Slot} (hd : decode c.code pc = .ok (.istore k, 2)) (hl : storeLocals Ls k (.int v) = some Ls') (hp : pc + 2 = n) (hr : Wout p e below P T (mkF m n Ls' (rest))) : Wout p e below P T (mkF m pc Ls (.int v :: rest)) := by
  subst hp
  exact Wout.of (fun _ ht => XS.istore X.here hx rfl hd rfl hl ht) hr
theorem o_istoreN (X : Stand p l e R s m args below meth c T locs cells slots) (hx : p.tables.exec = Jvm.exec) (n : Nat) {k : Fin 4} {v : Int32} {Ls' : Array Slot} (hd : decode c.code pc = .ok (.istore_n k, 1)) (hl : storeLocals Ls k.val (.int v) = some Ls') (hp : pc + 1 = n) (hr : Wout p e below P T (mkF m n Ls' (rest))) : Wout p e below P T (mkF m pc Ls (.int v :: rest)) := by
  subst hp
  exact Wout.of (fun _ ht => XS.istoreN X.here hx rfl hd rfl hl ht) hr
theorem o_lload (X : Stand p l e R s m args below meth c T locs cells slots) (hx : p.tables.exec = Jvm.exec) (n : Nat) {k : Nat} {v : Int64} (hd : decode c.code pc = .ok (.lload k, 2)) (hl : Ls[k]? = some (.val (.long v))) (hp : pc + 2 = n) (hr : Wout p e below P T (mkF m n Ls (.long v :: rest))) : Wout p e below P T (mkF m pc Ls (rest)) := by
  subst hp
  exact Wout.of (fun _ ht => XT.lload X.here hx rfl hd hl ht) hr
theorem o_lloadN (X : Stand p l e R s m args below meth c T locs cells slots) (hx : p.tables.exec = Jvm.exec) (n : Nat) {k : Fin 4} {v : Int64} (hd : decode c.code pc = .ok (.lload_n k, 1)) (hl : Ls[k.val]? = some (.val (.long v))) (hp : pc + 1 = n) (hr : Wout p e below P T (mkF m n Ls (.long v :: rest))) : Wout p e below P T (mkF m pc Ls (rest)) := by
  subst hp
  exact Wout.of (fun _ ht => XT.lloadN X.here hx rfl hd hl ht) hr
theorem o_lstore (X : Stand p l e R s m args below meth c T locs cells slots) (hx : p.tables.exec = Jvm.exec) (n : Nat) {k : Nat} {v : Int64} {Ls' : Array Slot} (hd : decode c.code pc = .ok (.lstore k, 2)) (hl : storeLocals Ls k (.long v) = some Ls') (hp : pc + 2 = n) (hr : Wout p e below P T (mkF m n Ls' (rest))) : Wout p e below P T (mkF m pc Ls (.long v :: rest)) := by
  subst hp
  exact Wout.of (fun _ ht => XT.lstore X.here hx rfl hd rfl hl ht) hr
theorem o_lstoreN (X : Stand p l e R s m args below meth c T locs cells slots) (hx : p.tables.exec = Jvm.exec) (n : Nat) {k : Fin 4} {v : Int64} {Ls' : Array Slot} (hd : decode c.code pc = .ok (.lstore_n k, 1)) (hl : storeLocals Ls k.val (.long v) = some Ls') (hp : pc + 1 = n) (hr : Wout p e below P T (mkF m n Ls' (rest))) : Wout p e below P T (mkF m pc Ls (.long v :: rest)) := by
  subst hp
  exact Wout.of (fun _ ht => XT.lstoreN X.here hx rfl hd rfl hl ht) hr
theorem o_aload (X : Stand p l e R s m args below meth c T locs cells slots) (hx : p.tables.exec = Jvm.exec) (n : Nat) {k : Nat} {v : Value} (hd : decode c.code pc = .ok (.aload k, 2)) (hl : Ls[k]? = some (.val v)) (hv : v.isRef = true) (hp : pc + 2 = n) (hr : Wout p e below P T (mkF m n Ls (v :: rest))) : Wout p e below P T (mkF m pc Ls (rest)) := by
  subst hp
  exact Wout.of (fun _ ht => XS.aload X.here hx rfl hd hl hv ht) hr
theorem o_aloadN (X : Stand p l e R s m args below meth c T locs cells slots) (hx : p.tables.exec = Jvm.exec) (n : Nat) {k : Fin 4} {v : Value} (hd : decode c.code pc = .ok (.aload_n k, 1)) (hl : Ls[k.val]? = some (.val v)) (hv : v.isRef = true) (hp : pc + 1 = n) (hr : Wout p e below P T (mkF m n Ls (v :: rest))) : Wout p e below P T (mkF m pc Ls (rest)) := by
  subst hp
  exact Wout.of (fun _ ht => XS.aloadN X.here hx rfl hd hl hv ht) hr
theorem o_astore (X : Stand p l e R s m args below meth c T locs cells slots) (hx : p.tables.exec = Jvm.exec) (n : Nat) {k : Nat} {v : Value} {Ls' : Array Slot} (hd : decode c.code pc = .ok (.astore k, 2)) (hv : v.isRef = true) (hl : storeLocals Ls k v = some Ls') (hp : pc + 2 = n) (hr : Wout p e below P T (mkF m n Ls' (rest))) : Wout p e below P T (mkF m pc Ls (v :: rest)) := by
  subst hp
  exact Wout.of (fun _ ht => XS.astore X.here hx rfl hd rfl hv hl ht) hr
theorem o_astoreN (X : Stand p l e R s m args below meth c T locs cells slots) (hx : p.tables.exec = Jvm.exec) (n : Nat) {k : Fin 4} {v : Value} {Ls' : Array Slot} (hd : decode c.code pc = .ok (.astore_n k, 1)) (hv : v.isRef = true) (hl : storeLocals Ls k.val v = some Ls') (hp : pc + 1 = n) (hr : Wout p e below P T (mkF m n Ls' (rest))) : Wout p e below P T (mkF m pc Ls (v :: rest)) := by
  subst hp
  exact Wout.of (fun _ ht => XS.astoreN X.here hx rfl hd rfl hv hl ht) hr
theorem o_iconst (X : Stand p l e R s m args below meth c T locs cells slots) (hx : p.tables.exec = Jvm.exec) (n : Nat) {i : Int} (v : Int32) (hd : decode c.code pc = .ok (.iconst i, 1)) (hv : Int32.ofInt i = v) (hp : pc + 1 = n) (hr : Wout p e below P T (mkF m n Ls (.int v :: rest))) : Wout p e below P T (mkF m pc Ls (rest)) := by
  subst hp
  exact Wout.of (fun _ ht => XT.iconstV X.here hx rfl v hd hv ht) hr
theorem o_bipush (X : Stand p l e R s m args below meth c T locs cells slots) (hx : p.tables.exec = Jvm.exec) (n : Nat) {i : Int} (v : Int32) (hd : decode c.code pc = .ok (.bipush i, 2)) (hv : (Int8.ofInt i).toInt32 = v) (hp : pc + 2 = n) (hr : Wout p e below P T (mkF m n Ls (.int v :: rest))) : Wout p e below P T (mkF m pc Ls (rest)) := by
  subst hp
  exact Wout.of (fun _ ht => XT.bipushV X.here hx rfl v hd hv ht) hr
theorem o_sipush (X : Stand p l e R s m args below meth c T locs cells slots) (hx : p.tables.exec = Jvm.exec) (n : Nat) {i : Int} (v : Int32) (hd : decode c.code pc = .ok (.sipush i, 3)) (hv : (Int16.ofInt i).toInt32 = v) (hp : pc + 3 = n) (hr : Wout p e below P T (mkF m n Ls (.int v :: rest))) : Wout p e below P T (mkF m pc Ls (rest)) := by
  subst hp
  exact Wout.of (fun _ ht => XT.sipushV X.here hx rfl v hd hv ht) hr
theorem o_lconst (X : Stand p l e R s m args below meth c T locs cells slots) (hx : p.tables.exec = Jvm.exec) (n : Nat) {k : Fin 2} (v : Int64) (hd : decode c.code pc = .ok (.lconst k, 1)) (hv : Int64.ofNat k = v) (hp : pc + 1 = n) (hr : Wout p e below P T (mkF m n Ls (.long v :: rest))) : Wout p e below P T (mkF m pc Ls (rest)) := by
  subst hp
  exact Wout.of (fun _ ht => XT.lconstV X.here hx rfl v hd hv ht) hr
theorem o_aconst_null (X : Stand p l e R s m args below meth c T locs cells slots) (hx : p.tables.exec = Jvm.exec) (n : Nat)  (hd : decode c.code pc = .ok (.aconst_null, 1)) (hp : pc + 1 = n) (hr : Wout p e below P T (mkF m n Ls (.null :: rest))) : Wout p e below P T (mkF m pc Ls (rest)) := by
  subst hp
  exact Wout.of (fun _ ht => XS.aconstNull X.here hx rfl hd ht) hr
theorem o_iadd (X : Stand p l e R s m args below meth c T locs cells slots) (hx : p.tables.exec = Jvm.exec) (n : Nat) {x y : Int32} (hd : decode c.code pc = .ok (.iadd, 1)) (hp : pc + 1 = n) (hr : Wout p e below P T (mkF m n Ls (.int (x + y) :: rest))) : Wout p e below P T (mkF m pc Ls (.int y :: .int x :: rest)) := by
  subst hp
  exact Wout.of (fun _ ht => XS.iadd X.here hx rfl hd rfl ht) hr
theorem o_isub (X : Stand p l e R s m args below meth c T locs cells slots) (hx : p.tables.exec = Jvm.exec) (n : Nat) {x y : Int32} (hd : decode c.code pc = .ok (.isub, 1)) (hp : pc + 1 = n) (hr : Wout p e below P T (mkF m n Ls (.int (x - y) :: rest))) : Wout p e below P T (mkF m pc Ls (.int y :: .int x :: rest)) := by
  subst hp
  exact Wout.of (fun _ ht => XS.isub X.here hx rfl hd rfl ht) hr
theorem o_imul (X : Stand p l e R s m args below meth c T locs cells slots) (hx : p.tables.exec = Jvm.exec) (n : Nat) {x y : Int32} (hd : decode c.code pc = .ok (.imul, 1)) (hp : pc + 1 = n) (hr : Wout p e below P T (mkF m n Ls (.int (x * y) :: rest))) : Wout p e below P T (mkF m pc Ls (.int y :: .int x :: rest)) := by
  subst hp
  exact Wout.of (fun _ ht => XS.imul X.here hx rfl hd rfl ht) hr
theorem o_iand (X : Stand p l e R s m args below meth c T locs cells slots) (hx : p.tables.exec = Jvm.exec) (n : Nat) {x y : Int32} (hd : decode c.code pc = .ok (.iand, 1)) (hp : pc + 1 = n) (hr : Wout p e below P T (mkF m n Ls (.int (x &&& y) :: rest))) : Wout p e below P T (mkF m pc Ls (.int y :: .int x :: rest)) := by
  subst hp
  exact Wout.of (fun _ ht => XS.iand X.here hx rfl hd rfl ht) hr
theorem o_ior (X : Stand p l e R s m args below meth c T locs cells slots) (hx : p.tables.exec = Jvm.exec) (n : Nat) {x y : Int32} (hd : decode c.code pc = .ok (.ior, 1)) (hp : pc + 1 = n) (hr : Wout p e below P T (mkF m n Ls (.int (x ||| y) :: rest))) : Wout p e below P T (mkF m pc Ls (.int y :: .int x :: rest)) := by
  subst hp
  exact Wout.of (fun _ ht => XT.ior X.here hx rfl hd rfl ht) hr
theorem o_ixor (X : Stand p l e R s m args below meth c T locs cells slots) (hx : p.tables.exec = Jvm.exec) (n : Nat) {x y : Int32} (hd : decode c.code pc = .ok (.ixor, 1)) (hp : pc + 1 = n) (hr : Wout p e below P T (mkF m n Ls (.int (x ^^^ y) :: rest))) : Wout p e below P T (mkF m pc Ls (.int y :: .int x :: rest)) := by
  subst hp
  exact Wout.of (fun _ ht => XT.ixor X.here hx rfl hd rfl ht) hr
theorem o_ishl (X : Stand p l e R s m args below meth c T locs cells slots) (hx : p.tables.exec = Jvm.exec) (n : Nat) {x y : Int32} (hd : decode c.code pc = .ok (.ishl, 1)) (hp : pc + 1 = n) (hr : Wout p e below P T (mkF m n Ls (.int (x <<< (y &&& 31)) :: rest))) : Wout p e below P T (mkF m pc Ls (.int y :: .int x :: rest)) := by
  subst hp
  exact Wout.of (fun _ ht => XT.ishl X.here hx rfl hd rfl ht) hr
theorem o_ishr (X : Stand p l e R s m args below meth c T locs cells slots) (hx : p.tables.exec = Jvm.exec) (n : Nat) {x y : Int32} (hd : decode c.code pc = .ok (.ishr, 1)) (hp : pc + 1 = n) (hr : Wout p e below P T (mkF m n Ls (.int (x >>> (y &&& 31)) :: rest))) : Wout p e below P T (mkF m pc Ls (.int y :: .int x :: rest)) := by
  subst hp
  exact Wout.of (fun _ ht => XT.ishr X.here hx rfl hd rfl ht) hr
theorem o_iushr (X : Stand p l e R s m args below meth c T locs cells slots) (hx : p.tables.exec = Jvm.exec) (n : Nat) {x y : Int32} (hd : decode c.code pc = .ok (.iushr, 1)) (hp : pc + 1 = n) (hr : Wout p e below P T (mkF m n Ls (.int (XT.ushr x y) :: rest))) : Wout p e below P T (mkF m pc Ls (.int y :: .int x :: rest)) := by
  subst hp
  exact Wout.of (fun _ ht => XT.iushr X.here hx rfl hd rfl ht) hr
theorem o_ladd (X : Stand p l e R s m args below meth c T locs cells slots) (hx : p.tables.exec = Jvm.exec) (n : Nat) {x y : Int64} (hd : decode c.code pc = .ok (.ladd, 1)) (hp : pc + 1 = n) (hr : Wout p e below P T (mkF m n Ls (.long (x + y) :: rest))) : Wout p e below P T (mkF m pc Ls (.long y :: .long x :: rest)) := by
  subst hp
  exact Wout.of (fun _ ht => XT.ladd X.here hx rfl hd rfl ht) hr
theorem o_lsub (X : Stand p l e R s m args below meth c T locs cells slots) (hx : p.tables.exec = Jvm.exec) (n : Nat) {x y : Int64} (hd : decode c.code pc = .ok (.lsub, 1)) (hp : pc + 1 = n) (hr : Wout p e below P T (mkF m n Ls (.long (x - y) :: rest))) : Wout p e below P T (mkF m pc Ls (.long y :: .long x :: rest)) := by
  subst hp
  exact Wout.of (fun _ ht => XT.lsub X.here hx rfl hd rfl ht) hr
theorem o_lmul (X : Stand p l e R s m args below meth c T locs cells slots) (hx : p.tables.exec = Jvm.exec) (n : Nat) {x y : Int64} (hd : decode c.code pc = .ok (.lmul, 1)) (hp : pc + 1 = n) (hr : Wout p e below P T (mkF m n Ls (.long (x * y) :: rest))) : Wout p e below P T (mkF m pc Ls (.long y :: .long x :: rest)) := by
  subst hp
  exact Wout.of (fun _ ht => XT.lmul X.here hx rfl hd rfl ht) hr
theorem o_land (X : Stand p l e R s m args below meth c T locs cells slots) (hx : p.tables.exec = Jvm.exec) (n : Nat) {x y : Int64} (hd : decode c.code pc = .ok (.land, 1)) (hp : pc + 1 = n) (hr : Wout p e below P T (mkF m n Ls (.long (x &&& y) :: rest))) : Wout p e below P T (mkF m pc Ls (.long y :: .long x :: rest)) := by
  subst hp
  exact Wout.of (fun _ ht => XT.land X.here hx rfl hd rfl ht) hr
theorem o_lor (X : Stand p l e R s m args below meth c T locs cells slots) (hx : p.tables.exec = Jvm.exec) (n : Nat) {x y : Int64} (hd : decode c.code pc = .ok (.lor, 1)) (hp : pc + 1 = n) (hr : Wout p e below P T (mkF m n Ls (.long (x ||| y) :: rest))) : Wout p e below P T (mkF m pc Ls (.long y :: .long x :: rest)) := by
  subst hp
  exact Wout.of (fun _ ht => XT.lor X.here hx rfl hd rfl ht) hr
theorem o_lxor (X : Stand p l e R s m args below meth c T locs cells slots) (hx : p.tables.exec = Jvm.exec) (n : Nat) {x y : Int64} (hd : decode c.code pc = .ok (.lxor, 1)) (hp : pc + 1 = n) (hr : Wout p e below P T (mkF m n Ls (.long (x ^^^ y) :: rest))) : Wout p e below P T (mkF m pc Ls (.long y :: .long x :: rest)) := by
  subst hp
  exact Wout.of (fun _ ht => XT.lxor X.here hx rfl hd rfl ht) hr
theorem o_irem (X : Stand p l e R s m args below meth c T locs cells slots) (hx : p.tables.exec = Jvm.exec) (n : Nat) {x y : Int32} (hd : decode c.code pc = .ok (.irem, 1)) (hy : y ≠ 0) (hp : pc + 1 = n) (hr : Wout p e below P T (mkF m n Ls (.int (x % y) :: rest))) : Wout p e below P T (mkF m pc Ls (.int y :: .int x :: rest)) := by
  subst hp
  exact Wout.of (fun _ ht => iremM X hx rfl hd rfl hy ht) hr
theorem o_idiv (X : Stand p l e R s m args below meth c T locs cells slots) (hx : p.tables.exec = Jvm.exec) (n : Nat) {x y : Int32} (hd : decode c.code pc = .ok (.idiv, 1)) (hy : y ≠ 0) (hp : pc + 1 = n) (hr : Wout p e below P T (mkF m n Ls (.int (x / y) :: rest))) : Wout p e below P T (mkF m pc Ls (.int y :: .int x :: rest)) := by
  subst hp
  exact Wout.of (fun _ ht => XS.idiv X.here hx rfl hd rfl hy ht) hr
theorem o_lshl (X : Stand p l e R s m args below meth c T locs cells slots) (hx : p.tables.exec = Jvm.exec) (n : Nat) {x : Int64} {y : Int32} (hd : decode c.code pc = .ok (.lshl, 1)) (hp : pc + 1 = n) (hr : Wout p e below P T (mkF m n Ls (.long (x <<< (y.toInt64 &&& 63)) :: rest))) : Wout p e below P T (mkF m pc Ls (.int y :: .long x :: rest)) := by
  subst hp
  exact Wout.of (fun _ ht => XT.lshl X.here hx rfl hd rfl ht) hr
theorem o_lshr (X : Stand p l e R s m args below meth c T locs cells slots) (hx : p.tables.exec = Jvm.exec) (n : Nat) {x : Int64} {y : Int32} (hd : decode c.code pc = .ok (.lshr, 1)) (hp : pc + 1 = n) (hr : Wout p e below P T (mkF m n Ls (.long (x >>> (y.toInt64 &&& 63)) :: rest))) : Wout p e below P T (mkF m pc Ls (.int y :: .long x :: rest)) := by
  subst hp
  exact Wout.of (fun _ ht => XT.lshr X.here hx rfl hd rfl ht) hr
theorem o_lushr (X : Stand p l e R s m args below meth c T locs cells slots) (hx : p.tables.exec = Jvm.exec) (n : Nat) {x : Int64} {y : Int32} (hd : decode c.code pc = .ok (.lushr, 1)) (hp : pc + 1 = n) (hr : Wout p e below P T (mkF m n Ls (.long (XT.ushrL x y) :: rest))) : Wout p e below P T (mkF m pc Ls (.int y :: .long x :: rest)) := by
  subst hp
  exact Wout.of (fun _ ht => XT.lushr X.here hx rfl hd rfl ht) hr
theorem o_ineg (X : Stand p l e R s m args below meth c T locs cells slots) (hx : p.tables.exec = Jvm.exec) (n : Nat) {x : Int32} (hd : decode c.code pc = .ok (.ineg, 1)) (hp : pc + 1 = n) (hr : Wout p e below P T (mkF m n Ls (.int (-x) :: rest))) : Wout p e below P T (mkF m pc Ls (.int x :: rest)) := by
  subst hp
  exact Wout.of (fun _ ht => XS.ineg X.here hx rfl hd rfl ht) hr
theorem o_i2l (X : Stand p l e R s m args below meth c T locs cells slots) (hx : p.tables.exec = Jvm.exec) (n : Nat) {x : Int32} (hd : decode c.code pc = .ok (.i2l, 1)) (hp : pc + 1 = n) (hr : Wout p e below P T (mkF m n Ls (.long (x.toInt64) :: rest))) : Wout p e below P T (mkF m pc Ls (.int x :: rest)) := by
  subst hp
  exact Wout.of (fun _ ht => XT.i2l X.here hx rfl hd rfl ht) hr
theorem o_l2i (X : Stand p l e R s m args below meth c T locs cells slots) (hx : p.tables.exec = Jvm.exec) (n : Nat) {x : Int64} (hd : decode c.code pc = .ok (.l2i, 1)) (hp : pc + 1 = n) (hr : Wout p e below P T (mkF m n Ls (.int (x.toInt32) :: rest))) : Wout p e below P T (mkF m pc Ls (.long x :: rest)) := by
  subst hp
  exact Wout.of (fun _ ht => XT.l2i X.here hx rfl hd rfl ht) hr
theorem o_i2b (X : Stand p l e R s m args below meth c T locs cells slots) (hx : p.tables.exec = Jvm.exec) (n : Nat) {x : Int32} (hd : decode c.code pc = .ok (.i2b, 1)) (hp : pc + 1 = n) (hr : Wout p e below P T (mkF m n Ls (.int (x.toInt8.toInt32) :: rest))) : Wout p e below P T (mkF m pc Ls (.int x :: rest)) := by
  subst hp
  exact Wout.of (fun _ ht => XT.i2b X.here hx rfl hd rfl ht) hr
theorem o_i2c (X : Stand p l e R s m args below meth c T locs cells slots) (hx : p.tables.exec = Jvm.exec) (n : Nat) {x : Int32} (hd : decode c.code pc = .ok (.i2c, 1)) (hp : pc + 1 = n) (hr : Wout p e below P T (mkF m n Ls (.int (x.toUInt32.toUInt16.toUInt32.toInt32) :: rest))) : Wout p e below P T (mkF m pc Ls (.int x :: rest)) := by
  subst hp
  exact Wout.of (fun _ ht => XT.i2c X.here hx rfl hd rfl ht) hr
theorem o_i2s (X : Stand p l e R s m args below meth c T locs cells slots) (hx : p.tables.exec = Jvm.exec) (n : Nat) {x : Int32} (hd : decode c.code pc = .ok (.i2s, 1)) (hp : pc + 1 = n) (hr : Wout p e below P T (mkF m n Ls (.int (x.toInt16.toInt32) :: rest))) : Wout p e below P T (mkF m pc Ls (.int x :: rest)) := by
  subst hp
  exact Wout.of (fun _ ht => XT.i2s X.here hx rfl hd rfl ht) hr
theorem o_lcmp (X : Stand p l e R s m args below meth c T locs cells slots) (hx : p.tables.exec = Jvm.exec) (n : Nat) {x y : Int64} (hd : decode c.code pc = .ok (.lcmp, 1)) (hp : pc + 1 = n) (hr : Wout p e below P T (mkF m n Ls (.int (XT.cmpL x y) :: rest))) : Wout p e below P T (mkF m pc Ls (.long y :: .long x :: rest)) := by
  subst hp
  exact Wout.of (fun _ ht => XT.lcmp X.here hx rfl hd rfl ht) hr
theorem o_dup (X : Stand p l e R s m args below meth c T locs cells slots) (hx : p.tables.exec = Jvm.exec) (n : Nat) {v : Value} (hd : decode c.code pc = .ok (.dup, 1)) (hc : v.category = 1) (hp : pc + 1 = n) (hr : Wout p e below P T (mkF m n Ls (v :: v :: rest))) : Wout p e below P T (mkF m pc Ls (v :: rest)) := by
  subst hp
  exact Wout.of (fun _ ht => XS.dup X.here hx rfl hd rfl hc ht) hr
theorem o_pop (X : Stand p l e R s m args below meth c T locs cells slots) (hx : p.tables.exec = Jvm.exec) (n : Nat) {v : Value} (hd : decode c.code pc = .ok (.pop, 1)) (hc : v.category = 1) (hp : pc + 1 = n) (hr : Wout p e below P T (mkF m n Ls (rest))) : Wout p e below P T (mkF m pc Ls (v :: rest)) := by
  subst hp
  exact Wout.of (fun _ ht => XT.pop X.here hx rfl hd rfl hc ht) hr
theorem o_dup_x1 (X : Stand p l e R s m args below meth c T locs cells slots) (hx : p.tables.exec = Jvm.exec) (n : Nat) {v w : Value} (hd : decode c.code pc = .ok (.dup_x1, 1)) (hc : v.category = 1) (hc' : w.category = 1) (hp : pc + 1 = n) (hr : Wout p e below P T (mkF m n Ls (v :: w :: v :: rest))) : Wout p e below P T (mkF m pc Ls (v :: w :: rest)) := by
  subst hp
  exact Wout.of (fun _ ht => XT.dupX1 X.here hx rfl hd rfl hc hc' ht) hr
theorem o_dup2 (X : Stand p l e R s m args below meth c T locs cells slots) (hx : p.tables.exec = Jvm.exec) (n : Nat) {v w : Value} (hd : decode c.code pc = .ok (.dup2, 1)) (hc : v.category = 1) (hc' : w.category = 1) (hp : pc + 1 = n) (hr : Wout p e below P T (mkF m n Ls (v :: w :: v :: w :: rest))) : Wout p e below P T (mkF m pc Ls (v :: w :: rest)) := by
  subst hp
  exact Wout.of (fun _ ht => XT.dup2 X.here hx rfl hd rfl hc hc' ht) hr
theorem o_iinc (X : Stand p l e R s m args below meth c T locs cells slots) (hx : p.tables.exec = Jvm.exec) (n : Nat) {k : Nat} {i : Int} {x : Int32} {Ls' : Array Slot} (v : Int32) (hd : decode c.code pc = .ok (.iinc k i, 3)) (hv : Int32.ofInt i = v) (hl : Ls[k]? = some (.val (.int x))) (hl' : storeLocals Ls k (.int (x + v)) = some Ls') (hp : pc + 3 = n) (hr : Wout p e below P T (mkF m n Ls' (rest))) : Wout p e below P T (mkF m pc Ls (rest)) := by
  subst hp
  exact Wout.of (fun _ ht => XT.iincV X.here hx rfl v hd hv hl hl' ht) hr
theorem jmp {pc n : Nat} {o : Int} (hp : (pc : Int) + o = (n : Int)) : 0 ≤ (pc : Int) + o ∧ ((pc : Int) + o).toNat = n := by rw [hp]; exact ⟨Int.natCast_nonneg n, Int.toNat_natCast n⟩
theorem o_goto (X : Stand p l e R s m args below meth c T locs cells slots) (hx : p.tables.exec = Jvm.exec) (n : Nat) {o : Int} (hd : decode c.code pc = .ok (.goto o, 3)) (hp : (pc : Int) + o = (n : Int)) (hr : Wout p e below P T (mkF m n Ls rest)) : Wout p e below P T (mkF m pc Ls rest) :=
  Wout.of (fun _ ht => XS.goto X.here hx rfl (pc0 := pc) rfl hd (jmp hp).1 (jmp hp).2 ht) hr
theorem o_ifT (X : Stand p l e R s m args below meth c T locs cells slots) (hx : p.tables.exec = Jvm.exec) (n : Nat) {cd : ClassFile.Cond} {x : Int32} {o : Int} (hd : decode c.code pc = .ok (.ifCond cd o, 3)) (hp : (pc : Int) + o = (n : Int)) (q : cI cd x) (hr : Wout p e below P T (mkF m n Ls rest)) : Wout p e below P T (mkF m pc Ls (.int x :: rest)) :=
  Wout.of (fun _ ht => XS.ifYes X.here hx rfl (pc0 := pc) rfl hd rfl (cI_t q) (jmp hp).1 (jmp hp).2 ht) hr
theorem o_ifF (X : Stand p l e R s m args below meth c T locs cells slots) (hx : p.tables.exec = Jvm.exec) (n : Nat) {cd : ClassFile.Cond} {x : Int32} {o : Int} (hd : decode c.code pc = .ok (.ifCond cd o, 3)) (hp : pc + 3 = n) (q : cI (cNeg cd) x) (hr : Wout p e below P T (mkF m n Ls rest)) : Wout p e below P T (mkF m pc Ls (.int x :: rest)) := by
  subst hp
  exact Wout.of (fun _ ht => XS.ifNo X.here hx rfl hd rfl (cI_f q) ht) hr
theorem o_if (X : Stand p l e R s m args below meth c T locs cells slots) (hx : p.tables.exec = Jvm.exec) (n1 n2 : Nat) {cd : ClassFile.Cond} {x : Int32} {o : Int} (hd : decode c.code pc = .ok (.ifCond cd o, 3)) (hp1 : (pc : Int) + o = (n1 : Int)) (hp2 : pc + 3 = n2) (h1 : cI cd x → Wout p e below P T (mkF m n1 Ls rest)) (h2 : cI (cNeg cd) x → Wout p e below P T (mkF m n2 Ls rest)) : Wout p e below P T (mkF m pc Ls (.int x :: rest)) :=
  (cI_em cd x).elim (fun q => o_ifT X hx n1 hd hp1 q (h1 q)) (fun q => o_ifF X hx n2 hd hp2 q (h2 q))
theorem o_ifLT (X : Stand p l e R s m args below meth c T locs cells slots) (hx : p.tables.exec = Jvm.exec) (n : Nat) {cd : ClassFile.Cond} {x y : Int64} {o : Int} (hd : decode c.code pc = .ok (.ifCond cd o, 3)) (hp : (pc : Int) + o = (n : Int)) (q : cLL cd x y) (hr : Wout p e below P T (mkF m n Ls rest)) : Wout p e below P T (mkF m pc Ls (.int (XT.cmpL x y) :: rest)) :=
  Wout.of (fun _ ht => XS.ifYes X.here hx rfl (pc0 := pc) rfl hd rfl (cLL_t q) (jmp hp).1 (jmp hp).2 ht) hr
theorem o_ifLF (X : Stand p l e R s m args below meth c T locs cells slots) (hx : p.tables.exec = Jvm.exec) (n : Nat) {cd : ClassFile.Cond} {x y : Int64} {o : Int} (hd : decode c.code pc = .ok (.ifCond cd o, 3)) (hp : pc + 3 = n) (q : cLL (cNeg cd) x y) (hr : Wout p e below P T (mkF m n Ls rest)) : Wout p e below P T (mkF m pc Ls (.int (XT.cmpL x y) :: rest)) := by
  subst hp
  exact Wout.of (fun _ ht => XS.ifNo X.here hx rfl hd rfl (cLL_f q) ht) hr
theorem o_ifL (X : Stand p l e R s m args below meth c T locs cells slots) (hx : p.tables.exec = Jvm.exec) (n1 n2 : Nat) {cd : ClassFile.Cond} {x y : Int64} {o : Int} (hd : decode c.code pc = .ok (.ifCond cd o, 3)) (hp1 : (pc : Int) + o = (n1 : Int)) (hp2 : pc + 3 = n2) (h1 : cLL cd x y → Wout p e below P T (mkF m n1 Ls rest)) (h2 : cLL (cNeg cd) x y → Wout p e below P T (mkF m n2 Ls rest)) : Wout p e below P T (mkF m pc Ls (.int (XT.cmpL x y) :: rest)) :=
  (cLL_em cd x y).elim (fun q => o_ifLT X hx n1 hd hp1 q (h1 q)) (fun q => o_ifLF X hx n2 hd hp2 q (h2 q))
theorem o_icmpT (X : Stand p l e R s m args below meth c T locs cells slots) (hx : p.tables.exec = Jvm.exec) (n : Nat) {cd : ClassFile.Cond} {x y : Int32} {o : Int} (hd : decode c.code pc = .ok (.if_icmp cd o, 3)) (hp : (pc : Int) + o = (n : Int)) (q : cII cd x y) (hr : Wout p e below P T (mkF m n Ls rest)) : Wout p e below P T (mkF m pc Ls (.int y :: .int x :: rest)) :=
  Wout.of (fun _ ht => XS.icmpYes X.here hx rfl (pc0 := pc) rfl hd rfl (cII_t q) (jmp hp).1 (jmp hp).2 ht) hr
theorem o_icmpF (X : Stand p l e R s m args below meth c T locs cells slots) (hx : p.tables.exec = Jvm.exec) (n : Nat) {cd : ClassFile.Cond} {x y : Int32} {o : Int} (hd : decode c.code pc = .ok (.if_icmp cd o, 3)) (hp : pc + 3 = n) (q : cII (cNeg cd) x y) (hr : Wout p e below P T (mkF m n Ls rest)) : Wout p e below P T (mkF m pc Ls (.int y :: .int x :: rest)) := by
  subst hp
  exact Wout.of (fun _ ht => XS.icmpNo X.here hx rfl hd rfl (cII_f q) ht) hr
theorem o_icmp (X : Stand p l e R s m args below meth c T locs cells slots) (hx : p.tables.exec = Jvm.exec) (n1 n2 : Nat) {cd : ClassFile.Cond} {x y : Int32} {o : Int} (hd : decode c.code pc = .ok (.if_icmp cd o, 3)) (hp1 : (pc : Int) + o = (n1 : Int)) (hp2 : pc + 3 = n2) (h1 : cII cd x y → Wout p e below P T (mkF m n1 Ls rest)) (h2 : cII (cNeg cd) x y → Wout p e below P T (mkF m n2 Ls rest)) : Wout p e below P T (mkF m pc Ls (.int y :: .int x :: rest)) :=
  (cII_em cd x y).elim (fun q => o_icmpT X hx n1 hd hp1 q (h1 q)) (fun q => o_icmpF X hx n2 hd hp2 q (h2 q))
theorem o_ifnullT (X : Stand p l e R s m args below meth c T locs cells slots) (hx : p.tables.exec = Jvm.exec) (n : Nat) {o : Int} (hd : decode c.code pc = .ok (.ifnull o, 3)) (hp : (pc : Int) + o = (n : Int)) (hr : Wout p e below P T (mkF m n Ls rest)) : Wout p e below P T (mkF m pc Ls (.null :: rest)) :=
  Wout.of (fun _ ht => XS.ifnullYes X.here hx rfl (pc0 := pc) rfl hd rfl (jmp hp).1 (jmp hp).2 ht) hr
theorem o_ifnullF (X : Stand p l e R s m args below meth c T locs cells slots) (hx : p.tables.exec = Jvm.exec) (n : Nat) {o : Int} {a : Addr} (hd : decode c.code pc = .ok (.ifnull o, 3)) (hp : pc + 3 = n) (hr : Wout p e below P T (mkF m n Ls rest)) : Wout p e below P T (mkF m pc Ls (.ref a :: rest)) := by
  subst hp
  exact Wout.of (fun _ ht => XS.ifnullNo X.here hx rfl hd rfl ht) hr
theorem o_ifnonnullT (X : Stand p l e R s m args below meth c T locs cells slots) (hx : p.tables.exec = Jvm.exec) (n : Nat) {o : Int} {a : Addr} (hd : decode c.code pc = .ok (.ifnonnull o, 3)) (hp : (pc : Int) + o = (n : Int)) (hr : Wout p e below P T (mkF m n Ls rest)) : Wout p e below P T (mkF m pc Ls (.ref a :: rest)) :=
  Wout.of (fun _ ht => XT.ifnonnullYes X.here hx rfl (pc0 := pc) rfl hd rfl (jmp hp).1 (jmp hp).2 ht) hr
theorem o_ifnonnullF (X : Stand p l e R s m args below meth c T locs cells slots) (hx : p.tables.exec = Jvm.exec) (n : Nat) {o : Int} (hd : decode c.code pc = .ok (.ifnonnull o, 3)) (hp : pc + 3 = n) (hr : Wout p e below P T (mkF m n Ls rest)) : Wout p e below P T (mkF m pc Ls (.null :: rest)) := by
  subst hp
  exact Wout.of (fun _ ht => XT.ifnonnullNo X.here hx rfl hd rfl ht) hr
theorem o_acmpT (X : Stand p l e R s m args below meth c T locs cells slots) (hx : p.tables.exec = Jvm.exec) (n : Nat) {cd : ClassFile.ACond} {x y : Value} {o : Int} (hd : decode c.code pc = .ok (.if_acmp cd o, 3)) (h1 : x.isRef = true) (h2 : y.isRef = true) (hp : (pc : Int) + o = (n : Int)) (q : XT.acmp cd x y = true) (hr : Wout p e below P T (mkF m n Ls rest)) : Wout p e below P T (mkF m pc Ls (y :: x :: rest)) :=
  Wout.of (fun _ ht => XT.acmpYes X.here hx rfl (pc0 := pc) rfl hd rfl h1 h2 q (jmp hp).1 (jmp hp).2 ht) hr
theorem o_acmpF (X : Stand p l e R s m args below meth c T locs cells slots) (hx : p.tables.exec = Jvm.exec) (n : Nat) {cd : ClassFile.ACond} {x y : Value} {o : Int} (hd : decode c.code pc = .ok (.if_acmp cd o, 3)) (h1 : x.isRef = true) (h2 : y.isRef = true) (hp : pc + 3 = n) (q : XT.acmp cd x y = false) (hr : Wout p e below P T (mkF m n Ls rest)) : Wout p e below P T (mkF m pc Ls (y :: x :: rest)) := by
  subst hp
  exact Wout.of (fun _ ht => XT.acmpNo X.here hx rfl hd rfl h1 h2 q ht) hr
theorem o_tsw (X : Stand p l e R s m args below meth c T locs cells slots) (hx : p.tables.exec = Jvm.exec) (n : Nat) {dflt low high : Int} {offs : Array Int} {len : Nat} {o : Int} {i : Int32} (hd : decode c.code pc = .ok (.tableswitch dflt low high offs, len)) (hin : ¬ (i.toInt < low ∨ i.toInt > high)) (hoff : offs[(i.toInt - low).toNat]? = some o) (hp : (pc : Int) + o = (n : Int)) (hr : Wout p e below P T (mkF m n Ls rest)) : Wout p e below P T (mkF m pc Ls (.int i :: rest)) :=
  Wout.of (fun _ ht => XS.tswIn X.here hx rfl (pc0 := pc) rfl hd rfl hin hoff (jmp hp).1 (jmp hp).2 ht) hr
/-! constants of the pool, fields, statics -/
theorem o_ldc (X : Stand p l e R s m args below meth c T locs cells slots) (hx : p.tables.exec = Jvm.exec) (hZ : Z.Warmed39 s.vm) (n : Nat) {own : String} {index : Nat} {v : Int32} (hown : s.vm.findClass own = some m.cls) (w : (Jvm.Cond.constant own index v).before a0 Z = true) (hd : decode c.code pc = .ok (.ldc index, 2)) (hp : pc + 2 = n) (hr : Wout p e below P T (mkF m n Ls (.int v :: rest))) : Wout p e below P T (mkF m pc Ls rest) := by
  subst hp
  exact Wout.of (fun _ ht => X.ldcI hx hown (mv hZ w) rfl hd ht) hr
theorem o_ldc2 (X : Stand p l e R s m args below meth c T locs cells slots) (hx : p.tables.exec = Jvm.exec) (hZ : Z.Warmed39 s.vm) (n : Nat) {own : String} {index : Nat} {v : Int64} (hown : s.vm.findClass own = some m.cls) (w : (Jvm.Cond.constantLong own index v).before a0 Z = true) (hd : decode c.code pc = .ok (.ldc2_w index, 3)) (hp : pc + 3 = n) (hr : Wout p e below P T (mkF m n Ls (.long v :: rest))) : Wout p e below P T (mkF m pc Ls rest) := by
  subst hp
  exact Wout.of (fun _ ht => X.ldc2J hx hown (mv hZ w) rfl hd ht) hr
theorem o_getF (X : Stand p l e R s m args below meth c T locs cells slots) (hx : p.tables.exec = Jvm.exec) (hZ : Z.Warmed39 s.vm) {own R0 O nm d host : String} {index : Nat} (hown : s.vm.findClass own = some m.cls) (w : (Jvm.Cond.fieldLink own index R0 nm d).before a0 Z = true ∨ (Jvm.Cond.fieldLinkNest own index R0 nm d host).before a0 Z = true) (via : Via Z R0 O nm d) (eT : T.heap = h) {a : Addr} {v : Value} (F : Fld Z h a O nm d v) (n : Nat) (hd : decode c.code pc = .ok (.getfield index, 3)) (hp : pc + 3 = n)
    (hr : ∀ T', Stand p l e R s m args below meth c T' locs cells slots → T'.heap = h → Wout p e below P T' (mkF m n Ls (v :: rest))) : Wout p e below P T (mkF m pc Ls (.ref a :: rest)) := by
  subst hp
  obtain ⟨T', X', e', st⟩ := getF X hx hZ hown w via eT F (g := mkF m pc Ls (.ref a :: rest)) rfl rfl hd
  exact Wout.of st (hr T' X' e')
theorem o_getS (X : Stand p l e R s m args below meth c T locs cells slots) (hx : p.tables.exec = Jvm.exec) (hZ : Z.Warmed39 s.vm) {own R0 O nm d host : String} {index : Nat} (hown : s.vm.findClass own = some m.cls) (w : (Jvm.Cond.fieldLink own index R0 nm d).before a0 Z = true ∨ (Jvm.Cond.fieldLinkNest own index R0 nm d host).before a0 Z = true) (via : Via Z R0 O nm d) (eT : T.heap = h) {v : Value} (F : Sta Z h O nm d v) (n : Nat) (hd : decode c.code pc = .ok (.getstatic index, 3)) (hp : pc + 3 = n)
    (hr : ∀ T', Stand p l e R s m args below meth c T' locs cells slots → T'.heap = h → Wout p e below P T' (mkF m n Ls (v :: rest))) : Wout p e below P T (mkF m pc Ls rest) := by
  subst hp
  obtain ⟨T', X', e', st⟩ := getS2 X hx hZ hown w via eT F (g := mkF m pc Ls rest) rfl hd
  exact Wout.of st (hr T' X' e')
theorem o_putF (X : Stand p l e R s m args below meth c T locs cells slots) (hx : p.tables.exec = Jvm.exec) (hZ : Z.Warmed39 s.vm) {own R0 O nm d host C : String} {index kk : Nat} (ty : FieldType) (hown : s.vm.findClass own = some m.cls) (w : (Jvm.Cond.fieldLink own index R0 nm d).before a0 Z = true ∨ (Jvm.Cond.fieldLinkNest own index R0 nm d host).before a0 Z = true) (via : Via Z R0 O nm d) (eT : T.heap = h) {a : Addr} {v old : Value} (F : Fld Z h a O nm d old) (E : Exa Z h a C)
    (L : (Jvm.Cond.lays C O nm d).before a0 Z = true ∨ ((Jvm.Cond.laysFinal C O nm d).before a0 Z = true ∧ own = O ∧ meth.name = "<init>")) (wi : (Jvm.Cond.instantiable C kk).before a0 Z = true) (hty : parseFieldDescriptor d = some ty) (hn : Jvm.narrow ty v = v) (hf : fits ty v = true) {n0 : Nat} (N : Fr n0 locs) (g : n0 ≤ a) (n : Nat) (hd : decode c.code pc = .ok (.putfield index, 3)) (hp : pc + 3 = n)
    (hr : ∀ T' h' locs', Stand p l e R s m args below meth c T' locs' cells slots → T'.heap = h' → Wr h h' a (RoadKit.slotOf Z O nm d) v → Fr n0 locs' → Wout p e below P T' (mkF m n Ls rest)) : Wout p e below P T (mkF m pc Ls (v :: .ref a :: rest)) := by
  subst hp
  obtain ⟨T', h', X', e', W, st⟩ := putF X hx hZ hown w via eT F E L wi hty hn hf (g := mkF m pc Ls (v :: .ref a :: rest)) rfl rfl hd
  exact Wout.of st (hr T' h' _ X' e' W (Fr.snoc X' N g))
theorem o_putFN (X : Stand p l e R s m args below meth c T locs cells slots) (hx : p.tables.exec = Jvm.exec) (hZ : Z.Warmed39 s.vm) {own R0 O nm d C : String} {index kk : Nat} (ty : FieldType) (hown : s.vm.findClass own = some m.cls) (w : (Jvm.Cond.fieldLink own index R0 nm d).before a0 Z = true) (via : Via Z R0 O nm d) (eT : T.heap = h) {a : Addr} {v v' old : Value} (F : Fld Z h a O nm d old) (E : Exa Z h a C)
    (L : (Jvm.Cond.lays C O nm d).before a0 Z = true ∨ ((Jvm.Cond.laysFinal C O nm d).before a0 Z = true ∧ own = O ∧ meth.name = "<init>")) (wi : (Jvm.Cond.instantiable C kk).before a0 Z = true) (hty : parseFieldDescriptor d = some ty) (hn : Jvm.narrow ty v = v') (hf : fits ty v' = true) {n0 : Nat} (N : Fr n0 locs) (g : n0 ≤ a) (n : Nat) (hd : decode c.code pc = .ok (.putfield index, 3)) (hp : pc + 3 = n)
    (hr : ∀ T' h' locs', Stand p l e R s m args below meth c T' locs' cells slots → T'.heap = h' → Wr h h' a (RoadKit.slotOf Z O nm d) v' → Fr n0 locs' → Wout p e below P T' (mkF m n Ls rest)) : Wout p e below P T (mkF m pc Ls (v :: .ref a :: rest)) := by
  subst hp
  obtain ⟨T', h', X', e', W, st⟩ := putFN X hx hZ hown w via eT F E L wi hty hn hf (g := mkF m pc Ls (v :: .ref a :: rest)) rfl rfl hd
  exact Wout.of st (hr T' h' _ X' e' W (Fr.snoc X' N g))
/-! objects and arrays that are made -/
theorem o_new (X : Stand p l e R s m args below meth c T locs cells slots) (hx : p.tables.exec = Jvm.exec) (hZ : Z.Warmed39 s.vm) {own C : String} {index k : Nat} (hown : s.vm.findClass own = some m.cls) (w : (Jvm.Cond.classLink own index C).before a0 Z = true) (wi : (Jvm.Cond.instantiable C k).before a0 Z = true) (wz : (Jvm.Cond.initialized C).before a0 Z = true) (eT : T.heap = h) (n : Nat) (hd : decode c.code pc = .ok (.new index, 3)) (hp : pc + 3 = n) (hc : cells + 1 ≤ R.cells) (hl : slots + k ≤ R.slots)
    (hr : ∀ T' h' (b : Addr), b = h.size → Stand p l e R s m args below meth c T' locs (cells + 1) (slots + k) → T'.heap = h' → Ext h h' → Exa Z h' b C → (∀ {O nm d : String} {ty : FieldType}, Laid Z a0 C O nm d → parseFieldDescriptor d = some ty → Fld Z h' b O nm d (defaultValue ty)) → Wout p e below P T' (mkF m n Ls (.ref b :: rest))) : Wout p e below P T (mkF m pc Ls rest) := by
  subst hp
  obtain ⟨T', h', X', e', E, A, D, -, st⟩ := newO X hx hZ hown w wi wz eT (g := mkF m pc Ls rest) rfl hd hc hl
  exact Wout.of st (hr T' h' _ rfl X' e' E A D)
theorem o_newarray (X : Stand p l e R s m args below meth c T locs cells slots) (hx : p.tables.exec = Jvm.exec) (hZ : Z.Warmed39 s.vm) {aty : ArrayType} (w : (Jvm.Cond.arrayClass (newarray.typeOf aty)).before a0 Z = true) (eT : T.heap = h) (n : Nat) (hd : decode c.code pc = .ok (.newarray aty, 2)) (hp : pc + 2 = n) {z : Int32} (hz : ¬ z < 0) (cap : Nat) (hcap : z.toNatClampNeg ≤ cap) (hbb : cap * 8 ≤ 536870912) (hc : cells + 1 ≤ R.cells) (hl : slots + cap ≤ R.slots)
    (hr : ∀ T' h' (b : Addr) (k : ClassId), b = h.size → Stand p l e R s m args below meth c T' locs (cells + 1) (slots + cap) → T'.heap = h' → Ext h h' → Arv Z h' b k (newarray.typeOf aty) z [] (defaultValue (newarray.typeOf aty)) → Wout p e below P T' (mkF m n Ls (.ref b :: rest))) : Wout p e below P T (mkF m pc Ls (.int z :: rest)) := by
  subst hp
  obtain ⟨T', h', cA, X', e', E, A, st⟩ := newP X hx hZ w eT (g := mkF m pc Ls (.int z :: rest)) rfl hd rfl hz hcap hbb hc hl
  exact Wout.of st (hr T' h' _ cA rfl X' e' E (Arv.new A hz))
theorem o_anewarray (X : Stand p l e R s m args below meth c T locs cells slots) (hx : p.tables.exec = Jvm.exec) (hZ : Z.Warmed39 s.vm) {own C : String} {index : Nat} (hown : s.vm.findClass own = some m.cls) (w1 : (Jvm.Cond.classLink own index C).before a0 Z = true) (w2 : (Jvm.Cond.arrayOver (.object C)).before a0 Z = true) (eT : T.heap = h) (n : Nat) (hd : decode c.code pc = .ok (.anewarray index, 3)) (hp : pc + 3 = n) {z : Int32} (hz : ¬ z < 0) (cap : Nat) (hcap : z.toNatClampNeg ≤ cap) (hbb : cap * 8 ≤ 536870912) (hc : cells + 1 ≤ R.cells) (hl : slots + cap ≤ R.slots)
    (hr : ∀ T' h' (b : Addr) (k : ClassId), b = h.size → Stand p l e R s m args below meth c T' locs (cells + 1) (slots + cap) → T'.heap = h' → Ext h h' → Arv Z h' b k (.object C) z [] .null → Ovr Z k C → Wout p e below P T' (mkF m n Ls (.ref b :: rest))) : Wout p e below P T (mkF m pc Ls (.int z :: rest)) := by
  subst hp
  obtain ⟨T', h', cA, X', e', E, A, O, st⟩ := newR X hx hZ hown w1 w2 eT (g := mkF m pc Ls (.int z :: rest)) rfl hd rfl hz hcap hbb hc hl
  exact Wout.of st (hr T' h' _ cA rfl X' e' E (Arv.new A hz) O)
theorem o_arraylength (X : Stand p l e R s m args below meth c T locs cells slots) (hx : p.tables.exec = Jvm.exec) (hZ : Z.Warmed39 s.vm) (eT : T.heap = h) {a : Addr} {k : ClassId} {ty : FieldType} {z : Int32} {vs : List Value} {dv : Value} (V : Arv Z h a k ty z vs dv) (n : Nat) (hd : decode c.code pc = .ok (.arraylength, 1)) (hp : pc + 1 = n) (hr : Wout p e below P T (mkF m n Ls (.int z :: rest))) : Wout p e below P T (mkF m pc Ls (.ref a :: rest)) := by
  subst hp
  obtain ⟨cl, A, -, S, M, -, -⟩ := V
  rw [← len_of S M] at hr
  exact Wout.of (fun _ ht => X.arraylength hx (cell := cl) (by rw [eT]; exact A.1) (State.isArrayOf_alike hZ.alike A.2.1) (g := mkF m pc Ls (.ref a :: rest)) rfl rfl hd _ ht) hr

theorem o_iaload (X : Stand p l e R s m args below meth c T locs cells slots) (hx : p.tables.exec = Jvm.exec) (hZ : Z.Warmed39 s.vm) (eT : T.heap = h) {a : Addr} {k : ClassId} {z : Int32} {vs : List Value} {dv : Value} (V : Arv Z h a k .int z vs dv) {j : Int32} (hj : ¬ j < 0 ∧ j < z) {v : Value} (hv : vs.getD j.toNatClampNeg dv = v) (n : Nat) (hd : decode c.code pc = .ok (.iaload, 1)) (hp : pc + 1 = n) (hr : Wout p e below P T (mkF m n Ls (v :: rest))) : Wout p e below P T (mkF m pc Ls (.int j :: .ref a :: rest)) := by
  subst hp
  obtain ⟨cl, A, -, S, M, H, -⟩ := V
  exact Wout.of (fun _ ht => X.iaload hx (j := j) (v := v) (by rw [eT]; exact A.1) (State.isArrayOf_alike hZ.alike A.2.1) A.2.2 (inb_of S hj) (H.at (inb_of S hj) hv) (g := mkF m pc Ls (.int j :: .ref a :: rest)) rfl rfl hd _ ht) hr
theorem o_laload (X : Stand p l e R s m args below meth c T locs cells slots) (hx : p.tables.exec = Jvm.exec) (hZ : Z.Warmed39 s.vm) (eT : T.heap = h) {a : Addr} {k : ClassId} {z : Int32} {vs : List Value} {dv : Value} (V : Arv Z h a k .long z vs dv) {j : Int32} (hj : ¬ j < 0 ∧ j < z) {v : Value} (hv : vs.getD j.toNatClampNeg dv = v) (n : Nat) (hd : decode c.code pc = .ok (.laload, 1)) (hp : pc + 1 = n) (hr : Wout p e below P T (mkF m n Ls (v :: rest))) : Wout p e below P T (mkF m pc Ls (.int j :: .ref a :: rest)) := by
  subst hp
  obtain ⟨cl, A, -, S, M, H, -⟩ := V
  exact Wout.of (fun _ ht => X.laload hx (j := j) (v := v) (by rw [eT]; exact A.1) (State.isArrayOf_alike hZ.alike A.2.1) A.2.2 (inb_of S hj) (H.at (inb_of S hj) hv) (g := mkF m pc Ls (.int j :: .ref a :: rest)) rfl rfl hd _ ht) hr
theorem o_caload (X : Stand p l e R s m args below meth c T locs cells slots) (hx : p.tables.exec = Jvm.exec) (hZ : Z.Warmed39 s.vm) (eT : T.heap = h) {a : Addr} {k : ClassId} {z : Int32} {vs : List Value} {dv : Value} (V : Arv Z h a k .char z vs dv) {j : Int32} (hj : ¬ j < 0 ∧ j < z) {v : Value} (hv : vs.getD j.toNatClampNeg dv = v) (n : Nat) (hd : decode c.code pc = .ok (.caload, 1)) (hp : pc + 1 = n) (hr : Wout p e below P T (mkF m n Ls (v :: rest))) : Wout p e below P T (mkF m pc Ls (.int j :: .ref a :: rest)) := by
  subst hp
  obtain ⟨cl, A, -, S, M, H, -⟩ := V
  exact Wout.of (fun _ ht => X.caload hx (j := j) (v := v) (by rw [eT]; exact A.1) (State.isArrayOf_alike hZ.alike A.2.1) A.2.2 (inb_of S hj) (H.at (inb_of S hj) hv) (g := mkF m pc Ls (.int j :: .ref a :: rest)) rfl rfl hd _ ht) hr
theorem o_saload (X : Stand p l e R s m args below meth c T locs cells slots) (hx : p.tables.exec = Jvm.exec) (hZ : Z.Warmed39 s.vm) (eT : T.heap = h) {a : Addr} {k : ClassId} {z : Int32} {vs : List Value} {dv : Value} (V : Arv Z h a k .short z vs dv) {j : Int32} (hj : ¬ j < 0 ∧ j < z) {v : Value} (hv : vs.getD j.toNatClampNeg dv = v) (n : Nat) (hd : decode c.code pc = .ok (.saload, 1)) (hp : pc + 1 = n) (hr : Wout p e below P T (mkF m n Ls (v :: rest))) : Wout p e below P T (mkF m pc Ls (.int j :: .ref a :: rest)) := by
  subst hp
  obtain ⟨cl, A, -, S, M, H, -⟩ := V
  exact Wout.of (fun _ ht => X.saload hx (j := j) (v := v) (by rw [eT]; exact A.1) (State.isArrayOf_alike hZ.alike A.2.1) A.2.2 (inb_of S hj) (H.at (inb_of S hj) hv) (g := mkF m pc Ls (.int j :: .ref a :: rest)) rfl rfl hd _ ht) hr
theorem o_baload (X : Stand p l e R s m args below meth c T locs cells slots) (hx : p.tables.exec = Jvm.exec) (hZ : Z.Warmed39 s.vm) (eT : T.heap = h) {a : Addr} {k : ClassId} {z : Int32} {vs : List Value} {dv : Value} (V : Arv Z h a k .byte z vs dv) {j : Int32} (hj : ¬ j < 0 ∧ j < z) {v : Value} (hv : vs.getD j.toNatClampNeg dv = v) (n : Nat) (hd : decode c.code pc = .ok (.baload, 1)) (hp : pc + 1 = n) (hr : Wout p e below P T (mkF m n Ls (v :: rest))) : Wout p e below P T (mkF m pc Ls (.int j :: .ref a :: rest)) := by
  subst hp
  obtain ⟨cl, A, -, S, M, H, -⟩ := V
  exact Wout.of (fun _ ht => X.baloadBytes hx (j := j) (v := v) (by rw [eT]; exact A.1) (State.isArrayOf_alike hZ.alike A.2.1) A.2.2 (inb_of S hj) (H.at (inb_of S hj) hv) (g := mkF m pc Ls (.int j :: .ref a :: rest)) rfl rfl hd _ ht) hr
theorem o_baloadZ (X : Stand p l e R s m args below meth c T locs cells slots) (hx : p.tables.exec = Jvm.exec) (hZ : Z.Warmed39 s.vm) (eT : T.heap = h) {a : Addr} {k : ClassId} {z : Int32} {vs : List Value} {dv : Value} (V : Arv Z h a k .boolean z vs dv) {j : Int32} (hj : ¬ j < 0 ∧ j < z) {v : Value} (hv : vs.getD j.toNatClampNeg dv = v) (n : Nat) (hd : decode c.code pc = .ok (.baload, 1)) (hp : pc + 1 = n) (hr : Wout p e below P T (mkF m n Ls (v :: rest))) : Wout p e below P T (mkF m pc Ls (.int j :: .ref a :: rest)) := by
  subst hp
  obtain ⟨cl, A, -, S, M, H, -⟩ := V
  exact Wout.of (fun _ ht => X.baloadBooleans hx (j := j) (v := v) (by rw [eT]; exact A.1) (State.isArrayOf_alike hZ.alike A.2.1) A.2.2 (inb_of S hj) (H.at (inb_of S hj) hv) (g := mkF m pc Ls (.int j :: .ref a :: rest)) rfl rfl hd _ ht) hr
theorem o_aaload (X : Stand p l e R s m args below meth c T locs cells slots) (hx : p.tables.exec = Jvm.exec) (hZ : Z.Warmed39 s.vm) (eT : T.heap = h) {a : Addr} {k : ClassId} {ty : FieldType} {z : Int32} {vs : List Value} {dv : Value} (V : Arv Z h a k ty z vs dv) (hty : ty.isReference = true) {j : Int32} (hj : ¬ j < 0 ∧ j < z) {v : Value} (hv : vs.getD j.toNatClampNeg dv = v) (n : Nat) (hd : decode c.code pc = .ok (.aaload, 1)) (hp : pc + 1 = n) (hr : Wout p e below P T (mkF m n Ls (v :: rest))) : Wout p e below P T (mkF m pc Ls (.int j :: .ref a :: rest)) := by
  subst hp
  obtain ⟨cl, A, -, S, M, H, -⟩ := V
  exact Wout.of (fun _ ht => X.aaload hx (j := j) (v := v) (by rw [eT]; exact A.1) (State.isArrayOf_alike hZ.alike A.2.1) hty A.2.2 (inb_of S hj) (H.at (inb_of S hj) hv) (g := mkF m pc Ls (.int j :: .ref a :: rest)) rfl rfl hd _ ht) hr
theorem o_iastore (X : Stand p l e R s m args below meth c T locs cells slots) (hx : p.tables.exec = Jvm.exec) (hZ : Z.Warmed39 s.vm) (eT : T.heap = h) {a : Addr} {k : ClassId} {z : Int32} {vs : List Value} {dv : Value} (V : Arv Z h a k .int z vs dv) {j : Int32} {x : Int32} (hj : ¬ j < 0 ∧ j < z) (i : Nat) (hi : j.toNatClampNeg = i) (hil : i < vs.length) {vs' : List Value} (hvs : vs.set i (.int x) = vs') {n0 : Nat} (N : Fr n0 locs) (g : n0 ≤ a) (n : Nat) (hd : decode c.code pc = .ok (.iastore, 1)) (hp : pc + 1 = n)
    (hr : ∀ T' h' locs', Stand p l e R s m args below meth c T' locs' cells slots → T'.heap = h' → Wr h h' a i (.int x) → Arv Z h' a k .int z vs' dv → Fr n0 locs' → Wout p e below P T' (mkF m n Ls rest)) : Wout p e below P T (mkF m pc Ls (.int x :: .int j :: .ref a :: rest)) := by
  subst hp hvs
  obtain ⟨cl, A, q1, S, M, H, G⟩ := V
  obtain ⟨T', h', X', e', W, st⟩ := stI X hx hZ eT A (j := j) (x := x) (inb_of S hj) (g := mkF m pc Ls (.int x :: .int j :: .ref a :: rest)) rfl rfl hd
  exact Wout.of st (hr T' h' _ X' e' (hi ▸ W) (Arv.set A q1 S M H G (rfl) W i hi hil) (Fr.snoc X' N g))
theorem o_lastore (X : Stand p l e R s m args below meth c T locs cells slots) (hx : p.tables.exec = Jvm.exec) (hZ : Z.Warmed39 s.vm) (eT : T.heap = h) {a : Addr} {k : ClassId} {z : Int32} {vs : List Value} {dv : Value} (V : Arv Z h a k .long z vs dv) {j : Int32} {x : Int64} (hj : ¬ j < 0 ∧ j < z) (i : Nat) (hi : j.toNatClampNeg = i) (hil : i < vs.length) {vs' : List Value} (hvs : vs.set i (.long x) = vs') {n0 : Nat} (N : Fr n0 locs) (g : n0 ≤ a) (n : Nat) (hd : decode c.code pc = .ok (.lastore, 1)) (hp : pc + 1 = n)
    (hr : ∀ T' h' locs', Stand p l e R s m args below meth c T' locs' cells slots → T'.heap = h' → Wr h h' a i (.long x) → Arv Z h' a k .long z vs' dv → Fr n0 locs' → Wout p e below P T' (mkF m n Ls rest)) : Wout p e below P T (mkF m pc Ls (.long x :: .int j :: .ref a :: rest)) := by
  subst hp hvs
  obtain ⟨cl, A, q1, S, M, H, G⟩ := V
  obtain ⟨T', h', X', e', W, st⟩ := stJ X hx hZ eT A (j := j) (x := x) (inb_of S hj) (g := mkF m pc Ls (.long x :: .int j :: .ref a :: rest)) rfl rfl hd
  exact Wout.of st (hr T' h' _ X' e' (hi ▸ W) (Arv.set A q1 S M H G (rfl) W i hi hil) (Fr.snoc X' N g))
theorem o_castore (X : Stand p l e R s m args below meth c T locs cells slots) (hx : p.tables.exec = Jvm.exec) (hZ : Z.Warmed39 s.vm) (eT : T.heap = h) {a : Addr} {k : ClassId} {z : Int32} {vs : List Value} {dv : Value} (V : Arv Z h a k .char z vs dv) {j : Int32} {x : Int32} (hj : ¬ j < 0 ∧ j < z) (i : Nat) (hi : j.toNatClampNeg = i) (hil : i < vs.length) {vs' : List Value} (hvs : vs.set i (.int (nar .char x)) = vs') {n0 : Nat} (N : Fr n0 locs) (g : n0 ≤ a) (n : Nat) (hd : decode c.code pc = .ok (.castore, 1)) (hp : pc + 1 = n)
    (hr : ∀ T' h' locs', Stand p l e R s m args below meth c T' locs' cells slots → T'.heap = h' → Wr h h' a i (.int (nar .char x)) → Arv Z h' a k .char z vs' dv → Fr n0 locs' → Wout p e below P T' (mkF m n Ls rest)) : Wout p e below P T (mkF m pc Ls (.int x :: .int j :: .ref a :: rest)) := by
  subst hp hvs
  obtain ⟨cl, A, q1, S, M, H, G⟩ := V
  obtain ⟨T', h', X', e', W, st⟩ := stC X hx hZ eT A (j := j) (x := x) (inb_of S hj) (g := mkF m pc Ls (.int x :: .int j :: .ref a :: rest)) rfl rfl hd
  exact Wout.of st (hr T' h' _ X' e' (hi ▸ W) (Arv.set A q1 S M H G (fits_nar_char x) W i hi hil) (Fr.snoc X' N g))
theorem o_sastore (X : Stand p l e R s m args below meth c T locs cells slots) (hx : p.tables.exec = Jvm.exec) (hZ : Z.Warmed39 s.vm) (eT : T.heap = h) {a : Addr} {k : ClassId} {z : Int32} {vs : List Value} {dv : Value} (V : Arv Z h a k .short z vs dv) {j : Int32} {x : Int32} (hj : ¬ j < 0 ∧ j < z) (i : Nat) (hi : j.toNatClampNeg = i) (hil : i < vs.length) {vs' : List Value} (hvs : vs.set i (.int (nar .short x)) = vs') {n0 : Nat} (N : Fr n0 locs) (g : n0 ≤ a) (n : Nat) (hd : decode c.code pc = .ok (.sastore, 1)) (hp : pc + 1 = n)
    (hr : ∀ T' h' locs', Stand p l e R s m args below meth c T' locs' cells slots → T'.heap = h' → Wr h h' a i (.int (nar .short x)) → Arv Z h' a k .short z vs' dv → Fr n0 locs' → Wout p e below P T' (mkF m n Ls rest)) : Wout p e below P T (mkF m pc Ls (.int x :: .int j :: .ref a :: rest)) := by
  subst hp hvs
  obtain ⟨cl, A, q1, S, M, H, G⟩ := V
  obtain ⟨T', h', X', e', W, st⟩ := stS X hx hZ eT A (j := j) (x := x) (inb_of S hj) (g := mkF m pc Ls (.int x :: .int j :: .ref a :: rest)) rfl rfl hd
  exact Wout.of st (hr T' h' _ X' e' (hi ▸ W) (Arv.set A q1 S M H G (fits_nar_short x) W i hi hil) (Fr.snoc X' N g))
theorem o_bastore (X : Stand p l e R s m args below meth c T locs cells slots) (hx : p.tables.exec = Jvm.exec) (hZ : Z.Warmed39 s.vm) (eT : T.heap = h) {a : Addr} {k : ClassId} {z : Int32} {vs : List Value} {dv : Value} (V : Arv Z h a k .byte z vs dv) {j : Int32} {x : Int32} (hj : ¬ j < 0 ∧ j < z) (i : Nat) (hi : j.toNatClampNeg = i) (hil : i < vs.length) {vs' : List Value} (hvs : vs.set i (.int (nar .byte x)) = vs') {n0 : Nat} (N : Fr n0 locs) (g : n0 ≤ a) (n : Nat) (hd : decode c.code pc = .ok (.bastore, 1)) (hp : pc + 1 = n)
    (hr : ∀ T' h' locs', Stand p l e R s m args below meth c T' locs' cells slots → T'.heap = h' → Wr h h' a i (.int (nar .byte x)) → Arv Z h' a k .byte z vs' dv → Fr n0 locs' → Wout p e below P T' (mkF m n Ls rest)) : Wout p e below P T (mkF m pc Ls (.int x :: .int j :: .ref a :: rest)) := by
  subst hp hvs
  obtain ⟨cl, A, q1, S, M, H, G⟩ := V
  obtain ⟨T', h', X', e', W, st⟩ := stB X hx hZ eT A (j := j) (x := x) (inb_of S hj) (g := mkF m pc Ls (.int x :: .int j :: .ref a :: rest)) rfl rfl hd
  exact Wout.of st (hr T' h' _ X' e' (hi ▸ W) (Arv.set A q1 S M H G (fits_nar_byte x) W i hi hil) (Fr.snoc X' N g))
theorem o_bastoreZ (X : Stand p l e R s m args below meth c T locs cells slots) (hx : p.tables.exec = Jvm.exec) (hZ : Z.Warmed39 s.vm) (eT : T.heap = h) {a : Addr} {k : ClassId} {z : Int32} {vs : List Value} {dv : Value} (V : Arv Z h a k .boolean z vs dv) {j : Int32} {x : Int32} (hj : ¬ j < 0 ∧ j < z) (i : Nat) (hi : j.toNatClampNeg = i) (hil : i < vs.length) {vs' : List Value} (hvs : vs.set i (.int (nar .boolean x)) = vs') {n0 : Nat} (N : Fr n0 locs) (g : n0 ≤ a) (n : Nat) (hd : decode c.code pc = .ok (.bastore, 1)) (hp : pc + 1 = n)
    (hr : ∀ T' h' locs', Stand p l e R s m args below meth c T' locs' cells slots → T'.heap = h' → Wr h h' a i (.int (nar .boolean x)) → Arv Z h' a k .boolean z vs' dv → Fr n0 locs' → Wout p e below P T' (mkF m n Ls rest)) : Wout p e below P T (mkF m pc Ls (.int x :: .int j :: .ref a :: rest)) := by
  subst hp hvs
  obtain ⟨cl, A, q1, S, M, H, G⟩ := V
  obtain ⟨T', h', X', e', W, st⟩ := stZ X hx hZ eT A (j := j) (x := x) (inb_of S hj) (g := mkF m pc Ls (.int x :: .int j :: .ref a :: rest)) rfl rfl hd
  exact Wout.of st (hr T' h' _ X' e' (hi ▸ W) (Arv.set A q1 S M H G (fits_nar_bool x) W i hi hil) (Fr.snoc X' N g))
theorem o_aastore (X : Stand p l e R s m args below meth c T locs cells slots) (hx : p.tables.exec = Jvm.exec) (hZ : Z.Warmed39 s.vm) (eT : T.heap = h) {a : Addr} {k : ClassId} {ty : FieldType} {z : Int32} {vs : List Value} {dv : Value} (V : Arv Z h a k ty z vs dv) (hty : ty.isReference = true) {j : Int32} {v : Value} (hj : ¬ j < 0 ∧ j < z) (i : Nat) (hi : j.toNatClampNeg = i) (hil : i < vs.length) {vs' : List Value} (hvs : vs.set i v = vs') (hfit : fits ty v = true) (Fs : Sto Z h a v) {n0 : Nat} (N : Fr n0 locs) (g : n0 ≤ a) (n : Nat) (hd : decode c.code pc = .ok (.aastore, 1)) (hp : pc + 1 = n)
    (hr : ∀ T' h' locs', Stand p l e R s m args below meth c T' locs' cells slots → T'.heap = h' → Wr h h' a i v → Arv Z h' a k ty z vs' dv → Fr n0 locs' → Wout p e below P T' (mkF m n Ls rest)) : Wout p e below P T (mkF m pc Ls (v :: .int j :: .ref a :: rest)) := by
  subst hp hvs
  obtain ⟨cl, A, q1, S, M, H, G⟩ := V
  obtain ⟨T', h', X', e', W, st⟩ := stR X hx hZ eT A (j := j) (v := v) (inb_of S hj) hty Fs (g := mkF m pc Ls (v :: .int j :: .ref a :: rest)) rfl rfl hd
  exact Wout.of st (hr T' h' _ X' e' (hi ▸ W) (Arv.set A q1 S M H G hfit W i hi hil) (Fr.snoc X' N g))
theorem Sto.arv {a y : Addr} {k : ClassId} {ty : FieldType} {z : Int32} {vs : List Value} {dv : Value} {C : String} (V : Arv Z h a k ty z vs dv) (O : Ovr Z k C) (I : Ins Z h y C true) : Sto Z h a (.ref y) := by
  obtain ⟨cl, A, q1, -⟩ := V
  exact Sto.ofV A q1 O I
theorem o_checkcast (X : Stand p l e R s m args below meth c T locs cells slots) (hx : p.tables.exec = Jvm.exec) (hZ : Z.Warmed39 s.vm) {own K : String} {index : Nat} (hown : s.vm.findClass own = some m.cls) (w : (Jvm.Cond.classLink own index K).before a0 Z = true) (eT : T.heap = h) {a : Addr} (F : Ins Z h a K true) (n : Nat) (hd : decode c.code pc = .ok (.checkcast index, 3)) (hp : pc + 3 = n)
    (hr : ∀ T', Stand p l e R s m args below meth c T' locs cells slots → T'.heap = h → Wout p e below P T' (mkF m n Ls (.ref a :: rest))) : Wout p e below P T (mkF m pc Ls (.ref a :: rest)) := by
  subst hp
  obtain ⟨T', X', e', st⟩ := castY X hx hZ hown w eT F (g := mkF m pc Ls (.ref a :: rest)) rfl rfl hd
  exact Wout.of st (hr T' X' e')
theorem o_instanceof (X : Stand p l e R s m args below meth c T locs cells slots) (hx : p.tables.exec = Jvm.exec) (hZ : Z.Warmed39 s.vm) {own K : String} {index : Nat} (hown : s.vm.findClass own = some m.cls) (w : (Jvm.Cond.classLink own index K).before a0 Z = true) (eT : T.heap = h) {a : Addr} (F : Ins Z h a K true) (n : Nat) (hd : decode c.code pc = .ok (.instanceof index, 3)) (hp : pc + 3 = n)
    (hr : ∀ T', Stand p l e R s m args below meth c T' locs cells slots → T'.heap = h → Wout p e below P T' (mkF m n Ls (.int 1 :: rest))) : Wout p e below P T (mkF m pc Ls (.ref a :: rest)) := by
  subst hp
  obtain ⟨T', X', e', st⟩ := instY X hx hZ hown w eT F (g := mkF m pc Ls (.ref a :: rest)) rfl rfl hd
  exact Wout.of st (hr T' X' e')
/-! calls -/
theorem o_initO (X : Stand p l e R s m args below meth c T locs cells slots) (hx : p.tables.exec = Jvm.exec) (hZ : Z.Warmed39 s.vm) {own : String} {idx : Nat} (hown : s.vm.findClass own = some m.cls) (w1 : (Jvm.Cond.methodLink own idx Lib.objectInit).before a0 Z = true) (w2 : (Jvm.Cond.instanceMethod Lib.objectInit).before a0 Z = true) (w3 : (Jvm.Cond.code Lib.objectInit ⟨#[0xb1]⟩ 1 none).before a0 Z = true) (eT : T.heap = h) (hsz : Ls.size = c.maxLocals) {a : Addr} (hf : 1 ≤ R.frames) (W : Nat) (hW : (rest.map fun v => v.category).sum ≤ W) (hl : W + 12 ≤ R.locals) (n : Nat) (hd : decode c.code pc = .ok (.invokespecial idx, 3)) (hp : pc + 3 = n)
    (hr : ∀ T', Stand p l e R s m args below meth c T' locs cells slots → T'.heap = h → Wout p e below P T' (mkF m n Ls rest)) : Wout p e below P T (mkF m pc Ls (.ref a :: rest)) := by
  subst hp
  obtain ⟨T', X', e', st⟩ := initO X hx hZ hown w1 w2 w3 eT (g := mkF m pc Ls (.ref a :: rest)) rfl hsz rfl hd hf (W := W) (by simpa using hW) hl
  exact Wout.of st (hr T' X' e')
theorem o_callS (X : Stand p l e R s m args below meth c T locs cells slots) (hx : p.tables.exec = Jvm.exec) (hZ : Z.Warmed39 s.vm) {own : String} {index : Nat} {y : MethodName} {bytes : ByteArray} {maxL : Nat} {ret : Option FieldType} (hown : s.vm.findClass own = some m.cls) (w1 : (Jvm.Cond.methodLink own index y).before a0 Z = true) (w2 : (Jvm.Cond.static y).before a0 Z = true) (w3 : (Jvm.Cond.initialized y.cls).before a0 Z = true) (w4 : (Jvm.Cond.code y bytes maxL ret).before a0 Z = true)
    (hy : y.cls ≠ "java/lang/invoke/MethodHandle" ∧ y.cls ≠ "java/lang/invoke/VarHandle") {rm : Room} {as' : Array Value} {Q : Option Value → Heap → List Loc → Prop} (hM : Met l Z y bytes maxL ret [] rm as' h Q) (eT : T.heap = h) (hf : rm.frames + 1 ≤ R.frames) (W : Nat) (hl : W + (maxL + 11) + rm.locals ≤ R.locals) (hsz : Ls.size = c.maxLocals) (argsL : List Value) {st : List Value} (hlen : ∀ sig, parseMethodDescriptor y.desc = some sig → argsL.length = sig.parameters.length) (hst : st = argsL.reverse ++ rest) (has : argsL.toArray = as')
    (hW : (rest.map fun v => v.category).sum ≤ W) (hc : cells + rm.cells ≤ R.cells) (hs : slots + rm.slots ≤ R.slots) (n : Nat) (hd : decode c.code pc = .ok (.invokestatic index, 3)) (hp : pc + 3 = n)
    (hr : ∀ v T' h' L, Stand p l e R s m args below meth c T' (locs ++ L) (cells + rm.cells) (slots + rm.slots) → T'.heap = h' → Q v h' L → Wout p e below P T' (mkF m n Ls (v.toList ++ rest))) : Wout p e below P T (mkF m pc Ls st) := by
  subst hp has hst
  obtain ⟨v, vm₁, ⟨T', L', k', n'⟩, -, X', ⟨Lc, hQ, l1, y1, z1⟩, st⟩ := Jvm.LawKit.callS X hx hown (mv hZ w1) (mv hZ w2) (mv hZ w3) (mv hZ w4) hy (backOf (W := W) hM hZ w4 w3 hf hl) (g := mkF m pc Ls (argsL.reverse ++ rest)) rfl hsz (argsL := argsL) (rest := rest) hlen rfl (by simpa using hW) hd (fun _ _ => ⟨rfl, eT, hc, hs⟩)
  dsimp only [Pt.U, Pt.locs, Pt.cells, Pt.slots] at X' l1 y1 z1 hQ st
  subst l1 y1 z1
  exact Wout.of st (hr v T' T'.heap Lc X' rfl hQ)
theorem o_callI (X : Stand p l e R s m args below meth c T locs cells slots) (hx : p.tables.exec = Jvm.exec) (hZ : Z.Warmed39 s.vm) {own : String} {index : Nat} {y : MethodName} {bytes : ByteArray} {maxL : Nat} (hy1 : y.name = "<init>") (hown : s.vm.findClass own = some m.cls) (w1 : (Jvm.Cond.methodLink own index y).before a0 Z = true) (w2 : (Jvm.Cond.instanceMethod y).before a0 Z = true) (w3 : (Jvm.Cond.initialized y.cls).before a0 Z = true) (w4 : (Jvm.Cond.code y bytes maxL none).before a0 Z = true)
    (hy : y.cls ≠ "java/lang/invoke/MethodHandle" ∧ y.cls ≠ "java/lang/invoke/VarHandle") {rm : Room} {as' : Array Value} {Q : Option Value → Heap → List Loc → Prop} (hM : Met l Z y bytes maxL none [] rm as' h Q) (eT : T.heap = h) (hf : rm.frames + 1 ≤ R.frames) (W : Nat) (hl : W + (maxL + 11) + rm.locals ≤ R.locals) (hsz : Ls.size = c.maxLocals) {a : Addr} (argsL : List Value) {st : List Value} (hlen : ∀ sig, parseMethodDescriptor y.desc = some sig → argsL.length = sig.parameters.length) (hst : st = argsL.reverse ++ .ref a :: rest) (has : (.ref a :: argsL).toArray = as')
    (hW : (rest.map fun v => v.category).sum ≤ W) (hc : cells + rm.cells ≤ R.cells) (hs : slots + rm.slots ≤ R.slots) (n : Nat) (hd : decode c.code pc = .ok (.invokespecial index, 3)) (hp : pc + 3 = n)
    (hr : ∀ v T' h' L, Stand p l e R s m args below meth c T' (locs ++ L) (cells + rm.cells) (slots + rm.slots) → T'.heap = h' → Q v h' L → Wout p e below P T' (mkF m n Ls (v.toList ++ rest))) : Wout p e below P T (mkF m pc Ls st) := by
  subst hp has hst
  obtain ⟨v, vm₁, ⟨T', L', k', n'⟩, -, X', ⟨Lc, hQ, l1, y1, z1⟩, st⟩ := X.specialBack hx hy1 hown (mv hZ w1) (mv hZ w2) (mv hZ w4) hy (backOf (W := W) hM hZ w4 w3 hf hl) (g := mkF m pc Ls (argsL.reverse ++ .ref a :: rest)) rfl hsz (Steps.refl _) (a := a) (argsL := argsL) (rest := rest) hlen rfl (by simpa using hW) hd (fun _ _ => ⟨rfl, eT, hc, hs⟩)
  dsimp only [Pt.U, Pt.locs, Pt.cells, Pt.slots] at X' l1 y1 z1 hQ st
  subst l1 y1 z1
  exact Wout.tr st (hr v T' T'.heap Lc X' rfl hQ)
theorem o_callIB (X : Stand p l e R s m args below meth c T locs cells slots) (hx : p.tables.exec = Jvm.exec) (hZ : Z.Warmed39 s.vm) {own : String} {index : Nat} {y : MethodName} {bytes : ByteArray} {maxL : Nat} (hy1 : y.name = "<init>") (hown : s.vm.findClass own = some m.cls) (w1 : (Jvm.Cond.methodLink own index y).before a0 Z = true) (w2 : (Jvm.Cond.instanceMethod y).before a0 Z = true) (w4 : (Jvm.Cond.code y bytes maxL none).before a0 Z = true)
    (hy : y.cls ≠ "java/lang/invoke/MethodHandle" ∧ y.cls ≠ "java/lang/invoke/VarHandle") {kc ks W : Nat} {as' : Array Value} {Q : Option Value → Heap → List Loc → Prop} (hK : Back l R p e below s args y 3 W (fun A a => a = as' ∧ A.U.heap = h ∧ A.cells + kc ≤ R.cells ∧ A.slots + ks ≤ R.slots) (fun A _ v B => ∃ L, Q v B.U.heap L ∧ B.locs = A.locs ++ L ∧ B.cells = A.cells + kc ∧ B.slots = A.slots + ks)) (eT : T.heap = h) (hsz : Ls.size = c.maxLocals) {a : Addr} (argsL : List Value) {st : List Value} (hlen : ∀ sig, parseMethodDescriptor y.desc = some sig → argsL.length = sig.parameters.length) (hst : st = argsL.reverse ++ .ref a :: rest) (has : (.ref a :: argsL).toArray = as')
    (hW : (rest.map fun v => v.category).sum ≤ W) (hc : cells + kc ≤ R.cells) (hs : slots + ks ≤ R.slots) (n : Nat) (hd : decode c.code pc = .ok (.invokespecial index, 3)) (hp : pc + 3 = n)
    (hr : ∀ v T' h' L, Stand p l e R s m args below meth c T' (locs ++ L) (cells + kc) (slots + ks) → T'.heap = h' → Q v h' L → Wout p e below P T' (mkF m n Ls (v.toList ++ rest))) : Wout p e below P T (mkF m pc Ls st) := by
  subst hp has hst
  obtain ⟨v, vm₁, ⟨T', L', k', n'⟩, -, X', ⟨Lc, hQ, l1, y1, z1⟩, st⟩ := X.specialBack hx hy1 hown (mv hZ w1) (mv hZ w2) (mv hZ w4) hy hK (g := mkF m pc Ls (argsL.reverse ++ .ref a :: rest)) rfl hsz (Steps.refl _) (a := a) (argsL := argsL) (rest := rest) hlen rfl (by simpa using hW) hd (fun _ _ => ⟨rfl, eT, hc, hs⟩)
  dsimp only [Pt.U, Pt.locs, Pt.cells, Pt.slots] at X' l1 y1 z1 hQ st
  subst l1 y1 z1
  exact Wout.tr st (hr v T' T'.heap Lc X' rfl hQ)
theorem o_callV (X : Stand p l e R s m args below meth c T locs cells slots) (hx : p.tables.exec = Jvm.exec) (hZ : Z.Warmed39 s.vm) {own C : String} {index : Nat} {y : MethodName} {bytes : ByteArray} {maxL : Nat} {ret : Option FieldType} (hown : s.vm.findClass own = some m.cls) (w1 : (Jvm.Cond.methodLink own index y).before a0 Z = true) (w5 : (Jvm.Cond.declares y).before a0 Z = true) (w6 : (Jvm.Cond.selects C y y).before a0 Z = true) (w2 : (Jvm.Cond.instanceMethod y).before a0 Z = true) (w3 : (Jvm.Cond.initialized y.cls).before a0 Z = true) (w4 : (Jvm.Cond.code y bytes maxL ret).before a0 Z = true)
    (hy : y.cls ≠ "java/lang/invoke/MethodHandle" ∧ y.cls ≠ "java/lang/invoke/VarHandle") {rm : Room} {as' : Array Value} {Q : Option Value → Heap → List Loc → Prop} (hM : Met l Z y bytes maxL ret [] rm as' h Q) (eT : T.heap = h) (hf : rm.frames + 1 ≤ R.frames) (W : Nat) (hl : W + (maxL + 11) + rm.locals ≤ R.locals) (hsz : Ls.size = c.maxLocals) {a : Addr} (E : Exa Z h a C) (argsL : List Value) {st : List Value} (hlen : ∀ sig, parseMethodDescriptor y.desc = some sig → argsL.length = sig.parameters.length) (hst : st = argsL.reverse ++ .ref a :: rest) (has : (.ref a :: argsL).toArray = as')
    (hW : (rest.map fun v => v.category).sum ≤ W) (hc : cells + rm.cells ≤ R.cells) (hs : slots + rm.slots ≤ R.slots) (n : Nat) (hd : decode c.code pc = .ok (.invokevirtual index, 3)) (hp : pc + 3 = n)
    (hr : ∀ v T' h' L, Stand p l e R s m args below meth c T' (locs ++ L) (cells + rm.cells) (slots + rm.slots) → T'.heap = h' → Q v h' L → Wout p e below P T' (mkF m n Ls (v.toList ++ rest))) : Wout p e below P T (mkF m pc Ls st) := by
  subst hp has hst
  obtain ⟨cq, kq, qa, qb, qc⟩ := isOf hZ eT E
  obtain ⟨v, vm₁, ⟨T', L', k', n'⟩, -, X', ⟨Lc, hQ, l1, y1, z1⟩, st⟩ := X.virtualBack hx hown (mv hZ w1) (mv hZ w5) (notFace_of_selects (args := #[]) (mv hZ w6)) (mv hZ w6) (mv hZ w2) hy (backOf (W := W) hM hZ w4 w3 hf hl) qa qc (g := mkF m pc Ls (argsL.reverse ++ .ref a :: rest)) rfl hsz (Steps.refl _) (argsL := argsL) (rest := rest) hlen rfl (by simpa using hW) hd (fun _ _ => ⟨rfl, eT, hc, hs⟩)
  dsimp only [Pt.U, Pt.locs, Pt.cells, Pt.slots] at X' l1 y1 z1 hQ st
  subst l1 y1 z1
  exact Wout.tr st (hr v T' T'.heap Lc X' rfl hQ)
theorem o_callU (X : Stand p l e R s m args below meth c T locs cells slots) (hx : p.tables.exec = Jvm.exec) (hZ : Z.Warmed39 s.vm) {own C owner : String} {index : Nat} {y z : MethodName} {bytes : ByteArray} {maxL : Nat} {ret : Option FieldType} (hown : s.vm.findClass own = some m.cls) (w1 : (Jvm.Cond.methodLink own index y).before a0 Z = true) (w7 : (Jvm.Cond.sameMethod y.cls owner y.name y.desc).before a0 Z = true) (w5 : (Jvm.Cond.declares ⟨owner, y.name, y.desc⟩).before a0 Z = true) (w6 : (Jvm.Cond.selects C y z).before a0 Z = true) (w2 : (Jvm.Cond.instanceMethod z).before a0 Z = true) (w3 : (Jvm.Cond.initialized z.cls).before a0 Z = true) (w4 : (Jvm.Cond.code z bytes maxL ret).before a0 Z = true)
    (hy : owner ≠ "java/lang/invoke/MethodHandle" ∧ owner ≠ "java/lang/invoke/VarHandle") {rm : Room} {as' : Array Value} {Q : Option Value → Heap → List Loc → Prop} (hM : Met l Z z bytes maxL ret [] rm as' h Q) (eT : T.heap = h) (hf : rm.frames + 1 ≤ R.frames) (W : Nat) (hl : W + (maxL + 11) + rm.locals ≤ R.locals) (hsz : Ls.size = c.maxLocals) {a : Addr} (E : Exa Z h a C) (argsL : List Value) {st : List Value} (hlen : ∀ sig, parseMethodDescriptor y.desc = some sig → argsL.length = sig.parameters.length) (hst : st = argsL.reverse ++ .ref a :: rest) (has : (.ref a :: argsL).toArray = as')
    (hW : (rest.map fun v => v.category).sum ≤ W) (hc : cells + rm.cells ≤ R.cells) (hs : slots + rm.slots ≤ R.slots) (n : Nat) (hd : decode c.code pc = .ok (.invokevirtual index, 3)) (hp : pc + 3 = n)
    (hr : ∀ v T' h' L, Stand p l e R s m args below meth c T' (locs ++ L) (cells + rm.cells) (slots + rm.slots) → T'.heap = h' → Q v h' L → Wout p e below P T' (mkF m n Ls (v.toList ++ rest))) : Wout p e below P T (mkF m pc Ls st) := by
  subst hp has hst
  obtain ⟨cq, kq, qa, qb, qc⟩ := isOf hZ eT E
  obtain ⟨v, vm₁, ⟨T', L', k', n'⟩, -, X', ⟨Lc, hQ, l1, y1, z1⟩, st⟩ := X.virtualBackUp hx hown (mv hZ w1) (mv hZ w7) (mv hZ w5) hy (mv hZ w6) (mv hZ w2) (backOf (W := W) hM hZ w4 w3 hf hl) qa qc (g := mkF m pc Ls (argsL.reverse ++ .ref a :: rest)) rfl hsz (Steps.refl _) (argsL := argsL) (rest := rest) hlen rfl (by simpa using hW) hd (fun _ _ => ⟨rfl, eT, hc, hs⟩)
  dsimp only [Pt.U, Pt.locs, Pt.cells, Pt.slots] at X' l1 y1 z1 hQ st
  subst l1 y1 z1
  exact Wout.tr st (hr v T' T'.heap Lc X' rfl hQ)
/-! returns -/
theorem o_retW (X : Stand p l e R s m args below meth c T locs cells slots) (hx : p.tables.exec = Jvm.exec) {Q : Option Value → Heap → List Loc → Prop} {C S : Nat} {w w' : Value} {t : FieldType} {i : Instr} (hlk : meth.locks = false) (hret : meth.sig.returnType = some t) (hn : Jvm.narrow t w = w)
    (hi : (i = .ireturn ∧ (t = .int ∨ t = .boolean ∨ t = .byte ∨ t = .char ∨ t = .short) ∧ ∃ z, w = .int z) ∨ (i = .lreturn ∧ t = .long ∧ ∃ z, w = .long z) ∨ (i = .dreturn ∧ t = .double ∧ ∃ z, w = .double z) ∨ (i = .freturn ∧ t = .float ∧ ∃ z, w = .float z) ∨ (i = .areturn ∧ t.isReference = true ∧ w.isRef = true))
    (hd : decode c.code pc = .ok (i, 1)) (hc : cells ≤ C) (hs : slots ≤ S) (hq : Q (some w) T.heap locs) : Wout p e below (Pst s Q C S) T (mkF m pc Ls (w :: rest)) := by
  obtain ⟨fs, hr, hrun, hended, hW, hsame⟩ := X.leave (v := some w) (fun q => by rw [hret] at q; cases q) hlk
  exact ⟨_, _, retOut X hx hret hn hi hd hr, hrun, hended, _, _, rfl, hq, ⟨_, rfl⟩, hW, hsame.mono hc hs⟩
theorem o_retI (X : Stand p l e R s m args below meth c T locs cells slots) (hx : p.tables.exec = Jvm.exec) {Q : Option Value → Heap → List Loc → Prop} {C S : Nat} {x : Int32} {t : FieldType} (hlk : meth.locks = false) (hret : meth.sig.returnType = some t) (hn : Jvm.narrow t (.int x) = .int x) (ht : t = .int ∨ t = .boolean ∨ t = .byte ∨ t = .char ∨ t = .short)
    (hd : decode c.code pc = .ok (.ireturn, 1)) (hc : cells ≤ C) (hs : slots ≤ S) (hq : Q (some (.int x)) T.heap locs) : Wout p e below (Pst s Q C S) T (mkF m pc Ls (.int x :: rest)) :=
  o_retW X hx (w' := .null) hlk hret hn (Or.inl ⟨rfl, ht, x, rfl⟩) hd hc hs hq
theorem o_retL (X : Stand p l e R s m args below meth c T locs cells slots) (hx : p.tables.exec = Jvm.exec) {Q : Option Value → Heap → List Loc → Prop} {C S : Nat} {x : Int64} (hlk : meth.locks = false) (hret : meth.sig.returnType = some .long)
    (hd : decode c.code pc = .ok (.lreturn, 1)) (hc : cells ≤ C) (hs : slots ≤ S) (hq : Q (some (.long x)) T.heap locs) : Wout p e below (Pst s Q C S) T (mkF m pc Ls (.long x :: rest)) :=
  o_retW X hx (w' := .null) hlk hret rfl (Or.inr (Or.inl ⟨rfl, rfl, x, rfl⟩)) hd hc hs hq
theorem o_retA (X : Stand p l e R s m args below meth c T locs cells slots) (hx : p.tables.exec = Jvm.exec) {Q : Option Value → Heap → List Loc → Prop} {C S : Nat} {w : Value} {t : FieldType} (hlk : meth.locks = false) (hret : meth.sig.returnType = some t) (ht : t.isReference = true) (hw : w.isRef = true) (hn : Jvm.narrow t w = w)
    (hd : decode c.code pc = .ok (.areturn, 1)) (hc : cells ≤ C) (hs : slots ≤ S) (hq : Q (some w) T.heap locs) : Wout p e below (Pst s Q C S) T (mkF m pc Ls (w :: rest)) :=
  o_retW X hx (w' := .null) hlk hret hn (Or.inr (Or.inr (Or.inr (Or.inr ⟨rfl, ht, hw⟩)))) hd hc hs hq
theorem o_retD (X : Stand p l e R s m args below meth c T locs cells slots) (hx : p.tables.exec = Jvm.exec) {Q : Option Value → Heap → List Loc → Prop} {C S : Nat} {x : UInt64} (hlk : meth.locks = false) (hret : meth.sig.returnType = some .double)
    (hd : decode c.code pc = .ok (.dreturn, 1)) (hc : cells ≤ C) (hs : slots ≤ S) (hq : Q (some (.double x)) T.heap locs) : Wout p e below (Pst s Q C S) T (mkF m pc Ls (.double x :: rest)) :=
  o_retW X hx (w' := .null) hlk hret rfl (Or.inr (Or.inr (Or.inl ⟨rfl, rfl, x, rfl⟩))) hd hc hs hq
theorem o_retV (X : Stand p l e R s m args below meth c T locs cells slots) (hx : p.tables.exec = Jvm.exec) {Q : Option Value → Heap → List Loc → Prop} {C S : Nat} (hlk : meth.locks = false) (hret : meth.sig.returnType = none)
    (hd : decode c.code pc = .ok (.return_, 1)) (hc : cells ≤ C) (hs : slots ≤ S) (hq : Q none T.heap locs) : Wout p e below (Pst s Q C S) T (mkF m pc Ls []) := by
  obtain ⟨fs, hr, hrun, hended, hW, hsame⟩ := X.leave (v := none) (fun _ => rfl) hlk
  exact ⟨_, _, X.returnOut hx hret hd hr, hrun, hended, _, _, rfl, hq, ⟨_, rfl⟩, hW, hsame.mono hc hs⟩
/-! from the sheet's words -/
theorem fld_eq {t : Term} {a : Addr} {C n d : String} {k : Int32} (ev : t.eval args Z none [] Z = some (.ref a)) (q : (Jvm.Cond.eq (.field t C n d) (.int k)).value args Z none Z [] = some true) : Fld Z Z.heap a C n d (.int k) := by
  exact Fld.start ((fld_at ev).symm.trans (eqv_i rfl q))
theorem sta_bool {C n d : String} (w1 : (Jvm.Cond.initializedFor C n d).before args Z = true) (w2 : (Jvm.Cond.isInt (.static C n d)).before args Z = true) (w3 : (Jvm.Cond.not (.eq (.static C n d) (.int 0))).before args Z = true) : ∃ x : Int32, Sta Z Z.heap C n d (.int x) ∧ ¬ x = 0 := by
  obtain ⟨x, ev⟩ := is_v (Cond.before_iff.mp w2)
  refine ⟨x, Sta.start ev (Or.inl w1), fun q => ?_⟩
  have q2 := not_v (Cond.before_iff.mp w3)
  exact gotF (Cond.eq_ints ev rfl) q2 q
/-! numbers -/
theorem mask31 (x : Int32) : 0 ≤ (x &&& 2147483647).toInt := by
  have e := Jvm.Kit.i32_mask x 2147483647 (k := 31) (by decide) (by decide)
  omega
theorem rem_pos {y n : Int32} (hy : 0 ≤ y.toInt) (hn : 0 < n.toInt) : (y % n).toInt = y.toInt % n.toInt := by
  rw [Int32.toInt_mod, Int.tmod_eq_emod_of_nonneg hy]
theorem rem_in {y n : Int32} (hy : 0 ≤ y.toInt) (hn : 0 < n.toInt) : 0 ≤ (y % n).toInt ∧ (y % n).toInt < n.toInt := by
  rw [rem_pos hy hn]
  exact ⟨Int.emod_nonneg _ (by omega), Int.emod_lt_of_pos _ hn⟩
theorem in3 {k : Int32} (h1 : 0 ≤ k.toInt) (h2 : k.toInt < 3) : k = 0 ∨ k = 1 ∨ k = 2 := by
  have : k.toInt = 0 ∨ k.toInt = 1 ∨ k.toInt = 2 := by omega
  rcases this with q | q | q
  · exact Or.inl (Int32.toInt_inj.mp q)
  · exact Or.inr (Or.inl (Int32.toInt_inj.mp q))
  · exact Or.inr (Or.inr (Int32.toInt_inj.mp q))
theorem in4 {k : Int32} (h1 : 0 ≤ k.toInt) (h2 : k.toInt < 4) : k = 0 ∨ k = 1 ∨ k = 2 ∨ k = 3 := by
  have : k.toInt = 0 ∨ k.toInt = 1 ∨ k.toInt = 2 ∨ k.toInt = 3 := by omega
  rcases this with q | q | q | q
  · exact Or.inl (Int32.toInt_inj.mp q)
  · exact Or.inr (Or.inl (Int32.toInt_inj.mp q))
  · exact Or.inr (Or.inr (Or.inl (Int32.toInt_inj.mp q)))
  · exact Or.inr (Or.inr (Or.inr (Int32.toInt_inj.mp q)))
end K
end Jvm.OwnWalk
namespace Jvm.Pilot.@@N@@
open Jvm Jvm.ClassFile Sem Op Lib Jvm.Free Jvm.Stand Jvm.LawKit Jvm.RoadKit Jvm.OwnWalk Bundle Jvm.Pilot.@@N@@.Jvm.D
theorem d_prog_8_method_4_0 : decode prog_8_method_4_code 0 = .ok (.aload_n 0, 1) := by decide +kernel
theorem d_prog_8_method_4_1 : decode prog_8_method_4_code 1 = .ok (.getstatic 3, 3) := by decide +kernel
theorem d_prog_8_method_4_4 : decode prog_8_method_4_code 4 = .ok (.if_acmp .eq 17, 3) := by decide +kernel
theorem d_prog_8_method_4_7 : decode prog_8_method_4_code 7 = .ok (.aload_n 0, 1) := by decide +kernel
theorem d_prog_8_method_4_8 : decode prog_8_method_4_code 8 = .ok (.getstatic 7, 3) := by decide +kernel
theorem d_prog_8_method_4_11 : decode prog_8_method_4_code 11 = .ok (.if_acmp .eq 10, 3) := by decide +kernel
theorem d_prog_8_method_4_14 : decode prog_8_method_4_code 14 = .ok (.aload_n 0, 1) := by decide +kernel
theorem d_prog_8_method_4_15 : decode prog_8_method_4_code 15 = .ok (.getstatic 10, 3) := by decide +kernel
theorem d_prog_8_method_4_18 : decode prog_8_method_4_code 18 = .ok (.if_acmp .ne 7, 3) := by decide +kernel
theorem d_prog_8_method_4_21 : decode prog_8_method_4_code 21 = .ok (.iconst 1, 1) := by decide +kernel
theorem d_prog_8_method_4_22 : decode prog_8_method_4_code 22 = .ok (.goto 4, 3) := by decide +kernel
theorem d_prog_8_method_4_25 : decode prog_8_method_4_code 25 = .ok (.iconst 0, 1) := by decide +kernel
theorem d_prog_8_method_4_26 : decode prog_8_method_4_code 26 = .ok (.ireturn, 1) := by decide +kernel
theorem pn_0 : plainName "com/example/varasto/varasto/model/AttributeType" = true := by first | (simp [plainName, overriddenIn]; done) | decide +kernel
def Q_keyS (Z : State) (a1 a_S a_N a_B : Addr) (h0 : Heap) (n0 : Nat) (v : Option Value) (h : Heap) (L : List Loc) : Prop := v = some (.int 1) ∧ Fr n0 L ∧ h = h0
set_option maxRecDepth 65536 in
set_option maxHeartbeats 40000000 in
theorem rm_keyS (l : Launch) (Z : State) (a0 : Array Value) (hw : ∀ d ∈ tables_1, d.before a0 Z = true) (ws : List Jvm.Cond) (a1 a_S a_N a_B : Addr) (h0 : Heap) (n0 : Nat) (Z0 : n0 ≤ h0.size) (S_S : Sta Z h0 "com/example/varasto/varasto/model/AttributeType" "S" "Lcom/example/varasto/varasto/model/AttributeType;" (.ref a_S)) (S_N : Sta Z h0 "com/example/varasto/varasto/model/AttributeType" "N" "Lcom/example/varasto/varasto/model/AttributeType;" (.ref a_N)) (S_B : Sta Z h0 "com/example/varasto/varasto/model/AttributeType" "B" "Lcom/example/varasto/varasto/model/AttributeType;" (.ref a_B)) (q : a1 = a_S) :
    Met l Z (⟨"com/example/varasto/varasto/model/AttributeType", "isKeyType", "()Z"⟩ : MethodName) prog_8_method_4_code 1 (some .boolean) ws ({ frames := 0, cells := 0, slots := 0, locals := 0 } : Room) #[(.ref a1)] h0 (Q_keyS Z a1 a_S a_N a_B h0 n0) := by
  refine Met.start (plainFor_of_name pn_0) ?_
  intro p e s m below meth c T X hx hby hml hown hnm hret hlk hZ eT
  have N := Fr.nil n0
  refine Wout.cast (g' := (mkF m 0 #[.val (.ref a1)] [])) (by first | rfl | (simp [entryFrame, mkF, argsToLocals, Value.category]; done)) ?_
  refine o_aloadN X hx 1 (hb hby d_prog_8_method_4_0) rfl rfl rfl ?_
  refine o_getS X hx hZ hown (host := "") (Or.inl (hw _ (List.mem_of_getElem? (i := 31) rfl))) Via.refl eT S_S 4 (hb hby d_prog_8_method_4_1) rfl (fun T X eT => ?_)
  refine o_acmpT X hx 21 (hb hby d_prog_8_method_4_4) rfl rfl rfl (XT.aa_eq_t (congrArg Value.ref q)) ?_
  refine o_iconst X hx 22 (1 : Int32) (hb hby d_prog_8_method_4_21) rfl rfl ?_
  refine o_goto X hx 26 (hb hby d_prog_8_method_4_22) rfl ?_
  exact o_retI X hx hlk hret rfl (by simp) (hb hby d_prog_8_method_4_26) (by decide) (by decide) (by rw [eT]; exact ⟨rfl, N, rfl⟩)
def Q_keyN (Z : State) (a1 a_S a_N a_B : Addr) (h0 : Heap) (n0 : Nat) (v : Option Value) (h : Heap) (L : List Loc) : Prop := v = some (.int 1) ∧ Fr n0 L ∧ h = h0
set_option maxRecDepth 65536 in
set_option maxHeartbeats 40000000 in
theorem rm_keyN (l : Launch) (Z : State) (a0 : Array Value) (hw : ∀ d ∈ tables_1, d.before a0 Z = true) (ws : List Jvm.Cond) (a1 a_S a_N a_B : Addr) (h0 : Heap) (n0 : Nat) (Z0 : n0 ≤ h0.size) (S_S : Sta Z h0 "com/example/varasto/varasto/model/AttributeType" "S" "Lcom/example/varasto/varasto/model/AttributeType;" (.ref a_S)) (S_N : Sta Z h0 "com/example/varasto/varasto/model/AttributeType" "N" "Lcom/example/varasto/varasto/model/AttributeType;" (.ref a_N)) (S_B : Sta Z h0 "com/example/varasto/varasto/model/AttributeType" "B" "Lcom/example/varasto/varasto/model/AttributeType;" (.ref a_B)) (q0 : ¬ a1 = a_S) (q : a1 = a_N) :
    Met l Z (⟨"com/example/varasto/varasto/model/AttributeType", "isKeyType", "()Z"⟩ : MethodName) prog_8_method_4_code 1 (some .boolean) ws ({ frames := 0, cells := 0, slots := 0, locals := 0 } : Room) #[(.ref a1)] h0 (Q_keyN Z a1 a_S a_N a_B h0 n0) := by
  refine Met.start (plainFor_of_name pn_0) ?_
  intro p e s m below meth c T X hx hby hml hown hnm hret hlk hZ eT
  have N := Fr.nil n0
  refine Wout.cast (g' := (mkF m 0 #[.val (.ref a1)] [])) (by first | rfl | (simp [entryFrame, mkF, argsToLocals, Value.category]; done)) ?_
  refine o_aloadN X hx 1 (hb hby d_prog_8_method_4_0) rfl rfl rfl ?_
  refine o_getS X hx hZ hown (host := "") (Or.inl (hw _ (List.mem_of_getElem? (i := 31) rfl))) Via.refl eT S_S 4 (hb hby d_prog_8_method_4_1) rfl (fun T X eT => ?_)
  refine o_acmpF X hx 7 (hb hby d_prog_8_method_4_4) rfl rfl rfl (XT.aa_eq_f (fun z => q0 (Value.ref.inj z))) ?_
  refine o_aloadN X hx 8 (hb hby d_prog_8_method_4_7) rfl rfl rfl ?_
  refine o_getS X hx hZ hown (host := "") (Or.inl (hw _ (List.mem_of_getElem? (i := 32) rfl))) Via.refl eT S_N 11 (hb hby d_prog_8_method_4_8) rfl (fun T X eT => ?_)
  refine o_acmpT X hx 21 (hb hby d_prog_8_method_4_11) rfl rfl rfl (XT.aa_eq_t (congrArg Value.ref q)) ?_
  refine o_iconst X hx 22 (1 : Int32) (hb hby d_prog_8_method_4_21) rfl rfl ?_
  refine o_goto X hx 26 (hb hby d_prog_8_method_4_22) rfl ?_
  exact o_retI X hx hlk hret rfl (by simp) (hb hby d_prog_8_method_4_26) (by decide) (by decide) (by rw [eT]; exact ⟨rfl, N, rfl⟩)
def Q_keyB (Z : State) (a1 a_S a_N a_B : Addr) (h0 : Heap) (n0 : Nat) (v : Option Value) (h : Heap) (L : List Loc) : Prop := v = some (.int 1) ∧ Fr n0 L ∧ h = h0
set_option maxRecDepth 65536 in
set_option maxHeartbeats 40000000 in
theorem rm_keyB (l : Launch) (Z : State) (a0 : Array Value) (hw : ∀ d ∈ tables_1, d.before a0 Z = true) (ws : List Jvm.Cond) (a1 a_S a_N a_B : Addr) (h0 : Heap) (n0 : Nat) (Z0 : n0 ≤ h0.size) (S_S : Sta Z h0 "com/example/varasto/varasto/model/AttributeType" "S" "Lcom/example/varasto/varasto/model/AttributeType;" (.ref a_S)) (S_N : Sta Z h0 "com/example/varasto/varasto/model/AttributeType" "N" "Lcom/example/varasto/varasto/model/AttributeType;" (.ref a_N)) (S_B : Sta Z h0 "com/example/varasto/varasto/model/AttributeType" "B" "Lcom/example/varasto/varasto/model/AttributeType;" (.ref a_B)) (q0 : ¬ a1 = a_S) (q1 : ¬ a1 = a_N) (q : a1 = a_B) :
    Met l Z (⟨"com/example/varasto/varasto/model/AttributeType", "isKeyType", "()Z"⟩ : MethodName) prog_8_method_4_code 1 (some .boolean) ws ({ frames := 0, cells := 0, slots := 0, locals := 0 } : Room) #[(.ref a1)] h0 (Q_keyB Z a1 a_S a_N a_B h0 n0) := by
  refine Met.start (plainFor_of_name pn_0) ?_
  intro p e s m below meth c T X hx hby hml hown hnm hret hlk hZ eT
  have N := Fr.nil n0
  refine Wout.cast (g' := (mkF m 0 #[.val (.ref a1)] [])) (by first | rfl | (simp [entryFrame, mkF, argsToLocals, Value.category]; done)) ?_
  refine o_aloadN X hx 1 (hb hby d_prog_8_method_4_0) rfl rfl rfl ?_
  refine o_getS X hx hZ hown (host := "") (Or.inl (hw _ (List.mem_of_getElem? (i := 31) rfl))) Via.refl eT S_S 4 (hb hby d_prog_8_method_4_1) rfl (fun T X eT => ?_)
  refine o_acmpF X hx 7 (hb hby d_prog_8_method_4_4) rfl rfl rfl (XT.aa_eq_f (fun z => q0 (Value.ref.inj z))) ?_
  refine o_aloadN X hx 8 (hb hby d_prog_8_method_4_7) rfl rfl rfl ?_
  refine o_getS X hx hZ hown (host := "") (Or.inl (hw _ (List.mem_of_getElem? (i := 32) rfl))) Via.refl eT S_N 11 (hb hby d_prog_8_method_4_8) rfl (fun T X eT => ?_)
  refine o_acmpF X hx 14 (hb hby d_prog_8_method_4_11) rfl rfl rfl (XT.aa_eq_f (fun z => q1 (Value.ref.inj z))) ?_
  refine o_aloadN X hx 15 (hb hby d_prog_8_method_4_14) rfl rfl rfl ?_
  refine o_getS X hx hZ hown (host := "") (Or.inl (hw _ (List.mem_of_getElem? (i := 33) rfl))) Via.refl eT S_B 18 (hb hby d_prog_8_method_4_15) rfl (fun T X eT => ?_)
  refine o_acmpF X hx 21 (hb hby d_prog_8_method_4_18) rfl rfl rfl (XT.aa_ne_f (congrArg Value.ref q)) ?_
  refine o_iconst X hx 22 (1 : Int32) (hb hby d_prog_8_method_4_21) rfl rfl ?_
  refine o_goto X hx 26 (hb hby d_prog_8_method_4_22) rfl ?_
  exact o_retI X hx hlk hret rfl (by simp) (hb hby d_prog_8_method_4_26) (by decide) (by decide) (by rw [eT]; exact ⟨rfl, N, rfl⟩)
def Q_key0 (Z : State) (a1 a_S a_N a_B : Addr) (h0 : Heap) (n0 : Nat) (v : Option Value) (h : Heap) (L : List Loc) : Prop := v = some (.int 0) ∧ Fr n0 L ∧ h = h0
set_option maxRecDepth 65536 in
set_option maxHeartbeats 40000000 in
theorem rm_key0 (l : Launch) (Z : State) (a0 : Array Value) (hw : ∀ d ∈ tables_1, d.before a0 Z = true) (ws : List Jvm.Cond) (a1 a_S a_N a_B : Addr) (h0 : Heap) (n0 : Nat) (Z0 : n0 ≤ h0.size) (S_S : Sta Z h0 "com/example/varasto/varasto/model/AttributeType" "S" "Lcom/example/varasto/varasto/model/AttributeType;" (.ref a_S)) (S_N : Sta Z h0 "com/example/varasto/varasto/model/AttributeType" "N" "Lcom/example/varasto/varasto/model/AttributeType;" (.ref a_N)) (S_B : Sta Z h0 "com/example/varasto/varasto/model/AttributeType" "B" "Lcom/example/varasto/varasto/model/AttributeType;" (.ref a_B)) (q0 : ¬ a1 = a_S) (q1 : ¬ a1 = a_N) (q2 : ¬ a1 = a_B) :
    Met l Z (⟨"com/example/varasto/varasto/model/AttributeType", "isKeyType", "()Z"⟩ : MethodName) prog_8_method_4_code 1 (some .boolean) ws ({ frames := 0, cells := 0, slots := 0, locals := 0 } : Room) #[(.ref a1)] h0 (Q_key0 Z a1 a_S a_N a_B h0 n0) := by
  refine Met.start (plainFor_of_name pn_0) ?_
  intro p e s m below meth c T X hx hby hml hown hnm hret hlk hZ eT
  have N := Fr.nil n0
  refine Wout.cast (g' := (mkF m 0 #[.val (.ref a1)] [])) (by first | rfl | (simp [entryFrame, mkF, argsToLocals, Value.category]; done)) ?_
  refine o_aloadN X hx 1 (hb hby d_prog_8_method_4_0) rfl rfl rfl ?_
  refine o_getS X hx hZ hown (host := "") (Or.inl (hw _ (List.mem_of_getElem? (i := 31) rfl))) Via.refl eT S_S 4 (hb hby d_prog_8_method_4_1) rfl (fun T X eT => ?_)
  refine o_acmpF X hx 7 (hb hby d_prog_8_method_4_4) rfl rfl rfl (XT.aa_eq_f (fun z => q0 (Value.ref.inj z))) ?_
  refine o_aloadN X hx 8 (hb hby d_prog_8_method_4_7) rfl rfl rfl ?_
  refine o_getS X hx hZ hown (host := "") (Or.inl (hw _ (List.mem_of_getElem? (i := 32) rfl))) Via.refl eT S_N 11 (hb hby d_prog_8_method_4_8) rfl (fun T X eT => ?_)
  refine o_acmpF X hx 14 (hb hby d_prog_8_method_4_11) rfl rfl rfl (XT.aa_eq_f (fun z => q1 (Value.ref.inj z))) ?_
  refine o_aloadN X hx 15 (hb hby d_prog_8_method_4_14) rfl rfl rfl ?_
  refine o_getS X hx hZ hown (host := "") (Or.inl (hw _ (List.mem_of_getElem? (i := 33) rfl))) Via.refl eT S_B 18 (hb hby d_prog_8_method_4_15) rfl (fun T X eT => ?_)
  refine o_acmpT X hx 25 (hb hby d_prog_8_method_4_18) rfl rfl rfl (XT.aa_ne_t (fun z => q2 (Value.ref.inj z))) ?_
  refine o_iconst X hx 26 (0 : Int32) (hb hby d_prog_8_method_4_25) rfl rfl ?_
  exact o_retI X hx hlk hret rfl (by simp) (hb hby d_prog_8_method_4_26) (by decide) (by decide) (by rw [eT]; exact ⟨rfl, N, rfl⟩)
theorem own_in10 {k : Int32} (h1 : 0 ≤ k.toInt) (h2 : k.toInt < 10) : k = 0 ∨ k = 1 ∨ k = 2 ∨ k = 3 ∨ k = 4 ∨ k = 5 ∨ k = 6 ∨ k = 7 ∨ k = 8 ∨ k = 9 := by
  have : k.toInt = 0 ∨ k.toInt = 1 ∨ k.toInt = 2 ∨ k.toInt = 3 ∨ k.toInt = 4 ∨ k.toInt = 5 ∨ k.toInt = 6 ∨ k.toInt = 7 ∨ k.toInt = 8 ∨ k.toInt = 9 := by omega
  rcases this with q | q | q | q | q | q | q | q | q | q
  · exact Or.inl (Int32.toInt_inj.mp q)
  · exact Or.inr (Or.inl (Int32.toInt_inj.mp q))
  · exact Or.inr (Or.inr (Or.inl (Int32.toInt_inj.mp q)))
  · exact Or.inr (Or.inr (Or.inr (Or.inl (Int32.toInt_inj.mp q))))
  · exact Or.inr (Or.inr (Or.inr (Or.inr (Or.inl (Int32.toInt_inj.mp q)))))
  · exact Or.inr (Or.inr (Or.inr (Or.inr (Or.inr (Or.inl (Int32.toInt_inj.mp q))))))
  · exact Or.inr (Or.inr (Or.inr (Or.inr (Or.inr (Or.inr (Or.inl (Int32.toInt_inj.mp q)))))))
  · exact Or.inr (Or.inr (Or.inr (Or.inr (Or.inr (Or.inr (Or.inr (Or.inl (Int32.toInt_inj.mp q))))))))
  · exact Or.inr (Or.inr (Or.inr (Or.inr (Or.inr (Or.inr (Or.inr (Or.inr (Or.inl (Int32.toInt_inj.mp q)))))))))
  · exact Or.inr (Or.inr (Or.inr (Or.inr (Or.inr (Or.inr (Or.inr (Or.inr (Or.inr (Int32.toInt_inj.mp q)))))))))
theorem pn_1 : plainName "com/example/varasto/varasto/model/AttributeTypeIsKeyTypePinLaw" = true := by first | (simp [plainName, overriddenIn]; done) | decide +kernel
theorem pd_0 : parseMethodDescriptor "()Z" = some ⟨[], some .boolean⟩ := by decide +kernel
def Q_law (Z : State) (p1 : Int32) (a_S a_N a_B a_SS a_NS a_BS a_BOOL a_NULL a_L a_M : Addr) (h0 : Heap) (n0 : Nat) (v : Option Value) (h : Heap) (L : List Loc) : Prop := v = some (.int 1) ∧ Fr n0 L ∧ True
set_option maxRecDepth 65536 in
set_option maxHeartbeats 40000000 in
theorem rm_law (l : Launch) (Z : State) (a0 : Array Value) (hw : ∀ d ∈ tables_1, d.before a0 Z = true) (ws : List Jvm.Cond) (p1 : Int32) (a_S a_N a_B a_SS a_NS a_BS a_BOOL a_NULL a_L a_M : Addr) (h0 : Heap) (n0 : Nat) (Z0 : n0 ≤ h0.size) (O : Old Z n0 h0) (E_S : Exa Z Z.heap a_S "com/example/varasto/varasto/model/AttributeType") (S_S : Sta Z Z.heap "com/example/varasto/varasto/model/AttributeType" "S" "Lcom/example/varasto/varasto/model/AttributeType;" (.ref a_S)) (G_S : Fld Z Z.heap a_S "java/lang/Enum" "ordinal" "I" (.int 0)) (E_N : Exa Z Z.heap a_N "com/example/varasto/varasto/model/AttributeType") (S_N : Sta Z Z.heap "com/example/varasto/varasto/model/AttributeType" "N" "Lcom/example/varasto/varasto/model/AttributeType;" (.ref a_N)) (G_N : Fld Z Z.heap a_N "java/lang/Enum" "ordinal" "I" (.int 1)) (E_B : Exa Z Z.heap a_B "com/example/varasto/varasto/model/AttributeType") (S_B : Sta Z Z.heap "com/example/varasto/varasto/model/AttributeType" "B" "Lcom/example/varasto/varasto/model/AttributeType;" (.ref a_B)) (G_B : Fld Z Z.heap a_B "java/lang/Enum" "ordinal" "I" (.int 2)) (E_SS : Exa Z Z.heap a_SS "com/example/varasto/varasto/model/AttributeType") (S_SS : Sta Z Z.heap "com/example/varasto/varasto/model/AttributeType" "SS" "Lcom/example/varasto/varasto/model/AttributeType;" (.ref a_SS)) (G_SS : Fld Z Z.heap a_SS "java/lang/Enum" "ordinal" "I" (.int 3)) (E_NS : Exa Z Z.heap a_NS "com/example/varasto/varasto/model/AttributeType") (S_NS : Sta Z Z.heap "com/example/varasto/varasto/model/AttributeType" "NS" "Lcom/example/varasto/varasto/model/AttributeType;" (.ref a_NS)) (G_NS : Fld Z Z.heap a_NS "java/lang/Enum" "ordinal" "I" (.int 4)) (E_BS : Exa Z Z.heap a_BS "com/example/varasto/varasto/model/AttributeType") (S_BS : Sta Z Z.heap "com/example/varasto/varasto/model/AttributeType" "BS" "Lcom/example/varasto/varasto/model/AttributeType;" (.ref a_BS)) (G_BS : Fld Z Z.heap a_BS "java/lang/Enum" "ordinal" "I" (.int 5)) (E_BOOL : Exa Z Z.heap a_BOOL "com/example/varasto/varasto/model/AttributeType") (S_BOOL : Sta Z Z.heap "com/example/varasto/varasto/model/AttributeType" "BOOL" "Lcom/example/varasto/varasto/model/AttributeType;" (.ref a_BOOL)) (G_BOOL : Fld Z Z.heap a_BOOL "java/lang/Enum" "ordinal" "I" (.int 6)) (E_NULL : Exa Z Z.heap a_NULL "com/example/varasto/varasto/model/AttributeType") (S_NULL : Sta Z Z.heap "com/example/varasto/varasto/model/AttributeType" "NULL" "Lcom/example/varasto/varasto/model/AttributeType;" (.ref a_NULL)) (G_NULL : Fld Z Z.heap a_NULL "java/lang/Enum" "ordinal" "I" (.int 7)) (E_L : Exa Z Z.heap a_L "com/example/varasto/varasto/model/AttributeType") (S_L : Sta Z Z.heap "com/example/varasto/varasto/model/AttributeType" "L" "Lcom/example/varasto/varasto/model/AttributeType;" (.ref a_L)) (G_L : Fld Z Z.heap a_L "java/lang/Enum" "ordinal" "I" (.int 8)) (E_M : Exa Z Z.heap a_M "com/example/varasto/varasto/model/AttributeType") (S_M : Sta Z Z.heap "com/example/varasto/varasto/model/AttributeType" "M" "Lcom/example/varasto/varasto/model/AttributeType;" (.ref a_M)) (G_M : Fld Z Z.heap a_M "java/lang/Enum" "ordinal" "I" (.int 9)) :
    Met l Z x code maxLocals ret ws room_1 #[(.int p1)] h0 (Q_law Z p1 a_S a_N a_B a_SS a_NS a_BS a_BOOL a_NULL a_L a_M h0 n0) := by
  refine Met.start (plainFor_of_name pn_1) ?_
  intro p e s m below meth c T X hx hby hml hown hnm hret hlk hZ eT
  have N := Fr.nil n0
  refine Wout.cast (g' := (mkF m 0 #[.val (.int p1), .unset, .unset, .unset] [])) (by first | rfl | (simp [entryFrame, mkF, argsToLocals, Value.category, maxLocals]; done)) ?_
  refine o_bipush X hx 2 (10 : Int32) (hb hby at_0) rfl rfl ?_
  refine o_anewarray X hx hZ hown (hw _ (List.mem_of_getElem? (i := 0) rfl)) (hw _ (List.mem_of_getElem? (i := 1) rfl)) eT 5 (hb hby at_2) rfl (by decide) 10 (by decide) (by decide) (by decide) (by decide) (fun T h1 b1 k1 hb1 X eT E A Ov1 => ?_)
  have g_b1 : n0 ≤ b1 := Nat.le_trans Z0 (Nat.le_of_eq hb1.symm)
  replace Z0 := Nat.le_trans Z0 E.1
  replace O := O.ext E
  have V_b1 : Arv Z h1 b1 k1 (.object "com/example/varasto/varasto/model/AttributeType") (10 : Int32) [.null, .null, .null, .null, .null, .null, .null, .null, .null, .null] .null := A.pad (pad_rep [] .null 10)
  refine o_dup X hx 6 (hb hby at_5) rfl rfl ?_
  refine o_iconst X hx 7 (0 : Int32) (hb hby at_6) rfl rfl ?_
  refine o_getS X hx hZ hown (host := "") (Or.inl (hw _ (List.mem_of_getElem? (i := 2) rfl))) Via.refl eT (S_S.ext O.2) 10 (hb hby at_7) rfl (fun T X eT => ?_)
  refine o_aastore X hx hZ eT V_b1 rfl ⟨by decide, by decide⟩ 0 rfl (Nat.le_of_ble_eq_true rfl) (vs' := [(.ref a_S), .null, .null, .null, .null, .null, .null, .null, .null, .null]) rfl rfl (Sto.arv V_b1 Ov1 (Ins.self (E_S.ext O.2))) N g_b1 11 (hb hby at_10) rfl (fun T h2 locs X eT W V' N => ?_)
  replace Z0 := Nat.le_trans Z0 (Keep.of_wr W).1
  replace O := O.wr W g_b1
  replace V_b1 := V'
  refine o_dup X hx 12 (hb hby at_11) rfl rfl ?_
  refine o_iconst X hx 13 (1 : Int32) (hb hby at_12) rfl rfl ?_
  refine o_getS X hx hZ hown (host := "") (Or.inl (hw _ (List.mem_of_getElem? (i := 6) rfl))) Via.refl eT (S_N.ext O.2) 16 (hb hby at_13) rfl (fun T X eT => ?_)
  refine o_aastore X hx hZ eT V_b1 rfl ⟨by decide, by decide⟩ 1 rfl (Nat.le_of_ble_eq_true rfl) (vs' := [(.ref a_S), (.ref a_N), .null, .null, .null, .null, .null, .null, .null, .null]) rfl rfl (Sto.arv V_b1 Ov1 (Ins.self (E_N.ext O.2))) N g_b1 17 (hb hby at_16) rfl (fun T h3 locs X eT W V' N => ?_)
  replace Z0 := Nat.le_trans Z0 (Keep.of_wr W).1
  replace O := O.wr W g_b1
  replace V_b1 := V'
  refine o_dup X hx 18 (hb hby at_17) rfl rfl ?_
  refine o_iconst X hx 19 (2 : Int32) (hb hby at_18) rfl rfl ?_
  refine o_getS X hx hZ hown (host := "") (Or.inl (hw _ (List.mem_of_getElem? (i := 8) rfl))) Via.refl eT (S_B.ext O.2) 22 (hb hby at_19) rfl (fun T X eT => ?_)
  refine o_aastore X hx hZ eT V_b1 rfl ⟨by decide, by decide⟩ 2 rfl (Nat.le_of_ble_eq_true rfl) (vs' := [(.ref a_S), (.ref a_N), (.ref a_B), .null, .null, .null, .null, .null, .null, .null]) rfl rfl (Sto.arv V_b1 Ov1 (Ins.self (E_B.ext O.2))) N g_b1 23 (hb hby at_22) rfl (fun T h4 locs X eT W V' N => ?_)
  replace Z0 := Nat.le_trans Z0 (Keep.of_wr W).1
  replace O := O.wr W g_b1
  replace V_b1 := V'
  refine o_dup X hx 24 (hb hby at_23) rfl rfl ?_
  refine o_iconst X hx 25 (3 : Int32) (hb hby at_24) rfl rfl ?_
  refine o_getS X hx hZ hown (host := "") (Or.inl (hw _ (List.mem_of_getElem? (i := 10) rfl))) Via.refl eT (S_SS.ext O.2) 28 (hb hby at_25) rfl (fun T X eT => ?_)
  refine o_aastore X hx hZ eT V_b1 rfl ⟨by decide, by decide⟩ 3 rfl (Nat.le_of_ble_eq_true rfl) (vs' := [(.ref a_S), (.ref a_N), (.ref a_B), (.ref a_SS), .null, .null, .null, .null, .null, .null]) rfl rfl (Sto.arv V_b1 Ov1 (Ins.self (E_SS.ext O.2))) N g_b1 29 (hb hby at_28) rfl (fun T h5 locs X eT W V' N => ?_)
  replace Z0 := Nat.le_trans Z0 (Keep.of_wr W).1
  replace O := O.wr W g_b1
  replace V_b1 := V'
  refine o_dup X hx 30 (hb hby at_29) rfl rfl ?_
  refine o_iconst X hx 31 (4 : Int32) (hb hby at_30) rfl rfl ?_
  refine o_getS X hx hZ hown (host := "") (Or.inl (hw _ (List.mem_of_getElem? (i := 12) rfl))) Via.refl eT (S_NS.ext O.2) 34 (hb hby at_31) rfl (fun T X eT => ?_)
  refine o_aastore X hx hZ eT V_b1 rfl ⟨by decide, by decide⟩ 4 rfl (Nat.le_of_ble_eq_true rfl) (vs' := [(.ref a_S), (.ref a_N), (.ref a_B), (.ref a_SS), (.ref a_NS), .null, .null, .null, .null, .null]) rfl rfl (Sto.arv V_b1 Ov1 (Ins.self (E_NS.ext O.2))) N g_b1 35 (hb hby at_34) rfl (fun T h6 locs X eT W V' N => ?_)
  replace Z0 := Nat.le_trans Z0 (Keep.of_wr W).1
  replace O := O.wr W g_b1
  replace V_b1 := V'
  refine o_dup X hx 36 (hb hby at_35) rfl rfl ?_
  refine o_iconst X hx 37 (5 : Int32) (hb hby at_36) rfl rfl ?_
  refine o_getS X hx hZ hown (host := "") (Or.inl (hw _ (List.mem_of_getElem? (i := 14) rfl))) Via.refl eT (S_BS.ext O.2) 40 (hb hby at_37) rfl (fun T X eT => ?_)
  refine o_aastore X hx hZ eT V_b1 rfl ⟨by decide, by decide⟩ 5 rfl (Nat.le_of_ble_eq_true rfl) (vs' := [(.ref a_S), (.ref a_N), (.ref a_B), (.ref a_SS), (.ref a_NS), (.ref a_BS), .null, .null, .null, .null]) rfl rfl (Sto.arv V_b1 Ov1 (Ins.self (E_BS.ext O.2))) N g_b1 41 (hb hby at_40) rfl (fun T h7 locs X eT W V' N => ?_)
  replace Z0 := Nat.le_trans Z0 (Keep.of_wr W).1
  replace O := O.wr W g_b1
  replace V_b1 := V'
  refine o_dup X hx 42 (hb hby at_41) rfl rfl ?_
  refine o_bipush X hx 44 (6 : Int32) (hb hby at_42) rfl rfl ?_
  refine o_getS X hx hZ hown (host := "") (Or.inl (hw _ (List.mem_of_getElem? (i := 16) rfl))) Via.refl eT (S_BOOL.ext O.2) 47 (hb hby at_44) rfl (fun T X eT => ?_)
  refine o_aastore X hx hZ eT V_b1 rfl ⟨by decide, by decide⟩ 6 rfl (Nat.le_of_ble_eq_true rfl) (vs' := [(.ref a_S), (.ref a_N), (.ref a_B), (.ref a_SS), (.ref a_NS), (.ref a_BS), (.ref a_BOOL), .null, .null, .null]) rfl rfl (Sto.arv V_b1 Ov1 (Ins.self (E_BOOL.ext O.2))) N g_b1 48 (hb hby at_47) rfl (fun T h8 locs X eT W V' N => ?_)
  replace Z0 := Nat.le_trans Z0 (Keep.of_wr W).1
  replace O := O.wr W g_b1
  replace V_b1 := V'
  refine o_dup X hx 49 (hb hby at_48) rfl rfl ?_
  refine o_bipush X hx 51 (7 : Int32) (hb hby at_49) rfl rfl ?_
  refine o_getS X hx hZ hown (host := "") (Or.inl (hw _ (List.mem_of_getElem? (i := 18) rfl))) Via.refl eT (S_NULL.ext O.2) 54 (hb hby at_51) rfl (fun T X eT => ?_)
  refine o_aastore X hx hZ eT V_b1 rfl ⟨by decide, by decide⟩ 7 rfl (Nat.le_of_ble_eq_true rfl) (vs' := [(.ref a_S), (.ref a_N), (.ref a_B), (.ref a_SS), (.ref a_NS), (.ref a_BS), (.ref a_BOOL), (.ref a_NULL), .null, .null]) rfl rfl (Sto.arv V_b1 Ov1 (Ins.self (E_NULL.ext O.2))) N g_b1 55 (hb hby at_54) rfl (fun T h9 locs X eT W V' N => ?_)
  replace Z0 := Nat.le_trans Z0 (Keep.of_wr W).1
  replace O := O.wr W g_b1
  replace V_b1 := V'
  refine o_dup X hx 56 (hb hby at_55) rfl rfl ?_
  refine o_bipush X hx 58 (8 : Int32) (hb hby at_56) rfl rfl ?_
  refine o_getS X hx hZ hown (host := "") (Or.inl (hw _ (List.mem_of_getElem? (i := 20) rfl))) Via.refl eT (S_L.ext O.2) 61 (hb hby at_58) rfl (fun T X eT => ?_)
  refine o_aastore X hx hZ eT V_b1 rfl ⟨by decide, by decide⟩ 8 rfl (Nat.le_of_ble_eq_true rfl) (vs' := [(.ref a_S), (.ref a_N), (.ref a_B), (.ref a_SS), (.ref a_NS), (.ref a_BS), (.ref a_BOOL), (.ref a_NULL), (.ref a_L), .null]) rfl rfl (Sto.arv V_b1 Ov1 (Ins.self (E_L.ext O.2))) N g_b1 62 (hb hby at_61) rfl (fun T h10 locs X eT W V' N => ?_)
  replace Z0 := Nat.le_trans Z0 (Keep.of_wr W).1
  replace O := O.wr W g_b1
  replace V_b1 := V'
  refine o_dup X hx 63 (hb hby at_62) rfl rfl ?_
  refine o_bipush X hx 65 (9 : Int32) (hb hby at_63) rfl rfl ?_
  refine o_getS X hx hZ hown (host := "") (Or.inl (hw _ (List.mem_of_getElem? (i := 22) rfl))) Via.refl eT (S_M.ext O.2) 68 (hb hby at_65) rfl (fun T X eT => ?_)
  refine o_aastore X hx hZ eT V_b1 rfl ⟨by decide, by decide⟩ 9 rfl (Nat.le_of_ble_eq_true rfl) (vs' := [(.ref a_S), (.ref a_N), (.ref a_B), (.ref a_SS), (.ref a_NS), (.ref a_BS), (.ref a_BOOL), (.ref a_NULL), (.ref a_L), (.ref a_M)]) rfl rfl (Sto.arv V_b1 Ov1 (Ins.self (E_M.ext O.2))) N g_b1 69 (hb hby at_68) rfl (fun T h11 locs X eT W V' N => ?_)
  replace Z0 := Nat.le_trans Z0 (Keep.of_wr W).1
  replace O := O.wr W g_b1
  replace V_b1 := V'
  refine o_astoreN X hx 70 (Ls' := #[.val (.int p1), .val (.ref b1), .unset, .unset]) (hb hby at_69) rfl rfl rfl ?_
  refine o_bipush X hx 72 (10 : Int32) (hb hby at_70) rfl rfl ?_
  refine o_newarray X hx hZ (hw _ (List.mem_of_getElem? (i := 24) rfl)) eT 74 (hb hby at_72) rfl (by decide) 10 (by decide) (by decide) (by decide) (by decide) (fun T h12 b12 k12 hb12 X eT E A => ?_)
  have ne_b1_b12 : b1 ≠ b12 := Nat.ne_of_lt (Nat.lt_of_lt_of_eq V_b1.lt hb12.symm)
  have g_b12 : n0 ≤ b12 := Nat.le_trans Z0 (Nat.le_of_eq hb12.symm)
  replace V_b1 := V_b1.ext E
  replace Z0 := Nat.le_trans Z0 E.1
  replace O := O.ext E
  have V_b12 : Arv Z h12 b12 k12 .boolean (10 : Int32) [(.int (0 : Int32)), (.int (0 : Int32)), (.int (0 : Int32)), (.int (0 : Int32)), (.int (0 : Int32)), (.int (0 : Int32)), (.int (0 : Int32)), (.int (0 : Int32)), (.int (0 : Int32)), (.int (0 : Int32))] (.int (0 : Int32)) := A.pad (pad_rep [] (.int (0 : Int32)) 10)
  refine o_dup X hx 75 (hb hby at_74) rfl rfl ?_
  refine o_iconst X hx 76 (0 : Int32) (hb hby at_75) rfl rfl ?_
  refine o_iconst X hx 77 (1 : Int32) (hb hby at_76) rfl rfl ?_
  refine o_bastoreZ X hx hZ eT V_b12 ⟨by decide, by decide⟩ 0 rfl (Nat.le_of_ble_eq_true rfl) (vs' := [(.int (nar .boolean (1 : Int32))), (.int (0 : Int32)), (.int (0 : Int32)), (.int (0 : Int32)), (.int (0 : Int32)), (.int (0 : Int32)), (.int (0 : Int32)), (.int (0 : Int32)), (.int (0 : Int32)), (.int (0 : Int32))]) rfl N g_b12 78 (hb hby at_77) rfl (fun T h13 locs X eT W V' N => ?_)
  replace V_b1 := V_b1.other W ne_b1_b12
  replace Z0 := Nat.le_trans Z0 (Keep.of_wr W).1
  replace O := O.wr W g_b12
  replace V_b12 := V'
  refine o_dup X hx 79 (hb hby at_78) rfl rfl ?_
  refine o_iconst X hx 80 (1 : Int32) (hb hby at_79) rfl rfl ?_
  refine o_iconst X hx 81 (1 : Int32) (hb hby at_80) rfl rfl ?_
  refine o_bastoreZ X hx hZ eT V_b12 ⟨by decide, by decide⟩ 1 rfl (Nat.le_of_ble_eq_true rfl) (vs' := [(.int (nar .boolean (1 : Int32))), (.int (nar .boolean (1 : Int32))), (.int (0 : Int32)), (.int (0 : Int32)), (.int (0 : Int32)), (.int (0 : Int32)), (.int (0 : Int32)), (.int (0 : Int32)), (.int (0 : Int32)), (.int (0 : Int32))]) rfl N g_b12 82 (hb hby at_81) rfl (fun T h14 locs X eT W V' N => ?_)
  replace V_b1 := V_b1.other W ne_b1_b12
  replace Z0 := Nat.le_trans Z0 (Keep.of_wr W).1
  replace O := O.wr W g_b12
  replace V_b12 := V'
  refine o_dup X hx 83 (hb hby at_82) rfl rfl ?_
  refine o_iconst X hx 84 (2 : Int32) (hb hby at_83) rfl rfl ?_
  refine o_iconst X hx 85 (1 : Int32) (hb hby at_84) rfl rfl ?_
  refine o_bastoreZ X hx hZ eT V_b12 ⟨by decide, by decide⟩ 2 rfl (Nat.le_of_ble_eq_true rfl) (vs' := [(.int (nar .boolean (1 : Int32))), (.int (nar .boolean (1 : Int32))), (.int (nar .boolean (1 : Int32))), (.int (0 : Int32)), (.int (0 : Int32)), (.int (0 : Int32)), (.int (0 : Int32)), (.int (0 : Int32)), (.int (0 : Int32)), (.int (0 : Int32))]) rfl N g_b12 86 (hb hby at_85) rfl (fun T h15 locs X eT W V' N => ?_)
  replace V_b1 := V_b1.other W ne_b1_b12
  replace Z0 := Nat.le_trans Z0 (Keep.of_wr W).1
  replace O := O.wr W g_b12
  replace V_b12 := V'
  refine o_dup X hx 87 (hb hby at_86) rfl rfl ?_
  refine o_iconst X hx 88 (3 : Int32) (hb hby at_87) rfl rfl ?_
  refine o_iconst X hx 89 (0 : Int32) (hb hby at_88) rfl rfl ?_
  refine o_bastoreZ X hx hZ eT V_b12 ⟨by decide, by decide⟩ 3 rfl (Nat.le_of_ble_eq_true rfl) (vs' := [(.int (nar .boolean (1 : Int32))), (.int (nar .boolean (1 : Int32))), (.int (nar .boolean (1 : Int32))), (.int (nar .boolean (0 : Int32))), (.int (0 : Int32)), (.int (0 : Int32)), (.int (0 : Int32)), (.int (0 : Int32)), (.int (0 : Int32)), (.int (0 : Int32))]) rfl N g_b12 90 (hb hby at_89) rfl (fun T h16 locs X eT W V' N => ?_)
  replace V_b1 := V_b1.other W ne_b1_b12
  replace Z0 := Nat.le_trans Z0 (Keep.of_wr W).1
  replace O := O.wr W g_b12
  replace V_b12 := V'
  refine o_dup X hx 91 (hb hby at_90) rfl rfl ?_
  refine o_iconst X hx 92 (4 : Int32) (hb hby at_91) rfl rfl ?_
  refine o_iconst X hx 93 (0 : Int32) (hb hby at_92) rfl rfl ?_
  refine o_bastoreZ X hx hZ eT V_b12 ⟨by decide, by decide⟩ 4 rfl (Nat.le_of_ble_eq_true rfl) (vs' := [(.int (nar .boolean (1 : Int32))), (.int (nar .boolean (1 : Int32))), (.int (nar .boolean (1 : Int32))), (.int (nar .boolean (0 : Int32))), (.int (nar .boolean (0 : Int32))), (.int (0 : Int32)), (.int (0 : Int32)), (.int (0 : Int32)), (.int (0 : Int32)), (.int (0 : Int32))]) rfl N g_b12 94 (hb hby at_93) rfl (fun T h17 locs X eT W V' N => ?_)
  replace V_b1 := V_b1.other W ne_b1_b12
  replace Z0 := Nat.le_trans Z0 (Keep.of_wr W).1
  replace O := O.wr W g_b12
  replace V_b12 := V'
  refine o_dup X hx 95 (hb hby at_94) rfl rfl ?_
  refine o_iconst X hx 96 (5 : Int32) (hb hby at_95) rfl rfl ?_
  refine o_iconst X hx 97 (0 : Int32) (hb hby at_96) rfl rfl ?_
  refine o_bastoreZ X hx hZ eT V_b12 ⟨by decide, by decide⟩ 5 rfl (Nat.le_of_ble_eq_true rfl) (vs' := [(.int (nar .boolean (1 : Int32))), (.int (nar .boolean (1 : Int32))), (.int (nar .boolean (1 : Int32))), (.int (nar .boolean (0 : Int32))), (.int (nar .boolean (0 : Int32))), (.int (nar .boolean (0 : Int32))), (.int (0 : Int32)), (.int (0 : Int32)), (.int (0 : Int32)), (.int (0 : Int32))]) rfl N g_b12 98 (hb hby at_97) rfl (fun T h18 locs X eT W V' N => ?_)
  replace V_b1 := V_b1.other W ne_b1_b12
  replace Z0 := Nat.le_trans Z0 (Keep.of_wr W).1
  replace O := O.wr W g_b12
  replace V_b12 := V'
  refine o_dup X hx 99 (hb hby at_98) rfl rfl ?_
  refine o_bipush X hx 101 (6 : Int32) (hb hby at_99) rfl rfl ?_
  refine o_iconst X hx 102 (0 : Int32) (hb hby at_101) rfl rfl ?_
  refine o_bastoreZ X hx hZ eT V_b12 ⟨by decide, by decide⟩ 6 rfl (Nat.le_of_ble_eq_true rfl) (vs' := [(.int (nar .boolean (1 : Int32))), (.int (nar .boolean (1 : Int32))), (.int (nar .boolean (1 : Int32))), (.int (nar .boolean (0 : Int32))), (.int (nar .boolean (0 : Int32))), (.int (nar .boolean (0 : Int32))), (.int (nar .boolean (0 : Int32))), (.int (0 : Int32)), (.int (0 : Int32)), (.int (0 : Int32))]) rfl N g_b12 103 (hb hby at_102) rfl (fun T h19 locs X eT W V' N => ?_)
  replace V_b1 := V_b1.other W ne_b1_b12
  replace Z0 := Nat.le_trans Z0 (Keep.of_wr W).1
  replace O := O.wr W g_b12
  replace V_b12 := V'
  refine o_dup X hx 104 (hb hby at_103) rfl rfl ?_
  refine o_bipush X hx 106 (7 : Int32) (hb hby at_104) rfl rfl ?_
  refine o_iconst X hx 107 (0 : Int32) (hb hby at_106) rfl rfl ?_
  refine o_bastoreZ X hx hZ eT V_b12 ⟨by decide, by decide⟩ 7 rfl (Nat.le_of_ble_eq_true rfl) (vs' := [(.int (nar .boolean (1 : Int32))), (.int (nar .boolean (1 : Int32))), (.int (nar .boolean (1 : Int32))), (.int (nar .boolean (0 : Int32))), (.int (nar .boolean (0 : Int32))), (.int (nar .boolean (0 : Int32))), (.int (nar .boolean (0 : Int32))), (.int (nar .boolean (0 : Int32))), (.int (0 : Int32)), (.int (0 : Int32))]) rfl N g_b12 108 (hb hby at_107) rfl (fun T h20 locs X eT W V' N => ?_)
  replace V_b1 := V_b1.other W ne_b1_b12
  replace Z0 := Nat.le_trans Z0 (Keep.of_wr W).1
  replace O := O.wr W g_b12
  replace V_b12 := V'
  refine o_dup X hx 109 (hb hby at_108) rfl rfl ?_
  refine o_bipush X hx 111 (8 : Int32) (hb hby at_109) rfl rfl ?_
  refine o_iconst X hx 112 (0 : Int32) (hb hby at_111) rfl rfl ?_
  refine o_bastoreZ X hx hZ eT V_b12 ⟨by decide, by decide⟩ 8 rfl (Nat.le_of_ble_eq_true rfl) (vs' := [(.int (nar .boolean (1 : Int32))), (.int (nar .boolean (1 : Int32))), (.int (nar .boolean (1 : Int32))), (.int (nar .boolean (0 : Int32))), (.int (nar .boolean (0 : Int32))), (.int (nar .boolean (0 : Int32))), (.int (nar .boolean (0 : Int32))), (.int (nar .boolean (0 : Int32))), (.int (nar .boolean (0 : Int32))), (.int (0 : Int32))]) rfl N g_b12 113 (hb hby at_112) rfl (fun T h21 locs X eT W V' N => ?_)
  replace V_b1 := V_b1.other W ne_b1_b12
  replace Z0 := Nat.le_trans Z0 (Keep.of_wr W).1
  replace O := O.wr W g_b12
  replace V_b12 := V'
  refine o_dup X hx 114 (hb hby at_113) rfl rfl ?_
  refine o_bipush X hx 116 (9 : Int32) (hb hby at_114) rfl rfl ?_
  refine o_iconst X hx 117 (0 : Int32) (hb hby at_116) rfl rfl ?_
  refine o_bastoreZ X hx hZ eT V_b12 ⟨by decide, by decide⟩ 9 rfl (Nat.le_of_ble_eq_true rfl) (vs' := [(.int (nar .boolean (1 : Int32))), (.int (nar .boolean (1 : Int32))), (.int (nar .boolean (1 : Int32))), (.int (nar .boolean (0 : Int32))), (.int (nar .boolean (0 : Int32))), (.int (nar .boolean (0 : Int32))), (.int (nar .boolean (0 : Int32))), (.int (nar .boolean (0 : Int32))), (.int (nar .boolean (0 : Int32))), (.int (nar .boolean (0 : Int32)))]) rfl N g_b12 118 (hb hby at_117) rfl (fun T h22 locs X eT W V' N => ?_)
  replace V_b1 := V_b1.other W ne_b1_b12
  replace Z0 := Nat.le_trans Z0 (Keep.of_wr W).1
  replace O := O.wr W g_b12
  replace V_b12 := V'
  refine o_astoreN X hx 119 (Ls' := #[.val (.int p1), .val (.ref b1), .val (.ref b12), .unset]) (hb hby at_118) rfl rfl rfl ?_
  refine o_iloadN X hx 120 (hb hby at_119) rfl rfl ?_
  refine o_ldc X hx hZ 122 hown (hw _ (List.mem_of_getElem? (i := 25) rfl)) (hb hby at_120) rfl ?_
  refine o_iand X hx 123 (hb hby at_122) rfl ?_
  refine o_bipush X hx 125 (10 : Int32) (hb hby at_123) rfl rfl ?_
  refine o_irem X hx 126 (hb hby at_125) (by decide) rfl ?_
  obtain ⟨k, h_k⟩ : ∃ z, z = ((p1 &&& (2147483647 : Int32)) % (10 : Int32)) := ⟨_, rfl⟩
  rw [← h_k]
  have hk : 0 ≤ k.toInt ∧ k.toInt < 10 := by rw [h_k]; exact rem_in (n := 10) (mask31 p1) (by decide)
  clear h_k
  rcases own_in10 hk.1 hk.2 with rfl | rfl | rfl | rfl | rfl | rfl | rfl | rfl | rfl | rfl
  · show Wout p e below _ T (mkF m 126 #[.val (.int p1), .val (.ref b1), .val (.ref b12), .unset] [(.int (0 : Int32))])
    refine o_istoreN X hx 127 (Ls' := #[.val (.int p1), .val (.ref b1), .val (.ref b12), .val (.int (0 : Int32))]) (hb hby at_126) rfl rfl ?_
    refine o_aloadN X hx 128 (hb hby at_127) rfl rfl rfl ?_
    refine o_iloadN X hx 129 (hb hby at_128) rfl rfl ?_
    refine o_aaload X hx hZ eT V_b1 rfl ⟨by decide, by decide⟩ (v := (.ref a_S)) rfl 130 (hb hby at_129) rfl ?_
    refine o_callV X hx hZ hown (hw _ (List.mem_of_getElem? (i := 26) rfl)) (hw _ (List.mem_of_getElem? (i := 27) rfl)) (hw _ (List.mem_of_getElem? (i := 29) rfl)) (hw _ (List.mem_of_getElem? (i := 28) rfl)) (hw _ (List.mem_of_getElem? (i := 3) rfl)) (hw _ (List.mem_of_getElem? (i := 30) rfl)) (by decide) (rm_keyS l Z a0 hw [] a_S a_S a_N a_B _ n0 Z0 (S_S.ext O.2) (S_N.ext O.2) (S_B.ext O.2) rfl) eT (by decide) 0 (by decide) (by rw [hml]; rfl) (E_S.ext O.2) [] (rest := []) (lenOf pd_0 rfl) rfl rfl (Nat.le_of_eq rfl) (by decide) (by decide) 133 (hb hby at_130) rfl (fun v T h23 Lc X eT q => ?_)
    obtain ⟨rfl, N', e'⟩ := q
    replace N := Fr.app N N'
    replace eT := eT.trans e'
    show Wout p e below _ T (mkF m 133 #[.val (.int p1), .val (.ref b1), .val (.ref b12), .val (.int (0 : Int32))] [(.int (1 : Int32))])
    refine o_aloadN X hx 134 (hb hby at_133) rfl rfl rfl ?_
    refine o_iloadN X hx 135 (hb hby at_134) rfl rfl ?_
    refine o_baloadZ X hx hZ eT V_b12 ⟨by decide, by decide⟩ (v := (.int (nar .boolean (1 : Int32)))) rfl 136 (hb hby at_135) rfl ?_
    refine o_icmpF X hx 139 (hb hby at_136) rfl (by decide : (1 : Int32) = (nar .boolean (1 : Int32))) ?_
    refine o_iconst X hx 140 (1 : Int32) (hb hby at_139) rfl rfl ?_
    refine o_goto X hx 144 (hb hby at_140) rfl ?_
    exact o_retI X hx hlk hret rfl (by simp) (hb hby at_144) (by decide) (by decide) (by rw [eT]; exact ⟨rfl, N, trivial⟩)
  · show Wout p e below _ T (mkF m 126 #[.val (.int p1), .val (.ref b1), .val (.ref b12), .unset] [(.int (1 : Int32))])
    refine o_istoreN X hx 127 (Ls' := #[.val (.int p1), .val (.ref b1), .val (.ref b12), .val (.int (1 : Int32))]) (hb hby at_126) rfl rfl ?_
    refine o_aloadN X hx 128 (hb hby at_127) rfl rfl rfl ?_
    refine o_iloadN X hx 129 (hb hby at_128) rfl rfl ?_
    refine o_aaload X hx hZ eT V_b1 rfl ⟨by decide, by decide⟩ (v := (.ref a_N)) rfl 130 (hb hby at_129) rfl ?_
    refine o_callV X hx hZ hown (hw _ (List.mem_of_getElem? (i := 26) rfl)) (hw _ (List.mem_of_getElem? (i := 27) rfl)) (hw _ (List.mem_of_getElem? (i := 29) rfl)) (hw _ (List.mem_of_getElem? (i := 28) rfl)) (hw _ (List.mem_of_getElem? (i := 3) rfl)) (hw _ (List.mem_of_getElem? (i := 30) rfl)) (by decide) (rm_keyN l Z a0 hw [] a_N a_S a_N a_B _ n0 Z0 (S_S.ext O.2) (S_N.ext O.2) (S_B.ext O.2) (Fld.ne G_N G_S (fun q => absurd (Value.int.inj q) (by decide))) rfl) eT (by decide) 0 (by decide) (by rw [hml]; rfl) (E_N.ext O.2) [] (rest := []) (lenOf pd_0 rfl) rfl rfl (Nat.le_of_eq rfl) (by decide) (by decide) 133 (hb hby at_130) rfl (fun v T h24 Lc X eT q => ?_)
    obtain ⟨rfl, N', e'⟩ := q
    replace N := Fr.app N N'
    replace eT := eT.trans e'
    show Wout p e below _ T (mkF m 133 #[.val (.int p1), .val (.ref b1), .val (.ref b12), .val (.int (1 : Int32))] [(.int (1 : Int32))])
    refine o_aloadN X hx 134 (hb hby at_133) rfl rfl rfl ?_
    refine o_iloadN X hx 135 (hb hby at_134) rfl rfl ?_
    refine o_baloadZ X hx hZ eT V_b12 ⟨by decide, by decide⟩ (v := (.int (nar .boolean (1 : Int32)))) rfl 136 (hb hby at_135) rfl ?_
    refine o_icmpF X hx 139 (hb hby at_136) rfl (by decide : (1 : Int32) = (nar .boolean (1 : Int32))) ?_
    refine o_iconst X hx 140 (1 : Int32) (hb hby at_139) rfl rfl ?_
    refine o_goto X hx 144 (hb hby at_140) rfl ?_
    exact o_retI X hx hlk hret rfl (by simp) (hb hby at_144) (by decide) (by decide) (by rw [eT]; exact ⟨rfl, N, trivial⟩)
  · show Wout p e below _ T (mkF m 126 #[.val (.int p1), .val (.ref b1), .val (.ref b12), .unset] [(.int (2 : Int32))])
    refine o_istoreN X hx 127 (Ls' := #[.val (.int p1), .val (.ref b1), .val (.ref b12), .val (.int (2 : Int32))]) (hb hby at_126) rfl rfl ?_
    refine o_aloadN X hx 128 (hb hby at_127) rfl rfl rfl ?_
    refine o_iloadN X hx 129 (hb hby at_128) rfl rfl ?_
    refine o_aaload X hx hZ eT V_b1 rfl ⟨by decide, by decide⟩ (v := (.ref a_B)) rfl 130 (hb hby at_129) rfl ?_
    refine o_callV X hx hZ hown (hw _ (List.mem_of_getElem? (i := 26) rfl)) (hw _ (List.mem_of_getElem? (i := 27) rfl)) (hw _ (List.mem_of_getElem? (i := 29) rfl)) (hw _ (List.mem_of_getElem? (i := 28) rfl)) (hw _ (List.mem_of_getElem? (i := 3) rfl)) (hw _ (List.mem_of_getElem? (i := 30) rfl)) (by decide) (rm_keyB l Z a0 hw [] a_B a_S a_N a_B _ n0 Z0 (S_S.ext O.2) (S_N.ext O.2) (S_B.ext O.2) (Fld.ne G_B G_S (fun q => absurd (Value.int.inj q) (by decide))) (Fld.ne G_B G_N (fun q => absurd (Value.int.inj q) (by decide))) rfl) eT (by decide) 0 (by decide) (by rw [hml]; rfl) (E_B.ext O.2) [] (rest := []) (lenOf pd_0 rfl) rfl rfl (Nat.le_of_eq rfl) (by decide) (by decide) 133 (hb hby at_130) rfl (fun v T h25 Lc X eT q => ?_)
    obtain ⟨rfl, N', e'⟩ := q
    replace N := Fr.app N N'
    replace eT := eT.trans e'
    show Wout p e below _ T (mkF m 133 #[.val (.int p1), .val (.ref b1), .val (.ref b12), .val (.int (2 : Int32))] [(.int (1 : Int32))])
    refine o_aloadN X hx 134 (hb hby at_133) rfl rfl rfl ?_
    refine o_iloadN X hx 135 (hb hby at_134) rfl rfl ?_
    refine o_baloadZ X hx hZ eT V_b12 ⟨by decide, by decide⟩ (v := (.int (nar .boolean (1 : Int32)))) rfl 136 (hb hby at_135) rfl ?_
    refine o_icmpF X hx 139 (hb hby at_136) rfl (by decide : (1 : Int32) = (nar .boolean (1 : Int32))) ?_
    refine o_iconst X hx 140 (1 : Int32) (hb hby at_139) rfl rfl ?_
    refine o_goto X hx 144 (hb hby at_140) rfl ?_
    exact o_retI X hx hlk hret rfl (by simp) (hb hby at_144) (by decide) (by decide) (by rw [eT]; exact ⟨rfl, N, trivial⟩)
  · show Wout p e below _ T (mkF m 126 #[.val (.int p1), .val (.ref b1), .val (.ref b12), .unset] [(.int (3 : Int32))])
    refine o_istoreN X hx 127 (Ls' := #[.val (.int p1), .val (.ref b1), .val (.ref b12), .val (.int (3 : Int32))]) (hb hby at_126) rfl rfl ?_
    refine o_aloadN X hx 128 (hb hby at_127) rfl rfl rfl ?_
    refine o_iloadN X hx 129 (hb hby at_128) rfl rfl ?_
    refine o_aaload X hx hZ eT V_b1 rfl ⟨by decide, by decide⟩ (v := (.ref a_SS)) rfl 130 (hb hby at_129) rfl ?_
    refine o_callV X hx hZ hown (hw _ (List.mem_of_getElem? (i := 26) rfl)) (hw _ (List.mem_of_getElem? (i := 27) rfl)) (hw _ (List.mem_of_getElem? (i := 29) rfl)) (hw _ (List.mem_of_getElem? (i := 28) rfl)) (hw _ (List.mem_of_getElem? (i := 3) rfl)) (hw _ (List.mem_of_getElem? (i := 30) rfl)) (by decide) (rm_key0 l Z a0 hw [] a_SS a_S a_N a_B _ n0 Z0 (S_S.ext O.2) (S_N.ext O.2) (S_B.ext O.2) (Fld.ne G_SS G_S (fun q => absurd (Value.int.inj q) (by decide))) (Fld.ne G_SS G_N (fun q => absurd (Value.int.inj q) (by decide))) (Fld.ne G_SS G_B (fun q => absurd (Value.int.inj q) (by decide)))) eT (by decide) 0 (by decide) (by rw [hml]; rfl) (E_SS.ext O.2) [] (rest := []) (lenOf pd_0 rfl) rfl rfl (Nat.le_of_eq rfl) (by decide) (by decide) 133 (hb hby at_130) rfl (fun v T h26 Lc X eT q => ?_)
    obtain ⟨rfl, N', e'⟩ := q
    replace N := Fr.app N N'
    replace eT := eT.trans e'
    show Wout p e below _ T (mkF m 133 #[.val (.int p1), .val (.ref b1), .val (.ref b12), .val (.int (3 : Int32))] [(.int (0 : Int32))])
    refine o_aloadN X hx 134 (hb hby at_133) rfl rfl rfl ?_
    refine o_iloadN X hx 135 (hb hby at_134) rfl rfl ?_
    refine o_baloadZ X hx hZ eT V_b12 ⟨by decide, by decide⟩ (v := (.int (nar .boolean (0 : Int32)))) rfl 136 (hb hby at_135) rfl ?_
    refine o_icmpF X hx 139 (hb hby at_136) rfl (by decide : (0 : Int32) = (nar .boolean (0 : Int32))) ?_
    refine o_iconst X hx 140 (1 : Int32) (hb hby at_139) rfl rfl ?_
    refine o_goto X hx 144 (hb hby at_140) rfl ?_
    exact o_retI X hx hlk hret rfl (by simp) (hb hby at_144) (by decide) (by decide) (by rw [eT]; exact ⟨rfl, N, trivial⟩)
  · show Wout p e below _ T (mkF m 126 #[.val (.int p1), .val (.ref b1), .val (.ref b12), .unset] [(.int (4 : Int32))])
    refine o_istoreN X hx 127 (Ls' := #[.val (.int p1), .val (.ref b1), .val (.ref b12), .val (.int (4 : Int32))]) (hb hby at_126) rfl rfl ?_
    refine o_aloadN X hx 128 (hb hby at_127) rfl rfl rfl ?_
    refine o_iloadN X hx 129 (hb hby at_128) rfl rfl ?_
    refine o_aaload X hx hZ eT V_b1 rfl ⟨by decide, by decide⟩ (v := (.ref a_NS)) rfl 130 (hb hby at_129) rfl ?_
    refine o_callV X hx hZ hown (hw _ (List.mem_of_getElem? (i := 26) rfl)) (hw _ (List.mem_of_getElem? (i := 27) rfl)) (hw _ (List.mem_of_getElem? (i := 29) rfl)) (hw _ (List.mem_of_getElem? (i := 28) rfl)) (hw _ (List.mem_of_getElem? (i := 3) rfl)) (hw _ (List.mem_of_getElem? (i := 30) rfl)) (by decide) (rm_key0 l Z a0 hw [] a_NS a_S a_N a_B _ n0 Z0 (S_S.ext O.2) (S_N.ext O.2) (S_B.ext O.2) (Fld.ne G_NS G_S (fun q => absurd (Value.int.inj q) (by decide))) (Fld.ne G_NS G_N (fun q => absurd (Value.int.inj q) (by decide))) (Fld.ne G_NS G_B (fun q => absurd (Value.int.inj q) (by decide)))) eT (by decide) 0 (by decide) (by rw [hml]; rfl) (E_NS.ext O.2) [] (rest := []) (lenOf pd_0 rfl) rfl rfl (Nat.le_of_eq rfl) (by decide) (by decide) 133 (hb hby at_130) rfl (fun v T h27 Lc X eT q => ?_)
    obtain ⟨rfl, N', e'⟩ := q
    replace N := Fr.app N N'
    replace eT := eT.trans e'
    show Wout p e below _ T (mkF m 133 #[.val (.int p1), .val (.ref b1), .val (.ref b12), .val (.int (4 : Int32))] [(.int (0 : Int32))])
    refine o_aloadN X hx 134 (hb hby at_133) rfl rfl rfl ?_
    refine o_iloadN X hx 135 (hb hby at_134) rfl rfl ?_
    refine o_baloadZ X hx hZ eT V_b12 ⟨by decide, by decide⟩ (v := (.int (nar .boolean (0 : Int32)))) rfl 136 (hb hby at_135) rfl ?_
    refine o_icmpF X hx 139 (hb hby at_136) rfl (by decide : (0 : Int32) = (nar .boolean (0 : Int32))) ?_
    refine o_iconst X hx 140 (1 : Int32) (hb hby at_139) rfl rfl ?_
    refine o_goto X hx 144 (hb hby at_140) rfl ?_
    exact o_retI X hx hlk hret rfl (by simp) (hb hby at_144) (by decide) (by decide) (by rw [eT]; exact ⟨rfl, N, trivial⟩)
  · show Wout p e below _ T (mkF m 126 #[.val (.int p1), .val (.ref b1), .val (.ref b12), .unset] [(.int (5 : Int32))])
    refine o_istoreN X hx 127 (Ls' := #[.val (.int p1), .val (.ref b1), .val (.ref b12), .val (.int (5 : Int32))]) (hb hby at_126) rfl rfl ?_
    refine o_aloadN X hx 128 (hb hby at_127) rfl rfl rfl ?_
    refine o_iloadN X hx 129 (hb hby at_128) rfl rfl ?_
    refine o_aaload X hx hZ eT V_b1 rfl ⟨by decide, by decide⟩ (v := (.ref a_BS)) rfl 130 (hb hby at_129) rfl ?_
    refine o_callV X hx hZ hown (hw _ (List.mem_of_getElem? (i := 26) rfl)) (hw _ (List.mem_of_getElem? (i := 27) rfl)) (hw _ (List.mem_of_getElem? (i := 29) rfl)) (hw _ (List.mem_of_getElem? (i := 28) rfl)) (hw _ (List.mem_of_getElem? (i := 3) rfl)) (hw _ (List.mem_of_getElem? (i := 30) rfl)) (by decide) (rm_key0 l Z a0 hw [] a_BS a_S a_N a_B _ n0 Z0 (S_S.ext O.2) (S_N.ext O.2) (S_B.ext O.2) (Fld.ne G_BS G_S (fun q => absurd (Value.int.inj q) (by decide))) (Fld.ne G_BS G_N (fun q => absurd (Value.int.inj q) (by decide))) (Fld.ne G_BS G_B (fun q => absurd (Value.int.inj q) (by decide)))) eT (by decide) 0 (by decide) (by rw [hml]; rfl) (E_BS.ext O.2) [] (rest := []) (lenOf pd_0 rfl) rfl rfl (Nat.le_of_eq rfl) (by decide) (by decide) 133 (hb hby at_130) rfl (fun v T h28 Lc X eT q => ?_)
    obtain ⟨rfl, N', e'⟩ := q
    replace N := Fr.app N N'
    replace eT := eT.trans e'
    show Wout p e below _ T (mkF m 133 #[.val (.int p1), .val (.ref b1), .val (.ref b12), .val (.int (5 : Int32))] [(.int (0 : Int32))])
    refine o_aloadN X hx 134 (hb hby at_133) rfl rfl rfl ?_
    refine o_iloadN X hx 135 (hb hby at_134) rfl rfl ?_
    refine o_baloadZ X hx hZ eT V_b12 ⟨by decide, by decide⟩ (v := (.int (nar .boolean (0 : Int32)))) rfl 136 (hb hby at_135) rfl ?_
    refine o_icmpF X hx 139 (hb hby at_136) rfl (by decide : (0 : Int32) = (nar .boolean (0 : Int32))) ?_
    refine o_iconst X hx 140 (1 : Int32) (hb hby at_139) rfl rfl ?_
    refine o_goto X hx 144 (hb hby at_140) rfl ?_
    exact o_retI X hx hlk hret rfl (by simp) (hb hby at_144) (by decide) (by decide) (by rw [eT]; exact ⟨rfl, N, trivial⟩)
  · show Wout p e below _ T (mkF m 126 #[.val (.int p1), .val (.ref b1), .val (.ref b12), .unset] [(.int (6 : Int32))])
    refine o_istoreN X hx 127 (Ls' := #[.val (.int p1), .val (.ref b1), .val (.ref b12), .val (.int (6 : Int32))]) (hb hby at_126) rfl rfl ?_
    refine o_aloadN X hx 128 (hb hby at_127) rfl rfl rfl ?_
    refine o_iloadN X hx 129 (hb hby at_128) rfl rfl ?_
    refine o_aaload X hx hZ eT V_b1 rfl ⟨by decide, by decide⟩ (v := (.ref a_BOOL)) rfl 130 (hb hby at_129) rfl ?_
    refine o_callV X hx hZ hown (hw _ (List.mem_of_getElem? (i := 26) rfl)) (hw _ (List.mem_of_getElem? (i := 27) rfl)) (hw _ (List.mem_of_getElem? (i := 29) rfl)) (hw _ (List.mem_of_getElem? (i := 28) rfl)) (hw _ (List.mem_of_getElem? (i := 3) rfl)) (hw _ (List.mem_of_getElem? (i := 30) rfl)) (by decide) (rm_key0 l Z a0 hw [] a_BOOL a_S a_N a_B _ n0 Z0 (S_S.ext O.2) (S_N.ext O.2) (S_B.ext O.2) (Fld.ne G_BOOL G_S (fun q => absurd (Value.int.inj q) (by decide))) (Fld.ne G_BOOL G_N (fun q => absurd (Value.int.inj q) (by decide))) (Fld.ne G_BOOL G_B (fun q => absurd (Value.int.inj q) (by decide)))) eT (by decide) 0 (by decide) (by rw [hml]; rfl) (E_BOOL.ext O.2) [] (rest := []) (lenOf pd_0 rfl) rfl rfl (Nat.le_of_eq rfl) (by decide) (by decide) 133 (hb hby at_130) rfl (fun v T h29 Lc X eT q => ?_)
    obtain ⟨rfl, N', e'⟩ := q
    replace N := Fr.app N N'
    replace eT := eT.trans e'
    show Wout p e below _ T (mkF m 133 #[.val (.int p1), .val (.ref b1), .val (.ref b12), .val (.int (6 : Int32))] [(.int (0 : Int32))])
    refine o_aloadN X hx 134 (hb hby at_133) rfl rfl rfl ?_
    refine o_iloadN X hx 135 (hb hby at_134) rfl rfl ?_
    refine o_baloadZ X hx hZ eT V_b12 ⟨by decide, by decide⟩ (v := (.int (nar .boolean (0 : Int32)))) rfl 136 (hb hby at_135) rfl ?_
    refine o_icmpF X hx 139 (hb hby at_136) rfl (by decide : (0 : Int32) = (nar .boolean (0 : Int32))) ?_
    refine o_iconst X hx 140 (1 : Int32) (hb hby at_139) rfl rfl ?_
    refine o_goto X hx 144 (hb hby at_140) rfl ?_
    exact o_retI X hx hlk hret rfl (by simp) (hb hby at_144) (by decide) (by decide) (by rw [eT]; exact ⟨rfl, N, trivial⟩)
  · show Wout p e below _ T (mkF m 126 #[.val (.int p1), .val (.ref b1), .val (.ref b12), .unset] [(.int (7 : Int32))])
    refine o_istoreN X hx 127 (Ls' := #[.val (.int p1), .val (.ref b1), .val (.ref b12), .val (.int (7 : Int32))]) (hb hby at_126) rfl rfl ?_
    refine o_aloadN X hx 128 (hb hby at_127) rfl rfl rfl ?_
    refine o_iloadN X hx 129 (hb hby at_128) rfl rfl ?_
    refine o_aaload X hx hZ eT V_b1 rfl ⟨by decide, by decide⟩ (v := (.ref a_NULL)) rfl 130 (hb hby at_129) rfl ?_
    refine o_callV X hx hZ hown (hw _ (List.mem_of_getElem? (i := 26) rfl)) (hw _ (List.mem_of_getElem? (i := 27) rfl)) (hw _ (List.mem_of_getElem? (i := 29) rfl)) (hw _ (List.mem_of_getElem? (i := 28) rfl)) (hw _ (List.mem_of_getElem? (i := 3) rfl)) (hw _ (List.mem_of_getElem? (i := 30) rfl)) (by decide) (rm_key0 l Z a0 hw [] a_NULL a_S a_N a_B _ n0 Z0 (S_S.ext O.2) (S_N.ext O.2) (S_B.ext O.2) (Fld.ne G_NULL G_S (fun q => absurd (Value.int.inj q) (by decide))) (Fld.ne G_NULL G_N (fun q => absurd (Value.int.inj q) (by decide))) (Fld.ne G_NULL G_B (fun q => absurd (Value.int.inj q) (by decide)))) eT (by decide) 0 (by decide) (by rw [hml]; rfl) (E_NULL.ext O.2) [] (rest := []) (lenOf pd_0 rfl) rfl rfl (Nat.le_of_eq rfl) (by decide) (by decide) 133 (hb hby at_130) rfl (fun v T h30 Lc X eT q => ?_)
    obtain ⟨rfl, N', e'⟩ := q
    replace N := Fr.app N N'
    replace eT := eT.trans e'
    show Wout p e below _ T (mkF m 133 #[.val (.int p1), .val (.ref b1), .val (.ref b12), .val (.int (7 : Int32))] [(.int (0 : Int32))])
    refine o_aloadN X hx 134 (hb hby at_133) rfl rfl rfl ?_
    refine o_iloadN X hx 135 (hb hby at_134) rfl rfl ?_
    refine o_baloadZ X hx hZ eT V_b12 ⟨by decide, by decide⟩ (v := (.int (nar .boolean (0 : Int32)))) rfl 136 (hb hby at_135) rfl ?_
    refine o_icmpF X hx 139 (hb hby at_136) rfl (by decide : (0 : Int32) = (nar .boolean (0 : Int32))) ?_
    refine o_iconst X hx 140 (1 : Int32) (hb hby at_139) rfl rfl ?_
    refine o_goto X hx 144 (hb hby at_140) rfl ?_
    exact o_retI X hx hlk hret rfl (by simp) (hb hby at_144) (by decide) (by decide) (by rw [eT]; exact ⟨rfl, N, trivial⟩)
  · show Wout p e below _ T (mkF m 126 #[.val (.int p1), .val (.ref b1), .val (.ref b12), .unset] [(.int (8 : Int32))])
    refine o_istoreN X hx 127 (Ls' := #[.val (.int p1), .val (.ref b1), .val (.ref b12), .val (.int (8 : Int32))]) (hb hby at_126) rfl rfl ?_
    refine o_aloadN X hx 128 (hb hby at_127) rfl rfl rfl ?_
    refine o_iloadN X hx 129 (hb hby at_128) rfl rfl ?_
    refine o_aaload X hx hZ eT V_b1 rfl ⟨by decide, by decide⟩ (v := (.ref a_L)) rfl 130 (hb hby at_129) rfl ?_
    refine o_callV X hx hZ hown (hw _ (List.mem_of_getElem? (i := 26) rfl)) (hw _ (List.mem_of_getElem? (i := 27) rfl)) (hw _ (List.mem_of_getElem? (i := 29) rfl)) (hw _ (List.mem_of_getElem? (i := 28) rfl)) (hw _ (List.mem_of_getElem? (i := 3) rfl)) (hw _ (List.mem_of_getElem? (i := 30) rfl)) (by decide) (rm_key0 l Z a0 hw [] a_L a_S a_N a_B _ n0 Z0 (S_S.ext O.2) (S_N.ext O.2) (S_B.ext O.2) (Fld.ne G_L G_S (fun q => absurd (Value.int.inj q) (by decide))) (Fld.ne G_L G_N (fun q => absurd (Value.int.inj q) (by decide))) (Fld.ne G_L G_B (fun q => absurd (Value.int.inj q) (by decide)))) eT (by decide) 0 (by decide) (by rw [hml]; rfl) (E_L.ext O.2) [] (rest := []) (lenOf pd_0 rfl) rfl rfl (Nat.le_of_eq rfl) (by decide) (by decide) 133 (hb hby at_130) rfl (fun v T h31 Lc X eT q => ?_)
    obtain ⟨rfl, N', e'⟩ := q
    replace N := Fr.app N N'
    replace eT := eT.trans e'
    show Wout p e below _ T (mkF m 133 #[.val (.int p1), .val (.ref b1), .val (.ref b12), .val (.int (8 : Int32))] [(.int (0 : Int32))])
    refine o_aloadN X hx 134 (hb hby at_133) rfl rfl rfl ?_
    refine o_iloadN X hx 135 (hb hby at_134) rfl rfl ?_
    refine o_baloadZ X hx hZ eT V_b12 ⟨by decide, by decide⟩ (v := (.int (nar .boolean (0 : Int32)))) rfl 136 (hb hby at_135) rfl ?_
    refine o_icmpF X hx 139 (hb hby at_136) rfl (by decide : (0 : Int32) = (nar .boolean (0 : Int32))) ?_
    refine o_iconst X hx 140 (1 : Int32) (hb hby at_139) rfl rfl ?_
    refine o_goto X hx 144 (hb hby at_140) rfl ?_
    exact o_retI X hx hlk hret rfl (by simp) (hb hby at_144) (by decide) (by decide) (by rw [eT]; exact ⟨rfl, N, trivial⟩)
  · show Wout p e below _ T (mkF m 126 #[.val (.int p1), .val (.ref b1), .val (.ref b12), .unset] [(.int (9 : Int32))])
    refine o_istoreN X hx 127 (Ls' := #[.val (.int p1), .val (.ref b1), .val (.ref b12), .val (.int (9 : Int32))]) (hb hby at_126) rfl rfl ?_
    refine o_aloadN X hx 128 (hb hby at_127) rfl rfl rfl ?_
    refine o_iloadN X hx 129 (hb hby at_128) rfl rfl ?_
    refine o_aaload X hx hZ eT V_b1 rfl ⟨by decide, by decide⟩ (v := (.ref a_M)) rfl 130 (hb hby at_129) rfl ?_
    refine o_callV X hx hZ hown (hw _ (List.mem_of_getElem? (i := 26) rfl)) (hw _ (List.mem_of_getElem? (i := 27) rfl)) (hw _ (List.mem_of_getElem? (i := 29) rfl)) (hw _ (List.mem_of_getElem? (i := 28) rfl)) (hw _ (List.mem_of_getElem? (i := 3) rfl)) (hw _ (List.mem_of_getElem? (i := 30) rfl)) (by decide) (rm_key0 l Z a0 hw [] a_M a_S a_N a_B _ n0 Z0 (S_S.ext O.2) (S_N.ext O.2) (S_B.ext O.2) (Fld.ne G_M G_S (fun q => absurd (Value.int.inj q) (by decide))) (Fld.ne G_M G_N (fun q => absurd (Value.int.inj q) (by decide))) (Fld.ne G_M G_B (fun q => absurd (Value.int.inj q) (by decide)))) eT (by decide) 0 (by decide) (by rw [hml]; rfl) (E_M.ext O.2) [] (rest := []) (lenOf pd_0 rfl) rfl rfl (Nat.le_of_eq rfl) (by decide) (by decide) 133 (hb hby at_130) rfl (fun v T h32 Lc X eT q => ?_)
    obtain ⟨rfl, N', e'⟩ := q
    replace N := Fr.app N N'
    replace eT := eT.trans e'
    show Wout p e below _ T (mkF m 133 #[.val (.int p1), .val (.ref b1), .val (.ref b12), .val (.int (9 : Int32))] [(.int (0 : Int32))])
    refine o_aloadN X hx 134 (hb hby at_133) rfl rfl rfl ?_
    refine o_iloadN X hx 135 (hb hby at_134) rfl rfl ?_
    refine o_baloadZ X hx hZ eT V_b12 ⟨by decide, by decide⟩ (v := (.int (nar .boolean (0 : Int32)))) rfl 136 (hb hby at_135) rfl ?_
    refine o_icmpF X hx 139 (hb hby at_136) rfl (by decide : (0 : Int32) = (nar .boolean (0 : Int32))) ?_
    refine o_iconst X hx 140 (1 : Int32) (hb hby at_139) rfl rfl ?_
    refine o_goto X hx 144 (hb hby at_140) rfl ?_
    exact o_retI X hx hlk hret rfl (by simp) (hb hby at_144) (by decide) (by decide) (by rw [eT]; exact ⟨rfl, N, trivial⟩)
set_option maxRecDepth 65536 in
set_option maxHeartbeats 40000000 in
theorem comes_1 {Post : Tables → Env → Array Value → State → Outcome → State → Prop} (hpost : ∀ tb e args s v u, (limb_1_1.after args s (.returned v) u = true ∧ limb_1_2.after args s (.returned v) u = true ∧ True) → FrameEnd s (.returned v) u (Jvm.fieldLocs frame_1_writes args s ++ Jvm.arrayLocs frame_1_arrays args s ++ Jvm.staticLocs frame_1_statics s) 16 128 → Post tb e args s (.returned v) u) :
    ArmFor flags0 classFile x code maxLocals ret World_1 tables_1 room_1 Calls_1 rest_1 Pre_1 Post := by
  intro l hfl _ _ p e ha hc hk s m args below hf hA hF happ hP
  obtain ⟨hcalls, hrest, hpre⟩ := hP
  obtain ⟨-, -, -, hnamed, -, -, -, hat⟩ := (Spec.applies_iff hf).mp happ
  obtain ⟨hg, hn⟩ := and_e (Cond.before_iff.mp (show (Jvm.Cond.and given_1 narrow_1).before args s = true from hpre))
  obtain ⟨h1, hgs⟩ := and_e hg
  obtain ⟨w0, rfl⟩ : ∃ w0 : Value, args = #[w0] := by
    have hs : args.size = 1 := by simpa [Cond.value, given_1] using h1
    obtain ⟨L⟩ := args
    match L, hs with
    | [w0], _ => exact ⟨w0, rfl⟩
  have hw := fun d (hd : d ∈ tables_1) => atoms_spec (ws := Jvm.Cond.code x code maxLocals ret :: tables_1) hat d (List.mem_cons_of_mem _ hd)
  have hfit : Fit s := fun {y c} hc i hi => by
    obtain ⟨ha, rfl⟩ := Array.getElem?_eq_some_iff.mp hc
    have q := List.all_eq_true.mp ((Array.all_eq_true_iff_forall_mem.mp hF) _ (Array.getElem_mem ha)) i (List.mem_range.mpr hi)
    simpa [Array.getElem?_eq_getElem hi] using q
  obtain ⟨i0, e0⟩ := is_v hgs
  obtain rfl : w0 = (.int i0) := Option.some.inj e0
  obtain ⟨hq0, hn⟩ := and_e hn
  obtain ⟨a_S, ev_S⟩ := exa_v hq0
  have E_S := Exa.start ev_S hq0
  have S_S := Sta.start ev_S (Or.inr ⟨(hw _ (List.mem_of_getElem? (i := 3) rfl)), (hw _ (List.mem_of_getElem? (i := 4) rfl))⟩)
  obtain ⟨hq1, hn⟩ := and_e hn
  obtain ⟨a_N, ev_N⟩ := exa_v hq1
  have E_N := Exa.start ev_N hq1
  have S_N := Sta.start ev_N (Or.inr ⟨(hw _ (List.mem_of_getElem? (i := 3) rfl)), (hw _ (List.mem_of_getElem? (i := 7) rfl))⟩)
  obtain ⟨hq2, hn⟩ := and_e hn
  obtain ⟨a_B, ev_B⟩ := exa_v hq2
  have E_B := Exa.start ev_B hq2
  have S_B := Sta.start ev_B (Or.inr ⟨(hw _ (List.mem_of_getElem? (i := 3) rfl)), (hw _ (List.mem_of_getElem? (i := 9) rfl))⟩)
  obtain ⟨hq3, hn⟩ := and_e hn
  obtain ⟨a_SS, ev_SS⟩ := exa_v hq3
  have E_SS := Exa.start ev_SS hq3
  have S_SS := Sta.start ev_SS (Or.inr ⟨(hw _ (List.mem_of_getElem? (i := 3) rfl)), (hw _ (List.mem_of_getElem? (i := 11) rfl))⟩)
  obtain ⟨hq4, hn⟩ := and_e hn
  obtain ⟨a_NS, ev_NS⟩ := exa_v hq4
  have E_NS := Exa.start ev_NS hq4
  have S_NS := Sta.start ev_NS (Or.inr ⟨(hw _ (List.mem_of_getElem? (i := 3) rfl)), (hw _ (List.mem_of_getElem? (i := 13) rfl))⟩)
  obtain ⟨hq5, hn⟩ := and_e hn
  obtain ⟨a_BS, ev_BS⟩ := exa_v hq5
  have E_BS := Exa.start ev_BS hq5
  have S_BS := Sta.start ev_BS (Or.inr ⟨(hw _ (List.mem_of_getElem? (i := 3) rfl)), (hw _ (List.mem_of_getElem? (i := 15) rfl))⟩)
  obtain ⟨hq6, hn⟩ := and_e hn
  obtain ⟨a_BOOL, ev_BOOL⟩ := exa_v hq6
  have E_BOOL := Exa.start ev_BOOL hq6
  have S_BOOL := Sta.start ev_BOOL (Or.inr ⟨(hw _ (List.mem_of_getElem? (i := 3) rfl)), (hw _ (List.mem_of_getElem? (i := 17) rfl))⟩)
  obtain ⟨hq7, hn⟩ := and_e hn
  obtain ⟨a_NULL, ev_NULL⟩ := exa_v hq7
  have E_NULL := Exa.start ev_NULL hq7
  have S_NULL := Sta.start ev_NULL (Or.inr ⟨(hw _ (List.mem_of_getElem? (i := 3) rfl)), (hw _ (List.mem_of_getElem? (i := 19) rfl))⟩)
  obtain ⟨hq8, hn⟩ := and_e hn
  obtain ⟨a_L, ev_L⟩ := exa_v hq8
  have E_L := Exa.start ev_L hq8
  have S_L := Sta.start ev_L (Or.inr ⟨(hw _ (List.mem_of_getElem? (i := 3) rfl)), (hw _ (List.mem_of_getElem? (i := 21) rfl))⟩)
  obtain ⟨hq9, hn⟩ := and_e hn
  obtain ⟨a_M, ev_M⟩ := exa_v hq9
  have E_M := Exa.start ev_M hq9
  have S_M := Sta.start ev_M (Or.inr ⟨(hw _ (List.mem_of_getElem? (i := 3) rfl)), (hw _ (List.mem_of_getElem? (i := 23) rfl))⟩)
  obtain ⟨hq10, hn⟩ := and_e hn
  have G_SS := fld_eq ev_SS hq10
  obtain ⟨hq11, hn⟩ := and_e hn
  have G_S := fld_eq ev_S hq11
  obtain ⟨hq12, hn⟩ := and_e hn
  have G_N := fld_eq ev_N hq12
  obtain ⟨hq13, hn⟩ := and_e hn
  have G_B := fld_eq ev_B hq13
  obtain ⟨hq14, hn⟩ := and_e hn
  have G_NS := fld_eq ev_NS hq14
  obtain ⟨hq15, hn⟩ := and_e hn
  have G_NULL := fld_eq ev_NULL hq15
  obtain ⟨hq16, hn⟩ := and_e hn
  have G_L := fld_eq ev_L hq16
  obtain ⟨hq17, hn⟩ := and_e hn
  have G_M := fld_eq ev_M hq17
  obtain ⟨hq18, hn⟩ := and_e hn
  have G_BS := fld_eq ev_BS hq18
  have G_BOOL := fld_eq ev_BOOL hn
  obtain ⟨n, o, h1, h2, h3, _, L, rfl, ⟨rfl, N, _⟩, hq⟩ := rm_law l s _ hw tables_1 i0 a_S a_N a_B a_SS a_NS a_BS a_BOOL a_NULL a_L a_M s.heap s.heap.size (Nat.le_refl _) (Old.start s) E_S S_S G_S E_N S_N G_N E_B S_B G_B E_SS S_SS G_SS E_NS S_NS G_NS E_BS S_BS G_BS E_BOOL S_BOOL G_BOOL E_NULL S_NULL G_NULL E_L S_L G_L E_M S_M G_M p e ha hc hk s m _ below hf ((Spec.applies_iff_loose hf).mp happ).1 ⟨rfl, State.Warmed39.refl s, rfl⟩ trivial
  refine ⟨n, _, h1, h2, h3, hpost _ _ _ _ _ _ ⟨Cond.after_iff.mpr rfl, Cond.after_iff.mpr (eq_i res_at (Term.int_eval (1)) rfl), trivial⟩ ⟨hq.1, hq.2.1, (hq.2.2.sift fun y hy => Or.inr (N y hy)).mono (by decide) (by decide)⟩⟩
theorem main_1_1 : Claimed_1_1 := comes_1 fun _ _ _ _ _ _ h hF => ⟨h.1, hF⟩
theorem main_1_2 : Claimed_1_2 := comes_1 fun _ _ _ _ _ _ h hF => ⟨h.2.1, hF⟩
end Jvm.Pilot.@@N@@
namespace Jvm.Pilot.@@N@@
open Jvm Jvm.ClassFile Sem Op Lib Jvm.Free Jvm.Stand Jvm.Pilot.@@N@@.Jvm.D
/-! MADE BY PROGRAM (witnessworld.py) out of the Statement's table words and the real class files: 15 classes; the members and pool entries that the words name. The judged class is class 1, her method 1. -/
namespace start1
open Jvm.ClassFile
def u (s : String) : CpInfo := .utf8 (stringToUtf16 s)
/-- a pool by its gaps: so many unusable entries, then the entry; so many at the end -/
def gap : Nat → List CpInfo → List CpInfo
  | 0, r => r
  | n + 1, r => .unusable :: gap n r
def poolList (es : List (Nat × CpInfo)) (last : Nat) : List CpInfo := es.foldr (fun e r => gap e.1 (e.2 :: r)) (gap last [])
def pool (es : List (Nat × CpInfo)) (last : Nat) : Array CpInfo := ⟨poolList es last⟩
def fileOf (pool : Array CpInfo) (this : Nat) (attrs : Array Attribute := #[]) (ms : Array MethodInfo := #[]) (fl : Nat := 33) (sup : Nat := 0) (ifs : Array Nat := #[]) (fds : Array FieldInfo := #[]) : ClassFile where
  minorVersion := 0
  majorVersion := 65
  constantPool := pool
  accessFlags := fl
  thisClass := this
  superClass := sup
  interfaces := ifs
  fields := fds
  methods := ms
  attributes := attrs
def plain (name : String) (sup : Option ClassId) : Class where
  name := name
  kind := .ordinary
  loader := none
  accessFlags := 33
  super := sup
  interfaces := #[]
  cf := none
  fields := #[]
  methods := #[]
  instanceTypes := #[]
  staticTypes := #[]
  resolved := #[]
  callSites := []
  init := .initialized
  statics := none
  mirror := none

def pool0 : Array CpInfo := pool [(5, u "<init>"), (0, u "()V"), (1, .class_ 10), (1, u "java/lang/Object")] 113

def k0m0 : Method := { name := "<init>", desc := "()V", sig := { parameters := [], returnType := none }, accessFlags := 1, code := none }
/-- java/lang/Object -/
def k0 : Class := { plain "java/lang/Object" none with
  accessFlags := 33
  interfaces := #[]
  cf := some (fileOf pool0 8 #[] #[{ accessFlags := 1, nameIndex := 5, descriptorIndex := 6, attributes := #[] }] 33 0 #[] #[])
  fields := #[]
  methods := #[k0m0]
  instanceTypes := #[]
  staticTypes := #[]
  resolved := Array.replicate 124 none
  statics := none }

def pool1 : Array CpInfo := pool [(2, .class_ 4), (1, u "java/lang/Object"), (0, u "<init>"), (0, u "()V"), (0, .class_ 8), (0, u "com/example/varasto/varasto/model/AttributeType"), (0, .fieldref 7 10), (0, .nameAndType 11 12), (0, u "S"), (0, u "Lcom/example/varasto/varasto/model/AttributeType;"), (0, .fieldref 7 14), (0, .nameAndType 15 12), (0, u "N"), (0, .fieldref 7 17), (0, .nameAndType 18 12), (0, u "B"), (0, .fieldref 7 20), (0, .nameAndType 21 12), (0, u "SS"), (0, .fieldref 7 23), (0, .nameAndType 24 12), (0, u "NS"), (0, .fieldref 7 26), (0, .nameAndType 27 12), (0, u "BS"), (0, .fieldref 7 29), (0, .nameAndType 30 12), (0, u "BOOL"), (0, .fieldref 7 32), (0, .nameAndType 33 12), (0, u "NULL"), (0, .fieldref 7 35), (0, .nameAndType 36 12), (0, u "L"), (0, .fieldref 7 38), (0, .nameAndType 39 12), (0, u "M"), (0, .integer 2147483647), (0, .methodref 7 42), (0, .nameAndType 43 44), (0, u "isKeyType"), (0, u "()Z"), (0, .class_ 46), (0, u "com/example/varasto/varasto/model/AttributeTypeIsKeyTypePinLaw"), (2, u "law"), (0, u "(I)Z")] 7

def k1m0 : Method := { name := "<init>", desc := "()V", sig := { parameters := [], returnType := none }, accessFlags := 1, code := none }
def k1c1 : Code := { maxStack := 4, maxLocals := 4, code := code, exceptionTable := #[], attributes := #[] }
def k1m1 : Method := { name := "law", desc := "(I)Z", sig := { parameters := [.int], returnType := some .boolean }, accessFlags := 9, code := some k1c1 }
/-- com/example/varasto/varasto/model/AttributeTypeIsKeyTypePinLaw -/
def k1 : Class := { plain "com/example/varasto/varasto/model/AttributeTypeIsKeyTypePinLaw" (some 0) with
  accessFlags := 49
  interfaces := #[]
  cf := some (fileOf pool1 45 #[] #[{ accessFlags := 1, nameIndex := 5, descriptorIndex := 6, attributes := #[] }, { accessFlags := 9, nameIndex := 49, descriptorIndex := 50, attributes := #[] }] 49 2 #[] #[])
  fields := #[]
  methods := #[k1m0, k1m1]
  instanceTypes := #[]
  staticTypes := #[]
  resolved := Array.replicate 58 none
  statics := none }

def pool2 : Array CpInfo := pool [(1, .class_ 2), (0, u "java/lang/constant/Constable"), (0, .class_ 4), (0, u "java/lang/Object")] 6

/-- java/lang/constant/Constable -/
def k2 : Class := { plain "java/lang/constant/Constable" (some 0) with
  accessFlags := 1537
  interfaces := #[]
  cf := some (fileOf pool2 1 #[] #[] 1537 3 #[] #[])
  fields := #[]
  methods := #[]
  instanceTypes := #[]
  staticTypes := #[]
  resolved := Array.replicate 11 none
  statics := none }

def pool3 : Array CpInfo := pool [(1, .class_ 2), (0, u "java/lang/Comparable"), (0, .class_ 4), (0, u "java/lang/Object")] 7

/-- java/lang/Comparable -/
def k3 : Class := { plain "java/lang/Comparable" (some 0) with
  accessFlags := 1537
  interfaces := #[]
  cf := some (fileOf pool3 1 #[] #[] 1537 3 #[] #[])
  fields := #[]
  methods := #[]
  instanceTypes := #[]
  staticTypes := #[]
  resolved := Array.replicate 12 none
  statics := none }

def pool4 : Array CpInfo := pool [(1, .class_ 2), (0, u "java/io/Serializable"), (0, .class_ 4), (0, u "java/lang/Object")] 2

/-- java/io/Serializable -/
def k4 : Class := { plain "java/io/Serializable" (some 0) with
  accessFlags := 1537
  interfaces := #[]
  cf := some (fileOf pool4 1 #[] #[] 1537 3 #[] #[])
  fields := #[]
  methods := #[]
  instanceTypes := #[]
  staticTypes := #[]
  resolved := Array.replicate 7 none
  statics := none }

def pool5 : Array CpInfo := pool [(2, .class_ 4), (1, u "java/lang/Enum"), (0, u "name"), (0, u "Ljava/lang/String;"), (2, u "ordinal"), (0, u "I"), (1, .class_ 14), (1, u "java/lang/Object"), (4, u "hash"), (86, .class_ 108), (1, u "java/lang/Enum$EnumDesc"), (2, .class_ 112), (0, u "java/lang/constant/Constable"), (0, .class_ 114), (0, u "java/lang/Comparable"), (0, .class_ 116), (0, u "java/io/Serializable")] 87

/-- java/lang/Enum -/
def k5 : Class := { plain "java/lang/Enum" (some 0) with
  accessFlags := 1057
  interfaces := #[2, 3, 4]
  cf := some (fileOf pool5 2 #[.nestMembers #[106]] #[] 1057 12 #[111, 113, 115] #[{ accessFlags := 18, nameIndex := 5, descriptorIndex := 6, attributes := #[] }, { accessFlags := 18, nameIndex := 9, descriptorIndex := 10, attributes := #[] }, { accessFlags := 2, nameIndex := 19, descriptorIndex := 10, attributes := #[] }])
  fields := #[{ name := "name", type := (.object "java/lang/String"), accessFlags := 18, slot := 0, constantValue := 0 }, { name := "ordinal", type := .int, accessFlags := 18, slot := 1, constantValue := 0 }, { name := "hash", type := .int, accessFlags := 2, slot := 2, constantValue := 0 }]
  methods := #[]
  instanceTypes := #[(.object "java/lang/String"), .int, .int]
  staticTypes := #[]
  resolved := Array.replicate 204 none
  statics := none }

def pool6 : Array CpInfo := pool [(1, .class_ 2), (0, u "com/example/varasto/varasto/model/AttributeType"), (0, .fieldref 1 4), (0, .nameAndType 5 6), (0, u "S"), (0, u "Lcom/example/varasto/varasto/model/AttributeType;"), (0, .fieldref 1 8), (0, .nameAndType 9 6), (0, u "N"), (0, .fieldref 1 11), (0, .nameAndType 12 6), (0, u "B"), (2, u "SS"), (2, u "NS"), (2, u "BS"), (2, u "BOOL"), (2, u "NULL"), (2, u "L"), (2, u "M"), (2, u "$VALUES"), (0, u "[Lcom/example/varasto/varasto/model/AttributeType;"), (6, .class_ 46), (1, u "java/lang/Enum"), (28, u "isKeyType"), (0, u "()Z")] 5

def k6c0 : Code := { maxStack := 2, maxLocals := 1, code := prog_8_method_4_code, exceptionTable := #[], attributes := #[] }
def k6m0 : Method := { name := "isKeyType", desc := "()Z", sig := { parameters := [], returnType := some .boolean }, accessFlags := 1, code := some k6c0 }
/-- com/example/varasto/varasto/model/AttributeType -/
def k6 : Class := { plain "com/example/varasto/varasto/model/AttributeType" (some 5) with
  accessFlags := 16433
  interfaces := #[]
  cf := some (fileOf pool6 1 #[] #[{ accessFlags := 1, nameIndex := 75, descriptorIndex := 76, attributes := #[] }] 16433 44 #[] #[{ accessFlags := 16409, nameIndex := 5, descriptorIndex := 6, attributes := #[] }, { accessFlags := 16409, nameIndex := 9, descriptorIndex := 6, attributes := #[] }, { accessFlags := 16409, nameIndex := 12, descriptorIndex := 6, attributes := #[] }, { accessFlags := 16409, nameIndex := 15, descriptorIndex := 6, attributes := #[] }, { accessFlags := 16409, nameIndex := 18, descriptorIndex := 6, attributes := #[] }, { accessFlags := 16409, nameIndex := 21, descriptorIndex := 6, attributes := #[] }, { accessFlags := 16409, nameIndex := 24, descriptorIndex := 6, attributes := #[] }, { accessFlags := 16409, nameIndex := 27, descriptorIndex := 6, attributes := #[] }, { accessFlags := 16409, nameIndex := 30, descriptorIndex := 6, attributes := #[] }, { accessFlags := 16409, nameIndex := 33, descriptorIndex := 6, attributes := #[] }, { accessFlags := 4122, nameIndex := 36, descriptorIndex := 37, attributes := #[] }])
  fields := #[{ name := "S", type := (.object "com/example/varasto/varasto/model/AttributeType"), accessFlags := 16409, slot := 0, constantValue := 0 }, { name := "N", type := (.object "com/example/varasto/varasto/model/AttributeType"), accessFlags := 16409, slot := 1, constantValue := 0 }, { name := "B", type := (.object "com/example/varasto/varasto/model/AttributeType"), accessFlags := 16409, slot := 2, constantValue := 0 }, { name := "SS", type := (.object "com/example/varasto/varasto/model/AttributeType"), accessFlags := 16409, slot := 3, constantValue := 0 }, { name := "NS", type := (.object "com/example/varasto/varasto/model/AttributeType"), accessFlags := 16409, slot := 4, constantValue := 0 }, { name := "BS", type := (.object "com/example/varasto/varasto/model/AttributeType"), accessFlags := 16409, slot := 5, constantValue := 0 }, { name := "BOOL", type := (.object "com/example/varasto/varasto/model/AttributeType"), accessFlags := 16409, slot := 6, constantValue := 0 }, { name := "NULL", type := (.object "com/example/varasto/varasto/model/AttributeType"), accessFlags := 16409, slot := 7, constantValue := 0 }, { name := "L", type := (.object "com/example/varasto/varasto/model/AttributeType"), accessFlags := 16409, slot := 8, constantValue := 0 }, { name := "M", type := (.object "com/example/varasto/varasto/model/AttributeType"), accessFlags := 16409, slot := 9, constantValue := 0 }, { name := "$VALUES", type := (.array (.object "com/example/varasto/varasto/model/AttributeType")), accessFlags := 4122, slot := 10, constantValue := 0 }]
  methods := #[k6m0]
  instanceTypes := #[(.object "java/lang/String"), .int, .int]
  staticTypes := #[(.object "com/example/varasto/varasto/model/AttributeType"), (.object "com/example/varasto/varasto/model/AttributeType"), (.object "com/example/varasto/varasto/model/AttributeType"), (.object "com/example/varasto/varasto/model/AttributeType"), (.object "com/example/varasto/varasto/model/AttributeType"), (.object "com/example/varasto/varasto/model/AttributeType"), (.object "com/example/varasto/varasto/model/AttributeType"), (.object "com/example/varasto/varasto/model/AttributeType"), (.object "com/example/varasto/varasto/model/AttributeType"), (.object "com/example/varasto/varasto/model/AttributeType"), (.array (.object "com/example/varasto/varasto/model/AttributeType"))]
  resolved := Array.replicate 82 none
  statics := some 0 }

def pool7 : Array CpInfo := pool [(1, u "java/lang/Cloneable"), (0, .class_ 1), (0, u "java/lang/Object"), (0, .class_ 3)] 3

/-- java/lang/Cloneable -/
def k7 : Class := { plain "java/lang/Cloneable" (some 0) with
  accessFlags := 1537
  interfaces := #[]
  cf := some (fileOf pool7 2 #[] #[] 1537 4 #[] #[])
  fields := #[]
  methods := #[]
  instanceTypes := #[]
  staticTypes := #[]
  resolved := Array.replicate 8 none
  statics := none }

/-- the primitive boolean -/
def k8 : Class := { plain "boolean" none with kind := .primitive 'Z', accessFlags := 0x411 }
/-- [Z -/
def k9 : Class := { plain "[Z" (some 0) with kind := .array 8 .boolean, interfaces := #[7, 4], accessFlags := 1041 }

/-- the primitive byte -/
def k10 : Class := { plain "byte" none with kind := .primitive 'B', accessFlags := 0x411 }
/-- [B -/
def k11 : Class := { plain "[B" (some 0) with kind := .array 10 .byte, interfaces := #[7, 4], accessFlags := 1041 }

/-- the primitive int -/
def k12 : Class := { plain "int" none with kind := .primitive 'I', accessFlags := 0x411 }
/-- [I -/
def k13 : Class := { plain "[I" (some 0) with kind := .array 12 .int, interfaces := #[7, 4], accessFlags := 1041 }

/-- [Lcom/example/varasto/varasto/model/AttributeType; -/
def k14 : Class := { plain "[Lcom/example/varasto/varasto/model/AttributeType;" (some 0) with kind := .array 6 (.object "com/example/varasto/varasto/model/AttributeType"), interfaces := #[7, 4], accessFlags := 1041 }

def heap : Heap := #[{ cls := 6, slots := #[.ref 1, .ref 2, .ref 3, .ref 4, .ref 5, .ref 6, .ref 7, .ref 8, .ref 9, .ref 10, .null], vm := .statics 6 },
  { cls := 6, slots := #[.null, .int 0, .int 0], vm := .none },
  { cls := 6, slots := #[.null, .int 1, .int 0], vm := .none },
  { cls := 6, slots := #[.null, .int 2, .int 0], vm := .none },
  { cls := 6, slots := #[.null, .int 3, .int 0], vm := .none },
  { cls := 6, slots := #[.null, .int 4, .int 0], vm := .none },
  { cls := 6, slots := #[.null, .int 5, .int 0], vm := .none },
  { cls := 6, slots := #[.null, .int 6, .int 0], vm := .none },
  { cls := 6, slots := #[.null, .int 7, .int 0], vm := .none },
  { cls := 6, slots := #[.null, .int 8, .int 0], vm := .none },
  { cls := 6, slots := #[.null, .int 9, .int 0], vm := .none }]
def classes : Array Class := #[k0, k1, k2, k3, k4, k5, k6, k7, k8, k9, k10, k11, k12, k13, k14]
def interned : List (Array UInt16 × Addr) := []
def slotsUsed : Nat := 41
def theMethod : MethodId := ⟨1, 1⟩
def args0 : Array Value := #[.int 5]
def aboutOver (below : List Frame) : State where
  vm := { classes := classes, interned := interned.toArray }
  heap := heap
  slotsUsed := slotsUsed
  threads := #[{ frames := .invoking theMethod args0 :: below }]
def below0 : List Frame := [.native { method := ⟨0, 0⟩, args := #[] }]
def about1 : State := aboutOver below0
def p0 : Program := .bare "" "" ""
def e0 : Env := launch0.env 0 0 0
theorem w_frames : about1.frames = Frame.invoking theMethod args0 :: below0 := rfl
set_option maxRecDepth 65536 in
theorem w_args : argsFit about1.vm theMethod args0 = true := by decide +kernel
set_option maxRecDepth 65536 in
theorem w_heap : heapFits about1 = true := by decide +kernel
set_option maxRecDepth 65536 in
theorem w_runnable : about1.curStatus? = some .runnable := by decide +kernel
set_option maxRecDepth 65536 in
theorem w_alone : about1.alone = true := by decide +kernel
set_option maxRecDepth 65536 in
theorem w_named : about1.methodNamed? x = some theMethod := by decide +kernel
set_option maxRecDepth 65536 in
theorem w_hears : about1.hears theMethod below0 = true := by decide +kernel
set_option maxRecDepth 65536 in
theorem w_ripe : about1.ripe theMethod args0 below0 = true := by decide +kernel
theorem w_running : about1.status = .running := rfl
set_option maxRecDepth 65536 in
theorem w_room : about1.hasRoom e0.platform room_1 = true :=
  launch0.hasRoom_least _ room_1 (by decide +kernel) (by decide +kernel) (by decide +kernel) (by decide +kernel) (by decide +kernel) (by decide +kernel)
theorem allAtoms_all (ts : List Jvm.Cond) (a : Array Jvm.Value) (st : Jvm.State) : (allAtoms ts).before a st = ts.all (fun c => c.before a st) := by
  induction ts with
  | nil => rfl
  | cons c t ih =>
    show (Jvm.Cond.and c (allAtoms t)).before a st = _
    rw [Jvm.Cond.before_and, ih, List.all_cons]
def words1 : List Jvm.Cond := Jvm.Cond.code x code maxLocals ret :: tables_1
/-- a 'code' word, met by the world's own term for the bytes: nothing is compared byte by byte -/
theorem code_word {y : MethodName} {bytes : ByteArray} {mx : Nat} {rt : Option FieldType} {a : Array Value} {s : State} {m : MethodId} {meth : Method} {c : Code} (h1 : s.methodNamed? y = some m) (h2 : s.vm.method? m = some meth) (h3 : meth.code = some c) (h4 : c.code = bytes)
    (h5 : (c.maxLocals == mx && c.exceptionTable.isEmpty && decide (c.maxStack ≤ mostOperands) && decide (meth.sig.returnType = rt) && !meth.locks && decide (parseMethodDescriptor y.desc = some meth.sig)) = true) : (Jvm.Cond.code y bytes mx rt).before a s = true := by
  simp only [Bool.and_eq_true, beq_iff_eq, Bool.not_eq_true', decide_eq_true_eq] at h5
  obtain ⟨⟨⟨⟨⟨g1, g2⟩, g3⟩, g4⟩, g5⟩, g6⟩ := h5
  simp [Cond.before, Cond.holds, Cond.value, h1, h2, h3, h4, g1, g2, g3, g4, g5, g6]
def isCode : Jvm.Cond → Bool
  | .code _ _ _ _ => true
  | _ => false
theorem all_split {L : List Jvm.Cond} {P : Jvm.Cond → Bool} (h1 : L.all (fun c => isCode c || P c) = true) (h2 : ∀ c ∈ L.filter isCode, P c = true) : L.all P = true := by
  refine List.all_eq_true.mpr fun c hc => ?_
  have h := List.all_eq_true.mp h1 c hc
  rcases Bool.eq_false_or_eq_true (isCode c) with hi | hi
  · exact h2 c (List.mem_filter.mpr ⟨hc, hi⟩)
  · simpa [hi] using h
set_option maxRecDepth 65536 in
theorem w_c0 : (Jvm.Cond.code x code maxLocals ret).before args0 about1 = true := code_word (m := ⟨1, 1⟩) (meth := k1m1) (c := k1c1) (by decide +kernel) rfl rfl rfl (by decide +kernel)
set_option maxRecDepth 65536 in
theorem w_c1 : (Jvm.Cond.code ({ cls := "com/example/varasto/varasto/model/AttributeType", name := "isKeyType", desc := "()Z" } : Jvm.MethodName) prog_8_method_4_code (1 : Nat) (Option.some Jvm.ClassFile.FieldType.boolean)).before args0 about1 = true := code_word (m := ⟨6, 0⟩) (meth := k6m0) (c := k6c0) (by decide +kernel) rfl rfl rfl (by decide +kernel)
def codes1 : List Jvm.Cond := [Jvm.Cond.code x code maxLocals ret, Jvm.Cond.code ({ cls := "com/example/varasto/varasto/model/AttributeType", name := "isKeyType", desc := "()Z" } : Jvm.MethodName) prog_8_method_4_code (1 : Nat) (Option.some Jvm.ClassFile.FieldType.boolean)]
set_option maxRecDepth 65536 in
theorem codes_eq : words1.filter isCode = codes1 := rfl
theorem w_codes : ∀ c ∈ words1.filter isCode, c.before args0 about1 = true := by
  rw [codes_eq]
  intro c hc
  simp only [codes1, List.mem_cons, List.not_mem_nil, or_false] at hc
  rcases hc with rfl | rfl
  · exact w_c0
  · exact w_c1
set_option maxRecDepth 65536 in
theorem w_t1 : (words1.take 24).all (fun c => isCode c || c.before args0 about1) = true := by decide +kernel
set_option maxRecDepth 65536 in
theorem w_t2 : (words1.drop 24).all (fun c => isCode c || c.before args0 about1) = true := by decide +kernel
theorem w_tables : (allAtoms (Jvm.Cond.code x code maxLocals ret :: tables_1)).before args0 about1 = true := by
  rw [allAtoms_all]
  show words1.all (fun c => c.before args0 about1) = true
  refine all_split ?_ w_codes
  rw [← List.take_append_drop 24 words1, List.all_append, w_t1, w_t2]
  rfl
set_option maxRecDepth 65536 in
theorem w_case : (Jvm.Cond.and given_1 narrow_1).before args0 about1 = true := by decide +kernel
theorem w_applies : (headSpec (Jvm.Cond.code x code maxLocals ret :: tables_1) room_1).applies x e0.platform about1 = true :=
  (Spec.applies_iff w_frames).mpr ⟨w_running, w_runnable, w_alone, w_named, w_hears, w_ripe, w_room, w_tables⟩
theorem atStart : AtStart classFile x code maxLocals ret World_1 tables_1 room_1 Calls_1 rest_1 Pre_1 launch0 p0 e0 about1 theMethod args0 below0 :=
  ⟨lists_1, trivial, launch0.admits_env _ _ _, launch0.least_env, fairChoices_fair.cas, fairChoices_fair.clock, w_frames, w_args, w_heap, w_applies, trivial, trivial, w_case⟩
end start1
theorem witness_1 : WitnessClaimed_1 := ⟨start1.p0, start1.e0, start1.about1, start1.theMethod, start1.args0, start1.below0, start1.atStart⟩
end Jvm.Pilot.@@N@@
