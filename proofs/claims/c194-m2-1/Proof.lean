import JvmDerived
import JvmDerived.Pilot.@@N@@Statement
import JvmDerived.Pilot.@@N@@Code
set_option linter.unusedVariables false
set_option linter.unusedSimpArgs false
@@BLOCK:NumsL.lean.txt@@
namespace Jvm.OwnWalk
open Sem ClassFile Op Lib Jvm.Stand Jvm.Free Jvm.LawKit Jvm.RoadKit
section K
variable {p : Program} {l : Launch} {e : Env} {R : Room} {s : State} {m : MethodId} {args : Array Value} {below : List Frame} {meth : Method} {c : Code} {T : State} {locs : List Loc} {cells slots : Nat} {Z : State} {a0 : Array Value} {h : Heap} {P : Outcome → State → Prop} {pc : Nat} {Ls : Array Slot} {rest : List Value}
/-- from T with g on top the invocation ends, and P holds of its end -/
def Wout (p : Program) (e : Env) (below : List Frame) (P : Outcome → State → Prop) (T : State) (g : JFrame) : Prop :=
  ∃ U o, Steps p.tables e below (T.setTop g) U ∧ U.status = .running ∧ Ended U below o ∧ P o U
theorem Wout.of {T T' : State} {g g' : JFrame} (st : ∀ t, Steps p.tables e below (T'.setTop g') t → Steps p.tables e below (T.setTop g) t) (hr : Wout p e below P T' g') : Wout p e below P T g := by
  obtain ⟨U, o, h1, h2⟩ := hr
  exact ⟨U, o, st U h1, h2⟩
theorem Wout.tr {T T' : State} {g g' : JFrame} (st : Steps p.tables e below (T.setTop g) (T'.setTop g')) (hr : Wout p e below P T' g') : Wout p e below P T g := by
  obtain ⟨U, o, h1, h2⟩ := hr
  exact ⟨U, o, st.trans h1, h2⟩
theorem Wout.cast {T : State} {g g' : JFrame} (q : g = g') (hr : Wout p e below P T g') : Wout p e below P T g := q ▸ hr
/-- the end of an invocation that returned: Q of its value, the heap and the written places; the frame -/
def Pst (s : State) (Q : Option Value → Heap → List Loc → Prop) (C S : Nat) (o : Outcome) (U : State) : Prop := ∃ v L, o = .returned v ∧ Q v U.heap L ∧ FrameEnd s o U L C S
abbrev Met (l : Launch) (Z : State) (y : MethodName) (bytes : ByteArray) (maxL : Nat) (ret : Option FieldType) (ws : List Jvm.Cond) (rm : Room) (as' : Array Value) (h0 : Heap) (Q : Option Value → Heap → List Loc → Prop) : Prop :=
  MetFree l y (head1 (Jvm.Cond.code y bytes maxL ret :: ws) rm) (fun a U => a = as' ∧ Z.Warmed39 U.vm ∧ U.heap = h0) (fun _ _ _ _ _ => True) (fun _ U o U' => ∃ v L, o = .returned v ∧ Q v U'.heap L ∧ FrameEnd U o U' L rm.cells rm.slots)
theorem Met.start {y : MethodName} {bytes : ByteArray} {maxL : Nat} {ret : Option FieldType} {ws : List Jvm.Cond} {rm : Room} {as' : Array Value} {h0 : Heap} {Q : Option Value → Heap → List Loc → Prop} (hpl : plainFor y = true)
    (H : ∀ (p : Program) (e : Env) (s : State) (m : MethodId) (below : List Frame) (meth : Method) (c : Code) (T : State), Stand p l e rm s m as' below meth c T [] 0 0 → p.tables.exec = Jvm.exec → c.code = bytes → c.maxLocals = maxL → s.vm.findClass y.cls = some m.cls → meth.name = y.name → meth.sig.returnType = ret → meth.locks = false → Z.Warmed39 s.vm → T.heap = h0 → Wout p e below (Pst s Q rm.cells rm.slots) T (entryFrame m as' maxL)) :
    Met l Z y bytes maxL ret ws rm as' h0 Q := by
  refine MetFree.of_bodySF hpl hisR ?_
  intro p e s m args below meth c s₁ Bd hml0 hP hK
  obtain ⟨rfl, hZ, hh⟩ := hP
  exact H p e s m below meth c s₁ (Stand.of_body Bd) Bd.exec Bd.bytes hml0 (findClass_of_methodNamed Bd.named) (name_of_methodNamed Bd.named Bd.method).1 Bd.returns Bd.notSynchronized hZ (by rw [← hh, Bd.state]; rfl)
/-! what a branch says -/
def cI : ClassFile.Cond → Int32 → Prop
  | .eq, x => x = 0 | .ne, x => ¬ x = 0 | .lt, x => x < 0 | .ge, x => ¬ x < 0 | .gt, x => 0 < x | .le, x => ¬ 0 < x
def cII : ClassFile.Cond → Int32 → Int32 → Prop
  | .eq, x, y => x = y | .ne, x, y => ¬ x = y | .lt, x, y => x < y | .ge, x, y => ¬ x < y | .gt, x, y => y < x | .le, x, y => ¬ y < x
def cLL : ClassFile.Cond → Int64 → Int64 → Prop
  | .eq, x, y => x = y | .ne, x, y => ¬ x = y | .lt, x, y => x < y | .ge, x, y => ¬ x < y | .gt, x, y => y < x | .le, x, y => ¬ y < x
def cNeg : ClassFile.Cond → ClassFile.Cond
  | .eq => .ne | .ne => .eq | .lt => .ge | .ge => .lt | .gt => .le | .le => .gt
theorem cI_t : ∀ {cd : ClassFile.Cond} {x : Int32}, cI cd x → ifCond.holds cd x = true
  | .eq, _, q => XT.i0_eq_t q
  | .ne, _, q => XT.i0_ne_t q
  | .lt, _, q => XT.i0_lt_t q
  | .ge, _, q => XT.i0_ge_t q
  | .gt, _, q => XT.i0_gt_t q
  | .le, _, q => XT.i0_le_t q
theorem cI_f : ∀ {cd : ClassFile.Cond} {x : Int32}, cI (cNeg cd) x → ifCond.holds cd x = false
  | .eq, _, q => XT.i0_eq_f q
  | .ne, _, q => XT.i0_ne_f q
  | .lt, _, q => XT.i0_lt_f q
  | .ge, _, q => XT.i0_ge_f q
  | .gt, _, q => XT.i0_gt_f q
  | .le, _, q => XT.i0_le_f q
theorem cII_t : ∀ {cd : ClassFile.Cond} {x y : Int32}, cII cd x y → if_icmp.holds cd x y = true
  | .eq, _, _, q => XT.ii_eq_t q
  | .ne, _, _, q => XT.ii_ne_t q
  | .lt, _, _, q => XT.ii_lt_t q
  | .ge, _, _, q => XT.ii_ge_t q
  | .gt, _, _, q => XT.ii_gt_t q
  | .le, _, _, q => XT.ii_le_t q
theorem cII_f : ∀ {cd : ClassFile.Cond} {x y : Int32}, cII (cNeg cd) x y → if_icmp.holds cd x y = false
  | .eq, _, _, q => XT.ii_eq_f q
  | .ne, _, _, q => XT.ii_ne_f q
  | .lt, _, _, q => XT.ii_lt_f q
  | .ge, _, _, q => XT.ii_ge_f q
  | .gt, _, _, q => XT.ii_gt_f q
  | .le, _, _, q => XT.ii_le_f q
theorem cLL_t : ∀ {cd : ClassFile.Cond} {x y : Int64}, cLL cd x y → ifCond.holds cd (XT.cmpL x y) = true
  | .eq, _, _, q => XT.ll_eq_t q
  | .ne, _, _, q => XT.ll_ne_t q
  | .lt, _, _, q => XT.ll_lt_t q
  | .ge, _, _, q => XT.ll_ge_t q
  | .gt, _, _, q => XT.ll_gt_t q
  | .le, _, _, q => XT.ll_le_t q
theorem cLL_f : ∀ {cd : ClassFile.Cond} {x y : Int64}, cLL (cNeg cd) x y → ifCond.holds cd (XT.cmpL x y) = false
  | .eq, _, _, q => XT.ll_eq_f q
  | .ne, _, _, q => XT.ll_ne_f q
  | .lt, _, _, q => XT.ll_lt_f q
  | .ge, _, _, q => XT.ll_ge_f q
  | .gt, _, _, q => XT.ll_gt_f q
  | .le, _, _, q => XT.ll_le_f q
theorem cI_em (cd : ClassFile.Cond) (x : Int32) : cI cd x ∨ cI (cNeg cd) x := by
  cases cd <;> simp only [cI, cNeg] <;> first | exact Classical.em _ | exact (Classical.em _).symm
theorem cII_em (cd : ClassFile.Cond) (x y : Int32) : cII cd x y ∨ cII (cNeg cd) x y := by
  cases cd <;> simp only [cII, cNeg] <;> first | exact Classical.em _ | exact (Classical.em _).symm
theorem cLL_em (cd : ClassFile.Cond) (x y : Int64) : cLL cd x y ∨ cLL (cNeg cd) x y := by
  cases cd <;> simp only [cLL, cNeg] <;> first | exact Classical.em _ | exact (Classical.em _).symm

theorem o_iload (X : Stand p l e R s m args below meth c T locs cells slots) (hx : p.tables.exec = Jvm.exec) (n : Nat) {k : Nat} {v : Int32} (hd : decode c.code pc = .ok (.iload k, 2)) (hl : Ls[k]? = some (.val (.int v))) (hp : pc + 2 = n) (hr : Wout p e below P T (mkF m n Ls (.int v :: rest))) : Wout p e below P T (mkF m pc Ls (rest)) := by
  subst hp
  exact Wout.of (fun _ ht => XS.iload X.here hx rfl hd hl ht) hr
theorem o_iloadN (X : Stand p l e R s m args below meth c T locs cells slots) (hx : p.tables.exec = Jvm.exec) (n : Nat) {k : Fin 4} {v : Int32} (hd : decode c.code pc = .ok (.iload_n k, 1)) (hl : Ls[k.val]? = some (.val (.int v))) (hp : pc + 1 = n) (hr : Wout p e below P T (mkF m n Ls (.int v :: rest))) : Wout p e below P T (mkF m pc Ls (rest)) := by
  subst hp
  exact Wout.of (fun _ ht => XS.iloadN X.here hx rfl hd hl ht) hr
theorem o_istore (X : Stand p l e R s m args below meth c T locs cells slots) (hx : p.tables.exec = Jvm.exec) (n : Nat) {k : Nat} {v : Int32} {Ls' : Array Slot} (hd : decode c.code pc = .ok (.istore k, 2)) (hl : storeLocals Ls k (.int v) = some Ls') (hp : pc + 2 = n) (hr : Wout p e below P T (mkF m n Ls' (rest))) : Wout p e below P T (mkF m pc Ls (.int v :: rest)) := by
  subst hp
  exact Wout.of (fun _ ht => XS.istore X.here hx rfl hd rfl hl ht) hr
theorem o_istoreN (X : Stand p l e R s m args below meth c T locs cells slots) (hx : p.tables.exec = Jvm.exec) (n : Nat) {k : Fin 4} {v : Int32} {Ls' : Array Slot} (hd : decode c.code pc = .ok (.istore_n k, 1)) (hl : storeLocals Ls k.val (.int v) = some Ls') (hp : pc + 1 = n) (hr : Wout p e below P T (mkF m n Ls' (rest))) : Wout p e below P T (mkF m pc Ls (.int v :: rest)) := by
  subst hp
  exact Wout.of (fun _ ht => XS.istoreN X.here hx rfl hd rfl hl ht) hr
theorem o_lload (X : Stand p l e R s m args below meth c T locs cells slots) (hx : p.tables.exec = Jvm.exec) (n : Nat) {k : Nat} {v : Int64} (hd : decode c.code pc = .ok (.lload k, 2)) (hl : Ls[k]? = some (.val (.long v))) (hp : pc + 2 = n) (hr : Wout p e below P T (mkF m n Ls (.long v :: rest))) : Wout p e below P T (mkF m pc Ls (rest)) := by
  subst hp
  exact Wout.of (fun _ ht => XT.lload X.here hx rfl hd hl ht) hr
theorem o_lloadN (X : Stand p l e R s m args below meth c T locs cells slots) (hx : p.tables.exec = Jvm.exec) (n : Nat) {k : Fin 4} {v : Int64} (hd : decode c.code pc = .ok (.lload_n k, 1)) (hl : Ls[k.val]? = some (.val (.long v))) (hp : pc + 1 = n) (hr : Wout p e below P T (mkF m n Ls (.long v :: rest))) : Wout p e below P T (mkF m pc Ls (rest)) := by
  subst hp
  exact Wout.of (fun _ ht => XT.lloadN X.here hx rfl hd hl ht) hr
theorem o_lstore (X : Stand p l e R s m args below meth c T locs cells slots) (hx : p.tables.exec = Jvm.exec) (n : Nat) {k : Nat} {v : Int64} {Ls' : Array Slot} (hd : decode c.code pc = .ok (.lstore k, 2)) (hl : storeLocals Ls k (.long v) = some Ls') (hp : pc + 2 = n) (hr : Wout p e below P T (mkF m n Ls' (rest))) : Wout p e below P T (mkF m pc Ls (.long v :: rest)) := by
  subst hp
  exact Wout.of (fun _ ht => XT.lstore X.here hx rfl hd rfl hl ht) hr
theorem o_lstoreN (X : Stand p l e R s m args below meth c T locs cells slots) (hx : p.tables.exec = Jvm.exec) (n : Nat) {k : Fin 4} {v : Int64} {Ls' : Array Slot} (hd : decode c.code pc = .ok (.lstore_n k, 1)) (hl : storeLocals Ls k.val (.long v) = some Ls') (hp : pc + 1 = n) (hr : Wout p e below P T (mkF m n Ls' (rest))) : Wout p e below P T (mkF m pc Ls (.long v :: rest)) := by
  subst hp
  exact Wout.of (fun _ ht => XT.lstoreN X.here hx rfl hd rfl hl ht) hr
theorem o_aload (X : Stand p l e R s m args below meth c T locs cells slots) (hx : p.tables.exec = Jvm.exec) (n : Nat) {k : Nat} {v : Value} (hd : decode c.code pc = .ok (.aload k, 2)) (hl : Ls[k]? = some (.val v)) (hv : v.isRef = true) (hp : pc + 2 = n) (hr : Wout p e below P T (mkF m n Ls (v :: rest))) : Wout p e below P T (mkF m pc Ls (rest)) := by
  subst hp
  exact Wout.of (fun _ ht => XS.aload X.here hx rfl hd hl hv ht) hr
theorem o_aloadN (X : Stand p l e R s m args below meth c T locs cells slots) (hx : p.tables.exec = Jvm.exec) (n : Nat) {k : Fin 4} {v : Value} (hd : decode c.code pc = .ok (.aload_n k, 1)) (hl : Ls[k.val]? = some (.val v)) (hv : v.isRef = true) (hp : pc + 1 = n) (hr : Wout p e below P T (mkF m n Ls (v :: rest))) : Wout p e below P T (mkF m pc Ls (rest)) := by
  subst hp
  exact Wout.of (fun _ ht => XS.aloadN X.here hx rfl hd hl hv ht) hr
theorem o_astore (X : Stand p l e R s m args below meth c T locs cells slots) (hx : p.tables.exec = Jvm.exec) (n : Nat) {k : Nat} {v : Value} {Ls' : Array Slot} (hd : decode c.code pc = .ok (.astore k, 2)) (hv : v.isRef = true) (hl : storeLocals Ls k v = some Ls') (hp : pc + 2 = n) (hr : Wout p e below P T (mkF m n Ls' (rest))) : Wout p e below P T (mkF m pc Ls (v :: rest)) := by
  subst hp
  exact Wout.of (fun _ ht => XS.astore X.here hx rfl hd rfl hv hl ht) hr
theorem o_astoreN (X : Stand p l e R s m args below meth c T locs cells slots) (hx : p.tables.exec = Jvm.exec) (n : Nat) {k : Fin 4} {v : Value} {Ls' : Array Slot} (hd : decode c.code pc = .ok (.astore_n k, 1)) (hv : v.isRef = true) (hl : storeLocals Ls k.val v = some Ls') (hp : pc + 1 = n) (hr : Wout p e below P T (mkF m n Ls' (rest))) : Wout p e below P T (mkF m pc Ls (v :: rest)) := by
  subst hp
  exact Wout.of (fun _ ht => XS.astoreN X.here hx rfl hd rfl hv hl ht) hr
theorem o_iconst (X : Stand p l e R s m args below meth c T locs cells slots) (hx : p.tables.exec = Jvm.exec) (n : Nat) {i : Int} (v : Int32) (hd : decode c.code pc = .ok (.iconst i, 1)) (hv : Int32.ofInt i = v) (hp : pc + 1 = n) (hr : Wout p e below P T (mkF m n Ls (.int v :: rest))) : Wout p e below P T (mkF m pc Ls (rest)) := by
  subst hp
  exact Wout.of (fun _ ht => XT.iconstV X.here hx rfl v hd hv ht) hr
theorem o_bipush (X : Stand p l e R s m args below meth c T locs cells slots) (hx : p.tables.exec = Jvm.exec) (n : Nat) {i : Int} (v : Int32) (hd : decode c.code pc = .ok (.bipush i, 2)) (hv : (Int8.ofInt i).toInt32 = v) (hp : pc + 2 = n) (hr : Wout p e below P T (mkF m n Ls (.int v :: rest))) : Wout p e below P T (mkF m pc Ls (rest)) := by
  subst hp
  exact Wout.of (fun _ ht => XT.bipushV X.here hx rfl v hd hv ht) hr
theorem o_sipush (X : Stand p l e R s m args below meth c T locs cells slots) (hx : p.tables.exec = Jvm.exec) (n : Nat) {i : Int} (v : Int32) (hd : decode c.code pc = .ok (.sipush i, 3)) (hv : (Int16.ofInt i).toInt32 = v) (hp : pc + 3 = n) (hr : Wout p e below P T (mkF m n Ls (.int v :: rest))) : Wout p e below P T (mkF m pc Ls (rest)) := by
  subst hp
  exact Wout.of (fun _ ht => XT.sipushV X.here hx rfl v hd hv ht) hr
theorem o_lconst (X : Stand p l e R s m args below meth c T locs cells slots) (hx : p.tables.exec = Jvm.exec) (n : Nat) {k : Fin 2} (v : Int64) (hd : decode c.code pc = .ok (.lconst k, 1)) (hv : Int64.ofNat k = v) (hp : pc + 1 = n) (hr : Wout p e below P T (mkF m n Ls (.long v :: rest))) : Wout p e below P T (mkF m pc Ls (rest)) := by
  subst hp
  exact Wout.of (fun _ ht => XT.lconstV X.here hx rfl v hd hv ht) hr
theorem o_aconst_null (X : Stand p l e R s m args below meth c T locs cells slots) (hx : p.tables.exec = Jvm.exec) (n : Nat)  (hd : decode c.code pc = .ok (.aconst_null, 1)) (hp : pc + 1 = n) (hr : Wout p e below P T (mkF m n Ls (.null :: rest))) : Wout p e below P T (mkF m pc Ls (rest)) := by
  subst hp
  exact Wout.of (fun _ ht => XS.aconstNull X.here hx rfl hd ht) hr
theorem o_iadd (X : Stand p l e R s m args below meth c T locs cells slots) (hx : p.tables.exec = Jvm.exec) (n : Nat) {x y : Int32} (hd : decode c.code pc = .ok (.iadd, 1)) (hp : pc + 1 = n) (hr : Wout p e below P T (mkF m n Ls (.int (x + y) :: rest))) : Wout p e below P T (mkF m pc Ls (.int y :: .int x :: rest)) := by
  subst hp
  exact Wout.of (fun _ ht => XS.iadd X.here hx rfl hd rfl ht) hr
theorem o_isub (X : Stand p l e R s m args below meth c T locs cells slots) (hx : p.tables.exec = Jvm.exec) (n : Nat) {x y : Int32} (hd : decode c.code pc = .ok (.isub, 1)) (hp : pc + 1 = n) (hr : Wout p e below P T (mkF m n Ls (.int (x - y) :: rest))) : Wout p e below P T (mkF m pc Ls (.int y :: .int x :: rest)) := by
  subst hp
  exact Wout.of (fun _ ht => XS.isub X.here hx rfl hd rfl ht) hr
theorem o_imul (X : Stand p l e R s m args below meth c T locs cells slots) (hx : p.tables.exec = Jvm.exec) (n : Nat) {x y : Int32} (hd : decode c.code pc = .ok (.imul, 1)) (hp : pc + 1 = n) (hr : Wout p e below P T (mkF m n Ls (.int (x * y) :: rest))) : Wout p e below P T (mkF m pc Ls (.int y :: .int x :: rest)) := by
  subst hp
  exact Wout.of (fun _ ht => XS.imul X.here hx rfl hd rfl ht) hr
theorem o_iand (X : Stand p l e R s m args below meth c T locs cells slots) (hx : p.tables.exec = Jvm.exec) (n : Nat) {x y : Int32} (hd : decode c.code pc = .ok (.iand, 1)) (hp : pc + 1 = n) (hr : Wout p e below P T (mkF m n Ls (.int (x &&& y) :: rest))) : Wout p e below P T (mkF m pc Ls (.int y :: .int x :: rest)) := by
  subst hp
  exact Wout.of (fun _ ht => XS.iand X.here hx rfl hd rfl ht) hr
theorem o_ior (X : Stand p l e R s m args below meth c T locs cells slots) (hx : p.tables.exec = Jvm.exec) (n : Nat) {x y : Int32} (hd : decode c.code pc = .ok (.ior, 1)) (hp : pc + 1 = n) (hr : Wout p e below P T (mkF m n Ls (.int (x ||| y) :: rest))) : Wout p e below P T (mkF m pc Ls (.int y :: .int x :: rest)) := by
  subst hp
  exact Wout.of (fun _ ht => XT.ior X.here hx rfl hd rfl ht) hr
theorem o_ixor (X : Stand p l e R s m args below meth c T locs cells slots) (hx : p.tables.exec = Jvm.exec) (n : Nat) {x y : Int32} (hd : decode c.code pc = .ok (.ixor, 1)) (hp : pc + 1 = n) (hr : Wout p e below P T (mkF m n Ls (.int (x ^^^ y) :: rest))) : Wout p e below P T (mkF m pc Ls (.int y :: .int x :: rest)) := by
  subst hp
  exact Wout.of (fun _ ht => XT.ixor X.here hx rfl hd rfl ht) hr
theorem o_ishl (X : Stand p l e R s m args below meth c T locs cells slots) (hx : p.tables.exec = Jvm.exec) (n : Nat) {x y : Int32} (hd : decode c.code pc = .ok (.ishl, 1)) (hp : pc + 1 = n) (hr : Wout p e below P T (mkF m n Ls (.int (x <<< (y &&& 31)) :: rest))) : Wout p e below P T (mkF m pc Ls (.int y :: .int x :: rest)) := by
  subst hp
  exact Wout.of (fun _ ht => XT.ishl X.here hx rfl hd rfl ht) hr
theorem o_ishr (X : Stand p l e R s m args below meth c T locs cells slots) (hx : p.tables.exec = Jvm.exec) (n : Nat) {x y : Int32} (hd : decode c.code pc = .ok (.ishr, 1)) (hp : pc + 1 = n) (hr : Wout p e below P T (mkF m n Ls (.int (x >>> (y &&& 31)) :: rest))) : Wout p e below P T (mkF m pc Ls (.int y :: .int x :: rest)) := by
  subst hp
  exact Wout.of (fun _ ht => XT.ishr X.here hx rfl hd rfl ht) hr
theorem o_iushr (X : Stand p l e R s m args below meth c T locs cells slots) (hx : p.tables.exec = Jvm.exec) (n : Nat) {x y : Int32} (hd : decode c.code pc = .ok (.iushr, 1)) (hp : pc + 1 = n) (hr : Wout p e below P T (mkF m n Ls (.int (XT.ushr x y) :: rest))) : Wout p e below P T (mkF m pc Ls (.int y :: .int x :: rest)) := by
  subst hp
  exact Wout.of (fun _ ht => XT.iushr X.here hx rfl hd rfl ht) hr
theorem o_ladd (X : Stand p l e R s m args below meth c T locs cells slots) (hx : p.tables.exec = Jvm.exec) (n : Nat) {x y : Int64} (hd : decode c.code pc = .ok (.ladd, 1)) (hp : pc + 1 = n) (hr : Wout p e below P T (mkF m n Ls (.long (x + y) :: rest))) : Wout p e below P T (mkF m pc Ls (.long y :: .long x :: rest)) := by
  subst hp
  exact Wout.of (fun _ ht => XT.ladd X.here hx rfl hd rfl ht) hr
theorem o_lsub (X : Stand p l e R s m args below meth c T locs cells slots) (hx : p.tables.exec = Jvm.exec) (n : Nat) {x y : Int64} (hd : decode c.code pc = .ok (.lsub, 1)) (hp : pc + 1 = n) (hr : Wout p e below P T (mkF m n Ls (.long (x - y) :: rest))) : Wout p e below P T (mkF m pc Ls (.long y :: .long x :: rest)) := by
  subst hp
  exact Wout.of (fun _ ht => XT.lsub X.here hx rfl hd rfl ht) hr
theorem o_lmul (X : Stand p l e R s m args below meth c T locs cells slots) (hx : p.tables.exec = Jvm.exec) (n : Nat) {x y : Int64} (hd : decode c.code pc = .ok (.lmul, 1)) (hp : pc + 1 = n) (hr : Wout p e below P T (mkF m n Ls (.long (x * y) :: rest))) : Wout p e below P T (mkF m pc Ls (.long y :: .long x :: rest)) := by
  subst hp
  exact Wout.of (fun _ ht => XT.lmul X.here hx rfl hd rfl ht) hr
theorem o_land (X : Stand p l e R s m args below meth c T locs cells slots) (hx : p.tables.exec = Jvm.exec) (n : Nat) {x y : Int64} (hd : decode c.code pc = .ok (.land, 1)) (hp : pc + 1 = n) (hr : Wout p e below P T (mkF m n Ls (.long (x &&& y) :: rest))) : Wout p e below P T (mkF m pc Ls (.long y :: .long x :: rest)) := by
  subst hp
  exact Wout.of (fun _ ht => XT.land X.here hx rfl hd rfl ht) hr
theorem o_lor (X : Stand p l e R s m args below meth c T locs cells slots) (hx : p.tables.exec = Jvm.exec) (n : Nat) {x y : Int64} (hd : decode c.code pc = .ok (.lor, 1)) (hp : pc + 1 = n) (hr : Wout p e below P T (mkF m n Ls (.long (x ||| y) :: rest))) : Wout p e below P T (mkF m pc Ls (.long y :: .long x :: rest)) := by
  subst hp
  exact Wout.of (fun _ ht => XT.lor X.here hx rfl hd rfl ht) hr
theorem o_lxor (X : Stand p l e R s m args below meth c T locs cells slots) (hx : p.tables.exec = Jvm.exec) (n : Nat) {x y : Int64} (hd : decode c.code pc = .ok (.lxor, 1)) (hp : pc + 1 = n) (hr : Wout p e below P T (mkF m n Ls (.long (x ^^^ y) :: rest))) : Wout p e below P T (mkF m pc Ls (.long y :: .long x :: rest)) := by
  subst hp
  exact Wout.of (fun _ ht => XT.lxor X.here hx rfl hd rfl ht) hr
theorem o_irem (X : Stand p l e R s m args below meth c T locs cells slots) (hx : p.tables.exec = Jvm.exec) (n : Nat) {x y : Int32} (hd : decode c.code pc = .ok (.irem, 1)) (hy : y ≠ 0) (hp : pc + 1 = n) (hr : Wout p e below P T (mkF m n Ls (.int (x % y) :: rest))) : Wout p e below P T (mkF m pc Ls (.int y :: .int x :: rest)) := by
  subst hp
  exact Wout.of (fun _ ht => iremM X hx rfl hd rfl hy ht) hr
theorem o_idiv (X : Stand p l e R s m args below meth c T locs cells slots) (hx : p.tables.exec = Jvm.exec) (n : Nat) {x y : Int32} (hd : decode c.code pc = .ok (.idiv, 1)) (hy : y ≠ 0) (hp : pc + 1 = n) (hr : Wout p e below P T (mkF m n Ls (.int (x / y) :: rest))) : Wout p e below P T (mkF m pc Ls (.int y :: .int x :: rest)) := by
  subst hp
  exact Wout.of (fun _ ht => XS.idiv X.here hx rfl hd rfl hy ht) hr
theorem o_lshl (X : Stand p l e R s m args below meth c T locs cells slots) (hx : p.tables.exec = Jvm.exec) (n : Nat) {x : Int64} {y : Int32} (hd : decode c.code pc = .ok (.lshl, 1)) (hp : pc + 1 = n) (hr : Wout p e below P T (mkF m n Ls (.long (x <<< (y.toInt64 &&& 63)) :: rest))) : Wout p e below P T (mkF m pc Ls (.int y :: .long x :: rest)) := by
  subst hp
  exact Wout.of (fun _ ht => XT.lshl X.here hx rfl hd rfl ht) hr
theorem o_lshr (X : Stand p l e R s m args below meth c T locs cells slots) (hx : p.tables.exec = Jvm.exec) (n : Nat) {x : Int64} {y : Int32} (hd : decode c.code pc = .ok (.lshr, 1)) (hp : pc + 1 = n) (hr : Wout p e below P T (mkF m n Ls (.long (x >>> (y.toInt64 &&& 63)) :: rest))) : Wout p e below P T (mkF m pc Ls (.int y :: .long x :: rest)) := by
  subst hp
  exact Wout.of (fun _ ht => XT.lshr X.here hx rfl hd rfl ht) hr
theorem o_lushr (X : Stand p l e R s m args below meth c T locs cells slots) (hx : p.tables.exec = Jvm.exec) (n : Nat) {x : Int64} {y : Int32} (hd : decode c.code pc = .ok (.lushr, 1)) (hp : pc + 1 = n) (hr : Wout p e below P T (mkF m n Ls (.long (XT.ushrL x y) :: rest))) : Wout p e below P T (mkF m pc Ls (.int y :: .long x :: rest)) := by
  subst hp
  exact Wout.of (fun _ ht => XT.lushr X.here hx rfl hd rfl ht) hr
theorem o_ineg (X : Stand p l e R s m args below meth c T locs cells slots) (hx : p.tables.exec = Jvm.exec) (n : Nat) {x : Int32} (hd : decode c.code pc = .ok (.ineg, 1)) (hp : pc + 1 = n) (hr : Wout p e below P T (mkF m n Ls (.int (-x) :: rest))) : Wout p e below P T (mkF m pc Ls (.int x :: rest)) := by
  subst hp
  exact Wout.of (fun _ ht => XS.ineg X.here hx rfl hd rfl ht) hr
theorem o_i2l (X : Stand p l e R s m args below meth c T locs cells slots) (hx : p.tables.exec = Jvm.exec) (n : Nat) {x : Int32} (hd : decode c.code pc = .ok (.i2l, 1)) (hp : pc + 1 = n) (hr : Wout p e below P T (mkF m n Ls (.long (x.toInt64) :: rest))) : Wout p e below P T (mkF m pc Ls (.int x :: rest)) := by
  subst hp
  exact Wout.of (fun _ ht => XT.i2l X.here hx rfl hd rfl ht) hr
theorem o_l2i (X : Stand p l e R s m args below meth c T locs cells slots) (hx : p.tables.exec = Jvm.exec) (n : Nat) {x : Int64} (hd : decode c.code pc = .ok (.l2i, 1)) (hp : pc + 1 = n) (hr : Wout p e below P T (mkF m n Ls (.int (x.toInt32) :: rest))) : Wout p e below P T (mkF m pc Ls (.long x :: rest)) := by
  subst hp
  exact Wout.of (fun _ ht => XT.l2i X.here hx rfl hd rfl ht) hr
theorem o_i2b (X : Stand p l e R s m args below meth c T locs cells slots) (hx : p.tables.exec = Jvm.exec) (n : Nat) {x : Int32} (hd : decode c.code pc = .ok (.i2b, 1)) (hp : pc + 1 = n) (hr : Wout p e below P T (mkF m n Ls (.int (x.toInt8.toInt32) :: rest))) : Wout p e below P T (mkF m pc Ls (.int x :: rest)) := by
  subst hp
  exact Wout.of (fun _ ht => XT.i2b X.here hx rfl hd rfl ht) hr
theorem o_i2c (X : Stand p l e R s m args below meth c T locs cells slots) (hx : p.tables.exec = Jvm.exec) (n : Nat) {x : Int32} (hd : decode c.code pc = .ok (.i2c, 1)) (hp : pc + 1 = n) (hr : Wout p e below P T (mkF m n Ls (.int (x.toUInt32.toUInt16.toUInt32.toInt32) :: rest))) : Wout p e below P T (mkF m pc Ls (.int x :: rest)) := by
  subst hp
  exact Wout.of (fun _ ht => XT.i2c X.here hx rfl hd rfl ht) hr
theorem o_i2s (X : Stand p l e R s m args below meth c T locs cells slots) (hx : p.tables.exec = Jvm.exec) (n : Nat) {x : Int32} (hd : decode c.code pc = .ok (.i2s, 1)) (hp : pc + 1 = n) (hr : Wout p e below P T (mkF m n Ls (.int (x.toInt16.toInt32) :: rest))) : Wout p e below P T (mkF m pc Ls (.int x :: rest)) := by
  subst hp
  exact Wout.of (fun _ ht => XT.i2s X.here hx rfl hd rfl ht) hr
theorem o_lcmp (X : Stand p l e R s m args below meth c T locs cells slots) (hx : p.tables.exec = Jvm.exec) (n : Nat) {x y : Int64} (hd : decode c.code pc = .ok (.lcmp, 1)) (hp : pc + 1 = n) (hr : Wout p e below P T (mkF m n Ls (.int (XT.cmpL x y) :: rest))) : Wout p e below P T (mkF m pc Ls (.long y :: .long x :: rest)) := by
  subst hp
  exact Wout.of (fun _ ht => XT.lcmp X.here hx rfl hd rfl ht) hr
theorem o_dup (X : Stand p l e R s m args below meth c T locs cells slots) (hx : p.tables.exec = Jvm.exec) (n : Nat) {v : Value} (hd : decode c.code pc = .ok (.dup, 1)) (hc : v.category = 1) (hp : pc + 1 = n) (hr : Wout p e below P T (mkF m n Ls (v :: v :: rest))) : Wout p e below P T (mkF m pc Ls (v :: rest)) := by
  subst hp
  exact Wout.of (fun _ ht => XS.dup X.here hx rfl hd rfl hc ht) hr
theorem o_pop (X : Stand p l e R s m args below meth c T locs cells slots) (hx : p.tables.exec = Jvm.exec) (n : Nat) {v : Value} (hd : decode c.code pc = .ok (.pop, 1)) (hc : v.category = 1) (hp : pc + 1 = n) (hr : Wout p e below P T (mkF m n Ls (rest))) : Wout p e below P T (mkF m pc Ls (v :: rest)) := by
  subst hp
  exact Wout.of (fun _ ht => XT.pop X.here hx rfl hd rfl hc ht) hr
theorem o_dup_x1 (X : Stand p l e R s m args below meth c T locs cells slots) (hx : p.tables.exec = Jvm.exec) (n : Nat) {v w : Value} (hd : decode c.code pc = .ok (.dup_x1, 1)) (hc : v.category = 1) (hc' : w.category = 1) (hp : pc + 1 = n) (hr : Wout p e below P T (mkF m n Ls (v :: w :: v :: rest))) : Wout p e below P T (mkF m pc Ls (v :: w :: rest)) := by
  subst hp
  exact Wout.of (fun _ ht => XT.dupX1 X.here hx rfl hd rfl hc hc' ht) hr
theorem o_dup2 (X : Stand p l e R s m args below meth c T locs cells slots) (hx : p.tables.exec = Jvm.exec) (n : Nat) {v w : Value} (hd : decode c.code pc = .ok (.dup2, 1)) (hc : v.category = 1) (hc' : w.category = 1) (hp : pc + 1 = n) (hr : Wout p e below P T (mkF m n Ls (v :: w :: v :: w :: rest))) : Wout p e below P T (mkF m pc Ls (v :: w :: rest)) := by
  subst hp
  exact Wout.of (fun _ ht => XT.dup2 X.here hx rfl hd rfl hc hc' ht) hr
theorem o_iinc (X : Stand p l e R s m args below meth c T locs cells slots) (hx : p.tables.exec = Jvm.exec) (n : Nat) {k : Nat} {i : Int} {x : Int32} {Ls' : Array Slot} (v : Int32) (hd : decode c.code pc = .ok (.iinc k i, 3)) (hv : Int32.ofInt i = v) (hl : Ls[k]? = some (.val (.int x))) (hl' : storeLocals Ls k (.int (x + v)) = some Ls') (hp : pc + 3 = n) (hr : Wout p e below P T (mkF m n Ls' (rest))) : Wout p e below P T (mkF m pc Ls (rest)) := by
  subst hp
  exact Wout.of (fun _ ht => XT.iincV X.here hx rfl v hd hv hl hl' ht) hr
theorem jmp {pc n : Nat} {o : Int} (hp : (pc : Int) + o = (n : Int)) : 0 ≤ (pc : Int) + o ∧ ((pc : Int) + o).toNat = n := by rw [hp]; exact ⟨Int.natCast_nonneg n, Int.toNat_natCast n⟩
theorem o_goto (X : Stand p l e R s m args below meth c T locs cells slots) (hx : p.tables.exec = Jvm.exec) (n : Nat) {o : Int} (hd : decode c.code pc = .ok (.goto o, 3)) (hp : (pc : Int) + o = (n : Int)) (hr : Wout p e below P T (mkF m n Ls rest)) : Wout p e below P T (mkF m pc Ls rest) :=
  Wout.of (fun _ ht => XS.goto X.here hx rfl (pc0 := pc) rfl hd (jmp hp).1 (jmp hp).2 ht) hr
theorem o_ifT (X : Stand p l e R s m args below meth c T locs cells slots) (hx : p.tables.exec = Jvm.exec) (n : Nat) {cd : ClassFile.Cond} {x : Int32} {o : Int} (hd : decode c.code pc = .ok (.ifCond cd o, 3)) (hp : (pc : Int) + o = (n : Int)) (q : cI cd x) (hr : Wout p e below P T (mkF m n Ls rest)) : Wout p e below P T (mkF m pc Ls (.int x :: rest)) :=
  Wout.of (fun _ ht => XS.ifYes X.here hx rfl (pc0 := pc) rfl hd rfl (cI_t q) (jmp hp).1 (jmp hp).2 ht) hr
theorem o_ifF (X : Stand p l e R s m args below meth c T locs cells slots) (hx : p.tables.exec = Jvm.exec) (n : Nat) {cd : ClassFile.Cond} {x : Int32} {o : Int} (hd : decode c.code pc = .ok (.ifCond cd o, 3)) (hp : pc + 3 = n) (q : cI (cNeg cd) x) (hr : Wout p e below P T (mkF m n Ls rest)) : Wout p e below P T (mkF m pc Ls (.int x :: rest)) := by
  subst hp
  exact Wout.of (fun _ ht => XS.ifNo X.here hx rfl hd rfl (cI_f q) ht) hr
theorem o_if (X : Stand p l e R s m args below meth c T locs cells slots) (hx : p.tables.exec = Jvm.exec) (n1 n2 : Nat) {cd : ClassFile.Cond} {x : Int32} {o : Int} (hd : decode c.code pc = .ok (.ifCond cd o, 3)) (hp1 : (pc : Int) + o = (n1 : Int)) (hp2 : pc + 3 = n2) (h1 : cI cd x → Wout p e below P T (mkF m n1 Ls rest)) (h2 : cI (cNeg cd) x → Wout p e below P T (mkF m n2 Ls rest)) : Wout p e below P T (mkF m pc Ls (.int x :: rest)) :=
  (cI_em cd x).elim (fun q => o_ifT X hx n1 hd hp1 q (h1 q)) (fun q => o_ifF X hx n2 hd hp2 q (h2 q))
theorem o_ifLT (X : Stand p l e R s m args below meth c T locs cells slots) (hx : p.tables.exec = Jvm.exec) (n : Nat) {cd : ClassFile.Cond} {x y : Int64} {o : Int} (hd : decode c.code pc = .ok (.ifCond cd o, 3)) (hp : (pc : Int) + o = (n : Int)) (q : cLL cd x y) (hr : Wout p e below P T (mkF m n Ls rest)) : Wout p e below P T (mkF m pc Ls (.int (XT.cmpL x y) :: rest)) :=
  Wout.of (fun _ ht => XS.ifYes X.here hx rfl (pc0 := pc) rfl hd rfl (cLL_t q) (jmp hp).1 (jmp hp).2 ht) hr
theorem o_ifLF (X : Stand p l e R s m args below meth c T locs cells slots) (hx : p.tables.exec = Jvm.exec) (n : Nat) {cd : ClassFile.Cond} {x y : Int64} {o : Int} (hd : decode c.code pc = .ok (.ifCond cd o, 3)) (hp : pc + 3 = n) (q : cLL (cNeg cd) x y) (hr : Wout p e below P T (mkF m n Ls rest)) : Wout p e below P T (mkF m pc Ls (.int (XT.cmpL x y) :: rest)) := by
  subst hp
  exact Wout.of (fun _ ht => XS.ifNo X.here hx rfl hd rfl (cLL_f q) ht) hr
theorem o_ifL (X : Stand p l e R s m args below meth c T locs cells slots) (hx : p.tables.exec = Jvm.exec) (n1 n2 : Nat) {cd : ClassFile.Cond} {x y : Int64} {o : Int} (hd : decode c.code pc = .ok (.ifCond cd o, 3)) (hp1 : (pc : Int) + o = (n1 : Int)) (hp2 : pc + 3 = n2) (h1 : cLL cd x y → Wout p e below P T (mkF m n1 Ls rest)) (h2 : cLL (cNeg cd) x y → Wout p e below P T (mkF m n2 Ls rest)) : Wout p e below P T (mkF m pc Ls (.int (XT.cmpL x y) :: rest)) :=
  (cLL_em cd x y).elim (fun q => o_ifLT X hx n1 hd hp1 q (h1 q)) (fun q => o_ifLF X hx n2 hd hp2 q (h2 q))
theorem o_icmpT (X : Stand p l e R s m args below meth c T locs cells slots) (hx : p.tables.exec = Jvm.exec) (n : Nat) {cd : ClassFile.Cond} {x y : Int32} {o : Int} (hd : decode c.code pc = .ok (.if_icmp cd o, 3)) (hp : (pc : Int) + o = (n : Int)) (q : cII cd x y) (hr : Wout p e below P T (mkF m n Ls rest)) : Wout p e below P T (mkF m pc Ls (.int y :: .int x :: rest)) :=
  Wout.of (fun _ ht => XS.icmpYes X.here hx rfl (pc0 := pc) rfl hd rfl (cII_t q) (jmp hp).1 (jmp hp).2 ht) hr
theorem o_icmpF (X : Stand p l e R s m args below meth c T locs cells slots) (hx : p.tables.exec = Jvm.exec) (n : Nat) {cd : ClassFile.Cond} {x y : Int32} {o : Int} (hd : decode c.code pc = .ok (.if_icmp cd o, 3)) (hp : pc + 3 = n) (q : cII (cNeg cd) x y) (hr : Wout p e below P T (mkF m n Ls rest)) : Wout p e below P T (mkF m pc Ls (.int y :: .int x :: rest)) := by
  subst hp
  exact Wout.of (fun _ ht => XS.icmpNo X.here hx rfl hd rfl (cII_f q) ht) hr
theorem o_icmp (X : Stand p l e R s m args below meth c T locs cells slots) (hx : p.tables.exec = Jvm.exec) (n1 n2 : Nat) {cd : ClassFile.Cond} {x y : Int32} {o : Int} (hd : decode c.code pc = .ok (.if_icmp cd o, 3)) (hp1 : (pc : Int) + o = (n1 : Int)) (hp2 : pc + 3 = n2) (h1 : cII cd x y → Wout p e below P T (mkF m n1 Ls rest)) (h2 : cII (cNeg cd) x y → Wout p e below P T (mkF m n2 Ls rest)) : Wout p e below P T (mkF m pc Ls (.int y :: .int x :: rest)) :=
  (cII_em cd x y).elim (fun q => o_icmpT X hx n1 hd hp1 q (h1 q)) (fun q => o_icmpF X hx n2 hd hp2 q (h2 q))
theorem o_ifnullT (X : Stand p l e R s m args below meth c T locs cells slots) (hx : p.tables.exec = Jvm.exec) (n : Nat) {o : Int} (hd : decode c.code pc = .ok (.ifnull o, 3)) (hp : (pc : Int) + o = (n : Int)) (hr : Wout p e below P T (mkF m n Ls rest)) : Wout p e below P T (mkF m pc Ls (.null :: rest)) :=
  Wout.of (fun _ ht => XS.ifnullYes X.here hx rfl (pc0 := pc) rfl hd rfl (jmp hp).1 (jmp hp).2 ht) hr
theorem o_ifnullF (X : Stand p l e R s m args below meth c T locs cells slots) (hx : p.tables.exec = Jvm.exec) (n : Nat) {o : Int} {a : Addr} (hd : decode c.code pc = .ok (.ifnull o, 3)) (hp : pc + 3 = n) (hr : Wout p e below P T (mkF m n Ls rest)) : Wout p e below P T (mkF m pc Ls (.ref a :: rest)) := by
  subst hp
  exact Wout.of (fun _ ht => XS.ifnullNo X.here hx rfl hd rfl ht) hr
theorem o_ifnonnullT (X : Stand p l e R s m args below meth c T locs cells slots) (hx : p.tables.exec = Jvm.exec) (n : Nat) {o : Int} {a : Addr} (hd : decode c.code pc = .ok (.ifnonnull o, 3)) (hp : (pc : Int) + o = (n : Int)) (hr : Wout p e below P T (mkF m n Ls rest)) : Wout p e below P T (mkF m pc Ls (.ref a :: rest)) :=
  Wout.of (fun _ ht => XT.ifnonnullYes X.here hx rfl (pc0 := pc) rfl hd rfl (jmp hp).1 (jmp hp).2 ht) hr
theorem o_ifnonnullF (X : Stand p l e R s m args below meth c T locs cells slots) (hx : p.tables.exec = Jvm.exec) (n : Nat) {o : Int} (hd : decode c.code pc = .ok (.ifnonnull o, 3)) (hp : pc + 3 = n) (hr : Wout p e below P T (mkF m n Ls rest)) : Wout p e below P T (mkF m pc Ls (.null :: rest)) := by
  subst hp
  exact Wout.of (fun _ ht => XT.ifnonnullNo X.here hx rfl hd rfl ht) hr
theorem o_acmpT (X : Stand p l e R s m args below meth c T locs cells slots) (hx : p.tables.exec = Jvm.exec) (n : Nat) {cd : ClassFile.ACond} {x y : Value} {o : Int} (hd : decode c.code pc = .ok (.if_acmp cd o, 3)) (h1 : x.isRef = true) (h2 : y.isRef = true) (hp : (pc : Int) + o = (n : Int)) (q : XT.acmp cd x y = true) (hr : Wout p e below P T (mkF m n Ls rest)) : Wout p e below P T (mkF m pc Ls (y :: x :: rest)) :=
  Wout.of (fun _ ht => XT.acmpYes X.here hx rfl (pc0 := pc) rfl hd rfl h1 h2 q (jmp hp).1 (jmp hp).2 ht) hr
theorem o_acmpF (X : Stand p l e R s m args below meth c T locs cells slots) (hx : p.tables.exec = Jvm.exec) (n : Nat) {cd : ClassFile.ACond} {x y : Value} {o : Int} (hd : decode c.code pc = .ok (.if_acmp cd o, 3)) (h1 : x.isRef = true) (h2 : y.isRef = true) (hp : pc + 3 = n) (q : XT.acmp cd x y = false) (hr : Wout p e below P T (mkF m n Ls rest)) : Wout p e below P T (mkF m pc Ls (y :: x :: rest)) := by
  subst hp
  exact Wout.of (fun _ ht => XT.acmpNo X.here hx rfl hd rfl h1 h2 q ht) hr
theorem o_tsw (X : Stand p l e R s m args below meth c T locs cells slots) (hx : p.tables.exec = Jvm.exec) (n : Nat) {dflt low high : Int} {offs : Array Int} {len : Nat} {o : Int} {i : Int32} (hd : decode c.code pc = .ok (.tableswitch dflt low high offs, len)) (hin : ¬ (i.toInt < low ∨ i.toInt > high)) (hoff : offs[(i.toInt - low).toNat]? = some o) (hp : (pc : Int) + o = (n : Int)) (hr : Wout p e below P T (mkF m n Ls rest)) : Wout p e below P T (mkF m pc Ls (.int i :: rest)) :=
  Wout.of (fun _ ht => XS.tswIn X.here hx rfl (pc0 := pc) rfl hd rfl hin hoff (jmp hp).1 (jmp hp).2 ht) hr
/-! constants of the pool, fields, statics -/
theorem o_ldc (X : Stand p l e R s m args below meth c T locs cells slots) (hx : p.tables.exec = Jvm.exec) (hZ : Z.Warmed39 s.vm) (n : Nat) {own : String} {index : Nat} {v : Int32} (hown : s.vm.findClass own = some m.cls) (w : (Jvm.Cond.constant own index v).before a0 Z = true) (hd : decode c.code pc = .ok (.ldc index, 2)) (hp : pc + 2 = n) (hr : Wout p e below P T (mkF m n Ls (.int v :: rest))) : Wout p e below P T (mkF m pc Ls rest) := by
  subst hp
  exact Wout.of (fun _ ht => X.ldcI hx hown (mv hZ w) rfl hd ht) hr
theorem o_ldc2 (X : Stand p l e R s m args below meth c T locs cells slots) (hx : p.tables.exec = Jvm.exec) (hZ : Z.Warmed39 s.vm) (n : Nat) {own : String} {index : Nat} {v : Int64} (hown : s.vm.findClass own = some m.cls) (w : (Jvm.Cond.constantLong own index v).before a0 Z = true) (hd : decode c.code pc = .ok (.ldc2_w index, 3)) (hp : pc + 3 = n) (hr : Wout p e below P T (mkF m n Ls (.long v :: rest))) : Wout p e below P T (mkF m pc Ls rest) := by
  subst hp
  exact Wout.of (fun _ ht => X.ldc2J hx hown (mv hZ w) rfl hd ht) hr
theorem o_getF (X : Stand p l e R s m args below meth c T locs cells slots) (hx : p.tables.exec = Jvm.exec) (hZ : Z.Warmed39 s.vm) {own R0 O nm d host : String} {index : Nat} (hown : s.vm.findClass own = some m.cls) (w : (Jvm.Cond.fieldLink own index R0 nm d).before a0 Z = true ∨ (Jvm.Cond.fieldLinkNest own index R0 nm d host).before a0 Z = true) (via : Via Z R0 O nm d) (eT : T.heap = h) {a : Addr} {v : Value} (F : Fld Z h a O nm d v) (n : Nat) (hd : decode c.code pc = .ok (.getfield index, 3)) (hp : pc + 3 = n)
    (hr : ∀ T', Stand p l e R s m args below meth c T' locs cells slots → T'.heap = h → Wout p e below P T' (mkF m n Ls (v :: rest))) : Wout p e below P T (mkF m pc Ls (.ref a :: rest)) := by
  subst hp
  obtain ⟨T', X', e', st⟩ := getF X hx hZ hown w via eT F (g := mkF m pc Ls (.ref a :: rest)) rfl rfl hd
  exact Wout.of st (hr T' X' e')
theorem o_getS (X : Stand p l e R s m args below meth c T locs cells slots) (hx : p.tables.exec = Jvm.exec) (hZ : Z.Warmed39 s.vm) {own R0 O nm d host : String} {index : Nat} (hown : s.vm.findClass own = some m.cls) (w : (Jvm.Cond.fieldLink own index R0 nm d).before a0 Z = true ∨ (Jvm.Cond.fieldLinkNest own index R0 nm d host).before a0 Z = true) (via : Via Z R0 O nm d) (eT : T.heap = h) {v : Value} (F : Sta Z h O nm d v) (n : Nat) (hd : decode c.code pc = .ok (.getstatic index, 3)) (hp : pc + 3 = n)
    (hr : ∀ T', Stand p l e R s m args below meth c T' locs cells slots → T'.heap = h → Wout p e below P T' (mkF m n Ls (v :: rest))) : Wout p e below P T (mkF m pc Ls rest) := by
  subst hp
  obtain ⟨T', X', e', st⟩ := getS2 X hx hZ hown w via eT F (g := mkF m pc Ls rest) rfl hd
  exact Wout.of st (hr T' X' e')
theorem o_putF (X : Stand p l e R s m args below meth c T locs cells slots) (hx : p.tables.exec = Jvm.exec) (hZ : Z.Warmed39 s.vm) {own R0 O nm d host C : String} {index kk : Nat} (ty : FieldType) (hown : s.vm.findClass own = some m.cls) (w : (Jvm.Cond.fieldLink own index R0 nm d).before a0 Z = true ∨ (Jvm.Cond.fieldLinkNest own index R0 nm d host).before a0 Z = true) (via : Via Z R0 O nm d) (eT : T.heap = h) {a : Addr} {v old : Value} (F : Fld Z h a O nm d old) (E : Exa Z h a C)
    (L : (Jvm.Cond.lays C O nm d).before a0 Z = true ∨ ((Jvm.Cond.laysFinal C O nm d).before a0 Z = true ∧ own = O ∧ meth.name = "<init>")) (wi : (Jvm.Cond.instantiable C kk).before a0 Z = true) (hty : parseFieldDescriptor d = some ty) (hn : Jvm.narrow ty v = v) (hf : fits ty v = true) {n0 : Nat} (N : Fr n0 locs) (g : n0 ≤ a) (n : Nat) (hd : decode c.code pc = .ok (.putfield index, 3)) (hp : pc + 3 = n)
    (hr : ∀ T' h' locs', Stand p l e R s m args below meth c T' locs' cells slots → T'.heap = h' → Wr h h' a (RoadKit.slotOf Z O nm d) v → Fr n0 locs' → Wout p e below P T' (mkF m n Ls rest)) : Wout p e below P T (mkF m pc Ls (v :: .ref a :: rest)) := by
  subst hp
  obtain ⟨T', h', X', e', W, st⟩ := putF X hx hZ hown w via eT F E L wi hty hn hf (g := mkF m pc Ls (v :: .ref a :: rest)) rfl rfl hd
  exact Wout.of st (hr T' h' _ X' e' W (Fr.snoc X' N g))
theorem o_putFN (X : Stand p l e R s m args below meth c T locs cells slots) (hx : p.tables.exec = Jvm.exec) (hZ : Z.Warmed39 s.vm) {own R0 O nm d C : String} {index kk : Nat} (ty : FieldType) (hown : s.vm.findClass own = some m.cls) (w : (Jvm.Cond.fieldLink own index R0 nm d).before a0 Z = true) (via : Via Z R0 O nm d) (eT : T.heap = h) {a : Addr} {v v' old : Value} (F : Fld Z h a O nm d old) (E : Exa Z h a C)
    (L : (Jvm.Cond.lays C O nm d).before a0 Z = true ∨ ((Jvm.Cond.laysFinal C O nm d).before a0 Z = true ∧ own = O ∧ meth.name = "<init>")) (wi : (Jvm.Cond.instantiable C kk).before a0 Z = true) (hty : parseFieldDescriptor d = some ty) (hn : Jvm.narrow ty v = v') (hf : fits ty v' = true) {n0 : Nat} (N : Fr n0 locs) (g : n0 ≤ a) (n : Nat) (hd : decode c.code pc = .ok (.putfield index, 3)) (hp : pc + 3 = n)
    (hr : ∀ T' h' locs', Stand p l e R s m args below meth c T' locs' cells slots → T'.heap = h' → Wr h h' a (RoadKit.slotOf Z O nm d) v' → Fr n0 locs' → Wout p e below P T' (mkF m n Ls rest)) : Wout p e below P T (mkF m pc Ls (v :: .ref a :: rest)) := by
  subst hp
  obtain ⟨T', h', X', e', W, st⟩ := putFN X hx hZ hown w via eT F E L wi hty hn hf (g := mkF m pc Ls (v :: .ref a :: rest)) rfl rfl hd
  exact Wout.of st (hr T' h' _ X' e' W (Fr.snoc X' N g))
/-! objects and arrays that are made -/
theorem o_new (X : Stand p l e R s m args below meth c T locs cells slots) (hx : p.tables.exec = Jvm.exec) (hZ : Z.Warmed39 s.vm) {own C : String} {index k : Nat} (hown : s.vm.findClass own = some m.cls) (w : (Jvm.Cond.classLink own index C).before a0 Z = true) (wi : (Jvm.Cond.instantiable C k).before a0 Z = true) (wz : (Jvm.Cond.initialized C).before a0 Z = true) (eT : T.heap = h) (n : Nat) (hd : decode c.code pc = .ok (.new index, 3)) (hp : pc + 3 = n) (hc : cells + 1 ≤ R.cells) (hl : slots + k ≤ R.slots)
    (hr : ∀ T' h' (b : Addr), b = h.size → Stand p l e R s m args below meth c T' locs (cells + 1) (slots + k) → T'.heap = h' → Ext h h' → Exa Z h' b C → (∀ {O nm d : String} {ty : FieldType}, Laid Z a0 C O nm d → parseFieldDescriptor d = some ty → Fld Z h' b O nm d (defaultValue ty)) → Wout p e below P T' (mkF m n Ls (.ref b :: rest))) : Wout p e below P T (mkF m pc Ls rest) := by
  subst hp
  obtain ⟨T', h', X', e', E, A, D, -, st⟩ := newO X hx hZ hown w wi wz eT (g := mkF m pc Ls rest) rfl hd hc hl
  exact Wout.of st (hr T' h' _ rfl X' e' E A D)
theorem o_newarray (X : Stand p l e R s m args below meth c T locs cells slots) (hx : p.tables.exec = Jvm.exec) (hZ : Z.Warmed39 s.vm) {aty : ArrayType} (w : (Jvm.Cond.arrayClass (newarray.typeOf aty)).before a0 Z = true) (eT : T.heap = h) (n : Nat) (hd : decode c.code pc = .ok (.newarray aty, 2)) (hp : pc + 2 = n) {z : Int32} (hz : ¬ z < 0) (cap : Nat) (hcap : z.toNatClampNeg ≤ cap) (hbb : cap * 8 ≤ 536870912) (hc : cells + 1 ≤ R.cells) (hl : slots + cap ≤ R.slots)
    (hr : ∀ T' h' (b : Addr) (k : ClassId), b = h.size → Stand p l e R s m args below meth c T' locs (cells + 1) (slots + cap) → T'.heap = h' → Ext h h' → Arv Z h' b k (newarray.typeOf aty) z [] (defaultValue (newarray.typeOf aty)) → Wout p e below P T' (mkF m n Ls (.ref b :: rest))) : Wout p e below P T (mkF m pc Ls (.int z :: rest)) := by
  subst hp
  obtain ⟨T', h', cA, X', e', E, A, st⟩ := newP X hx hZ w eT (g := mkF m pc Ls (.int z :: rest)) rfl hd rfl hz hcap hbb hc hl
  exact Wout.of st (hr T' h' _ cA rfl X' e' E (Arv.new A hz))
theorem o_anewarray (X : Stand p l e R s m args below meth c T locs cells slots) (hx : p.tables.exec = Jvm.exec) (hZ : Z.Warmed39 s.vm) {own C : String} {index : Nat} (hown : s.vm.findClass own = some m.cls) (w1 : (Jvm.Cond.classLink own index C).before a0 Z = true) (w2 : (Jvm.Cond.arrayOver (.object C)).before a0 Z = true) (eT : T.heap = h) (n : Nat) (hd : decode c.code pc = .ok (.anewarray index, 3)) (hp : pc + 3 = n) {z : Int32} (hz : ¬ z < 0) (cap : Nat) (hcap : z.toNatClampNeg ≤ cap) (hbb : cap * 8 ≤ 536870912) (hc : cells + 1 ≤ R.cells) (hl : slots + cap ≤ R.slots)
    (hr : ∀ T' h' (b : Addr) (k : ClassId), b = h.size → Stand p l e R s m args below meth c T' locs (cells + 1) (slots + cap) → T'.heap = h' → Ext h h' → Arv Z h' b k (.object C) z [] .null → Ovr Z k C → Wout p e below P T' (mkF m n Ls (.ref b :: rest))) : Wout p e below P T (mkF m pc Ls (.int z :: rest)) := by
  subst hp
  obtain ⟨T', h', cA, X', e', E, A, O, st⟩ := newR X hx hZ hown w1 w2 eT (g := mkF m pc Ls (.int z :: rest)) rfl hd rfl hz hcap hbb hc hl
  exact Wout.of st (hr T' h' _ cA rfl X' e' E (Arv.new A hz) O)
theorem o_arraylength (X : Stand p l e R s m args below meth c T locs cells slots) (hx : p.tables.exec = Jvm.exec) (hZ : Z.Warmed39 s.vm) (eT : T.heap = h) {a : Addr} {k : ClassId} {ty : FieldType} {z : Int32} {vs : List Value} {dv : Value} (V : Arv Z h a k ty z vs dv) (n : Nat) (hd : decode c.code pc = .ok (.arraylength, 1)) (hp : pc + 1 = n) (hr : Wout p e below P T (mkF m n Ls (.int z :: rest))) : Wout p e below P T (mkF m pc Ls (.ref a :: rest)) := by
  subst hp
  obtain ⟨cl, A, -, S, M, -, -⟩ := V
  rw [← len_of S M] at hr
  exact Wout.of (fun _ ht => X.arraylength hx (cell := cl) (by rw [eT]; exact A.1) (State.isArrayOf_alike hZ.alike A.2.1) (g := mkF m pc Ls (.ref a :: rest)) rfl rfl hd _ ht) hr

theorem o_iaload (X : Stand p l e R s m args below meth c T locs cells slots) (hx : p.tables.exec = Jvm.exec) (hZ : Z.Warmed39 s.vm) (eT : T.heap = h) {a : Addr} {k : ClassId} {z : Int32} {vs : List Value} {dv : Value} (V : Arv Z h a k .int z vs dv) {j : Int32} (hj : ¬ j < 0 ∧ j < z) {v : Value} (hv : vs.getD j.toNatClampNeg dv = v) (n : Nat) (hd : decode c.code pc = .ok (.iaload, 1)) (hp : pc + 1 = n) (hr : Wout p e below P T (mkF m n Ls (v :: rest))) : Wout p e below P T (mkF m pc Ls (.int j :: .ref a :: rest)) := by
  subst hp
  obtain ⟨cl, A, -, S, M, H, -⟩ := V
  exact Wout.of (fun _ ht => X.iaload hx (j := j) (v := v) (by rw [eT]; exact A.1) (State.isArrayOf_alike hZ.alike A.2.1) A.2.2 (inb_of S hj) (H.at (inb_of S hj) hv) (g := mkF m pc Ls (.int j :: .ref a :: rest)) rfl rfl hd _ ht) hr
theorem o_laload (X : Stand p l e R s m args below meth c T locs cells slots) (hx : p.tables.exec = Jvm.exec) (hZ : Z.Warmed39 s.vm) (eT : T.heap = h) {a : Addr} {k : ClassId} {z : Int32} {vs : List Value} {dv : Value} (V : Arv Z h a k .long z vs dv) {j : Int32} (hj : ¬ j < 0 ∧ j < z) {v : Value} (hv : vs.getD j.toNatClampNeg dv = v) (n : Nat) (hd : decode c.code pc = .ok (.laload, 1)) (hp : pc + 1 = n) (hr : Wout p e below P T (mkF m n Ls (v :: rest))) : Wout p e below P T (mkF m pc Ls (.int j :: .ref a :: rest)) := by
  subst hp
  obtain ⟨cl, A, -, S, M, H, -⟩ := V
  exact Wout.of (fun _ ht => X.laload hx (j := j) (v := v) (by rw [eT]; exact A.1) (State.isArrayOf_alike hZ.alike A.2.1) A.2.2 (inb_of S hj) (H.at (inb_of S hj) hv) (g := mkF m pc Ls (.int j :: .ref a :: rest)) rfl rfl hd _ ht) hr
theorem o_caload (X : Stand p l e R s m args below meth c T locs cells slots) (hx : p.tables.exec = Jvm.exec) (hZ : Z.Warmed39 s.vm) (eT : T.heap = h) {a : Addr} {k : ClassId} {z : Int32} {vs : List Value} {dv : Value} (V : Arv Z h a k .char z vs dv) {j : Int32} (hj : ¬ j < 0 ∧ j < z) {v : Value} (hv : vs.getD j.toNatClampNeg dv = v) (n : Nat) (hd : decode c.code pc = .ok (.caload, 1)) (hp : pc + 1 = n) (hr : Wout p e below P T (mkF m n Ls (v :: rest))) : Wout p e below P T (mkF m pc Ls (.int j :: .ref a :: rest)) := by
  subst hp
  obtain ⟨cl, A, -, S, M, H, -⟩ := V
  exact Wout.of (fun _ ht => X.caload hx (j := j) (v := v) (by rw [eT]; exact A.1) (State.isArrayOf_alike hZ.alike A.2.1) A.2.2 (inb_of S hj) (H.at (inb_of S hj) hv) (g := mkF m pc Ls (.int j :: .ref a :: rest)) rfl rfl hd _ ht) hr
theorem o_saload (X : Stand p l e R s m args below meth c T locs cells slots) (hx : p.tables.exec = Jvm.exec) (hZ : Z.Warmed39 s.vm) (eT : T.heap = h) {a : Addr} {k : ClassId} {z : Int32} {vs : List Value} {dv : Value} (V : Arv Z h a k .short z vs dv) {j : Int32} (hj : ¬ j < 0 ∧ j < z) {v : Value} (hv : vs.getD j.toNatClampNeg dv = v) (n : Nat) (hd : decode c.code pc = .ok (.saload, 1)) (hp : pc + 1 = n) (hr : Wout p e below P T (mkF m n Ls (v :: rest))) : Wout p e below P T (mkF m pc Ls (.int j :: .ref a :: rest)) := by
  subst hp
  obtain ⟨cl, A, -, S, M, H, -⟩ := V
  exact Wout.of (fun _ ht => X.saload hx (j := j) (v := v) (by rw [eT]; exact A.1) (State.isArrayOf_alike hZ.alike A.2.1) A.2.2 (inb_of S hj) (H.at (inb_of S hj) hv) (g := mkF m pc Ls (.int j :: .ref a :: rest)) rfl rfl hd _ ht) hr
theorem o_baload (X : Stand p l e R s m args below meth c T locs cells slots) (hx : p.tables.exec = Jvm.exec) (hZ : Z.Warmed39 s.vm) (eT : T.heap = h) {a : Addr} {k : ClassId} {z : Int32} {vs : List Value} {dv : Value} (V : Arv Z h a k .byte z vs dv) {j : Int32} (hj : ¬ j < 0 ∧ j < z) {v : Value} (hv : vs.getD j.toNatClampNeg dv = v) (n : Nat) (hd : decode c.code pc = .ok (.baload, 1)) (hp : pc + 1 = n) (hr : Wout p e below P T (mkF m n Ls (v :: rest))) : Wout p e below P T (mkF m pc Ls (.int j :: .ref a :: rest)) := by
  subst hp
  obtain ⟨cl, A, -, S, M, H, -⟩ := V
  exact Wout.of (fun _ ht => X.baloadBytes hx (j := j) (v := v) (by rw [eT]; exact A.1) (State.isArrayOf_alike hZ.alike A.2.1) A.2.2 (inb_of S hj) (H.at (inb_of S hj) hv) (g := mkF m pc Ls (.int j :: .ref a :: rest)) rfl rfl hd _ ht) hr
theorem o_baloadZ (X : Stand p l e R s m args below meth c T locs cells slots) (hx : p.tables.exec = Jvm.exec) (hZ : Z.Warmed39 s.vm) (eT : T.heap = h) {a : Addr} {k : ClassId} {z : Int32} {vs : List Value} {dv : Value} (V : Arv Z h a k .boolean z vs dv) {j : Int32} (hj : ¬ j < 0 ∧ j < z) {v : Value} (hv : vs.getD j.toNatClampNeg dv = v) (n : Nat) (hd : decode c.code pc = .ok (.baload, 1)) (hp : pc + 1 = n) (hr : Wout p e below P T (mkF m n Ls (v :: rest))) : Wout p e below P T (mkF m pc Ls (.int j :: .ref a :: rest)) := by
  subst hp
  obtain ⟨cl, A, -, S, M, H, -⟩ := V
  exact Wout.of (fun _ ht => X.baloadBooleans hx (j := j) (v := v) (by rw [eT]; exact A.1) (State.isArrayOf_alike hZ.alike A.2.1) A.2.2 (inb_of S hj) (H.at (inb_of S hj) hv) (g := mkF m pc Ls (.int j :: .ref a :: rest)) rfl rfl hd _ ht) hr
theorem o_aaload (X : Stand p l e R s m args below meth c T locs cells slots) (hx : p.tables.exec = Jvm.exec) (hZ : Z.Warmed39 s.vm) (eT : T.heap = h) {a : Addr} {k : ClassId} {ty : FieldType} {z : Int32} {vs : List Value} {dv : Value} (V : Arv Z h a k ty z vs dv) (hty : ty.isReference = true) {j : Int32} (hj : ¬ j < 0 ∧ j < z) {v : Value} (hv : vs.getD j.toNatClampNeg dv = v) (n : Nat) (hd : decode c.code pc = .ok (.aaload, 1)) (hp : pc + 1 = n) (hr : Wout p e below P T (mkF m n Ls (v :: rest))) : Wout p e below P T (mkF m pc Ls (.int j :: .ref a :: rest)) := by
  subst hp
  obtain ⟨cl, A, -, S, M, H, -⟩ := V
  exact Wout.of (fun _ ht => X.aaload hx (j := j) (v := v) (by rw [eT]; exact A.1) (State.isArrayOf_alike hZ.alike A.2.1) hty A.2.2 (inb_of S hj) (H.at (inb_of S hj) hv) (g := mkF m pc Ls (.int j :: .ref a :: rest)) rfl rfl hd _ ht) hr
theorem o_iastore (X : Stand p l e R s m args below meth c T locs cells slots) (hx : p.tables.exec = Jvm.exec) (hZ : Z.Warmed39 s.vm) (eT : T.heap = h) {a : Addr} {k : ClassId} {z : Int32} {vs : List Value} {dv : Value} (V : Arv Z h a k .int z vs dv) {j : Int32} {x : Int32} (hj : ¬ j < 0 ∧ j < z) (i : Nat) (hi : j.toNatClampNeg = i) (hil : i < vs.length) {vs' : List Value} (hvs : vs.set i (.int x) = vs') {n0 : Nat} (N : Fr n0 locs) (g : n0 ≤ a) (n : Nat) (hd : decode c.code pc = .ok (.iastore, 1)) (hp : pc + 1 = n)
    (hr : ∀ T' h' locs', Stand p l e R s m args below meth c T' locs' cells slots → T'.heap = h' → Wr h h' a i (.int x) → Arv Z h' a k .int z vs' dv → Fr n0 locs' → Wout p e below P T' (mkF m n Ls rest)) : Wout p e below P T (mkF m pc Ls (.int x :: .int j :: .ref a :: rest)) := by
  subst hp hvs
  obtain ⟨cl, A, q1, S, M, H, G⟩ := V
  obtain ⟨T', h', X', e', W, st⟩ := stI X hx hZ eT A (j := j) (x := x) (inb_of S hj) (g := mkF m pc Ls (.int x :: .int j :: .ref a :: rest)) rfl rfl hd
  exact Wout.of st (hr T' h' _ X' e' (hi ▸ W) (Arv.set A q1 S M H G (rfl) W i hi hil) (Fr.snoc X' N g))
theorem o_lastore (X : Stand p l e R s m args below meth c T locs cells slots) (hx : p.tables.exec = Jvm.exec) (hZ : Z.Warmed39 s.vm) (eT : T.heap = h) {a : Addr} {k : ClassId} {z : Int32} {vs : List Value} {dv : Value} (V : Arv Z h a k .long z vs dv) {j : Int32} {x : Int64} (hj : ¬ j < 0 ∧ j < z) (i : Nat) (hi : j.toNatClampNeg = i) (hil : i < vs.length) {vs' : List Value} (hvs : vs.set i (.long x) = vs') {n0 : Nat} (N : Fr n0 locs) (g : n0 ≤ a) (n : Nat) (hd : decode c.code pc = .ok (.lastore, 1)) (hp : pc + 1 = n)
    (hr : ∀ T' h' locs', Stand p l e R s m args below meth c T' locs' cells slots → T'.heap = h' → Wr h h' a i (.long x) → Arv Z h' a k .long z vs' dv → Fr n0 locs' → Wout p e below P T' (mkF m n Ls rest)) : Wout p e below P T (mkF m pc Ls (.long x :: .int j :: .ref a :: rest)) := by
  subst hp hvs
  obtain ⟨cl, A, q1, S, M, H, G⟩ := V
  obtain ⟨T', h', X', e', W, st⟩ := stJ X hx hZ eT A (j := j) (x := x) (inb_of S hj) (g := mkF m pc Ls (.long x :: .int j :: .ref a :: rest)) rfl rfl hd
  exact Wout.of st (hr T' h' _ X' e' (hi ▸ W) (Arv.set A q1 S M H G (rfl) W i hi hil) (Fr.snoc X' N g))
theorem o_castore (X : Stand p l e R s m args below meth c T locs cells slots) (hx : p.tables.exec = Jvm.exec) (hZ : Z.Warmed39 s.vm) (eT : T.heap = h) {a : Addr} {k : ClassId} {z : Int32} {vs : List Value} {dv : Value} (V : Arv Z h a k .char z vs dv) {j : Int32} {x : Int32} (hj : ¬ j < 0 ∧ j < z) (i : Nat) (hi : j.toNatClampNeg = i) (hil : i < vs.length) {vs' : List Value} (hvs : vs.set i (.int (nar .char x)) = vs') {n0 : Nat} (N : Fr n0 locs) (g : n0 ≤ a) (n : Nat) (hd : decode c.code pc = .ok (.castore, 1)) (hp : pc + 1 = n)
    (hr : ∀ T' h' locs', Stand p l e R s m args below meth c T' locs' cells slots → T'.heap = h' → Wr h h' a i (.int (nar .char x)) → Arv Z h' a k .char z vs' dv → Fr n0 locs' → Wout p e below P T' (mkF m n Ls rest)) : Wout p e below P T (mkF m pc Ls (.int x :: .int j :: .ref a :: rest)) := by
  subst hp hvs
  obtain ⟨cl, A, q1, S, M, H, G⟩ := V
  obtain ⟨T', h', X', e', W, st⟩ := stC X hx hZ eT A (j := j) (x := x) (inb_of S hj) (g := mkF m pc Ls (.int x :: .int j :: .ref a :: rest)) rfl rfl hd
  exact Wout.of st (hr T' h' _ X' e' (hi ▸ W) (Arv.set A q1 S M H G (fits_nar_char x) W i hi hil) (Fr.snoc X' N g))
theorem o_sastore (X : Stand p l e R s m args below meth c T locs cells slots) (hx : p.tables.exec = Jvm.exec) (hZ : Z.Warmed39 s.vm) (eT : T.heap = h) {a : Addr} {k : ClassId} {z : Int32} {vs : List Value} {dv : Value} (V : Arv Z h a k .short z vs dv) {j : Int32} {x : Int32} (hj : ¬ j < 0 ∧ j < z) (i : Nat) (hi : j.toNatClampNeg = i) (hil : i < vs.length) {vs' : List Value} (hvs : vs.set i (.int (nar .short x)) = vs') {n0 : Nat} (N : Fr n0 locs) (g : n0 ≤ a) (n : Nat) (hd : decode c.code pc = .ok (.sastore, 1)) (hp : pc + 1 = n)
    (hr : ∀ T' h' locs', Stand p l e R s m args below meth c T' locs' cells slots → T'.heap = h' → Wr h h' a i (.int (nar .short x)) → Arv Z h' a k .short z vs' dv → Fr n0 locs' → Wout p e below P T' (mkF m n Ls rest)) : Wout p e below P T (mkF m pc Ls (.int x :: .int j :: .ref a :: rest)) := by
  subst hp hvs
  obtain ⟨cl, A, q1, S, M, H, G⟩ := V
  obtain ⟨T', h', X', e', W, st⟩ := stS X hx hZ eT A (j := j) (x := x) (inb_of S hj) (g := mkF m pc Ls (.int x :: .int j :: .ref a :: rest)) rfl rfl hd
  exact Wout.of st (hr T' h' _ X' e' (hi ▸ W) (Arv.set A q1 S M H G (fits_nar_short x) W i hi hil) (Fr.snoc X' N g))
theorem o_bastore (X : Stand p l e R s m args below meth c T locs cells slots) (hx : p.tables.exec = Jvm.exec) (hZ : Z.Warmed39 s.vm) (eT : T.heap = h) {a : Addr} {k : ClassId} {z : Int32} {vs : List Value} {dv : Value} (V : Arv Z h a k .byte z vs dv) {j : Int32} {x : Int32} (hj : ¬ j < 0 ∧ j < z) (i : Nat) (hi : j.toNatClampNeg = i) (hil : i < vs.length) {vs' : List Value} (hvs : vs.set i (.int (nar .byte x)) = vs') {n0 : Nat} (N : Fr n0 locs) (g : n0 ≤ a) (n : Nat) (hd : decode c.code pc = .ok (.bastore, 1)) (hp : pc + 1 = n)
    (hr : ∀ T' h' locs', Stand p l e R s m args below meth c T' locs' cells slots → T'.heap = h' → Wr h h' a i (.int (nar .byte x)) → Arv Z h' a k .byte z vs' dv → Fr n0 locs' → Wout p e below P T' (mkF m n Ls rest)) : Wout p e below P T (mkF m pc Ls (.int x :: .int j :: .ref a :: rest)) := by
  subst hp hvs
  obtain ⟨cl, A, q1, S, M, H, G⟩ := V
  obtain ⟨T', h', X', e', W, st⟩ := stB X hx hZ eT A (j := j) (x := x) (inb_of S hj) (g := mkF m pc Ls (.int x :: .int j :: .ref a :: rest)) rfl rfl hd
  exact Wout.of st (hr T' h' _ X' e' (hi ▸ W) (Arv.set A q1 S M H G (fits_nar_byte x) W i hi hil) (Fr.snoc X' N g))
theorem o_bastoreZ (X : Stand p l e R s m args below meth c T locs cells slots) (hx : p.tables.exec = Jvm.exec) (hZ : Z.Warmed39 s.vm) (eT : T.heap = h) {a : Addr} {k : ClassId} {z : Int32} {vs : List Value} {dv : Value} (V : Arv Z h a k .boolean z vs dv) {j : Int32} {x : Int32} (hj : ¬ j < 0 ∧ j < z) (i : Nat) (hi : j.toNatClampNeg = i) (hil : i < vs.length) {vs' : List Value} (hvs : vs.set i (.int (nar .boolean x)) = vs') {n0 : Nat} (N : Fr n0 locs) (g : n0 ≤ a) (n : Nat) (hd : decode c.code pc = .ok (.bastore, 1)) (hp : pc + 1 = n)
    (hr : ∀ T' h' locs', Stand p l e R s m args below meth c T' locs' cells slots → T'.heap = h' → Wr h h' a i (.int (nar .boolean x)) → Arv Z h' a k .boolean z vs' dv → Fr n0 locs' → Wout p e below P T' (mkF m n Ls rest)) : Wout p e below P T (mkF m pc Ls (.int x :: .int j :: .ref a :: rest)) := by
  subst hp hvs
  obtain ⟨cl, A, q1, S, M, H, G⟩ := V
  obtain ⟨T', h', X', e', W, st⟩ := stZ X hx hZ eT A (j := j) (x := x) (inb_of S hj) (g := mkF m pc Ls (.int x :: .int j :: .ref a :: rest)) rfl rfl hd
  exact Wout.of st (hr T' h' _ X' e' (hi ▸ W) (Arv.set A q1 S M H G (fits_nar_bool x) W i hi hil) (Fr.snoc X' N g))
theorem o_aastore (X : Stand p l e R s m args below meth c T locs cells slots) (hx : p.tables.exec = Jvm.exec) (hZ : Z.Warmed39 s.vm) (eT : T.heap = h) {a : Addr} {k : ClassId} {ty : FieldType} {z : Int32} {vs : List Value} {dv : Value} (V : Arv Z h a k ty z vs dv) (hty : ty.isReference = true) {j : Int32} {v : Value} (hj : ¬ j < 0 ∧ j < z) (i : Nat) (hi : j.toNatClampNeg = i) (hil : i < vs.length) {vs' : List Value} (hvs : vs.set i v = vs') (hfit : fits ty v = true) (Fs : Sto Z h a v) {n0 : Nat} (N : Fr n0 locs) (g : n0 ≤ a) (n : Nat) (hd : decode c.code pc = .ok (.aastore, 1)) (hp : pc + 1 = n)
    (hr : ∀ T' h' locs', Stand p l e R s m args below meth c T' locs' cells slots → T'.heap = h' → Wr h h' a i v → Arv Z h' a k ty z vs' dv → Fr n0 locs' → Wout p e below P T' (mkF m n Ls rest)) : Wout p e below P T (mkF m pc Ls (v :: .int j :: .ref a :: rest)) := by
  subst hp hvs
  obtain ⟨cl, A, q1, S, M, H, G⟩ := V
  obtain ⟨T', h', X', e', W, st⟩ := stR X hx hZ eT A (j := j) (v := v) (inb_of S hj) hty Fs (g := mkF m pc Ls (v :: .int j :: .ref a :: rest)) rfl rfl hd
  exact Wout.of st (hr T' h' _ X' e' (hi ▸ W) (Arv.set A q1 S M H G hfit W i hi hil) (Fr.snoc X' N g))
theorem Sto.arv {a y : Addr} {k : ClassId} {ty : FieldType} {z : Int32} {vs : List Value} {dv : Value} {C : String} (V : Arv Z h a k ty z vs dv) (O : Ovr Z k C) (I : Ins Z h y C true) : Sto Z h a (.ref y) := by
  obtain ⟨cl, A, q1, -⟩ := V
  exact Sto.ofV A q1 O I
theorem o_checkcast (X : Stand p l e R s m args below meth c T locs cells slots) (hx : p.tables.exec = Jvm.exec) (hZ : Z.Warmed39 s.vm) {own K : String} {index : Nat} (hown : s.vm.findClass own = some m.cls) (w : (Jvm.Cond.classLink own index K).before a0 Z = true) (eT : T.heap = h) {a : Addr} (F : Ins Z h a K true) (n : Nat) (hd : decode c.code pc = .ok (.checkcast index, 3)) (hp : pc + 3 = n)
    (hr : ∀ T', Stand p l e R s m args below meth c T' locs cells slots → T'.heap = h → Wout p e below P T' (mkF m n Ls (.ref a :: rest))) : Wout p e below P T (mkF m pc Ls (.ref a :: rest)) := by
  subst hp
  obtain ⟨T', X', e', st⟩ := castY X hx hZ hown w eT F (g := mkF m pc Ls (.ref a :: rest)) rfl rfl hd
  exact Wout.of st (hr T' X' e')
theorem o_instanceof (X : Stand p l e R s m args below meth c T locs cells slots) (hx : p.tables.exec = Jvm.exec) (hZ : Z.Warmed39 s.vm) {own K : String} {index : Nat} (hown : s.vm.findClass own = some m.cls) (w : (Jvm.Cond.classLink own index K).before a0 Z = true) (eT : T.heap = h) {a : Addr} (F : Ins Z h a K true) (n : Nat) (hd : decode c.code pc = .ok (.instanceof index, 3)) (hp : pc + 3 = n)
    (hr : ∀ T', Stand p l e R s m args below meth c T' locs cells slots → T'.heap = h → Wout p e below P T' (mkF m n Ls (.int 1 :: rest))) : Wout p e below P T (mkF m pc Ls (.ref a :: rest)) := by
  subst hp
  obtain ⟨T', X', e', st⟩ := instY X hx hZ hown w eT F (g := mkF m pc Ls (.ref a :: rest)) rfl rfl hd
  exact Wout.of st (hr T' X' e')
/-! calls -/
theorem o_initO (X : Stand p l e R s m args below meth c T locs cells slots) (hx : p.tables.exec = Jvm.exec) (hZ : Z.Warmed39 s.vm) {own : String} {idx : Nat} (hown : s.vm.findClass own = some m.cls) (w1 : (Jvm.Cond.methodLink own idx Lib.objectInit).before a0 Z = true) (w2 : (Jvm.Cond.instanceMethod Lib.objectInit).before a0 Z = true) (w3 : (Jvm.Cond.code Lib.objectInit ⟨#[0xb1]⟩ 1 none).before a0 Z = true) (eT : T.heap = h) (hsz : Ls.size = c.maxLocals) {a : Addr} (hf : 1 ≤ R.frames) (W : Nat) (hW : (rest.map fun v => v.category).sum ≤ W) (hl : W + 12 ≤ R.locals) (n : Nat) (hd : decode c.code pc = .ok (.invokespecial idx, 3)) (hp : pc + 3 = n)
    (hr : ∀ T', Stand p l e R s m args below meth c T' locs cells slots → T'.heap = h → Wout p e below P T' (mkF m n Ls rest)) : Wout p e below P T (mkF m pc Ls (.ref a :: rest)) := by
  subst hp
  obtain ⟨T', X', e', st⟩ := initO X hx hZ hown w1 w2 w3 eT (g := mkF m pc Ls (.ref a :: rest)) rfl hsz rfl hd hf (W := W) (by simpa using hW) hl
  exact Wout.of st (hr T' X' e')
theorem o_callS (X : Stand p l e R s m args below meth c T locs cells slots) (hx : p.tables.exec = Jvm.exec) (hZ : Z.Warmed39 s.vm) {own : String} {index : Nat} {y : MethodName} {bytes : ByteArray} {maxL : Nat} {ret : Option FieldType} (hown : s.vm.findClass own = some m.cls) (w1 : (Jvm.Cond.methodLink own index y).before a0 Z = true) (w2 : (Jvm.Cond.static y).before a0 Z = true) (w3 : (Jvm.Cond.initialized y.cls).before a0 Z = true) (w4 : (Jvm.Cond.code y bytes maxL ret).before a0 Z = true)
    (hy : y.cls ≠ "java/lang/invoke/MethodHandle" ∧ y.cls ≠ "java/lang/invoke/VarHandle") {rm : Room} {as' : Array Value} {Q : Option Value → Heap → List Loc → Prop} (hM : Met l Z y bytes maxL ret [] rm as' h Q) (eT : T.heap = h) (hf : rm.frames + 1 ≤ R.frames) (W : Nat) (hl : W + (maxL + 11) + rm.locals ≤ R.locals) (hsz : Ls.size = c.maxLocals) (argsL : List Value) {st : List Value} (hlen : ∀ sig, parseMethodDescriptor y.desc = some sig → argsL.length = sig.parameters.length) (hst : st = argsL.reverse ++ rest) (has : argsL.toArray = as')
    (hW : (rest.map fun v => v.category).sum ≤ W) (hc : cells + rm.cells ≤ R.cells) (hs : slots + rm.slots ≤ R.slots) (n : Nat) (hd : decode c.code pc = .ok (.invokestatic index, 3)) (hp : pc + 3 = n)
    (hr : ∀ v T' h' L, Stand p l e R s m args below meth c T' (locs ++ L) (cells + rm.cells) (slots + rm.slots) → T'.heap = h' → Q v h' L → Wout p e below P T' (mkF m n Ls (v.toList ++ rest))) : Wout p e below P T (mkF m pc Ls st) := by
  subst hp has hst
  obtain ⟨v, vm₁, ⟨T', L', k', n'⟩, -, X', ⟨Lc, hQ, l1, y1, z1⟩, st⟩ := Jvm.LawKit.callS X hx hown (mv hZ w1) (mv hZ w2) (mv hZ w3) (mv hZ w4) hy (backOf (W := W) hM hZ w4 w3 hf hl) (g := mkF m pc Ls (argsL.reverse ++ rest)) rfl hsz (argsL := argsL) (rest := rest) hlen rfl (by simpa using hW) hd (fun _ _ => ⟨rfl, eT, hc, hs⟩)
  dsimp only [Pt.U, Pt.locs, Pt.cells, Pt.slots] at X' l1 y1 z1 hQ st
  subst l1 y1 z1
  exact Wout.of st (hr v T' T'.heap Lc X' rfl hQ)
theorem o_callI (X : Stand p l e R s m args below meth c T locs cells slots) (hx : p.tables.exec = Jvm.exec) (hZ : Z.Warmed39 s.vm) {own : String} {index : Nat} {y : MethodName} {bytes : ByteArray} {maxL : Nat} (hy1 : y.name = "<init>") (hown : s.vm.findClass own = some m.cls) (w1 : (Jvm.Cond.methodLink own index y).before a0 Z = true) (w2 : (Jvm.Cond.instanceMethod y).before a0 Z = true) (w3 : (Jvm.Cond.initialized y.cls).before a0 Z = true) (w4 : (Jvm.Cond.code y bytes maxL none).before a0 Z = true)
    (hy : y.cls ≠ "java/lang/invoke/MethodHandle" ∧ y.cls ≠ "java/lang/invoke/VarHandle") {rm : Room} {as' : Array Value} {Q : Option Value → Heap → List Loc → Prop} (hM : Met l Z y bytes maxL none [] rm as' h Q) (eT : T.heap = h) (hf : rm.frames + 1 ≤ R.frames) (W : Nat) (hl : W + (maxL + 11) + rm.locals ≤ R.locals) (hsz : Ls.size = c.maxLocals) {a : Addr} (argsL : List Value) {st : List Value} (hlen : ∀ sig, parseMethodDescriptor y.desc = some sig → argsL.length = sig.parameters.length) (hst : st = argsL.reverse ++ .ref a :: rest) (has : (.ref a :: argsL).toArray = as')
    (hW : (rest.map fun v => v.category).sum ≤ W) (hc : cells + rm.cells ≤ R.cells) (hs : slots + rm.slots ≤ R.slots) (n : Nat) (hd : decode c.code pc = .ok (.invokespecial index, 3)) (hp : pc + 3 = n)
    (hr : ∀ v T' h' L, Stand p l e R s m args below meth c T' (locs ++ L) (cells + rm.cells) (slots + rm.slots) → T'.heap = h' → Q v h' L → Wout p e below P T' (mkF m n Ls (v.toList ++ rest))) : Wout p e below P T (mkF m pc Ls st) := by
  subst hp has hst
  obtain ⟨v, vm₁, ⟨T', L', k', n'⟩, -, X', ⟨Lc, hQ, l1, y1, z1⟩, st⟩ := X.specialBack hx hy1 hown (mv hZ w1) (mv hZ w2) (mv hZ w4) hy (backOf (W := W) hM hZ w4 w3 hf hl) (g := mkF m pc Ls (argsL.reverse ++ .ref a :: rest)) rfl hsz (Steps.refl _) (a := a) (argsL := argsL) (rest := rest) hlen rfl (by simpa using hW) hd (fun _ _ => ⟨rfl, eT, hc, hs⟩)
  dsimp only [Pt.U, Pt.locs, Pt.cells, Pt.slots] at X' l1 y1 z1 hQ st
  subst l1 y1 z1
  exact Wout.tr st (hr v T' T'.heap Lc X' rfl hQ)
theorem o_callIB (X : Stand p l e R s m args below meth c T locs cells slots) (hx : p.tables.exec = Jvm.exec) (hZ : Z.Warmed39 s.vm) {own : String} {index : Nat} {y : MethodName} {bytes : ByteArray} {maxL : Nat} (hy1 : y.name = "<init>") (hown : s.vm.findClass own = some m.cls) (w1 : (Jvm.Cond.methodLink own index y).before a0 Z = true) (w2 : (Jvm.Cond.instanceMethod y).before a0 Z = true) (w4 : (Jvm.Cond.code y bytes maxL none).before a0 Z = true)
    (hy : y.cls ≠ "java/lang/invoke/MethodHandle" ∧ y.cls ≠ "java/lang/invoke/VarHandle") {kc ks W : Nat} {as' : Array Value} {Q : Option Value → Heap → List Loc → Prop} (hK : Back l R p e below s args y 3 W (fun A a => a = as' ∧ A.U.heap = h ∧ A.cells + kc ≤ R.cells ∧ A.slots + ks ≤ R.slots) (fun A _ v B => ∃ L, Q v B.U.heap L ∧ B.locs = A.locs ++ L ∧ B.cells = A.cells + kc ∧ B.slots = A.slots + ks)) (eT : T.heap = h) (hsz : Ls.size = c.maxLocals) {a : Addr} (argsL : List Value) {st : List Value} (hlen : ∀ sig, parseMethodDescriptor y.desc = some sig → argsL.length = sig.parameters.length) (hst : st = argsL.reverse ++ .ref a :: rest) (has : (.ref a :: argsL).toArray = as')
    (hW : (rest.map fun v => v.category).sum ≤ W) (hc : cells + kc ≤ R.cells) (hs : slots + ks ≤ R.slots) (n : Nat) (hd : decode c.code pc = .ok (.invokespecial index, 3)) (hp : pc + 3 = n)
    (hr : ∀ v T' h' L, Stand p l e R s m args below meth c T' (locs ++ L) (cells + kc) (slots + ks) → T'.heap = h' → Q v h' L → Wout p e below P T' (mkF m n Ls (v.toList ++ rest))) : Wout p e below P T (mkF m pc Ls st) := by
  subst hp has hst
  obtain ⟨v, vm₁, ⟨T', L', k', n'⟩, -, X', ⟨Lc, hQ, l1, y1, z1⟩, st⟩ := X.specialBack hx hy1 hown (mv hZ w1) (mv hZ w2) (mv hZ w4) hy hK (g := mkF m pc Ls (argsL.reverse ++ .ref a :: rest)) rfl hsz (Steps.refl _) (a := a) (argsL := argsL) (rest := rest) hlen rfl (by simpa using hW) hd (fun _ _ => ⟨rfl, eT, hc, hs⟩)
  dsimp only [Pt.U, Pt.locs, Pt.cells, Pt.slots] at X' l1 y1 z1 hQ st
  subst l1 y1 z1
  exact Wout.tr st (hr v T' T'.heap Lc X' rfl hQ)
theorem o_callV (X : Stand p l e R s m args below meth c T locs cells slots) (hx : p.tables.exec = Jvm.exec) (hZ : Z.Warmed39 s.vm) {own C : String} {index : Nat} {y : MethodName} {bytes : ByteArray} {maxL : Nat} {ret : Option FieldType} (hown : s.vm.findClass own = some m.cls) (w1 : (Jvm.Cond.methodLink own index y).before a0 Z = true) (w5 : (Jvm.Cond.declares y).before a0 Z = true) (w6 : (Jvm.Cond.selects C y y).before a0 Z = true) (w2 : (Jvm.Cond.instanceMethod y).before a0 Z = true) (w3 : (Jvm.Cond.initialized y.cls).before a0 Z = true) (w4 : (Jvm.Cond.code y bytes maxL ret).before a0 Z = true)
    (hy : y.cls ≠ "java/lang/invoke/MethodHandle" ∧ y.cls ≠ "java/lang/invoke/VarHandle") {rm : Room} {as' : Array Value} {Q : Option Value → Heap → List Loc → Prop} (hM : Met l Z y bytes maxL ret [] rm as' h Q) (eT : T.heap = h) (hf : rm.frames + 1 ≤ R.frames) (W : Nat) (hl : W + (maxL + 11) + rm.locals ≤ R.locals) (hsz : Ls.size = c.maxLocals) {a : Addr} (E : Exa Z h a C) (argsL : List Value) {st : List Value} (hlen : ∀ sig, parseMethodDescriptor y.desc = some sig → argsL.length = sig.parameters.length) (hst : st = argsL.reverse ++ .ref a :: rest) (has : (.ref a :: argsL).toArray = as')
    (hW : (rest.map fun v => v.category).sum ≤ W) (hc : cells + rm.cells ≤ R.cells) (hs : slots + rm.slots ≤ R.slots) (n : Nat) (hd : decode c.code pc = .ok (.invokevirtual index, 3)) (hp : pc + 3 = n)
    (hr : ∀ v T' h' L, Stand p l e R s m args below meth c T' (locs ++ L) (cells + rm.cells) (slots + rm.slots) → T'.heap = h' → Q v h' L → Wout p e below P T' (mkF m n Ls (v.toList ++ rest))) : Wout p e below P T (mkF m pc Ls st) := by
  subst hp has hst
  obtain ⟨cq, kq, qa, qb, qc⟩ := isOf hZ eT E
  obtain ⟨v, vm₁, ⟨T', L', k', n'⟩, -, X', ⟨Lc, hQ, l1, y1, z1⟩, st⟩ := X.virtualBack hx hown (mv hZ w1) (mv hZ w5) (notFace_of_selects (args := #[]) (mv hZ w6)) (mv hZ w6) (mv hZ w2) hy (backOf (W := W) hM hZ w4 w3 hf hl) qa qc (g := mkF m pc Ls (argsL.reverse ++ .ref a :: rest)) rfl hsz (Steps.refl _) (argsL := argsL) (rest := rest) hlen rfl (by simpa using hW) hd (fun _ _ => ⟨rfl, eT, hc, hs⟩)
  dsimp only [Pt.U, Pt.locs, Pt.cells, Pt.slots] at X' l1 y1 z1 hQ st
  subst l1 y1 z1
  exact Wout.tr st (hr v T' T'.heap Lc X' rfl hQ)
theorem o_callU (X : Stand p l e R s m args below meth c T locs cells slots) (hx : p.tables.exec = Jvm.exec) (hZ : Z.Warmed39 s.vm) {own C owner : String} {index : Nat} {y z : MethodName} {bytes : ByteArray} {maxL : Nat} {ret : Option FieldType} (hown : s.vm.findClass own = some m.cls) (w1 : (Jvm.Cond.methodLink own index y).before a0 Z = true) (w7 : (Jvm.Cond.sameMethod y.cls owner y.name y.desc).before a0 Z = true) (w5 : (Jvm.Cond.declares ⟨owner, y.name, y.desc⟩).before a0 Z = true) (w6 : (Jvm.Cond.selects C y z).before a0 Z = true) (w2 : (Jvm.Cond.instanceMethod z).before a0 Z = true) (w3 : (Jvm.Cond.initialized z.cls).before a0 Z = true) (w4 : (Jvm.Cond.code z bytes maxL ret).before a0 Z = true)
    (hy : owner ≠ "java/lang/invoke/MethodHandle" ∧ owner ≠ "java/lang/invoke/VarHandle") {rm : Room} {as' : Array Value} {Q : Option Value → Heap → List Loc → Prop} (hM : Met l Z z bytes maxL ret [] rm as' h Q) (eT : T.heap = h) (hf : rm.frames + 1 ≤ R.frames) (W : Nat) (hl : W + (maxL + 11) + rm.locals ≤ R.locals) (hsz : Ls.size = c.maxLocals) {a : Addr} (E : Exa Z h a C) (argsL : List Value) {st : List Value} (hlen : ∀ sig, parseMethodDescriptor y.desc = some sig → argsL.length = sig.parameters.length) (hst : st = argsL.reverse ++ .ref a :: rest) (has : (.ref a :: argsL).toArray = as')
    (hW : (rest.map fun v => v.category).sum ≤ W) (hc : cells + rm.cells ≤ R.cells) (hs : slots + rm.slots ≤ R.slots) (n : Nat) (hd : decode c.code pc = .ok (.invokevirtual index, 3)) (hp : pc + 3 = n)
    (hr : ∀ v T' h' L, Stand p l e R s m args below meth c T' (locs ++ L) (cells + rm.cells) (slots + rm.slots) → T'.heap = h' → Q v h' L → Wout p e below P T' (mkF m n Ls (v.toList ++ rest))) : Wout p e below P T (mkF m pc Ls st) := by
  subst hp has hst
  obtain ⟨cq, kq, qa, qb, qc⟩ := isOf hZ eT E
  obtain ⟨v, vm₁, ⟨T', L', k', n'⟩, -, X', ⟨Lc, hQ, l1, y1, z1⟩, st⟩ := X.virtualBackUp hx hown (mv hZ w1) (mv hZ w7) (mv hZ w5) hy (mv hZ w6) (mv hZ w2) (backOf (W := W) hM hZ w4 w3 hf hl) qa qc (g := mkF m pc Ls (argsL.reverse ++ .ref a :: rest)) rfl hsz (Steps.refl _) (argsL := argsL) (rest := rest) hlen rfl (by simpa using hW) hd (fun _ _ => ⟨rfl, eT, hc, hs⟩)
  dsimp only [Pt.U, Pt.locs, Pt.cells, Pt.slots] at X' l1 y1 z1 hQ st
  subst l1 y1 z1
  exact Wout.tr st (hr v T' T'.heap Lc X' rfl hQ)
/-! returns -/
theorem o_retW (X : Stand p l e R s m args below meth c T locs cells slots) (hx : p.tables.exec = Jvm.exec) {Q : Option Value → Heap → List Loc → Prop} {C S : Nat} {w w' : Value} {t : FieldType} {i : Instr} (hlk : meth.locks = false) (hret : meth.sig.returnType = some t) (hn : Jvm.narrow t w = w)
    (hi : (i = .ireturn ∧ (t = .int ∨ t = .boolean ∨ t = .byte ∨ t = .char ∨ t = .short) ∧ ∃ z, w = .int z) ∨ (i = .lreturn ∧ t = .long ∧ ∃ z, w = .long z) ∨ (i = .dreturn ∧ t = .double ∧ ∃ z, w = .double z) ∨ (i = .freturn ∧ t = .float ∧ ∃ z, w = .float z) ∨ (i = .areturn ∧ t.isReference = true ∧ w.isRef = true))
    (hd : decode c.code pc = .ok (i, 1)) (hc : cells ≤ C) (hs : slots ≤ S) (hq : Q (some w) T.heap locs) : Wout p e below (Pst s Q C S) T (mkF m pc Ls (w :: rest)) := by
  obtain ⟨fs, hr, hrun, hended, hW, hsame⟩ := X.leave (v := some w) (fun q => by rw [hret] at q; cases q) hlk
  exact ⟨_, _, retOut X hx hret hn hi hd hr, hrun, hended, _, _, rfl, hq, ⟨_, rfl⟩, hW, hsame.mono hc hs⟩
theorem o_retI (X : Stand p l e R s m args below meth c T locs cells slots) (hx : p.tables.exec = Jvm.exec) {Q : Option Value → Heap → List Loc → Prop} {C S : Nat} {x : Int32} {t : FieldType} (hlk : meth.locks = false) (hret : meth.sig.returnType = some t) (hn : Jvm.narrow t (.int x) = .int x) (ht : t = .int ∨ t = .boolean ∨ t = .byte ∨ t = .char ∨ t = .short)
    (hd : decode c.code pc = .ok (.ireturn, 1)) (hc : cells ≤ C) (hs : slots ≤ S) (hq : Q (some (.int x)) T.heap locs) : Wout p e below (Pst s Q C S) T (mkF m pc Ls (.int x :: rest)) :=
  o_retW X hx (w' := .null) hlk hret hn (Or.inl ⟨rfl, ht, x, rfl⟩) hd hc hs hq
theorem o_retL (X : Stand p l e R s m args below meth c T locs cells slots) (hx : p.tables.exec = Jvm.exec) {Q : Option Value → Heap → List Loc → Prop} {C S : Nat} {x : Int64} (hlk : meth.locks = false) (hret : meth.sig.returnType = some .long)
    (hd : decode c.code pc = .ok (.lreturn, 1)) (hc : cells ≤ C) (hs : slots ≤ S) (hq : Q (some (.long x)) T.heap locs) : Wout p e below (Pst s Q C S) T (mkF m pc Ls (.long x :: rest)) :=
  o_retW X hx (w' := .null) hlk hret rfl (Or.inr (Or.inl ⟨rfl, rfl, x, rfl⟩)) hd hc hs hq
theorem o_retA (X : Stand p l e R s m args below meth c T locs cells slots) (hx : p.tables.exec = Jvm.exec) {Q : Option Value → Heap → List Loc → Prop} {C S : Nat} {w : Value} {t : FieldType} (hlk : meth.locks = false) (hret : meth.sig.returnType = some t) (ht : t.isReference = true) (hw : w.isRef = true) (hn : Jvm.narrow t w = w)
    (hd : decode c.code pc = .ok (.areturn, 1)) (hc : cells ≤ C) (hs : slots ≤ S) (hq : Q (some w) T.heap locs) : Wout p e below (Pst s Q C S) T (mkF m pc Ls (w :: rest)) :=
  o_retW X hx (w' := .null) hlk hret hn (Or.inr (Or.inr (Or.inr (Or.inr ⟨rfl, ht, hw⟩)))) hd hc hs hq
theorem o_retD (X : Stand p l e R s m args below meth c T locs cells slots) (hx : p.tables.exec = Jvm.exec) {Q : Option Value → Heap → List Loc → Prop} {C S : Nat} {x : UInt64} (hlk : meth.locks = false) (hret : meth.sig.returnType = some .double)
    (hd : decode c.code pc = .ok (.dreturn, 1)) (hc : cells ≤ C) (hs : slots ≤ S) (hq : Q (some (.double x)) T.heap locs) : Wout p e below (Pst s Q C S) T (mkF m pc Ls (.double x :: rest)) :=
  o_retW X hx (w' := .null) hlk hret rfl (Or.inr (Or.inr (Or.inl ⟨rfl, rfl, x, rfl⟩))) hd hc hs hq
theorem o_retV (X : Stand p l e R s m args below meth c T locs cells slots) (hx : p.tables.exec = Jvm.exec) {Q : Option Value → Heap → List Loc → Prop} {C S : Nat} (hlk : meth.locks = false) (hret : meth.sig.returnType = none)
    (hd : decode c.code pc = .ok (.return_, 1)) (hc : cells ≤ C) (hs : slots ≤ S) (hq : Q none T.heap locs) : Wout p e below (Pst s Q C S) T (mkF m pc Ls []) := by
  obtain ⟨fs, hr, hrun, hended, hW, hsame⟩ := X.leave (v := none) (fun _ => rfl) hlk
  exact ⟨_, _, X.returnOut hx hret hd hr, hrun, hended, _, _, rfl, hq, ⟨_, rfl⟩, hW, hsame.mono hc hs⟩
/-! from the sheet's words -/
theorem fld_eq {t : Term} {a : Addr} {C n d : String} {k : Int32} (ev : t.eval args Z none [] Z = some (.ref a)) (q : (Jvm.Cond.eq (.field t C n d) (.int k)).value args Z none Z [] = some true) : Fld Z Z.heap a C n d (.int k) := by
  exact Fld.start ((fld_at ev).symm.trans (eqv_i rfl q))
theorem sta_bool {C n d : String} (w1 : (Jvm.Cond.initializedFor C n d).before args Z = true) (w2 : (Jvm.Cond.isInt (.static C n d)).before args Z = true) (w3 : (Jvm.Cond.not (.eq (.static C n d) (.int 0))).before args Z = true) : ∃ x : Int32, Sta Z Z.heap C n d (.int x) ∧ ¬ x = 0 := by
  obtain ⟨x, ev⟩ := is_v (Cond.before_iff.mp w2)
  refine ⟨x, Sta.start ev (Or.inl w1), fun q => ?_⟩
  have q2 := not_v (Cond.before_iff.mp w3)
  exact gotF (Cond.eq_ints ev rfl) q2 q
/-! numbers -/
theorem mask31 (x : Int32) : 0 ≤ (x &&& 2147483647).toInt := by
  have e := Jvm.Kit.i32_mask x 2147483647 (k := 31) (by decide) (by decide)
  omega
theorem rem_pos {y n : Int32} (hy : 0 ≤ y.toInt) (hn : 0 < n.toInt) : (y % n).toInt = y.toInt % n.toInt := by
  rw [Int32.toInt_mod, Int.tmod_eq_emod_of_nonneg hy]
theorem rem_in {y n : Int32} (hy : 0 ≤ y.toInt) (hn : 0 < n.toInt) : 0 ≤ (y % n).toInt ∧ (y % n).toInt < n.toInt := by
  rw [rem_pos hy hn]
  exact ⟨Int.emod_nonneg _ (by omega), Int.emod_lt_of_pos _ hn⟩
theorem in3 {k : Int32} (h1 : 0 ≤ k.toInt) (h2 : k.toInt < 3) : k = 0 ∨ k = 1 ∨ k = 2 := by
  have : k.toInt = 0 ∨ k.toInt = 1 ∨ k.toInt = 2 := by omega
  rcases this with q | q | q
  · exact Or.inl (Int32.toInt_inj.mp q)
  · exact Or.inr (Or.inl (Int32.toInt_inj.mp q))
  · exact Or.inr (Or.inr (Int32.toInt_inj.mp q))
theorem in4 {k : Int32} (h1 : 0 ≤ k.toInt) (h2 : k.toInt < 4) : k = 0 ∨ k = 1 ∨ k = 2 ∨ k = 3 := by
  have : k.toInt = 0 ∨ k.toInt = 1 ∨ k.toInt = 2 ∨ k.toInt = 3 := by omega
  rcases this with q | q | q | q
  · exact Or.inl (Int32.toInt_inj.mp q)
  · exact Or.inr (Or.inl (Int32.toInt_inj.mp q))
  · exact Or.inr (Or.inr (Or.inl (Int32.toInt_inj.mp q)))
  · exact Or.inr (Or.inr (Or.inr (Int32.toInt_inj.mp q)))
end K
end Jvm.OwnWalk
/- laws to paste: Road.backV (cut by pick.py; bodies as the Statement names them) -/
namespace Jvm.Pilot.@@N@@
namespace StrChars
open Jvm Sem ClassFile Op Lib Jvm.Stand Jvm.Free.XT Jvm.Free.ALB Jvm.Free.JM Jvm.Free
open Jvm.Lib.Cold (StaticIs)
/-- a char array whose places are chars -/
def Ch (a : Addr) (A : Cell) (U : State) : Prop := Arr .char a A U ∧ Typed .char A
theorem Ch.mv {a : Addr} {A : Cell} {U U' : State} (h : Ch a A U) (hal : U.vm.Alike U'.vm) (hh : U'.heap = U.heap) : Ch a A U' := ⟨h.1.mv hal hh, h.2⟩
theorem Ch.keep {a : Addr} {A : Cell} {U U' : State} (h : Ch a A U) (hal : U.vm.Alike U'.vm) (hk : U'.heap[a]? = some A) : Ch a A U' := ⟨h.1.keep hal hk, h.2⟩
/-- what place i of a char[]'s cell holds -/
def cv (A : Cell) (i : Nat) : Int32 := match A.slots[i]? with | some (.int x) => x | _ => 0
theorem Ch.get {a : Addr} {A : Cell} {U : State} (h : Ch a A U) {i : Nat} (hi : i < A.slots.size) : A.slots[i]? = some (.int (cv A i)) := by
  have e := Array.getElem?_eq_getElem hi
  have f := h.2 i _ e
  unfold cv; rw [e]
  generalize A.slots[i] = v at f
  cases v <;> simp [fits] at f ⊢
/-- the byte that i2b leaves of a char -/
def lo8 (x : Int32) : Int32 := x.toInt8.toInt32
theorem fits_lo8 (y : Int32) : fits .byte (.int (lo8 y)) = true := by
  have h1 := y.toInt8.le_toInt
  have h2 := y.toInt8.toInt_lt
  simp only [lo8, fits, Bool.and_eq_true, decide_eq_true_eq, Int32.le_iff_toInt_le, Int8.toInt_toInt32, show (-128 : Int32).toInt = -128 from by decide, show (127 : Int32).toInt = 127 from by decide]
  omega
/-- A' is A but that each place j of lo .. hi - 1 holds f j -/
def Laid (A A' : Cell) (lo hi : Nat) (f : Nat → Value) : Prop := A'.cls = A.cls ∧ A'.vm = A.vm ∧ A'.slots.size = A.slots.size ∧ ∀ i, A'.slots[i]? = if lo ≤ i ∧ i < hi then some (f i) else A.slots[i]?
theorem Laid.zero (A : Cell) (lo : Nat) (f : Nat → Value) : Laid A A lo (lo + 0) f := ⟨rfl, rfl, rfl, fun i => by rw [if_neg (by omega)]⟩
theorem Laid.step {A Ak : Cell} {lo k : Nat} {f : Nat → Value} {v : Value} (h : Laid A Ak lo k f) (hlo : lo ≤ k) (hk : k < Ak.slots.size) (hv : v = f k) : Laid A (Ak.setSlot k v) lo (k + 1) f := by
  refine ⟨h.1, h.2.1, by simpa [Cell.setSlot] using h.2.2.1, fun i => ?_⟩
  by_cases e : k = i
  · subst e; rw [Cell.slots_setSlot_self v hk, if_pos (by omega), hv]
  · rw [Cell.slots_setSlot_ne v e, h.2.2.2 i]
    by_cases q : lo ≤ i ∧ i < k
    · rw [if_pos q, if_pos (by omega)]
    · rw [if_neg q, if_neg (by omega)]
def U16 : String := "java/lang/StringUTF16"
namespace Cmp5
def yN : MethodName := ⟨"java/lang/StringUTF16", "compress", "([CI[BII)I"⟩
abbrev yB : ByteArray := jdk_52_method_21_code
theorem d0 : decode yB 0 = .ok (.iconst 0, 1) := by decide +kernel
theorem d1 : decode yB 1 = .ok (.istore 5, 2) := by decide +kernel
theorem d3 : decode yB 3 = .ok (.iload 5, 2) := by decide +kernel
theorem d5 : decode yB 5 = .ok (.iload 4, 2) := by decide +kernel
theorem d7 : decode yB 7 = .ok (.if_icmp (.ge) 37, 3) := by decide +kernel
theorem d10 : decode yB 10 = .ok (.aload_n 0, 1) := by decide +kernel
theorem d11 : decode yB 11 = .ok (.iload_n 1, 1) := by decide +kernel
theorem d12 : decode yB 12 = .ok (.caload, 1) := by decide +kernel
theorem d13 : decode yB 13 = .ok (.istore 6, 2) := by decide +kernel
theorem d15 : decode yB 15 = .ok (.iload 6, 2) := by decide +kernel
theorem d17 : decode yB 17 = .ok (.sipush 255, 3) := by decide +kernel
theorem d20 : decode yB 20 = .ok (.if_icmp (.le) 6, 3) := by decide +kernel
theorem d26 : decode yB 26 = .ok (.aload_n 2, 1) := by decide +kernel
theorem d27 : decode yB 27 = .ok (.iload_n 3, 1) := by decide +kernel
theorem d28 : decode yB 28 = .ok (.iload 6, 2) := by decide +kernel
theorem d30 : decode yB 30 = .ok (.i2b, 1) := by decide +kernel
theorem d31 : decode yB 31 = .ok (.bastore, 1) := by decide +kernel
theorem d32 : decode yB 32 = .ok (.iinc 1 1, 3) := by decide +kernel
theorem d35 : decode yB 35 = .ok (.iinc 3 1, 3) := by decide +kernel
theorem d38 : decode yB 38 = .ok (.iinc 5 1, 3) := by decide +kernel
theorem d41 : decode yB 41 = .ok (.goto (-38), 3) := by decide +kernel
theorem d44 : decode yB 44 = .ok (.iload 4, 2) := by decide +kernel
theorem d46 : decode yB 46 = .ok (.ireturn, 1) := by decide +kernel
def site : List Cond := []
def tab : Cond := tabOf yN yB 7 (some .int) site
def P (b : Addr) (A : Cell) (d : Addr) (B : Cell) (o q len : Nat) (args : Array Value) (s : State) : Prop := args = #[.ref b, .int (Int32.ofNat o), .ref d, .int (Int32.ofNat q), .int (Int32.ofNat len)] ∧ Ch b A s ∧ Arr .byte d B s ∧ b ≠ d ∧ o + len ≤ A.slots.size ∧ q + len ≤ B.slots.size ∧ ∀ i, i < len → ¬ 255 < cv A (o + i)
def E (b : Addr) (A : Cell) (d : Addr) (B : Cell) (o q len : Nat) (r : Option Value) (s u : State) : Prop := r = some (.int (Int32.ofNat len)) ∧ ∃ B', Put d B' s u ∧ Laid B B' q (q + len) (fun j => Value.int (lo8 (cv A (o + (j - q)))))
/-- no char of the range above 255: len; the places written hold each char's low byte -/
theorem law (l : Launch) (b : Addr) (A : Cell) (d : Addr) (B : Cell) (o q len : Nat) : Law l yN 5 5 0 0 yB 7 (some .int) site (P b A d B o q len) (E b A d B o q len) (copyLocs d q len) 0 0 := by
  refine Law.of_walk (plainFor_of_name (by decide +kernel)) (by decide +kernel) (by decide +kernel) (by decide) (fun _ _ h => by rw [h.1]; rfl) (fun _ U U' hal hh h => ⟨h.1, h.2.1.mv hal hh, h.2.2.1.mv hal hh, h.2.2.2⟩) (fun r U U' V V' h1 hal h2 h => ⟨h.1, h.2.elim fun B' q => ⟨B', q.1.mv h1 h2, q.2⟩⟩) ?_
  intro p e s m args below meth c s₁ X0 hexec hbytes hml hret hlk hnm hown hh0 W hP
  obtain ⟨rfl, hA, hB, hne, l1, l2, hp⟩ := hP
  have c1 : Steps p.tables e below (s₁.setTop (entryFrame m #[.ref b, .int (Int32.ofNat o), .ref d, .int (Int32.ofNat q), .int (Int32.ofNat len)] 7)) (s₁.setTop (mkF m 0 #[.val (.ref b), .val (.int (Int32.ofNat o)), .val (.ref d), .val (.int (Int32.ofNat q)), .val (.int (Int32.ofNat len)), .unset, .unset] [])) := entry rfl
  have hA0 := hA.1.mv X0.warmed.alike hh0
  have hB0 := hB.mv X0.warmed.alike hh0
  have a31 := hA.1.2.2.2
  have c2 : Steps p.tables e below (s₁.setTop (entryFrame m #[.ref b, .int (Int32.ofNat o), .ref d, .int (Int32.ofNat q), .int (Int32.ofNat len)] 7)) (s₁.setTop (mkF m 3 #[.val (.ref b), .val (.int (Int32.ofNat o)), .val (.ref d), .val (.int (Int32.ofNat q)), .val (.int (Int32.ofNat len)), .val (.int 0), .unset] [])) := c1.trans (by
    refine iconstV X0.here hexec rfl 0 (hb hbytes d0) (by decide) ?_
    refine XS.istore X0.here hexec rfl (hb hbytes d1) rfl rfl ?_
    exact Steps.refl _)
  have loop : ∀ (r i : Nat), i + r = len → ∀ (z : Slot), (z = .unset ∨ ∃ w, z = .val w ∧ w.category = 1) → ∀ (Tl : State) (Bk : Cell), Stand p l e { frames := 0, locals := 0, cells := 0, slots := 0 } s m #[.ref b, .int (Int32.ofNat o), .ref d, .int (Int32.ofNat q), .int (Int32.ofNat len)] below meth c Tl ([] ++ copyLocs d q i) 0 0 → Put d Bk s₁ Tl → Laid B Bk q (q + i) (fun j => Value.int (lo8 (cv A (o + (j - q))))) →
      Steps p.tables e below (s₁.setTop (entryFrame m #[.ref b, .int (Int32.ofNat o), .ref d, .int (Int32.ofNat q), .int (Int32.ofNat len)] 7)) (Tl.setTop (mkF m 3 #[.val (.ref b), .val (.int (Int32.ofNat (o + i))), .val (.ref d), .val (.int (Int32.ofNat (q + i))), .val (.int (Int32.ofNat len)), .val (.int (Int32.ofNat i)), z] [])) → ∃ (T' : State) (B' : Cell) (z' : Slot), Stand p l e { frames := 0, locals := 0, cells := 0, slots := 0 } s m #[.ref b, .int (Int32.ofNat o), .ref d, .int (Int32.ofNat q), .int (Int32.ofNat len)] below meth c T' ([] ++ copyLocs d q len) 0 0 ∧ Put d B' s₁ T' ∧ Laid B B' q (q + len) (fun j => Value.int (lo8 (cv A (o + (j - q))))) ∧
      Steps p.tables e below (s₁.setTop (entryFrame m #[.ref b, .int (Int32.ofNat o), .ref d, .int (Int32.ofNat q), .int (Int32.ofNat len)] 7)) (T'.setTop (mkF m 3 #[.val (.ref b), .val (.int (Int32.ofNat (o + len))), .val (.ref d), .val (.int (Int32.ofNat (q + len))), .val (.int (Int32.ofNat len)), .val (.int (Int32.ofNat len)), z'] [])) := by
    intro r
    induction r with
    | zero =>
      intro i hi z hz Tl Bk Xl pl fl cl
      have hil : i = len := by omega
      rw [hil] at Xl fl cl
      exact ⟨Tl, Bk, z, Xl, pl, fl, cl⟩
    | succ r ih =>
      intro i hi z hz Tl Bk Xl pl fl cl
      have all := X0.warmed.alike.symm.trans Xl.warmed.alike
      have hAl := hA0.keep all (pl.other hne hA0.1)
      have hBk := hB0.like all pl.1 fl.1 fl.2.1 fl.2.2.1
      have hlt : q + i < Bk.slots.size := by rw [fl.2.2.1]; omega
      have c3 : Steps p.tables e below (s₁.setTop (entryFrame m #[.ref b, .int (Int32.ofNat o), .ref d, .int (Int32.ofNat q), .int (Int32.ofNat len)] 7)) (Tl.setTop (mkF m 12 #[.val (.ref b), .val (.int (Int32.ofNat (o + i))), .val (.ref d), .val (.int (Int32.ofNat (q + i))), .val (.int (Int32.ofNat len)), .val (.int (Int32.ofNat i)), z] [.int (Int32.ofNat (o + i)), .ref b])) := cl.trans (by
        refine XS.iload Xl.here hexec rfl (hb hbytes d3) rfl ?_
        refine XS.iload Xl.here hexec rfl (hb hbytes d5) rfl ?_
        refine XS.icmpNo Xl.here hexec rfl (hb hbytes d7) rfl (ii_ge_f (lt32 (by omega) (by omega))) ?_
        refine XS.aloadN Xl.here hexec rfl (hb hbytes d10) rfl rfl ?_
        refine XS.iloadN Xl.here hexec rfl (hb hbytes d11) rfl ?_
        exact Steps.refl _)
      have c4 : Steps p.tables e below (s₁.setTop (entryFrame m #[.ref b, .int (Int32.ofNat o), .ref d, .int (Int32.ofNat q), .int (Int32.ofNat len)] 7)) (Tl.setTop (mkF m 13 #[.val (.ref b), .val (.int (Int32.ofNat (o + i))), .val (.ref d), .val (.int (Int32.ofNat (q + i))), .val (.int (Int32.ofNat len)), .val (.int (Int32.ofNat i)), z] [.int (cv A (o + i))])) := c3.trans (by
        refine Xl.aget hexec hAl rfl (hA.get (i := o + i) (by omega)) rfl rfl (hb hbytes d12) ?_
        exact Steps.refl _)
      have c5 : Steps p.tables e below (s₁.setTop (entryFrame m #[.ref b, .int (Int32.ofNat o), .ref d, .int (Int32.ofNat q), .int (Int32.ofNat len)] 7)) (Tl.setTop (mkF m 15 #[.val (.ref b), .val (.int (Int32.ofNat (o + i))), .val (.ref d), .val (.int (Int32.ofNat (q + i))), .val (.int (Int32.ofNat len)), .val (.int (Int32.ofNat i)), .val (.int (cv A (o + i)))] [])) := c4.trans (by
        refine XS.istoreS Xl.here hexec rfl (hb hbytes d13) rfl rfl hz ?_
        exact Steps.refl _)
      have c6 : Steps p.tables e below (s₁.setTop (entryFrame m #[.ref b, .int (Int32.ofNat o), .ref d, .int (Int32.ofNat q), .int (Int32.ofNat len)] 7)) (Tl.setTop (mkF m 31 #[.val (.ref b), .val (.int (Int32.ofNat (o + i))), .val (.ref d), .val (.int (Int32.ofNat (q + i))), .val (.int (Int32.ofNat len)), .val (.int (Int32.ofNat i)), .val (.int (cv A (o + i)))] [.int (lo8 (cv A (o + i))), .int (Int32.ofNat (q + i)), .ref d])) := c5.trans (by
        refine XS.iload Xl.here hexec rfl (hb hbytes d15) rfl ?_
        refine sipushV Xl.here hexec rfl 255 (hb hbytes d17) (by decide) ?_
        refine XS.icmpYes Xl.here hexec rfl (pc0 := 20) rfl (hb hbytes d20) rfl (ii_le_t (hp i (by omega))) (by decide) rfl ?_
        refine XS.aloadN Xl.here hexec rfl (hb hbytes d26) rfl rfl ?_
        refine XS.iloadN Xl.here hexec rfl (hb hbytes d27) rfl ?_
        refine XS.iload Xl.here hexec rfl (hb hbytes d28) rfl ?_
        refine i2b Xl.here hexec rfl (hb hbytes d30) rfl ?_
        exact Steps.refl _)
      obtain ⟨T7, X7, p7, st7⟩ := Xl.aput hexec hBk rfl hlt rfl (fits_lo8 (cv A (o + i))) (g := (mkF m 31 #[.val (.ref b), .val (.int (Int32.ofNat (o + i))), .val (.ref d), .val (.int (Int32.ofNat (q + i))), .val (.int (Int32.ofNat len)), .val (.int (Int32.ofNat i)), .val (.int (cv A (o + i)))] [.int (lo8 (cv A (o + i))), .int (Int32.ofNat (q + i)), .ref d])) rfl (rest := []) rfl (hb hbytes d31)
      have c8 : Steps p.tables e below (s₁.setTop (entryFrame m #[.ref b, .int (Int32.ofNat o), .ref d, .int (Int32.ofNat q), .int (Int32.ofNat len)] 7)) (T7.setTop (mkF m 32 #[.val (.ref b), .val (.int (Int32.ofNat (o + i))), .val (.ref d), .val (.int (Int32.ofNat (q + i))), .val (.int (Int32.ofNat len)), .val (.int (Int32.ofNat i)), .val (.int (cv A (o + i)))] [])) := c6.trans (st7 _ (Steps.refl _))
      have c9 : Steps p.tables e below (s₁.setTop (entryFrame m #[.ref b, .int (Int32.ofNat o), .ref d, .int (Int32.ofNat q), .int (Int32.ofNat len)] 7)) (T7.setTop (mkF m 3 #[.val (.ref b), .val (.int (Int32.ofNat (o + i) + 1)), .val (.ref d), .val (.int (Int32.ofNat (q + i) + 1)), .val (.int (Int32.ofNat len)), .val (.int (Int32.ofNat i + 1)), .val (.int (cv A (o + i)))] [])) := c8.trans (by
        refine iincV X7.here hexec rfl 1 (hb hbytes d32) (by decide) rfl rfl ?_
        refine iincV X7.here hexec rfl 1 (hb hbytes d35) (by decide) rfl rfl ?_
        refine iincV X7.here hexec rfl 1 (hb hbytes d38) (by decide) rfl rfl ?_
        refine XS.goto X7.here hexec rfl (pc0 := 41) rfl (hb hbytes d41) (by decide) rfl ?_
        exact Steps.refl _)
      have c10 : Steps p.tables e below (s₁.setTop (entryFrame m #[.ref b, .int (Int32.ofNat o), .ref d, .int (Int32.ofNat q), .int (Int32.ofNat len)] 7)) (T7.setTop (mkF m 3 #[.val (.ref b), .val (.int (Int32.ofNat (o + (i + 1)))), .val (.ref d), .val (.int (Int32.ofNat (q + (i + 1)))), .val (.int (Int32.ofNat len)), .val (.int (Int32.ofNat (i + 1))), .val (.int (cv A (o + i)))] [])) := by
        have := c9
        rw [succ32, succ32, succ32] at this
        exact this
      exact ih (i + 1) (by omega) _ (Or.inr ⟨_, rfl, rfl⟩) T7 _ (by rw [copyLocs_step, ← List.append_assoc]; exact X7) (pl.trans p7) (fl.step (by omega) hlt (by simp)) c10
  obtain ⟨T9, B9, z9, X9, p9, f9, g9⟩ := loop len 0 (by omega) .unset (Or.inl rfl) s₁ B (by simpa [copyLocs] using X0) ⟨hB0.1, fun _ _ => rfl, rfl⟩ (Laid.zero _ _ _) c2
  have c11 : Steps p.tables e below (s₁.setTop (entryFrame m #[.ref b, .int (Int32.ofNat o), .ref d, .int (Int32.ofNat q), .int (Int32.ofNat len)] 7)) (T9.setTop (mkF m 46 #[.val (.ref b), .val (.int (Int32.ofNat (o + len))), .val (.ref d), .val (.int (Int32.ofNat (q + len))), .val (.int (Int32.ofNat len)), .val (.int (Int32.ofNat len)), z9] [.int (Int32.ofNat len)])) := g9.trans (by
    refine XS.iload X9.here hexec rfl (hb hbytes d3) rfl ?_
    refine XS.iload X9.here hexec rfl (hb hbytes d5) rfl ?_
    refine XS.icmpYes X9.here hexec rfl (pc0 := 7) rfl (hb hbytes d7) rfl (ii_ge_t (nlt32 (by omega) (Nat.le_refl _))) (by decide) rfl ?_
    refine XS.iload X9.here hexec rfl (hb hbytes d44) rfl ?_
    exact Steps.refl _)
  exact ⟨T9, some (.int (Int32.ofNat len)), _, _, _, X9, by simp, rfl, rfl, (fun h => by cases h), ⟨rfl, B9, p9.from hh0, f9⟩, fun fs hl => c11.trans (X9.ireturnOut hexec hret rfl (Or.inl rfl) (hb hbytes d46) hl)⟩
end Cmp5
namespace Cmp3
def yN : MethodName := ⟨"java/lang/StringUTF16", "compress", "([CII)[B"⟩
abbrev yB : ByteArray := jdk_52_method_16_code
theorem d0 : decode yB 0 = .ok (.iload_n 2, 1) := by decide +kernel
theorem d1 : decode yB 1 = .ok (.newarray .byte, 2) := by decide +kernel
theorem d3 : decode yB 3 = .ok (.astore_n 3, 1) := by decide +kernel
theorem d4 : decode yB 4 = .ok (.aload_n 0, 1) := by decide +kernel
theorem d5 : decode yB 5 = .ok (.iload_n 1, 1) := by decide +kernel
theorem d6 : decode yB 6 = .ok (.aload_n 3, 1) := by decide +kernel
theorem d7 : decode yB 7 = .ok (.iconst 0, 1) := by decide +kernel
theorem d8 : decode yB 8 = .ok (.iload_n 2, 1) := by decide +kernel
theorem d9 : decode yB 9 = .ok (.invokestatic 115, 3) := by decide +kernel
theorem d12 : decode yB 12 = .ok (.istore 4, 2) := by decide +kernel
theorem d14 : decode yB 14 = .ok (.iload 4, 2) := by decide +kernel
theorem d16 : decode yB 16 = .ok (.iload_n 2, 1) := by decide +kernel
theorem d17 : decode yB 17 = .ok (.if_icmp (.eq) 40, 3) := by decide +kernel
theorem d57 : decode yB 57 = .ok (.aload_n 3, 1) := by decide +kernel
theorem d58 : decode yB 58 = .ok (.areturn, 1) := by decide +kernel
def site : List Cond := [.arrayClass .byte, Cmp5.tab] ++ staticW U16 115 Cmp5.yN
def tab : Cond := tabOf yN yB 6 (some (.array .byte)) site
def P (b : Addr) (A : Cell) (o len : Nat) (args : Array Value) (s : State) : Prop := args = #[.ref b, .int (Int32.ofNat o), .int (Int32.ofNat len)] ∧ Ch b A s ∧ o + len ≤ A.slots.size ∧ len ≤ 536870912 ∧ ∀ i, i < len → ¬ 255 < cv A (o + i)
def E (b : Addr) (A : Cell) (o len : Nat) (r : Option Value) (s u : State) : Prop := NewArr .byte "[B" len (fun j => .int (lo8 (cv A (o + j)))) r s u ∧ u.heap.size = s.heap.size + 1
/-- no char of the range above 255: a new byte[] of their low bytes -/
theorem law (l : Launch) (b : Addr) (A : Cell) (o len : Nat) : Law l yN 3 3 1 18 yB 6 (some (.array .byte)) site (P b A o len) (E b A o len) [] 1 len := by
  refine Law.of_walk (plainFor_of_name (by decide +kernel)) (by decide +kernel) (by decide +kernel) (by decide) (fun _ _ h => by rw [h.1]; rfl) (fun _ U U' hal hh h => ⟨h.1, h.2.1.mv hal hh, h.2.2⟩) (fun r U U' V V' h1 hal h2 h => ⟨NewArr.mv r U U' V V' h1 hal h2 h.1, by rw [h1, h2]; exact h.2⟩) ?_
  intro p e s m args below meth c s₁ X0 hexec hbytes hml hret hlk hnm hown hh0 W hP
  obtain ⟨rfl, hA, l1, l2, hp⟩ := hP
  have a31 := hA.1.2.2.2
  have c1 : Steps p.tables e below (s₁.setTop (entryFrame m #[.ref b, .int (Int32.ofNat o), .int (Int32.ofNat len)] 6)) (s₁.setTop (mkF m 0 #[.val (.ref b), .val (.int (Int32.ofNat o)), .val (.int (Int32.ofNat len)), .unset, .unset, .unset] [])) := entry rfl
  have c2 : Steps p.tables e below (s₁.setTop (entryFrame m #[.ref b, .int (Int32.ofNat o), .int (Int32.ofNat len)] 6)) (s₁.setTop (mkF m 1 #[.val (.ref b), .val (.int (Int32.ofNat o)), .val (.int (Int32.ofNat len)), .unset, .unset, .unset] [.int (Int32.ofNat len)])) := c1.trans (by
    refine XS.iloadN X0.here hexec rfl (hb hbytes d0) rfl ?_
    exact Steps.refl _)
  obtain ⟨T3, B3, X3, ba3, bs3, bv3, bh3, bf3, st3⟩ := X0.anew hexec (atype := .byte) (wk W (.arrayClass .byte)) rfl (by show len * 1 ≤ _; omega) (by omega) (g := (mkF m 1 #[.val (.ref b), .val (.int (Int32.ofNat o)), .val (.int (Int32.ofNat len)), .unset, .unset, .unset] [.int (Int32.ofNat len)])) rfl (hb hbytes d1) (rest := []) rfl (Nat.le_refl _) (by show 0 + len ≤ len; omega)
  rw [hh0] at ba3 st3
  have kp3 : XT.Kept s T3 := (XT.Kept.of_eq hh0).push bh3
  have hA3 := hA.keep X3.warmed.alike (kp3 _ _ hA.1.1)
  have hne : b ≠ s.heap.size := hA.1.ne
  have c4 : Steps p.tables e below (s₁.setTop (entryFrame m #[.ref b, .int (Int32.ofNat o), .int (Int32.ofNat len)] 6)) (T3.setTop (mkF m 3 #[.val (.ref b), .val (.int (Int32.ofNat o)), .val (.int (Int32.ofNat len)), .unset, .unset, .unset] [.ref s.heap.size])) := c2.trans (st3 _ (Steps.refl _))
  have c5 : Steps p.tables e below (s₁.setTop (entryFrame m #[.ref b, .int (Int32.ofNat o), .int (Int32.ofNat len)] 6)) (T3.setTop (mkF m 9 #[.val (.ref b), .val (.int (Int32.ofNat o)), .val (.int (Int32.ofNat len)), .val (.ref s.heap.size), .unset, .unset] [.int (Int32.ofNat len), .int 0, .ref s.heap.size, .int (Int32.ofNat o), .ref b])) := c4.trans (by
    refine XS.astoreN X3.here hexec rfl (hb hbytes d3) rfl rfl rfl ?_
    refine XS.aloadN X3.here hexec rfl (hb hbytes d4) rfl rfl ?_
    refine XS.iloadN X3.here hexec rfl (hb hbytes d5) rfl ?_
    refine XS.aloadN X3.here hexec rfl (hb hbytes d6) rfl rfl ?_
    refine iconstV X3.here hexec rfl 0 (hb hbytes d7) (by decide) ?_
    refine XS.iloadN X3.here hexec rfl (hb hbytes d8) rfl ?_
    exact Steps.refl _)
  obtain ⟨v6, T6, X6, E6, g6⟩ := X3.callS hexec (Cmp5.law l b A s.heap.size B3 o 0 len) hown (wks W (staticW U16 115 Cmp5.yN)) (wk W Cmp5.tab) (W := 0) (Nat.le_of_ble_eq_true rfl) (Nat.le_of_ble_eq_true rfl) (Nat.le_refl _) (by show 0 + len + 0 ≤ len; omega) (g := (mkF m 9 #[.val (.ref b), .val (.int (Int32.ofNat o)), .val (.int (Int32.ofNat len)), .val (.ref s.heap.size), .unset, .unset] [.int (Int32.ofNat len), .int (Int32.ofNat 0), .ref s.heap.size, .int (Int32.ofNat o), .ref b])) rfl (by rw [hml]; rfl) c5 (argsL := [.ref b, .int (Int32.ofNat o), .ref s.heap.size, .int (Int32.ofNat 0), .int (Int32.ofNat len)]) (rest := []) rfl rfl (by show 2 * 0 + 0 ≤ _; decide) (hb hbytes d9) (⟨rfl, hA3, ba3, hne, l1, by rw [bs3]; simp, hp⟩)
  obtain ⟨rfl, B6, p6, f6⟩ := E6
  have c7 : Steps p.tables e below (s₁.setTop (entryFrame m #[.ref b, .int (Int32.ofNat o), .int (Int32.ofNat len)] 6)) (T6.setTop (mkF m 12 #[.val (.ref b), .val (.int (Int32.ofNat o)), .val (.int (Int32.ofNat len)), .val (.ref s.heap.size), .unset, .unset] [.int (Int32.ofNat len)])) := g6
  have c8 : Steps p.tables e below (s₁.setTop (entryFrame m #[.ref b, .int (Int32.ofNat o), .int (Int32.ofNat len)] 6)) (T6.setTop (mkF m 58 #[.val (.ref b), .val (.int (Int32.ofNat o)), .val (.int (Int32.ofNat len)), .val (.ref s.heap.size), .val (.int (Int32.ofNat len)), .unset] [.ref s.heap.size])) := c7.trans (by
    refine XS.istore X6.here hexec rfl (hb hbytes d12) rfl rfl ?_
    refine XS.iload X6.here hexec rfl (hb hbytes d14) rfl ?_
    refine XS.iloadN X6.here hexec rfl (hb hbytes d16) rfl ?_
    refine XS.icmpYes X6.here hexec rfl (pc0 := 17) rfl (hb hbytes d17) rfl (ii_eq_t rfl) (by decide) rfl ?_
    refine XS.aloadN X6.here hexec rfl (hb hbytes d57) rfl rfl ?_
    exact Steps.refl _)
  have X8 := X6.wide (L' := []) (cells' := 1) (slots' := len) (fun x hx hlt => by
    simp only [List.nil_append, copyLocs, List.mem_map, List.mem_range] at hx
    obtain ⟨i, -, rfl⟩ := hx
    exact absurd hlt (Nat.lt_irrefl _)) (Nat.le_refl _) (by omega)
  exact ⟨T6, some (.ref s.heap.size), _, _, _, X8, rfl, rfl, rfl, (fun h => by cases h), ⟨⟨rfl, B6, ba3.like (X3.warmed.alike.symm.trans X6.warmed.alike) p6.1 f6.1 f6.2.1 f6.2.2.1, f6.2.1.trans bv3, by rw [X6.warmed.alike.findClass, f6.1]; exact bf3, by rw [f6.2.2.1, bs3]; simp, fun j hj => by rw [f6.2.2.2 j, if_pos (by omega)]; rfl, kp3.put p6 (Nat.le_refl _)⟩, by rw [p6.2.2, bh3, hh0]; simp⟩, fun fs hl => c8.trans (X8.areturnOut hexec rfl hret rfl (hb hbytes d58) hl)⟩
end Cmp3
namespace CodL
def yN : MethodName := ⟨"java/lang/StringUTF16", "coderFromArrayLen", "([BI)B"⟩
abbrev yB : ByteArray := jdk_52_method_15_code
theorem d0 : decode yB 0 = .ok (.iload_n 1, 1) := by decide +kernel
theorem d1 : decode yB 1 = .ok (.aload_n 0, 1) := by decide +kernel
theorem d2 : decode yB 2 = .ok (.arraylength, 1) := by decide +kernel
theorem d3 : decode yB 3 = .ok (.isub, 1) := by decide +kernel
theorem d4 : decode yB 4 = .ok (.bipush 31, 2) := by decide +kernel
theorem d6 : decode yB 6 = .ok (.iushr, 1) := by decide +kernel
theorem d7 : decode yB 7 = .ok (.i2b, 1) := by decide +kernel
theorem d8 : decode yB 8 = .ok (.ireturn, 1) := by decide +kernel
def site : List Cond := []
def tab : Cond := tabOf yN yB 2 (some .byte) site
def P (d : Addr) (B : Cell) (args : Array Value) (s : State) : Prop := args = #[.ref d, .int (Int32.ofNat B.slots.size)] ∧ Arr .byte d B s
def E (r : Option Value) (s u : State) : Prop := XT.PureE (some (.int 0)) r s u
/-- an array as long as the number of chars: LATIN1 -/
theorem law (l : Launch) (d : Addr) (B : Cell) : Law l yN 2 2 0 0 yB 2 (some .byte) site (P d B) E [] 0 0 := by
  refine Law.of_walk (plainFor_of_name (by decide +kernel)) (by decide +kernel) (by decide +kernel) (by decide) (fun _ _ h => by rw [h.1]; rfl) (fun _ U U' hal hh h => ⟨h.1, h.2.mv hal hh⟩) (fun r U U' V V' h1 hal h2 h => XT.PureE.mv r U U' V V' h1 hal h2 h) ?_
  intro p e s m args below meth c s₁ X0 hexec hbytes hml hret hlk hnm hown hh0 W hP
  obtain ⟨rfl, hB⟩ := hP
  have hB0 := hB.mv X0.warmed.alike hh0
  have c1 : Steps p.tables e below (s₁.setTop (entryFrame m #[.ref d, .int (Int32.ofNat B.slots.size)] 2)) (s₁.setTop (mkF m 0 #[.val (.ref d), .val (.int (Int32.ofNat B.slots.size))] [])) := entry rfl
  have c2 : Steps p.tables e below (s₁.setTop (entryFrame m #[.ref d, .int (Int32.ofNat B.slots.size)] 2)) (s₁.setTop (mkF m 2 #[.val (.ref d), .val (.int (Int32.ofNat B.slots.size))] [.ref d, .int (Int32.ofNat B.slots.size)])) := c1.trans (by
    refine XS.iloadN X0.here hexec rfl (hb hbytes d0) rfl ?_
    refine XS.aloadN X0.here hexec rfl (hb hbytes d1) rfl rfl ?_
    exact Steps.refl _)
  have c3 : Steps p.tables e below (s₁.setTop (entryFrame m #[.ref d, .int (Int32.ofNat B.slots.size)] 2)) (s₁.setTop (mkF m 8 #[.val (.ref d), .val (.int (Int32.ofNat B.slots.size))] [.int (lo8 (ushr (Int32.ofNat B.slots.size - Int32.ofNat B.slots.size) 31))])) := c2.trans (by
    refine X0.alen hexec hB0 rfl rfl (hb hbytes d2) ?_
    refine XS.isub X0.here hexec rfl (hb hbytes d3) rfl ?_
    refine bipushV X0.here hexec rfl 31 (hb hbytes d4) (by decide) ?_
    refine iushr X0.here hexec rfl (hb hbytes d6) rfl ?_
    refine i2b X0.here hexec rfl (hb hbytes d7) rfl ?_
    exact Steps.refl _)
  have e0 : lo8 (ushr (Int32.ofNat B.slots.size - Int32.ofNat B.slots.size) 31) = 0 := by rw [Int32.sub_self]; decide
  rw [e0] at c3
  exact ⟨s₁, some (.int 0), _, _, _, X0, rfl, rfl, rfl, (fun h => by cases h), ⟨rfl, hh0⟩, fun fs hl => c3.trans (X0.ireturnOut hexec hret rfl (Or.inr (Or.inr (Or.inl rfl))) (hb hbytes d8) hl)⟩
end CodL
/-- the String at a is Latin-1 over a new byte[] (the heap's one new cell): the low bytes of the len chars of A from o on; every cell but a is kept -/
def Got (a : Addr) (D : Cell) (fV fC : Field) (A : Cell) (o len : Nat) (r : Option Value) (s u : State) : Prop := r = none ∧ ∃ D' V : Cell, Blank "java/lang/String" a D' u ∧ Same D D' [fV.slot, fC.slot] ∧ D'.slots[fV.slot]? = some (.ref s.heap.size) ∧ D'.slots[fC.slot]? = some (.int 0) ∧ Arr .byte s.heap.size V u ∧ V.vm = .none ∧ u.vm.findClass "[B" = some V.cls ∧ V.slots.size = len ∧ (∀ j, j < len → V.slots[j]? = some (.int (lo8 (cv A (o + j))))) ∧ (∀ (y : Addr) (c : Cell), y ≠ a → s.heap[y]? = some c → u.heap[y]? = some c) ∧ u.heap.size = s.heap.size + 1
theorem Got.mv {a : Addr} {D A : Cell} {fV fC : Field} {o len : Nat} : ∀ r (U U' V V' : State), U'.heap = U.heap → V.vm.Alike V'.vm → V'.heap = V.heap → Got a D fV fC A o len r U V → Got a D fV fC A o len r U' V' :=
  fun r U U' V V' h1 hal h2 ⟨e0, D', X, a1, a2, a3, a4, a5, a6, a7, a8, a9, a10, a11⟩ => ⟨e0, D', X, a1.mv hal h2, a2, by rw [h1]; exact a3, a4, by rw [h1]; exact a5.mv hal h2, a6, by rw [hal.findClass]; exact a7, a8, a9, by rw [h1, h2]; exact a10, by rw [h1, h2]; exact a11⟩
namespace New4
def yN : MethodName := ⟨"java/lang/String", "<init>", "([CIILjava/lang/Void;)V"⟩
abbrev yB : ByteArray := jdk_42_method_149_code
theorem d0 : decode yB 0 = .ok (.aload_n 0, 1) := by decide +kernel
theorem d1 : decode yB 1 = .ok (.invokespecial 1, 3) := by decide +kernel
theorem d4 : decode yB 4 = .ok (.iload_n 3, 1) := by decide +kernel
theorem d5 : decode yB 5 = .ok (.ifCond (.ne) 22, 3) := by decide +kernel
theorem d27 : decode yB 27 = .ok (.getstatic 38, 3) := by decide +kernel
theorem d30 : decode yB 30 = .ok (.ifCond (.eq) 28, 3) := by decide +kernel
theorem d33 : decode yB 33 = .ok (.aload_n 1, 1) := by decide +kernel
theorem d34 : decode yB 34 = .ok (.iload_n 2, 1) := by decide +kernel
theorem d35 : decode yB 35 = .ok (.iload_n 3, 1) := by decide +kernel
theorem d36 : decode yB 36 = .ok (.invokestatic 177, 3) := by decide +kernel
theorem d39 : decode yB 39 = .ok (.astore 5, 2) := by decide +kernel
theorem d41 : decode yB 41 = .ok (.aload_n 0, 1) := by decide +kernel
theorem d42 : decode yB 42 = .ok (.aload 5, 2) := by decide +kernel
theorem d44 : decode yB 44 = .ok (.iload_n 3, 1) := by decide +kernel
theorem d45 : decode yB 45 = .ok (.invokestatic 47, 3) := by decide +kernel
theorem d48 : decode yB 48 = .ok (.putfield 15, 3) := by decide +kernel
theorem d51 : decode yB 51 = .ok (.aload_n 0, 1) := by decide +kernel
theorem d52 : decode yB 52 = .ok (.aload 5, 2) := by decide +kernel
theorem d54 : decode yB 54 = .ok (.putfield 9, 3) := by decide +kernel
theorem d57 : decode yB 57 = .ok (.return_, 1) := by decide +kernel
def site : List Cond := [.fieldLink "java/lang/String" 38 "java/lang/String" "COMPACT_STRINGS" "Z", Cmp3.tab, CodL.tab, .laysFinal "java/lang/String" "java/lang/String" "value" "[B", .fieldLink "java/lang/String" 9 "java/lang/String" "value" "[B", .laysFinal "java/lang/String" "java/lang/String" "coder" "B", .fieldLink "java/lang/String" 15 "java/lang/String" "coder" "B"] ++ objW "java/lang/String" 1 ++ staticW "java/lang/String" 177 Cmp3.yN ++ staticW "java/lang/String" 47 CodL.yN
def tab : Cond := tabOf yN yB 6 none site
def P (a : Addr) (D : Cell) (fV fC : Field) (b : Addr) (A : Cell) (z : Int32) (o len : Nat) (args : Array Value) (s : State) : Prop := args = #[.ref a, .ref b, .int (Int32.ofNat o), .int (Int32.ofNat len), .null] ∧ Blank "java/lang/String" a D s ∧ Found "java/lang/String" "value" "[B" fV s ∧ Found "java/lang/String" "coder" "B" fC s ∧ Ch b A s ∧ StaticIs s "java/lang/String" "COMPACT_STRINGS" "Z" (.int z) ∧ ¬ z = 0 ∧ 0 < len ∧ o + len ≤ A.slots.size ∧ len ≤ 536870912 ∧ ∀ i, i < len → ¬ 255 < cv A (o + i)
def E (a : Addr) (D : Cell) (fV fC : Field) (A : Cell) (o len : Nat) (r : Option Value) (s u : State) : Prop := Got a D fV fC A o len r s u
/-- len > 0, no char of the range above 255: a Latin-1 String of their low bytes -/
theorem law (l : Launch) (a : Addr) (D : Cell) (fV fC : Field) (b : Addr) (A : Cell) (z : Int32) (o len : Nat) : Law l yN 5 4 2 35 yB 6 none site (P a D fV fC b A z o len) (E a D fV fC A o len) [⟨a, fC.slot⟩, ⟨a, fV.slot⟩] 1 len := by
  refine Law.of_walk (plainFor_of_name (by decide +kernel)) (by decide +kernel) (by decide +kernel) (by decide) (fun _ _ h => by rw [h.1]; rfl) (fun _ U U' hal hh h => ⟨h.1, h.2.1.mv hal hh, h.2.2.1.al hal, h.2.2.2.1.al hal, h.2.2.2.2.1.mv hal hh, h.2.2.2.2.2.1.there hal hh, h.2.2.2.2.2.2⟩) (fun r U U' V V' h1 hal h2 h => Got.mv r U U' V V' h1 hal h2 h) ?_
  intro p e s m args below meth c s₁ X0 hexec hbytes hml hret hlk hnm hown hh0 W hP
  obtain ⟨rfl, hB, f1, f2, hA, s1, hz, l0, l1, l2, hp⟩ := hP
  have a31 := hA.1.2.2.2
  have c1 : Steps p.tables e below (s₁.setTop (entryFrame m #[.ref a, .ref b, .int (Int32.ofNat o), .int (Int32.ofNat len), .null] 6)) (s₁.setTop (mkF m 0 #[.val (.ref a), .val (.ref b), .val (.int (Int32.ofNat o)), .val (.int (Int32.ofNat len)), .val .null, .unset] [])) := entry rfl
  have c2 : Steps p.tables e below (s₁.setTop (entryFrame m #[.ref a, .ref b, .int (Int32.ofNat o), .int (Int32.ofNat len), .null] 6)) (s₁.setTop (mkF m 1 #[.val (.ref a), .val (.ref b), .val (.int (Int32.ofNat o)), .val (.int (Int32.ofNat len)), .val .null, .unset] [.ref a])) := c1.trans (by
    refine XS.aloadN X0.here hexec rfl (hb hbytes d0) rfl rfl ?_
    exact Steps.refl _)
  obtain ⟨T3, X3, q3, st3⟩ := X0.oinit hexec hown (wks W (objW "java/lang/String" 1)) (g := (mkF m 1 #[.val (.ref a), .val (.ref b), .val (.int (Int32.ofNat o)), .val (.int (Int32.ofNat len)), .val .null, .unset] [.ref a])) rfl (by rw [hml]; rfl) (rest := []) rfl (hb hbytes d1) (W := 0) (by show 2 * 0 + 0 ≤ _; decide) (Nat.le_of_ble_eq_true rfl) (Nat.le_of_ble_eq_true rfl)
  have hh3 := q3.trans hh0
  have c4 : Steps p.tables e below (s₁.setTop (entryFrame m #[.ref a, .ref b, .int (Int32.ofNat o), .int (Int32.ofNat len), .null] 6)) (T3.setTop (mkF m 27 #[.val (.ref a), .val (.ref b), .val (.int (Int32.ofNat o)), .val (.int (Int32.ofNat len)), .val .null, .unset] [])) := (c2.trans (st3 _ (Steps.refl _))).trans (by
    refine XS.iloadN X3.here hexec rfl (hb hbytes d4) rfl ?_
    refine XS.ifYes X3.here hexec rfl (pc0 := 5) rfl (hb hbytes d5) rfl (i0_ne_t (nz32 (by omega) l0)) (by decide) rfl ?_
    exact Steps.refl _)
  obtain ⟨T5, X5, q5, st5⟩ := X3.sget hexec hown (wk W (.fieldLink "java/lang/String" 38 "java/lang/String" "COMPACT_STRINGS" "Z")) s1 (fun _ _ h => by rw [hh3]; exact h) (g := (mkF m 27 #[.val (.ref a), .val (.ref b), .val (.int (Int32.ofNat o)), .val (.int (Int32.ofNat len)), .val .null, .unset] [])) rfl (hb hbytes d27)
  have hh5 := q5.trans hh3
  have c6 : Steps p.tables e below (s₁.setTop (entryFrame m #[.ref a, .ref b, .int (Int32.ofNat o), .int (Int32.ofNat len), .null] 6)) (T5.setTop (mkF m 30 #[.val (.ref a), .val (.ref b), .val (.int (Int32.ofNat o)), .val (.int (Int32.ofNat len)), .val .null, .unset] [.int z])) := c4.trans (st5 _ (Steps.refl _))
  have c7 : Steps p.tables e below (s₁.setTop (entryFrame m #[.ref a, .ref b, .int (Int32.ofNat o), .int (Int32.ofNat len), .null] 6)) (T5.setTop (mkF m 36 #[.val (.ref a), .val (.ref b), .val (.int (Int32.ofNat o)), .val (.int (Int32.ofNat len)), .val .null, .unset] [.int (Int32.ofNat len), .int (Int32.ofNat o), .ref b])) := c6.trans (by
    refine XS.ifNo X5.here hexec rfl (hb hbytes d30) rfl (i0_eq_f hz) ?_
    refine XS.aloadN X5.here hexec rfl (hb hbytes d33) rfl rfl ?_
    refine XS.iloadN X5.here hexec rfl (hb hbytes d34) rfl ?_
    refine XS.iloadN X5.here hexec rfl (hb hbytes d35) rfl ?_
    exact Steps.refl _)
  obtain ⟨v8, T8, X8, E8, g8⟩ := X5.callS hexec (Cmp3.law l b A o len) hown (wks W (staticW "java/lang/String" 177 Cmp3.yN)) (wk W Cmp3.tab) (W := 0) (Nat.le_of_ble_eq_true rfl) (Nat.le_of_ble_eq_true rfl) (Nat.le_refl _) (by show 0 + len ≤ len; omega) (g := (mkF m 36 #[.val (.ref a), .val (.ref b), .val (.int (Int32.ofNat o)), .val (.int (Int32.ofNat len)), .val .null, .unset] [.int (Int32.ofNat len), .int (Int32.ofNat o), .ref b])) rfl (by rw [hml]; rfl) c7 (argsL := [.ref b, .int (Int32.ofNat o), .int (Int32.ofNat len)]) (rest := []) rfl rfl (by show 2 * 0 + 0 ≤ _; decide) (hb hbytes d36) (⟨rfl, hA.mv X5.warmed.alike hh5, l1, l2, hp⟩)
  obtain ⟨e8, z8⟩ := E8
  obtain ⟨rfl, N, n1, n2, n3, n4, n5, n6⟩ := NewArr.mv _ T5 s _ _ hh5.symm (Vm.Alike.refl _) rfl e8
  rw [hh5] at z8
  have hB1 := hB.keep X8.warmed.alike (n6 _ _ hB.1)
  have hne : s.heap.size ≠ a := (Nat.ne_of_lt (Array.getElem?_eq_some_iff.mp hB.1).1).symm
  have c9 : Steps p.tables e below (s₁.setTop (entryFrame m #[.ref a, .ref b, .int (Int32.ofNat o), .int (Int32.ofNat len), .null] 6)) (T8.setTop (mkF m 39 #[.val (.ref a), .val (.ref b), .val (.int (Int32.ofNat o)), .val (.int (Int32.ofNat len)), .val .null, .unset] [.ref s.heap.size])) := g8
  have c10 : Steps p.tables e below (s₁.setTop (entryFrame m #[.ref a, .ref b, .int (Int32.ofNat o), .int (Int32.ofNat len), .null] 6)) (T8.setTop (mkF m 45 #[.val (.ref a), .val (.ref b), .val (.int (Int32.ofNat o)), .val (.int (Int32.ofNat len)), .val .null, .val (.ref s.heap.size)] [.int (Int32.ofNat N.slots.size), .ref s.heap.size, .ref a])) := by
    have hc : Steps p.tables e below (s₁.setTop (entryFrame m #[.ref a, .ref b, .int (Int32.ofNat o), .int (Int32.ofNat len), .null] 6)) (T8.setTop (mkF m 45 #[.val (.ref a), .val (.ref b), .val (.int (Int32.ofNat o)), .val (.int (Int32.ofNat len)), .val .null, .val (.ref s.heap.size)] [.int (Int32.ofNat len), .ref s.heap.size, .ref a])) := c9.trans (by
      refine XS.astore X8.here hexec rfl (hb hbytes d39) rfl rfl rfl ?_
      refine XS.aloadN X8.here hexec rfl (hb hbytes d41) rfl rfl ?_
      refine XS.aload X8.here hexec rfl (hb hbytes d42) rfl rfl ?_
      refine XS.iloadN X8.here hexec rfl (hb hbytes d44) rfl ?_
      exact Steps.refl _)
    rw [n4]; exact hc
  obtain ⟨v11, T11, X11, E11, g11⟩ := X8.callS hexec (CodL.law l s.heap.size N) hown (wks W (staticW "java/lang/String" 47 CodL.yN)) (wk W CodL.tab) (W := 1) (Nat.le_of_ble_eq_true rfl) (Nat.le_of_ble_eq_true rfl) (Nat.le_refl _) (by show 0 + len + 0 ≤ len; omega) (g := (mkF m 45 #[.val (.ref a), .val (.ref b), .val (.int (Int32.ofNat o)), .val (.int (Int32.ofNat len)), .val .null, .val (.ref s.heap.size)] [.int (Int32.ofNat N.slots.size), .ref s.heap.size, .ref a])) rfl (by rw [hml]; rfl) c10 (argsL := [.ref s.heap.size, .int (Int32.ofNat N.slots.size)]) (rest := [.ref a]) rfl rfl (by show 2 * 0 + (1 + 0) ≤ _; decide) (hb hbytes d45) (⟨rfl, n1⟩)
  obtain ⟨rfl, q11⟩ := E11
  have hB11 := hB1.mv (X8.warmed.alike.symm.trans X11.warmed.alike) q11
  have c12 : Steps p.tables e below (s₁.setTop (entryFrame m #[.ref a, .ref b, .int (Int32.ofNat o), .int (Int32.ofNat len), .null] 6)) (T11.setTop (mkF m 48 #[.val (.ref a), .val (.ref b), .val (.int (Int32.ofNat o)), .val (.int (Int32.ofNat len)), .val .null, .val (.ref s.heap.size)] [.int 0, .ref a])) := g11
  obtain ⟨T13, X13, p13, bl13, sl13, st13⟩ := X11.finit hexec hown (wk W (.fieldLink "java/lang/String" 15 "java/lang/String" "coder" "B")) (Or.inr ⟨_, (wk W (.laysFinal "java/lang/String" "java/lang/String" "coder" "B"))⟩) (Or.inl ⟨rfl, hnm⟩) f2 (Or.inl rfl) hB11 (t := .byte) (by decide +kernel) rfl (g := (mkF m 48 #[.val (.ref a), .val (.ref b), .val (.int (Int32.ofNat o)), .val (.int (Int32.ofNat len)), .val .null, .val (.ref s.heap.size)] [.int 0, .ref a])) rfl (rest := []) rfl (hb hbytes d48)
  have c14 : Steps p.tables e below (s₁.setTop (entryFrame m #[.ref a, .ref b, .int (Int32.ofNat o), .int (Int32.ofNat len), .null] 6)) (T13.setTop (mkF m 54 #[.val (.ref a), .val (.ref b), .val (.int (Int32.ofNat o)), .val (.int (Int32.ofNat len)), .val .null, .val (.ref s.heap.size)] [.ref s.heap.size, .ref a])) := (c12.trans (st13 _ (Steps.refl _))).trans (by
    refine XS.aloadN X13.here hexec rfl (hb hbytes d51) rfl rfl ?_
    refine XS.aload X13.here hexec rfl (hb hbytes d52) rfl rfl ?_
    exact Steps.refl _)
  obtain ⟨T15, X15, p15, bl15, sl15, st15⟩ := X13.finit hexec hown (wk W (.fieldLink "java/lang/String" 9 "java/lang/String" "value" "[B")) (Or.inr ⟨_, (wk W (.laysFinal "java/lang/String" "java/lang/String" "value" "[B"))⟩) (Or.inl ⟨rfl, hnm⟩) f1 (Or.inl rfl) bl13 (t := (.array .byte)) (by decide +kernel) rfl (g := (mkF m 54 #[.val (.ref a), .val (.ref b), .val (.int (Int32.ofNat o)), .val (.int (Int32.ofNat len)), .val .null, .val (.ref s.heap.size)] [.ref s.heap.size, .ref a])) rfl (rest := []) rfl (hb hbytes d54)
  have c16 : Steps p.tables e below (s₁.setTop (entryFrame m #[.ref a, .ref b, .int (Int32.ofNat o), .int (Int32.ofNat len), .null] 6)) (T15.setTop (mkF m 57 #[.val (.ref a), .val (.ref b), .val (.int (Int32.ofNat o)), .val (.int (Int32.ofNat len)), .val .null, .val (.ref s.heap.size)] [])) := c14.trans (st15 _ (Steps.refl _))
  have ap := apart (Or.inr ⟨_, (wk W (.laysFinal "java/lang/String" "java/lang/String" "value" "[B"))⟩) (Or.inr ⟨_, (wk W (.laysFinal "java/lang/String" "java/lang/String" "coder" "B"))⟩) f1 f2 (t₁ := .array .byte) (t₂ := .byte) (by decide +kernel) (by decide +kernel) (by decide)
  have al := X8.warmed.alike.symm.trans X15.warmed.alike
  have n7 : T11.heap[s.heap.size]? = some N := by rw [q11]; exact n1.1
  exact ⟨T15, none, _, _, _, X15, by simp, rfl, by omega, (fun _ => rfl), ⟨rfl, _, N, bl15, ((Same.refl D _).set _ (by simp)).set _ (by simp), sl15, (Cell.slots_setSlot_ne _ ap).trans sl13, n1.keep al (p15.other hne (p13.other hne n7)), n2, by rw [al.findClass]; exact n3, n4, n5, fun y c h1 h2 => p15.other h1 (p13.other h1 (by rw [q11]; exact n6 y c h2)), by rw [p15.2.2, p13.2.2, q11]; exact z8⟩, fun fs hl => c16.trans (X15.returnOut hexec hret (hb hbytes d57) hl)⟩
end New4
namespace New1
def yN : MethodName := ⟨"java/lang/String", "<init>", "([C)V"⟩
abbrev yB : ByteArray := jdk_42_method_3_code
theorem d0 : decode yB 0 = .ok (.aload_n 0, 1) := by decide +kernel
theorem d1 : decode yB 1 = .ok (.aload_n 1, 1) := by decide +kernel
theorem d2 : decode yB 2 = .ok (.iconst 0, 1) := by decide +kernel
theorem d3 : decode yB 3 = .ok (.aload_n 1, 1) := by decide +kernel
theorem d4 : decode yB 4 = .ok (.arraylength, 1) := by decide +kernel
theorem d5 : decode yB 5 = .ok (.aconst_null, 1) := by decide +kernel
theorem d6 : decode yB 6 = .ok (.invokespecial 27, 3) := by decide +kernel
theorem d9 : decode yB 9 = .ok (.return_, 1) := by decide +kernel
def site : List Cond := [New4.tab] ++ initW "java/lang/String" 27 New4.yN
def tab : Cond := tabOf yN yB 2 none site
def P (a : Addr) (D : Cell) (fV fC : Field) (b : Addr) (A : Cell) (z : Int32) (args : Array Value) (s : State) : Prop := args = #[.ref a, .ref b] ∧ Blank "java/lang/String" a D s ∧ Found "java/lang/String" "value" "[B" fV s ∧ Found "java/lang/String" "coder" "B" fC s ∧ Ch b A s ∧ StaticIs s "java/lang/String" "COMPACT_STRINGS" "Z" (.int z) ∧ ¬ z = 0 ∧ 0 < A.slots.size ∧ A.slots.size ≤ 536870912 ∧ ∀ i, i < A.slots.size → ¬ 255 < cv A i
def E (a : Addr) (D : Cell) (fV fC : Field) (A : Cell) (r : Option Value) (s u : State) : Prop := Got a D fV fC A 0 A.slots.size r s u
/-- new String(chars), not empty, no char above 255: a Latin-1 String of their low bytes -/
theorem law (l : Launch) (a : Addr) (D : Cell) (fV fC : Field) (b : Addr) (A : Cell) (z : Int32) : Law l yN 2 1 3 52 yB 2 none site (P a D fV fC b A z) (E a D fV fC A) [⟨a, fC.slot⟩, ⟨a, fV.slot⟩] 1 A.slots.size := by
  refine Law.of_walk (plainFor_of_name (by decide +kernel)) (by decide +kernel) (by decide +kernel) (by decide) (fun _ _ h => by rw [h.1]; rfl) (fun _ U U' hal hh h => ⟨h.1, h.2.1.mv hal hh, h.2.2.1.al hal, h.2.2.2.1.al hal, h.2.2.2.2.1.mv hal hh, h.2.2.2.2.2.1.there hal hh, h.2.2.2.2.2.2⟩) (fun r U U' V V' h1 hal h2 h => Got.mv r U U' V V' h1 hal h2 h) ?_
  intro p e s m args below meth c s₁ X0 hexec hbytes hml hret hlk hnm hown hh0 W hP
  obtain ⟨rfl, hB, f1, f2, hA, s1, hz, l0, l2, hp⟩ := hP
  have c1 : Steps p.tables e below (s₁.setTop (entryFrame m #[.ref a, .ref b] 2)) (s₁.setTop (mkF m 0 #[.val (.ref a), .val (.ref b)] [])) := entry rfl
  have c2 : Steps p.tables e below (s₁.setTop (entryFrame m #[.ref a, .ref b] 2)) (s₁.setTop (mkF m 6 #[.val (.ref a), .val (.ref b)] [.null, .int (Int32.ofNat A.slots.size), .int 0, .ref b, .ref a])) := c1.trans (by
    refine XS.aloadN X0.here hexec rfl (hb hbytes d0) rfl rfl ?_
    refine XS.aloadN X0.here hexec rfl (hb hbytes d1) rfl rfl ?_
    refine iconstV X0.here hexec rfl 0 (hb hbytes d2) (by decide) ?_
    refine XS.aloadN X0.here hexec rfl (hb hbytes d3) rfl rfl ?_
    refine X0.alen hexec (hA.1.mv X0.warmed.alike hh0) rfl rfl (hb hbytes d4) ?_
    refine XS.aconstNull X0.here hexec rfl (hb hbytes d5) ?_
    exact Steps.refl _)
  obtain ⟨v3, T3, X3, E3, g3⟩ := X0.callN hexec (New4.law l a D fV fC b A z 0 A.slots.size) rfl hown (wks W (initW "java/lang/String" 27 New4.yN)) (W New4.tab (by simp only [site, List.mem_cons, List.mem_append, true_or, or_true])) (W := 0) (Nat.le_of_ble_eq_true rfl) (Nat.le_of_ble_eq_true rfl) (Nat.le_refl _) (by show 0 + A.slots.size ≤ A.slots.size; omega) (g := (mkF m 6 #[.val (.ref a), .val (.ref b)] [.null, .int (Int32.ofNat A.slots.size), .int (Int32.ofNat 0), .ref b, .ref a])) rfl (by rw [hml]; rfl) c2 (argsL := [.ref b, .int (Int32.ofNat 0), .int (Int32.ofNat A.slots.size), .null]) (rest := []) rfl rfl (by show 2 * 0 + 0 ≤ _; decide) (hb hbytes d6) (⟨rfl, hB.mv X0.warmed.alike hh0, f1.al X0.warmed.alike, f2.al X0.warmed.alike, hA.mv X0.warmed.alike hh0, s1.there X0.warmed.alike hh0, hz, l0, by omega, l2, fun i hi => by rw [Nat.zero_add]; exact hp i hi⟩)
  have e0 := Got.mv _ s₁ s _ _ hh0.symm (Vm.Alike.refl _) rfl E3
  obtain rfl := e0.1
  have c4 : Steps p.tables e below (s₁.setTop (entryFrame m #[.ref a, .ref b] 2)) (T3.setTop (mkF m 9 #[.val (.ref a), .val (.ref b)] [])) := g3
  exact ⟨T3, none, _, _, _, X3, by simp, rfl, by omega, (fun _ => rfl), e0, fun fs hl => c4.trans (X3.returnOut hexec hret (hb hbytes d9) hl)⟩
theorem pays {l : Launch} {R : Room} {p : Program} {e : Env} {below : List Frame} {s : State} {sargs : Array Value} {len W : Nat} (a : Addr) (D : Cell) (fV fC : Field) (b : Addr) (A : Cell) (z : Int32) (htab : tab.before sargs s = true) (hfr : 4 ≤ R.frames) (hlo : W + 65 ≤ R.locals) :
    Back l R p e below s sargs yN len W (fun A₁ a₁ => A₁.cells + 1 ≤ R.cells ∧ A₁.slots + A.slots.size ≤ R.slots ∧ P a D fV fC b A z a₁ A₁.U) (fun A₁ _ v₁ B₁ => E a D fV fC A v₁ A₁.U B₁.U ∧ B₁.locs = A₁.locs ++ [⟨a, fC.slot⟩, ⟨a, fV.slot⟩] ∧ B₁.cells = A₁.cells + 1 ∧ B₁.slots = A₁.slots + A.slots.size) :=
  (law l a D fV fC b A z).pays htab hfr (by omega)
end New1
end StrChars
namespace StrChars.Road
open Jvm Sem ClassFile Op Lib Jvm.Stand Jvm.Free Jvm.Free.XT
open Jvm.Lib.Cold (StaticIs)
abbrev ST : String := "java/lang/String"
/-- every table word that New1's law asks, flat -/
abbrev words : List Jvm.Cond := [.code New1.yN New1.yB 2 none, .initialized ST, .methodLink ST 27 New4.yN, .instanceMethod New4.yN,
  .code New4.yN New4.yB 6 none, .fieldLink ST 38 ST "COMPACT_STRINGS" "Z", .laysFinal ST ST "value" "[B", .fieldLink ST 9 ST "value" "[B", .laysFinal ST ST "coder" "B", .fieldLink ST 15 ST "coder" "B",
  .methodLink ST 1 Lib.objectInit, .instanceMethod Lib.objectInit, .code Lib.objectInit ⟨#[0xb1]⟩ 1 none, .methodLink ST 177 Cmp3.yN, .static Cmp3.yN, .methodLink ST 47 CodL.yN, .static CodL.yN,
  .code Cmp3.yN Cmp3.yB 6 (some (.array .byte)), .initialized U16, .arrayClass .byte, .methodLink U16 115 Cmp5.yN, .static Cmp5.yN, .code Cmp5.yN Cmp5.yB 7 (some .int), .code CodL.yN CodL.yB 2 (some .byte)]
theorem tab_of {a : Array Value} {s : State} (h : ∀ w ∈ words, w.before a s = true) : New1.tab.before a s = true := by
  have h5 : Cmp5.tab.before a s = true := unparts (wk h (.code Cmp5.yN Cmp5.yB 7 (some .int))) (wks h (.initialized Cmp5.yN.cls :: Cmp5.site))
  have hc : CodL.tab.before a s = true := unparts (wk h (.code CodL.yN CodL.yB 2 (some .byte))) (wks h (.initialized CodL.yN.cls :: CodL.site))
  have q5 : ∀ w ∈ Cmp5.tab :: words, w.before a s = true := fun w hw => (List.mem_cons.mp hw).elim (fun e => e ▸ h5) (h w)
  have h3 : Cmp3.tab.before a s = true := unparts (wk q5 (.code Cmp3.yN Cmp3.yB 6 (some (.array .byte)))) (wks q5 (.initialized Cmp3.yN.cls :: Cmp3.site))
  have q3 : ∀ w ∈ Cmp3.tab :: CodL.tab :: words, w.before a s = true := fun w hw => (List.mem_cons.mp hw).elim (fun e => e ▸ h3) fun hw => (List.mem_cons.mp hw).elim (fun e => e ▸ hc) (h w)
  have h4 : New4.tab.before a s = true := unparts (wk q3 (.code New4.yN New4.yB 6 none)) (wks q3 (.initialized New4.yN.cls :: New4.site))
  have q4 : ∀ w ∈ New4.tab :: words, w.before a s = true := fun w hw => (List.mem_cons.mp hw).elim (fun e => e ▸ h4) (h w)
  exact unparts (wk q4 (.code New1.yN New1.yB 2 none)) (wks q4 (.initialized New1.yN.cls :: New1.site))
/-- the words ride from the start Z to the walk's own state -/
theorem moved {Z s : State} {a0 args : Array Value} (hZ : Z.Warmed39 s.vm) (hw : ∀ d ∈ words, d.before a0 Z = true) : ∀ d ∈ words, d.before args s = true := fun d hd => by
  have q := hw d hd
  have t : ∀ d ∈ words, d = .arrayClass .byte ∨ (d.onTables && d.keepsFace) = true := by decide +kernel
  rcases t d hd with rfl | t
  · exact RoadKit.mvA hZ q
  · exact RoadKit.mv hZ q t
/-- WHAT COMES BACK, over the tables of the start Z: h the heap at the call, h' behind it -/
def Q (Z : State) (x : Addr) (A : Cell) (h : Heap) (v : Option Value) (h' : Heap) (L : List Loc) : Prop := v = none ∧ (∀ y ∈ L, y.base = x) ∧ RoadKit.Keep h h' [x] ∧ h'.size = h.size + 1 ∧ RoadKit.Exa Z h' x ST ∧ RoadKit.Fld Z h' x ST "value" "[B" (.ref h.size) ∧ RoadKit.Fld Z h' x ST "coder" "B" (.int 0) ∧
  (∃ V : Cell, RoadKit.Arr Z h' h.size V .byte ∧ V.vm = .none ∧ Z.vm.findClass "[B" = some V.cls ∧ V.slots.size = A.slots.size ∧ ∀ j, j < A.slots.size → V.slots[j]? = some (.int (lo8 (cv A j)))) ∧
  ∀ (O n d : String) (w : Value), RoadKit.Fld Z h x O n d w → RoadKit.slotOf Z O n d ≠ RoadKit.slotOf Z ST "value" "[B" → RoadKit.slotOf Z O n d ≠ RoadKit.slotOf Z ST "coder" "B" → RoadKit.Fld Z h' x O n d w
/-- **new String(chars) AT A CALL, IN THE ROAD'S FORM**: for specialBack behind newO: x the fresh String, b the char[] with the cell A -/
theorem back {p : Program} {l : Launch} {e : Env} {R : Room} {s : State} {args : Array Value} {below : List Frame} {len W : Nat} {Z : State} {a0 : Array Value} {h : Heap} (hZ : Z.Warmed39 s.vm) (hw : ∀ d ∈ words, d.before a0 Z = true) {kI : Nat} (wi : (Jvm.Cond.instantiable ST kI).before a0 Z = true)
    {x b : Addr} {A : Cell} {z : Int32} {v0 c0 : Value} (E : RoadKit.Exa Z h x ST) (V : RoadKit.Fld Z h x ST "value" "[B" v0) (C : RoadKit.Fld Z h x ST "coder" "B" c0) (K : RoadKit.Arr Z h b A .char) (hty : Typed .char A) (S : RoadKit.Sta Z h ST "COMPACT_STRINGS" "Z" (.int z)) (hz : ¬ z = 0)
    (l0 : 0 < A.slots.size) (l2 : A.slots.size ≤ 536870912) (hp : ∀ i, i < A.slots.size → ¬ 255 < cv A i) (hfr : 4 ≤ R.frames) (hlo : W + 65 ≤ R.locals) :
    Back l R p e below s args New1.yN len W (fun P a => a = #[.ref x, .ref b] ∧ P.U.heap = h ∧ P.cells + 1 ≤ R.cells ∧ P.slots + A.slots.size ≤ R.slots)
      (fun P _ v B => ∃ L, Q Z x A h v B.U.heap L ∧ B.locs = P.locs ++ L ∧ B.cells = P.cells + 1 ∧ B.slots = P.slots + A.slots.size) := by
  intro m meth c P g ig mk a X hg hsize hdg hW hn hp'
  obtain ⟨rfl, rfl, r1, r2⟩ := hp'
  have al : Z.vm.Alike P.U.vm := hZ.alike.trans X.warmed.alike
  obtain ⟨D, cfV, kV, iV, fV, hD, gV, stV, knV, obV, asV, slV⟩ := id V
  obtain ⟨D', cfC, kC, iC, fC, hD', gC, stC, -, -, asC, slC⟩ := id C
  cases hD.symm.trans hD'
  obtain ⟨D2, kD, e1, e2, e3, e4, e5⟩ := id E
  cases hD.symm.trans e1
  obtain ⟨c2, k2, i1, i2, i3, -⟩ := Cond.instantiable_spec wi
  cases e2.symm.trans i1
  cases e3.symm.trans i2
  obtain ⟨kU, u1, u2⟩ := al.2.2 _ _ e3
  have hB : Blank ST x D P.U := ⟨hD, ⟨knV, fun q hq => by rw [hq] at obV; cases obV⟩, by rw [al.findClass]; exact e2, kU, u1, by rw [u2]; exact i3, by rw [u2]; exact e5 i3⟩
  have F1 : Found ST "value" "[B" fV P.U := ⟨SBG.found_only al ⟨cfV, kV, iV, gV⟩, stV⟩
  have F2 : Found ST "coder" "B" fC P.U := ⟨SBG.found_only al ⟨cfC, kC, iC, gC⟩, stC⟩
  have hA : Ch b A P.U := ⟨⟨K.1, State.isArrayOf_alike al K.2.1, K.2.2, by omega⟩, hty⟩
  have hS : StaticIs P.U ST "COMPACT_STRINGS" "Z" (.int z) := by
    obtain ⟨cfS, iS, kS, fS, st, cS, t1, t2, t3, t4, t5, t6, t7⟩ := S
    exact StaticIs.there (s := { Z with heap := P.U.heap }) ⟨cfS, iS, kS, fS, st, cS, t1, t2, t3, t4, t5, (fun q => by rw [q] at t6; cases t6), t7⟩ al rfl
  obtain ⟨v, B, X', ⟨⟨hv, E', V', q1, q2, q3, q4, q5, q6, q7, q8, q9, q10, q11⟩, hl, hc, hs⟩, st⟩ := New1.pays x D fV fC b A z (tab_of (moved hZ hw)) hfr hlo m meth c P g ig mk _ X hg hsize hdg hW hn ⟨r1, r2, rfl, hB, F1, F2, hA, hS, hz, l0, l2, hp⟩
  have al' : Z.vm.Alike B.U.vm := hZ.alike.trans X'.warmed.alike
  have hsz : E'.slots.size = D.slots.size := by
    obtain ⟨-, -, -, kB, w1, w2, w3⟩ := q1
    obtain ⟨kB', y1, y2⟩ := al'.2.2 _ _ e3
    rw [q2.2.1] at w1
    cases w1.symm.trans y1
    rw [w3, e5 i3, y2]
  refine ⟨v, B, X', ⟨_, ⟨hv, ?_, ⟨by omega, fun y cy hy hn' => q10 y cy (by simpa using hn') hy, fun y cy hy => ?_⟩, q11, ⟨E', _, q1.1, by rw [q2.2.1]; exact e2, by rw [q2.2.1]; exact e3, by rw [q2.1]; exact obV, fun _ => by rw [hsz]; exact e5 i3⟩,
    ⟨E', cfV, kV, iV, fV, q1.1, gV, stV, by rw [q2.1]; exact knV, by rw [q2.1]; exact obV, by rw [q2.2.1]; exact asV, q3⟩, ⟨E', cfC, kC, iC, fC, q1.1, gC, stC, by rw [q2.1]; exact knV, by rw [q2.1]; exact obV, by rw [q2.2.1]; exact asC, q4⟩,
    ⟨V', ⟨q5.1, State.isArrayOf_alike al'.symm q5.2.1, q5.2.2.1⟩, q6, by rw [← al'.findClass]; exact q7, q8, fun j hj => by have := q9 j hj; rwa [Nat.zero_add] at this⟩, fun O n d w F n1 n2 => ?_⟩, hl, hc, hs⟩, st⟩
  · intro y hy
    simp only [List.mem_cons, List.not_mem_nil, or_false] at hy
    rcases hy with rfl | rfl <;> rfl
  · by_cases q : y = x
    · subst q
      cases hD.symm.trans hy
      exact ⟨E', q1.1, q2.2.1, q2.1, hsz⟩
    · exact ⟨cy, q10 y cy q hy, rfl, rfl, rfl⟩
  · obtain ⟨D3, cf, k, i, f, g1, g2, g3, g4, g5, g6, g7⟩ := F
    cases hD.symm.trans g1
    simp only [RoadKit.slotOf, g2, gV, gC, Option.map_some, Option.getD_some] at n1 n2
    exact ⟨E', cf, k, i, f, q1.1, g2, g3, by rw [q2.1]; exact g4, by rw [q2.1]; exact g5, by rw [q2.2.1]; exact g6, by rw [q2.2.2 f.slot (by simp [n1, n2])]; exact g7⟩
end StrChars.Road
namespace StrChars.Road
open Jvm Sem ClassFile Op Lib Jvm.Stand Jvm.Free Jvm.Free.XT
/-- WHAT COMES BACK, the byte[] as a list of values -/
def QA (Z : State) (x : Addr) (zn : Int32) (cs : List Int32) (h : Heap) (v : Option Value) (h' : Heap) (L : List Loc) : Prop := v = none ∧ (∀ y ∈ L, y.base = x) ∧ RoadKit.Keep h h' [x] ∧ h'.size = h.size + 1 ∧ RoadKit.Exa Z h' x ST ∧ RoadKit.Fld Z h' x ST "value" "[B" (.ref h.size) ∧ RoadKit.Fld Z h' x ST "coder" "B" (.int 0) ∧
  (∃ kb, Z.vm.findClass "[B" = some kb ∧ RoadKit.Arv Z h' h.size kb .byte zn (cs.map fun c => .int (lo8 c)) (.int 0)) ∧
  ∀ (O n d : String) (w : Value), RoadKit.Fld Z h x O n d w → RoadKit.slotOf Z O n d ≠ RoadKit.slotOf Z ST "value" "[B" → RoadKit.slotOf Z O n d ≠ RoadKit.slotOf Z ST "coder" "B" → RoadKit.Fld Z h' x O n d w
/-- **new String(chars) AT A CALL, THE ARRAYS AS LISTS**: the char[] at b holds cs, not empty, no char above 255 -/
theorem backArv {p : Program} {l : Launch} {e : Env} {R : Room} {s : State} {args : Array Value} {below : List Frame} {len W : Nat} {Z : State} {a0 : Array Value} {h : Heap} (hZ : Z.Warmed39 s.vm) (hw : ∀ d ∈ words, d.before a0 Z = true) {kI : Nat} (wi : (Jvm.Cond.instantiable ST kI).before a0 Z = true)
    {x b : Addr} {k : ClassId} {zn z : Int32} {cs : List Int32} {dv v0 c0 : Value} (E : RoadKit.Exa Z h x ST) (V : RoadKit.Fld Z h x ST "value" "[B" v0) (C : RoadKit.Fld Z h x ST "coder" "B" c0) (K : RoadKit.Arv Z h b k .char zn (cs.map Value.int) dv) (S : RoadKit.Sta Z h ST "COMPACT_STRINGS" "Z" (.int z)) (hz : ¬ z = 0)
    (hlen : zn.toNatClampNeg = cs.length) (h0 : 0 < cs.length) (hbig : cs.length ≤ 536870912) (hall : ∀ c ∈ cs, ¬ 255 < c) (hfr : 4 ≤ R.frames) (hlo : W + 65 ≤ R.locals) :
    Back l R p e below s args New1.yN len W (fun P a => a = #[.ref x, .ref b] ∧ P.U.heap = h ∧ P.cells + 1 ≤ R.cells ∧ P.slots + cs.length ≤ R.slots)
      (fun P _ v B => ∃ L, QA Z x zn cs h v B.U.heap L ∧ B.locs = P.locs ++ L ∧ B.cells = P.cells + 1 ∧ B.slots = P.slots + cs.length) := by
  obtain ⟨A, K1, K2, K3, K4, K5, K6⟩ := K
  have e : A.slots.size = cs.length := K3.trans hlen
  have hat : ∀ (i : Nat) (hi : i < cs.length), A.slots[i]? = some (.int cs[i]) := fun i hi => by rw [K5 i (by omega)]; simp [List.getD_eq_getElem?_getD, hi]
  have hcv : ∀ (i : Nat) (hi : i < cs.length), cv A i = cs[i] := fun i hi => by unfold cv; rw [hat i hi]
  have hty : Typed .char A := fun i v hv => by
    have hi : i < A.slots.size := (Array.getElem?_eq_some_iff.mp hv).1
    have q := K5 i hi
    rw [hv] at q
    rw [Option.some.inj q]
    exact K6 i hi
  refine Back.mono (back hZ hw wi E V C K1 hty S hz (by omega) (by omega) (fun i hi => by rw [hcv i (by omega)]; exact hall _ (List.getElem_mem _)) hfr hlo) (fun P a hp => ⟨hp.1, hp.2.1, hp.2.2.1, by rw [e]; exact hp.2.2.2⟩) (fun P a v B hp hq => ?_)
  obtain ⟨L, ⟨q1, q2, q3, q4, q5, q6, q7, ⟨V', v1, v2, v3, v4, v5⟩, q9⟩, hl, hc, hs⟩ := hq
  refine ⟨L, ⟨q1, q2, q3, q4, q5, q6, q7, ⟨V'.cls, v3, V', v1, rfl, by rw [v4, e, hlen], K4, fun i hi => ?_, fun i hi => ?_⟩, q9⟩, hl, hc, by rw [hs, e]⟩
  · have hi' : i < cs.length := by omega
    rw [v5 i (by omega), hcv i hi']; simp [List.getD_eq_getElem?_getD, hi']
  · have hi' : i < cs.length := by omega
    simp only [List.getD_eq_getElem?_getD, List.getElem?_map, List.getElem?_eq_getElem hi', Option.map_some, Option.getD_some]
    exact fits_lo8 _
end StrChars.Road
namespace StrChars.Road
open Jvm Sem ClassFile Op Lib Jvm.Stand Jvm.Free Jvm.Free.XT
/-- WHAT COMES BACK, in the writer's own shape -/
def QV (Z : State) (x : Addr) (N : Int32) (bs : List Int32) (h : Heap) (n0 : Nat) (v : Option Value) (h' : Heap) (L : List Loc) : Prop := v = none ∧ RoadKit.Fr n0 L ∧ RoadKit.Keep h h' [x] ∧ RoadKit.Exa Z h' x ST ∧ RoadKit.Fld Z h' x ST "coder" "B" (.int 0) ∧
  ∃ (t : Addr) (kb : ClassId), n0 ≤ t ∧ h.size ≤ t ∧ ¬ t = x ∧ RoadKit.Fld Z h' x ST "value" "[B" (.ref t) ∧ RoadKit.Arv Z h' t kb .byte N (bs.map Value.int) (.int 0)
/-- **new String(chars) AT A CALL, FOR THE WRITER**: a char[] of n known ints, each 0 to 255 -/
theorem backV {p : Program} {l : Launch} {e : Env} {R : Room} {s : State} {args : Array Value} {below : List Frame} {len W : Nat} {Z : State} {a0 : Array Value} {h : Heap} (hZ : Z.Warmed39 s.vm) (hw : ∀ d ∈ words, d.before a0 Z = true) {kI : Nat} (wi : (Jvm.Cond.instantiable ST kI).before a0 Z = true)
    {x b : Addr} {kC : ClassId} {cs bs : List Int32} {d v0 c0 : Value} {z N : Int32} {n n0 : Nat} (hx0 : n0 ≤ x) (hh0 : n0 ≤ h.size) (E : RoadKit.Exa Z h x ST) (V : RoadKit.Fld Z h x ST "value" "[B" v0) (C : RoadKit.Fld Z h x ST "coder" "B" c0) (K : RoadKit.Arv Z h b kC .char N (cs.map Value.int) d) (S : RoadKit.Sta Z h ST "COMPACT_STRINGS" "Z" (.int z)) (hz : ¬ z = 0)
    (hn : cs.length = n) (hN : N = Int32.ofNat n) (l0 : 0 < n) (l2 : n ≤ 4000) (hp : ∀ c ∈ cs, ¬ c < 0 ∧ ¬ (255 : Int32) < c) (hb : bs = cs.map (fun c => c.toInt8.toInt32)) (hfr : 4 ≤ R.frames) (hlo : W + 65 ≤ R.locals) :
    Back l R p e below s args (⟨"java/lang/String", "<init>", "([C)V"⟩ : MethodName) len W (fun P a => a = #[.ref x, .ref b] ∧ P.U.heap = h ∧ P.cells + 1 ≤ R.cells ∧ P.slots + n ≤ R.slots)
      (fun P _ v B => ∃ L, QV Z x N bs h n0 v B.U.heap L ∧ B.locs = P.locs ++ L ∧ B.cells = P.cells + 1 ∧ B.slots = P.slots + n) := by
  subst hn hN hb
  refine Back.mono (backArv hZ hw wi E V C K S hz (n32 (by omega)) l0 (by omega) (fun c hc => (hp c hc).2) hfr hlo) (fun P a hp => hp) (fun P a v B hp hq => ?_)
  obtain ⟨L, ⟨q1, q2, q3, q4, q5, q6, q7, ⟨kb, v1, v2⟩, q9⟩, hl, hc, hs⟩ := hq
  exact ⟨L, ⟨q1, fun y hy => by rw [q2 y hy]; exact hx0, q3, q5, q7, h.size, kb, hh0, Nat.le_refl _, Nat.ne_of_gt E.lt, q6, by rw [List.map_map]; exact v2⟩, hl, hc, hs⟩
end StrChars.Road
end Jvm.Pilot.@@N@@
namespace Jvm.Pilot.@@N@@
open Jvm Jvm.ClassFile Sem Op Lib Jvm.Free Jvm.Stand Jvm.LawKit Jvm.RoadKit Jvm.OwnWalk Bundle Jvm.Pilot.@@N@@.Jvm.D
def own_words : List Jvm.Cond := tables_1 ++ jdkStatics_1
theorem d_jdk_42_method_66_0 : decode jdk_42_method_66_code 0 = .ok (.aload_n 0, 1) := by decide +kernel
theorem d_jdk_42_method_66_1 : decode jdk_42_method_66_code 1 = .ok (.aload_n 1, 1) := by decide +kernel
theorem d_jdk_42_method_66_2 : decode jdk_42_method_66_code 2 = .ok (.if_acmp .ne 5, 3) := by decide +kernel
theorem d_jdk_42_method_66_5 : decode jdk_42_method_66_code 5 = .ok (.iconst 1, 1) := by decide +kernel
theorem d_jdk_42_method_66_6 : decode jdk_42_method_66_code 6 = .ok (.ireturn, 1) := by decide +kernel
theorem d_jdk_42_method_66_7 : decode jdk_42_method_66_code 7 = .ok (.aload_n 1, 1) := by decide +kernel
theorem d_jdk_42_method_66_8 : decode jdk_42_method_66_code 8 = .ok (.instanceof 10, 3) := by decide +kernel
theorem d_jdk_42_method_66_11 : decode jdk_42_method_66_code 11 = .ok (.ifCond .eq 43, 3) := by decide +kernel
theorem d_jdk_42_method_66_14 : decode jdk_42_method_66_code 14 = .ok (.aload_n 1, 1) := by decide +kernel
theorem d_jdk_42_method_66_15 : decode jdk_42_method_66_code 15 = .ok (.checkcast 10, 3) := by decide +kernel
theorem d_jdk_42_method_66_18 : decode jdk_42_method_66_code 18 = .ok (.astore_n 2, 1) := by decide +kernel
theorem d_jdk_42_method_66_19 : decode jdk_42_method_66_code 19 = .ok (.getstatic 38, 3) := by decide +kernel
theorem d_jdk_42_method_66_22 : decode jdk_42_method_66_code 22 = .ok (.ifCond .eq 14, 3) := by decide +kernel
theorem d_jdk_42_method_66_25 : decode jdk_42_method_66_code 25 = .ok (.aload_n 0, 1) := by decide +kernel
theorem d_jdk_42_method_66_26 : decode jdk_42_method_66_code 26 = .ok (.getfield 15, 3) := by decide +kernel
theorem d_jdk_42_method_66_29 : decode jdk_42_method_66_code 29 = .ok (.aload_n 2, 1) := by decide +kernel
theorem d_jdk_42_method_66_30 : decode jdk_42_method_66_code 30 = .ok (.getfield 15, 3) := by decide +kernel
theorem d_jdk_42_method_66_33 : decode jdk_42_method_66_code 33 = .ok (.if_icmp .ne 21, 3) := by decide +kernel
theorem d_jdk_42_method_66_36 : decode jdk_42_method_66_code 36 = .ok (.aload_n 0, 1) := by decide +kernel
theorem d_jdk_42_method_66_37 : decode jdk_42_method_66_code 37 = .ok (.getfield 9, 3) := by decide +kernel
theorem d_jdk_42_method_66_40 : decode jdk_42_method_66_code 40 = .ok (.aload_n 2, 1) := by decide +kernel
theorem d_jdk_42_method_66_41 : decode jdk_42_method_66_code 41 = .ok (.getfield 9, 3) := by decide +kernel
theorem d_jdk_42_method_66_44 : decode jdk_42_method_66_code 44 = .ok (.invokestatic 541, 3) := by decide +kernel
theorem d_jdk_42_method_66_47 : decode jdk_42_method_66_code 47 = .ok (.ifCond .eq 7, 3) := by decide +kernel
theorem d_jdk_42_method_66_50 : decode jdk_42_method_66_code 50 = .ok (.iconst 1, 1) := by decide +kernel
theorem d_jdk_42_method_66_51 : decode jdk_42_method_66_code 51 = .ok (.goto 4, 3) := by decide +kernel
theorem d_jdk_42_method_66_54 : decode jdk_42_method_66_code 54 = .ok (.iconst 0, 1) := by decide +kernel
theorem d_jdk_42_method_66_55 : decode jdk_42_method_66_code 55 = .ok (.ireturn, 1) := by decide +kernel
theorem pn_0 : plainName "java/lang/String" = true := by first | (simp [plainName, overriddenIn]; done) | decide +kernel
def Q_seq (Z : State) (a1 : Addr) (h0 : Heap) (n0 : Nat) (v : Option Value) (h : Heap) (L : List Loc) : Prop := v = some (.int 1) ∧ Fr n0 L ∧ h = h0
set_option maxRecDepth 65536 in
set_option maxHeartbeats 40000000 in
theorem rm_seq (l : Launch) (Z : State) (a0 : Array Value) (hw : ∀ d ∈ own_words, d.before a0 Z = true) (ws : List Jvm.Cond) (a1 : Addr) (h0 : Heap) (n0 : Nat) (Z0 : n0 ≤ h0.size)  :
    Met l Z (⟨"java/lang/String", "equals", "(Ljava/lang/Object;)Z"⟩ : MethodName) jdk_42_method_66_code 3 (some .boolean) ws ({ frames := 0, cells := 0, slots := 0, locals := 0 } : Room) #[(.ref a1), (.ref a1)] h0 (Q_seq Z a1 h0 n0) := by
  refine Met.start (plainFor_of_name pn_0) ?_
  intro p e s m below meth c T X hx hby hml hown hnm hret hlk hZ eT
  have N := Fr.nil n0
  refine Wout.cast (g' := (mkF m 0 #[.val (.ref a1), .val (.ref a1), .unset] [])) (by first | rfl | (simp [entryFrame, mkF, argsToLocals, Value.category]; done)) ?_
  refine o_aloadN X hx 1 (hb hby d_jdk_42_method_66_0) rfl rfl rfl ?_
  refine o_aloadN X hx 2 (hb hby d_jdk_42_method_66_1) rfl rfl rfl ?_
  refine o_acmpF X hx 5 (hb hby d_jdk_42_method_66_2) rfl rfl rfl (XT.aa_ne_f rfl) ?_
  refine o_iconst X hx 6 (1 : Int32) (hb hby d_jdk_42_method_66_5) rfl rfl ?_
  exact o_retI X hx hlk hret rfl (by simp) (hb hby d_jdk_42_method_66_6) (by decide) (by decide) (by rw [eT]; exact ⟨rfl, N, rfl⟩)
theorem d_prog_16_method_1_0 : decode prog_16_method_1_code 0 = .ok (.aload_n 0, 1) := by decide +kernel
theorem d_prog_16_method_1_1 : decode prog_16_method_1_code 1 = .ok (.invokespecial 1, 3) := by decide +kernel
theorem d_prog_16_method_1_4 : decode prog_16_method_1_code 4 = .ok (.aload_n 0, 1) := by decide +kernel
theorem d_prog_16_method_1_5 : decode prog_16_method_1_code 5 = .ok (.aload_n 1, 1) := by decide +kernel
theorem d_prog_16_method_1_6 : decode prog_16_method_1_code 6 = .ok (.putfield 7, 3) := by decide +kernel
theorem d_prog_16_method_1_9 : decode prog_16_method_1_code 9 = .ok (.return_, 1) := by decide +kernel
theorem pn_1 : plainName "com/example/varasto/varasto/util/OptionReader" = true := by first | (simp [plainName, overriddenIn]; done) | decide +kernel
def Q_oin (Z : State) (a1 a2 : Addr) (u1 : Value) (h0 : Heap) (n0 : Nat) (v : Option Value) (h : Heap) (L : List Loc) : Prop := v = none ∧ Fr n0 L ∧ Keep h0 h [a1] ∧ Exa Z h a1 "com/example/varasto/varasto/util/OptionReader" ∧ Fld Z h a1 "com/example/varasto/varasto/util/OptionReader" "_args" "[Ljava/lang/String;" (.ref a2) ∧ Fld Z h a1 "com/example/varasto/varasto/util/OptionReader" "_next" "I" (.int 0) ∧ Fld Z h a1 "com/example/varasto/varasto/util/OptionReader" "_option" "Ljava/lang/String;" .null
set_option maxRecDepth 65536 in
set_option maxHeartbeats 40000000 in
theorem rm_oin (l : Launch) (Z : State) (a0 : Array Value) (hw : ∀ d ∈ own_words, d.before a0 Z = true) (ws : List Jvm.Cond) (a1 a2 : Addr) (u1 : Value) (h0 : Heap) (n0 : Nat) (Z0 : n0 ≤ h0.size) (E_a1 : Exa Z h0 a1 "com/example/varasto/varasto/util/OptionReader") (F1 : Fld Z h0 a1 "com/example/varasto/varasto/util/OptionReader" "_args" "[Ljava/lang/String;" u1) (F2 : Fld Z h0 a1 "com/example/varasto/varasto/util/OptionReader" "_next" "I" (.int 0)) (F3 : Fld Z h0 a1 "com/example/varasto/varasto/util/OptionReader" "_option" "Ljava/lang/String;" .null) (g_a1 : n0 ≤ a1) :
    Met l Z (⟨"com/example/varasto/varasto/util/OptionReader", "<init>", "([Ljava/lang/String;)V"⟩ : MethodName) prog_16_method_1_code 2 none ws ({ frames := 1, cells := 0, slots := 0, locals := 12 } : Room) #[(.ref a1), (.ref a2)] h0 (Q_oin Z a1 a2 u1 h0 n0) := by
  refine Met.start (plainFor_of_name pn_1) ?_
  intro p e s m below meth c T X hx hby hml hown hnm hret hlk hZ eT
  have N := Fr.nil n0
  have K := Keep.refl h0 [a1]
  refine Wout.cast (g' := (mkF m 0 #[.val (.ref a1), .val (.ref a2)] [])) (by first | rfl | (simp [entryFrame, mkF, argsToLocals, Value.category]; done)) ?_
  refine o_aloadN X hx 1 (hb hby d_prog_16_method_1_0) rfl rfl rfl ?_
  refine o_initO X hx hZ hown (hw _ (List.mem_of_getElem? (i := 38) rfl)) (hw _ (List.mem_of_getElem? (i := 13) rfl)) (hw _ (List.mem_of_getElem? (i := 14) rfl)) eT (by rw [hml]; rfl) (by decide) 0 (Nat.le_of_eq rfl) (by decide) 4 (hb hby d_prog_16_method_1_1) rfl (fun T X eT => ?_)
  refine o_aloadN X hx 5 (hb hby d_prog_16_method_1_4) rfl rfl rfl ?_
  refine o_aloadN X hx 6 (hb hby d_prog_16_method_1_5) rfl rfl rfl ?_
  refine o_putF X hx hZ (.array (.object "java/lang/String")) hown (host := "") (Or.inl (hw _ (List.mem_of_getElem? (i := 39) rfl))) Via.refl eT F1 E_a1 (Or.inr ⟨(hw _ (List.mem_of_getElem? (i := 40) rfl)), rfl, hnm⟩) (hw _ (List.mem_of_getElem? (i := 33) rfl)) (by decide) rfl rfl N g_a1 9 (hb hby d_prog_16_method_1_6) rfl (fun T h1 locs X eT W N => ?_)
  replace E_a1 := E_a1.wr W
  replace F1 := F1.same W
  replace F2 := F2.other W (Or.inr (slot_ne (Or.inl (hw _ (List.mem_of_getElem? (i := 47) rfl))) (Or.inr (hw _ (List.mem_of_getElem? (i := 40) rfl))) (by decide) (t := .int) (t' := (.array (.object "java/lang/String"))) (by decide) (by decide)))
  replace F3 := F3.other W (Or.inr (slot_ne (Or.inl (hw _ (List.mem_of_getElem? (i := 54) rfl))) (Or.inr (hw _ (List.mem_of_getElem? (i := 40) rfl))) (by decide) (t := (.object "java/lang/String")) (t' := (.array (.object "java/lang/String"))) (by decide) (by decide)))
  replace Z0 := Nat.le_trans Z0 (Keep.of_wr W).1
  replace K := K.wr W (Or.inl (List.mem_of_getElem? (i := 0) rfl))
  exact o_retV X hx hlk hret (hb hby d_prog_16_method_1_9) (by decide) (by decide) (by rw [eT]; exact ⟨rfl, N, K, E_a1, F1, F2, F3⟩)
theorem d_prog_16_method_2_0 : decode prog_16_method_2_code 0 = .ok (.aload_n 0, 1) := by decide +kernel
theorem d_prog_16_method_2_1 : decode prog_16_method_2_code 1 = .ok (.getfield 13, 3) := by decide +kernel
theorem d_prog_16_method_2_4 : decode prog_16_method_2_code 4 = .ok (.aload_n 0, 1) := by decide +kernel
theorem d_prog_16_method_2_5 : decode prog_16_method_2_code 5 = .ok (.getfield 7, 3) := by decide +kernel
theorem d_prog_16_method_2_8 : decode prog_16_method_2_code 8 = .ok (.arraylength, 1) := by decide +kernel
theorem d_prog_16_method_2_9 : decode prog_16_method_2_code 9 = .ok (.if_icmp .ge 7, 3) := by decide +kernel
theorem d_prog_16_method_2_12 : decode prog_16_method_2_code 12 = .ok (.iconst 1, 1) := by decide +kernel
theorem d_prog_16_method_2_13 : decode prog_16_method_2_code 13 = .ok (.goto 4, 3) := by decide +kernel
theorem d_prog_16_method_2_16 : decode prog_16_method_2_code 16 = .ok (.iconst 0, 1) := by decide +kernel
theorem d_prog_16_method_2_17 : decode prog_16_method_2_code 17 = .ok (.ireturn, 1) := by decide +kernel
def Q_has1 (Z : State) (a1 aa : Addr) (ka : ClassId) (i z : Int32) (vs : List Value) (h0 : Heap) (n0 : Nat) (v : Option Value) (h : Heap) (L : List Loc) : Prop := v = some (.int 1) ∧ Fr n0 L ∧ h = h0
set_option maxRecDepth 65536 in
set_option maxHeartbeats 40000000 in
theorem rm_has1 (l : Launch) (Z : State) (a0 : Array Value) (hw : ∀ d ∈ own_words, d.before a0 Z = true) (ws : List Jvm.Cond) (a1 aa : Addr) (ka : ClassId) (i z : Int32) (vs : List Value) (h0 : Heap) (n0 : Nat) (Z0 : n0 ≤ h0.size) (F1 : Fld Z h0 a1 "com/example/varasto/varasto/util/OptionReader" "_args" "[Ljava/lang/String;" (.ref aa)) (F2 : Fld Z h0 a1 "com/example/varasto/varasto/util/OptionReader" "_next" "I" (.int i)) (Va : Arv Z h0 aa ka (.object "java/lang/String") z vs .null) (q : i < z) :
    Met l Z (⟨"com/example/varasto/varasto/util/OptionReader", "hasNext", "()Z"⟩ : MethodName) prog_16_method_2_code 1 (some .boolean) ws ({ frames := 0, cells := 0, slots := 0, locals := 0 } : Room) #[(.ref a1)] h0 (Q_has1 Z a1 aa ka i z vs h0 n0) := by
  refine Met.start (plainFor_of_name pn_1) ?_
  intro p e s m below meth c T X hx hby hml hown hnm hret hlk hZ eT
  have N := Fr.nil n0
  refine Wout.cast (g' := (mkF m 0 #[.val (.ref a1)] [])) (by first | rfl | (simp [entryFrame, mkF, argsToLocals, Value.category]; done)) ?_
  refine o_aloadN X hx 1 (hb hby d_prog_16_method_2_0) rfl rfl rfl ?_
  refine o_getF X hx hZ hown (host := "") (Or.inl (hw _ (List.mem_of_getElem? (i := 46) rfl))) Via.refl eT F2 4 (hb hby d_prog_16_method_2_1) rfl (fun T X eT => ?_)
  refine o_aloadN X hx 5 (hb hby d_prog_16_method_2_4) rfl rfl rfl ?_
  refine o_getF X hx hZ hown (host := "") (Or.inl (hw _ (List.mem_of_getElem? (i := 39) rfl))) Via.refl eT F1 8 (hb hby d_prog_16_method_2_5) rfl (fun T X eT => ?_)
  refine o_arraylength X hx hZ eT Va 9 (hb hby d_prog_16_method_2_8) rfl ?_
  refine o_icmpF X hx 12 (hb hby d_prog_16_method_2_9) rfl q ?_
  refine o_iconst X hx 13 (1 : Int32) (hb hby d_prog_16_method_2_12) rfl rfl ?_
  refine o_goto X hx 17 (hb hby d_prog_16_method_2_13) rfl ?_
  exact o_retI X hx hlk hret rfl (by simp) (hb hby d_prog_16_method_2_17) (by decide) (by decide) (by rw [eT]; exact ⟨rfl, N, rfl⟩)
def Q_has0 (Z : State) (a1 aa : Addr) (ka : ClassId) (i z : Int32) (vs : List Value) (h0 : Heap) (n0 : Nat) (v : Option Value) (h : Heap) (L : List Loc) : Prop := v = some (.int 0) ∧ Fr n0 L ∧ h = h0
set_option maxRecDepth 65536 in
set_option maxHeartbeats 40000000 in
theorem rm_has0 (l : Launch) (Z : State) (a0 : Array Value) (hw : ∀ d ∈ own_words, d.before a0 Z = true) (ws : List Jvm.Cond) (a1 aa : Addr) (ka : ClassId) (i z : Int32) (vs : List Value) (h0 : Heap) (n0 : Nat) (Z0 : n0 ≤ h0.size) (F1 : Fld Z h0 a1 "com/example/varasto/varasto/util/OptionReader" "_args" "[Ljava/lang/String;" (.ref aa)) (F2 : Fld Z h0 a1 "com/example/varasto/varasto/util/OptionReader" "_next" "I" (.int i)) (Va : Arv Z h0 aa ka (.object "java/lang/String") z vs .null) (q : ¬ i < z) :
    Met l Z (⟨"com/example/varasto/varasto/util/OptionReader", "hasNext", "()Z"⟩ : MethodName) prog_16_method_2_code 1 (some .boolean) ws ({ frames := 0, cells := 0, slots := 0, locals := 0 } : Room) #[(.ref a1)] h0 (Q_has0 Z a1 aa ka i z vs h0 n0) := by
  refine Met.start (plainFor_of_name pn_1) ?_
  intro p e s m below meth c T X hx hby hml hown hnm hret hlk hZ eT
  have N := Fr.nil n0
  refine Wout.cast (g' := (mkF m 0 #[.val (.ref a1)] [])) (by first | rfl | (simp [entryFrame, mkF, argsToLocals, Value.category]; done)) ?_
  refine o_aloadN X hx 1 (hb hby d_prog_16_method_2_0) rfl rfl rfl ?_
  refine o_getF X hx hZ hown (host := "") (Or.inl (hw _ (List.mem_of_getElem? (i := 46) rfl))) Via.refl eT F2 4 (hb hby d_prog_16_method_2_1) rfl (fun T X eT => ?_)
  refine o_aloadN X hx 5 (hb hby d_prog_16_method_2_4) rfl rfl rfl ?_
  refine o_getF X hx hZ hown (host := "") (Or.inl (hw _ (List.mem_of_getElem? (i := 39) rfl))) Via.refl eT F1 8 (hb hby d_prog_16_method_2_5) rfl (fun T X eT => ?_)
  refine o_arraylength X hx hZ eT Va 9 (hb hby d_prog_16_method_2_8) rfl ?_
  refine o_icmpT X hx 16 (hb hby d_prog_16_method_2_9) rfl q ?_
  refine o_iconst X hx 17 (0 : Int32) (hb hby d_prog_16_method_2_16) rfl rfl ?_
  exact o_retI X hx hlk hret rfl (by simp) (hb hby d_prog_16_method_2_17) (by decide) (by decide) (by rw [eT]; exact ⟨rfl, N, rfl⟩)
theorem d_prog_16_method_3_0 : decode prog_16_method_3_code 0 = .ok (.aload_n 0, 1) := by decide +kernel
theorem d_prog_16_method_3_1 : decode prog_16_method_3_code 1 = .ok (.aload_n 0, 1) := by decide +kernel
theorem d_prog_16_method_3_2 : decode prog_16_method_3_code 2 = .ok (.getfield 7, 3) := by decide +kernel
theorem d_prog_16_method_3_5 : decode prog_16_method_3_code 5 = .ok (.aload_n 0, 1) := by decide +kernel
theorem d_prog_16_method_3_6 : decode prog_16_method_3_code 6 = .ok (.dup, 1) := by decide +kernel
theorem d_prog_16_method_3_7 : decode prog_16_method_3_code 7 = .ok (.getfield 13, 3) := by decide +kernel
theorem d_prog_16_method_3_10 : decode prog_16_method_3_code 10 = .ok (.dup_x1, 1) := by decide +kernel
theorem d_prog_16_method_3_11 : decode prog_16_method_3_code 11 = .ok (.iconst 1, 1) := by decide +kernel
theorem d_prog_16_method_3_12 : decode prog_16_method_3_code 12 = .ok (.iadd, 1) := by decide +kernel
theorem d_prog_16_method_3_13 : decode prog_16_method_3_code 13 = .ok (.putfield 13, 3) := by decide +kernel
theorem d_prog_16_method_3_16 : decode prog_16_method_3_code 16 = .ok (.aaload, 1) := by decide +kernel
theorem d_prog_16_method_3_17 : decode prog_16_method_3_code 17 = .ok (.putfield 17, 3) := by decide +kernel
theorem d_prog_16_method_3_20 : decode prog_16_method_3_code 20 = .ok (.aload_n 0, 1) := by decide +kernel
theorem d_prog_16_method_3_21 : decode prog_16_method_3_code 21 = .ok (.getfield 17, 3) := by decide +kernel
theorem d_prog_16_method_3_24 : decode prog_16_method_3_code 24 = .ok (.areturn, 1) := by decide +kernel
def Q_nxt (Z : State) (a1 aa st : Addr) (ka : ClassId) (i j z : Int32) (vs : List Value) (u : Value) (h0 : Heap) (n0 : Nat) (v : Option Value) (h : Heap) (L : List Loc) : Prop := ∃ u' : Value, v = some (.ref st) ∧ Fr n0 L ∧ Keep h0 h [a1] ∧ Exa Z h a1 "com/example/varasto/varasto/util/OptionReader" ∧ Fld Z h a1 "com/example/varasto/varasto/util/OptionReader" "_args" "[Ljava/lang/String;" (.ref aa) ∧ Fld Z h a1 "com/example/varasto/varasto/util/OptionReader" "_next" "I" (.int j) ∧ Fld Z h a1 "com/example/varasto/varasto/util/OptionReader" "_option" "Ljava/lang/String;" u'
set_option maxRecDepth 65536 in
set_option maxHeartbeats 40000000 in
theorem rm_nxt (l : Launch) (Z : State) (a0 : Array Value) (hw : ∀ d ∈ own_words, d.before a0 Z = true) (ws : List Jvm.Cond) (a1 aa st : Addr) (ka : ClassId) (i j z : Int32) (vs : List Value) (u : Value) (h0 : Heap) (n0 : Nat) (Z0 : n0 ≤ h0.size) (E_a1 : Exa Z h0 a1 "com/example/varasto/varasto/util/OptionReader") (F1 : Fld Z h0 a1 "com/example/varasto/varasto/util/OptionReader" "_args" "[Ljava/lang/String;" (.ref aa)) (F2 : Fld Z h0 a1 "com/example/varasto/varasto/util/OptionReader" "_next" "I" (.int i)) (Va : Arv Z h0 aa ka (.object "java/lang/String") z vs .null) (F3 : Fld Z h0 a1 "com/example/varasto/varasto/util/OptionReader" "_option" "Ljava/lang/String;" u) (g_a1 : n0 ≤ a1) (ne1 : aa ≠ a1) (hj : ¬ i < 0 ∧ i < z) (hv : vs.getD i.toNatClampNeg .null = .ref st) (hij : i + 1 = j) :
    Met l Z (⟨"com/example/varasto/varasto/util/OptionReader", "next", "()Ljava/lang/String;"⟩ : MethodName) prog_16_method_3_code 1 (some (.object "java/lang/String")) ws ({ frames := 0, cells := 0, slots := 0, locals := 0 } : Room) #[(.ref a1)] h0 (Q_nxt Z a1 aa st ka i j z vs u h0 n0) := by
  refine Met.start (plainFor_of_name pn_1) ?_
  intro p e s m below meth c T X hx hby hml hown hnm hret hlk hZ eT
  have N := Fr.nil n0
  have K := Keep.refl h0 [a1]
  refine Wout.cast (g' := (mkF m 0 #[.val (.ref a1)] [])) (by first | rfl | (simp [entryFrame, mkF, argsToLocals, Value.category]; done)) ?_
  refine o_aloadN X hx 1 (hb hby d_prog_16_method_3_0) rfl rfl rfl ?_
  refine o_aloadN X hx 2 (hb hby d_prog_16_method_3_1) rfl rfl rfl ?_
  refine o_getF X hx hZ hown (host := "") (Or.inl (hw _ (List.mem_of_getElem? (i := 39) rfl))) Via.refl eT F1 5 (hb hby d_prog_16_method_3_2) rfl (fun T X eT => ?_)
  refine o_aloadN X hx 6 (hb hby d_prog_16_method_3_5) rfl rfl rfl ?_
  refine o_dup X hx 7 (hb hby d_prog_16_method_3_6) rfl rfl ?_
  refine o_getF X hx hZ hown (host := "") (Or.inl (hw _ (List.mem_of_getElem? (i := 46) rfl))) Via.refl eT F2 10 (hb hby d_prog_16_method_3_7) rfl (fun T X eT => ?_)
  refine o_dup_x1 X hx 11 (hb hby d_prog_16_method_3_10) rfl rfl rfl ?_
  refine o_iconst X hx 12 (1 : Int32) (hb hby d_prog_16_method_3_11) rfl rfl ?_
  refine o_iadd X hx 13 (hb hby d_prog_16_method_3_12) rfl ?_
  refine o_putF X hx hZ .int hown (host := "") (Or.inl (hw _ (List.mem_of_getElem? (i := 46) rfl))) Via.refl eT F2 E_a1 (Or.inl (hw _ (List.mem_of_getElem? (i := 47) rfl))) (hw _ (List.mem_of_getElem? (i := 33) rfl)) (by decide) rfl rfl N g_a1 16 (hb hby d_prog_16_method_3_13) rfl (fun T h1 locs X eT W N => ?_)
  replace E_a1 := E_a1.wr W
  replace F1 := F1.other W (Or.inr (slot_ne (Or.inr (hw _ (List.mem_of_getElem? (i := 40) rfl))) (Or.inl (hw _ (List.mem_of_getElem? (i := 47) rfl))) (by decide) (t := (.array (.object "java/lang/String"))) (t' := .int) (by decide) (by decide)))
  replace F2 := F2.same W
  replace Va := Va.other W ne1
  replace F3 := F3.other W (Or.inr (slot_ne (Or.inl (hw _ (List.mem_of_getElem? (i := 54) rfl))) (Or.inl (hw _ (List.mem_of_getElem? (i := 47) rfl))) (by decide) (t := (.object "java/lang/String")) (t' := .int) (by decide) (by decide)))
  replace Z0 := Nat.le_trans Z0 (Keep.of_wr W).1
  replace K := K.wr W (Or.inl (List.mem_of_getElem? (i := 0) rfl))
  refine o_aaload X hx hZ eT Va rfl hj (v := (.ref st)) hv 17 (hb hby d_prog_16_method_3_16) rfl ?_
  refine o_putF X hx hZ (.object "java/lang/String") hown (host := "") (Or.inl (hw _ (List.mem_of_getElem? (i := 53) rfl))) Via.refl eT F3 E_a1 (Or.inl (hw _ (List.mem_of_getElem? (i := 54) rfl))) (hw _ (List.mem_of_getElem? (i := 33) rfl)) (by decide) rfl rfl N g_a1 20 (hb hby d_prog_16_method_3_17) rfl (fun T h2 locs X eT W N => ?_)
  replace E_a1 := E_a1.wr W
  replace F1 := F1.other W (Or.inr (slot_ne (Or.inr (hw _ (List.mem_of_getElem? (i := 40) rfl))) (Or.inl (hw _ (List.mem_of_getElem? (i := 54) rfl))) (by decide) (t := (.array (.object "java/lang/String"))) (t' := (.object "java/lang/String")) (by decide) (by decide)))
  replace F2 := F2.other W (Or.inr (slot_ne (Or.inl (hw _ (List.mem_of_getElem? (i := 47) rfl))) (Or.inl (hw _ (List.mem_of_getElem? (i := 54) rfl))) (by decide) (t := .int) (t' := (.object "java/lang/String")) (by decide) (by decide)))
  replace Va := Va.other W ne1
  replace F3 := F3.same W
  replace Z0 := Nat.le_trans Z0 (Keep.of_wr W).1
  replace K := K.wr W (Or.inl (List.mem_of_getElem? (i := 0) rfl))
  refine o_aloadN X hx 21 (hb hby d_prog_16_method_3_20) rfl rfl rfl ?_
  refine o_getF X hx hZ hown (host := "") (Or.inl (hw _ (List.mem_of_getElem? (i := 53) rfl))) Via.refl eT F3 24 (hb hby d_prog_16_method_3_21) rfl (fun T X eT => ?_)
  exact o_retA X hx hlk hret rfl rfl rfl (hb hby d_prog_16_method_3_24) (by decide) (by decide) (by rw [eT]; exact ⟨_, rfl, N, K, E_a1, F1, hij ▸ F2, F3⟩)
theorem d_prog_16_method_4_0 : decode prog_16_method_4_code 0 = .ok (.aload_n 0, 1) := by decide +kernel
theorem d_prog_16_method_4_1 : decode prog_16_method_4_code 1 = .ok (.invokevirtual 21, 3) := by decide +kernel
theorem d_prog_16_method_4_4 : decode prog_16_method_4_code 4 = .ok (.ifCond .ne 20, 3) := by decide +kernel
theorem d_prog_16_method_4_7 : decode prog_16_method_4_code 7 = .ok (.new 25, 3) := by decide +kernel
theorem d_prog_16_method_4_10 : decode prog_16_method_4_code 10 = .ok (.dup, 1) := by decide +kernel
theorem d_prog_16_method_4_11 : decode prog_16_method_4_code 11 = .ok (.aload_n 0, 1) := by decide +kernel
theorem d_prog_16_method_4_12 : decode prog_16_method_4_code 12 = .ok (.getfield 17, 3) := by decide +kernel
theorem d_prog_16_method_4_15 : decode prog_16_method_4_code 15 = .ok (.invokedynamic 27, 5) := by decide +kernel
theorem d_prog_16_method_4_20 : decode prog_16_method_4_code 20 = .ok (.invokespecial 31, 3) := by decide +kernel
theorem d_prog_16_method_4_23 : decode prog_16_method_4_code 23 = .ok (.athrow, 1) := by decide +kernel
theorem d_prog_16_method_4_24 : decode prog_16_method_4_code 24 = .ok (.aload_n 0, 1) := by decide +kernel
theorem d_prog_16_method_4_25 : decode prog_16_method_4_code 25 = .ok (.getfield 7, 3) := by decide +kernel
theorem d_prog_16_method_4_28 : decode prog_16_method_4_code 28 = .ok (.aload_n 0, 1) := by decide +kernel
theorem d_prog_16_method_4_29 : decode prog_16_method_4_code 29 = .ok (.dup, 1) := by decide +kernel
theorem d_prog_16_method_4_30 : decode prog_16_method_4_code 30 = .ok (.getfield 13, 3) := by decide +kernel
theorem d_prog_16_method_4_33 : decode prog_16_method_4_code 33 = .ok (.dup_x1, 1) := by decide +kernel
theorem d_prog_16_method_4_34 : decode prog_16_method_4_code 34 = .ok (.iconst 1, 1) := by decide +kernel
theorem d_prog_16_method_4_35 : decode prog_16_method_4_code 35 = .ok (.iadd, 1) := by decide +kernel
theorem d_prog_16_method_4_36 : decode prog_16_method_4_code 36 = .ok (.putfield 13, 3) := by decide +kernel
theorem d_prog_16_method_4_39 : decode prog_16_method_4_code 39 = .ok (.aaload, 1) := by decide +kernel
theorem d_prog_16_method_4_40 : decode prog_16_method_4_code 40 = .ok (.areturn, 1) := by decide +kernel
theorem pd_0 : parseMethodDescriptor "()Z" = some ⟨[], some .boolean⟩ := by decide +kernel
def Q_val (Z : State) (a1 aa st : Addr) (ka : ClassId) (i j z : Int32) (vs : List Value) (u : Value) (h0 : Heap) (n0 : Nat) (v : Option Value) (h : Heap) (L : List Loc) : Prop := ∃ u' : Value, v = some (.ref st) ∧ Fr n0 L ∧ Keep h0 h [a1] ∧ Exa Z h a1 "com/example/varasto/varasto/util/OptionReader" ∧ Fld Z h a1 "com/example/varasto/varasto/util/OptionReader" "_args" "[Ljava/lang/String;" (.ref aa) ∧ Fld Z h a1 "com/example/varasto/varasto/util/OptionReader" "_next" "I" (.int j) ∧ Fld Z h a1 "com/example/varasto/varasto/util/OptionReader" "_option" "Ljava/lang/String;" u'
set_option maxRecDepth 65536 in
set_option maxHeartbeats 40000000 in
theorem rm_val (l : Launch) (Z : State) (a0 : Array Value) (hw : ∀ d ∈ own_words, d.before a0 Z = true) (ws : List Jvm.Cond) (a1 aa st : Addr) (ka : ClassId) (i j z : Int32) (vs : List Value) (u : Value) (h0 : Heap) (n0 : Nat) (Z0 : n0 ≤ h0.size) (E_a1 : Exa Z h0 a1 "com/example/varasto/varasto/util/OptionReader") (F1 : Fld Z h0 a1 "com/example/varasto/varasto/util/OptionReader" "_args" "[Ljava/lang/String;" (.ref aa)) (F2 : Fld Z h0 a1 "com/example/varasto/varasto/util/OptionReader" "_next" "I" (.int i)) (Va : Arv Z h0 aa ka (.object "java/lang/String") z vs .null) (F3 : Fld Z h0 a1 "com/example/varasto/varasto/util/OptionReader" "_option" "Ljava/lang/String;" u) (g_a1 : n0 ≤ a1) (ne1 : aa ≠ a1) (hj : ¬ i < 0 ∧ i < z) (hv : vs.getD i.toNatClampNeg .null = .ref st) (hij : i + 1 = j) :
    Met l Z (⟨"com/example/varasto/varasto/util/OptionReader", "value", "()Ljava/lang/String;"⟩ : MethodName) prog_16_method_4_code 1 (some (.object "java/lang/String")) ws ({ frames := 1, cells := 0, slots := 0, locals := 12 } : Room) #[(.ref a1)] h0 (Q_val Z a1 aa st ka i j z vs u h0 n0) := by
  refine Met.start (plainFor_of_name pn_1) ?_
  intro p e s m below meth c T X hx hby hml hown hnm hret hlk hZ eT
  have N := Fr.nil n0
  have K := Keep.refl h0 [a1]
  refine Wout.cast (g' := (mkF m 0 #[.val (.ref a1)] [])) (by first | rfl | (simp [entryFrame, mkF, argsToLocals, Value.category]; done)) ?_
  refine o_aloadN X hx 1 (hb hby d_prog_16_method_4_0) rfl rfl rfl ?_
  refine o_callV X hx hZ hown (hw _ (List.mem_of_getElem? (i := 69) rfl)) (hw _ (List.mem_of_getElem? (i := 42) rfl)) (hw _ (List.mem_of_getElem? (i := 44) rfl)) (hw _ (List.mem_of_getElem? (i := 43) rfl)) (hw _ (List.mem_of_getElem? (i := 34) rfl)) (hw _ (List.mem_of_getElem? (i := 45) rfl)) (by decide) (rm_has1 l Z a0 hw [] a1 aa ka i z vs _ n0 Z0 F1 F2 Va hj.2) eT (by decide) 0 (by decide) (by rw [hml]; rfl) E_a1 [] (rest := []) (lenOf pd_0 rfl) rfl rfl (Nat.le_of_eq rfl) (by decide) (by decide) 4 (hb hby d_prog_16_method_4_1) rfl (fun v T h1 Lc X eT q => ?_)
  obtain ⟨rfl, N', e'⟩ := q
  replace N := Fr.app N N'
  replace eT := eT.trans e'
  show Wout p e below _ T (mkF m 4 #[.val (.ref a1)] [(.int (1 : Int32))])
  refine o_ifT X hx 24 (hb hby d_prog_16_method_4_4) rfl (by decide : ¬ (1 : Int32) = (0 : Int32)) ?_
  refine o_aloadN X hx 25 (hb hby d_prog_16_method_4_24) rfl rfl rfl ?_
  refine o_getF X hx hZ hown (host := "") (Or.inl (hw _ (List.mem_of_getElem? (i := 39) rfl))) Via.refl eT F1 28 (hb hby d_prog_16_method_4_25) rfl (fun T X eT => ?_)
  refine o_aloadN X hx 29 (hb hby d_prog_16_method_4_28) rfl rfl rfl ?_
  refine o_dup X hx 30 (hb hby d_prog_16_method_4_29) rfl rfl ?_
  refine o_getF X hx hZ hown (host := "") (Or.inl (hw _ (List.mem_of_getElem? (i := 46) rfl))) Via.refl eT F2 33 (hb hby d_prog_16_method_4_30) rfl (fun T X eT => ?_)
  refine o_dup_x1 X hx 34 (hb hby d_prog_16_method_4_33) rfl rfl rfl ?_
  refine o_iconst X hx 35 (1 : Int32) (hb hby d_prog_16_method_4_34) rfl rfl ?_
  refine o_iadd X hx 36 (hb hby d_prog_16_method_4_35) rfl ?_
  refine o_putF X hx hZ .int hown (host := "") (Or.inl (hw _ (List.mem_of_getElem? (i := 46) rfl))) Via.refl eT F2 E_a1 (Or.inl (hw _ (List.mem_of_getElem? (i := 47) rfl))) (hw _ (List.mem_of_getElem? (i := 33) rfl)) (by decide) rfl rfl N g_a1 39 (hb hby d_prog_16_method_4_36) rfl (fun T h2 locs X eT W N => ?_)
  replace E_a1 := E_a1.wr W
  replace F1 := F1.other W (Or.inr (slot_ne (Or.inr (hw _ (List.mem_of_getElem? (i := 40) rfl))) (Or.inl (hw _ (List.mem_of_getElem? (i := 47) rfl))) (by decide) (t := (.array (.object "java/lang/String"))) (t' := .int) (by decide) (by decide)))
  replace F2 := F2.same W
  replace Va := Va.other W ne1
  replace F3 := F3.other W (Or.inr (slot_ne (Or.inl (hw _ (List.mem_of_getElem? (i := 54) rfl))) (Or.inl (hw _ (List.mem_of_getElem? (i := 47) rfl))) (by decide) (t := (.object "java/lang/String")) (t' := .int) (by decide) (by decide)))
  replace Z0 := Nat.le_trans Z0 (Keep.of_wr W).1
  replace K := K.wr W (Or.inl (List.mem_of_getElem? (i := 0) rfl))
  refine o_aaload X hx hZ eT Va rfl hj (v := (.ref st)) hv 40 (hb hby d_prog_16_method_4_39) rfl ?_
  exact o_retA X hx hlk hret rfl rfl rfl (hb hby d_prog_16_method_4_40) (by decide) (by decide) (by rw [eT]; exact ⟨u, rfl, N, K, E_a1, F1, hij ▸ F2, F3⟩)
theorem d_method_2_0 : decode method_2_code 0 = .ok (.iload_n 0, 1) := by decide +kernel
theorem d_method_2_1 : decode method_2_code 1 = .ok (.iconst 1, 1) := by decide +kernel
theorem d_method_2_2 : decode method_2_code 2 = .ok (.if_icmp .ne 5, 3) := by decide +kernel
theorem d_method_2_5 : decode method_2_code 5 = .ok (.aload_n 1, 1) := by decide +kernel
theorem d_method_2_6 : decode method_2_code 6 = .ok (.areturn, 1) := by decide +kernel
theorem d_method_2_7 : decode method_2_code 7 = .ok (.aload_n 2, 1) := by decide +kernel
theorem d_method_2_8 : decode method_2_code 8 = .ok (.areturn, 1) := by decide +kernel
theorem pn_2 : plainName "com/example/varasto/varasto/util/OptionReaderNextPinLaw" = true := by first | (simp [plainName, overriddenIn]; done) | decide +kernel
def Q_pick1 (Z : State) (i : Int32) (s1 s2 : Addr) (h0 : Heap) (n0 : Nat) (v : Option Value) (h : Heap) (L : List Loc) : Prop := v = some (.ref s1) ∧ Fr n0 L ∧ h = h0
set_option maxRecDepth 65536 in
set_option maxHeartbeats 40000000 in
theorem rm_pick1 (l : Launch) (Z : State) (a0 : Array Value) (hw : ∀ d ∈ own_words, d.before a0 Z = true) (ws : List Jvm.Cond) (i : Int32) (s1 s2 : Addr) (h0 : Heap) (n0 : Nat) (Z0 : n0 ≤ h0.size) (q : i = 1) :
    Met l Z (⟨"com/example/varasto/varasto/util/OptionReaderNextPinLaw", "pick", "(ILjava/lang/String;Ljava/lang/String;)Ljava/lang/String;"⟩ : MethodName) method_2_code 3 (some (.object "java/lang/String")) ws ({ frames := 0, cells := 0, slots := 0, locals := 0 } : Room) #[(.int i), (.ref s1), (.ref s2)] h0 (Q_pick1 Z i s1 s2 h0 n0) := by
  refine Met.start (plainFor_of_name pn_2) ?_
  intro p e s m below meth c T X hx hby hml hown hnm hret hlk hZ eT
  have N := Fr.nil n0
  refine Wout.cast (g' := (mkF m 0 #[.val (.int i), .val (.ref s1), .val (.ref s2)] [])) (by first | rfl | (simp [entryFrame, mkF, argsToLocals, Value.category]; done)) ?_
  refine o_iloadN X hx 1 (hb hby d_method_2_0) rfl rfl ?_
  refine o_iconst X hx 2 (1 : Int32) (hb hby d_method_2_1) rfl rfl ?_
  refine o_icmpF X hx 5 (hb hby d_method_2_2) rfl q ?_
  refine o_aloadN X hx 6 (hb hby d_method_2_5) rfl rfl rfl ?_
  exact o_retA X hx hlk hret rfl rfl rfl (hb hby d_method_2_6) (by decide) (by decide) (by rw [eT]; exact ⟨rfl, N, rfl⟩)
def Q_pick2 (Z : State) (i : Int32) (s1 s2 : Addr) (h0 : Heap) (n0 : Nat) (v : Option Value) (h : Heap) (L : List Loc) : Prop := v = some (.ref s2) ∧ Fr n0 L ∧ h = h0
set_option maxRecDepth 65536 in
set_option maxHeartbeats 40000000 in
theorem rm_pick2 (l : Launch) (Z : State) (a0 : Array Value) (hw : ∀ d ∈ own_words, d.before a0 Z = true) (ws : List Jvm.Cond) (i : Int32) (s1 s2 : Addr) (h0 : Heap) (n0 : Nat) (Z0 : n0 ≤ h0.size) (q : ¬ i = 1) :
    Met l Z (⟨"com/example/varasto/varasto/util/OptionReaderNextPinLaw", "pick", "(ILjava/lang/String;Ljava/lang/String;)Ljava/lang/String;"⟩ : MethodName) method_2_code 3 (some (.object "java/lang/String")) ws ({ frames := 0, cells := 0, slots := 0, locals := 0 } : Room) #[(.int i), (.ref s1), (.ref s2)] h0 (Q_pick2 Z i s1 s2 h0 n0) := by
  refine Met.start (plainFor_of_name pn_2) ?_
  intro p e s m below meth c T X hx hby hml hown hnm hret hlk hZ eT
  have N := Fr.nil n0
  refine Wout.cast (g' := (mkF m 0 #[.val (.int i), .val (.ref s1), .val (.ref s2)] [])) (by first | rfl | (simp [entryFrame, mkF, argsToLocals, Value.category]; done)) ?_
  refine o_iloadN X hx 1 (hb hby d_method_2_0) rfl rfl ?_
  refine o_iconst X hx 2 (1 : Int32) (hb hby d_method_2_1) rfl rfl ?_
  refine o_icmpT X hx 7 (hb hby d_method_2_2) rfl q ?_
  refine o_aloadN X hx 8 (hb hby d_method_2_7) rfl rfl rfl ?_
  exact o_retA X hx hlk hret rfl rfl rfl (hb hby d_method_2_8) (by decide) (by decide) (by rw [eT]; exact ⟨rfl, N, rfl⟩)
theorem own_lat (x : Int32) : ¬ (nar .char ((x &&& (255 : Int32)).toUInt32.toUInt16.toUInt32.toInt32)) < 0 ∧ ¬ (255 : Int32) < (nar .char ((x &&& (255 : Int32)).toUInt32.toUInt16.toUInt32.toInt32)) := by
  rw [i2c_mask]
  show ¬ ((x &&& (255 : Int32)).toUInt32.toUInt16.toUInt32.toInt32) < 0 ∧ ¬ (255 : Int32) < ((x &&& (255 : Int32)).toUInt32.toUInt16.toUInt32.toInt32)
  rw [i2c_mask]
  have e := Jvm.Kit.i32_mask x 255 (k := 8) (by decide) (by decide)
  have h0 : (0 : Int32).toInt = 0 := rfl
  have h5 : (255 : Int32).toInt = 255 := rfl
  exact ⟨fun q => by have := Int32.lt_iff_toInt_lt.mp q; omega, fun q => by have := Int32.lt_iff_toInt_lt.mp q; omega⟩
theorem own_n (x : Int32) : (1 : Int32) + ((x &&& (2147483647 : Int32)) % (3 : Int32)) = 1 ∨ (1 : Int32) + ((x &&& (2147483647 : Int32)) % (3 : Int32)) = 2 ∨ (1 : Int32) + ((x &&& (2147483647 : Int32)) % (3 : Int32)) = 3 := by
  rcases in3 (rem_in (n := 3) (mask31 x) (by decide)).1 (rem_in (n := 3) (mask31 x) (by decide)).2 with q | q | q <;> rw [q] <;> decide
theorem pd_1 : parseMethodDescriptor "([C)V" = some ⟨[(.array .char)], none⟩ := by decide +kernel
theorem pd_2 : parseMethodDescriptor "([Ljava/lang/String;)V" = some ⟨[(.array (.object "java/lang/String"))], none⟩ := by decide +kernel
theorem pd_3 : parseMethodDescriptor "()Ljava/lang/String;" = some ⟨[], some (.object "java/lang/String")⟩ := by decide +kernel
theorem pd_4 : parseMethodDescriptor "(Ljava/lang/Object;)Z" = some ⟨[(.object "java/lang/Object")], some .boolean⟩ := by decide +kernel
theorem pd_5 : parseMethodDescriptor "(ILjava/lang/String;Ljava/lang/String;)Ljava/lang/String;" = some ⟨[.int, (.object "java/lang/String"), (.object "java/lang/String")], some (.object "java/lang/String")⟩ := by decide +kernel
def Q_law (Z : State) (p1 p2 p3 p4 cs : Int32) (h0 : Heap) (n0 : Nat) (v : Option Value) (h : Heap) (L : List Loc) : Prop := v = some (.int 1) ∧ Fr n0 L ∧ True
set_option maxRecDepth 65536 in
set_option maxHeartbeats 40000000 in
theorem rm_law (l : Launch) (Z : State) (a0 : Array Value) (hw : ∀ d ∈ own_words, d.before a0 Z = true) (ws : List Jvm.Cond) (p1 p2 p3 p4 cs : Int32) (h0 : Heap) (n0 : Nat) (Z0 : n0 ≤ h0.size) (O : Old Z n0 h0) (SC : Sta Z Z.heap "java/lang/String" "COMPACT_STRINGS" "Z" (.int cs)) (hcs : ¬ cs = 0) :
    Met l Z x code maxLocals ret ws room_1 #[(.int p1), (.int p2), (.int p3), (.int p4)] h0 (Q_law Z p1 p2 p3 p4 cs h0 n0) := by
  refine Met.start (plainFor_of_name pn_2) ?_
  intro p e s m below meth c T X hx hby hml hown hnm hret hlk hZ eT
  have N := Fr.nil n0
  refine Wout.cast (g' := (mkF m 0 #[.val (.int p1), .val (.int p2), .val (.int p3), .val (.int p4), .unset, .unset, .unset, .unset, .unset, .unset, .unset, .unset, .unset, .unset] [])) (by first | rfl | (simp [entryFrame, mkF, argsToLocals, Value.category, maxLocals]; done)) ?_
  have hws : ∀ d ∈ StrChars.Road.words, d.before a0 Z = true := fun d hd => hw d ((by decide +kernel : ∀ d ∈ StrChars.Road.words, d ∈ own_words) d hd)
  refine o_iconst X hx 1 (1 : Int32) (hb hby at_0) rfl rfl ?_
  refine o_iloadN X hx 2 (hb hby at_1) rfl rfl ?_
  refine o_ldc X hx hZ 4 hown (hw _ (List.mem_of_getElem? (i := 0) rfl)) (hb hby at_2) rfl ?_
  refine o_iand X hx 5 (hb hby at_4) rfl ?_
  refine o_iconst X hx 6 (3 : Int32) (hb hby at_5) rfl rfl ?_
  refine o_irem X hx 7 (hb hby at_6) (by decide) rfl ?_
  refine o_iadd X hx 8 (hb hby at_7) rfl ?_
  obtain ⟨n, h_n⟩ : ∃ z, z = ((1 : Int32) + ((p4 &&& (2147483647 : Int32)) % (3 : Int32))) := ⟨_, rfl⟩
  rw [← h_n]
  have hn := own_n p4
  rw [← h_n] at hn
  clear h_n
  refine o_istore X hx 10 (Ls' := #[.val (.int p1), .val (.int p2), .val (.int p3), .val (.int p4), .val (.int n), .unset, .unset, .unset, .unset, .unset, .unset, .unset, .unset, .unset]) (hb hby at_8) rfl rfl ?_
  refine o_iloadN X hx 11 (hb hby at_10) rfl rfl ?_
  refine o_bipush X hx 13 (8 : Int32) (hb hby at_11) rfl rfl ?_
  refine o_iushr X hx 14 (hb hby at_13) rfl ?_
  refine o_iconst X hx 15 (1 : Int32) (hb hby at_14) rfl rfl ?_
  refine o_iand X hx 16 (hb hby at_15) rfl ?_
  have J : ∀ u : Int32, (u = 0 ∨ (u = 1 ∧ ¬ n < 2)) → Wout p e below (Pst s (Q_law Z p1 p2 p3 p4 cs h0 n0) room_1.cells room_1.slots) T (mkF m 30 #[.val (.int p1), .val (.int p2), .val (.int p3), .val (.int p4), .val (.int n), .unset, .unset, .unset, .unset, .unset, .unset, .unset, .unset, .unset] [(.int u)]) := by
    intro u hu
    refine o_istore X hx 32 (Ls' := #[.val (.int p1), .val (.int p2), .val (.int p3), .val (.int p4), .val (.int n), .val (.int u), .unset, .unset, .unset, .unset, .unset, .unset, .unset, .unset]) (hb hby at_30) rfl rfl ?_
    refine o_new X hx hZ hown (hw _ (List.mem_of_getElem? (i := 1) rfl)) (hw _ (List.mem_of_getElem? (i := 2) rfl)) (hw _ (List.mem_of_getElem? (i := 3) rfl)) eT 35 (hb hby at_32) rfl (by decide) (by decide) (fun T h1 b1 hb1 X eT E A D => ?_)
    have g_b1 : n0 ≤ b1 := Nat.le_trans Z0 (Nat.le_of_eq hb1.symm)
    replace Z0 := Nat.le_trans Z0 E.1
    replace O := O.ext E
    have E_b1 := A
    have F_coder_b1 : Fld Z h1 b1 "java/lang/String" "coder" "B" (.int (0 : Int32)) := D (Or.inr (hw _ (List.mem_of_getElem? (i := 28) rfl))) (ty := .byte) (by decide)
    have F_value_b1 : Fld Z h1 b1 "java/lang/String" "value" "[B" .null := D (Or.inr (hw _ (List.mem_of_getElem? (i := 30) rfl))) (ty := (.array .byte)) (by decide)
    refine o_dup X hx 36 (hb hby at_35) rfl rfl ?_
    refine o_iconst X hx 37 (2 : Int32) (hb hby at_36) rfl rfl ?_
    refine o_newarray X hx hZ (hw _ (List.mem_of_getElem? (i := 4) rfl)) eT 39 (hb hby at_37) rfl (by decide) 2 (by decide) (by decide) (by decide) (by decide) (fun T h2 b2 k2 hb2 X eT E A => ?_)
    have ne_b1_b2 : b1 ≠ b2 := Nat.ne_of_lt (Nat.lt_of_lt_of_eq E_b1.lt hb2.symm)
    have g_b2 : n0 ≤ b2 := Nat.le_trans Z0 (Nat.le_of_eq hb2.symm)
    replace E_b1 := E_b1.ext E
    replace F_coder_b1 := F_coder_b1.ext E
    replace F_value_b1 := F_value_b1.ext E
    replace Z0 := Nat.le_trans Z0 E.1
    replace O := O.ext E
    have V_b2 : Arv Z h2 b2 k2 .char (2 : Int32) [(.int (0 : Int32)), (.int (0 : Int32))] (.int (0 : Int32)) := A.pad (pad_rep [] (.int (0 : Int32)) 2)
    refine o_dup X hx 40 (hb hby at_39) rfl rfl ?_
    refine o_iconst X hx 41 (0 : Int32) (hb hby at_40) rfl rfl ?_
    refine o_bipush X hx 43 (48 : Int32) (hb hby at_41) rfl rfl ?_
    refine o_castore X hx hZ eT V_b2 ⟨by decide, by decide⟩ 0 rfl (Nat.le_of_ble_eq_true rfl) (vs' := [(.int (nar .char (48 : Int32))), (.int (0 : Int32))]) rfl N g_b2 44 (hb hby at_43) rfl (fun T h3 locs X eT W V' N => ?_)
    replace E_b1 := E_b1.wr W
    replace F_coder_b1 := F_coder_b1.other W (Or.inl ne_b1_b2)
    replace F_value_b1 := F_value_b1.other W (Or.inl ne_b1_b2)
    replace Z0 := Nat.le_trans Z0 (Keep.of_wr W).1
    replace O := O.wr W g_b2
    replace V_b2 := V'
    refine o_dup X hx 45 (hb hby at_44) rfl rfl ?_
    refine o_iconst X hx 46 (1 : Int32) (hb hby at_45) rfl rfl ?_
    refine o_iloadN X hx 47 (hb hby at_46) rfl rfl ?_
    refine o_sipush X hx 50 (255 : Int32) (hb hby at_47) rfl rfl ?_
    refine o_iand X hx 51 (hb hby at_50) rfl ?_
    refine o_i2c X hx 52 (hb hby at_51) rfl ?_
    refine o_castore X hx hZ eT V_b2 ⟨by decide, by decide⟩ 1 rfl (Nat.le_of_ble_eq_true rfl) (vs' := [(.int (nar .char (48 : Int32))), (.int (nar .char (((p1 &&& (255 : Int32))).toUInt32.toUInt16.toUInt32.toInt32)))]) rfl N g_b2 53 (hb hby at_52) rfl (fun T h4 locs X eT W V' N => ?_)
    replace E_b1 := E_b1.wr W
    replace F_coder_b1 := F_coder_b1.other W (Or.inl ne_b1_b2)
    replace F_value_b1 := F_value_b1.other W (Or.inl ne_b1_b2)
    replace Z0 := Nat.le_trans Z0 (Keep.of_wr W).1
    replace O := O.wr W g_b2
    replace V_b2 := V'
    have V_c : Arv Z _ b2 k2 .char 2 ([(nar .char (48 : Int32)), (nar .char ((p1 &&& (255 : Int32)).toUInt32.toUInt16.toUInt32.toInt32))].map Value.int) (.int 0) := V_b2
    refine o_callIB X hx hZ rfl hown (hw _ (List.mem_of_getElem? (i := 5) rfl)) (hw _ (List.mem_of_getElem? (i := 6) rfl)) (hw _ (List.mem_of_getElem? (i := 7) rfl)) (by decide) (StrChars.Road.backV (W := 1) hZ hws (kI := 4) (hw _ (List.mem_of_getElem? (i := 2) rfl)) (cs := [(nar .char (48 : Int32)), (nar .char ((p1 &&& (255 : Int32)).toUInt32.toUInt16.toUInt32.toInt32))]) (bs := [(nar .char (48 : Int32)), (nar .char ((p1 &&& (255 : Int32)).toUInt32.toUInt16.toUInt32.toInt32))].map (fun c => c.toInt8.toInt32)) (n := 2) g_b1 Z0 E_b1 F_value_b1 F_coder_b1 V_c (SC.ext O.2) hcs rfl rfl (by decide) (by decide) (fun c hc => by simp only [List.mem_cons, List.not_mem_nil, or_false] at hc; rcases hc with rfl | rfl <;> first | decide | exact own_lat p1) rfl (by decide) (by decide)) eT (by rw [hml]; rfl) [(.ref b2)] (rest := [(.ref b1)]) (lenOf pd_1 rfl) rfl rfl (Nat.le_of_eq rfl) (by decide) (by decide) 56 (hb hby at_53) rfl (fun v T h5 Lc X eT q => ?_)
    obtain ⟨rfl, N', K1, E', -⟩ := q
    replace N := Fr.app N N'
    clear V_c V_b2
    replace Z0 := Nat.le_trans Z0 K1.1
    replace O := O.keep K1 (allS (P := fun x => n0 ≤ x) g_b1 all0)
    replace E_b1 := E'
    show Wout p e below _ T (mkF m 56 #[.val (.int p1), .val (.int p2), .val (.int p3), .val (.int p4), .val (.int n), .val (.int u), .unset, .unset, .unset, .unset, .unset, .unset, .unset, .unset] [(.ref b1)])
    refine o_astore X hx 58 (Ls' := #[.val (.int p1), .val (.int p2), .val (.int p3), .val (.int p4), .val (.int n), .val (.int u), .val (.ref b1), .unset, .unset, .unset, .unset, .unset, .unset, .unset]) (hb hby at_56) rfl rfl rfl ?_
    refine o_new X hx hZ hown (hw _ (List.mem_of_getElem? (i := 1) rfl)) (hw _ (List.mem_of_getElem? (i := 2) rfl)) (hw _ (List.mem_of_getElem? (i := 3) rfl)) eT 61 (hb hby at_58) rfl (by decide) (by decide) (fun T h6 b6 hb6 X eT E A D => ?_)
    have ne_b1_b6 : b1 ≠ b6 := Nat.ne_of_lt (Nat.lt_of_lt_of_eq E_b1.lt hb6.symm)
    have g_b6 : n0 ≤ b6 := Nat.le_trans Z0 (Nat.le_of_eq hb6.symm)
    replace E_b1 := E_b1.ext E
    replace Z0 := Nat.le_trans Z0 E.1
    replace O := O.ext E
    have E_b6 := A
    have F_coder_b6 : Fld Z h6 b6 "java/lang/String" "coder" "B" (.int (0 : Int32)) := D (Or.inr (hw _ (List.mem_of_getElem? (i := 28) rfl))) (ty := .byte) (by decide)
    have F_value_b6 : Fld Z h6 b6 "java/lang/String" "value" "[B" .null := D (Or.inr (hw _ (List.mem_of_getElem? (i := 30) rfl))) (ty := (.array .byte)) (by decide)
    refine o_dup X hx 62 (hb hby at_61) rfl rfl ?_
    refine o_iconst X hx 63 (2 : Int32) (hb hby at_62) rfl rfl ?_
    refine o_newarray X hx hZ (hw _ (List.mem_of_getElem? (i := 4) rfl)) eT 65 (hb hby at_63) rfl (by decide) 2 (by decide) (by decide) (by decide) (by decide) (fun T h7 b7 k7 hb7 X eT E A => ?_)
    have ne_b1_b7 : b1 ≠ b7 := Nat.ne_of_lt (Nat.lt_of_lt_of_eq E_b1.lt hb7.symm)
    have ne_b6_b7 : b6 ≠ b7 := Nat.ne_of_lt (Nat.lt_of_lt_of_eq E_b6.lt hb7.symm)
    have g_b7 : n0 ≤ b7 := Nat.le_trans Z0 (Nat.le_of_eq hb7.symm)
    replace E_b1 := E_b1.ext E
    replace E_b6 := E_b6.ext E
    replace F_coder_b6 := F_coder_b6.ext E
    replace F_value_b6 := F_value_b6.ext E
    replace Z0 := Nat.le_trans Z0 E.1
    replace O := O.ext E
    have V_b7 : Arv Z h7 b7 k7 .char (2 : Int32) [(.int (0 : Int32)), (.int (0 : Int32))] (.int (0 : Int32)) := A.pad (pad_rep [] (.int (0 : Int32)) 2)
    refine o_dup X hx 66 (hb hby at_65) rfl rfl ?_
    refine o_iconst X hx 67 (0 : Int32) (hb hby at_66) rfl rfl ?_
    refine o_bipush X hx 69 (49 : Int32) (hb hby at_67) rfl rfl ?_
    refine o_castore X hx hZ eT V_b7 ⟨by decide, by decide⟩ 0 rfl (Nat.le_of_ble_eq_true rfl) (vs' := [(.int (nar .char (49 : Int32))), (.int (0 : Int32))]) rfl N g_b7 70 (hb hby at_69) rfl (fun T h8 locs X eT W V' N => ?_)
    replace E_b1 := E_b1.wr W
    replace E_b6 := E_b6.wr W
    replace F_coder_b6 := F_coder_b6.other W (Or.inl ne_b6_b7)
    replace F_value_b6 := F_value_b6.other W (Or.inl ne_b6_b7)
    replace Z0 := Nat.le_trans Z0 (Keep.of_wr W).1
    replace O := O.wr W g_b7
    replace V_b7 := V'
    refine o_dup X hx 71 (hb hby at_70) rfl rfl ?_
    refine o_iconst X hx 72 (1 : Int32) (hb hby at_71) rfl rfl ?_
    refine o_iloadN X hx 73 (hb hby at_72) rfl rfl ?_
    refine o_sipush X hx 76 (255 : Int32) (hb hby at_73) rfl rfl ?_
    refine o_iand X hx 77 (hb hby at_76) rfl ?_
    refine o_i2c X hx 78 (hb hby at_77) rfl ?_
    refine o_castore X hx hZ eT V_b7 ⟨by decide, by decide⟩ 1 rfl (Nat.le_of_ble_eq_true rfl) (vs' := [(.int (nar .char (49 : Int32))), (.int (nar .char (((p2 &&& (255 : Int32))).toUInt32.toUInt16.toUInt32.toInt32)))]) rfl N g_b7 79 (hb hby at_78) rfl (fun T h9 locs X eT W V' N => ?_)
    replace E_b1 := E_b1.wr W
    replace E_b6 := E_b6.wr W
    replace F_coder_b6 := F_coder_b6.other W (Or.inl ne_b6_b7)
    replace F_value_b6 := F_value_b6.other W (Or.inl ne_b6_b7)
    replace Z0 := Nat.le_trans Z0 (Keep.of_wr W).1
    replace O := O.wr W g_b7
    replace V_b7 := V'
    have V_c : Arv Z _ b7 k7 .char 2 ([(nar .char (49 : Int32)), (nar .char ((p2 &&& (255 : Int32)).toUInt32.toUInt16.toUInt32.toInt32))].map Value.int) (.int 0) := V_b7
    refine o_callIB X hx hZ rfl hown (hw _ (List.mem_of_getElem? (i := 5) rfl)) (hw _ (List.mem_of_getElem? (i := 6) rfl)) (hw _ (List.mem_of_getElem? (i := 7) rfl)) (by decide) (StrChars.Road.backV (W := 1) hZ hws (kI := 4) (hw _ (List.mem_of_getElem? (i := 2) rfl)) (cs := [(nar .char (49 : Int32)), (nar .char ((p2 &&& (255 : Int32)).toUInt32.toUInt16.toUInt32.toInt32))]) (bs := [(nar .char (49 : Int32)), (nar .char ((p2 &&& (255 : Int32)).toUInt32.toUInt16.toUInt32.toInt32))].map (fun c => c.toInt8.toInt32)) (n := 2) g_b6 Z0 E_b6 F_value_b6 F_coder_b6 V_c (SC.ext O.2) hcs rfl rfl (by decide) (by decide) (fun c hc => by simp only [List.mem_cons, List.not_mem_nil, or_false] at hc; rcases hc with rfl | rfl <;> first | decide | exact own_lat p2) rfl (by decide) (by decide)) eT (by rw [hml]; rfl) [(.ref b7)] (rest := [(.ref b6)]) (lenOf pd_1 rfl) rfl rfl (Nat.le_of_eq rfl) (by decide) (by decide) 82 (hb hby at_79) rfl (fun v T h10 Lc X eT q => ?_)
    obtain ⟨rfl, N', K1, E', -⟩ := q
    replace N := Fr.app N N'
    clear V_c V_b7
    replace E_b1 := E_b1.keep K1
    replace Z0 := Nat.le_trans Z0 K1.1
    replace O := O.keep K1 (allS (P := fun x => n0 ≤ x) g_b6 all0)
    replace E_b6 := E'
    show Wout p e below _ T (mkF m 82 #[.val (.int p1), .val (.int p2), .val (.int p3), .val (.int p4), .val (.int n), .val (.int u), .val (.ref b1), .unset, .unset, .unset, .unset, .unset, .unset, .unset] [(.ref b6)])
    refine o_astore X hx 84 (Ls' := #[.val (.int p1), .val (.int p2), .val (.int p3), .val (.int p4), .val (.int n), .val (.int u), .val (.ref b1), .val (.ref b6), .unset, .unset, .unset, .unset, .unset, .unset]) (hb hby at_82) rfl rfl rfl ?_
    refine o_new X hx hZ hown (hw _ (List.mem_of_getElem? (i := 1) rfl)) (hw _ (List.mem_of_getElem? (i := 2) rfl)) (hw _ (List.mem_of_getElem? (i := 3) rfl)) eT 87 (hb hby at_84) rfl (by decide) (by decide) (fun T h11 b11 hb11 X eT E A D => ?_)
    have ne_b1_b11 : b1 ≠ b11 := Nat.ne_of_lt (Nat.lt_of_lt_of_eq E_b1.lt hb11.symm)
    have ne_b6_b11 : b6 ≠ b11 := Nat.ne_of_lt (Nat.lt_of_lt_of_eq E_b6.lt hb11.symm)
    have g_b11 : n0 ≤ b11 := Nat.le_trans Z0 (Nat.le_of_eq hb11.symm)
    replace E_b1 := E_b1.ext E
    replace E_b6 := E_b6.ext E
    replace Z0 := Nat.le_trans Z0 E.1
    replace O := O.ext E
    have E_b11 := A
    have F_coder_b11 : Fld Z h11 b11 "java/lang/String" "coder" "B" (.int (0 : Int32)) := D (Or.inr (hw _ (List.mem_of_getElem? (i := 28) rfl))) (ty := .byte) (by decide)
    have F_value_b11 : Fld Z h11 b11 "java/lang/String" "value" "[B" .null := D (Or.inr (hw _ (List.mem_of_getElem? (i := 30) rfl))) (ty := (.array .byte)) (by decide)
    refine o_dup X hx 88 (hb hby at_87) rfl rfl ?_
    refine o_iconst X hx 89 (2 : Int32) (hb hby at_88) rfl rfl ?_
    refine o_newarray X hx hZ (hw _ (List.mem_of_getElem? (i := 4) rfl)) eT 91 (hb hby at_89) rfl (by decide) 2 (by decide) (by decide) (by decide) (by decide) (fun T h12 b12 k12 hb12 X eT E A => ?_)
    have ne_b1_b12 : b1 ≠ b12 := Nat.ne_of_lt (Nat.lt_of_lt_of_eq E_b1.lt hb12.symm)
    have ne_b6_b12 : b6 ≠ b12 := Nat.ne_of_lt (Nat.lt_of_lt_of_eq E_b6.lt hb12.symm)
    have ne_b11_b12 : b11 ≠ b12 := Nat.ne_of_lt (Nat.lt_of_lt_of_eq E_b11.lt hb12.symm)
    have g_b12 : n0 ≤ b12 := Nat.le_trans Z0 (Nat.le_of_eq hb12.symm)
    replace E_b1 := E_b1.ext E
    replace E_b6 := E_b6.ext E
    replace E_b11 := E_b11.ext E
    replace F_coder_b11 := F_coder_b11.ext E
    replace F_value_b11 := F_value_b11.ext E
    replace Z0 := Nat.le_trans Z0 E.1
    replace O := O.ext E
    have V_b12 : Arv Z h12 b12 k12 .char (2 : Int32) [(.int (0 : Int32)), (.int (0 : Int32))] (.int (0 : Int32)) := A.pad (pad_rep [] (.int (0 : Int32)) 2)
    refine o_dup X hx 92 (hb hby at_91) rfl rfl ?_
    refine o_iconst X hx 93 (0 : Int32) (hb hby at_92) rfl rfl ?_
    refine o_bipush X hx 95 (50 : Int32) (hb hby at_93) rfl rfl ?_
    refine o_castore X hx hZ eT V_b12 ⟨by decide, by decide⟩ 0 rfl (Nat.le_of_ble_eq_true rfl) (vs' := [(.int (nar .char (50 : Int32))), (.int (0 : Int32))]) rfl N g_b12 96 (hb hby at_95) rfl (fun T h13 locs X eT W V' N => ?_)
    replace E_b1 := E_b1.wr W
    replace E_b6 := E_b6.wr W
    replace E_b11 := E_b11.wr W
    replace F_coder_b11 := F_coder_b11.other W (Or.inl ne_b11_b12)
    replace F_value_b11 := F_value_b11.other W (Or.inl ne_b11_b12)
    replace Z0 := Nat.le_trans Z0 (Keep.of_wr W).1
    replace O := O.wr W g_b12
    replace V_b12 := V'
    refine o_dup X hx 97 (hb hby at_96) rfl rfl ?_
    refine o_iconst X hx 98 (1 : Int32) (hb hby at_97) rfl rfl ?_
    refine o_iloadN X hx 99 (hb hby at_98) rfl rfl ?_
    refine o_sipush X hx 102 (255 : Int32) (hb hby at_99) rfl rfl ?_
    refine o_iand X hx 103 (hb hby at_102) rfl ?_
    refine o_i2c X hx 104 (hb hby at_103) rfl ?_
    refine o_castore X hx hZ eT V_b12 ⟨by decide, by decide⟩ 1 rfl (Nat.le_of_ble_eq_true rfl) (vs' := [(.int (nar .char (50 : Int32))), (.int (nar .char (((p3 &&& (255 : Int32))).toUInt32.toUInt16.toUInt32.toInt32)))]) rfl N g_b12 105 (hb hby at_104) rfl (fun T h14 locs X eT W V' N => ?_)
    replace E_b1 := E_b1.wr W
    replace E_b6 := E_b6.wr W
    replace E_b11 := E_b11.wr W
    replace F_coder_b11 := F_coder_b11.other W (Or.inl ne_b11_b12)
    replace F_value_b11 := F_value_b11.other W (Or.inl ne_b11_b12)
    replace Z0 := Nat.le_trans Z0 (Keep.of_wr W).1
    replace O := O.wr W g_b12
    replace V_b12 := V'
    have V_c : Arv Z _ b12 k12 .char 2 ([(nar .char (50 : Int32)), (nar .char ((p3 &&& (255 : Int32)).toUInt32.toUInt16.toUInt32.toInt32))].map Value.int) (.int 0) := V_b12
    refine o_callIB X hx hZ rfl hown (hw _ (List.mem_of_getElem? (i := 5) rfl)) (hw _ (List.mem_of_getElem? (i := 6) rfl)) (hw _ (List.mem_of_getElem? (i := 7) rfl)) (by decide) (StrChars.Road.backV (W := 1) hZ hws (kI := 4) (hw _ (List.mem_of_getElem? (i := 2) rfl)) (cs := [(nar .char (50 : Int32)), (nar .char ((p3 &&& (255 : Int32)).toUInt32.toUInt16.toUInt32.toInt32))]) (bs := [(nar .char (50 : Int32)), (nar .char ((p3 &&& (255 : Int32)).toUInt32.toUInt16.toUInt32.toInt32))].map (fun c => c.toInt8.toInt32)) (n := 2) g_b11 Z0 E_b11 F_value_b11 F_coder_b11 V_c (SC.ext O.2) hcs rfl rfl (by decide) (by decide) (fun c hc => by simp only [List.mem_cons, List.not_mem_nil, or_false] at hc; rcases hc with rfl | rfl <;> first | decide | exact own_lat p3) rfl (by decide) (by decide)) eT (by rw [hml]; rfl) [(.ref b12)] (rest := [(.ref b11)]) (lenOf pd_1 rfl) rfl rfl (Nat.le_of_eq rfl) (by decide) (by decide) 108 (hb hby at_105) rfl (fun v T h15 Lc X eT q => ?_)
    obtain ⟨rfl, N', K1, E', -⟩ := q
    replace N := Fr.app N N'
    clear V_c V_b12
    replace E_b1 := E_b1.keep K1
    replace E_b6 := E_b6.keep K1
    replace Z0 := Nat.le_trans Z0 K1.1
    replace O := O.keep K1 (allS (P := fun x => n0 ≤ x) g_b11 all0)
    replace E_b11 := E'
    show Wout p e below _ T (mkF m 108 #[.val (.int p1), .val (.int p2), .val (.int p3), .val (.int p4), .val (.int n), .val (.int u), .val (.ref b1), .val (.ref b6), .unset, .unset, .unset, .unset, .unset, .unset] [(.ref b11)])
    refine o_astore X hx 110 (Ls' := #[.val (.int p1), .val (.int p2), .val (.int p3), .val (.int p4), .val (.int n), .val (.int u), .val (.ref b1), .val (.ref b6), .val (.ref b11), .unset, .unset, .unset, .unset, .unset]) (hb hby at_108) rfl rfl rfl ?_
    rcases hn with rfl | rfl | rfl
    · show Wout p e below _ T (mkF m 110 #[.val (.int p1), .val (.int p2), .val (.int p3), .val (.int p4), .val (.int (1 : Int32)), .val (.int u), .val (.ref b1), .val (.ref b6), .val (.ref b11), .unset, .unset, .unset, .unset, .unset] [])
      rcases hu with rfl | ⟨rfl, hu⟩
      · show Wout p e below _ T (mkF m 110 #[.val (.int p1), .val (.int p2), .val (.int p3), .val (.int p4), .val (.int (1 : Int32)), .val (.int (0 : Int32)), .val (.ref b1), .val (.ref b6), .val (.ref b11), .unset, .unset, .unset, .unset, .unset] [])
        refine o_iload X hx 112 (hb hby at_110) rfl rfl ?_
        refine o_anewarray X hx hZ hown (hw _ (List.mem_of_getElem? (i := 1) rfl)) (hw _ (List.mem_of_getElem? (i := 31) rfl)) eT 115 (hb hby at_112) rfl (by decide) 1 (by decide) (by decide) (by decide) (by decide) (fun T h16 b16 k16 hb16 X eT E A Ov16 => ?_)
        have ne_b1_b16 : b1 ≠ b16 := Nat.ne_of_lt (Nat.lt_of_lt_of_eq E_b1.lt hb16.symm)
        have ne_b6_b16 : b6 ≠ b16 := Nat.ne_of_lt (Nat.lt_of_lt_of_eq E_b6.lt hb16.symm)
        have ne_b11_b16 : b11 ≠ b16 := Nat.ne_of_lt (Nat.lt_of_lt_of_eq E_b11.lt hb16.symm)
        have g_b16 : n0 ≤ b16 := Nat.le_trans Z0 (Nat.le_of_eq hb16.symm)
        replace E_b1 := E_b1.ext E
        replace E_b6 := E_b6.ext E
        replace E_b11 := E_b11.ext E
        replace Z0 := Nat.le_trans Z0 E.1
        replace O := O.ext E
        have V_b16 : Arv Z h16 b16 k16 (.object "java/lang/String") (1 : Int32) [.null] .null := A.pad (pad_rep [] .null 1)
        refine o_astore X hx 117 (Ls' := #[.val (.int p1), .val (.int p2), .val (.int p3), .val (.int p4), .val (.int (1 : Int32)), .val (.int (0 : Int32)), .val (.ref b1), .val (.ref b6), .val (.ref b11), .val (.ref b16), .unset, .unset, .unset, .unset]) (hb hby at_115) rfl rfl rfl ?_
        refine o_aload X hx 119 (hb hby at_117) rfl rfl rfl ?_
        refine o_iconst X hx 120 (0 : Int32) (hb hby at_119) rfl rfl ?_
        refine o_aload X hx 122 (hb hby at_120) rfl rfl rfl ?_
        refine o_aastore X hx hZ eT V_b16 rfl ⟨by decide, by decide⟩ 0 rfl (Nat.le_of_ble_eq_true rfl) (vs' := [(.ref b1)]) rfl rfl (Sto.arv V_b16 Ov16 (Ins.self E_b1)) N g_b16 123 (hb hby at_122) rfl (fun T h17 locs X eT W V' N => ?_)
        replace E_b1 := E_b1.wr W
        replace E_b6 := E_b6.wr W
        replace E_b11 := E_b11.wr W
        replace Z0 := Nat.le_trans Z0 (Keep.of_wr W).1
        replace O := O.wr W g_b16
        replace V_b16 := V'
        refine o_iload X hx 125 (hb hby at_123) rfl rfl ?_
        refine o_iconst X hx 126 (2 : Int32) (hb hby at_125) rfl rfl ?_
        refine o_icmpT X hx 135 (hb hby at_126) rfl (by decide : (1 : Int32) < (2 : Int32)) ?_
        refine o_iload X hx 137 (hb hby at_135) rfl rfl ?_
        refine o_iconst X hx 138 (3 : Int32) (hb hby at_137) rfl rfl ?_
        refine o_icmpT X hx 147 (hb hby at_138) rfl (by decide : (1 : Int32) < (3 : Int32)) ?_
        refine o_new X hx hZ hown (hw _ (List.mem_of_getElem? (i := 32) rfl)) (hw _ (List.mem_of_getElem? (i := 33) rfl)) (hw _ (List.mem_of_getElem? (i := 34) rfl)) eT 150 (hb hby at_147) rfl (by decide) (by decide) (fun T h18 b18 hb18 X eT E A D => ?_)
        have ne_b1_b18 : b1 ≠ b18 := Nat.ne_of_lt (Nat.lt_of_lt_of_eq E_b1.lt hb18.symm)
        have ne_b6_b18 : b6 ≠ b18 := Nat.ne_of_lt (Nat.lt_of_lt_of_eq E_b6.lt hb18.symm)
        have ne_b11_b18 : b11 ≠ b18 := Nat.ne_of_lt (Nat.lt_of_lt_of_eq E_b11.lt hb18.symm)
        have ne_b16_b18 : b16 ≠ b18 := Nat.ne_of_lt (Nat.lt_of_lt_of_eq V_b16.lt hb18.symm)
        have g_b18 : n0 ≤ b18 := Nat.le_trans Z0 (Nat.le_of_eq hb18.symm)
        replace E_b1 := E_b1.ext E
        replace E_b6 := E_b6.ext E
        replace E_b11 := E_b11.ext E
        replace V_b16 := V_b16.ext E
        replace Z0 := Nat.le_trans Z0 E.1
        replace O := O.ext E
        have E_b18 := A
        have F__args_b18 : Fld Z h18 b18 "com/example/varasto/varasto/util/OptionReader" "_args" "[Ljava/lang/String;" .null := D (Or.inr (hw _ (List.mem_of_getElem? (i := 40) rfl))) (ty := (.array (.object "java/lang/String"))) (by decide)
        have F__next_b18 : Fld Z h18 b18 "com/example/varasto/varasto/util/OptionReader" "_next" "I" (.int (0 : Int32)) := D (Or.inl (hw _ (List.mem_of_getElem? (i := 47) rfl))) (ty := .int) (by decide)
        have F__option_b18 : Fld Z h18 b18 "com/example/varasto/varasto/util/OptionReader" "_option" "Ljava/lang/String;" .null := D (Or.inl (hw _ (List.mem_of_getElem? (i := 54) rfl))) (ty := (.object "java/lang/String")) (by decide)
        refine o_dup X hx 151 (hb hby at_150) rfl rfl ?_
        refine o_aload X hx 153 (hb hby at_151) rfl rfl rfl ?_
        refine o_callI X hx hZ rfl hown (hw _ (List.mem_of_getElem? (i := 35) rfl)) (hw _ (List.mem_of_getElem? (i := 36) rfl)) (hw _ (List.mem_of_getElem? (i := 34) rfl)) (hw _ (List.mem_of_getElem? (i := 37) rfl)) (by decide) (rm_oin l Z a0 hw [] b18 b16 _ _ n0 Z0 E_b18 F__args_b18 F__next_b18 F__option_b18 g_b18) eT (by decide) 1 (by decide) (by rw [hml]; rfl) [(.ref b16)] (rest := [(.ref b18)]) (lenOf pd_2 rfl) rfl rfl (Nat.le_of_eq rfl) (by decide) (by decide) 156 (hb hby at_153) rfl (fun v T h19 Lc X eT q => ?_)
        obtain ⟨rfl, N', K1, E', G1, G2, G3⟩ := q
        replace N := Fr.app N N'
        replace E_b1 := E_b1.keep K1
        replace E_b6 := E_b6.keep K1
        replace E_b11 := E_b11.keep K1
        replace V_b16 := V_b16.keep K1 (ninS ne_b16_b18 nin0)
        replace Z0 := Nat.le_trans Z0 K1.1
        replace O := O.keep K1 (allS (P := fun x => n0 ≤ x) g_b18 all0)
        replace E_b18 := E'
        have F1 := G1
        have F2 := G2
        have F3 := G3
        show Wout p e below _ T (mkF m 156 #[.val (.int p1), .val (.int p2), .val (.int p3), .val (.int p4), .val (.int (1 : Int32)), .val (.int (0 : Int32)), .val (.ref b1), .val (.ref b6), .val (.ref b11), .val (.ref b16), .unset, .unset, .unset, .unset] [(.ref b18)])
        refine o_astore X hx 158 (Ls' := #[.val (.int p1), .val (.int p2), .val (.int p3), .val (.int p4), .val (.int (1 : Int32)), .val (.int (0 : Int32)), .val (.ref b1), .val (.ref b6), .val (.ref b11), .val (.ref b16), .val (.ref b18), .unset, .unset, .unset]) (hb hby at_156) rfl rfl rfl ?_
        refine o_aload X hx 160 (hb hby at_158) rfl rfl rfl ?_
        refine o_callV X hx hZ hown (hw _ (List.mem_of_getElem? (i := 41) rfl)) (hw _ (List.mem_of_getElem? (i := 42) rfl)) (hw _ (List.mem_of_getElem? (i := 44) rfl)) (hw _ (List.mem_of_getElem? (i := 43) rfl)) (hw _ (List.mem_of_getElem? (i := 34) rfl)) (hw _ (List.mem_of_getElem? (i := 45) rfl)) (by decide) (rm_has1 l Z a0 hw [] b18 b16 k16 (0 : Int32) (1 : Int32) [(.ref b1)] _ n0 Z0 F1 F2 V_b16 (by decide)) eT (by decide) 0 (by decide) (by rw [hml]; rfl) E_b18 [] (rest := []) (lenOf pd_0 rfl) rfl rfl (Nat.le_of_eq rfl) (by decide) (by decide) 163 (hb hby at_160) rfl (fun v T h20 Lc X eT q => ?_)
        obtain ⟨rfl, N', e'⟩ := q
        replace N := Fr.app N N'
        replace eT := eT.trans e'
        show Wout p e below _ T (mkF m 163 #[.val (.int p1), .val (.int p2), .val (.int p3), .val (.int p4), .val (.int (1 : Int32)), .val (.int (0 : Int32)), .val (.ref b1), .val (.ref b6), .val (.ref b11), .val (.ref b16), .val (.ref b18), .unset, .unset, .unset] [(.int (1 : Int32))])
        refine o_ifT X hx 168 (hb hby at_163) rfl (by decide : ¬ (1 : Int32) = (0 : Int32)) ?_
        refine o_aload X hx 170 (hb hby at_168) rfl rfl rfl ?_
        refine o_callV X hx hZ hown (hw _ (List.mem_of_getElem? (i := 48) rfl)) (hw _ (List.mem_of_getElem? (i := 49) rfl)) (hw _ (List.mem_of_getElem? (i := 51) rfl)) (hw _ (List.mem_of_getElem? (i := 50) rfl)) (hw _ (List.mem_of_getElem? (i := 34) rfl)) (hw _ (List.mem_of_getElem? (i := 52) rfl)) (by decide) (rm_nxt l Z a0 hw [] b18 b16 b1 k16 (0 : Int32) (1 : Int32) (1 : Int32) [(.ref b1)] _ _ n0 Z0 E_b18 F1 F2 V_b16 F3 g_b18 ne_b16_b18 (by decide) rfl (by decide)) eT (by decide) 0 (by decide) (by rw [hml]; rfl) E_b18 [] (rest := []) (lenOf pd_3 rfl) rfl rfl (Nat.le_of_eq rfl) (by decide) (by decide) 173 (hb hby at_170) rfl (fun v T h21 Lc X eT q => ?_)
        obtain ⟨u', rfl, N', K1, E', G1, G2, G3⟩ := q
        replace N := Fr.app N N'
        replace E_b1 := E_b1.keep K1
        replace E_b6 := E_b6.keep K1
        replace E_b11 := E_b11.keep K1
        replace V_b16 := V_b16.keep K1 (ninS ne_b16_b18 nin0)
        replace Z0 := Nat.le_trans Z0 K1.1
        replace O := O.keep K1 (allS (P := fun x => n0 ≤ x) g_b18 all0)
        replace E_b18 := E'
        replace F1 := G1
        replace F2 := G2
        replace F3 := G3
        show Wout p e below _ T (mkF m 173 #[.val (.int p1), .val (.int p2), .val (.int p3), .val (.int p4), .val (.int (1 : Int32)), .val (.int (0 : Int32)), .val (.ref b1), .val (.ref b6), .val (.ref b11), .val (.ref b16), .val (.ref b18), .unset, .unset, .unset] [(.ref b1)])
        refine o_astore X hx 175 (Ls' := #[.val (.int p1), .val (.int p2), .val (.int p3), .val (.int p4), .val (.int (1 : Int32)), .val (.int (0 : Int32)), .val (.ref b1), .val (.ref b6), .val (.ref b11), .val (.ref b16), .val (.ref b18), .val (.ref b1), .unset, .unset]) (hb hby at_173) rfl rfl rfl ?_
        refine o_aload X hx 177 (hb hby at_175) rfl rfl rfl ?_
        refine o_aload X hx 179 (hb hby at_177) rfl rfl rfl ?_
        refine o_callV X hx hZ hown (hw _ (List.mem_of_getElem? (i := 55) rfl)) (hw _ (List.mem_of_getElem? (i := 56) rfl)) (hw _ (List.mem_of_getElem? (i := 58) rfl)) (hw _ (List.mem_of_getElem? (i := 57) rfl)) (hw _ (List.mem_of_getElem? (i := 3) rfl)) (hw _ (List.mem_of_getElem? (i := 59) rfl)) (by decide) (rm_seq l Z a0 hw [] b1 _ n0 Z0) eT (by decide) 0 (by decide) (by rw [hml]; rfl) E_b1 [(.ref b1)] (rest := []) (lenOf pd_4 rfl) rfl rfl (Nat.le_of_eq rfl) (by decide) (by decide) 182 (hb hby at_179) rfl (fun v T h22 Lc X eT q => ?_)
        obtain ⟨rfl, N', e'⟩ := q
        replace N := Fr.app N N'
        replace eT := eT.trans e'
        show Wout p e below _ T (mkF m 182 #[.val (.int p1), .val (.int p2), .val (.int p3), .val (.int p4), .val (.int (1 : Int32)), .val (.int (0 : Int32)), .val (.ref b1), .val (.ref b6), .val (.ref b11), .val (.ref b16), .val (.ref b18), .val (.ref b1), .unset, .unset] [(.int (1 : Int32))])
        refine o_ifT X hx 187 (hb hby at_182) rfl (by decide : ¬ (1 : Int32) = (0 : Int32)) ?_
        refine o_iconst X hx 188 (1 : Int32) (hb hby at_187) rfl rfl ?_
        refine o_istore X hx 190 (Ls' := #[.val (.int p1), .val (.int p2), .val (.int p3), .val (.int p4), .val (.int (1 : Int32)), .val (.int (0 : Int32)), .val (.ref b1), .val (.ref b6), .val (.ref b11), .val (.ref b16), .val (.ref b18), .val (.ref b1), .val (.int (1 : Int32)), .unset]) (hb hby at_188) rfl rfl ?_
        refine o_iload X hx 192 (hb hby at_190) rfl rfl ?_
        refine o_ifT X hx 217 (hb hby at_192) rfl (by decide : (0 : Int32) = (0 : Int32)) ?_
        refine o_iload X hx 219 (hb hby at_217) rfl rfl ?_
        refine o_iload X hx 221 (hb hby at_219) rfl rfl ?_
        refine o_icmpT X hx 266 (hb hby at_221) rfl (by decide : ¬ (1 : Int32) < (1 : Int32)) ?_
        refine o_iload X hx 268 (hb hby at_266) rfl rfl ?_
        refine o_iload X hx 270 (hb hby at_268) rfl rfl ?_
        refine o_icmpT X hx 315 (hb hby at_270) rfl (by decide : ¬ (1 : Int32) < (1 : Int32)) ?_
        refine o_aload X hx 317 (hb hby at_315) rfl rfl rfl ?_
        refine o_callV X hx hZ hown (hw _ (List.mem_of_getElem? (i := 41) rfl)) (hw _ (List.mem_of_getElem? (i := 42) rfl)) (hw _ (List.mem_of_getElem? (i := 44) rfl)) (hw _ (List.mem_of_getElem? (i := 43) rfl)) (hw _ (List.mem_of_getElem? (i := 34) rfl)) (hw _ (List.mem_of_getElem? (i := 45) rfl)) (by decide) (rm_has0 l Z a0 hw [] b18 b16 k16 (1 : Int32) (1 : Int32) [(.ref b1)] _ n0 Z0 F1 F2 V_b16 (by decide)) eT (by decide) 0 (by decide) (by rw [hml]; rfl) E_b18 [] (rest := []) (lenOf pd_0 rfl) rfl rfl (Nat.le_of_eq rfl) (by decide) (by decide) 320 (hb hby at_317) rfl (fun v T h23 Lc X eT q => ?_)
        obtain ⟨rfl, N', e'⟩ := q
        replace N := Fr.app N N'
        replace eT := eT.trans e'
        show Wout p e below _ T (mkF m 320 #[.val (.int p1), .val (.int p2), .val (.int p3), .val (.int p4), .val (.int (1 : Int32)), .val (.int (0 : Int32)), .val (.ref b1), .val (.ref b6), .val (.ref b11), .val (.ref b16), .val (.ref b18), .val (.ref b1), .val (.int (1 : Int32)), .unset] [(.int (0 : Int32))])
        refine o_ifF X hx 323 (hb hby at_320) rfl (by decide : (0 : Int32) = (0 : Int32)) ?_
        refine o_iconst X hx 324 (1 : Int32) (hb hby at_323) rfl rfl ?_
        refine o_goto X hx 328 (hb hby at_324) rfl ?_
        exact o_retI X hx hlk hret rfl (by simp) (hb hby at_328) (by decide) (by decide) (by rw [eT]; exact ⟨rfl, N, trivial⟩)
      · exact absurd (by decide) hu
    · show Wout p e below _ T (mkF m 110 #[.val (.int p1), .val (.int p2), .val (.int p3), .val (.int p4), .val (.int (2 : Int32)), .val (.int u), .val (.ref b1), .val (.ref b6), .val (.ref b11), .unset, .unset, .unset, .unset, .unset] [])
      rcases hu with rfl | ⟨rfl, hu⟩
      · show Wout p e below _ T (mkF m 110 #[.val (.int p1), .val (.int p2), .val (.int p3), .val (.int p4), .val (.int (2 : Int32)), .val (.int (0 : Int32)), .val (.ref b1), .val (.ref b6), .val (.ref b11), .unset, .unset, .unset, .unset, .unset] [])
        refine o_iload X hx 112 (hb hby at_110) rfl rfl ?_
        refine o_anewarray X hx hZ hown (hw _ (List.mem_of_getElem? (i := 1) rfl)) (hw _ (List.mem_of_getElem? (i := 31) rfl)) eT 115 (hb hby at_112) rfl (by decide) 2 (by decide) (by decide) (by decide) (by decide) (fun T h24 b24 k24 hb24 X eT E A Ov24 => ?_)
        have ne_b1_b24 : b1 ≠ b24 := Nat.ne_of_lt (Nat.lt_of_lt_of_eq E_b1.lt hb24.symm)
        have ne_b6_b24 : b6 ≠ b24 := Nat.ne_of_lt (Nat.lt_of_lt_of_eq E_b6.lt hb24.symm)
        have ne_b11_b24 : b11 ≠ b24 := Nat.ne_of_lt (Nat.lt_of_lt_of_eq E_b11.lt hb24.symm)
        have g_b24 : n0 ≤ b24 := Nat.le_trans Z0 (Nat.le_of_eq hb24.symm)
        replace E_b1 := E_b1.ext E
        replace E_b6 := E_b6.ext E
        replace E_b11 := E_b11.ext E
        replace Z0 := Nat.le_trans Z0 E.1
        replace O := O.ext E
        have V_b24 : Arv Z h24 b24 k24 (.object "java/lang/String") (2 : Int32) [.null, .null] .null := A.pad (pad_rep [] .null 2)
        refine o_astore X hx 117 (Ls' := #[.val (.int p1), .val (.int p2), .val (.int p3), .val (.int p4), .val (.int (2 : Int32)), .val (.int (0 : Int32)), .val (.ref b1), .val (.ref b6), .val (.ref b11), .val (.ref b24), .unset, .unset, .unset, .unset]) (hb hby at_115) rfl rfl rfl ?_
        refine o_aload X hx 119 (hb hby at_117) rfl rfl rfl ?_
        refine o_iconst X hx 120 (0 : Int32) (hb hby at_119) rfl rfl ?_
        refine o_aload X hx 122 (hb hby at_120) rfl rfl rfl ?_
        refine o_aastore X hx hZ eT V_b24 rfl ⟨by decide, by decide⟩ 0 rfl (Nat.le_of_ble_eq_true rfl) (vs' := [(.ref b1), .null]) rfl rfl (Sto.arv V_b24 Ov24 (Ins.self E_b1)) N g_b24 123 (hb hby at_122) rfl (fun T h25 locs X eT W V' N => ?_)
        replace E_b1 := E_b1.wr W
        replace E_b6 := E_b6.wr W
        replace E_b11 := E_b11.wr W
        replace Z0 := Nat.le_trans Z0 (Keep.of_wr W).1
        replace O := O.wr W g_b24
        replace V_b24 := V'
        refine o_iload X hx 125 (hb hby at_123) rfl rfl ?_
        refine o_iconst X hx 126 (2 : Int32) (hb hby at_125) rfl rfl ?_
        refine o_icmpF X hx 129 (hb hby at_126) rfl (by decide : ¬ (2 : Int32) < (2 : Int32)) ?_
        refine o_aload X hx 131 (hb hby at_129) rfl rfl rfl ?_
        refine o_iconst X hx 132 (1 : Int32) (hb hby at_131) rfl rfl ?_
        refine o_aload X hx 134 (hb hby at_132) rfl rfl rfl ?_
        refine o_aastore X hx hZ eT V_b24 rfl ⟨by decide, by decide⟩ 1 rfl (Nat.le_of_ble_eq_true rfl) (vs' := [(.ref b1), (.ref b6)]) rfl rfl (Sto.arv V_b24 Ov24 (Ins.self E_b6)) N g_b24 135 (hb hby at_134) rfl (fun T h26 locs X eT W V' N => ?_)
        replace E_b1 := E_b1.wr W
        replace E_b6 := E_b6.wr W
        replace E_b11 := E_b11.wr W
        replace Z0 := Nat.le_trans Z0 (Keep.of_wr W).1
        replace O := O.wr W g_b24
        replace V_b24 := V'
        refine o_iload X hx 137 (hb hby at_135) rfl rfl ?_
        refine o_iconst X hx 138 (3 : Int32) (hb hby at_137) rfl rfl ?_
        refine o_icmpT X hx 147 (hb hby at_138) rfl (by decide : (2 : Int32) < (3 : Int32)) ?_
        refine o_new X hx hZ hown (hw _ (List.mem_of_getElem? (i := 32) rfl)) (hw _ (List.mem_of_getElem? (i := 33) rfl)) (hw _ (List.mem_of_getElem? (i := 34) rfl)) eT 150 (hb hby at_147) rfl (by decide) (by decide) (fun T h27 b27 hb27 X eT E A D => ?_)
        have ne_b1_b27 : b1 ≠ b27 := Nat.ne_of_lt (Nat.lt_of_lt_of_eq E_b1.lt hb27.symm)
        have ne_b6_b27 : b6 ≠ b27 := Nat.ne_of_lt (Nat.lt_of_lt_of_eq E_b6.lt hb27.symm)
        have ne_b11_b27 : b11 ≠ b27 := Nat.ne_of_lt (Nat.lt_of_lt_of_eq E_b11.lt hb27.symm)
        have ne_b24_b27 : b24 ≠ b27 := Nat.ne_of_lt (Nat.lt_of_lt_of_eq V_b24.lt hb27.symm)
        have g_b27 : n0 ≤ b27 := Nat.le_trans Z0 (Nat.le_of_eq hb27.symm)
        replace E_b1 := E_b1.ext E
        replace E_b6 := E_b6.ext E
        replace E_b11 := E_b11.ext E
        replace V_b24 := V_b24.ext E
        replace Z0 := Nat.le_trans Z0 E.1
        replace O := O.ext E
        have E_b27 := A
        have F__args_b27 : Fld Z h27 b27 "com/example/varasto/varasto/util/OptionReader" "_args" "[Ljava/lang/String;" .null := D (Or.inr (hw _ (List.mem_of_getElem? (i := 40) rfl))) (ty := (.array (.object "java/lang/String"))) (by decide)
        have F__next_b27 : Fld Z h27 b27 "com/example/varasto/varasto/util/OptionReader" "_next" "I" (.int (0 : Int32)) := D (Or.inl (hw _ (List.mem_of_getElem? (i := 47) rfl))) (ty := .int) (by decide)
        have F__option_b27 : Fld Z h27 b27 "com/example/varasto/varasto/util/OptionReader" "_option" "Ljava/lang/String;" .null := D (Or.inl (hw _ (List.mem_of_getElem? (i := 54) rfl))) (ty := (.object "java/lang/String")) (by decide)
        refine o_dup X hx 151 (hb hby at_150) rfl rfl ?_
        refine o_aload X hx 153 (hb hby at_151) rfl rfl rfl ?_
        refine o_callI X hx hZ rfl hown (hw _ (List.mem_of_getElem? (i := 35) rfl)) (hw _ (List.mem_of_getElem? (i := 36) rfl)) (hw _ (List.mem_of_getElem? (i := 34) rfl)) (hw _ (List.mem_of_getElem? (i := 37) rfl)) (by decide) (rm_oin l Z a0 hw [] b27 b24 _ _ n0 Z0 E_b27 F__args_b27 F__next_b27 F__option_b27 g_b27) eT (by decide) 1 (by decide) (by rw [hml]; rfl) [(.ref b24)] (rest := [(.ref b27)]) (lenOf pd_2 rfl) rfl rfl (Nat.le_of_eq rfl) (by decide) (by decide) 156 (hb hby at_153) rfl (fun v T h28 Lc X eT q => ?_)
        obtain ⟨rfl, N', K1, E', G1, G2, G3⟩ := q
        replace N := Fr.app N N'
        replace E_b1 := E_b1.keep K1
        replace E_b6 := E_b6.keep K1
        replace E_b11 := E_b11.keep K1
        replace V_b24 := V_b24.keep K1 (ninS ne_b24_b27 nin0)
        replace Z0 := Nat.le_trans Z0 K1.1
        replace O := O.keep K1 (allS (P := fun x => n0 ≤ x) g_b27 all0)
        replace E_b27 := E'
        have F1 := G1
        have F2 := G2
        have F3 := G3
        show Wout p e below _ T (mkF m 156 #[.val (.int p1), .val (.int p2), .val (.int p3), .val (.int p4), .val (.int (2 : Int32)), .val (.int (0 : Int32)), .val (.ref b1), .val (.ref b6), .val (.ref b11), .val (.ref b24), .unset, .unset, .unset, .unset] [(.ref b27)])
        refine o_astore X hx 158 (Ls' := #[.val (.int p1), .val (.int p2), .val (.int p3), .val (.int p4), .val (.int (2 : Int32)), .val (.int (0 : Int32)), .val (.ref b1), .val (.ref b6), .val (.ref b11), .val (.ref b24), .val (.ref b27), .unset, .unset, .unset]) (hb hby at_156) rfl rfl rfl ?_
        refine o_aload X hx 160 (hb hby at_158) rfl rfl rfl ?_
        refine o_callV X hx hZ hown (hw _ (List.mem_of_getElem? (i := 41) rfl)) (hw _ (List.mem_of_getElem? (i := 42) rfl)) (hw _ (List.mem_of_getElem? (i := 44) rfl)) (hw _ (List.mem_of_getElem? (i := 43) rfl)) (hw _ (List.mem_of_getElem? (i := 34) rfl)) (hw _ (List.mem_of_getElem? (i := 45) rfl)) (by decide) (rm_has1 l Z a0 hw [] b27 b24 k24 (0 : Int32) (2 : Int32) [(.ref b1), (.ref b6)] _ n0 Z0 F1 F2 V_b24 (by decide)) eT (by decide) 0 (by decide) (by rw [hml]; rfl) E_b27 [] (rest := []) (lenOf pd_0 rfl) rfl rfl (Nat.le_of_eq rfl) (by decide) (by decide) 163 (hb hby at_160) rfl (fun v T h29 Lc X eT q => ?_)
        obtain ⟨rfl, N', e'⟩ := q
        replace N := Fr.app N N'
        replace eT := eT.trans e'
        show Wout p e below _ T (mkF m 163 #[.val (.int p1), .val (.int p2), .val (.int p3), .val (.int p4), .val (.int (2 : Int32)), .val (.int (0 : Int32)), .val (.ref b1), .val (.ref b6), .val (.ref b11), .val (.ref b24), .val (.ref b27), .unset, .unset, .unset] [(.int (1 : Int32))])
        refine o_ifT X hx 168 (hb hby at_163) rfl (by decide : ¬ (1 : Int32) = (0 : Int32)) ?_
        refine o_aload X hx 170 (hb hby at_168) rfl rfl rfl ?_
        refine o_callV X hx hZ hown (hw _ (List.mem_of_getElem? (i := 48) rfl)) (hw _ (List.mem_of_getElem? (i := 49) rfl)) (hw _ (List.mem_of_getElem? (i := 51) rfl)) (hw _ (List.mem_of_getElem? (i := 50) rfl)) (hw _ (List.mem_of_getElem? (i := 34) rfl)) (hw _ (List.mem_of_getElem? (i := 52) rfl)) (by decide) (rm_nxt l Z a0 hw [] b27 b24 b1 k24 (0 : Int32) (1 : Int32) (2 : Int32) [(.ref b1), (.ref b6)] _ _ n0 Z0 E_b27 F1 F2 V_b24 F3 g_b27 ne_b24_b27 (by decide) rfl (by decide)) eT (by decide) 0 (by decide) (by rw [hml]; rfl) E_b27 [] (rest := []) (lenOf pd_3 rfl) rfl rfl (Nat.le_of_eq rfl) (by decide) (by decide) 173 (hb hby at_170) rfl (fun v T h30 Lc X eT q => ?_)
        obtain ⟨u', rfl, N', K1, E', G1, G2, G3⟩ := q
        replace N := Fr.app N N'
        replace E_b1 := E_b1.keep K1
        replace E_b6 := E_b6.keep K1
        replace E_b11 := E_b11.keep K1
        replace V_b24 := V_b24.keep K1 (ninS ne_b24_b27 nin0)
        replace Z0 := Nat.le_trans Z0 K1.1
        replace O := O.keep K1 (allS (P := fun x => n0 ≤ x) g_b27 all0)
        replace E_b27 := E'
        replace F1 := G1
        replace F2 := G2
        replace F3 := G3
        show Wout p e below _ T (mkF m 173 #[.val (.int p1), .val (.int p2), .val (.int p3), .val (.int p4), .val (.int (2 : Int32)), .val (.int (0 : Int32)), .val (.ref b1), .val (.ref b6), .val (.ref b11), .val (.ref b24), .val (.ref b27), .unset, .unset, .unset] [(.ref b1)])
        refine o_astore X hx 175 (Ls' := #[.val (.int p1), .val (.int p2), .val (.int p3), .val (.int p4), .val (.int (2 : Int32)), .val (.int (0 : Int32)), .val (.ref b1), .val (.ref b6), .val (.ref b11), .val (.ref b24), .val (.ref b27), .val (.ref b1), .unset, .unset]) (hb hby at_173) rfl rfl rfl ?_
        refine o_aload X hx 177 (hb hby at_175) rfl rfl rfl ?_
        refine o_aload X hx 179 (hb hby at_177) rfl rfl rfl ?_
        refine o_callV X hx hZ hown (hw _ (List.mem_of_getElem? (i := 55) rfl)) (hw _ (List.mem_of_getElem? (i := 56) rfl)) (hw _ (List.mem_of_getElem? (i := 58) rfl)) (hw _ (List.mem_of_getElem? (i := 57) rfl)) (hw _ (List.mem_of_getElem? (i := 3) rfl)) (hw _ (List.mem_of_getElem? (i := 59) rfl)) (by decide) (rm_seq l Z a0 hw [] b1 _ n0 Z0) eT (by decide) 0 (by decide) (by rw [hml]; rfl) E_b1 [(.ref b1)] (rest := []) (lenOf pd_4 rfl) rfl rfl (Nat.le_of_eq rfl) (by decide) (by decide) 182 (hb hby at_179) rfl (fun v T h31 Lc X eT q => ?_)
        obtain ⟨rfl, N', e'⟩ := q
        replace N := Fr.app N N'
        replace eT := eT.trans e'
        show Wout p e below _ T (mkF m 182 #[.val (.int p1), .val (.int p2), .val (.int p3), .val (.int p4), .val (.int (2 : Int32)), .val (.int (0 : Int32)), .val (.ref b1), .val (.ref b6), .val (.ref b11), .val (.ref b24), .val (.ref b27), .val (.ref b1), .unset, .unset] [(.int (1 : Int32))])
        refine o_ifT X hx 187 (hb hby at_182) rfl (by decide : ¬ (1 : Int32) = (0 : Int32)) ?_
        refine o_iconst X hx 188 (1 : Int32) (hb hby at_187) rfl rfl ?_
        refine o_istore X hx 190 (Ls' := #[.val (.int p1), .val (.int p2), .val (.int p3), .val (.int p4), .val (.int (2 : Int32)), .val (.int (0 : Int32)), .val (.ref b1), .val (.ref b6), .val (.ref b11), .val (.ref b24), .val (.ref b27), .val (.ref b1), .val (.int (1 : Int32)), .unset]) (hb hby at_188) rfl rfl ?_
        refine o_iload X hx 192 (hb hby at_190) rfl rfl ?_
        refine o_ifT X hx 217 (hb hby at_192) rfl (by decide : (0 : Int32) = (0 : Int32)) ?_
        refine o_iload X hx 219 (hb hby at_217) rfl rfl ?_
        refine o_iload X hx 221 (hb hby at_219) rfl rfl ?_
        refine o_icmpF X hx 224 (hb hby at_221) rfl (by decide : (1 : Int32) < (2 : Int32)) ?_
        refine o_aload X hx 226 (hb hby at_224) rfl rfl rfl ?_
        refine o_callV X hx hZ hown (hw _ (List.mem_of_getElem? (i := 41) rfl)) (hw _ (List.mem_of_getElem? (i := 42) rfl)) (hw _ (List.mem_of_getElem? (i := 44) rfl)) (hw _ (List.mem_of_getElem? (i := 43) rfl)) (hw _ (List.mem_of_getElem? (i := 34) rfl)) (hw _ (List.mem_of_getElem? (i := 45) rfl)) (by decide) (rm_has1 l Z a0 hw [] b27 b24 k24 (1 : Int32) (2 : Int32) [(.ref b1), (.ref b6)] _ n0 Z0 F1 F2 V_b24 (by decide)) eT (by decide) 0 (by decide) (by rw [hml]; rfl) E_b27 [] (rest := []) (lenOf pd_0 rfl) rfl rfl (Nat.le_of_eq rfl) (by decide) (by decide) 229 (hb hby at_226) rfl (fun v T h32 Lc X eT q => ?_)
        obtain ⟨rfl, N', e'⟩ := q
        replace N := Fr.app N N'
        replace eT := eT.trans e'
        show Wout p e below _ T (mkF m 229 #[.val (.int p1), .val (.int p2), .val (.int p3), .val (.int p4), .val (.int (2 : Int32)), .val (.int (0 : Int32)), .val (.ref b1), .val (.ref b6), .val (.ref b11), .val (.ref b24), .val (.ref b27), .val (.ref b1), .val (.int (1 : Int32)), .unset] [(.int (1 : Int32))])
        refine o_ifT X hx 234 (hb hby at_229) rfl (by decide : ¬ (1 : Int32) = (0 : Int32)) ?_
        refine o_aload X hx 236 (hb hby at_234) rfl rfl rfl ?_
        refine o_callV X hx hZ hown (hw _ (List.mem_of_getElem? (i := 48) rfl)) (hw _ (List.mem_of_getElem? (i := 49) rfl)) (hw _ (List.mem_of_getElem? (i := 51) rfl)) (hw _ (List.mem_of_getElem? (i := 50) rfl)) (hw _ (List.mem_of_getElem? (i := 34) rfl)) (hw _ (List.mem_of_getElem? (i := 52) rfl)) (by decide) (rm_nxt l Z a0 hw [] b27 b24 b6 k24 (1 : Int32) (2 : Int32) (2 : Int32) [(.ref b1), (.ref b6)] _ _ n0 Z0 E_b27 F1 F2 V_b24 F3 g_b27 ne_b24_b27 (by decide) rfl (by decide)) eT (by decide) 0 (by decide) (by rw [hml]; rfl) E_b27 [] (rest := []) (lenOf pd_3 rfl) rfl rfl (Nat.le_of_eq rfl) (by decide) (by decide) 239 (hb hby at_236) rfl (fun v T h33 Lc X eT q => ?_)
        obtain ⟨u', rfl, N', K1, E', G1, G2, G3⟩ := q
        replace N := Fr.app N N'
        replace E_b1 := E_b1.keep K1
        replace E_b6 := E_b6.keep K1
        replace E_b11 := E_b11.keep K1
        replace V_b24 := V_b24.keep K1 (ninS ne_b24_b27 nin0)
        replace Z0 := Nat.le_trans Z0 K1.1
        replace O := O.keep K1 (allS (P := fun x => n0 ≤ x) g_b27 all0)
        replace E_b27 := E'
        replace F1 := G1
        replace F2 := G2
        replace F3 := G3
        show Wout p e below _ T (mkF m 239 #[.val (.int p1), .val (.int p2), .val (.int p3), .val (.int p4), .val (.int (2 : Int32)), .val (.int (0 : Int32)), .val (.ref b1), .val (.ref b6), .val (.ref b11), .val (.ref b24), .val (.ref b27), .val (.ref b1), .val (.int (1 : Int32)), .unset] [(.ref b6)])
        refine o_astore X hx 241 (Ls' := #[.val (.int p1), .val (.int p2), .val (.int p3), .val (.int p4), .val (.int (2 : Int32)), .val (.int (0 : Int32)), .val (.ref b1), .val (.ref b6), .val (.ref b11), .val (.ref b24), .val (.ref b27), .val (.ref b1), .val (.int (1 : Int32)), .val (.ref b6)]) (hb hby at_239) rfl rfl rfl ?_
        refine o_iload X hx 243 (hb hby at_241) rfl rfl ?_
        refine o_aload X hx 245 (hb hby at_243) rfl rfl rfl ?_
        refine o_aload X hx 247 (hb hby at_245) rfl rfl rfl ?_
        refine o_callS X hx hZ hown (hw _ (List.mem_of_getElem? (i := 60) rfl)) (hw _ (List.mem_of_getElem? (i := 61) rfl)) (hw _ (List.mem_of_getElem? (i := 62) rfl)) (hw _ (List.mem_of_getElem? (i := 63) rfl)) (by decide) (rm_pick1 l Z a0 hw [] (1 : Int32) b6 b11 _ n0 Z0 (by decide)) eT (by decide) 0 (by decide) (by rw [hml]; rfl) [(.int (1 : Int32)), (.ref b6), (.ref b11)] (rest := []) (lenOf pd_5 rfl) rfl rfl (Nat.le_of_eq rfl) (by decide) (by decide) 250 (hb hby at_247) rfl (fun v T h34 Lc X eT q => ?_)
        obtain ⟨rfl, N', e'⟩ := q
        replace N := Fr.app N N'
        replace eT := eT.trans e'
        show Wout p e below _ T (mkF m 250 #[.val (.int p1), .val (.int p2), .val (.int p3), .val (.int p4), .val (.int (2 : Int32)), .val (.int (0 : Int32)), .val (.ref b1), .val (.ref b6), .val (.ref b11), .val (.ref b24), .val (.ref b27), .val (.ref b1), .val (.int (1 : Int32)), .val (.ref b6)] [(.ref b6)])
        refine o_aload X hx 252 (hb hby at_250) rfl rfl rfl ?_
        refine o_callV X hx hZ hown (hw _ (List.mem_of_getElem? (i := 55) rfl)) (hw _ (List.mem_of_getElem? (i := 56) rfl)) (hw _ (List.mem_of_getElem? (i := 58) rfl)) (hw _ (List.mem_of_getElem? (i := 57) rfl)) (hw _ (List.mem_of_getElem? (i := 3) rfl)) (hw _ (List.mem_of_getElem? (i := 59) rfl)) (by decide) (rm_seq l Z a0 hw [] b6 _ n0 Z0) eT (by decide) 0 (by decide) (by rw [hml]; rfl) E_b6 [(.ref b6)] (rest := []) (lenOf pd_4 rfl) rfl rfl (Nat.le_of_eq rfl) (by decide) (by decide) 255 (hb hby at_252) rfl (fun v T h35 Lc X eT q => ?_)
        obtain ⟨rfl, N', e'⟩ := q
        replace N := Fr.app N N'
        replace eT := eT.trans e'
        show Wout p e below _ T (mkF m 255 #[.val (.int p1), .val (.int p2), .val (.int p3), .val (.int p4), .val (.int (2 : Int32)), .val (.int (0 : Int32)), .val (.ref b1), .val (.ref b6), .val (.ref b11), .val (.ref b24), .val (.ref b27), .val (.ref b1), .val (.int (1 : Int32)), .val (.ref b6)] [(.int (1 : Int32))])
        refine o_ifT X hx 260 (hb hby at_255) rfl (by decide : ¬ (1 : Int32) = (0 : Int32)) ?_
        refine o_iload X hx 262 (hb hby at_260) rfl rfl ?_
        refine o_iconst X hx 263 (1 : Int32) (hb hby at_262) rfl rfl ?_
        refine o_iadd X hx 264 (hb hby at_263) rfl ?_
        rw [show ((1 : Int32) + (1 : Int32)) = (2 : Int32) from by decide]
        refine o_istore X hx 266 (Ls' := #[.val (.int p1), .val (.int p2), .val (.int p3), .val (.int p4), .val (.int (2 : Int32)), .val (.int (0 : Int32)), .val (.ref b1), .val (.ref b6), .val (.ref b11), .val (.ref b24), .val (.ref b27), .val (.ref b1), .val (.int (2 : Int32)), .val (.ref b6)]) (hb hby at_264) rfl rfl ?_
        refine o_iload X hx 268 (hb hby at_266) rfl rfl ?_
        refine o_iload X hx 270 (hb hby at_268) rfl rfl ?_
        refine o_icmpT X hx 315 (hb hby at_270) rfl (by decide : ¬ (2 : Int32) < (2 : Int32)) ?_
        refine o_aload X hx 317 (hb hby at_315) rfl rfl rfl ?_
        refine o_callV X hx hZ hown (hw _ (List.mem_of_getElem? (i := 41) rfl)) (hw _ (List.mem_of_getElem? (i := 42) rfl)) (hw _ (List.mem_of_getElem? (i := 44) rfl)) (hw _ (List.mem_of_getElem? (i := 43) rfl)) (hw _ (List.mem_of_getElem? (i := 34) rfl)) (hw _ (List.mem_of_getElem? (i := 45) rfl)) (by decide) (rm_has0 l Z a0 hw [] b27 b24 k24 (2 : Int32) (2 : Int32) [(.ref b1), (.ref b6)] _ n0 Z0 F1 F2 V_b24 (by decide)) eT (by decide) 0 (by decide) (by rw [hml]; rfl) E_b27 [] (rest := []) (lenOf pd_0 rfl) rfl rfl (Nat.le_of_eq rfl) (by decide) (by decide) 320 (hb hby at_317) rfl (fun v T h36 Lc X eT q => ?_)
        obtain ⟨rfl, N', e'⟩ := q
        replace N := Fr.app N N'
        replace eT := eT.trans e'
        show Wout p e below _ T (mkF m 320 #[.val (.int p1), .val (.int p2), .val (.int p3), .val (.int p4), .val (.int (2 : Int32)), .val (.int (0 : Int32)), .val (.ref b1), .val (.ref b6), .val (.ref b11), .val (.ref b24), .val (.ref b27), .val (.ref b1), .val (.int (2 : Int32)), .val (.ref b6)] [(.int (0 : Int32))])
        refine o_ifF X hx 323 (hb hby at_320) rfl (by decide : (0 : Int32) = (0 : Int32)) ?_
        refine o_iconst X hx 324 (1 : Int32) (hb hby at_323) rfl rfl ?_
        refine o_goto X hx 328 (hb hby at_324) rfl ?_
        exact o_retI X hx hlk hret rfl (by simp) (hb hby at_328) (by decide) (by decide) (by rw [eT]; exact ⟨rfl, N, trivial⟩)
      · show Wout p e below _ T (mkF m 110 #[.val (.int p1), .val (.int p2), .val (.int p3), .val (.int p4), .val (.int (2 : Int32)), .val (.int (1 : Int32)), .val (.ref b1), .val (.ref b6), .val (.ref b11), .unset, .unset, .unset, .unset, .unset] [])
        refine o_iload X hx 112 (hb hby at_110) rfl rfl ?_
        refine o_anewarray X hx hZ hown (hw _ (List.mem_of_getElem? (i := 1) rfl)) (hw _ (List.mem_of_getElem? (i := 31) rfl)) eT 115 (hb hby at_112) rfl (by decide) 2 (by decide) (by decide) (by decide) (by decide) (fun T h37 b37 k37 hb37 X eT E A Ov37 => ?_)
        have ne_b1_b37 : b1 ≠ b37 := Nat.ne_of_lt (Nat.lt_of_lt_of_eq E_b1.lt hb37.symm)
        have ne_b6_b37 : b6 ≠ b37 := Nat.ne_of_lt (Nat.lt_of_lt_of_eq E_b6.lt hb37.symm)
        have ne_b11_b37 : b11 ≠ b37 := Nat.ne_of_lt (Nat.lt_of_lt_of_eq E_b11.lt hb37.symm)
        have g_b37 : n0 ≤ b37 := Nat.le_trans Z0 (Nat.le_of_eq hb37.symm)
        replace E_b1 := E_b1.ext E
        replace E_b6 := E_b6.ext E
        replace E_b11 := E_b11.ext E
        replace Z0 := Nat.le_trans Z0 E.1
        replace O := O.ext E
        have V_b37 : Arv Z h37 b37 k37 (.object "java/lang/String") (2 : Int32) [.null, .null] .null := A.pad (pad_rep [] .null 2)
        refine o_astore X hx 117 (Ls' := #[.val (.int p1), .val (.int p2), .val (.int p3), .val (.int p4), .val (.int (2 : Int32)), .val (.int (1 : Int32)), .val (.ref b1), .val (.ref b6), .val (.ref b11), .val (.ref b37), .unset, .unset, .unset, .unset]) (hb hby at_115) rfl rfl rfl ?_
        refine o_aload X hx 119 (hb hby at_117) rfl rfl rfl ?_
        refine o_iconst X hx 120 (0 : Int32) (hb hby at_119) rfl rfl ?_
        refine o_aload X hx 122 (hb hby at_120) rfl rfl rfl ?_
        refine o_aastore X hx hZ eT V_b37 rfl ⟨by decide, by decide⟩ 0 rfl (Nat.le_of_ble_eq_true rfl) (vs' := [(.ref b1), .null]) rfl rfl (Sto.arv V_b37 Ov37 (Ins.self E_b1)) N g_b37 123 (hb hby at_122) rfl (fun T h38 locs X eT W V' N => ?_)
        replace E_b1 := E_b1.wr W
        replace E_b6 := E_b6.wr W
        replace E_b11 := E_b11.wr W
        replace Z0 := Nat.le_trans Z0 (Keep.of_wr W).1
        replace O := O.wr W g_b37
        replace V_b37 := V'
        refine o_iload X hx 125 (hb hby at_123) rfl rfl ?_
        refine o_iconst X hx 126 (2 : Int32) (hb hby at_125) rfl rfl ?_
        refine o_icmpF X hx 129 (hb hby at_126) rfl (by decide : ¬ (2 : Int32) < (2 : Int32)) ?_
        refine o_aload X hx 131 (hb hby at_129) rfl rfl rfl ?_
        refine o_iconst X hx 132 (1 : Int32) (hb hby at_131) rfl rfl ?_
        refine o_aload X hx 134 (hb hby at_132) rfl rfl rfl ?_
        refine o_aastore X hx hZ eT V_b37 rfl ⟨by decide, by decide⟩ 1 rfl (Nat.le_of_ble_eq_true rfl) (vs' := [(.ref b1), (.ref b6)]) rfl rfl (Sto.arv V_b37 Ov37 (Ins.self E_b6)) N g_b37 135 (hb hby at_134) rfl (fun T h39 locs X eT W V' N => ?_)
        replace E_b1 := E_b1.wr W
        replace E_b6 := E_b6.wr W
        replace E_b11 := E_b11.wr W
        replace Z0 := Nat.le_trans Z0 (Keep.of_wr W).1
        replace O := O.wr W g_b37
        replace V_b37 := V'
        refine o_iload X hx 137 (hb hby at_135) rfl rfl ?_
        refine o_iconst X hx 138 (3 : Int32) (hb hby at_137) rfl rfl ?_
        refine o_icmpT X hx 147 (hb hby at_138) rfl (by decide : (2 : Int32) < (3 : Int32)) ?_
        refine o_new X hx hZ hown (hw _ (List.mem_of_getElem? (i := 32) rfl)) (hw _ (List.mem_of_getElem? (i := 33) rfl)) (hw _ (List.mem_of_getElem? (i := 34) rfl)) eT 150 (hb hby at_147) rfl (by decide) (by decide) (fun T h40 b40 hb40 X eT E A D => ?_)
        have ne_b1_b40 : b1 ≠ b40 := Nat.ne_of_lt (Nat.lt_of_lt_of_eq E_b1.lt hb40.symm)
        have ne_b6_b40 : b6 ≠ b40 := Nat.ne_of_lt (Nat.lt_of_lt_of_eq E_b6.lt hb40.symm)
        have ne_b11_b40 : b11 ≠ b40 := Nat.ne_of_lt (Nat.lt_of_lt_of_eq E_b11.lt hb40.symm)
        have ne_b37_b40 : b37 ≠ b40 := Nat.ne_of_lt (Nat.lt_of_lt_of_eq V_b37.lt hb40.symm)
        have g_b40 : n0 ≤ b40 := Nat.le_trans Z0 (Nat.le_of_eq hb40.symm)
        replace E_b1 := E_b1.ext E
        replace E_b6 := E_b6.ext E
        replace E_b11 := E_b11.ext E
        replace V_b37 := V_b37.ext E
        replace Z0 := Nat.le_trans Z0 E.1
        replace O := O.ext E
        have E_b40 := A
        have F__args_b40 : Fld Z h40 b40 "com/example/varasto/varasto/util/OptionReader" "_args" "[Ljava/lang/String;" .null := D (Or.inr (hw _ (List.mem_of_getElem? (i := 40) rfl))) (ty := (.array (.object "java/lang/String"))) (by decide)
        have F__next_b40 : Fld Z h40 b40 "com/example/varasto/varasto/util/OptionReader" "_next" "I" (.int (0 : Int32)) := D (Or.inl (hw _ (List.mem_of_getElem? (i := 47) rfl))) (ty := .int) (by decide)
        have F__option_b40 : Fld Z h40 b40 "com/example/varasto/varasto/util/OptionReader" "_option" "Ljava/lang/String;" .null := D (Or.inl (hw _ (List.mem_of_getElem? (i := 54) rfl))) (ty := (.object "java/lang/String")) (by decide)
        refine o_dup X hx 151 (hb hby at_150) rfl rfl ?_
        refine o_aload X hx 153 (hb hby at_151) rfl rfl rfl ?_
        refine o_callI X hx hZ rfl hown (hw _ (List.mem_of_getElem? (i := 35) rfl)) (hw _ (List.mem_of_getElem? (i := 36) rfl)) (hw _ (List.mem_of_getElem? (i := 34) rfl)) (hw _ (List.mem_of_getElem? (i := 37) rfl)) (by decide) (rm_oin l Z a0 hw [] b40 b37 _ _ n0 Z0 E_b40 F__args_b40 F__next_b40 F__option_b40 g_b40) eT (by decide) 1 (by decide) (by rw [hml]; rfl) [(.ref b37)] (rest := [(.ref b40)]) (lenOf pd_2 rfl) rfl rfl (Nat.le_of_eq rfl) (by decide) (by decide) 156 (hb hby at_153) rfl (fun v T h41 Lc X eT q => ?_)
        obtain ⟨rfl, N', K1, E', G1, G2, G3⟩ := q
        replace N := Fr.app N N'
        replace E_b1 := E_b1.keep K1
        replace E_b6 := E_b6.keep K1
        replace E_b11 := E_b11.keep K1
        replace V_b37 := V_b37.keep K1 (ninS ne_b37_b40 nin0)
        replace Z0 := Nat.le_trans Z0 K1.1
        replace O := O.keep K1 (allS (P := fun x => n0 ≤ x) g_b40 all0)
        replace E_b40 := E'
        have F1 := G1
        have F2 := G2
        have F3 := G3
        show Wout p e below _ T (mkF m 156 #[.val (.int p1), .val (.int p2), .val (.int p3), .val (.int p4), .val (.int (2 : Int32)), .val (.int (1 : Int32)), .val (.ref b1), .val (.ref b6), .val (.ref b11), .val (.ref b37), .unset, .unset, .unset, .unset] [(.ref b40)])
        refine o_astore X hx 158 (Ls' := #[.val (.int p1), .val (.int p2), .val (.int p3), .val (.int p4), .val (.int (2 : Int32)), .val (.int (1 : Int32)), .val (.ref b1), .val (.ref b6), .val (.ref b11), .val (.ref b37), .val (.ref b40), .unset, .unset, .unset]) (hb hby at_156) rfl rfl rfl ?_
        refine o_aload X hx 160 (hb hby at_158) rfl rfl rfl ?_
        refine o_callV X hx hZ hown (hw _ (List.mem_of_getElem? (i := 41) rfl)) (hw _ (List.mem_of_getElem? (i := 42) rfl)) (hw _ (List.mem_of_getElem? (i := 44) rfl)) (hw _ (List.mem_of_getElem? (i := 43) rfl)) (hw _ (List.mem_of_getElem? (i := 34) rfl)) (hw _ (List.mem_of_getElem? (i := 45) rfl)) (by decide) (rm_has1 l Z a0 hw [] b40 b37 k37 (0 : Int32) (2 : Int32) [(.ref b1), (.ref b6)] _ n0 Z0 F1 F2 V_b37 (by decide)) eT (by decide) 0 (by decide) (by rw [hml]; rfl) E_b40 [] (rest := []) (lenOf pd_0 rfl) rfl rfl (Nat.le_of_eq rfl) (by decide) (by decide) 163 (hb hby at_160) rfl (fun v T h42 Lc X eT q => ?_)
        obtain ⟨rfl, N', e'⟩ := q
        replace N := Fr.app N N'
        replace eT := eT.trans e'
        show Wout p e below _ T (mkF m 163 #[.val (.int p1), .val (.int p2), .val (.int p3), .val (.int p4), .val (.int (2 : Int32)), .val (.int (1 : Int32)), .val (.ref b1), .val (.ref b6), .val (.ref b11), .val (.ref b37), .val (.ref b40), .unset, .unset, .unset] [(.int (1 : Int32))])
        refine o_ifT X hx 168 (hb hby at_163) rfl (by decide : ¬ (1 : Int32) = (0 : Int32)) ?_
        refine o_aload X hx 170 (hb hby at_168) rfl rfl rfl ?_
        refine o_callV X hx hZ hown (hw _ (List.mem_of_getElem? (i := 48) rfl)) (hw _ (List.mem_of_getElem? (i := 49) rfl)) (hw _ (List.mem_of_getElem? (i := 51) rfl)) (hw _ (List.mem_of_getElem? (i := 50) rfl)) (hw _ (List.mem_of_getElem? (i := 34) rfl)) (hw _ (List.mem_of_getElem? (i := 52) rfl)) (by decide) (rm_nxt l Z a0 hw [] b40 b37 b1 k37 (0 : Int32) (1 : Int32) (2 : Int32) [(.ref b1), (.ref b6)] _ _ n0 Z0 E_b40 F1 F2 V_b37 F3 g_b40 ne_b37_b40 (by decide) rfl (by decide)) eT (by decide) 0 (by decide) (by rw [hml]; rfl) E_b40 [] (rest := []) (lenOf pd_3 rfl) rfl rfl (Nat.le_of_eq rfl) (by decide) (by decide) 173 (hb hby at_170) rfl (fun v T h43 Lc X eT q => ?_)
        obtain ⟨u', rfl, N', K1, E', G1, G2, G3⟩ := q
        replace N := Fr.app N N'
        replace E_b1 := E_b1.keep K1
        replace E_b6 := E_b6.keep K1
        replace E_b11 := E_b11.keep K1
        replace V_b37 := V_b37.keep K1 (ninS ne_b37_b40 nin0)
        replace Z0 := Nat.le_trans Z0 K1.1
        replace O := O.keep K1 (allS (P := fun x => n0 ≤ x) g_b40 all0)
        replace E_b40 := E'
        replace F1 := G1
        replace F2 := G2
        replace F3 := G3
        show Wout p e below _ T (mkF m 173 #[.val (.int p1), .val (.int p2), .val (.int p3), .val (.int p4), .val (.int (2 : Int32)), .val (.int (1 : Int32)), .val (.ref b1), .val (.ref b6), .val (.ref b11), .val (.ref b37), .val (.ref b40), .unset, .unset, .unset] [(.ref b1)])
        refine o_astore X hx 175 (Ls' := #[.val (.int p1), .val (.int p2), .val (.int p3), .val (.int p4), .val (.int (2 : Int32)), .val (.int (1 : Int32)), .val (.ref b1), .val (.ref b6), .val (.ref b11), .val (.ref b37), .val (.ref b40), .val (.ref b1), .unset, .unset]) (hb hby at_173) rfl rfl rfl ?_
        refine o_aload X hx 177 (hb hby at_175) rfl rfl rfl ?_
        refine o_aload X hx 179 (hb hby at_177) rfl rfl rfl ?_
        refine o_callV X hx hZ hown (hw _ (List.mem_of_getElem? (i := 55) rfl)) (hw _ (List.mem_of_getElem? (i := 56) rfl)) (hw _ (List.mem_of_getElem? (i := 58) rfl)) (hw _ (List.mem_of_getElem? (i := 57) rfl)) (hw _ (List.mem_of_getElem? (i := 3) rfl)) (hw _ (List.mem_of_getElem? (i := 59) rfl)) (by decide) (rm_seq l Z a0 hw [] b1 _ n0 Z0) eT (by decide) 0 (by decide) (by rw [hml]; rfl) E_b1 [(.ref b1)] (rest := []) (lenOf pd_4 rfl) rfl rfl (Nat.le_of_eq rfl) (by decide) (by decide) 182 (hb hby at_179) rfl (fun v T h44 Lc X eT q => ?_)
        obtain ⟨rfl, N', e'⟩ := q
        replace N := Fr.app N N'
        replace eT := eT.trans e'
        show Wout p e below _ T (mkF m 182 #[.val (.int p1), .val (.int p2), .val (.int p3), .val (.int p4), .val (.int (2 : Int32)), .val (.int (1 : Int32)), .val (.ref b1), .val (.ref b6), .val (.ref b11), .val (.ref b37), .val (.ref b40), .val (.ref b1), .unset, .unset] [(.int (1 : Int32))])
        refine o_ifT X hx 187 (hb hby at_182) rfl (by decide : ¬ (1 : Int32) = (0 : Int32)) ?_
        refine o_iconst X hx 188 (1 : Int32) (hb hby at_187) rfl rfl ?_
        refine o_istore X hx 190 (Ls' := #[.val (.int p1), .val (.int p2), .val (.int p3), .val (.int p4), .val (.int (2 : Int32)), .val (.int (1 : Int32)), .val (.ref b1), .val (.ref b6), .val (.ref b11), .val (.ref b37), .val (.ref b40), .val (.ref b1), .val (.int (1 : Int32)), .unset]) (hb hby at_188) rfl rfl ?_
        refine o_iload X hx 192 (hb hby at_190) rfl rfl ?_
        refine o_ifF X hx 195 (hb hby at_192) rfl (by decide : ¬ (1 : Int32) = (0 : Int32)) ?_
        refine o_aload X hx 197 (hb hby at_195) rfl rfl rfl ?_
        refine o_callV X hx hZ hown (hw _ (List.mem_of_getElem? (i := 64) rfl)) (hw _ (List.mem_of_getElem? (i := 65) rfl)) (hw _ (List.mem_of_getElem? (i := 67) rfl)) (hw _ (List.mem_of_getElem? (i := 66) rfl)) (hw _ (List.mem_of_getElem? (i := 34) rfl)) (hw _ (List.mem_of_getElem? (i := 68) rfl)) (by decide) (rm_val l Z a0 hw [] b40 b37 b6 k37 (1 : Int32) (2 : Int32) (2 : Int32) [(.ref b1), (.ref b6)] _ _ n0 Z0 E_b40 F1 F2 V_b37 F3 g_b40 ne_b37_b40 (by decide) rfl (by decide)) eT (by decide) 0 (by decide) (by rw [hml]; rfl) E_b40 [] (rest := []) (lenOf pd_3 rfl) rfl rfl (Nat.le_of_eq rfl) (by decide) (by decide) 200 (hb hby at_197) rfl (fun v T h45 Lc X eT q => ?_)
        obtain ⟨u', rfl, N', K1, E', G1, G2, G3⟩ := q
        replace N := Fr.app N N'
        replace E_b1 := E_b1.keep K1
        replace E_b6 := E_b6.keep K1
        replace E_b11 := E_b11.keep K1
        replace V_b37 := V_b37.keep K1 (ninS ne_b37_b40 nin0)
        replace Z0 := Nat.le_trans Z0 K1.1
        replace O := O.keep K1 (allS (P := fun x => n0 ≤ x) g_b40 all0)
        replace E_b40 := E'
        replace F1 := G1
        replace F2 := G2
        replace F3 := G3
        show Wout p e below _ T (mkF m 200 #[.val (.int p1), .val (.int p2), .val (.int p3), .val (.int p4), .val (.int (2 : Int32)), .val (.int (1 : Int32)), .val (.ref b1), .val (.ref b6), .val (.ref b11), .val (.ref b37), .val (.ref b40), .val (.ref b1), .val (.int (1 : Int32)), .unset] [(.ref b6)])
        refine o_astore X hx 202 (Ls' := #[.val (.int p1), .val (.int p2), .val (.int p3), .val (.int p4), .val (.int (2 : Int32)), .val (.int (1 : Int32)), .val (.ref b1), .val (.ref b6), .val (.ref b11), .val (.ref b37), .val (.ref b40), .val (.ref b1), .val (.int (1 : Int32)), .val (.ref b6)]) (hb hby at_200) rfl rfl rfl ?_
        refine o_aload X hx 204 (hb hby at_202) rfl rfl rfl ?_
        refine o_aload X hx 206 (hb hby at_204) rfl rfl rfl ?_
        refine o_callV X hx hZ hown (hw _ (List.mem_of_getElem? (i := 55) rfl)) (hw _ (List.mem_of_getElem? (i := 56) rfl)) (hw _ (List.mem_of_getElem? (i := 58) rfl)) (hw _ (List.mem_of_getElem? (i := 57) rfl)) (hw _ (List.mem_of_getElem? (i := 3) rfl)) (hw _ (List.mem_of_getElem? (i := 59) rfl)) (by decide) (rm_seq l Z a0 hw [] b6 _ n0 Z0) eT (by decide) 0 (by decide) (by rw [hml]; rfl) E_b6 [(.ref b6)] (rest := []) (lenOf pd_4 rfl) rfl rfl (Nat.le_of_eq rfl) (by decide) (by decide) 209 (hb hby at_206) rfl (fun v T h46 Lc X eT q => ?_)
        obtain ⟨rfl, N', e'⟩ := q
        replace N := Fr.app N N'
        replace eT := eT.trans e'
        show Wout p e below _ T (mkF m 209 #[.val (.int p1), .val (.int p2), .val (.int p3), .val (.int p4), .val (.int (2 : Int32)), .val (.int (1 : Int32)), .val (.ref b1), .val (.ref b6), .val (.ref b11), .val (.ref b37), .val (.ref b40), .val (.ref b1), .val (.int (1 : Int32)), .val (.ref b6)] [(.int (1 : Int32))])
        refine o_ifT X hx 214 (hb hby at_209) rfl (by decide : ¬ (1 : Int32) = (0 : Int32)) ?_
        refine o_iconst X hx 215 (2 : Int32) (hb hby at_214) rfl rfl ?_
        refine o_istore X hx 217 (Ls' := #[.val (.int p1), .val (.int p2), .val (.int p3), .val (.int p4), .val (.int (2 : Int32)), .val (.int (1 : Int32)), .val (.ref b1), .val (.ref b6), .val (.ref b11), .val (.ref b37), .val (.ref b40), .val (.ref b1), .val (.int (2 : Int32)), .val (.ref b6)]) (hb hby at_215) rfl rfl ?_
        refine o_iload X hx 219 (hb hby at_217) rfl rfl ?_
        refine o_iload X hx 221 (hb hby at_219) rfl rfl ?_
        refine o_icmpT X hx 266 (hb hby at_221) rfl (by decide : ¬ (2 : Int32) < (2 : Int32)) ?_
        refine o_iload X hx 268 (hb hby at_266) rfl rfl ?_
        refine o_iload X hx 270 (hb hby at_268) rfl rfl ?_
        refine o_icmpT X hx 315 (hb hby at_270) rfl (by decide : ¬ (2 : Int32) < (2 : Int32)) ?_
        refine o_aload X hx 317 (hb hby at_315) rfl rfl rfl ?_
        refine o_callV X hx hZ hown (hw _ (List.mem_of_getElem? (i := 41) rfl)) (hw _ (List.mem_of_getElem? (i := 42) rfl)) (hw _ (List.mem_of_getElem? (i := 44) rfl)) (hw _ (List.mem_of_getElem? (i := 43) rfl)) (hw _ (List.mem_of_getElem? (i := 34) rfl)) (hw _ (List.mem_of_getElem? (i := 45) rfl)) (by decide) (rm_has0 l Z a0 hw [] b40 b37 k37 (2 : Int32) (2 : Int32) [(.ref b1), (.ref b6)] _ n0 Z0 F1 F2 V_b37 (by decide)) eT (by decide) 0 (by decide) (by rw [hml]; rfl) E_b40 [] (rest := []) (lenOf pd_0 rfl) rfl rfl (Nat.le_of_eq rfl) (by decide) (by decide) 320 (hb hby at_317) rfl (fun v T h47 Lc X eT q => ?_)
        obtain ⟨rfl, N', e'⟩ := q
        replace N := Fr.app N N'
        replace eT := eT.trans e'
        show Wout p e below _ T (mkF m 320 #[.val (.int p1), .val (.int p2), .val (.int p3), .val (.int p4), .val (.int (2 : Int32)), .val (.int (1 : Int32)), .val (.ref b1), .val (.ref b6), .val (.ref b11), .val (.ref b37), .val (.ref b40), .val (.ref b1), .val (.int (2 : Int32)), .val (.ref b6)] [(.int (0 : Int32))])
        refine o_ifF X hx 323 (hb hby at_320) rfl (by decide : (0 : Int32) = (0 : Int32)) ?_
        refine o_iconst X hx 324 (1 : Int32) (hb hby at_323) rfl rfl ?_
        refine o_goto X hx 328 (hb hby at_324) rfl ?_
        exact o_retI X hx hlk hret rfl (by simp) (hb hby at_328) (by decide) (by decide) (by rw [eT]; exact ⟨rfl, N, trivial⟩)
    · show Wout p e below _ T (mkF m 110 #[.val (.int p1), .val (.int p2), .val (.int p3), .val (.int p4), .val (.int (3 : Int32)), .val (.int u), .val (.ref b1), .val (.ref b6), .val (.ref b11), .unset, .unset, .unset, .unset, .unset] [])
      rcases hu with rfl | ⟨rfl, hu⟩
      · show Wout p e below _ T (mkF m 110 #[.val (.int p1), .val (.int p2), .val (.int p3), .val (.int p4), .val (.int (3 : Int32)), .val (.int (0 : Int32)), .val (.ref b1), .val (.ref b6), .val (.ref b11), .unset, .unset, .unset, .unset, .unset] [])
        refine o_iload X hx 112 (hb hby at_110) rfl rfl ?_
        refine o_anewarray X hx hZ hown (hw _ (List.mem_of_getElem? (i := 1) rfl)) (hw _ (List.mem_of_getElem? (i := 31) rfl)) eT 115 (hb hby at_112) rfl (by decide) 3 (by decide) (by decide) (by decide) (by decide) (fun T h48 b48 k48 hb48 X eT E A Ov48 => ?_)
        have ne_b1_b48 : b1 ≠ b48 := Nat.ne_of_lt (Nat.lt_of_lt_of_eq E_b1.lt hb48.symm)
        have ne_b6_b48 : b6 ≠ b48 := Nat.ne_of_lt (Nat.lt_of_lt_of_eq E_b6.lt hb48.symm)
        have ne_b11_b48 : b11 ≠ b48 := Nat.ne_of_lt (Nat.lt_of_lt_of_eq E_b11.lt hb48.symm)
        have g_b48 : n0 ≤ b48 := Nat.le_trans Z0 (Nat.le_of_eq hb48.symm)
        replace E_b1 := E_b1.ext E
        replace E_b6 := E_b6.ext E
        replace E_b11 := E_b11.ext E
        replace Z0 := Nat.le_trans Z0 E.1
        replace O := O.ext E
        have V_b48 : Arv Z h48 b48 k48 (.object "java/lang/String") (3 : Int32) [.null, .null, .null] .null := A.pad (pad_rep [] .null 3)
        refine o_astore X hx 117 (Ls' := #[.val (.int p1), .val (.int p2), .val (.int p3), .val (.int p4), .val (.int (3 : Int32)), .val (.int (0 : Int32)), .val (.ref b1), .val (.ref b6), .val (.ref b11), .val (.ref b48), .unset, .unset, .unset, .unset]) (hb hby at_115) rfl rfl rfl ?_
        refine o_aload X hx 119 (hb hby at_117) rfl rfl rfl ?_
        refine o_iconst X hx 120 (0 : Int32) (hb hby at_119) rfl rfl ?_
        refine o_aload X hx 122 (hb hby at_120) rfl rfl rfl ?_
        refine o_aastore X hx hZ eT V_b48 rfl ⟨by decide, by decide⟩ 0 rfl (Nat.le_of_ble_eq_true rfl) (vs' := [(.ref b1), .null, .null]) rfl rfl (Sto.arv V_b48 Ov48 (Ins.self E_b1)) N g_b48 123 (hb hby at_122) rfl (fun T h49 locs X eT W V' N => ?_)
        replace E_b1 := E_b1.wr W
        replace E_b6 := E_b6.wr W
        replace E_b11 := E_b11.wr W
        replace Z0 := Nat.le_trans Z0 (Keep.of_wr W).1
        replace O := O.wr W g_b48
        replace V_b48 := V'
        refine o_iload X hx 125 (hb hby at_123) rfl rfl ?_
        refine o_iconst X hx 126 (2 : Int32) (hb hby at_125) rfl rfl ?_
        refine o_icmpF X hx 129 (hb hby at_126) rfl (by decide : ¬ (3 : Int32) < (2 : Int32)) ?_
        refine o_aload X hx 131 (hb hby at_129) rfl rfl rfl ?_
        refine o_iconst X hx 132 (1 : Int32) (hb hby at_131) rfl rfl ?_
        refine o_aload X hx 134 (hb hby at_132) rfl rfl rfl ?_
        refine o_aastore X hx hZ eT V_b48 rfl ⟨by decide, by decide⟩ 1 rfl (Nat.le_of_ble_eq_true rfl) (vs' := [(.ref b1), (.ref b6), .null]) rfl rfl (Sto.arv V_b48 Ov48 (Ins.self E_b6)) N g_b48 135 (hb hby at_134) rfl (fun T h50 locs X eT W V' N => ?_)
        replace E_b1 := E_b1.wr W
        replace E_b6 := E_b6.wr W
        replace E_b11 := E_b11.wr W
        replace Z0 := Nat.le_trans Z0 (Keep.of_wr W).1
        replace O := O.wr W g_b48
        replace V_b48 := V'
        refine o_iload X hx 137 (hb hby at_135) rfl rfl ?_
        refine o_iconst X hx 138 (3 : Int32) (hb hby at_137) rfl rfl ?_
        refine o_icmpF X hx 141 (hb hby at_138) rfl (by decide : ¬ (3 : Int32) < (3 : Int32)) ?_
        refine o_aload X hx 143 (hb hby at_141) rfl rfl rfl ?_
        refine o_iconst X hx 144 (2 : Int32) (hb hby at_143) rfl rfl ?_
        refine o_aload X hx 146 (hb hby at_144) rfl rfl rfl ?_
        refine o_aastore X hx hZ eT V_b48 rfl ⟨by decide, by decide⟩ 2 rfl (Nat.le_of_ble_eq_true rfl) (vs' := [(.ref b1), (.ref b6), (.ref b11)]) rfl rfl (Sto.arv V_b48 Ov48 (Ins.self E_b11)) N g_b48 147 (hb hby at_146) rfl (fun T h51 locs X eT W V' N => ?_)
        replace E_b1 := E_b1.wr W
        replace E_b6 := E_b6.wr W
        replace E_b11 := E_b11.wr W
        replace Z0 := Nat.le_trans Z0 (Keep.of_wr W).1
        replace O := O.wr W g_b48
        replace V_b48 := V'
        refine o_new X hx hZ hown (hw _ (List.mem_of_getElem? (i := 32) rfl)) (hw _ (List.mem_of_getElem? (i := 33) rfl)) (hw _ (List.mem_of_getElem? (i := 34) rfl)) eT 150 (hb hby at_147) rfl (by decide) (by decide) (fun T h52 b52 hb52 X eT E A D => ?_)
        have ne_b1_b52 : b1 ≠ b52 := Nat.ne_of_lt (Nat.lt_of_lt_of_eq E_b1.lt hb52.symm)
        have ne_b6_b52 : b6 ≠ b52 := Nat.ne_of_lt (Nat.lt_of_lt_of_eq E_b6.lt hb52.symm)
        have ne_b11_b52 : b11 ≠ b52 := Nat.ne_of_lt (Nat.lt_of_lt_of_eq E_b11.lt hb52.symm)
        have ne_b48_b52 : b48 ≠ b52 := Nat.ne_of_lt (Nat.lt_of_lt_of_eq V_b48.lt hb52.symm)
        have g_b52 : n0 ≤ b52 := Nat.le_trans Z0 (Nat.le_of_eq hb52.symm)
        replace E_b1 := E_b1.ext E
        replace E_b6 := E_b6.ext E
        replace E_b11 := E_b11.ext E
        replace V_b48 := V_b48.ext E
        replace Z0 := Nat.le_trans Z0 E.1
        replace O := O.ext E
        have E_b52 := A
        have F__args_b52 : Fld Z h52 b52 "com/example/varasto/varasto/util/OptionReader" "_args" "[Ljava/lang/String;" .null := D (Or.inr (hw _ (List.mem_of_getElem? (i := 40) rfl))) (ty := (.array (.object "java/lang/String"))) (by decide)
        have F__next_b52 : Fld Z h52 b52 "com/example/varasto/varasto/util/OptionReader" "_next" "I" (.int (0 : Int32)) := D (Or.inl (hw _ (List.mem_of_getElem? (i := 47) rfl))) (ty := .int) (by decide)
        have F__option_b52 : Fld Z h52 b52 "com/example/varasto/varasto/util/OptionReader" "_option" "Ljava/lang/String;" .null := D (Or.inl (hw _ (List.mem_of_getElem? (i := 54) rfl))) (ty := (.object "java/lang/String")) (by decide)
        refine o_dup X hx 151 (hb hby at_150) rfl rfl ?_
        refine o_aload X hx 153 (hb hby at_151) rfl rfl rfl ?_
        refine o_callI X hx hZ rfl hown (hw _ (List.mem_of_getElem? (i := 35) rfl)) (hw _ (List.mem_of_getElem? (i := 36) rfl)) (hw _ (List.mem_of_getElem? (i := 34) rfl)) (hw _ (List.mem_of_getElem? (i := 37) rfl)) (by decide) (rm_oin l Z a0 hw [] b52 b48 _ _ n0 Z0 E_b52 F__args_b52 F__next_b52 F__option_b52 g_b52) eT (by decide) 1 (by decide) (by rw [hml]; rfl) [(.ref b48)] (rest := [(.ref b52)]) (lenOf pd_2 rfl) rfl rfl (Nat.le_of_eq rfl) (by decide) (by decide) 156 (hb hby at_153) rfl (fun v T h53 Lc X eT q => ?_)
        obtain ⟨rfl, N', K1, E', G1, G2, G3⟩ := q
        replace N := Fr.app N N'
        replace E_b1 := E_b1.keep K1
        replace E_b6 := E_b6.keep K1
        replace E_b11 := E_b11.keep K1
        replace V_b48 := V_b48.keep K1 (ninS ne_b48_b52 nin0)
        replace Z0 := Nat.le_trans Z0 K1.1
        replace O := O.keep K1 (allS (P := fun x => n0 ≤ x) g_b52 all0)
        replace E_b52 := E'
        have F1 := G1
        have F2 := G2
        have F3 := G3
        show Wout p e below _ T (mkF m 156 #[.val (.int p1), .val (.int p2), .val (.int p3), .val (.int p4), .val (.int (3 : Int32)), .val (.int (0 : Int32)), .val (.ref b1), .val (.ref b6), .val (.ref b11), .val (.ref b48), .unset, .unset, .unset, .unset] [(.ref b52)])
        refine o_astore X hx 158 (Ls' := #[.val (.int p1), .val (.int p2), .val (.int p3), .val (.int p4), .val (.int (3 : Int32)), .val (.int (0 : Int32)), .val (.ref b1), .val (.ref b6), .val (.ref b11), .val (.ref b48), .val (.ref b52), .unset, .unset, .unset]) (hb hby at_156) rfl rfl rfl ?_
        refine o_aload X hx 160 (hb hby at_158) rfl rfl rfl ?_
        refine o_callV X hx hZ hown (hw _ (List.mem_of_getElem? (i := 41) rfl)) (hw _ (List.mem_of_getElem? (i := 42) rfl)) (hw _ (List.mem_of_getElem? (i := 44) rfl)) (hw _ (List.mem_of_getElem? (i := 43) rfl)) (hw _ (List.mem_of_getElem? (i := 34) rfl)) (hw _ (List.mem_of_getElem? (i := 45) rfl)) (by decide) (rm_has1 l Z a0 hw [] b52 b48 k48 (0 : Int32) (3 : Int32) [(.ref b1), (.ref b6), (.ref b11)] _ n0 Z0 F1 F2 V_b48 (by decide)) eT (by decide) 0 (by decide) (by rw [hml]; rfl) E_b52 [] (rest := []) (lenOf pd_0 rfl) rfl rfl (Nat.le_of_eq rfl) (by decide) (by decide) 163 (hb hby at_160) rfl (fun v T h54 Lc X eT q => ?_)
        obtain ⟨rfl, N', e'⟩ := q
        replace N := Fr.app N N'
        replace eT := eT.trans e'
        show Wout p e below _ T (mkF m 163 #[.val (.int p1), .val (.int p2), .val (.int p3), .val (.int p4), .val (.int (3 : Int32)), .val (.int (0 : Int32)), .val (.ref b1), .val (.ref b6), .val (.ref b11), .val (.ref b48), .val (.ref b52), .unset, .unset, .unset] [(.int (1 : Int32))])
        refine o_ifT X hx 168 (hb hby at_163) rfl (by decide : ¬ (1 : Int32) = (0 : Int32)) ?_
        refine o_aload X hx 170 (hb hby at_168) rfl rfl rfl ?_
        refine o_callV X hx hZ hown (hw _ (List.mem_of_getElem? (i := 48) rfl)) (hw _ (List.mem_of_getElem? (i := 49) rfl)) (hw _ (List.mem_of_getElem? (i := 51) rfl)) (hw _ (List.mem_of_getElem? (i := 50) rfl)) (hw _ (List.mem_of_getElem? (i := 34) rfl)) (hw _ (List.mem_of_getElem? (i := 52) rfl)) (by decide) (rm_nxt l Z a0 hw [] b52 b48 b1 k48 (0 : Int32) (1 : Int32) (3 : Int32) [(.ref b1), (.ref b6), (.ref b11)] _ _ n0 Z0 E_b52 F1 F2 V_b48 F3 g_b52 ne_b48_b52 (by decide) rfl (by decide)) eT (by decide) 0 (by decide) (by rw [hml]; rfl) E_b52 [] (rest := []) (lenOf pd_3 rfl) rfl rfl (Nat.le_of_eq rfl) (by decide) (by decide) 173 (hb hby at_170) rfl (fun v T h55 Lc X eT q => ?_)
        obtain ⟨u', rfl, N', K1, E', G1, G2, G3⟩ := q
        replace N := Fr.app N N'
        replace E_b1 := E_b1.keep K1
        replace E_b6 := E_b6.keep K1
        replace E_b11 := E_b11.keep K1
        replace V_b48 := V_b48.keep K1 (ninS ne_b48_b52 nin0)
        replace Z0 := Nat.le_trans Z0 K1.1
        replace O := O.keep K1 (allS (P := fun x => n0 ≤ x) g_b52 all0)
        replace E_b52 := E'
        replace F1 := G1
        replace F2 := G2
        replace F3 := G3
        show Wout p e below _ T (mkF m 173 #[.val (.int p1), .val (.int p2), .val (.int p3), .val (.int p4), .val (.int (3 : Int32)), .val (.int (0 : Int32)), .val (.ref b1), .val (.ref b6), .val (.ref b11), .val (.ref b48), .val (.ref b52), .unset, .unset, .unset] [(.ref b1)])
        refine o_astore X hx 175 (Ls' := #[.val (.int p1), .val (.int p2), .val (.int p3), .val (.int p4), .val (.int (3 : Int32)), .val (.int (0 : Int32)), .val (.ref b1), .val (.ref b6), .val (.ref b11), .val (.ref b48), .val (.ref b52), .val (.ref b1), .unset, .unset]) (hb hby at_173) rfl rfl rfl ?_
        refine o_aload X hx 177 (hb hby at_175) rfl rfl rfl ?_
        refine o_aload X hx 179 (hb hby at_177) rfl rfl rfl ?_
        refine o_callV X hx hZ hown (hw _ (List.mem_of_getElem? (i := 55) rfl)) (hw _ (List.mem_of_getElem? (i := 56) rfl)) (hw _ (List.mem_of_getElem? (i := 58) rfl)) (hw _ (List.mem_of_getElem? (i := 57) rfl)) (hw _ (List.mem_of_getElem? (i := 3) rfl)) (hw _ (List.mem_of_getElem? (i := 59) rfl)) (by decide) (rm_seq l Z a0 hw [] b1 _ n0 Z0) eT (by decide) 0 (by decide) (by rw [hml]; rfl) E_b1 [(.ref b1)] (rest := []) (lenOf pd_4 rfl) rfl rfl (Nat.le_of_eq rfl) (by decide) (by decide) 182 (hb hby at_179) rfl (fun v T h56 Lc X eT q => ?_)
        obtain ⟨rfl, N', e'⟩ := q
        replace N := Fr.app N N'
        replace eT := eT.trans e'
        show Wout p e below _ T (mkF m 182 #[.val (.int p1), .val (.int p2), .val (.int p3), .val (.int p4), .val (.int (3 : Int32)), .val (.int (0 : Int32)), .val (.ref b1), .val (.ref b6), .val (.ref b11), .val (.ref b48), .val (.ref b52), .val (.ref b1), .unset, .unset] [(.int (1 : Int32))])
        refine o_ifT X hx 187 (hb hby at_182) rfl (by decide : ¬ (1 : Int32) = (0 : Int32)) ?_
        refine o_iconst X hx 188 (1 : Int32) (hb hby at_187) rfl rfl ?_
        refine o_istore X hx 190 (Ls' := #[.val (.int p1), .val (.int p2), .val (.int p3), .val (.int p4), .val (.int (3 : Int32)), .val (.int (0 : Int32)), .val (.ref b1), .val (.ref b6), .val (.ref b11), .val (.ref b48), .val (.ref b52), .val (.ref b1), .val (.int (1 : Int32)), .unset]) (hb hby at_188) rfl rfl ?_
        refine o_iload X hx 192 (hb hby at_190) rfl rfl ?_
        refine o_ifT X hx 217 (hb hby at_192) rfl (by decide : (0 : Int32) = (0 : Int32)) ?_
        refine o_iload X hx 219 (hb hby at_217) rfl rfl ?_
        refine o_iload X hx 221 (hb hby at_219) rfl rfl ?_
        refine o_icmpF X hx 224 (hb hby at_221) rfl (by decide : (1 : Int32) < (3 : Int32)) ?_
        refine o_aload X hx 226 (hb hby at_224) rfl rfl rfl ?_
        refine o_callV X hx hZ hown (hw _ (List.mem_of_getElem? (i := 41) rfl)) (hw _ (List.mem_of_getElem? (i := 42) rfl)) (hw _ (List.mem_of_getElem? (i := 44) rfl)) (hw _ (List.mem_of_getElem? (i := 43) rfl)) (hw _ (List.mem_of_getElem? (i := 34) rfl)) (hw _ (List.mem_of_getElem? (i := 45) rfl)) (by decide) (rm_has1 l Z a0 hw [] b52 b48 k48 (1 : Int32) (3 : Int32) [(.ref b1), (.ref b6), (.ref b11)] _ n0 Z0 F1 F2 V_b48 (by decide)) eT (by decide) 0 (by decide) (by rw [hml]; rfl) E_b52 [] (rest := []) (lenOf pd_0 rfl) rfl rfl (Nat.le_of_eq rfl) (by decide) (by decide) 229 (hb hby at_226) rfl (fun v T h57 Lc X eT q => ?_)
        obtain ⟨rfl, N', e'⟩ := q
        replace N := Fr.app N N'
        replace eT := eT.trans e'
        show Wout p e below _ T (mkF m 229 #[.val (.int p1), .val (.int p2), .val (.int p3), .val (.int p4), .val (.int (3 : Int32)), .val (.int (0 : Int32)), .val (.ref b1), .val (.ref b6), .val (.ref b11), .val (.ref b48), .val (.ref b52), .val (.ref b1), .val (.int (1 : Int32)), .unset] [(.int (1 : Int32))])
        refine o_ifT X hx 234 (hb hby at_229) rfl (by decide : ¬ (1 : Int32) = (0 : Int32)) ?_
        refine o_aload X hx 236 (hb hby at_234) rfl rfl rfl ?_
        refine o_callV X hx hZ hown (hw _ (List.mem_of_getElem? (i := 48) rfl)) (hw _ (List.mem_of_getElem? (i := 49) rfl)) (hw _ (List.mem_of_getElem? (i := 51) rfl)) (hw _ (List.mem_of_getElem? (i := 50) rfl)) (hw _ (List.mem_of_getElem? (i := 34) rfl)) (hw _ (List.mem_of_getElem? (i := 52) rfl)) (by decide) (rm_nxt l Z a0 hw [] b52 b48 b6 k48 (1 : Int32) (2 : Int32) (3 : Int32) [(.ref b1), (.ref b6), (.ref b11)] _ _ n0 Z0 E_b52 F1 F2 V_b48 F3 g_b52 ne_b48_b52 (by decide) rfl (by decide)) eT (by decide) 0 (by decide) (by rw [hml]; rfl) E_b52 [] (rest := []) (lenOf pd_3 rfl) rfl rfl (Nat.le_of_eq rfl) (by decide) (by decide) 239 (hb hby at_236) rfl (fun v T h58 Lc X eT q => ?_)
        obtain ⟨u', rfl, N', K1, E', G1, G2, G3⟩ := q
        replace N := Fr.app N N'
        replace E_b1 := E_b1.keep K1
        replace E_b6 := E_b6.keep K1
        replace E_b11 := E_b11.keep K1
        replace V_b48 := V_b48.keep K1 (ninS ne_b48_b52 nin0)
        replace Z0 := Nat.le_trans Z0 K1.1
        replace O := O.keep K1 (allS (P := fun x => n0 ≤ x) g_b52 all0)
        replace E_b52 := E'
        replace F1 := G1
        replace F2 := G2
        replace F3 := G3
        show Wout p e below _ T (mkF m 239 #[.val (.int p1), .val (.int p2), .val (.int p3), .val (.int p4), .val (.int (3 : Int32)), .val (.int (0 : Int32)), .val (.ref b1), .val (.ref b6), .val (.ref b11), .val (.ref b48), .val (.ref b52), .val (.ref b1), .val (.int (1 : Int32)), .unset] [(.ref b6)])
        refine o_astore X hx 241 (Ls' := #[.val (.int p1), .val (.int p2), .val (.int p3), .val (.int p4), .val (.int (3 : Int32)), .val (.int (0 : Int32)), .val (.ref b1), .val (.ref b6), .val (.ref b11), .val (.ref b48), .val (.ref b52), .val (.ref b1), .val (.int (1 : Int32)), .val (.ref b6)]) (hb hby at_239) rfl rfl rfl ?_
        refine o_iload X hx 243 (hb hby at_241) rfl rfl ?_
        refine o_aload X hx 245 (hb hby at_243) rfl rfl rfl ?_
        refine o_aload X hx 247 (hb hby at_245) rfl rfl rfl ?_
        refine o_callS X hx hZ hown (hw _ (List.mem_of_getElem? (i := 60) rfl)) (hw _ (List.mem_of_getElem? (i := 61) rfl)) (hw _ (List.mem_of_getElem? (i := 62) rfl)) (hw _ (List.mem_of_getElem? (i := 63) rfl)) (by decide) (rm_pick1 l Z a0 hw [] (1 : Int32) b6 b11 _ n0 Z0 (by decide)) eT (by decide) 0 (by decide) (by rw [hml]; rfl) [(.int (1 : Int32)), (.ref b6), (.ref b11)] (rest := []) (lenOf pd_5 rfl) rfl rfl (Nat.le_of_eq rfl) (by decide) (by decide) 250 (hb hby at_247) rfl (fun v T h59 Lc X eT q => ?_)
        obtain ⟨rfl, N', e'⟩ := q
        replace N := Fr.app N N'
        replace eT := eT.trans e'
        show Wout p e below _ T (mkF m 250 #[.val (.int p1), .val (.int p2), .val (.int p3), .val (.int p4), .val (.int (3 : Int32)), .val (.int (0 : Int32)), .val (.ref b1), .val (.ref b6), .val (.ref b11), .val (.ref b48), .val (.ref b52), .val (.ref b1), .val (.int (1 : Int32)), .val (.ref b6)] [(.ref b6)])
        refine o_aload X hx 252 (hb hby at_250) rfl rfl rfl ?_
        refine o_callV X hx hZ hown (hw _ (List.mem_of_getElem? (i := 55) rfl)) (hw _ (List.mem_of_getElem? (i := 56) rfl)) (hw _ (List.mem_of_getElem? (i := 58) rfl)) (hw _ (List.mem_of_getElem? (i := 57) rfl)) (hw _ (List.mem_of_getElem? (i := 3) rfl)) (hw _ (List.mem_of_getElem? (i := 59) rfl)) (by decide) (rm_seq l Z a0 hw [] b6 _ n0 Z0) eT (by decide) 0 (by decide) (by rw [hml]; rfl) E_b6 [(.ref b6)] (rest := []) (lenOf pd_4 rfl) rfl rfl (Nat.le_of_eq rfl) (by decide) (by decide) 255 (hb hby at_252) rfl (fun v T h60 Lc X eT q => ?_)
        obtain ⟨rfl, N', e'⟩ := q
        replace N := Fr.app N N'
        replace eT := eT.trans e'
        show Wout p e below _ T (mkF m 255 #[.val (.int p1), .val (.int p2), .val (.int p3), .val (.int p4), .val (.int (3 : Int32)), .val (.int (0 : Int32)), .val (.ref b1), .val (.ref b6), .val (.ref b11), .val (.ref b48), .val (.ref b52), .val (.ref b1), .val (.int (1 : Int32)), .val (.ref b6)] [(.int (1 : Int32))])
        refine o_ifT X hx 260 (hb hby at_255) rfl (by decide : ¬ (1 : Int32) = (0 : Int32)) ?_
        refine o_iload X hx 262 (hb hby at_260) rfl rfl ?_
        refine o_iconst X hx 263 (1 : Int32) (hb hby at_262) rfl rfl ?_
        refine o_iadd X hx 264 (hb hby at_263) rfl ?_
        rw [show ((1 : Int32) + (1 : Int32)) = (2 : Int32) from by decide]
        refine o_istore X hx 266 (Ls' := #[.val (.int p1), .val (.int p2), .val (.int p3), .val (.int p4), .val (.int (3 : Int32)), .val (.int (0 : Int32)), .val (.ref b1), .val (.ref b6), .val (.ref b11), .val (.ref b48), .val (.ref b52), .val (.ref b1), .val (.int (2 : Int32)), .val (.ref b6)]) (hb hby at_264) rfl rfl ?_
        refine o_iload X hx 268 (hb hby at_266) rfl rfl ?_
        refine o_iload X hx 270 (hb hby at_268) rfl rfl ?_
        refine o_icmpF X hx 273 (hb hby at_270) rfl (by decide : (2 : Int32) < (3 : Int32)) ?_
        refine o_aload X hx 275 (hb hby at_273) rfl rfl rfl ?_
        refine o_callV X hx hZ hown (hw _ (List.mem_of_getElem? (i := 41) rfl)) (hw _ (List.mem_of_getElem? (i := 42) rfl)) (hw _ (List.mem_of_getElem? (i := 44) rfl)) (hw _ (List.mem_of_getElem? (i := 43) rfl)) (hw _ (List.mem_of_getElem? (i := 34) rfl)) (hw _ (List.mem_of_getElem? (i := 45) rfl)) (by decide) (rm_has1 l Z a0 hw [] b52 b48 k48 (2 : Int32) (3 : Int32) [(.ref b1), (.ref b6), (.ref b11)] _ n0 Z0 F1 F2 V_b48 (by decide)) eT (by decide) 0 (by decide) (by rw [hml]; rfl) E_b52 [] (rest := []) (lenOf pd_0 rfl) rfl rfl (Nat.le_of_eq rfl) (by decide) (by decide) 278 (hb hby at_275) rfl (fun v T h61 Lc X eT q => ?_)
        obtain ⟨rfl, N', e'⟩ := q
        replace N := Fr.app N N'
        replace eT := eT.trans e'
        show Wout p e below _ T (mkF m 278 #[.val (.int p1), .val (.int p2), .val (.int p3), .val (.int p4), .val (.int (3 : Int32)), .val (.int (0 : Int32)), .val (.ref b1), .val (.ref b6), .val (.ref b11), .val (.ref b48), .val (.ref b52), .val (.ref b1), .val (.int (2 : Int32)), .val (.ref b6)] [(.int (1 : Int32))])
        refine o_ifT X hx 283 (hb hby at_278) rfl (by decide : ¬ (1 : Int32) = (0 : Int32)) ?_
        refine o_aload X hx 285 (hb hby at_283) rfl rfl rfl ?_
        refine o_callV X hx hZ hown (hw _ (List.mem_of_getElem? (i := 48) rfl)) (hw _ (List.mem_of_getElem? (i := 49) rfl)) (hw _ (List.mem_of_getElem? (i := 51) rfl)) (hw _ (List.mem_of_getElem? (i := 50) rfl)) (hw _ (List.mem_of_getElem? (i := 34) rfl)) (hw _ (List.mem_of_getElem? (i := 52) rfl)) (by decide) (rm_nxt l Z a0 hw [] b52 b48 b11 k48 (2 : Int32) (3 : Int32) (3 : Int32) [(.ref b1), (.ref b6), (.ref b11)] _ _ n0 Z0 E_b52 F1 F2 V_b48 F3 g_b52 ne_b48_b52 (by decide) rfl (by decide)) eT (by decide) 0 (by decide) (by rw [hml]; rfl) E_b52 [] (rest := []) (lenOf pd_3 rfl) rfl rfl (Nat.le_of_eq rfl) (by decide) (by decide) 288 (hb hby at_285) rfl (fun v T h62 Lc X eT q => ?_)
        obtain ⟨u', rfl, N', K1, E', G1, G2, G3⟩ := q
        replace N := Fr.app N N'
        replace E_b1 := E_b1.keep K1
        replace E_b6 := E_b6.keep K1
        replace E_b11 := E_b11.keep K1
        replace V_b48 := V_b48.keep K1 (ninS ne_b48_b52 nin0)
        replace Z0 := Nat.le_trans Z0 K1.1
        replace O := O.keep K1 (allS (P := fun x => n0 ≤ x) g_b52 all0)
        replace E_b52 := E'
        replace F1 := G1
        replace F2 := G2
        replace F3 := G3
        show Wout p e below _ T (mkF m 288 #[.val (.int p1), .val (.int p2), .val (.int p3), .val (.int p4), .val (.int (3 : Int32)), .val (.int (0 : Int32)), .val (.ref b1), .val (.ref b6), .val (.ref b11), .val (.ref b48), .val (.ref b52), .val (.ref b1), .val (.int (2 : Int32)), .val (.ref b6)] [(.ref b11)])
        refine o_astore X hx 290 (Ls' := #[.val (.int p1), .val (.int p2), .val (.int p3), .val (.int p4), .val (.int (3 : Int32)), .val (.int (0 : Int32)), .val (.ref b1), .val (.ref b6), .val (.ref b11), .val (.ref b48), .val (.ref b52), .val (.ref b1), .val (.int (2 : Int32)), .val (.ref b11)]) (hb hby at_288) rfl rfl rfl ?_
        refine o_iload X hx 292 (hb hby at_290) rfl rfl ?_
        refine o_aload X hx 294 (hb hby at_292) rfl rfl rfl ?_
        refine o_aload X hx 296 (hb hby at_294) rfl rfl rfl ?_
        refine o_callS X hx hZ hown (hw _ (List.mem_of_getElem? (i := 60) rfl)) (hw _ (List.mem_of_getElem? (i := 61) rfl)) (hw _ (List.mem_of_getElem? (i := 62) rfl)) (hw _ (List.mem_of_getElem? (i := 63) rfl)) (by decide) (rm_pick2 l Z a0 hw [] (2 : Int32) b6 b11 _ n0 Z0 (by decide)) eT (by decide) 0 (by decide) (by rw [hml]; rfl) [(.int (2 : Int32)), (.ref b6), (.ref b11)] (rest := []) (lenOf pd_5 rfl) rfl rfl (Nat.le_of_eq rfl) (by decide) (by decide) 299 (hb hby at_296) rfl (fun v T h63 Lc X eT q => ?_)
        obtain ⟨rfl, N', e'⟩ := q
        replace N := Fr.app N N'
        replace eT := eT.trans e'
        show Wout p e below _ T (mkF m 299 #[.val (.int p1), .val (.int p2), .val (.int p3), .val (.int p4), .val (.int (3 : Int32)), .val (.int (0 : Int32)), .val (.ref b1), .val (.ref b6), .val (.ref b11), .val (.ref b48), .val (.ref b52), .val (.ref b1), .val (.int (2 : Int32)), .val (.ref b11)] [(.ref b11)])
        refine o_aload X hx 301 (hb hby at_299) rfl rfl rfl ?_
        refine o_callV X hx hZ hown (hw _ (List.mem_of_getElem? (i := 55) rfl)) (hw _ (List.mem_of_getElem? (i := 56) rfl)) (hw _ (List.mem_of_getElem? (i := 58) rfl)) (hw _ (List.mem_of_getElem? (i := 57) rfl)) (hw _ (List.mem_of_getElem? (i := 3) rfl)) (hw _ (List.mem_of_getElem? (i := 59) rfl)) (by decide) (rm_seq l Z a0 hw [] b11 _ n0 Z0) eT (by decide) 0 (by decide) (by rw [hml]; rfl) E_b11 [(.ref b11)] (rest := []) (lenOf pd_4 rfl) rfl rfl (Nat.le_of_eq rfl) (by decide) (by decide) 304 (hb hby at_301) rfl (fun v T h64 Lc X eT q => ?_)
        obtain ⟨rfl, N', e'⟩ := q
        replace N := Fr.app N N'
        replace eT := eT.trans e'
        show Wout p e below _ T (mkF m 304 #[.val (.int p1), .val (.int p2), .val (.int p3), .val (.int p4), .val (.int (3 : Int32)), .val (.int (0 : Int32)), .val (.ref b1), .val (.ref b6), .val (.ref b11), .val (.ref b48), .val (.ref b52), .val (.ref b1), .val (.int (2 : Int32)), .val (.ref b11)] [(.int (1 : Int32))])
        refine o_ifT X hx 309 (hb hby at_304) rfl (by decide : ¬ (1 : Int32) = (0 : Int32)) ?_
        refine o_iload X hx 311 (hb hby at_309) rfl rfl ?_
        refine o_iconst X hx 312 (1 : Int32) (hb hby at_311) rfl rfl ?_
        refine o_iadd X hx 313 (hb hby at_312) rfl ?_
        rw [show ((2 : Int32) + (1 : Int32)) = (3 : Int32) from by decide]
        refine o_istore X hx 315 (Ls' := #[.val (.int p1), .val (.int p2), .val (.int p3), .val (.int p4), .val (.int (3 : Int32)), .val (.int (0 : Int32)), .val (.ref b1), .val (.ref b6), .val (.ref b11), .val (.ref b48), .val (.ref b52), .val (.ref b1), .val (.int (3 : Int32)), .val (.ref b11)]) (hb hby at_313) rfl rfl ?_
        refine o_aload X hx 317 (hb hby at_315) rfl rfl rfl ?_
        refine o_callV X hx hZ hown (hw _ (List.mem_of_getElem? (i := 41) rfl)) (hw _ (List.mem_of_getElem? (i := 42) rfl)) (hw _ (List.mem_of_getElem? (i := 44) rfl)) (hw _ (List.mem_of_getElem? (i := 43) rfl)) (hw _ (List.mem_of_getElem? (i := 34) rfl)) (hw _ (List.mem_of_getElem? (i := 45) rfl)) (by decide) (rm_has0 l Z a0 hw [] b52 b48 k48 (3 : Int32) (3 : Int32) [(.ref b1), (.ref b6), (.ref b11)] _ n0 Z0 F1 F2 V_b48 (by decide)) eT (by decide) 0 (by decide) (by rw [hml]; rfl) E_b52 [] (rest := []) (lenOf pd_0 rfl) rfl rfl (Nat.le_of_eq rfl) (by decide) (by decide) 320 (hb hby at_317) rfl (fun v T h65 Lc X eT q => ?_)
        obtain ⟨rfl, N', e'⟩ := q
        replace N := Fr.app N N'
        replace eT := eT.trans e'
        show Wout p e below _ T (mkF m 320 #[.val (.int p1), .val (.int p2), .val (.int p3), .val (.int p4), .val (.int (3 : Int32)), .val (.int (0 : Int32)), .val (.ref b1), .val (.ref b6), .val (.ref b11), .val (.ref b48), .val (.ref b52), .val (.ref b1), .val (.int (3 : Int32)), .val (.ref b11)] [(.int (0 : Int32))])
        refine o_ifF X hx 323 (hb hby at_320) rfl (by decide : (0 : Int32) = (0 : Int32)) ?_
        refine o_iconst X hx 324 (1 : Int32) (hb hby at_323) rfl rfl ?_
        refine o_goto X hx 328 (hb hby at_324) rfl ?_
        exact o_retI X hx hlk hret rfl (by simp) (hb hby at_328) (by decide) (by decide) (by rw [eT]; exact ⟨rfl, N, trivial⟩)
      · show Wout p e below _ T (mkF m 110 #[.val (.int p1), .val (.int p2), .val (.int p3), .val (.int p4), .val (.int (3 : Int32)), .val (.int (1 : Int32)), .val (.ref b1), .val (.ref b6), .val (.ref b11), .unset, .unset, .unset, .unset, .unset] [])
        refine o_iload X hx 112 (hb hby at_110) rfl rfl ?_
        refine o_anewarray X hx hZ hown (hw _ (List.mem_of_getElem? (i := 1) rfl)) (hw _ (List.mem_of_getElem? (i := 31) rfl)) eT 115 (hb hby at_112) rfl (by decide) 3 (by decide) (by decide) (by decide) (by decide) (fun T h66 b66 k66 hb66 X eT E A Ov66 => ?_)
        have ne_b1_b66 : b1 ≠ b66 := Nat.ne_of_lt (Nat.lt_of_lt_of_eq E_b1.lt hb66.symm)
        have ne_b6_b66 : b6 ≠ b66 := Nat.ne_of_lt (Nat.lt_of_lt_of_eq E_b6.lt hb66.symm)
        have ne_b11_b66 : b11 ≠ b66 := Nat.ne_of_lt (Nat.lt_of_lt_of_eq E_b11.lt hb66.symm)
        have g_b66 : n0 ≤ b66 := Nat.le_trans Z0 (Nat.le_of_eq hb66.symm)
        replace E_b1 := E_b1.ext E
        replace E_b6 := E_b6.ext E
        replace E_b11 := E_b11.ext E
        replace Z0 := Nat.le_trans Z0 E.1
        replace O := O.ext E
        have V_b66 : Arv Z h66 b66 k66 (.object "java/lang/String") (3 : Int32) [.null, .null, .null] .null := A.pad (pad_rep [] .null 3)
        refine o_astore X hx 117 (Ls' := #[.val (.int p1), .val (.int p2), .val (.int p3), .val (.int p4), .val (.int (3 : Int32)), .val (.int (1 : Int32)), .val (.ref b1), .val (.ref b6), .val (.ref b11), .val (.ref b66), .unset, .unset, .unset, .unset]) (hb hby at_115) rfl rfl rfl ?_
        refine o_aload X hx 119 (hb hby at_117) rfl rfl rfl ?_
        refine o_iconst X hx 120 (0 : Int32) (hb hby at_119) rfl rfl ?_
        refine o_aload X hx 122 (hb hby at_120) rfl rfl rfl ?_
        refine o_aastore X hx hZ eT V_b66 rfl ⟨by decide, by decide⟩ 0 rfl (Nat.le_of_ble_eq_true rfl) (vs' := [(.ref b1), .null, .null]) rfl rfl (Sto.arv V_b66 Ov66 (Ins.self E_b1)) N g_b66 123 (hb hby at_122) rfl (fun T h67 locs X eT W V' N => ?_)
        replace E_b1 := E_b1.wr W
        replace E_b6 := E_b6.wr W
        replace E_b11 := E_b11.wr W
        replace Z0 := Nat.le_trans Z0 (Keep.of_wr W).1
        replace O := O.wr W g_b66
        replace V_b66 := V'
        refine o_iload X hx 125 (hb hby at_123) rfl rfl ?_
        refine o_iconst X hx 126 (2 : Int32) (hb hby at_125) rfl rfl ?_
        refine o_icmpF X hx 129 (hb hby at_126) rfl (by decide : ¬ (3 : Int32) < (2 : Int32)) ?_
        refine o_aload X hx 131 (hb hby at_129) rfl rfl rfl ?_
        refine o_iconst X hx 132 (1 : Int32) (hb hby at_131) rfl rfl ?_
        refine o_aload X hx 134 (hb hby at_132) rfl rfl rfl ?_
        refine o_aastore X hx hZ eT V_b66 rfl ⟨by decide, by decide⟩ 1 rfl (Nat.le_of_ble_eq_true rfl) (vs' := [(.ref b1), (.ref b6), .null]) rfl rfl (Sto.arv V_b66 Ov66 (Ins.self E_b6)) N g_b66 135 (hb hby at_134) rfl (fun T h68 locs X eT W V' N => ?_)
        replace E_b1 := E_b1.wr W
        replace E_b6 := E_b6.wr W
        replace E_b11 := E_b11.wr W
        replace Z0 := Nat.le_trans Z0 (Keep.of_wr W).1
        replace O := O.wr W g_b66
        replace V_b66 := V'
        refine o_iload X hx 137 (hb hby at_135) rfl rfl ?_
        refine o_iconst X hx 138 (3 : Int32) (hb hby at_137) rfl rfl ?_
        refine o_icmpF X hx 141 (hb hby at_138) rfl (by decide : ¬ (3 : Int32) < (3 : Int32)) ?_
        refine o_aload X hx 143 (hb hby at_141) rfl rfl rfl ?_
        refine o_iconst X hx 144 (2 : Int32) (hb hby at_143) rfl rfl ?_
        refine o_aload X hx 146 (hb hby at_144) rfl rfl rfl ?_
        refine o_aastore X hx hZ eT V_b66 rfl ⟨by decide, by decide⟩ 2 rfl (Nat.le_of_ble_eq_true rfl) (vs' := [(.ref b1), (.ref b6), (.ref b11)]) rfl rfl (Sto.arv V_b66 Ov66 (Ins.self E_b11)) N g_b66 147 (hb hby at_146) rfl (fun T h69 locs X eT W V' N => ?_)
        replace E_b1 := E_b1.wr W
        replace E_b6 := E_b6.wr W
        replace E_b11 := E_b11.wr W
        replace Z0 := Nat.le_trans Z0 (Keep.of_wr W).1
        replace O := O.wr W g_b66
        replace V_b66 := V'
        refine o_new X hx hZ hown (hw _ (List.mem_of_getElem? (i := 32) rfl)) (hw _ (List.mem_of_getElem? (i := 33) rfl)) (hw _ (List.mem_of_getElem? (i := 34) rfl)) eT 150 (hb hby at_147) rfl (by decide) (by decide) (fun T h70 b70 hb70 X eT E A D => ?_)
        have ne_b1_b70 : b1 ≠ b70 := Nat.ne_of_lt (Nat.lt_of_lt_of_eq E_b1.lt hb70.symm)
        have ne_b6_b70 : b6 ≠ b70 := Nat.ne_of_lt (Nat.lt_of_lt_of_eq E_b6.lt hb70.symm)
        have ne_b11_b70 : b11 ≠ b70 := Nat.ne_of_lt (Nat.lt_of_lt_of_eq E_b11.lt hb70.symm)
        have ne_b66_b70 : b66 ≠ b70 := Nat.ne_of_lt (Nat.lt_of_lt_of_eq V_b66.lt hb70.symm)
        have g_b70 : n0 ≤ b70 := Nat.le_trans Z0 (Nat.le_of_eq hb70.symm)
        replace E_b1 := E_b1.ext E
        replace E_b6 := E_b6.ext E
        replace E_b11 := E_b11.ext E
        replace V_b66 := V_b66.ext E
        replace Z0 := Nat.le_trans Z0 E.1
        replace O := O.ext E
        have E_b70 := A
        have F__args_b70 : Fld Z h70 b70 "com/example/varasto/varasto/util/OptionReader" "_args" "[Ljava/lang/String;" .null := D (Or.inr (hw _ (List.mem_of_getElem? (i := 40) rfl))) (ty := (.array (.object "java/lang/String"))) (by decide)
        have F__next_b70 : Fld Z h70 b70 "com/example/varasto/varasto/util/OptionReader" "_next" "I" (.int (0 : Int32)) := D (Or.inl (hw _ (List.mem_of_getElem? (i := 47) rfl))) (ty := .int) (by decide)
        have F__option_b70 : Fld Z h70 b70 "com/example/varasto/varasto/util/OptionReader" "_option" "Ljava/lang/String;" .null := D (Or.inl (hw _ (List.mem_of_getElem? (i := 54) rfl))) (ty := (.object "java/lang/String")) (by decide)
        refine o_dup X hx 151 (hb hby at_150) rfl rfl ?_
        refine o_aload X hx 153 (hb hby at_151) rfl rfl rfl ?_
        refine o_callI X hx hZ rfl hown (hw _ (List.mem_of_getElem? (i := 35) rfl)) (hw _ (List.mem_of_getElem? (i := 36) rfl)) (hw _ (List.mem_of_getElem? (i := 34) rfl)) (hw _ (List.mem_of_getElem? (i := 37) rfl)) (by decide) (rm_oin l Z a0 hw [] b70 b66 _ _ n0 Z0 E_b70 F__args_b70 F__next_b70 F__option_b70 g_b70) eT (by decide) 1 (by decide) (by rw [hml]; rfl) [(.ref b66)] (rest := [(.ref b70)]) (lenOf pd_2 rfl) rfl rfl (Nat.le_of_eq rfl) (by decide) (by decide) 156 (hb hby at_153) rfl (fun v T h71 Lc X eT q => ?_)
        obtain ⟨rfl, N', K1, E', G1, G2, G3⟩ := q
        replace N := Fr.app N N'
        replace E_b1 := E_b1.keep K1
        replace E_b6 := E_b6.keep K1
        replace E_b11 := E_b11.keep K1
        replace V_b66 := V_b66.keep K1 (ninS ne_b66_b70 nin0)
        replace Z0 := Nat.le_trans Z0 K1.1
        replace O := O.keep K1 (allS (P := fun x => n0 ≤ x) g_b70 all0)
        replace E_b70 := E'
        have F1 := G1
        have F2 := G2
        have F3 := G3
        show Wout p e below _ T (mkF m 156 #[.val (.int p1), .val (.int p2), .val (.int p3), .val (.int p4), .val (.int (3 : Int32)), .val (.int (1 : Int32)), .val (.ref b1), .val (.ref b6), .val (.ref b11), .val (.ref b66), .unset, .unset, .unset, .unset] [(.ref b70)])
        refine o_astore X hx 158 (Ls' := #[.val (.int p1), .val (.int p2), .val (.int p3), .val (.int p4), .val (.int (3 : Int32)), .val (.int (1 : Int32)), .val (.ref b1), .val (.ref b6), .val (.ref b11), .val (.ref b66), .val (.ref b70), .unset, .unset, .unset]) (hb hby at_156) rfl rfl rfl ?_
        refine o_aload X hx 160 (hb hby at_158) rfl rfl rfl ?_
        refine o_callV X hx hZ hown (hw _ (List.mem_of_getElem? (i := 41) rfl)) (hw _ (List.mem_of_getElem? (i := 42) rfl)) (hw _ (List.mem_of_getElem? (i := 44) rfl)) (hw _ (List.mem_of_getElem? (i := 43) rfl)) (hw _ (List.mem_of_getElem? (i := 34) rfl)) (hw _ (List.mem_of_getElem? (i := 45) rfl)) (by decide) (rm_has1 l Z a0 hw [] b70 b66 k66 (0 : Int32) (3 : Int32) [(.ref b1), (.ref b6), (.ref b11)] _ n0 Z0 F1 F2 V_b66 (by decide)) eT (by decide) 0 (by decide) (by rw [hml]; rfl) E_b70 [] (rest := []) (lenOf pd_0 rfl) rfl rfl (Nat.le_of_eq rfl) (by decide) (by decide) 163 (hb hby at_160) rfl (fun v T h72 Lc X eT q => ?_)
        obtain ⟨rfl, N', e'⟩ := q
        replace N := Fr.app N N'
        replace eT := eT.trans e'
        show Wout p e below _ T (mkF m 163 #[.val (.int p1), .val (.int p2), .val (.int p3), .val (.int p4), .val (.int (3 : Int32)), .val (.int (1 : Int32)), .val (.ref b1), .val (.ref b6), .val (.ref b11), .val (.ref b66), .val (.ref b70), .unset, .unset, .unset] [(.int (1 : Int32))])
        refine o_ifT X hx 168 (hb hby at_163) rfl (by decide : ¬ (1 : Int32) = (0 : Int32)) ?_
        refine o_aload X hx 170 (hb hby at_168) rfl rfl rfl ?_
        refine o_callV X hx hZ hown (hw _ (List.mem_of_getElem? (i := 48) rfl)) (hw _ (List.mem_of_getElem? (i := 49) rfl)) (hw _ (List.mem_of_getElem? (i := 51) rfl)) (hw _ (List.mem_of_getElem? (i := 50) rfl)) (hw _ (List.mem_of_getElem? (i := 34) rfl)) (hw _ (List.mem_of_getElem? (i := 52) rfl)) (by decide) (rm_nxt l Z a0 hw [] b70 b66 b1 k66 (0 : Int32) (1 : Int32) (3 : Int32) [(.ref b1), (.ref b6), (.ref b11)] _ _ n0 Z0 E_b70 F1 F2 V_b66 F3 g_b70 ne_b66_b70 (by decide) rfl (by decide)) eT (by decide) 0 (by decide) (by rw [hml]; rfl) E_b70 [] (rest := []) (lenOf pd_3 rfl) rfl rfl (Nat.le_of_eq rfl) (by decide) (by decide) 173 (hb hby at_170) rfl (fun v T h73 Lc X eT q => ?_)
        obtain ⟨u', rfl, N', K1, E', G1, G2, G3⟩ := q
        replace N := Fr.app N N'
        replace E_b1 := E_b1.keep K1
        replace E_b6 := E_b6.keep K1
        replace E_b11 := E_b11.keep K1
        replace V_b66 := V_b66.keep K1 (ninS ne_b66_b70 nin0)
        replace Z0 := Nat.le_trans Z0 K1.1
        replace O := O.keep K1 (allS (P := fun x => n0 ≤ x) g_b70 all0)
        replace E_b70 := E'
        replace F1 := G1
        replace F2 := G2
        replace F3 := G3
        show Wout p e below _ T (mkF m 173 #[.val (.int p1), .val (.int p2), .val (.int p3), .val (.int p4), .val (.int (3 : Int32)), .val (.int (1 : Int32)), .val (.ref b1), .val (.ref b6), .val (.ref b11), .val (.ref b66), .val (.ref b70), .unset, .unset, .unset] [(.ref b1)])
        refine o_astore X hx 175 (Ls' := #[.val (.int p1), .val (.int p2), .val (.int p3), .val (.int p4), .val (.int (3 : Int32)), .val (.int (1 : Int32)), .val (.ref b1), .val (.ref b6), .val (.ref b11), .val (.ref b66), .val (.ref b70), .val (.ref b1), .unset, .unset]) (hb hby at_173) rfl rfl rfl ?_
        refine o_aload X hx 177 (hb hby at_175) rfl rfl rfl ?_
        refine o_aload X hx 179 (hb hby at_177) rfl rfl rfl ?_
        refine o_callV X hx hZ hown (hw _ (List.mem_of_getElem? (i := 55) rfl)) (hw _ (List.mem_of_getElem? (i := 56) rfl)) (hw _ (List.mem_of_getElem? (i := 58) rfl)) (hw _ (List.mem_of_getElem? (i := 57) rfl)) (hw _ (List.mem_of_getElem? (i := 3) rfl)) (hw _ (List.mem_of_getElem? (i := 59) rfl)) (by decide) (rm_seq l Z a0 hw [] b1 _ n0 Z0) eT (by decide) 0 (by decide) (by rw [hml]; rfl) E_b1 [(.ref b1)] (rest := []) (lenOf pd_4 rfl) rfl rfl (Nat.le_of_eq rfl) (by decide) (by decide) 182 (hb hby at_179) rfl (fun v T h74 Lc X eT q => ?_)
        obtain ⟨rfl, N', e'⟩ := q
        replace N := Fr.app N N'
        replace eT := eT.trans e'
        show Wout p e below _ T (mkF m 182 #[.val (.int p1), .val (.int p2), .val (.int p3), .val (.int p4), .val (.int (3 : Int32)), .val (.int (1 : Int32)), .val (.ref b1), .val (.ref b6), .val (.ref b11), .val (.ref b66), .val (.ref b70), .val (.ref b1), .unset, .unset] [(.int (1 : Int32))])
        refine o_ifT X hx 187 (hb hby at_182) rfl (by decide : ¬ (1 : Int32) = (0 : Int32)) ?_
        refine o_iconst X hx 188 (1 : Int32) (hb hby at_187) rfl rfl ?_
        refine o_istore X hx 190 (Ls' := #[.val (.int p1), .val (.int p2), .val (.int p3), .val (.int p4), .val (.int (3 : Int32)), .val (.int (1 : Int32)), .val (.ref b1), .val (.ref b6), .val (.ref b11), .val (.ref b66), .val (.ref b70), .val (.ref b1), .val (.int (1 : Int32)), .unset]) (hb hby at_188) rfl rfl ?_
        refine o_iload X hx 192 (hb hby at_190) rfl rfl ?_
        refine o_ifF X hx 195 (hb hby at_192) rfl (by decide : ¬ (1 : Int32) = (0 : Int32)) ?_
        refine o_aload X hx 197 (hb hby at_195) rfl rfl rfl ?_
        refine o_callV X hx hZ hown (hw _ (List.mem_of_getElem? (i := 64) rfl)) (hw _ (List.mem_of_getElem? (i := 65) rfl)) (hw _ (List.mem_of_getElem? (i := 67) rfl)) (hw _ (List.mem_of_getElem? (i := 66) rfl)) (hw _ (List.mem_of_getElem? (i := 34) rfl)) (hw _ (List.mem_of_getElem? (i := 68) rfl)) (by decide) (rm_val l Z a0 hw [] b70 b66 b6 k66 (1 : Int32) (2 : Int32) (3 : Int32) [(.ref b1), (.ref b6), (.ref b11)] _ _ n0 Z0 E_b70 F1 F2 V_b66 F3 g_b70 ne_b66_b70 (by decide) rfl (by decide)) eT (by decide) 0 (by decide) (by rw [hml]; rfl) E_b70 [] (rest := []) (lenOf pd_3 rfl) rfl rfl (Nat.le_of_eq rfl) (by decide) (by decide) 200 (hb hby at_197) rfl (fun v T h75 Lc X eT q => ?_)
        obtain ⟨u', rfl, N', K1, E', G1, G2, G3⟩ := q
        replace N := Fr.app N N'
        replace E_b1 := E_b1.keep K1
        replace E_b6 := E_b6.keep K1
        replace E_b11 := E_b11.keep K1
        replace V_b66 := V_b66.keep K1 (ninS ne_b66_b70 nin0)
        replace Z0 := Nat.le_trans Z0 K1.1
        replace O := O.keep K1 (allS (P := fun x => n0 ≤ x) g_b70 all0)
        replace E_b70 := E'
        replace F1 := G1
        replace F2 := G2
        replace F3 := G3
        show Wout p e below _ T (mkF m 200 #[.val (.int p1), .val (.int p2), .val (.int p3), .val (.int p4), .val (.int (3 : Int32)), .val (.int (1 : Int32)), .val (.ref b1), .val (.ref b6), .val (.ref b11), .val (.ref b66), .val (.ref b70), .val (.ref b1), .val (.int (1 : Int32)), .unset] [(.ref b6)])
        refine o_astore X hx 202 (Ls' := #[.val (.int p1), .val (.int p2), .val (.int p3), .val (.int p4), .val (.int (3 : Int32)), .val (.int (1 : Int32)), .val (.ref b1), .val (.ref b6), .val (.ref b11), .val (.ref b66), .val (.ref b70), .val (.ref b1), .val (.int (1 : Int32)), .val (.ref b6)]) (hb hby at_200) rfl rfl rfl ?_
        refine o_aload X hx 204 (hb hby at_202) rfl rfl rfl ?_
        refine o_aload X hx 206 (hb hby at_204) rfl rfl rfl ?_
        refine o_callV X hx hZ hown (hw _ (List.mem_of_getElem? (i := 55) rfl)) (hw _ (List.mem_of_getElem? (i := 56) rfl)) (hw _ (List.mem_of_getElem? (i := 58) rfl)) (hw _ (List.mem_of_getElem? (i := 57) rfl)) (hw _ (List.mem_of_getElem? (i := 3) rfl)) (hw _ (List.mem_of_getElem? (i := 59) rfl)) (by decide) (rm_seq l Z a0 hw [] b6 _ n0 Z0) eT (by decide) 0 (by decide) (by rw [hml]; rfl) E_b6 [(.ref b6)] (rest := []) (lenOf pd_4 rfl) rfl rfl (Nat.le_of_eq rfl) (by decide) (by decide) 209 (hb hby at_206) rfl (fun v T h76 Lc X eT q => ?_)
        obtain ⟨rfl, N', e'⟩ := q
        replace N := Fr.app N N'
        replace eT := eT.trans e'
        show Wout p e below _ T (mkF m 209 #[.val (.int p1), .val (.int p2), .val (.int p3), .val (.int p4), .val (.int (3 : Int32)), .val (.int (1 : Int32)), .val (.ref b1), .val (.ref b6), .val (.ref b11), .val (.ref b66), .val (.ref b70), .val (.ref b1), .val (.int (1 : Int32)), .val (.ref b6)] [(.int (1 : Int32))])
        refine o_ifT X hx 214 (hb hby at_209) rfl (by decide : ¬ (1 : Int32) = (0 : Int32)) ?_
        refine o_iconst X hx 215 (2 : Int32) (hb hby at_214) rfl rfl ?_
        refine o_istore X hx 217 (Ls' := #[.val (.int p1), .val (.int p2), .val (.int p3), .val (.int p4), .val (.int (3 : Int32)), .val (.int (1 : Int32)), .val (.ref b1), .val (.ref b6), .val (.ref b11), .val (.ref b66), .val (.ref b70), .val (.ref b1), .val (.int (2 : Int32)), .val (.ref b6)]) (hb hby at_215) rfl rfl ?_
        refine o_iload X hx 219 (hb hby at_217) rfl rfl ?_
        refine o_iload X hx 221 (hb hby at_219) rfl rfl ?_
        refine o_icmpF X hx 224 (hb hby at_221) rfl (by decide : (2 : Int32) < (3 : Int32)) ?_
        refine o_aload X hx 226 (hb hby at_224) rfl rfl rfl ?_
        refine o_callV X hx hZ hown (hw _ (List.mem_of_getElem? (i := 41) rfl)) (hw _ (List.mem_of_getElem? (i := 42) rfl)) (hw _ (List.mem_of_getElem? (i := 44) rfl)) (hw _ (List.mem_of_getElem? (i := 43) rfl)) (hw _ (List.mem_of_getElem? (i := 34) rfl)) (hw _ (List.mem_of_getElem? (i := 45) rfl)) (by decide) (rm_has1 l Z a0 hw [] b70 b66 k66 (2 : Int32) (3 : Int32) [(.ref b1), (.ref b6), (.ref b11)] _ n0 Z0 F1 F2 V_b66 (by decide)) eT (by decide) 0 (by decide) (by rw [hml]; rfl) E_b70 [] (rest := []) (lenOf pd_0 rfl) rfl rfl (Nat.le_of_eq rfl) (by decide) (by decide) 229 (hb hby at_226) rfl (fun v T h77 Lc X eT q => ?_)
        obtain ⟨rfl, N', e'⟩ := q
        replace N := Fr.app N N'
        replace eT := eT.trans e'
        show Wout p e below _ T (mkF m 229 #[.val (.int p1), .val (.int p2), .val (.int p3), .val (.int p4), .val (.int (3 : Int32)), .val (.int (1 : Int32)), .val (.ref b1), .val (.ref b6), .val (.ref b11), .val (.ref b66), .val (.ref b70), .val (.ref b1), .val (.int (2 : Int32)), .val (.ref b6)] [(.int (1 : Int32))])
        refine o_ifT X hx 234 (hb hby at_229) rfl (by decide : ¬ (1 : Int32) = (0 : Int32)) ?_
        refine o_aload X hx 236 (hb hby at_234) rfl rfl rfl ?_
        refine o_callV X hx hZ hown (hw _ (List.mem_of_getElem? (i := 48) rfl)) (hw _ (List.mem_of_getElem? (i := 49) rfl)) (hw _ (List.mem_of_getElem? (i := 51) rfl)) (hw _ (List.mem_of_getElem? (i := 50) rfl)) (hw _ (List.mem_of_getElem? (i := 34) rfl)) (hw _ (List.mem_of_getElem? (i := 52) rfl)) (by decide) (rm_nxt l Z a0 hw [] b70 b66 b11 k66 (2 : Int32) (3 : Int32) (3 : Int32) [(.ref b1), (.ref b6), (.ref b11)] _ _ n0 Z0 E_b70 F1 F2 V_b66 F3 g_b70 ne_b66_b70 (by decide) rfl (by decide)) eT (by decide) 0 (by decide) (by rw [hml]; rfl) E_b70 [] (rest := []) (lenOf pd_3 rfl) rfl rfl (Nat.le_of_eq rfl) (by decide) (by decide) 239 (hb hby at_236) rfl (fun v T h78 Lc X eT q => ?_)
        obtain ⟨u', rfl, N', K1, E', G1, G2, G3⟩ := q
        replace N := Fr.app N N'
        replace E_b1 := E_b1.keep K1
        replace E_b6 := E_b6.keep K1
        replace E_b11 := E_b11.keep K1
        replace V_b66 := V_b66.keep K1 (ninS ne_b66_b70 nin0)
        replace Z0 := Nat.le_trans Z0 K1.1
        replace O := O.keep K1 (allS (P := fun x => n0 ≤ x) g_b70 all0)
        replace E_b70 := E'
        replace F1 := G1
        replace F2 := G2
        replace F3 := G3
        show Wout p e below _ T (mkF m 239 #[.val (.int p1), .val (.int p2), .val (.int p3), .val (.int p4), .val (.int (3 : Int32)), .val (.int (1 : Int32)), .val (.ref b1), .val (.ref b6), .val (.ref b11), .val (.ref b66), .val (.ref b70), .val (.ref b1), .val (.int (2 : Int32)), .val (.ref b6)] [(.ref b11)])
        refine o_astore X hx 241 (Ls' := #[.val (.int p1), .val (.int p2), .val (.int p3), .val (.int p4), .val (.int (3 : Int32)), .val (.int (1 : Int32)), .val (.ref b1), .val (.ref b6), .val (.ref b11), .val (.ref b66), .val (.ref b70), .val (.ref b1), .val (.int (2 : Int32)), .val (.ref b11)]) (hb hby at_239) rfl rfl rfl ?_
        refine o_iload X hx 243 (hb hby at_241) rfl rfl ?_
        refine o_aload X hx 245 (hb hby at_243) rfl rfl rfl ?_
        refine o_aload X hx 247 (hb hby at_245) rfl rfl rfl ?_
        refine o_callS X hx hZ hown (hw _ (List.mem_of_getElem? (i := 60) rfl)) (hw _ (List.mem_of_getElem? (i := 61) rfl)) (hw _ (List.mem_of_getElem? (i := 62) rfl)) (hw _ (List.mem_of_getElem? (i := 63) rfl)) (by decide) (rm_pick2 l Z a0 hw [] (2 : Int32) b6 b11 _ n0 Z0 (by decide)) eT (by decide) 0 (by decide) (by rw [hml]; rfl) [(.int (2 : Int32)), (.ref b6), (.ref b11)] (rest := []) (lenOf pd_5 rfl) rfl rfl (Nat.le_of_eq rfl) (by decide) (by decide) 250 (hb hby at_247) rfl (fun v T h79 Lc X eT q => ?_)
        obtain ⟨rfl, N', e'⟩ := q
        replace N := Fr.app N N'
        replace eT := eT.trans e'
        show Wout p e below _ T (mkF m 250 #[.val (.int p1), .val (.int p2), .val (.int p3), .val (.int p4), .val (.int (3 : Int32)), .val (.int (1 : Int32)), .val (.ref b1), .val (.ref b6), .val (.ref b11), .val (.ref b66), .val (.ref b70), .val (.ref b1), .val (.int (2 : Int32)), .val (.ref b11)] [(.ref b11)])
        refine o_aload X hx 252 (hb hby at_250) rfl rfl rfl ?_
        refine o_callV X hx hZ hown (hw _ (List.mem_of_getElem? (i := 55) rfl)) (hw _ (List.mem_of_getElem? (i := 56) rfl)) (hw _ (List.mem_of_getElem? (i := 58) rfl)) (hw _ (List.mem_of_getElem? (i := 57) rfl)) (hw _ (List.mem_of_getElem? (i := 3) rfl)) (hw _ (List.mem_of_getElem? (i := 59) rfl)) (by decide) (rm_seq l Z a0 hw [] b11 _ n0 Z0) eT (by decide) 0 (by decide) (by rw [hml]; rfl) E_b11 [(.ref b11)] (rest := []) (lenOf pd_4 rfl) rfl rfl (Nat.le_of_eq rfl) (by decide) (by decide) 255 (hb hby at_252) rfl (fun v T h80 Lc X eT q => ?_)
        obtain ⟨rfl, N', e'⟩ := q
        replace N := Fr.app N N'
        replace eT := eT.trans e'
        show Wout p e below _ T (mkF m 255 #[.val (.int p1), .val (.int p2), .val (.int p3), .val (.int p4), .val (.int (3 : Int32)), .val (.int (1 : Int32)), .val (.ref b1), .val (.ref b6), .val (.ref b11), .val (.ref b66), .val (.ref b70), .val (.ref b1), .val (.int (2 : Int32)), .val (.ref b11)] [(.int (1 : Int32))])
        refine o_ifT X hx 260 (hb hby at_255) rfl (by decide : ¬ (1 : Int32) = (0 : Int32)) ?_
        refine o_iload X hx 262 (hb hby at_260) rfl rfl ?_
        refine o_iconst X hx 263 (1 : Int32) (hb hby at_262) rfl rfl ?_
        refine o_iadd X hx 264 (hb hby at_263) rfl ?_
        rw [show ((2 : Int32) + (1 : Int32)) = (3 : Int32) from by decide]
        refine o_istore X hx 266 (Ls' := #[.val (.int p1), .val (.int p2), .val (.int p3), .val (.int p4), .val (.int (3 : Int32)), .val (.int (1 : Int32)), .val (.ref b1), .val (.ref b6), .val (.ref b11), .val (.ref b66), .val (.ref b70), .val (.ref b1), .val (.int (3 : Int32)), .val (.ref b11)]) (hb hby at_264) rfl rfl ?_
        refine o_iload X hx 268 (hb hby at_266) rfl rfl ?_
        refine o_iload X hx 270 (hb hby at_268) rfl rfl ?_
        refine o_icmpT X hx 315 (hb hby at_270) rfl (by decide : ¬ (3 : Int32) < (3 : Int32)) ?_
        refine o_aload X hx 317 (hb hby at_315) rfl rfl rfl ?_
        refine o_callV X hx hZ hown (hw _ (List.mem_of_getElem? (i := 41) rfl)) (hw _ (List.mem_of_getElem? (i := 42) rfl)) (hw _ (List.mem_of_getElem? (i := 44) rfl)) (hw _ (List.mem_of_getElem? (i := 43) rfl)) (hw _ (List.mem_of_getElem? (i := 34) rfl)) (hw _ (List.mem_of_getElem? (i := 45) rfl)) (by decide) (rm_has0 l Z a0 hw [] b70 b66 k66 (3 : Int32) (3 : Int32) [(.ref b1), (.ref b6), (.ref b11)] _ n0 Z0 F1 F2 V_b66 (by decide)) eT (by decide) 0 (by decide) (by rw [hml]; rfl) E_b70 [] (rest := []) (lenOf pd_0 rfl) rfl rfl (Nat.le_of_eq rfl) (by decide) (by decide) 320 (hb hby at_317) rfl (fun v T h81 Lc X eT q => ?_)
        obtain ⟨rfl, N', e'⟩ := q
        replace N := Fr.app N N'
        replace eT := eT.trans e'
        show Wout p e below _ T (mkF m 320 #[.val (.int p1), .val (.int p2), .val (.int p3), .val (.int p4), .val (.int (3 : Int32)), .val (.int (1 : Int32)), .val (.ref b1), .val (.ref b6), .val (.ref b11), .val (.ref b66), .val (.ref b70), .val (.ref b1), .val (.int (3 : Int32)), .val (.ref b11)] [(.int (0 : Int32))])
        refine o_ifF X hx 323 (hb hby at_320) rfl (by decide : (0 : Int32) = (0 : Int32)) ?_
        refine o_iconst X hx 324 (1 : Int32) (hb hby at_323) rfl rfl ?_
        refine o_goto X hx 328 (hb hby at_324) rfl ?_
        exact o_retI X hx hlk hret rfl (by simp) (hb hby at_328) (by decide) (by decide) (by rw [eT]; exact ⟨rfl, N, trivial⟩)
  refine o_if X hx 29 19 (hb hby at_16) rfl rfl (fun (q1 : ((XT.ushr p4 (8 : Int32)) &&& (1 : Int32)) = (0 : Int32)) => ?_) (fun (q1 : ¬ ((XT.ushr p4 (8 : Int32)) &&& (1 : Int32)) = (0 : Int32)) => ?_)
  · show Wout p e below _ T (mkF m 29 #[.val (.int p1), .val (.int p2), .val (.int p3), .val (.int p4), .val (.int n), .unset, .unset, .unset, .unset, .unset, .unset, .unset, .unset, .unset] [])
    refine o_iconst X hx 30 (0 : Int32) (hb hby at_29) rfl rfl ?_
    exact J _ (Or.inl rfl)
  · show Wout p e below _ T (mkF m 19 #[.val (.int p1), .val (.int p2), .val (.int p3), .val (.int p4), .val (.int n), .unset, .unset, .unset, .unset, .unset, .unset, .unset, .unset, .unset] [])
    refine o_iload X hx 21 (hb hby at_19) rfl rfl ?_
    refine o_iconst X hx 22 (2 : Int32) (hb hby at_21) rfl rfl ?_
    refine o_icmp X hx 29 25 (hb hby at_22) rfl rfl (fun (q2 : n < (2 : Int32)) => ?_) (fun (q2 : ¬ n < (2 : Int32)) => ?_)
    · show Wout p e below _ T (mkF m 29 #[.val (.int p1), .val (.int p2), .val (.int p3), .val (.int p4), .val (.int n), .unset, .unset, .unset, .unset, .unset, .unset, .unset, .unset, .unset] [])
      refine o_iconst X hx 30 (0 : Int32) (hb hby at_29) rfl rfl ?_
      exact J _ (Or.inl rfl)
    · show Wout p e below _ T (mkF m 25 #[.val (.int p1), .val (.int p2), .val (.int p3), .val (.int p4), .val (.int n), .unset, .unset, .unset, .unset, .unset, .unset, .unset, .unset, .unset] [])
      refine o_iconst X hx 26 (1 : Int32) (hb hby at_25) rfl rfl ?_
      refine o_goto X hx 30 (hb hby at_26) rfl ?_
      exact J _ (Or.inr ⟨rfl, q2⟩)
set_option maxRecDepth 65536 in
set_option maxHeartbeats 40000000 in
theorem comes_1 {Post : Tables → Env → Array Value → State → Outcome → State → Prop} (hpost : ∀ tb e args s v u, (limb_1_1.after args s (.returned v) u = true ∧ limb_1_2.after args s (.returned v) u = true ∧ True) → FrameEnd s (.returned v) u (Jvm.fieldLocs frame_1_writes args s ++ Jvm.arrayLocs frame_1_arrays args s ++ Jvm.staticLocs frame_1_statics s) 32 128 → Post tb e args s (.returned v) u) :
    ArmFor flags0 classFile x code maxLocals ret World_1 tables_1 room_1 Calls_1 rest_1 Pre_1 Post := by
  intro l hfl _ _ p e ha hc hk s m args below hf hA hF happ hP
  obtain ⟨hcalls, hrest, hpre⟩ := hP
  obtain ⟨-, -, -, hnamed, -, -, -, hat⟩ := (Spec.applies_iff hf).mp happ
  obtain ⟨hg, hn⟩ := and_e (Cond.before_iff.mp (show (Jvm.Cond.and given_1 narrow_1).before args s = true from hpre))
  obtain ⟨h1, hgs⟩ := and_e hg
  obtain ⟨w0, w1, w2, w3, rfl⟩ : ∃ w0 w1 w2 w3 : Value, args = #[w0, w1, w2, w3] := by
    have hs : args.size = 4 := by simpa [Cond.value, given_1] using h1
    obtain ⟨L⟩ := args
    match L, hs with
    | [w0, w1, w2, w3], _ => exact ⟨w0, w1, w2, w3, rfl⟩
  have hw := fun d (hd : d ∈ tables_1) => atoms_spec (ws := Jvm.Cond.code x code maxLocals ret :: tables_1) hat d (List.mem_cons_of_mem _ hd)
  have hfit : Fit s := fun {y c} hc i hi => by
    obtain ⟨ha, rfl⟩ := Array.getElem?_eq_some_iff.mp hc
    have q := List.all_eq_true.mp ((Array.all_eq_true_iff_forall_mem.mp hF) _ (Array.getElem_mem ha)) i (List.mem_range.mpr hi)
    simpa [Array.getElem?_eq_getElem hi] using q
  obtain ⟨hg0, hgs⟩ := and_e hgs
  obtain ⟨i0, e0⟩ := is_v hg0
  obtain rfl : w0 = (.int i0) := Option.some.inj e0
  obtain ⟨hg1, hgs⟩ := and_e hgs
  obtain ⟨i1, e1⟩ := is_v hg1
  obtain rfl : w1 = (.int i1) := Option.some.inj e1
  obtain ⟨hg2, hgs⟩ := and_e hgs
  obtain ⟨i2, e2⟩ := is_v hg2
  obtain rfl : w2 = (.int i2) := Option.some.inj e2
  obtain ⟨i3, e3⟩ := is_v hgs
  obtain rfl : w3 = (.int i3) := Option.some.inj e3
  have hsets := (atoms_of (args := #[(.int i0), (.int i1), (.int i2), (.int i3)]) (s := s) (own := restOwn_1) jdkStatics_1 (by have q : (rest_1_c).before #[(.int i0), (.int i1), (.int i2), (.int i3)] s = true := hrest; rw [rest_1_c_eq] at q; exact q)).1
  have hw : ∀ d ∈ own_words, d.before _ s = true := fun d hd => (List.mem_append.mp hd).elim (hw d) (hsets d)
  obtain ⟨cs, SC, hcs⟩ := sta_bool (C := "java/lang/String") (n := "COMPACT_STRINGS") (d := "Z") (hsets _ (List.mem_of_getElem? (i := 0) rfl)) (hsets _ (List.mem_of_getElem? (i := 1) rfl)) (hsets _ (List.mem_of_getElem? (i := 2) rfl))
  obtain ⟨n, o, h1, h2, h3, _, L, rfl, ⟨rfl, N, _⟩, hq⟩ := rm_law l s _ hw tables_1 i0 i1 i2 i3 cs s.heap s.heap.size (Nat.le_refl _) (Old.start s) SC hcs p e ha hc hk s m _ below hf ((Spec.applies_iff_loose hf).mp happ).1 ⟨rfl, State.Warmed39.refl s, rfl⟩ trivial
  refine ⟨n, _, h1, h2, h3, hpost _ _ _ _ _ _ ⟨Cond.after_iff.mpr rfl, Cond.after_iff.mpr (eq_i res_at (Term.int_eval (1)) rfl), trivial⟩ ⟨hq.1, hq.2.1, (hq.2.2.sift fun y hy => Or.inr (N y hy)).mono (by decide) (by decide)⟩⟩
theorem main_1_1 : Claimed_1_1 := comes_1 fun _ _ _ _ _ _ h hF => ⟨h.1, hF⟩
theorem main_1_2 : Claimed_1_2 := comes_1 fun _ _ _ _ _ _ h hF => ⟨h.2.1, hF⟩
end Jvm.Pilot.@@N@@
namespace Jvm.Pilot.@@N@@
open Jvm Jvm.ClassFile Sem Op Lib Jvm.Free Jvm.Stand Jvm.Pilot.@@N@@.Jvm.D
/-! MADE BY PROGRAM (witnessworld.py) out of the Statement's table words and the real class files: 21 classes; the members and pool entries that the words name. The judged class is class 1, her method 2. -/
namespace start1
open Jvm.ClassFile
def u (s : String) : CpInfo := .utf8 (stringToUtf16 s)
/-- a pool by its gaps: so many unusable entries, then the entry; so many at the end -/
def gap : Nat → List CpInfo → List CpInfo
  | 0, r => r
  | n + 1, r => .unusable :: gap n r
def poolList (es : List (Nat × CpInfo)) (last : Nat) : List CpInfo := es.foldr (fun e r => gap e.1 (e.2 :: r)) (gap last [])
def pool (es : List (Nat × CpInfo)) (last : Nat) : Array CpInfo := ⟨poolList es last⟩
def fileOf (pool : Array CpInfo) (this : Nat) (attrs : Array Attribute := #[]) (ms : Array MethodInfo := #[]) (fl : Nat := 33) (sup : Nat := 0) (ifs : Array Nat := #[]) (fds : Array FieldInfo := #[]) : ClassFile where
  minorVersion := 0
  majorVersion := 65
  constantPool := pool
  accessFlags := fl
  thisClass := this
  superClass := sup
  interfaces := ifs
  fields := fds
  methods := ms
  attributes := attrs
def plain (name : String) (sup : Option ClassId) : Class where
  name := name
  kind := .ordinary
  loader := none
  accessFlags := 33
  super := sup
  interfaces := #[]
  cf := none
  fields := #[]
  methods := #[]
  instanceTypes := #[]
  staticTypes := #[]
  resolved := #[]
  callSites := []
  init := .initialized
  statics := none
  mirror := none

def pool0 : Array CpInfo := pool [(5, u "<init>"), (0, u "()V"), (1, .class_ 10), (1, u "java/lang/Object")] 113

def k0c0 : Code := { maxStack := 0, maxLocals := 1, code := object_method_1_code, exceptionTable := #[], attributes := #[] }
def k0m0 : Method := { name := "<init>", desc := "()V", sig := { parameters := [], returnType := none }, accessFlags := 1, code := some k0c0 }
/-- java/lang/Object -/
def k0 : Class := { plain "java/lang/Object" none with
  accessFlags := 33
  interfaces := #[]
  cf := some (fileOf pool0 8 #[] #[{ accessFlags := 1, nameIndex := 5, descriptorIndex := 6, attributes := #[] }] 33 0 #[] #[])
  fields := #[]
  methods := #[k0m0]
  instanceTypes := #[]
  staticTypes := #[]
  resolved := Array.replicate 124 none
  statics := none }

def pool1 : Array CpInfo := pool [(2, .class_ 4), (1, u "java/lang/Object"), (0, u "<init>"), (0, u "()V"), (0, .integer 2147483647), (0, .class_ 9), (0, u "java/lang/String"), (0, .methodref 8 11), (0, .nameAndType 5 12), (0, u "([C)V"), (0, .class_ 14), (0, u "com/example/varasto/varasto/util/OptionReader"), (0, .methodref 13 16), (0, .nameAndType 5 17), (0, u "([Ljava/lang/String;)V"), (0, .methodref 13 19), (0, .nameAndType 20 21), (0, u "hasNext"), (0, u "()Z"), (0, .methodref 13 23), (0, .nameAndType 24 25), (0, u "next"), (0, u "()Ljava/lang/String;"), (0, .methodref 8 27), (0, .nameAndType 28 29), (0, u "equals"), (0, u "(Ljava/lang/Object;)Z"), (0, .methodref 13 31), (0, .nameAndType 32 25), (0, u "value"), (0, .methodref 34 35), (0, .class_ 36), (0, .nameAndType 37 38), (0, u "com/example/varasto/varasto/util/OptionReaderNextPinLaw"), (0, u "pick"), (0, u "(ILjava/lang/String;Ljava/lang/String;)Ljava/lang/String;"), (3, u "law"), (0, u "(IIII)Z")] 4

def k1m0 : Method := { name := "<init>", desc := "()V", sig := { parameters := [], returnType := none }, accessFlags := 1, code := none }
def k1c1 : Code := { maxStack := 2, maxLocals := 3, code := method_2_code, exceptionTable := #[], attributes := #[] }
def k1m1 : Method := { name := "pick", desc := "(ILjava/lang/String;Ljava/lang/String;)Ljava/lang/String;", sig := { parameters := [.int, (.object "java/lang/String"), (.object "java/lang/String")], returnType := some (.object "java/lang/String") }, accessFlags := 10, code := some k1c1 }
def k1c2 : Code := { maxStack := 7, maxLocals := 14, code := code, exceptionTable := #[], attributes := #[] }
def k1m2 : Method := { name := "law", desc := "(IIII)Z", sig := { parameters := [.int, .int, .int, .int], returnType := some .boolean }, accessFlags := 9, code := some k1c2 }
/-- com/example/varasto/varasto/util/OptionReaderNextPinLaw -/
def k1 : Class := { plain "com/example/varasto/varasto/util/OptionReaderNextPinLaw" (some 0) with
  accessFlags := 49
  interfaces := #[]
  cf := some (fileOf pool1 34 #[] #[{ accessFlags := 1, nameIndex := 5, descriptorIndex := 6, attributes := #[] }, { accessFlags := 10, nameIndex := 37, descriptorIndex := 38, attributes := #[] }, { accessFlags := 9, nameIndex := 42, descriptorIndex := 43, attributes := #[] }] 49 2 #[] #[])
  fields := #[]
  methods := #[k1m0, k1m1, k1m2]
  instanceTypes := #[]
  staticTypes := #[]
  resolved := Array.replicate 48 none
  statics := none }

def pool2 : Array CpInfo := pool [(1, .class_ 2), (0, u "java/io/Serializable"), (0, .class_ 4), (0, u "java/lang/Object")] 2

/-- java/io/Serializable -/
def k2 : Class := { plain "java/io/Serializable" (some 0) with
  accessFlags := 1537
  interfaces := #[]
  cf := some (fileOf pool2 1 #[] #[] 1537 3 #[] #[])
  fields := #[]
  methods := #[]
  instanceTypes := #[]
  staticTypes := #[]
  resolved := Array.replicate 7 none
  statics := none }

def pool3 : Array CpInfo := pool [(1, .class_ 2), (0, u "java/lang/Comparable"), (0, .class_ 4), (0, u "java/lang/Object")] 7

/-- java/lang/Comparable -/
def k3 : Class := { plain "java/lang/Comparable" (some 0) with
  accessFlags := 1537
  interfaces := #[]
  cf := some (fileOf pool3 1 #[] #[] 1537 3 #[] #[])
  fields := #[]
  methods := #[]
  instanceTypes := #[]
  staticTypes := #[]
  resolved := Array.replicate 12 none
  statics := none }

def pool4 : Array CpInfo := pool [(2, .class_ 4), (1, u "java/lang/CharSequence"), (42, .class_ 48), (0, u "java/lang/CharSequence$1CodePointIterator"), (10, .class_ 60), (0, u "java/lang/CharSequence$1CharIterator"), (5, .class_ 67), (0, u "java/lang/Object")] 63

/-- java/lang/CharSequence -/
def k4 : Class := { plain "java/lang/CharSequence" (some 0) with
  accessFlags := 1537
  interfaces := #[]
  cf := some (fileOf pool4 2 #[.nestMembers #[47, 59]] #[] 1537 66 #[] #[])
  fields := #[]
  methods := #[]
  instanceTypes := #[]
  staticTypes := #[]
  resolved := Array.replicate 131 none
  statics := none }

def pool5 : Array CpInfo := pool [(1, .class_ 2), (0, u "java/lang/constant/Constable"), (0, .class_ 4), (0, u "java/lang/Object")] 6

/-- java/lang/constant/Constable -/
def k5 : Class := { plain "java/lang/constant/Constable" (some 0) with
  accessFlags := 1537
  interfaces := #[]
  cf := some (fileOf pool5 1 #[] #[] 1537 3 #[] #[])
  fields := #[]
  methods := #[]
  instanceTypes := #[]
  staticTypes := #[]
  resolved := Array.replicate 11 none
  statics := none }

def pool6 : Array CpInfo := pool [(1, .class_ 2), (0, u "java/lang/constant/ConstantDesc"), (0, .class_ 4), (0, u "java/lang/Object")] 32

/-- java/lang/constant/ConstantDesc -/
def k6 : Class := { plain "java/lang/constant/ConstantDesc" (some 0) with
  accessFlags := 1537
  interfaces := #[]
  cf := some (fileOf pool6 1 #[] #[] 1537 3 #[] #[])
  fields := #[]
  methods := #[]
  instanceTypes := #[]
  staticTypes := #[]
  resolved := Array.replicate 37 none
  statics := none }

def pool7 : Array CpInfo := pool [(1, .methodref 2 3), (0, .class_ 4), (0, .nameAndType 5 6), (0, u "java/lang/Object"), (0, u "<init>"), (0, u "()V"), (2, .fieldref 10 11), (0, .class_ 12), (0, .nameAndType 13 14), (0, u "java/lang/String"), (0, u "value"), (0, u "[B"), (0, .fieldref 10 16), (0, .nameAndType 17 18), (0, u "coder"), (0, u "B"), (2, u "hash"), (0, u "I"), (2, u "hashIsZero"), (0, u "Z"), (0, .methodref 10 28), (0, .nameAndType 5 29), (0, u "([CIILjava/lang/Void;)V"), (8, .fieldref 10 39), (0, .nameAndType 40 26), (0, u "COMPACT_STRINGS"), (1, .class_ 44), (1, u "java/lang/StringUTF16"), (0, u "compress"), (1, .methodref 42 48), (0, .nameAndType 49 50), (0, u "coderFromArrayLen"), (0, u "([BI)B"), (126, .methodref 42 178), (0, .nameAndType 45 179), (0, u "([CII)[B"), (363, u "equals"), (29, u "(Ljava/lang/Object;)Z"), (1, .class_ 576), (0, u "java/lang/CharSequence"), (22, u "CASE_INSENSITIVE_ORDER"), (0, u "Ljava/util/Comparator;"), (409, u "([C)V"), (90, u "serialPersistentFields"), (0, u "[Ljava/io/ObjectStreamField;"), (0, .class_ 1104), (0, u "java/lang/String$CaseInsensitiveComparator"), (1, .class_ 1107), (0, u "java/io/Serializable"), (0, .class_ 1109), (0, u "java/lang/Comparable"), (0, .class_ 1111), (0, u "java/lang/constant/Constable"), (0, .class_ 1113), (0, u "java/lang/constant/ConstantDesc"), (2, u "serialVersionUID"), (0, u "J"), (3, u "REPL"), (0, u "C"), (2, u "LATIN1"), (1, u "UTF16")] 323

def k7m0 : Method := { name := "<init>", desc := "()V", sig := { parameters := [], returnType := none }, accessFlags := 1, code := none }
def k7c1 : Code := { maxStack := 5, maxLocals := 2, code := jdk_42_method_3_code, exceptionTable := #[], attributes := #[] }
def k7m1 : Method := { name := "<init>", desc := "([C)V", sig := { parameters := [(.array .char)], returnType := none }, accessFlags := 1, code := some k7c1 }
def k7c2 : Code := { maxStack := 2, maxLocals := 3, code := jdk_42_method_66_code, exceptionTable := #[], attributes := #[] }
def k7m2 : Method := { name := "equals", desc := "(Ljava/lang/Object;)Z", sig := { parameters := [(.object "java/lang/Object")], returnType := some .boolean }, accessFlags := 1, code := some k7c2 }
def k7c3 : Code := { maxStack := 4, maxLocals := 6, code := jdk_42_method_149_code, exceptionTable := #[], attributes := #[] }
def k7m3 : Method := { name := "<init>", desc := "([CIILjava/lang/Void;)V", sig := { parameters := [(.array .char), .int, .int, (.object "java/lang/Void")], returnType := none }, accessFlags := 2, code := some k7c3 }
/-- java/lang/String -/
def k7 : Class := { plain "java/lang/String" (some 0) with
  accessFlags := 49
  interfaces := #[2, 3, 4, 5, 6]
  cf := some (fileOf pool7 10 #[.nestMembers #[1103]] #[{ accessFlags := 1, nameIndex := 5, descriptorIndex := 6, attributes := #[] }, { accessFlags := 1, nameIndex := 5, descriptorIndex := 1010, attributes := #[] }, { accessFlags := 1, nameIndex := 543, descriptorIndex := 573, attributes := #[] }, { accessFlags := 2, nameIndex := 5, descriptorIndex := 29, attributes := #[] }] 49 2 #[1106, 1108, 575, 1110, 1112] #[{ accessFlags := 18, nameIndex := 13, descriptorIndex := 14, attributes := #[] }, { accessFlags := 18, nameIndex := 17, descriptorIndex := 18, attributes := #[] }, { accessFlags := 2, nameIndex := 21, descriptorIndex := 22, attributes := #[] }, { accessFlags := 2, nameIndex := 25, descriptorIndex := 26, attributes := #[] }, { accessFlags := 26, nameIndex := 1116, descriptorIndex := 1117, attributes := #[] }, { accessFlags := 24, nameIndex := 40, descriptorIndex := 26, attributes := #[] }, { accessFlags := 26, nameIndex := 1101, descriptorIndex := 1102, attributes := #[] }, { accessFlags := 26, nameIndex := 1121, descriptorIndex := 1122, attributes := #[] }, { accessFlags := 25, nameIndex := 599, descriptorIndex := 600, attributes := #[] }, { accessFlags := 24, nameIndex := 1125, descriptorIndex := 18, attributes := #[] }, { accessFlags := 24, nameIndex := 1127, descriptorIndex := 18, attributes := #[] }])
  fields := #[{ name := "value", type := (.array .byte), accessFlags := 18, slot := 0, constantValue := 0 }, { name := "coder", type := .byte, accessFlags := 18, slot := 1, constantValue := 0 }, { name := "hash", type := .int, accessFlags := 2, slot := 2, constantValue := 0 }, { name := "hashIsZero", type := .boolean, accessFlags := 2, slot := 3, constantValue := 0 }, { name := "serialVersionUID", type := .long, accessFlags := 26, slot := 0, constantValue := 0 }, { name := "COMPACT_STRINGS", type := .boolean, accessFlags := 24, slot := 1, constantValue := 0 }, { name := "serialPersistentFields", type := (.array (.object "java/io/ObjectStreamField")), accessFlags := 26, slot := 2, constantValue := 0 }, { name := "REPL", type := .char, accessFlags := 26, slot := 3, constantValue := 0 }, { name := "CASE_INSENSITIVE_ORDER", type := (.object "java/util/Comparator"), accessFlags := 25, slot := 4, constantValue := 0 }, { name := "LATIN1", type := .byte, accessFlags := 24, slot := 5, constantValue := 0 }, { name := "UTF16", type := .byte, accessFlags := 24, slot := 6, constantValue := 0 }]
  methods := #[k7m0, k7m1, k7m2, k7m3]
  instanceTypes := #[(.array .byte), .byte, .int, .boolean]
  staticTypes := #[.long, .boolean, (.array (.object "java/io/ObjectStreamField")), .char, (.object "java/util/Comparator"), .byte, .byte]
  resolved := Array.replicate 1451 none
  statics := some 0 }

def pool8 : Array CpInfo := pool [(6, .class_ 8), (1, u "java/lang/Object"), (0, u "<init>"), (0, u "()V"), (1, .class_ 14), (1, u "java/lang/StringUTF16"), (31, u "$assertionsDisabled"), (0, u "Z"), (13, u "HI_BYTE_SHIFT"), (0, u "I"), (2, u "LO_BYTE_SHIFT"), (49, .methodref 12 116), (0, .nameAndType 117 118), (0, u "compress"), (0, u "([CI[BII)I"), (3, u "([CII)[B"), (138, u "coderFromArrayLen"), (0, u "([BI)B"), (106, .class_ 371), (1, u "java/lang/StringUTF16$LinesSpliterator"), (58, u "MAX_LENGTH"), (196, .class_ 628), (0, u "java/lang/StringUTF16$CodePointsSpliterator"), (0, .class_ 630), (0, u "java/lang/StringUTF16$CharsSpliterator")] 4

def k8m0 : Method := { name := "<init>", desc := "()V", sig := { parameters := [], returnType := none }, accessFlags := 0, code := none }
def k8c1 : Code := { maxStack := 2, maxLocals := 2, code := jdk_52_method_15_code, exceptionTable := #[], attributes := #[] }
def k8m1 : Method := { name := "coderFromArrayLen", desc := "([BI)B", sig := { parameters := [(.array .byte), .int], returnType := some .byte }, accessFlags := 8, code := some k8c1 }
def k8c2 : Code := { maxStack := 5, maxLocals := 6, code := jdk_52_method_16_code, exceptionTable := #[], attributes := #[] }
def k8m2 : Method := { name := "compress", desc := "([CII)[B", sig := { parameters := [(.array .char), .int, .int], returnType := some (.array .byte) }, accessFlags := 9, code := some k8c2 }
def k8c3 : Code := { maxStack := 3, maxLocals := 7, code := jdk_52_method_21_code, exceptionTable := #[], attributes := #[] }
def k8m3 : Method := { name := "compress", desc := "([CI[BII)I", sig := { parameters := [(.array .char), .int, (.array .byte), .int, .int], returnType := some .int }, accessFlags := 9, code := some k8c3 }
/-- java/lang/StringUTF16 -/
def k8 : Class := { plain "java/lang/StringUTF16" (some 0) with
  accessFlags := 48
  interfaces := #[]
  cf := some (fileOf pool8 12 #[.nestMembers #[627, 629, 369]] #[{ accessFlags := 0, nameIndex := 9, descriptorIndex := 10, attributes := #[] }, { accessFlags := 8, nameIndex := 261, descriptorIndex := 262, attributes := #[] }, { accessFlags := 9, nameIndex := 117, descriptorIndex := 122, attributes := #[] }, { accessFlags := 9, nameIndex := 117, descriptorIndex := 118, attributes := #[] }] 48 6 #[] #[{ accessFlags := 26, nameIndex := 61, descriptorIndex := 62, attributes := #[] }, { accessFlags := 26, nameIndex := 65, descriptorIndex := 62, attributes := #[] }, { accessFlags := 24, nameIndex := 430, descriptorIndex := 62, attributes := #[] }, { accessFlags := 4120, nameIndex := 46, descriptorIndex := 47, attributes := #[] }])
  fields := #[{ name := "HI_BYTE_SHIFT", type := .int, accessFlags := 26, slot := 0, constantValue := 0 }, { name := "LO_BYTE_SHIFT", type := .int, accessFlags := 26, slot := 1, constantValue := 0 }, { name := "MAX_LENGTH", type := .int, accessFlags := 24, slot := 2, constantValue := 0 }, { name := "$assertionsDisabled", type := .boolean, accessFlags := 4120, slot := 3, constantValue := 0 }]
  methods := #[k8m0, k8m1, k8m2, k8m3]
  instanceTypes := #[]
  staticTypes := #[.int, .int, .int, .boolean]
  resolved := Array.replicate 635 none
  statics := none }

def pool9 : Array CpInfo := pool [(1, .methodref 2 3), (0, .class_ 4), (0, .nameAndType 5 6), (0, u "java/lang/Object"), (0, u "<init>"), (0, u "()V"), (0, .fieldref 8 9), (0, .class_ 10), (0, .nameAndType 11 12), (0, u "com/example/varasto/varasto/util/OptionReader"), (0, u "_args"), (0, u "[Ljava/lang/String;"), (0, .fieldref 8 14), (0, .nameAndType 15 16), (0, u "_next"), (0, u "I"), (0, .fieldref 8 18), (0, .nameAndType 19 20), (0, u "_option"), (0, u "Ljava/lang/String;"), (0, .methodref 8 22), (0, .nameAndType 23 24), (0, u "hasNext"), (0, u "()Z"), (9, u "([Ljava/lang/String;)V"), (3, u "next"), (0, u "()Ljava/lang/String;"), (0, u "value")] 17

def k9c0 : Code := { maxStack := 2, maxLocals := 2, code := prog_16_method_1_code, exceptionTable := #[], attributes := #[] }
def k9m0 : Method := { name := "<init>", desc := "([Ljava/lang/String;)V", sig := { parameters := [(.array (.object "java/lang/String"))], returnType := none }, accessFlags := 1, code := some k9c0 }
def k9c1 : Code := { maxStack := 2, maxLocals := 1, code := prog_16_method_2_code, exceptionTable := #[], attributes := #[] }
def k9m1 : Method := { name := "hasNext", desc := "()Z", sig := { parameters := [], returnType := some .boolean }, accessFlags := 1, code := some k9c1 }
def k9c2 : Code := { maxStack := 6, maxLocals := 1, code := prog_16_method_3_code, exceptionTable := #[], attributes := #[] }
def k9m2 : Method := { name := "next", desc := "()Ljava/lang/String;", sig := { parameters := [], returnType := some (.object "java/lang/String") }, accessFlags := 1, code := some k9c2 }
def k9c3 : Code := { maxStack := 5, maxLocals := 1, code := prog_16_method_4_code, exceptionTable := #[], attributes := #[] }
def k9m3 : Method := { name := "value", desc := "()Ljava/lang/String;", sig := { parameters := [], returnType := some (.object "java/lang/String") }, accessFlags := 1, code := some k9c3 }
/-- com/example/varasto/varasto/util/OptionReader -/
def k9 : Class := { plain "com/example/varasto/varasto/util/OptionReader" (some 0) with
  accessFlags := 49
  interfaces := #[]
  cf := some (fileOf pool9 8 #[] #[{ accessFlags := 1, nameIndex := 5, descriptorIndex := 34, attributes := #[] }, { accessFlags := 1, nameIndex := 23, descriptorIndex := 24, attributes := #[] }, { accessFlags := 1, nameIndex := 38, descriptorIndex := 39, attributes := #[] }, { accessFlags := 1, nameIndex := 40, descriptorIndex := 39, attributes := #[] }] 49 2 #[] #[{ accessFlags := 18, nameIndex := 11, descriptorIndex := 12, attributes := #[] }, { accessFlags := 2, nameIndex := 15, descriptorIndex := 16, attributes := #[] }, { accessFlags := 2, nameIndex := 19, descriptorIndex := 20, attributes := #[] }])
  fields := #[{ name := "_args", type := (.array (.object "java/lang/String")), accessFlags := 18, slot := 0, constantValue := 0 }, { name := "_next", type := .int, accessFlags := 2, slot := 1, constantValue := 0 }, { name := "_option", type := (.object "java/lang/String"), accessFlags := 2, slot := 2, constantValue := 0 }]
  methods := #[k9m0, k9m1, k9m2, k9m3]
  instanceTypes := #[(.array (.object "java/lang/String")), .int, (.object "java/lang/String")]
  staticTypes := #[]
  resolved := Array.replicate 58 none
  statics := none }

def pool10 : Array CpInfo := pool [(4, .class_ 6), (1, u "java/lang/Object"), (0, u "<init>"), (0, u "()V"), (5, .class_ 16), (1, u "java/lang/StringLatin1"), (104, u "$assertionsDisabled"), (0, u "Z"), (98, .class_ 223), (1, u "java/lang/StringLatin1$LinesSpliterator"), (166, .class_ 391), (0, u "java/lang/StringLatin1$CharsSpliterator")] 3

def k10m0 : Method := { name := "<init>", desc := "()V", sig := { parameters := [], returnType := none }, accessFlags := 0, code := none }
/-- java/lang/StringLatin1 -/
def k10 : Class := { plain "java/lang/StringLatin1" (some 0) with
  accessFlags := 48
  interfaces := #[]
  cf := some (fileOf pool10 14 #[.nestMembers #[390, 221]] #[{ accessFlags := 0, nameIndex := 7, descriptorIndex := 8, attributes := #[] }] 48 4 #[] #[{ accessFlags := 4120, nameIndex := 121, descriptorIndex := 122, attributes := #[] }])
  fields := #[{ name := "$assertionsDisabled", type := .boolean, accessFlags := 4120, slot := 0, constantValue := 0 }]
  methods := #[k10m0]
  instanceTypes := #[]
  staticTypes := #[.boolean]
  resolved := Array.replicate 395 none
  statics := none }

def pool11 : Array CpInfo := pool [(2, .class_ 4), (1, u "java/lang/Object"), (0, u "<init>"), (0, u "()V"), (17, .class_ 26), (1, u "jdk/internal/util/Preconditions"), (28, .class_ 56), (0, u "jdk/internal/util/Preconditions$4"), (57, .class_ 115), (0, u "jdk/internal/util/Preconditions$1"), (7, u "SIOOBE_FORMATTER"), (0, u "Ljava/util/function/BiFunction;"), (0, .class_ 126), (0, u "jdk/internal/util/Preconditions$2"), (3, u "AIOOBE_FORMATTER"), (0, .class_ 132), (0, u "jdk/internal/util/Preconditions$3"), (3, u "IOOBE_FORMATTER")] 57

def k11m0 : Method := { name := "<init>", desc := "()V", sig := { parameters := [], returnType := none }, accessFlags := 1, code := none }
/-- jdk/internal/util/Preconditions -/
def k11 : Class := { plain "jdk/internal/util/Preconditions" (some 0) with
  accessFlags := 33
  interfaces := #[]
  cf := some (fileOf pool11 24 #[.nestMembers #[55, 131, 125, 114]] #[{ accessFlags := 1, nameIndex := 5, descriptorIndex := 6, attributes := #[] }] 33 2 #[] #[{ accessFlags := 25, nameIndex := 123, descriptorIndex := 124, attributes := #[] }, { accessFlags := 25, nameIndex := 130, descriptorIndex := 124, attributes := #[] }, { accessFlags := 25, nameIndex := 136, descriptorIndex := 124, attributes := #[] }])
  fields := #[{ name := "SIOOBE_FORMATTER", type := (.object "java/util/function/BiFunction"), accessFlags := 25, slot := 0, constantValue := 0 }, { name := "AIOOBE_FORMATTER", type := (.object "java/util/function/BiFunction"), accessFlags := 25, slot := 1, constantValue := 0 }, { name := "IOOBE_FORMATTER", type := (.object "java/util/function/BiFunction"), accessFlags := 25, slot := 2, constantValue := 0 }]
  methods := #[k11m0]
  instanceTypes := #[]
  staticTypes := #[(.object "java/util/function/BiFunction"), (.object "java/util/function/BiFunction"), (.object "java/util/function/BiFunction")]
  resolved := Array.replicate 194 none
  statics := some 1 }

def pool12 : Array CpInfo := pool [(9, u "<init>"), (6, .class_ 18), (1, u "java/lang/Object"), (0, u "()V"), (1, .class_ 23), (1, u "jdk/internal/util/ArraysSupport"), (0, u "LOG2_ARRAY_LONG_INDEX_SCALE"), (0, u "I"), (2, u "U"), (0, u "Ljdk/internal/misc/Unsafe;"), (8, u "BIG_ENDIAN"), (0, u "Z"), (8, u "LOG2_BYTE_BIT_SIZE"), (4, u "LOG2_ARRAY_INT_INDEX_SCALE"), (54, u "JLA"), (0, u "Ljdk/internal/access/JavaLangAccess;"), (11, u "LOG2_ARRAY_BOOLEAN_INDEX_SCALE"), (9, u "LOG2_ARRAY_BYTE_INDEX_SCALE"), (5, u "LOG2_ARRAY_CHAR_INDEX_SCALE"), (5, u "LOG2_ARRAY_SHORT_INDEX_SCALE"), (18, u "LOG2_ARRAY_FLOAT_INDEX_SCALE"), (24, u "LOG2_ARRAY_DOUBLE_INDEX_SCALE"), (89, u "T_BOOLEAN"), (2, u "T_CHAR"), (1, u "T_FLOAT"), (1, u "T_DOUBLE"), (1, u "T_BYTE"), (1, u "T_SHORT"), (1, u "T_INT"), (1, u "T_LONG"), (1, u "SOFT_MAX_ARRAY_LENGTH")] 83

def k12m0 : Method := { name := "<init>", desc := "()V", sig := { parameters := [], returnType := none }, accessFlags := 2, code := none }
/-- jdk/internal/util/ArraysSupport -/
def k12 : Class := { plain "jdk/internal/util/ArraysSupport" (some 0) with
  accessFlags := 33
  interfaces := #[]
  cf := some (fileOf pool12 21 #[] #[{ accessFlags := 2, nameIndex := 9, descriptorIndex := 19, attributes := #[] }] 33 16 #[] #[{ accessFlags := 24, nameIndex := 28, descriptorIndex := 29, attributes := #[] }, { accessFlags := 26, nameIndex := 38, descriptorIndex := 39, attributes := #[] }, { accessFlags := 25, nameIndex := 121, descriptorIndex := 25, attributes := #[] }, { accessFlags := 25, nameIndex := 131, descriptorIndex := 25, attributes := #[] }, { accessFlags := 25, nameIndex := 137, descriptorIndex := 25, attributes := #[] }, { accessFlags := 25, nameIndex := 143, descriptorIndex := 25, attributes := #[] }, { accessFlags := 25, nameIndex := 53, descriptorIndex := 25, attributes := #[] }, { accessFlags := 25, nameIndex := 24, descriptorIndex := 25, attributes := #[] }, { accessFlags := 25, nameIndex := 162, descriptorIndex := 25, attributes := #[] }, { accessFlags := 25, nameIndex := 187, descriptorIndex := 25, attributes := #[] }, { accessFlags := 26, nameIndex := 48, descriptorIndex := 25, attributes := #[] }, { accessFlags := 25, nameIndex := 277, descriptorIndex := 25, attributes := #[] }, { accessFlags := 25, nameIndex := 280, descriptorIndex := 25, attributes := #[] }, { accessFlags := 25, nameIndex := 282, descriptorIndex := 25, attributes := #[] }, { accessFlags := 25, nameIndex := 284, descriptorIndex := 25, attributes := #[] }, { accessFlags := 25, nameIndex := 286, descriptorIndex := 25, attributes := #[] }, { accessFlags := 25, nameIndex := 288, descriptorIndex := 25, attributes := #[] }, { accessFlags := 25, nameIndex := 290, descriptorIndex := 25, attributes := #[] }, { accessFlags := 25, nameIndex := 292, descriptorIndex := 25, attributes := #[] }, { accessFlags := 26, nameIndex := 108, descriptorIndex := 109, attributes := #[] }, { accessFlags := 25, nameIndex := 294, descriptorIndex := 25, attributes := #[] }])
  fields := #[{ name := "U", type := (.object "jdk/internal/misc/Unsafe"), accessFlags := 24, slot := 0, constantValue := 0 }, { name := "BIG_ENDIAN", type := .boolean, accessFlags := 26, slot := 1, constantValue := 0 }, { name := "LOG2_ARRAY_BOOLEAN_INDEX_SCALE", type := .int, accessFlags := 25, slot := 2, constantValue := 0 }, { name := "LOG2_ARRAY_BYTE_INDEX_SCALE", type := .int, accessFlags := 25, slot := 3, constantValue := 0 }, { name := "LOG2_ARRAY_CHAR_INDEX_SCALE", type := .int, accessFlags := 25, slot := 4, constantValue := 0 }, { name := "LOG2_ARRAY_SHORT_INDEX_SCALE", type := .int, accessFlags := 25, slot := 5, constantValue := 0 }, { name := "LOG2_ARRAY_INT_INDEX_SCALE", type := .int, accessFlags := 25, slot := 6, constantValue := 0 }, { name := "LOG2_ARRAY_LONG_INDEX_SCALE", type := .int, accessFlags := 25, slot := 7, constantValue := 0 }, { name := "LOG2_ARRAY_FLOAT_INDEX_SCALE", type := .int, accessFlags := 25, slot := 8, constantValue := 0 }, { name := "LOG2_ARRAY_DOUBLE_INDEX_SCALE", type := .int, accessFlags := 25, slot := 9, constantValue := 0 }, { name := "LOG2_BYTE_BIT_SIZE", type := .int, accessFlags := 26, slot := 10, constantValue := 0 }, { name := "T_BOOLEAN", type := .int, accessFlags := 25, slot := 11, constantValue := 0 }, { name := "T_CHAR", type := .int, accessFlags := 25, slot := 12, constantValue := 0 }, { name := "T_FLOAT", type := .int, accessFlags := 25, slot := 13, constantValue := 0 }, { name := "T_DOUBLE", type := .int, accessFlags := 25, slot := 14, constantValue := 0 }, { name := "T_BYTE", type := .int, accessFlags := 25, slot := 15, constantValue := 0 }, { name := "T_SHORT", type := .int, accessFlags := 25, slot := 16, constantValue := 0 }, { name := "T_INT", type := .int, accessFlags := 25, slot := 17, constantValue := 0 }, { name := "T_LONG", type := .int, accessFlags := 25, slot := 18, constantValue := 0 }, { name := "JLA", type := (.object "jdk/internal/access/JavaLangAccess"), accessFlags := 26, slot := 19, constantValue := 0 }, { name := "SOFT_MAX_ARRAY_LENGTH", type := .int, accessFlags := 25, slot := 20, constantValue := 0 }]
  methods := #[k12m0]
  instanceTypes := #[]
  staticTypes := #[(.object "jdk/internal/misc/Unsafe"), .boolean, .int, .int, .int, .int, .int, .int, .int, .int, .int, .int, .int, .int, .int, .int, .int, .int, .int, (.object "jdk/internal/access/JavaLangAccess"), .int]
  resolved := Array.replicate 378 none
  statics := none }

def pool13 : Array CpInfo := pool [(1, u "java/lang/Cloneable"), (0, .class_ 1), (0, u "java/lang/Object"), (0, .class_ 3)] 3

/-- java/lang/Cloneable -/
def k13 : Class := { plain "java/lang/Cloneable" (some 0) with
  accessFlags := 1537
  interfaces := #[]
  cf := some (fileOf pool13 2 #[] #[] 1537 4 #[] #[])
  fields := #[]
  methods := #[]
  instanceTypes := #[]
  staticTypes := #[]
  resolved := Array.replicate 8 none
  statics := none }

/-- the primitive byte -/
def k14 : Class := { plain "byte" none with kind := .primitive 'B', accessFlags := 0x411 }
/-- [B -/
def k15 : Class := { plain "[B" (some 0) with kind := .array 14 .byte, interfaces := #[13, 2], accessFlags := 1041 }

/-- the primitive char -/
def k16 : Class := { plain "char" none with kind := .primitive 'C', accessFlags := 0x411 }
/-- [C -/
def k17 : Class := { plain "[C" (some 0) with kind := .array 16 .char, interfaces := #[13, 2], accessFlags := 1041 }

/-- the primitive int -/
def k18 : Class := { plain "int" none with kind := .primitive 'I', accessFlags := 0x411 }
/-- [I -/
def k19 : Class := { plain "[I" (some 0) with kind := .array 18 .int, interfaces := #[13, 2], accessFlags := 1041 }

/-- [Ljava/lang/String; -/
def k20 : Class := { plain "[Ljava/lang/String;" (some 0) with kind := .array 7 (.object "java/lang/String"), interfaces := #[13, 2], accessFlags := 1041 }

def heap : Heap := #[{ cls := 7, slots := #[.long 0, .int 1, .null, .int 0, .null, .int 0, .int 0], vm := .statics 7 },
  { cls := 11, slots := #[.null, .null, .null], vm := .statics 11 }]
def classes : Array Class := #[k0, k1, k2, k3, k4, k5, k6, k7, k8, k9, k10, k11, k12, k13, k14, k15, k16, k17, k18, k19, k20]
def interned : List (Array UInt16 × Addr) := []
def slotsUsed : Nat := 10
def theMethod : MethodId := ⟨1, 2⟩
def args0 : Array Value := #[.int 1, .int 2, .int 3, .int 4]
def aboutOver (below : List Frame) : State where
  vm := { classes := classes, interned := interned.toArray }
  heap := heap
  slotsUsed := slotsUsed
  threads := #[{ frames := .invoking theMethod args0 :: below }]
def below0 : List Frame := [.native { method := ⟨0, 0⟩, args := #[] }]
def about1 : State := aboutOver below0
def p0 : Program := .bare "" "" ""
def e0 : Env := launch0.env 0 0 0
theorem w_frames : about1.frames = Frame.invoking theMethod args0 :: below0 := rfl
set_option maxRecDepth 65536 in
theorem w_args : argsFit about1.vm theMethod args0 = true := by decide +kernel
set_option maxRecDepth 65536 in
theorem w_heap : heapFits about1 = true := by decide +kernel
set_option maxRecDepth 65536 in
theorem w_runnable : about1.curStatus? = some .runnable := by decide +kernel
set_option maxRecDepth 65536 in
theorem w_alone : about1.alone = true := by decide +kernel
set_option maxRecDepth 65536 in
theorem w_named : about1.methodNamed? x = some theMethod := by decide +kernel
set_option maxRecDepth 65536 in
theorem w_hears : about1.hears theMethod below0 = true := by decide +kernel
set_option maxRecDepth 65536 in
theorem w_ripe : about1.ripe theMethod args0 below0 = true := by decide +kernel
theorem w_running : about1.status = .running := rfl
set_option maxRecDepth 65536 in
theorem w_room : about1.hasRoom e0.platform room_1 = true :=
  launch0.hasRoom_least _ room_1 (by decide +kernel) (by decide +kernel) (by decide +kernel) (by decide +kernel) (by decide +kernel) (by decide +kernel)
theorem allAtoms_all (ts : List Jvm.Cond) (a : Array Jvm.Value) (st : Jvm.State) : (allAtoms ts).before a st = ts.all (fun c => c.before a st) := by
  induction ts with
  | nil => rfl
  | cons c t ih =>
    show (Jvm.Cond.and c (allAtoms t)).before a st = _
    rw [Jvm.Cond.before_and, ih, List.all_cons]
def words1 : List Jvm.Cond := Jvm.Cond.code x code maxLocals ret :: tables_1
/-- a 'code' word, met by the world's own term for the bytes: nothing is compared byte by byte -/
theorem code_word {y : MethodName} {bytes : ByteArray} {mx : Nat} {rt : Option FieldType} {a : Array Value} {s : State} {m : MethodId} {meth : Method} {c : Code} (h1 : s.methodNamed? y = some m) (h2 : s.vm.method? m = some meth) (h3 : meth.code = some c) (h4 : c.code = bytes)
    (h5 : (c.maxLocals == mx && c.exceptionTable.isEmpty && decide (c.maxStack ≤ mostOperands) && decide (meth.sig.returnType = rt) && !meth.locks && decide (parseMethodDescriptor y.desc = some meth.sig)) = true) : (Jvm.Cond.code y bytes mx rt).before a s = true := by
  simp only [Bool.and_eq_true, beq_iff_eq, Bool.not_eq_true', decide_eq_true_eq] at h5
  obtain ⟨⟨⟨⟨⟨g1, g2⟩, g3⟩, g4⟩, g5⟩, g6⟩ := h5
  simp [Cond.before, Cond.holds, Cond.value, h1, h2, h3, h4, g1, g2, g3, g4, g5, g6]
def isCode : Jvm.Cond → Bool
  | .code _ _ _ _ => true
  | _ => false
theorem all_split {L : List Jvm.Cond} {P : Jvm.Cond → Bool} (h1 : L.all (fun c => isCode c || P c) = true) (h2 : ∀ c ∈ L.filter isCode, P c = true) : L.all P = true := by
  refine List.all_eq_true.mpr fun c hc => ?_
  have h := List.all_eq_true.mp h1 c hc
  rcases Bool.eq_false_or_eq_true (isCode c) with hi | hi
  · exact h2 c (List.mem_filter.mpr ⟨hc, hi⟩)
  · simpa [hi] using h
set_option maxRecDepth 65536 in
theorem w_c0 : (Jvm.Cond.code x code maxLocals ret).before args0 about1 = true := code_word (m := ⟨1, 2⟩) (meth := k1m2) (c := k1c2) (by decide +kernel) rfl rfl rfl (by decide +kernel)
set_option maxRecDepth 65536 in
theorem w_c1 : (Jvm.Cond.code ({ cls := "java/lang/String", name := "<init>", desc := "([C)V" } : Jvm.MethodName) jdk_42_method_3_code (2 : Nat) (Option.none : Option Jvm.ClassFile.FieldType)).before args0 about1 = true := code_word (m := ⟨7, 1⟩) (meth := k7m1) (c := k7c1) (by decide +kernel) rfl rfl rfl (by decide +kernel)
set_option maxRecDepth 65536 in
theorem w_c2 : (Jvm.Cond.code ({ cls := "java/lang/String", name := "<init>", desc := "([CIILjava/lang/Void;)V" } : Jvm.MethodName) jdk_42_method_149_code (6 : Nat) (Option.none : Option Jvm.ClassFile.FieldType)).before args0 about1 = true := code_word (m := ⟨7, 3⟩) (meth := k7m3) (c := k7c3) (by decide +kernel) rfl rfl rfl (by decide +kernel)
set_option maxRecDepth 65536 in
theorem w_c3 : (Jvm.Cond.code ({ cls := "java/lang/Object", name := "<init>", desc := "()V" } : Jvm.MethodName) object_method_1_code (1 : Nat) (Option.none : Option Jvm.ClassFile.FieldType)).before args0 about1 = true := code_word (m := ⟨0, 0⟩) (meth := k0m0) (c := k0c0) (by decide +kernel) rfl rfl rfl (by decide +kernel)
set_option maxRecDepth 65536 in
theorem w_c4 : (Jvm.Cond.code ({ cls := "java/lang/StringUTF16", name := "compress", desc := "([CII)[B" } : Jvm.MethodName) jdk_52_method_16_code (6 : Nat) (Option.some (Jvm.ClassFile.FieldType.array Jvm.ClassFile.FieldType.byte))).before args0 about1 = true := code_word (m := ⟨8, 2⟩) (meth := k8m2) (c := k8c2) (by decide +kernel) rfl rfl rfl (by decide +kernel)
set_option maxRecDepth 65536 in
theorem w_c5 : (Jvm.Cond.code ({ cls := "java/lang/StringUTF16", name := "compress", desc := "([CI[BII)I" } : Jvm.MethodName) jdk_52_method_21_code (7 : Nat) (Option.some Jvm.ClassFile.FieldType.int)).before args0 about1 = true := code_word (m := ⟨8, 3⟩) (meth := k8m3) (c := k8c3) (by decide +kernel) rfl rfl rfl (by decide +kernel)
set_option maxRecDepth 65536 in
theorem w_c6 : (Jvm.Cond.code ({ cls := "java/lang/StringUTF16", name := "coderFromArrayLen", desc := "([BI)B" } : Jvm.MethodName) jdk_52_method_15_code (2 : Nat) (Option.some Jvm.ClassFile.FieldType.byte)).before args0 about1 = true := code_word (m := ⟨8, 1⟩) (meth := k8m1) (c := k8c1) (by decide +kernel) rfl rfl rfl (by decide +kernel)
set_option maxRecDepth 65536 in
theorem w_c7 : (Jvm.Cond.code ({ cls := "com/example/varasto/varasto/util/OptionReader", name := "<init>", desc := "([Ljava/lang/String;)V" } : Jvm.MethodName) prog_16_method_1_code (2 : Nat) (Option.none : Option Jvm.ClassFile.FieldType)).before args0 about1 = true := code_word (m := ⟨9, 0⟩) (meth := k9m0) (c := k9c0) (by decide +kernel) rfl rfl rfl (by decide +kernel)
set_option maxRecDepth 65536 in
theorem w_c8 : (Jvm.Cond.code ({ cls := "com/example/varasto/varasto/util/OptionReader", name := "hasNext", desc := "()Z" } : Jvm.MethodName) prog_16_method_2_code (1 : Nat) (Option.some Jvm.ClassFile.FieldType.boolean)).before args0 about1 = true := code_word (m := ⟨9, 1⟩) (meth := k9m1) (c := k9c1) (by decide +kernel) rfl rfl rfl (by decide +kernel)
set_option maxRecDepth 65536 in
theorem w_c9 : (Jvm.Cond.code ({ cls := "com/example/varasto/varasto/util/OptionReader", name := "next", desc := "()Ljava/lang/String;" } : Jvm.MethodName) prog_16_method_3_code (1 : Nat) (Option.some (Jvm.ClassFile.FieldType.object "java/lang/String"))).before args0 about1 = true := code_word (m := ⟨9, 2⟩) (meth := k9m2) (c := k9c2) (by decide +kernel) rfl rfl rfl (by decide +kernel)
set_option maxRecDepth 65536 in
theorem w_c10 : (Jvm.Cond.code ({ cls := "java/lang/String", name := "equals", desc := "(Ljava/lang/Object;)Z" } : Jvm.MethodName) jdk_42_method_66_code (3 : Nat) (Option.some Jvm.ClassFile.FieldType.boolean)).before args0 about1 = true := code_word (m := ⟨7, 2⟩) (meth := k7m2) (c := k7c2) (by decide +kernel) rfl rfl rfl (by decide +kernel)
set_option maxRecDepth 65536 in
theorem w_c11 : (Jvm.Cond.code ({ cls := "com/example/varasto/varasto/util/OptionReaderNextPinLaw", name := "pick", desc := "(ILjava/lang/String;Ljava/lang/String;)Ljava/lang/String;" } : Jvm.MethodName) method_2_code (3 : Nat) (Option.some (Jvm.ClassFile.FieldType.object "java/lang/String"))).before args0 about1 = true := code_word (m := ⟨1, 1⟩) (meth := k1m1) (c := k1c1) (by decide +kernel) rfl rfl rfl (by decide +kernel)
set_option maxRecDepth 65536 in
theorem w_c12 : (Jvm.Cond.code ({ cls := "com/example/varasto/varasto/util/OptionReader", name := "value", desc := "()Ljava/lang/String;" } : Jvm.MethodName) prog_16_method_4_code (1 : Nat) (Option.some (Jvm.ClassFile.FieldType.object "java/lang/String"))).before args0 about1 = true := code_word (m := ⟨9, 3⟩) (meth := k9m3) (c := k9c3) (by decide +kernel) rfl rfl rfl (by decide +kernel)
def codes1 : List Jvm.Cond := [Jvm.Cond.code x code maxLocals ret, Jvm.Cond.code ({ cls := "java/lang/String", name := "<init>", desc := "([C)V" } : Jvm.MethodName) jdk_42_method_3_code (2 : Nat) (Option.none : Option Jvm.ClassFile.FieldType), Jvm.Cond.code ({ cls := "java/lang/String", name := "<init>", desc := "([CIILjava/lang/Void;)V" } : Jvm.MethodName) jdk_42_method_149_code (6 : Nat) (Option.none : Option Jvm.ClassFile.FieldType), Jvm.Cond.code ({ cls := "java/lang/Object", name := "<init>", desc := "()V" } : Jvm.MethodName) object_method_1_code (1 : Nat) (Option.none : Option Jvm.ClassFile.FieldType), Jvm.Cond.code ({ cls := "java/lang/StringUTF16", name := "compress", desc := "([CII)[B" } : Jvm.MethodName) jdk_52_method_16_code (6 : Nat) (Option.some (Jvm.ClassFile.FieldType.array Jvm.ClassFile.FieldType.byte)), Jvm.Cond.code ({ cls := "java/lang/StringUTF16", name := "compress", desc := "([CI[BII)I" } : Jvm.MethodName) jdk_52_method_21_code (7 : Nat) (Option.some Jvm.ClassFile.FieldType.int), Jvm.Cond.code ({ cls := "java/lang/StringUTF16", name := "coderFromArrayLen", desc := "([BI)B" } : Jvm.MethodName) jdk_52_method_15_code (2 : Nat) (Option.some Jvm.ClassFile.FieldType.byte), Jvm.Cond.code ({ cls := "com/example/varasto/varasto/util/OptionReader", name := "<init>", desc := "([Ljava/lang/String;)V" } : Jvm.MethodName) prog_16_method_1_code (2 : Nat) (Option.none : Option Jvm.ClassFile.FieldType), Jvm.Cond.code ({ cls := "com/example/varasto/varasto/util/OptionReader", name := "hasNext", desc := "()Z" } : Jvm.MethodName) prog_16_method_2_code (1 : Nat) (Option.some Jvm.ClassFile.FieldType.boolean), Jvm.Cond.code ({ cls := "com/example/varasto/varasto/util/OptionReader", name := "next", desc := "()Ljava/lang/String;" } : Jvm.MethodName) prog_16_method_3_code (1 : Nat) (Option.some (Jvm.ClassFile.FieldType.object "java/lang/String")), Jvm.Cond.code ({ cls := "java/lang/String", name := "equals", desc := "(Ljava/lang/Object;)Z" } : Jvm.MethodName) jdk_42_method_66_code (3 : Nat) (Option.some Jvm.ClassFile.FieldType.boolean), Jvm.Cond.code ({ cls := "com/example/varasto/varasto/util/OptionReaderNextPinLaw", name := "pick", desc := "(ILjava/lang/String;Ljava/lang/String;)Ljava/lang/String;" } : Jvm.MethodName) method_2_code (3 : Nat) (Option.some (Jvm.ClassFile.FieldType.object "java/lang/String")), Jvm.Cond.code ({ cls := "com/example/varasto/varasto/util/OptionReader", name := "value", desc := "()Ljava/lang/String;" } : Jvm.MethodName) prog_16_method_4_code (1 : Nat) (Option.some (Jvm.ClassFile.FieldType.object "java/lang/String"))]
set_option maxRecDepth 65536 in
theorem codes_eq : words1.filter isCode = codes1 := rfl
theorem w_codes : ∀ c ∈ words1.filter isCode, c.before args0 about1 = true := by
  rw [codes_eq]
  intro c hc
  simp only [codes1, List.mem_cons, List.not_mem_nil, or_false] at hc
  rcases hc with rfl | rfl | rfl | rfl | rfl | rfl | rfl | rfl | rfl | rfl | rfl | rfl | rfl
  · exact w_c0
  · exact w_c1
  · exact w_c2
  · exact w_c3
  · exact w_c4
  · exact w_c5
  · exact w_c6
  · exact w_c7
  · exact w_c8
  · exact w_c9
  · exact w_c10
  · exact w_c11
  · exact w_c12
set_option maxRecDepth 65536 in
theorem w_t1 : (words1.take 24).all (fun c => isCode c || c.before args0 about1) = true := by decide +kernel
set_option maxRecDepth 65536 in
theorem w_t2 : ((words1.drop 24).take 24).all (fun c => isCode c || c.before args0 about1) = true := by decide +kernel
set_option maxRecDepth 65536 in
theorem w_t3 : ((words1.drop 24).drop 24).all (fun c => isCode c || c.before args0 about1) = true := by decide +kernel
theorem w_tables : (allAtoms (Jvm.Cond.code x code maxLocals ret :: tables_1)).before args0 about1 = true := by
  rw [allAtoms_all]
  show words1.all (fun c => c.before args0 about1) = true
  refine all_split ?_ w_codes
  rw [← List.take_append_drop 24 words1, List.all_append, w_t1, ← List.take_append_drop 24 (words1.drop 24), List.all_append, w_t2, w_t3]
  rfl
set_option maxRecDepth 65536 in
theorem w_rest : rest_1_c.before args0 about1 = true := by decide +kernel
set_option maxRecDepth 65536 in
theorem w_case : (Jvm.Cond.and given_1 narrow_1).before args0 about1 = true := by decide +kernel
theorem w_applies : (headSpec (Jvm.Cond.code x code maxLocals ret :: tables_1) room_1).applies x e0.platform about1 = true :=
  (Spec.applies_iff w_frames).mpr ⟨w_running, w_runnable, w_alone, w_named, w_hears, w_ripe, w_room, w_tables⟩
theorem atStart : AtStart classFile x code maxLocals ret World_1 tables_1 room_1 Calls_1 rest_1 Pre_1 launch0 p0 e0 about1 theMethod args0 below0 :=
  ⟨lists_1, trivial, launch0.admits_env _ _ _, launch0.least_env, fairChoices_fair.cas, fairChoices_fair.clock, w_frames, w_args, w_heap, w_applies, trivial, w_rest, w_case⟩
end start1
theorem witness_1 : WitnessClaimed_1 := ⟨start1.p0, start1.e0, start1.about1, start1.theMethod, start1.args0, start1.below0, start1.atStart⟩
end Jvm.Pilot.@@N@@
