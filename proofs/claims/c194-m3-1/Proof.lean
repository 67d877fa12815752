import JvmDerived
import JvmDerived.Pilot.@@N@@Statement
import JvmDerived.Pilot.@@N@@Code
set_option linter.unusedVariables false
set_option linter.unusedSimpArgs false
@@BLOCK:NumsL.lean.txt@@
namespace Jvm.OwnWalk
open Sem ClassFile Op Lib Jvm.Stand Jvm.Free Jvm.LawKit Jvm.RoadKit
section K
variable {p : Program} {l : Launch} {e : Env} {R : Room} {s : State} {m : MethodId} {args : Array Value} {below : List Frame} {meth : Method} {c : Code} {T : State} {locs : List Loc} {cells slots : Nat} {Z : State} {a0 : Array Value} {h : Heap} {P : Outcome → State → Prop} {pc : Nat} {Ls : Array Slot} {rest : List Value}
/-- from T with g on top the invocation ends, and P holds of its end -/
def Wout (p : Program) (e : Env) (below : List Frame) (P : Outcome → State → Prop) (T : State) (g : JFrame) : Prop :=
  ∃ U o, Steps p.tables e below (T.setTop g) U ∧ U.status = .running ∧ Ended U below o ∧ P o U
theorem Wout.of {T T' : State} {g g' : JFrame} (st : ∀ t, Steps p.tables e below (T'.setTop g') t → Steps p.tables e below (T.setTop g) t) (hr : Wout p e below P T' g') : Wout p e below P T g := by
  obtain ⟨U, o, h1, h2⟩ := hr
  exact ⟨U, o, st U h1, h2⟩
theorem Wout.tr {T T' : State} {g g' : JFrame} (st : Steps p.tables e below (T.setTop g) (T'.setTop g')) (hr : Wout p e below P T' g') : Wout p e below P T g := by
  obtain ⟨U, o, h1, h2⟩ := hr
  exact ⟨U, o, st.trans h1, h2⟩
theorem Wout.cast {T : State} {g g' : JFrame} (q : g = g') (hr : Wout p e below P T g') : Wout p e below P T g := q ▸ hr
/-- the end of an invocation that returned: Q of its value, the heap and the written places; the frame -/
def Pst (s : State) (Q : Option Value → Heap → List Loc → Prop) (C S : Nat) (o : Outcome) (U : State) : Prop := ∃ v L, o = .returned v ∧ Q v U.heap L ∧ FrameEnd s o U L C S
abbrev Met (l : Launch) (Z : State) (y : MethodName) (bytes : ByteArray) (maxL : Nat) (ret : Option FieldType) (ws : List Jvm.Cond) (rm : Room) (as' : Array Value) (h0 : Heap) (Q : Option Value → Heap → List Loc → Prop) : Prop :=
  MetFree l y (head1 (Jvm.Cond.code y bytes maxL ret :: ws) rm) (fun a U => a = as' ∧ Z.Warmed39 U.vm ∧ U.heap = h0) (fun _ _ _ _ _ => True) (fun _ U o U' => ∃ v L, o = .returned v ∧ Q v U'.heap L ∧ FrameEnd U o U' L rm.cells rm.slots)
theorem Met.start {y : MethodName} {bytes : ByteArray} {maxL : Nat} {ret : Option FieldType} {ws : List Jvm.Cond} {rm : Room} {as' : Array Value} {h0 : Heap} {Q : Option Value → Heap → List Loc → Prop} (hpl : plainFor y = true)
    (H : ∀ (p : Program) (e : Env) (s : State) (m : MethodId) (below : List Frame) (meth : Method) (c : Code) (T : State), Stand p l e rm s m as' below meth c T [] 0 0 → p.tables.exec = Jvm.exec → c.code = bytes → c.maxLocals = maxL → s.vm.findClass y.cls = some m.cls → meth.name = y.name → meth.sig.returnType = ret → meth.locks = false → Z.Warmed39 s.vm → T.heap = h0 → Wout p e below (Pst s Q rm.cells rm.slots) T (entryFrame m as' maxL)) :
    Met l Z y bytes maxL ret ws rm as' h0 Q := by
  refine MetFree.of_bodySF hpl hisR ?_
  intro p e s m args below meth c s₁ Bd hml0 hP hK
  obtain ⟨rfl, hZ, hh⟩ := hP
  exact H p e s m below meth c s₁ (Stand.of_body Bd) Bd.exec Bd.bytes hml0 (findClass_of_methodNamed Bd.named) (name_of_methodNamed Bd.named Bd.method).1 Bd.returns Bd.notSynchronized hZ (by rw [← hh, Bd.state]; rfl)
/-! what a branch says -/
def cI : ClassFile.Cond → Int32 → Prop
  | .eq, x => x = 0 | .ne, x => ¬ x = 0 | .lt, x => x < 0 | .ge, x => ¬ x < 0 | .gt, x => 0 < x | .le, x => ¬ 0 < x
def cII : ClassFile.Cond → Int32 → Int32 → Prop
  | .eq, x, y => x = y | .ne, x, y => ¬ x = y | .lt, x, y => x < y | .ge, x, y => ¬ x < y | .gt, x, y => y < x | .le, x, y => ¬ y < x
def cLL : ClassFile.Cond → Int64 → Int64 → Prop
  | .eq, x, y => x = y | .ne, x, y => ¬ x = y | .lt, x, y => x < y | .ge, x, y => ¬ x < y | .gt, x, y => y < x | .le, x, y => ¬ y < x
def cNeg : ClassFile.Cond → ClassFile.Cond
  | .eq => .ne | .ne => .eq | .lt => .ge | .ge => .lt | .gt => .le | .le => .gt
theorem cI_t : ∀ {cd : ClassFile.Cond} {x : Int32}, cI cd x → ifCond.holds cd x = true
  | .eq, _, q => XT.i0_eq_t q
  | .ne, _, q => XT.i0_ne_t q
  | .lt, _, q => XT.i0_lt_t q
  | .ge, _, q => XT.i0_ge_t q
  | .gt, _, q => XT.i0_gt_t q
  | .le, _, q => XT.i0_le_t q
theorem cI_f : ∀ {cd : ClassFile.Cond} {x : Int32}, cI (cNeg cd) x → ifCond.holds cd x = false
  | .eq, _, q => XT.i0_eq_f q
  | .ne, _, q => XT.i0_ne_f q
  | .lt, _, q => XT.i0_lt_f q
  | .ge, _, q => XT.i0_ge_f q
  | .gt, _, q => XT.i0_gt_f q
  | .le, _, q => XT.i0_le_f q
theorem cII_t : ∀ {cd : ClassFile.Cond} {x y : Int32}, cII cd x y → if_icmp.holds cd x y = true
  | .eq, _, _, q => XT.ii_eq_t q
  | .ne, _, _, q => XT.ii_ne_t q
  | .lt, _, _, q => XT.ii_lt_t q
  | .ge, _, _, q => XT.ii_ge_t q
  | .gt, _, _, q => XT.ii_gt_t q
  | .le, _, _, q => XT.ii_le_t q
theorem cII_f : ∀ {cd : ClassFile.Cond} {x y : Int32}, cII (cNeg cd) x y → if_icmp.holds cd x y = false
  | .eq, _, _, q => XT.ii_eq_f q
  | .ne, _, _, q => XT.ii_ne_f q
  | .lt, _, _, q => XT.ii_lt_f q
  | .ge, _, _, q => XT.ii_ge_f q
  | .gt, _, _, q => XT.ii_gt_f q
  | .le, _, _, q => XT.ii_le_f q
theorem cLL_t : ∀ {cd : ClassFile.Cond} {x y : Int64}, cLL cd x y → ifCond.holds cd (XT.cmpL x y) = true
  | .eq, _, _, q => XT.ll_eq_t q
  | .ne, _, _, q => XT.ll_ne_t q
  | .lt, _, _, q => XT.ll_lt_t q
  | .ge, _, _, q => XT.ll_ge_t q
  | .gt, _, _, q => XT.ll_gt_t q
  | .le, _, _, q => XT.ll_le_t q
theorem cLL_f : ∀ {cd : ClassFile.Cond} {x y : Int64}, cLL (cNeg cd) x y → ifCond.holds cd (XT.cmpL x y) = false
  | .eq, _, _, q => XT.ll_eq_f q
  | .ne, _, _, q => XT.ll_ne_f q
  | .lt, _, _, q => XT.ll_lt_f q
  | .ge, _, _, q => XT.ll_ge_f q
  | .gt, _, _, q => XT.ll_gt_f q
  | .le, _, _, q => XT.ll_le_f q
theorem cI_em (cd : ClassFile.Cond) (x : Int32) : cI cd x ∨ cI (cNeg cd) x := by
  cases cd <;> simp only [cI, cNeg] <;> first | exact Classical.em _ | exact (Classical.em _).symm
theorem cII_em (cd : ClassFile.Cond) (x y : Int32) : cII cd x y ∨ cII (cNeg cd) x y := by
  cases cd <;> simp only [cII, cNeg] <;> first | exact Classical.em _ | exact (Classical.em _).symm
theorem cLL_em (cd : ClassFile.Cond) (x y : Int64) : cLL cd x y ∨ cLL (cNeg cd) x y := by
  cases cd <;> simp only [cLL, cNeg] <;> first | exact Classical.em _ | exact (Classical.em _).symm

theorem o_iload (X : Stand p l e R s m args below meth c T locs cells slots) (hx : p.tables.exec = Jvm.exec) (n : Nat) {k : Nat} {v : Int32} (hd : decode c.code pc = .ok (.iload k, 2)) (hl : Ls[k]? = some (.val (.int v))) (hp : pc + 2 = n) (hr : Wout p e below P T (mkF m n Ls (.int v :: rest))) : Wout p e below P T (mkF m pc Ls (rest)) := by
  subst hp
  exact Wout.of (fun _ ht => XS.iload X.here hx rfl hd hl ht) hr
theorem o_iloadN (X : Stand p l e R s m args below meth c T locs cells slots) (hx : p.tables.exec = Jvm.exec) (n : Nat) {k : Fin 4} {v : Int32} (hd : decode c.code pc = .ok (.iload_n k, 1)) (hl : Ls[k.val]? = some (.val (.int v))) (hp : pc + 1 = n) (hr : Wout p e below P T (mkF m n Ls (.int v :: rest))) : Wout p e below P T (mkF m pc Ls (rest)) := by
  subst hp
  exact Wout.of (fun _ ht => XS.iloadN X.here hx rfl hd hl ht) hr
theorem o_istore (X : Stand p l e R s m args below meth c T locs cells slots) (hx : p.tables.exec = Jvm.exec) (n : Nat) {k : Nat} {v : Int32} {Ls' : Array Slot} (hd : decode c.code pc = .ok (.istore k, 2)) (hl : storeLocals Ls k (.int v) = some Ls') (hp : pc + 2 = n) (hr : Wout p e below P T (mkF m n Ls' (rest))) : Wout p e below P T (mkF m pc Ls (.int v :: rest)) := by
  subst hp
  exact Wout.of (fun _ ht => XS.istore X.here hx rfl hd rfl hl ht) hr
theorem o_istoreN (X : Stand p l e R s m args below meth c T locs cells slots) (hx : p.tables.exec = Jvm.exec) (n : Nat) {k : Fin 4} {v : Int32} {Ls' : Array Slot} (hd : decode c.code pc = .ok (.istore_n k, 1)) (hl : storeLocals Ls k.val (.int v) = some Ls') (hp : pc + 1 = n) (hr : Wout p e below P T (mkF m n Ls' (rest))) : Wout p e below P T (mkF m pc Ls (.int v :: rest)) := by
  subst hp
  exact Wout.of (fun _ ht => XS.istoreN X.here hx rfl hd rfl hl ht) hr
theorem o_lload (X : Stand p l e R s m args below meth c T locs cells slots) (hx : p.tables.exec = Jvm.exec) (n : Nat) {k : Nat} {v : Int64} (hd : decode c.code pc = .ok (.lload k, 2)) (hl : Ls[k]? = some (.val (.long v))) (hp : pc + 2 = n) (hr : Wout p e below P T (mkF m n Ls (.long v :: rest))) : Wout p e below P T (mkF m pc Ls (rest)) := by
  subst hp
  exact Wout.of (fun _ ht => XT.lload X.here hx rfl hd hl ht) hr
theorem o_lloadN (X : Stand p l e R s m args below meth c T locs cells slots) (hx : p.tables.exec = Jvm.exec) (n : Nat) {k : Fin 4} {v : Int64} (hd : decode c.code pc = .ok (.lload_n k, 1)) (hl : Ls[k.val]? = some (.val (.long v))) (hp : pc + 1 = n) (hr : Wout p e below P T (mkF m n Ls (.long v :: rest))) : Wout p e below P T (mkF m pc Ls (rest)) := by
  subst hp
  exact Wout.of (fun _ ht => XT.lloadN X.here hx rfl hd hl ht) hr
theorem o_lstore (X : Stand p l e R s m args below meth c T locs cells slots) (hx : p.tables.exec = Jvm.exec) (n : Nat) {k : Nat} {v : Int64} {Ls' : Array Slot} (hd : decode c.code pc = .ok (.lstore k, 2)) (hl : storeLocals Ls k (.long v) = some Ls') (hp : pc + 2 = n) (hr : Wout p e below P T (mkF m n Ls' (rest))) : Wout p e below P T (mkF m pc Ls (.long v :: rest)) := by
  subst hp
  exact Wout.of (fun _ ht => XT.lstore X.here hx rfl hd rfl hl ht) hr
theorem o_lstoreN (X : Stand p l e R s m args below meth c T locs cells slots) (hx : p.tables.exec = Jvm.exec) (n : Nat) {k : Fin 4} {v : Int64} {Ls' : Array Slot} (hd : decode c.code pc = .ok (.lstore_n k, 1)) (hl : storeLocals Ls k.val (.long v) = some Ls') (hp : pc + 1 = n) (hr : Wout p e below P T (mkF m n Ls' (rest))) : Wout p e below P T (mkF m pc Ls (.long v :: rest)) := by
  subst hp
  exact Wout.of (fun _ ht => XT.lstoreN X.here hx rfl hd rfl hl ht) hr
theorem o_aload (X : Stand p l e R s m args below meth c T locs cells slots) (hx : p.tables.exec = Jvm.exec) (n : Nat) {k : Nat} {v : Value} (hd : decode c.code pc = .ok (.aload k, 2)) (hl : Ls[k]? = some (.val v)) (hv : v.isRef = true) (hp : pc + 2 = n) (hr : Wout p e below P T (mkF m n Ls (v :: rest))) : Wout p e below P T (mkF m pc Ls (rest)) := by
  subst hp
  exact Wout.of (fun _ ht => XS.aload X.here hx rfl hd hl hv ht) hr
theorem o_aloadN (X : Stand p l e R s m args below meth c T locs cells slots) (hx : p.tables.exec = Jvm.exec) (n : Nat) {k : Fin 4} {v : Value} (hd : decode c.code pc = .ok (.aload_n k, 1)) (hl : Ls[k.val]? = some (.val v)) (hv : v.isRef = true) (hp : pc + 1 = n) (hr : Wout p e below P T (mkF m n Ls (v :: rest))) : Wout p e below P T (mkF m pc Ls (rest)) := by
  subst hp
  exact Wout.of (fun _ ht => XS.aloadN X.here hx rfl hd hl hv ht) hr
theorem o_astore (X : Stand p l e R s m args below meth c T locs cells slots) (hx : p.tables.exec = Jvm.exec) (n : Nat) {k : Nat} {v : Value} {Ls' : Array Slot} (hd : decode c.code pc = .ok (.astore k, 2)) (hv : v.isRef = true) (hl : storeLocals Ls k v = some Ls') (hp : pc + 2 = n) (hr : Wout p e below P T (mkF m n Ls' (rest))) : Wout p e below P T (mkF m pc Ls (v :: rest)) := by
  subst hp
  exact Wout.of (fun _ ht => XS.astore X.here hx rfl hd rfl hv hl ht) hr
theorem o_astoreN (X : Stand p l e R s m args below meth c T locs cells slots) (hx : p.tables.exec = Jvm.exec) (n : Nat) {k : Fin 4} {v : Value} {Ls' : Array Slot} (hd : decode c.code pc = .ok (.astore_n k, 1)) (hv : v.isRef = true) (hl : storeLocals Ls k.val v = some Ls') (hp : pc + 1 = n) (hr : Wout p e below P T (mkF m n Ls' (rest))) : Wout p e below P T (mkF m pc Ls (v :: rest)) := by
  subst hp
  exact Wout.of (fun _ ht => XS.astoreN X.here hx rfl hd rfl hv hl ht) hr
theorem o_iconst (X : Stand p l e R s m args below meth c T locs cells slots) (hx : p.tables.exec = Jvm.exec) (n : Nat) {i : Int} (v : Int32) (hd : decode c.code pc = .ok (.iconst i, 1)) (hv : Int32.ofInt i = v) (hp : pc + 1 = n) (hr : Wout p e below P T (mkF m n Ls (.int v :: rest))) : Wout p e below P T (mkF m pc Ls (rest)) := by
  subst hp
  exact Wout.of (fun _ ht => XT.iconstV X.here hx rfl v hd hv ht) hr
theorem o_bipush (X : Stand p l e R s m args below meth c T locs cells slots) (hx : p.tables.exec = Jvm.exec) (n : Nat) {i : Int} (v : Int32) (hd : decode c.code pc = .ok (.bipush i, 2)) (hv : (Int8.ofInt i).toInt32 = v) (hp : pc + 2 = n) (hr : Wout p e below P T (mkF m n Ls (.int v :: rest))) : Wout p e below P T (mkF m pc Ls (rest)) := by
  subst hp
  exact Wout.of (fun _ ht => XT.bipushV X.here hx rfl v hd hv ht) hr
theorem o_sipush (X : Stand p l e R s m args below meth c T locs cells slots) (hx : p.tables.exec = Jvm.exec) (n : Nat) {i : Int} (v : Int32) (hd : decode c.code pc = .ok (.sipush i, 3)) (hv : (Int16.ofInt i).toInt32 = v) (hp : pc + 3 = n) (hr : Wout p e below P T (mkF m n Ls (.int v :: rest))) : Wout p e below P T (mkF m pc Ls (rest)) := by
  subst hp
  exact Wout.of (fun _ ht => XT.sipushV X.here hx rfl v hd hv ht) hr
theorem o_lconst (X : Stand p l e R s m args below meth c T locs cells slots) (hx : p.tables.exec = Jvm.exec) (n : Nat) {k : Fin 2} (v : Int64) (hd : decode c.code pc = .ok (.lconst k, 1)) (hv : Int64.ofNat k = v) (hp : pc + 1 = n) (hr : Wout p e below P T (mkF m n Ls (.long v :: rest))) : Wout p e below P T (mkF m pc Ls (rest)) := by
  subst hp
  exact Wout.of (fun _ ht => XT.lconstV X.here hx rfl v hd hv ht) hr
theorem o_aconst_null (X : Stand p l e R s m args below meth c T locs cells slots) (hx : p.tables.exec = Jvm.exec) (n : Nat)  (hd : decode c.code pc = .ok (.aconst_null, 1)) (hp : pc + 1 = n) (hr : Wout p e below P T (mkF m n Ls (.null :: rest))) : Wout p e below P T (mkF m pc Ls (rest)) := by
  subst hp
  exact Wout.of (fun _ ht => XS.aconstNull X.here hx rfl hd ht) hr
theorem o_iadd (X : Stand p l e R s m args below meth c T locs cells slots) (hx : p.tables.exec = Jvm.exec) (n : Nat) {x y : Int32} (hd : decode c.code pc = .ok (.iadd, 1)) (hp : pc + 1 = n) (hr : Wout p e below P T (mkF m n Ls (.int (x + y) :: rest))) : Wout p e below P T (mkF m pc Ls (.int y :: .int x :: rest)) := by
  subst hp
  exact Wout.of (fun _ ht => XS.iadd X.here hx rfl hd rfl ht) hr
theorem o_isub (X : Stand p l e R s m args below meth c T locs cells slots) (hx : p.tables.exec = Jvm.exec) (n : Nat) {x y : Int32} (hd : decode c.code pc = .ok (.isub, 1)) (hp : pc + 1 = n) (hr : Wout p e below P T (mkF m n Ls (.int (x - y) :: rest))) : Wout p e below P T (mkF m pc Ls (.int y :: .int x :: rest)) := by
  subst hp
  exact Wout.of (fun _ ht => XS.isub X.here hx rfl hd rfl ht) hr
theorem o_imul (X : Stand p l e R s m args below meth c T locs cells slots) (hx : p.tables.exec = Jvm.exec) (n : Nat) {x y : Int32} (hd : decode c.code pc = .ok (.imul, 1)) (hp : pc + 1 = n) (hr : Wout p e below P T (mkF m n Ls (.int (x * y) :: rest))) : Wout p e below P T (mkF m pc Ls (.int y :: .int x :: rest)) := by
  subst hp
  exact Wout.of (fun _ ht => XS.imul X.here hx rfl hd rfl ht) hr
theorem o_iand (X : Stand p l e R s m args below meth c T locs cells slots) (hx : p.tables.exec = Jvm.exec) (n : Nat) {x y : Int32} (hd : decode c.code pc = .ok (.iand, 1)) (hp : pc + 1 = n) (hr : Wout p e below P T (mkF m n Ls (.int (x &&& y) :: rest))) : Wout p e below P T (mkF m pc Ls (.int y :: .int x :: rest)) := by
  subst hp
  exact Wout.of (fun _ ht => XS.iand X.here hx rfl hd rfl ht) hr
theorem o_ior (X : Stand p l e R s m args below meth c T locs cells slots) (hx : p.tables.exec = Jvm.exec) (n : Nat) {x y : Int32} (hd : decode c.code pc = .ok (.ior, 1)) (hp : pc + 1 = n) (hr : Wout p e below P T (mkF m n Ls (.int (x ||| y) :: rest))) : Wout p e below P T (mkF m pc Ls (.int y :: .int x :: rest)) := by
  subst hp
  exact Wout.of (fun _ ht => XT.ior X.here hx rfl hd rfl ht) hr
theorem o_ixor (X : Stand p l e R s m args below meth c T locs cells slots) (hx : p.tables.exec = Jvm.exec) (n : Nat) {x y : Int32} (hd : decode c.code pc = .ok (.ixor, 1)) (hp : pc + 1 = n) (hr : Wout p e below P T (mkF m n Ls (.int (x ^^^ y) :: rest))) : Wout p e below P T (mkF m pc Ls (.int y :: .int x :: rest)) := by
  subst hp
  exact Wout.of (fun _ ht => XT.ixor X.here hx rfl hd rfl ht) hr
theorem o_ishl (X : Stand p l e R s m args below meth c T locs cells slots) (hx : p.tables.exec = Jvm.exec) (n : Nat) {x y : Int32} (hd : decode c.code pc = .ok (.ishl, 1)) (hp : pc + 1 = n) (hr : Wout p e below P T (mkF m n Ls (.int (x <<< (y &&& 31)) :: rest))) : Wout p e below P T (mkF m pc Ls (.int y :: .int x :: rest)) := by
  subst hp
  exact Wout.of (fun _ ht => XT.ishl X.here hx rfl hd rfl ht) hr
theorem o_ishr (X : Stand p l e R s m args below meth c T locs cells slots) (hx : p.tables.exec = Jvm.exec) (n : Nat) {x y : Int32} (hd : decode c.code pc = .ok (.ishr, 1)) (hp : pc + 1 = n) (hr : Wout p e below P T (mkF m n Ls (.int (x >>> (y &&& 31)) :: rest))) : Wout p e below P T (mkF m pc Ls (.int y :: .int x :: rest)) := by
  subst hp
  exact Wout.of (fun _ ht => XT.ishr X.here hx rfl hd rfl ht) hr
theorem o_iushr (X : Stand p l e R s m args below meth c T locs cells slots) (hx : p.tables.exec = Jvm.exec) (n : Nat) {x y : Int32} (hd : decode c.code pc = .ok (.iushr, 1)) (hp : pc + 1 = n) (hr : Wout p e below P T (mkF m n Ls (.int (XT.ushr x y) :: rest))) : Wout p e below P T (mkF m pc Ls (.int y :: .int x :: rest)) := by
  subst hp
  exact Wout.of (fun _ ht => XT.iushr X.here hx rfl hd rfl ht) hr
theorem o_ladd (X : Stand p l e R s m args below meth c T locs cells slots) (hx : p.tables.exec = Jvm.exec) (n : Nat) {x y : Int64} (hd : decode c.code pc = .ok (.ladd, 1)) (hp : pc + 1 = n) (hr : Wout p e below P T (mkF m n Ls (.long (x + y) :: rest))) : Wout p e below P T (mkF m pc Ls (.long y :: .long x :: rest)) := by
  subst hp
  exact Wout.of (fun _ ht => XT.ladd X.here hx rfl hd rfl ht) hr
theorem o_lsub (X : Stand p l e R s m args below meth c T locs cells slots) (hx : p.tables.exec = Jvm.exec) (n : Nat) {x y : Int64} (hd : decode c.code pc = .ok (.lsub, 1)) (hp : pc + 1 = n) (hr : Wout p e below P T (mkF m n Ls (.long (x - y) :: rest))) : Wout p e below P T (mkF m pc Ls (.long y :: .long x :: rest)) := by
  subst hp
  exact Wout.of (fun _ ht => XT.lsub X.here hx rfl hd rfl ht) hr
theorem o_lmul (X : Stand p l e R s m args below meth c T locs cells slots) (hx : p.tables.exec = Jvm.exec) (n : Nat) {x y : Int64} (hd : decode c.code pc = .ok (.lmul, 1)) (hp : pc + 1 = n) (hr : Wout p e below P T (mkF m n Ls (.long (x * y) :: rest))) : Wout p e below P T (mkF m pc Ls (.long y :: .long x :: rest)) := by
  subst hp
  exact Wout.of (fun _ ht => XT.lmul X.here hx rfl hd rfl ht) hr
theorem o_land (X : Stand p l e R s m args below meth c T locs cells slots) (hx : p.tables.exec = Jvm.exec) (n : Nat) {x y : Int64} (hd : decode c.code pc = .ok (.land, 1)) (hp : pc + 1 = n) (hr : Wout p e below P T (mkF m n Ls (.long (x &&& y) :: rest))) : Wout p e below P T (mkF m pc Ls (.long y :: .long x :: rest)) := by
  subst hp
  exact Wout.of (fun _ ht => XT.land X.here hx rfl hd rfl ht) hr
theorem o_lor (X : Stand p l e R s m args below meth c T locs cells slots) (hx : p.tables.exec = Jvm.exec) (n : Nat) {x y : Int64} (hd : decode c.code pc = .ok (.lor, 1)) (hp : pc + 1 = n) (hr : Wout p e below P T (mkF m n Ls (.long (x ||| y) :: rest))) : Wout p e below P T (mkF m pc Ls (.long y :: .long x :: rest)) := by
  subst hp
  exact Wout.of (fun _ ht => XT.lor X.here hx rfl hd rfl ht) hr
theorem o_lxor (X : Stand p l e R s m args below meth c T locs cells slots) (hx : p.tables.exec = Jvm.exec) (n : Nat) {x y : Int64} (hd : decode c.code pc = .ok (.lxor, 1)) (hp : pc + 1 = n) (hr : Wout p e below P T (mkF m n Ls (.long (x ^^^ y) :: rest))) : Wout p e below P T (mkF m pc Ls (.long y :: .long x :: rest)) := by
  subst hp
  exact Wout.of (fun _ ht => XT.lxor X.here hx rfl hd rfl ht) hr
theorem o_irem (X : Stand p l e R s m args below meth c T locs cells slots) (hx : p.tables.exec = Jvm.exec) (n : Nat) {x y : Int32} (hd : decode c.code pc = .ok (.irem, 1)) (hy : y ≠ 0) (hp : pc + 1 = n) (hr : Wout p e below P T (mkF m n Ls (.int (x % y) :: rest))) : Wout p e below P T (mkF m pc Ls (.int y :: .int x :: rest)) := by
  subst hp
  exact Wout.of (fun _ ht => iremM X hx rfl hd rfl hy ht) hr
theorem o_idiv (X : Stand p l e R s m args below meth c T locs cells slots) (hx : p.tables.exec = Jvm.exec) (n : Nat) {x y : Int32} (hd : decode c.code pc = .ok (.idiv, 1)) (hy : y ≠ 0) (hp : pc + 1 = n) (hr : Wout p e below P T (mkF m n Ls (.int (x / y) :: rest))) : Wout p e below P T (mkF m pc Ls (.int y :: .int x :: rest)) := by
  subst hp
  exact Wout.of (fun _ ht => XS.idiv X.here hx rfl hd rfl hy ht) hr
theorem o_lshl (X : Stand p l e R s m args below meth c T locs cells slots) (hx : p.tables.exec = Jvm.exec) (n : Nat) {x : Int64} {y : Int32} (hd : decode c.code pc = .ok (.lshl, 1)) (hp : pc + 1 = n) (hr : Wout p e below P T (mkF m n Ls (.long (x <<< (y.toInt64 &&& 63)) :: rest))) : Wout p e below P T (mkF m pc Ls (.int y :: .long x :: rest)) := by
  subst hp
  exact Wout.of (fun _ ht => XT.lshl X.here hx rfl hd rfl ht) hr
theorem o_lshr (X : Stand p l e R s m args below meth c T locs cells slots) (hx : p.tables.exec = Jvm.exec) (n : Nat) {x : Int64} {y : Int32} (hd : decode c.code pc = .ok (.lshr, 1)) (hp : pc + 1 = n) (hr : Wout p e below P T (mkF m n Ls (.long (x >>> (y.toInt64 &&& 63)) :: rest))) : Wout p e below P T (mkF m pc Ls (.int y :: .long x :: rest)) := by
  subst hp
  exact Wout.of (fun _ ht => XT.lshr X.here hx rfl hd rfl ht) hr
theorem o_lushr (X : Stand p l e R s m args below meth c T locs cells slots) (hx : p.tables.exec = Jvm.exec) (n : Nat) {x : Int64} {y : Int32} (hd : decode c.code pc = .ok (.lushr, 1)) (hp : pc + 1 = n) (hr : Wout p e below P T (mkF m n Ls (.long (XT.ushrL x y) :: rest))) : Wout p e below P T (mkF m pc Ls (.int y :: .long x :: rest)) := by
  subst hp
  exact Wout.of (fun _ ht => XT.lushr X.here hx rfl hd rfl ht) hr
theorem o_ineg (X : Stand p l e R s m args below meth c T locs cells slots) (hx : p.tables.exec = Jvm.exec) (n : Nat) {x : Int32} (hd : decode c.code pc = .ok (.ineg, 1)) (hp : pc + 1 = n) (hr : Wout p e below P T (mkF m n Ls (.int (-x) :: rest))) : Wout p e below P T (mkF m pc Ls (.int x :: rest)) := by
  subst hp
  exact Wout.of (fun _ ht => XS.ineg X.here hx rfl hd rfl ht) hr
theorem o_i2l (X : Stand p l e R s m args below meth c T locs cells slots) (hx : p.tables.exec = Jvm.exec) (n : Nat) {x : Int32} (hd : decode c.code pc = .ok (.i2l, 1)) (hp : pc + 1 = n) (hr : Wout p e below P T (mkF m n Ls (.long (x.toInt64) :: rest))) : Wout p e below P T (mkF m pc Ls (.int x :: rest)) := by
  subst hp
  exact Wout.of (fun _ ht => XT.i2l X.here hx rfl hd rfl ht) hr
theorem o_l2i (X : Stand p l e R s m args below meth c T locs cells slots) (hx : p.tables.exec = Jvm.exec) (n : Nat) {x : Int64} (hd : decode c.code pc = .ok (.l2i, 1)) (hp : pc + 1 = n) (hr : Wout p e below P T (mkF m n Ls (.int (x.toInt32) :: rest))) : Wout p e below P T (mkF m pc Ls (.long x :: rest)) := by
  subst hp
  exact Wout.of (fun _ ht => XT.l2i X.here hx rfl hd rfl ht) hr
theorem o_i2b (X : Stand p l e R s m args below meth c T locs cells slots) (hx : p.tables.exec = Jvm.exec) (n : Nat) {x : Int32} (hd : decode c.code pc = .ok (.i2b, 1)) (hp : pc + 1 = n) (hr : Wout p e below P T (mkF m n Ls (.int (x.toInt8.toInt32) :: rest))) : Wout p e below P T (mkF m pc Ls (.int x :: rest)) := by
  subst hp
  exact Wout.of (fun _ ht => XT.i2b X.here hx rfl hd rfl ht) hr
theorem o_i2c (X : Stand p l e R s m args below meth c T locs cells slots) (hx : p.tables.exec = Jvm.exec) (n : Nat) {x : Int32} (hd : decode c.code pc = .ok (.i2c, 1)) (hp : pc + 1 = n) (hr : Wout p e below P T (mkF m n Ls (.int (x.toUInt32.toUInt16.toUInt32.toInt32) :: rest))) : Wout p e below P T (mkF m pc Ls (.int x :: rest)) := by
  subst hp
  exact Wout.of (fun _ ht => XT.i2c X.here hx rfl hd rfl ht) hr
theorem o_i2s (X : Stand p l e R s m args below meth c T locs cells slots) (hx : p.tables.exec = Jvm.exec) (n : Nat) {x : Int32} (hd : decode c.code pc = .ok (.i2s, 1)) (hp : pc + 1 = n) (hr : Wout p e below P T (mkF m n Ls (.int (x.toInt16.toInt32) :: rest))) : Wout p e below P T (mkF m pc Ls (.int x :: rest)) := by
  subst hp
  exact Wout.of (fun _ ht => XT.i2s X.here hx rfl hd rfl ht) hr
theorem o_lcmp (X : Stand p l e R s m args below meth c T locs cells slots) (hx : p.tables.exec = Jvm.exec) (n : Nat) {x y : Int64} (hd : decode c.code pc = .ok (.lcmp, 1)) (hp : pc + 1 = n) (hr : Wout p e below P T (mkF m n Ls (.int (XT.cmpL x y) :: rest))) : Wout p e below P T (mkF m pc Ls (.long y :: .long x :: rest)) := by
  subst hp
  exact Wout.of (fun _ ht => XT.lcmp X.here hx rfl hd rfl ht) hr
theorem o_dup (X : Stand p l e R s m args below meth c T locs cells slots) (hx : p.tables.exec = Jvm.exec) (n : Nat) {v : Value} (hd : decode c.code pc = .ok (.dup, 1)) (hc : v.category = 1) (hp : pc + 1 = n) (hr : Wout p e below P T (mkF m n Ls (v :: v :: rest))) : Wout p e below P T (mkF m pc Ls (v :: rest)) := by
  subst hp
  exact Wout.of (fun _ ht => XS.dup X.here hx rfl hd rfl hc ht) hr
theorem o_pop (X : Stand p l e R s m args below meth c T locs cells slots) (hx : p.tables.exec = Jvm.exec) (n : Nat) {v : Value} (hd : decode c.code pc = .ok (.pop, 1)) (hc : v.category = 1) (hp : pc + 1 = n) (hr : Wout p e below P T (mkF m n Ls (rest))) : Wout p e below P T (mkF m pc Ls (v :: rest)) := by
  subst hp
  exact Wout.of (fun _ ht => XT.pop X.here hx rfl hd rfl hc ht) hr
theorem o_dup_x1 (X : Stand p l e R s m args below meth c T locs cells slots) (hx : p.tables.exec = Jvm.exec) (n : Nat) {v w : Value} (hd : decode c.code pc = .ok (.dup_x1, 1)) (hc : v.category = 1) (hc' : w.category = 1) (hp : pc + 1 = n) (hr : Wout p e below P T (mkF m n Ls (v :: w :: v :: rest))) : Wout p e below P T (mkF m pc Ls (v :: w :: rest)) := by
  subst hp
  exact Wout.of (fun _ ht => XT.dupX1 X.here hx rfl hd rfl hc hc' ht) hr
theorem o_dup2 (X : Stand p l e R s m args below meth c T locs cells slots) (hx : p.tables.exec = Jvm.exec) (n : Nat) {v w : Value} (hd : decode c.code pc = .ok (.dup2, 1)) (hc : v.category = 1) (hc' : w.category = 1) (hp : pc + 1 = n) (hr : Wout p e below P T (mkF m n Ls (v :: w :: v :: w :: rest))) : Wout p e below P T (mkF m pc Ls (v :: w :: rest)) := by
  subst hp
  exact Wout.of (fun _ ht => XT.dup2 X.here hx rfl hd rfl hc hc' ht) hr
theorem o_iinc (X : Stand p l e R s m args below meth c T locs cells slots) (hx : p.tables.exec = Jvm.exec) (n : Nat) {k : Nat} {i : Int} {x : Int32} {Ls' : Array Slot} (v : Int32) (hd : decode c.code pc = .ok (.iinc k i, 3)) (hv : Int32.ofInt i = v) (hl : Ls[k]? = some (.val (.int x))) (hl' : storeLocals Ls k (.int (x + v)) = some Ls') (hp : pc + 3 = n) (hr : Wout p e below P T (mkF m n Ls' (rest))) : Wout p e below P T (mkF m pc Ls (rest)) := by
  subst hp
  exact Wout.of (fun _ ht => XT.iincV X.here hx rfl v hd hv hl hl' ht) hr
theorem jmp {pc n : Nat} {o : Int} (hp : (pc : Int) + o = (n : Int)) : 0 ≤ (pc : Int) + o ∧ ((pc : Int) + o).toNat = n := by rw [hp]; exact ⟨Int.natCast_nonneg n, Int.toNat_natCast n⟩
theorem o_goto (X : Stand p l e R s m args below meth c T locs cells slots) (hx : p.tables.exec = Jvm.exec) (n : Nat) {o : Int} (hd : decode c.code pc = .ok (.goto o, 3)) (hp : (pc : Int) + o = (n : Int)) (hr : Wout p e below P T (mkF m n Ls rest)) : Wout p e below P T (mkF m pc Ls rest) :=
  Wout.of (fun _ ht => XS.goto X.here hx rfl (pc0 := pc) rfl hd (jmp hp).1 (jmp hp).2 ht) hr
theorem o_ifT (X : Stand p l e R s m args below meth c T locs cells slots) (hx : p.tables.exec = Jvm.exec) (n : Nat) {cd : ClassFile.Cond} {x : Int32} {o : Int} (hd : decode c.code pc = .ok (.ifCond cd o, 3)) (hp : (pc : Int) + o = (n : Int)) (q : cI cd x) (hr : Wout p e below P T (mkF m n Ls rest)) : Wout p e below P T (mkF m pc Ls (.int x :: rest)) :=
  Wout.of (fun _ ht => XS.ifYes X.here hx rfl (pc0 := pc) rfl hd rfl (cI_t q) (jmp hp).1 (jmp hp).2 ht) hr
theorem o_ifF (X : Stand p l e R s m args below meth c T locs cells slots) (hx : p.tables.exec = Jvm.exec) (n : Nat) {cd : ClassFile.Cond} {x : Int32} {o : Int} (hd : decode c.code pc = .ok (.ifCond cd o, 3)) (hp : pc + 3 = n) (q : cI (cNeg cd) x) (hr : Wout p e below P T (mkF m n Ls rest)) : Wout p e below P T (mkF m pc Ls (.int x :: rest)) := by
  subst hp
  exact Wout.of (fun _ ht => XS.ifNo X.here hx rfl hd rfl (cI_f q) ht) hr
theorem o_if (X : Stand p l e R s m args below meth c T locs cells slots) (hx : p.tables.exec = Jvm.exec) (n1 n2 : Nat) {cd : ClassFile.Cond} {x : Int32} {o : Int} (hd : decode c.code pc = .ok (.ifCond cd o, 3)) (hp1 : (pc : Int) + o = (n1 : Int)) (hp2 : pc + 3 = n2) (h1 : cI cd x → Wout p e below P T (mkF m n1 Ls rest)) (h2 : cI (cNeg cd) x → Wout p e below P T (mkF m n2 Ls rest)) : Wout p e below P T (mkF m pc Ls (.int x :: rest)) :=
  (cI_em cd x).elim (fun q => o_ifT X hx n1 hd hp1 q (h1 q)) (fun q => o_ifF X hx n2 hd hp2 q (h2 q))
theorem o_ifLT (X : Stand p l e R s m args below meth c T locs cells slots) (hx : p.tables.exec = Jvm.exec) (n : Nat) {cd : ClassFile.Cond} {x y : Int64} {o : Int} (hd : decode c.code pc = .ok (.ifCond cd o, 3)) (hp : (pc : Int) + o = (n : Int)) (q : cLL cd x y) (hr : Wout p e below P T (mkF m n Ls rest)) : Wout p e below P T (mkF m pc Ls (.int (XT.cmpL x y) :: rest)) :=
  Wout.of (fun _ ht => XS.ifYes X.here hx rfl (pc0 := pc) rfl hd rfl (cLL_t q) (jmp hp).1 (jmp hp).2 ht) hr
theorem o_ifLF (X : Stand p l e R s m args below meth c T locs cells slots) (hx : p.tables.exec = Jvm.exec) (n : Nat) {cd : ClassFile.Cond} {x y : Int64} {o : Int} (hd : decode c.code pc = .ok (.ifCond cd o, 3)) (hp : pc + 3 = n) (q : cLL (cNeg cd) x y) (hr : Wout p e below P T (mkF m n Ls rest)) : Wout p e below P T (mkF m pc Ls (.int (XT.cmpL x y) :: rest)) := by
  subst hp
  exact Wout.of (fun _ ht => XS.ifNo X.here hx rfl hd rfl (cLL_f q) ht) hr
theorem o_ifL (X : Stand p l e R s m args below meth c T locs cells slots) (hx : p.tables.exec = Jvm.exec) (n1 n2 : Nat) {cd : ClassFile.Cond} {x y : Int64} {o : Int} (hd : decode c.code pc = .ok (.ifCond cd o, 3)) (hp1 : (pc : Int) + o = (n1 : Int)) (hp2 : pc + 3 = n2) (h1 : cLL cd x y → Wout p e below P T (mkF m n1 Ls rest)) (h2 : cLL (cNeg cd) x y → Wout p e below P T (mkF m n2 Ls rest)) : Wout p e below P T (mkF m pc Ls (.int (XT.cmpL x y) :: rest)) :=
  (cLL_em cd x y).elim (fun q => o_ifLT X hx n1 hd hp1 q (h1 q)) (fun q => o_ifLF X hx n2 hd hp2 q (h2 q))
theorem o_icmpT (X : Stand p l e R s m args below meth c T locs cells slots) (hx : p.tables.exec = Jvm.exec) (n : Nat) {cd : ClassFile.Cond} {x y : Int32} {o : Int} (hd : decode c.code pc = .ok (.if_icmp cd o, 3)) (hp : (pc : Int) + o = (n : Int)) (q : cII cd x y) (hr : Wout p e below P T (mkF m n Ls rest)) : Wout p e below P T (mkF m pc Ls (.int y :: .int x :: rest)) :=
  Wout.of (fun _ ht => XS.icmpYes X.here hx rfl (pc0 := pc) rfl hd rfl (cII_t q) (jmp hp).1 (jmp hp).2 ht) hr
theorem o_icmpF (X : Stand p l e R s m args below meth c T locs cells slots) (hx : p.tables.exec = Jvm.exec) (n : Nat) {cd : ClassFile.Cond} {x y : Int32} {o : Int} (hd : decode c.code pc = .ok (.if_icmp cd o, 3)) (hp : pc + 3 = n) (q : cII (cNeg cd) x y) (hr : Wout p e below P T (mkF m n Ls rest)) : Wout p e below P T (mkF m pc Ls (.int y :: .int x :: rest)) := by
  subst hp
  exact Wout.of (fun _ ht => XS.icmpNo X.here hx rfl hd rfl (cII_f q) ht) hr
theorem o_icmp (X : Stand p l e R s m args below meth c T locs cells slots) (hx : p.tables.exec = Jvm.exec) (n1 n2 : Nat) {cd : ClassFile.Cond} {x y : Int32} {o : Int} (hd : decode c.code pc = .ok (.if_icmp cd o, 3)) (hp1 : (pc : Int) + o = (n1 : Int)) (hp2 : pc + 3 = n2) (h1 : cII cd x y → Wout p e below P T (mkF m n1 Ls rest)) (h2 : cII (cNeg cd) x y → Wout p e below P T (mkF m n2 Ls rest)) : Wout p e below P T (mkF m pc Ls (.int y :: .int x :: rest)) :=
  (cII_em cd x y).elim (fun q => o_icmpT X hx n1 hd hp1 q (h1 q)) (fun q => o_icmpF X hx n2 hd hp2 q (h2 q))
theorem o_ifnullT (X : Stand p l e R s m args below meth c T locs cells slots) (hx : p.tables.exec = Jvm.exec) (n : Nat) {o : Int} (hd : decode c.code pc = .ok (.ifnull o, 3)) (hp : (pc : Int) + o = (n : Int)) (hr : Wout p e below P T (mkF m n Ls rest)) : Wout p e below P T (mkF m pc Ls (.null :: rest)) :=
  Wout.of (fun _ ht => XS.ifnullYes X.here hx rfl (pc0 := pc) rfl hd rfl (jmp hp).1 (jmp hp).2 ht) hr
theorem o_ifnullF (X : Stand p l e R s m args below meth c T locs cells slots) (hx : p.tables.exec = Jvm.exec) (n : Nat) {o : Int} {a : Addr} (hd : decode c.code pc = .ok (.ifnull o, 3)) (hp : pc + 3 = n) (hr : Wout p e below P T (mkF m n Ls rest)) : Wout p e below P T (mkF m pc Ls (.ref a :: rest)) := by
  subst hp
  exact Wout.of (fun _ ht => XS.ifnullNo X.here hx rfl hd rfl ht) hr
theorem o_ifnonnullT (X : Stand p l e R s m args below meth c T locs cells slots) (hx : p.tables.exec = Jvm.exec) (n : Nat) {o : Int} {a : Addr} (hd : decode c.code pc = .ok (.ifnonnull o, 3)) (hp : (pc : Int) + o = (n : Int)) (hr : Wout p e below P T (mkF m n Ls rest)) : Wout p e below P T (mkF m pc Ls (.ref a :: rest)) :=
  Wout.of (fun _ ht => XT.ifnonnullYes X.here hx rfl (pc0 := pc) rfl hd rfl (jmp hp).1 (jmp hp).2 ht) hr
theorem o_ifnonnullF (X : Stand p l e R s m args below meth c T locs cells slots) (hx : p.tables.exec = Jvm.exec) (n : Nat) {o : Int} (hd : decode c.code pc = .ok (.ifnonnull o, 3)) (hp : pc + 3 = n) (hr : Wout p e below P T (mkF m n Ls rest)) : Wout p e below P T (mkF m pc Ls (.null :: rest)) := by
  subst hp
  exact Wout.of (fun _ ht => XT.ifnonnullNo X.here hx rfl hd rfl ht) hr
theorem o_acmpT (X : Stand p l e R s m args below meth c T locs cells slots) (hx : p.tables.exec = Jvm.exec) (n : Nat) {cd : ClassFile.ACond} {x y : Value} {o : Int} (hd : decode c.code pc = .ok (.if_acmp cd o, 3)) (h1 : x.isRef = true) (h2 : y.isRef = true) (hp : (pc : Int) + o = (n : Int)) (q : XT.acmp cd x y = true) (hr : Wout p e below P T (mkF m n Ls rest)) : Wout p e below P T (mkF m pc Ls (y :: x :: rest)) :=
  Wout.of (fun _ ht => XT.acmpYes X.here hx rfl (pc0 := pc) rfl hd rfl h1 h2 q (jmp hp).1 (jmp hp).2 ht) hr
theorem o_acmpF (X : Stand p l e R s m args below meth c T locs cells slots) (hx : p.tables.exec = Jvm.exec) (n : Nat) {cd : ClassFile.ACond} {x y : Value} {o : Int} (hd : decode c.code pc = .ok (.if_acmp cd o, 3)) (h1 : x.isRef = true) (h2 : y.isRef = true) (hp : pc + 3 = n) (q : XT.acmp cd x y = false) (hr : Wout p e below P T (mkF m n Ls rest)) : Wout p e below P T (mkF m pc Ls (y :: x :: rest)) := by
  subst hp
  exact Wout.of (fun _ ht => XT.acmpNo X.here hx rfl hd rfl h1 h2 q ht) hr
theorem o_tsw (X : Stand p l e R s m args below meth c T locs cells slots) (hx : p.tables.exec = Jvm.exec) (n : Nat) {dflt low high : Int} {offs : Array Int} {len : Nat} {o : Int} {i : Int32} (hd : decode c.code pc = .ok (.tableswitch dflt low high offs, len)) (hin : ¬ (i.toInt < low ∨ i.toInt > high)) (hoff : offs[(i.toInt - low).toNat]? = some o) (hp : (pc : Int) + o = (n : Int)) (hr : Wout p e below P T (mkF m n Ls rest)) : Wout p e below P T (mkF m pc Ls (.int i :: rest)) :=
  Wout.of (fun _ ht => XS.tswIn X.here hx rfl (pc0 := pc) rfl hd rfl hin hoff (jmp hp).1 (jmp hp).2 ht) hr
/-! constants of the pool, fields, statics -/
theorem o_ldc (X : Stand p l e R s m args below meth c T locs cells slots) (hx : p.tables.exec = Jvm.exec) (hZ : Z.Warmed39 s.vm) (n : Nat) {own : String} {index : Nat} {v : Int32} (hown : s.vm.findClass own = some m.cls) (w : (Jvm.Cond.constant own index v).before a0 Z = true) (hd : decode c.code pc = .ok (.ldc index, 2)) (hp : pc + 2 = n) (hr : Wout p e below P T (mkF m n Ls (.int v :: rest))) : Wout p e below P T (mkF m pc Ls rest) := by
  subst hp
  exact Wout.of (fun _ ht => X.ldcI hx hown (mv hZ w) rfl hd ht) hr
theorem o_ldc2 (X : Stand p l e R s m args below meth c T locs cells slots) (hx : p.tables.exec = Jvm.exec) (hZ : Z.Warmed39 s.vm) (n : Nat) {own : String} {index : Nat} {v : Int64} (hown : s.vm.findClass own = some m.cls) (w : (Jvm.Cond.constantLong own index v).before a0 Z = true) (hd : decode c.code pc = .ok (.ldc2_w index, 3)) (hp : pc + 3 = n) (hr : Wout p e below P T (mkF m n Ls (.long v :: rest))) : Wout p e below P T (mkF m pc Ls rest) := by
  subst hp
  exact Wout.of (fun _ ht => X.ldc2J hx hown (mv hZ w) rfl hd ht) hr
theorem o_getF (X : Stand p l e R s m args below meth c T locs cells slots) (hx : p.tables.exec = Jvm.exec) (hZ : Z.Warmed39 s.vm) {own R0 O nm d host : String} {index : Nat} (hown : s.vm.findClass own = some m.cls) (w : (Jvm.Cond.fieldLink own index R0 nm d).before a0 Z = true ∨ (Jvm.Cond.fieldLinkNest own index R0 nm d host).before a0 Z = true) (via : Via Z R0 O nm d) (eT : T.heap = h) {a : Addr} {v : Value} (F : Fld Z h a O nm d v) (n : Nat) (hd : decode c.code pc = .ok (.getfield index, 3)) (hp : pc + 3 = n)
    (hr : ∀ T', Stand p l e R s m args below meth c T' locs cells slots → T'.heap = h → Wout p e below P T' (mkF m n Ls (v :: rest))) : Wout p e below P T (mkF m pc Ls (.ref a :: rest)) := by
  subst hp
  obtain ⟨T', X', e', st⟩ := getF X hx hZ hown w via eT F (g := mkF m pc Ls (.ref a :: rest)) rfl rfl hd
  exact Wout.of st (hr T' X' e')
theorem o_getS (X : Stand p l e R s m args below meth c T locs cells slots) (hx : p.tables.exec = Jvm.exec) (hZ : Z.Warmed39 s.vm) {own R0 O nm d host : String} {index : Nat} (hown : s.vm.findClass own = some m.cls) (w : (Jvm.Cond.fieldLink own index R0 nm d).before a0 Z = true ∨ (Jvm.Cond.fieldLinkNest own index R0 nm d host).before a0 Z = true) (via : Via Z R0 O nm d) (eT : T.heap = h) {v : Value} (F : Sta Z h O nm d v) (n : Nat) (hd : decode c.code pc = .ok (.getstatic index, 3)) (hp : pc + 3 = n)
    (hr : ∀ T', Stand p l e R s m args below meth c T' locs cells slots → T'.heap = h → Wout p e below P T' (mkF m n Ls (v :: rest))) : Wout p e below P T (mkF m pc Ls rest) := by
  subst hp
  obtain ⟨T', X', e', st⟩ := getS2 X hx hZ hown w via eT F (g := mkF m pc Ls rest) rfl hd
  exact Wout.of st (hr T' X' e')
theorem o_putF (X : Stand p l e R s m args below meth c T locs cells slots) (hx : p.tables.exec = Jvm.exec) (hZ : Z.Warmed39 s.vm) {own R0 O nm d host C : String} {index kk : Nat} (ty : FieldType) (hown : s.vm.findClass own = some m.cls) (w : (Jvm.Cond.fieldLink own index R0 nm d).before a0 Z = true ∨ (Jvm.Cond.fieldLinkNest own index R0 nm d host).before a0 Z = true) (via : Via Z R0 O nm d) (eT : T.heap = h) {a : Addr} {v old : Value} (F : Fld Z h a O nm d old) (E : Exa Z h a C)
    (L : (Jvm.Cond.lays C O nm d).before a0 Z = true ∨ ((Jvm.Cond.laysFinal C O nm d).before a0 Z = true ∧ own = O ∧ meth.name = "<init>")) (wi : (Jvm.Cond.instantiable C kk).before a0 Z = true) (hty : parseFieldDescriptor d = some ty) (hn : Jvm.narrow ty v = v) (hf : fits ty v = true) {n0 : Nat} (N : Fr n0 locs) (g : n0 ≤ a) (n : Nat) (hd : decode c.code pc = .ok (.putfield index, 3)) (hp : pc + 3 = n)
    (hr : ∀ T' h' locs', Stand p l e R s m args below meth c T' locs' cells slots → T'.heap = h' → Wr h h' a (RoadKit.slotOf Z O nm d) v → Fr n0 locs' → Wout p e below P T' (mkF m n Ls rest)) : Wout p e below P T (mkF m pc Ls (v :: .ref a :: rest)) := by
  subst hp
  obtain ⟨T', h', X', e', W, st⟩ := putF X hx hZ hown w via eT F E L wi hty hn hf (g := mkF m pc Ls (v :: .ref a :: rest)) rfl rfl hd
  exact Wout.of st (hr T' h' _ X' e' W (Fr.snoc X' N g))
theorem o_putFN (X : Stand p l e R s m args below meth c T locs cells slots) (hx : p.tables.exec = Jvm.exec) (hZ : Z.Warmed39 s.vm) {own R0 O nm d C : String} {index kk : Nat} (ty : FieldType) (hown : s.vm.findClass own = some m.cls) (w : (Jvm.Cond.fieldLink own index R0 nm d).before a0 Z = true) (via : Via Z R0 O nm d) (eT : T.heap = h) {a : Addr} {v v' old : Value} (F : Fld Z h a O nm d old) (E : Exa Z h a C)
    (L : (Jvm.Cond.lays C O nm d).before a0 Z = true ∨ ((Jvm.Cond.laysFinal C O nm d).before a0 Z = true ∧ own = O ∧ meth.name = "<init>")) (wi : (Jvm.Cond.instantiable C kk).before a0 Z = true) (hty : parseFieldDescriptor d = some ty) (hn : Jvm.narrow ty v = v') (hf : fits ty v' = true) {n0 : Nat} (N : Fr n0 locs) (g : n0 ≤ a) (n : Nat) (hd : decode c.code pc = .ok (.putfield index, 3)) (hp : pc + 3 = n)
    (hr : ∀ T' h' locs', Stand p l e R s m args below meth c T' locs' cells slots → T'.heap = h' → Wr h h' a (RoadKit.slotOf Z O nm d) v' → Fr n0 locs' → Wout p e below P T' (mkF m n Ls rest)) : Wout p e below P T (mkF m pc Ls (v :: .ref a :: rest)) := by
  subst hp
  obtain ⟨T', h', X', e', W, st⟩ := putFN X hx hZ hown w via eT F E L wi hty hn hf (g := mkF m pc Ls (v :: .ref a :: rest)) rfl rfl hd
  exact Wout.of st (hr T' h' _ X' e' W (Fr.snoc X' N g))
/-! objects and arrays that are made -/
theorem o_new (X : Stand p l e R s m args below meth c T locs cells slots) (hx : p.tables.exec = Jvm.exec) (hZ : Z.Warmed39 s.vm) {own C : String} {index k : Nat} (hown : s.vm.findClass own = some m.cls) (w : (Jvm.Cond.classLink own index C).before a0 Z = true) (wi : (Jvm.Cond.instantiable C k).before a0 Z = true) (wz : (Jvm.Cond.initialized C).before a0 Z = true) (eT : T.heap = h) (n : Nat) (hd : decode c.code pc = .ok (.new index, 3)) (hp : pc + 3 = n) (hc : cells + 1 ≤ R.cells) (hl : slots + k ≤ R.slots)
    (hr : ∀ T' h' (b : Addr), b = h.size → Stand p l e R s m args below meth c T' locs (cells + 1) (slots + k) → T'.heap = h' → Ext h h' → Exa Z h' b C → (∀ {O nm d : String} {ty : FieldType}, Laid Z a0 C O nm d → parseFieldDescriptor d = some ty → Fld Z h' b O nm d (defaultValue ty)) → Wout p e below P T' (mkF m n Ls (.ref b :: rest))) : Wout p e below P T (mkF m pc Ls rest) := by
  subst hp
  obtain ⟨T', h', X', e', E, A, D, -, st⟩ := newO X hx hZ hown w wi wz eT (g := mkF m pc Ls rest) rfl hd hc hl
  exact Wout.of st (hr T' h' _ rfl X' e' E A D)
theorem o_newarray (X : Stand p l e R s m args below meth c T locs cells slots) (hx : p.tables.exec = Jvm.exec) (hZ : Z.Warmed39 s.vm) {aty : ArrayType} (w : (Jvm.Cond.arrayClass (newarray.typeOf aty)).before a0 Z = true) (eT : T.heap = h) (n : Nat) (hd : decode c.code pc = .ok (.newarray aty, 2)) (hp : pc + 2 = n) {z : Int32} (hz : ¬ z < 0) (cap : Nat) (hcap : z.toNatClampNeg ≤ cap) (hbb : cap * 8 ≤ 536870912) (hc : cells + 1 ≤ R.cells) (hl : slots + cap ≤ R.slots)
    (hr : ∀ T' h' (b : Addr) (k : ClassId), b = h.size → Stand p l e R s m args below meth c T' locs (cells + 1) (slots + cap) → T'.heap = h' → Ext h h' → Arv Z h' b k (newarray.typeOf aty) z [] (defaultValue (newarray.typeOf aty)) → Wout p e below P T' (mkF m n Ls (.ref b :: rest))) : Wout p e below P T (mkF m pc Ls (.int z :: rest)) := by
  subst hp
  obtain ⟨T', h', cA, X', e', E, A, st⟩ := newP X hx hZ w eT (g := mkF m pc Ls (.int z :: rest)) rfl hd rfl hz hcap hbb hc hl
  exact Wout.of st (hr T' h' _ cA rfl X' e' E (Arv.new A hz))
theorem o_anewarray (X : Stand p l e R s m args below meth c T locs cells slots) (hx : p.tables.exec = Jvm.exec) (hZ : Z.Warmed39 s.vm) {own C : String} {index : Nat} (hown : s.vm.findClass own = some m.cls) (w1 : (Jvm.Cond.classLink own index C).before a0 Z = true) (w2 : (Jvm.Cond.arrayOver (.object C)).before a0 Z = true) (eT : T.heap = h) (n : Nat) (hd : decode c.code pc = .ok (.anewarray index, 3)) (hp : pc + 3 = n) {z : Int32} (hz : ¬ z < 0) (cap : Nat) (hcap : z.toNatClampNeg ≤ cap) (hbb : cap * 8 ≤ 536870912) (hc : cells + 1 ≤ R.cells) (hl : slots + cap ≤ R.slots)
    (hr : ∀ T' h' (b : Addr) (k : ClassId), b = h.size → Stand p l e R s m args below meth c T' locs (cells + 1) (slots + cap) → T'.heap = h' → Ext h h' → Arv Z h' b k (.object C) z [] .null → Ovr Z k C → Wout p e below P T' (mkF m n Ls (.ref b :: rest))) : Wout p e below P T (mkF m pc Ls (.int z :: rest)) := by
  subst hp
  obtain ⟨T', h', cA, X', e', E, A, O, st⟩ := newR X hx hZ hown w1 w2 eT (g := mkF m pc Ls (.int z :: rest)) rfl hd rfl hz hcap hbb hc hl
  exact Wout.of st (hr T' h' _ cA rfl X' e' E (Arv.new A hz) O)
theorem o_arraylength (X : Stand p l e R s m args below meth c T locs cells slots) (hx : p.tables.exec = Jvm.exec) (hZ : Z.Warmed39 s.vm) (eT : T.heap = h) {a : Addr} {k : ClassId} {ty : FieldType} {z : Int32} {vs : List Value} {dv : Value} (V : Arv Z h a k ty z vs dv) (n : Nat) (hd : decode c.code pc = .ok (.arraylength, 1)) (hp : pc + 1 = n) (hr : Wout p e below P T (mkF m n Ls (.int z :: rest))) : Wout p e below P T (mkF m pc Ls (.ref a :: rest)) := by
  subst hp
  obtain ⟨cl, A, -, S, M, -, -⟩ := V
  rw [← len_of S M] at hr
  exact Wout.of (fun _ ht => X.arraylength hx (cell := cl) (by rw [eT]; exact A.1) (State.isArrayOf_alike hZ.alike A.2.1) (g := mkF m pc Ls (.ref a :: rest)) rfl rfl hd _ ht) hr

theorem o_iaload (X : Stand p l e R s m args below meth c T locs cells slots) (hx : p.tables.exec = Jvm.exec) (hZ : Z.Warmed39 s.vm) (eT : T.heap = h) {a : Addr} {k : ClassId} {z : Int32} {vs : List Value} {dv : Value} (V : Arv Z h a k .int z vs dv) {j : Int32} (hj : ¬ j < 0 ∧ j < z) {v : Value} (hv : vs.getD j.toNatClampNeg dv = v) (n : Nat) (hd : decode c.code pc = .ok (.iaload, 1)) (hp : pc + 1 = n) (hr : Wout p e below P T (mkF m n Ls (v :: rest))) : Wout p e below P T (mkF m pc Ls (.int j :: .ref a :: rest)) := by
  subst hp
  obtain ⟨cl, A, -, S, M, H, -⟩ := V
  exact Wout.of (fun _ ht => X.iaload hx (j := j) (v := v) (by rw [eT]; exact A.1) (State.isArrayOf_alike hZ.alike A.2.1) A.2.2 (inb_of S hj) (H.at (inb_of S hj) hv) (g := mkF m pc Ls (.int j :: .ref a :: rest)) rfl rfl hd _ ht) hr
theorem o_laload (X : Stand p l e R s m args below meth c T locs cells slots) (hx : p.tables.exec = Jvm.exec) (hZ : Z.Warmed39 s.vm) (eT : T.heap = h) {a : Addr} {k : ClassId} {z : Int32} {vs : List Value} {dv : Value} (V : Arv Z h a k .long z vs dv) {j : Int32} (hj : ¬ j < 0 ∧ j < z) {v : Value} (hv : vs.getD j.toNatClampNeg dv = v) (n : Nat) (hd : decode c.code pc = .ok (.laload, 1)) (hp : pc + 1 = n) (hr : Wout p e below P T (mkF m n Ls (v :: rest))) : Wout p e below P T (mkF m pc Ls (.int j :: .ref a :: rest)) := by
  subst hp
  obtain ⟨cl, A, -, S, M, H, -⟩ := V
  exact Wout.of (fun _ ht => X.laload hx (j := j) (v := v) (by rw [eT]; exact A.1) (State.isArrayOf_alike hZ.alike A.2.1) A.2.2 (inb_of S hj) (H.at (inb_of S hj) hv) (g := mkF m pc Ls (.int j :: .ref a :: rest)) rfl rfl hd _ ht) hr
theorem o_caload (X : Stand p l e R s m args below meth c T locs cells slots) (hx : p.tables.exec = Jvm.exec) (hZ : Z.Warmed39 s.vm) (eT : T.heap = h) {a : Addr} {k : ClassId} {z : Int32} {vs : List Value} {dv : Value} (V : Arv Z h a k .char z vs dv) {j : Int32} (hj : ¬ j < 0 ∧ j < z) {v : Value} (hv : vs.getD j.toNatClampNeg dv = v) (n : Nat) (hd : decode c.code pc = .ok (.caload, 1)) (hp : pc + 1 = n) (hr : Wout p e below P T (mkF m n Ls (v :: rest))) : Wout p e below P T (mkF m pc Ls (.int j :: .ref a :: rest)) := by
  subst hp
  obtain ⟨cl, A, -, S, M, H, -⟩ := V
  exact Wout.of (fun _ ht => X.caload hx (j := j) (v := v) (by rw [eT]; exact A.1) (State.isArrayOf_alike hZ.alike A.2.1) A.2.2 (inb_of S hj) (H.at (inb_of S hj) hv) (g := mkF m pc Ls (.int j :: .ref a :: rest)) rfl rfl hd _ ht) hr
theorem o_saload (X : Stand p l e R s m args below meth c T locs cells slots) (hx : p.tables.exec = Jvm.exec) (hZ : Z.Warmed39 s.vm) (eT : T.heap = h) {a : Addr} {k : ClassId} {z : Int32} {vs : List Value} {dv : Value} (V : Arv Z h a k .short z vs dv) {j : Int32} (hj : ¬ j < 0 ∧ j < z) {v : Value} (hv : vs.getD j.toNatClampNeg dv = v) (n : Nat) (hd : decode c.code pc = .ok (.saload, 1)) (hp : pc + 1 = n) (hr : Wout p e below P T (mkF m n Ls (v :: rest))) : Wout p e below P T (mkF m pc Ls (.int j :: .ref a :: rest)) := by
  subst hp
  obtain ⟨cl, A, -, S, M, H, -⟩ := V
  exact Wout.of (fun _ ht => X.saload hx (j := j) (v := v) (by rw [eT]; exact A.1) (State.isArrayOf_alike hZ.alike A.2.1) A.2.2 (inb_of S hj) (H.at (inb_of S hj) hv) (g := mkF m pc Ls (.int j :: .ref a :: rest)) rfl rfl hd _ ht) hr
theorem o_baload (X : Stand p l e R s m args below meth c T locs cells slots) (hx : p.tables.exec = Jvm.exec) (hZ : Z.Warmed39 s.vm) (eT : T.heap = h) {a : Addr} {k : ClassId} {z : Int32} {vs : List Value} {dv : Value} (V : Arv Z h a k .byte z vs dv) {j : Int32} (hj : ¬ j < 0 ∧ j < z) {v : Value} (hv : vs.getD j.toNatClampNeg dv = v) (n : Nat) (hd : decode c.code pc = .ok (.baload, 1)) (hp : pc + 1 = n) (hr : Wout p e below P T (mkF m n Ls (v :: rest))) : Wout p e below P T (mkF m pc Ls (.int j :: .ref a :: rest)) := by
  subst hp
  obtain ⟨cl, A, -, S, M, H, -⟩ := V
  exact Wout.of (fun _ ht => X.baloadBytes hx (j := j) (v := v) (by rw [eT]; exact A.1) (State.isArrayOf_alike hZ.alike A.2.1) A.2.2 (inb_of S hj) (H.at (inb_of S hj) hv) (g := mkF m pc Ls (.int j :: .ref a :: rest)) rfl rfl hd _ ht) hr
theorem o_baloadZ (X : Stand p l e R s m args below meth c T locs cells slots) (hx : p.tables.exec = Jvm.exec) (hZ : Z.Warmed39 s.vm) (eT : T.heap = h) {a : Addr} {k : ClassId} {z : Int32} {vs : List Value} {dv : Value} (V : Arv Z h a k .boolean z vs dv) {j : Int32} (hj : ¬ j < 0 ∧ j < z) {v : Value} (hv : vs.getD j.toNatClampNeg dv = v) (n : Nat) (hd : decode c.code pc = .ok (.baload, 1)) (hp : pc + 1 = n) (hr : Wout p e below P T (mkF m n Ls (v :: rest))) : Wout p e below P T (mkF m pc Ls (.int j :: .ref a :: rest)) := by
  subst hp
  obtain ⟨cl, A, -, S, M, H, -⟩ := V
  exact Wout.of (fun _ ht => X.baloadBooleans hx (j := j) (v := v) (by rw [eT]; exact A.1) (State.isArrayOf_alike hZ.alike A.2.1) A.2.2 (inb_of S hj) (H.at (inb_of S hj) hv) (g := mkF m pc Ls (.int j :: .ref a :: rest)) rfl rfl hd _ ht) hr
theorem o_aaload (X : Stand p l e R s m args below meth c T locs cells slots) (hx : p.tables.exec = Jvm.exec) (hZ : Z.Warmed39 s.vm) (eT : T.heap = h) {a : Addr} {k : ClassId} {ty : FieldType} {z : Int32} {vs : List Value} {dv : Value} (V : Arv Z h a k ty z vs dv) (hty : ty.isReference = true) {j : Int32} (hj : ¬ j < 0 ∧ j < z) {v : Value} (hv : vs.getD j.toNatClampNeg dv = v) (n : Nat) (hd : decode c.code pc = .ok (.aaload, 1)) (hp : pc + 1 = n) (hr : Wout p e below P T (mkF m n Ls (v :: rest))) : Wout p e below P T (mkF m pc Ls (.int j :: .ref a :: rest)) := by
  subst hp
  obtain ⟨cl, A, -, S, M, H, -⟩ := V
  exact Wout.of (fun _ ht => X.aaload hx (j := j) (v := v) (by rw [eT]; exact A.1) (State.isArrayOf_alike hZ.alike A.2.1) hty A.2.2 (inb_of S hj) (H.at (inb_of S hj) hv) (g := mkF m pc Ls (.int j :: .ref a :: rest)) rfl rfl hd _ ht) hr
theorem o_iastore (X : Stand p l e R s m args below meth c T locs cells slots) (hx : p.tables.exec = Jvm.exec) (hZ : Z.Warmed39 s.vm) (eT : T.heap = h) {a : Addr} {k : ClassId} {z : Int32} {vs : List Value} {dv : Value} (V : Arv Z h a k .int z vs dv) {j : Int32} {x : Int32} (hj : ¬ j < 0 ∧ j < z) (i : Nat) (hi : j.toNatClampNeg = i) (hil : i < vs.length) {vs' : List Value} (hvs : vs.set i (.int x) = vs') {n0 : Nat} (N : Fr n0 locs) (g : n0 ≤ a) (n : Nat) (hd : decode c.code pc = .ok (.iastore, 1)) (hp : pc + 1 = n)
    (hr : ∀ T' h' locs', Stand p l e R s m args below meth c T' locs' cells slots → T'.heap = h' → Wr h h' a i (.int x) → Arv Z h' a k .int z vs' dv → Fr n0 locs' → Wout p e below P T' (mkF m n Ls rest)) : Wout p e below P T (mkF m pc Ls (.int x :: .int j :: .ref a :: rest)) := by
  subst hp hvs
  obtain ⟨cl, A, q1, S, M, H, G⟩ := V
  obtain ⟨T', h', X', e', W, st⟩ := stI X hx hZ eT A (j := j) (x := x) (inb_of S hj) (g := mkF m pc Ls (.int x :: .int j :: .ref a :: rest)) rfl rfl hd
  exact Wout.of st (hr T' h' _ X' e' (hi ▸ W) (Arv.set A q1 S M H G (rfl) W i hi hil) (Fr.snoc X' N g))
theorem o_lastore (X : Stand p l e R s m args below meth c T locs cells slots) (hx : p.tables.exec = Jvm.exec) (hZ : Z.Warmed39 s.vm) (eT : T.heap = h) {a : Addr} {k : ClassId} {z : Int32} {vs : List Value} {dv : Value} (V : Arv Z h a k .long z vs dv) {j : Int32} {x : Int64} (hj : ¬ j < 0 ∧ j < z) (i : Nat) (hi : j.toNatClampNeg = i) (hil : i < vs.length) {vs' : List Value} (hvs : vs.set i (.long x) = vs') {n0 : Nat} (N : Fr n0 locs) (g : n0 ≤ a) (n : Nat) (hd : decode c.code pc = .ok (.lastore, 1)) (hp : pc + 1 = n)
    (hr : ∀ T' h' locs', Stand p l e R s m args below meth c T' locs' cells slots → T'.heap = h' → Wr h h' a i (.long x) → Arv Z h' a k .long z vs' dv → Fr n0 locs' → Wout p e below P T' (mkF m n Ls rest)) : Wout p e below P T (mkF m pc Ls (.long x :: .int j :: .ref a :: rest)) := by
  subst hp hvs
  obtain ⟨cl, A, q1, S, M, H, G⟩ := V
  obtain ⟨T', h', X', e', W, st⟩ := stJ X hx hZ eT A (j := j) (x := x) (inb_of S hj) (g := mkF m pc Ls (.long x :: .int j :: .ref a :: rest)) rfl rfl hd
  exact Wout.of st (hr T' h' _ X' e' (hi ▸ W) (Arv.set A q1 S M H G (rfl) W i hi hil) (Fr.snoc X' N g))
theorem o_castore (X : Stand p l e R s m args below meth c T locs cells slots) (hx : p.tables.exec = Jvm.exec) (hZ : Z.Warmed39 s.vm) (eT : T.heap = h) {a : Addr} {k : ClassId} {z : Int32} {vs : List Value} {dv : Value} (V : Arv Z h a k .char z vs dv) {j : Int32} {x : Int32} (hj : ¬ j < 0 ∧ j < z) (i : Nat) (hi : j.toNatClampNeg = i) (hil : i < vs.length) {vs' : List Value} (hvs : vs.set i (.int (nar .char x)) = vs') {n0 : Nat} (N : Fr n0 locs) (g : n0 ≤ a) (n : Nat) (hd : decode c.code pc = .ok (.castore, 1)) (hp : pc + 1 = n)
    (hr : ∀ T' h' locs', Stand p l e R s m args below meth c T' locs' cells slots → T'.heap = h' → Wr h h' a i (.int (nar .char x)) → Arv Z h' a k .char z vs' dv → Fr n0 locs' → Wout p e below P T' (mkF m n Ls rest)) : Wout p e below P T (mkF m pc Ls (.int x :: .int j :: .ref a :: rest)) := by
  subst hp hvs
  obtain ⟨cl, A, q1, S, M, H, G⟩ := V
  obtain ⟨T', h', X', e', W, st⟩ := stC X hx hZ eT A (j := j) (x := x) (inb_of S hj) (g := mkF m pc Ls (.int x :: .int j :: .ref a :: rest)) rfl rfl hd
  exact Wout.of st (hr T' h' _ X' e' (hi ▸ W) (Arv.set A q1 S M H G (fits_nar_char x) W i hi hil) (Fr.snoc X' N g))
theorem o_sastore (X : Stand p l e R s m args below meth c T locs cells slots) (hx : p.tables.exec = Jvm.exec) (hZ : Z.Warmed39 s.vm) (eT : T.heap = h) {a : Addr} {k : ClassId} {z : Int32} {vs : List Value} {dv : Value} (V : Arv Z h a k .short z vs dv) {j : Int32} {x : Int32} (hj : ¬ j < 0 ∧ j < z) (i : Nat) (hi : j.toNatClampNeg = i) (hil : i < vs.length) {vs' : List Value} (hvs : vs.set i (.int (nar .short x)) = vs') {n0 : Nat} (N : Fr n0 locs) (g : n0 ≤ a) (n : Nat) (hd : decode c.code pc = .ok (.sastore, 1)) (hp : pc + 1 = n)
    (hr : ∀ T' h' locs', Stand p l e R s m args below meth c T' locs' cells slots → T'.heap = h' → Wr h h' a i (.int (nar .short x)) → Arv Z h' a k .short z vs' dv → Fr n0 locs' → Wout p e below P T' (mkF m n Ls rest)) : Wout p e below P T (mkF m pc Ls (.int x :: .int j :: .ref a :: rest)) := by
  subst hp hvs
  obtain ⟨cl, A, q1, S, M, H, G⟩ := V
  obtain ⟨T', h', X', e', W, st⟩ := stS X hx hZ eT A (j := j) (x := x) (inb_of S hj) (g := mkF m pc Ls (.int x :: .int j :: .ref a :: rest)) rfl rfl hd
  exact Wout.of st (hr T' h' _ X' e' (hi ▸ W) (Arv.set A q1 S M H G (fits_nar_short x) W i hi hil) (Fr.snoc X' N g))
theorem o_bastore (X : Stand p l e R s m args below meth c T locs cells slots) (hx : p.tables.exec = Jvm.exec) (hZ : Z.Warmed39 s.vm) (eT : T.heap = h) {a : Addr} {k : ClassId} {z : Int32} {vs : List Value} {dv : Value} (V : Arv Z h a k .byte z vs dv) {j : Int32} {x : Int32} (hj : ¬ j < 0 ∧ j < z) (i : Nat) (hi : j.toNatClampNeg = i) (hil : i < vs.length) {vs' : List Value} (hvs : vs.set i (.int (nar .byte x)) = vs') {n0 : Nat} (N : Fr n0 locs) (g : n0 ≤ a) (n : Nat) (hd : decode c.code pc = .ok (.bastore, 1)) (hp : pc + 1 = n)
    (hr : ∀ T' h' locs', Stand p l e R s m args below meth c T' locs' cells slots → T'.heap = h' → Wr h h' a i (.int (nar .byte x)) → Arv Z h' a k .byte z vs' dv → Fr n0 locs' → Wout p e below P T' (mkF m n Ls rest)) : Wout p e below P T (mkF m pc Ls (.int x :: .int j :: .ref a :: rest)) := by
  subst hp hvs
  obtain ⟨cl, A, q1, S, M, H, G⟩ := V
  obtain ⟨T', h', X', e', W, st⟩ := stB X hx hZ eT A (j := j) (x := x) (inb_of S hj) (g := mkF m pc Ls (.int x :: .int j :: .ref a :: rest)) rfl rfl hd
  exact Wout.of st (hr T' h' _ X' e' (hi ▸ W) (Arv.set A q1 S M H G (fits_nar_byte x) W i hi hil) (Fr.snoc X' N g))
theorem o_bastoreZ (X : Stand p l e R s m args below meth c T locs cells slots) (hx : p.tables.exec = Jvm.exec) (hZ : Z.Warmed39 s.vm) (eT : T.heap = h) {a : Addr} {k : ClassId} {z : Int32} {vs : List Value} {dv : Value} (V : Arv Z h a k .boolean z vs dv) {j : Int32} {x : Int32} (hj : ¬ j < 0 ∧ j < z) (i : Nat) (hi : j.toNatClampNeg = i) (hil : i < vs.length) {vs' : List Value} (hvs : vs.set i (.int (nar .boolean x)) = vs') {n0 : Nat} (N : Fr n0 locs) (g : n0 ≤ a) (n : Nat) (hd : decode c.code pc = .ok (.bastore, 1)) (hp : pc + 1 = n)
    (hr : ∀ T' h' locs', Stand p l e R s m args below meth c T' locs' cells slots → T'.heap = h' → Wr h h' a i (.int (nar .boolean x)) → Arv Z h' a k .boolean z vs' dv → Fr n0 locs' → Wout p e below P T' (mkF m n Ls rest)) : Wout p e below P T (mkF m pc Ls (.int x :: .int j :: .ref a :: rest)) := by
  subst hp hvs
  obtain ⟨cl, A, q1, S, M, H, G⟩ := V
  obtain ⟨T', h', X', e', W, st⟩ := stZ X hx hZ eT A (j := j) (x := x) (inb_of S hj) (g := mkF m pc Ls (.int x :: .int j :: .ref a :: rest)) rfl rfl hd
  exact Wout.of st (hr T' h' _ X' e' (hi ▸ W) (Arv.set A q1 S M H G (fits_nar_bool x) W i hi hil) (Fr.snoc X' N g))
theorem o_aastore (X : Stand p l e R s m args below meth c T locs cells slots) (hx : p.tables.exec = Jvm.exec) (hZ : Z.Warmed39 s.vm) (eT : T.heap = h) {a : Addr} {k : ClassId} {ty : FieldType} {z : Int32} {vs : List Value} {dv : Value} (V : Arv Z h a k ty z vs dv) (hty : ty.isReference = true) {j : Int32} {v : Value} (hj : ¬ j < 0 ∧ j < z) (i : Nat) (hi : j.toNatClampNeg = i) (hil : i < vs.length) {vs' : List Value} (hvs : vs.set i v = vs') (hfit : fits ty v = true) (Fs : Sto Z h a v) {n0 : Nat} (N : Fr n0 locs) (g : n0 ≤ a) (n : Nat) (hd : decode c.code pc = .ok (.aastore, 1)) (hp : pc + 1 = n)
    (hr : ∀ T' h' locs', Stand p l e R s m args below meth c T' locs' cells slots → T'.heap = h' → Wr h h' a i v → Arv Z h' a k ty z vs' dv → Fr n0 locs' → Wout p e below P T' (mkF m n Ls rest)) : Wout p e below P T (mkF m pc Ls (v :: .int j :: .ref a :: rest)) := by
  subst hp hvs
  obtain ⟨cl, A, q1, S, M, H, G⟩ := V
  obtain ⟨T', h', X', e', W, st⟩ := stR X hx hZ eT A (j := j) (v := v) (inb_of S hj) hty Fs (g := mkF m pc Ls (v :: .int j :: .ref a :: rest)) rfl rfl hd
  exact Wout.of st (hr T' h' _ X' e' (hi ▸ W) (Arv.set A q1 S M H G hfit W i hi hil) (Fr.snoc X' N g))
theorem Sto.arv {a y : Addr} {k : ClassId} {ty : FieldType} {z : Int32} {vs : List Value} {dv : Value} {C : String} (V : Arv Z h a k ty z vs dv) (O : Ovr Z k C) (I : Ins Z h y C true) : Sto Z h a (.ref y) := by
  obtain ⟨cl, A, q1, -⟩ := V
  exact Sto.ofV A q1 O I
theorem o_checkcast (X : Stand p l e R s m args below meth c T locs cells slots) (hx : p.tables.exec = Jvm.exec) (hZ : Z.Warmed39 s.vm) {own K : String} {index : Nat} (hown : s.vm.findClass own = some m.cls) (w : (Jvm.Cond.classLink own index K).before a0 Z = true) (eT : T.heap = h) {a : Addr} (F : Ins Z h a K true) (n : Nat) (hd : decode c.code pc = .ok (.checkcast index, 3)) (hp : pc + 3 = n)
    (hr : ∀ T', Stand p l e R s m args below meth c T' locs cells slots → T'.heap = h → Wout p e below P T' (mkF m n Ls (.ref a :: rest))) : Wout p e below P T (mkF m pc Ls (.ref a :: rest)) := by
  subst hp
  obtain ⟨T', X', e', st⟩ := castY X hx hZ hown w eT F (g := mkF m pc Ls (.ref a :: rest)) rfl rfl hd
  exact Wout.of st (hr T' X' e')
theorem o_instanceof (X : Stand p l e R s m args below meth c T locs cells slots) (hx : p.tables.exec = Jvm.exec) (hZ : Z.Warmed39 s.vm) {own K : String} {index : Nat} (hown : s.vm.findClass own = some m.cls) (w : (Jvm.Cond.classLink own index K).before a0 Z = true) (eT : T.heap = h) {a : Addr} (F : Ins Z h a K true) (n : Nat) (hd : decode c.code pc = .ok (.instanceof index, 3)) (hp : pc + 3 = n)
    (hr : ∀ T', Stand p l e R s m args below meth c T' locs cells slots → T'.heap = h → Wout p e below P T' (mkF m n Ls (.int 1 :: rest))) : Wout p e below P T (mkF m pc Ls (.ref a :: rest)) := by
  subst hp
  obtain ⟨T', X', e', st⟩ := instY X hx hZ hown w eT F (g := mkF m pc Ls (.ref a :: rest)) rfl rfl hd
  exact Wout.of st (hr T' X' e')
/-! calls -/
theorem o_initO (X : Stand p l e R s m args below meth c T locs cells slots) (hx : p.tables.exec = Jvm.exec) (hZ : Z.Warmed39 s.vm) {own : String} {idx : Nat} (hown : s.vm.findClass own = some m.cls) (w1 : (Jvm.Cond.methodLink own idx Lib.objectInit).before a0 Z = true) (w2 : (Jvm.Cond.instanceMethod Lib.objectInit).before a0 Z = true) (w3 : (Jvm.Cond.code Lib.objectInit ⟨#[0xb1]⟩ 1 none).before a0 Z = true) (eT : T.heap = h) (hsz : Ls.size = c.maxLocals) {a : Addr} (hf : 1 ≤ R.frames) (W : Nat) (hW : (rest.map fun v => v.category).sum ≤ W) (hl : W + 12 ≤ R.locals) (n : Nat) (hd : decode c.code pc = .ok (.invokespecial idx, 3)) (hp : pc + 3 = n)
    (hr : ∀ T', Stand p l e R s m args below meth c T' locs cells slots → T'.heap = h → Wout p e below P T' (mkF m n Ls rest)) : Wout p e below P T (mkF m pc Ls (.ref a :: rest)) := by
  subst hp
  obtain ⟨T', X', e', st⟩ := initO X hx hZ hown w1 w2 w3 eT (g := mkF m pc Ls (.ref a :: rest)) rfl hsz rfl hd hf (W := W) (by simpa using hW) hl
  exact Wout.of st (hr T' X' e')
theorem o_callS (X : Stand p l e R s m args below meth c T locs cells slots) (hx : p.tables.exec = Jvm.exec) (hZ : Z.Warmed39 s.vm) {own : String} {index : Nat} {y : MethodName} {bytes : ByteArray} {maxL : Nat} {ret : Option FieldType} (hown : s.vm.findClass own = some m.cls) (w1 : (Jvm.Cond.methodLink own index y).before a0 Z = true) (w2 : (Jvm.Cond.static y).before a0 Z = true) (w3 : (Jvm.Cond.initialized y.cls).before a0 Z = true) (w4 : (Jvm.Cond.code y bytes maxL ret).before a0 Z = true)
    (hy : y.cls ≠ "java/lang/invoke/MethodHandle" ∧ y.cls ≠ "java/lang/invoke/VarHandle") {rm : Room} {as' : Array Value} {Q : Option Value → Heap → List Loc → Prop} (hM : Met l Z y bytes maxL ret [] rm as' h Q) (eT : T.heap = h) (hf : rm.frames + 1 ≤ R.frames) (W : Nat) (hl : W + (maxL + 11) + rm.locals ≤ R.locals) (hsz : Ls.size = c.maxLocals) (argsL : List Value) {st : List Value} (hlen : ∀ sig, parseMethodDescriptor y.desc = some sig → argsL.length = sig.parameters.length) (hst : st = argsL.reverse ++ rest) (has : argsL.toArray = as')
    (hW : (rest.map fun v => v.category).sum ≤ W) (hc : cells + rm.cells ≤ R.cells) (hs : slots + rm.slots ≤ R.slots) (n : Nat) (hd : decode c.code pc = .ok (.invokestatic index, 3)) (hp : pc + 3 = n)
    (hr : ∀ v T' h' L, Stand p l e R s m args below meth c T' (locs ++ L) (cells + rm.cells) (slots + rm.slots) → T'.heap = h' → Q v h' L → Wout p e below P T' (mkF m n Ls (v.toList ++ rest))) : Wout p e below P T (mkF m pc Ls st) := by
  subst hp has hst
  obtain ⟨v, vm₁, ⟨T', L', k', n'⟩, -, X', ⟨Lc, hQ, l1, y1, z1⟩, st⟩ := Jvm.LawKit.callS X hx hown (mv hZ w1) (mv hZ w2) (mv hZ w3) (mv hZ w4) hy (backOf (W := W) hM hZ w4 w3 hf hl) (g := mkF m pc Ls (argsL.reverse ++ rest)) rfl hsz (argsL := argsL) (rest := rest) hlen rfl (by simpa using hW) hd (fun _ _ => ⟨rfl, eT, hc, hs⟩)
  dsimp only [Pt.U, Pt.locs, Pt.cells, Pt.slots] at X' l1 y1 z1 hQ st
  subst l1 y1 z1
  exact Wout.of st (hr v T' T'.heap Lc X' rfl hQ)
theorem o_callI (X : Stand p l e R s m args below meth c T locs cells slots) (hx : p.tables.exec = Jvm.exec) (hZ : Z.Warmed39 s.vm) {own : String} {index : Nat} {y : MethodName} {bytes : ByteArray} {maxL : Nat} (hy1 : y.name = "<init>") (hown : s.vm.findClass own = some m.cls) (w1 : (Jvm.Cond.methodLink own index y).before a0 Z = true) (w2 : (Jvm.Cond.instanceMethod y).before a0 Z = true) (w3 : (Jvm.Cond.initialized y.cls).before a0 Z = true) (w4 : (Jvm.Cond.code y bytes maxL none).before a0 Z = true)
    (hy : y.cls ≠ "java/lang/invoke/MethodHandle" ∧ y.cls ≠ "java/lang/invoke/VarHandle") {rm : Room} {as' : Array Value} {Q : Option Value → Heap → List Loc → Prop} (hM : Met l Z y bytes maxL none [] rm as' h Q) (eT : T.heap = h) (hf : rm.frames + 1 ≤ R.frames) (W : Nat) (hl : W + (maxL + 11) + rm.locals ≤ R.locals) (hsz : Ls.size = c.maxLocals) {a : Addr} (argsL : List Value) {st : List Value} (hlen : ∀ sig, parseMethodDescriptor y.desc = some sig → argsL.length = sig.parameters.length) (hst : st = argsL.reverse ++ .ref a :: rest) (has : (.ref a :: argsL).toArray = as')
    (hW : (rest.map fun v => v.category).sum ≤ W) (hc : cells + rm.cells ≤ R.cells) (hs : slots + rm.slots ≤ R.slots) (n : Nat) (hd : decode c.code pc = .ok (.invokespecial index, 3)) (hp : pc + 3 = n)
    (hr : ∀ v T' h' L, Stand p l e R s m args below meth c T' (locs ++ L) (cells + rm.cells) (slots + rm.slots) → T'.heap = h' → Q v h' L → Wout p e below P T' (mkF m n Ls (v.toList ++ rest))) : Wout p e below P T (mkF m pc Ls st) := by
  subst hp has hst
  obtain ⟨v, vm₁, ⟨T', L', k', n'⟩, -, X', ⟨Lc, hQ, l1, y1, z1⟩, st⟩ := X.specialBack hx hy1 hown (mv hZ w1) (mv hZ w2) (mv hZ w4) hy (backOf (W := W) hM hZ w4 w3 hf hl) (g := mkF m pc Ls (argsL.reverse ++ .ref a :: rest)) rfl hsz (Steps.refl _) (a := a) (argsL := argsL) (rest := rest) hlen rfl (by simpa using hW) hd (fun _ _ => ⟨rfl, eT, hc, hs⟩)
  dsimp only [Pt.U, Pt.locs, Pt.cells, Pt.slots] at X' l1 y1 z1 hQ st
  subst l1 y1 z1
  exact Wout.tr st (hr v T' T'.heap Lc X' rfl hQ)
theorem o_callIB (X : Stand p l e R s m args below meth c T locs cells slots) (hx : p.tables.exec = Jvm.exec) (hZ : Z.Warmed39 s.vm) {own : String} {index : Nat} {y : MethodName} {bytes : ByteArray} {maxL : Nat} (hy1 : y.name = "<init>") (hown : s.vm.findClass own = some m.cls) (w1 : (Jvm.Cond.methodLink own index y).before a0 Z = true) (w2 : (Jvm.Cond.instanceMethod y).before a0 Z = true) (w4 : (Jvm.Cond.code y bytes maxL none).before a0 Z = true)
    (hy : y.cls ≠ "java/lang/invoke/MethodHandle" ∧ y.cls ≠ "java/lang/invoke/VarHandle") {kc ks W : Nat} {as' : Array Value} {Q : Option Value → Heap → List Loc → Prop} (hK : Back l R p e below s args y 3 W (fun A a => a = as' ∧ A.U.heap = h ∧ A.cells + kc ≤ R.cells ∧ A.slots + ks ≤ R.slots) (fun A _ v B => ∃ L, Q v B.U.heap L ∧ B.locs = A.locs ++ L ∧ B.cells = A.cells + kc ∧ B.slots = A.slots + ks)) (eT : T.heap = h) (hsz : Ls.size = c.maxLocals) {a : Addr} (argsL : List Value) {st : List Value} (hlen : ∀ sig, parseMethodDescriptor y.desc = some sig → argsL.length = sig.parameters.length) (hst : st = argsL.reverse ++ .ref a :: rest) (has : (.ref a :: argsL).toArray = as')
    (hW : (rest.map fun v => v.category).sum ≤ W) (hc : cells + kc ≤ R.cells) (hs : slots + ks ≤ R.slots) (n : Nat) (hd : decode c.code pc = .ok (.invokespecial index, 3)) (hp : pc + 3 = n)
    (hr : ∀ v T' h' L, Stand p l e R s m args below meth c T' (locs ++ L) (cells + kc) (slots + ks) → T'.heap = h' → Q v h' L → Wout p e below P T' (mkF m n Ls (v.toList ++ rest))) : Wout p e below P T (mkF m pc Ls st) := by
  subst hp has hst
  obtain ⟨v, vm₁, ⟨T', L', k', n'⟩, -, X', ⟨Lc, hQ, l1, y1, z1⟩, st⟩ := X.specialBack hx hy1 hown (mv hZ w1) (mv hZ w2) (mv hZ w4) hy hK (g := mkF m pc Ls (argsL.reverse ++ .ref a :: rest)) rfl hsz (Steps.refl _) (a := a) (argsL := argsL) (rest := rest) hlen rfl (by simpa using hW) hd (fun _ _ => ⟨rfl, eT, hc, hs⟩)
  dsimp only [Pt.U, Pt.locs, Pt.cells, Pt.slots] at X' l1 y1 z1 hQ st
  subst l1 y1 z1
  exact Wout.tr st (hr v T' T'.heap Lc X' rfl hQ)
theorem o_callV (X : Stand p l e R s m args below meth c T locs cells slots) (hx : p.tables.exec = Jvm.exec) (hZ : Z.Warmed39 s.vm) {own C : String} {index : Nat} {y : MethodName} {bytes : ByteArray} {maxL : Nat} {ret : Option FieldType} (hown : s.vm.findClass own = some m.cls) (w1 : (Jvm.Cond.methodLink own index y).before a0 Z = true) (w5 : (Jvm.Cond.declares y).before a0 Z = true) (w6 : (Jvm.Cond.selects C y y).before a0 Z = true) (w2 : (Jvm.Cond.instanceMethod y).before a0 Z = true) (w3 : (Jvm.Cond.initialized y.cls).before a0 Z = true) (w4 : (Jvm.Cond.code y bytes maxL ret).before a0 Z = true)
    (hy : y.cls ≠ "java/lang/invoke/MethodHandle" ∧ y.cls ≠ "java/lang/invoke/VarHandle") {rm : Room} {as' : Array Value} {Q : Option Value → Heap → List Loc → Prop} (hM : Met l Z y bytes maxL ret [] rm as' h Q) (eT : T.heap = h) (hf : rm.frames + 1 ≤ R.frames) (W : Nat) (hl : W + (maxL + 11) + rm.locals ≤ R.locals) (hsz : Ls.size = c.maxLocals) {a : Addr} (E : Exa Z h a C) (argsL : List Value) {st : List Value} (hlen : ∀ sig, parseMethodDescriptor y.desc = some sig → argsL.length = sig.parameters.length) (hst : st = argsL.reverse ++ .ref a :: rest) (has : (.ref a :: argsL).toArray = as')
    (hW : (rest.map fun v => v.category).sum ≤ W) (hc : cells + rm.cells ≤ R.cells) (hs : slots + rm.slots ≤ R.slots) (n : Nat) (hd : decode c.code pc = .ok (.invokevirtual index, 3)) (hp : pc + 3 = n)
    (hr : ∀ v T' h' L, Stand p l e R s m args below meth c T' (locs ++ L) (cells + rm.cells) (slots + rm.slots) → T'.heap = h' → Q v h' L → Wout p e below P T' (mkF m n Ls (v.toList ++ rest))) : Wout p e below P T (mkF m pc Ls st) := by
  subst hp has hst
  obtain ⟨cq, kq, qa, qb, qc⟩ := isOf hZ eT E
  obtain ⟨v, vm₁, ⟨T', L', k', n'⟩, -, X', ⟨Lc, hQ, l1, y1, z1⟩, st⟩ := X.virtualBack hx hown (mv hZ w1) (mv hZ w5) (notFace_of_selects (args := #[]) (mv hZ w6)) (mv hZ w6) (mv hZ w2) hy (backOf (W := W) hM hZ w4 w3 hf hl) qa qc (g := mkF m pc Ls (argsL.reverse ++ .ref a :: rest)) rfl hsz (Steps.refl _) (argsL := argsL) (rest := rest) hlen rfl (by simpa using hW) hd (fun _ _ => ⟨rfl, eT, hc, hs⟩)
  dsimp only [Pt.U, Pt.locs, Pt.cells, Pt.slots] at X' l1 y1 z1 hQ st
  subst l1 y1 z1
  exact Wout.tr st (hr v T' T'.heap Lc X' rfl hQ)
theorem o_callU (X : Stand p l e R s m args below meth c T locs cells slots) (hx : p.tables.exec = Jvm.exec) (hZ : Z.Warmed39 s.vm) {own C owner : String} {index : Nat} {y z : MethodName} {bytes : ByteArray} {maxL : Nat} {ret : Option FieldType} (hown : s.vm.findClass own = some m.cls) (w1 : (Jvm.Cond.methodLink own index y).before a0 Z = true) (w7 : (Jvm.Cond.sameMethod y.cls owner y.name y.desc).before a0 Z = true) (w5 : (Jvm.Cond.declares ⟨owner, y.name, y.desc⟩).before a0 Z = true) (w6 : (Jvm.Cond.selects C y z).before a0 Z = true) (w2 : (Jvm.Cond.instanceMethod z).before a0 Z = true) (w3 : (Jvm.Cond.initialized z.cls).before a0 Z = true) (w4 : (Jvm.Cond.code z bytes maxL ret).before a0 Z = true)
    (hy : owner ≠ "java/lang/invoke/MethodHandle" ∧ owner ≠ "java/lang/invoke/VarHandle") {rm : Room} {as' : Array Value} {Q : Option Value → Heap → List Loc → Prop} (hM : Met l Z z bytes maxL ret [] rm as' h Q) (eT : T.heap = h) (hf : rm.frames + 1 ≤ R.frames) (W : Nat) (hl : W + (maxL + 11) + rm.locals ≤ R.locals) (hsz : Ls.size = c.maxLocals) {a : Addr} (E : Exa Z h a C) (argsL : List Value) {st : List Value} (hlen : ∀ sig, parseMethodDescriptor y.desc = some sig → argsL.length = sig.parameters.length) (hst : st = argsL.reverse ++ .ref a :: rest) (has : (.ref a :: argsL).toArray = as')
    (hW : (rest.map fun v => v.category).sum ≤ W) (hc : cells + rm.cells ≤ R.cells) (hs : slots + rm.slots ≤ R.slots) (n : Nat) (hd : decode c.code pc = .ok (.invokevirtual index, 3)) (hp : pc + 3 = n)
    (hr : ∀ v T' h' L, Stand p l e R s m args below meth c T' (locs ++ L) (cells + rm.cells) (slots + rm.slots) → T'.heap = h' → Q v h' L → Wout p e below P T' (mkF m n Ls (v.toList ++ rest))) : Wout p e below P T (mkF m pc Ls st) := by
  subst hp has hst
  obtain ⟨cq, kq, qa, qb, qc⟩ := isOf hZ eT E
  obtain ⟨v, vm₁, ⟨T', L', k', n'⟩, -, X', ⟨Lc, hQ, l1, y1, z1⟩, st⟩ := X.virtualBackUp hx hown (mv hZ w1) (mv hZ w7) (mv hZ w5) hy (mv hZ w6) (mv hZ w2) (backOf (W := W) hM hZ w4 w3 hf hl) qa qc (g := mkF m pc Ls (argsL.reverse ++ .ref a :: rest)) rfl hsz (Steps.refl _) (argsL := argsL) (rest := rest) hlen rfl (by simpa using hW) hd (fun _ _ => ⟨rfl, eT, hc, hs⟩)
  dsimp only [Pt.U, Pt.locs, Pt.cells, Pt.slots] at X' l1 y1 z1 hQ st
  subst l1 y1 z1
  exact Wout.tr st (hr v T' T'.heap Lc X' rfl hQ)
/-! returns -/
theorem o_retW (X : Stand p l e R s m args below meth c T locs cells slots) (hx : p.tables.exec = Jvm.exec) {Q : Option Value → Heap → List Loc → Prop} {C S : Nat} {w w' : Value} {t : FieldType} {i : Instr} (hlk : meth.locks = false) (hret : meth.sig.returnType = some t) (hn : Jvm.narrow t w = w)
    (hi : (i = .ireturn ∧ (t = .int ∨ t = .boolean ∨ t = .byte ∨ t = .char ∨ t = .short) ∧ ∃ z, w = .int z) ∨ (i = .lreturn ∧ t = .long ∧ ∃ z, w = .long z) ∨ (i = .dreturn ∧ t = .double ∧ ∃ z, w = .double z) ∨ (i = .freturn ∧ t = .float ∧ ∃ z, w = .float z) ∨ (i = .areturn ∧ t.isReference = true ∧ w.isRef = true))
    (hd : decode c.code pc = .ok (i, 1)) (hc : cells ≤ C) (hs : slots ≤ S) (hq : Q (some w) T.heap locs) : Wout p e below (Pst s Q C S) T (mkF m pc Ls (w :: rest)) := by
  obtain ⟨fs, hr, hrun, hended, hW, hsame⟩ := X.leave (v := some w) (fun q => by rw [hret] at q; cases q) hlk
  exact ⟨_, _, retOut X hx hret hn hi hd hr, hrun, hended, _, _, rfl, hq, ⟨_, rfl⟩, hW, hsame.mono hc hs⟩
theorem o_retI (X : Stand p l e R s m args below meth c T locs cells slots) (hx : p.tables.exec = Jvm.exec) {Q : Option Value → Heap → List Loc → Prop} {C S : Nat} {x : Int32} {t : FieldType} (hlk : meth.locks = false) (hret : meth.sig.returnType = some t) (hn : Jvm.narrow t (.int x) = .int x) (ht : t = .int ∨ t = .boolean ∨ t = .byte ∨ t = .char ∨ t = .short)
    (hd : decode c.code pc = .ok (.ireturn, 1)) (hc : cells ≤ C) (hs : slots ≤ S) (hq : Q (some (.int x)) T.heap locs) : Wout p e below (Pst s Q C S) T (mkF m pc Ls (.int x :: rest)) :=
  o_retW X hx (w' := .null) hlk hret hn (Or.inl ⟨rfl, ht, x, rfl⟩) hd hc hs hq
theorem o_retL (X : Stand p l e R s m args below meth c T locs cells slots) (hx : p.tables.exec = Jvm.exec) {Q : Option Value → Heap → List Loc → Prop} {C S : Nat} {x : Int64} (hlk : meth.locks = false) (hret : meth.sig.returnType = some .long)
    (hd : decode c.code pc = .ok (.lreturn, 1)) (hc : cells ≤ C) (hs : slots ≤ S) (hq : Q (some (.long x)) T.heap locs) : Wout p e below (Pst s Q C S) T (mkF m pc Ls (.long x :: rest)) :=
  o_retW X hx (w' := .null) hlk hret rfl (Or.inr (Or.inl ⟨rfl, rfl, x, rfl⟩)) hd hc hs hq
theorem o_retA (X : Stand p l e R s m args below meth c T locs cells slots) (hx : p.tables.exec = Jvm.exec) {Q : Option Value → Heap → List Loc → Prop} {C S : Nat} {w : Value} {t : FieldType} (hlk : meth.locks = false) (hret : meth.sig.returnType = some t) (ht : t.isReference = true) (hw : w.isRef = true) (hn : Jvm.narrow t w = w)
    (hd : decode c.code pc = .ok (.areturn, 1)) (hc : cells ≤ C) (hs : slots ≤ S) (hq : Q (some w) T.heap locs) : Wout p e below (Pst s Q C S) T (mkF m pc Ls (w :: rest)) :=
  o_retW X hx (w' := .null) hlk hret hn (Or.inr (Or.inr (Or.inr (Or.inr ⟨rfl, ht, hw⟩)))) hd hc hs hq
theorem o_retD (X : Stand p l e R s m args below meth c T locs cells slots) (hx : p.tables.exec = Jvm.exec) {Q : Option Value → Heap → List Loc → Prop} {C S : Nat} {x : UInt64} (hlk : meth.locks = false) (hret : meth.sig.returnType = some .double)
    (hd : decode c.code pc = .ok (.dreturn, 1)) (hc : cells ≤ C) (hs : slots ≤ S) (hq : Q (some (.double x)) T.heap locs) : Wout p e below (Pst s Q C S) T (mkF m pc Ls (.double x :: rest)) :=
  o_retW X hx (w' := .null) hlk hret rfl (Or.inr (Or.inr (Or.inl ⟨rfl, rfl, x, rfl⟩))) hd hc hs hq
theorem o_retV (X : Stand p l e R s m args below meth c T locs cells slots) (hx : p.tables.exec = Jvm.exec) {Q : Option Value → Heap → List Loc → Prop} {C S : Nat} (hlk : meth.locks = false) (hret : meth.sig.returnType = none)
    (hd : decode c.code pc = .ok (.return_, 1)) (hc : cells ≤ C) (hs : slots ≤ S) (hq : Q none T.heap locs) : Wout p e below (Pst s Q C S) T (mkF m pc Ls []) := by
  obtain ⟨fs, hr, hrun, hended, hW, hsame⟩ := X.leave (v := none) (fun _ => rfl) hlk
  exact ⟨_, _, X.returnOut hx hret hd hr, hrun, hended, _, _, rfl, hq, ⟨_, rfl⟩, hW, hsame.mono hc hs⟩
/-! from the sheet's words -/
theorem fld_eq {t : Term} {a : Addr} {C n d : String} {k : Int32} (ev : t.eval args Z none [] Z = some (.ref a)) (q : (Jvm.Cond.eq (.field t C n d) (.int k)).value args Z none Z [] = some true) : Fld Z Z.heap a C n d (.int k) := by
  exact Fld.start ((fld_at ev).symm.trans (eqv_i rfl q))
theorem sta_bool {C n d : String} (w1 : (Jvm.Cond.initializedFor C n d).before args Z = true) (w2 : (Jvm.Cond.isInt (.static C n d)).before args Z = true) (w3 : (Jvm.Cond.not (.eq (.static C n d) (.int 0))).before args Z = true) : ∃ x : Int32, Sta Z Z.heap C n d (.int x) ∧ ¬ x = 0 := by
  obtain ⟨x, ev⟩ := is_v (Cond.before_iff.mp w2)
  refine ⟨x, Sta.start ev (Or.inl w1), fun q => ?_⟩
  have q2 := not_v (Cond.before_iff.mp w3)
  exact gotF (Cond.eq_ints ev rfl) q2 q
/-! numbers -/
theorem mask31 (x : Int32) : 0 ≤ (x &&& 2147483647).toInt := by
  have e := Jvm.Kit.i32_mask x 2147483647 (k := 31) (by decide) (by decide)
  omega
theorem rem_pos {y n : Int32} (hy : 0 ≤ y.toInt) (hn : 0 < n.toInt) : (y % n).toInt = y.toInt % n.toInt := by
  rw [Int32.toInt_mod, Int.tmod_eq_emod_of_nonneg hy]
theorem rem_in {y n : Int32} (hy : 0 ≤ y.toInt) (hn : 0 < n.toInt) : 0 ≤ (y % n).toInt ∧ (y % n).toInt < n.toInt := by
  rw [rem_pos hy hn]
  exact ⟨Int.emod_nonneg _ (by omega), Int.emod_lt_of_pos _ hn⟩
theorem in3 {k : Int32} (h1 : 0 ≤ k.toInt) (h2 : k.toInt < 3) : k = 0 ∨ k = 1 ∨ k = 2 := by
  have : k.toInt = 0 ∨ k.toInt = 1 ∨ k.toInt = 2 := by omega
  rcases this with q | q | q
  · exact Or.inl (Int32.toInt_inj.mp q)
  · exact Or.inr (Or.inl (Int32.toInt_inj.mp q))
  · exact Or.inr (Or.inr (Int32.toInt_inj.mp q))
theorem in4 {k : Int32} (h1 : 0 ≤ k.toInt) (h2 : k.toInt < 4) : k = 0 ∨ k = 1 ∨ k = 2 ∨ k = 3 := by
  have : k.toInt = 0 ∨ k.toInt = 1 ∨ k.toInt = 2 ∨ k.toInt = 3 := by omega
  rcases this with q | q | q | q
  · exact Or.inl (Int32.toInt_inj.mp q)
  · exact Or.inr (Or.inl (Int32.toInt_inj.mp q))
  · exact Or.inr (Or.inr (Or.inl (Int32.toInt_inj.mp q)))
  · exact Or.inr (Or.inr (Or.inr (Int32.toInt_inj.mp q)))
end K
end Jvm.OwnWalk
namespace Jvm.Pilot.@@N@@
open Jvm Jvm.ClassFile Sem Op Lib Jvm.Free Jvm.Stand Jvm.LawKit Jvm.RoadKit Jvm.OwnWalk Bundle Jvm.Pilot.@@N@@.Jvm.D
def own_words : List Jvm.Cond := tables_1 ++ jdkStatics_1
theorem d_jdk_43_method_3_0 : decode jdk_43_method_3_code 0 = .ok (.iload_n 0, 1) := by decide +kernel
theorem d_jdk_43_method_3_1 : decode jdk_43_method_3_code 1 = .ok (.sipush 255, 3) := by decide +kernel
theorem d_jdk_43_method_3_4 : decode jdk_43_method_3_code 4 = .ok (.if_icmp .gt 7, 3) := by decide +kernel
theorem d_jdk_43_method_3_7 : decode jdk_43_method_3_code 7 = .ok (.iconst 1, 1) := by decide +kernel
theorem d_jdk_43_method_3_8 : decode jdk_43_method_3_code 8 = .ok (.goto 4, 3) := by decide +kernel
theorem d_jdk_43_method_3_11 : decode jdk_43_method_3_code 11 = .ok (.iconst 0, 1) := by decide +kernel
theorem d_jdk_43_method_3_12 : decode jdk_43_method_3_code 12 = .ok (.ireturn, 1) := by decide +kernel
theorem pn_0 : plainName "java/lang/StringLatin1" = true := by first | (simp [plainName, overriddenIn]; done) | decide +kernel
def Q_can (Z : State) (ch : Int32) (h0 : Heap) (n0 : Nat) (v : Option Value) (h : Heap) (L : List Loc) : Prop := v = some (.int 1) ∧ Fr n0 L ∧ h = h0
set_option maxRecDepth 65536 in
set_option maxHeartbeats 40000000 in
theorem rm_can (l : Launch) (Z : State) (a0 : Array Value) (hw : ∀ d ∈ own_words, d.before a0 Z = true) (ws : List Jvm.Cond) (ch : Int32) (h0 : Heap) (n0 : Nat) (Z0 : n0 ≤ h0.size) (q : ¬ (255 : Int32) < ch) :
    Met l Z (⟨"java/lang/StringLatin1", "canEncode", "(C)Z"⟩ : MethodName) jdk_43_method_3_code 1 (some .boolean) ws ({ frames := 0, cells := 0, slots := 0, locals := 0 } : Room) #[(.int ch)] h0 (Q_can Z ch h0 n0) := by
  refine Met.start (plainFor_of_name pn_0) ?_
  intro p e s m below meth c T X hx hby hml hown hnm hret hlk hZ eT
  have N := Fr.nil n0
  refine Wout.cast (g' := (mkF m 0 #[.val (.int ch)] [])) (by first | rfl | (simp [entryFrame, mkF, argsToLocals, Value.category]; done)) ?_
  refine o_iloadN X hx 1 (hb hby d_jdk_43_method_3_0) rfl rfl ?_
  refine o_sipush X hx 4 (255 : Int32) (hb hby d_jdk_43_method_3_1) rfl rfl ?_
  refine o_icmpF X hx 7 (hb hby d_jdk_43_method_3_4) rfl q ?_
  refine o_iconst X hx 8 (1 : Int32) (hb hby d_jdk_43_method_3_7) rfl rfl ?_
  refine o_goto X hx 12 (hb hby d_jdk_43_method_3_8) rfl ?_
  exact o_retI X hx hlk hret rfl (by simp) (hb hby d_jdk_43_method_3_12) (by decide) (by decide) (by rw [eT]; exact ⟨rfl, N, rfl⟩)
theorem d_jdk_43_method_46_0 : decode jdk_43_method_46_code 0 = .ok (.iconst 1, 1) := by decide +kernel
theorem d_jdk_43_method_46_1 : decode jdk_43_method_46_code 1 = .ok (.newarray .byte, 2) := by decide +kernel
theorem d_jdk_43_method_46_3 : decode jdk_43_method_46_code 3 = .ok (.dup, 1) := by decide +kernel
theorem d_jdk_43_method_46_4 : decode jdk_43_method_46_code 4 = .ok (.iconst 0, 1) := by decide +kernel
theorem d_jdk_43_method_46_5 : decode jdk_43_method_46_code 5 = .ok (.iload_n 0, 1) := by decide +kernel
theorem d_jdk_43_method_46_6 : decode jdk_43_method_46_code 6 = .ok (.i2b, 1) := by decide +kernel
theorem d_jdk_43_method_46_7 : decode jdk_43_method_46_code 7 = .ok (.bastore, 1) := by decide +kernel
theorem d_jdk_43_method_46_8 : decode jdk_43_method_46_code 8 = .ok (.areturn, 1) := by decide +kernel
def Q_tob (Z : State) (ch : Int32) (h0 : Heap) (n0 : Nat) (v : Option Value) (h : Heap) (L : List Loc) : Prop := ∃ b : Addr, v = some (.ref b) ∧ Fr n0 L ∧ Keep h0 h []
set_option maxRecDepth 65536 in
set_option maxHeartbeats 40000000 in
theorem rm_tob (l : Launch) (Z : State) (a0 : Array Value) (hw : ∀ d ∈ own_words, d.before a0 Z = true) (ws : List Jvm.Cond) (ch : Int32) (h0 : Heap) (n0 : Nat) (Z0 : n0 ≤ h0.size)  :
    Met l Z (⟨"java/lang/StringLatin1", "toBytes", "(C)[B"⟩ : MethodName) jdk_43_method_46_code 1 (some (.array .byte)) ws ({ frames := 0, cells := 1, slots := 1, locals := 0 } : Room) #[(.int ch)] h0 (Q_tob Z ch h0 n0) := by
  refine Met.start (plainFor_of_name pn_0) ?_
  intro p e s m below meth c T X hx hby hml hown hnm hret hlk hZ eT
  have N := Fr.nil n0
  have K := Keep.refl h0 []
  refine Wout.cast (g' := (mkF m 0 #[.val (.int ch)] [])) (by first | rfl | (simp [entryFrame, mkF, argsToLocals, Value.category]; done)) ?_
  refine o_iconst X hx 1 (1 : Int32) (hb hby d_jdk_43_method_46_0) rfl rfl ?_
  refine o_newarray X hx hZ (hw _ (List.mem_of_getElem? (i := 34) rfl)) eT 3 (hb hby d_jdk_43_method_46_1) rfl (by decide) 1 (by decide) (by decide) (by decide) (by decide) (fun T h1 b1 k1 hb1 X eT E A => ?_)
  have g_b1 : n0 ≤ b1 := Nat.le_trans Z0 (Nat.le_of_eq hb1.symm)
  have sz_b1 : h0.size ≤ b1 := Nat.le_trans K.1 (Nat.le_of_eq hb1.symm)
  replace Z0 := Nat.le_trans Z0 E.1
  replace K := K.ext E
  have V_b1 : Arv Z h1 b1 k1 .byte (1 : Int32) [(.int (0 : Int32))] (.int (0 : Int32)) := A.pad (pad_rep [] (.int (0 : Int32)) 1)
  refine o_dup X hx 4 (hb hby d_jdk_43_method_46_3) rfl rfl ?_
  refine o_iconst X hx 5 (0 : Int32) (hb hby d_jdk_43_method_46_4) rfl rfl ?_
  refine o_iloadN X hx 6 (hb hby d_jdk_43_method_46_5) rfl rfl ?_
  refine o_i2b X hx 7 (hb hby d_jdk_43_method_46_6) rfl ?_
  refine o_bastore X hx hZ eT V_b1 ⟨by decide, by decide⟩ 0 rfl (Nat.le_of_ble_eq_true rfl) (vs' := [(.int (nar .byte ((ch).toInt8.toInt32)))]) rfl N g_b1 8 (hb hby d_jdk_43_method_46_7) rfl (fun T h2 locs X eT W V' N => ?_)
  replace Z0 := Nat.le_trans Z0 (Keep.of_wr W).1
  replace K := K.wr W (Or.inr sz_b1)
  replace V_b1 := V'
  exact o_retA X hx hlk hret rfl rfl rfl (hb hby d_jdk_43_method_46_8) (by decide) (by decide) (by rw [eT]; exact ⟨b1, rfl, N, K⟩)
theorem d_jdk_42_method_151_0 : decode jdk_42_method_151_code 0 = .ok (.aload_n 0, 1) := by decide +kernel
theorem d_jdk_42_method_151_1 : decode jdk_42_method_151_code 1 = .ok (.invokespecial 1, 3) := by decide +kernel
theorem d_jdk_42_method_151_4 : decode jdk_42_method_151_code 4 = .ok (.aload_n 0, 1) := by decide +kernel
theorem d_jdk_42_method_151_5 : decode jdk_42_method_151_code 5 = .ok (.aload_n 1, 1) := by decide +kernel
theorem d_jdk_42_method_151_6 : decode jdk_42_method_151_code 6 = .ok (.putfield 9, 3) := by decide +kernel
theorem d_jdk_42_method_151_9 : decode jdk_42_method_151_code 9 = .ok (.aload_n 0, 1) := by decide +kernel
theorem d_jdk_42_method_151_10 : decode jdk_42_method_151_code 10 = .ok (.iload_n 2, 1) := by decide +kernel
theorem d_jdk_42_method_151_11 : decode jdk_42_method_151_code 11 = .ok (.putfield 15, 3) := by decide +kernel
theorem d_jdk_42_method_151_14 : decode jdk_42_method_151_code 14 = .ok (.return_, 1) := by decide +kernel
theorem pn_1 : plainName "java/lang/String" = true := by first | (simp [plainName, overriddenIn]; done) | decide +kernel
def Q_sin (Z : State) (a1 a2 : Addr) (p3 : Int32) (u1 u2 : Value) (h0 : Heap) (n0 : Nat) (v : Option Value) (h : Heap) (L : List Loc) : Prop := v = none ∧ Fr n0 L ∧ Keep h0 h [a1] ∧ Exa Z h a1 "java/lang/String"
set_option maxRecDepth 65536 in
set_option maxHeartbeats 40000000 in
theorem rm_sin (l : Launch) (Z : State) (a0 : Array Value) (hw : ∀ d ∈ own_words, d.before a0 Z = true) (ws : List Jvm.Cond) (a1 a2 : Addr) (p3 : Int32) (u1 u2 : Value) (h0 : Heap) (n0 : Nat) (Z0 : n0 ≤ h0.size) (E_a1 : Exa Z h0 a1 "java/lang/String") (F1 : Fld Z h0 a1 "java/lang/String" "value" "[B" u1) (F2 : Fld Z h0 a1 "java/lang/String" "coder" "B" u2) (g_a1 : n0 ≤ a1) :
    Met l Z (⟨"java/lang/String", "<init>", "([BB)V"⟩ : MethodName) jdk_42_method_151_code 3 none ws ({ frames := 1, cells := 0, slots := 0, locals := 12 } : Room) #[(.ref a1), (.ref a2), (.int p3)] h0 (Q_sin Z a1 a2 p3 u1 u2 h0 n0) := by
  refine Met.start (plainFor_of_name pn_1) ?_
  intro p e s m below meth c T X hx hby hml hown hnm hret hlk hZ eT
  have N := Fr.nil n0
  have K := Keep.refl h0 [a1]
  refine Wout.cast (g' := (mkF m 0 #[.val (.ref a1), .val (.ref a2), .val (.int p3)] [])) (by first | rfl | (simp [entryFrame, mkF, argsToLocals, Value.category]; done)) ?_
  refine o_aloadN X hx 1 (hb hby d_jdk_42_method_151_0) rfl rfl rfl ?_
  refine o_initO X hx hZ hown (hw _ (List.mem_of_getElem? (i := 39) rfl)) (hw _ (List.mem_of_getElem? (i := 9) rfl)) (hw _ (List.mem_of_getElem? (i := 10) rfl)) eT (by rw [hml]; rfl) (by decide) 0 (Nat.le_of_eq rfl) (by decide) 4 (hb hby d_jdk_42_method_151_1) rfl (fun T X eT => ?_)
  refine o_aloadN X hx 5 (hb hby d_jdk_42_method_151_4) rfl rfl rfl ?_
  refine o_aloadN X hx 6 (hb hby d_jdk_42_method_151_5) rfl rfl rfl ?_
  refine o_putF X hx hZ (.array .byte) hown (host := "") (Or.inl (hw _ (List.mem_of_getElem? (i := 40) rfl))) Via.refl eT F1 E_a1 (Or.inr ⟨(hw _ (List.mem_of_getElem? (i := 41) rfl)), rfl, hnm⟩) (hw _ (List.mem_of_getElem? (i := 30) rfl)) (by decide) rfl rfl N g_a1 9 (hb hby d_jdk_42_method_151_6) rfl (fun T h1 locs X eT W N => ?_)
  replace E_a1 := E_a1.wr W
  replace F1 := F1.same W
  replace F2 := F2.other W (Or.inr (slot_ne (Or.inr (hw _ (List.mem_of_getElem? (i := 43) rfl))) (Or.inr (hw _ (List.mem_of_getElem? (i := 41) rfl))) (by decide) (t := .byte) (t' := (.array .byte)) (by decide) (by decide)))
  replace Z0 := Nat.le_trans Z0 (Keep.of_wr W).1
  replace K := K.wr W (Or.inl (List.mem_of_getElem? (i := 0) rfl))
  refine o_aloadN X hx 10 (hb hby d_jdk_42_method_151_9) rfl rfl rfl ?_
  refine o_iloadN X hx 11 (hb hby d_jdk_42_method_151_10) rfl rfl ?_
  refine o_putFN X hx hZ .byte hown (hw _ (List.mem_of_getElem? (i := 42) rfl)) Via.refl eT F2 E_a1 (Or.inr ⟨(hw _ (List.mem_of_getElem? (i := 43) rfl)), rfl, hnm⟩) (hw _ (List.mem_of_getElem? (i := 30) rfl)) (v' := (.int (nar .byte p3))) (by decide) rfl (fits_nar_byte _) N g_a1 14 (hb hby d_jdk_42_method_151_11) rfl (fun T h2 locs X eT W N => ?_)
  replace E_a1 := E_a1.wr W
  replace F1 := F1.other W (Or.inr (slot_ne (Or.inr (hw _ (List.mem_of_getElem? (i := 41) rfl))) (Or.inr (hw _ (List.mem_of_getElem? (i := 43) rfl))) (by decide) (t := (.array .byte)) (t' := .byte) (by decide) (by decide)))
  replace F2 := F2.same W
  replace Z0 := Nat.le_trans Z0 (Keep.of_wr W).1
  replace K := K.wr W (Or.inl (List.mem_of_getElem? (i := 0) rfl))
  exact o_retV X hx hlk hret (hb hby d_jdk_42_method_151_14) (by decide) (by decide) (by rw [eT]; exact ⟨rfl, N, K, E_a1⟩)
theorem d_jdk_42_method_139_0 : decode jdk_42_method_139_code 0 = .ok (.getstatic 38, 3) := by decide +kernel
theorem d_jdk_42_method_139_3 : decode jdk_42_method_139_code 3 = .ok (.ifCond .eq 23, 3) := by decide +kernel
theorem d_jdk_42_method_139_6 : decode jdk_42_method_139_code 6 = .ok (.iload_n 0, 1) := by decide +kernel
theorem d_jdk_42_method_139_7 : decode jdk_42_method_139_code 7 = .ok (.invokestatic 1015, 3) := by decide +kernel
theorem d_jdk_42_method_139_10 : decode jdk_42_method_139_code 10 = .ok (.ifCond .eq 16, 3) := by decide +kernel
theorem d_jdk_42_method_139_13 : decode jdk_42_method_139_code 13 = .ok (.new 10, 3) := by decide +kernel
theorem d_jdk_42_method_139_16 : decode jdk_42_method_139_code 16 = .ok (.dup, 1) := by decide +kernel
theorem d_jdk_42_method_139_17 : decode jdk_42_method_139_code 17 = .ok (.iload_n 0, 1) := by decide +kernel
theorem d_jdk_42_method_139_18 : decode jdk_42_method_139_code 18 = .ok (.invokestatic 1018, 3) := by decide +kernel
theorem d_jdk_42_method_139_21 : decode jdk_42_method_139_code 21 = .ok (.iconst 0, 1) := by decide +kernel
theorem d_jdk_42_method_139_22 : decode jdk_42_method_139_code 22 = .ok (.invokespecial 209, 3) := by decide +kernel
theorem d_jdk_42_method_139_25 : decode jdk_42_method_139_code 25 = .ok (.areturn, 1) := by decide +kernel
theorem d_jdk_42_method_139_26 : decode jdk_42_method_139_code 26 = .ok (.new 10, 3) := by decide +kernel
theorem d_jdk_42_method_139_29 : decode jdk_42_method_139_code 29 = .ok (.dup, 1) := by decide +kernel
theorem d_jdk_42_method_139_30 : decode jdk_42_method_139_code 30 = .ok (.iload_n 0, 1) := by decide +kernel
theorem d_jdk_42_method_139_31 : decode jdk_42_method_139_code 31 = .ok (.invokestatic 1021, 3) := by decide +kernel
theorem d_jdk_42_method_139_34 : decode jdk_42_method_139_code 34 = .ok (.iconst 1, 1) := by decide +kernel
theorem d_jdk_42_method_139_35 : decode jdk_42_method_139_code 35 = .ok (.invokespecial 209, 3) := by decide +kernel
theorem d_jdk_42_method_139_38 : decode jdk_42_method_139_code 38 = .ok (.areturn, 1) := by decide +kernel
theorem pd_0 : parseMethodDescriptor "(C)Z" = some ⟨[.char], some .boolean⟩ := by decide +kernel
theorem pd_1 : parseMethodDescriptor "(C)[B" = some ⟨[.char], some (.array .byte)⟩ := by decide +kernel
theorem pd_2 : parseMethodDescriptor "([BB)V" = some ⟨[(.array .byte), .byte], none⟩ := by decide +kernel
def Q_vof (Z : State) (ch cs : Int32) (h0 : Heap) (n0 : Nat) (v : Option Value) (h : Heap) (L : List Loc) : Prop := ∃ b : Addr, v = some (.ref b) ∧ Fr n0 L ∧ Keep h0 h [] ∧ Exa Z h b "java/lang/String"
set_option maxRecDepth 65536 in
set_option maxHeartbeats 40000000 in
theorem rm_vof (l : Launch) (Z : State) (a0 : Array Value) (hw : ∀ d ∈ own_words, d.before a0 Z = true) (ws : List Jvm.Cond) (ch cs : Int32) (h0 : Heap) (n0 : Nat) (Z0 : n0 ≤ h0.size) (SC : Sta Z h0 "java/lang/String" "COMPACT_STRINGS" "Z" (.int cs)) (hcs : ¬ cs = 0) (q : ¬ (255 : Int32) < ch) :
    Met l Z (⟨"java/lang/String", "valueOf", "(C)Ljava/lang/String;"⟩ : MethodName) jdk_42_method_139_code 1 (some (.object "java/lang/String")) ws ({ frames := 2, cells := 2, slots := 5, locals := 40 } : Room) #[(.int ch)] h0 (Q_vof Z ch cs h0 n0) := by
  refine Met.start (plainFor_of_name pn_1) ?_
  intro p e s m below meth c T X hx hby hml hown hnm hret hlk hZ eT
  have N := Fr.nil n0
  have K := Keep.refl h0 []
  refine Wout.cast (g' := (mkF m 0 #[.val (.int ch)] [])) (by first | rfl | (simp [entryFrame, mkF, argsToLocals, Value.category]; done)) ?_
  refine o_getS X hx hZ hown (host := "") (Or.inl (hw _ (List.mem_of_getElem? (i := 24) rfl))) Via.refl eT SC 3 (hb hby d_jdk_42_method_139_0) rfl (fun T X eT => ?_)
  refine o_ifF X hx 6 (hb hby d_jdk_42_method_139_3) rfl hcs ?_
  refine o_iloadN X hx 7 (hb hby d_jdk_42_method_139_6) rfl rfl ?_
  refine o_callS X hx hZ hown (hw _ (List.mem_of_getElem? (i := 25) rfl)) (hw _ (List.mem_of_getElem? (i := 26) rfl)) (hw _ (List.mem_of_getElem? (i := 27) rfl)) (hw _ (List.mem_of_getElem? (i := 28) rfl)) (by decide) (rm_can l Z a0 hw [] ch _ n0 Z0 q) eT (by decide) 0 (by decide) (by rw [hml]; rfl) [(.int ch)] (rest := []) (lenOf pd_0 rfl) rfl rfl (Nat.le_of_eq rfl) (by decide) (by decide) 10 (hb hby d_jdk_42_method_139_7) rfl (fun v T h1 Lc X eT q => ?_)
  obtain ⟨rfl, N', e'⟩ := q
  replace N := Fr.app N N'
  replace eT := eT.trans e'
  show Wout p e below _ T (mkF m 10 #[.val (.int ch)] [(.int (1 : Int32))])
  refine o_ifF X hx 13 (hb hby d_jdk_42_method_139_10) rfl (by decide : ¬ (1 : Int32) = (0 : Int32)) ?_
  refine o_new X hx hZ hown (hw _ (List.mem_of_getElem? (i := 29) rfl)) (hw _ (List.mem_of_getElem? (i := 30) rfl)) (hw _ (List.mem_of_getElem? (i := 22) rfl)) eT 16 (hb hby d_jdk_42_method_139_13) rfl (by decide) (by decide) (fun T h2 b2 hb2 X eT E A D => ?_)
  have g_b2 : n0 ≤ b2 := Nat.le_trans Z0 (Nat.le_of_eq hb2.symm)
  have sz_b2 : h0.size ≤ b2 := Nat.le_trans K.1 (Nat.le_of_eq hb2.symm)
  replace Z0 := Nat.le_trans Z0 E.1
  replace K := K.ext E
  have E_b2 := A
  have F_value_b2 : Fld Z h2 b2 "java/lang/String" "value" "[B" .null := D (Or.inr (hw _ (List.mem_of_getElem? (i := 41) rfl))) (ty := (.array .byte)) (by decide)
  have F_coder_b2 : Fld Z h2 b2 "java/lang/String" "coder" "B" (.int (0 : Int32)) := D (Or.inr (hw _ (List.mem_of_getElem? (i := 43) rfl))) (ty := .byte) (by decide)
  refine o_dup X hx 17 (hb hby d_jdk_42_method_139_16) rfl rfl ?_
  refine o_iloadN X hx 18 (hb hby d_jdk_42_method_139_17) rfl rfl ?_
  refine o_callS X hx hZ hown (hw _ (List.mem_of_getElem? (i := 31) rfl)) (hw _ (List.mem_of_getElem? (i := 32) rfl)) (hw _ (List.mem_of_getElem? (i := 27) rfl)) (hw _ (List.mem_of_getElem? (i := 33) rfl)) (by decide) (rm_tob l Z a0 hw [] ch _ n0 Z0) eT (by decide) 2 (by decide) (by rw [hml]; rfl) [(.int ch)] (rest := [(.ref b2), (.ref b2)]) (lenOf pd_1 rfl) rfl rfl (Nat.le_of_eq rfl) (by decide) (by decide) 21 (hb hby d_jdk_42_method_139_18) rfl (fun v T h3 Lc X eT q => ?_)
  obtain ⟨bb, rfl, N', K1⟩ := q
  replace N := Fr.app N N'
  replace E_b2 := E_b2.keep K1
  replace F_value_b2 := F_value_b2.keep K1 nin0
  replace F_coder_b2 := F_coder_b2.keep K1 nin0
  replace Z0 := Nat.le_trans Z0 K1.1
  replace K := K.trans K1 all0
  show Wout p e below _ T (mkF m 21 #[.val (.int ch)] [(.ref bb), (.ref b2), (.ref b2)])
  refine o_iconst X hx 22 (0 : Int32) (hb hby d_jdk_42_method_139_21) rfl rfl ?_
  refine o_callI X hx hZ rfl hown (hw _ (List.mem_of_getElem? (i := 35) rfl)) (hw _ (List.mem_of_getElem? (i := 36) rfl)) (hw _ (List.mem_of_getElem? (i := 22) rfl)) (hw _ (List.mem_of_getElem? (i := 38) rfl)) (by decide) (rm_sin l Z a0 hw [] b2 bb 0 _ _ _ n0 Z0 E_b2 F_value_b2 F_coder_b2 g_b2) eT (by decide) 1 (by decide) (by rw [hml]; rfl) [(.ref bb), (.int (0 : Int32))] (rest := [(.ref b2)]) (lenOf pd_2 rfl) rfl rfl (Nat.le_of_eq rfl) (by decide) (by decide) 25 (hb hby d_jdk_42_method_139_22) rfl (fun v T h4 Lc X eT q => ?_)
  obtain ⟨rfl, N', K1, E'⟩ := q
  replace N := Fr.app N N'
  replace Z0 := Nat.le_trans Z0 K1.1
  replace K := K.trans K1 (allS (P := fun x => x ∈ [] ∨ h0.size ≤ x) (Or.inr sz_b2) all0)
  show Wout p e below _ T (mkF m 25 #[.val (.int ch)] [(.ref b2)])
  exact o_retA X hx hlk hret rfl rfl rfl (hb hby d_jdk_42_method_139_25) (by decide) (by decide) (by rw [eT]; exact ⟨b2, rfl, N, K, E'⟩)
theorem d_jdk_42_method_66_0 : decode jdk_42_method_66_code 0 = .ok (.aload_n 0, 1) := by decide +kernel
theorem d_jdk_42_method_66_1 : decode jdk_42_method_66_code 1 = .ok (.aload_n 1, 1) := by decide +kernel
theorem d_jdk_42_method_66_2 : decode jdk_42_method_66_code 2 = .ok (.if_acmp .ne 5, 3) := by decide +kernel
theorem d_jdk_42_method_66_5 : decode jdk_42_method_66_code 5 = .ok (.iconst 1, 1) := by decide +kernel
theorem d_jdk_42_method_66_6 : decode jdk_42_method_66_code 6 = .ok (.ireturn, 1) := by decide +kernel
theorem d_jdk_42_method_66_7 : decode jdk_42_method_66_code 7 = .ok (.aload_n 1, 1) := by decide +kernel
theorem d_jdk_42_method_66_8 : decode jdk_42_method_66_code 8 = .ok (.instanceof 10, 3) := by decide +kernel
theorem d_jdk_42_method_66_11 : decode jdk_42_method_66_code 11 = .ok (.ifCond .eq 43, 3) := by decide +kernel
theorem d_jdk_42_method_66_14 : decode jdk_42_method_66_code 14 = .ok (.aload_n 1, 1) := by decide +kernel
theorem d_jdk_42_method_66_15 : decode jdk_42_method_66_code 15 = .ok (.checkcast 10, 3) := by decide +kernel
theorem d_jdk_42_method_66_18 : decode jdk_42_method_66_code 18 = .ok (.astore_n 2, 1) := by decide +kernel
theorem d_jdk_42_method_66_19 : decode jdk_42_method_66_code 19 = .ok (.getstatic 38, 3) := by decide +kernel
theorem d_jdk_42_method_66_22 : decode jdk_42_method_66_code 22 = .ok (.ifCond .eq 14, 3) := by decide +kernel
theorem d_jdk_42_method_66_25 : decode jdk_42_method_66_code 25 = .ok (.aload_n 0, 1) := by decide +kernel
theorem d_jdk_42_method_66_26 : decode jdk_42_method_66_code 26 = .ok (.getfield 15, 3) := by decide +kernel
theorem d_jdk_42_method_66_29 : decode jdk_42_method_66_code 29 = .ok (.aload_n 2, 1) := by decide +kernel
theorem d_jdk_42_method_66_30 : decode jdk_42_method_66_code 30 = .ok (.getfield 15, 3) := by decide +kernel
theorem d_jdk_42_method_66_33 : decode jdk_42_method_66_code 33 = .ok (.if_icmp .ne 21, 3) := by decide +kernel
theorem d_jdk_42_method_66_36 : decode jdk_42_method_66_code 36 = .ok (.aload_n 0, 1) := by decide +kernel
theorem d_jdk_42_method_66_37 : decode jdk_42_method_66_code 37 = .ok (.getfield 9, 3) := by decide +kernel
theorem d_jdk_42_method_66_40 : decode jdk_42_method_66_code 40 = .ok (.aload_n 2, 1) := by decide +kernel
theorem d_jdk_42_method_66_41 : decode jdk_42_method_66_code 41 = .ok (.getfield 9, 3) := by decide +kernel
theorem d_jdk_42_method_66_44 : decode jdk_42_method_66_code 44 = .ok (.invokestatic 541, 3) := by decide +kernel
theorem d_jdk_42_method_66_47 : decode jdk_42_method_66_code 47 = .ok (.ifCond .eq 7, 3) := by decide +kernel
theorem d_jdk_42_method_66_50 : decode jdk_42_method_66_code 50 = .ok (.iconst 1, 1) := by decide +kernel
theorem d_jdk_42_method_66_51 : decode jdk_42_method_66_code 51 = .ok (.goto 4, 3) := by decide +kernel
theorem d_jdk_42_method_66_54 : decode jdk_42_method_66_code 54 = .ok (.iconst 0, 1) := by decide +kernel
theorem d_jdk_42_method_66_55 : decode jdk_42_method_66_code 55 = .ok (.ireturn, 1) := by decide +kernel
def Q_seq (Z : State) (a1 : Addr) (h0 : Heap) (n0 : Nat) (v : Option Value) (h : Heap) (L : List Loc) : Prop := v = some (.int 1) ∧ Fr n0 L ∧ h = h0
set_option maxRecDepth 65536 in
set_option maxHeartbeats 40000000 in
theorem rm_seq (l : Launch) (Z : State) (a0 : Array Value) (hw : ∀ d ∈ own_words, d.before a0 Z = true) (ws : List Jvm.Cond) (a1 : Addr) (h0 : Heap) (n0 : Nat) (Z0 : n0 ≤ h0.size)  :
    Met l Z (⟨"java/lang/String", "equals", "(Ljava/lang/Object;)Z"⟩ : MethodName) jdk_42_method_66_code 3 (some .boolean) ws ({ frames := 0, cells := 0, slots := 0, locals := 0 } : Room) #[(.ref a1), (.ref a1)] h0 (Q_seq Z a1 h0 n0) := by
  refine Met.start (plainFor_of_name pn_1) ?_
  intro p e s m below meth c T X hx hby hml hown hnm hret hlk hZ eT
  have N := Fr.nil n0
  refine Wout.cast (g' := (mkF m 0 #[.val (.ref a1), .val (.ref a1), .unset] [])) (by first | rfl | (simp [entryFrame, mkF, argsToLocals, Value.category]; done)) ?_
  refine o_aloadN X hx 1 (hb hby d_jdk_42_method_66_0) rfl rfl rfl ?_
  refine o_aloadN X hx 2 (hb hby d_jdk_42_method_66_1) rfl rfl rfl ?_
  refine o_acmpF X hx 5 (hb hby d_jdk_42_method_66_2) rfl rfl rfl (XT.aa_ne_f rfl) ?_
  refine o_iconst X hx 6 (1 : Int32) (hb hby d_jdk_42_method_66_5) rfl rfl ?_
  exact o_retI X hx hlk hret rfl (by simp) (hb hby d_jdk_42_method_66_6) (by decide) (by decide) (by rw [eT]; exact ⟨rfl, N, rfl⟩)
theorem d_prog_16_method_1_0 : decode prog_16_method_1_code 0 = .ok (.aload_n 0, 1) := by decide +kernel
theorem d_prog_16_method_1_1 : decode prog_16_method_1_code 1 = .ok (.invokespecial 1, 3) := by decide +kernel
theorem d_prog_16_method_1_4 : decode prog_16_method_1_code 4 = .ok (.aload_n 0, 1) := by decide +kernel
theorem d_prog_16_method_1_5 : decode prog_16_method_1_code 5 = .ok (.aload_n 1, 1) := by decide +kernel
theorem d_prog_16_method_1_6 : decode prog_16_method_1_code 6 = .ok (.putfield 7, 3) := by decide +kernel
theorem d_prog_16_method_1_9 : decode prog_16_method_1_code 9 = .ok (.return_, 1) := by decide +kernel
theorem pn_2 : plainName "com/example/varasto/varasto/util/OptionReader" = true := by first | (simp [plainName, overriddenIn]; done) | decide +kernel
def Q_oin (Z : State) (a1 a2 : Addr) (u1 : Value) (h0 : Heap) (n0 : Nat) (v : Option Value) (h : Heap) (L : List Loc) : Prop := v = none ∧ Fr n0 L ∧ Keep h0 h [a1] ∧ Exa Z h a1 "com/example/varasto/varasto/util/OptionReader" ∧ Fld Z h a1 "com/example/varasto/varasto/util/OptionReader" "_args" "[Ljava/lang/String;" (.ref a2) ∧ Fld Z h a1 "com/example/varasto/varasto/util/OptionReader" "_next" "I" (.int 0) ∧ Fld Z h a1 "com/example/varasto/varasto/util/OptionReader" "_option" "Ljava/lang/String;" .null
set_option maxRecDepth 65536 in
set_option maxHeartbeats 40000000 in
theorem rm_oin (l : Launch) (Z : State) (a0 : Array Value) (hw : ∀ d ∈ own_words, d.before a0 Z = true) (ws : List Jvm.Cond) (a1 a2 : Addr) (u1 : Value) (h0 : Heap) (n0 : Nat) (Z0 : n0 ≤ h0.size) (E_a1 : Exa Z h0 a1 "com/example/varasto/varasto/util/OptionReader") (F1 : Fld Z h0 a1 "com/example/varasto/varasto/util/OptionReader" "_args" "[Ljava/lang/String;" u1) (F2 : Fld Z h0 a1 "com/example/varasto/varasto/util/OptionReader" "_next" "I" (.int 0)) (F3 : Fld Z h0 a1 "com/example/varasto/varasto/util/OptionReader" "_option" "Ljava/lang/String;" .null) (g_a1 : n0 ≤ a1) :
    Met l Z (⟨"com/example/varasto/varasto/util/OptionReader", "<init>", "([Ljava/lang/String;)V"⟩ : MethodName) prog_16_method_1_code 2 none ws ({ frames := 1, cells := 0, slots := 0, locals := 12 } : Room) #[(.ref a1), (.ref a2)] h0 (Q_oin Z a1 a2 u1 h0 n0) := by
  refine Met.start (plainFor_of_name pn_2) ?_
  intro p e s m below meth c T X hx hby hml hown hnm hret hlk hZ eT
  have N := Fr.nil n0
  have K := Keep.refl h0 [a1]
  refine Wout.cast (g' := (mkF m 0 #[.val (.ref a1), .val (.ref a2)] [])) (by first | rfl | (simp [entryFrame, mkF, argsToLocals, Value.category]; done)) ?_
  refine o_aloadN X hx 1 (hb hby d_prog_16_method_1_0) rfl rfl rfl ?_
  refine o_initO X hx hZ hown (hw _ (List.mem_of_getElem? (i := 8) rfl)) (hw _ (List.mem_of_getElem? (i := 9) rfl)) (hw _ (List.mem_of_getElem? (i := 10) rfl)) eT (by rw [hml]; rfl) (by decide) 0 (Nat.le_of_eq rfl) (by decide) 4 (hb hby d_prog_16_method_1_1) rfl (fun T X eT => ?_)
  refine o_aloadN X hx 5 (hb hby d_prog_16_method_1_4) rfl rfl rfl ?_
  refine o_aloadN X hx 6 (hb hby d_prog_16_method_1_5) rfl rfl rfl ?_
  refine o_putF X hx hZ (.array (.object "java/lang/String")) hown (host := "") (Or.inl (hw _ (List.mem_of_getElem? (i := 11) rfl))) Via.refl eT F1 E_a1 (Or.inr ⟨(hw _ (List.mem_of_getElem? (i := 12) rfl)), rfl, hnm⟩) (hw _ (List.mem_of_getElem? (i := 3) rfl)) (by decide) rfl rfl N g_a1 9 (hb hby d_prog_16_method_1_6) rfl (fun T h1 locs X eT W N => ?_)
  replace E_a1 := E_a1.wr W
  replace F1 := F1.same W
  replace F2 := F2.other W (Or.inr (slot_ne (Or.inl (hw _ (List.mem_of_getElem? (i := 19) rfl))) (Or.inr (hw _ (List.mem_of_getElem? (i := 12) rfl))) (by decide) (t := .int) (t' := (.array (.object "java/lang/String"))) (by decide) (by decide)))
  replace F3 := F3.other W (Or.inr (slot_ne (Or.inl (hw _ (List.mem_of_getElem? (i := 65) rfl))) (Or.inr (hw _ (List.mem_of_getElem? (i := 12) rfl))) (by decide) (t := (.object "java/lang/String")) (t' := (.array (.object "java/lang/String"))) (by decide) (by decide)))
  replace Z0 := Nat.le_trans Z0 (Keep.of_wr W).1
  replace K := K.wr W (Or.inl (List.mem_of_getElem? (i := 0) rfl))
  exact o_retV X hx hlk hret (hb hby d_prog_16_method_1_9) (by decide) (by decide) (by rw [eT]; exact ⟨rfl, N, K, E_a1, F1, F2, F3⟩)
theorem d_prog_16_method_2_0 : decode prog_16_method_2_code 0 = .ok (.aload_n 0, 1) := by decide +kernel
theorem d_prog_16_method_2_1 : decode prog_16_method_2_code 1 = .ok (.getfield 13, 3) := by decide +kernel
theorem d_prog_16_method_2_4 : decode prog_16_method_2_code 4 = .ok (.aload_n 0, 1) := by decide +kernel
theorem d_prog_16_method_2_5 : decode prog_16_method_2_code 5 = .ok (.getfield 7, 3) := by decide +kernel
theorem d_prog_16_method_2_8 : decode prog_16_method_2_code 8 = .ok (.arraylength, 1) := by decide +kernel
theorem d_prog_16_method_2_9 : decode prog_16_method_2_code 9 = .ok (.if_icmp .ge 7, 3) := by decide +kernel
theorem d_prog_16_method_2_12 : decode prog_16_method_2_code 12 = .ok (.iconst 1, 1) := by decide +kernel
theorem d_prog_16_method_2_13 : decode prog_16_method_2_code 13 = .ok (.goto 4, 3) := by decide +kernel
theorem d_prog_16_method_2_16 : decode prog_16_method_2_code 16 = .ok (.iconst 0, 1) := by decide +kernel
theorem d_prog_16_method_2_17 : decode prog_16_method_2_code 17 = .ok (.ireturn, 1) := by decide +kernel
def Q_has1 (Z : State) (a1 aa : Addr) (ka : ClassId) (i z : Int32) (vs : List Value) (h0 : Heap) (n0 : Nat) (v : Option Value) (h : Heap) (L : List Loc) : Prop := v = some (.int 1) ∧ Fr n0 L ∧ h = h0
set_option maxRecDepth 65536 in
set_option maxHeartbeats 40000000 in
theorem rm_has1 (l : Launch) (Z : State) (a0 : Array Value) (hw : ∀ d ∈ own_words, d.before a0 Z = true) (ws : List Jvm.Cond) (a1 aa : Addr) (ka : ClassId) (i z : Int32) (vs : List Value) (h0 : Heap) (n0 : Nat) (Z0 : n0 ≤ h0.size) (F1 : Fld Z h0 a1 "com/example/varasto/varasto/util/OptionReader" "_args" "[Ljava/lang/String;" (.ref aa)) (F2 : Fld Z h0 a1 "com/example/varasto/varasto/util/OptionReader" "_next" "I" (.int i)) (Va : Arv Z h0 aa ka (.object "java/lang/String") z vs .null) (q : i < z) :
    Met l Z (⟨"com/example/varasto/varasto/util/OptionReader", "hasNext", "()Z"⟩ : MethodName) prog_16_method_2_code 1 (some .boolean) ws ({ frames := 0, cells := 0, slots := 0, locals := 0 } : Room) #[(.ref a1)] h0 (Q_has1 Z a1 aa ka i z vs h0 n0) := by
  refine Met.start (plainFor_of_name pn_2) ?_
  intro p e s m below meth c T X hx hby hml hown hnm hret hlk hZ eT
  have N := Fr.nil n0
  refine Wout.cast (g' := (mkF m 0 #[.val (.ref a1)] [])) (by first | rfl | (simp [entryFrame, mkF, argsToLocals, Value.category]; done)) ?_
  refine o_aloadN X hx 1 (hb hby d_prog_16_method_2_0) rfl rfl rfl ?_
  refine o_getF X hx hZ hown (host := "") (Or.inl (hw _ (List.mem_of_getElem? (i := 18) rfl))) Via.refl eT F2 4 (hb hby d_prog_16_method_2_1) rfl (fun T X eT => ?_)
  refine o_aloadN X hx 5 (hb hby d_prog_16_method_2_4) rfl rfl rfl ?_
  refine o_getF X hx hZ hown (host := "") (Or.inl (hw _ (List.mem_of_getElem? (i := 11) rfl))) Via.refl eT F1 8 (hb hby d_prog_16_method_2_5) rfl (fun T X eT => ?_)
  refine o_arraylength X hx hZ eT Va 9 (hb hby d_prog_16_method_2_8) rfl ?_
  refine o_icmpF X hx 12 (hb hby d_prog_16_method_2_9) rfl q ?_
  refine o_iconst X hx 13 (1 : Int32) (hb hby d_prog_16_method_2_12) rfl rfl ?_
  refine o_goto X hx 17 (hb hby d_prog_16_method_2_13) rfl ?_
  exact o_retI X hx hlk hret rfl (by simp) (hb hby d_prog_16_method_2_17) (by decide) (by decide) (by rw [eT]; exact ⟨rfl, N, rfl⟩)
def Q_has0 (Z : State) (a1 aa : Addr) (ka : ClassId) (i z : Int32) (vs : List Value) (h0 : Heap) (n0 : Nat) (v : Option Value) (h : Heap) (L : List Loc) : Prop := v = some (.int 0) ∧ Fr n0 L ∧ h = h0
set_option maxRecDepth 65536 in
set_option maxHeartbeats 40000000 in
theorem rm_has0 (l : Launch) (Z : State) (a0 : Array Value) (hw : ∀ d ∈ own_words, d.before a0 Z = true) (ws : List Jvm.Cond) (a1 aa : Addr) (ka : ClassId) (i z : Int32) (vs : List Value) (h0 : Heap) (n0 : Nat) (Z0 : n0 ≤ h0.size) (F1 : Fld Z h0 a1 "com/example/varasto/varasto/util/OptionReader" "_args" "[Ljava/lang/String;" (.ref aa)) (F2 : Fld Z h0 a1 "com/example/varasto/varasto/util/OptionReader" "_next" "I" (.int i)) (Va : Arv Z h0 aa ka (.object "java/lang/String") z vs .null) (q : ¬ i < z) :
    Met l Z (⟨"com/example/varasto/varasto/util/OptionReader", "hasNext", "()Z"⟩ : MethodName) prog_16_method_2_code 1 (some .boolean) ws ({ frames := 0, cells := 0, slots := 0, locals := 0 } : Room) #[(.ref a1)] h0 (Q_has0 Z a1 aa ka i z vs h0 n0) := by
  refine Met.start (plainFor_of_name pn_2) ?_
  intro p e s m below meth c T X hx hby hml hown hnm hret hlk hZ eT
  have N := Fr.nil n0
  refine Wout.cast (g' := (mkF m 0 #[.val (.ref a1)] [])) (by first | rfl | (simp [entryFrame, mkF, argsToLocals, Value.category]; done)) ?_
  refine o_aloadN X hx 1 (hb hby d_prog_16_method_2_0) rfl rfl rfl ?_
  refine o_getF X hx hZ hown (host := "") (Or.inl (hw _ (List.mem_of_getElem? (i := 18) rfl))) Via.refl eT F2 4 (hb hby d_prog_16_method_2_1) rfl (fun T X eT => ?_)
  refine o_aloadN X hx 5 (hb hby d_prog_16_method_2_4) rfl rfl rfl ?_
  refine o_getF X hx hZ hown (host := "") (Or.inl (hw _ (List.mem_of_getElem? (i := 11) rfl))) Via.refl eT F1 8 (hb hby d_prog_16_method_2_5) rfl (fun T X eT => ?_)
  refine o_arraylength X hx hZ eT Va 9 (hb hby d_prog_16_method_2_8) rfl ?_
  refine o_icmpT X hx 16 (hb hby d_prog_16_method_2_9) rfl q ?_
  refine o_iconst X hx 17 (0 : Int32) (hb hby d_prog_16_method_2_16) rfl rfl ?_
  exact o_retI X hx hlk hret rfl (by simp) (hb hby d_prog_16_method_2_17) (by decide) (by decide) (by rw [eT]; exact ⟨rfl, N, rfl⟩)
theorem d_prog_16_method_3_0 : decode prog_16_method_3_code 0 = .ok (.aload_n 0, 1) := by decide +kernel
theorem d_prog_16_method_3_1 : decode prog_16_method_3_code 1 = .ok (.aload_n 0, 1) := by decide +kernel
theorem d_prog_16_method_3_2 : decode prog_16_method_3_code 2 = .ok (.getfield 7, 3) := by decide +kernel
theorem d_prog_16_method_3_5 : decode prog_16_method_3_code 5 = .ok (.aload_n 0, 1) := by decide +kernel
theorem d_prog_16_method_3_6 : decode prog_16_method_3_code 6 = .ok (.dup, 1) := by decide +kernel
theorem d_prog_16_method_3_7 : decode prog_16_method_3_code 7 = .ok (.getfield 13, 3) := by decide +kernel
theorem d_prog_16_method_3_10 : decode prog_16_method_3_code 10 = .ok (.dup_x1, 1) := by decide +kernel
theorem d_prog_16_method_3_11 : decode prog_16_method_3_code 11 = .ok (.iconst 1, 1) := by decide +kernel
theorem d_prog_16_method_3_12 : decode prog_16_method_3_code 12 = .ok (.iadd, 1) := by decide +kernel
theorem d_prog_16_method_3_13 : decode prog_16_method_3_code 13 = .ok (.putfield 13, 3) := by decide +kernel
theorem d_prog_16_method_3_16 : decode prog_16_method_3_code 16 = .ok (.aaload, 1) := by decide +kernel
theorem d_prog_16_method_3_17 : decode prog_16_method_3_code 17 = .ok (.putfield 17, 3) := by decide +kernel
theorem d_prog_16_method_3_20 : decode prog_16_method_3_code 20 = .ok (.aload_n 0, 1) := by decide +kernel
theorem d_prog_16_method_3_21 : decode prog_16_method_3_code 21 = .ok (.getfield 17, 3) := by decide +kernel
theorem d_prog_16_method_3_24 : decode prog_16_method_3_code 24 = .ok (.areturn, 1) := by decide +kernel
def Q_nxt (Z : State) (a1 aa st : Addr) (ka : ClassId) (i j z : Int32) (vs : List Value) (u : Value) (h0 : Heap) (n0 : Nat) (v : Option Value) (h : Heap) (L : List Loc) : Prop := ∃ u' : Value, v = some (.ref st) ∧ Fr n0 L ∧ Keep h0 h [a1] ∧ Exa Z h a1 "com/example/varasto/varasto/util/OptionReader" ∧ Fld Z h a1 "com/example/varasto/varasto/util/OptionReader" "_args" "[Ljava/lang/String;" (.ref aa) ∧ Fld Z h a1 "com/example/varasto/varasto/util/OptionReader" "_next" "I" (.int j) ∧ Fld Z h a1 "com/example/varasto/varasto/util/OptionReader" "_option" "Ljava/lang/String;" u'
set_option maxRecDepth 65536 in
set_option maxHeartbeats 40000000 in
theorem rm_nxt (l : Launch) (Z : State) (a0 : Array Value) (hw : ∀ d ∈ own_words, d.before a0 Z = true) (ws : List Jvm.Cond) (a1 aa st : Addr) (ka : ClassId) (i j z : Int32) (vs : List Value) (u : Value) (h0 : Heap) (n0 : Nat) (Z0 : n0 ≤ h0.size) (E_a1 : Exa Z h0 a1 "com/example/varasto/varasto/util/OptionReader") (F1 : Fld Z h0 a1 "com/example/varasto/varasto/util/OptionReader" "_args" "[Ljava/lang/String;" (.ref aa)) (F2 : Fld Z h0 a1 "com/example/varasto/varasto/util/OptionReader" "_next" "I" (.int i)) (Va : Arv Z h0 aa ka (.object "java/lang/String") z vs .null) (F3 : Fld Z h0 a1 "com/example/varasto/varasto/util/OptionReader" "_option" "Ljava/lang/String;" u) (g_a1 : n0 ≤ a1) (ne1 : aa ≠ a1) (hj : ¬ i < 0 ∧ i < z) (hv : vs.getD i.toNatClampNeg .null = .ref st) (hij : i + 1 = j) :
    Met l Z (⟨"com/example/varasto/varasto/util/OptionReader", "next", "()Ljava/lang/String;"⟩ : MethodName) prog_16_method_3_code 1 (some (.object "java/lang/String")) ws ({ frames := 0, cells := 0, slots := 0, locals := 0 } : Room) #[(.ref a1)] h0 (Q_nxt Z a1 aa st ka i j z vs u h0 n0) := by
  refine Met.start (plainFor_of_name pn_2) ?_
  intro p e s m below meth c T X hx hby hml hown hnm hret hlk hZ eT
  have N := Fr.nil n0
  have K := Keep.refl h0 [a1]
  refine Wout.cast (g' := (mkF m 0 #[.val (.ref a1)] [])) (by first | rfl | (simp [entryFrame, mkF, argsToLocals, Value.category]; done)) ?_
  refine o_aloadN X hx 1 (hb hby d_prog_16_method_3_0) rfl rfl rfl ?_
  refine o_aloadN X hx 2 (hb hby d_prog_16_method_3_1) rfl rfl rfl ?_
  refine o_getF X hx hZ hown (host := "") (Or.inl (hw _ (List.mem_of_getElem? (i := 11) rfl))) Via.refl eT F1 5 (hb hby d_prog_16_method_3_2) rfl (fun T X eT => ?_)
  refine o_aloadN X hx 6 (hb hby d_prog_16_method_3_5) rfl rfl rfl ?_
  refine o_dup X hx 7 (hb hby d_prog_16_method_3_6) rfl rfl ?_
  refine o_getF X hx hZ hown (host := "") (Or.inl (hw _ (List.mem_of_getElem? (i := 18) rfl))) Via.refl eT F2 10 (hb hby d_prog_16_method_3_7) rfl (fun T X eT => ?_)
  refine o_dup_x1 X hx 11 (hb hby d_prog_16_method_3_10) rfl rfl rfl ?_
  refine o_iconst X hx 12 (1 : Int32) (hb hby d_prog_16_method_3_11) rfl rfl ?_
  refine o_iadd X hx 13 (hb hby d_prog_16_method_3_12) rfl ?_
  refine o_putF X hx hZ .int hown (host := "") (Or.inl (hw _ (List.mem_of_getElem? (i := 18) rfl))) Via.refl eT F2 E_a1 (Or.inl (hw _ (List.mem_of_getElem? (i := 19) rfl))) (hw _ (List.mem_of_getElem? (i := 3) rfl)) (by decide) rfl rfl N g_a1 16 (hb hby d_prog_16_method_3_13) rfl (fun T h1 locs X eT W N => ?_)
  replace E_a1 := E_a1.wr W
  replace F1 := F1.other W (Or.inr (slot_ne (Or.inr (hw _ (List.mem_of_getElem? (i := 12) rfl))) (Or.inl (hw _ (List.mem_of_getElem? (i := 19) rfl))) (by decide) (t := (.array (.object "java/lang/String"))) (t' := .int) (by decide) (by decide)))
  replace F2 := F2.same W
  replace Va := Va.other W ne1
  replace F3 := F3.other W (Or.inr (slot_ne (Or.inl (hw _ (List.mem_of_getElem? (i := 65) rfl))) (Or.inl (hw _ (List.mem_of_getElem? (i := 19) rfl))) (by decide) (t := (.object "java/lang/String")) (t' := .int) (by decide) (by decide)))
  replace Z0 := Nat.le_trans Z0 (Keep.of_wr W).1
  replace K := K.wr W (Or.inl (List.mem_of_getElem? (i := 0) rfl))
  refine o_aaload X hx hZ eT Va rfl hj (v := (.ref st)) hv 17 (hb hby d_prog_16_method_3_16) rfl ?_
  refine o_putF X hx hZ (.object "java/lang/String") hown (host := "") (Or.inl (hw _ (List.mem_of_getElem? (i := 64) rfl))) Via.refl eT F3 E_a1 (Or.inl (hw _ (List.mem_of_getElem? (i := 65) rfl))) (hw _ (List.mem_of_getElem? (i := 3) rfl)) (by decide) rfl rfl N g_a1 20 (hb hby d_prog_16_method_3_17) rfl (fun T h2 locs X eT W N => ?_)
  replace E_a1 := E_a1.wr W
  replace F1 := F1.other W (Or.inr (slot_ne (Or.inr (hw _ (List.mem_of_getElem? (i := 12) rfl))) (Or.inl (hw _ (List.mem_of_getElem? (i := 65) rfl))) (by decide) (t := (.array (.object "java/lang/String"))) (t' := (.object "java/lang/String")) (by decide) (by decide)))
  replace F2 := F2.other W (Or.inr (slot_ne (Or.inl (hw _ (List.mem_of_getElem? (i := 19) rfl))) (Or.inl (hw _ (List.mem_of_getElem? (i := 65) rfl))) (by decide) (t := .int) (t' := (.object "java/lang/String")) (by decide) (by decide)))
  replace Va := Va.other W ne1
  replace F3 := F3.same W
  replace Z0 := Nat.le_trans Z0 (Keep.of_wr W).1
  replace K := K.wr W (Or.inl (List.mem_of_getElem? (i := 0) rfl))
  refine o_aloadN X hx 21 (hb hby d_prog_16_method_3_20) rfl rfl rfl ?_
  refine o_getF X hx hZ hown (host := "") (Or.inl (hw _ (List.mem_of_getElem? (i := 64) rfl))) Via.refl eT F3 24 (hb hby d_prog_16_method_3_21) rfl (fun T X eT => ?_)
  exact o_retA X hx hlk hret rfl rfl rfl (hb hby d_prog_16_method_3_24) (by decide) (by decide) (by rw [eT]; exact ⟨_, rfl, N, K, E_a1, F1, hij ▸ F2, F3⟩)
theorem d_prog_16_method_4_0 : decode prog_16_method_4_code 0 = .ok (.aload_n 0, 1) := by decide +kernel
theorem d_prog_16_method_4_1 : decode prog_16_method_4_code 1 = .ok (.invokevirtual 21, 3) := by decide +kernel
theorem d_prog_16_method_4_4 : decode prog_16_method_4_code 4 = .ok (.ifCond .ne 20, 3) := by decide +kernel
theorem d_prog_16_method_4_7 : decode prog_16_method_4_code 7 = .ok (.new 25, 3) := by decide +kernel
theorem d_prog_16_method_4_10 : decode prog_16_method_4_code 10 = .ok (.dup, 1) := by decide +kernel
theorem d_prog_16_method_4_11 : decode prog_16_method_4_code 11 = .ok (.aload_n 0, 1) := by decide +kernel
theorem d_prog_16_method_4_12 : decode prog_16_method_4_code 12 = .ok (.getfield 17, 3) := by decide +kernel
theorem d_prog_16_method_4_15 : decode prog_16_method_4_code 15 = .ok (.invokedynamic 27, 5) := by decide +kernel
theorem d_prog_16_method_4_20 : decode prog_16_method_4_code 20 = .ok (.invokespecial 31, 3) := by decide +kernel
theorem d_prog_16_method_4_23 : decode prog_16_method_4_code 23 = .ok (.athrow, 1) := by decide +kernel
theorem d_prog_16_method_4_24 : decode prog_16_method_4_code 24 = .ok (.aload_n 0, 1) := by decide +kernel
theorem d_prog_16_method_4_25 : decode prog_16_method_4_code 25 = .ok (.getfield 7, 3) := by decide +kernel
theorem d_prog_16_method_4_28 : decode prog_16_method_4_code 28 = .ok (.aload_n 0, 1) := by decide +kernel
theorem d_prog_16_method_4_29 : decode prog_16_method_4_code 29 = .ok (.dup, 1) := by decide +kernel
theorem d_prog_16_method_4_30 : decode prog_16_method_4_code 30 = .ok (.getfield 13, 3) := by decide +kernel
theorem d_prog_16_method_4_33 : decode prog_16_method_4_code 33 = .ok (.dup_x1, 1) := by decide +kernel
theorem d_prog_16_method_4_34 : decode prog_16_method_4_code 34 = .ok (.iconst 1, 1) := by decide +kernel
theorem d_prog_16_method_4_35 : decode prog_16_method_4_code 35 = .ok (.iadd, 1) := by decide +kernel
theorem d_prog_16_method_4_36 : decode prog_16_method_4_code 36 = .ok (.putfield 13, 3) := by decide +kernel
theorem d_prog_16_method_4_39 : decode prog_16_method_4_code 39 = .ok (.aaload, 1) := by decide +kernel
theorem d_prog_16_method_4_40 : decode prog_16_method_4_code 40 = .ok (.areturn, 1) := by decide +kernel
theorem pd_3 : parseMethodDescriptor "()Z" = some ⟨[], some .boolean⟩ := by decide +kernel
def Q_val (Z : State) (a1 aa st : Addr) (ka : ClassId) (i j z : Int32) (vs : List Value) (u : Value) (h0 : Heap) (n0 : Nat) (v : Option Value) (h : Heap) (L : List Loc) : Prop := ∃ u' : Value, v = some (.ref st) ∧ Fr n0 L ∧ Keep h0 h [a1] ∧ Exa Z h a1 "com/example/varasto/varasto/util/OptionReader" ∧ Fld Z h a1 "com/example/varasto/varasto/util/OptionReader" "_args" "[Ljava/lang/String;" (.ref aa) ∧ Fld Z h a1 "com/example/varasto/varasto/util/OptionReader" "_next" "I" (.int j) ∧ Fld Z h a1 "com/example/varasto/varasto/util/OptionReader" "_option" "Ljava/lang/String;" u'
set_option maxRecDepth 65536 in
set_option maxHeartbeats 40000000 in
theorem rm_val (l : Launch) (Z : State) (a0 : Array Value) (hw : ∀ d ∈ own_words, d.before a0 Z = true) (ws : List Jvm.Cond) (a1 aa st : Addr) (ka : ClassId) (i j z : Int32) (vs : List Value) (u : Value) (h0 : Heap) (n0 : Nat) (Z0 : n0 ≤ h0.size) (E_a1 : Exa Z h0 a1 "com/example/varasto/varasto/util/OptionReader") (F1 : Fld Z h0 a1 "com/example/varasto/varasto/util/OptionReader" "_args" "[Ljava/lang/String;" (.ref aa)) (F2 : Fld Z h0 a1 "com/example/varasto/varasto/util/OptionReader" "_next" "I" (.int i)) (Va : Arv Z h0 aa ka (.object "java/lang/String") z vs .null) (F3 : Fld Z h0 a1 "com/example/varasto/varasto/util/OptionReader" "_option" "Ljava/lang/String;" u) (g_a1 : n0 ≤ a1) (ne1 : aa ≠ a1) (hj : ¬ i < 0 ∧ i < z) (hv : vs.getD i.toNatClampNeg .null = .ref st) (hij : i + 1 = j) :
    Met l Z (⟨"com/example/varasto/varasto/util/OptionReader", "value", "()Ljava/lang/String;"⟩ : MethodName) prog_16_method_4_code 1 (some (.object "java/lang/String")) ws ({ frames := 1, cells := 0, slots := 0, locals := 12 } : Room) #[(.ref a1)] h0 (Q_val Z a1 aa st ka i j z vs u h0 n0) := by
  refine Met.start (plainFor_of_name pn_2) ?_
  intro p e s m below meth c T X hx hby hml hown hnm hret hlk hZ eT
  have N := Fr.nil n0
  have K := Keep.refl h0 [a1]
  refine Wout.cast (g' := (mkF m 0 #[.val (.ref a1)] [])) (by first | rfl | (simp [entryFrame, mkF, argsToLocals, Value.category]; done)) ?_
  refine o_aloadN X hx 1 (hb hby d_prog_16_method_4_0) rfl rfl rfl ?_
  refine o_callV X hx hZ hown (hw _ (List.mem_of_getElem? (i := 53) rfl)) (hw _ (List.mem_of_getElem? (i := 14) rfl)) (hw _ (List.mem_of_getElem? (i := 16) rfl)) (hw _ (List.mem_of_getElem? (i := 15) rfl)) (hw _ (List.mem_of_getElem? (i := 4) rfl)) (hw _ (List.mem_of_getElem? (i := 17) rfl)) (by decide) (rm_has1 l Z a0 hw [] a1 aa ka i z vs _ n0 Z0 F1 F2 Va hj.2) eT (by decide) 0 (by decide) (by rw [hml]; rfl) E_a1 [] (rest := []) (lenOf pd_3 rfl) rfl rfl (Nat.le_of_eq rfl) (by decide) (by decide) 4 (hb hby d_prog_16_method_4_1) rfl (fun v T h1 Lc X eT q => ?_)
  obtain ⟨rfl, N', e'⟩ := q
  replace N := Fr.app N N'
  replace eT := eT.trans e'
  show Wout p e below _ T (mkF m 4 #[.val (.ref a1)] [(.int (1 : Int32))])
  refine o_ifT X hx 24 (hb hby d_prog_16_method_4_4) rfl (by decide : ¬ (1 : Int32) = (0 : Int32)) ?_
  refine o_aloadN X hx 25 (hb hby d_prog_16_method_4_24) rfl rfl rfl ?_
  refine o_getF X hx hZ hown (host := "") (Or.inl (hw _ (List.mem_of_getElem? (i := 11) rfl))) Via.refl eT F1 28 (hb hby d_prog_16_method_4_25) rfl (fun T X eT => ?_)
  refine o_aloadN X hx 29 (hb hby d_prog_16_method_4_28) rfl rfl rfl ?_
  refine o_dup X hx 30 (hb hby d_prog_16_method_4_29) rfl rfl ?_
  refine o_getF X hx hZ hown (host := "") (Or.inl (hw _ (List.mem_of_getElem? (i := 18) rfl))) Via.refl eT F2 33 (hb hby d_prog_16_method_4_30) rfl (fun T X eT => ?_)
  refine o_dup_x1 X hx 34 (hb hby d_prog_16_method_4_33) rfl rfl rfl ?_
  refine o_iconst X hx 35 (1 : Int32) (hb hby d_prog_16_method_4_34) rfl rfl ?_
  refine o_iadd X hx 36 (hb hby d_prog_16_method_4_35) rfl ?_
  refine o_putF X hx hZ .int hown (host := "") (Or.inl (hw _ (List.mem_of_getElem? (i := 18) rfl))) Via.refl eT F2 E_a1 (Or.inl (hw _ (List.mem_of_getElem? (i := 19) rfl))) (hw _ (List.mem_of_getElem? (i := 3) rfl)) (by decide) rfl rfl N g_a1 39 (hb hby d_prog_16_method_4_36) rfl (fun T h2 locs X eT W N => ?_)
  replace E_a1 := E_a1.wr W
  replace F1 := F1.other W (Or.inr (slot_ne (Or.inr (hw _ (List.mem_of_getElem? (i := 12) rfl))) (Or.inl (hw _ (List.mem_of_getElem? (i := 19) rfl))) (by decide) (t := (.array (.object "java/lang/String"))) (t' := .int) (by decide) (by decide)))
  replace F2 := F2.same W
  replace Va := Va.other W ne1
  replace F3 := F3.other W (Or.inr (slot_ne (Or.inl (hw _ (List.mem_of_getElem? (i := 65) rfl))) (Or.inl (hw _ (List.mem_of_getElem? (i := 19) rfl))) (by decide) (t := (.object "java/lang/String")) (t' := .int) (by decide) (by decide)))
  replace Z0 := Nat.le_trans Z0 (Keep.of_wr W).1
  replace K := K.wr W (Or.inl (List.mem_of_getElem? (i := 0) rfl))
  refine o_aaload X hx hZ eT Va rfl hj (v := (.ref st)) hv 40 (hb hby d_prog_16_method_4_39) rfl ?_
  exact o_retA X hx hlk hret rfl rfl rfl (hb hby d_prog_16_method_4_40) (by decide) (by decide) (by rw [eT]; exact ⟨u, rfl, N, K, E_a1, F1, hij ▸ F2, F3⟩)
theorem d_method_2_0 : decode method_2_code 0 = .ok (.iload_n 1, 1) := by decide +kernel
theorem d_method_2_1 : decode method_2_code 1 = .ok (.ifCond .eq 8, 3) := by decide +kernel
theorem d_method_2_4 : decode method_2_code 4 = .ok (.aload_n 0, 1) := by decide +kernel
theorem d_method_2_5 : decode method_2_code 5 = .ok (.invokevirtual 7, 3) := by decide +kernel
theorem d_method_2_8 : decode method_2_code 8 = .ok (.areturn, 1) := by decide +kernel
theorem d_method_2_9 : decode method_2_code 9 = .ok (.aload_n 0, 1) := by decide +kernel
theorem d_method_2_10 : decode method_2_code 10 = .ok (.invokevirtual 13, 3) := by decide +kernel
theorem d_method_2_13 : decode method_2_code 13 = .ok (.areturn, 1) := by decide +kernel
theorem pn_3 : plainName "com/example/varasto/varasto/util/OptionReaderHasNextPinLaw" = true := by first | (simp [plainName, overriddenIn]; done) | decide +kernel
theorem pd_4 : parseMethodDescriptor "()Ljava/lang/String;" = some ⟨[], some (.object "java/lang/String")⟩ := by decide +kernel
def Q_take (Z : State) (a1 aa st : Addr) (ka : ClassId) (i j z : Int32) (vs : List Value) (u : Value) (b : Int32) (h0 : Heap) (n0 : Nat) (v : Option Value) (h : Heap) (L : List Loc) : Prop := ∃ u' : Value, v = some (.ref st) ∧ Fr n0 L ∧ Keep h0 h [a1] ∧ Exa Z h a1 "com/example/varasto/varasto/util/OptionReader" ∧ Fld Z h a1 "com/example/varasto/varasto/util/OptionReader" "_args" "[Ljava/lang/String;" (.ref aa) ∧ Fld Z h a1 "com/example/varasto/varasto/util/OptionReader" "_next" "I" (.int j) ∧ Fld Z h a1 "com/example/varasto/varasto/util/OptionReader" "_option" "Ljava/lang/String;" u'
set_option maxRecDepth 65536 in
set_option maxHeartbeats 40000000 in
theorem rm_take (l : Launch) (Z : State) (a0 : Array Value) (hw : ∀ d ∈ own_words, d.before a0 Z = true) (ws : List Jvm.Cond) (a1 aa st : Addr) (ka : ClassId) (i j z : Int32) (vs : List Value) (u : Value) (b : Int32) (h0 : Heap) (n0 : Nat) (Z0 : n0 ≤ h0.size) (E_a1 : Exa Z h0 a1 "com/example/varasto/varasto/util/OptionReader") (F1 : Fld Z h0 a1 "com/example/varasto/varasto/util/OptionReader" "_args" "[Ljava/lang/String;" (.ref aa)) (F2 : Fld Z h0 a1 "com/example/varasto/varasto/util/OptionReader" "_next" "I" (.int i)) (Va : Arv Z h0 aa ka (.object "java/lang/String") z vs .null) (F3 : Fld Z h0 a1 "com/example/varasto/varasto/util/OptionReader" "_option" "Ljava/lang/String;" u) (g_a1 : n0 ≤ a1) (ne1 : aa ≠ a1) (hj : ¬ i < 0 ∧ i < z) (hv : vs.getD i.toNatClampNeg .null = .ref st) (hij : i + 1 = j) (hb' : b = 0 ∨ b = 1) :
    Met l Z (⟨"com/example/varasto/varasto/util/OptionReaderHasNextPinLaw", "take", "(Lcom/example/varasto/varasto/util/OptionReader;Z)Ljava/lang/String;"⟩ : MethodName) method_2_code 2 (some (.object "java/lang/String")) ws ({ frames := 2, cells := 0, slots := 0, locals := 28 } : Room) #[(.ref a1), (.int b)] h0 (Q_take Z a1 aa st ka i j z vs u b h0 n0) := by
  refine Met.start (plainFor_of_name pn_3) ?_
  intro p e s m below meth c T X hx hby hml hown hnm hret hlk hZ eT
  have N := Fr.nil n0
  have K := Keep.refl h0 [a1]
  refine Wout.cast (g' := (mkF m 0 #[.val (.ref a1), .val (.int b)] [])) (by first | rfl | (simp [entryFrame, mkF, argsToLocals, Value.category]; done)) ?_
  rcases hb' with rfl | rfl
  · show Wout p e below _ T (mkF m 0 #[.val (.ref a1), .val (.int (0 : Int32))] [])
    refine o_iloadN X hx 1 (hb hby d_method_2_0) rfl rfl ?_
    refine o_ifT X hx 9 (hb hby d_method_2_1) rfl (by decide : (0 : Int32) = (0 : Int32)) ?_
    refine o_aloadN X hx 10 (hb hby d_method_2_9) rfl rfl rfl ?_
    refine o_callV X hx hZ hown (hw _ (List.mem_of_getElem? (i := 59) rfl)) (hw _ (List.mem_of_getElem? (i := 60) rfl)) (hw _ (List.mem_of_getElem? (i := 62) rfl)) (hw _ (List.mem_of_getElem? (i := 61) rfl)) (hw _ (List.mem_of_getElem? (i := 4) rfl)) (hw _ (List.mem_of_getElem? (i := 63) rfl)) (by decide) (rm_nxt l Z a0 hw [] a1 aa st ka i j z vs u _ n0 Z0 E_a1 F1 F2 Va F3 g_a1 ne1 hj hv hij) eT (by decide) 0 (by decide) (by rw [hml]; rfl) E_a1 [] (rest := []) (lenOf pd_4 rfl) rfl rfl (Nat.le_of_eq rfl) (by decide) (by decide) 13 (hb hby d_method_2_10) rfl (fun v T h1 Lc X eT q => ?_)
    obtain ⟨u', rfl, N', K1, E', G1, G2, G3⟩ := q
    replace N := Fr.app N N'
    replace K := K.trans K1 (allS (P := fun x => x ∈ [a1] ∨ h0.size ≤ x) (Or.inl (List.mem_of_getElem? (i := 0) rfl)) all0)
    show Wout p e below _ T (mkF m 13 #[.val (.ref a1), .val (.int (0 : Int32))] [(.ref st)])
    exact o_retA X hx hlk hret rfl rfl rfl (hb hby d_method_2_13) (by decide) (by decide) (by rw [eT]; exact ⟨u', rfl, N, K, E', G1, G2, G3⟩)
  · show Wout p e below _ T (mkF m 0 #[.val (.ref a1), .val (.int (1 : Int32))] [])
    refine o_iloadN X hx 1 (hb hby d_method_2_0) rfl rfl ?_
    refine o_ifF X hx 4 (hb hby d_method_2_1) rfl (by decide : ¬ (1 : Int32) = (0 : Int32)) ?_
    refine o_aloadN X hx 5 (hb hby d_method_2_4) rfl rfl rfl ?_
    refine o_callV X hx hZ hown (hw _ (List.mem_of_getElem? (i := 48) rfl)) (hw _ (List.mem_of_getElem? (i := 49) rfl)) (hw _ (List.mem_of_getElem? (i := 51) rfl)) (hw _ (List.mem_of_getElem? (i := 50) rfl)) (hw _ (List.mem_of_getElem? (i := 4) rfl)) (hw _ (List.mem_of_getElem? (i := 52) rfl)) (by decide) (rm_val l Z a0 hw [] a1 aa st ka i j z vs u _ n0 Z0 E_a1 F1 F2 Va F3 g_a1 ne1 hj hv hij) eT (by decide) 0 (by decide) (by rw [hml]; rfl) E_a1 [] (rest := []) (lenOf pd_4 rfl) rfl rfl (Nat.le_of_eq rfl) (by decide) (by decide) 8 (hb hby d_method_2_5) rfl (fun v T h2 Lc X eT q => ?_)
    obtain ⟨u', rfl, N', K1, E', G1, G2, G3⟩ := q
    replace N := Fr.app N N'
    replace K := K.trans K1 (allS (P := fun x => x ∈ [a1] ∨ h0.size ≤ x) (Or.inl (List.mem_of_getElem? (i := 0) rfl)) all0)
    show Wout p e below _ T (mkF m 8 #[.val (.ref a1), .val (.int (1 : Int32))] [(.ref st)])
    exact o_retA X hx hlk hret rfl rfl rfl (hb hby d_method_2_8) (by decide) (by decide) (by rw [eT]; exact ⟨u', rfl, N, K, E', G1, G2, G3⟩)
theorem own_c255 (x : Int32) : ¬ (255 : Int32) < (x &&& (255 : Int32)).toUInt32.toUInt16.toUInt32.toInt32 := by
  rw [i2c_mask]
  have e := Jvm.Kit.i32_mask x 255 (k := 8) (by decide) (by decide)
  intro q
  have q2 := Int32.lt_iff_toInt_lt.mp q
  have h5 : (255 : Int32).toInt = 255 := rfl
  omega
theorem own_and3 (x : Int32) : (x &&& (3 : Int32)) = 0 ∨ (x &&& (3 : Int32)) = 1 ∨ (x &&& (3 : Int32)) = 2 ∨ (x &&& (3 : Int32)) = 3 := by
  have e := Jvm.Kit.i32_mask x 3 (k := 2) (by decide) (by decide)
  exact in4 (by omega) (by omega)
theorem pd_5 : parseMethodDescriptor "([Ljava/lang/String;)V" = some ⟨[(.array (.object "java/lang/String"))], none⟩ := by decide +kernel
theorem pd_6 : parseMethodDescriptor "(C)Ljava/lang/String;" = some ⟨[.char], some (.object "java/lang/String")⟩ := by decide +kernel
theorem pd_7 : parseMethodDescriptor "(Lcom/example/varasto/varasto/util/OptionReader;Z)Ljava/lang/String;" = some ⟨[(.object "com/example/varasto/varasto/util/OptionReader"), .boolean], some (.object "java/lang/String")⟩ := by decide +kernel
theorem pd_8 : parseMethodDescriptor "(Ljava/lang/Object;)Z" = some ⟨[(.object "java/lang/Object")], some .boolean⟩ := by decide +kernel
def Q_law (Z : State) (p1 p2 p3 p4 p5 p6 cs : Int32) (h0 : Heap) (n0 : Nat) (v : Option Value) (h : Heap) (L : List Loc) : Prop := v = some (.int 1) ∧ Fr n0 L ∧ True
set_option maxRecDepth 65536 in
set_option maxHeartbeats 40000000 in
theorem rm_law (l : Launch) (Z : State) (a0 : Array Value) (hw : ∀ d ∈ own_words, d.before a0 Z = true) (ws : List Jvm.Cond) (p1 p2 p3 p4 p5 p6 cs : Int32) (h0 : Heap) (n0 : Nat) (Z0 : n0 ≤ h0.size) (O : Old Z n0 h0) (SC : Sta Z Z.heap "java/lang/String" "COMPACT_STRINGS" "Z" (.int cs)) (hcs : ¬ cs = 0) :
    Met l Z x code maxLocals ret ws room_1 #[(.int p1), (.int p2), (.int p3), (.int p4), (.int p5), (.int p6)] h0 (Q_law Z p1 p2 p3 p4 p5 p6 cs h0 n0) := by
  refine Met.start (plainFor_of_name pn_3) ?_
  intro p e s m below meth c T X hx hby hml hown hnm hret hlk hZ eT
  have N := Fr.nil n0
  refine Wout.cast (g' := (mkF m 0 #[.val (.int p1), .val (.int p2), .val (.int p3), .val (.int p4), .val (.int p5), .val (.int p6), .unset, .unset, .unset, .unset, .unset, .unset] [])) (by first | rfl | (simp [entryFrame, mkF, argsToLocals, Value.category, maxLocals]; done)) ?_
  refine o_iloadN X hx 1 (hb hby at_0) rfl rfl ?_
  refine o_iconst X hx 2 (3 : Int32) (hb hby at_1) rfl rfl ?_
  refine o_iand X hx 3 (hb hby at_2) rfl ?_
  obtain ⟨n, h_n⟩ : ∃ z, z = (p1 &&& (3 : Int32)) := ⟨_, rfl⟩
  rw [← h_n]
  have hn := own_and3 p1
  rw [← h_n] at hn
  clear h_n
  refine o_istore X hx 5 (Ls' := #[.val (.int p1), .val (.int p2), .val (.int p3), .val (.int p4), .val (.int p5), .val (.int p6), .val (.int n), .unset, .unset, .unset, .unset, .unset]) (hb hby at_3) rfl rfl ?_
  refine o_iloadN X hx 6 (hb hby at_5) rfl rfl ?_
  refine o_iconst X hx 7 (3 : Int32) (hb hby at_6) rfl rfl ?_
  refine o_iand X hx 8 (hb hby at_7) rfl ?_
  obtain ⟨kk, h_kk⟩ : ∃ z, z = (p2 &&& (3 : Int32)) := ⟨_, rfl⟩
  rw [← h_kk]
  have hk := own_and3 p2
  rw [← h_kk] at hk
  clear h_kk
  rcases hn with rfl | rfl | rfl | rfl
  · show Wout p e below _ T (mkF m 8 #[.val (.int p1), .val (.int p2), .val (.int p3), .val (.int p4), .val (.int p5), .val (.int p6), .val (.int (0 : Int32)), .unset, .unset, .unset, .unset, .unset] [(.int kk)])
    refine o_istore X hx 10 (Ls' := #[.val (.int p1), .val (.int p2), .val (.int p3), .val (.int p4), .val (.int p5), .val (.int p6), .val (.int (0 : Int32)), .val (.int kk), .unset, .unset, .unset, .unset]) (hb hby at_8) rfl rfl ?_
    have J : ∀ k : Int32, (k = 0) → Wout p e below (Pst s (Q_law Z p1 p2 p3 p4 p5 p6 cs h0 n0) room_1.cells room_1.slots) T (mkF m 21 #[.val (.int p1), .val (.int p2), .val (.int p3), .val (.int p4), .val (.int p5), .val (.int p6), .val (.int (0 : Int32)), .val (.int k), .unset, .unset, .unset, .unset] []) := by
      intro k hk'
      refine o_iload X hx 23 (hb hby at_21) rfl rfl ?_
      refine o_anewarray X hx hZ hown (hw _ (List.mem_of_getElem? (i := 0) rfl)) (hw _ (List.mem_of_getElem? (i := 1) rfl)) eT 26 (hb hby at_23) rfl (by decide) 0 (by decide) (by decide) (by decide) (by decide) (fun T h1 b1 k1 hb1 X eT E A Ov1 => ?_)
      have g_b1 : n0 ≤ b1 := Nat.le_trans Z0 (Nat.le_of_eq hb1.symm)
      replace Z0 := Nat.le_trans Z0 E.1
      replace O := O.ext E
      have V_b1 : Arv Z h1 b1 k1 (.object "java/lang/String") (0 : Int32) [] .null := A.pad (pad_rep [] .null 0)
      refine o_astore X hx 28 (Ls' := #[.val (.int p1), .val (.int p2), .val (.int p3), .val (.int p4), .val (.int p5), .val (.int p6), .val (.int (0 : Int32)), .val (.int k), .val (.ref b1), .unset, .unset, .unset]) (hb hby at_26) rfl rfl rfl ?_
      refine o_iload X hx 30 (hb hby at_28) rfl rfl ?_
      refine o_iconst X hx 31 (1 : Int32) (hb hby at_30) rfl rfl ?_
      refine o_icmpT X hx 47 (hb hby at_31) rfl (by decide : (0 : Int32) < (1 : Int32)) ?_
      refine o_iload X hx 49 (hb hby at_47) rfl rfl ?_
      refine o_iconst X hx 50 (2 : Int32) (hb hby at_49) rfl rfl ?_
      refine o_icmpT X hx 67 (hb hby at_50) rfl (by decide : (0 : Int32) < (2 : Int32)) ?_
      refine o_iload X hx 69 (hb hby at_67) rfl rfl ?_
      refine o_iconst X hx 70 (3 : Int32) (hb hby at_69) rfl rfl ?_
      refine o_icmpT X hx 87 (hb hby at_70) rfl (by decide : (0 : Int32) < (3 : Int32)) ?_
      refine o_new X hx hZ hown (hw _ (List.mem_of_getElem? (i := 2) rfl)) (hw _ (List.mem_of_getElem? (i := 3) rfl)) (hw _ (List.mem_of_getElem? (i := 4) rfl)) eT 90 (hb hby at_87) rfl (by decide) (by decide) (fun T h2 b2 hb2 X eT E A D => ?_)
      have ne_b1_b2 : b1 ≠ b2 := Nat.ne_of_lt (Nat.lt_of_lt_of_eq V_b1.lt hb2.symm)
      have g_b2 : n0 ≤ b2 := Nat.le_trans Z0 (Nat.le_of_eq hb2.symm)
      replace V_b1 := V_b1.ext E
      replace Z0 := Nat.le_trans Z0 E.1
      replace O := O.ext E
      have E_b2 := A
      have F__args_b2 : Fld Z h2 b2 "com/example/varasto/varasto/util/OptionReader" "_args" "[Ljava/lang/String;" .null := D (Or.inr (hw _ (List.mem_of_getElem? (i := 12) rfl))) (ty := (.array (.object "java/lang/String"))) (by decide)
      have F__next_b2 : Fld Z h2 b2 "com/example/varasto/varasto/util/OptionReader" "_next" "I" (.int (0 : Int32)) := D (Or.inl (hw _ (List.mem_of_getElem? (i := 19) rfl))) (ty := .int) (by decide)
      have F__option_b2 : Fld Z h2 b2 "com/example/varasto/varasto/util/OptionReader" "_option" "Ljava/lang/String;" .null := D (Or.inl (hw _ (List.mem_of_getElem? (i := 65) rfl))) (ty := (.object "java/lang/String")) (by decide)
      refine o_dup X hx 91 (hb hby at_90) rfl rfl ?_
      refine o_aload X hx 93 (hb hby at_91) rfl rfl rfl ?_
      refine o_callI X hx hZ rfl hown (hw _ (List.mem_of_getElem? (i := 5) rfl)) (hw _ (List.mem_of_getElem? (i := 6) rfl)) (hw _ (List.mem_of_getElem? (i := 4) rfl)) (hw _ (List.mem_of_getElem? (i := 7) rfl)) (by decide) (rm_oin l Z a0 hw [] b2 b1 _ _ n0 Z0 E_b2 F__args_b2 F__next_b2 F__option_b2 g_b2) eT (by decide) 1 (by decide) (by rw [hml]; rfl) [(.ref b1)] (rest := [(.ref b2)]) (lenOf pd_5 rfl) rfl rfl (Nat.le_of_eq rfl) (by decide) (by decide) 96 (hb hby at_93) rfl (fun v T h3 Lc X eT q => ?_)
      obtain ⟨rfl, N', K1, E', G1, G2, G3⟩ := q
      replace N := Fr.app N N'
      replace V_b1 := V_b1.keep K1 (ninS ne_b1_b2 nin0)
      replace Z0 := Nat.le_trans Z0 K1.1
      replace O := O.keep K1 (allS (P := fun x => n0 ≤ x) g_b2 all0)
      replace E_b2 := E'
      have F1 := G1
      have F2 := G2
      have F3 := G3
      show Wout p e below _ T (mkF m 96 #[.val (.int p1), .val (.int p2), .val (.int p3), .val (.int p4), .val (.int p5), .val (.int p6), .val (.int (0 : Int32)), .val (.int k), .val (.ref b1), .unset, .unset, .unset] [(.ref b2)])
      refine o_astore X hx 98 (Ls' := #[.val (.int p1), .val (.int p2), .val (.int p3), .val (.int p4), .val (.int p5), .val (.int p6), .val (.int (0 : Int32)), .val (.int k), .val (.ref b1), .val (.ref b2), .unset, .unset]) (hb hby at_96) rfl rfl rfl ?_
      refine o_aload X hx 100 (hb hby at_98) rfl rfl rfl ?_
      refine o_callV X hx hZ hown (hw _ (List.mem_of_getElem? (i := 13) rfl)) (hw _ (List.mem_of_getElem? (i := 14) rfl)) (hw _ (List.mem_of_getElem? (i := 16) rfl)) (hw _ (List.mem_of_getElem? (i := 15) rfl)) (hw _ (List.mem_of_getElem? (i := 4) rfl)) (hw _ (List.mem_of_getElem? (i := 17) rfl)) (by decide) (rm_has0 l Z a0 hw [] b2 b1 k1 (0 : Int32) (0 : Int32) [] _ n0 Z0 F1 F2 V_b1 (by decide)) eT (by decide) 0 (by decide) (by rw [hml]; rfl) E_b2 [] (rest := []) (lenOf pd_3 rfl) rfl rfl (Nat.le_of_eq rfl) (by decide) (by decide) 103 (hb hby at_100) rfl (fun v T h4 Lc X eT q => ?_)
      obtain ⟨rfl, N', e'⟩ := q
      replace N := Fr.app N N'
      replace eT := eT.trans e'
      show Wout p e below _ T (mkF m 103 #[.val (.int p1), .val (.int p2), .val (.int p3), .val (.int p4), .val (.int p5), .val (.int p6), .val (.int (0 : Int32)), .val (.int k), .val (.ref b1), .val (.ref b2), .unset, .unset] [(.int (0 : Int32))])
      refine o_iconst X hx 104 (0 : Int32) (hb hby at_103) rfl rfl ?_
      refine o_iload X hx 106 (hb hby at_104) rfl rfl ?_
      refine o_icmpT X hx 113 (hb hby at_106) rfl (by decide : ¬ (0 : Int32) < (0 : Int32)) ?_
      refine o_iconst X hx 114 (0 : Int32) (hb hby at_113) rfl rfl ?_
      refine o_icmpF X hx 117 (hb hby at_114) rfl (by decide : (0 : Int32) = (0 : Int32)) ?_
      refine o_iconst X hx 118 (1 : Int32) (hb hby at_117) rfl rfl ?_
      refine o_goto X hx 122 (hb hby at_118) rfl ?_
      refine o_istore X hx 124 (Ls' := #[.val (.int p1), .val (.int p2), .val (.int p3), .val (.int p4), .val (.int p5), .val (.int p6), .val (.int (0 : Int32)), .val (.int k), .val (.ref b1), .val (.ref b2), .val (.int (1 : Int32)), .unset]) (hb hby at_122) rfl rfl ?_
      refine o_iload X hx 126 (hb hby at_124) rfl rfl ?_
      refine o_iconst X hx 127 (1 : Int32) (hb hby at_126) rfl rfl ?_
      subst hk'
      refine o_icmpT X hx 203 (hb hby at_127) rfl (by decide : (0 : Int32) < (1 : Int32)) ?_
      refine o_iload X hx 205 (hb hby at_203) rfl rfl ?_
      refine o_iconst X hx 206 (2 : Int32) (hb hby at_205) rfl rfl ?_
      refine o_icmpT X hx 282 (hb hby at_206) rfl (by decide : (0 : Int32) < (2 : Int32)) ?_
      refine o_iload X hx 284 (hb hby at_282) rfl rfl ?_
      refine o_iconst X hx 285 (3 : Int32) (hb hby at_284) rfl rfl ?_
      refine o_icmpT X hx 361 (hb hby at_285) rfl (by decide : (0 : Int32) < (3 : Int32)) ?_
      refine o_iload X hx 363 (hb hby at_361) rfl rfl ?_
      exact o_retI X hx hlk hret rfl (by simp) (hb hby at_363) (by decide) (by decide) (by rw [eT]; exact ⟨rfl, N, trivial⟩)
    rcases hk with rfl | rfl | rfl | rfl
    · show Wout p e below _ T (mkF m 10 #[.val (.int p1), .val (.int p2), .val (.int p3), .val (.int p4), .val (.int p5), .val (.int p6), .val (.int (0 : Int32)), .val (.int (0 : Int32)), .unset, .unset, .unset, .unset] [])
      refine o_iload X hx 12 (hb hby at_10) rfl rfl ?_
      refine o_iload X hx 14 (hb hby at_12) rfl rfl ?_
      refine o_icmpT X hx 21 (hb hby at_14) rfl (by decide : ¬ (0 : Int32) < (0 : Int32)) ?_
      exact J _ (by decide)
    · show Wout p e below _ T (mkF m 10 #[.val (.int p1), .val (.int p2), .val (.int p3), .val (.int p4), .val (.int p5), .val (.int p6), .val (.int (0 : Int32)), .val (.int (1 : Int32)), .unset, .unset, .unset, .unset] [])
      refine o_iload X hx 12 (hb hby at_10) rfl rfl ?_
      refine o_iload X hx 14 (hb hby at_12) rfl rfl ?_
      refine o_icmpF X hx 17 (hb hby at_14) rfl (by decide : (0 : Int32) < (1 : Int32)) ?_
      refine o_iload X hx 19 (hb hby at_17) rfl rfl ?_
      refine o_istore X hx 21 (Ls' := #[.val (.int p1), .val (.int p2), .val (.int p3), .val (.int p4), .val (.int p5), .val (.int p6), .val (.int (0 : Int32)), .val (.int (0 : Int32)), .unset, .unset, .unset, .unset]) (hb hby at_19) rfl rfl ?_
      exact J _ (by decide)
    · show Wout p e below _ T (mkF m 10 #[.val (.int p1), .val (.int p2), .val (.int p3), .val (.int p4), .val (.int p5), .val (.int p6), .val (.int (0 : Int32)), .val (.int (2 : Int32)), .unset, .unset, .unset, .unset] [])
      refine o_iload X hx 12 (hb hby at_10) rfl rfl ?_
      refine o_iload X hx 14 (hb hby at_12) rfl rfl ?_
      refine o_icmpF X hx 17 (hb hby at_14) rfl (by decide : (0 : Int32) < (2 : Int32)) ?_
      refine o_iload X hx 19 (hb hby at_17) rfl rfl ?_
      refine o_istore X hx 21 (Ls' := #[.val (.int p1), .val (.int p2), .val (.int p3), .val (.int p4), .val (.int p5), .val (.int p6), .val (.int (0 : Int32)), .val (.int (0 : Int32)), .unset, .unset, .unset, .unset]) (hb hby at_19) rfl rfl ?_
      exact J _ (by decide)
    · show Wout p e below _ T (mkF m 10 #[.val (.int p1), .val (.int p2), .val (.int p3), .val (.int p4), .val (.int p5), .val (.int p6), .val (.int (0 : Int32)), .val (.int (3 : Int32)), .unset, .unset, .unset, .unset] [])
      refine o_iload X hx 12 (hb hby at_10) rfl rfl ?_
      refine o_iload X hx 14 (hb hby at_12) rfl rfl ?_
      refine o_icmpF X hx 17 (hb hby at_14) rfl (by decide : (0 : Int32) < (3 : Int32)) ?_
      refine o_iload X hx 19 (hb hby at_17) rfl rfl ?_
      refine o_istore X hx 21 (Ls' := #[.val (.int p1), .val (.int p2), .val (.int p3), .val (.int p4), .val (.int p5), .val (.int p6), .val (.int (0 : Int32)), .val (.int (0 : Int32)), .unset, .unset, .unset, .unset]) (hb hby at_19) rfl rfl ?_
      exact J _ (by decide)
  · show Wout p e below _ T (mkF m 8 #[.val (.int p1), .val (.int p2), .val (.int p3), .val (.int p4), .val (.int p5), .val (.int p6), .val (.int (1 : Int32)), .unset, .unset, .unset, .unset, .unset] [(.int kk)])
    refine o_istore X hx 10 (Ls' := #[.val (.int p1), .val (.int p2), .val (.int p3), .val (.int p4), .val (.int p5), .val (.int p6), .val (.int (1 : Int32)), .val (.int kk), .unset, .unset, .unset, .unset]) (hb hby at_8) rfl rfl ?_
    have J : ∀ k : Int32, (k = 0 ∨ k = 1) → Wout p e below (Pst s (Q_law Z p1 p2 p3 p4 p5 p6 cs h0 n0) room_1.cells room_1.slots) T (mkF m 21 #[.val (.int p1), .val (.int p2), .val (.int p3), .val (.int p4), .val (.int p5), .val (.int p6), .val (.int (1 : Int32)), .val (.int k), .unset, .unset, .unset, .unset] []) := by
      intro k hk'
      refine o_iload X hx 23 (hb hby at_21) rfl rfl ?_
      refine o_anewarray X hx hZ hown (hw _ (List.mem_of_getElem? (i := 0) rfl)) (hw _ (List.mem_of_getElem? (i := 1) rfl)) eT 26 (hb hby at_23) rfl (by decide) 1 (by decide) (by decide) (by decide) (by decide) (fun T h5 b5 k5 hb5 X eT E A Ov5 => ?_)
      have g_b5 : n0 ≤ b5 := Nat.le_trans Z0 (Nat.le_of_eq hb5.symm)
      replace Z0 := Nat.le_trans Z0 E.1
      replace O := O.ext E
      have V_b5 : Arv Z h5 b5 k5 (.object "java/lang/String") (1 : Int32) [.null] .null := A.pad (pad_rep [] .null 1)
      refine o_astore X hx 28 (Ls' := #[.val (.int p1), .val (.int p2), .val (.int p3), .val (.int p4), .val (.int p5), .val (.int p6), .val (.int (1 : Int32)), .val (.int k), .val (.ref b5), .unset, .unset, .unset]) (hb hby at_26) rfl rfl rfl ?_
      refine o_iload X hx 30 (hb hby at_28) rfl rfl ?_
      refine o_iconst X hx 31 (1 : Int32) (hb hby at_30) rfl rfl ?_
      refine o_icmpF X hx 34 (hb hby at_31) rfl (by decide : ¬ (1 : Int32) < (1 : Int32)) ?_
      refine o_aload X hx 36 (hb hby at_34) rfl rfl rfl ?_
      refine o_iconst X hx 37 (0 : Int32) (hb hby at_36) rfl rfl ?_
      refine o_iloadN X hx 38 (hb hby at_37) rfl rfl ?_
      refine o_sipush X hx 41 (255 : Int32) (hb hby at_38) rfl rfl ?_
      refine o_iand X hx 42 (hb hby at_41) rfl ?_
      refine o_i2c X hx 43 (hb hby at_42) rfl ?_
      refine o_callS X hx hZ hown (hw _ (List.mem_of_getElem? (i := 20) rfl)) (hw _ (List.mem_of_getElem? (i := 21) rfl)) (hw _ (List.mem_of_getElem? (i := 22) rfl)) (hw _ (List.mem_of_getElem? (i := 23) rfl)) (by decide) (rm_vof l Z a0 hw [] (p4 &&& (255 : Int32)).toUInt32.toUInt16.toUInt32.toInt32 cs _ n0 Z0 (SC.ext O.2) hcs (own_c255 p4)) eT (by decide) 2 (by decide) (by rw [hml]; rfl) [(.int (((p4 &&& (255 : Int32))).toUInt32.toUInt16.toUInt32.toInt32))] (rest := [(.int (0 : Int32)), (.ref b5)]) (lenOf pd_6 rfl) rfl rfl (Nat.le_of_eq rfl) (by decide) (by decide) 46 (hb hby at_43) rfl (fun v T h6 Lc X eT q => ?_)
      obtain ⟨s0, rfl, N', K1, E_s0⟩ := q
      replace N := Fr.app N N'
      replace V_b5 := V_b5.keep K1 nin0
      replace Z0 := Nat.le_trans Z0 K1.1
      replace O := O.keep K1 all0
      show Wout p e below _ T (mkF m 46 #[.val (.int p1), .val (.int p2), .val (.int p3), .val (.int p4), .val (.int p5), .val (.int p6), .val (.int (1 : Int32)), .val (.int k), .val (.ref b5), .unset, .unset, .unset] [(.ref s0), (.int (0 : Int32)), (.ref b5)])
      refine o_aastore X hx hZ eT V_b5 rfl ⟨by decide, by decide⟩ 0 rfl (Nat.le_of_ble_eq_true rfl) (vs' := [(.ref s0)]) rfl rfl (Sto.arv V_b5 Ov5 (Ins.self E_s0)) N g_b5 47 (hb hby at_46) rfl (fun T h7 locs X eT W V' N => ?_)
      replace E_s0 := E_s0.wr W
      replace Z0 := Nat.le_trans Z0 (Keep.of_wr W).1
      replace O := O.wr W g_b5
      replace V_b5 := V'
      refine o_iload X hx 49 (hb hby at_47) rfl rfl ?_
      refine o_iconst X hx 50 (2 : Int32) (hb hby at_49) rfl rfl ?_
      refine o_icmpT X hx 67 (hb hby at_50) rfl (by decide : (1 : Int32) < (2 : Int32)) ?_
      refine o_iload X hx 69 (hb hby at_67) rfl rfl ?_
      refine o_iconst X hx 70 (3 : Int32) (hb hby at_69) rfl rfl ?_
      refine o_icmpT X hx 87 (hb hby at_70) rfl (by decide : (1 : Int32) < (3 : Int32)) ?_
      refine o_new X hx hZ hown (hw _ (List.mem_of_getElem? (i := 2) rfl)) (hw _ (List.mem_of_getElem? (i := 3) rfl)) (hw _ (List.mem_of_getElem? (i := 4) rfl)) eT 90 (hb hby at_87) rfl (by decide) (by decide) (fun T h8 b8 hb8 X eT E A D => ?_)
      have ne_b5_b8 : b5 ≠ b8 := Nat.ne_of_lt (Nat.lt_of_lt_of_eq V_b5.lt hb8.symm)
      have ne_s0_b8 : s0 ≠ b8 := Nat.ne_of_lt (Nat.lt_of_lt_of_eq E_s0.lt hb8.symm)
      have g_b8 : n0 ≤ b8 := Nat.le_trans Z0 (Nat.le_of_eq hb8.symm)
      replace V_b5 := V_b5.ext E
      replace E_s0 := E_s0.ext E
      replace Z0 := Nat.le_trans Z0 E.1
      replace O := O.ext E
      have E_b8 := A
      have F__args_b8 : Fld Z h8 b8 "com/example/varasto/varasto/util/OptionReader" "_args" "[Ljava/lang/String;" .null := D (Or.inr (hw _ (List.mem_of_getElem? (i := 12) rfl))) (ty := (.array (.object "java/lang/String"))) (by decide)
      have F__next_b8 : Fld Z h8 b8 "com/example/varasto/varasto/util/OptionReader" "_next" "I" (.int (0 : Int32)) := D (Or.inl (hw _ (List.mem_of_getElem? (i := 19) rfl))) (ty := .int) (by decide)
      have F__option_b8 : Fld Z h8 b8 "com/example/varasto/varasto/util/OptionReader" "_option" "Ljava/lang/String;" .null := D (Or.inl (hw _ (List.mem_of_getElem? (i := 65) rfl))) (ty := (.object "java/lang/String")) (by decide)
      refine o_dup X hx 91 (hb hby at_90) rfl rfl ?_
      refine o_aload X hx 93 (hb hby at_91) rfl rfl rfl ?_
      refine o_callI X hx hZ rfl hown (hw _ (List.mem_of_getElem? (i := 5) rfl)) (hw _ (List.mem_of_getElem? (i := 6) rfl)) (hw _ (List.mem_of_getElem? (i := 4) rfl)) (hw _ (List.mem_of_getElem? (i := 7) rfl)) (by decide) (rm_oin l Z a0 hw [] b8 b5 _ _ n0 Z0 E_b8 F__args_b8 F__next_b8 F__option_b8 g_b8) eT (by decide) 1 (by decide) (by rw [hml]; rfl) [(.ref b5)] (rest := [(.ref b8)]) (lenOf pd_5 rfl) rfl rfl (Nat.le_of_eq rfl) (by decide) (by decide) 96 (hb hby at_93) rfl (fun v T h9 Lc X eT q => ?_)
      obtain ⟨rfl, N', K1, E', G1, G2, G3⟩ := q
      replace N := Fr.app N N'
      replace V_b5 := V_b5.keep K1 (ninS ne_b5_b8 nin0)
      replace E_s0 := E_s0.keep K1
      replace Z0 := Nat.le_trans Z0 K1.1
      replace O := O.keep K1 (allS (P := fun x => n0 ≤ x) g_b8 all0)
      replace E_b8 := E'
      have F1 := G1
      have F2 := G2
      have F3 := G3
      show Wout p e below _ T (mkF m 96 #[.val (.int p1), .val (.int p2), .val (.int p3), .val (.int p4), .val (.int p5), .val (.int p6), .val (.int (1 : Int32)), .val (.int k), .val (.ref b5), .unset, .unset, .unset] [(.ref b8)])
      refine o_astore X hx 98 (Ls' := #[.val (.int p1), .val (.int p2), .val (.int p3), .val (.int p4), .val (.int p5), .val (.int p6), .val (.int (1 : Int32)), .val (.int k), .val (.ref b5), .val (.ref b8), .unset, .unset]) (hb hby at_96) rfl rfl rfl ?_
      refine o_aload X hx 100 (hb hby at_98) rfl rfl rfl ?_
      refine o_callV X hx hZ hown (hw _ (List.mem_of_getElem? (i := 13) rfl)) (hw _ (List.mem_of_getElem? (i := 14) rfl)) (hw _ (List.mem_of_getElem? (i := 16) rfl)) (hw _ (List.mem_of_getElem? (i := 15) rfl)) (hw _ (List.mem_of_getElem? (i := 4) rfl)) (hw _ (List.mem_of_getElem? (i := 17) rfl)) (by decide) (rm_has1 l Z a0 hw [] b8 b5 k5 (0 : Int32) (1 : Int32) [(.ref s0)] _ n0 Z0 F1 F2 V_b5 (by decide)) eT (by decide) 0 (by decide) (by rw [hml]; rfl) E_b8 [] (rest := []) (lenOf pd_3 rfl) rfl rfl (Nat.le_of_eq rfl) (by decide) (by decide) 103 (hb hby at_100) rfl (fun v T h10 Lc X eT q => ?_)
      obtain ⟨rfl, N', e'⟩ := q
      replace N := Fr.app N N'
      replace eT := eT.trans e'
      show Wout p e below _ T (mkF m 103 #[.val (.int p1), .val (.int p2), .val (.int p3), .val (.int p4), .val (.int p5), .val (.int p6), .val (.int (1 : Int32)), .val (.int k), .val (.ref b5), .val (.ref b8), .unset, .unset] [(.int (1 : Int32))])
      refine o_iconst X hx 104 (0 : Int32) (hb hby at_103) rfl rfl ?_
      refine o_iload X hx 106 (hb hby at_104) rfl rfl ?_
      refine o_icmpF X hx 109 (hb hby at_106) rfl (by decide : (0 : Int32) < (1 : Int32)) ?_
      refine o_iconst X hx 110 (1 : Int32) (hb hby at_109) rfl rfl ?_
      refine o_goto X hx 114 (hb hby at_110) rfl ?_
      refine o_icmpF X hx 117 (hb hby at_114) rfl (by decide : (1 : Int32) = (1 : Int32)) ?_
      refine o_iconst X hx 118 (1 : Int32) (hb hby at_117) rfl rfl ?_
      refine o_goto X hx 122 (hb hby at_118) rfl ?_
      refine o_istore X hx 124 (Ls' := #[.val (.int p1), .val (.int p2), .val (.int p3), .val (.int p4), .val (.int p5), .val (.int p6), .val (.int (1 : Int32)), .val (.int k), .val (.ref b5), .val (.ref b8), .val (.int (1 : Int32)), .unset]) (hb hby at_122) rfl rfl ?_
      refine o_iload X hx 126 (hb hby at_124) rfl rfl ?_
      refine o_iconst X hx 127 (1 : Int32) (hb hby at_126) rfl rfl ?_
      rcases hk' with rfl | rfl
      · show Wout p e below _ T (mkF m 127 #[.val (.int p1), .val (.int p2), .val (.int p3), .val (.int p4), .val (.int p5), .val (.int p6), .val (.int (1 : Int32)), .val (.int (0 : Int32)), .val (.ref b5), .val (.ref b8), .val (.int (1 : Int32)), .unset] [(.int (1 : Int32)), (.int (0 : Int32))])
        refine o_icmpT X hx 203 (hb hby at_127) rfl (by decide : (0 : Int32) < (1 : Int32)) ?_
        refine o_iload X hx 205 (hb hby at_203) rfl rfl ?_
        refine o_iconst X hx 206 (2 : Int32) (hb hby at_205) rfl rfl ?_
        refine o_icmpT X hx 282 (hb hby at_206) rfl (by decide : (0 : Int32) < (2 : Int32)) ?_
        refine o_iload X hx 284 (hb hby at_282) rfl rfl ?_
        refine o_iconst X hx 285 (3 : Int32) (hb hby at_284) rfl rfl ?_
        refine o_icmpT X hx 361 (hb hby at_285) rfl (by decide : (0 : Int32) < (3 : Int32)) ?_
        refine o_iload X hx 363 (hb hby at_361) rfl rfl ?_
        exact o_retI X hx hlk hret rfl (by simp) (hb hby at_363) (by decide) (by decide) (by rw [eT]; exact ⟨rfl, N, trivial⟩)
      · show Wout p e below _ T (mkF m 127 #[.val (.int p1), .val (.int p2), .val (.int p3), .val (.int p4), .val (.int p5), .val (.int p6), .val (.int (1 : Int32)), .val (.int (1 : Int32)), .val (.ref b5), .val (.ref b8), .val (.int (1 : Int32)), .unset] [(.int (1 : Int32)), (.int (1 : Int32))])
        refine o_icmpF X hx 130 (hb hby at_127) rfl (by decide : ¬ (1 : Int32) < (1 : Int32)) ?_
        refine o_aload X hx 132 (hb hby at_130) rfl rfl rfl ?_
        refine o_iloadN X hx 133 (hb hby at_132) rfl rfl ?_
        refine o_iconst X hx 134 (1 : Int32) (hb hby at_133) rfl rfl ?_
        refine o_iand X hx 135 (hb hby at_134) rfl ?_
        have JT0 : ∀ b : Int32, (b = 0 ∨ b = 1) → Wout p e below (Pst s (Q_law Z p1 p2 p3 p4 p5 p6 cs h0 n0) room_1.cells room_1.slots) T (mkF m 143 #[.val (.int p1), .val (.int p2), .val (.int p3), .val (.int p4), .val (.int p5), .val (.int p6), .val (.int (1 : Int32)), .val (.int (1 : Int32)), .val (.ref b5), .val (.ref b8), .val (.int (1 : Int32)), .unset] [(.int b), (.ref b8)]) := by
          intro b hb'
          refine o_callS X hx hZ hown (hw _ (List.mem_of_getElem? (i := 44) rfl)) (hw _ (List.mem_of_getElem? (i := 45) rfl)) (hw _ (List.mem_of_getElem? (i := 46) rfl)) (hw _ (List.mem_of_getElem? (i := 47) rfl)) (by decide) (rm_take l Z a0 hw [] b8 b5 s0 k5 (0 : Int32) (1 : Int32) (1 : Int32) [(.ref s0)] _ b _ n0 Z0 E_b8 F1 F2 V_b5 F3 g_b8 ne_b5_b8 (by decide) rfl (by decide) hb') eT (by decide) 0 (by decide) (by rw [hml]; rfl) [(.ref b8), (.int b)] (rest := []) (lenOf pd_7 rfl) rfl rfl (Nat.le_of_eq rfl) (by decide) (by decide) 146 (hb hby at_143) rfl (fun v T h11 Lc X eT q => ?_)
          obtain ⟨u', rfl, N', K1, E', G1, G2, G3⟩ := q
          replace N := Fr.app N N'
          replace V_b5 := V_b5.keep K1 (ninS ne_b5_b8 nin0)
          replace E_s0 := E_s0.keep K1
          replace Z0 := Nat.le_trans Z0 K1.1
          replace O := O.keep K1 (allS (P := fun x => n0 ≤ x) g_b8 all0)
          replace E_b8 := E'
          replace F1 := G1
          replace F2 := G2
          replace F3 := G3
          show Wout p e below _ T (mkF m 146 #[.val (.int p1), .val (.int p2), .val (.int p3), .val (.int p4), .val (.int p5), .val (.int p6), .val (.int (1 : Int32)), .val (.int (1 : Int32)), .val (.ref b5), .val (.ref b8), .val (.int (1 : Int32)), .unset] [(.ref s0)])
          refine o_astore X hx 148 (Ls' := #[.val (.int p1), .val (.int p2), .val (.int p3), .val (.int p4), .val (.int p5), .val (.int p6), .val (.int (1 : Int32)), .val (.int (1 : Int32)), .val (.ref b5), .val (.ref b8), .val (.int (1 : Int32)), .val (.ref s0)]) (hb hby at_146) rfl rfl rfl ?_
          refine o_iload X hx 150 (hb hby at_148) rfl rfl ?_
          refine o_ifF X hx 153 (hb hby at_150) rfl (by decide : ¬ (1 : Int32) = (0 : Int32)) ?_
          refine o_aload X hx 155 (hb hby at_153) rfl rfl rfl ?_
          refine o_aload X hx 157 (hb hby at_155) rfl rfl rfl ?_
          refine o_iconst X hx 158 (0 : Int32) (hb hby at_157) rfl rfl ?_
          refine o_aaload X hx hZ eT V_b5 rfl ⟨by decide, by decide⟩ (v := (.ref s0)) rfl 159 (hb hby at_158) rfl ?_
          refine o_callV X hx hZ hown (hw _ (List.mem_of_getElem? (i := 54) rfl)) (hw _ (List.mem_of_getElem? (i := 55) rfl)) (hw _ (List.mem_of_getElem? (i := 57) rfl)) (hw _ (List.mem_of_getElem? (i := 56) rfl)) (hw _ (List.mem_of_getElem? (i := 22) rfl)) (hw _ (List.mem_of_getElem? (i := 58) rfl)) (by decide) (rm_seq l Z a0 hw [] s0 _ n0 Z0) eT (by decide) 0 (by decide) (by rw [hml]; rfl) E_s0 [(.ref s0)] (rest := []) (lenOf pd_8 rfl) rfl rfl (Nat.le_of_eq rfl) (by decide) (by decide) 162 (hb hby at_159) rfl (fun v T h12 Lc X eT q => ?_)
          obtain ⟨rfl, N', e'⟩ := q
          replace N := Fr.app N N'
          replace eT := eT.trans e'
          show Wout p e below _ T (mkF m 162 #[.val (.int p1), .val (.int p2), .val (.int p3), .val (.int p4), .val (.int p5), .val (.int p6), .val (.int (1 : Int32)), .val (.int (1 : Int32)), .val (.ref b5), .val (.ref b8), .val (.int (1 : Int32)), .val (.ref s0)] [(.int (1 : Int32))])
          refine o_ifF X hx 165 (hb hby at_162) rfl (by decide : ¬ (1 : Int32) = (0 : Int32)) ?_
          refine o_iconst X hx 166 (1 : Int32) (hb hby at_165) rfl rfl ?_
          refine o_goto X hx 170 (hb hby at_166) rfl ?_
          refine o_istore X hx 172 (Ls' := #[.val (.int p1), .val (.int p2), .val (.int p3), .val (.int p4), .val (.int p5), .val (.int p6), .val (.int (1 : Int32)), .val (.int (1 : Int32)), .val (.ref b5), .val (.ref b8), .val (.int (1 : Int32)), .val (.ref s0)]) (hb hby at_170) rfl rfl ?_
          refine o_iload X hx 174 (hb hby at_172) rfl rfl ?_
          refine o_ifF X hx 177 (hb hby at_174) rfl (by decide : ¬ (1 : Int32) = (0 : Int32)) ?_
          refine o_aload X hx 179 (hb hby at_177) rfl rfl rfl ?_
          refine o_callV X hx hZ hown (hw _ (List.mem_of_getElem? (i := 13) rfl)) (hw _ (List.mem_of_getElem? (i := 14) rfl)) (hw _ (List.mem_of_getElem? (i := 16) rfl)) (hw _ (List.mem_of_getElem? (i := 15) rfl)) (hw _ (List.mem_of_getElem? (i := 4) rfl)) (hw _ (List.mem_of_getElem? (i := 17) rfl)) (by decide) (rm_has0 l Z a0 hw [] b8 b5 k5 (1 : Int32) (1 : Int32) [(.ref s0)] _ n0 Z0 F1 F2 V_b5 (by decide)) eT (by decide) 0 (by decide) (by rw [hml]; rfl) E_b8 [] (rest := []) (lenOf pd_3 rfl) rfl rfl (Nat.le_of_eq rfl) (by decide) (by decide) 182 (hb hby at_179) rfl (fun v T h13 Lc X eT q => ?_)
          obtain ⟨rfl, N', e'⟩ := q
          replace N := Fr.app N N'
          replace eT := eT.trans e'
          show Wout p e below _ T (mkF m 182 #[.val (.int p1), .val (.int p2), .val (.int p3), .val (.int p4), .val (.int p5), .val (.int p6), .val (.int (1 : Int32)), .val (.int (1 : Int32)), .val (.ref b5), .val (.ref b8), .val (.int (1 : Int32)), .val (.ref s0)] [(.int (0 : Int32))])
          refine o_iconst X hx 183 (1 : Int32) (hb hby at_182) rfl rfl ?_
          refine o_iload X hx 185 (hb hby at_183) rfl rfl ?_
          refine o_icmpT X hx 192 (hb hby at_185) rfl (by decide : ¬ (1 : Int32) < (1 : Int32)) ?_
          refine o_iconst X hx 193 (0 : Int32) (hb hby at_192) rfl rfl ?_
          refine o_icmpF X hx 196 (hb hby at_193) rfl (by decide : (0 : Int32) = (0 : Int32)) ?_
          refine o_iconst X hx 197 (1 : Int32) (hb hby at_196) rfl rfl ?_
          refine o_goto X hx 201 (hb hby at_197) rfl ?_
          refine o_istore X hx 203 (Ls' := #[.val (.int p1), .val (.int p2), .val (.int p3), .val (.int p4), .val (.int p5), .val (.int p6), .val (.int (1 : Int32)), .val (.int (1 : Int32)), .val (.ref b5), .val (.ref b8), .val (.int (1 : Int32)), .val (.ref s0)]) (hb hby at_201) rfl rfl ?_
          refine o_iload X hx 205 (hb hby at_203) rfl rfl ?_
          refine o_iconst X hx 206 (2 : Int32) (hb hby at_205) rfl rfl ?_
          refine o_icmpT X hx 282 (hb hby at_206) rfl (by decide : (1 : Int32) < (2 : Int32)) ?_
          refine o_iload X hx 284 (hb hby at_282) rfl rfl ?_
          refine o_iconst X hx 285 (3 : Int32) (hb hby at_284) rfl rfl ?_
          refine o_icmpT X hx 361 (hb hby at_285) rfl (by decide : (1 : Int32) < (3 : Int32)) ?_
          refine o_iload X hx 363 (hb hby at_361) rfl rfl ?_
          exact o_retI X hx hlk hret rfl (by simp) (hb hby at_363) (by decide) (by decide) (by rw [eT]; exact ⟨rfl, N, trivial⟩)
        refine o_if X hx 142 138 (hb hby at_135) rfl rfl (fun (qm : (p3 &&& (1 : Int32)) = (0 : Int32)) => ?_) (fun (qm : ¬ (p3 &&& (1 : Int32)) = (0 : Int32)) => ?_)
        · show Wout p e below _ T (mkF m 142 #[.val (.int p1), .val (.int p2), .val (.int p3), .val (.int p4), .val (.int p5), .val (.int p6), .val (.int (1 : Int32)), .val (.int (1 : Int32)), .val (.ref b5), .val (.ref b8), .val (.int (1 : Int32)), .unset] [(.ref b8)])
          refine o_iconst X hx 143 (0 : Int32) (hb hby at_142) rfl rfl ?_
          exact JT0 _ (Or.inl rfl)
        · show Wout p e below _ T (mkF m 138 #[.val (.int p1), .val (.int p2), .val (.int p3), .val (.int p4), .val (.int p5), .val (.int p6), .val (.int (1 : Int32)), .val (.int (1 : Int32)), .val (.ref b5), .val (.ref b8), .val (.int (1 : Int32)), .unset] [(.ref b8)])
          refine o_iconst X hx 139 (1 : Int32) (hb hby at_138) rfl rfl ?_
          refine o_goto X hx 143 (hb hby at_139) rfl ?_
          exact JT0 _ (Or.inr rfl)
    rcases hk with rfl | rfl | rfl | rfl
    · show Wout p e below _ T (mkF m 10 #[.val (.int p1), .val (.int p2), .val (.int p3), .val (.int p4), .val (.int p5), .val (.int p6), .val (.int (1 : Int32)), .val (.int (0 : Int32)), .unset, .unset, .unset, .unset] [])
      refine o_iload X hx 12 (hb hby at_10) rfl rfl ?_
      refine o_iload X hx 14 (hb hby at_12) rfl rfl ?_
      refine o_icmpT X hx 21 (hb hby at_14) rfl (by decide : ¬ (1 : Int32) < (0 : Int32)) ?_
      exact J _ (by decide)
    · show Wout p e below _ T (mkF m 10 #[.val (.int p1), .val (.int p2), .val (.int p3), .val (.int p4), .val (.int p5), .val (.int p6), .val (.int (1 : Int32)), .val (.int (1 : Int32)), .unset, .unset, .unset, .unset] [])
      refine o_iload X hx 12 (hb hby at_10) rfl rfl ?_
      refine o_iload X hx 14 (hb hby at_12) rfl rfl ?_
      refine o_icmpT X hx 21 (hb hby at_14) rfl (by decide : ¬ (1 : Int32) < (1 : Int32)) ?_
      exact J _ (by decide)
    · show Wout p e below _ T (mkF m 10 #[.val (.int p1), .val (.int p2), .val (.int p3), .val (.int p4), .val (.int p5), .val (.int p6), .val (.int (1 : Int32)), .val (.int (2 : Int32)), .unset, .unset, .unset, .unset] [])
      refine o_iload X hx 12 (hb hby at_10) rfl rfl ?_
      refine o_iload X hx 14 (hb hby at_12) rfl rfl ?_
      refine o_icmpF X hx 17 (hb hby at_14) rfl (by decide : (1 : Int32) < (2 : Int32)) ?_
      refine o_iload X hx 19 (hb hby at_17) rfl rfl ?_
      refine o_istore X hx 21 (Ls' := #[.val (.int p1), .val (.int p2), .val (.int p3), .val (.int p4), .val (.int p5), .val (.int p6), .val (.int (1 : Int32)), .val (.int (1 : Int32)), .unset, .unset, .unset, .unset]) (hb hby at_19) rfl rfl ?_
      exact J _ (by decide)
    · show Wout p e below _ T (mkF m 10 #[.val (.int p1), .val (.int p2), .val (.int p3), .val (.int p4), .val (.int p5), .val (.int p6), .val (.int (1 : Int32)), .val (.int (3 : Int32)), .unset, .unset, .unset, .unset] [])
      refine o_iload X hx 12 (hb hby at_10) rfl rfl ?_
      refine o_iload X hx 14 (hb hby at_12) rfl rfl ?_
      refine o_icmpF X hx 17 (hb hby at_14) rfl (by decide : (1 : Int32) < (3 : Int32)) ?_
      refine o_iload X hx 19 (hb hby at_17) rfl rfl ?_
      refine o_istore X hx 21 (Ls' := #[.val (.int p1), .val (.int p2), .val (.int p3), .val (.int p4), .val (.int p5), .val (.int p6), .val (.int (1 : Int32)), .val (.int (1 : Int32)), .unset, .unset, .unset, .unset]) (hb hby at_19) rfl rfl ?_
      exact J _ (by decide)
  · show Wout p e below _ T (mkF m 8 #[.val (.int p1), .val (.int p2), .val (.int p3), .val (.int p4), .val (.int p5), .val (.int p6), .val (.int (2 : Int32)), .unset, .unset, .unset, .unset, .unset] [(.int kk)])
    refine o_istore X hx 10 (Ls' := #[.val (.int p1), .val (.int p2), .val (.int p3), .val (.int p4), .val (.int p5), .val (.int p6), .val (.int (2 : Int32)), .val (.int kk), .unset, .unset, .unset, .unset]) (hb hby at_8) rfl rfl ?_
    have J : ∀ k : Int32, (k = 0 ∨ k = 1 ∨ k = 2) → Wout p e below (Pst s (Q_law Z p1 p2 p3 p4 p5 p6 cs h0 n0) room_1.cells room_1.slots) T (mkF m 21 #[.val (.int p1), .val (.int p2), .val (.int p3), .val (.int p4), .val (.int p5), .val (.int p6), .val (.int (2 : Int32)), .val (.int k), .unset, .unset, .unset, .unset] []) := by
      intro k hk'
      refine o_iload X hx 23 (hb hby at_21) rfl rfl ?_
      refine o_anewarray X hx hZ hown (hw _ (List.mem_of_getElem? (i := 0) rfl)) (hw _ (List.mem_of_getElem? (i := 1) rfl)) eT 26 (hb hby at_23) rfl (by decide) 2 (by decide) (by decide) (by decide) (by decide) (fun T h14 b14 k14 hb14 X eT E A Ov14 => ?_)
      have g_b14 : n0 ≤ b14 := Nat.le_trans Z0 (Nat.le_of_eq hb14.symm)
      replace Z0 := Nat.le_trans Z0 E.1
      replace O := O.ext E
      have V_b14 : Arv Z h14 b14 k14 (.object "java/lang/String") (2 : Int32) [.null, .null] .null := A.pad (pad_rep [] .null 2)
      refine o_astore X hx 28 (Ls' := #[.val (.int p1), .val (.int p2), .val (.int p3), .val (.int p4), .val (.int p5), .val (.int p6), .val (.int (2 : Int32)), .val (.int k), .val (.ref b14), .unset, .unset, .unset]) (hb hby at_26) rfl rfl rfl ?_
      refine o_iload X hx 30 (hb hby at_28) rfl rfl ?_
      refine o_iconst X hx 31 (1 : Int32) (hb hby at_30) rfl rfl ?_
      refine o_icmpF X hx 34 (hb hby at_31) rfl (by decide : ¬ (2 : Int32) < (1 : Int32)) ?_
      refine o_aload X hx 36 (hb hby at_34) rfl rfl rfl ?_
      refine o_iconst X hx 37 (0 : Int32) (hb hby at_36) rfl rfl ?_
      refine o_iloadN X hx 38 (hb hby at_37) rfl rfl ?_
      refine o_sipush X hx 41 (255 : Int32) (hb hby at_38) rfl rfl ?_
      refine o_iand X hx 42 (hb hby at_41) rfl ?_
      refine o_i2c X hx 43 (hb hby at_42) rfl ?_
      refine o_callS X hx hZ hown (hw _ (List.mem_of_getElem? (i := 20) rfl)) (hw _ (List.mem_of_getElem? (i := 21) rfl)) (hw _ (List.mem_of_getElem? (i := 22) rfl)) (hw _ (List.mem_of_getElem? (i := 23) rfl)) (by decide) (rm_vof l Z a0 hw [] (p4 &&& (255 : Int32)).toUInt32.toUInt16.toUInt32.toInt32 cs _ n0 Z0 (SC.ext O.2) hcs (own_c255 p4)) eT (by decide) 2 (by decide) (by rw [hml]; rfl) [(.int (((p4 &&& (255 : Int32))).toUInt32.toUInt16.toUInt32.toInt32))] (rest := [(.int (0 : Int32)), (.ref b14)]) (lenOf pd_6 rfl) rfl rfl (Nat.le_of_eq rfl) (by decide) (by decide) 46 (hb hby at_43) rfl (fun v T h15 Lc X eT q => ?_)
      obtain ⟨s0, rfl, N', K1, E_s0⟩ := q
      replace N := Fr.app N N'
      replace V_b14 := V_b14.keep K1 nin0
      replace Z0 := Nat.le_trans Z0 K1.1
      replace O := O.keep K1 all0
      show Wout p e below _ T (mkF m 46 #[.val (.int p1), .val (.int p2), .val (.int p3), .val (.int p4), .val (.int p5), .val (.int p6), .val (.int (2 : Int32)), .val (.int k), .val (.ref b14), .unset, .unset, .unset] [(.ref s0), (.int (0 : Int32)), (.ref b14)])
      refine o_aastore X hx hZ eT V_b14 rfl ⟨by decide, by decide⟩ 0 rfl (Nat.le_of_ble_eq_true rfl) (vs' := [(.ref s0), .null]) rfl rfl (Sto.arv V_b14 Ov14 (Ins.self E_s0)) N g_b14 47 (hb hby at_46) rfl (fun T h16 locs X eT W V' N => ?_)
      replace E_s0 := E_s0.wr W
      replace Z0 := Nat.le_trans Z0 (Keep.of_wr W).1
      replace O := O.wr W g_b14
      replace V_b14 := V'
      refine o_iload X hx 49 (hb hby at_47) rfl rfl ?_
      refine o_iconst X hx 50 (2 : Int32) (hb hby at_49) rfl rfl ?_
      refine o_icmpF X hx 53 (hb hby at_50) rfl (by decide : ¬ (2 : Int32) < (2 : Int32)) ?_
      refine o_aload X hx 55 (hb hby at_53) rfl rfl rfl ?_
      refine o_iconst X hx 56 (1 : Int32) (hb hby at_55) rfl rfl ?_
      refine o_iload X hx 58 (hb hby at_56) rfl rfl ?_
      refine o_sipush X hx 61 (255 : Int32) (hb hby at_58) rfl rfl ?_
      refine o_iand X hx 62 (hb hby at_61) rfl ?_
      refine o_i2c X hx 63 (hb hby at_62) rfl ?_
      refine o_callS X hx hZ hown (hw _ (List.mem_of_getElem? (i := 20) rfl)) (hw _ (List.mem_of_getElem? (i := 21) rfl)) (hw _ (List.mem_of_getElem? (i := 22) rfl)) (hw _ (List.mem_of_getElem? (i := 23) rfl)) (by decide) (rm_vof l Z a0 hw [] (p5 &&& (255 : Int32)).toUInt32.toUInt16.toUInt32.toInt32 cs _ n0 Z0 (SC.ext O.2) hcs (own_c255 p5)) eT (by decide) 2 (by decide) (by rw [hml]; rfl) [(.int (((p5 &&& (255 : Int32))).toUInt32.toUInt16.toUInt32.toInt32))] (rest := [(.int (1 : Int32)), (.ref b14)]) (lenOf pd_6 rfl) rfl rfl (Nat.le_of_eq rfl) (by decide) (by decide) 66 (hb hby at_63) rfl (fun v T h17 Lc X eT q => ?_)
      obtain ⟨s1, rfl, N', K1, E_s1⟩ := q
      replace N := Fr.app N N'
      replace V_b14 := V_b14.keep K1 nin0
      replace E_s0 := E_s0.keep K1
      replace Z0 := Nat.le_trans Z0 K1.1
      replace O := O.keep K1 all0
      show Wout p e below _ T (mkF m 66 #[.val (.int p1), .val (.int p2), .val (.int p3), .val (.int p4), .val (.int p5), .val (.int p6), .val (.int (2 : Int32)), .val (.int k), .val (.ref b14), .unset, .unset, .unset] [(.ref s1), (.int (1 : Int32)), (.ref b14)])
      refine o_aastore X hx hZ eT V_b14 rfl ⟨by decide, by decide⟩ 1 rfl (Nat.le_of_ble_eq_true rfl) (vs' := [(.ref s0), (.ref s1)]) rfl rfl (Sto.arv V_b14 Ov14 (Ins.self E_s1)) N g_b14 67 (hb hby at_66) rfl (fun T h18 locs X eT W V' N => ?_)
      replace E_s0 := E_s0.wr W
      replace E_s1 := E_s1.wr W
      replace Z0 := Nat.le_trans Z0 (Keep.of_wr W).1
      replace O := O.wr W g_b14
      replace V_b14 := V'
      refine o_iload X hx 69 (hb hby at_67) rfl rfl ?_
      refine o_iconst X hx 70 (3 : Int32) (hb hby at_69) rfl rfl ?_
      refine o_icmpT X hx 87 (hb hby at_70) rfl (by decide : (2 : Int32) < (3 : Int32)) ?_
      refine o_new X hx hZ hown (hw _ (List.mem_of_getElem? (i := 2) rfl)) (hw _ (List.mem_of_getElem? (i := 3) rfl)) (hw _ (List.mem_of_getElem? (i := 4) rfl)) eT 90 (hb hby at_87) rfl (by decide) (by decide) (fun T h19 b19 hb19 X eT E A D => ?_)
      have ne_b14_b19 : b14 ≠ b19 := Nat.ne_of_lt (Nat.lt_of_lt_of_eq V_b14.lt hb19.symm)
      have ne_s0_b19 : s0 ≠ b19 := Nat.ne_of_lt (Nat.lt_of_lt_of_eq E_s0.lt hb19.symm)
      have ne_s1_b19 : s1 ≠ b19 := Nat.ne_of_lt (Nat.lt_of_lt_of_eq E_s1.lt hb19.symm)
      have g_b19 : n0 ≤ b19 := Nat.le_trans Z0 (Nat.le_of_eq hb19.symm)
      replace V_b14 := V_b14.ext E
      replace E_s0 := E_s0.ext E
      replace E_s1 := E_s1.ext E
      replace Z0 := Nat.le_trans Z0 E.1
      replace O := O.ext E
      have E_b19 := A
      have F__args_b19 : Fld Z h19 b19 "com/example/varasto/varasto/util/OptionReader" "_args" "[Ljava/lang/String;" .null := D (Or.inr (hw _ (List.mem_of_getElem? (i := 12) rfl))) (ty := (.array (.object "java/lang/String"))) (by decide)
      have F__next_b19 : Fld Z h19 b19 "com/example/varasto/varasto/util/OptionReader" "_next" "I" (.int (0 : Int32)) := D (Or.inl (hw _ (List.mem_of_getElem? (i := 19) rfl))) (ty := .int) (by decide)
      have F__option_b19 : Fld Z h19 b19 "com/example/varasto/varasto/util/OptionReader" "_option" "Ljava/lang/String;" .null := D (Or.inl (hw _ (List.mem_of_getElem? (i := 65) rfl))) (ty := (.object "java/lang/String")) (by decide)
      refine o_dup X hx 91 (hb hby at_90) rfl rfl ?_
      refine o_aload X hx 93 (hb hby at_91) rfl rfl rfl ?_
      refine o_callI X hx hZ rfl hown (hw _ (List.mem_of_getElem? (i := 5) rfl)) (hw _ (List.mem_of_getElem? (i := 6) rfl)) (hw _ (List.mem_of_getElem? (i := 4) rfl)) (hw _ (List.mem_of_getElem? (i := 7) rfl)) (by decide) (rm_oin l Z a0 hw [] b19 b14 _ _ n0 Z0 E_b19 F__args_b19 F__next_b19 F__option_b19 g_b19) eT (by decide) 1 (by decide) (by rw [hml]; rfl) [(.ref b14)] (rest := [(.ref b19)]) (lenOf pd_5 rfl) rfl rfl (Nat.le_of_eq rfl) (by decide) (by decide) 96 (hb hby at_93) rfl (fun v T h20 Lc X eT q => ?_)
      obtain ⟨rfl, N', K1, E', G1, G2, G3⟩ := q
      replace N := Fr.app N N'
      replace V_b14 := V_b14.keep K1 (ninS ne_b14_b19 nin0)
      replace E_s0 := E_s0.keep K1
      replace E_s1 := E_s1.keep K1
      replace Z0 := Nat.le_trans Z0 K1.1
      replace O := O.keep K1 (allS (P := fun x => n0 ≤ x) g_b19 all0)
      replace E_b19 := E'
      have F1 := G1
      have F2 := G2
      have F3 := G3
      show Wout p e below _ T (mkF m 96 #[.val (.int p1), .val (.int p2), .val (.int p3), .val (.int p4), .val (.int p5), .val (.int p6), .val (.int (2 : Int32)), .val (.int k), .val (.ref b14), .unset, .unset, .unset] [(.ref b19)])
      refine o_astore X hx 98 (Ls' := #[.val (.int p1), .val (.int p2), .val (.int p3), .val (.int p4), .val (.int p5), .val (.int p6), .val (.int (2 : Int32)), .val (.int k), .val (.ref b14), .val (.ref b19), .unset, .unset]) (hb hby at_96) rfl rfl rfl ?_
      refine o_aload X hx 100 (hb hby at_98) rfl rfl rfl ?_
      refine o_callV X hx hZ hown (hw _ (List.mem_of_getElem? (i := 13) rfl)) (hw _ (List.mem_of_getElem? (i := 14) rfl)) (hw _ (List.mem_of_getElem? (i := 16) rfl)) (hw _ (List.mem_of_getElem? (i := 15) rfl)) (hw _ (List.mem_of_getElem? (i := 4) rfl)) (hw _ (List.mem_of_getElem? (i := 17) rfl)) (by decide) (rm_has1 l Z a0 hw [] b19 b14 k14 (0 : Int32) (2 : Int32) [(.ref s0), (.ref s1)] _ n0 Z0 F1 F2 V_b14 (by decide)) eT (by decide) 0 (by decide) (by rw [hml]; rfl) E_b19 [] (rest := []) (lenOf pd_3 rfl) rfl rfl (Nat.le_of_eq rfl) (by decide) (by decide) 103 (hb hby at_100) rfl (fun v T h21 Lc X eT q => ?_)
      obtain ⟨rfl, N', e'⟩ := q
      replace N := Fr.app N N'
      replace eT := eT.trans e'
      show Wout p e below _ T (mkF m 103 #[.val (.int p1), .val (.int p2), .val (.int p3), .val (.int p4), .val (.int p5), .val (.int p6), .val (.int (2 : Int32)), .val (.int k), .val (.ref b14), .val (.ref b19), .unset, .unset] [(.int (1 : Int32))])
      refine o_iconst X hx 104 (0 : Int32) (hb hby at_103) rfl rfl ?_
      refine o_iload X hx 106 (hb hby at_104) rfl rfl ?_
      refine o_icmpF X hx 109 (hb hby at_106) rfl (by decide : (0 : Int32) < (2 : Int32)) ?_
      refine o_iconst X hx 110 (1 : Int32) (hb hby at_109) rfl rfl ?_
      refine o_goto X hx 114 (hb hby at_110) rfl ?_
      refine o_icmpF X hx 117 (hb hby at_114) rfl (by decide : (1 : Int32) = (1 : Int32)) ?_
      refine o_iconst X hx 118 (1 : Int32) (hb hby at_117) rfl rfl ?_
      refine o_goto X hx 122 (hb hby at_118) rfl ?_
      refine o_istore X hx 124 (Ls' := #[.val (.int p1), .val (.int p2), .val (.int p3), .val (.int p4), .val (.int p5), .val (.int p6), .val (.int (2 : Int32)), .val (.int k), .val (.ref b14), .val (.ref b19), .val (.int (1 : Int32)), .unset]) (hb hby at_122) rfl rfl ?_
      refine o_iload X hx 126 (hb hby at_124) rfl rfl ?_
      refine o_iconst X hx 127 (1 : Int32) (hb hby at_126) rfl rfl ?_
      rcases hk' with rfl | rfl | rfl
      · show Wout p e below _ T (mkF m 127 #[.val (.int p1), .val (.int p2), .val (.int p3), .val (.int p4), .val (.int p5), .val (.int p6), .val (.int (2 : Int32)), .val (.int (0 : Int32)), .val (.ref b14), .val (.ref b19), .val (.int (1 : Int32)), .unset] [(.int (1 : Int32)), (.int (0 : Int32))])
        refine o_icmpT X hx 203 (hb hby at_127) rfl (by decide : (0 : Int32) < (1 : Int32)) ?_
        refine o_iload X hx 205 (hb hby at_203) rfl rfl ?_
        refine o_iconst X hx 206 (2 : Int32) (hb hby at_205) rfl rfl ?_
        refine o_icmpT X hx 282 (hb hby at_206) rfl (by decide : (0 : Int32) < (2 : Int32)) ?_
        refine o_iload X hx 284 (hb hby at_282) rfl rfl ?_
        refine o_iconst X hx 285 (3 : Int32) (hb hby at_284) rfl rfl ?_
        refine o_icmpT X hx 361 (hb hby at_285) rfl (by decide : (0 : Int32) < (3 : Int32)) ?_
        refine o_iload X hx 363 (hb hby at_361) rfl rfl ?_
        exact o_retI X hx hlk hret rfl (by simp) (hb hby at_363) (by decide) (by decide) (by rw [eT]; exact ⟨rfl, N, trivial⟩)
      · show Wout p e below _ T (mkF m 127 #[.val (.int p1), .val (.int p2), .val (.int p3), .val (.int p4), .val (.int p5), .val (.int p6), .val (.int (2 : Int32)), .val (.int (1 : Int32)), .val (.ref b14), .val (.ref b19), .val (.int (1 : Int32)), .unset] [(.int (1 : Int32)), (.int (1 : Int32))])
        refine o_icmpF X hx 130 (hb hby at_127) rfl (by decide : ¬ (1 : Int32) < (1 : Int32)) ?_
        refine o_aload X hx 132 (hb hby at_130) rfl rfl rfl ?_
        refine o_iloadN X hx 133 (hb hby at_132) rfl rfl ?_
        refine o_iconst X hx 134 (1 : Int32) (hb hby at_133) rfl rfl ?_
        refine o_iand X hx 135 (hb hby at_134) rfl ?_
        have JT0 : ∀ b : Int32, (b = 0 ∨ b = 1) → Wout p e below (Pst s (Q_law Z p1 p2 p3 p4 p5 p6 cs h0 n0) room_1.cells room_1.slots) T (mkF m 143 #[.val (.int p1), .val (.int p2), .val (.int p3), .val (.int p4), .val (.int p5), .val (.int p6), .val (.int (2 : Int32)), .val (.int (1 : Int32)), .val (.ref b14), .val (.ref b19), .val (.int (1 : Int32)), .unset] [(.int b), (.ref b19)]) := by
          intro b hb'
          refine o_callS X hx hZ hown (hw _ (List.mem_of_getElem? (i := 44) rfl)) (hw _ (List.mem_of_getElem? (i := 45) rfl)) (hw _ (List.mem_of_getElem? (i := 46) rfl)) (hw _ (List.mem_of_getElem? (i := 47) rfl)) (by decide) (rm_take l Z a0 hw [] b19 b14 s0 k14 (0 : Int32) (1 : Int32) (2 : Int32) [(.ref s0), (.ref s1)] _ b _ n0 Z0 E_b19 F1 F2 V_b14 F3 g_b19 ne_b14_b19 (by decide) rfl (by decide) hb') eT (by decide) 0 (by decide) (by rw [hml]; rfl) [(.ref b19), (.int b)] (rest := []) (lenOf pd_7 rfl) rfl rfl (Nat.le_of_eq rfl) (by decide) (by decide) 146 (hb hby at_143) rfl (fun v T h22 Lc X eT q => ?_)
          obtain ⟨u', rfl, N', K1, E', G1, G2, G3⟩ := q
          replace N := Fr.app N N'
          replace V_b14 := V_b14.keep K1 (ninS ne_b14_b19 nin0)
          replace E_s0 := E_s0.keep K1
          replace E_s1 := E_s1.keep K1
          replace Z0 := Nat.le_trans Z0 K1.1
          replace O := O.keep K1 (allS (P := fun x => n0 ≤ x) g_b19 all0)
          replace E_b19 := E'
          replace F1 := G1
          replace F2 := G2
          replace F3 := G3
          show Wout p e below _ T (mkF m 146 #[.val (.int p1), .val (.int p2), .val (.int p3), .val (.int p4), .val (.int p5), .val (.int p6), .val (.int (2 : Int32)), .val (.int (1 : Int32)), .val (.ref b14), .val (.ref b19), .val (.int (1 : Int32)), .unset] [(.ref s0)])
          refine o_astore X hx 148 (Ls' := #[.val (.int p1), .val (.int p2), .val (.int p3), .val (.int p4), .val (.int p5), .val (.int p6), .val (.int (2 : Int32)), .val (.int (1 : Int32)), .val (.ref b14), .val (.ref b19), .val (.int (1 : Int32)), .val (.ref s0)]) (hb hby at_146) rfl rfl rfl ?_
          refine o_iload X hx 150 (hb hby at_148) rfl rfl ?_
          refine o_ifF X hx 153 (hb hby at_150) rfl (by decide : ¬ (1 : Int32) = (0 : Int32)) ?_
          refine o_aload X hx 155 (hb hby at_153) rfl rfl rfl ?_
          refine o_aload X hx 157 (hb hby at_155) rfl rfl rfl ?_
          refine o_iconst X hx 158 (0 : Int32) (hb hby at_157) rfl rfl ?_
          refine o_aaload X hx hZ eT V_b14 rfl ⟨by decide, by decide⟩ (v := (.ref s0)) rfl 159 (hb hby at_158) rfl ?_
          refine o_callV X hx hZ hown (hw _ (List.mem_of_getElem? (i := 54) rfl)) (hw _ (List.mem_of_getElem? (i := 55) rfl)) (hw _ (List.mem_of_getElem? (i := 57) rfl)) (hw _ (List.mem_of_getElem? (i := 56) rfl)) (hw _ (List.mem_of_getElem? (i := 22) rfl)) (hw _ (List.mem_of_getElem? (i := 58) rfl)) (by decide) (rm_seq l Z a0 hw [] s0 _ n0 Z0) eT (by decide) 0 (by decide) (by rw [hml]; rfl) E_s0 [(.ref s0)] (rest := []) (lenOf pd_8 rfl) rfl rfl (Nat.le_of_eq rfl) (by decide) (by decide) 162 (hb hby at_159) rfl (fun v T h23 Lc X eT q => ?_)
          obtain ⟨rfl, N', e'⟩ := q
          replace N := Fr.app N N'
          replace eT := eT.trans e'
          show Wout p e below _ T (mkF m 162 #[.val (.int p1), .val (.int p2), .val (.int p3), .val (.int p4), .val (.int p5), .val (.int p6), .val (.int (2 : Int32)), .val (.int (1 : Int32)), .val (.ref b14), .val (.ref b19), .val (.int (1 : Int32)), .val (.ref s0)] [(.int (1 : Int32))])
          refine o_ifF X hx 165 (hb hby at_162) rfl (by decide : ¬ (1 : Int32) = (0 : Int32)) ?_
          refine o_iconst X hx 166 (1 : Int32) (hb hby at_165) rfl rfl ?_
          refine o_goto X hx 170 (hb hby at_166) rfl ?_
          refine o_istore X hx 172 (Ls' := #[.val (.int p1), .val (.int p2), .val (.int p3), .val (.int p4), .val (.int p5), .val (.int p6), .val (.int (2 : Int32)), .val (.int (1 : Int32)), .val (.ref b14), .val (.ref b19), .val (.int (1 : Int32)), .val (.ref s0)]) (hb hby at_170) rfl rfl ?_
          refine o_iload X hx 174 (hb hby at_172) rfl rfl ?_
          refine o_ifF X hx 177 (hb hby at_174) rfl (by decide : ¬ (1 : Int32) = (0 : Int32)) ?_
          refine o_aload X hx 179 (hb hby at_177) rfl rfl rfl ?_
          refine o_callV X hx hZ hown (hw _ (List.mem_of_getElem? (i := 13) rfl)) (hw _ (List.mem_of_getElem? (i := 14) rfl)) (hw _ (List.mem_of_getElem? (i := 16) rfl)) (hw _ (List.mem_of_getElem? (i := 15) rfl)) (hw _ (List.mem_of_getElem? (i := 4) rfl)) (hw _ (List.mem_of_getElem? (i := 17) rfl)) (by decide) (rm_has1 l Z a0 hw [] b19 b14 k14 (1 : Int32) (2 : Int32) [(.ref s0), (.ref s1)] _ n0 Z0 F1 F2 V_b14 (by decide)) eT (by decide) 0 (by decide) (by rw [hml]; rfl) E_b19 [] (rest := []) (lenOf pd_3 rfl) rfl rfl (Nat.le_of_eq rfl) (by decide) (by decide) 182 (hb hby at_179) rfl (fun v T h24 Lc X eT q => ?_)
          obtain ⟨rfl, N', e'⟩ := q
          replace N := Fr.app N N'
          replace eT := eT.trans e'
          show Wout p e below _ T (mkF m 182 #[.val (.int p1), .val (.int p2), .val (.int p3), .val (.int p4), .val (.int p5), .val (.int p6), .val (.int (2 : Int32)), .val (.int (1 : Int32)), .val (.ref b14), .val (.ref b19), .val (.int (1 : Int32)), .val (.ref s0)] [(.int (1 : Int32))])
          refine o_iconst X hx 183 (1 : Int32) (hb hby at_182) rfl rfl ?_
          refine o_iload X hx 185 (hb hby at_183) rfl rfl ?_
          refine o_icmpF X hx 188 (hb hby at_185) rfl (by decide : (1 : Int32) < (2 : Int32)) ?_
          refine o_iconst X hx 189 (1 : Int32) (hb hby at_188) rfl rfl ?_
          refine o_goto X hx 193 (hb hby at_189) rfl ?_
          refine o_icmpF X hx 196 (hb hby at_193) rfl (by decide : (1 : Int32) = (1 : Int32)) ?_
          refine o_iconst X hx 197 (1 : Int32) (hb hby at_196) rfl rfl ?_
          refine o_goto X hx 201 (hb hby at_197) rfl ?_
          refine o_istore X hx 203 (Ls' := #[.val (.int p1), .val (.int p2), .val (.int p3), .val (.int p4), .val (.int p5), .val (.int p6), .val (.int (2 : Int32)), .val (.int (1 : Int32)), .val (.ref b14), .val (.ref b19), .val (.int (1 : Int32)), .val (.ref s0)]) (hb hby at_201) rfl rfl ?_
          refine o_iload X hx 205 (hb hby at_203) rfl rfl ?_
          refine o_iconst X hx 206 (2 : Int32) (hb hby at_205) rfl rfl ?_
          refine o_icmpT X hx 282 (hb hby at_206) rfl (by decide : (1 : Int32) < (2 : Int32)) ?_
          refine o_iload X hx 284 (hb hby at_282) rfl rfl ?_
          refine o_iconst X hx 285 (3 : Int32) (hb hby at_284) rfl rfl ?_
          refine o_icmpT X hx 361 (hb hby at_285) rfl (by decide : (1 : Int32) < (3 : Int32)) ?_
          refine o_iload X hx 363 (hb hby at_361) rfl rfl ?_
          exact o_retI X hx hlk hret rfl (by simp) (hb hby at_363) (by decide) (by decide) (by rw [eT]; exact ⟨rfl, N, trivial⟩)
        refine o_if X hx 142 138 (hb hby at_135) rfl rfl (fun (qm : (p3 &&& (1 : Int32)) = (0 : Int32)) => ?_) (fun (qm : ¬ (p3 &&& (1 : Int32)) = (0 : Int32)) => ?_)
        · show Wout p e below _ T (mkF m 142 #[.val (.int p1), .val (.int p2), .val (.int p3), .val (.int p4), .val (.int p5), .val (.int p6), .val (.int (2 : Int32)), .val (.int (1 : Int32)), .val (.ref b14), .val (.ref b19), .val (.int (1 : Int32)), .unset] [(.ref b19)])
          refine o_iconst X hx 143 (0 : Int32) (hb hby at_142) rfl rfl ?_
          exact JT0 _ (Or.inl rfl)
        · show Wout p e below _ T (mkF m 138 #[.val (.int p1), .val (.int p2), .val (.int p3), .val (.int p4), .val (.int p5), .val (.int p6), .val (.int (2 : Int32)), .val (.int (1 : Int32)), .val (.ref b14), .val (.ref b19), .val (.int (1 : Int32)), .unset] [(.ref b19)])
          refine o_iconst X hx 139 (1 : Int32) (hb hby at_138) rfl rfl ?_
          refine o_goto X hx 143 (hb hby at_139) rfl ?_
          exact JT0 _ (Or.inr rfl)
      · show Wout p e below _ T (mkF m 127 #[.val (.int p1), .val (.int p2), .val (.int p3), .val (.int p4), .val (.int p5), .val (.int p6), .val (.int (2 : Int32)), .val (.int (2 : Int32)), .val (.ref b14), .val (.ref b19), .val (.int (1 : Int32)), .unset] [(.int (1 : Int32)), (.int (2 : Int32))])
        refine o_icmpF X hx 130 (hb hby at_127) rfl (by decide : ¬ (2 : Int32) < (1 : Int32)) ?_
        refine o_aload X hx 132 (hb hby at_130) rfl rfl rfl ?_
        refine o_iloadN X hx 133 (hb hby at_132) rfl rfl ?_
        refine o_iconst X hx 134 (1 : Int32) (hb hby at_133) rfl rfl ?_
        refine o_iand X hx 135 (hb hby at_134) rfl ?_
        have JT0 : ∀ b : Int32, (b = 0 ∨ b = 1) → Wout p e below (Pst s (Q_law Z p1 p2 p3 p4 p5 p6 cs h0 n0) room_1.cells room_1.slots) T (mkF m 143 #[.val (.int p1), .val (.int p2), .val (.int p3), .val (.int p4), .val (.int p5), .val (.int p6), .val (.int (2 : Int32)), .val (.int (2 : Int32)), .val (.ref b14), .val (.ref b19), .val (.int (1 : Int32)), .unset] [(.int b), (.ref b19)]) := by
          intro b hb'
          refine o_callS X hx hZ hown (hw _ (List.mem_of_getElem? (i := 44) rfl)) (hw _ (List.mem_of_getElem? (i := 45) rfl)) (hw _ (List.mem_of_getElem? (i := 46) rfl)) (hw _ (List.mem_of_getElem? (i := 47) rfl)) (by decide) (rm_take l Z a0 hw [] b19 b14 s0 k14 (0 : Int32) (1 : Int32) (2 : Int32) [(.ref s0), (.ref s1)] _ b _ n0 Z0 E_b19 F1 F2 V_b14 F3 g_b19 ne_b14_b19 (by decide) rfl (by decide) hb') eT (by decide) 0 (by decide) (by rw [hml]; rfl) [(.ref b19), (.int b)] (rest := []) (lenOf pd_7 rfl) rfl rfl (Nat.le_of_eq rfl) (by decide) (by decide) 146 (hb hby at_143) rfl (fun v T h25 Lc X eT q => ?_)
          obtain ⟨u', rfl, N', K1, E', G1, G2, G3⟩ := q
          replace N := Fr.app N N'
          replace V_b14 := V_b14.keep K1 (ninS ne_b14_b19 nin0)
          replace E_s0 := E_s0.keep K1
          replace E_s1 := E_s1.keep K1
          replace Z0 := Nat.le_trans Z0 K1.1
          replace O := O.keep K1 (allS (P := fun x => n0 ≤ x) g_b19 all0)
          replace E_b19 := E'
          replace F1 := G1
          replace F2 := G2
          replace F3 := G3
          show Wout p e below _ T (mkF m 146 #[.val (.int p1), .val (.int p2), .val (.int p3), .val (.int p4), .val (.int p5), .val (.int p6), .val (.int (2 : Int32)), .val (.int (2 : Int32)), .val (.ref b14), .val (.ref b19), .val (.int (1 : Int32)), .unset] [(.ref s0)])
          refine o_astore X hx 148 (Ls' := #[.val (.int p1), .val (.int p2), .val (.int p3), .val (.int p4), .val (.int p5), .val (.int p6), .val (.int (2 : Int32)), .val (.int (2 : Int32)), .val (.ref b14), .val (.ref b19), .val (.int (1 : Int32)), .val (.ref s0)]) (hb hby at_146) rfl rfl rfl ?_
          refine o_iload X hx 150 (hb hby at_148) rfl rfl ?_
          refine o_ifF X hx 153 (hb hby at_150) rfl (by decide : ¬ (1 : Int32) = (0 : Int32)) ?_
          refine o_aload X hx 155 (hb hby at_153) rfl rfl rfl ?_
          refine o_aload X hx 157 (hb hby at_155) rfl rfl rfl ?_
          refine o_iconst X hx 158 (0 : Int32) (hb hby at_157) rfl rfl ?_
          refine o_aaload X hx hZ eT V_b14 rfl ⟨by decide, by decide⟩ (v := (.ref s0)) rfl 159 (hb hby at_158) rfl ?_
          refine o_callV X hx hZ hown (hw _ (List.mem_of_getElem? (i := 54) rfl)) (hw _ (List.mem_of_getElem? (i := 55) rfl)) (hw _ (List.mem_of_getElem? (i := 57) rfl)) (hw _ (List.mem_of_getElem? (i := 56) rfl)) (hw _ (List.mem_of_getElem? (i := 22) rfl)) (hw _ (List.mem_of_getElem? (i := 58) rfl)) (by decide) (rm_seq l Z a0 hw [] s0 _ n0 Z0) eT (by decide) 0 (by decide) (by rw [hml]; rfl) E_s0 [(.ref s0)] (rest := []) (lenOf pd_8 rfl) rfl rfl (Nat.le_of_eq rfl) (by decide) (by decide) 162 (hb hby at_159) rfl (fun v T h26 Lc X eT q => ?_)
          obtain ⟨rfl, N', e'⟩ := q
          replace N := Fr.app N N'
          replace eT := eT.trans e'
          show Wout p e below _ T (mkF m 162 #[.val (.int p1), .val (.int p2), .val (.int p3), .val (.int p4), .val (.int p5), .val (.int p6), .val (.int (2 : Int32)), .val (.int (2 : Int32)), .val (.ref b14), .val (.ref b19), .val (.int (1 : Int32)), .val (.ref s0)] [(.int (1 : Int32))])
          refine o_ifF X hx 165 (hb hby at_162) rfl (by decide : ¬ (1 : Int32) = (0 : Int32)) ?_
          refine o_iconst X hx 166 (1 : Int32) (hb hby at_165) rfl rfl ?_
          refine o_goto X hx 170 (hb hby at_166) rfl ?_
          refine o_istore X hx 172 (Ls' := #[.val (.int p1), .val (.int p2), .val (.int p3), .val (.int p4), .val (.int p5), .val (.int p6), .val (.int (2 : Int32)), .val (.int (2 : Int32)), .val (.ref b14), .val (.ref b19), .val (.int (1 : Int32)), .val (.ref s0)]) (hb hby at_170) rfl rfl ?_
          refine o_iload X hx 174 (hb hby at_172) rfl rfl ?_
          refine o_ifF X hx 177 (hb hby at_174) rfl (by decide : ¬ (1 : Int32) = (0 : Int32)) ?_
          refine o_aload X hx 179 (hb hby at_177) rfl rfl rfl ?_
          refine o_callV X hx hZ hown (hw _ (List.mem_of_getElem? (i := 13) rfl)) (hw _ (List.mem_of_getElem? (i := 14) rfl)) (hw _ (List.mem_of_getElem? (i := 16) rfl)) (hw _ (List.mem_of_getElem? (i := 15) rfl)) (hw _ (List.mem_of_getElem? (i := 4) rfl)) (hw _ (List.mem_of_getElem? (i := 17) rfl)) (by decide) (rm_has1 l Z a0 hw [] b19 b14 k14 (1 : Int32) (2 : Int32) [(.ref s0), (.ref s1)] _ n0 Z0 F1 F2 V_b14 (by decide)) eT (by decide) 0 (by decide) (by rw [hml]; rfl) E_b19 [] (rest := []) (lenOf pd_3 rfl) rfl rfl (Nat.le_of_eq rfl) (by decide) (by decide) 182 (hb hby at_179) rfl (fun v T h27 Lc X eT q => ?_)
          obtain ⟨rfl, N', e'⟩ := q
          replace N := Fr.app N N'
          replace eT := eT.trans e'
          show Wout p e below _ T (mkF m 182 #[.val (.int p1), .val (.int p2), .val (.int p3), .val (.int p4), .val (.int p5), .val (.int p6), .val (.int (2 : Int32)), .val (.int (2 : Int32)), .val (.ref b14), .val (.ref b19), .val (.int (1 : Int32)), .val (.ref s0)] [(.int (1 : Int32))])
          refine o_iconst X hx 183 (1 : Int32) (hb hby at_182) rfl rfl ?_
          refine o_iload X hx 185 (hb hby at_183) rfl rfl ?_
          refine o_icmpF X hx 188 (hb hby at_185) rfl (by decide : (1 : Int32) < (2 : Int32)) ?_
          refine o_iconst X hx 189 (1 : Int32) (hb hby at_188) rfl rfl ?_
          refine o_goto X hx 193 (hb hby at_189) rfl ?_
          refine o_icmpF X hx 196 (hb hby at_193) rfl (by decide : (1 : Int32) = (1 : Int32)) ?_
          refine o_iconst X hx 197 (1 : Int32) (hb hby at_196) rfl rfl ?_
          refine o_goto X hx 201 (hb hby at_197) rfl ?_
          refine o_istore X hx 203 (Ls' := #[.val (.int p1), .val (.int p2), .val (.int p3), .val (.int p4), .val (.int p5), .val (.int p6), .val (.int (2 : Int32)), .val (.int (2 : Int32)), .val (.ref b14), .val (.ref b19), .val (.int (1 : Int32)), .val (.ref s0)]) (hb hby at_201) rfl rfl ?_
          refine o_iload X hx 205 (hb hby at_203) rfl rfl ?_
          refine o_iconst X hx 206 (2 : Int32) (hb hby at_205) rfl rfl ?_
          refine o_icmpF X hx 209 (hb hby at_206) rfl (by decide : ¬ (2 : Int32) < (2 : Int32)) ?_
          refine o_aload X hx 211 (hb hby at_209) rfl rfl rfl ?_
          refine o_iloadN X hx 212 (hb hby at_211) rfl rfl ?_
          refine o_iconst X hx 213 (2 : Int32) (hb hby at_212) rfl rfl ?_
          refine o_iand X hx 214 (hb hby at_213) rfl ?_
          have JT1 : ∀ b : Int32, (b = 0 ∨ b = 1) → Wout p e below (Pst s (Q_law Z p1 p2 p3 p4 p5 p6 cs h0 n0) room_1.cells room_1.slots) T (mkF m 222 #[.val (.int p1), .val (.int p2), .val (.int p3), .val (.int p4), .val (.int p5), .val (.int p6), .val (.int (2 : Int32)), .val (.int (2 : Int32)), .val (.ref b14), .val (.ref b19), .val (.int (1 : Int32)), .val (.ref s0)] [(.int b), (.ref b19)]) := by
            intro b hb'
            refine o_callS X hx hZ hown (hw _ (List.mem_of_getElem? (i := 44) rfl)) (hw _ (List.mem_of_getElem? (i := 45) rfl)) (hw _ (List.mem_of_getElem? (i := 46) rfl)) (hw _ (List.mem_of_getElem? (i := 47) rfl)) (by decide) (rm_take l Z a0 hw [] b19 b14 s1 k14 (1 : Int32) (2 : Int32) (2 : Int32) [(.ref s0), (.ref s1)] _ b _ n0 Z0 E_b19 F1 F2 V_b14 F3 g_b19 ne_b14_b19 (by decide) rfl (by decide) hb') eT (by decide) 0 (by decide) (by rw [hml]; rfl) [(.ref b19), (.int b)] (rest := []) (lenOf pd_7 rfl) rfl rfl (Nat.le_of_eq rfl) (by decide) (by decide) 225 (hb hby at_222) rfl (fun v T h28 Lc X eT q => ?_)
            obtain ⟨u', rfl, N', K1, E', G1, G2, G3⟩ := q
            replace N := Fr.app N N'
            replace V_b14 := V_b14.keep K1 (ninS ne_b14_b19 nin0)
            replace E_s0 := E_s0.keep K1
            replace E_s1 := E_s1.keep K1
            replace Z0 := Nat.le_trans Z0 K1.1
            replace O := O.keep K1 (allS (P := fun x => n0 ≤ x) g_b19 all0)
            replace E_b19 := E'
            replace F1 := G1
            replace F2 := G2
            replace F3 := G3
            show Wout p e below _ T (mkF m 225 #[.val (.int p1), .val (.int p2), .val (.int p3), .val (.int p4), .val (.int p5), .val (.int p6), .val (.int (2 : Int32)), .val (.int (2 : Int32)), .val (.ref b14), .val (.ref b19), .val (.int (1 : Int32)), .val (.ref s0)] [(.ref s1)])
            refine o_astore X hx 227 (Ls' := #[.val (.int p1), .val (.int p2), .val (.int p3), .val (.int p4), .val (.int p5), .val (.int p6), .val (.int (2 : Int32)), .val (.int (2 : Int32)), .val (.ref b14), .val (.ref b19), .val (.int (1 : Int32)), .val (.ref s1)]) (hb hby at_225) rfl rfl rfl ?_
            refine o_iload X hx 229 (hb hby at_227) rfl rfl ?_
            refine o_ifF X hx 232 (hb hby at_229) rfl (by decide : ¬ (1 : Int32) = (0 : Int32)) ?_
            refine o_aload X hx 234 (hb hby at_232) rfl rfl rfl ?_
            refine o_aload X hx 236 (hb hby at_234) rfl rfl rfl ?_
            refine o_iconst X hx 237 (1 : Int32) (hb hby at_236) rfl rfl ?_
            refine o_aaload X hx hZ eT V_b14 rfl ⟨by decide, by decide⟩ (v := (.ref s1)) rfl 238 (hb hby at_237) rfl ?_
            refine o_callV X hx hZ hown (hw _ (List.mem_of_getElem? (i := 54) rfl)) (hw _ (List.mem_of_getElem? (i := 55) rfl)) (hw _ (List.mem_of_getElem? (i := 57) rfl)) (hw _ (List.mem_of_getElem? (i := 56) rfl)) (hw _ (List.mem_of_getElem? (i := 22) rfl)) (hw _ (List.mem_of_getElem? (i := 58) rfl)) (by decide) (rm_seq l Z a0 hw [] s1 _ n0 Z0) eT (by decide) 0 (by decide) (by rw [hml]; rfl) E_s1 [(.ref s1)] (rest := []) (lenOf pd_8 rfl) rfl rfl (Nat.le_of_eq rfl) (by decide) (by decide) 241 (hb hby at_238) rfl (fun v T h29 Lc X eT q => ?_)
            obtain ⟨rfl, N', e'⟩ := q
            replace N := Fr.app N N'
            replace eT := eT.trans e'
            show Wout p e below _ T (mkF m 241 #[.val (.int p1), .val (.int p2), .val (.int p3), .val (.int p4), .val (.int p5), .val (.int p6), .val (.int (2 : Int32)), .val (.int (2 : Int32)), .val (.ref b14), .val (.ref b19), .val (.int (1 : Int32)), .val (.ref s1)] [(.int (1 : Int32))])
            refine o_ifF X hx 244 (hb hby at_241) rfl (by decide : ¬ (1 : Int32) = (0 : Int32)) ?_
            refine o_iconst X hx 245 (1 : Int32) (hb hby at_244) rfl rfl ?_
            refine o_goto X hx 249 (hb hby at_245) rfl ?_
            refine o_istore X hx 251 (Ls' := #[.val (.int p1), .val (.int p2), .val (.int p3), .val (.int p4), .val (.int p5), .val (.int p6), .val (.int (2 : Int32)), .val (.int (2 : Int32)), .val (.ref b14), .val (.ref b19), .val (.int (1 : Int32)), .val (.ref s1)]) (hb hby at_249) rfl rfl ?_
            refine o_iload X hx 253 (hb hby at_251) rfl rfl ?_
            refine o_ifF X hx 256 (hb hby at_253) rfl (by decide : ¬ (1 : Int32) = (0 : Int32)) ?_
            refine o_aload X hx 258 (hb hby at_256) rfl rfl rfl ?_
            refine o_callV X hx hZ hown (hw _ (List.mem_of_getElem? (i := 13) rfl)) (hw _ (List.mem_of_getElem? (i := 14) rfl)) (hw _ (List.mem_of_getElem? (i := 16) rfl)) (hw _ (List.mem_of_getElem? (i := 15) rfl)) (hw _ (List.mem_of_getElem? (i := 4) rfl)) (hw _ (List.mem_of_getElem? (i := 17) rfl)) (by decide) (rm_has0 l Z a0 hw [] b19 b14 k14 (2 : Int32) (2 : Int32) [(.ref s0), (.ref s1)] _ n0 Z0 F1 F2 V_b14 (by decide)) eT (by decide) 0 (by decide) (by rw [hml]; rfl) E_b19 [] (rest := []) (lenOf pd_3 rfl) rfl rfl (Nat.le_of_eq rfl) (by decide) (by decide) 261 (hb hby at_258) rfl (fun v T h30 Lc X eT q => ?_)
            obtain ⟨rfl, N', e'⟩ := q
            replace N := Fr.app N N'
            replace eT := eT.trans e'
            show Wout p e below _ T (mkF m 261 #[.val (.int p1), .val (.int p2), .val (.int p3), .val (.int p4), .val (.int p5), .val (.int p6), .val (.int (2 : Int32)), .val (.int (2 : Int32)), .val (.ref b14), .val (.ref b19), .val (.int (1 : Int32)), .val (.ref s1)] [(.int (0 : Int32))])
            refine o_iconst X hx 262 (2 : Int32) (hb hby at_261) rfl rfl ?_
            refine o_iload X hx 264 (hb hby at_262) rfl rfl ?_
            refine o_icmpT X hx 271 (hb hby at_264) rfl (by decide : ¬ (2 : Int32) < (2 : Int32)) ?_
            refine o_iconst X hx 272 (0 : Int32) (hb hby at_271) rfl rfl ?_
            refine o_icmpF X hx 275 (hb hby at_272) rfl (by decide : (0 : Int32) = (0 : Int32)) ?_
            refine o_iconst X hx 276 (1 : Int32) (hb hby at_275) rfl rfl ?_
            refine o_goto X hx 280 (hb hby at_276) rfl ?_
            refine o_istore X hx 282 (Ls' := #[.val (.int p1), .val (.int p2), .val (.int p3), .val (.int p4), .val (.int p5), .val (.int p6), .val (.int (2 : Int32)), .val (.int (2 : Int32)), .val (.ref b14), .val (.ref b19), .val (.int (1 : Int32)), .val (.ref s1)]) (hb hby at_280) rfl rfl ?_
            refine o_iload X hx 284 (hb hby at_282) rfl rfl ?_
            refine o_iconst X hx 285 (3 : Int32) (hb hby at_284) rfl rfl ?_
            refine o_icmpT X hx 361 (hb hby at_285) rfl (by decide : (2 : Int32) < (3 : Int32)) ?_
            refine o_iload X hx 363 (hb hby at_361) rfl rfl ?_
            exact o_retI X hx hlk hret rfl (by simp) (hb hby at_363) (by decide) (by decide) (by rw [eT]; exact ⟨rfl, N, trivial⟩)
          refine o_if X hx 221 217 (hb hby at_214) rfl rfl (fun (qm : (p3 &&& (2 : Int32)) = (0 : Int32)) => ?_) (fun (qm : ¬ (p3 &&& (2 : Int32)) = (0 : Int32)) => ?_)
          · show Wout p e below _ T (mkF m 221 #[.val (.int p1), .val (.int p2), .val (.int p3), .val (.int p4), .val (.int p5), .val (.int p6), .val (.int (2 : Int32)), .val (.int (2 : Int32)), .val (.ref b14), .val (.ref b19), .val (.int (1 : Int32)), .val (.ref s0)] [(.ref b19)])
            refine o_iconst X hx 222 (0 : Int32) (hb hby at_221) rfl rfl ?_
            exact JT1 _ (Or.inl rfl)
          · show Wout p e below _ T (mkF m 217 #[.val (.int p1), .val (.int p2), .val (.int p3), .val (.int p4), .val (.int p5), .val (.int p6), .val (.int (2 : Int32)), .val (.int (2 : Int32)), .val (.ref b14), .val (.ref b19), .val (.int (1 : Int32)), .val (.ref s0)] [(.ref b19)])
            refine o_iconst X hx 218 (1 : Int32) (hb hby at_217) rfl rfl ?_
            refine o_goto X hx 222 (hb hby at_218) rfl ?_
            exact JT1 _ (Or.inr rfl)
        refine o_if X hx 142 138 (hb hby at_135) rfl rfl (fun (qm : (p3 &&& (1 : Int32)) = (0 : Int32)) => ?_) (fun (qm : ¬ (p3 &&& (1 : Int32)) = (0 : Int32)) => ?_)
        · show Wout p e below _ T (mkF m 142 #[.val (.int p1), .val (.int p2), .val (.int p3), .val (.int p4), .val (.int p5), .val (.int p6), .val (.int (2 : Int32)), .val (.int (2 : Int32)), .val (.ref b14), .val (.ref b19), .val (.int (1 : Int32)), .unset] [(.ref b19)])
          refine o_iconst X hx 143 (0 : Int32) (hb hby at_142) rfl rfl ?_
          exact JT0 _ (Or.inl rfl)
        · show Wout p e below _ T (mkF m 138 #[.val (.int p1), .val (.int p2), .val (.int p3), .val (.int p4), .val (.int p5), .val (.int p6), .val (.int (2 : Int32)), .val (.int (2 : Int32)), .val (.ref b14), .val (.ref b19), .val (.int (1 : Int32)), .unset] [(.ref b19)])
          refine o_iconst X hx 139 (1 : Int32) (hb hby at_138) rfl rfl ?_
          refine o_goto X hx 143 (hb hby at_139) rfl ?_
          exact JT0 _ (Or.inr rfl)
    rcases hk with rfl | rfl | rfl | rfl
    · show Wout p e below _ T (mkF m 10 #[.val (.int p1), .val (.int p2), .val (.int p3), .val (.int p4), .val (.int p5), .val (.int p6), .val (.int (2 : Int32)), .val (.int (0 : Int32)), .unset, .unset, .unset, .unset] [])
      refine o_iload X hx 12 (hb hby at_10) rfl rfl ?_
      refine o_iload X hx 14 (hb hby at_12) rfl rfl ?_
      refine o_icmpT X hx 21 (hb hby at_14) rfl (by decide : ¬ (2 : Int32) < (0 : Int32)) ?_
      exact J _ (by decide)
    · show Wout p e below _ T (mkF m 10 #[.val (.int p1), .val (.int p2), .val (.int p3), .val (.int p4), .val (.int p5), .val (.int p6), .val (.int (2 : Int32)), .val (.int (1 : Int32)), .unset, .unset, .unset, .unset] [])
      refine o_iload X hx 12 (hb hby at_10) rfl rfl ?_
      refine o_iload X hx 14 (hb hby at_12) rfl rfl ?_
      refine o_icmpT X hx 21 (hb hby at_14) rfl (by decide : ¬ (2 : Int32) < (1 : Int32)) ?_
      exact J _ (by decide)
    · show Wout p e below _ T (mkF m 10 #[.val (.int p1), .val (.int p2), .val (.int p3), .val (.int p4), .val (.int p5), .val (.int p6), .val (.int (2 : Int32)), .val (.int (2 : Int32)), .unset, .unset, .unset, .unset] [])
      refine o_iload X hx 12 (hb hby at_10) rfl rfl ?_
      refine o_iload X hx 14 (hb hby at_12) rfl rfl ?_
      refine o_icmpT X hx 21 (hb hby at_14) rfl (by decide : ¬ (2 : Int32) < (2 : Int32)) ?_
      exact J _ (by decide)
    · show Wout p e below _ T (mkF m 10 #[.val (.int p1), .val (.int p2), .val (.int p3), .val (.int p4), .val (.int p5), .val (.int p6), .val (.int (2 : Int32)), .val (.int (3 : Int32)), .unset, .unset, .unset, .unset] [])
      refine o_iload X hx 12 (hb hby at_10) rfl rfl ?_
      refine o_iload X hx 14 (hb hby at_12) rfl rfl ?_
      refine o_icmpF X hx 17 (hb hby at_14) rfl (by decide : (2 : Int32) < (3 : Int32)) ?_
      refine o_iload X hx 19 (hb hby at_17) rfl rfl ?_
      refine o_istore X hx 21 (Ls' := #[.val (.int p1), .val (.int p2), .val (.int p3), .val (.int p4), .val (.int p5), .val (.int p6), .val (.int (2 : Int32)), .val (.int (2 : Int32)), .unset, .unset, .unset, .unset]) (hb hby at_19) rfl rfl ?_
      exact J _ (by decide)
  · show Wout p e below _ T (mkF m 8 #[.val (.int p1), .val (.int p2), .val (.int p3), .val (.int p4), .val (.int p5), .val (.int p6), .val (.int (3 : Int32)), .unset, .unset, .unset, .unset, .unset] [(.int kk)])
    refine o_istore X hx 10 (Ls' := #[.val (.int p1), .val (.int p2), .val (.int p3), .val (.int p4), .val (.int p5), .val (.int p6), .val (.int (3 : Int32)), .val (.int kk), .unset, .unset, .unset, .unset]) (hb hby at_8) rfl rfl ?_
    have J : ∀ k : Int32, (k = 0 ∨ k = 1 ∨ k = 2 ∨ k = 3) → Wout p e below (Pst s (Q_law Z p1 p2 p3 p4 p5 p6 cs h0 n0) room_1.cells room_1.slots) T (mkF m 21 #[.val (.int p1), .val (.int p2), .val (.int p3), .val (.int p4), .val (.int p5), .val (.int p6), .val (.int (3 : Int32)), .val (.int k), .unset, .unset, .unset, .unset] []) := by
      intro k hk'
      refine o_iload X hx 23 (hb hby at_21) rfl rfl ?_
      refine o_anewarray X hx hZ hown (hw _ (List.mem_of_getElem? (i := 0) rfl)) (hw _ (List.mem_of_getElem? (i := 1) rfl)) eT 26 (hb hby at_23) rfl (by decide) 3 (by decide) (by decide) (by decide) (by decide) (fun T h31 b31 k31 hb31 X eT E A Ov31 => ?_)
      have g_b31 : n0 ≤ b31 := Nat.le_trans Z0 (Nat.le_of_eq hb31.symm)
      replace Z0 := Nat.le_trans Z0 E.1
      replace O := O.ext E
      have V_b31 : Arv Z h31 b31 k31 (.object "java/lang/String") (3 : Int32) [.null, .null, .null] .null := A.pad (pad_rep [] .null 3)
      refine o_astore X hx 28 (Ls' := #[.val (.int p1), .val (.int p2), .val (.int p3), .val (.int p4), .val (.int p5), .val (.int p6), .val (.int (3 : Int32)), .val (.int k), .val (.ref b31), .unset, .unset, .unset]) (hb hby at_26) rfl rfl rfl ?_
      refine o_iload X hx 30 (hb hby at_28) rfl rfl ?_
      refine o_iconst X hx 31 (1 : Int32) (hb hby at_30) rfl rfl ?_
      refine o_icmpF X hx 34 (hb hby at_31) rfl (by decide : ¬ (3 : Int32) < (1 : Int32)) ?_
      refine o_aload X hx 36 (hb hby at_34) rfl rfl rfl ?_
      refine o_iconst X hx 37 (0 : Int32) (hb hby at_36) rfl rfl ?_
      refine o_iloadN X hx 38 (hb hby at_37) rfl rfl ?_
      refine o_sipush X hx 41 (255 : Int32) (hb hby at_38) rfl rfl ?_
      refine o_iand X hx 42 (hb hby at_41) rfl ?_
      refine o_i2c X hx 43 (hb hby at_42) rfl ?_
      refine o_callS X hx hZ hown (hw _ (List.mem_of_getElem? (i := 20) rfl)) (hw _ (List.mem_of_getElem? (i := 21) rfl)) (hw _ (List.mem_of_getElem? (i := 22) rfl)) (hw _ (List.mem_of_getElem? (i := 23) rfl)) (by decide) (rm_vof l Z a0 hw [] (p4 &&& (255 : Int32)).toUInt32.toUInt16.toUInt32.toInt32 cs _ n0 Z0 (SC.ext O.2) hcs (own_c255 p4)) eT (by decide) 2 (by decide) (by rw [hml]; rfl) [(.int (((p4 &&& (255 : Int32))).toUInt32.toUInt16.toUInt32.toInt32))] (rest := [(.int (0 : Int32)), (.ref b31)]) (lenOf pd_6 rfl) rfl rfl (Nat.le_of_eq rfl) (by decide) (by decide) 46 (hb hby at_43) rfl (fun v T h32 Lc X eT q => ?_)
      obtain ⟨s0, rfl, N', K1, E_s0⟩ := q
      replace N := Fr.app N N'
      replace V_b31 := V_b31.keep K1 nin0
      replace Z0 := Nat.le_trans Z0 K1.1
      replace O := O.keep K1 all0
      show Wout p e below _ T (mkF m 46 #[.val (.int p1), .val (.int p2), .val (.int p3), .val (.int p4), .val (.int p5), .val (.int p6), .val (.int (3 : Int32)), .val (.int k), .val (.ref b31), .unset, .unset, .unset] [(.ref s0), (.int (0 : Int32)), (.ref b31)])
      refine o_aastore X hx hZ eT V_b31 rfl ⟨by decide, by decide⟩ 0 rfl (Nat.le_of_ble_eq_true rfl) (vs' := [(.ref s0), .null, .null]) rfl rfl (Sto.arv V_b31 Ov31 (Ins.self E_s0)) N g_b31 47 (hb hby at_46) rfl (fun T h33 locs X eT W V' N => ?_)
      replace E_s0 := E_s0.wr W
      replace Z0 := Nat.le_trans Z0 (Keep.of_wr W).1
      replace O := O.wr W g_b31
      replace V_b31 := V'
      refine o_iload X hx 49 (hb hby at_47) rfl rfl ?_
      refine o_iconst X hx 50 (2 : Int32) (hb hby at_49) rfl rfl ?_
      refine o_icmpF X hx 53 (hb hby at_50) rfl (by decide : ¬ (3 : Int32) < (2 : Int32)) ?_
      refine o_aload X hx 55 (hb hby at_53) rfl rfl rfl ?_
      refine o_iconst X hx 56 (1 : Int32) (hb hby at_55) rfl rfl ?_
      refine o_iload X hx 58 (hb hby at_56) rfl rfl ?_
      refine o_sipush X hx 61 (255 : Int32) (hb hby at_58) rfl rfl ?_
      refine o_iand X hx 62 (hb hby at_61) rfl ?_
      refine o_i2c X hx 63 (hb hby at_62) rfl ?_
      refine o_callS X hx hZ hown (hw _ (List.mem_of_getElem? (i := 20) rfl)) (hw _ (List.mem_of_getElem? (i := 21) rfl)) (hw _ (List.mem_of_getElem? (i := 22) rfl)) (hw _ (List.mem_of_getElem? (i := 23) rfl)) (by decide) (rm_vof l Z a0 hw [] (p5 &&& (255 : Int32)).toUInt32.toUInt16.toUInt32.toInt32 cs _ n0 Z0 (SC.ext O.2) hcs (own_c255 p5)) eT (by decide) 2 (by decide) (by rw [hml]; rfl) [(.int (((p5 &&& (255 : Int32))).toUInt32.toUInt16.toUInt32.toInt32))] (rest := [(.int (1 : Int32)), (.ref b31)]) (lenOf pd_6 rfl) rfl rfl (Nat.le_of_eq rfl) (by decide) (by decide) 66 (hb hby at_63) rfl (fun v T h34 Lc X eT q => ?_)
      obtain ⟨s1, rfl, N', K1, E_s1⟩ := q
      replace N := Fr.app N N'
      replace V_b31 := V_b31.keep K1 nin0
      replace E_s0 := E_s0.keep K1
      replace Z0 := Nat.le_trans Z0 K1.1
      replace O := O.keep K1 all0
      show Wout p e below _ T (mkF m 66 #[.val (.int p1), .val (.int p2), .val (.int p3), .val (.int p4), .val (.int p5), .val (.int p6), .val (.int (3 : Int32)), .val (.int k), .val (.ref b31), .unset, .unset, .unset] [(.ref s1), (.int (1 : Int32)), (.ref b31)])
      refine o_aastore X hx hZ eT V_b31 rfl ⟨by decide, by decide⟩ 1 rfl (Nat.le_of_ble_eq_true rfl) (vs' := [(.ref s0), (.ref s1), .null]) rfl rfl (Sto.arv V_b31 Ov31 (Ins.self E_s1)) N g_b31 67 (hb hby at_66) rfl (fun T h35 locs X eT W V' N => ?_)
      replace E_s0 := E_s0.wr W
      replace E_s1 := E_s1.wr W
      replace Z0 := Nat.le_trans Z0 (Keep.of_wr W).1
      replace O := O.wr W g_b31
      replace V_b31 := V'
      refine o_iload X hx 69 (hb hby at_67) rfl rfl ?_
      refine o_iconst X hx 70 (3 : Int32) (hb hby at_69) rfl rfl ?_
      refine o_icmpF X hx 73 (hb hby at_70) rfl (by decide : ¬ (3 : Int32) < (3 : Int32)) ?_
      refine o_aload X hx 75 (hb hby at_73) rfl rfl rfl ?_
      refine o_iconst X hx 76 (2 : Int32) (hb hby at_75) rfl rfl ?_
      refine o_iload X hx 78 (hb hby at_76) rfl rfl ?_
      refine o_sipush X hx 81 (255 : Int32) (hb hby at_78) rfl rfl ?_
      refine o_iand X hx 82 (hb hby at_81) rfl ?_
      refine o_i2c X hx 83 (hb hby at_82) rfl ?_
      refine o_callS X hx hZ hown (hw _ (List.mem_of_getElem? (i := 20) rfl)) (hw _ (List.mem_of_getElem? (i := 21) rfl)) (hw _ (List.mem_of_getElem? (i := 22) rfl)) (hw _ (List.mem_of_getElem? (i := 23) rfl)) (by decide) (rm_vof l Z a0 hw [] (p6 &&& (255 : Int32)).toUInt32.toUInt16.toUInt32.toInt32 cs _ n0 Z0 (SC.ext O.2) hcs (own_c255 p6)) eT (by decide) 2 (by decide) (by rw [hml]; rfl) [(.int (((p6 &&& (255 : Int32))).toUInt32.toUInt16.toUInt32.toInt32))] (rest := [(.int (2 : Int32)), (.ref b31)]) (lenOf pd_6 rfl) rfl rfl (Nat.le_of_eq rfl) (by decide) (by decide) 86 (hb hby at_83) rfl (fun v T h36 Lc X eT q => ?_)
      obtain ⟨s2, rfl, N', K1, E_s2⟩ := q
      replace N := Fr.app N N'
      replace V_b31 := V_b31.keep K1 nin0
      replace E_s0 := E_s0.keep K1
      replace E_s1 := E_s1.keep K1
      replace Z0 := Nat.le_trans Z0 K1.1
      replace O := O.keep K1 all0
      show Wout p e below _ T (mkF m 86 #[.val (.int p1), .val (.int p2), .val (.int p3), .val (.int p4), .val (.int p5), .val (.int p6), .val (.int (3 : Int32)), .val (.int k), .val (.ref b31), .unset, .unset, .unset] [(.ref s2), (.int (2 : Int32)), (.ref b31)])
      refine o_aastore X hx hZ eT V_b31 rfl ⟨by decide, by decide⟩ 2 rfl (Nat.le_of_ble_eq_true rfl) (vs' := [(.ref s0), (.ref s1), (.ref s2)]) rfl rfl (Sto.arv V_b31 Ov31 (Ins.self E_s2)) N g_b31 87 (hb hby at_86) rfl (fun T h37 locs X eT W V' N => ?_)
      replace E_s0 := E_s0.wr W
      replace E_s1 := E_s1.wr W
      replace E_s2 := E_s2.wr W
      replace Z0 := Nat.le_trans Z0 (Keep.of_wr W).1
      replace O := O.wr W g_b31
      replace V_b31 := V'
      refine o_new X hx hZ hown (hw _ (List.mem_of_getElem? (i := 2) rfl)) (hw _ (List.mem_of_getElem? (i := 3) rfl)) (hw _ (List.mem_of_getElem? (i := 4) rfl)) eT 90 (hb hby at_87) rfl (by decide) (by decide) (fun T h38 b38 hb38 X eT E A D => ?_)
      have ne_b31_b38 : b31 ≠ b38 := Nat.ne_of_lt (Nat.lt_of_lt_of_eq V_b31.lt hb38.symm)
      have ne_s0_b38 : s0 ≠ b38 := Nat.ne_of_lt (Nat.lt_of_lt_of_eq E_s0.lt hb38.symm)
      have ne_s1_b38 : s1 ≠ b38 := Nat.ne_of_lt (Nat.lt_of_lt_of_eq E_s1.lt hb38.symm)
      have ne_s2_b38 : s2 ≠ b38 := Nat.ne_of_lt (Nat.lt_of_lt_of_eq E_s2.lt hb38.symm)
      have g_b38 : n0 ≤ b38 := Nat.le_trans Z0 (Nat.le_of_eq hb38.symm)
      replace V_b31 := V_b31.ext E
      replace E_s0 := E_s0.ext E
      replace E_s1 := E_s1.ext E
      replace E_s2 := E_s2.ext E
      replace Z0 := Nat.le_trans Z0 E.1
      replace O := O.ext E
      have E_b38 := A
      have F__args_b38 : Fld Z h38 b38 "com/example/varasto/varasto/util/OptionReader" "_args" "[Ljava/lang/String;" .null := D (Or.inr (hw _ (List.mem_of_getElem? (i := 12) rfl))) (ty := (.array (.object "java/lang/String"))) (by decide)
      have F__next_b38 : Fld Z h38 b38 "com/example/varasto/varasto/util/OptionReader" "_next" "I" (.int (0 : Int32)) := D (Or.inl (hw _ (List.mem_of_getElem? (i := 19) rfl))) (ty := .int) (by decide)
      have F__option_b38 : Fld Z h38 b38 "com/example/varasto/varasto/util/OptionReader" "_option" "Ljava/lang/String;" .null := D (Or.inl (hw _ (List.mem_of_getElem? (i := 65) rfl))) (ty := (.object "java/lang/String")) (by decide)
      refine o_dup X hx 91 (hb hby at_90) rfl rfl ?_
      refine o_aload X hx 93 (hb hby at_91) rfl rfl rfl ?_
      refine o_callI X hx hZ rfl hown (hw _ (List.mem_of_getElem? (i := 5) rfl)) (hw _ (List.mem_of_getElem? (i := 6) rfl)) (hw _ (List.mem_of_getElem? (i := 4) rfl)) (hw _ (List.mem_of_getElem? (i := 7) rfl)) (by decide) (rm_oin l Z a0 hw [] b38 b31 _ _ n0 Z0 E_b38 F__args_b38 F__next_b38 F__option_b38 g_b38) eT (by decide) 1 (by decide) (by rw [hml]; rfl) [(.ref b31)] (rest := [(.ref b38)]) (lenOf pd_5 rfl) rfl rfl (Nat.le_of_eq rfl) (by decide) (by decide) 96 (hb hby at_93) rfl (fun v T h39 Lc X eT q => ?_)
      obtain ⟨rfl, N', K1, E', G1, G2, G3⟩ := q
      replace N := Fr.app N N'
      replace V_b31 := V_b31.keep K1 (ninS ne_b31_b38 nin0)
      replace E_s0 := E_s0.keep K1
      replace E_s1 := E_s1.keep K1
      replace E_s2 := E_s2.keep K1
      replace Z0 := Nat.le_trans Z0 K1.1
      replace O := O.keep K1 (allS (P := fun x => n0 ≤ x) g_b38 all0)
      replace E_b38 := E'
      have F1 := G1
      have F2 := G2
      have F3 := G3
      show Wout p e below _ T (mkF m 96 #[.val (.int p1), .val (.int p2), .val (.int p3), .val (.int p4), .val (.int p5), .val (.int p6), .val (.int (3 : Int32)), .val (.int k), .val (.ref b31), .unset, .unset, .unset] [(.ref b38)])
      refine o_astore X hx 98 (Ls' := #[.val (.int p1), .val (.int p2), .val (.int p3), .val (.int p4), .val (.int p5), .val (.int p6), .val (.int (3 : Int32)), .val (.int k), .val (.ref b31), .val (.ref b38), .unset, .unset]) (hb hby at_96) rfl rfl rfl ?_
      refine o_aload X hx 100 (hb hby at_98) rfl rfl rfl ?_
      refine o_callV X hx hZ hown (hw _ (List.mem_of_getElem? (i := 13) rfl)) (hw _ (List.mem_of_getElem? (i := 14) rfl)) (hw _ (List.mem_of_getElem? (i := 16) rfl)) (hw _ (List.mem_of_getElem? (i := 15) rfl)) (hw _ (List.mem_of_getElem? (i := 4) rfl)) (hw _ (List.mem_of_getElem? (i := 17) rfl)) (by decide) (rm_has1 l Z a0 hw [] b38 b31 k31 (0 : Int32) (3 : Int32) [(.ref s0), (.ref s1), (.ref s2)] _ n0 Z0 F1 F2 V_b31 (by decide)) eT (by decide) 0 (by decide) (by rw [hml]; rfl) E_b38 [] (rest := []) (lenOf pd_3 rfl) rfl rfl (Nat.le_of_eq rfl) (by decide) (by decide) 103 (hb hby at_100) rfl (fun v T h40 Lc X eT q => ?_)
      obtain ⟨rfl, N', e'⟩ := q
      replace N := Fr.app N N'
      replace eT := eT.trans e'
      show Wout p e below _ T (mkF m 103 #[.val (.int p1), .val (.int p2), .val (.int p3), .val (.int p4), .val (.int p5), .val (.int p6), .val (.int (3 : Int32)), .val (.int k), .val (.ref b31), .val (.ref b38), .unset, .unset] [(.int (1 : Int32))])
      refine o_iconst X hx 104 (0 : Int32) (hb hby at_103) rfl rfl ?_
      refine o_iload X hx 106 (hb hby at_104) rfl rfl ?_
      refine o_icmpF X hx 109 (hb hby at_106) rfl (by decide : (0 : Int32) < (3 : Int32)) ?_
      refine o_iconst X hx 110 (1 : Int32) (hb hby at_109) rfl rfl ?_
      refine o_goto X hx 114 (hb hby at_110) rfl ?_
      refine o_icmpF X hx 117 (hb hby at_114) rfl (by decide : (1 : Int32) = (1 : Int32)) ?_
      refine o_iconst X hx 118 (1 : Int32) (hb hby at_117) rfl rfl ?_
      refine o_goto X hx 122 (hb hby at_118) rfl ?_
      refine o_istore X hx 124 (Ls' := #[.val (.int p1), .val (.int p2), .val (.int p3), .val (.int p4), .val (.int p5), .val (.int p6), .val (.int (3 : Int32)), .val (.int k), .val (.ref b31), .val (.ref b38), .val (.int (1 : Int32)), .unset]) (hb hby at_122) rfl rfl ?_
      refine o_iload X hx 126 (hb hby at_124) rfl rfl ?_
      refine o_iconst X hx 127 (1 : Int32) (hb hby at_126) rfl rfl ?_
      rcases hk' with rfl | rfl | rfl | rfl
      · show Wout p e below _ T (mkF m 127 #[.val (.int p1), .val (.int p2), .val (.int p3), .val (.int p4), .val (.int p5), .val (.int p6), .val (.int (3 : Int32)), .val (.int (0 : Int32)), .val (.ref b31), .val (.ref b38), .val (.int (1 : Int32)), .unset] [(.int (1 : Int32)), (.int (0 : Int32))])
        refine o_icmpT X hx 203 (hb hby at_127) rfl (by decide : (0 : Int32) < (1 : Int32)) ?_
        refine o_iload X hx 205 (hb hby at_203) rfl rfl ?_
        refine o_iconst X hx 206 (2 : Int32) (hb hby at_205) rfl rfl ?_
        refine o_icmpT X hx 282 (hb hby at_206) rfl (by decide : (0 : Int32) < (2 : Int32)) ?_
        refine o_iload X hx 284 (hb hby at_282) rfl rfl ?_
        refine o_iconst X hx 285 (3 : Int32) (hb hby at_284) rfl rfl ?_
        refine o_icmpT X hx 361 (hb hby at_285) rfl (by decide : (0 : Int32) < (3 : Int32)) ?_
        refine o_iload X hx 363 (hb hby at_361) rfl rfl ?_
        exact o_retI X hx hlk hret rfl (by simp) (hb hby at_363) (by decide) (by decide) (by rw [eT]; exact ⟨rfl, N, trivial⟩)
      · show Wout p e below _ T (mkF m 127 #[.val (.int p1), .val (.int p2), .val (.int p3), .val (.int p4), .val (.int p5), .val (.int p6), .val (.int (3 : Int32)), .val (.int (1 : Int32)), .val (.ref b31), .val (.ref b38), .val (.int (1 : Int32)), .unset] [(.int (1 : Int32)), (.int (1 : Int32))])
        refine o_icmpF X hx 130 (hb hby at_127) rfl (by decide : ¬ (1 : Int32) < (1 : Int32)) ?_
        refine o_aload X hx 132 (hb hby at_130) rfl rfl rfl ?_
        refine o_iloadN X hx 133 (hb hby at_132) rfl rfl ?_
        refine o_iconst X hx 134 (1 : Int32) (hb hby at_133) rfl rfl ?_
        refine o_iand X hx 135 (hb hby at_134) rfl ?_
        have JT0 : ∀ b : Int32, (b = 0 ∨ b = 1) → Wout p e below (Pst s (Q_law Z p1 p2 p3 p4 p5 p6 cs h0 n0) room_1.cells room_1.slots) T (mkF m 143 #[.val (.int p1), .val (.int p2), .val (.int p3), .val (.int p4), .val (.int p5), .val (.int p6), .val (.int (3 : Int32)), .val (.int (1 : Int32)), .val (.ref b31), .val (.ref b38), .val (.int (1 : Int32)), .unset] [(.int b), (.ref b38)]) := by
          intro b hb'
          refine o_callS X hx hZ hown (hw _ (List.mem_of_getElem? (i := 44) rfl)) (hw _ (List.mem_of_getElem? (i := 45) rfl)) (hw _ (List.mem_of_getElem? (i := 46) rfl)) (hw _ (List.mem_of_getElem? (i := 47) rfl)) (by decide) (rm_take l Z a0 hw [] b38 b31 s0 k31 (0 : Int32) (1 : Int32) (3 : Int32) [(.ref s0), (.ref s1), (.ref s2)] _ b _ n0 Z0 E_b38 F1 F2 V_b31 F3 g_b38 ne_b31_b38 (by decide) rfl (by decide) hb') eT (by decide) 0 (by decide) (by rw [hml]; rfl) [(.ref b38), (.int b)] (rest := []) (lenOf pd_7 rfl) rfl rfl (Nat.le_of_eq rfl) (by decide) (by decide) 146 (hb hby at_143) rfl (fun v T h41 Lc X eT q => ?_)
          obtain ⟨u', rfl, N', K1, E', G1, G2, G3⟩ := q
          replace N := Fr.app N N'
          replace V_b31 := V_b31.keep K1 (ninS ne_b31_b38 nin0)
          replace E_s0 := E_s0.keep K1
          replace E_s1 := E_s1.keep K1
          replace E_s2 := E_s2.keep K1
          replace Z0 := Nat.le_trans Z0 K1.1
          replace O := O.keep K1 (allS (P := fun x => n0 ≤ x) g_b38 all0)
          replace E_b38 := E'
          replace F1 := G1
          replace F2 := G2
          replace F3 := G3
          show Wout p e below _ T (mkF m 146 #[.val (.int p1), .val (.int p2), .val (.int p3), .val (.int p4), .val (.int p5), .val (.int p6), .val (.int (3 : Int32)), .val (.int (1 : Int32)), .val (.ref b31), .val (.ref b38), .val (.int (1 : Int32)), .unset] [(.ref s0)])
          refine o_astore X hx 148 (Ls' := #[.val (.int p1), .val (.int p2), .val (.int p3), .val (.int p4), .val (.int p5), .val (.int p6), .val (.int (3 : Int32)), .val (.int (1 : Int32)), .val (.ref b31), .val (.ref b38), .val (.int (1 : Int32)), .val (.ref s0)]) (hb hby at_146) rfl rfl rfl ?_
          refine o_iload X hx 150 (hb hby at_148) rfl rfl ?_
          refine o_ifF X hx 153 (hb hby at_150) rfl (by decide : ¬ (1 : Int32) = (0 : Int32)) ?_
          refine o_aload X hx 155 (hb hby at_153) rfl rfl rfl ?_
          refine o_aload X hx 157 (hb hby at_155) rfl rfl rfl ?_
          refine o_iconst X hx 158 (0 : Int32) (hb hby at_157) rfl rfl ?_
          refine o_aaload X hx hZ eT V_b31 rfl ⟨by decide, by decide⟩ (v := (.ref s0)) rfl 159 (hb hby at_158) rfl ?_
          refine o_callV X hx hZ hown (hw _ (List.mem_of_getElem? (i := 54) rfl)) (hw _ (List.mem_of_getElem? (i := 55) rfl)) (hw _ (List.mem_of_getElem? (i := 57) rfl)) (hw _ (List.mem_of_getElem? (i := 56) rfl)) (hw _ (List.mem_of_getElem? (i := 22) rfl)) (hw _ (List.mem_of_getElem? (i := 58) rfl)) (by decide) (rm_seq l Z a0 hw [] s0 _ n0 Z0) eT (by decide) 0 (by decide) (by rw [hml]; rfl) E_s0 [(.ref s0)] (rest := []) (lenOf pd_8 rfl) rfl rfl (Nat.le_of_eq rfl) (by decide) (by decide) 162 (hb hby at_159) rfl (fun v T h42 Lc X eT q => ?_)
          obtain ⟨rfl, N', e'⟩ := q
          replace N := Fr.app N N'
          replace eT := eT.trans e'
          show Wout p e below _ T (mkF m 162 #[.val (.int p1), .val (.int p2), .val (.int p3), .val (.int p4), .val (.int p5), .val (.int p6), .val (.int (3 : Int32)), .val (.int (1 : Int32)), .val (.ref b31), .val (.ref b38), .val (.int (1 : Int32)), .val (.ref s0)] [(.int (1 : Int32))])
          refine o_ifF X hx 165 (hb hby at_162) rfl (by decide : ¬ (1 : Int32) = (0 : Int32)) ?_
          refine o_iconst X hx 166 (1 : Int32) (hb hby at_165) rfl rfl ?_
          refine o_goto X hx 170 (hb hby at_166) rfl ?_
          refine o_istore X hx 172 (Ls' := #[.val (.int p1), .val (.int p2), .val (.int p3), .val (.int p4), .val (.int p5), .val (.int p6), .val (.int (3 : Int32)), .val (.int (1 : Int32)), .val (.ref b31), .val (.ref b38), .val (.int (1 : Int32)), .val (.ref s0)]) (hb hby at_170) rfl rfl ?_
          refine o_iload X hx 174 (hb hby at_172) rfl rfl ?_
          refine o_ifF X hx 177 (hb hby at_174) rfl (by decide : ¬ (1 : Int32) = (0 : Int32)) ?_
          refine o_aload X hx 179 (hb hby at_177) rfl rfl rfl ?_
          refine o_callV X hx hZ hown (hw _ (List.mem_of_getElem? (i := 13) rfl)) (hw _ (List.mem_of_getElem? (i := 14) rfl)) (hw _ (List.mem_of_getElem? (i := 16) rfl)) (hw _ (List.mem_of_getElem? (i := 15) rfl)) (hw _ (List.mem_of_getElem? (i := 4) rfl)) (hw _ (List.mem_of_getElem? (i := 17) rfl)) (by decide) (rm_has1 l Z a0 hw [] b38 b31 k31 (1 : Int32) (3 : Int32) [(.ref s0), (.ref s1), (.ref s2)] _ n0 Z0 F1 F2 V_b31 (by decide)) eT (by decide) 0 (by decide) (by rw [hml]; rfl) E_b38 [] (rest := []) (lenOf pd_3 rfl) rfl rfl (Nat.le_of_eq rfl) (by decide) (by decide) 182 (hb hby at_179) rfl (fun v T h43 Lc X eT q => ?_)
          obtain ⟨rfl, N', e'⟩ := q
          replace N := Fr.app N N'
          replace eT := eT.trans e'
          show Wout p e below _ T (mkF m 182 #[.val (.int p1), .val (.int p2), .val (.int p3), .val (.int p4), .val (.int p5), .val (.int p6), .val (.int (3 : Int32)), .val (.int (1 : Int32)), .val (.ref b31), .val (.ref b38), .val (.int (1 : Int32)), .val (.ref s0)] [(.int (1 : Int32))])
          refine o_iconst X hx 183 (1 : Int32) (hb hby at_182) rfl rfl ?_
          refine o_iload X hx 185 (hb hby at_183) rfl rfl ?_
          refine o_icmpF X hx 188 (hb hby at_185) rfl (by decide : (1 : Int32) < (3 : Int32)) ?_
          refine o_iconst X hx 189 (1 : Int32) (hb hby at_188) rfl rfl ?_
          refine o_goto X hx 193 (hb hby at_189) rfl ?_
          refine o_icmpF X hx 196 (hb hby at_193) rfl (by decide : (1 : Int32) = (1 : Int32)) ?_
          refine o_iconst X hx 197 (1 : Int32) (hb hby at_196) rfl rfl ?_
          refine o_goto X hx 201 (hb hby at_197) rfl ?_
          refine o_istore X hx 203 (Ls' := #[.val (.int p1), .val (.int p2), .val (.int p3), .val (.int p4), .val (.int p5), .val (.int p6), .val (.int (3 : Int32)), .val (.int (1 : Int32)), .val (.ref b31), .val (.ref b38), .val (.int (1 : Int32)), .val (.ref s0)]) (hb hby at_201) rfl rfl ?_
          refine o_iload X hx 205 (hb hby at_203) rfl rfl ?_
          refine o_iconst X hx 206 (2 : Int32) (hb hby at_205) rfl rfl ?_
          refine o_icmpT X hx 282 (hb hby at_206) rfl (by decide : (1 : Int32) < (2 : Int32)) ?_
          refine o_iload X hx 284 (hb hby at_282) rfl rfl ?_
          refine o_iconst X hx 285 (3 : Int32) (hb hby at_284) rfl rfl ?_
          refine o_icmpT X hx 361 (hb hby at_285) rfl (by decide : (1 : Int32) < (3 : Int32)) ?_
          refine o_iload X hx 363 (hb hby at_361) rfl rfl ?_
          exact o_retI X hx hlk hret rfl (by simp) (hb hby at_363) (by decide) (by decide) (by rw [eT]; exact ⟨rfl, N, trivial⟩)
        refine o_if X hx 142 138 (hb hby at_135) rfl rfl (fun (qm : (p3 &&& (1 : Int32)) = (0 : Int32)) => ?_) (fun (qm : ¬ (p3 &&& (1 : Int32)) = (0 : Int32)) => ?_)
        · show Wout p e below _ T (mkF m 142 #[.val (.int p1), .val (.int p2), .val (.int p3), .val (.int p4), .val (.int p5), .val (.int p6), .val (.int (3 : Int32)), .val (.int (1 : Int32)), .val (.ref b31), .val (.ref b38), .val (.int (1 : Int32)), .unset] [(.ref b38)])
          refine o_iconst X hx 143 (0 : Int32) (hb hby at_142) rfl rfl ?_
          exact JT0 _ (Or.inl rfl)
        · show Wout p e below _ T (mkF m 138 #[.val (.int p1), .val (.int p2), .val (.int p3), .val (.int p4), .val (.int p5), .val (.int p6), .val (.int (3 : Int32)), .val (.int (1 : Int32)), .val (.ref b31), .val (.ref b38), .val (.int (1 : Int32)), .unset] [(.ref b38)])
          refine o_iconst X hx 139 (1 : Int32) (hb hby at_138) rfl rfl ?_
          refine o_goto X hx 143 (hb hby at_139) rfl ?_
          exact JT0 _ (Or.inr rfl)
      · show Wout p e below _ T (mkF m 127 #[.val (.int p1), .val (.int p2), .val (.int p3), .val (.int p4), .val (.int p5), .val (.int p6), .val (.int (3 : Int32)), .val (.int (2 : Int32)), .val (.ref b31), .val (.ref b38), .val (.int (1 : Int32)), .unset] [(.int (1 : Int32)), (.int (2 : Int32))])
        refine o_icmpF X hx 130 (hb hby at_127) rfl (by decide : ¬ (2 : Int32) < (1 : Int32)) ?_
        refine o_aload X hx 132 (hb hby at_130) rfl rfl rfl ?_
        refine o_iloadN X hx 133 (hb hby at_132) rfl rfl ?_
        refine o_iconst X hx 134 (1 : Int32) (hb hby at_133) rfl rfl ?_
        refine o_iand X hx 135 (hb hby at_134) rfl ?_
        have JT0 : ∀ b : Int32, (b = 0 ∨ b = 1) → Wout p e below (Pst s (Q_law Z p1 p2 p3 p4 p5 p6 cs h0 n0) room_1.cells room_1.slots) T (mkF m 143 #[.val (.int p1), .val (.int p2), .val (.int p3), .val (.int p4), .val (.int p5), .val (.int p6), .val (.int (3 : Int32)), .val (.int (2 : Int32)), .val (.ref b31), .val (.ref b38), .val (.int (1 : Int32)), .unset] [(.int b), (.ref b38)]) := by
          intro b hb'
          refine o_callS X hx hZ hown (hw _ (List.mem_of_getElem? (i := 44) rfl)) (hw _ (List.mem_of_getElem? (i := 45) rfl)) (hw _ (List.mem_of_getElem? (i := 46) rfl)) (hw _ (List.mem_of_getElem? (i := 47) rfl)) (by decide) (rm_take l Z a0 hw [] b38 b31 s0 k31 (0 : Int32) (1 : Int32) (3 : Int32) [(.ref s0), (.ref s1), (.ref s2)] _ b _ n0 Z0 E_b38 F1 F2 V_b31 F3 g_b38 ne_b31_b38 (by decide) rfl (by decide) hb') eT (by decide) 0 (by decide) (by rw [hml]; rfl) [(.ref b38), (.int b)] (rest := []) (lenOf pd_7 rfl) rfl rfl (Nat.le_of_eq rfl) (by decide) (by decide) 146 (hb hby at_143) rfl (fun v T h44 Lc X eT q => ?_)
          obtain ⟨u', rfl, N', K1, E', G1, G2, G3⟩ := q
          replace N := Fr.app N N'
          replace V_b31 := V_b31.keep K1 (ninS ne_b31_b38 nin0)
          replace E_s0 := E_s0.keep K1
          replace E_s1 := E_s1.keep K1
          replace E_s2 := E_s2.keep K1
          replace Z0 := Nat.le_trans Z0 K1.1
          replace O := O.keep K1 (allS (P := fun x => n0 ≤ x) g_b38 all0)
          replace E_b38 := E'
          replace F1 := G1
          replace F2 := G2
          replace F3 := G3
          show Wout p e below _ T (mkF m 146 #[.val (.int p1), .val (.int p2), .val (.int p3), .val (.int p4), .val (.int p5), .val (.int p6), .val (.int (3 : Int32)), .val (.int (2 : Int32)), .val (.ref b31), .val (.ref b38), .val (.int (1 : Int32)), .unset] [(.ref s0)])
          refine o_astore X hx 148 (Ls' := #[.val (.int p1), .val (.int p2), .val (.int p3), .val (.int p4), .val (.int p5), .val (.int p6), .val (.int (3 : Int32)), .val (.int (2 : Int32)), .val (.ref b31), .val (.ref b38), .val (.int (1 : Int32)), .val (.ref s0)]) (hb hby at_146) rfl rfl rfl ?_
          refine o_iload X hx 150 (hb hby at_148) rfl rfl ?_
          refine o_ifF X hx 153 (hb hby at_150) rfl (by decide : ¬ (1 : Int32) = (0 : Int32)) ?_
          refine o_aload X hx 155 (hb hby at_153) rfl rfl rfl ?_
          refine o_aload X hx 157 (hb hby at_155) rfl rfl rfl ?_
          refine o_iconst X hx 158 (0 : Int32) (hb hby at_157) rfl rfl ?_
          refine o_aaload X hx hZ eT V_b31 rfl ⟨by decide, by decide⟩ (v := (.ref s0)) rfl 159 (hb hby at_158) rfl ?_
          refine o_callV X hx hZ hown (hw _ (List.mem_of_getElem? (i := 54) rfl)) (hw _ (List.mem_of_getElem? (i := 55) rfl)) (hw _ (List.mem_of_getElem? (i := 57) rfl)) (hw _ (List.mem_of_getElem? (i := 56) rfl)) (hw _ (List.mem_of_getElem? (i := 22) rfl)) (hw _ (List.mem_of_getElem? (i := 58) rfl)) (by decide) (rm_seq l Z a0 hw [] s0 _ n0 Z0) eT (by decide) 0 (by decide) (by rw [hml]; rfl) E_s0 [(.ref s0)] (rest := []) (lenOf pd_8 rfl) rfl rfl (Nat.le_of_eq rfl) (by decide) (by decide) 162 (hb hby at_159) rfl (fun v T h45 Lc X eT q => ?_)
          obtain ⟨rfl, N', e'⟩ := q
          replace N := Fr.app N N'
          replace eT := eT.trans e'
          show Wout p e below _ T (mkF m 162 #[.val (.int p1), .val (.int p2), .val (.int p3), .val (.int p4), .val (.int p5), .val (.int p6), .val (.int (3 : Int32)), .val (.int (2 : Int32)), .val (.ref b31), .val (.ref b38), .val (.int (1 : Int32)), .val (.ref s0)] [(.int (1 : Int32))])
          refine o_ifF X hx 165 (hb hby at_162) rfl (by decide : ¬ (1 : Int32) = (0 : Int32)) ?_
          refine o_iconst X hx 166 (1 : Int32) (hb hby at_165) rfl rfl ?_
          refine o_goto X hx 170 (hb hby at_166) rfl ?_
          refine o_istore X hx 172 (Ls' := #[.val (.int p1), .val (.int p2), .val (.int p3), .val (.int p4), .val (.int p5), .val (.int p6), .val (.int (3 : Int32)), .val (.int (2 : Int32)), .val (.ref b31), .val (.ref b38), .val (.int (1 : Int32)), .val (.ref s0)]) (hb hby at_170) rfl rfl ?_
          refine o_iload X hx 174 (hb hby at_172) rfl rfl ?_
          refine o_ifF X hx 177 (hb hby at_174) rfl (by decide : ¬ (1 : Int32) = (0 : Int32)) ?_
          refine o_aload X hx 179 (hb hby at_177) rfl rfl rfl ?_
          refine o_callV X hx hZ hown (hw _ (List.mem_of_getElem? (i := 13) rfl)) (hw _ (List.mem_of_getElem? (i := 14) rfl)) (hw _ (List.mem_of_getElem? (i := 16) rfl)) (hw _ (List.mem_of_getElem? (i := 15) rfl)) (hw _ (List.mem_of_getElem? (i := 4) rfl)) (hw _ (List.mem_of_getElem? (i := 17) rfl)) (by decide) (rm_has1 l Z a0 hw [] b38 b31 k31 (1 : Int32) (3 : Int32) [(.ref s0), (.ref s1), (.ref s2)] _ n0 Z0 F1 F2 V_b31 (by decide)) eT (by decide) 0 (by decide) (by rw [hml]; rfl) E_b38 [] (rest := []) (lenOf pd_3 rfl) rfl rfl (Nat.le_of_eq rfl) (by decide) (by decide) 182 (hb hby at_179) rfl (fun v T h46 Lc X eT q => ?_)
          obtain ⟨rfl, N', e'⟩ := q
          replace N := Fr.app N N'
          replace eT := eT.trans e'
          show Wout p e below _ T (mkF m 182 #[.val (.int p1), .val (.int p2), .val (.int p3), .val (.int p4), .val (.int p5), .val (.int p6), .val (.int (3 : Int32)), .val (.int (2 : Int32)), .val (.ref b31), .val (.ref b38), .val (.int (1 : Int32)), .val (.ref s0)] [(.int (1 : Int32))])
          refine o_iconst X hx 183 (1 : Int32) (hb hby at_182) rfl rfl ?_
          refine o_iload X hx 185 (hb hby at_183) rfl rfl ?_
          refine o_icmpF X hx 188 (hb hby at_185) rfl (by decide : (1 : Int32) < (3 : Int32)) ?_
          refine o_iconst X hx 189 (1 : Int32) (hb hby at_188) rfl rfl ?_
          refine o_goto X hx 193 (hb hby at_189) rfl ?_
          refine o_icmpF X hx 196 (hb hby at_193) rfl (by decide : (1 : Int32) = (1 : Int32)) ?_
          refine o_iconst X hx 197 (1 : Int32) (hb hby at_196) rfl rfl ?_
          refine o_goto X hx 201 (hb hby at_197) rfl ?_
          refine o_istore X hx 203 (Ls' := #[.val (.int p1), .val (.int p2), .val (.int p3), .val (.int p4), .val (.int p5), .val (.int p6), .val (.int (3 : Int32)), .val (.int (2 : Int32)), .val (.ref b31), .val (.ref b38), .val (.int (1 : Int32)), .val (.ref s0)]) (hb hby at_201) rfl rfl ?_
          refine o_iload X hx 205 (hb hby at_203) rfl rfl ?_
          refine o_iconst X hx 206 (2 : Int32) (hb hby at_205) rfl rfl ?_
          refine o_icmpF X hx 209 (hb hby at_206) rfl (by decide : ¬ (2 : Int32) < (2 : Int32)) ?_
          refine o_aload X hx 211 (hb hby at_209) rfl rfl rfl ?_
          refine o_iloadN X hx 212 (hb hby at_211) rfl rfl ?_
          refine o_iconst X hx 213 (2 : Int32) (hb hby at_212) rfl rfl ?_
          refine o_iand X hx 214 (hb hby at_213) rfl ?_
          have JT1 : ∀ b : Int32, (b = 0 ∨ b = 1) → Wout p e below (Pst s (Q_law Z p1 p2 p3 p4 p5 p6 cs h0 n0) room_1.cells room_1.slots) T (mkF m 222 #[.val (.int p1), .val (.int p2), .val (.int p3), .val (.int p4), .val (.int p5), .val (.int p6), .val (.int (3 : Int32)), .val (.int (2 : Int32)), .val (.ref b31), .val (.ref b38), .val (.int (1 : Int32)), .val (.ref s0)] [(.int b), (.ref b38)]) := by
            intro b hb'
            refine o_callS X hx hZ hown (hw _ (List.mem_of_getElem? (i := 44) rfl)) (hw _ (List.mem_of_getElem? (i := 45) rfl)) (hw _ (List.mem_of_getElem? (i := 46) rfl)) (hw _ (List.mem_of_getElem? (i := 47) rfl)) (by decide) (rm_take l Z a0 hw [] b38 b31 s1 k31 (1 : Int32) (2 : Int32) (3 : Int32) [(.ref s0), (.ref s1), (.ref s2)] _ b _ n0 Z0 E_b38 F1 F2 V_b31 F3 g_b38 ne_b31_b38 (by decide) rfl (by decide) hb') eT (by decide) 0 (by decide) (by rw [hml]; rfl) [(.ref b38), (.int b)] (rest := []) (lenOf pd_7 rfl) rfl rfl (Nat.le_of_eq rfl) (by decide) (by decide) 225 (hb hby at_222) rfl (fun v T h47 Lc X eT q => ?_)
            obtain ⟨u', rfl, N', K1, E', G1, G2, G3⟩ := q
            replace N := Fr.app N N'
            replace V_b31 := V_b31.keep K1 (ninS ne_b31_b38 nin0)
            replace E_s0 := E_s0.keep K1
            replace E_s1 := E_s1.keep K1
            replace E_s2 := E_s2.keep K1
            replace Z0 := Nat.le_trans Z0 K1.1
            replace O := O.keep K1 (allS (P := fun x => n0 ≤ x) g_b38 all0)
            replace E_b38 := E'
            replace F1 := G1
            replace F2 := G2
            replace F3 := G3
            show Wout p e below _ T (mkF m 225 #[.val (.int p1), .val (.int p2), .val (.int p3), .val (.int p4), .val (.int p5), .val (.int p6), .val (.int (3 : Int32)), .val (.int (2 : Int32)), .val (.ref b31), .val (.ref b38), .val (.int (1 : Int32)), .val (.ref s0)] [(.ref s1)])
            refine o_astore X hx 227 (Ls' := #[.val (.int p1), .val (.int p2), .val (.int p3), .val (.int p4), .val (.int p5), .val (.int p6), .val (.int (3 : Int32)), .val (.int (2 : Int32)), .val (.ref b31), .val (.ref b38), .val (.int (1 : Int32)), .val (.ref s1)]) (hb hby at_225) rfl rfl rfl ?_
            refine o_iload X hx 229 (hb hby at_227) rfl rfl ?_
            refine o_ifF X hx 232 (hb hby at_229) rfl (by decide : ¬ (1 : Int32) = (0 : Int32)) ?_
            refine o_aload X hx 234 (hb hby at_232) rfl rfl rfl ?_
            refine o_aload X hx 236 (hb hby at_234) rfl rfl rfl ?_
            refine o_iconst X hx 237 (1 : Int32) (hb hby at_236) rfl rfl ?_
            refine o_aaload X hx hZ eT V_b31 rfl ⟨by decide, by decide⟩ (v := (.ref s1)) rfl 238 (hb hby at_237) rfl ?_
            refine o_callV X hx hZ hown (hw _ (List.mem_of_getElem? (i := 54) rfl)) (hw _ (List.mem_of_getElem? (i := 55) rfl)) (hw _ (List.mem_of_getElem? (i := 57) rfl)) (hw _ (List.mem_of_getElem? (i := 56) rfl)) (hw _ (List.mem_of_getElem? (i := 22) rfl)) (hw _ (List.mem_of_getElem? (i := 58) rfl)) (by decide) (rm_seq l Z a0 hw [] s1 _ n0 Z0) eT (by decide) 0 (by decide) (by rw [hml]; rfl) E_s1 [(.ref s1)] (rest := []) (lenOf pd_8 rfl) rfl rfl (Nat.le_of_eq rfl) (by decide) (by decide) 241 (hb hby at_238) rfl (fun v T h48 Lc X eT q => ?_)
            obtain ⟨rfl, N', e'⟩ := q
            replace N := Fr.app N N'
            replace eT := eT.trans e'
            show Wout p e below _ T (mkF m 241 #[.val (.int p1), .val (.int p2), .val (.int p3), .val (.int p4), .val (.int p5), .val (.int p6), .val (.int (3 : Int32)), .val (.int (2 : Int32)), .val (.ref b31), .val (.ref b38), .val (.int (1 : Int32)), .val (.ref s1)] [(.int (1 : Int32))])
            refine o_ifF X hx 244 (hb hby at_241) rfl (by decide : ¬ (1 : Int32) = (0 : Int32)) ?_
            refine o_iconst X hx 245 (1 : Int32) (hb hby at_244) rfl rfl ?_
            refine o_goto X hx 249 (hb hby at_245) rfl ?_
            refine o_istore X hx 251 (Ls' := #[.val (.int p1), .val (.int p2), .val (.int p3), .val (.int p4), .val (.int p5), .val (.int p6), .val (.int (3 : Int32)), .val (.int (2 : Int32)), .val (.ref b31), .val (.ref b38), .val (.int (1 : Int32)), .val (.ref s1)]) (hb hby at_249) rfl rfl ?_
            refine o_iload X hx 253 (hb hby at_251) rfl rfl ?_
            refine o_ifF X hx 256 (hb hby at_253) rfl (by decide : ¬ (1 : Int32) = (0 : Int32)) ?_
            refine o_aload X hx 258 (hb hby at_256) rfl rfl rfl ?_
            refine o_callV X hx hZ hown (hw _ (List.mem_of_getElem? (i := 13) rfl)) (hw _ (List.mem_of_getElem? (i := 14) rfl)) (hw _ (List.mem_of_getElem? (i := 16) rfl)) (hw _ (List.mem_of_getElem? (i := 15) rfl)) (hw _ (List.mem_of_getElem? (i := 4) rfl)) (hw _ (List.mem_of_getElem? (i := 17) rfl)) (by decide) (rm_has1 l Z a0 hw [] b38 b31 k31 (2 : Int32) (3 : Int32) [(.ref s0), (.ref s1), (.ref s2)] _ n0 Z0 F1 F2 V_b31 (by decide)) eT (by decide) 0 (by decide) (by rw [hml]; rfl) E_b38 [] (rest := []) (lenOf pd_3 rfl) rfl rfl (Nat.le_of_eq rfl) (by decide) (by decide) 261 (hb hby at_258) rfl (fun v T h49 Lc X eT q => ?_)
            obtain ⟨rfl, N', e'⟩ := q
            replace N := Fr.app N N'
            replace eT := eT.trans e'
            show Wout p e below _ T (mkF m 261 #[.val (.int p1), .val (.int p2), .val (.int p3), .val (.int p4), .val (.int p5), .val (.int p6), .val (.int (3 : Int32)), .val (.int (2 : Int32)), .val (.ref b31), .val (.ref b38), .val (.int (1 : Int32)), .val (.ref s1)] [(.int (1 : Int32))])
            refine o_iconst X hx 262 (2 : Int32) (hb hby at_261) rfl rfl ?_
            refine o_iload X hx 264 (hb hby at_262) rfl rfl ?_
            refine o_icmpF X hx 267 (hb hby at_264) rfl (by decide : (2 : Int32) < (3 : Int32)) ?_
            refine o_iconst X hx 268 (1 : Int32) (hb hby at_267) rfl rfl ?_
            refine o_goto X hx 272 (hb hby at_268) rfl ?_
            refine o_icmpF X hx 275 (hb hby at_272) rfl (by decide : (1 : Int32) = (1 : Int32)) ?_
            refine o_iconst X hx 276 (1 : Int32) (hb hby at_275) rfl rfl ?_
            refine o_goto X hx 280 (hb hby at_276) rfl ?_
            refine o_istore X hx 282 (Ls' := #[.val (.int p1), .val (.int p2), .val (.int p3), .val (.int p4), .val (.int p5), .val (.int p6), .val (.int (3 : Int32)), .val (.int (2 : Int32)), .val (.ref b31), .val (.ref b38), .val (.int (1 : Int32)), .val (.ref s1)]) (hb hby at_280) rfl rfl ?_
            refine o_iload X hx 284 (hb hby at_282) rfl rfl ?_
            refine o_iconst X hx 285 (3 : Int32) (hb hby at_284) rfl rfl ?_
            refine o_icmpT X hx 361 (hb hby at_285) rfl (by decide : (2 : Int32) < (3 : Int32)) ?_
            refine o_iload X hx 363 (hb hby at_361) rfl rfl ?_
            exact o_retI X hx hlk hret rfl (by simp) (hb hby at_363) (by decide) (by decide) (by rw [eT]; exact ⟨rfl, N, trivial⟩)
          refine o_if X hx 221 217 (hb hby at_214) rfl rfl (fun (qm : (p3 &&& (2 : Int32)) = (0 : Int32)) => ?_) (fun (qm : ¬ (p3 &&& (2 : Int32)) = (0 : Int32)) => ?_)
          · show Wout p e below _ T (mkF m 221 #[.val (.int p1), .val (.int p2), .val (.int p3), .val (.int p4), .val (.int p5), .val (.int p6), .val (.int (3 : Int32)), .val (.int (2 : Int32)), .val (.ref b31), .val (.ref b38), .val (.int (1 : Int32)), .val (.ref s0)] [(.ref b38)])
            refine o_iconst X hx 222 (0 : Int32) (hb hby at_221) rfl rfl ?_
            exact JT1 _ (Or.inl rfl)
          · show Wout p e below _ T (mkF m 217 #[.val (.int p1), .val (.int p2), .val (.int p3), .val (.int p4), .val (.int p5), .val (.int p6), .val (.int (3 : Int32)), .val (.int (2 : Int32)), .val (.ref b31), .val (.ref b38), .val (.int (1 : Int32)), .val (.ref s0)] [(.ref b38)])
            refine o_iconst X hx 218 (1 : Int32) (hb hby at_217) rfl rfl ?_
            refine o_goto X hx 222 (hb hby at_218) rfl ?_
            exact JT1 _ (Or.inr rfl)
        refine o_if X hx 142 138 (hb hby at_135) rfl rfl (fun (qm : (p3 &&& (1 : Int32)) = (0 : Int32)) => ?_) (fun (qm : ¬ (p3 &&& (1 : Int32)) = (0 : Int32)) => ?_)
        · show Wout p e below _ T (mkF m 142 #[.val (.int p1), .val (.int p2), .val (.int p3), .val (.int p4), .val (.int p5), .val (.int p6), .val (.int (3 : Int32)), .val (.int (2 : Int32)), .val (.ref b31), .val (.ref b38), .val (.int (1 : Int32)), .unset] [(.ref b38)])
          refine o_iconst X hx 143 (0 : Int32) (hb hby at_142) rfl rfl ?_
          exact JT0 _ (Or.inl rfl)
        · show Wout p e below _ T (mkF m 138 #[.val (.int p1), .val (.int p2), .val (.int p3), .val (.int p4), .val (.int p5), .val (.int p6), .val (.int (3 : Int32)), .val (.int (2 : Int32)), .val (.ref b31), .val (.ref b38), .val (.int (1 : Int32)), .unset] [(.ref b38)])
          refine o_iconst X hx 139 (1 : Int32) (hb hby at_138) rfl rfl ?_
          refine o_goto X hx 143 (hb hby at_139) rfl ?_
          exact JT0 _ (Or.inr rfl)
      · show Wout p e below _ T (mkF m 127 #[.val (.int p1), .val (.int p2), .val (.int p3), .val (.int p4), .val (.int p5), .val (.int p6), .val (.int (3 : Int32)), .val (.int (3 : Int32)), .val (.ref b31), .val (.ref b38), .val (.int (1 : Int32)), .unset] [(.int (1 : Int32)), (.int (3 : Int32))])
        refine o_icmpF X hx 130 (hb hby at_127) rfl (by decide : ¬ (3 : Int32) < (1 : Int32)) ?_
        refine o_aload X hx 132 (hb hby at_130) rfl rfl rfl ?_
        refine o_iloadN X hx 133 (hb hby at_132) rfl rfl ?_
        refine o_iconst X hx 134 (1 : Int32) (hb hby at_133) rfl rfl ?_
        refine o_iand X hx 135 (hb hby at_134) rfl ?_
        have JT0 : ∀ b : Int32, (b = 0 ∨ b = 1) → Wout p e below (Pst s (Q_law Z p1 p2 p3 p4 p5 p6 cs h0 n0) room_1.cells room_1.slots) T (mkF m 143 #[.val (.int p1), .val (.int p2), .val (.int p3), .val (.int p4), .val (.int p5), .val (.int p6), .val (.int (3 : Int32)), .val (.int (3 : Int32)), .val (.ref b31), .val (.ref b38), .val (.int (1 : Int32)), .unset] [(.int b), (.ref b38)]) := by
          intro b hb'
          refine o_callS X hx hZ hown (hw _ (List.mem_of_getElem? (i := 44) rfl)) (hw _ (List.mem_of_getElem? (i := 45) rfl)) (hw _ (List.mem_of_getElem? (i := 46) rfl)) (hw _ (List.mem_of_getElem? (i := 47) rfl)) (by decide) (rm_take l Z a0 hw [] b38 b31 s0 k31 (0 : Int32) (1 : Int32) (3 : Int32) [(.ref s0), (.ref s1), (.ref s2)] _ b _ n0 Z0 E_b38 F1 F2 V_b31 F3 g_b38 ne_b31_b38 (by decide) rfl (by decide) hb') eT (by decide) 0 (by decide) (by rw [hml]; rfl) [(.ref b38), (.int b)] (rest := []) (lenOf pd_7 rfl) rfl rfl (Nat.le_of_eq rfl) (by decide) (by decide) 146 (hb hby at_143) rfl (fun v T h50 Lc X eT q => ?_)
          obtain ⟨u', rfl, N', K1, E', G1, G2, G3⟩ := q
          replace N := Fr.app N N'
          replace V_b31 := V_b31.keep K1 (ninS ne_b31_b38 nin0)
          replace E_s0 := E_s0.keep K1
          replace E_s1 := E_s1.keep K1
          replace E_s2 := E_s2.keep K1
          replace Z0 := Nat.le_trans Z0 K1.1
          replace O := O.keep K1 (allS (P := fun x => n0 ≤ x) g_b38 all0)
          replace E_b38 := E'
          replace F1 := G1
          replace F2 := G2
          replace F3 := G3
          show Wout p e below _ T (mkF m 146 #[.val (.int p1), .val (.int p2), .val (.int p3), .val (.int p4), .val (.int p5), .val (.int p6), .val (.int (3 : Int32)), .val (.int (3 : Int32)), .val (.ref b31), .val (.ref b38), .val (.int (1 : Int32)), .unset] [(.ref s0)])
          refine o_astore X hx 148 (Ls' := #[.val (.int p1), .val (.int p2), .val (.int p3), .val (.int p4), .val (.int p5), .val (.int p6), .val (.int (3 : Int32)), .val (.int (3 : Int32)), .val (.ref b31), .val (.ref b38), .val (.int (1 : Int32)), .val (.ref s0)]) (hb hby at_146) rfl rfl rfl ?_
          refine o_iload X hx 150 (hb hby at_148) rfl rfl ?_
          refine o_ifF X hx 153 (hb hby at_150) rfl (by decide : ¬ (1 : Int32) = (0 : Int32)) ?_
          refine o_aload X hx 155 (hb hby at_153) rfl rfl rfl ?_
          refine o_aload X hx 157 (hb hby at_155) rfl rfl rfl ?_
          refine o_iconst X hx 158 (0 : Int32) (hb hby at_157) rfl rfl ?_
          refine o_aaload X hx hZ eT V_b31 rfl ⟨by decide, by decide⟩ (v := (.ref s0)) rfl 159 (hb hby at_158) rfl ?_
          refine o_callV X hx hZ hown (hw _ (List.mem_of_getElem? (i := 54) rfl)) (hw _ (List.mem_of_getElem? (i := 55) rfl)) (hw _ (List.mem_of_getElem? (i := 57) rfl)) (hw _ (List.mem_of_getElem? (i := 56) rfl)) (hw _ (List.mem_of_getElem? (i := 22) rfl)) (hw _ (List.mem_of_getElem? (i := 58) rfl)) (by decide) (rm_seq l Z a0 hw [] s0 _ n0 Z0) eT (by decide) 0 (by decide) (by rw [hml]; rfl) E_s0 [(.ref s0)] (rest := []) (lenOf pd_8 rfl) rfl rfl (Nat.le_of_eq rfl) (by decide) (by decide) 162 (hb hby at_159) rfl (fun v T h51 Lc X eT q => ?_)
          obtain ⟨rfl, N', e'⟩ := q
          replace N := Fr.app N N'
          replace eT := eT.trans e'
          show Wout p e below _ T (mkF m 162 #[.val (.int p1), .val (.int p2), .val (.int p3), .val (.int p4), .val (.int p5), .val (.int p6), .val (.int (3 : Int32)), .val (.int (3 : Int32)), .val (.ref b31), .val (.ref b38), .val (.int (1 : Int32)), .val (.ref s0)] [(.int (1 : Int32))])
          refine o_ifF X hx 165 (hb hby at_162) rfl (by decide : ¬ (1 : Int32) = (0 : Int32)) ?_
          refine o_iconst X hx 166 (1 : Int32) (hb hby at_165) rfl rfl ?_
          refine o_goto X hx 170 (hb hby at_166) rfl ?_
          refine o_istore X hx 172 (Ls' := #[.val (.int p1), .val (.int p2), .val (.int p3), .val (.int p4), .val (.int p5), .val (.int p6), .val (.int (3 : Int32)), .val (.int (3 : Int32)), .val (.ref b31), .val (.ref b38), .val (.int (1 : Int32)), .val (.ref s0)]) (hb hby at_170) rfl rfl ?_
          refine o_iload X hx 174 (hb hby at_172) rfl rfl ?_
          refine o_ifF X hx 177 (hb hby at_174) rfl (by decide : ¬ (1 : Int32) = (0 : Int32)) ?_
          refine o_aload X hx 179 (hb hby at_177) rfl rfl rfl ?_
          refine o_callV X hx hZ hown (hw _ (List.mem_of_getElem? (i := 13) rfl)) (hw _ (List.mem_of_getElem? (i := 14) rfl)) (hw _ (List.mem_of_getElem? (i := 16) rfl)) (hw _ (List.mem_of_getElem? (i := 15) rfl)) (hw _ (List.mem_of_getElem? (i := 4) rfl)) (hw _ (List.mem_of_getElem? (i := 17) rfl)) (by decide) (rm_has1 l Z a0 hw [] b38 b31 k31 (1 : Int32) (3 : Int32) [(.ref s0), (.ref s1), (.ref s2)] _ n0 Z0 F1 F2 V_b31 (by decide)) eT (by decide) 0 (by decide) (by rw [hml]; rfl) E_b38 [] (rest := []) (lenOf pd_3 rfl) rfl rfl (Nat.le_of_eq rfl) (by decide) (by decide) 182 (hb hby at_179) rfl (fun v T h52 Lc X eT q => ?_)
          obtain ⟨rfl, N', e'⟩ := q
          replace N := Fr.app N N'
          replace eT := eT.trans e'
          show Wout p e below _ T (mkF m 182 #[.val (.int p1), .val (.int p2), .val (.int p3), .val (.int p4), .val (.int p5), .val (.int p6), .val (.int (3 : Int32)), .val (.int (3 : Int32)), .val (.ref b31), .val (.ref b38), .val (.int (1 : Int32)), .val (.ref s0)] [(.int (1 : Int32))])
          refine o_iconst X hx 183 (1 : Int32) (hb hby at_182) rfl rfl ?_
          refine o_iload X hx 185 (hb hby at_183) rfl rfl ?_
          refine o_icmpF X hx 188 (hb hby at_185) rfl (by decide : (1 : Int32) < (3 : Int32)) ?_
          refine o_iconst X hx 189 (1 : Int32) (hb hby at_188) rfl rfl ?_
          refine o_goto X hx 193 (hb hby at_189) rfl ?_
          refine o_icmpF X hx 196 (hb hby at_193) rfl (by decide : (1 : Int32) = (1 : Int32)) ?_
          refine o_iconst X hx 197 (1 : Int32) (hb hby at_196) rfl rfl ?_
          refine o_goto X hx 201 (hb hby at_197) rfl ?_
          refine o_istore X hx 203 (Ls' := #[.val (.int p1), .val (.int p2), .val (.int p3), .val (.int p4), .val (.int p5), .val (.int p6), .val (.int (3 : Int32)), .val (.int (3 : Int32)), .val (.ref b31), .val (.ref b38), .val (.int (1 : Int32)), .val (.ref s0)]) (hb hby at_201) rfl rfl ?_
          refine o_iload X hx 205 (hb hby at_203) rfl rfl ?_
          refine o_iconst X hx 206 (2 : Int32) (hb hby at_205) rfl rfl ?_
          refine o_icmpF X hx 209 (hb hby at_206) rfl (by decide : ¬ (3 : Int32) < (2 : Int32)) ?_
          refine o_aload X hx 211 (hb hby at_209) rfl rfl rfl ?_
          refine o_iloadN X hx 212 (hb hby at_211) rfl rfl ?_
          refine o_iconst X hx 213 (2 : Int32) (hb hby at_212) rfl rfl ?_
          refine o_iand X hx 214 (hb hby at_213) rfl ?_
          have JT1 : ∀ b : Int32, (b = 0 ∨ b = 1) → Wout p e below (Pst s (Q_law Z p1 p2 p3 p4 p5 p6 cs h0 n0) room_1.cells room_1.slots) T (mkF m 222 #[.val (.int p1), .val (.int p2), .val (.int p3), .val (.int p4), .val (.int p5), .val (.int p6), .val (.int (3 : Int32)), .val (.int (3 : Int32)), .val (.ref b31), .val (.ref b38), .val (.int (1 : Int32)), .val (.ref s0)] [(.int b), (.ref b38)]) := by
            intro b hb'
            refine o_callS X hx hZ hown (hw _ (List.mem_of_getElem? (i := 44) rfl)) (hw _ (List.mem_of_getElem? (i := 45) rfl)) (hw _ (List.mem_of_getElem? (i := 46) rfl)) (hw _ (List.mem_of_getElem? (i := 47) rfl)) (by decide) (rm_take l Z a0 hw [] b38 b31 s1 k31 (1 : Int32) (2 : Int32) (3 : Int32) [(.ref s0), (.ref s1), (.ref s2)] _ b _ n0 Z0 E_b38 F1 F2 V_b31 F3 g_b38 ne_b31_b38 (by decide) rfl (by decide) hb') eT (by decide) 0 (by decide) (by rw [hml]; rfl) [(.ref b38), (.int b)] (rest := []) (lenOf pd_7 rfl) rfl rfl (Nat.le_of_eq rfl) (by decide) (by decide) 225 (hb hby at_222) rfl (fun v T h53 Lc X eT q => ?_)
            obtain ⟨u', rfl, N', K1, E', G1, G2, G3⟩ := q
            replace N := Fr.app N N'
            replace V_b31 := V_b31.keep K1 (ninS ne_b31_b38 nin0)
            replace E_s0 := E_s0.keep K1
            replace E_s1 := E_s1.keep K1
            replace E_s2 := E_s2.keep K1
            replace Z0 := Nat.le_trans Z0 K1.1
            replace O := O.keep K1 (allS (P := fun x => n0 ≤ x) g_b38 all0)
            replace E_b38 := E'
            replace F1 := G1
            replace F2 := G2
            replace F3 := G3
            show Wout p e below _ T (mkF m 225 #[.val (.int p1), .val (.int p2), .val (.int p3), .val (.int p4), .val (.int p5), .val (.int p6), .val (.int (3 : Int32)), .val (.int (3 : Int32)), .val (.ref b31), .val (.ref b38), .val (.int (1 : Int32)), .val (.ref s0)] [(.ref s1)])
            refine o_astore X hx 227 (Ls' := #[.val (.int p1), .val (.int p2), .val (.int p3), .val (.int p4), .val (.int p5), .val (.int p6), .val (.int (3 : Int32)), .val (.int (3 : Int32)), .val (.ref b31), .val (.ref b38), .val (.int (1 : Int32)), .val (.ref s1)]) (hb hby at_225) rfl rfl rfl ?_
            refine o_iload X hx 229 (hb hby at_227) rfl rfl ?_
            refine o_ifF X hx 232 (hb hby at_229) rfl (by decide : ¬ (1 : Int32) = (0 : Int32)) ?_
            refine o_aload X hx 234 (hb hby at_232) rfl rfl rfl ?_
            refine o_aload X hx 236 (hb hby at_234) rfl rfl rfl ?_
            refine o_iconst X hx 237 (1 : Int32) (hb hby at_236) rfl rfl ?_
            refine o_aaload X hx hZ eT V_b31 rfl ⟨by decide, by decide⟩ (v := (.ref s1)) rfl 238 (hb hby at_237) rfl ?_
            refine o_callV X hx hZ hown (hw _ (List.mem_of_getElem? (i := 54) rfl)) (hw _ (List.mem_of_getElem? (i := 55) rfl)) (hw _ (List.mem_of_getElem? (i := 57) rfl)) (hw _ (List.mem_of_getElem? (i := 56) rfl)) (hw _ (List.mem_of_getElem? (i := 22) rfl)) (hw _ (List.mem_of_getElem? (i := 58) rfl)) (by decide) (rm_seq l Z a0 hw [] s1 _ n0 Z0) eT (by decide) 0 (by decide) (by rw [hml]; rfl) E_s1 [(.ref s1)] (rest := []) (lenOf pd_8 rfl) rfl rfl (Nat.le_of_eq rfl) (by decide) (by decide) 241 (hb hby at_238) rfl (fun v T h54 Lc X eT q => ?_)
            obtain ⟨rfl, N', e'⟩ := q
            replace N := Fr.app N N'
            replace eT := eT.trans e'
            show Wout p e below _ T (mkF m 241 #[.val (.int p1), .val (.int p2), .val (.int p3), .val (.int p4), .val (.int p5), .val (.int p6), .val (.int (3 : Int32)), .val (.int (3 : Int32)), .val (.ref b31), .val (.ref b38), .val (.int (1 : Int32)), .val (.ref s1)] [(.int (1 : Int32))])
            refine o_ifF X hx 244 (hb hby at_241) rfl (by decide : ¬ (1 : Int32) = (0 : Int32)) ?_
            refine o_iconst X hx 245 (1 : Int32) (hb hby at_244) rfl rfl ?_
            refine o_goto X hx 249 (hb hby at_245) rfl ?_
            refine o_istore X hx 251 (Ls' := #[.val (.int p1), .val (.int p2), .val (.int p3), .val (.int p4), .val (.int p5), .val (.int p6), .val (.int (3 : Int32)), .val (.int (3 : Int32)), .val (.ref b31), .val (.ref b38), .val (.int (1 : Int32)), .val (.ref s1)]) (hb hby at_249) rfl rfl ?_
            refine o_iload X hx 253 (hb hby at_251) rfl rfl ?_
            refine o_ifF X hx 256 (hb hby at_253) rfl (by decide : ¬ (1 : Int32) = (0 : Int32)) ?_
            refine o_aload X hx 258 (hb hby at_256) rfl rfl rfl ?_
            refine o_callV X hx hZ hown (hw _ (List.mem_of_getElem? (i := 13) rfl)) (hw _ (List.mem_of_getElem? (i := 14) rfl)) (hw _ (List.mem_of_getElem? (i := 16) rfl)) (hw _ (List.mem_of_getElem? (i := 15) rfl)) (hw _ (List.mem_of_getElem? (i := 4) rfl)) (hw _ (List.mem_of_getElem? (i := 17) rfl)) (by decide) (rm_has1 l Z a0 hw [] b38 b31 k31 (2 : Int32) (3 : Int32) [(.ref s0), (.ref s1), (.ref s2)] _ n0 Z0 F1 F2 V_b31 (by decide)) eT (by decide) 0 (by decide) (by rw [hml]; rfl) E_b38 [] (rest := []) (lenOf pd_3 rfl) rfl rfl (Nat.le_of_eq rfl) (by decide) (by decide) 261 (hb hby at_258) rfl (fun v T h55 Lc X eT q => ?_)
            obtain ⟨rfl, N', e'⟩ := q
            replace N := Fr.app N N'
            replace eT := eT.trans e'
            show Wout p e below _ T (mkF m 261 #[.val (.int p1), .val (.int p2), .val (.int p3), .val (.int p4), .val (.int p5), .val (.int p6), .val (.int (3 : Int32)), .val (.int (3 : Int32)), .val (.ref b31), .val (.ref b38), .val (.int (1 : Int32)), .val (.ref s1)] [(.int (1 : Int32))])
            refine o_iconst X hx 262 (2 : Int32) (hb hby at_261) rfl rfl ?_
            refine o_iload X hx 264 (hb hby at_262) rfl rfl ?_
            refine o_icmpF X hx 267 (hb hby at_264) rfl (by decide : (2 : Int32) < (3 : Int32)) ?_
            refine o_iconst X hx 268 (1 : Int32) (hb hby at_267) rfl rfl ?_
            refine o_goto X hx 272 (hb hby at_268) rfl ?_
            refine o_icmpF X hx 275 (hb hby at_272) rfl (by decide : (1 : Int32) = (1 : Int32)) ?_
            refine o_iconst X hx 276 (1 : Int32) (hb hby at_275) rfl rfl ?_
            refine o_goto X hx 280 (hb hby at_276) rfl ?_
            refine o_istore X hx 282 (Ls' := #[.val (.int p1), .val (.int p2), .val (.int p3), .val (.int p4), .val (.int p5), .val (.int p6), .val (.int (3 : Int32)), .val (.int (3 : Int32)), .val (.ref b31), .val (.ref b38), .val (.int (1 : Int32)), .val (.ref s1)]) (hb hby at_280) rfl rfl ?_
            refine o_iload X hx 284 (hb hby at_282) rfl rfl ?_
            refine o_iconst X hx 285 (3 : Int32) (hb hby at_284) rfl rfl ?_
            refine o_icmpF X hx 288 (hb hby at_285) rfl (by decide : ¬ (3 : Int32) < (3 : Int32)) ?_
            refine o_aload X hx 290 (hb hby at_288) rfl rfl rfl ?_
            refine o_iloadN X hx 291 (hb hby at_290) rfl rfl ?_
            refine o_iconst X hx 292 (4 : Int32) (hb hby at_291) rfl rfl ?_
            refine o_iand X hx 293 (hb hby at_292) rfl ?_
            have JT2 : ∀ b : Int32, (b = 0 ∨ b = 1) → Wout p e below (Pst s (Q_law Z p1 p2 p3 p4 p5 p6 cs h0 n0) room_1.cells room_1.slots) T (mkF m 301 #[.val (.int p1), .val (.int p2), .val (.int p3), .val (.int p4), .val (.int p5), .val (.int p6), .val (.int (3 : Int32)), .val (.int (3 : Int32)), .val (.ref b31), .val (.ref b38), .val (.int (1 : Int32)), .val (.ref s1)] [(.int b), (.ref b38)]) := by
              intro b hb'
              refine o_callS X hx hZ hown (hw _ (List.mem_of_getElem? (i := 44) rfl)) (hw _ (List.mem_of_getElem? (i := 45) rfl)) (hw _ (List.mem_of_getElem? (i := 46) rfl)) (hw _ (List.mem_of_getElem? (i := 47) rfl)) (by decide) (rm_take l Z a0 hw [] b38 b31 s2 k31 (2 : Int32) (3 : Int32) (3 : Int32) [(.ref s0), (.ref s1), (.ref s2)] _ b _ n0 Z0 E_b38 F1 F2 V_b31 F3 g_b38 ne_b31_b38 (by decide) rfl (by decide) hb') eT (by decide) 0 (by decide) (by rw [hml]; rfl) [(.ref b38), (.int b)] (rest := []) (lenOf pd_7 rfl) rfl rfl (Nat.le_of_eq rfl) (by decide) (by decide) 304 (hb hby at_301) rfl (fun v T h56 Lc X eT q => ?_)
              obtain ⟨u', rfl, N', K1, E', G1, G2, G3⟩ := q
              replace N := Fr.app N N'
              replace V_b31 := V_b31.keep K1 (ninS ne_b31_b38 nin0)
              replace E_s0 := E_s0.keep K1
              replace E_s1 := E_s1.keep K1
              replace E_s2 := E_s2.keep K1
              replace Z0 := Nat.le_trans Z0 K1.1
              replace O := O.keep K1 (allS (P := fun x => n0 ≤ x) g_b38 all0)
              replace E_b38 := E'
              replace F1 := G1
              replace F2 := G2
              replace F3 := G3
              show Wout p e below _ T (mkF m 304 #[.val (.int p1), .val (.int p2), .val (.int p3), .val (.int p4), .val (.int p5), .val (.int p6), .val (.int (3 : Int32)), .val (.int (3 : Int32)), .val (.ref b31), .val (.ref b38), .val (.int (1 : Int32)), .val (.ref s1)] [(.ref s2)])
              refine o_astore X hx 306 (Ls' := #[.val (.int p1), .val (.int p2), .val (.int p3), .val (.int p4), .val (.int p5), .val (.int p6), .val (.int (3 : Int32)), .val (.int (3 : Int32)), .val (.ref b31), .val (.ref b38), .val (.int (1 : Int32)), .val (.ref s2)]) (hb hby at_304) rfl rfl rfl ?_
              refine o_iload X hx 308 (hb hby at_306) rfl rfl ?_
              refine o_ifF X hx 311 (hb hby at_308) rfl (by decide : ¬ (1 : Int32) = (0 : Int32)) ?_
              refine o_aload X hx 313 (hb hby at_311) rfl rfl rfl ?_
              refine o_aload X hx 315 (hb hby at_313) rfl rfl rfl ?_
              refine o_iconst X hx 316 (2 : Int32) (hb hby at_315) rfl rfl ?_
              refine o_aaload X hx hZ eT V_b31 rfl ⟨by decide, by decide⟩ (v := (.ref s2)) rfl 317 (hb hby at_316) rfl ?_
              refine o_callV X hx hZ hown (hw _ (List.mem_of_getElem? (i := 54) rfl)) (hw _ (List.mem_of_getElem? (i := 55) rfl)) (hw _ (List.mem_of_getElem? (i := 57) rfl)) (hw _ (List.mem_of_getElem? (i := 56) rfl)) (hw _ (List.mem_of_getElem? (i := 22) rfl)) (hw _ (List.mem_of_getElem? (i := 58) rfl)) (by decide) (rm_seq l Z a0 hw [] s2 _ n0 Z0) eT (by decide) 0 (by decide) (by rw [hml]; rfl) E_s2 [(.ref s2)] (rest := []) (lenOf pd_8 rfl) rfl rfl (Nat.le_of_eq rfl) (by decide) (by decide) 320 (hb hby at_317) rfl (fun v T h57 Lc X eT q => ?_)
              obtain ⟨rfl, N', e'⟩ := q
              replace N := Fr.app N N'
              replace eT := eT.trans e'
              show Wout p e below _ T (mkF m 320 #[.val (.int p1), .val (.int p2), .val (.int p3), .val (.int p4), .val (.int p5), .val (.int p6), .val (.int (3 : Int32)), .val (.int (3 : Int32)), .val (.ref b31), .val (.ref b38), .val (.int (1 : Int32)), .val (.ref s2)] [(.int (1 : Int32))])
              refine o_ifF X hx 323 (hb hby at_320) rfl (by decide : ¬ (1 : Int32) = (0 : Int32)) ?_
              refine o_iconst X hx 324 (1 : Int32) (hb hby at_323) rfl rfl ?_
              refine o_goto X hx 328 (hb hby at_324) rfl ?_
              refine o_istore X hx 330 (Ls' := #[.val (.int p1), .val (.int p2), .val (.int p3), .val (.int p4), .val (.int p5), .val (.int p6), .val (.int (3 : Int32)), .val (.int (3 : Int32)), .val (.ref b31), .val (.ref b38), .val (.int (1 : Int32)), .val (.ref s2)]) (hb hby at_328) rfl rfl ?_
              refine o_iload X hx 332 (hb hby at_330) rfl rfl ?_
              refine o_ifF X hx 335 (hb hby at_332) rfl (by decide : ¬ (1 : Int32) = (0 : Int32)) ?_
              refine o_aload X hx 337 (hb hby at_335) rfl rfl rfl ?_
              refine o_callV X hx hZ hown (hw _ (List.mem_of_getElem? (i := 13) rfl)) (hw _ (List.mem_of_getElem? (i := 14) rfl)) (hw _ (List.mem_of_getElem? (i := 16) rfl)) (hw _ (List.mem_of_getElem? (i := 15) rfl)) (hw _ (List.mem_of_getElem? (i := 4) rfl)) (hw _ (List.mem_of_getElem? (i := 17) rfl)) (by decide) (rm_has0 l Z a0 hw [] b38 b31 k31 (3 : Int32) (3 : Int32) [(.ref s0), (.ref s1), (.ref s2)] _ n0 Z0 F1 F2 V_b31 (by decide)) eT (by decide) 0 (by decide) (by rw [hml]; rfl) E_b38 [] (rest := []) (lenOf pd_3 rfl) rfl rfl (Nat.le_of_eq rfl) (by decide) (by decide) 340 (hb hby at_337) rfl (fun v T h58 Lc X eT q => ?_)
              obtain ⟨rfl, N', e'⟩ := q
              replace N := Fr.app N N'
              replace eT := eT.trans e'
              show Wout p e below _ T (mkF m 340 #[.val (.int p1), .val (.int p2), .val (.int p3), .val (.int p4), .val (.int p5), .val (.int p6), .val (.int (3 : Int32)), .val (.int (3 : Int32)), .val (.ref b31), .val (.ref b38), .val (.int (1 : Int32)), .val (.ref s2)] [(.int (0 : Int32))])
              refine o_iconst X hx 341 (3 : Int32) (hb hby at_340) rfl rfl ?_
              refine o_iload X hx 343 (hb hby at_341) rfl rfl ?_
              refine o_icmpT X hx 350 (hb hby at_343) rfl (by decide : ¬ (3 : Int32) < (3 : Int32)) ?_
              refine o_iconst X hx 351 (0 : Int32) (hb hby at_350) rfl rfl ?_
              refine o_icmpF X hx 354 (hb hby at_351) rfl (by decide : (0 : Int32) = (0 : Int32)) ?_
              refine o_iconst X hx 355 (1 : Int32) (hb hby at_354) rfl rfl ?_
              refine o_goto X hx 359 (hb hby at_355) rfl ?_
              refine o_istore X hx 361 (Ls' := #[.val (.int p1), .val (.int p2), .val (.int p3), .val (.int p4), .val (.int p5), .val (.int p6), .val (.int (3 : Int32)), .val (.int (3 : Int32)), .val (.ref b31), .val (.ref b38), .val (.int (1 : Int32)), .val (.ref s2)]) (hb hby at_359) rfl rfl ?_
              refine o_iload X hx 363 (hb hby at_361) rfl rfl ?_
              exact o_retI X hx hlk hret rfl (by simp) (hb hby at_363) (by decide) (by decide) (by rw [eT]; exact ⟨rfl, N, trivial⟩)
            refine o_if X hx 300 296 (hb hby at_293) rfl rfl (fun (qm : (p3 &&& (4 : Int32)) = (0 : Int32)) => ?_) (fun (qm : ¬ (p3 &&& (4 : Int32)) = (0 : Int32)) => ?_)
            · show Wout p e below _ T (mkF m 300 #[.val (.int p1), .val (.int p2), .val (.int p3), .val (.int p4), .val (.int p5), .val (.int p6), .val (.int (3 : Int32)), .val (.int (3 : Int32)), .val (.ref b31), .val (.ref b38), .val (.int (1 : Int32)), .val (.ref s1)] [(.ref b38)])
              refine o_iconst X hx 301 (0 : Int32) (hb hby at_300) rfl rfl ?_
              exact JT2 _ (Or.inl rfl)
            · show Wout p e below _ T (mkF m 296 #[.val (.int p1), .val (.int p2), .val (.int p3), .val (.int p4), .val (.int p5), .val (.int p6), .val (.int (3 : Int32)), .val (.int (3 : Int32)), .val (.ref b31), .val (.ref b38), .val (.int (1 : Int32)), .val (.ref s1)] [(.ref b38)])
              refine o_iconst X hx 297 (1 : Int32) (hb hby at_296) rfl rfl ?_
              refine o_goto X hx 301 (hb hby at_297) rfl ?_
              exact JT2 _ (Or.inr rfl)
          refine o_if X hx 221 217 (hb hby at_214) rfl rfl (fun (qm : (p3 &&& (2 : Int32)) = (0 : Int32)) => ?_) (fun (qm : ¬ (p3 &&& (2 : Int32)) = (0 : Int32)) => ?_)
          · show Wout p e below _ T (mkF m 221 #[.val (.int p1), .val (.int p2), .val (.int p3), .val (.int p4), .val (.int p5), .val (.int p6), .val (.int (3 : Int32)), .val (.int (3 : Int32)), .val (.ref b31), .val (.ref b38), .val (.int (1 : Int32)), .val (.ref s0)] [(.ref b38)])
            refine o_iconst X hx 222 (0 : Int32) (hb hby at_221) rfl rfl ?_
            exact JT1 _ (Or.inl rfl)
          · show Wout p e below _ T (mkF m 217 #[.val (.int p1), .val (.int p2), .val (.int p3), .val (.int p4), .val (.int p5), .val (.int p6), .val (.int (3 : Int32)), .val (.int (3 : Int32)), .val (.ref b31), .val (.ref b38), .val (.int (1 : Int32)), .val (.ref s0)] [(.ref b38)])
            refine o_iconst X hx 218 (1 : Int32) (hb hby at_217) rfl rfl ?_
            refine o_goto X hx 222 (hb hby at_218) rfl ?_
            exact JT1 _ (Or.inr rfl)
        refine o_if X hx 142 138 (hb hby at_135) rfl rfl (fun (qm : (p3 &&& (1 : Int32)) = (0 : Int32)) => ?_) (fun (qm : ¬ (p3 &&& (1 : Int32)) = (0 : Int32)) => ?_)
        · show Wout p e below _ T (mkF m 142 #[.val (.int p1), .val (.int p2), .val (.int p3), .val (.int p4), .val (.int p5), .val (.int p6), .val (.int (3 : Int32)), .val (.int (3 : Int32)), .val (.ref b31), .val (.ref b38), .val (.int (1 : Int32)), .unset] [(.ref b38)])
          refine o_iconst X hx 143 (0 : Int32) (hb hby at_142) rfl rfl ?_
          exact JT0 _ (Or.inl rfl)
        · show Wout p e below _ T (mkF m 138 #[.val (.int p1), .val (.int p2), .val (.int p3), .val (.int p4), .val (.int p5), .val (.int p6), .val (.int (3 : Int32)), .val (.int (3 : Int32)), .val (.ref b31), .val (.ref b38), .val (.int (1 : Int32)), .unset] [(.ref b38)])
          refine o_iconst X hx 139 (1 : Int32) (hb hby at_138) rfl rfl ?_
          refine o_goto X hx 143 (hb hby at_139) rfl ?_
          exact JT0 _ (Or.inr rfl)
    rcases hk with rfl | rfl | rfl | rfl
    · show Wout p e below _ T (mkF m 10 #[.val (.int p1), .val (.int p2), .val (.int p3), .val (.int p4), .val (.int p5), .val (.int p6), .val (.int (3 : Int32)), .val (.int (0 : Int32)), .unset, .unset, .unset, .unset] [])
      refine o_iload X hx 12 (hb hby at_10) rfl rfl ?_
      refine o_iload X hx 14 (hb hby at_12) rfl rfl ?_
      refine o_icmpT X hx 21 (hb hby at_14) rfl (by decide : ¬ (3 : Int32) < (0 : Int32)) ?_
      exact J _ (by decide)
    · show Wout p e below _ T (mkF m 10 #[.val (.int p1), .val (.int p2), .val (.int p3), .val (.int p4), .val (.int p5), .val (.int p6), .val (.int (3 : Int32)), .val (.int (1 : Int32)), .unset, .unset, .unset, .unset] [])
      refine o_iload X hx 12 (hb hby at_10) rfl rfl ?_
      refine o_iload X hx 14 (hb hby at_12) rfl rfl ?_
      refine o_icmpT X hx 21 (hb hby at_14) rfl (by decide : ¬ (3 : Int32) < (1 : Int32)) ?_
      exact J _ (by decide)
    · show Wout p e below _ T (mkF m 10 #[.val (.int p1), .val (.int p2), .val (.int p3), .val (.int p4), .val (.int p5), .val (.int p6), .val (.int (3 : Int32)), .val (.int (2 : Int32)), .unset, .unset, .unset, .unset] [])
      refine o_iload X hx 12 (hb hby at_10) rfl rfl ?_
      refine o_iload X hx 14 (hb hby at_12) rfl rfl ?_
      refine o_icmpT X hx 21 (hb hby at_14) rfl (by decide : ¬ (3 : Int32) < (2 : Int32)) ?_
      exact J _ (by decide)
    · show Wout p e below _ T (mkF m 10 #[.val (.int p1), .val (.int p2), .val (.int p3), .val (.int p4), .val (.int p5), .val (.int p6), .val (.int (3 : Int32)), .val (.int (3 : Int32)), .unset, .unset, .unset, .unset] [])
      refine o_iload X hx 12 (hb hby at_10) rfl rfl ?_
      refine o_iload X hx 14 (hb hby at_12) rfl rfl ?_
      refine o_icmpT X hx 21 (hb hby at_14) rfl (by decide : ¬ (3 : Int32) < (3 : Int32)) ?_
      exact J _ (by decide)
set_option maxRecDepth 65536 in
set_option maxHeartbeats 40000000 in
theorem comes_1 {Post : Tables → Env → Array Value → State → Outcome → State → Prop} (hpost : ∀ tb e args s v u, (limb_1_1.after args s (.returned v) u = true ∧ limb_1_2.after args s (.returned v) u = true ∧ True) → FrameEnd s (.returned v) u (Jvm.fieldLocs frame_1_writes args s ++ Jvm.arrayLocs frame_1_arrays args s ++ Jvm.staticLocs frame_1_statics s) 24 128 → Post tb e args s (.returned v) u) :
    ArmFor flags0 classFile x code maxLocals ret World_1 tables_1 room_1 Calls_1 rest_1 Pre_1 Post := by
  intro l hfl _ _ p e ha hc hk s m args below hf hA hF happ hP
  obtain ⟨hcalls, hrest, hpre⟩ := hP
  obtain ⟨-, -, -, hnamed, -, -, -, hat⟩ := (Spec.applies_iff hf).mp happ
  obtain ⟨hg, hn⟩ := and_e (Cond.before_iff.mp (show (Jvm.Cond.and given_1 narrow_1).before args s = true from hpre))
  obtain ⟨h1, hgs⟩ := and_e hg
  obtain ⟨w0, w1, w2, w3, w4, w5, rfl⟩ : ∃ w0 w1 w2 w3 w4 w5 : Value, args = #[w0, w1, w2, w3, w4, w5] := by
    have hs : args.size = 6 := by simpa [Cond.value, given_1] using h1
    obtain ⟨L⟩ := args
    match L, hs with
    | [w0, w1, w2, w3, w4, w5], _ => exact ⟨w0, w1, w2, w3, w4, w5, rfl⟩
  have hw := fun d (hd : d ∈ tables_1) => atoms_spec (ws := Jvm.Cond.code x code maxLocals ret :: tables_1) hat d (List.mem_cons_of_mem _ hd)
  have hfit : Fit s := fun {y c} hc i hi => by
    obtain ⟨ha, rfl⟩ := Array.getElem?_eq_some_iff.mp hc
    have q := List.all_eq_true.mp ((Array.all_eq_true_iff_forall_mem.mp hF) _ (Array.getElem_mem ha)) i (List.mem_range.mpr hi)
    simpa [Array.getElem?_eq_getElem hi] using q
  obtain ⟨hg0, hgs⟩ := and_e hgs
  obtain ⟨i0, e0⟩ := is_v hg0
  obtain rfl : w0 = (.int i0) := Option.some.inj e0
  obtain ⟨hg1, hgs⟩ := and_e hgs
  obtain ⟨i1, e1⟩ := is_v hg1
  obtain rfl : w1 = (.int i1) := Option.some.inj e1
  obtain ⟨hg2, hgs⟩ := and_e hgs
  obtain ⟨i2, e2⟩ := is_v hg2
  obtain rfl : w2 = (.int i2) := Option.some.inj e2
  obtain ⟨hg3, hgs⟩ := and_e hgs
  obtain ⟨i3, e3⟩ := is_v hg3
  obtain rfl : w3 = (.int i3) := Option.some.inj e3
  obtain ⟨hg4, hgs⟩ := and_e hgs
  obtain ⟨i4, e4⟩ := is_v hg4
  obtain rfl : w4 = (.int i4) := Option.some.inj e4
  obtain ⟨i5, e5⟩ := is_v hgs
  obtain rfl : w5 = (.int i5) := Option.some.inj e5
  have hsets := (atoms_of (args := #[(.int i0), (.int i1), (.int i2), (.int i3), (.int i4), (.int i5)]) (s := s) (own := restOwn_1) jdkStatics_1 (by have q : (rest_1_c).before #[(.int i0), (.int i1), (.int i2), (.int i3), (.int i4), (.int i5)] s = true := hrest; rw [rest_1_c_eq] at q; exact q)).1
  have hw : ∀ d ∈ own_words, d.before _ s = true := fun d hd => (List.mem_append.mp hd).elim (hw d) (hsets d)
  obtain ⟨cs, SC, hcs⟩ := sta_bool (C := "java/lang/String") (n := "COMPACT_STRINGS") (d := "Z") (hsets _ (List.mem_of_getElem? (i := 0) rfl)) (hsets _ (List.mem_of_getElem? (i := 1) rfl)) (hsets _ (List.mem_of_getElem? (i := 2) rfl))
  obtain ⟨n, o, h1, h2, h3, _, L, rfl, ⟨rfl, N, _⟩, hq⟩ := rm_law l s _ hw tables_1 i0 i1 i2 i3 i4 i5 cs s.heap s.heap.size (Nat.le_refl _) (Old.start s) SC hcs p e ha hc hk s m _ below hf ((Spec.applies_iff_loose hf).mp happ).1 ⟨rfl, State.Warmed39.refl s, rfl⟩ trivial
  refine ⟨n, _, h1, h2, h3, hpost _ _ _ _ _ _ ⟨Cond.after_iff.mpr rfl, Cond.after_iff.mpr (eq_i res_at (Term.int_eval (1)) rfl), trivial⟩ ⟨hq.1, hq.2.1, (hq.2.2.sift fun y hy => Or.inr (N y hy)).mono (by decide) (by decide)⟩⟩
theorem main_1_1 : Claimed_1_1 := comes_1 fun _ _ _ _ _ _ h hF => ⟨h.1, hF⟩
theorem main_1_2 : Claimed_1_2 := comes_1 fun _ _ _ _ _ _ h hF => ⟨h.2.1, hF⟩
end Jvm.Pilot.@@N@@
namespace Jvm.Pilot.@@N@@
open Jvm Jvm.ClassFile Sem Op Lib Jvm.Free Jvm.Stand Jvm.Pilot.@@N@@.Jvm.D
/-! MADE BY PROGRAM (witnessworld.py) out of the Statement's table words and the real class files: 18 classes; the members and pool entries that the words name. The judged class is class 1, her method 2. -/
namespace start1
open Jvm.ClassFile
def u (s : String) : CpInfo := .utf8 (stringToUtf16 s)
/-- a pool by its gaps: so many unusable entries, then the entry; so many at the end -/
def gap : Nat → List CpInfo → List CpInfo
  | 0, r => r
  | n + 1, r => .unusable :: gap n r
def poolList (es : List (Nat × CpInfo)) (last : Nat) : List CpInfo := es.foldr (fun e r => gap e.1 (e.2 :: r)) (gap last [])
def pool (es : List (Nat × CpInfo)) (last : Nat) : Array CpInfo := ⟨poolList es last⟩
def fileOf (pool : Array CpInfo) (this : Nat) (attrs : Array Attribute := #[]) (ms : Array MethodInfo := #[]) (fl : Nat := 33) (sup : Nat := 0) (ifs : Array Nat := #[]) (fds : Array FieldInfo := #[]) : ClassFile where
  minorVersion := 0
  majorVersion := 65
  constantPool := pool
  accessFlags := fl
  thisClass := this
  superClass := sup
  interfaces := ifs
  fields := fds
  methods := ms
  attributes := attrs
def plain (name : String) (sup : Option ClassId) : Class where
  name := name
  kind := .ordinary
  loader := none
  accessFlags := 33
  super := sup
  interfaces := #[]
  cf := none
  fields := #[]
  methods := #[]
  instanceTypes := #[]
  staticTypes := #[]
  resolved := #[]
  callSites := []
  init := .initialized
  statics := none
  mirror := none

def pool0 : Array CpInfo := pool [(5, u "<init>"), (0, u "()V"), (1, .class_ 10), (1, u "java/lang/Object")] 113

def k0c0 : Code := { maxStack := 0, maxLocals := 1, code := object_method_1_code, exceptionTable := #[], attributes := #[] }
def k0m0 : Method := { name := "<init>", desc := "()V", sig := { parameters := [], returnType := none }, accessFlags := 1, code := some k0c0 }
/-- java/lang/Object -/
def k0 : Class := { plain "java/lang/Object" none with
  accessFlags := 33
  interfaces := #[]
  cf := some (fileOf pool0 8 #[] #[{ accessFlags := 1, nameIndex := 5, descriptorIndex := 6, attributes := #[] }] 33 0 #[] #[])
  fields := #[]
  methods := #[k0m0]
  instanceTypes := #[]
  staticTypes := #[]
  resolved := Array.replicate 124 none
  statics := none }

def pool1 : Array CpInfo := pool [(2, .class_ 4), (1, u "java/lang/Object"), (0, u "<init>"), (0, u "()V"), (0, .methodref 8 9), (0, .class_ 10), (0, .nameAndType 11 12), (0, u "com/example/varasto/varasto/util/OptionReader"), (0, u "value"), (0, u "()Ljava/lang/String;"), (0, .methodref 8 14), (0, .nameAndType 15 12), (0, u "next"), (0, .class_ 17), (0, u "java/lang/String"), (0, .methodref 16 19), (0, .nameAndType 20 21), (0, u "valueOf"), (0, u "(C)Ljava/lang/String;"), (0, .methodref 8 23), (0, .nameAndType 5 24), (0, u "([Ljava/lang/String;)V"), (0, .methodref 8 26), (0, .nameAndType 27 28), (0, u "hasNext"), (0, u "()Z"), (0, .methodref 30 31), (0, .class_ 32), (0, .nameAndType 33 34), (0, u "com/example/varasto/varasto/util/OptionReaderHasNextPinLaw"), (0, u "take"), (0, u "(Lcom/example/varasto/varasto/util/OptionReader;Z)Ljava/lang/String;"), (0, .methodref 16 36), (0, .nameAndType 37 38), (0, u "equals"), (0, u "(Ljava/lang/Object;)Z"), (3, u "law"), (0, u "(IIIIII)Z")] 4

def k1m0 : Method := { name := "<init>", desc := "()V", sig := { parameters := [], returnType := none }, accessFlags := 1, code := none }
def k1c1 : Code := { maxStack := 1, maxLocals := 2, code := method_2_code, exceptionTable := #[], attributes := #[] }
def k1m1 : Method := { name := "take", desc := "(Lcom/example/varasto/varasto/util/OptionReader;Z)Ljava/lang/String;", sig := { parameters := [(.object "com/example/varasto/varasto/util/OptionReader"), .boolean], returnType := some (.object "java/lang/String") }, accessFlags := 10, code := some k1c1 }
def k1c2 : Code := { maxStack := 4, maxLocals := 12, code := code, exceptionTable := #[], attributes := #[] }
def k1m2 : Method := { name := "law", desc := "(IIIIII)Z", sig := { parameters := [.int, .int, .int, .int, .int, .int], returnType := some .boolean }, accessFlags := 9, code := some k1c2 }
/-- com/example/varasto/varasto/util/OptionReaderHasNextPinLaw -/
def k1 : Class := { plain "com/example/varasto/varasto/util/OptionReaderHasNextPinLaw" (some 0) with
  accessFlags := 49
  interfaces := #[]
  cf := some (fileOf pool1 30 #[] #[{ accessFlags := 1, nameIndex := 5, descriptorIndex := 6, attributes := #[] }, { accessFlags := 10, nameIndex := 33, descriptorIndex := 34, attributes := #[] }, { accessFlags := 9, nameIndex := 42, descriptorIndex := 43, attributes := #[] }] 49 2 #[] #[])
  fields := #[]
  methods := #[k1m0, k1m1, k1m2]
  instanceTypes := #[]
  staticTypes := #[]
  resolved := Array.replicate 48 none
  statics := none }

def pool2 : Array CpInfo := pool [(1, .class_ 2), (0, u "java/io/Serializable"), (0, .class_ 4), (0, u "java/lang/Object")] 2

/-- java/io/Serializable -/
def k2 : Class := { plain "java/io/Serializable" (some 0) with
  accessFlags := 1537
  interfaces := #[]
  cf := some (fileOf pool2 1 #[] #[] 1537 3 #[] #[])
  fields := #[]
  methods := #[]
  instanceTypes := #[]
  staticTypes := #[]
  resolved := Array.replicate 7 none
  statics := none }

def pool3 : Array CpInfo := pool [(1, .class_ 2), (0, u "java/lang/Comparable"), (0, .class_ 4), (0, u "java/lang/Object")] 7

/-- java/lang/Comparable -/
def k3 : Class := { plain "java/lang/Comparable" (some 0) with
  accessFlags := 1537
  interfaces := #[]
  cf := some (fileOf pool3 1 #[] #[] 1537 3 #[] #[])
  fields := #[]
  methods := #[]
  instanceTypes := #[]
  staticTypes := #[]
  resolved := Array.replicate 12 none
  statics := none }

def pool4 : Array CpInfo := pool [(2, .class_ 4), (1, u "java/lang/CharSequence"), (42, .class_ 48), (0, u "java/lang/CharSequence$1CodePointIterator"), (10, .class_ 60), (0, u "java/lang/CharSequence$1CharIterator"), (5, .class_ 67), (0, u "java/lang/Object")] 63

/-- java/lang/CharSequence -/
def k4 : Class := { plain "java/lang/CharSequence" (some 0) with
  accessFlags := 1537
  interfaces := #[]
  cf := some (fileOf pool4 2 #[.nestMembers #[47, 59]] #[] 1537 66 #[] #[])
  fields := #[]
  methods := #[]
  instanceTypes := #[]
  staticTypes := #[]
  resolved := Array.replicate 131 none
  statics := none }

def pool5 : Array CpInfo := pool [(1, .class_ 2), (0, u "java/lang/constant/Constable"), (0, .class_ 4), (0, u "java/lang/Object")] 6

/-- java/lang/constant/Constable -/
def k5 : Class := { plain "java/lang/constant/Constable" (some 0) with
  accessFlags := 1537
  interfaces := #[]
  cf := some (fileOf pool5 1 #[] #[] 1537 3 #[] #[])
  fields := #[]
  methods := #[]
  instanceTypes := #[]
  staticTypes := #[]
  resolved := Array.replicate 11 none
  statics := none }

def pool6 : Array CpInfo := pool [(1, .class_ 2), (0, u "java/lang/constant/ConstantDesc"), (0, .class_ 4), (0, u "java/lang/Object")] 32

/-- java/lang/constant/ConstantDesc -/
def k6 : Class := { plain "java/lang/constant/ConstantDesc" (some 0) with
  accessFlags := 1537
  interfaces := #[]
  cf := some (fileOf pool6 1 #[] #[] 1537 3 #[] #[])
  fields := #[]
  methods := #[]
  instanceTypes := #[]
  staticTypes := #[]
  resolved := Array.replicate 37 none
  statics := none }

def pool7 : Array CpInfo := pool [(1, .methodref 2 3), (0, .class_ 4), (0, .nameAndType 5 6), (0, u "java/lang/Object"), (0, u "<init>"), (0, u "()V"), (2, .fieldref 10 11), (0, .class_ 12), (0, .nameAndType 13 14), (0, u "java/lang/String"), (0, u "value"), (0, u "[B"), (0, .fieldref 10 16), (0, .nameAndType 17 18), (0, u "coder"), (0, u "B"), (2, u "hash"), (0, u "I"), (2, u "hashIsZero"), (0, u "Z"), (11, .fieldref 10 39), (0, .nameAndType 40 26), (0, u "COMPACT_STRINGS"), (12, u "toBytes"), (53, .class_ 109), (1, u "java/lang/StringLatin1"), (99, .methodref 10 210), (0, .nameAndType 5 211), (0, u "([BB)V"), (157, u "(C)Z"), (173, u "equals"), (29, u "(Ljava/lang/Object;)Z"), (1, .class_ 576), (0, u "java/lang/CharSequence"), (22, u "CASE_INSENSITIVE_ORDER"), (0, u "Ljava/util/Comparator;"), (181, u "valueOf"), (0, u "(C)Ljava/lang/String;"), (231, .methodref 107 1016), (0, .nameAndType 1017 369), (0, u "canEncode"), (0, .methodref 107 1019), (0, .nameAndType 53 1020), (0, u "(C)[B"), (80, u "serialPersistentFields"), (0, u "[Ljava/io/ObjectStreamField;"), (0, .class_ 1104), (0, u "java/lang/String$CaseInsensitiveComparator"), (1, .class_ 1107), (0, u "java/io/Serializable"), (0, .class_ 1109), (0, u "java/lang/Comparable"), (0, .class_ 1111), (0, u "java/lang/constant/Constable"), (0, .class_ 1113), (0, u "java/lang/constant/ConstantDesc"), (2, u "serialVersionUID"), (0, u "J"), (3, u "REPL"), (0, u "C"), (2, u "LATIN1"), (1, u "UTF16")] 323

def k7m0 : Method := { name := "<init>", desc := "()V", sig := { parameters := [], returnType := none }, accessFlags := 1, code := none }
def k7c1 : Code := { maxStack := 2, maxLocals := 3, code := jdk_42_method_66_code, exceptionTable := #[], attributes := #[] }
def k7m1 : Method := { name := "equals", desc := "(Ljava/lang/Object;)Z", sig := { parameters := [(.object "java/lang/Object")], returnType := some .boolean }, accessFlags := 1, code := some k7c1 }
def k7c2 : Code := { maxStack := 4, maxLocals := 1, code := jdk_42_method_139_code, exceptionTable := #[], attributes := #[] }
def k7m2 : Method := { name := "valueOf", desc := "(C)Ljava/lang/String;", sig := { parameters := [.char], returnType := some (.object "java/lang/String") }, accessFlags := 9, code := some k7c2 }
def k7c3 : Code := { maxStack := 2, maxLocals := 3, code := jdk_42_method_151_code, exceptionTable := #[], attributes := #[] }
def k7m3 : Method := { name := "<init>", desc := "([BB)V", sig := { parameters := [(.array .byte), .byte], returnType := none }, accessFlags := 0, code := some k7c3 }
/-- java/lang/String -/
def k7 : Class := { plain "java/lang/String" (some 0) with
  accessFlags := 49
  interfaces := #[2, 3, 4, 5, 6]
  cf := some (fileOf pool7 10 #[.nestMembers #[1103]] #[{ accessFlags := 1, nameIndex := 5, descriptorIndex := 6, attributes := #[] }, { accessFlags := 1, nameIndex := 543, descriptorIndex := 573, attributes := #[] }, { accessFlags := 9, nameIndex := 782, descriptorIndex := 783, attributes := #[] }, { accessFlags := 0, nameIndex := 5, descriptorIndex := 211, attributes := #[] }] 49 2 #[1106, 1108, 575, 1110, 1112] #[{ accessFlags := 18, nameIndex := 13, descriptorIndex := 14, attributes := #[] }, { accessFlags := 18, nameIndex := 17, descriptorIndex := 18, attributes := #[] }, { accessFlags := 2, nameIndex := 21, descriptorIndex := 22, attributes := #[] }, { accessFlags := 2, nameIndex := 25, descriptorIndex := 26, attributes := #[] }, { accessFlags := 26, nameIndex := 1116, descriptorIndex := 1117, attributes := #[] }, { accessFlags := 24, nameIndex := 40, descriptorIndex := 26, attributes := #[] }, { accessFlags := 26, nameIndex := 1101, descriptorIndex := 1102, attributes := #[] }, { accessFlags := 26, nameIndex := 1121, descriptorIndex := 1122, attributes := #[] }, { accessFlags := 25, nameIndex := 599, descriptorIndex := 600, attributes := #[] }, { accessFlags := 24, nameIndex := 1125, descriptorIndex := 18, attributes := #[] }, { accessFlags := 24, nameIndex := 1127, descriptorIndex := 18, attributes := #[] }])
  fields := #[{ name := "value", type := (.array .byte), accessFlags := 18, slot := 0, constantValue := 0 }, { name := "coder", type := .byte, accessFlags := 18, slot := 1, constantValue := 0 }, { name := "hash", type := .int, accessFlags := 2, slot := 2, constantValue := 0 }, { name := "hashIsZero", type := .boolean, accessFlags := 2, slot := 3, constantValue := 0 }, { name := "serialVersionUID", type := .long, accessFlags := 26, slot := 0, constantValue := 0 }, { name := "COMPACT_STRINGS", type := .boolean, accessFlags := 24, slot := 1, constantValue := 0 }, { name := "serialPersistentFields", type := (.array (.object "java/io/ObjectStreamField")), accessFlags := 26, slot := 2, constantValue := 0 }, { name := "REPL", type := .char, accessFlags := 26, slot := 3, constantValue := 0 }, { name := "CASE_INSENSITIVE_ORDER", type := (.object "java/util/Comparator"), accessFlags := 25, slot := 4, constantValue := 0 }, { name := "LATIN1", type := .byte, accessFlags := 24, slot := 5, constantValue := 0 }, { name := "UTF16", type := .byte, accessFlags := 24, slot := 6, constantValue := 0 }]
  methods := #[k7m0, k7m1, k7m2, k7m3]
  instanceTypes := #[(.array .byte), .byte, .int, .boolean]
  staticTypes := #[.long, .boolean, (.array (.object "java/io/ObjectStreamField")), .char, (.object "java/util/Comparator"), .byte, .byte]
  resolved := Array.replicate 1451 none
  statics := some 0 }

def pool8 : Array CpInfo := pool [(1, .methodref 2 3), (0, .class_ 4), (0, .nameAndType 5 6), (0, u "java/lang/Object"), (0, u "<init>"), (0, u "()V"), (0, .fieldref 8 9), (0, .class_ 10), (0, .nameAndType 11 12), (0, u "com/example/varasto/varasto/util/OptionReader"), (0, u "_args"), (0, u "[Ljava/lang/String;"), (0, .fieldref 8 14), (0, .nameAndType 15 16), (0, u "_next"), (0, u "I"), (0, .fieldref 8 18), (0, .nameAndType 19 20), (0, u "_option"), (0, u "Ljava/lang/String;"), (0, .methodref 8 22), (0, .nameAndType 23 24), (0, u "hasNext"), (0, u "()Z"), (9, u "([Ljava/lang/String;)V"), (3, u "next"), (0, u "()Ljava/lang/String;"), (0, u "value")] 17

def k8c0 : Code := { maxStack := 2, maxLocals := 2, code := prog_16_method_1_code, exceptionTable := #[], attributes := #[] }
def k8m0 : Method := { name := "<init>", desc := "([Ljava/lang/String;)V", sig := { parameters := [(.array (.object "java/lang/String"))], returnType := none }, accessFlags := 1, code := some k8c0 }
def k8c1 : Code := { maxStack := 2, maxLocals := 1, code := prog_16_method_2_code, exceptionTable := #[], attributes := #[] }
def k8m1 : Method := { name := "hasNext", desc := "()Z", sig := { parameters := [], returnType := some .boolean }, accessFlags := 1, code := some k8c1 }
def k8c2 : Code := { maxStack := 6, maxLocals := 1, code := prog_16_method_3_code, exceptionTable := #[], attributes := #[] }
def k8m2 : Method := { name := "next", desc := "()Ljava/lang/String;", sig := { parameters := [], returnType := some (.object "java/lang/String") }, accessFlags := 1, code := some k8c2 }
def k8c3 : Code := { maxStack := 5, maxLocals := 1, code := prog_16_method_4_code, exceptionTable := #[], attributes := #[] }
def k8m3 : Method := { name := "value", desc := "()Ljava/lang/String;", sig := { parameters := [], returnType := some (.object "java/lang/String") }, accessFlags := 1, code := some k8c3 }
/-- com/example/varasto/varasto/util/OptionReader -/
def k8 : Class := { plain "com/example/varasto/varasto/util/OptionReader" (some 0) with
  accessFlags := 49
  interfaces := #[]
  cf := some (fileOf pool8 8 #[] #[{ accessFlags := 1, nameIndex := 5, descriptorIndex := 34, attributes := #[] }, { accessFlags := 1, nameIndex := 23, descriptorIndex := 24, attributes := #[] }, { accessFlags := 1, nameIndex := 38, descriptorIndex := 39, attributes := #[] }, { accessFlags := 1, nameIndex := 40, descriptorIndex := 39, attributes := #[] }] 49 2 #[] #[{ accessFlags := 18, nameIndex := 11, descriptorIndex := 12, attributes := #[] }, { accessFlags := 2, nameIndex := 15, descriptorIndex := 16, attributes := #[] }, { accessFlags := 2, nameIndex := 19, descriptorIndex := 20, attributes := #[] }])
  fields := #[{ name := "_args", type := (.array (.object "java/lang/String")), accessFlags := 18, slot := 0, constantValue := 0 }, { name := "_next", type := .int, accessFlags := 2, slot := 1, constantValue := 0 }, { name := "_option", type := (.object "java/lang/String"), accessFlags := 2, slot := 2, constantValue := 0 }]
  methods := #[k8m0, k8m1, k8m2, k8m3]
  instanceTypes := #[(.array (.object "java/lang/String")), .int, (.object "java/lang/String")]
  staticTypes := #[]
  resolved := Array.replicate 58 none
  statics := none }

def pool9 : Array CpInfo := pool [(4, .class_ 6), (1, u "java/lang/Object"), (0, u "<init>"), (0, u "()V"), (5, .class_ 16), (1, u "java/lang/StringLatin1"), (73, u "canEncode"), (14, u "(C)Z"), (15, u "$assertionsDisabled"), (0, u "Z"), (98, .class_ 223), (1, u "java/lang/StringLatin1$LinesSpliterator"), (156, u "toBytes"), (1, u "(C)[B"), (7, .class_ 391), (0, u "java/lang/StringLatin1$CharsSpliterator")] 3

def k9m0 : Method := { name := "<init>", desc := "()V", sig := { parameters := [], returnType := none }, accessFlags := 0, code := none }
def k9c1 : Code := { maxStack := 2, maxLocals := 1, code := jdk_43_method_3_code, exceptionTable := #[], attributes := #[] }
def k9m1 : Method := { name := "canEncode", desc := "(C)Z", sig := { parameters := [.char], returnType := some .boolean }, accessFlags := 9, code := some k9c1 }
def k9c2 : Code := { maxStack := 4, maxLocals := 1, code := jdk_43_method_46_code, exceptionTable := #[], attributes := #[] }
def k9m2 : Method := { name := "toBytes", desc := "(C)[B", sig := { parameters := [.char], returnType := some (.array .byte) }, accessFlags := 9, code := some k9c2 }
/-- java/lang/StringLatin1 -/
def k9 : Class := { plain "java/lang/StringLatin1" (some 0) with
  accessFlags := 48
  interfaces := #[]
  cf := some (fileOf pool9 14 #[.nestMembers #[390, 221]] #[{ accessFlags := 0, nameIndex := 7, descriptorIndex := 8, attributes := #[] }, { accessFlags := 9, nameIndex := 90, descriptorIndex := 105, attributes := #[] }, { accessFlags := 9, nameIndex := 380, descriptorIndex := 382, attributes := #[] }] 48 4 #[] #[{ accessFlags := 4120, nameIndex := 121, descriptorIndex := 122, attributes := #[] }])
  fields := #[{ name := "$assertionsDisabled", type := .boolean, accessFlags := 4120, slot := 0, constantValue := 0 }]
  methods := #[k9m0, k9m1, k9m2]
  instanceTypes := #[]
  staticTypes := #[.boolean]
  resolved := Array.replicate 395 none
  statics := none }

def pool10 : Array CpInfo := pool [(2, .class_ 4), (1, u "java/lang/Object"), (0, u "<init>"), (0, u "()V"), (17, .class_ 26), (1, u "jdk/internal/util/Preconditions"), (28, .class_ 56), (0, u "jdk/internal/util/Preconditions$4"), (57, .class_ 115), (0, u "jdk/internal/util/Preconditions$1"), (7, u "SIOOBE_FORMATTER"), (0, u "Ljava/util/function/BiFunction;"), (0, .class_ 126), (0, u "jdk/internal/util/Preconditions$2"), (3, u "AIOOBE_FORMATTER"), (0, .class_ 132), (0, u "jdk/internal/util/Preconditions$3"), (3, u "IOOBE_FORMATTER")] 57

def k10m0 : Method := { name := "<init>", desc := "()V", sig := { parameters := [], returnType := none }, accessFlags := 1, code := none }
/-- jdk/internal/util/Preconditions -/
def k10 : Class := { plain "jdk/internal/util/Preconditions" (some 0) with
  accessFlags := 33
  interfaces := #[]
  cf := some (fileOf pool10 24 #[.nestMembers #[55, 131, 125, 114]] #[{ accessFlags := 1, nameIndex := 5, descriptorIndex := 6, attributes := #[] }] 33 2 #[] #[{ accessFlags := 25, nameIndex := 123, descriptorIndex := 124, attributes := #[] }, { accessFlags := 25, nameIndex := 130, descriptorIndex := 124, attributes := #[] }, { accessFlags := 25, nameIndex := 136, descriptorIndex := 124, attributes := #[] }])
  fields := #[{ name := "SIOOBE_FORMATTER", type := (.object "java/util/function/BiFunction"), accessFlags := 25, slot := 0, constantValue := 0 }, { name := "AIOOBE_FORMATTER", type := (.object "java/util/function/BiFunction"), accessFlags := 25, slot := 1, constantValue := 0 }, { name := "IOOBE_FORMATTER", type := (.object "java/util/function/BiFunction"), accessFlags := 25, slot := 2, constantValue := 0 }]
  methods := #[k10m0]
  instanceTypes := #[]
  staticTypes := #[(.object "java/util/function/BiFunction"), (.object "java/util/function/BiFunction"), (.object "java/util/function/BiFunction")]
  resolved := Array.replicate 194 none
  statics := some 1 }

def pool11 : Array CpInfo := pool [(9, u "<init>"), (6, .class_ 18), (1, u "java/lang/Object"), (0, u "()V"), (1, .class_ 23), (1, u "jdk/internal/util/ArraysSupport"), (0, u "LOG2_ARRAY_LONG_INDEX_SCALE"), (0, u "I"), (2, u "U"), (0, u "Ljdk/internal/misc/Unsafe;"), (8, u "BIG_ENDIAN"), (0, u "Z"), (8, u "LOG2_BYTE_BIT_SIZE"), (4, u "LOG2_ARRAY_INT_INDEX_SCALE"), (54, u "JLA"), (0, u "Ljdk/internal/access/JavaLangAccess;"), (11, u "LOG2_ARRAY_BOOLEAN_INDEX_SCALE"), (9, u "LOG2_ARRAY_BYTE_INDEX_SCALE"), (5, u "LOG2_ARRAY_CHAR_INDEX_SCALE"), (5, u "LOG2_ARRAY_SHORT_INDEX_SCALE"), (18, u "LOG2_ARRAY_FLOAT_INDEX_SCALE"), (24, u "LOG2_ARRAY_DOUBLE_INDEX_SCALE"), (89, u "T_BOOLEAN"), (2, u "T_CHAR"), (1, u "T_FLOAT"), (1, u "T_DOUBLE"), (1, u "T_BYTE"), (1, u "T_SHORT"), (1, u "T_INT"), (1, u "T_LONG"), (1, u "SOFT_MAX_ARRAY_LENGTH")] 83

def k11m0 : Method := { name := "<init>", desc := "()V", sig := { parameters := [], returnType := none }, accessFlags := 2, code := none }
/-- jdk/internal/util/ArraysSupport -/
def k11 : Class := { plain "jdk/internal/util/ArraysSupport" (some 0) with
  accessFlags := 33
  interfaces := #[]
  cf := some (fileOf pool11 21 #[] #[{ accessFlags := 2, nameIndex := 9, descriptorIndex := 19, attributes := #[] }] 33 16 #[] #[{ accessFlags := 24, nameIndex := 28, descriptorIndex := 29, attributes := #[] }, { accessFlags := 26, nameIndex := 38, descriptorIndex := 39, attributes := #[] }, { accessFlags := 25, nameIndex := 121, descriptorIndex := 25, attributes := #[] }, { accessFlags := 25, nameIndex := 131, descriptorIndex := 25, attributes := #[] }, { accessFlags := 25, nameIndex := 137, descriptorIndex := 25, attributes := #[] }, { accessFlags := 25, nameIndex := 143, descriptorIndex := 25, attributes := #[] }, { accessFlags := 25, nameIndex := 53, descriptorIndex := 25, attributes := #[] }, { accessFlags := 25, nameIndex := 24, descriptorIndex := 25, attributes := #[] }, { accessFlags := 25, nameIndex := 162, descriptorIndex := 25, attributes := #[] }, { accessFlags := 25, nameIndex := 187, descriptorIndex := 25, attributes := #[] }, { accessFlags := 26, nameIndex := 48, descriptorIndex := 25, attributes := #[] }, { accessFlags := 25, nameIndex := 277, descriptorIndex := 25, attributes := #[] }, { accessFlags := 25, nameIndex := 280, descriptorIndex := 25, attributes := #[] }, { accessFlags := 25, nameIndex := 282, descriptorIndex := 25, attributes := #[] }, { accessFlags := 25, nameIndex := 284, descriptorIndex := 25, attributes := #[] }, { accessFlags := 25, nameIndex := 286, descriptorIndex := 25, attributes := #[] }, { accessFlags := 25, nameIndex := 288, descriptorIndex := 25, attributes := #[] }, { accessFlags := 25, nameIndex := 290, descriptorIndex := 25, attributes := #[] }, { accessFlags := 25, nameIndex := 292, descriptorIndex := 25, attributes := #[] }, { accessFlags := 26, nameIndex := 108, descriptorIndex := 109, attributes := #[] }, { accessFlags := 25, nameIndex := 294, descriptorIndex := 25, attributes := #[] }])
  fields := #[{ name := "U", type := (.object "jdk/internal/misc/Unsafe"), accessFlags := 24, slot := 0, constantValue := 0 }, { name := "BIG_ENDIAN", type := .boolean, accessFlags := 26, slot := 1, constantValue := 0 }, { name := "LOG2_ARRAY_BOOLEAN_INDEX_SCALE", type := .int, accessFlags := 25, slot := 2, constantValue := 0 }, { name := "LOG2_ARRAY_BYTE_INDEX_SCALE", type := .int, accessFlags := 25, slot := 3, constantValue := 0 }, { name := "LOG2_ARRAY_CHAR_INDEX_SCALE", type := .int, accessFlags := 25, slot := 4, constantValue := 0 }, { name := "LOG2_ARRAY_SHORT_INDEX_SCALE", type := .int, accessFlags := 25, slot := 5, constantValue := 0 }, { name := "LOG2_ARRAY_INT_INDEX_SCALE", type := .int, accessFlags := 25, slot := 6, constantValue := 0 }, { name := "LOG2_ARRAY_LONG_INDEX_SCALE", type := .int, accessFlags := 25, slot := 7, constantValue := 0 }, { name := "LOG2_ARRAY_FLOAT_INDEX_SCALE", type := .int, accessFlags := 25, slot := 8, constantValue := 0 }, { name := "LOG2_ARRAY_DOUBLE_INDEX_SCALE", type := .int, accessFlags := 25, slot := 9, constantValue := 0 }, { name := "LOG2_BYTE_BIT_SIZE", type := .int, accessFlags := 26, slot := 10, constantValue := 0 }, { name := "T_BOOLEAN", type := .int, accessFlags := 25, slot := 11, constantValue := 0 }, { name := "T_CHAR", type := .int, accessFlags := 25, slot := 12, constantValue := 0 }, { name := "T_FLOAT", type := .int, accessFlags := 25, slot := 13, constantValue := 0 }, { name := "T_DOUBLE", type := .int, accessFlags := 25, slot := 14, constantValue := 0 }, { name := "T_BYTE", type := .int, accessFlags := 25, slot := 15, constantValue := 0 }, { name := "T_SHORT", type := .int, accessFlags := 25, slot := 16, constantValue := 0 }, { name := "T_INT", type := .int, accessFlags := 25, slot := 17, constantValue := 0 }, { name := "T_LONG", type := .int, accessFlags := 25, slot := 18, constantValue := 0 }, { name := "JLA", type := (.object "jdk/internal/access/JavaLangAccess"), accessFlags := 26, slot := 19, constantValue := 0 }, { name := "SOFT_MAX_ARRAY_LENGTH", type := .int, accessFlags := 25, slot := 20, constantValue := 0 }]
  methods := #[k11m0]
  instanceTypes := #[]
  staticTypes := #[(.object "jdk/internal/misc/Unsafe"), .boolean, .int, .int, .int, .int, .int, .int, .int, .int, .int, .int, .int, .int, .int, .int, .int, .int, .int, (.object "jdk/internal/access/JavaLangAccess"), .int]
  resolved := Array.replicate 378 none
  statics := none }

def pool12 : Array CpInfo := pool [(1, u "java/lang/Cloneable"), (0, .class_ 1), (0, u "java/lang/Object"), (0, .class_ 3)] 3

/-- java/lang/Cloneable -/
def k12 : Class := { plain "java/lang/Cloneable" (some 0) with
  accessFlags := 1537
  interfaces := #[]
  cf := some (fileOf pool12 2 #[] #[] 1537 4 #[] #[])
  fields := #[]
  methods := #[]
  instanceTypes := #[]
  staticTypes := #[]
  resolved := Array.replicate 8 none
  statics := none }

/-- the primitive byte -/
def k13 : Class := { plain "byte" none with kind := .primitive 'B', accessFlags := 0x411 }
/-- [B -/
def k14 : Class := { plain "[B" (some 0) with kind := .array 13 .byte, interfaces := #[12, 2], accessFlags := 1041 }

/-- the primitive int -/
def k15 : Class := { plain "int" none with kind := .primitive 'I', accessFlags := 0x411 }
/-- [I -/
def k16 : Class := { plain "[I" (some 0) with kind := .array 15 .int, interfaces := #[12, 2], accessFlags := 1041 }

/-- [Ljava/lang/String; -/
def k17 : Class := { plain "[Ljava/lang/String;" (some 0) with kind := .array 7 (.object "java/lang/String"), interfaces := #[12, 2], accessFlags := 1041 }

def heap : Heap := #[{ cls := 7, slots := #[.long 0, .int 1, .null, .int 0, .null, .int 0, .int 0], vm := .statics 7 },
  { cls := 10, slots := #[.null, .null, .null], vm := .statics 10 }]
def classes : Array Class := #[k0, k1, k2, k3, k4, k5, k6, k7, k8, k9, k10, k11, k12, k13, k14, k15, k16, k17]
def interned : List (Array UInt16 × Addr) := []
def slotsUsed : Nat := 10
def theMethod : MethodId := ⟨1, 2⟩
def args0 : Array Value := #[.int 1, .int 2, .int 3, .int 4, .int 5, .int 6]
def aboutOver (below : List Frame) : State where
  vm := { classes := classes, interned := interned.toArray }
  heap := heap
  slotsUsed := slotsUsed
  threads := #[{ frames := .invoking theMethod args0 :: below }]
def below0 : List Frame := [.native { method := ⟨0, 0⟩, args := #[] }]
def about1 : State := aboutOver below0
def p0 : Program := .bare "" "" ""
def e0 : Env := launch0.env 0 0 0
theorem w_frames : about1.frames = Frame.invoking theMethod args0 :: below0 := rfl
set_option maxRecDepth 65536 in
theorem w_args : argsFit about1.vm theMethod args0 = true := by decide +kernel
set_option maxRecDepth 65536 in
theorem w_heap : heapFits about1 = true := by decide +kernel
set_option maxRecDepth 65536 in
theorem w_runnable : about1.curStatus? = some .runnable := by decide +kernel
set_option maxRecDepth 65536 in
theorem w_alone : about1.alone = true := by decide +kernel
set_option maxRecDepth 65536 in
theorem w_named : about1.methodNamed? x = some theMethod := by decide +kernel
set_option maxRecDepth 65536 in
theorem w_hears : about1.hears theMethod below0 = true := by decide +kernel
set_option maxRecDepth 65536 in
theorem w_ripe : about1.ripe theMethod args0 below0 = true := by decide +kernel
theorem w_running : about1.status = .running := rfl
set_option maxRecDepth 65536 in
theorem w_room : about1.hasRoom e0.platform room_1 = true :=
  launch0.hasRoom_least _ room_1 (by decide +kernel) (by decide +kernel) (by decide +kernel) (by decide +kernel) (by decide +kernel) (by decide +kernel)
theorem allAtoms_all (ts : List Jvm.Cond) (a : Array Jvm.Value) (st : Jvm.State) : (allAtoms ts).before a st = ts.all (fun c => c.before a st) := by
  induction ts with
  | nil => rfl
  | cons c t ih =>
    show (Jvm.Cond.and c (allAtoms t)).before a st = _
    rw [Jvm.Cond.before_and, ih, List.all_cons]
def words1 : List Jvm.Cond := Jvm.Cond.code x code maxLocals ret :: tables_1
/-- a 'code' word, met by the world's own term for the bytes: nothing is compared byte by byte -/
theorem code_word {y : MethodName} {bytes : ByteArray} {mx : Nat} {rt : Option FieldType} {a : Array Value} {s : State} {m : MethodId} {meth : Method} {c : Code} (h1 : s.methodNamed? y = some m) (h2 : s.vm.method? m = some meth) (h3 : meth.code = some c) (h4 : c.code = bytes)
    (h5 : (c.maxLocals == mx && c.exceptionTable.isEmpty && decide (c.maxStack ≤ mostOperands) && decide (meth.sig.returnType = rt) && !meth.locks && decide (parseMethodDescriptor y.desc = some meth.sig)) = true) : (Jvm.Cond.code y bytes mx rt).before a s = true := by
  simp only [Bool.and_eq_true, beq_iff_eq, Bool.not_eq_true', decide_eq_true_eq] at h5
  obtain ⟨⟨⟨⟨⟨g1, g2⟩, g3⟩, g4⟩, g5⟩, g6⟩ := h5
  simp [Cond.before, Cond.holds, Cond.value, h1, h2, h3, h4, g1, g2, g3, g4, g5, g6]
def isCode : Jvm.Cond → Bool
  | .code _ _ _ _ => true
  | _ => false
theorem all_split {L : List Jvm.Cond} {P : Jvm.Cond → Bool} (h1 : L.all (fun c => isCode c || P c) = true) (h2 : ∀ c ∈ L.filter isCode, P c = true) : L.all P = true := by
  refine List.all_eq_true.mpr fun c hc => ?_
  have h := List.all_eq_true.mp h1 c hc
  rcases Bool.eq_false_or_eq_true (isCode c) with hi | hi
  · exact h2 c (List.mem_filter.mpr ⟨hc, hi⟩)
  · simpa [hi] using h
set_option maxRecDepth 65536 in
theorem w_c0 : (Jvm.Cond.code x code maxLocals ret).before args0 about1 = true := code_word (m := ⟨1, 2⟩) (meth := k1m2) (c := k1c2) (by decide +kernel) rfl rfl rfl (by decide +kernel)
set_option maxRecDepth 65536 in
theorem w_c1 : (Jvm.Cond.code ({ cls := "com/example/varasto/varasto/util/OptionReader", name := "<init>", desc := "([Ljava/lang/String;)V" } : Jvm.MethodName) prog_16_method_1_code (2 : Nat) (Option.none : Option Jvm.ClassFile.FieldType)).before args0 about1 = true := code_word (m := ⟨8, 0⟩) (meth := k8m0) (c := k8c0) (by decide +kernel) rfl rfl rfl (by decide +kernel)
set_option maxRecDepth 65536 in
theorem w_c2 : (Jvm.Cond.code ({ cls := "java/lang/Object", name := "<init>", desc := "()V" } : Jvm.MethodName) object_method_1_code (1 : Nat) (Option.none : Option Jvm.ClassFile.FieldType)).before args0 about1 = true := code_word (m := ⟨0, 0⟩) (meth := k0m0) (c := k0c0) (by decide +kernel) rfl rfl rfl (by decide +kernel)
set_option maxRecDepth 65536 in
theorem w_c3 : (Jvm.Cond.code ({ cls := "com/example/varasto/varasto/util/OptionReader", name := "hasNext", desc := "()Z" } : Jvm.MethodName) prog_16_method_2_code (1 : Nat) (Option.some Jvm.ClassFile.FieldType.boolean)).before args0 about1 = true := code_word (m := ⟨8, 1⟩) (meth := k8m1) (c := k8c1) (by decide +kernel) rfl rfl rfl (by decide +kernel)
set_option maxRecDepth 65536 in
theorem w_c4 : (Jvm.Cond.code ({ cls := "java/lang/String", name := "valueOf", desc := "(C)Ljava/lang/String;" } : Jvm.MethodName) jdk_42_method_139_code (1 : Nat) (Option.some (Jvm.ClassFile.FieldType.object "java/lang/String"))).before args0 about1 = true := code_word (m := ⟨7, 2⟩) (meth := k7m2) (c := k7c2) (by decide +kernel) rfl rfl rfl (by decide +kernel)
set_option maxRecDepth 65536 in
theorem w_c5 : (Jvm.Cond.code ({ cls := "java/lang/StringLatin1", name := "canEncode", desc := "(C)Z" } : Jvm.MethodName) jdk_43_method_3_code (1 : Nat) (Option.some Jvm.ClassFile.FieldType.boolean)).before args0 about1 = true := code_word (m := ⟨9, 1⟩) (meth := k9m1) (c := k9c1) (by decide +kernel) rfl rfl rfl (by decide +kernel)
set_option maxRecDepth 65536 in
theorem w_c6 : (Jvm.Cond.code ({ cls := "java/lang/StringLatin1", name := "toBytes", desc := "(C)[B" } : Jvm.MethodName) jdk_43_method_46_code (1 : Nat) (Option.some (Jvm.ClassFile.FieldType.array Jvm.ClassFile.FieldType.byte))).before args0 about1 = true := code_word (m := ⟨9, 2⟩) (meth := k9m2) (c := k9c2) (by decide +kernel) rfl rfl rfl (by decide +kernel)
set_option maxRecDepth 65536 in
theorem w_c7 : (Jvm.Cond.code ({ cls := "java/lang/String", name := "<init>", desc := "([BB)V" } : Jvm.MethodName) jdk_42_method_151_code (3 : Nat) (Option.none : Option Jvm.ClassFile.FieldType)).before args0 about1 = true := code_word (m := ⟨7, 3⟩) (meth := k7m3) (c := k7c3) (by decide +kernel) rfl rfl rfl (by decide +kernel)
set_option maxRecDepth 65536 in
theorem w_c8 : (Jvm.Cond.code ({ cls := "com/example/varasto/varasto/util/OptionReaderHasNextPinLaw", name := "take", desc := "(Lcom/example/varasto/varasto/util/OptionReader;Z)Ljava/lang/String;" } : Jvm.MethodName) method_2_code (2 : Nat) (Option.some (Jvm.ClassFile.FieldType.object "java/lang/String"))).before args0 about1 = true := code_word (m := ⟨1, 1⟩) (meth := k1m1) (c := k1c1) (by decide +kernel) rfl rfl rfl (by decide +kernel)
set_option maxRecDepth 65536 in
theorem w_c9 : (Jvm.Cond.code ({ cls := "com/example/varasto/varasto/util/OptionReader", name := "value", desc := "()Ljava/lang/String;" } : Jvm.MethodName) prog_16_method_4_code (1 : Nat) (Option.some (Jvm.ClassFile.FieldType.object "java/lang/String"))).before args0 about1 = true := code_word (m := ⟨8, 3⟩) (meth := k8m3) (c := k8c3) (by decide +kernel) rfl rfl rfl (by decide +kernel)
set_option maxRecDepth 65536 in
theorem w_c10 : (Jvm.Cond.code ({ cls := "java/lang/String", name := "equals", desc := "(Ljava/lang/Object;)Z" } : Jvm.MethodName) jdk_42_method_66_code (3 : Nat) (Option.some Jvm.ClassFile.FieldType.boolean)).before args0 about1 = true := code_word (m := ⟨7, 1⟩) (meth := k7m1) (c := k7c1) (by decide +kernel) rfl rfl rfl (by decide +kernel)
set_option maxRecDepth 65536 in
theorem w_c11 : (Jvm.Cond.code ({ cls := "com/example/varasto/varasto/util/OptionReader", name := "next", desc := "()Ljava/lang/String;" } : Jvm.MethodName) prog_16_method_3_code (1 : Nat) (Option.some (Jvm.ClassFile.FieldType.object "java/lang/String"))).before args0 about1 = true := code_word (m := ⟨8, 2⟩) (meth := k8m2) (c := k8c2) (by decide +kernel) rfl rfl rfl (by decide +kernel)
def codes1 : List Jvm.Cond := [Jvm.Cond.code x code maxLocals ret, Jvm.Cond.code ({ cls := "com/example/varasto/varasto/util/OptionReader", name := "<init>", desc := "([Ljava/lang/String;)V" } : Jvm.MethodName) prog_16_method_1_code (2 : Nat) (Option.none : Option Jvm.ClassFile.FieldType), Jvm.Cond.code ({ cls := "java/lang/Object", name := "<init>", desc := "()V" } : Jvm.MethodName) object_method_1_code (1 : Nat) (Option.none : Option Jvm.ClassFile.FieldType), Jvm.Cond.code ({ cls := "com/example/varasto/varasto/util/OptionReader", name := "hasNext", desc := "()Z" } : Jvm.MethodName) prog_16_method_2_code (1 : Nat) (Option.some Jvm.ClassFile.FieldType.boolean), Jvm.Cond.code ({ cls := "java/lang/String", name := "valueOf", desc := "(C)Ljava/lang/String;" } : Jvm.MethodName) jdk_42_method_139_code (1 : Nat) (Option.some (Jvm.ClassFile.FieldType.object "java/lang/String")), Jvm.Cond.code ({ cls := "java/lang/StringLatin1", name := "canEncode", desc := "(C)Z" } : Jvm.MethodName) jdk_43_method_3_code (1 : Nat) (Option.some Jvm.ClassFile.FieldType.boolean), Jvm.Cond.code ({ cls := "java/lang/StringLatin1", name := "toBytes", desc := "(C)[B" } : Jvm.MethodName) jdk_43_method_46_code (1 : Nat) (Option.some (Jvm.ClassFile.FieldType.array Jvm.ClassFile.FieldType.byte)), Jvm.Cond.code ({ cls := "java/lang/String", name := "<init>", desc := "([BB)V" } : Jvm.MethodName) jdk_42_method_151_code (3 : Nat) (Option.none : Option Jvm.ClassFile.FieldType), Jvm.Cond.code ({ cls := "com/example/varasto/varasto/util/OptionReaderHasNextPinLaw", name := "take", desc := "(Lcom/example/varasto/varasto/util/OptionReader;Z)Ljava/lang/String;" } : Jvm.MethodName) method_2_code (2 : Nat) (Option.some (Jvm.ClassFile.FieldType.object "java/lang/String")), Jvm.Cond.code ({ cls := "com/example/varasto/varasto/util/OptionReader", name := "value", desc := "()Ljava/lang/String;" } : Jvm.MethodName) prog_16_method_4_code (1 : Nat) (Option.some (Jvm.ClassFile.FieldType.object "java/lang/String")), Jvm.Cond.code ({ cls := "java/lang/String", name := "equals", desc := "(Ljava/lang/Object;)Z" } : Jvm.MethodName) jdk_42_method_66_code (3 : Nat) (Option.some Jvm.ClassFile.FieldType.boolean), Jvm.Cond.code ({ cls := "com/example/varasto/varasto/util/OptionReader", name := "next", desc := "()Ljava/lang/String;" } : Jvm.MethodName) prog_16_method_3_code (1 : Nat) (Option.some (Jvm.ClassFile.FieldType.object "java/lang/String"))]
set_option maxRecDepth 65536 in
theorem codes_eq : words1.filter isCode = codes1 := rfl
theorem w_codes : ∀ c ∈ words1.filter isCode, c.before args0 about1 = true := by
  rw [codes_eq]
  intro c hc
  simp only [codes1, List.mem_cons, List.not_mem_nil, or_false] at hc
  rcases hc with rfl | rfl | rfl | rfl | rfl | rfl | rfl | rfl | rfl | rfl | rfl | rfl
  · exact w_c0
  · exact w_c1
  · exact w_c2
  · exact w_c3
  · exact w_c4
  · exact w_c5
  · exact w_c6
  · exact w_c7
  · exact w_c8
  · exact w_c9
  · exact w_c10
  · exact w_c11
set_option maxRecDepth 65536 in
theorem w_t1 : (words1.take 24).all (fun c => isCode c || c.before args0 about1) = true := by decide +kernel
set_option maxRecDepth 65536 in
theorem w_t2 : ((words1.drop 24).take 24).all (fun c => isCode c || c.before args0 about1) = true := by decide +kernel
set_option maxRecDepth 65536 in
theorem w_t3 : ((words1.drop 24).drop 24).all (fun c => isCode c || c.before args0 about1) = true := by decide +kernel
theorem w_tables : (allAtoms (Jvm.Cond.code x code maxLocals ret :: tables_1)).before args0 about1 = true := by
  rw [allAtoms_all]
  show words1.all (fun c => c.before args0 about1) = true
  refine all_split ?_ w_codes
  rw [← List.take_append_drop 24 words1, List.all_append, w_t1, ← List.take_append_drop 24 (words1.drop 24), List.all_append, w_t2, w_t3]
  rfl
set_option maxRecDepth 65536 in
theorem w_rest : rest_1_c.before args0 about1 = true := by decide +kernel
set_option maxRecDepth 65536 in
theorem w_case : (Jvm.Cond.and given_1 narrow_1).before args0 about1 = true := by decide +kernel
theorem w_applies : (headSpec (Jvm.Cond.code x code maxLocals ret :: tables_1) room_1).applies x e0.platform about1 = true :=
  (Spec.applies_iff w_frames).mpr ⟨w_running, w_runnable, w_alone, w_named, w_hears, w_ripe, w_room, w_tables⟩
theorem atStart : AtStart classFile x code maxLocals ret World_1 tables_1 room_1 Calls_1 rest_1 Pre_1 launch0 p0 e0 about1 theMethod args0 below0 :=
  ⟨lists_1, trivial, launch0.admits_env _ _ _, launch0.least_env, fairChoices_fair.cas, fairChoices_fair.clock, w_frames, w_args, w_heap, w_applies, trivial, w_rest, w_case⟩
end start1
theorem witness_1 : WitnessClaimed_1 := ⟨start1.p0, start1.e0, start1.about1, start1.theMethod, start1.args0, start1.below0, start1.atStart⟩
end Jvm.Pilot.@@N@@
