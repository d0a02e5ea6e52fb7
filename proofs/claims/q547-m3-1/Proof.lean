import JvmDerived
import JvmDerived.Pilot.@@N@@Statement
import JvmDerived.Pilot.@@N@@Code
set_option linter.unusedVariables false
set_option linter.unusedSimpArgs false
@@BLOCK:LamKit.lean.txt@@
namespace Jvm.Pilot.@@N@@
open Jvm Jvm.ClassFile Sem Op Lib Jvm.Free Jvm.Stand Jvm.LawKit Jvm.RoadKit Bundle Jvm.Pilot.@@N@@.Jvm.D
/-- a boolean as an int -/
def own_b (P : Prop) [Decidable P] : Int32 := if P then 1 else 0
theorem own_b1 {P : Prop} [Decidable P] (h : P) : own_b P = 1 := if_pos h
theorem own_b0 {P : Prop} [Decidable P] (h : ¬ P) : own_b P = 0 := if_neg h
theorem own_b0_eq_f {P : Prop} [Decidable P] (h : P) : ifCond.holds .eq (own_b P) = false := by rw [own_b1 h]; rfl
theorem own_b0_eq_t {P : Prop} [Decidable P] (h : ¬ P) : ifCond.holds .eq (own_b P) = true := by rw [own_b0 h]; rfl
theorem own_b0_ne_t {P : Prop} [Decidable P] (h : P) : ifCond.holds .ne (own_b P) = true := by rw [own_b1 h]; rfl
theorem own_b0_ne_f {P : Prop} [Decidable P] (h : ¬ P) : ifCond.holds .ne (own_b P) = false := by rw [own_b0 h]; rfl
theorem own_bnar (P : Prop) [Decidable P] : nar .boolean (own_b P) = own_b P := by by_cases h : P <;> simp [own_b, h, nar]
theorem own_biff {P Q : Prop} [Decidable P] [Decidable Q] (h : P ↔ Q) : own_b P = own_b Q := by by_cases q : Q <;> simp [own_b, h, q]
/-! own_Go: from T with the frame g on top the method's run comes to an end of which P holds. One rule a plain instruction, so that a walk may fork anywhere. -/
def own_Go (p : Program) (e : Env) (below : List Frame) (P : State → Outcome → Prop) (T : State) (g : JFrame) : Prop :=
  ∃ s₂ o, Steps p.tables e below (T.setTop g) s₂ ∧ s₂.status = .running ∧ Ended s₂ below o ∧ P s₂ o
section OwnGo
variable {p : Program} {l : Launch} {e : Env} {R : Room} {s : State} {m : MethodId} {args : Array Value} {below : List Frame} {meth : Method} {c : Code} {T T' : State} {locs : List Loc} {cells slots : Nat} {P : State → Outcome → Prop} {Ls Ls' : Array Slot} {st : List Value} {pc pc' : Nat} {g g' : JFrame}
theorem own_st (h : ∀ t, Steps p.tables e below (T'.setTop g') t → Steps p.tables e below (T.setTop g) t) (k : own_Go p e below P T' g') : own_Go p e below P T g := by
  obtain ⟨s₂, o, h1, h2⟩ := k; exact ⟨s₂, o, h _ h1, h2⟩
theorem own_tr (h : Steps p.tables e below (T.setTop g) (T'.setTop g')) (k : own_Go p e below P T' g') : own_Go p e below P T g := by
  obtain ⟨s₂, o, h1, h2⟩ := k; exact ⟨s₂, o, h.trans h1, h2⟩
theorem own_aloadN (X : Stand p l e R s m args below meth c T locs cells slots) (hx : p.tables.exec = Jvm.exec) {k : Fin 4} {v : Value} (hd : decode c.code pc = .ok (.aload_n k, 1)) (hp : pc + 1 = pc') (hl : Ls[k.val]? = some (.val v)) (hv : v.isRef = true) (h : own_Go p e below P T (mkF m pc' Ls (v :: st))) : own_Go p e below P T (mkF m pc Ls st) := by
  subst hp; exact own_st (fun t k => XS.aloadN X.here hx rfl hd hl hv k) h
theorem own_aload (X : Stand p l e R s m args below meth c T locs cells slots) (hx : p.tables.exec = Jvm.exec) {k : Nat} {v : Value} (hd : decode c.code pc = .ok (.aload k, 2)) (hp : pc + 2 = pc') (hl : Ls[k]? = some (.val v)) (hv : v.isRef = true) (h : own_Go p e below P T (mkF m pc' Ls (v :: st))) : own_Go p e below P T (mkF m pc Ls st) := by
  subst hp; exact own_st (fun t k => XS.aload X.here hx rfl hd hl hv k) h
theorem own_iloadN (X : Stand p l e R s m args below meth c T locs cells slots) (hx : p.tables.exec = Jvm.exec) {k : Fin 4} {v : Int32} (hd : decode c.code pc = .ok (.iload_n k, 1)) (hp : pc + 1 = pc') (hl : Ls[k.val]? = some (.val (.int v))) (h : own_Go p e below P T (mkF m pc' Ls (.int v :: st))) : own_Go p e below P T (mkF m pc Ls st) := by
  subst hp; exact own_st (fun t k => XS.iloadN X.here hx rfl hd hl k) h
theorem own_iload (X : Stand p l e R s m args below meth c T locs cells slots) (hx : p.tables.exec = Jvm.exec) {k : Nat} {v : Int32} (hd : decode c.code pc = .ok (.iload k, 2)) (hp : pc + 2 = pc') (hl : Ls[k]? = some (.val (.int v))) (h : own_Go p e below P T (mkF m pc' Ls (.int v :: st))) : own_Go p e below P T (mkF m pc Ls st) := by
  subst hp; exact own_st (fun t k => XS.iload X.here hx rfl hd hl k) h
theorem own_lloadN (X : Stand p l e R s m args below meth c T locs cells slots) (hx : p.tables.exec = Jvm.exec) {k : Fin 4} {v : Int64} (hd : decode c.code pc = .ok (.lload_n k, 1)) (hp : pc + 1 = pc') (hl : Ls[k.val]? = some (.val (.long v))) (h : own_Go p e below P T (mkF m pc' Ls (.long v :: st))) : own_Go p e below P T (mkF m pc Ls st) := by
  subst hp; exact own_st (fun t k => XT.lloadN X.here hx rfl hd hl k) h
theorem own_lload (X : Stand p l e R s m args below meth c T locs cells slots) (hx : p.tables.exec = Jvm.exec) {k : Nat} {v : Int64} (hd : decode c.code pc = .ok (.lload k, 2)) (hp : pc + 2 = pc') (hl : Ls[k]? = some (.val (.long v))) (h : own_Go p e below P T (mkF m pc' Ls (.long v :: st))) : own_Go p e below P T (mkF m pc Ls st) := by
  subst hp; exact own_st (fun t k => XT.lload X.here hx rfl hd hl k) h
theorem own_iconst (X : Stand p l e R s m args below meth c T locs cells slots) (hx : p.tables.exec = Jvm.exec) {i : Int} (v : Int32) (hd : decode c.code pc = .ok (.iconst i, 1)) (hp : pc + 1 = pc') (hv : Int32.ofInt i = v) (h : own_Go p e below P T (mkF m pc' Ls (.int v :: st))) : own_Go p e below P T (mkF m pc Ls st) := by
  subst hp hv; exact own_st (fun t k => XS.iconst X.here hx rfl hd k) h
theorem own_bipush (X : Stand p l e R s m args below meth c T locs cells slots) (hx : p.tables.exec = Jvm.exec) {i : Int} (v : Int32) (hd : decode c.code pc = .ok (.bipush i, 2)) (hp : pc + 2 = pc') (hv : (Int8.ofInt i).toInt32 = v) (h : own_Go p e below P T (mkF m pc' Ls (.int v :: st))) : own_Go p e below P T (mkF m pc Ls st) := by
  subst hp hv; exact own_st (fun t k => XS.bipush X.here hx rfl hd k) h
theorem own_sipush (X : Stand p l e R s m args below meth c T locs cells slots) (hx : p.tables.exec = Jvm.exec) {i : Int} (v : Int32) (hd : decode c.code pc = .ok (.sipush i, 3)) (hp : pc + 3 = pc') (hv : (Int16.ofInt i).toInt32 = v) (h : own_Go p e below P T (mkF m pc' Ls (.int v :: st))) : own_Go p e below P T (mkF m pc Ls st) := by
  subst hp hv; exact own_st (fun t k => XS.sipush X.here hx rfl hd k) h
theorem own_lconst (X : Stand p l e R s m args below meth c T locs cells slots) (hx : p.tables.exec = Jvm.exec) {i : Fin 2} (v : Int64) (hd : decode c.code pc = .ok (.lconst i, 1)) (hp : pc + 1 = pc') (hv : Int64.ofNat i = v) (h : own_Go p e below P T (mkF m pc' Ls (.long v :: st))) : own_Go p e below P T (mkF m pc Ls st) := by
  subst hp hv; exact own_st (fun t k => XT.lconst X.here hx rfl hd k) h
theorem own_ldcI (X : Stand p l e R s m args below meth c T locs cells slots) (hx : p.tables.exec = Jvm.exec) {own : String} {index : Nat} {v : Int32} (hown : s.vm.findClass own = some m.cls) (hc : (Cond.constant own index v).before args s = true) (hd : decode c.code pc = .ok (.ldc index, 2)) (hp : pc + 2 = pc') (h : own_Go p e below P T (mkF m pc' Ls (.int v :: st))) : own_Go p e below P T (mkF m pc Ls st) := by
  subst hp; exact own_st (fun t k => X.ldcI hx hown hc rfl hd k) h
theorem own_ldcJ (X : Stand p l e R s m args below meth c T locs cells slots) (hx : p.tables.exec = Jvm.exec) {own : String} {index : Nat} {v : Int64} (hown : s.vm.findClass own = some m.cls) (hc : (Cond.constantLong own index v).before args s = true) (hd : decode c.code pc = .ok (.ldc2_w index, 3)) (hp : pc + 3 = pc') (h : own_Go p e below P T (mkF m pc' Ls (.long v :: st))) : own_Go p e below P T (mkF m pc Ls st) := by
  subst hp; exact own_st (fun t k => X.ldc2J hx hown hc rfl hd k) h
theorem own_null (X : Stand p l e R s m args below meth c T locs cells slots) (hx : p.tables.exec = Jvm.exec) (hd : decode c.code pc = .ok (.aconst_null, 1)) (hp : pc + 1 = pc') (h : own_Go p e below P T (mkF m pc' Ls (.null :: st))) : own_Go p e below P T (mkF m pc Ls st) := by
  subst hp; exact own_st (fun t k => XS.aconstNull X.here hx rfl hd k) h
theorem own_iadd (X : Stand p l e R s m args below meth c T locs cells slots) (hx : p.tables.exec = Jvm.exec) {x y : Int32} (hd : decode c.code pc = .ok (.iadd, 1)) (hp : pc + 1 = pc') (h : own_Go p e below P T (mkF m pc' Ls (.int (x + y) :: st))) : own_Go p e below P T (mkF m pc Ls (.int y :: .int x :: st)) := by
  subst hp; exact own_st (fun t k => XS.iadd X.here hx rfl hd rfl k) h
theorem own_isub (X : Stand p l e R s m args below meth c T locs cells slots) (hx : p.tables.exec = Jvm.exec) {x y : Int32} (hd : decode c.code pc = .ok (.isub, 1)) (hp : pc + 1 = pc') (h : own_Go p e below P T (mkF m pc' Ls (.int (x - y) :: st))) : own_Go p e below P T (mkF m pc Ls (.int y :: .int x :: st)) := by
  subst hp; exact own_st (fun t k => XS.isub X.here hx rfl hd rfl k) h
theorem own_iand (X : Stand p l e R s m args below meth c T locs cells slots) (hx : p.tables.exec = Jvm.exec) {x y : Int32} (hd : decode c.code pc = .ok (.iand, 1)) (hp : pc + 1 = pc') (h : own_Go p e below P T (mkF m pc' Ls (.int (x &&& y) :: st))) : own_Go p e below P T (mkF m pc Ls (.int y :: .int x :: st)) := by
  subst hp; exact own_st (fun t k => XS.iand X.here hx rfl hd rfl k) h
theorem own_imul (X : Stand p l e R s m args below meth c T locs cells slots) (hx : p.tables.exec = Jvm.exec) {x y : Int32} (hd : decode c.code pc = .ok (.imul, 1)) (hp : pc + 1 = pc') (h : own_Go p e below P T (mkF m pc' Ls (.int (x * y) :: st))) : own_Go p e below P T (mkF m pc Ls (.int y :: .int x :: st)) := by
  subst hp; exact own_st (fun t k => XS.imul X.here hx rfl hd rfl k) h
theorem own_irem (X : Stand p l e R s m args below meth c T locs cells slots) (hx : p.tables.exec = Jvm.exec) {x y : Int32} (hd : decode c.code pc = .ok (.irem, 1)) (hp : pc + 1 = pc') (hy : y ≠ 0) (h : own_Go p e below P T (mkF m pc' Ls (.int (x % y) :: st))) : own_Go p e below P T (mkF m pc Ls (.int y :: .int x :: st)) := by
  subst hp; exact own_st (fun t k => iremM X hx rfl hd rfl hy k) h
theorem own_ishr (X : Stand p l e R s m args below meth c T locs cells slots) (hx : p.tables.exec = Jvm.exec) {x y : Int32} (hd : decode c.code pc = .ok (.ishr, 1)) (hp : pc + 1 = pc') (h : own_Go p e below P T (mkF m pc' Ls (.int (x >>> (y &&& 31)) :: st))) : own_Go p e below P T (mkF m pc Ls (.int y :: .int x :: st)) := by
  subst hp; exact own_st (fun t k => XT.ishr X.here hx rfl hd rfl k) h
theorem own_iushr (X : Stand p l e R s m args below meth c T locs cells slots) (hx : p.tables.exec = Jvm.exec) {x y : Int32} (hd : decode c.code pc = .ok (.iushr, 1)) (hp : pc + 1 = pc') (h : own_Go p e below P T (mkF m pc' Ls (.int (XT.ushr x y) :: st))) : own_Go p e below P T (mkF m pc Ls (.int y :: .int x :: st)) := by
  subst hp; exact own_st (fun t k => XT.iushr X.here hx rfl hd rfl k) h
theorem own_i2b (X : Stand p l e R s m args below meth c T locs cells slots) (hx : p.tables.exec = Jvm.exec) {x : Int32} (hd : decode c.code pc = .ok (.i2b, 1)) (hp : pc + 1 = pc') (h : own_Go p e below P T (mkF m pc' Ls (.int (nar .byte x) :: st))) : own_Go p e below P T (mkF m pc Ls (.int x :: st)) := by
  subst hp; exact own_st (fun t k => XT.i2b X.here hx rfl hd rfl k) h
theorem own_i2c (X : Stand p l e R s m args below meth c T locs cells slots) (hx : p.tables.exec = Jvm.exec) {x : Int32} (hd : decode c.code pc = .ok (.i2c, 1)) (hp : pc + 1 = pc') (h : own_Go p e below P T (mkF m pc' Ls (.int (nar .char x) :: st))) : own_Go p e below P T (mkF m pc Ls (.int x :: st)) := by
  subst hp; exact own_st (fun t k => XT.i2c X.here hx rfl hd rfl k) h
theorem own_i2l (X : Stand p l e R s m args below meth c T locs cells slots) (hx : p.tables.exec = Jvm.exec) {x : Int32} (hd : decode c.code pc = .ok (.i2l, 1)) (hp : pc + 1 = pc') (h : own_Go p e below P T (mkF m pc' Ls (.long x.toInt64 :: st))) : own_Go p e below P T (mkF m pc Ls (.int x :: st)) := by
  subst hp; exact own_st (fun t k => XT.i2l X.here hx rfl hd rfl k) h
theorem own_l2i (X : Stand p l e R s m args below meth c T locs cells slots) (hx : p.tables.exec = Jvm.exec) {x : Int64} (hd : decode c.code pc = .ok (.l2i, 1)) (hp : pc + 1 = pc') (h : own_Go p e below P T (mkF m pc' Ls (.int x.toInt32 :: st))) : own_Go p e below P T (mkF m pc Ls (.long x :: st)) := by
  subst hp; exact own_st (fun t k => XT.l2i X.here hx rfl hd rfl k) h
theorem own_lushr (X : Stand p l e R s m args below meth c T locs cells slots) (hx : p.tables.exec = Jvm.exec) {x : Int64} {y : Int32} (hd : decode c.code pc = .ok (.lushr, 1)) (hp : pc + 1 = pc') (h : own_Go p e below P T (mkF m pc' Ls (.long (XT.ushrL x y) :: st))) : own_Go p e below P T (mkF m pc Ls (.int y :: .long x :: st)) := by
  subst hp; exact own_st (fun t k => XT.lushr X.here hx rfl hd rfl k) h
theorem own_lcmp (X : Stand p l e R s m args below meth c T locs cells slots) (hx : p.tables.exec = Jvm.exec) {x y : Int64} (hd : decode c.code pc = .ok (.lcmp, 1)) (hp : pc + 1 = pc') (h : own_Go p e below P T (mkF m pc' Ls (.int (XT.cmpL x y) :: st))) : own_Go p e below P T (mkF m pc Ls (.long y :: .long x :: st)) := by
  subst hp; exact own_st (fun t k => XT.lcmp X.here hx rfl hd rfl k) h
theorem own_dup (X : Stand p l e R s m args below meth c T locs cells slots) (hx : p.tables.exec = Jvm.exec) {x : Value} (hd : decode c.code pc = .ok (.dup, 1)) (hp : pc + 1 = pc') (hc : x.category = 1) (h : own_Go p e below P T (mkF m pc' Ls (x :: x :: st))) : own_Go p e below P T (mkF m pc Ls (x :: st)) := by
  subst hp; exact own_st (fun t k => XS.dup X.here hx rfl hd rfl hc k) h
theorem own_dupX1 (X : Stand p l e R s m args below meth c T locs cells slots) (hx : p.tables.exec = Jvm.exec) {x y : Value} (hd : decode c.code pc = .ok (.dup_x1, 1)) (hp : pc + 1 = pc') (hc : x.category = 1) (hc' : y.category = 1) (h : own_Go p e below P T (mkF m pc' Ls (x :: y :: x :: st))) : own_Go p e below P T (mkF m pc Ls (x :: y :: st)) := by
  subst hp; exact own_st (fun t k => XT.dupX1 X.here hx rfl hd rfl hc hc' k) h
theorem own_pop (X : Stand p l e R s m args below meth c T locs cells slots) (hx : p.tables.exec = Jvm.exec) {x : Value} (hd : decode c.code pc = .ok (.pop, 1)) (hp : pc + 1 = pc') (hc : x.category = 1) (h : own_Go p e below P T (mkF m pc' Ls st)) : own_Go p e below P T (mkF m pc Ls (x :: st)) := by
  subst hp; exact own_st (fun t k => XT.pop X.here hx rfl hd rfl hc k) h
theorem own_istoreN (X : Stand p l e R s m args below meth c T locs cells slots) (hx : p.tables.exec = Jvm.exec) {k : Fin 4} {x : Int32} (hd : decode c.code pc = .ok (.istore_n k, 1)) (hp : pc + 1 = pc') (hl : storeLocals Ls k.val (.int x) = some Ls') (h : own_Go p e below P T (mkF m pc' Ls' st)) : own_Go p e below P T (mkF m pc Ls (.int x :: st)) := by
  subst hp; exact own_st (fun t k => XS.istoreN X.here hx rfl hd rfl hl k) h
theorem own_istore (X : Stand p l e R s m args below meth c T locs cells slots) (hx : p.tables.exec = Jvm.exec) {k : Nat} {x : Int32} (hd : decode c.code pc = .ok (.istore k, 2)) (hp : pc + 2 = pc') (hl : storeLocals Ls k (.int x) = some Ls') (h : own_Go p e below P T (mkF m pc' Ls' st)) : own_Go p e below P T (mkF m pc Ls (.int x :: st)) := by
  subst hp; exact own_st (fun t k => XS.istore X.here hx rfl hd rfl hl k) h
theorem own_lstoreN (X : Stand p l e R s m args below meth c T locs cells slots) (hx : p.tables.exec = Jvm.exec) {k : Fin 4} {x : Int64} (hd : decode c.code pc = .ok (.lstore_n k, 1)) (hp : pc + 1 = pc') (hl : storeLocals Ls k.val (.long x) = some Ls') (h : own_Go p e below P T (mkF m pc' Ls' st)) : own_Go p e below P T (mkF m pc Ls (.long x :: st)) := by
  subst hp; exact own_st (fun t k => XT.lstoreN X.here hx rfl hd rfl hl k) h
theorem own_lstore (X : Stand p l e R s m args below meth c T locs cells slots) (hx : p.tables.exec = Jvm.exec) {k : Nat} {x : Int64} (hd : decode c.code pc = .ok (.lstore k, 2)) (hp : pc + 2 = pc') (hl : storeLocals Ls k (.long x) = some Ls') (h : own_Go p e below P T (mkF m pc' Ls' st)) : own_Go p e below P T (mkF m pc Ls (.long x :: st)) := by
  subst hp; exact own_st (fun t k => XT.lstore X.here hx rfl hd rfl hl k) h
theorem own_astoreN (X : Stand p l e R s m args below meth c T locs cells slots) (hx : p.tables.exec = Jvm.exec) {k : Fin 4} {x : Value} (hd : decode c.code pc = .ok (.astore_n k, 1)) (hp : pc + 1 = pc') (hv : x.isRef = true) (hl : storeLocals Ls k.val x = some Ls') (h : own_Go p e below P T (mkF m pc' Ls' st)) : own_Go p e below P T (mkF m pc Ls (x :: st)) := by
  subst hp; exact own_st (fun t k => XS.astoreN X.here hx rfl hd rfl hv hl k) h
theorem own_astore (X : Stand p l e R s m args below meth c T locs cells slots) (hx : p.tables.exec = Jvm.exec) {k : Nat} {x : Value} (hd : decode c.code pc = .ok (.astore k, 2)) (hp : pc + 2 = pc') (hv : x.isRef = true) (hl : storeLocals Ls k x = some Ls') (h : own_Go p e below P T (mkF m pc' Ls' st)) : own_Go p e below P T (mkF m pc Ls (x :: st)) := by
  subst hp; exact own_st (fun t k => XS.astore X.here hx rfl hd rfl hv hl k) h
theorem own_goto (X : Stand p l e R s m args below meth c T locs cells slots) (hx : p.tables.exec = Jvm.exec) {o : Int} (hd : decode c.code pc = .ok (.goto o, 3)) (ho : 0 ≤ (pc : Int) + o) (hp : ((pc : Int) + o).toNat = pc') (h : own_Go p e below P T (mkF m pc' Ls st)) : own_Go p e below P T (mkF m pc Ls st) := by
  exact own_st (fun t k => XS.goto X.here hx rfl (pc0 := pc) rfl hd ho hp k) h
theorem own_ifY (X : Stand p l e R s m args below meth c T locs cells slots) (hx : p.tables.exec = Jvm.exec) {cd : ClassFile.Cond} {x : Int32} {o : Int} (hd : decode c.code pc = .ok (.ifCond cd o, 3)) (hc : ifCond.holds cd x = true) (ho : 0 ≤ (pc : Int) + o) (hp : ((pc : Int) + o).toNat = pc') (h : own_Go p e below P T (mkF m pc' Ls st)) : own_Go p e below P T (mkF m pc Ls (.int x :: st)) := by
  exact own_st (fun t k => XS.ifYes X.here hx rfl (pc0 := pc) rfl hd rfl hc ho hp k) h
theorem own_ifN (X : Stand p l e R s m args below meth c T locs cells slots) (hx : p.tables.exec = Jvm.exec) {cd : ClassFile.Cond} {x : Int32} {o : Int} (hd : decode c.code pc = .ok (.ifCond cd o, 3)) (hc : ifCond.holds cd x = false) (hp : pc + 3 = pc') (h : own_Go p e below P T (mkF m pc' Ls st)) : own_Go p e below P T (mkF m pc Ls (.int x :: st)) := by
  subst hp; exact own_st (fun t k => XS.ifNo X.here hx rfl hd rfl hc k) h
theorem own_icmpY (X : Stand p l e R s m args below meth c T locs cells slots) (hx : p.tables.exec = Jvm.exec) {cd : ClassFile.Cond} {x y : Int32} {o : Int} (hd : decode c.code pc = .ok (.if_icmp cd o, 3)) (hc : if_icmp.holds cd x y = true) (ho : 0 ≤ (pc : Int) + o) (hp : ((pc : Int) + o).toNat = pc') (h : own_Go p e below P T (mkF m pc' Ls st)) : own_Go p e below P T (mkF m pc Ls (.int y :: .int x :: st)) := by
  exact own_st (fun t k => XS.icmpYes X.here hx rfl (pc0 := pc) rfl hd rfl hc ho hp k) h
theorem own_icmpN (X : Stand p l e R s m args below meth c T locs cells slots) (hx : p.tables.exec = Jvm.exec) {cd : ClassFile.Cond} {x y : Int32} {o : Int} (hd : decode c.code pc = .ok (.if_icmp cd o, 3)) (hc : if_icmp.holds cd x y = false) (hp : pc + 3 = pc') (h : own_Go p e below P T (mkF m pc' Ls st)) : own_Go p e below P T (mkF m pc Ls (.int y :: .int x :: st)) := by
  subst hp; exact own_st (fun t k => XS.icmpNo X.here hx rfl hd rfl hc k) h
theorem own_ifnullY (X : Stand p l e R s m args below meth c T locs cells slots) (hx : p.tables.exec = Jvm.exec) {o : Int} (hd : decode c.code pc = .ok (.ifnull o, 3)) (ho : 0 ≤ (pc : Int) + o) (hp : ((pc : Int) + o).toNat = pc') (h : own_Go p e below P T (mkF m pc' Ls st)) : own_Go p e below P T (mkF m pc Ls (.null :: st)) := by
  exact own_st (fun t k => XS.ifnullYes X.here hx rfl (pc0 := pc) rfl hd rfl ho hp k) h
theorem own_ifnullN (X : Stand p l e R s m args below meth c T locs cells slots) (hx : p.tables.exec = Jvm.exec) {a : Addr} {o : Int} (hd : decode c.code pc = .ok (.ifnull o, 3)) (hp : pc + 3 = pc') (h : own_Go p e below P T (mkF m pc' Ls st)) : own_Go p e below P T (mkF m pc Ls (.ref a :: st)) := by
  subst hp; exact own_st (fun t k => XS.ifnullNo X.here hx rfl hd rfl k) h
theorem own_ifnonnullY (X : Stand p l e R s m args below meth c T locs cells slots) (hx : p.tables.exec = Jvm.exec) {a : Addr} {o : Int} (hd : decode c.code pc = .ok (.ifnonnull o, 3)) (ho : 0 ≤ (pc : Int) + o) (hp : ((pc : Int) + o).toNat = pc') (h : own_Go p e below P T (mkF m pc' Ls st)) : own_Go p e below P T (mkF m pc Ls (.ref a :: st)) := by
  exact own_st (fun t k => XT.ifnonnullYes X.here hx rfl (pc0 := pc) rfl hd rfl ho hp k) h
theorem own_ifnonnullN (X : Stand p l e R s m args below meth c T locs cells slots) (hx : p.tables.exec = Jvm.exec) {o : Int} (hd : decode c.code pc = .ok (.ifnonnull o, 3)) (hp : pc + 3 = pc') (h : own_Go p e below P T (mkF m pc' Ls st)) : own_Go p e below P T (mkF m pc Ls (.null :: st)) := by
  subst hp; exact own_st (fun t k => XT.ifnonnullNo X.here hx rfl hd rfl k) h
theorem own_acmpY (X : Stand p l e R s m args below meth c T locs cells slots) (hx : p.tables.exec = Jvm.exec) {cd : ACond} {x y : Value} {o : Int} (h1 : x.isRef = true) (h2 : y.isRef = true) (hd : decode c.code pc = .ok (.if_acmp cd o, 3)) (hc : XT.acmp cd x y = true) (ho : 0 ≤ (pc : Int) + o) (hp : ((pc : Int) + o).toNat = pc') (h : own_Go p e below P T (mkF m pc' Ls st)) : own_Go p e below P T (mkF m pc Ls (y :: x :: st)) := by
  exact own_st (fun t k => XT.acmpYes X.here hx rfl (pc0 := pc) rfl hd rfl h1 h2 hc ho hp k) h
theorem own_acmpN (X : Stand p l e R s m args below meth c T locs cells slots) (hx : p.tables.exec = Jvm.exec) {cd : ACond} {x y : Value} {o : Int} (h1 : x.isRef = true) (h2 : y.isRef = true) (hd : decode c.code pc = .ok (.if_acmp cd o, 3)) (hc : XT.acmp cd x y = false) (hp : pc + 3 = pc') (h : own_Go p e below P T (mkF m pc' Ls st)) : own_Go p e below P T (mkF m pc Ls (y :: x :: st)) := by
  subst hp; exact own_st (fun t k => XT.acmpNo X.here hx rfl hd rfl h1 h2 hc k) h
theorem own_cut (h1 : own_Go p e below P T g' → own_Go p e below P T g) (h2 : own_Go p e below P T g') : own_Go p e below P T g := h1 h2
theorem own_iinc (X : Stand p l e R s m args below meth c T locs cells slots) (hx : p.tables.exec = Jvm.exec) {k : Nat} {cst : Int} {x : Int32} (v : Int32) (hd : decode c.code pc = .ok (.iinc k cst, 3)) (hp : pc + 3 = pc') (hl : Ls[k]? = some (.val (.int x))) (hv : x + Int32.ofInt cst = v) (hs : storeLocals Ls k (.int v) = some Ls') (h : own_Go p e below P T (mkF m pc' Ls' st)) : own_Go p e below P T (mkF m pc Ls st) := by
  subst hp hv; exact own_st (fun t k => XS.iinc X.here hx rfl hd hl hs k) h
theorem own_stv {Ls : Array Slot} {k : Nat} {v : Value} {o : Slot} (hv : v.isRef = true) (hold : Ls[k]? = some o) (ho : o = .unset ∨ ∃ w, o = .val w ∧ w.category = 1) : storeLocals Ls k v = some (Ls.setIfInBounds k (.val v)) := XS.store1 hold ho (XT.cat1 hv)
abbrev own_End (s : State) (Q : Option Value → Heap → List Loc → Prop) (k n : Nat) : State → Outcome → Prop := fun u o => ∃ v L, o = .returned v ∧ Q v u.heap L ∧ FrameEnd s o u L k n
variable {Q : Option Value → Heap → List Loc → Prop} {ck sn : Nat}
theorem own_retZ (X : Stand p l e R s m args below meth c T locs cells slots) (hx : p.tables.exec = Jvm.exec) (hk : meth.locks = false) {t : FieldType} (hret : meth.sig.returnType = some t) (ht : t = .boolean ∨ t = .byte ∨ t = .char ∨ t = .short) {z : Int32} (hd : decode c.code pc = .ok (.ireturn, 1)) (hc : cells ≤ ck) (hs : slots ≤ sn) (hQ : Q (some (.int (nar t z))) T.heap locs) :
    own_Go p e below (own_End s Q ck sn) T (mkF m pc Ls (.int z :: st)) := by
  obtain ⟨fs, hr, hrun, hended, hW, hsame⟩ := X.leave (v := some (.int (nar t z))) (fun h => by rw [hret] at h; cases h) hk
  exact ⟨_, _, retN X hx hret ht hd hr, hrun, hended, _, _, rfl, hQ, ⟨_, rfl⟩, hW, hsame.mono hc hs⟩
theorem own_retI (X : Stand p l e R s m args below meth c T locs cells slots) (hx : p.tables.exec = Jvm.exec) (hk : meth.locks = false) (hret : meth.sig.returnType = some .int) {z : Int32} (hd : decode c.code pc = .ok (.ireturn, 1)) (hc : cells ≤ ck) (hs : slots ≤ sn) (hQ : Q (some (.int z)) T.heap locs) :
    own_Go p e below (own_End s Q ck sn) T (mkF m pc Ls (.int z :: st)) := by
  obtain ⟨fs, hr, hrun, hended, hW, hsame⟩ := X.leave (v := some (.int z)) (fun h => by rw [hret] at h; cases h) hk
  exact ⟨_, _, retOut X hx hret rfl (Or.inl ⟨rfl, Or.inl rfl, z, rfl⟩) hd hr, hrun, hended, _, _, rfl, hQ, ⟨_, rfl⟩, hW, hsame.mono hc hs⟩
theorem own_retL (X : Stand p l e R s m args below meth c T locs cells slots) (hx : p.tables.exec = Jvm.exec) (hk : meth.locks = false) (hret : meth.sig.returnType = some .long) {z : Int64} (hd : decode c.code pc = .ok (.lreturn, 1)) (hc : cells ≤ ck) (hs : slots ≤ sn) (hQ : Q (some (.long z)) T.heap locs) :
    own_Go p e below (own_End s Q ck sn) T (mkF m pc Ls (.long z :: st)) := by
  obtain ⟨fs, hr, hrun, hended, hW, hsame⟩ := X.leave (v := some (.long z)) (fun h => by rw [hret] at h; cases h) hk
  exact ⟨_, _, retOut X hx hret rfl (Or.inr (Or.inl ⟨rfl, rfl, z, rfl⟩)) hd hr, hrun, hended, _, _, rfl, hQ, ⟨_, rfl⟩, hW, hsame.mono hc hs⟩
theorem own_narR {t : FieldType} {w : Value} (ht : t.isReference = true) (hw : w.isRef = true) : narrow t w = w := by
  rcases ref_cases hw with rfl | ⟨a, rfl⟩ <;> cases t <;> first | rfl | (cases ht; done)
theorem own_retA (X : Stand p l e R s m args below meth c T locs cells slots) (hx : p.tables.exec = Jvm.exec) (hk : meth.locks = false) {t : FieldType} (hret : meth.sig.returnType = some t) (ht : t.isReference = true) {w : Value} (hw : w.isRef = true) (hd : decode c.code pc = .ok (.areturn, 1)) (hc : cells ≤ ck) (hs : slots ≤ sn) (hQ : Q (some w) T.heap locs) :
    own_Go p e below (own_End s Q ck sn) T (mkF m pc Ls (w :: st)) := by
  obtain ⟨fs, hr, hrun, hended, hW, hsame⟩ := X.leave (v := some w) (fun h => by rw [hret] at h; cases h) hk
  exact ⟨_, _, retOut X hx hret (own_narR ht hw) (Or.inr (Or.inr (Or.inr (Or.inr ⟨rfl, ht, hw⟩)))) hd hr, hrun, hended, _, _, rfl, hQ, ⟨_, rfl⟩, hW, hsame.mono hc hs⟩
theorem own_retV (X : Stand p l e R s m args below meth c T locs cells slots) (hx : p.tables.exec = Jvm.exec) (hk : meth.locks = false) (hret : meth.sig.returnType = none) (hd : decode c.code pc = .ok (.return_, 1)) (hc : cells ≤ ck) (hs : slots ≤ sn) (hQ : Q none T.heap locs) :
    own_Go p e below (own_End s Q ck sn) T (mkF m pc Ls []) := by
  obtain ⟨fs, hr, hrun, hended, hW, hsame⟩ := X.leave (v := none) (fun _ => rfl) hk
  exact ⟨_, _, X.returnOut hx hret hd hr, hrun, hended, _, _, rfl, hQ, ⟨_, rfl⟩, hW, hsame.mono hc hs⟩
end OwnGo
section OwnArr
variable {p : Program} {l : Launch} {e : Env} {R : Room} {s : State} {m : MethodId} {args : Array Value} {below : List Frame} {meth : Method} {c : Code} {T : State} {locs : List Loc} {cells slots : Nat} {P : State → Outcome → Prop} {Ls : Array Slot} {st : List Value} {pc pc' : Nat} {Z : State} {h : Heap} {a : Addr} {k : ClassId} {ty : FieldType} {n j : Int32} {vs : List Value} {dv : Value}
theorem own_alen (X : Stand p l e R s m args below meth c T locs cells slots) (hx : p.tables.exec = Jvm.exec) (hZ : Z.Warmed39 s.vm) (eT : T.heap = h) (V : Arv Z h a k ty n vs dv) (hd : decode c.code pc = .ok (.arraylength, 1)) (hp : pc + 1 = pc') (hk : own_Go p e below P T (mkF m pc' Ls (.int n :: st))) : own_Go p e below P T (mkF m pc Ls (.ref a :: st)) := by
  subst hp
  obtain ⟨cl, A, -, S, q, -, -⟩ := V
  have w := X.arraylength hx (by rw [eT]; exact A.1) (State.isArrayOf_alike hZ.alike A.2.1) (g := mkF m pc Ls (.ref a :: st)) rfl rfl hd
  rw [len_of S q] at w
  exact own_st w hk
theorem own_baload (X : Stand p l e R s m args below meth c T locs cells slots) (hx : p.tables.exec = Jvm.exec) (hZ : Z.Warmed39 s.vm) (eT : T.heap = h) (V : Arv Z h a k .byte n vs dv) {x : Int32} (hj : ¬ j < 0 ∧ j < n) (hv : vs.getD j.toNatClampNeg dv = .int x) (hd : decode c.code pc = .ok (.baload, 1)) (hp : pc + 1 = pc') (hk : own_Go p e below P T (mkF m pc' Ls (.int x :: st))) : own_Go p e below P T (mkF m pc Ls (.int j :: .ref a :: st)) := by
  subst hp
  obtain ⟨cl, A, -, S, q, H, -⟩ := V
  exact own_st (X.baloadBytes hx (j := j) (v := .int x) (by rw [eT]; exact A.1) (State.isArrayOf_alike hZ.alike A.2.1) A.2.2 (inb_of S hj) (H.at (inb_of S hj) hv) (g := mkF m pc Ls (.int j :: .ref a :: st)) rfl rfl hd) hk
theorem own_aaload (X : Stand p l e R s m args below meth c T locs cells slots) (hx : p.tables.exec = Jvm.exec) (hZ : Z.Warmed39 s.vm) (eT : T.heap = h) (V : Arv Z h a k ty n vs dv) (ht : ty.isReference = true) {x : Value} (hj : ¬ j < 0 ∧ j < n) (hv : vs.getD j.toNatClampNeg dv = x) (hd : decode c.code pc = .ok (.aaload, 1)) (hp : pc + 1 = pc') (hk : own_Go p e below P T (mkF m pc' Ls (x :: st))) : own_Go p e below P T (mkF m pc Ls (.int j :: .ref a :: st)) := by
  subst hp
  obtain ⟨cl, A, -, S, q, H, -⟩ := V
  exact own_st (X.aaload hx (j := j) (v := x) (by rw [eT]; exact A.1) (State.isArrayOf_alike hZ.alike A.2.1) ht A.2.2 (inb_of S hj) (H.at (inb_of S hj) hv) (g := mkF m pc Ls (.int j :: .ref a :: st)) rfl rfl hd) hk
/-- a byte stored: the list with that place set -/
theorem own_bastore (X : Stand p l e R s m args below meth c T locs cells slots) (hx : p.tables.exec = Jvm.exec) (hZ : Z.Warmed39 s.vm) (eT : T.heap = h) (V : Arv Z h a k .byte n vs dv) (i : Nat) {x : Int32} (hj : ¬ j < 0 ∧ j < n) (hi : j.toNatClampNeg = i) (hl : i < vs.length) (hd : decode c.code pc = .ok (.bastore, 1)) :
    ∃ T' h', Stand p l e R s m args below meth c T' (locs ++ [⟨a, j.toNatClampNeg⟩]) cells slots ∧ T'.heap = h' ∧ Wr h h' a j.toNatClampNeg (.int (nar .byte x)) ∧ Arv Z h' a k .byte n (vs.set i (.int (nar .byte x))) dv ∧ ∀ target, Steps p.tables e below (T'.setTop (mkF m (pc + 1) Ls st)) target → Steps p.tables e below (T.setTop (mkF m pc Ls (.int x :: .int j :: .ref a :: st))) target := by
  obtain ⟨cl, A, q1, S, q, H, G⟩ := V
  obtain ⟨T', h', X', e', W, st'⟩ := stB X hx hZ eT A (j := j) (x := x) (inb_of S hj) (g := mkF m pc Ls (.int x :: .int j :: .ref a :: st)) rfl rfl hd
  exact ⟨T', h', X', e', W, Arv.set A q1 S q H G (fits_nar_byte x) W i hi hl, st'⟩
end OwnArr
/-- an array of n places, whatever they hold -/
def own_Len (Z : State) (h : Heap) (a : Addr) (ty : FieldType) (n : Int32) : Prop := ∃ c : Cell, Arr Z h a c ty ∧ c.slots.size = n.toNatClampNeg ∧ ¬ n < 0
section OwnLen
variable {p : Program} {l : Launch} {e : Env} {R : Room} {s : State} {m : MethodId} {args : Array Value} {below : List Frame} {meth : Method} {c : Code} {T : State} {locs : List Loc} {cells slots : Nat} {P : State → Outcome → Prop} {Ls : Array Slot} {st : List Value} {pc pc' : Nat} {Z : State} {h h' : Heap} {a b : Addr} {ty : FieldType} {n j : Int32} {sl : Nat} {v : Value}
theorem own_Len.lt (F : own_Len Z h a ty n) : a < h.size := by obtain ⟨c, A, -⟩ := F; exact A.lt
theorem own_Len.ext (F : own_Len Z h a ty n) (E : Ext h h') : own_Len Z h' a ty n := by obtain ⟨c, A, r⟩ := F; exact ⟨c, A.ext E, r⟩
theorem own_Len.wr (F : own_Len Z h b ty n) (W : Wr h h' a sl v) : own_Len Z h' b ty n := by
  obtain ⟨c, A, S, q⟩ := F
  by_cases g : b = a
  · subst g; exact ⟨_, A.same W, by rw [sz_set]; exact S, q⟩
  · exact ⟨c, A.other W g, S, q⟩
theorem own_Len.keep {ws : List Addr} (F : own_Len Z h a ty n) (K : Keep h h' ws) : own_Len Z h' a ty n := by
  obtain ⟨c, ⟨A1, A2, A3⟩, S, q⟩ := F
  obtain ⟨c', h1, h2, h3, h4⟩ := K.2.2 a c A1
  refine ⟨c', ⟨h1, ?_, by rw [h3]; exact A3⟩, by rw [h4]; exact S, q⟩
  obtain ⟨B1, k, B2, B3⟩ := A2
  exact ⟨by rw [h3]; exact B1, k, by rw [h2]; exact B2, B3⟩
theorem own_alenL (X : Stand p l e R s m args below meth c T locs cells slots) (hx : p.tables.exec = Jvm.exec) (hZ : Z.Warmed39 s.vm) (eT : T.heap = h) (V : own_Len Z h a ty n) (hd : decode c.code pc = .ok (.arraylength, 1)) (hp : pc + 1 = pc') (hk : own_Go p e below P T (mkF m pc' Ls (.int n :: st))) : own_Go p e below P T (mkF m pc Ls (.ref a :: st)) := by
  subst hp
  obtain ⟨cl, A, S, q⟩ := V
  have w := X.arraylength hx (by rw [eT]; exact A.1) (State.isArrayOf_alike hZ.alike A.2.1) (g := mkF m pc Ls (.ref a :: st)) rfl rfl hd
  rw [len_of S q] at w
  exact own_st w hk
theorem own_aastoreNull (X : Stand p l e R s m args below meth c T locs cells slots) (hx : p.tables.exec = Jvm.exec) (hZ : Z.Warmed39 s.vm) (eT : T.heap = h) (V : own_Len Z h a ty n) (ht : ty.isReference = true) (hj : ¬ j < 0 ∧ j < n) (hd : decode c.code pc = .ok (.aastore, 1)) :
    ∃ T' h', Stand p l e R s m args below meth c T' (locs ++ [⟨a, j.toNatClampNeg⟩]) cells slots ∧ T'.heap = h' ∧ Wr h h' a j.toNatClampNeg .null ∧ ∀ target, Steps p.tables e below (T'.setTop (mkF m (pc + 1) Ls st)) target → Steps p.tables e below (T.setTop (mkF m pc Ls (.null :: .int j :: .ref a :: st))) target := by
  obtain ⟨cl, A, S, q⟩ := V
  exact stR X hx hZ eT A (inb_of S hj) ht (Or.inl rfl) (g := mkF m pc Ls (.null :: .int j :: .ref a :: st)) rfl rfl hd
theorem own_aastoreRef (X : Stand p l e R s m args below meth c T locs cells slots) (hx : p.tables.exec = Jvm.exec) (hZ : Z.Warmed39 s.vm) (eT : T.heap = h) (V : own_Len Z h a ty n) (ht : ty.isReference = true) (hj : ¬ j < 0 ∧ j < n) (F : Sto Z h a v) (hd : decode c.code pc = .ok (.aastore, 1)) :
    ∃ T' h', Stand p l e R s m args below meth c T' (locs ++ [⟨a, j.toNatClampNeg⟩]) cells slots ∧ T'.heap = h' ∧ Wr h h' a j.toNatClampNeg v ∧ ∀ target, Steps p.tables e below (T'.setTop (mkF m (pc + 1) Ls st)) target → Steps p.tables e below (T.setTop (mkF m pc Ls (v :: .int j :: .ref a :: st))) target := by
  obtain ⟨cl, A, S, q⟩ := V
  exact stR X hx hZ eT A (inb_of S hj) ht F (g := mkF m pc Ls (v :: .int j :: .ref a :: st)) rfl rfl hd
theorem own_lastore (X : Stand p l e R s m args below meth c T locs cells slots) (hx : p.tables.exec = Jvm.exec) (hZ : Z.Warmed39 s.vm) (eT : T.heap = h) (V : own_Len Z h a .long n) {x : Int64} (hj : ¬ j < 0 ∧ j < n) (hd : decode c.code pc = .ok (.lastore, 1)) :
    ∃ T' h', Stand p l e R s m args below meth c T' (locs ++ [⟨a, j.toNatClampNeg⟩]) cells slots ∧ T'.heap = h' ∧ Wr h h' a j.toNatClampNeg (.long x) ∧ ∀ target, Steps p.tables e below (T'.setTop (mkF m (pc + 1) Ls st)) target → Steps p.tables e below (T.setTop (mkF m pc Ls (.long x :: .int j :: .ref a :: st))) target := by
  obtain ⟨cl, A, S, q⟩ := V
  exact stJ X hx hZ eT A (inb_of S hj) (g := mkF m pc Ls (.long x :: .int j :: .ref a :: st)) rfl rfl hd
/-- an array of references to C, of n places -/
def own_LenO (Z : State) (h : Heap) (a : Addr) (C : String) (n : Int32) : Prop := ∃ c : Cell, Arr Z h a c (.object C) ∧ c.slots.size = n.toNatClampNeg ∧ ¬ n < 0 ∧ Ovr Z c.cls C
theorem own_LenO.len {C : String} (F : own_LenO Z h a C n) : own_Len Z h a (.object C) n := by obtain ⟨c, A, S, q, -⟩ := F; exact ⟨c, A, S, q⟩
theorem own_LenO.lt {C : String} (F : own_LenO Z h a C n) : a < h.size := by obtain ⟨c, A, -⟩ := F; exact A.lt
theorem own_LenO.ext {C : String} (F : own_LenO Z h a C n) (E : Ext h h') : own_LenO Z h' a C n := by obtain ⟨c, A, r⟩ := F; exact ⟨c, A.ext E, r⟩
theorem own_LenO.wr {C : String} (F : own_LenO Z h b C n) (W : Wr h h' a sl v) : own_LenO Z h' b C n := by
  obtain ⟨c, A, S, q, O⟩ := F
  by_cases g : b = a
  · subst g; exact ⟨_, A.same W, by rw [sz_set]; exact S, q, O⟩
  · exact ⟨c, A.other W g, S, q, O⟩
theorem own_LenO.keep {C : String} {ws : List Addr} (F : own_LenO Z h a C n) (K : Keep h h' ws) : own_LenO Z h' a C n := by
  obtain ⟨c, ⟨A1, A2, A3⟩, S, q, O⟩ := F
  obtain ⟨c', h1, h2, h3, h4⟩ := K.2.2 a c A1
  refine ⟨c', ⟨h1, ?_, by rw [h3]; exact A3⟩, by rw [h4]; exact S, q, by rw [h2]; exact O⟩
  obtain ⟨B1, k, B2, B3⟩ := A2
  exact ⟨by rw [h3]; exact B1, k, by rw [h2]; exact B2, B3⟩
theorem own_LenO.sto {C : String} {y : Addr} (F : own_LenO Z h a C n) (I : Ins Z h y C true) : Sto Z h a (.ref y) := by obtain ⟨c, A, S, q, O⟩ := F; exact Sto.of A O I
end OwnLen
theorem own_NSroot {Z : State} {a0 : Array Value} {O K : String} {n : Nat} (w : (Cond.noSuperclass O).before a0 Z = true) (wk : (Cond.instantiable K n).before a0 Z = true) (hn : O ≠ K) : NS Z O K := by
  obtain ⟨c, k, h1, h2, h3, -, -⟩ := Cond.noSuperclass_spec w
  obtain ⟨t, kt, g1, -⟩ := Cond.instantiable_spec wk
  have ne := ids_ne h1 g1 hn
  refine ⟨c, t, h1, g1, fun fuel => ?_⟩
  cases fuel with
  | zero => rfl
  | succ f => simp [Vm.isSubclassAux, ne, h2, h3]
theorem own_NSno {Z : State} {a0 : Array Value} {C S K : String} {n : Nat} (w : (Cond.superclass C S).before a0 Z = true) (wk : (Cond.instantiable K n).before a0 Z = true) (ns : NS Z C K) (hn : C ≠ K) : ∃ c t, Z.vm.findClass C = some c ∧ Z.vm.findClass K = some t ∧ Z.vm.assignable c t = false := by
  obtain ⟨c, t, h0, g0, n3⟩ := ns
  obtain ⟨p, k, kp, h1, h2, h3, h4, h5, -, h7⟩ := Cond.superclass_spec h0 w
  obtain ⟨t', kt, g1, g2, g5, g7, -⟩ := Cond.instantiable_spec wk
  cases g0.symm.trans g1
  have ne := ids_ne h0 g0 hn
  have gi : kt.isInterface = false := by cases hq : kt.isInterface <;> simp [hq] at g7 ⊢
  refine ⟨c, t, h0, g0, ?_⟩
  show Z.vm.assignableAux (255 + 1) c t = false
  simp [Vm.assignableAux, ne, h2, g2, h5, g5, gi, Vm.isSubclass, n3]
theorem own_StaKeep {Z : State} {h h' : Heap} {C n d : String} {v : Value} {ws : List Addr} (F : Sta Z h C n d v) (K : Keep h h' ws) (q : ∀ x ∈ ws, ∀ cl : Cell, h[x]? = some cl → cl.vm.isStatics = false) : Sta Z h' C n d v := by
  obtain ⟨cf, i, k, f, st, cell, h1, h2, h3, h4, h5, h6, h7⟩ := F
  refine ⟨cf, i, k, f, st, cell, h1, h2, h3, h4, K.2.1 st cell h5 (fun hm => ?_), h6, h7⟩
  rw [q st hm cell h5] at h6; cases h6
section OwnWide
variable {p : Program} {l : Launch} {e : Env} {R : Room} {s : State} {m : MethodId} {args : Array Value} {below : List Frame} {meth : Method} {c : Code} {T : State} {locs : List Loc} {cells slots : Nat} {Ls : Array Slot} {st : List Value} {pc : Nat} {vm1 : Vm} {kn : Nat} {Q : Option Value → Heap → List Loc → Prop} {ck sn : Nat}
abbrev own_EndW (s : State) (Q : Option Value → Heap → List Loc → Prop) (k n : Nat) : State → Outcome → Prop := fun u o => ∃ v L, o = .returned v ∧ Q v u.heap L ∧ ReturnedEndW s o u L k n
theorem own_wmono {s t : State} {o : Outcome} {L : List Loc} {k n k' n' : Nat} (h : ReturnedEndW s o t L k n) (hk : k ≤ k') (hn : n ≤ n') : ReturnedEndW s o t L k' n' := ⟨h.1, h.2.1, h.2.2.1, h.2.2.2.mono hk hn⟩
theorem own_retZW (X : Stand p l e R (s.setVm vm1) m args below meth c T locs cells slots) (hS : s.Since vm1 kn) (hn : kn ≤ T.heap.size) (hx : p.tables.exec = Jvm.exec) (hk : meth.locks = false) {t : FieldType} (hret : meth.sig.returnType = some t) (ht : t = .boolean ∨ t = .byte ∨ t = .char ∨ t = .short) {z : Int32} (hd : decode c.code pc = .ok (.ireturn, 1)) (hc : cells ≤ ck) (hs : slots ≤ sn) (hQ : Q (some (.int (nar t z))) T.heap locs) :
    own_Go p e below (own_EndW s Q ck sn) T (mkF m pc Ls (.int z :: st)) := by
  obtain ⟨fs, hr, hrun, hended, hW⟩ := X.leaveW hS hn (v := some (.int (nar t z))) (fun h => by rw [hret] at h; cases h) hk
  exact ⟨_, _, retN X hx hret ht hd hr, hrun, hended, _, _, rfl, hQ, own_wmono hW hc hs⟩
theorem own_retIW (X : Stand p l e R (s.setVm vm1) m args below meth c T locs cells slots) (hS : s.Since vm1 kn) (hn : kn ≤ T.heap.size) (hx : p.tables.exec = Jvm.exec) (hk : meth.locks = false) (hret : meth.sig.returnType = some .int) {z : Int32} (hd : decode c.code pc = .ok (.ireturn, 1)) (hc : cells ≤ ck) (hs : slots ≤ sn) (hQ : Q (some (.int z)) T.heap locs) :
    own_Go p e below (own_EndW s Q ck sn) T (mkF m pc Ls (.int z :: st)) := by
  obtain ⟨fs, hr, hrun, hended, hW⟩ := X.leaveW hS hn (v := some (.int z)) (fun h => by rw [hret] at h; cases h) hk
  exact ⟨_, _, retOut X hx hret rfl (Or.inl ⟨rfl, Or.inl rfl, z, rfl⟩) hd hr, hrun, hended, _, _, rfl, hQ, own_wmono hW hc hs⟩
theorem own_retAW (X : Stand p l e R (s.setVm vm1) m args below meth c T locs cells slots) (hS : s.Since vm1 kn) (hn : kn ≤ T.heap.size) (hx : p.tables.exec = Jvm.exec) (hk : meth.locks = false) {t : FieldType} (hret : meth.sig.returnType = some t) (ht : t.isReference = true) {w : Value} (hw : w.isRef = true) (hd : decode c.code pc = .ok (.areturn, 1)) (hc : cells ≤ ck) (hs : slots ≤ sn) (hQ : Q (some w) T.heap locs) :
    own_Go p e below (own_EndW s Q ck sn) T (mkF m pc Ls (w :: st)) := by
  obtain ⟨fs, hr, hrun, hended, hW⟩ := X.leaveW hS hn (v := some w) (fun h => by rw [hret] at h; cases h) hk
  exact ⟨_, _, retOut X hx hret (own_narR ht hw) (Or.inr (Or.inr (Or.inr (Or.inr ⟨rfl, ht, hw⟩)))) hd hr, hrun, hended, _, _, rfl, hQ, own_wmono hW hc hs⟩
theorem own_retVW (X : Stand p l e R (s.setVm vm1) m args below meth c T locs cells slots) (hS : s.Since vm1 kn) (hn : kn ≤ T.heap.size) (hx : p.tables.exec = Jvm.exec) (hk : meth.locks = false) (hret : meth.sig.returnType = none) (hd : decode c.code pc = .ok (.return_, 1)) (hc : cells ≤ ck) (hs : slots ≤ sn) (hQ : Q none T.heap locs) :
    own_Go p e below (own_EndW s Q ck sn) T (mkF m pc Ls []) := by
  obtain ⟨fs, hr, hrun, hended, hW⟩ := X.leaveW hS hn (v := none) (fun _ => rfl) hk
  exact ⟨_, _, X.returnOut hx hret hd hr, hrun, hended, _, _, rfl, hQ, own_wmono hW hc hs⟩
end OwnWide
section OwnLam
variable {p : Program} {l : Launch} {e : Env} {R : Room} {s : State} {m : MethodId} {args : Array Value} {below : List Frame} {meth : Method} {c : Code} {T : State} {locs : List Loc} {cells slots : Nat} {P : State → Outcome → Prop} {Ls : Array Slot} {st : List Value} {pc pc' : Nat} {Z : State} {a0 : Array Value} {h : Heap}
theorem own_mnZ {x : MethodName} (hZ : Z.Warmed39 s.vm) (hn : s.methodNamed? x = some m) : Z.methodNamed? x = some m :=
  (State.methodNamed?_setVm (s := Z) hZ.alike x).symm.trans hn
/-- the class's Class object has been made -/
abbrev own_Mir (Z : State) (C : String) : Prop := ∃ (c : ClassId) (k : Class) (m : Addr), Z.vm.findClass C = some c ∧ Z.vm.classes[c]? = some k ∧ k.mirror = some m
theorem own_mvI {ref own n d : String} (hZ : Z.Warmed39 s.vm) (w : (Cond.interfaceMethod ref own n d).before a0 Z = true) : (Cond.interfaceMethod ref own n d).before args s = true := by
  have q : (Cond.interfaceMethod ref own n d).before a0 (Z.setVm s.vm) = true := by
    simp only [Cond.before, Cond.holds, Cond.value, State.vm_setVm, hZ.alike.findClass, State.methodFound?_setVm hZ.alike, State.methodNamed?_setVm hZ.alike, arm_isInterface_setVm hZ.alike] at w ⊢
    exact w
  exact q
/-- a lambda's site that captures nothing -/
theorem own_lamC (X : Stand p l e R s m args below meth c T locs cells slots) (hx : p.tables.exec = Jvm.exec) (hZ : Z.Warmed39 s.vm) {x : MethodName} {index : Nat} {σ : Lambda.Shape} (hm : Z.methodNamed? x = some m) (w : (Cond.lambdaSite x pc index σ).before a0 Z = true) (hcap : σ.captured = []) (hd : decode c.code pc = .ok (.invokedynamic index, 5)) (hsz : Ls.size = c.maxLocals) (hp : pc + 5 = pc')
    (hW : (st.map fun v => v.category).sum + 3072 ≤ R.locals) (k : ∀ a, own_Go p e below P T (mkF m pc' Ls (.ref a :: st))) : own_Go p e below P T (mkF m pc Ls st) := by
  subst hp
  obtain ⟨cK, one, hat⟩ := Cond.lambdaSite_spec w
  obtain ⟨mD, kD, cfD, i0, p0, lk, hmD, hkD, -, -, -, hfind, -, -, hl⟩ := State.lambdaAt?_spec hat
  cases hm.symm.trans hmD
  obtain ⟨k', hk', he⟩ := hZ.alike.2.2 _ _ hkD
  have hw : e.platform.lambdaLinkWords = 3072 := by rw [X.admits.platform]
  rcases hl with ⟨a, cell, rfl, -⟩ | ⟨-, -, hne⟩
  · refine own_st (fun t q => X.lambdaConstant hx (g := mkF m pc Ls st) rfl hsz hd hk' (by rw [he]; exact hfind) ?_ q) (k a)
    rw [hw]
    show 2 * 0 + (st.map fun v => v.category).sum + 3072 ≤ R.locals
    omega
  · exact absurd hcap hne
/-- a lambda's site that captures one reference -/
theorem own_lamM (X : Stand p l e R s m args below meth c T locs cells slots) (hx : p.tables.exec = Jvm.exec) (hZ : Z.Warmed39 s.vm) {x : MethodName} {index fi : Nat} {σ : Lambda.Shape} (hm : Z.methodNamed? x = some m) (w : (Cond.lambdaSite x pc index σ).before a0 Z = true) {t : FieldType} (hcap : σ.captured = [t]) (hok : LamKit.capOK σ x.cls fi 0 = true) (wO : (Cond.instantiable "java/lang/Object" 0).before a0 Z = true) (eT : T.heap = h)
    (hd : decode c.code pc = .ok (.invokedynamic index, 5)) (hsz : Ls.size = c.maxLocals) {v : Value} (hn : narrow t v = v) (hf : fits t v = true)
    (hW : ((v :: st).map fun v => v.category).sum + 3072 ≤ R.locals) (hc : cells + 1 ≤ R.cells) (hs : slots + 1 ≤ R.slots) :
    ∃ T' h', Stand p l e R s m args below meth c T' locs (cells + 1) (slots + 1) ∧ T'.heap = h' ∧ Ext h h' ∧ ∀ target, Steps p.tables e below (T'.setTop (mkF m (pc + 5) Ls (.ref h.size :: st))) target → Steps p.tables e below (T.setTop (mkF m pc Ls (v :: st))) target := by
  obtain ⟨cK, one, hat⟩ := Cond.lambdaSite_spec w
  obtain ⟨mD, kD, cfD, i0, p0, lk, hmD, hkD, hcfD, hsh, -, hfind, hmade, -, hl⟩ := State.lambdaAt?_spec hat
  cases hm.symm.trans hmD
  obtain ⟨kD', hkD', hnameD⟩ := className_of_methodNamed hm
  cases hkD.symm.trans hkD'
  have hne : σ.captured ≠ [] := by rw [hcap]; exact List.cons_ne_nil _ _
  rcases hl with ⟨a, cell, -, -, hc0, -⟩ | ⟨rfl, -, -⟩
  · exact absurd hc0 hne
  · obtain ⟨b, nt, desc, site, h1, h2, h3, h4⟩ := Lambda.shapeOf?_site hsh
    obtain ⟨kc, f, hkc, hkind, hty, -⟩ := LamKit.made_cap hok hkD hnameD hmade (LamKit.noFields wO (State.WarmedH.refl Z))
    obtain ⟨k1, hk1, e1⟩ := hZ.alike.2.2 _ _ hkD
    obtain ⟨k2, hk2, e2⟩ := hZ.alike.2.2 _ _ hkc
    have ty2 : k2.instanceTypes.toList = [t] := by rw [e2]; show kc.instanceTypes.toList = [t]; rw [hty, hcap]
    have hz : ((k2.instanceTypes.toList.zip [v]).map fun (t, v) => narrow t v) = [v] := by rw [ty2]; show [narrow t v] = [v]; rw [hn]
    have hw : e.platform.lambdaLinkWords = 3072 := by rw [X.admits.platform]
    have q := X.lambdaMakes hx (g := mkF m pc Ls (v :: st)) rfl hsz hd (vals := [v]) (rest := st) hk1 (by rw [e1]; exact hfind) (by rw [e1]; exact hcfD) h1 h2 (parseLong_of_parse h3) (by rw [h4, hcap]; rfl) rfl hk2
      (by rw [hw]; show 2 * 0 + ((v :: st).map fun v => v.category).sum + 3072 ≤ R.locals; omega) hc (by rw [hz]; exact hs)
      (fun i u hu => by
        rw [hz] at hu
        have hu' : [v][i]? = some u := by simpa using hu
        match i, hu' with
        | 0, hu' =>
          cases hu'
          have ht : k2.instanceTypes[0]? = some t := by rw [← Array.getElem?_toList, ty2]; rfl
          have hk : k2.kind = .ordinary := by rw [e2]; exact hkind
          simp [State.fitsSlot, State.slotType?, hk2, hk, ht, hf])
    rw [hz] at q
    subst eT
    refine ⟨_, _, by simpa using q.1, rfl, ⟨by show _ ≤ (T.heap.push _).size; simp, fun a cl ha => ?_⟩, q.2⟩
    have hz2 : a < T.heap.size := (Array.getElem?_eq_some_iff.mp ha).1
    show (T.heap.push _)[a]? = _
    rw [Array.getElem?_push_lt hz2, ← Array.getElem?_eq_getElem hz2]; exact ha
/-- getClass by an interface's reference -/
theorem own_gci (X : Stand p l e R s m args below meth c T locs cells slots) (hx : p.tables.exec = Jvm.exec) (hZ : Z.Warmed39 s.vm) {own C I : String} {index count : Nat} (hown : s.vm.findClass own = some m.cls)
    (w1 : (Cond.methodLink own index ⟨I, "getClass", "()Ljava/lang/Class;"⟩).before a0 Z = true) (w2 : (Cond.declares ⟨"java/lang/Object", "getClass", "()Ljava/lang/Class;"⟩).before a0 Z = true) (w3 : (Cond.interfaceMethod I "java/lang/Object" "getClass" "()Ljava/lang/Class;").before a0 Z = true)
    (w4 : (Cond.selects C ⟨I, "getClass", "()Ljava/lang/Class;"⟩ ⟨"java/lang/Object", "getClass", "()Ljava/lang/Class;"⟩).before a0 Z = true) (w5 : (Cond.instanceMethod ⟨"java/lang/Object", "getClass", "()Ljava/lang/Class;"⟩).before a0 Z = true) (w6 : (Cond.publicMethod ⟨"java/lang/Object", "getClass", "()Ljava/lang/Class;"⟩).before a0 Z = true)
    (w7 : (Cond.unhidden C "getClass" "()Ljava/lang/Class;").before a0 Z = true) (w8 : (Cond.castable C I).before a0 Z = true) (w9 : (Cond.native ⟨"java/lang/Object", "getClass", "()Ljava/lang/Class;"⟩).before a0 Z = true) (hI : I ≠ "java/lang/invoke/MethodHandle" ∧ I ≠ "java/lang/invoke/VarHandle") (hO : I ≠ "java/lang/Object")
    (eT : T.heap = h) {a : Addr} (E : Exa Z h a C) (M : own_Mir Z C) (hd : decode c.code pc = .ok (.invokeinterface index count, 5)) (hsz : Ls.size = c.maxLocals) (hf : 1 ≤ R.frames) {W : Nat} (hW : (st.map fun v => v.category).sum ≤ W) (hl : W + (nativeFrameWords "java/lang/Object" "getClass" 1 + 11) ≤ R.locals) :
    ∃ mr T', Stand p l e R s m args below meth c T' locs cells slots ∧ T'.heap = h ∧ ∀ target, Steps p.tables e below (T'.setTop (mkF m (pc + 5) Ls (.ref mr :: st))) target → Steps p.tables e below (T.setTop (mkF m pc Ls (.ref a :: st))) target := by
  obtain ⟨cB, kB, i1, i2, i3⟩ := isOf hZ eT E
  obtain ⟨cc, kc, mr, m1, m2, m3⟩ := M
  have i1' := i1
  rw [hZ.alike.findClass] at i1'
  cases i1'.symm.trans m1
  obtain ⟨k', q, ek⟩ := hZ.alike.2.2 _ _ m2
  obtain ⟨vm', X', st'⟩ := X.getClassOfI hx (xi := ⟨I, "getClass", "()Ljava/lang/Class;"⟩) hown (mvT hZ w1) (mvT hZ w2) (own_mvI hZ w3) (mvT hZ w4) (mvT hZ w5) (mvT hZ w6) (mvT hZ w7) (mvT hZ w8) (mvT hZ w9) hI hO rfl rfl i1 q i3 (by rw [ek]; exact m3) (g := mkF m pc Ls (.ref a :: st)) rfl hsz (rest := st) rfl hd hf
    (by show 2 * 0 + (st.map fun v => v.category).sum + (nativeFrameWords "java/lang/Object" "getClass" 1 + 11) ≤ R.locals; omega)
  exact ⟨mr, _, X', eT, st'⟩
/-- ldc of a class -/
theorem own_ldcM (X : Stand p l e R s m args below meth c T locs cells slots) (hx : p.tables.exec = Jvm.exec) (hZ : Z.Warmed39 s.vm) {own C : String} {index : Nat} (hown : s.vm.findClass own = some m.cls) (w : (Cond.classLink own index C).before a0 Z = true) (eT : T.heap = h) (M : own_Mir Z C) (hd : decode c.code pc = .ok (.ldc index, 2)) :
    ∃ mr T', Stand p l e R s m args below meth c T' locs cells slots ∧ T'.heap = h ∧ ∀ target, Steps p.tables e below (T'.setTop (mkF m (pc + 2) Ls (.ref mr :: st))) target → Steps p.tables e below (T.setTop (mkF m pc Ls st)) target := by
  obtain ⟨cc, kc, mr, m1, m2, m3⟩ := M
  obtain ⟨k', q, ek⟩ := hZ.alike.2.2 _ _ m2
  have hm : k'.mirror = some mr := by rw [ek]; exact m3
  obtain ⟨vm', X', st'⟩ := X.ldcMirror hx hown (C := C) (a := mr) (mvT hZ w) (by simp [Term.eval, hZ.alike.findClass, m1, q, hm]) (g := mkF m pc Ls st) rfl hd
  exact ⟨mr, _, X', eT, st'⟩
theorem own_ldcF (X : Stand p l e R s m args below meth c T locs cells slots) (hx : p.tables.exec = Jvm.exec) {own : String} {index : Nat} {b : UInt32} (hown : s.vm.findClass own = some m.cls) (hc : (Cond.constantFloat own index b).before args s = true) (hd : decode c.code pc = .ok (.ldc index, 2)) (hp : pc + 2 = pc') (k : own_Go p e below P T (mkF m pc' Ls (.float b :: st))) : own_Go p e below P T (mkF m pc Ls st) := by
  subst hp; exact own_st (X.ldcFloatC hx hown hc (g := mkF m pc Ls st) rfl hd) k
end OwnLam
theorem own_rem (x : Int32) : 0 ≤ ((x &&& (2147483647 : Int32)) % (500 : Int32)).toInt ∧ ((x &&& (2147483647 : Int32)) % (500 : Int32)).toInt < 500 := by
  have h0 := (c_and x 2147483647 (by decide)).1
  obtain ⟨h1, h2, -⟩ := (c_iremV (x &&& 2147483647) 500).1 h0 (by decide)
  have e1 : (500 : Int32).toInt = 500 := rfl
  rw [e1] at h2
  exact ⟨h1, h2⟩

theorem own_lo (x : Int32) : ¬ ((100 : Int32) + ((x &&& (2147483647 : Int32)) % (500 : Int32))) < (100 : Int32) := by
  have h := own_rem x
  have e1 : (100 : Int32).toInt = 100 := by decide
  have h5 := c_iadd (100 : Int32) ((x &&& (2147483647 : Int32)) % (500 : Int32))
  have h6 := rng32 ((100 : Int32) + ((x &&& (2147483647 : Int32)) % (500 : Int32)))
  rw [Int32.lt_iff_toInt_lt]; omega
theorem own_hi (x : Int32) : ¬ (599 : Int32) < ((100 : Int32) + ((x &&& (2147483647 : Int32)) % (500 : Int32))) := by
  have h := own_rem x
  have e1 : (100 : Int32).toInt = 100 := by decide
  have e2 : (599 : Int32).toInt = 599 := by decide
  have h5 := c_iadd (100 : Int32) ((x &&& (2147483647 : Int32)) % (500 : Int32))
  have h6 := rng32 ((100 : Int32) + ((x &&& (2147483647 : Int32)) % (500 : Int32)))
  rw [Int32.lt_iff_toInt_lt]; omega
theorem own_cap : LamKit.capOK (Lambda.Shape.mk "java/util/function/BiConsumer" "accept" (MethodDescriptor.mk ([(FieldType.object "java/lang/Object"), (FieldType.object "java/lang/Object")] : List FieldType) (Option.none : Option FieldType)) ([(FieldType.object "java/util/Map")] : List FieldType) 6 "com/example/verbatim_replay/verbatimreplay/StoredResponse" "lambda$new$1" (MethodDescriptor.mk ([(FieldType.object "java/util/Map"), (FieldType.object "java/lang/String"), (FieldType.object "java/util/List")] : List FieldType) (Option.none : Option FieldType)) false (MethodDescriptor.mk ([(FieldType.object "java/lang/String"), (FieldType.object "java/util/List")] : List FieldType) (Option.none : Option FieldType))) "com/example/verbatim_replay/verbatimreplay/StoredResponse" 15 0 = true := by decide +kernel
theorem d1_0 : decode jdk_22_method_1_code 0 = .ok (.aload_n 0, 1) := by decide +kernel
theorem d1_1 : decode jdk_22_method_1_code 1 = .ok (.invokespecial 1, 3) := by decide +kernel
theorem d1_4 : decode jdk_22_method_1_code 4 = .ok (.return_, 1) := by decide +kernel
theorem pn1 : plainFor (⟨"java/util/AbstractCollection", "<init>", "()V"⟩ : MethodName) = true := by first | exact plainFor_of_name (by first | (simp [plainName, overriddenIn]; done) | decide +kernel) | decide +kernel
theorem ef1 (m : MethodId) (a1 : Addr) : entryFrame m #[(.ref a1)] 1 = mkF m 0 #[.val (.ref a1)] [] := by first | (simp [entryFrame, mkF, argsToLocals, Value.category]; done) | rfl
def Q1 (Z : State) (a1 : Addr) (h0 : Heap) (n0 : Nat) (v : Option Value) (h : Heap) (L : List Loc) : Prop := v = none ∧ Fr n0 L ∧ h = h0
set_option maxRecDepth 65536 in
set_option maxHeartbeats 40000000 in
theorem rm1 (l : Launch) (Z : State) (a0 : Array Value) (hw : ∀ d ∈ tables_1, d.before a0 Z = true) (ws : List Jvm.Cond) (a1 : Addr) (h0 : Heap) (n0 : Nat) (Z0 : n0 ≤ h0.size) :
    MetFree l (⟨"java/util/AbstractCollection", "<init>", "()V"⟩ : MethodName) (head1 (Jvm.Cond.code (⟨"java/util/AbstractCollection", "<init>", "()V"⟩ : MethodName) jdk_22_method_1_code 1 none :: ws) ({ frames := 1, cells := 0, slots := 0, locals := 12 } : Room)) (fun a U => a = #[(.ref a1)] ∧ Z.Warmed39 U.vm ∧ U.heap = h0) (fun _ _ _ _ _ => True) (fun _ U o U' => ∃ v L, o = .returned v ∧ Q1 Z a1 h0 n0 v U'.heap L ∧ FrameEnd U o U' L ({ frames := 1, cells := 0, slots := 0, locals := 12 } : Room).cells ({ frames := 1, cells := 0, slots := 0, locals := 12 } : Room).slots) := by
  refine MetFree.of_bodySF pn1 hisR ?_
  intro p e s m args below meth c s₁ Bd hml0 hP hK
  obtain ⟨rfl, hZ, hh⟩ := hP
  have hx := Bd.exec
  have hby := Bd.bytes
  have hlk : meth.locks = false := BodyLoose.notSynchronized Bd
  have hml : c.maxLocals = 1 := hml0
  have hown : s.vm.findClass "java/util/AbstractCollection" = some m.cls := findClass_of_methodNamed Bd.named
  have hnm := (name_of_methodNamed Bd.named Bd.method).1
  have X0 : Stand p l e ({ frames := 1, cells := 0, slots := 0, locals := 12 } : Room) s m #[(.ref a1)] below meth c s₁ [] 0 0 := Stand.of_body Bd
  have e0 : s₁.heap = h0 := by rw [← hh, Bd.state]; rfl
  have N0 := Fr.nil n0
  rw [ef1 m a1]
  show own_Go p e below (own_End s (Q1 Z a1 h0 n0) ({ frames := 1, cells := 0, slots := 0, locals := 12 } : Room).cells ({ frames := 1, cells := 0, slots := 0, locals := 12 } : Room).slots) s₁ (mkF m 0 #[.val (.ref a1)] [])
  refine own_aloadN X0 hx (hb hby d1_0) (pc' := 1) rfl rfl rfl ?_
  obtain ⟨T_1, X_1, e_1, st_1⟩ := initO X0 hx hZ hown (hw _ (List.mem_of_getElem? (i := 19) rfl)) (hw _ (List.mem_of_getElem? (i := 20) rfl)) (hw _ (List.mem_of_getElem? (i := 21) rfl)) e0 (g := (mkF m 1 #[.val (.ref a1)] [(.ref a1)])) rfl (by rw [hml]; rfl) rfl (hb hby d1_1) (by decide) (W := 0) (by show 2 * 0 + _ ≤ _; exact Nat.le_of_eq rfl) (by decide)
  refine own_st st_1 ?_
  show own_Go p e below _ T_1 (mkF m 4 #[.val (.ref a1)] [])
  refine own_retV X_1 hx hlk Bd.returns (hb hby d1_4) (by decide) (by decide) ?_
  rw [e_1]
  exact ⟨rfl, N0, rfl⟩
theorem d2_0 : decode jdk_39_method_1_code 0 = .ok (.aload_n 0, 1) := by decide +kernel
theorem d2_1 : decode jdk_39_method_1_code 1 = .ok (.invokespecial 1, 3) := by decide +kernel
theorem d2_4 : decode jdk_39_method_1_code 4 = .ok (.aload_n 0, 1) := by decide +kernel
theorem d2_5 : decode jdk_39_method_1_code 5 = .ok (.iconst 0, 1) := by decide +kernel
theorem d2_6 : decode jdk_39_method_1_code 6 = .ok (.putfield 7, 3) := by decide +kernel
theorem d2_9 : decode jdk_39_method_1_code 9 = .ok (.return_, 1) := by decide +kernel
theorem pd2_0 : parseMethodDescriptor "()V" = some ⟨[], none⟩ := by decide +kernel
theorem pn2 : plainFor (⟨"java/util/AbstractList", "<init>", "()V"⟩ : MethodName) = true := by first | exact plainFor_of_name (by first | (simp [plainName, overriddenIn]; done) | decide +kernel) | decide +kernel
theorem ef2 (m : MethodId) (a1 : Addr) : entryFrame m #[(.ref a1)] 1 = mkF m 0 #[.val (.ref a1)] [] := by first | (simp [entryFrame, mkF, argsToLocals, Value.category]; done) | rfl
def Q2 (Z : State) (a1 : Addr) (h0 : Heap) (n0 : Nat) (v : Option Value) (h : Heap) (L : List Loc) : Prop := v = none ∧ Fr n0 L ∧ Keep h0 h [a1] ∧ Fld Z h a1 "java/util/ArrayList" "size" "I" (.int (0 : Int32)) ∧ Fld Z h a1 "java/util/ArrayList" "elementData" "[Ljava/lang/Object;" .null
set_option maxRecDepth 65536 in
set_option maxHeartbeats 40000000 in
theorem rm2 (l : Launch) (Z : State) (a0 : Array Value) (hw : ∀ d ∈ tables_1, d.before a0 Z = true) (ws : List Jvm.Cond) (a1 : Addr) (h0 : Heap) (n0 : Nat) (Z0 : n0 ≤ h0.size) (A_a : Exa Z h0 a1 "java/util/ArrayList") (F_m : Fld Z h0 a1 "java/util/AbstractList" "modCount" "I" (.int (0 : Int32))) (F_s : Fld Z h0 a1 "java/util/ArrayList" "size" "I" (.int (0 : Int32))) (F_e : Fld Z h0 a1 "java/util/ArrayList" "elementData" "[Ljava/lang/Object;" (.null)) (ga : n0 ≤ a1) :
    MetFree l (⟨"java/util/AbstractList", "<init>", "()V"⟩ : MethodName) (head1 (Jvm.Cond.code (⟨"java/util/AbstractList", "<init>", "()V"⟩ : MethodName) jdk_39_method_1_code 1 none :: ws) ({ frames := 2, cells := 0, slots := 0, locals := 24 } : Room)) (fun a U => a = #[(.ref a1)] ∧ Z.Warmed39 U.vm ∧ U.heap = h0) (fun _ _ _ _ _ => True) (fun _ U o U' => ∃ v L, o = .returned v ∧ Q2 Z a1 h0 n0 v U'.heap L ∧ FrameEnd U o U' L ({ frames := 2, cells := 0, slots := 0, locals := 24 } : Room).cells ({ frames := 2, cells := 0, slots := 0, locals := 24 } : Room).slots) := by
  refine MetFree.of_bodySF pn2 hisR ?_
  intro p e s m args below meth c s₁ Bd hml0 hP hK
  obtain ⟨rfl, hZ, hh⟩ := hP
  have hx := Bd.exec
  have hby := Bd.bytes
  have hlk : meth.locks = false := BodyLoose.notSynchronized Bd
  have hml : c.maxLocals = 1 := hml0
  have hown : s.vm.findClass "java/util/AbstractList" = some m.cls := findClass_of_methodNamed Bd.named
  have hnm := (name_of_methodNamed Bd.named Bd.method).1
  have X0 : Stand p l e ({ frames := 2, cells := 0, slots := 0, locals := 24 } : Room) s m #[(.ref a1)] below meth c s₁ [] 0 0 := Stand.of_body Bd
  have e0 : s₁.heap = h0 := by rw [← hh, Bd.state]; rfl
  have N0 := Fr.nil n0
  have K0 : Keep h0 h0 [a1] := Keep.refl _ _
  rw [ef2 m a1]
  show own_Go p e below (own_End s (Q2 Z a1 h0 n0) ({ frames := 2, cells := 0, slots := 0, locals := 24 } : Room).cells ({ frames := 2, cells := 0, slots := 0, locals := 24 } : Room).slots) s₁ (mkF m 0 #[.val (.ref a1)] [])
  refine own_aloadN X0 hx (hb hby d2_0) (pc' := 1) rfl rfl rfl ?_
  obtain ⟨_, _, ⟨T_1, L_1, k_1, n_1⟩, -, X_1, ⟨Lc_1, hQ_1, l_1, y_1, z_1⟩, st_1⟩ := X0.specialBack hx  (y := (⟨"java/util/AbstractCollection", "<init>", "()V"⟩ : MethodName)) rfl hown (mvT hZ (hw _ (List.mem_of_getElem? (i := 13) rfl))) (mvT hZ (hw _ (List.mem_of_getElem? (i := 14) rfl))) (mvT hZ (hw _ (List.mem_of_getElem? (i := 18) rfl))) (by decide) (backOf (W := 0) (rm1 l Z a0 hw [] a1 h0 n0 Z0) hZ (hw _ (List.mem_of_getElem? (i := 18) rfl)) (hw _ (List.mem_of_getElem? (i := 17) rfl)) (by decide) (by decide)) (g := (mkF m 1 #[.val (.ref a1)] [(.ref a1)])) rfl (by rw [hml]; rfl) (Steps.refl _) (a := a1) (argsL := []) (rest := []) (lenOf pd2_0 rfl) rfl (by show 2 * 0 + _ ≤ _; exact Nat.le_of_eq rfl) (hb hby d2_1) (fun _ _ => ⟨rfl, e0, (by decide : 0 + 0 ≤ _), (by decide : 0 + 0 ≤ _)⟩)
  dsimp only [Pt.U, Pt.locs, Pt.cells, Pt.slots] at X_1 l_1 y_1 z_1 st_1 hQ_1
  subst l_1 y_1 z_1
  refine own_tr st_1 ?_
  obtain ⟨rfl, Nq_1, eq_1⟩ := hQ_1
  have N_1 := Fr.app N0 Nq_1
  show own_Go p e below _ T_1 (mkF m 4 #[.val (.ref a1)] [])
  refine own_aloadN X_1 hx (hb hby d2_4) (pc' := 5) rfl rfl rfl ?_
  refine own_iconst X_1 hx (0) (hb hby d2_5) (pc' := 6) rfl rfl ?_
  obtain ⟨T_2, h_2, X_2, e_2, W_2, st_2⟩ := putF X_1 hx hZ hown (host := "") (Or.inl (hw _ (List.mem_of_getElem? (i := 22) rfl))) Via.refl eq_1 F_m A_a (Or.inl (hw _ (List.mem_of_getElem? (i := 23) rfl))) (hw _ (List.mem_of_getElem? (i := 2) rfl)) (ty := .int) (by decide) rfl rfl (g := (mkF m 6 #[.val (.ref a1)] [(.int (0 : Int32)), (.ref a1)])) rfl rfl (hb hby d2_6)
  have F_3 : Fld Z h_2 a1 "java/util/AbstractList" "modCount" "I" (.int (0 : Int32)) := F_m.same W_2
  have A_5 : Exa Z h_2 a1 "java/util/ArrayList" := A_a.wr W_2
  have F_6 : Fld Z h_2 a1 "java/util/ArrayList" "size" "I" (.int (0 : Int32)) := F_s.other W_2 (Or.inr (RoadKit.slot_ne (Or.inl (hw _ (List.mem_of_getElem? (i := 57) rfl))) (Or.inl (hw _ (List.mem_of_getElem? (i := 23) rfl))) (by decide) (t := .int) (t' := .int) (by decide) (by decide)))
  have F_7 : Fld Z h_2 a1 "java/util/ArrayList" "elementData" "[Ljava/lang/Object;" (.null) := F_e.other W_2 (Or.inr (RoadKit.slot_ne (Or.inl (hw _ (List.mem_of_getElem? (i := 26) rfl))) (Or.inl (hw _ (List.mem_of_getElem? (i := 23) rfl))) (by decide) (t := (.array (.object "java/lang/Object"))) (t' := .int) (by decide) (by decide)))
  have Z_4 : n0 ≤ h_2.size := by rw [W_2.size]; exact Z0
  have K_4 : Keep h0 h_2 [a1] := K0.wr W_2 (Or.inl (List.mem_of_getElem? (i := 0) rfl))
  have N_2 := Fr.snoc X_2 N_1 ga
  refine own_st st_2 ?_
  show own_Go p e below _ T_2 (mkF m 9 #[.val (.ref a1)] [])
  refine own_retV X_2 hx hlk Bd.returns (hb hby d2_9) (by decide) (by decide) ?_
  rw [e_2]
  exact ⟨rfl, N_2, K_4, F_6, F_7⟩
theorem d3_0 : decode jdk_38_method_2_code 0 = .ok (.aload_n 0, 1) := by decide +kernel
theorem d3_1 : decode jdk_38_method_2_code 1 = .ok (.invokespecial 1, 3) := by decide +kernel
theorem d3_4 : decode jdk_38_method_2_code 4 = .ok (.aload_n 0, 1) := by decide +kernel
theorem d3_5 : decode jdk_38_method_2_code 5 = .ok (.getstatic 39, 3) := by decide +kernel
theorem d3_8 : decode jdk_38_method_2_code 8 = .ok (.putfield 9, 3) := by decide +kernel
theorem d3_11 : decode jdk_38_method_2_code 11 = .ok (.return_, 1) := by decide +kernel
theorem pd3_0 : parseMethodDescriptor "()V" = some ⟨[], none⟩ := by decide +kernel
theorem pn3 : plainFor (⟨"java/util/ArrayList", "<init>", "()V"⟩ : MethodName) = true := by first | exact plainFor_of_name (by first | (simp [plainName, overriddenIn]; done) | decide +kernel) | decide +kernel
theorem ef3 (m : MethodId) (a1 : Addr) : entryFrame m #[(.ref a1)] 1 = mkF m 0 #[.val (.ref a1)] [] := by first | (simp [entryFrame, mkF, argsToLocals, Value.category]; done) | rfl
def Q3 (Z : State) (a1 : Addr) (da : Addr) (h0 : Heap) (n0 : Nat) (v : Option Value) (h : Heap) (L : List Loc) : Prop := v = none ∧ Fr n0 L ∧ Keep h0 h [a1] ∧ Fld Z h a1 "java/util/ArrayList" "size" "I" (.int (0 : Int32))
set_option maxRecDepth 65536 in
set_option maxHeartbeats 40000000 in
theorem rm3 (l : Launch) (Z : State) (a0 : Array Value) (hw : ∀ d ∈ tables_1, d.before a0 Z = true) (ws : List Jvm.Cond) (a1 : Addr) (da : Addr) (h0 : Heap) (n0 : Nat) (Z0 : n0 ≤ h0.size) (O_a : Old Z n0 h0) (A_a : Exa Z h0 a1 "java/util/ArrayList") (F_m : Fld Z h0 a1 "java/util/AbstractList" "modCount" "I" (.int (0 : Int32))) (F_s : Fld Z h0 a1 "java/util/ArrayList" "size" "I" (.int (0 : Int32))) (F_e : Fld Z h0 a1 "java/util/ArrayList" "elementData" "[Ljava/lang/Object;" (.null)) (ga : n0 ≤ a1) (Sd : Sta Z Z.heap "java/util/ArrayList" "DEFAULTCAPACITY_EMPTY_ELEMENTDATA" "[Ljava/lang/Object;" (.ref da)) :
    MetFree l (⟨"java/util/ArrayList", "<init>", "()V"⟩ : MethodName) (head1 (Jvm.Cond.code (⟨"java/util/ArrayList", "<init>", "()V"⟩ : MethodName) jdk_38_method_2_code 1 none :: ws) ({ frames := 3, cells := 0, slots := 0, locals := 36 } : Room)) (fun a U => a = #[(.ref a1)] ∧ Z.Warmed39 U.vm ∧ U.heap = h0) (fun _ _ _ _ _ => True) (fun _ U o U' => ∃ v L, o = .returned v ∧ Q3 Z a1 da h0 n0 v U'.heap L ∧ FrameEnd U o U' L ({ frames := 3, cells := 0, slots := 0, locals := 36 } : Room).cells ({ frames := 3, cells := 0, slots := 0, locals := 36 } : Room).slots) := by
  refine MetFree.of_bodySF pn3 hisR ?_
  intro p e s m args below meth c s₁ Bd hml0 hP hK
  obtain ⟨rfl, hZ, hh⟩ := hP
  have hx := Bd.exec
  have hby := Bd.bytes
  have hlk : meth.locks = false := BodyLoose.notSynchronized Bd
  have hml : c.maxLocals = 1 := hml0
  have hown : s.vm.findClass "java/util/ArrayList" = some m.cls := findClass_of_methodNamed Bd.named
  have hnm := (name_of_methodNamed Bd.named Bd.method).1
  have X0 : Stand p l e ({ frames := 3, cells := 0, slots := 0, locals := 36 } : Room) s m #[(.ref a1)] below meth c s₁ [] 0 0 := Stand.of_body Bd
  have e0 : s₁.heap = h0 := by rw [← hh, Bd.state]; rfl
  have N0 := Fr.nil n0
  have K0 : Keep h0 h0 [a1] := Keep.refl _ _
  rw [ef3 m a1]
  show own_Go p e below (own_End s (Q3 Z a1 da h0 n0) ({ frames := 3, cells := 0, slots := 0, locals := 36 } : Room).cells ({ frames := 3, cells := 0, slots := 0, locals := 36 } : Room).slots) s₁ (mkF m 0 #[.val (.ref a1)] [])
  refine own_aloadN X0 hx (hb hby d3_0) (pc' := 1) rfl rfl rfl ?_
  obtain ⟨_, _, ⟨T_1, L_1, k_1, n_1⟩, -, X_1, ⟨Lc_1, hQ_1, l_1, y_1, z_1⟩, st_1⟩ := X0.specialBack hx  (y := (⟨"java/util/AbstractList", "<init>", "()V"⟩ : MethodName)) rfl hown (mvT hZ (hw _ (List.mem_of_getElem? (i := 7) rfl))) (mvT hZ (hw _ (List.mem_of_getElem? (i := 8) rfl))) (mvT hZ (hw _ (List.mem_of_getElem? (i := 12) rfl))) (by decide) (backOf (W := 0) (rm2 l Z a0 hw [] a1 h0 n0 Z0 A_a F_m F_s F_e ga) hZ (hw _ (List.mem_of_getElem? (i := 12) rfl)) (hw _ (List.mem_of_getElem? (i := 11) rfl)) (by decide) (by decide)) (g := (mkF m 1 #[.val (.ref a1)] [(.ref a1)])) rfl (by rw [hml]; rfl) (Steps.refl _) (a := a1) (argsL := []) (rest := []) (lenOf pd3_0 rfl) rfl (by show 2 * 0 + _ ≤ _; exact Nat.le_of_eq rfl) (hb hby d3_1) (fun _ _ => ⟨rfl, e0, (by decide : 0 + 0 ≤ _), (by decide : 0 + 0 ≤ _)⟩)
  dsimp only [Pt.U, Pt.locs, Pt.cells, Pt.slots] at X_1 l_1 y_1 z_1 st_1 hQ_1
  subst l_1 y_1 z_1
  refine own_tr st_1 ?_
  obtain ⟨rfl, Nq_1, Kq_1, q0_1, q1_1⟩ := hQ_1
  have N_1 := Fr.app N0 Nq_1
  have F_2 : Fld Z T_1.heap a1 "java/util/ArrayList" "size" "I" (.int (0 : Int32)) := q0_1
  have F_3 : Fld Z T_1.heap a1 "java/util/ArrayList" "elementData" "[Ljava/lang/Object;" (.null) := q1_1
  have O_5 : Old Z n0 T_1.heap := O_a.keep Kq_1 (allS ga all0)
  have A_6 : Exa Z T_1.heap a1 "java/util/ArrayList" := A_a.keep Kq_1
  have Z_4 : n0 ≤ T_1.heap.size := Nat.le_trans Z0 Kq_1.1
  have K_4 : Keep h0 T_1.heap [a1] := K0.trans Kq_1 (allS (Or.inl (List.mem_of_getElem? (i := 0) rfl)) all0)
  show own_Go p e below _ T_1 (mkF m 4 #[.val (.ref a1)] [])
  refine own_aloadN X_1 hx (hb hby d3_4) (pc' := 5) rfl rfl rfl ?_
  obtain ⟨T_7, X_7, e_7, st_7⟩ := getS2 X_1 hx hZ hown (host := "") (Or.inl (hw _ (List.mem_of_getElem? (i := 24) rfl))) Via.refl rfl (Sd.ext O_5.2) (g := (mkF m 5 #[.val (.ref a1)] [(.ref a1)])) rfl (hb hby d3_5)
  refine own_st st_7 ?_
  show own_Go p e below _ T_7 (mkF m 8 #[.val (.ref a1)] [(.ref da), (.ref a1)])
  obtain ⟨T_8, h_8, X_8, e_8, W_8, st_8⟩ := putF X_7 hx hZ hown (host := "") (Or.inl (hw _ (List.mem_of_getElem? (i := 25) rfl))) Via.refl e_7 F_3 A_6 (Or.inl (hw _ (List.mem_of_getElem? (i := 26) rfl))) (hw _ (List.mem_of_getElem? (i := 2) rfl)) (ty := (.array (.object "java/lang/Object"))) (by decide) rfl rfl (g := (mkF m 8 #[.val (.ref a1)] [(.ref da), (.ref a1)])) rfl rfl (hb hby d3_8)
  have F_9 : Fld Z h_8 a1 "java/util/ArrayList" "elementData" "[Ljava/lang/Object;" (.ref da) := F_3.same W_8
  have F_11 : Fld Z h_8 a1 "java/util/ArrayList" "size" "I" (.int (0 : Int32)) := F_2.other W_8 (Or.inr (RoadKit.slot_ne (Or.inl (hw _ (List.mem_of_getElem? (i := 57) rfl))) (Or.inl (hw _ (List.mem_of_getElem? (i := 26) rfl))) (by decide) (t := .int) (t' := (.array (.object "java/lang/Object"))) (by decide) (by decide)))
  have O_12 : Old Z n0 h_8 := O_5.wr W_8 ga
  have A_13 : Exa Z h_8 a1 "java/util/ArrayList" := A_6.wr W_8
  have Z_10 : n0 ≤ h_8.size := by rw [W_8.size]; exact Z_4
  have K_10 : Keep h0 h_8 [a1] := K_4.wr W_8 (Or.inl (List.mem_of_getElem? (i := 0) rfl))
  have N_8 := Fr.snoc X_8 N_1 ga
  refine own_st st_8 ?_
  show own_Go p e below _ T_8 (mkF m 11 #[.val (.ref a1)] [])
  refine own_retV X_8 hx hlk Bd.returns (hb hby d3_11) (by decide) (by decide) ?_
  rw [e_8]
  exact ⟨rfl, N_8, K_10, F_11⟩
theorem d4_0 : decode jdk_38_method_8_code 0 = .ok (.aload_n 0, 1) := by decide +kernel
theorem d4_1 : decode jdk_38_method_8_code 1 = .ok (.getfield 48, 3) := by decide +kernel
theorem d4_4 : decode jdk_38_method_8_code 4 = .ok (.ireturn, 1) := by decide +kernel
theorem pn4 : plainFor (⟨"java/util/ArrayList", "size", "()I"⟩ : MethodName) = true := by first | exact plainFor_of_name (by first | (simp [plainName, overriddenIn]; done) | decide +kernel) | decide +kernel
theorem ef4 (m : MethodId) (a1 : Addr) : entryFrame m #[(.ref a1)] 1 = mkF m 0 #[.val (.ref a1)] [] := by first | (simp [entryFrame, mkF, argsToLocals, Value.category]; done) | rfl
def Q4 (Z : State) (a1 : Addr) (nn : Int32) (h0 : Heap) (n0 : Nat) (v : Option Value) (h : Heap) (L : List Loc) : Prop := v = some (.int nn) ∧ Fr n0 L ∧ h = h0
set_option maxRecDepth 65536 in
set_option maxHeartbeats 40000000 in
theorem rm4 (l : Launch) (Z : State) (a0 : Array Value) (hw : ∀ d ∈ tables_1, d.before a0 Z = true) (ws : List Jvm.Cond) (a1 : Addr) (nn : Int32) (h0 : Heap) (n0 : Nat) (Z0 : n0 ≤ h0.size) (F_a : Fld Z h0 a1 "java/util/ArrayList" "size" "I" (.int nn)) :
    MetFree l (⟨"java/util/ArrayList", "size", "()I"⟩ : MethodName) (head1 (Jvm.Cond.code (⟨"java/util/ArrayList", "size", "()I"⟩ : MethodName) jdk_38_method_8_code 1 (some .int) :: ws) ({ frames := 0, cells := 0, slots := 0, locals := 0 } : Room)) (fun a U => a = #[(.ref a1)] ∧ Z.Warmed39 U.vm ∧ U.heap = h0) (fun _ _ _ _ _ => True) (fun _ U o U' => ∃ v L, o = .returned v ∧ Q4 Z a1 nn h0 n0 v U'.heap L ∧ FrameEnd U o U' L ({ frames := 0, cells := 0, slots := 0, locals := 0 } : Room).cells ({ frames := 0, cells := 0, slots := 0, locals := 0 } : Room).slots) := by
  refine MetFree.of_bodySF pn4 hisR ?_
  intro p e s m args below meth c s₁ Bd hml0 hP hK
  obtain ⟨rfl, hZ, hh⟩ := hP
  have hx := Bd.exec
  have hby := Bd.bytes
  have hlk : meth.locks = false := BodyLoose.notSynchronized Bd
  have hml : c.maxLocals = 1 := hml0
  have hown : s.vm.findClass "java/util/ArrayList" = some m.cls := findClass_of_methodNamed Bd.named
  have hnm := (name_of_methodNamed Bd.named Bd.method).1
  have X0 : Stand p l e ({ frames := 0, cells := 0, slots := 0, locals := 0 } : Room) s m #[(.ref a1)] below meth c s₁ [] 0 0 := Stand.of_body Bd
  have e0 : s₁.heap = h0 := by rw [← hh, Bd.state]; rfl
  have N0 := Fr.nil n0
  rw [ef4 m a1]
  show own_Go p e below (own_End s (Q4 Z a1 nn h0 n0) ({ frames := 0, cells := 0, slots := 0, locals := 0 } : Room).cells ({ frames := 0, cells := 0, slots := 0, locals := 0 } : Room).slots) s₁ (mkF m 0 #[.val (.ref a1)] [])
  refine own_aloadN X0 hx (hb hby d4_0) (pc' := 1) rfl rfl rfl ?_
  obtain ⟨T_1, X_1, e_1, st_1⟩ := getF X0 hx hZ hown (host := "") (Or.inl (hw _ (List.mem_of_getElem? (i := 56) rfl))) Via.refl e0 F_a (g := (mkF m 1 #[.val (.ref a1)] [(.ref a1)])) rfl rfl (hb hby d4_1)
  refine own_st st_1 ?_
  show own_Go p e below _ T_1 (mkF m 4 #[.val (.ref a1)] [(.int nn)])
  refine own_retI X_1 hx hlk Bd.returns (hb hby d4_4) (by decide) (by decide) ?_
  rw [e_1]
  exact ⟨rfl, N0, rfl⟩
theorem d5_0 : decode jdk_71_method_1_code 0 = .ok (.aload_n 0, 1) := by decide +kernel
theorem d5_1 : decode jdk_71_method_1_code 1 = .ok (.invokespecial 1, 3) := by decide +kernel
theorem d5_4 : decode jdk_71_method_1_code 4 = .ok (.return_, 1) := by decide +kernel
theorem pn5 : plainFor (⟨"java/util/AbstractMap", "<init>", "()V"⟩ : MethodName) = true := by first | exact plainFor_of_name (by first | (simp [plainName, overriddenIn]; done) | decide +kernel) | decide +kernel
theorem ef5 (m : MethodId) (a1 : Addr) : entryFrame m #[(.ref a1)] 1 = mkF m 0 #[.val (.ref a1)] [] := by first | (simp [entryFrame, mkF, argsToLocals, Value.category]; done) | rfl
def Q5 (Z : State) (a1 : Addr) (h0 : Heap) (n0 : Nat) (v : Option Value) (h : Heap) (L : List Loc) : Prop := v = none ∧ Fr n0 L ∧ h = h0
set_option maxRecDepth 65536 in
set_option maxHeartbeats 40000000 in
theorem rm5 (l : Launch) (Z : State) (a0 : Array Value) (hw : ∀ d ∈ tables_1, d.before a0 Z = true) (ws : List Jvm.Cond) (a1 : Addr) (h0 : Heap) (n0 : Nat) (Z0 : n0 ≤ h0.size) :
    MetFree l (⟨"java/util/AbstractMap", "<init>", "()V"⟩ : MethodName) (head1 (Jvm.Cond.code (⟨"java/util/AbstractMap", "<init>", "()V"⟩ : MethodName) jdk_71_method_1_code 1 none :: ws) ({ frames := 1, cells := 0, slots := 0, locals := 12 } : Room)) (fun a U => a = #[(.ref a1)] ∧ Z.Warmed39 U.vm ∧ U.heap = h0) (fun _ _ _ _ _ => True) (fun _ U o U' => ∃ v L, o = .returned v ∧ Q5 Z a1 h0 n0 v U'.heap L ∧ FrameEnd U o U' L ({ frames := 1, cells := 0, slots := 0, locals := 12 } : Room).cells ({ frames := 1, cells := 0, slots := 0, locals := 12 } : Room).slots) := by
  refine MetFree.of_bodySF pn5 hisR ?_
  intro p e s m args below meth c s₁ Bd hml0 hP hK
  obtain ⟨rfl, hZ, hh⟩ := hP
  have hx := Bd.exec
  have hby := Bd.bytes
  have hlk : meth.locks = false := BodyLoose.notSynchronized Bd
  have hml : c.maxLocals = 1 := hml0
  have hown : s.vm.findClass "java/util/AbstractMap" = some m.cls := findClass_of_methodNamed Bd.named
  have hnm := (name_of_methodNamed Bd.named Bd.method).1
  have X0 : Stand p l e ({ frames := 1, cells := 0, slots := 0, locals := 12 } : Room) s m #[(.ref a1)] below meth c s₁ [] 0 0 := Stand.of_body Bd
  have e0 : s₁.heap = h0 := by rw [← hh, Bd.state]; rfl
  have N0 := Fr.nil n0
  rw [ef5 m a1]
  show own_Go p e below (own_End s (Q5 Z a1 h0 n0) ({ frames := 1, cells := 0, slots := 0, locals := 12 } : Room).cells ({ frames := 1, cells := 0, slots := 0, locals := 12 } : Room).slots) s₁ (mkF m 0 #[.val (.ref a1)] [])
  refine own_aloadN X0 hx (hb hby d5_0) (pc' := 1) rfl rfl rfl ?_
  obtain ⟨T_1, X_1, e_1, st_1⟩ := initO X0 hx hZ hown (hw _ (List.mem_of_getElem? (i := 43) rfl)) (hw _ (List.mem_of_getElem? (i := 20) rfl)) (hw _ (List.mem_of_getElem? (i := 21) rfl)) e0 (g := (mkF m 1 #[.val (.ref a1)] [(.ref a1)])) rfl (by rw [hml]; rfl) rfl (hb hby d5_1) (by decide) (W := 0) (by show 2 * 0 + _ ≤ _; exact Nat.le_of_eq rfl) (by decide)
  refine own_st st_1 ?_
  show own_Go p e below _ T_1 (mkF m 4 #[.val (.ref a1)] [])
  refine own_retV X_1 hx hlk Bd.returns (hb hby d5_4) (by decide) (by decide) ?_
  rw [e_1]
  exact ⟨rfl, N0, rfl⟩
theorem d6_0 : decode jdk_69_method_7_code 0 = .ok (.aload_n 0, 1) := by decide +kernel
theorem d6_1 : decode jdk_69_method_7_code 1 = .ok (.invokespecial 43, 3) := by decide +kernel
theorem d6_4 : decode jdk_69_method_7_code 4 = .ok (.aload_n 0, 1) := by decide +kernel
theorem d6_5 : decode jdk_69_method_7_code 5 = .ok (.ldc 92, 2) := by decide +kernel
theorem d6_7 : decode jdk_69_method_7_code 7 = .ok (.putfield 81, 3) := by decide +kernel
theorem d6_10 : decode jdk_69_method_7_code 10 = .ok (.return_, 1) := by decide +kernel
theorem pd6_0 : parseMethodDescriptor "()V" = some ⟨[], none⟩ := by decide +kernel
theorem pn6 : plainFor (⟨"java/util/HashMap", "<init>", "()V"⟩ : MethodName) = true := by first | exact plainFor_of_name (by first | (simp [plainName, overriddenIn]; done) | decide +kernel) | decide +kernel
theorem ef6 (m : MethodId) (a1 : Addr) : entryFrame m #[(.ref a1)] 1 = mkF m 0 #[.val (.ref a1)] [] := by first | (simp [entryFrame, mkF, argsToLocals, Value.category]; done) | rfl
def Q6 (Z : State) (a1 : Addr) (h0 : Heap) (n0 : Nat) (v : Option Value) (h : Heap) (L : List Loc) : Prop := v = none ∧ Fr n0 L ∧ Keep h0 h [a1] ∧ Fld Z h a1 "java/util/HashMap" "size" "I" (.int (0 : Int32))
set_option maxRecDepth 65536 in
set_option maxHeartbeats 40000000 in
theorem rm6 (l : Launch) (Z : State) (a0 : Array Value) (hw : ∀ d ∈ tables_1, d.before a0 Z = true) (ws : List Jvm.Cond) (a1 : Addr) (h0 : Heap) (n0 : Nat) (Z0 : n0 ≤ h0.size) (A_a : Exa Z h0 a1 "java/util/HashMap") (F_s : Fld Z h0 a1 "java/util/HashMap" "size" "I" (.int (0 : Int32))) (F_l : Fld Z h0 a1 "java/util/HashMap" "loadFactor" "F" (.float (0 : UInt32))) (ga : n0 ≤ a1) :
    MetFree l (⟨"java/util/HashMap", "<init>", "()V"⟩ : MethodName) (head1 (Jvm.Cond.code (⟨"java/util/HashMap", "<init>", "()V"⟩ : MethodName) jdk_69_method_7_code 1 none :: ws) ({ frames := 2, cells := 0, slots := 0, locals := 24 } : Room)) (fun a U => a = #[(.ref a1)] ∧ Z.Warmed39 U.vm ∧ U.heap = h0) (fun _ _ _ _ _ => True) (fun _ U o U' => ∃ v L, o = .returned v ∧ Q6 Z a1 h0 n0 v U'.heap L ∧ FrameEnd U o U' L ({ frames := 2, cells := 0, slots := 0, locals := 24 } : Room).cells ({ frames := 2, cells := 0, slots := 0, locals := 24 } : Room).slots) := by
  refine MetFree.of_bodySF pn6 hisR ?_
  intro p e s m args below meth c s₁ Bd hml0 hP hK
  obtain ⟨rfl, hZ, hh⟩ := hP
  have hx := Bd.exec
  have hby := Bd.bytes
  have hlk : meth.locks = false := BodyLoose.notSynchronized Bd
  have hml : c.maxLocals = 1 := hml0
  have hown : s.vm.findClass "java/util/HashMap" = some m.cls := findClass_of_methodNamed Bd.named
  have hnm := (name_of_methodNamed Bd.named Bd.method).1
  have X0 : Stand p l e ({ frames := 2, cells := 0, slots := 0, locals := 24 } : Room) s m #[(.ref a1)] below meth c s₁ [] 0 0 := Stand.of_body Bd
  have e0 : s₁.heap = h0 := by rw [← hh, Bd.state]; rfl
  have N0 := Fr.nil n0
  have K0 : Keep h0 h0 [a1] := Keep.refl _ _
  rw [ef6 m a1]
  show own_Go p e below (own_End s (Q6 Z a1 h0 n0) ({ frames := 2, cells := 0, slots := 0, locals := 24 } : Room).cells ({ frames := 2, cells := 0, slots := 0, locals := 24 } : Room).slots) s₁ (mkF m 0 #[.val (.ref a1)] [])
  refine own_aloadN X0 hx (hb hby d6_0) (pc' := 1) rfl rfl rfl ?_
  obtain ⟨_, _, ⟨T_1, L_1, k_1, n_1⟩, -, X_1, ⟨Lc_1, hQ_1, l_1, y_1, z_1⟩, st_1⟩ := X0.specialBack hx  (y := (⟨"java/util/AbstractMap", "<init>", "()V"⟩ : MethodName)) rfl hown (mvT hZ (hw _ (List.mem_of_getElem? (i := 37) rfl))) (mvT hZ (hw _ (List.mem_of_getElem? (i := 38) rfl))) (mvT hZ (hw _ (List.mem_of_getElem? (i := 42) rfl))) (by decide) (backOf (W := 0) (rm5 l Z a0 hw [] a1 h0 n0 Z0) hZ (hw _ (List.mem_of_getElem? (i := 42) rfl)) (hw _ (List.mem_of_getElem? (i := 41) rfl)) (by decide) (by decide)) (g := (mkF m 1 #[.val (.ref a1)] [(.ref a1)])) rfl (by rw [hml]; rfl) (Steps.refl _) (a := a1) (argsL := []) (rest := []) (lenOf pd6_0 rfl) rfl (by show 2 * 0 + _ ≤ _; exact Nat.le_of_eq rfl) (hb hby d6_1) (fun _ _ => ⟨rfl, e0, (by decide : 0 + 0 ≤ _), (by decide : 0 + 0 ≤ _)⟩)
  dsimp only [Pt.U, Pt.locs, Pt.cells, Pt.slots] at X_1 l_1 y_1 z_1 st_1 hQ_1
  subst l_1 y_1 z_1
  refine own_tr st_1 ?_
  obtain ⟨rfl, Nq_1, eq_1⟩ := hQ_1
  have N_1 := Fr.app N0 Nq_1
  show own_Go p e below _ T_1 (mkF m 4 #[.val (.ref a1)] [])
  refine own_aloadN X_1 hx (hb hby d6_4) (pc' := 5) rfl rfl rfl ?_
  refine own_ldcF X_1 hx hown (mvT hZ (hw _ (List.mem_of_getElem? (i := 44) rfl))) (hb hby d6_5) (pc' := 7) rfl ?_
  obtain ⟨T_2, h_2, X_2, e_2, W_2, st_2⟩ := putF X_1 hx hZ hown (host := "") (Or.inl (hw _ (List.mem_of_getElem? (i := 45) rfl))) Via.refl eq_1 F_l A_a (Or.inr ⟨(hw _ (List.mem_of_getElem? (i := 46) rfl)), rfl, hnm⟩) (hw _ (List.mem_of_getElem? (i := 32) rfl)) (ty := .float) (by decide) rfl rfl (g := (mkF m 7 #[.val (.ref a1)] [(.float (1061158912 : UInt32)), (.ref a1)])) rfl rfl (hb hby d6_7)
  have F_3 : Fld Z h_2 a1 "java/util/HashMap" "loadFactor" "F" (.float (1061158912 : UInt32)) := F_l.same W_2
  have A_5 : Exa Z h_2 a1 "java/util/HashMap" := A_a.wr W_2
  have F_6 : Fld Z h_2 a1 "java/util/HashMap" "size" "I" (.int (0 : Int32)) := F_s.other W_2 (Or.inr (RoadKit.slot_ne (Or.inl (hw _ (List.mem_of_getElem? (i := 105) rfl))) (Or.inr (hw _ (List.mem_of_getElem? (i := 46) rfl))) (by decide) (t := .int) (t' := .float) (by decide) (by decide)))
  have Z_4 : n0 ≤ h_2.size := by rw [W_2.size]; exact Z0
  have K_4 : Keep h0 h_2 [a1] := K0.wr W_2 (Or.inl (List.mem_of_getElem? (i := 0) rfl))
  have N_2 := Fr.snoc X_2 N_1 ga
  refine own_st st_2 ?_
  show own_Go p e below _ T_2 (mkF m 10 #[.val (.ref a1)] [])
  refine own_retV X_2 hx hlk Bd.returns (hb hby d6_10) (by decide) (by decide) ?_
  rw [e_2]
  exact ⟨rfl, N_2, K_4, F_6⟩
theorem d7_0 : decode jdk_2729_method_2_code 0 = .ok (.aload_n 0, 1) := by decide +kernel
theorem d7_1 : decode jdk_2729_method_2_code 1 = .ok (.invokespecial 1, 3) := by decide +kernel
theorem d7_4 : decode jdk_2729_method_2_code 4 = .ok (.aload_n 0, 1) := by decide +kernel
theorem d7_5 : decode jdk_2729_method_2_code 5 = .ok (.iconst 0, 1) := by decide +kernel
theorem d7_6 : decode jdk_2729_method_2_code 6 = .ok (.putfield 7, 3) := by decide +kernel
theorem d7_9 : decode jdk_2729_method_2_code 9 = .ok (.aload_n 0, 1) := by decide +kernel
theorem d7_10 : decode jdk_2729_method_2_code 10 = .ok (.iconst 0, 1) := by decide +kernel
theorem d7_11 : decode jdk_2729_method_2_code 11 = .ok (.putfield 13, 3) := by decide +kernel
theorem d7_14 : decode jdk_2729_method_2_code 14 = .ok (.aload_n 0, 1) := by decide +kernel
theorem d7_15 : decode jdk_2729_method_2_code 15 = .ok (.aload_n 1, 1) := by decide +kernel
theorem d7_16 : decode jdk_2729_method_2_code 16 = .ok (.putfield 16, 3) := by decide +kernel
theorem d7_19 : decode jdk_2729_method_2_code 19 = .ok (.return_, 1) := by decide +kernel
theorem pd7_0 : parseMethodDescriptor "()V" = some ⟨[], none⟩ := by decide +kernel
theorem pn7 : plainFor (⟨"java/util/TreeMap", "<init>", "(Ljava/util/Comparator;)V"⟩ : MethodName) = true := by first | exact plainFor_of_name (by first | (simp [plainName, overriddenIn]; done) | decide +kernel) | decide +kernel
theorem ef7 (m : MethodId) (a1 : Addr) (c1 : Addr) : entryFrame m #[(.ref a1), (.ref c1)] 2 = mkF m 0 #[.val (.ref a1), .val (.ref c1)] [] := by first | (simp [entryFrame, mkF, argsToLocals, Value.category]; done) | rfl
def Q7 (Z : State) (a1 : Addr) (c1 : Addr) (h0 : Heap) (n0 : Nat) (v : Option Value) (h : Heap) (L : List Loc) : Prop := v = none ∧ Fr n0 L ∧ Keep h0 h [a1] ∧ Fld Z h a1 "java/util/TreeMap" "modCount" "I" (.int (0 : Int32)) ∧ Fld Z h a1 "java/util/TreeMap" "root" "Ljava/util/TreeMap$Entry;" .null
set_option maxRecDepth 65536 in
set_option maxHeartbeats 40000000 in
theorem rm7 (l : Launch) (Z : State) (a0 : Array Value) (hw : ∀ d ∈ tables_1, d.before a0 Z = true) (ws : List Jvm.Cond) (a1 : Addr) (c1 : Addr) (h0 : Heap) (n0 : Nat) (Z0 : n0 ≤ h0.size) (A_a : Exa Z h0 a1 "java/util/TreeMap") (F_s : Fld Z h0 a1 "java/util/TreeMap" "size" "I" (.int (0 : Int32))) (F_m : Fld Z h0 a1 "java/util/TreeMap" "modCount" "I" (.int (0 : Int32))) (F_c : Fld Z h0 a1 "java/util/TreeMap" "comparator" "Ljava/util/Comparator;" (.null)) (F_r : Fld Z h0 a1 "java/util/TreeMap" "root" "Ljava/util/TreeMap$Entry;" (.null)) (ga : n0 ≤ a1) :
    MetFree l (⟨"java/util/TreeMap", "<init>", "(Ljava/util/Comparator;)V"⟩ : MethodName) (head1 (Jvm.Cond.code (⟨"java/util/TreeMap", "<init>", "(Ljava/util/Comparator;)V"⟩ : MethodName) jdk_2729_method_2_code 2 none :: ws) ({ frames := 2, cells := 0, slots := 0, locals := 24 } : Room)) (fun a U => a = #[(.ref a1), (.ref c1)] ∧ Z.Warmed39 U.vm ∧ U.heap = h0) (fun _ _ _ _ _ => True) (fun _ U o U' => ∃ v L, o = .returned v ∧ Q7 Z a1 c1 h0 n0 v U'.heap L ∧ FrameEnd U o U' L ({ frames := 2, cells := 0, slots := 0, locals := 24 } : Room).cells ({ frames := 2, cells := 0, slots := 0, locals := 24 } : Room).slots) := by
  refine MetFree.of_bodySF pn7 hisR ?_
  intro p e s m args below meth c s₁ Bd hml0 hP hK
  obtain ⟨rfl, hZ, hh⟩ := hP
  have hx := Bd.exec
  have hby := Bd.bytes
  have hlk : meth.locks = false := BodyLoose.notSynchronized Bd
  have hml : c.maxLocals = 2 := hml0
  have hown : s.vm.findClass "java/util/TreeMap" = some m.cls := findClass_of_methodNamed Bd.named
  have hnm := (name_of_methodNamed Bd.named Bd.method).1
  have X0 : Stand p l e ({ frames := 2, cells := 0, slots := 0, locals := 24 } : Room) s m #[(.ref a1), (.ref c1)] below meth c s₁ [] 0 0 := Stand.of_body Bd
  have e0 : s₁.heap = h0 := by rw [← hh, Bd.state]; rfl
  have N0 := Fr.nil n0
  have K0 : Keep h0 h0 [a1] := Keep.refl _ _
  rw [ef7 m a1 c1]
  show own_Go p e below (own_End s (Q7 Z a1 c1 h0 n0) ({ frames := 2, cells := 0, slots := 0, locals := 24 } : Room).cells ({ frames := 2, cells := 0, slots := 0, locals := 24 } : Room).slots) s₁ (mkF m 0 #[.val (.ref a1), .val (.ref c1)] [])
  refine own_aloadN X0 hx (hb hby d7_0) (pc' := 1) rfl rfl rfl ?_
  obtain ⟨_, _, ⟨T_1, L_1, k_1, n_1⟩, -, X_1, ⟨Lc_1, hQ_1, l_1, y_1, z_1⟩, st_1⟩ := X0.specialBack hx  (y := (⟨"java/util/AbstractMap", "<init>", "()V"⟩ : MethodName)) rfl hown (mvT hZ (hw _ (List.mem_of_getElem? (i := 83) rfl))) (mvT hZ (hw _ (List.mem_of_getElem? (i := 38) rfl))) (mvT hZ (hw _ (List.mem_of_getElem? (i := 42) rfl))) (by decide) (backOf (W := 0) (rm5 l Z a0 hw [] a1 h0 n0 Z0) hZ (hw _ (List.mem_of_getElem? (i := 42) rfl)) (hw _ (List.mem_of_getElem? (i := 41) rfl)) (by decide) (by decide)) (g := (mkF m 1 #[.val (.ref a1), .val (.ref c1)] [(.ref a1)])) rfl (by rw [hml]; rfl) (Steps.refl _) (a := a1) (argsL := []) (rest := []) (lenOf pd7_0 rfl) rfl (by show 2 * 0 + _ ≤ _; exact Nat.le_of_eq rfl) (hb hby d7_1) (fun _ _ => ⟨rfl, e0, (by decide : 0 + 0 ≤ _), (by decide : 0 + 0 ≤ _)⟩)
  dsimp only [Pt.U, Pt.locs, Pt.cells, Pt.slots] at X_1 l_1 y_1 z_1 st_1 hQ_1
  subst l_1 y_1 z_1
  refine own_tr st_1 ?_
  obtain ⟨rfl, Nq_1, eq_1⟩ := hQ_1
  have N_1 := Fr.app N0 Nq_1
  show own_Go p e below _ T_1 (mkF m 4 #[.val (.ref a1), .val (.ref c1)] [])
  refine own_aloadN X_1 hx (hb hby d7_4) (pc' := 5) rfl rfl rfl ?_
  refine own_iconst X_1 hx (0) (hb hby d7_5) (pc' := 6) rfl rfl ?_
  obtain ⟨T_2, h_2, X_2, e_2, W_2, st_2⟩ := putF X_1 hx hZ hown (host := "") (Or.inl (hw _ (List.mem_of_getElem? (i := 85) rfl))) Via.refl eq_1 F_s A_a (Or.inl (hw _ (List.mem_of_getElem? (i := 86) rfl))) (hw _ (List.mem_of_getElem? (i := 77) rfl)) (ty := .int) (by decide) rfl rfl (g := (mkF m 6 #[.val (.ref a1), .val (.ref c1)] [(.int (0 : Int32)), (.ref a1)])) rfl rfl (hb hby d7_6)
  have F_3 : Fld Z h_2 a1 "java/util/TreeMap" "size" "I" (.int (0 : Int32)) := F_s.same W_2
  have A_5 : Exa Z h_2 a1 "java/util/TreeMap" := A_a.wr W_2
  have F_6 : Fld Z h_2 a1 "java/util/TreeMap" "modCount" "I" (.int (0 : Int32)) := F_m.other W_2 (Or.inr (RoadKit.slot_ne (Or.inl (hw _ (List.mem_of_getElem? (i := 88) rfl))) (Or.inl (hw _ (List.mem_of_getElem? (i := 86) rfl))) (by decide) (t := .int) (t' := .int) (by decide) (by decide)))
  have F_7 : Fld Z h_2 a1 "java/util/TreeMap" "comparator" "Ljava/util/Comparator;" (.null) := F_c.other W_2 (Or.inr (RoadKit.slot_ne (Or.inr (hw _ (List.mem_of_getElem? (i := 90) rfl))) (Or.inl (hw _ (List.mem_of_getElem? (i := 86) rfl))) (by decide) (t := (.object "java/util/Comparator")) (t' := .int) (by decide) (by decide)))
  have F_8 : Fld Z h_2 a1 "java/util/TreeMap" "root" "Ljava/util/TreeMap$Entry;" (.null) := F_r.other W_2 (Or.inr (RoadKit.slot_ne (Or.inl (hw _ (List.mem_of_getElem? (i := 126) rfl))) (Or.inl (hw _ (List.mem_of_getElem? (i := 86) rfl))) (by decide) (t := (.object "java/util/TreeMap$Entry")) (t' := .int) (by decide) (by decide)))
  have Z_4 : n0 ≤ h_2.size := by rw [W_2.size]; exact Z0
  have K_4 : Keep h0 h_2 [a1] := K0.wr W_2 (Or.inl (List.mem_of_getElem? (i := 0) rfl))
  have N_2 := Fr.snoc X_2 N_1 ga
  refine own_st st_2 ?_
  show own_Go p e below _ T_2 (mkF m 9 #[.val (.ref a1), .val (.ref c1)] [])
  refine own_aloadN X_2 hx (hb hby d7_9) (pc' := 10) rfl rfl rfl ?_
  refine own_iconst X_2 hx (0) (hb hby d7_10) (pc' := 11) rfl rfl ?_
  obtain ⟨T_9, h_9, X_9, e_9, W_9, st_9⟩ := putF X_2 hx hZ hown (host := "") (Or.inl (hw _ (List.mem_of_getElem? (i := 87) rfl))) Via.refl e_2 F_6 A_5 (Or.inl (hw _ (List.mem_of_getElem? (i := 88) rfl))) (hw _ (List.mem_of_getElem? (i := 77) rfl)) (ty := .int) (by decide) rfl rfl (g := (mkF m 11 #[.val (.ref a1), .val (.ref c1)] [(.int (0 : Int32)), (.ref a1)])) rfl rfl (hb hby d7_11)
  have F_10 : Fld Z h_9 a1 "java/util/TreeMap" "modCount" "I" (.int (0 : Int32)) := F_6.same W_9
  have F_12 : Fld Z h_9 a1 "java/util/TreeMap" "size" "I" (.int (0 : Int32)) := F_3.other W_9 (Or.inr (RoadKit.slot_ne (Or.inl (hw _ (List.mem_of_getElem? (i := 86) rfl))) (Or.inl (hw _ (List.mem_of_getElem? (i := 88) rfl))) (by decide) (t := .int) (t' := .int) (by decide) (by decide)))
  have A_13 : Exa Z h_9 a1 "java/util/TreeMap" := A_5.wr W_9
  have F_14 : Fld Z h_9 a1 "java/util/TreeMap" "comparator" "Ljava/util/Comparator;" (.null) := F_7.other W_9 (Or.inr (RoadKit.slot_ne (Or.inr (hw _ (List.mem_of_getElem? (i := 90) rfl))) (Or.inl (hw _ (List.mem_of_getElem? (i := 88) rfl))) (by decide) (t := (.object "java/util/Comparator")) (t' := .int) (by decide) (by decide)))
  have F_15 : Fld Z h_9 a1 "java/util/TreeMap" "root" "Ljava/util/TreeMap$Entry;" (.null) := F_8.other W_9 (Or.inr (RoadKit.slot_ne (Or.inl (hw _ (List.mem_of_getElem? (i := 126) rfl))) (Or.inl (hw _ (List.mem_of_getElem? (i := 88) rfl))) (by decide) (t := (.object "java/util/TreeMap$Entry")) (t' := .int) (by decide) (by decide)))
  have Z_11 : n0 ≤ h_9.size := by rw [W_9.size]; exact Z_4
  have K_11 : Keep h0 h_9 [a1] := K_4.wr W_9 (Or.inl (List.mem_of_getElem? (i := 0) rfl))
  have N_9 := Fr.snoc X_9 N_2 ga
  refine own_st st_9 ?_
  show own_Go p e below _ T_9 (mkF m 14 #[.val (.ref a1), .val (.ref c1)] [])
  refine own_aloadN X_9 hx (hb hby d7_14) (pc' := 15) rfl rfl rfl ?_
  refine own_aloadN X_9 hx (hb hby d7_15) (pc' := 16) rfl rfl rfl ?_
  obtain ⟨T_16, h_16, X_16, e_16, W_16, st_16⟩ := putF X_9 hx hZ hown (host := "") (Or.inl (hw _ (List.mem_of_getElem? (i := 89) rfl))) Via.refl e_9 F_14 A_13 (Or.inr ⟨(hw _ (List.mem_of_getElem? (i := 90) rfl)), rfl, hnm⟩) (hw _ (List.mem_of_getElem? (i := 77) rfl)) (ty := (.object "java/util/Comparator")) (by decide) rfl rfl (g := (mkF m 16 #[.val (.ref a1), .val (.ref c1)] [(.ref c1), (.ref a1)])) rfl rfl (hb hby d7_16)
  have F_17 : Fld Z h_16 a1 "java/util/TreeMap" "comparator" "Ljava/util/Comparator;" (.ref c1) := F_14.same W_16
  have F_19 : Fld Z h_16 a1 "java/util/TreeMap" "modCount" "I" (.int (0 : Int32)) := F_10.other W_16 (Or.inr (RoadKit.slot_ne (Or.inl (hw _ (List.mem_of_getElem? (i := 88) rfl))) (Or.inr (hw _ (List.mem_of_getElem? (i := 90) rfl))) (by decide) (t := .int) (t' := (.object "java/util/Comparator")) (by decide) (by decide)))
  have F_20 : Fld Z h_16 a1 "java/util/TreeMap" "size" "I" (.int (0 : Int32)) := F_12.other W_16 (Or.inr (RoadKit.slot_ne (Or.inl (hw _ (List.mem_of_getElem? (i := 86) rfl))) (Or.inr (hw _ (List.mem_of_getElem? (i := 90) rfl))) (by decide) (t := .int) (t' := (.object "java/util/Comparator")) (by decide) (by decide)))
  have A_21 : Exa Z h_16 a1 "java/util/TreeMap" := A_13.wr W_16
  have F_22 : Fld Z h_16 a1 "java/util/TreeMap" "root" "Ljava/util/TreeMap$Entry;" (.null) := F_15.other W_16 (Or.inr (RoadKit.slot_ne (Or.inl (hw _ (List.mem_of_getElem? (i := 126) rfl))) (Or.inr (hw _ (List.mem_of_getElem? (i := 90) rfl))) (by decide) (t := (.object "java/util/TreeMap$Entry")) (t' := (.object "java/util/Comparator")) (by decide) (by decide)))
  have Z_18 : n0 ≤ h_16.size := by rw [W_16.size]; exact Z_11
  have K_18 : Keep h0 h_16 [a1] := K_11.wr W_16 (Or.inl (List.mem_of_getElem? (i := 0) rfl))
  have N_16 := Fr.snoc X_16 N_9 ga
  refine own_st st_16 ?_
  show own_Go p e below _ T_16 (mkF m 19 #[.val (.ref a1), .val (.ref c1)] [])
  refine own_retV X_16 hx hlk Bd.returns (hb hby d7_19) (by decide) (by decide) ?_
  rw [e_16]
  exact ⟨rfl, N_16, K_18, F_19, F_22⟩
theorem d8_0 : decode jdk_31_method_11_code 0 = .ok (.aload_n 0, 1) := by decide +kernel
theorem d8_1 : decode jdk_31_method_11_code 1 = .ok (.ifnonnull 12, 3) := by decide +kernel
theorem d8_13 : decode jdk_31_method_11_code 13 = .ok (.aload_n 0, 1) := by decide +kernel
theorem d8_14 : decode jdk_31_method_11_code 14 = .ok (.areturn, 1) := by decide +kernel
theorem pn8 : plainFor (⟨"java/util/Objects", "requireNonNull", "(Ljava/lang/Object;Ljava/lang/String;)Ljava/lang/Object;"⟩ : MethodName) = true := by first | exact plainFor_of_name (by first | (simp [plainName, overriddenIn]; done) | decide +kernel) | decide +kernel
theorem ef8 (m : MethodId) (o1 : Addr) (s1 : Addr) : entryFrame m #[(.ref o1), (.ref s1)] 2 = mkF m 0 #[.val (.ref o1), .val (.ref s1)] [] := by first | (simp [entryFrame, mkF, argsToLocals, Value.category]; done) | rfl
def Q8 (Z : State) (o1 : Addr) (s1 : Addr) (h0 : Heap) (n0 : Nat) (v : Option Value) (h : Heap) (L : List Loc) : Prop := v = some (.ref o1) ∧ Fr n0 L ∧ h = h0
set_option maxRecDepth 65536 in
set_option maxHeartbeats 40000000 in
theorem rm8 (l : Launch) (Z : State) (a0 : Array Value) (hw : ∀ d ∈ tables_1, d.before a0 Z = true) (ws : List Jvm.Cond) (o1 : Addr) (s1 : Addr) (h0 : Heap) (n0 : Nat) (Z0 : n0 ≤ h0.size) :
    MetFree l (⟨"java/util/Objects", "requireNonNull", "(Ljava/lang/Object;Ljava/lang/String;)Ljava/lang/Object;"⟩ : MethodName) (head1 (Jvm.Cond.code (⟨"java/util/Objects", "requireNonNull", "(Ljava/lang/Object;Ljava/lang/String;)Ljava/lang/Object;"⟩ : MethodName) jdk_31_method_11_code 2 (some (.object "java/lang/Object")) :: ws) ({ frames := 0, cells := 0, slots := 0, locals := 0 } : Room)) (fun a U => a = #[(.ref o1), (.ref s1)] ∧ Z.Warmed39 U.vm ∧ U.heap = h0) (fun _ _ _ _ _ => True) (fun _ U o U' => ∃ v L, o = .returned v ∧ Q8 Z o1 s1 h0 n0 v U'.heap L ∧ FrameEnd U o U' L ({ frames := 0, cells := 0, slots := 0, locals := 0 } : Room).cells ({ frames := 0, cells := 0, slots := 0, locals := 0 } : Room).slots) := by
  refine MetFree.of_bodySF pn8 hisR ?_
  intro p e s m args below meth c s₁ Bd hml0 hP hK
  obtain ⟨rfl, hZ, hh⟩ := hP
  have hx := Bd.exec
  have hby := Bd.bytes
  have hlk : meth.locks = false := BodyLoose.notSynchronized Bd
  have hml : c.maxLocals = 2 := hml0
  have hown : s.vm.findClass "java/util/Objects" = some m.cls := findClass_of_methodNamed Bd.named
  have hnm := (name_of_methodNamed Bd.named Bd.method).1
  have X0 : Stand p l e ({ frames := 0, cells := 0, slots := 0, locals := 0 } : Room) s m #[(.ref o1), (.ref s1)] below meth c s₁ [] 0 0 := Stand.of_body Bd
  have e0 : s₁.heap = h0 := by rw [← hh, Bd.state]; rfl
  have N0 := Fr.nil n0
  rw [ef8 m o1 s1]
  show own_Go p e below (own_End s (Q8 Z o1 s1 h0 n0) ({ frames := 0, cells := 0, slots := 0, locals := 0 } : Room).cells ({ frames := 0, cells := 0, slots := 0, locals := 0 } : Room).slots) s₁ (mkF m 0 #[.val (.ref o1), .val (.ref s1)] [])
  refine own_aloadN X0 hx (hb hby d8_0) (pc' := 1) rfl rfl rfl ?_
  refine own_ifnonnullY X0 hx (hb hby d8_1) (pc' := 13) (by decide) (by decide) ?_
  refine own_aloadN X0 hx (hb hby d8_13) (pc' := 14) rfl rfl rfl ?_
  refine own_retA X0 hx hlk Bd.returns rfl rfl (hb hby d8_14) (by decide) (by decide) ?_
  rw [e0]
  exact ⟨rfl, N0, rfl⟩
theorem d9_0 : decode jdk_31_method_10_code 0 = .ok (.aload_n 0, 1) := by decide +kernel
theorem d9_1 : decode jdk_31_method_10_code 1 = .ok (.ifnonnull 11, 3) := by decide +kernel
theorem d9_12 : decode jdk_31_method_10_code 12 = .ok (.aload_n 0, 1) := by decide +kernel
theorem d9_13 : decode jdk_31_method_10_code 13 = .ok (.areturn, 1) := by decide +kernel
theorem pn9 : plainFor (⟨"java/util/Objects", "requireNonNull", "(Ljava/lang/Object;)Ljava/lang/Object;"⟩ : MethodName) = true := by first | exact plainFor_of_name (by first | (simp [plainName, overriddenIn]; done) | decide +kernel) | decide +kernel
theorem ef9 (m : MethodId) (o1 : Addr) : entryFrame m #[(.ref o1)] 1 = mkF m 0 #[.val (.ref o1)] [] := by first | (simp [entryFrame, mkF, argsToLocals, Value.category]; done) | rfl
def Q9 (Z : State) (o1 : Addr) (h0 : Heap) (n0 : Nat) (v : Option Value) (h : Heap) (L : List Loc) : Prop := v = some (.ref o1) ∧ Fr n0 L ∧ h = h0
set_option maxRecDepth 65536 in
set_option maxHeartbeats 40000000 in
theorem rm9 (l : Launch) (Z : State) (a0 : Array Value) (hw : ∀ d ∈ tables_1, d.before a0 Z = true) (ws : List Jvm.Cond) (o1 : Addr) (h0 : Heap) (n0 : Nat) (Z0 : n0 ≤ h0.size) :
    MetFree l (⟨"java/util/Objects", "requireNonNull", "(Ljava/lang/Object;)Ljava/lang/Object;"⟩ : MethodName) (head1 (Jvm.Cond.code (⟨"java/util/Objects", "requireNonNull", "(Ljava/lang/Object;)Ljava/lang/Object;"⟩ : MethodName) jdk_31_method_10_code 1 (some (.object "java/lang/Object")) :: ws) ({ frames := 0, cells := 0, slots := 0, locals := 0 } : Room)) (fun a U => a = #[(.ref o1)] ∧ Z.Warmed39 U.vm ∧ U.heap = h0) (fun _ _ _ _ _ => True) (fun _ U o U' => ∃ v L, o = .returned v ∧ Q9 Z o1 h0 n0 v U'.heap L ∧ FrameEnd U o U' L ({ frames := 0, cells := 0, slots := 0, locals := 0 } : Room).cells ({ frames := 0, cells := 0, slots := 0, locals := 0 } : Room).slots) := by
  refine MetFree.of_bodySF pn9 hisR ?_
  intro p e s m args below meth c s₁ Bd hml0 hP hK
  obtain ⟨rfl, hZ, hh⟩ := hP
  have hx := Bd.exec
  have hby := Bd.bytes
  have hlk : meth.locks = false := BodyLoose.notSynchronized Bd
  have hml : c.maxLocals = 1 := hml0
  have hown : s.vm.findClass "java/util/Objects" = some m.cls := findClass_of_methodNamed Bd.named
  have hnm := (name_of_methodNamed Bd.named Bd.method).1
  have X0 : Stand p l e ({ frames := 0, cells := 0, slots := 0, locals := 0 } : Room) s m #[(.ref o1)] below meth c s₁ [] 0 0 := Stand.of_body Bd
  have e0 : s₁.heap = h0 := by rw [← hh, Bd.state]; rfl
  have N0 := Fr.nil n0
  rw [ef9 m o1]
  show own_Go p e below (own_End s (Q9 Z o1 h0 n0) ({ frames := 0, cells := 0, slots := 0, locals := 0 } : Room).cells ({ frames := 0, cells := 0, slots := 0, locals := 0 } : Room).slots) s₁ (mkF m 0 #[.val (.ref o1)] [])
  refine own_aloadN X0 hx (hb hby d9_0) (pc' := 1) rfl rfl rfl ?_
  refine own_ifnonnullY X0 hx (hb hby d9_1) (pc' := 12) (by decide) (by decide) ?_
  refine own_aloadN X0 hx (hb hby d9_12) (pc' := 13) rfl rfl rfl ?_
  refine own_retA X0 hx hlk Bd.returns rfl rfl (hb hby d9_13) (by decide) (by decide) ?_
  rw [e0]
  exact ⟨rfl, N0, rfl⟩
theorem d10_0 : decode jdk_2729_method_72_code 0 = .ok (.aload_n 0, 1) := by decide +kernel
theorem d10_1 : decode jdk_2729_method_72_code 1 = .ok (.getfield 101, 3) := by decide +kernel
theorem d10_4 : decode jdk_2729_method_72_code 4 = .ok (.astore_n 1, 1) := by decide +kernel
theorem d10_5 : decode jdk_2729_method_72_code 5 = .ok (.aload_n 1, 1) := by decide +kernel
theorem d10_6 : decode jdk_2729_method_72_code 6 = .ok (.ifnull 18, 3) := by decide +kernel
theorem d10_24 : decode jdk_2729_method_72_code 24 = .ok (.aload_n 1, 1) := by decide +kernel
theorem d10_25 : decode jdk_2729_method_72_code 25 = .ok (.areturn, 1) := by decide +kernel
theorem pn10 : plainFor (⟨"java/util/TreeMap", "getFirstEntry", "()Ljava/util/TreeMap$Entry;"⟩ : MethodName) = true := by first | exact plainFor_of_name (by first | (simp [plainName, overriddenIn]; done) | decide +kernel) | decide +kernel
theorem ef10 (m : MethodId) (a1 : Addr) : entryFrame m #[(.ref a1)] 2 = mkF m 0 #[.val (.ref a1), .unset] [] := by first | (simp [entryFrame, mkF, argsToLocals, Value.category]; done) | rfl
def Q10 (Z : State) (a1 : Addr) (h0 : Heap) (n0 : Nat) (v : Option Value) (h : Heap) (L : List Loc) : Prop := v = some .null ∧ Fr n0 L ∧ h = h0
set_option maxRecDepth 65536 in
set_option maxHeartbeats 40000000 in
theorem rm10 (l : Launch) (Z : State) (a0 : Array Value) (hw : ∀ d ∈ tables_1, d.before a0 Z = true) (ws : List Jvm.Cond) (a1 : Addr) (h0 : Heap) (n0 : Nat) (Z0 : n0 ≤ h0.size) (F_r : Fld Z h0 a1 "java/util/TreeMap" "root" "Ljava/util/TreeMap$Entry;" (.null)) :
    MetFree l (⟨"java/util/TreeMap", "getFirstEntry", "()Ljava/util/TreeMap$Entry;"⟩ : MethodName) (head1 (Jvm.Cond.code (⟨"java/util/TreeMap", "getFirstEntry", "()Ljava/util/TreeMap$Entry;"⟩ : MethodName) jdk_2729_method_72_code 2 (some (.object "java/util/TreeMap$Entry")) :: ws) ({ frames := 0, cells := 0, slots := 0, locals := 0 } : Room)) (fun a U => a = #[(.ref a1)] ∧ Z.Warmed39 U.vm ∧ U.heap = h0) (fun _ _ _ _ _ => True) (fun _ U o U' => ∃ v L, o = .returned v ∧ Q10 Z a1 h0 n0 v U'.heap L ∧ FrameEnd U o U' L ({ frames := 0, cells := 0, slots := 0, locals := 0 } : Room).cells ({ frames := 0, cells := 0, slots := 0, locals := 0 } : Room).slots) := by
  refine MetFree.of_bodySF pn10 hisR ?_
  intro p e s m args below meth c s₁ Bd hml0 hP hK
  obtain ⟨rfl, hZ, hh⟩ := hP
  have hx := Bd.exec
  have hby := Bd.bytes
  have hlk : meth.locks = false := BodyLoose.notSynchronized Bd
  have hml : c.maxLocals = 2 := hml0
  have hown : s.vm.findClass "java/util/TreeMap" = some m.cls := findClass_of_methodNamed Bd.named
  have hnm := (name_of_methodNamed Bd.named Bd.method).1
  have X0 : Stand p l e ({ frames := 0, cells := 0, slots := 0, locals := 0 } : Room) s m #[(.ref a1)] below meth c s₁ [] 0 0 := Stand.of_body Bd
  have e0 : s₁.heap = h0 := by rw [← hh, Bd.state]; rfl
  have N0 := Fr.nil n0
  rw [ef10 m a1]
  show own_Go p e below (own_End s (Q10 Z a1 h0 n0) ({ frames := 0, cells := 0, slots := 0, locals := 0 } : Room).cells ({ frames := 0, cells := 0, slots := 0, locals := 0 } : Room).slots) s₁ (mkF m 0 #[.val (.ref a1), .unset] [])
  refine own_aloadN X0 hx (hb hby d10_0) (pc' := 1) rfl rfl rfl ?_
  obtain ⟨T_1, X_1, e_1, st_1⟩ := getF X0 hx hZ hown (host := "") (Or.inl (hw _ (List.mem_of_getElem? (i := 125) rfl))) Via.refl e0 F_r (g := (mkF m 1 #[.val (.ref a1), .unset] [(.ref a1)])) rfl rfl (hb hby d10_1)
  refine own_st st_1 ?_
  show own_Go p e below _ T_1 (mkF m 4 #[.val (.ref a1), .unset] [(.null)])
  refine own_astoreN X_1 hx (hb hby d10_4) (pc' := 5) (Ls' := #[.val (.ref a1), .val (.null)]) rfl rfl rfl ?_
  refine own_aloadN X_1 hx (hb hby d10_5) (pc' := 6) rfl rfl rfl ?_
  refine own_ifnullY X_1 hx (hb hby d10_6) (pc' := 24) (by decide) (by decide) ?_
  refine own_aloadN X_1 hx (hb hby d10_24) (pc' := 25) rfl rfl rfl ?_
  refine own_retA X_1 hx hlk Bd.returns rfl rfl (hb hby d10_25) (by decide) (by decide) ?_
  rw [e_1]
  exact ⟨rfl, N0, rfl⟩
theorem d11_0 : decode jdk_69_method_39_code 0 = .ok (.aload_n 1, 1) := by decide +kernel
theorem d11_1 : decode jdk_69_method_39_code 1 = .ok (.ifnonnull 11, 3) := by decide +kernel
theorem d11_12 : decode jdk_69_method_39_code 12 = .ok (.aload_n 0, 1) := by decide +kernel
theorem d11_13 : decode jdk_69_method_39_code 13 = .ok (.getfield 156, 3) := by decide +kernel
theorem d11_16 : decode jdk_69_method_39_code 16 = .ok (.ifCond .le 95, 3) := by decide +kernel
theorem d11_111 : decode jdk_69_method_39_code 111 = .ok (.return_, 1) := by decide +kernel
theorem pn11 : plainFor (⟨"java/util/HashMap", "forEach", "(Ljava/util/function/BiConsumer;)V"⟩ : MethodName) = true := by first | exact plainFor_of_name (by first | (simp [plainName, overriddenIn]; done) | decide +kernel) | decide +kernel
theorem ef11 (m : MethodId) (a1 : Addr) (f1 : Addr) : entryFrame m #[(.ref a1), (.ref f1)] 8 = mkF m 0 #[.val (.ref a1), .val (.ref f1), .unset, .unset, .unset, .unset, .unset, .unset] [] := by first | (simp [entryFrame, mkF, argsToLocals, Value.category]; done) | rfl
def Q11 (Z : State) (a1 : Addr) (f1 : Addr) (h0 : Heap) (n0 : Nat) (v : Option Value) (h : Heap) (L : List Loc) : Prop := v = none ∧ Fr n0 L ∧ h = h0
set_option maxRecDepth 65536 in
set_option maxHeartbeats 40000000 in
theorem rm11 (l : Launch) (Z : State) (a0 : Array Value) (hw : ∀ d ∈ tables_1, d.before a0 Z = true) (ws : List Jvm.Cond) (a1 : Addr) (f1 : Addr) (h0 : Heap) (n0 : Nat) (Z0 : n0 ≤ h0.size) (F_s : Fld Z h0 a1 "java/util/HashMap" "size" "I" (.int (0 : Int32))) :
    MetFree l (⟨"java/util/HashMap", "forEach", "(Ljava/util/function/BiConsumer;)V"⟩ : MethodName) (head1 (Jvm.Cond.code (⟨"java/util/HashMap", "forEach", "(Ljava/util/function/BiConsumer;)V"⟩ : MethodName) jdk_69_method_39_code 8 none :: ws) ({ frames := 0, cells := 0, slots := 0, locals := 0 } : Room)) (fun a U => a = #[(.ref a1), (.ref f1)] ∧ Z.Warmed39 U.vm ∧ U.heap = h0) (fun _ _ _ _ _ => True) (fun _ U o U' => ∃ v L, o = .returned v ∧ Q11 Z a1 f1 h0 n0 v U'.heap L ∧ FrameEnd U o U' L ({ frames := 0, cells := 0, slots := 0, locals := 0 } : Room).cells ({ frames := 0, cells := 0, slots := 0, locals := 0 } : Room).slots) := by
  refine MetFree.of_bodySF pn11 hisR ?_
  intro p e s m args below meth c s₁ Bd hml0 hP hK
  obtain ⟨rfl, hZ, hh⟩ := hP
  have hx := Bd.exec
  have hby := Bd.bytes
  have hlk : meth.locks = false := BodyLoose.notSynchronized Bd
  have hml : c.maxLocals = 8 := hml0
  have hown : s.vm.findClass "java/util/HashMap" = some m.cls := findClass_of_methodNamed Bd.named
  have hnm := (name_of_methodNamed Bd.named Bd.method).1
  have X0 : Stand p l e ({ frames := 0, cells := 0, slots := 0, locals := 0 } : Room) s m #[(.ref a1), (.ref f1)] below meth c s₁ [] 0 0 := Stand.of_body Bd
  have e0 : s₁.heap = h0 := by rw [← hh, Bd.state]; rfl
  have N0 := Fr.nil n0
  rw [ef11 m a1 f1]
  show own_Go p e below (own_End s (Q11 Z a1 f1 h0 n0) ({ frames := 0, cells := 0, slots := 0, locals := 0 } : Room).cells ({ frames := 0, cells := 0, slots := 0, locals := 0 } : Room).slots) s₁ (mkF m 0 #[.val (.ref a1), .val (.ref f1), .unset, .unset, .unset, .unset, .unset, .unset] [])
  refine own_aloadN X0 hx (hb hby d11_0) (pc' := 1) rfl rfl rfl ?_
  refine own_ifnonnullY X0 hx (hb hby d11_1) (pc' := 12) (by decide) (by decide) ?_
  refine own_aloadN X0 hx (hb hby d11_12) (pc' := 13) rfl rfl rfl ?_
  obtain ⟨T_1, X_1, e_1, st_1⟩ := getF X0 hx hZ hown (host := "") (Or.inl (hw _ (List.mem_of_getElem? (i := 104) rfl))) Via.refl e0 F_s (g := (mkF m 13 #[.val (.ref a1), .val (.ref f1), .unset, .unset, .unset, .unset, .unset, .unset] [(.ref a1)])) rfl rfl (hb hby d11_13)
  refine own_st st_1 ?_
  show own_Go p e below _ T_1 (mkF m 16 #[.val (.ref a1), .val (.ref f1), .unset, .unset, .unset, .unset, .unset, .unset] [(.int (0 : Int32))])
  refine own_ifY X_1 hx (hb hby d11_16) (by decide) (pc' := 111) (by decide) (by decide) ?_
  refine own_retV X_1 hx hlk Bd.returns (hb hby d11_111) (by decide) (by decide) ?_
  rw [e_1]
  exact ⟨rfl, N0, rfl⟩
theorem d12_0 : decode jdk_2729_method_64_code 0 = .ok (.aload_n 1, 1) := by decide +kernel
theorem d12_1 : decode jdk_2729_method_64_code 1 = .ok (.invokestatic 95, 3) := by decide +kernel
theorem d12_4 : decode jdk_2729_method_64_code 4 = .ok (.pop, 1) := by decide +kernel
theorem d12_5 : decode jdk_2729_method_64_code 5 = .ok (.aload_n 0, 1) := by decide +kernel
theorem d12_6 : decode jdk_2729_method_64_code 6 = .ok (.getfield 13, 3) := by decide +kernel
theorem d12_9 : decode jdk_2729_method_64_code 9 = .ok (.istore_n 2, 1) := by decide +kernel
theorem d12_10 : decode jdk_2729_method_64_code 10 = .ok (.aload_n 0, 1) := by decide +kernel
theorem d12_11 : decode jdk_2729_method_64_code 11 = .ok (.invokevirtual 54, 3) := by decide +kernel
theorem d12_14 : decode jdk_2729_method_64_code 14 = .ok (.astore_n 3, 1) := by decide +kernel
theorem d12_15 : decode jdk_2729_method_64_code 15 = .ok (.aload_n 3, 1) := by decide +kernel
theorem d12_16 : decode jdk_2729_method_64_code 16 = .ok (.ifnull 45, 3) := by decide +kernel
theorem d12_61 : decode jdk_2729_method_64_code 61 = .ok (.return_, 1) := by decide +kernel
theorem pd12_0 : parseMethodDescriptor "(Ljava/lang/Object;)Ljava/lang/Object;" = some ⟨[(.object "java/lang/Object")], some (.object "java/lang/Object")⟩ := by decide +kernel
theorem pd12_1 : parseMethodDescriptor "()Ljava/util/TreeMap$Entry;" = some ⟨[], some (.object "java/util/TreeMap$Entry")⟩ := by decide +kernel
theorem pn12 : plainFor (⟨"java/util/TreeMap", "replaceAll", "(Ljava/util/function/BiFunction;)V"⟩ : MethodName) = true := by first | exact plainFor_of_name (by first | (simp [plainName, overriddenIn]; done) | decide +kernel) | decide +kernel
theorem ef12 (m : MethodId) (a1 : Addr) (f1 : Addr) : entryFrame m #[(.ref a1), (.ref f1)] 4 = mkF m 0 #[.val (.ref a1), .val (.ref f1), .unset, .unset] [] := by first | (simp [entryFrame, mkF, argsToLocals, Value.category]; done) | rfl
def Q12 (Z : State) (a1 : Addr) (f1 : Addr) (h0 : Heap) (n0 : Nat) (v : Option Value) (h : Heap) (L : List Loc) : Prop := v = none ∧ Fr n0 L ∧ h = h0
set_option maxRecDepth 65536 in
set_option maxHeartbeats 40000000 in
theorem rm12 (l : Launch) (Z : State) (a0 : Array Value) (hw : ∀ d ∈ tables_1, d.before a0 Z = true) (ws : List Jvm.Cond) (a1 : Addr) (f1 : Addr) (h0 : Heap) (n0 : Nat) (Z0 : n0 ≤ h0.size) (A_a : Exa Z h0 a1 "java/util/TreeMap") (F_m : Fld Z h0 a1 "java/util/TreeMap" "modCount" "I" (.int (0 : Int32))) (F_r : Fld Z h0 a1 "java/util/TreeMap" "root" "Ljava/util/TreeMap$Entry;" (.null)) :
    MetFree l (⟨"java/util/TreeMap", "replaceAll", "(Ljava/util/function/BiFunction;)V"⟩ : MethodName) (head1 (Jvm.Cond.code (⟨"java/util/TreeMap", "replaceAll", "(Ljava/util/function/BiFunction;)V"⟩ : MethodName) jdk_2729_method_64_code 4 none :: ws) ({ frames := 1, cells := 0, slots := 0, locals := 13 } : Room)) (fun a U => a = #[(.ref a1), (.ref f1)] ∧ Z.Warmed39 U.vm ∧ U.heap = h0) (fun _ _ _ _ _ => True) (fun _ U o U' => ∃ v L, o = .returned v ∧ Q12 Z a1 f1 h0 n0 v U'.heap L ∧ FrameEnd U o U' L ({ frames := 1, cells := 0, slots := 0, locals := 13 } : Room).cells ({ frames := 1, cells := 0, slots := 0, locals := 13 } : Room).slots) := by
  refine MetFree.of_bodySF pn12 hisR ?_
  intro p e s m args below meth c s₁ Bd hml0 hP hK
  obtain ⟨rfl, hZ, hh⟩ := hP
  have hx := Bd.exec
  have hby := Bd.bytes
  have hlk : meth.locks = false := BodyLoose.notSynchronized Bd
  have hml : c.maxLocals = 4 := hml0
  have hown : s.vm.findClass "java/util/TreeMap" = some m.cls := findClass_of_methodNamed Bd.named
  have hnm := (name_of_methodNamed Bd.named Bd.method).1
  have X0 : Stand p l e ({ frames := 1, cells := 0, slots := 0, locals := 13 } : Room) s m #[(.ref a1), (.ref f1)] below meth c s₁ [] 0 0 := Stand.of_body Bd
  have e0 : s₁.heap = h0 := by rw [← hh, Bd.state]; rfl
  have N0 := Fr.nil n0
  rw [ef12 m a1 f1]
  show own_Go p e below (own_End s (Q12 Z a1 f1 h0 n0) ({ frames := 1, cells := 0, slots := 0, locals := 13 } : Room).cells ({ frames := 1, cells := 0, slots := 0, locals := 13 } : Room).slots) s₁ (mkF m 0 #[.val (.ref a1), .val (.ref f1), .unset, .unset] [])
  refine own_aloadN X0 hx (hb hby d12_0) (pc' := 1) rfl rfl rfl ?_
  obtain ⟨_, _, ⟨T_1, L_1, k_1, n_1⟩, -, X_1, ⟨Lc_1, hQ_1, l_1, y_1, z_1⟩, st_1⟩ := Jvm.LawKit.callS X0 hx (y := (⟨"java/util/Objects", "requireNonNull", "(Ljava/lang/Object;)Ljava/lang/Object;"⟩ : MethodName)) hown (mvT hZ (hw _ (List.mem_of_getElem? (i := 117) rfl))) (mvT hZ (hw _ (List.mem_of_getElem? (i := 118) rfl))) (mvT hZ (hw _ (List.mem_of_getElem? (i := 74) rfl))) (mvT hZ (hw _ (List.mem_of_getElem? (i := 119) rfl))) (by decide) (backOf (W := 0) (rm9 l Z a0 hw [] f1 h0 n0 Z0) hZ (hw _ (List.mem_of_getElem? (i := 119) rfl)) (hw _ (List.mem_of_getElem? (i := 74) rfl)) (by decide) (by decide)) (g := (mkF m 1 #[.val (.ref a1), .val (.ref f1), .unset, .unset] [(.ref f1)])) rfl (by rw [hml]; rfl) (argsL := [(.ref f1)]) (rest := []) (lenOf pd12_0 rfl) rfl (by show 2 * 0 + _ ≤ _; exact Nat.le_of_eq rfl) (hb hby d12_1) (fun _ _ => ⟨rfl, e0, (by decide : 0 + 0 ≤ _), (by decide : 0 + 0 ≤ _)⟩)
  dsimp only [Pt.U, Pt.locs, Pt.cells, Pt.slots] at X_1 l_1 y_1 z_1 st_1 hQ_1
  subst l_1 y_1 z_1
  refine own_st st_1 ?_
  obtain ⟨rfl, Nq_1, eq_1⟩ := hQ_1
  have N_1 := Fr.app N0 Nq_1
  show own_Go p e below _ T_1 (mkF m 4 #[.val (.ref a1), .val (.ref f1), .unset, .unset] [(.ref f1)])
  refine own_pop X_1 hx (hb hby d12_4) (pc' := 5) rfl rfl ?_
  refine own_aloadN X_1 hx (hb hby d12_5) (pc' := 6) rfl rfl rfl ?_
  obtain ⟨T_2, X_2, e_2, st_2⟩ := getF X_1 hx hZ hown (host := "") (Or.inl (hw _ (List.mem_of_getElem? (i := 87) rfl))) Via.refl eq_1 F_m (g := (mkF m 6 #[.val (.ref a1), .val (.ref f1), .unset, .unset] [(.ref a1)])) rfl rfl (hb hby d12_6)
  refine own_st st_2 ?_
  show own_Go p e below _ T_2 (mkF m 9 #[.val (.ref a1), .val (.ref f1), .unset, .unset] [(.int (0 : Int32))])
  refine own_istoreN X_2 hx (hb hby d12_9) (pc' := 10) (Ls' := #[.val (.ref a1), .val (.ref f1), .val (.int (0 : Int32)), .unset]) rfl rfl ?_
  refine own_aloadN X_2 hx (hb hby d12_10) (pc' := 11) rfl rfl rfl ?_
  obtain ⟨cq_3, kq_3, qa_3, qb_3, qc_3⟩ := isOf hZ e_2 A_a
  obtain ⟨_, _, ⟨T_3, L_3, k_3, n_3⟩, -, X_3, ⟨Lc_3, hQ_3, l_3, y_3, z_3⟩, st_3⟩ := X_2.virtualBack hx  (y := (⟨"java/util/TreeMap", "getFirstEntry", "()Ljava/util/TreeMap$Entry;"⟩ : MethodName)) (z := (⟨"java/util/TreeMap", "getFirstEntry", "()Ljava/util/TreeMap$Entry;"⟩ : MethodName)) hown (mvT hZ (hw _ (List.mem_of_getElem? (i := 120) rfl))) (mvT hZ (hw _ (List.mem_of_getElem? (i := 121) rfl))) (notFace_of_selects (args := #[]) (mvT hZ (hw _ (List.mem_of_getElem? (i := 123) rfl)))) (mvT hZ (hw _ (List.mem_of_getElem? (i := 123) rfl))) (mvT hZ (hw _ (List.mem_of_getElem? (i := 122) rfl))) (by decide) (backOf (W := 0) (rm10 l Z a0 hw [] a1 h0 n0 Z0 F_r) hZ (hw _ (List.mem_of_getElem? (i := 124) rfl)) (hw _ (List.mem_of_getElem? (i := 78) rfl)) (by decide) (by decide)) qa_3 qc_3 (g := (mkF m 11 #[.val (.ref a1), .val (.ref f1), .val (.int (0 : Int32)), .unset] [(.ref a1)])) rfl (by rw [hml]; rfl) (Steps.refl _) (argsL := []) (rest := []) (lenOf pd12_1 rfl) rfl (by show 2 * 0 + _ ≤ _; exact Nat.le_of_eq rfl) (hb hby d12_11) (fun _ _ => ⟨rfl, e_2, (by decide : 0 + 0 ≤ _), (by decide : 0 + 0 ≤ _)⟩)
  dsimp only [Pt.U, Pt.locs, Pt.cells, Pt.slots] at X_3 l_3 y_3 z_3 st_3 hQ_3
  subst l_3 y_3 z_3
  refine own_tr st_3 ?_
  obtain ⟨rfl, Nq_3, eq_3⟩ := hQ_3
  have N_3 := Fr.app N_1 Nq_3
  show own_Go p e below _ T_3 (mkF m 14 #[.val (.ref a1), .val (.ref f1), .val (.int (0 : Int32)), .unset] [(.null)])
  refine own_astoreN X_3 hx (hb hby d12_14) (pc' := 15) (Ls' := #[.val (.ref a1), .val (.ref f1), .val (.int (0 : Int32)), .val (.null)]) rfl rfl rfl ?_
  refine own_aloadN X_3 hx (hb hby d12_15) (pc' := 16) rfl rfl rfl ?_
  refine own_ifnullY X_3 hx (hb hby d12_16) (pc' := 61) (by decide) (by decide) ?_
  refine own_retV X_3 hx hlk Bd.returns (hb hby d12_61) (by decide) (by decide) ?_
  rw [eq_3]
  exact ⟨rfl, N_3, rfl⟩
theorem d13_0 : decode jdk_2500_method_1_code 0 = .ok (.aload_n 0, 1) := by decide +kernel
theorem d13_1 : decode jdk_2500_method_1_code 1 = .ok (.invokespecial 1, 3) := by decide +kernel
theorem d13_4 : decode jdk_2500_method_1_code 4 = .ok (.aload_n 1, 1) := by decide +kernel
theorem d13_5 : decode jdk_2500_method_1_code 5 = .ok (.ifnonnull 11, 3) := by decide +kernel
theorem d13_16 : decode jdk_2500_method_1_code 16 = .ok (.aload_n 0, 1) := by decide +kernel
theorem d13_17 : decode jdk_2500_method_1_code 17 = .ok (.aload_n 1, 1) := by decide +kernel
theorem d13_18 : decode jdk_2500_method_1_code 18 = .ok (.putfield 10, 3) := by decide +kernel
theorem d13_21 : decode jdk_2500_method_1_code 21 = .ok (.return_, 1) := by decide +kernel
theorem pn13 : plainFor (⟨"java/util/Collections$UnmodifiableMap", "<init>", "(Ljava/util/Map;)V"⟩ : MethodName) = true := by first | exact plainFor_of_name (by first | (simp [plainName, overriddenIn]; done) | decide +kernel) | decide +kernel
theorem ef13 (m : MethodId) (a1 : Addr) (m1 : Addr) : entryFrame m #[(.ref a1), (.ref m1)] 2 = mkF m 0 #[.val (.ref a1), .val (.ref m1)] [] := by first | (simp [entryFrame, mkF, argsToLocals, Value.category]; done) | rfl
def Q13 (Z : State) (a1 : Addr) (m1 : Addr) (h0 : Heap) (n0 : Nat) (v : Option Value) (h : Heap) (L : List Loc) : Prop := v = none ∧ Fr n0 L ∧ Keep h0 h [a1]
set_option maxRecDepth 65536 in
set_option maxHeartbeats 40000000 in
theorem rm13 (l : Launch) (Z : State) (a0 : Array Value) (hw : ∀ d ∈ tables_1, d.before a0 Z = true) (ws : List Jvm.Cond) (a1 : Addr) (m1 : Addr) (h0 : Heap) (n0 : Nat) (Z0 : n0 ≤ h0.size) (A_a : Exa Z h0 a1 "java/util/Collections$UnmodifiableMap") (F_m : Fld Z h0 a1 "java/util/Collections$UnmodifiableMap" "m" "Ljava/util/Map;" (.null)) (ga : n0 ≤ a1) :
    MetFree l (⟨"java/util/Collections$UnmodifiableMap", "<init>", "(Ljava/util/Map;)V"⟩ : MethodName) (head1 (Jvm.Cond.code (⟨"java/util/Collections$UnmodifiableMap", "<init>", "(Ljava/util/Map;)V"⟩ : MethodName) jdk_2500_method_1_code 2 none :: ws) ({ frames := 1, cells := 0, slots := 0, locals := 12 } : Room)) (fun a U => a = #[(.ref a1), (.ref m1)] ∧ Z.Warmed39 U.vm ∧ U.heap = h0) (fun _ _ _ _ _ => True) (fun _ U o U' => ∃ v L, o = .returned v ∧ Q13 Z a1 m1 h0 n0 v U'.heap L ∧ FrameEnd U o U' L ({ frames := 1, cells := 0, slots := 0, locals := 12 } : Room).cells ({ frames := 1, cells := 0, slots := 0, locals := 12 } : Room).slots) := by
  refine MetFree.of_bodySF pn13 hisR ?_
  intro p e s m args below meth c s₁ Bd hml0 hP hK
  obtain ⟨rfl, hZ, hh⟩ := hP
  have hx := Bd.exec
  have hby := Bd.bytes
  have hlk : meth.locks = false := BodyLoose.notSynchronized Bd
  have hml : c.maxLocals = 2 := hml0
  have hown : s.vm.findClass "java/util/Collections$UnmodifiableMap" = some m.cls := findClass_of_methodNamed Bd.named
  have hnm := (name_of_methodNamed Bd.named Bd.method).1
  have X0 : Stand p l e ({ frames := 1, cells := 0, slots := 0, locals := 12 } : Room) s m #[(.ref a1), (.ref m1)] below meth c s₁ [] 0 0 := Stand.of_body Bd
  have e0 : s₁.heap = h0 := by rw [← hh, Bd.state]; rfl
  have N0 := Fr.nil n0
  have K0 : Keep h0 h0 [a1] := Keep.refl _ _
  rw [ef13 m a1 m1]
  show own_Go p e below (own_End s (Q13 Z a1 m1 h0 n0) ({ frames := 1, cells := 0, slots := 0, locals := 12 } : Room).cells ({ frames := 1, cells := 0, slots := 0, locals := 12 } : Room).slots) s₁ (mkF m 0 #[.val (.ref a1), .val (.ref m1)] [])
  refine own_aloadN X0 hx (hb hby d13_0) (pc' := 1) rfl rfl rfl ?_
  obtain ⟨T_1, X_1, e_1, st_1⟩ := initO X0 hx hZ hown (hw _ (List.mem_of_getElem? (i := 149) rfl)) (hw _ (List.mem_of_getElem? (i := 20) rfl)) (hw _ (List.mem_of_getElem? (i := 21) rfl)) e0 (g := (mkF m 1 #[.val (.ref a1), .val (.ref m1)] [(.ref a1)])) rfl (by rw [hml]; rfl) rfl (hb hby d13_1) (by decide) (W := 0) (by show 2 * 0 + _ ≤ _; exact Nat.le_of_eq rfl) (by decide)
  refine own_st st_1 ?_
  show own_Go p e below _ T_1 (mkF m 4 #[.val (.ref a1), .val (.ref m1)] [])
  refine own_aloadN X_1 hx (hb hby d13_4) (pc' := 5) rfl rfl rfl ?_
  refine own_ifnonnullY X_1 hx (hb hby d13_5) (pc' := 16) (by decide) (by decide) ?_
  refine own_aloadN X_1 hx (hb hby d13_16) (pc' := 17) rfl rfl rfl ?_
  refine own_aloadN X_1 hx (hb hby d13_17) (pc' := 18) rfl rfl rfl ?_
  obtain ⟨T_2, h_2, X_2, e_2, W_2, st_2⟩ := putF X_1 hx hZ hown (host := "") (Or.inl (hw _ (List.mem_of_getElem? (i := 150) rfl))) Via.refl e_1 F_m A_a (Or.inr ⟨(hw _ (List.mem_of_getElem? (i := 151) rfl)), rfl, hnm⟩) (hw _ (List.mem_of_getElem? (i := 144) rfl)) (ty := (.object "java/util/Map")) (by decide) rfl rfl (g := (mkF m 18 #[.val (.ref a1), .val (.ref m1)] [(.ref m1), (.ref a1)])) rfl rfl (hb hby d13_18)
  have F_3 : Fld Z h_2 a1 "java/util/Collections$UnmodifiableMap" "m" "Ljava/util/Map;" (.ref m1) := F_m.same W_2
  have A_5 : Exa Z h_2 a1 "java/util/Collections$UnmodifiableMap" := A_a.wr W_2
  have Z_4 : n0 ≤ h_2.size := by rw [W_2.size]; exact Z0
  have K_4 : Keep h0 h_2 [a1] := K0.wr W_2 (Or.inl (List.mem_of_getElem? (i := 0) rfl))
  have N_2 := Fr.snoc X_2 N0 ga
  refine own_st st_2 ?_
  show own_Go p e below _ T_2 (mkF m 21 #[.val (.ref a1), .val (.ref m1)] [])
  refine own_retV X_2 hx hlk Bd.returns (hb hby d13_21) (by decide) (by decide) ?_
  rw [e_2]
  exact ⟨rfl, N_2, K_4⟩
theorem d14_0 : decode jdk_79_method_36_code 0 = .ok (.aload_n 0, 1) := by decide +kernel
theorem d14_1 : decode jdk_79_method_36_code 1 = .ok (.invokeinterface 220 1, 5) := by decide +kernel
theorem d14_6 : decode jdk_79_method_36_code 6 = .ok (.ldc 223, 2) := by decide +kernel
theorem d14_8 : decode jdk_79_method_36_code 8 = .ok (.if_acmp .ne 5, 3) := by decide +kernel
theorem d14_11 : decode jdk_79_method_36_code 11 = .ok (.aload_n 0, 1) := by decide +kernel
theorem d14_12 : decode jdk_79_method_36_code 12 = .ok (.areturn, 1) := by decide +kernel
theorem d14_13 : decode jdk_79_method_36_code 13 = .ok (.new 223, 3) := by decide +kernel
theorem d14_16 : decode jdk_79_method_36_code 16 = .ok (.dup, 1) := by decide +kernel
theorem d14_17 : decode jdk_79_method_36_code 17 = .ok (.aload_n 0, 1) := by decide +kernel
theorem d14_18 : decode jdk_79_method_36_code 18 = .ok (.invokespecial 225, 3) := by decide +kernel
theorem d14_21 : decode jdk_79_method_36_code 21 = .ok (.areturn, 1) := by decide +kernel
theorem pd14_0 : parseMethodDescriptor "(Ljava/util/Map;)V" = some ⟨[(.object "java/util/Map")], none⟩ := by decide +kernel
theorem pn14 : plainFor (⟨"java/util/Collections", "unmodifiableMap", "(Ljava/util/Map;)Ljava/util/Map;"⟩ : MethodName) = true := by first | exact plainFor_of_name (by first | (simp [plainName, overriddenIn]; done) | decide +kernel) | decide +kernel
theorem ef14 (m : MethodId) (a1 : Addr) : entryFrame m #[(.ref a1)] 1 = mkF m 0 #[.val (.ref a1)] [] := by first | (simp [entryFrame, mkF, argsToLocals, Value.category]; done) | rfl
def Q14 (Z : State) (a1 : Addr) (h0 : Heap) (n0 : Nat) (v : Option Value) (h : Heap) (L : List Loc) : Prop := ∃ r : Addr, v = some (.ref r) ∧ Fr n0 L ∧ Keep h0 h []
set_option maxRecDepth 65536 in
set_option maxHeartbeats 40000000 in
theorem rm14 (l : Launch) (Z : State) (a0 : Array Value) (hw : ∀ d ∈ tables_1, d.before a0 Z = true) (ws : List Jvm.Cond) (a1 : Addr) (h0 : Heap) (n0 : Nat) (Z0 : n0 ≤ h0.size) (A_a : Exa Z h0 a1 "java/util/TreeMap") (M1 : own_Mir Z "java/util/TreeMap") (M2 : own_Mir Z "java/util/Collections$UnmodifiableMap") :
    MetFree l (⟨"java/util/Collections", "unmodifiableMap", "(Ljava/util/Map;)Ljava/util/Map;"⟩ : MethodName) (head1 (Jvm.Cond.code (⟨"java/util/Collections", "unmodifiableMap", "(Ljava/util/Map;)Ljava/util/Map;"⟩ : MethodName) jdk_79_method_36_code 1 (some (.object "java/util/Map")) :: ws) ({ frames := 2, cells := 1, slots := 4, locals := 30 } : Room)) (fun a U => a = #[(.ref a1)] ∧ Z.Warmed39 U.vm ∧ U.heap = h0) (fun _ _ _ _ _ => True) (fun _ U o U' => ∃ v L, o = .returned v ∧ Q14 Z a1 h0 n0 v U'.heap L ∧ FrameEnd U o U' L ({ frames := 2, cells := 1, slots := 4, locals := 30 } : Room).cells ({ frames := 2, cells := 1, slots := 4, locals := 30 } : Room).slots) := by
  refine MetFree.of_bodySF pn14 hisR ?_
  intro p e s m args below meth c s₁ Bd hml0 hP hK
  obtain ⟨rfl, hZ, hh⟩ := hP
  have hx := Bd.exec
  have hby := Bd.bytes
  have hlk : meth.locks = false := BodyLoose.notSynchronized Bd
  have hml : c.maxLocals = 1 := hml0
  have hown : s.vm.findClass "java/util/Collections" = some m.cls := findClass_of_methodNamed Bd.named
  have hnm := (name_of_methodNamed Bd.named Bd.method).1
  have X0 : Stand p l e ({ frames := 2, cells := 1, slots := 4, locals := 30 } : Room) s m #[(.ref a1)] below meth c s₁ [] 0 0 := Stand.of_body Bd
  have e0 : s₁.heap = h0 := by rw [← hh, Bd.state]; rfl
  have N0 := Fr.nil n0
  have K0 : Keep h0 h0 [] := Keep.refl _ _
  rw [ef14 m a1]
  show own_Go p e below (own_End s (Q14 Z a1 h0 n0) ({ frames := 2, cells := 1, slots := 4, locals := 30 } : Room).cells ({ frames := 2, cells := 1, slots := 4, locals := 30 } : Room).slots) s₁ (mkF m 0 #[.val (.ref a1)] [])
  refine own_aloadN X0 hx (hb hby d14_0) (pc' := 1) rfl rfl rfl ?_
  obtain ⟨mr_1, T_1, X_1, e_1, st_1⟩ := own_gci X0 hx hZ hown (hw _ (List.mem_of_getElem? (i := 133) rfl)) (hw _ (List.mem_of_getElem? (i := 134) rfl)) (hw _ (List.mem_of_getElem? (i := 135) rfl)) (hw _ (List.mem_of_getElem? (i := 136) rfl)) (hw _ (List.mem_of_getElem? (i := 137) rfl)) (hw _ (List.mem_of_getElem? (i := 138) rfl)) (hw _ (List.mem_of_getElem? (i := 139) rfl)) (hw _ (List.mem_of_getElem? (i := 115) rfl)) (hw _ (List.mem_of_getElem? (i := 140) rfl)) (by decide) (by decide) e0 A_a M1 (Ls := #[.val (.ref a1)]) (st := []) (hb hby d14_1) (by rw [hml]; rfl) (by decide) (W := 0) (Nat.le_of_eq rfl) (by decide)
  refine own_st st_1 ?_
  show own_Go p e below _ T_1 (mkF m 6 #[.val (.ref a1)] [(.ref mr_1)])
  obtain ⟨mr_2, T_2, X_2, e_2, st_2⟩ := own_ldcM X_1 hx hZ hown (hw _ (List.mem_of_getElem? (i := 142) rfl)) e_1 M2 (Ls := #[.val (.ref a1)]) (st := [(.ref mr_1)]) (hb hby d14_6)
  refine own_st st_2 ?_
  show own_Go p e below _ T_2 (mkF m 8 #[.val (.ref a1)] [(.ref mr_2), (.ref mr_1)])
  by_cases c_3 : ((.ref mr_1) : Value) = (.ref mr_2)
  · skip
    refine own_acmpN X_2 hx rfl rfl (hb hby d14_8) (XT.aa_ne_f c_3) (pc' := 11) rfl ?_
    refine own_aloadN X_2 hx (hb hby d14_11) (pc' := 12) rfl rfl rfl ?_
    refine own_retA X_2 hx hlk Bd.returns rfl rfl (hb hby d14_12) (by decide) (by decide) ?_
    rw [e_2]
    exact ⟨a1, rfl, N0, K0⟩
  · skip
    refine own_acmpY X_2 hx rfl rfl (hb hby d14_8) (XT.aa_ne_t c_3) (pc' := 13) (by decide) (by decide) ?_
    obtain ⟨T_4, h_4, X_4, e_4, E_4, A_4, D_4, -, st_4⟩ := newO X_2 hx hZ hown (hw _ (List.mem_of_getElem? (i := 142) rfl)) (hw _ (List.mem_of_getElem? (i := 144) rfl)) (hw _ (List.mem_of_getElem? (i := 145) rfl)) e_2 (g := (mkF m 13 #[.val (.ref a1)] [])) rfl (hb hby d14_13) (by decide) (by decide)
    obtain ⟨a_4, g_4⟩ : ∃ z, z = h0.size := ⟨_, rfl⟩
    rw [← g_4] at A_4 D_4 st_4
    have ge_4 : n0 ≤ a_4 := Nat.le_trans Z0 (Nat.le_of_eq g_4.symm)
    have nw_4 : h0.size ≤ a_4 := Nat.le_trans K0.1 (Nat.le_of_eq g_4.symm)
    have ne_4_a1 : a1 ≠ a_4 := Nat.ne_of_lt (Nat.lt_of_lt_of_eq A_a.lt g_4.symm)
    have A_6 : Exa Z h_4 a1 "java/util/TreeMap" := A_a.ext E_4
    have Z_5 : n0 ≤ h_4.size := Nat.le_trans Z0 E_4.1
    have K_5 : Keep h0 h_4 [] := K0.ext E_4
    have F_7 : Fld Z h_4 a_4 "java/util/Collections$UnmodifiableMap" "m" "Ljava/util/Map;" (.null) := D_4 (Or.inr (hw _ (List.mem_of_getElem? (i := 151) rfl))) (ty := (.object "java/util/Map")) (by decide)
    refine own_st st_4 ?_
    show own_Go p e below _ T_4 (mkF m 16 #[.val (.ref a1)] [(.ref a_4)])
    refine own_dup X_4 hx (hb hby d14_16) (pc' := 17) rfl rfl ?_
    refine own_aloadN X_4 hx (hb hby d14_17) (pc' := 18) rfl rfl rfl ?_
    obtain ⟨_, _, ⟨T_8, L_8, k_8, n_8⟩, -, X_8, ⟨Lc_8, hQ_8, l_8, y_8, z_8⟩, st_8⟩ := X_4.specialBack hx  (y := (⟨"java/util/Collections$UnmodifiableMap", "<init>", "(Ljava/util/Map;)V"⟩ : MethodName)) rfl hown (mvT hZ (hw _ (List.mem_of_getElem? (i := 146) rfl))) (mvT hZ (hw _ (List.mem_of_getElem? (i := 147) rfl))) (mvT hZ (hw _ (List.mem_of_getElem? (i := 148) rfl))) (by decide) (backOf (W := 1) (rm13 l Z a0 hw [] a_4 a1 h_4 n0 Z_5 A_4 F_7 ge_4) hZ (hw _ (List.mem_of_getElem? (i := 148) rfl)) (hw _ (List.mem_of_getElem? (i := 145) rfl)) (by decide) (by decide)) (g := (mkF m 18 #[.val (.ref a1)] [(.ref a1), (.ref a_4), (.ref a_4)])) rfl (by rw [hml]; rfl) (Steps.refl _) (a := a_4) (argsL := [(.ref a1)]) (rest := [(.ref a_4)]) (lenOf pd14_0 rfl) rfl (by show 2 * 0 + _ ≤ _; exact Nat.le_of_eq rfl) (hb hby d14_18) (fun _ _ => ⟨rfl, e_4, (by decide : 1 + 0 ≤ _), (by decide : 4 + 0 ≤ _)⟩)
    dsimp only [Pt.U, Pt.locs, Pt.cells, Pt.slots] at X_8 l_8 y_8 z_8 st_8 hQ_8
    subst l_8 y_8 z_8
    refine own_tr st_8 ?_
    obtain ⟨rfl, Nq_8, Kq_8⟩ := hQ_8
    have N_8 := Fr.app N0 Nq_8
    have A_10 : Exa Z T_8.heap a1 "java/util/TreeMap" := A_6.keep Kq_8
    have A_11 : Exa Z T_8.heap a_4 "java/util/Collections$UnmodifiableMap" := A_4.keep Kq_8
    have Z_9 : n0 ≤ T_8.heap.size := Nat.le_trans Z_5 Kq_8.1
    have K_9 : Keep h0 T_8.heap [] := K_5.trans Kq_8 (allS (Or.inr nw_4) all0)
    show own_Go p e below _ T_8 (mkF m 21 #[.val (.ref a1)] [(.ref a_4)])
    refine own_retA X_8 hx hlk Bd.returns rfl rfl (hb hby d14_21) (by decide) (by decide) ?_
    exact ⟨a_4, rfl, N_8, K_9⟩
theorem d15_0 : decode prog_27_method_7_code 0 = .ok (.new 98, 3) := by decide +kernel
theorem d15_3 : decode prog_27_method_7_code 3 = .ok (.dup, 1) := by decide +kernel
theorem d15_4 : decode prog_27_method_7_code 4 = .ok (.invokespecial 100, 3) := by decide +kernel
theorem d15_7 : decode prog_27_method_7_code 7 = .ok (.astore_n 2, 1) := by decide +kernel
theorem d15_8 : decode prog_27_method_7_code 8 = .ok (.iconst 0, 1) := by decide +kernel
theorem d15_9 : decode prog_27_method_7_code 9 = .ok (.istore_n 3, 1) := by decide +kernel
theorem d15_10 : decode prog_27_method_7_code 10 = .ok (.iload_n 3, 1) := by decide +kernel
theorem d15_11 : decode prog_27_method_7_code 11 = .ok (.aload_n 0, 1) := by decide +kernel
theorem d15_12 : decode prog_27_method_7_code 12 = .ok (.invokeinterface 101 1, 5) := by decide +kernel
theorem d15_17 : decode prog_27_method_7_code 17 = .ok (.if_icmp .ge 49, 3) := by decide +kernel
theorem d15_66 : decode prog_27_method_7_code 66 = .ok (.aload_n 2, 1) := by decide +kernel
theorem d15_67 : decode prog_27_method_7_code 67 = .ok (.areturn, 1) := by decide +kernel
theorem pd15_0 : parseMethodDescriptor "()V" = some ⟨[], none⟩ := by decide +kernel
theorem pd15_1 : parseMethodDescriptor "()I" = some ⟨[], some .int⟩ := by decide +kernel
theorem pn15 : plainFor (⟨"com/example/verbatim_replay/verbatimreplay/StoredResponse", "fields", "(Ljava/util/List;Ljava/util/List;)Ljava/util/Map;"⟩ : MethodName) = true := by first | exact plainFor_of_name (by first | (simp [plainName, overriddenIn]; done) | decide +kernel) | decide +kernel
theorem ef15 (m : MethodId) (a1 : Addr) (a2 : Addr) : entryFrame m #[(.ref a1), (.ref a2)] 4 = mkF m 0 #[.val (.ref a1), .val (.ref a2), .unset, .unset] [] := by first | (simp [entryFrame, mkF, argsToLocals, Value.category]; done) | rfl
def Q15 (Z : State) (a1 : Addr) (a2 : Addr) (h0 : Heap) (n0 : Nat) (v : Option Value) (h : Heap) (L : List Loc) : Prop := ∃ r : Addr, v = some (.ref r) ∧ Fr n0 L ∧ Keep h0 h [] ∧ h0.size ≤ r ∧ n0 ≤ r ∧ Exa Z h r "java/util/HashMap" ∧ Fld Z h r "java/util/HashMap" "size" "I" (.int (0 : Int32))
set_option maxRecDepth 65536 in
set_option maxHeartbeats 40000000 in
theorem rm15 (l : Launch) (Z : State) (a0 : Array Value) (hw : ∀ d ∈ tables_1, d.before a0 Z = true) (ws : List Jvm.Cond) (a1 : Addr) (a2 : Addr) (h0 : Heap) (n0 : Nat) (Z0 : n0 ≤ h0.size) (A_a : Exa Z h0 a1 "java/util/ArrayList") (F_s : Fld Z h0 a1 "java/util/ArrayList" "size" "I" (.int (0 : Int32))) :
    MetFree l (⟨"com/example/verbatim_replay/verbatimreplay/StoredResponse", "fields", "(Ljava/util/List;Ljava/util/List;)Ljava/util/Map;"⟩ : MethodName) (head1 (Jvm.Cond.code (⟨"com/example/verbatim_replay/verbatimreplay/StoredResponse", "fields", "(Ljava/util/List;Ljava/util/List;)Ljava/util/Map;"⟩ : MethodName) prog_27_method_7_code 4 (some (.object "java/util/Map")) :: ws) ({ frames := 3, cells := 1, slots := 8, locals := 37 } : Room)) (fun a U => a = #[(.ref a1), (.ref a2)] ∧ Z.Warmed39 U.vm ∧ U.heap = h0) (fun _ _ _ _ _ => True) (fun _ U o U' => ∃ v L, o = .returned v ∧ Q15 Z a1 a2 h0 n0 v U'.heap L ∧ FrameEnd U o U' L ({ frames := 3, cells := 1, slots := 8, locals := 37 } : Room).cells ({ frames := 3, cells := 1, slots := 8, locals := 37 } : Room).slots) := by
  refine MetFree.of_bodySF pn15 hisR ?_
  intro p e s m args below meth c s₁ Bd hml0 hP hK
  obtain ⟨rfl, hZ, hh⟩ := hP
  have hx := Bd.exec
  have hby := Bd.bytes
  have hlk : meth.locks = false := BodyLoose.notSynchronized Bd
  have hml : c.maxLocals = 4 := hml0
  have hown : s.vm.findClass "com/example/verbatim_replay/verbatimreplay/StoredResponse" = some m.cls := findClass_of_methodNamed Bd.named
  have hnm := (name_of_methodNamed Bd.named Bd.method).1
  have X0 : Stand p l e ({ frames := 3, cells := 1, slots := 8, locals := 37 } : Room) s m #[(.ref a1), (.ref a2)] below meth c s₁ [] 0 0 := Stand.of_body Bd
  have e0 : s₁.heap = h0 := by rw [← hh, Bd.state]; rfl
  have N0 := Fr.nil n0
  have K0 : Keep h0 h0 [] := Keep.refl _ _
  rw [ef15 m a1 a2]
  show own_Go p e below (own_End s (Q15 Z a1 a2 h0 n0) ({ frames := 3, cells := 1, slots := 8, locals := 37 } : Room).cells ({ frames := 3, cells := 1, slots := 8, locals := 37 } : Room).slots) s₁ (mkF m 0 #[.val (.ref a1), .val (.ref a2), .unset, .unset] [])
  obtain ⟨T_1, h_1, X_1, e_1, E_1, A_1, D_1, -, st_1⟩ := newO X0 hx hZ hown (hw _ (List.mem_of_getElem? (i := 31) rfl)) (hw _ (List.mem_of_getElem? (i := 32) rfl)) (hw _ (List.mem_of_getElem? (i := 33) rfl)) e0 (g := (mkF m 0 #[.val (.ref a1), .val (.ref a2), .unset, .unset] [])) rfl (hb hby d15_0) (by decide) (by decide)
  obtain ⟨a_1, g_1⟩ : ∃ z, z = h0.size := ⟨_, rfl⟩
  rw [← g_1] at A_1 D_1 st_1
  have ge_1 : n0 ≤ a_1 := Nat.le_trans Z0 (Nat.le_of_eq g_1.symm)
  have nw_1 : h0.size ≤ a_1 := Nat.le_trans K0.1 (Nat.le_of_eq g_1.symm)
  have ne_1_a1 : a1 ≠ a_1 := Nat.ne_of_lt (Nat.lt_of_lt_of_eq A_a.lt g_1.symm)
  have A_3 : Exa Z h_1 a1 "java/util/ArrayList" := A_a.ext E_1
  have F_4 : Fld Z h_1 a1 "java/util/ArrayList" "size" "I" (.int (0 : Int32)) := F_s.ext E_1
  have Z_2 : n0 ≤ h_1.size := Nat.le_trans Z0 E_1.1
  have K_2 : Keep h0 h_1 [] := K0.ext E_1
  have F_5 : Fld Z h_1 a_1 "java/util/HashMap" "loadFactor" "F" (.float (0 : UInt32)) := D_1 (Or.inr (hw _ (List.mem_of_getElem? (i := 46) rfl))) (ty := .float) (by decide)
  have F_6 : Fld Z h_1 a_1 "java/util/HashMap" "size" "I" (.int (0 : Int32)) := D_1 (Or.inl (hw _ (List.mem_of_getElem? (i := 105) rfl))) (ty := .int) (by decide)
  refine own_st st_1 ?_
  show own_Go p e below _ T_1 (mkF m 3 #[.val (.ref a1), .val (.ref a2), .unset, .unset] [(.ref a_1)])
  refine own_dup X_1 hx (hb hby d15_3) (pc' := 4) rfl rfl ?_
  obtain ⟨_, _, ⟨T_7, L_7, k_7, n_7⟩, -, X_7, ⟨Lc_7, hQ_7, l_7, y_7, z_7⟩, st_7⟩ := X_1.specialBack hx  (y := (⟨"java/util/HashMap", "<init>", "()V"⟩ : MethodName)) rfl hown (mvT hZ (hw _ (List.mem_of_getElem? (i := 34) rfl))) (mvT hZ (hw _ (List.mem_of_getElem? (i := 35) rfl))) (mvT hZ (hw _ (List.mem_of_getElem? (i := 36) rfl))) (by decide) (backOf (W := 1) (rm6 l Z a0 hw [] a_1 h_1 n0 Z_2 A_1 F_6 F_5 ge_1) hZ (hw _ (List.mem_of_getElem? (i := 36) rfl)) (hw _ (List.mem_of_getElem? (i := 33) rfl)) (by decide) (by decide)) (g := (mkF m 4 #[.val (.ref a1), .val (.ref a2), .unset, .unset] [(.ref a_1), (.ref a_1)])) rfl (by rw [hml]; rfl) (Steps.refl _) (a := a_1) (argsL := []) (rest := [(.ref a_1)]) (lenOf pd15_0 rfl) rfl (by show 2 * 0 + _ ≤ _; exact Nat.le_of_eq rfl) (hb hby d15_4) (fun _ _ => ⟨rfl, e_1, (by decide : 1 + 0 ≤ _), (by decide : 8 + 0 ≤ _)⟩)
  dsimp only [Pt.U, Pt.locs, Pt.cells, Pt.slots] at X_7 l_7 y_7 z_7 st_7 hQ_7
  subst l_7 y_7 z_7
  refine own_tr st_7 ?_
  obtain ⟨rfl, Nq_7, Kq_7, q0_7⟩ := hQ_7
  have N_7 := Fr.app N0 Nq_7
  have F_8 : Fld Z T_7.heap a_1 "java/util/HashMap" "size" "I" (.int (0 : Int32)) := q0_7
  have A_10 : Exa Z T_7.heap a1 "java/util/ArrayList" := A_3.keep Kq_7
  have F_11 : Fld Z T_7.heap a1 "java/util/ArrayList" "size" "I" (.int (0 : Int32)) := F_4.keep Kq_7 (ninS ne_1_a1 nin0)
  have A_12 : Exa Z T_7.heap a_1 "java/util/HashMap" := A_1.keep Kq_7
  have Z_9 : n0 ≤ T_7.heap.size := Nat.le_trans Z_2 Kq_7.1
  have K_9 : Keep h0 T_7.heap [] := K_2.trans Kq_7 (allS (Or.inr nw_1) all0)
  show own_Go p e below _ T_7 (mkF m 7 #[.val (.ref a1), .val (.ref a2), .unset, .unset] [(.ref a_1)])
  refine own_astoreN X_7 hx (hb hby d15_7) (pc' := 8) (Ls' := #[.val (.ref a1), .val (.ref a2), .val (.ref a_1), .unset]) rfl rfl rfl ?_
  refine own_iconst X_7 hx (0) (hb hby d15_8) (pc' := 9) rfl rfl ?_
  refine own_istoreN X_7 hx (hb hby d15_9) (pc' := 10) (Ls' := #[.val (.ref a1), .val (.ref a2), .val (.ref a_1), .val (.int (0 : Int32))]) rfl rfl ?_
  refine own_iloadN X_7 hx (hb hby d15_10) (pc' := 11) rfl rfl ?_
  refine own_aloadN X_7 hx (hb hby d15_11) (pc' := 12) rfl rfl rfl ?_
  obtain ⟨cq_13, kq_13, qa_13, qb_13, qc_13⟩ := isOf hZ rfl A_10
  obtain ⟨_, _, ⟨T_13, L_13, k_13, n_13⟩, -, X_13, ⟨Lc_13, hQ_13, l_13, y_13, z_13⟩, st_13⟩ := X_7.interfaceBack hx (xi := (⟨"java/util/List", "size", "()I"⟩ : MethodName)) (y := (⟨"java/util/ArrayList", "size", "()I"⟩ : MethodName)) hown (mvT hZ (hw _ (List.mem_of_getElem? (i := 47) rfl))) (mvT hZ (hw _ (List.mem_of_getElem? (i := 48) rfl))) (mvT hZ (hw _ (List.mem_of_getElem? (i := 49) rfl))) (mvT hZ (hw _ (List.mem_of_getElem? (i := 50) rfl))) (mvT hZ (hw _ (List.mem_of_getElem? (i := 51) rfl))) (mvT hZ (hw _ (List.mem_of_getElem? (i := 52) rfl))) (mvT hZ (hw _ (List.mem_of_getElem? (i := 53) rfl))) (mvT hZ (hw _ (List.mem_of_getElem? (i := 54) rfl))) (by decide) (backOf (W := 1) (rm4 l Z a0 hw [] a1 (0 : Int32) T_7.heap n0 Z_9 F_11) hZ (hw _ (List.mem_of_getElem? (i := 55) rfl)) (hw _ (List.mem_of_getElem? (i := 3) rfl)) (by decide) (by decide)) qa_13 qb_13 qc_13 (g := (mkF m 12 #[.val (.ref a1), .val (.ref a2), .val (.ref a_1), .val (.int (0 : Int32))] [(.ref a1), (.int (0 : Int32))])) rfl (by rw [hml]; rfl) (Steps.refl _) (argsL := []) (rest := [(.int (0 : Int32))]) (lenOf pd15_1 rfl) rfl (by show 2 * 0 + _ ≤ _; exact Nat.le_of_eq rfl) (hb hby d15_12) (fun _ _ => ⟨rfl, rfl, (by decide : 1 + 0 ≤ _), (by decide : 8 + 0 ≤ _)⟩)
  dsimp only [Pt.U, Pt.locs, Pt.cells, Pt.slots] at X_13 l_13 y_13 z_13 st_13 hQ_13
  subst l_13 y_13 z_13
  refine own_tr st_13 ?_
  obtain ⟨rfl, Nq_13, eq_13⟩ := hQ_13
  have N_13 := Fr.app N_7 Nq_13
  show own_Go p e below _ T_13 (mkF m 17 #[.val (.ref a1), .val (.ref a2), .val (.ref a_1), .val (.int (0 : Int32))] [(.int (0 : Int32)), (.int (0 : Int32))])
  refine own_icmpY X_13 hx (hb hby d15_17) (by decide) (pc' := 66) (by decide) (by decide) ?_
  refine own_aloadN X_13 hx (hb hby d15_66) (pc' := 67) rfl rfl rfl ?_
  refine own_retA X_13 hx hlk Bd.returns rfl rfl (hb hby d15_67) (by decide) (by decide) ?_
  rw [eq_13]
  exact ⟨a_1, rfl, N_13, K_9, nw_1, ge_1, A_12, F_8⟩
theorem d16_0 : decode prog_27_method_1_code 0 = .ok (.aload_n 0, 1) := by decide +kernel
theorem d16_1 : decode prog_27_method_1_code 1 = .ok (.invokespecial 1, 3) := by decide +kernel
theorem d16_4 : decode prog_27_method_1_code 4 = .ok (.iload_n 1, 1) := by decide +kernel
theorem d16_5 : decode prog_27_method_1_code 5 = .ok (.bipush 100, 2) := by decide +kernel
theorem d16_7 : decode prog_27_method_1_code 7 = .ok (.if_icmp .lt 10, 3) := by decide +kernel
theorem d16_10 : decode prog_27_method_1_code 10 = .ok (.iload_n 1, 1) := by decide +kernel
theorem d16_11 : decode prog_27_method_1_code 11 = .ok (.sipush 599, 3) := by decide +kernel
theorem d16_14 : decode prog_27_method_1_code 14 = .ok (.if_icmp .le 17, 3) := by decide +kernel
theorem d16_31 : decode prog_27_method_1_code 31 = .ok (.aload_n 3, 1) := by decide +kernel
theorem d16_32 : decode prog_27_method_1_code 32 = .ok (.ldc 16, 2) := by decide +kernel
theorem d16_34 : decode prog_27_method_1_code 34 = .ok (.invokestatic 18, 3) := by decide +kernel
theorem d16_37 : decode prog_27_method_1_code 37 = .ok (.pop, 1) := by decide +kernel
theorem d16_38 : decode prog_27_method_1_code 38 = .ok (.new 24, 3) := by decide +kernel
theorem d16_41 : decode prog_27_method_1_code 41 = .ok (.dup, 1) := by decide +kernel
theorem d16_42 : decode prog_27_method_1_code 42 = .ok (.getstatic 26, 3) := by decide +kernel
theorem d16_45 : decode prog_27_method_1_code 45 = .ok (.invokespecial 32, 3) := by decide +kernel
theorem d16_48 : decode prog_27_method_1_code 48 = .ok (.astore 4, 2) := by decide +kernel
theorem d16_50 : decode prog_27_method_1_code 50 = .ok (.aload_n 2, 1) := by decide +kernel
theorem d16_51 : decode prog_27_method_1_code 51 = .ok (.aload 4, 2) := by decide +kernel
theorem d16_53 : decode prog_27_method_1_code 53 = .ok (.invokedynamic 35, 5) := by decide +kernel
theorem d16_58 : decode prog_27_method_1_code 58 = .ok (.invokeinterface 39 2, 5) := by decide +kernel
theorem d16_63 : decode prog_27_method_1_code 63 = .ok (.aload 4, 2) := by decide +kernel
theorem d16_65 : decode prog_27_method_1_code 65 = .ok (.invokedynamic 45, 5) := by decide +kernel
theorem d16_70 : decode prog_27_method_1_code 70 = .ok (.invokeinterface 49 2, 5) := by decide +kernel
theorem d16_75 : decode prog_27_method_1_code 75 = .ok (.aload_n 0, 1) := by decide +kernel
theorem d16_76 : decode prog_27_method_1_code 76 = .ok (.iload_n 1, 1) := by decide +kernel
theorem d16_77 : decode prog_27_method_1_code 77 = .ok (.putfield 53, 3) := by decide +kernel
theorem d16_80 : decode prog_27_method_1_code 80 = .ok (.aload_n 0, 1) := by decide +kernel
theorem d16_81 : decode prog_27_method_1_code 81 = .ok (.aload 4, 2) := by decide +kernel
theorem d16_83 : decode prog_27_method_1_code 83 = .ok (.invokestatic 59, 3) := by decide +kernel
theorem d16_86 : decode prog_27_method_1_code 86 = .ok (.putfield 65, 3) := by decide +kernel
theorem d16_89 : decode prog_27_method_1_code 89 = .ok (.aload_n 0, 1) := by decide +kernel
theorem d16_90 : decode prog_27_method_1_code 90 = .ok (.aload_n 3, 1) := by decide +kernel
theorem d16_91 : decode prog_27_method_1_code 91 = .ok (.invokevirtual 69, 3) := by decide +kernel
theorem d16_94 : decode prog_27_method_1_code 94 = .ok (.checkcast 70, 3) := by decide +kernel
theorem d16_97 : decode prog_27_method_1_code 97 = .ok (.putfield 75, 3) := by decide +kernel
theorem d16_100 : decode prog_27_method_1_code 100 = .ok (.return_, 1) := by decide +kernel
theorem pd16_0 : parseMethodDescriptor "(Ljava/lang/Object;Ljava/lang/String;)Ljava/lang/Object;" = some ⟨[(.object "java/lang/Object"), (.object "java/lang/String")], some (.object "java/lang/Object")⟩ := by decide +kernel
theorem pd16_1 : parseMethodDescriptor "(Ljava/util/Comparator;)V" = some ⟨[(.object "java/util/Comparator")], none⟩ := by decide +kernel
theorem pd16_2 : parseMethodDescriptor "(Ljava/util/function/BiConsumer;)V" = some ⟨[(.object "java/util/function/BiConsumer")], none⟩ := by decide +kernel
theorem pd16_3 : parseMethodDescriptor "(Ljava/util/function/BiFunction;)V" = some ⟨[(.object "java/util/function/BiFunction")], none⟩ := by decide +kernel
theorem pd16_4 : parseMethodDescriptor "(Ljava/util/Map;)Ljava/util/Map;" = some ⟨[(.object "java/util/Map")], some (.object "java/util/Map")⟩ := by decide +kernel
theorem pn16 : plainFor (⟨"com/example/verbatim_replay/verbatimreplay/StoredResponse", "<init>", "(ILjava/util/Map;[B)V"⟩ : MethodName) = true := by first | exact plainFor_of_name (by first | (simp [plainName, overriddenIn]; done) | decide +kernel) | decide +kernel
theorem ef16 (m : MethodId) (a1 : Addr) (x1 : Int32) (m1 : Addr) (b1 : Addr) : entryFrame m #[(.ref a1), (.int x1), (.ref m1), (.ref b1)] 5 = mkF m 0 #[.val (.ref a1), .val (.int x1), .val (.ref m1), .val (.ref b1), .unset] [] := by first | (simp [entryFrame, mkF, argsToLocals, Value.category]; done) | rfl
def Q16 (Z : State) (a1 : Addr) (x1 : Int32) (m1 : Addr) (b1 : Addr) (ca : Addr) (kc : ClassId) (nn : Int32) (vs : List Value) (h0 : Heap) (n0 : Nat) (v : Option Value) (h : Heap) (L : List Loc) : Prop := v = none ∧ Fr n0 L ∧ Keep h0 h [a1]
set_option maxRecDepth 65536 in
set_option maxHeartbeats 40000000 in
theorem rm16 (l : Launch) (Z : State) (a0 : Array Value) (hw : ∀ d ∈ tables_1, d.before a0 Z = true) (ws : List Jvm.Cond) (a1 : Addr) (x1 : Int32) (m1 : Addr) (b1 : Addr) (ca : Addr) (kc : ClassId) (nn : Int32) (vs : List Value) (h0 : Heap) (n0 : Nat) (Z0 : n0 ≤ h0.size) (O_a : Old Z n0 h0) (A_a : Exa Z h0 a1 "com/example/verbatim_replay/verbatimreplay/StoredResponse") (F_s : Fld Z h0 a1 "com/example/verbatim_replay/verbatimreplay/StoredResponse" "status" "I" (.int (0 : Int32))) (F_h : Fld Z h0 a1 "com/example/verbatim_replay/verbatimreplay/StoredResponse" "headers" "Ljava/util/Map;" (.null)) (F_b : Fld Z h0 a1 "com/example/verbatim_replay/verbatimreplay/StoredResponse" "body" "[B" (.null)) (A_m : Exa Z h0 m1 "java/util/HashMap") (F_z : Fld Z h0 m1 "java/util/HashMap" "size" "I" (.int (0 : Int32))) (V_a : Arv Z h0 b1 kc .byte nn vs (.int (0 : Int32))) (B_a : Exa Z h0 b1 "[B") (ga : n0 ≤ a1) (nm : m1 ≠ a1) (nb : b1 ≠ a1) (Sc : Sta Z Z.heap "java/lang/String" "CASE_INSENSITIVE_ORDER" "Ljava/util/Comparator;" (.ref ca)) (M1 : own_Mir Z "java/util/TreeMap") (M2 : own_Mir Z "java/util/Collections$UnmodifiableMap") (hs1 : ¬ x1 < 100) (hs2 : ¬ 599 < x1) (hcap : nn.toNatClampNeg ≤ 2) :
    MetFree l (⟨"com/example/verbatim_replay/verbatimreplay/StoredResponse", "<init>", "(ILjava/util/Map;[B)V"⟩ : MethodName) (head1 (Jvm.Cond.code (⟨"com/example/verbatim_replay/verbatimreplay/StoredResponse", "<init>", "(ILjava/util/Map;[B)V"⟩ : MethodName) prog_27_method_1_code 5 none :: ws) ({ frames := 3, cells := 6, slots := 36, locals := 3074 } : Room)) (fun a U => a = #[(.ref a1), (.int x1), (.ref m1), (.ref b1)] ∧ Z.Warmed39 U.vm ∧ U.heap = h0) (fun _ _ _ _ _ => True) (fun _ U o U' => ∃ v L, o = .returned v ∧ Q16 Z a1 x1 m1 b1 ca kc nn vs h0 n0 v U'.heap L ∧ ReturnedEndW U o U' L ({ frames := 3, cells := 6, slots := 36, locals := 3074 } : Room).cells ({ frames := 3, cells := 6, slots := 36, locals := 3074 } : Room).slots) := by
  refine MetFree.of_bodySF pn16 hisR ?_
  intro p e s m args below meth c s₁ Bd hml0 hP hK
  obtain ⟨rfl, hZ, hh⟩ := hP
  have hx := Bd.exec
  have hby := Bd.bytes
  have hlk : meth.locks = false := BodyLoose.notSynchronized Bd
  have hml : c.maxLocals = 5 := hml0
  have hown : s.vm.findClass "com/example/verbatim_replay/verbatimreplay/StoredResponse" = some m.cls := findClass_of_methodNamed Bd.named
  have hnm := (name_of_methodNamed Bd.named Bd.method).1
  have X0 : Stand p l e ({ frames := 3, cells := 6, slots := 36, locals := 3074 } : Room) s m #[(.ref a1), (.int x1), (.ref m1), (.ref b1)] below meth c s₁ [] 0 0 := Stand.of_body Bd
  have e0 : s₁.heap = h0 := by rw [← hh, Bd.state]; rfl
  have hmZ : Z.methodNamed? (⟨"com/example/verbatim_replay/verbatimreplay/StoredResponse", "<init>", "(ILjava/util/Map;[B)V"⟩ : MethodName) = some m := own_mnZ hZ Bd.named
  have hS : s.Since s.vm h0.size := (State.WarmedH.refl s).since _
  have X0 : Stand p l e ({ frames := 3, cells := 6, slots := 36, locals := 3074 } : Room) (s.setVm s.vm) m #[(.ref a1), (.int x1), (.ref m1), (.ref b1)] below meth c s₁ [] 0 0 := X0
  have hZ : Z.Warmed39 (s.setVm s.vm).vm := hZ
  have hown : (s.setVm s.vm).vm.findClass "com/example/verbatim_replay/verbatimreplay/StoredResponse" = some m.cls := hown
  have own_wS : ∀ a ∈ Bundle.stringAtoms, a.before a0 Z = true := fun a ha => hw a ((by decide +kernel : ∀ a ∈ Bundle.stringAtoms, a ∈ tables_1) a ha)
  have N0 := Fr.nil n0
  have K0 : Keep h0 h0 [a1] := Keep.refl _ _
  rw [ef16 m a1 x1 m1 b1]
  show own_Go p e below (own_EndW s (Q16 Z a1 x1 m1 b1 ca kc nn vs h0 n0) ({ frames := 3, cells := 6, slots := 36, locals := 3074 } : Room).cells ({ frames := 3, cells := 6, slots := 36, locals := 3074 } : Room).slots) s₁ (mkF m 0 #[.val (.ref a1), .val (.int x1), .val (.ref m1), .val (.ref b1), .unset] [])
  refine own_aloadN X0 hx (hb hby d16_0) (pc' := 1) rfl rfl rfl ?_
  obtain ⟨T_1, X_1, e_1, st_1⟩ := initO X0 hx hZ hown (hw _ (List.mem_of_getElem? (i := 64) rfl)) (hw _ (List.mem_of_getElem? (i := 20) rfl)) (hw _ (List.mem_of_getElem? (i := 21) rfl)) e0 (g := (mkF m 1 #[.val (.ref a1), .val (.int x1), .val (.ref m1), .val (.ref b1), .unset] [(.ref a1)])) rfl (by rw [hml]; rfl) rfl (hb hby d16_1) (by decide) (W := 0) (by show 2 * 0 + _ ≤ _; exact Nat.le_of_eq rfl) (by decide)
  refine own_st st_1 ?_
  show own_Go p e below _ T_1 (mkF m 4 #[.val (.ref a1), .val (.int x1), .val (.ref m1), .val (.ref b1), .unset] [])
  refine own_iloadN X_1 hx (hb hby d16_4) (pc' := 5) rfl rfl ?_
  refine own_bipush X_1 hx (100) (hb hby d16_5) (pc' := 7) rfl (by decide) ?_
  refine own_icmpN X_1 hx (hb hby d16_7) (XT.ii_lt_f hs1) (pc' := 10) rfl ?_
  refine own_iloadN X_1 hx (hb hby d16_10) (pc' := 11) rfl rfl ?_
  refine own_sipush X_1 hx (599) (hb hby d16_11) (pc' := 14) rfl (by decide) ?_
  refine own_icmpY X_1 hx (hb hby d16_14) (XT.ii_le_t hs2) (pc' := 31) (by decide) (by decide) ?_
  refine own_aloadN X_1 hx (hb hby d16_31) (pc' := 32) rfl rfl rfl ?_
  obtain ⟨la_2, T_2, h_2, kn_2, X_2, e_2, E_2, hS, hkn_2, hZ, hown, st_2⟩ := ldcS X_1 hx hZ hown (hw _ (List.mem_of_getElem? (i := 65) rfl)) own_wS e_1 hS (Nat.le_refl _) (g := (mkF m 32 #[.val (.ref a1), .val (.int x1), .val (.ref m1), .val (.ref b1), .unset] [(.ref b1)])) rfl (hb hby d16_32) (n := 16) (by decide) (by decide) (by decide) (by decide)
  have O_4 : Old Z n0 h_2 := O_a.ext E_2
  have A_5 : Exa Z h_2 a1 "com/example/verbatim_replay/verbatimreplay/StoredResponse" := A_a.ext E_2
  have F_6 : Fld Z h_2 a1 "com/example/verbatim_replay/verbatimreplay/StoredResponse" "status" "I" (.int (0 : Int32)) := F_s.ext E_2
  have F_7 : Fld Z h_2 a1 "com/example/verbatim_replay/verbatimreplay/StoredResponse" "headers" "Ljava/util/Map;" (.null) := F_h.ext E_2
  have F_8 : Fld Z h_2 a1 "com/example/verbatim_replay/verbatimreplay/StoredResponse" "body" "[B" (.null) := F_b.ext E_2
  have A_9 : Exa Z h_2 m1 "java/util/HashMap" := A_m.ext E_2
  have F_10 : Fld Z h_2 m1 "java/util/HashMap" "size" "I" (.int (0 : Int32)) := F_z.ext E_2
  have V_11 : Arv Z h_2 b1 kc .byte nn vs (.int (0 : Int32)) := V_a.ext E_2
  have B_12 : Exa Z h_2 b1 "[B" := B_a.ext E_2
  have Z_3 : n0 ≤ h_2.size := Nat.le_trans Z0 E_2.1
  have K_3 : Keep h0 h_2 [a1] := K0.ext E_2
  refine own_st st_2 ?_
  show own_Go p e below _ T_2 (mkF m 34 #[.val (.ref a1), .val (.int x1), .val (.ref m1), .val (.ref b1), .unset] [(.ref la_2), (.ref b1)])
  obtain ⟨_, _, ⟨T_13, L_13, k_13, n_13⟩, -, X_13, ⟨Lc_13, hQ_13, l_13, y_13, z_13⟩, st_13⟩ := Jvm.LawKit.callS X_2 hx (y := (⟨"java/util/Objects", "requireNonNull", "(Ljava/lang/Object;Ljava/lang/String;)Ljava/lang/Object;"⟩ : MethodName)) hown (mvT hZ (hw _ (List.mem_of_getElem? (i := 72) rfl))) (mvT hZ (hw _ (List.mem_of_getElem? (i := 73) rfl))) (mvT hZ (hw _ (List.mem_of_getElem? (i := 74) rfl))) (mvT hZ (hw _ (List.mem_of_getElem? (i := 75) rfl))) (by decide) (backOf (W := 0) (rm8 l Z a0 hw [] b1 la_2 h_2 n0 Z_3) hZ (hw _ (List.mem_of_getElem? (i := 75) rfl)) (hw _ (List.mem_of_getElem? (i := 74) rfl)) (by decide) (by decide)) (g := (mkF m 34 #[.val (.ref a1), .val (.int x1), .val (.ref m1), .val (.ref b1), .unset] [(.ref la_2), (.ref b1)])) rfl (by rw [hml]; rfl) (argsL := [(.ref b1), (.ref la_2)]) (rest := []) (lenOf pd16_0 rfl) rfl (by show 2 * 0 + _ ≤ _; exact Nat.le_of_eq rfl) (hb hby d16_34) (fun _ _ => ⟨rfl, e_2, (by decide : 2 + 0 ≤ _), (by decide : 20 + 0 ≤ _)⟩)
  dsimp only [Pt.U, Pt.locs, Pt.cells, Pt.slots] at X_13 l_13 y_13 z_13 st_13 hQ_13
  subst l_13 y_13 z_13
  refine own_st st_13 ?_
  obtain ⟨rfl, Nq_13, eq_13⟩ := hQ_13
  have N_13 := Fr.app N0 Nq_13
  show own_Go p e below _ T_13 (mkF m 37 #[.val (.ref a1), .val (.int x1), .val (.ref m1), .val (.ref b1), .unset] [(.ref b1)])
  refine own_pop X_13 hx (hb hby d16_37) (pc' := 38) rfl rfl ?_
  obtain ⟨T_14, h_14, X_14, e_14, E_14, A_14, D_14, -, st_14⟩ := newO X_13 hx hZ hown (hw _ (List.mem_of_getElem? (i := 76) rfl)) (hw _ (List.mem_of_getElem? (i := 77) rfl)) (hw _ (List.mem_of_getElem? (i := 78) rfl)) eq_13 (g := (mkF m 38 #[.val (.ref a1), .val (.int x1), .val (.ref m1), .val (.ref b1), .unset] [])) rfl (hb hby d16_38) (by decide) (by decide)
  obtain ⟨a_14, g_14⟩ : ∃ z, z = h_2.size := ⟨_, rfl⟩
  rw [← g_14] at A_14 D_14 st_14
  have ge_14 : n0 ≤ a_14 := Nat.le_trans Z_3 (Nat.le_of_eq g_14.symm)
  have nw_14 : h0.size ≤ a_14 := Nat.le_trans K_3.1 (Nat.le_of_eq g_14.symm)
  have ne_14_a1 : a1 ≠ a_14 := Nat.ne_of_lt (Nat.lt_of_lt_of_eq A_5.lt g_14.symm)
  have ne_14_m1 : m1 ≠ a_14 := Nat.ne_of_lt (Nat.lt_of_lt_of_eq A_9.lt g_14.symm)
  have ne_14_b1 : b1 ≠ a_14 := Nat.ne_of_lt (Nat.lt_of_lt_of_eq V_11.lt g_14.symm)
  have O_16 : Old Z n0 h_14 := O_4.ext E_14
  have A_17 : Exa Z h_14 a1 "com/example/verbatim_replay/verbatimreplay/StoredResponse" := A_5.ext E_14
  have F_18 : Fld Z h_14 a1 "com/example/verbatim_replay/verbatimreplay/StoredResponse" "status" "I" (.int (0 : Int32)) := F_6.ext E_14
  have F_19 : Fld Z h_14 a1 "com/example/verbatim_replay/verbatimreplay/StoredResponse" "headers" "Ljava/util/Map;" (.null) := F_7.ext E_14
  have F_20 : Fld Z h_14 a1 "com/example/verbatim_replay/verbatimreplay/StoredResponse" "body" "[B" (.null) := F_8.ext E_14
  have A_21 : Exa Z h_14 m1 "java/util/HashMap" := A_9.ext E_14
  have F_22 : Fld Z h_14 m1 "java/util/HashMap" "size" "I" (.int (0 : Int32)) := F_10.ext E_14
  have V_23 : Arv Z h_14 b1 kc .byte nn vs (.int (0 : Int32)) := V_11.ext E_14
  have B_24 : Exa Z h_14 b1 "[B" := B_12.ext E_14
  have Z_15 : n0 ≤ h_14.size := Nat.le_trans Z_3 E_14.1
  have K1_15 := Nat.le_trans hkn_2 E_14.1
  have K_15 : Keep h0 h_14 [a1] := K_3.ext E_14
  have F_25 : Fld Z h_14 a_14 "java/util/TreeMap" "size" "I" (.int (0 : Int32)) := D_14 (Or.inl (hw _ (List.mem_of_getElem? (i := 86) rfl))) (ty := .int) (by decide)
  have F_26 : Fld Z h_14 a_14 "java/util/TreeMap" "modCount" "I" (.int (0 : Int32)) := D_14 (Or.inl (hw _ (List.mem_of_getElem? (i := 88) rfl))) (ty := .int) (by decide)
  have F_27 : Fld Z h_14 a_14 "java/util/TreeMap" "comparator" "Ljava/util/Comparator;" (.null) := D_14 (Or.inr (hw _ (List.mem_of_getElem? (i := 90) rfl))) (ty := (.object "java/util/Comparator")) (by decide)
  have F_28 : Fld Z h_14 a_14 "java/util/TreeMap" "root" "Ljava/util/TreeMap$Entry;" (.null) := D_14 (Or.inl (hw _ (List.mem_of_getElem? (i := 126) rfl))) (ty := (.object "java/util/TreeMap$Entry")) (by decide)
  refine own_st st_14 ?_
  show own_Go p e below _ T_14 (mkF m 41 #[.val (.ref a1), .val (.int x1), .val (.ref m1), .val (.ref b1), .unset] [(.ref a_14)])
  refine own_dup X_14 hx (hb hby d16_41) (pc' := 42) rfl rfl ?_
  obtain ⟨T_29, X_29, e_29, st_29⟩ := getS2 X_14 hx hZ hown (host := "") (Or.inl (hw _ (List.mem_of_getElem? (i := 79) rfl))) Via.refl e_14 (Sc.ext O_16.2) (g := (mkF m 42 #[.val (.ref a1), .val (.int x1), .val (.ref m1), .val (.ref b1), .unset] [(.ref a_14), (.ref a_14)])) rfl (hb hby d16_42)
  refine own_st st_29 ?_
  show own_Go p e below _ T_29 (mkF m 45 #[.val (.ref a1), .val (.int x1), .val (.ref m1), .val (.ref b1), .unset] [(.ref ca), (.ref a_14), (.ref a_14)])
  obtain ⟨_, _, ⟨T_30, L_30, k_30, n_30⟩, -, X_30, ⟨Lc_30, hQ_30, l_30, y_30, z_30⟩, st_30⟩ := X_29.specialBack hx  (y := (⟨"java/util/TreeMap", "<init>", "(Ljava/util/Comparator;)V"⟩ : MethodName)) rfl hown (mvT hZ (hw _ (List.mem_of_getElem? (i := 80) rfl))) (mvT hZ (hw _ (List.mem_of_getElem? (i := 81) rfl))) (mvT hZ (hw _ (List.mem_of_getElem? (i := 82) rfl))) (by decide) (backOf (W := 1) (rm7 l Z a0 hw [] a_14 ca h_14 n0 Z_15 A_14 F_25 F_26 F_27 F_28 ge_14) hZ (hw _ (List.mem_of_getElem? (i := 82) rfl)) (hw _ (List.mem_of_getElem? (i := 78) rfl)) (by decide) (by decide)) (g := (mkF m 45 #[.val (.ref a1), .val (.int x1), .val (.ref m1), .val (.ref b1), .unset] [(.ref ca), (.ref a_14), (.ref a_14)])) rfl (by rw [hml]; rfl) (Steps.refl _) (a := a_14) (argsL := [(.ref ca)]) (rest := [(.ref a_14)]) (lenOf pd16_1 rfl) rfl (by show 2 * 0 + _ ≤ _; exact Nat.le_of_eq rfl) (hb hby d16_45) (fun _ _ => ⟨rfl, e_29, (by decide : 3 + 0 ≤ _), (by decide : 29 + 0 ≤ _)⟩)
  dsimp only [Pt.U, Pt.locs, Pt.cells, Pt.slots] at X_30 l_30 y_30 z_30 st_30 hQ_30
  subst l_30 y_30 z_30
  refine own_tr st_30 ?_
  obtain ⟨rfl, Nq_30, Kq_30, q0_30, q1_30⟩ := hQ_30
  have N_30 := Fr.app N_13 Nq_30
  have F_31 : Fld Z T_30.heap a_14 "java/util/TreeMap" "modCount" "I" (.int (0 : Int32)) := q0_30
  have F_32 : Fld Z T_30.heap a_14 "java/util/TreeMap" "root" "Ljava/util/TreeMap$Entry;" (.null) := q1_30
  have O_34 : Old Z n0 T_30.heap := O_16.keep Kq_30 (allS ge_14 all0)
  have A_35 : Exa Z T_30.heap a1 "com/example/verbatim_replay/verbatimreplay/StoredResponse" := A_17.keep Kq_30
  have F_36 : Fld Z T_30.heap a1 "com/example/verbatim_replay/verbatimreplay/StoredResponse" "status" "I" (.int (0 : Int32)) := F_18.keep Kq_30 (ninS ne_14_a1 nin0)
  have F_37 : Fld Z T_30.heap a1 "com/example/verbatim_replay/verbatimreplay/StoredResponse" "headers" "Ljava/util/Map;" (.null) := F_19.keep Kq_30 (ninS ne_14_a1 nin0)
  have F_38 : Fld Z T_30.heap a1 "com/example/verbatim_replay/verbatimreplay/StoredResponse" "body" "[B" (.null) := F_20.keep Kq_30 (ninS ne_14_a1 nin0)
  have A_39 : Exa Z T_30.heap m1 "java/util/HashMap" := A_21.keep Kq_30
  have F_40 : Fld Z T_30.heap m1 "java/util/HashMap" "size" "I" (.int (0 : Int32)) := F_22.keep Kq_30 (ninS ne_14_m1 nin0)
  have V_41 : Arv Z T_30.heap b1 kc .byte nn vs (.int (0 : Int32)) := V_23.keep Kq_30 (ninS ne_14_b1 nin0)
  have B_42 : Exa Z T_30.heap b1 "[B" := B_24.keep Kq_30
  have A_43 : Exa Z T_30.heap a_14 "java/util/TreeMap" := A_14.keep Kq_30
  have Z_33 : n0 ≤ T_30.heap.size := Nat.le_trans Z_15 Kq_30.1
  have K1_33 := Nat.le_trans K1_15 Kq_30.1
  have K_33 : Keep h0 T_30.heap [a1] := K_15.trans Kq_30 (allS (Or.inr nw_14) all0)
  show own_Go p e below _ T_30 (mkF m 48 #[.val (.ref a1), .val (.int x1), .val (.ref m1), .val (.ref b1), .unset] [(.ref a_14)])
  refine own_astore X_30 hx (hb hby d16_48) (pc' := 50) (Ls' := #[.val (.ref a1), .val (.int x1), .val (.ref m1), .val (.ref b1), .val (.ref a_14)]) rfl rfl rfl ?_
  refine own_aloadN X_30 hx (hb hby d16_50) (pc' := 51) rfl rfl rfl ?_
  refine own_aload X_30 hx (hb hby d16_51) (pc' := 53) rfl rfl rfl ?_
  obtain ⟨T_44, h_44, X_44, e_44, E_44, st_44⟩ := own_lamM X_30 hx hZ (fi := 15) hmZ (hw _ (List.mem_of_getElem? (i := 91) rfl)) rfl own_cap (hw _ (List.mem_of_getElem? (i := 94) rfl)) rfl (Ls := #[.val (.ref a1), .val (.int x1), .val (.ref m1), .val (.ref b1), .val (.ref a_14)]) (st := [(.ref m1)]) (v := (.ref a_14)) (hb hby d16_53) (by rw [hml]; rfl) rfl rfl (Nat.le_of_ble_eq_true rfl) (by decide) (by decide)
  obtain ⟨a_44, g_44⟩ : ∃ z, z = T_30.heap.size := ⟨_, rfl⟩
  rw [← g_44] at st_44
  have ge_44 : n0 ≤ a_44 := Nat.le_trans Z_33 (Nat.le_of_eq g_44.symm)
  have nw_44 : h0.size ≤ a_44 := Nat.le_trans K_33.1 (Nat.le_of_eq g_44.symm)
  have ne_44_a_14 : a_14 ≠ a_44 := Nat.ne_of_lt (Nat.lt_of_lt_of_eq F_31.lt g_44.symm)
  have ne_44_a1 : a1 ≠ a_44 := Nat.ne_of_lt (Nat.lt_of_lt_of_eq A_35.lt g_44.symm)
  have ne_44_m1 : m1 ≠ a_44 := Nat.ne_of_lt (Nat.lt_of_lt_of_eq A_39.lt g_44.symm)
  have ne_44_b1 : b1 ≠ a_44 := Nat.ne_of_lt (Nat.lt_of_lt_of_eq V_41.lt g_44.symm)
  have F_46 : Fld Z h_44 a_14 "java/util/TreeMap" "modCount" "I" (.int (0 : Int32)) := F_31.ext E_44
  have F_47 : Fld Z h_44 a_14 "java/util/TreeMap" "root" "Ljava/util/TreeMap$Entry;" (.null) := F_32.ext E_44
  have O_48 : Old Z n0 h_44 := O_34.ext E_44
  have A_49 : Exa Z h_44 a1 "com/example/verbatim_replay/verbatimreplay/StoredResponse" := A_35.ext E_44
  have F_50 : Fld Z h_44 a1 "com/example/verbatim_replay/verbatimreplay/StoredResponse" "status" "I" (.int (0 : Int32)) := F_36.ext E_44
  have F_51 : Fld Z h_44 a1 "com/example/verbatim_replay/verbatimreplay/StoredResponse" "headers" "Ljava/util/Map;" (.null) := F_37.ext E_44
  have F_52 : Fld Z h_44 a1 "com/example/verbatim_replay/verbatimreplay/StoredResponse" "body" "[B" (.null) := F_38.ext E_44
  have A_53 : Exa Z h_44 m1 "java/util/HashMap" := A_39.ext E_44
  have F_54 : Fld Z h_44 m1 "java/util/HashMap" "size" "I" (.int (0 : Int32)) := F_40.ext E_44
  have V_55 : Arv Z h_44 b1 kc .byte nn vs (.int (0 : Int32)) := V_41.ext E_44
  have B_56 : Exa Z h_44 b1 "[B" := B_42.ext E_44
  have A_57 : Exa Z h_44 a_14 "java/util/TreeMap" := A_43.ext E_44
  have Z_45 : n0 ≤ h_44.size := Nat.le_trans Z_33 E_44.1
  have K1_45 := Nat.le_trans K1_33 E_44.1
  have K_45 : Keep h0 h_44 [a1] := K_33.ext E_44
  refine own_st st_44 ?_
  show own_Go p e below _ T_44 (mkF m 58 #[.val (.ref a1), .val (.int x1), .val (.ref m1), .val (.ref b1), .val (.ref a_14)] [(.ref a_44), (.ref m1)])
  obtain ⟨cq_58, kq_58, qa_58, qb_58, qc_58⟩ := isOf hZ e_44 A_53
  obtain ⟨_, _, ⟨T_58, L_58, k_58, n_58⟩, -, X_58, ⟨Lc_58, hQ_58, l_58, y_58, z_58⟩, st_58⟩ := X_44.interfaceBack hx (xi := (⟨"java/util/Map", "forEach", "(Ljava/util/function/BiConsumer;)V"⟩ : MethodName)) (y := (⟨"java/util/HashMap", "forEach", "(Ljava/util/function/BiConsumer;)V"⟩ : MethodName)) hown (mvT hZ (hw _ (List.mem_of_getElem? (i := 95) rfl))) (mvT hZ (hw _ (List.mem_of_getElem? (i := 96) rfl))) (mvT hZ (hw _ (List.mem_of_getElem? (i := 97) rfl))) (mvT hZ (hw _ (List.mem_of_getElem? (i := 98) rfl))) (mvT hZ (hw _ (List.mem_of_getElem? (i := 99) rfl))) (mvT hZ (hw _ (List.mem_of_getElem? (i := 100) rfl))) (mvT hZ (hw _ (List.mem_of_getElem? (i := 101) rfl))) (mvT hZ (hw _ (List.mem_of_getElem? (i := 102) rfl))) (by decide) (backOf (W := 0) (rm11 l Z a0 hw [] m1 a_44 h_44 n0 Z_45 F_54) hZ (hw _ (List.mem_of_getElem? (i := 103) rfl)) (hw _ (List.mem_of_getElem? (i := 33) rfl)) (by decide) (by decide)) qa_58 qb_58 qc_58 (g := (mkF m 58 #[.val (.ref a1), .val (.int x1), .val (.ref m1), .val (.ref b1), .val (.ref a_14)] [(.ref a_44), (.ref m1)])) rfl (by rw [hml]; rfl) (Steps.refl _) (argsL := [(.ref a_44)]) (rest := []) (lenOf pd16_2 rfl) rfl (by show 2 * 0 + _ ≤ _; exact Nat.le_of_eq rfl) (hb hby d16_58) (fun _ _ => ⟨rfl, e_44, (by decide : 4 + 0 ≤ _), (by decide : 30 + 0 ≤ _)⟩)
  dsimp only [Pt.U, Pt.locs, Pt.cells, Pt.slots] at X_58 l_58 y_58 z_58 st_58 hQ_58
  subst l_58 y_58 z_58
  refine own_tr st_58 ?_
  obtain ⟨rfl, Nq_58, eq_58⟩ := hQ_58
  have N_58 := Fr.app N_30 Nq_58
  show own_Go p e below _ T_58 (mkF m 63 #[.val (.ref a1), .val (.int x1), .val (.ref m1), .val (.ref b1), .val (.ref a_14)] [])
  refine own_aload X_58 hx (hb hby d16_63) (pc' := 65) rfl rfl rfl ?_
  refine own_lamC X_58 hx hZ hmZ (hw _ (List.mem_of_getElem? (i := 106) rfl)) rfl (hb hby d16_65) (by rw [hml]; rfl) (pc' := 70) rfl (Nat.le_of_ble_eq_true rfl) (fun la_59 => ?_)
  show own_Go p e below _ T_58 (mkF m 70 #[.val (.ref a1), .val (.int x1), .val (.ref m1), .val (.ref b1), .val (.ref a_14)] [(.ref la_59), (.ref a_14)])
  obtain ⟨cq_60, kq_60, qa_60, qb_60, qc_60⟩ := isOf hZ eq_58 A_57
  obtain ⟨_, _, ⟨T_60, L_60, k_60, n_60⟩, -, X_60, ⟨Lc_60, hQ_60, l_60, y_60, z_60⟩, st_60⟩ := X_58.interfaceBack hx (xi := (⟨"java/util/Map", "replaceAll", "(Ljava/util/function/BiFunction;)V"⟩ : MethodName)) (y := (⟨"java/util/TreeMap", "replaceAll", "(Ljava/util/function/BiFunction;)V"⟩ : MethodName)) hown (mvT hZ (hw _ (List.mem_of_getElem? (i := 108) rfl))) (mvT hZ (hw _ (List.mem_of_getElem? (i := 109) rfl))) (mvT hZ (hw _ (List.mem_of_getElem? (i := 110) rfl))) (mvT hZ (hw _ (List.mem_of_getElem? (i := 111) rfl))) (mvT hZ (hw _ (List.mem_of_getElem? (i := 112) rfl))) (mvT hZ (hw _ (List.mem_of_getElem? (i := 113) rfl))) (mvT hZ (hw _ (List.mem_of_getElem? (i := 114) rfl))) (mvT hZ (hw _ (List.mem_of_getElem? (i := 115) rfl))) (by decide) (backOf (W := 0) (rm12 l Z a0 hw [] a_14 la_59 h_44 n0 Z_45 A_57 F_46 F_47) hZ (hw _ (List.mem_of_getElem? (i := 116) rfl)) (hw _ (List.mem_of_getElem? (i := 78) rfl)) (by decide) (by decide)) qa_60 qb_60 qc_60 (g := (mkF m 70 #[.val (.ref a1), .val (.int x1), .val (.ref m1), .val (.ref b1), .val (.ref a_14)] [(.ref la_59), (.ref a_14)])) rfl (by rw [hml]; rfl) (Steps.refl _) (argsL := [(.ref la_59)]) (rest := []) (lenOf pd16_3 rfl) rfl (by show 2 * 0 + _ ≤ _; exact Nat.le_of_eq rfl) (hb hby d16_70) (fun _ _ => ⟨rfl, eq_58, (by decide : 4 + 0 ≤ _), (by decide : 30 + 0 ≤ _)⟩)
  dsimp only [Pt.U, Pt.locs, Pt.cells, Pt.slots] at X_60 l_60 y_60 z_60 st_60 hQ_60
  subst l_60 y_60 z_60
  refine own_tr st_60 ?_
  obtain ⟨rfl, Nq_60, eq_60⟩ := hQ_60
  have N_60 := Fr.app N_58 Nq_60
  show own_Go p e below _ T_60 (mkF m 75 #[.val (.ref a1), .val (.int x1), .val (.ref m1), .val (.ref b1), .val (.ref a_14)] [])
  refine own_aloadN X_60 hx (hb hby d16_75) (pc' := 76) rfl rfl rfl ?_
  refine own_iloadN X_60 hx (hb hby d16_76) (pc' := 77) rfl rfl ?_
  obtain ⟨T_61, h_61, X_61, e_61, W_61, st_61⟩ := putF X_60 hx hZ hown (host := "") (Or.inl (hw _ (List.mem_of_getElem? (i := 127) rfl))) Via.refl eq_60 F_50 A_49 (Or.inr ⟨(hw _ (List.mem_of_getElem? (i := 128) rfl)), rfl, hnm⟩) (hw _ (List.mem_of_getElem? (i := 60) rfl)) (ty := .int) (by decide) rfl rfl (g := (mkF m 77 #[.val (.ref a1), .val (.int x1), .val (.ref m1), .val (.ref b1), .val (.ref a_14)] [(.int x1), (.ref a1)])) rfl rfl (hb hby d16_77)
  have F_62 : Fld Z h_61 a1 "com/example/verbatim_replay/verbatimreplay/StoredResponse" "status" "I" (.int x1) := F_50.same W_61
  have F_64 : Fld Z h_61 a_14 "java/util/TreeMap" "modCount" "I" (.int (0 : Int32)) := F_46.other W_61 (Or.inl (Ne.symm ne_14_a1))
  have F_65 : Fld Z h_61 a_14 "java/util/TreeMap" "root" "Ljava/util/TreeMap$Entry;" (.null) := F_47.other W_61 (Or.inl (Ne.symm ne_14_a1))
  have O_66 : Old Z n0 h_61 := O_48.wr W_61 ga
  have A_67 : Exa Z h_61 a1 "com/example/verbatim_replay/verbatimreplay/StoredResponse" := A_49.wr W_61
  have F_68 : Fld Z h_61 a1 "com/example/verbatim_replay/verbatimreplay/StoredResponse" "headers" "Ljava/util/Map;" (.null) := F_51.other W_61 (Or.inr (RoadKit.slot_ne (Or.inr (hw _ (List.mem_of_getElem? (i := 153) rfl))) (Or.inr (hw _ (List.mem_of_getElem? (i := 128) rfl))) (by decide) (t := (.object "java/util/Map")) (t' := .int) (by decide) (by decide)))
  have F_69 : Fld Z h_61 a1 "com/example/verbatim_replay/verbatimreplay/StoredResponse" "body" "[B" (.null) := F_52.other W_61 (Or.inr (RoadKit.slot_ne (Or.inr (hw _ (List.mem_of_getElem? (i := 164) rfl))) (Or.inr (hw _ (List.mem_of_getElem? (i := 128) rfl))) (by decide) (t := (.array .byte)) (t' := .int) (by decide) (by decide)))
  have A_70 : Exa Z h_61 m1 "java/util/HashMap" := A_53.wr W_61
  have F_71 : Fld Z h_61 m1 "java/util/HashMap" "size" "I" (.int (0 : Int32)) := F_54.other W_61 (Or.inl nm)
  have V_72 : Arv Z h_61 b1 kc .byte nn vs (.int (0 : Int32)) := V_55.other W_61 nb
  have B_73 : Exa Z h_61 b1 "[B" := B_56.wr W_61
  have A_74 : Exa Z h_61 a_14 "java/util/TreeMap" := A_57.wr W_61
  have Z_63 : n0 ≤ h_61.size := by rw [W_61.size]; exact Z_45
  have K1_63 := Nat.le_trans K1_45 (Nat.le_of_eq W_61.size.symm)
  have K_63 : Keep h0 h_61 [a1] := K_45.wr W_61 (Or.inl (List.mem_of_getElem? (i := 0) rfl))
  have N_61 := Fr.snoc X_61 N_60 ga
  refine own_st st_61 ?_
  show own_Go p e below _ T_61 (mkF m 80 #[.val (.ref a1), .val (.int x1), .val (.ref m1), .val (.ref b1), .val (.ref a_14)] [])
  refine own_aloadN X_61 hx (hb hby d16_80) (pc' := 81) rfl rfl rfl ?_
  refine own_aload X_61 hx (hb hby d16_81) (pc' := 83) rfl rfl rfl ?_
  obtain ⟨_, _, ⟨T_75, L_75, k_75, n_75⟩, -, X_75, ⟨Lc_75, hQ_75, l_75, y_75, z_75⟩, st_75⟩ := Jvm.LawKit.callS X_61 hx (y := (⟨"java/util/Collections", "unmodifiableMap", "(Ljava/util/Map;)Ljava/util/Map;"⟩ : MethodName)) hown (mvT hZ (hw _ (List.mem_of_getElem? (i := 129) rfl))) (mvT hZ (hw _ (List.mem_of_getElem? (i := 130) rfl))) (mvT hZ (hw _ (List.mem_of_getElem? (i := 131) rfl))) (mvT hZ (hw _ (List.mem_of_getElem? (i := 132) rfl))) (by decide) (backOf (W := 1) (rm14 l Z a0 hw [] a_14 h_61 n0 Z_63 A_74 M1 M2) hZ (hw _ (List.mem_of_getElem? (i := 132) rfl)) (hw _ (List.mem_of_getElem? (i := 131) rfl)) (by decide) (by decide)) (g := (mkF m 83 #[.val (.ref a1), .val (.int x1), .val (.ref m1), .val (.ref b1), .val (.ref a_14)] [(.ref a_14), (.ref a1)])) rfl (by rw [hml]; rfl) (argsL := [(.ref a_14)]) (rest := [(.ref a1)]) (lenOf pd16_4 rfl) rfl (by show 2 * 0 + _ ≤ _; exact Nat.le_of_eq rfl) (hb hby d16_83) (fun _ _ => ⟨rfl, e_61, (by decide : 4 + 1 ≤ _), (by decide : 30 + 4 ≤ _)⟩)
  dsimp only [Pt.U, Pt.locs, Pt.cells, Pt.slots] at X_75 l_75 y_75 z_75 st_75 hQ_75
  subst l_75 y_75 z_75
  refine own_st st_75 ?_
  obtain ⟨r_75, rfl, Nq_75, Kq_75⟩ := hQ_75
  have N_75 := Fr.app N_61 Nq_75
  have F_77 : Fld Z T_75.heap a1 "com/example/verbatim_replay/verbatimreplay/StoredResponse" "status" "I" (.int x1) := F_62.keep Kq_75 nin0
  have F_78 : Fld Z T_75.heap a_14 "java/util/TreeMap" "modCount" "I" (.int (0 : Int32)) := F_64.keep Kq_75 nin0
  have F_79 : Fld Z T_75.heap a_14 "java/util/TreeMap" "root" "Ljava/util/TreeMap$Entry;" (.null) := F_65.keep Kq_75 nin0
  have O_80 : Old Z n0 T_75.heap := O_66.keep Kq_75 all0
  have A_81 : Exa Z T_75.heap a1 "com/example/verbatim_replay/verbatimreplay/StoredResponse" := A_67.keep Kq_75
  have F_82 : Fld Z T_75.heap a1 "com/example/verbatim_replay/verbatimreplay/StoredResponse" "headers" "Ljava/util/Map;" (.null) := F_68.keep Kq_75 nin0
  have F_83 : Fld Z T_75.heap a1 "com/example/verbatim_replay/verbatimreplay/StoredResponse" "body" "[B" (.null) := F_69.keep Kq_75 nin0
  have A_84 : Exa Z T_75.heap m1 "java/util/HashMap" := A_70.keep Kq_75
  have F_85 : Fld Z T_75.heap m1 "java/util/HashMap" "size" "I" (.int (0 : Int32)) := F_71.keep Kq_75 nin0
  have V_86 : Arv Z T_75.heap b1 kc .byte nn vs (.int (0 : Int32)) := V_72.keep Kq_75 nin0
  have B_87 : Exa Z T_75.heap b1 "[B" := B_73.keep Kq_75
  have A_88 : Exa Z T_75.heap a_14 "java/util/TreeMap" := A_74.keep Kq_75
  have Z_76 : n0 ≤ T_75.heap.size := Nat.le_trans Z_63 Kq_75.1
  have K1_76 := Nat.le_trans K1_63 Kq_75.1
  have K_76 : Keep h0 T_75.heap [a1] := K_63.trans Kq_75 all0
  show own_Go p e below _ T_75 (mkF m 86 #[.val (.ref a1), .val (.int x1), .val (.ref m1), .val (.ref b1), .val (.ref a_14)] [(.ref r_75), (.ref a1)])
  obtain ⟨T_89, h_89, X_89, e_89, W_89, st_89⟩ := putF X_75 hx hZ hown (host := "") (Or.inl (hw _ (List.mem_of_getElem? (i := 152) rfl))) Via.refl rfl F_82 A_81 (Or.inr ⟨(hw _ (List.mem_of_getElem? (i := 153) rfl)), rfl, hnm⟩) (hw _ (List.mem_of_getElem? (i := 60) rfl)) (ty := (.object "java/util/Map")) (by decide) rfl rfl (g := (mkF m 86 #[.val (.ref a1), .val (.int x1), .val (.ref m1), .val (.ref b1), .val (.ref a_14)] [(.ref r_75), (.ref a1)])) rfl rfl (hb hby d16_86)
  have F_90 : Fld Z h_89 a1 "com/example/verbatim_replay/verbatimreplay/StoredResponse" "headers" "Ljava/util/Map;" (.ref r_75) := F_82.same W_89
  have F_92 : Fld Z h_89 a1 "com/example/verbatim_replay/verbatimreplay/StoredResponse" "status" "I" (.int x1) := F_77.other W_89 (Or.inr (RoadKit.slot_ne (Or.inr (hw _ (List.mem_of_getElem? (i := 128) rfl))) (Or.inr (hw _ (List.mem_of_getElem? (i := 153) rfl))) (by decide) (t := .int) (t' := (.object "java/util/Map")) (by decide) (by decide)))
  have F_93 : Fld Z h_89 a_14 "java/util/TreeMap" "modCount" "I" (.int (0 : Int32)) := F_78.other W_89 (Or.inl (Ne.symm ne_14_a1))
  have F_94 : Fld Z h_89 a_14 "java/util/TreeMap" "root" "Ljava/util/TreeMap$Entry;" (.null) := F_79.other W_89 (Or.inl (Ne.symm ne_14_a1))
  have O_95 : Old Z n0 h_89 := O_80.wr W_89 ga
  have A_96 : Exa Z h_89 a1 "com/example/verbatim_replay/verbatimreplay/StoredResponse" := A_81.wr W_89
  have F_97 : Fld Z h_89 a1 "com/example/verbatim_replay/verbatimreplay/StoredResponse" "body" "[B" (.null) := F_83.other W_89 (Or.inr (RoadKit.slot_ne (Or.inr (hw _ (List.mem_of_getElem? (i := 164) rfl))) (Or.inr (hw _ (List.mem_of_getElem? (i := 153) rfl))) (by decide) (t := (.array .byte)) (t' := (.object "java/util/Map")) (by decide) (by decide)))
  have A_98 : Exa Z h_89 m1 "java/util/HashMap" := A_84.wr W_89
  have F_99 : Fld Z h_89 m1 "java/util/HashMap" "size" "I" (.int (0 : Int32)) := F_85.other W_89 (Or.inl nm)
  have V_100 : Arv Z h_89 b1 kc .byte nn vs (.int (0 : Int32)) := V_86.other W_89 nb
  have B_101 : Exa Z h_89 b1 "[B" := B_87.wr W_89
  have A_102 : Exa Z h_89 a_14 "java/util/TreeMap" := A_88.wr W_89
  have Z_91 : n0 ≤ h_89.size := by rw [W_89.size]; exact Z_76
  have K1_91 := Nat.le_trans K1_76 (Nat.le_of_eq W_89.size.symm)
  have K_91 : Keep h0 h_89 [a1] := K_76.wr W_89 (Or.inl (List.mem_of_getElem? (i := 0) rfl))
  have N_89 := Fr.snoc X_89 N_75 ga
  refine own_st st_89 ?_
  show own_Go p e below _ T_89 (mkF m 89 #[.val (.ref a1), .val (.int x1), .val (.ref m1), .val (.ref b1), .val (.ref a_14)] [])
  refine own_aloadN X_89 hx (hb hby d16_89) (pc' := 90) rfl rfl rfl ?_
  refine own_aloadN X_89 hx (hb hby d16_90) (pc' := 91) rfl rfl rfl ?_
  obtain ⟨T_103, h_103, X_103, e_103, E_103, V_103, B_103, st_103⟩ := cloneH X_89 hx hZ hown (hw _ (List.mem_of_getElem? (i := 154) rfl)) (hw _ (List.mem_of_getElem? (i := 155) rfl)) (hw _ (List.mem_of_getElem? (i := 159) rfl)) (hw _ (List.mem_of_getElem? (i := 157) rfl)) (hw _ (List.mem_of_getElem? (i := 158) rfl)) (hw _ (List.mem_of_getElem? (i := 160) rfl)) e_89 V_100.arh B_101 (g := (mkF m 91 #[.val (.ref a1), .val (.int x1), .val (.ref m1), .val (.ref b1), .val (.ref a_14)] [(.ref b1), (.ref a1)])) rfl (by rw [hml]; rfl) (rest := [(.ref a1)]) rfl (hb hby d16_91) (by decide) (W := 1) (cap := 2) (by show 2 * 0 + _ ≤ _; exact Nat.le_of_eq rfl) (by decide) hcap (by decide) (by decide)
  obtain ⟨a_103, g_103⟩ : ∃ z, z = h_89.size := ⟨_, rfl⟩
  rw [← g_103] at V_103 B_103 st_103
  have ge_103 : n0 ≤ a_103 := Nat.le_trans Z_91 (Nat.le_of_eq g_103.symm)
  have nw_103 : h0.size ≤ a_103 := Nat.le_trans K_91.1 (Nat.le_of_eq g_103.symm)
  have ne_103_a1 : a1 ≠ a_103 := Nat.ne_of_lt (Nat.lt_of_lt_of_eq F_90.lt g_103.symm)
  have ne_103_a_14 : a_14 ≠ a_103 := Nat.ne_of_lt (Nat.lt_of_lt_of_eq F_93.lt g_103.symm)
  have ne_103_m1 : m1 ≠ a_103 := Nat.ne_of_lt (Nat.lt_of_lt_of_eq A_98.lt g_103.symm)
  have ne_103_b1 : b1 ≠ a_103 := Nat.ne_of_lt (Nat.lt_of_lt_of_eq V_100.lt g_103.symm)
  have F_105 : Fld Z h_103 a1 "com/example/verbatim_replay/verbatimreplay/StoredResponse" "headers" "Ljava/util/Map;" (.ref r_75) := F_90.ext E_103
  have F_106 : Fld Z h_103 a1 "com/example/verbatim_replay/verbatimreplay/StoredResponse" "status" "I" (.int x1) := F_92.ext E_103
  have F_107 : Fld Z h_103 a_14 "java/util/TreeMap" "modCount" "I" (.int (0 : Int32)) := F_93.ext E_103
  have F_108 : Fld Z h_103 a_14 "java/util/TreeMap" "root" "Ljava/util/TreeMap$Entry;" (.null) := F_94.ext E_103
  have O_109 : Old Z n0 h_103 := O_95.ext E_103
  have A_110 : Exa Z h_103 a1 "com/example/verbatim_replay/verbatimreplay/StoredResponse" := A_96.ext E_103
  have F_111 : Fld Z h_103 a1 "com/example/verbatim_replay/verbatimreplay/StoredResponse" "body" "[B" (.null) := F_97.ext E_103
  have A_112 : Exa Z h_103 m1 "java/util/HashMap" := A_98.ext E_103
  have F_113 : Fld Z h_103 m1 "java/util/HashMap" "size" "I" (.int (0 : Int32)) := F_99.ext E_103
  have V_114 : Arv Z h_103 b1 kc .byte nn vs (.int (0 : Int32)) := V_100.ext E_103
  have B_115 : Exa Z h_103 b1 "[B" := B_101.ext E_103
  have A_116 : Exa Z h_103 a_14 "java/util/TreeMap" := A_102.ext E_103
  have Z_104 : n0 ≤ h_103.size := Nat.le_trans Z_91 E_103.1
  have K1_104 := Nat.le_trans K1_91 E_103.1
  have K_104 : Keep h0 h_103 [a1] := K_91.ext E_103
  have V_117 : Arv Z h_103 a_103 kc .byte nn vs (.int (0 : Int32)) := V_103
  refine own_st st_103 ?_
  show own_Go p e below _ T_103 (mkF m 94 #[.val (.ref a1), .val (.int x1), .val (.ref m1), .val (.ref b1), .val (.ref a_14)] [(.ref a_103), (.ref a1)])
  obtain ⟨T_118, X_118, e_118, st_118⟩ := castY X_103 hx hZ hown (hw _ (List.mem_of_getElem? (i := 161) rfl)) e_103 (Ins.self B_103) (g := (mkF m 94 #[.val (.ref a1), .val (.int x1), .val (.ref m1), .val (.ref b1), .val (.ref a_14)] [(.ref a_103), (.ref a1)])) rfl rfl (hb hby d16_94)
  refine own_st st_118 ?_
  show own_Go p e below _ T_118 (mkF m 97 #[.val (.ref a1), .val (.int x1), .val (.ref m1), .val (.ref b1), .val (.ref a_14)] [(.ref a_103), (.ref a1)])
  obtain ⟨T_119, h_119, X_119, e_119, W_119, st_119⟩ := putF X_118 hx hZ hown (host := "") (Or.inl (hw _ (List.mem_of_getElem? (i := 163) rfl))) Via.refl e_118 F_111 A_110 (Or.inr ⟨(hw _ (List.mem_of_getElem? (i := 164) rfl)), rfl, hnm⟩) (hw _ (List.mem_of_getElem? (i := 60) rfl)) (ty := (.array .byte)) (by decide) rfl rfl (g := (mkF m 97 #[.val (.ref a1), .val (.int x1), .val (.ref m1), .val (.ref b1), .val (.ref a_14)] [(.ref a_103), (.ref a1)])) rfl rfl (hb hby d16_97)
  have F_120 : Fld Z h_119 a1 "com/example/verbatim_replay/verbatimreplay/StoredResponse" "body" "[B" (.ref a_103) := F_111.same W_119
  have F_122 : Fld Z h_119 a1 "com/example/verbatim_replay/verbatimreplay/StoredResponse" "headers" "Ljava/util/Map;" (.ref r_75) := F_105.other W_119 (Or.inr (RoadKit.slot_ne (Or.inr (hw _ (List.mem_of_getElem? (i := 153) rfl))) (Or.inr (hw _ (List.mem_of_getElem? (i := 164) rfl))) (by decide) (t := (.object "java/util/Map")) (t' := (.array .byte)) (by decide) (by decide)))
  have F_123 : Fld Z h_119 a1 "com/example/verbatim_replay/verbatimreplay/StoredResponse" "status" "I" (.int x1) := F_106.other W_119 (Or.inr (RoadKit.slot_ne (Or.inr (hw _ (List.mem_of_getElem? (i := 128) rfl))) (Or.inr (hw _ (List.mem_of_getElem? (i := 164) rfl))) (by decide) (t := .int) (t' := (.array .byte)) (by decide) (by decide)))
  have F_124 : Fld Z h_119 a_14 "java/util/TreeMap" "modCount" "I" (.int (0 : Int32)) := F_107.other W_119 (Or.inl (Ne.symm ne_14_a1))
  have F_125 : Fld Z h_119 a_14 "java/util/TreeMap" "root" "Ljava/util/TreeMap$Entry;" (.null) := F_108.other W_119 (Or.inl (Ne.symm ne_14_a1))
  have O_126 : Old Z n0 h_119 := O_109.wr W_119 ga
  have A_127 : Exa Z h_119 a1 "com/example/verbatim_replay/verbatimreplay/StoredResponse" := A_110.wr W_119
  have A_128 : Exa Z h_119 m1 "java/util/HashMap" := A_112.wr W_119
  have F_129 : Fld Z h_119 m1 "java/util/HashMap" "size" "I" (.int (0 : Int32)) := F_113.other W_119 (Or.inl nm)
  have V_130 : Arv Z h_119 b1 kc .byte nn vs (.int (0 : Int32)) := V_114.other W_119 nb
  have B_131 : Exa Z h_119 b1 "[B" := B_115.wr W_119
  have A_132 : Exa Z h_119 a_14 "java/util/TreeMap" := A_116.wr W_119
  have V_133 : Arv Z h_119 a_103 kc .byte nn vs (.int (0 : Int32)) := V_117.other W_119 (Ne.symm ne_103_a1)
  have B_134 : Exa Z h_119 a_103 "[B" := B_103.wr W_119
  have Z_121 : n0 ≤ h_119.size := by rw [W_119.size]; exact Z_104
  have K1_121 := Nat.le_trans K1_104 (Nat.le_of_eq W_119.size.symm)
  have K_121 : Keep h0 h_119 [a1] := K_104.wr W_119 (Or.inl (List.mem_of_getElem? (i := 0) rfl))
  have N_119 := Fr.snoc X_119 N_89 ga
  refine own_st st_119 ?_
  show own_Go p e below _ T_119 (mkF m 100 #[.val (.ref a1), .val (.int x1), .val (.ref m1), .val (.ref b1), .val (.ref a_14)] [])
  refine own_retVW X_119 hS (by rw [e_119]; exact K1_121) hx hlk Bd.returns (hb hby d16_100) (by decide) (by decide) ?_
  rw [e_119]
  exact ⟨rfl, N_119, K_121⟩
theorem d17_0 : decode prog_1_method_1_code 0 = .ok (.aload_n 0, 1) := by decide +kernel
theorem d17_1 : decode prog_1_method_1_code 1 = .ok (.invokespecial 1, 3) := by decide +kernel
theorem d17_4 : decode prog_1_method_1_code 4 = .ok (.aload_n 0, 1) := by decide +kernel
theorem d17_5 : decode prog_1_method_1_code 5 = .ok (.aload_n 1, 1) := by decide +kernel
theorem d17_6 : decode prog_1_method_1_code 6 = .ok (.putfield 7, 3) := by decide +kernel
theorem d17_9 : decode prog_1_method_1_code 9 = .ok (.aload_n 0, 1) := by decide +kernel
theorem d17_10 : decode prog_1_method_1_code 10 = .ok (.aload_n 2, 1) := by decide +kernel
theorem d17_11 : decode prog_1_method_1_code 11 = .ok (.putfield 13, 3) := by decide +kernel
theorem d17_14 : decode prog_1_method_1_code 14 = .ok (.aload_n 0, 1) := by decide +kernel
theorem d17_15 : decode prog_1_method_1_code 15 = .ok (.aload_n 3, 1) := by decide +kernel
theorem d17_16 : decode prog_1_method_1_code 16 = .ok (.putfield 17, 3) := by decide +kernel
theorem d17_19 : decode prog_1_method_1_code 19 = .ok (.return_, 1) := by decide +kernel
theorem pn17 : plainFor (⟨"com/example/verbatim_replay/verbatimreplay/Claim", "<init>", "(Lcom/example/verbatim_replay/verbatimreplay/Claim$Outcome;Lcom/example/verbatim_replay/verbatimreplay/Execution;Lcom/example/verbatim_replay/verbatimreplay/StoredResponse;)V"⟩ : MethodName) = true := by first | exact plainFor_of_name (by first | (simp [plainName, overriddenIn]; done) | decide +kernel) | decide +kernel
theorem ef17 (m : MethodId) (a1 : Addr) (o1 : Addr) (r1 : Addr) : entryFrame m #[(.ref a1), (.ref o1), (.null), (.ref r1)] 4 = mkF m 0 #[.val (.ref a1), .val (.ref o1), .val (.null), .val (.ref r1)] [] := by first | (simp [entryFrame, mkF, argsToLocals, Value.category]; done) | rfl
def Q17 (Z : State) (a1 : Addr) (o1 : Addr) (r1 : Addr) (h0 : Heap) (n0 : Nat) (v : Option Value) (h : Heap) (L : List Loc) : Prop := v = none ∧ Fr n0 L ∧ Keep h0 h [a1] ∧ Fld Z h a1 "com/example/verbatim_replay/verbatimreplay/Claim" "outcome" "Lcom/example/verbatim_replay/verbatimreplay/Claim$Outcome;" (.ref o1) ∧ Fld Z h a1 "com/example/verbatim_replay/verbatimreplay/Claim" "response" "Lcom/example/verbatim_replay/verbatimreplay/StoredResponse;" (.ref r1)
set_option maxRecDepth 65536 in
set_option maxHeartbeats 40000000 in
theorem rm17 (l : Launch) (Z : State) (a0 : Array Value) (hw : ∀ d ∈ tables_1, d.before a0 Z = true) (ws : List Jvm.Cond) (a1 : Addr) (o1 : Addr) (r1 : Addr) (h0 : Heap) (n0 : Nat) (Z0 : n0 ≤ h0.size) (A_a : Exa Z h0 a1 "com/example/verbatim_replay/verbatimreplay/Claim") (F_o : Fld Z h0 a1 "com/example/verbatim_replay/verbatimreplay/Claim" "outcome" "Lcom/example/verbatim_replay/verbatimreplay/Claim$Outcome;" (.null)) (F_x : Fld Z h0 a1 "com/example/verbatim_replay/verbatimreplay/Claim" "execution" "Lcom/example/verbatim_replay/verbatimreplay/Execution;" (.null)) (F_r : Fld Z h0 a1 "com/example/verbatim_replay/verbatimreplay/Claim" "response" "Lcom/example/verbatim_replay/verbatimreplay/StoredResponse;" (.null)) (ga : n0 ≤ a1) :
    MetFree l (⟨"com/example/verbatim_replay/verbatimreplay/Claim", "<init>", "(Lcom/example/verbatim_replay/verbatimreplay/Claim$Outcome;Lcom/example/verbatim_replay/verbatimreplay/Execution;Lcom/example/verbatim_replay/verbatimreplay/StoredResponse;)V"⟩ : MethodName) (head1 (Jvm.Cond.code (⟨"com/example/verbatim_replay/verbatimreplay/Claim", "<init>", "(Lcom/example/verbatim_replay/verbatimreplay/Claim$Outcome;Lcom/example/verbatim_replay/verbatimreplay/Execution;Lcom/example/verbatim_replay/verbatimreplay/StoredResponse;)V"⟩ : MethodName) prog_1_method_1_code 4 none :: ws) ({ frames := 1, cells := 0, slots := 0, locals := 12 } : Room)) (fun a U => a = #[(.ref a1), (.ref o1), (.null), (.ref r1)] ∧ Z.Warmed39 U.vm ∧ U.heap = h0) (fun _ _ _ _ _ => True) (fun _ U o U' => ∃ v L, o = .returned v ∧ Q17 Z a1 o1 r1 h0 n0 v U'.heap L ∧ FrameEnd U o U' L ({ frames := 1, cells := 0, slots := 0, locals := 12 } : Room).cells ({ frames := 1, cells := 0, slots := 0, locals := 12 } : Room).slots) := by
  refine MetFree.of_bodySF pn17 hisR ?_
  intro p e s m args below meth c s₁ Bd hml0 hP hK
  obtain ⟨rfl, hZ, hh⟩ := hP
  have hx := Bd.exec
  have hby := Bd.bytes
  have hlk : meth.locks = false := BodyLoose.notSynchronized Bd
  have hml : c.maxLocals = 4 := hml0
  have hown : s.vm.findClass "com/example/verbatim_replay/verbatimreplay/Claim" = some m.cls := findClass_of_methodNamed Bd.named
  have hnm := (name_of_methodNamed Bd.named Bd.method).1
  have X0 : Stand p l e ({ frames := 1, cells := 0, slots := 0, locals := 12 } : Room) s m #[(.ref a1), (.ref o1), (.null), (.ref r1)] below meth c s₁ [] 0 0 := Stand.of_body Bd
  have e0 : s₁.heap = h0 := by rw [← hh, Bd.state]; rfl
  have N0 := Fr.nil n0
  have K0 : Keep h0 h0 [a1] := Keep.refl _ _
  rw [ef17 m a1 o1 r1]
  show own_Go p e below (own_End s (Q17 Z a1 o1 r1 h0 n0) ({ frames := 1, cells := 0, slots := 0, locals := 12 } : Room).cells ({ frames := 1, cells := 0, slots := 0, locals := 12 } : Room).slots) s₁ (mkF m 0 #[.val (.ref a1), .val (.ref o1), .val (.null), .val (.ref r1)] [])
  refine own_aloadN X0 hx (hb hby d17_0) (pc' := 1) rfl rfl rfl ?_
  obtain ⟨T_1, X_1, e_1, st_1⟩ := initO X0 hx hZ hown (hw _ (List.mem_of_getElem? (i := 180) rfl)) (hw _ (List.mem_of_getElem? (i := 20) rfl)) (hw _ (List.mem_of_getElem? (i := 21) rfl)) e0 (g := (mkF m 1 #[.val (.ref a1), .val (.ref o1), .val (.null), .val (.ref r1)] [(.ref a1)])) rfl (by rw [hml]; rfl) rfl (hb hby d17_1) (by decide) (W := 0) (by show 2 * 0 + _ ≤ _; exact Nat.le_of_eq rfl) (by decide)
  refine own_st st_1 ?_
  show own_Go p e below _ T_1 (mkF m 4 #[.val (.ref a1), .val (.ref o1), .val (.null), .val (.ref r1)] [])
  refine own_aloadN X_1 hx (hb hby d17_4) (pc' := 5) rfl rfl rfl ?_
  refine own_aloadN X_1 hx (hb hby d17_5) (pc' := 6) rfl rfl rfl ?_
  obtain ⟨T_2, h_2, X_2, e_2, W_2, st_2⟩ := putF X_1 hx hZ hown (host := "") (Or.inl (hw _ (List.mem_of_getElem? (i := 181) rfl))) Via.refl e_1 F_o A_a (Or.inr ⟨(hw _ (List.mem_of_getElem? (i := 182) rfl)), rfl, hnm⟩) (hw _ (List.mem_of_getElem? (i := 170) rfl)) (ty := (.object "com/example/verbatim_replay/verbatimreplay/Claim$Outcome")) (by decide) rfl rfl (g := (mkF m 6 #[.val (.ref a1), .val (.ref o1), .val (.null), .val (.ref r1)] [(.ref o1), (.ref a1)])) rfl rfl (hb hby d17_6)
  have F_3 : Fld Z h_2 a1 "com/example/verbatim_replay/verbatimreplay/Claim" "outcome" "Lcom/example/verbatim_replay/verbatimreplay/Claim$Outcome;" (.ref o1) := F_o.same W_2
  have A_5 : Exa Z h_2 a1 "com/example/verbatim_replay/verbatimreplay/Claim" := A_a.wr W_2
  have F_6 : Fld Z h_2 a1 "com/example/verbatim_replay/verbatimreplay/Claim" "execution" "Lcom/example/verbatim_replay/verbatimreplay/Execution;" (.null) := F_x.other W_2 (Or.inr (RoadKit.slot_ne (Or.inr (hw _ (List.mem_of_getElem? (i := 184) rfl))) (Or.inr (hw _ (List.mem_of_getElem? (i := 182) rfl))) (by decide) (t := (.object "com/example/verbatim_replay/verbatimreplay/Execution")) (t' := (.object "com/example/verbatim_replay/verbatimreplay/Claim$Outcome")) (by decide) (by decide)))
  have F_7 : Fld Z h_2 a1 "com/example/verbatim_replay/verbatimreplay/Claim" "response" "Lcom/example/verbatim_replay/verbatimreplay/StoredResponse;" (.null) := F_r.other W_2 (Or.inr (RoadKit.slot_ne (Or.inr (hw _ (List.mem_of_getElem? (i := 186) rfl))) (Or.inr (hw _ (List.mem_of_getElem? (i := 182) rfl))) (by decide) (t := (.object "com/example/verbatim_replay/verbatimreplay/StoredResponse")) (t' := (.object "com/example/verbatim_replay/verbatimreplay/Claim$Outcome")) (by decide) (by decide)))
  have Z_4 : n0 ≤ h_2.size := by rw [W_2.size]; exact Z0
  have K_4 : Keep h0 h_2 [a1] := K0.wr W_2 (Or.inl (List.mem_of_getElem? (i := 0) rfl))
  have N_2 := Fr.snoc X_2 N0 ga
  refine own_st st_2 ?_
  show own_Go p e below _ T_2 (mkF m 9 #[.val (.ref a1), .val (.ref o1), .val (.null), .val (.ref r1)] [])
  refine own_aloadN X_2 hx (hb hby d17_9) (pc' := 10) rfl rfl rfl ?_
  refine own_aloadN X_2 hx (hb hby d17_10) (pc' := 11) rfl rfl rfl ?_
  obtain ⟨T_8, h_8, X_8, e_8, W_8, st_8⟩ := putF X_2 hx hZ hown (host := "") (Or.inl (hw _ (List.mem_of_getElem? (i := 183) rfl))) Via.refl e_2 F_6 A_5 (Or.inr ⟨(hw _ (List.mem_of_getElem? (i := 184) rfl)), rfl, hnm⟩) (hw _ (List.mem_of_getElem? (i := 170) rfl)) (ty := (.object "com/example/verbatim_replay/verbatimreplay/Execution")) (by decide) rfl rfl (g := (mkF m 11 #[.val (.ref a1), .val (.ref o1), .val (.null), .val (.ref r1)] [(.null), (.ref a1)])) rfl rfl (hb hby d17_11)
  have F_9 : Fld Z h_8 a1 "com/example/verbatim_replay/verbatimreplay/Claim" "execution" "Lcom/example/verbatim_replay/verbatimreplay/Execution;" (.null) := F_6.same W_8
  have F_11 : Fld Z h_8 a1 "com/example/verbatim_replay/verbatimreplay/Claim" "outcome" "Lcom/example/verbatim_replay/verbatimreplay/Claim$Outcome;" (.ref o1) := F_3.other W_8 (Or.inr (RoadKit.slot_ne (Or.inr (hw _ (List.mem_of_getElem? (i := 182) rfl))) (Or.inr (hw _ (List.mem_of_getElem? (i := 184) rfl))) (by decide) (t := (.object "com/example/verbatim_replay/verbatimreplay/Claim$Outcome")) (t' := (.object "com/example/verbatim_replay/verbatimreplay/Execution")) (by decide) (by decide)))
  have A_12 : Exa Z h_8 a1 "com/example/verbatim_replay/verbatimreplay/Claim" := A_5.wr W_8
  have F_13 : Fld Z h_8 a1 "com/example/verbatim_replay/verbatimreplay/Claim" "response" "Lcom/example/verbatim_replay/verbatimreplay/StoredResponse;" (.null) := F_7.other W_8 (Or.inr (RoadKit.slot_ne (Or.inr (hw _ (List.mem_of_getElem? (i := 186) rfl))) (Or.inr (hw _ (List.mem_of_getElem? (i := 184) rfl))) (by decide) (t := (.object "com/example/verbatim_replay/verbatimreplay/StoredResponse")) (t' := (.object "com/example/verbatim_replay/verbatimreplay/Execution")) (by decide) (by decide)))
  have Z_10 : n0 ≤ h_8.size := by rw [W_8.size]; exact Z_4
  have K_10 : Keep h0 h_8 [a1] := K_4.wr W_8 (Or.inl (List.mem_of_getElem? (i := 0) rfl))
  have N_8 := Fr.snoc X_8 N_2 ga
  refine own_st st_8 ?_
  show own_Go p e below _ T_8 (mkF m 14 #[.val (.ref a1), .val (.ref o1), .val (.null), .val (.ref r1)] [])
  refine own_aloadN X_8 hx (hb hby d17_14) (pc' := 15) rfl rfl rfl ?_
  refine own_aloadN X_8 hx (hb hby d17_15) (pc' := 16) rfl rfl rfl ?_
  obtain ⟨T_14, h_14, X_14, e_14, W_14, st_14⟩ := putF X_8 hx hZ hown (host := "") (Or.inl (hw _ (List.mem_of_getElem? (i := 185) rfl))) Via.refl e_8 F_13 A_12 (Or.inr ⟨(hw _ (List.mem_of_getElem? (i := 186) rfl)), rfl, hnm⟩) (hw _ (List.mem_of_getElem? (i := 170) rfl)) (ty := (.object "com/example/verbatim_replay/verbatimreplay/StoredResponse")) (by decide) rfl rfl (g := (mkF m 16 #[.val (.ref a1), .val (.ref o1), .val (.null), .val (.ref r1)] [(.ref r1), (.ref a1)])) rfl rfl (hb hby d17_16)
  have F_15 : Fld Z h_14 a1 "com/example/verbatim_replay/verbatimreplay/Claim" "response" "Lcom/example/verbatim_replay/verbatimreplay/StoredResponse;" (.ref r1) := F_13.same W_14
  have F_17 : Fld Z h_14 a1 "com/example/verbatim_replay/verbatimreplay/Claim" "execution" "Lcom/example/verbatim_replay/verbatimreplay/Execution;" (.null) := F_9.other W_14 (Or.inr (RoadKit.slot_ne (Or.inr (hw _ (List.mem_of_getElem? (i := 184) rfl))) (Or.inr (hw _ (List.mem_of_getElem? (i := 186) rfl))) (by decide) (t := (.object "com/example/verbatim_replay/verbatimreplay/Execution")) (t' := (.object "com/example/verbatim_replay/verbatimreplay/StoredResponse")) (by decide) (by decide)))
  have F_18 : Fld Z h_14 a1 "com/example/verbatim_replay/verbatimreplay/Claim" "outcome" "Lcom/example/verbatim_replay/verbatimreplay/Claim$Outcome;" (.ref o1) := F_11.other W_14 (Or.inr (RoadKit.slot_ne (Or.inr (hw _ (List.mem_of_getElem? (i := 182) rfl))) (Or.inr (hw _ (List.mem_of_getElem? (i := 186) rfl))) (by decide) (t := (.object "com/example/verbatim_replay/verbatimreplay/Claim$Outcome")) (t' := (.object "com/example/verbatim_replay/verbatimreplay/StoredResponse")) (by decide) (by decide)))
  have A_19 : Exa Z h_14 a1 "com/example/verbatim_replay/verbatimreplay/Claim" := A_12.wr W_14
  have Z_16 : n0 ≤ h_14.size := by rw [W_14.size]; exact Z_10
  have K_16 : Keep h0 h_14 [a1] := K_10.wr W_14 (Or.inl (List.mem_of_getElem? (i := 0) rfl))
  have N_14 := Fr.snoc X_14 N_8 ga
  refine own_st st_14 ?_
  show own_Go p e below _ T_14 (mkF m 19 #[.val (.ref a1), .val (.ref o1), .val (.null), .val (.ref r1)] [])
  refine own_retV X_14 hx hlk Bd.returns (hb hby d17_19) (by decide) (by decide) ?_
  rw [e_14]
  exact ⟨rfl, N_14, K_16, F_18, F_15⟩
theorem d18_0 : decode prog_1_method_5_code 0 = .ok (.new 8, 3) := by decide +kernel
theorem d18_3 : decode prog_1_method_5_code 3 = .ok (.dup, 1) := by decide +kernel
theorem d18_4 : decode prog_1_method_5_code 4 = .ok (.getstatic 45, 3) := by decide +kernel
theorem d18_7 : decode prog_1_method_5_code 7 = .ok (.aconst_null, 1) := by decide +kernel
theorem d18_8 : decode prog_1_method_5_code 8 = .ok (.aload_n 0, 1) := by decide +kernel
theorem d18_9 : decode prog_1_method_5_code 9 = .ok (.ldc 48, 2) := by decide +kernel
theorem d18_11 : decode prog_1_method_5_code 11 = .ok (.invokestatic 27, 3) := by decide +kernel
theorem d18_14 : decode prog_1_method_5_code 14 = .ok (.checkcast 49, 3) := by decide +kernel
theorem d18_17 : decode prog_1_method_5_code 17 = .ok (.invokespecial 35, 3) := by decide +kernel
theorem d18_20 : decode prog_1_method_5_code 20 = .ok (.areturn, 1) := by decide +kernel
theorem pd18_0 : parseMethodDescriptor "(Ljava/lang/Object;Ljava/lang/String;)Ljava/lang/Object;" = some ⟨[(.object "java/lang/Object"), (.object "java/lang/String")], some (.object "java/lang/Object")⟩ := by decide +kernel
theorem pd18_1 : parseMethodDescriptor "(Lcom/example/verbatim_replay/verbatimreplay/Claim$Outcome;Lcom/example/verbatim_replay/verbatimreplay/Execution;Lcom/example/verbatim_replay/verbatimreplay/StoredResponse;)V" = some ⟨[(.object "com/example/verbatim_replay/verbatimreplay/Claim$Outcome"), (.object "com/example/verbatim_replay/verbatimreplay/Execution"), (.object "com/example/verbatim_replay/verbatimreplay/StoredResponse")], none⟩ := by decide +kernel
theorem pn18 : plainFor (⟨"com/example/verbatim_replay/verbatimreplay/Claim", "completed", "(Lcom/example/verbatim_replay/verbatimreplay/StoredResponse;)Lcom/example/verbatim_replay/verbatimreplay/Claim;"⟩ : MethodName) = true := by first | exact plainFor_of_name (by first | (simp [plainName, overriddenIn]; done) | decide +kernel) | decide +kernel
theorem ef18 (m : MethodId) (a1 : Addr) : entryFrame m #[(.ref a1)] 1 = mkF m 0 #[.val (.ref a1)] [] := by first | (simp [entryFrame, mkF, argsToLocals, Value.category]; done) | rfl
def Q18 (Z : State) (a1 : Addr) (co : Addr) (h0 : Heap) (n0 : Nat) (v : Option Value) (h : Heap) (L : List Loc) : Prop := ∃ r : Addr, v = some (.ref r) ∧ Fr n0 L ∧ Keep h0 h [] ∧ h0.size ≤ r ∧ n0 ≤ r ∧ Exa Z h r "com/example/verbatim_replay/verbatimreplay/Claim" ∧ Fld Z h r "com/example/verbatim_replay/verbatimreplay/Claim" "outcome" "Lcom/example/verbatim_replay/verbatimreplay/Claim$Outcome;" (.ref co) ∧ Fld Z h r "com/example/verbatim_replay/verbatimreplay/Claim" "response" "Lcom/example/verbatim_replay/verbatimreplay/StoredResponse;" (.ref a1)
set_option maxRecDepth 65536 in
set_option maxHeartbeats 40000000 in
theorem rm18 (l : Launch) (Z : State) (a0 : Array Value) (hw : ∀ d ∈ tables_1, d.before a0 Z = true) (ws : List Jvm.Cond) (a1 : Addr) (co : Addr) (h0 : Heap) (n0 : Nat) (Z0 : n0 ≤ h0.size) (O_a : Old Z n0 h0) (A_a : Exa Z h0 a1 "com/example/verbatim_replay/verbatimreplay/StoredResponse") (So : Sta Z Z.heap "com/example/verbatim_replay/verbatimreplay/Claim$Outcome" "COMPLETED" "Lcom/example/verbatim_replay/verbatimreplay/Claim$Outcome;" (.ref co)) :
    MetFree l (⟨"com/example/verbatim_replay/verbatimreplay/Claim", "completed", "(Lcom/example/verbatim_replay/verbatimreplay/StoredResponse;)Lcom/example/verbatim_replay/verbatimreplay/Claim;"⟩ : MethodName) (head1 (Jvm.Cond.code (⟨"com/example/verbatim_replay/verbatimreplay/Claim", "completed", "(Lcom/example/verbatim_replay/verbatimreplay/StoredResponse;)Lcom/example/verbatim_replay/verbatimreplay/Claim;"⟩ : MethodName) prog_1_method_5_code 1 (some (.object "com/example/verbatim_replay/verbatimreplay/Claim")) :: ws) ({ frames := 2, cells := 3, slots := 39, locals := 28 } : Room)) (fun a U => a = #[(.ref a1)] ∧ Z.Warmed39 U.vm ∧ U.heap = h0) (fun _ _ _ _ _ => True) (fun _ U o U' => ∃ v L, o = .returned v ∧ Q18 Z a1 co h0 n0 v U'.heap L ∧ ReturnedEndW U o U' L ({ frames := 2, cells := 3, slots := 39, locals := 28 } : Room).cells ({ frames := 2, cells := 3, slots := 39, locals := 28 } : Room).slots) := by
  refine MetFree.of_bodySF pn18 hisR ?_
  intro p e s m args below meth c s₁ Bd hml0 hP hK
  obtain ⟨rfl, hZ, hh⟩ := hP
  have hx := Bd.exec
  have hby := Bd.bytes
  have hlk : meth.locks = false := BodyLoose.notSynchronized Bd
  have hml : c.maxLocals = 1 := hml0
  have hown : s.vm.findClass "com/example/verbatim_replay/verbatimreplay/Claim" = some m.cls := findClass_of_methodNamed Bd.named
  have hnm := (name_of_methodNamed Bd.named Bd.method).1
  have X0 : Stand p l e ({ frames := 2, cells := 3, slots := 39, locals := 28 } : Room) s m #[(.ref a1)] below meth c s₁ [] 0 0 := Stand.of_body Bd
  have e0 : s₁.heap = h0 := by rw [← hh, Bd.state]; rfl
  have hS : s.Since s.vm h0.size := (State.WarmedH.refl s).since _
  have X0 : Stand p l e ({ frames := 2, cells := 3, slots := 39, locals := 28 } : Room) (s.setVm s.vm) m #[(.ref a1)] below meth c s₁ [] 0 0 := X0
  have hZ : Z.Warmed39 (s.setVm s.vm).vm := hZ
  have hown : (s.setVm s.vm).vm.findClass "com/example/verbatim_replay/verbatimreplay/Claim" = some m.cls := hown
  have own_wS : ∀ a ∈ Bundle.stringAtoms, a.before a0 Z = true := fun a ha => hw a ((by decide +kernel : ∀ a ∈ Bundle.stringAtoms, a ∈ tables_1) a ha)
  have N0 := Fr.nil n0
  have K0 : Keep h0 h0 [] := Keep.refl _ _
  rw [ef18 m a1]
  show own_Go p e below (own_EndW s (Q18 Z a1 co h0 n0) ({ frames := 2, cells := 3, slots := 39, locals := 28 } : Room).cells ({ frames := 2, cells := 3, slots := 39, locals := 28 } : Room).slots) s₁ (mkF m 0 #[.val (.ref a1)] [])
  obtain ⟨T_1, h_1, X_1, e_1, E_1, A_1, D_1, -, st_1⟩ := newO X0 hx hZ hown (hw _ (List.mem_of_getElem? (i := 169) rfl)) (hw _ (List.mem_of_getElem? (i := 170) rfl)) (hw _ (List.mem_of_getElem? (i := 167) rfl)) e0 (g := (mkF m 0 #[.val (.ref a1)] [])) rfl (hb hby d18_0) (by decide) (by decide)
  obtain ⟨a_1, g_1⟩ : ∃ z, z = h0.size := ⟨_, rfl⟩
  rw [← g_1] at A_1 D_1 st_1
  have ge_1 : n0 ≤ a_1 := Nat.le_trans Z0 (Nat.le_of_eq g_1.symm)
  have nw_1 : h0.size ≤ a_1 := Nat.le_trans K0.1 (Nat.le_of_eq g_1.symm)
  have ne_1_a1 : a1 ≠ a_1 := Nat.ne_of_lt (Nat.lt_of_lt_of_eq A_a.lt g_1.symm)
  have O_3 : Old Z n0 h_1 := O_a.ext E_1
  have A_4 : Exa Z h_1 a1 "com/example/verbatim_replay/verbatimreplay/StoredResponse" := A_a.ext E_1
  have Z_2 : n0 ≤ h_1.size := Nat.le_trans Z0 E_1.1
  have K1_2 := Nat.le_trans (Nat.le_refl _) E_1.1
  have K_2 : Keep h0 h_1 [] := K0.ext E_1
  have F_5 : Fld Z h_1 a_1 "com/example/verbatim_replay/verbatimreplay/Claim" "outcome" "Lcom/example/verbatim_replay/verbatimreplay/Claim$Outcome;" (.null) := D_1 (Or.inr (hw _ (List.mem_of_getElem? (i := 182) rfl))) (ty := (.object "com/example/verbatim_replay/verbatimreplay/Claim$Outcome")) (by decide)
  have F_6 : Fld Z h_1 a_1 "com/example/verbatim_replay/verbatimreplay/Claim" "execution" "Lcom/example/verbatim_replay/verbatimreplay/Execution;" (.null) := D_1 (Or.inr (hw _ (List.mem_of_getElem? (i := 184) rfl))) (ty := (.object "com/example/verbatim_replay/verbatimreplay/Execution")) (by decide)
  have F_7 : Fld Z h_1 a_1 "com/example/verbatim_replay/verbatimreplay/Claim" "response" "Lcom/example/verbatim_replay/verbatimreplay/StoredResponse;" (.null) := D_1 (Or.inr (hw _ (List.mem_of_getElem? (i := 186) rfl))) (ty := (.object "com/example/verbatim_replay/verbatimreplay/StoredResponse")) (by decide)
  refine own_st st_1 ?_
  show own_Go p e below _ T_1 (mkF m 3 #[.val (.ref a1)] [(.ref a_1)])
  refine own_dup X_1 hx (hb hby d18_3) (pc' := 4) rfl rfl ?_
  obtain ⟨T_8, X_8, e_8, st_8⟩ := getS2 X_1 hx hZ hown (host := "") (Or.inl (hw _ (List.mem_of_getElem? (i := 171) rfl))) Via.refl e_1 (So.ext O_3.2) (g := (mkF m 4 #[.val (.ref a1)] [(.ref a_1), (.ref a_1)])) rfl (hb hby d18_4)
  refine own_st st_8 ?_
  show own_Go p e below _ T_8 (mkF m 7 #[.val (.ref a1)] [(.ref co), (.ref a_1), (.ref a_1)])
  refine own_null X_8 hx (hb hby d18_7) (pc' := 8) rfl ?_
  refine own_aloadN X_8 hx (hb hby d18_8) (pc' := 9) rfl rfl rfl ?_
  obtain ⟨la_9, T_9, h_9, kn_9, X_9, e_9, E_9, hS, hkn_9, hZ, hown, st_9⟩ := ldcS X_8 hx hZ hown (hw _ (List.mem_of_getElem? (i := 174) rfl)) own_wS e_8 hS K1_2 (g := (mkF m 9 #[.val (.ref a1)] [(.ref a1), (.null), (.ref co), (.ref a_1), (.ref a_1)])) rfl (hb hby d18_9) (n := 32) (by decide) (by decide) (by decide) (by decide)
  have O_11 : Old Z n0 h_9 := O_3.ext E_9
  have A_12 : Exa Z h_9 a1 "com/example/verbatim_replay/verbatimreplay/StoredResponse" := A_4.ext E_9
  have A_13 : Exa Z h_9 a_1 "com/example/verbatim_replay/verbatimreplay/Claim" := A_1.ext E_9
  have F_14 : Fld Z h_9 a_1 "com/example/verbatim_replay/verbatimreplay/Claim" "outcome" "Lcom/example/verbatim_replay/verbatimreplay/Claim$Outcome;" (.null) := F_5.ext E_9
  have F_15 : Fld Z h_9 a_1 "com/example/verbatim_replay/verbatimreplay/Claim" "execution" "Lcom/example/verbatim_replay/verbatimreplay/Execution;" (.null) := F_6.ext E_9
  have F_16 : Fld Z h_9 a_1 "com/example/verbatim_replay/verbatimreplay/Claim" "response" "Lcom/example/verbatim_replay/verbatimreplay/StoredResponse;" (.null) := F_7.ext E_9
  have Z_10 : n0 ≤ h_9.size := Nat.le_trans Z_2 E_9.1
  have K_10 : Keep h0 h_9 [] := K_2.ext E_9
  refine own_st st_9 ?_
  show own_Go p e below _ T_9 (mkF m 11 #[.val (.ref a1)] [(.ref la_9), (.ref a1), (.null), (.ref co), (.ref a_1), (.ref a_1)])
  obtain ⟨_, _, ⟨T_17, L_17, k_17, n_17⟩, -, X_17, ⟨Lc_17, hQ_17, l_17, y_17, z_17⟩, st_17⟩ := Jvm.LawKit.callS X_9 hx (y := (⟨"java/util/Objects", "requireNonNull", "(Ljava/lang/Object;Ljava/lang/String;)Ljava/lang/Object;"⟩ : MethodName)) hown (mvT hZ (hw _ (List.mem_of_getElem? (i := 175) rfl))) (mvT hZ (hw _ (List.mem_of_getElem? (i := 73) rfl))) (mvT hZ (hw _ (List.mem_of_getElem? (i := 74) rfl))) (mvT hZ (hw _ (List.mem_of_getElem? (i := 75) rfl))) (by decide) (backOf (W := 4) (rm8 l Z a0 hw [] a1 la_9 h_9 n0 Z_10) hZ (hw _ (List.mem_of_getElem? (i := 75) rfl)) (hw _ (List.mem_of_getElem? (i := 74) rfl)) (by decide) (by decide)) (g := (mkF m 11 #[.val (.ref a1)] [(.ref la_9), (.ref a1), (.null), (.ref co), (.ref a_1), (.ref a_1)])) rfl (by rw [hml]; rfl) (argsL := [(.ref a1), (.ref la_9)]) (rest := [(.null), (.ref co), (.ref a_1), (.ref a_1)]) (lenOf pd18_0 rfl) rfl (by show 2 * 0 + _ ≤ _; exact Nat.le_of_eq rfl) (hb hby d18_11) (fun _ _ => ⟨rfl, e_9, (by decide : 3 + 0 ≤ _), (by decide : 39 + 0 ≤ _)⟩)
  dsimp only [Pt.U, Pt.locs, Pt.cells, Pt.slots] at X_17 l_17 y_17 z_17 st_17 hQ_17
  subst l_17 y_17 z_17
  refine own_st st_17 ?_
  obtain ⟨rfl, Nq_17, eq_17⟩ := hQ_17
  have N_17 := Fr.app N0 Nq_17
  show own_Go p e below _ T_17 (mkF m 14 #[.val (.ref a1)] [(.ref a1), (.null), (.ref co), (.ref a_1), (.ref a_1)])
  obtain ⟨T_18, X_18, e_18, st_18⟩ := castY X_17 hx hZ hown (hw _ (List.mem_of_getElem? (i := 176) rfl)) eq_17 (Ins.self A_12) (g := (mkF m 14 #[.val (.ref a1)] [(.ref a1), (.null), (.ref co), (.ref a_1), (.ref a_1)])) rfl rfl (hb hby d18_14)
  refine own_st st_18 ?_
  show own_Go p e below _ T_18 (mkF m 17 #[.val (.ref a1)] [(.ref a1), (.null), (.ref co), (.ref a_1), (.ref a_1)])
  obtain ⟨_, _, ⟨T_19, L_19, k_19, n_19⟩, -, X_19, ⟨Lc_19, hQ_19, l_19, y_19, z_19⟩, st_19⟩ := X_18.specialBack hx  (y := (⟨"com/example/verbatim_replay/verbatimreplay/Claim", "<init>", "(Lcom/example/verbatim_replay/verbatimreplay/Claim$Outcome;Lcom/example/verbatim_replay/verbatimreplay/Execution;Lcom/example/verbatim_replay/verbatimreplay/StoredResponse;)V"⟩ : MethodName)) rfl hown (mvT hZ (hw _ (List.mem_of_getElem? (i := 177) rfl))) (mvT hZ (hw _ (List.mem_of_getElem? (i := 178) rfl))) (mvT hZ (hw _ (List.mem_of_getElem? (i := 179) rfl))) (by decide) (backOf (W := 1) (rm17 l Z a0 hw [] a_1 co a1 h_9 n0 Z_10 A_13 F_14 F_15 F_16 ge_1) hZ (hw _ (List.mem_of_getElem? (i := 179) rfl)) (hw _ (List.mem_of_getElem? (i := 167) rfl)) (by decide) (by decide)) (g := (mkF m 17 #[.val (.ref a1)] [(.ref a1), (.null), (.ref co), (.ref a_1), (.ref a_1)])) rfl (by rw [hml]; rfl) (Steps.refl _) (a := a_1) (argsL := [(.ref co), (.null), (.ref a1)]) (rest := [(.ref a_1)]) (lenOf pd18_1 rfl) rfl (by show 2 * 0 + _ ≤ _; exact Nat.le_of_eq rfl) (hb hby d18_17) (fun _ _ => ⟨rfl, e_18, (by decide : 3 + 0 ≤ _), (by decide : 39 + 0 ≤ _)⟩)
  dsimp only [Pt.U, Pt.locs, Pt.cells, Pt.slots] at X_19 l_19 y_19 z_19 st_19 hQ_19
  subst l_19 y_19 z_19
  refine own_tr st_19 ?_
  obtain ⟨rfl, Nq_19, Kq_19, q0_19, q1_19⟩ := hQ_19
  have N_19 := Fr.app N_17 Nq_19
  have F_20 : Fld Z T_19.heap a_1 "com/example/verbatim_replay/verbatimreplay/Claim" "outcome" "Lcom/example/verbatim_replay/verbatimreplay/Claim$Outcome;" (.ref co) := q0_19
  have F_21 : Fld Z T_19.heap a_1 "com/example/verbatim_replay/verbatimreplay/Claim" "response" "Lcom/example/verbatim_replay/verbatimreplay/StoredResponse;" (.ref a1) := q1_19
  have O_23 : Old Z n0 T_19.heap := O_11.keep Kq_19 (allS ge_1 all0)
  have A_24 : Exa Z T_19.heap a1 "com/example/verbatim_replay/verbatimreplay/StoredResponse" := A_12.keep Kq_19
  have A_25 : Exa Z T_19.heap a_1 "com/example/verbatim_replay/verbatimreplay/Claim" := A_13.keep Kq_19
  have Z_22 : n0 ≤ T_19.heap.size := Nat.le_trans Z_10 Kq_19.1
  have K1_22 := Nat.le_trans hkn_9 Kq_19.1
  have K_22 : Keep h0 T_19.heap [] := K_10.trans Kq_19 (allS (Or.inr nw_1) all0)
  show own_Go p e below _ T_19 (mkF m 20 #[.val (.ref a1)] [(.ref a_1)])
  refine own_retAW X_19 hS K1_22 hx hlk Bd.returns rfl rfl (hb hby d18_20) (by decide) (by decide) ?_
  exact ⟨a_1, rfl, N_19, K_22, nw_1, ge_1, A_25, F_20, F_21⟩
theorem d19_0 : decode prog_1_method_7_code 0 = .ok (.aload_n 0, 1) := by decide +kernel
theorem d19_1 : decode prog_1_method_7_code 1 = .ok (.getfield 7, 3) := by decide +kernel
theorem d19_4 : decode prog_1_method_7_code 4 = .ok (.areturn, 1) := by decide +kernel
theorem pn19 : plainFor (⟨"com/example/verbatim_replay/verbatimreplay/Claim", "outcome", "()Lcom/example/verbatim_replay/verbatimreplay/Claim$Outcome;"⟩ : MethodName) = true := by first | exact plainFor_of_name (by first | (simp [plainName, overriddenIn]; done) | decide +kernel) | decide +kernel
theorem ef19 (m : MethodId) (a1 : Addr) : entryFrame m #[(.ref a1)] 1 = mkF m 0 #[.val (.ref a1)] [] := by first | (simp [entryFrame, mkF, argsToLocals, Value.category]; done) | rfl
def Q19 (Z : State) (a1 : Addr) (o1 : Addr) (h0 : Heap) (n0 : Nat) (v : Option Value) (h : Heap) (L : List Loc) : Prop := v = some (.ref o1) ∧ Fr n0 L ∧ h = h0
set_option maxRecDepth 65536 in
set_option maxHeartbeats 40000000 in
theorem rm19 (l : Launch) (Z : State) (a0 : Array Value) (hw : ∀ d ∈ tables_1, d.before a0 Z = true) (ws : List Jvm.Cond) (a1 : Addr) (o1 : Addr) (h0 : Heap) (n0 : Nat) (Z0 : n0 ≤ h0.size) (F_a : Fld Z h0 a1 "com/example/verbatim_replay/verbatimreplay/Claim" "outcome" "Lcom/example/verbatim_replay/verbatimreplay/Claim$Outcome;" (.ref o1)) :
    MetFree l (⟨"com/example/verbatim_replay/verbatimreplay/Claim", "outcome", "()Lcom/example/verbatim_replay/verbatimreplay/Claim$Outcome;"⟩ : MethodName) (head1 (Jvm.Cond.code (⟨"com/example/verbatim_replay/verbatimreplay/Claim", "outcome", "()Lcom/example/verbatim_replay/verbatimreplay/Claim$Outcome;"⟩ : MethodName) prog_1_method_7_code 1 (some (.object "com/example/verbatim_replay/verbatimreplay/Claim$Outcome")) :: ws) ({ frames := 0, cells := 0, slots := 0, locals := 0 } : Room)) (fun a U => a = #[(.ref a1)] ∧ Z.Warmed39 U.vm ∧ U.heap = h0) (fun _ _ _ _ _ => True) (fun _ U o U' => ∃ v L, o = .returned v ∧ Q19 Z a1 o1 h0 n0 v U'.heap L ∧ FrameEnd U o U' L ({ frames := 0, cells := 0, slots := 0, locals := 0 } : Room).cells ({ frames := 0, cells := 0, slots := 0, locals := 0 } : Room).slots) := by
  refine MetFree.of_bodySF pn19 hisR ?_
  intro p e s m args below meth c s₁ Bd hml0 hP hK
  obtain ⟨rfl, hZ, hh⟩ := hP
  have hx := Bd.exec
  have hby := Bd.bytes
  have hlk : meth.locks = false := BodyLoose.notSynchronized Bd
  have hml : c.maxLocals = 1 := hml0
  have hown : s.vm.findClass "com/example/verbatim_replay/verbatimreplay/Claim" = some m.cls := findClass_of_methodNamed Bd.named
  have hnm := (name_of_methodNamed Bd.named Bd.method).1
  have X0 : Stand p l e ({ frames := 0, cells := 0, slots := 0, locals := 0 } : Room) s m #[(.ref a1)] below meth c s₁ [] 0 0 := Stand.of_body Bd
  have e0 : s₁.heap = h0 := by rw [← hh, Bd.state]; rfl
  have N0 := Fr.nil n0
  rw [ef19 m a1]
  show own_Go p e below (own_End s (Q19 Z a1 o1 h0 n0) ({ frames := 0, cells := 0, slots := 0, locals := 0 } : Room).cells ({ frames := 0, cells := 0, slots := 0, locals := 0 } : Room).slots) s₁ (mkF m 0 #[.val (.ref a1)] [])
  refine own_aloadN X0 hx (hb hby d19_0) (pc' := 1) rfl rfl rfl ?_
  obtain ⟨T_1, X_1, e_1, st_1⟩ := getF X0 hx hZ hown (host := "") (Or.inl (hw _ (List.mem_of_getElem? (i := 181) rfl))) Via.refl e0 F_a (g := (mkF m 1 #[.val (.ref a1)] [(.ref a1)])) rfl rfl (hb hby d19_1)
  refine own_st st_1 ?_
  show own_Go p e below _ T_1 (mkF m 4 #[.val (.ref a1)] [(.ref o1)])
  refine own_retA X_1 hx hlk Bd.returns rfl rfl (hb hby d19_4) (by decide) (by decide) ?_
  rw [e_1]
  exact ⟨rfl, N0, rfl⟩
theorem d20_0 : decode prog_1_method_9_code 0 = .ok (.aload_n 0, 1) := by decide +kernel
theorem d20_1 : decode prog_1_method_9_code 1 = .ok (.getfield 17, 3) := by decide +kernel
theorem d20_4 : decode prog_1_method_9_code 4 = .ok (.ifnonnull 23, 3) := by decide +kernel
theorem d20_27 : decode prog_1_method_9_code 27 = .ok (.aload_n 0, 1) := by decide +kernel
theorem d20_28 : decode prog_1_method_9_code 28 = .ok (.getfield 17, 3) := by decide +kernel
theorem d20_31 : decode prog_1_method_9_code 31 = .ok (.areturn, 1) := by decide +kernel
theorem pn20 : plainFor (⟨"com/example/verbatim_replay/verbatimreplay/Claim", "response", "()Lcom/example/verbatim_replay/verbatimreplay/StoredResponse;"⟩ : MethodName) = true := by first | exact plainFor_of_name (by first | (simp [plainName, overriddenIn]; done) | decide +kernel) | decide +kernel
theorem ef20 (m : MethodId) (a1 : Addr) : entryFrame m #[(.ref a1)] 1 = mkF m 0 #[.val (.ref a1)] [] := by first | (simp [entryFrame, mkF, argsToLocals, Value.category]; done) | rfl
def Q20 (Z : State) (a1 : Addr) (r1 : Addr) (h0 : Heap) (n0 : Nat) (v : Option Value) (h : Heap) (L : List Loc) : Prop := v = some (.ref r1) ∧ Fr n0 L ∧ h = h0
set_option maxRecDepth 65536 in
set_option maxHeartbeats 40000000 in
theorem rm20 (l : Launch) (Z : State) (a0 : Array Value) (hw : ∀ d ∈ tables_1, d.before a0 Z = true) (ws : List Jvm.Cond) (a1 : Addr) (r1 : Addr) (h0 : Heap) (n0 : Nat) (Z0 : n0 ≤ h0.size) (F_a : Fld Z h0 a1 "com/example/verbatim_replay/verbatimreplay/Claim" "response" "Lcom/example/verbatim_replay/verbatimreplay/StoredResponse;" (.ref r1)) :
    MetFree l (⟨"com/example/verbatim_replay/verbatimreplay/Claim", "response", "()Lcom/example/verbatim_replay/verbatimreplay/StoredResponse;"⟩ : MethodName) (head1 (Jvm.Cond.code (⟨"com/example/verbatim_replay/verbatimreplay/Claim", "response", "()Lcom/example/verbatim_replay/verbatimreplay/StoredResponse;"⟩ : MethodName) prog_1_method_9_code 1 (some (.object "com/example/verbatim_replay/verbatimreplay/StoredResponse")) :: ws) ({ frames := 0, cells := 0, slots := 0, locals := 0 } : Room)) (fun a U => a = #[(.ref a1)] ∧ Z.Warmed39 U.vm ∧ U.heap = h0) (fun _ _ _ _ _ => True) (fun _ U o U' => ∃ v L, o = .returned v ∧ Q20 Z a1 r1 h0 n0 v U'.heap L ∧ FrameEnd U o U' L ({ frames := 0, cells := 0, slots := 0, locals := 0 } : Room).cells ({ frames := 0, cells := 0, slots := 0, locals := 0 } : Room).slots) := by
  refine MetFree.of_bodySF pn20 hisR ?_
  intro p e s m args below meth c s₁ Bd hml0 hP hK
  obtain ⟨rfl, hZ, hh⟩ := hP
  have hx := Bd.exec
  have hby := Bd.bytes
  have hlk : meth.locks = false := BodyLoose.notSynchronized Bd
  have hml : c.maxLocals = 1 := hml0
  have hown : s.vm.findClass "com/example/verbatim_replay/verbatimreplay/Claim" = some m.cls := findClass_of_methodNamed Bd.named
  have hnm := (name_of_methodNamed Bd.named Bd.method).1
  have X0 : Stand p l e ({ frames := 0, cells := 0, slots := 0, locals := 0 } : Room) s m #[(.ref a1)] below meth c s₁ [] 0 0 := Stand.of_body Bd
  have e0 : s₁.heap = h0 := by rw [← hh, Bd.state]; rfl
  have N0 := Fr.nil n0
  rw [ef20 m a1]
  show own_Go p e below (own_End s (Q20 Z a1 r1 h0 n0) ({ frames := 0, cells := 0, slots := 0, locals := 0 } : Room).cells ({ frames := 0, cells := 0, slots := 0, locals := 0 } : Room).slots) s₁ (mkF m 0 #[.val (.ref a1)] [])
  refine own_aloadN X0 hx (hb hby d20_0) (pc' := 1) rfl rfl rfl ?_
  obtain ⟨T_1, X_1, e_1, st_1⟩ := getF X0 hx hZ hown (host := "") (Or.inl (hw _ (List.mem_of_getElem? (i := 185) rfl))) Via.refl e0 F_a (g := (mkF m 1 #[.val (.ref a1)] [(.ref a1)])) rfl rfl (hb hby d20_1)
  refine own_st st_1 ?_
  show own_Go p e below _ T_1 (mkF m 4 #[.val (.ref a1)] [(.ref r1)])
  refine own_ifnonnullY X_1 hx (hb hby d20_4) (pc' := 27) (by decide) (by decide) ?_
  refine own_aloadN X_1 hx (hb hby d20_27) (pc' := 28) rfl rfl rfl ?_
  obtain ⟨T_2, X_2, e_2, st_2⟩ := getF X_1 hx hZ hown (host := "") (Or.inl (hw _ (List.mem_of_getElem? (i := 185) rfl))) Via.refl e_1 F_a (g := (mkF m 28 #[.val (.ref a1)] [(.ref a1)])) rfl rfl (hb hby d20_28)
  refine own_st st_2 ?_
  show own_Go p e below _ T_2 (mkF m 31 #[.val (.ref a1)] [(.ref r1)])
  refine own_retA X_2 hx hlk Bd.returns rfl rfl (hb hby d20_31) (by decide) (by decide) ?_
  rw [e_2]
  exact ⟨rfl, N0, rfl⟩
theorem pd0_0 : parseMethodDescriptor "()V" = some ⟨[], none⟩ := by decide +kernel
theorem pd0_1 : parseMethodDescriptor "(Ljava/util/List;Ljava/util/List;)Ljava/util/Map;" = some ⟨[(.object "java/util/List"), (.object "java/util/List")], some (.object "java/util/Map")⟩ := by decide +kernel
theorem pd0_2 : parseMethodDescriptor "(ILjava/util/Map;[B)V" = some ⟨[.int, (.object "java/util/Map"), (.array .byte)], none⟩ := by decide +kernel
theorem pd0_3 : parseMethodDescriptor "(Lcom/example/verbatim_replay/verbatimreplay/StoredResponse;)Lcom/example/verbatim_replay/verbatimreplay/Claim;" = some ⟨[(.object "com/example/verbatim_replay/verbatimreplay/StoredResponse")], some (.object "com/example/verbatim_replay/verbatimreplay/Claim")⟩ := by decide +kernel
theorem pd0_4 : parseMethodDescriptor "()Lcom/example/verbatim_replay/verbatimreplay/Claim$Outcome;" = some ⟨[], some (.object "com/example/verbatim_replay/verbatimreplay/Claim$Outcome")⟩ := by decide +kernel
theorem pd0_5 : parseMethodDescriptor "()Lcom/example/verbatim_replay/verbatimreplay/StoredResponse;" = some ⟨[], some (.object "com/example/verbatim_replay/verbatimreplay/StoredResponse")⟩ := by decide +kernel
theorem pn0 : plainFor x = true := by first | exact plainFor_of_name (by first | (simp [plainName, overriddenIn]; done) | decide +kernel) | decide +kernel
theorem ef0 (m : MethodId) (x0 : Int32) (x1 : Int32) (x2 : Int32) : entryFrame m #[(.int x0), (.int x1), (.int x2)] maxLocals = mkF m 0 #[.val (.int x0), .val (.int x1), .val (.int x2), .unset, .unset, .unset, .unset, .unset, .unset, .unset, .unset, .unset] [] := by first | (simp [entryFrame, mkF, argsToLocals, Value.category, maxLocals]; done) | rfl
def Q0 (Z : State) (x0 : Int32) (x1 : Int32) (x2 : Int32) (da : Addr) (ca : Addr) (co : Addr) (h0 : Heap) (n0 : Nat) (v : Option Value) (h : Heap) (L : List Loc) : Prop := v = some (.int 1) ∧ Fr n0 L
set_option maxRecDepth 65536 in
set_option maxHeartbeats 40000000 in
theorem rm0 (l : Launch) (Z : State) (a0 : Array Value) (hw : ∀ d ∈ tables_1, d.before a0 Z = true) (ws : List Jvm.Cond) (x0 : Int32) (x1 : Int32) (x2 : Int32) (da : Addr) (ca : Addr) (co : Addr) (h0 : Heap) (n0 : Nat) (Z0 : n0 ≤ h0.size) (O_a : Old Z n0 h0) (Sd : Sta Z Z.heap "java/util/ArrayList" "DEFAULTCAPACITY_EMPTY_ELEMENTDATA" "[Ljava/lang/Object;" (.ref da)) (Sc : Sta Z Z.heap "java/lang/String" "CASE_INSENSITIVE_ORDER" "Ljava/util/Comparator;" (.ref ca)) (So : Sta Z Z.heap "com/example/verbatim_replay/verbatimreplay/Claim$Outcome" "COMPLETED" "Lcom/example/verbatim_replay/verbatimreplay/Claim$Outcome;" (.ref co)) (M1 : own_Mir Z "java/util/TreeMap") (M2 : own_Mir Z "java/util/Collections$UnmodifiableMap") :
    MetFree l x (head1 (Jvm.Cond.code x code maxLocals ret :: ws) room_1) (fun a U => a = #[(.int x0), (.int x1), (.int x2)] ∧ Z.Warmed39 U.vm ∧ U.heap = h0) (fun _ _ _ _ _ => True) (fun _ U o U' => ∃ v L, o = .returned v ∧ Q0 Z x0 x1 x2 da ca co h0 n0 v U'.heap L ∧ ReturnedEndW U o U' L 25 173) := by
  refine MetFree.of_bodySF pn0 hisR ?_
  intro p e s m args below meth c s₁ Bd hml0 hP hK
  obtain ⟨rfl, hZ, hh⟩ := hP
  have hx := Bd.exec
  have hby := Bd.bytes
  have hlk : meth.locks = false := BodyLoose.notSynchronized Bd
  have hml : c.maxLocals = 12 := hml0
  have hown : s.vm.findClass "com/example/verbatim_replay/verbatimreplay/ClaimCompletedPinLaw" = some m.cls := findClass_of_methodNamed Bd.named
  have hnm := (name_of_methodNamed Bd.named Bd.method).1
  have X0 : Stand p l e room_1 s m #[(.int x0), (.int x1), (.int x2)] below meth c s₁ [] 0 0 := Stand.of_body Bd
  have e0 : s₁.heap = h0 := by rw [← hh, Bd.state]; rfl
  have hS : s.Since s.vm h0.size := (State.WarmedH.refl s).since _
  have X0 : Stand p l e room_1 (s.setVm s.vm) m #[(.int x0), (.int x1), (.int x2)] below meth c s₁ [] 0 0 := X0
  have hZ : Z.Warmed39 (s.setVm s.vm).vm := hZ
  have hown : (s.setVm s.vm).vm.findClass "com/example/verbatim_replay/verbatimreplay/ClaimCompletedPinLaw" = some m.cls := hown
  have own_wS : ∀ a ∈ Bundle.stringAtoms, a.before a0 Z = true := fun a ha => hw a ((by decide +kernel : ∀ a ∈ Bundle.stringAtoms, a ∈ tables_1) a ha)
  have N0 := Fr.nil n0
  rw [ef0 m x0 x1 x2]
  show own_Go p e below (own_EndW s (Q0 Z x0 x1 x2 da ca co h0 n0) 25 173) s₁ (mkF m 0 #[.val (.int x0), .val (.int x1), .val (.int x2), .unset, .unset, .unset, .unset, .unset, .unset, .unset, .unset, .unset] [])
  refine own_bipush X0 hx (100) (hb hby at_0) (pc' := 2) rfl (by decide) ?_
  refine own_iloadN X0 hx (hb hby at_2) (pc' := 3) rfl rfl ?_
  refine own_ldcI X0 hx hown (mvT hZ (hw _ (List.mem_of_getElem? (i := 0) rfl))) (hb hby at_3) (pc' := 5) rfl ?_
  refine own_iand X0 hx (hb hby at_5) (pc' := 6) rfl ?_
  refine own_sipush X0 hx (500) (hb hby at_6) (pc' := 9) rfl (by decide) ?_
  refine own_irem X0 hx (hb hby at_9) (pc' := 10) rfl (by decide) ?_
  refine own_iadd X0 hx (hb hby at_10) (pc' := 11) rfl ?_
  refine own_istoreN X0 hx (hb hby at_11) (pc' := 12) (Ls' := #[.val (.int x0), .val (.int x1), .val (.int x2), .val (.int ((100 : Int32) + ((x0 &&& (2147483647 : Int32)) % (500 : Int32)))), .unset, .unset, .unset, .unset, .unset, .unset, .unset, .unset]) rfl rfl ?_
  refine own_bipush X0 hx (100) (hb hby at_12) (pc' := 14) rfl (by decide) ?_
  refine own_iloadN X0 hx (hb hby at_14) (pc' := 15) rfl rfl ?_
  refine own_ldcI X0 hx hown (mvT hZ (hw _ (List.mem_of_getElem? (i := 0) rfl))) (hb hby at_15) (pc' := 17) rfl ?_
  refine own_iand X0 hx (hb hby at_17) (pc' := 18) rfl ?_
  refine own_sipush X0 hx (500) (hb hby at_18) (pc' := 21) rfl (by decide) ?_
  refine own_irem X0 hx (hb hby at_21) (pc' := 22) rfl (by decide) ?_
  refine own_iadd X0 hx (hb hby at_22) (pc' := 23) rfl ?_
  refine own_istore X0 hx (hb hby at_23) (pc' := 25) (Ls' := #[.val (.int x0), .val (.int x1), .val (.int x2), .val (.int ((100 : Int32) + ((x0 &&& (2147483647 : Int32)) % (500 : Int32)))), .val (.int ((100 : Int32) + ((x1 &&& (2147483647 : Int32)) % (500 : Int32)))), .unset, .unset, .unset, .unset, .unset, .unset, .unset]) rfl rfl ?_
  obtain ⟨T_1, h_1, X_1, e_1, E_1, A_1, D_1, -, st_1⟩ := newO X0 hx hZ hown (hw _ (List.mem_of_getElem? (i := 1) rfl)) (hw _ (List.mem_of_getElem? (i := 2) rfl)) (hw _ (List.mem_of_getElem? (i := 3) rfl)) e0 (g := (mkF m 25 #[.val (.int x0), .val (.int x1), .val (.int x2), .val (.int ((100 : Int32) + ((x0 &&& (2147483647 : Int32)) % (500 : Int32)))), .val (.int ((100 : Int32) + ((x1 &&& (2147483647 : Int32)) % (500 : Int32)))), .unset, .unset, .unset, .unset, .unset, .unset, .unset] [])) rfl (hb hby at_25) (by decide) (by decide)
  obtain ⟨a_1, g_1⟩ : ∃ z, z = h0.size := ⟨_, rfl⟩
  rw [← g_1] at A_1 D_1 st_1
  have ge_1 : n0 ≤ a_1 := Nat.le_trans Z0 (Nat.le_of_eq g_1.symm)
  have O_3 : Old Z n0 h_1 := O_a.ext E_1
  have Z_2 : n0 ≤ h_1.size := Nat.le_trans Z0 E_1.1
  have K1_2 := Nat.le_trans (Nat.le_refl _) E_1.1
  have F_4 : Fld Z h_1 a_1 "java/util/AbstractList" "modCount" "I" (.int (0 : Int32)) := D_1 (Or.inl (hw _ (List.mem_of_getElem? (i := 23) rfl))) (ty := .int) (by decide)
  have F_5 : Fld Z h_1 a_1 "java/util/ArrayList" "elementData" "[Ljava/lang/Object;" (.null) := D_1 (Or.inl (hw _ (List.mem_of_getElem? (i := 26) rfl))) (ty := (.array (.object "java/lang/Object"))) (by decide)
  have F_6 : Fld Z h_1 a_1 "java/util/ArrayList" "size" "I" (.int (0 : Int32)) := D_1 (Or.inl (hw _ (List.mem_of_getElem? (i := 57) rfl))) (ty := .int) (by decide)
  refine own_st st_1 ?_
  show own_Go p e below _ T_1 (mkF m 28 #[.val (.int x0), .val (.int x1), .val (.int x2), .val (.int ((100 : Int32) + ((x0 &&& (2147483647 : Int32)) % (500 : Int32)))), .val (.int ((100 : Int32) + ((x1 &&& (2147483647 : Int32)) % (500 : Int32)))), .unset, .unset, .unset, .unset, .unset, .unset, .unset] [(.ref a_1)])
  refine own_dup X_1 hx (hb hby at_28) (pc' := 29) rfl rfl ?_
  obtain ⟨_, _, ⟨T_7, L_7, k_7, n_7⟩, -, X_7, ⟨Lc_7, hQ_7, l_7, y_7, z_7⟩, st_7⟩ := X_1.specialBack hx  (y := (⟨"java/util/ArrayList", "<init>", "()V"⟩ : MethodName)) rfl hown (mvT hZ (hw _ (List.mem_of_getElem? (i := 4) rfl))) (mvT hZ (hw _ (List.mem_of_getElem? (i := 5) rfl))) (mvT hZ (hw _ (List.mem_of_getElem? (i := 6) rfl))) (by decide) (backOf (W := 1) (rm3 l Z a0 hw [] a_1 da h_1 n0 Z_2 O_3 A_1 F_4 F_6 F_5 ge_1 Sd) hZ (hw _ (List.mem_of_getElem? (i := 6) rfl)) (hw _ (List.mem_of_getElem? (i := 3) rfl)) (by decide) (by decide)) (g := (mkF m 29 #[.val (.int x0), .val (.int x1), .val (.int x2), .val (.int ((100 : Int32) + ((x0 &&& (2147483647 : Int32)) % (500 : Int32)))), .val (.int ((100 : Int32) + ((x1 &&& (2147483647 : Int32)) % (500 : Int32)))), .unset, .unset, .unset, .unset, .unset, .unset, .unset] [(.ref a_1), (.ref a_1)])) rfl (by rw [hml]; rfl) (Steps.refl _) (a := a_1) (argsL := []) (rest := [(.ref a_1)]) (lenOf pd0_0 rfl) rfl (by show 2 * 0 + _ ≤ _; exact Nat.le_of_eq rfl) (hb hby at_29) (fun _ _ => ⟨rfl, e_1, (by decide : 1 + 0 ≤ _), (by decide : 3 + 0 ≤ _)⟩)
  dsimp only [Pt.U, Pt.locs, Pt.cells, Pt.slots] at X_7 l_7 y_7 z_7 st_7 hQ_7
  subst l_7 y_7 z_7
  refine own_tr st_7 ?_
  obtain ⟨rfl, Nq_7, Kq_7, q0_7⟩ := hQ_7
  have N_7 := Fr.app N0 Nq_7
  have F_8 : Fld Z T_7.heap a_1 "java/util/ArrayList" "size" "I" (.int (0 : Int32)) := q0_7
  have O_10 : Old Z n0 T_7.heap := O_3.keep Kq_7 (allS ge_1 all0)
  have A_11 : Exa Z T_7.heap a_1 "java/util/ArrayList" := A_1.keep Kq_7
  have Z_9 : n0 ≤ T_7.heap.size := Nat.le_trans Z_2 Kq_7.1
  have K1_9 := Nat.le_trans K1_2 Kq_7.1
  show own_Go p e below _ T_7 (mkF m 32 #[.val (.int x0), .val (.int x1), .val (.int x2), .val (.int ((100 : Int32) + ((x0 &&& (2147483647 : Int32)) % (500 : Int32)))), .val (.int ((100 : Int32) + ((x1 &&& (2147483647 : Int32)) % (500 : Int32)))), .unset, .unset, .unset, .unset, .unset, .unset, .unset] [(.ref a_1)])
  obtain ⟨T_12, h_12, X_12, e_12, E_12, A_12, D_12, -, st_12⟩ := newO X_7 hx hZ hown (hw _ (List.mem_of_getElem? (i := 1) rfl)) (hw _ (List.mem_of_getElem? (i := 2) rfl)) (hw _ (List.mem_of_getElem? (i := 3) rfl)) rfl (g := (mkF m 32 #[.val (.int x0), .val (.int x1), .val (.int x2), .val (.int ((100 : Int32) + ((x0 &&& (2147483647 : Int32)) % (500 : Int32)))), .val (.int ((100 : Int32) + ((x1 &&& (2147483647 : Int32)) % (500 : Int32)))), .unset, .unset, .unset, .unset, .unset, .unset, .unset] [(.ref a_1)])) rfl (hb hby at_32) (by decide) (by decide)
  obtain ⟨a_12, g_12⟩ : ∃ z, z = T_7.heap.size := ⟨_, rfl⟩
  rw [← g_12] at A_12 D_12 st_12
  have ge_12 : n0 ≤ a_12 := Nat.le_trans Z_9 (Nat.le_of_eq g_12.symm)
  have ne_12_a_1 : a_1 ≠ a_12 := Nat.ne_of_lt (Nat.lt_of_lt_of_eq F_8.lt g_12.symm)
  have F_14 : Fld Z h_12 a_1 "java/util/ArrayList" "size" "I" (.int (0 : Int32)) := F_8.ext E_12
  have O_15 : Old Z n0 h_12 := O_10.ext E_12
  have A_16 : Exa Z h_12 a_1 "java/util/ArrayList" := A_11.ext E_12
  have Z_13 : n0 ≤ h_12.size := Nat.le_trans Z_9 E_12.1
  have K1_13 := Nat.le_trans K1_9 E_12.1
  have F_17 : Fld Z h_12 a_12 "java/util/AbstractList" "modCount" "I" (.int (0 : Int32)) := D_12 (Or.inl (hw _ (List.mem_of_getElem? (i := 23) rfl))) (ty := .int) (by decide)
  have F_18 : Fld Z h_12 a_12 "java/util/ArrayList" "elementData" "[Ljava/lang/Object;" (.null) := D_12 (Or.inl (hw _ (List.mem_of_getElem? (i := 26) rfl))) (ty := (.array (.object "java/lang/Object"))) (by decide)
  have F_19 : Fld Z h_12 a_12 "java/util/ArrayList" "size" "I" (.int (0 : Int32)) := D_12 (Or.inl (hw _ (List.mem_of_getElem? (i := 57) rfl))) (ty := .int) (by decide)
  refine own_st st_12 ?_
  show own_Go p e below _ T_12 (mkF m 35 #[.val (.int x0), .val (.int x1), .val (.int x2), .val (.int ((100 : Int32) + ((x0 &&& (2147483647 : Int32)) % (500 : Int32)))), .val (.int ((100 : Int32) + ((x1 &&& (2147483647 : Int32)) % (500 : Int32)))), .unset, .unset, .unset, .unset, .unset, .unset, .unset] [(.ref a_12), (.ref a_1)])
  refine own_dup X_12 hx (hb hby at_35) (pc' := 36) rfl rfl ?_
  obtain ⟨_, _, ⟨T_20, L_20, k_20, n_20⟩, -, X_20, ⟨Lc_20, hQ_20, l_20, y_20, z_20⟩, st_20⟩ := X_12.specialBack hx  (y := (⟨"java/util/ArrayList", "<init>", "()V"⟩ : MethodName)) rfl hown (mvT hZ (hw _ (List.mem_of_getElem? (i := 4) rfl))) (mvT hZ (hw _ (List.mem_of_getElem? (i := 5) rfl))) (mvT hZ (hw _ (List.mem_of_getElem? (i := 6) rfl))) (by decide) (backOf (W := 2) (rm3 l Z a0 hw [] a_12 da h_12 n0 Z_13 O_15 A_12 F_17 F_19 F_18 ge_12 Sd) hZ (hw _ (List.mem_of_getElem? (i := 6) rfl)) (hw _ (List.mem_of_getElem? (i := 3) rfl)) (by decide) (by decide)) (g := (mkF m 36 #[.val (.int x0), .val (.int x1), .val (.int x2), .val (.int ((100 : Int32) + ((x0 &&& (2147483647 : Int32)) % (500 : Int32)))), .val (.int ((100 : Int32) + ((x1 &&& (2147483647 : Int32)) % (500 : Int32)))), .unset, .unset, .unset, .unset, .unset, .unset, .unset] [(.ref a_12), (.ref a_12), (.ref a_1)])) rfl (by rw [hml]; rfl) (Steps.refl _) (a := a_12) (argsL := []) (rest := [(.ref a_12), (.ref a_1)]) (lenOf pd0_0 rfl) rfl (by show 2 * 0 + _ ≤ _; exact Nat.le_of_eq rfl) (hb hby at_36) (fun _ _ => ⟨rfl, e_12, (by decide : 2 + 0 ≤ _), (by decide : 6 + 0 ≤ _)⟩)
  dsimp only [Pt.U, Pt.locs, Pt.cells, Pt.slots] at X_20 l_20 y_20 z_20 st_20 hQ_20
  subst l_20 y_20 z_20
  refine own_tr st_20 ?_
  obtain ⟨rfl, Nq_20, Kq_20, q0_20⟩ := hQ_20
  have N_20 := Fr.app N_7 Nq_20
  have F_21 : Fld Z T_20.heap a_12 "java/util/ArrayList" "size" "I" (.int (0 : Int32)) := q0_20
  have F_23 : Fld Z T_20.heap a_1 "java/util/ArrayList" "size" "I" (.int (0 : Int32)) := F_14.keep Kq_20 (ninS ne_12_a_1 nin0)
  have O_24 : Old Z n0 T_20.heap := O_15.keep Kq_20 (allS ge_12 all0)
  have A_25 : Exa Z T_20.heap a_1 "java/util/ArrayList" := A_16.keep Kq_20
  have A_26 : Exa Z T_20.heap a_12 "java/util/ArrayList" := A_12.keep Kq_20
  have Z_22 : n0 ≤ T_20.heap.size := Nat.le_trans Z_13 Kq_20.1
  have K1_22 := Nat.le_trans K1_13 Kq_20.1
  show own_Go p e below _ T_20 (mkF m 39 #[.val (.int x0), .val (.int x1), .val (.int x2), .val (.int ((100 : Int32) + ((x0 &&& (2147483647 : Int32)) % (500 : Int32)))), .val (.int ((100 : Int32) + ((x1 &&& (2147483647 : Int32)) % (500 : Int32)))), .unset, .unset, .unset, .unset, .unset, .unset, .unset] [(.ref a_12), (.ref a_1)])
  obtain ⟨_, _, ⟨T_27, L_27, k_27, n_27⟩, -, X_27, ⟨Lc_27, hQ_27, l_27, y_27, z_27⟩, st_27⟩ := Jvm.LawKit.callS X_20 hx (y := (⟨"com/example/verbatim_replay/verbatimreplay/StoredResponse", "fields", "(Ljava/util/List;Ljava/util/List;)Ljava/util/Map;"⟩ : MethodName)) hown (mvT hZ (hw _ (List.mem_of_getElem? (i := 27) rfl))) (mvT hZ (hw _ (List.mem_of_getElem? (i := 28) rfl))) (mvT hZ (hw _ (List.mem_of_getElem? (i := 29) rfl))) (mvT hZ (hw _ (List.mem_of_getElem? (i := 30) rfl))) (by decide) (backOf (W := 0) (rm15 l Z a0 hw [] a_1 a_12 T_20.heap n0 Z_22 A_25 F_23) hZ (hw _ (List.mem_of_getElem? (i := 30) rfl)) (hw _ (List.mem_of_getElem? (i := 29) rfl)) (by decide) (by decide)) (g := (mkF m 39 #[.val (.int x0), .val (.int x1), .val (.int x2), .val (.int ((100 : Int32) + ((x0 &&& (2147483647 : Int32)) % (500 : Int32)))), .val (.int ((100 : Int32) + ((x1 &&& (2147483647 : Int32)) % (500 : Int32)))), .unset, .unset, .unset, .unset, .unset, .unset, .unset] [(.ref a_12), (.ref a_1)])) rfl (by rw [hml]; rfl) (argsL := [(.ref a_1), (.ref a_12)]) (rest := []) (lenOf pd0_1 rfl) rfl (by show 2 * 0 + _ ≤ _; exact Nat.le_of_eq rfl) (hb hby at_39) (fun _ _ => ⟨rfl, rfl, (by decide : 2 + 1 ≤ _), (by decide : 6 + 8 ≤ _)⟩)
  dsimp only [Pt.U, Pt.locs, Pt.cells, Pt.slots] at X_27 l_27 y_27 z_27 st_27 hQ_27
  subst l_27 y_27 z_27
  refine own_st st_27 ?_
  obtain ⟨r_27, rfl, Nq_27, Kq_27, hn_27, gn_27, A_r27, F_r27⟩ := hQ_27
  have N_27 := Fr.app N_20 Nq_27
  have ne_27_a_12 : a_12 ≠ r_27 := Nat.ne_of_lt (Nat.lt_of_lt_of_le F_21.lt hn_27)
  have ne_27_a_1 : a_1 ≠ r_27 := Nat.ne_of_lt (Nat.lt_of_lt_of_le F_23.lt hn_27)
  have F_29 : Fld Z T_27.heap a_12 "java/util/ArrayList" "size" "I" (.int (0 : Int32)) := F_21.keep Kq_27 nin0
  have F_30 : Fld Z T_27.heap a_1 "java/util/ArrayList" "size" "I" (.int (0 : Int32)) := F_23.keep Kq_27 nin0
  have O_31 : Old Z n0 T_27.heap := O_24.keep Kq_27 all0
  have A_32 : Exa Z T_27.heap a_1 "java/util/ArrayList" := A_25.keep Kq_27
  have A_33 : Exa Z T_27.heap a_12 "java/util/ArrayList" := A_26.keep Kq_27
  have Z_28 : n0 ≤ T_27.heap.size := Nat.le_trans Z_22 Kq_27.1
  have K1_28 := Nat.le_trans K1_22 Kq_27.1
  show own_Go p e below _ T_27 (mkF m 42 #[.val (.int x0), .val (.int x1), .val (.int x2), .val (.int ((100 : Int32) + ((x0 &&& (2147483647 : Int32)) % (500 : Int32)))), .val (.int ((100 : Int32) + ((x1 &&& (2147483647 : Int32)) % (500 : Int32)))), .unset, .unset, .unset, .unset, .unset, .unset, .unset] [(.ref r_27)])
  refine own_astore X_27 hx (hb hby at_42) (pc' := 44) (Ls' := #[.val (.int x0), .val (.int x1), .val (.int x2), .val (.int ((100 : Int32) + ((x0 &&& (2147483647 : Int32)) % (500 : Int32)))), .val (.int ((100 : Int32) + ((x1 &&& (2147483647 : Int32)) % (500 : Int32)))), .val (.ref r_27), .unset, .unset, .unset, .unset, .unset, .unset]) rfl rfl rfl ?_
  refine own_iconst X_27 hx (2) (hb hby at_44) (pc' := 45) rfl rfl ?_
  obtain ⟨T_34, h_34, kc_34, X_34, e_34, E_34, A_34, B_34, st_34⟩ := newPE X_27 hx hZ (hw _ (List.mem_of_getElem? (i := 58) rfl)) rfl (g := (mkF m 45 #[.val (.int x0), .val (.int x1), .val (.int x2), .val (.int ((100 : Int32) + ((x0 &&& (2147483647 : Int32)) % (500 : Int32)))), .val (.int ((100 : Int32) + ((x1 &&& (2147483647 : Int32)) % (500 : Int32)))), .val (.ref r_27), .unset, .unset, .unset, .unset, .unset, .unset] [(.int (2 : Int32))])) rfl (hb hby at_45) rfl (by decide) (cap := 2) (by decide) (by decide) (by decide) (by decide) (ad := "[B") rfl
  obtain ⟨a_34, g_34⟩ : ∃ z, z = T_27.heap.size := ⟨_, rfl⟩
  rw [← g_34] at A_34 st_34 B_34
  have ge_34 : n0 ≤ a_34 := Nat.le_trans Z_28 (Nat.le_of_eq g_34.symm)
  have ne_34_r_27 : r_27 ≠ a_34 := Nat.ne_of_lt (Nat.lt_of_lt_of_eq A_r27.lt g_34.symm)
  have ne_34_a_12 : a_12 ≠ a_34 := Nat.ne_of_lt (Nat.lt_of_lt_of_eq F_29.lt g_34.symm)
  have ne_34_a_1 : a_1 ≠ a_34 := Nat.ne_of_lt (Nat.lt_of_lt_of_eq F_30.lt g_34.symm)
  have A_36 : Exa Z h_34 r_27 "java/util/HashMap" := A_r27.ext E_34
  have F_37 : Fld Z h_34 r_27 "java/util/HashMap" "size" "I" (.int (0 : Int32)) := F_r27.ext E_34
  have F_38 : Fld Z h_34 a_12 "java/util/ArrayList" "size" "I" (.int (0 : Int32)) := F_29.ext E_34
  have F_39 : Fld Z h_34 a_1 "java/util/ArrayList" "size" "I" (.int (0 : Int32)) := F_30.ext E_34
  have O_40 : Old Z n0 h_34 := O_31.ext E_34
  have A_41 : Exa Z h_34 a_1 "java/util/ArrayList" := A_32.ext E_34
  have A_42 : Exa Z h_34 a_12 "java/util/ArrayList" := A_33.ext E_34
  have Z_35 : n0 ≤ h_34.size := Nat.le_trans Z_28 E_34.1
  have K1_35 := Nat.le_trans K1_28 E_34.1
  have V_43 : Arv Z h_34 a_34 kc_34 .byte (2 : Int32) [(.int (0 : Int32)), (.int (0 : Int32))] (.int (0 : Int32)) := (Arv.new A_34 (by decide)).pad (pad_rep [] (.int (0 : Int32)) 2)
  refine own_st st_34 ?_
  show own_Go p e below _ T_34 (mkF m 47 #[.val (.int x0), .val (.int x1), .val (.int x2), .val (.int ((100 : Int32) + ((x0 &&& (2147483647 : Int32)) % (500 : Int32)))), .val (.int ((100 : Int32) + ((x1 &&& (2147483647 : Int32)) % (500 : Int32)))), .val (.ref r_27), .unset, .unset, .unset, .unset, .unset, .unset] [(.ref a_34)])
  refine own_dup X_34 hx (hb hby at_47) (pc' := 48) rfl rfl ?_
  refine own_iconst X_34 hx (0) (hb hby at_48) (pc' := 49) rfl rfl ?_
  refine own_iloadN X_34 hx (hb hby at_49) (pc' := 50) rfl rfl ?_
  refine own_i2b X_34 hx (hb hby at_50) (pc' := 51) rfl ?_
  obtain ⟨T_44, h_44, X_44, e_44, W_44, V_44, st_44⟩ := own_bastore X_34 hx hZ e_34 V_43 0 (x := (nar .byte x2)) (j := (0 : Int32)) (Ls := #[.val (.int x0), .val (.int x1), .val (.int x2), .val (.int ((100 : Int32) + ((x0 &&& (2147483647 : Int32)) % (500 : Int32)))), .val (.int ((100 : Int32) + ((x1 &&& (2147483647 : Int32)) % (500 : Int32)))), .val (.ref r_27), .unset, .unset, .unset, .unset, .unset, .unset]) (st := [(.ref a_34)]) ⟨by decide, by decide⟩ rfl (Nat.le_of_ble_eq_true rfl) (hb hby at_51)
  have V_45 : Arv Z h_44 a_34 kc_34 .byte (2 : Int32) [(.int (nar .byte (nar .byte x2))), (.int (0 : Int32))] (.int (0 : Int32)) := V_44
  have A_47 : Exa Z h_44 r_27 "java/util/HashMap" := A_36.wr W_44
  have F_48 : Fld Z h_44 r_27 "java/util/HashMap" "size" "I" (.int (0 : Int32)) := F_37.other W_44 (Or.inl ne_34_r_27)
  have F_49 : Fld Z h_44 a_12 "java/util/ArrayList" "size" "I" (.int (0 : Int32)) := F_38.other W_44 (Or.inl ne_34_a_12)
  have F_50 : Fld Z h_44 a_1 "java/util/ArrayList" "size" "I" (.int (0 : Int32)) := F_39.other W_44 (Or.inl ne_34_a_1)
  have O_51 : Old Z n0 h_44 := O_40.wr W_44 ge_34
  have A_52 : Exa Z h_44 a_1 "java/util/ArrayList" := A_41.wr W_44
  have A_53 : Exa Z h_44 a_12 "java/util/ArrayList" := A_42.wr W_44
  have B_54 : Exa Z h_44 a_34 "[B" := B_34.wr W_44
  have Z_46 : n0 ≤ h_44.size := by rw [W_44.size]; exact Z_35
  have K1_46 := Nat.le_trans K1_35 (Nat.le_of_eq W_44.size.symm)
  have N_44 := Fr.snoc X_44 N_27 ge_34
  refine own_st st_44 ?_
  show own_Go p e below _ T_44 (mkF m 52 #[.val (.int x0), .val (.int x1), .val (.int x2), .val (.int ((100 : Int32) + ((x0 &&& (2147483647 : Int32)) % (500 : Int32)))), .val (.int ((100 : Int32) + ((x1 &&& (2147483647 : Int32)) % (500 : Int32)))), .val (.ref r_27), .unset, .unset, .unset, .unset, .unset, .unset] [(.ref a_34)])
  refine own_dup X_44 hx (hb hby at_52) (pc' := 53) rfl rfl ?_
  refine own_iconst X_44 hx (1) (hb hby at_53) (pc' := 54) rfl rfl ?_
  refine own_iloadN X_44 hx (hb hby at_54) (pc' := 55) rfl rfl ?_
  refine own_bipush X_44 hx (8) (hb hby at_55) (pc' := 57) rfl (by decide) ?_
  refine own_ishr X_44 hx (hb hby at_57) (pc' := 58) rfl ?_
  refine own_i2b X_44 hx (hb hby at_58) (pc' := 59) rfl ?_
  obtain ⟨T_55, h_55, X_55, e_55, W_55, V_55, st_55⟩ := own_bastore X_44 hx hZ e_44 V_45 1 (x := (nar .byte (x2 >>> ((8 : Int32) &&& 31)))) (j := (1 : Int32)) (Ls := #[.val (.int x0), .val (.int x1), .val (.int x2), .val (.int ((100 : Int32) + ((x0 &&& (2147483647 : Int32)) % (500 : Int32)))), .val (.int ((100 : Int32) + ((x1 &&& (2147483647 : Int32)) % (500 : Int32)))), .val (.ref r_27), .unset, .unset, .unset, .unset, .unset, .unset]) (st := [(.ref a_34)]) ⟨by decide, by decide⟩ rfl (Nat.le_of_ble_eq_true rfl) (hb hby at_59)
  have V_56 : Arv Z h_55 a_34 kc_34 .byte (2 : Int32) [(.int (nar .byte (nar .byte x2))), (.int (nar .byte (nar .byte (x2 >>> ((8 : Int32) &&& 31)))))] (.int (0 : Int32)) := V_55
  have A_58 : Exa Z h_55 r_27 "java/util/HashMap" := A_47.wr W_55
  have F_59 : Fld Z h_55 r_27 "java/util/HashMap" "size" "I" (.int (0 : Int32)) := F_48.other W_55 (Or.inl ne_34_r_27)
  have F_60 : Fld Z h_55 a_12 "java/util/ArrayList" "size" "I" (.int (0 : Int32)) := F_49.other W_55 (Or.inl ne_34_a_12)
  have F_61 : Fld Z h_55 a_1 "java/util/ArrayList" "size" "I" (.int (0 : Int32)) := F_50.other W_55 (Or.inl ne_34_a_1)
  have O_62 : Old Z n0 h_55 := O_51.wr W_55 ge_34
  have A_63 : Exa Z h_55 a_1 "java/util/ArrayList" := A_52.wr W_55
  have A_64 : Exa Z h_55 a_12 "java/util/ArrayList" := A_53.wr W_55
  have B_65 : Exa Z h_55 a_34 "[B" := B_54.wr W_55
  have Z_57 : n0 ≤ h_55.size := by rw [W_55.size]; exact Z_46
  have K1_57 := Nat.le_trans K1_46 (Nat.le_of_eq W_55.size.symm)
  have N_55 := Fr.snoc X_55 N_44 ge_34
  refine own_st st_55 ?_
  show own_Go p e below _ T_55 (mkF m 60 #[.val (.int x0), .val (.int x1), .val (.int x2), .val (.int ((100 : Int32) + ((x0 &&& (2147483647 : Int32)) % (500 : Int32)))), .val (.int ((100 : Int32) + ((x1 &&& (2147483647 : Int32)) % (500 : Int32)))), .val (.ref r_27), .unset, .unset, .unset, .unset, .unset, .unset] [(.ref a_34)])
  refine own_astore X_55 hx (hb hby at_60) (pc' := 62) (Ls' := #[.val (.int x0), .val (.int x1), .val (.int x2), .val (.int ((100 : Int32) + ((x0 &&& (2147483647 : Int32)) % (500 : Int32)))), .val (.int ((100 : Int32) + ((x1 &&& (2147483647 : Int32)) % (500 : Int32)))), .val (.ref r_27), .val (.ref a_34), .unset, .unset, .unset, .unset, .unset]) rfl rfl rfl ?_
  refine own_iconst X_55 hx (1) (hb hby at_62) (pc' := 63) rfl rfl ?_
  obtain ⟨T_66, h_66, kc_66, X_66, e_66, E_66, A_66, B_66, st_66⟩ := newPE X_55 hx hZ (hw _ (List.mem_of_getElem? (i := 58) rfl)) e_55 (g := (mkF m 63 #[.val (.int x0), .val (.int x1), .val (.int x2), .val (.int ((100 : Int32) + ((x0 &&& (2147483647 : Int32)) % (500 : Int32)))), .val (.int ((100 : Int32) + ((x1 &&& (2147483647 : Int32)) % (500 : Int32)))), .val (.ref r_27), .val (.ref a_34), .unset, .unset, .unset, .unset, .unset] [(.int (1 : Int32))])) rfl (hb hby at_63) rfl (by decide) (cap := 1) (by decide) (by decide) (by decide) (by decide) (ad := "[B") rfl
  obtain ⟨a_66, g_66⟩ : ∃ z, z = h_55.size := ⟨_, rfl⟩
  rw [← g_66] at A_66 st_66 B_66
  have ge_66 : n0 ≤ a_66 := Nat.le_trans Z_57 (Nat.le_of_eq g_66.symm)
  have ne_66_a_34 : a_34 ≠ a_66 := Nat.ne_of_lt (Nat.lt_of_lt_of_eq V_56.lt g_66.symm)
  have ne_66_r_27 : r_27 ≠ a_66 := Nat.ne_of_lt (Nat.lt_of_lt_of_eq A_58.lt g_66.symm)
  have ne_66_a_12 : a_12 ≠ a_66 := Nat.ne_of_lt (Nat.lt_of_lt_of_eq F_60.lt g_66.symm)
  have ne_66_a_1 : a_1 ≠ a_66 := Nat.ne_of_lt (Nat.lt_of_lt_of_eq F_61.lt g_66.symm)
  have V_68 : Arv Z h_66 a_34 kc_34 .byte (2 : Int32) [(.int (nar .byte (nar .byte x2))), (.int (nar .byte (nar .byte (x2 >>> ((8 : Int32) &&& 31)))))] (.int (0 : Int32)) := V_56.ext E_66
  have A_69 : Exa Z h_66 r_27 "java/util/HashMap" := A_58.ext E_66
  have F_70 : Fld Z h_66 r_27 "java/util/HashMap" "size" "I" (.int (0 : Int32)) := F_59.ext E_66
  have F_71 : Fld Z h_66 a_12 "java/util/ArrayList" "size" "I" (.int (0 : Int32)) := F_60.ext E_66
  have F_72 : Fld Z h_66 a_1 "java/util/ArrayList" "size" "I" (.int (0 : Int32)) := F_61.ext E_66
  have O_73 : Old Z n0 h_66 := O_62.ext E_66
  have A_74 : Exa Z h_66 a_1 "java/util/ArrayList" := A_63.ext E_66
  have A_75 : Exa Z h_66 a_12 "java/util/ArrayList" := A_64.ext E_66
  have B_76 : Exa Z h_66 a_34 "[B" := B_65.ext E_66
  have Z_67 : n0 ≤ h_66.size := Nat.le_trans Z_57 E_66.1
  have K1_67 := Nat.le_trans K1_57 E_66.1
  have V_77 : Arv Z h_66 a_66 kc_66 .byte (1 : Int32) [(.int (0 : Int32))] (.int (0 : Int32)) := (Arv.new A_66 (by decide)).pad (pad_rep [] (.int (0 : Int32)) 1)
  refine own_st st_66 ?_
  show own_Go p e below _ T_66 (mkF m 65 #[.val (.int x0), .val (.int x1), .val (.int x2), .val (.int ((100 : Int32) + ((x0 &&& (2147483647 : Int32)) % (500 : Int32)))), .val (.int ((100 : Int32) + ((x1 &&& (2147483647 : Int32)) % (500 : Int32)))), .val (.ref r_27), .val (.ref a_34), .unset, .unset, .unset, .unset, .unset] [(.ref a_66)])
  refine own_dup X_66 hx (hb hby at_65) (pc' := 66) rfl rfl ?_
  refine own_iconst X_66 hx (0) (hb hby at_66) (pc' := 67) rfl rfl ?_
  refine own_iloadN X_66 hx (hb hby at_67) (pc' := 68) rfl rfl ?_
  refine own_bipush X_66 hx (16) (hb hby at_68) (pc' := 70) rfl (by decide) ?_
  refine own_ishr X_66 hx (hb hby at_70) (pc' := 71) rfl ?_
  refine own_i2b X_66 hx (hb hby at_71) (pc' := 72) rfl ?_
  obtain ⟨T_78, h_78, X_78, e_78, W_78, V_78, st_78⟩ := own_bastore X_66 hx hZ e_66 V_77 0 (x := (nar .byte (x2 >>> ((16 : Int32) &&& 31)))) (j := (0 : Int32)) (Ls := #[.val (.int x0), .val (.int x1), .val (.int x2), .val (.int ((100 : Int32) + ((x0 &&& (2147483647 : Int32)) % (500 : Int32)))), .val (.int ((100 : Int32) + ((x1 &&& (2147483647 : Int32)) % (500 : Int32)))), .val (.ref r_27), .val (.ref a_34), .unset, .unset, .unset, .unset, .unset]) (st := [(.ref a_66)]) ⟨by decide, by decide⟩ rfl (Nat.le_of_ble_eq_true rfl) (hb hby at_72)
  have V_79 : Arv Z h_78 a_66 kc_66 .byte (1 : Int32) [(.int (nar .byte (nar .byte (x2 >>> ((16 : Int32) &&& 31)))))] (.int (0 : Int32)) := V_78
  have V_81 : Arv Z h_78 a_34 kc_34 .byte (2 : Int32) [(.int (nar .byte (nar .byte x2))), (.int (nar .byte (nar .byte (x2 >>> ((8 : Int32) &&& 31)))))] (.int (0 : Int32)) := V_68.other W_78 ne_66_a_34
  have A_82 : Exa Z h_78 r_27 "java/util/HashMap" := A_69.wr W_78
  have F_83 : Fld Z h_78 r_27 "java/util/HashMap" "size" "I" (.int (0 : Int32)) := F_70.other W_78 (Or.inl ne_66_r_27)
  have F_84 : Fld Z h_78 a_12 "java/util/ArrayList" "size" "I" (.int (0 : Int32)) := F_71.other W_78 (Or.inl ne_66_a_12)
  have F_85 : Fld Z h_78 a_1 "java/util/ArrayList" "size" "I" (.int (0 : Int32)) := F_72.other W_78 (Or.inl ne_66_a_1)
  have O_86 : Old Z n0 h_78 := O_73.wr W_78 ge_66
  have A_87 : Exa Z h_78 a_1 "java/util/ArrayList" := A_74.wr W_78
  have A_88 : Exa Z h_78 a_12 "java/util/ArrayList" := A_75.wr W_78
  have B_89 : Exa Z h_78 a_34 "[B" := B_76.wr W_78
  have B_90 : Exa Z h_78 a_66 "[B" := B_66.wr W_78
  have Z_80 : n0 ≤ h_78.size := by rw [W_78.size]; exact Z_67
  have K1_80 := Nat.le_trans K1_67 (Nat.le_of_eq W_78.size.symm)
  have N_78 := Fr.snoc X_78 N_55 ge_66
  refine own_st st_78 ?_
  show own_Go p e below _ T_78 (mkF m 73 #[.val (.int x0), .val (.int x1), .val (.int x2), .val (.int ((100 : Int32) + ((x0 &&& (2147483647 : Int32)) % (500 : Int32)))), .val (.int ((100 : Int32) + ((x1 &&& (2147483647 : Int32)) % (500 : Int32)))), .val (.ref r_27), .val (.ref a_34), .unset, .unset, .unset, .unset, .unset] [(.ref a_66)])
  refine own_astore X_78 hx (hb hby at_73) (pc' := 75) (Ls' := #[.val (.int x0), .val (.int x1), .val (.int x2), .val (.int ((100 : Int32) + ((x0 &&& (2147483647 : Int32)) % (500 : Int32)))), .val (.int ((100 : Int32) + ((x1 &&& (2147483647 : Int32)) % (500 : Int32)))), .val (.ref r_27), .val (.ref a_34), .val (.ref a_66), .unset, .unset, .unset, .unset]) rfl rfl rfl ?_
  obtain ⟨T_91, h_91, X_91, e_91, E_91, A_91, D_91, -, st_91⟩ := newO X_78 hx hZ hown (hw _ (List.mem_of_getElem? (i := 59) rfl)) (hw _ (List.mem_of_getElem? (i := 60) rfl)) (hw _ (List.mem_of_getElem? (i := 29) rfl)) e_78 (g := (mkF m 75 #[.val (.int x0), .val (.int x1), .val (.int x2), .val (.int ((100 : Int32) + ((x0 &&& (2147483647 : Int32)) % (500 : Int32)))), .val (.int ((100 : Int32) + ((x1 &&& (2147483647 : Int32)) % (500 : Int32)))), .val (.ref r_27), .val (.ref a_34), .val (.ref a_66), .unset, .unset, .unset, .unset] [])) rfl (hb hby at_75) (by decide) (by decide)
  obtain ⟨a_91, g_91⟩ : ∃ z, z = h_78.size := ⟨_, rfl⟩
  rw [← g_91] at A_91 D_91 st_91
  have ge_91 : n0 ≤ a_91 := Nat.le_trans Z_80 (Nat.le_of_eq g_91.symm)
  have ne_91_a_66 : a_66 ≠ a_91 := Nat.ne_of_lt (Nat.lt_of_lt_of_eq V_79.lt g_91.symm)
  have ne_91_a_34 : a_34 ≠ a_91 := Nat.ne_of_lt (Nat.lt_of_lt_of_eq V_81.lt g_91.symm)
  have ne_91_r_27 : r_27 ≠ a_91 := Nat.ne_of_lt (Nat.lt_of_lt_of_eq A_82.lt g_91.symm)
  have ne_91_a_12 : a_12 ≠ a_91 := Nat.ne_of_lt (Nat.lt_of_lt_of_eq F_84.lt g_91.symm)
  have ne_91_a_1 : a_1 ≠ a_91 := Nat.ne_of_lt (Nat.lt_of_lt_of_eq F_85.lt g_91.symm)
  have V_93 : Arv Z h_91 a_66 kc_66 .byte (1 : Int32) [(.int (nar .byte (nar .byte (x2 >>> ((16 : Int32) &&& 31)))))] (.int (0 : Int32)) := V_79.ext E_91
  have V_94 : Arv Z h_91 a_34 kc_34 .byte (2 : Int32) [(.int (nar .byte (nar .byte x2))), (.int (nar .byte (nar .byte (x2 >>> ((8 : Int32) &&& 31)))))] (.int (0 : Int32)) := V_81.ext E_91
  have A_95 : Exa Z h_91 r_27 "java/util/HashMap" := A_82.ext E_91
  have F_96 : Fld Z h_91 r_27 "java/util/HashMap" "size" "I" (.int (0 : Int32)) := F_83.ext E_91
  have F_97 : Fld Z h_91 a_12 "java/util/ArrayList" "size" "I" (.int (0 : Int32)) := F_84.ext E_91
  have F_98 : Fld Z h_91 a_1 "java/util/ArrayList" "size" "I" (.int (0 : Int32)) := F_85.ext E_91
  have O_99 : Old Z n0 h_91 := O_86.ext E_91
  have A_100 : Exa Z h_91 a_1 "java/util/ArrayList" := A_87.ext E_91
  have A_101 : Exa Z h_91 a_12 "java/util/ArrayList" := A_88.ext E_91
  have B_102 : Exa Z h_91 a_34 "[B" := B_89.ext E_91
  have B_103 : Exa Z h_91 a_66 "[B" := B_90.ext E_91
  have Z_92 : n0 ≤ h_91.size := Nat.le_trans Z_80 E_91.1
  have K1_92 := Nat.le_trans K1_80 E_91.1
  have F_104 : Fld Z h_91 a_91 "com/example/verbatim_replay/verbatimreplay/StoredResponse" "status" "I" (.int (0 : Int32)) := D_91 (Or.inr (hw _ (List.mem_of_getElem? (i := 128) rfl))) (ty := .int) (by decide)
  have F_105 : Fld Z h_91 a_91 "com/example/verbatim_replay/verbatimreplay/StoredResponse" "headers" "Ljava/util/Map;" (.null) := D_91 (Or.inr (hw _ (List.mem_of_getElem? (i := 153) rfl))) (ty := (.object "java/util/Map")) (by decide)
  have F_106 : Fld Z h_91 a_91 "com/example/verbatim_replay/verbatimreplay/StoredResponse" "body" "[B" (.null) := D_91 (Or.inr (hw _ (List.mem_of_getElem? (i := 164) rfl))) (ty := (.array .byte)) (by decide)
  refine own_st st_91 ?_
  show own_Go p e below _ T_91 (mkF m 78 #[.val (.int x0), .val (.int x1), .val (.int x2), .val (.int ((100 : Int32) + ((x0 &&& (2147483647 : Int32)) % (500 : Int32)))), .val (.int ((100 : Int32) + ((x1 &&& (2147483647 : Int32)) % (500 : Int32)))), .val (.ref r_27), .val (.ref a_34), .val (.ref a_66), .unset, .unset, .unset, .unset] [(.ref a_91)])
  refine own_dup X_91 hx (hb hby at_78) (pc' := 79) rfl rfl ?_
  refine own_iloadN X_91 hx (hb hby at_79) (pc' := 80) rfl rfl ?_
  refine own_aload X_91 hx (hb hby at_80) (pc' := 82) rfl rfl rfl ?_
  refine own_aload X_91 hx (hb hby at_82) (pc' := 84) rfl rfl rfl ?_
  obtain ⟨_, _, ⟨T_107, L_107, k_107, n_107⟩, -, X_107, hs_107, hg_107, ⟨Lc_107, hQ_107, l_107, y_107, z_107⟩, st_107⟩ := X_91.specialBackS hx  (y := (⟨"com/example/verbatim_replay/verbatimreplay/StoredResponse", "<init>", "(ILjava/util/Map;[B)V"⟩ : MethodName)) rfl hown (mvT hZ (hw _ (List.mem_of_getElem? (i := 61) rfl))) (mvT hZ (hw _ (List.mem_of_getElem? (i := 62) rfl))) (mvT hZ (hw _ (List.mem_of_getElem? (i := 63) rfl))) (by decide) (backOfS (W := 1) (rm16 l Z a0 hw [] a_91 ((100 : Int32) + ((x0 &&& (2147483647 : Int32)) % (500 : Int32))) r_27 a_34 ca kc_34 (2 : Int32) [(.int (nar .byte (nar .byte x2))), (.int (nar .byte (nar .byte (x2 >>> ((8 : Int32) &&& 31)))))] h_91 n0 Z_92 O_99 A_91 F_104 F_105 F_106 A_95 F_96 V_94 B_102 ge_91 ne_91_r_27 ne_91_a_34 Sc M1 M2 (own_lo x0) (own_hi x0) (by decide)) hZ (hw _ (List.mem_of_getElem? (i := 63) rfl)) (hw _ (List.mem_of_getElem? (i := 29) rfl)) (by decide) (by decide)) (g := (mkF m 84 #[.val (.int x0), .val (.int x1), .val (.int x2), .val (.int ((100 : Int32) + ((x0 &&& (2147483647 : Int32)) % (500 : Int32)))), .val (.int ((100 : Int32) + ((x1 &&& (2147483647 : Int32)) % (500 : Int32)))), .val (.ref r_27), .val (.ref a_34), .val (.ref a_66), .unset, .unset, .unset, .unset] [(.ref a_34), (.ref r_27), (.int ((100 : Int32) + ((x0 &&& (2147483647 : Int32)) % (500 : Int32)))), (.ref a_91), (.ref a_91)])) rfl (by rw [hml]; rfl) (Steps.refl _) (a := a_91) (argsL := [(.int ((100 : Int32) + ((x0 &&& (2147483647 : Int32)) % (500 : Int32)))), (.ref r_27), (.ref a_34)]) (rest := [(.ref a_91)]) (lenOf pd0_2 rfl) rfl (by show 2 * 0 + _ ≤ _; exact Nat.le_of_eq rfl) (hb hby at_84) (fun _ _ => ⟨rfl, e_91, (by decide : 6 + 6 ≤ _), (by decide : 20 + 36 ≤ _)⟩)
  dsimp only [Pt.U, Pt.locs, Pt.cells, Pt.slots] at X_107 l_107 y_107 z_107 st_107 hQ_107 hs_107 hg_107
  subst l_107 y_107 z_107
  refine own_tr st_107 ?_
  obtain ⟨X_107, hS, hZ, hown⟩ := rebS hS (n1 := T_91.heap.size) (by rw [e_91]; exact K1_92) X_107 hs_107 hg_107 hZ hown
  obtain ⟨rfl, Nq_107, Kq_107⟩ := hQ_107
  have N_107 := Fr.app N_78 Nq_107
  have V_109 : Arv Z T_107.heap a_66 kc_66 .byte (1 : Int32) [(.int (nar .byte (nar .byte (x2 >>> ((16 : Int32) &&& 31)))))] (.int (0 : Int32)) := V_93.keep Kq_107 (ninS ne_91_a_66 nin0)
  have V_110 : Arv Z T_107.heap a_34 kc_34 .byte (2 : Int32) [(.int (nar .byte (nar .byte x2))), (.int (nar .byte (nar .byte (x2 >>> ((8 : Int32) &&& 31)))))] (.int (0 : Int32)) := V_94.keep Kq_107 (ninS ne_91_a_34 nin0)
  have A_111 : Exa Z T_107.heap r_27 "java/util/HashMap" := A_95.keep Kq_107
  have F_112 : Fld Z T_107.heap r_27 "java/util/HashMap" "size" "I" (.int (0 : Int32)) := F_96.keep Kq_107 (ninS ne_91_r_27 nin0)
  have F_113 : Fld Z T_107.heap a_12 "java/util/ArrayList" "size" "I" (.int (0 : Int32)) := F_97.keep Kq_107 (ninS ne_91_a_12 nin0)
  have F_114 : Fld Z T_107.heap a_1 "java/util/ArrayList" "size" "I" (.int (0 : Int32)) := F_98.keep Kq_107 (ninS ne_91_a_1 nin0)
  have O_115 : Old Z n0 T_107.heap := O_99.keep Kq_107 (allS ge_91 all0)
  have A_116 : Exa Z T_107.heap a_1 "java/util/ArrayList" := A_100.keep Kq_107
  have A_117 : Exa Z T_107.heap a_12 "java/util/ArrayList" := A_101.keep Kq_107
  have B_118 : Exa Z T_107.heap a_34 "[B" := B_102.keep Kq_107
  have B_119 : Exa Z T_107.heap a_66 "[B" := B_103.keep Kq_107
  have A_120 : Exa Z T_107.heap a_91 "com/example/verbatim_replay/verbatimreplay/StoredResponse" := A_91.keep Kq_107
  have Z_108 : n0 ≤ T_107.heap.size := Nat.le_trans Z_92 Kq_107.1
  show own_Go p e below _ T_107 (mkF m 87 #[.val (.int x0), .val (.int x1), .val (.int x2), .val (.int ((100 : Int32) + ((x0 &&& (2147483647 : Int32)) % (500 : Int32)))), .val (.int ((100 : Int32) + ((x1 &&& (2147483647 : Int32)) % (500 : Int32)))), .val (.ref r_27), .val (.ref a_34), .val (.ref a_66), .unset, .unset, .unset, .unset] [(.ref a_91)])
  refine own_astore X_107 hx (hb hby at_87) (pc' := 89) (Ls' := #[.val (.int x0), .val (.int x1), .val (.int x2), .val (.int ((100 : Int32) + ((x0 &&& (2147483647 : Int32)) % (500 : Int32)))), .val (.int ((100 : Int32) + ((x1 &&& (2147483647 : Int32)) % (500 : Int32)))), .val (.ref r_27), .val (.ref a_34), .val (.ref a_66), .val (.ref a_91), .unset, .unset, .unset]) rfl rfl rfl ?_
  obtain ⟨T_121, h_121, X_121, e_121, E_121, A_121, D_121, -, st_121⟩ := newO X_107 hx hZ hown (hw _ (List.mem_of_getElem? (i := 59) rfl)) (hw _ (List.mem_of_getElem? (i := 60) rfl)) (hw _ (List.mem_of_getElem? (i := 29) rfl)) rfl (g := (mkF m 89 #[.val (.int x0), .val (.int x1), .val (.int x2), .val (.int ((100 : Int32) + ((x0 &&& (2147483647 : Int32)) % (500 : Int32)))), .val (.int ((100 : Int32) + ((x1 &&& (2147483647 : Int32)) % (500 : Int32)))), .val (.ref r_27), .val (.ref a_34), .val (.ref a_66), .val (.ref a_91), .unset, .unset, .unset] [])) rfl (hb hby at_89) (by decide) (by decide)
  obtain ⟨a_121, g_121⟩ : ∃ z, z = T_107.heap.size := ⟨_, rfl⟩
  rw [← g_121] at A_121 D_121 st_121
  have ge_121 : n0 ≤ a_121 := Nat.le_trans Z_108 (Nat.le_of_eq g_121.symm)
  have ne_121_a_66 : a_66 ≠ a_121 := Nat.ne_of_lt (Nat.lt_of_lt_of_eq V_109.lt g_121.symm)
  have ne_121_a_34 : a_34 ≠ a_121 := Nat.ne_of_lt (Nat.lt_of_lt_of_eq V_110.lt g_121.symm)
  have ne_121_r_27 : r_27 ≠ a_121 := Nat.ne_of_lt (Nat.lt_of_lt_of_eq A_111.lt g_121.symm)
  have ne_121_a_12 : a_12 ≠ a_121 := Nat.ne_of_lt (Nat.lt_of_lt_of_eq F_113.lt g_121.symm)
  have ne_121_a_1 : a_1 ≠ a_121 := Nat.ne_of_lt (Nat.lt_of_lt_of_eq F_114.lt g_121.symm)
  have ne_121_a_91 : a_91 ≠ a_121 := Nat.ne_of_lt (Nat.lt_of_lt_of_eq A_120.lt g_121.symm)
  have V_123 : Arv Z h_121 a_66 kc_66 .byte (1 : Int32) [(.int (nar .byte (nar .byte (x2 >>> ((16 : Int32) &&& 31)))))] (.int (0 : Int32)) := V_109.ext E_121
  have V_124 : Arv Z h_121 a_34 kc_34 .byte (2 : Int32) [(.int (nar .byte (nar .byte x2))), (.int (nar .byte (nar .byte (x2 >>> ((8 : Int32) &&& 31)))))] (.int (0 : Int32)) := V_110.ext E_121
  have A_125 : Exa Z h_121 r_27 "java/util/HashMap" := A_111.ext E_121
  have F_126 : Fld Z h_121 r_27 "java/util/HashMap" "size" "I" (.int (0 : Int32)) := F_112.ext E_121
  have F_127 : Fld Z h_121 a_12 "java/util/ArrayList" "size" "I" (.int (0 : Int32)) := F_113.ext E_121
  have F_128 : Fld Z h_121 a_1 "java/util/ArrayList" "size" "I" (.int (0 : Int32)) := F_114.ext E_121
  have O_129 : Old Z n0 h_121 := O_115.ext E_121
  have A_130 : Exa Z h_121 a_1 "java/util/ArrayList" := A_116.ext E_121
  have A_131 : Exa Z h_121 a_12 "java/util/ArrayList" := A_117.ext E_121
  have B_132 : Exa Z h_121 a_34 "[B" := B_118.ext E_121
  have B_133 : Exa Z h_121 a_66 "[B" := B_119.ext E_121
  have A_134 : Exa Z h_121 a_91 "com/example/verbatim_replay/verbatimreplay/StoredResponse" := A_120.ext E_121
  have Z_122 : n0 ≤ h_121.size := Nat.le_trans Z_108 E_121.1
  have K1_122 := Nat.le_trans (Nat.le_refl _) E_121.1
  have F_135 : Fld Z h_121 a_121 "com/example/verbatim_replay/verbatimreplay/StoredResponse" "status" "I" (.int (0 : Int32)) := D_121 (Or.inr (hw _ (List.mem_of_getElem? (i := 128) rfl))) (ty := .int) (by decide)
  have F_136 : Fld Z h_121 a_121 "com/example/verbatim_replay/verbatimreplay/StoredResponse" "headers" "Ljava/util/Map;" (.null) := D_121 (Or.inr (hw _ (List.mem_of_getElem? (i := 153) rfl))) (ty := (.object "java/util/Map")) (by decide)
  have F_137 : Fld Z h_121 a_121 "com/example/verbatim_replay/verbatimreplay/StoredResponse" "body" "[B" (.null) := D_121 (Or.inr (hw _ (List.mem_of_getElem? (i := 164) rfl))) (ty := (.array .byte)) (by decide)
  refine own_st st_121 ?_
  show own_Go p e below _ T_121 (mkF m 92 #[.val (.int x0), .val (.int x1), .val (.int x2), .val (.int ((100 : Int32) + ((x0 &&& (2147483647 : Int32)) % (500 : Int32)))), .val (.int ((100 : Int32) + ((x1 &&& (2147483647 : Int32)) % (500 : Int32)))), .val (.ref r_27), .val (.ref a_34), .val (.ref a_66), .val (.ref a_91), .unset, .unset, .unset] [(.ref a_121)])
  refine own_dup X_121 hx (hb hby at_92) (pc' := 93) rfl rfl ?_
  refine own_iload X_121 hx (hb hby at_93) (pc' := 95) rfl rfl ?_
  refine own_aload X_121 hx (hb hby at_95) (pc' := 97) rfl rfl rfl ?_
  refine own_aload X_121 hx (hb hby at_97) (pc' := 99) rfl rfl rfl ?_
  obtain ⟨_, _, ⟨T_138, L_138, k_138, n_138⟩, -, X_138, hs_138, hg_138, ⟨Lc_138, hQ_138, l_138, y_138, z_138⟩, st_138⟩ := X_121.specialBackS hx  (y := (⟨"com/example/verbatim_replay/verbatimreplay/StoredResponse", "<init>", "(ILjava/util/Map;[B)V"⟩ : MethodName)) rfl hown (mvT hZ (hw _ (List.mem_of_getElem? (i := 61) rfl))) (mvT hZ (hw _ (List.mem_of_getElem? (i := 62) rfl))) (mvT hZ (hw _ (List.mem_of_getElem? (i := 63) rfl))) (by decide) (backOfS (W := 1) (rm16 l Z a0 hw [] a_121 ((100 : Int32) + ((x1 &&& (2147483647 : Int32)) % (500 : Int32))) r_27 a_66 ca kc_66 (1 : Int32) [(.int (nar .byte (nar .byte (x2 >>> ((16 : Int32) &&& 31)))))] h_121 n0 Z_122 O_129 A_121 F_135 F_136 F_137 A_125 F_126 V_123 B_133 ge_121 ne_121_r_27 ne_121_a_66 Sc M1 M2 (own_lo x1) (own_hi x1) (by decide)) hZ (hw _ (List.mem_of_getElem? (i := 63) rfl)) (hw _ (List.mem_of_getElem? (i := 29) rfl)) (by decide) (by decide)) (g := (mkF m 99 #[.val (.int x0), .val (.int x1), .val (.int x2), .val (.int ((100 : Int32) + ((x0 &&& (2147483647 : Int32)) % (500 : Int32)))), .val (.int ((100 : Int32) + ((x1 &&& (2147483647 : Int32)) % (500 : Int32)))), .val (.ref r_27), .val (.ref a_34), .val (.ref a_66), .val (.ref a_91), .unset, .unset, .unset] [(.ref a_66), (.ref r_27), (.int ((100 : Int32) + ((x1 &&& (2147483647 : Int32)) % (500 : Int32)))), (.ref a_121), (.ref a_121)])) rfl (by rw [hml]; rfl) (Steps.refl _) (a := a_121) (argsL := [(.int ((100 : Int32) + ((x1 &&& (2147483647 : Int32)) % (500 : Int32)))), (.ref r_27), (.ref a_66)]) (rest := [(.ref a_121)]) (lenOf pd0_2 rfl) rfl (by show 2 * 0 + _ ≤ _; exact Nat.le_of_eq rfl) (hb hby at_99) (fun _ _ => ⟨rfl, e_121, (by decide : 13 + 6 ≤ _), (by decide : 59 + 36 ≤ _)⟩)
  dsimp only [Pt.U, Pt.locs, Pt.cells, Pt.slots] at X_138 l_138 y_138 z_138 st_138 hQ_138 hs_138 hg_138
  subst l_138 y_138 z_138
  refine own_tr st_138 ?_
  obtain ⟨X_138, hS, hZ, hown⟩ := rebS hS (n1 := T_121.heap.size) (by rw [e_121]; exact K1_122) X_138 hs_138 hg_138 hZ hown
  obtain ⟨rfl, Nq_138, Kq_138⟩ := hQ_138
  have N_138 := Fr.app N_107 Nq_138
  have V_140 : Arv Z T_138.heap a_66 kc_66 .byte (1 : Int32) [(.int (nar .byte (nar .byte (x2 >>> ((16 : Int32) &&& 31)))))] (.int (0 : Int32)) := V_123.keep Kq_138 (ninS ne_121_a_66 nin0)
  have V_141 : Arv Z T_138.heap a_34 kc_34 .byte (2 : Int32) [(.int (nar .byte (nar .byte x2))), (.int (nar .byte (nar .byte (x2 >>> ((8 : Int32) &&& 31)))))] (.int (0 : Int32)) := V_124.keep Kq_138 (ninS ne_121_a_34 nin0)
  have A_142 : Exa Z T_138.heap r_27 "java/util/HashMap" := A_125.keep Kq_138
  have F_143 : Fld Z T_138.heap r_27 "java/util/HashMap" "size" "I" (.int (0 : Int32)) := F_126.keep Kq_138 (ninS ne_121_r_27 nin0)
  have F_144 : Fld Z T_138.heap a_12 "java/util/ArrayList" "size" "I" (.int (0 : Int32)) := F_127.keep Kq_138 (ninS ne_121_a_12 nin0)
  have F_145 : Fld Z T_138.heap a_1 "java/util/ArrayList" "size" "I" (.int (0 : Int32)) := F_128.keep Kq_138 (ninS ne_121_a_1 nin0)
  have O_146 : Old Z n0 T_138.heap := O_129.keep Kq_138 (allS ge_121 all0)
  have A_147 : Exa Z T_138.heap a_1 "java/util/ArrayList" := A_130.keep Kq_138
  have A_148 : Exa Z T_138.heap a_12 "java/util/ArrayList" := A_131.keep Kq_138
  have B_149 : Exa Z T_138.heap a_34 "[B" := B_132.keep Kq_138
  have B_150 : Exa Z T_138.heap a_66 "[B" := B_133.keep Kq_138
  have A_151 : Exa Z T_138.heap a_91 "com/example/verbatim_replay/verbatimreplay/StoredResponse" := A_134.keep Kq_138
  have A_152 : Exa Z T_138.heap a_121 "com/example/verbatim_replay/verbatimreplay/StoredResponse" := A_121.keep Kq_138
  have Z_139 : n0 ≤ T_138.heap.size := Nat.le_trans Z_122 Kq_138.1
  show own_Go p e below _ T_138 (mkF m 102 #[.val (.int x0), .val (.int x1), .val (.int x2), .val (.int ((100 : Int32) + ((x0 &&& (2147483647 : Int32)) % (500 : Int32)))), .val (.int ((100 : Int32) + ((x1 &&& (2147483647 : Int32)) % (500 : Int32)))), .val (.ref r_27), .val (.ref a_34), .val (.ref a_66), .val (.ref a_91), .unset, .unset, .unset] [(.ref a_121)])
  refine own_astore X_138 hx (hb hby at_102) (pc' := 104) (Ls' := #[.val (.int x0), .val (.int x1), .val (.int x2), .val (.int ((100 : Int32) + ((x0 &&& (2147483647 : Int32)) % (500 : Int32)))), .val (.int ((100 : Int32) + ((x1 &&& (2147483647 : Int32)) % (500 : Int32)))), .val (.ref r_27), .val (.ref a_34), .val (.ref a_66), .val (.ref a_91), .val (.ref a_121), .unset, .unset]) rfl rfl rfl ?_
  refine own_aload X_138 hx (hb hby at_104) (pc' := 106) rfl rfl rfl ?_
  obtain ⟨_, _, ⟨T_153, L_153, k_153, n_153⟩, -, X_153, hs_153, hg_153, ⟨Lc_153, hQ_153, l_153, y_153, z_153⟩, st_153⟩ := callSS X_138 hx (y := (⟨"com/example/verbatim_replay/verbatimreplay/Claim", "completed", "(Lcom/example/verbatim_replay/verbatimreplay/StoredResponse;)Lcom/example/verbatim_replay/verbatimreplay/Claim;"⟩ : MethodName)) hown (mvT hZ (hw _ (List.mem_of_getElem? (i := 165) rfl))) (mvT hZ (hw _ (List.mem_of_getElem? (i := 166) rfl))) (mvT hZ (hw _ (List.mem_of_getElem? (i := 167) rfl))) (mvT hZ (hw _ (List.mem_of_getElem? (i := 168) rfl))) (by decide) (backOfS (W := 0) (rm18 l Z a0 hw [] a_91 co T_138.heap n0 Z_139 O_146 A_151 So) hZ (hw _ (List.mem_of_getElem? (i := 168) rfl)) (hw _ (List.mem_of_getElem? (i := 167) rfl)) (by decide) (by decide)) (g := (mkF m 106 #[.val (.int x0), .val (.int x1), .val (.int x2), .val (.int ((100 : Int32) + ((x0 &&& (2147483647 : Int32)) % (500 : Int32)))), .val (.int ((100 : Int32) + ((x1 &&& (2147483647 : Int32)) % (500 : Int32)))), .val (.ref r_27), .val (.ref a_34), .val (.ref a_66), .val (.ref a_91), .val (.ref a_121), .unset, .unset] [(.ref a_91)])) rfl (by rw [hml]; rfl) (argsL := [(.ref a_91)]) (rest := []) (lenOf pd0_3 rfl) rfl (by show 2 * 0 + _ ≤ _; exact Nat.le_of_eq rfl) (hb hby at_106) (fun _ _ => ⟨rfl, rfl, (by decide : 19 + 3 ≤ _), (by decide : 95 + 39 ≤ _)⟩)
  dsimp only [Pt.U, Pt.locs, Pt.cells, Pt.slots] at X_153 l_153 y_153 z_153 st_153 hQ_153 hs_153 hg_153
  subst l_153 y_153 z_153
  refine own_tr st_153 ?_
  obtain ⟨X_153, hS, hZ, hown⟩ := rebS hS (n1 := T_138.heap.size) (Nat.le_refl _) X_153 hs_153 hg_153 hZ hown
  obtain ⟨r_153, rfl, Nq_153, Kq_153, hn_153, gn_153, A_r153, F_r153, G_r153⟩ := hQ_153
  have N_153 := Fr.app N_138 Nq_153
  have ne_153_a_66 : a_66 ≠ r_153 := Nat.ne_of_lt (Nat.lt_of_lt_of_le V_140.lt hn_153)
  have ne_153_a_34 : a_34 ≠ r_153 := Nat.ne_of_lt (Nat.lt_of_lt_of_le V_141.lt hn_153)
  have ne_153_r_27 : r_27 ≠ r_153 := Nat.ne_of_lt (Nat.lt_of_lt_of_le A_142.lt hn_153)
  have ne_153_a_12 : a_12 ≠ r_153 := Nat.ne_of_lt (Nat.lt_of_lt_of_le F_144.lt hn_153)
  have ne_153_a_1 : a_1 ≠ r_153 := Nat.ne_of_lt (Nat.lt_of_lt_of_le F_145.lt hn_153)
  have ne_153_a_91 : a_91 ≠ r_153 := Nat.ne_of_lt (Nat.lt_of_lt_of_le A_151.lt hn_153)
  have ne_153_a_121 : a_121 ≠ r_153 := Nat.ne_of_lt (Nat.lt_of_lt_of_le A_152.lt hn_153)
  have V_155 : Arv Z T_153.heap a_66 kc_66 .byte (1 : Int32) [(.int (nar .byte (nar .byte (x2 >>> ((16 : Int32) &&& 31)))))] (.int (0 : Int32)) := V_140.keep Kq_153 nin0
  have V_156 : Arv Z T_153.heap a_34 kc_34 .byte (2 : Int32) [(.int (nar .byte (nar .byte x2))), (.int (nar .byte (nar .byte (x2 >>> ((8 : Int32) &&& 31)))))] (.int (0 : Int32)) := V_141.keep Kq_153 nin0
  have A_157 : Exa Z T_153.heap r_27 "java/util/HashMap" := A_142.keep Kq_153
  have F_158 : Fld Z T_153.heap r_27 "java/util/HashMap" "size" "I" (.int (0 : Int32)) := F_143.keep Kq_153 nin0
  have F_159 : Fld Z T_153.heap a_12 "java/util/ArrayList" "size" "I" (.int (0 : Int32)) := F_144.keep Kq_153 nin0
  have F_160 : Fld Z T_153.heap a_1 "java/util/ArrayList" "size" "I" (.int (0 : Int32)) := F_145.keep Kq_153 nin0
  have O_161 : Old Z n0 T_153.heap := O_146.keep Kq_153 all0
  have A_162 : Exa Z T_153.heap a_1 "java/util/ArrayList" := A_147.keep Kq_153
  have A_163 : Exa Z T_153.heap a_12 "java/util/ArrayList" := A_148.keep Kq_153
  have B_164 : Exa Z T_153.heap a_34 "[B" := B_149.keep Kq_153
  have B_165 : Exa Z T_153.heap a_66 "[B" := B_150.keep Kq_153
  have A_166 : Exa Z T_153.heap a_91 "com/example/verbatim_replay/verbatimreplay/StoredResponse" := A_151.keep Kq_153
  have A_167 : Exa Z T_153.heap a_121 "com/example/verbatim_replay/verbatimreplay/StoredResponse" := A_152.keep Kq_153
  have Z_154 : n0 ≤ T_153.heap.size := Nat.le_trans Z_139 Kq_153.1
  show own_Go p e below _ T_153 (mkF m 109 #[.val (.int x0), .val (.int x1), .val (.int x2), .val (.int ((100 : Int32) + ((x0 &&& (2147483647 : Int32)) % (500 : Int32)))), .val (.int ((100 : Int32) + ((x1 &&& (2147483647 : Int32)) % (500 : Int32)))), .val (.ref r_27), .val (.ref a_34), .val (.ref a_66), .val (.ref a_91), .val (.ref a_121), .unset, .unset] [(.ref r_153)])
  refine own_astore X_153 hx (hb hby at_109) (pc' := 111) (Ls' := #[.val (.int x0), .val (.int x1), .val (.int x2), .val (.int ((100 : Int32) + ((x0 &&& (2147483647 : Int32)) % (500 : Int32)))), .val (.int ((100 : Int32) + ((x1 &&& (2147483647 : Int32)) % (500 : Int32)))), .val (.ref r_27), .val (.ref a_34), .val (.ref a_66), .val (.ref a_91), .val (.ref a_121), .val (.ref r_153), .unset]) rfl rfl rfl ?_
  refine own_aload X_153 hx (hb hby at_111) (pc' := 113) rfl rfl rfl ?_
  obtain ⟨_, _, ⟨T_168, L_168, k_168, n_168⟩, -, X_168, hs_168, hg_168, ⟨Lc_168, hQ_168, l_168, y_168, z_168⟩, st_168⟩ := callSS X_153 hx (y := (⟨"com/example/verbatim_replay/verbatimreplay/Claim", "completed", "(Lcom/example/verbatim_replay/verbatimreplay/StoredResponse;)Lcom/example/verbatim_replay/verbatimreplay/Claim;"⟩ : MethodName)) hown (mvT hZ (hw _ (List.mem_of_getElem? (i := 165) rfl))) (mvT hZ (hw _ (List.mem_of_getElem? (i := 166) rfl))) (mvT hZ (hw _ (List.mem_of_getElem? (i := 167) rfl))) (mvT hZ (hw _ (List.mem_of_getElem? (i := 168) rfl))) (by decide) (backOfS (W := 0) (rm18 l Z a0 hw [] a_121 co T_153.heap n0 Z_154 O_161 A_167 So) hZ (hw _ (List.mem_of_getElem? (i := 168) rfl)) (hw _ (List.mem_of_getElem? (i := 167) rfl)) (by decide) (by decide)) (g := (mkF m 113 #[.val (.int x0), .val (.int x1), .val (.int x2), .val (.int ((100 : Int32) + ((x0 &&& (2147483647 : Int32)) % (500 : Int32)))), .val (.int ((100 : Int32) + ((x1 &&& (2147483647 : Int32)) % (500 : Int32)))), .val (.ref r_27), .val (.ref a_34), .val (.ref a_66), .val (.ref a_91), .val (.ref a_121), .val (.ref r_153), .unset] [(.ref a_121)])) rfl (by rw [hml]; rfl) (argsL := [(.ref a_121)]) (rest := []) (lenOf pd0_3 rfl) rfl (by show 2 * 0 + _ ≤ _; exact Nat.le_of_eq rfl) (hb hby at_113) (fun _ _ => ⟨rfl, rfl, (by decide : 22 + 3 ≤ _), (by decide : 134 + 39 ≤ _)⟩)
  dsimp only [Pt.U, Pt.locs, Pt.cells, Pt.slots] at X_168 l_168 y_168 z_168 st_168 hQ_168 hs_168 hg_168
  subst l_168 y_168 z_168
  refine own_tr st_168 ?_
  obtain ⟨X_168, hS, hZ, hown⟩ := rebS hS (n1 := T_153.heap.size) (Nat.le_refl _) X_168 hs_168 hg_168 hZ hown
  obtain ⟨r_168, rfl, Nq_168, Kq_168, hn_168, gn_168, A_r168, F_r168, G_r168⟩ := hQ_168
  have N_168 := Fr.app N_153 Nq_168
  have ne_168_r_153 : r_153 ≠ r_168 := Nat.ne_of_lt (Nat.lt_of_lt_of_le A_r153.lt hn_168)
  have ne_168_a_66 : a_66 ≠ r_168 := Nat.ne_of_lt (Nat.lt_of_lt_of_le V_155.lt hn_168)
  have ne_168_a_34 : a_34 ≠ r_168 := Nat.ne_of_lt (Nat.lt_of_lt_of_le V_156.lt hn_168)
  have ne_168_r_27 : r_27 ≠ r_168 := Nat.ne_of_lt (Nat.lt_of_lt_of_le A_157.lt hn_168)
  have ne_168_a_12 : a_12 ≠ r_168 := Nat.ne_of_lt (Nat.lt_of_lt_of_le F_159.lt hn_168)
  have ne_168_a_1 : a_1 ≠ r_168 := Nat.ne_of_lt (Nat.lt_of_lt_of_le F_160.lt hn_168)
  have ne_168_a_91 : a_91 ≠ r_168 := Nat.ne_of_lt (Nat.lt_of_lt_of_le A_166.lt hn_168)
  have ne_168_a_121 : a_121 ≠ r_168 := Nat.ne_of_lt (Nat.lt_of_lt_of_le A_167.lt hn_168)
  have A_170 : Exa Z T_168.heap r_153 "com/example/verbatim_replay/verbatimreplay/Claim" := A_r153.keep Kq_168
  have F_171 : Fld Z T_168.heap r_153 "com/example/verbatim_replay/verbatimreplay/Claim" "outcome" "Lcom/example/verbatim_replay/verbatimreplay/Claim$Outcome;" (.ref co) := F_r153.keep Kq_168 nin0
  have G_172 : Fld Z T_168.heap r_153 "com/example/verbatim_replay/verbatimreplay/Claim" "response" "Lcom/example/verbatim_replay/verbatimreplay/StoredResponse;" (.ref a_91) := G_r153.keep Kq_168 nin0
  have V_173 : Arv Z T_168.heap a_66 kc_66 .byte (1 : Int32) [(.int (nar .byte (nar .byte (x2 >>> ((16 : Int32) &&& 31)))))] (.int (0 : Int32)) := V_155.keep Kq_168 nin0
  have V_174 : Arv Z T_168.heap a_34 kc_34 .byte (2 : Int32) [(.int (nar .byte (nar .byte x2))), (.int (nar .byte (nar .byte (x2 >>> ((8 : Int32) &&& 31)))))] (.int (0 : Int32)) := V_156.keep Kq_168 nin0
  have A_175 : Exa Z T_168.heap r_27 "java/util/HashMap" := A_157.keep Kq_168
  have F_176 : Fld Z T_168.heap r_27 "java/util/HashMap" "size" "I" (.int (0 : Int32)) := F_158.keep Kq_168 nin0
  have F_177 : Fld Z T_168.heap a_12 "java/util/ArrayList" "size" "I" (.int (0 : Int32)) := F_159.keep Kq_168 nin0
  have F_178 : Fld Z T_168.heap a_1 "java/util/ArrayList" "size" "I" (.int (0 : Int32)) := F_160.keep Kq_168 nin0
  have O_179 : Old Z n0 T_168.heap := O_161.keep Kq_168 all0
  have A_180 : Exa Z T_168.heap a_1 "java/util/ArrayList" := A_162.keep Kq_168
  have A_181 : Exa Z T_168.heap a_12 "java/util/ArrayList" := A_163.keep Kq_168
  have B_182 : Exa Z T_168.heap a_34 "[B" := B_164.keep Kq_168
  have B_183 : Exa Z T_168.heap a_66 "[B" := B_165.keep Kq_168
  have A_184 : Exa Z T_168.heap a_91 "com/example/verbatim_replay/verbatimreplay/StoredResponse" := A_166.keep Kq_168
  have A_185 : Exa Z T_168.heap a_121 "com/example/verbatim_replay/verbatimreplay/StoredResponse" := A_167.keep Kq_168
  have Z_169 : n0 ≤ T_168.heap.size := Nat.le_trans Z_154 Kq_168.1
  show own_Go p e below _ T_168 (mkF m 116 #[.val (.int x0), .val (.int x1), .val (.int x2), .val (.int ((100 : Int32) + ((x0 &&& (2147483647 : Int32)) % (500 : Int32)))), .val (.int ((100 : Int32) + ((x1 &&& (2147483647 : Int32)) % (500 : Int32)))), .val (.ref r_27), .val (.ref a_34), .val (.ref a_66), .val (.ref a_91), .val (.ref a_121), .val (.ref r_153), .unset] [(.ref r_168)])
  refine own_astore X_168 hx (hb hby at_116) (pc' := 118) (Ls' := #[.val (.int x0), .val (.int x1), .val (.int x2), .val (.int ((100 : Int32) + ((x0 &&& (2147483647 : Int32)) % (500 : Int32)))), .val (.int ((100 : Int32) + ((x1 &&& (2147483647 : Int32)) % (500 : Int32)))), .val (.ref r_27), .val (.ref a_34), .val (.ref a_66), .val (.ref a_91), .val (.ref a_121), .val (.ref r_153), .val (.ref r_168)]) rfl rfl rfl ?_
  refine own_aload X_168 hx (hb hby at_118) (pc' := 120) rfl rfl rfl ?_
  obtain ⟨cq_186, kq_186, qa_186, qb_186, qc_186⟩ := isOf hZ rfl A_170
  obtain ⟨_, _, ⟨T_186, L_186, k_186, n_186⟩, -, X_186, ⟨Lc_186, hQ_186, l_186, y_186, z_186⟩, st_186⟩ := X_168.virtualBack hx  (y := (⟨"com/example/verbatim_replay/verbatimreplay/Claim", "outcome", "()Lcom/example/verbatim_replay/verbatimreplay/Claim$Outcome;"⟩ : MethodName)) (z := (⟨"com/example/verbatim_replay/verbatimreplay/Claim", "outcome", "()Lcom/example/verbatim_replay/verbatimreplay/Claim$Outcome;"⟩ : MethodName)) hown (mvT hZ (hw _ (List.mem_of_getElem? (i := 187) rfl))) (mvT hZ (hw _ (List.mem_of_getElem? (i := 188) rfl))) (notFace_of_selects (args := #[]) (mvT hZ (hw _ (List.mem_of_getElem? (i := 190) rfl)))) (mvT hZ (hw _ (List.mem_of_getElem? (i := 190) rfl))) (mvT hZ (hw _ (List.mem_of_getElem? (i := 189) rfl))) (by decide) (backOf (W := 0) (rm19 l Z a0 hw [] r_153 co T_168.heap n0 Z_169 F_171) hZ (hw _ (List.mem_of_getElem? (i := 191) rfl)) (hw _ (List.mem_of_getElem? (i := 167) rfl)) (by decide) (by decide)) qa_186 qc_186 (g := (mkF m 120 #[.val (.int x0), .val (.int x1), .val (.int x2), .val (.int ((100 : Int32) + ((x0 &&& (2147483647 : Int32)) % (500 : Int32)))), .val (.int ((100 : Int32) + ((x1 &&& (2147483647 : Int32)) % (500 : Int32)))), .val (.ref r_27), .val (.ref a_34), .val (.ref a_66), .val (.ref a_91), .val (.ref a_121), .val (.ref r_153), .val (.ref r_168)] [(.ref r_153)])) rfl (by rw [hml]; rfl) (Steps.refl _) (argsL := []) (rest := []) (lenOf pd0_4 rfl) rfl (by show 2 * 0 + _ ≤ _; exact Nat.le_of_eq rfl) (hb hby at_120) (fun _ _ => ⟨rfl, rfl, (by decide : 25 + 0 ≤ _), (by decide : 173 + 0 ≤ _)⟩)
  dsimp only [Pt.U, Pt.locs, Pt.cells, Pt.slots] at X_186 l_186 y_186 z_186 st_186 hQ_186
  subst l_186 y_186 z_186
  refine own_tr st_186 ?_
  obtain ⟨rfl, Nq_186, eq_186⟩ := hQ_186
  have N_186 := Fr.app N_168 Nq_186
  show own_Go p e below _ T_186 (mkF m 123 #[.val (.int x0), .val (.int x1), .val (.int x2), .val (.int ((100 : Int32) + ((x0 &&& (2147483647 : Int32)) % (500 : Int32)))), .val (.int ((100 : Int32) + ((x1 &&& (2147483647 : Int32)) % (500 : Int32)))), .val (.ref r_27), .val (.ref a_34), .val (.ref a_66), .val (.ref a_91), .val (.ref a_121), .val (.ref r_153), .val (.ref r_168)] [(.ref co)])
  obtain ⟨T_187, X_187, e_187, st_187⟩ := getS2 X_186 hx hZ hown (host := "") (Or.inl (hw _ (List.mem_of_getElem? (i := 192) rfl))) Via.refl eq_186 (So.ext O_179.2) (g := (mkF m 123 #[.val (.int x0), .val (.int x1), .val (.int x2), .val (.int ((100 : Int32) + ((x0 &&& (2147483647 : Int32)) % (500 : Int32)))), .val (.int ((100 : Int32) + ((x1 &&& (2147483647 : Int32)) % (500 : Int32)))), .val (.ref r_27), .val (.ref a_34), .val (.ref a_66), .val (.ref a_91), .val (.ref a_121), .val (.ref r_153), .val (.ref r_168)] [(.ref co)])) rfl (hb hby at_123)
  refine own_st st_187 ?_
  show own_Go p e below _ T_187 (mkF m 126 #[.val (.int x0), .val (.int x1), .val (.int x2), .val (.int ((100 : Int32) + ((x0 &&& (2147483647 : Int32)) % (500 : Int32)))), .val (.int ((100 : Int32) + ((x1 &&& (2147483647 : Int32)) % (500 : Int32)))), .val (.ref r_27), .val (.ref a_34), .val (.ref a_66), .val (.ref a_91), .val (.ref a_121), .val (.ref r_153), .val (.ref r_168)] [(.ref co), (.ref co)])
  refine own_acmpN X_187 hx rfl rfl (hb hby at_126) (XT.aa_ne_f rfl) (pc' := 129) rfl ?_
  refine own_aload X_187 hx (hb hby at_129) (pc' := 131) rfl rfl rfl ?_
  obtain ⟨cq_188, kq_188, qa_188, qb_188, qc_188⟩ := isOf hZ e_187 A_r168
  obtain ⟨_, _, ⟨T_188, L_188, k_188, n_188⟩, -, X_188, ⟨Lc_188, hQ_188, l_188, y_188, z_188⟩, st_188⟩ := X_187.virtualBack hx  (y := (⟨"com/example/verbatim_replay/verbatimreplay/Claim", "outcome", "()Lcom/example/verbatim_replay/verbatimreplay/Claim$Outcome;"⟩ : MethodName)) (z := (⟨"com/example/verbatim_replay/verbatimreplay/Claim", "outcome", "()Lcom/example/verbatim_replay/verbatimreplay/Claim$Outcome;"⟩ : MethodName)) hown (mvT hZ (hw _ (List.mem_of_getElem? (i := 187) rfl))) (mvT hZ (hw _ (List.mem_of_getElem? (i := 188) rfl))) (notFace_of_selects (args := #[]) (mvT hZ (hw _ (List.mem_of_getElem? (i := 190) rfl)))) (mvT hZ (hw _ (List.mem_of_getElem? (i := 190) rfl))) (mvT hZ (hw _ (List.mem_of_getElem? (i := 189) rfl))) (by decide) (backOf (W := 0) (rm19 l Z a0 hw [] r_168 co T_168.heap n0 Z_169 F_r168) hZ (hw _ (List.mem_of_getElem? (i := 191) rfl)) (hw _ (List.mem_of_getElem? (i := 167) rfl)) (by decide) (by decide)) qa_188 qc_188 (g := (mkF m 131 #[.val (.int x0), .val (.int x1), .val (.int x2), .val (.int ((100 : Int32) + ((x0 &&& (2147483647 : Int32)) % (500 : Int32)))), .val (.int ((100 : Int32) + ((x1 &&& (2147483647 : Int32)) % (500 : Int32)))), .val (.ref r_27), .val (.ref a_34), .val (.ref a_66), .val (.ref a_91), .val (.ref a_121), .val (.ref r_153), .val (.ref r_168)] [(.ref r_168)])) rfl (by rw [hml]; rfl) (Steps.refl _) (argsL := []) (rest := []) (lenOf pd0_4 rfl) rfl (by show 2 * 0 + _ ≤ _; exact Nat.le_of_eq rfl) (hb hby at_131) (fun _ _ => ⟨rfl, e_187, (by decide : 25 + 0 ≤ _), (by decide : 173 + 0 ≤ _)⟩)
  dsimp only [Pt.U, Pt.locs, Pt.cells, Pt.slots] at X_188 l_188 y_188 z_188 st_188 hQ_188
  subst l_188 y_188 z_188
  refine own_tr st_188 ?_
  obtain ⟨rfl, Nq_188, eq_188⟩ := hQ_188
  have N_188 := Fr.app N_186 Nq_188
  show own_Go p e below _ T_188 (mkF m 134 #[.val (.int x0), .val (.int x1), .val (.int x2), .val (.int ((100 : Int32) + ((x0 &&& (2147483647 : Int32)) % (500 : Int32)))), .val (.int ((100 : Int32) + ((x1 &&& (2147483647 : Int32)) % (500 : Int32)))), .val (.ref r_27), .val (.ref a_34), .val (.ref a_66), .val (.ref a_91), .val (.ref a_121), .val (.ref r_153), .val (.ref r_168)] [(.ref co)])
  obtain ⟨T_189, X_189, e_189, st_189⟩ := getS2 X_188 hx hZ hown (host := "") (Or.inl (hw _ (List.mem_of_getElem? (i := 192) rfl))) Via.refl eq_188 (So.ext O_179.2) (g := (mkF m 134 #[.val (.int x0), .val (.int x1), .val (.int x2), .val (.int ((100 : Int32) + ((x0 &&& (2147483647 : Int32)) % (500 : Int32)))), .val (.int ((100 : Int32) + ((x1 &&& (2147483647 : Int32)) % (500 : Int32)))), .val (.ref r_27), .val (.ref a_34), .val (.ref a_66), .val (.ref a_91), .val (.ref a_121), .val (.ref r_153), .val (.ref r_168)] [(.ref co)])) rfl (hb hby at_134)
  refine own_st st_189 ?_
  show own_Go p e below _ T_189 (mkF m 137 #[.val (.int x0), .val (.int x1), .val (.int x2), .val (.int ((100 : Int32) + ((x0 &&& (2147483647 : Int32)) % (500 : Int32)))), .val (.int ((100 : Int32) + ((x1 &&& (2147483647 : Int32)) % (500 : Int32)))), .val (.ref r_27), .val (.ref a_34), .val (.ref a_66), .val (.ref a_91), .val (.ref a_121), .val (.ref r_153), .val (.ref r_168)] [(.ref co), (.ref co)])
  refine own_acmpN X_189 hx rfl rfl (hb hby at_137) (XT.aa_ne_f rfl) (pc' := 140) rfl ?_
  refine own_aload X_189 hx (hb hby at_140) (pc' := 142) rfl rfl rfl ?_
  obtain ⟨cq_190, kq_190, qa_190, qb_190, qc_190⟩ := isOf hZ e_189 A_170
  obtain ⟨_, _, ⟨T_190, L_190, k_190, n_190⟩, -, X_190, ⟨Lc_190, hQ_190, l_190, y_190, z_190⟩, st_190⟩ := X_189.virtualBack hx  (y := (⟨"com/example/verbatim_replay/verbatimreplay/Claim", "response", "()Lcom/example/verbatim_replay/verbatimreplay/StoredResponse;"⟩ : MethodName)) (z := (⟨"com/example/verbatim_replay/verbatimreplay/Claim", "response", "()Lcom/example/verbatim_replay/verbatimreplay/StoredResponse;"⟩ : MethodName)) hown (mvT hZ (hw _ (List.mem_of_getElem? (i := 193) rfl))) (mvT hZ (hw _ (List.mem_of_getElem? (i := 194) rfl))) (notFace_of_selects (args := #[]) (mvT hZ (hw _ (List.mem_of_getElem? (i := 196) rfl)))) (mvT hZ (hw _ (List.mem_of_getElem? (i := 196) rfl))) (mvT hZ (hw _ (List.mem_of_getElem? (i := 195) rfl))) (by decide) (backOf (W := 0) (rm20 l Z a0 hw [] r_153 a_91 T_168.heap n0 Z_169 G_172) hZ (hw _ (List.mem_of_getElem? (i := 197) rfl)) (hw _ (List.mem_of_getElem? (i := 167) rfl)) (by decide) (by decide)) qa_190 qc_190 (g := (mkF m 142 #[.val (.int x0), .val (.int x1), .val (.int x2), .val (.int ((100 : Int32) + ((x0 &&& (2147483647 : Int32)) % (500 : Int32)))), .val (.int ((100 : Int32) + ((x1 &&& (2147483647 : Int32)) % (500 : Int32)))), .val (.ref r_27), .val (.ref a_34), .val (.ref a_66), .val (.ref a_91), .val (.ref a_121), .val (.ref r_153), .val (.ref r_168)] [(.ref r_153)])) rfl (by rw [hml]; rfl) (Steps.refl _) (argsL := []) (rest := []) (lenOf pd0_5 rfl) rfl (by show 2 * 0 + _ ≤ _; exact Nat.le_of_eq rfl) (hb hby at_142) (fun _ _ => ⟨rfl, e_189, (by decide : 25 + 0 ≤ _), (by decide : 173 + 0 ≤ _)⟩)
  dsimp only [Pt.U, Pt.locs, Pt.cells, Pt.slots] at X_190 l_190 y_190 z_190 st_190 hQ_190
  subst l_190 y_190 z_190
  refine own_tr st_190 ?_
  obtain ⟨rfl, Nq_190, eq_190⟩ := hQ_190
  have N_190 := Fr.app N_188 Nq_190
  show own_Go p e below _ T_190 (mkF m 145 #[.val (.int x0), .val (.int x1), .val (.int x2), .val (.int ((100 : Int32) + ((x0 &&& (2147483647 : Int32)) % (500 : Int32)))), .val (.int ((100 : Int32) + ((x1 &&& (2147483647 : Int32)) % (500 : Int32)))), .val (.ref r_27), .val (.ref a_34), .val (.ref a_66), .val (.ref a_91), .val (.ref a_121), .val (.ref r_153), .val (.ref r_168)] [(.ref a_91)])
  refine own_aload X_190 hx (hb hby at_145) (pc' := 147) rfl rfl rfl ?_
  refine own_acmpN X_190 hx rfl rfl (hb hby at_147) (XT.aa_ne_f rfl) (pc' := 150) rfl ?_
  refine own_aload X_190 hx (hb hby at_150) (pc' := 152) rfl rfl rfl ?_
  obtain ⟨cq_191, kq_191, qa_191, qb_191, qc_191⟩ := isOf hZ eq_190 A_r168
  obtain ⟨_, _, ⟨T_191, L_191, k_191, n_191⟩, -, X_191, ⟨Lc_191, hQ_191, l_191, y_191, z_191⟩, st_191⟩ := X_190.virtualBack hx  (y := (⟨"com/example/verbatim_replay/verbatimreplay/Claim", "response", "()Lcom/example/verbatim_replay/verbatimreplay/StoredResponse;"⟩ : MethodName)) (z := (⟨"com/example/verbatim_replay/verbatimreplay/Claim", "response", "()Lcom/example/verbatim_replay/verbatimreplay/StoredResponse;"⟩ : MethodName)) hown (mvT hZ (hw _ (List.mem_of_getElem? (i := 193) rfl))) (mvT hZ (hw _ (List.mem_of_getElem? (i := 194) rfl))) (notFace_of_selects (args := #[]) (mvT hZ (hw _ (List.mem_of_getElem? (i := 196) rfl)))) (mvT hZ (hw _ (List.mem_of_getElem? (i := 196) rfl))) (mvT hZ (hw _ (List.mem_of_getElem? (i := 195) rfl))) (by decide) (backOf (W := 0) (rm20 l Z a0 hw [] r_168 a_121 T_168.heap n0 Z_169 G_r168) hZ (hw _ (List.mem_of_getElem? (i := 197) rfl)) (hw _ (List.mem_of_getElem? (i := 167) rfl)) (by decide) (by decide)) qa_191 qc_191 (g := (mkF m 152 #[.val (.int x0), .val (.int x1), .val (.int x2), .val (.int ((100 : Int32) + ((x0 &&& (2147483647 : Int32)) % (500 : Int32)))), .val (.int ((100 : Int32) + ((x1 &&& (2147483647 : Int32)) % (500 : Int32)))), .val (.ref r_27), .val (.ref a_34), .val (.ref a_66), .val (.ref a_91), .val (.ref a_121), .val (.ref r_153), .val (.ref r_168)] [(.ref r_168)])) rfl (by rw [hml]; rfl) (Steps.refl _) (argsL := []) (rest := []) (lenOf pd0_5 rfl) rfl (by show 2 * 0 + _ ≤ _; exact Nat.le_of_eq rfl) (hb hby at_152) (fun _ _ => ⟨rfl, eq_190, (by decide : 25 + 0 ≤ _), (by decide : 173 + 0 ≤ _)⟩)
  dsimp only [Pt.U, Pt.locs, Pt.cells, Pt.slots] at X_191 l_191 y_191 z_191 st_191 hQ_191
  subst l_191 y_191 z_191
  refine own_tr st_191 ?_
  obtain ⟨rfl, Nq_191, eq_191⟩ := hQ_191
  have N_191 := Fr.app N_190 Nq_191
  show own_Go p e below _ T_191 (mkF m 155 #[.val (.int x0), .val (.int x1), .val (.int x2), .val (.int ((100 : Int32) + ((x0 &&& (2147483647 : Int32)) % (500 : Int32)))), .val (.int ((100 : Int32) + ((x1 &&& (2147483647 : Int32)) % (500 : Int32)))), .val (.ref r_27), .val (.ref a_34), .val (.ref a_66), .val (.ref a_91), .val (.ref a_121), .val (.ref r_153), .val (.ref r_168)] [(.ref a_121)])
  refine own_aload X_191 hx (hb hby at_155) (pc' := 157) rfl rfl rfl ?_
  refine own_acmpN X_191 hx rfl rfl (hb hby at_157) (XT.aa_ne_f rfl) (pc' := 160) rfl ?_
  refine own_aload X_191 hx (hb hby at_160) (pc' := 162) rfl rfl rfl ?_
  refine own_aload X_191 hx (hb hby at_162) (pc' := 164) rfl rfl rfl ?_
  refine own_acmpN X_191 hx rfl rfl (hb hby at_164) (XT.aa_eq_f (by intro q; first | exact absurd (Value.ref.inj q) ne_168_r_153 | cases q)) (pc' := 167) rfl ?_
  refine own_iconst X_191 hx (1) (hb hby at_167) (pc' := 168) rfl rfl ?_
  refine own_goto X_191 hx (hb hby at_168) (pc' := 172) (by decide) (by decide) ?_
  refine own_retZW X_191 hS (by rw [eq_191]; exact (Nat.le_refl _)) hx hlk Bd.returns (by simp) (hb hby at_172) (by decide) (by decide) ?_
  exact ⟨rfl, N_191⟩
set_option maxRecDepth 65536 in
set_option maxHeartbeats 40000000 in
theorem comes_1 {Post : Tables → Env → Array Value → State → Outcome → State → Prop} (hpost : ∀ tb e args s v u, (limb_1_1.after args s (.returned v) u = true ∧ limb_1_2.after args s (.returned v) u = true ∧ True) → ReturnedEndW s (.returned v) u (Jvm.fieldLocs frame_1_writes args s ++ Jvm.arrayLocs frame_1_arrays args s ++ Jvm.staticLocs frame_1_statics s) 48 2240 → Post tb e args s (.returned v) u) :
    ArmFor flags0 classFile x code maxLocals ret World_1 tables_1 room_1 Calls_1 rest_1 Pre_1 Post := by
  intro l hfl _ _ p e ha hc hk s m args below hf hA hF happ hP
  obtain ⟨hcalls, hrest, hpre⟩ := hP
  obtain ⟨-, -, -, hnamed, -, -, -, hat⟩ := (Spec.applies_iff hf).mp happ
  obtain ⟨hg, hn⟩ := and_e (Cond.before_iff.mp (show (Jvm.Cond.and given_1 narrow_1).before args s = true from hpre))
  obtain ⟨gc, gr0⟩ := and_e hg
  obtain ⟨ga0, gr1⟩ := and_e gr0
  obtain ⟨ga1, gr2⟩ := and_e gr1
  have ga2 := gr2
  obtain ⟨w0, w1, w2, rfl⟩ : ∃ w0 w1 w2 : Value, args = #[w0, w1, w2] := by
    have hs : args.size = 3 := by simpa [Cond.value, given_1] using gc
    obtain ⟨L⟩ := args
    match L, hs with
    | [w0, w1, w2], _ => exact ⟨w0, w1, w2, rfl⟩
  have hw := fun d (hd : d ∈ tables_1) => atoms_spec (ws := Jvm.Cond.code x code maxLocals ret :: tables_1) hat d (List.mem_cons_of_mem _ hd)
  have hfit : Fit s := fun {y c} hc i hi => by
    obtain ⟨ha, rfl⟩ := Array.getElem?_eq_some_iff.mp hc
    have q := List.all_eq_true.mp ((Array.all_eq_true_iff_forall_mem.mp hF) _ (Array.getElem_mem ha)) i (List.mem_range.mpr hi)
    simpa [Array.getElem?_eq_getElem hi] using q
  obtain ⟨i0, ei0⟩ := is_v ga0
  obtain rfl : w0 = (.int i0) := Option.some.inj ei0
  obtain ⟨i1, ei1⟩ := is_v ga1
  obtain rfl : w1 = (.int i1) := Option.some.inj ei1
  obtain ⟨i2, ei2⟩ := is_v ga2
  obtain rfl : w2 = (.int i2) := Option.some.inj ei2
  obtain ⟨hsets, hown0⟩ := atoms_of _ (rest_1_c_eq ▸ (show rest_1_c.before _ s = true from hrest))
  obtain ⟨da, eda⟩ := exa_v (Cond.before_iff.mp (hsets _ (List.mem_of_getElem? (i := 7) rfl)))
  have Sd : Sta s s.heap "java/util/ArrayList" "DEFAULTCAPACITY_EMPTY_ELEMENTDATA" "[Ljava/lang/Object;" (.ref da) := Sta.start eda (Or.inr ⟨hw _ (List.mem_of_getElem? (i := 3) rfl), (hsets _ (List.mem_of_getElem? (i := 2) rfl))⟩)
  obtain ⟨ca, eca⟩ := exa_v (Cond.before_iff.mp (hsets _ (List.mem_of_getElem? (i := 11) rfl)))
  have Sc : Sta s s.heap "java/lang/String" "CASE_INSENSITIVE_ORDER" "Ljava/util/Comparator;" (.ref ca) := Sta.start eca (Or.inl (hsets _ (List.mem_of_getElem? (i := 10) rfl)))
  obtain ⟨co, eco⟩ := exa_v hn
  have So : Sta s s.heap "com/example/verbatim_replay/verbatimreplay/Claim$Outcome" "COMPLETED" "Lcom/example/verbatim_replay/verbatimreplay/Claim$Outcome;" (.ref co) := Sta.start eco (Or.inr ⟨hw _ (List.mem_of_getElem? (i := 172) rfl), hw _ (List.mem_of_getElem? (i := 173) rfl)⟩)
  have M1 : own_Mir s "java/util/TreeMap" := let ⟨c, k, m, h1, h2, h3, _⟩ := hcalls.1; ⟨c, k, m, h1, h2, h3⟩
  have M2 : own_Mir s "java/util/Collections$UnmodifiableMap" := let ⟨c, k, m, h1, h2, h3, _⟩ := hcalls.2.1; ⟨c, k, m, h1, h2, h3⟩
  obtain ⟨n, o, h1, h2, h3, _, L, rfl, ⟨rfl, N⟩, hq⟩ := rm0 l s _ hw tables_1 i0 i1 i2 da ca co s.heap s.heap.size (Nat.le_refl _) (Old.start s) Sd Sc So M1 M2 p e ha hc hk s m _ below hf ((Spec.applies_iff_loose hf).mp happ).1 ⟨rfl, State.Warmed39.refl s, rfl⟩ trivial
  refine ⟨n, _, h1, h2, h3, hpost _ _ _ _ _ _ ⟨Cond.after_iff.mpr rfl, Cond.after_iff.mpr (eq_i res_at (Term.int_eval (1)) rfl), trivial⟩ ⟨hq.1, hq.2.1, hq.2.2.1, (hq.2.2.2.sift fun y hy => Or.inr (N y hy)).mono (by decide) (by decide)⟩⟩
theorem main_1_1 : Claimed_1_1 := comes_1 fun _ _ _ _ _ _ h hF => ⟨h.1, hF⟩
theorem main_1_2 : Claimed_1_2 := comes_1 fun _ _ _ _ _ _ h hF => ⟨h.2.1, hF⟩
end Jvm.Pilot.@@N@@
namespace Jvm.Pilot.@@N@@
open Jvm Jvm.ClassFile Sem Op Lib Jvm.Free Jvm.Stand Jvm.Pilot.@@N@@.Jvm.D
/-! MADE BY PROGRAM (witnessworld.py) out of the Statement's table words and the real class files: 43 classes; the members and pool entries that the words name. The judged class is class 1, her method 1. -/
namespace start1
open Jvm.ClassFile
def u (s : String) : CpInfo := .utf8 (stringToUtf16 s)
/-- a pool by its gaps: so many unusable entries, then the entry; so many at the end -/
def gap : Nat → List CpInfo → List CpInfo
  | 0, r => r
  | n + 1, r => .unusable :: gap n r
def poolList (es : List (Nat × CpInfo)) (last : Nat) : List CpInfo := es.foldr (fun e r => gap e.1 (e.2 :: r)) (gap last [])
def pool (es : List (Nat × CpInfo)) (last : Nat) : Array CpInfo := ⟨poolList es last⟩
def fileOf (pool : Array CpInfo) (this : Nat) (attrs : Array Attribute := #[]) (ms : Array MethodInfo := #[]) (fl : Nat := 33) (sup : Nat := 0) (ifs : Array Nat := #[]) (fds : Array FieldInfo := #[]) : ClassFile where
  minorVersion := 0
  majorVersion := 65
  constantPool := pool
  accessFlags := fl
  thisClass := this
  superClass := sup
  interfaces := ifs
  fields := fds
  methods := ms
  attributes := attrs
def plain (name : String) (sup : Option ClassId) : Class where
  name := name
  kind := .ordinary
  loader := none
  accessFlags := 33
  super := sup
  interfaces := #[]
  cf := none
  fields := #[]
  methods := #[]
  instanceTypes := #[]
  staticTypes := #[]
  resolved := #[]
  callSites := []
  init := .initialized
  statics := none
  mirror := none

def pool0 : Array CpInfo := pool [(5, u "<init>"), (0, u "()V"), (1, .class_ 10), (1, u "java/lang/Object"), (0, u "getClass"), (0, u "()Ljava/lang/Class;"), (83, u "clone"), (0, u "()Ljava/lang/Object;")] 26

def k0c0 : Code := { maxStack := 0, maxLocals := 1, code := object_method_1_code, exceptionTable := #[], attributes := #[] }
def k0m0 : Method := { name := "<init>", desc := "()V", sig := { parameters := [], returnType := none }, accessFlags := 1, code := some k0c0 }
def k0m1 : Method := { name := "getClass", desc := "()Ljava/lang/Class;", sig := { parameters := [], returnType := some (.object "java/lang/Class") }, accessFlags := 273, code := none }
def k0m2 : Method := { name := "clone", desc := "()Ljava/lang/Object;", sig := { parameters := [], returnType := some (.object "java/lang/Object") }, accessFlags := 260, code := none }
/-- java/lang/Object -/
def k0 : Class := { plain "java/lang/Object" none with
  accessFlags := 33
  interfaces := #[]
  cf := some (fileOf pool0 8 #[] #[{ accessFlags := 1, nameIndex := 5, descriptorIndex := 6, attributes := #[] }, { accessFlags := 273, nameIndex := 11, descriptorIndex := 12, attributes := #[] }, { accessFlags := 260, nameIndex := 96, descriptorIndex := 97, attributes := #[] }] 33 0 #[] #[])
  fields := #[]
  methods := #[k0m0, k0m1, k0m2]
  instanceTypes := #[]
  staticTypes := #[]
  resolved := Array.replicate 124 none
  statics := none }

def pool1 : Array CpInfo := pool [(2, .class_ 4), (0, .nameAndType 5 6), (0, u "java/lang/Object"), (0, u "<init>"), (0, u "()V"), (0, .integer 2147483647), (0, .class_ 9), (0, u "java/util/ArrayList"), (0, .methodref 8 3), (0, .methodref 12 13), (0, .class_ 14), (0, .nameAndType 15 16), (0, u "com/example/verbatim_replay/verbatimreplay/StoredResponse"), (0, u "fields"), (0, u "(Ljava/util/List;Ljava/util/List;)Ljava/util/Map;"), (0, .methodref 12 18), (0, .nameAndType 5 19), (0, u "(ILjava/util/Map;[B)V"), (0, .methodref 21 22), (0, .class_ 23), (0, .nameAndType 24 25), (0, u "com/example/verbatim_replay/verbatimreplay/Claim"), (0, u "completed"), (0, u "(Lcom/example/verbatim_replay/verbatimreplay/StoredResponse;)Lcom/example/verbatim_replay/verbatimreplay/Claim;"), (0, .methodref 21 27), (0, .nameAndType 28 29), (0, u "outcome"), (0, u "()Lcom/example/verbatim_replay/verbatimreplay/Claim$Outcome;"), (0, .fieldref 31 32), (0, .class_ 33), (0, .nameAndType 34 35), (0, u "com/example/verbatim_replay/verbatimreplay/Claim$Outcome"), (0, u "COMPLETED"), (0, u "Lcom/example/verbatim_replay/verbatimreplay/Claim$Outcome;"), (0, .methodref 21 37), (0, .nameAndType 38 39), (0, u "response"), (0, u "()Lcom/example/verbatim_replay/verbatimreplay/StoredResponse;"), (0, .class_ 41), (0, u "com/example/verbatim_replay/verbatimreplay/ClaimCompletedPinLaw"), (2, u "law"), (0, u "(III)Z")] 9

def k1m0 : Method := { name := "<init>", desc := "()V", sig := { parameters := [], returnType := none }, accessFlags := 1, code := none }
def k1c1 : Code := { maxStack := 5, maxLocals := 12, code := code, exceptionTable := #[], attributes := #[] }
def k1m1 : Method := { name := "law", desc := "(III)Z", sig := { parameters := [.int, .int, .int], returnType := some .boolean }, accessFlags := 9, code := some k1c1 }
/-- com/example/verbatim_replay/verbatimreplay/ClaimCompletedPinLaw -/
def k1 : Class := { plain "com/example/verbatim_replay/verbatimreplay/ClaimCompletedPinLaw" (some 0) with
  accessFlags := 49
  interfaces := #[]
  cf := some (fileOf pool1 40 #[] #[{ accessFlags := 1, nameIndex := 5, descriptorIndex := 6, attributes := #[] }, { accessFlags := 9, nameIndex := 44, descriptorIndex := 45, attributes := #[] }] 49 2 #[] #[])
  fields := #[]
  methods := #[k1m0, k1m1]
  instanceTypes := #[]
  staticTypes := #[]
  resolved := Array.replicate 55 none
  statics := none }

def pool2 : Array CpInfo := pool [(8, .class_ 10), (1, u "java/lang/Iterable"), (24, .class_ 36), (0, u "java/lang/Object")] 25

/-- java/lang/Iterable -/
def k2 : Class := { plain "java/lang/Iterable" (some 0) with
  accessFlags := 1537
  interfaces := #[]
  cf := some (fileOf pool2 8 #[] #[] 1537 35 #[] #[])
  fields := #[]
  methods := #[]
  instanceTypes := #[]
  staticTypes := #[]
  resolved := Array.replicate 62 none
  statics := none }

def pool3 : Array CpInfo := pool [(10, .class_ 12), (1, u "java/util/Collection"), (47, .class_ 61), (0, u "java/lang/Object"), (0, .class_ 63), (0, u "java/lang/Iterable")] 51

/-- java/util/Collection -/
def k3 : Class := { plain "java/util/Collection" (some 0) with
  accessFlags := 1537
  interfaces := #[2]
  cf := some (fileOf pool3 10 #[] #[] 1537 60 #[62] #[])
  fields := #[]
  methods := #[]
  instanceTypes := #[]
  staticTypes := #[]
  resolved := Array.replicate 115 none
  statics := none }

def pool4 : Array CpInfo := pool [(1, .methodref 2 3), (0, .class_ 4), (0, .nameAndType 5 6), (0, u "java/lang/Object"), (0, u "<init>"), (0, u "()V"), (1, .class_ 10), (1, u "java/util/AbstractCollection"), (66, .class_ 78), (0, u "java/util/Collection")] 81

def k4c0 : Code := { maxStack := 1, maxLocals := 1, code := jdk_22_method_1_code, exceptionTable := #[], attributes := #[] }
def k4m0 : Method := { name := "<init>", desc := "()V", sig := { parameters := [], returnType := none }, accessFlags := 4, code := some k4c0 }
/-- java/util/AbstractCollection -/
def k4 : Class := { plain "java/util/AbstractCollection" (some 0) with
  accessFlags := 1057
  interfaces := #[3]
  cf := some (fileOf pool4 8 #[] #[{ accessFlags := 4, nameIndex := 5, descriptorIndex := 6, attributes := #[] }] 1057 2 #[77] #[])
  fields := #[]
  methods := #[k4m0]
  instanceTypes := #[]
  staticTypes := #[]
  resolved := Array.replicate 160 none
  statics := none }

def pool5 : Array CpInfo := pool [(8, .class_ 10), (1, u "java/util/SequencedCollection"), (15, .class_ 27), (0, u "java/lang/Object"), (0, .class_ 29), (0, u "java/util/Collection")] 27

/-- java/util/SequencedCollection -/
def k5 : Class := { plain "java/util/SequencedCollection" (some 0) with
  accessFlags := 1537
  interfaces := #[3]
  cf := some (fileOf pool5 8 #[] #[] 1537 26 #[28] #[])
  fields := #[]
  methods := #[]
  instanceTypes := #[]
  staticTypes := #[]
  resolved := Array.replicate 57 none
  statics := none }

def pool6 : Array CpInfo := pool [(8, .class_ 10), (1, u "java/util/List"), (68, u "size"), (0, u "()I"), (22, .class_ 104), (0, u "java/lang/Object"), (15, .class_ 121), (0, u "java/util/SequencedCollection")] 129

def k6m0 : Method := { name := "size", desc := "()I", sig := { parameters := [], returnType := some .int }, accessFlags := 1025, code := none }
/-- java/util/List -/
def k6 : Class := { plain "java/util/List" (some 0) with
  accessFlags := 1537
  interfaces := #[5]
  cf := some (fileOf pool6 8 #[] #[{ accessFlags := 1025, nameIndex := 79, descriptorIndex := 80, attributes := #[] }] 1537 103 #[120] #[])
  fields := #[]
  methods := #[k6m0]
  instanceTypes := #[]
  staticTypes := #[]
  resolved := Array.replicate 251 none
  statics := none }

def pool7 : Array CpInfo := pool [(1, .methodref 2 3), (0, .class_ 4), (0, .nameAndType 5 6), (0, u "java/util/AbstractCollection"), (0, u "<init>"), (0, u "()V"), (0, .fieldref 8 9), (0, .class_ 10), (0, .nameAndType 11 12), (0, u "java/util/AbstractList"), (0, u "modCount"), (0, u "I"), (64, .class_ 78), (0, u "java/util/AbstractList$Itr"), (3, .class_ 83), (0, u "java/util/AbstractList$ListItr"), (9, .class_ 94), (0, u "java/util/AbstractList$RandomAccessSubList"), (3, .class_ 99), (0, u "java/util/AbstractList$SubList"), (33, .class_ 134), (0, u "java/util/List"), (73, .class_ 209), (0, u "java/util/AbstractList$SubList$1"), (0, .class_ 211), (0, u "java/util/AbstractList$RandomAccessSpliterator")] 6

def k7c0 : Code := { maxStack := 2, maxLocals := 1, code := jdk_39_method_1_code, exceptionTable := #[], attributes := #[] }
def k7m0 : Method := { name := "<init>", desc := "()V", sig := { parameters := [], returnType := none }, accessFlags := 4, code := some k7c0 }
/-- java/util/AbstractList -/
def k7 : Class := { plain "java/util/AbstractList" (some 4) with
  accessFlags := 1057
  interfaces := #[6]
  cf := some (fileOf pool7 8 #[.nestMembers #[93, 98, 208, 210, 82, 77]] #[{ accessFlags := 4, nameIndex := 5, descriptorIndex := 6, attributes := #[] }] 1057 2 #[133] #[{ accessFlags := 132, nameIndex := 11, descriptorIndex := 12, attributes := #[] }])
  fields := #[{ name := "modCount", type := .int, accessFlags := 132, slot := 0, constantValue := 0 }]
  methods := #[k7m0]
  instanceTypes := #[.int]
  staticTypes := #[]
  resolved := Array.replicate 218 none
  statics := none }

def pool8 : Array CpInfo := pool [(1, .class_ 2), (0, u "java/util/RandomAccess"), (0, .class_ 4), (0, u "java/lang/Object")] 2

/-- java/util/RandomAccess -/
def k8 : Class := { plain "java/util/RandomAccess" (some 0) with
  accessFlags := 1537
  interfaces := #[]
  cf := some (fileOf pool8 1 #[] #[] 1537 3 #[] #[])
  fields := #[]
  methods := #[]
  instanceTypes := #[]
  staticTypes := #[]
  resolved := Array.replicate 7 none
  statics := none }

def pool9 : Array CpInfo := pool [(1, .class_ 2), (0, u "java/lang/Cloneable"), (0, .class_ 4), (0, u "java/lang/Object")] 2

/-- java/lang/Cloneable -/
def k9 : Class := { plain "java/lang/Cloneable" (some 0) with
  accessFlags := 1537
  interfaces := #[]
  cf := some (fileOf pool9 1 #[] #[] 1537 3 #[] #[])
  fields := #[]
  methods := #[]
  instanceTypes := #[]
  staticTypes := #[]
  resolved := Array.replicate 7 none
  statics := none }

def pool10 : Array CpInfo := pool [(1, .class_ 2), (0, u "java/io/Serializable"), (0, .class_ 4), (0, u "java/lang/Object")] 2

/-- java/io/Serializable -/
def k10 : Class := { plain "java/io/Serializable" (some 0) with
  accessFlags := 1537
  interfaces := #[]
  cf := some (fileOf pool10 1 #[] #[] 1537 3 #[] #[])
  fields := #[]
  methods := #[]
  instanceTypes := #[]
  staticTypes := #[]
  resolved := Array.replicate 7 none
  statics := none }

def pool11 : Array CpInfo := pool [(1, .methodref 2 3), (0, .class_ 4), (0, .nameAndType 5 6), (0, u "java/util/AbstractList"), (0, u "<init>"), (0, u "()V"), (2, .fieldref 10 11), (0, .class_ 12), (0, .nameAndType 13 14), (0, u "java/util/ArrayList"), (0, u "elementData"), (0, u "[Ljava/lang/Object;"), (2, u "EMPTY_ELEMENTDATA"), (21, .fieldref 10 40), (0, .nameAndType 41 14), (0, u "DEFAULTCAPACITY_EMPTY_ELEMENTDATA"), (6, .fieldref 10 49), (0, .nameAndType 50 51), (0, u "size"), (0, u "I"), (96, .class_ 149), (0, u "java/util/List"), (36, u "()I"), (75, .class_ 263), (0, u "java/util/ArrayList$ListItr"), (3, .class_ 268), (0, u "java/util/ArrayList$Itr"), (7, .class_ 277), (0, u "java/util/ArrayList$SubList"), (12, .class_ 291), (0, u "java/util/ArrayList$ArrayListSpliterator"), (37, .class_ 330), (0, u "java/util/RandomAccess"), (0, .class_ 332), (0, u "java/lang/Cloneable"), (0, .class_ 334), (0, u "java/io/Serializable"), (0, u "serialVersionUID"), (0, u "J"), (3, u "DEFAULT_CAPACITY"), (159, .class_ 501), (0, u "java/util/ArrayList$SubList$2"), (0, .class_ 503), (0, u "java/util/ArrayList$SubList$1")] 5

def k11c0 : Code := { maxStack := 2, maxLocals := 1, code := jdk_38_method_2_code, exceptionTable := #[], attributes := #[] }
def k11m0 : Method := { name := "<init>", desc := "()V", sig := { parameters := [], returnType := none }, accessFlags := 1, code := some k11c0 }
def k11c1 : Code := { maxStack := 1, maxLocals := 1, code := jdk_38_method_8_code, exceptionTable := #[], attributes := #[] }
def k11m1 : Method := { name := "size", desc := "()I", sig := { parameters := [], returnType := some .int }, accessFlags := 1, code := some k11c1 }
/-- java/util/ArrayList -/
def k11 : Class := { plain "java/util/ArrayList" (some 7) with
  accessFlags := 33
  interfaces := #[6, 8, 9, 10]
  cf := some (fileOf pool11 10 #[.nestMembers #[290, 276, 500, 502, 262, 267]] #[{ accessFlags := 1, nameIndex := 5, descriptorIndex := 6, attributes := #[] }, { accessFlags := 1, nameIndex := 50, descriptorIndex := 186, attributes := #[] }] 33 2 #[148, 329, 331, 333] #[{ accessFlags := 26, nameIndex := 335, descriptorIndex := 336, attributes := #[] }, { accessFlags := 26, nameIndex := 340, descriptorIndex := 51, attributes := #[] }, { accessFlags := 26, nameIndex := 17, descriptorIndex := 14, attributes := #[] }, { accessFlags := 26, nameIndex := 41, descriptorIndex := 14, attributes := #[] }, { accessFlags := 128, nameIndex := 13, descriptorIndex := 14, attributes := #[] }, { accessFlags := 2, nameIndex := 50, descriptorIndex := 51, attributes := #[] }])
  fields := #[{ name := "serialVersionUID", type := .long, accessFlags := 26, slot := 0, constantValue := 0 }, { name := "DEFAULT_CAPACITY", type := .int, accessFlags := 26, slot := 1, constantValue := 0 }, { name := "EMPTY_ELEMENTDATA", type := (.array (.object "java/lang/Object")), accessFlags := 26, slot := 2, constantValue := 0 }, { name := "DEFAULTCAPACITY_EMPTY_ELEMENTDATA", type := (.array (.object "java/lang/Object")), accessFlags := 26, slot := 3, constantValue := 0 }, { name := "elementData", type := (.array (.object "java/lang/Object")), accessFlags := 128, slot := 1, constantValue := 0 }, { name := "size", type := .int, accessFlags := 2, slot := 2, constantValue := 0 }]
  methods := #[k11m0, k11m1]
  instanceTypes := #[.int, (.array (.object "java/lang/Object")), .int]
  staticTypes := #[.long, .int, (.array (.object "java/lang/Object")), (.array (.object "java/lang/Object"))]
  resolved := Array.replicate 509 none
  statics := some 0 }

def pool12 : Array CpInfo := pool [(1, .methodref 2 3), (0, .class_ 4), (0, .nameAndType 5 6), (0, u "java/lang/Object"), (0, u "<init>"), (0, u "()V"), (9, .string 17), (0, u "body"), (0, .methodref 19 20), (0, .class_ 21), (0, .nameAndType 22 23), (0, u "java/util/Objects"), (0, u "requireNonNull"), (0, u "(Ljava/lang/Object;Ljava/lang/String;)Ljava/lang/Object;"), (0, .class_ 25), (0, u "java/util/TreeMap"), (0, .fieldref 27 28), (0, .class_ 29), (0, .nameAndType 30 31), (0, u "java/lang/String"), (0, u "CASE_INSENSITIVE_ORDER"), (0, u "Ljava/util/Comparator;"), (0, .methodref 24 33), (0, .nameAndType 5 34), (0, u "(Ljava/util/Comparator;)V"), (0, .invokeDynamic 1 36), (0, .nameAndType 37 38), (0, u "accept"), (0, u "(Ljava/util/Map;)Ljava/util/function/BiConsumer;"), (0, .interfaceMethodref 40 41), (0, .class_ 42), (0, .nameAndType 43 44), (0, u "java/util/Map"), (0, u "forEach"), (0, u "(Ljava/util/function/BiConsumer;)V"), (0, .invokeDynamic 2 46), (0, .nameAndType 47 48), (0, u "apply"), (0, u "()Ljava/util/function/BiFunction;"), (0, .interfaceMethodref 40 50), (0, .nameAndType 51 52), (0, u "replaceAll"), (0, u "(Ljava/util/function/BiFunction;)V"), (0, .fieldref 54 55), (0, .class_ 56), (0, .nameAndType 57 58), (0, u "com/example/verbatim_replay/verbatimreplay/StoredResponse"), (0, u "status"), (0, u "I"), (0, .methodref 60 61), (0, .class_ 62), (0, .nameAndType 63 64), (0, u "java/util/Collections"), (0, u "unmodifiableMap"), (0, u "(Ljava/util/Map;)Ljava/util/Map;"), (0, .fieldref 54 66), (0, .nameAndType 67 68), (0, u "headers"), (0, u "Ljava/util/Map;"), (0, .methodref 70 71), (0, .class_ 72), (0, .nameAndType 73 74), (0, u "[B"), (0, u "clone"), (0, u "()Ljava/lang/Object;"), (0, .fieldref 54 76), (0, .nameAndType 17 72), (21, .class_ 99), (0, u "java/util/HashMap"), (0, .methodref 98 3), (0, .interfaceMethodref 102 103), (0, .class_ 104), (0, .nameAndType 105 106), (0, u "java/util/List"), (0, u "size"), (0, u "()I"), (33, u "FRAMING_FIELDS"), (0, u "Ljava/util/Set;"), (31, u "(ILjava/util/Map;[B)V"), (11, u "fields"), (0, u "(Ljava/util/List;Ljava/util/List;)Ljava/util/Map;"), (9, u "lambda$new$2"), (0, u "(Ljava/lang/String;Ljava/util/List;)Ljava/util/List;"), (0, u "lambda$new$1"), (0, u "(Ljava/util/Map;Ljava/lang/String;Ljava/util/List;)V"), (7, .methodType 208), (0, u "(Ljava/lang/Object;Ljava/lang/Object;)V"), (0, .methodHandle 6 210), (0, .methodref 54 211), (0, .nameAndType 198 199), (0, .methodType 213), (0, u "(Ljava/lang/String;Ljava/util/List;)V"), (0, .methodType 215), (0, u "(Ljava/lang/Object;Ljava/lang/Object;)Ljava/lang/Object;"), (0, .methodHandle 6 217), (0, .methodref 54 218), (0, .nameAndType 196 197), (0, .methodType 197), (28, .methodHandle 6 249), (0, .methodref 250 251), (0, .class_ 252), (0, .nameAndType 253 254), (0, u "java/lang/invoke/LambdaMetafactory"), (0, u "metafactory"), (0, u "(Ljava/lang/invoke/MethodHandles$Lookup;Ljava/lang/String;Ljava/lang/invoke/MethodType;Ljava/lang/invoke/MethodType;Ljava/lang/invoke/MethodHandle;Ljava/lang/invoke/MethodType;)Ljava/lang/invoke/CallSite;")] 6

def k12c0 : Code := { maxStack := 3, maxLocals := 5, code := prog_27_method_1_code, exceptionTable := #[], attributes := #[] }
def k12m0 : Method := { name := "<init>", desc := "(ILjava/util/Map;[B)V", sig := { parameters := [.int, (.object "java/util/Map"), (.array .byte)], returnType := none }, accessFlags := 1, code := some k12c0 }
def k12c1 : Code := { maxStack := 3, maxLocals := 4, code := prog_27_method_7_code, exceptionTable := #[], attributes := #[] }
def k12m1 : Method := { name := "fields", desc := "(Ljava/util/List;Ljava/util/List;)Ljava/util/Map;", sig := { parameters := [(.object "java/util/List"), (.object "java/util/List")], returnType := some (.object "java/util/Map") }, accessFlags := 8, code := some k12c1 }
def k12c2 : Code := { maxStack := 1, maxLocals := 2, code := ⟨#[0x2b, 0xb8, 0x00, 0x82, 0xb0]⟩, exceptionTable := #[], attributes := #[] }
def k12m2 : Method := { name := "lambda$new$2", desc := "(Ljava/lang/String;Ljava/util/List;)Ljava/util/List;", sig := { parameters := [(.object "java/lang/String"), (.object "java/util/List")], returnType := some (.object "java/util/List") }, accessFlags := 4106, code := some k12c2 }
def k12c3 : Code := { maxStack := 3, maxLocals := 3, code := ⟨#[0x2c, 0xb9, 0x00, 0x86, 0x01, 0x00, 0x9a, 0x00, 0x2e, 0xb2, 0x00, 0x8a, 0x2b, 0xb2, 0x00, 0x8e, 0xb6, 0x00, 0x94, 0xb9, 0x00, 0x98, 0x02, 0x00, 0x9a, 0x00, 0x1c, 0x2a, 0x2b, 0xba, 0x00, 0x9d, 0x00, 0x00, 0xb9, 0x00, 0x72, 0x03, 0x00, 0xc0, 0x00, 0x66, 0x2c, 0xb8, 0x00, 0x82, 0xb9, 0x00, 0x9e, 0x02, 0x00, 0x57, 0xb1]⟩, exceptionTable := #[], attributes := #[] }
def k12m3 : Method := { name := "lambda$new$1", desc := "(Ljava/util/Map;Ljava/lang/String;Ljava/util/List;)V", sig := { parameters := [(.object "java/util/Map"), (.object "java/lang/String"), (.object "java/util/List")], returnType := none }, accessFlags := 4106, code := some k12c3 }
/-- com/example/verbatim_replay/verbatimreplay/StoredResponse -/
def k12 : Class := { plain "com/example/verbatim_replay/verbatimreplay/StoredResponse" (some 0) with
  accessFlags := 49
  interfaces := #[]
  cf := some (fileOf pool12 54 #[.bootstrapMethods #[⟨0, #[]⟩, ⟨248, #[207, 209, 212]⟩, ⟨248, #[214, 216, 219]⟩, ⟨0, #[]⟩, ⟨0, #[]⟩, ⟨0, #[]⟩, ⟨0, #[]⟩, ⟨0, #[]⟩, ⟨0, #[]⟩]] #[{ accessFlags := 1, nameIndex := 5, descriptorIndex := 173, attributes := #[] }, { accessFlags := 8, nameIndex := 185, descriptorIndex := 186, attributes := #[] }, { accessFlags := 4106, nameIndex := 196, descriptorIndex := 197, attributes := #[] }, { accessFlags := 4106, nameIndex := 198, descriptorIndex := 199, attributes := #[] }] 49 2 #[] #[{ accessFlags := 26, nameIndex := 140, descriptorIndex := 141, attributes := #[] }, { accessFlags := 18, nameIndex := 57, descriptorIndex := 58, attributes := #[] }, { accessFlags := 18, nameIndex := 67, descriptorIndex := 68, attributes := #[] }, { accessFlags := 18, nameIndex := 17, descriptorIndex := 72, attributes := #[] }])
  fields := #[{ name := "FRAMING_FIELDS", type := (.object "java/util/Set"), accessFlags := 26, slot := 0, constantValue := 0 }, { name := "status", type := .int, accessFlags := 18, slot := 0, constantValue := 0 }, { name := "headers", type := (.object "java/util/Map"), accessFlags := 18, slot := 1, constantValue := 0 }, { name := "body", type := (.array .byte), accessFlags := 18, slot := 2, constantValue := 0 }]
  methods := #[k12m0, k12m1, k12m2, k12m3]
  instanceTypes := #[.int, (.object "java/util/Map"), (.array .byte)]
  staticTypes := #[(.object "java/util/Set")]
  resolved := Array.replicate 261 none
  callSites := [(0, 53, .makes 41), (0, 65, .constant 5)]
  statics := none }

def pool13 : Array CpInfo := pool [(2, .class_ 4), (1, u "java/util/Map"), (31, .class_ 37), (0, u "java/util/Map$Entry"), (55, .class_ 94), (0, u "java/lang/Object"), (58, u "forEach"), (0, u "(Ljava/util/function/BiConsumer;)V"), (11, u "replaceAll"), (0, u "(Ljava/util/function/BiFunction;)V")] 95

def k13c0 : Code := { maxStack := 3, maxLocals := 7, code := ⟨#[0x2b, 0xb8, 0x00, 0x0b, 0x57, 0x2a, 0xb9, 0x00, 0x10, 0x01, 0x00, 0xb9, 0x00, 0x14, 0x01, 0x00, 0x4d, 0x2c, 0xb9, 0x00, 0x1a, 0x01, 0x00, 0x99, 0x00, 0x39, 0x2c, 0xb9, 0x00, 0x20, 0x01, 0x00, 0xc0, 0x00, 0x24, 0x4e, 0x2d, 0xb9, 0x00, 0x26, 0x01, 0x00, 0x3a, 0x04, 0x2d, 0xb9, 0x00, 0x29, 0x01, 0x00, 0x3a, 0x05, 0xa7, 0x00, 0x0f, 0x3a, 0x06, 0xbb, 0x00, 0x2e, 0x59, 0x19, 0x06, 0xb7, 0x00, 0x30, 0xbf, 0x2b, 0x19, 0x04, 0x19, 0x05, 0xb9, 0x00, 0x34, 0x03, 0x00, 0xa7, 0xff, 0xc4, 0xb1]⟩, exceptionTable := #[{ startPc := 36, endPc := 52, handlerPc := 55, catchType := 44 }], attributes := #[] }
def k13m0 : Method := { name := "forEach", desc := "(Ljava/util/function/BiConsumer;)V", sig := { parameters := [(.object "java/util/function/BiConsumer")], returnType := none }, accessFlags := 1, code := some k13c0 }
def k13c1 : Code := { maxStack := 3, maxLocals := 7, code := ⟨#[0x2b, 0xb8, 0x00, 0x0b, 0x57, 0x2a, 0xb9, 0x00, 0x10, 0x01, 0x00, 0xb9, 0x00, 0x14, 0x01, 0x00, 0x4d, 0x2c, 0xb9, 0x00, 0x1a, 0x01, 0x00, 0x99, 0x00, 0x53, 0x2c, 0xb9, 0x00, 0x20, 0x01, 0x00, 0xc0, 0x00, 0x24, 0x4e, 0x2d, 0xb9, 0x00, 0x26, 0x01, 0x00, 0x3a, 0x04, 0x2d, 0xb9, 0x00, 0x29, 0x01, 0x00, 0x3a, 0x05, 0xa7, 0x00, 0x0f, 0x3a, 0x06, 0xbb, 0x00, 0x2e, 0x59, 0x19, 0x06, 0xb7, 0x00, 0x30, 0xbf, 0x2b, 0x19, 0x04, 0x19, 0x05, 0xb9, 0x00, 0x3a, 0x03, 0x00, 0x3a, 0x05, 0x2d, 0x19, 0x05, 0xb9, 0x00, 0x40, 0x02, 0x00, 0x57, 0xa7, 0x00, 0x0f, 0x3a, 0x06, 0xbb, 0x00, 0x2e, 0x59, 0x19, 0x06, 0xb7, 0x00, 0x30, 0xbf, 0xa7, 0xff, 0xaa, 0xb1]⟩, exceptionTable := #[{ startPc := 36, endPc := 52, handlerPc := 55, catchType := 44 }, { startPc := 79, endPc := 88, handlerPc := 91, catchType := 44 }], attributes := #[] }
def k13m1 : Method := { name := "replaceAll", desc := "(Ljava/util/function/BiFunction;)V", sig := { parameters := [(.object "java/util/function/BiFunction")], returnType := none }, accessFlags := 1, code := some k13c1 }
/-- java/util/Map -/
def k13 : Class := { plain "java/util/Map" (some 0) with
  accessFlags := 1537
  interfaces := #[]
  cf := some (fileOf pool13 2 #[.nestMembers #[36]] #[{ accessFlags := 1, nameIndex := 153, descriptorIndex := 154, attributes := #[] }, { accessFlags := 1, nameIndex := 166, descriptorIndex := 167, attributes := #[] }] 1537 93 #[] #[])
  fields := #[]
  methods := #[k13m0, k13m1]
  instanceTypes := #[]
  staticTypes := #[]
  resolved := Array.replicate 263 none
  statics := none }

def pool14 : Array CpInfo := pool [(1, .methodref 2 3), (0, .class_ 4), (0, .nameAndType 5 6), (0, u "java/lang/Object"), (0, u "<init>"), (0, u "()V"), (1, .class_ 10), (1, u "java/util/AbstractMap"), (42, .class_ 54), (0, u "java/util/Map"), (9, u "keySet"), (0, u "Ljava/util/Set;"), (0, .class_ 67), (0, u "java/util/AbstractMap$1"), (5, u "values"), (0, u "Ljava/util/Collection;"), (0, .class_ 76), (0, u "java/util/AbstractMap$2"), (104, .class_ 182), (0, u "java/util/AbstractMap$ViewCollection"), (0, .class_ 184), (0, u "java/util/AbstractMap$SimpleImmutableEntry"), (0, .class_ 186), (0, u "java/util/AbstractMap$SimpleEntry"), (0, .class_ 188), (0, u "java/util/AbstractMap$2$1"), (0, .class_ 190), (0, u "java/util/AbstractMap$1$1")] 5

def k14c0 : Code := { maxStack := 1, maxLocals := 1, code := jdk_71_method_1_code, exceptionTable := #[], attributes := #[] }
def k14m0 : Method := { name := "<init>", desc := "()V", sig := { parameters := [], returnType := none }, accessFlags := 4, code := some k14c0 }
/-- java/util/AbstractMap -/
def k14 : Class := { plain "java/util/AbstractMap" (some 0) with
  accessFlags := 1057
  interfaces := #[13]
  cf := some (fileOf pool14 8 #[.nestMembers #[181, 183, 185, 75, 187, 66, 189]] #[{ accessFlags := 4, nameIndex := 5, descriptorIndex := 6, attributes := #[] }] 1057 2 #[53] #[{ accessFlags := 128, nameIndex := 64, descriptorIndex := 65, attributes := #[] }, { accessFlags := 128, nameIndex := 73, descriptorIndex := 74, attributes := #[] }])
  fields := #[{ name := "keySet", type := (.object "java/util/Set"), accessFlags := 128, slot := 0, constantValue := 0 }, { name := "values", type := (.object "java/util/Collection"), accessFlags := 128, slot := 1, constantValue := 0 }]
  methods := #[k14m0]
  instanceTypes := #[(.object "java/util/Set"), (.object "java/util/Collection")]
  staticTypes := #[]
  resolved := Array.replicate 196 none
  statics := none }

def pool15 : Array CpInfo := pool [(40, .class_ 41), (0, u "java/util/HashMap"), (1, .methodref 44 45), (0, .class_ 46), (0, .nameAndType 47 48), (0, u "java/util/AbstractMap"), (0, u "<init>"), (0, u "()V"), (32, .fieldref 40 82), (0, .nameAndType 83 84), (0, u "loadFactor"), (0, u "F"), (5, u "threshold"), (0, u "I"), (0, .float 1061158912), (8, .class_ 103), (1, u "java/util/Map"), (0, u "size"), (2, u "table"), (0, u "[Ljava/util/HashMap$Node;"), (14, u "entrySet"), (32, .fieldref 40 157), (0, .nameAndType 104 91), (5, .class_ 165), (1, u "java/util/HashMap$Node"), (14, .class_ 181), (0, u "java/util/HashMap$TreeNode"), (22, u "modCount"), (37, u "Ljava/util/Set;"), (0, .class_ 244), (0, u "java/util/HashMap$KeySet"), (18, .class_ 264), (0, u "java/util/HashMap$Values"), (3, .class_ 269), (0, u "java/util/HashMap$EntrySet"), (76, .class_ 348), (1, u "java/util/HashMap$UnsafeHolder"), (43, .class_ 393), (0, u "java/lang/Cloneable"), (0, .class_ 395), (0, u "java/io/Serializable"), (0, u "serialVersionUID"), (0, u "J"), (3, u "DEFAULT_INITIAL_CAPACITY"), (1, u "MAXIMUM_CAPACITY"), (0, u "DEFAULT_LOAD_FACTOR"), (0, u "TREEIFY_THRESHOLD"), (1, u "UNTREEIFY_THRESHOLD"), (1, u "MIN_TREEIFY_CAPACITY"), (142, u "forEach"), (0, u "(Ljava/util/function/BiConsumer;)V"), (42, .class_ 597), (0, u "java/util/HashMap$EntrySpliterator"), (0, .class_ 599), (0, u "java/util/HashMap$ValueSpliterator"), (0, .class_ 601), (0, u "java/util/HashMap$KeySpliterator"), (0, .class_ 603), (0, u "java/util/HashMap$HashMapSpliterator"), (0, .class_ 605), (0, u "java/util/HashMap$EntryIterator"), (0, .class_ 607), (0, u "java/util/HashMap$ValueIterator"), (0, .class_ 609), (0, u "java/util/HashMap$KeyIterator"), (0, .class_ 611), (0, u "java/util/HashMap$HashIterator")] 17

def k15c0 : Code := { maxStack := 2, maxLocals := 1, code := jdk_69_method_7_code, exceptionTable := #[], attributes := #[] }
def k15m0 : Method := { name := "<init>", desc := "()V", sig := { parameters := [], returnType := none }, accessFlags := 1, code := some k15c0 }
def k15c1 : Code := { maxStack := 3, maxLocals := 8, code := jdk_69_method_39_code, exceptionTable := #[], attributes := #[] }
def k15m1 : Method := { name := "forEach", desc := "(Ljava/util/function/BiConsumer;)V", sig := { parameters := [(.object "java/util/function/BiConsumer")], returnType := none }, accessFlags := 1, code := some k15c1 }
/-- java/util/HashMap -/
def k15 : Class := { plain "java/util/HashMap" (some 14) with
  accessFlags := 33
  interfaces := #[13, 9, 10]
  cf := some (fileOf pool15 40 #[.nestMembers #[180, 596, 598, 600, 602, 604, 606, 608, 610, 346, 268, 263, 243, 163]] #[{ accessFlags := 1, nameIndex := 47, descriptorIndex := 48, attributes := #[] }, { accessFlags := 1, nameIndex := 552, descriptorIndex := 553, attributes := #[] }] 33 44 #[101, 392, 394] #[{ accessFlags := 26, nameIndex := 396, descriptorIndex := 397, attributes := #[] }, { accessFlags := 24, nameIndex := 401, descriptorIndex := 91, attributes := #[] }, { accessFlags := 24, nameIndex := 403, descriptorIndex := 91, attributes := #[] }, { accessFlags := 24, nameIndex := 404, descriptorIndex := 84, attributes := #[] }, { accessFlags := 24, nameIndex := 405, descriptorIndex := 91, attributes := #[] }, { accessFlags := 24, nameIndex := 407, descriptorIndex := 91, attributes := #[] }, { accessFlags := 24, nameIndex := 409, descriptorIndex := 91, attributes := #[] }, { accessFlags := 128, nameIndex := 107, descriptorIndex := 108, attributes := #[] }, { accessFlags := 128, nameIndex := 123, descriptorIndex := 242, attributes := #[] }, { accessFlags := 128, nameIndex := 104, descriptorIndex := 91, attributes := #[] }, { accessFlags := 128, nameIndex := 204, descriptorIndex := 91, attributes := #[] }, { accessFlags := 0, nameIndex := 90, descriptorIndex := 91, attributes := #[] }, { accessFlags := 16, nameIndex := 83, descriptorIndex := 84, attributes := #[] }])
  fields := #[{ name := "serialVersionUID", type := .long, accessFlags := 26, slot := 0, constantValue := 0 }, { name := "DEFAULT_INITIAL_CAPACITY", type := .int, accessFlags := 24, slot := 1, constantValue := 0 }, { name := "MAXIMUM_CAPACITY", type := .int, accessFlags := 24, slot := 2, constantValue := 0 }, { name := "DEFAULT_LOAD_FACTOR", type := .float, accessFlags := 24, slot := 3, constantValue := 0 }, { name := "TREEIFY_THRESHOLD", type := .int, accessFlags := 24, slot := 4, constantValue := 0 }, { name := "UNTREEIFY_THRESHOLD", type := .int, accessFlags := 24, slot := 5, constantValue := 0 }, { name := "MIN_TREEIFY_CAPACITY", type := .int, accessFlags := 24, slot := 6, constantValue := 0 }, { name := "table", type := (.array (.object "java/util/HashMap$Node")), accessFlags := 128, slot := 2, constantValue := 0 }, { name := "entrySet", type := (.object "java/util/Set"), accessFlags := 128, slot := 3, constantValue := 0 }, { name := "size", type := .int, accessFlags := 128, slot := 4, constantValue := 0 }, { name := "modCount", type := .int, accessFlags := 128, slot := 5, constantValue := 0 }, { name := "threshold", type := .int, accessFlags := 0, slot := 6, constantValue := 0 }, { name := "loadFactor", type := .float, accessFlags := 16, slot := 7, constantValue := 0 }]
  methods := #[k15m0, k15m1]
  instanceTypes := #[(.object "java/util/Set"), (.object "java/util/Collection"), (.array (.object "java/util/HashMap$Node")), (.object "java/util/Set"), .int, .int, .int, .float]
  staticTypes := #[.long, .int, .int, .float, .int, .int, .int]
  resolved := Array.replicate 629 none
  statics := none }

def pool16 : Array CpInfo := pool [(1, .class_ 2), (0, u "java/lang/Comparable"), (0, .class_ 4), (0, u "java/lang/Object")] 7

/-- java/lang/Comparable -/
def k16 : Class := { plain "java/lang/Comparable" (some 0) with
  accessFlags := 1537
  interfaces := #[]
  cf := some (fileOf pool16 1 #[] #[] 1537 3 #[] #[])
  fields := #[]
  methods := #[]
  instanceTypes := #[]
  staticTypes := #[]
  resolved := Array.replicate 12 none
  statics := none }

def pool17 : Array CpInfo := pool [(2, .class_ 4), (1, u "java/lang/CharSequence"), (42, .class_ 48), (0, u "java/lang/CharSequence$1CodePointIterator"), (10, .class_ 60), (0, u "java/lang/CharSequence$1CharIterator"), (5, .class_ 67), (0, u "java/lang/Object")] 63

/-- java/lang/CharSequence -/
def k17 : Class := { plain "java/lang/CharSequence" (some 0) with
  accessFlags := 1537
  interfaces := #[]
  cf := some (fileOf pool17 2 #[.nestMembers #[47, 59]] #[] 1537 66 #[] #[])
  fields := #[]
  methods := #[]
  instanceTypes := #[]
  staticTypes := #[]
  resolved := Array.replicate 131 none
  statics := none }

def pool18 : Array CpInfo := pool [(1, .class_ 2), (0, u "java/lang/constant/Constable"), (0, .class_ 4), (0, u "java/lang/Object")] 6

/-- java/lang/constant/Constable -/
def k18 : Class := { plain "java/lang/constant/Constable" (some 0) with
  accessFlags := 1537
  interfaces := #[]
  cf := some (fileOf pool18 1 #[] #[] 1537 3 #[] #[])
  fields := #[]
  methods := #[]
  instanceTypes := #[]
  staticTypes := #[]
  resolved := Array.replicate 11 none
  statics := none }

def pool19 : Array CpInfo := pool [(1, .class_ 2), (0, u "java/lang/constant/ConstantDesc"), (0, .class_ 4), (0, u "java/lang/Object")] 32

/-- java/lang/constant/ConstantDesc -/
def k19 : Class := { plain "java/lang/constant/ConstantDesc" (some 0) with
  accessFlags := 1537
  interfaces := #[]
  cf := some (fileOf pool19 1 #[] #[] 1537 3 #[] #[])
  fields := #[]
  methods := #[]
  instanceTypes := #[]
  staticTypes := #[]
  resolved := Array.replicate 37 none
  statics := none }

def pool20 : Array CpInfo := pool [(2, .class_ 4), (1, u "java/lang/Object"), (0, u "<init>"), (0, u "()V"), (3, .class_ 12), (1, u "java/lang/String"), (0, u "value"), (0, u "[B"), (2, u "coder"), (0, u "B"), (2, u "hash"), (0, u "I"), (2, u "hashIsZero"), (0, u "Z"), (13, u "COMPACT_STRINGS"), (534, .class_ 576), (0, u "java/lang/CharSequence"), (22, u "CASE_INSENSITIVE_ORDER"), (0, u "Ljava/util/Comparator;"), (500, u "serialPersistentFields"), (0, u "[Ljava/io/ObjectStreamField;"), (0, .class_ 1104), (0, u "java/lang/String$CaseInsensitiveComparator"), (1, .class_ 1107), (0, u "java/io/Serializable"), (0, .class_ 1109), (0, u "java/lang/Comparable"), (0, .class_ 1111), (0, u "java/lang/constant/Constable"), (0, .class_ 1113), (0, u "java/lang/constant/ConstantDesc"), (2, u "serialVersionUID"), (0, u "J"), (3, u "REPL"), (0, u "C"), (2, u "LATIN1"), (1, u "UTF16")] 323

def k20m0 : Method := { name := "<init>", desc := "()V", sig := { parameters := [], returnType := none }, accessFlags := 1, code := none }
/-- java/lang/String -/
def k20 : Class := { plain "java/lang/String" (some 0) with
  accessFlags := 49
  interfaces := #[10, 16, 17, 18, 19]
  cf := some (fileOf pool20 10 #[.nestMembers #[1103]] #[{ accessFlags := 1, nameIndex := 5, descriptorIndex := 6, attributes := #[] }] 49 2 #[1106, 1108, 575, 1110, 1112] #[{ accessFlags := 18, nameIndex := 13, descriptorIndex := 14, attributes := #[] }, { accessFlags := 18, nameIndex := 17, descriptorIndex := 18, attributes := #[] }, { accessFlags := 2, nameIndex := 21, descriptorIndex := 22, attributes := #[] }, { accessFlags := 2, nameIndex := 25, descriptorIndex := 26, attributes := #[] }, { accessFlags := 26, nameIndex := 1116, descriptorIndex := 1117, attributes := #[] }, { accessFlags := 24, nameIndex := 40, descriptorIndex := 26, attributes := #[] }, { accessFlags := 26, nameIndex := 1101, descriptorIndex := 1102, attributes := #[] }, { accessFlags := 26, nameIndex := 1121, descriptorIndex := 1122, attributes := #[] }, { accessFlags := 25, nameIndex := 599, descriptorIndex := 600, attributes := #[] }, { accessFlags := 24, nameIndex := 1125, descriptorIndex := 18, attributes := #[] }, { accessFlags := 24, nameIndex := 1127, descriptorIndex := 18, attributes := #[] }])
  fields := #[{ name := "value", type := (.array .byte), accessFlags := 18, slot := 0, constantValue := 0 }, { name := "coder", type := .byte, accessFlags := 18, slot := 1, constantValue := 0 }, { name := "hash", type := .int, accessFlags := 2, slot := 2, constantValue := 0 }, { name := "hashIsZero", type := .boolean, accessFlags := 2, slot := 3, constantValue := 0 }, { name := "serialVersionUID", type := .long, accessFlags := 26, slot := 0, constantValue := 0 }, { name := "COMPACT_STRINGS", type := .boolean, accessFlags := 24, slot := 1, constantValue := 0 }, { name := "serialPersistentFields", type := (.array (.object "java/io/ObjectStreamField")), accessFlags := 26, slot := 2, constantValue := 0 }, { name := "REPL", type := .char, accessFlags := 26, slot := 3, constantValue := 0 }, { name := "CASE_INSENSITIVE_ORDER", type := (.object "java/util/Comparator"), accessFlags := 25, slot := 4, constantValue := 0 }, { name := "LATIN1", type := .byte, accessFlags := 24, slot := 5, constantValue := 0 }, { name := "UTF16", type := .byte, accessFlags := 24, slot := 6, constantValue := 0 }]
  methods := #[k20m0]
  instanceTypes := #[(.array .byte), .byte, .int, .boolean]
  staticTypes := #[.long, .boolean, (.array (.object "java/io/ObjectStreamField")), .char, (.object "java/util/Comparator"), .byte, .byte]
  resolved := Array.replicate 1451 none
  statics := some 1 }

def pool21 : Array CpInfo := pool [(2, .class_ 4), (1, u "java/lang/Object"), (0, u "<init>"), (0, u "()V"), (35, .class_ 44), (1, u "java/util/Objects"), (0, u "requireNonNull"), (0, u "(Ljava/lang/Object;)Ljava/lang/Object;"), (47, u "(Ljava/lang/Object;Ljava/lang/String;)Ljava/lang/Object;")] 89

def k21m0 : Method := { name := "<init>", desc := "()V", sig := { parameters := [], returnType := none }, accessFlags := 2, code := none }
def k21c1 : Code := { maxStack := 2, maxLocals := 1, code := jdk_31_method_10_code, exceptionTable := #[], attributes := #[] }
def k21m1 : Method := { name := "requireNonNull", desc := "(Ljava/lang/Object;)Ljava/lang/Object;", sig := { parameters := [(.object "java/lang/Object")], returnType := some (.object "java/lang/Object") }, accessFlags := 9, code := some k21c1 }
def k21c2 : Code := { maxStack := 3, maxLocals := 2, code := jdk_31_method_11_code, exceptionTable := #[], attributes := #[] }
def k21m2 : Method := { name := "requireNonNull", desc := "(Ljava/lang/Object;Ljava/lang/String;)Ljava/lang/Object;", sig := { parameters := [(.object "java/lang/Object"), (.object "java/lang/String")], returnType := some (.object "java/lang/Object") }, accessFlags := 9, code := some k21c2 }
/-- java/util/Objects -/
def k21 : Class := { plain "java/util/Objects" (some 0) with
  accessFlags := 49
  interfaces := #[]
  cf := some (fileOf pool21 42 #[] #[{ accessFlags := 2, nameIndex := 5, descriptorIndex := 6, attributes := #[] }, { accessFlags := 9, nameIndex := 45, descriptorIndex := 46, attributes := #[] }, { accessFlags := 9, nameIndex := 45, descriptorIndex := 94, attributes := #[] }] 49 2 #[] #[])
  fields := #[]
  methods := #[k21m0, k21m1, k21m2]
  instanceTypes := #[]
  staticTypes := #[]
  resolved := Array.replicate 184 none
  statics := none }

def pool22 : Array CpInfo := pool [(2, .class_ 4), (1, u "java/util/SequencedMap"), (38, .class_ 44), (0, u "java/util/SequencedMap$1SeqKeySet"), (3, .class_ 49), (0, u "java/util/SequencedMap$1SeqValues"), (1, .class_ 52), (0, u "java/util/SequencedMap$1SeqEntrySet"), (1, .class_ 55), (0, u "java/lang/Object"), (0, .class_ 57), (0, u "java/util/Map")] 48

/-- java/util/SequencedMap -/
def k22 : Class := { plain "java/util/SequencedMap" (some 0) with
  accessFlags := 1537
  interfaces := #[13]
  cf := some (fileOf pool22 2 #[.nestMembers #[51, 48, 43]] #[] 1537 54 #[56] #[])
  fields := #[]
  methods := #[]
  instanceTypes := #[]
  staticTypes := #[]
  resolved := Array.replicate 106 none
  statics := none }

def pool23 : Array CpInfo := pool [(14, .class_ 16), (1, u "java/util/SortedMap"), (2, .class_ 20), (0, u "java/lang/Object"), (0, .class_ 22), (0, u "java/util/SequencedMap")] 50

/-- java/util/SortedMap -/
def k23 : Class := { plain "java/util/SortedMap" (some 0) with
  accessFlags := 1537
  interfaces := #[22]
  cf := some (fileOf pool23 14 #[] #[] 1537 19 #[21] #[])
  fields := #[]
  methods := #[]
  instanceTypes := #[]
  staticTypes := #[]
  resolved := Array.replicate 73 none
  statics := none }

def pool24 : Array CpInfo := pool [(2, .class_ 4), (1, u "java/util/NavigableMap"), (5, .class_ 11), (0, u "java/lang/Object"), (0, .class_ 13), (0, u "java/util/SortedMap")] 53

/-- java/util/NavigableMap -/
def k24 : Class := { plain "java/util/NavigableMap" (some 0) with
  accessFlags := 1537
  interfaces := #[23]
  cf := some (fileOf pool24 2 #[] #[] 1537 10 #[12] #[])
  fields := #[]
  methods := #[]
  instanceTypes := #[]
  staticTypes := #[]
  resolved := Array.replicate 67 none
  statics := none }

def pool25 : Array CpInfo := pool [(1, .methodref 2 3), (0, .class_ 4), (0, .nameAndType 5 6), (0, u "java/util/AbstractMap"), (0, u "<init>"), (0, u "()V"), (0, .fieldref 8 9), (0, .class_ 10), (0, .nameAndType 11 12), (0, u "java/util/TreeMap"), (0, u "size"), (0, u "I"), (0, .fieldref 8 14), (0, .nameAndType 15 12), (0, u "modCount"), (0, .fieldref 8 17), (0, .nameAndType 18 19), (0, u "comparator"), (0, u "Ljava/util/Comparator;"), (14, u "entrySet"), (19, .methodref 8 55), (0, .nameAndType 56 57), (0, u "getFirstEntry"), (0, u "()Ljava/util/TreeMap$Entry;"), (1, .class_ 61), (1, u "java/util/TreeMap$Entry"), (1, u "Ljava/lang/Object;"), (22, .class_ 88), (1, u "java/util/Objects"), (6, .methodref 86 96), (0, .nameAndType 97 98), (0, u "requireNonNull"), (0, u "(Ljava/lang/Object;)Ljava/lang/Object;"), (2, .fieldref 8 102), (0, .nameAndType 103 104), (0, u "root"), (0, u "Ljava/util/TreeMap$Entry;"), (85, u "Ljava/util/TreeMap$EntrySet;"), (2, u "navigableKeySet"), (0, u "Ljava/util/TreeMap$KeySet;"), (2, u "descendingMap"), (0, u "Ljava/util/NavigableMap;"), (23, .class_ 223), (0, u "java/util/TreeMap$KeySet"), (7, .class_ 232), (0, u "java/util/NavigableMap"), (4, .class_ 238), (0, u "java/util/TreeMap$Values"), (3, .class_ 243), (0, u "java/util/TreeMap$EntrySet"), (1, .class_ 246), (0, u "java/util/TreeMap$DescendingSubMap"), (3, .class_ 251), (0, u "java/util/TreeMap$AscendingSubMap"), (17, .class_ 270), (0, u "java/util/TreeMap$KeyIterator"), (3, .class_ 275), (0, u "java/util/TreeMap$DescendingKeyIterator"), (17, u "Z"), (94, .class_ 389), (0, u "java/util/TreeMap$NavigableSubMap"), (1, .class_ 392), (0, u "java/util/TreeMap$KeySpliterator"), (3, .class_ 397), (0, u "java/util/TreeMap$DescendingKeySpliterator"), (4, u "UNBOUNDED"), (0, .class_ 404), (0, u "java/lang/Cloneable"), (0, .class_ 406), (0, u "java/io/Serializable"), (6, u "RED"), (2, u "BLACK"), (1, u "serialVersionUID"), (0, u "J"), (8, u "(Ljava/util/Comparator;)V"), (128, u "replaceAll"), (0, u "(Ljava/util/function/BiFunction;)V"), (75, .class_ 635), (0, u "java/util/TreeMap$EntrySpliterator"), (0, .class_ 637), (0, u "java/util/TreeMap$ValueSpliterator"), (0, .class_ 639), (0, u "java/util/TreeMap$TreeMapSpliterator"), (0, .class_ 641), (0, u "java/util/TreeMap$SubMap"), (0, .class_ 643), (0, u "java/util/TreeMap$DescendingSubMap$DescendingEntrySetView"), (0, .class_ 645), (0, u "java/util/TreeMap$AscendingSubMap$AscendingEntrySetView"), (0, .class_ 647), (0, u "java/util/TreeMap$NavigableSubMap$DescendingSubMapKeyIterator"), (0, .class_ 649), (0, u "java/util/TreeMap$NavigableSubMap$SubMapKeyIterator"), (0, .class_ 651), (0, u "java/util/TreeMap$NavigableSubMap$DescendingSubMapEntryIterator"), (0, .class_ 653), (0, u "java/util/TreeMap$NavigableSubMap$SubMapEntryIterator"), (0, .class_ 655), (0, u "java/util/TreeMap$NavigableSubMap$SubMapIterator"), (0, .class_ 657), (0, u "java/util/TreeMap$NavigableSubMap$EntrySetView"), (0, .class_ 659), (0, u "java/util/TreeMap$ValueIterator"), (0, .class_ 661), (0, u "java/util/TreeMap$EntryIterator"), (0, .class_ 663), (0, u "java/util/TreeMap$PrivateEntryIterator")] 28

def k25m0 : Method := { name := "<init>", desc := "()V", sig := { parameters := [], returnType := none }, accessFlags := 1, code := none }
def k25c1 : Code := { maxStack := 2, maxLocals := 2, code := jdk_2729_method_2_code, exceptionTable := #[], attributes := #[] }
def k25m1 : Method := { name := "<init>", desc := "(Ljava/util/Comparator;)V", sig := { parameters := [(.object "java/util/Comparator")], returnType := none }, accessFlags := 1, code := some k25c1 }
def k25c2 : Code := { maxStack := 4, maxLocals := 4, code := jdk_2729_method_64_code, exceptionTable := #[], attributes := #[] }
def k25m2 : Method := { name := "replaceAll", desc := "(Ljava/util/function/BiFunction;)V", sig := { parameters := [(.object "java/util/function/BiFunction")], returnType := none }, accessFlags := 1, code := some k25c2 }
def k25c3 : Code := { maxStack := 1, maxLocals := 2, code := jdk_2729_method_72_code, exceptionTable := #[], attributes := #[] }
def k25m3 : Method := { name := "getFirstEntry", desc := "()Ljava/util/TreeMap$Entry;", sig := { parameters := [], returnType := some (.object "java/util/TreeMap$Entry") }, accessFlags := 16, code := some k25c3 }
/-- java/util/TreeMap -/
def k25 : Class := { plain "java/util/TreeMap" (some 14) with
  accessFlags := 33
  interfaces := #[24, 9, 10]
  cf := some (fileOf pool25 8 #[.nestMembers #[634, 636, 396, 391, 638, 59, 640, 245, 642, 250, 644, 388, 646, 648, 650, 652, 654, 656, 274, 269, 658, 660, 662, 222, 242, 237]] #[{ accessFlags := 1, nameIndex := 5, descriptorIndex := 6, attributes := #[] }, { accessFlags := 1, nameIndex := 5, descriptorIndex := 428, attributes := #[] }, { accessFlags := 1, nameIndex := 557, descriptorIndex := 558, attributes := #[] }, { accessFlags := 16, nameIndex := 56, descriptorIndex := 57, attributes := #[] }] 33 2 #[231, 403, 405] #[{ accessFlags := 18, nameIndex := 18, descriptorIndex := 19, attributes := #[] }, { accessFlags := 130, nameIndex := 103, descriptorIndex := 104, attributes := #[] }, { accessFlags := 130, nameIndex := 11, descriptorIndex := 12, attributes := #[] }, { accessFlags := 130, nameIndex := 15, descriptorIndex := 12, attributes := #[] }, { accessFlags := 130, nameIndex := 34, descriptorIndex := 190, attributes := #[] }, { accessFlags := 130, nameIndex := 193, descriptorIndex := 194, attributes := #[] }, { accessFlags := 130, nameIndex := 197, descriptorIndex := 198, attributes := #[] }, { accessFlags := 26, nameIndex := 402, descriptorIndex := 63, attributes := #[] }, { accessFlags := 26, nameIndex := 413, descriptorIndex := 293, attributes := #[] }, { accessFlags := 26, nameIndex := 416, descriptorIndex := 293, attributes := #[] }, { accessFlags := 26, nameIndex := 418, descriptorIndex := 419, attributes := #[] }])
  fields := #[{ name := "comparator", type := (.object "java/util/Comparator"), accessFlags := 18, slot := 2, constantValue := 0 }, { name := "root", type := (.object "java/util/TreeMap$Entry"), accessFlags := 130, slot := 3, constantValue := 0 }, { name := "size", type := .int, accessFlags := 130, slot := 4, constantValue := 0 }, { name := "modCount", type := .int, accessFlags := 130, slot := 5, constantValue := 0 }, { name := "entrySet", type := (.object "java/util/TreeMap$EntrySet"), accessFlags := 130, slot := 6, constantValue := 0 }, { name := "navigableKeySet", type := (.object "java/util/TreeMap$KeySet"), accessFlags := 130, slot := 7, constantValue := 0 }, { name := "descendingMap", type := (.object "java/util/NavigableMap"), accessFlags := 130, slot := 8, constantValue := 0 }, { name := "UNBOUNDED", type := (.object "java/lang/Object"), accessFlags := 26, slot := 0, constantValue := 0 }, { name := "RED", type := .boolean, accessFlags := 26, slot := 1, constantValue := 0 }, { name := "BLACK", type := .boolean, accessFlags := 26, slot := 2, constantValue := 0 }, { name := "serialVersionUID", type := .long, accessFlags := 26, slot := 3, constantValue := 0 }]
  methods := #[k25m0, k25m1, k25m2, k25m3]
  instanceTypes := #[(.object "java/util/Set"), (.object "java/util/Collection"), (.object "java/util/Comparator"), (.object "java/util/TreeMap$Entry"), .int, .int, (.object "java/util/TreeMap$EntrySet"), (.object "java/util/TreeMap$KeySet"), (.object "java/util/NavigableMap")]
  staticTypes := #[(.object "java/lang/Object"), .boolean, .boolean, .long]
  resolved := Array.replicate 692 none
  mirror := some 3
  statics := none }

def pool26 : Array CpInfo := pool [(9, u "accept"), (2, .class_ 14), (1, u "java/util/function/BiConsumer"), (0, u "(Ljava/lang/Object;Ljava/lang/Object;)V"), (0, .class_ 17), (0, u "java/lang/Object")] 42

def k26m0 : Method := { name := "accept", desc := "(Ljava/lang/Object;Ljava/lang/Object;)V", sig := { parameters := [(.object "java/lang/Object"), (.object "java/lang/Object")], returnType := none }, accessFlags := 1025, code := none }
/-- java/util/function/BiConsumer -/
def k26 : Class := { plain "java/util/function/BiConsumer" (some 0) with
  accessFlags := 1537
  interfaces := #[]
  cf := some (fileOf pool26 12 #[] #[{ accessFlags := 1025, nameIndex := 9, descriptorIndex := 15, attributes := #[] }] 1537 16 #[] #[])
  fields := #[]
  methods := #[k26m0]
  instanceTypes := #[]
  staticTypes := #[]
  resolved := Array.replicate 60 none
  statics := none }

def pool27 : Array CpInfo := pool [(9, u "apply"), (2, .class_ 14), (1, u "java/util/function/BiFunction"), (0, u "(Ljava/lang/Object;Ljava/lang/Object;)Ljava/lang/Object;"), (4, .class_ 21), (0, u "java/lang/Object")] 43

def k27m0 : Method := { name := "apply", desc := "(Ljava/lang/Object;Ljava/lang/Object;)Ljava/lang/Object;", sig := { parameters := [(.object "java/lang/Object"), (.object "java/lang/Object")], returnType := some (.object "java/lang/Object") }, accessFlags := 1025, code := none }
/-- java/util/function/BiFunction -/
def k27 : Class := { plain "java/util/function/BiFunction" (some 0) with
  accessFlags := 1537
  interfaces := #[]
  cf := some (fileOf pool27 12 #[] #[{ accessFlags := 1025, nameIndex := 9, descriptorIndex := 15, attributes := #[] }] 1537 20 #[] #[])
  fields := #[]
  methods := #[k27m0]
  instanceTypes := #[]
  staticTypes := #[]
  resolved := Array.replicate 65 none
  statics := none }

def pool28 : Array CpInfo := pool [(2, .class_ 4), (1, u "java/lang/Object"), (0, u "<init>"), (0, u "()V"), (12, .class_ 20), (0, u "java/util/Collections"), (63, u "r"), (0, u "Ljava/util/Random;"), (77, .nameAndType 164 165), (0, u "getClass"), (0, u "()Ljava/lang/Class;"), (0, .class_ 167), (0, u "java/util/Collections$UnmodifiableCollection"), (6, .class_ 175), (0, u "java/util/Collections$UnmodifiableSequencedCollection"), (6, .class_ 183), (0, u "java/util/Collections$UnmodifiableSet"), (6, .class_ 191), (0, u "java/util/Collections$UnmodifiableSequencedSet"), (6, .class_ 199), (0, u "java/util/Collections$UnmodifiableSortedSet"), (6, .class_ 207), (0, u "java/util/Collections$UnmodifiableNavigableSet"), (4, .class_ 213), (0, u "java/util/Collections$UnmodifiableList"), (1, .class_ 216), (0, u "java/util/Collections$UnmodifiableRandomAccessList"), (3, .interfaceMethodref 221 163), (0, .class_ 222), (0, u "java/util/Map"), (0, .class_ 224), (0, u "java/util/Collections$UnmodifiableMap"), (0, .methodref 223 226), (0, .nameAndType 5 227), (0, u "(Ljava/util/Map;)V"), (3, .class_ 232), (0, u "java/util/Collections$UnmodifiableSequencedMap"), (4, .class_ 238), (0, u "java/util/Collections$UnmodifiableSortedMap"), (6, .class_ 246), (0, u "java/util/Collections$UnmodifiableNavigableMap"), (3, .class_ 251), (0, u "java/util/Collections$SynchronizedCollection"), (4, .class_ 257), (0, u "java/util/Collections$SynchronizedSet"), (4, .class_ 263), (0, u "java/util/Collections$SynchronizedSortedSet"), (1, .class_ 266), (0, u "java/util/Collections$SynchronizedNavigableSet"), (1, .class_ 269), (0, u "java/util/Collections$SynchronizedRandomAccessList"), (1, .class_ 272), (0, u "java/util/Collections$SynchronizedList"), (5, .class_ 279), (0, u "java/util/Collections$SynchronizedMap"), (1, .class_ 282), (0, u "java/util/Collections$SynchronizedSortedMap"), (1, .class_ 285), (0, u "java/util/Collections$SynchronizedNavigableMap"), (1, .class_ 288), (0, u "java/util/Collections$CheckedCollection"), (11, .class_ 301), (0, u "java/util/Collections$CheckedQueue"), (3, .class_ 306), (0, u "java/util/Collections$CheckedSet"), (3, .class_ 311), (0, u "java/util/Collections$CheckedSortedSet"), (3, .class_ 316), (0, u "java/util/Collections$CheckedNavigableSet"), (3, .class_ 321), (0, u "java/util/Collections$CheckedRandomAccessList"), (3, .class_ 326), (0, u "java/util/Collections$CheckedList"), (1, .class_ 329), (0, u "java/util/Collections$CheckedMap"), (3, .class_ 334), (0, u "java/util/Collections$CheckedSortedMap"), (3, .class_ 339), (0, u "java/util/Collections$CheckedNavigableMap"), (4, .class_ 346), (1, u "java/util/Collections$EmptyIterator"), (3, .class_ 352), (1, u "java/util/Collections$EmptyListIterator"), (2, .class_ 357), (1, u "java/util/Collections$EmptyEnumeration"), (4, u "EMPTY_SET"), (0, u "Ljava/util/Set;"), (6, u "EMPTY_LIST"), (0, u "Ljava/util/List;"), (2, u "EMPTY_MAP"), (0, u "Ljava/util/Map;"), (4, .class_ 381), (0, u "java/util/Collections$SingletonSet"), (2, .class_ 385), (0, u "java/util/Collections$1"), (1, .class_ 388), (0, u "java/util/Collections$2"), (1, .class_ 391), (0, u "java/util/Collections$SingletonList"), (1, .class_ 394), (0, u "java/util/Collections$SingletonMap"), (22, .class_ 418), (0, u "java/util/Collections$CopiesList"), (4, .class_ 425), (1, u "java/util/Collections$ReverseComparator"), (8, .class_ 435), (0, u "java/util/Collections$ReverseComparator2"), (6, .class_ 443), (0, u "java/util/Collections$3"), (25, .class_ 470), (0, u "java/util/Collections$SetFromMap"), (2, .class_ 474), (0, u "java/util/Collections$SequencedSetFromMap"), (3, .class_ 479), (0, u "java/util/Collections$AsLIFOQueue"), (11, .class_ 492), (0, u "java/util/Collections$EmptySet"), (1, .class_ 495), (0, u "java/util/Collections$EmptyList"), (1, .class_ 498), (0, u "java/util/Collections$EmptyMap"), (1, u "BINARYSEARCH_THRESHOLD"), (0, u "I"), (2, u "REVERSE_THRESHOLD"), (1, u "SHUFFLE_THRESHOLD"), (1, u "FILL_THRESHOLD"), (1, u "ROTATE_THRESHOLD"), (1, u "COPY_THRESHOLD"), (1, u "REPLACEALL_THRESHOLD"), (1, u "INDEXOFSUBLIST_THRESHOLD"), (132, u "unmodifiableMap"), (0, u "(Ljava/util/Map;)Ljava/util/Map;"), (199, .class_ 851), (0, u "java/util/Collections$CheckedMap$CheckedEntrySet"), (0, .class_ 853), (0, u "java/util/Collections$CheckedMap$CheckedEntrySet$CheckedEntry"), (0, .class_ 855), (0, u "java/util/Collections$CheckedMap$CheckedEntrySet$1"), (0, .class_ 857), (0, u "java/util/Collections$CheckedList$1"), (0, .class_ 859), (0, u "java/util/Collections$CheckedCollection$1"), (0, .class_ 861), (0, u "java/util/Collections$UnmodifiableNavigableMap$EmptyNavigableMap"), (0, .class_ 863), (0, u "java/util/Collections$UnmodifiableMap$UnmodifiableEntrySet"), (0, .class_ 865), (0, u "java/util/Collections$UnmodifiableMap$UnmodifiableEntrySet$UnmodifiableEntry"), (0, .class_ 867), (0, u "java/util/Collections$UnmodifiableMap$UnmodifiableEntrySet$UnmodifiableEntrySetSpliterator"), (0, .class_ 869), (0, u "java/util/Collections$UnmodifiableMap$UnmodifiableEntrySet$1"), (0, .class_ 871), (0, u "java/util/Collections$UnmodifiableList$1"), (0, .class_ 873), (0, u "java/util/Collections$UnmodifiableNavigableSet$EmptyNavigableSet"), (0, .class_ 875), (0, u "java/util/Collections$UnmodifiableCollection$1")] 57

def k28m0 : Method := { name := "<init>", desc := "()V", sig := { parameters := [], returnType := none }, accessFlags := 2, code := none }
def k28c1 : Code := { maxStack := 3, maxLocals := 1, code := jdk_79_method_36_code, exceptionTable := #[], attributes := #[] }
def k28m1 : Method := { name := "unmodifiableMap", desc := "(Ljava/util/Map;)Ljava/util/Map;", sig := { parameters := [(.object "java/util/Map")], returnType := some (.object "java/util/Map") }, accessFlags := 9, code := some k28c1 }
/-- java/util/Collections -/
def k28 : Class := { plain "java/util/Collections" (some 0) with
  accessFlags := 33
  interfaces := #[]
  cf := some (fileOf pool28 19 #[.nestMembers #[478, 473, 469, 434, 423, 417, 393, 390, 380, 497, 494, 491, 355, 350, 344, 338, 333, 328, 850, 852, 854, 320, 325, 856, 315, 310, 305, 300, 287, 858, 284, 281, 278, 268, 271, 265, 262, 256, 250, 245, 860, 237, 231, 223, 862, 864, 866, 868, 215, 212, 870, 206, 872, 198, 190, 182, 174, 166, 874, 442, 387, 384]] #[{ accessFlags := 2, nameIndex := 5, descriptorIndex := 6, attributes := #[] }, { accessFlags := 9, nameIndex := 649, descriptorIndex := 650, attributes := #[] }] 33 2 #[] #[{ accessFlags := 26, nameIndex := 500, descriptorIndex := 501, attributes := #[] }, { accessFlags := 26, nameIndex := 504, descriptorIndex := 501, attributes := #[] }, { accessFlags := 26, nameIndex := 506, descriptorIndex := 501, attributes := #[] }, { accessFlags := 26, nameIndex := 508, descriptorIndex := 501, attributes := #[] }, { accessFlags := 26, nameIndex := 510, descriptorIndex := 501, attributes := #[] }, { accessFlags := 26, nameIndex := 512, descriptorIndex := 501, attributes := #[] }, { accessFlags := 26, nameIndex := 514, descriptorIndex := 501, attributes := #[] }, { accessFlags := 26, nameIndex := 516, descriptorIndex := 501, attributes := #[] }, { accessFlags := 10, nameIndex := 84, descriptorIndex := 85, attributes := #[] }, { accessFlags := 25, nameIndex := 362, descriptorIndex := 363, attributes := #[] }, { accessFlags := 25, nameIndex := 370, descriptorIndex := 371, attributes := #[] }, { accessFlags := 25, nameIndex := 374, descriptorIndex := 375, attributes := #[] }])
  fields := #[{ name := "BINARYSEARCH_THRESHOLD", type := .int, accessFlags := 26, slot := 0, constantValue := 0 }, { name := "REVERSE_THRESHOLD", type := .int, accessFlags := 26, slot := 1, constantValue := 0 }, { name := "SHUFFLE_THRESHOLD", type := .int, accessFlags := 26, slot := 2, constantValue := 0 }, { name := "FILL_THRESHOLD", type := .int, accessFlags := 26, slot := 3, constantValue := 0 }, { name := "ROTATE_THRESHOLD", type := .int, accessFlags := 26, slot := 4, constantValue := 0 }, { name := "COPY_THRESHOLD", type := .int, accessFlags := 26, slot := 5, constantValue := 0 }, { name := "REPLACEALL_THRESHOLD", type := .int, accessFlags := 26, slot := 6, constantValue := 0 }, { name := "INDEXOFSUBLIST_THRESHOLD", type := .int, accessFlags := 26, slot := 7, constantValue := 0 }, { name := "r", type := (.object "java/util/Random"), accessFlags := 10, slot := 8, constantValue := 0 }, { name := "EMPTY_SET", type := (.object "java/util/Set"), accessFlags := 25, slot := 9, constantValue := 0 }, { name := "EMPTY_LIST", type := (.object "java/util/List"), accessFlags := 25, slot := 10, constantValue := 0 }, { name := "EMPTY_MAP", type := (.object "java/util/Map"), accessFlags := 25, slot := 11, constantValue := 0 }]
  methods := #[k28m0, k28m1]
  instanceTypes := #[]
  staticTypes := #[.int, .int, .int, .int, .int, .int, .int, .int, (.object "java/util/Random"), (.object "java/util/Set"), (.object "java/util/List"), (.object "java/util/Map")]
  resolved := Array.replicate 933 none
  statics := none }

def pool29 : Array CpInfo := pool [(1, .methodref 2 3), (0, .class_ 4), (0, .nameAndType 5 6), (0, u "java/lang/Object"), (0, u "<init>"), (0, u "()V"), (3, .fieldref 11 12), (0, .class_ 13), (0, .nameAndType 14 15), (0, u "java/util/Collections$UnmodifiableMap"), (0, u "m"), (0, u "Ljava/util/Map;"), (1, .class_ 19), (1, u "java/util/Map"), (22, u "keySet"), (0, u "Ljava/util/Set;"), (4, .class_ 50), (1, u "java/util/Collections"), (4, u "entrySet"), (9, u "values"), (0, u "Ljava/util/Collection;"), (25, .class_ 93), (0, u "java/io/Serializable"), (0, u "serialVersionUID"), (0, u "J"), (8, u "(Ljava/util/Map;)V")] 70

def k29c0 : Code := { maxStack := 2, maxLocals := 2, code := jdk_2500_method_1_code, exceptionTable := #[], attributes := #[] }
def k29m0 : Method := { name := "<init>", desc := "(Ljava/util/Map;)V", sig := { parameters := [(.object "java/util/Map")], returnType := none }, accessFlags := 0, code := some k29c0 }
/-- java/util/Collections$UnmodifiableMap -/
def k29 : Class := { plain "java/util/Collections$UnmodifiableMap" (some 0) with
  accessFlags := 32
  interfaces := #[13, 10]
  cf := some (fileOf pool29 11 #[.nestHost 48] #[{ accessFlags := 0, nameIndex := 5, descriptorIndex := 104, attributes := #[] }] 32 2 #[17, 92] #[{ accessFlags := 26, nameIndex := 94, descriptorIndex := 95, attributes := #[] }, { accessFlags := 16, nameIndex := 14, descriptorIndex := 15, attributes := #[] }, { accessFlags := 130, nameIndex := 42, descriptorIndex := 43, attributes := #[] }, { accessFlags := 130, nameIndex := 55, descriptorIndex := 43, attributes := #[] }, { accessFlags := 130, nameIndex := 65, descriptorIndex := 66, attributes := #[] }])
  fields := #[{ name := "serialVersionUID", type := .long, accessFlags := 26, slot := 0, constantValue := 0 }, { name := "m", type := (.object "java/util/Map"), accessFlags := 16, slot := 0, constantValue := 0 }, { name := "keySet", type := (.object "java/util/Set"), accessFlags := 130, slot := 1, constantValue := 0 }, { name := "entrySet", type := (.object "java/util/Set"), accessFlags := 130, slot := 2, constantValue := 0 }, { name := "values", type := (.object "java/util/Collection"), accessFlags := 130, slot := 3, constantValue := 0 }]
  methods := #[k29m0]
  instanceTypes := #[(.object "java/util/Map"), (.object "java/util/Set"), (.object "java/util/Set"), (.object "java/util/Collection")]
  staticTypes := #[.long]
  resolved := Array.replicate 175 none
  mirror := some 4
  statics := none }

def pool30 : Array CpInfo := pool [(1, .methodref 2 3), (0, .class_ 4), (0, .nameAndType 5 6), (0, u "java/lang/Object"), (0, u "<init>"), (0, u "()V"), (0, .fieldref 8 9), (0, .class_ 10), (0, .nameAndType 11 12), (0, u "com/example/verbatim_replay/verbatimreplay/Claim"), (0, u "outcome"), (0, u "Lcom/example/verbatim_replay/verbatimreplay/Claim$Outcome;"), (0, .fieldref 8 14), (0, .nameAndType 15 16), (0, u "execution"), (0, u "Lcom/example/verbatim_replay/verbatimreplay/Execution;"), (0, .fieldref 8 18), (0, .nameAndType 19 20), (0, u "response"), (0, u "Lcom/example/verbatim_replay/verbatimreplay/StoredResponse;"), (1, .class_ 24), (1, u "com/example/verbatim_replay/verbatimreplay/Claim$Outcome"), (2, .methodref 28 29), (0, .class_ 30), (0, .nameAndType 31 32), (0, u "java/util/Objects"), (0, u "requireNonNull"), (0, u "(Ljava/lang/Object;Ljava/lang/String;)Ljava/lang/Object;"), (2, .methodref 8 36), (0, .nameAndType 5 37), (0, u "(Lcom/example/verbatim_replay/verbatimreplay/Claim$Outcome;Lcom/example/verbatim_replay/verbatimreplay/Execution;Lcom/example/verbatim_replay/verbatimreplay/StoredResponse;)V"), (2, u "IN_FLIGHT"), (0, u "Lcom/example/verbatim_replay/verbatimreplay/Claim;"), (2, u "MISMATCH"), (0, .fieldref 22 46), (0, .nameAndType 47 12), (0, u "COMPLETED"), (0, .string 19), (0, .class_ 50), (0, u "com/example/verbatim_replay/verbatimreplay/StoredResponse"), (6, u "completed"), (0, u "(Lcom/example/verbatim_replay/verbatimreplay/StoredResponse;)Lcom/example/verbatim_replay/verbatimreplay/Claim;"), (30, u "()Lcom/example/verbatim_replay/verbatimreplay/Claim$Outcome;"), (1, u "()Lcom/example/verbatim_replay/verbatimreplay/StoredResponse;")] 22

def k30c0 : Code := { maxStack := 2, maxLocals := 4, code := prog_1_method_1_code, exceptionTable := #[], attributes := #[] }
def k30m0 : Method := { name := "<init>", desc := "(Lcom/example/verbatim_replay/verbatimreplay/Claim$Outcome;Lcom/example/verbatim_replay/verbatimreplay/Execution;Lcom/example/verbatim_replay/verbatimreplay/StoredResponse;)V", sig := { parameters := [(.object "com/example/verbatim_replay/verbatimreplay/Claim$Outcome"), (.object "com/example/verbatim_replay/verbatimreplay/Execution"), (.object "com/example/verbatim_replay/verbatimreplay/StoredResponse")], returnType := none }, accessFlags := 2, code := some k30c0 }
def k30c1 : Code := { maxStack := 6, maxLocals := 1, code := prog_1_method_5_code, exceptionTable := #[], attributes := #[] }
def k30m1 : Method := { name := "completed", desc := "(Lcom/example/verbatim_replay/verbatimreplay/StoredResponse;)Lcom/example/verbatim_replay/verbatimreplay/Claim;", sig := { parameters := [(.object "com/example/verbatim_replay/verbatimreplay/StoredResponse")], returnType := some (.object "com/example/verbatim_replay/verbatimreplay/Claim") }, accessFlags := 9, code := some k30c1 }
def k30c2 : Code := { maxStack := 1, maxLocals := 1, code := prog_1_method_7_code, exceptionTable := #[], attributes := #[] }
def k30m2 : Method := { name := "outcome", desc := "()Lcom/example/verbatim_replay/verbatimreplay/Claim$Outcome;", sig := { parameters := [], returnType := some (.object "com/example/verbatim_replay/verbatimreplay/Claim$Outcome") }, accessFlags := 1, code := some k30c2 }
def k30c3 : Code := { maxStack := 3, maxLocals := 1, code := prog_1_method_9_code, exceptionTable := #[], attributes := #[] }
def k30m3 : Method := { name := "response", desc := "()Lcom/example/verbatim_replay/verbatimreplay/StoredResponse;", sig := { parameters := [], returnType := some (.object "com/example/verbatim_replay/verbatimreplay/StoredResponse") }, accessFlags := 1, code := some k30c3 }
/-- com/example/verbatim_replay/verbatimreplay/Claim -/
def k30 : Class := { plain "com/example/verbatim_replay/verbatimreplay/Claim" (some 0) with
  accessFlags := 49
  interfaces := #[]
  cf := some (fileOf pool30 8 #[.nestMembers #[22]] #[{ accessFlags := 2, nameIndex := 5, descriptorIndex := 37, attributes := #[] }, { accessFlags := 9, nameIndex := 57, descriptorIndex := 58, attributes := #[] }, { accessFlags := 1, nameIndex := 11, descriptorIndex := 89, attributes := #[] }, { accessFlags := 1, nameIndex := 19, descriptorIndex := 91, attributes := #[] }] 49 2 #[] #[{ accessFlags := 26, nameIndex := 40, descriptorIndex := 41, attributes := #[] }, { accessFlags := 26, nameIndex := 44, descriptorIndex := 41, attributes := #[] }, { accessFlags := 18, nameIndex := 11, descriptorIndex := 12, attributes := #[] }, { accessFlags := 18, nameIndex := 15, descriptorIndex := 16, attributes := #[] }, { accessFlags := 18, nameIndex := 19, descriptorIndex := 20, attributes := #[] }])
  fields := #[{ name := "IN_FLIGHT", type := (.object "com/example/verbatim_replay/verbatimreplay/Claim"), accessFlags := 26, slot := 0, constantValue := 0 }, { name := "MISMATCH", type := (.object "com/example/verbatim_replay/verbatimreplay/Claim"), accessFlags := 26, slot := 1, constantValue := 0 }, { name := "outcome", type := (.object "com/example/verbatim_replay/verbatimreplay/Claim$Outcome"), accessFlags := 18, slot := 0, constantValue := 0 }, { name := "execution", type := (.object "com/example/verbatim_replay/verbatimreplay/Execution"), accessFlags := 18, slot := 1, constantValue := 0 }, { name := "response", type := (.object "com/example/verbatim_replay/verbatimreplay/StoredResponse"), accessFlags := 18, slot := 2, constantValue := 0 }]
  methods := #[k30m0, k30m1, k30m2, k30m3]
  instanceTypes := #[(.object "com/example/verbatim_replay/verbatimreplay/Claim$Outcome"), (.object "com/example/verbatim_replay/verbatimreplay/Execution"), (.object "com/example/verbatim_replay/verbatimreplay/StoredResponse")]
  staticTypes := #[(.object "com/example/verbatim_replay/verbatimreplay/Claim"), (.object "com/example/verbatim_replay/verbatimreplay/Claim")]
  resolved := Array.replicate 114 none
  statics := none }

def pool31 : Array CpInfo := pool [(2, .class_ 4), (1, u "java/lang/Enum"), (0, u "name"), (0, u "Ljava/lang/String;"), (2, u "ordinal"), (0, u "I"), (1, .class_ 14), (1, u "java/lang/Object"), (4, u "hash"), (86, .class_ 108), (1, u "java/lang/Enum$EnumDesc"), (2, .class_ 112), (0, u "java/lang/constant/Constable"), (0, .class_ 114), (0, u "java/lang/Comparable"), (0, .class_ 116), (0, u "java/io/Serializable")] 87

/-- java/lang/Enum -/
def k31 : Class := { plain "java/lang/Enum" (some 0) with
  accessFlags := 1057
  interfaces := #[18, 16, 10]
  cf := some (fileOf pool31 2 #[.nestMembers #[106]] #[] 1057 12 #[111, 113, 115] #[{ accessFlags := 18, nameIndex := 5, descriptorIndex := 6, attributes := #[] }, { accessFlags := 18, nameIndex := 9, descriptorIndex := 10, attributes := #[] }, { accessFlags := 2, nameIndex := 19, descriptorIndex := 10, attributes := #[] }])
  fields := #[{ name := "name", type := (.object "java/lang/String"), accessFlags := 18, slot := 0, constantValue := 0 }, { name := "ordinal", type := .int, accessFlags := 18, slot := 1, constantValue := 0 }, { name := "hash", type := .int, accessFlags := 2, slot := 2, constantValue := 0 }]
  methods := #[]
  instanceTypes := #[(.object "java/lang/String"), .int, .int]
  staticTypes := #[]
  resolved := Array.replicate 204 none
  statics := none }

def pool32 : Array CpInfo := pool [(1, .class_ 2), (0, u "com/example/verbatim_replay/verbatimreplay/Claim$Outcome"), (2, u "GRANTED"), (0, u "Lcom/example/verbatim_replay/verbatimreplay/Claim$Outcome;"), (2, u "IN_FLIGHT"), (2, u "COMPLETED"), (2, u "MISMATCH"), (2, u "$VALUES"), (0, u "[Lcom/example/verbatim_replay/verbatimreplay/Claim$Outcome;"), (6, .class_ 28), (1, u "java/lang/Enum"), (27, .class_ 57), (0, u "com/example/verbatim_replay/verbatimreplay/Claim")] 2

/-- com/example/verbatim_replay/verbatimreplay/Claim$Outcome -/
def k32 : Class := { plain "com/example/verbatim_replay/verbatimreplay/Claim$Outcome" (some 31) with
  accessFlags := 16433
  interfaces := #[]
  cf := some (fileOf pool32 1 #[.nestHost 56] #[] 16433 26 #[] #[{ accessFlags := 16409, nameIndex := 5, descriptorIndex := 6, attributes := #[] }, { accessFlags := 16409, nameIndex := 9, descriptorIndex := 6, attributes := #[] }, { accessFlags := 16409, nameIndex := 12, descriptorIndex := 6, attributes := #[] }, { accessFlags := 16409, nameIndex := 15, descriptorIndex := 6, attributes := #[] }, { accessFlags := 4122, nameIndex := 18, descriptorIndex := 19, attributes := #[] }])
  fields := #[{ name := "GRANTED", type := (.object "com/example/verbatim_replay/verbatimreplay/Claim$Outcome"), accessFlags := 16409, slot := 0, constantValue := 0 }, { name := "IN_FLIGHT", type := (.object "com/example/verbatim_replay/verbatimreplay/Claim$Outcome"), accessFlags := 16409, slot := 1, constantValue := 0 }, { name := "COMPLETED", type := (.object "com/example/verbatim_replay/verbatimreplay/Claim$Outcome"), accessFlags := 16409, slot := 2, constantValue := 0 }, { name := "MISMATCH", type := (.object "com/example/verbatim_replay/verbatimreplay/Claim$Outcome"), accessFlags := 16409, slot := 3, constantValue := 0 }, { name := "$VALUES", type := (.array (.object "com/example/verbatim_replay/verbatimreplay/Claim$Outcome")), accessFlags := 4122, slot := 4, constantValue := 0 }]
  methods := #[]
  instanceTypes := #[(.object "java/lang/String"), .int, .int]
  staticTypes := #[(.object "com/example/verbatim_replay/verbatimreplay/Claim$Outcome"), (.object "com/example/verbatim_replay/verbatimreplay/Claim$Outcome"), (.object "com/example/verbatim_replay/verbatimreplay/Claim$Outcome"), (.object "com/example/verbatim_replay/verbatimreplay/Claim$Outcome"), (.array (.object "com/example/verbatim_replay/verbatimreplay/Claim$Outcome"))]
  resolved := Array.replicate 60 none
  statics := some 2 }

def pool33 : Array CpInfo := pool [(19, .class_ 20), (0, u "java/util/Comparator"), (84, .class_ 106), (0, u "java/lang/Object")] 181

/-- java/util/Comparator -/
def k33 : Class := { plain "java/util/Comparator" (some 0) with
  accessFlags := 1537
  interfaces := #[]
  cf := some (fileOf pool33 19 #[] #[] 1537 105 #[] #[])
  fields := #[]
  methods := #[]
  instanceTypes := #[]
  staticTypes := #[]
  resolved := Array.replicate 288 none
  statics := none }

def pool34 : Array CpInfo := pool [(1, .class_ 2), (0, u "java/lang/String"), (1, .class_ 6), (1, u "java/lang/Object"), (0, u "<init>"), (0, u "()V"), (28, .class_ 39), (1, u "java/lang/String$CaseInsensitiveComparator"), (2, .class_ 43), (0, u "java/util/Comparator"), (0, .class_ 45), (0, u "java/io/Serializable"), (0, u "serialVersionUID"), (0, u "J")] 27

def k34m0 : Method := { name := "<init>", desc := "()V", sig := { parameters := [], returnType := none }, accessFlags := 2, code := none }
/-- java/lang/String$CaseInsensitiveComparator -/
def k34 : Class := { plain "java/lang/String$CaseInsensitiveComparator" (some 0) with
  accessFlags := 32
  interfaces := #[33, 10]
  cf := some (fileOf pool34 37 #[.nestHost 1] #[{ accessFlags := 2, nameIndex := 7, descriptorIndex := 8, attributes := #[] }] 32 4 #[42, 44] #[{ accessFlags := 26, nameIndex := 46, descriptorIndex := 47, attributes := #[] }])
  fields := #[{ name := "serialVersionUID", type := .long, accessFlags := 26, slot := 0, constantValue := 0 }]
  methods := #[k34m0]
  instanceTypes := #[]
  staticTypes := #[.long]
  resolved := Array.replicate 75 none
  statics := none }

def pool35 : Array CpInfo := pool [(1, u "java/lang/Class"), (0, .class_ 1), (0, u "java/lang/Object"), (0, .class_ 3)] 0

/-- java/lang/Class -/
def k35 : Class := { plain "java/lang/Class" (some 0) with
  accessFlags := 49
  interfaces := #[]
  cf := some (fileOf pool35 2 #[] #[] 49 4 #[] #[])
  fields := #[]
  methods := #[]
  instanceTypes := #[]
  staticTypes := #[]
  resolved := Array.replicate 5 none
  statics := none }

/-- the primitive byte -/
def k36 : Class := { plain "byte" none with kind := .primitive 'B', accessFlags := 0x411 }
/-- [B -/
def k37 : Class := { plain "[B" (some 0) with kind := .array 36 .byte, interfaces := #[9, 10], accessFlags := 1041 }

/-- the primitive int -/
def k38 : Class := { plain "int" none with kind := .primitive 'I', accessFlags := 0x411 }
/-- [I -/
def k39 : Class := { plain "[I" (some 0) with kind := .array 38 .int, interfaces := #[9, 10], accessFlags := 1041 }

/-- [Ljava/lang/Object; -/
def k40 : Class := { plain "[Ljava/lang/Object;" (some 0) with kind := .array 0 (.object "java/lang/Object"), interfaces := #[9, 10], accessFlags := 1041 }

def classes0 : Array Class := #[k0, k1, k2, k3, k4, k5, k6, k7, k8, k9, k10, k11, k12, k13, k14, k15, k16, k17, k18, k19, k20, k21, k22, k23, k24, k25, k26, k27, k28, k29, k30, k31, k32, k33, k34, k35, k36, k37, k38, k39, k40]
/-- the class that the rule has made for the site at 53 of com/example/verbatim_replay/verbatimreplay/StoredResponse.<init> -/
def k41 : Class := Jvm.LamKit.madeRec { classes := classes0 } "com/example/verbatim_replay/verbatimreplay/StoredResponse" (Jvm.Lambda.Shape.mk "java/util/function/BiConsumer" "accept" (Jvm.ClassFile.MethodDescriptor.mk ([(Jvm.ClassFile.FieldType.object "java/lang/Object"), (Jvm.ClassFile.FieldType.object "java/lang/Object")] : List Jvm.ClassFile.FieldType) (Option.none : Option Jvm.ClassFile.FieldType)) ([(Jvm.ClassFile.FieldType.object "java/util/Map")] : List Jvm.ClassFile.FieldType) (6 : Nat) "com/example/verbatim_replay/verbatimreplay/StoredResponse" "lambda$new$1" (Jvm.ClassFile.MethodDescriptor.mk ([(Jvm.ClassFile.FieldType.object "java/util/Map"), (Jvm.ClassFile.FieldType.object "java/lang/String"), (Jvm.ClassFile.FieldType.object "java/util/List")] : List Jvm.ClassFile.FieldType) (Option.none : Option Jvm.ClassFile.FieldType)) false (Jvm.ClassFile.MethodDescriptor.mk ([(Jvm.ClassFile.FieldType.object "java/lang/String"), (Jvm.ClassFile.FieldType.object "java/util/List")] : List Jvm.ClassFile.FieldType) (Option.none : Option Jvm.ClassFile.FieldType))) 41

/-- the class that the rule has made for the site at 65 of com/example/verbatim_replay/verbatimreplay/StoredResponse.<init> -/
def k42 : Class := Jvm.LamKit.madeRec { classes := classes0 } "com/example/verbatim_replay/verbatimreplay/StoredResponse" (Jvm.Lambda.Shape.mk "java/util/function/BiFunction" "apply" (Jvm.ClassFile.MethodDescriptor.mk ([(Jvm.ClassFile.FieldType.object "java/lang/Object"), (Jvm.ClassFile.FieldType.object "java/lang/Object")] : List Jvm.ClassFile.FieldType) (Option.some (Jvm.ClassFile.FieldType.object "java/lang/Object"))) ([] : List Jvm.ClassFile.FieldType) (6 : Nat) "com/example/verbatim_replay/verbatimreplay/StoredResponse" "lambda$new$2" (Jvm.ClassFile.MethodDescriptor.mk ([(Jvm.ClassFile.FieldType.object "java/lang/String"), (Jvm.ClassFile.FieldType.object "java/util/List")] : List Jvm.ClassFile.FieldType) (Option.some (Jvm.ClassFile.FieldType.object "java/util/List"))) false (Jvm.ClassFile.MethodDescriptor.mk ([(Jvm.ClassFile.FieldType.object "java/lang/String"), (Jvm.ClassFile.FieldType.object "java/util/List")] : List Jvm.ClassFile.FieldType) (Option.some (Jvm.ClassFile.FieldType.object "java/util/List")))) 42

def heap : Heap := #[{ cls := 11, slots := #[.long 0, .int 0, .ref 7, .ref 8], vm := .statics 11 },
  { cls := 20, slots := #[.long 0, .int 0, .null, .int 0, .ref 9, .int 0, .int 0], vm := .statics 20 },
  { cls := 32, slots := #[.null, .null, .ref 6, .null, .null], vm := .statics 32 },
  { cls := 35, slots := #[], vm := .mirror 25 },
  { cls := 35, slots := #[], vm := .mirror 29 },
  { cls := 42, slots := #[], vm := .none },
  { cls := 32, slots := #[.null, .int 0, .int 0], vm := .none },
  { cls := 40, slots := #[], vm := .none },
  { cls := 40, slots := #[], vm := .none },
  { cls := 34, slots := #[], vm := .none }]
def classes : Array Class := #[k0, k1, k2, k3, k4, k5, k6, k7, k8, k9, k10, k11, k12, k13, k14, k15, k16, k17, k18, k19, k20, k21, k22, k23, k24, k25, k26, k27, k28, k29, k30, k31, k32, k33, k34, k35, k36, k37, k38, k39, k40, k41, k42]
def interned : List (Array UInt16 × Addr) := []
def slotsUsed : Nat := 19
def theMethod : MethodId := ⟨1, 1⟩
def args0 : Array Value := #[.int 5, .int 3, .int 7]
def aboutOver (below : List Frame) : State where
  vm := { classes := classes, interned := interned.toArray }
  heap := heap
  slotsUsed := slotsUsed
  threads := #[{ frames := .invoking theMethod args0 :: below }]
def below0 : List Frame := [.native { method := ⟨0, 0⟩, args := #[] }]
def about1 : State := aboutOver below0
def p0 : Program := .bare "" "" ""
def e0 : Env := launch0.env 0 0 0
theorem w_frames : about1.frames = Frame.invoking theMethod args0 :: below0 := rfl
set_option maxRecDepth 65536 in
theorem w_args : argsFit about1.vm theMethod args0 = true := by decide +kernel
set_option maxRecDepth 65536 in
theorem w_heap : heapFits about1 = true := by decide +kernel
set_option maxRecDepth 65536 in
theorem w_runnable : about1.curStatus? = some .runnable := by decide +kernel
set_option maxRecDepth 65536 in
theorem w_alone : about1.alone = true := by decide +kernel
set_option maxRecDepth 65536 in
theorem w_named : about1.methodNamed? x = some theMethod := by decide +kernel
set_option maxRecDepth 65536 in
theorem w_hears : about1.hears theMethod below0 = true := by decide +kernel
set_option maxRecDepth 65536 in
theorem w_ripe : about1.ripe theMethod args0 below0 = true := by decide +kernel
theorem w_running : about1.status = .running := rfl
set_option maxRecDepth 65536 in
theorem w_room : about1.hasRoom e0.platform room_1 = true :=
  launch0.hasRoom_least _ room_1 (by decide +kernel) (by decide +kernel) (by decide +kernel) (by decide +kernel) (by decide +kernel) (by decide +kernel)
theorem allAtoms_all (ts : List Jvm.Cond) (a : Array Jvm.Value) (st : Jvm.State) : (allAtoms ts).before a st = ts.all (fun c => c.before a st) := by
  induction ts with
  | nil => rfl
  | cons c t ih =>
    show (Jvm.Cond.and c (allAtoms t)).before a st = _
    rw [Jvm.Cond.before_and, ih, List.all_cons]
def words1 : List Jvm.Cond := Jvm.Cond.code x code maxLocals ret :: tables_1
/-- a 'code' word, met by the world's own term for the bytes: nothing is compared byte by byte -/
theorem code_word {y : MethodName} {bytes : ByteArray} {mx : Nat} {rt : Option FieldType} {a : Array Value} {s : State} {m : MethodId} {meth : Method} {c : Code} (h1 : s.methodNamed? y = some m) (h2 : s.vm.method? m = some meth) (h3 : meth.code = some c) (h4 : c.code = bytes)
    (h5 : (c.maxLocals == mx && c.exceptionTable.isEmpty && decide (c.maxStack ≤ mostOperands) && decide (meth.sig.returnType = rt) && !meth.locks && decide (parseMethodDescriptor y.desc = some meth.sig)) = true) : (Jvm.Cond.code y bytes mx rt).before a s = true := by
  simp only [Bool.and_eq_true, beq_iff_eq, Bool.not_eq_true', decide_eq_true_eq] at h5
  obtain ⟨⟨⟨⟨⟨g1, g2⟩, g3⟩, g4⟩, g5⟩, g6⟩ := h5
  simp [Cond.before, Cond.holds, Cond.value, h1, h2, h3, h4, g1, g2, g3, g4, g5, g6]
def isCode : Jvm.Cond → Bool
  | .code _ _ _ _ => true
  | _ => false
theorem all_split {L : List Jvm.Cond} {P : Jvm.Cond → Bool} (h1 : L.all (fun c => isCode c || P c) = true) (h2 : ∀ c ∈ L.filter isCode, P c = true) : L.all P = true := by
  refine List.all_eq_true.mpr fun c hc => ?_
  have h := List.all_eq_true.mp h1 c hc
  rcases Bool.eq_false_or_eq_true (isCode c) with hi | hi
  · exact h2 c (List.mem_filter.mpr ⟨hc, hi⟩)
  · simpa [hi] using h
set_option maxRecDepth 65536 in
theorem w_c0 : (Jvm.Cond.code x code maxLocals ret).before args0 about1 = true := code_word (m := ⟨1, 1⟩) (meth := k1m1) (c := k1c1) (by decide +kernel) rfl rfl rfl (by decide +kernel)
set_option maxRecDepth 65536 in
theorem w_c1 : (Jvm.Cond.code ({ cls := "java/util/ArrayList", name := "<init>", desc := "()V" } : Jvm.MethodName) jdk_38_method_2_code (1 : Nat) (Option.none : Option Jvm.ClassFile.FieldType)).before args0 about1 = true := code_word (m := ⟨11, 0⟩) (meth := k11m0) (c := k11c0) (by decide +kernel) rfl rfl rfl (by decide +kernel)
set_option maxRecDepth 65536 in
theorem w_c2 : (Jvm.Cond.code ({ cls := "java/util/AbstractList", name := "<init>", desc := "()V" } : Jvm.MethodName) jdk_39_method_1_code (1 : Nat) (Option.none : Option Jvm.ClassFile.FieldType)).before args0 about1 = true := code_word (m := ⟨7, 0⟩) (meth := k7m0) (c := k7c0) (by decide +kernel) rfl rfl rfl (by decide +kernel)
set_option maxRecDepth 65536 in
theorem w_c3 : (Jvm.Cond.code ({ cls := "java/util/AbstractCollection", name := "<init>", desc := "()V" } : Jvm.MethodName) jdk_22_method_1_code (1 : Nat) (Option.none : Option Jvm.ClassFile.FieldType)).before args0 about1 = true := code_word (m := ⟨4, 0⟩) (meth := k4m0) (c := k4c0) (by decide +kernel) rfl rfl rfl (by decide +kernel)
set_option maxRecDepth 65536 in
theorem w_c4 : (Jvm.Cond.code ({ cls := "java/lang/Object", name := "<init>", desc := "()V" } : Jvm.MethodName) object_method_1_code (1 : Nat) (Option.none : Option Jvm.ClassFile.FieldType)).before args0 about1 = true := code_word (m := ⟨0, 0⟩) (meth := k0m0) (c := k0c0) (by decide +kernel) rfl rfl rfl (by decide +kernel)
set_option maxRecDepth 65536 in
theorem w_c5 : (Jvm.Cond.code ({ cls := "com/example/verbatim_replay/verbatimreplay/StoredResponse", name := "fields", desc := "(Ljava/util/List;Ljava/util/List;)Ljava/util/Map;" } : Jvm.MethodName) prog_27_method_7_code (4 : Nat) (Option.some (Jvm.ClassFile.FieldType.object "java/util/Map"))).before args0 about1 = true := code_word (m := ⟨12, 1⟩) (meth := k12m1) (c := k12c1) (by decide +kernel) rfl rfl rfl (by decide +kernel)
set_option maxRecDepth 65536 in
theorem w_c6 : (Jvm.Cond.code ({ cls := "java/util/HashMap", name := "<init>", desc := "()V" } : Jvm.MethodName) jdk_69_method_7_code (1 : Nat) (Option.none : Option Jvm.ClassFile.FieldType)).before args0 about1 = true := code_word (m := ⟨15, 0⟩) (meth := k15m0) (c := k15c0) (by decide +kernel) rfl rfl rfl (by decide +kernel)
set_option maxRecDepth 65536 in
theorem w_c7 : (Jvm.Cond.code ({ cls := "java/util/AbstractMap", name := "<init>", desc := "()V" } : Jvm.MethodName) jdk_71_method_1_code (1 : Nat) (Option.none : Option Jvm.ClassFile.FieldType)).before args0 about1 = true := code_word (m := ⟨14, 0⟩) (meth := k14m0) (c := k14c0) (by decide +kernel) rfl rfl rfl (by decide +kernel)
set_option maxRecDepth 65536 in
theorem w_c8 : (Jvm.Cond.code ({ cls := "java/util/ArrayList", name := "size", desc := "()I" } : Jvm.MethodName) jdk_38_method_8_code (1 : Nat) (Option.some Jvm.ClassFile.FieldType.int)).before args0 about1 = true := code_word (m := ⟨11, 1⟩) (meth := k11m1) (c := k11c1) (by decide +kernel) rfl rfl rfl (by decide +kernel)
set_option maxRecDepth 65536 in
theorem w_c9 : (Jvm.Cond.code ({ cls := "com/example/verbatim_replay/verbatimreplay/StoredResponse", name := "<init>", desc := "(ILjava/util/Map;[B)V" } : Jvm.MethodName) prog_27_method_1_code (5 : Nat) (Option.none : Option Jvm.ClassFile.FieldType)).before args0 about1 = true := code_word (m := ⟨12, 0⟩) (meth := k12m0) (c := k12c0) (by decide +kernel) rfl rfl rfl (by decide +kernel)
set_option maxRecDepth 65536 in
theorem w_c10 : (Jvm.Cond.code ({ cls := "java/util/Objects", name := "requireNonNull", desc := "(Ljava/lang/Object;Ljava/lang/String;)Ljava/lang/Object;" } : Jvm.MethodName) jdk_31_method_11_code (2 : Nat) (Option.some (Jvm.ClassFile.FieldType.object "java/lang/Object"))).before args0 about1 = true := code_word (m := ⟨21, 2⟩) (meth := k21m2) (c := k21c2) (by decide +kernel) rfl rfl rfl (by decide +kernel)
set_option maxRecDepth 65536 in
theorem w_c11 : (Jvm.Cond.code ({ cls := "java/util/TreeMap", name := "<init>", desc := "(Ljava/util/Comparator;)V" } : Jvm.MethodName) jdk_2729_method_2_code (2 : Nat) (Option.none : Option Jvm.ClassFile.FieldType)).before args0 about1 = true := code_word (m := ⟨25, 1⟩) (meth := k25m1) (c := k25c1) (by decide +kernel) rfl rfl rfl (by decide +kernel)
set_option maxRecDepth 65536 in
theorem w_c12 : (Jvm.Cond.code ({ cls := "java/util/HashMap", name := "forEach", desc := "(Ljava/util/function/BiConsumer;)V" } : Jvm.MethodName) jdk_69_method_39_code (8 : Nat) (Option.none : Option Jvm.ClassFile.FieldType)).before args0 about1 = true := code_word (m := ⟨15, 1⟩) (meth := k15m1) (c := k15c1) (by decide +kernel) rfl rfl rfl (by decide +kernel)
set_option maxRecDepth 65536 in
theorem w_c13 : (Jvm.Cond.code ({ cls := "java/util/TreeMap", name := "replaceAll", desc := "(Ljava/util/function/BiFunction;)V" } : Jvm.MethodName) jdk_2729_method_64_code (4 : Nat) (Option.none : Option Jvm.ClassFile.FieldType)).before args0 about1 = true := code_word (m := ⟨25, 2⟩) (meth := k25m2) (c := k25c2) (by decide +kernel) rfl rfl rfl (by decide +kernel)
set_option maxRecDepth 65536 in
theorem w_c14 : (Jvm.Cond.code ({ cls := "java/util/Objects", name := "requireNonNull", desc := "(Ljava/lang/Object;)Ljava/lang/Object;" } : Jvm.MethodName) jdk_31_method_10_code (1 : Nat) (Option.some (Jvm.ClassFile.FieldType.object "java/lang/Object"))).before args0 about1 = true := code_word (m := ⟨21, 1⟩) (meth := k21m1) (c := k21c1) (by decide +kernel) rfl rfl rfl (by decide +kernel)
set_option maxRecDepth 65536 in
theorem w_c15 : (Jvm.Cond.code ({ cls := "java/util/TreeMap", name := "getFirstEntry", desc := "()Ljava/util/TreeMap$Entry;" } : Jvm.MethodName) jdk_2729_method_72_code (2 : Nat) (Option.some (Jvm.ClassFile.FieldType.object "java/util/TreeMap$Entry"))).before args0 about1 = true := code_word (m := ⟨25, 3⟩) (meth := k25m3) (c := k25c3) (by decide +kernel) rfl rfl rfl (by decide +kernel)
set_option maxRecDepth 65536 in
theorem w_c16 : (Jvm.Cond.code ({ cls := "java/util/Collections", name := "unmodifiableMap", desc := "(Ljava/util/Map;)Ljava/util/Map;" } : Jvm.MethodName) jdk_79_method_36_code (1 : Nat) (Option.some (Jvm.ClassFile.FieldType.object "java/util/Map"))).before args0 about1 = true := code_word (m := ⟨28, 1⟩) (meth := k28m1) (c := k28c1) (by decide +kernel) rfl rfl rfl (by decide +kernel)
set_option maxRecDepth 65536 in
theorem w_c17 : (Jvm.Cond.code ({ cls := "java/util/Collections$UnmodifiableMap", name := "<init>", desc := "(Ljava/util/Map;)V" } : Jvm.MethodName) jdk_2500_method_1_code (2 : Nat) (Option.none : Option Jvm.ClassFile.FieldType)).before args0 about1 = true := code_word (m := ⟨29, 0⟩) (meth := k29m0) (c := k29c0) (by decide +kernel) rfl rfl rfl (by decide +kernel)
set_option maxRecDepth 65536 in
theorem w_c18 : (Jvm.Cond.code ({ cls := "com/example/verbatim_replay/verbatimreplay/Claim", name := "completed", desc := "(Lcom/example/verbatim_replay/verbatimreplay/StoredResponse;)Lcom/example/verbatim_replay/verbatimreplay/Claim;" } : Jvm.MethodName) prog_1_method_5_code (1 : Nat) (Option.some (Jvm.ClassFile.FieldType.object "com/example/verbatim_replay/verbatimreplay/Claim"))).before args0 about1 = true := code_word (m := ⟨30, 1⟩) (meth := k30m1) (c := k30c1) (by decide +kernel) rfl rfl rfl (by decide +kernel)
set_option maxRecDepth 65536 in
theorem w_c19 : (Jvm.Cond.code ({ cls := "com/example/verbatim_replay/verbatimreplay/Claim", name := "<init>", desc := "(Lcom/example/verbatim_replay/verbatimreplay/Claim$Outcome;Lcom/example/verbatim_replay/verbatimreplay/Execution;Lcom/example/verbatim_replay/verbatimreplay/StoredResponse;)V" } : Jvm.MethodName) prog_1_method_1_code (4 : Nat) (Option.none : Option Jvm.ClassFile.FieldType)).before args0 about1 = true := code_word (m := ⟨30, 0⟩) (meth := k30m0) (c := k30c0) (by decide +kernel) rfl rfl rfl (by decide +kernel)
set_option maxRecDepth 65536 in
theorem w_c20 : (Jvm.Cond.code ({ cls := "com/example/verbatim_replay/verbatimreplay/Claim", name := "outcome", desc := "()Lcom/example/verbatim_replay/verbatimreplay/Claim$Outcome;" } : Jvm.MethodName) prog_1_method_7_code (1 : Nat) (Option.some (Jvm.ClassFile.FieldType.object "com/example/verbatim_replay/verbatimreplay/Claim$Outcome"))).before args0 about1 = true := code_word (m := ⟨30, 2⟩) (meth := k30m2) (c := k30c2) (by decide +kernel) rfl rfl rfl (by decide +kernel)
set_option maxRecDepth 65536 in
theorem w_c21 : (Jvm.Cond.code ({ cls := "com/example/verbatim_replay/verbatimreplay/Claim", name := "response", desc := "()Lcom/example/verbatim_replay/verbatimreplay/StoredResponse;" } : Jvm.MethodName) prog_1_method_9_code (1 : Nat) (Option.some (Jvm.ClassFile.FieldType.object "com/example/verbatim_replay/verbatimreplay/StoredResponse"))).before args0 about1 = true := code_word (m := ⟨30, 3⟩) (meth := k30m3) (c := k30c3) (by decide +kernel) rfl rfl rfl (by decide +kernel)
def codes1 : List Jvm.Cond := [Jvm.Cond.code x code maxLocals ret, Jvm.Cond.code ({ cls := "java/util/ArrayList", name := "<init>", desc := "()V" } : Jvm.MethodName) jdk_38_method_2_code (1 : Nat) (Option.none : Option Jvm.ClassFile.FieldType), Jvm.Cond.code ({ cls := "java/util/AbstractList", name := "<init>", desc := "()V" } : Jvm.MethodName) jdk_39_method_1_code (1 : Nat) (Option.none : Option Jvm.ClassFile.FieldType), Jvm.Cond.code ({ cls := "java/util/AbstractCollection", name := "<init>", desc := "()V" } : Jvm.MethodName) jdk_22_method_1_code (1 : Nat) (Option.none : Option Jvm.ClassFile.FieldType), Jvm.Cond.code ({ cls := "java/lang/Object", name := "<init>", desc := "()V" } : Jvm.MethodName) object_method_1_code (1 : Nat) (Option.none : Option Jvm.ClassFile.FieldType), Jvm.Cond.code ({ cls := "com/example/verbatim_replay/verbatimreplay/StoredResponse", name := "fields", desc := "(Ljava/util/List;Ljava/util/List;)Ljava/util/Map;" } : Jvm.MethodName) prog_27_method_7_code (4 : Nat) (Option.some (Jvm.ClassFile.FieldType.object "java/util/Map")), Jvm.Cond.code ({ cls := "java/util/HashMap", name := "<init>", desc := "()V" } : Jvm.MethodName) jdk_69_method_7_code (1 : Nat) (Option.none : Option Jvm.ClassFile.FieldType), Jvm.Cond.code ({ cls := "java/util/AbstractMap", name := "<init>", desc := "()V" } : Jvm.MethodName) jdk_71_method_1_code (1 : Nat) (Option.none : Option Jvm.ClassFile.FieldType), Jvm.Cond.code ({ cls := "java/util/ArrayList", name := "size", desc := "()I" } : Jvm.MethodName) jdk_38_method_8_code (1 : Nat) (Option.some Jvm.ClassFile.FieldType.int), Jvm.Cond.code ({ cls := "com/example/verbatim_replay/verbatimreplay/StoredResponse", name := "<init>", desc := "(ILjava/util/Map;[B)V" } : Jvm.MethodName) prog_27_method_1_code (5 : Nat) (Option.none : Option Jvm.ClassFile.FieldType), Jvm.Cond.code ({ cls := "java/util/Objects", name := "requireNonNull", desc := "(Ljava/lang/Object;Ljava/lang/String;)Ljava/lang/Object;" } : Jvm.MethodName) jdk_31_method_11_code (2 : Nat) (Option.some (Jvm.ClassFile.FieldType.object "java/lang/Object")), Jvm.Cond.code ({ cls := "java/util/TreeMap", name := "<init>", desc := "(Ljava/util/Comparator;)V" } : Jvm.MethodName) jdk_2729_method_2_code (2 : Nat) (Option.none : Option Jvm.ClassFile.FieldType), Jvm.Cond.code ({ cls := "java/util/HashMap", name := "forEach", desc := "(Ljava/util/function/BiConsumer;)V" } : Jvm.MethodName) jdk_69_method_39_code (8 : Nat) (Option.none : Option Jvm.ClassFile.FieldType), Jvm.Cond.code ({ cls := "java/util/TreeMap", name := "replaceAll", desc := "(Ljava/util/function/BiFunction;)V" } : Jvm.MethodName) jdk_2729_method_64_code (4 : Nat) (Option.none : Option Jvm.ClassFile.FieldType), Jvm.Cond.code ({ cls := "java/util/Objects", name := "requireNonNull", desc := "(Ljava/lang/Object;)Ljava/lang/Object;" } : Jvm.MethodName) jdk_31_method_10_code (1 : Nat) (Option.some (Jvm.ClassFile.FieldType.object "java/lang/Object")), Jvm.Cond.code ({ cls := "java/util/TreeMap", name := "getFirstEntry", desc := "()Ljava/util/TreeMap$Entry;" } : Jvm.MethodName) jdk_2729_method_72_code (2 : Nat) (Option.some (Jvm.ClassFile.FieldType.object "java/util/TreeMap$Entry")), Jvm.Cond.code ({ cls := "java/util/Collections", name := "unmodifiableMap", desc := "(Ljava/util/Map;)Ljava/util/Map;" } : Jvm.MethodName) jdk_79_method_36_code (1 : Nat) (Option.some (Jvm.ClassFile.FieldType.object "java/util/Map")), Jvm.Cond.code ({ cls := "java/util/Collections$UnmodifiableMap", name := "<init>", desc := "(Ljava/util/Map;)V" } : Jvm.MethodName) jdk_2500_method_1_code (2 : Nat) (Option.none : Option Jvm.ClassFile.FieldType), Jvm.Cond.code ({ cls := "com/example/verbatim_replay/verbatimreplay/Claim", name := "completed", desc := "(Lcom/example/verbatim_replay/verbatimreplay/StoredResponse;)Lcom/example/verbatim_replay/verbatimreplay/Claim;" } : Jvm.MethodName) prog_1_method_5_code (1 : Nat) (Option.some (Jvm.ClassFile.FieldType.object "com/example/verbatim_replay/verbatimreplay/Claim")), Jvm.Cond.code ({ cls := "com/example/verbatim_replay/verbatimreplay/Claim", name := "<init>", desc := "(Lcom/example/verbatim_replay/verbatimreplay/Claim$Outcome;Lcom/example/verbatim_replay/verbatimreplay/Execution;Lcom/example/verbatim_replay/verbatimreplay/StoredResponse;)V" } : Jvm.MethodName) prog_1_method_1_code (4 : Nat) (Option.none : Option Jvm.ClassFile.FieldType), Jvm.Cond.code ({ cls := "com/example/verbatim_replay/verbatimreplay/Claim", name := "outcome", desc := "()Lcom/example/verbatim_replay/verbatimreplay/Claim$Outcome;" } : Jvm.MethodName) prog_1_method_7_code (1 : Nat) (Option.some (Jvm.ClassFile.FieldType.object "com/example/verbatim_replay/verbatimreplay/Claim$Outcome")), Jvm.Cond.code ({ cls := "com/example/verbatim_replay/verbatimreplay/Claim", name := "response", desc := "()Lcom/example/verbatim_replay/verbatimreplay/StoredResponse;" } : Jvm.MethodName) prog_1_method_9_code (1 : Nat) (Option.some (Jvm.ClassFile.FieldType.object "com/example/verbatim_replay/verbatimreplay/StoredResponse"))]
set_option maxRecDepth 65536 in
theorem codes_eq : words1.filter isCode = codes1 := rfl
theorem w_codes : ∀ c ∈ words1.filter isCode, c.before args0 about1 = true := by
  rw [codes_eq]
  intro c hc
  simp only [codes1, List.mem_cons, List.not_mem_nil, or_false] at hc
  rcases hc with rfl | rfl | rfl | rfl | rfl | rfl | rfl | rfl | rfl | rfl | rfl | rfl | rfl | rfl | rfl | rfl | rfl | rfl | rfl | rfl | rfl | rfl
  · exact w_c0
  · exact w_c1
  · exact w_c2
  · exact w_c3
  · exact w_c4
  · exact w_c5
  · exact w_c6
  · exact w_c7
  · exact w_c8
  · exact w_c9
  · exact w_c10
  · exact w_c11
  · exact w_c12
  · exact w_c13
  · exact w_c14
  · exact w_c15
  · exact w_c16
  · exact w_c17
  · exact w_c18
  · exact w_c19
  · exact w_c20
  · exact w_c21
set_option maxRecDepth 65536 in
theorem w_t1 : (words1.take 24).all (fun c => isCode c || c.before args0 about1) = true := by decide +kernel
set_option maxRecDepth 65536 in
theorem w_t2 : ((words1.drop 24).take 24).all (fun c => isCode c || c.before args0 about1) = true := by decide +kernel
set_option maxRecDepth 65536 in
theorem w_t3 : (((words1.drop 24).drop 24).take 24).all (fun c => isCode c || c.before args0 about1) = true := by decide +kernel
set_option maxRecDepth 65536 in
theorem w_t4 : ((((words1.drop 24).drop 24).drop 24).take 24).all (fun c => isCode c || c.before args0 about1) = true := by decide +kernel
set_option maxRecDepth 65536 in
theorem w_t5 : (((((words1.drop 24).drop 24).drop 24).drop 24).take 24).all (fun c => isCode c || c.before args0 about1) = true := by decide +kernel
set_option maxRecDepth 65536 in
theorem w_t6 : ((((((words1.drop 24).drop 24).drop 24).drop 24).drop 24).take 24).all (fun c => isCode c || c.before args0 about1) = true := by decide +kernel
set_option maxRecDepth 65536 in
theorem w_t7 : (((((((words1.drop 24).drop 24).drop 24).drop 24).drop 24).drop 24).take 24).all (fun c => isCode c || c.before args0 about1) = true := by decide +kernel
set_option maxRecDepth 65536 in
theorem w_t8 : ((((((((words1.drop 24).drop 24).drop 24).drop 24).drop 24).drop 24).drop 24).take 24).all (fun c => isCode c || c.before args0 about1) = true := by decide +kernel
set_option maxRecDepth 65536 in
theorem w_t9 : ((((((((words1.drop 24).drop 24).drop 24).drop 24).drop 24).drop 24).drop 24).drop 24).all (fun c => isCode c || c.before args0 about1) = true := by decide +kernel
theorem w_tables : (allAtoms (Jvm.Cond.code x code maxLocals ret :: tables_1)).before args0 about1 = true := by
  rw [allAtoms_all]
  show words1.all (fun c => c.before args0 about1) = true
  refine all_split ?_ w_codes
  rw [← List.take_append_drop 24 words1, List.all_append, w_t1, ← List.take_append_drop 24 (words1.drop 24), List.all_append, w_t2, ← List.take_append_drop 24 ((words1.drop 24).drop 24), List.all_append, w_t3, ← List.take_append_drop 24 (((words1.drop 24).drop 24).drop 24), List.all_append, w_t4, ← List.take_append_drop 24 ((((words1.drop 24).drop 24).drop 24).drop 24), List.all_append, w_t5, ← List.take_append_drop 24 (((((words1.drop 24).drop 24).drop 24).drop 24).drop 24), List.all_append, w_t6, ← List.take_append_drop 24 ((((((words1.drop 24).drop 24).drop 24).drop 24).drop 24).drop 24), List.all_append, w_t7, ← List.take_append_drop 24 (((((((words1.drop 24).drop 24).drop 24).drop 24).drop 24).drop 24).drop 24), List.all_append, w_t8, w_t9]
  rfl
set_option maxRecDepth 65536 in
theorem w_rest : rest_1_c.before args0 about1 = true := by decide +kernel
set_option maxRecDepth 65536 in
theorem w_case : (Jvm.Cond.and given_1 narrow_1).before args0 about1 = true := by decide +kernel
theorem w_applies : (headSpec (Jvm.Cond.code x code maxLocals ret :: tables_1) room_1).applies x e0.platform about1 = true :=
  (Spec.applies_iff w_frames).mpr ⟨w_running, w_runnable, w_alone, w_named, w_hears, w_ripe, w_room, w_tables⟩
theorem atStart : AtStart classFile x code maxLocals ret World_1 tables_1 room_1 Calls_1 rest_1 Pre_1 launch0 p0 e0 about1 theMethod args0 below0 :=
  ⟨lists_1, trivial, launch0.admits_env _ _ _, launch0.least_env, fairChoices_fair.cas, fairChoices_fair.clock, w_frames, w_args, w_heap, w_applies, ⟨⟨25, k25, 3, by decide +kernel, rfl, rfl, _, rfl, rfl⟩, ⟨⟨29, k29, 4, by decide +kernel, rfl, rfl, _, rfl, rfl⟩, trivial⟩⟩, w_rest, w_case⟩
end start1
theorem witness_1 : WitnessClaimed_1 := ⟨start1.p0, start1.e0, start1.about1, start1.theMethod, start1.args0, start1.below0, start1.atStart⟩
end Jvm.Pilot.@@N@@
