import JvmDerived
import JvmDerived.Pilot.@@N@@Statement
import JvmDerived.Pilot.@@N@@Code
set_option linter.unusedVariables false
set_option linter.unusedSimpArgs false
namespace Jvm.Pilot.@@N@@
open Jvm Jvm.ClassFile Sem Op Lib Jvm.Free Jvm.Stand Jvm.LawKit Jvm.RoadKit Bundle Jvm.Pilot.@@N@@.Jvm.D
/-- a boolean as an int -/
def own_b (P : Prop) [Decidable P] : Int32 := if P then 1 else 0
theorem own_b1 {P : Prop} [Decidable P] (h : P) : own_b P = 1 := if_pos h
theorem own_b0 {P : Prop} [Decidable P] (h : ¬ P) : own_b P = 0 := if_neg h
theorem own_b0_eq_f {P : Prop} [Decidable P] (h : P) : ifCond.holds .eq (own_b P) = false := by rw [own_b1 h]; rfl
theorem own_b0_eq_t {P : Prop} [Decidable P] (h : ¬ P) : ifCond.holds .eq (own_b P) = true := by rw [own_b0 h]; rfl
theorem own_b0_ne_t {P : Prop} [Decidable P] (h : P) : ifCond.holds .ne (own_b P) = true := by rw [own_b1 h]; rfl
theorem own_b0_ne_f {P : Prop} [Decidable P] (h : ¬ P) : ifCond.holds .ne (own_b P) = false := by rw [own_b0 h]; rfl
theorem own_bnar (P : Prop) [Decidable P] : nar .boolean (own_b P) = own_b P := by by_cases h : P <;> simp [own_b, h, nar]
theorem own_biff {P Q : Prop} [Decidable P] [Decidable Q] (h : P ↔ Q) : own_b P = own_b Q := by by_cases q : Q <;> simp [own_b, h, q]
/-! own_Go: from T with the frame g on top the method's run comes to an end of which P holds. One rule a plain instruction, so that a walk may fork anywhere. -/
def own_Go (p : Program) (e : Env) (below : List Frame) (P : State → Outcome → Prop) (T : State) (g : JFrame) : Prop :=
  ∃ s₂ o, Steps p.tables e below (T.setTop g) s₂ ∧ s₂.status = .running ∧ Ended s₂ below o ∧ P s₂ o
section OwnGo
variable {p : Program} {l : Launch} {e : Env} {R : Room} {s : State} {m : MethodId} {args : Array Value} {below : List Frame} {meth : Method} {c : Code} {T T' : State} {locs : List Loc} {cells slots : Nat} {P : State → Outcome → Prop} {Ls Ls' : Array Slot} {st : List Value} {pc pc' : Nat} {g g' : JFrame}
theorem own_st (h : ∀ t, Steps p.tables e below (T'.setTop g') t → Steps p.tables e below (T.setTop g) t) (k : own_Go p e below P T' g') : own_Go p e below P T g := by
  obtain ⟨s₂, o, h1, h2⟩ := k; exact ⟨s₂, o, h _ h1, h2⟩
theorem own_tr (h : Steps p.tables e below (T.setTop g) (T'.setTop g')) (k : own_Go p e below P T' g') : own_Go p e below P T g := by
  obtain ⟨s₂, o, h1, h2⟩ := k; exact ⟨s₂, o, h.trans h1, h2⟩
theorem own_aloadN (X : Stand p l e R s m args below meth c T locs cells slots) (hx : p.tables.exec = Jvm.exec) {k : Fin 4} {v : Value} (hd : decode c.code pc = .ok (.aload_n k, 1)) (hp : pc + 1 = pc') (hl : Ls[k.val]? = some (.val v)) (hv : v.isRef = true) (h : own_Go p e below P T (mkF m pc' Ls (v :: st))) : own_Go p e below P T (mkF m pc Ls st) := by
  subst hp; exact own_st (fun t k => XS.aloadN X.here hx rfl hd hl hv k) h
theorem own_aload (X : Stand p l e R s m args below meth c T locs cells slots) (hx : p.tables.exec = Jvm.exec) {k : Nat} {v : Value} (hd : decode c.code pc = .ok (.aload k, 2)) (hp : pc + 2 = pc') (hl : Ls[k]? = some (.val v)) (hv : v.isRef = true) (h : own_Go p e below P T (mkF m pc' Ls (v :: st))) : own_Go p e below P T (mkF m pc Ls st) := by
  subst hp; exact own_st (fun t k => XS.aload X.here hx rfl hd hl hv k) h
theorem own_iloadN (X : Stand p l e R s m args below meth c T locs cells slots) (hx : p.tables.exec = Jvm.exec) {k : Fin 4} {v : Int32} (hd : decode c.code pc = .ok (.iload_n k, 1)) (hp : pc + 1 = pc') (hl : Ls[k.val]? = some (.val (.int v))) (h : own_Go p e below P T (mkF m pc' Ls (.int v :: st))) : own_Go p e below P T (mkF m pc Ls st) := by
  subst hp; exact own_st (fun t k => XS.iloadN X.here hx rfl hd hl k) h
theorem own_iload (X : Stand p l e R s m args below meth c T locs cells slots) (hx : p.tables.exec = Jvm.exec) {k : Nat} {v : Int32} (hd : decode c.code pc = .ok (.iload k, 2)) (hp : pc + 2 = pc') (hl : Ls[k]? = some (.val (.int v))) (h : own_Go p e below P T (mkF m pc' Ls (.int v :: st))) : own_Go p e below P T (mkF m pc Ls st) := by
  subst hp; exact own_st (fun t k => XS.iload X.here hx rfl hd hl k) h
theorem own_lloadN (X : Stand p l e R s m args below meth c T locs cells slots) (hx : p.tables.exec = Jvm.exec) {k : Fin 4} {v : Int64} (hd : decode c.code pc = .ok (.lload_n k, 1)) (hp : pc + 1 = pc') (hl : Ls[k.val]? = some (.val (.long v))) (h : own_Go p e below P T (mkF m pc' Ls (.long v :: st))) : own_Go p e below P T (mkF m pc Ls st) := by
  subst hp; exact own_st (fun t k => XT.lloadN X.here hx rfl hd hl k) h
theorem own_lload (X : Stand p l e R s m args below meth c T locs cells slots) (hx : p.tables.exec = Jvm.exec) {k : Nat} {v : Int64} (hd : decode c.code pc = .ok (.lload k, 2)) (hp : pc + 2 = pc') (hl : Ls[k]? = some (.val (.long v))) (h : own_Go p e below P T (mkF m pc' Ls (.long v :: st))) : own_Go p e below P T (mkF m pc Ls st) := by
  subst hp; exact own_st (fun t k => XT.lload X.here hx rfl hd hl k) h
theorem own_iconst (X : Stand p l e R s m args below meth c T locs cells slots) (hx : p.tables.exec = Jvm.exec) {i : Int} (v : Int32) (hd : decode c.code pc = .ok (.iconst i, 1)) (hp : pc + 1 = pc') (hv : Int32.ofInt i = v) (h : own_Go p e below P T (mkF m pc' Ls (.int v :: st))) : own_Go p e below P T (mkF m pc Ls st) := by
  subst hp hv; exact own_st (fun t k => XS.iconst X.here hx rfl hd k) h
theorem own_bipush (X : Stand p l e R s m args below meth c T locs cells slots) (hx : p.tables.exec = Jvm.exec) {i : Int} (v : Int32) (hd : decode c.code pc = .ok (.bipush i, 2)) (hp : pc + 2 = pc') (hv : (Int8.ofInt i).toInt32 = v) (h : own_Go p e below P T (mkF m pc' Ls (.int v :: st))) : own_Go p e below P T (mkF m pc Ls st) := by
  subst hp hv; exact own_st (fun t k => XS.bipush X.here hx rfl hd k) h
theorem own_sipush (X : Stand p l e R s m args below meth c T locs cells slots) (hx : p.tables.exec = Jvm.exec) {i : Int} (v : Int32) (hd : decode c.code pc = .ok (.sipush i, 3)) (hp : pc + 3 = pc') (hv : (Int16.ofInt i).toInt32 = v) (h : own_Go p e below P T (mkF m pc' Ls (.int v :: st))) : own_Go p e below P T (mkF m pc Ls st) := by
  subst hp hv; exact own_st (fun t k => XS.sipush X.here hx rfl hd k) h
theorem own_lconst (X : Stand p l e R s m args below meth c T locs cells slots) (hx : p.tables.exec = Jvm.exec) {i : Fin 2} (v : Int64) (hd : decode c.code pc = .ok (.lconst i, 1)) (hp : pc + 1 = pc') (hv : Int64.ofNat i = v) (h : own_Go p e below P T (mkF m pc' Ls (.long v :: st))) : own_Go p e below P T (mkF m pc Ls st) := by
  subst hp hv; exact own_st (fun t k => XT.lconst X.here hx rfl hd k) h
theorem own_ldcI (X : Stand p l e R s m args below meth c T locs cells slots) (hx : p.tables.exec = Jvm.exec) {own : String} {index : Nat} {v : Int32} (hown : s.vm.findClass own = some m.cls) (hc : (Cond.constant own index v).before args s = true) (hd : decode c.code pc = .ok (.ldc index, 2)) (hp : pc + 2 = pc') (h : own_Go p e below P T (mkF m pc' Ls (.int v :: st))) : own_Go p e below P T (mkF m pc Ls st) := by
  subst hp; exact own_st (fun t k => X.ldcI hx hown hc rfl hd k) h
theorem own_ldcJ (X : Stand p l e R s m args below meth c T locs cells slots) (hx : p.tables.exec = Jvm.exec) {own : String} {index : Nat} {v : Int64} (hown : s.vm.findClass own = some m.cls) (hc : (Cond.constantLong own index v).before args s = true) (hd : decode c.code pc = .ok (.ldc2_w index, 3)) (hp : pc + 3 = pc') (h : own_Go p e below P T (mkF m pc' Ls (.long v :: st))) : own_Go p e below P T (mkF m pc Ls st) := by
  subst hp; exact own_st (fun t k => X.ldc2J hx hown hc rfl hd k) h
theorem own_null (X : Stand p l e R s m args below meth c T locs cells slots) (hx : p.tables.exec = Jvm.exec) (hd : decode c.code pc = .ok (.aconst_null, 1)) (hp : pc + 1 = pc') (h : own_Go p e below P T (mkF m pc' Ls (.null :: st))) : own_Go p e below P T (mkF m pc Ls st) := by
  subst hp; exact own_st (fun t k => XS.aconstNull X.here hx rfl hd k) h
theorem own_iadd (X : Stand p l e R s m args below meth c T locs cells slots) (hx : p.tables.exec = Jvm.exec) {x y : Int32} (hd : decode c.code pc = .ok (.iadd, 1)) (hp : pc + 1 = pc') (h : own_Go p e below P T (mkF m pc' Ls (.int (x + y) :: st))) : own_Go p e below P T (mkF m pc Ls (.int y :: .int x :: st)) := by
  subst hp; exact own_st (fun t k => XS.iadd X.here hx rfl hd rfl k) h
theorem own_isub (X : Stand p l e R s m args below meth c T locs cells slots) (hx : p.tables.exec = Jvm.exec) {x y : Int32} (hd : decode c.code pc = .ok (.isub, 1)) (hp : pc + 1 = pc') (h : own_Go p e below P T (mkF m pc' Ls (.int (x - y) :: st))) : own_Go p e below P T (mkF m pc Ls (.int y :: .int x :: st)) := by
  subst hp; exact own_st (fun t k => XS.isub X.here hx rfl hd rfl k) h
theorem own_iand (X : Stand p l e R s m args below meth c T locs cells slots) (hx : p.tables.exec = Jvm.exec) {x y : Int32} (hd : decode c.code pc = .ok (.iand, 1)) (hp : pc + 1 = pc') (h : own_Go p e below P T (mkF m pc' Ls (.int (x &&& y) :: st))) : own_Go p e below P T (mkF m pc Ls (.int y :: .int x :: st)) := by
  subst hp; exact own_st (fun t k => XS.iand X.here hx rfl hd rfl k) h
theorem own_imul (X : Stand p l e R s m args below meth c T locs cells slots) (hx : p.tables.exec = Jvm.exec) {x y : Int32} (hd : decode c.code pc = .ok (.imul, 1)) (hp : pc + 1 = pc') (h : own_Go p e below P T (mkF m pc' Ls (.int (x * y) :: st))) : own_Go p e below P T (mkF m pc Ls (.int y :: .int x :: st)) := by
  subst hp; exact own_st (fun t k => XS.imul X.here hx rfl hd rfl k) h
theorem own_irem (X : Stand p l e R s m args below meth c T locs cells slots) (hx : p.tables.exec = Jvm.exec) {x y : Int32} (hd : decode c.code pc = .ok (.irem, 1)) (hp : pc + 1 = pc') (hy : y ≠ 0) (h : own_Go p e below P T (mkF m pc' Ls (.int (x % y) :: st))) : own_Go p e below P T (mkF m pc Ls (.int y :: .int x :: st)) := by
  subst hp; exact own_st (fun t k => iremM X hx rfl hd rfl hy k) h
theorem own_ishr (X : Stand p l e R s m args below meth c T locs cells slots) (hx : p.tables.exec = Jvm.exec) {x y : Int32} (hd : decode c.code pc = .ok (.ishr, 1)) (hp : pc + 1 = pc') (h : own_Go p e below P T (mkF m pc' Ls (.int (x >>> (y &&& 31)) :: st))) : own_Go p e below P T (mkF m pc Ls (.int y :: .int x :: st)) := by
  subst hp; exact own_st (fun t k => XT.ishr X.here hx rfl hd rfl k) h
theorem own_iushr (X : Stand p l e R s m args below meth c T locs cells slots) (hx : p.tables.exec = Jvm.exec) {x y : Int32} (hd : decode c.code pc = .ok (.iushr, 1)) (hp : pc + 1 = pc') (h : own_Go p e below P T (mkF m pc' Ls (.int (XT.ushr x y) :: st))) : own_Go p e below P T (mkF m pc Ls (.int y :: .int x :: st)) := by
  subst hp; exact own_st (fun t k => XT.iushr X.here hx rfl hd rfl k) h
theorem own_i2b (X : Stand p l e R s m args below meth c T locs cells slots) (hx : p.tables.exec = Jvm.exec) {x : Int32} (hd : decode c.code pc = .ok (.i2b, 1)) (hp : pc + 1 = pc') (h : own_Go p e below P T (mkF m pc' Ls (.int (nar .byte x) :: st))) : own_Go p e below P T (mkF m pc Ls (.int x :: st)) := by
  subst hp; exact own_st (fun t k => XT.i2b X.here hx rfl hd rfl k) h
theorem own_i2c (X : Stand p l e R s m args below meth c T locs cells slots) (hx : p.tables.exec = Jvm.exec) {x : Int32} (hd : decode c.code pc = .ok (.i2c, 1)) (hp : pc + 1 = pc') (h : own_Go p e below P T (mkF m pc' Ls (.int (nar .char x) :: st))) : own_Go p e below P T (mkF m pc Ls (.int x :: st)) := by
  subst hp; exact own_st (fun t k => XT.i2c X.here hx rfl hd rfl k) h
theorem own_i2l (X : Stand p l e R s m args below meth c T locs cells slots) (hx : p.tables.exec = Jvm.exec) {x : Int32} (hd : decode c.code pc = .ok (.i2l, 1)) (hp : pc + 1 = pc') (h : own_Go p e below P T (mkF m pc' Ls (.long x.toInt64 :: st))) : own_Go p e below P T (mkF m pc Ls (.int x :: st)) := by
  subst hp; exact own_st (fun t k => XT.i2l X.here hx rfl hd rfl k) h
theorem own_l2i (X : Stand p l e R s m args below meth c T locs cells slots) (hx : p.tables.exec = Jvm.exec) {x : Int64} (hd : decode c.code pc = .ok (.l2i, 1)) (hp : pc + 1 = pc') (h : own_Go p e below P T (mkF m pc' Ls (.int x.toInt32 :: st))) : own_Go p e below P T (mkF m pc Ls (.long x :: st)) := by
  subst hp; exact own_st (fun t k => XT.l2i X.here hx rfl hd rfl k) h
theorem own_lushr (X : Stand p l e R s m args below meth c T locs cells slots) (hx : p.tables.exec = Jvm.exec) {x : Int64} {y : Int32} (hd : decode c.code pc = .ok (.lushr, 1)) (hp : pc + 1 = pc') (h : own_Go p e below P T (mkF m pc' Ls (.long (XT.ushrL x y) :: st))) : own_Go p e below P T (mkF m pc Ls (.int y :: .long x :: st)) := by
  subst hp; exact own_st (fun t k => XT.lushr X.here hx rfl hd rfl k) h
theorem own_lcmp (X : Stand p l e R s m args below meth c T locs cells slots) (hx : p.tables.exec = Jvm.exec) {x y : Int64} (hd : decode c.code pc = .ok (.lcmp, 1)) (hp : pc + 1 = pc') (h : own_Go p e below P T (mkF m pc' Ls (.int (XT.cmpL x y) :: st))) : own_Go p e below P T (mkF m pc Ls (.long y :: .long x :: st)) := by
  subst hp; exact own_st (fun t k => XT.lcmp X.here hx rfl hd rfl k) h
theorem own_dup (X : Stand p l e R s m args below meth c T locs cells slots) (hx : p.tables.exec = Jvm.exec) {x : Value} (hd : decode c.code pc = .ok (.dup, 1)) (hp : pc + 1 = pc') (hc : x.category = 1) (h : own_Go p e below P T (mkF m pc' Ls (x :: x :: st))) : own_Go p e below P T (mkF m pc Ls (x :: st)) := by
  subst hp; exact own_st (fun t k => XS.dup X.here hx rfl hd rfl hc k) h
theorem own_dupX1 (X : Stand p l e R s m args below meth c T locs cells slots) (hx : p.tables.exec = Jvm.exec) {x y : Value} (hd : decode c.code pc = .ok (.dup_x1, 1)) (hp : pc + 1 = pc') (hc : x.category = 1) (hc' : y.category = 1) (h : own_Go p e below P T (mkF m pc' Ls (x :: y :: x :: st))) : own_Go p e below P T (mkF m pc Ls (x :: y :: st)) := by
  subst hp; exact own_st (fun t k => XT.dupX1 X.here hx rfl hd rfl hc hc' k) h
theorem own_pop (X : Stand p l e R s m args below meth c T locs cells slots) (hx : p.tables.exec = Jvm.exec) {x : Value} (hd : decode c.code pc = .ok (.pop, 1)) (hp : pc + 1 = pc') (hc : x.category = 1) (h : own_Go p e below P T (mkF m pc' Ls st)) : own_Go p e below P T (mkF m pc Ls (x :: st)) := by
  subst hp; exact own_st (fun t k => XT.pop X.here hx rfl hd rfl hc k) h
theorem own_istoreN (X : Stand p l e R s m args below meth c T locs cells slots) (hx : p.tables.exec = Jvm.exec) {k : Fin 4} {x : Int32} (hd : decode c.code pc = .ok (.istore_n k, 1)) (hp : pc + 1 = pc') (hl : storeLocals Ls k.val (.int x) = some Ls') (h : own_Go p e below P T (mkF m pc' Ls' st)) : own_Go p e below P T (mkF m pc Ls (.int x :: st)) := by
  subst hp; exact own_st (fun t k => XS.istoreN X.here hx rfl hd rfl hl k) h
theorem own_istore (X : Stand p l e R s m args below meth c T locs cells slots) (hx : p.tables.exec = Jvm.exec) {k : Nat} {x : Int32} (hd : decode c.code pc = .ok (.istore k, 2)) (hp : pc + 2 = pc') (hl : storeLocals Ls k (.int x) = some Ls') (h : own_Go p e below P T (mkF m pc' Ls' st)) : own_Go p e below P T (mkF m pc Ls (.int x :: st)) := by
  subst hp; exact own_st (fun t k => XS.istore X.here hx rfl hd rfl hl k) h
theorem own_lstoreN (X : Stand p l e R s m args below meth c T locs cells slots) (hx : p.tables.exec = Jvm.exec) {k : Fin 4} {x : Int64} (hd : decode c.code pc = .ok (.lstore_n k, 1)) (hp : pc + 1 = pc') (hl : storeLocals Ls k.val (.long x) = some Ls') (h : own_Go p e below P T (mkF m pc' Ls' st)) : own_Go p e below P T (mkF m pc Ls (.long x :: st)) := by
  subst hp; exact own_st (fun t k => XT.lstoreN X.here hx rfl hd rfl hl k) h
theorem own_lstore (X : Stand p l e R s m args below meth c T locs cells slots) (hx : p.tables.exec = Jvm.exec) {k : Nat} {x : Int64} (hd : decode c.code pc = .ok (.lstore k, 2)) (hp : pc + 2 = pc') (hl : storeLocals Ls k (.long x) = some Ls') (h : own_Go p e below P T (mkF m pc' Ls' st)) : own_Go p e below P T (mkF m pc Ls (.long x :: st)) := by
  subst hp; exact own_st (fun t k => XT.lstore X.here hx rfl hd rfl hl k) h
theorem own_astoreN (X : Stand p l e R s m args below meth c T locs cells slots) (hx : p.tables.exec = Jvm.exec) {k : Fin 4} {x : Value} (hd : decode c.code pc = .ok (.astore_n k, 1)) (hp : pc + 1 = pc') (hv : x.isRef = true) (hl : storeLocals Ls k.val x = some Ls') (h : own_Go p e below P T (mkF m pc' Ls' st)) : own_Go p e below P T (mkF m pc Ls (x :: st)) := by
  subst hp; exact own_st (fun t k => XS.astoreN X.here hx rfl hd rfl hv hl k) h
theorem own_astore (X : Stand p l e R s m args below meth c T locs cells slots) (hx : p.tables.exec = Jvm.exec) {k : Nat} {x : Value} (hd : decode c.code pc = .ok (.astore k, 2)) (hp : pc + 2 = pc') (hv : x.isRef = true) (hl : storeLocals Ls k x = some Ls') (h : own_Go p e below P T (mkF m pc' Ls' st)) : own_Go p e below P T (mkF m pc Ls (x :: st)) := by
  subst hp; exact own_st (fun t k => XS.astore X.here hx rfl hd rfl hv hl k) h
theorem own_goto (X : Stand p l e R s m args below meth c T locs cells slots) (hx : p.tables.exec = Jvm.exec) {o : Int} (hd : decode c.code pc = .ok (.goto o, 3)) (ho : 0 ≤ (pc : Int) + o) (hp : ((pc : Int) + o).toNat = pc') (h : own_Go p e below P T (mkF m pc' Ls st)) : own_Go p e below P T (mkF m pc Ls st) := by
  exact own_st (fun t k => XS.goto X.here hx rfl (pc0 := pc) rfl hd ho hp k) h
theorem own_ifY (X : Stand p l e R s m args below meth c T locs cells slots) (hx : p.tables.exec = Jvm.exec) {cd : ClassFile.Cond} {x : Int32} {o : Int} (hd : decode c.code pc = .ok (.ifCond cd o, 3)) (hc : ifCond.holds cd x = true) (ho : 0 ≤ (pc : Int) + o) (hp : ((pc : Int) + o).toNat = pc') (h : own_Go p e below P T (mkF m pc' Ls st)) : own_Go p e below P T (mkF m pc Ls (.int x :: st)) := by
  exact own_st (fun t k => XS.ifYes X.here hx rfl (pc0 := pc) rfl hd rfl hc ho hp k) h
theorem own_ifN (X : Stand p l e R s m args below meth c T locs cells slots) (hx : p.tables.exec = Jvm.exec) {cd : ClassFile.Cond} {x : Int32} {o : Int} (hd : decode c.code pc = .ok (.ifCond cd o, 3)) (hc : ifCond.holds cd x = false) (hp : pc + 3 = pc') (h : own_Go p e below P T (mkF m pc' Ls st)) : own_Go p e below P T (mkF m pc Ls (.int x :: st)) := by
  subst hp; exact own_st (fun t k => XS.ifNo X.here hx rfl hd rfl hc k) h
theorem own_icmpY (X : Stand p l e R s m args below meth c T locs cells slots) (hx : p.tables.exec = Jvm.exec) {cd : ClassFile.Cond} {x y : Int32} {o : Int} (hd : decode c.code pc = .ok (.if_icmp cd o, 3)) (hc : if_icmp.holds cd x y = true) (ho : 0 ≤ (pc : Int) + o) (hp : ((pc : Int) + o).toNat = pc') (h : own_Go p e below P T (mkF m pc' Ls st)) : own_Go p e below P T (mkF m pc Ls (.int y :: .int x :: st)) := by
  exact own_st (fun t k => XS.icmpYes X.here hx rfl (pc0 := pc) rfl hd rfl hc ho hp k) h
theorem own_icmpN (X : Stand p l e R s m args below meth c T locs cells slots) (hx : p.tables.exec = Jvm.exec) {cd : ClassFile.Cond} {x y : Int32} {o : Int} (hd : decode c.code pc = .ok (.if_icmp cd o, 3)) (hc : if_icmp.holds cd x y = false) (hp : pc + 3 = pc') (h : own_Go p e below P T (mkF m pc' Ls st)) : own_Go p e below P T (mkF m pc Ls (.int y :: .int x :: st)) := by
  subst hp; exact own_st (fun t k => XS.icmpNo X.here hx rfl hd rfl hc k) h
theorem own_ifnullY (X : Stand p l e R s m args below meth c T locs cells slots) (hx : p.tables.exec = Jvm.exec) {o : Int} (hd : decode c.code pc = .ok (.ifnull o, 3)) (ho : 0 ≤ (pc : Int) + o) (hp : ((pc : Int) + o).toNat = pc') (h : own_Go p e below P T (mkF m pc' Ls st)) : own_Go p e below P T (mkF m pc Ls (.null :: st)) := by
  exact own_st (fun t k => XS.ifnullYes X.here hx rfl (pc0 := pc) rfl hd rfl ho hp k) h
theorem own_ifnullN (X : Stand p l e R s m args below meth c T locs cells slots) (hx : p.tables.exec = Jvm.exec) {a : Addr} {o : Int} (hd : decode c.code pc = .ok (.ifnull o, 3)) (hp : pc + 3 = pc') (h : own_Go p e below P T (mkF m pc' Ls st)) : own_Go p e below P T (mkF m pc Ls (.ref a :: st)) := by
  subst hp; exact own_st (fun t k => XS.ifnullNo X.here hx rfl hd rfl k) h
theorem own_ifnonnullY (X : Stand p l e R s m args below meth c T locs cells slots) (hx : p.tables.exec = Jvm.exec) {a : Addr} {o : Int} (hd : decode c.code pc = .ok (.ifnonnull o, 3)) (ho : 0 ≤ (pc : Int) + o) (hp : ((pc : Int) + o).toNat = pc') (h : own_Go p e below P T (mkF m pc' Ls st)) : own_Go p e below P T (mkF m pc Ls (.ref a :: st)) := by
  exact own_st (fun t k => XT.ifnonnullYes X.here hx rfl (pc0 := pc) rfl hd rfl ho hp k) h
theorem own_ifnonnullN (X : Stand p l e R s m args below meth c T locs cells slots) (hx : p.tables.exec = Jvm.exec) {o : Int} (hd : decode c.code pc = .ok (.ifnonnull o, 3)) (hp : pc + 3 = pc') (h : own_Go p e below P T (mkF m pc' Ls st)) : own_Go p e below P T (mkF m pc Ls (.null :: st)) := by
  subst hp; exact own_st (fun t k => XT.ifnonnullNo X.here hx rfl hd rfl k) h
theorem own_acmpY (X : Stand p l e R s m args below meth c T locs cells slots) (hx : p.tables.exec = Jvm.exec) {cd : ACond} {x y : Value} {o : Int} (h1 : x.isRef = true) (h2 : y.isRef = true) (hd : decode c.code pc = .ok (.if_acmp cd o, 3)) (hc : XT.acmp cd x y = true) (ho : 0 ≤ (pc : Int) + o) (hp : ((pc : Int) + o).toNat = pc') (h : own_Go p e below P T (mkF m pc' Ls st)) : own_Go p e below P T (mkF m pc Ls (y :: x :: st)) := by
  exact own_st (fun t k => XT.acmpYes X.here hx rfl (pc0 := pc) rfl hd rfl h1 h2 hc ho hp k) h
theorem own_acmpN (X : Stand p l e R s m args below meth c T locs cells slots) (hx : p.tables.exec = Jvm.exec) {cd : ACond} {x y : Value} {o : Int} (h1 : x.isRef = true) (h2 : y.isRef = true) (hd : decode c.code pc = .ok (.if_acmp cd o, 3)) (hc : XT.acmp cd x y = false) (hp : pc + 3 = pc') (h : own_Go p e below P T (mkF m pc' Ls st)) : own_Go p e below P T (mkF m pc Ls (y :: x :: st)) := by
  subst hp; exact own_st (fun t k => XT.acmpNo X.here hx rfl hd rfl h1 h2 hc k) h
theorem own_cut (h1 : own_Go p e below P T g' → own_Go p e below P T g) (h2 : own_Go p e below P T g') : own_Go p e below P T g := h1 h2
theorem own_iinc (X : Stand p l e R s m args below meth c T locs cells slots) (hx : p.tables.exec = Jvm.exec) {k : Nat} {cst : Int} {x : Int32} (v : Int32) (hd : decode c.code pc = .ok (.iinc k cst, 3)) (hp : pc + 3 = pc') (hl : Ls[k]? = some (.val (.int x))) (hv : x + Int32.ofInt cst = v) (hs : storeLocals Ls k (.int v) = some Ls') (h : own_Go p e below P T (mkF m pc' Ls' st)) : own_Go p e below P T (mkF m pc Ls st) := by
  subst hp hv; exact own_st (fun t k => XS.iinc X.here hx rfl hd hl hs k) h
theorem own_stv {Ls : Array Slot} {k : Nat} {v : Value} {o : Slot} (hv : v.isRef = true) (hold : Ls[k]? = some o) (ho : o = .unset ∨ ∃ w, o = .val w ∧ w.category = 1) : storeLocals Ls k v = some (Ls.setIfInBounds k (.val v)) := XS.store1 hold ho (XT.cat1 hv)
abbrev own_End (s : State) (Q : Option Value → Heap → List Loc → Prop) (k n : Nat) : State → Outcome → Prop := fun u o => ∃ v L, o = .returned v ∧ Q v u.heap L ∧ FrameEnd s o u L k n
variable {Q : Option Value → Heap → List Loc → Prop} {ck sn : Nat}
theorem own_retZ (X : Stand p l e R s m args below meth c T locs cells slots) (hx : p.tables.exec = Jvm.exec) (hk : meth.locks = false) {t : FieldType} (hret : meth.sig.returnType = some t) (ht : t = .boolean ∨ t = .byte ∨ t = .char ∨ t = .short) {z : Int32} (hd : decode c.code pc = .ok (.ireturn, 1)) (hc : cells ≤ ck) (hs : slots ≤ sn) (hQ : Q (some (.int (nar t z))) T.heap locs) :
    own_Go p e below (own_End s Q ck sn) T (mkF m pc Ls (.int z :: st)) := by
  obtain ⟨fs, hr, hrun, hended, hW, hsame⟩ := X.leave (v := some (.int (nar t z))) (fun h => by rw [hret] at h; cases h) hk
  exact ⟨_, _, retN X hx hret ht hd hr, hrun, hended, _, _, rfl, hQ, ⟨_, rfl⟩, hW, hsame.mono hc hs⟩
theorem own_retI (X : Stand p l e R s m args below meth c T locs cells slots) (hx : p.tables.exec = Jvm.exec) (hk : meth.locks = false) (hret : meth.sig.returnType = some .int) {z : Int32} (hd : decode c.code pc = .ok (.ireturn, 1)) (hc : cells ≤ ck) (hs : slots ≤ sn) (hQ : Q (some (.int z)) T.heap locs) :
    own_Go p e below (own_End s Q ck sn) T (mkF m pc Ls (.int z :: st)) := by
  obtain ⟨fs, hr, hrun, hended, hW, hsame⟩ := X.leave (v := some (.int z)) (fun h => by rw [hret] at h; cases h) hk
  exact ⟨_, _, retOut X hx hret rfl (Or.inl ⟨rfl, Or.inl rfl, z, rfl⟩) hd hr, hrun, hended, _, _, rfl, hQ, ⟨_, rfl⟩, hW, hsame.mono hc hs⟩
theorem own_retL (X : Stand p l e R s m args below meth c T locs cells slots) (hx : p.tables.exec = Jvm.exec) (hk : meth.locks = false) (hret : meth.sig.returnType = some .long) {z : Int64} (hd : decode c.code pc = .ok (.lreturn, 1)) (hc : cells ≤ ck) (hs : slots ≤ sn) (hQ : Q (some (.long z)) T.heap locs) :
    own_Go p e below (own_End s Q ck sn) T (mkF m pc Ls (.long z :: st)) := by
  obtain ⟨fs, hr, hrun, hended, hW, hsame⟩ := X.leave (v := some (.long z)) (fun h => by rw [hret] at h; cases h) hk
  exact ⟨_, _, retOut X hx hret rfl (Or.inr (Or.inl ⟨rfl, rfl, z, rfl⟩)) hd hr, hrun, hended, _, _, rfl, hQ, ⟨_, rfl⟩, hW, hsame.mono hc hs⟩
theorem own_narR {t : FieldType} {w : Value} (ht : t.isReference = true) (hw : w.isRef = true) : narrow t w = w := by
  rcases ref_cases hw with rfl | ⟨a, rfl⟩ <;> cases t <;> first | rfl | (cases ht; done)
theorem own_retA (X : Stand p l e R s m args below meth c T locs cells slots) (hx : p.tables.exec = Jvm.exec) (hk : meth.locks = false) {t : FieldType} (hret : meth.sig.returnType = some t) (ht : t.isReference = true) {w : Value} (hw : w.isRef = true) (hd : decode c.code pc = .ok (.areturn, 1)) (hc : cells ≤ ck) (hs : slots ≤ sn) (hQ : Q (some w) T.heap locs) :
    own_Go p e below (own_End s Q ck sn) T (mkF m pc Ls (w :: st)) := by
  obtain ⟨fs, hr, hrun, hended, hW, hsame⟩ := X.leave (v := some w) (fun h => by rw [hret] at h; cases h) hk
  exact ⟨_, _, retOut X hx hret (own_narR ht hw) (Or.inr (Or.inr (Or.inr (Or.inr ⟨rfl, ht, hw⟩)))) hd hr, hrun, hended, _, _, rfl, hQ, ⟨_, rfl⟩, hW, hsame.mono hc hs⟩
theorem own_retV (X : Stand p l e R s m args below meth c T locs cells slots) (hx : p.tables.exec = Jvm.exec) (hk : meth.locks = false) (hret : meth.sig.returnType = none) (hd : decode c.code pc = .ok (.return_, 1)) (hc : cells ≤ ck) (hs : slots ≤ sn) (hQ : Q none T.heap locs) :
    own_Go p e below (own_End s Q ck sn) T (mkF m pc Ls []) := by
  obtain ⟨fs, hr, hrun, hended, hW, hsame⟩ := X.leave (v := none) (fun _ => rfl) hk
  exact ⟨_, _, X.returnOut hx hret hd hr, hrun, hended, _, _, rfl, hQ, ⟨_, rfl⟩, hW, hsame.mono hc hs⟩
end OwnGo
section OwnDbl
variable {p : Program} {l : Launch} {e : Env} {R : Room} {s : State} {m : MethodId} {args : Array Value} {below : List Frame} {meth : Method} {c : Code} {T : State} {locs : List Loc} {cells slots : Nat} {P : State → Outcome → Prop} {Ls Ls' : Array Slot} {st : List Value} {pc pc' : Nat} {Q : Option Value → Heap → List Loc → Prop} {ck sn : Nat}
theorem own_ladd (X : Stand p l e R s m args below meth c T locs cells slots) (hx : p.tables.exec = Jvm.exec) {x y : Int64} (hd : decode c.code pc = .ok (.ladd, 1)) (hp : pc + 1 = pc') (h : own_Go p e below P T (mkF m pc' Ls (.long (x + y) :: st))) : own_Go p e below P T (mkF m pc Ls (.long y :: .long x :: st)) := by
  subst hp; exact own_st (fun t k => XT.ladd X.here hx rfl hd rfl k) h
theorem own_lmul (X : Stand p l e R s m args below meth c T locs cells slots) (hx : p.tables.exec = Jvm.exec) {x y : Int64} (hd : decode c.code pc = .ok (.lmul, 1)) (hp : pc + 1 = pc') (h : own_Go p e below P T (mkF m pc' Ls (.long (x * y) :: st))) : own_Go p e below P T (mkF m pc Ls (.long y :: .long x :: st)) := by
  subst hp; exact own_st (fun t k => XT.lmul X.here hx rfl hd rfl k) h
theorem own_land (X : Stand p l e R s m args below meth c T locs cells slots) (hx : p.tables.exec = Jvm.exec) {x y : Int64} (hd : decode c.code pc = .ok (.land, 1)) (hp : pc + 1 = pc') (h : own_Go p e below P T (mkF m pc' Ls (.long (x &&& y) :: st))) : own_Go p e below P T (mkF m pc Ls (.long y :: .long x :: st)) := by
  subst hp; exact own_st (fun t k => XT.land X.here hx rfl hd rfl k) h
theorem own_lrem (X : Stand p l e R s m args below meth c T locs cells slots) (hx : p.tables.exec = Jvm.exec) {x y : Int64} (hd : decode c.code pc = .ok (.lrem, 1)) (hp : pc + 1 = pc') (hy : y ≠ 0) (h : own_Go p e below P T (mkF m pc' Ls (.long (x - (x / y) * y) :: st))) : own_Go p e below P T (mkF m pc Ls (.long y :: .long x :: st)) := by
  subst hp; exact own_st (fun t k => XT.lrem X.here hx rfl hd rfl hy k) h
theorem own_l2d (X : Stand p l e R s m args below meth c T locs cells slots) (hx : p.tables.exec = Jvm.exec) {x : Int64} (hd : decode c.code pc = .ok (.l2d, 1)) (hp : pc + 1 = pc') (h : own_Go p e below P T (mkF m pc' Ls (.double (FP.l2d x) :: st))) : own_Go p e below P T (mkF m pc Ls (.long x :: st)) := by
  subst hp; exact own_st (fun t k => XS.l2dS X.here hx rfl hd rfl rfl k) h
theorem own_i2d (X : Stand p l e R s m args below meth c T locs cells slots) (hx : p.tables.exec = Jvm.exec) {x : Int32} (hd : decode c.code pc = .ok (.i2d, 1)) (hp : pc + 1 = pc') (h : own_Go p e below P T (mkF m pc' Ls (.double (FP.l2d x.toInt64) :: st))) : own_Go p e below P T (mkF m pc Ls (.int x :: st)) := by
  subst hp; exact own_st (fun t k => XS.i2dS X.here hx rfl hd rfl (i2d_w x) k) h
theorem own_ddiv (X : Stand p l e R s m args below meth c T locs cells slots) (hx : p.tables.exec = Jvm.exec) {x y : UInt64} (hd : decode c.code pc = .ok (.ddiv, 1)) (hp : pc + 1 = pc') (hn : Jvm.Free.Fl.NoNaN64 (FP.ddiv x y)) (h : own_Go p e below P T (mkF m pc' Ls (.double (FP.ddiv x y) :: st))) : own_Go p e below P T (mkF m pc Ls (.double y :: .double x :: st)) := by
  subst hp; exact own_st (fun t k => XS.ddivS X.here hx rfl hd rfl hn rfl k) h
theorem own_dmul (X : Stand p l e R s m args below meth c T locs cells slots) (hx : p.tables.exec = Jvm.exec) {x y : UInt64} (hd : decode c.code pc = .ok (.dmul, 1)) (hp : pc + 1 = pc') (hn : Jvm.Free.Fl.NoNaN64 (FP.dmul x y)) (h : own_Go p e below P T (mkF m pc' Ls (.double (FP.dmul x y) :: st))) : own_Go p e below P T (mkF m pc Ls (.double y :: .double x :: st)) := by
  subst hp; exact own_st (fun t k => XS.dmulS X.here hx rfl hd rfl hn rfl k) h
theorem own_dadd (X : Stand p l e R s m args below meth c T locs cells slots) (hx : p.tables.exec = Jvm.exec) {x y : UInt64} (hd : decode c.code pc = .ok (.dadd, 1)) (hp : pc + 1 = pc') (hn : Jvm.Free.Fl.NoNaN64 (FP.dadd x y)) (h : own_Go p e below P T (mkF m pc' Ls (.double (FP.dadd x y) :: st))) : own_Go p e below P T (mkF m pc Ls (.double y :: .double x :: st)) := by
  subst hp; exact own_st (fun t k => XS.daddS X.here hx rfl hd rfl hn rfl k) h
theorem own_dcmp (X : Stand p l e R s m args below meth c T locs cells slots) (hx : p.tables.exec = Jvm.exec) {o : CmpOp} {x y : UInt64} (v : Int32) (hv : cmpValue (FP.dcmp x y) o = v) (hd : decode c.code pc = .ok (.dcmp o, 1)) (hp : pc + 1 = pc') (h : own_Go p e below P T (mkF m pc' Ls (.int v :: st))) : own_Go p e below P T (mkF m pc Ls (.double y :: .double x :: st)) := by
  subst hp; exact own_st (fun t k => XS.dcmpS X.here hx rfl hd rfl hv k) h
theorem own_dconst (X : Stand p l e R s m args below meth c T locs cells slots) (hx : p.tables.exec = Jvm.exec) (hd : decode c.code pc = .ok (.dconst 0, 1)) (hp : pc + 1 = pc') (h : own_Go p e below P T (mkF m pc' Ls (.double (FP.l2d 0) :: st))) : own_Go p e below P T (mkF m pc Ls st) := by
  subst hp; exact own_st (fun t k => XS.dconst0 X.here hx rfl hd (by decide +kernel) k) h
theorem own_dload (X : Stand p l e R s m args below meth c T locs cells slots) (hx : p.tables.exec = Jvm.exec) {k : Nat} {v : UInt64} (hd : decode c.code pc = .ok (.dload k, 2)) (hp : pc + 2 = pc') (hl : Ls[k]? = some (.val (.double v))) (h : own_Go p e below P T (mkF m pc' Ls (.double v :: st))) : own_Go p e below P T (mkF m pc Ls st) := by
  subst hp; exact own_st (fun t k => XS.dload X.here hx rfl hd hl k) h
theorem own_dloadN (X : Stand p l e R s m args below meth c T locs cells slots) (hx : p.tables.exec = Jvm.exec) {k : Fin 4} {v : UInt64} (hd : decode c.code pc = .ok (.dload_n k, 1)) (hp : pc + 1 = pc') (hl : Ls[k.val]? = some (.val (.double v))) (h : own_Go p e below P T (mkF m pc' Ls (.double v :: st))) : own_Go p e below P T (mkF m pc Ls st) := by
  subst hp; exact own_st (fun t k => XS.dloadN X.here hx rfl hd hl k) h
theorem own_dstore (X : Stand p l e R s m args below meth c T locs cells slots) (hx : p.tables.exec = Jvm.exec) {k : Nat} {x : UInt64} (hd : decode c.code pc = .ok (.dstore k, 2)) (hp : pc + 2 = pc') (hl : storeLocals Ls k (.double x) = some Ls') (h : own_Go p e below P T (mkF m pc' Ls' st)) : own_Go p e below P T (mkF m pc Ls (.double x :: st)) := by
  subst hp; exact own_st (fun t k => XS.dstore X.here hx rfl hd rfl hl k) h
theorem own_dstoreN (X : Stand p l e R s m args below meth c T locs cells slots) (hx : p.tables.exec = Jvm.exec) {k : Fin 4} {x : UInt64} (hd : decode c.code pc = .ok (.dstore_n k, 1)) (hp : pc + 1 = pc') (hl : storeLocals Ls k.val (.double x) = some Ls') (h : own_Go p e below P T (mkF m pc' Ls' st)) : own_Go p e below P T (mkF m pc Ls (.double x :: st)) := by
  subst hp; exact own_st (fun t k => XS.dstoreN X.here hx rfl hd rfl hl k) h
theorem own_retD (X : Stand p l e R s m args below meth c T locs cells slots) (hx : p.tables.exec = Jvm.exec) (hk : meth.locks = false) (hret : meth.sig.returnType = some .double) {z : UInt64} (hd : decode c.code pc = .ok (.dreturn, 1)) (hc : cells ≤ ck) (hs : slots ≤ sn) (hQ : Q (some (.double z)) T.heap locs) :
    own_Go p e below (own_End s Q ck sn) T (mkF m pc Ls (.double z :: st)) := by
  obtain ⟨fs, hr, hrun, hended, hW, hsame⟩ := X.leave (v := some (.double z)) (fun h => by rw [hret] at h; cases h) hk
  exact ⟨_, _, retOut X hx hret rfl (Or.inr (Or.inr (Or.inl ⟨rfl, rfl, z, rfl⟩))) hd hr, hrun, hended, _, _, rfl, hQ, ⟨_, rfl⟩, hW, hsame.mono hc hs⟩
theorem own_ldcD (X : Stand p l e R s m args below meth c T locs cells slots) (hx : p.tables.exec = Jvm.exec) {own : String} {index : Nat} {b : UInt64} (hown : s.vm.findClass own = some m.cls) (hc : (Cond.constantDouble own index b).before args s = true) (hd : decode c.code pc = .ok (.ldc2_w index, 3)) (hp : pc + 3 = pc') (k : own_Go p e below P T (mkF m pc' Ls (.double b :: st))) : own_Go p e below P T (mkF m pc Ls st) := by
  subst hp; exact own_st (X.ldc2DoubleC hx hown hc (g := mkF m pc Ls st) rfl hd) k
end OwnDbl
section OwnFP
open Jvm.FP
theorem own_qmax : Core.b64.qmax = 971 := by decide
theorem own_dat {m k : Nat} (hm : m < 2 ^ 53) (hk : k ≤ 100) : ∃ V, Core.fits Core.b64 V ∧ V ≠ .nan ∧ Core.zmag Core.b64 V = m * 2 ^ (1074 - k) := by
  obtain ⟨c, q, h1, h2⟩ := Core.round_exact Core.good_b64 false (c := m) (q := -(k : Int)) hm (by rw [Core.qmin_b64]; omega) (by rw [own_qmax]; omega)
  refine ⟨Core.round Core.b64 (.fin false m (-(k : Int))), Core.round_fits Core.good_b64 _, by rw [h1]; exact Core.Datum.noConfusion, ?_⟩
  rw [h1]
  show Core.inUnits c q Core.b64.qmin = _
  rw [h2]; unfold Core.inUnits; rw [Core.qmin_b64]; congr 2; omega
theorem own_abs {s : Bool} {c : Nat} {q i : Int} (h : Core.Whole i (.fin s c q)) : c * 2 ^ q.toNat = i.natAbs * 2 ^ (-q).toNat := by
  have e := congrArg Int.natAbs (show Core.signed s (c * 2 ^ q.toNat) = i * ((2 ^ (-q).toNat : Nat) : Int) from h)
  rw [Core.natAbs_signed, Int.natAbs_mul, Int.natAbs_natCast] at e
  exact e
theorem own_cross {c d T n : Nat} {q r : Int} (h1 : c * 2 ^ q.toNat = T * 2 ^ (-q).toNat) (h2 : d * 2 ^ r.toNat = n * 2 ^ (-r).toNat) :
    c * n * 2 ^ (q - r - 0).toNat = T * d * 2 ^ (0 - (q - r)).toNat := by
  have e : (-q).toNat + r.toNat + (q - r - 0).toNat = (0 - (q - r)).toNat + q.toNat + (-r).toNat := by omega
  refine Nat.eq_of_mul_eq_mul_right (Nat.two_pow_pos q.toNat) (Nat.eq_of_mul_eq_mul_right (Nat.two_pow_pos (-r).toNat) ?_)
  calc c * n * 2 ^ (q - r - 0).toNat * 2 ^ q.toNat * 2 ^ (-r).toNat
      = (c * 2 ^ q.toNat) * (n * 2 ^ (-r).toNat) * 2 ^ (q - r - 0).toNat := by ac_rfl
    _ = T * d * 2 ^ ((-q).toNat + r.toNat + (q - r - 0).toNat) := by rw [h1, ← h2, Nat.pow_add, Nat.pow_add]; ac_rfl
    _ = T * d * 2 ^ (0 - (q - r)).toNat * 2 ^ q.toNat * 2 ^ (-r).toNat := by rw [e, Nat.pow_add, Nat.pow_add]; ac_rfl
/-- the quotient of two whole numbers is their ratio, rounded -/
theorem own_quo {a b : Int64} (ha : Core.Small53 a) (hb : Core.Small53 b) (h0 : 0 < b.toInt) : Core.val64 (Core.ddiv (Core.l2d a) (Core.l2d b)) = Core.roundRatio Core.b64 (decide (a.toInt < 0)) a.toInt.natAbs b.toInt.natAbs 0 := by
  obtain ⟨c, q, hc⟩ := Core.l2d_shape a
  obtain ⟨d, r, hd⟩ := Core.l2d_shape b
  have wa := Core.l2d_whole ha
  have wb := Core.l2d_whole hb
  rw [hc] at wa
  rw [hd] at wb
  have ea := own_abs wa
  have eb := own_abs wb
  have hn : 0 < b.toInt.natAbs := by omega
  have hd0 : 0 < d := by
    rcases Nat.eq_zero_or_pos d with rfl | h
    · rw [Nat.zero_mul] at eb
      have := Nat.mul_pos hn (Nat.two_pow_pos (-r).toNat); omega
    · exact h
  rw [Core.val64_ddiv, hc, hd]
  show (if d = 0 then _ else Core.roundRatio Core.b64 (decide (a.toInt < 0) != decide (b.toInt < 0)) c d (q - r)) = _
  rw [if_neg (by omega), show decide (b.toInt < 0) = false from decide_eq_false (by omega), Bool.bne_false]
  exact Core.roundRatio_congr hd0 hn (own_cross ea eb)
theorem own_rat {s : Bool} {A n lo : Nat} (hn : 0 < n) (hn2 : n ≤ 1048576) (hlo : lo < 1073741824) (h1 : lo * n + 1 ≤ A) (h2 : A + 1 ≤ (lo + 1) * n) :
    lo * 2 ^ 1074 < Core.zmag Core.b64 (Core.roundRatio Core.b64 s A n 0) ∧ Core.zmag Core.b64 (Core.roundRatio Core.b64 s A n 0) < (lo + 1) * 2 ^ 1074 := by
  obtain ⟨V, v1, v2, v3⟩ := own_dat (m := lo * 2097152 + 1) (k := 21) (by omega) (by decide)
  obtain ⟨U, u1, u2, u3⟩ := own_dat (m := lo * 2097152 + 2097151) (k := 21) (by omega) (by decide)
  have ez : (2 : Nat) ^ (Core.b64.qmin - Core.b64.qmin).toNat = 1 := by rw [Int.sub_self]; rfl
  have ei : Core.inUnits A 0 Core.b64.qmin = A * 2 ^ 1074 := by unfold Core.inUnits; rw [Core.qmin_b64]; rfl
  have ep : (2 : Nat) ^ 1074 = 2097152 * 2 ^ (1074 - 21) := by rw [show (1074 : Nat) = 21 + (1074 - 21) from rfl, Nat.pow_add]
  have g1 := Core.zmag_roundRatio_ge Core.good_b64 (s := s) (A := A) (e := 0) (e0 := Core.b64.qmin) hn v1 (Int.le_refl _) (by rw [Core.qmin_b64]; decide)
  have g2 := Core.zmag_roundRatio_le Core.good_b64 (s := s) (A := A) (e := 0) (e0 := Core.b64.qmin) hn u1 u2 (Int.le_refl _) (by rw [Core.qmin_b64]; decide)
  rw [ez, ei, v3, Nat.mul_one] at g1
  rw [ez, ei, u3, Nat.mul_one] at g2
  rw [ep] at g1 g2 ⊢
  have hP : 0 < 2 ^ (1074 - 21) := Nat.two_pow_pos _
  generalize 2 ^ (1074 - 21) = P at *
  have k1 : (lo * 2097152 + 1) * n ≤ A * 2097152 := by
    have : (lo * 2097152 + 1) * n = 2097152 * (lo * n) + n := by rw [Nat.add_mul, Nat.one_mul, Nat.mul_right_comm, Nat.mul_comm]
    omega
  have k2 : A * 2097152 ≤ (lo * 2097152 + 2097151) * n := by
    have e3 : (lo * 2097152 + 2097151) * n = 2097152 * (lo * n) + 2097151 * n := by rw [Nat.add_mul, Nat.mul_right_comm, Nat.mul_comm]
    have e4 : (lo + 1) * n = lo * n + n := by rw [Nat.add_mul, Nat.one_mul]
    omega
  have f1 := g1 (by
    calc (lo * 2097152 + 1) * P * n = (lo * 2097152 + 1) * n * P := Nat.mul_right_comm _ _ _
      _ ≤ A * 2097152 * P := Nat.mul_le_mul_right _ k1
      _ = A * (2097152 * P) := Nat.mul_assoc _ _ _)
  have f2 := g2 (by
    calc A * (2097152 * P) = A * 2097152 * P := (Nat.mul_assoc _ _ _).symm
      _ ≤ (lo * 2097152 + 2097151) * n * P := Nat.mul_le_mul_right _ k2
      _ = (lo * 2097152 + 2097151) * P * n := Nat.mul_right_comm _ _ _)
  have d1 : (lo * 2097152 + 1) * P = lo * (2097152 * P) + P := by rw [Nat.add_mul, Nat.one_mul, Nat.mul_assoc]
  have d2 : (lo * 2097152 + 2097151) * P = lo * (2097152 * P) + 2097151 * P := by rw [Nat.add_mul, Nat.mul_assoc]
  have d3 : (lo + 1) * (2097152 * P) = lo * (2097152 * P) + 2097152 * P := by rw [Nat.add_mul, Nat.one_mul]
  rw [d1] at f1
  rw [d2] at f2
  rw [d3]
  exact ⟨by omega, by omega⟩
theorem own_zl {a : Int64} (h : Core.Small53 a) : Core.zval Core.b64 (Core.val64 (Core.l2d a)) = a.toInt * ((2 ^ 1074 : Nat) : Int) := by
  rw [Core.whole_zval Core.good_b64 (Core.val64_fits _) (Core.l2d_whole h), Core.qmin_b64]; rfl
theorem own_nnV {x : UInt64} (h : Core.val64 x ≠ .nan) : Jvm.Free.Fl.NoNaN64 x := by
  have := (Core.ne_nan x).mp h
  have e : (x &&& 0x7fffffffffffffff).toNat = x.toNat % 2 ^ 63 := by
    rw [UInt64.toNat_and]; exact Nat.and_two_pow_sub_one_eq_mod _ 63
  show x &&& 0x7fffffffffffffff ≤ 0x7ff0000000000000
  rw [UInt64.le_iff_toNat_le, e]; exact this
/-- the mean lies strictly between -/
theorem own_mean {n q r t : Int64} (hn : 0 < n.toInt) (hn2 : n.toInt ≤ 1048576) (hq1 : -1073741824 < q.toInt) (hq2 : q.toInt < 1073741824) (hr1 : 0 < r.toInt) (hr2 : r.toInt < n.toInt) (ht : t.toInt = q.toInt * n.toInt + r.toInt) :
    Jvm.Free.Fl.NoNaN64 (FP.ddiv (FP.l2d t) (FP.l2d n)) ∧ FP.dcmp (FP.l2d q) (FP.ddiv (FP.l2d t) (FP.l2d n)) = some .lt ∧ ∀ q1 : Int64, q1.toInt = q.toInt + 1 → FP.dcmp (FP.ddiv (FP.l2d t) (FP.l2d n)) (FP.l2d q1) = some .lt := by
  have hb1 : -(1073741824 * 1048576) ≤ q.toInt * n.toInt := by
    have := Int.mul_le_mul_of_nonneg_right (a := -1073741824) (b := q.toInt) (by omega) (show (0 : Int) ≤ n.toInt by omega)
    have := Int.mul_le_mul_of_nonpos_left (a := -1073741824) (b := 1048576) (c := n.toInt) (by decide) hn2
    omega
  have hb2 : q.toInt * n.toInt ≤ 1073741824 * 1048576 := by
    have := Int.mul_le_mul_of_nonneg_right (a := q.toInt) (b := 1073741824) (by omega) (show (0 : Int) ≤ n.toInt by omega)
    have := Int.mul_le_mul_of_nonneg_left (a := n.toInt) (b := 1048576) (c := 1073741824) hn2 (by decide)
    omega
  have st : Core.Small53 t := ⟨by omega, by omega⟩
  have sn : Core.Small53 n := ⟨by omega, by omega⟩
  have sq : Core.Small53 q := ⟨by omega, by omega⟩
  have hv := own_quo st sn hn
  have key : ∃ lo : Nat, lo < 1073741824 ∧ lo * n.toInt.natAbs + 1 ≤ t.toInt.natAbs ∧ t.toInt.natAbs + 1 ≤ (lo + 1) * n.toInt.natAbs ∧ ((t.toInt < 0 ∧ q.toInt = -(lo : Int) - 1) ∨ (¬ t.toInt < 0 ∧ q.toInt = lo)) := by
    have hN : (n.toInt.natAbs : Int) = n.toInt := by omega
    rcases Int.lt_or_le q.toInt 0 with h | h
    · refine ⟨(-q.toInt - 1).toNat, by omega, ?_, ?_, Or.inl ⟨?_, by omega⟩⟩
      · have e : (((-q.toInt - 1).toNat : Nat) : Int) * n.toInt = -(q.toInt * n.toInt) - n.toInt := by
          rw [Int.toNat_of_nonneg (by omega), Int.sub_mul, Int.neg_mul, Int.one_mul]
        have e2 : (((-q.toInt - 1).toNat * n.toInt.natAbs : Nat) : Int) = -(q.toInt * n.toInt) - n.toInt := by rw [Int.natCast_mul, hN]; exact e
        have : q.toInt * n.toInt ≤ -1 * n.toInt := Int.mul_le_mul_of_nonneg_right (by omega) (by omega)
        generalize q.toInt * n.toInt = X at *
        omega
      · have e : ((((-q.toInt - 1).toNat + 1) * n.toInt.natAbs : Nat) : Int) = -(q.toInt * n.toInt) := by
          rw [Int.natCast_mul, hN, show (((-q.toInt - 1).toNat + 1 : Nat) : Int) = -q.toInt by omega, Int.neg_mul]
        have : q.toInt * n.toInt ≤ -1 * n.toInt := Int.mul_le_mul_of_nonneg_right (by omega) (by omega)
        generalize q.toInt * n.toInt = X at *
        omega
      · have : q.toInt * n.toInt ≤ -1 * n.toInt := Int.mul_le_mul_of_nonneg_right (by omega) (by omega)
        omega
    · have h0 : 0 ≤ q.toInt * n.toInt := Int.mul_nonneg h (by omega)
      refine ⟨q.toInt.toNat, by omega, ?_, ?_, Or.inr ⟨by omega, by omega⟩⟩
      · have e : ((q.toInt.toNat * n.toInt.natAbs : Nat) : Int) = q.toInt * n.toInt := by rw [Int.natCast_mul, hN, Int.toNat_of_nonneg h]
        generalize q.toInt * n.toInt = X at *
        omega
      · have e : (((q.toInt.toNat + 1) * n.toInt.natAbs : Nat) : Int) = q.toInt * n.toInt + n.toInt := by rw [Int.natCast_mul, hN, Int.natCast_add, Int.toNat_of_nonneg h, Int.add_mul]; simp
        generalize q.toInt * n.toInt = X at *
        omega
  obtain ⟨lo, l1, l2, l3, l4⟩ := key
  obtain ⟨b1, b2⟩ := own_rat (s := decide (t.toInt < 0)) (A := t.toInt.natAbs) (n := n.toInt.natAbs) (lo := lo) (by omega) (by omega) l1 l2 l3
  have hnan : Core.val64 (Core.ddiv (Core.l2d t) (Core.l2d n)) ≠ .nan := by rw [hv]; exact Core.roundRatio_ne_nan _ _ _ _ _
  have hz : Core.zval Core.b64 (Core.val64 (Core.ddiv (Core.l2d t) (Core.l2d n))) = Core.signed (decide (t.toInt < 0)) (Core.zmag Core.b64 (Core.roundRatio Core.b64 (decide (t.toInt < 0)) t.toInt.natAbs n.toInt.natAbs 0)) := by
    rw [hv]; unfold Core.zval; rw [Core.sgn_roundRatio]
  have nl : ∀ a : Int64, Core.val64 (Core.l2d a) ≠ .nan := fun a => by obtain ⟨c, q, h⟩ := Core.l2d_shape a; rw [h]; exact Core.Datum.noConfusion
  refine ⟨own_nnV hnan, ?_, fun q1 h1 => ?_⟩
  · refine (Core.dcmp_zval (nl q) hnan).trans ?_
    rw [own_zl sq, hz]
    generalize Core.zmag Core.b64 (Core.roundRatio Core.b64 (decide (t.toInt < 0)) t.toInt.natAbs n.toInt.natAbs 0) = M at *
    generalize 2 ^ 1074 = P at *
    rw [Core.compare_ite, if_pos]
    rcases l4 with ⟨h, e⟩ | ⟨h, e⟩
    · rw [show decide (t.toInt < 0) = true from decide_eq_true h, e]
      show (-(lo : Int) - 1) * (P : Int) < -(M : Int)
      have : (-(lo : Int) - 1) * (P : Int) = -(((lo + 1) * P : Nat) : Int) := by rw [Int.natCast_mul, ← Int.neg_mul]; congr 1; omega
      omega
    · rw [show decide (t.toInt < 0) = false from decide_eq_false h, e]
      show (lo : Int) * (P : Int) < (M : Int)
      have : (lo : Int) * (P : Int) = ((lo * P : Nat) : Int) := (Int.natCast_mul ..).symm
      omega
  · refine (Core.dcmp_zval hnan (nl q1)).trans ?_
    rw [own_zl (a := q1) ⟨by omega, by omega⟩, hz, h1]
    generalize Core.zmag Core.b64 (Core.roundRatio Core.b64 (decide (t.toInt < 0)) t.toInt.natAbs n.toInt.natAbs 0) = M at *
    generalize 2 ^ 1074 = P at *
    rw [Core.compare_ite, if_pos]
    rcases l4 with ⟨h, e⟩ | ⟨h, e⟩
    · rw [show decide (t.toInt < 0) = true from decide_eq_true h, e]
      show -(M : Int) < (-(lo : Int) - 1 + 1) * (P : Int)
      have : (-(lo : Int) - 1 + 1) * (P : Int) = -((lo * P : Nat) : Int) := by rw [Int.natCast_mul, ← Int.neg_mul]; congr 1; omega
      omega
    · rw [show decide (t.toInt < 0) = false from decide_eq_false h, e]
      show (M : Int) < ((lo : Int) + 1) * (P : Int)
      have : ((lo : Int) + 1) * (P : Int) = (((lo + 1) * P : Nat) : Int) := by rw [Int.natCast_mul]; rfl
      omega
/-- a whole quotient is exact -/
theorem own_div0 {n q t : Int64} (hn : 0 < n.toInt) (hn2 : n.toInt ≤ 1048576) (hq1 : -1073741824 < q.toInt) (hq2 : q.toInt < 1073741824) (ht : t.toInt = q.toInt * n.toInt) : FP.ddiv (FP.l2d t) (FP.l2d n) = FP.l2d q := by
  have hb1 : -(1073741824 * 1048576) ≤ q.toInt * n.toInt := by
    have := Int.mul_le_mul_of_nonneg_right (a := -1073741824) (b := q.toInt) (by omega) (show (0 : Int) ≤ n.toInt by omega)
    have := Int.mul_le_mul_of_nonpos_left (a := -1073741824) (b := 1048576) (c := n.toInt) (by decide) hn2
    omega
  have hb2 : q.toInt * n.toInt ≤ 1073741824 * 1048576 := by
    have := Int.mul_le_mul_of_nonneg_right (a := q.toInt) (b := 1073741824) (by omega) (show (0 : Int) ≤ n.toInt by omega)
    have := Int.mul_le_mul_of_nonneg_left (a := n.toInt) (b := 1048576) (c := 1073741824) hn2 (by decide)
    omega
  have st : Core.Small53 t := ⟨by omega, by omega⟩
  have sn : Core.Small53 n := ⟨by omega, by omega⟩
  have hv := own_quo st sn hn
  have hnan : Core.val64 (Core.ddiv (Core.l2d t) (Core.l2d n)) ≠ .nan := by rw [hv]; exact Core.roundRatio_ne_nan _ _ _ _ _
  refine Core.val64_inj hnan (hv.trans ?_)
  have e : decide (t.toInt < 0) = decide (q.toInt < 0) := by
    rw [ht]; apply decide_eq_decide.mpr
    constructor
    · intro h; exact Int.lt_of_not_ge fun h2 => by have := Int.mul_nonneg h2 (show (0 : Int) ≤ n.toInt by omega); omega
    · intro h; exact Int.mul_neg_of_neg_of_pos h hn
  rw [e]
  refine (Core.roundRatio_congr (B' := 1) (A' := q.toInt.natAbs) (e' := 0) (by omega) (by decide) ?_).trans (Core.val64_l2d q).symm
  rw [ht, Int.natAbs_mul]; simp
theorem own_div1 (c : Int64) : FP.ddiv (FP.l2d c) (FP.l2d 1) = FP.l2d c := by
  have h : FP.l2d 1 = Core.dconst1 := by decide +kernel
  rw [h]
  exact Core.ddiv_one (by obtain ⟨a, b, h⟩ := Core.l2d_shape c; intro q; rw [show Core.val64 (Core.l2d c) = .nan from q] at h; cases h)
end OwnFP
theorem own_and20 (x : Int64) : 0 ≤ (x &&& 1048575).toInt ∧ (x &&& 1048575).toInt ≤ 1048575 := by
  have h : (x &&& 1048575).toBitVec.toNat ≤ 1048575 := by rw [Int64.toBitVec_and, BitVec.toNat_and]; exact Nat.and_le_right
  have e : (x &&& 1048575).toBitVec.toInt = (x &&& 1048575).toBitVec.toNat := BitVec.toInt_eq_toNat_of_lt (by omega)
  show 0 ≤ (x &&& 1048575).toBitVec.toInt ∧ (x &&& 1048575).toBitVec.toInt ≤ 1048575
  rw [e]; omega
theorem own_n (x : Int64) : ∃ n : Int64, n = (x &&& (1048575 : Int64)) + (1 : Int64) ∧ 0 < n.toInt ∧ n.toInt ≤ 1048576 := by
  refine ⟨_, rfl, ?_⟩
  have h := own_and20 x
  have h2 := c_ladd (x &&& 1048575) 1
  have h3 := rng64 ((x &&& 1048575) + 1)
  have e1 : (1 : Int64).toInt = 1 := rfl
  omega
theorem own_q (x : Int64) : ∃ q : Int64, q = x - (x / (1073741824 : Int64)) * (1073741824 : Int64) ∧ -1073741824 < q.toInt ∧ q.toInt < 1073741824 := by
  refine ⟨_, rfl, ?_⟩
  have h := c_lrem x 1073741824 1073741824 (by decide)
  rcases Int.lt_or_le x.toInt 0 with h0 | h0
  · have := h.2 h0; omega
  · have := h.1 h0; omega
theorem own_r (x : Int64) {n : Int64} (hn : 0 < n.toInt) : ∃ r : Int64, r = (x &&& (9223372036854775807 : Int64)) - ((x &&& (9223372036854775807 : Int64)) / n) * n ∧ 0 ≤ r.toInt ∧ r.toInt < n.toInt := by
  refine ⟨_, rfl, ?_⟩
  have h0 := (c_andSL x 9223372036854775807).2.2 (by decide)
  have h := (c_lrem (x &&& 9223372036854775807) n n.toInt rfl).1 h0
  rw [h]
  exact ⟨Int.emod_nonneg _ (by omega), Int.emod_lt_of_pos _ hn⟩
theorem own_ne0 {n : Int64} (hn : 0 < n.toInt) : ¬ n = (0 : Int64) := fun q => by rw [q] at hn; exact absurd hn (by decide)
theorem own_prod {n q : Int64} (hn : 0 < n.toInt) (hn2 : n.toInt ≤ 1048576) (hq1 : -1073741824 < q.toInt) (hq2 : q.toInt < 1073741824) : -1125899906842624 ≤ q.toInt * n.toInt ∧ q.toInt * n.toInt ≤ 1125899906842624 := by
  have a1 := Int.mul_le_mul_of_nonneg_right (a := -1073741824) (b := q.toInt) (by omega) (show (0 : Int) ≤ n.toInt by omega)
  have a2 := Int.mul_le_mul_of_nonpos_left (a := -1073741824) (b := 1048576) (c := n.toInt) (by decide) hn2
  have a3 := Int.mul_le_mul_of_nonneg_right (a := q.toInt) (b := 1073741824) (by omega) (show (0 : Int) ≤ n.toInt by omega)
  have a4 := Int.mul_le_mul_of_nonneg_left (a := n.toInt) (b := 1048576) (c := 1073741824) hn2 (by decide)
  omega
theorem own_tot {n q r : Int64} (hn : 0 < n.toInt) (hn2 : n.toInt ≤ 1048576) (hq1 : -1073741824 < q.toInt) (hq2 : q.toInt < 1073741824) (hr1 : 0 ≤ r.toInt) (hr2 : r.toInt < n.toInt) : ∃ t : Int64, t = q * n + r ∧ t.toInt = q.toInt * n.toInt + r.toInt ∧ FP.Core.Small53 t := by
  refine ⟨_, rfl, ?_⟩
  have hp := own_prod hn hn2 hq1 hq2
  have h1 := c_lmul q n
  have h2 := c_ladd (q * n) r
  have h3 := rng64 (q * n)
  have h4 := rng64 (q * n + r)
  have e : (q * n + r).toInt = q.toInt * n.toInt + r.toInt := by generalize q.toInt * n.toInt = X at *; omega
  exact ⟨e, by show -9007199254740992 < (q * n + r).toInt; omega, by show (q * n + r).toInt < 9007199254740992; omega⟩
theorem own_nnq {n t : Int64} (ht : FP.Core.Small53 t) (hn : 0 < n.toInt) (hn2 : n.toInt ≤ 1048576) : Jvm.Free.Fl.NoNaN64 (FP.ddiv (FP.l2d t) (FP.l2d n)) :=
  own_nnV (by
    have h := own_quo ht (b := n) ⟨by omega, by omega⟩ hn
    intro q
    exact FP.Core.roundRatio_ne_nan _ _ _ _ _ (h.symm.trans q))
theorem own_c0 {x : UInt64} {c : Int64} {o : CmpOp} (h : x = FP.l2d c) : cmpValue (FP.dcmp x (FP.l2d c)) o = 0 := dcmpV_eq h (nn_w h) o
theorem own_cg {x y : UInt64} (h : FP.dcmp x y = some .lt) : cmpValue (FP.dcmp x y) .g = -1 := by rw [h]; rfl
theorem own_pos {r : Int64} (h : 0 ≤ r.toInt) (h2 : ¬ r = (0 : Int64)) : 0 < r.toInt := by
  have : ¬ r.toInt = 0 := fun q => h2 (Int64.toInt_inj.mp (q.trans rfl))
  omega
theorem own_t0 {n q r t : Int64} (ht : t.toInt = q.toInt * n.toInt + r.toInt) (h : r = (0 : Int64)) : t.toInt = q.toInt * n.toInt := by
  subst h; rw [ht]; exact Int.add_zero _
theorem own_q1 {q : Int64} (hq1 : -1073741824 < q.toInt) (hq2 : q.toInt < 1073741824) : (q + (1 : Int64)).toInt = q.toInt + 1 := by
  have h2 := c_ladd q 1
  have h3 := rng64 (q + 1)
  have e1 : (1 : Int64).toInt = 1 := rfl
  omega
theorem d1_0 : decode jdk_30_method_1_code 0 = .ok (.aload_n 0, 1) := by decide +kernel
theorem d1_1 : decode jdk_30_method_1_code 1 = .ok (.invokespecial 1, 3) := by decide +kernel
theorem d1_4 : decode jdk_30_method_1_code 4 = .ok (.return_, 1) := by decide +kernel
theorem pn1 : plainFor (⟨"java/lang/Record", "<init>", "()V"⟩ : MethodName) = true := by first | exact plainFor_of_name (by first | (simp [plainName, overriddenIn]; done) | decide +kernel) | decide +kernel
theorem ef1 (m : MethodId) (a1 : Addr) : entryFrame m #[(.ref a1)] 1 = mkF m 0 #[.val (.ref a1)] [] := by first | (simp [entryFrame, mkF, argsToLocals, Value.category]; done) | rfl
def Q1 (Z : State) (a1 : Addr) (h0 : Heap) (n0 : Nat) (v : Option Value) (h : Heap) (L : List Loc) : Prop := v = none ∧ Fr n0 L ∧ h = h0
set_option maxRecDepth 65536 in
set_option maxHeartbeats 40000000 in
theorem rm1 (l : Launch) (Z : State) (a0 : Array Value) (hw : ∀ d ∈ tables_1, d.before a0 Z = true) (ws : List Jvm.Cond) (a1 : Addr) (h0 : Heap) (n0 : Nat) (Z0 : n0 ≤ h0.size) :
    MetFree l (⟨"java/lang/Record", "<init>", "()V"⟩ : MethodName) (head1 (Jvm.Cond.code (⟨"java/lang/Record", "<init>", "()V"⟩ : MethodName) jdk_30_method_1_code 1 none :: ws) ({ frames := 1, cells := 0, slots := 0, locals := 12 } : Room)) (fun a U => a = #[(.ref a1)] ∧ Z.Warmed39 U.vm ∧ U.heap = h0) (fun _ _ _ _ _ => True) (fun _ U o U' => ∃ v L, o = .returned v ∧ Q1 Z a1 h0 n0 v U'.heap L ∧ FrameEnd U o U' L ({ frames := 1, cells := 0, slots := 0, locals := 12 } : Room).cells ({ frames := 1, cells := 0, slots := 0, locals := 12 } : Room).slots) := by
  refine MetFree.of_bodySF pn1 hisR ?_
  intro p e s m args below meth c s₁ Bd hml0 hP hK
  obtain ⟨rfl, hZ, hh⟩ := hP
  have hx := Bd.exec
  have hby := Bd.bytes
  have hlk : meth.locks = false := BodyLoose.notSynchronized Bd
  have hml : c.maxLocals = 1 := hml0
  have hown : s.vm.findClass "java/lang/Record" = some m.cls := findClass_of_methodNamed Bd.named
  have hnm := (name_of_methodNamed Bd.named Bd.method).1
  have X0 : Stand p l e ({ frames := 1, cells := 0, slots := 0, locals := 12 } : Room) s m #[(.ref a1)] below meth c s₁ [] 0 0 := Stand.of_body Bd
  have e0 : s₁.heap = h0 := by rw [← hh, Bd.state]; rfl
  have N0 := Fr.nil n0
  rw [ef1 m a1]
  show own_Go p e below (own_End s (Q1 Z a1 h0 n0) ({ frames := 1, cells := 0, slots := 0, locals := 12 } : Room).cells ({ frames := 1, cells := 0, slots := 0, locals := 12 } : Room).slots) s₁ (mkF m 0 #[.val (.ref a1)] [])
  refine own_aloadN X0 hx (hb hby d1_0) (pc' := 1) rfl rfl rfl ?_
  obtain ⟨T_1, X_1, e_1, st_1⟩ := initO X0 hx hZ hown (hw _ (List.mem_of_getElem? (i := 14) rfl)) (hw _ (List.mem_of_getElem? (i := 15) rfl)) (hw _ (List.mem_of_getElem? (i := 16) rfl)) e0 (g := (mkF m 1 #[.val (.ref a1)] [(.ref a1)])) rfl (by rw [hml]; rfl) rfl (hb hby d1_1) (by decide) (W := 0) (by show 2 * 0 + _ ≤ _; exact Nat.le_of_eq rfl) (by decide)
  refine own_st st_1 ?_
  show own_Go p e below _ T_1 (mkF m 4 #[.val (.ref a1)] [])
  refine own_retV X_1 hx hlk Bd.returns (hb hby d1_4) (by decide) (by decide) ?_
  rw [e_1]
  exact ⟨rfl, N0, rfl⟩
theorem d2_0 : decode prog_27_method_1_code 0 = .ok (.aload_n 0, 1) := by decide +kernel
theorem d2_1 : decode prog_27_method_1_code 1 = .ok (.invokespecial 1, 3) := by decide +kernel
theorem d2_4 : decode prog_27_method_1_code 4 = .ok (.aload_n 0, 1) := by decide +kernel
theorem d2_5 : decode prog_27_method_1_code 5 = .ok (.lload_n 1, 1) := by decide +kernel
theorem d2_6 : decode prog_27_method_1_code 6 = .ok (.putfield 7, 3) := by decide +kernel
theorem d2_9 : decode prog_27_method_1_code 9 = .ok (.aload_n 0, 1) := by decide +kernel
theorem d2_10 : decode prog_27_method_1_code 10 = .ok (.lload_n 3, 1) := by decide +kernel
theorem d2_11 : decode prog_27_method_1_code 11 = .ok (.putfield 13, 3) := by decide +kernel
theorem d2_14 : decode prog_27_method_1_code 14 = .ok (.return_, 1) := by decide +kernel
theorem pd2_0 : parseMethodDescriptor "()V" = some ⟨[], none⟩ := by decide +kernel
theorem pn2 : plainFor (⟨"com/example/nodeweave/nodeweave/core/registry/CallTimes", "<init>", "(JJ)V"⟩ : MethodName) = true := by first | exact plainFor_of_name (by first | (simp [plainName, overriddenIn]; done) | decide +kernel) | decide +kernel
theorem ef2 (m : MethodId) (a1 : Addr) (n1 : Int64) (t1 : Int64) : entryFrame m #[(.ref a1), (.long n1), (.long t1)] 5 = mkF m 0 #[.val (.ref a1), .val (.long n1), .second, .val (.long t1), .second] [] := by first | (simp [entryFrame, mkF, argsToLocals, Value.category]; done) | rfl
def Q2 (Z : State) (a1 : Addr) (n1 : Int64) (t1 : Int64) (h0 : Heap) (n0 : Nat) (v : Option Value) (h : Heap) (L : List Loc) : Prop := v = none ∧ Fr n0 L ∧ Keep h0 h [a1] ∧ Fld Z h a1 "com/example/nodeweave/nodeweave/core/registry/CallTimes" "answered" "J" (.long n1) ∧ Fld Z h a1 "com/example/nodeweave/nodeweave/core/registry/CallTimes" "totalNanos" "J" (.long t1)
set_option maxRecDepth 65536 in
set_option maxHeartbeats 40000000 in
theorem rm2 (l : Launch) (Z : State) (a0 : Array Value) (hw : ∀ d ∈ tables_1, d.before a0 Z = true) (ws : List Jvm.Cond) (a1 : Addr) (n1 : Int64) (t1 : Int64) (h0 : Heap) (n0 : Nat) (Z0 : n0 ≤ h0.size) (A_a : Exa Z h0 a1 "com/example/nodeweave/nodeweave/core/registry/CallTimes") (F_answered : Fld Z h0 a1 "com/example/nodeweave/nodeweave/core/registry/CallTimes" "answered" "J" (.long (0 : Int64))) (F_totalNanos : Fld Z h0 a1 "com/example/nodeweave/nodeweave/core/registry/CallTimes" "totalNanos" "J" (.long (0 : Int64))) (ga : n0 ≤ a1) :
    MetFree l (⟨"com/example/nodeweave/nodeweave/core/registry/CallTimes", "<init>", "(JJ)V"⟩ : MethodName) (head1 (Jvm.Cond.code (⟨"com/example/nodeweave/nodeweave/core/registry/CallTimes", "<init>", "(JJ)V"⟩ : MethodName) prog_27_method_1_code 5 none :: ws) ({ frames := 2, cells := 0, slots := 0, locals := 24 } : Room)) (fun a U => a = #[(.ref a1), (.long n1), (.long t1)] ∧ Z.Warmed39 U.vm ∧ U.heap = h0) (fun _ _ _ _ _ => True) (fun _ U o U' => ∃ v L, o = .returned v ∧ Q2 Z a1 n1 t1 h0 n0 v U'.heap L ∧ FrameEnd U o U' L ({ frames := 2, cells := 0, slots := 0, locals := 24 } : Room).cells ({ frames := 2, cells := 0, slots := 0, locals := 24 } : Room).slots) := by
  refine MetFree.of_bodySF pn2 hisR ?_
  intro p e s m args below meth c s₁ Bd hml0 hP hK
  obtain ⟨rfl, hZ, hh⟩ := hP
  have hx := Bd.exec
  have hby := Bd.bytes
  have hlk : meth.locks = false := BodyLoose.notSynchronized Bd
  have hml : c.maxLocals = 5 := hml0
  have hown : s.vm.findClass "com/example/nodeweave/nodeweave/core/registry/CallTimes" = some m.cls := findClass_of_methodNamed Bd.named
  have hnm := (name_of_methodNamed Bd.named Bd.method).1
  have X0 : Stand p l e ({ frames := 2, cells := 0, slots := 0, locals := 24 } : Room) s m #[(.ref a1), (.long n1), (.long t1)] below meth c s₁ [] 0 0 := Stand.of_body Bd
  have e0 : s₁.heap = h0 := by rw [← hh, Bd.state]; rfl
  have N0 := Fr.nil n0
  have K0 : Keep h0 h0 [a1] := Keep.refl _ _
  rw [ef2 m a1 n1 t1]
  show own_Go p e below (own_End s (Q2 Z a1 n1 t1 h0 n0) ({ frames := 2, cells := 0, slots := 0, locals := 24 } : Room).cells ({ frames := 2, cells := 0, slots := 0, locals := 24 } : Room).slots) s₁ (mkF m 0 #[.val (.ref a1), .val (.long n1), .second, .val (.long t1), .second] [])
  refine own_aloadN X0 hx (hb hby d2_0) (pc' := 1) rfl rfl rfl ?_
  obtain ⟨_, _, ⟨T_1, L_1, k_1, n_1⟩, -, X_1, ⟨Lc_1, hQ_1, l_1, y_1, z_1⟩, st_1⟩ := X0.specialBack hx  (y := (⟨"java/lang/Record", "<init>", "()V"⟩ : MethodName)) rfl hown (mvT hZ (hw _ (List.mem_of_getElem? (i := 9) rfl))) (mvT hZ (hw _ (List.mem_of_getElem? (i := 10) rfl))) (mvT hZ (hw _ (List.mem_of_getElem? (i := 13) rfl))) (by decide) (backOf (W := 0) (rm1 l Z a0 hw [] a1 h0 n0 Z0) hZ (hw _ (List.mem_of_getElem? (i := 13) rfl)) (hw _ (List.mem_of_getElem? (i := 12) rfl)) (by decide) (by decide)) (g := (mkF m 1 #[.val (.ref a1), .val (.long n1), .second, .val (.long t1), .second] [(.ref a1)])) rfl (by rw [hml]; rfl) (Steps.refl _) (a := a1) (argsL := []) (rest := []) (lenOf pd2_0 rfl) rfl (by show 2 * 0 + _ ≤ _; exact Nat.le_of_eq rfl) (hb hby d2_1) (fun _ _ => ⟨rfl, e0, (by decide : 0 + 0 ≤ _), (by decide : 0 + 0 ≤ _)⟩)
  dsimp only [Pt.U, Pt.locs, Pt.cells, Pt.slots] at X_1 l_1 y_1 z_1 st_1 hQ_1
  subst l_1 y_1 z_1
  refine own_tr st_1 ?_
  obtain ⟨rfl, Nq_1, eq_1⟩ := hQ_1
  have N_1 := Fr.app N0 Nq_1
  show own_Go p e below _ T_1 (mkF m 4 #[.val (.ref a1), .val (.long n1), .second, .val (.long t1), .second] [])
  refine own_aloadN X_1 hx (hb hby d2_4) (pc' := 5) rfl rfl rfl ?_
  refine own_lloadN X_1 hx (hb hby d2_5) (pc' := 6) rfl rfl ?_
  obtain ⟨T_2, h_2, X_2, e_2, W_2, st_2⟩ := putF X_1 hx hZ hown (host := "") (Or.inl (hw _ (List.mem_of_getElem? (i := 17) rfl))) Via.refl eq_1 F_answered A_a (Or.inr ⟨(hw _ (List.mem_of_getElem? (i := 18) rfl)), rfl, hnm⟩) (hw _ (List.mem_of_getElem? (i := 4) rfl)) (ty := .long) (by decide) rfl rfl (g := (mkF m 6 #[.val (.ref a1), .val (.long n1), .second, .val (.long t1), .second] [(.long n1), (.ref a1)])) rfl rfl (hb hby d2_6)
  have F_3 : Fld Z h_2 a1 "com/example/nodeweave/nodeweave/core/registry/CallTimes" "answered" "J" (.long n1) := F_answered.same W_2
  have A_5 : Exa Z h_2 a1 "com/example/nodeweave/nodeweave/core/registry/CallTimes" := A_a.wr W_2
  have F_6 : Fld Z h_2 a1 "com/example/nodeweave/nodeweave/core/registry/CallTimes" "totalNanos" "J" (.long (0 : Int64)) := F_totalNanos.other W_2 (Or.inr (RoadKit.slot_ne (Or.inr (hw _ (List.mem_of_getElem? (i := 20) rfl))) (Or.inr (hw _ (List.mem_of_getElem? (i := 18) rfl))) (by decide) (t := .long) (t' := .long) (by decide) (by decide)))
  have Z_4 : n0 ≤ h_2.size := by rw [W_2.size]; exact Z0
  have K_4 : Keep h0 h_2 [a1] := K0.wr W_2 (Or.inl (List.mem_of_getElem? (i := 0) rfl))
  have N_2 := Fr.snoc X_2 N_1 ga
  refine own_st st_2 ?_
  show own_Go p e below _ T_2 (mkF m 9 #[.val (.ref a1), .val (.long n1), .second, .val (.long t1), .second] [])
  refine own_aloadN X_2 hx (hb hby d2_9) (pc' := 10) rfl rfl rfl ?_
  refine own_lloadN X_2 hx (hb hby d2_10) (pc' := 11) rfl rfl ?_
  obtain ⟨T_7, h_7, X_7, e_7, W_7, st_7⟩ := putF X_2 hx hZ hown (host := "") (Or.inl (hw _ (List.mem_of_getElem? (i := 19) rfl))) Via.refl e_2 F_6 A_5 (Or.inr ⟨(hw _ (List.mem_of_getElem? (i := 20) rfl)), rfl, hnm⟩) (hw _ (List.mem_of_getElem? (i := 4) rfl)) (ty := .long) (by decide) rfl rfl (g := (mkF m 11 #[.val (.ref a1), .val (.long n1), .second, .val (.long t1), .second] [(.long t1), (.ref a1)])) rfl rfl (hb hby d2_11)
  have F_8 : Fld Z h_7 a1 "com/example/nodeweave/nodeweave/core/registry/CallTimes" "totalNanos" "J" (.long t1) := F_6.same W_7
  have F_10 : Fld Z h_7 a1 "com/example/nodeweave/nodeweave/core/registry/CallTimes" "answered" "J" (.long n1) := F_3.other W_7 (Or.inr (RoadKit.slot_ne (Or.inr (hw _ (List.mem_of_getElem? (i := 18) rfl))) (Or.inr (hw _ (List.mem_of_getElem? (i := 20) rfl))) (by decide) (t := .long) (t' := .long) (by decide) (by decide)))
  have A_11 : Exa Z h_7 a1 "com/example/nodeweave/nodeweave/core/registry/CallTimes" := A_5.wr W_7
  have Z_9 : n0 ≤ h_7.size := by rw [W_7.size]; exact Z_4
  have K_9 : Keep h0 h_7 [a1] := K_4.wr W_7 (Or.inl (List.mem_of_getElem? (i := 0) rfl))
  have N_7 := Fr.snoc X_7 N_2 ga
  refine own_st st_7 ?_
  show own_Go p e below _ T_7 (mkF m 14 #[.val (.ref a1), .val (.long n1), .second, .val (.long t1), .second] [])
  refine own_retV X_7 hx hlk Bd.returns (hb hby d2_14) (by decide) (by decide) ?_
  rw [e_7]
  exact ⟨rfl, N_7, K_9, F_10, F_8⟩
theorem d3_0 : decode prog_27_method_3_code 0 = .ok (.aload_n 0, 1) := by decide +kernel
theorem d3_1 : decode prog_27_method_3_code 1 = .ok (.getfield 7, 3) := by decide +kernel
theorem d3_4 : decode prog_27_method_3_code 4 = .ok (.lconst 0, 1) := by decide +kernel
theorem d3_5 : decode prog_27_method_3_code 5 = .ok (.lcmp, 1) := by decide +kernel
theorem d3_6 : decode prog_27_method_3_code 6 = .ok (.ifCond .ne 7, 3) := by decide +kernel
theorem d3_9 : decode prog_27_method_3_code 9 = .ok (.dconst 0, 1) := by decide +kernel
theorem d3_10 : decode prog_27_method_3_code 10 = .ok (.goto 14, 3) := by decide +kernel
theorem d3_24 : decode prog_27_method_3_code 24 = .ok (.dreturn, 1) := by decide +kernel
theorem pn3 : plainFor (⟨"com/example/nodeweave/nodeweave/core/registry/CallTimes", "meanNanos", "()D"⟩ : MethodName) = true := by first | exact plainFor_of_name (by first | (simp [plainName, overriddenIn]; done) | decide +kernel) | decide +kernel
theorem ef3 (m : MethodId) (a1 : Addr) : entryFrame m #[(.ref a1)] 1 = mkF m 0 #[.val (.ref a1)] [] := by first | (simp [entryFrame, mkF, argsToLocals, Value.category]; done) | rfl
def Q3 (Z : State) (a1 : Addr) (h0 : Heap) (n0 : Nat) (v : Option Value) (h : Heap) (L : List Loc) : Prop := v = some (.double (FP.l2d 0)) ∧ Fr n0 L ∧ h = h0
set_option maxRecDepth 65536 in
set_option maxHeartbeats 40000000 in
theorem rm3 (l : Launch) (Z : State) (a0 : Array Value) (hw : ∀ d ∈ tables_1, d.before a0 Z = true) (ws : List Jvm.Cond) (a1 : Addr) (h0 : Heap) (n0 : Nat) (Z0 : n0 ≤ h0.size) (F_n : Fld Z h0 a1 "com/example/nodeweave/nodeweave/core/registry/CallTimes" "answered" "J" (.long (0 : Int64))) :
    MetFree l (⟨"com/example/nodeweave/nodeweave/core/registry/CallTimes", "meanNanos", "()D"⟩ : MethodName) (head1 (Jvm.Cond.code (⟨"com/example/nodeweave/nodeweave/core/registry/CallTimes", "meanNanos", "()D"⟩ : MethodName) prog_27_method_3_code 1 (some .double) :: ws) ({ frames := 0, cells := 0, slots := 0, locals := 0 } : Room)) (fun a U => a = #[(.ref a1)] ∧ Z.Warmed39 U.vm ∧ U.heap = h0) (fun _ _ _ _ _ => True) (fun _ U o U' => ∃ v L, o = .returned v ∧ Q3 Z a1 h0 n0 v U'.heap L ∧ FrameEnd U o U' L ({ frames := 0, cells := 0, slots := 0, locals := 0 } : Room).cells ({ frames := 0, cells := 0, slots := 0, locals := 0 } : Room).slots) := by
  refine MetFree.of_bodySF pn3 hisR ?_
  intro p e s m args below meth c s₁ Bd hml0 hP hK
  obtain ⟨rfl, hZ, hh⟩ := hP
  have hx := Bd.exec
  have hby := Bd.bytes
  have hlk : meth.locks = false := BodyLoose.notSynchronized Bd
  have hml : c.maxLocals = 1 := hml0
  have hown : s.vm.findClass "com/example/nodeweave/nodeweave/core/registry/CallTimes" = some m.cls := findClass_of_methodNamed Bd.named
  have hnm := (name_of_methodNamed Bd.named Bd.method).1
  have X0 : Stand p l e ({ frames := 0, cells := 0, slots := 0, locals := 0 } : Room) s m #[(.ref a1)] below meth c s₁ [] 0 0 := Stand.of_body Bd
  have e0 : s₁.heap = h0 := by rw [← hh, Bd.state]; rfl
  have N0 := Fr.nil n0
  rw [ef3 m a1]
  show own_Go p e below (own_End s (Q3 Z a1 h0 n0) ({ frames := 0, cells := 0, slots := 0, locals := 0 } : Room).cells ({ frames := 0, cells := 0, slots := 0, locals := 0 } : Room).slots) s₁ (mkF m 0 #[.val (.ref a1)] [])
  refine own_aloadN X0 hx (hb hby d3_0) (pc' := 1) rfl rfl rfl ?_
  obtain ⟨T_1, X_1, e_1, st_1⟩ := getF X0 hx hZ hown (host := "") (Or.inl (hw _ (List.mem_of_getElem? (i := 17) rfl))) Via.refl e0 F_n (g := (mkF m 1 #[.val (.ref a1)] [(.ref a1)])) rfl rfl (hb hby d3_1)
  refine own_st st_1 ?_
  show own_Go p e below _ T_1 (mkF m 4 #[.val (.ref a1)] [(.long (0 : Int64))])
  refine own_lconst X_1 hx (0) (hb hby d3_4) (pc' := 5) rfl rfl ?_
  refine own_lcmp X_1 hx (hb hby d3_5) (pc' := 6) rfl ?_
  refine own_ifN X_1 hx (hb hby d3_6) (XT.ll_ne_f rfl) (pc' := 9) rfl ?_
  refine own_dconst X_1 hx (hb hby d3_9) (pc' := 10) rfl ?_
  refine own_goto X_1 hx (hb hby d3_10) (pc' := 24) (by decide) (by decide) ?_
  refine own_retD X_1 hx hlk Bd.returns (hb hby d3_24) (by decide) (by decide) ?_
  rw [e_1]
  exact ⟨rfl, N0, rfl⟩
theorem d4_0 : decode prog_27_method_3_code 0 = .ok (.aload_n 0, 1) := by decide +kernel
theorem d4_1 : decode prog_27_method_3_code 1 = .ok (.getfield 7, 3) := by decide +kernel
theorem d4_4 : decode prog_27_method_3_code 4 = .ok (.lconst 0, 1) := by decide +kernel
theorem d4_5 : decode prog_27_method_3_code 5 = .ok (.lcmp, 1) := by decide +kernel
theorem d4_6 : decode prog_27_method_3_code 6 = .ok (.ifCond .ne 7, 3) := by decide +kernel
theorem d4_13 : decode prog_27_method_3_code 13 = .ok (.aload_n 0, 1) := by decide +kernel
theorem d4_14 : decode prog_27_method_3_code 14 = .ok (.getfield 13, 3) := by decide +kernel
theorem d4_17 : decode prog_27_method_3_code 17 = .ok (.l2d, 1) := by decide +kernel
theorem d4_18 : decode prog_27_method_3_code 18 = .ok (.aload_n 0, 1) := by decide +kernel
theorem d4_19 : decode prog_27_method_3_code 19 = .ok (.getfield 7, 3) := by decide +kernel
theorem d4_22 : decode prog_27_method_3_code 22 = .ok (.l2d, 1) := by decide +kernel
theorem d4_23 : decode prog_27_method_3_code 23 = .ok (.ddiv, 1) := by decide +kernel
theorem d4_24 : decode prog_27_method_3_code 24 = .ok (.dreturn, 1) := by decide +kernel
theorem pn4 : plainFor (⟨"com/example/nodeweave/nodeweave/core/registry/CallTimes", "meanNanos", "()D"⟩ : MethodName) = true := by first | exact plainFor_of_name (by first | (simp [plainName, overriddenIn]; done) | decide +kernel) | decide +kernel
theorem ef4 (m : MethodId) (a1 : Addr) : entryFrame m #[(.ref a1)] 1 = mkF m 0 #[.val (.ref a1)] [] := by first | (simp [entryFrame, mkF, argsToLocals, Value.category]; done) | rfl
def Q4 (Z : State) (a1 : Addr) (n1 : Int64) (t1 : Int64) (h0 : Heap) (n0 : Nat) (v : Option Value) (h : Heap) (L : List Loc) : Prop := v = some (.double (FP.ddiv (FP.l2d t1) (FP.l2d n1))) ∧ Fr n0 L ∧ h = h0
set_option maxRecDepth 65536 in
set_option maxHeartbeats 40000000 in
theorem rm4 (l : Launch) (Z : State) (a0 : Array Value) (hw : ∀ d ∈ tables_1, d.before a0 Z = true) (ws : List Jvm.Cond) (a1 : Addr) (n1 : Int64) (t1 : Int64) (h0 : Heap) (n0 : Nat) (Z0 : n0 ≤ h0.size) (F_n : Fld Z h0 a1 "com/example/nodeweave/nodeweave/core/registry/CallTimes" "answered" "J" (.long n1)) (F_t : Fld Z h0 a1 "com/example/nodeweave/nodeweave/core/registry/CallTimes" "totalNanos" "J" (.long t1)) (hne : ¬ n1 = (0 : Int64)) (hnn : Jvm.Free.Fl.NoNaN64 (FP.ddiv (FP.l2d t1) (FP.l2d n1))) :
    MetFree l (⟨"com/example/nodeweave/nodeweave/core/registry/CallTimes", "meanNanos", "()D"⟩ : MethodName) (head1 (Jvm.Cond.code (⟨"com/example/nodeweave/nodeweave/core/registry/CallTimes", "meanNanos", "()D"⟩ : MethodName) prog_27_method_3_code 1 (some .double) :: ws) ({ frames := 0, cells := 0, slots := 0, locals := 0 } : Room)) (fun a U => a = #[(.ref a1)] ∧ Z.Warmed39 U.vm ∧ U.heap = h0) (fun _ _ _ _ _ => True) (fun _ U o U' => ∃ v L, o = .returned v ∧ Q4 Z a1 n1 t1 h0 n0 v U'.heap L ∧ FrameEnd U o U' L ({ frames := 0, cells := 0, slots := 0, locals := 0 } : Room).cells ({ frames := 0, cells := 0, slots := 0, locals := 0 } : Room).slots) := by
  refine MetFree.of_bodySF pn4 hisR ?_
  intro p e s m args below meth c s₁ Bd hml0 hP hK
  obtain ⟨rfl, hZ, hh⟩ := hP
  have hx := Bd.exec
  have hby := Bd.bytes
  have hlk : meth.locks = false := BodyLoose.notSynchronized Bd
  have hml : c.maxLocals = 1 := hml0
  have hown : s.vm.findClass "com/example/nodeweave/nodeweave/core/registry/CallTimes" = some m.cls := findClass_of_methodNamed Bd.named
  have hnm := (name_of_methodNamed Bd.named Bd.method).1
  have X0 : Stand p l e ({ frames := 0, cells := 0, slots := 0, locals := 0 } : Room) s m #[(.ref a1)] below meth c s₁ [] 0 0 := Stand.of_body Bd
  have e0 : s₁.heap = h0 := by rw [← hh, Bd.state]; rfl
  have N0 := Fr.nil n0
  rw [ef4 m a1]
  show own_Go p e below (own_End s (Q4 Z a1 n1 t1 h0 n0) ({ frames := 0, cells := 0, slots := 0, locals := 0 } : Room).cells ({ frames := 0, cells := 0, slots := 0, locals := 0 } : Room).slots) s₁ (mkF m 0 #[.val (.ref a1)] [])
  refine own_aloadN X0 hx (hb hby d4_0) (pc' := 1) rfl rfl rfl ?_
  obtain ⟨T_1, X_1, e_1, st_1⟩ := getF X0 hx hZ hown (host := "") (Or.inl (hw _ (List.mem_of_getElem? (i := 17) rfl))) Via.refl e0 F_n (g := (mkF m 1 #[.val (.ref a1)] [(.ref a1)])) rfl rfl (hb hby d4_1)
  refine own_st st_1 ?_
  show own_Go p e below _ T_1 (mkF m 4 #[.val (.ref a1)] [(.long n1)])
  refine own_lconst X_1 hx (0) (hb hby d4_4) (pc' := 5) rfl rfl ?_
  refine own_lcmp X_1 hx (hb hby d4_5) (pc' := 6) rfl ?_
  refine own_ifY X_1 hx (hb hby d4_6) (XT.ll_ne_t hne) (pc' := 13) (by decide) (by decide) ?_
  refine own_aloadN X_1 hx (hb hby d4_13) (pc' := 14) rfl rfl rfl ?_
  obtain ⟨T_2, X_2, e_2, st_2⟩ := getF X_1 hx hZ hown (host := "") (Or.inl (hw _ (List.mem_of_getElem? (i := 19) rfl))) Via.refl e_1 F_t (g := (mkF m 14 #[.val (.ref a1)] [(.ref a1)])) rfl rfl (hb hby d4_14)
  refine own_st st_2 ?_
  show own_Go p e below _ T_2 (mkF m 17 #[.val (.ref a1)] [(.long t1)])
  refine own_l2d X_2 hx (hb hby d4_17) (pc' := 18) rfl ?_
  refine own_aloadN X_2 hx (hb hby d4_18) (pc' := 19) rfl rfl rfl ?_
  obtain ⟨T_3, X_3, e_3, st_3⟩ := getF X_2 hx hZ hown (host := "") (Or.inl (hw _ (List.mem_of_getElem? (i := 17) rfl))) Via.refl e_2 F_n (g := (mkF m 19 #[.val (.ref a1)] [(.ref a1), (.double (FP.l2d t1))])) rfl rfl (hb hby d4_19)
  refine own_st st_3 ?_
  show own_Go p e below _ T_3 (mkF m 22 #[.val (.ref a1)] [(.long n1), (.double (FP.l2d t1))])
  refine own_l2d X_3 hx (hb hby d4_22) (pc' := 23) rfl ?_
  refine own_ddiv X_3 hx (hb hby d4_23) (pc' := 24) rfl hnn ?_
  refine own_retD X_3 hx hlk Bd.returns (hb hby d4_24) (by decide) (by decide) ?_
  rw [e_3]
  exact ⟨rfl, N0, rfl⟩
theorem pd0_0 : parseMethodDescriptor "(JJ)V" = some ⟨[.long, .long], none⟩ := by decide +kernel
theorem pd0_1 : parseMethodDescriptor "()D" = some ⟨[], some .double⟩ := by decide +kernel
theorem pn0 : plainFor x = true := by first | exact plainFor_of_name (by first | (simp [plainName, overriddenIn]; done) | decide +kernel) | decide +kernel
theorem ef0 (m : MethodId) (x0 : Int64) (x1 : Int64) (x2 : Int64) (x3 : Int32) : entryFrame m #[(.long x0), (.long x1), (.long x2), (.int x3)] maxLocals = mkF m 0 #[.val (.long x0), .second, .val (.long x1), .second, .val (.long x2), .second, .val (.int x3), .unset, .unset, .unset, .unset, .unset, .unset, .unset, .unset, .unset, .unset, .unset] [] := by first | (simp [entryFrame, mkF, argsToLocals, Value.category, maxLocals]; done) | rfl
def Q0 (Z : State) (x0 : Int64) (x1 : Int64) (x2 : Int64) (x3 : Int32) (h0 : Heap) (n0 : Nat) (v : Option Value) (h : Heap) (L : List Loc) : Prop := v = some (.int 1) ∧ Fr n0 L
set_option maxRecDepth 65536 in
set_option maxHeartbeats 40000000 in
theorem rm0 (l : Launch) (Z : State) (a0 : Array Value) (hw : ∀ d ∈ tables_1, d.before a0 Z = true) (ws : List Jvm.Cond) (x0 : Int64) (x1 : Int64) (x2 : Int64) (x3 : Int32) (h0 : Heap) (n0 : Nat) (Z0 : n0 ≤ h0.size) :
    MetFree l x (head1 (Jvm.Cond.code x code maxLocals ret :: ws) room_1) (fun a U => a = #[(.long x0), (.long x1), (.long x2), (.int x3)] ∧ Z.Warmed39 U.vm ∧ U.heap = h0) (fun _ _ _ _ _ => True) (fun _ U o U' => ∃ v L, o = .returned v ∧ Q0 Z x0 x1 x2 x3 h0 n0 v U'.heap L ∧ FrameEnd U o U' L 1 2) := by
  refine MetFree.of_bodySF pn0 hisR ?_
  intro p e s m args below meth c s₁ Bd hml0 hP hK
  obtain ⟨rfl, hZ, hh⟩ := hP
  have hx := Bd.exec
  have hby := Bd.bytes
  have hlk : meth.locks = false := BodyLoose.notSynchronized Bd
  have hml : c.maxLocals = 18 := hml0
  have hown : s.vm.findClass "com/example/nodeweave/nodeweave/core/registry/CallTimesMeanNanosPinLaw" = some m.cls := findClass_of_methodNamed Bd.named
  have hnm := (name_of_methodNamed Bd.named Bd.method).1
  have X0 : Stand p l e room_1 s m #[(.long x0), (.long x1), (.long x2), (.int x3)] below meth c s₁ [] 0 0 := Stand.of_body Bd
  have e0 : s₁.heap = h0 := by rw [← hh, Bd.state]; rfl
  have N0 := Fr.nil n0
  rw [ef0 m x0 x1 x2 x3]
  show own_Go p e below (own_End s (Q0 Z x0 x1 x2 x3 h0 n0) 1 2) s₁ (mkF m 0 #[.val (.long x0), .second, .val (.long x1), .second, .val (.long x2), .second, .val (.int x3), .unset, .unset, .unset, .unset, .unset, .unset, .unset, .unset, .unset, .unset, .unset] [])
  refine own_iload X0 hx (hb hby at_0) (pc' := 2) rfl rfl ?_
  refine own_iconst X0 hx (3) (hb hby at_2) (pc' := 3) rfl rfl ?_
  refine own_iand X0 hx (hb hby at_3) (pc' := 4) rfl ?_
  refine own_istore X0 hx (hb hby at_4) (pc' := 6) (Ls' := #[.val (.long x0), .second, .val (.long x1), .second, .val (.long x2), .second, .val (.int x3), .val (.int (x3 &&& (3 : Int32))), .unset, .unset, .unset, .unset, .unset, .unset, .unset, .unset, .unset, .unset]) rfl rfl ?_
  refine own_iload X0 hx (hb hby at_6) (pc' := 8) rfl rfl ?_
  by_cases c_1 : (x3 &&& (3 : Int32)) = (0 : Int32)
  · skip
    refine own_ifN X0 hx (hb hby at_8) (XT.i0_ne_f c_1) (pc' := 11) rfl ?_
    obtain ⟨T_2, h_2, X_2, e_2, E_2, A_2, D_2, -, st_2⟩ := newO X0 hx hZ hown (hw _ (List.mem_of_getElem? (i := 3) rfl)) (hw _ (List.mem_of_getElem? (i := 4) rfl)) (hw _ (List.mem_of_getElem? (i := 5) rfl)) e0 (g := (mkF m 11 #[.val (.long x0), .second, .val (.long x1), .second, .val (.long x2), .second, .val (.int x3), .val (.int (x3 &&& (3 : Int32))), .unset, .unset, .unset, .unset, .unset, .unset, .unset, .unset, .unset, .unset] [])) rfl (hb hby at_11) (by decide) (by decide)
    obtain ⟨a_2, g_2⟩ : ∃ z, z = h0.size := ⟨_, rfl⟩
    rw [← g_2] at A_2 D_2 st_2
    have ge_2 : n0 ≤ a_2 := Nat.le_trans Z0 (Nat.le_of_eq g_2.symm)
    have Z_3 : n0 ≤ h_2.size := Nat.le_trans Z0 E_2.1
    have F_4 : Fld Z h_2 a_2 "com/example/nodeweave/nodeweave/core/registry/CallTimes" "answered" "J" (.long (0 : Int64)) := D_2 (Or.inr (hw _ (List.mem_of_getElem? (i := 18) rfl))) (ty := .long) (by decide)
    have F_5 : Fld Z h_2 a_2 "com/example/nodeweave/nodeweave/core/registry/CallTimes" "totalNanos" "J" (.long (0 : Int64)) := D_2 (Or.inr (hw _ (List.mem_of_getElem? (i := 20) rfl))) (ty := .long) (by decide)
    refine own_st st_2 ?_
    show own_Go p e below _ T_2 (mkF m 14 #[.val (.long x0), .second, .val (.long x1), .second, .val (.long x2), .second, .val (.int x3), .val (.int (x3 &&& (3 : Int32))), .unset, .unset, .unset, .unset, .unset, .unset, .unset, .unset, .unset, .unset] [(.ref a_2)])
    refine own_dup X_2 hx (hb hby at_14) (pc' := 15) rfl rfl ?_
    refine own_lconst X_2 hx (0) (hb hby at_15) (pc' := 16) rfl rfl ?_
    refine own_lload X_2 hx (hb hby at_16) (pc' := 18) rfl rfl ?_
    obtain ⟨_, _, ⟨T_6, L_6, k_6, n_6⟩, -, X_6, ⟨Lc_6, hQ_6, l_6, y_6, z_6⟩, st_6⟩ := X_2.specialBack hx  (y := (⟨"com/example/nodeweave/nodeweave/core/registry/CallTimes", "<init>", "(JJ)V"⟩ : MethodName)) rfl hown (mvT hZ (hw _ (List.mem_of_getElem? (i := 6) rfl))) (mvT hZ (hw _ (List.mem_of_getElem? (i := 7) rfl))) (mvT hZ (hw _ (List.mem_of_getElem? (i := 8) rfl))) (by decide) (backOf (W := 1) (rm2 l Z a0 hw [] a_2 (0 : Int64) x2 h_2 n0 Z_3 A_2 F_4 F_5 ge_2) hZ (hw _ (List.mem_of_getElem? (i := 8) rfl)) (hw _ (List.mem_of_getElem? (i := 5) rfl)) (by decide) (by decide)) (g := (mkF m 18 #[.val (.long x0), .second, .val (.long x1), .second, .val (.long x2), .second, .val (.int x3), .val (.int (x3 &&& (3 : Int32))), .unset, .unset, .unset, .unset, .unset, .unset, .unset, .unset, .unset, .unset] [(.long x2), (.long (0 : Int64)), (.ref a_2), (.ref a_2)])) rfl (by rw [hml]; rfl) (Steps.refl _) (a := a_2) (argsL := [(.long (0 : Int64)), (.long x2)]) (rest := [(.ref a_2)]) (lenOf pd0_0 rfl) rfl (by show 2 * 0 + _ ≤ _; exact Nat.le_of_eq rfl) (hb hby at_18) (fun _ _ => ⟨rfl, e_2, (by decide : 1 + 0 ≤ _), (by decide : 2 + 0 ≤ _)⟩)
    dsimp only [Pt.U, Pt.locs, Pt.cells, Pt.slots] at X_6 l_6 y_6 z_6 st_6 hQ_6
    subst l_6 y_6 z_6
    refine own_tr st_6 ?_
    obtain ⟨rfl, Nq_6, Kq_6, q0_6, q1_6⟩ := hQ_6
    have N_6 := Fr.app N0 Nq_6
    have F_7 : Fld Z T_6.heap a_2 "com/example/nodeweave/nodeweave/core/registry/CallTimes" "answered" "J" (.long (0 : Int64)) := q0_6
    have F_8 : Fld Z T_6.heap a_2 "com/example/nodeweave/nodeweave/core/registry/CallTimes" "totalNanos" "J" (.long x2) := q1_6
    have A_10 : Exa Z T_6.heap a_2 "com/example/nodeweave/nodeweave/core/registry/CallTimes" := A_2.keep Kq_6
    have Z_9 : n0 ≤ T_6.heap.size := Nat.le_trans Z_3 Kq_6.1
    show own_Go p e below _ T_6 (mkF m 21 #[.val (.long x0), .second, .val (.long x1), .second, .val (.long x2), .second, .val (.int x3), .val (.int (x3 &&& (3 : Int32))), .unset, .unset, .unset, .unset, .unset, .unset, .unset, .unset, .unset, .unset] [(.ref a_2)])
    refine own_astore X_6 hx (hb hby at_21) (pc' := 23) (Ls' := #[.val (.long x0), .second, .val (.long x1), .second, .val (.long x2), .second, .val (.int x3), .val (.int (x3 &&& (3 : Int32))), .val (.ref a_2), .unset, .unset, .unset, .unset, .unset, .unset, .unset, .unset, .unset]) rfl rfl rfl ?_
    refine own_aload X_6 hx (hb hby at_23) (pc' := 25) rfl rfl rfl ?_
    obtain ⟨cq_11, kq_11, qa_11, qb_11, qc_11⟩ := isOf hZ rfl A_10
    obtain ⟨_, _, ⟨T_11, L_11, k_11, n_11⟩, -, X_11, ⟨Lc_11, hQ_11, l_11, y_11, z_11⟩, st_11⟩ := X_6.virtualBack hx  (y := (⟨"com/example/nodeweave/nodeweave/core/registry/CallTimes", "meanNanos", "()D"⟩ : MethodName)) (z := (⟨"com/example/nodeweave/nodeweave/core/registry/CallTimes", "meanNanos", "()D"⟩ : MethodName)) hown (mvT hZ (hw _ (List.mem_of_getElem? (i := 21) rfl))) (mvT hZ (hw _ (List.mem_of_getElem? (i := 22) rfl))) (notFace_of_selects (args := #[]) (mvT hZ (hw _ (List.mem_of_getElem? (i := 24) rfl)))) (mvT hZ (hw _ (List.mem_of_getElem? (i := 24) rfl))) (mvT hZ (hw _ (List.mem_of_getElem? (i := 23) rfl))) (by decide) (backOf (W := 0) (rm3 l Z a0 hw [] a_2 T_6.heap n0 Z_9 F_7) hZ (hw _ (List.mem_of_getElem? (i := 25) rfl)) (hw _ (List.mem_of_getElem? (i := 5) rfl)) (by decide) (by decide)) qa_11 qc_11 (g := (mkF m 25 #[.val (.long x0), .second, .val (.long x1), .second, .val (.long x2), .second, .val (.int x3), .val (.int (x3 &&& (3 : Int32))), .val (.ref a_2), .unset, .unset, .unset, .unset, .unset, .unset, .unset, .unset, .unset] [(.ref a_2)])) rfl (by rw [hml]; rfl) (Steps.refl _) (argsL := []) (rest := []) (lenOf pd0_1 rfl) rfl (by show 2 * 0 + _ ≤ _; exact Nat.le_of_eq rfl) (hb hby at_25) (fun _ _ => ⟨rfl, rfl, (by decide : 1 + 0 ≤ _), (by decide : 2 + 0 ≤ _)⟩)
    dsimp only [Pt.U, Pt.locs, Pt.cells, Pt.slots] at X_11 l_11 y_11 z_11 st_11 hQ_11
    subst l_11 y_11 z_11
    refine own_tr st_11 ?_
    obtain ⟨rfl, Nq_11, eq_11⟩ := hQ_11
    have N_11 := Fr.app N_6 Nq_11
    show own_Go p e below _ T_11 (mkF m 28 #[.val (.long x0), .second, .val (.long x1), .second, .val (.long x2), .second, .val (.int x3), .val (.int (x3 &&& (3 : Int32))), .val (.ref a_2), .unset, .unset, .unset, .unset, .unset, .unset, .unset, .unset, .unset] [(.double (FP.l2d 0))])
    refine own_dconst X_11 hx (hb hby at_28) (pc' := 29) rfl ?_
    refine own_dcmp X_11 hx (0) (by decide +kernel) (hb hby at_29) (pc' := 30) rfl ?_
    refine own_ifN X_11 hx (hb hby at_30) (by decide) (pc' := 33) rfl ?_
    refine own_iconst X_11 hx (1) (hb hby at_33) (pc' := 34) rfl rfl ?_
    refine own_goto X_11 hx (hb hby at_34) (pc' := 38) (by decide) (by decide) ?_
    refine own_retZ X_11 hx hlk Bd.returns (by simp) (hb hby at_38) (by decide) (by decide) ?_
    exact ⟨rfl, N_11⟩
  · skip
    refine own_ifY X0 hx (hb hby at_8) (XT.i0_ne_t c_1) (pc' := 39) (by decide) (by decide) ?_
    refine own_iload X0 hx (hb hby at_39) (pc' := 41) rfl rfl ?_
    refine own_iconst X0 hx (1) (hb hby at_41) (pc' := 42) rfl rfl ?_
    by_cases c_12 : (x3 &&& (3 : Int32)) = (1 : Int32)
    · skip
      refine own_icmpN X0 hx (hb hby at_42) (XT.ii_ne_f c_12) (pc' := 45) rfl ?_
      obtain ⟨T_13, h_13, X_13, e_13, E_13, A_13, D_13, -, st_13⟩ := newO X0 hx hZ hown (hw _ (List.mem_of_getElem? (i := 3) rfl)) (hw _ (List.mem_of_getElem? (i := 4) rfl)) (hw _ (List.mem_of_getElem? (i := 5) rfl)) e0 (g := (mkF m 45 #[.val (.long x0), .second, .val (.long x1), .second, .val (.long x2), .second, .val (.int x3), .val (.int (x3 &&& (3 : Int32))), .unset, .unset, .unset, .unset, .unset, .unset, .unset, .unset, .unset, .unset] [])) rfl (hb hby at_45) (by decide) (by decide)
      obtain ⟨a_13, g_13⟩ : ∃ z, z = h0.size := ⟨_, rfl⟩
      rw [← g_13] at A_13 D_13 st_13
      have ge_13 : n0 ≤ a_13 := Nat.le_trans Z0 (Nat.le_of_eq g_13.symm)
      have Z_14 : n0 ≤ h_13.size := Nat.le_trans Z0 E_13.1
      have F_15 : Fld Z h_13 a_13 "com/example/nodeweave/nodeweave/core/registry/CallTimes" "answered" "J" (.long (0 : Int64)) := D_13 (Or.inr (hw _ (List.mem_of_getElem? (i := 18) rfl))) (ty := .long) (by decide)
      have F_16 : Fld Z h_13 a_13 "com/example/nodeweave/nodeweave/core/registry/CallTimes" "totalNanos" "J" (.long (0 : Int64)) := D_13 (Or.inr (hw _ (List.mem_of_getElem? (i := 20) rfl))) (ty := .long) (by decide)
      refine own_st st_13 ?_
      show own_Go p e below _ T_13 (mkF m 48 #[.val (.long x0), .second, .val (.long x1), .second, .val (.long x2), .second, .val (.int x3), .val (.int (x3 &&& (3 : Int32))), .unset, .unset, .unset, .unset, .unset, .unset, .unset, .unset, .unset, .unset] [(.ref a_13)])
      refine own_dup X_13 hx (hb hby at_48) (pc' := 49) rfl rfl ?_
      refine own_lconst X_13 hx (1) (hb hby at_49) (pc' := 50) rfl rfl ?_
      refine own_lload X_13 hx (hb hby at_50) (pc' := 52) rfl rfl ?_
      obtain ⟨_, _, ⟨T_17, L_17, k_17, n_17⟩, -, X_17, ⟨Lc_17, hQ_17, l_17, y_17, z_17⟩, st_17⟩ := X_13.specialBack hx  (y := (⟨"com/example/nodeweave/nodeweave/core/registry/CallTimes", "<init>", "(JJ)V"⟩ : MethodName)) rfl hown (mvT hZ (hw _ (List.mem_of_getElem? (i := 6) rfl))) (mvT hZ (hw _ (List.mem_of_getElem? (i := 7) rfl))) (mvT hZ (hw _ (List.mem_of_getElem? (i := 8) rfl))) (by decide) (backOf (W := 1) (rm2 l Z a0 hw [] a_13 (1 : Int64) x2 h_13 n0 Z_14 A_13 F_15 F_16 ge_13) hZ (hw _ (List.mem_of_getElem? (i := 8) rfl)) (hw _ (List.mem_of_getElem? (i := 5) rfl)) (by decide) (by decide)) (g := (mkF m 52 #[.val (.long x0), .second, .val (.long x1), .second, .val (.long x2), .second, .val (.int x3), .val (.int (x3 &&& (3 : Int32))), .unset, .unset, .unset, .unset, .unset, .unset, .unset, .unset, .unset, .unset] [(.long x2), (.long (1 : Int64)), (.ref a_13), (.ref a_13)])) rfl (by rw [hml]; rfl) (Steps.refl _) (a := a_13) (argsL := [(.long (1 : Int64)), (.long x2)]) (rest := [(.ref a_13)]) (lenOf pd0_0 rfl) rfl (by show 2 * 0 + _ ≤ _; exact Nat.le_of_eq rfl) (hb hby at_52) (fun _ _ => ⟨rfl, e_13, (by decide : 1 + 0 ≤ _), (by decide : 2 + 0 ≤ _)⟩)
      dsimp only [Pt.U, Pt.locs, Pt.cells, Pt.slots] at X_17 l_17 y_17 z_17 st_17 hQ_17
      subst l_17 y_17 z_17
      refine own_tr st_17 ?_
      obtain ⟨rfl, Nq_17, Kq_17, q0_17, q1_17⟩ := hQ_17
      have N_17 := Fr.app N0 Nq_17
      have F_18 : Fld Z T_17.heap a_13 "com/example/nodeweave/nodeweave/core/registry/CallTimes" "answered" "J" (.long (1 : Int64)) := q0_17
      have F_19 : Fld Z T_17.heap a_13 "com/example/nodeweave/nodeweave/core/registry/CallTimes" "totalNanos" "J" (.long x2) := q1_17
      have A_21 : Exa Z T_17.heap a_13 "com/example/nodeweave/nodeweave/core/registry/CallTimes" := A_13.keep Kq_17
      have Z_20 : n0 ≤ T_17.heap.size := Nat.le_trans Z_14 Kq_17.1
      show own_Go p e below _ T_17 (mkF m 55 #[.val (.long x0), .second, .val (.long x1), .second, .val (.long x2), .second, .val (.int x3), .val (.int (x3 &&& (3 : Int32))), .unset, .unset, .unset, .unset, .unset, .unset, .unset, .unset, .unset, .unset] [(.ref a_13)])
      refine own_astore X_17 hx (hb hby at_55) (pc' := 57) (Ls' := #[.val (.long x0), .second, .val (.long x1), .second, .val (.long x2), .second, .val (.int x3), .val (.int (x3 &&& (3 : Int32))), .val (.ref a_13), .unset, .unset, .unset, .unset, .unset, .unset, .unset, .unset, .unset]) rfl rfl rfl ?_
      refine own_aload X_17 hx (hb hby at_57) (pc' := 59) rfl rfl rfl ?_
      obtain ⟨cq_22, kq_22, qa_22, qb_22, qc_22⟩ := isOf hZ rfl A_21
      obtain ⟨_, _, ⟨T_22, L_22, k_22, n_22⟩, -, X_22, ⟨Lc_22, hQ_22, l_22, y_22, z_22⟩, st_22⟩ := X_17.virtualBack hx  (y := (⟨"com/example/nodeweave/nodeweave/core/registry/CallTimes", "meanNanos", "()D"⟩ : MethodName)) (z := (⟨"com/example/nodeweave/nodeweave/core/registry/CallTimes", "meanNanos", "()D"⟩ : MethodName)) hown (mvT hZ (hw _ (List.mem_of_getElem? (i := 21) rfl))) (mvT hZ (hw _ (List.mem_of_getElem? (i := 22) rfl))) (notFace_of_selects (args := #[]) (mvT hZ (hw _ (List.mem_of_getElem? (i := 24) rfl)))) (mvT hZ (hw _ (List.mem_of_getElem? (i := 24) rfl))) (mvT hZ (hw _ (List.mem_of_getElem? (i := 23) rfl))) (by decide) (backOf (W := 0) (rm4 l Z a0 hw [] a_13 (1 : Int64) x2 T_17.heap n0 Z_20 F_18 F_19 (by decide) (nn_w (own_div1 x2))) hZ (hw _ (List.mem_of_getElem? (i := 25) rfl)) (hw _ (List.mem_of_getElem? (i := 5) rfl)) (by decide) (by decide)) qa_22 qc_22 (g := (mkF m 59 #[.val (.long x0), .second, .val (.long x1), .second, .val (.long x2), .second, .val (.int x3), .val (.int (x3 &&& (3 : Int32))), .val (.ref a_13), .unset, .unset, .unset, .unset, .unset, .unset, .unset, .unset, .unset] [(.ref a_13)])) rfl (by rw [hml]; rfl) (Steps.refl _) (argsL := []) (rest := []) (lenOf pd0_1 rfl) rfl (by show 2 * 0 + _ ≤ _; exact Nat.le_of_eq rfl) (hb hby at_59) (fun _ _ => ⟨rfl, rfl, (by decide : 1 + 0 ≤ _), (by decide : 2 + 0 ≤ _)⟩)
      dsimp only [Pt.U, Pt.locs, Pt.cells, Pt.slots] at X_22 l_22 y_22 z_22 st_22 hQ_22
      subst l_22 y_22 z_22
      refine own_tr st_22 ?_
      obtain ⟨rfl, Nq_22, eq_22⟩ := hQ_22
      have N_22 := Fr.app N_17 Nq_22
      show own_Go p e below _ T_22 (mkF m 62 #[.val (.long x0), .second, .val (.long x1), .second, .val (.long x2), .second, .val (.int x3), .val (.int (x3 &&& (3 : Int32))), .val (.ref a_13), .unset, .unset, .unset, .unset, .unset, .unset, .unset, .unset, .unset] [(.double (FP.ddiv (FP.l2d x2) (FP.l2d (1 : Int64))))])
      refine own_lload X_22 hx (hb hby at_62) (pc' := 64) rfl rfl ?_
      refine own_l2d X_22 hx (hb hby at_64) (pc' := 65) rfl ?_
      refine own_dcmp X_22 hx (0) (own_c0 (own_div1 x2)) (hb hby at_65) (pc' := 66) rfl ?_
      refine own_ifN X_22 hx (hb hby at_66) (by decide) (pc' := 69) rfl ?_
      refine own_iconst X_22 hx (1) (hb hby at_69) (pc' := 70) rfl rfl ?_
      refine own_goto X_22 hx (hb hby at_70) (pc' := 74) (by decide) (by decide) ?_
      refine own_retZ X_22 hx hlk Bd.returns (by simp) (hb hby at_74) (by decide) (by decide) ?_
      exact ⟨rfl, N_22⟩
    · skip
      refine own_icmpY X0 hx (hb hby at_42) (XT.ii_ne_t c_12) (pc' := 75) (by decide) (by decide) ?_
      refine own_lloadN X0 hx (hb hby at_75) (pc' := 76) rfl rfl ?_
      refine own_ldcJ X0 hx hown (mvT hZ (hw _ (List.mem_of_getElem? (i := 0) rfl))) (hb hby at_76) (pc' := 79) rfl ?_
      refine own_land X0 hx (hb hby at_79) (pc' := 80) rfl ?_
      refine own_lconst X0 hx (1) (hb hby at_80) (pc' := 81) rfl rfl ?_
      refine own_ladd X0 hx (hb hby at_81) (pc' := 82) rfl ?_
      refine own_lstore X0 hx (hb hby at_82) (pc' := 84) (Ls' := #[.val (.long x0), .second, .val (.long x1), .second, .val (.long x2), .second, .val (.int x3), .val (.int (x3 &&& (3 : Int32))), .val (.long ((x0 &&& (1048575 : Int64)) + (1 : Int64))), .second, .unset, .unset, .unset, .unset, .unset, .unset, .unset, .unset]) rfl rfl ?_
      obtain ⟨nn, enn, hn1, hn2⟩ := own_n x0
      rw [← enn]
      refine own_lloadN X0 hx (hb hby at_84) (pc' := 85) rfl rfl ?_
      refine own_ldcJ X0 hx hown (mvT hZ (hw _ (List.mem_of_getElem? (i := 1) rfl))) (hb hby at_85) (pc' := 88) rfl ?_
      refine own_lrem X0 hx (hb hby at_88) (pc' := 89) rfl (by decide) ?_
      refine own_lstore X0 hx (hb hby at_89) (pc' := 91) (Ls' := #[.val (.long x0), .second, .val (.long x1), .second, .val (.long x2), .second, .val (.int x3), .val (.int (x3 &&& (3 : Int32))), .val (.long nn), .second, .val (.long (x1 - (x1 / (1073741824 : Int64)) * (1073741824 : Int64))), .second, .unset, .unset, .unset, .unset, .unset, .unset]) rfl rfl ?_
      obtain ⟨qq, eqq, hq1, hq2⟩ := own_q x1
      rw [← eqq]
      refine own_lload X0 hx (hb hby at_91) (pc' := 93) rfl rfl ?_
      refine own_ldcJ X0 hx hown (mvT hZ (hw _ (List.mem_of_getElem? (i := 2) rfl))) (hb hby at_93) (pc' := 96) rfl ?_
      refine own_land X0 hx (hb hby at_96) (pc' := 97) rfl ?_
      refine own_lload X0 hx (hb hby at_97) (pc' := 99) rfl rfl ?_
      refine own_lrem X0 hx (hb hby at_99) (pc' := 100) rfl (own_ne0 hn1) ?_
      refine own_lstore X0 hx (hb hby at_100) (pc' := 102) (Ls' := #[.val (.long x0), .second, .val (.long x1), .second, .val (.long x2), .second, .val (.int x3), .val (.int (x3 &&& (3 : Int32))), .val (.long nn), .second, .val (.long qq), .second, .val (.long ((x2 &&& (9223372036854775807 : Int64)) - ((x2 &&& (9223372036854775807 : Int64)) / nn) * nn)), .second, .unset, .unset, .unset, .unset]) rfl rfl ?_
      obtain ⟨rr, err, hr1, hr2⟩ := own_r x2 hn1
      rw [← err]
      refine own_iload X0 hx (hb hby at_102) (pc' := 104) rfl rfl ?_
      refine own_iconst X0 hx (3) (hb hby at_104) (pc' := 105) rfl rfl ?_
      by_cases c_23 : (x3 &&& (3 : Int32)) = (3 : Int32)
      · skip
        refine own_icmpN X0 hx (hb hby at_105) (XT.ii_ne_f c_23) (pc' := 108) rfl ?_
        refine own_lconst X0 hx (0) (hb hby at_108) (pc' := 109) rfl rfl ?_
        refine own_lstore X0 hx (hb hby at_109) (pc' := 111) (Ls' := #[.val (.long x0), .second, .val (.long x1), .second, .val (.long x2), .second, .val (.int x3), .val (.int (x3 &&& (3 : Int32))), .val (.long nn), .second, .val (.long qq), .second, .val (.long (0 : Int64)), .second, .unset, .unset, .unset, .unset]) rfl rfl ?_
        refine own_lload X0 hx (hb hby at_111) (pc' := 113) rfl rfl ?_
        refine own_lload X0 hx (hb hby at_113) (pc' := 115) rfl rfl ?_
        refine own_lmul X0 hx (hb hby at_115) (pc' := 116) rfl ?_
        refine own_lload X0 hx (hb hby at_116) (pc' := 118) rfl rfl ?_
        refine own_ladd X0 hx (hb hby at_118) (pc' := 119) rfl ?_
        refine own_lstore X0 hx (hb hby at_119) (pc' := 121) (Ls' := #[.val (.long x0), .second, .val (.long x1), .second, .val (.long x2), .second, .val (.int x3), .val (.int (x3 &&& (3 : Int32))), .val (.long nn), .second, .val (.long qq), .second, .val (.long (0 : Int64)), .second, .val (.long ((qq * nn) + (0 : Int64))), .second, .unset, .unset]) rfl rfl ?_
        obtain ⟨tt, ett, ht, hst⟩ := own_tot (r := (0 : Int64)) hn1 hn2 hq1 hq2 (by decide) hn1
        rw [← ett]
        obtain ⟨T_24, h_24, X_24, e_24, E_24, A_24, D_24, -, st_24⟩ := newO X0 hx hZ hown (hw _ (List.mem_of_getElem? (i := 3) rfl)) (hw _ (List.mem_of_getElem? (i := 4) rfl)) (hw _ (List.mem_of_getElem? (i := 5) rfl)) e0 (g := (mkF m 121 #[.val (.long x0), .second, .val (.long x1), .second, .val (.long x2), .second, .val (.int x3), .val (.int (x3 &&& (3 : Int32))), .val (.long nn), .second, .val (.long qq), .second, .val (.long (0 : Int64)), .second, .val (.long tt), .second, .unset, .unset] [])) rfl (hb hby at_121) (by decide) (by decide)
        obtain ⟨a_24, g_24⟩ : ∃ z, z = h0.size := ⟨_, rfl⟩
        rw [← g_24] at A_24 D_24 st_24
        have ge_24 : n0 ≤ a_24 := Nat.le_trans Z0 (Nat.le_of_eq g_24.symm)
        have Z_25 : n0 ≤ h_24.size := Nat.le_trans Z0 E_24.1
        have F_26 : Fld Z h_24 a_24 "com/example/nodeweave/nodeweave/core/registry/CallTimes" "answered" "J" (.long (0 : Int64)) := D_24 (Or.inr (hw _ (List.mem_of_getElem? (i := 18) rfl))) (ty := .long) (by decide)
        have F_27 : Fld Z h_24 a_24 "com/example/nodeweave/nodeweave/core/registry/CallTimes" "totalNanos" "J" (.long (0 : Int64)) := D_24 (Or.inr (hw _ (List.mem_of_getElem? (i := 20) rfl))) (ty := .long) (by decide)
        refine own_st st_24 ?_
        show own_Go p e below _ T_24 (mkF m 124 #[.val (.long x0), .second, .val (.long x1), .second, .val (.long x2), .second, .val (.int x3), .val (.int (x3 &&& (3 : Int32))), .val (.long nn), .second, .val (.long qq), .second, .val (.long (0 : Int64)), .second, .val (.long tt), .second, .unset, .unset] [(.ref a_24)])
        refine own_dup X_24 hx (hb hby at_124) (pc' := 125) rfl rfl ?_
        refine own_lload X_24 hx (hb hby at_125) (pc' := 127) rfl rfl ?_
        refine own_lload X_24 hx (hb hby at_127) (pc' := 129) rfl rfl ?_
        obtain ⟨_, _, ⟨T_28, L_28, k_28, n_28⟩, -, X_28, ⟨Lc_28, hQ_28, l_28, y_28, z_28⟩, st_28⟩ := X_24.specialBack hx  (y := (⟨"com/example/nodeweave/nodeweave/core/registry/CallTimes", "<init>", "(JJ)V"⟩ : MethodName)) rfl hown (mvT hZ (hw _ (List.mem_of_getElem? (i := 6) rfl))) (mvT hZ (hw _ (List.mem_of_getElem? (i := 7) rfl))) (mvT hZ (hw _ (List.mem_of_getElem? (i := 8) rfl))) (by decide) (backOf (W := 1) (rm2 l Z a0 hw [] a_24 nn tt h_24 n0 Z_25 A_24 F_26 F_27 ge_24) hZ (hw _ (List.mem_of_getElem? (i := 8) rfl)) (hw _ (List.mem_of_getElem? (i := 5) rfl)) (by decide) (by decide)) (g := (mkF m 129 #[.val (.long x0), .second, .val (.long x1), .second, .val (.long x2), .second, .val (.int x3), .val (.int (x3 &&& (3 : Int32))), .val (.long nn), .second, .val (.long qq), .second, .val (.long (0 : Int64)), .second, .val (.long tt), .second, .unset, .unset] [(.long tt), (.long nn), (.ref a_24), (.ref a_24)])) rfl (by rw [hml]; rfl) (Steps.refl _) (a := a_24) (argsL := [(.long nn), (.long tt)]) (rest := [(.ref a_24)]) (lenOf pd0_0 rfl) rfl (by show 2 * 0 + _ ≤ _; exact Nat.le_of_eq rfl) (hb hby at_129) (fun _ _ => ⟨rfl, e_24, (by decide : 1 + 0 ≤ _), (by decide : 2 + 0 ≤ _)⟩)
        dsimp only [Pt.U, Pt.locs, Pt.cells, Pt.slots] at X_28 l_28 y_28 z_28 st_28 hQ_28
        subst l_28 y_28 z_28
        refine own_tr st_28 ?_
        obtain ⟨rfl, Nq_28, Kq_28, q0_28, q1_28⟩ := hQ_28
        have N_28 := Fr.app N0 Nq_28
        have F_29 : Fld Z T_28.heap a_24 "com/example/nodeweave/nodeweave/core/registry/CallTimes" "answered" "J" (.long nn) := q0_28
        have F_30 : Fld Z T_28.heap a_24 "com/example/nodeweave/nodeweave/core/registry/CallTimes" "totalNanos" "J" (.long tt) := q1_28
        have A_32 : Exa Z T_28.heap a_24 "com/example/nodeweave/nodeweave/core/registry/CallTimes" := A_24.keep Kq_28
        have Z_31 : n0 ≤ T_28.heap.size := Nat.le_trans Z_25 Kq_28.1
        show own_Go p e below _ T_28 (mkF m 132 #[.val (.long x0), .second, .val (.long x1), .second, .val (.long x2), .second, .val (.int x3), .val (.int (x3 &&& (3 : Int32))), .val (.long nn), .second, .val (.long qq), .second, .val (.long (0 : Int64)), .second, .val (.long tt), .second, .unset, .unset] [(.ref a_24)])
        obtain ⟨cq_33, kq_33, qa_33, qb_33, qc_33⟩ := isOf hZ rfl A_32
        obtain ⟨_, _, ⟨T_33, L_33, k_33, n_33⟩, -, X_33, ⟨Lc_33, hQ_33, l_33, y_33, z_33⟩, st_33⟩ := X_28.virtualBack hx  (y := (⟨"com/example/nodeweave/nodeweave/core/registry/CallTimes", "meanNanos", "()D"⟩ : MethodName)) (z := (⟨"com/example/nodeweave/nodeweave/core/registry/CallTimes", "meanNanos", "()D"⟩ : MethodName)) hown (mvT hZ (hw _ (List.mem_of_getElem? (i := 21) rfl))) (mvT hZ (hw _ (List.mem_of_getElem? (i := 22) rfl))) (notFace_of_selects (args := #[]) (mvT hZ (hw _ (List.mem_of_getElem? (i := 24) rfl)))) (mvT hZ (hw _ (List.mem_of_getElem? (i := 24) rfl))) (mvT hZ (hw _ (List.mem_of_getElem? (i := 23) rfl))) (by decide) (backOf (W := 0) (rm4 l Z a0 hw [] a_24 nn tt T_28.heap n0 Z_31 F_29 F_30 (own_ne0 hn1) (own_nnq hst hn1 hn2)) hZ (hw _ (List.mem_of_getElem? (i := 25) rfl)) (hw _ (List.mem_of_getElem? (i := 5) rfl)) (by decide) (by decide)) qa_33 qc_33 (g := (mkF m 132 #[.val (.long x0), .second, .val (.long x1), .second, .val (.long x2), .second, .val (.int x3), .val (.int (x3 &&& (3 : Int32))), .val (.long nn), .second, .val (.long qq), .second, .val (.long (0 : Int64)), .second, .val (.long tt), .second, .unset, .unset] [(.ref a_24)])) rfl (by rw [hml]; rfl) (Steps.refl _) (argsL := []) (rest := []) (lenOf pd0_1 rfl) rfl (by show 2 * 0 + _ ≤ _; exact Nat.le_of_eq rfl) (hb hby at_132) (fun _ _ => ⟨rfl, rfl, (by decide : 1 + 0 ≤ _), (by decide : 2 + 0 ≤ _)⟩)
        dsimp only [Pt.U, Pt.locs, Pt.cells, Pt.slots] at X_33 l_33 y_33 z_33 st_33 hQ_33
        subst l_33 y_33 z_33
        refine own_tr st_33 ?_
        obtain ⟨rfl, Nq_33, eq_33⟩ := hQ_33
        have N_33 := Fr.app N_28 Nq_33
        show own_Go p e below _ T_33 (mkF m 135 #[.val (.long x0), .second, .val (.long x1), .second, .val (.long x2), .second, .val (.int x3), .val (.int (x3 &&& (3 : Int32))), .val (.long nn), .second, .val (.long qq), .second, .val (.long (0 : Int64)), .second, .val (.long tt), .second, .unset, .unset] [(.double (FP.ddiv (FP.l2d tt) (FP.l2d nn)))])
        refine own_dstore X_33 hx (hb hby at_135) (pc' := 137) (Ls' := #[.val (.long x0), .second, .val (.long x1), .second, .val (.long x2), .second, .val (.int x3), .val (.int (x3 &&& (3 : Int32))), .val (.long nn), .second, .val (.long qq), .second, .val (.long (0 : Int64)), .second, .val (.long tt), .second, .val (.double (FP.ddiv (FP.l2d tt) (FP.l2d nn))), .second]) rfl rfl ?_
        refine own_lload X_33 hx (hb hby at_137) (pc' := 139) rfl rfl ?_
        refine own_lconst X_33 hx (0) (hb hby at_139) (pc' := 140) rfl rfl ?_
        refine own_lcmp X_33 hx (hb hby at_140) (pc' := 141) rfl ?_
        refine own_ifN X_33 hx (hb hby at_141) (XT.ll_ne_f rfl) (pc' := 144) rfl ?_
        refine own_dload X_33 hx (hb hby at_144) (pc' := 146) rfl rfl ?_
        refine own_lload X_33 hx (hb hby at_146) (pc' := 148) rfl rfl ?_
        refine own_l2d X_33 hx (hb hby at_148) (pc' := 149) rfl ?_
        refine own_dcmp X_33 hx (0) (own_c0 (own_div0 hn1 hn2 hq1 hq2 (own_t0 ht rfl))) (hb hby at_149) (pc' := 150) rfl ?_
        refine own_ifN X_33 hx (hb hby at_150) (by decide) (pc' := 153) rfl ?_
        refine own_iconst X_33 hx (1) (hb hby at_153) (pc' := 154) rfl rfl ?_
        refine own_goto X_33 hx (hb hby at_154) (pc' := 158) (by decide) (by decide) ?_
        refine own_retZ X_33 hx hlk Bd.returns (by simp) (hb hby at_158) (by decide) (by decide) ?_
        exact ⟨rfl, N_33⟩
      · skip
        refine own_icmpY X0 hx (hb hby at_105) (XT.ii_ne_t c_23) (pc' := 111) (by decide) (by decide) ?_
        refine own_lload X0 hx (hb hby at_111) (pc' := 113) rfl rfl ?_
        refine own_lload X0 hx (hb hby at_113) (pc' := 115) rfl rfl ?_
        refine own_lmul X0 hx (hb hby at_115) (pc' := 116) rfl ?_
        refine own_lload X0 hx (hb hby at_116) (pc' := 118) rfl rfl ?_
        refine own_ladd X0 hx (hb hby at_118) (pc' := 119) rfl ?_
        refine own_lstore X0 hx (hb hby at_119) (pc' := 121) (Ls' := #[.val (.long x0), .second, .val (.long x1), .second, .val (.long x2), .second, .val (.int x3), .val (.int (x3 &&& (3 : Int32))), .val (.long nn), .second, .val (.long qq), .second, .val (.long rr), .second, .val (.long ((qq * nn) + rr)), .second, .unset, .unset]) rfl rfl ?_
        obtain ⟨tt, ett, ht, hst⟩ := own_tot (r := rr) hn1 hn2 hq1 hq2 hr1 hr2
        rw [← ett]
        obtain ⟨T_34, h_34, X_34, e_34, E_34, A_34, D_34, -, st_34⟩ := newO X0 hx hZ hown (hw _ (List.mem_of_getElem? (i := 3) rfl)) (hw _ (List.mem_of_getElem? (i := 4) rfl)) (hw _ (List.mem_of_getElem? (i := 5) rfl)) e0 (g := (mkF m 121 #[.val (.long x0), .second, .val (.long x1), .second, .val (.long x2), .second, .val (.int x3), .val (.int (x3 &&& (3 : Int32))), .val (.long nn), .second, .val (.long qq), .second, .val (.long rr), .second, .val (.long tt), .second, .unset, .unset] [])) rfl (hb hby at_121) (by decide) (by decide)
        obtain ⟨a_34, g_34⟩ : ∃ z, z = h0.size := ⟨_, rfl⟩
        rw [← g_34] at A_34 D_34 st_34
        have ge_34 : n0 ≤ a_34 := Nat.le_trans Z0 (Nat.le_of_eq g_34.symm)
        have Z_35 : n0 ≤ h_34.size := Nat.le_trans Z0 E_34.1
        have F_36 : Fld Z h_34 a_34 "com/example/nodeweave/nodeweave/core/registry/CallTimes" "answered" "J" (.long (0 : Int64)) := D_34 (Or.inr (hw _ (List.mem_of_getElem? (i := 18) rfl))) (ty := .long) (by decide)
        have F_37 : Fld Z h_34 a_34 "com/example/nodeweave/nodeweave/core/registry/CallTimes" "totalNanos" "J" (.long (0 : Int64)) := D_34 (Or.inr (hw _ (List.mem_of_getElem? (i := 20) rfl))) (ty := .long) (by decide)
        refine own_st st_34 ?_
        show own_Go p e below _ T_34 (mkF m 124 #[.val (.long x0), .second, .val (.long x1), .second, .val (.long x2), .second, .val (.int x3), .val (.int (x3 &&& (3 : Int32))), .val (.long nn), .second, .val (.long qq), .second, .val (.long rr), .second, .val (.long tt), .second, .unset, .unset] [(.ref a_34)])
        refine own_dup X_34 hx (hb hby at_124) (pc' := 125) rfl rfl ?_
        refine own_lload X_34 hx (hb hby at_125) (pc' := 127) rfl rfl ?_
        refine own_lload X_34 hx (hb hby at_127) (pc' := 129) rfl rfl ?_
        obtain ⟨_, _, ⟨T_38, L_38, k_38, n_38⟩, -, X_38, ⟨Lc_38, hQ_38, l_38, y_38, z_38⟩, st_38⟩ := X_34.specialBack hx  (y := (⟨"com/example/nodeweave/nodeweave/core/registry/CallTimes", "<init>", "(JJ)V"⟩ : MethodName)) rfl hown (mvT hZ (hw _ (List.mem_of_getElem? (i := 6) rfl))) (mvT hZ (hw _ (List.mem_of_getElem? (i := 7) rfl))) (mvT hZ (hw _ (List.mem_of_getElem? (i := 8) rfl))) (by decide) (backOf (W := 1) (rm2 l Z a0 hw [] a_34 nn tt h_34 n0 Z_35 A_34 F_36 F_37 ge_34) hZ (hw _ (List.mem_of_getElem? (i := 8) rfl)) (hw _ (List.mem_of_getElem? (i := 5) rfl)) (by decide) (by decide)) (g := (mkF m 129 #[.val (.long x0), .second, .val (.long x1), .second, .val (.long x2), .second, .val (.int x3), .val (.int (x3 &&& (3 : Int32))), .val (.long nn), .second, .val (.long qq), .second, .val (.long rr), .second, .val (.long tt), .second, .unset, .unset] [(.long tt), (.long nn), (.ref a_34), (.ref a_34)])) rfl (by rw [hml]; rfl) (Steps.refl _) (a := a_34) (argsL := [(.long nn), (.long tt)]) (rest := [(.ref a_34)]) (lenOf pd0_0 rfl) rfl (by show 2 * 0 + _ ≤ _; exact Nat.le_of_eq rfl) (hb hby at_129) (fun _ _ => ⟨rfl, e_34, (by decide : 1 + 0 ≤ _), (by decide : 2 + 0 ≤ _)⟩)
        dsimp only [Pt.U, Pt.locs, Pt.cells, Pt.slots] at X_38 l_38 y_38 z_38 st_38 hQ_38
        subst l_38 y_38 z_38
        refine own_tr st_38 ?_
        obtain ⟨rfl, Nq_38, Kq_38, q0_38, q1_38⟩ := hQ_38
        have N_38 := Fr.app N0 Nq_38
        have F_39 : Fld Z T_38.heap a_34 "com/example/nodeweave/nodeweave/core/registry/CallTimes" "answered" "J" (.long nn) := q0_38
        have F_40 : Fld Z T_38.heap a_34 "com/example/nodeweave/nodeweave/core/registry/CallTimes" "totalNanos" "J" (.long tt) := q1_38
        have A_42 : Exa Z T_38.heap a_34 "com/example/nodeweave/nodeweave/core/registry/CallTimes" := A_34.keep Kq_38
        have Z_41 : n0 ≤ T_38.heap.size := Nat.le_trans Z_35 Kq_38.1
        show own_Go p e below _ T_38 (mkF m 132 #[.val (.long x0), .second, .val (.long x1), .second, .val (.long x2), .second, .val (.int x3), .val (.int (x3 &&& (3 : Int32))), .val (.long nn), .second, .val (.long qq), .second, .val (.long rr), .second, .val (.long tt), .second, .unset, .unset] [(.ref a_34)])
        obtain ⟨cq_43, kq_43, qa_43, qb_43, qc_43⟩ := isOf hZ rfl A_42
        obtain ⟨_, _, ⟨T_43, L_43, k_43, n_43⟩, -, X_43, ⟨Lc_43, hQ_43, l_43, y_43, z_43⟩, st_43⟩ := X_38.virtualBack hx  (y := (⟨"com/example/nodeweave/nodeweave/core/registry/CallTimes", "meanNanos", "()D"⟩ : MethodName)) (z := (⟨"com/example/nodeweave/nodeweave/core/registry/CallTimes", "meanNanos", "()D"⟩ : MethodName)) hown (mvT hZ (hw _ (List.mem_of_getElem? (i := 21) rfl))) (mvT hZ (hw _ (List.mem_of_getElem? (i := 22) rfl))) (notFace_of_selects (args := #[]) (mvT hZ (hw _ (List.mem_of_getElem? (i := 24) rfl)))) (mvT hZ (hw _ (List.mem_of_getElem? (i := 24) rfl))) (mvT hZ (hw _ (List.mem_of_getElem? (i := 23) rfl))) (by decide) (backOf (W := 0) (rm4 l Z a0 hw [] a_34 nn tt T_38.heap n0 Z_41 F_39 F_40 (own_ne0 hn1) (own_nnq hst hn1 hn2)) hZ (hw _ (List.mem_of_getElem? (i := 25) rfl)) (hw _ (List.mem_of_getElem? (i := 5) rfl)) (by decide) (by decide)) qa_43 qc_43 (g := (mkF m 132 #[.val (.long x0), .second, .val (.long x1), .second, .val (.long x2), .second, .val (.int x3), .val (.int (x3 &&& (3 : Int32))), .val (.long nn), .second, .val (.long qq), .second, .val (.long rr), .second, .val (.long tt), .second, .unset, .unset] [(.ref a_34)])) rfl (by rw [hml]; rfl) (Steps.refl _) (argsL := []) (rest := []) (lenOf pd0_1 rfl) rfl (by show 2 * 0 + _ ≤ _; exact Nat.le_of_eq rfl) (hb hby at_132) (fun _ _ => ⟨rfl, rfl, (by decide : 1 + 0 ≤ _), (by decide : 2 + 0 ≤ _)⟩)
        dsimp only [Pt.U, Pt.locs, Pt.cells, Pt.slots] at X_43 l_43 y_43 z_43 st_43 hQ_43
        subst l_43 y_43 z_43
        refine own_tr st_43 ?_
        obtain ⟨rfl, Nq_43, eq_43⟩ := hQ_43
        have N_43 := Fr.app N_38 Nq_43
        show own_Go p e below _ T_43 (mkF m 135 #[.val (.long x0), .second, .val (.long x1), .second, .val (.long x2), .second, .val (.int x3), .val (.int (x3 &&& (3 : Int32))), .val (.long nn), .second, .val (.long qq), .second, .val (.long rr), .second, .val (.long tt), .second, .unset, .unset] [(.double (FP.ddiv (FP.l2d tt) (FP.l2d nn)))])
        refine own_dstore X_43 hx (hb hby at_135) (pc' := 137) (Ls' := #[.val (.long x0), .second, .val (.long x1), .second, .val (.long x2), .second, .val (.int x3), .val (.int (x3 &&& (3 : Int32))), .val (.long nn), .second, .val (.long qq), .second, .val (.long rr), .second, .val (.long tt), .second, .val (.double (FP.ddiv (FP.l2d tt) (FP.l2d nn))), .second]) rfl rfl ?_
        refine own_lload X_43 hx (hb hby at_137) (pc' := 139) rfl rfl ?_
        refine own_lconst X_43 hx (0) (hb hby at_139) (pc' := 140) rfl rfl ?_
        refine own_lcmp X_43 hx (hb hby at_140) (pc' := 141) rfl ?_
        by_cases c_44 : rr = (0 : Int64)
        · skip
          refine own_ifN X_43 hx (hb hby at_141) (XT.ll_ne_f c_44) (pc' := 144) rfl ?_
          refine own_dload X_43 hx (hb hby at_144) (pc' := 146) rfl rfl ?_
          refine own_lload X_43 hx (hb hby at_146) (pc' := 148) rfl rfl ?_
          refine own_l2d X_43 hx (hb hby at_148) (pc' := 149) rfl ?_
          refine own_dcmp X_43 hx (0) (own_c0 (own_div0 hn1 hn2 hq1 hq2 (own_t0 ht c_44))) (hb hby at_149) (pc' := 150) rfl ?_
          refine own_ifN X_43 hx (hb hby at_150) (by decide) (pc' := 153) rfl ?_
          refine own_iconst X_43 hx (1) (hb hby at_153) (pc' := 154) rfl rfl ?_
          refine own_goto X_43 hx (hb hby at_154) (pc' := 158) (by decide) (by decide) ?_
          refine own_retZ X_43 hx hlk Bd.returns (by simp) (hb hby at_158) (by decide) (by decide) ?_
          exact ⟨rfl, N_43⟩
        · skip
          refine own_ifY X_43 hx (hb hby at_141) (XT.ll_ne_t c_44) (pc' := 159) (by decide) (by decide) ?_
          refine own_lload X_43 hx (hb hby at_159) (pc' := 161) rfl rfl ?_
          refine own_l2d X_43 hx (hb hby at_161) (pc' := 162) rfl ?_
          refine own_dload X_43 hx (hb hby at_162) (pc' := 164) rfl rfl ?_
          refine own_dcmp X_43 hx (-1) (own_cg (own_mean hn1 hn2 hq1 hq2 (own_pos hr1 c_44) hr2 ht).2.1) (hb hby at_164) (pc' := 165) rfl ?_
          refine own_ifN X_43 hx (hb hby at_165) (by decide) (pc' := 168) rfl ?_
          refine own_dload X_43 hx (hb hby at_168) (pc' := 170) rfl rfl ?_
          refine own_lload X_43 hx (hb hby at_170) (pc' := 172) rfl rfl ?_
          refine own_lconst X_43 hx (1) (hb hby at_172) (pc' := 173) rfl rfl ?_
          refine own_ladd X_43 hx (hb hby at_173) (pc' := 174) rfl ?_
          refine own_l2d X_43 hx (hb hby at_174) (pc' := 175) rfl ?_
          refine own_dcmp X_43 hx (-1) (own_cg ((own_mean hn1 hn2 hq1 hq2 (own_pos hr1 c_44) hr2 ht).2.2 _ (own_q1 hq1 hq2))) (hb hby at_175) (pc' := 176) rfl ?_
          refine own_ifN X_43 hx (hb hby at_176) (by decide) (pc' := 179) rfl ?_
          refine own_iconst X_43 hx (1) (hb hby at_179) (pc' := 180) rfl rfl ?_
          refine own_goto X_43 hx (hb hby at_180) (pc' := 184) (by decide) (by decide) ?_
          refine own_retZ X_43 hx hlk Bd.returns (by simp) (hb hby at_184) (by decide) (by decide) ?_
          exact ⟨rfl, N_43⟩
set_option maxRecDepth 65536 in
set_option maxHeartbeats 40000000 in
theorem comes_1 {Post : Tables → Env → Array Value → State → Outcome → State → Prop} (hpost : ∀ tb e args s v u, (limb_1_1.after args s (.returned v) u = true ∧ limb_1_2.after args s (.returned v) u = true ∧ True) → FrameEnd s (.returned v) u (Jvm.fieldLocs frame_1_writes args s ++ Jvm.arrayLocs frame_1_arrays args s ++ Jvm.staticLocs frame_1_statics s) 16 128 → Post tb e args s (.returned v) u) :
    ArmFor flags0 classFile x code maxLocals ret World_1 tables_1 room_1 Calls_1 rest_1 Pre_1 Post := by
  intro l hfl _ _ p e ha hc hk s m args below hf hA hF happ hP
  obtain ⟨hcalls, hrest, hpre⟩ := hP
  obtain ⟨-, -, -, hnamed, -, -, -, hat⟩ := (Spec.applies_iff hf).mp happ
  obtain ⟨hg, hn⟩ := and_e (Cond.before_iff.mp (show (Jvm.Cond.and given_1 narrow_1).before args s = true from hpre))
  obtain ⟨gc, gr0⟩ := and_e hg
  obtain ⟨ga0, gr1⟩ := and_e gr0
  obtain ⟨ga1, gr2⟩ := and_e gr1
  obtain ⟨ga2, gr3⟩ := and_e gr2
  have ga3 := gr3
  obtain ⟨w0, w1, w2, w3, rfl⟩ : ∃ w0 w1 w2 w3 : Value, args = #[w0, w1, w2, w3] := by
    have hs : args.size = 4 := by simpa [Cond.value, given_1] using gc
    obtain ⟨L⟩ := args
    match L, hs with
    | [w0, w1, w2, w3], _ => exact ⟨w0, w1, w2, w3, rfl⟩
  have hw := fun d (hd : d ∈ tables_1) => atoms_spec (ws := Jvm.Cond.code x code maxLocals ret :: tables_1) hat d (List.mem_cons_of_mem _ hd)
  have hfit : Fit s := fun {y c} hc i hi => by
    obtain ⟨ha, rfl⟩ := Array.getElem?_eq_some_iff.mp hc
    have q := List.all_eq_true.mp ((Array.all_eq_true_iff_forall_mem.mp hF) _ (Array.getElem_mem ha)) i (List.mem_range.mpr hi)
    simpa [Array.getElem?_eq_getElem hi] using q
  obtain ⟨i0, ei0⟩ := isL_v ga0
  obtain rfl : w0 = (.long i0) := Option.some.inj ei0
  obtain ⟨i1, ei1⟩ := isL_v ga1
  obtain rfl : w1 = (.long i1) := Option.some.inj ei1
  obtain ⟨i2, ei2⟩ := isL_v ga2
  obtain rfl : w2 = (.long i2) := Option.some.inj ei2
  obtain ⟨i3, ei3⟩ := is_v ga3
  obtain rfl : w3 = (.int i3) := Option.some.inj ei3
  obtain ⟨n, o, h1, h2, h3, _, L, rfl, ⟨rfl, N⟩, hq⟩ := rm0 l s _ hw tables_1 i0 i1 i2 i3 s.heap s.heap.size (Nat.le_refl _)  p e ha hc hk s m _ below hf ((Spec.applies_iff_loose hf).mp happ).1 ⟨rfl, State.Warmed39.refl s, rfl⟩ trivial
  refine ⟨n, _, h1, h2, h3, hpost _ _ _ _ _ _ ⟨Cond.after_iff.mpr rfl, Cond.after_iff.mpr (eq_i res_at (Term.int_eval (1)) rfl), trivial⟩ ⟨hq.1, hq.2.1, (hq.2.2.sift fun y hy => Or.inr (N y hy)).mono (by decide) (by decide)⟩⟩
theorem main_1_1 : Claimed_1_1 := comes_1 fun _ _ _ _ _ _ h hF => ⟨h.1, hF⟩
theorem main_1_2 : Claimed_1_2 := comes_1 fun _ _ _ _ _ _ h hF => ⟨h.2.1, hF⟩
end Jvm.Pilot.@@N@@
namespace Jvm.Pilot.@@N@@
open Jvm Jvm.ClassFile Sem Op Lib Jvm.Free Jvm.Stand Jvm.Pilot.@@N@@.Jvm.D
/-! MADE BY PROGRAM (witnessworld.py) out of the Statement's table words and the real class files: 10 classes; the members and pool entries that the words name. The judged class is class 1, her method 1. -/
namespace start1
open Jvm.ClassFile
def u (s : String) : CpInfo := .utf8 (stringToUtf16 s)
/-- a pool by its gaps: so many unusable entries, then the entry; so many at the end -/
def gap : Nat → List CpInfo → List CpInfo
  | 0, r => r
  | n + 1, r => .unusable :: gap n r
def poolList (es : List (Nat × CpInfo)) (last : Nat) : List CpInfo := es.foldr (fun e r => gap e.1 (e.2 :: r)) (gap last [])
def pool (es : List (Nat × CpInfo)) (last : Nat) : Array CpInfo := ⟨poolList es last⟩
def fileOf (pool : Array CpInfo) (this : Nat) (attrs : Array Attribute := #[]) (ms : Array MethodInfo := #[]) (fl : Nat := 33) (sup : Nat := 0) (ifs : Array Nat := #[]) (fds : Array FieldInfo := #[]) : ClassFile where
  minorVersion := 0
  majorVersion := 65
  constantPool := pool
  accessFlags := fl
  thisClass := this
  superClass := sup
  interfaces := ifs
  fields := fds
  methods := ms
  attributes := attrs
def plain (name : String) (sup : Option ClassId) : Class where
  name := name
  kind := .ordinary
  loader := none
  accessFlags := 33
  super := sup
  interfaces := #[]
  cf := none
  fields := #[]
  methods := #[]
  instanceTypes := #[]
  staticTypes := #[]
  resolved := #[]
  callSites := []
  init := .initialized
  statics := none
  mirror := none

def pool0 : Array CpInfo := pool [(5, u "<init>"), (0, u "()V"), (1, .class_ 10), (1, u "java/lang/Object")] 113

def k0c0 : Code := { maxStack := 0, maxLocals := 1, code := object_method_1_code, exceptionTable := #[], attributes := #[] }
def k0m0 : Method := { name := "<init>", desc := "()V", sig := { parameters := [], returnType := none }, accessFlags := 1, code := some k0c0 }
/-- java/lang/Object -/
def k0 : Class := { plain "java/lang/Object" none with
  accessFlags := 33
  interfaces := #[]
  cf := some (fileOf pool0 8 #[] #[{ accessFlags := 1, nameIndex := 5, descriptorIndex := 6, attributes := #[] }] 33 0 #[] #[])
  fields := #[]
  methods := #[k0m0]
  instanceTypes := #[]
  staticTypes := #[]
  resolved := Array.replicate 124 none
  statics := none }

def pool1 : Array CpInfo := pool [(2, .class_ 4), (1, u "java/lang/Object"), (0, u "<init>"), (0, u "()V"), (0, .class_ 8), (0, u "com/example/nodeweave/nodeweave/core/registry/CallTimes"), (0, .methodref 7 10), (0, .nameAndType 5 11), (0, u "(JJ)V"), (0, .methodref 7 13), (0, .nameAndType 14 15), (0, u "meanNanos"), (0, u "()D"), (0, .long 1048575), (1, .long 1073741824), (1, .long 9223372036854775807), (1, .class_ 23), (0, u "com/example/nodeweave/nodeweave/core/registry/CallTimesMeanNanosPinLaw"), (2, u "law"), (0, u "(JJJI)Z")] 3

def k1m0 : Method := { name := "<init>", desc := "()V", sig := { parameters := [], returnType := none }, accessFlags := 1, code := none }
def k1c1 : Code := { maxStack := 6, maxLocals := 18, code := code, exceptionTable := #[], attributes := #[] }
def k1m1 : Method := { name := "law", desc := "(JJJI)Z", sig := { parameters := [.long, .long, .long, .int], returnType := some .boolean }, accessFlags := 9, code := some k1c1 }
/-- com/example/nodeweave/nodeweave/core/registry/CallTimesMeanNanosPinLaw -/
def k1 : Class := { plain "com/example/nodeweave/nodeweave/core/registry/CallTimesMeanNanosPinLaw" (some 0) with
  accessFlags := 49
  interfaces := #[]
  cf := some (fileOf pool1 22 #[] #[{ accessFlags := 1, nameIndex := 5, descriptorIndex := 6, attributes := #[] }, { accessFlags := 9, nameIndex := 26, descriptorIndex := 27, attributes := #[] }] 49 2 #[] #[])
  fields := #[]
  methods := #[k1m0, k1m1]
  instanceTypes := #[]
  staticTypes := #[]
  resolved := Array.replicate 31 none
  statics := none }

def pool2 : Array CpInfo := pool [(1, .methodref 2 3), (0, .class_ 4), (0, .nameAndType 5 6), (0, u "java/lang/Object"), (0, u "<init>"), (0, u "()V"), (0, .class_ 8), (0, u "java/lang/Record")] 13

def k2c0 : Code := { maxStack := 1, maxLocals := 1, code := jdk_30_method_1_code, exceptionTable := #[], attributes := #[] }
def k2m0 : Method := { name := "<init>", desc := "()V", sig := { parameters := [], returnType := none }, accessFlags := 4, code := some k2c0 }
/-- java/lang/Record -/
def k2 : Class := { plain "java/lang/Record" (some 0) with
  accessFlags := 1057
  interfaces := #[]
  cf := some (fileOf pool2 7 #[] #[{ accessFlags := 4, nameIndex := 5, descriptorIndex := 6, attributes := #[] }] 1057 2 #[] #[])
  fields := #[]
  methods := #[k2m0]
  instanceTypes := #[]
  staticTypes := #[]
  resolved := Array.replicate 22 none
  statics := none }

def pool3 : Array CpInfo := pool [(1, .methodref 2 3), (0, .class_ 4), (0, .nameAndType 5 6), (0, u "java/lang/Record"), (0, u "<init>"), (0, u "()V"), (0, .fieldref 8 9), (0, .class_ 10), (0, .nameAndType 11 12), (0, u "com/example/nodeweave/nodeweave/core/registry/CallTimes"), (0, u "answered"), (0, u "J"), (0, .fieldref 8 14), (0, .nameAndType 15 12), (0, u "totalNanos"), (2, u "(JJ)V"), (56, u "NONE"), (0, u "Lcom/example/nodeweave/nodeweave/core/registry/CallTimes;"), (5, u "meanNanos"), (0, u "()D")] 28

def k3c0 : Code := { maxStack := 3, maxLocals := 5, code := prog_27_method_1_code, exceptionTable := #[], attributes := #[] }
def k3m0 : Method := { name := "<init>", desc := "(JJ)V", sig := { parameters := [.long, .long], returnType := none }, accessFlags := 1, code := some k3c0 }
def k3c1 : Code := { maxStack := 4, maxLocals := 1, code := prog_27_method_3_code, exceptionTable := #[], attributes := #[] }
def k3m1 : Method := { name := "meanNanos", desc := "()D", sig := { parameters := [], returnType := some .double }, accessFlags := 1, code := some k3c1 }
/-- com/example/nodeweave/nodeweave/core/registry/CallTimes -/
def k3 : Class := { plain "com/example/nodeweave/nodeweave/core/registry/CallTimes" (some 2) with
  accessFlags := 49
  interfaces := #[]
  cf := some (fileOf pool3 8 #[] #[{ accessFlags := 1, nameIndex := 5, descriptorIndex := 18, attributes := #[] }, { accessFlags := 1, nameIndex := 82, descriptorIndex := 83, attributes := #[] }] 49 2 #[] #[{ accessFlags := 18, nameIndex := 11, descriptorIndex := 12, attributes := #[] }, { accessFlags := 18, nameIndex := 15, descriptorIndex := 12, attributes := #[] }, { accessFlags := 25, nameIndex := 75, descriptorIndex := 76, attributes := #[] }])
  fields := #[{ name := "answered", type := .long, accessFlags := 18, slot := 0, constantValue := 0 }, { name := "totalNanos", type := .long, accessFlags := 18, slot := 1, constantValue := 0 }, { name := "NONE", type := (.object "com/example/nodeweave/nodeweave/core/registry/CallTimes"), accessFlags := 25, slot := 0, constantValue := 0 }]
  methods := #[k3m0, k3m1]
  instanceTypes := #[.long, .long]
  staticTypes := #[(.object "com/example/nodeweave/nodeweave/core/registry/CallTimes")]
  resolved := Array.replicate 112 none
  statics := none }

def pool4 : Array CpInfo := pool [(1, u "java/lang/Cloneable"), (0, .class_ 1), (0, u "java/lang/Object"), (0, .class_ 3)] 3

/-- java/lang/Cloneable -/
def k4 : Class := { plain "java/lang/Cloneable" (some 0) with
  accessFlags := 1537
  interfaces := #[]
  cf := some (fileOf pool4 2 #[] #[] 1537 4 #[] #[])
  fields := #[]
  methods := #[]
  instanceTypes := #[]
  staticTypes := #[]
  resolved := Array.replicate 8 none
  statics := none }

def pool5 : Array CpInfo := pool [(1, u "java/io/Serializable"), (0, .class_ 1), (0, u "java/lang/Object"), (0, .class_ 3)] 3

/-- java/io/Serializable -/
def k5 : Class := { plain "java/io/Serializable" (some 0) with
  accessFlags := 1537
  interfaces := #[]
  cf := some (fileOf pool5 2 #[] #[] 1537 4 #[] #[])
  fields := #[]
  methods := #[]
  instanceTypes := #[]
  staticTypes := #[]
  resolved := Array.replicate 8 none
  statics := none }

/-- the primitive byte -/
def k6 : Class := { plain "byte" none with kind := .primitive 'B', accessFlags := 0x411 }
/-- [B -/
def k7 : Class := { plain "[B" (some 0) with kind := .array 6 .byte, interfaces := #[4, 5], accessFlags := 1041 }

/-- the primitive int -/
def k8 : Class := { plain "int" none with kind := .primitive 'I', accessFlags := 0x411 }
/-- [I -/
def k9 : Class := { plain "[I" (some 0) with kind := .array 8 .int, interfaces := #[4, 5], accessFlags := 1041 }

def heap : Heap := #[]
def classes : Array Class := #[k0, k1, k2, k3, k4, k5, k6, k7, k8, k9]
def interned : List (Array UInt16 × Addr) := []
def slotsUsed : Nat := 0
def theMethod : MethodId := ⟨1, 1⟩
def args0 : Array Value := #[.long 5, .long 300, .long 7, .int 2]
def aboutOver (below : List Frame) : State where
  vm := { classes := classes, interned := interned.toArray }
  heap := heap
  slotsUsed := slotsUsed
  threads := #[{ frames := .invoking theMethod args0 :: below }]
def below0 : List Frame := [.native { method := ⟨0, 0⟩, args := #[] }]
def about1 : State := aboutOver below0
def p0 : Program := .bare "" "" ""
def e0 : Env := launch0.env 0 0 0
theorem w_frames : about1.frames = Frame.invoking theMethod args0 :: below0 := rfl
set_option maxRecDepth 65536 in
theorem w_args : argsFit about1.vm theMethod args0 = true := by decide +kernel
set_option maxRecDepth 65536 in
theorem w_heap : heapFits about1 = true := by decide +kernel
set_option maxRecDepth 65536 in
theorem w_runnable : about1.curStatus? = some .runnable := by decide +kernel
set_option maxRecDepth 65536 in
theorem w_alone : about1.alone = true := by decide +kernel
set_option maxRecDepth 65536 in
theorem w_named : about1.methodNamed? x = some theMethod := by decide +kernel
set_option maxRecDepth 65536 in
theorem w_hears : about1.hears theMethod below0 = true := by decide +kernel
set_option maxRecDepth 65536 in
theorem w_ripe : about1.ripe theMethod args0 below0 = true := by decide +kernel
theorem w_running : about1.status = .running := rfl
set_option maxRecDepth 65536 in
theorem w_room : about1.hasRoom e0.platform room_1 = true :=
  launch0.hasRoom_least _ room_1 (by decide +kernel) (by decide +kernel) (by decide +kernel) (by decide +kernel) (by decide +kernel) (by decide +kernel)
theorem allAtoms_all (ts : List Jvm.Cond) (a : Array Jvm.Value) (st : Jvm.State) : (allAtoms ts).before a st = ts.all (fun c => c.before a st) := by
  induction ts with
  | nil => rfl
  | cons c t ih =>
    show (Jvm.Cond.and c (allAtoms t)).before a st = _
    rw [Jvm.Cond.before_and, ih, List.all_cons]
def words1 : List Jvm.Cond := Jvm.Cond.code x code maxLocals ret :: tables_1
/-- a 'code' word, met by the world's own term for the bytes: nothing is compared byte by byte -/
theorem code_word {y : MethodName} {bytes : ByteArray} {mx : Nat} {rt : Option FieldType} {a : Array Value} {s : State} {m : MethodId} {meth : Method} {c : Code} (h1 : s.methodNamed? y = some m) (h2 : s.vm.method? m = some meth) (h3 : meth.code = some c) (h4 : c.code = bytes)
    (h5 : (c.maxLocals == mx && c.exceptionTable.isEmpty && decide (c.maxStack ≤ mostOperands) && decide (meth.sig.returnType = rt) && !meth.locks && decide (parseMethodDescriptor y.desc = some meth.sig)) = true) : (Jvm.Cond.code y bytes mx rt).before a s = true := by
  simp only [Bool.and_eq_true, beq_iff_eq, Bool.not_eq_true', decide_eq_true_eq] at h5
  obtain ⟨⟨⟨⟨⟨g1, g2⟩, g3⟩, g4⟩, g5⟩, g6⟩ := h5
  simp [Cond.before, Cond.holds, Cond.value, h1, h2, h3, h4, g1, g2, g3, g4, g5, g6]
def isCode : Jvm.Cond → Bool
  | .code _ _ _ _ => true
  | _ => false
theorem all_split {L : List Jvm.Cond} {P : Jvm.Cond → Bool} (h1 : L.all (fun c => isCode c || P c) = true) (h2 : ∀ c ∈ L.filter isCode, P c = true) : L.all P = true := by
  refine List.all_eq_true.mpr fun c hc => ?_
  have h := List.all_eq_true.mp h1 c hc
  rcases Bool.eq_false_or_eq_true (isCode c) with hi | hi
  · exact h2 c (List.mem_filter.mpr ⟨hc, hi⟩)
  · simpa [hi] using h
set_option maxRecDepth 65536 in
theorem w_c0 : (Jvm.Cond.code x code maxLocals ret).before args0 about1 = true := code_word (m := ⟨1, 1⟩) (meth := k1m1) (c := k1c1) (by decide +kernel) rfl rfl rfl (by decide +kernel)
set_option maxRecDepth 65536 in
theorem w_c1 : (Jvm.Cond.code ({ cls := "com/example/nodeweave/nodeweave/core/registry/CallTimes", name := "<init>", desc := "(JJ)V" } : Jvm.MethodName) prog_27_method_1_code (5 : Nat) (Option.none : Option Jvm.ClassFile.FieldType)).before args0 about1 = true := code_word (m := ⟨3, 0⟩) (meth := k3m0) (c := k3c0) (by decide +kernel) rfl rfl rfl (by decide +kernel)
set_option maxRecDepth 65536 in
theorem w_c2 : (Jvm.Cond.code ({ cls := "java/lang/Record", name := "<init>", desc := "()V" } : Jvm.MethodName) jdk_30_method_1_code (1 : Nat) (Option.none : Option Jvm.ClassFile.FieldType)).before args0 about1 = true := code_word (m := ⟨2, 0⟩) (meth := k2m0) (c := k2c0) (by decide +kernel) rfl rfl rfl (by decide +kernel)
set_option maxRecDepth 65536 in
theorem w_c3 : (Jvm.Cond.code ({ cls := "java/lang/Object", name := "<init>", desc := "()V" } : Jvm.MethodName) object_method_1_code (1 : Nat) (Option.none : Option Jvm.ClassFile.FieldType)).before args0 about1 = true := code_word (m := ⟨0, 0⟩) (meth := k0m0) (c := k0c0) (by decide +kernel) rfl rfl rfl (by decide +kernel)
set_option maxRecDepth 65536 in
theorem w_c4 : (Jvm.Cond.code ({ cls := "com/example/nodeweave/nodeweave/core/registry/CallTimes", name := "meanNanos", desc := "()D" } : Jvm.MethodName) prog_27_method_3_code (1 : Nat) (Option.some Jvm.ClassFile.FieldType.double)).before args0 about1 = true := code_word (m := ⟨3, 1⟩) (meth := k3m1) (c := k3c1) (by decide +kernel) rfl rfl rfl (by decide +kernel)
def codes1 : List Jvm.Cond := [Jvm.Cond.code x code maxLocals ret, Jvm.Cond.code ({ cls := "com/example/nodeweave/nodeweave/core/registry/CallTimes", name := "<init>", desc := "(JJ)V" } : Jvm.MethodName) prog_27_method_1_code (5 : Nat) (Option.none : Option Jvm.ClassFile.FieldType), Jvm.Cond.code ({ cls := "java/lang/Record", name := "<init>", desc := "()V" } : Jvm.MethodName) jdk_30_method_1_code (1 : Nat) (Option.none : Option Jvm.ClassFile.FieldType), Jvm.Cond.code ({ cls := "java/lang/Object", name := "<init>", desc := "()V" } : Jvm.MethodName) object_method_1_code (1 : Nat) (Option.none : Option Jvm.ClassFile.FieldType), Jvm.Cond.code ({ cls := "com/example/nodeweave/nodeweave/core/registry/CallTimes", name := "meanNanos", desc := "()D" } : Jvm.MethodName) prog_27_method_3_code (1 : Nat) (Option.some Jvm.ClassFile.FieldType.double)]
set_option maxRecDepth 65536 in
theorem codes_eq : words1.filter isCode = codes1 := rfl
theorem w_codes : ∀ c ∈ words1.filter isCode, c.before args0 about1 = true := by
  rw [codes_eq]
  intro c hc
  simp only [codes1, List.mem_cons, List.not_mem_nil, or_false] at hc
  rcases hc with rfl | rfl | rfl | rfl | rfl
  · exact w_c0
  · exact w_c1
  · exact w_c2
  · exact w_c3
  · exact w_c4
set_option maxRecDepth 65536 in
theorem w_t1 : (words1.take 24).all (fun c => isCode c || c.before args0 about1) = true := by decide +kernel
set_option maxRecDepth 65536 in
theorem w_t2 : (words1.drop 24).all (fun c => isCode c || c.before args0 about1) = true := by decide +kernel
theorem w_tables : (allAtoms (Jvm.Cond.code x code maxLocals ret :: tables_1)).before args0 about1 = true := by
  rw [allAtoms_all]
  show words1.all (fun c => c.before args0 about1) = true
  refine all_split ?_ w_codes
  rw [← List.take_append_drop 24 words1, List.all_append, w_t1, w_t2]
  rfl
set_option maxRecDepth 65536 in
theorem w_case : (Jvm.Cond.and given_1 narrow_1).before args0 about1 = true := by decide +kernel
theorem w_applies : (headSpec (Jvm.Cond.code x code maxLocals ret :: tables_1) room_1).applies x e0.platform about1 = true :=
  (Spec.applies_iff w_frames).mpr ⟨w_running, w_runnable, w_alone, w_named, w_hears, w_ripe, w_room, w_tables⟩
theorem atStart : AtStart classFile x code maxLocals ret World_1 tables_1 room_1 Calls_1 rest_1 Pre_1 launch0 p0 e0 about1 theMethod args0 below0 :=
  ⟨lists_1, trivial, launch0.admits_env _ _ _, launch0.least_env, fairChoices_fair.cas, fairChoices_fair.clock, w_frames, w_args, w_heap, w_applies, trivial, trivial, w_case⟩
end start1
theorem witness_1 : WitnessClaimed_1 := ⟨start1.p0, start1.e0, start1.about1, start1.theMethod, start1.args0, start1.below0, start1.atStart⟩
end Jvm.Pilot.@@N@@
