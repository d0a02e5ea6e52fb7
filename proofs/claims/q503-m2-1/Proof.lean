import JvmDerived
import JvmDerived.Pilot.@@N@@Statement
import JvmDerived.Pilot.@@N@@Code
set_option linter.unusedVariables false
set_option linter.unusedSimpArgs false
namespace Jvm.Pilot.@@N@@
open Jvm Jvm.ClassFile Sem Op Lib Jvm.Free Jvm.Stand Jvm.LawKit Jvm.RoadKit Bundle Jvm.Pilot.@@N@@.Jvm.D
/-- a boolean as an int -/
def own_b (P : Prop) [Decidable P] : Int32 := if P then 1 else 0
theorem own_b1 {P : Prop} [Decidable P] (h : P) : own_b P = 1 := if_pos h
theorem own_b0 {P : Prop} [Decidable P] (h : ¬ P) : own_b P = 0 := if_neg h
theorem own_b0_eq_f {P : Prop} [Decidable P] (h : P) : ifCond.holds .eq (own_b P) = false := by rw [own_b1 h]; rfl
theorem own_b0_eq_t {P : Prop} [Decidable P] (h : ¬ P) : ifCond.holds .eq (own_b P) = true := by rw [own_b0 h]; rfl
theorem own_b0_ne_t {P : Prop} [Decidable P] (h : P) : ifCond.holds .ne (own_b P) = true := by rw [own_b1 h]; rfl
theorem own_b0_ne_f {P : Prop} [Decidable P] (h : ¬ P) : ifCond.holds .ne (own_b P) = false := by rw [own_b0 h]; rfl
theorem own_bnar (P : Prop) [Decidable P] : nar .boolean (own_b P) = own_b P := by by_cases h : P <;> simp [own_b, h, nar]
theorem own_biff {P Q : Prop} [Decidable P] [Decidable Q] (h : P ↔ Q) : own_b P = own_b Q := by by_cases q : Q <;> simp [own_b, h, q]
/-! own_Go: from T with the frame g on top the method's run comes to an end of which P holds. One rule a plain instruction, so that a walk may fork anywhere. -/
def own_Go (p : Program) (e : Env) (below : List Frame) (P : State → Outcome → Prop) (T : State) (g : JFrame) : Prop :=
  ∃ s₂ o, Steps p.tables e below (T.setTop g) s₂ ∧ s₂.status = .running ∧ Ended s₂ below o ∧ P s₂ o
section OwnGo
variable {p : Program} {l : Launch} {e : Env} {R : Room} {s : State} {m : MethodId} {args : Array Value} {below : List Frame} {meth : Method} {c : Code} {T T' : State} {locs : List Loc} {cells slots : Nat} {P : State → Outcome → Prop} {Ls Ls' : Array Slot} {st : List Value} {pc pc' : Nat} {g g' : JFrame}
theorem own_st (h : ∀ t, Steps p.tables e below (T'.setTop g') t → Steps p.tables e below (T.setTop g) t) (k : own_Go p e below P T' g') : own_Go p e below P T g := by
  obtain ⟨s₂, o, h1, h2⟩ := k; exact ⟨s₂, o, h _ h1, h2⟩
theorem own_tr (h : Steps p.tables e below (T.setTop g) (T'.setTop g')) (k : own_Go p e below P T' g') : own_Go p e below P T g := by
  obtain ⟨s₂, o, h1, h2⟩ := k; exact ⟨s₂, o, h.trans h1, h2⟩
theorem own_aloadN (X : Stand p l e R s m args below meth c T locs cells slots) (hx : p.tables.exec = Jvm.exec) {k : Fin 4} {v : Value} (hd : decode c.code pc = .ok (.aload_n k, 1)) (hp : pc + 1 = pc') (hl : Ls[k.val]? = some (.val v)) (hv : v.isRef = true) (h : own_Go p e below P T (mkF m pc' Ls (v :: st))) : own_Go p e below P T (mkF m pc Ls st) := by
  subst hp; exact own_st (fun t k => XS.aloadN X.here hx rfl hd hl hv k) h
theorem own_aload (X : Stand p l e R s m args below meth c T locs cells slots) (hx : p.tables.exec = Jvm.exec) {k : Nat} {v : Value} (hd : decode c.code pc = .ok (.aload k, 2)) (hp : pc + 2 = pc') (hl : Ls[k]? = some (.val v)) (hv : v.isRef = true) (h : own_Go p e below P T (mkF m pc' Ls (v :: st))) : own_Go p e below P T (mkF m pc Ls st) := by
  subst hp; exact own_st (fun t k => XS.aload X.here hx rfl hd hl hv k) h
theorem own_iloadN (X : Stand p l e R s m args below meth c T locs cells slots) (hx : p.tables.exec = Jvm.exec) {k : Fin 4} {v : Int32} (hd : decode c.code pc = .ok (.iload_n k, 1)) (hp : pc + 1 = pc') (hl : Ls[k.val]? = some (.val (.int v))) (h : own_Go p e below P T (mkF m pc' Ls (.int v :: st))) : own_Go p e below P T (mkF m pc Ls st) := by
  subst hp; exact own_st (fun t k => XS.iloadN X.here hx rfl hd hl k) h
theorem own_iload (X : Stand p l e R s m args below meth c T locs cells slots) (hx : p.tables.exec = Jvm.exec) {k : Nat} {v : Int32} (hd : decode c.code pc = .ok (.iload k, 2)) (hp : pc + 2 = pc') (hl : Ls[k]? = some (.val (.int v))) (h : own_Go p e below P T (mkF m pc' Ls (.int v :: st))) : own_Go p e below P T (mkF m pc Ls st) := by
  subst hp; exact own_st (fun t k => XS.iload X.here hx rfl hd hl k) h
theorem own_lloadN (X : Stand p l e R s m args below meth c T locs cells slots) (hx : p.tables.exec = Jvm.exec) {k : Fin 4} {v : Int64} (hd : decode c.code pc = .ok (.lload_n k, 1)) (hp : pc + 1 = pc') (hl : Ls[k.val]? = some (.val (.long v))) (h : own_Go p e below P T (mkF m pc' Ls (.long v :: st))) : own_Go p e below P T (mkF m pc Ls st) := by
  subst hp; exact own_st (fun t k => XT.lloadN X.here hx rfl hd hl k) h
theorem own_lload (X : Stand p l e R s m args below meth c T locs cells slots) (hx : p.tables.exec = Jvm.exec) {k : Nat} {v : Int64} (hd : decode c.code pc = .ok (.lload k, 2)) (hp : pc + 2 = pc') (hl : Ls[k]? = some (.val (.long v))) (h : own_Go p e below P T (mkF m pc' Ls (.long v :: st))) : own_Go p e below P T (mkF m pc Ls st) := by
  subst hp; exact own_st (fun t k => XT.lload X.here hx rfl hd hl k) h
theorem own_iconst (X : Stand p l e R s m args below meth c T locs cells slots) (hx : p.tables.exec = Jvm.exec) {i : Int} (v : Int32) (hd : decode c.code pc = .ok (.iconst i, 1)) (hp : pc + 1 = pc') (hv : Int32.ofInt i = v) (h : own_Go p e below P T (mkF m pc' Ls (.int v :: st))) : own_Go p e below P T (mkF m pc Ls st) := by
  subst hp hv; exact own_st (fun t k => XS.iconst X.here hx rfl hd k) h
theorem own_bipush (X : Stand p l e R s m args below meth c T locs cells slots) (hx : p.tables.exec = Jvm.exec) {i : Int} (v : Int32) (hd : decode c.code pc = .ok (.bipush i, 2)) (hp : pc + 2 = pc') (hv : (Int8.ofInt i).toInt32 = v) (h : own_Go p e below P T (mkF m pc' Ls (.int v :: st))) : own_Go p e below P T (mkF m pc Ls st) := by
  subst hp hv; exact own_st (fun t k => XS.bipush X.here hx rfl hd k) h
theorem own_sipush (X : Stand p l e R s m args below meth c T locs cells slots) (hx : p.tables.exec = Jvm.exec) {i : Int} (v : Int32) (hd : decode c.code pc = .ok (.sipush i, 3)) (hp : pc + 3 = pc') (hv : (Int16.ofInt i).toInt32 = v) (h : own_Go p e below P T (mkF m pc' Ls (.int v :: st))) : own_Go p e below P T (mkF m pc Ls st) := by
  subst hp hv; exact own_st (fun t k => XS.sipush X.here hx rfl hd k) h
theorem own_lconst (X : Stand p l e R s m args below meth c T locs cells slots) (hx : p.tables.exec = Jvm.exec) {i : Fin 2} (v : Int64) (hd : decode c.code pc = .ok (.lconst i, 1)) (hp : pc + 1 = pc') (hv : Int64.ofNat i = v) (h : own_Go p e below P T (mkF m pc' Ls (.long v :: st))) : own_Go p e below P T (mkF m pc Ls st) := by
  subst hp hv; exact own_st (fun t k => XT.lconst X.here hx rfl hd k) h
theorem own_ldcI (X : Stand p l e R s m args below meth c T locs cells slots) (hx : p.tables.exec = Jvm.exec) {own : String} {index : Nat} {v : Int32} (hown : s.vm.findClass own = some m.cls) (hc : (Cond.constant own index v).before args s = true) (hd : decode c.code pc = .ok (.ldc index, 2)) (hp : pc + 2 = pc') (h : own_Go p e below P T (mkF m pc' Ls (.int v :: st))) : own_Go p e below P T (mkF m pc Ls st) := by
  subst hp; exact own_st (fun t k => X.ldcI hx hown hc rfl hd k) h
theorem own_ldcJ (X : Stand p l e R s m args below meth c T locs cells slots) (hx : p.tables.exec = Jvm.exec) {own : String} {index : Nat} {v : Int64} (hown : s.vm.findClass own = some m.cls) (hc : (Cond.constantLong own index v).before args s = true) (hd : decode c.code pc = .ok (.ldc2_w index, 3)) (hp : pc + 3 = pc') (h : own_Go p e below P T (mkF m pc' Ls (.long v :: st))) : own_Go p e below P T (mkF m pc Ls st) := by
  subst hp; exact own_st (fun t k => X.ldc2J hx hown hc rfl hd k) h
theorem own_null (X : Stand p l e R s m args below meth c T locs cells slots) (hx : p.tables.exec = Jvm.exec) (hd : decode c.code pc = .ok (.aconst_null, 1)) (hp : pc + 1 = pc') (h : own_Go p e below P T (mkF m pc' Ls (.null :: st))) : own_Go p e below P T (mkF m pc Ls st) := by
  subst hp; exact own_st (fun t k => XS.aconstNull X.here hx rfl hd k) h
theorem own_iadd (X : Stand p l e R s m args below meth c T locs cells slots) (hx : p.tables.exec = Jvm.exec) {x y : Int32} (hd : decode c.code pc = .ok (.iadd, 1)) (hp : pc + 1 = pc') (h : own_Go p e below P T (mkF m pc' Ls (.int (x + y) :: st))) : own_Go p e below P T (mkF m pc Ls (.int y :: .int x :: st)) := by
  subst hp; exact own_st (fun t k => XS.iadd X.here hx rfl hd rfl k) h
theorem own_isub (X : Stand p l e R s m args below meth c T locs cells slots) (hx : p.tables.exec = Jvm.exec) {x y : Int32} (hd : decode c.code pc = .ok (.isub, 1)) (hp : pc + 1 = pc') (h : own_Go p e below P T (mkF m pc' Ls (.int (x - y) :: st))) : own_Go p e below P T (mkF m pc Ls (.int y :: .int x :: st)) := by
  subst hp; exact own_st (fun t k => XS.isub X.here hx rfl hd rfl k) h
theorem own_iand (X : Stand p l e R s m args below meth c T locs cells slots) (hx : p.tables.exec = Jvm.exec) {x y : Int32} (hd : decode c.code pc = .ok (.iand, 1)) (hp : pc + 1 = pc') (h : own_Go p e below P T (mkF m pc' Ls (.int (x &&& y) :: st))) : own_Go p e below P T (mkF m pc Ls (.int y :: .int x :: st)) := by
  subst hp; exact own_st (fun t k => XS.iand X.here hx rfl hd rfl k) h
theorem own_imul (X : Stand p l e R s m args below meth c T locs cells slots) (hx : p.tables.exec = Jvm.exec) {x y : Int32} (hd : decode c.code pc = .ok (.imul, 1)) (hp : pc + 1 = pc') (h : own_Go p e below P T (mkF m pc' Ls (.int (x * y) :: st))) : own_Go p e below P T (mkF m pc Ls (.int y :: .int x :: st)) := by
  subst hp; exact own_st (fun t k => XS.imul X.here hx rfl hd rfl k) h
theorem own_irem (X : Stand p l e R s m args below meth c T locs cells slots) (hx : p.tables.exec = Jvm.exec) {x y : Int32} (hd : decode c.code pc = .ok (.irem, 1)) (hp : pc + 1 = pc') (hy : y ≠ 0) (h : own_Go p e below P T (mkF m pc' Ls (.int (x % y) :: st))) : own_Go p e below P T (mkF m pc Ls (.int y :: .int x :: st)) := by
  subst hp; exact own_st (fun t k => iremM X hx rfl hd rfl hy k) h
theorem own_ishr (X : Stand p l e R s m args below meth c T locs cells slots) (hx : p.tables.exec = Jvm.exec) {x y : Int32} (hd : decode c.code pc = .ok (.ishr, 1)) (hp : pc + 1 = pc') (h : own_Go p e below P T (mkF m pc' Ls (.int (x >>> (y &&& 31)) :: st))) : own_Go p e below P T (mkF m pc Ls (.int y :: .int x :: st)) := by
  subst hp; exact own_st (fun t k => XT.ishr X.here hx rfl hd rfl k) h
theorem own_iushr (X : Stand p l e R s m args below meth c T locs cells slots) (hx : p.tables.exec = Jvm.exec) {x y : Int32} (hd : decode c.code pc = .ok (.iushr, 1)) (hp : pc + 1 = pc') (h : own_Go p e below P T (mkF m pc' Ls (.int (XT.ushr x y) :: st))) : own_Go p e below P T (mkF m pc Ls (.int y :: .int x :: st)) := by
  subst hp; exact own_st (fun t k => XT.iushr X.here hx rfl hd rfl k) h
theorem own_i2b (X : Stand p l e R s m args below meth c T locs cells slots) (hx : p.tables.exec = Jvm.exec) {x : Int32} (hd : decode c.code pc = .ok (.i2b, 1)) (hp : pc + 1 = pc') (h : own_Go p e below P T (mkF m pc' Ls (.int (nar .byte x) :: st))) : own_Go p e below P T (mkF m pc Ls (.int x :: st)) := by
  subst hp; exact own_st (fun t k => XT.i2b X.here hx rfl hd rfl k) h
theorem own_i2c (X : Stand p l e R s m args below meth c T locs cells slots) (hx : p.tables.exec = Jvm.exec) {x : Int32} (hd : decode c.code pc = .ok (.i2c, 1)) (hp : pc + 1 = pc') (h : own_Go p e below P T (mkF m pc' Ls (.int (nar .char x) :: st))) : own_Go p e below P T (mkF m pc Ls (.int x :: st)) := by
  subst hp; exact own_st (fun t k => XT.i2c X.here hx rfl hd rfl k) h
theorem own_i2l (X : Stand p l e R s m args below meth c T locs cells slots) (hx : p.tables.exec = Jvm.exec) {x : Int32} (hd : decode c.code pc = .ok (.i2l, 1)) (hp : pc + 1 = pc') (h : own_Go p e below P T (mkF m pc' Ls (.long x.toInt64 :: st))) : own_Go p e below P T (mkF m pc Ls (.int x :: st)) := by
  subst hp; exact own_st (fun t k => XT.i2l X.here hx rfl hd rfl k) h
theorem own_l2i (X : Stand p l e R s m args below meth c T locs cells slots) (hx : p.tables.exec = Jvm.exec) {x : Int64} (hd : decode c.code pc = .ok (.l2i, 1)) (hp : pc + 1 = pc') (h : own_Go p e below P T (mkF m pc' Ls (.int x.toInt32 :: st))) : own_Go p e below P T (mkF m pc Ls (.long x :: st)) := by
  subst hp; exact own_st (fun t k => XT.l2i X.here hx rfl hd rfl k) h
theorem own_lushr (X : Stand p l e R s m args below meth c T locs cells slots) (hx : p.tables.exec = Jvm.exec) {x : Int64} {y : Int32} (hd : decode c.code pc = .ok (.lushr, 1)) (hp : pc + 1 = pc') (h : own_Go p e below P T (mkF m pc' Ls (.long (XT.ushrL x y) :: st))) : own_Go p e below P T (mkF m pc Ls (.int y :: .long x :: st)) := by
  subst hp; exact own_st (fun t k => XT.lushr X.here hx rfl hd rfl k) h
theorem own_lcmp (X : Stand p l e R s m args below meth c T locs cells slots) (hx : p.tables.exec = Jvm.exec) {x y : Int64} (hd : decode c.code pc = .ok (.lcmp, 1)) (hp : pc + 1 = pc') (h : own_Go p e below P T (mkF m pc' Ls (.int (XT.cmpL x y) :: st))) : own_Go p e below P T (mkF m pc Ls (.long y :: .long x :: st)) := by
  subst hp; exact own_st (fun t k => XT.lcmp X.here hx rfl hd rfl k) h
theorem own_dup (X : Stand p l e R s m args below meth c T locs cells slots) (hx : p.tables.exec = Jvm.exec) {x : Value} (hd : decode c.code pc = .ok (.dup, 1)) (hp : pc + 1 = pc') (hc : x.category = 1) (h : own_Go p e below P T (mkF m pc' Ls (x :: x :: st))) : own_Go p e below P T (mkF m pc Ls (x :: st)) := by
  subst hp; exact own_st (fun t k => XS.dup X.here hx rfl hd rfl hc k) h
theorem own_dupX1 (X : Stand p l e R s m args below meth c T locs cells slots) (hx : p.tables.exec = Jvm.exec) {x y : Value} (hd : decode c.code pc = .ok (.dup_x1, 1)) (hp : pc + 1 = pc') (hc : x.category = 1) (hc' : y.category = 1) (h : own_Go p e below P T (mkF m pc' Ls (x :: y :: x :: st))) : own_Go p e below P T (mkF m pc Ls (x :: y :: st)) := by
  subst hp; exact own_st (fun t k => XT.dupX1 X.here hx rfl hd rfl hc hc' k) h
theorem own_pop (X : Stand p l e R s m args below meth c T locs cells slots) (hx : p.tables.exec = Jvm.exec) {x : Value} (hd : decode c.code pc = .ok (.pop, 1)) (hp : pc + 1 = pc') (hc : x.category = 1) (h : own_Go p e below P T (mkF m pc' Ls st)) : own_Go p e below P T (mkF m pc Ls (x :: st)) := by
  subst hp; exact own_st (fun t k => XT.pop X.here hx rfl hd rfl hc k) h
theorem own_istoreN (X : Stand p l e R s m args below meth c T locs cells slots) (hx : p.tables.exec = Jvm.exec) {k : Fin 4} {x : Int32} (hd : decode c.code pc = .ok (.istore_n k, 1)) (hp : pc + 1 = pc') (hl : storeLocals Ls k.val (.int x) = some Ls') (h : own_Go p e below P T (mkF m pc' Ls' st)) : own_Go p e below P T (mkF m pc Ls (.int x :: st)) := by
  subst hp; exact own_st (fun t k => XS.istoreN X.here hx rfl hd rfl hl k) h
theorem own_istore (X : Stand p l e R s m args below meth c T locs cells slots) (hx : p.tables.exec = Jvm.exec) {k : Nat} {x : Int32} (hd : decode c.code pc = .ok (.istore k, 2)) (hp : pc + 2 = pc') (hl : storeLocals Ls k (.int x) = some Ls') (h : own_Go p e below P T (mkF m pc' Ls' st)) : own_Go p e below P T (mkF m pc Ls (.int x :: st)) := by
  subst hp; exact own_st (fun t k => XS.istore X.here hx rfl hd rfl hl k) h
theorem own_lstoreN (X : Stand p l e R s m args below meth c T locs cells slots) (hx : p.tables.exec = Jvm.exec) {k : Fin 4} {x : Int64} (hd : decode c.code pc = .ok (.lstore_n k, 1)) (hp : pc + 1 = pc') (hl : storeLocals Ls k.val (.long x) = some Ls') (h : own_Go p e below P T (mkF m pc' Ls' st)) : own_Go p e below P T (mkF m pc Ls (.long x :: st)) := by
  subst hp; exact own_st (fun t k => XT.lstoreN X.here hx rfl hd rfl hl k) h
theorem own_lstore (X : Stand p l e R s m args below meth c T locs cells slots) (hx : p.tables.exec = Jvm.exec) {k : Nat} {x : Int64} (hd : decode c.code pc = .ok (.lstore k, 2)) (hp : pc + 2 = pc') (hl : storeLocals Ls k (.long x) = some Ls') (h : own_Go p e below P T (mkF m pc' Ls' st)) : own_Go p e below P T (mkF m pc Ls (.long x :: st)) := by
  subst hp; exact own_st (fun t k => XT.lstore X.here hx rfl hd rfl hl k) h
theorem own_astoreN (X : Stand p l e R s m args below meth c T locs cells slots) (hx : p.tables.exec = Jvm.exec) {k : Fin 4} {x : Value} (hd : decode c.code pc = .ok (.astore_n k, 1)) (hp : pc + 1 = pc') (hv : x.isRef = true) (hl : storeLocals Ls k.val x = some Ls') (h : own_Go p e below P T (mkF m pc' Ls' st)) : own_Go p e below P T (mkF m pc Ls (x :: st)) := by
  subst hp; exact own_st (fun t k => XS.astoreN X.here hx rfl hd rfl hv hl k) h
theorem own_astore (X : Stand p l e R s m args below meth c T locs cells slots) (hx : p.tables.exec = Jvm.exec) {k : Nat} {x : Value} (hd : decode c.code pc = .ok (.astore k, 2)) (hp : pc + 2 = pc') (hv : x.isRef = true) (hl : storeLocals Ls k x = some Ls') (h : own_Go p e below P T (mkF m pc' Ls' st)) : own_Go p e below P T (mkF m pc Ls (x :: st)) := by
  subst hp; exact own_st (fun t k => XS.astore X.here hx rfl hd rfl hv hl k) h
theorem own_goto (X : Stand p l e R s m args below meth c T locs cells slots) (hx : p.tables.exec = Jvm.exec) {o : Int} (hd : decode c.code pc = .ok (.goto o, 3)) (ho : 0 ≤ (pc : Int) + o) (hp : ((pc : Int) + o).toNat = pc') (h : own_Go p e below P T (mkF m pc' Ls st)) : own_Go p e below P T (mkF m pc Ls st) := by
  exact own_st (fun t k => XS.goto X.here hx rfl (pc0 := pc) rfl hd ho hp k) h
theorem own_ifY (X : Stand p l e R s m args below meth c T locs cells slots) (hx : p.tables.exec = Jvm.exec) {cd : ClassFile.Cond} {x : Int32} {o : Int} (hd : decode c.code pc = .ok (.ifCond cd o, 3)) (hc : ifCond.holds cd x = true) (ho : 0 ≤ (pc : Int) + o) (hp : ((pc : Int) + o).toNat = pc') (h : own_Go p e below P T (mkF m pc' Ls st)) : own_Go p e below P T (mkF m pc Ls (.int x :: st)) := by
  exact own_st (fun t k => XS.ifYes X.here hx rfl (pc0 := pc) rfl hd rfl hc ho hp k) h
theorem own_ifN (X : Stand p l e R s m args below meth c T locs cells slots) (hx : p.tables.exec = Jvm.exec) {cd : ClassFile.Cond} {x : Int32} {o : Int} (hd : decode c.code pc = .ok (.ifCond cd o, 3)) (hc : ifCond.holds cd x = false) (hp : pc + 3 = pc') (h : own_Go p e below P T (mkF m pc' Ls st)) : own_Go p e below P T (mkF m pc Ls (.int x :: st)) := by
  subst hp; exact own_st (fun t k => XS.ifNo X.here hx rfl hd rfl hc k) h
theorem own_icmpY (X : Stand p l e R s m args below meth c T locs cells slots) (hx : p.tables.exec = Jvm.exec) {cd : ClassFile.Cond} {x y : Int32} {o : Int} (hd : decode c.code pc = .ok (.if_icmp cd o, 3)) (hc : if_icmp.holds cd x y = true) (ho : 0 ≤ (pc : Int) + o) (hp : ((pc : Int) + o).toNat = pc') (h : own_Go p e below P T (mkF m pc' Ls st)) : own_Go p e below P T (mkF m pc Ls (.int y :: .int x :: st)) := by
  exact own_st (fun t k => XS.icmpYes X.here hx rfl (pc0 := pc) rfl hd rfl hc ho hp k) h
theorem own_icmpN (X : Stand p l e R s m args below meth c T locs cells slots) (hx : p.tables.exec = Jvm.exec) {cd : ClassFile.Cond} {x y : Int32} {o : Int} (hd : decode c.code pc = .ok (.if_icmp cd o, 3)) (hc : if_icmp.holds cd x y = false) (hp : pc + 3 = pc') (h : own_Go p e below P T (mkF m pc' Ls st)) : own_Go p e below P T (mkF m pc Ls (.int y :: .int x :: st)) := by
  subst hp; exact own_st (fun t k => XS.icmpNo X.here hx rfl hd rfl hc k) h
theorem own_ifnullY (X : Stand p l e R s m args below meth c T locs cells slots) (hx : p.tables.exec = Jvm.exec) {o : Int} (hd : decode c.code pc = .ok (.ifnull o, 3)) (ho : 0 ≤ (pc : Int) + o) (hp : ((pc : Int) + o).toNat = pc') (h : own_Go p e below P T (mkF m pc' Ls st)) : own_Go p e below P T (mkF m pc Ls (.null :: st)) := by
  exact own_st (fun t k => XS.ifnullYes X.here hx rfl (pc0 := pc) rfl hd rfl ho hp k) h
theorem own_ifnullN (X : Stand p l e R s m args below meth c T locs cells slots) (hx : p.tables.exec = Jvm.exec) {a : Addr} {o : Int} (hd : decode c.code pc = .ok (.ifnull o, 3)) (hp : pc + 3 = pc') (h : own_Go p e below P T (mkF m pc' Ls st)) : own_Go p e below P T (mkF m pc Ls (.ref a :: st)) := by
  subst hp; exact own_st (fun t k => XS.ifnullNo X.here hx rfl hd rfl k) h
theorem own_ifnonnullY (X : Stand p l e R s m args below meth c T locs cells slots) (hx : p.tables.exec = Jvm.exec) {a : Addr} {o : Int} (hd : decode c.code pc = .ok (.ifnonnull o, 3)) (ho : 0 ≤ (pc : Int) + o) (hp : ((pc : Int) + o).toNat = pc') (h : own_Go p e below P T (mkF m pc' Ls st)) : own_Go p e below P T (mkF m pc Ls (.ref a :: st)) := by
  exact own_st (fun t k => XT.ifnonnullYes X.here hx rfl (pc0 := pc) rfl hd rfl ho hp k) h
theorem own_ifnonnullN (X : Stand p l e R s m args below meth c T locs cells slots) (hx : p.tables.exec = Jvm.exec) {o : Int} (hd : decode c.code pc = .ok (.ifnonnull o, 3)) (hp : pc + 3 = pc') (h : own_Go p e below P T (mkF m pc' Ls st)) : own_Go p e below P T (mkF m pc Ls (.null :: st)) := by
  subst hp; exact own_st (fun t k => XT.ifnonnullNo X.here hx rfl hd rfl k) h
theorem own_acmpY (X : Stand p l e R s m args below meth c T locs cells slots) (hx : p.tables.exec = Jvm.exec) {cd : ACond} {x y : Value} {o : Int} (h1 : x.isRef = true) (h2 : y.isRef = true) (hd : decode c.code pc = .ok (.if_acmp cd o, 3)) (hc : XT.acmp cd x y = true) (ho : 0 ≤ (pc : Int) + o) (hp : ((pc : Int) + o).toNat = pc') (h : own_Go p e below P T (mkF m pc' Ls st)) : own_Go p e below P T (mkF m pc Ls (y :: x :: st)) := by
  exact own_st (fun t k => XT.acmpYes X.here hx rfl (pc0 := pc) rfl hd rfl h1 h2 hc ho hp k) h
theorem own_acmpN (X : Stand p l e R s m args below meth c T locs cells slots) (hx : p.tables.exec = Jvm.exec) {cd : ACond} {x y : Value} {o : Int} (h1 : x.isRef = true) (h2 : y.isRef = true) (hd : decode c.code pc = .ok (.if_acmp cd o, 3)) (hc : XT.acmp cd x y = false) (hp : pc + 3 = pc') (h : own_Go p e below P T (mkF m pc' Ls st)) : own_Go p e below P T (mkF m pc Ls (y :: x :: st)) := by
  subst hp; exact own_st (fun t k => XT.acmpNo X.here hx rfl hd rfl h1 h2 hc k) h
theorem own_cut (h1 : own_Go p e below P T g' → own_Go p e below P T g) (h2 : own_Go p e below P T g') : own_Go p e below P T g := h1 h2
theorem own_iinc (X : Stand p l e R s m args below meth c T locs cells slots) (hx : p.tables.exec = Jvm.exec) {k : Nat} {cst : Int} {x : Int32} (v : Int32) (hd : decode c.code pc = .ok (.iinc k cst, 3)) (hp : pc + 3 = pc') (hl : Ls[k]? = some (.val (.int x))) (hv : x + Int32.ofInt cst = v) (hs : storeLocals Ls k (.int v) = some Ls') (h : own_Go p e below P T (mkF m pc' Ls' st)) : own_Go p e below P T (mkF m pc Ls st) := by
  subst hp hv; exact own_st (fun t k => XS.iinc X.here hx rfl hd hl hs k) h
abbrev own_End (s : State) (Q : Option Value → Heap → List Loc → Prop) (k n : Nat) : State → Outcome → Prop := fun u o => ∃ v L, o = .returned v ∧ Q v u.heap L ∧ FrameEnd s o u L k n
variable {Q : Option Value → Heap → List Loc → Prop} {ck sn : Nat}
theorem own_retZ (X : Stand p l e R s m args below meth c T locs cells slots) (hx : p.tables.exec = Jvm.exec) (hk : meth.locks = false) {t : FieldType} (hret : meth.sig.returnType = some t) (ht : t = .boolean ∨ t = .byte ∨ t = .char ∨ t = .short) {z : Int32} (hd : decode c.code pc = .ok (.ireturn, 1)) (hc : cells ≤ ck) (hs : slots ≤ sn) (hQ : Q (some (.int (nar t z))) T.heap locs) :
    own_Go p e below (own_End s Q ck sn) T (mkF m pc Ls (.int z :: st)) := by
  obtain ⟨fs, hr, hrun, hended, hW, hsame⟩ := X.leave (v := some (.int (nar t z))) (fun h => by rw [hret] at h; cases h) hk
  exact ⟨_, _, retN X hx hret ht hd hr, hrun, hended, _, _, rfl, hQ, ⟨_, rfl⟩, hW, hsame.mono hc hs⟩
theorem own_retI (X : Stand p l e R s m args below meth c T locs cells slots) (hx : p.tables.exec = Jvm.exec) (hk : meth.locks = false) (hret : meth.sig.returnType = some .int) {z : Int32} (hd : decode c.code pc = .ok (.ireturn, 1)) (hc : cells ≤ ck) (hs : slots ≤ sn) (hQ : Q (some (.int z)) T.heap locs) :
    own_Go p e below (own_End s Q ck sn) T (mkF m pc Ls (.int z :: st)) := by
  obtain ⟨fs, hr, hrun, hended, hW, hsame⟩ := X.leave (v := some (.int z)) (fun h => by rw [hret] at h; cases h) hk
  exact ⟨_, _, retOut X hx hret rfl (Or.inl ⟨rfl, Or.inl rfl, z, rfl⟩) hd hr, hrun, hended, _, _, rfl, hQ, ⟨_, rfl⟩, hW, hsame.mono hc hs⟩
theorem own_retL (X : Stand p l e R s m args below meth c T locs cells slots) (hx : p.tables.exec = Jvm.exec) (hk : meth.locks = false) (hret : meth.sig.returnType = some .long) {z : Int64} (hd : decode c.code pc = .ok (.lreturn, 1)) (hc : cells ≤ ck) (hs : slots ≤ sn) (hQ : Q (some (.long z)) T.heap locs) :
    own_Go p e below (own_End s Q ck sn) T (mkF m pc Ls (.long z :: st)) := by
  obtain ⟨fs, hr, hrun, hended, hW, hsame⟩ := X.leave (v := some (.long z)) (fun h => by rw [hret] at h; cases h) hk
  exact ⟨_, _, retOut X hx hret rfl (Or.inr (Or.inl ⟨rfl, rfl, z, rfl⟩)) hd hr, hrun, hended, _, _, rfl, hQ, ⟨_, rfl⟩, hW, hsame.mono hc hs⟩
theorem own_narR {t : FieldType} {w : Value} (ht : t.isReference = true) (hw : w.isRef = true) : narrow t w = w := by
  rcases ref_cases hw with rfl | ⟨a, rfl⟩ <;> cases t <;> first | rfl | (cases ht; done)
theorem own_retA (X : Stand p l e R s m args below meth c T locs cells slots) (hx : p.tables.exec = Jvm.exec) (hk : meth.locks = false) {t : FieldType} (hret : meth.sig.returnType = some t) (ht : t.isReference = true) {w : Value} (hw : w.isRef = true) (hd : decode c.code pc = .ok (.areturn, 1)) (hc : cells ≤ ck) (hs : slots ≤ sn) (hQ : Q (some w) T.heap locs) :
    own_Go p e below (own_End s Q ck sn) T (mkF m pc Ls (w :: st)) := by
  obtain ⟨fs, hr, hrun, hended, hW, hsame⟩ := X.leave (v := some w) (fun h => by rw [hret] at h; cases h) hk
  exact ⟨_, _, retOut X hx hret (own_narR ht hw) (Or.inr (Or.inr (Or.inr (Or.inr ⟨rfl, ht, hw⟩)))) hd hr, hrun, hended, _, _, rfl, hQ, ⟨_, rfl⟩, hW, hsame.mono hc hs⟩
theorem own_retV (X : Stand p l e R s m args below meth c T locs cells slots) (hx : p.tables.exec = Jvm.exec) (hk : meth.locks = false) (hret : meth.sig.returnType = none) (hd : decode c.code pc = .ok (.return_, 1)) (hc : cells ≤ ck) (hs : slots ≤ sn) (hQ : Q none T.heap locs) :
    own_Go p e below (own_End s Q ck sn) T (mkF m pc Ls []) := by
  obtain ⟨fs, hr, hrun, hended, hW, hsame⟩ := X.leave (v := none) (fun _ => rfl) hk
  exact ⟨_, _, X.returnOut hx hret hd hr, hrun, hended, _, _, rfl, hQ, ⟨_, rfl⟩, hW, hsame.mono hc hs⟩
end OwnGo
section OwnArr
variable {p : Program} {l : Launch} {e : Env} {R : Room} {s : State} {m : MethodId} {args : Array Value} {below : List Frame} {meth : Method} {c : Code} {T : State} {locs : List Loc} {cells slots : Nat} {P : State → Outcome → Prop} {Ls : Array Slot} {st : List Value} {pc pc' : Nat} {Z : State} {h : Heap} {a : Addr} {k : ClassId} {ty : FieldType} {n j : Int32} {vs : List Value} {dv : Value}
theorem own_alen (X : Stand p l e R s m args below meth c T locs cells slots) (hx : p.tables.exec = Jvm.exec) (hZ : Z.Warmed39 s.vm) (eT : T.heap = h) (V : Arv Z h a k ty n vs dv) (hd : decode c.code pc = .ok (.arraylength, 1)) (hp : pc + 1 = pc') (hk : own_Go p e below P T (mkF m pc' Ls (.int n :: st))) : own_Go p e below P T (mkF m pc Ls (.ref a :: st)) := by
  subst hp
  obtain ⟨cl, A, -, S, q, -, -⟩ := V
  have w := X.arraylength hx (by rw [eT]; exact A.1) (State.isArrayOf_alike hZ.alike A.2.1) (g := mkF m pc Ls (.ref a :: st)) rfl rfl hd
  rw [len_of S q] at w
  exact own_st w hk
theorem own_baload (X : Stand p l e R s m args below meth c T locs cells slots) (hx : p.tables.exec = Jvm.exec) (hZ : Z.Warmed39 s.vm) (eT : T.heap = h) (V : Arv Z h a k .byte n vs dv) {x : Int32} (hj : ¬ j < 0 ∧ j < n) (hv : vs.getD j.toNatClampNeg dv = .int x) (hd : decode c.code pc = .ok (.baload, 1)) (hp : pc + 1 = pc') (hk : own_Go p e below P T (mkF m pc' Ls (.int x :: st))) : own_Go p e below P T (mkF m pc Ls (.int j :: .ref a :: st)) := by
  subst hp
  obtain ⟨cl, A, -, S, q, H, -⟩ := V
  exact own_st (X.baloadBytes hx (j := j) (v := .int x) (by rw [eT]; exact A.1) (State.isArrayOf_alike hZ.alike A.2.1) A.2.2 (inb_of S hj) (H.at (inb_of S hj) hv) (g := mkF m pc Ls (.int j :: .ref a :: st)) rfl rfl hd) hk
theorem own_aaload (X : Stand p l e R s m args below meth c T locs cells slots) (hx : p.tables.exec = Jvm.exec) (hZ : Z.Warmed39 s.vm) (eT : T.heap = h) (V : Arv Z h a k ty n vs dv) (ht : ty.isReference = true) {x : Value} (hj : ¬ j < 0 ∧ j < n) (hv : vs.getD j.toNatClampNeg dv = x) (hd : decode c.code pc = .ok (.aaload, 1)) (hp : pc + 1 = pc') (hk : own_Go p e below P T (mkF m pc' Ls (x :: st))) : own_Go p e below P T (mkF m pc Ls (.int j :: .ref a :: st)) := by
  subst hp
  obtain ⟨cl, A, -, S, q, H, -⟩ := V
  exact own_st (X.aaload hx (j := j) (v := x) (by rw [eT]; exact A.1) (State.isArrayOf_alike hZ.alike A.2.1) ht A.2.2 (inb_of S hj) (H.at (inb_of S hj) hv) (g := mkF m pc Ls (.int j :: .ref a :: st)) rfl rfl hd) hk
/-- a byte stored: the list with that place set -/
theorem own_bastore (X : Stand p l e R s m args below meth c T locs cells slots) (hx : p.tables.exec = Jvm.exec) (hZ : Z.Warmed39 s.vm) (eT : T.heap = h) (V : Arv Z h a k .byte n vs dv) (i : Nat) {x : Int32} (hj : ¬ j < 0 ∧ j < n) (hi : j.toNatClampNeg = i) (hl : i < vs.length) (hd : decode c.code pc = .ok (.bastore, 1)) :
    ∃ T' h', Stand p l e R s m args below meth c T' (locs ++ [⟨a, j.toNatClampNeg⟩]) cells slots ∧ T'.heap = h' ∧ Wr h h' a j.toNatClampNeg (.int (nar .byte x)) ∧ Arv Z h' a k .byte n (vs.set i (.int (nar .byte x))) dv ∧ ∀ target, Steps p.tables e below (T'.setTop (mkF m (pc + 1) Ls st)) target → Steps p.tables e below (T.setTop (mkF m pc Ls (.int x :: .int j :: .ref a :: st))) target := by
  obtain ⟨cl, A, q1, S, q, H, G⟩ := V
  obtain ⟨T', h', X', e', W, st'⟩ := stB X hx hZ eT A (j := j) (x := x) (inb_of S hj) (g := mkF m pc Ls (.int x :: .int j :: .ref a :: st)) rfl rfl hd
  exact ⟨T', h', X', e', W, Arv.set A q1 S q H G (fits_nar_byte x) W i hi hl, st'⟩
end OwnArr
def own_max (x y : Int32) : Int32 := if x < y then y else x
def own_at (bs : List Int32) (i : Nat) : Int32 := bs.getD i 0
abbrev own_H (bs : List Int32) (f t s p : Nat) : Prop := ¬ p < s ∧ p < t ∧ own_at bs p = 10 ∧ ((¬ p < f + 1 ∧ own_at bs (p - 1) = 10) ∨ (¬ p < f + 2 ∧ own_at bs (p - 1) = 13 ∧ own_at bs (p - 2) = 10))
def own_R (H : Nat → Prop) (r : Int32) : Prop := (∃ p, p < 6 ∧ r = Int32.ofNat (p + 1) ∧ H p ∧ ∀ q, q < p → ¬ H q) ∨ (r = -1 ∧ ∀ q, q < 6 → ¬ H q)
theorem own_first {H : Nat → Prop} {r : Int32} (hr : own_R H r) {k : Nat} (hk : k < 6) (h : H k) (hno : ∀ q, q < k → ¬ H q) : r = Int32.ofNat (k + 1) := by
  rcases hr with ⟨p, h1, h2, h3, h4⟩ | ⟨-, h2⟩
  · rcases Nat.lt_trichotomy p k with g | g | g
    · exact absurd h3 (hno p g)
    · subst g; exact h2
    · exact absurd h (h4 k g)
  · exact absurd h (h2 k hk)
theorem own_none {H : Nat → Prop} {r : Int32} (hr : own_R H r) (hno : ∀ q, q < 6 → ¬ H q) : r = -1 := by
  rcases hr with ⟨p, h1, h2, h3, h4⟩ | ⟨h1, -⟩
  · exact absurd h3 (hno p h1)
  · exact h1
theorem own_lt8 {a b : Nat} (ha : a < 8) (hb : b < 8) : (Int32.ofNat a < Int32.ofNat b) ↔ a < b := (by decide +kernel : ∀ a b : Fin 8, (Int32.ofNat a.val < Int32.ofNat b.val) ↔ a.val < b.val) ⟨a, ha⟩ ⟨b, hb⟩
theorem own_s1lt {a b : Nat} (ha : a < 8) (hb : b < 8) : (Int32.ofNat a - 1 < Int32.ofNat b) ↔ a < b + 1 := (by decide +kernel : ∀ a b : Fin 8, (Int32.ofNat a.val - 1 < Int32.ofNat b.val) ↔ a.val < b.val + 1) ⟨a, ha⟩ ⟨b, hb⟩
theorem own_s2lt {a b : Nat} (ha : a < 8) (hb : b < 8) : (Int32.ofNat a - 2 < Int32.ofNat b) ↔ a < b + 2 := (by decide +kernel : ∀ a b : Fin 8, (Int32.ofNat a.val - 2 < Int32.ofNat b.val) ↔ a.val < b.val + 2) ⟨a, ha⟩ ⟨b, hb⟩
theorem own_sub1 {a : Nat} (h1 : 1 ≤ a) (ha : a < 8) : Int32.ofNat a - 1 = Int32.ofNat (a - 1) := (by decide +kernel : ∀ a : Fin 8, 1 ≤ a.val → Int32.ofNat a.val - 1 = Int32.ofNat (a.val - 1)) ⟨a, ha⟩ h1
theorem own_sub2 {a : Nat} (h1 : 2 ≤ a) (ha : a < 8) : Int32.ofNat a - 2 = Int32.ofNat (a - 2) := (by decide +kernel : ∀ a : Fin 8, 2 ≤ a.val → Int32.ofNat a.val - 2 = Int32.ofNat (a.val - 2)) ⟨a, ha⟩ h1
theorem own_inb {a : Nat} (ha : a < 6) : ¬ Int32.ofNat a < 0 ∧ Int32.ofNat a < 6 := (by decide +kernel : ∀ a : Fin 6, ¬ Int32.ofNat a.val < 0 ∧ Int32.ofNat a.val < 6) ⟨a, ha⟩
theorem own_clamp {a : Nat} (ha : a < 8) : (Int32.ofNat a).toNatClampNeg = a := (by decide +kernel : ∀ a : Fin 8, (Int32.ofNat a.val).toNatClampNeg = a.val) ⟨a, ha⟩
theorem own_vat {bs : List Int32} {a : Nat} (ha : a < 8) : (bs.map Value.int).getD (Int32.ofNat a).toNatClampNeg (.int (0 : Int32)) = .int (own_at bs a) := by
  rw [own_clamp ha, own_at, List.getD_eq_getElem?_getD, List.getD_eq_getElem?_getD, List.getElem?_map]
  cases bs[a]? <;> rfl
theorem own_maxN {s f : Nat} (hs : s ≤ 6) (hf : f ≤ 6) : own_max (Int32.ofNat s) (Int32.ofNat f + 1) = Int32.ofNat (max s (f + 1)) := (by decide +kernel : ∀ s f : Fin 7, own_max (Int32.ofNat s.val) (Int32.ofNat f.val + 1) = Int32.ofNat (max s.val (f.val + 1))) ⟨s, by omega⟩ ⟨f, by omega⟩
theorem own_ofInt {x : Int32} {n : Nat} (h : x.toInt = n) (hn : n < 100) : x = Int32.ofNat n := by
  apply Int32.toInt_inj.mp; rw [h]; exact (Int32.toInt_ofNat_small (by omega)).symm
theorem own_msk (x : Int32) : 0 ≤ (x &&& 2147483647).toInt := by
  have h := c_and x 2147483647 (by decide); exact h.1
theorem own_rem7 (x : Int32) : ∃ f : Nat, f ≤ 6 ∧ (x &&& 2147483647) % 7 = Int32.ofNat f := by
  have h := (c_iremV (x &&& 2147483647) 7).1 (own_msk x) (by decide)
  obtain ⟨h1, h2, -⟩ := h
  have h3 : (7 : Int32).toInt = 7 := rfl
  rw [h3] at h2
  exact ⟨((x &&& 2147483647) % 7).toInt.toNat, by omega, own_ofInt (by omega) (by omega)⟩
theorem own_7f {f : Nat} (hf : f ≤ 6) : ((7 : Int32) - Int32.ofNat f).toInt = 7 - (f : Int) ∧ (Int32.ofNat f).toInt = f := (by decide +kernel : ∀ f : Fin 7, ((7 : Int32) - Int32.ofNat f.val).toInt = 7 - (f.val : Int) ∧ (Int32.ofNat f.val).toInt = f.val) ⟨f, by omega⟩
theorem own_7ne {f : Nat} (hf : f ≤ 6) : (7 : Int32) - Int32.ofNat f ≠ 0 := fun q => by
  have := (own_7f hf).1; rw [q] at this; have h0 : (0 : Int32).toInt = 0 := rfl; omega
theorem own_rem7b (x : Int32) {f : Nat} (hf : f ≤ 6) : ∃ t : Nat, t ≤ 6 ∧ Int32.ofNat f + (x &&& 2147483647) % (7 - Int32.ofNat f) = Int32.ofNat t := by
  have h := (c_iremV (x &&& 2147483647) (7 - Int32.ofNat f)).1 (own_msk x) (by have := (own_7f hf).1; omega)
  obtain ⟨h1, h2, -⟩ := h
  rw [(own_7f hf).1] at h2
  have h4 := (own_7f hf).2
  generalize (x &&& 2147483647) % (7 - Int32.ofNat f) = y at *
  have h5 := c_iadd (Int32.ofNat f) y
  have h6 := rng32 (Int32.ofNat f + y)
  exact ⟨(Int32.ofNat f + y).toInt.toNat, by omega, own_ofInt (by omega) (by omega)⟩
theorem d1_0 : decode method_3_code 0 = .ok (.iload_n 0, 1) := by decide +kernel
theorem d1_1 : decode method_3_code 1 = .ok (.iconst 2, 1) := by decide +kernel
theorem d1_2 : decode method_3_code 2 = .ok (.iload_n 3, 1) := by decide +kernel
theorem d1_3 : decode method_3_code 3 = .ok (.imul, 1) := by decide +kernel
theorem d1_4 : decode method_3_code 4 = .ok (.iushr, 1) := by decide +kernel
theorem d1_5 : decode method_3_code 5 = .ok (.iconst 3, 1) := by decide +kernel
theorem d1_6 : decode method_3_code 6 = .ok (.iand, 1) := by decide +kernel
theorem d1_7 : decode method_3_code 7 = .ok (.istore 4, 2) := by decide +kernel
theorem d1_9 : decode method_3_code 9 = .ok (.iload 4, 2) := by decide +kernel
theorem d1_11 : decode method_3_code 11 = .ok (.ifCond .ne 6, 3) := by decide +kernel
theorem d1_14 : decode method_3_code 14 = .ok (.bipush 10, 2) := by decide +kernel
theorem d1_16 : decode method_3_code 16 = .ok (.ireturn, 1) := by decide +kernel
theorem d1_17 : decode method_3_code 17 = .ok (.iload 4, 2) := by decide +kernel
theorem d1_19 : decode method_3_code 19 = .ok (.iconst 1, 1) := by decide +kernel
theorem d1_20 : decode method_3_code 20 = .ok (.if_icmp .ne 6, 3) := by decide +kernel
theorem d1_23 : decode method_3_code 23 = .ok (.bipush 13, 2) := by decide +kernel
theorem d1_25 : decode method_3_code 25 = .ok (.ireturn, 1) := by decide +kernel
theorem d1_26 : decode method_3_code 26 = .ok (.lload_n 1, 1) := by decide +kernel
theorem d1_27 : decode method_3_code 27 = .ok (.bipush 8, 2) := by decide +kernel
theorem d1_29 : decode method_3_code 29 = .ok (.iload_n 3, 1) := by decide +kernel
theorem d1_30 : decode method_3_code 30 = .ok (.imul, 1) := by decide +kernel
theorem d1_31 : decode method_3_code 31 = .ok (.lushr, 1) := by decide +kernel
theorem d1_32 : decode method_3_code 32 = .ok (.l2i, 1) := by decide +kernel
theorem d1_33 : decode method_3_code 33 = .ok (.i2b, 1) := by decide +kernel
theorem d1_34 : decode method_3_code 34 = .ok (.ireturn, 1) := by decide +kernel
theorem pn1 : plainFor (⟨"com/example/nodeweave/nodeweave/server/MessageHeadEndPinLaw", "pick", "(IJI)B"⟩ : MethodName) = true := by first | exact plainFor_of_name (by first | (simp [plainName, overriddenIn]; done) | decide +kernel) | decide +kernel
theorem ef1 (m : MethodId) (x1 : Int32) (x2 : Int64) (x3 : Int32) : entryFrame m #[(.int x1), (.long x2), (.int x3)] 5 = mkF m 0 #[.val (.int x1), .val (.long x2), .second, .val (.int x3), .unset] [] := by first | (simp [entryFrame, mkF, argsToLocals, Value.category]; done) | rfl
def Q1 (Z : State) (x1 : Int32) (x2 : Int64) (x3 : Int32) (h0 : Heap) (n0 : Nat) (v : Option Value) (h : Heap) (L : List Loc) : Prop := (∃ c : Int32, v = some (.int c)) ∧ Fr n0 L ∧ h = h0
set_option maxRecDepth 65536 in
set_option maxHeartbeats 40000000 in
theorem rm1 (l : Launch) (Z : State) (a0 : Array Value) (hw : ∀ d ∈ tables_1, d.before a0 Z = true) (ws : List Jvm.Cond) (x1 : Int32) (x2 : Int64) (x3 : Int32) (h0 : Heap) (n0 : Nat) (Z0 : n0 ≤ h0.size) :
    MetFree l (⟨"com/example/nodeweave/nodeweave/server/MessageHeadEndPinLaw", "pick", "(IJI)B"⟩ : MethodName) (head1 (Jvm.Cond.code (⟨"com/example/nodeweave/nodeweave/server/MessageHeadEndPinLaw", "pick", "(IJI)B"⟩ : MethodName) method_3_code 5 (some .byte) :: ws) ({ frames := 0, cells := 0, slots := 0, locals := 0 } : Room)) (fun a U => a = #[(.int x1), (.long x2), (.int x3)] ∧ Z.Warmed39 U.vm ∧ U.heap = h0) (fun _ _ _ _ _ => True) (fun _ U o U' => ∃ v L, o = .returned v ∧ Q1 Z x1 x2 x3 h0 n0 v U'.heap L ∧ FrameEnd U o U' L ({ frames := 0, cells := 0, slots := 0, locals := 0 } : Room).cells ({ frames := 0, cells := 0, slots := 0, locals := 0 } : Room).slots) := by
  refine MetFree.of_bodySF pn1 hisR ?_
  intro p e s m args below meth c s₁ Bd hml0 hP hK
  obtain ⟨rfl, hZ, hh⟩ := hP
  have hx := Bd.exec
  have hby := Bd.bytes
  have hlk : meth.locks = false := BodyLoose.notSynchronized Bd
  have hml : c.maxLocals = 5 := hml0
  have hown : s.vm.findClass "com/example/nodeweave/nodeweave/server/MessageHeadEndPinLaw" = some m.cls := findClass_of_methodNamed Bd.named
  have hnm := (name_of_methodNamed Bd.named Bd.method).1
  have X0 : Stand p l e ({ frames := 0, cells := 0, slots := 0, locals := 0 } : Room) s m #[(.int x1), (.long x2), (.int x3)] below meth c s₁ [] 0 0 := Stand.of_body Bd
  have e0 : s₁.heap = h0 := by rw [← hh, Bd.state]; rfl
  have N0 := Fr.nil n0
  rw [ef1 m x1 x2 x3]
  show own_Go p e below (own_End s (Q1 Z x1 x2 x3 h0 n0) ({ frames := 0, cells := 0, slots := 0, locals := 0 } : Room).cells ({ frames := 0, cells := 0, slots := 0, locals := 0 } : Room).slots) s₁ (mkF m 0 #[.val (.int x1), .val (.long x2), .second, .val (.int x3), .unset] [])
  refine own_iloadN X0 hx (hb hby d1_0) (pc' := 1) rfl rfl ?_
  refine own_iconst X0 hx (2) (hb hby d1_1) (pc' := 2) rfl rfl ?_
  refine own_iloadN X0 hx (hb hby d1_2) (pc' := 3) rfl rfl ?_
  refine own_imul X0 hx (hb hby d1_3) (pc' := 4) rfl ?_
  refine own_iushr X0 hx (hb hby d1_4) (pc' := 5) rfl ?_
  refine own_iconst X0 hx (3) (hb hby d1_5) (pc' := 6) rfl rfl ?_
  refine own_iand X0 hx (hb hby d1_6) (pc' := 7) rfl ?_
  refine own_istore X0 hx (hb hby d1_7) (pc' := 9) (Ls' := #[.val (.int x1), .val (.long x2), .second, .val (.int x3), .val (.int ((XT.ushr x1 ((2 : Int32) * x3)) &&& (3 : Int32)))]) rfl rfl ?_
  refine own_iload X0 hx (hb hby d1_9) (pc' := 11) rfl rfl ?_
  by_cases c_1 : ((XT.ushr x1 ((2 : Int32) * x3)) &&& (3 : Int32)) = (0 : Int32)
  · skip
    refine own_ifN X0 hx (hb hby d1_11) (XT.i0_ne_f c_1) (pc' := 14) rfl ?_
    refine own_bipush X0 hx (10) (hb hby d1_14) (pc' := 16) rfl (by decide) ?_
    refine own_retZ X0 hx hlk Bd.returns (by simp) (hb hby d1_16) (by decide) (by decide) ?_
    rw [e0]
    exact ⟨⟨_, rfl⟩, N0, rfl⟩
  · skip
    refine own_ifY X0 hx (hb hby d1_11) (XT.i0_ne_t c_1) (pc' := 17) (by decide) (by decide) ?_
    refine own_iload X0 hx (hb hby d1_17) (pc' := 19) rfl rfl ?_
    refine own_iconst X0 hx (1) (hb hby d1_19) (pc' := 20) rfl rfl ?_
    by_cases c_2 : ((XT.ushr x1 ((2 : Int32) * x3)) &&& (3 : Int32)) = (1 : Int32)
    · skip
      refine own_icmpN X0 hx (hb hby d1_20) (XT.ii_ne_f c_2) (pc' := 23) rfl ?_
      refine own_bipush X0 hx (13) (hb hby d1_23) (pc' := 25) rfl (by decide) ?_
      refine own_retZ X0 hx hlk Bd.returns (by simp) (hb hby d1_25) (by decide) (by decide) ?_
      rw [e0]
      exact ⟨⟨_, rfl⟩, N0, rfl⟩
    · skip
      refine own_icmpY X0 hx (hb hby d1_20) (XT.ii_ne_t c_2) (pc' := 26) (by decide) (by decide) ?_
      refine own_lloadN X0 hx (hb hby d1_26) (pc' := 27) rfl rfl ?_
      refine own_bipush X0 hx (8) (hb hby d1_27) (pc' := 29) rfl (by decide) ?_
      refine own_iloadN X0 hx (hb hby d1_29) (pc' := 30) rfl rfl ?_
      refine own_imul X0 hx (hb hby d1_30) (pc' := 31) rfl ?_
      refine own_lushr X0 hx (hb hby d1_31) (pc' := 32) rfl ?_
      refine own_l2i X0 hx (hb hby d1_32) (pc' := 33) rfl ?_
      refine own_i2b X0 hx (hb hby d1_33) (pc' := 34) rfl ?_
      refine own_retZ X0 hx hlk Bd.returns (by simp) (hb hby d1_34) (by decide) (by decide) ?_
      rw [e0]
      exact ⟨⟨_, rfl⟩, N0, rfl⟩
theorem d2_0 : decode jdk_29_method_65_code 0 = .ok (.iload_n 0, 1) := by decide +kernel
theorem d2_1 : decode jdk_29_method_65_code 1 = .ok (.iload_n 1, 1) := by decide +kernel
theorem d2_2 : decode jdk_29_method_65_code 2 = .ok (.if_icmp .lt 7, 3) := by decide +kernel
theorem d2_9 : decode jdk_29_method_65_code 9 = .ok (.iload_n 1, 1) := by decide +kernel
theorem d2_10 : decode jdk_29_method_65_code 10 = .ok (.ireturn, 1) := by decide +kernel
theorem d2_5 : decode jdk_29_method_65_code 5 = .ok (.iload_n 0, 1) := by decide +kernel
theorem d2_6 : decode jdk_29_method_65_code 6 = .ok (.goto 4, 3) := by decide +kernel
theorem pn2 : plainFor (⟨"java/lang/Math", "max", "(II)I"⟩ : MethodName) = true := by first | exact plainFor_of_name (by first | (simp [plainName, overriddenIn]; done) | decide +kernel) | decide +kernel
theorem ef2 (m : MethodId) (x1 : Int32) (x2 : Int32) : entryFrame m #[(.int x1), (.int x2)] 2 = mkF m 0 #[.val (.int x1), .val (.int x2)] [] := by first | (simp [entryFrame, mkF, argsToLocals, Value.category]; done) | rfl
def Q2 (Z : State) (x1 : Int32) (x2 : Int32) (h0 : Heap) (n0 : Nat) (v : Option Value) (h : Heap) (L : List Loc) : Prop := v = some (.int (own_max x1 x2)) ∧ Fr n0 L ∧ h = h0
set_option maxRecDepth 65536 in
set_option maxHeartbeats 40000000 in
theorem rm2 (l : Launch) (Z : State) (a0 : Array Value) (hw : ∀ d ∈ tables_1, d.before a0 Z = true) (ws : List Jvm.Cond) (x1 : Int32) (x2 : Int32) (h0 : Heap) (n0 : Nat) (Z0 : n0 ≤ h0.size) :
    MetFree l (⟨"java/lang/Math", "max", "(II)I"⟩ : MethodName) (head1 (Jvm.Cond.code (⟨"java/lang/Math", "max", "(II)I"⟩ : MethodName) jdk_29_method_65_code 2 (some .int) :: ws) ({ frames := 0, cells := 0, slots := 0, locals := 0 } : Room)) (fun a U => a = #[(.int x1), (.int x2)] ∧ Z.Warmed39 U.vm ∧ U.heap = h0) (fun _ _ _ _ _ => True) (fun _ U o U' => ∃ v L, o = .returned v ∧ Q2 Z x1 x2 h0 n0 v U'.heap L ∧ FrameEnd U o U' L ({ frames := 0, cells := 0, slots := 0, locals := 0 } : Room).cells ({ frames := 0, cells := 0, slots := 0, locals := 0 } : Room).slots) := by
  refine MetFree.of_bodySF pn2 hisR ?_
  intro p e s m args below meth c s₁ Bd hml0 hP hK
  obtain ⟨rfl, hZ, hh⟩ := hP
  have hx := Bd.exec
  have hby := Bd.bytes
  have hlk : meth.locks = false := BodyLoose.notSynchronized Bd
  have hml : c.maxLocals = 2 := hml0
  have hown : s.vm.findClass "java/lang/Math" = some m.cls := findClass_of_methodNamed Bd.named
  have hnm := (name_of_methodNamed Bd.named Bd.method).1
  have X0 : Stand p l e ({ frames := 0, cells := 0, slots := 0, locals := 0 } : Room) s m #[(.int x1), (.int x2)] below meth c s₁ [] 0 0 := Stand.of_body Bd
  have e0 : s₁.heap = h0 := by rw [← hh, Bd.state]; rfl
  have N0 := Fr.nil n0
  rw [ef2 m x1 x2]
  show own_Go p e below (own_End s (Q2 Z x1 x2 h0 n0) ({ frames := 0, cells := 0, slots := 0, locals := 0 } : Room).cells ({ frames := 0, cells := 0, slots := 0, locals := 0 } : Room).slots) s₁ (mkF m 0 #[.val (.int x1), .val (.int x2)] [])
  refine own_iloadN X0 hx (hb hby d2_0) (pc' := 1) rfl rfl ?_
  refine own_iloadN X0 hx (hb hby d2_1) (pc' := 2) rfl rfl ?_
  by_cases c_1 : x1 < x2
  · skip
    refine own_icmpY X0 hx (hb hby d2_2) (XT.ii_lt_t c_1) (pc' := 9) (by decide) (by decide) ?_
    refine own_iloadN X0 hx (hb hby d2_9) (pc' := 10) rfl rfl ?_
    refine own_retI X0 hx hlk Bd.returns (hb hby d2_10) (by decide) (by decide) ?_
    rw [e0]
    exact ⟨by simp [own_max, c_1], N0, rfl⟩
  · skip
    refine own_icmpN X0 hx (hb hby d2_2) (XT.ii_lt_f c_1) (pc' := 5) rfl ?_
    refine own_iloadN X0 hx (hb hby d2_5) (pc' := 6) rfl rfl ?_
    refine own_goto X0 hx (hb hby d2_6) (pc' := 10) (by decide) (by decide) ?_
    refine own_retI X0 hx hlk Bd.returns (hb hby d2_10) (by decide) (by decide) ?_
    rw [e0]
    exact ⟨by simp [own_max, c_1], N0, rfl⟩
theorem d3_0 : decode prog_47_method_4_code 0 = .ok (.iload_n 3, 1) := by decide +kernel
theorem d3_1 : decode prog_47_method_4_code 1 = .ok (.iload_n 1, 1) := by decide +kernel
theorem d3_2 : decode prog_47_method_4_code 2 = .ok (.iconst 1, 1) := by decide +kernel
theorem d3_3 : decode prog_47_method_4_code 3 = .ok (.iadd, 1) := by decide +kernel
theorem d3_4 : decode prog_47_method_4_code 4 = .ok (.invokestatic 35, 3) := by decide +kernel
theorem d3_7 : decode prog_47_method_4_code 7 = .ok (.istore 4, 2) := by decide +kernel
theorem d3_9 : decode prog_47_method_4_code 9 = .ok (.iload 4, 2) := by decide +kernel
theorem d3_11 : decode prog_47_method_4_code 11 = .ok (.iload_n 2, 1) := by decide +kernel
theorem d3_12 : decode prog_47_method_4_code 12 = .ok (.if_icmp .ge 64, 3) := by decide +kernel
theorem d3_15 : decode prog_47_method_4_code 15 = .ok (.aload_n 0, 1) := by decide +kernel
theorem d3_16 : decode prog_47_method_4_code 16 = .ok (.iload 4, 2) := by decide +kernel
theorem d3_18 : decode prog_47_method_4_code 18 = .ok (.baload, 1) := by decide +kernel
theorem d3_19 : decode prog_47_method_4_code 19 = .ok (.bipush 10, 2) := by decide +kernel
theorem d3_21 : decode prog_47_method_4_code 21 = .ok (.if_icmp .ne 49, 3) := by decide +kernel
theorem d3_24 : decode prog_47_method_4_code 24 = .ok (.aload_n 0, 1) := by decide +kernel
theorem d3_25 : decode prog_47_method_4_code 25 = .ok (.iload 4, 2) := by decide +kernel
theorem d3_27 : decode prog_47_method_4_code 27 = .ok (.iconst 1, 1) := by decide +kernel
theorem d3_28 : decode prog_47_method_4_code 28 = .ok (.isub, 1) := by decide +kernel
theorem d3_29 : decode prog_47_method_4_code 29 = .ok (.baload, 1) := by decide +kernel
theorem d3_30 : decode prog_47_method_4_code 30 = .ok (.bipush 10, 2) := by decide +kernel
theorem d3_32 : decode prog_47_method_4_code 32 = .ok (.if_icmp .eq 33, 3) := by decide +kernel
theorem d3_65 : decode prog_47_method_4_code 65 = .ok (.iload 4, 2) := by decide +kernel
theorem d3_67 : decode prog_47_method_4_code 67 = .ok (.iconst 1, 1) := by decide +kernel
theorem d3_68 : decode prog_47_method_4_code 68 = .ok (.iadd, 1) := by decide +kernel
theorem d3_69 : decode prog_47_method_4_code 69 = .ok (.ireturn, 1) := by decide +kernel
theorem d3_35 : decode prog_47_method_4_code 35 = .ok (.aload_n 0, 1) := by decide +kernel
theorem d3_36 : decode prog_47_method_4_code 36 = .ok (.iload 4, 2) := by decide +kernel
theorem d3_38 : decode prog_47_method_4_code 38 = .ok (.iconst 1, 1) := by decide +kernel
theorem d3_39 : decode prog_47_method_4_code 39 = .ok (.isub, 1) := by decide +kernel
theorem d3_40 : decode prog_47_method_4_code 40 = .ok (.baload, 1) := by decide +kernel
theorem d3_41 : decode prog_47_method_4_code 41 = .ok (.bipush 13, 2) := by decide +kernel
theorem d3_43 : decode prog_47_method_4_code 43 = .ok (.if_icmp .ne 27, 3) := by decide +kernel
theorem d3_46 : decode prog_47_method_4_code 46 = .ok (.iload 4, 2) := by decide +kernel
theorem d3_48 : decode prog_47_method_4_code 48 = .ok (.iconst 2, 1) := by decide +kernel
theorem d3_49 : decode prog_47_method_4_code 49 = .ok (.isub, 1) := by decide +kernel
theorem d3_50 : decode prog_47_method_4_code 50 = .ok (.iload_n 1, 1) := by decide +kernel
theorem d3_51 : decode prog_47_method_4_code 51 = .ok (.if_icmp .lt 19, 3) := by decide +kernel
theorem d3_70 : decode prog_47_method_4_code 70 = .ok (.iinc 4 1, 3) := by decide +kernel
theorem d3_73 : decode prog_47_method_4_code 73 = .ok (.goto (-64), 3) := by decide +kernel
theorem d3_54 : decode prog_47_method_4_code 54 = .ok (.aload_n 0, 1) := by decide +kernel
theorem d3_55 : decode prog_47_method_4_code 55 = .ok (.iload 4, 2) := by decide +kernel
theorem d3_57 : decode prog_47_method_4_code 57 = .ok (.iconst 2, 1) := by decide +kernel
theorem d3_58 : decode prog_47_method_4_code 58 = .ok (.isub, 1) := by decide +kernel
theorem d3_59 : decode prog_47_method_4_code 59 = .ok (.baload, 1) := by decide +kernel
theorem d3_60 : decode prog_47_method_4_code 60 = .ok (.bipush 10, 2) := by decide +kernel
theorem d3_62 : decode prog_47_method_4_code 62 = .ok (.if_icmp .ne 8, 3) := by decide +kernel
theorem d3_76 : decode prog_47_method_4_code 76 = .ok (.iconst (-1), 1) := by decide +kernel
theorem d3_77 : decode prog_47_method_4_code 77 = .ok (.ireturn, 1) := by decide +kernel
theorem pd3_0 : parseMethodDescriptor "(II)I" = some ⟨[.int, .int], some .int⟩ := by decide +kernel
theorem pn3 : plainFor (⟨"com/example/nodeweave/nodeweave/server/MessageHead", "end", "([BIII)I"⟩ : MethodName) = true := by first | exact plainFor_of_name (by first | (simp [plainName, overriddenIn]; done) | decide +kernel) | decide +kernel
theorem ef3 (m : MethodId) (a1 : Addr) (fN : Nat) (tN : Nat) (sN : Nat) : entryFrame m #[(.ref a1), (.int (Int32.ofNat fN)), (.int (Int32.ofNat tN)), (.int (Int32.ofNat sN))] 5 = mkF m 0 #[.val (.ref a1), .val (.int (Int32.ofNat fN)), .val (.int (Int32.ofNat tN)), .val (.int (Int32.ofNat sN)), .unset] [] := by first | (simp [entryFrame, mkF, argsToLocals, Value.category]; done) | rfl
def Q3 (Z : State) (a1 : Addr) (fN : Nat) (tN : Nat) (sN : Nat) (kc : ClassId) (bs : List Int32) (h0 : Heap) (n0 : Nat) (v : Option Value) (h : Heap) (L : List Loc) : Prop := (∃ r : Int32, v = some (.int r) ∧ own_R (own_H bs fN tN sN) r) ∧ Fr n0 L ∧ h = h0
set_option maxRecDepth 65536 in
set_option maxHeartbeats 40000000 in
theorem rm3 (l : Launch) (Z : State) (a0 : Array Value) (hw : ∀ d ∈ tables_1, d.before a0 Z = true) (ws : List Jvm.Cond) (a1 : Addr) (fN : Nat) (tN : Nat) (sN : Nat) (kc : ClassId) (bs : List Int32) (h0 : Heap) (n0 : Nat) (Z0 : n0 ≤ h0.size) (V_a : Arv Z h0 a1 kc .byte (6 : Int32) (bs.map Value.int) (.int (0 : Int32))) (hfN : fN ≤ 6) (htN : tN ≤ 6) (hsN : sN ≤ 6) :
    MetFree l (⟨"com/example/nodeweave/nodeweave/server/MessageHead", "end", "([BIII)I"⟩ : MethodName) (head1 (Jvm.Cond.code (⟨"com/example/nodeweave/nodeweave/server/MessageHead", "end", "([BIII)I"⟩ : MethodName) prog_47_method_4_code 5 (some .int) :: ws) ({ frames := 1, cells := 0, slots := 0, locals := 13 } : Room)) (fun a U => a = #[(.ref a1), (.int (Int32.ofNat fN)), (.int (Int32.ofNat tN)), (.int (Int32.ofNat sN))] ∧ Z.Warmed39 U.vm ∧ U.heap = h0) (fun _ _ _ _ _ => True) (fun _ U o U' => ∃ v L, o = .returned v ∧ Q3 Z a1 fN tN sN kc bs h0 n0 v U'.heap L ∧ FrameEnd U o U' L ({ frames := 1, cells := 0, slots := 0, locals := 13 } : Room).cells ({ frames := 1, cells := 0, slots := 0, locals := 13 } : Room).slots) := by
  refine MetFree.of_bodySF pn3 hisR ?_
  intro p e s m args below meth c s₁ Bd hml0 hP hK
  obtain ⟨rfl, hZ, hh⟩ := hP
  have hx := Bd.exec
  have hby := Bd.bytes
  have hlk : meth.locks = false := BodyLoose.notSynchronized Bd
  have hml : c.maxLocals = 5 := hml0
  have hown : s.vm.findClass "com/example/nodeweave/nodeweave/server/MessageHead" = some m.cls := findClass_of_methodNamed Bd.named
  have hnm := (name_of_methodNamed Bd.named Bd.method).1
  have X0 : Stand p l e ({ frames := 1, cells := 0, slots := 0, locals := 13 } : Room) s m #[(.ref a1), (.int (Int32.ofNat fN)), (.int (Int32.ofNat tN)), (.int (Int32.ofNat sN))] below meth c s₁ [] 0 0 := Stand.of_body Bd
  have e0 : s₁.heap = h0 := by rw [← hh, Bd.state]; rfl
  have N0 := Fr.nil n0
  rw [ef3 m a1 fN tN sN]
  show own_Go p e below (own_End s (Q3 Z a1 fN tN sN kc bs h0 n0) ({ frames := 1, cells := 0, slots := 0, locals := 13 } : Room).cells ({ frames := 1, cells := 0, slots := 0, locals := 13 } : Room).slots) s₁ (mkF m 0 #[.val (.ref a1), .val (.int (Int32.ofNat fN)), .val (.int (Int32.ofNat tN)), .val (.int (Int32.ofNat sN)), .unset] [])
  refine own_iloadN X0 hx (hb hby d3_0) (pc' := 1) rfl rfl ?_
  refine own_iloadN X0 hx (hb hby d3_1) (pc' := 2) rfl rfl ?_
  refine own_iconst X0 hx (1) (hb hby d3_2) (pc' := 3) rfl rfl ?_
  refine own_iadd X0 hx (hb hby d3_3) (pc' := 4) rfl ?_
  obtain ⟨_, _, ⟨T_1, L_1, k_1, n_1⟩, -, X_1, ⟨Lc_1, hQ_1, l_1, y_1, z_1⟩, st_1⟩ := Jvm.LawKit.callS X0 hx (y := (⟨"java/lang/Math", "max", "(II)I"⟩ : MethodName)) hown (mvT hZ (hw _ (List.mem_of_getElem? (i := 10) rfl))) (mvT hZ (hw _ (List.mem_of_getElem? (i := 11) rfl))) (mvT hZ (hw _ (List.mem_of_getElem? (i := 12) rfl))) (mvT hZ (hw _ (List.mem_of_getElem? (i := 13) rfl))) (by decide) (backOf (W := 0) (rm2 l Z a0 hw [] (Int32.ofNat sN) ((Int32.ofNat fN) + (1 : Int32)) h0 n0 Z0) hZ (hw _ (List.mem_of_getElem? (i := 13) rfl)) (hw _ (List.mem_of_getElem? (i := 12) rfl)) (by decide) (by decide)) (g := (mkF m 4 #[.val (.ref a1), .val (.int (Int32.ofNat fN)), .val (.int (Int32.ofNat tN)), .val (.int (Int32.ofNat sN)), .unset] [(.int ((Int32.ofNat fN) + (1 : Int32))), (.int (Int32.ofNat sN))])) rfl (by rw [hml]; rfl) (argsL := [(.int (Int32.ofNat sN)), (.int ((Int32.ofNat fN) + (1 : Int32)))]) (rest := []) (lenOf pd3_0 rfl) rfl (by show 2 * 0 + _ ≤ _; exact Nat.le_of_eq rfl) (hb hby d3_4) (fun _ _ => ⟨rfl, e0, (by decide : 0 + 0 ≤ _), (by decide : 0 + 0 ≤ _)⟩)
  dsimp only [Pt.U, Pt.locs, Pt.cells, Pt.slots] at X_1 l_1 y_1 z_1 st_1 hQ_1
  subst l_1 y_1 z_1
  refine own_st st_1 ?_
  obtain ⟨rfl, Nq_1, eq_1⟩ := hQ_1
  have N_1 := Fr.app N0 Nq_1
  dsimp only [Option.toList, List.cons_append, List.nil_append]
  rw [own_maxN hsN hfN]
  show own_Go p e below _ T_1 (mkF m 7 #[.val (.ref a1), .val (.int (Int32.ofNat fN)), .val (.int (Int32.ofNat tN)), .val (.int (Int32.ofNat sN)), .unset] [(.int (Int32.ofNat (max sN (fN + 1))))])
  refine own_istore X_1 hx (hb hby d3_7) (pc' := 9) (Ls' := #[.val (.ref a1), .val (.int (Int32.ofNat fN)), .val (.int (Int32.ofNat tN)), .val (.int (Int32.ofNat sN)), .val (.int (Int32.ofNat (max sN (fN + 1))))]) rfl rfl ?_
  have loop : ∀ (k i : Nat), i + k = 8 → i ≤ 7 → fN < i → ¬ i < sN → (∀ q, q < i → ¬ own_H bs fN tN sN q) → own_Go p e below (own_End s (Q3 Z a1 fN tN sN kc bs h0 n0) ({ frames := 1, cells := 0, slots := 0, locals := 13 } : Room).cells ({ frames := 1, cells := 0, slots := 0, locals := 13 } : Room).slots) T_1 (mkF m 9 #[.val (.ref a1), .val (.int (Int32.ofNat fN)), .val (.int (Int32.ofNat tN)), .val (.int (Int32.ofNat sN)), .val (.int (Int32.ofNat i))] []) := by
    intro k
    induction k with
    | zero => intro i hk h7; omega
    | succ k ih =>
      intro i hk h7 hfi hsi hno
      refine own_iload X_1 hx (hb hby d3_9) (pc' := 11) rfl rfl ?_
      refine own_iloadN X_1 hx (hb hby d3_11) (pc' := 12) rfl rfl ?_
      by_cases c_2 : (Int32.ofNat i) < (Int32.ofNat tN)
      · skip
        have nc_2 : i < tN := (own_lt8 (a := i) (b := tN) (by omega) (by omega)).mp c_2
        refine own_icmpN X_1 hx (hb hby d3_12) (XT.ii_ge_f c_2) (pc' := 15) rfl ?_
        refine own_aloadN X_1 hx (hb hby d3_15) (pc' := 16) rfl rfl rfl ?_
        refine own_iload X_1 hx (hb hby d3_16) (pc' := 18) rfl rfl ?_
        refine own_baload X_1 hx hZ eq_1 V_a (own_inb (a := i) (by omega)) (own_vat (by omega)) (hb hby d3_18) (pc' := 19) rfl ?_
        refine own_bipush X_1 hx (10) (hb hby d3_19) (pc' := 21) rfl (by decide) ?_
        by_cases c_3 : (own_at bs i) = (10 : Int32)
        · skip
          refine own_icmpN X_1 hx (hb hby d3_21) (XT.ii_ne_f c_3) (pc' := 24) rfl ?_
          refine own_aloadN X_1 hx (hb hby d3_24) (pc' := 25) rfl rfl rfl ?_
          refine own_iload X_1 hx (hb hby d3_25) (pc' := 27) rfl rfl ?_
          refine own_iconst X_1 hx (1) (hb hby d3_27) (pc' := 28) rfl rfl ?_
          refine own_isub X_1 hx (hb hby d3_28) (pc' := 29) rfl ?_
          rw [own_sub1 (a := i) (by omega) (by omega)]
          refine own_baload X_1 hx hZ eq_1 V_a (own_inb (a := i - 1) (by omega)) (own_vat (by omega)) (hb hby d3_29) (pc' := 30) rfl ?_
          refine own_bipush X_1 hx (10) (hb hby d3_30) (pc' := 32) rfl (by decide) ?_
          by_cases c_4 : (own_at bs (i - 1)) = (10 : Int32)
          · skip
            refine own_icmpY X_1 hx (hb hby d3_32) (XT.ii_eq_t c_4) (pc' := 65) (by decide) (by decide) ?_
            refine own_iload X_1 hx (hb hby d3_65) (pc' := 67) rfl rfl ?_
            refine own_iconst X_1 hx (1) (hb hby d3_67) (pc' := 68) rfl rfl ?_
            refine own_iadd X_1 hx (hb hby d3_68) (pc' := 69) rfl ?_
            refine own_retI X_1 hx hlk Bd.returns (hb hby d3_69) (by decide) (by decide) ?_
            rw [eq_1]
            exact ⟨⟨_, rfl, Or.inl ⟨i, by omega, (inc_ofNat i).symm, by simp [own_H, c_2, nc_2, c_3, c_4] <;> omega, hno⟩⟩, N_1, rfl⟩
          · skip
            refine own_icmpN X_1 hx (hb hby d3_32) (XT.ii_eq_f c_4) (pc' := 35) rfl ?_
            refine own_aloadN X_1 hx (hb hby d3_35) (pc' := 36) rfl rfl rfl ?_
            refine own_iload X_1 hx (hb hby d3_36) (pc' := 38) rfl rfl ?_
            refine own_iconst X_1 hx (1) (hb hby d3_38) (pc' := 39) rfl rfl ?_
            refine own_isub X_1 hx (hb hby d3_39) (pc' := 40) rfl ?_
            rw [own_sub1 (a := i) (by omega) (by omega)]
            refine own_baload X_1 hx hZ eq_1 V_a (own_inb (a := i - 1) (by omega)) (own_vat (by omega)) (hb hby d3_40) (pc' := 41) rfl ?_
            refine own_bipush X_1 hx (13) (hb hby d3_41) (pc' := 43) rfl (by decide) ?_
            by_cases c_5 : (own_at bs (i - 1)) = (13 : Int32)
            · skip
              refine own_icmpN X_1 hx (hb hby d3_43) (XT.ii_ne_f c_5) (pc' := 46) rfl ?_
              refine own_iload X_1 hx (hb hby d3_46) (pc' := 48) rfl rfl ?_
              refine own_iconst X_1 hx (2) (hb hby d3_48) (pc' := 49) rfl rfl ?_
              refine own_isub X_1 hx (hb hby d3_49) (pc' := 50) rfl ?_
              refine own_iloadN X_1 hx (hb hby d3_50) (pc' := 51) rfl rfl ?_
              by_cases c_6 : ((Int32.ofNat i) - (2 : Int32)) < (Int32.ofNat fN)
              · skip
                have nc_6 : i < fN + 2 := (own_s2lt (a := i) (b := fN) (by omega) (by omega)).mp c_6
                refine own_icmpY X_1 hx (hb hby d3_51) (XT.ii_lt_t c_6) (pc' := 70) (by decide) (by decide) ?_
                refine own_iinc X_1 hx ((Int32.ofNat i) + (1 : Int32)) (hb hby d3_70) (pc' := 73) (Ls' := #[.val (.ref a1), .val (.int (Int32.ofNat fN)), .val (.int (Int32.ofNat tN)), .val (.int (Int32.ofNat sN)), .val (.int ((Int32.ofNat i) + (1 : Int32)))]) rfl rfl rfl rfl ?_
                refine own_goto X_1 hx (hb hby d3_73) (pc' := 9) (by decide) (by decide) ?_
                have hH : ¬ own_H bs fN tN sN i := by simp [own_H, c_2, nc_2, c_3, c_4, c_5, c_6, nc_6]
                rw [show Int32.ofNat i + 1 = Int32.ofNat (i + 1) from (inc_ofNat i).symm]
                exact ih (i + 1) (by omega) (by omega) (by omega) (by omega) (fun q hq => (Nat.lt_succ_iff_lt_or_eq.mp hq).elim (hno q) (fun e => e ▸ hH))
              · skip
                have nc_6 : ¬ i < fN + 2 := fun q => c_6 ((own_s2lt (a := i) (b := fN) (by omega) (by omega)).mpr q)
                refine own_icmpN X_1 hx (hb hby d3_51) (XT.ii_lt_f c_6) (pc' := 54) rfl ?_
                refine own_aloadN X_1 hx (hb hby d3_54) (pc' := 55) rfl rfl rfl ?_
                refine own_iload X_1 hx (hb hby d3_55) (pc' := 57) rfl rfl ?_
                refine own_iconst X_1 hx (2) (hb hby d3_57) (pc' := 58) rfl rfl ?_
                refine own_isub X_1 hx (hb hby d3_58) (pc' := 59) rfl ?_
                rw [own_sub2 (a := i) (by omega) (by omega)]
                refine own_baload X_1 hx hZ eq_1 V_a (own_inb (a := i - 2) (by omega)) (own_vat (by omega)) (hb hby d3_59) (pc' := 60) rfl ?_
                refine own_bipush X_1 hx (10) (hb hby d3_60) (pc' := 62) rfl (by decide) ?_
                by_cases c_7 : (own_at bs (i - 2)) = (10 : Int32)
                · skip
                  refine own_icmpN X_1 hx (hb hby d3_62) (XT.ii_ne_f c_7) (pc' := 65) rfl ?_
                  refine own_iload X_1 hx (hb hby d3_65) (pc' := 67) rfl rfl ?_
                  refine own_iconst X_1 hx (1) (hb hby d3_67) (pc' := 68) rfl rfl ?_
                  refine own_iadd X_1 hx (hb hby d3_68) (pc' := 69) rfl ?_
                  refine own_retI X_1 hx hlk Bd.returns (hb hby d3_69) (by decide) (by decide) ?_
                  rw [eq_1]
                  exact ⟨⟨_, rfl, Or.inl ⟨i, by omega, (inc_ofNat i).symm, by simp [own_H, c_2, nc_2, c_3, c_4, c_5, c_6, nc_6, c_7] <;> omega, hno⟩⟩, N_1, rfl⟩
                · skip
                  refine own_icmpY X_1 hx (hb hby d3_62) (XT.ii_ne_t c_7) (pc' := 70) (by decide) (by decide) ?_
                  refine own_iinc X_1 hx ((Int32.ofNat i) + (1 : Int32)) (hb hby d3_70) (pc' := 73) (Ls' := #[.val (.ref a1), .val (.int (Int32.ofNat fN)), .val (.int (Int32.ofNat tN)), .val (.int (Int32.ofNat sN)), .val (.int ((Int32.ofNat i) + (1 : Int32)))]) rfl rfl rfl rfl ?_
                  refine own_goto X_1 hx (hb hby d3_73) (pc' := 9) (by decide) (by decide) ?_
                  have hH : ¬ own_H bs fN tN sN i := by simp [own_H, c_2, nc_2, c_3, c_4, c_5, c_6, nc_6, c_7]
                  rw [show Int32.ofNat i + 1 = Int32.ofNat (i + 1) from (inc_ofNat i).symm]
                  exact ih (i + 1) (by omega) (by omega) (by omega) (by omega) (fun q hq => (Nat.lt_succ_iff_lt_or_eq.mp hq).elim (hno q) (fun e => e ▸ hH))
            · skip
              refine own_icmpY X_1 hx (hb hby d3_43) (XT.ii_ne_t c_5) (pc' := 70) (by decide) (by decide) ?_
              refine own_iinc X_1 hx ((Int32.ofNat i) + (1 : Int32)) (hb hby d3_70) (pc' := 73) (Ls' := #[.val (.ref a1), .val (.int (Int32.ofNat fN)), .val (.int (Int32.ofNat tN)), .val (.int (Int32.ofNat sN)), .val (.int ((Int32.ofNat i) + (1 : Int32)))]) rfl rfl rfl rfl ?_
              refine own_goto X_1 hx (hb hby d3_73) (pc' := 9) (by decide) (by decide) ?_
              have hH : ¬ own_H bs fN tN sN i := by simp [own_H, c_2, nc_2, c_3, c_4, c_5]
              rw [show Int32.ofNat i + 1 = Int32.ofNat (i + 1) from (inc_ofNat i).symm]
              exact ih (i + 1) (by omega) (by omega) (by omega) (by omega) (fun q hq => (Nat.lt_succ_iff_lt_or_eq.mp hq).elim (hno q) (fun e => e ▸ hH))
        · skip
          refine own_icmpY X_1 hx (hb hby d3_21) (XT.ii_ne_t c_3) (pc' := 70) (by decide) (by decide) ?_
          refine own_iinc X_1 hx ((Int32.ofNat i) + (1 : Int32)) (hb hby d3_70) (pc' := 73) (Ls' := #[.val (.ref a1), .val (.int (Int32.ofNat fN)), .val (.int (Int32.ofNat tN)), .val (.int (Int32.ofNat sN)), .val (.int ((Int32.ofNat i) + (1 : Int32)))]) rfl rfl rfl rfl ?_
          refine own_goto X_1 hx (hb hby d3_73) (pc' := 9) (by decide) (by decide) ?_
          have hH : ¬ own_H bs fN tN sN i := by simp [own_H, c_2, nc_2, c_3]
          rw [show Int32.ofNat i + 1 = Int32.ofNat (i + 1) from (inc_ofNat i).symm]
          exact ih (i + 1) (by omega) (by omega) (by omega) (by omega) (fun q hq => (Nat.lt_succ_iff_lt_or_eq.mp hq).elim (hno q) (fun e => e ▸ hH))
      · skip
        have nc_2 : ¬ i < tN := fun q => c_2 ((own_lt8 (a := i) (b := tN) (by omega) (by omega)).mpr q)
        refine own_icmpY X_1 hx (hb hby d3_12) (XT.ii_ge_t c_2) (pc' := 76) (by decide) (by decide) ?_
        refine own_iconst X_1 hx (-1) (hb hby d3_76) (pc' := 77) rfl rfl ?_
        refine own_retI X_1 hx hlk Bd.returns (hb hby d3_77) (by decide) (by decide) ?_
        rw [eq_1]
        exact ⟨⟨_, rfl, Or.inr ⟨rfl, fun q hq hh => (Nat.lt_or_ge q i).elim (fun g => hno q g hh) (fun g => absurd hh.2.1 (by omega))⟩⟩, N_1, rfl⟩
  exact loop (8 - max sN (fN + 1)) (max sN (fN + 1)) (by omega) (by omega) (by omega) (by omega) (fun q hq hh => by have := hh.1; have := hh.2.2.2; omega)
theorem d4_0 : decode method_4_code 0 = .ok (.iload 4, 2) := by decide +kernel
theorem d4_2 : decode method_4_code 2 = .ok (.iload_n 3, 1) := by decide +kernel
theorem d4_3 : decode method_4_code 3 = .ok (.if_icmp .lt 18, 3) := by decide +kernel
theorem d4_21 : decode method_4_code 21 = .ok (.iconst 0, 1) := by decide +kernel
theorem d4_22 : decode method_4_code 22 = .ok (.ireturn, 1) := by decide +kernel
theorem d4_6 : decode method_4_code 6 = .ok (.iload 4, 2) := by decide +kernel
theorem d4_8 : decode method_4_code 8 = .ok (.iload_n 2, 1) := by decide +kernel
theorem d4_9 : decode method_4_code 9 = .ok (.if_icmp .ge 12, 3) := by decide +kernel
theorem d4_12 : decode method_4_code 12 = .ok (.aload_n 0, 1) := by decide +kernel
theorem d4_13 : decode method_4_code 13 = .ok (.iload 4, 2) := by decide +kernel
theorem d4_15 : decode method_4_code 15 = .ok (.baload, 1) := by decide +kernel
theorem d4_16 : decode method_4_code 16 = .ok (.bipush 10, 2) := by decide +kernel
theorem d4_18 : decode method_4_code 18 = .ok (.if_icmp .eq 5, 3) := by decide +kernel
theorem d4_23 : decode method_4_code 23 = .ok (.iload 4, 2) := by decide +kernel
theorem d4_25 : decode method_4_code 25 = .ok (.iconst 1, 1) := by decide +kernel
theorem d4_26 : decode method_4_code 26 = .ok (.isub, 1) := by decide +kernel
theorem d4_27 : decode method_4_code 27 = .ok (.iload_n 1, 1) := by decide +kernel
theorem d4_28 : decode method_4_code 28 = .ok (.if_icmp .lt 18, 3) := by decide +kernel
theorem d4_46 : decode method_4_code 46 = .ok (.iconst 0, 1) := by decide +kernel
theorem d4_47 : decode method_4_code 47 = .ok (.istore 5, 2) := by decide +kernel
theorem d4_49 : decode method_4_code 49 = .ok (.iload 4, 2) := by decide +kernel
theorem d4_51 : decode method_4_code 51 = .ok (.iconst 2, 1) := by decide +kernel
theorem d4_52 : decode method_4_code 52 = .ok (.isub, 1) := by decide +kernel
theorem d4_53 : decode method_4_code 53 = .ok (.iload_n 1, 1) := by decide +kernel
theorem d4_54 : decode method_4_code 54 = .ok (.if_icmp .lt 29, 3) := by decide +kernel
theorem d4_83 : decode method_4_code 83 = .ok (.iconst 0, 1) := by decide +kernel
theorem d4_84 : decode method_4_code 84 = .ok (.istore 6, 2) := by decide +kernel
theorem d4_86 : decode method_4_code 86 = .ok (.iload 5, 2) := by decide +kernel
theorem d4_88 : decode method_4_code 88 = .ok (.ifCond .ne 8, 3) := by decide +kernel
theorem d4_91 : decode method_4_code 91 = .ok (.iload 6, 2) := by decide +kernel
theorem d4_93 : decode method_4_code 93 = .ok (.ifCond .eq 7, 3) := by decide +kernel
theorem d4_100 : decode method_4_code 100 = .ok (.iconst 0, 1) := by decide +kernel
theorem d4_101 : decode method_4_code 101 = .ok (.ireturn, 1) := by decide +kernel
theorem d4_57 : decode method_4_code 57 = .ok (.aload_n 0, 1) := by decide +kernel
theorem d4_58 : decode method_4_code 58 = .ok (.iload 4, 2) := by decide +kernel
theorem d4_60 : decode method_4_code 60 = .ok (.iconst 1, 1) := by decide +kernel
theorem d4_61 : decode method_4_code 61 = .ok (.isub, 1) := by decide +kernel
theorem d4_62 : decode method_4_code 62 = .ok (.baload, 1) := by decide +kernel
theorem d4_63 : decode method_4_code 63 = .ok (.bipush 13, 2) := by decide +kernel
theorem d4_65 : decode method_4_code 65 = .ok (.if_icmp .ne 18, 3) := by decide +kernel
theorem d4_68 : decode method_4_code 68 = .ok (.aload_n 0, 1) := by decide +kernel
theorem d4_69 : decode method_4_code 69 = .ok (.iload 4, 2) := by decide +kernel
theorem d4_71 : decode method_4_code 71 = .ok (.iconst 2, 1) := by decide +kernel
theorem d4_72 : decode method_4_code 72 = .ok (.isub, 1) := by decide +kernel
theorem d4_73 : decode method_4_code 73 = .ok (.baload, 1) := by decide +kernel
theorem d4_74 : decode method_4_code 74 = .ok (.bipush 10, 2) := by decide +kernel
theorem d4_76 : decode method_4_code 76 = .ok (.if_icmp .ne 7, 3) := by decide +kernel
theorem d4_79 : decode method_4_code 79 = .ok (.iconst 1, 1) := by decide +kernel
theorem d4_80 : decode method_4_code 80 = .ok (.goto 4, 3) := by decide +kernel
theorem d4_96 : decode method_4_code 96 = .ok (.iconst 1, 1) := by decide +kernel
theorem d4_97 : decode method_4_code 97 = .ok (.goto 4, 3) := by decide +kernel
theorem d4_31 : decode method_4_code 31 = .ok (.aload_n 0, 1) := by decide +kernel
theorem d4_32 : decode method_4_code 32 = .ok (.iload 4, 2) := by decide +kernel
theorem d4_34 : decode method_4_code 34 = .ok (.iconst 1, 1) := by decide +kernel
theorem d4_35 : decode method_4_code 35 = .ok (.isub, 1) := by decide +kernel
theorem d4_36 : decode method_4_code 36 = .ok (.baload, 1) := by decide +kernel
theorem d4_37 : decode method_4_code 37 = .ok (.bipush 10, 2) := by decide +kernel
theorem d4_39 : decode method_4_code 39 = .ok (.if_icmp .ne 7, 3) := by decide +kernel
theorem d4_42 : decode method_4_code 42 = .ok (.iconst 1, 1) := by decide +kernel
theorem d4_43 : decode method_4_code 43 = .ok (.goto 4, 3) := by decide +kernel
theorem pn4 : plainFor (⟨"com/example/nodeweave/nodeweave/server/MessageHeadEndPinLaw", "hit", "([BIIII)Z"⟩ : MethodName) = true := by first | exact plainFor_of_name (by first | (simp [plainName, overriddenIn]; done) | decide +kernel) | decide +kernel
theorem ef4 (m : MethodId) (a1 : Addr) (fN : Nat) (tN : Nat) (sN : Nat) (pN : Nat) : entryFrame m #[(.ref a1), (.int (Int32.ofNat fN)), (.int (Int32.ofNat tN)), (.int (Int32.ofNat sN)), (.int (Int32.ofNat pN))] 7 = mkF m 0 #[.val (.ref a1), .val (.int (Int32.ofNat fN)), .val (.int (Int32.ofNat tN)), .val (.int (Int32.ofNat sN)), .val (.int (Int32.ofNat pN)), .unset, .unset] [] := by first | (simp [entryFrame, mkF, argsToLocals, Value.category]; done) | rfl
def Q4 (Z : State) (a1 : Addr) (fN : Nat) (tN : Nat) (sN : Nat) (pN : Nat) (kc : ClassId) (bs : List Int32) (h0 : Heap) (n0 : Nat) (v : Option Value) (h : Heap) (L : List Loc) : Prop := v = some (.int (own_b (own_H bs fN tN sN pN))) ∧ Fr n0 L ∧ h = h0
set_option maxRecDepth 65536 in
set_option maxHeartbeats 40000000 in
theorem rm4 (l : Launch) (Z : State) (a0 : Array Value) (hw : ∀ d ∈ tables_1, d.before a0 Z = true) (ws : List Jvm.Cond) (a1 : Addr) (fN : Nat) (tN : Nat) (sN : Nat) (pN : Nat) (kc : ClassId) (bs : List Int32) (h0 : Heap) (n0 : Nat) (Z0 : n0 ≤ h0.size) (V_a : Arv Z h0 a1 kc .byte (6 : Int32) (bs.map Value.int) (.int (0 : Int32))) (hfN : fN ≤ 6) (htN : tN ≤ 6) (hsN : sN ≤ 6) (hpN : pN ≤ 5) :
    MetFree l (⟨"com/example/nodeweave/nodeweave/server/MessageHeadEndPinLaw", "hit", "([BIIII)Z"⟩ : MethodName) (head1 (Jvm.Cond.code (⟨"com/example/nodeweave/nodeweave/server/MessageHeadEndPinLaw", "hit", "([BIIII)Z"⟩ : MethodName) method_4_code 7 (some .boolean) :: ws) ({ frames := 0, cells := 0, slots := 0, locals := 0 } : Room)) (fun a U => a = #[(.ref a1), (.int (Int32.ofNat fN)), (.int (Int32.ofNat tN)), (.int (Int32.ofNat sN)), (.int (Int32.ofNat pN))] ∧ Z.Warmed39 U.vm ∧ U.heap = h0) (fun _ _ _ _ _ => True) (fun _ U o U' => ∃ v L, o = .returned v ∧ Q4 Z a1 fN tN sN pN kc bs h0 n0 v U'.heap L ∧ FrameEnd U o U' L ({ frames := 0, cells := 0, slots := 0, locals := 0 } : Room).cells ({ frames := 0, cells := 0, slots := 0, locals := 0 } : Room).slots) := by
  refine MetFree.of_bodySF pn4 hisR ?_
  intro p e s m args below meth c s₁ Bd hml0 hP hK
  obtain ⟨rfl, hZ, hh⟩ := hP
  have hx := Bd.exec
  have hby := Bd.bytes
  have hlk : meth.locks = false := BodyLoose.notSynchronized Bd
  have hml : c.maxLocals = 7 := hml0
  have hown : s.vm.findClass "com/example/nodeweave/nodeweave/server/MessageHeadEndPinLaw" = some m.cls := findClass_of_methodNamed Bd.named
  have hnm := (name_of_methodNamed Bd.named Bd.method).1
  have X0 : Stand p l e ({ frames := 0, cells := 0, slots := 0, locals := 0 } : Room) s m #[(.ref a1), (.int (Int32.ofNat fN)), (.int (Int32.ofNat tN)), (.int (Int32.ofNat sN)), (.int (Int32.ofNat pN))] below meth c s₁ [] 0 0 := Stand.of_body Bd
  have e0 : s₁.heap = h0 := by rw [← hh, Bd.state]; rfl
  have N0 := Fr.nil n0
  rw [ef4 m a1 fN tN sN pN]
  show own_Go p e below (own_End s (Q4 Z a1 fN tN sN pN kc bs h0 n0) ({ frames := 0, cells := 0, slots := 0, locals := 0 } : Room).cells ({ frames := 0, cells := 0, slots := 0, locals := 0 } : Room).slots) s₁ (mkF m 0 #[.val (.ref a1), .val (.int (Int32.ofNat fN)), .val (.int (Int32.ofNat tN)), .val (.int (Int32.ofNat sN)), .val (.int (Int32.ofNat pN)), .unset, .unset] [])
  refine own_iload X0 hx (hb hby d4_0) (pc' := 2) rfl rfl ?_
  refine own_iloadN X0 hx (hb hby d4_2) (pc' := 3) rfl rfl ?_
  by_cases c_1 : (Int32.ofNat pN) < (Int32.ofNat sN)
  · skip
    have nc_1 : pN < sN := (own_lt8 (a := pN) (b := sN) (by omega) (by omega)).mp c_1
    refine own_icmpY X0 hx (hb hby d4_3) (XT.ii_lt_t c_1) (pc' := 21) (by decide) (by decide) ?_
    refine own_iconst X0 hx (0) (hb hby d4_21) (pc' := 22) rfl rfl ?_
    refine own_retZ X0 hx hlk Bd.returns (by simp) (hb hby d4_22) (by decide) (by decide) ?_
    rw [e0]
    exact ⟨by simp [own_b, nar, own_H, c_1, nc_1], N0, rfl⟩
  · skip
    have nc_1 : ¬ pN < sN := fun q => c_1 ((own_lt8 (a := pN) (b := sN) (by omega) (by omega)).mpr q)
    refine own_icmpN X0 hx (hb hby d4_3) (XT.ii_lt_f c_1) (pc' := 6) rfl ?_
    refine own_iload X0 hx (hb hby d4_6) (pc' := 8) rfl rfl ?_
    refine own_iloadN X0 hx (hb hby d4_8) (pc' := 9) rfl rfl ?_
    by_cases c_2 : (Int32.ofNat pN) < (Int32.ofNat tN)
    · skip
      have nc_2 : pN < tN := (own_lt8 (a := pN) (b := tN) (by omega) (by omega)).mp c_2
      refine own_icmpN X0 hx (hb hby d4_9) (XT.ii_ge_f c_2) (pc' := 12) rfl ?_
      refine own_aloadN X0 hx (hb hby d4_12) (pc' := 13) rfl rfl rfl ?_
      refine own_iload X0 hx (hb hby d4_13) (pc' := 15) rfl rfl ?_
      refine own_baload X0 hx hZ e0 V_a (own_inb (a := pN) (by omega)) (own_vat (by omega)) (hb hby d4_15) (pc' := 16) rfl ?_
      refine own_bipush X0 hx (10) (hb hby d4_16) (pc' := 18) rfl (by decide) ?_
      by_cases c_3 : (own_at bs pN) = (10 : Int32)
      · skip
        refine own_icmpY X0 hx (hb hby d4_18) (XT.ii_eq_t c_3) (pc' := 23) (by decide) (by decide) ?_
        refine own_iload X0 hx (hb hby d4_23) (pc' := 25) rfl rfl ?_
        refine own_iconst X0 hx (1) (hb hby d4_25) (pc' := 26) rfl rfl ?_
        refine own_isub X0 hx (hb hby d4_26) (pc' := 27) rfl ?_
        refine own_iloadN X0 hx (hb hby d4_27) (pc' := 28) rfl rfl ?_
        by_cases c_4 : ((Int32.ofNat pN) - (1 : Int32)) < (Int32.ofNat fN)
        · skip
          have nc_4 : pN < fN + 1 := (own_s1lt (a := pN) (b := fN) (by omega) (by omega)).mp c_4
          refine own_icmpY X0 hx (hb hby d4_28) (XT.ii_lt_t c_4) (pc' := 46) (by decide) (by decide) ?_
          refine own_iconst X0 hx (0) (hb hby d4_46) (pc' := 47) rfl rfl ?_
          refine own_istore X0 hx (hb hby d4_47) (pc' := 49) (Ls' := #[.val (.ref a1), .val (.int (Int32.ofNat fN)), .val (.int (Int32.ofNat tN)), .val (.int (Int32.ofNat sN)), .val (.int (Int32.ofNat pN)), .val (.int (0 : Int32)), .unset]) rfl rfl ?_
          refine own_iload X0 hx (hb hby d4_49) (pc' := 51) rfl rfl ?_
          refine own_iconst X0 hx (2) (hb hby d4_51) (pc' := 52) rfl rfl ?_
          refine own_isub X0 hx (hb hby d4_52) (pc' := 53) rfl ?_
          refine own_iloadN X0 hx (hb hby d4_53) (pc' := 54) rfl rfl ?_
          by_cases c_5 : ((Int32.ofNat pN) - (2 : Int32)) < (Int32.ofNat fN)
          · skip
            have nc_5 : pN < fN + 2 := (own_s2lt (a := pN) (b := fN) (by omega) (by omega)).mp c_5
            refine own_icmpY X0 hx (hb hby d4_54) (XT.ii_lt_t c_5) (pc' := 83) (by decide) (by decide) ?_
            refine own_iconst X0 hx (0) (hb hby d4_83) (pc' := 84) rfl rfl ?_
            refine own_istore X0 hx (hb hby d4_84) (pc' := 86) (Ls' := #[.val (.ref a1), .val (.int (Int32.ofNat fN)), .val (.int (Int32.ofNat tN)), .val (.int (Int32.ofNat sN)), .val (.int (Int32.ofNat pN)), .val (.int (0 : Int32)), .val (.int (0 : Int32))]) rfl rfl ?_
            refine own_iload X0 hx (hb hby d4_86) (pc' := 88) rfl rfl ?_
            refine own_ifN X0 hx (hb hby d4_88) (by decide) (pc' := 91) rfl ?_
            refine own_iload X0 hx (hb hby d4_91) (pc' := 93) rfl rfl ?_
            refine own_ifY X0 hx (hb hby d4_93) (by decide) (pc' := 100) (by decide) (by decide) ?_
            refine own_iconst X0 hx (0) (hb hby d4_100) (pc' := 101) rfl rfl ?_
            refine own_retZ X0 hx hlk Bd.returns (by simp) (hb hby d4_101) (by decide) (by decide) ?_
            rw [e0]
            exact ⟨by simp [own_b, nar, own_H, c_1, nc_1, c_2, nc_2, c_3, c_4, nc_4, c_5, nc_5], N0, rfl⟩
          · skip
            have nc_5 : ¬ pN < fN + 2 := fun q => c_5 ((own_s2lt (a := pN) (b := fN) (by omega) (by omega)).mpr q)
            refine own_icmpN X0 hx (hb hby d4_54) (XT.ii_lt_f c_5) (pc' := 57) rfl ?_
            refine own_aloadN X0 hx (hb hby d4_57) (pc' := 58) rfl rfl rfl ?_
            refine own_iload X0 hx (hb hby d4_58) (pc' := 60) rfl rfl ?_
            refine own_iconst X0 hx (1) (hb hby d4_60) (pc' := 61) rfl rfl ?_
            refine own_isub X0 hx (hb hby d4_61) (pc' := 62) rfl ?_
            rw [own_sub1 (a := pN) (by omega) (by omega)]
            refine own_baload X0 hx hZ e0 V_a (own_inb (a := pN - 1) (by omega)) (own_vat (by omega)) (hb hby d4_62) (pc' := 63) rfl ?_
            refine own_bipush X0 hx (13) (hb hby d4_63) (pc' := 65) rfl (by decide) ?_
            by_cases c_6 : (own_at bs (pN - 1)) = (13 : Int32)
            · skip
              refine own_icmpN X0 hx (hb hby d4_65) (XT.ii_ne_f c_6) (pc' := 68) rfl ?_
              refine own_aloadN X0 hx (hb hby d4_68) (pc' := 69) rfl rfl rfl ?_
              refine own_iload X0 hx (hb hby d4_69) (pc' := 71) rfl rfl ?_
              refine own_iconst X0 hx (2) (hb hby d4_71) (pc' := 72) rfl rfl ?_
              refine own_isub X0 hx (hb hby d4_72) (pc' := 73) rfl ?_
              rw [own_sub2 (a := pN) (by omega) (by omega)]
              refine own_baload X0 hx hZ e0 V_a (own_inb (a := pN - 2) (by omega)) (own_vat (by omega)) (hb hby d4_73) (pc' := 74) rfl ?_
              refine own_bipush X0 hx (10) (hb hby d4_74) (pc' := 76) rfl (by decide) ?_
              by_cases c_7 : (own_at bs (pN - 2)) = (10 : Int32)
              · skip
                refine own_icmpN X0 hx (hb hby d4_76) (XT.ii_ne_f c_7) (pc' := 79) rfl ?_
                refine own_iconst X0 hx (1) (hb hby d4_79) (pc' := 80) rfl rfl ?_
                refine own_goto X0 hx (hb hby d4_80) (pc' := 84) (by decide) (by decide) ?_
                refine own_istore X0 hx (hb hby d4_84) (pc' := 86) (Ls' := #[.val (.ref a1), .val (.int (Int32.ofNat fN)), .val (.int (Int32.ofNat tN)), .val (.int (Int32.ofNat sN)), .val (.int (Int32.ofNat pN)), .val (.int (0 : Int32)), .val (.int (1 : Int32))]) rfl rfl ?_
                refine own_iload X0 hx (hb hby d4_86) (pc' := 88) rfl rfl ?_
                refine own_ifN X0 hx (hb hby d4_88) (by decide) (pc' := 91) rfl ?_
                refine own_iload X0 hx (hb hby d4_91) (pc' := 93) rfl rfl ?_
                refine own_ifN X0 hx (hb hby d4_93) (by decide) (pc' := 96) rfl ?_
                refine own_iconst X0 hx (1) (hb hby d4_96) (pc' := 97) rfl rfl ?_
                refine own_goto X0 hx (hb hby d4_97) (pc' := 101) (by decide) (by decide) ?_
                refine own_retZ X0 hx hlk Bd.returns (by simp) (hb hby d4_101) (by decide) (by decide) ?_
                rw [e0]
                exact ⟨by simp [own_b, nar, own_H, c_1, nc_1, c_2, nc_2, c_3, c_4, nc_4, c_5, nc_5, c_6, c_7], N0, rfl⟩
              · skip
                refine own_icmpY X0 hx (hb hby d4_76) (XT.ii_ne_t c_7) (pc' := 83) (by decide) (by decide) ?_
                refine own_iconst X0 hx (0) (hb hby d4_83) (pc' := 84) rfl rfl ?_
                refine own_istore X0 hx (hb hby d4_84) (pc' := 86) (Ls' := #[.val (.ref a1), .val (.int (Int32.ofNat fN)), .val (.int (Int32.ofNat tN)), .val (.int (Int32.ofNat sN)), .val (.int (Int32.ofNat pN)), .val (.int (0 : Int32)), .val (.int (0 : Int32))]) rfl rfl ?_
                refine own_iload X0 hx (hb hby d4_86) (pc' := 88) rfl rfl ?_
                refine own_ifN X0 hx (hb hby d4_88) (by decide) (pc' := 91) rfl ?_
                refine own_iload X0 hx (hb hby d4_91) (pc' := 93) rfl rfl ?_
                refine own_ifY X0 hx (hb hby d4_93) (by decide) (pc' := 100) (by decide) (by decide) ?_
                refine own_iconst X0 hx (0) (hb hby d4_100) (pc' := 101) rfl rfl ?_
                refine own_retZ X0 hx hlk Bd.returns (by simp) (hb hby d4_101) (by decide) (by decide) ?_
                rw [e0]
                exact ⟨by simp [own_b, nar, own_H, c_1, nc_1, c_2, nc_2, c_3, c_4, nc_4, c_5, nc_5, c_6, c_7], N0, rfl⟩
            · skip
              refine own_icmpY X0 hx (hb hby d4_65) (XT.ii_ne_t c_6) (pc' := 83) (by decide) (by decide) ?_
              refine own_iconst X0 hx (0) (hb hby d4_83) (pc' := 84) rfl rfl ?_
              refine own_istore X0 hx (hb hby d4_84) (pc' := 86) (Ls' := #[.val (.ref a1), .val (.int (Int32.ofNat fN)), .val (.int (Int32.ofNat tN)), .val (.int (Int32.ofNat sN)), .val (.int (Int32.ofNat pN)), .val (.int (0 : Int32)), .val (.int (0 : Int32))]) rfl rfl ?_
              refine own_iload X0 hx (hb hby d4_86) (pc' := 88) rfl rfl ?_
              refine own_ifN X0 hx (hb hby d4_88) (by decide) (pc' := 91) rfl ?_
              refine own_iload X0 hx (hb hby d4_91) (pc' := 93) rfl rfl ?_
              refine own_ifY X0 hx (hb hby d4_93) (by decide) (pc' := 100) (by decide) (by decide) ?_
              refine own_iconst X0 hx (0) (hb hby d4_100) (pc' := 101) rfl rfl ?_
              refine own_retZ X0 hx hlk Bd.returns (by simp) (hb hby d4_101) (by decide) (by decide) ?_
              rw [e0]
              exact ⟨by simp [own_b, nar, own_H, c_1, nc_1, c_2, nc_2, c_3, c_4, nc_4, c_5, nc_5, c_6], N0, rfl⟩
        · skip
          have nc_4 : ¬ pN < fN + 1 := fun q => c_4 ((own_s1lt (a := pN) (b := fN) (by omega) (by omega)).mpr q)
          refine own_icmpN X0 hx (hb hby d4_28) (XT.ii_lt_f c_4) (pc' := 31) rfl ?_
          refine own_aloadN X0 hx (hb hby d4_31) (pc' := 32) rfl rfl rfl ?_
          refine own_iload X0 hx (hb hby d4_32) (pc' := 34) rfl rfl ?_
          refine own_iconst X0 hx (1) (hb hby d4_34) (pc' := 35) rfl rfl ?_
          refine own_isub X0 hx (hb hby d4_35) (pc' := 36) rfl ?_
          rw [own_sub1 (a := pN) (by omega) (by omega)]
          refine own_baload X0 hx hZ e0 V_a (own_inb (a := pN - 1) (by omega)) (own_vat (by omega)) (hb hby d4_36) (pc' := 37) rfl ?_
          refine own_bipush X0 hx (10) (hb hby d4_37) (pc' := 39) rfl (by decide) ?_
          by_cases c_8 : (own_at bs (pN - 1)) = (10 : Int32)
          · skip
            refine own_icmpN X0 hx (hb hby d4_39) (XT.ii_ne_f c_8) (pc' := 42) rfl ?_
            refine own_iconst X0 hx (1) (hb hby d4_42) (pc' := 43) rfl rfl ?_
            refine own_goto X0 hx (hb hby d4_43) (pc' := 47) (by decide) (by decide) ?_
            refine own_istore X0 hx (hb hby d4_47) (pc' := 49) (Ls' := #[.val (.ref a1), .val (.int (Int32.ofNat fN)), .val (.int (Int32.ofNat tN)), .val (.int (Int32.ofNat sN)), .val (.int (Int32.ofNat pN)), .val (.int (1 : Int32)), .unset]) rfl rfl ?_
            refine own_iload X0 hx (hb hby d4_49) (pc' := 51) rfl rfl ?_
            refine own_iconst X0 hx (2) (hb hby d4_51) (pc' := 52) rfl rfl ?_
            refine own_isub X0 hx (hb hby d4_52) (pc' := 53) rfl ?_
            refine own_iloadN X0 hx (hb hby d4_53) (pc' := 54) rfl rfl ?_
            by_cases c_9 : ((Int32.ofNat pN) - (2 : Int32)) < (Int32.ofNat fN)
            · skip
              have nc_9 : pN < fN + 2 := (own_s2lt (a := pN) (b := fN) (by omega) (by omega)).mp c_9
              refine own_icmpY X0 hx (hb hby d4_54) (XT.ii_lt_t c_9) (pc' := 83) (by decide) (by decide) ?_
              refine own_iconst X0 hx (0) (hb hby d4_83) (pc' := 84) rfl rfl ?_
              refine own_istore X0 hx (hb hby d4_84) (pc' := 86) (Ls' := #[.val (.ref a1), .val (.int (Int32.ofNat fN)), .val (.int (Int32.ofNat tN)), .val (.int (Int32.ofNat sN)), .val (.int (Int32.ofNat pN)), .val (.int (1 : Int32)), .val (.int (0 : Int32))]) rfl rfl ?_
              refine own_iload X0 hx (hb hby d4_86) (pc' := 88) rfl rfl ?_
              refine own_ifY X0 hx (hb hby d4_88) (by decide) (pc' := 96) (by decide) (by decide) ?_
              refine own_iconst X0 hx (1) (hb hby d4_96) (pc' := 97) rfl rfl ?_
              refine own_goto X0 hx (hb hby d4_97) (pc' := 101) (by decide) (by decide) ?_
              refine own_retZ X0 hx hlk Bd.returns (by simp) (hb hby d4_101) (by decide) (by decide) ?_
              rw [e0]
              exact ⟨by simp [own_b, nar, own_H, c_1, nc_1, c_2, nc_2, c_3, c_4, nc_4, c_8, c_9, nc_9], N0, rfl⟩
            · skip
              have nc_9 : ¬ pN < fN + 2 := fun q => c_9 ((own_s2lt (a := pN) (b := fN) (by omega) (by omega)).mpr q)
              refine own_icmpN X0 hx (hb hby d4_54) (XT.ii_lt_f c_9) (pc' := 57) rfl ?_
              refine own_aloadN X0 hx (hb hby d4_57) (pc' := 58) rfl rfl rfl ?_
              refine own_iload X0 hx (hb hby d4_58) (pc' := 60) rfl rfl ?_
              refine own_iconst X0 hx (1) (hb hby d4_60) (pc' := 61) rfl rfl ?_
              refine own_isub X0 hx (hb hby d4_61) (pc' := 62) rfl ?_
              rw [own_sub1 (a := pN) (by omega) (by omega)]
              refine own_baload X0 hx hZ e0 V_a (own_inb (a := pN - 1) (by omega)) (own_vat (by omega)) (hb hby d4_62) (pc' := 63) rfl ?_
              refine own_bipush X0 hx (13) (hb hby d4_63) (pc' := 65) rfl (by decide) ?_
              by_cases c_10 : (own_at bs (pN - 1)) = (13 : Int32)
              · skip
                exact absurd (c_8.symm.trans c_10) (by decide)
              · skip
                refine own_icmpY X0 hx (hb hby d4_65) (XT.ii_ne_t c_10) (pc' := 83) (by decide) (by decide) ?_
                refine own_iconst X0 hx (0) (hb hby d4_83) (pc' := 84) rfl rfl ?_
                refine own_istore X0 hx (hb hby d4_84) (pc' := 86) (Ls' := #[.val (.ref a1), .val (.int (Int32.ofNat fN)), .val (.int (Int32.ofNat tN)), .val (.int (Int32.ofNat sN)), .val (.int (Int32.ofNat pN)), .val (.int (1 : Int32)), .val (.int (0 : Int32))]) rfl rfl ?_
                refine own_iload X0 hx (hb hby d4_86) (pc' := 88) rfl rfl ?_
                refine own_ifY X0 hx (hb hby d4_88) (by decide) (pc' := 96) (by decide) (by decide) ?_
                refine own_iconst X0 hx (1) (hb hby d4_96) (pc' := 97) rfl rfl ?_
                refine own_goto X0 hx (hb hby d4_97) (pc' := 101) (by decide) (by decide) ?_
                refine own_retZ X0 hx hlk Bd.returns (by simp) (hb hby d4_101) (by decide) (by decide) ?_
                rw [e0]
                exact ⟨by simp [own_b, nar, own_H, c_1, nc_1, c_2, nc_2, c_3, c_4, nc_4, c_8, c_9, nc_9, c_10], N0, rfl⟩
          · skip
            refine own_icmpY X0 hx (hb hby d4_39) (XT.ii_ne_t c_8) (pc' := 46) (by decide) (by decide) ?_
            refine own_iconst X0 hx (0) (hb hby d4_46) (pc' := 47) rfl rfl ?_
            refine own_istore X0 hx (hb hby d4_47) (pc' := 49) (Ls' := #[.val (.ref a1), .val (.int (Int32.ofNat fN)), .val (.int (Int32.ofNat tN)), .val (.int (Int32.ofNat sN)), .val (.int (Int32.ofNat pN)), .val (.int (0 : Int32)), .unset]) rfl rfl ?_
            refine own_iload X0 hx (hb hby d4_49) (pc' := 51) rfl rfl ?_
            refine own_iconst X0 hx (2) (hb hby d4_51) (pc' := 52) rfl rfl ?_
            refine own_isub X0 hx (hb hby d4_52) (pc' := 53) rfl ?_
            refine own_iloadN X0 hx (hb hby d4_53) (pc' := 54) rfl rfl ?_
            by_cases c_11 : ((Int32.ofNat pN) - (2 : Int32)) < (Int32.ofNat fN)
            · skip
              have nc_11 : pN < fN + 2 := (own_s2lt (a := pN) (b := fN) (by omega) (by omega)).mp c_11
              refine own_icmpY X0 hx (hb hby d4_54) (XT.ii_lt_t c_11) (pc' := 83) (by decide) (by decide) ?_
              refine own_iconst X0 hx (0) (hb hby d4_83) (pc' := 84) rfl rfl ?_
              refine own_istore X0 hx (hb hby d4_84) (pc' := 86) (Ls' := #[.val (.ref a1), .val (.int (Int32.ofNat fN)), .val (.int (Int32.ofNat tN)), .val (.int (Int32.ofNat sN)), .val (.int (Int32.ofNat pN)), .val (.int (0 : Int32)), .val (.int (0 : Int32))]) rfl rfl ?_
              refine own_iload X0 hx (hb hby d4_86) (pc' := 88) rfl rfl ?_
              refine own_ifN X0 hx (hb hby d4_88) (by decide) (pc' := 91) rfl ?_
              refine own_iload X0 hx (hb hby d4_91) (pc' := 93) rfl rfl ?_
              refine own_ifY X0 hx (hb hby d4_93) (by decide) (pc' := 100) (by decide) (by decide) ?_
              refine own_iconst X0 hx (0) (hb hby d4_100) (pc' := 101) rfl rfl ?_
              refine own_retZ X0 hx hlk Bd.returns (by simp) (hb hby d4_101) (by decide) (by decide) ?_
              rw [e0]
              exact ⟨by simp [own_b, nar, own_H, c_1, nc_1, c_2, nc_2, c_3, c_4, nc_4, c_8, c_11, nc_11], N0, rfl⟩
            · skip
              have nc_11 : ¬ pN < fN + 2 := fun q => c_11 ((own_s2lt (a := pN) (b := fN) (by omega) (by omega)).mpr q)
              refine own_icmpN X0 hx (hb hby d4_54) (XT.ii_lt_f c_11) (pc' := 57) rfl ?_
              refine own_aloadN X0 hx (hb hby d4_57) (pc' := 58) rfl rfl rfl ?_
              refine own_iload X0 hx (hb hby d4_58) (pc' := 60) rfl rfl ?_
              refine own_iconst X0 hx (1) (hb hby d4_60) (pc' := 61) rfl rfl ?_
              refine own_isub X0 hx (hb hby d4_61) (pc' := 62) rfl ?_
              rw [own_sub1 (a := pN) (by omega) (by omega)]
              refine own_baload X0 hx hZ e0 V_a (own_inb (a := pN - 1) (by omega)) (own_vat (by omega)) (hb hby d4_62) (pc' := 63) rfl ?_
              refine own_bipush X0 hx (13) (hb hby d4_63) (pc' := 65) rfl (by decide) ?_
              by_cases c_12 : (own_at bs (pN - 1)) = (13 : Int32)
              · skip
                refine own_icmpN X0 hx (hb hby d4_65) (XT.ii_ne_f c_12) (pc' := 68) rfl ?_
                refine own_aloadN X0 hx (hb hby d4_68) (pc' := 69) rfl rfl rfl ?_
                refine own_iload X0 hx (hb hby d4_69) (pc' := 71) rfl rfl ?_
                refine own_iconst X0 hx (2) (hb hby d4_71) (pc' := 72) rfl rfl ?_
                refine own_isub X0 hx (hb hby d4_72) (pc' := 73) rfl ?_
                rw [own_sub2 (a := pN) (by omega) (by omega)]
                refine own_baload X0 hx hZ e0 V_a (own_inb (a := pN - 2) (by omega)) (own_vat (by omega)) (hb hby d4_73) (pc' := 74) rfl ?_
                refine own_bipush X0 hx (10) (hb hby d4_74) (pc' := 76) rfl (by decide) ?_
                by_cases c_13 : (own_at bs (pN - 2)) = (10 : Int32)
                · skip
                  refine own_icmpN X0 hx (hb hby d4_76) (XT.ii_ne_f c_13) (pc' := 79) rfl ?_
                  refine own_iconst X0 hx (1) (hb hby d4_79) (pc' := 80) rfl rfl ?_
                  refine own_goto X0 hx (hb hby d4_80) (pc' := 84) (by decide) (by decide) ?_
                  refine own_istore X0 hx (hb hby d4_84) (pc' := 86) (Ls' := #[.val (.ref a1), .val (.int (Int32.ofNat fN)), .val (.int (Int32.ofNat tN)), .val (.int (Int32.ofNat sN)), .val (.int (Int32.ofNat pN)), .val (.int (0 : Int32)), .val (.int (1 : Int32))]) rfl rfl ?_
                  refine own_iload X0 hx (hb hby d4_86) (pc' := 88) rfl rfl ?_
                  refine own_ifN X0 hx (hb hby d4_88) (by decide) (pc' := 91) rfl ?_
                  refine own_iload X0 hx (hb hby d4_91) (pc' := 93) rfl rfl ?_
                  refine own_ifN X0 hx (hb hby d4_93) (by decide) (pc' := 96) rfl ?_
                  refine own_iconst X0 hx (1) (hb hby d4_96) (pc' := 97) rfl rfl ?_
                  refine own_goto X0 hx (hb hby d4_97) (pc' := 101) (by decide) (by decide) ?_
                  refine own_retZ X0 hx hlk Bd.returns (by simp) (hb hby d4_101) (by decide) (by decide) ?_
                  rw [e0]
                  exact ⟨by simp [own_b, nar, own_H, c_1, nc_1, c_2, nc_2, c_3, c_4, nc_4, c_8, c_11, nc_11, c_12, c_13], N0, rfl⟩
                · skip
                  refine own_icmpY X0 hx (hb hby d4_76) (XT.ii_ne_t c_13) (pc' := 83) (by decide) (by decide) ?_
                  refine own_iconst X0 hx (0) (hb hby d4_83) (pc' := 84) rfl rfl ?_
                  refine own_istore X0 hx (hb hby d4_84) (pc' := 86) (Ls' := #[.val (.ref a1), .val (.int (Int32.ofNat fN)), .val (.int (Int32.ofNat tN)), .val (.int (Int32.ofNat sN)), .val (.int (Int32.ofNat pN)), .val (.int (0 : Int32)), .val (.int (0 : Int32))]) rfl rfl ?_
                  refine own_iload X0 hx (hb hby d4_86) (pc' := 88) rfl rfl ?_
                  refine own_ifN X0 hx (hb hby d4_88) (by decide) (pc' := 91) rfl ?_
                  refine own_iload X0 hx (hb hby d4_91) (pc' := 93) rfl rfl ?_
                  refine own_ifY X0 hx (hb hby d4_93) (by decide) (pc' := 100) (by decide) (by decide) ?_
                  refine own_iconst X0 hx (0) (hb hby d4_100) (pc' := 101) rfl rfl ?_
                  refine own_retZ X0 hx hlk Bd.returns (by simp) (hb hby d4_101) (by decide) (by decide) ?_
                  rw [e0]
                  exact ⟨by simp [own_b, nar, own_H, c_1, nc_1, c_2, nc_2, c_3, c_4, nc_4, c_8, c_11, nc_11, c_12, c_13], N0, rfl⟩
              · skip
                refine own_icmpY X0 hx (hb hby d4_65) (XT.ii_ne_t c_12) (pc' := 83) (by decide) (by decide) ?_
                refine own_iconst X0 hx (0) (hb hby d4_83) (pc' := 84) rfl rfl ?_
                refine own_istore X0 hx (hb hby d4_84) (pc' := 86) (Ls' := #[.val (.ref a1), .val (.int (Int32.ofNat fN)), .val (.int (Int32.ofNat tN)), .val (.int (Int32.ofNat sN)), .val (.int (Int32.ofNat pN)), .val (.int (0 : Int32)), .val (.int (0 : Int32))]) rfl rfl ?_
                refine own_iload X0 hx (hb hby d4_86) (pc' := 88) rfl rfl ?_
                refine own_ifN X0 hx (hb hby d4_88) (by decide) (pc' := 91) rfl ?_
                refine own_iload X0 hx (hb hby d4_91) (pc' := 93) rfl rfl ?_
                refine own_ifY X0 hx (hb hby d4_93) (by decide) (pc' := 100) (by decide) (by decide) ?_
                refine own_iconst X0 hx (0) (hb hby d4_100) (pc' := 101) rfl rfl ?_
                refine own_retZ X0 hx hlk Bd.returns (by simp) (hb hby d4_101) (by decide) (by decide) ?_
                rw [e0]
                exact ⟨by simp [own_b, nar, own_H, c_1, nc_1, c_2, nc_2, c_3, c_4, nc_4, c_8, c_11, nc_11, c_12], N0, rfl⟩
      · skip
        refine own_icmpN X0 hx (hb hby d4_18) (XT.ii_eq_f c_3) (pc' := 21) rfl ?_
        refine own_iconst X0 hx (0) (hb hby d4_21) (pc' := 22) rfl rfl ?_
        refine own_retZ X0 hx hlk Bd.returns (by simp) (hb hby d4_22) (by decide) (by decide) ?_
        rw [e0]
        exact ⟨by simp [own_b, nar, own_H, c_1, nc_1, c_2, nc_2, c_3], N0, rfl⟩
    · skip
      have nc_2 : ¬ pN < tN := fun q => c_2 ((own_lt8 (a := pN) (b := tN) (by omega) (by omega)).mpr q)
      refine own_icmpY X0 hx (hb hby d4_9) (XT.ii_ge_t c_2) (pc' := 21) (by decide) (by decide) ?_
      refine own_iconst X0 hx (0) (hb hby d4_21) (pc' := 22) rfl rfl ?_
      refine own_retZ X0 hx hlk Bd.returns (by simp) (hb hby d4_22) (by decide) (by decide) ?_
      rw [e0]
      exact ⟨by simp [own_b, nar, own_H, c_1, nc_1, c_2, nc_2], N0, rfl⟩
theorem pd0_0 : parseMethodDescriptor "(IJI)B" = some ⟨[.int, .long, .int], some .byte⟩ := by decide +kernel
theorem pd0_1 : parseMethodDescriptor "([BIII)I" = some ⟨[(.array .byte), .int, .int, .int], some .int⟩ := by decide +kernel
theorem pd0_2 : parseMethodDescriptor "([BIIII)Z" = some ⟨[(.array .byte), .int, .int, .int, .int], some .boolean⟩ := by decide +kernel
theorem pn0 : plainFor x = true := by first | exact plainFor_of_name (by first | (simp [plainName, overriddenIn]; done) | decide +kernel) | decide +kernel
theorem ef0 (m : MethodId) (x0 : Int32) (x1 : Int64) (x2 : Int32) (x3 : Int32) (x4 : Int32) : entryFrame m #[(.int x0), (.long x1), (.int x2), (.int x3), (.int x4)] maxLocals = mkF m 0 #[.val (.int x0), .val (.long x1), .second, .val (.int x2), .val (.int x3), .val (.int x4), .unset, .unset, .unset, .unset, .unset, .unset] [] := by first | (simp [entryFrame, mkF, argsToLocals, Value.category, maxLocals]; done) | rfl
def Q0 (Z : State) (x0 : Int32) (x1 : Int64) (x2 : Int32) (x3 : Int32) (x4 : Int32) (h0 : Heap) (n0 : Nat) (v : Option Value) (h : Heap) (L : List Loc) : Prop := v = some (.int 1) ∧ Fr n0 L
set_option maxRecDepth 65536 in
set_option maxHeartbeats 40000000 in
theorem rm0 (l : Launch) (Z : State) (a0 : Array Value) (hw : ∀ d ∈ tables_1, d.before a0 Z = true) (ws : List Jvm.Cond) (x0 : Int32) (x1 : Int64) (x2 : Int32) (x3 : Int32) (x4 : Int32) (h0 : Heap) (n0 : Nat) (Z0 : n0 ≤ h0.size) :
    MetFree l x (head1 (Jvm.Cond.code x code maxLocals ret :: ws) room_1) (fun a U => a = #[(.int x0), (.long x1), (.int x2), (.int x3), (.int x4)] ∧ Z.Warmed39 U.vm ∧ U.heap = h0) (fun _ _ _ _ _ => True) (fun _ U o U' => ∃ v L, o = .returned v ∧ Q0 Z x0 x1 x2 x3 x4 h0 n0 v U'.heap L ∧ FrameEnd U o U' L 1 6) := by
  refine MetFree.of_bodySF pn0 hisR ?_
  intro p e s m args below meth c s₁ Bd hml0 hP hK
  obtain ⟨rfl, hZ, hh⟩ := hP
  have hx := Bd.exec
  have hby := Bd.bytes
  have hlk : meth.locks = false := BodyLoose.notSynchronized Bd
  have hml : c.maxLocals = 12 := hml0
  have hown : s.vm.findClass "com/example/nodeweave/nodeweave/server/MessageHeadEndPinLaw" = some m.cls := findClass_of_methodNamed Bd.named
  have hnm := (name_of_methodNamed Bd.named Bd.method).1
  have X0 : Stand p l e room_1 s m #[(.int x0), (.long x1), (.int x2), (.int x3), (.int x4)] below meth c s₁ [] 0 0 := Stand.of_body Bd
  have e0 : s₁.heap = h0 := by rw [← hh, Bd.state]; rfl
  have N0 := Fr.nil n0
  rw [ef0 m x0 x1 x2 x3 x4]
  show own_Go p e below (own_End s (Q0 Z x0 x1 x2 x3 x4 h0 n0) 1 6) s₁ (mkF m 0 #[.val (.int x0), .val (.long x1), .second, .val (.int x2), .val (.int x3), .val (.int x4), .unset, .unset, .unset, .unset, .unset, .unset] [])
  refine own_bipush X0 hx (6) (hb hby at_0) (pc' := 2) rfl (by decide) ?_
  obtain ⟨T_1, h_1, kc_1, X_1, e_1, E_1, A_1, st_1⟩ := newP X0 hx hZ (hw _ (List.mem_of_getElem? (i := 0) rfl)) e0 (g := (mkF m 2 #[.val (.int x0), .val (.long x1), .second, .val (.int x2), .val (.int x3), .val (.int x4), .unset, .unset, .unset, .unset, .unset, .unset] [(.int (6 : Int32))])) rfl (hb hby at_2) rfl (by decide) (cap := 6) (by decide) (by decide) (by decide) (by decide)
  obtain ⟨a_1, g_1⟩ : ∃ z, z = h0.size := ⟨_, rfl⟩
  rw [← g_1] at A_1 st_1
  have ge_1 : n0 ≤ a_1 := Nat.le_trans Z0 (Nat.le_of_eq g_1.symm)
  have Z_2 : n0 ≤ h_1.size := Nat.le_trans Z0 E_1.1
  have V_3 : Arv Z h_1 a_1 kc_1 .byte (6 : Int32) [(.int (0 : Int32)), (.int (0 : Int32)), (.int (0 : Int32)), (.int (0 : Int32)), (.int (0 : Int32)), (.int (0 : Int32))] (.int (0 : Int32)) := (Arv.new A_1 (by decide)).pad (pad_rep [] (.int (0 : Int32)) 6)
  refine own_st st_1 ?_
  show own_Go p e below _ T_1 (mkF m 4 #[.val (.int x0), .val (.long x1), .second, .val (.int x2), .val (.int x3), .val (.int x4), .unset, .unset, .unset, .unset, .unset, .unset] [(.ref a_1)])
  refine own_astore X_1 hx (hb hby at_4) (pc' := 6) (Ls' := #[.val (.int x0), .val (.long x1), .second, .val (.int x2), .val (.int x3), .val (.int x4), .val (.ref a_1), .unset, .unset, .unset, .unset, .unset]) rfl rfl rfl ?_
  refine own_aload X_1 hx (hb hby at_6) (pc' := 8) rfl rfl rfl ?_
  refine own_iconst X_1 hx (0) (hb hby at_8) (pc' := 9) rfl rfl ?_
  refine own_iloadN X_1 hx (hb hby at_9) (pc' := 10) rfl rfl ?_
  refine own_lloadN X_1 hx (hb hby at_10) (pc' := 11) rfl rfl ?_
  refine own_iconst X_1 hx (0) (hb hby at_11) (pc' := 12) rfl rfl ?_
  obtain ⟨_, _, ⟨T_4, L_4, k_4, n_4⟩, -, X_4, ⟨Lc_4, hQ_4, l_4, y_4, z_4⟩, st_4⟩ := Jvm.LawKit.callS X_1 hx (y := (⟨"com/example/nodeweave/nodeweave/server/MessageHeadEndPinLaw", "pick", "(IJI)B"⟩ : MethodName)) hown (mvT hZ (hw _ (List.mem_of_getElem? (i := 1) rfl))) (mvT hZ (hw _ (List.mem_of_getElem? (i := 2) rfl))) (mvT hZ (hw _ (List.mem_of_getElem? (i := 3) rfl))) (mvT hZ (hw _ (List.mem_of_getElem? (i := 4) rfl))) (by decide) (backOf (W := 2) (rm1 l Z a0 hw [] x0 x1 (0 : Int32) h_1 n0 Z_2) hZ (hw _ (List.mem_of_getElem? (i := 4) rfl)) (hw _ (List.mem_of_getElem? (i := 3) rfl)) (by decide) (by decide)) (g := (mkF m 12 #[.val (.int x0), .val (.long x1), .second, .val (.int x2), .val (.int x3), .val (.int x4), .val (.ref a_1), .unset, .unset, .unset, .unset, .unset] [(.int (0 : Int32)), (.long x1), (.int x0), (.int (0 : Int32)), (.ref a_1)])) rfl (by rw [hml]; rfl) (argsL := [(.int x0), (.long x1), (.int (0 : Int32))]) (rest := [(.int (0 : Int32)), (.ref a_1)]) (lenOf pd0_0 rfl) rfl (by show 2 * 0 + _ ≤ _; exact Nat.le_of_eq rfl) (hb hby at_12) (fun _ _ => ⟨rfl, e_1, (by decide : 1 + 0 ≤ _), (by decide : 6 + 0 ≤ _)⟩)
  dsimp only [Pt.U, Pt.locs, Pt.cells, Pt.slots] at X_4 l_4 y_4 z_4 st_4 hQ_4
  subst l_4 y_4 z_4
  refine own_st st_4 ?_
  obtain ⟨⟨ch_4, rfl⟩, Nq_4, eq_4⟩ := hQ_4
  have N_4 := Fr.app N0 Nq_4
  show own_Go p e below _ T_4 (mkF m 15 #[.val (.int x0), .val (.long x1), .second, .val (.int x2), .val (.int x3), .val (.int x4), .val (.ref a_1), .unset, .unset, .unset, .unset, .unset] [(.int ch_4), (.int (0 : Int32)), (.ref a_1)])
  obtain ⟨T_5, h_5, X_5, e_5, W_5, V_5, st_5⟩ := own_bastore X_4 hx hZ eq_4 V_3 0 (x := ch_4) (j := (0 : Int32)) (Ls := #[.val (.int x0), .val (.long x1), .second, .val (.int x2), .val (.int x3), .val (.int x4), .val (.ref a_1), .unset, .unset, .unset, .unset, .unset]) (st := []) ⟨by decide, by decide⟩ rfl (Nat.le_of_ble_eq_true rfl) (hb hby at_15)
  have V_6 : Arv Z h_5 a_1 kc_1 .byte (6 : Int32) [(.int (nar .byte ch_4)), (.int (0 : Int32)), (.int (0 : Int32)), (.int (0 : Int32)), (.int (0 : Int32)), (.int (0 : Int32))] (.int (0 : Int32)) := V_5
  have Z_7 : n0 ≤ h_5.size := by rw [W_5.size]; exact Z_2
  have N_5 := Fr.snoc X_5 N_4 ge_1
  refine own_st st_5 ?_
  show own_Go p e below _ T_5 (mkF m 16 #[.val (.int x0), .val (.long x1), .second, .val (.int x2), .val (.int x3), .val (.int x4), .val (.ref a_1), .unset, .unset, .unset, .unset, .unset] [])
  refine own_aload X_5 hx (hb hby at_16) (pc' := 18) rfl rfl rfl ?_
  refine own_iconst X_5 hx (1) (hb hby at_18) (pc' := 19) rfl rfl ?_
  refine own_iloadN X_5 hx (hb hby at_19) (pc' := 20) rfl rfl ?_
  refine own_lloadN X_5 hx (hb hby at_20) (pc' := 21) rfl rfl ?_
  refine own_iconst X_5 hx (1) (hb hby at_21) (pc' := 22) rfl rfl ?_
  obtain ⟨_, _, ⟨T_8, L_8, k_8, n_8⟩, -, X_8, ⟨Lc_8, hQ_8, l_8, y_8, z_8⟩, st_8⟩ := Jvm.LawKit.callS X_5 hx (y := (⟨"com/example/nodeweave/nodeweave/server/MessageHeadEndPinLaw", "pick", "(IJI)B"⟩ : MethodName)) hown (mvT hZ (hw _ (List.mem_of_getElem? (i := 1) rfl))) (mvT hZ (hw _ (List.mem_of_getElem? (i := 2) rfl))) (mvT hZ (hw _ (List.mem_of_getElem? (i := 3) rfl))) (mvT hZ (hw _ (List.mem_of_getElem? (i := 4) rfl))) (by decide) (backOf (W := 2) (rm1 l Z a0 hw [] x0 x1 (1 : Int32) h_5 n0 Z_7) hZ (hw _ (List.mem_of_getElem? (i := 4) rfl)) (hw _ (List.mem_of_getElem? (i := 3) rfl)) (by decide) (by decide)) (g := (mkF m 22 #[.val (.int x0), .val (.long x1), .second, .val (.int x2), .val (.int x3), .val (.int x4), .val (.ref a_1), .unset, .unset, .unset, .unset, .unset] [(.int (1 : Int32)), (.long x1), (.int x0), (.int (1 : Int32)), (.ref a_1)])) rfl (by rw [hml]; rfl) (argsL := [(.int x0), (.long x1), (.int (1 : Int32))]) (rest := [(.int (1 : Int32)), (.ref a_1)]) (lenOf pd0_0 rfl) rfl (by show 2 * 0 + _ ≤ _; exact Nat.le_of_eq rfl) (hb hby at_22) (fun _ _ => ⟨rfl, e_5, (by decide : 1 + 0 ≤ _), (by decide : 6 + 0 ≤ _)⟩)
  dsimp only [Pt.U, Pt.locs, Pt.cells, Pt.slots] at X_8 l_8 y_8 z_8 st_8 hQ_8
  subst l_8 y_8 z_8
  refine own_st st_8 ?_
  obtain ⟨⟨ch_8, rfl⟩, Nq_8, eq_8⟩ := hQ_8
  have N_8 := Fr.app N_5 Nq_8
  show own_Go p e below _ T_8 (mkF m 25 #[.val (.int x0), .val (.long x1), .second, .val (.int x2), .val (.int x3), .val (.int x4), .val (.ref a_1), .unset, .unset, .unset, .unset, .unset] [(.int ch_8), (.int (1 : Int32)), (.ref a_1)])
  obtain ⟨T_9, h_9, X_9, e_9, W_9, V_9, st_9⟩ := own_bastore X_8 hx hZ eq_8 V_6 1 (x := ch_8) (j := (1 : Int32)) (Ls := #[.val (.int x0), .val (.long x1), .second, .val (.int x2), .val (.int x3), .val (.int x4), .val (.ref a_1), .unset, .unset, .unset, .unset, .unset]) (st := []) ⟨by decide, by decide⟩ rfl (Nat.le_of_ble_eq_true rfl) (hb hby at_25)
  have V_10 : Arv Z h_9 a_1 kc_1 .byte (6 : Int32) [(.int (nar .byte ch_4)), (.int (nar .byte ch_8)), (.int (0 : Int32)), (.int (0 : Int32)), (.int (0 : Int32)), (.int (0 : Int32))] (.int (0 : Int32)) := V_9
  have Z_11 : n0 ≤ h_9.size := by rw [W_9.size]; exact Z_7
  have N_9 := Fr.snoc X_9 N_8 ge_1
  refine own_st st_9 ?_
  show own_Go p e below _ T_9 (mkF m 26 #[.val (.int x0), .val (.long x1), .second, .val (.int x2), .val (.int x3), .val (.int x4), .val (.ref a_1), .unset, .unset, .unset, .unset, .unset] [])
  refine own_aload X_9 hx (hb hby at_26) (pc' := 28) rfl rfl rfl ?_
  refine own_iconst X_9 hx (2) (hb hby at_28) (pc' := 29) rfl rfl ?_
  refine own_iloadN X_9 hx (hb hby at_29) (pc' := 30) rfl rfl ?_
  refine own_lloadN X_9 hx (hb hby at_30) (pc' := 31) rfl rfl ?_
  refine own_iconst X_9 hx (2) (hb hby at_31) (pc' := 32) rfl rfl ?_
  obtain ⟨_, _, ⟨T_12, L_12, k_12, n_12⟩, -, X_12, ⟨Lc_12, hQ_12, l_12, y_12, z_12⟩, st_12⟩ := Jvm.LawKit.callS X_9 hx (y := (⟨"com/example/nodeweave/nodeweave/server/MessageHeadEndPinLaw", "pick", "(IJI)B"⟩ : MethodName)) hown (mvT hZ (hw _ (List.mem_of_getElem? (i := 1) rfl))) (mvT hZ (hw _ (List.mem_of_getElem? (i := 2) rfl))) (mvT hZ (hw _ (List.mem_of_getElem? (i := 3) rfl))) (mvT hZ (hw _ (List.mem_of_getElem? (i := 4) rfl))) (by decide) (backOf (W := 2) (rm1 l Z a0 hw [] x0 x1 (2 : Int32) h_9 n0 Z_11) hZ (hw _ (List.mem_of_getElem? (i := 4) rfl)) (hw _ (List.mem_of_getElem? (i := 3) rfl)) (by decide) (by decide)) (g := (mkF m 32 #[.val (.int x0), .val (.long x1), .second, .val (.int x2), .val (.int x3), .val (.int x4), .val (.ref a_1), .unset, .unset, .unset, .unset, .unset] [(.int (2 : Int32)), (.long x1), (.int x0), (.int (2 : Int32)), (.ref a_1)])) rfl (by rw [hml]; rfl) (argsL := [(.int x0), (.long x1), (.int (2 : Int32))]) (rest := [(.int (2 : Int32)), (.ref a_1)]) (lenOf pd0_0 rfl) rfl (by show 2 * 0 + _ ≤ _; exact Nat.le_of_eq rfl) (hb hby at_32) (fun _ _ => ⟨rfl, e_9, (by decide : 1 + 0 ≤ _), (by decide : 6 + 0 ≤ _)⟩)
  dsimp only [Pt.U, Pt.locs, Pt.cells, Pt.slots] at X_12 l_12 y_12 z_12 st_12 hQ_12
  subst l_12 y_12 z_12
  refine own_st st_12 ?_
  obtain ⟨⟨ch_12, rfl⟩, Nq_12, eq_12⟩ := hQ_12
  have N_12 := Fr.app N_9 Nq_12
  show own_Go p e below _ T_12 (mkF m 35 #[.val (.int x0), .val (.long x1), .second, .val (.int x2), .val (.int x3), .val (.int x4), .val (.ref a_1), .unset, .unset, .unset, .unset, .unset] [(.int ch_12), (.int (2 : Int32)), (.ref a_1)])
  obtain ⟨T_13, h_13, X_13, e_13, W_13, V_13, st_13⟩ := own_bastore X_12 hx hZ eq_12 V_10 2 (x := ch_12) (j := (2 : Int32)) (Ls := #[.val (.int x0), .val (.long x1), .second, .val (.int x2), .val (.int x3), .val (.int x4), .val (.ref a_1), .unset, .unset, .unset, .unset, .unset]) (st := []) ⟨by decide, by decide⟩ rfl (Nat.le_of_ble_eq_true rfl) (hb hby at_35)
  have V_14 : Arv Z h_13 a_1 kc_1 .byte (6 : Int32) [(.int (nar .byte ch_4)), (.int (nar .byte ch_8)), (.int (nar .byte ch_12)), (.int (0 : Int32)), (.int (0 : Int32)), (.int (0 : Int32))] (.int (0 : Int32)) := V_13
  have Z_15 : n0 ≤ h_13.size := by rw [W_13.size]; exact Z_11
  have N_13 := Fr.snoc X_13 N_12 ge_1
  refine own_st st_13 ?_
  show own_Go p e below _ T_13 (mkF m 36 #[.val (.int x0), .val (.long x1), .second, .val (.int x2), .val (.int x3), .val (.int x4), .val (.ref a_1), .unset, .unset, .unset, .unset, .unset] [])
  refine own_aload X_13 hx (hb hby at_36) (pc' := 38) rfl rfl rfl ?_
  refine own_iconst X_13 hx (3) (hb hby at_38) (pc' := 39) rfl rfl ?_
  refine own_iloadN X_13 hx (hb hby at_39) (pc' := 40) rfl rfl ?_
  refine own_lloadN X_13 hx (hb hby at_40) (pc' := 41) rfl rfl ?_
  refine own_iconst X_13 hx (3) (hb hby at_41) (pc' := 42) rfl rfl ?_
  obtain ⟨_, _, ⟨T_16, L_16, k_16, n_16⟩, -, X_16, ⟨Lc_16, hQ_16, l_16, y_16, z_16⟩, st_16⟩ := Jvm.LawKit.callS X_13 hx (y := (⟨"com/example/nodeweave/nodeweave/server/MessageHeadEndPinLaw", "pick", "(IJI)B"⟩ : MethodName)) hown (mvT hZ (hw _ (List.mem_of_getElem? (i := 1) rfl))) (mvT hZ (hw _ (List.mem_of_getElem? (i := 2) rfl))) (mvT hZ (hw _ (List.mem_of_getElem? (i := 3) rfl))) (mvT hZ (hw _ (List.mem_of_getElem? (i := 4) rfl))) (by decide) (backOf (W := 2) (rm1 l Z a0 hw [] x0 x1 (3 : Int32) h_13 n0 Z_15) hZ (hw _ (List.mem_of_getElem? (i := 4) rfl)) (hw _ (List.mem_of_getElem? (i := 3) rfl)) (by decide) (by decide)) (g := (mkF m 42 #[.val (.int x0), .val (.long x1), .second, .val (.int x2), .val (.int x3), .val (.int x4), .val (.ref a_1), .unset, .unset, .unset, .unset, .unset] [(.int (3 : Int32)), (.long x1), (.int x0), (.int (3 : Int32)), (.ref a_1)])) rfl (by rw [hml]; rfl) (argsL := [(.int x0), (.long x1), (.int (3 : Int32))]) (rest := [(.int (3 : Int32)), (.ref a_1)]) (lenOf pd0_0 rfl) rfl (by show 2 * 0 + _ ≤ _; exact Nat.le_of_eq rfl) (hb hby at_42) (fun _ _ => ⟨rfl, e_13, (by decide : 1 + 0 ≤ _), (by decide : 6 + 0 ≤ _)⟩)
  dsimp only [Pt.U, Pt.locs, Pt.cells, Pt.slots] at X_16 l_16 y_16 z_16 st_16 hQ_16
  subst l_16 y_16 z_16
  refine own_st st_16 ?_
  obtain ⟨⟨ch_16, rfl⟩, Nq_16, eq_16⟩ := hQ_16
  have N_16 := Fr.app N_13 Nq_16
  show own_Go p e below _ T_16 (mkF m 45 #[.val (.int x0), .val (.long x1), .second, .val (.int x2), .val (.int x3), .val (.int x4), .val (.ref a_1), .unset, .unset, .unset, .unset, .unset] [(.int ch_16), (.int (3 : Int32)), (.ref a_1)])
  obtain ⟨T_17, h_17, X_17, e_17, W_17, V_17, st_17⟩ := own_bastore X_16 hx hZ eq_16 V_14 3 (x := ch_16) (j := (3 : Int32)) (Ls := #[.val (.int x0), .val (.long x1), .second, .val (.int x2), .val (.int x3), .val (.int x4), .val (.ref a_1), .unset, .unset, .unset, .unset, .unset]) (st := []) ⟨by decide, by decide⟩ rfl (Nat.le_of_ble_eq_true rfl) (hb hby at_45)
  have V_18 : Arv Z h_17 a_1 kc_1 .byte (6 : Int32) [(.int (nar .byte ch_4)), (.int (nar .byte ch_8)), (.int (nar .byte ch_12)), (.int (nar .byte ch_16)), (.int (0 : Int32)), (.int (0 : Int32))] (.int (0 : Int32)) := V_17
  have Z_19 : n0 ≤ h_17.size := by rw [W_17.size]; exact Z_15
  have N_17 := Fr.snoc X_17 N_16 ge_1
  refine own_st st_17 ?_
  show own_Go p e below _ T_17 (mkF m 46 #[.val (.int x0), .val (.long x1), .second, .val (.int x2), .val (.int x3), .val (.int x4), .val (.ref a_1), .unset, .unset, .unset, .unset, .unset] [])
  refine own_aload X_17 hx (hb hby at_46) (pc' := 48) rfl rfl rfl ?_
  refine own_iconst X_17 hx (4) (hb hby at_48) (pc' := 49) rfl rfl ?_
  refine own_iloadN X_17 hx (hb hby at_49) (pc' := 50) rfl rfl ?_
  refine own_lloadN X_17 hx (hb hby at_50) (pc' := 51) rfl rfl ?_
  refine own_iconst X_17 hx (4) (hb hby at_51) (pc' := 52) rfl rfl ?_
  obtain ⟨_, _, ⟨T_20, L_20, k_20, n_20⟩, -, X_20, ⟨Lc_20, hQ_20, l_20, y_20, z_20⟩, st_20⟩ := Jvm.LawKit.callS X_17 hx (y := (⟨"com/example/nodeweave/nodeweave/server/MessageHeadEndPinLaw", "pick", "(IJI)B"⟩ : MethodName)) hown (mvT hZ (hw _ (List.mem_of_getElem? (i := 1) rfl))) (mvT hZ (hw _ (List.mem_of_getElem? (i := 2) rfl))) (mvT hZ (hw _ (List.mem_of_getElem? (i := 3) rfl))) (mvT hZ (hw _ (List.mem_of_getElem? (i := 4) rfl))) (by decide) (backOf (W := 2) (rm1 l Z a0 hw [] x0 x1 (4 : Int32) h_17 n0 Z_19) hZ (hw _ (List.mem_of_getElem? (i := 4) rfl)) (hw _ (List.mem_of_getElem? (i := 3) rfl)) (by decide) (by decide)) (g := (mkF m 52 #[.val (.int x0), .val (.long x1), .second, .val (.int x2), .val (.int x3), .val (.int x4), .val (.ref a_1), .unset, .unset, .unset, .unset, .unset] [(.int (4 : Int32)), (.long x1), (.int x0), (.int (4 : Int32)), (.ref a_1)])) rfl (by rw [hml]; rfl) (argsL := [(.int x0), (.long x1), (.int (4 : Int32))]) (rest := [(.int (4 : Int32)), (.ref a_1)]) (lenOf pd0_0 rfl) rfl (by show 2 * 0 + _ ≤ _; exact Nat.le_of_eq rfl) (hb hby at_52) (fun _ _ => ⟨rfl, e_17, (by decide : 1 + 0 ≤ _), (by decide : 6 + 0 ≤ _)⟩)
  dsimp only [Pt.U, Pt.locs, Pt.cells, Pt.slots] at X_20 l_20 y_20 z_20 st_20 hQ_20
  subst l_20 y_20 z_20
  refine own_st st_20 ?_
  obtain ⟨⟨ch_20, rfl⟩, Nq_20, eq_20⟩ := hQ_20
  have N_20 := Fr.app N_17 Nq_20
  show own_Go p e below _ T_20 (mkF m 55 #[.val (.int x0), .val (.long x1), .second, .val (.int x2), .val (.int x3), .val (.int x4), .val (.ref a_1), .unset, .unset, .unset, .unset, .unset] [(.int ch_20), (.int (4 : Int32)), (.ref a_1)])
  obtain ⟨T_21, h_21, X_21, e_21, W_21, V_21, st_21⟩ := own_bastore X_20 hx hZ eq_20 V_18 4 (x := ch_20) (j := (4 : Int32)) (Ls := #[.val (.int x0), .val (.long x1), .second, .val (.int x2), .val (.int x3), .val (.int x4), .val (.ref a_1), .unset, .unset, .unset, .unset, .unset]) (st := []) ⟨by decide, by decide⟩ rfl (Nat.le_of_ble_eq_true rfl) (hb hby at_55)
  have V_22 : Arv Z h_21 a_1 kc_1 .byte (6 : Int32) [(.int (nar .byte ch_4)), (.int (nar .byte ch_8)), (.int (nar .byte ch_12)), (.int (nar .byte ch_16)), (.int (nar .byte ch_20)), (.int (0 : Int32))] (.int (0 : Int32)) := V_21
  have Z_23 : n0 ≤ h_21.size := by rw [W_21.size]; exact Z_19
  have N_21 := Fr.snoc X_21 N_20 ge_1
  refine own_st st_21 ?_
  show own_Go p e below _ T_21 (mkF m 56 #[.val (.int x0), .val (.long x1), .second, .val (.int x2), .val (.int x3), .val (.int x4), .val (.ref a_1), .unset, .unset, .unset, .unset, .unset] [])
  refine own_aload X_21 hx (hb hby at_56) (pc' := 58) rfl rfl rfl ?_
  refine own_iconst X_21 hx (5) (hb hby at_58) (pc' := 59) rfl rfl ?_
  refine own_iloadN X_21 hx (hb hby at_59) (pc' := 60) rfl rfl ?_
  refine own_lloadN X_21 hx (hb hby at_60) (pc' := 61) rfl rfl ?_
  refine own_iconst X_21 hx (5) (hb hby at_61) (pc' := 62) rfl rfl ?_
  obtain ⟨_, _, ⟨T_24, L_24, k_24, n_24⟩, -, X_24, ⟨Lc_24, hQ_24, l_24, y_24, z_24⟩, st_24⟩ := Jvm.LawKit.callS X_21 hx (y := (⟨"com/example/nodeweave/nodeweave/server/MessageHeadEndPinLaw", "pick", "(IJI)B"⟩ : MethodName)) hown (mvT hZ (hw _ (List.mem_of_getElem? (i := 1) rfl))) (mvT hZ (hw _ (List.mem_of_getElem? (i := 2) rfl))) (mvT hZ (hw _ (List.mem_of_getElem? (i := 3) rfl))) (mvT hZ (hw _ (List.mem_of_getElem? (i := 4) rfl))) (by decide) (backOf (W := 2) (rm1 l Z a0 hw [] x0 x1 (5 : Int32) h_21 n0 Z_23) hZ (hw _ (List.mem_of_getElem? (i := 4) rfl)) (hw _ (List.mem_of_getElem? (i := 3) rfl)) (by decide) (by decide)) (g := (mkF m 62 #[.val (.int x0), .val (.long x1), .second, .val (.int x2), .val (.int x3), .val (.int x4), .val (.ref a_1), .unset, .unset, .unset, .unset, .unset] [(.int (5 : Int32)), (.long x1), (.int x0), (.int (5 : Int32)), (.ref a_1)])) rfl (by rw [hml]; rfl) (argsL := [(.int x0), (.long x1), (.int (5 : Int32))]) (rest := [(.int (5 : Int32)), (.ref a_1)]) (lenOf pd0_0 rfl) rfl (by show 2 * 0 + _ ≤ _; exact Nat.le_of_eq rfl) (hb hby at_62) (fun _ _ => ⟨rfl, e_21, (by decide : 1 + 0 ≤ _), (by decide : 6 + 0 ≤ _)⟩)
  dsimp only [Pt.U, Pt.locs, Pt.cells, Pt.slots] at X_24 l_24 y_24 z_24 st_24 hQ_24
  subst l_24 y_24 z_24
  refine own_st st_24 ?_
  obtain ⟨⟨ch_24, rfl⟩, Nq_24, eq_24⟩ := hQ_24
  have N_24 := Fr.app N_21 Nq_24
  show own_Go p e below _ T_24 (mkF m 65 #[.val (.int x0), .val (.long x1), .second, .val (.int x2), .val (.int x3), .val (.int x4), .val (.ref a_1), .unset, .unset, .unset, .unset, .unset] [(.int ch_24), (.int (5 : Int32)), (.ref a_1)])
  obtain ⟨T_25, h_25, X_25, e_25, W_25, V_25, st_25⟩ := own_bastore X_24 hx hZ eq_24 V_22 5 (x := ch_24) (j := (5 : Int32)) (Ls := #[.val (.int x0), .val (.long x1), .second, .val (.int x2), .val (.int x3), .val (.int x4), .val (.ref a_1), .unset, .unset, .unset, .unset, .unset]) (st := []) ⟨by decide, by decide⟩ rfl (Nat.le_of_ble_eq_true rfl) (hb hby at_65)
  have V_26 : Arv Z h_25 a_1 kc_1 .byte (6 : Int32) [(.int (nar .byte ch_4)), (.int (nar .byte ch_8)), (.int (nar .byte ch_12)), (.int (nar .byte ch_16)), (.int (nar .byte ch_20)), (.int (nar .byte ch_24))] (.int (0 : Int32)) := V_25
  have Z_27 : n0 ≤ h_25.size := by rw [W_25.size]; exact Z_23
  have N_25 := Fr.snoc X_25 N_24 ge_1
  refine own_st st_25 ?_
  show own_Go p e below _ T_25 (mkF m 66 #[.val (.int x0), .val (.long x1), .second, .val (.int x2), .val (.int x3), .val (.int x4), .val (.ref a_1), .unset, .unset, .unset, .unset, .unset] [])
  refine own_iloadN X_25 hx (hb hby at_66) (pc' := 67) rfl rfl ?_
  refine own_ldcI X_25 hx hown (mvT hZ (hw _ (List.mem_of_getElem? (i := 5) rfl))) (hb hby at_67) (pc' := 69) rfl ?_
  refine own_iand X_25 hx (hb hby at_69) (pc' := 70) rfl ?_
  refine own_bipush X_25 hx (7) (hb hby at_70) (pc' := 72) rfl (by decide) ?_
  refine own_irem X_25 hx (hb hby at_72) (pc' := 73) rfl (by decide) ?_
  obtain ⟨fN, hfN, ef⟩ := own_rem7 x2
  rw [ef]
  refine own_istore X_25 hx (hb hby at_73) (pc' := 75) (Ls' := #[.val (.int x0), .val (.long x1), .second, .val (.int x2), .val (.int x3), .val (.int x4), .val (.ref a_1), .val (.int (Int32.ofNat fN)), .unset, .unset, .unset, .unset]) rfl rfl ?_
  refine own_iload X_25 hx (hb hby at_75) (pc' := 77) rfl rfl ?_
  refine own_iload X_25 hx (hb hby at_77) (pc' := 79) rfl rfl ?_
  refine own_ldcI X_25 hx hown (mvT hZ (hw _ (List.mem_of_getElem? (i := 5) rfl))) (hb hby at_79) (pc' := 81) rfl ?_
  refine own_iand X_25 hx (hb hby at_81) (pc' := 82) rfl ?_
  refine own_bipush X_25 hx (7) (hb hby at_82) (pc' := 84) rfl (by decide) ?_
  refine own_iload X_25 hx (hb hby at_84) (pc' := 86) rfl rfl ?_
  refine own_isub X_25 hx (hb hby at_86) (pc' := 87) rfl ?_
  refine own_irem X_25 hx (hb hby at_87) (pc' := 88) rfl (own_7ne hfN) ?_
  refine own_iadd X_25 hx (hb hby at_88) (pc' := 89) rfl ?_
  obtain ⟨tN, htN, et⟩ := own_rem7b x3 hfN
  rw [et]
  refine own_istore X_25 hx (hb hby at_89) (pc' := 91) (Ls' := #[.val (.int x0), .val (.long x1), .second, .val (.int x2), .val (.int x3), .val (.int x4), .val (.ref a_1), .val (.int (Int32.ofNat fN)), .val (.int (Int32.ofNat tN)), .unset, .unset, .unset]) rfl rfl ?_
  refine own_iload X_25 hx (hb hby at_91) (pc' := 93) rfl rfl ?_
  refine own_iload X_25 hx (hb hby at_93) (pc' := 95) rfl rfl ?_
  refine own_ldcI X_25 hx hown (mvT hZ (hw _ (List.mem_of_getElem? (i := 5) rfl))) (hb hby at_95) (pc' := 97) rfl ?_
  refine own_iand X_25 hx (hb hby at_97) (pc' := 98) rfl ?_
  refine own_bipush X_25 hx (7) (hb hby at_98) (pc' := 100) rfl (by decide) ?_
  refine own_iload X_25 hx (hb hby at_100) (pc' := 102) rfl rfl ?_
  refine own_isub X_25 hx (hb hby at_102) (pc' := 103) rfl ?_
  refine own_irem X_25 hx (hb hby at_103) (pc' := 104) rfl (own_7ne hfN) ?_
  refine own_iadd X_25 hx (hb hby at_104) (pc' := 105) rfl ?_
  obtain ⟨sN, hsN, es⟩ := own_rem7b x4 hfN
  rw [es]
  refine own_istore X_25 hx (hb hby at_105) (pc' := 107) (Ls' := #[.val (.int x0), .val (.long x1), .second, .val (.int x2), .val (.int x3), .val (.int x4), .val (.ref a_1), .val (.int (Int32.ofNat fN)), .val (.int (Int32.ofNat tN)), .val (.int (Int32.ofNat sN)), .unset, .unset]) rfl rfl ?_
  refine own_aload X_25 hx (hb hby at_107) (pc' := 109) rfl rfl rfl ?_
  refine own_iload X_25 hx (hb hby at_109) (pc' := 111) rfl rfl ?_
  refine own_iload X_25 hx (hb hby at_111) (pc' := 113) rfl rfl ?_
  refine own_iload X_25 hx (hb hby at_113) (pc' := 115) rfl rfl ?_
  obtain ⟨_, _, ⟨T_28, L_28, k_28, n_28⟩, -, X_28, ⟨Lc_28, hQ_28, l_28, y_28, z_28⟩, st_28⟩ := Jvm.LawKit.callS X_25 hx (y := (⟨"com/example/nodeweave/nodeweave/server/MessageHead", "end", "([BIII)I"⟩ : MethodName)) hown (mvT hZ (hw _ (List.mem_of_getElem? (i := 6) rfl))) (mvT hZ (hw _ (List.mem_of_getElem? (i := 7) rfl))) (mvT hZ (hw _ (List.mem_of_getElem? (i := 8) rfl))) (mvT hZ (hw _ (List.mem_of_getElem? (i := 9) rfl))) (by decide) (backOf (W := 0) (rm3 l Z a0 hw [] a_1 fN tN sN kc_1 [(nar .byte ch_4), (nar .byte ch_8), (nar .byte ch_12), (nar .byte ch_16), (nar .byte ch_20), (nar .byte ch_24)] h_25 n0 Z_27 V_26 hfN htN hsN) hZ (hw _ (List.mem_of_getElem? (i := 9) rfl)) (hw _ (List.mem_of_getElem? (i := 8) rfl)) (by decide) (by decide)) (g := (mkF m 115 #[.val (.int x0), .val (.long x1), .second, .val (.int x2), .val (.int x3), .val (.int x4), .val (.ref a_1), .val (.int (Int32.ofNat fN)), .val (.int (Int32.ofNat tN)), .val (.int (Int32.ofNat sN)), .unset, .unset] [(.int (Int32.ofNat sN)), (.int (Int32.ofNat tN)), (.int (Int32.ofNat fN)), (.ref a_1)])) rfl (by rw [hml]; rfl) (argsL := [(.ref a_1), (.int (Int32.ofNat fN)), (.int (Int32.ofNat tN)), (.int (Int32.ofNat sN))]) (rest := []) (lenOf pd0_1 rfl) rfl (by show 2 * 0 + _ ≤ _; exact Nat.le_of_eq rfl) (hb hby at_115) (fun _ _ => ⟨rfl, e_25, (by decide : 1 + 0 ≤ _), (by decide : 6 + 0 ≤ _)⟩)
  dsimp only [Pt.U, Pt.locs, Pt.cells, Pt.slots] at X_28 l_28 y_28 z_28 st_28 hQ_28
  subst l_28 y_28 z_28
  refine own_st st_28 ?_
  obtain ⟨⟨r_28, rfl, hr_28⟩, Nq_28, eq_28⟩ := hQ_28
  have N_28 := Fr.app N_25 Nq_28
  show own_Go p e below _ T_28 (mkF m 118 #[.val (.int x0), .val (.long x1), .second, .val (.int x2), .val (.int x3), .val (.int x4), .val (.ref a_1), .val (.int (Int32.ofNat fN)), .val (.int (Int32.ofNat tN)), .val (.int (Int32.ofNat sN)), .unset, .unset] [(.int r_28)])
  refine own_istore X_28 hx (hb hby at_118) (pc' := 120) (Ls' := #[.val (.int x0), .val (.long x1), .second, .val (.int x2), .val (.int x3), .val (.int x4), .val (.ref a_1), .val (.int (Int32.ofNat fN)), .val (.int (Int32.ofNat tN)), .val (.int (Int32.ofNat sN)), .val (.int r_28), .unset]) rfl rfl ?_
  refine own_aload X_28 hx (hb hby at_120) (pc' := 122) rfl rfl rfl ?_
  refine own_iload X_28 hx (hb hby at_122) (pc' := 124) rfl rfl ?_
  refine own_iload X_28 hx (hb hby at_124) (pc' := 126) rfl rfl ?_
  refine own_iload X_28 hx (hb hby at_126) (pc' := 128) rfl rfl ?_
  refine own_iconst X_28 hx (0) (hb hby at_128) (pc' := 129) rfl rfl ?_
  obtain ⟨_, _, ⟨T_29, L_29, k_29, n_29⟩, -, X_29, ⟨Lc_29, hQ_29, l_29, y_29, z_29⟩, st_29⟩ := Jvm.LawKit.callS X_28 hx (y := (⟨"com/example/nodeweave/nodeweave/server/MessageHeadEndPinLaw", "hit", "([BIIII)Z"⟩ : MethodName)) hown (mvT hZ (hw _ (List.mem_of_getElem? (i := 14) rfl))) (mvT hZ (hw _ (List.mem_of_getElem? (i := 15) rfl))) (mvT hZ (hw _ (List.mem_of_getElem? (i := 3) rfl))) (mvT hZ (hw _ (List.mem_of_getElem? (i := 16) rfl))) (by decide) (backOf (W := 0) (rm4 l Z a0 hw [] a_1 fN tN sN 0 kc_1 [(nar .byte ch_4), (nar .byte ch_8), (nar .byte ch_12), (nar .byte ch_16), (nar .byte ch_20), (nar .byte ch_24)] h_25 n0 Z_27 V_26 hfN htN hsN (by decide)) hZ (hw _ (List.mem_of_getElem? (i := 16) rfl)) (hw _ (List.mem_of_getElem? (i := 3) rfl)) (by decide) (by decide)) (g := (mkF m 129 #[.val (.int x0), .val (.long x1), .second, .val (.int x2), .val (.int x3), .val (.int x4), .val (.ref a_1), .val (.int (Int32.ofNat fN)), .val (.int (Int32.ofNat tN)), .val (.int (Int32.ofNat sN)), .val (.int r_28), .unset] [(.int (0 : Int32)), (.int (Int32.ofNat sN)), (.int (Int32.ofNat tN)), (.int (Int32.ofNat fN)), (.ref a_1)])) rfl (by rw [hml]; rfl) (argsL := [(.ref a_1), (.int (Int32.ofNat fN)), (.int (Int32.ofNat tN)), (.int (Int32.ofNat sN)), (.int (0 : Int32))]) (rest := []) (lenOf pd0_2 rfl) rfl (by show 2 * 0 + _ ≤ _; exact Nat.le_of_eq rfl) (hb hby at_129) (fun _ _ => ⟨rfl, eq_28, (by decide : 1 + 0 ≤ _), (by decide : 6 + 0 ≤ _)⟩)
  dsimp only [Pt.U, Pt.locs, Pt.cells, Pt.slots] at X_29 l_29 y_29 z_29 st_29 hQ_29
  subst l_29 y_29 z_29
  refine own_st st_29 ?_
  obtain ⟨rfl, Nq_29, eq_29⟩ := hQ_29
  have N_29 := Fr.app N_28 Nq_29
  show own_Go p e below _ T_29 (mkF m 132 #[.val (.int x0), .val (.long x1), .second, .val (.int x2), .val (.int x3), .val (.int x4), .val (.ref a_1), .val (.int (Int32.ofNat fN)), .val (.int (Int32.ofNat tN)), .val (.int (Int32.ofNat sN)), .val (.int r_28), .unset] [(.int (own_b (own_H [(nar .byte ch_4), (nar .byte ch_8), (nar .byte ch_12), (nar .byte ch_16), (nar .byte ch_20), (nar .byte ch_24)] fN tN sN 0)))])
  by_cases c_30 : own_H [(nar .byte ch_4), (nar .byte ch_8), (nar .byte ch_12), (nar .byte ch_16), (nar .byte ch_20), (nar .byte ch_24)] fN tN sN 0
  · skip
    refine own_ifN X_29 hx (hb hby at_132) (own_b0_eq_f c_30) (pc' := 135) rfl ?_
    refine own_iconst X_29 hx (1) (hb hby at_135) (pc' := 136) rfl rfl ?_
    refine own_goto X_29 hx (hb hby at_136) (pc' := 236) (by decide) (by decide) ?_
    refine own_istore X_29 hx (hb hby at_236) (pc' := 238) (Ls' := #[.val (.int x0), .val (.long x1), .second, .val (.int x2), .val (.int x3), .val (.int x4), .val (.ref a_1), .val (.int (Int32.ofNat fN)), .val (.int (Int32.ofNat tN)), .val (.int (Int32.ofNat sN)), .val (.int r_28), .val (.int (1 : Int32))]) rfl rfl ?_
    refine own_iload X_29 hx (hb hby at_238) (pc' := 240) rfl rfl ?_
    refine own_iload X_29 hx (hb hby at_240) (pc' := 242) rfl rfl ?_
    refine own_icmpN X_29 hx (hb hby at_242) (XT.ii_ne_f (show r_28 = (1 : Int32) from own_first hr_28 (k := 0) (by decide) (by assumption) (fun q hq => absurd hq (Nat.not_lt_zero _)))) (pc' := 245) rfl ?_
    refine own_iconst X_29 hx (1) (hb hby at_245) (pc' := 246) rfl rfl ?_
    refine own_goto X_29 hx (hb hby at_246) (pc' := 250) (by decide) (by decide) ?_
    refine own_retZ X_29 hx hlk Bd.returns (by simp) (hb hby at_250) (by decide) (by decide) ?_
    exact ⟨rfl, N_29⟩
  · skip
    refine own_ifY X_29 hx (hb hby at_132) (own_b0_eq_t c_30) (pc' := 139) (by decide) (by decide) ?_
    refine own_aload X_29 hx (hb hby at_139) (pc' := 141) rfl rfl rfl ?_
    refine own_iload X_29 hx (hb hby at_141) (pc' := 143) rfl rfl ?_
    refine own_iload X_29 hx (hb hby at_143) (pc' := 145) rfl rfl ?_
    refine own_iload X_29 hx (hb hby at_145) (pc' := 147) rfl rfl ?_
    refine own_iconst X_29 hx (1) (hb hby at_147) (pc' := 148) rfl rfl ?_
    obtain ⟨_, _, ⟨T_31, L_31, k_31, n_31⟩, -, X_31, ⟨Lc_31, hQ_31, l_31, y_31, z_31⟩, st_31⟩ := Jvm.LawKit.callS X_29 hx (y := (⟨"com/example/nodeweave/nodeweave/server/MessageHeadEndPinLaw", "hit", "([BIIII)Z"⟩ : MethodName)) hown (mvT hZ (hw _ (List.mem_of_getElem? (i := 14) rfl))) (mvT hZ (hw _ (List.mem_of_getElem? (i := 15) rfl))) (mvT hZ (hw _ (List.mem_of_getElem? (i := 3) rfl))) (mvT hZ (hw _ (List.mem_of_getElem? (i := 16) rfl))) (by decide) (backOf (W := 0) (rm4 l Z a0 hw [] a_1 fN tN sN 1 kc_1 [(nar .byte ch_4), (nar .byte ch_8), (nar .byte ch_12), (nar .byte ch_16), (nar .byte ch_20), (nar .byte ch_24)] h_25 n0 Z_27 V_26 hfN htN hsN (by decide)) hZ (hw _ (List.mem_of_getElem? (i := 16) rfl)) (hw _ (List.mem_of_getElem? (i := 3) rfl)) (by decide) (by decide)) (g := (mkF m 148 #[.val (.int x0), .val (.long x1), .second, .val (.int x2), .val (.int x3), .val (.int x4), .val (.ref a_1), .val (.int (Int32.ofNat fN)), .val (.int (Int32.ofNat tN)), .val (.int (Int32.ofNat sN)), .val (.int r_28), .unset] [(.int (1 : Int32)), (.int (Int32.ofNat sN)), (.int (Int32.ofNat tN)), (.int (Int32.ofNat fN)), (.ref a_1)])) rfl (by rw [hml]; rfl) (argsL := [(.ref a_1), (.int (Int32.ofNat fN)), (.int (Int32.ofNat tN)), (.int (Int32.ofNat sN)), (.int (1 : Int32))]) (rest := []) (lenOf pd0_2 rfl) rfl (by show 2 * 0 + _ ≤ _; exact Nat.le_of_eq rfl) (hb hby at_148) (fun _ _ => ⟨rfl, eq_29, (by decide : 1 + 0 ≤ _), (by decide : 6 + 0 ≤ _)⟩)
    dsimp only [Pt.U, Pt.locs, Pt.cells, Pt.slots] at X_31 l_31 y_31 z_31 st_31 hQ_31
    subst l_31 y_31 z_31
    refine own_st st_31 ?_
    obtain ⟨rfl, Nq_31, eq_31⟩ := hQ_31
    have N_31 := Fr.app N_29 Nq_31
    show own_Go p e below _ T_31 (mkF m 151 #[.val (.int x0), .val (.long x1), .second, .val (.int x2), .val (.int x3), .val (.int x4), .val (.ref a_1), .val (.int (Int32.ofNat fN)), .val (.int (Int32.ofNat tN)), .val (.int (Int32.ofNat sN)), .val (.int r_28), .unset] [(.int (own_b (own_H [(nar .byte ch_4), (nar .byte ch_8), (nar .byte ch_12), (nar .byte ch_16), (nar .byte ch_20), (nar .byte ch_24)] fN tN sN 1)))])
    by_cases c_32 : own_H [(nar .byte ch_4), (nar .byte ch_8), (nar .byte ch_12), (nar .byte ch_16), (nar .byte ch_20), (nar .byte ch_24)] fN tN sN 1
    · skip
      refine own_ifN X_31 hx (hb hby at_151) (own_b0_eq_f c_32) (pc' := 154) rfl ?_
      refine own_iconst X_31 hx (2) (hb hby at_154) (pc' := 155) rfl rfl ?_
      refine own_goto X_31 hx (hb hby at_155) (pc' := 236) (by decide) (by decide) ?_
      refine own_istore X_31 hx (hb hby at_236) (pc' := 238) (Ls' := #[.val (.int x0), .val (.long x1), .second, .val (.int x2), .val (.int x3), .val (.int x4), .val (.ref a_1), .val (.int (Int32.ofNat fN)), .val (.int (Int32.ofNat tN)), .val (.int (Int32.ofNat sN)), .val (.int r_28), .val (.int (2 : Int32))]) rfl rfl ?_
      refine own_iload X_31 hx (hb hby at_238) (pc' := 240) rfl rfl ?_
      refine own_iload X_31 hx (hb hby at_240) (pc' := 242) rfl rfl ?_
      refine own_icmpN X_31 hx (hb hby at_242) (XT.ii_ne_f (show r_28 = (2 : Int32) from own_first hr_28 (k := 1) (by decide) (by assumption) (fun q hq => by rcases (show q = 0 by omega) with rfl <;> assumption))) (pc' := 245) rfl ?_
      refine own_iconst X_31 hx (1) (hb hby at_245) (pc' := 246) rfl rfl ?_
      refine own_goto X_31 hx (hb hby at_246) (pc' := 250) (by decide) (by decide) ?_
      refine own_retZ X_31 hx hlk Bd.returns (by simp) (hb hby at_250) (by decide) (by decide) ?_
      exact ⟨rfl, N_31⟩
    · skip
      refine own_ifY X_31 hx (hb hby at_151) (own_b0_eq_t c_32) (pc' := 158) (by decide) (by decide) ?_
      refine own_aload X_31 hx (hb hby at_158) (pc' := 160) rfl rfl rfl ?_
      refine own_iload X_31 hx (hb hby at_160) (pc' := 162) rfl rfl ?_
      refine own_iload X_31 hx (hb hby at_162) (pc' := 164) rfl rfl ?_
      refine own_iload X_31 hx (hb hby at_164) (pc' := 166) rfl rfl ?_
      refine own_iconst X_31 hx (2) (hb hby at_166) (pc' := 167) rfl rfl ?_
      obtain ⟨_, _, ⟨T_33, L_33, k_33, n_33⟩, -, X_33, ⟨Lc_33, hQ_33, l_33, y_33, z_33⟩, st_33⟩ := Jvm.LawKit.callS X_31 hx (y := (⟨"com/example/nodeweave/nodeweave/server/MessageHeadEndPinLaw", "hit", "([BIIII)Z"⟩ : MethodName)) hown (mvT hZ (hw _ (List.mem_of_getElem? (i := 14) rfl))) (mvT hZ (hw _ (List.mem_of_getElem? (i := 15) rfl))) (mvT hZ (hw _ (List.mem_of_getElem? (i := 3) rfl))) (mvT hZ (hw _ (List.mem_of_getElem? (i := 16) rfl))) (by decide) (backOf (W := 0) (rm4 l Z a0 hw [] a_1 fN tN sN 2 kc_1 [(nar .byte ch_4), (nar .byte ch_8), (nar .byte ch_12), (nar .byte ch_16), (nar .byte ch_20), (nar .byte ch_24)] h_25 n0 Z_27 V_26 hfN htN hsN (by decide)) hZ (hw _ (List.mem_of_getElem? (i := 16) rfl)) (hw _ (List.mem_of_getElem? (i := 3) rfl)) (by decide) (by decide)) (g := (mkF m 167 #[.val (.int x0), .val (.long x1), .second, .val (.int x2), .val (.int x3), .val (.int x4), .val (.ref a_1), .val (.int (Int32.ofNat fN)), .val (.int (Int32.ofNat tN)), .val (.int (Int32.ofNat sN)), .val (.int r_28), .unset] [(.int (2 : Int32)), (.int (Int32.ofNat sN)), (.int (Int32.ofNat tN)), (.int (Int32.ofNat fN)), (.ref a_1)])) rfl (by rw [hml]; rfl) (argsL := [(.ref a_1), (.int (Int32.ofNat fN)), (.int (Int32.ofNat tN)), (.int (Int32.ofNat sN)), (.int (2 : Int32))]) (rest := []) (lenOf pd0_2 rfl) rfl (by show 2 * 0 + _ ≤ _; exact Nat.le_of_eq rfl) (hb hby at_167) (fun _ _ => ⟨rfl, eq_31, (by decide : 1 + 0 ≤ _), (by decide : 6 + 0 ≤ _)⟩)
      dsimp only [Pt.U, Pt.locs, Pt.cells, Pt.slots] at X_33 l_33 y_33 z_33 st_33 hQ_33
      subst l_33 y_33 z_33
      refine own_st st_33 ?_
      obtain ⟨rfl, Nq_33, eq_33⟩ := hQ_33
      have N_33 := Fr.app N_31 Nq_33
      show own_Go p e below _ T_33 (mkF m 170 #[.val (.int x0), .val (.long x1), .second, .val (.int x2), .val (.int x3), .val (.int x4), .val (.ref a_1), .val (.int (Int32.ofNat fN)), .val (.int (Int32.ofNat tN)), .val (.int (Int32.ofNat sN)), .val (.int r_28), .unset] [(.int (own_b (own_H [(nar .byte ch_4), (nar .byte ch_8), (nar .byte ch_12), (nar .byte ch_16), (nar .byte ch_20), (nar .byte ch_24)] fN tN sN 2)))])
      by_cases c_34 : own_H [(nar .byte ch_4), (nar .byte ch_8), (nar .byte ch_12), (nar .byte ch_16), (nar .byte ch_20), (nar .byte ch_24)] fN tN sN 2
      · skip
        refine own_ifN X_33 hx (hb hby at_170) (own_b0_eq_f c_34) (pc' := 173) rfl ?_
        refine own_iconst X_33 hx (3) (hb hby at_173) (pc' := 174) rfl rfl ?_
        refine own_goto X_33 hx (hb hby at_174) (pc' := 236) (by decide) (by decide) ?_
        refine own_istore X_33 hx (hb hby at_236) (pc' := 238) (Ls' := #[.val (.int x0), .val (.long x1), .second, .val (.int x2), .val (.int x3), .val (.int x4), .val (.ref a_1), .val (.int (Int32.ofNat fN)), .val (.int (Int32.ofNat tN)), .val (.int (Int32.ofNat sN)), .val (.int r_28), .val (.int (3 : Int32))]) rfl rfl ?_
        refine own_iload X_33 hx (hb hby at_238) (pc' := 240) rfl rfl ?_
        refine own_iload X_33 hx (hb hby at_240) (pc' := 242) rfl rfl ?_
        refine own_icmpN X_33 hx (hb hby at_242) (XT.ii_ne_f (show r_28 = (3 : Int32) from own_first hr_28 (k := 2) (by decide) (by assumption) (fun q hq => by rcases (show q = 0 ∨ q = 1 by omega) with rfl | rfl <;> assumption))) (pc' := 245) rfl ?_
        refine own_iconst X_33 hx (1) (hb hby at_245) (pc' := 246) rfl rfl ?_
        refine own_goto X_33 hx (hb hby at_246) (pc' := 250) (by decide) (by decide) ?_
        refine own_retZ X_33 hx hlk Bd.returns (by simp) (hb hby at_250) (by decide) (by decide) ?_
        exact ⟨rfl, N_33⟩
      · skip
        refine own_ifY X_33 hx (hb hby at_170) (own_b0_eq_t c_34) (pc' := 177) (by decide) (by decide) ?_
        refine own_aload X_33 hx (hb hby at_177) (pc' := 179) rfl rfl rfl ?_
        refine own_iload X_33 hx (hb hby at_179) (pc' := 181) rfl rfl ?_
        refine own_iload X_33 hx (hb hby at_181) (pc' := 183) rfl rfl ?_
        refine own_iload X_33 hx (hb hby at_183) (pc' := 185) rfl rfl ?_
        refine own_iconst X_33 hx (3) (hb hby at_185) (pc' := 186) rfl rfl ?_
        obtain ⟨_, _, ⟨T_35, L_35, k_35, n_35⟩, -, X_35, ⟨Lc_35, hQ_35, l_35, y_35, z_35⟩, st_35⟩ := Jvm.LawKit.callS X_33 hx (y := (⟨"com/example/nodeweave/nodeweave/server/MessageHeadEndPinLaw", "hit", "([BIIII)Z"⟩ : MethodName)) hown (mvT hZ (hw _ (List.mem_of_getElem? (i := 14) rfl))) (mvT hZ (hw _ (List.mem_of_getElem? (i := 15) rfl))) (mvT hZ (hw _ (List.mem_of_getElem? (i := 3) rfl))) (mvT hZ (hw _ (List.mem_of_getElem? (i := 16) rfl))) (by decide) (backOf (W := 0) (rm4 l Z a0 hw [] a_1 fN tN sN 3 kc_1 [(nar .byte ch_4), (nar .byte ch_8), (nar .byte ch_12), (nar .byte ch_16), (nar .byte ch_20), (nar .byte ch_24)] h_25 n0 Z_27 V_26 hfN htN hsN (by decide)) hZ (hw _ (List.mem_of_getElem? (i := 16) rfl)) (hw _ (List.mem_of_getElem? (i := 3) rfl)) (by decide) (by decide)) (g := (mkF m 186 #[.val (.int x0), .val (.long x1), .second, .val (.int x2), .val (.int x3), .val (.int x4), .val (.ref a_1), .val (.int (Int32.ofNat fN)), .val (.int (Int32.ofNat tN)), .val (.int (Int32.ofNat sN)), .val (.int r_28), .unset] [(.int (3 : Int32)), (.int (Int32.ofNat sN)), (.int (Int32.ofNat tN)), (.int (Int32.ofNat fN)), (.ref a_1)])) rfl (by rw [hml]; rfl) (argsL := [(.ref a_1), (.int (Int32.ofNat fN)), (.int (Int32.ofNat tN)), (.int (Int32.ofNat sN)), (.int (3 : Int32))]) (rest := []) (lenOf pd0_2 rfl) rfl (by show 2 * 0 + _ ≤ _; exact Nat.le_of_eq rfl) (hb hby at_186) (fun _ _ => ⟨rfl, eq_33, (by decide : 1 + 0 ≤ _), (by decide : 6 + 0 ≤ _)⟩)
        dsimp only [Pt.U, Pt.locs, Pt.cells, Pt.slots] at X_35 l_35 y_35 z_35 st_35 hQ_35
        subst l_35 y_35 z_35
        refine own_st st_35 ?_
        obtain ⟨rfl, Nq_35, eq_35⟩ := hQ_35
        have N_35 := Fr.app N_33 Nq_35
        show own_Go p e below _ T_35 (mkF m 189 #[.val (.int x0), .val (.long x1), .second, .val (.int x2), .val (.int x3), .val (.int x4), .val (.ref a_1), .val (.int (Int32.ofNat fN)), .val (.int (Int32.ofNat tN)), .val (.int (Int32.ofNat sN)), .val (.int r_28), .unset] [(.int (own_b (own_H [(nar .byte ch_4), (nar .byte ch_8), (nar .byte ch_12), (nar .byte ch_16), (nar .byte ch_20), (nar .byte ch_24)] fN tN sN 3)))])
        by_cases c_36 : own_H [(nar .byte ch_4), (nar .byte ch_8), (nar .byte ch_12), (nar .byte ch_16), (nar .byte ch_20), (nar .byte ch_24)] fN tN sN 3
        · skip
          refine own_ifN X_35 hx (hb hby at_189) (own_b0_eq_f c_36) (pc' := 192) rfl ?_
          refine own_iconst X_35 hx (4) (hb hby at_192) (pc' := 193) rfl rfl ?_
          refine own_goto X_35 hx (hb hby at_193) (pc' := 236) (by decide) (by decide) ?_
          refine own_istore X_35 hx (hb hby at_236) (pc' := 238) (Ls' := #[.val (.int x0), .val (.long x1), .second, .val (.int x2), .val (.int x3), .val (.int x4), .val (.ref a_1), .val (.int (Int32.ofNat fN)), .val (.int (Int32.ofNat tN)), .val (.int (Int32.ofNat sN)), .val (.int r_28), .val (.int (4 : Int32))]) rfl rfl ?_
          refine own_iload X_35 hx (hb hby at_238) (pc' := 240) rfl rfl ?_
          refine own_iload X_35 hx (hb hby at_240) (pc' := 242) rfl rfl ?_
          refine own_icmpN X_35 hx (hb hby at_242) (XT.ii_ne_f (show r_28 = (4 : Int32) from own_first hr_28 (k := 3) (by decide) (by assumption) (fun q hq => by rcases (show q = 0 ∨ q = 1 ∨ q = 2 by omega) with rfl | rfl | rfl <;> assumption))) (pc' := 245) rfl ?_
          refine own_iconst X_35 hx (1) (hb hby at_245) (pc' := 246) rfl rfl ?_
          refine own_goto X_35 hx (hb hby at_246) (pc' := 250) (by decide) (by decide) ?_
          refine own_retZ X_35 hx hlk Bd.returns (by simp) (hb hby at_250) (by decide) (by decide) ?_
          exact ⟨rfl, N_35⟩
        · skip
          refine own_ifY X_35 hx (hb hby at_189) (own_b0_eq_t c_36) (pc' := 196) (by decide) (by decide) ?_
          refine own_aload X_35 hx (hb hby at_196) (pc' := 198) rfl rfl rfl ?_
          refine own_iload X_35 hx (hb hby at_198) (pc' := 200) rfl rfl ?_
          refine own_iload X_35 hx (hb hby at_200) (pc' := 202) rfl rfl ?_
          refine own_iload X_35 hx (hb hby at_202) (pc' := 204) rfl rfl ?_
          refine own_iconst X_35 hx (4) (hb hby at_204) (pc' := 205) rfl rfl ?_
          obtain ⟨_, _, ⟨T_37, L_37, k_37, n_37⟩, -, X_37, ⟨Lc_37, hQ_37, l_37, y_37, z_37⟩, st_37⟩ := Jvm.LawKit.callS X_35 hx (y := (⟨"com/example/nodeweave/nodeweave/server/MessageHeadEndPinLaw", "hit", "([BIIII)Z"⟩ : MethodName)) hown (mvT hZ (hw _ (List.mem_of_getElem? (i := 14) rfl))) (mvT hZ (hw _ (List.mem_of_getElem? (i := 15) rfl))) (mvT hZ (hw _ (List.mem_of_getElem? (i := 3) rfl))) (mvT hZ (hw _ (List.mem_of_getElem? (i := 16) rfl))) (by decide) (backOf (W := 0) (rm4 l Z a0 hw [] a_1 fN tN sN 4 kc_1 [(nar .byte ch_4), (nar .byte ch_8), (nar .byte ch_12), (nar .byte ch_16), (nar .byte ch_20), (nar .byte ch_24)] h_25 n0 Z_27 V_26 hfN htN hsN (by decide)) hZ (hw _ (List.mem_of_getElem? (i := 16) rfl)) (hw _ (List.mem_of_getElem? (i := 3) rfl)) (by decide) (by decide)) (g := (mkF m 205 #[.val (.int x0), .val (.long x1), .second, .val (.int x2), .val (.int x3), .val (.int x4), .val (.ref a_1), .val (.int (Int32.ofNat fN)), .val (.int (Int32.ofNat tN)), .val (.int (Int32.ofNat sN)), .val (.int r_28), .unset] [(.int (4 : Int32)), (.int (Int32.ofNat sN)), (.int (Int32.ofNat tN)), (.int (Int32.ofNat fN)), (.ref a_1)])) rfl (by rw [hml]; rfl) (argsL := [(.ref a_1), (.int (Int32.ofNat fN)), (.int (Int32.ofNat tN)), (.int (Int32.ofNat sN)), (.int (4 : Int32))]) (rest := []) (lenOf pd0_2 rfl) rfl (by show 2 * 0 + _ ≤ _; exact Nat.le_of_eq rfl) (hb hby at_205) (fun _ _ => ⟨rfl, eq_35, (by decide : 1 + 0 ≤ _), (by decide : 6 + 0 ≤ _)⟩)
          dsimp only [Pt.U, Pt.locs, Pt.cells, Pt.slots] at X_37 l_37 y_37 z_37 st_37 hQ_37
          subst l_37 y_37 z_37
          refine own_st st_37 ?_
          obtain ⟨rfl, Nq_37, eq_37⟩ := hQ_37
          have N_37 := Fr.app N_35 Nq_37
          show own_Go p e below _ T_37 (mkF m 208 #[.val (.int x0), .val (.long x1), .second, .val (.int x2), .val (.int x3), .val (.int x4), .val (.ref a_1), .val (.int (Int32.ofNat fN)), .val (.int (Int32.ofNat tN)), .val (.int (Int32.ofNat sN)), .val (.int r_28), .unset] [(.int (own_b (own_H [(nar .byte ch_4), (nar .byte ch_8), (nar .byte ch_12), (nar .byte ch_16), (nar .byte ch_20), (nar .byte ch_24)] fN tN sN 4)))])
          by_cases c_38 : own_H [(nar .byte ch_4), (nar .byte ch_8), (nar .byte ch_12), (nar .byte ch_16), (nar .byte ch_20), (nar .byte ch_24)] fN tN sN 4
          · skip
            refine own_ifN X_37 hx (hb hby at_208) (own_b0_eq_f c_38) (pc' := 211) rfl ?_
            refine own_iconst X_37 hx (5) (hb hby at_211) (pc' := 212) rfl rfl ?_
            refine own_goto X_37 hx (hb hby at_212) (pc' := 236) (by decide) (by decide) ?_
            refine own_istore X_37 hx (hb hby at_236) (pc' := 238) (Ls' := #[.val (.int x0), .val (.long x1), .second, .val (.int x2), .val (.int x3), .val (.int x4), .val (.ref a_1), .val (.int (Int32.ofNat fN)), .val (.int (Int32.ofNat tN)), .val (.int (Int32.ofNat sN)), .val (.int r_28), .val (.int (5 : Int32))]) rfl rfl ?_
            refine own_iload X_37 hx (hb hby at_238) (pc' := 240) rfl rfl ?_
            refine own_iload X_37 hx (hb hby at_240) (pc' := 242) rfl rfl ?_
            refine own_icmpN X_37 hx (hb hby at_242) (XT.ii_ne_f (show r_28 = (5 : Int32) from own_first hr_28 (k := 4) (by decide) (by assumption) (fun q hq => by rcases (show q = 0 ∨ q = 1 ∨ q = 2 ∨ q = 3 by omega) with rfl | rfl | rfl | rfl <;> assumption))) (pc' := 245) rfl ?_
            refine own_iconst X_37 hx (1) (hb hby at_245) (pc' := 246) rfl rfl ?_
            refine own_goto X_37 hx (hb hby at_246) (pc' := 250) (by decide) (by decide) ?_
            refine own_retZ X_37 hx hlk Bd.returns (by simp) (hb hby at_250) (by decide) (by decide) ?_
            exact ⟨rfl, N_37⟩
          · skip
            refine own_ifY X_37 hx (hb hby at_208) (own_b0_eq_t c_38) (pc' := 215) (by decide) (by decide) ?_
            refine own_aload X_37 hx (hb hby at_215) (pc' := 217) rfl rfl rfl ?_
            refine own_iload X_37 hx (hb hby at_217) (pc' := 219) rfl rfl ?_
            refine own_iload X_37 hx (hb hby at_219) (pc' := 221) rfl rfl ?_
            refine own_iload X_37 hx (hb hby at_221) (pc' := 223) rfl rfl ?_
            refine own_iconst X_37 hx (5) (hb hby at_223) (pc' := 224) rfl rfl ?_
            obtain ⟨_, _, ⟨T_39, L_39, k_39, n_39⟩, -, X_39, ⟨Lc_39, hQ_39, l_39, y_39, z_39⟩, st_39⟩ := Jvm.LawKit.callS X_37 hx (y := (⟨"com/example/nodeweave/nodeweave/server/MessageHeadEndPinLaw", "hit", "([BIIII)Z"⟩ : MethodName)) hown (mvT hZ (hw _ (List.mem_of_getElem? (i := 14) rfl))) (mvT hZ (hw _ (List.mem_of_getElem? (i := 15) rfl))) (mvT hZ (hw _ (List.mem_of_getElem? (i := 3) rfl))) (mvT hZ (hw _ (List.mem_of_getElem? (i := 16) rfl))) (by decide) (backOf (W := 0) (rm4 l Z a0 hw [] a_1 fN tN sN 5 kc_1 [(nar .byte ch_4), (nar .byte ch_8), (nar .byte ch_12), (nar .byte ch_16), (nar .byte ch_20), (nar .byte ch_24)] h_25 n0 Z_27 V_26 hfN htN hsN (by decide)) hZ (hw _ (List.mem_of_getElem? (i := 16) rfl)) (hw _ (List.mem_of_getElem? (i := 3) rfl)) (by decide) (by decide)) (g := (mkF m 224 #[.val (.int x0), .val (.long x1), .second, .val (.int x2), .val (.int x3), .val (.int x4), .val (.ref a_1), .val (.int (Int32.ofNat fN)), .val (.int (Int32.ofNat tN)), .val (.int (Int32.ofNat sN)), .val (.int r_28), .unset] [(.int (5 : Int32)), (.int (Int32.ofNat sN)), (.int (Int32.ofNat tN)), (.int (Int32.ofNat fN)), (.ref a_1)])) rfl (by rw [hml]; rfl) (argsL := [(.ref a_1), (.int (Int32.ofNat fN)), (.int (Int32.ofNat tN)), (.int (Int32.ofNat sN)), (.int (5 : Int32))]) (rest := []) (lenOf pd0_2 rfl) rfl (by show 2 * 0 + _ ≤ _; exact Nat.le_of_eq rfl) (hb hby at_224) (fun _ _ => ⟨rfl, eq_37, (by decide : 1 + 0 ≤ _), (by decide : 6 + 0 ≤ _)⟩)
            dsimp only [Pt.U, Pt.locs, Pt.cells, Pt.slots] at X_39 l_39 y_39 z_39 st_39 hQ_39
            subst l_39 y_39 z_39
            refine own_st st_39 ?_
            obtain ⟨rfl, Nq_39, eq_39⟩ := hQ_39
            have N_39 := Fr.app N_37 Nq_39
            show own_Go p e below _ T_39 (mkF m 227 #[.val (.int x0), .val (.long x1), .second, .val (.int x2), .val (.int x3), .val (.int x4), .val (.ref a_1), .val (.int (Int32.ofNat fN)), .val (.int (Int32.ofNat tN)), .val (.int (Int32.ofNat sN)), .val (.int r_28), .unset] [(.int (own_b (own_H [(nar .byte ch_4), (nar .byte ch_8), (nar .byte ch_12), (nar .byte ch_16), (nar .byte ch_20), (nar .byte ch_24)] fN tN sN 5)))])
            by_cases c_40 : own_H [(nar .byte ch_4), (nar .byte ch_8), (nar .byte ch_12), (nar .byte ch_16), (nar .byte ch_20), (nar .byte ch_24)] fN tN sN 5
            · skip
              refine own_ifN X_39 hx (hb hby at_227) (own_b0_eq_f c_40) (pc' := 230) rfl ?_
              refine own_bipush X_39 hx (6) (hb hby at_230) (pc' := 232) rfl (by decide) ?_
              refine own_goto X_39 hx (hb hby at_232) (pc' := 236) (by decide) (by decide) ?_
              refine own_istore X_39 hx (hb hby at_236) (pc' := 238) (Ls' := #[.val (.int x0), .val (.long x1), .second, .val (.int x2), .val (.int x3), .val (.int x4), .val (.ref a_1), .val (.int (Int32.ofNat fN)), .val (.int (Int32.ofNat tN)), .val (.int (Int32.ofNat sN)), .val (.int r_28), .val (.int (6 : Int32))]) rfl rfl ?_
              refine own_iload X_39 hx (hb hby at_238) (pc' := 240) rfl rfl ?_
              refine own_iload X_39 hx (hb hby at_240) (pc' := 242) rfl rfl ?_
              refine own_icmpN X_39 hx (hb hby at_242) (XT.ii_ne_f (show r_28 = (6 : Int32) from own_first hr_28 (k := 5) (by decide) (by assumption) (fun q hq => by rcases (show q = 0 ∨ q = 1 ∨ q = 2 ∨ q = 3 ∨ q = 4 by omega) with rfl | rfl | rfl | rfl | rfl <;> assumption))) (pc' := 245) rfl ?_
              refine own_iconst X_39 hx (1) (hb hby at_245) (pc' := 246) rfl rfl ?_
              refine own_goto X_39 hx (hb hby at_246) (pc' := 250) (by decide) (by decide) ?_
              refine own_retZ X_39 hx hlk Bd.returns (by simp) (hb hby at_250) (by decide) (by decide) ?_
              exact ⟨rfl, N_39⟩
            · skip
              refine own_ifY X_39 hx (hb hby at_227) (own_b0_eq_t c_40) (pc' := 235) (by decide) (by decide) ?_
              refine own_iconst X_39 hx (-1) (hb hby at_235) (pc' := 236) rfl rfl ?_
              refine own_istore X_39 hx (hb hby at_236) (pc' := 238) (Ls' := #[.val (.int x0), .val (.long x1), .second, .val (.int x2), .val (.int x3), .val (.int x4), .val (.ref a_1), .val (.int (Int32.ofNat fN)), .val (.int (Int32.ofNat tN)), .val (.int (Int32.ofNat sN)), .val (.int r_28), .val (.int (-1 : Int32))]) rfl rfl ?_
              refine own_iload X_39 hx (hb hby at_238) (pc' := 240) rfl rfl ?_
              refine own_iload X_39 hx (hb hby at_240) (pc' := 242) rfl rfl ?_
              refine own_icmpN X_39 hx (hb hby at_242) (XT.ii_ne_f (own_none hr_28 (fun q hq => by rcases (show q = 0 ∨ q = 1 ∨ q = 2 ∨ q = 3 ∨ q = 4 ∨ q = 5 by omega) with rfl | rfl | rfl | rfl | rfl | rfl <;> assumption))) (pc' := 245) rfl ?_
              refine own_iconst X_39 hx (1) (hb hby at_245) (pc' := 246) rfl rfl ?_
              refine own_goto X_39 hx (hb hby at_246) (pc' := 250) (by decide) (by decide) ?_
              refine own_retZ X_39 hx hlk Bd.returns (by simp) (hb hby at_250) (by decide) (by decide) ?_
              exact ⟨rfl, N_39⟩
set_option maxRecDepth 65536 in
set_option maxHeartbeats 40000000 in
theorem comes_1 {Post : Tables → Env → Array Value → State → Outcome → State → Prop} (hpost : ∀ tb e args s v u, (limb_1_1.after args s (.returned v) u = true ∧ limb_1_2.after args s (.returned v) u = true ∧ True) → FrameEnd s (.returned v) u (Jvm.fieldLocs frame_1_writes args s ++ Jvm.arrayLocs frame_1_arrays args s ++ Jvm.staticLocs frame_1_statics s) 16 128 → Post tb e args s (.returned v) u) :
    ArmFor flags0 classFile x code maxLocals ret World_1 tables_1 room_1 Calls_1 rest_1 Pre_1 Post := by
  intro l hfl _ _ p e ha hc hk s m args below hf hA hF happ hP
  obtain ⟨hcalls, hrest, hpre⟩ := hP
  obtain ⟨-, -, -, hnamed, -, -, -, hat⟩ := (Spec.applies_iff hf).mp happ
  obtain ⟨hg, hn⟩ := and_e (Cond.before_iff.mp (show (Jvm.Cond.and given_1 narrow_1).before args s = true from hpre))
  obtain ⟨gc, gr0⟩ := and_e hg
  obtain ⟨ga0, gr1⟩ := and_e gr0
  obtain ⟨ga1, gr2⟩ := and_e gr1
  obtain ⟨ga2, gr3⟩ := and_e gr2
  obtain ⟨ga3, gr4⟩ := and_e gr3
  have ga4 := gr4
  obtain ⟨w0, w1, w2, w3, w4, rfl⟩ : ∃ w0 w1 w2 w3 w4 : Value, args = #[w0, w1, w2, w3, w4] := by
    have hs : args.size = 5 := by simpa [Cond.value, given_1] using gc
    obtain ⟨L⟩ := args
    match L, hs with
    | [w0, w1, w2, w3, w4], _ => exact ⟨w0, w1, w2, w3, w4, rfl⟩
  have hw := fun d (hd : d ∈ tables_1) => atoms_spec (ws := Jvm.Cond.code x code maxLocals ret :: tables_1) hat d (List.mem_cons_of_mem _ hd)
  have hfit : Fit s := fun {y c} hc i hi => by
    obtain ⟨ha, rfl⟩ := Array.getElem?_eq_some_iff.mp hc
    have q := List.all_eq_true.mp ((Array.all_eq_true_iff_forall_mem.mp hF) _ (Array.getElem_mem ha)) i (List.mem_range.mpr hi)
    simpa [Array.getElem?_eq_getElem hi] using q
  obtain ⟨i0, ei0⟩ := is_v ga0
  obtain rfl : w0 = (.int i0) := Option.some.inj ei0
  obtain ⟨i1, ei1⟩ := isL_v ga1
  obtain rfl : w1 = (.long i1) := Option.some.inj ei1
  obtain ⟨i2, ei2⟩ := is_v ga2
  obtain rfl : w2 = (.int i2) := Option.some.inj ei2
  obtain ⟨i3, ei3⟩ := is_v ga3
  obtain rfl : w3 = (.int i3) := Option.some.inj ei3
  obtain ⟨i4, ei4⟩ := is_v ga4
  obtain rfl : w4 = (.int i4) := Option.some.inj ei4
  obtain ⟨n, o, h1, h2, h3, _, L, rfl, ⟨rfl, N⟩, hq⟩ := rm0 l s _ hw tables_1 i0 i1 i2 i3 i4 s.heap s.heap.size (Nat.le_refl _)  p e ha hc hk s m _ below hf ((Spec.applies_iff_loose hf).mp happ).1 ⟨rfl, State.Warmed39.refl s, rfl⟩ trivial
  refine ⟨n, _, h1, h2, h3, hpost _ _ _ _ _ _ ⟨Cond.after_iff.mpr rfl, Cond.after_iff.mpr (eq_i res_at (Term.int_eval (1)) rfl), trivial⟩ ⟨hq.1, hq.2.1, (hq.2.2.sift fun y hy => Or.inr (N y hy)).mono (by decide) (by decide)⟩⟩
theorem main_1_1 : Claimed_1_1 := comes_1 fun _ _ _ _ _ _ h hF => ⟨h.1, hF⟩
theorem main_1_2 : Claimed_1_2 := comes_1 fun _ _ _ _ _ _ h hF => ⟨h.2.1, hF⟩
end Jvm.Pilot.@@N@@
namespace Jvm.Pilot.@@N@@
open Jvm Jvm.ClassFile Sem Op Lib Jvm.Free Jvm.Stand Jvm.Pilot.@@N@@.Jvm.D
/-! MADE BY PROGRAM (witnessworld.py) out of the Statement's table words and the real class files: 10 classes; the members and pool entries that the words name. The judged class is class 1, her method 1. -/
namespace start1
open Jvm.ClassFile
def u (s : String) : CpInfo := .utf8 (stringToUtf16 s)
/-- a pool by its gaps: so many unusable entries, then the entry; so many at the end -/
def gap : Nat → List CpInfo → List CpInfo
  | 0, r => r
  | n + 1, r => .unusable :: gap n r
def poolList (es : List (Nat × CpInfo)) (last : Nat) : List CpInfo := es.foldr (fun e r => gap e.1 (e.2 :: r)) (gap last [])
def pool (es : List (Nat × CpInfo)) (last : Nat) : Array CpInfo := ⟨poolList es last⟩
def fileOf (pool : Array CpInfo) (this : Nat) (attrs : Array Attribute := #[]) (ms : Array MethodInfo := #[]) (fl : Nat := 33) (sup : Nat := 0) (ifs : Array Nat := #[]) (fds : Array FieldInfo := #[]) : ClassFile where
  minorVersion := 0
  majorVersion := 65
  constantPool := pool
  accessFlags := fl
  thisClass := this
  superClass := sup
  interfaces := ifs
  fields := fds
  methods := ms
  attributes := attrs
def plain (name : String) (sup : Option ClassId) : Class where
  name := name
  kind := .ordinary
  loader := none
  accessFlags := 33
  super := sup
  interfaces := #[]
  cf := none
  fields := #[]
  methods := #[]
  instanceTypes := #[]
  staticTypes := #[]
  resolved := #[]
  callSites := []
  init := .initialized
  statics := none
  mirror := none

def pool0 : Array CpInfo := pool [(5, u "<init>"), (0, u "()V"), (1, .class_ 10), (1, u "java/lang/Object")] 113

def k0m0 : Method := { name := "<init>", desc := "()V", sig := { parameters := [], returnType := none }, accessFlags := 1, code := none }
/-- java/lang/Object -/
def k0 : Class := { plain "java/lang/Object" none with
  accessFlags := 33
  interfaces := #[]
  cf := some (fileOf pool0 8 #[] #[{ accessFlags := 1, nameIndex := 5, descriptorIndex := 6, attributes := #[] }] 33 0 #[] #[])
  fields := #[]
  methods := #[k0m0]
  instanceTypes := #[]
  staticTypes := #[]
  resolved := Array.replicate 124 none
  statics := none }

def pool1 : Array CpInfo := pool [(2, .class_ 4), (1, u "java/lang/Object"), (0, u "<init>"), (0, u "()V"), (0, .methodref 8 9), (0, .class_ 10), (0, .nameAndType 11 12), (0, u "com/example/nodeweave/nodeweave/server/MessageHeadEndPinLaw"), (0, u "pick"), (0, u "(IJI)B"), (0, .integer 2147483647), (0, .methodref 15 16), (0, .class_ 17), (0, .nameAndType 18 19), (0, u "com/example/nodeweave/nodeweave/server/MessageHead"), (0, u "end"), (0, u "([BIII)I"), (0, .methodref 8 21), (0, .nameAndType 22 23), (0, u "hit"), (0, u "([BIIII)Z"), (2, u "law"), (0, u "(IJIII)Z")] 5

def k1m0 : Method := { name := "<init>", desc := "()V", sig := { parameters := [], returnType := none }, accessFlags := 1, code := none }
def k1c1 : Code := { maxStack := 6, maxLocals := 12, code := code, exceptionTable := #[], attributes := #[] }
def k1m1 : Method := { name := "law", desc := "(IJIII)Z", sig := { parameters := [.int, .long, .int, .int, .int], returnType := some .boolean }, accessFlags := 9, code := some k1c1 }
def k1c2 : Code := { maxStack := 4, maxLocals := 5, code := method_3_code, exceptionTable := #[], attributes := #[] }
def k1m2 : Method := { name := "pick", desc := "(IJI)B", sig := { parameters := [.int, .long, .int], returnType := some .byte }, accessFlags := 10, code := some k1c2 }
def k1c3 : Code := { maxStack := 3, maxLocals := 7, code := method_4_code, exceptionTable := #[], attributes := #[] }
def k1m3 : Method := { name := "hit", desc := "([BIIII)Z", sig := { parameters := [(.array .byte), .int, .int, .int, .int], returnType := some .boolean }, accessFlags := 10, code := some k1c3 }
/-- com/example/nodeweave/nodeweave/server/MessageHeadEndPinLaw -/
def k1 : Class := { plain "com/example/nodeweave/nodeweave/server/MessageHeadEndPinLaw" (some 0) with
  accessFlags := 49
  interfaces := #[]
  cf := some (fileOf pool1 8 #[] #[{ accessFlags := 1, nameIndex := 5, descriptorIndex := 6, attributes := #[] }, { accessFlags := 9, nameIndex := 26, descriptorIndex := 27, attributes := #[] }, { accessFlags := 10, nameIndex := 11, descriptorIndex := 12, attributes := #[] }, { accessFlags := 10, nameIndex := 22, descriptorIndex := 23, attributes := #[] }] 49 2 #[] #[])
  fields := #[]
  methods := #[k1m0, k1m1, k1m2, k1m3]
  instanceTypes := #[]
  staticTypes := #[]
  resolved := Array.replicate 33 none
  statics := none }

def pool2 : Array CpInfo := pool [(2, .class_ 4), (1, u "java/lang/Object"), (0, u "<init>"), (0, u "()V"), (14, .class_ 22), (0, u "com/example/nodeweave/nodeweave/server/MessageHead"), (12, .methodref 36 37), (0, .class_ 38), (0, .nameAndType 39 40), (0, u "java/lang/Math"), (0, u "max"), (0, u "(II)I"), (80, u "TOKEN_MARKS"), (0, u "Ljava/lang/String;"), (5, u "end"), (0, u "([BIII)I")] 29

def k2m0 : Method := { name := "<init>", desc := "()V", sig := { parameters := [], returnType := none }, accessFlags := 2, code := none }
def k2c1 : Code := { maxStack := 3, maxLocals := 5, code := prog_47_method_4_code, exceptionTable := #[], attributes := #[] }
def k2m1 : Method := { name := "end", desc := "([BIII)I", sig := { parameters := [(.array .byte), .int, .int, .int], returnType := some .int }, accessFlags := 8, code := some k2c1 }
/-- com/example/nodeweave/nodeweave/server/MessageHead -/
def k2 : Class := { plain "com/example/nodeweave/nodeweave/server/MessageHead" (some 0) with
  accessFlags := 48
  interfaces := #[]
  cf := some (fileOf pool2 21 #[] #[{ accessFlags := 2, nameIndex := 5, descriptorIndex := 6, attributes := #[] }, { accessFlags := 8, nameIndex := 128, descriptorIndex := 129, attributes := #[] }] 48 2 #[] #[{ accessFlags := 26, nameIndex := 121, descriptorIndex := 122, attributes := #[] }])
  fields := #[{ name := "TOKEN_MARKS", type := (.object "java/lang/String"), accessFlags := 26, slot := 0, constantValue := 0 }]
  methods := #[k2m0, k2m1]
  instanceTypes := #[]
  staticTypes := #[(.object "java/lang/String")]
  resolved := Array.replicate 159 none
  statics := none }

def pool3 : Array CpInfo := pool [(1, .class_ 2), (0, u "java/lang/Math"), (1, .class_ 6), (1, u "java/lang/Object"), (0, u "<init>"), (0, u "()V"), (89, .class_ 100), (1, u "java/lang/Math$RandomNumberGeneratorHolder"), (71, u "negativeZeroFloatBits"), (0, u "J"), (2, u "negativeZeroDoubleBits"), (21, u "max"), (46, u "$assertionsDisabled"), (0, u "Z"), (88, u "(II)I"), (2, u "twoToTheDoubleScaleDown"), (0, u "D"), (4, u "twoToTheDoubleScaleUp"), (9, u "E"), (3, u "PI"), (2, u "TAU"), (2, u "DEGREES_TO_RADIANS"), (0, u "RADIANS_TO_DEGREES")] 94

def k3m0 : Method := { name := "<init>", desc := "()V", sig := { parameters := [], returnType := none }, accessFlags := 2, code := none }
def k3c1 : Code := { maxStack := 2, maxLocals := 2, code := jdk_29_method_65_code, exceptionTable := #[], attributes := #[] }
def k3m1 : Method := { name := "max", desc := "(II)I", sig := { parameters := [.int, .int], returnType := some .int }, accessFlags := 9, code := some k3c1 }
/-- java/lang/Math -/
def k3 : Class := { plain "java/lang/Math" (some 0) with
  accessFlags := 49
  interfaces := #[]
  cf := some (fileOf pool3 1 #[.nestMembers #[98]] #[{ accessFlags := 2, nameIndex := 7, descriptorIndex := 8, attributes := #[] }, { accessFlags := 9, nameIndex := 198, descriptorIndex := 335, attributes := #[] }] 49 4 #[] #[{ accessFlags := 25, nameIndex := 354, descriptorIndex := 339, attributes := #[] }, { accessFlags := 25, nameIndex := 358, descriptorIndex := 339, attributes := #[] }, { accessFlags := 25, nameIndex := 361, descriptorIndex := 339, attributes := #[] }, { accessFlags := 26, nameIndex := 364, descriptorIndex := 339, attributes := #[] }, { accessFlags := 26, nameIndex := 365, descriptorIndex := 339, attributes := #[] }, { accessFlags := 26, nameIndex := 172, descriptorIndex := 173, attributes := #[] }, { accessFlags := 26, nameIndex := 176, descriptorIndex := 173, attributes := #[] }, { accessFlags := 8, nameIndex := 344, descriptorIndex := 339, attributes := #[] }, { accessFlags := 8, nameIndex := 338, descriptorIndex := 339, attributes := #[] }, { accessFlags := 4120, nameIndex := 245, descriptorIndex := 246, attributes := #[] }])
  fields := #[{ name := "E", type := .double, accessFlags := 25, slot := 0, constantValue := 0 }, { name := "PI", type := .double, accessFlags := 25, slot := 1, constantValue := 0 }, { name := "TAU", type := .double, accessFlags := 25, slot := 2, constantValue := 0 }, { name := "DEGREES_TO_RADIANS", type := .double, accessFlags := 26, slot := 3, constantValue := 0 }, { name := "RADIANS_TO_DEGREES", type := .double, accessFlags := 26, slot := 4, constantValue := 0 }, { name := "negativeZeroFloatBits", type := .long, accessFlags := 26, slot := 5, constantValue := 0 }, { name := "negativeZeroDoubleBits", type := .long, accessFlags := 26, slot := 6, constantValue := 0 }, { name := "twoToTheDoubleScaleUp", type := .double, accessFlags := 8, slot := 7, constantValue := 0 }, { name := "twoToTheDoubleScaleDown", type := .double, accessFlags := 8, slot := 8, constantValue := 0 }, { name := "$assertionsDisabled", type := .boolean, accessFlags := 4120, slot := 9, constantValue := 0 }]
  methods := #[k3m0, k3m1]
  instanceTypes := #[]
  staticTypes := #[.double, .double, .double, .double, .double, .long, .long, .double, .double, .boolean]
  resolved := Array.replicate 460 none
  statics := none }

def pool4 : Array CpInfo := pool [(1, u "java/lang/Cloneable"), (0, .class_ 1), (0, u "java/lang/Object"), (0, .class_ 3)] 3

/-- java/lang/Cloneable -/
def k4 : Class := { plain "java/lang/Cloneable" (some 0) with
  accessFlags := 1537
  interfaces := #[]
  cf := some (fileOf pool4 2 #[] #[] 1537 4 #[] #[])
  fields := #[]
  methods := #[]
  instanceTypes := #[]
  staticTypes := #[]
  resolved := Array.replicate 8 none
  statics := none }

def pool5 : Array CpInfo := pool [(1, u "java/io/Serializable"), (0, .class_ 1), (0, u "java/lang/Object"), (0, .class_ 3)] 3

/-- java/io/Serializable -/
def k5 : Class := { plain "java/io/Serializable" (some 0) with
  accessFlags := 1537
  interfaces := #[]
  cf := some (fileOf pool5 2 #[] #[] 1537 4 #[] #[])
  fields := #[]
  methods := #[]
  instanceTypes := #[]
  staticTypes := #[]
  resolved := Array.replicate 8 none
  statics := none }

/-- the primitive byte -/
def k6 : Class := { plain "byte" none with kind := .primitive 'B', accessFlags := 0x411 }
/-- [B -/
def k7 : Class := { plain "[B" (some 0) with kind := .array 6 .byte, interfaces := #[4, 5], accessFlags := 1041 }

/-- the primitive int -/
def k8 : Class := { plain "int" none with kind := .primitive 'I', accessFlags := 0x411 }
/-- [I -/
def k9 : Class := { plain "[I" (some 0) with kind := .array 8 .int, interfaces := #[4, 5], accessFlags := 1041 }

def heap : Heap := #[]
def classes : Array Class := #[k0, k1, k2, k3, k4, k5, k6, k7, k8, k9]
def interned : List (Array UInt16 × Addr) := []
def slotsUsed : Nat := 0
def theMethod : MethodId := ⟨1, 1⟩
def args0 : Array Value := #[.int 5, .long 300, .int 7, .int 2, .int 1]
def aboutOver (below : List Frame) : State where
  vm := { classes := classes, interned := interned.toArray }
  heap := heap
  slotsUsed := slotsUsed
  threads := #[{ frames := .invoking theMethod args0 :: below }]
def below0 : List Frame := [.native { method := ⟨0, 0⟩, args := #[] }]
def about1 : State := aboutOver below0
def p0 : Program := .bare "" "" ""
def e0 : Env := launch0.env 0 0 0
theorem w_frames : about1.frames = Frame.invoking theMethod args0 :: below0 := rfl
set_option maxRecDepth 65536 in
theorem w_args : argsFit about1.vm theMethod args0 = true := by decide +kernel
set_option maxRecDepth 65536 in
theorem w_heap : heapFits about1 = true := by decide +kernel
set_option maxRecDepth 65536 in
theorem w_runnable : about1.curStatus? = some .runnable := by decide +kernel
set_option maxRecDepth 65536 in
theorem w_alone : about1.alone = true := by decide +kernel
set_option maxRecDepth 65536 in
theorem w_named : about1.methodNamed? x = some theMethod := by decide +kernel
set_option maxRecDepth 65536 in
theorem w_hears : about1.hears theMethod below0 = true := by decide +kernel
set_option maxRecDepth 65536 in
theorem w_ripe : about1.ripe theMethod args0 below0 = true := by decide +kernel
theorem w_running : about1.status = .running := rfl
set_option maxRecDepth 65536 in
theorem w_room : about1.hasRoom e0.platform room_1 = true :=
  launch0.hasRoom_least _ room_1 (by decide +kernel) (by decide +kernel) (by decide +kernel) (by decide +kernel) (by decide +kernel) (by decide +kernel)
theorem allAtoms_all (ts : List Jvm.Cond) (a : Array Jvm.Value) (st : Jvm.State) : (allAtoms ts).before a st = ts.all (fun c => c.before a st) := by
  induction ts with
  | nil => rfl
  | cons c t ih =>
    show (Jvm.Cond.and c (allAtoms t)).before a st = _
    rw [Jvm.Cond.before_and, ih, List.all_cons]
def words1 : List Jvm.Cond := Jvm.Cond.code x code maxLocals ret :: tables_1
/-- a 'code' word, met by the world's own term for the bytes: nothing is compared byte by byte -/
theorem code_word {y : MethodName} {bytes : ByteArray} {mx : Nat} {rt : Option FieldType} {a : Array Value} {s : State} {m : MethodId} {meth : Method} {c : Code} (h1 : s.methodNamed? y = some m) (h2 : s.vm.method? m = some meth) (h3 : meth.code = some c) (h4 : c.code = bytes)
    (h5 : (c.maxLocals == mx && c.exceptionTable.isEmpty && decide (c.maxStack ≤ mostOperands) && decide (meth.sig.returnType = rt) && !meth.locks && decide (parseMethodDescriptor y.desc = some meth.sig)) = true) : (Jvm.Cond.code y bytes mx rt).before a s = true := by
  simp only [Bool.and_eq_true, beq_iff_eq, Bool.not_eq_true', decide_eq_true_eq] at h5
  obtain ⟨⟨⟨⟨⟨g1, g2⟩, g3⟩, g4⟩, g5⟩, g6⟩ := h5
  simp [Cond.before, Cond.holds, Cond.value, h1, h2, h3, h4, g1, g2, g3, g4, g5, g6]
def isCode : Jvm.Cond → Bool
  | .code _ _ _ _ => true
  | _ => false
theorem all_split {L : List Jvm.Cond} {P : Jvm.Cond → Bool} (h1 : L.all (fun c => isCode c || P c) = true) (h2 : ∀ c ∈ L.filter isCode, P c = true) : L.all P = true := by
  refine List.all_eq_true.mpr fun c hc => ?_
  have h := List.all_eq_true.mp h1 c hc
  rcases Bool.eq_false_or_eq_true (isCode c) with hi | hi
  · exact h2 c (List.mem_filter.mpr ⟨hc, hi⟩)
  · simpa [hi] using h
set_option maxRecDepth 65536 in
theorem w_c0 : (Jvm.Cond.code x code maxLocals ret).before args0 about1 = true := code_word (m := ⟨1, 1⟩) (meth := k1m1) (c := k1c1) (by decide +kernel) rfl rfl rfl (by decide +kernel)
set_option maxRecDepth 65536 in
theorem w_c1 : (Jvm.Cond.code ({ cls := "com/example/nodeweave/nodeweave/server/MessageHeadEndPinLaw", name := "pick", desc := "(IJI)B" } : Jvm.MethodName) method_3_code (5 : Nat) (Option.some Jvm.ClassFile.FieldType.byte)).before args0 about1 = true := code_word (m := ⟨1, 2⟩) (meth := k1m2) (c := k1c2) (by decide +kernel) rfl rfl rfl (by decide +kernel)
set_option maxRecDepth 65536 in
theorem w_c2 : (Jvm.Cond.code ({ cls := "com/example/nodeweave/nodeweave/server/MessageHead", name := "end", desc := "([BIII)I" } : Jvm.MethodName) prog_47_method_4_code (5 : Nat) (Option.some Jvm.ClassFile.FieldType.int)).before args0 about1 = true := code_word (m := ⟨2, 1⟩) (meth := k2m1) (c := k2c1) (by decide +kernel) rfl rfl rfl (by decide +kernel)
set_option maxRecDepth 65536 in
theorem w_c3 : (Jvm.Cond.code ({ cls := "java/lang/Math", name := "max", desc := "(II)I" } : Jvm.MethodName) jdk_29_method_65_code (2 : Nat) (Option.some Jvm.ClassFile.FieldType.int)).before args0 about1 = true := code_word (m := ⟨3, 1⟩) (meth := k3m1) (c := k3c1) (by decide +kernel) rfl rfl rfl (by decide +kernel)
set_option maxRecDepth 65536 in
theorem w_c4 : (Jvm.Cond.code ({ cls := "com/example/nodeweave/nodeweave/server/MessageHeadEndPinLaw", name := "hit", desc := "([BIIII)Z" } : Jvm.MethodName) method_4_code (7 : Nat) (Option.some Jvm.ClassFile.FieldType.boolean)).before args0 about1 = true := code_word (m := ⟨1, 3⟩) (meth := k1m3) (c := k1c3) (by decide +kernel) rfl rfl rfl (by decide +kernel)
def codes1 : List Jvm.Cond := [Jvm.Cond.code x code maxLocals ret, Jvm.Cond.code ({ cls := "com/example/nodeweave/nodeweave/server/MessageHeadEndPinLaw", name := "pick", desc := "(IJI)B" } : Jvm.MethodName) method_3_code (5 : Nat) (Option.some Jvm.ClassFile.FieldType.byte), Jvm.Cond.code ({ cls := "com/example/nodeweave/nodeweave/server/MessageHead", name := "end", desc := "([BIII)I" } : Jvm.MethodName) prog_47_method_4_code (5 : Nat) (Option.some Jvm.ClassFile.FieldType.int), Jvm.Cond.code ({ cls := "java/lang/Math", name := "max", desc := "(II)I" } : Jvm.MethodName) jdk_29_method_65_code (2 : Nat) (Option.some Jvm.ClassFile.FieldType.int), Jvm.Cond.code ({ cls := "com/example/nodeweave/nodeweave/server/MessageHeadEndPinLaw", name := "hit", desc := "([BIIII)Z" } : Jvm.MethodName) method_4_code (7 : Nat) (Option.some Jvm.ClassFile.FieldType.boolean)]
set_option maxRecDepth 65536 in
theorem codes_eq : words1.filter isCode = codes1 := rfl
theorem w_codes : ∀ c ∈ words1.filter isCode, c.before args0 about1 = true := by
  rw [codes_eq]
  intro c hc
  simp only [codes1, List.mem_cons, List.not_mem_nil, or_false] at hc
  rcases hc with rfl | rfl | rfl | rfl | rfl
  · exact w_c0
  · exact w_c1
  · exact w_c2
  · exact w_c3
  · exact w_c4
set_option maxRecDepth 65536 in
theorem w_t1 : words1.all (fun c => isCode c || c.before args0 about1) = true := by decide +kernel
theorem w_tables : (allAtoms (Jvm.Cond.code x code maxLocals ret :: tables_1)).before args0 about1 = true := by
  rw [allAtoms_all]
  show words1.all (fun c => c.before args0 about1) = true
  refine all_split ?_ w_codes
  rw [w_t1]
set_option maxRecDepth 65536 in
theorem w_case : (Jvm.Cond.and given_1 narrow_1).before args0 about1 = true := by decide +kernel
theorem w_applies : (headSpec (Jvm.Cond.code x code maxLocals ret :: tables_1) room_1).applies x e0.platform about1 = true :=
  (Spec.applies_iff w_frames).mpr ⟨w_running, w_runnable, w_alone, w_named, w_hears, w_ripe, w_room, w_tables⟩
theorem atStart : AtStart classFile x code maxLocals ret World_1 tables_1 room_1 Calls_1 rest_1 Pre_1 launch0 p0 e0 about1 theMethod args0 below0 :=
  ⟨lists_1, trivial, launch0.admits_env _ _ _, launch0.least_env, fairChoices_fair.cas, fairChoices_fair.clock, w_frames, w_args, w_heap, w_applies, trivial, trivial, w_case⟩
end start1
theorem witness_1 : WitnessClaimed_1 := ⟨start1.p0, start1.e0, start1.about1, start1.theMethod, start1.args0, start1.below0, start1.atStart⟩
end Jvm.Pilot.@@N@@
