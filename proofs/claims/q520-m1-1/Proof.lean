import JvmDerived
import JvmDerived.Pilot.@@N@@Statement
import JvmDerived.Pilot.@@N@@Code
set_option linter.unusedVariables false
set_option linter.unusedSimpArgs false
namespace Jvm.Pilot.@@N@@
open Jvm Jvm.ClassFile Sem Op Lib Jvm.Free Jvm.Stand Jvm.LawKit Jvm.RoadKit Bundle Jvm.Pilot.@@N@@.Jvm.D
/-- a boolean as an int -/
def own_b (P : Prop) [Decidable P] : Int32 := if P then 1 else 0
theorem own_b1 {P : Prop} [Decidable P] (h : P) : own_b P = 1 := if_pos h
theorem own_b0 {P : Prop} [Decidable P] (h : ¬ P) : own_b P = 0 := if_neg h
theorem own_b0_eq_f {P : Prop} [Decidable P] (h : P) : ifCond.holds .eq (own_b P) = false := by rw [own_b1 h]; rfl
theorem own_b0_eq_t {P : Prop} [Decidable P] (h : ¬ P) : ifCond.holds .eq (own_b P) = true := by rw [own_b0 h]; rfl
theorem own_b0_ne_t {P : Prop} [Decidable P] (h : P) : ifCond.holds .ne (own_b P) = true := by rw [own_b1 h]; rfl
theorem own_b0_ne_f {P : Prop} [Decidable P] (h : ¬ P) : ifCond.holds .ne (own_b P) = false := by rw [own_b0 h]; rfl
theorem own_bnar (P : Prop) [Decidable P] : nar .boolean (own_b P) = own_b P := by by_cases h : P <;> simp [own_b, h, nar]
theorem own_biff {P Q : Prop} [Decidable P] [Decidable Q] (h : P ↔ Q) : own_b P = own_b Q := by by_cases q : Q <;> simp [own_b, h, q]
/-! own_Go: from T with the frame g on top the method's run comes to an end of which P holds. One rule a plain instruction, so that a walk may fork anywhere. -/
def own_Go (p : Program) (e : Env) (below : List Frame) (P : State → Outcome → Prop) (T : State) (g : JFrame) : Prop :=
  ∃ s₂ o, Steps p.tables e below (T.setTop g) s₂ ∧ s₂.status = .running ∧ Ended s₂ below o ∧ P s₂ o
section OwnGo
variable {p : Program} {l : Launch} {e : Env} {R : Room} {s : State} {m : MethodId} {args : Array Value} {below : List Frame} {meth : Method} {c : Code} {T T' : State} {locs : List Loc} {cells slots : Nat} {P : State → Outcome → Prop} {Ls Ls' : Array Slot} {st : List Value} {pc pc' : Nat} {g g' : JFrame}
theorem own_st (h : ∀ t, Steps p.tables e below (T'.setTop g') t → Steps p.tables e below (T.setTop g) t) (k : own_Go p e below P T' g') : own_Go p e below P T g := by
  obtain ⟨s₂, o, h1, h2⟩ := k; exact ⟨s₂, o, h _ h1, h2⟩
theorem own_tr (h : Steps p.tables e below (T.setTop g) (T'.setTop g')) (k : own_Go p e below P T' g') : own_Go p e below P T g := by
  obtain ⟨s₂, o, h1, h2⟩ := k; exact ⟨s₂, o, h.trans h1, h2⟩
theorem own_aloadN (X : Stand p l e R s m args below meth c T locs cells slots) (hx : p.tables.exec = Jvm.exec) {k : Fin 4} {v : Value} (hd : decode c.code pc = .ok (.aload_n k, 1)) (hp : pc + 1 = pc') (hl : Ls[k.val]? = some (.val v)) (hv : v.isRef = true) (h : own_Go p e below P T (mkF m pc' Ls (v :: st))) : own_Go p e below P T (mkF m pc Ls st) := by
  subst hp; exact own_st (fun t k => XS.aloadN X.here hx rfl hd hl hv k) h
theorem own_aload (X : Stand p l e R s m args below meth c T locs cells slots) (hx : p.tables.exec = Jvm.exec) {k : Nat} {v : Value} (hd : decode c.code pc = .ok (.aload k, 2)) (hp : pc + 2 = pc') (hl : Ls[k]? = some (.val v)) (hv : v.isRef = true) (h : own_Go p e below P T (mkF m pc' Ls (v :: st))) : own_Go p e below P T (mkF m pc Ls st) := by
  subst hp; exact own_st (fun t k => XS.aload X.here hx rfl hd hl hv k) h
theorem own_iloadN (X : Stand p l e R s m args below meth c T locs cells slots) (hx : p.tables.exec = Jvm.exec) {k : Fin 4} {v : Int32} (hd : decode c.code pc = .ok (.iload_n k, 1)) (hp : pc + 1 = pc') (hl : Ls[k.val]? = some (.val (.int v))) (h : own_Go p e below P T (mkF m pc' Ls (.int v :: st))) : own_Go p e below P T (mkF m pc Ls st) := by
  subst hp; exact own_st (fun t k => XS.iloadN X.here hx rfl hd hl k) h
theorem own_iload (X : Stand p l e R s m args below meth c T locs cells slots) (hx : p.tables.exec = Jvm.exec) {k : Nat} {v : Int32} (hd : decode c.code pc = .ok (.iload k, 2)) (hp : pc + 2 = pc') (hl : Ls[k]? = some (.val (.int v))) (h : own_Go p e below P T (mkF m pc' Ls (.int v :: st))) : own_Go p e below P T (mkF m pc Ls st) := by
  subst hp; exact own_st (fun t k => XS.iload X.here hx rfl hd hl k) h
theorem own_lloadN (X : Stand p l e R s m args below meth c T locs cells slots) (hx : p.tables.exec = Jvm.exec) {k : Fin 4} {v : Int64} (hd : decode c.code pc = .ok (.lload_n k, 1)) (hp : pc + 1 = pc') (hl : Ls[k.val]? = some (.val (.long v))) (h : own_Go p e below P T (mkF m pc' Ls (.long v :: st))) : own_Go p e below P T (mkF m pc Ls st) := by
  subst hp; exact own_st (fun t k => XT.lloadN X.here hx rfl hd hl k) h
theorem own_lload (X : Stand p l e R s m args below meth c T locs cells slots) (hx : p.tables.exec = Jvm.exec) {k : Nat} {v : Int64} (hd : decode c.code pc = .ok (.lload k, 2)) (hp : pc + 2 = pc') (hl : Ls[k]? = some (.val (.long v))) (h : own_Go p e below P T (mkF m pc' Ls (.long v :: st))) : own_Go p e below P T (mkF m pc Ls st) := by
  subst hp; exact own_st (fun t k => XT.lload X.here hx rfl hd hl k) h
theorem own_iconst (X : Stand p l e R s m args below meth c T locs cells slots) (hx : p.tables.exec = Jvm.exec) {i : Int} (v : Int32) (hd : decode c.code pc = .ok (.iconst i, 1)) (hp : pc + 1 = pc') (hv : Int32.ofInt i = v) (h : own_Go p e below P T (mkF m pc' Ls (.int v :: st))) : own_Go p e below P T (mkF m pc Ls st) := by
  subst hp hv; exact own_st (fun t k => XS.iconst X.here hx rfl hd k) h
theorem own_bipush (X : Stand p l e R s m args below meth c T locs cells slots) (hx : p.tables.exec = Jvm.exec) {i : Int} (v : Int32) (hd : decode c.code pc = .ok (.bipush i, 2)) (hp : pc + 2 = pc') (hv : (Int8.ofInt i).toInt32 = v) (h : own_Go p e below P T (mkF m pc' Ls (.int v :: st))) : own_Go p e below P T (mkF m pc Ls st) := by
  subst hp hv; exact own_st (fun t k => XS.bipush X.here hx rfl hd k) h
theorem own_sipush (X : Stand p l e R s m args below meth c T locs cells slots) (hx : p.tables.exec = Jvm.exec) {i : Int} (v : Int32) (hd : decode c.code pc = .ok (.sipush i, 3)) (hp : pc + 3 = pc') (hv : (Int16.ofInt i).toInt32 = v) (h : own_Go p e below P T (mkF m pc' Ls (.int v :: st))) : own_Go p e below P T (mkF m pc Ls st) := by
  subst hp hv; exact own_st (fun t k => XS.sipush X.here hx rfl hd k) h
theorem own_lconst (X : Stand p l e R s m args below meth c T locs cells slots) (hx : p.tables.exec = Jvm.exec) {i : Fin 2} (v : Int64) (hd : decode c.code pc = .ok (.lconst i, 1)) (hp : pc + 1 = pc') (hv : Int64.ofNat i = v) (h : own_Go p e below P T (mkF m pc' Ls (.long v :: st))) : own_Go p e below P T (mkF m pc Ls st) := by
  subst hp hv; exact own_st (fun t k => XT.lconst X.here hx rfl hd k) h
theorem own_ldcI (X : Stand p l e R s m args below meth c T locs cells slots) (hx : p.tables.exec = Jvm.exec) {own : String} {index : Nat} {v : Int32} (hown : s.vm.findClass own = some m.cls) (hc : (Cond.constant own index v).before args s = true) (hd : decode c.code pc = .ok (.ldc index, 2)) (hp : pc + 2 = pc') (h : own_Go p e below P T (mkF m pc' Ls (.int v :: st))) : own_Go p e below P T (mkF m pc Ls st) := by
  subst hp; exact own_st (fun t k => X.ldcI hx hown hc rfl hd k) h
theorem own_ldcJ (X : Stand p l e R s m args below meth c T locs cells slots) (hx : p.tables.exec = Jvm.exec) {own : String} {index : Nat} {v : Int64} (hown : s.vm.findClass own = some m.cls) (hc : (Cond.constantLong own index v).before args s = true) (hd : decode c.code pc = .ok (.ldc2_w index, 3)) (hp : pc + 3 = pc') (h : own_Go p e below P T (mkF m pc' Ls (.long v :: st))) : own_Go p e below P T (mkF m pc Ls st) := by
  subst hp; exact own_st (fun t k => X.ldc2J hx hown hc rfl hd k) h
theorem own_null (X : Stand p l e R s m args below meth c T locs cells slots) (hx : p.tables.exec = Jvm.exec) (hd : decode c.code pc = .ok (.aconst_null, 1)) (hp : pc + 1 = pc') (h : own_Go p e below P T (mkF m pc' Ls (.null :: st))) : own_Go p e below P T (mkF m pc Ls st) := by
  subst hp; exact own_st (fun t k => XS.aconstNull X.here hx rfl hd k) h
theorem own_iadd (X : Stand p l e R s m args below meth c T locs cells slots) (hx : p.tables.exec = Jvm.exec) {x y : Int32} (hd : decode c.code pc = .ok (.iadd, 1)) (hp : pc + 1 = pc') (h : own_Go p e below P T (mkF m pc' Ls (.int (x + y) :: st))) : own_Go p e below P T (mkF m pc Ls (.int y :: .int x :: st)) := by
  subst hp; exact own_st (fun t k => XS.iadd X.here hx rfl hd rfl k) h
theorem own_isub (X : Stand p l e R s m args below meth c T locs cells slots) (hx : p.tables.exec = Jvm.exec) {x y : Int32} (hd : decode c.code pc = .ok (.isub, 1)) (hp : pc + 1 = pc') (h : own_Go p e below P T (mkF m pc' Ls (.int (x - y) :: st))) : own_Go p e below P T (mkF m pc Ls (.int y :: .int x :: st)) := by
  subst hp; exact own_st (fun t k => XS.isub X.here hx rfl hd rfl k) h
theorem own_iand (X : Stand p l e R s m args below meth c T locs cells slots) (hx : p.tables.exec = Jvm.exec) {x y : Int32} (hd : decode c.code pc = .ok (.iand, 1)) (hp : pc + 1 = pc') (h : own_Go p e below P T (mkF m pc' Ls (.int (x &&& y) :: st))) : own_Go p e below P T (mkF m pc Ls (.int y :: .int x :: st)) := by
  subst hp; exact own_st (fun t k => XS.iand X.here hx rfl hd rfl k) h
theorem own_imul (X : Stand p l e R s m args below meth c T locs cells slots) (hx : p.tables.exec = Jvm.exec) {x y : Int32} (hd : decode c.code pc = .ok (.imul, 1)) (hp : pc + 1 = pc') (h : own_Go p e below P T (mkF m pc' Ls (.int (x * y) :: st))) : own_Go p e below P T (mkF m pc Ls (.int y :: .int x :: st)) := by
  subst hp; exact own_st (fun t k => XS.imul X.here hx rfl hd rfl k) h
theorem own_irem (X : Stand p l e R s m args below meth c T locs cells slots) (hx : p.tables.exec = Jvm.exec) {x y : Int32} (hd : decode c.code pc = .ok (.irem, 1)) (hp : pc + 1 = pc') (hy : y ≠ 0) (h : own_Go p e below P T (mkF m pc' Ls (.int (x % y) :: st))) : own_Go p e below P T (mkF m pc Ls (.int y :: .int x :: st)) := by
  subst hp; exact own_st (fun t k => iremM X hx rfl hd rfl hy k) h
theorem own_ishr (X : Stand p l e R s m args below meth c T locs cells slots) (hx : p.tables.exec = Jvm.exec) {x y : Int32} (hd : decode c.code pc = .ok (.ishr, 1)) (hp : pc + 1 = pc') (h : own_Go p e below P T (mkF m pc' Ls (.int (x >>> (y &&& 31)) :: st))) : own_Go p e below P T (mkF m pc Ls (.int y :: .int x :: st)) := by
  subst hp; exact own_st (fun t k => XT.ishr X.here hx rfl hd rfl k) h
theorem own_iushr (X : Stand p l e R s m args below meth c T locs cells slots) (hx : p.tables.exec = Jvm.exec) {x y : Int32} (hd : decode c.code pc = .ok (.iushr, 1)) (hp : pc + 1 = pc') (h : own_Go p e below P T (mkF m pc' Ls (.int (XT.ushr x y) :: st))) : own_Go p e below P T (mkF m pc Ls (.int y :: .int x :: st)) := by
  subst hp; exact own_st (fun t k => XT.iushr X.here hx rfl hd rfl k) h
theorem own_i2b (X : Stand p l e R s m args below meth c T locs cells slots) (hx : p.tables.exec = Jvm.exec) {x : Int32} (hd : decode c.code pc = .ok (.i2b, 1)) (hp : pc + 1 = pc') (h : own_Go p e below P T (mkF m pc' Ls (.int (nar .byte x) :: st))) : own_Go p e below P T (mkF m pc Ls (.int x :: st)) := by
  subst hp; exact own_st (fun t k => XT.i2b X.here hx rfl hd rfl k) h
theorem own_i2c (X : Stand p l e R s m args below meth c T locs cells slots) (hx : p.tables.exec = Jvm.exec) {x : Int32} (hd : decode c.code pc = .ok (.i2c, 1)) (hp : pc + 1 = pc') (h : own_Go p e below P T (mkF m pc' Ls (.int (nar .char x) :: st))) : own_Go p e below P T (mkF m pc Ls (.int x :: st)) := by
  subst hp; exact own_st (fun t k => XT.i2c X.here hx rfl hd rfl k) h
theorem own_i2l (X : Stand p l e R s m args below meth c T locs cells slots) (hx : p.tables.exec = Jvm.exec) {x : Int32} (hd : decode c.code pc = .ok (.i2l, 1)) (hp : pc + 1 = pc') (h : own_Go p e below P T (mkF m pc' Ls (.long x.toInt64 :: st))) : own_Go p e below P T (mkF m pc Ls (.int x :: st)) := by
  subst hp; exact own_st (fun t k => XT.i2l X.here hx rfl hd rfl k) h
theorem own_l2i (X : Stand p l e R s m args below meth c T locs cells slots) (hx : p.tables.exec = Jvm.exec) {x : Int64} (hd : decode c.code pc = .ok (.l2i, 1)) (hp : pc + 1 = pc') (h : own_Go p e below P T (mkF m pc' Ls (.int x.toInt32 :: st))) : own_Go p e below P T (mkF m pc Ls (.long x :: st)) := by
  subst hp; exact own_st (fun t k => XT.l2i X.here hx rfl hd rfl k) h
theorem own_lushr (X : Stand p l e R s m args below meth c T locs cells slots) (hx : p.tables.exec = Jvm.exec) {x : Int64} {y : Int32} (hd : decode c.code pc = .ok (.lushr, 1)) (hp : pc + 1 = pc') (h : own_Go p e below P T (mkF m pc' Ls (.long (XT.ushrL x y) :: st))) : own_Go p e below P T (mkF m pc Ls (.int y :: .long x :: st)) := by
  subst hp; exact own_st (fun t k => XT.lushr X.here hx rfl hd rfl k) h
theorem own_lcmp (X : Stand p l e R s m args below meth c T locs cells slots) (hx : p.tables.exec = Jvm.exec) {x y : Int64} (hd : decode c.code pc = .ok (.lcmp, 1)) (hp : pc + 1 = pc') (h : own_Go p e below P T (mkF m pc' Ls (.int (XT.cmpL x y) :: st))) : own_Go p e below P T (mkF m pc Ls (.long y :: .long x :: st)) := by
  subst hp; exact own_st (fun t k => XT.lcmp X.here hx rfl hd rfl k) h
theorem own_dup (X : Stand p l e R s m args below meth c T locs cells slots) (hx : p.tables.exec = Jvm.exec) {x : Value} (hd : decode c.code pc = .ok (.dup, 1)) (hp : pc + 1 = pc') (hc : x.category = 1) (h : own_Go p e below P T (mkF m pc' Ls (x :: x :: st))) : own_Go p e below P T (mkF m pc Ls (x :: st)) := by
  subst hp; exact own_st (fun t k => XS.dup X.here hx rfl hd rfl hc k) h
theorem own_dupX1 (X : Stand p l e R s m args below meth c T locs cells slots) (hx : p.tables.exec = Jvm.exec) {x y : Value} (hd : decode c.code pc = .ok (.dup_x1, 1)) (hp : pc + 1 = pc') (hc : x.category = 1) (hc' : y.category = 1) (h : own_Go p e below P T (mkF m pc' Ls (x :: y :: x :: st))) : own_Go p e below P T (mkF m pc Ls (x :: y :: st)) := by
  subst hp; exact own_st (fun t k => XT.dupX1 X.here hx rfl hd rfl hc hc' k) h
theorem own_pop (X : Stand p l e R s m args below meth c T locs cells slots) (hx : p.tables.exec = Jvm.exec) {x : Value} (hd : decode c.code pc = .ok (.pop, 1)) (hp : pc + 1 = pc') (hc : x.category = 1) (h : own_Go p e below P T (mkF m pc' Ls st)) : own_Go p e below P T (mkF m pc Ls (x :: st)) := by
  subst hp; exact own_st (fun t k => XT.pop X.here hx rfl hd rfl hc k) h
theorem own_istoreN (X : Stand p l e R s m args below meth c T locs cells slots) (hx : p.tables.exec = Jvm.exec) {k : Fin 4} {x : Int32} (hd : decode c.code pc = .ok (.istore_n k, 1)) (hp : pc + 1 = pc') (hl : storeLocals Ls k.val (.int x) = some Ls') (h : own_Go p e below P T (mkF m pc' Ls' st)) : own_Go p e below P T (mkF m pc Ls (.int x :: st)) := by
  subst hp; exact own_st (fun t k => XS.istoreN X.here hx rfl hd rfl hl k) h
theorem own_istore (X : Stand p l e R s m args below meth c T locs cells slots) (hx : p.tables.exec = Jvm.exec) {k : Nat} {x : Int32} (hd : decode c.code pc = .ok (.istore k, 2)) (hp : pc + 2 = pc') (hl : storeLocals Ls k (.int x) = some Ls') (h : own_Go p e below P T (mkF m pc' Ls' st)) : own_Go p e below P T (mkF m pc Ls (.int x :: st)) := by
  subst hp; exact own_st (fun t k => XS.istore X.here hx rfl hd rfl hl k) h
theorem own_lstoreN (X : Stand p l e R s m args below meth c T locs cells slots) (hx : p.tables.exec = Jvm.exec) {k : Fin 4} {x : Int64} (hd : decode c.code pc = .ok (.lstore_n k, 1)) (hp : pc + 1 = pc') (hl : storeLocals Ls k.val (.long x) = some Ls') (h : own_Go p e below P T (mkF m pc' Ls' st)) : own_Go p e below P T (mkF m pc Ls (.long x :: st)) := by
  subst hp; exact own_st (fun t k => XT.lstoreN X.here hx rfl hd rfl hl k) h
theorem own_lstore (X : Stand p l e R s m args below meth c T locs cells slots) (hx : p.tables.exec = Jvm.exec) {k : Nat} {x : Int64} (hd : decode c.code pc = .ok (.lstore k, 2)) (hp : pc + 2 = pc') (hl : storeLocals Ls k (.long x) = some Ls') (h : own_Go p e below P T (mkF m pc' Ls' st)) : own_Go p e below P T (mkF m pc Ls (.long x :: st)) := by
  subst hp; exact own_st (fun t k => XT.lstore X.here hx rfl hd rfl hl k) h
theorem own_astoreN (X : Stand p l e R s m args below meth c T locs cells slots) (hx : p.tables.exec = Jvm.exec) {k : Fin 4} {x : Value} (hd : decode c.code pc = .ok (.astore_n k, 1)) (hp : pc + 1 = pc') (hv : x.isRef = true) (hl : storeLocals Ls k.val x = some Ls') (h : own_Go p e below P T (mkF m pc' Ls' st)) : own_Go p e below P T (mkF m pc Ls (x :: st)) := by
  subst hp; exact own_st (fun t k => XS.astoreN X.here hx rfl hd rfl hv hl k) h
theorem own_astore (X : Stand p l e R s m args below meth c T locs cells slots) (hx : p.tables.exec = Jvm.exec) {k : Nat} {x : Value} (hd : decode c.code pc = .ok (.astore k, 2)) (hp : pc + 2 = pc') (hv : x.isRef = true) (hl : storeLocals Ls k x = some Ls') (h : own_Go p e below P T (mkF m pc' Ls' st)) : own_Go p e below P T (mkF m pc Ls (x :: st)) := by
  subst hp; exact own_st (fun t k => XS.astore X.here hx rfl hd rfl hv hl k) h
theorem own_goto (X : Stand p l e R s m args below meth c T locs cells slots) (hx : p.tables.exec = Jvm.exec) {o : Int} (hd : decode c.code pc = .ok (.goto o, 3)) (ho : 0 ≤ (pc : Int) + o) (hp : ((pc : Int) + o).toNat = pc') (h : own_Go p e below P T (mkF m pc' Ls st)) : own_Go p e below P T (mkF m pc Ls st) := by
  exact own_st (fun t k => XS.goto X.here hx rfl (pc0 := pc) rfl hd ho hp k) h
theorem own_ifY (X : Stand p l e R s m args below meth c T locs cells slots) (hx : p.tables.exec = Jvm.exec) {cd : ClassFile.Cond} {x : Int32} {o : Int} (hd : decode c.code pc = .ok (.ifCond cd o, 3)) (hc : ifCond.holds cd x = true) (ho : 0 ≤ (pc : Int) + o) (hp : ((pc : Int) + o).toNat = pc') (h : own_Go p e below P T (mkF m pc' Ls st)) : own_Go p e below P T (mkF m pc Ls (.int x :: st)) := by
  exact own_st (fun t k => XS.ifYes X.here hx rfl (pc0 := pc) rfl hd rfl hc ho hp k) h
theorem own_ifN (X : Stand p l e R s m args below meth c T locs cells slots) (hx : p.tables.exec = Jvm.exec) {cd : ClassFile.Cond} {x : Int32} {o : Int} (hd : decode c.code pc = .ok (.ifCond cd o, 3)) (hc : ifCond.holds cd x = false) (hp : pc + 3 = pc') (h : own_Go p e below P T (mkF m pc' Ls st)) : own_Go p e below P T (mkF m pc Ls (.int x :: st)) := by
  subst hp; exact own_st (fun t k => XS.ifNo X.here hx rfl hd rfl hc k) h
theorem own_icmpY (X : Stand p l e R s m args below meth c T locs cells slots) (hx : p.tables.exec = Jvm.exec) {cd : ClassFile.Cond} {x y : Int32} {o : Int} (hd : decode c.code pc = .ok (.if_icmp cd o, 3)) (hc : if_icmp.holds cd x y = true) (ho : 0 ≤ (pc : Int) + o) (hp : ((pc : Int) + o).toNat = pc') (h : own_Go p e below P T (mkF m pc' Ls st)) : own_Go p e below P T (mkF m pc Ls (.int y :: .int x :: st)) := by
  exact own_st (fun t k => XS.icmpYes X.here hx rfl (pc0 := pc) rfl hd rfl hc ho hp k) h
theorem own_icmpN (X : Stand p l e R s m args below meth c T locs cells slots) (hx : p.tables.exec = Jvm.exec) {cd : ClassFile.Cond} {x y : Int32} {o : Int} (hd : decode c.code pc = .ok (.if_icmp cd o, 3)) (hc : if_icmp.holds cd x y = false) (hp : pc + 3 = pc') (h : own_Go p e below P T (mkF m pc' Ls st)) : own_Go p e below P T (mkF m pc Ls (.int y :: .int x :: st)) := by
  subst hp; exact own_st (fun t k => XS.icmpNo X.here hx rfl hd rfl hc k) h
theorem own_ifnullY (X : Stand p l e R s m args below meth c T locs cells slots) (hx : p.tables.exec = Jvm.exec) {o : Int} (hd : decode c.code pc = .ok (.ifnull o, 3)) (ho : 0 ≤ (pc : Int) + o) (hp : ((pc : Int) + o).toNat = pc') (h : own_Go p e below P T (mkF m pc' Ls st)) : own_Go p e below P T (mkF m pc Ls (.null :: st)) := by
  exact own_st (fun t k => XS.ifnullYes X.here hx rfl (pc0 := pc) rfl hd rfl ho hp k) h
theorem own_ifnullN (X : Stand p l e R s m args below meth c T locs cells slots) (hx : p.tables.exec = Jvm.exec) {a : Addr} {o : Int} (hd : decode c.code pc = .ok (.ifnull o, 3)) (hp : pc + 3 = pc') (h : own_Go p e below P T (mkF m pc' Ls st)) : own_Go p e below P T (mkF m pc Ls (.ref a :: st)) := by
  subst hp; exact own_st (fun t k => XS.ifnullNo X.here hx rfl hd rfl k) h
theorem own_ifnonnullY (X : Stand p l e R s m args below meth c T locs cells slots) (hx : p.tables.exec = Jvm.exec) {a : Addr} {o : Int} (hd : decode c.code pc = .ok (.ifnonnull o, 3)) (ho : 0 ≤ (pc : Int) + o) (hp : ((pc : Int) + o).toNat = pc') (h : own_Go p e below P T (mkF m pc' Ls st)) : own_Go p e below P T (mkF m pc Ls (.ref a :: st)) := by
  exact own_st (fun t k => XT.ifnonnullYes X.here hx rfl (pc0 := pc) rfl hd rfl ho hp k) h
theorem own_ifnonnullN (X : Stand p l e R s m args below meth c T locs cells slots) (hx : p.tables.exec = Jvm.exec) {o : Int} (hd : decode c.code pc = .ok (.ifnonnull o, 3)) (hp : pc + 3 = pc') (h : own_Go p e below P T (mkF m pc' Ls st)) : own_Go p e below P T (mkF m pc Ls (.null :: st)) := by
  subst hp; exact own_st (fun t k => XT.ifnonnullNo X.here hx rfl hd rfl k) h
theorem own_acmpY (X : Stand p l e R s m args below meth c T locs cells slots) (hx : p.tables.exec = Jvm.exec) {cd : ACond} {x y : Value} {o : Int} (h1 : x.isRef = true) (h2 : y.isRef = true) (hd : decode c.code pc = .ok (.if_acmp cd o, 3)) (hc : XT.acmp cd x y = true) (ho : 0 ≤ (pc : Int) + o) (hp : ((pc : Int) + o).toNat = pc') (h : own_Go p e below P T (mkF m pc' Ls st)) : own_Go p e below P T (mkF m pc Ls (y :: x :: st)) := by
  exact own_st (fun t k => XT.acmpYes X.here hx rfl (pc0 := pc) rfl hd rfl h1 h2 hc ho hp k) h
theorem own_acmpN (X : Stand p l e R s m args below meth c T locs cells slots) (hx : p.tables.exec = Jvm.exec) {cd : ACond} {x y : Value} {o : Int} (h1 : x.isRef = true) (h2 : y.isRef = true) (hd : decode c.code pc = .ok (.if_acmp cd o, 3)) (hc : XT.acmp cd x y = false) (hp : pc + 3 = pc') (h : own_Go p e below P T (mkF m pc' Ls st)) : own_Go p e below P T (mkF m pc Ls (y :: x :: st)) := by
  subst hp; exact own_st (fun t k => XT.acmpNo X.here hx rfl hd rfl h1 h2 hc k) h
theorem own_cut (h1 : own_Go p e below P T g' → own_Go p e below P T g) (h2 : own_Go p e below P T g') : own_Go p e below P T g := h1 h2
theorem own_iinc (X : Stand p l e R s m args below meth c T locs cells slots) (hx : p.tables.exec = Jvm.exec) {k : Nat} {cst : Int} {x : Int32} (v : Int32) (hd : decode c.code pc = .ok (.iinc k cst, 3)) (hp : pc + 3 = pc') (hl : Ls[k]? = some (.val (.int x))) (hv : x + Int32.ofInt cst = v) (hs : storeLocals Ls k (.int v) = some Ls') (h : own_Go p e below P T (mkF m pc' Ls' st)) : own_Go p e below P T (mkF m pc Ls st) := by
  subst hp hv; exact own_st (fun t k => XS.iinc X.here hx rfl hd hl hs k) h
abbrev own_End (s : State) (Q : Option Value → Heap → List Loc → Prop) (k n : Nat) : State → Outcome → Prop := fun u o => ∃ v L, o = .returned v ∧ Q v u.heap L ∧ FrameEnd s o u L k n
variable {Q : Option Value → Heap → List Loc → Prop} {ck sn : Nat}
theorem own_retZ (X : Stand p l e R s m args below meth c T locs cells slots) (hx : p.tables.exec = Jvm.exec) (hk : meth.locks = false) {t : FieldType} (hret : meth.sig.returnType = some t) (ht : t = .boolean ∨ t = .byte ∨ t = .char ∨ t = .short) {z : Int32} (hd : decode c.code pc = .ok (.ireturn, 1)) (hc : cells ≤ ck) (hs : slots ≤ sn) (hQ : Q (some (.int (nar t z))) T.heap locs) :
    own_Go p e below (own_End s Q ck sn) T (mkF m pc Ls (.int z :: st)) := by
  obtain ⟨fs, hr, hrun, hended, hW, hsame⟩ := X.leave (v := some (.int (nar t z))) (fun h => by rw [hret] at h; cases h) hk
  exact ⟨_, _, retN X hx hret ht hd hr, hrun, hended, _, _, rfl, hQ, ⟨_, rfl⟩, hW, hsame.mono hc hs⟩
theorem own_retI (X : Stand p l e R s m args below meth c T locs cells slots) (hx : p.tables.exec = Jvm.exec) (hk : meth.locks = false) (hret : meth.sig.returnType = some .int) {z : Int32} (hd : decode c.code pc = .ok (.ireturn, 1)) (hc : cells ≤ ck) (hs : slots ≤ sn) (hQ : Q (some (.int z)) T.heap locs) :
    own_Go p e below (own_End s Q ck sn) T (mkF m pc Ls (.int z :: st)) := by
  obtain ⟨fs, hr, hrun, hended, hW, hsame⟩ := X.leave (v := some (.int z)) (fun h => by rw [hret] at h; cases h) hk
  exact ⟨_, _, retOut X hx hret rfl (Or.inl ⟨rfl, Or.inl rfl, z, rfl⟩) hd hr, hrun, hended, _, _, rfl, hQ, ⟨_, rfl⟩, hW, hsame.mono hc hs⟩
theorem own_retL (X : Stand p l e R s m args below meth c T locs cells slots) (hx : p.tables.exec = Jvm.exec) (hk : meth.locks = false) (hret : meth.sig.returnType = some .long) {z : Int64} (hd : decode c.code pc = .ok (.lreturn, 1)) (hc : cells ≤ ck) (hs : slots ≤ sn) (hQ : Q (some (.long z)) T.heap locs) :
    own_Go p e below (own_End s Q ck sn) T (mkF m pc Ls (.long z :: st)) := by
  obtain ⟨fs, hr, hrun, hended, hW, hsame⟩ := X.leave (v := some (.long z)) (fun h => by rw [hret] at h; cases h) hk
  exact ⟨_, _, retOut X hx hret rfl (Or.inr (Or.inl ⟨rfl, rfl, z, rfl⟩)) hd hr, hrun, hended, _, _, rfl, hQ, ⟨_, rfl⟩, hW, hsame.mono hc hs⟩
theorem own_narR {t : FieldType} {w : Value} (ht : t.isReference = true) (hw : w.isRef = true) : narrow t w = w := by
  rcases ref_cases hw with rfl | ⟨a, rfl⟩ <;> cases t <;> first | rfl | (cases ht; done)
theorem own_retA (X : Stand p l e R s m args below meth c T locs cells slots) (hx : p.tables.exec = Jvm.exec) (hk : meth.locks = false) {t : FieldType} (hret : meth.sig.returnType = some t) (ht : t.isReference = true) {w : Value} (hw : w.isRef = true) (hd : decode c.code pc = .ok (.areturn, 1)) (hc : cells ≤ ck) (hs : slots ≤ sn) (hQ : Q (some w) T.heap locs) :
    own_Go p e below (own_End s Q ck sn) T (mkF m pc Ls (w :: st)) := by
  obtain ⟨fs, hr, hrun, hended, hW, hsame⟩ := X.leave (v := some w) (fun h => by rw [hret] at h; cases h) hk
  exact ⟨_, _, retOut X hx hret (own_narR ht hw) (Or.inr (Or.inr (Or.inr (Or.inr ⟨rfl, ht, hw⟩)))) hd hr, hrun, hended, _, _, rfl, hQ, ⟨_, rfl⟩, hW, hsame.mono hc hs⟩
theorem own_retV (X : Stand p l e R s m args below meth c T locs cells slots) (hx : p.tables.exec = Jvm.exec) (hk : meth.locks = false) (hret : meth.sig.returnType = none) (hd : decode c.code pc = .ok (.return_, 1)) (hc : cells ≤ ck) (hs : slots ≤ sn) (hQ : Q none T.heap locs) :
    own_Go p e below (own_End s Q ck sn) T (mkF m pc Ls []) := by
  obtain ⟨fs, hr, hrun, hended, hW, hsame⟩ := X.leave (v := none) (fun _ => rfl) hk
  exact ⟨_, _, X.returnOut hx hret hd hr, hrun, hended, _, _, rfl, hQ, ⟨_, rfl⟩, hW, hsame.mono hc hs⟩
end OwnGo
section OwnArr
variable {p : Program} {l : Launch} {e : Env} {R : Room} {s : State} {m : MethodId} {args : Array Value} {below : List Frame} {meth : Method} {c : Code} {T : State} {locs : List Loc} {cells slots : Nat} {P : State → Outcome → Prop} {Ls : Array Slot} {st : List Value} {pc pc' : Nat} {Z : State} {h : Heap} {a : Addr} {k : ClassId} {ty : FieldType} {n j : Int32} {vs : List Value} {dv : Value}
theorem own_alen (X : Stand p l e R s m args below meth c T locs cells slots) (hx : p.tables.exec = Jvm.exec) (hZ : Z.Warmed39 s.vm) (eT : T.heap = h) (V : Arv Z h a k ty n vs dv) (hd : decode c.code pc = .ok (.arraylength, 1)) (hp : pc + 1 = pc') (hk : own_Go p e below P T (mkF m pc' Ls (.int n :: st))) : own_Go p e below P T (mkF m pc Ls (.ref a :: st)) := by
  subst hp
  obtain ⟨cl, A, -, S, q, -, -⟩ := V
  have w := X.arraylength hx (by rw [eT]; exact A.1) (State.isArrayOf_alike hZ.alike A.2.1) (g := mkF m pc Ls (.ref a :: st)) rfl rfl hd
  rw [len_of S q] at w
  exact own_st w hk
theorem own_baload (X : Stand p l e R s m args below meth c T locs cells slots) (hx : p.tables.exec = Jvm.exec) (hZ : Z.Warmed39 s.vm) (eT : T.heap = h) (V : Arv Z h a k .byte n vs dv) {x : Int32} (hj : ¬ j < 0 ∧ j < n) (hv : vs.getD j.toNatClampNeg dv = .int x) (hd : decode c.code pc = .ok (.baload, 1)) (hp : pc + 1 = pc') (hk : own_Go p e below P T (mkF m pc' Ls (.int x :: st))) : own_Go p e below P T (mkF m pc Ls (.int j :: .ref a :: st)) := by
  subst hp
  obtain ⟨cl, A, -, S, q, H, -⟩ := V
  exact own_st (X.baloadBytes hx (j := j) (v := .int x) (by rw [eT]; exact A.1) (State.isArrayOf_alike hZ.alike A.2.1) A.2.2 (inb_of S hj) (H.at (inb_of S hj) hv) (g := mkF m pc Ls (.int j :: .ref a :: st)) rfl rfl hd) hk
theorem own_aaload (X : Stand p l e R s m args below meth c T locs cells slots) (hx : p.tables.exec = Jvm.exec) (hZ : Z.Warmed39 s.vm) (eT : T.heap = h) (V : Arv Z h a k ty n vs dv) (ht : ty.isReference = true) {x : Value} (hj : ¬ j < 0 ∧ j < n) (hv : vs.getD j.toNatClampNeg dv = x) (hd : decode c.code pc = .ok (.aaload, 1)) (hp : pc + 1 = pc') (hk : own_Go p e below P T (mkF m pc' Ls (x :: st))) : own_Go p e below P T (mkF m pc Ls (.int j :: .ref a :: st)) := by
  subst hp
  obtain ⟨cl, A, -, S, q, H, -⟩ := V
  exact own_st (X.aaload hx (j := j) (v := x) (by rw [eT]; exact A.1) (State.isArrayOf_alike hZ.alike A.2.1) ht A.2.2 (inb_of S hj) (H.at (inb_of S hj) hv) (g := mkF m pc Ls (.int j :: .ref a :: st)) rfl rfl hd) hk
/-- a byte stored: the list with that place set -/
theorem own_bastore (X : Stand p l e R s m args below meth c T locs cells slots) (hx : p.tables.exec = Jvm.exec) (hZ : Z.Warmed39 s.vm) (eT : T.heap = h) (V : Arv Z h a k .byte n vs dv) (i : Nat) {x : Int32} (hj : ¬ j < 0 ∧ j < n) (hi : j.toNatClampNeg = i) (hl : i < vs.length) (hd : decode c.code pc = .ok (.bastore, 1)) :
    ∃ T' h', Stand p l e R s m args below meth c T' (locs ++ [⟨a, j.toNatClampNeg⟩]) cells slots ∧ T'.heap = h' ∧ Wr h h' a j.toNatClampNeg (.int (nar .byte x)) ∧ Arv Z h' a k .byte n (vs.set i (.int (nar .byte x))) dv ∧ ∀ target, Steps p.tables e below (T'.setTop (mkF m (pc + 1) Ls st)) target → Steps p.tables e below (T.setTop (mkF m pc Ls (.int x :: .int j :: .ref a :: st))) target := by
  obtain ⟨cl, A, q1, S, q, H, G⟩ := V
  obtain ⟨T', h', X', e', W, st'⟩ := stB X hx hZ eT A (j := j) (x := x) (inb_of S hj) (g := mkF m pc Ls (.int x :: .int j :: .ref a :: st)) rfl rfl hd
  exact ⟨T', h', X', e', W, Arv.set A q1 S q H G (fits_nar_byte x) W i hi hl, st'⟩
end OwnArr
theorem own_nn (x : Int32) : nar .byte (nar .byte x) = nar .byte x := by simp [nar]
theorem own_and3 (x : Int32) : x &&& 3 = 0 ∨ x &&& 3 = 1 ∨ x &&& 3 = 2 ∨ x &&& 3 = 3 := by
  have h := c_and x 3 (by decide)
  have e0 : (0 : Int32).toInt = 0 := rfl
  have e1 : (1 : Int32).toInt = 1 := rfl
  have e2 : (2 : Int32).toInt = 2 := rfl
  have e3 : (3 : Int32).toInt = 3 := rfl
  simp only [← Int32.toInt_inj, e0, e1, e2, e3] at *
  omega
theorem own_stt (x : Int32) : ∃ c : Int32, c = 100 + (x &&& 2147483647) % 500 ∧ ¬ c < 100 ∧ ¬ 599 < c := by
  refine ⟨_, rfl, ?_⟩
  have h0 := (c_and x 2147483647 (by decide)).1
  obtain ⟨h1, h2, -⟩ := (c_iremV (x &&& 2147483647) 500).1 h0 (by decide)
  generalize (x &&& 2147483647) % 500 = y at *
  have h3 := c_iadd 100 y
  have h4 := rng32 (100 + y)
  have e0 : (100 : Int32).toInt = 100 := rfl
  have e1 : (500 : Int32).toInt = 500 := rfl
  have e2 : (599 : Int32).toInt = 599 := rfl
  simp only [Int32.lt_iff_toInt_lt, e0, e1, e2] at *
  omega
theorem d1_0 : decode prog_1_method_1_code 0 = .ok (.aload_n 0, 1) := by decide +kernel
theorem d1_1 : decode prog_1_method_1_code 1 = .ok (.invokespecial 1, 3) := by decide +kernel
theorem d1_4 : decode prog_1_method_1_code 4 = .ok (.aload_n 0, 1) := by decide +kernel
theorem d1_5 : decode prog_1_method_1_code 5 = .ok (.iload_n 1, 1) := by decide +kernel
theorem d1_6 : decode prog_1_method_1_code 6 = .ok (.putfield 7, 3) := by decide +kernel
theorem d1_9 : decode prog_1_method_1_code 9 = .ok (.aload_n 0, 1) := by decide +kernel
theorem d1_10 : decode prog_1_method_1_code 10 = .ok (.aload_n 2, 1) := by decide +kernel
theorem d1_11 : decode prog_1_method_1_code 11 = .ok (.putfield 13, 3) := by decide +kernel
theorem d1_14 : decode prog_1_method_1_code 14 = .ok (.aload_n 0, 1) := by decide +kernel
theorem d1_15 : decode prog_1_method_1_code 15 = .ok (.aload_n 3, 1) := by decide +kernel
theorem d1_16 : decode prog_1_method_1_code 16 = .ok (.putfield 17, 3) := by decide +kernel
theorem d1_19 : decode prog_1_method_1_code 19 = .ok (.return_, 1) := by decide +kernel
theorem pn1 : plainFor (⟨"com/example/meterline/meterline/Answer", "<init>", "(I[BLjava/lang/String;)V"⟩ : MethodName) = true := by first | exact plainFor_of_name (by first | (simp [plainName, overriddenIn]; done) | decide +kernel) | decide +kernel
theorem ef1 (m : MethodId) (a1 : Addr) (st : Int32) (b1 : Addr) : entryFrame m #[(.ref a1), (.int st), (.ref b1), (.null)] 4 = mkF m 0 #[.val (.ref a1), .val (.int st), .val (.ref b1), .val (.null)] [] := by first | (simp [entryFrame, mkF, argsToLocals, Value.category]; done) | rfl
def Q1 (Z : State) (a1 : Addr) (st : Int32) (b1 : Addr) (h0 : Heap) (n0 : Nat) (v : Option Value) (h : Heap) (L : List Loc) : Prop := v = none ∧ Fr n0 L ∧ Keep h0 h [a1] ∧ Fld Z h a1 "com/example/meterline/meterline/Answer" "status" "I" (.int st) ∧ Fld Z h a1 "com/example/meterline/meterline/Answer" "body" "[B" (.ref b1) ∧ Fld Z h a1 "com/example/meterline/meterline/Answer" "error" "Ljava/lang/String;" .null
set_option maxRecDepth 65536 in
set_option maxHeartbeats 40000000 in
theorem rm1 (l : Launch) (Z : State) (a0 : Array Value) (hw : ∀ d ∈ tables_1, d.before a0 Z = true) (ws : List Jvm.Cond) (a1 : Addr) (st : Int32) (b1 : Addr) (h0 : Heap) (n0 : Nat) (Z0 : n0 ≤ h0.size) (A_a : Exa Z h0 a1 "com/example/meterline/meterline/Answer") (F_s : Fld Z h0 a1 "com/example/meterline/meterline/Answer" "status" "I" (.int (0 : Int32))) (F_b : Fld Z h0 a1 "com/example/meterline/meterline/Answer" "body" "[B" (.null)) (F_e : Fld Z h0 a1 "com/example/meterline/meterline/Answer" "error" "Ljava/lang/String;" (.null)) (ga : n0 ≤ a1) :
    MetFree l (⟨"com/example/meterline/meterline/Answer", "<init>", "(I[BLjava/lang/String;)V"⟩ : MethodName) (head1 (Jvm.Cond.code (⟨"com/example/meterline/meterline/Answer", "<init>", "(I[BLjava/lang/String;)V"⟩ : MethodName) prog_1_method_1_code 4 none :: ws) ({ frames := 1, cells := 0, slots := 0, locals := 12 } : Room)) (fun a U => a = #[(.ref a1), (.int st), (.ref b1), (.null)] ∧ Z.Warmed39 U.vm ∧ U.heap = h0) (fun _ _ _ _ _ => True) (fun _ U o U' => ∃ v L, o = .returned v ∧ Q1 Z a1 st b1 h0 n0 v U'.heap L ∧ FrameEnd U o U' L ({ frames := 1, cells := 0, slots := 0, locals := 12 } : Room).cells ({ frames := 1, cells := 0, slots := 0, locals := 12 } : Room).slots) := by
  refine MetFree.of_bodySF pn1 hisR ?_
  intro p e s m args below meth c s₁ Bd hml0 hP hK
  obtain ⟨rfl, hZ, hh⟩ := hP
  have hx := Bd.exec
  have hby := Bd.bytes
  have hlk : meth.locks = false := BodyLoose.notSynchronized Bd
  have hml : c.maxLocals = 4 := hml0
  have hown : s.vm.findClass "com/example/meterline/meterline/Answer" = some m.cls := findClass_of_methodNamed Bd.named
  have hnm := (name_of_methodNamed Bd.named Bd.method).1
  have X0 : Stand p l e ({ frames := 1, cells := 0, slots := 0, locals := 12 } : Room) s m #[(.ref a1), (.int st), (.ref b1), (.null)] below meth c s₁ [] 0 0 := Stand.of_body Bd
  have e0 : s₁.heap = h0 := by rw [← hh, Bd.state]; rfl
  have N0 := Fr.nil n0
  have K0 : Keep h0 h0 [a1] := Keep.refl _ _
  rw [ef1 m a1 st b1]
  show own_Go p e below (own_End s (Q1 Z a1 st b1 h0 n0) ({ frames := 1, cells := 0, slots := 0, locals := 12 } : Room).cells ({ frames := 1, cells := 0, slots := 0, locals := 12 } : Room).slots) s₁ (mkF m 0 #[.val (.ref a1), .val (.int st), .val (.ref b1), .val (.null)] [])
  refine own_aloadN X0 hx (hb hby d1_0) (pc' := 1) rfl rfl rfl ?_
  obtain ⟨T_1, X_1, e_1, st_1⟩ := initO X0 hx hZ hown (hw _ (List.mem_of_getElem? (i := 20) rfl)) (hw _ (List.mem_of_getElem? (i := 21) rfl)) (hw _ (List.mem_of_getElem? (i := 22) rfl)) e0 (g := (mkF m 1 #[.val (.ref a1), .val (.int st), .val (.ref b1), .val (.null)] [(.ref a1)])) rfl (by rw [hml]; rfl) rfl (hb hby d1_1) (by decide) (W := 0) (by show 2 * 0 + _ ≤ _; exact Nat.le_of_eq rfl) (by decide)
  refine own_st st_1 ?_
  show own_Go p e below _ T_1 (mkF m 4 #[.val (.ref a1), .val (.int st), .val (.ref b1), .val (.null)] [])
  refine own_aloadN X_1 hx (hb hby d1_4) (pc' := 5) rfl rfl rfl ?_
  refine own_iloadN X_1 hx (hb hby d1_5) (pc' := 6) rfl rfl ?_
  obtain ⟨T_2, h_2, X_2, e_2, W_2, st_2⟩ := putF X_1 hx hZ hown (host := "") (Or.inl (hw _ (List.mem_of_getElem? (i := 23) rfl))) Via.refl e_1 F_s A_a (Or.inr ⟨(hw _ (List.mem_of_getElem? (i := 24) rfl)), rfl, hnm⟩) (hw _ (List.mem_of_getElem? (i := 7) rfl)) (ty := .int) (by decide) rfl rfl (g := (mkF m 6 #[.val (.ref a1), .val (.int st), .val (.ref b1), .val (.null)] [(.int st), (.ref a1)])) rfl rfl (hb hby d1_6)
  have F_3 : Fld Z h_2 a1 "com/example/meterline/meterline/Answer" "status" "I" (.int st) := F_s.same W_2
  have A_5 : Exa Z h_2 a1 "com/example/meterline/meterline/Answer" := A_a.wr W_2
  have F_6 : Fld Z h_2 a1 "com/example/meterline/meterline/Answer" "body" "[B" (.null) := F_b.other W_2 (Or.inr (RoadKit.slot_ne (Or.inr (hw _ (List.mem_of_getElem? (i := 26) rfl))) (Or.inr (hw _ (List.mem_of_getElem? (i := 24) rfl))) (by decide) (t := (.array .byte)) (t' := .int) (by decide) (by decide)))
  have F_7 : Fld Z h_2 a1 "com/example/meterline/meterline/Answer" "error" "Ljava/lang/String;" (.null) := F_e.other W_2 (Or.inr (RoadKit.slot_ne (Or.inr (hw _ (List.mem_of_getElem? (i := 28) rfl))) (Or.inr (hw _ (List.mem_of_getElem? (i := 24) rfl))) (by decide) (t := (.object "java/lang/String")) (t' := .int) (by decide) (by decide)))
  have Z_4 : n0 ≤ h_2.size := by rw [W_2.size]; exact Z0
  have K_4 : Keep h0 h_2 [a1] := K0.wr W_2 (Or.inl (List.mem_of_getElem? (i := 0) rfl))
  have N_2 := Fr.snoc X_2 N0 ga
  refine own_st st_2 ?_
  show own_Go p e below _ T_2 (mkF m 9 #[.val (.ref a1), .val (.int st), .val (.ref b1), .val (.null)] [])
  refine own_aloadN X_2 hx (hb hby d1_9) (pc' := 10) rfl rfl rfl ?_
  refine own_aloadN X_2 hx (hb hby d1_10) (pc' := 11) rfl rfl rfl ?_
  obtain ⟨T_8, h_8, X_8, e_8, W_8, st_8⟩ := putF X_2 hx hZ hown (host := "") (Or.inl (hw _ (List.mem_of_getElem? (i := 25) rfl))) Via.refl e_2 F_6 A_5 (Or.inr ⟨(hw _ (List.mem_of_getElem? (i := 26) rfl)), rfl, hnm⟩) (hw _ (List.mem_of_getElem? (i := 7) rfl)) (ty := (.array .byte)) (by decide) rfl rfl (g := (mkF m 11 #[.val (.ref a1), .val (.int st), .val (.ref b1), .val (.null)] [(.ref b1), (.ref a1)])) rfl rfl (hb hby d1_11)
  have F_9 : Fld Z h_8 a1 "com/example/meterline/meterline/Answer" "body" "[B" (.ref b1) := F_6.same W_8
  have F_11 : Fld Z h_8 a1 "com/example/meterline/meterline/Answer" "status" "I" (.int st) := F_3.other W_8 (Or.inr (RoadKit.slot_ne (Or.inr (hw _ (List.mem_of_getElem? (i := 24) rfl))) (Or.inr (hw _ (List.mem_of_getElem? (i := 26) rfl))) (by decide) (t := .int) (t' := (.array .byte)) (by decide) (by decide)))
  have A_12 : Exa Z h_8 a1 "com/example/meterline/meterline/Answer" := A_5.wr W_8
  have F_13 : Fld Z h_8 a1 "com/example/meterline/meterline/Answer" "error" "Ljava/lang/String;" (.null) := F_7.other W_8 (Or.inr (RoadKit.slot_ne (Or.inr (hw _ (List.mem_of_getElem? (i := 28) rfl))) (Or.inr (hw _ (List.mem_of_getElem? (i := 26) rfl))) (by decide) (t := (.object "java/lang/String")) (t' := (.array .byte)) (by decide) (by decide)))
  have Z_10 : n0 ≤ h_8.size := by rw [W_8.size]; exact Z_4
  have K_10 : Keep h0 h_8 [a1] := K_4.wr W_8 (Or.inl (List.mem_of_getElem? (i := 0) rfl))
  have N_8 := Fr.snoc X_8 N_2 ga
  refine own_st st_8 ?_
  show own_Go p e below _ T_8 (mkF m 14 #[.val (.ref a1), .val (.int st), .val (.ref b1), .val (.null)] [])
  refine own_aloadN X_8 hx (hb hby d1_14) (pc' := 15) rfl rfl rfl ?_
  refine own_aloadN X_8 hx (hb hby d1_15) (pc' := 16) rfl rfl rfl ?_
  obtain ⟨T_14, h_14, X_14, e_14, W_14, st_14⟩ := putF X_8 hx hZ hown (host := "") (Or.inl (hw _ (List.mem_of_getElem? (i := 27) rfl))) Via.refl e_8 F_13 A_12 (Or.inr ⟨(hw _ (List.mem_of_getElem? (i := 28) rfl)), rfl, hnm⟩) (hw _ (List.mem_of_getElem? (i := 7) rfl)) (ty := (.object "java/lang/String")) (by decide) rfl rfl (g := (mkF m 16 #[.val (.ref a1), .val (.int st), .val (.ref b1), .val (.null)] [(.null), (.ref a1)])) rfl rfl (hb hby d1_16)
  have F_15 : Fld Z h_14 a1 "com/example/meterline/meterline/Answer" "error" "Ljava/lang/String;" (.null) := F_13.same W_14
  have F_17 : Fld Z h_14 a1 "com/example/meterline/meterline/Answer" "body" "[B" (.ref b1) := F_9.other W_14 (Or.inr (RoadKit.slot_ne (Or.inr (hw _ (List.mem_of_getElem? (i := 26) rfl))) (Or.inr (hw _ (List.mem_of_getElem? (i := 28) rfl))) (by decide) (t := (.array .byte)) (t' := (.object "java/lang/String")) (by decide) (by decide)))
  have F_18 : Fld Z h_14 a1 "com/example/meterline/meterline/Answer" "status" "I" (.int st) := F_11.other W_14 (Or.inr (RoadKit.slot_ne (Or.inr (hw _ (List.mem_of_getElem? (i := 24) rfl))) (Or.inr (hw _ (List.mem_of_getElem? (i := 28) rfl))) (by decide) (t := .int) (t' := (.object "java/lang/String")) (by decide) (by decide)))
  have A_19 : Exa Z h_14 a1 "com/example/meterline/meterline/Answer" := A_12.wr W_14
  have Z_16 : n0 ≤ h_14.size := by rw [W_14.size]; exact Z_10
  have K_16 : Keep h0 h_14 [a1] := K_10.wr W_14 (Or.inl (List.mem_of_getElem? (i := 0) rfl))
  have N_14 := Fr.snoc X_14 N_8 ga
  refine own_st st_14 ?_
  show own_Go p e below _ T_14 (mkF m 19 #[.val (.ref a1), .val (.int st), .val (.ref b1), .val (.null)] [])
  refine own_retV X_14 hx hlk Bd.returns (hb hby d1_19) (by decide) (by decide) ?_
  rw [e_14]
  exact ⟨rfl, N_14, K_16, F_18, F_17, F_15⟩
theorem d2_0 : decode prog_1_method_2_code 0 = .ok (.iload_n 0, 1) := by decide +kernel
theorem d2_1 : decode prog_1_method_2_code 1 = .ok (.bipush 100, 2) := by decide +kernel
theorem d2_3 : decode prog_1_method_2_code 3 = .ok (.if_icmp .lt 10, 3) := by decide +kernel
theorem d2_6 : decode prog_1_method_2_code 6 = .ok (.iload_n 0, 1) := by decide +kernel
theorem d2_7 : decode prog_1_method_2_code 7 = .ok (.sipush 599, 3) := by decide +kernel
theorem d2_10 : decode prog_1_method_2_code 10 = .ok (.if_icmp .le 17, 3) := by decide +kernel
theorem d2_27 : decode prog_1_method_2_code 27 = .ok (.new 8, 3) := by decide +kernel
theorem d2_30 : decode prog_1_method_2_code 30 = .ok (.dup, 1) := by decide +kernel
theorem d2_31 : decode prog_1_method_2_code 31 = .ok (.iload_n 0, 1) := by decide +kernel
theorem d2_32 : decode prog_1_method_2_code 32 = .ok (.aload_n 1, 1) := by decide +kernel
theorem d2_33 : decode prog_1_method_2_code 33 = .ok (.invokevirtual 30, 3) := by decide +kernel
theorem d2_36 : decode prog_1_method_2_code 36 = .ok (.checkcast 31, 3) := by decide +kernel
theorem d2_39 : decode prog_1_method_2_code 39 = .ok (.aconst_null, 1) := by decide +kernel
theorem d2_40 : decode prog_1_method_2_code 40 = .ok (.invokespecial 35, 3) := by decide +kernel
theorem d2_43 : decode prog_1_method_2_code 43 = .ok (.areturn, 1) := by decide +kernel
theorem pd2_0 : parseMethodDescriptor "(I[BLjava/lang/String;)V" = some ⟨[.int, (.array .byte), (.object "java/lang/String")], none⟩ := by decide +kernel
theorem pn2 : plainFor (⟨"com/example/meterline/meterline/Answer", "of", "(I[B)Lcom/example/meterline/meterline/Answer;"⟩ : MethodName) = true := by first | exact plainFor_of_name (by first | (simp [plainName, overriddenIn]; done) | decide +kernel) | decide +kernel
theorem ef2 (m : MethodId) (st : Int32) (b1 : Addr) : entryFrame m #[(.int st), (.ref b1)] 2 = mkF m 0 #[.val (.int st), .val (.ref b1)] [] := by first | (simp [entryFrame, mkF, argsToLocals, Value.category]; done) | rfl
def Q2 (Z : State) (st : Int32) (b1 : Addr) (kc : ClassId) (nn : Int32) (vs : List Value) (h0 : Heap) (n0 : Nat) (v : Option Value) (h : Heap) (L : List Loc) : Prop := ∃ r b2 : Addr, v = some (.ref r) ∧ Fr n0 L ∧ Keep h0 h [] ∧ Exa Z h r "com/example/meterline/meterline/Answer" ∧ Fld Z h r "com/example/meterline/meterline/Answer" "status" "I" (.int st) ∧ Fld Z h r "com/example/meterline/meterline/Answer" "body" "[B" (.ref b2) ∧ Fld Z h r "com/example/meterline/meterline/Answer" "error" "Ljava/lang/String;" .null ∧ Arv Z h b2 kc .byte nn vs (.int (0 : Int32)) ∧ Exa Z h b2 "[B" ∧ h0.size ≤ r ∧ h0.size ≤ b2
set_option maxRecDepth 65536 in
set_option maxHeartbeats 40000000 in
theorem rm2 (l : Launch) (Z : State) (a0 : Array Value) (hw : ∀ d ∈ tables_1, d.before a0 Z = true) (ws : List Jvm.Cond) (st : Int32) (b1 : Addr) (kc : ClassId) (nn : Int32) (vs : List Value) (h0 : Heap) (n0 : Nat) (Z0 : n0 ≤ h0.size) (V_a : Arv Z h0 b1 kc .byte nn vs (.int (0 : Int32))) (B_a : Exa Z h0 b1 "[B") (hs1 : ¬ st < 100) (hs2 : ¬ 599 < st) (hcap : nn.toNatClampNeg ≤ 3) :
    MetFree l (⟨"com/example/meterline/meterline/Answer", "of", "(I[B)Lcom/example/meterline/meterline/Answer;"⟩ : MethodName) (head1 (Jvm.Cond.code (⟨"com/example/meterline/meterline/Answer", "of", "(I[B)Lcom/example/meterline/meterline/Answer;"⟩ : MethodName) prog_1_method_2_code 2 (some (.object "com/example/meterline/meterline/Answer")) :: ws) ({ frames := 2, cells := 2, slots := 6, locals := 28 } : Room)) (fun a U => a = #[(.int st), (.ref b1)] ∧ Z.Warmed39 U.vm ∧ U.heap = h0) (fun _ _ _ _ _ => True) (fun _ U o U' => ∃ v L, o = .returned v ∧ Q2 Z st b1 kc nn vs h0 n0 v U'.heap L ∧ FrameEnd U o U' L ({ frames := 2, cells := 2, slots := 6, locals := 28 } : Room).cells ({ frames := 2, cells := 2, slots := 6, locals := 28 } : Room).slots) := by
  refine MetFree.of_bodySF pn2 hisR ?_
  intro p e s m args below meth c s₁ Bd hml0 hP hK
  obtain ⟨rfl, hZ, hh⟩ := hP
  have hx := Bd.exec
  have hby := Bd.bytes
  have hlk : meth.locks = false := BodyLoose.notSynchronized Bd
  have hml : c.maxLocals = 2 := hml0
  have hown : s.vm.findClass "com/example/meterline/meterline/Answer" = some m.cls := findClass_of_methodNamed Bd.named
  have hnm := (name_of_methodNamed Bd.named Bd.method).1
  have X0 : Stand p l e ({ frames := 2, cells := 2, slots := 6, locals := 28 } : Room) s m #[(.int st), (.ref b1)] below meth c s₁ [] 0 0 := Stand.of_body Bd
  have e0 : s₁.heap = h0 := by rw [← hh, Bd.state]; rfl
  have N0 := Fr.nil n0
  have K0 : Keep h0 h0 [] := Keep.refl _ _
  rw [ef2 m st b1]
  show own_Go p e below (own_End s (Q2 Z st b1 kc nn vs h0 n0) ({ frames := 2, cells := 2, slots := 6, locals := 28 } : Room).cells ({ frames := 2, cells := 2, slots := 6, locals := 28 } : Room).slots) s₁ (mkF m 0 #[.val (.int st), .val (.ref b1)] [])
  refine own_iloadN X0 hx (hb hby d2_0) (pc' := 1) rfl rfl ?_
  refine own_bipush X0 hx (100) (hb hby d2_1) (pc' := 3) rfl (by decide) ?_
  refine own_icmpN X0 hx (hb hby d2_3) (XT.ii_lt_f hs1) (pc' := 6) rfl ?_
  refine own_iloadN X0 hx (hb hby d2_6) (pc' := 7) rfl rfl ?_
  refine own_sipush X0 hx (599) (hb hby d2_7) (pc' := 10) rfl (by decide) ?_
  refine own_icmpY X0 hx (hb hby d2_10) (XT.ii_le_t hs2) (pc' := 27) (by decide) (by decide) ?_
  obtain ⟨T_1, h_1, X_1, e_1, E_1, A_1, D_1, -, st_1⟩ := newO X0 hx hZ hown (hw _ (List.mem_of_getElem? (i := 6) rfl)) (hw _ (List.mem_of_getElem? (i := 7) rfl)) (hw _ (List.mem_of_getElem? (i := 4) rfl)) e0 (g := (mkF m 27 #[.val (.int st), .val (.ref b1)] [])) rfl (hb hby d2_27) (by decide) (by decide)
  obtain ⟨a_1, g_1⟩ : ∃ z, z = h0.size := ⟨_, rfl⟩
  rw [← g_1] at A_1 D_1 st_1
  have ge_1 : n0 ≤ a_1 := Nat.le_trans Z0 (Nat.le_of_eq g_1.symm)
  have nw_1 : h0.size ≤ a_1 := Nat.le_trans K0.1 (Nat.le_of_eq g_1.symm)
  have ne_1_b1 : b1 ≠ a_1 := Nat.ne_of_lt (Nat.lt_of_lt_of_eq V_a.lt g_1.symm)
  have V_3 : Arv Z h_1 b1 kc .byte nn vs (.int (0 : Int32)) := V_a.ext E_1
  have B_4 : Exa Z h_1 b1 "[B" := B_a.ext E_1
  have Z_2 : n0 ≤ h_1.size := Nat.le_trans Z0 E_1.1
  have K_2 : Keep h0 h_1 [] := K0.ext E_1
  have F_5 : Fld Z h_1 a_1 "com/example/meterline/meterline/Answer" "status" "I" (.int (0 : Int32)) := D_1 (Or.inr (hw _ (List.mem_of_getElem? (i := 24) rfl))) (ty := .int) (by decide)
  have F_6 : Fld Z h_1 a_1 "com/example/meterline/meterline/Answer" "body" "[B" (.null) := D_1 (Or.inr (hw _ (List.mem_of_getElem? (i := 26) rfl))) (ty := (.array .byte)) (by decide)
  have F_7 : Fld Z h_1 a_1 "com/example/meterline/meterline/Answer" "error" "Ljava/lang/String;" (.null) := D_1 (Or.inr (hw _ (List.mem_of_getElem? (i := 28) rfl))) (ty := (.object "java/lang/String")) (by decide)
  refine own_st st_1 ?_
  show own_Go p e below _ T_1 (mkF m 30 #[.val (.int st), .val (.ref b1)] [(.ref a_1)])
  refine own_dup X_1 hx (hb hby d2_30) (pc' := 31) rfl rfl ?_
  refine own_iloadN X_1 hx (hb hby d2_31) (pc' := 32) rfl rfl ?_
  refine own_aloadN X_1 hx (hb hby d2_32) (pc' := 33) rfl rfl rfl ?_
  obtain ⟨T_8, h_8, X_8, e_8, E_8, V_8, B_8, st_8⟩ := cloneH X_1 hx hZ hown (hw _ (List.mem_of_getElem? (i := 8) rfl)) (hw _ (List.mem_of_getElem? (i := 9) rfl)) (hw _ (List.mem_of_getElem? (i := 13) rfl)) (hw _ (List.mem_of_getElem? (i := 11) rfl)) (hw _ (List.mem_of_getElem? (i := 12) rfl)) (hw _ (List.mem_of_getElem? (i := 14) rfl)) e_1 V_3.arh B_4 (g := (mkF m 33 #[.val (.int st), .val (.ref b1)] [(.ref b1), (.int st), (.ref a_1), (.ref a_1)])) rfl (by rw [hml]; rfl) (rest := [(.int st), (.ref a_1), (.ref a_1)]) rfl (hb hby d2_33) (by decide) (W := 3) (cap := 3) (by show 2 * 0 + _ ≤ _; exact Nat.le_of_eq rfl) (by decide) hcap (by decide) (by decide)
  obtain ⟨a_8, g_8⟩ : ∃ z, z = h_1.size := ⟨_, rfl⟩
  rw [← g_8] at V_8 B_8 st_8
  have ge_8 : n0 ≤ a_8 := Nat.le_trans Z_2 (Nat.le_of_eq g_8.symm)
  have nw_8 : h0.size ≤ a_8 := Nat.le_trans K_2.1 (Nat.le_of_eq g_8.symm)
  have ne_8_b1 : b1 ≠ a_8 := Nat.ne_of_lt (Nat.lt_of_lt_of_eq V_3.lt g_8.symm)
  have ne_8_a_1 : a_1 ≠ a_8 := Nat.ne_of_lt (Nat.lt_of_lt_of_eq A_1.lt g_8.symm)
  have V_10 : Arv Z h_8 b1 kc .byte nn vs (.int (0 : Int32)) := V_3.ext E_8
  have B_11 : Exa Z h_8 b1 "[B" := B_4.ext E_8
  have A_12 : Exa Z h_8 a_1 "com/example/meterline/meterline/Answer" := A_1.ext E_8
  have F_13 : Fld Z h_8 a_1 "com/example/meterline/meterline/Answer" "status" "I" (.int (0 : Int32)) := F_5.ext E_8
  have F_14 : Fld Z h_8 a_1 "com/example/meterline/meterline/Answer" "body" "[B" (.null) := F_6.ext E_8
  have F_15 : Fld Z h_8 a_1 "com/example/meterline/meterline/Answer" "error" "Ljava/lang/String;" (.null) := F_7.ext E_8
  have Z_9 : n0 ≤ h_8.size := Nat.le_trans Z_2 E_8.1
  have K_9 : Keep h0 h_8 [] := K_2.ext E_8
  have V_16 : Arv Z h_8 a_8 kc .byte nn vs (.int (0 : Int32)) := V_8
  refine own_st st_8 ?_
  show own_Go p e below _ T_8 (mkF m 36 #[.val (.int st), .val (.ref b1)] [(.ref a_8), (.int st), (.ref a_1), (.ref a_1)])
  obtain ⟨T_17, X_17, e_17, st_17⟩ := castY X_8 hx hZ hown (hw _ (List.mem_of_getElem? (i := 15) rfl)) e_8 (Ins.self B_8) (g := (mkF m 36 #[.val (.int st), .val (.ref b1)] [(.ref a_8), (.int st), (.ref a_1), (.ref a_1)])) rfl rfl (hb hby d2_36)
  refine own_st st_17 ?_
  show own_Go p e below _ T_17 (mkF m 39 #[.val (.int st), .val (.ref b1)] [(.ref a_8), (.int st), (.ref a_1), (.ref a_1)])
  refine own_null X_17 hx (hb hby d2_39) (pc' := 40) rfl ?_
  obtain ⟨_, _, ⟨T_18, L_18, k_18, n_18⟩, -, X_18, ⟨Lc_18, hQ_18, l_18, y_18, z_18⟩, st_18⟩ := X_17.specialBack hx  (y := (⟨"com/example/meterline/meterline/Answer", "<init>", "(I[BLjava/lang/String;)V"⟩ : MethodName)) rfl hown (mvT hZ (hw _ (List.mem_of_getElem? (i := 17) rfl))) (mvT hZ (hw _ (List.mem_of_getElem? (i := 18) rfl))) (mvT hZ (hw _ (List.mem_of_getElem? (i := 19) rfl))) (by decide) (backOf (W := 1) (rm1 l Z a0 hw [] a_1 st a_8 h_8 n0 Z_9 A_12 F_13 F_14 F_15 ge_1) hZ (hw _ (List.mem_of_getElem? (i := 19) rfl)) (hw _ (List.mem_of_getElem? (i := 4) rfl)) (by decide) (by decide)) (g := (mkF m 40 #[.val (.int st), .val (.ref b1)] [(.null), (.ref a_8), (.int st), (.ref a_1), (.ref a_1)])) rfl (by rw [hml]; rfl) (Steps.refl _) (a := a_1) (argsL := [(.int st), (.ref a_8), (.null)]) (rest := [(.ref a_1)]) (lenOf pd2_0 rfl) rfl (by show 2 * 0 + _ ≤ _; exact Nat.le_of_eq rfl) (hb hby d2_40) (fun _ _ => ⟨rfl, e_17, (by decide : 2 + 0 ≤ _), (by decide : 6 + 0 ≤ _)⟩)
  dsimp only [Pt.U, Pt.locs, Pt.cells, Pt.slots] at X_18 l_18 y_18 z_18 st_18 hQ_18
  subst l_18 y_18 z_18
  refine own_tr st_18 ?_
  obtain ⟨rfl, Nq_18, Kq_18, q0_18, q1_18, q2_18⟩ := hQ_18
  have N_18 := Fr.app N0 Nq_18
  have F_19 : Fld Z T_18.heap a_1 "com/example/meterline/meterline/Answer" "status" "I" (.int st) := q0_18
  have F_20 : Fld Z T_18.heap a_1 "com/example/meterline/meterline/Answer" "body" "[B" (.ref a_8) := q1_18
  have F_21 : Fld Z T_18.heap a_1 "com/example/meterline/meterline/Answer" "error" "Ljava/lang/String;" (.null) := q2_18
  have V_23 : Arv Z T_18.heap b1 kc .byte nn vs (.int (0 : Int32)) := V_10.keep Kq_18 (ninS ne_1_b1 nin0)
  have B_24 : Exa Z T_18.heap b1 "[B" := B_11.keep Kq_18
  have A_25 : Exa Z T_18.heap a_1 "com/example/meterline/meterline/Answer" := A_12.keep Kq_18
  have V_26 : Arv Z T_18.heap a_8 kc .byte nn vs (.int (0 : Int32)) := V_16.keep Kq_18 (ninS (Ne.symm ne_8_a_1) nin0)
  have B_27 : Exa Z T_18.heap a_8 "[B" := B_8.keep Kq_18
  have Z_22 : n0 ≤ T_18.heap.size := Nat.le_trans Z_9 Kq_18.1
  have K_22 : Keep h0 T_18.heap [] := K_9.trans Kq_18 (allS (Or.inr nw_1) all0)
  show own_Go p e below _ T_18 (mkF m 43 #[.val (.int st), .val (.ref b1)] [(.ref a_1)])
  refine own_retA X_18 hx hlk Bd.returns rfl rfl (hb hby d2_43) (by decide) (by decide) ?_
  exact ⟨a_1, a_8, rfl, N_18, K_22, A_25, F_19, F_20, F_21, V_26, B_27, nw_1, nw_8⟩
theorem d3_0 : decode prog_1_method_6_code 0 = .ok (.aload_n 0, 1) := by decide +kernel
theorem d3_1 : decode prog_1_method_6_code 1 = .ok (.getfield 7, 3) := by decide +kernel
theorem d3_4 : decode prog_1_method_6_code 4 = .ok (.ireturn, 1) := by decide +kernel
theorem pn3 : plainFor (⟨"com/example/meterline/meterline/Answer", "status", "()I"⟩ : MethodName) = true := by first | exact plainFor_of_name (by first | (simp [plainName, overriddenIn]; done) | decide +kernel) | decide +kernel
theorem ef3 (m : MethodId) (a1 : Addr) : entryFrame m #[(.ref a1)] 1 = mkF m 0 #[.val (.ref a1)] [] := by first | (simp [entryFrame, mkF, argsToLocals, Value.category]; done) | rfl
def Q3 (Z : State) (a1 : Addr) (st : Int32) (h0 : Heap) (n0 : Nat) (v : Option Value) (h : Heap) (L : List Loc) : Prop := v = some (.int st) ∧ Fr n0 L ∧ h = h0
set_option maxRecDepth 65536 in
set_option maxHeartbeats 40000000 in
theorem rm3 (l : Launch) (Z : State) (a0 : Array Value) (hw : ∀ d ∈ tables_1, d.before a0 Z = true) (ws : List Jvm.Cond) (a1 : Addr) (st : Int32) (h0 : Heap) (n0 : Nat) (Z0 : n0 ≤ h0.size) (F_a : Fld Z h0 a1 "com/example/meterline/meterline/Answer" "status" "I" (.int st)) :
    MetFree l (⟨"com/example/meterline/meterline/Answer", "status", "()I"⟩ : MethodName) (head1 (Jvm.Cond.code (⟨"com/example/meterline/meterline/Answer", "status", "()I"⟩ : MethodName) prog_1_method_6_code 1 (some .int) :: ws) ({ frames := 0, cells := 0, slots := 0, locals := 0 } : Room)) (fun a U => a = #[(.ref a1)] ∧ Z.Warmed39 U.vm ∧ U.heap = h0) (fun _ _ _ _ _ => True) (fun _ U o U' => ∃ v L, o = .returned v ∧ Q3 Z a1 st h0 n0 v U'.heap L ∧ FrameEnd U o U' L ({ frames := 0, cells := 0, slots := 0, locals := 0 } : Room).cells ({ frames := 0, cells := 0, slots := 0, locals := 0 } : Room).slots) := by
  refine MetFree.of_bodySF pn3 hisR ?_
  intro p e s m args below meth c s₁ Bd hml0 hP hK
  obtain ⟨rfl, hZ, hh⟩ := hP
  have hx := Bd.exec
  have hby := Bd.bytes
  have hlk : meth.locks = false := BodyLoose.notSynchronized Bd
  have hml : c.maxLocals = 1 := hml0
  have hown : s.vm.findClass "com/example/meterline/meterline/Answer" = some m.cls := findClass_of_methodNamed Bd.named
  have hnm := (name_of_methodNamed Bd.named Bd.method).1
  have X0 : Stand p l e ({ frames := 0, cells := 0, slots := 0, locals := 0 } : Room) s m #[(.ref a1)] below meth c s₁ [] 0 0 := Stand.of_body Bd
  have e0 : s₁.heap = h0 := by rw [← hh, Bd.state]; rfl
  have N0 := Fr.nil n0
  rw [ef3 m a1]
  show own_Go p e below (own_End s (Q3 Z a1 st h0 n0) ({ frames := 0, cells := 0, slots := 0, locals := 0 } : Room).cells ({ frames := 0, cells := 0, slots := 0, locals := 0 } : Room).slots) s₁ (mkF m 0 #[.val (.ref a1)] [])
  refine own_aloadN X0 hx (hb hby d3_0) (pc' := 1) rfl rfl rfl ?_
  obtain ⟨T_1, X_1, e_1, st_1⟩ := getF X0 hx hZ hown (host := "") (Or.inl (hw _ (List.mem_of_getElem? (i := 23) rfl))) Via.refl e0 F_a (g := (mkF m 1 #[.val (.ref a1)] [(.ref a1)])) rfl rfl (hb hby d3_1)
  refine own_st st_1 ?_
  show own_Go p e below _ T_1 (mkF m 4 #[.val (.ref a1)] [(.int st)])
  refine own_retI X_1 hx hlk Bd.returns (hb hby d3_4) (by decide) (by decide) ?_
  rw [e_1]
  exact ⟨rfl, N0, rfl⟩
theorem d4_0 : decode prog_1_method_9_code 0 = .ok (.aload_n 0, 1) := by decide +kernel
theorem d4_1 : decode prog_1_method_9_code 1 = .ok (.getfield 17, 3) := by decide +kernel
theorem d4_4 : decode prog_1_method_9_code 4 = .ok (.areturn, 1) := by decide +kernel
theorem pn4 : plainFor (⟨"com/example/meterline/meterline/Answer", "error", "()Ljava/lang/String;"⟩ : MethodName) = true := by first | exact plainFor_of_name (by first | (simp [plainName, overriddenIn]; done) | decide +kernel) | decide +kernel
theorem ef4 (m : MethodId) (a1 : Addr) : entryFrame m #[(.ref a1)] 1 = mkF m 0 #[.val (.ref a1)] [] := by first | (simp [entryFrame, mkF, argsToLocals, Value.category]; done) | rfl
def Q4 (Z : State) (a1 : Addr) (h0 : Heap) (n0 : Nat) (v : Option Value) (h : Heap) (L : List Loc) : Prop := v = some .null ∧ Fr n0 L ∧ h = h0
set_option maxRecDepth 65536 in
set_option maxHeartbeats 40000000 in
theorem rm4 (l : Launch) (Z : State) (a0 : Array Value) (hw : ∀ d ∈ tables_1, d.before a0 Z = true) (ws : List Jvm.Cond) (a1 : Addr) (h0 : Heap) (n0 : Nat) (Z0 : n0 ≤ h0.size) (F_a : Fld Z h0 a1 "com/example/meterline/meterline/Answer" "error" "Ljava/lang/String;" (.null)) :
    MetFree l (⟨"com/example/meterline/meterline/Answer", "error", "()Ljava/lang/String;"⟩ : MethodName) (head1 (Jvm.Cond.code (⟨"com/example/meterline/meterline/Answer", "error", "()Ljava/lang/String;"⟩ : MethodName) prog_1_method_9_code 1 (some (.object "java/lang/String")) :: ws) ({ frames := 0, cells := 0, slots := 0, locals := 0 } : Room)) (fun a U => a = #[(.ref a1)] ∧ Z.Warmed39 U.vm ∧ U.heap = h0) (fun _ _ _ _ _ => True) (fun _ U o U' => ∃ v L, o = .returned v ∧ Q4 Z a1 h0 n0 v U'.heap L ∧ FrameEnd U o U' L ({ frames := 0, cells := 0, slots := 0, locals := 0 } : Room).cells ({ frames := 0, cells := 0, slots := 0, locals := 0 } : Room).slots) := by
  refine MetFree.of_bodySF pn4 hisR ?_
  intro p e s m args below meth c s₁ Bd hml0 hP hK
  obtain ⟨rfl, hZ, hh⟩ := hP
  have hx := Bd.exec
  have hby := Bd.bytes
  have hlk : meth.locks = false := BodyLoose.notSynchronized Bd
  have hml : c.maxLocals = 1 := hml0
  have hown : s.vm.findClass "com/example/meterline/meterline/Answer" = some m.cls := findClass_of_methodNamed Bd.named
  have hnm := (name_of_methodNamed Bd.named Bd.method).1
  have X0 : Stand p l e ({ frames := 0, cells := 0, slots := 0, locals := 0 } : Room) s m #[(.ref a1)] below meth c s₁ [] 0 0 := Stand.of_body Bd
  have e0 : s₁.heap = h0 := by rw [← hh, Bd.state]; rfl
  have N0 := Fr.nil n0
  rw [ef4 m a1]
  show own_Go p e below (own_End s (Q4 Z a1 h0 n0) ({ frames := 0, cells := 0, slots := 0, locals := 0 } : Room).cells ({ frames := 0, cells := 0, slots := 0, locals := 0 } : Room).slots) s₁ (mkF m 0 #[.val (.ref a1)] [])
  refine own_aloadN X0 hx (hb hby d4_0) (pc' := 1) rfl rfl rfl ?_
  obtain ⟨T_1, X_1, e_1, st_1⟩ := getF X0 hx hZ hown (host := "") (Or.inl (hw _ (List.mem_of_getElem? (i := 27) rfl))) Via.refl e0 F_a (g := (mkF m 1 #[.val (.ref a1)] [(.ref a1)])) rfl rfl (hb hby d4_1)
  refine own_st st_1 ?_
  show own_Go p e below _ T_1 (mkF m 4 #[.val (.ref a1)] [(.null)])
  refine own_retA X_1 hx hlk Bd.returns rfl rfl (hb hby d4_4) (by decide) (by decide) ?_
  rw [e_1]
  exact ⟨rfl, N0, rfl⟩
theorem d5_0 : decode prog_1_method_8_code 0 = .ok (.aload_n 0, 1) := by decide +kernel
theorem d5_1 : decode prog_1_method_8_code 1 = .ok (.getfield 13, 3) := by decide +kernel
theorem d5_4 : decode prog_1_method_8_code 4 = .ok (.arraylength, 1) := by decide +kernel
theorem d5_5 : decode prog_1_method_8_code 5 = .ok (.ireturn, 1) := by decide +kernel
theorem pn5 : plainFor (⟨"com/example/meterline/meterline/Answer", "size", "()I"⟩ : MethodName) = true := by first | exact plainFor_of_name (by first | (simp [plainName, overriddenIn]; done) | decide +kernel) | decide +kernel
theorem ef5 (m : MethodId) (a1 : Addr) : entryFrame m #[(.ref a1)] 1 = mkF m 0 #[.val (.ref a1)] [] := by first | (simp [entryFrame, mkF, argsToLocals, Value.category]; done) | rfl
def Q5 (Z : State) (a1 : Addr) (b1 : Addr) (kc : ClassId) (nn : Int32) (vs : List Value) (h0 : Heap) (n0 : Nat) (v : Option Value) (h : Heap) (L : List Loc) : Prop := v = some (.int nn) ∧ Fr n0 L ∧ h = h0
set_option maxRecDepth 65536 in
set_option maxHeartbeats 40000000 in
theorem rm5 (l : Launch) (Z : State) (a0 : Array Value) (hw : ∀ d ∈ tables_1, d.before a0 Z = true) (ws : List Jvm.Cond) (a1 : Addr) (b1 : Addr) (kc : ClassId) (nn : Int32) (vs : List Value) (h0 : Heap) (n0 : Nat) (Z0 : n0 ≤ h0.size) (F_a : Fld Z h0 a1 "com/example/meterline/meterline/Answer" "body" "[B" (.ref b1)) (V_a : Arv Z h0 b1 kc .byte nn vs (.int (0 : Int32))) :
    MetFree l (⟨"com/example/meterline/meterline/Answer", "size", "()I"⟩ : MethodName) (head1 (Jvm.Cond.code (⟨"com/example/meterline/meterline/Answer", "size", "()I"⟩ : MethodName) prog_1_method_8_code 1 (some .int) :: ws) ({ frames := 0, cells := 0, slots := 0, locals := 0 } : Room)) (fun a U => a = #[(.ref a1)] ∧ Z.Warmed39 U.vm ∧ U.heap = h0) (fun _ _ _ _ _ => True) (fun _ U o U' => ∃ v L, o = .returned v ∧ Q5 Z a1 b1 kc nn vs h0 n0 v U'.heap L ∧ FrameEnd U o U' L ({ frames := 0, cells := 0, slots := 0, locals := 0 } : Room).cells ({ frames := 0, cells := 0, slots := 0, locals := 0 } : Room).slots) := by
  refine MetFree.of_bodySF pn5 hisR ?_
  intro p e s m args below meth c s₁ Bd hml0 hP hK
  obtain ⟨rfl, hZ, hh⟩ := hP
  have hx := Bd.exec
  have hby := Bd.bytes
  have hlk : meth.locks = false := BodyLoose.notSynchronized Bd
  have hml : c.maxLocals = 1 := hml0
  have hown : s.vm.findClass "com/example/meterline/meterline/Answer" = some m.cls := findClass_of_methodNamed Bd.named
  have hnm := (name_of_methodNamed Bd.named Bd.method).1
  have X0 : Stand p l e ({ frames := 0, cells := 0, slots := 0, locals := 0 } : Room) s m #[(.ref a1)] below meth c s₁ [] 0 0 := Stand.of_body Bd
  have e0 : s₁.heap = h0 := by rw [← hh, Bd.state]; rfl
  have N0 := Fr.nil n0
  rw [ef5 m a1]
  show own_Go p e below (own_End s (Q5 Z a1 b1 kc nn vs h0 n0) ({ frames := 0, cells := 0, slots := 0, locals := 0 } : Room).cells ({ frames := 0, cells := 0, slots := 0, locals := 0 } : Room).slots) s₁ (mkF m 0 #[.val (.ref a1)] [])
  refine own_aloadN X0 hx (hb hby d5_0) (pc' := 1) rfl rfl rfl ?_
  obtain ⟨T_1, X_1, e_1, st_1⟩ := getF X0 hx hZ hown (host := "") (Or.inl (hw _ (List.mem_of_getElem? (i := 25) rfl))) Via.refl e0 F_a (g := (mkF m 1 #[.val (.ref a1)] [(.ref a1)])) rfl rfl (hb hby d5_1)
  refine own_st st_1 ?_
  show own_Go p e below _ T_1 (mkF m 4 #[.val (.ref a1)] [(.ref b1)])
  refine own_alen X_1 hx hZ e_1 V_a (hb hby d5_4) (pc' := 5) rfl ?_
  refine own_retI X_1 hx hlk Bd.returns (hb hby d5_5) (by decide) (by decide) ?_
  rw [e_1]
  exact ⟨rfl, N0, rfl⟩
theorem d6_0 : decode prog_1_method_7_code 0 = .ok (.aload_n 0, 1) := by decide +kernel
theorem d6_1 : decode prog_1_method_7_code 1 = .ok (.getfield 13, 3) := by decide +kernel
theorem d6_4 : decode prog_1_method_7_code 4 = .ok (.invokevirtual 30, 3) := by decide +kernel
theorem d6_7 : decode prog_1_method_7_code 7 = .ok (.checkcast 31, 3) := by decide +kernel
theorem d6_10 : decode prog_1_method_7_code 10 = .ok (.areturn, 1) := by decide +kernel
theorem pn6 : plainFor (⟨"com/example/meterline/meterline/Answer", "body", "()[B"⟩ : MethodName) = true := by first | exact plainFor_of_name (by first | (simp [plainName, overriddenIn]; done) | decide +kernel) | decide +kernel
theorem ef6 (m : MethodId) (a1 : Addr) : entryFrame m #[(.ref a1)] 1 = mkF m 0 #[.val (.ref a1)] [] := by first | (simp [entryFrame, mkF, argsToLocals, Value.category]; done) | rfl
def Q6 (Z : State) (a1 : Addr) (b1 : Addr) (kc : ClassId) (nn : Int32) (vs : List Value) (h0 : Heap) (n0 : Nat) (v : Option Value) (h : Heap) (L : List Loc) : Prop := ∃ r : Addr, v = some (.ref r) ∧ Fr n0 L ∧ Keep h0 h [] ∧ Arv Z h r kc .byte nn vs (.int (0 : Int32))
set_option maxRecDepth 65536 in
set_option maxHeartbeats 40000000 in
theorem rm6 (l : Launch) (Z : State) (a0 : Array Value) (hw : ∀ d ∈ tables_1, d.before a0 Z = true) (ws : List Jvm.Cond) (a1 : Addr) (b1 : Addr) (kc : ClassId) (nn : Int32) (vs : List Value) (h0 : Heap) (n0 : Nat) (Z0 : n0 ≤ h0.size) (F_a : Fld Z h0 a1 "com/example/meterline/meterline/Answer" "body" "[B" (.ref b1)) (V_a : Arv Z h0 b1 kc .byte nn vs (.int (0 : Int32))) (B_a : Exa Z h0 b1 "[B") (hcap : nn.toNatClampNeg ≤ 3) :
    MetFree l (⟨"com/example/meterline/meterline/Answer", "body", "()[B"⟩ : MethodName) (head1 (Jvm.Cond.code (⟨"com/example/meterline/meterline/Answer", "body", "()[B"⟩ : MethodName) prog_1_method_7_code 1 (some (.array .byte)) :: ws) ({ frames := 1, cells := 1, slots := 3, locals := 14 } : Room)) (fun a U => a = #[(.ref a1)] ∧ Z.Warmed39 U.vm ∧ U.heap = h0) (fun _ _ _ _ _ => True) (fun _ U o U' => ∃ v L, o = .returned v ∧ Q6 Z a1 b1 kc nn vs h0 n0 v U'.heap L ∧ FrameEnd U o U' L ({ frames := 1, cells := 1, slots := 3, locals := 14 } : Room).cells ({ frames := 1, cells := 1, slots := 3, locals := 14 } : Room).slots) := by
  refine MetFree.of_bodySF pn6 hisR ?_
  intro p e s m args below meth c s₁ Bd hml0 hP hK
  obtain ⟨rfl, hZ, hh⟩ := hP
  have hx := Bd.exec
  have hby := Bd.bytes
  have hlk : meth.locks = false := BodyLoose.notSynchronized Bd
  have hml : c.maxLocals = 1 := hml0
  have hown : s.vm.findClass "com/example/meterline/meterline/Answer" = some m.cls := findClass_of_methodNamed Bd.named
  have hnm := (name_of_methodNamed Bd.named Bd.method).1
  have X0 : Stand p l e ({ frames := 1, cells := 1, slots := 3, locals := 14 } : Room) s m #[(.ref a1)] below meth c s₁ [] 0 0 := Stand.of_body Bd
  have e0 : s₁.heap = h0 := by rw [← hh, Bd.state]; rfl
  have N0 := Fr.nil n0
  have K0 : Keep h0 h0 [] := Keep.refl _ _
  rw [ef6 m a1]
  show own_Go p e below (own_End s (Q6 Z a1 b1 kc nn vs h0 n0) ({ frames := 1, cells := 1, slots := 3, locals := 14 } : Room).cells ({ frames := 1, cells := 1, slots := 3, locals := 14 } : Room).slots) s₁ (mkF m 0 #[.val (.ref a1)] [])
  refine own_aloadN X0 hx (hb hby d6_0) (pc' := 1) rfl rfl rfl ?_
  obtain ⟨T_1, X_1, e_1, st_1⟩ := getF X0 hx hZ hown (host := "") (Or.inl (hw _ (List.mem_of_getElem? (i := 25) rfl))) Via.refl e0 F_a (g := (mkF m 1 #[.val (.ref a1)] [(.ref a1)])) rfl rfl (hb hby d6_1)
  refine own_st st_1 ?_
  show own_Go p e below _ T_1 (mkF m 4 #[.val (.ref a1)] [(.ref b1)])
  obtain ⟨T_2, h_2, X_2, e_2, E_2, V_2, B_2, st_2⟩ := cloneH X_1 hx hZ hown (hw _ (List.mem_of_getElem? (i := 8) rfl)) (hw _ (List.mem_of_getElem? (i := 9) rfl)) (hw _ (List.mem_of_getElem? (i := 13) rfl)) (hw _ (List.mem_of_getElem? (i := 11) rfl)) (hw _ (List.mem_of_getElem? (i := 12) rfl)) (hw _ (List.mem_of_getElem? (i := 14) rfl)) e_1 V_a.arh B_a (g := (mkF m 4 #[.val (.ref a1)] [(.ref b1)])) rfl (by rw [hml]; rfl) (rest := []) rfl (hb hby d6_4) (by decide) (W := 0) (cap := 3) (by show 2 * 0 + _ ≤ _; exact Nat.le_of_eq rfl) (by decide) hcap (by decide) (by decide)
  obtain ⟨a_2, g_2⟩ : ∃ z, z = h0.size := ⟨_, rfl⟩
  rw [← g_2] at V_2 B_2 st_2
  have ge_2 : n0 ≤ a_2 := Nat.le_trans Z0 (Nat.le_of_eq g_2.symm)
  have nw_2 : h0.size ≤ a_2 := Nat.le_trans K0.1 (Nat.le_of_eq g_2.symm)
  have ne_2_a1 : a1 ≠ a_2 := Nat.ne_of_lt (Nat.lt_of_lt_of_eq F_a.lt g_2.symm)
  have ne_2_b1 : b1 ≠ a_2 := Nat.ne_of_lt (Nat.lt_of_lt_of_eq V_a.lt g_2.symm)
  have F_4 : Fld Z h_2 a1 "com/example/meterline/meterline/Answer" "body" "[B" (.ref b1) := F_a.ext E_2
  have V_5 : Arv Z h_2 b1 kc .byte nn vs (.int (0 : Int32)) := V_a.ext E_2
  have B_6 : Exa Z h_2 b1 "[B" := B_a.ext E_2
  have Z_3 : n0 ≤ h_2.size := Nat.le_trans Z0 E_2.1
  have K_3 : Keep h0 h_2 [] := K0.ext E_2
  have V_7 : Arv Z h_2 a_2 kc .byte nn vs (.int (0 : Int32)) := V_2
  refine own_st st_2 ?_
  show own_Go p e below _ T_2 (mkF m 7 #[.val (.ref a1)] [(.ref a_2)])
  obtain ⟨T_8, X_8, e_8, st_8⟩ := castY X_2 hx hZ hown (hw _ (List.mem_of_getElem? (i := 15) rfl)) e_2 (Ins.self B_2) (g := (mkF m 7 #[.val (.ref a1)] [(.ref a_2)])) rfl rfl (hb hby d6_7)
  refine own_st st_8 ?_
  show own_Go p e below _ T_8 (mkF m 10 #[.val (.ref a1)] [(.ref a_2)])
  refine own_retA X_8 hx hlk Bd.returns rfl rfl (hb hby d6_10) (by decide) (by decide) ?_
  rw [e_8]
  exact ⟨a_2, rfl, N0, K_3, V_7⟩
theorem pd0_0 : parseMethodDescriptor "(I[B)Lcom/example/meterline/meterline/Answer;" = some ⟨[.int, (.array .byte)], some (.object "com/example/meterline/meterline/Answer")⟩ := by decide +kernel
theorem pd0_1 : parseMethodDescriptor "()I" = some ⟨[], some .int⟩ := by decide +kernel
theorem pd0_2 : parseMethodDescriptor "()Ljava/lang/String;" = some ⟨[], some (.object "java/lang/String")⟩ := by decide +kernel
theorem pd0_3 : parseMethodDescriptor "()[B" = some ⟨[], some (.array .byte)⟩ := by decide +kernel
theorem pn0 : plainFor x = true := by first | exact plainFor_of_name (by first | (simp [plainName, overriddenIn]; done) | decide +kernel) | decide +kernel
theorem ef0 (m : MethodId) (x0 : Int32) (x1 : Int32) (x2 : Int32) (x3 : Int32) (x4 : Int32) : entryFrame m #[(.int x0), (.int x1), (.int x2), (.int x3), (.int x4)] maxLocals = mkF m 0 #[.val (.int x0), .val (.int x1), .val (.int x2), .val (.int x3), .val (.int x4), .unset, .unset, .unset, .unset, .unset, .unset, .unset, .unset] [] := by first | (simp [entryFrame, mkF, argsToLocals, Value.category, maxLocals]; done) | rfl
def Q0 (Z : State) (x0 : Int32) (x1 : Int32) (x2 : Int32) (x3 : Int32) (x4 : Int32) (h0 : Heap) (n0 : Nat) (v : Option Value) (h : Heap) (L : List Loc) : Prop := v = some (.int 1) ∧ Fr n0 L
set_option maxRecDepth 65536 in
set_option maxHeartbeats 40000000 in
theorem rm0 (l : Launch) (Z : State) (a0 : Array Value) (hw : ∀ d ∈ tables_1, d.before a0 Z = true) (ws : List Jvm.Cond) (x0 : Int32) (x1 : Int32) (x2 : Int32) (x3 : Int32) (x4 : Int32) (h0 : Heap) (n0 : Nat) (Z0 : n0 ≤ h0.size) :
    MetFree l x (head1 (Jvm.Cond.code x code maxLocals ret :: ws) room_1) (fun a U => a = #[(.int x0), (.int x1), (.int x2), (.int x3), (.int x4)] ∧ Z.Warmed39 U.vm ∧ U.heap = h0) (fun _ _ _ _ _ => True) (fun _ U o U' => ∃ v L, o = .returned v ∧ Q0 Z x0 x1 x2 x3 x4 h0 n0 v U'.heap L ∧ FrameEnd U o U' L 4 12) := by
  refine MetFree.of_bodySF pn0 hisR ?_
  intro p e s m args below meth c s₁ Bd hml0 hP hK
  obtain ⟨rfl, hZ, hh⟩ := hP
  have hx := Bd.exec
  have hby := Bd.bytes
  have hlk : meth.locks = false := BodyLoose.notSynchronized Bd
  have hml : c.maxLocals = 13 := hml0
  have hown : s.vm.findClass "com/example/meterline/meterline/AnswerOfPinLaw" = some m.cls := findClass_of_methodNamed Bd.named
  have hnm := (name_of_methodNamed Bd.named Bd.method).1
  have X0 : Stand p l e room_1 s m #[(.int x0), (.int x1), (.int x2), (.int x3), (.int x4)] below meth c s₁ [] 0 0 := Stand.of_body Bd
  have e0 : s₁.heap = h0 := by rw [← hh, Bd.state]; rfl
  have N0 := Fr.nil n0
  rw [ef0 m x0 x1 x2 x3 x4]
  show own_Go p e below (own_End s (Q0 Z x0 x1 x2 x3 x4 h0 n0) 4 12) s₁ (mkF m 0 #[.val (.int x0), .val (.int x1), .val (.int x2), .val (.int x3), .val (.int x4), .unset, .unset, .unset, .unset, .unset, .unset, .unset, .unset] [])
  refine own_bipush X0 hx (100) (hb hby at_0) (pc' := 2) rfl (by decide) ?_
  refine own_iloadN X0 hx (hb hby at_2) (pc' := 3) rfl rfl ?_
  refine own_ldcI X0 hx hown (mvT hZ (hw _ (List.mem_of_getElem? (i := 0) rfl))) (hb hby at_3) (pc' := 5) rfl ?_
  refine own_iand X0 hx (hb hby at_5) (pc' := 6) rfl ?_
  refine own_sipush X0 hx (500) (hb hby at_6) (pc' := 9) rfl (by decide) ?_
  refine own_irem X0 hx (hb hby at_9) (pc' := 10) rfl (by decide) ?_
  refine own_iadd X0 hx (hb hby at_10) (pc' := 11) rfl ?_
  obtain ⟨stt, est, hs1, hs2⟩ := own_stt x0
  rw [← est]
  refine own_istore X0 hx (hb hby at_11) (pc' := 13) (Ls' := #[.val (.int x0), .val (.int x1), .val (.int x2), .val (.int x3), .val (.int x4), .val (.int stt), .unset, .unset, .unset, .unset, .unset, .unset, .unset]) rfl rfl ?_
  refine own_iloadN X0 hx (hb hby at_13) (pc' := 14) rfl rfl ?_
  refine own_iconst X0 hx (3) (hb hby at_14) (pc' := 15) rfl rfl ?_
  refine own_iand X0 hx (hb hby at_15) (pc' := 16) rfl ?_
  rcases own_and3 x1 with q | q | q | q
  · rw [q]
    refine own_istore X0 hx (hb hby at_16) (pc' := 18) (Ls' := #[.val (.int x0), .val (.int x1), .val (.int x2), .val (.int x3), .val (.int x4), .val (.int stt), .val (.int (0 : Int32)), .unset, .unset, .unset, .unset, .unset, .unset]) rfl rfl ?_
    refine own_iloadN X0 hx (hb hby at_18) (pc' := 19) rfl rfl ?_
    refine own_i2b X0 hx (hb hby at_19) (pc' := 20) rfl ?_
    refine own_istore X0 hx (hb hby at_20) (pc' := 22) (Ls' := #[.val (.int x0), .val (.int x1), .val (.int x2), .val (.int x3), .val (.int x4), .val (.int stt), .val (.int (0 : Int32)), .val (.int (nar .byte x2)), .unset, .unset, .unset, .unset, .unset]) rfl rfl ?_
    refine own_iloadN X0 hx (hb hby at_22) (pc' := 23) rfl rfl ?_
    refine own_i2b X0 hx (hb hby at_23) (pc' := 24) rfl ?_
    refine own_istore X0 hx (hb hby at_24) (pc' := 26) (Ls' := #[.val (.int x0), .val (.int x1), .val (.int x2), .val (.int x3), .val (.int x4), .val (.int stt), .val (.int (0 : Int32)), .val (.int (nar .byte x2)), .val (.int (nar .byte x3)), .unset, .unset, .unset, .unset]) rfl rfl ?_
    refine own_iload X0 hx (hb hby at_26) (pc' := 28) rfl rfl ?_
    refine own_i2b X0 hx (hb hby at_28) (pc' := 29) rfl ?_
    refine own_istore X0 hx (hb hby at_29) (pc' := 31) (Ls' := #[.val (.int x0), .val (.int x1), .val (.int x2), .val (.int x3), .val (.int x4), .val (.int stt), .val (.int (0 : Int32)), .val (.int (nar .byte x2)), .val (.int (nar .byte x3)), .val (.int (nar .byte x4)), .unset, .unset, .unset]) rfl rfl ?_
    refine own_iload X0 hx (hb hby at_31) (pc' := 33) rfl rfl ?_
    obtain ⟨T_1, h_1, kc_1, X_1, e_1, E_1, A_1, B_1, st_1⟩ := newPE X0 hx hZ (hw _ (List.mem_of_getElem? (i := 1) rfl)) e0 (g := (mkF m 33 #[.val (.int x0), .val (.int x1), .val (.int x2), .val (.int x3), .val (.int x4), .val (.int stt), .val (.int (0 : Int32)), .val (.int (nar .byte x2)), .val (.int (nar .byte x3)), .val (.int (nar .byte x4)), .unset, .unset, .unset] [(.int (0 : Int32))])) rfl (hb hby at_33) rfl (by decide) (cap := 0) (by decide) (by decide) (by decide) (by decide) (ad := "[B") rfl
    obtain ⟨a_1, g_1⟩ : ∃ z, z = h0.size := ⟨_, rfl⟩
    rw [← g_1] at A_1 st_1 B_1
    have ge_1 : n0 ≤ a_1 := Nat.le_trans Z0 (Nat.le_of_eq g_1.symm)
    have Z_2 : n0 ≤ h_1.size := Nat.le_trans Z0 E_1.1
    have V_3 : Arv Z h_1 a_1 kc_1 .byte (0 : Int32) [] (.int (0 : Int32)) := (Arv.new A_1 (by decide)).pad (pad_rep [] (.int (0 : Int32)) 0)
    refine own_st st_1 ?_
    show own_Go p e below _ T_1 (mkF m 35 #[.val (.int x0), .val (.int x1), .val (.int x2), .val (.int x3), .val (.int x4), .val (.int stt), .val (.int (0 : Int32)), .val (.int (nar .byte x2)), .val (.int (nar .byte x3)), .val (.int (nar .byte x4)), .unset, .unset, .unset] [(.ref a_1)])
    refine own_astore X_1 hx (hb hby at_35) (pc' := 37) (Ls' := #[.val (.int x0), .val (.int x1), .val (.int x2), .val (.int x3), .val (.int x4), .val (.int stt), .val (.int (0 : Int32)), .val (.int (nar .byte x2)), .val (.int (nar .byte x3)), .val (.int (nar .byte x4)), .val (.ref a_1), .unset, .unset]) rfl rfl rfl ?_
    refine own_iload X_1 hx (hb hby at_37) (pc' := 39) rfl rfl ?_
    refine own_ifY X_1 hx (hb hby at_39) (by decide) (pc' := 48) (by decide) (by decide) ?_
    refine own_iload X_1 hx (hb hby at_48) (pc' := 50) rfl rfl ?_
    refine own_iconst X_1 hx (1) (hb hby at_50) (pc' := 51) rfl rfl ?_
    refine own_icmpY X_1 hx (hb hby at_51) (by decide) (pc' := 60) (by decide) (by decide) ?_
    refine own_iload X_1 hx (hb hby at_60) (pc' := 62) rfl rfl ?_
    refine own_iconst X_1 hx (2) (hb hby at_62) (pc' := 63) rfl rfl ?_
    refine own_icmpY X_1 hx (hb hby at_63) (by decide) (pc' := 72) (by decide) (by decide) ?_
    refine own_iload X_1 hx (hb hby at_72) (pc' := 74) rfl rfl ?_
    refine own_aload X_1 hx (hb hby at_74) (pc' := 76) rfl rfl rfl ?_
    obtain ⟨_, _, ⟨T_4, L_4, k_4, n_4⟩, -, X_4, ⟨Lc_4, hQ_4, l_4, y_4, z_4⟩, st_4⟩ := Jvm.LawKit.callS X_1 hx (y := (⟨"com/example/meterline/meterline/Answer", "of", "(I[B)Lcom/example/meterline/meterline/Answer;"⟩ : MethodName)) hown (mvT hZ (hw _ (List.mem_of_getElem? (i := 2) rfl))) (mvT hZ (hw _ (List.mem_of_getElem? (i := 3) rfl))) (mvT hZ (hw _ (List.mem_of_getElem? (i := 4) rfl))) (mvT hZ (hw _ (List.mem_of_getElem? (i := 5) rfl))) (by decide) (backOf (W := 0) (rm2 l Z a0 hw [] stt a_1 kc_1 (0 : Int32) [] h_1 n0 Z_2 V_3 B_1 hs1 hs2 (by decide)) hZ (hw _ (List.mem_of_getElem? (i := 5) rfl)) (hw _ (List.mem_of_getElem? (i := 4) rfl)) (by decide) (by decide)) (g := (mkF m 76 #[.val (.int x0), .val (.int x1), .val (.int x2), .val (.int x3), .val (.int x4), .val (.int stt), .val (.int (0 : Int32)), .val (.int (nar .byte x2)), .val (.int (nar .byte x3)), .val (.int (nar .byte x4)), .val (.ref a_1), .unset, .unset] [(.ref a_1), (.int stt)])) rfl (by rw [hml]; rfl) (argsL := [(.int stt), (.ref a_1)]) (rest := []) (lenOf pd0_0 rfl) rfl (by show 2 * 0 + _ ≤ _; exact Nat.le_of_eq rfl) (hb hby at_76) (fun _ _ => ⟨rfl, e_1, (by decide : 1 + 2 ≤ _), (by decide : 0 + 6 ≤ _)⟩)
    dsimp only [Pt.U, Pt.locs, Pt.cells, Pt.slots] at X_4 l_4 y_4 z_4 st_4 hQ_4
    subst l_4 y_4 z_4
    refine own_st st_4 ?_
    obtain ⟨r, b2, rfl, Nq_4, Kq_4, A_r, F_s, F_b, F_e, V_b, B_b, hr, hb2⟩ := hQ_4
    have N_4 := Fr.app N0 Nq_4
    have ne_r : r ≠ a_1 := (Nat.ne_of_lt (Nat.lt_of_lt_of_le V_3.lt hr)).symm
    have ne_b : b2 ≠ a_1 := (Nat.ne_of_lt (Nat.lt_of_lt_of_le V_3.lt hb2)).symm
    have B_6 : Exa Z T_4.heap a_1 "[B" := B_1.keep Kq_4
    have V_7 : Arv Z T_4.heap a_1 kc_1 .byte (0 : Int32) [] (.int (0 : Int32)) := V_3.keep Kq_4 nin0
    have Z_5 : n0 ≤ T_4.heap.size := Nat.le_trans Z_2 Kq_4.1
    show own_Go p e below _ T_4 (mkF m 79 #[.val (.int x0), .val (.int x1), .val (.int x2), .val (.int x3), .val (.int x4), .val (.int stt), .val (.int (0 : Int32)), .val (.int (nar .byte x2)), .val (.int (nar .byte x3)), .val (.int (nar .byte x4)), .val (.ref a_1), .unset, .unset] [(.ref r)])
    refine own_astore X_4 hx (hb hby at_79) (pc' := 81) (Ls' := #[.val (.int x0), .val (.int x1), .val (.int x2), .val (.int x3), .val (.int x4), .val (.int stt), .val (.int (0 : Int32)), .val (.int (nar .byte x2)), .val (.int (nar .byte x3)), .val (.int (nar .byte x4)), .val (.ref a_1), .val (.ref r), .unset]) rfl rfl rfl ?_
    refine own_iload X_4 hx (hb hby at_81) (pc' := 83) rfl rfl ?_
    refine own_ifY X_4 hx (hb hby at_83) (by decide) (pc' := 95) (by decide) (by decide) ?_
    refine own_iload X_4 hx (hb hby at_95) (pc' := 97) rfl rfl ?_
    refine own_iconst X_4 hx (1) (hb hby at_97) (pc' := 98) rfl rfl ?_
    refine own_icmpY X_4 hx (hb hby at_98) (by decide) (pc' := 110) (by decide) (by decide) ?_
    refine own_iload X_4 hx (hb hby at_110) (pc' := 112) rfl rfl ?_
    refine own_iconst X_4 hx (2) (hb hby at_112) (pc' := 113) rfl rfl ?_
    refine own_icmpY X_4 hx (hb hby at_113) (by decide) (pc' := 125) (by decide) (by decide) ?_
    refine own_aload X_4 hx (hb hby at_125) (pc' := 127) rfl rfl rfl ?_
    obtain ⟨cq_8, kq_8, qa_8, qb_8, qc_8⟩ := isOf hZ rfl A_r
    obtain ⟨_, _, ⟨T_8, L_8, k_8, n_8⟩, -, X_8, ⟨Lc_8, hQ_8, l_8, y_8, z_8⟩, st_8⟩ := X_4.virtualBack hx  (y := (⟨"com/example/meterline/meterline/Answer", "status", "()I"⟩ : MethodName)) (z := (⟨"com/example/meterline/meterline/Answer", "status", "()I"⟩ : MethodName)) hown (mvT hZ (hw _ (List.mem_of_getElem? (i := 29) rfl))) (mvT hZ (hw _ (List.mem_of_getElem? (i := 30) rfl))) (notFace_of_selects (args := #[]) (mvT hZ (hw _ (List.mem_of_getElem? (i := 32) rfl)))) (mvT hZ (hw _ (List.mem_of_getElem? (i := 32) rfl))) (mvT hZ (hw _ (List.mem_of_getElem? (i := 31) rfl))) (by decide) (backOf (W := 0) (rm3 l Z a0 hw [] r stt T_4.heap n0 Z_5 F_s) hZ (hw _ (List.mem_of_getElem? (i := 33) rfl)) (hw _ (List.mem_of_getElem? (i := 4) rfl)) (by decide) (by decide)) qa_8 qc_8 (g := (mkF m 127 #[.val (.int x0), .val (.int x1), .val (.int x2), .val (.int x3), .val (.int x4), .val (.int stt), .val (.int (0 : Int32)), .val (.int (nar .byte x2)), .val (.int (nar .byte x3)), .val (.int (nar .byte x4)), .val (.ref a_1), .val (.ref r), .unset] [(.ref r)])) rfl (by rw [hml]; rfl) (Steps.refl _) (argsL := []) (rest := []) (lenOf pd0_1 rfl) rfl (by show 2 * 0 + _ ≤ _; exact Nat.le_of_eq rfl) (hb hby at_127) (fun _ _ => ⟨rfl, rfl, (by decide : 3 + 0 ≤ _), (by decide : 6 + 0 ≤ _)⟩)
    dsimp only [Pt.U, Pt.locs, Pt.cells, Pt.slots] at X_8 l_8 y_8 z_8 st_8 hQ_8
    subst l_8 y_8 z_8
    refine own_tr st_8 ?_
    obtain ⟨rfl, Nq_8, eq_8⟩ := hQ_8
    have N_8 := Fr.app N_4 Nq_8
    show own_Go p e below _ T_8 (mkF m 130 #[.val (.int x0), .val (.int x1), .val (.int x2), .val (.int x3), .val (.int x4), .val (.int stt), .val (.int (0 : Int32)), .val (.int (nar .byte x2)), .val (.int (nar .byte x3)), .val (.int (nar .byte x4)), .val (.ref a_1), .val (.ref r), .unset] [(.int stt)])
    refine own_iload X_8 hx (hb hby at_130) (pc' := 132) rfl rfl ?_
    refine own_icmpY X_8 hx (hb hby at_132) (XT.ii_eq_t rfl) (pc' := 137) (by decide) (by decide) ?_
    refine own_aload X_8 hx (hb hby at_137) (pc' := 139) rfl rfl rfl ?_
    obtain ⟨cq_9, kq_9, qa_9, qb_9, qc_9⟩ := isOf hZ eq_8 A_r
    obtain ⟨_, _, ⟨T_9, L_9, k_9, n_9⟩, -, X_9, ⟨Lc_9, hQ_9, l_9, y_9, z_9⟩, st_9⟩ := X_8.virtualBack hx  (y := (⟨"com/example/meterline/meterline/Answer", "error", "()Ljava/lang/String;"⟩ : MethodName)) (z := (⟨"com/example/meterline/meterline/Answer", "error", "()Ljava/lang/String;"⟩ : MethodName)) hown (mvT hZ (hw _ (List.mem_of_getElem? (i := 34) rfl))) (mvT hZ (hw _ (List.mem_of_getElem? (i := 35) rfl))) (notFace_of_selects (args := #[]) (mvT hZ (hw _ (List.mem_of_getElem? (i := 37) rfl)))) (mvT hZ (hw _ (List.mem_of_getElem? (i := 37) rfl))) (mvT hZ (hw _ (List.mem_of_getElem? (i := 36) rfl))) (by decide) (backOf (W := 0) (rm4 l Z a0 hw [] r T_4.heap n0 Z_5 F_e) hZ (hw _ (List.mem_of_getElem? (i := 38) rfl)) (hw _ (List.mem_of_getElem? (i := 4) rfl)) (by decide) (by decide)) qa_9 qc_9 (g := (mkF m 139 #[.val (.int x0), .val (.int x1), .val (.int x2), .val (.int x3), .val (.int x4), .val (.int stt), .val (.int (0 : Int32)), .val (.int (nar .byte x2)), .val (.int (nar .byte x3)), .val (.int (nar .byte x4)), .val (.ref a_1), .val (.ref r), .unset] [(.ref r)])) rfl (by rw [hml]; rfl) (Steps.refl _) (argsL := []) (rest := []) (lenOf pd0_2 rfl) rfl (by show 2 * 0 + _ ≤ _; exact Nat.le_of_eq rfl) (hb hby at_139) (fun _ _ => ⟨rfl, eq_8, (by decide : 3 + 0 ≤ _), (by decide : 6 + 0 ≤ _)⟩)
    dsimp only [Pt.U, Pt.locs, Pt.cells, Pt.slots] at X_9 l_9 y_9 z_9 st_9 hQ_9
    subst l_9 y_9 z_9
    refine own_tr st_9 ?_
    obtain ⟨rfl, Nq_9, eq_9⟩ := hQ_9
    have N_9 := Fr.app N_8 Nq_9
    show own_Go p e below _ T_9 (mkF m 142 #[.val (.int x0), .val (.int x1), .val (.int x2), .val (.int x3), .val (.int x4), .val (.int stt), .val (.int (0 : Int32)), .val (.int (nar .byte x2)), .val (.int (nar .byte x3)), .val (.int (nar .byte x4)), .val (.ref a_1), .val (.ref r), .unset] [(.null)])
    refine own_ifnullY X_9 hx (hb hby at_142) (pc' := 147) (by decide) (by decide) ?_
    refine own_aload X_9 hx (hb hby at_147) (pc' := 149) rfl rfl rfl ?_
    obtain ⟨cq_10, kq_10, qa_10, qb_10, qc_10⟩ := isOf hZ eq_9 A_r
    obtain ⟨_, _, ⟨T_10, L_10, k_10, n_10⟩, -, X_10, ⟨Lc_10, hQ_10, l_10, y_10, z_10⟩, st_10⟩ := X_9.virtualBack hx  (y := (⟨"com/example/meterline/meterline/Answer", "size", "()I"⟩ : MethodName)) (z := (⟨"com/example/meterline/meterline/Answer", "size", "()I"⟩ : MethodName)) hown (mvT hZ (hw _ (List.mem_of_getElem? (i := 39) rfl))) (mvT hZ (hw _ (List.mem_of_getElem? (i := 40) rfl))) (notFace_of_selects (args := #[]) (mvT hZ (hw _ (List.mem_of_getElem? (i := 42) rfl)))) (mvT hZ (hw _ (List.mem_of_getElem? (i := 42) rfl))) (mvT hZ (hw _ (List.mem_of_getElem? (i := 41) rfl))) (by decide) (backOf (W := 0) (rm5 l Z a0 hw [] r b2 kc_1 (0 : Int32) [] T_4.heap n0 Z_5 F_b V_b) hZ (hw _ (List.mem_of_getElem? (i := 43) rfl)) (hw _ (List.mem_of_getElem? (i := 4) rfl)) (by decide) (by decide)) qa_10 qc_10 (g := (mkF m 149 #[.val (.int x0), .val (.int x1), .val (.int x2), .val (.int x3), .val (.int x4), .val (.int stt), .val (.int (0 : Int32)), .val (.int (nar .byte x2)), .val (.int (nar .byte x3)), .val (.int (nar .byte x4)), .val (.ref a_1), .val (.ref r), .unset] [(.ref r)])) rfl (by rw [hml]; rfl) (Steps.refl _) (argsL := []) (rest := []) (lenOf pd0_1 rfl) rfl (by show 2 * 0 + _ ≤ _; exact Nat.le_of_eq rfl) (hb hby at_149) (fun _ _ => ⟨rfl, eq_9, (by decide : 3 + 0 ≤ _), (by decide : 6 + 0 ≤ _)⟩)
    dsimp only [Pt.U, Pt.locs, Pt.cells, Pt.slots] at X_10 l_10 y_10 z_10 st_10 hQ_10
    subst l_10 y_10 z_10
    refine own_tr st_10 ?_
    obtain ⟨rfl, Nq_10, eq_10⟩ := hQ_10
    have N_10 := Fr.app N_9 Nq_10
    show own_Go p e below _ T_10 (mkF m 152 #[.val (.int x0), .val (.int x1), .val (.int x2), .val (.int x3), .val (.int x4), .val (.int stt), .val (.int (0 : Int32)), .val (.int (nar .byte x2)), .val (.int (nar .byte x3)), .val (.int (nar .byte x4)), .val (.ref a_1), .val (.ref r), .unset] [(.int (0 : Int32))])
    refine own_iload X_10 hx (hb hby at_152) (pc' := 154) rfl rfl ?_
    refine own_icmpY X_10 hx (hb hby at_154) (by decide) (pc' := 159) (by decide) (by decide) ?_
    refine own_aload X_10 hx (hb hby at_159) (pc' := 161) rfl rfl rfl ?_
    obtain ⟨cq_11, kq_11, qa_11, qb_11, qc_11⟩ := isOf hZ eq_10 A_r
    obtain ⟨_, _, ⟨T_11, L_11, k_11, n_11⟩, -, X_11, ⟨Lc_11, hQ_11, l_11, y_11, z_11⟩, st_11⟩ := X_10.virtualBack hx  (y := (⟨"com/example/meterline/meterline/Answer", "body", "()[B"⟩ : MethodName)) (z := (⟨"com/example/meterline/meterline/Answer", "body", "()[B"⟩ : MethodName)) hown (mvT hZ (hw _ (List.mem_of_getElem? (i := 44) rfl))) (mvT hZ (hw _ (List.mem_of_getElem? (i := 45) rfl))) (notFace_of_selects (args := #[]) (mvT hZ (hw _ (List.mem_of_getElem? (i := 47) rfl)))) (mvT hZ (hw _ (List.mem_of_getElem? (i := 47) rfl))) (mvT hZ (hw _ (List.mem_of_getElem? (i := 46) rfl))) (by decide) (backOf (W := 0) (rm6 l Z a0 hw [] r b2 kc_1 (0 : Int32) [] T_4.heap n0 Z_5 F_b V_b B_b (by decide)) hZ (hw _ (List.mem_of_getElem? (i := 48) rfl)) (hw _ (List.mem_of_getElem? (i := 4) rfl)) (by decide) (by decide)) qa_11 qc_11 (g := (mkF m 161 #[.val (.int x0), .val (.int x1), .val (.int x2), .val (.int x3), .val (.int x4), .val (.int stt), .val (.int (0 : Int32)), .val (.int (nar .byte x2)), .val (.int (nar .byte x3)), .val (.int (nar .byte x4)), .val (.ref a_1), .val (.ref r), .unset] [(.ref r)])) rfl (by rw [hml]; rfl) (Steps.refl _) (argsL := []) (rest := []) (lenOf pd0_3 rfl) rfl (by show 2 * 0 + _ ≤ _; exact Nat.le_of_eq rfl) (hb hby at_161) (fun _ _ => ⟨rfl, eq_10, (by decide : 3 + 1 ≤ _), (by decide : 6 + 3 ≤ _)⟩)
    dsimp only [Pt.U, Pt.locs, Pt.cells, Pt.slots] at X_11 l_11 y_11 z_11 st_11 hQ_11
    subst l_11 y_11 z_11
    refine own_tr st_11 ?_
    obtain ⟨rb, rfl, Nq_11, Kq_11, V_rb⟩ := hQ_11
    have N_11 := Fr.app N_10 Nq_11
    have A_13 : Exa Z T_11.heap r "com/example/meterline/meterline/Answer" := A_r.keep Kq_11
    have F_14 : Fld Z T_11.heap r "com/example/meterline/meterline/Answer" "status" "I" (.int stt) := F_s.keep Kq_11 nin0
    have F_15 : Fld Z T_11.heap r "com/example/meterline/meterline/Answer" "body" "[B" (.ref b2) := F_b.keep Kq_11 nin0
    have F_16 : Fld Z T_11.heap r "com/example/meterline/meterline/Answer" "error" "Ljava/lang/String;" (.null) := F_e.keep Kq_11 nin0
    have V_17 : Arv Z T_11.heap b2 kc_1 .byte (0 : Int32) [] (.int (0 : Int32)) := V_b.keep Kq_11 nin0
    have B_18 : Exa Z T_11.heap b2 "[B" := B_b.keep Kq_11
    have B_19 : Exa Z T_11.heap a_1 "[B" := B_6.keep Kq_11
    have V_20 : Arv Z T_11.heap a_1 kc_1 .byte (0 : Int32) [] (.int (0 : Int32)) := V_7.keep Kq_11 nin0
    have Z_12 : n0 ≤ T_11.heap.size := Nat.le_trans Z_5 Kq_11.1
    show own_Go p e below _ T_11 (mkF m 164 #[.val (.int x0), .val (.int x1), .val (.int x2), .val (.int x3), .val (.int x4), .val (.int stt), .val (.int (0 : Int32)), .val (.int (nar .byte x2)), .val (.int (nar .byte x3)), .val (.int (nar .byte x4)), .val (.ref a_1), .val (.ref r), .unset] [(.ref rb)])
    refine own_astore X_11 hx (hb hby at_164) (pc' := 166) (Ls' := #[.val (.int x0), .val (.int x1), .val (.int x2), .val (.int x3), .val (.int x4), .val (.int stt), .val (.int (0 : Int32)), .val (.int (nar .byte x2)), .val (.int (nar .byte x3)), .val (.int (nar .byte x4)), .val (.ref a_1), .val (.ref r), .val (.ref rb)]) rfl rfl rfl ?_
    refine own_aload X_11 hx (hb hby at_166) (pc' := 168) rfl rfl rfl ?_
    refine own_alen X_11 hx hZ rfl V_rb (hb hby at_168) (pc' := 169) rfl ?_
    refine own_iload X_11 hx (hb hby at_169) (pc' := 171) rfl rfl ?_
    refine own_icmpY X_11 hx (hb hby at_171) (by decide) (pc' := 176) (by decide) (by decide) ?_
    refine own_iload X_11 hx (hb hby at_176) (pc' := 178) rfl rfl ?_
    refine own_ifY X_11 hx (hb hby at_178) (by decide) (pc' := 192) (by decide) (by decide) ?_
    refine own_iload X_11 hx (hb hby at_192) (pc' := 194) rfl rfl ?_
    refine own_iconst X_11 hx (1) (hb hby at_194) (pc' := 195) rfl rfl ?_
    refine own_icmpY X_11 hx (hb hby at_195) (by decide) (pc' := 209) (by decide) (by decide) ?_
    refine own_iload X_11 hx (hb hby at_209) (pc' := 211) rfl rfl ?_
    refine own_iconst X_11 hx (2) (hb hby at_211) (pc' := 212) rfl rfl ?_
    refine own_icmpY X_11 hx (hb hby at_212) (by decide) (pc' := 226) (by decide) (by decide) ?_
    refine own_iconst X_11 hx (1) (hb hby at_226) (pc' := 227) rfl rfl ?_
    refine own_retZ X_11 hx hlk Bd.returns (by simp) (hb hby at_227) (by decide) (by decide) ?_
    exact ⟨rfl, N_11⟩
  · rw [q]
    refine own_istore X0 hx (hb hby at_16) (pc' := 18) (Ls' := #[.val (.int x0), .val (.int x1), .val (.int x2), .val (.int x3), .val (.int x4), .val (.int stt), .val (.int (1 : Int32)), .unset, .unset, .unset, .unset, .unset, .unset]) rfl rfl ?_
    refine own_iloadN X0 hx (hb hby at_18) (pc' := 19) rfl rfl ?_
    refine own_i2b X0 hx (hb hby at_19) (pc' := 20) rfl ?_
    refine own_istore X0 hx (hb hby at_20) (pc' := 22) (Ls' := #[.val (.int x0), .val (.int x1), .val (.int x2), .val (.int x3), .val (.int x4), .val (.int stt), .val (.int (1 : Int32)), .val (.int (nar .byte x2)), .unset, .unset, .unset, .unset, .unset]) rfl rfl ?_
    refine own_iloadN X0 hx (hb hby at_22) (pc' := 23) rfl rfl ?_
    refine own_i2b X0 hx (hb hby at_23) (pc' := 24) rfl ?_
    refine own_istore X0 hx (hb hby at_24) (pc' := 26) (Ls' := #[.val (.int x0), .val (.int x1), .val (.int x2), .val (.int x3), .val (.int x4), .val (.int stt), .val (.int (1 : Int32)), .val (.int (nar .byte x2)), .val (.int (nar .byte x3)), .unset, .unset, .unset, .unset]) rfl rfl ?_
    refine own_iload X0 hx (hb hby at_26) (pc' := 28) rfl rfl ?_
    refine own_i2b X0 hx (hb hby at_28) (pc' := 29) rfl ?_
    refine own_istore X0 hx (hb hby at_29) (pc' := 31) (Ls' := #[.val (.int x0), .val (.int x1), .val (.int x2), .val (.int x3), .val (.int x4), .val (.int stt), .val (.int (1 : Int32)), .val (.int (nar .byte x2)), .val (.int (nar .byte x3)), .val (.int (nar .byte x4)), .unset, .unset, .unset]) rfl rfl ?_
    refine own_iload X0 hx (hb hby at_31) (pc' := 33) rfl rfl ?_
    obtain ⟨T_21, h_21, kc_21, X_21, e_21, E_21, A_21, B_21, st_21⟩ := newPE X0 hx hZ (hw _ (List.mem_of_getElem? (i := 1) rfl)) e0 (g := (mkF m 33 #[.val (.int x0), .val (.int x1), .val (.int x2), .val (.int x3), .val (.int x4), .val (.int stt), .val (.int (1 : Int32)), .val (.int (nar .byte x2)), .val (.int (nar .byte x3)), .val (.int (nar .byte x4)), .unset, .unset, .unset] [(.int (1 : Int32))])) rfl (hb hby at_33) rfl (by decide) (cap := 1) (by decide) (by decide) (by decide) (by decide) (ad := "[B") rfl
    obtain ⟨a_21, g_21⟩ : ∃ z, z = h0.size := ⟨_, rfl⟩
    rw [← g_21] at A_21 st_21 B_21
    have ge_21 : n0 ≤ a_21 := Nat.le_trans Z0 (Nat.le_of_eq g_21.symm)
    have Z_22 : n0 ≤ h_21.size := Nat.le_trans Z0 E_21.1
    have V_23 : Arv Z h_21 a_21 kc_21 .byte (1 : Int32) [(.int (0 : Int32))] (.int (0 : Int32)) := (Arv.new A_21 (by decide)).pad (pad_rep [] (.int (0 : Int32)) 1)
    refine own_st st_21 ?_
    show own_Go p e below _ T_21 (mkF m 35 #[.val (.int x0), .val (.int x1), .val (.int x2), .val (.int x3), .val (.int x4), .val (.int stt), .val (.int (1 : Int32)), .val (.int (nar .byte x2)), .val (.int (nar .byte x3)), .val (.int (nar .byte x4)), .unset, .unset, .unset] [(.ref a_21)])
    refine own_astore X_21 hx (hb hby at_35) (pc' := 37) (Ls' := #[.val (.int x0), .val (.int x1), .val (.int x2), .val (.int x3), .val (.int x4), .val (.int stt), .val (.int (1 : Int32)), .val (.int (nar .byte x2)), .val (.int (nar .byte x3)), .val (.int (nar .byte x4)), .val (.ref a_21), .unset, .unset]) rfl rfl rfl ?_
    refine own_iload X_21 hx (hb hby at_37) (pc' := 39) rfl rfl ?_
    refine own_ifN X_21 hx (hb hby at_39) (by decide) (pc' := 42) rfl ?_
    refine own_aload X_21 hx (hb hby at_42) (pc' := 44) rfl rfl rfl ?_
    refine own_iconst X_21 hx (0) (hb hby at_44) (pc' := 45) rfl rfl ?_
    refine own_iload X_21 hx (hb hby at_45) (pc' := 47) rfl rfl ?_
    obtain ⟨T_24, h_24, X_24, e_24, W_24, V_24, st_24⟩ := own_bastore X_21 hx hZ e_21 V_23 0 (x := (nar .byte x2)) (j := (0 : Int32)) (Ls := #[.val (.int x0), .val (.int x1), .val (.int x2), .val (.int x3), .val (.int x4), .val (.int stt), .val (.int (1 : Int32)), .val (.int (nar .byte x2)), .val (.int (nar .byte x3)), .val (.int (nar .byte x4)), .val (.ref a_21), .unset, .unset]) (st := []) ⟨by decide, by decide⟩ rfl (Nat.le_of_ble_eq_true rfl) (hb hby at_47)
    have V_25 : Arv Z h_24 a_21 kc_21 .byte (1 : Int32) [(.int (nar .byte (nar .byte x2)))] (.int (0 : Int32)) := V_24
    have B_27 : Exa Z h_24 a_21 "[B" := B_21.wr W_24
    have Z_26 : n0 ≤ h_24.size := by rw [W_24.size]; exact Z_22
    have N_24 := Fr.snoc X_24 N0 ge_21
    refine own_st st_24 ?_
    show own_Go p e below _ T_24 (mkF m 48 #[.val (.int x0), .val (.int x1), .val (.int x2), .val (.int x3), .val (.int x4), .val (.int stt), .val (.int (1 : Int32)), .val (.int (nar .byte x2)), .val (.int (nar .byte x3)), .val (.int (nar .byte x4)), .val (.ref a_21), .unset, .unset] [])
    refine own_iload X_24 hx (hb hby at_48) (pc' := 50) rfl rfl ?_
    refine own_iconst X_24 hx (1) (hb hby at_50) (pc' := 51) rfl rfl ?_
    refine own_icmpY X_24 hx (hb hby at_51) (by decide) (pc' := 60) (by decide) (by decide) ?_
    refine own_iload X_24 hx (hb hby at_60) (pc' := 62) rfl rfl ?_
    refine own_iconst X_24 hx (2) (hb hby at_62) (pc' := 63) rfl rfl ?_
    refine own_icmpY X_24 hx (hb hby at_63) (by decide) (pc' := 72) (by decide) (by decide) ?_
    refine own_iload X_24 hx (hb hby at_72) (pc' := 74) rfl rfl ?_
    refine own_aload X_24 hx (hb hby at_74) (pc' := 76) rfl rfl rfl ?_
    obtain ⟨_, _, ⟨T_28, L_28, k_28, n_28⟩, -, X_28, ⟨Lc_28, hQ_28, l_28, y_28, z_28⟩, st_28⟩ := Jvm.LawKit.callS X_24 hx (y := (⟨"com/example/meterline/meterline/Answer", "of", "(I[B)Lcom/example/meterline/meterline/Answer;"⟩ : MethodName)) hown (mvT hZ (hw _ (List.mem_of_getElem? (i := 2) rfl))) (mvT hZ (hw _ (List.mem_of_getElem? (i := 3) rfl))) (mvT hZ (hw _ (List.mem_of_getElem? (i := 4) rfl))) (mvT hZ (hw _ (List.mem_of_getElem? (i := 5) rfl))) (by decide) (backOf (W := 0) (rm2 l Z a0 hw [] stt a_21 kc_21 (1 : Int32) [(.int (nar .byte (nar .byte x2)))] h_24 n0 Z_26 V_25 B_27 hs1 hs2 (by decide)) hZ (hw _ (List.mem_of_getElem? (i := 5) rfl)) (hw _ (List.mem_of_getElem? (i := 4) rfl)) (by decide) (by decide)) (g := (mkF m 76 #[.val (.int x0), .val (.int x1), .val (.int x2), .val (.int x3), .val (.int x4), .val (.int stt), .val (.int (1 : Int32)), .val (.int (nar .byte x2)), .val (.int (nar .byte x3)), .val (.int (nar .byte x4)), .val (.ref a_21), .unset, .unset] [(.ref a_21), (.int stt)])) rfl (by rw [hml]; rfl) (argsL := [(.int stt), (.ref a_21)]) (rest := []) (lenOf pd0_0 rfl) rfl (by show 2 * 0 + _ ≤ _; exact Nat.le_of_eq rfl) (hb hby at_76) (fun _ _ => ⟨rfl, e_24, (by decide : 1 + 2 ≤ _), (by decide : 1 + 6 ≤ _)⟩)
    dsimp only [Pt.U, Pt.locs, Pt.cells, Pt.slots] at X_28 l_28 y_28 z_28 st_28 hQ_28
    subst l_28 y_28 z_28
    refine own_st st_28 ?_
    obtain ⟨r, b2, rfl, Nq_28, Kq_28, A_r, F_s, F_b, F_e, V_b, B_b, hr, hb2⟩ := hQ_28
    have N_28 := Fr.app N_24 Nq_28
    have ne_r : r ≠ a_21 := (Nat.ne_of_lt (Nat.lt_of_lt_of_le V_25.lt hr)).symm
    have ne_b : b2 ≠ a_21 := (Nat.ne_of_lt (Nat.lt_of_lt_of_le V_25.lt hb2)).symm
    have V_30 : Arv Z T_28.heap a_21 kc_21 .byte (1 : Int32) [(.int (nar .byte (nar .byte x2)))] (.int (0 : Int32)) := V_25.keep Kq_28 nin0
    have B_31 : Exa Z T_28.heap a_21 "[B" := B_27.keep Kq_28
    have Z_29 : n0 ≤ T_28.heap.size := Nat.le_trans Z_26 Kq_28.1
    show own_Go p e below _ T_28 (mkF m 79 #[.val (.int x0), .val (.int x1), .val (.int x2), .val (.int x3), .val (.int x4), .val (.int stt), .val (.int (1 : Int32)), .val (.int (nar .byte x2)), .val (.int (nar .byte x3)), .val (.int (nar .byte x4)), .val (.ref a_21), .unset, .unset] [(.ref r)])
    refine own_astore X_28 hx (hb hby at_79) (pc' := 81) (Ls' := #[.val (.int x0), .val (.int x1), .val (.int x2), .val (.int x3), .val (.int x4), .val (.int stt), .val (.int (1 : Int32)), .val (.int (nar .byte x2)), .val (.int (nar .byte x3)), .val (.int (nar .byte x4)), .val (.ref a_21), .val (.ref r), .unset]) rfl rfl rfl ?_
    refine own_iload X_28 hx (hb hby at_81) (pc' := 83) rfl rfl ?_
    refine own_ifN X_28 hx (hb hby at_83) (by decide) (pc' := 86) rfl ?_
    refine own_aload X_28 hx (hb hby at_86) (pc' := 88) rfl rfl rfl ?_
    refine own_iconst X_28 hx (0) (hb hby at_88) (pc' := 89) rfl rfl ?_
    refine own_iload X_28 hx (hb hby at_89) (pc' := 91) rfl rfl ?_
    refine own_iconst X_28 hx (1) (hb hby at_91) (pc' := 92) rfl rfl ?_
    refine own_iadd X_28 hx (hb hby at_92) (pc' := 93) rfl ?_
    refine own_i2b X_28 hx (hb hby at_93) (pc' := 94) rfl ?_
    obtain ⟨T_32, h_32, X_32, e_32, W_32, V_32, st_32⟩ := own_bastore X_28 hx hZ rfl V_30 0 (x := (nar .byte ((nar .byte x2) + (1 : Int32)))) (j := (0 : Int32)) (Ls := #[.val (.int x0), .val (.int x1), .val (.int x2), .val (.int x3), .val (.int x4), .val (.int stt), .val (.int (1 : Int32)), .val (.int (nar .byte x2)), .val (.int (nar .byte x3)), .val (.int (nar .byte x4)), .val (.ref a_21), .val (.ref r), .unset]) (st := []) ⟨by decide, by decide⟩ rfl (Nat.le_of_ble_eq_true rfl) (hb hby at_94)
    have V_33 : Arv Z h_32 a_21 kc_21 .byte (1 : Int32) [(.int (nar .byte (nar .byte ((nar .byte x2) + (1 : Int32)))))] (.int (0 : Int32)) := V_32
    have A_35 : Exa Z h_32 r "com/example/meterline/meterline/Answer" := A_r.wr W_32
    have F_36 : Fld Z h_32 r "com/example/meterline/meterline/Answer" "status" "I" (.int stt) := F_s.other W_32 (Or.inl ne_r)
    have F_37 : Fld Z h_32 r "com/example/meterline/meterline/Answer" "body" "[B" (.ref b2) := F_b.other W_32 (Or.inl ne_r)
    have F_38 : Fld Z h_32 r "com/example/meterline/meterline/Answer" "error" "Ljava/lang/String;" (.null) := F_e.other W_32 (Or.inl ne_r)
    have V_39 : Arv Z h_32 b2 kc_21 .byte (1 : Int32) [(.int (nar .byte (nar .byte x2)))] (.int (0 : Int32)) := V_b.other W_32 ne_b
    have B_40 : Exa Z h_32 b2 "[B" := B_b.wr W_32
    have B_41 : Exa Z h_32 a_21 "[B" := B_31.wr W_32
    have Z_34 : n0 ≤ h_32.size := by rw [W_32.size]; exact Z_29
    have N_32 := Fr.snoc X_32 N_28 ge_21
    refine own_st st_32 ?_
    show own_Go p e below _ T_32 (mkF m 95 #[.val (.int x0), .val (.int x1), .val (.int x2), .val (.int x3), .val (.int x4), .val (.int stt), .val (.int (1 : Int32)), .val (.int (nar .byte x2)), .val (.int (nar .byte x3)), .val (.int (nar .byte x4)), .val (.ref a_21), .val (.ref r), .unset] [])
    refine own_iload X_32 hx (hb hby at_95) (pc' := 97) rfl rfl ?_
    refine own_iconst X_32 hx (1) (hb hby at_97) (pc' := 98) rfl rfl ?_
    refine own_icmpY X_32 hx (hb hby at_98) (by decide) (pc' := 110) (by decide) (by decide) ?_
    refine own_iload X_32 hx (hb hby at_110) (pc' := 112) rfl rfl ?_
    refine own_iconst X_32 hx (2) (hb hby at_112) (pc' := 113) rfl rfl ?_
    refine own_icmpY X_32 hx (hb hby at_113) (by decide) (pc' := 125) (by decide) (by decide) ?_
    refine own_aload X_32 hx (hb hby at_125) (pc' := 127) rfl rfl rfl ?_
    obtain ⟨cq_42, kq_42, qa_42, qb_42, qc_42⟩ := isOf hZ e_32 A_35
    obtain ⟨_, _, ⟨T_42, L_42, k_42, n_42⟩, -, X_42, ⟨Lc_42, hQ_42, l_42, y_42, z_42⟩, st_42⟩ := X_32.virtualBack hx  (y := (⟨"com/example/meterline/meterline/Answer", "status", "()I"⟩ : MethodName)) (z := (⟨"com/example/meterline/meterline/Answer", "status", "()I"⟩ : MethodName)) hown (mvT hZ (hw _ (List.mem_of_getElem? (i := 29) rfl))) (mvT hZ (hw _ (List.mem_of_getElem? (i := 30) rfl))) (notFace_of_selects (args := #[]) (mvT hZ (hw _ (List.mem_of_getElem? (i := 32) rfl)))) (mvT hZ (hw _ (List.mem_of_getElem? (i := 32) rfl))) (mvT hZ (hw _ (List.mem_of_getElem? (i := 31) rfl))) (by decide) (backOf (W := 0) (rm3 l Z a0 hw [] r stt h_32 n0 Z_34 F_36) hZ (hw _ (List.mem_of_getElem? (i := 33) rfl)) (hw _ (List.mem_of_getElem? (i := 4) rfl)) (by decide) (by decide)) qa_42 qc_42 (g := (mkF m 127 #[.val (.int x0), .val (.int x1), .val (.int x2), .val (.int x3), .val (.int x4), .val (.int stt), .val (.int (1 : Int32)), .val (.int (nar .byte x2)), .val (.int (nar .byte x3)), .val (.int (nar .byte x4)), .val (.ref a_21), .val (.ref r), .unset] [(.ref r)])) rfl (by rw [hml]; rfl) (Steps.refl _) (argsL := []) (rest := []) (lenOf pd0_1 rfl) rfl (by show 2 * 0 + _ ≤ _; exact Nat.le_of_eq rfl) (hb hby at_127) (fun _ _ => ⟨rfl, e_32, (by decide : 3 + 0 ≤ _), (by decide : 7 + 0 ≤ _)⟩)
    dsimp only [Pt.U, Pt.locs, Pt.cells, Pt.slots] at X_42 l_42 y_42 z_42 st_42 hQ_42
    subst l_42 y_42 z_42
    refine own_tr st_42 ?_
    obtain ⟨rfl, Nq_42, eq_42⟩ := hQ_42
    have N_42 := Fr.app N_32 Nq_42
    show own_Go p e below _ T_42 (mkF m 130 #[.val (.int x0), .val (.int x1), .val (.int x2), .val (.int x3), .val (.int x4), .val (.int stt), .val (.int (1 : Int32)), .val (.int (nar .byte x2)), .val (.int (nar .byte x3)), .val (.int (nar .byte x4)), .val (.ref a_21), .val (.ref r), .unset] [(.int stt)])
    refine own_iload X_42 hx (hb hby at_130) (pc' := 132) rfl rfl ?_
    refine own_icmpY X_42 hx (hb hby at_132) (XT.ii_eq_t rfl) (pc' := 137) (by decide) (by decide) ?_
    refine own_aload X_42 hx (hb hby at_137) (pc' := 139) rfl rfl rfl ?_
    obtain ⟨cq_43, kq_43, qa_43, qb_43, qc_43⟩ := isOf hZ eq_42 A_35
    obtain ⟨_, _, ⟨T_43, L_43, k_43, n_43⟩, -, X_43, ⟨Lc_43, hQ_43, l_43, y_43, z_43⟩, st_43⟩ := X_42.virtualBack hx  (y := (⟨"com/example/meterline/meterline/Answer", "error", "()Ljava/lang/String;"⟩ : MethodName)) (z := (⟨"com/example/meterline/meterline/Answer", "error", "()Ljava/lang/String;"⟩ : MethodName)) hown (mvT hZ (hw _ (List.mem_of_getElem? (i := 34) rfl))) (mvT hZ (hw _ (List.mem_of_getElem? (i := 35) rfl))) (notFace_of_selects (args := #[]) (mvT hZ (hw _ (List.mem_of_getElem? (i := 37) rfl)))) (mvT hZ (hw _ (List.mem_of_getElem? (i := 37) rfl))) (mvT hZ (hw _ (List.mem_of_getElem? (i := 36) rfl))) (by decide) (backOf (W := 0) (rm4 l Z a0 hw [] r h_32 n0 Z_34 F_38) hZ (hw _ (List.mem_of_getElem? (i := 38) rfl)) (hw _ (List.mem_of_getElem? (i := 4) rfl)) (by decide) (by decide)) qa_43 qc_43 (g := (mkF m 139 #[.val (.int x0), .val (.int x1), .val (.int x2), .val (.int x3), .val (.int x4), .val (.int stt), .val (.int (1 : Int32)), .val (.int (nar .byte x2)), .val (.int (nar .byte x3)), .val (.int (nar .byte x4)), .val (.ref a_21), .val (.ref r), .unset] [(.ref r)])) rfl (by rw [hml]; rfl) (Steps.refl _) (argsL := []) (rest := []) (lenOf pd0_2 rfl) rfl (by show 2 * 0 + _ ≤ _; exact Nat.le_of_eq rfl) (hb hby at_139) (fun _ _ => ⟨rfl, eq_42, (by decide : 3 + 0 ≤ _), (by decide : 7 + 0 ≤ _)⟩)
    dsimp only [Pt.U, Pt.locs, Pt.cells, Pt.slots] at X_43 l_43 y_43 z_43 st_43 hQ_43
    subst l_43 y_43 z_43
    refine own_tr st_43 ?_
    obtain ⟨rfl, Nq_43, eq_43⟩ := hQ_43
    have N_43 := Fr.app N_42 Nq_43
    show own_Go p e below _ T_43 (mkF m 142 #[.val (.int x0), .val (.int x1), .val (.int x2), .val (.int x3), .val (.int x4), .val (.int stt), .val (.int (1 : Int32)), .val (.int (nar .byte x2)), .val (.int (nar .byte x3)), .val (.int (nar .byte x4)), .val (.ref a_21), .val (.ref r), .unset] [(.null)])
    refine own_ifnullY X_43 hx (hb hby at_142) (pc' := 147) (by decide) (by decide) ?_
    refine own_aload X_43 hx (hb hby at_147) (pc' := 149) rfl rfl rfl ?_
    obtain ⟨cq_44, kq_44, qa_44, qb_44, qc_44⟩ := isOf hZ eq_43 A_35
    obtain ⟨_, _, ⟨T_44, L_44, k_44, n_44⟩, -, X_44, ⟨Lc_44, hQ_44, l_44, y_44, z_44⟩, st_44⟩ := X_43.virtualBack hx  (y := (⟨"com/example/meterline/meterline/Answer", "size", "()I"⟩ : MethodName)) (z := (⟨"com/example/meterline/meterline/Answer", "size", "()I"⟩ : MethodName)) hown (mvT hZ (hw _ (List.mem_of_getElem? (i := 39) rfl))) (mvT hZ (hw _ (List.mem_of_getElem? (i := 40) rfl))) (notFace_of_selects (args := #[]) (mvT hZ (hw _ (List.mem_of_getElem? (i := 42) rfl)))) (mvT hZ (hw _ (List.mem_of_getElem? (i := 42) rfl))) (mvT hZ (hw _ (List.mem_of_getElem? (i := 41) rfl))) (by decide) (backOf (W := 0) (rm5 l Z a0 hw [] r b2 kc_21 (1 : Int32) [(.int (nar .byte (nar .byte x2)))] h_32 n0 Z_34 F_37 V_39) hZ (hw _ (List.mem_of_getElem? (i := 43) rfl)) (hw _ (List.mem_of_getElem? (i := 4) rfl)) (by decide) (by decide)) qa_44 qc_44 (g := (mkF m 149 #[.val (.int x0), .val (.int x1), .val (.int x2), .val (.int x3), .val (.int x4), .val (.int stt), .val (.int (1 : Int32)), .val (.int (nar .byte x2)), .val (.int (nar .byte x3)), .val (.int (nar .byte x4)), .val (.ref a_21), .val (.ref r), .unset] [(.ref r)])) rfl (by rw [hml]; rfl) (Steps.refl _) (argsL := []) (rest := []) (lenOf pd0_1 rfl) rfl (by show 2 * 0 + _ ≤ _; exact Nat.le_of_eq rfl) (hb hby at_149) (fun _ _ => ⟨rfl, eq_43, (by decide : 3 + 0 ≤ _), (by decide : 7 + 0 ≤ _)⟩)
    dsimp only [Pt.U, Pt.locs, Pt.cells, Pt.slots] at X_44 l_44 y_44 z_44 st_44 hQ_44
    subst l_44 y_44 z_44
    refine own_tr st_44 ?_
    obtain ⟨rfl, Nq_44, eq_44⟩ := hQ_44
    have N_44 := Fr.app N_43 Nq_44
    show own_Go p e below _ T_44 (mkF m 152 #[.val (.int x0), .val (.int x1), .val (.int x2), .val (.int x3), .val (.int x4), .val (.int stt), .val (.int (1 : Int32)), .val (.int (nar .byte x2)), .val (.int (nar .byte x3)), .val (.int (nar .byte x4)), .val (.ref a_21), .val (.ref r), .unset] [(.int (1 : Int32))])
    refine own_iload X_44 hx (hb hby at_152) (pc' := 154) rfl rfl ?_
    refine own_icmpY X_44 hx (hb hby at_154) (by decide) (pc' := 159) (by decide) (by decide) ?_
    refine own_aload X_44 hx (hb hby at_159) (pc' := 161) rfl rfl rfl ?_
    obtain ⟨cq_45, kq_45, qa_45, qb_45, qc_45⟩ := isOf hZ eq_44 A_35
    obtain ⟨_, _, ⟨T_45, L_45, k_45, n_45⟩, -, X_45, ⟨Lc_45, hQ_45, l_45, y_45, z_45⟩, st_45⟩ := X_44.virtualBack hx  (y := (⟨"com/example/meterline/meterline/Answer", "body", "()[B"⟩ : MethodName)) (z := (⟨"com/example/meterline/meterline/Answer", "body", "()[B"⟩ : MethodName)) hown (mvT hZ (hw _ (List.mem_of_getElem? (i := 44) rfl))) (mvT hZ (hw _ (List.mem_of_getElem? (i := 45) rfl))) (notFace_of_selects (args := #[]) (mvT hZ (hw _ (List.mem_of_getElem? (i := 47) rfl)))) (mvT hZ (hw _ (List.mem_of_getElem? (i := 47) rfl))) (mvT hZ (hw _ (List.mem_of_getElem? (i := 46) rfl))) (by decide) (backOf (W := 0) (rm6 l Z a0 hw [] r b2 kc_21 (1 : Int32) [(.int (nar .byte (nar .byte x2)))] h_32 n0 Z_34 F_37 V_39 B_40 (by decide)) hZ (hw _ (List.mem_of_getElem? (i := 48) rfl)) (hw _ (List.mem_of_getElem? (i := 4) rfl)) (by decide) (by decide)) qa_45 qc_45 (g := (mkF m 161 #[.val (.int x0), .val (.int x1), .val (.int x2), .val (.int x3), .val (.int x4), .val (.int stt), .val (.int (1 : Int32)), .val (.int (nar .byte x2)), .val (.int (nar .byte x3)), .val (.int (nar .byte x4)), .val (.ref a_21), .val (.ref r), .unset] [(.ref r)])) rfl (by rw [hml]; rfl) (Steps.refl _) (argsL := []) (rest := []) (lenOf pd0_3 rfl) rfl (by show 2 * 0 + _ ≤ _; exact Nat.le_of_eq rfl) (hb hby at_161) (fun _ _ => ⟨rfl, eq_44, (by decide : 3 + 1 ≤ _), (by decide : 7 + 3 ≤ _)⟩)
    dsimp only [Pt.U, Pt.locs, Pt.cells, Pt.slots] at X_45 l_45 y_45 z_45 st_45 hQ_45
    subst l_45 y_45 z_45
    refine own_tr st_45 ?_
    obtain ⟨rb, rfl, Nq_45, Kq_45, V_rb⟩ := hQ_45
    have N_45 := Fr.app N_44 Nq_45
    have V_47 : Arv Z T_45.heap a_21 kc_21 .byte (1 : Int32) [(.int (nar .byte (nar .byte ((nar .byte x2) + (1 : Int32)))))] (.int (0 : Int32)) := V_33.keep Kq_45 nin0
    have A_48 : Exa Z T_45.heap r "com/example/meterline/meterline/Answer" := A_35.keep Kq_45
    have F_49 : Fld Z T_45.heap r "com/example/meterline/meterline/Answer" "status" "I" (.int stt) := F_36.keep Kq_45 nin0
    have F_50 : Fld Z T_45.heap r "com/example/meterline/meterline/Answer" "body" "[B" (.ref b2) := F_37.keep Kq_45 nin0
    have F_51 : Fld Z T_45.heap r "com/example/meterline/meterline/Answer" "error" "Ljava/lang/String;" (.null) := F_38.keep Kq_45 nin0
    have V_52 : Arv Z T_45.heap b2 kc_21 .byte (1 : Int32) [(.int (nar .byte (nar .byte x2)))] (.int (0 : Int32)) := V_39.keep Kq_45 nin0
    have B_53 : Exa Z T_45.heap b2 "[B" := B_40.keep Kq_45
    have B_54 : Exa Z T_45.heap a_21 "[B" := B_41.keep Kq_45
    have Z_46 : n0 ≤ T_45.heap.size := Nat.le_trans Z_34 Kq_45.1
    show own_Go p e below _ T_45 (mkF m 164 #[.val (.int x0), .val (.int x1), .val (.int x2), .val (.int x3), .val (.int x4), .val (.int stt), .val (.int (1 : Int32)), .val (.int (nar .byte x2)), .val (.int (nar .byte x3)), .val (.int (nar .byte x4)), .val (.ref a_21), .val (.ref r), .unset] [(.ref rb)])
    refine own_astore X_45 hx (hb hby at_164) (pc' := 166) (Ls' := #[.val (.int x0), .val (.int x1), .val (.int x2), .val (.int x3), .val (.int x4), .val (.int stt), .val (.int (1 : Int32)), .val (.int (nar .byte x2)), .val (.int (nar .byte x3)), .val (.int (nar .byte x4)), .val (.ref a_21), .val (.ref r), .val (.ref rb)]) rfl rfl rfl ?_
    refine own_aload X_45 hx (hb hby at_166) (pc' := 168) rfl rfl rfl ?_
    refine own_alen X_45 hx hZ rfl V_rb (hb hby at_168) (pc' := 169) rfl ?_
    refine own_iload X_45 hx (hb hby at_169) (pc' := 171) rfl rfl ?_
    refine own_icmpY X_45 hx (hb hby at_171) (by decide) (pc' := 176) (by decide) (by decide) ?_
    refine own_iload X_45 hx (hb hby at_176) (pc' := 178) rfl rfl ?_
    refine own_ifN X_45 hx (hb hby at_178) (by decide) (pc' := 181) rfl ?_
    refine own_aload X_45 hx (hb hby at_181) (pc' := 183) rfl rfl rfl ?_
    refine own_iconst X_45 hx (0) (hb hby at_183) (pc' := 184) rfl rfl ?_
    refine own_baload X_45 hx hZ rfl V_rb ⟨by decide, by decide⟩ rfl (hb hby at_184) (pc' := 185) rfl ?_
    refine own_iload X_45 hx (hb hby at_185) (pc' := 187) rfl rfl ?_
    refine own_icmpY X_45 hx (hb hby at_187) (XT.ii_eq_t (own_nn _)) (pc' := 192) (by decide) (by decide) ?_
    refine own_iload X_45 hx (hb hby at_192) (pc' := 194) rfl rfl ?_
    refine own_iconst X_45 hx (1) (hb hby at_194) (pc' := 195) rfl rfl ?_
    refine own_icmpY X_45 hx (hb hby at_195) (by decide) (pc' := 209) (by decide) (by decide) ?_
    refine own_iload X_45 hx (hb hby at_209) (pc' := 211) rfl rfl ?_
    refine own_iconst X_45 hx (2) (hb hby at_211) (pc' := 212) rfl rfl ?_
    refine own_icmpY X_45 hx (hb hby at_212) (by decide) (pc' := 226) (by decide) (by decide) ?_
    refine own_iconst X_45 hx (1) (hb hby at_226) (pc' := 227) rfl rfl ?_
    refine own_retZ X_45 hx hlk Bd.returns (by simp) (hb hby at_227) (by decide) (by decide) ?_
    exact ⟨rfl, N_45⟩
  · rw [q]
    refine own_istore X0 hx (hb hby at_16) (pc' := 18) (Ls' := #[.val (.int x0), .val (.int x1), .val (.int x2), .val (.int x3), .val (.int x4), .val (.int stt), .val (.int (2 : Int32)), .unset, .unset, .unset, .unset, .unset, .unset]) rfl rfl ?_
    refine own_iloadN X0 hx (hb hby at_18) (pc' := 19) rfl rfl ?_
    refine own_i2b X0 hx (hb hby at_19) (pc' := 20) rfl ?_
    refine own_istore X0 hx (hb hby at_20) (pc' := 22) (Ls' := #[.val (.int x0), .val (.int x1), .val (.int x2), .val (.int x3), .val (.int x4), .val (.int stt), .val (.int (2 : Int32)), .val (.int (nar .byte x2)), .unset, .unset, .unset, .unset, .unset]) rfl rfl ?_
    refine own_iloadN X0 hx (hb hby at_22) (pc' := 23) rfl rfl ?_
    refine own_i2b X0 hx (hb hby at_23) (pc' := 24) rfl ?_
    refine own_istore X0 hx (hb hby at_24) (pc' := 26) (Ls' := #[.val (.int x0), .val (.int x1), .val (.int x2), .val (.int x3), .val (.int x4), .val (.int stt), .val (.int (2 : Int32)), .val (.int (nar .byte x2)), .val (.int (nar .byte x3)), .unset, .unset, .unset, .unset]) rfl rfl ?_
    refine own_iload X0 hx (hb hby at_26) (pc' := 28) rfl rfl ?_
    refine own_i2b X0 hx (hb hby at_28) (pc' := 29) rfl ?_
    refine own_istore X0 hx (hb hby at_29) (pc' := 31) (Ls' := #[.val (.int x0), .val (.int x1), .val (.int x2), .val (.int x3), .val (.int x4), .val (.int stt), .val (.int (2 : Int32)), .val (.int (nar .byte x2)), .val (.int (nar .byte x3)), .val (.int (nar .byte x4)), .unset, .unset, .unset]) rfl rfl ?_
    refine own_iload X0 hx (hb hby at_31) (pc' := 33) rfl rfl ?_
    obtain ⟨T_55, h_55, kc_55, X_55, e_55, E_55, A_55, B_55, st_55⟩ := newPE X0 hx hZ (hw _ (List.mem_of_getElem? (i := 1) rfl)) e0 (g := (mkF m 33 #[.val (.int x0), .val (.int x1), .val (.int x2), .val (.int x3), .val (.int x4), .val (.int stt), .val (.int (2 : Int32)), .val (.int (nar .byte x2)), .val (.int (nar .byte x3)), .val (.int (nar .byte x4)), .unset, .unset, .unset] [(.int (2 : Int32))])) rfl (hb hby at_33) rfl (by decide) (cap := 2) (by decide) (by decide) (by decide) (by decide) (ad := "[B") rfl
    obtain ⟨a_55, g_55⟩ : ∃ z, z = h0.size := ⟨_, rfl⟩
    rw [← g_55] at A_55 st_55 B_55
    have ge_55 : n0 ≤ a_55 := Nat.le_trans Z0 (Nat.le_of_eq g_55.symm)
    have Z_56 : n0 ≤ h_55.size := Nat.le_trans Z0 E_55.1
    have V_57 : Arv Z h_55 a_55 kc_55 .byte (2 : Int32) [(.int (0 : Int32)), (.int (0 : Int32))] (.int (0 : Int32)) := (Arv.new A_55 (by decide)).pad (pad_rep [] (.int (0 : Int32)) 2)
    refine own_st st_55 ?_
    show own_Go p e below _ T_55 (mkF m 35 #[.val (.int x0), .val (.int x1), .val (.int x2), .val (.int x3), .val (.int x4), .val (.int stt), .val (.int (2 : Int32)), .val (.int (nar .byte x2)), .val (.int (nar .byte x3)), .val (.int (nar .byte x4)), .unset, .unset, .unset] [(.ref a_55)])
    refine own_astore X_55 hx (hb hby at_35) (pc' := 37) (Ls' := #[.val (.int x0), .val (.int x1), .val (.int x2), .val (.int x3), .val (.int x4), .val (.int stt), .val (.int (2 : Int32)), .val (.int (nar .byte x2)), .val (.int (nar .byte x3)), .val (.int (nar .byte x4)), .val (.ref a_55), .unset, .unset]) rfl rfl rfl ?_
    refine own_iload X_55 hx (hb hby at_37) (pc' := 39) rfl rfl ?_
    refine own_ifN X_55 hx (hb hby at_39) (by decide) (pc' := 42) rfl ?_
    refine own_aload X_55 hx (hb hby at_42) (pc' := 44) rfl rfl rfl ?_
    refine own_iconst X_55 hx (0) (hb hby at_44) (pc' := 45) rfl rfl ?_
    refine own_iload X_55 hx (hb hby at_45) (pc' := 47) rfl rfl ?_
    obtain ⟨T_58, h_58, X_58, e_58, W_58, V_58, st_58⟩ := own_bastore X_55 hx hZ e_55 V_57 0 (x := (nar .byte x2)) (j := (0 : Int32)) (Ls := #[.val (.int x0), .val (.int x1), .val (.int x2), .val (.int x3), .val (.int x4), .val (.int stt), .val (.int (2 : Int32)), .val (.int (nar .byte x2)), .val (.int (nar .byte x3)), .val (.int (nar .byte x4)), .val (.ref a_55), .unset, .unset]) (st := []) ⟨by decide, by decide⟩ rfl (Nat.le_of_ble_eq_true rfl) (hb hby at_47)
    have V_59 : Arv Z h_58 a_55 kc_55 .byte (2 : Int32) [(.int (nar .byte (nar .byte x2))), (.int (0 : Int32))] (.int (0 : Int32)) := V_58
    have B_61 : Exa Z h_58 a_55 "[B" := B_55.wr W_58
    have Z_60 : n0 ≤ h_58.size := by rw [W_58.size]; exact Z_56
    have N_58 := Fr.snoc X_58 N0 ge_55
    refine own_st st_58 ?_
    show own_Go p e below _ T_58 (mkF m 48 #[.val (.int x0), .val (.int x1), .val (.int x2), .val (.int x3), .val (.int x4), .val (.int stt), .val (.int (2 : Int32)), .val (.int (nar .byte x2)), .val (.int (nar .byte x3)), .val (.int (nar .byte x4)), .val (.ref a_55), .unset, .unset] [])
    refine own_iload X_58 hx (hb hby at_48) (pc' := 50) rfl rfl ?_
    refine own_iconst X_58 hx (1) (hb hby at_50) (pc' := 51) rfl rfl ?_
    refine own_icmpN X_58 hx (hb hby at_51) (by decide) (pc' := 54) rfl ?_
    refine own_aload X_58 hx (hb hby at_54) (pc' := 56) rfl rfl rfl ?_
    refine own_iconst X_58 hx (1) (hb hby at_56) (pc' := 57) rfl rfl ?_
    refine own_iload X_58 hx (hb hby at_57) (pc' := 59) rfl rfl ?_
    obtain ⟨T_62, h_62, X_62, e_62, W_62, V_62, st_62⟩ := own_bastore X_58 hx hZ e_58 V_59 1 (x := (nar .byte x3)) (j := (1 : Int32)) (Ls := #[.val (.int x0), .val (.int x1), .val (.int x2), .val (.int x3), .val (.int x4), .val (.int stt), .val (.int (2 : Int32)), .val (.int (nar .byte x2)), .val (.int (nar .byte x3)), .val (.int (nar .byte x4)), .val (.ref a_55), .unset, .unset]) (st := []) ⟨by decide, by decide⟩ rfl (Nat.le_of_ble_eq_true rfl) (hb hby at_59)
    have V_63 : Arv Z h_62 a_55 kc_55 .byte (2 : Int32) [(.int (nar .byte (nar .byte x2))), (.int (nar .byte (nar .byte x3)))] (.int (0 : Int32)) := V_62
    have B_65 : Exa Z h_62 a_55 "[B" := B_61.wr W_62
    have Z_64 : n0 ≤ h_62.size := by rw [W_62.size]; exact Z_60
    have N_62 := Fr.snoc X_62 N_58 ge_55
    refine own_st st_62 ?_
    show own_Go p e below _ T_62 (mkF m 60 #[.val (.int x0), .val (.int x1), .val (.int x2), .val (.int x3), .val (.int x4), .val (.int stt), .val (.int (2 : Int32)), .val (.int (nar .byte x2)), .val (.int (nar .byte x3)), .val (.int (nar .byte x4)), .val (.ref a_55), .unset, .unset] [])
    refine own_iload X_62 hx (hb hby at_60) (pc' := 62) rfl rfl ?_
    refine own_iconst X_62 hx (2) (hb hby at_62) (pc' := 63) rfl rfl ?_
    refine own_icmpY X_62 hx (hb hby at_63) (by decide) (pc' := 72) (by decide) (by decide) ?_
    refine own_iload X_62 hx (hb hby at_72) (pc' := 74) rfl rfl ?_
    refine own_aload X_62 hx (hb hby at_74) (pc' := 76) rfl rfl rfl ?_
    obtain ⟨_, _, ⟨T_66, L_66, k_66, n_66⟩, -, X_66, ⟨Lc_66, hQ_66, l_66, y_66, z_66⟩, st_66⟩ := Jvm.LawKit.callS X_62 hx (y := (⟨"com/example/meterline/meterline/Answer", "of", "(I[B)Lcom/example/meterline/meterline/Answer;"⟩ : MethodName)) hown (mvT hZ (hw _ (List.mem_of_getElem? (i := 2) rfl))) (mvT hZ (hw _ (List.mem_of_getElem? (i := 3) rfl))) (mvT hZ (hw _ (List.mem_of_getElem? (i := 4) rfl))) (mvT hZ (hw _ (List.mem_of_getElem? (i := 5) rfl))) (by decide) (backOf (W := 0) (rm2 l Z a0 hw [] stt a_55 kc_55 (2 : Int32) [(.int (nar .byte (nar .byte x2))), (.int (nar .byte (nar .byte x3)))] h_62 n0 Z_64 V_63 B_65 hs1 hs2 (by decide)) hZ (hw _ (List.mem_of_getElem? (i := 5) rfl)) (hw _ (List.mem_of_getElem? (i := 4) rfl)) (by decide) (by decide)) (g := (mkF m 76 #[.val (.int x0), .val (.int x1), .val (.int x2), .val (.int x3), .val (.int x4), .val (.int stt), .val (.int (2 : Int32)), .val (.int (nar .byte x2)), .val (.int (nar .byte x3)), .val (.int (nar .byte x4)), .val (.ref a_55), .unset, .unset] [(.ref a_55), (.int stt)])) rfl (by rw [hml]; rfl) (argsL := [(.int stt), (.ref a_55)]) (rest := []) (lenOf pd0_0 rfl) rfl (by show 2 * 0 + _ ≤ _; exact Nat.le_of_eq rfl) (hb hby at_76) (fun _ _ => ⟨rfl, e_62, (by decide : 1 + 2 ≤ _), (by decide : 2 + 6 ≤ _)⟩)
    dsimp only [Pt.U, Pt.locs, Pt.cells, Pt.slots] at X_66 l_66 y_66 z_66 st_66 hQ_66
    subst l_66 y_66 z_66
    refine own_st st_66 ?_
    obtain ⟨r, b2, rfl, Nq_66, Kq_66, A_r, F_s, F_b, F_e, V_b, B_b, hr, hb2⟩ := hQ_66
    have N_66 := Fr.app N_62 Nq_66
    have ne_r : r ≠ a_55 := (Nat.ne_of_lt (Nat.lt_of_lt_of_le V_63.lt hr)).symm
    have ne_b : b2 ≠ a_55 := (Nat.ne_of_lt (Nat.lt_of_lt_of_le V_63.lt hb2)).symm
    have V_68 : Arv Z T_66.heap a_55 kc_55 .byte (2 : Int32) [(.int (nar .byte (nar .byte x2))), (.int (nar .byte (nar .byte x3)))] (.int (0 : Int32)) := V_63.keep Kq_66 nin0
    have B_69 : Exa Z T_66.heap a_55 "[B" := B_65.keep Kq_66
    have Z_67 : n0 ≤ T_66.heap.size := Nat.le_trans Z_64 Kq_66.1
    show own_Go p e below _ T_66 (mkF m 79 #[.val (.int x0), .val (.int x1), .val (.int x2), .val (.int x3), .val (.int x4), .val (.int stt), .val (.int (2 : Int32)), .val (.int (nar .byte x2)), .val (.int (nar .byte x3)), .val (.int (nar .byte x4)), .val (.ref a_55), .unset, .unset] [(.ref r)])
    refine own_astore X_66 hx (hb hby at_79) (pc' := 81) (Ls' := #[.val (.int x0), .val (.int x1), .val (.int x2), .val (.int x3), .val (.int x4), .val (.int stt), .val (.int (2 : Int32)), .val (.int (nar .byte x2)), .val (.int (nar .byte x3)), .val (.int (nar .byte x4)), .val (.ref a_55), .val (.ref r), .unset]) rfl rfl rfl ?_
    refine own_iload X_66 hx (hb hby at_81) (pc' := 83) rfl rfl ?_
    refine own_ifN X_66 hx (hb hby at_83) (by decide) (pc' := 86) rfl ?_
    refine own_aload X_66 hx (hb hby at_86) (pc' := 88) rfl rfl rfl ?_
    refine own_iconst X_66 hx (0) (hb hby at_88) (pc' := 89) rfl rfl ?_
    refine own_iload X_66 hx (hb hby at_89) (pc' := 91) rfl rfl ?_
    refine own_iconst X_66 hx (1) (hb hby at_91) (pc' := 92) rfl rfl ?_
    refine own_iadd X_66 hx (hb hby at_92) (pc' := 93) rfl ?_
    refine own_i2b X_66 hx (hb hby at_93) (pc' := 94) rfl ?_
    obtain ⟨T_70, h_70, X_70, e_70, W_70, V_70, st_70⟩ := own_bastore X_66 hx hZ rfl V_68 0 (x := (nar .byte ((nar .byte x2) + (1 : Int32)))) (j := (0 : Int32)) (Ls := #[.val (.int x0), .val (.int x1), .val (.int x2), .val (.int x3), .val (.int x4), .val (.int stt), .val (.int (2 : Int32)), .val (.int (nar .byte x2)), .val (.int (nar .byte x3)), .val (.int (nar .byte x4)), .val (.ref a_55), .val (.ref r), .unset]) (st := []) ⟨by decide, by decide⟩ rfl (Nat.le_of_ble_eq_true rfl) (hb hby at_94)
    have V_71 : Arv Z h_70 a_55 kc_55 .byte (2 : Int32) [(.int (nar .byte (nar .byte ((nar .byte x2) + (1 : Int32))))), (.int (nar .byte (nar .byte x3)))] (.int (0 : Int32)) := V_70
    have A_73 : Exa Z h_70 r "com/example/meterline/meterline/Answer" := A_r.wr W_70
    have F_74 : Fld Z h_70 r "com/example/meterline/meterline/Answer" "status" "I" (.int stt) := F_s.other W_70 (Or.inl ne_r)
    have F_75 : Fld Z h_70 r "com/example/meterline/meterline/Answer" "body" "[B" (.ref b2) := F_b.other W_70 (Or.inl ne_r)
    have F_76 : Fld Z h_70 r "com/example/meterline/meterline/Answer" "error" "Ljava/lang/String;" (.null) := F_e.other W_70 (Or.inl ne_r)
    have V_77 : Arv Z h_70 b2 kc_55 .byte (2 : Int32) [(.int (nar .byte (nar .byte x2))), (.int (nar .byte (nar .byte x3)))] (.int (0 : Int32)) := V_b.other W_70 ne_b
    have B_78 : Exa Z h_70 b2 "[B" := B_b.wr W_70
    have B_79 : Exa Z h_70 a_55 "[B" := B_69.wr W_70
    have Z_72 : n0 ≤ h_70.size := by rw [W_70.size]; exact Z_67
    have N_70 := Fr.snoc X_70 N_66 ge_55
    refine own_st st_70 ?_
    show own_Go p e below _ T_70 (mkF m 95 #[.val (.int x0), .val (.int x1), .val (.int x2), .val (.int x3), .val (.int x4), .val (.int stt), .val (.int (2 : Int32)), .val (.int (nar .byte x2)), .val (.int (nar .byte x3)), .val (.int (nar .byte x4)), .val (.ref a_55), .val (.ref r), .unset] [])
    refine own_iload X_70 hx (hb hby at_95) (pc' := 97) rfl rfl ?_
    refine own_iconst X_70 hx (1) (hb hby at_97) (pc' := 98) rfl rfl ?_
    refine own_icmpN X_70 hx (hb hby at_98) (by decide) (pc' := 101) rfl ?_
    refine own_aload X_70 hx (hb hby at_101) (pc' := 103) rfl rfl rfl ?_
    refine own_iconst X_70 hx (1) (hb hby at_103) (pc' := 104) rfl rfl ?_
    refine own_iload X_70 hx (hb hby at_104) (pc' := 106) rfl rfl ?_
    refine own_iconst X_70 hx (1) (hb hby at_106) (pc' := 107) rfl rfl ?_
    refine own_iadd X_70 hx (hb hby at_107) (pc' := 108) rfl ?_
    refine own_i2b X_70 hx (hb hby at_108) (pc' := 109) rfl ?_
    obtain ⟨T_80, h_80, X_80, e_80, W_80, V_80, st_80⟩ := own_bastore X_70 hx hZ e_70 V_71 1 (x := (nar .byte ((nar .byte x3) + (1 : Int32)))) (j := (1 : Int32)) (Ls := #[.val (.int x0), .val (.int x1), .val (.int x2), .val (.int x3), .val (.int x4), .val (.int stt), .val (.int (2 : Int32)), .val (.int (nar .byte x2)), .val (.int (nar .byte x3)), .val (.int (nar .byte x4)), .val (.ref a_55), .val (.ref r), .unset]) (st := []) ⟨by decide, by decide⟩ rfl (Nat.le_of_ble_eq_true rfl) (hb hby at_109)
    have V_81 : Arv Z h_80 a_55 kc_55 .byte (2 : Int32) [(.int (nar .byte (nar .byte ((nar .byte x2) + (1 : Int32))))), (.int (nar .byte (nar .byte ((nar .byte x3) + (1 : Int32)))))] (.int (0 : Int32)) := V_80
    have A_83 : Exa Z h_80 r "com/example/meterline/meterline/Answer" := A_73.wr W_80
    have F_84 : Fld Z h_80 r "com/example/meterline/meterline/Answer" "status" "I" (.int stt) := F_74.other W_80 (Or.inl ne_r)
    have F_85 : Fld Z h_80 r "com/example/meterline/meterline/Answer" "body" "[B" (.ref b2) := F_75.other W_80 (Or.inl ne_r)
    have F_86 : Fld Z h_80 r "com/example/meterline/meterline/Answer" "error" "Ljava/lang/String;" (.null) := F_76.other W_80 (Or.inl ne_r)
    have V_87 : Arv Z h_80 b2 kc_55 .byte (2 : Int32) [(.int (nar .byte (nar .byte x2))), (.int (nar .byte (nar .byte x3)))] (.int (0 : Int32)) := V_77.other W_80 ne_b
    have B_88 : Exa Z h_80 b2 "[B" := B_78.wr W_80
    have B_89 : Exa Z h_80 a_55 "[B" := B_79.wr W_80
    have Z_82 : n0 ≤ h_80.size := by rw [W_80.size]; exact Z_72
    have N_80 := Fr.snoc X_80 N_70 ge_55
    refine own_st st_80 ?_
    show own_Go p e below _ T_80 (mkF m 110 #[.val (.int x0), .val (.int x1), .val (.int x2), .val (.int x3), .val (.int x4), .val (.int stt), .val (.int (2 : Int32)), .val (.int (nar .byte x2)), .val (.int (nar .byte x3)), .val (.int (nar .byte x4)), .val (.ref a_55), .val (.ref r), .unset] [])
    refine own_iload X_80 hx (hb hby at_110) (pc' := 112) rfl rfl ?_
    refine own_iconst X_80 hx (2) (hb hby at_112) (pc' := 113) rfl rfl ?_
    refine own_icmpY X_80 hx (hb hby at_113) (by decide) (pc' := 125) (by decide) (by decide) ?_
    refine own_aload X_80 hx (hb hby at_125) (pc' := 127) rfl rfl rfl ?_
    obtain ⟨cq_90, kq_90, qa_90, qb_90, qc_90⟩ := isOf hZ e_80 A_83
    obtain ⟨_, _, ⟨T_90, L_90, k_90, n_90⟩, -, X_90, ⟨Lc_90, hQ_90, l_90, y_90, z_90⟩, st_90⟩ := X_80.virtualBack hx  (y := (⟨"com/example/meterline/meterline/Answer", "status", "()I"⟩ : MethodName)) (z := (⟨"com/example/meterline/meterline/Answer", "status", "()I"⟩ : MethodName)) hown (mvT hZ (hw _ (List.mem_of_getElem? (i := 29) rfl))) (mvT hZ (hw _ (List.mem_of_getElem? (i := 30) rfl))) (notFace_of_selects (args := #[]) (mvT hZ (hw _ (List.mem_of_getElem? (i := 32) rfl)))) (mvT hZ (hw _ (List.mem_of_getElem? (i := 32) rfl))) (mvT hZ (hw _ (List.mem_of_getElem? (i := 31) rfl))) (by decide) (backOf (W := 0) (rm3 l Z a0 hw [] r stt h_80 n0 Z_82 F_84) hZ (hw _ (List.mem_of_getElem? (i := 33) rfl)) (hw _ (List.mem_of_getElem? (i := 4) rfl)) (by decide) (by decide)) qa_90 qc_90 (g := (mkF m 127 #[.val (.int x0), .val (.int x1), .val (.int x2), .val (.int x3), .val (.int x4), .val (.int stt), .val (.int (2 : Int32)), .val (.int (nar .byte x2)), .val (.int (nar .byte x3)), .val (.int (nar .byte x4)), .val (.ref a_55), .val (.ref r), .unset] [(.ref r)])) rfl (by rw [hml]; rfl) (Steps.refl _) (argsL := []) (rest := []) (lenOf pd0_1 rfl) rfl (by show 2 * 0 + _ ≤ _; exact Nat.le_of_eq rfl) (hb hby at_127) (fun _ _ => ⟨rfl, e_80, (by decide : 3 + 0 ≤ _), (by decide : 8 + 0 ≤ _)⟩)
    dsimp only [Pt.U, Pt.locs, Pt.cells, Pt.slots] at X_90 l_90 y_90 z_90 st_90 hQ_90
    subst l_90 y_90 z_90
    refine own_tr st_90 ?_
    obtain ⟨rfl, Nq_90, eq_90⟩ := hQ_90
    have N_90 := Fr.app N_80 Nq_90
    show own_Go p e below _ T_90 (mkF m 130 #[.val (.int x0), .val (.int x1), .val (.int x2), .val (.int x3), .val (.int x4), .val (.int stt), .val (.int (2 : Int32)), .val (.int (nar .byte x2)), .val (.int (nar .byte x3)), .val (.int (nar .byte x4)), .val (.ref a_55), .val (.ref r), .unset] [(.int stt)])
    refine own_iload X_90 hx (hb hby at_130) (pc' := 132) rfl rfl ?_
    refine own_icmpY X_90 hx (hb hby at_132) (XT.ii_eq_t rfl) (pc' := 137) (by decide) (by decide) ?_
    refine own_aload X_90 hx (hb hby at_137) (pc' := 139) rfl rfl rfl ?_
    obtain ⟨cq_91, kq_91, qa_91, qb_91, qc_91⟩ := isOf hZ eq_90 A_83
    obtain ⟨_, _, ⟨T_91, L_91, k_91, n_91⟩, -, X_91, ⟨Lc_91, hQ_91, l_91, y_91, z_91⟩, st_91⟩ := X_90.virtualBack hx  (y := (⟨"com/example/meterline/meterline/Answer", "error", "()Ljava/lang/String;"⟩ : MethodName)) (z := (⟨"com/example/meterline/meterline/Answer", "error", "()Ljava/lang/String;"⟩ : MethodName)) hown (mvT hZ (hw _ (List.mem_of_getElem? (i := 34) rfl))) (mvT hZ (hw _ (List.mem_of_getElem? (i := 35) rfl))) (notFace_of_selects (args := #[]) (mvT hZ (hw _ (List.mem_of_getElem? (i := 37) rfl)))) (mvT hZ (hw _ (List.mem_of_getElem? (i := 37) rfl))) (mvT hZ (hw _ (List.mem_of_getElem? (i := 36) rfl))) (by decide) (backOf (W := 0) (rm4 l Z a0 hw [] r h_80 n0 Z_82 F_86) hZ (hw _ (List.mem_of_getElem? (i := 38) rfl)) (hw _ (List.mem_of_getElem? (i := 4) rfl)) (by decide) (by decide)) qa_91 qc_91 (g := (mkF m 139 #[.val (.int x0), .val (.int x1), .val (.int x2), .val (.int x3), .val (.int x4), .val (.int stt), .val (.int (2 : Int32)), .val (.int (nar .byte x2)), .val (.int (nar .byte x3)), .val (.int (nar .byte x4)), .val (.ref a_55), .val (.ref r), .unset] [(.ref r)])) rfl (by rw [hml]; rfl) (Steps.refl _) (argsL := []) (rest := []) (lenOf pd0_2 rfl) rfl (by show 2 * 0 + _ ≤ _; exact Nat.le_of_eq rfl) (hb hby at_139) (fun _ _ => ⟨rfl, eq_90, (by decide : 3 + 0 ≤ _), (by decide : 8 + 0 ≤ _)⟩)
    dsimp only [Pt.U, Pt.locs, Pt.cells, Pt.slots] at X_91 l_91 y_91 z_91 st_91 hQ_91
    subst l_91 y_91 z_91
    refine own_tr st_91 ?_
    obtain ⟨rfl, Nq_91, eq_91⟩ := hQ_91
    have N_91 := Fr.app N_90 Nq_91
    show own_Go p e below _ T_91 (mkF m 142 #[.val (.int x0), .val (.int x1), .val (.int x2), .val (.int x3), .val (.int x4), .val (.int stt), .val (.int (2 : Int32)), .val (.int (nar .byte x2)), .val (.int (nar .byte x3)), .val (.int (nar .byte x4)), .val (.ref a_55), .val (.ref r), .unset] [(.null)])
    refine own_ifnullY X_91 hx (hb hby at_142) (pc' := 147) (by decide) (by decide) ?_
    refine own_aload X_91 hx (hb hby at_147) (pc' := 149) rfl rfl rfl ?_
    obtain ⟨cq_92, kq_92, qa_92, qb_92, qc_92⟩ := isOf hZ eq_91 A_83
    obtain ⟨_, _, ⟨T_92, L_92, k_92, n_92⟩, -, X_92, ⟨Lc_92, hQ_92, l_92, y_92, z_92⟩, st_92⟩ := X_91.virtualBack hx  (y := (⟨"com/example/meterline/meterline/Answer", "size", "()I"⟩ : MethodName)) (z := (⟨"com/example/meterline/meterline/Answer", "size", "()I"⟩ : MethodName)) hown (mvT hZ (hw _ (List.mem_of_getElem? (i := 39) rfl))) (mvT hZ (hw _ (List.mem_of_getElem? (i := 40) rfl))) (notFace_of_selects (args := #[]) (mvT hZ (hw _ (List.mem_of_getElem? (i := 42) rfl)))) (mvT hZ (hw _ (List.mem_of_getElem? (i := 42) rfl))) (mvT hZ (hw _ (List.mem_of_getElem? (i := 41) rfl))) (by decide) (backOf (W := 0) (rm5 l Z a0 hw [] r b2 kc_55 (2 : Int32) [(.int (nar .byte (nar .byte x2))), (.int (nar .byte (nar .byte x3)))] h_80 n0 Z_82 F_85 V_87) hZ (hw _ (List.mem_of_getElem? (i := 43) rfl)) (hw _ (List.mem_of_getElem? (i := 4) rfl)) (by decide) (by decide)) qa_92 qc_92 (g := (mkF m 149 #[.val (.int x0), .val (.int x1), .val (.int x2), .val (.int x3), .val (.int x4), .val (.int stt), .val (.int (2 : Int32)), .val (.int (nar .byte x2)), .val (.int (nar .byte x3)), .val (.int (nar .byte x4)), .val (.ref a_55), .val (.ref r), .unset] [(.ref r)])) rfl (by rw [hml]; rfl) (Steps.refl _) (argsL := []) (rest := []) (lenOf pd0_1 rfl) rfl (by show 2 * 0 + _ ≤ _; exact Nat.le_of_eq rfl) (hb hby at_149) (fun _ _ => ⟨rfl, eq_91, (by decide : 3 + 0 ≤ _), (by decide : 8 + 0 ≤ _)⟩)
    dsimp only [Pt.U, Pt.locs, Pt.cells, Pt.slots] at X_92 l_92 y_92 z_92 st_92 hQ_92
    subst l_92 y_92 z_92
    refine own_tr st_92 ?_
    obtain ⟨rfl, Nq_92, eq_92⟩ := hQ_92
    have N_92 := Fr.app N_91 Nq_92
    show own_Go p e below _ T_92 (mkF m 152 #[.val (.int x0), .val (.int x1), .val (.int x2), .val (.int x3), .val (.int x4), .val (.int stt), .val (.int (2 : Int32)), .val (.int (nar .byte x2)), .val (.int (nar .byte x3)), .val (.int (nar .byte x4)), .val (.ref a_55), .val (.ref r), .unset] [(.int (2 : Int32))])
    refine own_iload X_92 hx (hb hby at_152) (pc' := 154) rfl rfl ?_
    refine own_icmpY X_92 hx (hb hby at_154) (by decide) (pc' := 159) (by decide) (by decide) ?_
    refine own_aload X_92 hx (hb hby at_159) (pc' := 161) rfl rfl rfl ?_
    obtain ⟨cq_93, kq_93, qa_93, qb_93, qc_93⟩ := isOf hZ eq_92 A_83
    obtain ⟨_, _, ⟨T_93, L_93, k_93, n_93⟩, -, X_93, ⟨Lc_93, hQ_93, l_93, y_93, z_93⟩, st_93⟩ := X_92.virtualBack hx  (y := (⟨"com/example/meterline/meterline/Answer", "body", "()[B"⟩ : MethodName)) (z := (⟨"com/example/meterline/meterline/Answer", "body", "()[B"⟩ : MethodName)) hown (mvT hZ (hw _ (List.mem_of_getElem? (i := 44) rfl))) (mvT hZ (hw _ (List.mem_of_getElem? (i := 45) rfl))) (notFace_of_selects (args := #[]) (mvT hZ (hw _ (List.mem_of_getElem? (i := 47) rfl)))) (mvT hZ (hw _ (List.mem_of_getElem? (i := 47) rfl))) (mvT hZ (hw _ (List.mem_of_getElem? (i := 46) rfl))) (by decide) (backOf (W := 0) (rm6 l Z a0 hw [] r b2 kc_55 (2 : Int32) [(.int (nar .byte (nar .byte x2))), (.int (nar .byte (nar .byte x3)))] h_80 n0 Z_82 F_85 V_87 B_88 (by decide)) hZ (hw _ (List.mem_of_getElem? (i := 48) rfl)) (hw _ (List.mem_of_getElem? (i := 4) rfl)) (by decide) (by decide)) qa_93 qc_93 (g := (mkF m 161 #[.val (.int x0), .val (.int x1), .val (.int x2), .val (.int x3), .val (.int x4), .val (.int stt), .val (.int (2 : Int32)), .val (.int (nar .byte x2)), .val (.int (nar .byte x3)), .val (.int (nar .byte x4)), .val (.ref a_55), .val (.ref r), .unset] [(.ref r)])) rfl (by rw [hml]; rfl) (Steps.refl _) (argsL := []) (rest := []) (lenOf pd0_3 rfl) rfl (by show 2 * 0 + _ ≤ _; exact Nat.le_of_eq rfl) (hb hby at_161) (fun _ _ => ⟨rfl, eq_92, (by decide : 3 + 1 ≤ _), (by decide : 8 + 3 ≤ _)⟩)
    dsimp only [Pt.U, Pt.locs, Pt.cells, Pt.slots] at X_93 l_93 y_93 z_93 st_93 hQ_93
    subst l_93 y_93 z_93
    refine own_tr st_93 ?_
    obtain ⟨rb, rfl, Nq_93, Kq_93, V_rb⟩ := hQ_93
    have N_93 := Fr.app N_92 Nq_93
    have V_95 : Arv Z T_93.heap a_55 kc_55 .byte (2 : Int32) [(.int (nar .byte (nar .byte ((nar .byte x2) + (1 : Int32))))), (.int (nar .byte (nar .byte ((nar .byte x3) + (1 : Int32)))))] (.int (0 : Int32)) := V_81.keep Kq_93 nin0
    have A_96 : Exa Z T_93.heap r "com/example/meterline/meterline/Answer" := A_83.keep Kq_93
    have F_97 : Fld Z T_93.heap r "com/example/meterline/meterline/Answer" "status" "I" (.int stt) := F_84.keep Kq_93 nin0
    have F_98 : Fld Z T_93.heap r "com/example/meterline/meterline/Answer" "body" "[B" (.ref b2) := F_85.keep Kq_93 nin0
    have F_99 : Fld Z T_93.heap r "com/example/meterline/meterline/Answer" "error" "Ljava/lang/String;" (.null) := F_86.keep Kq_93 nin0
    have V_100 : Arv Z T_93.heap b2 kc_55 .byte (2 : Int32) [(.int (nar .byte (nar .byte x2))), (.int (nar .byte (nar .byte x3)))] (.int (0 : Int32)) := V_87.keep Kq_93 nin0
    have B_101 : Exa Z T_93.heap b2 "[B" := B_88.keep Kq_93
    have B_102 : Exa Z T_93.heap a_55 "[B" := B_89.keep Kq_93
    have Z_94 : n0 ≤ T_93.heap.size := Nat.le_trans Z_82 Kq_93.1
    show own_Go p e below _ T_93 (mkF m 164 #[.val (.int x0), .val (.int x1), .val (.int x2), .val (.int x3), .val (.int x4), .val (.int stt), .val (.int (2 : Int32)), .val (.int (nar .byte x2)), .val (.int (nar .byte x3)), .val (.int (nar .byte x4)), .val (.ref a_55), .val (.ref r), .unset] [(.ref rb)])
    refine own_astore X_93 hx (hb hby at_164) (pc' := 166) (Ls' := #[.val (.int x0), .val (.int x1), .val (.int x2), .val (.int x3), .val (.int x4), .val (.int stt), .val (.int (2 : Int32)), .val (.int (nar .byte x2)), .val (.int (nar .byte x3)), .val (.int (nar .byte x4)), .val (.ref a_55), .val (.ref r), .val (.ref rb)]) rfl rfl rfl ?_
    refine own_aload X_93 hx (hb hby at_166) (pc' := 168) rfl rfl rfl ?_
    refine own_alen X_93 hx hZ rfl V_rb (hb hby at_168) (pc' := 169) rfl ?_
    refine own_iload X_93 hx (hb hby at_169) (pc' := 171) rfl rfl ?_
    refine own_icmpY X_93 hx (hb hby at_171) (by decide) (pc' := 176) (by decide) (by decide) ?_
    refine own_iload X_93 hx (hb hby at_176) (pc' := 178) rfl rfl ?_
    refine own_ifN X_93 hx (hb hby at_178) (by decide) (pc' := 181) rfl ?_
    refine own_aload X_93 hx (hb hby at_181) (pc' := 183) rfl rfl rfl ?_
    refine own_iconst X_93 hx (0) (hb hby at_183) (pc' := 184) rfl rfl ?_
    refine own_baload X_93 hx hZ rfl V_rb ⟨by decide, by decide⟩ rfl (hb hby at_184) (pc' := 185) rfl ?_
    refine own_iload X_93 hx (hb hby at_185) (pc' := 187) rfl rfl ?_
    refine own_icmpY X_93 hx (hb hby at_187) (XT.ii_eq_t (own_nn _)) (pc' := 192) (by decide) (by decide) ?_
    refine own_iload X_93 hx (hb hby at_192) (pc' := 194) rfl rfl ?_
    refine own_iconst X_93 hx (1) (hb hby at_194) (pc' := 195) rfl rfl ?_
    refine own_icmpN X_93 hx (hb hby at_195) (by decide) (pc' := 198) rfl ?_
    refine own_aload X_93 hx (hb hby at_198) (pc' := 200) rfl rfl rfl ?_
    refine own_iconst X_93 hx (1) (hb hby at_200) (pc' := 201) rfl rfl ?_
    refine own_baload X_93 hx hZ rfl V_rb ⟨by decide, by decide⟩ rfl (hb hby at_201) (pc' := 202) rfl ?_
    refine own_iload X_93 hx (hb hby at_202) (pc' := 204) rfl rfl ?_
    refine own_icmpY X_93 hx (hb hby at_204) (XT.ii_eq_t (own_nn _)) (pc' := 209) (by decide) (by decide) ?_
    refine own_iload X_93 hx (hb hby at_209) (pc' := 211) rfl rfl ?_
    refine own_iconst X_93 hx (2) (hb hby at_211) (pc' := 212) rfl rfl ?_
    refine own_icmpY X_93 hx (hb hby at_212) (by decide) (pc' := 226) (by decide) (by decide) ?_
    refine own_iconst X_93 hx (1) (hb hby at_226) (pc' := 227) rfl rfl ?_
    refine own_retZ X_93 hx hlk Bd.returns (by simp) (hb hby at_227) (by decide) (by decide) ?_
    exact ⟨rfl, N_93⟩
  · rw [q]
    refine own_istore X0 hx (hb hby at_16) (pc' := 18) (Ls' := #[.val (.int x0), .val (.int x1), .val (.int x2), .val (.int x3), .val (.int x4), .val (.int stt), .val (.int (3 : Int32)), .unset, .unset, .unset, .unset, .unset, .unset]) rfl rfl ?_
    refine own_iloadN X0 hx (hb hby at_18) (pc' := 19) rfl rfl ?_
    refine own_i2b X0 hx (hb hby at_19) (pc' := 20) rfl ?_
    refine own_istore X0 hx (hb hby at_20) (pc' := 22) (Ls' := #[.val (.int x0), .val (.int x1), .val (.int x2), .val (.int x3), .val (.int x4), .val (.int stt), .val (.int (3 : Int32)), .val (.int (nar .byte x2)), .unset, .unset, .unset, .unset, .unset]) rfl rfl ?_
    refine own_iloadN X0 hx (hb hby at_22) (pc' := 23) rfl rfl ?_
    refine own_i2b X0 hx (hb hby at_23) (pc' := 24) rfl ?_
    refine own_istore X0 hx (hb hby at_24) (pc' := 26) (Ls' := #[.val (.int x0), .val (.int x1), .val (.int x2), .val (.int x3), .val (.int x4), .val (.int stt), .val (.int (3 : Int32)), .val (.int (nar .byte x2)), .val (.int (nar .byte x3)), .unset, .unset, .unset, .unset]) rfl rfl ?_
    refine own_iload X0 hx (hb hby at_26) (pc' := 28) rfl rfl ?_
    refine own_i2b X0 hx (hb hby at_28) (pc' := 29) rfl ?_
    refine own_istore X0 hx (hb hby at_29) (pc' := 31) (Ls' := #[.val (.int x0), .val (.int x1), .val (.int x2), .val (.int x3), .val (.int x4), .val (.int stt), .val (.int (3 : Int32)), .val (.int (nar .byte x2)), .val (.int (nar .byte x3)), .val (.int (nar .byte x4)), .unset, .unset, .unset]) rfl rfl ?_
    refine own_iload X0 hx (hb hby at_31) (pc' := 33) rfl rfl ?_
    obtain ⟨T_103, h_103, kc_103, X_103, e_103, E_103, A_103, B_103, st_103⟩ := newPE X0 hx hZ (hw _ (List.mem_of_getElem? (i := 1) rfl)) e0 (g := (mkF m 33 #[.val (.int x0), .val (.int x1), .val (.int x2), .val (.int x3), .val (.int x4), .val (.int stt), .val (.int (3 : Int32)), .val (.int (nar .byte x2)), .val (.int (nar .byte x3)), .val (.int (nar .byte x4)), .unset, .unset, .unset] [(.int (3 : Int32))])) rfl (hb hby at_33) rfl (by decide) (cap := 3) (by decide) (by decide) (by decide) (by decide) (ad := "[B") rfl
    obtain ⟨a_103, g_103⟩ : ∃ z, z = h0.size := ⟨_, rfl⟩
    rw [← g_103] at A_103 st_103 B_103
    have ge_103 : n0 ≤ a_103 := Nat.le_trans Z0 (Nat.le_of_eq g_103.symm)
    have Z_104 : n0 ≤ h_103.size := Nat.le_trans Z0 E_103.1
    have V_105 : Arv Z h_103 a_103 kc_103 .byte (3 : Int32) [(.int (0 : Int32)), (.int (0 : Int32)), (.int (0 : Int32))] (.int (0 : Int32)) := (Arv.new A_103 (by decide)).pad (pad_rep [] (.int (0 : Int32)) 3)
    refine own_st st_103 ?_
    show own_Go p e below _ T_103 (mkF m 35 #[.val (.int x0), .val (.int x1), .val (.int x2), .val (.int x3), .val (.int x4), .val (.int stt), .val (.int (3 : Int32)), .val (.int (nar .byte x2)), .val (.int (nar .byte x3)), .val (.int (nar .byte x4)), .unset, .unset, .unset] [(.ref a_103)])
    refine own_astore X_103 hx (hb hby at_35) (pc' := 37) (Ls' := #[.val (.int x0), .val (.int x1), .val (.int x2), .val (.int x3), .val (.int x4), .val (.int stt), .val (.int (3 : Int32)), .val (.int (nar .byte x2)), .val (.int (nar .byte x3)), .val (.int (nar .byte x4)), .val (.ref a_103), .unset, .unset]) rfl rfl rfl ?_
    refine own_iload X_103 hx (hb hby at_37) (pc' := 39) rfl rfl ?_
    refine own_ifN X_103 hx (hb hby at_39) (by decide) (pc' := 42) rfl ?_
    refine own_aload X_103 hx (hb hby at_42) (pc' := 44) rfl rfl rfl ?_
    refine own_iconst X_103 hx (0) (hb hby at_44) (pc' := 45) rfl rfl ?_
    refine own_iload X_103 hx (hb hby at_45) (pc' := 47) rfl rfl ?_
    obtain ⟨T_106, h_106, X_106, e_106, W_106, V_106, st_106⟩ := own_bastore X_103 hx hZ e_103 V_105 0 (x := (nar .byte x2)) (j := (0 : Int32)) (Ls := #[.val (.int x0), .val (.int x1), .val (.int x2), .val (.int x3), .val (.int x4), .val (.int stt), .val (.int (3 : Int32)), .val (.int (nar .byte x2)), .val (.int (nar .byte x3)), .val (.int (nar .byte x4)), .val (.ref a_103), .unset, .unset]) (st := []) ⟨by decide, by decide⟩ rfl (Nat.le_of_ble_eq_true rfl) (hb hby at_47)
    have V_107 : Arv Z h_106 a_103 kc_103 .byte (3 : Int32) [(.int (nar .byte (nar .byte x2))), (.int (0 : Int32)), (.int (0 : Int32))] (.int (0 : Int32)) := V_106
    have B_109 : Exa Z h_106 a_103 "[B" := B_103.wr W_106
    have Z_108 : n0 ≤ h_106.size := by rw [W_106.size]; exact Z_104
    have N_106 := Fr.snoc X_106 N0 ge_103
    refine own_st st_106 ?_
    show own_Go p e below _ T_106 (mkF m 48 #[.val (.int x0), .val (.int x1), .val (.int x2), .val (.int x3), .val (.int x4), .val (.int stt), .val (.int (3 : Int32)), .val (.int (nar .byte x2)), .val (.int (nar .byte x3)), .val (.int (nar .byte x4)), .val (.ref a_103), .unset, .unset] [])
    refine own_iload X_106 hx (hb hby at_48) (pc' := 50) rfl rfl ?_
    refine own_iconst X_106 hx (1) (hb hby at_50) (pc' := 51) rfl rfl ?_
    refine own_icmpN X_106 hx (hb hby at_51) (by decide) (pc' := 54) rfl ?_
    refine own_aload X_106 hx (hb hby at_54) (pc' := 56) rfl rfl rfl ?_
    refine own_iconst X_106 hx (1) (hb hby at_56) (pc' := 57) rfl rfl ?_
    refine own_iload X_106 hx (hb hby at_57) (pc' := 59) rfl rfl ?_
    obtain ⟨T_110, h_110, X_110, e_110, W_110, V_110, st_110⟩ := own_bastore X_106 hx hZ e_106 V_107 1 (x := (nar .byte x3)) (j := (1 : Int32)) (Ls := #[.val (.int x0), .val (.int x1), .val (.int x2), .val (.int x3), .val (.int x4), .val (.int stt), .val (.int (3 : Int32)), .val (.int (nar .byte x2)), .val (.int (nar .byte x3)), .val (.int (nar .byte x4)), .val (.ref a_103), .unset, .unset]) (st := []) ⟨by decide, by decide⟩ rfl (Nat.le_of_ble_eq_true rfl) (hb hby at_59)
    have V_111 : Arv Z h_110 a_103 kc_103 .byte (3 : Int32) [(.int (nar .byte (nar .byte x2))), (.int (nar .byte (nar .byte x3))), (.int (0 : Int32))] (.int (0 : Int32)) := V_110
    have B_113 : Exa Z h_110 a_103 "[B" := B_109.wr W_110
    have Z_112 : n0 ≤ h_110.size := by rw [W_110.size]; exact Z_108
    have N_110 := Fr.snoc X_110 N_106 ge_103
    refine own_st st_110 ?_
    show own_Go p e below _ T_110 (mkF m 60 #[.val (.int x0), .val (.int x1), .val (.int x2), .val (.int x3), .val (.int x4), .val (.int stt), .val (.int (3 : Int32)), .val (.int (nar .byte x2)), .val (.int (nar .byte x3)), .val (.int (nar .byte x4)), .val (.ref a_103), .unset, .unset] [])
    refine own_iload X_110 hx (hb hby at_60) (pc' := 62) rfl rfl ?_
    refine own_iconst X_110 hx (2) (hb hby at_62) (pc' := 63) rfl rfl ?_
    refine own_icmpN X_110 hx (hb hby at_63) (by decide) (pc' := 66) rfl ?_
    refine own_aload X_110 hx (hb hby at_66) (pc' := 68) rfl rfl rfl ?_
    refine own_iconst X_110 hx (2) (hb hby at_68) (pc' := 69) rfl rfl ?_
    refine own_iload X_110 hx (hb hby at_69) (pc' := 71) rfl rfl ?_
    obtain ⟨T_114, h_114, X_114, e_114, W_114, V_114, st_114⟩ := own_bastore X_110 hx hZ e_110 V_111 2 (x := (nar .byte x4)) (j := (2 : Int32)) (Ls := #[.val (.int x0), .val (.int x1), .val (.int x2), .val (.int x3), .val (.int x4), .val (.int stt), .val (.int (3 : Int32)), .val (.int (nar .byte x2)), .val (.int (nar .byte x3)), .val (.int (nar .byte x4)), .val (.ref a_103), .unset, .unset]) (st := []) ⟨by decide, by decide⟩ rfl (Nat.le_of_ble_eq_true rfl) (hb hby at_71)
    have V_115 : Arv Z h_114 a_103 kc_103 .byte (3 : Int32) [(.int (nar .byte (nar .byte x2))), (.int (nar .byte (nar .byte x3))), (.int (nar .byte (nar .byte x4)))] (.int (0 : Int32)) := V_114
    have B_117 : Exa Z h_114 a_103 "[B" := B_113.wr W_114
    have Z_116 : n0 ≤ h_114.size := by rw [W_114.size]; exact Z_112
    have N_114 := Fr.snoc X_114 N_110 ge_103
    refine own_st st_114 ?_
    show own_Go p e below _ T_114 (mkF m 72 #[.val (.int x0), .val (.int x1), .val (.int x2), .val (.int x3), .val (.int x4), .val (.int stt), .val (.int (3 : Int32)), .val (.int (nar .byte x2)), .val (.int (nar .byte x3)), .val (.int (nar .byte x4)), .val (.ref a_103), .unset, .unset] [])
    refine own_iload X_114 hx (hb hby at_72) (pc' := 74) rfl rfl ?_
    refine own_aload X_114 hx (hb hby at_74) (pc' := 76) rfl rfl rfl ?_
    obtain ⟨_, _, ⟨T_118, L_118, k_118, n_118⟩, -, X_118, ⟨Lc_118, hQ_118, l_118, y_118, z_118⟩, st_118⟩ := Jvm.LawKit.callS X_114 hx (y := (⟨"com/example/meterline/meterline/Answer", "of", "(I[B)Lcom/example/meterline/meterline/Answer;"⟩ : MethodName)) hown (mvT hZ (hw _ (List.mem_of_getElem? (i := 2) rfl))) (mvT hZ (hw _ (List.mem_of_getElem? (i := 3) rfl))) (mvT hZ (hw _ (List.mem_of_getElem? (i := 4) rfl))) (mvT hZ (hw _ (List.mem_of_getElem? (i := 5) rfl))) (by decide) (backOf (W := 0) (rm2 l Z a0 hw [] stt a_103 kc_103 (3 : Int32) [(.int (nar .byte (nar .byte x2))), (.int (nar .byte (nar .byte x3))), (.int (nar .byte (nar .byte x4)))] h_114 n0 Z_116 V_115 B_117 hs1 hs2 (by decide)) hZ (hw _ (List.mem_of_getElem? (i := 5) rfl)) (hw _ (List.mem_of_getElem? (i := 4) rfl)) (by decide) (by decide)) (g := (mkF m 76 #[.val (.int x0), .val (.int x1), .val (.int x2), .val (.int x3), .val (.int x4), .val (.int stt), .val (.int (3 : Int32)), .val (.int (nar .byte x2)), .val (.int (nar .byte x3)), .val (.int (nar .byte x4)), .val (.ref a_103), .unset, .unset] [(.ref a_103), (.int stt)])) rfl (by rw [hml]; rfl) (argsL := [(.int stt), (.ref a_103)]) (rest := []) (lenOf pd0_0 rfl) rfl (by show 2 * 0 + _ ≤ _; exact Nat.le_of_eq rfl) (hb hby at_76) (fun _ _ => ⟨rfl, e_114, (by decide : 1 + 2 ≤ _), (by decide : 3 + 6 ≤ _)⟩)
    dsimp only [Pt.U, Pt.locs, Pt.cells, Pt.slots] at X_118 l_118 y_118 z_118 st_118 hQ_118
    subst l_118 y_118 z_118
    refine own_st st_118 ?_
    obtain ⟨r, b2, rfl, Nq_118, Kq_118, A_r, F_s, F_b, F_e, V_b, B_b, hr, hb2⟩ := hQ_118
    have N_118 := Fr.app N_114 Nq_118
    have ne_r : r ≠ a_103 := (Nat.ne_of_lt (Nat.lt_of_lt_of_le V_115.lt hr)).symm
    have ne_b : b2 ≠ a_103 := (Nat.ne_of_lt (Nat.lt_of_lt_of_le V_115.lt hb2)).symm
    have V_120 : Arv Z T_118.heap a_103 kc_103 .byte (3 : Int32) [(.int (nar .byte (nar .byte x2))), (.int (nar .byte (nar .byte x3))), (.int (nar .byte (nar .byte x4)))] (.int (0 : Int32)) := V_115.keep Kq_118 nin0
    have B_121 : Exa Z T_118.heap a_103 "[B" := B_117.keep Kq_118
    have Z_119 : n0 ≤ T_118.heap.size := Nat.le_trans Z_116 Kq_118.1
    show own_Go p e below _ T_118 (mkF m 79 #[.val (.int x0), .val (.int x1), .val (.int x2), .val (.int x3), .val (.int x4), .val (.int stt), .val (.int (3 : Int32)), .val (.int (nar .byte x2)), .val (.int (nar .byte x3)), .val (.int (nar .byte x4)), .val (.ref a_103), .unset, .unset] [(.ref r)])
    refine own_astore X_118 hx (hb hby at_79) (pc' := 81) (Ls' := #[.val (.int x0), .val (.int x1), .val (.int x2), .val (.int x3), .val (.int x4), .val (.int stt), .val (.int (3 : Int32)), .val (.int (nar .byte x2)), .val (.int (nar .byte x3)), .val (.int (nar .byte x4)), .val (.ref a_103), .val (.ref r), .unset]) rfl rfl rfl ?_
    refine own_iload X_118 hx (hb hby at_81) (pc' := 83) rfl rfl ?_
    refine own_ifN X_118 hx (hb hby at_83) (by decide) (pc' := 86) rfl ?_
    refine own_aload X_118 hx (hb hby at_86) (pc' := 88) rfl rfl rfl ?_
    refine own_iconst X_118 hx (0) (hb hby at_88) (pc' := 89) rfl rfl ?_
    refine own_iload X_118 hx (hb hby at_89) (pc' := 91) rfl rfl ?_
    refine own_iconst X_118 hx (1) (hb hby at_91) (pc' := 92) rfl rfl ?_
    refine own_iadd X_118 hx (hb hby at_92) (pc' := 93) rfl ?_
    refine own_i2b X_118 hx (hb hby at_93) (pc' := 94) rfl ?_
    obtain ⟨T_122, h_122, X_122, e_122, W_122, V_122, st_122⟩ := own_bastore X_118 hx hZ rfl V_120 0 (x := (nar .byte ((nar .byte x2) + (1 : Int32)))) (j := (0 : Int32)) (Ls := #[.val (.int x0), .val (.int x1), .val (.int x2), .val (.int x3), .val (.int x4), .val (.int stt), .val (.int (3 : Int32)), .val (.int (nar .byte x2)), .val (.int (nar .byte x3)), .val (.int (nar .byte x4)), .val (.ref a_103), .val (.ref r), .unset]) (st := []) ⟨by decide, by decide⟩ rfl (Nat.le_of_ble_eq_true rfl) (hb hby at_94)
    have V_123 : Arv Z h_122 a_103 kc_103 .byte (3 : Int32) [(.int (nar .byte (nar .byte ((nar .byte x2) + (1 : Int32))))), (.int (nar .byte (nar .byte x3))), (.int (nar .byte (nar .byte x4)))] (.int (0 : Int32)) := V_122
    have A_125 : Exa Z h_122 r "com/example/meterline/meterline/Answer" := A_r.wr W_122
    have F_126 : Fld Z h_122 r "com/example/meterline/meterline/Answer" "status" "I" (.int stt) := F_s.other W_122 (Or.inl ne_r)
    have F_127 : Fld Z h_122 r "com/example/meterline/meterline/Answer" "body" "[B" (.ref b2) := F_b.other W_122 (Or.inl ne_r)
    have F_128 : Fld Z h_122 r "com/example/meterline/meterline/Answer" "error" "Ljava/lang/String;" (.null) := F_e.other W_122 (Or.inl ne_r)
    have V_129 : Arv Z h_122 b2 kc_103 .byte (3 : Int32) [(.int (nar .byte (nar .byte x2))), (.int (nar .byte (nar .byte x3))), (.int (nar .byte (nar .byte x4)))] (.int (0 : Int32)) := V_b.other W_122 ne_b
    have B_130 : Exa Z h_122 b2 "[B" := B_b.wr W_122
    have B_131 : Exa Z h_122 a_103 "[B" := B_121.wr W_122
    have Z_124 : n0 ≤ h_122.size := by rw [W_122.size]; exact Z_119
    have N_122 := Fr.snoc X_122 N_118 ge_103
    refine own_st st_122 ?_
    show own_Go p e below _ T_122 (mkF m 95 #[.val (.int x0), .val (.int x1), .val (.int x2), .val (.int x3), .val (.int x4), .val (.int stt), .val (.int (3 : Int32)), .val (.int (nar .byte x2)), .val (.int (nar .byte x3)), .val (.int (nar .byte x4)), .val (.ref a_103), .val (.ref r), .unset] [])
    refine own_iload X_122 hx (hb hby at_95) (pc' := 97) rfl rfl ?_
    refine own_iconst X_122 hx (1) (hb hby at_97) (pc' := 98) rfl rfl ?_
    refine own_icmpN X_122 hx (hb hby at_98) (by decide) (pc' := 101) rfl ?_
    refine own_aload X_122 hx (hb hby at_101) (pc' := 103) rfl rfl rfl ?_
    refine own_iconst X_122 hx (1) (hb hby at_103) (pc' := 104) rfl rfl ?_
    refine own_iload X_122 hx (hb hby at_104) (pc' := 106) rfl rfl ?_
    refine own_iconst X_122 hx (1) (hb hby at_106) (pc' := 107) rfl rfl ?_
    refine own_iadd X_122 hx (hb hby at_107) (pc' := 108) rfl ?_
    refine own_i2b X_122 hx (hb hby at_108) (pc' := 109) rfl ?_
    obtain ⟨T_132, h_132, X_132, e_132, W_132, V_132, st_132⟩ := own_bastore X_122 hx hZ e_122 V_123 1 (x := (nar .byte ((nar .byte x3) + (1 : Int32)))) (j := (1 : Int32)) (Ls := #[.val (.int x0), .val (.int x1), .val (.int x2), .val (.int x3), .val (.int x4), .val (.int stt), .val (.int (3 : Int32)), .val (.int (nar .byte x2)), .val (.int (nar .byte x3)), .val (.int (nar .byte x4)), .val (.ref a_103), .val (.ref r), .unset]) (st := []) ⟨by decide, by decide⟩ rfl (Nat.le_of_ble_eq_true rfl) (hb hby at_109)
    have V_133 : Arv Z h_132 a_103 kc_103 .byte (3 : Int32) [(.int (nar .byte (nar .byte ((nar .byte x2) + (1 : Int32))))), (.int (nar .byte (nar .byte ((nar .byte x3) + (1 : Int32))))), (.int (nar .byte (nar .byte x4)))] (.int (0 : Int32)) := V_132
    have A_135 : Exa Z h_132 r "com/example/meterline/meterline/Answer" := A_125.wr W_132
    have F_136 : Fld Z h_132 r "com/example/meterline/meterline/Answer" "status" "I" (.int stt) := F_126.other W_132 (Or.inl ne_r)
    have F_137 : Fld Z h_132 r "com/example/meterline/meterline/Answer" "body" "[B" (.ref b2) := F_127.other W_132 (Or.inl ne_r)
    have F_138 : Fld Z h_132 r "com/example/meterline/meterline/Answer" "error" "Ljava/lang/String;" (.null) := F_128.other W_132 (Or.inl ne_r)
    have V_139 : Arv Z h_132 b2 kc_103 .byte (3 : Int32) [(.int (nar .byte (nar .byte x2))), (.int (nar .byte (nar .byte x3))), (.int (nar .byte (nar .byte x4)))] (.int (0 : Int32)) := V_129.other W_132 ne_b
    have B_140 : Exa Z h_132 b2 "[B" := B_130.wr W_132
    have B_141 : Exa Z h_132 a_103 "[B" := B_131.wr W_132
    have Z_134 : n0 ≤ h_132.size := by rw [W_132.size]; exact Z_124
    have N_132 := Fr.snoc X_132 N_122 ge_103
    refine own_st st_132 ?_
    show own_Go p e below _ T_132 (mkF m 110 #[.val (.int x0), .val (.int x1), .val (.int x2), .val (.int x3), .val (.int x4), .val (.int stt), .val (.int (3 : Int32)), .val (.int (nar .byte x2)), .val (.int (nar .byte x3)), .val (.int (nar .byte x4)), .val (.ref a_103), .val (.ref r), .unset] [])
    refine own_iload X_132 hx (hb hby at_110) (pc' := 112) rfl rfl ?_
    refine own_iconst X_132 hx (2) (hb hby at_112) (pc' := 113) rfl rfl ?_
    refine own_icmpN X_132 hx (hb hby at_113) (by decide) (pc' := 116) rfl ?_
    refine own_aload X_132 hx (hb hby at_116) (pc' := 118) rfl rfl rfl ?_
    refine own_iconst X_132 hx (2) (hb hby at_118) (pc' := 119) rfl rfl ?_
    refine own_iload X_132 hx (hb hby at_119) (pc' := 121) rfl rfl ?_
    refine own_iconst X_132 hx (1) (hb hby at_121) (pc' := 122) rfl rfl ?_
    refine own_iadd X_132 hx (hb hby at_122) (pc' := 123) rfl ?_
    refine own_i2b X_132 hx (hb hby at_123) (pc' := 124) rfl ?_
    obtain ⟨T_142, h_142, X_142, e_142, W_142, V_142, st_142⟩ := own_bastore X_132 hx hZ e_132 V_133 2 (x := (nar .byte ((nar .byte x4) + (1 : Int32)))) (j := (2 : Int32)) (Ls := #[.val (.int x0), .val (.int x1), .val (.int x2), .val (.int x3), .val (.int x4), .val (.int stt), .val (.int (3 : Int32)), .val (.int (nar .byte x2)), .val (.int (nar .byte x3)), .val (.int (nar .byte x4)), .val (.ref a_103), .val (.ref r), .unset]) (st := []) ⟨by decide, by decide⟩ rfl (Nat.le_of_ble_eq_true rfl) (hb hby at_124)
    have V_143 : Arv Z h_142 a_103 kc_103 .byte (3 : Int32) [(.int (nar .byte (nar .byte ((nar .byte x2) + (1 : Int32))))), (.int (nar .byte (nar .byte ((nar .byte x3) + (1 : Int32))))), (.int (nar .byte (nar .byte ((nar .byte x4) + (1 : Int32)))))] (.int (0 : Int32)) := V_142
    have A_145 : Exa Z h_142 r "com/example/meterline/meterline/Answer" := A_135.wr W_142
    have F_146 : Fld Z h_142 r "com/example/meterline/meterline/Answer" "status" "I" (.int stt) := F_136.other W_142 (Or.inl ne_r)
    have F_147 : Fld Z h_142 r "com/example/meterline/meterline/Answer" "body" "[B" (.ref b2) := F_137.other W_142 (Or.inl ne_r)
    have F_148 : Fld Z h_142 r "com/example/meterline/meterline/Answer" "error" "Ljava/lang/String;" (.null) := F_138.other W_142 (Or.inl ne_r)
    have V_149 : Arv Z h_142 b2 kc_103 .byte (3 : Int32) [(.int (nar .byte (nar .byte x2))), (.int (nar .byte (nar .byte x3))), (.int (nar .byte (nar .byte x4)))] (.int (0 : Int32)) := V_139.other W_142 ne_b
    have B_150 : Exa Z h_142 b2 "[B" := B_140.wr W_142
    have B_151 : Exa Z h_142 a_103 "[B" := B_141.wr W_142
    have Z_144 : n0 ≤ h_142.size := by rw [W_142.size]; exact Z_134
    have N_142 := Fr.snoc X_142 N_132 ge_103
    refine own_st st_142 ?_
    show own_Go p e below _ T_142 (mkF m 125 #[.val (.int x0), .val (.int x1), .val (.int x2), .val (.int x3), .val (.int x4), .val (.int stt), .val (.int (3 : Int32)), .val (.int (nar .byte x2)), .val (.int (nar .byte x3)), .val (.int (nar .byte x4)), .val (.ref a_103), .val (.ref r), .unset] [])
    refine own_aload X_142 hx (hb hby at_125) (pc' := 127) rfl rfl rfl ?_
    obtain ⟨cq_152, kq_152, qa_152, qb_152, qc_152⟩ := isOf hZ e_142 A_145
    obtain ⟨_, _, ⟨T_152, L_152, k_152, n_152⟩, -, X_152, ⟨Lc_152, hQ_152, l_152, y_152, z_152⟩, st_152⟩ := X_142.virtualBack hx  (y := (⟨"com/example/meterline/meterline/Answer", "status", "()I"⟩ : MethodName)) (z := (⟨"com/example/meterline/meterline/Answer", "status", "()I"⟩ : MethodName)) hown (mvT hZ (hw _ (List.mem_of_getElem? (i := 29) rfl))) (mvT hZ (hw _ (List.mem_of_getElem? (i := 30) rfl))) (notFace_of_selects (args := #[]) (mvT hZ (hw _ (List.mem_of_getElem? (i := 32) rfl)))) (mvT hZ (hw _ (List.mem_of_getElem? (i := 32) rfl))) (mvT hZ (hw _ (List.mem_of_getElem? (i := 31) rfl))) (by decide) (backOf (W := 0) (rm3 l Z a0 hw [] r stt h_142 n0 Z_144 F_146) hZ (hw _ (List.mem_of_getElem? (i := 33) rfl)) (hw _ (List.mem_of_getElem? (i := 4) rfl)) (by decide) (by decide)) qa_152 qc_152 (g := (mkF m 127 #[.val (.int x0), .val (.int x1), .val (.int x2), .val (.int x3), .val (.int x4), .val (.int stt), .val (.int (3 : Int32)), .val (.int (nar .byte x2)), .val (.int (nar .byte x3)), .val (.int (nar .byte x4)), .val (.ref a_103), .val (.ref r), .unset] [(.ref r)])) rfl (by rw [hml]; rfl) (Steps.refl _) (argsL := []) (rest := []) (lenOf pd0_1 rfl) rfl (by show 2 * 0 + _ ≤ _; exact Nat.le_of_eq rfl) (hb hby at_127) (fun _ _ => ⟨rfl, e_142, (by decide : 3 + 0 ≤ _), (by decide : 9 + 0 ≤ _)⟩)
    dsimp only [Pt.U, Pt.locs, Pt.cells, Pt.slots] at X_152 l_152 y_152 z_152 st_152 hQ_152
    subst l_152 y_152 z_152
    refine own_tr st_152 ?_
    obtain ⟨rfl, Nq_152, eq_152⟩ := hQ_152
    have N_152 := Fr.app N_142 Nq_152
    show own_Go p e below _ T_152 (mkF m 130 #[.val (.int x0), .val (.int x1), .val (.int x2), .val (.int x3), .val (.int x4), .val (.int stt), .val (.int (3 : Int32)), .val (.int (nar .byte x2)), .val (.int (nar .byte x3)), .val (.int (nar .byte x4)), .val (.ref a_103), .val (.ref r), .unset] [(.int stt)])
    refine own_iload X_152 hx (hb hby at_130) (pc' := 132) rfl rfl ?_
    refine own_icmpY X_152 hx (hb hby at_132) (XT.ii_eq_t rfl) (pc' := 137) (by decide) (by decide) ?_
    refine own_aload X_152 hx (hb hby at_137) (pc' := 139) rfl rfl rfl ?_
    obtain ⟨cq_153, kq_153, qa_153, qb_153, qc_153⟩ := isOf hZ eq_152 A_145
    obtain ⟨_, _, ⟨T_153, L_153, k_153, n_153⟩, -, X_153, ⟨Lc_153, hQ_153, l_153, y_153, z_153⟩, st_153⟩ := X_152.virtualBack hx  (y := (⟨"com/example/meterline/meterline/Answer", "error", "()Ljava/lang/String;"⟩ : MethodName)) (z := (⟨"com/example/meterline/meterline/Answer", "error", "()Ljava/lang/String;"⟩ : MethodName)) hown (mvT hZ (hw _ (List.mem_of_getElem? (i := 34) rfl))) (mvT hZ (hw _ (List.mem_of_getElem? (i := 35) rfl))) (notFace_of_selects (args := #[]) (mvT hZ (hw _ (List.mem_of_getElem? (i := 37) rfl)))) (mvT hZ (hw _ (List.mem_of_getElem? (i := 37) rfl))) (mvT hZ (hw _ (List.mem_of_getElem? (i := 36) rfl))) (by decide) (backOf (W := 0) (rm4 l Z a0 hw [] r h_142 n0 Z_144 F_148) hZ (hw _ (List.mem_of_getElem? (i := 38) rfl)) (hw _ (List.mem_of_getElem? (i := 4) rfl)) (by decide) (by decide)) qa_153 qc_153 (g := (mkF m 139 #[.val (.int x0), .val (.int x1), .val (.int x2), .val (.int x3), .val (.int x4), .val (.int stt), .val (.int (3 : Int32)), .val (.int (nar .byte x2)), .val (.int (nar .byte x3)), .val (.int (nar .byte x4)), .val (.ref a_103), .val (.ref r), .unset] [(.ref r)])) rfl (by rw [hml]; rfl) (Steps.refl _) (argsL := []) (rest := []) (lenOf pd0_2 rfl) rfl (by show 2 * 0 + _ ≤ _; exact Nat.le_of_eq rfl) (hb hby at_139) (fun _ _ => ⟨rfl, eq_152, (by decide : 3 + 0 ≤ _), (by decide : 9 + 0 ≤ _)⟩)
    dsimp only [Pt.U, Pt.locs, Pt.cells, Pt.slots] at X_153 l_153 y_153 z_153 st_153 hQ_153
    subst l_153 y_153 z_153
    refine own_tr st_153 ?_
    obtain ⟨rfl, Nq_153, eq_153⟩ := hQ_153
    have N_153 := Fr.app N_152 Nq_153
    show own_Go p e below _ T_153 (mkF m 142 #[.val (.int x0), .val (.int x1), .val (.int x2), .val (.int x3), .val (.int x4), .val (.int stt), .val (.int (3 : Int32)), .val (.int (nar .byte x2)), .val (.int (nar .byte x3)), .val (.int (nar .byte x4)), .val (.ref a_103), .val (.ref r), .unset] [(.null)])
    refine own_ifnullY X_153 hx (hb hby at_142) (pc' := 147) (by decide) (by decide) ?_
    refine own_aload X_153 hx (hb hby at_147) (pc' := 149) rfl rfl rfl ?_
    obtain ⟨cq_154, kq_154, qa_154, qb_154, qc_154⟩ := isOf hZ eq_153 A_145
    obtain ⟨_, _, ⟨T_154, L_154, k_154, n_154⟩, -, X_154, ⟨Lc_154, hQ_154, l_154, y_154, z_154⟩, st_154⟩ := X_153.virtualBack hx  (y := (⟨"com/example/meterline/meterline/Answer", "size", "()I"⟩ : MethodName)) (z := (⟨"com/example/meterline/meterline/Answer", "size", "()I"⟩ : MethodName)) hown (mvT hZ (hw _ (List.mem_of_getElem? (i := 39) rfl))) (mvT hZ (hw _ (List.mem_of_getElem? (i := 40) rfl))) (notFace_of_selects (args := #[]) (mvT hZ (hw _ (List.mem_of_getElem? (i := 42) rfl)))) (mvT hZ (hw _ (List.mem_of_getElem? (i := 42) rfl))) (mvT hZ (hw _ (List.mem_of_getElem? (i := 41) rfl))) (by decide) (backOf (W := 0) (rm5 l Z a0 hw [] r b2 kc_103 (3 : Int32) [(.int (nar .byte (nar .byte x2))), (.int (nar .byte (nar .byte x3))), (.int (nar .byte (nar .byte x4)))] h_142 n0 Z_144 F_147 V_149) hZ (hw _ (List.mem_of_getElem? (i := 43) rfl)) (hw _ (List.mem_of_getElem? (i := 4) rfl)) (by decide) (by decide)) qa_154 qc_154 (g := (mkF m 149 #[.val (.int x0), .val (.int x1), .val (.int x2), .val (.int x3), .val (.int x4), .val (.int stt), .val (.int (3 : Int32)), .val (.int (nar .byte x2)), .val (.int (nar .byte x3)), .val (.int (nar .byte x4)), .val (.ref a_103), .val (.ref r), .unset] [(.ref r)])) rfl (by rw [hml]; rfl) (Steps.refl _) (argsL := []) (rest := []) (lenOf pd0_1 rfl) rfl (by show 2 * 0 + _ ≤ _; exact Nat.le_of_eq rfl) (hb hby at_149) (fun _ _ => ⟨rfl, eq_153, (by decide : 3 + 0 ≤ _), (by decide : 9 + 0 ≤ _)⟩)
    dsimp only [Pt.U, Pt.locs, Pt.cells, Pt.slots] at X_154 l_154 y_154 z_154 st_154 hQ_154
    subst l_154 y_154 z_154
    refine own_tr st_154 ?_
    obtain ⟨rfl, Nq_154, eq_154⟩ := hQ_154
    have N_154 := Fr.app N_153 Nq_154
    show own_Go p e below _ T_154 (mkF m 152 #[.val (.int x0), .val (.int x1), .val (.int x2), .val (.int x3), .val (.int x4), .val (.int stt), .val (.int (3 : Int32)), .val (.int (nar .byte x2)), .val (.int (nar .byte x3)), .val (.int (nar .byte x4)), .val (.ref a_103), .val (.ref r), .unset] [(.int (3 : Int32))])
    refine own_iload X_154 hx (hb hby at_152) (pc' := 154) rfl rfl ?_
    refine own_icmpY X_154 hx (hb hby at_154) (by decide) (pc' := 159) (by decide) (by decide) ?_
    refine own_aload X_154 hx (hb hby at_159) (pc' := 161) rfl rfl rfl ?_
    obtain ⟨cq_155, kq_155, qa_155, qb_155, qc_155⟩ := isOf hZ eq_154 A_145
    obtain ⟨_, _, ⟨T_155, L_155, k_155, n_155⟩, -, X_155, ⟨Lc_155, hQ_155, l_155, y_155, z_155⟩, st_155⟩ := X_154.virtualBack hx  (y := (⟨"com/example/meterline/meterline/Answer", "body", "()[B"⟩ : MethodName)) (z := (⟨"com/example/meterline/meterline/Answer", "body", "()[B"⟩ : MethodName)) hown (mvT hZ (hw _ (List.mem_of_getElem? (i := 44) rfl))) (mvT hZ (hw _ (List.mem_of_getElem? (i := 45) rfl))) (notFace_of_selects (args := #[]) (mvT hZ (hw _ (List.mem_of_getElem? (i := 47) rfl)))) (mvT hZ (hw _ (List.mem_of_getElem? (i := 47) rfl))) (mvT hZ (hw _ (List.mem_of_getElem? (i := 46) rfl))) (by decide) (backOf (W := 0) (rm6 l Z a0 hw [] r b2 kc_103 (3 : Int32) [(.int (nar .byte (nar .byte x2))), (.int (nar .byte (nar .byte x3))), (.int (nar .byte (nar .byte x4)))] h_142 n0 Z_144 F_147 V_149 B_150 (by decide)) hZ (hw _ (List.mem_of_getElem? (i := 48) rfl)) (hw _ (List.mem_of_getElem? (i := 4) rfl)) (by decide) (by decide)) qa_155 qc_155 (g := (mkF m 161 #[.val (.int x0), .val (.int x1), .val (.int x2), .val (.int x3), .val (.int x4), .val (.int stt), .val (.int (3 : Int32)), .val (.int (nar .byte x2)), .val (.int (nar .byte x3)), .val (.int (nar .byte x4)), .val (.ref a_103), .val (.ref r), .unset] [(.ref r)])) rfl (by rw [hml]; rfl) (Steps.refl _) (argsL := []) (rest := []) (lenOf pd0_3 rfl) rfl (by show 2 * 0 + _ ≤ _; exact Nat.le_of_eq rfl) (hb hby at_161) (fun _ _ => ⟨rfl, eq_154, (by decide : 3 + 1 ≤ _), (by decide : 9 + 3 ≤ _)⟩)
    dsimp only [Pt.U, Pt.locs, Pt.cells, Pt.slots] at X_155 l_155 y_155 z_155 st_155 hQ_155
    subst l_155 y_155 z_155
    refine own_tr st_155 ?_
    obtain ⟨rb, rfl, Nq_155, Kq_155, V_rb⟩ := hQ_155
    have N_155 := Fr.app N_154 Nq_155
    have V_157 : Arv Z T_155.heap a_103 kc_103 .byte (3 : Int32) [(.int (nar .byte (nar .byte ((nar .byte x2) + (1 : Int32))))), (.int (nar .byte (nar .byte ((nar .byte x3) + (1 : Int32))))), (.int (nar .byte (nar .byte ((nar .byte x4) + (1 : Int32)))))] (.int (0 : Int32)) := V_143.keep Kq_155 nin0
    have A_158 : Exa Z T_155.heap r "com/example/meterline/meterline/Answer" := A_145.keep Kq_155
    have F_159 : Fld Z T_155.heap r "com/example/meterline/meterline/Answer" "status" "I" (.int stt) := F_146.keep Kq_155 nin0
    have F_160 : Fld Z T_155.heap r "com/example/meterline/meterline/Answer" "body" "[B" (.ref b2) := F_147.keep Kq_155 nin0
    have F_161 : Fld Z T_155.heap r "com/example/meterline/meterline/Answer" "error" "Ljava/lang/String;" (.null) := F_148.keep Kq_155 nin0
    have V_162 : Arv Z T_155.heap b2 kc_103 .byte (3 : Int32) [(.int (nar .byte (nar .byte x2))), (.int (nar .byte (nar .byte x3))), (.int (nar .byte (nar .byte x4)))] (.int (0 : Int32)) := V_149.keep Kq_155 nin0
    have B_163 : Exa Z T_155.heap b2 "[B" := B_150.keep Kq_155
    have B_164 : Exa Z T_155.heap a_103 "[B" := B_151.keep Kq_155
    have Z_156 : n0 ≤ T_155.heap.size := Nat.le_trans Z_144 Kq_155.1
    show own_Go p e below _ T_155 (mkF m 164 #[.val (.int x0), .val (.int x1), .val (.int x2), .val (.int x3), .val (.int x4), .val (.int stt), .val (.int (3 : Int32)), .val (.int (nar .byte x2)), .val (.int (nar .byte x3)), .val (.int (nar .byte x4)), .val (.ref a_103), .val (.ref r), .unset] [(.ref rb)])
    refine own_astore X_155 hx (hb hby at_164) (pc' := 166) (Ls' := #[.val (.int x0), .val (.int x1), .val (.int x2), .val (.int x3), .val (.int x4), .val (.int stt), .val (.int (3 : Int32)), .val (.int (nar .byte x2)), .val (.int (nar .byte x3)), .val (.int (nar .byte x4)), .val (.ref a_103), .val (.ref r), .val (.ref rb)]) rfl rfl rfl ?_
    refine own_aload X_155 hx (hb hby at_166) (pc' := 168) rfl rfl rfl ?_
    refine own_alen X_155 hx hZ rfl V_rb (hb hby at_168) (pc' := 169) rfl ?_
    refine own_iload X_155 hx (hb hby at_169) (pc' := 171) rfl rfl ?_
    refine own_icmpY X_155 hx (hb hby at_171) (by decide) (pc' := 176) (by decide) (by decide) ?_
    refine own_iload X_155 hx (hb hby at_176) (pc' := 178) rfl rfl ?_
    refine own_ifN X_155 hx (hb hby at_178) (by decide) (pc' := 181) rfl ?_
    refine own_aload X_155 hx (hb hby at_181) (pc' := 183) rfl rfl rfl ?_
    refine own_iconst X_155 hx (0) (hb hby at_183) (pc' := 184) rfl rfl ?_
    refine own_baload X_155 hx hZ rfl V_rb ⟨by decide, by decide⟩ rfl (hb hby at_184) (pc' := 185) rfl ?_
    refine own_iload X_155 hx (hb hby at_185) (pc' := 187) rfl rfl ?_
    refine own_icmpY X_155 hx (hb hby at_187) (XT.ii_eq_t (own_nn _)) (pc' := 192) (by decide) (by decide) ?_
    refine own_iload X_155 hx (hb hby at_192) (pc' := 194) rfl rfl ?_
    refine own_iconst X_155 hx (1) (hb hby at_194) (pc' := 195) rfl rfl ?_
    refine own_icmpN X_155 hx (hb hby at_195) (by decide) (pc' := 198) rfl ?_
    refine own_aload X_155 hx (hb hby at_198) (pc' := 200) rfl rfl rfl ?_
    refine own_iconst X_155 hx (1) (hb hby at_200) (pc' := 201) rfl rfl ?_
    refine own_baload X_155 hx hZ rfl V_rb ⟨by decide, by decide⟩ rfl (hb hby at_201) (pc' := 202) rfl ?_
    refine own_iload X_155 hx (hb hby at_202) (pc' := 204) rfl rfl ?_
    refine own_icmpY X_155 hx (hb hby at_204) (XT.ii_eq_t (own_nn _)) (pc' := 209) (by decide) (by decide) ?_
    refine own_iload X_155 hx (hb hby at_209) (pc' := 211) rfl rfl ?_
    refine own_iconst X_155 hx (2) (hb hby at_211) (pc' := 212) rfl rfl ?_
    refine own_icmpN X_155 hx (hb hby at_212) (by decide) (pc' := 215) rfl ?_
    refine own_aload X_155 hx (hb hby at_215) (pc' := 217) rfl rfl rfl ?_
    refine own_iconst X_155 hx (2) (hb hby at_217) (pc' := 218) rfl rfl ?_
    refine own_baload X_155 hx hZ rfl V_rb ⟨by decide, by decide⟩ rfl (hb hby at_218) (pc' := 219) rfl ?_
    refine own_iload X_155 hx (hb hby at_219) (pc' := 221) rfl rfl ?_
    refine own_icmpY X_155 hx (hb hby at_221) (XT.ii_eq_t (own_nn _)) (pc' := 226) (by decide) (by decide) ?_
    refine own_iconst X_155 hx (1) (hb hby at_226) (pc' := 227) rfl rfl ?_
    refine own_retZ X_155 hx hlk Bd.returns (by simp) (hb hby at_227) (by decide) (by decide) ?_
    exact ⟨rfl, N_155⟩
set_option maxRecDepth 65536 in
set_option maxHeartbeats 40000000 in
theorem comes_1 {Post : Tables → Env → Array Value → State → Outcome → State → Prop} (hpost : ∀ tb e args s v u, (limb_1_1.after args s (.returned v) u = true ∧ limb_1_2.after args s (.returned v) u = true ∧ True) → FrameEnd s (.returned v) u (Jvm.fieldLocs frame_1_writes args s ++ Jvm.arrayLocs frame_1_arrays args s ++ Jvm.staticLocs frame_1_statics s) 16 128 → Post tb e args s (.returned v) u) :
    ArmFor flags0 classFile x code maxLocals ret World_1 tables_1 room_1 Calls_1 rest_1 Pre_1 Post := by
  intro l hfl _ _ p e ha hc hk s m args below hf hA hF happ hP
  obtain ⟨hcalls, hrest, hpre⟩ := hP
  obtain ⟨-, -, -, hnamed, -, -, -, hat⟩ := (Spec.applies_iff hf).mp happ
  obtain ⟨hg, hn⟩ := and_e (Cond.before_iff.mp (show (Jvm.Cond.and given_1 narrow_1).before args s = true from hpre))
  obtain ⟨gc, gr0⟩ := and_e hg
  obtain ⟨ga0, gr1⟩ := and_e gr0
  obtain ⟨ga1, gr2⟩ := and_e gr1
  obtain ⟨ga2, gr3⟩ := and_e gr2
  obtain ⟨ga3, gr4⟩ := and_e gr3
  have ga4 := gr4
  obtain ⟨w0, w1, w2, w3, w4, rfl⟩ : ∃ w0 w1 w2 w3 w4 : Value, args = #[w0, w1, w2, w3, w4] := by
    have hs : args.size = 5 := by simpa [Cond.value, given_1] using gc
    obtain ⟨L⟩ := args
    match L, hs with
    | [w0, w1, w2, w3, w4], _ => exact ⟨w0, w1, w2, w3, w4, rfl⟩
  have hw := fun d (hd : d ∈ tables_1) => atoms_spec (ws := Jvm.Cond.code x code maxLocals ret :: tables_1) hat d (List.mem_cons_of_mem _ hd)
  have hfit : Fit s := fun {y c} hc i hi => by
    obtain ⟨ha, rfl⟩ := Array.getElem?_eq_some_iff.mp hc
    have q := List.all_eq_true.mp ((Array.all_eq_true_iff_forall_mem.mp hF) _ (Array.getElem_mem ha)) i (List.mem_range.mpr hi)
    simpa [Array.getElem?_eq_getElem hi] using q
  obtain ⟨i0, ei0⟩ := is_v ga0
  obtain rfl : w0 = (.int i0) := Option.some.inj ei0
  obtain ⟨i1, ei1⟩ := is_v ga1
  obtain rfl : w1 = (.int i1) := Option.some.inj ei1
  obtain ⟨i2, ei2⟩ := is_v ga2
  obtain rfl : w2 = (.int i2) := Option.some.inj ei2
  obtain ⟨i3, ei3⟩ := is_v ga3
  obtain rfl : w3 = (.int i3) := Option.some.inj ei3
  obtain ⟨i4, ei4⟩ := is_v ga4
  obtain rfl : w4 = (.int i4) := Option.some.inj ei4
  obtain ⟨n, o, h1, h2, h3, _, L, rfl, ⟨rfl, N⟩, hq⟩ := rm0 l s _ hw tables_1 i0 i1 i2 i3 i4 s.heap s.heap.size (Nat.le_refl _)  p e ha hc hk s m _ below hf ((Spec.applies_iff_loose hf).mp happ).1 ⟨rfl, State.Warmed39.refl s, rfl⟩ trivial
  refine ⟨n, _, h1, h2, h3, hpost _ _ _ _ _ _ ⟨Cond.after_iff.mpr rfl, Cond.after_iff.mpr (eq_i res_at (Term.int_eval (1)) rfl), trivial⟩ ⟨hq.1, hq.2.1, (hq.2.2.sift fun y hy => Or.inr (N y hy)).mono (by decide) (by decide)⟩⟩
theorem main_1_1 : Claimed_1_1 := comes_1 fun _ _ _ _ _ _ h hF => ⟨h.1, hF⟩
theorem main_1_2 : Claimed_1_2 := comes_1 fun _ _ _ _ _ _ h hF => ⟨h.2.1, hF⟩
end Jvm.Pilot.@@N@@
namespace Jvm.Pilot.@@N@@
open Jvm Jvm.ClassFile Sem Op Lib Jvm.Free Jvm.Stand Jvm.Pilot.@@N@@.Jvm.D
/-! MADE BY PROGRAM (witnessworld.py) out of the Statement's table words and the real class files: 9 classes; the members and pool entries that the words name. The judged class is class 1, her method 1. -/
namespace start1
open Jvm.ClassFile
def u (s : String) : CpInfo := .utf8 (stringToUtf16 s)
/-- a pool by its gaps: so many unusable entries, then the entry; so many at the end -/
def gap : Nat → List CpInfo → List CpInfo
  | 0, r => r
  | n + 1, r => .unusable :: gap n r
def poolList (es : List (Nat × CpInfo)) (last : Nat) : List CpInfo := es.foldr (fun e r => gap e.1 (e.2 :: r)) (gap last [])
def pool (es : List (Nat × CpInfo)) (last : Nat) : Array CpInfo := ⟨poolList es last⟩
def fileOf (pool : Array CpInfo) (this : Nat) (attrs : Array Attribute := #[]) (ms : Array MethodInfo := #[]) (fl : Nat := 33) (sup : Nat := 0) (ifs : Array Nat := #[]) (fds : Array FieldInfo := #[]) : ClassFile where
  minorVersion := 0
  majorVersion := 65
  constantPool := pool
  accessFlags := fl
  thisClass := this
  superClass := sup
  interfaces := ifs
  fields := fds
  methods := ms
  attributes := attrs
def plain (name : String) (sup : Option ClassId) : Class where
  name := name
  kind := .ordinary
  loader := none
  accessFlags := 33
  super := sup
  interfaces := #[]
  cf := none
  fields := #[]
  methods := #[]
  instanceTypes := #[]
  staticTypes := #[]
  resolved := #[]
  callSites := []
  init := .initialized
  statics := none
  mirror := none

def pool0 : Array CpInfo := pool [(5, u "<init>"), (0, u "()V"), (1, .class_ 10), (1, u "java/lang/Object"), (85, u "clone"), (0, u "()Ljava/lang/Object;")] 26

def k0c0 : Code := { maxStack := 0, maxLocals := 1, code := object_method_1_code, exceptionTable := #[], attributes := #[] }
def k0m0 : Method := { name := "<init>", desc := "()V", sig := { parameters := [], returnType := none }, accessFlags := 1, code := some k0c0 }
def k0m1 : Method := { name := "clone", desc := "()Ljava/lang/Object;", sig := { parameters := [], returnType := some (.object "java/lang/Object") }, accessFlags := 260, code := none }
/-- java/lang/Object -/
def k0 : Class := { plain "java/lang/Object" none with
  accessFlags := 33
  interfaces := #[]
  cf := some (fileOf pool0 8 #[] #[{ accessFlags := 1, nameIndex := 5, descriptorIndex := 6, attributes := #[] }, { accessFlags := 260, nameIndex := 96, descriptorIndex := 97, attributes := #[] }] 33 0 #[] #[])
  fields := #[]
  methods := #[k0m0, k0m1]
  instanceTypes := #[]
  staticTypes := #[]
  resolved := Array.replicate 124 none
  statics := none }

def pool1 : Array CpInfo := pool [(2, .class_ 4), (1, u "java/lang/Object"), (0, u "<init>"), (0, u "()V"), (0, .integer 2147483647), (0, .methodref 9 10), (0, .class_ 11), (0, .nameAndType 12 13), (0, u "com/example/meterline/meterline/Answer"), (0, u "of"), (0, u "(I[B)Lcom/example/meterline/meterline/Answer;"), (0, .methodref 9 15), (0, .nameAndType 16 17), (0, u "status"), (0, u "()I"), (0, .methodref 9 19), (0, .nameAndType 20 21), (0, u "error"), (0, u "()Ljava/lang/String;"), (0, .methodref 9 23), (0, .nameAndType 24 17), (0, u "size"), (0, .methodref 9 26), (0, .nameAndType 27 28), (0, u "body"), (0, u "()[B"), (0, .class_ 30), (0, u "com/example/meterline/meterline/AnswerOfPinLaw"), (2, u "law"), (0, u "(IIIII)Z")] 5

def k1m0 : Method := { name := "<init>", desc := "()V", sig := { parameters := [], returnType := none }, accessFlags := 1, code := none }
def k1c1 : Code := { maxStack := 4, maxLocals := 13, code := code, exceptionTable := #[], attributes := #[] }
def k1m1 : Method := { name := "law", desc := "(IIIII)Z", sig := { parameters := [.int, .int, .int, .int, .int], returnType := some .boolean }, accessFlags := 9, code := some k1c1 }
/-- com/example/meterline/meterline/AnswerOfPinLaw -/
def k1 : Class := { plain "com/example/meterline/meterline/AnswerOfPinLaw" (some 0) with
  accessFlags := 49
  interfaces := #[]
  cf := some (fileOf pool1 29 #[] #[{ accessFlags := 1, nameIndex := 5, descriptorIndex := 6, attributes := #[] }, { accessFlags := 9, nameIndex := 33, descriptorIndex := 34, attributes := #[] }] 49 2 #[] #[])
  fields := #[]
  methods := #[k1m0, k1m1]
  instanceTypes := #[]
  staticTypes := #[]
  resolved := Array.replicate 40 none
  statics := none }

def pool2 : Array CpInfo := pool [(1, .methodref 2 3), (0, .class_ 4), (0, .nameAndType 5 6), (0, u "java/lang/Object"), (0, u "<init>"), (0, u "()V"), (0, .fieldref 8 9), (0, .class_ 10), (0, .nameAndType 11 12), (0, u "com/example/meterline/meterline/Answer"), (0, u "status"), (0, u "I"), (0, .fieldref 8 14), (0, .nameAndType 15 16), (0, u "body"), (0, u "[B"), (0, .fieldref 8 18), (0, .nameAndType 19 20), (0, u "error"), (0, u "Ljava/lang/String;"), (9, .methodref 31 32), (0, .class_ 16), (0, .nameAndType 33 34), (0, u "clone"), (0, u "()Ljava/lang/Object;"), (0, .methodref 8 36), (0, .nameAndType 5 37), (0, u "(I[BLjava/lang/String;)V"), (2, u "NO_BODY"), (11, u "REQUEST_TIMEOUT"), (4, u "of"), (0, u "(I[B)Lcom/example/meterline/meterline/Answer;"), (5, u "()I"), (0, u "()[B"), (0, u "size"), (0, u "()Ljava/lang/String;")] 18

def k2c0 : Code := { maxStack := 2, maxLocals := 4, code := prog_1_method_1_code, exceptionTable := #[], attributes := #[] }
def k2m0 : Method := { name := "<init>", desc := "(I[BLjava/lang/String;)V", sig := { parameters := [.int, (.array .byte), (.object "java/lang/String")], returnType := none }, accessFlags := 2, code := some k2c0 }
def k2c1 : Code := { maxStack := 5, maxLocals := 2, code := prog_1_method_2_code, exceptionTable := #[], attributes := #[] }
def k2m1 : Method := { name := "of", desc := "(I[B)Lcom/example/meterline/meterline/Answer;", sig := { parameters := [.int, (.array .byte)], returnType := some (.object "com/example/meterline/meterline/Answer") }, accessFlags := 9, code := some k2c1 }
def k2c2 : Code := { maxStack := 1, maxLocals := 1, code := prog_1_method_6_code, exceptionTable := #[], attributes := #[] }
def k2m2 : Method := { name := "status", desc := "()I", sig := { parameters := [], returnType := some .int }, accessFlags := 1, code := some k2c2 }
def k2c3 : Code := { maxStack := 1, maxLocals := 1, code := prog_1_method_7_code, exceptionTable := #[], attributes := #[] }
def k2m3 : Method := { name := "body", desc := "()[B", sig := { parameters := [], returnType := some (.array .byte) }, accessFlags := 1, code := some k2c3 }
def k2c4 : Code := { maxStack := 1, maxLocals := 1, code := prog_1_method_8_code, exceptionTable := #[], attributes := #[] }
def k2m4 : Method := { name := "size", desc := "()I", sig := { parameters := [], returnType := some .int }, accessFlags := 1, code := some k2c4 }
def k2c5 : Code := { maxStack := 1, maxLocals := 1, code := prog_1_method_9_code, exceptionTable := #[], attributes := #[] }
def k2m5 : Method := { name := "error", desc := "()Ljava/lang/String;", sig := { parameters := [], returnType := some (.object "java/lang/String") }, accessFlags := 1, code := some k2c5 }
/-- com/example/meterline/meterline/Answer -/
def k2 : Class := { plain "com/example/meterline/meterline/Answer" (some 0) with
  accessFlags := 49
  interfaces := #[]
  cf := some (fileOf pool2 8 #[] #[{ accessFlags := 2, nameIndex := 5, descriptorIndex := 37, attributes := #[] }, { accessFlags := 9, nameIndex := 57, descriptorIndex := 58, attributes := #[] }, { accessFlags := 1, nameIndex := 11, descriptorIndex := 64, attributes := #[] }, { accessFlags := 1, nameIndex := 15, descriptorIndex := 65, attributes := #[] }, { accessFlags := 1, nameIndex := 66, descriptorIndex := 64, attributes := #[] }, { accessFlags := 1, nameIndex := 19, descriptorIndex := 67, attributes := #[] }] 49 2 #[] #[{ accessFlags := 25, nameIndex := 52, descriptorIndex := 12, attributes := #[] }, { accessFlags := 26, nameIndex := 40, descriptorIndex := 16, attributes := #[] }, { accessFlags := 18, nameIndex := 11, descriptorIndex := 12, attributes := #[] }, { accessFlags := 18, nameIndex := 15, descriptorIndex := 16, attributes := #[] }, { accessFlags := 18, nameIndex := 19, descriptorIndex := 20, attributes := #[] }])
  fields := #[{ name := "REQUEST_TIMEOUT", type := .int, accessFlags := 25, slot := 0, constantValue := 0 }, { name := "NO_BODY", type := (.array .byte), accessFlags := 26, slot := 1, constantValue := 0 }, { name := "status", type := .int, accessFlags := 18, slot := 0, constantValue := 0 }, { name := "body", type := (.array .byte), accessFlags := 18, slot := 1, constantValue := 0 }, { name := "error", type := (.object "java/lang/String"), accessFlags := 18, slot := 2, constantValue := 0 }]
  methods := #[k2m0, k2m1, k2m2, k2m3, k2m4, k2m5]
  instanceTypes := #[.int, (.array .byte), (.object "java/lang/String")]
  staticTypes := #[.int, (.array .byte)]
  resolved := Array.replicate 86 none
  statics := none }

def pool3 : Array CpInfo := pool [(1, .class_ 2), (0, u "java/lang/Cloneable"), (0, .class_ 4), (0, u "java/lang/Object")] 2

/-- java/lang/Cloneable -/
def k3 : Class := { plain "java/lang/Cloneable" (some 0) with
  accessFlags := 1537
  interfaces := #[]
  cf := some (fileOf pool3 1 #[] #[] 1537 3 #[] #[])
  fields := #[]
  methods := #[]
  instanceTypes := #[]
  staticTypes := #[]
  resolved := Array.replicate 7 none
  statics := none }

def pool4 : Array CpInfo := pool [(1, u "java/io/Serializable"), (0, .class_ 1), (0, u "java/lang/Object"), (0, .class_ 3)] 3

/-- java/io/Serializable -/
def k4 : Class := { plain "java/io/Serializable" (some 0) with
  accessFlags := 1537
  interfaces := #[]
  cf := some (fileOf pool4 2 #[] #[] 1537 4 #[] #[])
  fields := #[]
  methods := #[]
  instanceTypes := #[]
  staticTypes := #[]
  resolved := Array.replicate 8 none
  statics := none }

/-- the primitive byte -/
def k5 : Class := { plain "byte" none with kind := .primitive 'B', accessFlags := 0x411 }
/-- [B -/
def k6 : Class := { plain "[B" (some 0) with kind := .array 5 .byte, interfaces := #[3, 4], accessFlags := 1041 }

/-- the primitive int -/
def k7 : Class := { plain "int" none with kind := .primitive 'I', accessFlags := 0x411 }
/-- [I -/
def k8 : Class := { plain "[I" (some 0) with kind := .array 7 .int, interfaces := #[3, 4], accessFlags := 1041 }

def heap : Heap := #[]
def classes : Array Class := #[k0, k1, k2, k3, k4, k5, k6, k7, k8]
def interned : List (Array UInt16 × Addr) := []
def slotsUsed : Nat := 0
def theMethod : MethodId := ⟨1, 1⟩
def args0 : Array Value := #[.int 5, .int 3, .int 7, .int 1, .int 2]
def aboutOver (below : List Frame) : State where
  vm := { classes := classes, interned := interned.toArray }
  heap := heap
  slotsUsed := slotsUsed
  threads := #[{ frames := .invoking theMethod args0 :: below }]
def below0 : List Frame := [.native { method := ⟨0, 0⟩, args := #[] }]
def about1 : State := aboutOver below0
def p0 : Program := .bare "" "" ""
def e0 : Env := launch0.env 0 0 0
theorem w_frames : about1.frames = Frame.invoking theMethod args0 :: below0 := rfl
set_option maxRecDepth 65536 in
theorem w_args : argsFit about1.vm theMethod args0 = true := by decide +kernel
set_option maxRecDepth 65536 in
theorem w_heap : heapFits about1 = true := by decide +kernel
set_option maxRecDepth 65536 in
theorem w_runnable : about1.curStatus? = some .runnable := by decide +kernel
set_option maxRecDepth 65536 in
theorem w_alone : about1.alone = true := by decide +kernel
set_option maxRecDepth 65536 in
theorem w_named : about1.methodNamed? x = some theMethod := by decide +kernel
set_option maxRecDepth 65536 in
theorem w_hears : about1.hears theMethod below0 = true := by decide +kernel
set_option maxRecDepth 65536 in
theorem w_ripe : about1.ripe theMethod args0 below0 = true := by decide +kernel
theorem w_running : about1.status = .running := rfl
set_option maxRecDepth 65536 in
theorem w_room : about1.hasRoom e0.platform room_1 = true :=
  launch0.hasRoom_least _ room_1 (by decide +kernel) (by decide +kernel) (by decide +kernel) (by decide +kernel) (by decide +kernel) (by decide +kernel)
theorem allAtoms_all (ts : List Jvm.Cond) (a : Array Jvm.Value) (st : Jvm.State) : (allAtoms ts).before a st = ts.all (fun c => c.before a st) := by
  induction ts with
  | nil => rfl
  | cons c t ih =>
    show (Jvm.Cond.and c (allAtoms t)).before a st = _
    rw [Jvm.Cond.before_and, ih, List.all_cons]
def words1 : List Jvm.Cond := Jvm.Cond.code x code maxLocals ret :: tables_1
/-- a 'code' word, met by the world's own term for the bytes: nothing is compared byte by byte -/
theorem code_word {y : MethodName} {bytes : ByteArray} {mx : Nat} {rt : Option FieldType} {a : Array Value} {s : State} {m : MethodId} {meth : Method} {c : Code} (h1 : s.methodNamed? y = some m) (h2 : s.vm.method? m = some meth) (h3 : meth.code = some c) (h4 : c.code = bytes)
    (h5 : (c.maxLocals == mx && c.exceptionTable.isEmpty && decide (c.maxStack ≤ mostOperands) && decide (meth.sig.returnType = rt) && !meth.locks && decide (parseMethodDescriptor y.desc = some meth.sig)) = true) : (Jvm.Cond.code y bytes mx rt).before a s = true := by
  simp only [Bool.and_eq_true, beq_iff_eq, Bool.not_eq_true', decide_eq_true_eq] at h5
  obtain ⟨⟨⟨⟨⟨g1, g2⟩, g3⟩, g4⟩, g5⟩, g6⟩ := h5
  simp [Cond.before, Cond.holds, Cond.value, h1, h2, h3, h4, g1, g2, g3, g4, g5, g6]
def isCode : Jvm.Cond → Bool
  | .code _ _ _ _ => true
  | _ => false
theorem all_split {L : List Jvm.Cond} {P : Jvm.Cond → Bool} (h1 : L.all (fun c => isCode c || P c) = true) (h2 : ∀ c ∈ L.filter isCode, P c = true) : L.all P = true := by
  refine List.all_eq_true.mpr fun c hc => ?_
  have h := List.all_eq_true.mp h1 c hc
  rcases Bool.eq_false_or_eq_true (isCode c) with hi | hi
  · exact h2 c (List.mem_filter.mpr ⟨hc, hi⟩)
  · simpa [hi] using h
set_option maxRecDepth 65536 in
theorem w_c0 : (Jvm.Cond.code x code maxLocals ret).before args0 about1 = true := code_word (m := ⟨1, 1⟩) (meth := k1m1) (c := k1c1) (by decide +kernel) rfl rfl rfl (by decide +kernel)
set_option maxRecDepth 65536 in
theorem w_c1 : (Jvm.Cond.code ({ cls := "com/example/meterline/meterline/Answer", name := "of", desc := "(I[B)Lcom/example/meterline/meterline/Answer;" } : Jvm.MethodName) prog_1_method_2_code (2 : Nat) (Option.some (Jvm.ClassFile.FieldType.object "com/example/meterline/meterline/Answer"))).before args0 about1 = true := code_word (m := ⟨2, 1⟩) (meth := k2m1) (c := k2c1) (by decide +kernel) rfl rfl rfl (by decide +kernel)
set_option maxRecDepth 65536 in
theorem w_c2 : (Jvm.Cond.code ({ cls := "com/example/meterline/meterline/Answer", name := "<init>", desc := "(I[BLjava/lang/String;)V" } : Jvm.MethodName) prog_1_method_1_code (4 : Nat) (Option.none : Option Jvm.ClassFile.FieldType)).before args0 about1 = true := code_word (m := ⟨2, 0⟩) (meth := k2m0) (c := k2c0) (by decide +kernel) rfl rfl rfl (by decide +kernel)
set_option maxRecDepth 65536 in
theorem w_c3 : (Jvm.Cond.code ({ cls := "java/lang/Object", name := "<init>", desc := "()V" } : Jvm.MethodName) object_method_1_code (1 : Nat) (Option.none : Option Jvm.ClassFile.FieldType)).before args0 about1 = true := code_word (m := ⟨0, 0⟩) (meth := k0m0) (c := k0c0) (by decide +kernel) rfl rfl rfl (by decide +kernel)
set_option maxRecDepth 65536 in
theorem w_c4 : (Jvm.Cond.code ({ cls := "com/example/meterline/meterline/Answer", name := "status", desc := "()I" } : Jvm.MethodName) prog_1_method_6_code (1 : Nat) (Option.some Jvm.ClassFile.FieldType.int)).before args0 about1 = true := code_word (m := ⟨2, 2⟩) (meth := k2m2) (c := k2c2) (by decide +kernel) rfl rfl rfl (by decide +kernel)
set_option maxRecDepth 65536 in
theorem w_c5 : (Jvm.Cond.code ({ cls := "com/example/meterline/meterline/Answer", name := "error", desc := "()Ljava/lang/String;" } : Jvm.MethodName) prog_1_method_9_code (1 : Nat) (Option.some (Jvm.ClassFile.FieldType.object "java/lang/String"))).before args0 about1 = true := code_word (m := ⟨2, 5⟩) (meth := k2m5) (c := k2c5) (by decide +kernel) rfl rfl rfl (by decide +kernel)
set_option maxRecDepth 65536 in
theorem w_c6 : (Jvm.Cond.code ({ cls := "com/example/meterline/meterline/Answer", name := "size", desc := "()I" } : Jvm.MethodName) prog_1_method_8_code (1 : Nat) (Option.some Jvm.ClassFile.FieldType.int)).before args0 about1 = true := code_word (m := ⟨2, 4⟩) (meth := k2m4) (c := k2c4) (by decide +kernel) rfl rfl rfl (by decide +kernel)
set_option maxRecDepth 65536 in
theorem w_c7 : (Jvm.Cond.code ({ cls := "com/example/meterline/meterline/Answer", name := "body", desc := "()[B" } : Jvm.MethodName) prog_1_method_7_code (1 : Nat) (Option.some (Jvm.ClassFile.FieldType.array Jvm.ClassFile.FieldType.byte))).before args0 about1 = true := code_word (m := ⟨2, 3⟩) (meth := k2m3) (c := k2c3) (by decide +kernel) rfl rfl rfl (by decide +kernel)
def codes1 : List Jvm.Cond := [Jvm.Cond.code x code maxLocals ret, Jvm.Cond.code ({ cls := "com/example/meterline/meterline/Answer", name := "of", desc := "(I[B)Lcom/example/meterline/meterline/Answer;" } : Jvm.MethodName) prog_1_method_2_code (2 : Nat) (Option.some (Jvm.ClassFile.FieldType.object "com/example/meterline/meterline/Answer")), Jvm.Cond.code ({ cls := "com/example/meterline/meterline/Answer", name := "<init>", desc := "(I[BLjava/lang/String;)V" } : Jvm.MethodName) prog_1_method_1_code (4 : Nat) (Option.none : Option Jvm.ClassFile.FieldType), Jvm.Cond.code ({ cls := "java/lang/Object", name := "<init>", desc := "()V" } : Jvm.MethodName) object_method_1_code (1 : Nat) (Option.none : Option Jvm.ClassFile.FieldType), Jvm.Cond.code ({ cls := "com/example/meterline/meterline/Answer", name := "status", desc := "()I" } : Jvm.MethodName) prog_1_method_6_code (1 : Nat) (Option.some Jvm.ClassFile.FieldType.int), Jvm.Cond.code ({ cls := "com/example/meterline/meterline/Answer", name := "error", desc := "()Ljava/lang/String;" } : Jvm.MethodName) prog_1_method_9_code (1 : Nat) (Option.some (Jvm.ClassFile.FieldType.object "java/lang/String")), Jvm.Cond.code ({ cls := "com/example/meterline/meterline/Answer", name := "size", desc := "()I" } : Jvm.MethodName) prog_1_method_8_code (1 : Nat) (Option.some Jvm.ClassFile.FieldType.int), Jvm.Cond.code ({ cls := "com/example/meterline/meterline/Answer", name := "body", desc := "()[B" } : Jvm.MethodName) prog_1_method_7_code (1 : Nat) (Option.some (Jvm.ClassFile.FieldType.array Jvm.ClassFile.FieldType.byte))]
set_option maxRecDepth 65536 in
theorem codes_eq : words1.filter isCode = codes1 := rfl
theorem w_codes : ∀ c ∈ words1.filter isCode, c.before args0 about1 = true := by
  rw [codes_eq]
  intro c hc
  simp only [codes1, List.mem_cons, List.not_mem_nil, or_false] at hc
  rcases hc with rfl | rfl | rfl | rfl | rfl | rfl | rfl | rfl
  · exact w_c0
  · exact w_c1
  · exact w_c2
  · exact w_c3
  · exact w_c4
  · exact w_c5
  · exact w_c6
  · exact w_c7
set_option maxRecDepth 65536 in
theorem w_t1 : (words1.take 24).all (fun c => isCode c || c.before args0 about1) = true := by decide +kernel
set_option maxRecDepth 65536 in
theorem w_t2 : ((words1.drop 24).take 24).all (fun c => isCode c || c.before args0 about1) = true := by decide +kernel
set_option maxRecDepth 65536 in
theorem w_t3 : ((words1.drop 24).drop 24).all (fun c => isCode c || c.before args0 about1) = true := by decide +kernel
theorem w_tables : (allAtoms (Jvm.Cond.code x code maxLocals ret :: tables_1)).before args0 about1 = true := by
  rw [allAtoms_all]
  show words1.all (fun c => c.before args0 about1) = true
  refine all_split ?_ w_codes
  rw [← List.take_append_drop 24 words1, List.all_append, w_t1, ← List.take_append_drop 24 (words1.drop 24), List.all_append, w_t2, w_t3]
  rfl
set_option maxRecDepth 65536 in
theorem w_case : (Jvm.Cond.and given_1 narrow_1).before args0 about1 = true := by decide +kernel
theorem w_applies : (headSpec (Jvm.Cond.code x code maxLocals ret :: tables_1) room_1).applies x e0.platform about1 = true :=
  (Spec.applies_iff w_frames).mpr ⟨w_running, w_runnable, w_alone, w_named, w_hears, w_ripe, w_room, w_tables⟩
theorem atStart : AtStart classFile x code maxLocals ret World_1 tables_1 room_1 Calls_1 rest_1 Pre_1 launch0 p0 e0 about1 theMethod args0 below0 :=
  ⟨lists_1, trivial, launch0.admits_env _ _ _, launch0.least_env, fairChoices_fair.cas, fairChoices_fair.clock, w_frames, w_args, w_heap, w_applies, trivial, trivial, w_case⟩
end start1
theorem witness_1 : WitnessClaimed_1 := ⟨start1.p0, start1.e0, start1.about1, start1.theMethod, start1.args0, start1.below0, start1.atStart⟩
end Jvm.Pilot.@@N@@
