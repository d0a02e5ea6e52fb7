import JvmDerived
import JvmDerived.Pilot.@@N@@Statement
import JvmDerived.Pilot.@@N@@Code
set_option linter.unusedVariables false
set_option linter.unusedSimpArgs false
namespace Jvm.Pilot.@@N@@
open Jvm Jvm.ClassFile Sem Op Lib Jvm.Free Jvm.Stand Jvm.LawKit Jvm.RoadKit Bundle Jvm.Pilot.@@N@@.Jvm.D
/-- a boolean as an int -/
def own_b (P : Prop) [Decidable P] : Int32 := if P then 1 else 0
theorem own_b1 {P : Prop} [Decidable P] (h : P) : own_b P = 1 := if_pos h
theorem own_b0 {P : Prop} [Decidable P] (h : ¬ P) : own_b P = 0 := if_neg h
theorem own_b0_eq_f {P : Prop} [Decidable P] (h : P) : ifCond.holds .eq (own_b P) = false := by rw [own_b1 h]; rfl
theorem own_b0_eq_t {P : Prop} [Decidable P] (h : ¬ P) : ifCond.holds .eq (own_b P) = true := by rw [own_b0 h]; rfl
theorem own_b0_ne_t {P : Prop} [Decidable P] (h : P) : ifCond.holds .ne (own_b P) = true := by rw [own_b1 h]; rfl
theorem own_b0_ne_f {P : Prop} [Decidable P] (h : ¬ P) : ifCond.holds .ne (own_b P) = false := by rw [own_b0 h]; rfl
theorem own_bnar (P : Prop) [Decidable P] : nar .boolean (own_b P) = own_b P := by by_cases h : P <;> simp [own_b, h, nar]
theorem own_biff {P Q : Prop} [Decidable P] [Decidable Q] (h : P ↔ Q) : own_b P = own_b Q := by by_cases q : Q <;> simp [own_b, h, q]
/-! own_Go: from T with the frame g on top the method's run comes to an end of which P holds. One rule a plain instruction, so that a walk may fork anywhere. -/
def own_Go (p : Program) (e : Env) (below : List Frame) (P : State → Outcome → Prop) (T : State) (g : JFrame) : Prop :=
  ∃ s₂ o, Steps p.tables e below (T.setTop g) s₂ ∧ s₂.status = .running ∧ Ended s₂ below o ∧ P s₂ o
section OwnGo
variable {p : Program} {l : Launch} {e : Env} {R : Room} {s : State} {m : MethodId} {args : Array Value} {below : List Frame} {meth : Method} {c : Code} {T T' : State} {locs : List Loc} {cells slots : Nat} {P : State → Outcome → Prop} {Ls Ls' : Array Slot} {st : List Value} {pc pc' : Nat} {g g' : JFrame}
theorem own_st (h : ∀ t, Steps p.tables e below (T'.setTop g') t → Steps p.tables e below (T.setTop g) t) (k : own_Go p e below P T' g') : own_Go p e below P T g := by
  obtain ⟨s₂, o, h1, h2⟩ := k; exact ⟨s₂, o, h _ h1, h2⟩
theorem own_tr (h : Steps p.tables e below (T.setTop g) (T'.setTop g')) (k : own_Go p e below P T' g') : own_Go p e below P T g := by
  obtain ⟨s₂, o, h1, h2⟩ := k; exact ⟨s₂, o, h.trans h1, h2⟩
theorem own_aloadN (X : Stand p l e R s m args below meth c T locs cells slots) (hx : p.tables.exec = Jvm.exec) {k : Fin 4} {v : Value} (hd : decode c.code pc = .ok (.aload_n k, 1)) (hp : pc + 1 = pc') (hl : Ls[k.val]? = some (.val v)) (hv : v.isRef = true) (h : own_Go p e below P T (mkF m pc' Ls (v :: st))) : own_Go p e below P T (mkF m pc Ls st) := by
  subst hp; exact own_st (fun t k => XS.aloadN X.here hx rfl hd hl hv k) h
theorem own_aload (X : Stand p l e R s m args below meth c T locs cells slots) (hx : p.tables.exec = Jvm.exec) {k : Nat} {v : Value} (hd : decode c.code pc = .ok (.aload k, 2)) (hp : pc + 2 = pc') (hl : Ls[k]? = some (.val v)) (hv : v.isRef = true) (h : own_Go p e below P T (mkF m pc' Ls (v :: st))) : own_Go p e below P T (mkF m pc Ls st) := by
  subst hp; exact own_st (fun t k => XS.aload X.here hx rfl hd hl hv k) h
theorem own_iloadN (X : Stand p l e R s m args below meth c T locs cells slots) (hx : p.tables.exec = Jvm.exec) {k : Fin 4} {v : Int32} (hd : decode c.code pc = .ok (.iload_n k, 1)) (hp : pc + 1 = pc') (hl : Ls[k.val]? = some (.val (.int v))) (h : own_Go p e below P T (mkF m pc' Ls (.int v :: st))) : own_Go p e below P T (mkF m pc Ls st) := by
  subst hp; exact own_st (fun t k => XS.iloadN X.here hx rfl hd hl k) h
theorem own_iload (X : Stand p l e R s m args below meth c T locs cells slots) (hx : p.tables.exec = Jvm.exec) {k : Nat} {v : Int32} (hd : decode c.code pc = .ok (.iload k, 2)) (hp : pc + 2 = pc') (hl : Ls[k]? = some (.val (.int v))) (h : own_Go p e below P T (mkF m pc' Ls (.int v :: st))) : own_Go p e below P T (mkF m pc Ls st) := by
  subst hp; exact own_st (fun t k => XS.iload X.here hx rfl hd hl k) h
theorem own_lloadN (X : Stand p l e R s m args below meth c T locs cells slots) (hx : p.tables.exec = Jvm.exec) {k : Fin 4} {v : Int64} (hd : decode c.code pc = .ok (.lload_n k, 1)) (hp : pc + 1 = pc') (hl : Ls[k.val]? = some (.val (.long v))) (h : own_Go p e below P T (mkF m pc' Ls (.long v :: st))) : own_Go p e below P T (mkF m pc Ls st) := by
  subst hp; exact own_st (fun t k => XT.lloadN X.here hx rfl hd hl k) h
theorem own_lload (X : Stand p l e R s m args below meth c T locs cells slots) (hx : p.tables.exec = Jvm.exec) {k : Nat} {v : Int64} (hd : decode c.code pc = .ok (.lload k, 2)) (hp : pc + 2 = pc') (hl : Ls[k]? = some (.val (.long v))) (h : own_Go p e below P T (mkF m pc' Ls (.long v :: st))) : own_Go p e below P T (mkF m pc Ls st) := by
  subst hp; exact own_st (fun t k => XT.lload X.here hx rfl hd hl k) h
theorem own_iconst (X : Stand p l e R s m args below meth c T locs cells slots) (hx : p.tables.exec = Jvm.exec) {i : Int} (v : Int32) (hd : decode c.code pc = .ok (.iconst i, 1)) (hp : pc + 1 = pc') (hv : Int32.ofInt i = v) (h : own_Go p e below P T (mkF m pc' Ls (.int v :: st))) : own_Go p e below P T (mkF m pc Ls st) := by
  subst hp hv; exact own_st (fun t k => XS.iconst X.here hx rfl hd k) h
theorem own_bipush (X : Stand p l e R s m args below meth c T locs cells slots) (hx : p.tables.exec = Jvm.exec) {i : Int} (v : Int32) (hd : decode c.code pc = .ok (.bipush i, 2)) (hp : pc + 2 = pc') (hv : (Int8.ofInt i).toInt32 = v) (h : own_Go p e below P T (mkF m pc' Ls (.int v :: st))) : own_Go p e below P T (mkF m pc Ls st) := by
  subst hp hv; exact own_st (fun t k => XS.bipush X.here hx rfl hd k) h
theorem own_sipush (X : Stand p l e R s m args below meth c T locs cells slots) (hx : p.tables.exec = Jvm.exec) {i : Int} (v : Int32) (hd : decode c.code pc = .ok (.sipush i, 3)) (hp : pc + 3 = pc') (hv : (Int16.ofInt i).toInt32 = v) (h : own_Go p e below P T (mkF m pc' Ls (.int v :: st))) : own_Go p e below P T (mkF m pc Ls st) := by
  subst hp hv; exact own_st (fun t k => XS.sipush X.here hx rfl hd k) h
theorem own_lconst (X : Stand p l e R s m args below meth c T locs cells slots) (hx : p.tables.exec = Jvm.exec) {i : Fin 2} (v : Int64) (hd : decode c.code pc = .ok (.lconst i, 1)) (hp : pc + 1 = pc') (hv : Int64.ofNat i = v) (h : own_Go p e below P T (mkF m pc' Ls (.long v :: st))) : own_Go p e below P T (mkF m pc Ls st) := by
  subst hp hv; exact own_st (fun t k => XT.lconst X.here hx rfl hd k) h
theorem own_ldcI (X : Stand p l e R s m args below meth c T locs cells slots) (hx : p.tables.exec = Jvm.exec) {own : String} {index : Nat} {v : Int32} (hown : s.vm.findClass own = some m.cls) (hc : (Cond.constant own index v).before args s = true) (hd : decode c.code pc = .ok (.ldc index, 2)) (hp : pc + 2 = pc') (h : own_Go p e below P T (mkF m pc' Ls (.int v :: st))) : own_Go p e below P T (mkF m pc Ls st) := by
  subst hp; exact own_st (fun t k => X.ldcI hx hown hc rfl hd k) h
theorem own_ldcJ (X : Stand p l e R s m args below meth c T locs cells slots) (hx : p.tables.exec = Jvm.exec) {own : String} {index : Nat} {v : Int64} (hown : s.vm.findClass own = some m.cls) (hc : (Cond.constantLong own index v).before args s = true) (hd : decode c.code pc = .ok (.ldc2_w index, 3)) (hp : pc + 3 = pc') (h : own_Go p e below P T (mkF m pc' Ls (.long v :: st))) : own_Go p e below P T (mkF m pc Ls st) := by
  subst hp; exact own_st (fun t k => X.ldc2J hx hown hc rfl hd k) h
theorem own_null (X : Stand p l e R s m args below meth c T locs cells slots) (hx : p.tables.exec = Jvm.exec) (hd : decode c.code pc = .ok (.aconst_null, 1)) (hp : pc + 1 = pc') (h : own_Go p e below P T (mkF m pc' Ls (.null :: st))) : own_Go p e below P T (mkF m pc Ls st) := by
  subst hp; exact own_st (fun t k => XS.aconstNull X.here hx rfl hd k) h
theorem own_iadd (X : Stand p l e R s m args below meth c T locs cells slots) (hx : p.tables.exec = Jvm.exec) {x y : Int32} (hd : decode c.code pc = .ok (.iadd, 1)) (hp : pc + 1 = pc') (h : own_Go p e below P T (mkF m pc' Ls (.int (x + y) :: st))) : own_Go p e below P T (mkF m pc Ls (.int y :: .int x :: st)) := by
  subst hp; exact own_st (fun t k => XS.iadd X.here hx rfl hd rfl k) h
theorem own_isub (X : Stand p l e R s m args below meth c T locs cells slots) (hx : p.tables.exec = Jvm.exec) {x y : Int32} (hd : decode c.code pc = .ok (.isub, 1)) (hp : pc + 1 = pc') (h : own_Go p e below P T (mkF m pc' Ls (.int (x - y) :: st))) : own_Go p e below P T (mkF m pc Ls (.int y :: .int x :: st)) := by
  subst hp; exact own_st (fun t k => XS.isub X.here hx rfl hd rfl k) h
theorem own_iand (X : Stand p l e R s m args below meth c T locs cells slots) (hx : p.tables.exec = Jvm.exec) {x y : Int32} (hd : decode c.code pc = .ok (.iand, 1)) (hp : pc + 1 = pc') (h : own_Go p e below P T (mkF m pc' Ls (.int (x &&& y) :: st))) : own_Go p e below P T (mkF m pc Ls (.int y :: .int x :: st)) := by
  subst hp; exact own_st (fun t k => XS.iand X.here hx rfl hd rfl k) h
theorem own_imul (X : Stand p l e R s m args below meth c T locs cells slots) (hx : p.tables.exec = Jvm.exec) {x y : Int32} (hd : decode c.code pc = .ok (.imul, 1)) (hp : pc + 1 = pc') (h : own_Go p e below P T (mkF m pc' Ls (.int (x * y) :: st))) : own_Go p e below P T (mkF m pc Ls (.int y :: .int x :: st)) := by
  subst hp; exact own_st (fun t k => XS.imul X.here hx rfl hd rfl k) h
theorem own_irem (X : Stand p l e R s m args below meth c T locs cells slots) (hx : p.tables.exec = Jvm.exec) {x y : Int32} (hd : decode c.code pc = .ok (.irem, 1)) (hp : pc + 1 = pc') (hy : y ≠ 0) (h : own_Go p e below P T (mkF m pc' Ls (.int (x % y) :: st))) : own_Go p e below P T (mkF m pc Ls (.int y :: .int x :: st)) := by
  subst hp; exact own_st (fun t k => iremM X hx rfl hd rfl hy k) h
theorem own_ishr (X : Stand p l e R s m args below meth c T locs cells slots) (hx : p.tables.exec = Jvm.exec) {x y : Int32} (hd : decode c.code pc = .ok (.ishr, 1)) (hp : pc + 1 = pc') (h : own_Go p e below P T (mkF m pc' Ls (.int (x >>> (y &&& 31)) :: st))) : own_Go p e below P T (mkF m pc Ls (.int y :: .int x :: st)) := by
  subst hp; exact own_st (fun t k => XT.ishr X.here hx rfl hd rfl k) h
theorem own_iushr (X : Stand p l e R s m args below meth c T locs cells slots) (hx : p.tables.exec = Jvm.exec) {x y : Int32} (hd : decode c.code pc = .ok (.iushr, 1)) (hp : pc + 1 = pc') (h : own_Go p e below P T (mkF m pc' Ls (.int (XT.ushr x y) :: st))) : own_Go p e below P T (mkF m pc Ls (.int y :: .int x :: st)) := by
  subst hp; exact own_st (fun t k => XT.iushr X.here hx rfl hd rfl k) h
theorem own_i2b (X : Stand p l e R s m args below meth c T locs cells slots) (hx : p.tables.exec = Jvm.exec) {x : Int32} (hd : decode c.code pc = .ok (.i2b, 1)) (hp : pc + 1 = pc') (h : own_Go p e below P T (mkF m pc' Ls (.int (nar .byte x) :: st))) : own_Go p e below P T (mkF m pc Ls (.int x :: st)) := by
  subst hp; exact own_st (fun t k => XT.i2b X.here hx rfl hd rfl k) h
theorem own_i2c (X : Stand p l e R s m args below meth c T locs cells slots) (hx : p.tables.exec = Jvm.exec) {x : Int32} (hd : decode c.code pc = .ok (.i2c, 1)) (hp : pc + 1 = pc') (h : own_Go p e below P T (mkF m pc' Ls (.int (nar .char x) :: st))) : own_Go p e below P T (mkF m pc Ls (.int x :: st)) := by
  subst hp; exact own_st (fun t k => XT.i2c X.here hx rfl hd rfl k) h
theorem own_i2l (X : Stand p l e R s m args below meth c T locs cells slots) (hx : p.tables.exec = Jvm.exec) {x : Int32} (hd : decode c.code pc = .ok (.i2l, 1)) (hp : pc + 1 = pc') (h : own_Go p e below P T (mkF m pc' Ls (.long x.toInt64 :: st))) : own_Go p e below P T (mkF m pc Ls (.int x :: st)) := by
  subst hp; exact own_st (fun t k => XT.i2l X.here hx rfl hd rfl k) h
theorem own_l2i (X : Stand p l e R s m args below meth c T locs cells slots) (hx : p.tables.exec = Jvm.exec) {x : Int64} (hd : decode c.code pc = .ok (.l2i, 1)) (hp : pc + 1 = pc') (h : own_Go p e below P T (mkF m pc' Ls (.int x.toInt32 :: st))) : own_Go p e below P T (mkF m pc Ls (.long x :: st)) := by
  subst hp; exact own_st (fun t k => XT.l2i X.here hx rfl hd rfl k) h
theorem own_lushr (X : Stand p l e R s m args below meth c T locs cells slots) (hx : p.tables.exec = Jvm.exec) {x : Int64} {y : Int32} (hd : decode c.code pc = .ok (.lushr, 1)) (hp : pc + 1 = pc') (h : own_Go p e below P T (mkF m pc' Ls (.long (XT.ushrL x y) :: st))) : own_Go p e below P T (mkF m pc Ls (.int y :: .long x :: st)) := by
  subst hp; exact own_st (fun t k => XT.lushr X.here hx rfl hd rfl k) h
theorem own_lcmp (X : Stand p l e R s m args below meth c T locs cells slots) (hx : p.tables.exec = Jvm.exec) {x y : Int64} (hd : decode c.code pc = .ok (.lcmp, 1)) (hp : pc + 1 = pc') (h : own_Go p e below P T (mkF m pc' Ls (.int (XT.cmpL x y) :: st))) : own_Go p e below P T (mkF m pc Ls (.long y :: .long x :: st)) := by
  subst hp; exact own_st (fun t k => XT.lcmp X.here hx rfl hd rfl k) h
theorem own_dup (X : Stand p l e R s m args below meth c T locs cells slots) (hx : p.tables.exec = Jvm.exec) {x : Value} (hd : decode c.code pc = .ok (.dup, 1)) (hp : pc + 1 = pc') (hc : x.category = 1) (h : own_Go p e below P T (mkF m pc' Ls (x :: x :: st))) : own_Go p e below P T (mkF m pc Ls (x :: st)) := by
  subst hp; exact own_st (fun t k => XS.dup X.here hx rfl hd rfl hc k) h
theorem own_dupX1 (X : Stand p l e R s m args below meth c T locs cells slots) (hx : p.tables.exec = Jvm.exec) {x y : Value} (hd : decode c.code pc = .ok (.dup_x1, 1)) (hp : pc + 1 = pc') (hc : x.category = 1) (hc' : y.category = 1) (h : own_Go p e below P T (mkF m pc' Ls (x :: y :: x :: st))) : own_Go p e below P T (mkF m pc Ls (x :: y :: st)) := by
  subst hp; exact own_st (fun t k => XT.dupX1 X.here hx rfl hd rfl hc hc' k) h
theorem own_pop (X : Stand p l e R s m args below meth c T locs cells slots) (hx : p.tables.exec = Jvm.exec) {x : Value} (hd : decode c.code pc = .ok (.pop, 1)) (hp : pc + 1 = pc') (hc : x.category = 1) (h : own_Go p e below P T (mkF m pc' Ls st)) : own_Go p e below P T (mkF m pc Ls (x :: st)) := by
  subst hp; exact own_st (fun t k => XT.pop X.here hx rfl hd rfl hc k) h
theorem own_istoreN (X : Stand p l e R s m args below meth c T locs cells slots) (hx : p.tables.exec = Jvm.exec) {k : Fin 4} {x : Int32} (hd : decode c.code pc = .ok (.istore_n k, 1)) (hp : pc + 1 = pc') (hl : storeLocals Ls k.val (.int x) = some Ls') (h : own_Go p e below P T (mkF m pc' Ls' st)) : own_Go p e below P T (mkF m pc Ls (.int x :: st)) := by
  subst hp; exact own_st (fun t k => XS.istoreN X.here hx rfl hd rfl hl k) h
theorem own_istore (X : Stand p l e R s m args below meth c T locs cells slots) (hx : p.tables.exec = Jvm.exec) {k : Nat} {x : Int32} (hd : decode c.code pc = .ok (.istore k, 2)) (hp : pc + 2 = pc') (hl : storeLocals Ls k (.int x) = some Ls') (h : own_Go p e below P T (mkF m pc' Ls' st)) : own_Go p e below P T (mkF m pc Ls (.int x :: st)) := by
  subst hp; exact own_st (fun t k => XS.istore X.here hx rfl hd rfl hl k) h
theorem own_lstoreN (X : Stand p l e R s m args below meth c T locs cells slots) (hx : p.tables.exec = Jvm.exec) {k : Fin 4} {x : Int64} (hd : decode c.code pc = .ok (.lstore_n k, 1)) (hp : pc + 1 = pc') (hl : storeLocals Ls k.val (.long x) = some Ls') (h : own_Go p e below P T (mkF m pc' Ls' st)) : own_Go p e below P T (mkF m pc Ls (.long x :: st)) := by
  subst hp; exact own_st (fun t k => XT.lstoreN X.here hx rfl hd rfl hl k) h
theorem own_lstore (X : Stand p l e R s m args below meth c T locs cells slots) (hx : p.tables.exec = Jvm.exec) {k : Nat} {x : Int64} (hd : decode c.code pc = .ok (.lstore k, 2)) (hp : pc + 2 = pc') (hl : storeLocals Ls k (.long x) = some Ls') (h : own_Go p e below P T (mkF m pc' Ls' st)) : own_Go p e below P T (mkF m pc Ls (.long x :: st)) := by
  subst hp; exact own_st (fun t k => XT.lstore X.here hx rfl hd rfl hl k) h
theorem own_astoreN (X : Stand p l e R s m args below meth c T locs cells slots) (hx : p.tables.exec = Jvm.exec) {k : Fin 4} {x : Value} (hd : decode c.code pc = .ok (.astore_n k, 1)) (hp : pc + 1 = pc') (hv : x.isRef = true) (hl : storeLocals Ls k.val x = some Ls') (h : own_Go p e below P T (mkF m pc' Ls' st)) : own_Go p e below P T (mkF m pc Ls (x :: st)) := by
  subst hp; exact own_st (fun t k => XS.astoreN X.here hx rfl hd rfl hv hl k) h
theorem own_astore (X : Stand p l e R s m args below meth c T locs cells slots) (hx : p.tables.exec = Jvm.exec) {k : Nat} {x : Value} (hd : decode c.code pc = .ok (.astore k, 2)) (hp : pc + 2 = pc') (hv : x.isRef = true) (hl : storeLocals Ls k x = some Ls') (h : own_Go p e below P T (mkF m pc' Ls' st)) : own_Go p e below P T (mkF m pc Ls (x :: st)) := by
  subst hp; exact own_st (fun t k => XS.astore X.here hx rfl hd rfl hv hl k) h
theorem own_goto (X : Stand p l e R s m args below meth c T locs cells slots) (hx : p.tables.exec = Jvm.exec) {o : Int} (hd : decode c.code pc = .ok (.goto o, 3)) (ho : 0 ≤ (pc : Int) + o) (hp : ((pc : Int) + o).toNat = pc') (h : own_Go p e below P T (mkF m pc' Ls st)) : own_Go p e below P T (mkF m pc Ls st) := by
  exact own_st (fun t k => XS.goto X.here hx rfl (pc0 := pc) rfl hd ho hp k) h
theorem own_ifY (X : Stand p l e R s m args below meth c T locs cells slots) (hx : p.tables.exec = Jvm.exec) {cd : ClassFile.Cond} {x : Int32} {o : Int} (hd : decode c.code pc = .ok (.ifCond cd o, 3)) (hc : ifCond.holds cd x = true) (ho : 0 ≤ (pc : Int) + o) (hp : ((pc : Int) + o).toNat = pc') (h : own_Go p e below P T (mkF m pc' Ls st)) : own_Go p e below P T (mkF m pc Ls (.int x :: st)) := by
  exact own_st (fun t k => XS.ifYes X.here hx rfl (pc0 := pc) rfl hd rfl hc ho hp k) h
theorem own_ifN (X : Stand p l e R s m args below meth c T locs cells slots) (hx : p.tables.exec = Jvm.exec) {cd : ClassFile.Cond} {x : Int32} {o : Int} (hd : decode c.code pc = .ok (.ifCond cd o, 3)) (hc : ifCond.holds cd x = false) (hp : pc + 3 = pc') (h : own_Go p e below P T (mkF m pc' Ls st)) : own_Go p e below P T (mkF m pc Ls (.int x :: st)) := by
  subst hp; exact own_st (fun t k => XS.ifNo X.here hx rfl hd rfl hc k) h
theorem own_icmpY (X : Stand p l e R s m args below meth c T locs cells slots) (hx : p.tables.exec = Jvm.exec) {cd : ClassFile.Cond} {x y : Int32} {o : Int} (hd : decode c.code pc = .ok (.if_icmp cd o, 3)) (hc : if_icmp.holds cd x y = true) (ho : 0 ≤ (pc : Int) + o) (hp : ((pc : Int) + o).toNat = pc') (h : own_Go p e below P T (mkF m pc' Ls st)) : own_Go p e below P T (mkF m pc Ls (.int y :: .int x :: st)) := by
  exact own_st (fun t k => XS.icmpYes X.here hx rfl (pc0 := pc) rfl hd rfl hc ho hp k) h
theorem own_icmpN (X : Stand p l e R s m args below meth c T locs cells slots) (hx : p.tables.exec = Jvm.exec) {cd : ClassFile.Cond} {x y : Int32} {o : Int} (hd : decode c.code pc = .ok (.if_icmp cd o, 3)) (hc : if_icmp.holds cd x y = false) (hp : pc + 3 = pc') (h : own_Go p e below P T (mkF m pc' Ls st)) : own_Go p e below P T (mkF m pc Ls (.int y :: .int x :: st)) := by
  subst hp; exact own_st (fun t k => XS.icmpNo X.here hx rfl hd rfl hc k) h
theorem own_ifnullY (X : Stand p l e R s m args below meth c T locs cells slots) (hx : p.tables.exec = Jvm.exec) {o : Int} (hd : decode c.code pc = .ok (.ifnull o, 3)) (ho : 0 ≤ (pc : Int) + o) (hp : ((pc : Int) + o).toNat = pc') (h : own_Go p e below P T (mkF m pc' Ls st)) : own_Go p e below P T (mkF m pc Ls (.null :: st)) := by
  exact own_st (fun t k => XS.ifnullYes X.here hx rfl (pc0 := pc) rfl hd rfl ho hp k) h
theorem own_ifnullN (X : Stand p l e R s m args below meth c T locs cells slots) (hx : p.tables.exec = Jvm.exec) {a : Addr} {o : Int} (hd : decode c.code pc = .ok (.ifnull o, 3)) (hp : pc + 3 = pc') (h : own_Go p e below P T (mkF m pc' Ls st)) : own_Go p e below P T (mkF m pc Ls (.ref a :: st)) := by
  subst hp; exact own_st (fun t k => XS.ifnullNo X.here hx rfl hd rfl k) h
theorem own_ifnonnullY (X : Stand p l e R s m args below meth c T locs cells slots) (hx : p.tables.exec = Jvm.exec) {a : Addr} {o : Int} (hd : decode c.code pc = .ok (.ifnonnull o, 3)) (ho : 0 ≤ (pc : Int) + o) (hp : ((pc : Int) + o).toNat = pc') (h : own_Go p e below P T (mkF m pc' Ls st)) : own_Go p e below P T (mkF m pc Ls (.ref a :: st)) := by
  exact own_st (fun t k => XT.ifnonnullYes X.here hx rfl (pc0 := pc) rfl hd rfl ho hp k) h
theorem own_ifnonnullN (X : Stand p l e R s m args below meth c T locs cells slots) (hx : p.tables.exec = Jvm.exec) {o : Int} (hd : decode c.code pc = .ok (.ifnonnull o, 3)) (hp : pc + 3 = pc') (h : own_Go p e below P T (mkF m pc' Ls st)) : own_Go p e below P T (mkF m pc Ls (.null :: st)) := by
  subst hp; exact own_st (fun t k => XT.ifnonnullNo X.here hx rfl hd rfl k) h
theorem own_acmpY (X : Stand p l e R s m args below meth c T locs cells slots) (hx : p.tables.exec = Jvm.exec) {cd : ACond} {x y : Value} {o : Int} (h1 : x.isRef = true) (h2 : y.isRef = true) (hd : decode c.code pc = .ok (.if_acmp cd o, 3)) (hc : XT.acmp cd x y = true) (ho : 0 ≤ (pc : Int) + o) (hp : ((pc : Int) + o).toNat = pc') (h : own_Go p e below P T (mkF m pc' Ls st)) : own_Go p e below P T (mkF m pc Ls (y :: x :: st)) := by
  exact own_st (fun t k => XT.acmpYes X.here hx rfl (pc0 := pc) rfl hd rfl h1 h2 hc ho hp k) h
theorem own_acmpN (X : Stand p l e R s m args below meth c T locs cells slots) (hx : p.tables.exec = Jvm.exec) {cd : ACond} {x y : Value} {o : Int} (h1 : x.isRef = true) (h2 : y.isRef = true) (hd : decode c.code pc = .ok (.if_acmp cd o, 3)) (hc : XT.acmp cd x y = false) (hp : pc + 3 = pc') (h : own_Go p e below P T (mkF m pc' Ls st)) : own_Go p e below P T (mkF m pc Ls (y :: x :: st)) := by
  subst hp; exact own_st (fun t k => XT.acmpNo X.here hx rfl hd rfl h1 h2 hc k) h
theorem own_cut (h1 : own_Go p e below P T g' → own_Go p e below P T g) (h2 : own_Go p e below P T g') : own_Go p e below P T g := h1 h2
theorem own_iinc (X : Stand p l e R s m args below meth c T locs cells slots) (hx : p.tables.exec = Jvm.exec) {k : Nat} {cst : Int} {x : Int32} (v : Int32) (hd : decode c.code pc = .ok (.iinc k cst, 3)) (hp : pc + 3 = pc') (hl : Ls[k]? = some (.val (.int x))) (hv : x + Int32.ofInt cst = v) (hs : storeLocals Ls k (.int v) = some Ls') (h : own_Go p e below P T (mkF m pc' Ls' st)) : own_Go p e below P T (mkF m pc Ls st) := by
  subst hp hv; exact own_st (fun t k => XS.iinc X.here hx rfl hd hl hs k) h
abbrev own_End (s : State) (Q : Option Value → Heap → List Loc → Prop) (k n : Nat) : State → Outcome → Prop := fun u o => ∃ v L, o = .returned v ∧ Q v u.heap L ∧ FrameEnd s o u L k n
variable {Q : Option Value → Heap → List Loc → Prop} {ck sn : Nat}
theorem own_retZ (X : Stand p l e R s m args below meth c T locs cells slots) (hx : p.tables.exec = Jvm.exec) (hk : meth.locks = false) {t : FieldType} (hret : meth.sig.returnType = some t) (ht : t = .boolean ∨ t = .byte ∨ t = .char ∨ t = .short) {z : Int32} (hd : decode c.code pc = .ok (.ireturn, 1)) (hc : cells ≤ ck) (hs : slots ≤ sn) (hQ : Q (some (.int (nar t z))) T.heap locs) :
    own_Go p e below (own_End s Q ck sn) T (mkF m pc Ls (.int z :: st)) := by
  obtain ⟨fs, hr, hrun, hended, hW, hsame⟩ := X.leave (v := some (.int (nar t z))) (fun h => by rw [hret] at h; cases h) hk
  exact ⟨_, _, retN X hx hret ht hd hr, hrun, hended, _, _, rfl, hQ, ⟨_, rfl⟩, hW, hsame.mono hc hs⟩
theorem own_retI (X : Stand p l e R s m args below meth c T locs cells slots) (hx : p.tables.exec = Jvm.exec) (hk : meth.locks = false) (hret : meth.sig.returnType = some .int) {z : Int32} (hd : decode c.code pc = .ok (.ireturn, 1)) (hc : cells ≤ ck) (hs : slots ≤ sn) (hQ : Q (some (.int z)) T.heap locs) :
    own_Go p e below (own_End s Q ck sn) T (mkF m pc Ls (.int z :: st)) := by
  obtain ⟨fs, hr, hrun, hended, hW, hsame⟩ := X.leave (v := some (.int z)) (fun h => by rw [hret] at h; cases h) hk
  exact ⟨_, _, retOut X hx hret rfl (Or.inl ⟨rfl, Or.inl rfl, z, rfl⟩) hd hr, hrun, hended, _, _, rfl, hQ, ⟨_, rfl⟩, hW, hsame.mono hc hs⟩
theorem own_retL (X : Stand p l e R s m args below meth c T locs cells slots) (hx : p.tables.exec = Jvm.exec) (hk : meth.locks = false) (hret : meth.sig.returnType = some .long) {z : Int64} (hd : decode c.code pc = .ok (.lreturn, 1)) (hc : cells ≤ ck) (hs : slots ≤ sn) (hQ : Q (some (.long z)) T.heap locs) :
    own_Go p e below (own_End s Q ck sn) T (mkF m pc Ls (.long z :: st)) := by
  obtain ⟨fs, hr, hrun, hended, hW, hsame⟩ := X.leave (v := some (.long z)) (fun h => by rw [hret] at h; cases h) hk
  exact ⟨_, _, retOut X hx hret rfl (Or.inr (Or.inl ⟨rfl, rfl, z, rfl⟩)) hd hr, hrun, hended, _, _, rfl, hQ, ⟨_, rfl⟩, hW, hsame.mono hc hs⟩
theorem own_narR {t : FieldType} {w : Value} (ht : t.isReference = true) (hw : w.isRef = true) : narrow t w = w := by
  rcases ref_cases hw with rfl | ⟨a, rfl⟩ <;> cases t <;> first | rfl | (cases ht; done)
theorem own_retA (X : Stand p l e R s m args below meth c T locs cells slots) (hx : p.tables.exec = Jvm.exec) (hk : meth.locks = false) {t : FieldType} (hret : meth.sig.returnType = some t) (ht : t.isReference = true) {w : Value} (hw : w.isRef = true) (hd : decode c.code pc = .ok (.areturn, 1)) (hc : cells ≤ ck) (hs : slots ≤ sn) (hQ : Q (some w) T.heap locs) :
    own_Go p e below (own_End s Q ck sn) T (mkF m pc Ls (w :: st)) := by
  obtain ⟨fs, hr, hrun, hended, hW, hsame⟩ := X.leave (v := some w) (fun h => by rw [hret] at h; cases h) hk
  exact ⟨_, _, retOut X hx hret (own_narR ht hw) (Or.inr (Or.inr (Or.inr (Or.inr ⟨rfl, ht, hw⟩)))) hd hr, hrun, hended, _, _, rfl, hQ, ⟨_, rfl⟩, hW, hsame.mono hc hs⟩
theorem own_retV (X : Stand p l e R s m args below meth c T locs cells slots) (hx : p.tables.exec = Jvm.exec) (hk : meth.locks = false) (hret : meth.sig.returnType = none) (hd : decode c.code pc = .ok (.return_, 1)) (hc : cells ≤ ck) (hs : slots ≤ sn) (hQ : Q none T.heap locs) :
    own_Go p e below (own_End s Q ck sn) T (mkF m pc Ls []) := by
  obtain ⟨fs, hr, hrun, hended, hW, hsame⟩ := X.leave (v := none) (fun _ => rfl) hk
  exact ⟨_, _, X.returnOut hx hret hd hr, hrun, hended, _, _, rfl, hQ, ⟨_, rfl⟩, hW, hsame.mono hc hs⟩
end OwnGo
theorem d2_0 : decode jdk_30_method_1_code 0 = .ok (.aload_n 0, 1) := by decide +kernel
theorem d2_1 : decode jdk_30_method_1_code 1 = .ok (.invokespecial 1, 3) := by decide +kernel
theorem d2_4 : decode jdk_30_method_1_code 4 = .ok (.return_, 1) := by decide +kernel
theorem pn2 : plainFor (⟨"java/lang/Record", "<init>", "()V"⟩ : MethodName) = true := by first | exact plainFor_of_name (by first | (simp [plainName, overriddenIn]; done) | decide +kernel) | decide +kernel
theorem ef2 (m : MethodId) (a1 : Addr) : entryFrame m #[(.ref a1)] 1 = mkF m 0 #[.val (.ref a1)] [] := by first | (simp [entryFrame, mkF, argsToLocals, Value.category]; done) | rfl
def Q2 (Z : State) (a1 : Addr) (h0 : Heap) (n0 : Nat) (v : Option Value) (h : Heap) (L : List Loc) : Prop := v = none ∧ Fr n0 L ∧ h = h0
set_option maxRecDepth 65536 in
set_option maxHeartbeats 40000000 in
theorem rm2 (l : Launch) (Z : State) (a0 : Array Value) (hw : ∀ d ∈ tables_1, d.before a0 Z = true) (ws : List Jvm.Cond) (a1 : Addr) (h0 : Heap) (n0 : Nat) (Z0 : n0 ≤ h0.size) :
    MetFree l (⟨"java/lang/Record", "<init>", "()V"⟩ : MethodName) (head1 (Jvm.Cond.code (⟨"java/lang/Record", "<init>", "()V"⟩ : MethodName) jdk_30_method_1_code 1 none :: ws) ({ frames := 1, cells := 0, slots := 0, locals := 12 } : Room)) (fun a U => a = #[(.ref a1)] ∧ Z.Warmed39 U.vm ∧ U.heap = h0) (fun _ _ _ _ _ => True) (fun _ U o U' => ∃ v L, o = .returned v ∧ Q2 Z a1 h0 n0 v U'.heap L ∧ FrameEnd U o U' L ({ frames := 1, cells := 0, slots := 0, locals := 12 } : Room).cells ({ frames := 1, cells := 0, slots := 0, locals := 12 } : Room).slots) := by
  refine MetFree.of_bodySF pn2 hisR ?_
  intro p e s m args below meth c s₁ Bd hml0 hP hK
  obtain ⟨rfl, hZ, hh⟩ := hP
  have hx := Bd.exec
  have hby := Bd.bytes
  have hlk : meth.locks = false := BodyLoose.notSynchronized Bd
  have hml : c.maxLocals = 1 := hml0
  have hown : s.vm.findClass "java/lang/Record" = some m.cls := findClass_of_methodNamed Bd.named
  have hnm := (name_of_methodNamed Bd.named Bd.method).1
  have X0 : Stand p l e ({ frames := 1, cells := 0, slots := 0, locals := 12 } : Room) s m #[(.ref a1)] below meth c s₁ [] 0 0 := Stand.of_body Bd
  have e0 : s₁.heap = h0 := by rw [← hh, Bd.state]; rfl
  have N0 := Fr.nil n0
  rw [ef2 m a1]
  show own_Go p e below (own_End s (Q2 Z a1 h0 n0) ({ frames := 1, cells := 0, slots := 0, locals := 12 } : Room).cells ({ frames := 1, cells := 0, slots := 0, locals := 12 } : Room).slots) s₁ (mkF m 0 #[.val (.ref a1)] [])
  refine own_aloadN X0 hx (hb hby d2_0) (pc' := 1) rfl rfl rfl ?_
  obtain ⟨T_1, X_1, e_1, st_1⟩ := initO X0 hx hZ hown (hw _ (List.mem_of_getElem? (i := 11) rfl)) (hw _ (List.mem_of_getElem? (i := 12) rfl)) (hw _ (List.mem_of_getElem? (i := 13) rfl)) e0 (g := (mkF m 1 #[.val (.ref a1)] [(.ref a1)])) rfl (by rw [hml]; rfl) rfl (hb hby d2_1) (by decide) (W := 0) (by show 2 * 0 + _ ≤ _; exact Nat.le_of_eq rfl) (by decide)
  refine own_st st_1 ?_
  show own_Go p e below _ T_1 (mkF m 4 #[.val (.ref a1)] [])
  refine own_retV X_1 hx hlk Bd.returns (hb hby d2_4) (by decide) (by decide) ?_
  rw [e_1]
  exact ⟨rfl, N0, rfl⟩
theorem d1_0 : decode prog_28_method_1_code 0 = .ok (.aload_n 0, 1) := by decide +kernel
theorem d1_1 : decode prog_28_method_1_code 1 = .ok (.invokespecial 1, 3) := by decide +kernel
theorem d1_4 : decode prog_28_method_1_code 4 = .ok (.aload_n 0, 1) := by decide +kernel
theorem d1_5 : decode prog_28_method_1_code 5 = .ok (.iload_n 1, 1) := by decide +kernel
theorem d1_6 : decode prog_28_method_1_code 6 = .ok (.putfield 7, 3) := by decide +kernel
theorem d1_9 : decode prog_28_method_1_code 9 = .ok (.aload_n 0, 1) := by decide +kernel
theorem d1_10 : decode prog_28_method_1_code 10 = .ok (.iload_n 2, 1) := by decide +kernel
theorem d1_11 : decode prog_28_method_1_code 11 = .ok (.putfield 13, 3) := by decide +kernel
theorem d1_14 : decode prog_28_method_1_code 14 = .ok (.aload_n 0, 1) := by decide +kernel
theorem d1_15 : decode prog_28_method_1_code 15 = .ok (.iload_n 3, 1) := by decide +kernel
theorem d1_16 : decode prog_28_method_1_code 16 = .ok (.putfield 16, 3) := by decide +kernel
theorem d1_19 : decode prog_28_method_1_code 19 = .ok (.return_, 1) := by decide +kernel
theorem pd1_0 : parseMethodDescriptor "()V" = some ⟨[], none⟩ := by decide +kernel
theorem pn1 : plainFor (⟨"com/example/steer/steer/service/Retries$Body", "<init>", "(ZZZ)V"⟩ : MethodName) = true := by first | exact plainFor_of_name (by first | (simp [plainName, overriddenIn]; done) | decide +kernel) | decide +kernel
theorem ef1 (m : MethodId) (a1 : Addr) (p2 : Int32) (p3 : Int32) (p4 : Int32) : entryFrame m #[(.ref a1), (.int p2), (.int p3), (.int p4)] 4 = mkF m 0 #[.val (.ref a1), .val (.int p2), .val (.int p3), .val (.int p4)] [] := by first | (simp [entryFrame, mkF, argsToLocals, Value.category]; done) | rfl
def Q1 (Z : State) (a1 : Addr) (p2 : Int32) (p3 : Int32) (p4 : Int32) (h0 : Heap) (n0 : Nat) (v : Option Value) (h : Heap) (L : List Loc) : Prop := v = none ∧ Fr n0 L ∧ Keep h0 h [a1] ∧ Fld Z h a1 "com/example/steer/steer/service/Retries$Body" "sent" "Z" (.int p2) ∧ Fld Z h a1 "com/example/steer/steer/service/Retries$Body" "ended" "Z" (.int p3) ∧ Fld Z h a1 "com/example/steer/steer/service/Retries$Body" "kept" "Z" (.int p4)
set_option maxRecDepth 65536 in
set_option maxHeartbeats 40000000 in
theorem rm1 (l : Launch) (Z : State) (a0 : Array Value) (hw : ∀ d ∈ tables_1, d.before a0 Z = true) (ws : List Jvm.Cond) (a1 : Addr) (p2 : Int32) (p3 : Int32) (p4 : Int32) (h0 : Heap) (n0 : Nat) (Z0 : n0 ≤ h0.size) (A_a : Exa Z h0 a1 "com/example/steer/steer/service/Retries$Body") (F_sent : Fld Z h0 a1 "com/example/steer/steer/service/Retries$Body" "sent" "Z" (.int (0 : Int32))) (F_ended : Fld Z h0 a1 "com/example/steer/steer/service/Retries$Body" "ended" "Z" (.int (0 : Int32))) (F_kept : Fld Z h0 a1 "com/example/steer/steer/service/Retries$Body" "kept" "Z" (.int (0 : Int32))) (ga : n0 ≤ a1) (nrp2 : narrow .boolean (.int p2) = .int p2) (nrp3 : narrow .boolean (.int p3) = .int p3) (nrp4 : narrow .boolean (.int p4) = .int p4) (ftp2 : fits .boolean (.int p2) = true) (ftp3 : fits .boolean (.int p3) = true) (ftp4 : fits .boolean (.int p4) = true) :
    MetFree l (⟨"com/example/steer/steer/service/Retries$Body", "<init>", "(ZZZ)V"⟩ : MethodName) (head1 (Jvm.Cond.code (⟨"com/example/steer/steer/service/Retries$Body", "<init>", "(ZZZ)V"⟩ : MethodName) prog_28_method_1_code 4 none :: ws) ({ frames := 2, cells := 0, slots := 0, locals := 24 } : Room)) (fun a U => a = #[(.ref a1), (.int p2), (.int p3), (.int p4)] ∧ Z.Warmed39 U.vm ∧ U.heap = h0) (fun _ _ _ _ _ => True) (fun _ U o U' => ∃ v L, o = .returned v ∧ Q1 Z a1 p2 p3 p4 h0 n0 v U'.heap L ∧ FrameEnd U o U' L ({ frames := 2, cells := 0, slots := 0, locals := 24 } : Room).cells ({ frames := 2, cells := 0, slots := 0, locals := 24 } : Room).slots) := by
  refine MetFree.of_bodySF pn1 hisR ?_
  intro p e s m args below meth c s₁ Bd hml0 hP hK
  obtain ⟨rfl, hZ, hh⟩ := hP
  have hx := Bd.exec
  have hby := Bd.bytes
  have hlk : meth.locks = false := BodyLoose.notSynchronized Bd
  have hml : c.maxLocals = 4 := hml0
  have hown : s.vm.findClass "com/example/steer/steer/service/Retries$Body" = some m.cls := findClass_of_methodNamed Bd.named
  have hnm := (name_of_methodNamed Bd.named Bd.method).1
  have X0 : Stand p l e ({ frames := 2, cells := 0, slots := 0, locals := 24 } : Room) s m #[(.ref a1), (.int p2), (.int p3), (.int p4)] below meth c s₁ [] 0 0 := Stand.of_body Bd
  have e0 : s₁.heap = h0 := by rw [← hh, Bd.state]; rfl
  have N0 := Fr.nil n0
  have K0 : Keep h0 h0 [a1] := Keep.refl _ _
  rw [ef1 m a1 p2 p3 p4]
  show own_Go p e below (own_End s (Q1 Z a1 p2 p3 p4 h0 n0) ({ frames := 2, cells := 0, slots := 0, locals := 24 } : Room).cells ({ frames := 2, cells := 0, slots := 0, locals := 24 } : Room).slots) s₁ (mkF m 0 #[.val (.ref a1), .val (.int p2), .val (.int p3), .val (.int p4)] [])
  refine own_aloadN X0 hx (hb hby d1_0) (pc' := 1) rfl rfl rfl ?_
  obtain ⟨_, _, ⟨T_1, L_1, k_1, n_1⟩, -, X_1, ⟨Lc_1, hQ_1, l_1, y_1, z_1⟩, st_1⟩ := X0.specialBack hx  (y := (⟨"java/lang/Record", "<init>", "()V"⟩ : MethodName)) rfl hown (mvT hZ (hw _ (List.mem_of_getElem? (i := 6) rfl))) (mvT hZ (hw _ (List.mem_of_getElem? (i := 7) rfl))) (mvT hZ (hw _ (List.mem_of_getElem? (i := 10) rfl))) (by decide) (backOf (W := 0) (rm2 l Z a0 hw [] a1 h0 n0 Z0) hZ (hw _ (List.mem_of_getElem? (i := 10) rfl)) (hw _ (List.mem_of_getElem? (i := 9) rfl)) (by decide) (by decide)) (g := (mkF m 1 #[.val (.ref a1), .val (.int p2), .val (.int p3), .val (.int p4)] [(.ref a1)])) rfl (by rw [hml]; rfl) (Steps.refl _) (a := a1) (argsL := []) (rest := []) (lenOf pd1_0 rfl) rfl (by show 2 * 0 + _ ≤ _; exact Nat.le_of_eq rfl) (hb hby d1_1) (fun _ _ => ⟨rfl, e0, (by decide : 0 + 0 ≤ _), (by decide : 0 + 0 ≤ _)⟩)
  dsimp only [Pt.U, Pt.locs, Pt.cells, Pt.slots] at X_1 l_1 y_1 z_1 st_1 hQ_1
  subst l_1 y_1 z_1
  refine own_tr st_1 ?_
  obtain ⟨rfl, Nq_1, eq_1⟩ := hQ_1
  have N_1 := Fr.app N0 Nq_1
  show own_Go p e below _ T_1 (mkF m 4 #[.val (.ref a1), .val (.int p2), .val (.int p3), .val (.int p4)] [])
  refine own_aloadN X_1 hx (hb hby d1_4) (pc' := 5) rfl rfl rfl ?_
  refine own_iloadN X_1 hx (hb hby d1_5) (pc' := 6) rfl rfl ?_
  obtain ⟨T_2, h_2, X_2, e_2, W_2, st_2⟩ := putF X_1 hx hZ hown (host := "") (Or.inl (hw _ (List.mem_of_getElem? (i := 14) rfl))) Via.refl eq_1 F_sent A_a (Or.inr ⟨(hw _ (List.mem_of_getElem? (i := 15) rfl)), rfl, hnm⟩) (hw _ (List.mem_of_getElem? (i := 1) rfl)) (ty := .boolean) (by decide) nrp2 ftp2 (g := (mkF m 6 #[.val (.ref a1), .val (.int p2), .val (.int p3), .val (.int p4)] [(.int p2), (.ref a1)])) rfl rfl (hb hby d1_6)
  have F_3 : Fld Z h_2 a1 "com/example/steer/steer/service/Retries$Body" "sent" "Z" (.int p2) := F_sent.same W_2
  have A_5 : Exa Z h_2 a1 "com/example/steer/steer/service/Retries$Body" := A_a.wr W_2
  have F_6 : Fld Z h_2 a1 "com/example/steer/steer/service/Retries$Body" "ended" "Z" (.int (0 : Int32)) := F_ended.other W_2 (Or.inr (RoadKit.slot_ne (Or.inr (hw _ (List.mem_of_getElem? (i := 17) rfl))) (Or.inr (hw _ (List.mem_of_getElem? (i := 15) rfl))) (by decide) (t := .boolean) (t' := .boolean) (by decide) (by decide)))
  have F_7 : Fld Z h_2 a1 "com/example/steer/steer/service/Retries$Body" "kept" "Z" (.int (0 : Int32)) := F_kept.other W_2 (Or.inr (RoadKit.slot_ne (Or.inr (hw _ (List.mem_of_getElem? (i := 19) rfl))) (Or.inr (hw _ (List.mem_of_getElem? (i := 15) rfl))) (by decide) (t := .boolean) (t' := .boolean) (by decide) (by decide)))
  have Z_4 : n0 ≤ h_2.size := by rw [W_2.size]; exact Z0
  have K_4 : Keep h0 h_2 [a1] := K0.wr W_2 (Or.inl (List.mem_of_getElem? (i := 0) rfl))
  have N_2 := Fr.snoc X_2 N_1 ga
  refine own_st st_2 ?_
  show own_Go p e below _ T_2 (mkF m 9 #[.val (.ref a1), .val (.int p2), .val (.int p3), .val (.int p4)] [])
  refine own_aloadN X_2 hx (hb hby d1_9) (pc' := 10) rfl rfl rfl ?_
  refine own_iloadN X_2 hx (hb hby d1_10) (pc' := 11) rfl rfl ?_
  obtain ⟨T_8, h_8, X_8, e_8, W_8, st_8⟩ := putF X_2 hx hZ hown (host := "") (Or.inl (hw _ (List.mem_of_getElem? (i := 16) rfl))) Via.refl e_2 F_6 A_5 (Or.inr ⟨(hw _ (List.mem_of_getElem? (i := 17) rfl)), rfl, hnm⟩) (hw _ (List.mem_of_getElem? (i := 1) rfl)) (ty := .boolean) (by decide) nrp3 ftp3 (g := (mkF m 11 #[.val (.ref a1), .val (.int p2), .val (.int p3), .val (.int p4)] [(.int p3), (.ref a1)])) rfl rfl (hb hby d1_11)
  have F_9 : Fld Z h_8 a1 "com/example/steer/steer/service/Retries$Body" "ended" "Z" (.int p3) := F_6.same W_8
  have F_11 : Fld Z h_8 a1 "com/example/steer/steer/service/Retries$Body" "sent" "Z" (.int p2) := F_3.other W_8 (Or.inr (RoadKit.slot_ne (Or.inr (hw _ (List.mem_of_getElem? (i := 15) rfl))) (Or.inr (hw _ (List.mem_of_getElem? (i := 17) rfl))) (by decide) (t := .boolean) (t' := .boolean) (by decide) (by decide)))
  have A_12 : Exa Z h_8 a1 "com/example/steer/steer/service/Retries$Body" := A_5.wr W_8
  have F_13 : Fld Z h_8 a1 "com/example/steer/steer/service/Retries$Body" "kept" "Z" (.int (0 : Int32)) := F_7.other W_8 (Or.inr (RoadKit.slot_ne (Or.inr (hw _ (List.mem_of_getElem? (i := 19) rfl))) (Or.inr (hw _ (List.mem_of_getElem? (i := 17) rfl))) (by decide) (t := .boolean) (t' := .boolean) (by decide) (by decide)))
  have Z_10 : n0 ≤ h_8.size := by rw [W_8.size]; exact Z_4
  have K_10 : Keep h0 h_8 [a1] := K_4.wr W_8 (Or.inl (List.mem_of_getElem? (i := 0) rfl))
  have N_8 := Fr.snoc X_8 N_2 ga
  refine own_st st_8 ?_
  show own_Go p e below _ T_8 (mkF m 14 #[.val (.ref a1), .val (.int p2), .val (.int p3), .val (.int p4)] [])
  refine own_aloadN X_8 hx (hb hby d1_14) (pc' := 15) rfl rfl rfl ?_
  refine own_iloadN X_8 hx (hb hby d1_15) (pc' := 16) rfl rfl ?_
  obtain ⟨T_14, h_14, X_14, e_14, W_14, st_14⟩ := putF X_8 hx hZ hown (host := "") (Or.inl (hw _ (List.mem_of_getElem? (i := 18) rfl))) Via.refl e_8 F_13 A_12 (Or.inr ⟨(hw _ (List.mem_of_getElem? (i := 19) rfl)), rfl, hnm⟩) (hw _ (List.mem_of_getElem? (i := 1) rfl)) (ty := .boolean) (by decide) nrp4 ftp4 (g := (mkF m 16 #[.val (.ref a1), .val (.int p2), .val (.int p3), .val (.int p4)] [(.int p4), (.ref a1)])) rfl rfl (hb hby d1_16)
  have F_15 : Fld Z h_14 a1 "com/example/steer/steer/service/Retries$Body" "kept" "Z" (.int p4) := F_13.same W_14
  have F_17 : Fld Z h_14 a1 "com/example/steer/steer/service/Retries$Body" "ended" "Z" (.int p3) := F_9.other W_14 (Or.inr (RoadKit.slot_ne (Or.inr (hw _ (List.mem_of_getElem? (i := 17) rfl))) (Or.inr (hw _ (List.mem_of_getElem? (i := 19) rfl))) (by decide) (t := .boolean) (t' := .boolean) (by decide) (by decide)))
  have F_18 : Fld Z h_14 a1 "com/example/steer/steer/service/Retries$Body" "sent" "Z" (.int p2) := F_11.other W_14 (Or.inr (RoadKit.slot_ne (Or.inr (hw _ (List.mem_of_getElem? (i := 15) rfl))) (Or.inr (hw _ (List.mem_of_getElem? (i := 19) rfl))) (by decide) (t := .boolean) (t' := .boolean) (by decide) (by decide)))
  have A_19 : Exa Z h_14 a1 "com/example/steer/steer/service/Retries$Body" := A_12.wr W_14
  have Z_16 : n0 ≤ h_14.size := by rw [W_14.size]; exact Z_10
  have K_16 : Keep h0 h_14 [a1] := K_10.wr W_14 (Or.inl (List.mem_of_getElem? (i := 0) rfl))
  have N_14 := Fr.snoc X_14 N_8 ga
  refine own_st st_14 ?_
  show own_Go p e below _ T_14 (mkF m 19 #[.val (.ref a1), .val (.int p2), .val (.int p3), .val (.int p4)] [])
  refine own_retV X_14 hx hlk Bd.returns (hb hby d1_19) (by decide) (by decide) ?_
  rw [e_14]
  exact ⟨rfl, N_14, K_16, F_18, F_17, F_15⟩
theorem d4_0 : decode prog_28_method_2_code 0 = .ok (.aload_n 0, 1) := by decide +kernel
theorem d4_1 : decode prog_28_method_2_code 1 = .ok (.getfield 7, 3) := by decide +kernel
theorem d4_4 : decode prog_28_method_2_code 4 = .ok (.ifCond .eq 17, 3) := by decide +kernel
theorem d4_21 : decode prog_28_method_2_code 21 = .ok (.iconst 1, 1) := by decide +kernel
theorem d4_22 : decode prog_28_method_2_code 22 = .ok (.goto 4, 3) := by decide +kernel
theorem d4_26 : decode prog_28_method_2_code 26 = .ok (.ireturn, 1) := by decide +kernel
theorem d4_7 : decode prog_28_method_2_code 7 = .ok (.aload_n 0, 1) := by decide +kernel
theorem d4_8 : decode prog_28_method_2_code 8 = .ok (.getfield 13, 3) := by decide +kernel
theorem d4_11 : decode prog_28_method_2_code 11 = .ok (.ifCond .eq 14, 3) := by decide +kernel
theorem d4_25 : decode prog_28_method_2_code 25 = .ok (.iconst 0, 1) := by decide +kernel
theorem d4_14 : decode prog_28_method_2_code 14 = .ok (.aload_n 0, 1) := by decide +kernel
theorem d4_15 : decode prog_28_method_2_code 15 = .ok (.getfield 16, 3) := by decide +kernel
theorem d4_18 : decode prog_28_method_2_code 18 = .ok (.ifCond .eq 7, 3) := by decide +kernel
theorem pn4 : plainFor (⟨"com/example/steer/steer/service/Retries$Body", "atHand", "()Z"⟩ : MethodName) = true := by first | exact plainFor_of_name (by first | (simp [plainName, overriddenIn]; done) | decide +kernel) | decide +kernel
theorem ef4 (m : MethodId) (a1 : Addr) : entryFrame m #[(.ref a1)] 1 = mkF m 0 #[.val (.ref a1)] [] := by first | (simp [entryFrame, mkF, argsToLocals, Value.category]; done) | rfl
def Q4 (Z : State) (a1 : Addr) (p2 : Int32) (p3 : Int32) (p4 : Int32) (h0 : Heap) (n0 : Nat) (v : Option Value) (h : Heap) (L : List Loc) : Prop := v = some (.int (own_b (p2 = 0 ∨ ¬ p3 = 0 ∧ ¬ p4 = 0))) ∧ Fr n0 L ∧ h = h0
set_option maxRecDepth 65536 in
set_option maxHeartbeats 40000000 in
theorem rm4 (l : Launch) (Z : State) (a0 : Array Value) (hw : ∀ d ∈ tables_1, d.before a0 Z = true) (ws : List Jvm.Cond) (a1 : Addr) (p2 : Int32) (p3 : Int32) (p4 : Int32) (h0 : Heap) (n0 : Nat) (Z0 : n0 ≤ h0.size) (F_sent : Fld Z h0 a1 "com/example/steer/steer/service/Retries$Body" "sent" "Z" (.int p2)) (F_ended : Fld Z h0 a1 "com/example/steer/steer/service/Retries$Body" "ended" "Z" (.int p3)) (F_kept : Fld Z h0 a1 "com/example/steer/steer/service/Retries$Body" "kept" "Z" (.int p4)) :
    MetFree l (⟨"com/example/steer/steer/service/Retries$Body", "atHand", "()Z"⟩ : MethodName) (head1 (Jvm.Cond.code (⟨"com/example/steer/steer/service/Retries$Body", "atHand", "()Z"⟩ : MethodName) prog_28_method_2_code 1 (some .boolean) :: ws) ({ frames := 0, cells := 0, slots := 0, locals := 0 } : Room)) (fun a U => a = #[(.ref a1)] ∧ Z.Warmed39 U.vm ∧ U.heap = h0) (fun _ _ _ _ _ => True) (fun _ U o U' => ∃ v L, o = .returned v ∧ Q4 Z a1 p2 p3 p4 h0 n0 v U'.heap L ∧ FrameEnd U o U' L ({ frames := 0, cells := 0, slots := 0, locals := 0 } : Room).cells ({ frames := 0, cells := 0, slots := 0, locals := 0 } : Room).slots) := by
  refine MetFree.of_bodySF pn4 hisR ?_
  intro p e s m args below meth c s₁ Bd hml0 hP hK
  obtain ⟨rfl, hZ, hh⟩ := hP
  have hx := Bd.exec
  have hby := Bd.bytes
  have hlk : meth.locks = false := BodyLoose.notSynchronized Bd
  have hml : c.maxLocals = 1 := hml0
  have hown : s.vm.findClass "com/example/steer/steer/service/Retries$Body" = some m.cls := findClass_of_methodNamed Bd.named
  have hnm := (name_of_methodNamed Bd.named Bd.method).1
  have X0 : Stand p l e ({ frames := 0, cells := 0, slots := 0, locals := 0 } : Room) s m #[(.ref a1)] below meth c s₁ [] 0 0 := Stand.of_body Bd
  have e0 : s₁.heap = h0 := by rw [← hh, Bd.state]; rfl
  have N0 := Fr.nil n0
  rw [ef4 m a1]
  show own_Go p e below (own_End s (Q4 Z a1 p2 p3 p4 h0 n0) ({ frames := 0, cells := 0, slots := 0, locals := 0 } : Room).cells ({ frames := 0, cells := 0, slots := 0, locals := 0 } : Room).slots) s₁ (mkF m 0 #[.val (.ref a1)] [])
  refine own_aloadN X0 hx (hb hby d4_0) (pc' := 1) rfl rfl rfl ?_
  obtain ⟨T_1, X_1, e_1, st_1⟩ := getF X0 hx hZ hown (host := "") (Or.inl (hw _ (List.mem_of_getElem? (i := 14) rfl))) Via.refl e0 F_sent (g := (mkF m 1 #[.val (.ref a1)] [(.ref a1)])) rfl rfl (hb hby d4_1)
  refine own_st st_1 ?_
  show own_Go p e below _ T_1 (mkF m 4 #[.val (.ref a1)] [(.int p2)])
  by_cases c_2 : p2 = (0 : Int32)
  · skip
    refine own_ifY X_1 hx (hb hby d4_4) (XT.i0_eq_t c_2) (pc' := 21) (by decide) (by decide) ?_
    refine own_iconst X_1 hx (1) (hb hby d4_21) (pc' := 22) rfl rfl ?_
    refine own_goto X_1 hx (hb hby d4_22) (pc' := 26) (by decide) (by decide) ?_
    refine own_retZ X_1 hx hlk Bd.returns (by simp) (hb hby d4_26) (by decide) (by decide) ?_
    rw [e_1]
    exact ⟨by simp [own_b, nar, c_2], N0, rfl⟩
  · skip
    refine own_ifN X_1 hx (hb hby d4_4) (XT.i0_eq_f c_2) (pc' := 7) rfl ?_
    refine own_aloadN X_1 hx (hb hby d4_7) (pc' := 8) rfl rfl rfl ?_
    obtain ⟨T_3, X_3, e_3, st_3⟩ := getF X_1 hx hZ hown (host := "") (Or.inl (hw _ (List.mem_of_getElem? (i := 16) rfl))) Via.refl e_1 F_ended (g := (mkF m 8 #[.val (.ref a1)] [(.ref a1)])) rfl rfl (hb hby d4_8)
    refine own_st st_3 ?_
    show own_Go p e below _ T_3 (mkF m 11 #[.val (.ref a1)] [(.int p3)])
    by_cases c_4 : p3 = (0 : Int32)
    · skip
      refine own_ifY X_3 hx (hb hby d4_11) (XT.i0_eq_t c_4) (pc' := 25) (by decide) (by decide) ?_
      refine own_iconst X_3 hx (0) (hb hby d4_25) (pc' := 26) rfl rfl ?_
      refine own_retZ X_3 hx hlk Bd.returns (by simp) (hb hby d4_26) (by decide) (by decide) ?_
      rw [e_3]
      exact ⟨by simp [own_b, nar, c_2, c_4], N0, rfl⟩
    · skip
      refine own_ifN X_3 hx (hb hby d4_11) (XT.i0_eq_f c_4) (pc' := 14) rfl ?_
      refine own_aloadN X_3 hx (hb hby d4_14) (pc' := 15) rfl rfl rfl ?_
      obtain ⟨T_5, X_5, e_5, st_5⟩ := getF X_3 hx hZ hown (host := "") (Or.inl (hw _ (List.mem_of_getElem? (i := 18) rfl))) Via.refl e_3 F_kept (g := (mkF m 15 #[.val (.ref a1)] [(.ref a1)])) rfl rfl (hb hby d4_15)
      refine own_st st_5 ?_
      show own_Go p e below _ T_5 (mkF m 18 #[.val (.ref a1)] [(.int p4)])
      by_cases c_6 : p4 = (0 : Int32)
      · skip
        refine own_ifY X_5 hx (hb hby d4_18) (XT.i0_eq_t c_6) (pc' := 25) (by decide) (by decide) ?_
        refine own_iconst X_5 hx (0) (hb hby d4_25) (pc' := 26) rfl rfl ?_
        refine own_retZ X_5 hx hlk Bd.returns (by simp) (hb hby d4_26) (by decide) (by decide) ?_
        rw [e_5]
        exact ⟨by simp [own_b, nar, c_2, c_4, c_6], N0, rfl⟩
      · skip
        refine own_ifN X_5 hx (hb hby d4_18) (XT.i0_eq_f c_6) (pc' := 21) rfl ?_
        refine own_iconst X_5 hx (1) (hb hby d4_21) (pc' := 22) rfl rfl ?_
        refine own_goto X_5 hx (hb hby d4_22) (pc' := 26) (by decide) (by decide) ?_
        refine own_retZ X_5 hx hlk Bd.returns (by simp) (hb hby d4_26) (by decide) (by decide) ?_
        rw [e_5]
        exact ⟨by simp [own_b, nar, c_2, c_4, c_6], N0, rfl⟩
theorem pd0_0 : parseMethodDescriptor "(ZZZ)V" = some ⟨[.boolean, .boolean, .boolean], none⟩ := by decide +kernel
theorem pd0_1 : parseMethodDescriptor "()Z" = some ⟨[], some .boolean⟩ := by decide +kernel
theorem pn0 : plainFor x = true := by first | exact plainFor_of_name (by first | (simp [plainName, overriddenIn]; done) | decide +kernel) | decide +kernel
theorem ef0 (m : MethodId) (x0 : Int32) (x1 : Int32) (x2 : Int32) : entryFrame m #[(.int x0), (.int x1), (.int x2)] maxLocals = mkF m 0 #[.val (.int x0), .val (.int x1), .val (.int x2), .unset, .unset, .unset, .unset, .unset, .unset] [] := by first | (simp [entryFrame, mkF, argsToLocals, Value.category, maxLocals]; done) | rfl
def Q0 (Z : State) (x0 : Int32) (x1 : Int32) (x2 : Int32) (h0 : Heap) (n0 : Nat) (v : Option Value) (h : Heap) (L : List Loc) : Prop := v = some (.int 1) ∧ Fr n0 L
set_option maxRecDepth 65536 in
set_option maxHeartbeats 40000000 in
theorem rm0 (l : Launch) (Z : State) (a0 : Array Value) (hw : ∀ d ∈ tables_1, d.before a0 Z = true) (ws : List Jvm.Cond) (x0 : Int32) (x1 : Int32) (x2 : Int32) (h0 : Heap) (n0 : Nat) (Z0 : n0 ≤ h0.size) :
    MetFree l x (head1 (Jvm.Cond.code x code maxLocals ret :: ws) room_1) (fun a U => a = #[(.int x0), (.int x1), (.int x2)] ∧ Z.Warmed39 U.vm ∧ U.heap = h0) (fun _ _ _ _ _ => True) (fun _ U o U' => ∃ v L, o = .returned v ∧ Q0 Z x0 x1 x2 h0 n0 v U'.heap L ∧ FrameEnd U o U' L 1 3) := by
  refine MetFree.of_bodySF pn0 hisR ?_
  intro p e s m args below meth c s₁ Bd hml0 hP hK
  obtain ⟨rfl, hZ, hh⟩ := hP
  have hx := Bd.exec
  have hby := Bd.bytes
  have hlk : meth.locks = false := BodyLoose.notSynchronized Bd
  have hml : c.maxLocals = 9 := hml0
  have hown : s.vm.findClass "com/example/steer/steer/service/BodyAtHandPinLaw" = some m.cls := findClass_of_methodNamed Bd.named
  have hnm := (name_of_methodNamed Bd.named Bd.method).1
  have X0 : Stand p l e room_1 s m #[(.int x0), (.int x1), (.int x2)] below meth c s₁ [] 0 0 := Stand.of_body Bd
  have e0 : s₁.heap = h0 := by rw [← hh, Bd.state]; rfl
  have N0 := Fr.nil n0
  rw [ef0 m x0 x1 x2]
  show own_Go p e below (own_End s (Q0 Z x0 x1 x2 h0 n0) 1 3) s₁ (mkF m 0 #[.val (.int x0), .val (.int x1), .val (.int x2), .unset, .unset, .unset, .unset, .unset, .unset] [])
  refine own_iloadN X0 hx (hb hby at_0) (pc' := 1) rfl rfl ?_
  refine own_iconst X0 hx (1) (hb hby at_1) (pc' := 2) rfl rfl ?_
  refine own_iand X0 hx (hb hby at_2) (pc' := 3) rfl ?_
  by_cases c_1 : (x0 &&& (1 : Int32)) = (0 : Int32)
  · skip
    refine own_ifY X0 hx (hb hby at_3) (XT.i0_eq_t c_1) (pc' := 10) (by decide) (by decide) ?_
    refine own_iconst X0 hx (0) (hb hby at_10) (pc' := 11) rfl rfl ?_
    refine own_istoreN X0 hx (hb hby at_11) (pc' := 12) (Ls' := #[.val (.int x0), .val (.int x1), .val (.int x2), .val (.int (0 : Int32)), .unset, .unset, .unset, .unset, .unset]) rfl rfl ?_
    refine own_iloadN X0 hx (hb hby at_12) (pc' := 13) rfl rfl ?_
    refine own_iconst X0 hx (1) (hb hby at_13) (pc' := 14) rfl rfl ?_
    refine own_iand X0 hx (hb hby at_14) (pc' := 15) rfl ?_
    by_cases c_2 : (x1 &&& (1 : Int32)) = (0 : Int32)
    · skip
      refine own_ifY X0 hx (hb hby at_15) (XT.i0_eq_t c_2) (pc' := 22) (by decide) (by decide) ?_
      refine own_iconst X0 hx (0) (hb hby at_22) (pc' := 23) rfl rfl ?_
      refine own_istore X0 hx (hb hby at_23) (pc' := 25) (Ls' := #[.val (.int x0), .val (.int x1), .val (.int x2), .val (.int (0 : Int32)), .val (.int (0 : Int32)), .unset, .unset, .unset, .unset]) rfl rfl ?_
      refine own_iloadN X0 hx (hb hby at_25) (pc' := 26) rfl rfl ?_
      refine own_iconst X0 hx (1) (hb hby at_26) (pc' := 27) rfl rfl ?_
      refine own_iand X0 hx (hb hby at_27) (pc' := 28) rfl ?_
      by_cases c_3 : (x2 &&& (1 : Int32)) = (0 : Int32)
      · skip
        refine own_ifY X0 hx (hb hby at_28) (XT.i0_eq_t c_3) (pc' := 35) (by decide) (by decide) ?_
        refine own_iconst X0 hx (0) (hb hby at_35) (pc' := 36) rfl rfl ?_
        refine own_istore X0 hx (hb hby at_36) (pc' := 38) (Ls' := #[.val (.int x0), .val (.int x1), .val (.int x2), .val (.int (0 : Int32)), .val (.int (0 : Int32)), .val (.int (0 : Int32)), .unset, .unset, .unset]) rfl rfl ?_
        obtain ⟨T_4, h_4, X_4, e_4, E_4, A_4, D_4, -, st_4⟩ := newO X0 hx hZ hown (hw _ (List.mem_of_getElem? (i := 0) rfl)) (hw _ (List.mem_of_getElem? (i := 1) rfl)) (hw _ (List.mem_of_getElem? (i := 2) rfl)) e0 (g := (mkF m 38 #[.val (.int x0), .val (.int x1), .val (.int x2), .val (.int (0 : Int32)), .val (.int (0 : Int32)), .val (.int (0 : Int32)), .unset, .unset, .unset] [])) rfl (hb hby at_38) (by decide) (by decide)
        obtain ⟨a_4, g_4⟩ : ∃ z, z = h0.size := ⟨_, rfl⟩
        rw [← g_4] at A_4 D_4 st_4
        have ge_4 : n0 ≤ a_4 := Nat.le_trans Z0 (Nat.le_of_eq g_4.symm)
        have Z_5 : n0 ≤ h_4.size := Nat.le_trans Z0 E_4.1
        have F_6 : Fld Z h_4 a_4 "com/example/steer/steer/service/Retries$Body" "sent" "Z" (.int (0 : Int32)) := D_4 (Or.inr (hw _ (List.mem_of_getElem? (i := 15) rfl))) (ty := .boolean) (by decide)
        have F_7 : Fld Z h_4 a_4 "com/example/steer/steer/service/Retries$Body" "ended" "Z" (.int (0 : Int32)) := D_4 (Or.inr (hw _ (List.mem_of_getElem? (i := 17) rfl))) (ty := .boolean) (by decide)
        have F_8 : Fld Z h_4 a_4 "com/example/steer/steer/service/Retries$Body" "kept" "Z" (.int (0 : Int32)) := D_4 (Or.inr (hw _ (List.mem_of_getElem? (i := 19) rfl))) (ty := .boolean) (by decide)
        refine own_st st_4 ?_
        show own_Go p e below _ T_4 (mkF m 41 #[.val (.int x0), .val (.int x1), .val (.int x2), .val (.int (0 : Int32)), .val (.int (0 : Int32)), .val (.int (0 : Int32)), .unset, .unset, .unset] [(.ref a_4)])
        refine own_dup X_4 hx (hb hby at_41) (pc' := 42) rfl rfl ?_
        refine own_iloadN X_4 hx (hb hby at_42) (pc' := 43) rfl rfl ?_
        refine own_iload X_4 hx (hb hby at_43) (pc' := 45) rfl rfl ?_
        refine own_iload X_4 hx (hb hby at_45) (pc' := 47) rfl rfl ?_
        obtain ⟨_, _, ⟨T_9, L_9, k_9, n_9⟩, -, X_9, ⟨Lc_9, hQ_9, l_9, y_9, z_9⟩, st_9⟩ := X_4.specialBack hx  (y := (⟨"com/example/steer/steer/service/Retries$Body", "<init>", "(ZZZ)V"⟩ : MethodName)) rfl hown (mvT hZ (hw _ (List.mem_of_getElem? (i := 3) rfl))) (mvT hZ (hw _ (List.mem_of_getElem? (i := 4) rfl))) (mvT hZ (hw _ (List.mem_of_getElem? (i := 5) rfl))) (by decide) (backOf (W := 1) (rm1 l Z a0 hw [] a_4 (0 : Int32) (0 : Int32) (0 : Int32) h_4 n0 Z_5 A_4 F_6 F_7 F_8 ge_4 rfl rfl rfl rfl rfl rfl) hZ (hw _ (List.mem_of_getElem? (i := 5) rfl)) (hw _ (List.mem_of_getElem? (i := 2) rfl)) (by decide) (by decide)) (g := (mkF m 47 #[.val (.int x0), .val (.int x1), .val (.int x2), .val (.int (0 : Int32)), .val (.int (0 : Int32)), .val (.int (0 : Int32)), .unset, .unset, .unset] [(.int (0 : Int32)), (.int (0 : Int32)), (.int (0 : Int32)), (.ref a_4), (.ref a_4)])) rfl (by rw [hml]; rfl) (Steps.refl _) (a := a_4) (argsL := [(.int (0 : Int32)), (.int (0 : Int32)), (.int (0 : Int32))]) (rest := [(.ref a_4)]) (lenOf pd0_0 rfl) rfl (by show 2 * 0 + _ ≤ _; exact Nat.le_of_eq rfl) (hb hby at_47) (fun _ _ => ⟨rfl, e_4, (by decide : 1 + 0 ≤ _), (by decide : 3 + 0 ≤ _)⟩)
        dsimp only [Pt.U, Pt.locs, Pt.cells, Pt.slots] at X_9 l_9 y_9 z_9 st_9 hQ_9
        subst l_9 y_9 z_9
        refine own_tr st_9 ?_
        obtain ⟨rfl, Nq_9, Kq_9, q0_9, q1_9, q2_9⟩ := hQ_9
        have N_9 := Fr.app N0 Nq_9
        have F_10 : Fld Z T_9.heap a_4 "com/example/steer/steer/service/Retries$Body" "sent" "Z" (.int (0 : Int32)) := q0_9
        have F_11 : Fld Z T_9.heap a_4 "com/example/steer/steer/service/Retries$Body" "ended" "Z" (.int (0 : Int32)) := q1_9
        have F_12 : Fld Z T_9.heap a_4 "com/example/steer/steer/service/Retries$Body" "kept" "Z" (.int (0 : Int32)) := q2_9
        have A_14 : Exa Z T_9.heap a_4 "com/example/steer/steer/service/Retries$Body" := A_4.keep Kq_9
        have Z_13 : n0 ≤ T_9.heap.size := Nat.le_trans Z_5 Kq_9.1
        show own_Go p e below _ T_9 (mkF m 50 #[.val (.int x0), .val (.int x1), .val (.int x2), .val (.int (0 : Int32)), .val (.int (0 : Int32)), .val (.int (0 : Int32)), .unset, .unset, .unset] [(.ref a_4)])
        refine own_astore X_9 hx (hb hby at_50) (pc' := 52) (Ls' := #[.val (.int x0), .val (.int x1), .val (.int x2), .val (.int (0 : Int32)), .val (.int (0 : Int32)), .val (.int (0 : Int32)), .val (.ref a_4), .unset, .unset]) rfl rfl rfl ?_
        refine own_iloadN X_9 hx (hb hby at_52) (pc' := 53) rfl rfl ?_
        refine own_ifY X_9 hx (hb hby at_53) (by decide) (pc' := 60) (by decide) (by decide) ?_
        refine own_iconst X_9 hx (0) (hb hby at_60) (pc' := 61) rfl rfl ?_
        refine own_iload X_9 hx (hb hby at_61) (pc' := 63) rfl rfl ?_
        refine own_ifY X_9 hx (hb hby at_63) (by decide) (pc' := 70) (by decide) (by decide) ?_
        refine own_iconst X_9 hx (0) (hb hby at_70) (pc' := 71) rfl rfl ?_
        refine own_iadd X_9 hx (hb hby at_71) (pc' := 72) rfl ?_
        rw [show ((0 : Int32) + (0 : Int32)) = (0 : Int32) from by decide]
        refine own_iload X_9 hx (hb hby at_72) (pc' := 74) rfl rfl ?_
        refine own_ifY X_9 hx (hb hby at_74) (by decide) (pc' := 81) (by decide) (by decide) ?_
        refine own_iconst X_9 hx (0) (hb hby at_81) (pc' := 82) rfl rfl ?_
        refine own_iadd X_9 hx (hb hby at_82) (pc' := 83) rfl ?_
        rw [show ((0 : Int32) + (0 : Int32)) = (0 : Int32) from by decide]
        refine own_istore X_9 hx (hb hby at_83) (pc' := 85) (Ls' := #[.val (.int x0), .val (.int x1), .val (.int x2), .val (.int (0 : Int32)), .val (.int (0 : Int32)), .val (.int (0 : Int32)), .val (.ref a_4), .val (.int (0 : Int32)), .unset]) rfl rfl ?_
        refine own_sipush X_9 hx (143) (hb hby at_85) (pc' := 88) rfl (by decide) ?_
        refine own_iload X_9 hx (hb hby at_88) (pc' := 90) rfl rfl ?_
        refine own_ishr X_9 hx (hb hby at_90) (pc' := 91) rfl ?_
        rw [show ((143 : Int32) >>> ((0 : Int32) &&& 31)) = (143 : Int32) from by decide]
        refine own_iconst X_9 hx (1) (hb hby at_91) (pc' := 92) rfl rfl ?_
        refine own_iand X_9 hx (hb hby at_92) (pc' := 93) rfl ?_
        rw [show ((143 : Int32) &&& (1 : Int32)) = (1 : Int32) from by decide]
        refine own_ifN X_9 hx (hb hby at_93) (by decide) (pc' := 96) rfl ?_
        refine own_iconst X_9 hx (1) (hb hby at_96) (pc' := 97) rfl rfl ?_
        refine own_goto X_9 hx (hb hby at_97) (pc' := 101) (by decide) (by decide) ?_
        refine own_istore X_9 hx (hb hby at_101) (pc' := 103) (Ls' := #[.val (.int x0), .val (.int x1), .val (.int x2), .val (.int (0 : Int32)), .val (.int (0 : Int32)), .val (.int (0 : Int32)), .val (.ref a_4), .val (.int (0 : Int32)), .val (.int (1 : Int32))]) rfl rfl ?_
        refine own_aload X_9 hx (hb hby at_103) (pc' := 105) rfl rfl rfl ?_
        obtain ⟨cq_15, kq_15, qa_15, qb_15, qc_15⟩ := isOf hZ rfl A_14
        obtain ⟨_, _, ⟨T_15, L_15, k_15, n_15⟩, -, X_15, ⟨Lc_15, hQ_15, l_15, y_15, z_15⟩, st_15⟩ := X_9.virtualBack hx  (y := (⟨"com/example/steer/steer/service/Retries$Body", "atHand", "()Z"⟩ : MethodName)) (z := (⟨"com/example/steer/steer/service/Retries$Body", "atHand", "()Z"⟩ : MethodName)) hown (mvT hZ (hw _ (List.mem_of_getElem? (i := 20) rfl))) (mvT hZ (hw _ (List.mem_of_getElem? (i := 21) rfl))) (notFace_of_selects (args := #[]) (mvT hZ (hw _ (List.mem_of_getElem? (i := 23) rfl)))) (mvT hZ (hw _ (List.mem_of_getElem? (i := 23) rfl))) (mvT hZ (hw _ (List.mem_of_getElem? (i := 22) rfl))) (by decide) (backOf (W := 0) (rm4 l Z a0 hw [] a_4 (0 : Int32) (0 : Int32) (0 : Int32) T_9.heap n0 Z_13 F_10 F_11 F_12) hZ (hw _ (List.mem_of_getElem? (i := 24) rfl)) (hw _ (List.mem_of_getElem? (i := 2) rfl)) (by decide) (by decide)) qa_15 qc_15 (g := (mkF m 105 #[.val (.int x0), .val (.int x1), .val (.int x2), .val (.int (0 : Int32)), .val (.int (0 : Int32)), .val (.int (0 : Int32)), .val (.ref a_4), .val (.int (0 : Int32)), .val (.int (1 : Int32))] [(.ref a_4)])) rfl (by rw [hml]; rfl) (Steps.refl _) (argsL := []) (rest := []) (lenOf pd0_1 rfl) rfl (by show 2 * 0 + _ ≤ _; exact Nat.le_of_eq rfl) (hb hby at_105) (fun _ _ => ⟨rfl, rfl, (by decide : 1 + 0 ≤ _), (by decide : 3 + 0 ≤ _)⟩)
        dsimp only [Pt.U, Pt.locs, Pt.cells, Pt.slots] at X_15 l_15 y_15 z_15 st_15 hQ_15
        subst l_15 y_15 z_15
        refine own_tr st_15 ?_
        obtain ⟨rfl, Nq_15, eq_15⟩ := hQ_15
        have N_15 := Fr.app N_9 Nq_15
        dsimp only [Option.toList, List.cons_append, List.nil_append]
        rw [show own_b ((0 : Int32) = 0 ∨ ¬ (0 : Int32) = 0 ∧ ¬ (0 : Int32) = 0) = (1 : Int32) from by decide]
        show own_Go p e below _ T_15 (mkF m 108 #[.val (.int x0), .val (.int x1), .val (.int x2), .val (.int (0 : Int32)), .val (.int (0 : Int32)), .val (.int (0 : Int32)), .val (.ref a_4), .val (.int (0 : Int32)), .val (.int (1 : Int32))] [(.int (1 : Int32))])
        refine own_iload X_15 hx (hb hby at_108) (pc' := 110) rfl rfl ?_
        refine own_icmpN X_15 hx (hb hby at_110) (by decide) (pc' := 113) rfl ?_
        refine own_iconst X_15 hx (1) (hb hby at_113) (pc' := 114) rfl rfl ?_
        refine own_goto X_15 hx (hb hby at_114) (pc' := 118) (by decide) (by decide) ?_
        refine own_retZ X_15 hx hlk Bd.returns (by simp) (hb hby at_118) (by decide) (by decide) ?_
        exact ⟨rfl, N_15⟩
      · skip
        refine own_ifN X0 hx (hb hby at_28) (XT.i0_eq_f c_3) (pc' := 31) rfl ?_
        refine own_iconst X0 hx (1) (hb hby at_31) (pc' := 32) rfl rfl ?_
        refine own_goto X0 hx (hb hby at_32) (pc' := 36) (by decide) (by decide) ?_
        refine own_istore X0 hx (hb hby at_36) (pc' := 38) (Ls' := #[.val (.int x0), .val (.int x1), .val (.int x2), .val (.int (0 : Int32)), .val (.int (0 : Int32)), .val (.int (1 : Int32)), .unset, .unset, .unset]) rfl rfl ?_
        obtain ⟨T_16, h_16, X_16, e_16, E_16, A_16, D_16, -, st_16⟩ := newO X0 hx hZ hown (hw _ (List.mem_of_getElem? (i := 0) rfl)) (hw _ (List.mem_of_getElem? (i := 1) rfl)) (hw _ (List.mem_of_getElem? (i := 2) rfl)) e0 (g := (mkF m 38 #[.val (.int x0), .val (.int x1), .val (.int x2), .val (.int (0 : Int32)), .val (.int (0 : Int32)), .val (.int (1 : Int32)), .unset, .unset, .unset] [])) rfl (hb hby at_38) (by decide) (by decide)
        obtain ⟨a_16, g_16⟩ : ∃ z, z = h0.size := ⟨_, rfl⟩
        rw [← g_16] at A_16 D_16 st_16
        have ge_16 : n0 ≤ a_16 := Nat.le_trans Z0 (Nat.le_of_eq g_16.symm)
        have Z_17 : n0 ≤ h_16.size := Nat.le_trans Z0 E_16.1
        have F_18 : Fld Z h_16 a_16 "com/example/steer/steer/service/Retries$Body" "sent" "Z" (.int (0 : Int32)) := D_16 (Or.inr (hw _ (List.mem_of_getElem? (i := 15) rfl))) (ty := .boolean) (by decide)
        have F_19 : Fld Z h_16 a_16 "com/example/steer/steer/service/Retries$Body" "ended" "Z" (.int (0 : Int32)) := D_16 (Or.inr (hw _ (List.mem_of_getElem? (i := 17) rfl))) (ty := .boolean) (by decide)
        have F_20 : Fld Z h_16 a_16 "com/example/steer/steer/service/Retries$Body" "kept" "Z" (.int (0 : Int32)) := D_16 (Or.inr (hw _ (List.mem_of_getElem? (i := 19) rfl))) (ty := .boolean) (by decide)
        refine own_st st_16 ?_
        show own_Go p e below _ T_16 (mkF m 41 #[.val (.int x0), .val (.int x1), .val (.int x2), .val (.int (0 : Int32)), .val (.int (0 : Int32)), .val (.int (1 : Int32)), .unset, .unset, .unset] [(.ref a_16)])
        refine own_dup X_16 hx (hb hby at_41) (pc' := 42) rfl rfl ?_
        refine own_iloadN X_16 hx (hb hby at_42) (pc' := 43) rfl rfl ?_
        refine own_iload X_16 hx (hb hby at_43) (pc' := 45) rfl rfl ?_
        refine own_iload X_16 hx (hb hby at_45) (pc' := 47) rfl rfl ?_
        obtain ⟨_, _, ⟨T_21, L_21, k_21, n_21⟩, -, X_21, ⟨Lc_21, hQ_21, l_21, y_21, z_21⟩, st_21⟩ := X_16.specialBack hx  (y := (⟨"com/example/steer/steer/service/Retries$Body", "<init>", "(ZZZ)V"⟩ : MethodName)) rfl hown (mvT hZ (hw _ (List.mem_of_getElem? (i := 3) rfl))) (mvT hZ (hw _ (List.mem_of_getElem? (i := 4) rfl))) (mvT hZ (hw _ (List.mem_of_getElem? (i := 5) rfl))) (by decide) (backOf (W := 1) (rm1 l Z a0 hw [] a_16 (0 : Int32) (0 : Int32) (1 : Int32) h_16 n0 Z_17 A_16 F_18 F_19 F_20 ge_16 rfl rfl rfl rfl rfl rfl) hZ (hw _ (List.mem_of_getElem? (i := 5) rfl)) (hw _ (List.mem_of_getElem? (i := 2) rfl)) (by decide) (by decide)) (g := (mkF m 47 #[.val (.int x0), .val (.int x1), .val (.int x2), .val (.int (0 : Int32)), .val (.int (0 : Int32)), .val (.int (1 : Int32)), .unset, .unset, .unset] [(.int (1 : Int32)), (.int (0 : Int32)), (.int (0 : Int32)), (.ref a_16), (.ref a_16)])) rfl (by rw [hml]; rfl) (Steps.refl _) (a := a_16) (argsL := [(.int (0 : Int32)), (.int (0 : Int32)), (.int (1 : Int32))]) (rest := [(.ref a_16)]) (lenOf pd0_0 rfl) rfl (by show 2 * 0 + _ ≤ _; exact Nat.le_of_eq rfl) (hb hby at_47) (fun _ _ => ⟨rfl, e_16, (by decide : 1 + 0 ≤ _), (by decide : 3 + 0 ≤ _)⟩)
        dsimp only [Pt.U, Pt.locs, Pt.cells, Pt.slots] at X_21 l_21 y_21 z_21 st_21 hQ_21
        subst l_21 y_21 z_21
        refine own_tr st_21 ?_
        obtain ⟨rfl, Nq_21, Kq_21, q0_21, q1_21, q2_21⟩ := hQ_21
        have N_21 := Fr.app N0 Nq_21
        have F_22 : Fld Z T_21.heap a_16 "com/example/steer/steer/service/Retries$Body" "sent" "Z" (.int (0 : Int32)) := q0_21
        have F_23 : Fld Z T_21.heap a_16 "com/example/steer/steer/service/Retries$Body" "ended" "Z" (.int (0 : Int32)) := q1_21
        have F_24 : Fld Z T_21.heap a_16 "com/example/steer/steer/service/Retries$Body" "kept" "Z" (.int (1 : Int32)) := q2_21
        have A_26 : Exa Z T_21.heap a_16 "com/example/steer/steer/service/Retries$Body" := A_16.keep Kq_21
        have Z_25 : n0 ≤ T_21.heap.size := Nat.le_trans Z_17 Kq_21.1
        show own_Go p e below _ T_21 (mkF m 50 #[.val (.int x0), .val (.int x1), .val (.int x2), .val (.int (0 : Int32)), .val (.int (0 : Int32)), .val (.int (1 : Int32)), .unset, .unset, .unset] [(.ref a_16)])
        refine own_astore X_21 hx (hb hby at_50) (pc' := 52) (Ls' := #[.val (.int x0), .val (.int x1), .val (.int x2), .val (.int (0 : Int32)), .val (.int (0 : Int32)), .val (.int (1 : Int32)), .val (.ref a_16), .unset, .unset]) rfl rfl rfl ?_
        refine own_iloadN X_21 hx (hb hby at_52) (pc' := 53) rfl rfl ?_
        refine own_ifY X_21 hx (hb hby at_53) (by decide) (pc' := 60) (by decide) (by decide) ?_
        refine own_iconst X_21 hx (0) (hb hby at_60) (pc' := 61) rfl rfl ?_
        refine own_iload X_21 hx (hb hby at_61) (pc' := 63) rfl rfl ?_
        refine own_ifY X_21 hx (hb hby at_63) (by decide) (pc' := 70) (by decide) (by decide) ?_
        refine own_iconst X_21 hx (0) (hb hby at_70) (pc' := 71) rfl rfl ?_
        refine own_iadd X_21 hx (hb hby at_71) (pc' := 72) rfl ?_
        rw [show ((0 : Int32) + (0 : Int32)) = (0 : Int32) from by decide]
        refine own_iload X_21 hx (hb hby at_72) (pc' := 74) rfl rfl ?_
        refine own_ifN X_21 hx (hb hby at_74) (by decide) (pc' := 77) rfl ?_
        refine own_iconst X_21 hx (1) (hb hby at_77) (pc' := 78) rfl rfl ?_
        refine own_goto X_21 hx (hb hby at_78) (pc' := 82) (by decide) (by decide) ?_
        refine own_iadd X_21 hx (hb hby at_82) (pc' := 83) rfl ?_
        rw [show ((0 : Int32) + (1 : Int32)) = (1 : Int32) from by decide]
        refine own_istore X_21 hx (hb hby at_83) (pc' := 85) (Ls' := #[.val (.int x0), .val (.int x1), .val (.int x2), .val (.int (0 : Int32)), .val (.int (0 : Int32)), .val (.int (1 : Int32)), .val (.ref a_16), .val (.int (1 : Int32)), .unset]) rfl rfl ?_
        refine own_sipush X_21 hx (143) (hb hby at_85) (pc' := 88) rfl (by decide) ?_
        refine own_iload X_21 hx (hb hby at_88) (pc' := 90) rfl rfl ?_
        refine own_ishr X_21 hx (hb hby at_90) (pc' := 91) rfl ?_
        rw [show ((143 : Int32) >>> ((1 : Int32) &&& 31)) = (71 : Int32) from by decide]
        refine own_iconst X_21 hx (1) (hb hby at_91) (pc' := 92) rfl rfl ?_
        refine own_iand X_21 hx (hb hby at_92) (pc' := 93) rfl ?_
        rw [show ((71 : Int32) &&& (1 : Int32)) = (1 : Int32) from by decide]
        refine own_ifN X_21 hx (hb hby at_93) (by decide) (pc' := 96) rfl ?_
        refine own_iconst X_21 hx (1) (hb hby at_96) (pc' := 97) rfl rfl ?_
        refine own_goto X_21 hx (hb hby at_97) (pc' := 101) (by decide) (by decide) ?_
        refine own_istore X_21 hx (hb hby at_101) (pc' := 103) (Ls' := #[.val (.int x0), .val (.int x1), .val (.int x2), .val (.int (0 : Int32)), .val (.int (0 : Int32)), .val (.int (1 : Int32)), .val (.ref a_16), .val (.int (1 : Int32)), .val (.int (1 : Int32))]) rfl rfl ?_
        refine own_aload X_21 hx (hb hby at_103) (pc' := 105) rfl rfl rfl ?_
        obtain ⟨cq_27, kq_27, qa_27, qb_27, qc_27⟩ := isOf hZ rfl A_26
        obtain ⟨_, _, ⟨T_27, L_27, k_27, n_27⟩, -, X_27, ⟨Lc_27, hQ_27, l_27, y_27, z_27⟩, st_27⟩ := X_21.virtualBack hx  (y := (⟨"com/example/steer/steer/service/Retries$Body", "atHand", "()Z"⟩ : MethodName)) (z := (⟨"com/example/steer/steer/service/Retries$Body", "atHand", "()Z"⟩ : MethodName)) hown (mvT hZ (hw _ (List.mem_of_getElem? (i := 20) rfl))) (mvT hZ (hw _ (List.mem_of_getElem? (i := 21) rfl))) (notFace_of_selects (args := #[]) (mvT hZ (hw _ (List.mem_of_getElem? (i := 23) rfl)))) (mvT hZ (hw _ (List.mem_of_getElem? (i := 23) rfl))) (mvT hZ (hw _ (List.mem_of_getElem? (i := 22) rfl))) (by decide) (backOf (W := 0) (rm4 l Z a0 hw [] a_16 (0 : Int32) (0 : Int32) (1 : Int32) T_21.heap n0 Z_25 F_22 F_23 F_24) hZ (hw _ (List.mem_of_getElem? (i := 24) rfl)) (hw _ (List.mem_of_getElem? (i := 2) rfl)) (by decide) (by decide)) qa_27 qc_27 (g := (mkF m 105 #[.val (.int x0), .val (.int x1), .val (.int x2), .val (.int (0 : Int32)), .val (.int (0 : Int32)), .val (.int (1 : Int32)), .val (.ref a_16), .val (.int (1 : Int32)), .val (.int (1 : Int32))] [(.ref a_16)])) rfl (by rw [hml]; rfl) (Steps.refl _) (argsL := []) (rest := []) (lenOf pd0_1 rfl) rfl (by show 2 * 0 + _ ≤ _; exact Nat.le_of_eq rfl) (hb hby at_105) (fun _ _ => ⟨rfl, rfl, (by decide : 1 + 0 ≤ _), (by decide : 3 + 0 ≤ _)⟩)
        dsimp only [Pt.U, Pt.locs, Pt.cells, Pt.slots] at X_27 l_27 y_27 z_27 st_27 hQ_27
        subst l_27 y_27 z_27
        refine own_tr st_27 ?_
        obtain ⟨rfl, Nq_27, eq_27⟩ := hQ_27
        have N_27 := Fr.app N_21 Nq_27
        dsimp only [Option.toList, List.cons_append, List.nil_append]
        rw [show own_b ((0 : Int32) = 0 ∨ ¬ (0 : Int32) = 0 ∧ ¬ (1 : Int32) = 0) = (1 : Int32) from by decide]
        show own_Go p e below _ T_27 (mkF m 108 #[.val (.int x0), .val (.int x1), .val (.int x2), .val (.int (0 : Int32)), .val (.int (0 : Int32)), .val (.int (1 : Int32)), .val (.ref a_16), .val (.int (1 : Int32)), .val (.int (1 : Int32))] [(.int (1 : Int32))])
        refine own_iload X_27 hx (hb hby at_108) (pc' := 110) rfl rfl ?_
        refine own_icmpN X_27 hx (hb hby at_110) (by decide) (pc' := 113) rfl ?_
        refine own_iconst X_27 hx (1) (hb hby at_113) (pc' := 114) rfl rfl ?_
        refine own_goto X_27 hx (hb hby at_114) (pc' := 118) (by decide) (by decide) ?_
        refine own_retZ X_27 hx hlk Bd.returns (by simp) (hb hby at_118) (by decide) (by decide) ?_
        exact ⟨rfl, N_27⟩
    · skip
      refine own_ifN X0 hx (hb hby at_15) (XT.i0_eq_f c_2) (pc' := 18) rfl ?_
      refine own_iconst X0 hx (1) (hb hby at_18) (pc' := 19) rfl rfl ?_
      refine own_goto X0 hx (hb hby at_19) (pc' := 23) (by decide) (by decide) ?_
      refine own_istore X0 hx (hb hby at_23) (pc' := 25) (Ls' := #[.val (.int x0), .val (.int x1), .val (.int x2), .val (.int (0 : Int32)), .val (.int (1 : Int32)), .unset, .unset, .unset, .unset]) rfl rfl ?_
      refine own_iloadN X0 hx (hb hby at_25) (pc' := 26) rfl rfl ?_
      refine own_iconst X0 hx (1) (hb hby at_26) (pc' := 27) rfl rfl ?_
      refine own_iand X0 hx (hb hby at_27) (pc' := 28) rfl ?_
      by_cases c_28 : (x2 &&& (1 : Int32)) = (0 : Int32)
      · skip
        refine own_ifY X0 hx (hb hby at_28) (XT.i0_eq_t c_28) (pc' := 35) (by decide) (by decide) ?_
        refine own_iconst X0 hx (0) (hb hby at_35) (pc' := 36) rfl rfl ?_
        refine own_istore X0 hx (hb hby at_36) (pc' := 38) (Ls' := #[.val (.int x0), .val (.int x1), .val (.int x2), .val (.int (0 : Int32)), .val (.int (1 : Int32)), .val (.int (0 : Int32)), .unset, .unset, .unset]) rfl rfl ?_
        obtain ⟨T_29, h_29, X_29, e_29, E_29, A_29, D_29, -, st_29⟩ := newO X0 hx hZ hown (hw _ (List.mem_of_getElem? (i := 0) rfl)) (hw _ (List.mem_of_getElem? (i := 1) rfl)) (hw _ (List.mem_of_getElem? (i := 2) rfl)) e0 (g := (mkF m 38 #[.val (.int x0), .val (.int x1), .val (.int x2), .val (.int (0 : Int32)), .val (.int (1 : Int32)), .val (.int (0 : Int32)), .unset, .unset, .unset] [])) rfl (hb hby at_38) (by decide) (by decide)
        obtain ⟨a_29, g_29⟩ : ∃ z, z = h0.size := ⟨_, rfl⟩
        rw [← g_29] at A_29 D_29 st_29
        have ge_29 : n0 ≤ a_29 := Nat.le_trans Z0 (Nat.le_of_eq g_29.symm)
        have Z_30 : n0 ≤ h_29.size := Nat.le_trans Z0 E_29.1
        have F_31 : Fld Z h_29 a_29 "com/example/steer/steer/service/Retries$Body" "sent" "Z" (.int (0 : Int32)) := D_29 (Or.inr (hw _ (List.mem_of_getElem? (i := 15) rfl))) (ty := .boolean) (by decide)
        have F_32 : Fld Z h_29 a_29 "com/example/steer/steer/service/Retries$Body" "ended" "Z" (.int (0 : Int32)) := D_29 (Or.inr (hw _ (List.mem_of_getElem? (i := 17) rfl))) (ty := .boolean) (by decide)
        have F_33 : Fld Z h_29 a_29 "com/example/steer/steer/service/Retries$Body" "kept" "Z" (.int (0 : Int32)) := D_29 (Or.inr (hw _ (List.mem_of_getElem? (i := 19) rfl))) (ty := .boolean) (by decide)
        refine own_st st_29 ?_
        show own_Go p e below _ T_29 (mkF m 41 #[.val (.int x0), .val (.int x1), .val (.int x2), .val (.int (0 : Int32)), .val (.int (1 : Int32)), .val (.int (0 : Int32)), .unset, .unset, .unset] [(.ref a_29)])
        refine own_dup X_29 hx (hb hby at_41) (pc' := 42) rfl rfl ?_
        refine own_iloadN X_29 hx (hb hby at_42) (pc' := 43) rfl rfl ?_
        refine own_iload X_29 hx (hb hby at_43) (pc' := 45) rfl rfl ?_
        refine own_iload X_29 hx (hb hby at_45) (pc' := 47) rfl rfl ?_
        obtain ⟨_, _, ⟨T_34, L_34, k_34, n_34⟩, -, X_34, ⟨Lc_34, hQ_34, l_34, y_34, z_34⟩, st_34⟩ := X_29.specialBack hx  (y := (⟨"com/example/steer/steer/service/Retries$Body", "<init>", "(ZZZ)V"⟩ : MethodName)) rfl hown (mvT hZ (hw _ (List.mem_of_getElem? (i := 3) rfl))) (mvT hZ (hw _ (List.mem_of_getElem? (i := 4) rfl))) (mvT hZ (hw _ (List.mem_of_getElem? (i := 5) rfl))) (by decide) (backOf (W := 1) (rm1 l Z a0 hw [] a_29 (0 : Int32) (1 : Int32) (0 : Int32) h_29 n0 Z_30 A_29 F_31 F_32 F_33 ge_29 rfl rfl rfl rfl rfl rfl) hZ (hw _ (List.mem_of_getElem? (i := 5) rfl)) (hw _ (List.mem_of_getElem? (i := 2) rfl)) (by decide) (by decide)) (g := (mkF m 47 #[.val (.int x0), .val (.int x1), .val (.int x2), .val (.int (0 : Int32)), .val (.int (1 : Int32)), .val (.int (0 : Int32)), .unset, .unset, .unset] [(.int (0 : Int32)), (.int (1 : Int32)), (.int (0 : Int32)), (.ref a_29), (.ref a_29)])) rfl (by rw [hml]; rfl) (Steps.refl _) (a := a_29) (argsL := [(.int (0 : Int32)), (.int (1 : Int32)), (.int (0 : Int32))]) (rest := [(.ref a_29)]) (lenOf pd0_0 rfl) rfl (by show 2 * 0 + _ ≤ _; exact Nat.le_of_eq rfl) (hb hby at_47) (fun _ _ => ⟨rfl, e_29, (by decide : 1 + 0 ≤ _), (by decide : 3 + 0 ≤ _)⟩)
        dsimp only [Pt.U, Pt.locs, Pt.cells, Pt.slots] at X_34 l_34 y_34 z_34 st_34 hQ_34
        subst l_34 y_34 z_34
        refine own_tr st_34 ?_
        obtain ⟨rfl, Nq_34, Kq_34, q0_34, q1_34, q2_34⟩ := hQ_34
        have N_34 := Fr.app N0 Nq_34
        have F_35 : Fld Z T_34.heap a_29 "com/example/steer/steer/service/Retries$Body" "sent" "Z" (.int (0 : Int32)) := q0_34
        have F_36 : Fld Z T_34.heap a_29 "com/example/steer/steer/service/Retries$Body" "ended" "Z" (.int (1 : Int32)) := q1_34
        have F_37 : Fld Z T_34.heap a_29 "com/example/steer/steer/service/Retries$Body" "kept" "Z" (.int (0 : Int32)) := q2_34
        have A_39 : Exa Z T_34.heap a_29 "com/example/steer/steer/service/Retries$Body" := A_29.keep Kq_34
        have Z_38 : n0 ≤ T_34.heap.size := Nat.le_trans Z_30 Kq_34.1
        show own_Go p e below _ T_34 (mkF m 50 #[.val (.int x0), .val (.int x1), .val (.int x2), .val (.int (0 : Int32)), .val (.int (1 : Int32)), .val (.int (0 : Int32)), .unset, .unset, .unset] [(.ref a_29)])
        refine own_astore X_34 hx (hb hby at_50) (pc' := 52) (Ls' := #[.val (.int x0), .val (.int x1), .val (.int x2), .val (.int (0 : Int32)), .val (.int (1 : Int32)), .val (.int (0 : Int32)), .val (.ref a_29), .unset, .unset]) rfl rfl rfl ?_
        refine own_iloadN X_34 hx (hb hby at_52) (pc' := 53) rfl rfl ?_
        refine own_ifY X_34 hx (hb hby at_53) (by decide) (pc' := 60) (by decide) (by decide) ?_
        refine own_iconst X_34 hx (0) (hb hby at_60) (pc' := 61) rfl rfl ?_
        refine own_iload X_34 hx (hb hby at_61) (pc' := 63) rfl rfl ?_
        refine own_ifN X_34 hx (hb hby at_63) (by decide) (pc' := 66) rfl ?_
        refine own_iconst X_34 hx (2) (hb hby at_66) (pc' := 67) rfl rfl ?_
        refine own_goto X_34 hx (hb hby at_67) (pc' := 71) (by decide) (by decide) ?_
        refine own_iadd X_34 hx (hb hby at_71) (pc' := 72) rfl ?_
        rw [show ((0 : Int32) + (2 : Int32)) = (2 : Int32) from by decide]
        refine own_iload X_34 hx (hb hby at_72) (pc' := 74) rfl rfl ?_
        refine own_ifY X_34 hx (hb hby at_74) (by decide) (pc' := 81) (by decide) (by decide) ?_
        refine own_iconst X_34 hx (0) (hb hby at_81) (pc' := 82) rfl rfl ?_
        refine own_iadd X_34 hx (hb hby at_82) (pc' := 83) rfl ?_
        rw [show ((2 : Int32) + (0 : Int32)) = (2 : Int32) from by decide]
        refine own_istore X_34 hx (hb hby at_83) (pc' := 85) (Ls' := #[.val (.int x0), .val (.int x1), .val (.int x2), .val (.int (0 : Int32)), .val (.int (1 : Int32)), .val (.int (0 : Int32)), .val (.ref a_29), .val (.int (2 : Int32)), .unset]) rfl rfl ?_
        refine own_sipush X_34 hx (143) (hb hby at_85) (pc' := 88) rfl (by decide) ?_
        refine own_iload X_34 hx (hb hby at_88) (pc' := 90) rfl rfl ?_
        refine own_ishr X_34 hx (hb hby at_90) (pc' := 91) rfl ?_
        rw [show ((143 : Int32) >>> ((2 : Int32) &&& 31)) = (35 : Int32) from by decide]
        refine own_iconst X_34 hx (1) (hb hby at_91) (pc' := 92) rfl rfl ?_
        refine own_iand X_34 hx (hb hby at_92) (pc' := 93) rfl ?_
        rw [show ((35 : Int32) &&& (1 : Int32)) = (1 : Int32) from by decide]
        refine own_ifN X_34 hx (hb hby at_93) (by decide) (pc' := 96) rfl ?_
        refine own_iconst X_34 hx (1) (hb hby at_96) (pc' := 97) rfl rfl ?_
        refine own_goto X_34 hx (hb hby at_97) (pc' := 101) (by decide) (by decide) ?_
        refine own_istore X_34 hx (hb hby at_101) (pc' := 103) (Ls' := #[.val (.int x0), .val (.int x1), .val (.int x2), .val (.int (0 : Int32)), .val (.int (1 : Int32)), .val (.int (0 : Int32)), .val (.ref a_29), .val (.int (2 : Int32)), .val (.int (1 : Int32))]) rfl rfl ?_
        refine own_aload X_34 hx (hb hby at_103) (pc' := 105) rfl rfl rfl ?_
        obtain ⟨cq_40, kq_40, qa_40, qb_40, qc_40⟩ := isOf hZ rfl A_39
        obtain ⟨_, _, ⟨T_40, L_40, k_40, n_40⟩, -, X_40, ⟨Lc_40, hQ_40, l_40, y_40, z_40⟩, st_40⟩ := X_34.virtualBack hx  (y := (⟨"com/example/steer/steer/service/Retries$Body", "atHand", "()Z"⟩ : MethodName)) (z := (⟨"com/example/steer/steer/service/Retries$Body", "atHand", "()Z"⟩ : MethodName)) hown (mvT hZ (hw _ (List.mem_of_getElem? (i := 20) rfl))) (mvT hZ (hw _ (List.mem_of_getElem? (i := 21) rfl))) (notFace_of_selects (args := #[]) (mvT hZ (hw _ (List.mem_of_getElem? (i := 23) rfl)))) (mvT hZ (hw _ (List.mem_of_getElem? (i := 23) rfl))) (mvT hZ (hw _ (List.mem_of_getElem? (i := 22) rfl))) (by decide) (backOf (W := 0) (rm4 l Z a0 hw [] a_29 (0 : Int32) (1 : Int32) (0 : Int32) T_34.heap n0 Z_38 F_35 F_36 F_37) hZ (hw _ (List.mem_of_getElem? (i := 24) rfl)) (hw _ (List.mem_of_getElem? (i := 2) rfl)) (by decide) (by decide)) qa_40 qc_40 (g := (mkF m 105 #[.val (.int x0), .val (.int x1), .val (.int x2), .val (.int (0 : Int32)), .val (.int (1 : Int32)), .val (.int (0 : Int32)), .val (.ref a_29), .val (.int (2 : Int32)), .val (.int (1 : Int32))] [(.ref a_29)])) rfl (by rw [hml]; rfl) (Steps.refl _) (argsL := []) (rest := []) (lenOf pd0_1 rfl) rfl (by show 2 * 0 + _ ≤ _; exact Nat.le_of_eq rfl) (hb hby at_105) (fun _ _ => ⟨rfl, rfl, (by decide : 1 + 0 ≤ _), (by decide : 3 + 0 ≤ _)⟩)
        dsimp only [Pt.U, Pt.locs, Pt.cells, Pt.slots] at X_40 l_40 y_40 z_40 st_40 hQ_40
        subst l_40 y_40 z_40
        refine own_tr st_40 ?_
        obtain ⟨rfl, Nq_40, eq_40⟩ := hQ_40
        have N_40 := Fr.app N_34 Nq_40
        dsimp only [Option.toList, List.cons_append, List.nil_append]
        rw [show own_b ((0 : Int32) = 0 ∨ ¬ (1 : Int32) = 0 ∧ ¬ (0 : Int32) = 0) = (1 : Int32) from by decide]
        show own_Go p e below _ T_40 (mkF m 108 #[.val (.int x0), .val (.int x1), .val (.int x2), .val (.int (0 : Int32)), .val (.int (1 : Int32)), .val (.int (0 : Int32)), .val (.ref a_29), .val (.int (2 : Int32)), .val (.int (1 : Int32))] [(.int (1 : Int32))])
        refine own_iload X_40 hx (hb hby at_108) (pc' := 110) rfl rfl ?_
        refine own_icmpN X_40 hx (hb hby at_110) (by decide) (pc' := 113) rfl ?_
        refine own_iconst X_40 hx (1) (hb hby at_113) (pc' := 114) rfl rfl ?_
        refine own_goto X_40 hx (hb hby at_114) (pc' := 118) (by decide) (by decide) ?_
        refine own_retZ X_40 hx hlk Bd.returns (by simp) (hb hby at_118) (by decide) (by decide) ?_
        exact ⟨rfl, N_40⟩
      · skip
        refine own_ifN X0 hx (hb hby at_28) (XT.i0_eq_f c_28) (pc' := 31) rfl ?_
        refine own_iconst X0 hx (1) (hb hby at_31) (pc' := 32) rfl rfl ?_
        refine own_goto X0 hx (hb hby at_32) (pc' := 36) (by decide) (by decide) ?_
        refine own_istore X0 hx (hb hby at_36) (pc' := 38) (Ls' := #[.val (.int x0), .val (.int x1), .val (.int x2), .val (.int (0 : Int32)), .val (.int (1 : Int32)), .val (.int (1 : Int32)), .unset, .unset, .unset]) rfl rfl ?_
        obtain ⟨T_41, h_41, X_41, e_41, E_41, A_41, D_41, -, st_41⟩ := newO X0 hx hZ hown (hw _ (List.mem_of_getElem? (i := 0) rfl)) (hw _ (List.mem_of_getElem? (i := 1) rfl)) (hw _ (List.mem_of_getElem? (i := 2) rfl)) e0 (g := (mkF m 38 #[.val (.int x0), .val (.int x1), .val (.int x2), .val (.int (0 : Int32)), .val (.int (1 : Int32)), .val (.int (1 : Int32)), .unset, .unset, .unset] [])) rfl (hb hby at_38) (by decide) (by decide)
        obtain ⟨a_41, g_41⟩ : ∃ z, z = h0.size := ⟨_, rfl⟩
        rw [← g_41] at A_41 D_41 st_41
        have ge_41 : n0 ≤ a_41 := Nat.le_trans Z0 (Nat.le_of_eq g_41.symm)
        have Z_42 : n0 ≤ h_41.size := Nat.le_trans Z0 E_41.1
        have F_43 : Fld Z h_41 a_41 "com/example/steer/steer/service/Retries$Body" "sent" "Z" (.int (0 : Int32)) := D_41 (Or.inr (hw _ (List.mem_of_getElem? (i := 15) rfl))) (ty := .boolean) (by decide)
        have F_44 : Fld Z h_41 a_41 "com/example/steer/steer/service/Retries$Body" "ended" "Z" (.int (0 : Int32)) := D_41 (Or.inr (hw _ (List.mem_of_getElem? (i := 17) rfl))) (ty := .boolean) (by decide)
        have F_45 : Fld Z h_41 a_41 "com/example/steer/steer/service/Retries$Body" "kept" "Z" (.int (0 : Int32)) := D_41 (Or.inr (hw _ (List.mem_of_getElem? (i := 19) rfl))) (ty := .boolean) (by decide)
        refine own_st st_41 ?_
        show own_Go p e below _ T_41 (mkF m 41 #[.val (.int x0), .val (.int x1), .val (.int x2), .val (.int (0 : Int32)), .val (.int (1 : Int32)), .val (.int (1 : Int32)), .unset, .unset, .unset] [(.ref a_41)])
        refine own_dup X_41 hx (hb hby at_41) (pc' := 42) rfl rfl ?_
        refine own_iloadN X_41 hx (hb hby at_42) (pc' := 43) rfl rfl ?_
        refine own_iload X_41 hx (hb hby at_43) (pc' := 45) rfl rfl ?_
        refine own_iload X_41 hx (hb hby at_45) (pc' := 47) rfl rfl ?_
        obtain ⟨_, _, ⟨T_46, L_46, k_46, n_46⟩, -, X_46, ⟨Lc_46, hQ_46, l_46, y_46, z_46⟩, st_46⟩ := X_41.specialBack hx  (y := (⟨"com/example/steer/steer/service/Retries$Body", "<init>", "(ZZZ)V"⟩ : MethodName)) rfl hown (mvT hZ (hw _ (List.mem_of_getElem? (i := 3) rfl))) (mvT hZ (hw _ (List.mem_of_getElem? (i := 4) rfl))) (mvT hZ (hw _ (List.mem_of_getElem? (i := 5) rfl))) (by decide) (backOf (W := 1) (rm1 l Z a0 hw [] a_41 (0 : Int32) (1 : Int32) (1 : Int32) h_41 n0 Z_42 A_41 F_43 F_44 F_45 ge_41 rfl rfl rfl rfl rfl rfl) hZ (hw _ (List.mem_of_getElem? (i := 5) rfl)) (hw _ (List.mem_of_getElem? (i := 2) rfl)) (by decide) (by decide)) (g := (mkF m 47 #[.val (.int x0), .val (.int x1), .val (.int x2), .val (.int (0 : Int32)), .val (.int (1 : Int32)), .val (.int (1 : Int32)), .unset, .unset, .unset] [(.int (1 : Int32)), (.int (1 : Int32)), (.int (0 : Int32)), (.ref a_41), (.ref a_41)])) rfl (by rw [hml]; rfl) (Steps.refl _) (a := a_41) (argsL := [(.int (0 : Int32)), (.int (1 : Int32)), (.int (1 : Int32))]) (rest := [(.ref a_41)]) (lenOf pd0_0 rfl) rfl (by show 2 * 0 + _ ≤ _; exact Nat.le_of_eq rfl) (hb hby at_47) (fun _ _ => ⟨rfl, e_41, (by decide : 1 + 0 ≤ _), (by decide : 3 + 0 ≤ _)⟩)
        dsimp only [Pt.U, Pt.locs, Pt.cells, Pt.slots] at X_46 l_46 y_46 z_46 st_46 hQ_46
        subst l_46 y_46 z_46
        refine own_tr st_46 ?_
        obtain ⟨rfl, Nq_46, Kq_46, q0_46, q1_46, q2_46⟩ := hQ_46
        have N_46 := Fr.app N0 Nq_46
        have F_47 : Fld Z T_46.heap a_41 "com/example/steer/steer/service/Retries$Body" "sent" "Z" (.int (0 : Int32)) := q0_46
        have F_48 : Fld Z T_46.heap a_41 "com/example/steer/steer/service/Retries$Body" "ended" "Z" (.int (1 : Int32)) := q1_46
        have F_49 : Fld Z T_46.heap a_41 "com/example/steer/steer/service/Retries$Body" "kept" "Z" (.int (1 : Int32)) := q2_46
        have A_51 : Exa Z T_46.heap a_41 "com/example/steer/steer/service/Retries$Body" := A_41.keep Kq_46
        have Z_50 : n0 ≤ T_46.heap.size := Nat.le_trans Z_42 Kq_46.1
        show own_Go p e below _ T_46 (mkF m 50 #[.val (.int x0), .val (.int x1), .val (.int x2), .val (.int (0 : Int32)), .val (.int (1 : Int32)), .val (.int (1 : Int32)), .unset, .unset, .unset] [(.ref a_41)])
        refine own_astore X_46 hx (hb hby at_50) (pc' := 52) (Ls' := #[.val (.int x0), .val (.int x1), .val (.int x2), .val (.int (0 : Int32)), .val (.int (1 : Int32)), .val (.int (1 : Int32)), .val (.ref a_41), .unset, .unset]) rfl rfl rfl ?_
        refine own_iloadN X_46 hx (hb hby at_52) (pc' := 53) rfl rfl ?_
        refine own_ifY X_46 hx (hb hby at_53) (by decide) (pc' := 60) (by decide) (by decide) ?_
        refine own_iconst X_46 hx (0) (hb hby at_60) (pc' := 61) rfl rfl ?_
        refine own_iload X_46 hx (hb hby at_61) (pc' := 63) rfl rfl ?_
        refine own_ifN X_46 hx (hb hby at_63) (by decide) (pc' := 66) rfl ?_
        refine own_iconst X_46 hx (2) (hb hby at_66) (pc' := 67) rfl rfl ?_
        refine own_goto X_46 hx (hb hby at_67) (pc' := 71) (by decide) (by decide) ?_
        refine own_iadd X_46 hx (hb hby at_71) (pc' := 72) rfl ?_
        rw [show ((0 : Int32) + (2 : Int32)) = (2 : Int32) from by decide]
        refine own_iload X_46 hx (hb hby at_72) (pc' := 74) rfl rfl ?_
        refine own_ifN X_46 hx (hb hby at_74) (by decide) (pc' := 77) rfl ?_
        refine own_iconst X_46 hx (1) (hb hby at_77) (pc' := 78) rfl rfl ?_
        refine own_goto X_46 hx (hb hby at_78) (pc' := 82) (by decide) (by decide) ?_
        refine own_iadd X_46 hx (hb hby at_82) (pc' := 83) rfl ?_
        rw [show ((2 : Int32) + (1 : Int32)) = (3 : Int32) from by decide]
        refine own_istore X_46 hx (hb hby at_83) (pc' := 85) (Ls' := #[.val (.int x0), .val (.int x1), .val (.int x2), .val (.int (0 : Int32)), .val (.int (1 : Int32)), .val (.int (1 : Int32)), .val (.ref a_41), .val (.int (3 : Int32)), .unset]) rfl rfl ?_
        refine own_sipush X_46 hx (143) (hb hby at_85) (pc' := 88) rfl (by decide) ?_
        refine own_iload X_46 hx (hb hby at_88) (pc' := 90) rfl rfl ?_
        refine own_ishr X_46 hx (hb hby at_90) (pc' := 91) rfl ?_
        rw [show ((143 : Int32) >>> ((3 : Int32) &&& 31)) = (17 : Int32) from by decide]
        refine own_iconst X_46 hx (1) (hb hby at_91) (pc' := 92) rfl rfl ?_
        refine own_iand X_46 hx (hb hby at_92) (pc' := 93) rfl ?_
        rw [show ((17 : Int32) &&& (1 : Int32)) = (1 : Int32) from by decide]
        refine own_ifN X_46 hx (hb hby at_93) (by decide) (pc' := 96) rfl ?_
        refine own_iconst X_46 hx (1) (hb hby at_96) (pc' := 97) rfl rfl ?_
        refine own_goto X_46 hx (hb hby at_97) (pc' := 101) (by decide) (by decide) ?_
        refine own_istore X_46 hx (hb hby at_101) (pc' := 103) (Ls' := #[.val (.int x0), .val (.int x1), .val (.int x2), .val (.int (0 : Int32)), .val (.int (1 : Int32)), .val (.int (1 : Int32)), .val (.ref a_41), .val (.int (3 : Int32)), .val (.int (1 : Int32))]) rfl rfl ?_
        refine own_aload X_46 hx (hb hby at_103) (pc' := 105) rfl rfl rfl ?_
        obtain ⟨cq_52, kq_52, qa_52, qb_52, qc_52⟩ := isOf hZ rfl A_51
        obtain ⟨_, _, ⟨T_52, L_52, k_52, n_52⟩, -, X_52, ⟨Lc_52, hQ_52, l_52, y_52, z_52⟩, st_52⟩ := X_46.virtualBack hx  (y := (⟨"com/example/steer/steer/service/Retries$Body", "atHand", "()Z"⟩ : MethodName)) (z := (⟨"com/example/steer/steer/service/Retries$Body", "atHand", "()Z"⟩ : MethodName)) hown (mvT hZ (hw _ (List.mem_of_getElem? (i := 20) rfl))) (mvT hZ (hw _ (List.mem_of_getElem? (i := 21) rfl))) (notFace_of_selects (args := #[]) (mvT hZ (hw _ (List.mem_of_getElem? (i := 23) rfl)))) (mvT hZ (hw _ (List.mem_of_getElem? (i := 23) rfl))) (mvT hZ (hw _ (List.mem_of_getElem? (i := 22) rfl))) (by decide) (backOf (W := 0) (rm4 l Z a0 hw [] a_41 (0 : Int32) (1 : Int32) (1 : Int32) T_46.heap n0 Z_50 F_47 F_48 F_49) hZ (hw _ (List.mem_of_getElem? (i := 24) rfl)) (hw _ (List.mem_of_getElem? (i := 2) rfl)) (by decide) (by decide)) qa_52 qc_52 (g := (mkF m 105 #[.val (.int x0), .val (.int x1), .val (.int x2), .val (.int (0 : Int32)), .val (.int (1 : Int32)), .val (.int (1 : Int32)), .val (.ref a_41), .val (.int (3 : Int32)), .val (.int (1 : Int32))] [(.ref a_41)])) rfl (by rw [hml]; rfl) (Steps.refl _) (argsL := []) (rest := []) (lenOf pd0_1 rfl) rfl (by show 2 * 0 + _ ≤ _; exact Nat.le_of_eq rfl) (hb hby at_105) (fun _ _ => ⟨rfl, rfl, (by decide : 1 + 0 ≤ _), (by decide : 3 + 0 ≤ _)⟩)
        dsimp only [Pt.U, Pt.locs, Pt.cells, Pt.slots] at X_52 l_52 y_52 z_52 st_52 hQ_52
        subst l_52 y_52 z_52
        refine own_tr st_52 ?_
        obtain ⟨rfl, Nq_52, eq_52⟩ := hQ_52
        have N_52 := Fr.app N_46 Nq_52
        dsimp only [Option.toList, List.cons_append, List.nil_append]
        rw [show own_b ((0 : Int32) = 0 ∨ ¬ (1 : Int32) = 0 ∧ ¬ (1 : Int32) = 0) = (1 : Int32) from by decide]
        show own_Go p e below _ T_52 (mkF m 108 #[.val (.int x0), .val (.int x1), .val (.int x2), .val (.int (0 : Int32)), .val (.int (1 : Int32)), .val (.int (1 : Int32)), .val (.ref a_41), .val (.int (3 : Int32)), .val (.int (1 : Int32))] [(.int (1 : Int32))])
        refine own_iload X_52 hx (hb hby at_108) (pc' := 110) rfl rfl ?_
        refine own_icmpN X_52 hx (hb hby at_110) (by decide) (pc' := 113) rfl ?_
        refine own_iconst X_52 hx (1) (hb hby at_113) (pc' := 114) rfl rfl ?_
        refine own_goto X_52 hx (hb hby at_114) (pc' := 118) (by decide) (by decide) ?_
        refine own_retZ X_52 hx hlk Bd.returns (by simp) (hb hby at_118) (by decide) (by decide) ?_
        exact ⟨rfl, N_52⟩
  · skip
    refine own_ifN X0 hx (hb hby at_3) (XT.i0_eq_f c_1) (pc' := 6) rfl ?_
    refine own_iconst X0 hx (1) (hb hby at_6) (pc' := 7) rfl rfl ?_
    refine own_goto X0 hx (hb hby at_7) (pc' := 11) (by decide) (by decide) ?_
    refine own_istoreN X0 hx (hb hby at_11) (pc' := 12) (Ls' := #[.val (.int x0), .val (.int x1), .val (.int x2), .val (.int (1 : Int32)), .unset, .unset, .unset, .unset, .unset]) rfl rfl ?_
    refine own_iloadN X0 hx (hb hby at_12) (pc' := 13) rfl rfl ?_
    refine own_iconst X0 hx (1) (hb hby at_13) (pc' := 14) rfl rfl ?_
    refine own_iand X0 hx (hb hby at_14) (pc' := 15) rfl ?_
    by_cases c_53 : (x1 &&& (1 : Int32)) = (0 : Int32)
    · skip
      refine own_ifY X0 hx (hb hby at_15) (XT.i0_eq_t c_53) (pc' := 22) (by decide) (by decide) ?_
      refine own_iconst X0 hx (0) (hb hby at_22) (pc' := 23) rfl rfl ?_
      refine own_istore X0 hx (hb hby at_23) (pc' := 25) (Ls' := #[.val (.int x0), .val (.int x1), .val (.int x2), .val (.int (1 : Int32)), .val (.int (0 : Int32)), .unset, .unset, .unset, .unset]) rfl rfl ?_
      refine own_iloadN X0 hx (hb hby at_25) (pc' := 26) rfl rfl ?_
      refine own_iconst X0 hx (1) (hb hby at_26) (pc' := 27) rfl rfl ?_
      refine own_iand X0 hx (hb hby at_27) (pc' := 28) rfl ?_
      by_cases c_54 : (x2 &&& (1 : Int32)) = (0 : Int32)
      · skip
        refine own_ifY X0 hx (hb hby at_28) (XT.i0_eq_t c_54) (pc' := 35) (by decide) (by decide) ?_
        refine own_iconst X0 hx (0) (hb hby at_35) (pc' := 36) rfl rfl ?_
        refine own_istore X0 hx (hb hby at_36) (pc' := 38) (Ls' := #[.val (.int x0), .val (.int x1), .val (.int x2), .val (.int (1 : Int32)), .val (.int (0 : Int32)), .val (.int (0 : Int32)), .unset, .unset, .unset]) rfl rfl ?_
        obtain ⟨T_55, h_55, X_55, e_55, E_55, A_55, D_55, -, st_55⟩ := newO X0 hx hZ hown (hw _ (List.mem_of_getElem? (i := 0) rfl)) (hw _ (List.mem_of_getElem? (i := 1) rfl)) (hw _ (List.mem_of_getElem? (i := 2) rfl)) e0 (g := (mkF m 38 #[.val (.int x0), .val (.int x1), .val (.int x2), .val (.int (1 : Int32)), .val (.int (0 : Int32)), .val (.int (0 : Int32)), .unset, .unset, .unset] [])) rfl (hb hby at_38) (by decide) (by decide)
        obtain ⟨a_55, g_55⟩ : ∃ z, z = h0.size := ⟨_, rfl⟩
        rw [← g_55] at A_55 D_55 st_55
        have ge_55 : n0 ≤ a_55 := Nat.le_trans Z0 (Nat.le_of_eq g_55.symm)
        have Z_56 : n0 ≤ h_55.size := Nat.le_trans Z0 E_55.1
        have F_57 : Fld Z h_55 a_55 "com/example/steer/steer/service/Retries$Body" "sent" "Z" (.int (0 : Int32)) := D_55 (Or.inr (hw _ (List.mem_of_getElem? (i := 15) rfl))) (ty := .boolean) (by decide)
        have F_58 : Fld Z h_55 a_55 "com/example/steer/steer/service/Retries$Body" "ended" "Z" (.int (0 : Int32)) := D_55 (Or.inr (hw _ (List.mem_of_getElem? (i := 17) rfl))) (ty := .boolean) (by decide)
        have F_59 : Fld Z h_55 a_55 "com/example/steer/steer/service/Retries$Body" "kept" "Z" (.int (0 : Int32)) := D_55 (Or.inr (hw _ (List.mem_of_getElem? (i := 19) rfl))) (ty := .boolean) (by decide)
        refine own_st st_55 ?_
        show own_Go p e below _ T_55 (mkF m 41 #[.val (.int x0), .val (.int x1), .val (.int x2), .val (.int (1 : Int32)), .val (.int (0 : Int32)), .val (.int (0 : Int32)), .unset, .unset, .unset] [(.ref a_55)])
        refine own_dup X_55 hx (hb hby at_41) (pc' := 42) rfl rfl ?_
        refine own_iloadN X_55 hx (hb hby at_42) (pc' := 43) rfl rfl ?_
        refine own_iload X_55 hx (hb hby at_43) (pc' := 45) rfl rfl ?_
        refine own_iload X_55 hx (hb hby at_45) (pc' := 47) rfl rfl ?_
        obtain ⟨_, _, ⟨T_60, L_60, k_60, n_60⟩, -, X_60, ⟨Lc_60, hQ_60, l_60, y_60, z_60⟩, st_60⟩ := X_55.specialBack hx  (y := (⟨"com/example/steer/steer/service/Retries$Body", "<init>", "(ZZZ)V"⟩ : MethodName)) rfl hown (mvT hZ (hw _ (List.mem_of_getElem? (i := 3) rfl))) (mvT hZ (hw _ (List.mem_of_getElem? (i := 4) rfl))) (mvT hZ (hw _ (List.mem_of_getElem? (i := 5) rfl))) (by decide) (backOf (W := 1) (rm1 l Z a0 hw [] a_55 (1 : Int32) (0 : Int32) (0 : Int32) h_55 n0 Z_56 A_55 F_57 F_58 F_59 ge_55 rfl rfl rfl rfl rfl rfl) hZ (hw _ (List.mem_of_getElem? (i := 5) rfl)) (hw _ (List.mem_of_getElem? (i := 2) rfl)) (by decide) (by decide)) (g := (mkF m 47 #[.val (.int x0), .val (.int x1), .val (.int x2), .val (.int (1 : Int32)), .val (.int (0 : Int32)), .val (.int (0 : Int32)), .unset, .unset, .unset] [(.int (0 : Int32)), (.int (0 : Int32)), (.int (1 : Int32)), (.ref a_55), (.ref a_55)])) rfl (by rw [hml]; rfl) (Steps.refl _) (a := a_55) (argsL := [(.int (1 : Int32)), (.int (0 : Int32)), (.int (0 : Int32))]) (rest := [(.ref a_55)]) (lenOf pd0_0 rfl) rfl (by show 2 * 0 + _ ≤ _; exact Nat.le_of_eq rfl) (hb hby at_47) (fun _ _ => ⟨rfl, e_55, (by decide : 1 + 0 ≤ _), (by decide : 3 + 0 ≤ _)⟩)
        dsimp only [Pt.U, Pt.locs, Pt.cells, Pt.slots] at X_60 l_60 y_60 z_60 st_60 hQ_60
        subst l_60 y_60 z_60
        refine own_tr st_60 ?_
        obtain ⟨rfl, Nq_60, Kq_60, q0_60, q1_60, q2_60⟩ := hQ_60
        have N_60 := Fr.app N0 Nq_60
        have F_61 : Fld Z T_60.heap a_55 "com/example/steer/steer/service/Retries$Body" "sent" "Z" (.int (1 : Int32)) := q0_60
        have F_62 : Fld Z T_60.heap a_55 "com/example/steer/steer/service/Retries$Body" "ended" "Z" (.int (0 : Int32)) := q1_60
        have F_63 : Fld Z T_60.heap a_55 "com/example/steer/steer/service/Retries$Body" "kept" "Z" (.int (0 : Int32)) := q2_60
        have A_65 : Exa Z T_60.heap a_55 "com/example/steer/steer/service/Retries$Body" := A_55.keep Kq_60
        have Z_64 : n0 ≤ T_60.heap.size := Nat.le_trans Z_56 Kq_60.1
        show own_Go p e below _ T_60 (mkF m 50 #[.val (.int x0), .val (.int x1), .val (.int x2), .val (.int (1 : Int32)), .val (.int (0 : Int32)), .val (.int (0 : Int32)), .unset, .unset, .unset] [(.ref a_55)])
        refine own_astore X_60 hx (hb hby at_50) (pc' := 52) (Ls' := #[.val (.int x0), .val (.int x1), .val (.int x2), .val (.int (1 : Int32)), .val (.int (0 : Int32)), .val (.int (0 : Int32)), .val (.ref a_55), .unset, .unset]) rfl rfl rfl ?_
        refine own_iloadN X_60 hx (hb hby at_52) (pc' := 53) rfl rfl ?_
        refine own_ifN X_60 hx (hb hby at_53) (by decide) (pc' := 56) rfl ?_
        refine own_iconst X_60 hx (4) (hb hby at_56) (pc' := 57) rfl rfl ?_
        refine own_goto X_60 hx (hb hby at_57) (pc' := 61) (by decide) (by decide) ?_
        refine own_iload X_60 hx (hb hby at_61) (pc' := 63) rfl rfl ?_
        refine own_ifY X_60 hx (hb hby at_63) (by decide) (pc' := 70) (by decide) (by decide) ?_
        refine own_iconst X_60 hx (0) (hb hby at_70) (pc' := 71) rfl rfl ?_
        refine own_iadd X_60 hx (hb hby at_71) (pc' := 72) rfl ?_
        rw [show ((4 : Int32) + (0 : Int32)) = (4 : Int32) from by decide]
        refine own_iload X_60 hx (hb hby at_72) (pc' := 74) rfl rfl ?_
        refine own_ifY X_60 hx (hb hby at_74) (by decide) (pc' := 81) (by decide) (by decide) ?_
        refine own_iconst X_60 hx (0) (hb hby at_81) (pc' := 82) rfl rfl ?_
        refine own_iadd X_60 hx (hb hby at_82) (pc' := 83) rfl ?_
        rw [show ((4 : Int32) + (0 : Int32)) = (4 : Int32) from by decide]
        refine own_istore X_60 hx (hb hby at_83) (pc' := 85) (Ls' := #[.val (.int x0), .val (.int x1), .val (.int x2), .val (.int (1 : Int32)), .val (.int (0 : Int32)), .val (.int (0 : Int32)), .val (.ref a_55), .val (.int (4 : Int32)), .unset]) rfl rfl ?_
        refine own_sipush X_60 hx (143) (hb hby at_85) (pc' := 88) rfl (by decide) ?_
        refine own_iload X_60 hx (hb hby at_88) (pc' := 90) rfl rfl ?_
        refine own_ishr X_60 hx (hb hby at_90) (pc' := 91) rfl ?_
        rw [show ((143 : Int32) >>> ((4 : Int32) &&& 31)) = (8 : Int32) from by decide]
        refine own_iconst X_60 hx (1) (hb hby at_91) (pc' := 92) rfl rfl ?_
        refine own_iand X_60 hx (hb hby at_92) (pc' := 93) rfl ?_
        rw [show ((8 : Int32) &&& (1 : Int32)) = (0 : Int32) from by decide]
        refine own_ifY X_60 hx (hb hby at_93) (by decide) (pc' := 100) (by decide) (by decide) ?_
        refine own_iconst X_60 hx (0) (hb hby at_100) (pc' := 101) rfl rfl ?_
        refine own_istore X_60 hx (hb hby at_101) (pc' := 103) (Ls' := #[.val (.int x0), .val (.int x1), .val (.int x2), .val (.int (1 : Int32)), .val (.int (0 : Int32)), .val (.int (0 : Int32)), .val (.ref a_55), .val (.int (4 : Int32)), .val (.int (0 : Int32))]) rfl rfl ?_
        refine own_aload X_60 hx (hb hby at_103) (pc' := 105) rfl rfl rfl ?_
        obtain ⟨cq_66, kq_66, qa_66, qb_66, qc_66⟩ := isOf hZ rfl A_65
        obtain ⟨_, _, ⟨T_66, L_66, k_66, n_66⟩, -, X_66, ⟨Lc_66, hQ_66, l_66, y_66, z_66⟩, st_66⟩ := X_60.virtualBack hx  (y := (⟨"com/example/steer/steer/service/Retries$Body", "atHand", "()Z"⟩ : MethodName)) (z := (⟨"com/example/steer/steer/service/Retries$Body", "atHand", "()Z"⟩ : MethodName)) hown (mvT hZ (hw _ (List.mem_of_getElem? (i := 20) rfl))) (mvT hZ (hw _ (List.mem_of_getElem? (i := 21) rfl))) (notFace_of_selects (args := #[]) (mvT hZ (hw _ (List.mem_of_getElem? (i := 23) rfl)))) (mvT hZ (hw _ (List.mem_of_getElem? (i := 23) rfl))) (mvT hZ (hw _ (List.mem_of_getElem? (i := 22) rfl))) (by decide) (backOf (W := 0) (rm4 l Z a0 hw [] a_55 (1 : Int32) (0 : Int32) (0 : Int32) T_60.heap n0 Z_64 F_61 F_62 F_63) hZ (hw _ (List.mem_of_getElem? (i := 24) rfl)) (hw _ (List.mem_of_getElem? (i := 2) rfl)) (by decide) (by decide)) qa_66 qc_66 (g := (mkF m 105 #[.val (.int x0), .val (.int x1), .val (.int x2), .val (.int (1 : Int32)), .val (.int (0 : Int32)), .val (.int (0 : Int32)), .val (.ref a_55), .val (.int (4 : Int32)), .val (.int (0 : Int32))] [(.ref a_55)])) rfl (by rw [hml]; rfl) (Steps.refl _) (argsL := []) (rest := []) (lenOf pd0_1 rfl) rfl (by show 2 * 0 + _ ≤ _; exact Nat.le_of_eq rfl) (hb hby at_105) (fun _ _ => ⟨rfl, rfl, (by decide : 1 + 0 ≤ _), (by decide : 3 + 0 ≤ _)⟩)
        dsimp only [Pt.U, Pt.locs, Pt.cells, Pt.slots] at X_66 l_66 y_66 z_66 st_66 hQ_66
        subst l_66 y_66 z_66
        refine own_tr st_66 ?_
        obtain ⟨rfl, Nq_66, eq_66⟩ := hQ_66
        have N_66 := Fr.app N_60 Nq_66
        dsimp only [Option.toList, List.cons_append, List.nil_append]
        rw [show own_b ((1 : Int32) = 0 ∨ ¬ (0 : Int32) = 0 ∧ ¬ (0 : Int32) = 0) = (0 : Int32) from by decide]
        show own_Go p e below _ T_66 (mkF m 108 #[.val (.int x0), .val (.int x1), .val (.int x2), .val (.int (1 : Int32)), .val (.int (0 : Int32)), .val (.int (0 : Int32)), .val (.ref a_55), .val (.int (4 : Int32)), .val (.int (0 : Int32))] [(.int (0 : Int32))])
        refine own_iload X_66 hx (hb hby at_108) (pc' := 110) rfl rfl ?_
        refine own_icmpN X_66 hx (hb hby at_110) (by decide) (pc' := 113) rfl ?_
        refine own_iconst X_66 hx (1) (hb hby at_113) (pc' := 114) rfl rfl ?_
        refine own_goto X_66 hx (hb hby at_114) (pc' := 118) (by decide) (by decide) ?_
        refine own_retZ X_66 hx hlk Bd.returns (by simp) (hb hby at_118) (by decide) (by decide) ?_
        exact ⟨rfl, N_66⟩
      · skip
        refine own_ifN X0 hx (hb hby at_28) (XT.i0_eq_f c_54) (pc' := 31) rfl ?_
        refine own_iconst X0 hx (1) (hb hby at_31) (pc' := 32) rfl rfl ?_
        refine own_goto X0 hx (hb hby at_32) (pc' := 36) (by decide) (by decide) ?_
        refine own_istore X0 hx (hb hby at_36) (pc' := 38) (Ls' := #[.val (.int x0), .val (.int x1), .val (.int x2), .val (.int (1 : Int32)), .val (.int (0 : Int32)), .val (.int (1 : Int32)), .unset, .unset, .unset]) rfl rfl ?_
        obtain ⟨T_67, h_67, X_67, e_67, E_67, A_67, D_67, -, st_67⟩ := newO X0 hx hZ hown (hw _ (List.mem_of_getElem? (i := 0) rfl)) (hw _ (List.mem_of_getElem? (i := 1) rfl)) (hw _ (List.mem_of_getElem? (i := 2) rfl)) e0 (g := (mkF m 38 #[.val (.int x0), .val (.int x1), .val (.int x2), .val (.int (1 : Int32)), .val (.int (0 : Int32)), .val (.int (1 : Int32)), .unset, .unset, .unset] [])) rfl (hb hby at_38) (by decide) (by decide)
        obtain ⟨a_67, g_67⟩ : ∃ z, z = h0.size := ⟨_, rfl⟩
        rw [← g_67] at A_67 D_67 st_67
        have ge_67 : n0 ≤ a_67 := Nat.le_trans Z0 (Nat.le_of_eq g_67.symm)
        have Z_68 : n0 ≤ h_67.size := Nat.le_trans Z0 E_67.1
        have F_69 : Fld Z h_67 a_67 "com/example/steer/steer/service/Retries$Body" "sent" "Z" (.int (0 : Int32)) := D_67 (Or.inr (hw _ (List.mem_of_getElem? (i := 15) rfl))) (ty := .boolean) (by decide)
        have F_70 : Fld Z h_67 a_67 "com/example/steer/steer/service/Retries$Body" "ended" "Z" (.int (0 : Int32)) := D_67 (Or.inr (hw _ (List.mem_of_getElem? (i := 17) rfl))) (ty := .boolean) (by decide)
        have F_71 : Fld Z h_67 a_67 "com/example/steer/steer/service/Retries$Body" "kept" "Z" (.int (0 : Int32)) := D_67 (Or.inr (hw _ (List.mem_of_getElem? (i := 19) rfl))) (ty := .boolean) (by decide)
        refine own_st st_67 ?_
        show own_Go p e below _ T_67 (mkF m 41 #[.val (.int x0), .val (.int x1), .val (.int x2), .val (.int (1 : Int32)), .val (.int (0 : Int32)), .val (.int (1 : Int32)), .unset, .unset, .unset] [(.ref a_67)])
        refine own_dup X_67 hx (hb hby at_41) (pc' := 42) rfl rfl ?_
        refine own_iloadN X_67 hx (hb hby at_42) (pc' := 43) rfl rfl ?_
        refine own_iload X_67 hx (hb hby at_43) (pc' := 45) rfl rfl ?_
        refine own_iload X_67 hx (hb hby at_45) (pc' := 47) rfl rfl ?_
        obtain ⟨_, _, ⟨T_72, L_72, k_72, n_72⟩, -, X_72, ⟨Lc_72, hQ_72, l_72, y_72, z_72⟩, st_72⟩ := X_67.specialBack hx  (y := (⟨"com/example/steer/steer/service/Retries$Body", "<init>", "(ZZZ)V"⟩ : MethodName)) rfl hown (mvT hZ (hw _ (List.mem_of_getElem? (i := 3) rfl))) (mvT hZ (hw _ (List.mem_of_getElem? (i := 4) rfl))) (mvT hZ (hw _ (List.mem_of_getElem? (i := 5) rfl))) (by decide) (backOf (W := 1) (rm1 l Z a0 hw [] a_67 (1 : Int32) (0 : Int32) (1 : Int32) h_67 n0 Z_68 A_67 F_69 F_70 F_71 ge_67 rfl rfl rfl rfl rfl rfl) hZ (hw _ (List.mem_of_getElem? (i := 5) rfl)) (hw _ (List.mem_of_getElem? (i := 2) rfl)) (by decide) (by decide)) (g := (mkF m 47 #[.val (.int x0), .val (.int x1), .val (.int x2), .val (.int (1 : Int32)), .val (.int (0 : Int32)), .val (.int (1 : Int32)), .unset, .unset, .unset] [(.int (1 : Int32)), (.int (0 : Int32)), (.int (1 : Int32)), (.ref a_67), (.ref a_67)])) rfl (by rw [hml]; rfl) (Steps.refl _) (a := a_67) (argsL := [(.int (1 : Int32)), (.int (0 : Int32)), (.int (1 : Int32))]) (rest := [(.ref a_67)]) (lenOf pd0_0 rfl) rfl (by show 2 * 0 + _ ≤ _; exact Nat.le_of_eq rfl) (hb hby at_47) (fun _ _ => ⟨rfl, e_67, (by decide : 1 + 0 ≤ _), (by decide : 3 + 0 ≤ _)⟩)
        dsimp only [Pt.U, Pt.locs, Pt.cells, Pt.slots] at X_72 l_72 y_72 z_72 st_72 hQ_72
        subst l_72 y_72 z_72
        refine own_tr st_72 ?_
        obtain ⟨rfl, Nq_72, Kq_72, q0_72, q1_72, q2_72⟩ := hQ_72
        have N_72 := Fr.app N0 Nq_72
        have F_73 : Fld Z T_72.heap a_67 "com/example/steer/steer/service/Retries$Body" "sent" "Z" (.int (1 : Int32)) := q0_72
        have F_74 : Fld Z T_72.heap a_67 "com/example/steer/steer/service/Retries$Body" "ended" "Z" (.int (0 : Int32)) := q1_72
        have F_75 : Fld Z T_72.heap a_67 "com/example/steer/steer/service/Retries$Body" "kept" "Z" (.int (1 : Int32)) := q2_72
        have A_77 : Exa Z T_72.heap a_67 "com/example/steer/steer/service/Retries$Body" := A_67.keep Kq_72
        have Z_76 : n0 ≤ T_72.heap.size := Nat.le_trans Z_68 Kq_72.1
        show own_Go p e below _ T_72 (mkF m 50 #[.val (.int x0), .val (.int x1), .val (.int x2), .val (.int (1 : Int32)), .val (.int (0 : Int32)), .val (.int (1 : Int32)), .unset, .unset, .unset] [(.ref a_67)])
        refine own_astore X_72 hx (hb hby at_50) (pc' := 52) (Ls' := #[.val (.int x0), .val (.int x1), .val (.int x2), .val (.int (1 : Int32)), .val (.int (0 : Int32)), .val (.int (1 : Int32)), .val (.ref a_67), .unset, .unset]) rfl rfl rfl ?_
        refine own_iloadN X_72 hx (hb hby at_52) (pc' := 53) rfl rfl ?_
        refine own_ifN X_72 hx (hb hby at_53) (by decide) (pc' := 56) rfl ?_
        refine own_iconst X_72 hx (4) (hb hby at_56) (pc' := 57) rfl rfl ?_
        refine own_goto X_72 hx (hb hby at_57) (pc' := 61) (by decide) (by decide) ?_
        refine own_iload X_72 hx (hb hby at_61) (pc' := 63) rfl rfl ?_
        refine own_ifY X_72 hx (hb hby at_63) (by decide) (pc' := 70) (by decide) (by decide) ?_
        refine own_iconst X_72 hx (0) (hb hby at_70) (pc' := 71) rfl rfl ?_
        refine own_iadd X_72 hx (hb hby at_71) (pc' := 72) rfl ?_
        rw [show ((4 : Int32) + (0 : Int32)) = (4 : Int32) from by decide]
        refine own_iload X_72 hx (hb hby at_72) (pc' := 74) rfl rfl ?_
        refine own_ifN X_72 hx (hb hby at_74) (by decide) (pc' := 77) rfl ?_
        refine own_iconst X_72 hx (1) (hb hby at_77) (pc' := 78) rfl rfl ?_
        refine own_goto X_72 hx (hb hby at_78) (pc' := 82) (by decide) (by decide) ?_
        refine own_iadd X_72 hx (hb hby at_82) (pc' := 83) rfl ?_
        rw [show ((4 : Int32) + (1 : Int32)) = (5 : Int32) from by decide]
        refine own_istore X_72 hx (hb hby at_83) (pc' := 85) (Ls' := #[.val (.int x0), .val (.int x1), .val (.int x2), .val (.int (1 : Int32)), .val (.int (0 : Int32)), .val (.int (1 : Int32)), .val (.ref a_67), .val (.int (5 : Int32)), .unset]) rfl rfl ?_
        refine own_sipush X_72 hx (143) (hb hby at_85) (pc' := 88) rfl (by decide) ?_
        refine own_iload X_72 hx (hb hby at_88) (pc' := 90) rfl rfl ?_
        refine own_ishr X_72 hx (hb hby at_90) (pc' := 91) rfl ?_
        rw [show ((143 : Int32) >>> ((5 : Int32) &&& 31)) = (4 : Int32) from by decide]
        refine own_iconst X_72 hx (1) (hb hby at_91) (pc' := 92) rfl rfl ?_
        refine own_iand X_72 hx (hb hby at_92) (pc' := 93) rfl ?_
        rw [show ((4 : Int32) &&& (1 : Int32)) = (0 : Int32) from by decide]
        refine own_ifY X_72 hx (hb hby at_93) (by decide) (pc' := 100) (by decide) (by decide) ?_
        refine own_iconst X_72 hx (0) (hb hby at_100) (pc' := 101) rfl rfl ?_
        refine own_istore X_72 hx (hb hby at_101) (pc' := 103) (Ls' := #[.val (.int x0), .val (.int x1), .val (.int x2), .val (.int (1 : Int32)), .val (.int (0 : Int32)), .val (.int (1 : Int32)), .val (.ref a_67), .val (.int (5 : Int32)), .val (.int (0 : Int32))]) rfl rfl ?_
        refine own_aload X_72 hx (hb hby at_103) (pc' := 105) rfl rfl rfl ?_
        obtain ⟨cq_78, kq_78, qa_78, qb_78, qc_78⟩ := isOf hZ rfl A_77
        obtain ⟨_, _, ⟨T_78, L_78, k_78, n_78⟩, -, X_78, ⟨Lc_78, hQ_78, l_78, y_78, z_78⟩, st_78⟩ := X_72.virtualBack hx  (y := (⟨"com/example/steer/steer/service/Retries$Body", "atHand", "()Z"⟩ : MethodName)) (z := (⟨"com/example/steer/steer/service/Retries$Body", "atHand", "()Z"⟩ : MethodName)) hown (mvT hZ (hw _ (List.mem_of_getElem? (i := 20) rfl))) (mvT hZ (hw _ (List.mem_of_getElem? (i := 21) rfl))) (notFace_of_selects (args := #[]) (mvT hZ (hw _ (List.mem_of_getElem? (i := 23) rfl)))) (mvT hZ (hw _ (List.mem_of_getElem? (i := 23) rfl))) (mvT hZ (hw _ (List.mem_of_getElem? (i := 22) rfl))) (by decide) (backOf (W := 0) (rm4 l Z a0 hw [] a_67 (1 : Int32) (0 : Int32) (1 : Int32) T_72.heap n0 Z_76 F_73 F_74 F_75) hZ (hw _ (List.mem_of_getElem? (i := 24) rfl)) (hw _ (List.mem_of_getElem? (i := 2) rfl)) (by decide) (by decide)) qa_78 qc_78 (g := (mkF m 105 #[.val (.int x0), .val (.int x1), .val (.int x2), .val (.int (1 : Int32)), .val (.int (0 : Int32)), .val (.int (1 : Int32)), .val (.ref a_67), .val (.int (5 : Int32)), .val (.int (0 : Int32))] [(.ref a_67)])) rfl (by rw [hml]; rfl) (Steps.refl _) (argsL := []) (rest := []) (lenOf pd0_1 rfl) rfl (by show 2 * 0 + _ ≤ _; exact Nat.le_of_eq rfl) (hb hby at_105) (fun _ _ => ⟨rfl, rfl, (by decide : 1 + 0 ≤ _), (by decide : 3 + 0 ≤ _)⟩)
        dsimp only [Pt.U, Pt.locs, Pt.cells, Pt.slots] at X_78 l_78 y_78 z_78 st_78 hQ_78
        subst l_78 y_78 z_78
        refine own_tr st_78 ?_
        obtain ⟨rfl, Nq_78, eq_78⟩ := hQ_78
        have N_78 := Fr.app N_72 Nq_78
        dsimp only [Option.toList, List.cons_append, List.nil_append]
        rw [show own_b ((1 : Int32) = 0 ∨ ¬ (0 : Int32) = 0 ∧ ¬ (1 : Int32) = 0) = (0 : Int32) from by decide]
        show own_Go p e below _ T_78 (mkF m 108 #[.val (.int x0), .val (.int x1), .val (.int x2), .val (.int (1 : Int32)), .val (.int (0 : Int32)), .val (.int (1 : Int32)), .val (.ref a_67), .val (.int (5 : Int32)), .val (.int (0 : Int32))] [(.int (0 : Int32))])
        refine own_iload X_78 hx (hb hby at_108) (pc' := 110) rfl rfl ?_
        refine own_icmpN X_78 hx (hb hby at_110) (by decide) (pc' := 113) rfl ?_
        refine own_iconst X_78 hx (1) (hb hby at_113) (pc' := 114) rfl rfl ?_
        refine own_goto X_78 hx (hb hby at_114) (pc' := 118) (by decide) (by decide) ?_
        refine own_retZ X_78 hx hlk Bd.returns (by simp) (hb hby at_118) (by decide) (by decide) ?_
        exact ⟨rfl, N_78⟩
    · skip
      refine own_ifN X0 hx (hb hby at_15) (XT.i0_eq_f c_53) (pc' := 18) rfl ?_
      refine own_iconst X0 hx (1) (hb hby at_18) (pc' := 19) rfl rfl ?_
      refine own_goto X0 hx (hb hby at_19) (pc' := 23) (by decide) (by decide) ?_
      refine own_istore X0 hx (hb hby at_23) (pc' := 25) (Ls' := #[.val (.int x0), .val (.int x1), .val (.int x2), .val (.int (1 : Int32)), .val (.int (1 : Int32)), .unset, .unset, .unset, .unset]) rfl rfl ?_
      refine own_iloadN X0 hx (hb hby at_25) (pc' := 26) rfl rfl ?_
      refine own_iconst X0 hx (1) (hb hby at_26) (pc' := 27) rfl rfl ?_
      refine own_iand X0 hx (hb hby at_27) (pc' := 28) rfl ?_
      by_cases c_79 : (x2 &&& (1 : Int32)) = (0 : Int32)
      · skip
        refine own_ifY X0 hx (hb hby at_28) (XT.i0_eq_t c_79) (pc' := 35) (by decide) (by decide) ?_
        refine own_iconst X0 hx (0) (hb hby at_35) (pc' := 36) rfl rfl ?_
        refine own_istore X0 hx (hb hby at_36) (pc' := 38) (Ls' := #[.val (.int x0), .val (.int x1), .val (.int x2), .val (.int (1 : Int32)), .val (.int (1 : Int32)), .val (.int (0 : Int32)), .unset, .unset, .unset]) rfl rfl ?_
        obtain ⟨T_80, h_80, X_80, e_80, E_80, A_80, D_80, -, st_80⟩ := newO X0 hx hZ hown (hw _ (List.mem_of_getElem? (i := 0) rfl)) (hw _ (List.mem_of_getElem? (i := 1) rfl)) (hw _ (List.mem_of_getElem? (i := 2) rfl)) e0 (g := (mkF m 38 #[.val (.int x0), .val (.int x1), .val (.int x2), .val (.int (1 : Int32)), .val (.int (1 : Int32)), .val (.int (0 : Int32)), .unset, .unset, .unset] [])) rfl (hb hby at_38) (by decide) (by decide)
        obtain ⟨a_80, g_80⟩ : ∃ z, z = h0.size := ⟨_, rfl⟩
        rw [← g_80] at A_80 D_80 st_80
        have ge_80 : n0 ≤ a_80 := Nat.le_trans Z0 (Nat.le_of_eq g_80.symm)
        have Z_81 : n0 ≤ h_80.size := Nat.le_trans Z0 E_80.1
        have F_82 : Fld Z h_80 a_80 "com/example/steer/steer/service/Retries$Body" "sent" "Z" (.int (0 : Int32)) := D_80 (Or.inr (hw _ (List.mem_of_getElem? (i := 15) rfl))) (ty := .boolean) (by decide)
        have F_83 : Fld Z h_80 a_80 "com/example/steer/steer/service/Retries$Body" "ended" "Z" (.int (0 : Int32)) := D_80 (Or.inr (hw _ (List.mem_of_getElem? (i := 17) rfl))) (ty := .boolean) (by decide)
        have F_84 : Fld Z h_80 a_80 "com/example/steer/steer/service/Retries$Body" "kept" "Z" (.int (0 : Int32)) := D_80 (Or.inr (hw _ (List.mem_of_getElem? (i := 19) rfl))) (ty := .boolean) (by decide)
        refine own_st st_80 ?_
        show own_Go p e below _ T_80 (mkF m 41 #[.val (.int x0), .val (.int x1), .val (.int x2), .val (.int (1 : Int32)), .val (.int (1 : Int32)), .val (.int (0 : Int32)), .unset, .unset, .unset] [(.ref a_80)])
        refine own_dup X_80 hx (hb hby at_41) (pc' := 42) rfl rfl ?_
        refine own_iloadN X_80 hx (hb hby at_42) (pc' := 43) rfl rfl ?_
        refine own_iload X_80 hx (hb hby at_43) (pc' := 45) rfl rfl ?_
        refine own_iload X_80 hx (hb hby at_45) (pc' := 47) rfl rfl ?_
        obtain ⟨_, _, ⟨T_85, L_85, k_85, n_85⟩, -, X_85, ⟨Lc_85, hQ_85, l_85, y_85, z_85⟩, st_85⟩ := X_80.specialBack hx  (y := (⟨"com/example/steer/steer/service/Retries$Body", "<init>", "(ZZZ)V"⟩ : MethodName)) rfl hown (mvT hZ (hw _ (List.mem_of_getElem? (i := 3) rfl))) (mvT hZ (hw _ (List.mem_of_getElem? (i := 4) rfl))) (mvT hZ (hw _ (List.mem_of_getElem? (i := 5) rfl))) (by decide) (backOf (W := 1) (rm1 l Z a0 hw [] a_80 (1 : Int32) (1 : Int32) (0 : Int32) h_80 n0 Z_81 A_80 F_82 F_83 F_84 ge_80 rfl rfl rfl rfl rfl rfl) hZ (hw _ (List.mem_of_getElem? (i := 5) rfl)) (hw _ (List.mem_of_getElem? (i := 2) rfl)) (by decide) (by decide)) (g := (mkF m 47 #[.val (.int x0), .val (.int x1), .val (.int x2), .val (.int (1 : Int32)), .val (.int (1 : Int32)), .val (.int (0 : Int32)), .unset, .unset, .unset] [(.int (0 : Int32)), (.int (1 : Int32)), (.int (1 : Int32)), (.ref a_80), (.ref a_80)])) rfl (by rw [hml]; rfl) (Steps.refl _) (a := a_80) (argsL := [(.int (1 : Int32)), (.int (1 : Int32)), (.int (0 : Int32))]) (rest := [(.ref a_80)]) (lenOf pd0_0 rfl) rfl (by show 2 * 0 + _ ≤ _; exact Nat.le_of_eq rfl) (hb hby at_47) (fun _ _ => ⟨rfl, e_80, (by decide : 1 + 0 ≤ _), (by decide : 3 + 0 ≤ _)⟩)
        dsimp only [Pt.U, Pt.locs, Pt.cells, Pt.slots] at X_85 l_85 y_85 z_85 st_85 hQ_85
        subst l_85 y_85 z_85
        refine own_tr st_85 ?_
        obtain ⟨rfl, Nq_85, Kq_85, q0_85, q1_85, q2_85⟩ := hQ_85
        have N_85 := Fr.app N0 Nq_85
        have F_86 : Fld Z T_85.heap a_80 "com/example/steer/steer/service/Retries$Body" "sent" "Z" (.int (1 : Int32)) := q0_85
        have F_87 : Fld Z T_85.heap a_80 "com/example/steer/steer/service/Retries$Body" "ended" "Z" (.int (1 : Int32)) := q1_85
        have F_88 : Fld Z T_85.heap a_80 "com/example/steer/steer/service/Retries$Body" "kept" "Z" (.int (0 : Int32)) := q2_85
        have A_90 : Exa Z T_85.heap a_80 "com/example/steer/steer/service/Retries$Body" := A_80.keep Kq_85
        have Z_89 : n0 ≤ T_85.heap.size := Nat.le_trans Z_81 Kq_85.1
        show own_Go p e below _ T_85 (mkF m 50 #[.val (.int x0), .val (.int x1), .val (.int x2), .val (.int (1 : Int32)), .val (.int (1 : Int32)), .val (.int (0 : Int32)), .unset, .unset, .unset] [(.ref a_80)])
        refine own_astore X_85 hx (hb hby at_50) (pc' := 52) (Ls' := #[.val (.int x0), .val (.int x1), .val (.int x2), .val (.int (1 : Int32)), .val (.int (1 : Int32)), .val (.int (0 : Int32)), .val (.ref a_80), .unset, .unset]) rfl rfl rfl ?_
        refine own_iloadN X_85 hx (hb hby at_52) (pc' := 53) rfl rfl ?_
        refine own_ifN X_85 hx (hb hby at_53) (by decide) (pc' := 56) rfl ?_
        refine own_iconst X_85 hx (4) (hb hby at_56) (pc' := 57) rfl rfl ?_
        refine own_goto X_85 hx (hb hby at_57) (pc' := 61) (by decide) (by decide) ?_
        refine own_iload X_85 hx (hb hby at_61) (pc' := 63) rfl rfl ?_
        refine own_ifN X_85 hx (hb hby at_63) (by decide) (pc' := 66) rfl ?_
        refine own_iconst X_85 hx (2) (hb hby at_66) (pc' := 67) rfl rfl ?_
        refine own_goto X_85 hx (hb hby at_67) (pc' := 71) (by decide) (by decide) ?_
        refine own_iadd X_85 hx (hb hby at_71) (pc' := 72) rfl ?_
        rw [show ((4 : Int32) + (2 : Int32)) = (6 : Int32) from by decide]
        refine own_iload X_85 hx (hb hby at_72) (pc' := 74) rfl rfl ?_
        refine own_ifY X_85 hx (hb hby at_74) (by decide) (pc' := 81) (by decide) (by decide) ?_
        refine own_iconst X_85 hx (0) (hb hby at_81) (pc' := 82) rfl rfl ?_
        refine own_iadd X_85 hx (hb hby at_82) (pc' := 83) rfl ?_
        rw [show ((6 : Int32) + (0 : Int32)) = (6 : Int32) from by decide]
        refine own_istore X_85 hx (hb hby at_83) (pc' := 85) (Ls' := #[.val (.int x0), .val (.int x1), .val (.int x2), .val (.int (1 : Int32)), .val (.int (1 : Int32)), .val (.int (0 : Int32)), .val (.ref a_80), .val (.int (6 : Int32)), .unset]) rfl rfl ?_
        refine own_sipush X_85 hx (143) (hb hby at_85) (pc' := 88) rfl (by decide) ?_
        refine own_iload X_85 hx (hb hby at_88) (pc' := 90) rfl rfl ?_
        refine own_ishr X_85 hx (hb hby at_90) (pc' := 91) rfl ?_
        rw [show ((143 : Int32) >>> ((6 : Int32) &&& 31)) = (2 : Int32) from by decide]
        refine own_iconst X_85 hx (1) (hb hby at_91) (pc' := 92) rfl rfl ?_
        refine own_iand X_85 hx (hb hby at_92) (pc' := 93) rfl ?_
        rw [show ((2 : Int32) &&& (1 : Int32)) = (0 : Int32) from by decide]
        refine own_ifY X_85 hx (hb hby at_93) (by decide) (pc' := 100) (by decide) (by decide) ?_
        refine own_iconst X_85 hx (0) (hb hby at_100) (pc' := 101) rfl rfl ?_
        refine own_istore X_85 hx (hb hby at_101) (pc' := 103) (Ls' := #[.val (.int x0), .val (.int x1), .val (.int x2), .val (.int (1 : Int32)), .val (.int (1 : Int32)), .val (.int (0 : Int32)), .val (.ref a_80), .val (.int (6 : Int32)), .val (.int (0 : Int32))]) rfl rfl ?_
        refine own_aload X_85 hx (hb hby at_103) (pc' := 105) rfl rfl rfl ?_
        obtain ⟨cq_91, kq_91, qa_91, qb_91, qc_91⟩ := isOf hZ rfl A_90
        obtain ⟨_, _, ⟨T_91, L_91, k_91, n_91⟩, -, X_91, ⟨Lc_91, hQ_91, l_91, y_91, z_91⟩, st_91⟩ := X_85.virtualBack hx  (y := (⟨"com/example/steer/steer/service/Retries$Body", "atHand", "()Z"⟩ : MethodName)) (z := (⟨"com/example/steer/steer/service/Retries$Body", "atHand", "()Z"⟩ : MethodName)) hown (mvT hZ (hw _ (List.mem_of_getElem? (i := 20) rfl))) (mvT hZ (hw _ (List.mem_of_getElem? (i := 21) rfl))) (notFace_of_selects (args := #[]) (mvT hZ (hw _ (List.mem_of_getElem? (i := 23) rfl)))) (mvT hZ (hw _ (List.mem_of_getElem? (i := 23) rfl))) (mvT hZ (hw _ (List.mem_of_getElem? (i := 22) rfl))) (by decide) (backOf (W := 0) (rm4 l Z a0 hw [] a_80 (1 : Int32) (1 : Int32) (0 : Int32) T_85.heap n0 Z_89 F_86 F_87 F_88) hZ (hw _ (List.mem_of_getElem? (i := 24) rfl)) (hw _ (List.mem_of_getElem? (i := 2) rfl)) (by decide) (by decide)) qa_91 qc_91 (g := (mkF m 105 #[.val (.int x0), .val (.int x1), .val (.int x2), .val (.int (1 : Int32)), .val (.int (1 : Int32)), .val (.int (0 : Int32)), .val (.ref a_80), .val (.int (6 : Int32)), .val (.int (0 : Int32))] [(.ref a_80)])) rfl (by rw [hml]; rfl) (Steps.refl _) (argsL := []) (rest := []) (lenOf pd0_1 rfl) rfl (by show 2 * 0 + _ ≤ _; exact Nat.le_of_eq rfl) (hb hby at_105) (fun _ _ => ⟨rfl, rfl, (by decide : 1 + 0 ≤ _), (by decide : 3 + 0 ≤ _)⟩)
        dsimp only [Pt.U, Pt.locs, Pt.cells, Pt.slots] at X_91 l_91 y_91 z_91 st_91 hQ_91
        subst l_91 y_91 z_91
        refine own_tr st_91 ?_
        obtain ⟨rfl, Nq_91, eq_91⟩ := hQ_91
        have N_91 := Fr.app N_85 Nq_91
        dsimp only [Option.toList, List.cons_append, List.nil_append]
        rw [show own_b ((1 : Int32) = 0 ∨ ¬ (1 : Int32) = 0 ∧ ¬ (0 : Int32) = 0) = (0 : Int32) from by decide]
        show own_Go p e below _ T_91 (mkF m 108 #[.val (.int x0), .val (.int x1), .val (.int x2), .val (.int (1 : Int32)), .val (.int (1 : Int32)), .val (.int (0 : Int32)), .val (.ref a_80), .val (.int (6 : Int32)), .val (.int (0 : Int32))] [(.int (0 : Int32))])
        refine own_iload X_91 hx (hb hby at_108) (pc' := 110) rfl rfl ?_
        refine own_icmpN X_91 hx (hb hby at_110) (by decide) (pc' := 113) rfl ?_
        refine own_iconst X_91 hx (1) (hb hby at_113) (pc' := 114) rfl rfl ?_
        refine own_goto X_91 hx (hb hby at_114) (pc' := 118) (by decide) (by decide) ?_
        refine own_retZ X_91 hx hlk Bd.returns (by simp) (hb hby at_118) (by decide) (by decide) ?_
        exact ⟨rfl, N_91⟩
      · skip
        refine own_ifN X0 hx (hb hby at_28) (XT.i0_eq_f c_79) (pc' := 31) rfl ?_
        refine own_iconst X0 hx (1) (hb hby at_31) (pc' := 32) rfl rfl ?_
        refine own_goto X0 hx (hb hby at_32) (pc' := 36) (by decide) (by decide) ?_
        refine own_istore X0 hx (hb hby at_36) (pc' := 38) (Ls' := #[.val (.int x0), .val (.int x1), .val (.int x2), .val (.int (1 : Int32)), .val (.int (1 : Int32)), .val (.int (1 : Int32)), .unset, .unset, .unset]) rfl rfl ?_
        obtain ⟨T_92, h_92, X_92, e_92, E_92, A_92, D_92, -, st_92⟩ := newO X0 hx hZ hown (hw _ (List.mem_of_getElem? (i := 0) rfl)) (hw _ (List.mem_of_getElem? (i := 1) rfl)) (hw _ (List.mem_of_getElem? (i := 2) rfl)) e0 (g := (mkF m 38 #[.val (.int x0), .val (.int x1), .val (.int x2), .val (.int (1 : Int32)), .val (.int (1 : Int32)), .val (.int (1 : Int32)), .unset, .unset, .unset] [])) rfl (hb hby at_38) (by decide) (by decide)
        obtain ⟨a_92, g_92⟩ : ∃ z, z = h0.size := ⟨_, rfl⟩
        rw [← g_92] at A_92 D_92 st_92
        have ge_92 : n0 ≤ a_92 := Nat.le_trans Z0 (Nat.le_of_eq g_92.symm)
        have Z_93 : n0 ≤ h_92.size := Nat.le_trans Z0 E_92.1
        have F_94 : Fld Z h_92 a_92 "com/example/steer/steer/service/Retries$Body" "sent" "Z" (.int (0 : Int32)) := D_92 (Or.inr (hw _ (List.mem_of_getElem? (i := 15) rfl))) (ty := .boolean) (by decide)
        have F_95 : Fld Z h_92 a_92 "com/example/steer/steer/service/Retries$Body" "ended" "Z" (.int (0 : Int32)) := D_92 (Or.inr (hw _ (List.mem_of_getElem? (i := 17) rfl))) (ty := .boolean) (by decide)
        have F_96 : Fld Z h_92 a_92 "com/example/steer/steer/service/Retries$Body" "kept" "Z" (.int (0 : Int32)) := D_92 (Or.inr (hw _ (List.mem_of_getElem? (i := 19) rfl))) (ty := .boolean) (by decide)
        refine own_st st_92 ?_
        show own_Go p e below _ T_92 (mkF m 41 #[.val (.int x0), .val (.int x1), .val (.int x2), .val (.int (1 : Int32)), .val (.int (1 : Int32)), .val (.int (1 : Int32)), .unset, .unset, .unset] [(.ref a_92)])
        refine own_dup X_92 hx (hb hby at_41) (pc' := 42) rfl rfl ?_
        refine own_iloadN X_92 hx (hb hby at_42) (pc' := 43) rfl rfl ?_
        refine own_iload X_92 hx (hb hby at_43) (pc' := 45) rfl rfl ?_
        refine own_iload X_92 hx (hb hby at_45) (pc' := 47) rfl rfl ?_
        obtain ⟨_, _, ⟨T_97, L_97, k_97, n_97⟩, -, X_97, ⟨Lc_97, hQ_97, l_97, y_97, z_97⟩, st_97⟩ := X_92.specialBack hx  (y := (⟨"com/example/steer/steer/service/Retries$Body", "<init>", "(ZZZ)V"⟩ : MethodName)) rfl hown (mvT hZ (hw _ (List.mem_of_getElem? (i := 3) rfl))) (mvT hZ (hw _ (List.mem_of_getElem? (i := 4) rfl))) (mvT hZ (hw _ (List.mem_of_getElem? (i := 5) rfl))) (by decide) (backOf (W := 1) (rm1 l Z a0 hw [] a_92 (1 : Int32) (1 : Int32) (1 : Int32) h_92 n0 Z_93 A_92 F_94 F_95 F_96 ge_92 rfl rfl rfl rfl rfl rfl) hZ (hw _ (List.mem_of_getElem? (i := 5) rfl)) (hw _ (List.mem_of_getElem? (i := 2) rfl)) (by decide) (by decide)) (g := (mkF m 47 #[.val (.int x0), .val (.int x1), .val (.int x2), .val (.int (1 : Int32)), .val (.int (1 : Int32)), .val (.int (1 : Int32)), .unset, .unset, .unset] [(.int (1 : Int32)), (.int (1 : Int32)), (.int (1 : Int32)), (.ref a_92), (.ref a_92)])) rfl (by rw [hml]; rfl) (Steps.refl _) (a := a_92) (argsL := [(.int (1 : Int32)), (.int (1 : Int32)), (.int (1 : Int32))]) (rest := [(.ref a_92)]) (lenOf pd0_0 rfl) rfl (by show 2 * 0 + _ ≤ _; exact Nat.le_of_eq rfl) (hb hby at_47) (fun _ _ => ⟨rfl, e_92, (by decide : 1 + 0 ≤ _), (by decide : 3 + 0 ≤ _)⟩)
        dsimp only [Pt.U, Pt.locs, Pt.cells, Pt.slots] at X_97 l_97 y_97 z_97 st_97 hQ_97
        subst l_97 y_97 z_97
        refine own_tr st_97 ?_
        obtain ⟨rfl, Nq_97, Kq_97, q0_97, q1_97, q2_97⟩ := hQ_97
        have N_97 := Fr.app N0 Nq_97
        have F_98 : Fld Z T_97.heap a_92 "com/example/steer/steer/service/Retries$Body" "sent" "Z" (.int (1 : Int32)) := q0_97
        have F_99 : Fld Z T_97.heap a_92 "com/example/steer/steer/service/Retries$Body" "ended" "Z" (.int (1 : Int32)) := q1_97
        have F_100 : Fld Z T_97.heap a_92 "com/example/steer/steer/service/Retries$Body" "kept" "Z" (.int (1 : Int32)) := q2_97
        have A_102 : Exa Z T_97.heap a_92 "com/example/steer/steer/service/Retries$Body" := A_92.keep Kq_97
        have Z_101 : n0 ≤ T_97.heap.size := Nat.le_trans Z_93 Kq_97.1
        show own_Go p e below _ T_97 (mkF m 50 #[.val (.int x0), .val (.int x1), .val (.int x2), .val (.int (1 : Int32)), .val (.int (1 : Int32)), .val (.int (1 : Int32)), .unset, .unset, .unset] [(.ref a_92)])
        refine own_astore X_97 hx (hb hby at_50) (pc' := 52) (Ls' := #[.val (.int x0), .val (.int x1), .val (.int x2), .val (.int (1 : Int32)), .val (.int (1 : Int32)), .val (.int (1 : Int32)), .val (.ref a_92), .unset, .unset]) rfl rfl rfl ?_
        refine own_iloadN X_97 hx (hb hby at_52) (pc' := 53) rfl rfl ?_
        refine own_ifN X_97 hx (hb hby at_53) (by decide) (pc' := 56) rfl ?_
        refine own_iconst X_97 hx (4) (hb hby at_56) (pc' := 57) rfl rfl ?_
        refine own_goto X_97 hx (hb hby at_57) (pc' := 61) (by decide) (by decide) ?_
        refine own_iload X_97 hx (hb hby at_61) (pc' := 63) rfl rfl ?_
        refine own_ifN X_97 hx (hb hby at_63) (by decide) (pc' := 66) rfl ?_
        refine own_iconst X_97 hx (2) (hb hby at_66) (pc' := 67) rfl rfl ?_
        refine own_goto X_97 hx (hb hby at_67) (pc' := 71) (by decide) (by decide) ?_
        refine own_iadd X_97 hx (hb hby at_71) (pc' := 72) rfl ?_
        rw [show ((4 : Int32) + (2 : Int32)) = (6 : Int32) from by decide]
        refine own_iload X_97 hx (hb hby at_72) (pc' := 74) rfl rfl ?_
        refine own_ifN X_97 hx (hb hby at_74) (by decide) (pc' := 77) rfl ?_
        refine own_iconst X_97 hx (1) (hb hby at_77) (pc' := 78) rfl rfl ?_
        refine own_goto X_97 hx (hb hby at_78) (pc' := 82) (by decide) (by decide) ?_
        refine own_iadd X_97 hx (hb hby at_82) (pc' := 83) rfl ?_
        rw [show ((6 : Int32) + (1 : Int32)) = (7 : Int32) from by decide]
        refine own_istore X_97 hx (hb hby at_83) (pc' := 85) (Ls' := #[.val (.int x0), .val (.int x1), .val (.int x2), .val (.int (1 : Int32)), .val (.int (1 : Int32)), .val (.int (1 : Int32)), .val (.ref a_92), .val (.int (7 : Int32)), .unset]) rfl rfl ?_
        refine own_sipush X_97 hx (143) (hb hby at_85) (pc' := 88) rfl (by decide) ?_
        refine own_iload X_97 hx (hb hby at_88) (pc' := 90) rfl rfl ?_
        refine own_ishr X_97 hx (hb hby at_90) (pc' := 91) rfl ?_
        rw [show ((143 : Int32) >>> ((7 : Int32) &&& 31)) = (1 : Int32) from by decide]
        refine own_iconst X_97 hx (1) (hb hby at_91) (pc' := 92) rfl rfl ?_
        refine own_iand X_97 hx (hb hby at_92) (pc' := 93) rfl ?_
        rw [show ((1 : Int32) &&& (1 : Int32)) = (1 : Int32) from by decide]
        refine own_ifN X_97 hx (hb hby at_93) (by decide) (pc' := 96) rfl ?_
        refine own_iconst X_97 hx (1) (hb hby at_96) (pc' := 97) rfl rfl ?_
        refine own_goto X_97 hx (hb hby at_97) (pc' := 101) (by decide) (by decide) ?_
        refine own_istore X_97 hx (hb hby at_101) (pc' := 103) (Ls' := #[.val (.int x0), .val (.int x1), .val (.int x2), .val (.int (1 : Int32)), .val (.int (1 : Int32)), .val (.int (1 : Int32)), .val (.ref a_92), .val (.int (7 : Int32)), .val (.int (1 : Int32))]) rfl rfl ?_
        refine own_aload X_97 hx (hb hby at_103) (pc' := 105) rfl rfl rfl ?_
        obtain ⟨cq_103, kq_103, qa_103, qb_103, qc_103⟩ := isOf hZ rfl A_102
        obtain ⟨_, _, ⟨T_103, L_103, k_103, n_103⟩, -, X_103, ⟨Lc_103, hQ_103, l_103, y_103, z_103⟩, st_103⟩ := X_97.virtualBack hx  (y := (⟨"com/example/steer/steer/service/Retries$Body", "atHand", "()Z"⟩ : MethodName)) (z := (⟨"com/example/steer/steer/service/Retries$Body", "atHand", "()Z"⟩ : MethodName)) hown (mvT hZ (hw _ (List.mem_of_getElem? (i := 20) rfl))) (mvT hZ (hw _ (List.mem_of_getElem? (i := 21) rfl))) (notFace_of_selects (args := #[]) (mvT hZ (hw _ (List.mem_of_getElem? (i := 23) rfl)))) (mvT hZ (hw _ (List.mem_of_getElem? (i := 23) rfl))) (mvT hZ (hw _ (List.mem_of_getElem? (i := 22) rfl))) (by decide) (backOf (W := 0) (rm4 l Z a0 hw [] a_92 (1 : Int32) (1 : Int32) (1 : Int32) T_97.heap n0 Z_101 F_98 F_99 F_100) hZ (hw _ (List.mem_of_getElem? (i := 24) rfl)) (hw _ (List.mem_of_getElem? (i := 2) rfl)) (by decide) (by decide)) qa_103 qc_103 (g := (mkF m 105 #[.val (.int x0), .val (.int x1), .val (.int x2), .val (.int (1 : Int32)), .val (.int (1 : Int32)), .val (.int (1 : Int32)), .val (.ref a_92), .val (.int (7 : Int32)), .val (.int (1 : Int32))] [(.ref a_92)])) rfl (by rw [hml]; rfl) (Steps.refl _) (argsL := []) (rest := []) (lenOf pd0_1 rfl) rfl (by show 2 * 0 + _ ≤ _; exact Nat.le_of_eq rfl) (hb hby at_105) (fun _ _ => ⟨rfl, rfl, (by decide : 1 + 0 ≤ _), (by decide : 3 + 0 ≤ _)⟩)
        dsimp only [Pt.U, Pt.locs, Pt.cells, Pt.slots] at X_103 l_103 y_103 z_103 st_103 hQ_103
        subst l_103 y_103 z_103
        refine own_tr st_103 ?_
        obtain ⟨rfl, Nq_103, eq_103⟩ := hQ_103
        have N_103 := Fr.app N_97 Nq_103
        dsimp only [Option.toList, List.cons_append, List.nil_append]
        rw [show own_b ((1 : Int32) = 0 ∨ ¬ (1 : Int32) = 0 ∧ ¬ (1 : Int32) = 0) = (1 : Int32) from by decide]
        show own_Go p e below _ T_103 (mkF m 108 #[.val (.int x0), .val (.int x1), .val (.int x2), .val (.int (1 : Int32)), .val (.int (1 : Int32)), .val (.int (1 : Int32)), .val (.ref a_92), .val (.int (7 : Int32)), .val (.int (1 : Int32))] [(.int (1 : Int32))])
        refine own_iload X_103 hx (hb hby at_108) (pc' := 110) rfl rfl ?_
        refine own_icmpN X_103 hx (hb hby at_110) (by decide) (pc' := 113) rfl ?_
        refine own_iconst X_103 hx (1) (hb hby at_113) (pc' := 114) rfl rfl ?_
        refine own_goto X_103 hx (hb hby at_114) (pc' := 118) (by decide) (by decide) ?_
        refine own_retZ X_103 hx hlk Bd.returns (by simp) (hb hby at_118) (by decide) (by decide) ?_
        exact ⟨rfl, N_103⟩
set_option maxRecDepth 65536 in
set_option maxHeartbeats 40000000 in
theorem comes_1 {Post : Tables → Env → Array Value → State → Outcome → State → Prop} (hpost : ∀ tb e args s v u, (limb_1_1.after args s (.returned v) u = true ∧ limb_1_2.after args s (.returned v) u = true ∧ True) → FrameEnd s (.returned v) u (Jvm.fieldLocs frame_1_writes args s ++ Jvm.arrayLocs frame_1_arrays args s ++ Jvm.staticLocs frame_1_statics s) 16 128 → Post tb e args s (.returned v) u) :
    ArmFor flags0 classFile x code maxLocals ret World_1 tables_1 room_1 Calls_1 rest_1 Pre_1 Post := by
  intro l hfl _ _ p e ha hc hk s m args below hf hA hF happ hP
  obtain ⟨hcalls, hrest, hpre⟩ := hP
  obtain ⟨-, -, -, hnamed, -, -, -, hat⟩ := (Spec.applies_iff hf).mp happ
  obtain ⟨hg, hn⟩ := and_e (Cond.before_iff.mp (show (Jvm.Cond.and given_1 narrow_1).before args s = true from hpre))
  obtain ⟨gc, gr0⟩ := and_e hg
  obtain ⟨ga0, gr1⟩ := and_e gr0
  obtain ⟨ga1, gr2⟩ := and_e gr1
  have ga2 := gr2
  obtain ⟨w0, w1, w2, rfl⟩ : ∃ w0 w1 w2 : Value, args = #[w0, w1, w2] := by
    have hs : args.size = 3 := by simpa [Cond.value, given_1] using gc
    obtain ⟨L⟩ := args
    match L, hs with
    | [w0, w1, w2], _ => exact ⟨w0, w1, w2, rfl⟩
  have hw := fun d (hd : d ∈ tables_1) => atoms_spec (ws := Jvm.Cond.code x code maxLocals ret :: tables_1) hat d (List.mem_cons_of_mem _ hd)
  have hfit : Fit s := fun {y c} hc i hi => by
    obtain ⟨ha, rfl⟩ := Array.getElem?_eq_some_iff.mp hc
    have q := List.all_eq_true.mp ((Array.all_eq_true_iff_forall_mem.mp hF) _ (Array.getElem_mem ha)) i (List.mem_range.mpr hi)
    simpa [Array.getElem?_eq_getElem hi] using q
  obtain ⟨i0, ei0⟩ := is_v ga0
  obtain rfl : w0 = (.int i0) := Option.some.inj ei0
  obtain ⟨i1, ei1⟩ := is_v ga1
  obtain rfl : w1 = (.int i1) := Option.some.inj ei1
  obtain ⟨i2, ei2⟩ := is_v ga2
  obtain rfl : w2 = (.int i2) := Option.some.inj ei2
  obtain ⟨n, o, h1, h2, h3, _, L, rfl, ⟨rfl, N⟩, hq⟩ := rm0 l s _ hw tables_1 i0 i1 i2 s.heap s.heap.size (Nat.le_refl _)  p e ha hc hk s m _ below hf ((Spec.applies_iff_loose hf).mp happ).1 ⟨rfl, State.Warmed39.refl s, rfl⟩ trivial
  refine ⟨n, _, h1, h2, h3, hpost _ _ _ _ _ _ ⟨Cond.after_iff.mpr rfl, Cond.after_iff.mpr (eq_i res_at (Term.int_eval (1)) rfl), trivial⟩ ⟨hq.1, hq.2.1, (hq.2.2.sift fun y hy => Or.inr (N y hy)).mono (by decide) (by decide)⟩⟩
theorem main_1_1 : Claimed_1_1 := comes_1 fun _ _ _ _ _ _ h hF => ⟨h.1, hF⟩
theorem main_1_2 : Claimed_1_2 := comes_1 fun _ _ _ _ _ _ h hF => ⟨h.2.1, hF⟩
end Jvm.Pilot.@@N@@
namespace Jvm.Pilot.@@N@@
open Jvm Jvm.ClassFile Sem Op Lib Jvm.Free Jvm.Stand Jvm.Pilot.@@N@@.Jvm.D
/-! MADE BY PROGRAM (witnessworld.py) out of the Statement's table words and the real class files: 10 classes; the members and pool entries that the words name. The judged class is class 1, her method 1. -/
namespace start1
open Jvm.ClassFile
def u (s : String) : CpInfo := .utf8 (stringToUtf16 s)
/-- a pool by its gaps: so many unusable entries, then the entry; so many at the end -/
def gap : Nat → List CpInfo → List CpInfo
  | 0, r => r
  | n + 1, r => .unusable :: gap n r
def poolList (es : List (Nat × CpInfo)) (last : Nat) : List CpInfo := es.foldr (fun e r => gap e.1 (e.2 :: r)) (gap last [])
def pool (es : List (Nat × CpInfo)) (last : Nat) : Array CpInfo := ⟨poolList es last⟩
def fileOf (pool : Array CpInfo) (this : Nat) (attrs : Array Attribute := #[]) (ms : Array MethodInfo := #[]) (fl : Nat := 33) (sup : Nat := 0) (ifs : Array Nat := #[]) (fds : Array FieldInfo := #[]) : ClassFile where
  minorVersion := 0
  majorVersion := 65
  constantPool := pool
  accessFlags := fl
  thisClass := this
  superClass := sup
  interfaces := ifs
  fields := fds
  methods := ms
  attributes := attrs
def plain (name : String) (sup : Option ClassId) : Class where
  name := name
  kind := .ordinary
  loader := none
  accessFlags := 33
  super := sup
  interfaces := #[]
  cf := none
  fields := #[]
  methods := #[]
  instanceTypes := #[]
  staticTypes := #[]
  resolved := #[]
  callSites := []
  init := .initialized
  statics := none
  mirror := none

def pool0 : Array CpInfo := pool [(5, u "<init>"), (0, u "()V"), (1, .class_ 10), (1, u "java/lang/Object")] 113

def k0c0 : Code := { maxStack := 0, maxLocals := 1, code := object_method_1_code, exceptionTable := #[], attributes := #[] }
def k0m0 : Method := { name := "<init>", desc := "()V", sig := { parameters := [], returnType := none }, accessFlags := 1, code := some k0c0 }
/-- java/lang/Object -/
def k0 : Class := { plain "java/lang/Object" none with
  accessFlags := 33
  interfaces := #[]
  cf := some (fileOf pool0 8 #[] #[{ accessFlags := 1, nameIndex := 5, descriptorIndex := 6, attributes := #[] }] 33 0 #[] #[])
  fields := #[]
  methods := #[k0m0]
  instanceTypes := #[]
  staticTypes := #[]
  resolved := Array.replicate 124 none
  statics := none }

def pool1 : Array CpInfo := pool [(2, .class_ 4), (1, u "java/lang/Object"), (0, u "<init>"), (0, u "()V"), (0, .class_ 8), (0, u "com/example/steer/steer/service/Retries$Body"), (0, .methodref 7 10), (0, .nameAndType 5 11), (0, u "(ZZZ)V"), (0, .methodref 7 13), (0, .nameAndType 14 15), (0, u "atHand"), (0, u "()Z"), (0, .class_ 17), (0, u "com/example/steer/steer/service/BodyAtHandPinLaw"), (2, u "law"), (0, u "(III)Z")] 7

def k1m0 : Method := { name := "<init>", desc := "()V", sig := { parameters := [], returnType := none }, accessFlags := 1, code := none }
def k1c1 : Code := { maxStack := 5, maxLocals := 9, code := code, exceptionTable := #[], attributes := #[] }
def k1m1 : Method := { name := "law", desc := "(III)Z", sig := { parameters := [.int, .int, .int], returnType := some .boolean }, accessFlags := 9, code := some k1c1 }
/-- com/example/steer/steer/service/BodyAtHandPinLaw -/
def k1 : Class := { plain "com/example/steer/steer/service/BodyAtHandPinLaw" (some 0) with
  accessFlags := 49
  interfaces := #[]
  cf := some (fileOf pool1 16 #[] #[{ accessFlags := 1, nameIndex := 5, descriptorIndex := 6, attributes := #[] }, { accessFlags := 9, nameIndex := 20, descriptorIndex := 21, attributes := #[] }] 49 2 #[] #[])
  fields := #[]
  methods := #[k1m0, k1m1]
  instanceTypes := #[]
  staticTypes := #[]
  resolved := Array.replicate 29 none
  statics := none }

def pool2 : Array CpInfo := pool [(1, .methodref 2 3), (0, .class_ 4), (0, .nameAndType 5 6), (0, u "java/lang/Object"), (0, u "<init>"), (0, u "()V"), (0, .class_ 8), (0, u "java/lang/Record")] 13

def k2c0 : Code := { maxStack := 1, maxLocals := 1, code := jdk_30_method_1_code, exceptionTable := #[], attributes := #[] }
def k2m0 : Method := { name := "<init>", desc := "()V", sig := { parameters := [], returnType := none }, accessFlags := 4, code := some k2c0 }
/-- java/lang/Record -/
def k2 : Class := { plain "java/lang/Record" (some 0) with
  accessFlags := 1057
  interfaces := #[]
  cf := some (fileOf pool2 7 #[] #[{ accessFlags := 4, nameIndex := 5, descriptorIndex := 6, attributes := #[] }] 1057 2 #[] #[])
  fields := #[]
  methods := #[k2m0]
  instanceTypes := #[]
  staticTypes := #[]
  resolved := Array.replicate 22 none
  statics := none }

def pool3 : Array CpInfo := pool [(1, .methodref 2 3), (0, .class_ 4), (0, .nameAndType 5 6), (0, u "java/lang/Record"), (0, u "<init>"), (0, u "()V"), (0, .fieldref 8 9), (0, .class_ 10), (0, .nameAndType 11 12), (0, u "com/example/steer/steer/service/Retries$Body"), (0, u "sent"), (0, u "Z"), (0, .fieldref 8 14), (0, .nameAndType 15 12), (0, u "ended"), (0, .fieldref 8 17), (0, .nameAndType 18 12), (0, u "kept"), (12, u "(ZZZ)V"), (3, u "atHand"), (0, u "()Z"), (7, .class_ 45), (0, u "com/example/steer/steer/service/Retries")] 21

def k3c0 : Code := { maxStack := 2, maxLocals := 4, code := prog_28_method_1_code, exceptionTable := #[], attributes := #[] }
def k3m0 : Method := { name := "<init>", desc := "(ZZZ)V", sig := { parameters := [.boolean, .boolean, .boolean], returnType := none }, accessFlags := 1, code := some k3c0 }
def k3c1 : Code := { maxStack := 1, maxLocals := 1, code := prog_28_method_2_code, exceptionTable := #[], attributes := #[] }
def k3m1 : Method := { name := "atHand", desc := "()Z", sig := { parameters := [], returnType := some .boolean }, accessFlags := 0, code := some k3c1 }
/-- com/example/steer/steer/service/Retries$Body -/
def k3 : Class := { plain "com/example/steer/steer/service/Retries$Body" (some 2) with
  accessFlags := 49
  interfaces := #[]
  cf := some (fileOf pool3 8 #[.nestHost 44] #[{ accessFlags := 1, nameIndex := 5, descriptorIndex := 31, attributes := #[] }, { accessFlags := 0, nameIndex := 35, descriptorIndex := 36, attributes := #[] }] 49 2 #[] #[{ accessFlags := 18, nameIndex := 11, descriptorIndex := 12, attributes := #[] }, { accessFlags := 18, nameIndex := 15, descriptorIndex := 12, attributes := #[] }, { accessFlags := 18, nameIndex := 18, descriptorIndex := 12, attributes := #[] }])
  fields := #[{ name := "sent", type := .boolean, accessFlags := 18, slot := 0, constantValue := 0 }, { name := "ended", type := .boolean, accessFlags := 18, slot := 1, constantValue := 0 }, { name := "kept", type := .boolean, accessFlags := 18, slot := 2, constantValue := 0 }]
  methods := #[k3m0, k3m1]
  instanceTypes := #[.boolean, .boolean, .boolean]
  staticTypes := #[]
  resolved := Array.replicate 67 none
  statics := none }

def pool4 : Array CpInfo := pool [(1, u "java/lang/Cloneable"), (0, .class_ 1), (0, u "java/lang/Object"), (0, .class_ 3)] 3

/-- java/lang/Cloneable -/
def k4 : Class := { plain "java/lang/Cloneable" (some 0) with
  accessFlags := 1537
  interfaces := #[]
  cf := some (fileOf pool4 2 #[] #[] 1537 4 #[] #[])
  fields := #[]
  methods := #[]
  instanceTypes := #[]
  staticTypes := #[]
  resolved := Array.replicate 8 none
  statics := none }

def pool5 : Array CpInfo := pool [(1, u "java/io/Serializable"), (0, .class_ 1), (0, u "java/lang/Object"), (0, .class_ 3)] 3

/-- java/io/Serializable -/
def k5 : Class := { plain "java/io/Serializable" (some 0) with
  accessFlags := 1537
  interfaces := #[]
  cf := some (fileOf pool5 2 #[] #[] 1537 4 #[] #[])
  fields := #[]
  methods := #[]
  instanceTypes := #[]
  staticTypes := #[]
  resolved := Array.replicate 8 none
  statics := none }

/-- the primitive byte -/
def k6 : Class := { plain "byte" none with kind := .primitive 'B', accessFlags := 0x411 }
/-- [B -/
def k7 : Class := { plain "[B" (some 0) with kind := .array 6 .byte, interfaces := #[4, 5], accessFlags := 1041 }

/-- the primitive int -/
def k8 : Class := { plain "int" none with kind := .primitive 'I', accessFlags := 0x411 }
/-- [I -/
def k9 : Class := { plain "[I" (some 0) with kind := .array 8 .int, interfaces := #[4, 5], accessFlags := 1041 }

def heap : Heap := #[]
def classes : Array Class := #[k0, k1, k2, k3, k4, k5, k6, k7, k8, k9]
def interned : List (Array UInt16 × Addr) := []
def slotsUsed : Nat := 0
def theMethod : MethodId := ⟨1, 1⟩
def args0 : Array Value := #[.int 5, .int 300, .int 7]
def aboutOver (below : List Frame) : State where
  vm := { classes := classes, interned := interned.toArray }
  heap := heap
  slotsUsed := slotsUsed
  threads := #[{ frames := .invoking theMethod args0 :: below }]
def below0 : List Frame := [.native { method := ⟨0, 0⟩, args := #[] }]
def about1 : State := aboutOver below0
def p0 : Program := .bare "" "" ""
def e0 : Env := launch0.env 0 0 0
theorem w_frames : about1.frames = Frame.invoking theMethod args0 :: below0 := rfl
set_option maxRecDepth 65536 in
theorem w_args : argsFit about1.vm theMethod args0 = true := by decide +kernel
set_option maxRecDepth 65536 in
theorem w_heap : heapFits about1 = true := by decide +kernel
set_option maxRecDepth 65536 in
theorem w_runnable : about1.curStatus? = some .runnable := by decide +kernel
set_option maxRecDepth 65536 in
theorem w_alone : about1.alone = true := by decide +kernel
set_option maxRecDepth 65536 in
theorem w_named : about1.methodNamed? x = some theMethod := by decide +kernel
set_option maxRecDepth 65536 in
theorem w_hears : about1.hears theMethod below0 = true := by decide +kernel
set_option maxRecDepth 65536 in
theorem w_ripe : about1.ripe theMethod args0 below0 = true := by decide +kernel
theorem w_running : about1.status = .running := rfl
set_option maxRecDepth 65536 in
theorem w_room : about1.hasRoom e0.platform room_1 = true :=
  launch0.hasRoom_least _ room_1 (by decide +kernel) (by decide +kernel) (by decide +kernel) (by decide +kernel) (by decide +kernel) (by decide +kernel)
theorem allAtoms_all (ts : List Jvm.Cond) (a : Array Jvm.Value) (st : Jvm.State) : (allAtoms ts).before a st = ts.all (fun c => c.before a st) := by
  induction ts with
  | nil => rfl
  | cons c t ih =>
    show (Jvm.Cond.and c (allAtoms t)).before a st = _
    rw [Jvm.Cond.before_and, ih, List.all_cons]
def words1 : List Jvm.Cond := Jvm.Cond.code x code maxLocals ret :: tables_1
/-- a 'code' word, met by the world's own term for the bytes: nothing is compared byte by byte -/
theorem code_word {y : MethodName} {bytes : ByteArray} {mx : Nat} {rt : Option FieldType} {a : Array Value} {s : State} {m : MethodId} {meth : Method} {c : Code} (h1 : s.methodNamed? y = some m) (h2 : s.vm.method? m = some meth) (h3 : meth.code = some c) (h4 : c.code = bytes)
    (h5 : (c.maxLocals == mx && c.exceptionTable.isEmpty && decide (c.maxStack ≤ mostOperands) && decide (meth.sig.returnType = rt) && !meth.locks && decide (parseMethodDescriptor y.desc = some meth.sig)) = true) : (Jvm.Cond.code y bytes mx rt).before a s = true := by
  simp only [Bool.and_eq_true, beq_iff_eq, Bool.not_eq_true', decide_eq_true_eq] at h5
  obtain ⟨⟨⟨⟨⟨g1, g2⟩, g3⟩, g4⟩, g5⟩, g6⟩ := h5
  simp [Cond.before, Cond.holds, Cond.value, h1, h2, h3, h4, g1, g2, g3, g4, g5, g6]
def isCode : Jvm.Cond → Bool
  | .code _ _ _ _ => true
  | _ => false
theorem all_split {L : List Jvm.Cond} {P : Jvm.Cond → Bool} (h1 : L.all (fun c => isCode c || P c) = true) (h2 : ∀ c ∈ L.filter isCode, P c = true) : L.all P = true := by
  refine List.all_eq_true.mpr fun c hc => ?_
  have h := List.all_eq_true.mp h1 c hc
  rcases Bool.eq_false_or_eq_true (isCode c) with hi | hi
  · exact h2 c (List.mem_filter.mpr ⟨hc, hi⟩)
  · simpa [hi] using h
set_option maxRecDepth 65536 in
theorem w_c0 : (Jvm.Cond.code x code maxLocals ret).before args0 about1 = true := code_word (m := ⟨1, 1⟩) (meth := k1m1) (c := k1c1) (by decide +kernel) rfl rfl rfl (by decide +kernel)
set_option maxRecDepth 65536 in
theorem w_c1 : (Jvm.Cond.code ({ cls := "com/example/steer/steer/service/Retries$Body", name := "<init>", desc := "(ZZZ)V" } : Jvm.MethodName) prog_28_method_1_code (4 : Nat) (Option.none : Option Jvm.ClassFile.FieldType)).before args0 about1 = true := code_word (m := ⟨3, 0⟩) (meth := k3m0) (c := k3c0) (by decide +kernel) rfl rfl rfl (by decide +kernel)
set_option maxRecDepth 65536 in
theorem w_c2 : (Jvm.Cond.code ({ cls := "java/lang/Record", name := "<init>", desc := "()V" } : Jvm.MethodName) jdk_30_method_1_code (1 : Nat) (Option.none : Option Jvm.ClassFile.FieldType)).before args0 about1 = true := code_word (m := ⟨2, 0⟩) (meth := k2m0) (c := k2c0) (by decide +kernel) rfl rfl rfl (by decide +kernel)
set_option maxRecDepth 65536 in
theorem w_c3 : (Jvm.Cond.code ({ cls := "java/lang/Object", name := "<init>", desc := "()V" } : Jvm.MethodName) object_method_1_code (1 : Nat) (Option.none : Option Jvm.ClassFile.FieldType)).before args0 about1 = true := code_word (m := ⟨0, 0⟩) (meth := k0m0) (c := k0c0) (by decide +kernel) rfl rfl rfl (by decide +kernel)
set_option maxRecDepth 65536 in
theorem w_c4 : (Jvm.Cond.code ({ cls := "com/example/steer/steer/service/Retries$Body", name := "atHand", desc := "()Z" } : Jvm.MethodName) prog_28_method_2_code (1 : Nat) (Option.some Jvm.ClassFile.FieldType.boolean)).before args0 about1 = true := code_word (m := ⟨3, 1⟩) (meth := k3m1) (c := k3c1) (by decide +kernel) rfl rfl rfl (by decide +kernel)
def codes1 : List Jvm.Cond := [Jvm.Cond.code x code maxLocals ret, Jvm.Cond.code ({ cls := "com/example/steer/steer/service/Retries$Body", name := "<init>", desc := "(ZZZ)V" } : Jvm.MethodName) prog_28_method_1_code (4 : Nat) (Option.none : Option Jvm.ClassFile.FieldType), Jvm.Cond.code ({ cls := "java/lang/Record", name := "<init>", desc := "()V" } : Jvm.MethodName) jdk_30_method_1_code (1 : Nat) (Option.none : Option Jvm.ClassFile.FieldType), Jvm.Cond.code ({ cls := "java/lang/Object", name := "<init>", desc := "()V" } : Jvm.MethodName) object_method_1_code (1 : Nat) (Option.none : Option Jvm.ClassFile.FieldType), Jvm.Cond.code ({ cls := "com/example/steer/steer/service/Retries$Body", name := "atHand", desc := "()Z" } : Jvm.MethodName) prog_28_method_2_code (1 : Nat) (Option.some Jvm.ClassFile.FieldType.boolean)]
set_option maxRecDepth 65536 in
theorem codes_eq : words1.filter isCode = codes1 := rfl
theorem w_codes : ∀ c ∈ words1.filter isCode, c.before args0 about1 = true := by
  rw [codes_eq]
  intro c hc
  simp only [codes1, List.mem_cons, List.not_mem_nil, or_false] at hc
  rcases hc with rfl | rfl | rfl | rfl | rfl
  · exact w_c0
  · exact w_c1
  · exact w_c2
  · exact w_c3
  · exact w_c4
set_option maxRecDepth 65536 in
theorem w_t1 : (words1.take 24).all (fun c => isCode c || c.before args0 about1) = true := by decide +kernel
set_option maxRecDepth 65536 in
theorem w_t2 : (words1.drop 24).all (fun c => isCode c || c.before args0 about1) = true := by decide +kernel
theorem w_tables : (allAtoms (Jvm.Cond.code x code maxLocals ret :: tables_1)).before args0 about1 = true := by
  rw [allAtoms_all]
  show words1.all (fun c => c.before args0 about1) = true
  refine all_split ?_ w_codes
  rw [← List.take_append_drop 24 words1, List.all_append, w_t1, w_t2]
  rfl
set_option maxRecDepth 65536 in
theorem w_case : (Jvm.Cond.and given_1 narrow_1).before args0 about1 = true := by decide +kernel
theorem w_applies : (headSpec (Jvm.Cond.code x code maxLocals ret :: tables_1) room_1).applies x e0.platform about1 = true :=
  (Spec.applies_iff w_frames).mpr ⟨w_running, w_runnable, w_alone, w_named, w_hears, w_ripe, w_room, w_tables⟩
theorem atStart : AtStart classFile x code maxLocals ret World_1 tables_1 room_1 Calls_1 rest_1 Pre_1 launch0 p0 e0 about1 theMethod args0 below0 :=
  ⟨lists_1, trivial, launch0.admits_env _ _ _, launch0.least_env, fairChoices_fair.cas, fairChoices_fair.clock, w_frames, w_args, w_heap, w_applies, trivial, trivial, w_case⟩
end start1
theorem witness_1 : WitnessClaimed_1 := ⟨start1.p0, start1.e0, start1.about1, start1.theMethod, start1.args0, start1.below0, start1.atStart⟩
end Jvm.Pilot.@@N@@
