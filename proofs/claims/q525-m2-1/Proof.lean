import JvmDerived
import JvmDerived.Pilot.@@N@@Statement
import JvmDerived.Pilot.@@N@@Code
set_option linter.unusedVariables false
set_option linter.unusedSimpArgs false
namespace Jvm.Pilot.@@N@@
open Jvm Jvm.ClassFile Sem Op Lib Jvm.Free Jvm.Stand Jvm.LawKit Jvm.RoadKit Bundle Jvm.Pilot.@@N@@.Jvm.D
/-- a boolean as an int -/
def own_b (P : Prop) [Decidable P] : Int32 := if P then 1 else 0
theorem own_b1 {P : Prop} [Decidable P] (h : P) : own_b P = 1 := if_pos h
theorem own_b0 {P : Prop} [Decidable P] (h : ¬ P) : own_b P = 0 := if_neg h
theorem own_b0_eq_f {P : Prop} [Decidable P] (h : P) : ifCond.holds .eq (own_b P) = false := by rw [own_b1 h]; rfl
theorem own_b0_eq_t {P : Prop} [Decidable P] (h : ¬ P) : ifCond.holds .eq (own_b P) = true := by rw [own_b0 h]; rfl
theorem own_b0_ne_t {P : Prop} [Decidable P] (h : P) : ifCond.holds .ne (own_b P) = true := by rw [own_b1 h]; rfl
theorem own_b0_ne_f {P : Prop} [Decidable P] (h : ¬ P) : ifCond.holds .ne (own_b P) = false := by rw [own_b0 h]; rfl
theorem own_bnar (P : Prop) [Decidable P] : nar .boolean (own_b P) = own_b P := by by_cases h : P <;> simp [own_b, h, nar]
theorem own_biff {P Q : Prop} [Decidable P] [Decidable Q] (h : P ↔ Q) : own_b P = own_b Q := by by_cases q : Q <;> simp [own_b, h, q]
/-! own_Go: from T with the frame g on top the method's run comes to an end of which P holds. One rule a plain instruction, so that a walk may fork anywhere. -/
def own_Go (p : Program) (e : Env) (below : List Frame) (P : State → Outcome → Prop) (T : State) (g : JFrame) : Prop :=
  ∃ s₂ o, Steps p.tables e below (T.setTop g) s₂ ∧ s₂.status = .running ∧ Ended s₂ below o ∧ P s₂ o
section OwnGo
variable {p : Program} {l : Launch} {e : Env} {R : Room} {s : State} {m : MethodId} {args : Array Value} {below : List Frame} {meth : Method} {c : Code} {T T' : State} {locs : List Loc} {cells slots : Nat} {P : State → Outcome → Prop} {Ls Ls' : Array Slot} {st : List Value} {pc pc' : Nat} {g g' : JFrame}
theorem own_st (h : ∀ t, Steps p.tables e below (T'.setTop g') t → Steps p.tables e below (T.setTop g) t) (k : own_Go p e below P T' g') : own_Go p e below P T g := by
  obtain ⟨s₂, o, h1, h2⟩ := k; exact ⟨s₂, o, h _ h1, h2⟩
theorem own_tr (h : Steps p.tables e below (T.setTop g) (T'.setTop g')) (k : own_Go p e below P T' g') : own_Go p e below P T g := by
  obtain ⟨s₂, o, h1, h2⟩ := k; exact ⟨s₂, o, h.trans h1, h2⟩
theorem own_aloadN (X : Stand p l e R s m args below meth c T locs cells slots) (hx : p.tables.exec = Jvm.exec) {k : Fin 4} {v : Value} (hd : decode c.code pc = .ok (.aload_n k, 1)) (hp : pc + 1 = pc') (hl : Ls[k.val]? = some (.val v)) (hv : v.isRef = true) (h : own_Go p e below P T (mkF m pc' Ls (v :: st))) : own_Go p e below P T (mkF m pc Ls st) := by
  subst hp; exact own_st (fun t k => XS.aloadN X.here hx rfl hd hl hv k) h
theorem own_aload (X : Stand p l e R s m args below meth c T locs cells slots) (hx : p.tables.exec = Jvm.exec) {k : Nat} {v : Value} (hd : decode c.code pc = .ok (.aload k, 2)) (hp : pc + 2 = pc') (hl : Ls[k]? = some (.val v)) (hv : v.isRef = true) (h : own_Go p e below P T (mkF m pc' Ls (v :: st))) : own_Go p e below P T (mkF m pc Ls st) := by
  subst hp; exact own_st (fun t k => XS.aload X.here hx rfl hd hl hv k) h
theorem own_iloadN (X : Stand p l e R s m args below meth c T locs cells slots) (hx : p.tables.exec = Jvm.exec) {k : Fin 4} {v : Int32} (hd : decode c.code pc = .ok (.iload_n k, 1)) (hp : pc + 1 = pc') (hl : Ls[k.val]? = some (.val (.int v))) (h : own_Go p e below P T (mkF m pc' Ls (.int v :: st))) : own_Go p e below P T (mkF m pc Ls st) := by
  subst hp; exact own_st (fun t k => XS.iloadN X.here hx rfl hd hl k) h
theorem own_iload (X : Stand p l e R s m args below meth c T locs cells slots) (hx : p.tables.exec = Jvm.exec) {k : Nat} {v : Int32} (hd : decode c.code pc = .ok (.iload k, 2)) (hp : pc + 2 = pc') (hl : Ls[k]? = some (.val (.int v))) (h : own_Go p e below P T (mkF m pc' Ls (.int v :: st))) : own_Go p e below P T (mkF m pc Ls st) := by
  subst hp; exact own_st (fun t k => XS.iload X.here hx rfl hd hl k) h
theorem own_lloadN (X : Stand p l e R s m args below meth c T locs cells slots) (hx : p.tables.exec = Jvm.exec) {k : Fin 4} {v : Int64} (hd : decode c.code pc = .ok (.lload_n k, 1)) (hp : pc + 1 = pc') (hl : Ls[k.val]? = some (.val (.long v))) (h : own_Go p e below P T (mkF m pc' Ls (.long v :: st))) : own_Go p e below P T (mkF m pc Ls st) := by
  subst hp; exact own_st (fun t k => XT.lloadN X.here hx rfl hd hl k) h
theorem own_lload (X : Stand p l e R s m args below meth c T locs cells slots) (hx : p.tables.exec = Jvm.exec) {k : Nat} {v : Int64} (hd : decode c.code pc = .ok (.lload k, 2)) (hp : pc + 2 = pc') (hl : Ls[k]? = some (.val (.long v))) (h : own_Go p e below P T (mkF m pc' Ls (.long v :: st))) : own_Go p e below P T (mkF m pc Ls st) := by
  subst hp; exact own_st (fun t k => XT.lload X.here hx rfl hd hl k) h
theorem own_iconst (X : Stand p l e R s m args below meth c T locs cells slots) (hx : p.tables.exec = Jvm.exec) {i : Int} (v : Int32) (hd : decode c.code pc = .ok (.iconst i, 1)) (hp : pc + 1 = pc') (hv : Int32.ofInt i = v) (h : own_Go p e below P T (mkF m pc' Ls (.int v :: st))) : own_Go p e below P T (mkF m pc Ls st) := by
  subst hp hv; exact own_st (fun t k => XS.iconst X.here hx rfl hd k) h
theorem own_bipush (X : Stand p l e R s m args below meth c T locs cells slots) (hx : p.tables.exec = Jvm.exec) {i : Int} (v : Int32) (hd : decode c.code pc = .ok (.bipush i, 2)) (hp : pc + 2 = pc') (hv : (Int8.ofInt i).toInt32 = v) (h : own_Go p e below P T (mkF m pc' Ls (.int v :: st))) : own_Go p e below P T (mkF m pc Ls st) := by
  subst hp hv; exact own_st (fun t k => XS.bipush X.here hx rfl hd k) h
theorem own_sipush (X : Stand p l e R s m args below meth c T locs cells slots) (hx : p.tables.exec = Jvm.exec) {i : Int} (v : Int32) (hd : decode c.code pc = .ok (.sipush i, 3)) (hp : pc + 3 = pc') (hv : (Int16.ofInt i).toInt32 = v) (h : own_Go p e below P T (mkF m pc' Ls (.int v :: st))) : own_Go p e below P T (mkF m pc Ls st) := by
  subst hp hv; exact own_st (fun t k => XS.sipush X.here hx rfl hd k) h
theorem own_lconst (X : Stand p l e R s m args below meth c T locs cells slots) (hx : p.tables.exec = Jvm.exec) {i : Fin 2} (v : Int64) (hd : decode c.code pc = .ok (.lconst i, 1)) (hp : pc + 1 = pc') (hv : Int64.ofNat i = v) (h : own_Go p e below P T (mkF m pc' Ls (.long v :: st))) : own_Go p e below P T (mkF m pc Ls st) := by
  subst hp hv; exact own_st (fun t k => XT.lconst X.here hx rfl hd k) h
theorem own_ldcI (X : Stand p l e R s m args below meth c T locs cells slots) (hx : p.tables.exec = Jvm.exec) {own : String} {index : Nat} {v : Int32} (hown : s.vm.findClass own = some m.cls) (hc : (Cond.constant own index v).before args s = true) (hd : decode c.code pc = .ok (.ldc index, 2)) (hp : pc + 2 = pc') (h : own_Go p e below P T (mkF m pc' Ls (.int v :: st))) : own_Go p e below P T (mkF m pc Ls st) := by
  subst hp; exact own_st (fun t k => X.ldcI hx hown hc rfl hd k) h
theorem own_ldcJ (X : Stand p l e R s m args below meth c T locs cells slots) (hx : p.tables.exec = Jvm.exec) {own : String} {index : Nat} {v : Int64} (hown : s.vm.findClass own = some m.cls) (hc : (Cond.constantLong own index v).before args s = true) (hd : decode c.code pc = .ok (.ldc2_w index, 3)) (hp : pc + 3 = pc') (h : own_Go p e below P T (mkF m pc' Ls (.long v :: st))) : own_Go p e below P T (mkF m pc Ls st) := by
  subst hp; exact own_st (fun t k => X.ldc2J hx hown hc rfl hd k) h
theorem own_null (X : Stand p l e R s m args below meth c T locs cells slots) (hx : p.tables.exec = Jvm.exec) (hd : decode c.code pc = .ok (.aconst_null, 1)) (hp : pc + 1 = pc') (h : own_Go p e below P T (mkF m pc' Ls (.null :: st))) : own_Go p e below P T (mkF m pc Ls st) := by
  subst hp; exact own_st (fun t k => XS.aconstNull X.here hx rfl hd k) h
theorem own_iadd (X : Stand p l e R s m args below meth c T locs cells slots) (hx : p.tables.exec = Jvm.exec) {x y : Int32} (hd : decode c.code pc = .ok (.iadd, 1)) (hp : pc + 1 = pc') (h : own_Go p e below P T (mkF m pc' Ls (.int (x + y) :: st))) : own_Go p e below P T (mkF m pc Ls (.int y :: .int x :: st)) := by
  subst hp; exact own_st (fun t k => XS.iadd X.here hx rfl hd rfl k) h
theorem own_isub (X : Stand p l e R s m args below meth c T locs cells slots) (hx : p.tables.exec = Jvm.exec) {x y : Int32} (hd : decode c.code pc = .ok (.isub, 1)) (hp : pc + 1 = pc') (h : own_Go p e below P T (mkF m pc' Ls (.int (x - y) :: st))) : own_Go p e below P T (mkF m pc Ls (.int y :: .int x :: st)) := by
  subst hp; exact own_st (fun t k => XS.isub X.here hx rfl hd rfl k) h
theorem own_iand (X : Stand p l e R s m args below meth c T locs cells slots) (hx : p.tables.exec = Jvm.exec) {x y : Int32} (hd : decode c.code pc = .ok (.iand, 1)) (hp : pc + 1 = pc') (h : own_Go p e below P T (mkF m pc' Ls (.int (x &&& y) :: st))) : own_Go p e below P T (mkF m pc Ls (.int y :: .int x :: st)) := by
  subst hp; exact own_st (fun t k => XS.iand X.here hx rfl hd rfl k) h
theorem own_imul (X : Stand p l e R s m args below meth c T locs cells slots) (hx : p.tables.exec = Jvm.exec) {x y : Int32} (hd : decode c.code pc = .ok (.imul, 1)) (hp : pc + 1 = pc') (h : own_Go p e below P T (mkF m pc' Ls (.int (x * y) :: st))) : own_Go p e below P T (mkF m pc Ls (.int y :: .int x :: st)) := by
  subst hp; exact own_st (fun t k => XS.imul X.here hx rfl hd rfl k) h
theorem own_irem (X : Stand p l e R s m args below meth c T locs cells slots) (hx : p.tables.exec = Jvm.exec) {x y : Int32} (hd : decode c.code pc = .ok (.irem, 1)) (hp : pc + 1 = pc') (hy : y ≠ 0) (h : own_Go p e below P T (mkF m pc' Ls (.int (x % y) :: st))) : own_Go p e below P T (mkF m pc Ls (.int y :: .int x :: st)) := by
  subst hp; exact own_st (fun t k => iremM X hx rfl hd rfl hy k) h
theorem own_ishr (X : Stand p l e R s m args below meth c T locs cells slots) (hx : p.tables.exec = Jvm.exec) {x y : Int32} (hd : decode c.code pc = .ok (.ishr, 1)) (hp : pc + 1 = pc') (h : own_Go p e below P T (mkF m pc' Ls (.int (x >>> (y &&& 31)) :: st))) : own_Go p e below P T (mkF m pc Ls (.int y :: .int x :: st)) := by
  subst hp; exact own_st (fun t k => XT.ishr X.here hx rfl hd rfl k) h
theorem own_iushr (X : Stand p l e R s m args below meth c T locs cells slots) (hx : p.tables.exec = Jvm.exec) {x y : Int32} (hd : decode c.code pc = .ok (.iushr, 1)) (hp : pc + 1 = pc') (h : own_Go p e below P T (mkF m pc' Ls (.int (XT.ushr x y) :: st))) : own_Go p e below P T (mkF m pc Ls (.int y :: .int x :: st)) := by
  subst hp; exact own_st (fun t k => XT.iushr X.here hx rfl hd rfl k) h
theorem own_i2b (X : Stand p l e R s m args below meth c T locs cells slots) (hx : p.tables.exec = Jvm.exec) {x : Int32} (hd : decode c.code pc = .ok (.i2b, 1)) (hp : pc + 1 = pc') (h : own_Go p e below P T (mkF m pc' Ls (.int (nar .byte x) :: st))) : own_Go p e below P T (mkF m pc Ls (.int x :: st)) := by
  subst hp; exact own_st (fun t k => XT.i2b X.here hx rfl hd rfl k) h
theorem own_i2c (X : Stand p l e R s m args below meth c T locs cells slots) (hx : p.tables.exec = Jvm.exec) {x : Int32} (hd : decode c.code pc = .ok (.i2c, 1)) (hp : pc + 1 = pc') (h : own_Go p e below P T (mkF m pc' Ls (.int (nar .char x) :: st))) : own_Go p e below P T (mkF m pc Ls (.int x :: st)) := by
  subst hp; exact own_st (fun t k => XT.i2c X.here hx rfl hd rfl k) h
theorem own_i2l (X : Stand p l e R s m args below meth c T locs cells slots) (hx : p.tables.exec = Jvm.exec) {x : Int32} (hd : decode c.code pc = .ok (.i2l, 1)) (hp : pc + 1 = pc') (h : own_Go p e below P T (mkF m pc' Ls (.long x.toInt64 :: st))) : own_Go p e below P T (mkF m pc Ls (.int x :: st)) := by
  subst hp; exact own_st (fun t k => XT.i2l X.here hx rfl hd rfl k) h
theorem own_l2i (X : Stand p l e R s m args below meth c T locs cells slots) (hx : p.tables.exec = Jvm.exec) {x : Int64} (hd : decode c.code pc = .ok (.l2i, 1)) (hp : pc + 1 = pc') (h : own_Go p e below P T (mkF m pc' Ls (.int x.toInt32 :: st))) : own_Go p e below P T (mkF m pc Ls (.long x :: st)) := by
  subst hp; exact own_st (fun t k => XT.l2i X.here hx rfl hd rfl k) h
theorem own_lushr (X : Stand p l e R s m args below meth c T locs cells slots) (hx : p.tables.exec = Jvm.exec) {x : Int64} {y : Int32} (hd : decode c.code pc = .ok (.lushr, 1)) (hp : pc + 1 = pc') (h : own_Go p e below P T (mkF m pc' Ls (.long (XT.ushrL x y) :: st))) : own_Go p e below P T (mkF m pc Ls (.int y :: .long x :: st)) := by
  subst hp; exact own_st (fun t k => XT.lushr X.here hx rfl hd rfl k) h
theorem own_lcmp (X : Stand p l e R s m args below meth c T locs cells slots) (hx : p.tables.exec = Jvm.exec) {x y : Int64} (hd : decode c.code pc = .ok (.lcmp, 1)) (hp : pc + 1 = pc') (h : own_Go p e below P T (mkF m pc' Ls (.int (XT.cmpL x y) :: st))) : own_Go p e below P T (mkF m pc Ls (.long y :: .long x :: st)) := by
  subst hp; exact own_st (fun t k => XT.lcmp X.here hx rfl hd rfl k) h
theorem own_dup (X : Stand p l e R s m args below meth c T locs cells slots) (hx : p.tables.exec = Jvm.exec) {x : Value} (hd : decode c.code pc = .ok (.dup, 1)) (hp : pc + 1 = pc') (hc : x.category = 1) (h : own_Go p e below P T (mkF m pc' Ls (x :: x :: st))) : own_Go p e below P T (mkF m pc Ls (x :: st)) := by
  subst hp; exact own_st (fun t k => XS.dup X.here hx rfl hd rfl hc k) h
theorem own_dupX1 (X : Stand p l e R s m args below meth c T locs cells slots) (hx : p.tables.exec = Jvm.exec) {x y : Value} (hd : decode c.code pc = .ok (.dup_x1, 1)) (hp : pc + 1 = pc') (hc : x.category = 1) (hc' : y.category = 1) (h : own_Go p e below P T (mkF m pc' Ls (x :: y :: x :: st))) : own_Go p e below P T (mkF m pc Ls (x :: y :: st)) := by
  subst hp; exact own_st (fun t k => XT.dupX1 X.here hx rfl hd rfl hc hc' k) h
theorem own_pop (X : Stand p l e R s m args below meth c T locs cells slots) (hx : p.tables.exec = Jvm.exec) {x : Value} (hd : decode c.code pc = .ok (.pop, 1)) (hp : pc + 1 = pc') (hc : x.category = 1) (h : own_Go p e below P T (mkF m pc' Ls st)) : own_Go p e below P T (mkF m pc Ls (x :: st)) := by
  subst hp; exact own_st (fun t k => XT.pop X.here hx rfl hd rfl hc k) h
theorem own_istoreN (X : Stand p l e R s m args below meth c T locs cells slots) (hx : p.tables.exec = Jvm.exec) {k : Fin 4} {x : Int32} (hd : decode c.code pc = .ok (.istore_n k, 1)) (hp : pc + 1 = pc') (hl : storeLocals Ls k.val (.int x) = some Ls') (h : own_Go p e below P T (mkF m pc' Ls' st)) : own_Go p e below P T (mkF m pc Ls (.int x :: st)) := by
  subst hp; exact own_st (fun t k => XS.istoreN X.here hx rfl hd rfl hl k) h
theorem own_istore (X : Stand p l e R s m args below meth c T locs cells slots) (hx : p.tables.exec = Jvm.exec) {k : Nat} {x : Int32} (hd : decode c.code pc = .ok (.istore k, 2)) (hp : pc + 2 = pc') (hl : storeLocals Ls k (.int x) = some Ls') (h : own_Go p e below P T (mkF m pc' Ls' st)) : own_Go p e below P T (mkF m pc Ls (.int x :: st)) := by
  subst hp; exact own_st (fun t k => XS.istore X.here hx rfl hd rfl hl k) h
theorem own_lstoreN (X : Stand p l e R s m args below meth c T locs cells slots) (hx : p.tables.exec = Jvm.exec) {k : Fin 4} {x : Int64} (hd : decode c.code pc = .ok (.lstore_n k, 1)) (hp : pc + 1 = pc') (hl : storeLocals Ls k.val (.long x) = some Ls') (h : own_Go p e below P T (mkF m pc' Ls' st)) : own_Go p e below P T (mkF m pc Ls (.long x :: st)) := by
  subst hp; exact own_st (fun t k => XT.lstoreN X.here hx rfl hd rfl hl k) h
theorem own_lstore (X : Stand p l e R s m args below meth c T locs cells slots) (hx : p.tables.exec = Jvm.exec) {k : Nat} {x : Int64} (hd : decode c.code pc = .ok (.lstore k, 2)) (hp : pc + 2 = pc') (hl : storeLocals Ls k (.long x) = some Ls') (h : own_Go p e below P T (mkF m pc' Ls' st)) : own_Go p e below P T (mkF m pc Ls (.long x :: st)) := by
  subst hp; exact own_st (fun t k => XT.lstore X.here hx rfl hd rfl hl k) h
theorem own_astoreN (X : Stand p l e R s m args below meth c T locs cells slots) (hx : p.tables.exec = Jvm.exec) {k : Fin 4} {x : Value} (hd : decode c.code pc = .ok (.astore_n k, 1)) (hp : pc + 1 = pc') (hv : x.isRef = true) (hl : storeLocals Ls k.val x = some Ls') (h : own_Go p e below P T (mkF m pc' Ls' st)) : own_Go p e below P T (mkF m pc Ls (x :: st)) := by
  subst hp; exact own_st (fun t k => XS.astoreN X.here hx rfl hd rfl hv hl k) h
theorem own_astore (X : Stand p l e R s m args below meth c T locs cells slots) (hx : p.tables.exec = Jvm.exec) {k : Nat} {x : Value} (hd : decode c.code pc = .ok (.astore k, 2)) (hp : pc + 2 = pc') (hv : x.isRef = true) (hl : storeLocals Ls k x = some Ls') (h : own_Go p e below P T (mkF m pc' Ls' st)) : own_Go p e below P T (mkF m pc Ls (x :: st)) := by
  subst hp; exact own_st (fun t k => XS.astore X.here hx rfl hd rfl hv hl k) h
theorem own_goto (X : Stand p l e R s m args below meth c T locs cells slots) (hx : p.tables.exec = Jvm.exec) {o : Int} (hd : decode c.code pc = .ok (.goto o, 3)) (ho : 0 ≤ (pc : Int) + o) (hp : ((pc : Int) + o).toNat = pc') (h : own_Go p e below P T (mkF m pc' Ls st)) : own_Go p e below P T (mkF m pc Ls st) := by
  exact own_st (fun t k => XS.goto X.here hx rfl (pc0 := pc) rfl hd ho hp k) h
theorem own_ifY (X : Stand p l e R s m args below meth c T locs cells slots) (hx : p.tables.exec = Jvm.exec) {cd : ClassFile.Cond} {x : Int32} {o : Int} (hd : decode c.code pc = .ok (.ifCond cd o, 3)) (hc : ifCond.holds cd x = true) (ho : 0 ≤ (pc : Int) + o) (hp : ((pc : Int) + o).toNat = pc') (h : own_Go p e below P T (mkF m pc' Ls st)) : own_Go p e below P T (mkF m pc Ls (.int x :: st)) := by
  exact own_st (fun t k => XS.ifYes X.here hx rfl (pc0 := pc) rfl hd rfl hc ho hp k) h
theorem own_ifN (X : Stand p l e R s m args below meth c T locs cells slots) (hx : p.tables.exec = Jvm.exec) {cd : ClassFile.Cond} {x : Int32} {o : Int} (hd : decode c.code pc = .ok (.ifCond cd o, 3)) (hc : ifCond.holds cd x = false) (hp : pc + 3 = pc') (h : own_Go p e below P T (mkF m pc' Ls st)) : own_Go p e below P T (mkF m pc Ls (.int x :: st)) := by
  subst hp; exact own_st (fun t k => XS.ifNo X.here hx rfl hd rfl hc k) h
theorem own_icmpY (X : Stand p l e R s m args below meth c T locs cells slots) (hx : p.tables.exec = Jvm.exec) {cd : ClassFile.Cond} {x y : Int32} {o : Int} (hd : decode c.code pc = .ok (.if_icmp cd o, 3)) (hc : if_icmp.holds cd x y = true) (ho : 0 ≤ (pc : Int) + o) (hp : ((pc : Int) + o).toNat = pc') (h : own_Go p e below P T (mkF m pc' Ls st)) : own_Go p e below P T (mkF m pc Ls (.int y :: .int x :: st)) := by
  exact own_st (fun t k => XS.icmpYes X.here hx rfl (pc0 := pc) rfl hd rfl hc ho hp k) h
theorem own_icmpN (X : Stand p l e R s m args below meth c T locs cells slots) (hx : p.tables.exec = Jvm.exec) {cd : ClassFile.Cond} {x y : Int32} {o : Int} (hd : decode c.code pc = .ok (.if_icmp cd o, 3)) (hc : if_icmp.holds cd x y = false) (hp : pc + 3 = pc') (h : own_Go p e below P T (mkF m pc' Ls st)) : own_Go p e below P T (mkF m pc Ls (.int y :: .int x :: st)) := by
  subst hp; exact own_st (fun t k => XS.icmpNo X.here hx rfl hd rfl hc k) h
theorem own_ifnullY (X : Stand p l e R s m args below meth c T locs cells slots) (hx : p.tables.exec = Jvm.exec) {o : Int} (hd : decode c.code pc = .ok (.ifnull o, 3)) (ho : 0 ≤ (pc : Int) + o) (hp : ((pc : Int) + o).toNat = pc') (h : own_Go p e below P T (mkF m pc' Ls st)) : own_Go p e below P T (mkF m pc Ls (.null :: st)) := by
  exact own_st (fun t k => XS.ifnullYes X.here hx rfl (pc0 := pc) rfl hd rfl ho hp k) h
theorem own_ifnullN (X : Stand p l e R s m args below meth c T locs cells slots) (hx : p.tables.exec = Jvm.exec) {a : Addr} {o : Int} (hd : decode c.code pc = .ok (.ifnull o, 3)) (hp : pc + 3 = pc') (h : own_Go p e below P T (mkF m pc' Ls st)) : own_Go p e below P T (mkF m pc Ls (.ref a :: st)) := by
  subst hp; exact own_st (fun t k => XS.ifnullNo X.here hx rfl hd rfl k) h
theorem own_ifnonnullY (X : Stand p l e R s m args below meth c T locs cells slots) (hx : p.tables.exec = Jvm.exec) {a : Addr} {o : Int} (hd : decode c.code pc = .ok (.ifnonnull o, 3)) (ho : 0 ≤ (pc : Int) + o) (hp : ((pc : Int) + o).toNat = pc') (h : own_Go p e below P T (mkF m pc' Ls st)) : own_Go p e below P T (mkF m pc Ls (.ref a :: st)) := by
  exact own_st (fun t k => XT.ifnonnullYes X.here hx rfl (pc0 := pc) rfl hd rfl ho hp k) h
theorem own_ifnonnullN (X : Stand p l e R s m args below meth c T locs cells slots) (hx : p.tables.exec = Jvm.exec) {o : Int} (hd : decode c.code pc = .ok (.ifnonnull o, 3)) (hp : pc + 3 = pc') (h : own_Go p e below P T (mkF m pc' Ls st)) : own_Go p e below P T (mkF m pc Ls (.null :: st)) := by
  subst hp; exact own_st (fun t k => XT.ifnonnullNo X.here hx rfl hd rfl k) h
theorem own_acmpY (X : Stand p l e R s m args below meth c T locs cells slots) (hx : p.tables.exec = Jvm.exec) {cd : ACond} {x y : Value} {o : Int} (h1 : x.isRef = true) (h2 : y.isRef = true) (hd : decode c.code pc = .ok (.if_acmp cd o, 3)) (hc : XT.acmp cd x y = true) (ho : 0 ≤ (pc : Int) + o) (hp : ((pc : Int) + o).toNat = pc') (h : own_Go p e below P T (mkF m pc' Ls st)) : own_Go p e below P T (mkF m pc Ls (y :: x :: st)) := by
  exact own_st (fun t k => XT.acmpYes X.here hx rfl (pc0 := pc) rfl hd rfl h1 h2 hc ho hp k) h
theorem own_acmpN (X : Stand p l e R s m args below meth c T locs cells slots) (hx : p.tables.exec = Jvm.exec) {cd : ACond} {x y : Value} {o : Int} (h1 : x.isRef = true) (h2 : y.isRef = true) (hd : decode c.code pc = .ok (.if_acmp cd o, 3)) (hc : XT.acmp cd x y = false) (hp : pc + 3 = pc') (h : own_Go p e below P T (mkF m pc' Ls st)) : own_Go p e below P T (mkF m pc Ls (y :: x :: st)) := by
  subst hp; exact own_st (fun t k => XT.acmpNo X.here hx rfl hd rfl h1 h2 hc k) h
theorem own_cut (h1 : own_Go p e below P T g' → own_Go p e below P T g) (h2 : own_Go p e below P T g') : own_Go p e below P T g := h1 h2
theorem own_iinc (X : Stand p l e R s m args below meth c T locs cells slots) (hx : p.tables.exec = Jvm.exec) {k : Nat} {cst : Int} {x : Int32} (v : Int32) (hd : decode c.code pc = .ok (.iinc k cst, 3)) (hp : pc + 3 = pc') (hl : Ls[k]? = some (.val (.int x))) (hv : x + Int32.ofInt cst = v) (hs : storeLocals Ls k (.int v) = some Ls') (h : own_Go p e below P T (mkF m pc' Ls' st)) : own_Go p e below P T (mkF m pc Ls st) := by
  subst hp hv; exact own_st (fun t k => XS.iinc X.here hx rfl hd hl hs k) h
theorem own_stv {Ls : Array Slot} {k : Nat} {v : Value} {o : Slot} (hv : v.isRef = true) (hold : Ls[k]? = some o) (ho : o = .unset ∨ ∃ w, o = .val w ∧ w.category = 1) : storeLocals Ls k v = some (Ls.setIfInBounds k (.val v)) := XS.store1 hold ho (XT.cat1 hv)
abbrev own_End (s : State) (Q : Option Value → Heap → List Loc → Prop) (k n : Nat) : State → Outcome → Prop := fun u o => ∃ v L, o = .returned v ∧ Q v u.heap L ∧ FrameEnd s o u L k n
variable {Q : Option Value → Heap → List Loc → Prop} {ck sn : Nat}
theorem own_retZ (X : Stand p l e R s m args below meth c T locs cells slots) (hx : p.tables.exec = Jvm.exec) (hk : meth.locks = false) {t : FieldType} (hret : meth.sig.returnType = some t) (ht : t = .boolean ∨ t = .byte ∨ t = .char ∨ t = .short) {z : Int32} (hd : decode c.code pc = .ok (.ireturn, 1)) (hc : cells ≤ ck) (hs : slots ≤ sn) (hQ : Q (some (.int (nar t z))) T.heap locs) :
    own_Go p e below (own_End s Q ck sn) T (mkF m pc Ls (.int z :: st)) := by
  obtain ⟨fs, hr, hrun, hended, hW, hsame⟩ := X.leave (v := some (.int (nar t z))) (fun h => by rw [hret] at h; cases h) hk
  exact ⟨_, _, retN X hx hret ht hd hr, hrun, hended, _, _, rfl, hQ, ⟨_, rfl⟩, hW, hsame.mono hc hs⟩
theorem own_retI (X : Stand p l e R s m args below meth c T locs cells slots) (hx : p.tables.exec = Jvm.exec) (hk : meth.locks = false) (hret : meth.sig.returnType = some .int) {z : Int32} (hd : decode c.code pc = .ok (.ireturn, 1)) (hc : cells ≤ ck) (hs : slots ≤ sn) (hQ : Q (some (.int z)) T.heap locs) :
    own_Go p e below (own_End s Q ck sn) T (mkF m pc Ls (.int z :: st)) := by
  obtain ⟨fs, hr, hrun, hended, hW, hsame⟩ := X.leave (v := some (.int z)) (fun h => by rw [hret] at h; cases h) hk
  exact ⟨_, _, retOut X hx hret rfl (Or.inl ⟨rfl, Or.inl rfl, z, rfl⟩) hd hr, hrun, hended, _, _, rfl, hQ, ⟨_, rfl⟩, hW, hsame.mono hc hs⟩
theorem own_retL (X : Stand p l e R s m args below meth c T locs cells slots) (hx : p.tables.exec = Jvm.exec) (hk : meth.locks = false) (hret : meth.sig.returnType = some .long) {z : Int64} (hd : decode c.code pc = .ok (.lreturn, 1)) (hc : cells ≤ ck) (hs : slots ≤ sn) (hQ : Q (some (.long z)) T.heap locs) :
    own_Go p e below (own_End s Q ck sn) T (mkF m pc Ls (.long z :: st)) := by
  obtain ⟨fs, hr, hrun, hended, hW, hsame⟩ := X.leave (v := some (.long z)) (fun h => by rw [hret] at h; cases h) hk
  exact ⟨_, _, retOut X hx hret rfl (Or.inr (Or.inl ⟨rfl, rfl, z, rfl⟩)) hd hr, hrun, hended, _, _, rfl, hQ, ⟨_, rfl⟩, hW, hsame.mono hc hs⟩
theorem own_narR {t : FieldType} {w : Value} (ht : t.isReference = true) (hw : w.isRef = true) : narrow t w = w := by
  rcases ref_cases hw with rfl | ⟨a, rfl⟩ <;> cases t <;> first | rfl | (cases ht; done)
theorem own_retA (X : Stand p l e R s m args below meth c T locs cells slots) (hx : p.tables.exec = Jvm.exec) (hk : meth.locks = false) {t : FieldType} (hret : meth.sig.returnType = some t) (ht : t.isReference = true) {w : Value} (hw : w.isRef = true) (hd : decode c.code pc = .ok (.areturn, 1)) (hc : cells ≤ ck) (hs : slots ≤ sn) (hQ : Q (some w) T.heap locs) :
    own_Go p e below (own_End s Q ck sn) T (mkF m pc Ls (w :: st)) := by
  obtain ⟨fs, hr, hrun, hended, hW, hsame⟩ := X.leave (v := some w) (fun h => by rw [hret] at h; cases h) hk
  exact ⟨_, _, retOut X hx hret (own_narR ht hw) (Or.inr (Or.inr (Or.inr (Or.inr ⟨rfl, ht, hw⟩)))) hd hr, hrun, hended, _, _, rfl, hQ, ⟨_, rfl⟩, hW, hsame.mono hc hs⟩
theorem own_retV (X : Stand p l e R s m args below meth c T locs cells slots) (hx : p.tables.exec = Jvm.exec) (hk : meth.locks = false) (hret : meth.sig.returnType = none) (hd : decode c.code pc = .ok (.return_, 1)) (hc : cells ≤ ck) (hs : slots ≤ sn) (hQ : Q none T.heap locs) :
    own_Go p e below (own_End s Q ck sn) T (mkF m pc Ls []) := by
  obtain ⟨fs, hr, hrun, hended, hW, hsame⟩ := X.leave (v := none) (fun _ => rfl) hk
  exact ⟨_, _, X.returnOut hx hret hd hr, hrun, hended, _, _, rfl, hQ, ⟨_, rfl⟩, hW, hsame.mono hc hs⟩
end OwnGo
section OwnArr
variable {p : Program} {l : Launch} {e : Env} {R : Room} {s : State} {m : MethodId} {args : Array Value} {below : List Frame} {meth : Method} {c : Code} {T : State} {locs : List Loc} {cells slots : Nat} {P : State → Outcome → Prop} {Ls : Array Slot} {st : List Value} {pc pc' : Nat} {Z : State} {h : Heap} {a : Addr} {k : ClassId} {ty : FieldType} {n j : Int32} {vs : List Value} {dv : Value}
theorem own_alen (X : Stand p l e R s m args below meth c T locs cells slots) (hx : p.tables.exec = Jvm.exec) (hZ : Z.Warmed39 s.vm) (eT : T.heap = h) (V : Arv Z h a k ty n vs dv) (hd : decode c.code pc = .ok (.arraylength, 1)) (hp : pc + 1 = pc') (hk : own_Go p e below P T (mkF m pc' Ls (.int n :: st))) : own_Go p e below P T (mkF m pc Ls (.ref a :: st)) := by
  subst hp
  obtain ⟨cl, A, -, S, q, -, -⟩ := V
  have w := X.arraylength hx (by rw [eT]; exact A.1) (State.isArrayOf_alike hZ.alike A.2.1) (g := mkF m pc Ls (.ref a :: st)) rfl rfl hd
  rw [len_of S q] at w
  exact own_st w hk
theorem own_baload (X : Stand p l e R s m args below meth c T locs cells slots) (hx : p.tables.exec = Jvm.exec) (hZ : Z.Warmed39 s.vm) (eT : T.heap = h) (V : Arv Z h a k .byte n vs dv) {x : Int32} (hj : ¬ j < 0 ∧ j < n) (hv : vs.getD j.toNatClampNeg dv = .int x) (hd : decode c.code pc = .ok (.baload, 1)) (hp : pc + 1 = pc') (hk : own_Go p e below P T (mkF m pc' Ls (.int x :: st))) : own_Go p e below P T (mkF m pc Ls (.int j :: .ref a :: st)) := by
  subst hp
  obtain ⟨cl, A, -, S, q, H, -⟩ := V
  exact own_st (X.baloadBytes hx (j := j) (v := .int x) (by rw [eT]; exact A.1) (State.isArrayOf_alike hZ.alike A.2.1) A.2.2 (inb_of S hj) (H.at (inb_of S hj) hv) (g := mkF m pc Ls (.int j :: .ref a :: st)) rfl rfl hd) hk
theorem own_aaload (X : Stand p l e R s m args below meth c T locs cells slots) (hx : p.tables.exec = Jvm.exec) (hZ : Z.Warmed39 s.vm) (eT : T.heap = h) (V : Arv Z h a k ty n vs dv) (ht : ty.isReference = true) {x : Value} (hj : ¬ j < 0 ∧ j < n) (hv : vs.getD j.toNatClampNeg dv = x) (hd : decode c.code pc = .ok (.aaload, 1)) (hp : pc + 1 = pc') (hk : own_Go p e below P T (mkF m pc' Ls (x :: st))) : own_Go p e below P T (mkF m pc Ls (.int j :: .ref a :: st)) := by
  subst hp
  obtain ⟨cl, A, -, S, q, H, -⟩ := V
  exact own_st (X.aaload hx (j := j) (v := x) (by rw [eT]; exact A.1) (State.isArrayOf_alike hZ.alike A.2.1) ht A.2.2 (inb_of S hj) (H.at (inb_of S hj) hv) (g := mkF m pc Ls (.int j :: .ref a :: st)) rfl rfl hd) hk
/-- a byte stored: the list with that place set -/
theorem own_bastore (X : Stand p l e R s m args below meth c T locs cells slots) (hx : p.tables.exec = Jvm.exec) (hZ : Z.Warmed39 s.vm) (eT : T.heap = h) (V : Arv Z h a k .byte n vs dv) (i : Nat) {x : Int32} (hj : ¬ j < 0 ∧ j < n) (hi : j.toNatClampNeg = i) (hl : i < vs.length) (hd : decode c.code pc = .ok (.bastore, 1)) :
    ∃ T' h', Stand p l e R s m args below meth c T' (locs ++ [⟨a, j.toNatClampNeg⟩]) cells slots ∧ T'.heap = h' ∧ Wr h h' a j.toNatClampNeg (.int (nar .byte x)) ∧ Arv Z h' a k .byte n (vs.set i (.int (nar .byte x))) dv ∧ ∀ target, Steps p.tables e below (T'.setTop (mkF m (pc + 1) Ls st)) target → Steps p.tables e below (T.setTop (mkF m pc Ls (.int x :: .int j :: .ref a :: st))) target := by
  obtain ⟨cl, A, q1, S, q, H, G⟩ := V
  obtain ⟨T', h', X', e', W, st'⟩ := stB X hx hZ eT A (j := j) (x := x) (inb_of S hj) (g := mkF m pc Ls (.int x :: .int j :: .ref a :: st)) rfl rfl hd
  exact ⟨T', h', X', e', W, Arv.set A q1 S q H G (fits_nar_byte x) W i hi hl, st'⟩
end OwnArr
/-- an array of n places, whatever they hold -/
def own_Len (Z : State) (h : Heap) (a : Addr) (ty : FieldType) (n : Int32) : Prop := ∃ c : Cell, Arr Z h a c ty ∧ c.slots.size = n.toNatClampNeg ∧ ¬ n < 0
section OwnLen
variable {p : Program} {l : Launch} {e : Env} {R : Room} {s : State} {m : MethodId} {args : Array Value} {below : List Frame} {meth : Method} {c : Code} {T : State} {locs : List Loc} {cells slots : Nat} {P : State → Outcome → Prop} {Ls : Array Slot} {st : List Value} {pc pc' : Nat} {Z : State} {h h' : Heap} {a b : Addr} {ty : FieldType} {n j : Int32} {sl : Nat} {v : Value}
theorem own_Len.lt (F : own_Len Z h a ty n) : a < h.size := by obtain ⟨c, A, -⟩ := F; exact A.lt
theorem own_Len.ext (F : own_Len Z h a ty n) (E : Ext h h') : own_Len Z h' a ty n := by obtain ⟨c, A, r⟩ := F; exact ⟨c, A.ext E, r⟩
theorem own_Len.wr (F : own_Len Z h b ty n) (W : Wr h h' a sl v) : own_Len Z h' b ty n := by
  obtain ⟨c, A, S, q⟩ := F
  by_cases g : b = a
  · subst g; exact ⟨_, A.same W, by rw [sz_set]; exact S, q⟩
  · exact ⟨c, A.other W g, S, q⟩
theorem own_Len.keep {ws : List Addr} (F : own_Len Z h a ty n) (K : Keep h h' ws) : own_Len Z h' a ty n := by
  obtain ⟨c, ⟨A1, A2, A3⟩, S, q⟩ := F
  obtain ⟨c', h1, h2, h3, h4⟩ := K.2.2 a c A1
  refine ⟨c', ⟨h1, ?_, by rw [h3]; exact A3⟩, by rw [h4]; exact S, q⟩
  obtain ⟨B1, k, B2, B3⟩ := A2
  exact ⟨by rw [h3]; exact B1, k, by rw [h2]; exact B2, B3⟩
theorem own_alenL (X : Stand p l e R s m args below meth c T locs cells slots) (hx : p.tables.exec = Jvm.exec) (hZ : Z.Warmed39 s.vm) (eT : T.heap = h) (V : own_Len Z h a ty n) (hd : decode c.code pc = .ok (.arraylength, 1)) (hp : pc + 1 = pc') (hk : own_Go p e below P T (mkF m pc' Ls (.int n :: st))) : own_Go p e below P T (mkF m pc Ls (.ref a :: st)) := by
  subst hp
  obtain ⟨cl, A, S, q⟩ := V
  have w := X.arraylength hx (by rw [eT]; exact A.1) (State.isArrayOf_alike hZ.alike A.2.1) (g := mkF m pc Ls (.ref a :: st)) rfl rfl hd
  rw [len_of S q] at w
  exact own_st w hk
theorem own_aastoreNull (X : Stand p l e R s m args below meth c T locs cells slots) (hx : p.tables.exec = Jvm.exec) (hZ : Z.Warmed39 s.vm) (eT : T.heap = h) (V : own_Len Z h a ty n) (ht : ty.isReference = true) (hj : ¬ j < 0 ∧ j < n) (hd : decode c.code pc = .ok (.aastore, 1)) :
    ∃ T' h', Stand p l e R s m args below meth c T' (locs ++ [⟨a, j.toNatClampNeg⟩]) cells slots ∧ T'.heap = h' ∧ Wr h h' a j.toNatClampNeg .null ∧ ∀ target, Steps p.tables e below (T'.setTop (mkF m (pc + 1) Ls st)) target → Steps p.tables e below (T.setTop (mkF m pc Ls (.null :: .int j :: .ref a :: st))) target := by
  obtain ⟨cl, A, S, q⟩ := V
  exact stR X hx hZ eT A (inb_of S hj) ht (Or.inl rfl) (g := mkF m pc Ls (.null :: .int j :: .ref a :: st)) rfl rfl hd
theorem own_aastoreRef (X : Stand p l e R s m args below meth c T locs cells slots) (hx : p.tables.exec = Jvm.exec) (hZ : Z.Warmed39 s.vm) (eT : T.heap = h) (V : own_Len Z h a ty n) (ht : ty.isReference = true) (hj : ¬ j < 0 ∧ j < n) (F : Sto Z h a v) (hd : decode c.code pc = .ok (.aastore, 1)) :
    ∃ T' h', Stand p l e R s m args below meth c T' (locs ++ [⟨a, j.toNatClampNeg⟩]) cells slots ∧ T'.heap = h' ∧ Wr h h' a j.toNatClampNeg v ∧ ∀ target, Steps p.tables e below (T'.setTop (mkF m (pc + 1) Ls st)) target → Steps p.tables e below (T.setTop (mkF m pc Ls (v :: .int j :: .ref a :: st))) target := by
  obtain ⟨cl, A, S, q⟩ := V
  exact stR X hx hZ eT A (inb_of S hj) ht F (g := mkF m pc Ls (v :: .int j :: .ref a :: st)) rfl rfl hd
theorem own_lastore (X : Stand p l e R s m args below meth c T locs cells slots) (hx : p.tables.exec = Jvm.exec) (hZ : Z.Warmed39 s.vm) (eT : T.heap = h) (V : own_Len Z h a .long n) {x : Int64} (hj : ¬ j < 0 ∧ j < n) (hd : decode c.code pc = .ok (.lastore, 1)) :
    ∃ T' h', Stand p l e R s m args below meth c T' (locs ++ [⟨a, j.toNatClampNeg⟩]) cells slots ∧ T'.heap = h' ∧ Wr h h' a j.toNatClampNeg (.long x) ∧ ∀ target, Steps p.tables e below (T'.setTop (mkF m (pc + 1) Ls st)) target → Steps p.tables e below (T.setTop (mkF m pc Ls (.long x :: .int j :: .ref a :: st))) target := by
  obtain ⟨cl, A, S, q⟩ := V
  exact stJ X hx hZ eT A (inb_of S hj) (g := mkF m pc Ls (.long x :: .int j :: .ref a :: st)) rfl rfl hd
/-- an array of references to C, of n places -/
def own_LenO (Z : State) (h : Heap) (a : Addr) (C : String) (n : Int32) : Prop := ∃ c : Cell, Arr Z h a c (.object C) ∧ c.slots.size = n.toNatClampNeg ∧ ¬ n < 0 ∧ Ovr Z c.cls C
theorem own_LenO.len {C : String} (F : own_LenO Z h a C n) : own_Len Z h a (.object C) n := by obtain ⟨c, A, S, q, -⟩ := F; exact ⟨c, A, S, q⟩
theorem own_LenO.lt {C : String} (F : own_LenO Z h a C n) : a < h.size := by obtain ⟨c, A, -⟩ := F; exact A.lt
theorem own_LenO.ext {C : String} (F : own_LenO Z h a C n) (E : Ext h h') : own_LenO Z h' a C n := by obtain ⟨c, A, r⟩ := F; exact ⟨c, A.ext E, r⟩
theorem own_LenO.wr {C : String} (F : own_LenO Z h b C n) (W : Wr h h' a sl v) : own_LenO Z h' b C n := by
  obtain ⟨c, A, S, q, O⟩ := F
  by_cases g : b = a
  · subst g; exact ⟨_, A.same W, by rw [sz_set]; exact S, q, O⟩
  · exact ⟨c, A.other W g, S, q, O⟩
theorem own_LenO.keep {C : String} {ws : List Addr} (F : own_LenO Z h a C n) (K : Keep h h' ws) : own_LenO Z h' a C n := by
  obtain ⟨c, ⟨A1, A2, A3⟩, S, q, O⟩ := F
  obtain ⟨c', h1, h2, h3, h4⟩ := K.2.2 a c A1
  refine ⟨c', ⟨h1, ?_, by rw [h3]; exact A3⟩, by rw [h4]; exact S, q, by rw [h2]; exact O⟩
  obtain ⟨B1, k, B2, B3⟩ := A2
  exact ⟨by rw [h3]; exact B1, k, by rw [h2]; exact B2, B3⟩
theorem own_LenO.sto {C : String} {y : Addr} (F : own_LenO Z h a C n) (I : Ins Z h y C true) : Sto Z h a (.ref y) := by obtain ⟨c, A, S, q, O⟩ := F; exact Sto.of A O I
end OwnLen
theorem own_size {Z : State} {args : Array Value} {t : Term} {a : Addr} {cl : Cell} {n : Int32} {k : Nat} (et : t.eval args Z none [] Z = some (.ref a)) (ha : Z.arrayAt? a = some cl) (h : (Jvm.Cond.eq (.length t) (.int n)).value args Z none Z [] = some true) (hn : n.toInt = k) : cl.slots.size = k := by
  have q := eqv_i (Term.int_eval n) h
  by_cases hl : cl.slots.size < 2 ^ 31
  · have e := (len_f et ha hl).symm.trans q
    injection e with e; injection e with e
    have e2 := len_toInt hl
    rw [e, hn] at e2; omega
  · simp [Term.eval, et, ha, hl] at q
theorem own_sub128 {Z : State} {args : Array Value} {j : Int32} (hj : ¬ j < 0) : (Term.sub (.index 0) (.int 128)).eval args Z none [j.toNatClampNeg] Z = some (.int (j - 128)) := Term.sub_int (idx_at hj) (Term.int_eval 128)
abbrev own_P (j : Nat) : Prop := j = 33 ∨ (35 ≤ j ∧ j < 40) ∨ j = 42 ∨ j = 43 ∨ j = 45 ∨ j = 46 ∨ (48 ≤ j ∧ j < 58) ∨ (65 ≤ j ∧ j < 91) ∨ (94 ≤ j ∧ j < 123) ∨ j = 124 ∨ j = 126
theorem own_iff (c : Int32) : (¬ c < 0 ∧ c < 128 ∧ own_P c.toNatClampNeg) ↔ ((¬ c < (48 : Int32) ∧ ¬ (57 : Int32) < c) ∨ (¬ c < (65 : Int32) ∧ ¬ (90 : Int32) < c) ∨ (¬ c < (97 : Int32) ∧ ¬ (122 : Int32) < c) ∨ c = (33 : Int32) ∨ c = (35 : Int32) ∨ c = (36 : Int32) ∨ c = (37 : Int32) ∨ c = (38 : Int32) ∨ c = (39 : Int32) ∨ c = (42 : Int32) ∨ c = (43 : Int32) ∨ c = (45 : Int32) ∨ c = (46 : Int32) ∨ c = (94 : Int32) ∨ c = (95 : Int32) ∨ c = (96 : Int32) ∨ c = (124 : Int32) ∨ c = (126 : Int32)) := by
  simp only [own_P, Int32.lt_iff_toInt_lt, ← Int32.toInt_inj, Int32.toNatClampNeg, Int32.reduceToInt]
  omega
theorem own_in128 {cl : Cell} {c : Int32} (hs : cl.slots.size = 128) (h1 : ¬ c < 0) (h2 : c < 128) : ¬ (c < 0 ∨ cl.slots.size ≤ c.toNatClampNeg) ∧ c.toNatClampNeg < 128 := by
  rw [hs]; simp only [Int32.lt_iff_toInt_lt, Int32.toNatClampNeg, Int32.reduceToInt] at *; omega
section OwnTab
variable {Z : State} {args : Array Value} {t : Term} {a : Addr} {cl : Cell} {A B v : Int32}
theorem own_orF {G X : Jvm.Cond} {idx : List Nat} (h : (Jvm.Cond.or G X).value args Z none Z idx = some true) (hG : G.value args Z none Z idx = some false) : X.value args Z none Z idx = some true := by simpa [Cond.value, hG] using h
theorem own_j32 {j : Nat} (hj : j < 128) : j.toInt32.toInt = j ∧ ¬ j.toInt32 < 0 ∧ j.toInt32.toNatClampNeg = j := by
  have h := len_toInt (n := j) (by omega)
  have e0 : (0 : Int32).toInt = 0 := rfl
  refine ⟨h, by rw [Int32.lt_iff_toInt_lt, h, e0]; omega, by simp only [Int32.toNatClampNeg]; rw [h]; rfl⟩
theorem own_one {k : Int32} {n : Nat} (et : t.eval args Z none [] Z = some (.ref a)) (ha : Z.arrayAt? a = some cl) (h : (Jvm.Cond.eq (.elem t (.int k)) (.int v)).value args Z none Z [] = some true) (hk : ¬ k < 0) (hn : k.toNatClampNeg = n) : cl.slots[n]? = some (.int v) := by
  subst hn; exact (elem_f et (Term.int_eval k) ha hk).symm.trans (eqv_i (Term.int_eval v) h)
theorem own_elt {j : Nat} (et : ∀ idx, t.eval args Z none idx Z = some (.ref a)) (ha : Z.arrayAt? a = some cl) (hj : j < 128) (h : (Jvm.Cond.eq (.elem t (.index 0)) (.int v)).value args Z none Z [j] = some true) : cl.slots[j]? = some (.int v) := by
  have q := (elem_f (et _) (Term.index_eval j) ha (own_j32 hj).2.1).symm.trans (eqv_i (Term.int_eval v) h)
  rw [(own_j32 hj).2.2] at q; exact q
theorem own_all2 (et : ∀ idx, t.eval args Z none idx Z = some (.ref a)) (ha : Z.arrayAt? a = some cl) (hs : cl.slots.size = 128) (h : (Jvm.Cond.all t (.or (.le (.int B) (.index 0)) (.eq (.elem t (.index 0)) (.int v)))).value args Z none Z [] = some true) {j : Nat} (hj : j < 128) (h2 : (j : Int) < B.toInt) : cl.slots[j]? = some (.int v) := by
  have q := Cond.all_elim (et []) ha h j (by omega)
  have e := (own_j32 hj).1
  exact own_elt et ha hj (own_orF q (nay (Cond.le_ints (Term.int_eval B) (Term.index_eval j)) (by rw [Int32.le_iff_toInt_le]; omega)))
theorem own_all3 (et : ∀ idx, t.eval args Z none idx Z = some (.ref a)) (ha : Z.arrayAt? a = some cl) (hs : cl.slots.size = 128) (h : (Jvm.Cond.all t (.or (.lt (.index 0) (.int A)) (.or (.le (.int B) (.index 0)) (.eq (.elem t (.index 0)) (.int v))))).value args Z none Z [] = some true) {j : Nat} (hj : j < 128) (h1 : A.toInt ≤ (j : Int)) (h2 : (j : Int) < B.toInt) : cl.slots[j]? = some (.int v) := by
  have q := Cond.all_elim (et []) ha h j (by omega)
  have e := (own_j32 hj).1
  exact own_elt et ha hj (own_orF (own_orF q (nay (Cond.lt_ints (Term.index_eval j) (Term.int_eval A)) (by rw [Int32.lt_iff_toInt_lt]; omega))) (nay (Cond.le_ints (Term.int_eval B) (Term.index_eval j)) (by rw [Int32.le_iff_toInt_le]; omega)))
end OwnTab
theorem d1_0 : decode prog_33_method_3_code 0 = .ok (.iload_n 0, 1) := by decide +kernel
theorem d1_1 : decode prog_33_method_3_code 1 = .ok (.ifCond .lt 23, 3) := by decide +kernel
theorem d1_24 : decode prog_33_method_3_code 24 = .ok (.iconst 0, 1) := by decide +kernel
theorem d1_25 : decode prog_33_method_3_code 25 = .ok (.ireturn, 1) := by decide +kernel
theorem d1_4 : decode prog_33_method_3_code 4 = .ok (.iload_n 0, 1) := by decide +kernel
theorem d1_5 : decode prog_33_method_3_code 5 = .ok (.getstatic 23, 3) := by decide +kernel
theorem d1_8 : decode prog_33_method_3_code 8 = .ok (.arraylength, 1) := by decide +kernel
theorem d1_9 : decode prog_33_method_3_code 9 = .ok (.if_icmp .ge 15, 3) := by decide +kernel
theorem d1_12 : decode prog_33_method_3_code 12 = .ok (.getstatic 23, 3) := by decide +kernel
theorem d1_15 : decode prog_33_method_3_code 15 = .ok (.iload_n 0, 1) := by decide +kernel
theorem d1_16 : decode prog_33_method_3_code 16 = .ok (.baload, 1) := by decide +kernel
theorem d1_17 : decode prog_33_method_3_code 17 = .ok (.ifCond .eq 7, 3) := by decide +kernel
theorem d1_20 : decode prog_33_method_3_code 20 = .ok (.iconst 1, 1) := by decide +kernel
theorem d1_21 : decode prog_33_method_3_code 21 = .ok (.goto 4, 3) := by decide +kernel
theorem pn1 : plainFor (⟨"com/example/steer/steer/util/HttpSyntax", "isTchar", "(I)Z"⟩ : MethodName) = true := by first | exact plainFor_of_name (by first | (simp [plainName, overriddenIn]; done) | decide +kernel) | decide +kernel
theorem ef1 (m : MethodId) (c1 : Int32) : entryFrame m #[(.int c1)] 1 = mkF m 0 #[.val (.int c1)] [] := by first | (simp [entryFrame, mkF, argsToLocals, Value.category]; done) | rfl
def Q1 (Z : State) (c1 : Int32) (ta : Addr) (cl : Cell) (h0 : Heap) (n0 : Nat) (v : Option Value) (h : Heap) (L : List Loc) : Prop := v = some (.int (own_b (¬ c1 < 0 ∧ c1 < 128 ∧ own_P c1.toNatClampNeg))) ∧ Fr n0 L ∧ h = h0
set_option maxRecDepth 65536 in
set_option maxHeartbeats 40000000 in
theorem rm1 (l : Launch) (Z : State) (a0 : Array Value) (hw : ∀ d ∈ tables_1, d.before a0 Z = true) (ws : List Jvm.Cond) (c1 : Int32) (ta : Addr) (cl : Cell) (h0 : Heap) (n0 : Nat) (Z0 : n0 ≤ h0.size) (O_a : Old Z n0 h0) (V_a : own_Len Z h0 ta .boolean (128 : Int32)) (Sc : Sta Z Z.heap "com/example/steer/steer/util/HttpSyntax" "TCHAR" "[Z" (.ref ta)) (Ar : Arr Z Z.heap ta cl .boolean) (hsz : cl.slots.size = 128) (TB : ∀ j : Nat, j < 128 → cl.slots[j]? = some (.int (own_b (own_P j)))) :
    MetFree l (⟨"com/example/steer/steer/util/HttpSyntax", "isTchar", "(I)Z"⟩ : MethodName) (head1 (Jvm.Cond.code (⟨"com/example/steer/steer/util/HttpSyntax", "isTchar", "(I)Z"⟩ : MethodName) prog_33_method_3_code 1 (some .boolean) :: ws) ({ frames := 0, cells := 0, slots := 0, locals := 0 } : Room)) (fun a U => a = #[(.int c1)] ∧ Z.Warmed39 U.vm ∧ U.heap = h0) (fun _ _ _ _ _ => True) (fun _ U o U' => ∃ v L, o = .returned v ∧ Q1 Z c1 ta cl h0 n0 v U'.heap L ∧ FrameEnd U o U' L ({ frames := 0, cells := 0, slots := 0, locals := 0 } : Room).cells ({ frames := 0, cells := 0, slots := 0, locals := 0 } : Room).slots) := by
  refine MetFree.of_bodySF pn1 hisR ?_
  intro p e s m args below meth c s₁ Bd hml0 hP hK
  obtain ⟨rfl, hZ, hh⟩ := hP
  have hx := Bd.exec
  have hby := Bd.bytes
  have hlk : meth.locks = false := BodyLoose.notSynchronized Bd
  have hml : c.maxLocals = 1 := hml0
  have hown : s.vm.findClass "com/example/steer/steer/util/HttpSyntax" = some m.cls := findClass_of_methodNamed Bd.named
  have hnm := (name_of_methodNamed Bd.named Bd.method).1
  have X0 : Stand p l e ({ frames := 0, cells := 0, slots := 0, locals := 0 } : Room) s m #[(.int c1)] below meth c s₁ [] 0 0 := Stand.of_body Bd
  have e0 : s₁.heap = h0 := by rw [← hh, Bd.state]; rfl
  have N0 := Fr.nil n0
  rw [ef1 m c1]
  show own_Go p e below (own_End s (Q1 Z c1 ta cl h0 n0) ({ frames := 0, cells := 0, slots := 0, locals := 0 } : Room).cells ({ frames := 0, cells := 0, slots := 0, locals := 0 } : Room).slots) s₁ (mkF m 0 #[.val (.int c1)] [])
  refine own_iloadN X0 hx (hb hby d1_0) (pc' := 1) rfl rfl ?_
  by_cases c_1 : c1 < (0 : Int32)
  · skip
    refine own_ifY X0 hx (hb hby d1_1) (XT.i0_lt_t c_1) (pc' := 24) (by decide) (by decide) ?_
    refine own_iconst X0 hx (0) (hb hby d1_24) (pc' := 25) rfl rfl ?_
    refine own_retZ X0 hx hlk Bd.returns (by simp) (hb hby d1_25) (by decide) (by decide) ?_
    rw [e0]
    exact ⟨by simp [own_b, nar, c_1], N0, rfl⟩
  · skip
    refine own_ifN X0 hx (hb hby d1_1) (XT.i0_lt_f c_1) (pc' := 4) rfl ?_
    refine own_iloadN X0 hx (hb hby d1_4) (pc' := 5) rfl rfl ?_
    obtain ⟨T_2, X_2, e_2, st_2⟩ := getS2 X0 hx hZ hown (host := "") (Or.inl (hw _ (List.mem_of_getElem? (i := 4) rfl))) Via.refl e0 (Sc.ext O_a.2) (g := (mkF m 5 #[.val (.int c1)] [(.int c1)])) rfl (hb hby d1_5)
    refine own_st st_2 ?_
    show own_Go p e below _ T_2 (mkF m 8 #[.val (.int c1)] [(.ref ta), (.int c1)])
    refine own_alenL X_2 hx hZ e_2 V_a (hb hby d1_8) (pc' := 9) rfl ?_
    by_cases c_3 : c1 < (128 : Int32)
    · skip
      refine own_icmpN X_2 hx (hb hby d1_9) (XT.ii_ge_f c_3) (pc' := 12) rfl ?_
      obtain ⟨T_4, X_4, e_4, st_4⟩ := getS2 X_2 hx hZ hown (host := "") (Or.inl (hw _ (List.mem_of_getElem? (i := 4) rfl))) Via.refl e_2 (Sc.ext O_a.2) (g := (mkF m 12 #[.val (.int c1)] [])) rfl (hb hby d1_12)
      refine own_st st_4 ?_
      show own_Go p e below _ T_4 (mkF m 15 #[.val (.int c1)] [(.ref ta)])
      refine own_iloadN X_4 hx (hb hby d1_15) (pc' := 16) rfl rfl ?_
      obtain ⟨hin, hlt⟩ := own_in128 hsz c_1 c_3
      refine own_st (X_4.baloadBooleans hx (j := c1) (v := .int (own_b (own_P c1.toNatClampNeg))) (by rw [e_4]; exact (Ar.ext O_a.2).1) (State.isArrayOf_alike hZ.alike (Ar.ext O_a.2).2.1) (Ar.ext O_a.2).2.2 hin (TB _ hlt) (g := (mkF m 16 #[.val (.int c1)] [(.int c1), (.ref ta)])) rfl rfl (hb hby d1_16)) ?_
      show own_Go p e below _ T_4 (mkF m 17 #[.val (.int c1)] [(.int (own_b (own_P c1.toNatClampNeg)))])
      by_cases c_6 : own_P c1.toNatClampNeg
      · skip
        refine own_ifN X_4 hx (hb hby d1_17) (own_b0_eq_f c_6) (pc' := 20) rfl ?_
        refine own_iconst X_4 hx (1) (hb hby d1_20) (pc' := 21) rfl rfl ?_
        refine own_goto X_4 hx (hb hby d1_21) (pc' := 25) (by decide) (by decide) ?_
        refine own_retZ X_4 hx hlk Bd.returns (by simp) (hb hby d1_25) (by decide) (by decide) ?_
        rw [e_4]
        exact ⟨by simp [own_b, nar, c_1, c_3, c_6], N0, rfl⟩
      · skip
        refine own_ifY X_4 hx (hb hby d1_17) (own_b0_eq_t c_6) (pc' := 24) (by decide) (by decide) ?_
        refine own_iconst X_4 hx (0) (hb hby d1_24) (pc' := 25) rfl rfl ?_
        refine own_retZ X_4 hx hlk Bd.returns (by simp) (hb hby d1_25) (by decide) (by decide) ?_
        rw [e_4]
        exact ⟨by simp [own_b, nar, c_1, c_3, c_6], N0, rfl⟩
    · skip
      refine own_icmpY X_2 hx (hb hby d1_9) (XT.ii_ge_t c_3) (pc' := 24) (by decide) (by decide) ?_
      refine own_iconst X_2 hx (0) (hb hby d1_24) (pc' := 25) rfl rfl ?_
      refine own_retZ X_2 hx hlk Bd.returns (by simp) (hb hby d1_25) (by decide) (by decide) ?_
      rw [e_2]
      exact ⟨by simp [own_b, nar, c_1, c_3], N0, rfl⟩
theorem d2_0 : decode method_2_code 0 = .ok (.iload_n 0, 1) := by decide +kernel
theorem d2_1 : decode method_2_code 1 = .ok (.bipush 48, 2) := by decide +kernel
theorem d2_3 : decode method_2_code 3 = .ok (.if_icmp .lt 11, 3) := by decide +kernel
theorem d2_14 : decode method_2_code 14 = .ok (.iload_n 0, 1) := by decide +kernel
theorem d2_15 : decode method_2_code 15 = .ok (.bipush 65, 2) := by decide +kernel
theorem d2_17 : decode method_2_code 17 = .ok (.if_icmp .lt 11, 3) := by decide +kernel
theorem d2_28 : decode method_2_code 28 = .ok (.iload_n 0, 1) := by decide +kernel
theorem d2_29 : decode method_2_code 29 = .ok (.bipush 97, 2) := by decide +kernel
theorem d2_31 : decode method_2_code 31 = .ok (.if_icmp .lt 11, 3) := by decide +kernel
theorem d2_42 : decode method_2_code 42 = .ok (.iload_n 0, 1) := by decide +kernel
theorem d2_43 : decode method_2_code 43 = .ok (.bipush 33, 2) := by decide +kernel
theorem d2_45 : decode method_2_code 45 = .ok (.if_icmp .eq 87, 3) := by decide +kernel
theorem d2_132 : decode method_2_code 132 = .ok (.iconst 1, 1) := by decide +kernel
theorem d2_133 : decode method_2_code 133 = .ok (.goto 4, 3) := by decide +kernel
theorem d2_137 : decode method_2_code 137 = .ok (.ireturn, 1) := by decide +kernel
theorem d2_48 : decode method_2_code 48 = .ok (.iload_n 0, 1) := by decide +kernel
theorem d2_49 : decode method_2_code 49 = .ok (.bipush 35, 2) := by decide +kernel
theorem d2_51 : decode method_2_code 51 = .ok (.if_icmp .eq 81, 3) := by decide +kernel
theorem d2_54 : decode method_2_code 54 = .ok (.iload_n 0, 1) := by decide +kernel
theorem d2_55 : decode method_2_code 55 = .ok (.bipush 36, 2) := by decide +kernel
theorem d2_57 : decode method_2_code 57 = .ok (.if_icmp .eq 75, 3) := by decide +kernel
theorem d2_60 : decode method_2_code 60 = .ok (.iload_n 0, 1) := by decide +kernel
theorem d2_61 : decode method_2_code 61 = .ok (.bipush 37, 2) := by decide +kernel
theorem d2_63 : decode method_2_code 63 = .ok (.if_icmp .eq 69, 3) := by decide +kernel
theorem d2_66 : decode method_2_code 66 = .ok (.iload_n 0, 1) := by decide +kernel
theorem d2_67 : decode method_2_code 67 = .ok (.bipush 38, 2) := by decide +kernel
theorem d2_69 : decode method_2_code 69 = .ok (.if_icmp .eq 63, 3) := by decide +kernel
theorem d2_72 : decode method_2_code 72 = .ok (.iload_n 0, 1) := by decide +kernel
theorem d2_73 : decode method_2_code 73 = .ok (.bipush 39, 2) := by decide +kernel
theorem d2_75 : decode method_2_code 75 = .ok (.if_icmp .eq 57, 3) := by decide +kernel
theorem d2_78 : decode method_2_code 78 = .ok (.iload_n 0, 1) := by decide +kernel
theorem d2_79 : decode method_2_code 79 = .ok (.bipush 42, 2) := by decide +kernel
theorem d2_81 : decode method_2_code 81 = .ok (.if_icmp .eq 51, 3) := by decide +kernel
theorem d2_84 : decode method_2_code 84 = .ok (.iload_n 0, 1) := by decide +kernel
theorem d2_85 : decode method_2_code 85 = .ok (.bipush 43, 2) := by decide +kernel
theorem d2_87 : decode method_2_code 87 = .ok (.if_icmp .eq 45, 3) := by decide +kernel
theorem d2_90 : decode method_2_code 90 = .ok (.iload_n 0, 1) := by decide +kernel
theorem d2_91 : decode method_2_code 91 = .ok (.bipush 45, 2) := by decide +kernel
theorem d2_93 : decode method_2_code 93 = .ok (.if_icmp .eq 39, 3) := by decide +kernel
theorem d2_96 : decode method_2_code 96 = .ok (.iload_n 0, 1) := by decide +kernel
theorem d2_97 : decode method_2_code 97 = .ok (.bipush 46, 2) := by decide +kernel
theorem d2_99 : decode method_2_code 99 = .ok (.if_icmp .eq 33, 3) := by decide +kernel
theorem d2_102 : decode method_2_code 102 = .ok (.iload_n 0, 1) := by decide +kernel
theorem d2_103 : decode method_2_code 103 = .ok (.bipush 94, 2) := by decide +kernel
theorem d2_105 : decode method_2_code 105 = .ok (.if_icmp .eq 27, 3) := by decide +kernel
theorem d2_108 : decode method_2_code 108 = .ok (.iload_n 0, 1) := by decide +kernel
theorem d2_109 : decode method_2_code 109 = .ok (.bipush 95, 2) := by decide +kernel
theorem d2_111 : decode method_2_code 111 = .ok (.if_icmp .eq 21, 3) := by decide +kernel
theorem d2_114 : decode method_2_code 114 = .ok (.iload_n 0, 1) := by decide +kernel
theorem d2_115 : decode method_2_code 115 = .ok (.bipush 96, 2) := by decide +kernel
theorem d2_117 : decode method_2_code 117 = .ok (.if_icmp .eq 15, 3) := by decide +kernel
theorem d2_120 : decode method_2_code 120 = .ok (.iload_n 0, 1) := by decide +kernel
theorem d2_121 : decode method_2_code 121 = .ok (.bipush 124, 2) := by decide +kernel
theorem d2_123 : decode method_2_code 123 = .ok (.if_icmp .eq 9, 3) := by decide +kernel
theorem d2_126 : decode method_2_code 126 = .ok (.iload_n 0, 1) := by decide +kernel
theorem d2_127 : decode method_2_code 127 = .ok (.bipush 126, 2) := by decide +kernel
theorem d2_129 : decode method_2_code 129 = .ok (.if_icmp .ne 7, 3) := by decide +kernel
theorem d2_136 : decode method_2_code 136 = .ok (.iconst 0, 1) := by decide +kernel
theorem d2_34 : decode method_2_code 34 = .ok (.iload_n 0, 1) := by decide +kernel
theorem d2_35 : decode method_2_code 35 = .ok (.bipush 122, 2) := by decide +kernel
theorem d2_37 : decode method_2_code 37 = .ok (.if_icmp .gt 5, 3) := by decide +kernel
theorem d2_40 : decode method_2_code 40 = .ok (.iconst 1, 1) := by decide +kernel
theorem d2_41 : decode method_2_code 41 = .ok (.ireturn, 1) := by decide +kernel
theorem d2_20 : decode method_2_code 20 = .ok (.iload_n 0, 1) := by decide +kernel
theorem d2_21 : decode method_2_code 21 = .ok (.bipush 90, 2) := by decide +kernel
theorem d2_23 : decode method_2_code 23 = .ok (.if_icmp .gt 5, 3) := by decide +kernel
theorem d2_26 : decode method_2_code 26 = .ok (.iconst 1, 1) := by decide +kernel
theorem d2_27 : decode method_2_code 27 = .ok (.ireturn, 1) := by decide +kernel
theorem d2_6 : decode method_2_code 6 = .ok (.iload_n 0, 1) := by decide +kernel
theorem d2_7 : decode method_2_code 7 = .ok (.bipush 57, 2) := by decide +kernel
theorem d2_9 : decode method_2_code 9 = .ok (.if_icmp .gt 5, 3) := by decide +kernel
theorem d2_12 : decode method_2_code 12 = .ok (.iconst 1, 1) := by decide +kernel
theorem d2_13 : decode method_2_code 13 = .ok (.ireturn, 1) := by decide +kernel
theorem pn2 : plainFor (⟨"com/example/steer/steer/util/HttpSyntaxIsTcharPinLaw", "ref", "(I)Z"⟩ : MethodName) = true := by first | exact plainFor_of_name (by first | (simp [plainName, overriddenIn]; done) | decide +kernel) | decide +kernel
theorem ef2 (m : MethodId) (c1 : Int32) : entryFrame m #[(.int c1)] 1 = mkF m 0 #[.val (.int c1)] [] := by first | (simp [entryFrame, mkF, argsToLocals, Value.category]; done) | rfl
def Q2 (Z : State) (c1 : Int32) (h0 : Heap) (n0 : Nat) (v : Option Value) (h : Heap) (L : List Loc) : Prop := v = some (.int (own_b ((¬ c1 < (48 : Int32) ∧ ¬ (57 : Int32) < c1) ∨ (¬ c1 < (65 : Int32) ∧ ¬ (90 : Int32) < c1) ∨ (¬ c1 < (97 : Int32) ∧ ¬ (122 : Int32) < c1) ∨ c1 = (33 : Int32) ∨ c1 = (35 : Int32) ∨ c1 = (36 : Int32) ∨ c1 = (37 : Int32) ∨ c1 = (38 : Int32) ∨ c1 = (39 : Int32) ∨ c1 = (42 : Int32) ∨ c1 = (43 : Int32) ∨ c1 = (45 : Int32) ∨ c1 = (46 : Int32) ∨ c1 = (94 : Int32) ∨ c1 = (95 : Int32) ∨ c1 = (96 : Int32) ∨ c1 = (124 : Int32) ∨ c1 = (126 : Int32)))) ∧ Fr n0 L ∧ h = h0
set_option maxRecDepth 65536 in
set_option maxHeartbeats 40000000 in
theorem rm2 (l : Launch) (Z : State) (a0 : Array Value) (hw : ∀ d ∈ tables_1, d.before a0 Z = true) (ws : List Jvm.Cond) (c1 : Int32) (h0 : Heap) (n0 : Nat) (Z0 : n0 ≤ h0.size) :
    MetFree l (⟨"com/example/steer/steer/util/HttpSyntaxIsTcharPinLaw", "ref", "(I)Z"⟩ : MethodName) (head1 (Jvm.Cond.code (⟨"com/example/steer/steer/util/HttpSyntaxIsTcharPinLaw", "ref", "(I)Z"⟩ : MethodName) method_2_code 1 (some .boolean) :: ws) ({ frames := 0, cells := 0, slots := 0, locals := 0 } : Room)) (fun a U => a = #[(.int c1)] ∧ Z.Warmed39 U.vm ∧ U.heap = h0) (fun _ _ _ _ _ => True) (fun _ U o U' => ∃ v L, o = .returned v ∧ Q2 Z c1 h0 n0 v U'.heap L ∧ FrameEnd U o U' L ({ frames := 0, cells := 0, slots := 0, locals := 0 } : Room).cells ({ frames := 0, cells := 0, slots := 0, locals := 0 } : Room).slots) := by
  refine MetFree.of_bodySF pn2 hisR ?_
  intro p e s m args below meth c s₁ Bd hml0 hP hK
  obtain ⟨rfl, hZ, hh⟩ := hP
  have hx := Bd.exec
  have hby := Bd.bytes
  have hlk : meth.locks = false := BodyLoose.notSynchronized Bd
  have hml : c.maxLocals = 1 := hml0
  have hown : s.vm.findClass "com/example/steer/steer/util/HttpSyntaxIsTcharPinLaw" = some m.cls := findClass_of_methodNamed Bd.named
  have hnm := (name_of_methodNamed Bd.named Bd.method).1
  have X0 : Stand p l e ({ frames := 0, cells := 0, slots := 0, locals := 0 } : Room) s m #[(.int c1)] below meth c s₁ [] 0 0 := Stand.of_body Bd
  have e0 : s₁.heap = h0 := by rw [← hh, Bd.state]; rfl
  have N0 := Fr.nil n0
  rw [ef2 m c1]
  show own_Go p e below (own_End s (Q2 Z c1 h0 n0) ({ frames := 0, cells := 0, slots := 0, locals := 0 } : Room).cells ({ frames := 0, cells := 0, slots := 0, locals := 0 } : Room).slots) s₁ (mkF m 0 #[.val (.int c1)] [])
  refine own_iloadN X0 hx (hb hby d2_0) (pc' := 1) rfl rfl ?_
  refine own_bipush X0 hx (48) (hb hby d2_1) (pc' := 3) rfl (by decide) ?_
  by_cases c_1 : c1 < (48 : Int32)
  · skip
    refine own_icmpY X0 hx (hb hby d2_3) (XT.ii_lt_t c_1) (pc' := 14) (by decide) (by decide) ?_
    refine own_iloadN X0 hx (hb hby d2_14) (pc' := 15) rfl rfl ?_
    refine own_bipush X0 hx (65) (hb hby d2_15) (pc' := 17) rfl (by decide) ?_
    by_cases c_2 : c1 < (65 : Int32)
    · skip
      refine own_icmpY X0 hx (hb hby d2_17) (XT.ii_lt_t c_2) (pc' := 28) (by decide) (by decide) ?_
      refine own_iloadN X0 hx (hb hby d2_28) (pc' := 29) rfl rfl ?_
      refine own_bipush X0 hx (97) (hb hby d2_29) (pc' := 31) rfl (by decide) ?_
      by_cases c_3 : c1 < (97 : Int32)
      · skip
        refine own_icmpY X0 hx (hb hby d2_31) (XT.ii_lt_t c_3) (pc' := 42) (by decide) (by decide) ?_
        refine own_iloadN X0 hx (hb hby d2_42) (pc' := 43) rfl rfl ?_
        refine own_bipush X0 hx (33) (hb hby d2_43) (pc' := 45) rfl (by decide) ?_
        by_cases c_4 : c1 = (33 : Int32)
        · skip
          refine own_icmpY X0 hx (hb hby d2_45) (XT.ii_eq_t c_4) (pc' := 132) (by decide) (by decide) ?_
          refine own_iconst X0 hx (1) (hb hby d2_132) (pc' := 133) rfl rfl ?_
          refine own_goto X0 hx (hb hby d2_133) (pc' := 137) (by decide) (by decide) ?_
          refine own_retZ X0 hx hlk Bd.returns (by simp) (hb hby d2_137) (by decide) (by decide) ?_
          rw [e0]
          exact ⟨by simp [own_b, nar, c_1, c_2, c_3, c_4], N0, rfl⟩
        · skip
          refine own_icmpN X0 hx (hb hby d2_45) (XT.ii_eq_f c_4) (pc' := 48) rfl ?_
          refine own_iloadN X0 hx (hb hby d2_48) (pc' := 49) rfl rfl ?_
          refine own_bipush X0 hx (35) (hb hby d2_49) (pc' := 51) rfl (by decide) ?_
          by_cases c_5 : c1 = (35 : Int32)
          · skip
            refine own_icmpY X0 hx (hb hby d2_51) (XT.ii_eq_t c_5) (pc' := 132) (by decide) (by decide) ?_
            refine own_iconst X0 hx (1) (hb hby d2_132) (pc' := 133) rfl rfl ?_
            refine own_goto X0 hx (hb hby d2_133) (pc' := 137) (by decide) (by decide) ?_
            refine own_retZ X0 hx hlk Bd.returns (by simp) (hb hby d2_137) (by decide) (by decide) ?_
            rw [e0]
            exact ⟨by simp [own_b, nar, c_1, c_2, c_3, c_4, c_5], N0, rfl⟩
          · skip
            refine own_icmpN X0 hx (hb hby d2_51) (XT.ii_eq_f c_5) (pc' := 54) rfl ?_
            refine own_iloadN X0 hx (hb hby d2_54) (pc' := 55) rfl rfl ?_
            refine own_bipush X0 hx (36) (hb hby d2_55) (pc' := 57) rfl (by decide) ?_
            by_cases c_6 : c1 = (36 : Int32)
            · skip
              refine own_icmpY X0 hx (hb hby d2_57) (XT.ii_eq_t c_6) (pc' := 132) (by decide) (by decide) ?_
              refine own_iconst X0 hx (1) (hb hby d2_132) (pc' := 133) rfl rfl ?_
              refine own_goto X0 hx (hb hby d2_133) (pc' := 137) (by decide) (by decide) ?_
              refine own_retZ X0 hx hlk Bd.returns (by simp) (hb hby d2_137) (by decide) (by decide) ?_
              rw [e0]
              exact ⟨by simp [own_b, nar, c_1, c_2, c_3, c_4, c_5, c_6], N0, rfl⟩
            · skip
              refine own_icmpN X0 hx (hb hby d2_57) (XT.ii_eq_f c_6) (pc' := 60) rfl ?_
              refine own_iloadN X0 hx (hb hby d2_60) (pc' := 61) rfl rfl ?_
              refine own_bipush X0 hx (37) (hb hby d2_61) (pc' := 63) rfl (by decide) ?_
              by_cases c_7 : c1 = (37 : Int32)
              · skip
                refine own_icmpY X0 hx (hb hby d2_63) (XT.ii_eq_t c_7) (pc' := 132) (by decide) (by decide) ?_
                refine own_iconst X0 hx (1) (hb hby d2_132) (pc' := 133) rfl rfl ?_
                refine own_goto X0 hx (hb hby d2_133) (pc' := 137) (by decide) (by decide) ?_
                refine own_retZ X0 hx hlk Bd.returns (by simp) (hb hby d2_137) (by decide) (by decide) ?_
                rw [e0]
                exact ⟨by simp [own_b, nar, c_1, c_2, c_3, c_4, c_5, c_6, c_7], N0, rfl⟩
              · skip
                refine own_icmpN X0 hx (hb hby d2_63) (XT.ii_eq_f c_7) (pc' := 66) rfl ?_
                refine own_iloadN X0 hx (hb hby d2_66) (pc' := 67) rfl rfl ?_
                refine own_bipush X0 hx (38) (hb hby d2_67) (pc' := 69) rfl (by decide) ?_
                by_cases c_8 : c1 = (38 : Int32)
                · skip
                  refine own_icmpY X0 hx (hb hby d2_69) (XT.ii_eq_t c_8) (pc' := 132) (by decide) (by decide) ?_
                  refine own_iconst X0 hx (1) (hb hby d2_132) (pc' := 133) rfl rfl ?_
                  refine own_goto X0 hx (hb hby d2_133) (pc' := 137) (by decide) (by decide) ?_
                  refine own_retZ X0 hx hlk Bd.returns (by simp) (hb hby d2_137) (by decide) (by decide) ?_
                  rw [e0]
                  exact ⟨by simp [own_b, nar, c_1, c_2, c_3, c_4, c_5, c_6, c_7, c_8], N0, rfl⟩
                · skip
                  refine own_icmpN X0 hx (hb hby d2_69) (XT.ii_eq_f c_8) (pc' := 72) rfl ?_
                  refine own_iloadN X0 hx (hb hby d2_72) (pc' := 73) rfl rfl ?_
                  refine own_bipush X0 hx (39) (hb hby d2_73) (pc' := 75) rfl (by decide) ?_
                  by_cases c_9 : c1 = (39 : Int32)
                  · skip
                    refine own_icmpY X0 hx (hb hby d2_75) (XT.ii_eq_t c_9) (pc' := 132) (by decide) (by decide) ?_
                    refine own_iconst X0 hx (1) (hb hby d2_132) (pc' := 133) rfl rfl ?_
                    refine own_goto X0 hx (hb hby d2_133) (pc' := 137) (by decide) (by decide) ?_
                    refine own_retZ X0 hx hlk Bd.returns (by simp) (hb hby d2_137) (by decide) (by decide) ?_
                    rw [e0]
                    exact ⟨by simp [own_b, nar, c_1, c_2, c_3, c_4, c_5, c_6, c_7, c_8, c_9], N0, rfl⟩
                  · skip
                    refine own_icmpN X0 hx (hb hby d2_75) (XT.ii_eq_f c_9) (pc' := 78) rfl ?_
                    refine own_iloadN X0 hx (hb hby d2_78) (pc' := 79) rfl rfl ?_
                    refine own_bipush X0 hx (42) (hb hby d2_79) (pc' := 81) rfl (by decide) ?_
                    by_cases c_10 : c1 = (42 : Int32)
                    · skip
                      refine own_icmpY X0 hx (hb hby d2_81) (XT.ii_eq_t c_10) (pc' := 132) (by decide) (by decide) ?_
                      refine own_iconst X0 hx (1) (hb hby d2_132) (pc' := 133) rfl rfl ?_
                      refine own_goto X0 hx (hb hby d2_133) (pc' := 137) (by decide) (by decide) ?_
                      refine own_retZ X0 hx hlk Bd.returns (by simp) (hb hby d2_137) (by decide) (by decide) ?_
                      rw [e0]
                      exact ⟨by simp [own_b, nar, c_1, c_2, c_3, c_4, c_5, c_6, c_7, c_8, c_9, c_10], N0, rfl⟩
                    · skip
                      refine own_icmpN X0 hx (hb hby d2_81) (XT.ii_eq_f c_10) (pc' := 84) rfl ?_
                      refine own_iloadN X0 hx (hb hby d2_84) (pc' := 85) rfl rfl ?_
                      refine own_bipush X0 hx (43) (hb hby d2_85) (pc' := 87) rfl (by decide) ?_
                      by_cases c_11 : c1 = (43 : Int32)
                      · skip
                        refine own_icmpY X0 hx (hb hby d2_87) (XT.ii_eq_t c_11) (pc' := 132) (by decide) (by decide) ?_
                        refine own_iconst X0 hx (1) (hb hby d2_132) (pc' := 133) rfl rfl ?_
                        refine own_goto X0 hx (hb hby d2_133) (pc' := 137) (by decide) (by decide) ?_
                        refine own_retZ X0 hx hlk Bd.returns (by simp) (hb hby d2_137) (by decide) (by decide) ?_
                        rw [e0]
                        exact ⟨by simp [own_b, nar, c_1, c_2, c_3, c_4, c_5, c_6, c_7, c_8, c_9, c_10, c_11], N0, rfl⟩
                      · skip
                        refine own_icmpN X0 hx (hb hby d2_87) (XT.ii_eq_f c_11) (pc' := 90) rfl ?_
                        refine own_iloadN X0 hx (hb hby d2_90) (pc' := 91) rfl rfl ?_
                        refine own_bipush X0 hx (45) (hb hby d2_91) (pc' := 93) rfl (by decide) ?_
                        by_cases c_12 : c1 = (45 : Int32)
                        · skip
                          refine own_icmpY X0 hx (hb hby d2_93) (XT.ii_eq_t c_12) (pc' := 132) (by decide) (by decide) ?_
                          refine own_iconst X0 hx (1) (hb hby d2_132) (pc' := 133) rfl rfl ?_
                          refine own_goto X0 hx (hb hby d2_133) (pc' := 137) (by decide) (by decide) ?_
                          refine own_retZ X0 hx hlk Bd.returns (by simp) (hb hby d2_137) (by decide) (by decide) ?_
                          rw [e0]
                          exact ⟨by simp [own_b, nar, c_1, c_2, c_3, c_4, c_5, c_6, c_7, c_8, c_9, c_10, c_11, c_12], N0, rfl⟩
                        · skip
                          refine own_icmpN X0 hx (hb hby d2_93) (XT.ii_eq_f c_12) (pc' := 96) rfl ?_
                          refine own_iloadN X0 hx (hb hby d2_96) (pc' := 97) rfl rfl ?_
                          refine own_bipush X0 hx (46) (hb hby d2_97) (pc' := 99) rfl (by decide) ?_
                          by_cases c_13 : c1 = (46 : Int32)
                          · skip
                            refine own_icmpY X0 hx (hb hby d2_99) (XT.ii_eq_t c_13) (pc' := 132) (by decide) (by decide) ?_
                            refine own_iconst X0 hx (1) (hb hby d2_132) (pc' := 133) rfl rfl ?_
                            refine own_goto X0 hx (hb hby d2_133) (pc' := 137) (by decide) (by decide) ?_
                            refine own_retZ X0 hx hlk Bd.returns (by simp) (hb hby d2_137) (by decide) (by decide) ?_
                            rw [e0]
                            exact ⟨by simp [own_b, nar, c_1, c_2, c_3, c_4, c_5, c_6, c_7, c_8, c_9, c_10, c_11, c_12, c_13], N0, rfl⟩
                          · skip
                            refine own_icmpN X0 hx (hb hby d2_99) (XT.ii_eq_f c_13) (pc' := 102) rfl ?_
                            refine own_iloadN X0 hx (hb hby d2_102) (pc' := 103) rfl rfl ?_
                            refine own_bipush X0 hx (94) (hb hby d2_103) (pc' := 105) rfl (by decide) ?_
                            by_cases c_14 : c1 = (94 : Int32)
                            · skip
                              refine own_icmpY X0 hx (hb hby d2_105) (XT.ii_eq_t c_14) (pc' := 132) (by decide) (by decide) ?_
                              refine own_iconst X0 hx (1) (hb hby d2_132) (pc' := 133) rfl rfl ?_
                              refine own_goto X0 hx (hb hby d2_133) (pc' := 137) (by decide) (by decide) ?_
                              refine own_retZ X0 hx hlk Bd.returns (by simp) (hb hby d2_137) (by decide) (by decide) ?_
                              rw [e0]
                              exact ⟨by simp [own_b, nar, c_1, c_2, c_3, c_4, c_5, c_6, c_7, c_8, c_9, c_10, c_11, c_12, c_13, c_14], N0, rfl⟩
                            · skip
                              refine own_icmpN X0 hx (hb hby d2_105) (XT.ii_eq_f c_14) (pc' := 108) rfl ?_
                              refine own_iloadN X0 hx (hb hby d2_108) (pc' := 109) rfl rfl ?_
                              refine own_bipush X0 hx (95) (hb hby d2_109) (pc' := 111) rfl (by decide) ?_
                              by_cases c_15 : c1 = (95 : Int32)
                              · skip
                                refine own_icmpY X0 hx (hb hby d2_111) (XT.ii_eq_t c_15) (pc' := 132) (by decide) (by decide) ?_
                                refine own_iconst X0 hx (1) (hb hby d2_132) (pc' := 133) rfl rfl ?_
                                refine own_goto X0 hx (hb hby d2_133) (pc' := 137) (by decide) (by decide) ?_
                                refine own_retZ X0 hx hlk Bd.returns (by simp) (hb hby d2_137) (by decide) (by decide) ?_
                                rw [e0]
                                exact ⟨by simp [own_b, nar, c_1, c_2, c_3, c_4, c_5, c_6, c_7, c_8, c_9, c_10, c_11, c_12, c_13, c_14, c_15], N0, rfl⟩
                              · skip
                                refine own_icmpN X0 hx (hb hby d2_111) (XT.ii_eq_f c_15) (pc' := 114) rfl ?_
                                refine own_iloadN X0 hx (hb hby d2_114) (pc' := 115) rfl rfl ?_
                                refine own_bipush X0 hx (96) (hb hby d2_115) (pc' := 117) rfl (by decide) ?_
                                by_cases c_16 : c1 = (96 : Int32)
                                · skip
                                  refine own_icmpY X0 hx (hb hby d2_117) (XT.ii_eq_t c_16) (pc' := 132) (by decide) (by decide) ?_
                                  refine own_iconst X0 hx (1) (hb hby d2_132) (pc' := 133) rfl rfl ?_
                                  refine own_goto X0 hx (hb hby d2_133) (pc' := 137) (by decide) (by decide) ?_
                                  refine own_retZ X0 hx hlk Bd.returns (by simp) (hb hby d2_137) (by decide) (by decide) ?_
                                  rw [e0]
                                  exact ⟨by simp [own_b, nar, c_1, c_2, c_3, c_4, c_5, c_6, c_7, c_8, c_9, c_10, c_11, c_12, c_13, c_14, c_15, c_16], N0, rfl⟩
                                · skip
                                  refine own_icmpN X0 hx (hb hby d2_117) (XT.ii_eq_f c_16) (pc' := 120) rfl ?_
                                  refine own_iloadN X0 hx (hb hby d2_120) (pc' := 121) rfl rfl ?_
                                  refine own_bipush X0 hx (124) (hb hby d2_121) (pc' := 123) rfl (by decide) ?_
                                  by_cases c_17 : c1 = (124 : Int32)
                                  · skip
                                    refine own_icmpY X0 hx (hb hby d2_123) (XT.ii_eq_t c_17) (pc' := 132) (by decide) (by decide) ?_
                                    refine own_iconst X0 hx (1) (hb hby d2_132) (pc' := 133) rfl rfl ?_
                                    refine own_goto X0 hx (hb hby d2_133) (pc' := 137) (by decide) (by decide) ?_
                                    refine own_retZ X0 hx hlk Bd.returns (by simp) (hb hby d2_137) (by decide) (by decide) ?_
                                    rw [e0]
                                    exact ⟨by simp [own_b, nar, c_1, c_2, c_3, c_4, c_5, c_6, c_7, c_8, c_9, c_10, c_11, c_12, c_13, c_14, c_15, c_16, c_17], N0, rfl⟩
                                  · skip
                                    refine own_icmpN X0 hx (hb hby d2_123) (XT.ii_eq_f c_17) (pc' := 126) rfl ?_
                                    refine own_iloadN X0 hx (hb hby d2_126) (pc' := 127) rfl rfl ?_
                                    refine own_bipush X0 hx (126) (hb hby d2_127) (pc' := 129) rfl (by decide) ?_
                                    by_cases c_18 : c1 = (126 : Int32)
                                    · skip
                                      refine own_icmpN X0 hx (hb hby d2_129) (XT.ii_ne_f c_18) (pc' := 132) rfl ?_
                                      refine own_iconst X0 hx (1) (hb hby d2_132) (pc' := 133) rfl rfl ?_
                                      refine own_goto X0 hx (hb hby d2_133) (pc' := 137) (by decide) (by decide) ?_
                                      refine own_retZ X0 hx hlk Bd.returns (by simp) (hb hby d2_137) (by decide) (by decide) ?_
                                      rw [e0]
                                      exact ⟨by simp [own_b, nar, c_1, c_2, c_3, c_4, c_5, c_6, c_7, c_8, c_9, c_10, c_11, c_12, c_13, c_14, c_15, c_16, c_17, c_18], N0, rfl⟩
                                    · skip
                                      refine own_icmpY X0 hx (hb hby d2_129) (XT.ii_ne_t c_18) (pc' := 136) (by decide) (by decide) ?_
                                      refine own_iconst X0 hx (0) (hb hby d2_136) (pc' := 137) rfl rfl ?_
                                      refine own_retZ X0 hx hlk Bd.returns (by simp) (hb hby d2_137) (by decide) (by decide) ?_
                                      rw [e0]
                                      exact ⟨by simp [own_b, nar, c_1, c_2, c_3, c_4, c_5, c_6, c_7, c_8, c_9, c_10, c_11, c_12, c_13, c_14, c_15, c_16, c_17, c_18], N0, rfl⟩
      · skip
        refine own_icmpN X0 hx (hb hby d2_31) (XT.ii_lt_f c_3) (pc' := 34) rfl ?_
        refine own_iloadN X0 hx (hb hby d2_34) (pc' := 35) rfl rfl ?_
        refine own_bipush X0 hx (122) (hb hby d2_35) (pc' := 37) rfl (by decide) ?_
        by_cases c_19 : (122 : Int32) < c1
        · skip
          refine own_icmpY X0 hx (hb hby d2_37) (XT.ii_gt_t c_19) (pc' := 42) (by decide) (by decide) ?_
          refine own_iloadN X0 hx (hb hby d2_42) (pc' := 43) rfl rfl ?_
          refine own_bipush X0 hx (33) (hb hby d2_43) (pc' := 45) rfl (by decide) ?_
          by_cases c_20 : c1 = (33 : Int32)
          · skip
            refine own_icmpY X0 hx (hb hby d2_45) (XT.ii_eq_t c_20) (pc' := 132) (by decide) (by decide) ?_
            refine own_iconst X0 hx (1) (hb hby d2_132) (pc' := 133) rfl rfl ?_
            refine own_goto X0 hx (hb hby d2_133) (pc' := 137) (by decide) (by decide) ?_
            refine own_retZ X0 hx hlk Bd.returns (by simp) (hb hby d2_137) (by decide) (by decide) ?_
            rw [e0]
            exact ⟨by simp [own_b, nar, c_1, c_2, c_3, c_19, c_20], N0, rfl⟩
          · skip
            refine own_icmpN X0 hx (hb hby d2_45) (XT.ii_eq_f c_20) (pc' := 48) rfl ?_
            refine own_iloadN X0 hx (hb hby d2_48) (pc' := 49) rfl rfl ?_
            refine own_bipush X0 hx (35) (hb hby d2_49) (pc' := 51) rfl (by decide) ?_
            by_cases c_21 : c1 = (35 : Int32)
            · skip
              refine own_icmpY X0 hx (hb hby d2_51) (XT.ii_eq_t c_21) (pc' := 132) (by decide) (by decide) ?_
              refine own_iconst X0 hx (1) (hb hby d2_132) (pc' := 133) rfl rfl ?_
              refine own_goto X0 hx (hb hby d2_133) (pc' := 137) (by decide) (by decide) ?_
              refine own_retZ X0 hx hlk Bd.returns (by simp) (hb hby d2_137) (by decide) (by decide) ?_
              rw [e0]
              exact ⟨by simp [own_b, nar, c_1, c_2, c_3, c_19, c_20, c_21], N0, rfl⟩
            · skip
              refine own_icmpN X0 hx (hb hby d2_51) (XT.ii_eq_f c_21) (pc' := 54) rfl ?_
              refine own_iloadN X0 hx (hb hby d2_54) (pc' := 55) rfl rfl ?_
              refine own_bipush X0 hx (36) (hb hby d2_55) (pc' := 57) rfl (by decide) ?_
              by_cases c_22 : c1 = (36 : Int32)
              · skip
                refine own_icmpY X0 hx (hb hby d2_57) (XT.ii_eq_t c_22) (pc' := 132) (by decide) (by decide) ?_
                refine own_iconst X0 hx (1) (hb hby d2_132) (pc' := 133) rfl rfl ?_
                refine own_goto X0 hx (hb hby d2_133) (pc' := 137) (by decide) (by decide) ?_
                refine own_retZ X0 hx hlk Bd.returns (by simp) (hb hby d2_137) (by decide) (by decide) ?_
                rw [e0]
                exact ⟨by simp [own_b, nar, c_1, c_2, c_3, c_19, c_20, c_21, c_22], N0, rfl⟩
              · skip
                refine own_icmpN X0 hx (hb hby d2_57) (XT.ii_eq_f c_22) (pc' := 60) rfl ?_
                refine own_iloadN X0 hx (hb hby d2_60) (pc' := 61) rfl rfl ?_
                refine own_bipush X0 hx (37) (hb hby d2_61) (pc' := 63) rfl (by decide) ?_
                by_cases c_23 : c1 = (37 : Int32)
                · skip
                  refine own_icmpY X0 hx (hb hby d2_63) (XT.ii_eq_t c_23) (pc' := 132) (by decide) (by decide) ?_
                  refine own_iconst X0 hx (1) (hb hby d2_132) (pc' := 133) rfl rfl ?_
                  refine own_goto X0 hx (hb hby d2_133) (pc' := 137) (by decide) (by decide) ?_
                  refine own_retZ X0 hx hlk Bd.returns (by simp) (hb hby d2_137) (by decide) (by decide) ?_
                  rw [e0]
                  exact ⟨by simp [own_b, nar, c_1, c_2, c_3, c_19, c_20, c_21, c_22, c_23], N0, rfl⟩
                · skip
                  refine own_icmpN X0 hx (hb hby d2_63) (XT.ii_eq_f c_23) (pc' := 66) rfl ?_
                  refine own_iloadN X0 hx (hb hby d2_66) (pc' := 67) rfl rfl ?_
                  refine own_bipush X0 hx (38) (hb hby d2_67) (pc' := 69) rfl (by decide) ?_
                  by_cases c_24 : c1 = (38 : Int32)
                  · skip
                    refine own_icmpY X0 hx (hb hby d2_69) (XT.ii_eq_t c_24) (pc' := 132) (by decide) (by decide) ?_
                    refine own_iconst X0 hx (1) (hb hby d2_132) (pc' := 133) rfl rfl ?_
                    refine own_goto X0 hx (hb hby d2_133) (pc' := 137) (by decide) (by decide) ?_
                    refine own_retZ X0 hx hlk Bd.returns (by simp) (hb hby d2_137) (by decide) (by decide) ?_
                    rw [e0]
                    exact ⟨by simp [own_b, nar, c_1, c_2, c_3, c_19, c_20, c_21, c_22, c_23, c_24], N0, rfl⟩
                  · skip
                    refine own_icmpN X0 hx (hb hby d2_69) (XT.ii_eq_f c_24) (pc' := 72) rfl ?_
                    refine own_iloadN X0 hx (hb hby d2_72) (pc' := 73) rfl rfl ?_
                    refine own_bipush X0 hx (39) (hb hby d2_73) (pc' := 75) rfl (by decide) ?_
                    by_cases c_25 : c1 = (39 : Int32)
                    · skip
                      refine own_icmpY X0 hx (hb hby d2_75) (XT.ii_eq_t c_25) (pc' := 132) (by decide) (by decide) ?_
                      refine own_iconst X0 hx (1) (hb hby d2_132) (pc' := 133) rfl rfl ?_
                      refine own_goto X0 hx (hb hby d2_133) (pc' := 137) (by decide) (by decide) ?_
                      refine own_retZ X0 hx hlk Bd.returns (by simp) (hb hby d2_137) (by decide) (by decide) ?_
                      rw [e0]
                      exact ⟨by simp [own_b, nar, c_1, c_2, c_3, c_19, c_20, c_21, c_22, c_23, c_24, c_25], N0, rfl⟩
                    · skip
                      refine own_icmpN X0 hx (hb hby d2_75) (XT.ii_eq_f c_25) (pc' := 78) rfl ?_
                      refine own_iloadN X0 hx (hb hby d2_78) (pc' := 79) rfl rfl ?_
                      refine own_bipush X0 hx (42) (hb hby d2_79) (pc' := 81) rfl (by decide) ?_
                      by_cases c_26 : c1 = (42 : Int32)
                      · skip
                        refine own_icmpY X0 hx (hb hby d2_81) (XT.ii_eq_t c_26) (pc' := 132) (by decide) (by decide) ?_
                        refine own_iconst X0 hx (1) (hb hby d2_132) (pc' := 133) rfl rfl ?_
                        refine own_goto X0 hx (hb hby d2_133) (pc' := 137) (by decide) (by decide) ?_
                        refine own_retZ X0 hx hlk Bd.returns (by simp) (hb hby d2_137) (by decide) (by decide) ?_
                        rw [e0]
                        exact ⟨by simp [own_b, nar, c_1, c_2, c_3, c_19, c_20, c_21, c_22, c_23, c_24, c_25, c_26], N0, rfl⟩
                      · skip
                        refine own_icmpN X0 hx (hb hby d2_81) (XT.ii_eq_f c_26) (pc' := 84) rfl ?_
                        refine own_iloadN X0 hx (hb hby d2_84) (pc' := 85) rfl rfl ?_
                        refine own_bipush X0 hx (43) (hb hby d2_85) (pc' := 87) rfl (by decide) ?_
                        by_cases c_27 : c1 = (43 : Int32)
                        · skip
                          refine own_icmpY X0 hx (hb hby d2_87) (XT.ii_eq_t c_27) (pc' := 132) (by decide) (by decide) ?_
                          refine own_iconst X0 hx (1) (hb hby d2_132) (pc' := 133) rfl rfl ?_
                          refine own_goto X0 hx (hb hby d2_133) (pc' := 137) (by decide) (by decide) ?_
                          refine own_retZ X0 hx hlk Bd.returns (by simp) (hb hby d2_137) (by decide) (by decide) ?_
                          rw [e0]
                          exact ⟨by simp [own_b, nar, c_1, c_2, c_3, c_19, c_20, c_21, c_22, c_23, c_24, c_25, c_26, c_27], N0, rfl⟩
                        · skip
                          refine own_icmpN X0 hx (hb hby d2_87) (XT.ii_eq_f c_27) (pc' := 90) rfl ?_
                          refine own_iloadN X0 hx (hb hby d2_90) (pc' := 91) rfl rfl ?_
                          refine own_bipush X0 hx (45) (hb hby d2_91) (pc' := 93) rfl (by decide) ?_
                          by_cases c_28 : c1 = (45 : Int32)
                          · skip
                            refine own_icmpY X0 hx (hb hby d2_93) (XT.ii_eq_t c_28) (pc' := 132) (by decide) (by decide) ?_
                            refine own_iconst X0 hx (1) (hb hby d2_132) (pc' := 133) rfl rfl ?_
                            refine own_goto X0 hx (hb hby d2_133) (pc' := 137) (by decide) (by decide) ?_
                            refine own_retZ X0 hx hlk Bd.returns (by simp) (hb hby d2_137) (by decide) (by decide) ?_
                            rw [e0]
                            exact ⟨by simp [own_b, nar, c_1, c_2, c_3, c_19, c_20, c_21, c_22, c_23, c_24, c_25, c_26, c_27, c_28], N0, rfl⟩
                          · skip
                            refine own_icmpN X0 hx (hb hby d2_93) (XT.ii_eq_f c_28) (pc' := 96) rfl ?_
                            refine own_iloadN X0 hx (hb hby d2_96) (pc' := 97) rfl rfl ?_
                            refine own_bipush X0 hx (46) (hb hby d2_97) (pc' := 99) rfl (by decide) ?_
                            by_cases c_29 : c1 = (46 : Int32)
                            · skip
                              refine own_icmpY X0 hx (hb hby d2_99) (XT.ii_eq_t c_29) (pc' := 132) (by decide) (by decide) ?_
                              refine own_iconst X0 hx (1) (hb hby d2_132) (pc' := 133) rfl rfl ?_
                              refine own_goto X0 hx (hb hby d2_133) (pc' := 137) (by decide) (by decide) ?_
                              refine own_retZ X0 hx hlk Bd.returns (by simp) (hb hby d2_137) (by decide) (by decide) ?_
                              rw [e0]
                              exact ⟨by simp [own_b, nar, c_1, c_2, c_3, c_19, c_20, c_21, c_22, c_23, c_24, c_25, c_26, c_27, c_28, c_29], N0, rfl⟩
                            · skip
                              refine own_icmpN X0 hx (hb hby d2_99) (XT.ii_eq_f c_29) (pc' := 102) rfl ?_
                              refine own_iloadN X0 hx (hb hby d2_102) (pc' := 103) rfl rfl ?_
                              refine own_bipush X0 hx (94) (hb hby d2_103) (pc' := 105) rfl (by decide) ?_
                              by_cases c_30 : c1 = (94 : Int32)
                              · skip
                                refine own_icmpY X0 hx (hb hby d2_105) (XT.ii_eq_t c_30) (pc' := 132) (by decide) (by decide) ?_
                                refine own_iconst X0 hx (1) (hb hby d2_132) (pc' := 133) rfl rfl ?_
                                refine own_goto X0 hx (hb hby d2_133) (pc' := 137) (by decide) (by decide) ?_
                                refine own_retZ X0 hx hlk Bd.returns (by simp) (hb hby d2_137) (by decide) (by decide) ?_
                                rw [e0]
                                exact ⟨by simp [own_b, nar, c_1, c_2, c_3, c_19, c_20, c_21, c_22, c_23, c_24, c_25, c_26, c_27, c_28, c_29, c_30], N0, rfl⟩
                              · skip
                                refine own_icmpN X0 hx (hb hby d2_105) (XT.ii_eq_f c_30) (pc' := 108) rfl ?_
                                refine own_iloadN X0 hx (hb hby d2_108) (pc' := 109) rfl rfl ?_
                                refine own_bipush X0 hx (95) (hb hby d2_109) (pc' := 111) rfl (by decide) ?_
                                by_cases c_31 : c1 = (95 : Int32)
                                · skip
                                  refine own_icmpY X0 hx (hb hby d2_111) (XT.ii_eq_t c_31) (pc' := 132) (by decide) (by decide) ?_
                                  refine own_iconst X0 hx (1) (hb hby d2_132) (pc' := 133) rfl rfl ?_
                                  refine own_goto X0 hx (hb hby d2_133) (pc' := 137) (by decide) (by decide) ?_
                                  refine own_retZ X0 hx hlk Bd.returns (by simp) (hb hby d2_137) (by decide) (by decide) ?_
                                  rw [e0]
                                  exact ⟨by simp [own_b, nar, c_1, c_2, c_3, c_19, c_20, c_21, c_22, c_23, c_24, c_25, c_26, c_27, c_28, c_29, c_30, c_31], N0, rfl⟩
                                · skip
                                  refine own_icmpN X0 hx (hb hby d2_111) (XT.ii_eq_f c_31) (pc' := 114) rfl ?_
                                  refine own_iloadN X0 hx (hb hby d2_114) (pc' := 115) rfl rfl ?_
                                  refine own_bipush X0 hx (96) (hb hby d2_115) (pc' := 117) rfl (by decide) ?_
                                  by_cases c_32 : c1 = (96 : Int32)
                                  · skip
                                    refine own_icmpY X0 hx (hb hby d2_117) (XT.ii_eq_t c_32) (pc' := 132) (by decide) (by decide) ?_
                                    refine own_iconst X0 hx (1) (hb hby d2_132) (pc' := 133) rfl rfl ?_
                                    refine own_goto X0 hx (hb hby d2_133) (pc' := 137) (by decide) (by decide) ?_
                                    refine own_retZ X0 hx hlk Bd.returns (by simp) (hb hby d2_137) (by decide) (by decide) ?_
                                    rw [e0]
                                    exact ⟨by simp [own_b, nar, c_1, c_2, c_3, c_19, c_20, c_21, c_22, c_23, c_24, c_25, c_26, c_27, c_28, c_29, c_30, c_31, c_32], N0, rfl⟩
                                  · skip
                                    refine own_icmpN X0 hx (hb hby d2_117) (XT.ii_eq_f c_32) (pc' := 120) rfl ?_
                                    refine own_iloadN X0 hx (hb hby d2_120) (pc' := 121) rfl rfl ?_
                                    refine own_bipush X0 hx (124) (hb hby d2_121) (pc' := 123) rfl (by decide) ?_
                                    by_cases c_33 : c1 = (124 : Int32)
                                    · skip
                                      refine own_icmpY X0 hx (hb hby d2_123) (XT.ii_eq_t c_33) (pc' := 132) (by decide) (by decide) ?_
                                      refine own_iconst X0 hx (1) (hb hby d2_132) (pc' := 133) rfl rfl ?_
                                      refine own_goto X0 hx (hb hby d2_133) (pc' := 137) (by decide) (by decide) ?_
                                      refine own_retZ X0 hx hlk Bd.returns (by simp) (hb hby d2_137) (by decide) (by decide) ?_
                                      rw [e0]
                                      exact ⟨by simp [own_b, nar, c_1, c_2, c_3, c_19, c_20, c_21, c_22, c_23, c_24, c_25, c_26, c_27, c_28, c_29, c_30, c_31, c_32, c_33], N0, rfl⟩
                                    · skip
                                      refine own_icmpN X0 hx (hb hby d2_123) (XT.ii_eq_f c_33) (pc' := 126) rfl ?_
                                      refine own_iloadN X0 hx (hb hby d2_126) (pc' := 127) rfl rfl ?_
                                      refine own_bipush X0 hx (126) (hb hby d2_127) (pc' := 129) rfl (by decide) ?_
                                      by_cases c_34 : c1 = (126 : Int32)
                                      · skip
                                        refine own_icmpN X0 hx (hb hby d2_129) (XT.ii_ne_f c_34) (pc' := 132) rfl ?_
                                        refine own_iconst X0 hx (1) (hb hby d2_132) (pc' := 133) rfl rfl ?_
                                        refine own_goto X0 hx (hb hby d2_133) (pc' := 137) (by decide) (by decide) ?_
                                        refine own_retZ X0 hx hlk Bd.returns (by simp) (hb hby d2_137) (by decide) (by decide) ?_
                                        rw [e0]
                                        exact ⟨by simp [own_b, nar, c_1, c_2, c_3, c_19, c_20, c_21, c_22, c_23, c_24, c_25, c_26, c_27, c_28, c_29, c_30, c_31, c_32, c_33, c_34], N0, rfl⟩
                                      · skip
                                        refine own_icmpY X0 hx (hb hby d2_129) (XT.ii_ne_t c_34) (pc' := 136) (by decide) (by decide) ?_
                                        refine own_iconst X0 hx (0) (hb hby d2_136) (pc' := 137) rfl rfl ?_
                                        refine own_retZ X0 hx hlk Bd.returns (by simp) (hb hby d2_137) (by decide) (by decide) ?_
                                        rw [e0]
                                        exact ⟨by simp [own_b, nar, c_1, c_2, c_3, c_19, c_20, c_21, c_22, c_23, c_24, c_25, c_26, c_27, c_28, c_29, c_30, c_31, c_32, c_33, c_34], N0, rfl⟩
        · skip
          refine own_icmpN X0 hx (hb hby d2_37) (XT.ii_gt_f c_19) (pc' := 40) rfl ?_
          refine own_iconst X0 hx (1) (hb hby d2_40) (pc' := 41) rfl rfl ?_
          refine own_retZ X0 hx hlk Bd.returns (by simp) (hb hby d2_41) (by decide) (by decide) ?_
          rw [e0]
          exact ⟨by simp [own_b, nar, c_1, c_2, c_3, c_19], N0, rfl⟩
    · skip
      refine own_icmpN X0 hx (hb hby d2_17) (XT.ii_lt_f c_2) (pc' := 20) rfl ?_
      refine own_iloadN X0 hx (hb hby d2_20) (pc' := 21) rfl rfl ?_
      refine own_bipush X0 hx (90) (hb hby d2_21) (pc' := 23) rfl (by decide) ?_
      by_cases c_35 : (90 : Int32) < c1
      · skip
        refine own_icmpY X0 hx (hb hby d2_23) (XT.ii_gt_t c_35) (pc' := 28) (by decide) (by decide) ?_
        refine own_iloadN X0 hx (hb hby d2_28) (pc' := 29) rfl rfl ?_
        refine own_bipush X0 hx (97) (hb hby d2_29) (pc' := 31) rfl (by decide) ?_
        by_cases c_36 : c1 < (97 : Int32)
        · skip
          refine own_icmpY X0 hx (hb hby d2_31) (XT.ii_lt_t c_36) (pc' := 42) (by decide) (by decide) ?_
          refine own_iloadN X0 hx (hb hby d2_42) (pc' := 43) rfl rfl ?_
          refine own_bipush X0 hx (33) (hb hby d2_43) (pc' := 45) rfl (by decide) ?_
          by_cases c_37 : c1 = (33 : Int32)
          · skip
            refine own_icmpY X0 hx (hb hby d2_45) (XT.ii_eq_t c_37) (pc' := 132) (by decide) (by decide) ?_
            refine own_iconst X0 hx (1) (hb hby d2_132) (pc' := 133) rfl rfl ?_
            refine own_goto X0 hx (hb hby d2_133) (pc' := 137) (by decide) (by decide) ?_
            refine own_retZ X0 hx hlk Bd.returns (by simp) (hb hby d2_137) (by decide) (by decide) ?_
            rw [e0]
            exact ⟨by simp [own_b, nar, c_1, c_2, c_35, c_36, c_37], N0, rfl⟩
          · skip
            refine own_icmpN X0 hx (hb hby d2_45) (XT.ii_eq_f c_37) (pc' := 48) rfl ?_
            refine own_iloadN X0 hx (hb hby d2_48) (pc' := 49) rfl rfl ?_
            refine own_bipush X0 hx (35) (hb hby d2_49) (pc' := 51) rfl (by decide) ?_
            by_cases c_38 : c1 = (35 : Int32)
            · skip
              refine own_icmpY X0 hx (hb hby d2_51) (XT.ii_eq_t c_38) (pc' := 132) (by decide) (by decide) ?_
              refine own_iconst X0 hx (1) (hb hby d2_132) (pc' := 133) rfl rfl ?_
              refine own_goto X0 hx (hb hby d2_133) (pc' := 137) (by decide) (by decide) ?_
              refine own_retZ X0 hx hlk Bd.returns (by simp) (hb hby d2_137) (by decide) (by decide) ?_
              rw [e0]
              exact ⟨by simp [own_b, nar, c_1, c_2, c_35, c_36, c_37, c_38], N0, rfl⟩
            · skip
              refine own_icmpN X0 hx (hb hby d2_51) (XT.ii_eq_f c_38) (pc' := 54) rfl ?_
              refine own_iloadN X0 hx (hb hby d2_54) (pc' := 55) rfl rfl ?_
              refine own_bipush X0 hx (36) (hb hby d2_55) (pc' := 57) rfl (by decide) ?_
              by_cases c_39 : c1 = (36 : Int32)
              · skip
                refine own_icmpY X0 hx (hb hby d2_57) (XT.ii_eq_t c_39) (pc' := 132) (by decide) (by decide) ?_
                refine own_iconst X0 hx (1) (hb hby d2_132) (pc' := 133) rfl rfl ?_
                refine own_goto X0 hx (hb hby d2_133) (pc' := 137) (by decide) (by decide) ?_
                refine own_retZ X0 hx hlk Bd.returns (by simp) (hb hby d2_137) (by decide) (by decide) ?_
                rw [e0]
                exact ⟨by simp [own_b, nar, c_1, c_2, c_35, c_36, c_37, c_38, c_39], N0, rfl⟩
              · skip
                refine own_icmpN X0 hx (hb hby d2_57) (XT.ii_eq_f c_39) (pc' := 60) rfl ?_
                refine own_iloadN X0 hx (hb hby d2_60) (pc' := 61) rfl rfl ?_
                refine own_bipush X0 hx (37) (hb hby d2_61) (pc' := 63) rfl (by decide) ?_
                by_cases c_40 : c1 = (37 : Int32)
                · skip
                  refine own_icmpY X0 hx (hb hby d2_63) (XT.ii_eq_t c_40) (pc' := 132) (by decide) (by decide) ?_
                  refine own_iconst X0 hx (1) (hb hby d2_132) (pc' := 133) rfl rfl ?_
                  refine own_goto X0 hx (hb hby d2_133) (pc' := 137) (by decide) (by decide) ?_
                  refine own_retZ X0 hx hlk Bd.returns (by simp) (hb hby d2_137) (by decide) (by decide) ?_
                  rw [e0]
                  exact ⟨by simp [own_b, nar, c_1, c_2, c_35, c_36, c_37, c_38, c_39, c_40], N0, rfl⟩
                · skip
                  refine own_icmpN X0 hx (hb hby d2_63) (XT.ii_eq_f c_40) (pc' := 66) rfl ?_
                  refine own_iloadN X0 hx (hb hby d2_66) (pc' := 67) rfl rfl ?_
                  refine own_bipush X0 hx (38) (hb hby d2_67) (pc' := 69) rfl (by decide) ?_
                  by_cases c_41 : c1 = (38 : Int32)
                  · skip
                    refine own_icmpY X0 hx (hb hby d2_69) (XT.ii_eq_t c_41) (pc' := 132) (by decide) (by decide) ?_
                    refine own_iconst X0 hx (1) (hb hby d2_132) (pc' := 133) rfl rfl ?_
                    refine own_goto X0 hx (hb hby d2_133) (pc' := 137) (by decide) (by decide) ?_
                    refine own_retZ X0 hx hlk Bd.returns (by simp) (hb hby d2_137) (by decide) (by decide) ?_
                    rw [e0]
                    exact ⟨by simp [own_b, nar, c_1, c_2, c_35, c_36, c_37, c_38, c_39, c_40, c_41], N0, rfl⟩
                  · skip
                    refine own_icmpN X0 hx (hb hby d2_69) (XT.ii_eq_f c_41) (pc' := 72) rfl ?_
                    refine own_iloadN X0 hx (hb hby d2_72) (pc' := 73) rfl rfl ?_
                    refine own_bipush X0 hx (39) (hb hby d2_73) (pc' := 75) rfl (by decide) ?_
                    by_cases c_42 : c1 = (39 : Int32)
                    · skip
                      refine own_icmpY X0 hx (hb hby d2_75) (XT.ii_eq_t c_42) (pc' := 132) (by decide) (by decide) ?_
                      refine own_iconst X0 hx (1) (hb hby d2_132) (pc' := 133) rfl rfl ?_
                      refine own_goto X0 hx (hb hby d2_133) (pc' := 137) (by decide) (by decide) ?_
                      refine own_retZ X0 hx hlk Bd.returns (by simp) (hb hby d2_137) (by decide) (by decide) ?_
                      rw [e0]
                      exact ⟨by simp [own_b, nar, c_1, c_2, c_35, c_36, c_37, c_38, c_39, c_40, c_41, c_42], N0, rfl⟩
                    · skip
                      refine own_icmpN X0 hx (hb hby d2_75) (XT.ii_eq_f c_42) (pc' := 78) rfl ?_
                      refine own_iloadN X0 hx (hb hby d2_78) (pc' := 79) rfl rfl ?_
                      refine own_bipush X0 hx (42) (hb hby d2_79) (pc' := 81) rfl (by decide) ?_
                      by_cases c_43 : c1 = (42 : Int32)
                      · skip
                        refine own_icmpY X0 hx (hb hby d2_81) (XT.ii_eq_t c_43) (pc' := 132) (by decide) (by decide) ?_
                        refine own_iconst X0 hx (1) (hb hby d2_132) (pc' := 133) rfl rfl ?_
                        refine own_goto X0 hx (hb hby d2_133) (pc' := 137) (by decide) (by decide) ?_
                        refine own_retZ X0 hx hlk Bd.returns (by simp) (hb hby d2_137) (by decide) (by decide) ?_
                        rw [e0]
                        exact ⟨by simp [own_b, nar, c_1, c_2, c_35, c_36, c_37, c_38, c_39, c_40, c_41, c_42, c_43], N0, rfl⟩
                      · skip
                        refine own_icmpN X0 hx (hb hby d2_81) (XT.ii_eq_f c_43) (pc' := 84) rfl ?_
                        refine own_iloadN X0 hx (hb hby d2_84) (pc' := 85) rfl rfl ?_
                        refine own_bipush X0 hx (43) (hb hby d2_85) (pc' := 87) rfl (by decide) ?_
                        by_cases c_44 : c1 = (43 : Int32)
                        · skip
                          refine own_icmpY X0 hx (hb hby d2_87) (XT.ii_eq_t c_44) (pc' := 132) (by decide) (by decide) ?_
                          refine own_iconst X0 hx (1) (hb hby d2_132) (pc' := 133) rfl rfl ?_
                          refine own_goto X0 hx (hb hby d2_133) (pc' := 137) (by decide) (by decide) ?_
                          refine own_retZ X0 hx hlk Bd.returns (by simp) (hb hby d2_137) (by decide) (by decide) ?_
                          rw [e0]
                          exact ⟨by simp [own_b, nar, c_1, c_2, c_35, c_36, c_37, c_38, c_39, c_40, c_41, c_42, c_43, c_44], N0, rfl⟩
                        · skip
                          refine own_icmpN X0 hx (hb hby d2_87) (XT.ii_eq_f c_44) (pc' := 90) rfl ?_
                          refine own_iloadN X0 hx (hb hby d2_90) (pc' := 91) rfl rfl ?_
                          refine own_bipush X0 hx (45) (hb hby d2_91) (pc' := 93) rfl (by decide) ?_
                          by_cases c_45 : c1 = (45 : Int32)
                          · skip
                            refine own_icmpY X0 hx (hb hby d2_93) (XT.ii_eq_t c_45) (pc' := 132) (by decide) (by decide) ?_
                            refine own_iconst X0 hx (1) (hb hby d2_132) (pc' := 133) rfl rfl ?_
                            refine own_goto X0 hx (hb hby d2_133) (pc' := 137) (by decide) (by decide) ?_
                            refine own_retZ X0 hx hlk Bd.returns (by simp) (hb hby d2_137) (by decide) (by decide) ?_
                            rw [e0]
                            exact ⟨by simp [own_b, nar, c_1, c_2, c_35, c_36, c_37, c_38, c_39, c_40, c_41, c_42, c_43, c_44, c_45], N0, rfl⟩
                          · skip
                            refine own_icmpN X0 hx (hb hby d2_93) (XT.ii_eq_f c_45) (pc' := 96) rfl ?_
                            refine own_iloadN X0 hx (hb hby d2_96) (pc' := 97) rfl rfl ?_
                            refine own_bipush X0 hx (46) (hb hby d2_97) (pc' := 99) rfl (by decide) ?_
                            by_cases c_46 : c1 = (46 : Int32)
                            · skip
                              refine own_icmpY X0 hx (hb hby d2_99) (XT.ii_eq_t c_46) (pc' := 132) (by decide) (by decide) ?_
                              refine own_iconst X0 hx (1) (hb hby d2_132) (pc' := 133) rfl rfl ?_
                              refine own_goto X0 hx (hb hby d2_133) (pc' := 137) (by decide) (by decide) ?_
                              refine own_retZ X0 hx hlk Bd.returns (by simp) (hb hby d2_137) (by decide) (by decide) ?_
                              rw [e0]
                              exact ⟨by simp [own_b, nar, c_1, c_2, c_35, c_36, c_37, c_38, c_39, c_40, c_41, c_42, c_43, c_44, c_45, c_46], N0, rfl⟩
                            · skip
                              refine own_icmpN X0 hx (hb hby d2_99) (XT.ii_eq_f c_46) (pc' := 102) rfl ?_
                              refine own_iloadN X0 hx (hb hby d2_102) (pc' := 103) rfl rfl ?_
                              refine own_bipush X0 hx (94) (hb hby d2_103) (pc' := 105) rfl (by decide) ?_
                              by_cases c_47 : c1 = (94 : Int32)
                              · skip
                                refine own_icmpY X0 hx (hb hby d2_105) (XT.ii_eq_t c_47) (pc' := 132) (by decide) (by decide) ?_
                                refine own_iconst X0 hx (1) (hb hby d2_132) (pc' := 133) rfl rfl ?_
                                refine own_goto X0 hx (hb hby d2_133) (pc' := 137) (by decide) (by decide) ?_
                                refine own_retZ X0 hx hlk Bd.returns (by simp) (hb hby d2_137) (by decide) (by decide) ?_
                                rw [e0]
                                exact ⟨by simp [own_b, nar, c_1, c_2, c_35, c_36, c_37, c_38, c_39, c_40, c_41, c_42, c_43, c_44, c_45, c_46, c_47], N0, rfl⟩
                              · skip
                                refine own_icmpN X0 hx (hb hby d2_105) (XT.ii_eq_f c_47) (pc' := 108) rfl ?_
                                refine own_iloadN X0 hx (hb hby d2_108) (pc' := 109) rfl rfl ?_
                                refine own_bipush X0 hx (95) (hb hby d2_109) (pc' := 111) rfl (by decide) ?_
                                by_cases c_48 : c1 = (95 : Int32)
                                · skip
                                  refine own_icmpY X0 hx (hb hby d2_111) (XT.ii_eq_t c_48) (pc' := 132) (by decide) (by decide) ?_
                                  refine own_iconst X0 hx (1) (hb hby d2_132) (pc' := 133) rfl rfl ?_
                                  refine own_goto X0 hx (hb hby d2_133) (pc' := 137) (by decide) (by decide) ?_
                                  refine own_retZ X0 hx hlk Bd.returns (by simp) (hb hby d2_137) (by decide) (by decide) ?_
                                  rw [e0]
                                  exact ⟨by simp [own_b, nar, c_1, c_2, c_35, c_36, c_37, c_38, c_39, c_40, c_41, c_42, c_43, c_44, c_45, c_46, c_47, c_48], N0, rfl⟩
                                · skip
                                  refine own_icmpN X0 hx (hb hby d2_111) (XT.ii_eq_f c_48) (pc' := 114) rfl ?_
                                  refine own_iloadN X0 hx (hb hby d2_114) (pc' := 115) rfl rfl ?_
                                  refine own_bipush X0 hx (96) (hb hby d2_115) (pc' := 117) rfl (by decide) ?_
                                  by_cases c_49 : c1 = (96 : Int32)
                                  · skip
                                    refine own_icmpY X0 hx (hb hby d2_117) (XT.ii_eq_t c_49) (pc' := 132) (by decide) (by decide) ?_
                                    refine own_iconst X0 hx (1) (hb hby d2_132) (pc' := 133) rfl rfl ?_
                                    refine own_goto X0 hx (hb hby d2_133) (pc' := 137) (by decide) (by decide) ?_
                                    refine own_retZ X0 hx hlk Bd.returns (by simp) (hb hby d2_137) (by decide) (by decide) ?_
                                    rw [e0]
                                    exact ⟨by simp [own_b, nar, c_1, c_2, c_35, c_36, c_37, c_38, c_39, c_40, c_41, c_42, c_43, c_44, c_45, c_46, c_47, c_48, c_49], N0, rfl⟩
                                  · skip
                                    refine own_icmpN X0 hx (hb hby d2_117) (XT.ii_eq_f c_49) (pc' := 120) rfl ?_
                                    refine own_iloadN X0 hx (hb hby d2_120) (pc' := 121) rfl rfl ?_
                                    refine own_bipush X0 hx (124) (hb hby d2_121) (pc' := 123) rfl (by decide) ?_
                                    by_cases c_50 : c1 = (124 : Int32)
                                    · skip
                                      refine own_icmpY X0 hx (hb hby d2_123) (XT.ii_eq_t c_50) (pc' := 132) (by decide) (by decide) ?_
                                      refine own_iconst X0 hx (1) (hb hby d2_132) (pc' := 133) rfl rfl ?_
                                      refine own_goto X0 hx (hb hby d2_133) (pc' := 137) (by decide) (by decide) ?_
                                      refine own_retZ X0 hx hlk Bd.returns (by simp) (hb hby d2_137) (by decide) (by decide) ?_
                                      rw [e0]
                                      exact ⟨by simp [own_b, nar, c_1, c_2, c_35, c_36, c_37, c_38, c_39, c_40, c_41, c_42, c_43, c_44, c_45, c_46, c_47, c_48, c_49, c_50], N0, rfl⟩
                                    · skip
                                      refine own_icmpN X0 hx (hb hby d2_123) (XT.ii_eq_f c_50) (pc' := 126) rfl ?_
                                      refine own_iloadN X0 hx (hb hby d2_126) (pc' := 127) rfl rfl ?_
                                      refine own_bipush X0 hx (126) (hb hby d2_127) (pc' := 129) rfl (by decide) ?_
                                      by_cases c_51 : c1 = (126 : Int32)
                                      · skip
                                        refine own_icmpN X0 hx (hb hby d2_129) (XT.ii_ne_f c_51) (pc' := 132) rfl ?_
                                        refine own_iconst X0 hx (1) (hb hby d2_132) (pc' := 133) rfl rfl ?_
                                        refine own_goto X0 hx (hb hby d2_133) (pc' := 137) (by decide) (by decide) ?_
                                        refine own_retZ X0 hx hlk Bd.returns (by simp) (hb hby d2_137) (by decide) (by decide) ?_
                                        rw [e0]
                                        exact ⟨by simp [own_b, nar, c_1, c_2, c_35, c_36, c_37, c_38, c_39, c_40, c_41, c_42, c_43, c_44, c_45, c_46, c_47, c_48, c_49, c_50, c_51], N0, rfl⟩
                                      · skip
                                        refine own_icmpY X0 hx (hb hby d2_129) (XT.ii_ne_t c_51) (pc' := 136) (by decide) (by decide) ?_
                                        refine own_iconst X0 hx (0) (hb hby d2_136) (pc' := 137) rfl rfl ?_
                                        refine own_retZ X0 hx hlk Bd.returns (by simp) (hb hby d2_137) (by decide) (by decide) ?_
                                        rw [e0]
                                        exact ⟨by simp [own_b, nar, c_1, c_2, c_35, c_36, c_37, c_38, c_39, c_40, c_41, c_42, c_43, c_44, c_45, c_46, c_47, c_48, c_49, c_50, c_51], N0, rfl⟩
        · skip
          refine own_icmpN X0 hx (hb hby d2_31) (XT.ii_lt_f c_36) (pc' := 34) rfl ?_
          refine own_iloadN X0 hx (hb hby d2_34) (pc' := 35) rfl rfl ?_
          refine own_bipush X0 hx (122) (hb hby d2_35) (pc' := 37) rfl (by decide) ?_
          by_cases c_52 : (122 : Int32) < c1
          · skip
            refine own_icmpY X0 hx (hb hby d2_37) (XT.ii_gt_t c_52) (pc' := 42) (by decide) (by decide) ?_
            refine own_iloadN X0 hx (hb hby d2_42) (pc' := 43) rfl rfl ?_
            refine own_bipush X0 hx (33) (hb hby d2_43) (pc' := 45) rfl (by decide) ?_
            by_cases c_53 : c1 = (33 : Int32)
            · skip
              refine own_icmpY X0 hx (hb hby d2_45) (XT.ii_eq_t c_53) (pc' := 132) (by decide) (by decide) ?_
              refine own_iconst X0 hx (1) (hb hby d2_132) (pc' := 133) rfl rfl ?_
              refine own_goto X0 hx (hb hby d2_133) (pc' := 137) (by decide) (by decide) ?_
              refine own_retZ X0 hx hlk Bd.returns (by simp) (hb hby d2_137) (by decide) (by decide) ?_
              rw [e0]
              exact ⟨by simp [own_b, nar, c_1, c_2, c_35, c_36, c_52, c_53], N0, rfl⟩
            · skip
              refine own_icmpN X0 hx (hb hby d2_45) (XT.ii_eq_f c_53) (pc' := 48) rfl ?_
              refine own_iloadN X0 hx (hb hby d2_48) (pc' := 49) rfl rfl ?_
              refine own_bipush X0 hx (35) (hb hby d2_49) (pc' := 51) rfl (by decide) ?_
              by_cases c_54 : c1 = (35 : Int32)
              · skip
                refine own_icmpY X0 hx (hb hby d2_51) (XT.ii_eq_t c_54) (pc' := 132) (by decide) (by decide) ?_
                refine own_iconst X0 hx (1) (hb hby d2_132) (pc' := 133) rfl rfl ?_
                refine own_goto X0 hx (hb hby d2_133) (pc' := 137) (by decide) (by decide) ?_
                refine own_retZ X0 hx hlk Bd.returns (by simp) (hb hby d2_137) (by decide) (by decide) ?_
                rw [e0]
                exact ⟨by simp [own_b, nar, c_1, c_2, c_35, c_36, c_52, c_53, c_54], N0, rfl⟩
              · skip
                refine own_icmpN X0 hx (hb hby d2_51) (XT.ii_eq_f c_54) (pc' := 54) rfl ?_
                refine own_iloadN X0 hx (hb hby d2_54) (pc' := 55) rfl rfl ?_
                refine own_bipush X0 hx (36) (hb hby d2_55) (pc' := 57) rfl (by decide) ?_
                by_cases c_55 : c1 = (36 : Int32)
                · skip
                  refine own_icmpY X0 hx (hb hby d2_57) (XT.ii_eq_t c_55) (pc' := 132) (by decide) (by decide) ?_
                  refine own_iconst X0 hx (1) (hb hby d2_132) (pc' := 133) rfl rfl ?_
                  refine own_goto X0 hx (hb hby d2_133) (pc' := 137) (by decide) (by decide) ?_
                  refine own_retZ X0 hx hlk Bd.returns (by simp) (hb hby d2_137) (by decide) (by decide) ?_
                  rw [e0]
                  exact ⟨by simp [own_b, nar, c_1, c_2, c_35, c_36, c_52, c_53, c_54, c_55], N0, rfl⟩
                · skip
                  refine own_icmpN X0 hx (hb hby d2_57) (XT.ii_eq_f c_55) (pc' := 60) rfl ?_
                  refine own_iloadN X0 hx (hb hby d2_60) (pc' := 61) rfl rfl ?_
                  refine own_bipush X0 hx (37) (hb hby d2_61) (pc' := 63) rfl (by decide) ?_
                  by_cases c_56 : c1 = (37 : Int32)
                  · skip
                    refine own_icmpY X0 hx (hb hby d2_63) (XT.ii_eq_t c_56) (pc' := 132) (by decide) (by decide) ?_
                    refine own_iconst X0 hx (1) (hb hby d2_132) (pc' := 133) rfl rfl ?_
                    refine own_goto X0 hx (hb hby d2_133) (pc' := 137) (by decide) (by decide) ?_
                    refine own_retZ X0 hx hlk Bd.returns (by simp) (hb hby d2_137) (by decide) (by decide) ?_
                    rw [e0]
                    exact ⟨by simp [own_b, nar, c_1, c_2, c_35, c_36, c_52, c_53, c_54, c_55, c_56], N0, rfl⟩
                  · skip
                    refine own_icmpN X0 hx (hb hby d2_63) (XT.ii_eq_f c_56) (pc' := 66) rfl ?_
                    refine own_iloadN X0 hx (hb hby d2_66) (pc' := 67) rfl rfl ?_
                    refine own_bipush X0 hx (38) (hb hby d2_67) (pc' := 69) rfl (by decide) ?_
                    by_cases c_57 : c1 = (38 : Int32)
                    · skip
                      refine own_icmpY X0 hx (hb hby d2_69) (XT.ii_eq_t c_57) (pc' := 132) (by decide) (by decide) ?_
                      refine own_iconst X0 hx (1) (hb hby d2_132) (pc' := 133) rfl rfl ?_
                      refine own_goto X0 hx (hb hby d2_133) (pc' := 137) (by decide) (by decide) ?_
                      refine own_retZ X0 hx hlk Bd.returns (by simp) (hb hby d2_137) (by decide) (by decide) ?_
                      rw [e0]
                      exact ⟨by simp [own_b, nar, c_1, c_2, c_35, c_36, c_52, c_53, c_54, c_55, c_56, c_57], N0, rfl⟩
                    · skip
                      refine own_icmpN X0 hx (hb hby d2_69) (XT.ii_eq_f c_57) (pc' := 72) rfl ?_
                      refine own_iloadN X0 hx (hb hby d2_72) (pc' := 73) rfl rfl ?_
                      refine own_bipush X0 hx (39) (hb hby d2_73) (pc' := 75) rfl (by decide) ?_
                      by_cases c_58 : c1 = (39 : Int32)
                      · skip
                        refine own_icmpY X0 hx (hb hby d2_75) (XT.ii_eq_t c_58) (pc' := 132) (by decide) (by decide) ?_
                        refine own_iconst X0 hx (1) (hb hby d2_132) (pc' := 133) rfl rfl ?_
                        refine own_goto X0 hx (hb hby d2_133) (pc' := 137) (by decide) (by decide) ?_
                        refine own_retZ X0 hx hlk Bd.returns (by simp) (hb hby d2_137) (by decide) (by decide) ?_
                        rw [e0]
                        exact ⟨by simp [own_b, nar, c_1, c_2, c_35, c_36, c_52, c_53, c_54, c_55, c_56, c_57, c_58], N0, rfl⟩
                      · skip
                        refine own_icmpN X0 hx (hb hby d2_75) (XT.ii_eq_f c_58) (pc' := 78) rfl ?_
                        refine own_iloadN X0 hx (hb hby d2_78) (pc' := 79) rfl rfl ?_
                        refine own_bipush X0 hx (42) (hb hby d2_79) (pc' := 81) rfl (by decide) ?_
                        by_cases c_59 : c1 = (42 : Int32)
                        · skip
                          refine own_icmpY X0 hx (hb hby d2_81) (XT.ii_eq_t c_59) (pc' := 132) (by decide) (by decide) ?_
                          refine own_iconst X0 hx (1) (hb hby d2_132) (pc' := 133) rfl rfl ?_
                          refine own_goto X0 hx (hb hby d2_133) (pc' := 137) (by decide) (by decide) ?_
                          refine own_retZ X0 hx hlk Bd.returns (by simp) (hb hby d2_137) (by decide) (by decide) ?_
                          rw [e0]
                          exact ⟨by simp [own_b, nar, c_1, c_2, c_35, c_36, c_52, c_53, c_54, c_55, c_56, c_57, c_58, c_59], N0, rfl⟩
                        · skip
                          refine own_icmpN X0 hx (hb hby d2_81) (XT.ii_eq_f c_59) (pc' := 84) rfl ?_
                          refine own_iloadN X0 hx (hb hby d2_84) (pc' := 85) rfl rfl ?_
                          refine own_bipush X0 hx (43) (hb hby d2_85) (pc' := 87) rfl (by decide) ?_
                          by_cases c_60 : c1 = (43 : Int32)
                          · skip
                            refine own_icmpY X0 hx (hb hby d2_87) (XT.ii_eq_t c_60) (pc' := 132) (by decide) (by decide) ?_
                            refine own_iconst X0 hx (1) (hb hby d2_132) (pc' := 133) rfl rfl ?_
                            refine own_goto X0 hx (hb hby d2_133) (pc' := 137) (by decide) (by decide) ?_
                            refine own_retZ X0 hx hlk Bd.returns (by simp) (hb hby d2_137) (by decide) (by decide) ?_
                            rw [e0]
                            exact ⟨by simp [own_b, nar, c_1, c_2, c_35, c_36, c_52, c_53, c_54, c_55, c_56, c_57, c_58, c_59, c_60], N0, rfl⟩
                          · skip
                            refine own_icmpN X0 hx (hb hby d2_87) (XT.ii_eq_f c_60) (pc' := 90) rfl ?_
                            refine own_iloadN X0 hx (hb hby d2_90) (pc' := 91) rfl rfl ?_
                            refine own_bipush X0 hx (45) (hb hby d2_91) (pc' := 93) rfl (by decide) ?_
                            by_cases c_61 : c1 = (45 : Int32)
                            · skip
                              refine own_icmpY X0 hx (hb hby d2_93) (XT.ii_eq_t c_61) (pc' := 132) (by decide) (by decide) ?_
                              refine own_iconst X0 hx (1) (hb hby d2_132) (pc' := 133) rfl rfl ?_
                              refine own_goto X0 hx (hb hby d2_133) (pc' := 137) (by decide) (by decide) ?_
                              refine own_retZ X0 hx hlk Bd.returns (by simp) (hb hby d2_137) (by decide) (by decide) ?_
                              rw [e0]
                              exact ⟨by simp [own_b, nar, c_1, c_2, c_35, c_36, c_52, c_53, c_54, c_55, c_56, c_57, c_58, c_59, c_60, c_61], N0, rfl⟩
                            · skip
                              refine own_icmpN X0 hx (hb hby d2_93) (XT.ii_eq_f c_61) (pc' := 96) rfl ?_
                              refine own_iloadN X0 hx (hb hby d2_96) (pc' := 97) rfl rfl ?_
                              refine own_bipush X0 hx (46) (hb hby d2_97) (pc' := 99) rfl (by decide) ?_
                              by_cases c_62 : c1 = (46 : Int32)
                              · skip
                                refine own_icmpY X0 hx (hb hby d2_99) (XT.ii_eq_t c_62) (pc' := 132) (by decide) (by decide) ?_
                                refine own_iconst X0 hx (1) (hb hby d2_132) (pc' := 133) rfl rfl ?_
                                refine own_goto X0 hx (hb hby d2_133) (pc' := 137) (by decide) (by decide) ?_
                                refine own_retZ X0 hx hlk Bd.returns (by simp) (hb hby d2_137) (by decide) (by decide) ?_
                                rw [e0]
                                exact ⟨by simp [own_b, nar, c_1, c_2, c_35, c_36, c_52, c_53, c_54, c_55, c_56, c_57, c_58, c_59, c_60, c_61, c_62], N0, rfl⟩
                              · skip
                                refine own_icmpN X0 hx (hb hby d2_99) (XT.ii_eq_f c_62) (pc' := 102) rfl ?_
                                refine own_iloadN X0 hx (hb hby d2_102) (pc' := 103) rfl rfl ?_
                                refine own_bipush X0 hx (94) (hb hby d2_103) (pc' := 105) rfl (by decide) ?_
                                by_cases c_63 : c1 = (94 : Int32)
                                · skip
                                  refine own_icmpY X0 hx (hb hby d2_105) (XT.ii_eq_t c_63) (pc' := 132) (by decide) (by decide) ?_
                                  refine own_iconst X0 hx (1) (hb hby d2_132) (pc' := 133) rfl rfl ?_
                                  refine own_goto X0 hx (hb hby d2_133) (pc' := 137) (by decide) (by decide) ?_
                                  refine own_retZ X0 hx hlk Bd.returns (by simp) (hb hby d2_137) (by decide) (by decide) ?_
                                  rw [e0]
                                  exact ⟨by simp [own_b, nar, c_1, c_2, c_35, c_36, c_52, c_53, c_54, c_55, c_56, c_57, c_58, c_59, c_60, c_61, c_62, c_63], N0, rfl⟩
                                · skip
                                  refine own_icmpN X0 hx (hb hby d2_105) (XT.ii_eq_f c_63) (pc' := 108) rfl ?_
                                  refine own_iloadN X0 hx (hb hby d2_108) (pc' := 109) rfl rfl ?_
                                  refine own_bipush X0 hx (95) (hb hby d2_109) (pc' := 111) rfl (by decide) ?_
                                  by_cases c_64 : c1 = (95 : Int32)
                                  · skip
                                    refine own_icmpY X0 hx (hb hby d2_111) (XT.ii_eq_t c_64) (pc' := 132) (by decide) (by decide) ?_
                                    refine own_iconst X0 hx (1) (hb hby d2_132) (pc' := 133) rfl rfl ?_
                                    refine own_goto X0 hx (hb hby d2_133) (pc' := 137) (by decide) (by decide) ?_
                                    refine own_retZ X0 hx hlk Bd.returns (by simp) (hb hby d2_137) (by decide) (by decide) ?_
                                    rw [e0]
                                    exact ⟨by simp [own_b, nar, c_1, c_2, c_35, c_36, c_52, c_53, c_54, c_55, c_56, c_57, c_58, c_59, c_60, c_61, c_62, c_63, c_64], N0, rfl⟩
                                  · skip
                                    refine own_icmpN X0 hx (hb hby d2_111) (XT.ii_eq_f c_64) (pc' := 114) rfl ?_
                                    refine own_iloadN X0 hx (hb hby d2_114) (pc' := 115) rfl rfl ?_
                                    refine own_bipush X0 hx (96) (hb hby d2_115) (pc' := 117) rfl (by decide) ?_
                                    by_cases c_65 : c1 = (96 : Int32)
                                    · skip
                                      refine own_icmpY X0 hx (hb hby d2_117) (XT.ii_eq_t c_65) (pc' := 132) (by decide) (by decide) ?_
                                      refine own_iconst X0 hx (1) (hb hby d2_132) (pc' := 133) rfl rfl ?_
                                      refine own_goto X0 hx (hb hby d2_133) (pc' := 137) (by decide) (by decide) ?_
                                      refine own_retZ X0 hx hlk Bd.returns (by simp) (hb hby d2_137) (by decide) (by decide) ?_
                                      rw [e0]
                                      exact ⟨by simp [own_b, nar, c_1, c_2, c_35, c_36, c_52, c_53, c_54, c_55, c_56, c_57, c_58, c_59, c_60, c_61, c_62, c_63, c_64, c_65], N0, rfl⟩
                                    · skip
                                      refine own_icmpN X0 hx (hb hby d2_117) (XT.ii_eq_f c_65) (pc' := 120) rfl ?_
                                      refine own_iloadN X0 hx (hb hby d2_120) (pc' := 121) rfl rfl ?_
                                      refine own_bipush X0 hx (124) (hb hby d2_121) (pc' := 123) rfl (by decide) ?_
                                      by_cases c_66 : c1 = (124 : Int32)
                                      · skip
                                        refine own_icmpY X0 hx (hb hby d2_123) (XT.ii_eq_t c_66) (pc' := 132) (by decide) (by decide) ?_
                                        refine own_iconst X0 hx (1) (hb hby d2_132) (pc' := 133) rfl rfl ?_
                                        refine own_goto X0 hx (hb hby d2_133) (pc' := 137) (by decide) (by decide) ?_
                                        refine own_retZ X0 hx hlk Bd.returns (by simp) (hb hby d2_137) (by decide) (by decide) ?_
                                        rw [e0]
                                        exact ⟨by simp [own_b, nar, c_1, c_2, c_35, c_36, c_52, c_53, c_54, c_55, c_56, c_57, c_58, c_59, c_60, c_61, c_62, c_63, c_64, c_65, c_66], N0, rfl⟩
                                      · skip
                                        refine own_icmpN X0 hx (hb hby d2_123) (XT.ii_eq_f c_66) (pc' := 126) rfl ?_
                                        refine own_iloadN X0 hx (hb hby d2_126) (pc' := 127) rfl rfl ?_
                                        refine own_bipush X0 hx (126) (hb hby d2_127) (pc' := 129) rfl (by decide) ?_
                                        by_cases c_67 : c1 = (126 : Int32)
                                        · skip
                                          refine own_icmpN X0 hx (hb hby d2_129) (XT.ii_ne_f c_67) (pc' := 132) rfl ?_
                                          refine own_iconst X0 hx (1) (hb hby d2_132) (pc' := 133) rfl rfl ?_
                                          refine own_goto X0 hx (hb hby d2_133) (pc' := 137) (by decide) (by decide) ?_
                                          refine own_retZ X0 hx hlk Bd.returns (by simp) (hb hby d2_137) (by decide) (by decide) ?_
                                          rw [e0]
                                          exact ⟨by simp [own_b, nar, c_1, c_2, c_35, c_36, c_52, c_53, c_54, c_55, c_56, c_57, c_58, c_59, c_60, c_61, c_62, c_63, c_64, c_65, c_66, c_67], N0, rfl⟩
                                        · skip
                                          refine own_icmpY X0 hx (hb hby d2_129) (XT.ii_ne_t c_67) (pc' := 136) (by decide) (by decide) ?_
                                          refine own_iconst X0 hx (0) (hb hby d2_136) (pc' := 137) rfl rfl ?_
                                          refine own_retZ X0 hx hlk Bd.returns (by simp) (hb hby d2_137) (by decide) (by decide) ?_
                                          rw [e0]
                                          exact ⟨by simp [own_b, nar, c_1, c_2, c_35, c_36, c_52, c_53, c_54, c_55, c_56, c_57, c_58, c_59, c_60, c_61, c_62, c_63, c_64, c_65, c_66, c_67], N0, rfl⟩
          · skip
            refine own_icmpN X0 hx (hb hby d2_37) (XT.ii_gt_f c_52) (pc' := 40) rfl ?_
            refine own_iconst X0 hx (1) (hb hby d2_40) (pc' := 41) rfl rfl ?_
            refine own_retZ X0 hx hlk Bd.returns (by simp) (hb hby d2_41) (by decide) (by decide) ?_
            rw [e0]
            exact ⟨by simp [own_b, nar, c_1, c_2, c_35, c_36, c_52], N0, rfl⟩
      · skip
        refine own_icmpN X0 hx (hb hby d2_23) (XT.ii_gt_f c_35) (pc' := 26) rfl ?_
        refine own_iconst X0 hx (1) (hb hby d2_26) (pc' := 27) rfl rfl ?_
        refine own_retZ X0 hx hlk Bd.returns (by simp) (hb hby d2_27) (by decide) (by decide) ?_
        rw [e0]
        exact ⟨by simp [own_b, nar, c_1, c_2, c_35], N0, rfl⟩
  · skip
    refine own_icmpN X0 hx (hb hby d2_3) (XT.ii_lt_f c_1) (pc' := 6) rfl ?_
    refine own_iloadN X0 hx (hb hby d2_6) (pc' := 7) rfl rfl ?_
    refine own_bipush X0 hx (57) (hb hby d2_7) (pc' := 9) rfl (by decide) ?_
    by_cases c_68 : (57 : Int32) < c1
    · skip
      refine own_icmpY X0 hx (hb hby d2_9) (XT.ii_gt_t c_68) (pc' := 14) (by decide) (by decide) ?_
      refine own_iloadN X0 hx (hb hby d2_14) (pc' := 15) rfl rfl ?_
      refine own_bipush X0 hx (65) (hb hby d2_15) (pc' := 17) rfl (by decide) ?_
      by_cases c_69 : c1 < (65 : Int32)
      · skip
        refine own_icmpY X0 hx (hb hby d2_17) (XT.ii_lt_t c_69) (pc' := 28) (by decide) (by decide) ?_
        refine own_iloadN X0 hx (hb hby d2_28) (pc' := 29) rfl rfl ?_
        refine own_bipush X0 hx (97) (hb hby d2_29) (pc' := 31) rfl (by decide) ?_
        by_cases c_70 : c1 < (97 : Int32)
        · skip
          refine own_icmpY X0 hx (hb hby d2_31) (XT.ii_lt_t c_70) (pc' := 42) (by decide) (by decide) ?_
          refine own_iloadN X0 hx (hb hby d2_42) (pc' := 43) rfl rfl ?_
          refine own_bipush X0 hx (33) (hb hby d2_43) (pc' := 45) rfl (by decide) ?_
          by_cases c_71 : c1 = (33 : Int32)
          · skip
            refine own_icmpY X0 hx (hb hby d2_45) (XT.ii_eq_t c_71) (pc' := 132) (by decide) (by decide) ?_
            refine own_iconst X0 hx (1) (hb hby d2_132) (pc' := 133) rfl rfl ?_
            refine own_goto X0 hx (hb hby d2_133) (pc' := 137) (by decide) (by decide) ?_
            refine own_retZ X0 hx hlk Bd.returns (by simp) (hb hby d2_137) (by decide) (by decide) ?_
            rw [e0]
            exact ⟨by simp [own_b, nar, c_1, c_68, c_69, c_70, c_71], N0, rfl⟩
          · skip
            refine own_icmpN X0 hx (hb hby d2_45) (XT.ii_eq_f c_71) (pc' := 48) rfl ?_
            refine own_iloadN X0 hx (hb hby d2_48) (pc' := 49) rfl rfl ?_
            refine own_bipush X0 hx (35) (hb hby d2_49) (pc' := 51) rfl (by decide) ?_
            by_cases c_72 : c1 = (35 : Int32)
            · skip
              refine own_icmpY X0 hx (hb hby d2_51) (XT.ii_eq_t c_72) (pc' := 132) (by decide) (by decide) ?_
              refine own_iconst X0 hx (1) (hb hby d2_132) (pc' := 133) rfl rfl ?_
              refine own_goto X0 hx (hb hby d2_133) (pc' := 137) (by decide) (by decide) ?_
              refine own_retZ X0 hx hlk Bd.returns (by simp) (hb hby d2_137) (by decide) (by decide) ?_
              rw [e0]
              exact ⟨by simp [own_b, nar, c_1, c_68, c_69, c_70, c_71, c_72], N0, rfl⟩
            · skip
              refine own_icmpN X0 hx (hb hby d2_51) (XT.ii_eq_f c_72) (pc' := 54) rfl ?_
              refine own_iloadN X0 hx (hb hby d2_54) (pc' := 55) rfl rfl ?_
              refine own_bipush X0 hx (36) (hb hby d2_55) (pc' := 57) rfl (by decide) ?_
              by_cases c_73 : c1 = (36 : Int32)
              · skip
                refine own_icmpY X0 hx (hb hby d2_57) (XT.ii_eq_t c_73) (pc' := 132) (by decide) (by decide) ?_
                refine own_iconst X0 hx (1) (hb hby d2_132) (pc' := 133) rfl rfl ?_
                refine own_goto X0 hx (hb hby d2_133) (pc' := 137) (by decide) (by decide) ?_
                refine own_retZ X0 hx hlk Bd.returns (by simp) (hb hby d2_137) (by decide) (by decide) ?_
                rw [e0]
                exact ⟨by simp [own_b, nar, c_1, c_68, c_69, c_70, c_71, c_72, c_73], N0, rfl⟩
              · skip
                refine own_icmpN X0 hx (hb hby d2_57) (XT.ii_eq_f c_73) (pc' := 60) rfl ?_
                refine own_iloadN X0 hx (hb hby d2_60) (pc' := 61) rfl rfl ?_
                refine own_bipush X0 hx (37) (hb hby d2_61) (pc' := 63) rfl (by decide) ?_
                by_cases c_74 : c1 = (37 : Int32)
                · skip
                  refine own_icmpY X0 hx (hb hby d2_63) (XT.ii_eq_t c_74) (pc' := 132) (by decide) (by decide) ?_
                  refine own_iconst X0 hx (1) (hb hby d2_132) (pc' := 133) rfl rfl ?_
                  refine own_goto X0 hx (hb hby d2_133) (pc' := 137) (by decide) (by decide) ?_
                  refine own_retZ X0 hx hlk Bd.returns (by simp) (hb hby d2_137) (by decide) (by decide) ?_
                  rw [e0]
                  exact ⟨by simp [own_b, nar, c_1, c_68, c_69, c_70, c_71, c_72, c_73, c_74], N0, rfl⟩
                · skip
                  refine own_icmpN X0 hx (hb hby d2_63) (XT.ii_eq_f c_74) (pc' := 66) rfl ?_
                  refine own_iloadN X0 hx (hb hby d2_66) (pc' := 67) rfl rfl ?_
                  refine own_bipush X0 hx (38) (hb hby d2_67) (pc' := 69) rfl (by decide) ?_
                  by_cases c_75 : c1 = (38 : Int32)
                  · skip
                    refine own_icmpY X0 hx (hb hby d2_69) (XT.ii_eq_t c_75) (pc' := 132) (by decide) (by decide) ?_
                    refine own_iconst X0 hx (1) (hb hby d2_132) (pc' := 133) rfl rfl ?_
                    refine own_goto X0 hx (hb hby d2_133) (pc' := 137) (by decide) (by decide) ?_
                    refine own_retZ X0 hx hlk Bd.returns (by simp) (hb hby d2_137) (by decide) (by decide) ?_
                    rw [e0]
                    exact ⟨by simp [own_b, nar, c_1, c_68, c_69, c_70, c_71, c_72, c_73, c_74, c_75], N0, rfl⟩
                  · skip
                    refine own_icmpN X0 hx (hb hby d2_69) (XT.ii_eq_f c_75) (pc' := 72) rfl ?_
                    refine own_iloadN X0 hx (hb hby d2_72) (pc' := 73) rfl rfl ?_
                    refine own_bipush X0 hx (39) (hb hby d2_73) (pc' := 75) rfl (by decide) ?_
                    by_cases c_76 : c1 = (39 : Int32)
                    · skip
                      refine own_icmpY X0 hx (hb hby d2_75) (XT.ii_eq_t c_76) (pc' := 132) (by decide) (by decide) ?_
                      refine own_iconst X0 hx (1) (hb hby d2_132) (pc' := 133) rfl rfl ?_
                      refine own_goto X0 hx (hb hby d2_133) (pc' := 137) (by decide) (by decide) ?_
                      refine own_retZ X0 hx hlk Bd.returns (by simp) (hb hby d2_137) (by decide) (by decide) ?_
                      rw [e0]
                      exact ⟨by simp [own_b, nar, c_1, c_68, c_69, c_70, c_71, c_72, c_73, c_74, c_75, c_76], N0, rfl⟩
                    · skip
                      refine own_icmpN X0 hx (hb hby d2_75) (XT.ii_eq_f c_76) (pc' := 78) rfl ?_
                      refine own_iloadN X0 hx (hb hby d2_78) (pc' := 79) rfl rfl ?_
                      refine own_bipush X0 hx (42) (hb hby d2_79) (pc' := 81) rfl (by decide) ?_
                      by_cases c_77 : c1 = (42 : Int32)
                      · skip
                        refine own_icmpY X0 hx (hb hby d2_81) (XT.ii_eq_t c_77) (pc' := 132) (by decide) (by decide) ?_
                        refine own_iconst X0 hx (1) (hb hby d2_132) (pc' := 133) rfl rfl ?_
                        refine own_goto X0 hx (hb hby d2_133) (pc' := 137) (by decide) (by decide) ?_
                        refine own_retZ X0 hx hlk Bd.returns (by simp) (hb hby d2_137) (by decide) (by decide) ?_
                        rw [e0]
                        exact ⟨by simp [own_b, nar, c_1, c_68, c_69, c_70, c_71, c_72, c_73, c_74, c_75, c_76, c_77], N0, rfl⟩
                      · skip
                        refine own_icmpN X0 hx (hb hby d2_81) (XT.ii_eq_f c_77) (pc' := 84) rfl ?_
                        refine own_iloadN X0 hx (hb hby d2_84) (pc' := 85) rfl rfl ?_
                        refine own_bipush X0 hx (43) (hb hby d2_85) (pc' := 87) rfl (by decide) ?_
                        by_cases c_78 : c1 = (43 : Int32)
                        · skip
                          refine own_icmpY X0 hx (hb hby d2_87) (XT.ii_eq_t c_78) (pc' := 132) (by decide) (by decide) ?_
                          refine own_iconst X0 hx (1) (hb hby d2_132) (pc' := 133) rfl rfl ?_
                          refine own_goto X0 hx (hb hby d2_133) (pc' := 137) (by decide) (by decide) ?_
                          refine own_retZ X0 hx hlk Bd.returns (by simp) (hb hby d2_137) (by decide) (by decide) ?_
                          rw [e0]
                          exact ⟨by simp [own_b, nar, c_1, c_68, c_69, c_70, c_71, c_72, c_73, c_74, c_75, c_76, c_77, c_78], N0, rfl⟩
                        · skip
                          refine own_icmpN X0 hx (hb hby d2_87) (XT.ii_eq_f c_78) (pc' := 90) rfl ?_
                          refine own_iloadN X0 hx (hb hby d2_90) (pc' := 91) rfl rfl ?_
                          refine own_bipush X0 hx (45) (hb hby d2_91) (pc' := 93) rfl (by decide) ?_
                          by_cases c_79 : c1 = (45 : Int32)
                          · skip
                            refine own_icmpY X0 hx (hb hby d2_93) (XT.ii_eq_t c_79) (pc' := 132) (by decide) (by decide) ?_
                            refine own_iconst X0 hx (1) (hb hby d2_132) (pc' := 133) rfl rfl ?_
                            refine own_goto X0 hx (hb hby d2_133) (pc' := 137) (by decide) (by decide) ?_
                            refine own_retZ X0 hx hlk Bd.returns (by simp) (hb hby d2_137) (by decide) (by decide) ?_
                            rw [e0]
                            exact ⟨by simp [own_b, nar, c_1, c_68, c_69, c_70, c_71, c_72, c_73, c_74, c_75, c_76, c_77, c_78, c_79], N0, rfl⟩
                          · skip
                            refine own_icmpN X0 hx (hb hby d2_93) (XT.ii_eq_f c_79) (pc' := 96) rfl ?_
                            refine own_iloadN X0 hx (hb hby d2_96) (pc' := 97) rfl rfl ?_
                            refine own_bipush X0 hx (46) (hb hby d2_97) (pc' := 99) rfl (by decide) ?_
                            by_cases c_80 : c1 = (46 : Int32)
                            · skip
                              refine own_icmpY X0 hx (hb hby d2_99) (XT.ii_eq_t c_80) (pc' := 132) (by decide) (by decide) ?_
                              refine own_iconst X0 hx (1) (hb hby d2_132) (pc' := 133) rfl rfl ?_
                              refine own_goto X0 hx (hb hby d2_133) (pc' := 137) (by decide) (by decide) ?_
                              refine own_retZ X0 hx hlk Bd.returns (by simp) (hb hby d2_137) (by decide) (by decide) ?_
                              rw [e0]
                              exact ⟨by simp [own_b, nar, c_1, c_68, c_69, c_70, c_71, c_72, c_73, c_74, c_75, c_76, c_77, c_78, c_79, c_80], N0, rfl⟩
                            · skip
                              refine own_icmpN X0 hx (hb hby d2_99) (XT.ii_eq_f c_80) (pc' := 102) rfl ?_
                              refine own_iloadN X0 hx (hb hby d2_102) (pc' := 103) rfl rfl ?_
                              refine own_bipush X0 hx (94) (hb hby d2_103) (pc' := 105) rfl (by decide) ?_
                              by_cases c_81 : c1 = (94 : Int32)
                              · skip
                                refine own_icmpY X0 hx (hb hby d2_105) (XT.ii_eq_t c_81) (pc' := 132) (by decide) (by decide) ?_
                                refine own_iconst X0 hx (1) (hb hby d2_132) (pc' := 133) rfl rfl ?_
                                refine own_goto X0 hx (hb hby d2_133) (pc' := 137) (by decide) (by decide) ?_
                                refine own_retZ X0 hx hlk Bd.returns (by simp) (hb hby d2_137) (by decide) (by decide) ?_
                                rw [e0]
                                exact ⟨by simp [own_b, nar, c_1, c_68, c_69, c_70, c_71, c_72, c_73, c_74, c_75, c_76, c_77, c_78, c_79, c_80, c_81], N0, rfl⟩
                              · skip
                                refine own_icmpN X0 hx (hb hby d2_105) (XT.ii_eq_f c_81) (pc' := 108) rfl ?_
                                refine own_iloadN X0 hx (hb hby d2_108) (pc' := 109) rfl rfl ?_
                                refine own_bipush X0 hx (95) (hb hby d2_109) (pc' := 111) rfl (by decide) ?_
                                by_cases c_82 : c1 = (95 : Int32)
                                · skip
                                  refine own_icmpY X0 hx (hb hby d2_111) (XT.ii_eq_t c_82) (pc' := 132) (by decide) (by decide) ?_
                                  refine own_iconst X0 hx (1) (hb hby d2_132) (pc' := 133) rfl rfl ?_
                                  refine own_goto X0 hx (hb hby d2_133) (pc' := 137) (by decide) (by decide) ?_
                                  refine own_retZ X0 hx hlk Bd.returns (by simp) (hb hby d2_137) (by decide) (by decide) ?_
                                  rw [e0]
                                  exact ⟨by simp [own_b, nar, c_1, c_68, c_69, c_70, c_71, c_72, c_73, c_74, c_75, c_76, c_77, c_78, c_79, c_80, c_81, c_82], N0, rfl⟩
                                · skip
                                  refine own_icmpN X0 hx (hb hby d2_111) (XT.ii_eq_f c_82) (pc' := 114) rfl ?_
                                  refine own_iloadN X0 hx (hb hby d2_114) (pc' := 115) rfl rfl ?_
                                  refine own_bipush X0 hx (96) (hb hby d2_115) (pc' := 117) rfl (by decide) ?_
                                  by_cases c_83 : c1 = (96 : Int32)
                                  · skip
                                    refine own_icmpY X0 hx (hb hby d2_117) (XT.ii_eq_t c_83) (pc' := 132) (by decide) (by decide) ?_
                                    refine own_iconst X0 hx (1) (hb hby d2_132) (pc' := 133) rfl rfl ?_
                                    refine own_goto X0 hx (hb hby d2_133) (pc' := 137) (by decide) (by decide) ?_
                                    refine own_retZ X0 hx hlk Bd.returns (by simp) (hb hby d2_137) (by decide) (by decide) ?_
                                    rw [e0]
                                    exact ⟨by simp [own_b, nar, c_1, c_68, c_69, c_70, c_71, c_72, c_73, c_74, c_75, c_76, c_77, c_78, c_79, c_80, c_81, c_82, c_83], N0, rfl⟩
                                  · skip
                                    refine own_icmpN X0 hx (hb hby d2_117) (XT.ii_eq_f c_83) (pc' := 120) rfl ?_
                                    refine own_iloadN X0 hx (hb hby d2_120) (pc' := 121) rfl rfl ?_
                                    refine own_bipush X0 hx (124) (hb hby d2_121) (pc' := 123) rfl (by decide) ?_
                                    by_cases c_84 : c1 = (124 : Int32)
                                    · skip
                                      refine own_icmpY X0 hx (hb hby d2_123) (XT.ii_eq_t c_84) (pc' := 132) (by decide) (by decide) ?_
                                      refine own_iconst X0 hx (1) (hb hby d2_132) (pc' := 133) rfl rfl ?_
                                      refine own_goto X0 hx (hb hby d2_133) (pc' := 137) (by decide) (by decide) ?_
                                      refine own_retZ X0 hx hlk Bd.returns (by simp) (hb hby d2_137) (by decide) (by decide) ?_
                                      rw [e0]
                                      exact ⟨by simp [own_b, nar, c_1, c_68, c_69, c_70, c_71, c_72, c_73, c_74, c_75, c_76, c_77, c_78, c_79, c_80, c_81, c_82, c_83, c_84], N0, rfl⟩
                                    · skip
                                      refine own_icmpN X0 hx (hb hby d2_123) (XT.ii_eq_f c_84) (pc' := 126) rfl ?_
                                      refine own_iloadN X0 hx (hb hby d2_126) (pc' := 127) rfl rfl ?_
                                      refine own_bipush X0 hx (126) (hb hby d2_127) (pc' := 129) rfl (by decide) ?_
                                      by_cases c_85 : c1 = (126 : Int32)
                                      · skip
                                        refine own_icmpN X0 hx (hb hby d2_129) (XT.ii_ne_f c_85) (pc' := 132) rfl ?_
                                        refine own_iconst X0 hx (1) (hb hby d2_132) (pc' := 133) rfl rfl ?_
                                        refine own_goto X0 hx (hb hby d2_133) (pc' := 137) (by decide) (by decide) ?_
                                        refine own_retZ X0 hx hlk Bd.returns (by simp) (hb hby d2_137) (by decide) (by decide) ?_
                                        rw [e0]
                                        exact ⟨by simp [own_b, nar, c_1, c_68, c_69, c_70, c_71, c_72, c_73, c_74, c_75, c_76, c_77, c_78, c_79, c_80, c_81, c_82, c_83, c_84, c_85], N0, rfl⟩
                                      · skip
                                        refine own_icmpY X0 hx (hb hby d2_129) (XT.ii_ne_t c_85) (pc' := 136) (by decide) (by decide) ?_
                                        refine own_iconst X0 hx (0) (hb hby d2_136) (pc' := 137) rfl rfl ?_
                                        refine own_retZ X0 hx hlk Bd.returns (by simp) (hb hby d2_137) (by decide) (by decide) ?_
                                        rw [e0]
                                        exact ⟨by simp [own_b, nar, c_1, c_68, c_69, c_70, c_71, c_72, c_73, c_74, c_75, c_76, c_77, c_78, c_79, c_80, c_81, c_82, c_83, c_84, c_85], N0, rfl⟩
        · skip
          refine own_icmpN X0 hx (hb hby d2_31) (XT.ii_lt_f c_70) (pc' := 34) rfl ?_
          refine own_iloadN X0 hx (hb hby d2_34) (pc' := 35) rfl rfl ?_
          refine own_bipush X0 hx (122) (hb hby d2_35) (pc' := 37) rfl (by decide) ?_
          by_cases c_86 : (122 : Int32) < c1
          · skip
            refine own_icmpY X0 hx (hb hby d2_37) (XT.ii_gt_t c_86) (pc' := 42) (by decide) (by decide) ?_
            refine own_iloadN X0 hx (hb hby d2_42) (pc' := 43) rfl rfl ?_
            refine own_bipush X0 hx (33) (hb hby d2_43) (pc' := 45) rfl (by decide) ?_
            by_cases c_87 : c1 = (33 : Int32)
            · skip
              refine own_icmpY X0 hx (hb hby d2_45) (XT.ii_eq_t c_87) (pc' := 132) (by decide) (by decide) ?_
              refine own_iconst X0 hx (1) (hb hby d2_132) (pc' := 133) rfl rfl ?_
              refine own_goto X0 hx (hb hby d2_133) (pc' := 137) (by decide) (by decide) ?_
              refine own_retZ X0 hx hlk Bd.returns (by simp) (hb hby d2_137) (by decide) (by decide) ?_
              rw [e0]
              exact ⟨by simp [own_b, nar, c_1, c_68, c_69, c_70, c_86, c_87], N0, rfl⟩
            · skip
              refine own_icmpN X0 hx (hb hby d2_45) (XT.ii_eq_f c_87) (pc' := 48) rfl ?_
              refine own_iloadN X0 hx (hb hby d2_48) (pc' := 49) rfl rfl ?_
              refine own_bipush X0 hx (35) (hb hby d2_49) (pc' := 51) rfl (by decide) ?_
              by_cases c_88 : c1 = (35 : Int32)
              · skip
                refine own_icmpY X0 hx (hb hby d2_51) (XT.ii_eq_t c_88) (pc' := 132) (by decide) (by decide) ?_
                refine own_iconst X0 hx (1) (hb hby d2_132) (pc' := 133) rfl rfl ?_
                refine own_goto X0 hx (hb hby d2_133) (pc' := 137) (by decide) (by decide) ?_
                refine own_retZ X0 hx hlk Bd.returns (by simp) (hb hby d2_137) (by decide) (by decide) ?_
                rw [e0]
                exact ⟨by simp [own_b, nar, c_1, c_68, c_69, c_70, c_86, c_87, c_88], N0, rfl⟩
              · skip
                refine own_icmpN X0 hx (hb hby d2_51) (XT.ii_eq_f c_88) (pc' := 54) rfl ?_
                refine own_iloadN X0 hx (hb hby d2_54) (pc' := 55) rfl rfl ?_
                refine own_bipush X0 hx (36) (hb hby d2_55) (pc' := 57) rfl (by decide) ?_
                by_cases c_89 : c1 = (36 : Int32)
                · skip
                  refine own_icmpY X0 hx (hb hby d2_57) (XT.ii_eq_t c_89) (pc' := 132) (by decide) (by decide) ?_
                  refine own_iconst X0 hx (1) (hb hby d2_132) (pc' := 133) rfl rfl ?_
                  refine own_goto X0 hx (hb hby d2_133) (pc' := 137) (by decide) (by decide) ?_
                  refine own_retZ X0 hx hlk Bd.returns (by simp) (hb hby d2_137) (by decide) (by decide) ?_
                  rw [e0]
                  exact ⟨by simp [own_b, nar, c_1, c_68, c_69, c_70, c_86, c_87, c_88, c_89], N0, rfl⟩
                · skip
                  refine own_icmpN X0 hx (hb hby d2_57) (XT.ii_eq_f c_89) (pc' := 60) rfl ?_
                  refine own_iloadN X0 hx (hb hby d2_60) (pc' := 61) rfl rfl ?_
                  refine own_bipush X0 hx (37) (hb hby d2_61) (pc' := 63) rfl (by decide) ?_
                  by_cases c_90 : c1 = (37 : Int32)
                  · skip
                    refine own_icmpY X0 hx (hb hby d2_63) (XT.ii_eq_t c_90) (pc' := 132) (by decide) (by decide) ?_
                    refine own_iconst X0 hx (1) (hb hby d2_132) (pc' := 133) rfl rfl ?_
                    refine own_goto X0 hx (hb hby d2_133) (pc' := 137) (by decide) (by decide) ?_
                    refine own_retZ X0 hx hlk Bd.returns (by simp) (hb hby d2_137) (by decide) (by decide) ?_
                    rw [e0]
                    exact ⟨by simp [own_b, nar, c_1, c_68, c_69, c_70, c_86, c_87, c_88, c_89, c_90], N0, rfl⟩
                  · skip
                    refine own_icmpN X0 hx (hb hby d2_63) (XT.ii_eq_f c_90) (pc' := 66) rfl ?_
                    refine own_iloadN X0 hx (hb hby d2_66) (pc' := 67) rfl rfl ?_
                    refine own_bipush X0 hx (38) (hb hby d2_67) (pc' := 69) rfl (by decide) ?_
                    by_cases c_91 : c1 = (38 : Int32)
                    · skip
                      refine own_icmpY X0 hx (hb hby d2_69) (XT.ii_eq_t c_91) (pc' := 132) (by decide) (by decide) ?_
                      refine own_iconst X0 hx (1) (hb hby d2_132) (pc' := 133) rfl rfl ?_
                      refine own_goto X0 hx (hb hby d2_133) (pc' := 137) (by decide) (by decide) ?_
                      refine own_retZ X0 hx hlk Bd.returns (by simp) (hb hby d2_137) (by decide) (by decide) ?_
                      rw [e0]
                      exact ⟨by simp [own_b, nar, c_1, c_68, c_69, c_70, c_86, c_87, c_88, c_89, c_90, c_91], N0, rfl⟩
                    · skip
                      refine own_icmpN X0 hx (hb hby d2_69) (XT.ii_eq_f c_91) (pc' := 72) rfl ?_
                      refine own_iloadN X0 hx (hb hby d2_72) (pc' := 73) rfl rfl ?_
                      refine own_bipush X0 hx (39) (hb hby d2_73) (pc' := 75) rfl (by decide) ?_
                      by_cases c_92 : c1 = (39 : Int32)
                      · skip
                        refine own_icmpY X0 hx (hb hby d2_75) (XT.ii_eq_t c_92) (pc' := 132) (by decide) (by decide) ?_
                        refine own_iconst X0 hx (1) (hb hby d2_132) (pc' := 133) rfl rfl ?_
                        refine own_goto X0 hx (hb hby d2_133) (pc' := 137) (by decide) (by decide) ?_
                        refine own_retZ X0 hx hlk Bd.returns (by simp) (hb hby d2_137) (by decide) (by decide) ?_
                        rw [e0]
                        exact ⟨by simp [own_b, nar, c_1, c_68, c_69, c_70, c_86, c_87, c_88, c_89, c_90, c_91, c_92], N0, rfl⟩
                      · skip
                        refine own_icmpN X0 hx (hb hby d2_75) (XT.ii_eq_f c_92) (pc' := 78) rfl ?_
                        refine own_iloadN X0 hx (hb hby d2_78) (pc' := 79) rfl rfl ?_
                        refine own_bipush X0 hx (42) (hb hby d2_79) (pc' := 81) rfl (by decide) ?_
                        by_cases c_93 : c1 = (42 : Int32)
                        · skip
                          refine own_icmpY X0 hx (hb hby d2_81) (XT.ii_eq_t c_93) (pc' := 132) (by decide) (by decide) ?_
                          refine own_iconst X0 hx (1) (hb hby d2_132) (pc' := 133) rfl rfl ?_
                          refine own_goto X0 hx (hb hby d2_133) (pc' := 137) (by decide) (by decide) ?_
                          refine own_retZ X0 hx hlk Bd.returns (by simp) (hb hby d2_137) (by decide) (by decide) ?_
                          rw [e0]
                          exact ⟨by simp [own_b, nar, c_1, c_68, c_69, c_70, c_86, c_87, c_88, c_89, c_90, c_91, c_92, c_93], N0, rfl⟩
                        · skip
                          refine own_icmpN X0 hx (hb hby d2_81) (XT.ii_eq_f c_93) (pc' := 84) rfl ?_
                          refine own_iloadN X0 hx (hb hby d2_84) (pc' := 85) rfl rfl ?_
                          refine own_bipush X0 hx (43) (hb hby d2_85) (pc' := 87) rfl (by decide) ?_
                          by_cases c_94 : c1 = (43 : Int32)
                          · skip
                            refine own_icmpY X0 hx (hb hby d2_87) (XT.ii_eq_t c_94) (pc' := 132) (by decide) (by decide) ?_
                            refine own_iconst X0 hx (1) (hb hby d2_132) (pc' := 133) rfl rfl ?_
                            refine own_goto X0 hx (hb hby d2_133) (pc' := 137) (by decide) (by decide) ?_
                            refine own_retZ X0 hx hlk Bd.returns (by simp) (hb hby d2_137) (by decide) (by decide) ?_
                            rw [e0]
                            exact ⟨by simp [own_b, nar, c_1, c_68, c_69, c_70, c_86, c_87, c_88, c_89, c_90, c_91, c_92, c_93, c_94], N0, rfl⟩
                          · skip
                            refine own_icmpN X0 hx (hb hby d2_87) (XT.ii_eq_f c_94) (pc' := 90) rfl ?_
                            refine own_iloadN X0 hx (hb hby d2_90) (pc' := 91) rfl rfl ?_
                            refine own_bipush X0 hx (45) (hb hby d2_91) (pc' := 93) rfl (by decide) ?_
                            by_cases c_95 : c1 = (45 : Int32)
                            · skip
                              refine own_icmpY X0 hx (hb hby d2_93) (XT.ii_eq_t c_95) (pc' := 132) (by decide) (by decide) ?_
                              refine own_iconst X0 hx (1) (hb hby d2_132) (pc' := 133) rfl rfl ?_
                              refine own_goto X0 hx (hb hby d2_133) (pc' := 137) (by decide) (by decide) ?_
                              refine own_retZ X0 hx hlk Bd.returns (by simp) (hb hby d2_137) (by decide) (by decide) ?_
                              rw [e0]
                              exact ⟨by simp [own_b, nar, c_1, c_68, c_69, c_70, c_86, c_87, c_88, c_89, c_90, c_91, c_92, c_93, c_94, c_95], N0, rfl⟩
                            · skip
                              refine own_icmpN X0 hx (hb hby d2_93) (XT.ii_eq_f c_95) (pc' := 96) rfl ?_
                              refine own_iloadN X0 hx (hb hby d2_96) (pc' := 97) rfl rfl ?_
                              refine own_bipush X0 hx (46) (hb hby d2_97) (pc' := 99) rfl (by decide) ?_
                              by_cases c_96 : c1 = (46 : Int32)
                              · skip
                                refine own_icmpY X0 hx (hb hby d2_99) (XT.ii_eq_t c_96) (pc' := 132) (by decide) (by decide) ?_
                                refine own_iconst X0 hx (1) (hb hby d2_132) (pc' := 133) rfl rfl ?_
                                refine own_goto X0 hx (hb hby d2_133) (pc' := 137) (by decide) (by decide) ?_
                                refine own_retZ X0 hx hlk Bd.returns (by simp) (hb hby d2_137) (by decide) (by decide) ?_
                                rw [e0]
                                exact ⟨by simp [own_b, nar, c_1, c_68, c_69, c_70, c_86, c_87, c_88, c_89, c_90, c_91, c_92, c_93, c_94, c_95, c_96], N0, rfl⟩
                              · skip
                                refine own_icmpN X0 hx (hb hby d2_99) (XT.ii_eq_f c_96) (pc' := 102) rfl ?_
                                refine own_iloadN X0 hx (hb hby d2_102) (pc' := 103) rfl rfl ?_
                                refine own_bipush X0 hx (94) (hb hby d2_103) (pc' := 105) rfl (by decide) ?_
                                by_cases c_97 : c1 = (94 : Int32)
                                · skip
                                  refine own_icmpY X0 hx (hb hby d2_105) (XT.ii_eq_t c_97) (pc' := 132) (by decide) (by decide) ?_
                                  refine own_iconst X0 hx (1) (hb hby d2_132) (pc' := 133) rfl rfl ?_
                                  refine own_goto X0 hx (hb hby d2_133) (pc' := 137) (by decide) (by decide) ?_
                                  refine own_retZ X0 hx hlk Bd.returns (by simp) (hb hby d2_137) (by decide) (by decide) ?_
                                  rw [e0]
                                  exact ⟨by simp [own_b, nar, c_1, c_68, c_69, c_70, c_86, c_87, c_88, c_89, c_90, c_91, c_92, c_93, c_94, c_95, c_96, c_97], N0, rfl⟩
                                · skip
                                  refine own_icmpN X0 hx (hb hby d2_105) (XT.ii_eq_f c_97) (pc' := 108) rfl ?_
                                  refine own_iloadN X0 hx (hb hby d2_108) (pc' := 109) rfl rfl ?_
                                  refine own_bipush X0 hx (95) (hb hby d2_109) (pc' := 111) rfl (by decide) ?_
                                  by_cases c_98 : c1 = (95 : Int32)
                                  · skip
                                    refine own_icmpY X0 hx (hb hby d2_111) (XT.ii_eq_t c_98) (pc' := 132) (by decide) (by decide) ?_
                                    refine own_iconst X0 hx (1) (hb hby d2_132) (pc' := 133) rfl rfl ?_
                                    refine own_goto X0 hx (hb hby d2_133) (pc' := 137) (by decide) (by decide) ?_
                                    refine own_retZ X0 hx hlk Bd.returns (by simp) (hb hby d2_137) (by decide) (by decide) ?_
                                    rw [e0]
                                    exact ⟨by simp [own_b, nar, c_1, c_68, c_69, c_70, c_86, c_87, c_88, c_89, c_90, c_91, c_92, c_93, c_94, c_95, c_96, c_97, c_98], N0, rfl⟩
                                  · skip
                                    refine own_icmpN X0 hx (hb hby d2_111) (XT.ii_eq_f c_98) (pc' := 114) rfl ?_
                                    refine own_iloadN X0 hx (hb hby d2_114) (pc' := 115) rfl rfl ?_
                                    refine own_bipush X0 hx (96) (hb hby d2_115) (pc' := 117) rfl (by decide) ?_
                                    by_cases c_99 : c1 = (96 : Int32)
                                    · skip
                                      refine own_icmpY X0 hx (hb hby d2_117) (XT.ii_eq_t c_99) (pc' := 132) (by decide) (by decide) ?_
                                      refine own_iconst X0 hx (1) (hb hby d2_132) (pc' := 133) rfl rfl ?_
                                      refine own_goto X0 hx (hb hby d2_133) (pc' := 137) (by decide) (by decide) ?_
                                      refine own_retZ X0 hx hlk Bd.returns (by simp) (hb hby d2_137) (by decide) (by decide) ?_
                                      rw [e0]
                                      exact ⟨by simp [own_b, nar, c_1, c_68, c_69, c_70, c_86, c_87, c_88, c_89, c_90, c_91, c_92, c_93, c_94, c_95, c_96, c_97, c_98, c_99], N0, rfl⟩
                                    · skip
                                      refine own_icmpN X0 hx (hb hby d2_117) (XT.ii_eq_f c_99) (pc' := 120) rfl ?_
                                      refine own_iloadN X0 hx (hb hby d2_120) (pc' := 121) rfl rfl ?_
                                      refine own_bipush X0 hx (124) (hb hby d2_121) (pc' := 123) rfl (by decide) ?_
                                      by_cases c_100 : c1 = (124 : Int32)
                                      · skip
                                        refine own_icmpY X0 hx (hb hby d2_123) (XT.ii_eq_t c_100) (pc' := 132) (by decide) (by decide) ?_
                                        refine own_iconst X0 hx (1) (hb hby d2_132) (pc' := 133) rfl rfl ?_
                                        refine own_goto X0 hx (hb hby d2_133) (pc' := 137) (by decide) (by decide) ?_
                                        refine own_retZ X0 hx hlk Bd.returns (by simp) (hb hby d2_137) (by decide) (by decide) ?_
                                        rw [e0]
                                        exact ⟨by simp [own_b, nar, c_1, c_68, c_69, c_70, c_86, c_87, c_88, c_89, c_90, c_91, c_92, c_93, c_94, c_95, c_96, c_97, c_98, c_99, c_100], N0, rfl⟩
                                      · skip
                                        refine own_icmpN X0 hx (hb hby d2_123) (XT.ii_eq_f c_100) (pc' := 126) rfl ?_
                                        refine own_iloadN X0 hx (hb hby d2_126) (pc' := 127) rfl rfl ?_
                                        refine own_bipush X0 hx (126) (hb hby d2_127) (pc' := 129) rfl (by decide) ?_
                                        by_cases c_101 : c1 = (126 : Int32)
                                        · skip
                                          refine own_icmpN X0 hx (hb hby d2_129) (XT.ii_ne_f c_101) (pc' := 132) rfl ?_
                                          refine own_iconst X0 hx (1) (hb hby d2_132) (pc' := 133) rfl rfl ?_
                                          refine own_goto X0 hx (hb hby d2_133) (pc' := 137) (by decide) (by decide) ?_
                                          refine own_retZ X0 hx hlk Bd.returns (by simp) (hb hby d2_137) (by decide) (by decide) ?_
                                          rw [e0]
                                          exact ⟨by simp [own_b, nar, c_1, c_68, c_69, c_70, c_86, c_87, c_88, c_89, c_90, c_91, c_92, c_93, c_94, c_95, c_96, c_97, c_98, c_99, c_100, c_101], N0, rfl⟩
                                        · skip
                                          refine own_icmpY X0 hx (hb hby d2_129) (XT.ii_ne_t c_101) (pc' := 136) (by decide) (by decide) ?_
                                          refine own_iconst X0 hx (0) (hb hby d2_136) (pc' := 137) rfl rfl ?_
                                          refine own_retZ X0 hx hlk Bd.returns (by simp) (hb hby d2_137) (by decide) (by decide) ?_
                                          rw [e0]
                                          exact ⟨by simp [own_b, nar, c_1, c_68, c_69, c_70, c_86, c_87, c_88, c_89, c_90, c_91, c_92, c_93, c_94, c_95, c_96, c_97, c_98, c_99, c_100, c_101], N0, rfl⟩
          · skip
            refine own_icmpN X0 hx (hb hby d2_37) (XT.ii_gt_f c_86) (pc' := 40) rfl ?_
            refine own_iconst X0 hx (1) (hb hby d2_40) (pc' := 41) rfl rfl ?_
            refine own_retZ X0 hx hlk Bd.returns (by simp) (hb hby d2_41) (by decide) (by decide) ?_
            rw [e0]
            exact ⟨by simp [own_b, nar, c_1, c_68, c_69, c_70, c_86], N0, rfl⟩
      · skip
        refine own_icmpN X0 hx (hb hby d2_17) (XT.ii_lt_f c_69) (pc' := 20) rfl ?_
        refine own_iloadN X0 hx (hb hby d2_20) (pc' := 21) rfl rfl ?_
        refine own_bipush X0 hx (90) (hb hby d2_21) (pc' := 23) rfl (by decide) ?_
        by_cases c_102 : (90 : Int32) < c1
        · skip
          refine own_icmpY X0 hx (hb hby d2_23) (XT.ii_gt_t c_102) (pc' := 28) (by decide) (by decide) ?_
          refine own_iloadN X0 hx (hb hby d2_28) (pc' := 29) rfl rfl ?_
          refine own_bipush X0 hx (97) (hb hby d2_29) (pc' := 31) rfl (by decide) ?_
          by_cases c_103 : c1 < (97 : Int32)
          · skip
            refine own_icmpY X0 hx (hb hby d2_31) (XT.ii_lt_t c_103) (pc' := 42) (by decide) (by decide) ?_
            refine own_iloadN X0 hx (hb hby d2_42) (pc' := 43) rfl rfl ?_
            refine own_bipush X0 hx (33) (hb hby d2_43) (pc' := 45) rfl (by decide) ?_
            by_cases c_104 : c1 = (33 : Int32)
            · skip
              refine own_icmpY X0 hx (hb hby d2_45) (XT.ii_eq_t c_104) (pc' := 132) (by decide) (by decide) ?_
              refine own_iconst X0 hx (1) (hb hby d2_132) (pc' := 133) rfl rfl ?_
              refine own_goto X0 hx (hb hby d2_133) (pc' := 137) (by decide) (by decide) ?_
              refine own_retZ X0 hx hlk Bd.returns (by simp) (hb hby d2_137) (by decide) (by decide) ?_
              rw [e0]
              exact ⟨by simp [own_b, nar, c_1, c_68, c_69, c_102, c_103, c_104], N0, rfl⟩
            · skip
              refine own_icmpN X0 hx (hb hby d2_45) (XT.ii_eq_f c_104) (pc' := 48) rfl ?_
              refine own_iloadN X0 hx (hb hby d2_48) (pc' := 49) rfl rfl ?_
              refine own_bipush X0 hx (35) (hb hby d2_49) (pc' := 51) rfl (by decide) ?_
              by_cases c_105 : c1 = (35 : Int32)
              · skip
                refine own_icmpY X0 hx (hb hby d2_51) (XT.ii_eq_t c_105) (pc' := 132) (by decide) (by decide) ?_
                refine own_iconst X0 hx (1) (hb hby d2_132) (pc' := 133) rfl rfl ?_
                refine own_goto X0 hx (hb hby d2_133) (pc' := 137) (by decide) (by decide) ?_
                refine own_retZ X0 hx hlk Bd.returns (by simp) (hb hby d2_137) (by decide) (by decide) ?_
                rw [e0]
                exact ⟨by simp [own_b, nar, c_1, c_68, c_69, c_102, c_103, c_104, c_105], N0, rfl⟩
              · skip
                refine own_icmpN X0 hx (hb hby d2_51) (XT.ii_eq_f c_105) (pc' := 54) rfl ?_
                refine own_iloadN X0 hx (hb hby d2_54) (pc' := 55) rfl rfl ?_
                refine own_bipush X0 hx (36) (hb hby d2_55) (pc' := 57) rfl (by decide) ?_
                by_cases c_106 : c1 = (36 : Int32)
                · skip
                  refine own_icmpY X0 hx (hb hby d2_57) (XT.ii_eq_t c_106) (pc' := 132) (by decide) (by decide) ?_
                  refine own_iconst X0 hx (1) (hb hby d2_132) (pc' := 133) rfl rfl ?_
                  refine own_goto X0 hx (hb hby d2_133) (pc' := 137) (by decide) (by decide) ?_
                  refine own_retZ X0 hx hlk Bd.returns (by simp) (hb hby d2_137) (by decide) (by decide) ?_
                  rw [e0]
                  exact ⟨by simp [own_b, nar, c_1, c_68, c_69, c_102, c_103, c_104, c_105, c_106], N0, rfl⟩
                · skip
                  refine own_icmpN X0 hx (hb hby d2_57) (XT.ii_eq_f c_106) (pc' := 60) rfl ?_
                  refine own_iloadN X0 hx (hb hby d2_60) (pc' := 61) rfl rfl ?_
                  refine own_bipush X0 hx (37) (hb hby d2_61) (pc' := 63) rfl (by decide) ?_
                  by_cases c_107 : c1 = (37 : Int32)
                  · skip
                    refine own_icmpY X0 hx (hb hby d2_63) (XT.ii_eq_t c_107) (pc' := 132) (by decide) (by decide) ?_
                    refine own_iconst X0 hx (1) (hb hby d2_132) (pc' := 133) rfl rfl ?_
                    refine own_goto X0 hx (hb hby d2_133) (pc' := 137) (by decide) (by decide) ?_
                    refine own_retZ X0 hx hlk Bd.returns (by simp) (hb hby d2_137) (by decide) (by decide) ?_
                    rw [e0]
                    exact ⟨by simp [own_b, nar, c_1, c_68, c_69, c_102, c_103, c_104, c_105, c_106, c_107], N0, rfl⟩
                  · skip
                    refine own_icmpN X0 hx (hb hby d2_63) (XT.ii_eq_f c_107) (pc' := 66) rfl ?_
                    refine own_iloadN X0 hx (hb hby d2_66) (pc' := 67) rfl rfl ?_
                    refine own_bipush X0 hx (38) (hb hby d2_67) (pc' := 69) rfl (by decide) ?_
                    by_cases c_108 : c1 = (38 : Int32)
                    · skip
                      refine own_icmpY X0 hx (hb hby d2_69) (XT.ii_eq_t c_108) (pc' := 132) (by decide) (by decide) ?_
                      refine own_iconst X0 hx (1) (hb hby d2_132) (pc' := 133) rfl rfl ?_
                      refine own_goto X0 hx (hb hby d2_133) (pc' := 137) (by decide) (by decide) ?_
                      refine own_retZ X0 hx hlk Bd.returns (by simp) (hb hby d2_137) (by decide) (by decide) ?_
                      rw [e0]
                      exact ⟨by simp [own_b, nar, c_1, c_68, c_69, c_102, c_103, c_104, c_105, c_106, c_107, c_108], N0, rfl⟩
                    · skip
                      refine own_icmpN X0 hx (hb hby d2_69) (XT.ii_eq_f c_108) (pc' := 72) rfl ?_
                      refine own_iloadN X0 hx (hb hby d2_72) (pc' := 73) rfl rfl ?_
                      refine own_bipush X0 hx (39) (hb hby d2_73) (pc' := 75) rfl (by decide) ?_
                      by_cases c_109 : c1 = (39 : Int32)
                      · skip
                        refine own_icmpY X0 hx (hb hby d2_75) (XT.ii_eq_t c_109) (pc' := 132) (by decide) (by decide) ?_
                        refine own_iconst X0 hx (1) (hb hby d2_132) (pc' := 133) rfl rfl ?_
                        refine own_goto X0 hx (hb hby d2_133) (pc' := 137) (by decide) (by decide) ?_
                        refine own_retZ X0 hx hlk Bd.returns (by simp) (hb hby d2_137) (by decide) (by decide) ?_
                        rw [e0]
                        exact ⟨by simp [own_b, nar, c_1, c_68, c_69, c_102, c_103, c_104, c_105, c_106, c_107, c_108, c_109], N0, rfl⟩
                      · skip
                        refine own_icmpN X0 hx (hb hby d2_75) (XT.ii_eq_f c_109) (pc' := 78) rfl ?_
                        refine own_iloadN X0 hx (hb hby d2_78) (pc' := 79) rfl rfl ?_
                        refine own_bipush X0 hx (42) (hb hby d2_79) (pc' := 81) rfl (by decide) ?_
                        by_cases c_110 : c1 = (42 : Int32)
                        · skip
                          refine own_icmpY X0 hx (hb hby d2_81) (XT.ii_eq_t c_110) (pc' := 132) (by decide) (by decide) ?_
                          refine own_iconst X0 hx (1) (hb hby d2_132) (pc' := 133) rfl rfl ?_
                          refine own_goto X0 hx (hb hby d2_133) (pc' := 137) (by decide) (by decide) ?_
                          refine own_retZ X0 hx hlk Bd.returns (by simp) (hb hby d2_137) (by decide) (by decide) ?_
                          rw [e0]
                          exact ⟨by simp [own_b, nar, c_1, c_68, c_69, c_102, c_103, c_104, c_105, c_106, c_107, c_108, c_109, c_110], N0, rfl⟩
                        · skip
                          refine own_icmpN X0 hx (hb hby d2_81) (XT.ii_eq_f c_110) (pc' := 84) rfl ?_
                          refine own_iloadN X0 hx (hb hby d2_84) (pc' := 85) rfl rfl ?_
                          refine own_bipush X0 hx (43) (hb hby d2_85) (pc' := 87) rfl (by decide) ?_
                          by_cases c_111 : c1 = (43 : Int32)
                          · skip
                            refine own_icmpY X0 hx (hb hby d2_87) (XT.ii_eq_t c_111) (pc' := 132) (by decide) (by decide) ?_
                            refine own_iconst X0 hx (1) (hb hby d2_132) (pc' := 133) rfl rfl ?_
                            refine own_goto X0 hx (hb hby d2_133) (pc' := 137) (by decide) (by decide) ?_
                            refine own_retZ X0 hx hlk Bd.returns (by simp) (hb hby d2_137) (by decide) (by decide) ?_
                            rw [e0]
                            exact ⟨by simp [own_b, nar, c_1, c_68, c_69, c_102, c_103, c_104, c_105, c_106, c_107, c_108, c_109, c_110, c_111], N0, rfl⟩
                          · skip
                            refine own_icmpN X0 hx (hb hby d2_87) (XT.ii_eq_f c_111) (pc' := 90) rfl ?_
                            refine own_iloadN X0 hx (hb hby d2_90) (pc' := 91) rfl rfl ?_
                            refine own_bipush X0 hx (45) (hb hby d2_91) (pc' := 93) rfl (by decide) ?_
                            by_cases c_112 : c1 = (45 : Int32)
                            · skip
                              refine own_icmpY X0 hx (hb hby d2_93) (XT.ii_eq_t c_112) (pc' := 132) (by decide) (by decide) ?_
                              refine own_iconst X0 hx (1) (hb hby d2_132) (pc' := 133) rfl rfl ?_
                              refine own_goto X0 hx (hb hby d2_133) (pc' := 137) (by decide) (by decide) ?_
                              refine own_retZ X0 hx hlk Bd.returns (by simp) (hb hby d2_137) (by decide) (by decide) ?_
                              rw [e0]
                              exact ⟨by simp [own_b, nar, c_1, c_68, c_69, c_102, c_103, c_104, c_105, c_106, c_107, c_108, c_109, c_110, c_111, c_112], N0, rfl⟩
                            · skip
                              refine own_icmpN X0 hx (hb hby d2_93) (XT.ii_eq_f c_112) (pc' := 96) rfl ?_
                              refine own_iloadN X0 hx (hb hby d2_96) (pc' := 97) rfl rfl ?_
                              refine own_bipush X0 hx (46) (hb hby d2_97) (pc' := 99) rfl (by decide) ?_
                              by_cases c_113 : c1 = (46 : Int32)
                              · skip
                                refine own_icmpY X0 hx (hb hby d2_99) (XT.ii_eq_t c_113) (pc' := 132) (by decide) (by decide) ?_
                                refine own_iconst X0 hx (1) (hb hby d2_132) (pc' := 133) rfl rfl ?_
                                refine own_goto X0 hx (hb hby d2_133) (pc' := 137) (by decide) (by decide) ?_
                                refine own_retZ X0 hx hlk Bd.returns (by simp) (hb hby d2_137) (by decide) (by decide) ?_
                                rw [e0]
                                exact ⟨by simp [own_b, nar, c_1, c_68, c_69, c_102, c_103, c_104, c_105, c_106, c_107, c_108, c_109, c_110, c_111, c_112, c_113], N0, rfl⟩
                              · skip
                                refine own_icmpN X0 hx (hb hby d2_99) (XT.ii_eq_f c_113) (pc' := 102) rfl ?_
                                refine own_iloadN X0 hx (hb hby d2_102) (pc' := 103) rfl rfl ?_
                                refine own_bipush X0 hx (94) (hb hby d2_103) (pc' := 105) rfl (by decide) ?_
                                by_cases c_114 : c1 = (94 : Int32)
                                · skip
                                  refine own_icmpY X0 hx (hb hby d2_105) (XT.ii_eq_t c_114) (pc' := 132) (by decide) (by decide) ?_
                                  refine own_iconst X0 hx (1) (hb hby d2_132) (pc' := 133) rfl rfl ?_
                                  refine own_goto X0 hx (hb hby d2_133) (pc' := 137) (by decide) (by decide) ?_
                                  refine own_retZ X0 hx hlk Bd.returns (by simp) (hb hby d2_137) (by decide) (by decide) ?_
                                  rw [e0]
                                  exact ⟨by simp [own_b, nar, c_1, c_68, c_69, c_102, c_103, c_104, c_105, c_106, c_107, c_108, c_109, c_110, c_111, c_112, c_113, c_114], N0, rfl⟩
                                · skip
                                  refine own_icmpN X0 hx (hb hby d2_105) (XT.ii_eq_f c_114) (pc' := 108) rfl ?_
                                  refine own_iloadN X0 hx (hb hby d2_108) (pc' := 109) rfl rfl ?_
                                  refine own_bipush X0 hx (95) (hb hby d2_109) (pc' := 111) rfl (by decide) ?_
                                  by_cases c_115 : c1 = (95 : Int32)
                                  · skip
                                    refine own_icmpY X0 hx (hb hby d2_111) (XT.ii_eq_t c_115) (pc' := 132) (by decide) (by decide) ?_
                                    refine own_iconst X0 hx (1) (hb hby d2_132) (pc' := 133) rfl rfl ?_
                                    refine own_goto X0 hx (hb hby d2_133) (pc' := 137) (by decide) (by decide) ?_
                                    refine own_retZ X0 hx hlk Bd.returns (by simp) (hb hby d2_137) (by decide) (by decide) ?_
                                    rw [e0]
                                    exact ⟨by simp [own_b, nar, c_1, c_68, c_69, c_102, c_103, c_104, c_105, c_106, c_107, c_108, c_109, c_110, c_111, c_112, c_113, c_114, c_115], N0, rfl⟩
                                  · skip
                                    refine own_icmpN X0 hx (hb hby d2_111) (XT.ii_eq_f c_115) (pc' := 114) rfl ?_
                                    refine own_iloadN X0 hx (hb hby d2_114) (pc' := 115) rfl rfl ?_
                                    refine own_bipush X0 hx (96) (hb hby d2_115) (pc' := 117) rfl (by decide) ?_
                                    by_cases c_116 : c1 = (96 : Int32)
                                    · skip
                                      refine own_icmpY X0 hx (hb hby d2_117) (XT.ii_eq_t c_116) (pc' := 132) (by decide) (by decide) ?_
                                      refine own_iconst X0 hx (1) (hb hby d2_132) (pc' := 133) rfl rfl ?_
                                      refine own_goto X0 hx (hb hby d2_133) (pc' := 137) (by decide) (by decide) ?_
                                      refine own_retZ X0 hx hlk Bd.returns (by simp) (hb hby d2_137) (by decide) (by decide) ?_
                                      rw [e0]
                                      exact ⟨by simp [own_b, nar, c_1, c_68, c_69, c_102, c_103, c_104, c_105, c_106, c_107, c_108, c_109, c_110, c_111, c_112, c_113, c_114, c_115, c_116], N0, rfl⟩
                                    · skip
                                      refine own_icmpN X0 hx (hb hby d2_117) (XT.ii_eq_f c_116) (pc' := 120) rfl ?_
                                      refine own_iloadN X0 hx (hb hby d2_120) (pc' := 121) rfl rfl ?_
                                      refine own_bipush X0 hx (124) (hb hby d2_121) (pc' := 123) rfl (by decide) ?_
                                      by_cases c_117 : c1 = (124 : Int32)
                                      · skip
                                        refine own_icmpY X0 hx (hb hby d2_123) (XT.ii_eq_t c_117) (pc' := 132) (by decide) (by decide) ?_
                                        refine own_iconst X0 hx (1) (hb hby d2_132) (pc' := 133) rfl rfl ?_
                                        refine own_goto X0 hx (hb hby d2_133) (pc' := 137) (by decide) (by decide) ?_
                                        refine own_retZ X0 hx hlk Bd.returns (by simp) (hb hby d2_137) (by decide) (by decide) ?_
                                        rw [e0]
                                        exact ⟨by simp [own_b, nar, c_1, c_68, c_69, c_102, c_103, c_104, c_105, c_106, c_107, c_108, c_109, c_110, c_111, c_112, c_113, c_114, c_115, c_116, c_117], N0, rfl⟩
                                      · skip
                                        refine own_icmpN X0 hx (hb hby d2_123) (XT.ii_eq_f c_117) (pc' := 126) rfl ?_
                                        refine own_iloadN X0 hx (hb hby d2_126) (pc' := 127) rfl rfl ?_
                                        refine own_bipush X0 hx (126) (hb hby d2_127) (pc' := 129) rfl (by decide) ?_
                                        by_cases c_118 : c1 = (126 : Int32)
                                        · skip
                                          refine own_icmpN X0 hx (hb hby d2_129) (XT.ii_ne_f c_118) (pc' := 132) rfl ?_
                                          refine own_iconst X0 hx (1) (hb hby d2_132) (pc' := 133) rfl rfl ?_
                                          refine own_goto X0 hx (hb hby d2_133) (pc' := 137) (by decide) (by decide) ?_
                                          refine own_retZ X0 hx hlk Bd.returns (by simp) (hb hby d2_137) (by decide) (by decide) ?_
                                          rw [e0]
                                          exact ⟨by simp [own_b, nar, c_1, c_68, c_69, c_102, c_103, c_104, c_105, c_106, c_107, c_108, c_109, c_110, c_111, c_112, c_113, c_114, c_115, c_116, c_117, c_118], N0, rfl⟩
                                        · skip
                                          refine own_icmpY X0 hx (hb hby d2_129) (XT.ii_ne_t c_118) (pc' := 136) (by decide) (by decide) ?_
                                          refine own_iconst X0 hx (0) (hb hby d2_136) (pc' := 137) rfl rfl ?_
                                          refine own_retZ X0 hx hlk Bd.returns (by simp) (hb hby d2_137) (by decide) (by decide) ?_
                                          rw [e0]
                                          exact ⟨by simp [own_b, nar, c_1, c_68, c_69, c_102, c_103, c_104, c_105, c_106, c_107, c_108, c_109, c_110, c_111, c_112, c_113, c_114, c_115, c_116, c_117, c_118], N0, rfl⟩
          · skip
            refine own_icmpN X0 hx (hb hby d2_31) (XT.ii_lt_f c_103) (pc' := 34) rfl ?_
            refine own_iloadN X0 hx (hb hby d2_34) (pc' := 35) rfl rfl ?_
            refine own_bipush X0 hx (122) (hb hby d2_35) (pc' := 37) rfl (by decide) ?_
            by_cases c_119 : (122 : Int32) < c1
            · skip
              refine own_icmpY X0 hx (hb hby d2_37) (XT.ii_gt_t c_119) (pc' := 42) (by decide) (by decide) ?_
              refine own_iloadN X0 hx (hb hby d2_42) (pc' := 43) rfl rfl ?_
              refine own_bipush X0 hx (33) (hb hby d2_43) (pc' := 45) rfl (by decide) ?_
              by_cases c_120 : c1 = (33 : Int32)
              · skip
                refine own_icmpY X0 hx (hb hby d2_45) (XT.ii_eq_t c_120) (pc' := 132) (by decide) (by decide) ?_
                refine own_iconst X0 hx (1) (hb hby d2_132) (pc' := 133) rfl rfl ?_
                refine own_goto X0 hx (hb hby d2_133) (pc' := 137) (by decide) (by decide) ?_
                refine own_retZ X0 hx hlk Bd.returns (by simp) (hb hby d2_137) (by decide) (by decide) ?_
                rw [e0]
                exact ⟨by simp [own_b, nar, c_1, c_68, c_69, c_102, c_103, c_119, c_120], N0, rfl⟩
              · skip
                refine own_icmpN X0 hx (hb hby d2_45) (XT.ii_eq_f c_120) (pc' := 48) rfl ?_
                refine own_iloadN X0 hx (hb hby d2_48) (pc' := 49) rfl rfl ?_
                refine own_bipush X0 hx (35) (hb hby d2_49) (pc' := 51) rfl (by decide) ?_
                by_cases c_121 : c1 = (35 : Int32)
                · skip
                  refine own_icmpY X0 hx (hb hby d2_51) (XT.ii_eq_t c_121) (pc' := 132) (by decide) (by decide) ?_
                  refine own_iconst X0 hx (1) (hb hby d2_132) (pc' := 133) rfl rfl ?_
                  refine own_goto X0 hx (hb hby d2_133) (pc' := 137) (by decide) (by decide) ?_
                  refine own_retZ X0 hx hlk Bd.returns (by simp) (hb hby d2_137) (by decide) (by decide) ?_
                  rw [e0]
                  exact ⟨by simp [own_b, nar, c_1, c_68, c_69, c_102, c_103, c_119, c_120, c_121], N0, rfl⟩
                · skip
                  refine own_icmpN X0 hx (hb hby d2_51) (XT.ii_eq_f c_121) (pc' := 54) rfl ?_
                  refine own_iloadN X0 hx (hb hby d2_54) (pc' := 55) rfl rfl ?_
                  refine own_bipush X0 hx (36) (hb hby d2_55) (pc' := 57) rfl (by decide) ?_
                  by_cases c_122 : c1 = (36 : Int32)
                  · skip
                    refine own_icmpY X0 hx (hb hby d2_57) (XT.ii_eq_t c_122) (pc' := 132) (by decide) (by decide) ?_
                    refine own_iconst X0 hx (1) (hb hby d2_132) (pc' := 133) rfl rfl ?_
                    refine own_goto X0 hx (hb hby d2_133) (pc' := 137) (by decide) (by decide) ?_
                    refine own_retZ X0 hx hlk Bd.returns (by simp) (hb hby d2_137) (by decide) (by decide) ?_
                    rw [e0]
                    exact ⟨by simp [own_b, nar, c_1, c_68, c_69, c_102, c_103, c_119, c_120, c_121, c_122], N0, rfl⟩
                  · skip
                    refine own_icmpN X0 hx (hb hby d2_57) (XT.ii_eq_f c_122) (pc' := 60) rfl ?_
                    refine own_iloadN X0 hx (hb hby d2_60) (pc' := 61) rfl rfl ?_
                    refine own_bipush X0 hx (37) (hb hby d2_61) (pc' := 63) rfl (by decide) ?_
                    by_cases c_123 : c1 = (37 : Int32)
                    · skip
                      refine own_icmpY X0 hx (hb hby d2_63) (XT.ii_eq_t c_123) (pc' := 132) (by decide) (by decide) ?_
                      refine own_iconst X0 hx (1) (hb hby d2_132) (pc' := 133) rfl rfl ?_
                      refine own_goto X0 hx (hb hby d2_133) (pc' := 137) (by decide) (by decide) ?_
                      refine own_retZ X0 hx hlk Bd.returns (by simp) (hb hby d2_137) (by decide) (by decide) ?_
                      rw [e0]
                      exact ⟨by simp [own_b, nar, c_1, c_68, c_69, c_102, c_103, c_119, c_120, c_121, c_122, c_123], N0, rfl⟩
                    · skip
                      refine own_icmpN X0 hx (hb hby d2_63) (XT.ii_eq_f c_123) (pc' := 66) rfl ?_
                      refine own_iloadN X0 hx (hb hby d2_66) (pc' := 67) rfl rfl ?_
                      refine own_bipush X0 hx (38) (hb hby d2_67) (pc' := 69) rfl (by decide) ?_
                      by_cases c_124 : c1 = (38 : Int32)
                      · skip
                        refine own_icmpY X0 hx (hb hby d2_69) (XT.ii_eq_t c_124) (pc' := 132) (by decide) (by decide) ?_
                        refine own_iconst X0 hx (1) (hb hby d2_132) (pc' := 133) rfl rfl ?_
                        refine own_goto X0 hx (hb hby d2_133) (pc' := 137) (by decide) (by decide) ?_
                        refine own_retZ X0 hx hlk Bd.returns (by simp) (hb hby d2_137) (by decide) (by decide) ?_
                        rw [e0]
                        exact ⟨by simp [own_b, nar, c_1, c_68, c_69, c_102, c_103, c_119, c_120, c_121, c_122, c_123, c_124], N0, rfl⟩
                      · skip
                        refine own_icmpN X0 hx (hb hby d2_69) (XT.ii_eq_f c_124) (pc' := 72) rfl ?_
                        refine own_iloadN X0 hx (hb hby d2_72) (pc' := 73) rfl rfl ?_
                        refine own_bipush X0 hx (39) (hb hby d2_73) (pc' := 75) rfl (by decide) ?_
                        by_cases c_125 : c1 = (39 : Int32)
                        · skip
                          refine own_icmpY X0 hx (hb hby d2_75) (XT.ii_eq_t c_125) (pc' := 132) (by decide) (by decide) ?_
                          refine own_iconst X0 hx (1) (hb hby d2_132) (pc' := 133) rfl rfl ?_
                          refine own_goto X0 hx (hb hby d2_133) (pc' := 137) (by decide) (by decide) ?_
                          refine own_retZ X0 hx hlk Bd.returns (by simp) (hb hby d2_137) (by decide) (by decide) ?_
                          rw [e0]
                          exact ⟨by simp [own_b, nar, c_1, c_68, c_69, c_102, c_103, c_119, c_120, c_121, c_122, c_123, c_124, c_125], N0, rfl⟩
                        · skip
                          refine own_icmpN X0 hx (hb hby d2_75) (XT.ii_eq_f c_125) (pc' := 78) rfl ?_
                          refine own_iloadN X0 hx (hb hby d2_78) (pc' := 79) rfl rfl ?_
                          refine own_bipush X0 hx (42) (hb hby d2_79) (pc' := 81) rfl (by decide) ?_
                          by_cases c_126 : c1 = (42 : Int32)
                          · skip
                            refine own_icmpY X0 hx (hb hby d2_81) (XT.ii_eq_t c_126) (pc' := 132) (by decide) (by decide) ?_
                            refine own_iconst X0 hx (1) (hb hby d2_132) (pc' := 133) rfl rfl ?_
                            refine own_goto X0 hx (hb hby d2_133) (pc' := 137) (by decide) (by decide) ?_
                            refine own_retZ X0 hx hlk Bd.returns (by simp) (hb hby d2_137) (by decide) (by decide) ?_
                            rw [e0]
                            exact ⟨by simp [own_b, nar, c_1, c_68, c_69, c_102, c_103, c_119, c_120, c_121, c_122, c_123, c_124, c_125, c_126], N0, rfl⟩
                          · skip
                            refine own_icmpN X0 hx (hb hby d2_81) (XT.ii_eq_f c_126) (pc' := 84) rfl ?_
                            refine own_iloadN X0 hx (hb hby d2_84) (pc' := 85) rfl rfl ?_
                            refine own_bipush X0 hx (43) (hb hby d2_85) (pc' := 87) rfl (by decide) ?_
                            by_cases c_127 : c1 = (43 : Int32)
                            · skip
                              refine own_icmpY X0 hx (hb hby d2_87) (XT.ii_eq_t c_127) (pc' := 132) (by decide) (by decide) ?_
                              refine own_iconst X0 hx (1) (hb hby d2_132) (pc' := 133) rfl rfl ?_
                              refine own_goto X0 hx (hb hby d2_133) (pc' := 137) (by decide) (by decide) ?_
                              refine own_retZ X0 hx hlk Bd.returns (by simp) (hb hby d2_137) (by decide) (by decide) ?_
                              rw [e0]
                              exact ⟨by simp [own_b, nar, c_1, c_68, c_69, c_102, c_103, c_119, c_120, c_121, c_122, c_123, c_124, c_125, c_126, c_127], N0, rfl⟩
                            · skip
                              refine own_icmpN X0 hx (hb hby d2_87) (XT.ii_eq_f c_127) (pc' := 90) rfl ?_
                              refine own_iloadN X0 hx (hb hby d2_90) (pc' := 91) rfl rfl ?_
                              refine own_bipush X0 hx (45) (hb hby d2_91) (pc' := 93) rfl (by decide) ?_
                              by_cases c_128 : c1 = (45 : Int32)
                              · skip
                                refine own_icmpY X0 hx (hb hby d2_93) (XT.ii_eq_t c_128) (pc' := 132) (by decide) (by decide) ?_
                                refine own_iconst X0 hx (1) (hb hby d2_132) (pc' := 133) rfl rfl ?_
                                refine own_goto X0 hx (hb hby d2_133) (pc' := 137) (by decide) (by decide) ?_
                                refine own_retZ X0 hx hlk Bd.returns (by simp) (hb hby d2_137) (by decide) (by decide) ?_
                                rw [e0]
                                exact ⟨by simp [own_b, nar, c_1, c_68, c_69, c_102, c_103, c_119, c_120, c_121, c_122, c_123, c_124, c_125, c_126, c_127, c_128], N0, rfl⟩
                              · skip
                                refine own_icmpN X0 hx (hb hby d2_93) (XT.ii_eq_f c_128) (pc' := 96) rfl ?_
                                refine own_iloadN X0 hx (hb hby d2_96) (pc' := 97) rfl rfl ?_
                                refine own_bipush X0 hx (46) (hb hby d2_97) (pc' := 99) rfl (by decide) ?_
                                by_cases c_129 : c1 = (46 : Int32)
                                · skip
                                  refine own_icmpY X0 hx (hb hby d2_99) (XT.ii_eq_t c_129) (pc' := 132) (by decide) (by decide) ?_
                                  refine own_iconst X0 hx (1) (hb hby d2_132) (pc' := 133) rfl rfl ?_
                                  refine own_goto X0 hx (hb hby d2_133) (pc' := 137) (by decide) (by decide) ?_
                                  refine own_retZ X0 hx hlk Bd.returns (by simp) (hb hby d2_137) (by decide) (by decide) ?_
                                  rw [e0]
                                  exact ⟨by simp [own_b, nar, c_1, c_68, c_69, c_102, c_103, c_119, c_120, c_121, c_122, c_123, c_124, c_125, c_126, c_127, c_128, c_129], N0, rfl⟩
                                · skip
                                  refine own_icmpN X0 hx (hb hby d2_99) (XT.ii_eq_f c_129) (pc' := 102) rfl ?_
                                  refine own_iloadN X0 hx (hb hby d2_102) (pc' := 103) rfl rfl ?_
                                  refine own_bipush X0 hx (94) (hb hby d2_103) (pc' := 105) rfl (by decide) ?_
                                  by_cases c_130 : c1 = (94 : Int32)
                                  · skip
                                    refine own_icmpY X0 hx (hb hby d2_105) (XT.ii_eq_t c_130) (pc' := 132) (by decide) (by decide) ?_
                                    refine own_iconst X0 hx (1) (hb hby d2_132) (pc' := 133) rfl rfl ?_
                                    refine own_goto X0 hx (hb hby d2_133) (pc' := 137) (by decide) (by decide) ?_
                                    refine own_retZ X0 hx hlk Bd.returns (by simp) (hb hby d2_137) (by decide) (by decide) ?_
                                    rw [e0]
                                    exact ⟨by simp [own_b, nar, c_1, c_68, c_69, c_102, c_103, c_119, c_120, c_121, c_122, c_123, c_124, c_125, c_126, c_127, c_128, c_129, c_130], N0, rfl⟩
                                  · skip
                                    refine own_icmpN X0 hx (hb hby d2_105) (XT.ii_eq_f c_130) (pc' := 108) rfl ?_
                                    refine own_iloadN X0 hx (hb hby d2_108) (pc' := 109) rfl rfl ?_
                                    refine own_bipush X0 hx (95) (hb hby d2_109) (pc' := 111) rfl (by decide) ?_
                                    by_cases c_131 : c1 = (95 : Int32)
                                    · skip
                                      refine own_icmpY X0 hx (hb hby d2_111) (XT.ii_eq_t c_131) (pc' := 132) (by decide) (by decide) ?_
                                      refine own_iconst X0 hx (1) (hb hby d2_132) (pc' := 133) rfl rfl ?_
                                      refine own_goto X0 hx (hb hby d2_133) (pc' := 137) (by decide) (by decide) ?_
                                      refine own_retZ X0 hx hlk Bd.returns (by simp) (hb hby d2_137) (by decide) (by decide) ?_
                                      rw [e0]
                                      exact ⟨by simp [own_b, nar, c_1, c_68, c_69, c_102, c_103, c_119, c_120, c_121, c_122, c_123, c_124, c_125, c_126, c_127, c_128, c_129, c_130, c_131], N0, rfl⟩
                                    · skip
                                      refine own_icmpN X0 hx (hb hby d2_111) (XT.ii_eq_f c_131) (pc' := 114) rfl ?_
                                      refine own_iloadN X0 hx (hb hby d2_114) (pc' := 115) rfl rfl ?_
                                      refine own_bipush X0 hx (96) (hb hby d2_115) (pc' := 117) rfl (by decide) ?_
                                      by_cases c_132 : c1 = (96 : Int32)
                                      · skip
                                        refine own_icmpY X0 hx (hb hby d2_117) (XT.ii_eq_t c_132) (pc' := 132) (by decide) (by decide) ?_
                                        refine own_iconst X0 hx (1) (hb hby d2_132) (pc' := 133) rfl rfl ?_
                                        refine own_goto X0 hx (hb hby d2_133) (pc' := 137) (by decide) (by decide) ?_
                                        refine own_retZ X0 hx hlk Bd.returns (by simp) (hb hby d2_137) (by decide) (by decide) ?_
                                        rw [e0]
                                        exact ⟨by simp [own_b, nar, c_1, c_68, c_69, c_102, c_103, c_119, c_120, c_121, c_122, c_123, c_124, c_125, c_126, c_127, c_128, c_129, c_130, c_131, c_132], N0, rfl⟩
                                      · skip
                                        refine own_icmpN X0 hx (hb hby d2_117) (XT.ii_eq_f c_132) (pc' := 120) rfl ?_
                                        refine own_iloadN X0 hx (hb hby d2_120) (pc' := 121) rfl rfl ?_
                                        refine own_bipush X0 hx (124) (hb hby d2_121) (pc' := 123) rfl (by decide) ?_
                                        by_cases c_133 : c1 = (124 : Int32)
                                        · skip
                                          refine own_icmpY X0 hx (hb hby d2_123) (XT.ii_eq_t c_133) (pc' := 132) (by decide) (by decide) ?_
                                          refine own_iconst X0 hx (1) (hb hby d2_132) (pc' := 133) rfl rfl ?_
                                          refine own_goto X0 hx (hb hby d2_133) (pc' := 137) (by decide) (by decide) ?_
                                          refine own_retZ X0 hx hlk Bd.returns (by simp) (hb hby d2_137) (by decide) (by decide) ?_
                                          rw [e0]
                                          exact ⟨by simp [own_b, nar, c_1, c_68, c_69, c_102, c_103, c_119, c_120, c_121, c_122, c_123, c_124, c_125, c_126, c_127, c_128, c_129, c_130, c_131, c_132, c_133], N0, rfl⟩
                                        · skip
                                          refine own_icmpN X0 hx (hb hby d2_123) (XT.ii_eq_f c_133) (pc' := 126) rfl ?_
                                          refine own_iloadN X0 hx (hb hby d2_126) (pc' := 127) rfl rfl ?_
                                          refine own_bipush X0 hx (126) (hb hby d2_127) (pc' := 129) rfl (by decide) ?_
                                          by_cases c_134 : c1 = (126 : Int32)
                                          · skip
                                            refine own_icmpN X0 hx (hb hby d2_129) (XT.ii_ne_f c_134) (pc' := 132) rfl ?_
                                            refine own_iconst X0 hx (1) (hb hby d2_132) (pc' := 133) rfl rfl ?_
                                            refine own_goto X0 hx (hb hby d2_133) (pc' := 137) (by decide) (by decide) ?_
                                            refine own_retZ X0 hx hlk Bd.returns (by simp) (hb hby d2_137) (by decide) (by decide) ?_
                                            rw [e0]
                                            exact ⟨by simp [own_b, nar, c_1, c_68, c_69, c_102, c_103, c_119, c_120, c_121, c_122, c_123, c_124, c_125, c_126, c_127, c_128, c_129, c_130, c_131, c_132, c_133, c_134], N0, rfl⟩
                                          · skip
                                            refine own_icmpY X0 hx (hb hby d2_129) (XT.ii_ne_t c_134) (pc' := 136) (by decide) (by decide) ?_
                                            refine own_iconst X0 hx (0) (hb hby d2_136) (pc' := 137) rfl rfl ?_
                                            refine own_retZ X0 hx hlk Bd.returns (by simp) (hb hby d2_137) (by decide) (by decide) ?_
                                            rw [e0]
                                            exact ⟨by simp [own_b, nar, c_1, c_68, c_69, c_102, c_103, c_119, c_120, c_121, c_122, c_123, c_124, c_125, c_126, c_127, c_128, c_129, c_130, c_131, c_132, c_133, c_134], N0, rfl⟩
            · skip
              refine own_icmpN X0 hx (hb hby d2_37) (XT.ii_gt_f c_119) (pc' := 40) rfl ?_
              refine own_iconst X0 hx (1) (hb hby d2_40) (pc' := 41) rfl rfl ?_
              refine own_retZ X0 hx hlk Bd.returns (by simp) (hb hby d2_41) (by decide) (by decide) ?_
              rw [e0]
              exact ⟨by simp [own_b, nar, c_1, c_68, c_69, c_102, c_103, c_119], N0, rfl⟩
        · skip
          refine own_icmpN X0 hx (hb hby d2_23) (XT.ii_gt_f c_102) (pc' := 26) rfl ?_
          refine own_iconst X0 hx (1) (hb hby d2_26) (pc' := 27) rfl rfl ?_
          refine own_retZ X0 hx hlk Bd.returns (by simp) (hb hby d2_27) (by decide) (by decide) ?_
          rw [e0]
          exact ⟨by simp [own_b, nar, c_1, c_68, c_69, c_102], N0, rfl⟩
    · skip
      refine own_icmpN X0 hx (hb hby d2_9) (XT.ii_gt_f c_68) (pc' := 12) rfl ?_
      refine own_iconst X0 hx (1) (hb hby d2_12) (pc' := 13) rfl rfl ?_
      refine own_retZ X0 hx hlk Bd.returns (by simp) (hb hby d2_13) (by decide) (by decide) ?_
      rw [e0]
      exact ⟨by simp [own_b, nar, c_1, c_68], N0, rfl⟩
theorem pd0_0 : parseMethodDescriptor "(I)Z" = some ⟨[.int], some .boolean⟩ := by decide +kernel
theorem pn0 : plainFor x = true := by first | exact plainFor_of_name (by first | (simp [plainName, overriddenIn]; done) | decide +kernel) | decide +kernel
theorem ef0 (m : MethodId) (x0 : Int32) (x1 : Int32) : entryFrame m #[(.int x0), (.int x1)] maxLocals = mkF m 0 #[.val (.int x0), .val (.int x1), .unset, .unset, .unset] [] := by first | (simp [entryFrame, mkF, argsToLocals, Value.category, maxLocals]; done) | rfl
def Q0 (Z : State) (x0 : Int32) (x1 : Int32) (ta : Addr) (cl : Cell) (h0 : Heap) (n0 : Nat) (v : Option Value) (h : Heap) (L : List Loc) : Prop := v = some (.int 1) ∧ Fr n0 L
set_option maxRecDepth 65536 in
set_option maxHeartbeats 40000000 in
theorem rm0 (l : Launch) (Z : State) (a0 : Array Value) (hw : ∀ d ∈ tables_1, d.before a0 Z = true) (ws : List Jvm.Cond) (x0 : Int32) (x1 : Int32) (ta : Addr) (cl : Cell) (h0 : Heap) (n0 : Nat) (Z0 : n0 ≤ h0.size) (O_a : Old Z n0 h0) (V_a : own_Len Z h0 ta .boolean (128 : Int32)) (Sc : Sta Z Z.heap "com/example/steer/steer/util/HttpSyntax" "TCHAR" "[Z" (.ref ta)) (Ar : Arr Z Z.heap ta cl .boolean) (hsz : cl.slots.size = 128) (TB : ∀ j : Nat, j < 128 → cl.slots[j]? = some (.int (own_b (own_P j)))) :
    MetFree l x (head1 (Jvm.Cond.code x code maxLocals ret :: ws) room_1) (fun a U => a = #[(.int x0), (.int x1)] ∧ Z.Warmed39 U.vm ∧ U.heap = h0) (fun _ _ _ _ _ => True) (fun _ U o U' => ∃ v L, o = .returned v ∧ Q0 Z x0 x1 ta cl h0 n0 v U'.heap L ∧ FrameEnd U o U' L 0 0) := by
  refine MetFree.of_bodySF pn0 hisR ?_
  intro p e s m args below meth c s₁ Bd hml0 hP hK
  obtain ⟨rfl, hZ, hh⟩ := hP
  have hx := Bd.exec
  have hby := Bd.bytes
  have hlk : meth.locks = false := BodyLoose.notSynchronized Bd
  have hml : c.maxLocals = 5 := hml0
  have hown : s.vm.findClass "com/example/steer/steer/util/HttpSyntaxIsTcharPinLaw" = some m.cls := findClass_of_methodNamed Bd.named
  have hnm := (name_of_methodNamed Bd.named Bd.method).1
  have X0 : Stand p l e room_1 s m #[(.int x0), (.int x1)] below meth c s₁ [] 0 0 := Stand.of_body Bd
  have e0 : s₁.heap = h0 := by rw [← hh, Bd.state]; rfl
  have N0 := Fr.nil n0
  rw [ef0 m x0 x1]
  show own_Go p e below (own_End s (Q0 Z x0 x1 ta cl h0 n0) 0 0) s₁ (mkF m 0 #[.val (.int x0), .val (.int x1), .unset, .unset, .unset] [])
  refine own_iloadN X0 hx (hb hby at_0) (pc' := 1) rfl rfl ?_
  refine own_sipush X0 hx (511) (hb hby at_1) (pc' := 4) rfl (by decide) ?_
  refine own_iand X0 hx (hb hby at_4) (pc' := 5) rfl ?_
  refine own_sipush X0 hx (256) (hb hby at_5) (pc' := 8) rfl (by decide) ?_
  refine own_isub X0 hx (hb hby at_8) (pc' := 9) rfl ?_
  refine own_istoreN X0 hx (hb hby at_9) (pc' := 10) (Ls' := #[.val (.int x0), .val (.int x1), .val (.int ((x1 &&& (511 : Int32)) - (256 : Int32))), .unset, .unset]) rfl rfl ?_
  refine own_iloadN X0 hx (hb hby at_10) (pc' := 11) rfl rfl ?_
  obtain ⟨_, _, ⟨T_1, L_1, k_1, n_1⟩, -, X_1, ⟨Lc_1, hQ_1, l_1, y_1, z_1⟩, st_1⟩ := Jvm.LawKit.callS X0 hx (y := (⟨"com/example/steer/steer/util/HttpSyntax", "isTchar", "(I)Z"⟩ : MethodName)) hown (mvT hZ (hw _ (List.mem_of_getElem? (i := 0) rfl))) (mvT hZ (hw _ (List.mem_of_getElem? (i := 1) rfl))) (mvT hZ (hw _ (List.mem_of_getElem? (i := 2) rfl))) (mvT hZ (hw _ (List.mem_of_getElem? (i := 3) rfl))) (by decide) (backOf (W := 0) (rm1 l Z a0 hw [] x0 ta cl h0 n0 Z0 O_a V_a Sc Ar hsz TB) hZ (hw _ (List.mem_of_getElem? (i := 3) rfl)) (hw _ (List.mem_of_getElem? (i := 2) rfl)) (by decide) (by decide)) (g := (mkF m 11 #[.val (.int x0), .val (.int x1), .val (.int ((x1 &&& (511 : Int32)) - (256 : Int32))), .unset, .unset] [(.int x0)])) rfl (by rw [hml]; rfl) (argsL := [(.int x0)]) (rest := []) (lenOf pd0_0 rfl) rfl (by show 2 * 0 + _ ≤ _; exact Nat.le_of_eq rfl) (hb hby at_11) (fun _ _ => ⟨rfl, e0, (by decide : 0 + 0 ≤ _), (by decide : 0 + 0 ≤ _)⟩)
  dsimp only [Pt.U, Pt.locs, Pt.cells, Pt.slots] at X_1 l_1 y_1 z_1 st_1 hQ_1
  subst l_1 y_1 z_1
  refine own_st st_1 ?_
  obtain ⟨rfl, Nq_1, eq_1⟩ := hQ_1
  have N_1 := Fr.app N0 Nq_1
  show own_Go p e below _ T_1 (mkF m 14 #[.val (.int x0), .val (.int x1), .val (.int ((x1 &&& (511 : Int32)) - (256 : Int32))), .unset, .unset] [(.int (own_b (¬ x0 < 0 ∧ x0 < 128 ∧ own_P x0.toNatClampNeg)))])
  refine own_iloadN X_1 hx (hb hby at_14) (pc' := 15) rfl rfl ?_
  obtain ⟨_, _, ⟨T_2, L_2, k_2, n_2⟩, -, X_2, ⟨Lc_2, hQ_2, l_2, y_2, z_2⟩, st_2⟩ := Jvm.LawKit.callS X_1 hx (y := (⟨"com/example/steer/steer/util/HttpSyntaxIsTcharPinLaw", "ref", "(I)Z"⟩ : MethodName)) hown (mvT hZ (hw _ (List.mem_of_getElem? (i := 6) rfl))) (mvT hZ (hw _ (List.mem_of_getElem? (i := 7) rfl))) (mvT hZ (hw _ (List.mem_of_getElem? (i := 8) rfl))) (mvT hZ (hw _ (List.mem_of_getElem? (i := 9) rfl))) (by decide) (backOf (W := 1) (rm2 l Z a0 hw [] x0 h0 n0 Z0) hZ (hw _ (List.mem_of_getElem? (i := 9) rfl)) (hw _ (List.mem_of_getElem? (i := 8) rfl)) (by decide) (by decide)) (g := (mkF m 15 #[.val (.int x0), .val (.int x1), .val (.int ((x1 &&& (511 : Int32)) - (256 : Int32))), .unset, .unset] [(.int x0), (.int (own_b (¬ x0 < 0 ∧ x0 < 128 ∧ own_P x0.toNatClampNeg)))])) rfl (by rw [hml]; rfl) (argsL := [(.int x0)]) (rest := [(.int (own_b (¬ x0 < 0 ∧ x0 < 128 ∧ own_P x0.toNatClampNeg)))]) (lenOf pd0_0 rfl) rfl (by show 2 * 0 + _ ≤ _; exact Nat.le_of_eq rfl) (hb hby at_15) (fun _ _ => ⟨rfl, eq_1, (by decide : 0 + 0 ≤ _), (by decide : 0 + 0 ≤ _)⟩)
  dsimp only [Pt.U, Pt.locs, Pt.cells, Pt.slots] at X_2 l_2 y_2 z_2 st_2 hQ_2
  subst l_2 y_2 z_2
  refine own_st st_2 ?_
  obtain ⟨rfl, Nq_2, eq_2⟩ := hQ_2
  have N_2 := Fr.app N_1 Nq_2
  show own_Go p e below _ T_2 (mkF m 18 #[.val (.int x0), .val (.int x1), .val (.int ((x1 &&& (511 : Int32)) - (256 : Int32))), .unset, .unset] [(.int (own_b ((¬ x0 < (48 : Int32) ∧ ¬ (57 : Int32) < x0) ∨ (¬ x0 < (65 : Int32) ∧ ¬ (90 : Int32) < x0) ∨ (¬ x0 < (97 : Int32) ∧ ¬ (122 : Int32) < x0) ∨ x0 = (33 : Int32) ∨ x0 = (35 : Int32) ∨ x0 = (36 : Int32) ∨ x0 = (37 : Int32) ∨ x0 = (38 : Int32) ∨ x0 = (39 : Int32) ∨ x0 = (42 : Int32) ∨ x0 = (43 : Int32) ∨ x0 = (45 : Int32) ∨ x0 = (46 : Int32) ∨ x0 = (94 : Int32) ∨ x0 = (95 : Int32) ∨ x0 = (96 : Int32) ∨ x0 = (124 : Int32) ∨ x0 = (126 : Int32)))), (.int (own_b (¬ x0 < 0 ∧ x0 < 128 ∧ own_P x0.toNatClampNeg)))])
  refine own_icmpN X_2 hx (hb hby at_18) (XT.ii_ne_f (own_biff (own_iff _))) (pc' := 21) rfl ?_
  refine own_iconst X_2 hx (1) (hb hby at_21) (pc' := 22) rfl rfl ?_
  refine own_goto X_2 hx (hb hby at_22) (pc' := 26) (by decide) (by decide) ?_
  refine own_istoreN X_2 hx (hb hby at_26) (pc' := 27) (Ls' := #[.val (.int x0), .val (.int x1), .val (.int ((x1 &&& (511 : Int32)) - (256 : Int32))), .val (.int (1 : Int32)), .unset]) rfl rfl ?_
  refine own_iloadN X_2 hx (hb hby at_27) (pc' := 28) rfl rfl ?_
  obtain ⟨_, _, ⟨T_3, L_3, k_3, n_3⟩, -, X_3, ⟨Lc_3, hQ_3, l_3, y_3, z_3⟩, st_3⟩ := Jvm.LawKit.callS X_2 hx (y := (⟨"com/example/steer/steer/util/HttpSyntax", "isTchar", "(I)Z"⟩ : MethodName)) hown (mvT hZ (hw _ (List.mem_of_getElem? (i := 0) rfl))) (mvT hZ (hw _ (List.mem_of_getElem? (i := 1) rfl))) (mvT hZ (hw _ (List.mem_of_getElem? (i := 2) rfl))) (mvT hZ (hw _ (List.mem_of_getElem? (i := 3) rfl))) (by decide) (backOf (W := 0) (rm1 l Z a0 hw [] ((x1 &&& (511 : Int32)) - (256 : Int32)) ta cl h0 n0 Z0 O_a V_a Sc Ar hsz TB) hZ (hw _ (List.mem_of_getElem? (i := 3) rfl)) (hw _ (List.mem_of_getElem? (i := 2) rfl)) (by decide) (by decide)) (g := (mkF m 28 #[.val (.int x0), .val (.int x1), .val (.int ((x1 &&& (511 : Int32)) - (256 : Int32))), .val (.int (1 : Int32)), .unset] [(.int ((x1 &&& (511 : Int32)) - (256 : Int32)))])) rfl (by rw [hml]; rfl) (argsL := [(.int ((x1 &&& (511 : Int32)) - (256 : Int32)))]) (rest := []) (lenOf pd0_0 rfl) rfl (by show 2 * 0 + _ ≤ _; exact Nat.le_of_eq rfl) (hb hby at_28) (fun _ _ => ⟨rfl, eq_2, (by decide : 0 + 0 ≤ _), (by decide : 0 + 0 ≤ _)⟩)
  dsimp only [Pt.U, Pt.locs, Pt.cells, Pt.slots] at X_3 l_3 y_3 z_3 st_3 hQ_3
  subst l_3 y_3 z_3
  refine own_st st_3 ?_
  obtain ⟨rfl, Nq_3, eq_3⟩ := hQ_3
  have N_3 := Fr.app N_2 Nq_3
  show own_Go p e below _ T_3 (mkF m 31 #[.val (.int x0), .val (.int x1), .val (.int ((x1 &&& (511 : Int32)) - (256 : Int32))), .val (.int (1 : Int32)), .unset] [(.int (own_b (¬ ((x1 &&& (511 : Int32)) - (256 : Int32)) < 0 ∧ ((x1 &&& (511 : Int32)) - (256 : Int32)) < 128 ∧ own_P ((x1 &&& (511 : Int32)) - (256 : Int32)).toNatClampNeg)))])
  refine own_iloadN X_3 hx (hb hby at_31) (pc' := 32) rfl rfl ?_
  obtain ⟨_, _, ⟨T_4, L_4, k_4, n_4⟩, -, X_4, ⟨Lc_4, hQ_4, l_4, y_4, z_4⟩, st_4⟩ := Jvm.LawKit.callS X_3 hx (y := (⟨"com/example/steer/steer/util/HttpSyntaxIsTcharPinLaw", "ref", "(I)Z"⟩ : MethodName)) hown (mvT hZ (hw _ (List.mem_of_getElem? (i := 6) rfl))) (mvT hZ (hw _ (List.mem_of_getElem? (i := 7) rfl))) (mvT hZ (hw _ (List.mem_of_getElem? (i := 8) rfl))) (mvT hZ (hw _ (List.mem_of_getElem? (i := 9) rfl))) (by decide) (backOf (W := 1) (rm2 l Z a0 hw [] ((x1 &&& (511 : Int32)) - (256 : Int32)) h0 n0 Z0) hZ (hw _ (List.mem_of_getElem? (i := 9) rfl)) (hw _ (List.mem_of_getElem? (i := 8) rfl)) (by decide) (by decide)) (g := (mkF m 32 #[.val (.int x0), .val (.int x1), .val (.int ((x1 &&& (511 : Int32)) - (256 : Int32))), .val (.int (1 : Int32)), .unset] [(.int ((x1 &&& (511 : Int32)) - (256 : Int32))), (.int (own_b (¬ ((x1 &&& (511 : Int32)) - (256 : Int32)) < 0 ∧ ((x1 &&& (511 : Int32)) - (256 : Int32)) < 128 ∧ own_P ((x1 &&& (511 : Int32)) - (256 : Int32)).toNatClampNeg)))])) rfl (by rw [hml]; rfl) (argsL := [(.int ((x1 &&& (511 : Int32)) - (256 : Int32)))]) (rest := [(.int (own_b (¬ ((x1 &&& (511 : Int32)) - (256 : Int32)) < 0 ∧ ((x1 &&& (511 : Int32)) - (256 : Int32)) < 128 ∧ own_P ((x1 &&& (511 : Int32)) - (256 : Int32)).toNatClampNeg)))]) (lenOf pd0_0 rfl) rfl (by show 2 * 0 + _ ≤ _; exact Nat.le_of_eq rfl) (hb hby at_32) (fun _ _ => ⟨rfl, eq_3, (by decide : 0 + 0 ≤ _), (by decide : 0 + 0 ≤ _)⟩)
  dsimp only [Pt.U, Pt.locs, Pt.cells, Pt.slots] at X_4 l_4 y_4 z_4 st_4 hQ_4
  subst l_4 y_4 z_4
  refine own_st st_4 ?_
  obtain ⟨rfl, Nq_4, eq_4⟩ := hQ_4
  have N_4 := Fr.app N_3 Nq_4
  show own_Go p e below _ T_4 (mkF m 35 #[.val (.int x0), .val (.int x1), .val (.int ((x1 &&& (511 : Int32)) - (256 : Int32))), .val (.int (1 : Int32)), .unset] [(.int (own_b ((¬ ((x1 &&& (511 : Int32)) - (256 : Int32)) < (48 : Int32) ∧ ¬ (57 : Int32) < ((x1 &&& (511 : Int32)) - (256 : Int32))) ∨ (¬ ((x1 &&& (511 : Int32)) - (256 : Int32)) < (65 : Int32) ∧ ¬ (90 : Int32) < ((x1 &&& (511 : Int32)) - (256 : Int32))) ∨ (¬ ((x1 &&& (511 : Int32)) - (256 : Int32)) < (97 : Int32) ∧ ¬ (122 : Int32) < ((x1 &&& (511 : Int32)) - (256 : Int32))) ∨ ((x1 &&& (511 : Int32)) - (256 : Int32)) = (33 : Int32) ∨ ((x1 &&& (511 : Int32)) - (256 : Int32)) = (35 : Int32) ∨ ((x1 &&& (511 : Int32)) - (256 : Int32)) = (36 : Int32) ∨ ((x1 &&& (511 : Int32)) - (256 : Int32)) = (37 : Int32) ∨ ((x1 &&& (511 : Int32)) - (256 : Int32)) = (38 : Int32) ∨ ((x1 &&& (511 : Int32)) - (256 : Int32)) = (39 : Int32) ∨ ((x1 &&& (511 : Int32)) - (256 : Int32)) = (42 : Int32) ∨ ((x1 &&& (511 : Int32)) - (256 : Int32)) = (43 : Int32) ∨ ((x1 &&& (511 : Int32)) - (256 : Int32)) = (45 : Int32) ∨ ((x1 &&& (511 : Int32)) - (256 : Int32)) = (46 : Int32) ∨ ((x1 &&& (511 : Int32)) - (256 : Int32)) = (94 : Int32) ∨ ((x1 &&& (511 : Int32)) - (256 : Int32)) = (95 : Int32) ∨ ((x1 &&& (511 : Int32)) - (256 : Int32)) = (96 : Int32) ∨ ((x1 &&& (511 : Int32)) - (256 : Int32)) = (124 : Int32) ∨ ((x1 &&& (511 : Int32)) - (256 : Int32)) = (126 : Int32)))), (.int (own_b (¬ ((x1 &&& (511 : Int32)) - (256 : Int32)) < 0 ∧ ((x1 &&& (511 : Int32)) - (256 : Int32)) < 128 ∧ own_P ((x1 &&& (511 : Int32)) - (256 : Int32)).toNatClampNeg)))])
  refine own_icmpN X_4 hx (hb hby at_35) (XT.ii_ne_f (own_biff (own_iff _))) (pc' := 38) rfl ?_
  refine own_iconst X_4 hx (1) (hb hby at_38) (pc' := 39) rfl rfl ?_
  refine own_goto X_4 hx (hb hby at_39) (pc' := 43) (by decide) (by decide) ?_
  refine own_istore X_4 hx (hb hby at_43) (pc' := 45) (Ls' := #[.val (.int x0), .val (.int x1), .val (.int ((x1 &&& (511 : Int32)) - (256 : Int32))), .val (.int (1 : Int32)), .val (.int (1 : Int32))]) rfl rfl ?_
  refine own_iloadN X_4 hx (hb hby at_45) (pc' := 46) rfl rfl ?_
  refine own_ifN X_4 hx (hb hby at_46) (by decide) (pc' := 49) rfl ?_
  refine own_iload X_4 hx (hb hby at_49) (pc' := 51) rfl rfl ?_
  refine own_ifN X_4 hx (hb hby at_51) (by decide) (pc' := 54) rfl ?_
  refine own_iconst X_4 hx (1) (hb hby at_54) (pc' := 55) rfl rfl ?_
  refine own_goto X_4 hx (hb hby at_55) (pc' := 59) (by decide) (by decide) ?_
  refine own_retZ X_4 hx hlk Bd.returns (by simp) (hb hby at_59) (by decide) (by decide) ?_
  exact ⟨rfl, N_4⟩
set_option maxRecDepth 65536 in
set_option maxHeartbeats 40000000 in
theorem comes_1 {Post : Tables → Env → Array Value → State → Outcome → State → Prop} (hpost : ∀ tb e args s v u, (limb_1_1.after args s (.returned v) u = true ∧ limb_1_2.after args s (.returned v) u = true ∧ True) → FrameEnd s (.returned v) u (Jvm.fieldLocs frame_1_writes args s ++ Jvm.arrayLocs frame_1_arrays args s ++ Jvm.staticLocs frame_1_statics s) 0 0 → Post tb e args s (.returned v) u) :
    ArmFor flags0 classFile x code maxLocals ret World_1 tables_1 room_1 Calls_1 rest_1 Pre_1 Post := by
  intro l hfl _ _ p e ha hc hk s m args below hf hA hF happ hP
  obtain ⟨hcalls, hrest, hpre⟩ := hP
  obtain ⟨-, -, -, hnamed, -, -, -, hat⟩ := (Spec.applies_iff hf).mp happ
  obtain ⟨hg, hn⟩ := and_e (Cond.before_iff.mp (show (Jvm.Cond.and given_1 narrow_1).before args s = true from hpre))
  obtain ⟨gc, gr0⟩ := and_e hg
  obtain ⟨ga0, gr1⟩ := and_e gr0
  have ga1 := gr1
  obtain ⟨w0, w1, rfl⟩ : ∃ w0 w1 : Value, args = #[w0, w1] := by
    have hs : args.size = 2 := by simpa [Cond.value, given_1] using gc
    obtain ⟨L⟩ := args
    match L, hs with
    | [w0, w1], _ => exact ⟨w0, w1, rfl⟩
  have hw := fun d (hd : d ∈ tables_1) => atoms_spec (ws := Jvm.Cond.code x code maxLocals ret :: tables_1) hat d (List.mem_cons_of_mem _ hd)
  have hfit : Fit s := fun {y c} hc i hi => by
    obtain ⟨ha, rfl⟩ := Array.getElem?_eq_some_iff.mp hc
    have q := List.all_eq_true.mp ((Array.all_eq_true_iff_forall_mem.mp hF) _ (Array.getElem_mem ha)) i (List.mem_range.mpr hi)
    simpa [Array.getElem?_eq_getElem hi] using q
  obtain ⟨i0, ei0⟩ := is_v ga0
  obtain rfl : w0 = (.int i0) := Option.some.inj ei0
  obtain ⟨i1, ei1⟩ := is_v ga1
  obtain rfl : w1 = (.int i1) := Option.some.inj ei1
  obtain ⟨q0, z0⟩ := and_e hn
  obtain ⟨q1, z1⟩ := and_e z0
  obtain ⟨r0, z2⟩ := and_e z1
  obtain ⟨r1, z3⟩ := and_e z2
  obtain ⟨r2, z4⟩ := and_e z3
  obtain ⟨r3, z5⟩ := and_e z4
  obtain ⟨r4, z6⟩ := and_e z5
  obtain ⟨r5, z7⟩ := and_e z6
  obtain ⟨r6, z8⟩ := and_e z7
  obtain ⟨r7, z9⟩ := and_e z8
  obtain ⟨r8, z10⟩ := and_e z9
  obtain ⟨r9, z11⟩ := and_e z10
  obtain ⟨r10, z12⟩ := and_e z11
  obtain ⟨r11, z13⟩ := and_e z12
  obtain ⟨r12, z14⟩ := and_e z13
  obtain ⟨r13, z15⟩ := and_e z14
  obtain ⟨r14, z16⟩ := and_e z15
  obtain ⟨r15, z17⟩ := and_e z16
  obtain ⟨r16, z18⟩ := and_e z17
  obtain ⟨r17, z19⟩ := and_e z18
  obtain ⟨r18, z20⟩ := and_e z19
  obtain ⟨r19, z21⟩ := and_e z20
  obtain ⟨r20, z22⟩ := and_e z21
  obtain ⟨r21, z23⟩ := and_e z22
  obtain ⟨r22, z24⟩ := and_e z23
  have r23 := z24
  obtain ⟨ta, eta⟩ := arr_v q0
  have et : ∀ idx, (Term.static "com/example/steer/steer/util/HttpSyntax" "TCHAR" "[Z").eval #[.int i0, .int i1] s none idx s = some (.ref ta) := fun _ => eta
  obtain ⟨cl, Ar⟩ := Arr.start eta q0
  have hta : s.arrayAt? ta = some cl := Ar.fin (Vm.Alike.refl _)
  have hsz : cl.slots.size = 128 := own_size eta hta q1 rfl
  have Sc : Sta s s.heap "com/example/steer/steer/util/HttpSyntax" "TCHAR" "[Z" (.ref ta) := Sta.start eta (Or.inr ⟨hw _ (List.mem_of_getElem? (i := 2) rfl), hw _ (List.mem_of_getElem? (i := 5) rfl)⟩)
  have TB : ∀ j : Nat, j < 128 → cl.slots[j]? = some (.int (own_b (own_P j))) := by
    intro j hj
    rcases (show (0 ≤ j ∧ j < 33) ∨ j = 33 ∨ j = 34 ∨ (35 ≤ j ∧ j < 40) ∨ j = 40 ∨ j = 41 ∨ j = 42 ∨ j = 43 ∨ j = 44 ∨ j = 45 ∨ j = 46 ∨ j = 47 ∨ (48 ≤ j ∧ j < 58) ∨ (58 ≤ j ∧ j < 65) ∨ (65 ≤ j ∧ j < 91) ∨ j = 91 ∨ j = 92 ∨ j = 93 ∨ (94 ≤ j ∧ j < 123) ∨ j = 123 ∨ j = 124 ∨ j = 125 ∨ j = 126 ∨ j = 127 by omega) with h | h | h | h | h | h | h | h | h | h | h | h | h | h | h | h | h | h | h | h | h | h | h | h
    · rw [own_b0 (by simp only [own_P]; omega)]; exact own_all2 et hta hsz r0 hj (by have : (33 : Int32).toInt = 33 := rfl; omega)
    · subst h; exact own_one eta hta r1 (by decide) (by decide)
    · subst h; exact own_one eta hta r2 (by decide) (by decide)
    · rw [own_b1 (by simp only [own_P]; omega)]; exact own_all3 et hta hsz r3 hj (by have : (35 : Int32).toInt = 35 := rfl; omega) (by have : (40 : Int32).toInt = 40 := rfl; omega)
    · subst h; exact own_one eta hta r4 (by decide) (by decide)
    · subst h; exact own_one eta hta r5 (by decide) (by decide)
    · subst h; exact own_one eta hta r6 (by decide) (by decide)
    · subst h; exact own_one eta hta r7 (by decide) (by decide)
    · subst h; exact own_one eta hta r8 (by decide) (by decide)
    · subst h; exact own_one eta hta r9 (by decide) (by decide)
    · subst h; exact own_one eta hta r10 (by decide) (by decide)
    · subst h; exact own_one eta hta r11 (by decide) (by decide)
    · rw [own_b1 (by simp only [own_P]; omega)]; exact own_all3 et hta hsz r12 hj (by have : (48 : Int32).toInt = 48 := rfl; omega) (by have : (58 : Int32).toInt = 58 := rfl; omega)
    · rw [own_b0 (by simp only [own_P]; omega)]; exact own_all3 et hta hsz r13 hj (by have : (58 : Int32).toInt = 58 := rfl; omega) (by have : (65 : Int32).toInt = 65 := rfl; omega)
    · rw [own_b1 (by simp only [own_P]; omega)]; exact own_all3 et hta hsz r14 hj (by have : (65 : Int32).toInt = 65 := rfl; omega) (by have : (91 : Int32).toInt = 91 := rfl; omega)
    · subst h; exact own_one eta hta r15 (by decide) (by decide)
    · subst h; exact own_one eta hta r16 (by decide) (by decide)
    · subst h; exact own_one eta hta r17 (by decide) (by decide)
    · rw [own_b1 (by simp only [own_P]; omega)]; exact own_all3 et hta hsz r18 hj (by have : (94 : Int32).toInt = 94 := rfl; omega) (by have : (123 : Int32).toInt = 123 := rfl; omega)
    · subst h; exact own_one eta hta r19 (by decide) (by decide)
    · subst h; exact own_one eta hta r20 (by decide) (by decide)
    · subst h; exact own_one eta hta r21 (by decide) (by decide)
    · subst h; exact own_one eta hta r22 (by decide) (by decide)
    · subst h; exact own_one eta hta r23 (by decide) (by decide)
  have V_a : own_Len s s.heap ta .boolean (128 : Int32) := ⟨cl, Ar, by rw [hsz]; decide, by decide⟩
  obtain ⟨n, o, h1, h2, h3, _, L, rfl, ⟨rfl, N⟩, hq⟩ := rm0 l s _ hw tables_1 i0 i1 ta cl s.heap s.heap.size (Nat.le_refl _) (Old.start s) V_a Sc Ar hsz TB p e ha hc hk s m _ below hf ((Spec.applies_iff_loose hf).mp happ).1 ⟨rfl, State.Warmed39.refl s, rfl⟩ trivial
  refine ⟨n, _, h1, h2, h3, hpost _ _ _ _ _ _ ⟨Cond.after_iff.mpr rfl, Cond.after_iff.mpr (eq_i res_at (Term.int_eval (1)) rfl), trivial⟩ ⟨hq.1, hq.2.1, (hq.2.2.sift fun y hy => Or.inr (N y hy)).mono (by decide) (by decide)⟩⟩
theorem main_1_1 : Claimed_1_1 := comes_1 fun _ _ _ _ _ _ h hF => ⟨h.1, hF⟩
theorem main_1_2 : Claimed_1_2 := comes_1 fun _ _ _ _ _ _ h hF => ⟨h.2.1, hF⟩
end Jvm.Pilot.@@N@@
namespace Jvm.Pilot.@@N@@
open Jvm Jvm.ClassFile Sem Op Lib Jvm.Free Jvm.Stand Jvm.Pilot.@@N@@.Jvm.D
/-! MADE BY PROGRAM (witnessworld.py) out of the Statement's table words and the real class files: 11 classes; the members and pool entries that the words name. The judged class is class 1, her method 2. -/
namespace start1
open Jvm.ClassFile
def u (s : String) : CpInfo := .utf8 (stringToUtf16 s)
/-- a pool by its gaps: so many unusable entries, then the entry; so many at the end -/
def gap : Nat → List CpInfo → List CpInfo
  | 0, r => r
  | n + 1, r => .unusable :: gap n r
def poolList (es : List (Nat × CpInfo)) (last : Nat) : List CpInfo := es.foldr (fun e r => gap e.1 (e.2 :: r)) (gap last [])
def pool (es : List (Nat × CpInfo)) (last : Nat) : Array CpInfo := ⟨poolList es last⟩
def fileOf (pool : Array CpInfo) (this : Nat) (attrs : Array Attribute := #[]) (ms : Array MethodInfo := #[]) (fl : Nat := 33) (sup : Nat := 0) (ifs : Array Nat := #[]) (fds : Array FieldInfo := #[]) : ClassFile where
  minorVersion := 0
  majorVersion := 65
  constantPool := pool
  accessFlags := fl
  thisClass := this
  superClass := sup
  interfaces := ifs
  fields := fds
  methods := ms
  attributes := attrs
def plain (name : String) (sup : Option ClassId) : Class where
  name := name
  kind := .ordinary
  loader := none
  accessFlags := 33
  super := sup
  interfaces := #[]
  cf := none
  fields := #[]
  methods := #[]
  instanceTypes := #[]
  staticTypes := #[]
  resolved := #[]
  callSites := []
  init := .initialized
  statics := none
  mirror := none

def pool0 : Array CpInfo := pool [(5, u "<init>"), (0, u "()V"), (1, .class_ 10), (1, u "java/lang/Object")] 113

def k0m0 : Method := { name := "<init>", desc := "()V", sig := { parameters := [], returnType := none }, accessFlags := 1, code := none }
/-- java/lang/Object -/
def k0 : Class := { plain "java/lang/Object" none with
  accessFlags := 33
  interfaces := #[]
  cf := some (fileOf pool0 8 #[] #[{ accessFlags := 1, nameIndex := 5, descriptorIndex := 6, attributes := #[] }] 33 0 #[] #[])
  fields := #[]
  methods := #[k0m0]
  instanceTypes := #[]
  staticTypes := #[]
  resolved := Array.replicate 124 none
  statics := none }

def pool1 : Array CpInfo := pool [(2, .class_ 4), (1, u "java/lang/Object"), (0, u "<init>"), (0, u "()V"), (0, .methodref 8 9), (0, .class_ 10), (0, .nameAndType 11 12), (0, u "com/example/steer/steer/util/HttpSyntax"), (0, u "isTchar"), (0, u "(I)Z"), (0, .methodref 14 15), (0, .class_ 16), (0, .nameAndType 17 12), (0, u "com/example/steer/steer/util/HttpSyntaxIsTcharPinLaw"), (0, u "ref"), (3, u "law"), (0, u "(II)Z")] 2

def k1m0 : Method := { name := "<init>", desc := "()V", sig := { parameters := [], returnType := none }, accessFlags := 2, code := none }
def k1c1 : Code := { maxStack := 2, maxLocals := 1, code := method_2_code, exceptionTable := #[], attributes := #[] }
def k1m1 : Method := { name := "ref", desc := "(I)Z", sig := { parameters := [.int], returnType := some .boolean }, accessFlags := 10, code := some k1c1 }
def k1c2 : Code := { maxStack := 2, maxLocals := 5, code := code, exceptionTable := #[], attributes := #[] }
def k1m2 : Method := { name := "law", desc := "(II)Z", sig := { parameters := [.int, .int], returnType := some .boolean }, accessFlags := 9, code := some k1c2 }
/-- com/example/steer/steer/util/HttpSyntaxIsTcharPinLaw -/
def k1 : Class := { plain "com/example/steer/steer/util/HttpSyntaxIsTcharPinLaw" (some 0) with
  accessFlags := 49
  interfaces := #[]
  cf := some (fileOf pool1 14 #[] #[{ accessFlags := 2, nameIndex := 5, descriptorIndex := 6, attributes := #[] }, { accessFlags := 10, nameIndex := 17, descriptorIndex := 12, attributes := #[] }, { accessFlags := 9, nameIndex := 21, descriptorIndex := 22, attributes := #[] }] 49 2 #[] #[])
  fields := #[]
  methods := #[k1m0, k1m1, k1m2]
  instanceTypes := #[]
  staticTypes := #[]
  resolved := Array.replicate 25 none
  statics := none }

def pool2 : Array CpInfo := pool [(2, .class_ 4), (1, u "java/lang/Object"), (0, u "<init>"), (0, u "()V"), (11, .class_ 20), (1, u "com/example/steer/steer/util/HttpSyntax"), (0, u "isTchar"), (0, u "(I)Z"), (0, .fieldref 18 24), (0, .nameAndType 25 26), (0, u "TCHAR"), (0, u "[Z"), (70, u "TCHAR_SYMBOLS"), (0, u "Ljava/lang/String;")] 20

def k2m0 : Method := { name := "<init>", desc := "()V", sig := { parameters := [], returnType := none }, accessFlags := 2, code := none }
def k2c1 : Code := { maxStack := 2, maxLocals := 1, code := prog_33_method_3_code, exceptionTable := #[], attributes := #[] }
def k2m1 : Method := { name := "isTchar", desc := "(I)Z", sig := { parameters := [.int], returnType := some .boolean }, accessFlags := 9, code := some k2c1 }
/-- com/example/steer/steer/util/HttpSyntax -/
def k2 : Class := { plain "com/example/steer/steer/util/HttpSyntax" (some 0) with
  accessFlags := 33
  interfaces := #[]
  cf := some (fileOf pool2 18 #[] #[{ accessFlags := 2, nameIndex := 5, descriptorIndex := 6, attributes := #[] }, { accessFlags := 9, nameIndex := 21, descriptorIndex := 22, attributes := #[] }] 33 2 #[] #[{ accessFlags := 26, nameIndex := 97, descriptorIndex := 98, attributes := #[] }, { accessFlags := 26, nameIndex := 25, descriptorIndex := 26, attributes := #[] }])
  fields := #[{ name := "TCHAR_SYMBOLS", type := (.object "java/lang/String"), accessFlags := 26, slot := 0, constantValue := 0 }, { name := "TCHAR", type := (.array .boolean), accessFlags := 26, slot := 1, constantValue := 0 }]
  methods := #[k2m0, k2m1]
  instanceTypes := #[]
  staticTypes := #[(.object "java/lang/String"), (.array .boolean)]
  resolved := Array.replicate 119 none
  statics := some 0 }

def pool3 : Array CpInfo := pool [(1, u "java/lang/Cloneable"), (0, .class_ 1), (0, u "java/lang/Object"), (0, .class_ 3)] 3

/-- java/lang/Cloneable -/
def k3 : Class := { plain "java/lang/Cloneable" (some 0) with
  accessFlags := 1537
  interfaces := #[]
  cf := some (fileOf pool3 2 #[] #[] 1537 4 #[] #[])
  fields := #[]
  methods := #[]
  instanceTypes := #[]
  staticTypes := #[]
  resolved := Array.replicate 8 none
  statics := none }

def pool4 : Array CpInfo := pool [(1, u "java/io/Serializable"), (0, .class_ 1), (0, u "java/lang/Object"), (0, .class_ 3)] 3

/-- java/io/Serializable -/
def k4 : Class := { plain "java/io/Serializable" (some 0) with
  accessFlags := 1537
  interfaces := #[]
  cf := some (fileOf pool4 2 #[] #[] 1537 4 #[] #[])
  fields := #[]
  methods := #[]
  instanceTypes := #[]
  staticTypes := #[]
  resolved := Array.replicate 8 none
  statics := none }

/-- the primitive boolean -/
def k5 : Class := { plain "boolean" none with kind := .primitive 'Z', accessFlags := 0x411 }
/-- [Z -/
def k6 : Class := { plain "[Z" (some 0) with kind := .array 5 .boolean, interfaces := #[3, 4], accessFlags := 1041 }

/-- the primitive byte -/
def k7 : Class := { plain "byte" none with kind := .primitive 'B', accessFlags := 0x411 }
/-- [B -/
def k8 : Class := { plain "[B" (some 0) with kind := .array 7 .byte, interfaces := #[3, 4], accessFlags := 1041 }

/-- the primitive int -/
def k9 : Class := { plain "int" none with kind := .primitive 'I', accessFlags := 0x411 }
/-- [I -/
def k10 : Class := { plain "[I" (some 0) with kind := .array 9 .int, interfaces := #[3, 4], accessFlags := 1041 }

def heap : Heap := #[{ cls := 2, slots := #[.null, .ref 1], vm := .statics 2 },
  { cls := 6, slots := #[.int 0, .int 0, .int 0, .int 0, .int 0, .int 0, .int 0, .int 0, .int 0, .int 0, .int 0, .int 0, .int 0, .int 0, .int 0, .int 0, .int 0, .int 0, .int 0, .int 0, .int 0, .int 0, .int 0, .int 0, .int 0, .int 0, .int 0, .int 0, .int 0, .int 0, .int 0, .int 0, .int 0, .int 1, .int 0, .int 1, .int 1, .int 1, .int 1, .int 1, .int 0, .int 0, .int 1, .int 1, .int 0, .int 1, .int 1, .int 0, .int 1, .int 1, .int 1, .int 1, .int 1, .int 1, .int 1, .int 1, .int 1, .int 1, .int 0, .int 0, .int 0, .int 0, .int 0, .int 0, .int 0, .int 1, .int 1, .int 1, .int 1, .int 1, .int 1, .int 1, .int 1, .int 1, .int 1, .int 1, .int 1, .int 1, .int 1, .int 1, .int 1, .int 1, .int 1, .int 1, .int 1, .int 1, .int 1, .int 1, .int 1, .int 1, .int 1, .int 0, .int 0, .int 0, .int 1, .int 1, .int 1, .int 1, .int 1, .int 1, .int 1, .int 1, .int 1, .int 1, .int 1, .int 1, .int 1, .int 1, .int 1, .int 1, .int 1, .int 1, .int 1, .int 1, .int 1, .int 1, .int 1, .int 1, .int 1, .int 1, .int 1, .int 1, .int 1, .int 0, .int 1, .int 0, .int 1, .int 0], vm := .none }]
def classes : Array Class := #[k0, k1, k2, k3, k4, k5, k6, k7, k8, k9, k10]
def interned : List (Array UInt16 × Addr) := []
def slotsUsed : Nat := 130
def theMethod : MethodId := ⟨1, 2⟩
def args0 : Array Value := #[.int 5, .int 3]
def aboutOver (below : List Frame) : State where
  vm := { classes := classes, interned := interned.toArray }
  heap := heap
  slotsUsed := slotsUsed
  threads := #[{ frames := .invoking theMethod args0 :: below }]
def below0 : List Frame := [.native { method := ⟨0, 0⟩, args := #[] }]
def about1 : State := aboutOver below0
def p0 : Program := .bare "" "" ""
def e0 : Env := launch0.env 0 0 0
theorem w_frames : about1.frames = Frame.invoking theMethod args0 :: below0 := rfl
set_option maxRecDepth 65536 in
theorem w_args : argsFit about1.vm theMethod args0 = true := by decide +kernel
set_option maxRecDepth 65536 in
theorem w_heap : heapFits about1 = true := by decide +kernel
set_option maxRecDepth 65536 in
theorem w_runnable : about1.curStatus? = some .runnable := by decide +kernel
set_option maxRecDepth 65536 in
theorem w_alone : about1.alone = true := by decide +kernel
set_option maxRecDepth 65536 in
theorem w_named : about1.methodNamed? x = some theMethod := by decide +kernel
set_option maxRecDepth 65536 in
theorem w_hears : about1.hears theMethod below0 = true := by decide +kernel
set_option maxRecDepth 65536 in
theorem w_ripe : about1.ripe theMethod args0 below0 = true := by decide +kernel
theorem w_running : about1.status = .running := rfl
set_option maxRecDepth 65536 in
theorem w_room : about1.hasRoom e0.platform room_1 = true :=
  launch0.hasRoom_least _ room_1 (by decide +kernel) (by decide +kernel) (by decide +kernel) (by decide +kernel) (by decide +kernel) (by decide +kernel)
theorem allAtoms_all (ts : List Jvm.Cond) (a : Array Jvm.Value) (st : Jvm.State) : (allAtoms ts).before a st = ts.all (fun c => c.before a st) := by
  induction ts with
  | nil => rfl
  | cons c t ih =>
    show (Jvm.Cond.and c (allAtoms t)).before a st = _
    rw [Jvm.Cond.before_and, ih, List.all_cons]
def words1 : List Jvm.Cond := Jvm.Cond.code x code maxLocals ret :: tables_1
/-- a 'code' word, met by the world's own term for the bytes: nothing is compared byte by byte -/
theorem code_word {y : MethodName} {bytes : ByteArray} {mx : Nat} {rt : Option FieldType} {a : Array Value} {s : State} {m : MethodId} {meth : Method} {c : Code} (h1 : s.methodNamed? y = some m) (h2 : s.vm.method? m = some meth) (h3 : meth.code = some c) (h4 : c.code = bytes)
    (h5 : (c.maxLocals == mx && c.exceptionTable.isEmpty && decide (c.maxStack ≤ mostOperands) && decide (meth.sig.returnType = rt) && !meth.locks && decide (parseMethodDescriptor y.desc = some meth.sig)) = true) : (Jvm.Cond.code y bytes mx rt).before a s = true := by
  simp only [Bool.and_eq_true, beq_iff_eq, Bool.not_eq_true', decide_eq_true_eq] at h5
  obtain ⟨⟨⟨⟨⟨g1, g2⟩, g3⟩, g4⟩, g5⟩, g6⟩ := h5
  simp [Cond.before, Cond.holds, Cond.value, h1, h2, h3, h4, g1, g2, g3, g4, g5, g6]
def isCode : Jvm.Cond → Bool
  | .code _ _ _ _ => true
  | _ => false
theorem all_split {L : List Jvm.Cond} {P : Jvm.Cond → Bool} (h1 : L.all (fun c => isCode c || P c) = true) (h2 : ∀ c ∈ L.filter isCode, P c = true) : L.all P = true := by
  refine List.all_eq_true.mpr fun c hc => ?_
  have h := List.all_eq_true.mp h1 c hc
  rcases Bool.eq_false_or_eq_true (isCode c) with hi | hi
  · exact h2 c (List.mem_filter.mpr ⟨hc, hi⟩)
  · simpa [hi] using h
set_option maxRecDepth 65536 in
theorem w_c0 : (Jvm.Cond.code x code maxLocals ret).before args0 about1 = true := code_word (m := ⟨1, 2⟩) (meth := k1m2) (c := k1c2) (by decide +kernel) rfl rfl rfl (by decide +kernel)
set_option maxRecDepth 65536 in
theorem w_c1 : (Jvm.Cond.code ({ cls := "com/example/steer/steer/util/HttpSyntax", name := "isTchar", desc := "(I)Z" } : Jvm.MethodName) prog_33_method_3_code (1 : Nat) (Option.some Jvm.ClassFile.FieldType.boolean)).before args0 about1 = true := code_word (m := ⟨2, 1⟩) (meth := k2m1) (c := k2c1) (by decide +kernel) rfl rfl rfl (by decide +kernel)
set_option maxRecDepth 65536 in
theorem w_c2 : (Jvm.Cond.code ({ cls := "com/example/steer/steer/util/HttpSyntaxIsTcharPinLaw", name := "ref", desc := "(I)Z" } : Jvm.MethodName) method_2_code (1 : Nat) (Option.some Jvm.ClassFile.FieldType.boolean)).before args0 about1 = true := code_word (m := ⟨1, 1⟩) (meth := k1m1) (c := k1c1) (by decide +kernel) rfl rfl rfl (by decide +kernel)
def codes1 : List Jvm.Cond := [Jvm.Cond.code x code maxLocals ret, Jvm.Cond.code ({ cls := "com/example/steer/steer/util/HttpSyntax", name := "isTchar", desc := "(I)Z" } : Jvm.MethodName) prog_33_method_3_code (1 : Nat) (Option.some Jvm.ClassFile.FieldType.boolean), Jvm.Cond.code ({ cls := "com/example/steer/steer/util/HttpSyntaxIsTcharPinLaw", name := "ref", desc := "(I)Z" } : Jvm.MethodName) method_2_code (1 : Nat) (Option.some Jvm.ClassFile.FieldType.boolean)]
set_option maxRecDepth 65536 in
theorem codes_eq : words1.filter isCode = codes1 := rfl
theorem w_codes : ∀ c ∈ words1.filter isCode, c.before args0 about1 = true := by
  rw [codes_eq]
  intro c hc
  simp only [codes1, List.mem_cons, List.not_mem_nil, or_false] at hc
  rcases hc with rfl | rfl | rfl
  · exact w_c0
  · exact w_c1
  · exact w_c2
set_option maxRecDepth 65536 in
theorem w_t1 : words1.all (fun c => isCode c || c.before args0 about1) = true := by decide +kernel
theorem w_tables : (allAtoms (Jvm.Cond.code x code maxLocals ret :: tables_1)).before args0 about1 = true := by
  rw [allAtoms_all]
  show words1.all (fun c => c.before args0 about1) = true
  refine all_split ?_ w_codes
  rw [w_t1]
set_option maxRecDepth 65536 in
theorem w_case : (Jvm.Cond.and given_1 narrow_1).before args0 about1 = true := by decide +kernel
theorem w_applies : (headSpec (Jvm.Cond.code x code maxLocals ret :: tables_1) room_1).applies x e0.platform about1 = true :=
  (Spec.applies_iff w_frames).mpr ⟨w_running, w_runnable, w_alone, w_named, w_hears, w_ripe, w_room, w_tables⟩
theorem atStart : AtStart classFile x code maxLocals ret World_1 tables_1 room_1 Calls_1 rest_1 Pre_1 launch0 p0 e0 about1 theMethod args0 below0 :=
  ⟨lists_1, trivial, launch0.admits_env _ _ _, launch0.least_env, fairChoices_fair.cas, fairChoices_fair.clock, w_frames, w_args, w_heap, w_applies, trivial, trivial, w_case⟩
end start1
theorem witness_1 : WitnessClaimed_1 := ⟨start1.p0, start1.e0, start1.about1, start1.theMethod, start1.args0, start1.below0, start1.atStart⟩
end Jvm.Pilot.@@N@@
