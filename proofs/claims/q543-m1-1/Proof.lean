import JvmDerived
import JvmDerived.Pilot.@@N@@Statement
import JvmDerived.Pilot.@@N@@Code
set_option linter.unusedVariables false
set_option linter.unusedSimpArgs false
namespace Jvm.Pilot.@@N@@
open Jvm Jvm.ClassFile Sem Op Lib Jvm.Free Jvm.Stand Jvm.LawKit Jvm.RoadKit Bundle Jvm.Pilot.@@N@@.Jvm.D
/-- a boolean as an int -/
def own_b (P : Prop) [Decidable P] : Int32 := if P then 1 else 0
theorem own_b1 {P : Prop} [Decidable P] (h : P) : own_b P = 1 := if_pos h
theorem own_b0 {P : Prop} [Decidable P] (h : ¬ P) : own_b P = 0 := if_neg h
theorem own_b0_eq_f {P : Prop} [Decidable P] (h : P) : ifCond.holds .eq (own_b P) = false := by rw [own_b1 h]; rfl
theorem own_b0_eq_t {P : Prop} [Decidable P] (h : ¬ P) : ifCond.holds .eq (own_b P) = true := by rw [own_b0 h]; rfl
theorem own_b0_ne_t {P : Prop} [Decidable P] (h : P) : ifCond.holds .ne (own_b P) = true := by rw [own_b1 h]; rfl
theorem own_b0_ne_f {P : Prop} [Decidable P] (h : ¬ P) : ifCond.holds .ne (own_b P) = false := by rw [own_b0 h]; rfl
theorem own_bnar (P : Prop) [Decidable P] : nar .boolean (own_b P) = own_b P := by by_cases h : P <;> simp [own_b, h, nar]
theorem own_biff {P Q : Prop} [Decidable P] [Decidable Q] (h : P ↔ Q) : own_b P = own_b Q := by by_cases q : Q <;> simp [own_b, h, q]
/-! own_Go: from T with the frame g on top the method's run comes to an end of which P holds. One rule a plain instruction, so that a walk may fork anywhere. -/
def own_Go (p : Program) (e : Env) (below : List Frame) (P : State → Outcome → Prop) (T : State) (g : JFrame) : Prop :=
  ∃ s₂ o, Steps p.tables e below (T.setTop g) s₂ ∧ s₂.status = .running ∧ Ended s₂ below o ∧ P s₂ o
section OwnGo
variable {p : Program} {l : Launch} {e : Env} {R : Room} {s : State} {m : MethodId} {args : Array Value} {below : List Frame} {meth : Method} {c : Code} {T T' : State} {locs : List Loc} {cells slots : Nat} {P : State → Outcome → Prop} {Ls Ls' : Array Slot} {st : List Value} {pc pc' : Nat} {g g' : JFrame}
theorem own_st (h : ∀ t, Steps p.tables e below (T'.setTop g') t → Steps p.tables e below (T.setTop g) t) (k : own_Go p e below P T' g') : own_Go p e below P T g := by
  obtain ⟨s₂, o, h1, h2⟩ := k; exact ⟨s₂, o, h _ h1, h2⟩
theorem own_tr (h : Steps p.tables e below (T.setTop g) (T'.setTop g')) (k : own_Go p e below P T' g') : own_Go p e below P T g := by
  obtain ⟨s₂, o, h1, h2⟩ := k; exact ⟨s₂, o, h.trans h1, h2⟩
theorem own_aloadN (X : Stand p l e R s m args below meth c T locs cells slots) (hx : p.tables.exec = Jvm.exec) {k : Fin 4} {v : Value} (hd : decode c.code pc = .ok (.aload_n k, 1)) (hp : pc + 1 = pc') (hl : Ls[k.val]? = some (.val v)) (hv : v.isRef = true) (h : own_Go p e below P T (mkF m pc' Ls (v :: st))) : own_Go p e below P T (mkF m pc Ls st) := by
  subst hp; exact own_st (fun t k => XS.aloadN X.here hx rfl hd hl hv k) h
theorem own_aload (X : Stand p l e R s m args below meth c T locs cells slots) (hx : p.tables.exec = Jvm.exec) {k : Nat} {v : Value} (hd : decode c.code pc = .ok (.aload k, 2)) (hp : pc + 2 = pc') (hl : Ls[k]? = some (.val v)) (hv : v.isRef = true) (h : own_Go p e below P T (mkF m pc' Ls (v :: st))) : own_Go p e below P T (mkF m pc Ls st) := by
  subst hp; exact own_st (fun t k => XS.aload X.here hx rfl hd hl hv k) h
theorem own_iloadN (X : Stand p l e R s m args below meth c T locs cells slots) (hx : p.tables.exec = Jvm.exec) {k : Fin 4} {v : Int32} (hd : decode c.code pc = .ok (.iload_n k, 1)) (hp : pc + 1 = pc') (hl : Ls[k.val]? = some (.val (.int v))) (h : own_Go p e below P T (mkF m pc' Ls (.int v :: st))) : own_Go p e below P T (mkF m pc Ls st) := by
  subst hp; exact own_st (fun t k => XS.iloadN X.here hx rfl hd hl k) h
theorem own_iload (X : Stand p l e R s m args below meth c T locs cells slots) (hx : p.tables.exec = Jvm.exec) {k : Nat} {v : Int32} (hd : decode c.code pc = .ok (.iload k, 2)) (hp : pc + 2 = pc') (hl : Ls[k]? = some (.val (.int v))) (h : own_Go p e below P T (mkF m pc' Ls (.int v :: st))) : own_Go p e below P T (mkF m pc Ls st) := by
  subst hp; exact own_st (fun t k => XS.iload X.here hx rfl hd hl k) h
theorem own_lloadN (X : Stand p l e R s m args below meth c T locs cells slots) (hx : p.tables.exec = Jvm.exec) {k : Fin 4} {v : Int64} (hd : decode c.code pc = .ok (.lload_n k, 1)) (hp : pc + 1 = pc') (hl : Ls[k.val]? = some (.val (.long v))) (h : own_Go p e below P T (mkF m pc' Ls (.long v :: st))) : own_Go p e below P T (mkF m pc Ls st) := by
  subst hp; exact own_st (fun t k => XT.lloadN X.here hx rfl hd hl k) h
theorem own_lload (X : Stand p l e R s m args below meth c T locs cells slots) (hx : p.tables.exec = Jvm.exec) {k : Nat} {v : Int64} (hd : decode c.code pc = .ok (.lload k, 2)) (hp : pc + 2 = pc') (hl : Ls[k]? = some (.val (.long v))) (h : own_Go p e below P T (mkF m pc' Ls (.long v :: st))) : own_Go p e below P T (mkF m pc Ls st) := by
  subst hp; exact own_st (fun t k => XT.lload X.here hx rfl hd hl k) h
theorem own_iconst (X : Stand p l e R s m args below meth c T locs cells slots) (hx : p.tables.exec = Jvm.exec) {i : Int} (v : Int32) (hd : decode c.code pc = .ok (.iconst i, 1)) (hp : pc + 1 = pc') (hv : Int32.ofInt i = v) (h : own_Go p e below P T (mkF m pc' Ls (.int v :: st))) : own_Go p e below P T (mkF m pc Ls st) := by
  subst hp hv; exact own_st (fun t k => XS.iconst X.here hx rfl hd k) h
theorem own_bipush (X : Stand p l e R s m args below meth c T locs cells slots) (hx : p.tables.exec = Jvm.exec) {i : Int} (v : Int32) (hd : decode c.code pc = .ok (.bipush i, 2)) (hp : pc + 2 = pc') (hv : (Int8.ofInt i).toInt32 = v) (h : own_Go p e below P T (mkF m pc' Ls (.int v :: st))) : own_Go p e below P T (mkF m pc Ls st) := by
  subst hp hv; exact own_st (fun t k => XS.bipush X.here hx rfl hd k) h
theorem own_sipush (X : Stand p l e R s m args below meth c T locs cells slots) (hx : p.tables.exec = Jvm.exec) {i : Int} (v : Int32) (hd : decode c.code pc = .ok (.sipush i, 3)) (hp : pc + 3 = pc') (hv : (Int16.ofInt i).toInt32 = v) (h : own_Go p e below P T (mkF m pc' Ls (.int v :: st))) : own_Go p e below P T (mkF m pc Ls st) := by
  subst hp hv; exact own_st (fun t k => XS.sipush X.here hx rfl hd k) h
theorem own_lconst (X : Stand p l e R s m args below meth c T locs cells slots) (hx : p.tables.exec = Jvm.exec) {i : Fin 2} (v : Int64) (hd : decode c.code pc = .ok (.lconst i, 1)) (hp : pc + 1 = pc') (hv : Int64.ofNat i = v) (h : own_Go p e below P T (mkF m pc' Ls (.long v :: st))) : own_Go p e below P T (mkF m pc Ls st) := by
  subst hp hv; exact own_st (fun t k => XT.lconst X.here hx rfl hd k) h
theorem own_ldcI (X : Stand p l e R s m args below meth c T locs cells slots) (hx : p.tables.exec = Jvm.exec) {own : String} {index : Nat} {v : Int32} (hown : s.vm.findClass own = some m.cls) (hc : (Cond.constant own index v).before args s = true) (hd : decode c.code pc = .ok (.ldc index, 2)) (hp : pc + 2 = pc') (h : own_Go p e below P T (mkF m pc' Ls (.int v :: st))) : own_Go p e below P T (mkF m pc Ls st) := by
  subst hp; exact own_st (fun t k => X.ldcI hx hown hc rfl hd k) h
theorem own_ldcJ (X : Stand p l e R s m args below meth c T locs cells slots) (hx : p.tables.exec = Jvm.exec) {own : String} {index : Nat} {v : Int64} (hown : s.vm.findClass own = some m.cls) (hc : (Cond.constantLong own index v).before args s = true) (hd : decode c.code pc = .ok (.ldc2_w index, 3)) (hp : pc + 3 = pc') (h : own_Go p e below P T (mkF m pc' Ls (.long v :: st))) : own_Go p e below P T (mkF m pc Ls st) := by
  subst hp; exact own_st (fun t k => X.ldc2J hx hown hc rfl hd k) h
theorem own_null (X : Stand p l e R s m args below meth c T locs cells slots) (hx : p.tables.exec = Jvm.exec) (hd : decode c.code pc = .ok (.aconst_null, 1)) (hp : pc + 1 = pc') (h : own_Go p e below P T (mkF m pc' Ls (.null :: st))) : own_Go p e below P T (mkF m pc Ls st) := by
  subst hp; exact own_st (fun t k => XS.aconstNull X.here hx rfl hd k) h
theorem own_iadd (X : Stand p l e R s m args below meth c T locs cells slots) (hx : p.tables.exec = Jvm.exec) {x y : Int32} (hd : decode c.code pc = .ok (.iadd, 1)) (hp : pc + 1 = pc') (h : own_Go p e below P T (mkF m pc' Ls (.int (x + y) :: st))) : own_Go p e below P T (mkF m pc Ls (.int y :: .int x :: st)) := by
  subst hp; exact own_st (fun t k => XS.iadd X.here hx rfl hd rfl k) h
theorem own_isub (X : Stand p l e R s m args below meth c T locs cells slots) (hx : p.tables.exec = Jvm.exec) {x y : Int32} (hd : decode c.code pc = .ok (.isub, 1)) (hp : pc + 1 = pc') (h : own_Go p e below P T (mkF m pc' Ls (.int (x - y) :: st))) : own_Go p e below P T (mkF m pc Ls (.int y :: .int x :: st)) := by
  subst hp; exact own_st (fun t k => XS.isub X.here hx rfl hd rfl k) h
theorem own_iand (X : Stand p l e R s m args below meth c T locs cells slots) (hx : p.tables.exec = Jvm.exec) {x y : Int32} (hd : decode c.code pc = .ok (.iand, 1)) (hp : pc + 1 = pc') (h : own_Go p e below P T (mkF m pc' Ls (.int (x &&& y) :: st))) : own_Go p e below P T (mkF m pc Ls (.int y :: .int x :: st)) := by
  subst hp; exact own_st (fun t k => XS.iand X.here hx rfl hd rfl k) h
theorem own_imul (X : Stand p l e R s m args below meth c T locs cells slots) (hx : p.tables.exec = Jvm.exec) {x y : Int32} (hd : decode c.code pc = .ok (.imul, 1)) (hp : pc + 1 = pc') (h : own_Go p e below P T (mkF m pc' Ls (.int (x * y) :: st))) : own_Go p e below P T (mkF m pc Ls (.int y :: .int x :: st)) := by
  subst hp; exact own_st (fun t k => XS.imul X.here hx rfl hd rfl k) h
theorem own_irem (X : Stand p l e R s m args below meth c T locs cells slots) (hx : p.tables.exec = Jvm.exec) {x y : Int32} (hd : decode c.code pc = .ok (.irem, 1)) (hp : pc + 1 = pc') (hy : y ≠ 0) (h : own_Go p e below P T (mkF m pc' Ls (.int (x % y) :: st))) : own_Go p e below P T (mkF m pc Ls (.int y :: .int x :: st)) := by
  subst hp; exact own_st (fun t k => iremM X hx rfl hd rfl hy k) h
theorem own_ishr (X : Stand p l e R s m args below meth c T locs cells slots) (hx : p.tables.exec = Jvm.exec) {x y : Int32} (hd : decode c.code pc = .ok (.ishr, 1)) (hp : pc + 1 = pc') (h : own_Go p e below P T (mkF m pc' Ls (.int (x >>> (y &&& 31)) :: st))) : own_Go p e below P T (mkF m pc Ls (.int y :: .int x :: st)) := by
  subst hp; exact own_st (fun t k => XT.ishr X.here hx rfl hd rfl k) h
theorem own_iushr (X : Stand p l e R s m args below meth c T locs cells slots) (hx : p.tables.exec = Jvm.exec) {x y : Int32} (hd : decode c.code pc = .ok (.iushr, 1)) (hp : pc + 1 = pc') (h : own_Go p e below P T (mkF m pc' Ls (.int (XT.ushr x y) :: st))) : own_Go p e below P T (mkF m pc Ls (.int y :: .int x :: st)) := by
  subst hp; exact own_st (fun t k => XT.iushr X.here hx rfl hd rfl k) h
theorem own_i2b (X : Stand p l e R s m args below meth c T locs cells slots) (hx : p.tables.exec = Jvm.exec) {x : Int32} (hd : decode c.code pc = .ok (.i2b, 1)) (hp : pc + 1 = pc') (h : own_Go p e below P T (mkF m pc' Ls (.int (nar .byte x) :: st))) : own_Go p e below P T (mkF m pc Ls (.int x :: st)) := by
  subst hp; exact own_st (fun t k => XT.i2b X.here hx rfl hd rfl k) h
theorem own_i2c (X : Stand p l e R s m args below meth c T locs cells slots) (hx : p.tables.exec = Jvm.exec) {x : Int32} (hd : decode c.code pc = .ok (.i2c, 1)) (hp : pc + 1 = pc') (h : own_Go p e below P T (mkF m pc' Ls (.int (nar .char x) :: st))) : own_Go p e below P T (mkF m pc Ls (.int x :: st)) := by
  subst hp; exact own_st (fun t k => XT.i2c X.here hx rfl hd rfl k) h
theorem own_i2l (X : Stand p l e R s m args below meth c T locs cells slots) (hx : p.tables.exec = Jvm.exec) {x : Int32} (hd : decode c.code pc = .ok (.i2l, 1)) (hp : pc + 1 = pc') (h : own_Go p e below P T (mkF m pc' Ls (.long x.toInt64 :: st))) : own_Go p e below P T (mkF m pc Ls (.int x :: st)) := by
  subst hp; exact own_st (fun t k => XT.i2l X.here hx rfl hd rfl k) h
theorem own_l2i (X : Stand p l e R s m args below meth c T locs cells slots) (hx : p.tables.exec = Jvm.exec) {x : Int64} (hd : decode c.code pc = .ok (.l2i, 1)) (hp : pc + 1 = pc') (h : own_Go p e below P T (mkF m pc' Ls (.int x.toInt32 :: st))) : own_Go p e below P T (mkF m pc Ls (.long x :: st)) := by
  subst hp; exact own_st (fun t k => XT.l2i X.here hx rfl hd rfl k) h
theorem own_lushr (X : Stand p l e R s m args below meth c T locs cells slots) (hx : p.tables.exec = Jvm.exec) {x : Int64} {y : Int32} (hd : decode c.code pc = .ok (.lushr, 1)) (hp : pc + 1 = pc') (h : own_Go p e below P T (mkF m pc' Ls (.long (XT.ushrL x y) :: st))) : own_Go p e below P T (mkF m pc Ls (.int y :: .long x :: st)) := by
  subst hp; exact own_st (fun t k => XT.lushr X.here hx rfl hd rfl k) h
theorem own_lcmp (X : Stand p l e R s m args below meth c T locs cells slots) (hx : p.tables.exec = Jvm.exec) {x y : Int64} (hd : decode c.code pc = .ok (.lcmp, 1)) (hp : pc + 1 = pc') (h : own_Go p e below P T (mkF m pc' Ls (.int (XT.cmpL x y) :: st))) : own_Go p e below P T (mkF m pc Ls (.long y :: .long x :: st)) := by
  subst hp; exact own_st (fun t k => XT.lcmp X.here hx rfl hd rfl k) h
theorem own_dup (X : Stand p l e R s m args below meth c T locs cells slots) (hx : p.tables.exec = Jvm.exec) {x : Value} (hd : decode c.code pc = .ok (.dup, 1)) (hp : pc + 1 = pc') (hc : x.category = 1) (h : own_Go p e below P T (mkF m pc' Ls (x :: x :: st))) : own_Go p e below P T (mkF m pc Ls (x :: st)) := by
  subst hp; exact own_st (fun t k => XS.dup X.here hx rfl hd rfl hc k) h
theorem own_dupX1 (X : Stand p l e R s m args below meth c T locs cells slots) (hx : p.tables.exec = Jvm.exec) {x y : Value} (hd : decode c.code pc = .ok (.dup_x1, 1)) (hp : pc + 1 = pc') (hc : x.category = 1) (hc' : y.category = 1) (h : own_Go p e below P T (mkF m pc' Ls (x :: y :: x :: st))) : own_Go p e below P T (mkF m pc Ls (x :: y :: st)) := by
  subst hp; exact own_st (fun t k => XT.dupX1 X.here hx rfl hd rfl hc hc' k) h
theorem own_pop (X : Stand p l e R s m args below meth c T locs cells slots) (hx : p.tables.exec = Jvm.exec) {x : Value} (hd : decode c.code pc = .ok (.pop, 1)) (hp : pc + 1 = pc') (hc : x.category = 1) (h : own_Go p e below P T (mkF m pc' Ls st)) : own_Go p e below P T (mkF m pc Ls (x :: st)) := by
  subst hp; exact own_st (fun t k => XT.pop X.here hx rfl hd rfl hc k) h
theorem own_istoreN (X : Stand p l e R s m args below meth c T locs cells slots) (hx : p.tables.exec = Jvm.exec) {k : Fin 4} {x : Int32} (hd : decode c.code pc = .ok (.istore_n k, 1)) (hp : pc + 1 = pc') (hl : storeLocals Ls k.val (.int x) = some Ls') (h : own_Go p e below P T (mkF m pc' Ls' st)) : own_Go p e below P T (mkF m pc Ls (.int x :: st)) := by
  subst hp; exact own_st (fun t k => XS.istoreN X.here hx rfl hd rfl hl k) h
theorem own_istore (X : Stand p l e R s m args below meth c T locs cells slots) (hx : p.tables.exec = Jvm.exec) {k : Nat} {x : Int32} (hd : decode c.code pc = .ok (.istore k, 2)) (hp : pc + 2 = pc') (hl : storeLocals Ls k (.int x) = some Ls') (h : own_Go p e below P T (mkF m pc' Ls' st)) : own_Go p e below P T (mkF m pc Ls (.int x :: st)) := by
  subst hp; exact own_st (fun t k => XS.istore X.here hx rfl hd rfl hl k) h
theorem own_lstoreN (X : Stand p l e R s m args below meth c T locs cells slots) (hx : p.tables.exec = Jvm.exec) {k : Fin 4} {x : Int64} (hd : decode c.code pc = .ok (.lstore_n k, 1)) (hp : pc + 1 = pc') (hl : storeLocals Ls k.val (.long x) = some Ls') (h : own_Go p e below P T (mkF m pc' Ls' st)) : own_Go p e below P T (mkF m pc Ls (.long x :: st)) := by
  subst hp; exact own_st (fun t k => XT.lstoreN X.here hx rfl hd rfl hl k) h
theorem own_lstore (X : Stand p l e R s m args below meth c T locs cells slots) (hx : p.tables.exec = Jvm.exec) {k : Nat} {x : Int64} (hd : decode c.code pc = .ok (.lstore k, 2)) (hp : pc + 2 = pc') (hl : storeLocals Ls k (.long x) = some Ls') (h : own_Go p e below P T (mkF m pc' Ls' st)) : own_Go p e below P T (mkF m pc Ls (.long x :: st)) := by
  subst hp; exact own_st (fun t k => XT.lstore X.here hx rfl hd rfl hl k) h
theorem own_astoreN (X : Stand p l e R s m args below meth c T locs cells slots) (hx : p.tables.exec = Jvm.exec) {k : Fin 4} {x : Value} (hd : decode c.code pc = .ok (.astore_n k, 1)) (hp : pc + 1 = pc') (hv : x.isRef = true) (hl : storeLocals Ls k.val x = some Ls') (h : own_Go p e below P T (mkF m pc' Ls' st)) : own_Go p e below P T (mkF m pc Ls (x :: st)) := by
  subst hp; exact own_st (fun t k => XS.astoreN X.here hx rfl hd rfl hv hl k) h
theorem own_astore (X : Stand p l e R s m args below meth c T locs cells slots) (hx : p.tables.exec = Jvm.exec) {k : Nat} {x : Value} (hd : decode c.code pc = .ok (.astore k, 2)) (hp : pc + 2 = pc') (hv : x.isRef = true) (hl : storeLocals Ls k x = some Ls') (h : own_Go p e below P T (mkF m pc' Ls' st)) : own_Go p e below P T (mkF m pc Ls (x :: st)) := by
  subst hp; exact own_st (fun t k => XS.astore X.here hx rfl hd rfl hv hl k) h
theorem own_goto (X : Stand p l e R s m args below meth c T locs cells slots) (hx : p.tables.exec = Jvm.exec) {o : Int} (hd : decode c.code pc = .ok (.goto o, 3)) (ho : 0 ≤ (pc : Int) + o) (hp : ((pc : Int) + o).toNat = pc') (h : own_Go p e below P T (mkF m pc' Ls st)) : own_Go p e below P T (mkF m pc Ls st) := by
  exact own_st (fun t k => XS.goto X.here hx rfl (pc0 := pc) rfl hd ho hp k) h
theorem own_ifY (X : Stand p l e R s m args below meth c T locs cells slots) (hx : p.tables.exec = Jvm.exec) {cd : ClassFile.Cond} {x : Int32} {o : Int} (hd : decode c.code pc = .ok (.ifCond cd o, 3)) (hc : ifCond.holds cd x = true) (ho : 0 ≤ (pc : Int) + o) (hp : ((pc : Int) + o).toNat = pc') (h : own_Go p e below P T (mkF m pc' Ls st)) : own_Go p e below P T (mkF m pc Ls (.int x :: st)) := by
  exact own_st (fun t k => XS.ifYes X.here hx rfl (pc0 := pc) rfl hd rfl hc ho hp k) h
theorem own_ifN (X : Stand p l e R s m args below meth c T locs cells slots) (hx : p.tables.exec = Jvm.exec) {cd : ClassFile.Cond} {x : Int32} {o : Int} (hd : decode c.code pc = .ok (.ifCond cd o, 3)) (hc : ifCond.holds cd x = false) (hp : pc + 3 = pc') (h : own_Go p e below P T (mkF m pc' Ls st)) : own_Go p e below P T (mkF m pc Ls (.int x :: st)) := by
  subst hp; exact own_st (fun t k => XS.ifNo X.here hx rfl hd rfl hc k) h
theorem own_icmpY (X : Stand p l e R s m args below meth c T locs cells slots) (hx : p.tables.exec = Jvm.exec) {cd : ClassFile.Cond} {x y : Int32} {o : Int} (hd : decode c.code pc = .ok (.if_icmp cd o, 3)) (hc : if_icmp.holds cd x y = true) (ho : 0 ≤ (pc : Int) + o) (hp : ((pc : Int) + o).toNat = pc') (h : own_Go p e below P T (mkF m pc' Ls st)) : own_Go p e below P T (mkF m pc Ls (.int y :: .int x :: st)) := by
  exact own_st (fun t k => XS.icmpYes X.here hx rfl (pc0 := pc) rfl hd rfl hc ho hp k) h
theorem own_icmpN (X : Stand p l e R s m args below meth c T locs cells slots) (hx : p.tables.exec = Jvm.exec) {cd : ClassFile.Cond} {x y : Int32} {o : Int} (hd : decode c.code pc = .ok (.if_icmp cd o, 3)) (hc : if_icmp.holds cd x y = false) (hp : pc + 3 = pc') (h : own_Go p e below P T (mkF m pc' Ls st)) : own_Go p e below P T (mkF m pc Ls (.int y :: .int x :: st)) := by
  subst hp; exact own_st (fun t k => XS.icmpNo X.here hx rfl hd rfl hc k) h
theorem own_ifnullY (X : Stand p l e R s m args below meth c T locs cells slots) (hx : p.tables.exec = Jvm.exec) {o : Int} (hd : decode c.code pc = .ok (.ifnull o, 3)) (ho : 0 ≤ (pc : Int) + o) (hp : ((pc : Int) + o).toNat = pc') (h : own_Go p e below P T (mkF m pc' Ls st)) : own_Go p e below P T (mkF m pc Ls (.null :: st)) := by
  exact own_st (fun t k => XS.ifnullYes X.here hx rfl (pc0 := pc) rfl hd rfl ho hp k) h
theorem own_ifnullN (X : Stand p l e R s m args below meth c T locs cells slots) (hx : p.tables.exec = Jvm.exec) {a : Addr} {o : Int} (hd : decode c.code pc = .ok (.ifnull o, 3)) (hp : pc + 3 = pc') (h : own_Go p e below P T (mkF m pc' Ls st)) : own_Go p e below P T (mkF m pc Ls (.ref a :: st)) := by
  subst hp; exact own_st (fun t k => XS.ifnullNo X.here hx rfl hd rfl k) h
theorem own_ifnonnullY (X : Stand p l e R s m args below meth c T locs cells slots) (hx : p.tables.exec = Jvm.exec) {a : Addr} {o : Int} (hd : decode c.code pc = .ok (.ifnonnull o, 3)) (ho : 0 ≤ (pc : Int) + o) (hp : ((pc : Int) + o).toNat = pc') (h : own_Go p e below P T (mkF m pc' Ls st)) : own_Go p e below P T (mkF m pc Ls (.ref a :: st)) := by
  exact own_st (fun t k => XT.ifnonnullYes X.here hx rfl (pc0 := pc) rfl hd rfl ho hp k) h
theorem own_ifnonnullN (X : Stand p l e R s m args below meth c T locs cells slots) (hx : p.tables.exec = Jvm.exec) {o : Int} (hd : decode c.code pc = .ok (.ifnonnull o, 3)) (hp : pc + 3 = pc') (h : own_Go p e below P T (mkF m pc' Ls st)) : own_Go p e below P T (mkF m pc Ls (.null :: st)) := by
  subst hp; exact own_st (fun t k => XT.ifnonnullNo X.here hx rfl hd rfl k) h
theorem own_acmpY (X : Stand p l e R s m args below meth c T locs cells slots) (hx : p.tables.exec = Jvm.exec) {cd : ACond} {x y : Value} {o : Int} (h1 : x.isRef = true) (h2 : y.isRef = true) (hd : decode c.code pc = .ok (.if_acmp cd o, 3)) (hc : XT.acmp cd x y = true) (ho : 0 ≤ (pc : Int) + o) (hp : ((pc : Int) + o).toNat = pc') (h : own_Go p e below P T (mkF m pc' Ls st)) : own_Go p e below P T (mkF m pc Ls (y :: x :: st)) := by
  exact own_st (fun t k => XT.acmpYes X.here hx rfl (pc0 := pc) rfl hd rfl h1 h2 hc ho hp k) h
theorem own_acmpN (X : Stand p l e R s m args below meth c T locs cells slots) (hx : p.tables.exec = Jvm.exec) {cd : ACond} {x y : Value} {o : Int} (h1 : x.isRef = true) (h2 : y.isRef = true) (hd : decode c.code pc = .ok (.if_acmp cd o, 3)) (hc : XT.acmp cd x y = false) (hp : pc + 3 = pc') (h : own_Go p e below P T (mkF m pc' Ls st)) : own_Go p e below P T (mkF m pc Ls (y :: x :: st)) := by
  subst hp; exact own_st (fun t k => XT.acmpNo X.here hx rfl hd rfl h1 h2 hc k) h
theorem own_cut (h1 : own_Go p e below P T g' → own_Go p e below P T g) (h2 : own_Go p e below P T g') : own_Go p e below P T g := h1 h2
theorem own_iinc (X : Stand p l e R s m args below meth c T locs cells slots) (hx : p.tables.exec = Jvm.exec) {k : Nat} {cst : Int} {x : Int32} (v : Int32) (hd : decode c.code pc = .ok (.iinc k cst, 3)) (hp : pc + 3 = pc') (hl : Ls[k]? = some (.val (.int x))) (hv : x + Int32.ofInt cst = v) (hs : storeLocals Ls k (.int v) = some Ls') (h : own_Go p e below P T (mkF m pc' Ls' st)) : own_Go p e below P T (mkF m pc Ls st) := by
  subst hp hv; exact own_st (fun t k => XS.iinc X.here hx rfl hd hl hs k) h
theorem own_stv {Ls : Array Slot} {k : Nat} {v : Value} {o : Slot} (hv : v.isRef = true) (hold : Ls[k]? = some o) (ho : o = .unset ∨ ∃ w, o = .val w ∧ w.category = 1) : storeLocals Ls k v = some (Ls.setIfInBounds k (.val v)) := XS.store1 hold ho (XT.cat1 hv)
abbrev own_End (s : State) (Q : Option Value → Heap → List Loc → Prop) (k n : Nat) : State → Outcome → Prop := fun u o => ∃ v L, o = .returned v ∧ Q v u.heap L ∧ FrameEnd s o u L k n
variable {Q : Option Value → Heap → List Loc → Prop} {ck sn : Nat}
theorem own_retZ (X : Stand p l e R s m args below meth c T locs cells slots) (hx : p.tables.exec = Jvm.exec) (hk : meth.locks = false) {t : FieldType} (hret : meth.sig.returnType = some t) (ht : t = .boolean ∨ t = .byte ∨ t = .char ∨ t = .short) {z : Int32} (hd : decode c.code pc = .ok (.ireturn, 1)) (hc : cells ≤ ck) (hs : slots ≤ sn) (hQ : Q (some (.int (nar t z))) T.heap locs) :
    own_Go p e below (own_End s Q ck sn) T (mkF m pc Ls (.int z :: st)) := by
  obtain ⟨fs, hr, hrun, hended, hW, hsame⟩ := X.leave (v := some (.int (nar t z))) (fun h => by rw [hret] at h; cases h) hk
  exact ⟨_, _, retN X hx hret ht hd hr, hrun, hended, _, _, rfl, hQ, ⟨_, rfl⟩, hW, hsame.mono hc hs⟩
theorem own_retI (X : Stand p l e R s m args below meth c T locs cells slots) (hx : p.tables.exec = Jvm.exec) (hk : meth.locks = false) (hret : meth.sig.returnType = some .int) {z : Int32} (hd : decode c.code pc = .ok (.ireturn, 1)) (hc : cells ≤ ck) (hs : slots ≤ sn) (hQ : Q (some (.int z)) T.heap locs) :
    own_Go p e below (own_End s Q ck sn) T (mkF m pc Ls (.int z :: st)) := by
  obtain ⟨fs, hr, hrun, hended, hW, hsame⟩ := X.leave (v := some (.int z)) (fun h => by rw [hret] at h; cases h) hk
  exact ⟨_, _, retOut X hx hret rfl (Or.inl ⟨rfl, Or.inl rfl, z, rfl⟩) hd hr, hrun, hended, _, _, rfl, hQ, ⟨_, rfl⟩, hW, hsame.mono hc hs⟩
theorem own_retL (X : Stand p l e R s m args below meth c T locs cells slots) (hx : p.tables.exec = Jvm.exec) (hk : meth.locks = false) (hret : meth.sig.returnType = some .long) {z : Int64} (hd : decode c.code pc = .ok (.lreturn, 1)) (hc : cells ≤ ck) (hs : slots ≤ sn) (hQ : Q (some (.long z)) T.heap locs) :
    own_Go p e below (own_End s Q ck sn) T (mkF m pc Ls (.long z :: st)) := by
  obtain ⟨fs, hr, hrun, hended, hW, hsame⟩ := X.leave (v := some (.long z)) (fun h => by rw [hret] at h; cases h) hk
  exact ⟨_, _, retOut X hx hret rfl (Or.inr (Or.inl ⟨rfl, rfl, z, rfl⟩)) hd hr, hrun, hended, _, _, rfl, hQ, ⟨_, rfl⟩, hW, hsame.mono hc hs⟩
theorem own_narR {t : FieldType} {w : Value} (ht : t.isReference = true) (hw : w.isRef = true) : narrow t w = w := by
  rcases ref_cases hw with rfl | ⟨a, rfl⟩ <;> cases t <;> first | rfl | (cases ht; done)
theorem own_retA (X : Stand p l e R s m args below meth c T locs cells slots) (hx : p.tables.exec = Jvm.exec) (hk : meth.locks = false) {t : FieldType} (hret : meth.sig.returnType = some t) (ht : t.isReference = true) {w : Value} (hw : w.isRef = true) (hd : decode c.code pc = .ok (.areturn, 1)) (hc : cells ≤ ck) (hs : slots ≤ sn) (hQ : Q (some w) T.heap locs) :
    own_Go p e below (own_End s Q ck sn) T (mkF m pc Ls (w :: st)) := by
  obtain ⟨fs, hr, hrun, hended, hW, hsame⟩ := X.leave (v := some w) (fun h => by rw [hret] at h; cases h) hk
  exact ⟨_, _, retOut X hx hret (own_narR ht hw) (Or.inr (Or.inr (Or.inr (Or.inr ⟨rfl, ht, hw⟩)))) hd hr, hrun, hended, _, _, rfl, hQ, ⟨_, rfl⟩, hW, hsame.mono hc hs⟩
theorem own_retV (X : Stand p l e R s m args below meth c T locs cells slots) (hx : p.tables.exec = Jvm.exec) (hk : meth.locks = false) (hret : meth.sig.returnType = none) (hd : decode c.code pc = .ok (.return_, 1)) (hc : cells ≤ ck) (hs : slots ≤ sn) (hQ : Q none T.heap locs) :
    own_Go p e below (own_End s Q ck sn) T (mkF m pc Ls []) := by
  obtain ⟨fs, hr, hrun, hended, hW, hsame⟩ := X.leave (v := none) (fun _ => rfl) hk
  exact ⟨_, _, X.returnOut hx hret hd hr, hrun, hended, _, _, rfl, hQ, ⟨_, rfl⟩, hW, hsame.mono hc hs⟩
end OwnGo
section OwnArr
variable {p : Program} {l : Launch} {e : Env} {R : Room} {s : State} {m : MethodId} {args : Array Value} {below : List Frame} {meth : Method} {c : Code} {T : State} {locs : List Loc} {cells slots : Nat} {P : State → Outcome → Prop} {Ls : Array Slot} {st : List Value} {pc pc' : Nat} {Z : State} {h : Heap} {a : Addr} {k : ClassId} {ty : FieldType} {n j : Int32} {vs : List Value} {dv : Value}
theorem own_alen (X : Stand p l e R s m args below meth c T locs cells slots) (hx : p.tables.exec = Jvm.exec) (hZ : Z.Warmed39 s.vm) (eT : T.heap = h) (V : Arv Z h a k ty n vs dv) (hd : decode c.code pc = .ok (.arraylength, 1)) (hp : pc + 1 = pc') (hk : own_Go p e below P T (mkF m pc' Ls (.int n :: st))) : own_Go p e below P T (mkF m pc Ls (.ref a :: st)) := by
  subst hp
  obtain ⟨cl, A, -, S, q, -, -⟩ := V
  have w := X.arraylength hx (by rw [eT]; exact A.1) (State.isArrayOf_alike hZ.alike A.2.1) (g := mkF m pc Ls (.ref a :: st)) rfl rfl hd
  rw [len_of S q] at w
  exact own_st w hk
theorem own_baload (X : Stand p l e R s m args below meth c T locs cells slots) (hx : p.tables.exec = Jvm.exec) (hZ : Z.Warmed39 s.vm) (eT : T.heap = h) (V : Arv Z h a k .byte n vs dv) {x : Int32} (hj : ¬ j < 0 ∧ j < n) (hv : vs.getD j.toNatClampNeg dv = .int x) (hd : decode c.code pc = .ok (.baload, 1)) (hp : pc + 1 = pc') (hk : own_Go p e below P T (mkF m pc' Ls (.int x :: st))) : own_Go p e below P T (mkF m pc Ls (.int j :: .ref a :: st)) := by
  subst hp
  obtain ⟨cl, A, -, S, q, H, -⟩ := V
  exact own_st (X.baloadBytes hx (j := j) (v := .int x) (by rw [eT]; exact A.1) (State.isArrayOf_alike hZ.alike A.2.1) A.2.2 (inb_of S hj) (H.at (inb_of S hj) hv) (g := mkF m pc Ls (.int j :: .ref a :: st)) rfl rfl hd) hk
theorem own_aaload (X : Stand p l e R s m args below meth c T locs cells slots) (hx : p.tables.exec = Jvm.exec) (hZ : Z.Warmed39 s.vm) (eT : T.heap = h) (V : Arv Z h a k ty n vs dv) (ht : ty.isReference = true) {x : Value} (hj : ¬ j < 0 ∧ j < n) (hv : vs.getD j.toNatClampNeg dv = x) (hd : decode c.code pc = .ok (.aaload, 1)) (hp : pc + 1 = pc') (hk : own_Go p e below P T (mkF m pc' Ls (x :: st))) : own_Go p e below P T (mkF m pc Ls (.int j :: .ref a :: st)) := by
  subst hp
  obtain ⟨cl, A, -, S, q, H, -⟩ := V
  exact own_st (X.aaload hx (j := j) (v := x) (by rw [eT]; exact A.1) (State.isArrayOf_alike hZ.alike A.2.1) ht A.2.2 (inb_of S hj) (H.at (inb_of S hj) hv) (g := mkF m pc Ls (.int j :: .ref a :: st)) rfl rfl hd) hk
/-- a byte stored: the list with that place set -/
theorem own_bastore (X : Stand p l e R s m args below meth c T locs cells slots) (hx : p.tables.exec = Jvm.exec) (hZ : Z.Warmed39 s.vm) (eT : T.heap = h) (V : Arv Z h a k .byte n vs dv) (i : Nat) {x : Int32} (hj : ¬ j < 0 ∧ j < n) (hi : j.toNatClampNeg = i) (hl : i < vs.length) (hd : decode c.code pc = .ok (.bastore, 1)) :
    ∃ T' h', Stand p l e R s m args below meth c T' (locs ++ [⟨a, j.toNatClampNeg⟩]) cells slots ∧ T'.heap = h' ∧ Wr h h' a j.toNatClampNeg (.int (nar .byte x)) ∧ Arv Z h' a k .byte n (vs.set i (.int (nar .byte x))) dv ∧ ∀ target, Steps p.tables e below (T'.setTop (mkF m (pc + 1) Ls st)) target → Steps p.tables e below (T.setTop (mkF m pc Ls (.int x :: .int j :: .ref a :: st))) target := by
  obtain ⟨cl, A, q1, S, q, H, G⟩ := V
  obtain ⟨T', h', X', e', W, st'⟩ := stB X hx hZ eT A (j := j) (x := x) (inb_of S hj) (g := mkF m pc Ls (.int x :: .int j :: .ref a :: st)) rfl rfl hd
  exact ⟨T', h', X', e', W, Arv.set A q1 S q H G (fits_nar_byte x) W i hi hl, st'⟩
end OwnArr
section OwnDbl
variable {p : Program} {l : Launch} {e : Env} {R : Room} {s : State} {m : MethodId} {args : Array Value} {below : List Frame} {meth : Method} {c : Code} {T : State} {locs : List Loc} {cells slots : Nat} {P : State → Outcome → Prop} {Ls Ls' : Array Slot} {st : List Value} {pc pc' : Nat} {Q : Option Value → Heap → List Loc → Prop} {ck sn : Nat}
theorem own_ladd (X : Stand p l e R s m args below meth c T locs cells slots) (hx : p.tables.exec = Jvm.exec) {x y : Int64} (hd : decode c.code pc = .ok (.ladd, 1)) (hp : pc + 1 = pc') (h : own_Go p e below P T (mkF m pc' Ls (.long (x + y) :: st))) : own_Go p e below P T (mkF m pc Ls (.long y :: .long x :: st)) := by
  subst hp; exact own_st (fun t k => XT.ladd X.here hx rfl hd rfl k) h
theorem own_lmul (X : Stand p l e R s m args below meth c T locs cells slots) (hx : p.tables.exec = Jvm.exec) {x y : Int64} (hd : decode c.code pc = .ok (.lmul, 1)) (hp : pc + 1 = pc') (h : own_Go p e below P T (mkF m pc' Ls (.long (x * y) :: st))) : own_Go p e below P T (mkF m pc Ls (.long y :: .long x :: st)) := by
  subst hp; exact own_st (fun t k => XT.lmul X.here hx rfl hd rfl k) h
theorem own_land (X : Stand p l e R s m args below meth c T locs cells slots) (hx : p.tables.exec = Jvm.exec) {x y : Int64} (hd : decode c.code pc = .ok (.land, 1)) (hp : pc + 1 = pc') (h : own_Go p e below P T (mkF m pc' Ls (.long (x &&& y) :: st))) : own_Go p e below P T (mkF m pc Ls (.long y :: .long x :: st)) := by
  subst hp; exact own_st (fun t k => XT.land X.here hx rfl hd rfl k) h
theorem own_lrem (X : Stand p l e R s m args below meth c T locs cells slots) (hx : p.tables.exec = Jvm.exec) {x y : Int64} (hd : decode c.code pc = .ok (.lrem, 1)) (hp : pc + 1 = pc') (hy : y ≠ 0) (h : own_Go p e below P T (mkF m pc' Ls (.long (x - (x / y) * y) :: st))) : own_Go p e below P T (mkF m pc Ls (.long y :: .long x :: st)) := by
  subst hp; exact own_st (fun t k => XT.lrem X.here hx rfl hd rfl hy k) h
theorem own_l2d (X : Stand p l e R s m args below meth c T locs cells slots) (hx : p.tables.exec = Jvm.exec) {x : Int64} (hd : decode c.code pc = .ok (.l2d, 1)) (hp : pc + 1 = pc') (h : own_Go p e below P T (mkF m pc' Ls (.double (FP.l2d x) :: st))) : own_Go p e below P T (mkF m pc Ls (.long x :: st)) := by
  subst hp; exact own_st (fun t k => XS.l2dS X.here hx rfl hd rfl rfl k) h
theorem own_i2d (X : Stand p l e R s m args below meth c T locs cells slots) (hx : p.tables.exec = Jvm.exec) {x : Int32} (hd : decode c.code pc = .ok (.i2d, 1)) (hp : pc + 1 = pc') (h : own_Go p e below P T (mkF m pc' Ls (.double (FP.l2d x.toInt64) :: st))) : own_Go p e below P T (mkF m pc Ls (.int x :: st)) := by
  subst hp; exact own_st (fun t k => XS.i2dS X.here hx rfl hd rfl (i2d_w x) k) h
theorem own_ddiv (X : Stand p l e R s m args below meth c T locs cells slots) (hx : p.tables.exec = Jvm.exec) {x y : UInt64} (hd : decode c.code pc = .ok (.ddiv, 1)) (hp : pc + 1 = pc') (hn : Jvm.Free.Fl.NoNaN64 (FP.ddiv x y)) (h : own_Go p e below P T (mkF m pc' Ls (.double (FP.ddiv x y) :: st))) : own_Go p e below P T (mkF m pc Ls (.double y :: .double x :: st)) := by
  subst hp; exact own_st (fun t k => XS.ddivS X.here hx rfl hd rfl hn rfl k) h
theorem own_dmul (X : Stand p l e R s m args below meth c T locs cells slots) (hx : p.tables.exec = Jvm.exec) {x y : UInt64} (hd : decode c.code pc = .ok (.dmul, 1)) (hp : pc + 1 = pc') (hn : Jvm.Free.Fl.NoNaN64 (FP.dmul x y)) (h : own_Go p e below P T (mkF m pc' Ls (.double (FP.dmul x y) :: st))) : own_Go p e below P T (mkF m pc Ls (.double y :: .double x :: st)) := by
  subst hp; exact own_st (fun t k => XS.dmulS X.here hx rfl hd rfl hn rfl k) h
theorem own_dadd (X : Stand p l e R s m args below meth c T locs cells slots) (hx : p.tables.exec = Jvm.exec) {x y : UInt64} (hd : decode c.code pc = .ok (.dadd, 1)) (hp : pc + 1 = pc') (hn : Jvm.Free.Fl.NoNaN64 (FP.dadd x y)) (h : own_Go p e below P T (mkF m pc' Ls (.double (FP.dadd x y) :: st))) : own_Go p e below P T (mkF m pc Ls (.double y :: .double x :: st)) := by
  subst hp; exact own_st (fun t k => XS.daddS X.here hx rfl hd rfl hn rfl k) h
theorem own_dcmp (X : Stand p l e R s m args below meth c T locs cells slots) (hx : p.tables.exec = Jvm.exec) {o : CmpOp} {x y : UInt64} (v : Int32) (hv : cmpValue (FP.dcmp x y) o = v) (hd : decode c.code pc = .ok (.dcmp o, 1)) (hp : pc + 1 = pc') (h : own_Go p e below P T (mkF m pc' Ls (.int v :: st))) : own_Go p e below P T (mkF m pc Ls (.double y :: .double x :: st)) := by
  subst hp; exact own_st (fun t k => XS.dcmpS X.here hx rfl hd rfl hv k) h
theorem own_dconst (X : Stand p l e R s m args below meth c T locs cells slots) (hx : p.tables.exec = Jvm.exec) (hd : decode c.code pc = .ok (.dconst 0, 1)) (hp : pc + 1 = pc') (h : own_Go p e below P T (mkF m pc' Ls (.double (FP.l2d 0) :: st))) : own_Go p e below P T (mkF m pc Ls st) := by
  subst hp; exact own_st (fun t k => XS.dconst0 X.here hx rfl hd (by decide +kernel) k) h
theorem own_dload (X : Stand p l e R s m args below meth c T locs cells slots) (hx : p.tables.exec = Jvm.exec) {k : Nat} {v : UInt64} (hd : decode c.code pc = .ok (.dload k, 2)) (hp : pc + 2 = pc') (hl : Ls[k]? = some (.val (.double v))) (h : own_Go p e below P T (mkF m pc' Ls (.double v :: st))) : own_Go p e below P T (mkF m pc Ls st) := by
  subst hp; exact own_st (fun t k => XS.dload X.here hx rfl hd hl k) h
theorem own_dloadN (X : Stand p l e R s m args below meth c T locs cells slots) (hx : p.tables.exec = Jvm.exec) {k : Fin 4} {v : UInt64} (hd : decode c.code pc = .ok (.dload_n k, 1)) (hp : pc + 1 = pc') (hl : Ls[k.val]? = some (.val (.double v))) (h : own_Go p e below P T (mkF m pc' Ls (.double v :: st))) : own_Go p e below P T (mkF m pc Ls st) := by
  subst hp; exact own_st (fun t k => XS.dloadN X.here hx rfl hd hl k) h
theorem own_dstore (X : Stand p l e R s m args below meth c T locs cells slots) (hx : p.tables.exec = Jvm.exec) {k : Nat} {x : UInt64} (hd : decode c.code pc = .ok (.dstore k, 2)) (hp : pc + 2 = pc') (hl : storeLocals Ls k (.double x) = some Ls') (h : own_Go p e below P T (mkF m pc' Ls' st)) : own_Go p e below P T (mkF m pc Ls (.double x :: st)) := by
  subst hp; exact own_st (fun t k => XS.dstore X.here hx rfl hd rfl hl k) h
theorem own_dstoreN (X : Stand p l e R s m args below meth c T locs cells slots) (hx : p.tables.exec = Jvm.exec) {k : Fin 4} {x : UInt64} (hd : decode c.code pc = .ok (.dstore_n k, 1)) (hp : pc + 1 = pc') (hl : storeLocals Ls k.val (.double x) = some Ls') (h : own_Go p e below P T (mkF m pc' Ls' st)) : own_Go p e below P T (mkF m pc Ls (.double x :: st)) := by
  subst hp; exact own_st (fun t k => XS.dstoreN X.here hx rfl hd rfl hl k) h
theorem own_retD (X : Stand p l e R s m args below meth c T locs cells slots) (hx : p.tables.exec = Jvm.exec) (hk : meth.locks = false) (hret : meth.sig.returnType = some .double) {z : UInt64} (hd : decode c.code pc = .ok (.dreturn, 1)) (hc : cells ≤ ck) (hs : slots ≤ sn) (hQ : Q (some (.double z)) T.heap locs) :
    own_Go p e below (own_End s Q ck sn) T (mkF m pc Ls (.double z :: st)) := by
  obtain ⟨fs, hr, hrun, hended, hW, hsame⟩ := X.leave (v := some (.double z)) (fun h => by rw [hret] at h; cases h) hk
  exact ⟨_, _, retOut X hx hret rfl (Or.inr (Or.inr (Or.inl ⟨rfl, rfl, z, rfl⟩))) hd hr, hrun, hended, _, _, rfl, hQ, ⟨_, rfl⟩, hW, hsame.mono hc hs⟩
theorem own_ldcD (X : Stand p l e R s m args below meth c T locs cells slots) (hx : p.tables.exec = Jvm.exec) {own : String} {index : Nat} {b : UInt64} (hown : s.vm.findClass own = some m.cls) (hc : (Cond.constantDouble own index b).before args s = true) (hd : decode c.code pc = .ok (.ldc2_w index, 3)) (hp : pc + 3 = pc') (k : own_Go p e below P T (mkF m pc' Ls (.double b :: st))) : own_Go p e below P T (mkF m pc Ls st) := by
  subst hp; exact own_st (X.ldc2DoubleC hx hown hc (g := mkF m pc Ls st) rfl hd) k
end OwnDbl
section OwnDArr
variable {p : Program} {l : Launch} {e : Env} {R : Room} {s : State} {m : MethodId} {args : Array Value} {below : List Frame} {meth : Method} {c : Code} {T : State} {locs : List Loc} {cells slots : Nat} {P : State → Outcome → Prop} {Ls : Array Slot} {st : List Value} {pc pc' : Nat} {Z : State} {h : Heap} {a : Addr} {k : ClassId} {n j : Int32} {vs : List Value} {dv : Value}
theorem own_daload (X : Stand p l e R s m args below meth c T locs cells slots) (hx : p.tables.exec = Jvm.exec) (hZ : Z.Warmed39 s.vm) (eT : T.heap = h) (V : Arv Z h a k .double n vs dv) {x : UInt64} (hj : ¬ j < 0 ∧ j < n) (hv : vs.getD j.toNatClampNeg dv = .double x) (hd : decode c.code pc = .ok (.daload, 1)) (hp : pc + 1 = pc') (hk : own_Go p e below P T (mkF m pc' Ls (.double x :: st))) : own_Go p e below P T (mkF m pc Ls (.int j :: .ref a :: st)) := by
  subst hp
  obtain ⟨cl, A, -, S, q, H, -⟩ := V
  exact own_st (X.daload hx (j := j) (v := .double x) (by rw [eT]; exact A.1) (State.isArrayOf_alike hZ.alike A.2.1) A.2.2 (inb_of S hj) (H.at (inb_of S hj) hv) (g := mkF m pc Ls (.int j :: .ref a :: st)) rfl rfl hd) hk
theorem own_dastore (X : Stand p l e R s m args below meth c T locs cells slots) (hx : p.tables.exec = Jvm.exec) (hZ : Z.Warmed39 s.vm) (eT : T.heap = h) (V : Arv Z h a k .double n vs dv) (i : Nat) {x : UInt64} (hj : ¬ j < 0 ∧ j < n) (hi : j.toNatClampNeg = i) (hl : i < vs.length) (hd : decode c.code pc = .ok (.dastore, 1)) :
    ∃ T' h', Stand p l e R s m args below meth c T' (locs ++ [⟨a, j.toNatClampNeg⟩]) cells slots ∧ T'.heap = h' ∧ Wr h h' a j.toNatClampNeg (.double x) ∧ Arv Z h' a k .double n (vs.set i (.double x)) dv ∧ ∀ target, Steps p.tables e below (T'.setTop (mkF m (pc + 1) Ls st)) target → Steps p.tables e below (T.setTop (mkF m pc Ls (.double x :: .int j :: .ref a :: st))) target := by
  obtain ⟨cl, A, q1, S, q, H, G⟩ := V
  obtain ⟨T', h', X', e', W, st'⟩ := stD X hx hZ eT A (j := j) (x := x) (inb_of S hj) (g := mkF m pc Ls (.double x :: .int j :: .ref a :: st)) rfl rfl hd
  exact ⟨T', h', X', e', W, Arv.set A q1 S q H G rfl W i hi hl, st'⟩
end OwnDArr
section OwnFP
open Jvm.FP
theorem own_qmax : Core.b64.qmax = 971 := by decide
theorem own_dat {m k : Nat} (hm : m < 2 ^ 53) (hk : k ≤ 100) : ∃ V, Core.fits Core.b64 V ∧ V ≠ .nan ∧ Core.zmag Core.b64 V = m * 2 ^ (1074 - k) := by
  obtain ⟨c, q, h1, h2⟩ := Core.round_exact Core.good_b64 false (c := m) (q := -(k : Int)) hm (by rw [Core.qmin_b64]; omega) (by rw [own_qmax]; omega)
  refine ⟨Core.round Core.b64 (.fin false m (-(k : Int))), Core.round_fits Core.good_b64 _, by rw [h1]; exact Core.Datum.noConfusion, ?_⟩
  rw [h1]
  show Core.inUnits c q Core.b64.qmin = _
  rw [h2]; unfold Core.inUnits; rw [Core.qmin_b64]; congr 2; omega
theorem own_abs {s : Bool} {c : Nat} {q i : Int} (h : Core.Whole i (.fin s c q)) : c * 2 ^ q.toNat = i.natAbs * 2 ^ (-q).toNat := by
  have e := congrArg Int.natAbs (show Core.signed s (c * 2 ^ q.toNat) = i * ((2 ^ (-q).toNat : Nat) : Int) from h)
  rw [Core.natAbs_signed, Int.natAbs_mul, Int.natAbs_natCast] at e
  exact e
theorem own_cross {c d T n : Nat} {q r : Int} (h1 : c * 2 ^ q.toNat = T * 2 ^ (-q).toNat) (h2 : d * 2 ^ r.toNat = n * 2 ^ (-r).toNat) :
    c * n * 2 ^ (q - r - 0).toNat = T * d * 2 ^ (0 - (q - r)).toNat := by
  have e : (-q).toNat + r.toNat + (q - r - 0).toNat = (0 - (q - r)).toNat + q.toNat + (-r).toNat := by omega
  refine Nat.eq_of_mul_eq_mul_right (Nat.two_pow_pos q.toNat) (Nat.eq_of_mul_eq_mul_right (Nat.two_pow_pos (-r).toNat) ?_)
  calc c * n * 2 ^ (q - r - 0).toNat * 2 ^ q.toNat * 2 ^ (-r).toNat
      = (c * 2 ^ q.toNat) * (n * 2 ^ (-r).toNat) * 2 ^ (q - r - 0).toNat := by ac_rfl
    _ = T * d * 2 ^ ((-q).toNat + r.toNat + (q - r - 0).toNat) := by rw [h1, ← h2, Nat.pow_add, Nat.pow_add]; ac_rfl
    _ = T * d * 2 ^ (0 - (q - r)).toNat * 2 ^ q.toNat * 2 ^ (-r).toNat := by rw [e, Nat.pow_add, Nat.pow_add]; ac_rfl
/-- the quotient of two whole numbers is their ratio, rounded -/
theorem own_quo {a b : Int64} (ha : Core.Small53 a) (hb : Core.Small53 b) (h0 : 0 < b.toInt) : Core.val64 (Core.ddiv (Core.l2d a) (Core.l2d b)) = Core.roundRatio Core.b64 (decide (a.toInt < 0)) a.toInt.natAbs b.toInt.natAbs 0 := by
  obtain ⟨c, q, hc⟩ := Core.l2d_shape a
  obtain ⟨d, r, hd⟩ := Core.l2d_shape b
  have wa := Core.l2d_whole ha
  have wb := Core.l2d_whole hb
  rw [hc] at wa
  rw [hd] at wb
  have ea := own_abs wa
  have eb := own_abs wb
  have hn : 0 < b.toInt.natAbs := by omega
  have hd0 : 0 < d := by
    rcases Nat.eq_zero_or_pos d with rfl | h
    · rw [Nat.zero_mul] at eb
      have := Nat.mul_pos hn (Nat.two_pow_pos (-r).toNat); omega
    · exact h
  rw [Core.val64_ddiv, hc, hd]
  show (if d = 0 then _ else Core.roundRatio Core.b64 (decide (a.toInt < 0) != decide (b.toInt < 0)) c d (q - r)) = _
  rw [if_neg (by omega), show decide (b.toInt < 0) = false from decide_eq_false (by omega), Bool.bne_false]
  exact Core.roundRatio_congr hd0 hn (own_cross ea eb)
theorem own_rat {s : Bool} {A n lo : Nat} (hn : 0 < n) (hn2 : n ≤ 1048576) (hlo : lo < 1073741824) (h1 : lo * n + 1 ≤ A) (h2 : A + 1 ≤ (lo + 1) * n) :
    lo * 2 ^ 1074 < Core.zmag Core.b64 (Core.roundRatio Core.b64 s A n 0) ∧ Core.zmag Core.b64 (Core.roundRatio Core.b64 s A n 0) < (lo + 1) * 2 ^ 1074 := by
  obtain ⟨V, v1, v2, v3⟩ := own_dat (m := lo * 2097152 + 1) (k := 21) (by omega) (by decide)
  obtain ⟨U, u1, u2, u3⟩ := own_dat (m := lo * 2097152 + 2097151) (k := 21) (by omega) (by decide)
  have ez : (2 : Nat) ^ (Core.b64.qmin - Core.b64.qmin).toNat = 1 := by rw [Int.sub_self]; rfl
  have ei : Core.inUnits A 0 Core.b64.qmin = A * 2 ^ 1074 := by unfold Core.inUnits; rw [Core.qmin_b64]; rfl
  have ep : (2 : Nat) ^ 1074 = 2097152 * 2 ^ (1074 - 21) := by rw [show (1074 : Nat) = 21 + (1074 - 21) from rfl, Nat.pow_add]
  have g1 := Core.zmag_roundRatio_ge Core.good_b64 (s := s) (A := A) (e := 0) (e0 := Core.b64.qmin) hn v1 (Int.le_refl _) (by rw [Core.qmin_b64]; decide)
  have g2 := Core.zmag_roundRatio_le Core.good_b64 (s := s) (A := A) (e := 0) (e0 := Core.b64.qmin) hn u1 u2 (Int.le_refl _) (by rw [Core.qmin_b64]; decide)
  rw [ez, ei, v3, Nat.mul_one] at g1
  rw [ez, ei, u3, Nat.mul_one] at g2
  rw [ep] at g1 g2 ⊢
  have hP : 0 < 2 ^ (1074 - 21) := Nat.two_pow_pos _
  generalize 2 ^ (1074 - 21) = P at *
  have k1 : (lo * 2097152 + 1) * n ≤ A * 2097152 := by
    have : (lo * 2097152 + 1) * n = 2097152 * (lo * n) + n := by rw [Nat.add_mul, Nat.one_mul, Nat.mul_right_comm, Nat.mul_comm]
    omega
  have k2 : A * 2097152 ≤ (lo * 2097152 + 2097151) * n := by
    have e3 : (lo * 2097152 + 2097151) * n = 2097152 * (lo * n) + 2097151 * n := by rw [Nat.add_mul, Nat.mul_right_comm, Nat.mul_comm]
    have e4 : (lo + 1) * n = lo * n + n := by rw [Nat.add_mul, Nat.one_mul]
    omega
  have f1 := g1 (by
    calc (lo * 2097152 + 1) * P * n = (lo * 2097152 + 1) * n * P := Nat.mul_right_comm _ _ _
      _ ≤ A * 2097152 * P := Nat.mul_le_mul_right _ k1
      _ = A * (2097152 * P) := Nat.mul_assoc _ _ _)
  have f2 := g2 (by
    calc A * (2097152 * P) = A * 2097152 * P := (Nat.mul_assoc _ _ _).symm
      _ ≤ (lo * 2097152 + 2097151) * n * P := Nat.mul_le_mul_right _ k2
      _ = (lo * 2097152 + 2097151) * P * n := Nat.mul_right_comm _ _ _)
  have d1 : (lo * 2097152 + 1) * P = lo * (2097152 * P) + P := by rw [Nat.add_mul, Nat.one_mul, Nat.mul_assoc]
  have d2 : (lo * 2097152 + 2097151) * P = lo * (2097152 * P) + 2097151 * P := by rw [Nat.add_mul, Nat.mul_assoc]
  have d3 : (lo + 1) * (2097152 * P) = lo * (2097152 * P) + 2097152 * P := by rw [Nat.add_mul, Nat.one_mul]
  rw [d1] at f1
  rw [d2] at f2
  rw [d3]
  exact ⟨by omega, by omega⟩
theorem own_zl {a : Int64} (h : Core.Small53 a) : Core.zval Core.b64 (Core.val64 (Core.l2d a)) = a.toInt * ((2 ^ 1074 : Nat) : Int) := by
  rw [Core.whole_zval Core.good_b64 (Core.val64_fits _) (Core.l2d_whole h), Core.qmin_b64]; rfl
theorem own_nnV {x : UInt64} (h : Core.val64 x ≠ .nan) : Jvm.Free.Fl.NoNaN64 x := by
  have := (Core.ne_nan x).mp h
  have e : (x &&& 0x7fffffffffffffff).toNat = x.toNat % 2 ^ 63 := by
    rw [UInt64.toNat_and]; exact Nat.and_two_pow_sub_one_eq_mod _ 63
  show x &&& 0x7fffffffffffffff ≤ 0x7ff0000000000000
  rw [UInt64.le_iff_toNat_le, e]; exact this
/-- the mean lies strictly between -/
theorem own_mean {n q r t : Int64} (hn : 0 < n.toInt) (hn2 : n.toInt ≤ 1048576) (hq1 : -1073741824 < q.toInt) (hq2 : q.toInt < 1073741824) (hr1 : 0 < r.toInt) (hr2 : r.toInt < n.toInt) (ht : t.toInt = q.toInt * n.toInt + r.toInt) :
    Jvm.Free.Fl.NoNaN64 (FP.ddiv (FP.l2d t) (FP.l2d n)) ∧ FP.dcmp (FP.l2d q) (FP.ddiv (FP.l2d t) (FP.l2d n)) = some .lt ∧ ∀ q1 : Int64, q1.toInt = q.toInt + 1 → FP.dcmp (FP.ddiv (FP.l2d t) (FP.l2d n)) (FP.l2d q1) = some .lt := by
  have hb1 : -(1073741824 * 1048576) ≤ q.toInt * n.toInt := by
    have := Int.mul_le_mul_of_nonneg_right (a := -1073741824) (b := q.toInt) (by omega) (show (0 : Int) ≤ n.toInt by omega)
    have := Int.mul_le_mul_of_nonpos_left (a := -1073741824) (b := 1048576) (c := n.toInt) (by decide) hn2
    omega
  have hb2 : q.toInt * n.toInt ≤ 1073741824 * 1048576 := by
    have := Int.mul_le_mul_of_nonneg_right (a := q.toInt) (b := 1073741824) (by omega) (show (0 : Int) ≤ n.toInt by omega)
    have := Int.mul_le_mul_of_nonneg_left (a := n.toInt) (b := 1048576) (c := 1073741824) hn2 (by decide)
    omega
  have st : Core.Small53 t := ⟨by omega, by omega⟩
  have sn : Core.Small53 n := ⟨by omega, by omega⟩
  have sq : Core.Small53 q := ⟨by omega, by omega⟩
  have hv := own_quo st sn hn
  have key : ∃ lo : Nat, lo < 1073741824 ∧ lo * n.toInt.natAbs + 1 ≤ t.toInt.natAbs ∧ t.toInt.natAbs + 1 ≤ (lo + 1) * n.toInt.natAbs ∧ ((t.toInt < 0 ∧ q.toInt = -(lo : Int) - 1) ∨ (¬ t.toInt < 0 ∧ q.toInt = lo)) := by
    have hN : (n.toInt.natAbs : Int) = n.toInt := by omega
    rcases Int.lt_or_le q.toInt 0 with h | h
    · refine ⟨(-q.toInt - 1).toNat, by omega, ?_, ?_, Or.inl ⟨?_, by omega⟩⟩
      · have e : (((-q.toInt - 1).toNat : Nat) : Int) * n.toInt = -(q.toInt * n.toInt) - n.toInt := by
          rw [Int.toNat_of_nonneg (by omega), Int.sub_mul, Int.neg_mul, Int.one_mul]
        have e2 : (((-q.toInt - 1).toNat * n.toInt.natAbs : Nat) : Int) = -(q.toInt * n.toInt) - n.toInt := by rw [Int.natCast_mul, hN]; exact e
        have : q.toInt * n.toInt ≤ -1 * n.toInt := Int.mul_le_mul_of_nonneg_right (by omega) (by omega)
        generalize q.toInt * n.toInt = X at *
        omega
      · have e : ((((-q.toInt - 1).toNat + 1) * n.toInt.natAbs : Nat) : Int) = -(q.toInt * n.toInt) := by
          rw [Int.natCast_mul, hN, show (((-q.toInt - 1).toNat + 1 : Nat) : Int) = -q.toInt by omega, Int.neg_mul]
        have : q.toInt * n.toInt ≤ -1 * n.toInt := Int.mul_le_mul_of_nonneg_right (by omega) (by omega)
        generalize q.toInt * n.toInt = X at *
        omega
      · have : q.toInt * n.toInt ≤ -1 * n.toInt := Int.mul_le_mul_of_nonneg_right (by omega) (by omega)
        omega
    · have h0 : 0 ≤ q.toInt * n.toInt := Int.mul_nonneg h (by omega)
      refine ⟨q.toInt.toNat, by omega, ?_, ?_, Or.inr ⟨by omega, by omega⟩⟩
      · have e : ((q.toInt.toNat * n.toInt.natAbs : Nat) : Int) = q.toInt * n.toInt := by rw [Int.natCast_mul, hN, Int.toNat_of_nonneg h]
        generalize q.toInt * n.toInt = X at *
        omega
      · have e : (((q.toInt.toNat + 1) * n.toInt.natAbs : Nat) : Int) = q.toInt * n.toInt + n.toInt := by rw [Int.natCast_mul, hN, Int.natCast_add, Int.toNat_of_nonneg h, Int.add_mul]; simp
        generalize q.toInt * n.toInt = X at *
        omega
  obtain ⟨lo, l1, l2, l3, l4⟩ := key
  obtain ⟨b1, b2⟩ := own_rat (s := decide (t.toInt < 0)) (A := t.toInt.natAbs) (n := n.toInt.natAbs) (lo := lo) (by omega) (by omega) l1 l2 l3
  have hnan : Core.val64 (Core.ddiv (Core.l2d t) (Core.l2d n)) ≠ .nan := by rw [hv]; exact Core.roundRatio_ne_nan _ _ _ _ _
  have hz : Core.zval Core.b64 (Core.val64 (Core.ddiv (Core.l2d t) (Core.l2d n))) = Core.signed (decide (t.toInt < 0)) (Core.zmag Core.b64 (Core.roundRatio Core.b64 (decide (t.toInt < 0)) t.toInt.natAbs n.toInt.natAbs 0)) := by
    rw [hv]; unfold Core.zval; rw [Core.sgn_roundRatio]
  have nl : ∀ a : Int64, Core.val64 (Core.l2d a) ≠ .nan := fun a => by obtain ⟨c, q, h⟩ := Core.l2d_shape a; rw [h]; exact Core.Datum.noConfusion
  refine ⟨own_nnV hnan, ?_, fun q1 h1 => ?_⟩
  · refine (Core.dcmp_zval (nl q) hnan).trans ?_
    rw [own_zl sq, hz]
    generalize Core.zmag Core.b64 (Core.roundRatio Core.b64 (decide (t.toInt < 0)) t.toInt.natAbs n.toInt.natAbs 0) = M at *
    generalize 2 ^ 1074 = P at *
    rw [Core.compare_ite, if_pos]
    rcases l4 with ⟨h, e⟩ | ⟨h, e⟩
    · rw [show decide (t.toInt < 0) = true from decide_eq_true h, e]
      show (-(lo : Int) - 1) * (P : Int) < -(M : Int)
      have : (-(lo : Int) - 1) * (P : Int) = -(((lo + 1) * P : Nat) : Int) := by rw [Int.natCast_mul, ← Int.neg_mul]; congr 1; omega
      omega
    · rw [show decide (t.toInt < 0) = false from decide_eq_false h, e]
      show (lo : Int) * (P : Int) < (M : Int)
      have : (lo : Int) * (P : Int) = ((lo * P : Nat) : Int) := (Int.natCast_mul ..).symm
      omega
  · refine (Core.dcmp_zval hnan (nl q1)).trans ?_
    rw [own_zl (a := q1) ⟨by omega, by omega⟩, hz, h1]
    generalize Core.zmag Core.b64 (Core.roundRatio Core.b64 (decide (t.toInt < 0)) t.toInt.natAbs n.toInt.natAbs 0) = M at *
    generalize 2 ^ 1074 = P at *
    rw [Core.compare_ite, if_pos]
    rcases l4 with ⟨h, e⟩ | ⟨h, e⟩
    · rw [show decide (t.toInt < 0) = true from decide_eq_true h, e]
      show -(M : Int) < (-(lo : Int) - 1 + 1) * (P : Int)
      have : (-(lo : Int) - 1 + 1) * (P : Int) = -((lo * P : Nat) : Int) := by rw [Int.natCast_mul, ← Int.neg_mul]; congr 1; omega
      omega
    · rw [show decide (t.toInt < 0) = false from decide_eq_false h, e]
      show (M : Int) < ((lo : Int) + 1) * (P : Int)
      have : ((lo : Int) + 1) * (P : Int) = (((lo + 1) * P : Nat) : Int) := by rw [Int.natCast_mul]; rfl
      omega
/-- a whole quotient is exact -/
theorem own_div0 {n q t : Int64} (hn : 0 < n.toInt) (hn2 : n.toInt ≤ 1048576) (hq1 : -1073741824 < q.toInt) (hq2 : q.toInt < 1073741824) (ht : t.toInt = q.toInt * n.toInt) : FP.ddiv (FP.l2d t) (FP.l2d n) = FP.l2d q := by
  have hb1 : -(1073741824 * 1048576) ≤ q.toInt * n.toInt := by
    have := Int.mul_le_mul_of_nonneg_right (a := -1073741824) (b := q.toInt) (by omega) (show (0 : Int) ≤ n.toInt by omega)
    have := Int.mul_le_mul_of_nonpos_left (a := -1073741824) (b := 1048576) (c := n.toInt) (by decide) hn2
    omega
  have hb2 : q.toInt * n.toInt ≤ 1073741824 * 1048576 := by
    have := Int.mul_le_mul_of_nonneg_right (a := q.toInt) (b := 1073741824) (by omega) (show (0 : Int) ≤ n.toInt by omega)
    have := Int.mul_le_mul_of_nonneg_left (a := n.toInt) (b := 1048576) (c := 1073741824) hn2 (by decide)
    omega
  have st : Core.Small53 t := ⟨by omega, by omega⟩
  have sn : Core.Small53 n := ⟨by omega, by omega⟩
  have hv := own_quo st sn hn
  have hnan : Core.val64 (Core.ddiv (Core.l2d t) (Core.l2d n)) ≠ .nan := by rw [hv]; exact Core.roundRatio_ne_nan _ _ _ _ _
  refine Core.val64_inj hnan (hv.trans ?_)
  have e : decide (t.toInt < 0) = decide (q.toInt < 0) := by
    rw [ht]; apply decide_eq_decide.mpr
    constructor
    · intro h; exact Int.lt_of_not_ge fun h2 => by have := Int.mul_nonneg h2 (show (0 : Int) ≤ n.toInt by omega); omega
    · intro h; exact Int.mul_neg_of_neg_of_pos h hn
  rw [e]
  refine (Core.roundRatio_congr (B' := 1) (A' := q.toInt.natAbs) (e' := 0) (by omega) (by decide) ?_).trans (Core.val64_l2d q).symm
  rw [ht, Int.natAbs_mul]; simp
theorem own_div1 (c : Int64) : FP.ddiv (FP.l2d c) (FP.l2d 1) = FP.l2d c := by
  have h : FP.l2d 1 = Core.dconst1 := by decide +kernel
  rw [h]
  exact Core.ddiv_one (by obtain ⟨a, b, h⟩ := Core.l2d_shape c; intro q; rw [show Core.val64 (Core.l2d c) = .nan from q] at h; cases h)
end OwnFP
section OwnFPQ
open Jvm.FP
/-- the double x is the number m / 256 -/
def own_E (x : UInt64) (m : Int) : Prop := (∃ s c q, Core.val64 x = .fin s c q) ∧ Core.zval Core.b64 (Core.val64 x) = m * ((2 ^ 1066 : Nat) : Int)
theorem own_En0 {x : UInt64} {m : Int} (h : own_E x m) : Core.val64 x ≠ .nan := by
  obtain ⟨⟨s, c, q, e⟩, -⟩ := h
  rw [e]; exact Core.Datum.noConfusion
theorem own_En {x : UInt64} {m : Int} (h : own_E x m) : Jvm.Free.Fl.NoNaN64 x := own_nnV (own_En0 h)
theorem own_signed (m : Int) (k : Nat) : Core.signed (decide (m < 0)) (m.natAbs * k) = m * (k : Int) := by
  rw [Core.signed_mul]
  congr 1
  by_cases h : m < 0
  · rw [decide_eq_true h]; show -((m.natAbs : Nat) : Int) = m; omega
  · rw [decide_eq_false h]; show ((m.natAbs : Nat) : Int) = m; omega
theorem own_datZ {m : Int} (h1 : -9007199254740992 < m) (h2 : m < 9007199254740992) : ∃ V, Core.fits Core.b64 V ∧ V ≠ .nan ∧ Core.zval Core.b64 V = m * ((2 ^ 1066 : Nat) : Int) := by
  have hp : (2 : Nat) ^ Core.b64.p = 9007199254740992 := by decide
  obtain ⟨c, q, e1, e2⟩ := Core.round_exact Core.good_b64 (decide (m < 0)) (c := m.natAbs) (q := -8) (by rw [hp]; omega) (by rw [Core.qmin_b64]; decide) (by rw [own_qmax]; decide)
  refine ⟨Core.round Core.b64 (.fin (decide (m < 0)) m.natAbs (-8)), Core.round_fits Core.good_b64 _, by rw [e1]; exact Core.Datum.noConfusion, ?_⟩
  rw [e1]
  show Core.signed (decide (m < 0)) (Core.inUnits c q Core.b64.qmin) = _
  rw [e2]
  have e3 : Core.inUnits m.natAbs (-8) Core.b64.qmin = m.natAbs * 2 ^ 1066 := by unfold Core.inUnits; rw [Core.qmin_b64]; rfl
  rw [e3]; exact own_signed m _
/-- a rounded number of that size is finite -/
theorem own_fin {s : Bool} {A B : Nat} {e : Int} {m : Int} (h1 : -9007199254740992 < m) (h2 : m < 9007199254740992) (h : Core.zval Core.b64 (Core.roundRatio Core.b64 s A B e) = m * ((2 ^ 1066 : Nat) : Int)) : ∃ s' c q, Core.roundRatio Core.b64 s A B e = .fin s' c q := by
  rcases Core.roundRatio_cases Core.b64 s A B e with ⟨c, q, g⟩ | g
  · exact ⟨s, c, q, g⟩
  · rw [g] at h
    have e0 := congrArg Int.natAbs h
    rw [Int.natAbs_mul, Int.natAbs_natCast] at e0
    have e1 : (Core.zval Core.b64 (.inf s)).natAbs = Core.b64.tails * 2 ^ (Core.b64.exps - 2) := Core.natAbs_signed _ _
    rw [e1, Core.tails_b64, show Core.b64.exps - 2 = 980 + 1066 from by decide, Nat.pow_add, ← Nat.mul_assoc] at e0
    have e2 := Nat.eq_of_mul_eq_mul_right (Nat.two_pow_pos 1066) e0
    have e3 : (2 : Nat) ^ 53 ≤ 2 ^ 52 * 2 ^ 980 := by rw [← Nat.pow_add]; exact Nat.pow_le_pow_right (by decide) (by decide)
    have e4 : (2 : Nat) ^ 53 = 9007199254740992 := by decide
    rw [e2, e4] at e3
    omega
theorem own_sm {a : Int64} (h1 : -9007199254740992 < a.toInt) (h2 : a.toInt < 9007199254740992) : Core.Small53 a := ⟨h1, h2⟩
theorem own_El {a : Int64} (h : Core.Small53 a) : own_E (FP.l2d a) (256 * a.toInt) := by
  obtain ⟨c, q, e⟩ := Core.l2d_shape a
  refine ⟨⟨_, c, q, e⟩, (own_zl h).trans ?_⟩
  rw [show (2 : Nat) ^ 1074 = 256 * 2 ^ 1066 from by rw [show (1074 : Nat) = 8 + 1066 from rfl, Nat.pow_add], Int.natCast_mul, ← Int.mul_assoc, Int.mul_comm a.toInt]; rfl
theorem own_Ed {a : Int64} (h : Core.Small53 a) : own_E (FP.ddiv (FP.l2d a) (4643211215818981376 : UInt64)) a.toInt := by
  have hk : (4643211215818981376 : UInt64) = Core.l2d 256 := by decide +kernel
  rw [hk]
  have hv := own_quo h (b := 256) ⟨by decide, by decide⟩ (by decide)
  have hb : (256 : Int64).toInt.natAbs = 256 := by decide
  rw [hb] at hv
  have hlt : a.toInt.natAbs < 2 ^ 53 := by
    have q1 := h.1
    have q2 := h.2
    rw [show (2 : Nat) ^ 53 = 9007199254740992 from by decide]
    omega
  obtain ⟨V, v1, v2, v3⟩ := own_dat (m := a.toInt.natAbs) (k := 8) hlt (by decide)
  have ez : (2 : Nat) ^ (Core.b64.qmin - Core.b64.qmin).toNat = 1 := by rw [Int.sub_self]; rfl
  have ei : Core.inUnits a.toInt.natAbs 0 Core.b64.qmin = a.toInt.natAbs * 2 ^ 1074 := by unfold Core.inUnits; rw [Core.qmin_b64]; rfl
  have ep : (2 : Nat) ^ 1074 = 2 ^ (1074 - 8) * 256 := by rw [show (1074 : Nat) = (1074 - 8) + 8 from rfl, Nat.pow_add]
  have g1 := Core.zmag_roundRatio_ge Core.good_b64 (s := decide (a.toInt < 0)) (A := a.toInt.natAbs) (B := 256) (e := 0) (e0 := Core.b64.qmin) (by decide) v1 (Int.le_refl _) (by rw [Core.qmin_b64]; decide)
  have g2 := Core.zmag_roundRatio_le Core.good_b64 (s := decide (a.toInt < 0)) (A := a.toInt.natAbs) (B := 256) (e := 0) (e0 := Core.b64.qmin) (by decide) v1 v2 (Int.le_refl _) (by rw [Core.qmin_b64]; decide)
  rw [ez, ei, v3, Nat.mul_one, ep, ← Nat.mul_assoc] at g1 g2
  have hm := Nat.le_antisymm (g2 (Nat.le_refl _)) (g1 (Nat.le_refl _))
  have hz : Core.zval Core.b64 (Core.roundRatio Core.b64 (decide (a.toInt < 0)) a.toInt.natAbs 256 0) = a.toInt * ((2 ^ 1066 : Nat) : Int) := by
    unfold Core.zval; rw [Core.sgn_roundRatio, hm]; exact own_signed _ _
  have hz' : Core.zval Core.b64 (Core.val64 (Core.ddiv (Core.l2d a) (Core.l2d 256))) = a.toInt * ((2 ^ 1066 : Nat) : Int) := by rw [hv]; exact hz
  obtain ⟨s, c, q, hf⟩ := own_fin h.1 h.2 hz
  exact ⟨⟨s, c, q, hv.trans hf⟩, hz'⟩
theorem own_rnd {s : Bool} {c : Nat} {q e0 : Int} {m : Int} (h1 : -9007199254740992 < m) (h2 : m < 9007199254740992) (h0 : e0 ≤ Core.b64.qmin) (h0q : e0 ≤ q)
    (h : Core.signed s (Core.inUnits c q e0) = m * ((2 ^ 1066 : Nat) : Int) * ((2 ^ (Core.b64.qmin - e0).toNat : Nat) : Int)) :
    (∃ s' c' q', Core.round Core.b64 (.fin s c q) = .fin s' c' q') ∧ Core.zval Core.b64 (Core.round Core.b64 (.fin s c q)) = m * ((2 ^ 1066 : Nat) : Int) := by
  obtain ⟨V, v1, v2, v3⟩ := own_datZ h1 h2
  have a1 := Core.zval_round_le Core.good_b64 (s := s) (c := c) (q := q) v1 v2 h0 h0q (by rw [v3]; exact Int.le_of_eq h)
  have a2 := Core.zval_round_ge Core.good_b64 (s := s) (c := c) (q := q) v1 v2 h0 h0q (by rw [v3]; exact Int.le_of_eq h.symm)
  have a3 := (Int.le_antisymm a1 a2).trans v3
  exact ⟨own_fin h1 h2 a3, a3⟩
theorem own_Em {x y : UInt64} {a b : Int} (hx : own_E x (256 * a)) (hy : own_E y b) (h1 : -9007199254740992 < a * b) (h2 : a * b < 9007199254740992) : own_E (FP.dmul x y) (a * b) := by
  obtain ⟨⟨s, c, q, ex⟩, zx⟩ := hx
  obtain ⟨⟨t, d, r, ey⟩, zy⟩ := hy
  have fx := Core.val64_fits x
  have fy := Core.val64_fits y
  rw [ex] at fx zx
  rw [ey] at fy zy
  obtain ⟨p1, p2, p3⟩ := Core.product_units fx fy
  have hv : Core.val64 (Core.dmul x y) = Core.round Core.b64 (.fin (s != t) (c * d) (q + r)) := by rw [Core.val64_dmul, ex, ey, p1]
  have hs : Core.signed (s != t) (Core.inUnits (c * d) (q + r) (2 * Core.b64.qmin)) = Core.zval Core.b64 (.fin s c q) * Core.zval Core.b64 (.fin t d r) := by
    rw [p3]
    show _ = Core.signed s (Core.zmag Core.b64 (.fin s c q)) * Core.signed t (Core.zmag Core.b64 (.fin t d r))
    generalize Core.zmag Core.b64 (.fin s c q) = M
    generalize Core.zmag Core.b64 (.fin t d r) = N
    cases s <;> cases t <;> simp [Core.signed, Int.neg_mul, Int.mul_neg]
  have hq := own_rnd (s := s != t) (c := c * d) (q := q + r) (e0 := 2 * Core.b64.qmin) (m := a * b) h1 h2 (by rw [Core.qmin_b64]; decide) p2 (by
    rw [hs, zx, zy, show (Core.b64.qmin - 2 * Core.b64.qmin).toNat = 8 + 1066 from by decide, Nat.pow_add, Int.natCast_mul]
    generalize ((2 ^ 1066 : Nat) : Int) = K
    show 256 * a * K * (b * K) = a * b * K * (256 * K)
    ac_rfl)
  exact ⟨by rw [show Core.val64 (FP.dmul x y) = _ from hv]; exact hq.1, by rw [show Core.val64 (FP.dmul x y) = _ from hv]; exact hq.2⟩
theorem own_Ea {x y : UInt64} {a b : Int} (hx : own_E x a) (hy : own_E y b) (h1 : -9007199254740992 < a + b) (h2 : a + b < 9007199254740992) : own_E (FP.dadd x y) (a + b) := by
  obtain ⟨⟨s, c, q, ex⟩, zx⟩ := hx
  obtain ⟨⟨t, d, r, ey⟩, zy⟩ := hy
  have fx := Core.val64_fits x
  have fy := Core.val64_fits y
  rw [ex] at fx zx
  rw [ey] at fy zy
  obtain ⟨sg, n, e, p1, p2, p3⟩ := Core.sum_units fx fy
  have hv : Core.val64 (Core.dadd x y) = Core.round Core.b64 (.fin sg n e) := by rw [Core.val64_dadd, ex, ey, p1]
  have hq := own_rnd (s := sg) (c := n) (q := e) (e0 := Core.b64.qmin) (m := a + b) h1 h2 (Int.le_refl _) p2 (by
    rw [p3, zx, zy, Int.sub_self, ← Int.add_mul]
    exact (Int.mul_one _).symm)
  exact ⟨by rw [show Core.val64 (FP.dadd x y) = _ from hv]; exact hq.1, by rw [show Core.val64 (FP.dadd x y) = _ from hv]; exact hq.2⟩
theorem own_Eq {x y : UInt64} {a b : Int} (hx : own_E x a) (hy : own_E y b) (h : a = b) (o : CmpOp) : cmpValue (FP.dcmp x y) o = 0 := by
  subst h
  have e : FP.dcmp x y = some .eq := by
    refine (Core.dcmp_zval (own_En0 hx) (own_En0 hy)).trans ?_
    rw [hx.2, hy.2, Core.compare_ite, if_neg (Int.lt_irrefl _), if_pos rfl]
  rw [e]; cases o <;> rfl
theorem own_E0 : own_E (FP.l2d 0) 0 := own_El (a := 0) ⟨by decide, by decide⟩
theorem own_i64 (x : Int32) : x.toInt64.toInt = x.toInt := by simp
theorem own_s32 (x : Int32) : Core.Small53 x.toInt64 := by
  have h := rng32 x
  exact ⟨by rw [own_i64]; omega, by rw [own_i64]; omega⟩
theorem own_Ei (x : Int32) : own_E (FP.l2d x.toInt64) (256 * x.toInt) := by
  have h := own_El (own_s32 x); rw [own_i64] at h; exact h
theorem own_Ew (x : Int32) : own_E (FP.ddiv (FP.l2d x.toInt64) (4643211215818981376 : UInt64)) x.toInt := by
  have h := own_Ed (own_s32 x); rw [own_i64] at h; exact h
theorem own_pb {a b : Int} (h1 : -2147483648 ≤ a ∧ a < 2147483648) (h2 : 0 ≤ b ∧ b ≤ 255) : -547608330240 ≤ a * b ∧ a * b ≤ 547608330240 := by
  have a1 := Int.mul_le_mul_of_nonneg_right (a := -2147483648) (b := a) (c := b) h1.1 h2.1
  have a2 := Int.mul_le_mul_of_nonpos_left (a := -2147483648) (b := 255) (c := b) (by decide) h2.2
  have a3 := Int.mul_le_mul_of_nonneg_right (a := a) (b := 2147483648) (c := b) (by omega) h2.1
  have a4 := Int.mul_le_mul_of_nonneg_left (a := b) (b := 255) (c := 2147483648) h2.2 (by decide)
  omega
theorem own_acc {s : Int64} {x b : Int32} (h : -9007199254740992 < s.toInt ∧ s.toInt < 9007199254740992) (hb : 0 ≤ b.toInt ∧ b.toInt ≤ 255) : ∃ t : Int64, t = s + x.toInt64 * b.toInt64 ∧ t.toInt = s.toInt + x.toInt * b.toInt := by
  refine ⟨_, rfl, ?_⟩
  have hp := own_pb (a := x.toInt) (b := b.toInt) (rng32 x) hb
  have h1 := c_lmul x.toInt64 b.toInt64
  have h2 := c_ladd s (x.toInt64 * b.toInt64)
  have h3 := rng64 (x.toInt64 * b.toInt64)
  have h4 := rng64 (s + x.toInt64 * b.toInt64)
  rw [own_i64, own_i64] at h1
  generalize x.toInt * b.toInt = X at *
  omega
end OwnFPQ
def own_nib (x i : Int32) : Int32 := (XT.ushr x ((8 : Int32) * i)) &&& (255 : Int32)
theorem own_nb (x i : Int32) : 0 ≤ (own_nib x i).toInt ∧ (own_nib x i).toInt ≤ 255 := by
  have h := c_and (XT.ushr x ((8 : Int32) * i)) 255 (by decide)
  exact h
theorem own_n5 (x : Int32) : (x &&& (2147483647 : Int32)) % (5 : Int32) = 0 ∨ (x &&& (2147483647 : Int32)) % (5 : Int32) = 1 ∨ (x &&& (2147483647 : Int32)) % (5 : Int32) = 2 ∨ (x &&& (2147483647 : Int32)) % (5 : Int32) = 3 ∨ (x &&& (2147483647 : Int32)) % (5 : Int32) = 4 := by
  have h0 := (c_and x 2147483647 (by decide)).1
  obtain ⟨h1, h2, -⟩ := (c_iremV (x &&& 2147483647) 5).1 h0 (by decide)
  have e0 : (0 : Int32).toInt = 0 := rfl
  have e1 : (1 : Int32).toInt = 1 := rfl
  have e2 : (2 : Int32).toInt = 2 := rfl
  have e3 : (3 : Int32).toInt = 3 := rfl
  have e4 : (4 : Int32).toInt = 4 := rfl
  have e5 : (5 : Int32).toInt = 5 := rfl
  rw [e5] at h2
  simp only [← Int32.toInt_inj, e0, e1, e2, e3, e4]
  omega
theorem d1_0 : decode jdk_30_method_1_code 0 = .ok (.aload_n 0, 1) := by decide +kernel
theorem d1_1 : decode jdk_30_method_1_code 1 = .ok (.invokespecial 1, 3) := by decide +kernel
theorem d1_4 : decode jdk_30_method_1_code 4 = .ok (.return_, 1) := by decide +kernel
theorem pn1 : plainFor (⟨"java/lang/Record", "<init>", "()V"⟩ : MethodName) = true := by first | exact plainFor_of_name (by first | (simp [plainName, overriddenIn]; done) | decide +kernel) | decide +kernel
theorem ef1 (m : MethodId) (a1 : Addr) : entryFrame m #[(.ref a1)] 1 = mkF m 0 #[.val (.ref a1)] [] := by first | (simp [entryFrame, mkF, argsToLocals, Value.category]; done) | rfl
def Q1 (Z : State) (a1 : Addr) (h0 : Heap) (n0 : Nat) (v : Option Value) (h : Heap) (L : List Loc) : Prop := v = none ∧ Fr n0 L ∧ h = h0
set_option maxRecDepth 65536 in
set_option maxHeartbeats 40000000 in
theorem rm1 (l : Launch) (Z : State) (a0 : Array Value) (hw : ∀ d ∈ tables_1, d.before a0 Z = true) (ws : List Jvm.Cond) (a1 : Addr) (h0 : Heap) (n0 : Nat) (Z0 : n0 ≤ h0.size) :
    MetFree l (⟨"java/lang/Record", "<init>", "()V"⟩ : MethodName) (head1 (Jvm.Cond.code (⟨"java/lang/Record", "<init>", "()V"⟩ : MethodName) jdk_30_method_1_code 1 none :: ws) ({ frames := 1, cells := 0, slots := 0, locals := 12 } : Room)) (fun a U => a = #[(.ref a1)] ∧ Z.Warmed39 U.vm ∧ U.heap = h0) (fun _ _ _ _ _ => True) (fun _ U o U' => ∃ v L, o = .returned v ∧ Q1 Z a1 h0 n0 v U'.heap L ∧ FrameEnd U o U' L ({ frames := 1, cells := 0, slots := 0, locals := 12 } : Room).cells ({ frames := 1, cells := 0, slots := 0, locals := 12 } : Room).slots) := by
  refine MetFree.of_bodySF pn1 hisR ?_
  intro p e s m args below meth c s₁ Bd hml0 hP hK
  obtain ⟨rfl, hZ, hh⟩ := hP
  have hx := Bd.exec
  have hby := Bd.bytes
  have hlk : meth.locks = false := BodyLoose.notSynchronized Bd
  have hml : c.maxLocals = 1 := hml0
  have hown : s.vm.findClass "java/lang/Record" = some m.cls := findClass_of_methodNamed Bd.named
  have hnm := (name_of_methodNamed Bd.named Bd.method).1
  have X0 : Stand p l e ({ frames := 1, cells := 0, slots := 0, locals := 12 } : Room) s m #[(.ref a1)] below meth c s₁ [] 0 0 := Stand.of_body Bd
  have e0 : s₁.heap = h0 := by rw [← hh, Bd.state]; rfl
  have N0 := Fr.nil n0
  rw [ef1 m a1]
  show own_Go p e below (own_End s (Q1 Z a1 h0 n0) ({ frames := 1, cells := 0, slots := 0, locals := 12 } : Room).cells ({ frames := 1, cells := 0, slots := 0, locals := 12 } : Room).slots) s₁ (mkF m 0 #[.val (.ref a1)] [])
  refine own_aloadN X0 hx (hb hby d1_0) (pc' := 1) rfl rfl rfl ?_
  obtain ⟨T_1, X_1, e_1, st_1⟩ := initO X0 hx hZ hown (hw _ (List.mem_of_getElem? (i := 13) rfl)) (hw _ (List.mem_of_getElem? (i := 14) rfl)) (hw _ (List.mem_of_getElem? (i := 15) rfl)) e0 (g := (mkF m 1 #[.val (.ref a1)] [(.ref a1)])) rfl (by rw [hml]; rfl) rfl (hb hby d1_1) (by decide) (W := 0) (by show 2 * 0 + _ ≤ _; exact Nat.le_of_eq rfl) (by decide)
  refine own_st st_1 ?_
  show own_Go p e below _ T_1 (mkF m 4 #[.val (.ref a1)] [])
  refine own_retV X_1 hx hlk Bd.returns (hb hby d1_4) (by decide) (by decide) ?_
  rw [e_1]
  exact ⟨rfl, N0, rfl⟩
theorem d2_0 : decode prog_98_method_1_code 0 = .ok (.aload_n 0, 1) := by decide +kernel
theorem d2_1 : decode prog_98_method_1_code 1 = .ok (.invokespecial 1, 3) := by decide +kernel
theorem d2_4 : decode prog_98_method_1_code 4 = .ok (.aload_n 0, 1) := by decide +kernel
theorem d2_5 : decode prog_98_method_1_code 5 = .ok (.aload_n 1, 1) := by decide +kernel
theorem d2_6 : decode prog_98_method_1_code 6 = .ok (.putfield 7, 3) := by decide +kernel
theorem d2_9 : decode prog_98_method_1_code 9 = .ok (.aload_n 0, 1) := by decide +kernel
theorem d2_10 : decode prog_98_method_1_code 10 = .ok (.aload_n 2, 1) := by decide +kernel
theorem d2_11 : decode prog_98_method_1_code 11 = .ok (.putfield 13, 3) := by decide +kernel
theorem d2_14 : decode prog_98_method_1_code 14 = .ok (.return_, 1) := by decide +kernel
theorem pd2_0 : parseMethodDescriptor "()V" = some ⟨[], none⟩ := by decide +kernel
theorem pn2 : plainFor (⟨"com/example/sluicegate/sluicegate/RecentTimes$Bins", "<init>", "([D[D)V"⟩ : MethodName) = true := by first | exact plainFor_of_name (by first | (simp [plainName, overriddenIn]; done) | decide +kernel) | decide +kernel
theorem ef2 (m : MethodId) (a1 : Addr) (b1 : Addr) (b2 : Addr) : entryFrame m #[(.ref a1), (.ref b1), (.ref b2)] 3 = mkF m 0 #[.val (.ref a1), .val (.ref b1), .val (.ref b2)] [] := by first | (simp [entryFrame, mkF, argsToLocals, Value.category]; done) | rfl
def Q2 (Z : State) (a1 : Addr) (b1 : Addr) (b2 : Addr) (h0 : Heap) (n0 : Nat) (v : Option Value) (h : Heap) (L : List Loc) : Prop := v = none ∧ Fr n0 L ∧ Keep h0 h [a1] ∧ Fld Z h a1 "com/example/sluicegate/sluicegate/RecentTimes$Bins" "values" "[D" (.ref b1) ∧ Fld Z h a1 "com/example/sluicegate/sluicegate/RecentTimes$Bins" "weights" "[D" (.ref b2)
set_option maxRecDepth 65536 in
set_option maxHeartbeats 40000000 in
theorem rm2 (l : Launch) (Z : State) (a0 : Array Value) (hw : ∀ d ∈ tables_1, d.before a0 Z = true) (ws : List Jvm.Cond) (a1 : Addr) (b1 : Addr) (b2 : Addr) (h0 : Heap) (n0 : Nat) (Z0 : n0 ≤ h0.size) (A_a : Exa Z h0 a1 "com/example/sluicegate/sluicegate/RecentTimes$Bins") (F_values : Fld Z h0 a1 "com/example/sluicegate/sluicegate/RecentTimes$Bins" "values" "[D" (.null)) (F_weights : Fld Z h0 a1 "com/example/sluicegate/sluicegate/RecentTimes$Bins" "weights" "[D" (.null)) (ga : n0 ≤ a1) :
    MetFree l (⟨"com/example/sluicegate/sluicegate/RecentTimes$Bins", "<init>", "([D[D)V"⟩ : MethodName) (head1 (Jvm.Cond.code (⟨"com/example/sluicegate/sluicegate/RecentTimes$Bins", "<init>", "([D[D)V"⟩ : MethodName) prog_98_method_1_code 3 none :: ws) ({ frames := 2, cells := 0, slots := 0, locals := 24 } : Room)) (fun a U => a = #[(.ref a1), (.ref b1), (.ref b2)] ∧ Z.Warmed39 U.vm ∧ U.heap = h0) (fun _ _ _ _ _ => True) (fun _ U o U' => ∃ v L, o = .returned v ∧ Q2 Z a1 b1 b2 h0 n0 v U'.heap L ∧ FrameEnd U o U' L ({ frames := 2, cells := 0, slots := 0, locals := 24 } : Room).cells ({ frames := 2, cells := 0, slots := 0, locals := 24 } : Room).slots) := by
  refine MetFree.of_bodySF pn2 hisR ?_
  intro p e s m args below meth c s₁ Bd hml0 hP hK
  obtain ⟨rfl, hZ, hh⟩ := hP
  have hx := Bd.exec
  have hby := Bd.bytes
  have hlk : meth.locks = false := BodyLoose.notSynchronized Bd
  have hml : c.maxLocals = 3 := hml0
  have hown : s.vm.findClass "com/example/sluicegate/sluicegate/RecentTimes$Bins" = some m.cls := findClass_of_methodNamed Bd.named
  have hnm := (name_of_methodNamed Bd.named Bd.method).1
  have X0 : Stand p l e ({ frames := 2, cells := 0, slots := 0, locals := 24 } : Room) s m #[(.ref a1), (.ref b1), (.ref b2)] below meth c s₁ [] 0 0 := Stand.of_body Bd
  have e0 : s₁.heap = h0 := by rw [← hh, Bd.state]; rfl
  have N0 := Fr.nil n0
  have K0 : Keep h0 h0 [a1] := Keep.refl _ _
  rw [ef2 m a1 b1 b2]
  show own_Go p e below (own_End s (Q2 Z a1 b1 b2 h0 n0) ({ frames := 2, cells := 0, slots := 0, locals := 24 } : Room).cells ({ frames := 2, cells := 0, slots := 0, locals := 24 } : Room).slots) s₁ (mkF m 0 #[.val (.ref a1), .val (.ref b1), .val (.ref b2)] [])
  refine own_aloadN X0 hx (hb hby d2_0) (pc' := 1) rfl rfl rfl ?_
  obtain ⟨_, _, ⟨T_1, L_1, k_1, n_1⟩, -, X_1, ⟨Lc_1, hQ_1, l_1, y_1, z_1⟩, st_1⟩ := X0.specialBack hx  (y := (⟨"java/lang/Record", "<init>", "()V"⟩ : MethodName)) rfl hown (mvT hZ (hw _ (List.mem_of_getElem? (i := 8) rfl))) (mvT hZ (hw _ (List.mem_of_getElem? (i := 9) rfl))) (mvT hZ (hw _ (List.mem_of_getElem? (i := 12) rfl))) (by decide) (backOf (W := 0) (rm1 l Z a0 hw [] a1 h0 n0 Z0) hZ (hw _ (List.mem_of_getElem? (i := 12) rfl)) (hw _ (List.mem_of_getElem? (i := 11) rfl)) (by decide) (by decide)) (g := (mkF m 1 #[.val (.ref a1), .val (.ref b1), .val (.ref b2)] [(.ref a1)])) rfl (by rw [hml]; rfl) (Steps.refl _) (a := a1) (argsL := []) (rest := []) (lenOf pd2_0 rfl) rfl (by show 2 * 0 + _ ≤ _; exact Nat.le_of_eq rfl) (hb hby d2_1) (fun _ _ => ⟨rfl, e0, (by decide : 0 + 0 ≤ _), (by decide : 0 + 0 ≤ _)⟩)
  dsimp only [Pt.U, Pt.locs, Pt.cells, Pt.slots] at X_1 l_1 y_1 z_1 st_1 hQ_1
  subst l_1 y_1 z_1
  refine own_tr st_1 ?_
  obtain ⟨rfl, Nq_1, eq_1⟩ := hQ_1
  have N_1 := Fr.app N0 Nq_1
  show own_Go p e below _ T_1 (mkF m 4 #[.val (.ref a1), .val (.ref b1), .val (.ref b2)] [])
  refine own_aloadN X_1 hx (hb hby d2_4) (pc' := 5) rfl rfl rfl ?_
  refine own_aloadN X_1 hx (hb hby d2_5) (pc' := 6) rfl rfl rfl ?_
  obtain ⟨T_2, h_2, X_2, e_2, W_2, st_2⟩ := putF X_1 hx hZ hown (host := "") (Or.inl (hw _ (List.mem_of_getElem? (i := 16) rfl))) Via.refl eq_1 F_values A_a (Or.inr ⟨(hw _ (List.mem_of_getElem? (i := 17) rfl)), rfl, hnm⟩) (hw _ (List.mem_of_getElem? (i := 3) rfl)) (ty := (.array .double)) (by decide) rfl rfl (g := (mkF m 6 #[.val (.ref a1), .val (.ref b1), .val (.ref b2)] [(.ref b1), (.ref a1)])) rfl rfl (hb hby d2_6)
  have F_3 : Fld Z h_2 a1 "com/example/sluicegate/sluicegate/RecentTimes$Bins" "values" "[D" (.ref b1) := F_values.same W_2
  have A_5 : Exa Z h_2 a1 "com/example/sluicegate/sluicegate/RecentTimes$Bins" := A_a.wr W_2
  have F_6 : Fld Z h_2 a1 "com/example/sluicegate/sluicegate/RecentTimes$Bins" "weights" "[D" (.null) := F_weights.other W_2 (Or.inr (RoadKit.slot_ne (Or.inr (hw _ (List.mem_of_getElem? (i := 19) rfl))) (Or.inr (hw _ (List.mem_of_getElem? (i := 17) rfl))) (by decide) (t := (.array .double)) (t' := (.array .double)) (by decide) (by decide)))
  have Z_4 : n0 ≤ h_2.size := by rw [W_2.size]; exact Z0
  have K_4 : Keep h0 h_2 [a1] := K0.wr W_2 (Or.inl (List.mem_of_getElem? (i := 0) rfl))
  have N_2 := Fr.snoc X_2 N_1 ga
  refine own_st st_2 ?_
  show own_Go p e below _ T_2 (mkF m 9 #[.val (.ref a1), .val (.ref b1), .val (.ref b2)] [])
  refine own_aloadN X_2 hx (hb hby d2_9) (pc' := 10) rfl rfl rfl ?_
  refine own_aloadN X_2 hx (hb hby d2_10) (pc' := 11) rfl rfl rfl ?_
  obtain ⟨T_7, h_7, X_7, e_7, W_7, st_7⟩ := putF X_2 hx hZ hown (host := "") (Or.inl (hw _ (List.mem_of_getElem? (i := 18) rfl))) Via.refl e_2 F_6 A_5 (Or.inr ⟨(hw _ (List.mem_of_getElem? (i := 19) rfl)), rfl, hnm⟩) (hw _ (List.mem_of_getElem? (i := 3) rfl)) (ty := (.array .double)) (by decide) rfl rfl (g := (mkF m 11 #[.val (.ref a1), .val (.ref b1), .val (.ref b2)] [(.ref b2), (.ref a1)])) rfl rfl (hb hby d2_11)
  have F_8 : Fld Z h_7 a1 "com/example/sluicegate/sluicegate/RecentTimes$Bins" "weights" "[D" (.ref b2) := F_6.same W_7
  have F_10 : Fld Z h_7 a1 "com/example/sluicegate/sluicegate/RecentTimes$Bins" "values" "[D" (.ref b1) := F_3.other W_7 (Or.inr (RoadKit.slot_ne (Or.inr (hw _ (List.mem_of_getElem? (i := 17) rfl))) (Or.inr (hw _ (List.mem_of_getElem? (i := 19) rfl))) (by decide) (t := (.array .double)) (t' := (.array .double)) (by decide) (by decide)))
  have A_11 : Exa Z h_7 a1 "com/example/sluicegate/sluicegate/RecentTimes$Bins" := A_5.wr W_7
  have Z_9 : n0 ≤ h_7.size := by rw [W_7.size]; exact Z_4
  have K_9 : Keep h0 h_7 [a1] := K_4.wr W_7 (Or.inl (List.mem_of_getElem? (i := 0) rfl))
  have N_7 := Fr.snoc X_7 N_2 ga
  refine own_st st_7 ?_
  show own_Go p e below _ T_7 (mkF m 14 #[.val (.ref a1), .val (.ref b1), .val (.ref b2)] [])
  refine own_retV X_7 hx hlk Bd.returns (hb hby d2_14) (by decide) (by decide) ?_
  rw [e_7]
  exact ⟨rfl, N_7, K_9, F_10, F_8⟩
theorem d3_0 : decode method_2_code 0 = .ok (.iload_n 0, 1) := by decide +kernel
theorem d3_1 : decode method_2_code 1 = .ok (.bipush 8, 2) := by decide +kernel
theorem d3_3 : decode method_2_code 3 = .ok (.iload_n 1, 1) := by decide +kernel
theorem d3_4 : decode method_2_code 4 = .ok (.imul, 1) := by decide +kernel
theorem d3_5 : decode method_2_code 5 = .ok (.iushr, 1) := by decide +kernel
theorem d3_6 : decode method_2_code 6 = .ok (.sipush 255, 3) := by decide +kernel
theorem d3_9 : decode method_2_code 9 = .ok (.iand, 1) := by decide +kernel
theorem d3_10 : decode method_2_code 10 = .ok (.ireturn, 1) := by decide +kernel
theorem pn3 : plainFor (⟨"com/example/sluicegate/sluicegate/BinsMeanPinLaw", "nib", "(II)I"⟩ : MethodName) = true := by first | exact plainFor_of_name (by first | (simp [plainName, overriddenIn]; done) | decide +kernel) | decide +kernel
theorem ef3 (m : MethodId) (x1 : Int32) (x2 : Int32) : entryFrame m #[(.int x1), (.int x2)] 2 = mkF m 0 #[.val (.int x1), .val (.int x2)] [] := by first | (simp [entryFrame, mkF, argsToLocals, Value.category]; done) | rfl
def Q3 (Z : State) (x1 : Int32) (x2 : Int32) (h0 : Heap) (n0 : Nat) (v : Option Value) (h : Heap) (L : List Loc) : Prop := v = some (.int (own_nib x1 x2)) ∧ Fr n0 L ∧ h = h0
set_option maxRecDepth 65536 in
set_option maxHeartbeats 40000000 in
theorem rm3 (l : Launch) (Z : State) (a0 : Array Value) (hw : ∀ d ∈ tables_1, d.before a0 Z = true) (ws : List Jvm.Cond) (x1 : Int32) (x2 : Int32) (h0 : Heap) (n0 : Nat) (Z0 : n0 ≤ h0.size) :
    MetFree l (⟨"com/example/sluicegate/sluicegate/BinsMeanPinLaw", "nib", "(II)I"⟩ : MethodName) (head1 (Jvm.Cond.code (⟨"com/example/sluicegate/sluicegate/BinsMeanPinLaw", "nib", "(II)I"⟩ : MethodName) method_2_code 2 (some .int) :: ws) ({ frames := 0, cells := 0, slots := 0, locals := 0 } : Room)) (fun a U => a = #[(.int x1), (.int x2)] ∧ Z.Warmed39 U.vm ∧ U.heap = h0) (fun _ _ _ _ _ => True) (fun _ U o U' => ∃ v L, o = .returned v ∧ Q3 Z x1 x2 h0 n0 v U'.heap L ∧ FrameEnd U o U' L ({ frames := 0, cells := 0, slots := 0, locals := 0 } : Room).cells ({ frames := 0, cells := 0, slots := 0, locals := 0 } : Room).slots) := by
  refine MetFree.of_bodySF pn3 hisR ?_
  intro p e s m args below meth c s₁ Bd hml0 hP hK
  obtain ⟨rfl, hZ, hh⟩ := hP
  have hx := Bd.exec
  have hby := Bd.bytes
  have hlk : meth.locks = false := BodyLoose.notSynchronized Bd
  have hml : c.maxLocals = 2 := hml0
  have hown : s.vm.findClass "com/example/sluicegate/sluicegate/BinsMeanPinLaw" = some m.cls := findClass_of_methodNamed Bd.named
  have hnm := (name_of_methodNamed Bd.named Bd.method).1
  have X0 : Stand p l e ({ frames := 0, cells := 0, slots := 0, locals := 0 } : Room) s m #[(.int x1), (.int x2)] below meth c s₁ [] 0 0 := Stand.of_body Bd
  have e0 : s₁.heap = h0 := by rw [← hh, Bd.state]; rfl
  have N0 := Fr.nil n0
  rw [ef3 m x1 x2]
  show own_Go p e below (own_End s (Q3 Z x1 x2 h0 n0) ({ frames := 0, cells := 0, slots := 0, locals := 0 } : Room).cells ({ frames := 0, cells := 0, slots := 0, locals := 0 } : Room).slots) s₁ (mkF m 0 #[.val (.int x1), .val (.int x2)] [])
  refine own_iloadN X0 hx (hb hby d3_0) (pc' := 1) rfl rfl ?_
  refine own_bipush X0 hx (8) (hb hby d3_1) (pc' := 3) rfl (by decide) ?_
  refine own_iloadN X0 hx (hb hby d3_3) (pc' := 4) rfl rfl ?_
  refine own_imul X0 hx (hb hby d3_4) (pc' := 5) rfl ?_
  refine own_iushr X0 hx (hb hby d3_5) (pc' := 6) rfl ?_
  refine own_sipush X0 hx (255) (hb hby d3_6) (pc' := 9) rfl (by decide) ?_
  refine own_iand X0 hx (hb hby d3_9) (pc' := 10) rfl ?_
  refine own_retI X0 hx hlk Bd.returns (hb hby d3_10) (by decide) (by decide) ?_
  rw [e0]
  exact ⟨rfl, N0, rfl⟩
theorem d50_0 : decode prog_98_method_2_code 0 = .ok (.dconst 0, 1) := by decide +kernel
theorem d50_1 : decode prog_98_method_2_code 1 = .ok (.dstore_n 1, 1) := by decide +kernel
theorem d50_2 : decode prog_98_method_2_code 2 = .ok (.iconst 0, 1) := by decide +kernel
theorem d50_3 : decode prog_98_method_2_code 3 = .ok (.istore_n 3, 1) := by decide +kernel
theorem d50_4 : decode prog_98_method_2_code 4 = .ok (.iload_n 3, 1) := by decide +kernel
theorem d50_5 : decode prog_98_method_2_code 5 = .ok (.aload_n 0, 1) := by decide +kernel
theorem d50_6 : decode prog_98_method_2_code 6 = .ok (.getfield 7, 3) := by decide +kernel
theorem d50_9 : decode prog_98_method_2_code 9 = .ok (.arraylength, 1) := by decide +kernel
theorem d50_10 : decode prog_98_method_2_code 10 = .ok (.if_icmp .ge 25, 3) := by decide +kernel
theorem d50_35 : decode prog_98_method_2_code 35 = .ok (.dload_n 1, 1) := by decide +kernel
theorem d50_36 : decode prog_98_method_2_code 36 = .ok (.dreturn, 1) := by decide +kernel
theorem pn50 : plainFor (⟨"com/example/sluicegate/sluicegate/RecentTimes$Bins", "mean", "()D"⟩ : MethodName) = true := by first | exact plainFor_of_name (by first | (simp [plainName, overriddenIn]; done) | decide +kernel) | decide +kernel
theorem ef50 (m : MethodId) (a1 : Addr) : entryFrame m #[(.ref a1)] 4 = mkF m 0 #[.val (.ref a1), .unset, .unset, .unset] [] := by first | (simp [entryFrame, mkF, argsToLocals, Value.category]; done) | rfl
def Q50 (Z : State) (a1 : Addr) (b1 : Addr) (b2 : Addr) (k1 : ClassId) (k2 : ClassId) (h0 : Heap) (n0 : Nat) (v : Option Value) (h : Heap) (L : List Loc) : Prop := (∃ x : UInt64, v = some (.double x) ∧ own_E x (0 : Int)) ∧ Fr n0 L ∧ h = h0
set_option maxRecDepth 65536 in
set_option maxHeartbeats 40000000 in
theorem rm50 (l : Launch) (Z : State) (a0 : Array Value) (hw : ∀ d ∈ tables_1, d.before a0 Z = true) (ws : List Jvm.Cond) (a1 : Addr) (b1 : Addr) (b2 : Addr) (k1 : ClassId) (k2 : ClassId) (h0 : Heap) (n0 : Nat) (Z0 : n0 ≤ h0.size) (F_v : Fld Z h0 a1 "com/example/sluicegate/sluicegate/RecentTimes$Bins" "values" "[D" (.ref b1)) (F_w : Fld Z h0 a1 "com/example/sluicegate/sluicegate/RecentTimes$Bins" "weights" "[D" (.ref b2)) (V_v : Arv Z h0 b1 k1 .double (0 : Int32) [] (.double (0 : UInt64))) (V_w : Arv Z h0 b2 k2 .double (0 : Int32) [] (.double (0 : UInt64))) :
    MetFree l (⟨"com/example/sluicegate/sluicegate/RecentTimes$Bins", "mean", "()D"⟩ : MethodName) (head1 (Jvm.Cond.code (⟨"com/example/sluicegate/sluicegate/RecentTimes$Bins", "mean", "()D"⟩ : MethodName) prog_98_method_2_code 4 (some .double) :: ws) ({ frames := 0, cells := 0, slots := 0, locals := 0 } : Room)) (fun a U => a = #[(.ref a1)] ∧ Z.Warmed39 U.vm ∧ U.heap = h0) (fun _ _ _ _ _ => True) (fun _ U o U' => ∃ v L, o = .returned v ∧ Q50 Z a1 b1 b2 k1 k2 h0 n0 v U'.heap L ∧ FrameEnd U o U' L ({ frames := 0, cells := 0, slots := 0, locals := 0 } : Room).cells ({ frames := 0, cells := 0, slots := 0, locals := 0 } : Room).slots) := by
  refine MetFree.of_bodySF pn50 hisR ?_
  intro p e s m args below meth c s₁ Bd hml0 hP hK
  obtain ⟨rfl, hZ, hh⟩ := hP
  have hx := Bd.exec
  have hby := Bd.bytes
  have hlk : meth.locks = false := BodyLoose.notSynchronized Bd
  have hml : c.maxLocals = 4 := hml0
  have hown : s.vm.findClass "com/example/sluicegate/sluicegate/RecentTimes$Bins" = some m.cls := findClass_of_methodNamed Bd.named
  have hnm := (name_of_methodNamed Bd.named Bd.method).1
  have X0 : Stand p l e ({ frames := 0, cells := 0, slots := 0, locals := 0 } : Room) s m #[(.ref a1)] below meth c s₁ [] 0 0 := Stand.of_body Bd
  have e0 : s₁.heap = h0 := by rw [← hh, Bd.state]; rfl
  have N0 := Fr.nil n0
  rw [ef50 m a1]
  show own_Go p e below (own_End s (Q50 Z a1 b1 b2 k1 k2 h0 n0) ({ frames := 0, cells := 0, slots := 0, locals := 0 } : Room).cells ({ frames := 0, cells := 0, slots := 0, locals := 0 } : Room).slots) s₁ (mkF m 0 #[.val (.ref a1), .unset, .unset, .unset] [])
  refine own_dconst X0 hx (hb hby d50_0) (pc' := 1) rfl ?_
  refine own_dstoreN X0 hx (hb hby d50_1) (pc' := 2) (Ls' := #[.val (.ref a1), .val (.double (FP.l2d 0)), .second, .unset]) rfl rfl ?_
  refine own_iconst X0 hx (0) (hb hby d50_2) (pc' := 3) rfl rfl ?_
  refine own_istoreN X0 hx (hb hby d50_3) (pc' := 4) (Ls' := #[.val (.ref a1), .val (.double (FP.l2d 0)), .second, .val (.int (0 : Int32))]) rfl rfl ?_
  refine own_iloadN X0 hx (hb hby d50_4) (pc' := 5) rfl rfl ?_
  refine own_aloadN X0 hx (hb hby d50_5) (pc' := 6) rfl rfl rfl ?_
  obtain ⟨T_1, X_1, e_1, st_1⟩ := getF X0 hx hZ hown (host := "") (Or.inl (hw _ (List.mem_of_getElem? (i := 16) rfl))) Via.refl e0 F_v (g := (mkF m 6 #[.val (.ref a1), .val (.double (FP.l2d 0)), .second, .val (.int (0 : Int32))] [(.ref a1), (.int (0 : Int32))])) rfl rfl (hb hby d50_6)
  refine own_st st_1 ?_
  show own_Go p e below _ T_1 (mkF m 9 #[.val (.ref a1), .val (.double (FP.l2d 0)), .second, .val (.int (0 : Int32))] [(.ref b1), (.int (0 : Int32))])
  refine own_alen X_1 hx hZ e_1 V_v (hb hby d50_9) (pc' := 10) rfl ?_
  refine own_icmpY X_1 hx (hb hby d50_10) (by decide) (pc' := 35) (by decide) (by decide) ?_
  refine own_dloadN X_1 hx (hb hby d50_35) (pc' := 36) rfl rfl ?_
  refine own_retD X_1 hx hlk Bd.returns (hb hby d50_36) (by decide) (by decide) ?_
  rw [e_1]
  exact ⟨⟨_, rfl, own_E0⟩, N0, rfl⟩
theorem d51_0 : decode prog_98_method_2_code 0 = .ok (.dconst 0, 1) := by decide +kernel
theorem d51_1 : decode prog_98_method_2_code 1 = .ok (.dstore_n 1, 1) := by decide +kernel
theorem d51_2 : decode prog_98_method_2_code 2 = .ok (.iconst 0, 1) := by decide +kernel
theorem d51_3 : decode prog_98_method_2_code 3 = .ok (.istore_n 3, 1) := by decide +kernel
theorem d51_4 : decode prog_98_method_2_code 4 = .ok (.iload_n 3, 1) := by decide +kernel
theorem d51_5 : decode prog_98_method_2_code 5 = .ok (.aload_n 0, 1) := by decide +kernel
theorem d51_6 : decode prog_98_method_2_code 6 = .ok (.getfield 7, 3) := by decide +kernel
theorem d51_9 : decode prog_98_method_2_code 9 = .ok (.arraylength, 1) := by decide +kernel
theorem d51_10 : decode prog_98_method_2_code 10 = .ok (.if_icmp .ge 25, 3) := by decide +kernel
theorem d51_13 : decode prog_98_method_2_code 13 = .ok (.dload_n 1, 1) := by decide +kernel
theorem d51_14 : decode prog_98_method_2_code 14 = .ok (.aload_n 0, 1) := by decide +kernel
theorem d51_15 : decode prog_98_method_2_code 15 = .ok (.getfield 7, 3) := by decide +kernel
theorem d51_18 : decode prog_98_method_2_code 18 = .ok (.iload_n 3, 1) := by decide +kernel
theorem d51_19 : decode prog_98_method_2_code 19 = .ok (.daload, 1) := by decide +kernel
theorem d51_20 : decode prog_98_method_2_code 20 = .ok (.aload_n 0, 1) := by decide +kernel
theorem d51_21 : decode prog_98_method_2_code 21 = .ok (.getfield 13, 3) := by decide +kernel
theorem d51_24 : decode prog_98_method_2_code 24 = .ok (.iload_n 3, 1) := by decide +kernel
theorem d51_25 : decode prog_98_method_2_code 25 = .ok (.daload, 1) := by decide +kernel
theorem d51_26 : decode prog_98_method_2_code 26 = .ok (.dmul, 1) := by decide +kernel
theorem d51_27 : decode prog_98_method_2_code 27 = .ok (.dadd, 1) := by decide +kernel
theorem d51_28 : decode prog_98_method_2_code 28 = .ok (.dstore_n 1, 1) := by decide +kernel
theorem d51_29 : decode prog_98_method_2_code 29 = .ok (.iinc 3 1, 3) := by decide +kernel
theorem d51_32 : decode prog_98_method_2_code 32 = .ok (.goto (-28), 3) := by decide +kernel
theorem d51_35 : decode prog_98_method_2_code 35 = .ok (.dload_n 1, 1) := by decide +kernel
theorem d51_36 : decode prog_98_method_2_code 36 = .ok (.dreturn, 1) := by decide +kernel
theorem pn51 : plainFor (⟨"com/example/sluicegate/sluicegate/RecentTimes$Bins", "mean", "()D"⟩ : MethodName) = true := by first | exact plainFor_of_name (by first | (simp [plainName, overriddenIn]; done) | decide +kernel) | decide +kernel
theorem ef51 (m : MethodId) (a1 : Addr) : entryFrame m #[(.ref a1)] 4 = mkF m 0 #[.val (.ref a1), .unset, .unset, .unset] [] := by first | (simp [entryFrame, mkF, argsToLocals, Value.category]; done) | rfl
def Q51 (Z : State) (a1 : Addr) (b1 : Addr) (b2 : Addr) (k1 : ClassId) (k2 : ClassId) (v0 : UInt64) (w0 : UInt64) (i0 : Int) (j0 : Int) (h0 : Heap) (n0 : Nat) (v : Option Value) (h : Heap) (L : List Loc) : Prop := (∃ x : UInt64, v = some (.double x) ∧ own_E x ((0 : Int) + i0 * j0)) ∧ Fr n0 L ∧ h = h0
set_option maxRecDepth 65536 in
set_option maxHeartbeats 40000000 in
theorem rm51 (l : Launch) (Z : State) (a0 : Array Value) (hw : ∀ d ∈ tables_1, d.before a0 Z = true) (ws : List Jvm.Cond) (a1 : Addr) (b1 : Addr) (b2 : Addr) (k1 : ClassId) (k2 : ClassId) (v0 : UInt64) (w0 : UInt64) (i0 : Int) (j0 : Int) (h0 : Heap) (n0 : Nat) (Z0 : n0 ≤ h0.size) (F_v : Fld Z h0 a1 "com/example/sluicegate/sluicegate/RecentTimes$Bins" "values" "[D" (.ref b1)) (F_w : Fld Z h0 a1 "com/example/sluicegate/sluicegate/RecentTimes$Bins" "weights" "[D" (.ref b2)) (V_v : Arv Z h0 b1 k1 .double (1 : Int32) [(.double v0)] (.double (0 : UInt64))) (V_w : Arv Z h0 b2 k2 .double (1 : Int32) [(.double w0)] (.double (0 : UInt64))) (Ev0 : own_E v0 (256 * i0)) (Ew0 : own_E w0 j0) (Ha0 : -2147483648 ≤ i0 ∧ i0 < 2147483648) (Hc0 : 0 ≤ j0 ∧ j0 ≤ 255) :
    MetFree l (⟨"com/example/sluicegate/sluicegate/RecentTimes$Bins", "mean", "()D"⟩ : MethodName) (head1 (Jvm.Cond.code (⟨"com/example/sluicegate/sluicegate/RecentTimes$Bins", "mean", "()D"⟩ : MethodName) prog_98_method_2_code 4 (some .double) :: ws) ({ frames := 0, cells := 0, slots := 0, locals := 0 } : Room)) (fun a U => a = #[(.ref a1)] ∧ Z.Warmed39 U.vm ∧ U.heap = h0) (fun _ _ _ _ _ => True) (fun _ U o U' => ∃ v L, o = .returned v ∧ Q51 Z a1 b1 b2 k1 k2 v0 w0 i0 j0 h0 n0 v U'.heap L ∧ FrameEnd U o U' L ({ frames := 0, cells := 0, slots := 0, locals := 0 } : Room).cells ({ frames := 0, cells := 0, slots := 0, locals := 0 } : Room).slots) := by
  refine MetFree.of_bodySF pn51 hisR ?_
  intro p e s m args below meth c s₁ Bd hml0 hP hK
  obtain ⟨rfl, hZ, hh⟩ := hP
  have hx := Bd.exec
  have hby := Bd.bytes
  have hlk : meth.locks = false := BodyLoose.notSynchronized Bd
  have hml : c.maxLocals = 4 := hml0
  have hown : s.vm.findClass "com/example/sluicegate/sluicegate/RecentTimes$Bins" = some m.cls := findClass_of_methodNamed Bd.named
  have hnm := (name_of_methodNamed Bd.named Bd.method).1
  have X0 : Stand p l e ({ frames := 0, cells := 0, slots := 0, locals := 0 } : Room) s m #[(.ref a1)] below meth c s₁ [] 0 0 := Stand.of_body Bd
  have e0 : s₁.heap = h0 := by rw [← hh, Bd.state]; rfl
  have N0 := Fr.nil n0
  rw [ef51 m a1]
  show own_Go p e below (own_End s (Q51 Z a1 b1 b2 k1 k2 v0 w0 i0 j0 h0 n0) ({ frames := 0, cells := 0, slots := 0, locals := 0 } : Room).cells ({ frames := 0, cells := 0, slots := 0, locals := 0 } : Room).slots) s₁ (mkF m 0 #[.val (.ref a1), .unset, .unset, .unset] [])
  refine own_dconst X0 hx (hb hby d51_0) (pc' := 1) rfl ?_
  refine own_dstoreN X0 hx (hb hby d51_1) (pc' := 2) (Ls' := #[.val (.ref a1), .val (.double (FP.l2d 0)), .second, .unset]) rfl rfl ?_
  refine own_iconst X0 hx (0) (hb hby d51_2) (pc' := 3) rfl rfl ?_
  refine own_istoreN X0 hx (hb hby d51_3) (pc' := 4) (Ls' := #[.val (.ref a1), .val (.double (FP.l2d 0)), .second, .val (.int (0 : Int32))]) rfl rfl ?_
  refine own_iloadN X0 hx (hb hby d51_4) (pc' := 5) rfl rfl ?_
  refine own_aloadN X0 hx (hb hby d51_5) (pc' := 6) rfl rfl rfl ?_
  obtain ⟨T_1, X_1, e_1, st_1⟩ := getF X0 hx hZ hown (host := "") (Or.inl (hw _ (List.mem_of_getElem? (i := 16) rfl))) Via.refl e0 F_v (g := (mkF m 6 #[.val (.ref a1), .val (.double (FP.l2d 0)), .second, .val (.int (0 : Int32))] [(.ref a1), (.int (0 : Int32))])) rfl rfl (hb hby d51_6)
  refine own_st st_1 ?_
  show own_Go p e below _ T_1 (mkF m 9 #[.val (.ref a1), .val (.double (FP.l2d 0)), .second, .val (.int (0 : Int32))] [(.ref b1), (.int (0 : Int32))])
  refine own_alen X_1 hx hZ e_1 V_v (hb hby d51_9) (pc' := 10) rfl ?_
  refine own_icmpN X_1 hx (hb hby d51_10) (by decide) (pc' := 13) rfl ?_
  refine own_dloadN X_1 hx (hb hby d51_13) (pc' := 14) rfl rfl ?_
  refine own_aloadN X_1 hx (hb hby d51_14) (pc' := 15) rfl rfl rfl ?_
  obtain ⟨T_2, X_2, e_2, st_2⟩ := getF X_1 hx hZ hown (host := "") (Or.inl (hw _ (List.mem_of_getElem? (i := 16) rfl))) Via.refl e_1 F_v (g := (mkF m 15 #[.val (.ref a1), .val (.double (FP.l2d 0)), .second, .val (.int (0 : Int32))] [(.ref a1), (.double (FP.l2d 0))])) rfl rfl (hb hby d51_15)
  refine own_st st_2 ?_
  show own_Go p e below _ T_2 (mkF m 18 #[.val (.ref a1), .val (.double (FP.l2d 0)), .second, .val (.int (0 : Int32))] [(.ref b1), (.double (FP.l2d 0))])
  refine own_iloadN X_2 hx (hb hby d51_18) (pc' := 19) rfl rfl ?_
  refine own_daload X_2 hx hZ e_2 V_v ⟨by decide, by decide⟩ rfl (hb hby d51_19) (pc' := 20) rfl ?_
  refine own_aloadN X_2 hx (hb hby d51_20) (pc' := 21) rfl rfl rfl ?_
  obtain ⟨T_3, X_3, e_3, st_3⟩ := getF X_2 hx hZ hown (host := "") (Or.inl (hw _ (List.mem_of_getElem? (i := 18) rfl))) Via.refl e_2 F_w (g := (mkF m 21 #[.val (.ref a1), .val (.double (FP.l2d 0)), .second, .val (.int (0 : Int32))] [(.ref a1), (.double v0), (.double (FP.l2d 0))])) rfl rfl (hb hby d51_21)
  refine own_st st_3 ?_
  show own_Go p e below _ T_3 (mkF m 24 #[.val (.ref a1), .val (.double (FP.l2d 0)), .second, .val (.int (0 : Int32))] [(.ref b2), (.double v0), (.double (FP.l2d 0))])
  refine own_iloadN X_3 hx (hb hby d51_24) (pc' := 25) rfl rfl ?_
  refine own_daload X_3 hx hZ e_3 V_w ⟨by decide, by decide⟩ rfl (hb hby d51_25) (pc' := 26) rfl ?_
  have P0 := own_pb Ha0 Hc0
  have Ep0 := own_Em Ev0 Ew0 (by omega) (by omega)
  refine own_dmul X_3 hx (hb hby d51_26) (pc' := 27) rfl (own_En Ep0) ?_
  have Ea0 := own_Ea own_E0 Ep0 (by omega) (by omega)
  refine own_dadd X_3 hx (hb hby d51_27) (pc' := 28) rfl (own_En Ea0) ?_
  refine own_dstoreN X_3 hx (hb hby d51_28) (pc' := 29) (Ls' := #[.val (.ref a1), .val (.double (FP.dadd (FP.l2d 0) (FP.dmul v0 w0))), .second, .val (.int (0 : Int32))]) rfl rfl ?_
  refine own_iinc X_3 hx (1 : Int32) (hb hby d51_29) (pc' := 32) (Ls' := #[.val (.ref a1), .val (.double (FP.dadd (FP.l2d 0) (FP.dmul v0 w0))), .second, .val (.int (1 : Int32))]) rfl rfl (by decide) rfl ?_
  refine own_goto X_3 hx (hb hby d51_32) (pc' := 4) (by decide) (by decide) ?_
  refine own_iloadN X_3 hx (hb hby d51_4) (pc' := 5) rfl rfl ?_
  refine own_aloadN X_3 hx (hb hby d51_5) (pc' := 6) rfl rfl rfl ?_
  obtain ⟨T_4, X_4, e_4, st_4⟩ := getF X_3 hx hZ hown (host := "") (Or.inl (hw _ (List.mem_of_getElem? (i := 16) rfl))) Via.refl e_3 F_v (g := (mkF m 6 #[.val (.ref a1), .val (.double (FP.dadd (FP.l2d 0) (FP.dmul v0 w0))), .second, .val (.int (1 : Int32))] [(.ref a1), (.int (1 : Int32))])) rfl rfl (hb hby d51_6)
  refine own_st st_4 ?_
  show own_Go p e below _ T_4 (mkF m 9 #[.val (.ref a1), .val (.double (FP.dadd (FP.l2d 0) (FP.dmul v0 w0))), .second, .val (.int (1 : Int32))] [(.ref b1), (.int (1 : Int32))])
  refine own_alen X_4 hx hZ e_4 V_v (hb hby d51_9) (pc' := 10) rfl ?_
  refine own_icmpY X_4 hx (hb hby d51_10) (by decide) (pc' := 35) (by decide) (by decide) ?_
  refine own_dloadN X_4 hx (hb hby d51_35) (pc' := 36) rfl rfl ?_
  refine own_retD X_4 hx hlk Bd.returns (hb hby d51_36) (by decide) (by decide) ?_
  rw [e_4]
  exact ⟨⟨_, rfl, Ea0⟩, N0, rfl⟩
theorem d52_0 : decode prog_98_method_2_code 0 = .ok (.dconst 0, 1) := by decide +kernel
theorem d52_1 : decode prog_98_method_2_code 1 = .ok (.dstore_n 1, 1) := by decide +kernel
theorem d52_2 : decode prog_98_method_2_code 2 = .ok (.iconst 0, 1) := by decide +kernel
theorem d52_3 : decode prog_98_method_2_code 3 = .ok (.istore_n 3, 1) := by decide +kernel
theorem d52_4 : decode prog_98_method_2_code 4 = .ok (.iload_n 3, 1) := by decide +kernel
theorem d52_5 : decode prog_98_method_2_code 5 = .ok (.aload_n 0, 1) := by decide +kernel
theorem d52_6 : decode prog_98_method_2_code 6 = .ok (.getfield 7, 3) := by decide +kernel
theorem d52_9 : decode prog_98_method_2_code 9 = .ok (.arraylength, 1) := by decide +kernel
theorem d52_10 : decode prog_98_method_2_code 10 = .ok (.if_icmp .ge 25, 3) := by decide +kernel
theorem d52_13 : decode prog_98_method_2_code 13 = .ok (.dload_n 1, 1) := by decide +kernel
theorem d52_14 : decode prog_98_method_2_code 14 = .ok (.aload_n 0, 1) := by decide +kernel
theorem d52_15 : decode prog_98_method_2_code 15 = .ok (.getfield 7, 3) := by decide +kernel
theorem d52_18 : decode prog_98_method_2_code 18 = .ok (.iload_n 3, 1) := by decide +kernel
theorem d52_19 : decode prog_98_method_2_code 19 = .ok (.daload, 1) := by decide +kernel
theorem d52_20 : decode prog_98_method_2_code 20 = .ok (.aload_n 0, 1) := by decide +kernel
theorem d52_21 : decode prog_98_method_2_code 21 = .ok (.getfield 13, 3) := by decide +kernel
theorem d52_24 : decode prog_98_method_2_code 24 = .ok (.iload_n 3, 1) := by decide +kernel
theorem d52_25 : decode prog_98_method_2_code 25 = .ok (.daload, 1) := by decide +kernel
theorem d52_26 : decode prog_98_method_2_code 26 = .ok (.dmul, 1) := by decide +kernel
theorem d52_27 : decode prog_98_method_2_code 27 = .ok (.dadd, 1) := by decide +kernel
theorem d52_28 : decode prog_98_method_2_code 28 = .ok (.dstore_n 1, 1) := by decide +kernel
theorem d52_29 : decode prog_98_method_2_code 29 = .ok (.iinc 3 1, 3) := by decide +kernel
theorem d52_32 : decode prog_98_method_2_code 32 = .ok (.goto (-28), 3) := by decide +kernel
theorem d52_35 : decode prog_98_method_2_code 35 = .ok (.dload_n 1, 1) := by decide +kernel
theorem d52_36 : decode prog_98_method_2_code 36 = .ok (.dreturn, 1) := by decide +kernel
theorem pn52 : plainFor (⟨"com/example/sluicegate/sluicegate/RecentTimes$Bins", "mean", "()D"⟩ : MethodName) = true := by first | exact plainFor_of_name (by first | (simp [plainName, overriddenIn]; done) | decide +kernel) | decide +kernel
theorem ef52 (m : MethodId) (a1 : Addr) : entryFrame m #[(.ref a1)] 4 = mkF m 0 #[.val (.ref a1), .unset, .unset, .unset] [] := by first | (simp [entryFrame, mkF, argsToLocals, Value.category]; done) | rfl
def Q52 (Z : State) (a1 : Addr) (b1 : Addr) (b2 : Addr) (k1 : ClassId) (k2 : ClassId) (v0 : UInt64) (v1 : UInt64) (w0 : UInt64) (w1 : UInt64) (i0 : Int) (i1 : Int) (j0 : Int) (j1 : Int) (h0 : Heap) (n0 : Nat) (v : Option Value) (h : Heap) (L : List Loc) : Prop := (∃ x : UInt64, v = some (.double x) ∧ own_E x (((0 : Int) + i0 * j0) + i1 * j1)) ∧ Fr n0 L ∧ h = h0
set_option maxRecDepth 65536 in
set_option maxHeartbeats 40000000 in
theorem rm52 (l : Launch) (Z : State) (a0 : Array Value) (hw : ∀ d ∈ tables_1, d.before a0 Z = true) (ws : List Jvm.Cond) (a1 : Addr) (b1 : Addr) (b2 : Addr) (k1 : ClassId) (k2 : ClassId) (v0 : UInt64) (v1 : UInt64) (w0 : UInt64) (w1 : UInt64) (i0 : Int) (i1 : Int) (j0 : Int) (j1 : Int) (h0 : Heap) (n0 : Nat) (Z0 : n0 ≤ h0.size) (F_v : Fld Z h0 a1 "com/example/sluicegate/sluicegate/RecentTimes$Bins" "values" "[D" (.ref b1)) (F_w : Fld Z h0 a1 "com/example/sluicegate/sluicegate/RecentTimes$Bins" "weights" "[D" (.ref b2)) (V_v : Arv Z h0 b1 k1 .double (2 : Int32) [(.double v0), (.double v1)] (.double (0 : UInt64))) (V_w : Arv Z h0 b2 k2 .double (2 : Int32) [(.double w0), (.double w1)] (.double (0 : UInt64))) (Ev0 : own_E v0 (256 * i0)) (Ev1 : own_E v1 (256 * i1)) (Ew0 : own_E w0 j0) (Ew1 : own_E w1 j1) (Ha0 : -2147483648 ≤ i0 ∧ i0 < 2147483648) (Ha1 : -2147483648 ≤ i1 ∧ i1 < 2147483648) (Hc0 : 0 ≤ j0 ∧ j0 ≤ 255) (Hc1 : 0 ≤ j1 ∧ j1 ≤ 255) :
    MetFree l (⟨"com/example/sluicegate/sluicegate/RecentTimes$Bins", "mean", "()D"⟩ : MethodName) (head1 (Jvm.Cond.code (⟨"com/example/sluicegate/sluicegate/RecentTimes$Bins", "mean", "()D"⟩ : MethodName) prog_98_method_2_code 4 (some .double) :: ws) ({ frames := 0, cells := 0, slots := 0, locals := 0 } : Room)) (fun a U => a = #[(.ref a1)] ∧ Z.Warmed39 U.vm ∧ U.heap = h0) (fun _ _ _ _ _ => True) (fun _ U o U' => ∃ v L, o = .returned v ∧ Q52 Z a1 b1 b2 k1 k2 v0 v1 w0 w1 i0 i1 j0 j1 h0 n0 v U'.heap L ∧ FrameEnd U o U' L ({ frames := 0, cells := 0, slots := 0, locals := 0 } : Room).cells ({ frames := 0, cells := 0, slots := 0, locals := 0 } : Room).slots) := by
  refine MetFree.of_bodySF pn52 hisR ?_
  intro p e s m args below meth c s₁ Bd hml0 hP hK
  obtain ⟨rfl, hZ, hh⟩ := hP
  have hx := Bd.exec
  have hby := Bd.bytes
  have hlk : meth.locks = false := BodyLoose.notSynchronized Bd
  have hml : c.maxLocals = 4 := hml0
  have hown : s.vm.findClass "com/example/sluicegate/sluicegate/RecentTimes$Bins" = some m.cls := findClass_of_methodNamed Bd.named
  have hnm := (name_of_methodNamed Bd.named Bd.method).1
  have X0 : Stand p l e ({ frames := 0, cells := 0, slots := 0, locals := 0 } : Room) s m #[(.ref a1)] below meth c s₁ [] 0 0 := Stand.of_body Bd
  have e0 : s₁.heap = h0 := by rw [← hh, Bd.state]; rfl
  have N0 := Fr.nil n0
  rw [ef52 m a1]
  show own_Go p e below (own_End s (Q52 Z a1 b1 b2 k1 k2 v0 v1 w0 w1 i0 i1 j0 j1 h0 n0) ({ frames := 0, cells := 0, slots := 0, locals := 0 } : Room).cells ({ frames := 0, cells := 0, slots := 0, locals := 0 } : Room).slots) s₁ (mkF m 0 #[.val (.ref a1), .unset, .unset, .unset] [])
  refine own_dconst X0 hx (hb hby d52_0) (pc' := 1) rfl ?_
  refine own_dstoreN X0 hx (hb hby d52_1) (pc' := 2) (Ls' := #[.val (.ref a1), .val (.double (FP.l2d 0)), .second, .unset]) rfl rfl ?_
  refine own_iconst X0 hx (0) (hb hby d52_2) (pc' := 3) rfl rfl ?_
  refine own_istoreN X0 hx (hb hby d52_3) (pc' := 4) (Ls' := #[.val (.ref a1), .val (.double (FP.l2d 0)), .second, .val (.int (0 : Int32))]) rfl rfl ?_
  refine own_iloadN X0 hx (hb hby d52_4) (pc' := 5) rfl rfl ?_
  refine own_aloadN X0 hx (hb hby d52_5) (pc' := 6) rfl rfl rfl ?_
  obtain ⟨T_1, X_1, e_1, st_1⟩ := getF X0 hx hZ hown (host := "") (Or.inl (hw _ (List.mem_of_getElem? (i := 16) rfl))) Via.refl e0 F_v (g := (mkF m 6 #[.val (.ref a1), .val (.double (FP.l2d 0)), .second, .val (.int (0 : Int32))] [(.ref a1), (.int (0 : Int32))])) rfl rfl (hb hby d52_6)
  refine own_st st_1 ?_
  show own_Go p e below _ T_1 (mkF m 9 #[.val (.ref a1), .val (.double (FP.l2d 0)), .second, .val (.int (0 : Int32))] [(.ref b1), (.int (0 : Int32))])
  refine own_alen X_1 hx hZ e_1 V_v (hb hby d52_9) (pc' := 10) rfl ?_
  refine own_icmpN X_1 hx (hb hby d52_10) (by decide) (pc' := 13) rfl ?_
  refine own_dloadN X_1 hx (hb hby d52_13) (pc' := 14) rfl rfl ?_
  refine own_aloadN X_1 hx (hb hby d52_14) (pc' := 15) rfl rfl rfl ?_
  obtain ⟨T_2, X_2, e_2, st_2⟩ := getF X_1 hx hZ hown (host := "") (Or.inl (hw _ (List.mem_of_getElem? (i := 16) rfl))) Via.refl e_1 F_v (g := (mkF m 15 #[.val (.ref a1), .val (.double (FP.l2d 0)), .second, .val (.int (0 : Int32))] [(.ref a1), (.double (FP.l2d 0))])) rfl rfl (hb hby d52_15)
  refine own_st st_2 ?_
  show own_Go p e below _ T_2 (mkF m 18 #[.val (.ref a1), .val (.double (FP.l2d 0)), .second, .val (.int (0 : Int32))] [(.ref b1), (.double (FP.l2d 0))])
  refine own_iloadN X_2 hx (hb hby d52_18) (pc' := 19) rfl rfl ?_
  refine own_daload X_2 hx hZ e_2 V_v ⟨by decide, by decide⟩ rfl (hb hby d52_19) (pc' := 20) rfl ?_
  refine own_aloadN X_2 hx (hb hby d52_20) (pc' := 21) rfl rfl rfl ?_
  obtain ⟨T_3, X_3, e_3, st_3⟩ := getF X_2 hx hZ hown (host := "") (Or.inl (hw _ (List.mem_of_getElem? (i := 18) rfl))) Via.refl e_2 F_w (g := (mkF m 21 #[.val (.ref a1), .val (.double (FP.l2d 0)), .second, .val (.int (0 : Int32))] [(.ref a1), (.double v0), (.double (FP.l2d 0))])) rfl rfl (hb hby d52_21)
  refine own_st st_3 ?_
  show own_Go p e below _ T_3 (mkF m 24 #[.val (.ref a1), .val (.double (FP.l2d 0)), .second, .val (.int (0 : Int32))] [(.ref b2), (.double v0), (.double (FP.l2d 0))])
  refine own_iloadN X_3 hx (hb hby d52_24) (pc' := 25) rfl rfl ?_
  refine own_daload X_3 hx hZ e_3 V_w ⟨by decide, by decide⟩ rfl (hb hby d52_25) (pc' := 26) rfl ?_
  have P0 := own_pb Ha0 Hc0
  have Ep0 := own_Em Ev0 Ew0 (by omega) (by omega)
  refine own_dmul X_3 hx (hb hby d52_26) (pc' := 27) rfl (own_En Ep0) ?_
  have Ea0 := own_Ea own_E0 Ep0 (by omega) (by omega)
  refine own_dadd X_3 hx (hb hby d52_27) (pc' := 28) rfl (own_En Ea0) ?_
  refine own_dstoreN X_3 hx (hb hby d52_28) (pc' := 29) (Ls' := #[.val (.ref a1), .val (.double (FP.dadd (FP.l2d 0) (FP.dmul v0 w0))), .second, .val (.int (0 : Int32))]) rfl rfl ?_
  refine own_iinc X_3 hx (1 : Int32) (hb hby d52_29) (pc' := 32) (Ls' := #[.val (.ref a1), .val (.double (FP.dadd (FP.l2d 0) (FP.dmul v0 w0))), .second, .val (.int (1 : Int32))]) rfl rfl (by decide) rfl ?_
  refine own_goto X_3 hx (hb hby d52_32) (pc' := 4) (by decide) (by decide) ?_
  refine own_iloadN X_3 hx (hb hby d52_4) (pc' := 5) rfl rfl ?_
  refine own_aloadN X_3 hx (hb hby d52_5) (pc' := 6) rfl rfl rfl ?_
  obtain ⟨T_4, X_4, e_4, st_4⟩ := getF X_3 hx hZ hown (host := "") (Or.inl (hw _ (List.mem_of_getElem? (i := 16) rfl))) Via.refl e_3 F_v (g := (mkF m 6 #[.val (.ref a1), .val (.double (FP.dadd (FP.l2d 0) (FP.dmul v0 w0))), .second, .val (.int (1 : Int32))] [(.ref a1), (.int (1 : Int32))])) rfl rfl (hb hby d52_6)
  refine own_st st_4 ?_
  show own_Go p e below _ T_4 (mkF m 9 #[.val (.ref a1), .val (.double (FP.dadd (FP.l2d 0) (FP.dmul v0 w0))), .second, .val (.int (1 : Int32))] [(.ref b1), (.int (1 : Int32))])
  refine own_alen X_4 hx hZ e_4 V_v (hb hby d52_9) (pc' := 10) rfl ?_
  refine own_icmpN X_4 hx (hb hby d52_10) (by decide) (pc' := 13) rfl ?_
  refine own_dloadN X_4 hx (hb hby d52_13) (pc' := 14) rfl rfl ?_
  refine own_aloadN X_4 hx (hb hby d52_14) (pc' := 15) rfl rfl rfl ?_
  obtain ⟨T_5, X_5, e_5, st_5⟩ := getF X_4 hx hZ hown (host := "") (Or.inl (hw _ (List.mem_of_getElem? (i := 16) rfl))) Via.refl e_4 F_v (g := (mkF m 15 #[.val (.ref a1), .val (.double (FP.dadd (FP.l2d 0) (FP.dmul v0 w0))), .second, .val (.int (1 : Int32))] [(.ref a1), (.double (FP.dadd (FP.l2d 0) (FP.dmul v0 w0)))])) rfl rfl (hb hby d52_15)
  refine own_st st_5 ?_
  show own_Go p e below _ T_5 (mkF m 18 #[.val (.ref a1), .val (.double (FP.dadd (FP.l2d 0) (FP.dmul v0 w0))), .second, .val (.int (1 : Int32))] [(.ref b1), (.double (FP.dadd (FP.l2d 0) (FP.dmul v0 w0)))])
  refine own_iloadN X_5 hx (hb hby d52_18) (pc' := 19) rfl rfl ?_
  refine own_daload X_5 hx hZ e_5 V_v ⟨by decide, by decide⟩ rfl (hb hby d52_19) (pc' := 20) rfl ?_
  refine own_aloadN X_5 hx (hb hby d52_20) (pc' := 21) rfl rfl rfl ?_
  obtain ⟨T_6, X_6, e_6, st_6⟩ := getF X_5 hx hZ hown (host := "") (Or.inl (hw _ (List.mem_of_getElem? (i := 18) rfl))) Via.refl e_5 F_w (g := (mkF m 21 #[.val (.ref a1), .val (.double (FP.dadd (FP.l2d 0) (FP.dmul v0 w0))), .second, .val (.int (1 : Int32))] [(.ref a1), (.double v1), (.double (FP.dadd (FP.l2d 0) (FP.dmul v0 w0)))])) rfl rfl (hb hby d52_21)
  refine own_st st_6 ?_
  show own_Go p e below _ T_6 (mkF m 24 #[.val (.ref a1), .val (.double (FP.dadd (FP.l2d 0) (FP.dmul v0 w0))), .second, .val (.int (1 : Int32))] [(.ref b2), (.double v1), (.double (FP.dadd (FP.l2d 0) (FP.dmul v0 w0)))])
  refine own_iloadN X_6 hx (hb hby d52_24) (pc' := 25) rfl rfl ?_
  refine own_daload X_6 hx hZ e_6 V_w ⟨by decide, by decide⟩ rfl (hb hby d52_25) (pc' := 26) rfl ?_
  have P1 := own_pb Ha1 Hc1
  have Ep1 := own_Em Ev1 Ew1 (by omega) (by omega)
  refine own_dmul X_6 hx (hb hby d52_26) (pc' := 27) rfl (own_En Ep1) ?_
  have Ea1 := own_Ea Ea0 Ep1 (by omega) (by omega)
  refine own_dadd X_6 hx (hb hby d52_27) (pc' := 28) rfl (own_En Ea1) ?_
  refine own_dstoreN X_6 hx (hb hby d52_28) (pc' := 29) (Ls' := #[.val (.ref a1), .val (.double (FP.dadd (FP.dadd (FP.l2d 0) (FP.dmul v0 w0)) (FP.dmul v1 w1))), .second, .val (.int (1 : Int32))]) rfl rfl ?_
  refine own_iinc X_6 hx (2 : Int32) (hb hby d52_29) (pc' := 32) (Ls' := #[.val (.ref a1), .val (.double (FP.dadd (FP.dadd (FP.l2d 0) (FP.dmul v0 w0)) (FP.dmul v1 w1))), .second, .val (.int (2 : Int32))]) rfl rfl (by decide) rfl ?_
  refine own_goto X_6 hx (hb hby d52_32) (pc' := 4) (by decide) (by decide) ?_
  refine own_iloadN X_6 hx (hb hby d52_4) (pc' := 5) rfl rfl ?_
  refine own_aloadN X_6 hx (hb hby d52_5) (pc' := 6) rfl rfl rfl ?_
  obtain ⟨T_7, X_7, e_7, st_7⟩ := getF X_6 hx hZ hown (host := "") (Or.inl (hw _ (List.mem_of_getElem? (i := 16) rfl))) Via.refl e_6 F_v (g := (mkF m 6 #[.val (.ref a1), .val (.double (FP.dadd (FP.dadd (FP.l2d 0) (FP.dmul v0 w0)) (FP.dmul v1 w1))), .second, .val (.int (2 : Int32))] [(.ref a1), (.int (2 : Int32))])) rfl rfl (hb hby d52_6)
  refine own_st st_7 ?_
  show own_Go p e below _ T_7 (mkF m 9 #[.val (.ref a1), .val (.double (FP.dadd (FP.dadd (FP.l2d 0) (FP.dmul v0 w0)) (FP.dmul v1 w1))), .second, .val (.int (2 : Int32))] [(.ref b1), (.int (2 : Int32))])
  refine own_alen X_7 hx hZ e_7 V_v (hb hby d52_9) (pc' := 10) rfl ?_
  refine own_icmpY X_7 hx (hb hby d52_10) (by decide) (pc' := 35) (by decide) (by decide) ?_
  refine own_dloadN X_7 hx (hb hby d52_35) (pc' := 36) rfl rfl ?_
  refine own_retD X_7 hx hlk Bd.returns (hb hby d52_36) (by decide) (by decide) ?_
  rw [e_7]
  exact ⟨⟨_, rfl, Ea1⟩, N0, rfl⟩
theorem d53_0 : decode prog_98_method_2_code 0 = .ok (.dconst 0, 1) := by decide +kernel
theorem d53_1 : decode prog_98_method_2_code 1 = .ok (.dstore_n 1, 1) := by decide +kernel
theorem d53_2 : decode prog_98_method_2_code 2 = .ok (.iconst 0, 1) := by decide +kernel
theorem d53_3 : decode prog_98_method_2_code 3 = .ok (.istore_n 3, 1) := by decide +kernel
theorem d53_4 : decode prog_98_method_2_code 4 = .ok (.iload_n 3, 1) := by decide +kernel
theorem d53_5 : decode prog_98_method_2_code 5 = .ok (.aload_n 0, 1) := by decide +kernel
theorem d53_6 : decode prog_98_method_2_code 6 = .ok (.getfield 7, 3) := by decide +kernel
theorem d53_9 : decode prog_98_method_2_code 9 = .ok (.arraylength, 1) := by decide +kernel
theorem d53_10 : decode prog_98_method_2_code 10 = .ok (.if_icmp .ge 25, 3) := by decide +kernel
theorem d53_13 : decode prog_98_method_2_code 13 = .ok (.dload_n 1, 1) := by decide +kernel
theorem d53_14 : decode prog_98_method_2_code 14 = .ok (.aload_n 0, 1) := by decide +kernel
theorem d53_15 : decode prog_98_method_2_code 15 = .ok (.getfield 7, 3) := by decide +kernel
theorem d53_18 : decode prog_98_method_2_code 18 = .ok (.iload_n 3, 1) := by decide +kernel
theorem d53_19 : decode prog_98_method_2_code 19 = .ok (.daload, 1) := by decide +kernel
theorem d53_20 : decode prog_98_method_2_code 20 = .ok (.aload_n 0, 1) := by decide +kernel
theorem d53_21 : decode prog_98_method_2_code 21 = .ok (.getfield 13, 3) := by decide +kernel
theorem d53_24 : decode prog_98_method_2_code 24 = .ok (.iload_n 3, 1) := by decide +kernel
theorem d53_25 : decode prog_98_method_2_code 25 = .ok (.daload, 1) := by decide +kernel
theorem d53_26 : decode prog_98_method_2_code 26 = .ok (.dmul, 1) := by decide +kernel
theorem d53_27 : decode prog_98_method_2_code 27 = .ok (.dadd, 1) := by decide +kernel
theorem d53_28 : decode prog_98_method_2_code 28 = .ok (.dstore_n 1, 1) := by decide +kernel
theorem d53_29 : decode prog_98_method_2_code 29 = .ok (.iinc 3 1, 3) := by decide +kernel
theorem d53_32 : decode prog_98_method_2_code 32 = .ok (.goto (-28), 3) := by decide +kernel
theorem d53_35 : decode prog_98_method_2_code 35 = .ok (.dload_n 1, 1) := by decide +kernel
theorem d53_36 : decode prog_98_method_2_code 36 = .ok (.dreturn, 1) := by decide +kernel
theorem pn53 : plainFor (⟨"com/example/sluicegate/sluicegate/RecentTimes$Bins", "mean", "()D"⟩ : MethodName) = true := by first | exact plainFor_of_name (by first | (simp [plainName, overriddenIn]; done) | decide +kernel) | decide +kernel
theorem ef53 (m : MethodId) (a1 : Addr) : entryFrame m #[(.ref a1)] 4 = mkF m 0 #[.val (.ref a1), .unset, .unset, .unset] [] := by first | (simp [entryFrame, mkF, argsToLocals, Value.category]; done) | rfl
def Q53 (Z : State) (a1 : Addr) (b1 : Addr) (b2 : Addr) (k1 : ClassId) (k2 : ClassId) (v0 : UInt64) (v1 : UInt64) (v2 : UInt64) (w0 : UInt64) (w1 : UInt64) (w2 : UInt64) (i0 : Int) (i1 : Int) (i2 : Int) (j0 : Int) (j1 : Int) (j2 : Int) (h0 : Heap) (n0 : Nat) (v : Option Value) (h : Heap) (L : List Loc) : Prop := (∃ x : UInt64, v = some (.double x) ∧ own_E x ((((0 : Int) + i0 * j0) + i1 * j1) + i2 * j2)) ∧ Fr n0 L ∧ h = h0
set_option maxRecDepth 65536 in
set_option maxHeartbeats 40000000 in
theorem rm53 (l : Launch) (Z : State) (a0 : Array Value) (hw : ∀ d ∈ tables_1, d.before a0 Z = true) (ws : List Jvm.Cond) (a1 : Addr) (b1 : Addr) (b2 : Addr) (k1 : ClassId) (k2 : ClassId) (v0 : UInt64) (v1 : UInt64) (v2 : UInt64) (w0 : UInt64) (w1 : UInt64) (w2 : UInt64) (i0 : Int) (i1 : Int) (i2 : Int) (j0 : Int) (j1 : Int) (j2 : Int) (h0 : Heap) (n0 : Nat) (Z0 : n0 ≤ h0.size) (F_v : Fld Z h0 a1 "com/example/sluicegate/sluicegate/RecentTimes$Bins" "values" "[D" (.ref b1)) (F_w : Fld Z h0 a1 "com/example/sluicegate/sluicegate/RecentTimes$Bins" "weights" "[D" (.ref b2)) (V_v : Arv Z h0 b1 k1 .double (3 : Int32) [(.double v0), (.double v1), (.double v2)] (.double (0 : UInt64))) (V_w : Arv Z h0 b2 k2 .double (3 : Int32) [(.double w0), (.double w1), (.double w2)] (.double (0 : UInt64))) (Ev0 : own_E v0 (256 * i0)) (Ev1 : own_E v1 (256 * i1)) (Ev2 : own_E v2 (256 * i2)) (Ew0 : own_E w0 j0) (Ew1 : own_E w1 j1) (Ew2 : own_E w2 j2) (Ha0 : -2147483648 ≤ i0 ∧ i0 < 2147483648) (Ha1 : -2147483648 ≤ i1 ∧ i1 < 2147483648) (Ha2 : -2147483648 ≤ i2 ∧ i2 < 2147483648) (Hc0 : 0 ≤ j0 ∧ j0 ≤ 255) (Hc1 : 0 ≤ j1 ∧ j1 ≤ 255) (Hc2 : 0 ≤ j2 ∧ j2 ≤ 255) :
    MetFree l (⟨"com/example/sluicegate/sluicegate/RecentTimes$Bins", "mean", "()D"⟩ : MethodName) (head1 (Jvm.Cond.code (⟨"com/example/sluicegate/sluicegate/RecentTimes$Bins", "mean", "()D"⟩ : MethodName) prog_98_method_2_code 4 (some .double) :: ws) ({ frames := 0, cells := 0, slots := 0, locals := 0 } : Room)) (fun a U => a = #[(.ref a1)] ∧ Z.Warmed39 U.vm ∧ U.heap = h0) (fun _ _ _ _ _ => True) (fun _ U o U' => ∃ v L, o = .returned v ∧ Q53 Z a1 b1 b2 k1 k2 v0 v1 v2 w0 w1 w2 i0 i1 i2 j0 j1 j2 h0 n0 v U'.heap L ∧ FrameEnd U o U' L ({ frames := 0, cells := 0, slots := 0, locals := 0 } : Room).cells ({ frames := 0, cells := 0, slots := 0, locals := 0 } : Room).slots) := by
  refine MetFree.of_bodySF pn53 hisR ?_
  intro p e s m args below meth c s₁ Bd hml0 hP hK
  obtain ⟨rfl, hZ, hh⟩ := hP
  have hx := Bd.exec
  have hby := Bd.bytes
  have hlk : meth.locks = false := BodyLoose.notSynchronized Bd
  have hml : c.maxLocals = 4 := hml0
  have hown : s.vm.findClass "com/example/sluicegate/sluicegate/RecentTimes$Bins" = some m.cls := findClass_of_methodNamed Bd.named
  have hnm := (name_of_methodNamed Bd.named Bd.method).1
  have X0 : Stand p l e ({ frames := 0, cells := 0, slots := 0, locals := 0 } : Room) s m #[(.ref a1)] below meth c s₁ [] 0 0 := Stand.of_body Bd
  have e0 : s₁.heap = h0 := by rw [← hh, Bd.state]; rfl
  have N0 := Fr.nil n0
  rw [ef53 m a1]
  show own_Go p e below (own_End s (Q53 Z a1 b1 b2 k1 k2 v0 v1 v2 w0 w1 w2 i0 i1 i2 j0 j1 j2 h0 n0) ({ frames := 0, cells := 0, slots := 0, locals := 0 } : Room).cells ({ frames := 0, cells := 0, slots := 0, locals := 0 } : Room).slots) s₁ (mkF m 0 #[.val (.ref a1), .unset, .unset, .unset] [])
  refine own_dconst X0 hx (hb hby d53_0) (pc' := 1) rfl ?_
  refine own_dstoreN X0 hx (hb hby d53_1) (pc' := 2) (Ls' := #[.val (.ref a1), .val (.double (FP.l2d 0)), .second, .unset]) rfl rfl ?_
  refine own_iconst X0 hx (0) (hb hby d53_2) (pc' := 3) rfl rfl ?_
  refine own_istoreN X0 hx (hb hby d53_3) (pc' := 4) (Ls' := #[.val (.ref a1), .val (.double (FP.l2d 0)), .second, .val (.int (0 : Int32))]) rfl rfl ?_
  refine own_iloadN X0 hx (hb hby d53_4) (pc' := 5) rfl rfl ?_
  refine own_aloadN X0 hx (hb hby d53_5) (pc' := 6) rfl rfl rfl ?_
  obtain ⟨T_1, X_1, e_1, st_1⟩ := getF X0 hx hZ hown (host := "") (Or.inl (hw _ (List.mem_of_getElem? (i := 16) rfl))) Via.refl e0 F_v (g := (mkF m 6 #[.val (.ref a1), .val (.double (FP.l2d 0)), .second, .val (.int (0 : Int32))] [(.ref a1), (.int (0 : Int32))])) rfl rfl (hb hby d53_6)
  refine own_st st_1 ?_
  show own_Go p e below _ T_1 (mkF m 9 #[.val (.ref a1), .val (.double (FP.l2d 0)), .second, .val (.int (0 : Int32))] [(.ref b1), (.int (0 : Int32))])
  refine own_alen X_1 hx hZ e_1 V_v (hb hby d53_9) (pc' := 10) rfl ?_
  refine own_icmpN X_1 hx (hb hby d53_10) (by decide) (pc' := 13) rfl ?_
  refine own_dloadN X_1 hx (hb hby d53_13) (pc' := 14) rfl rfl ?_
  refine own_aloadN X_1 hx (hb hby d53_14) (pc' := 15) rfl rfl rfl ?_
  obtain ⟨T_2, X_2, e_2, st_2⟩ := getF X_1 hx hZ hown (host := "") (Or.inl (hw _ (List.mem_of_getElem? (i := 16) rfl))) Via.refl e_1 F_v (g := (mkF m 15 #[.val (.ref a1), .val (.double (FP.l2d 0)), .second, .val (.int (0 : Int32))] [(.ref a1), (.double (FP.l2d 0))])) rfl rfl (hb hby d53_15)
  refine own_st st_2 ?_
  show own_Go p e below _ T_2 (mkF m 18 #[.val (.ref a1), .val (.double (FP.l2d 0)), .second, .val (.int (0 : Int32))] [(.ref b1), (.double (FP.l2d 0))])
  refine own_iloadN X_2 hx (hb hby d53_18) (pc' := 19) rfl rfl ?_
  refine own_daload X_2 hx hZ e_2 V_v ⟨by decide, by decide⟩ rfl (hb hby d53_19) (pc' := 20) rfl ?_
  refine own_aloadN X_2 hx (hb hby d53_20) (pc' := 21) rfl rfl rfl ?_
  obtain ⟨T_3, X_3, e_3, st_3⟩ := getF X_2 hx hZ hown (host := "") (Or.inl (hw _ (List.mem_of_getElem? (i := 18) rfl))) Via.refl e_2 F_w (g := (mkF m 21 #[.val (.ref a1), .val (.double (FP.l2d 0)), .second, .val (.int (0 : Int32))] [(.ref a1), (.double v0), (.double (FP.l2d 0))])) rfl rfl (hb hby d53_21)
  refine own_st st_3 ?_
  show own_Go p e below _ T_3 (mkF m 24 #[.val (.ref a1), .val (.double (FP.l2d 0)), .second, .val (.int (0 : Int32))] [(.ref b2), (.double v0), (.double (FP.l2d 0))])
  refine own_iloadN X_3 hx (hb hby d53_24) (pc' := 25) rfl rfl ?_
  refine own_daload X_3 hx hZ e_3 V_w ⟨by decide, by decide⟩ rfl (hb hby d53_25) (pc' := 26) rfl ?_
  have P0 := own_pb Ha0 Hc0
  have Ep0 := own_Em Ev0 Ew0 (by omega) (by omega)
  refine own_dmul X_3 hx (hb hby d53_26) (pc' := 27) rfl (own_En Ep0) ?_
  have Ea0 := own_Ea own_E0 Ep0 (by omega) (by omega)
  refine own_dadd X_3 hx (hb hby d53_27) (pc' := 28) rfl (own_En Ea0) ?_
  refine own_dstoreN X_3 hx (hb hby d53_28) (pc' := 29) (Ls' := #[.val (.ref a1), .val (.double (FP.dadd (FP.l2d 0) (FP.dmul v0 w0))), .second, .val (.int (0 : Int32))]) rfl rfl ?_
  refine own_iinc X_3 hx (1 : Int32) (hb hby d53_29) (pc' := 32) (Ls' := #[.val (.ref a1), .val (.double (FP.dadd (FP.l2d 0) (FP.dmul v0 w0))), .second, .val (.int (1 : Int32))]) rfl rfl (by decide) rfl ?_
  refine own_goto X_3 hx (hb hby d53_32) (pc' := 4) (by decide) (by decide) ?_
  refine own_iloadN X_3 hx (hb hby d53_4) (pc' := 5) rfl rfl ?_
  refine own_aloadN X_3 hx (hb hby d53_5) (pc' := 6) rfl rfl rfl ?_
  obtain ⟨T_4, X_4, e_4, st_4⟩ := getF X_3 hx hZ hown (host := "") (Or.inl (hw _ (List.mem_of_getElem? (i := 16) rfl))) Via.refl e_3 F_v (g := (mkF m 6 #[.val (.ref a1), .val (.double (FP.dadd (FP.l2d 0) (FP.dmul v0 w0))), .second, .val (.int (1 : Int32))] [(.ref a1), (.int (1 : Int32))])) rfl rfl (hb hby d53_6)
  refine own_st st_4 ?_
  show own_Go p e below _ T_4 (mkF m 9 #[.val (.ref a1), .val (.double (FP.dadd (FP.l2d 0) (FP.dmul v0 w0))), .second, .val (.int (1 : Int32))] [(.ref b1), (.int (1 : Int32))])
  refine own_alen X_4 hx hZ e_4 V_v (hb hby d53_9) (pc' := 10) rfl ?_
  refine own_icmpN X_4 hx (hb hby d53_10) (by decide) (pc' := 13) rfl ?_
  refine own_dloadN X_4 hx (hb hby d53_13) (pc' := 14) rfl rfl ?_
  refine own_aloadN X_4 hx (hb hby d53_14) (pc' := 15) rfl rfl rfl ?_
  obtain ⟨T_5, X_5, e_5, st_5⟩ := getF X_4 hx hZ hown (host := "") (Or.inl (hw _ (List.mem_of_getElem? (i := 16) rfl))) Via.refl e_4 F_v (g := (mkF m 15 #[.val (.ref a1), .val (.double (FP.dadd (FP.l2d 0) (FP.dmul v0 w0))), .second, .val (.int (1 : Int32))] [(.ref a1), (.double (FP.dadd (FP.l2d 0) (FP.dmul v0 w0)))])) rfl rfl (hb hby d53_15)
  refine own_st st_5 ?_
  show own_Go p e below _ T_5 (mkF m 18 #[.val (.ref a1), .val (.double (FP.dadd (FP.l2d 0) (FP.dmul v0 w0))), .second, .val (.int (1 : Int32))] [(.ref b1), (.double (FP.dadd (FP.l2d 0) (FP.dmul v0 w0)))])
  refine own_iloadN X_5 hx (hb hby d53_18) (pc' := 19) rfl rfl ?_
  refine own_daload X_5 hx hZ e_5 V_v ⟨by decide, by decide⟩ rfl (hb hby d53_19) (pc' := 20) rfl ?_
  refine own_aloadN X_5 hx (hb hby d53_20) (pc' := 21) rfl rfl rfl ?_
  obtain ⟨T_6, X_6, e_6, st_6⟩ := getF X_5 hx hZ hown (host := "") (Or.inl (hw _ (List.mem_of_getElem? (i := 18) rfl))) Via.refl e_5 F_w (g := (mkF m 21 #[.val (.ref a1), .val (.double (FP.dadd (FP.l2d 0) (FP.dmul v0 w0))), .second, .val (.int (1 : Int32))] [(.ref a1), (.double v1), (.double (FP.dadd (FP.l2d 0) (FP.dmul v0 w0)))])) rfl rfl (hb hby d53_21)
  refine own_st st_6 ?_
  show own_Go p e below _ T_6 (mkF m 24 #[.val (.ref a1), .val (.double (FP.dadd (FP.l2d 0) (FP.dmul v0 w0))), .second, .val (.int (1 : Int32))] [(.ref b2), (.double v1), (.double (FP.dadd (FP.l2d 0) (FP.dmul v0 w0)))])
  refine own_iloadN X_6 hx (hb hby d53_24) (pc' := 25) rfl rfl ?_
  refine own_daload X_6 hx hZ e_6 V_w ⟨by decide, by decide⟩ rfl (hb hby d53_25) (pc' := 26) rfl ?_
  have P1 := own_pb Ha1 Hc1
  have Ep1 := own_Em Ev1 Ew1 (by omega) (by omega)
  refine own_dmul X_6 hx (hb hby d53_26) (pc' := 27) rfl (own_En Ep1) ?_
  have Ea1 := own_Ea Ea0 Ep1 (by omega) (by omega)
  refine own_dadd X_6 hx (hb hby d53_27) (pc' := 28) rfl (own_En Ea1) ?_
  refine own_dstoreN X_6 hx (hb hby d53_28) (pc' := 29) (Ls' := #[.val (.ref a1), .val (.double (FP.dadd (FP.dadd (FP.l2d 0) (FP.dmul v0 w0)) (FP.dmul v1 w1))), .second, .val (.int (1 : Int32))]) rfl rfl ?_
  refine own_iinc X_6 hx (2 : Int32) (hb hby d53_29) (pc' := 32) (Ls' := #[.val (.ref a1), .val (.double (FP.dadd (FP.dadd (FP.l2d 0) (FP.dmul v0 w0)) (FP.dmul v1 w1))), .second, .val (.int (2 : Int32))]) rfl rfl (by decide) rfl ?_
  refine own_goto X_6 hx (hb hby d53_32) (pc' := 4) (by decide) (by decide) ?_
  refine own_iloadN X_6 hx (hb hby d53_4) (pc' := 5) rfl rfl ?_
  refine own_aloadN X_6 hx (hb hby d53_5) (pc' := 6) rfl rfl rfl ?_
  obtain ⟨T_7, X_7, e_7, st_7⟩ := getF X_6 hx hZ hown (host := "") (Or.inl (hw _ (List.mem_of_getElem? (i := 16) rfl))) Via.refl e_6 F_v (g := (mkF m 6 #[.val (.ref a1), .val (.double (FP.dadd (FP.dadd (FP.l2d 0) (FP.dmul v0 w0)) (FP.dmul v1 w1))), .second, .val (.int (2 : Int32))] [(.ref a1), (.int (2 : Int32))])) rfl rfl (hb hby d53_6)
  refine own_st st_7 ?_
  show own_Go p e below _ T_7 (mkF m 9 #[.val (.ref a1), .val (.double (FP.dadd (FP.dadd (FP.l2d 0) (FP.dmul v0 w0)) (FP.dmul v1 w1))), .second, .val (.int (2 : Int32))] [(.ref b1), (.int (2 : Int32))])
  refine own_alen X_7 hx hZ e_7 V_v (hb hby d53_9) (pc' := 10) rfl ?_
  refine own_icmpN X_7 hx (hb hby d53_10) (by decide) (pc' := 13) rfl ?_
  refine own_dloadN X_7 hx (hb hby d53_13) (pc' := 14) rfl rfl ?_
  refine own_aloadN X_7 hx (hb hby d53_14) (pc' := 15) rfl rfl rfl ?_
  obtain ⟨T_8, X_8, e_8, st_8⟩ := getF X_7 hx hZ hown (host := "") (Or.inl (hw _ (List.mem_of_getElem? (i := 16) rfl))) Via.refl e_7 F_v (g := (mkF m 15 #[.val (.ref a1), .val (.double (FP.dadd (FP.dadd (FP.l2d 0) (FP.dmul v0 w0)) (FP.dmul v1 w1))), .second, .val (.int (2 : Int32))] [(.ref a1), (.double (FP.dadd (FP.dadd (FP.l2d 0) (FP.dmul v0 w0)) (FP.dmul v1 w1)))])) rfl rfl (hb hby d53_15)
  refine own_st st_8 ?_
  show own_Go p e below _ T_8 (mkF m 18 #[.val (.ref a1), .val (.double (FP.dadd (FP.dadd (FP.l2d 0) (FP.dmul v0 w0)) (FP.dmul v1 w1))), .second, .val (.int (2 : Int32))] [(.ref b1), (.double (FP.dadd (FP.dadd (FP.l2d 0) (FP.dmul v0 w0)) (FP.dmul v1 w1)))])
  refine own_iloadN X_8 hx (hb hby d53_18) (pc' := 19) rfl rfl ?_
  refine own_daload X_8 hx hZ e_8 V_v ⟨by decide, by decide⟩ rfl (hb hby d53_19) (pc' := 20) rfl ?_
  refine own_aloadN X_8 hx (hb hby d53_20) (pc' := 21) rfl rfl rfl ?_
  obtain ⟨T_9, X_9, e_9, st_9⟩ := getF X_8 hx hZ hown (host := "") (Or.inl (hw _ (List.mem_of_getElem? (i := 18) rfl))) Via.refl e_8 F_w (g := (mkF m 21 #[.val (.ref a1), .val (.double (FP.dadd (FP.dadd (FP.l2d 0) (FP.dmul v0 w0)) (FP.dmul v1 w1))), .second, .val (.int (2 : Int32))] [(.ref a1), (.double v2), (.double (FP.dadd (FP.dadd (FP.l2d 0) (FP.dmul v0 w0)) (FP.dmul v1 w1)))])) rfl rfl (hb hby d53_21)
  refine own_st st_9 ?_
  show own_Go p e below _ T_9 (mkF m 24 #[.val (.ref a1), .val (.double (FP.dadd (FP.dadd (FP.l2d 0) (FP.dmul v0 w0)) (FP.dmul v1 w1))), .second, .val (.int (2 : Int32))] [(.ref b2), (.double v2), (.double (FP.dadd (FP.dadd (FP.l2d 0) (FP.dmul v0 w0)) (FP.dmul v1 w1)))])
  refine own_iloadN X_9 hx (hb hby d53_24) (pc' := 25) rfl rfl ?_
  refine own_daload X_9 hx hZ e_9 V_w ⟨by decide, by decide⟩ rfl (hb hby d53_25) (pc' := 26) rfl ?_
  have P2 := own_pb Ha2 Hc2
  have Ep2 := own_Em Ev2 Ew2 (by omega) (by omega)
  refine own_dmul X_9 hx (hb hby d53_26) (pc' := 27) rfl (own_En Ep2) ?_
  have Ea2 := own_Ea Ea1 Ep2 (by omega) (by omega)
  refine own_dadd X_9 hx (hb hby d53_27) (pc' := 28) rfl (own_En Ea2) ?_
  refine own_dstoreN X_9 hx (hb hby d53_28) (pc' := 29) (Ls' := #[.val (.ref a1), .val (.double (FP.dadd (FP.dadd (FP.dadd (FP.l2d 0) (FP.dmul v0 w0)) (FP.dmul v1 w1)) (FP.dmul v2 w2))), .second, .val (.int (2 : Int32))]) rfl rfl ?_
  refine own_iinc X_9 hx (3 : Int32) (hb hby d53_29) (pc' := 32) (Ls' := #[.val (.ref a1), .val (.double (FP.dadd (FP.dadd (FP.dadd (FP.l2d 0) (FP.dmul v0 w0)) (FP.dmul v1 w1)) (FP.dmul v2 w2))), .second, .val (.int (3 : Int32))]) rfl rfl (by decide) rfl ?_
  refine own_goto X_9 hx (hb hby d53_32) (pc' := 4) (by decide) (by decide) ?_
  refine own_iloadN X_9 hx (hb hby d53_4) (pc' := 5) rfl rfl ?_
  refine own_aloadN X_9 hx (hb hby d53_5) (pc' := 6) rfl rfl rfl ?_
  obtain ⟨T_10, X_10, e_10, st_10⟩ := getF X_9 hx hZ hown (host := "") (Or.inl (hw _ (List.mem_of_getElem? (i := 16) rfl))) Via.refl e_9 F_v (g := (mkF m 6 #[.val (.ref a1), .val (.double (FP.dadd (FP.dadd (FP.dadd (FP.l2d 0) (FP.dmul v0 w0)) (FP.dmul v1 w1)) (FP.dmul v2 w2))), .second, .val (.int (3 : Int32))] [(.ref a1), (.int (3 : Int32))])) rfl rfl (hb hby d53_6)
  refine own_st st_10 ?_
  show own_Go p e below _ T_10 (mkF m 9 #[.val (.ref a1), .val (.double (FP.dadd (FP.dadd (FP.dadd (FP.l2d 0) (FP.dmul v0 w0)) (FP.dmul v1 w1)) (FP.dmul v2 w2))), .second, .val (.int (3 : Int32))] [(.ref b1), (.int (3 : Int32))])
  refine own_alen X_10 hx hZ e_10 V_v (hb hby d53_9) (pc' := 10) rfl ?_
  refine own_icmpY X_10 hx (hb hby d53_10) (by decide) (pc' := 35) (by decide) (by decide) ?_
  refine own_dloadN X_10 hx (hb hby d53_35) (pc' := 36) rfl rfl ?_
  refine own_retD X_10 hx hlk Bd.returns (hb hby d53_36) (by decide) (by decide) ?_
  rw [e_10]
  exact ⟨⟨_, rfl, Ea2⟩, N0, rfl⟩
theorem d54_0 : decode prog_98_method_2_code 0 = .ok (.dconst 0, 1) := by decide +kernel
theorem d54_1 : decode prog_98_method_2_code 1 = .ok (.dstore_n 1, 1) := by decide +kernel
theorem d54_2 : decode prog_98_method_2_code 2 = .ok (.iconst 0, 1) := by decide +kernel
theorem d54_3 : decode prog_98_method_2_code 3 = .ok (.istore_n 3, 1) := by decide +kernel
theorem d54_4 : decode prog_98_method_2_code 4 = .ok (.iload_n 3, 1) := by decide +kernel
theorem d54_5 : decode prog_98_method_2_code 5 = .ok (.aload_n 0, 1) := by decide +kernel
theorem d54_6 : decode prog_98_method_2_code 6 = .ok (.getfield 7, 3) := by decide +kernel
theorem d54_9 : decode prog_98_method_2_code 9 = .ok (.arraylength, 1) := by decide +kernel
theorem d54_10 : decode prog_98_method_2_code 10 = .ok (.if_icmp .ge 25, 3) := by decide +kernel
theorem d54_13 : decode prog_98_method_2_code 13 = .ok (.dload_n 1, 1) := by decide +kernel
theorem d54_14 : decode prog_98_method_2_code 14 = .ok (.aload_n 0, 1) := by decide +kernel
theorem d54_15 : decode prog_98_method_2_code 15 = .ok (.getfield 7, 3) := by decide +kernel
theorem d54_18 : decode prog_98_method_2_code 18 = .ok (.iload_n 3, 1) := by decide +kernel
theorem d54_19 : decode prog_98_method_2_code 19 = .ok (.daload, 1) := by decide +kernel
theorem d54_20 : decode prog_98_method_2_code 20 = .ok (.aload_n 0, 1) := by decide +kernel
theorem d54_21 : decode prog_98_method_2_code 21 = .ok (.getfield 13, 3) := by decide +kernel
theorem d54_24 : decode prog_98_method_2_code 24 = .ok (.iload_n 3, 1) := by decide +kernel
theorem d54_25 : decode prog_98_method_2_code 25 = .ok (.daload, 1) := by decide +kernel
theorem d54_26 : decode prog_98_method_2_code 26 = .ok (.dmul, 1) := by decide +kernel
theorem d54_27 : decode prog_98_method_2_code 27 = .ok (.dadd, 1) := by decide +kernel
theorem d54_28 : decode prog_98_method_2_code 28 = .ok (.dstore_n 1, 1) := by decide +kernel
theorem d54_29 : decode prog_98_method_2_code 29 = .ok (.iinc 3 1, 3) := by decide +kernel
theorem d54_32 : decode prog_98_method_2_code 32 = .ok (.goto (-28), 3) := by decide +kernel
theorem d54_35 : decode prog_98_method_2_code 35 = .ok (.dload_n 1, 1) := by decide +kernel
theorem d54_36 : decode prog_98_method_2_code 36 = .ok (.dreturn, 1) := by decide +kernel
theorem pn54 : plainFor (⟨"com/example/sluicegate/sluicegate/RecentTimes$Bins", "mean", "()D"⟩ : MethodName) = true := by first | exact plainFor_of_name (by first | (simp [plainName, overriddenIn]; done) | decide +kernel) | decide +kernel
theorem ef54 (m : MethodId) (a1 : Addr) : entryFrame m #[(.ref a1)] 4 = mkF m 0 #[.val (.ref a1), .unset, .unset, .unset] [] := by first | (simp [entryFrame, mkF, argsToLocals, Value.category]; done) | rfl
def Q54 (Z : State) (a1 : Addr) (b1 : Addr) (b2 : Addr) (k1 : ClassId) (k2 : ClassId) (v0 : UInt64) (v1 : UInt64) (v2 : UInt64) (v3 : UInt64) (w0 : UInt64) (w1 : UInt64) (w2 : UInt64) (w3 : UInt64) (i0 : Int) (i1 : Int) (i2 : Int) (i3 : Int) (j0 : Int) (j1 : Int) (j2 : Int) (j3 : Int) (h0 : Heap) (n0 : Nat) (v : Option Value) (h : Heap) (L : List Loc) : Prop := (∃ x : UInt64, v = some (.double x) ∧ own_E x (((((0 : Int) + i0 * j0) + i1 * j1) + i2 * j2) + i3 * j3)) ∧ Fr n0 L ∧ h = h0
set_option maxRecDepth 65536 in
set_option maxHeartbeats 40000000 in
theorem rm54 (l : Launch) (Z : State) (a0 : Array Value) (hw : ∀ d ∈ tables_1, d.before a0 Z = true) (ws : List Jvm.Cond) (a1 : Addr) (b1 : Addr) (b2 : Addr) (k1 : ClassId) (k2 : ClassId) (v0 : UInt64) (v1 : UInt64) (v2 : UInt64) (v3 : UInt64) (w0 : UInt64) (w1 : UInt64) (w2 : UInt64) (w3 : UInt64) (i0 : Int) (i1 : Int) (i2 : Int) (i3 : Int) (j0 : Int) (j1 : Int) (j2 : Int) (j3 : Int) (h0 : Heap) (n0 : Nat) (Z0 : n0 ≤ h0.size) (F_v : Fld Z h0 a1 "com/example/sluicegate/sluicegate/RecentTimes$Bins" "values" "[D" (.ref b1)) (F_w : Fld Z h0 a1 "com/example/sluicegate/sluicegate/RecentTimes$Bins" "weights" "[D" (.ref b2)) (V_v : Arv Z h0 b1 k1 .double (4 : Int32) [(.double v0), (.double v1), (.double v2), (.double v3)] (.double (0 : UInt64))) (V_w : Arv Z h0 b2 k2 .double (4 : Int32) [(.double w0), (.double w1), (.double w2), (.double w3)] (.double (0 : UInt64))) (Ev0 : own_E v0 (256 * i0)) (Ev1 : own_E v1 (256 * i1)) (Ev2 : own_E v2 (256 * i2)) (Ev3 : own_E v3 (256 * i3)) (Ew0 : own_E w0 j0) (Ew1 : own_E w1 j1) (Ew2 : own_E w2 j2) (Ew3 : own_E w3 j3) (Ha0 : -2147483648 ≤ i0 ∧ i0 < 2147483648) (Ha1 : -2147483648 ≤ i1 ∧ i1 < 2147483648) (Ha2 : -2147483648 ≤ i2 ∧ i2 < 2147483648) (Ha3 : -2147483648 ≤ i3 ∧ i3 < 2147483648) (Hc0 : 0 ≤ j0 ∧ j0 ≤ 255) (Hc1 : 0 ≤ j1 ∧ j1 ≤ 255) (Hc2 : 0 ≤ j2 ∧ j2 ≤ 255) (Hc3 : 0 ≤ j3 ∧ j3 ≤ 255) :
    MetFree l (⟨"com/example/sluicegate/sluicegate/RecentTimes$Bins", "mean", "()D"⟩ : MethodName) (head1 (Jvm.Cond.code (⟨"com/example/sluicegate/sluicegate/RecentTimes$Bins", "mean", "()D"⟩ : MethodName) prog_98_method_2_code 4 (some .double) :: ws) ({ frames := 0, cells := 0, slots := 0, locals := 0 } : Room)) (fun a U => a = #[(.ref a1)] ∧ Z.Warmed39 U.vm ∧ U.heap = h0) (fun _ _ _ _ _ => True) (fun _ U o U' => ∃ v L, o = .returned v ∧ Q54 Z a1 b1 b2 k1 k2 v0 v1 v2 v3 w0 w1 w2 w3 i0 i1 i2 i3 j0 j1 j2 j3 h0 n0 v U'.heap L ∧ FrameEnd U o U' L ({ frames := 0, cells := 0, slots := 0, locals := 0 } : Room).cells ({ frames := 0, cells := 0, slots := 0, locals := 0 } : Room).slots) := by
  refine MetFree.of_bodySF pn54 hisR ?_
  intro p e s m args below meth c s₁ Bd hml0 hP hK
  obtain ⟨rfl, hZ, hh⟩ := hP
  have hx := Bd.exec
  have hby := Bd.bytes
  have hlk : meth.locks = false := BodyLoose.notSynchronized Bd
  have hml : c.maxLocals = 4 := hml0
  have hown : s.vm.findClass "com/example/sluicegate/sluicegate/RecentTimes$Bins" = some m.cls := findClass_of_methodNamed Bd.named
  have hnm := (name_of_methodNamed Bd.named Bd.method).1
  have X0 : Stand p l e ({ frames := 0, cells := 0, slots := 0, locals := 0 } : Room) s m #[(.ref a1)] below meth c s₁ [] 0 0 := Stand.of_body Bd
  have e0 : s₁.heap = h0 := by rw [← hh, Bd.state]; rfl
  have N0 := Fr.nil n0
  rw [ef54 m a1]
  show own_Go p e below (own_End s (Q54 Z a1 b1 b2 k1 k2 v0 v1 v2 v3 w0 w1 w2 w3 i0 i1 i2 i3 j0 j1 j2 j3 h0 n0) ({ frames := 0, cells := 0, slots := 0, locals := 0 } : Room).cells ({ frames := 0, cells := 0, slots := 0, locals := 0 } : Room).slots) s₁ (mkF m 0 #[.val (.ref a1), .unset, .unset, .unset] [])
  refine own_dconst X0 hx (hb hby d54_0) (pc' := 1) rfl ?_
  refine own_dstoreN X0 hx (hb hby d54_1) (pc' := 2) (Ls' := #[.val (.ref a1), .val (.double (FP.l2d 0)), .second, .unset]) rfl rfl ?_
  refine own_iconst X0 hx (0) (hb hby d54_2) (pc' := 3) rfl rfl ?_
  refine own_istoreN X0 hx (hb hby d54_3) (pc' := 4) (Ls' := #[.val (.ref a1), .val (.double (FP.l2d 0)), .second, .val (.int (0 : Int32))]) rfl rfl ?_
  refine own_iloadN X0 hx (hb hby d54_4) (pc' := 5) rfl rfl ?_
  refine own_aloadN X0 hx (hb hby d54_5) (pc' := 6) rfl rfl rfl ?_
  obtain ⟨T_1, X_1, e_1, st_1⟩ := getF X0 hx hZ hown (host := "") (Or.inl (hw _ (List.mem_of_getElem? (i := 16) rfl))) Via.refl e0 F_v (g := (mkF m 6 #[.val (.ref a1), .val (.double (FP.l2d 0)), .second, .val (.int (0 : Int32))] [(.ref a1), (.int (0 : Int32))])) rfl rfl (hb hby d54_6)
  refine own_st st_1 ?_
  show own_Go p e below _ T_1 (mkF m 9 #[.val (.ref a1), .val (.double (FP.l2d 0)), .second, .val (.int (0 : Int32))] [(.ref b1), (.int (0 : Int32))])
  refine own_alen X_1 hx hZ e_1 V_v (hb hby d54_9) (pc' := 10) rfl ?_
  refine own_icmpN X_1 hx (hb hby d54_10) (by decide) (pc' := 13) rfl ?_
  refine own_dloadN X_1 hx (hb hby d54_13) (pc' := 14) rfl rfl ?_
  refine own_aloadN X_1 hx (hb hby d54_14) (pc' := 15) rfl rfl rfl ?_
  obtain ⟨T_2, X_2, e_2, st_2⟩ := getF X_1 hx hZ hown (host := "") (Or.inl (hw _ (List.mem_of_getElem? (i := 16) rfl))) Via.refl e_1 F_v (g := (mkF m 15 #[.val (.ref a1), .val (.double (FP.l2d 0)), .second, .val (.int (0 : Int32))] [(.ref a1), (.double (FP.l2d 0))])) rfl rfl (hb hby d54_15)
  refine own_st st_2 ?_
  show own_Go p e below _ T_2 (mkF m 18 #[.val (.ref a1), .val (.double (FP.l2d 0)), .second, .val (.int (0 : Int32))] [(.ref b1), (.double (FP.l2d 0))])
  refine own_iloadN X_2 hx (hb hby d54_18) (pc' := 19) rfl rfl ?_
  refine own_daload X_2 hx hZ e_2 V_v ⟨by decide, by decide⟩ rfl (hb hby d54_19) (pc' := 20) rfl ?_
  refine own_aloadN X_2 hx (hb hby d54_20) (pc' := 21) rfl rfl rfl ?_
  obtain ⟨T_3, X_3, e_3, st_3⟩ := getF X_2 hx hZ hown (host := "") (Or.inl (hw _ (List.mem_of_getElem? (i := 18) rfl))) Via.refl e_2 F_w (g := (mkF m 21 #[.val (.ref a1), .val (.double (FP.l2d 0)), .second, .val (.int (0 : Int32))] [(.ref a1), (.double v0), (.double (FP.l2d 0))])) rfl rfl (hb hby d54_21)
  refine own_st st_3 ?_
  show own_Go p e below _ T_3 (mkF m 24 #[.val (.ref a1), .val (.double (FP.l2d 0)), .second, .val (.int (0 : Int32))] [(.ref b2), (.double v0), (.double (FP.l2d 0))])
  refine own_iloadN X_3 hx (hb hby d54_24) (pc' := 25) rfl rfl ?_
  refine own_daload X_3 hx hZ e_3 V_w ⟨by decide, by decide⟩ rfl (hb hby d54_25) (pc' := 26) rfl ?_
  have P0 := own_pb Ha0 Hc0
  have Ep0 := own_Em Ev0 Ew0 (by omega) (by omega)
  refine own_dmul X_3 hx (hb hby d54_26) (pc' := 27) rfl (own_En Ep0) ?_
  have Ea0 := own_Ea own_E0 Ep0 (by omega) (by omega)
  refine own_dadd X_3 hx (hb hby d54_27) (pc' := 28) rfl (own_En Ea0) ?_
  refine own_dstoreN X_3 hx (hb hby d54_28) (pc' := 29) (Ls' := #[.val (.ref a1), .val (.double (FP.dadd (FP.l2d 0) (FP.dmul v0 w0))), .second, .val (.int (0 : Int32))]) rfl rfl ?_
  refine own_iinc X_3 hx (1 : Int32) (hb hby d54_29) (pc' := 32) (Ls' := #[.val (.ref a1), .val (.double (FP.dadd (FP.l2d 0) (FP.dmul v0 w0))), .second, .val (.int (1 : Int32))]) rfl rfl (by decide) rfl ?_
  refine own_goto X_3 hx (hb hby d54_32) (pc' := 4) (by decide) (by decide) ?_
  refine own_iloadN X_3 hx (hb hby d54_4) (pc' := 5) rfl rfl ?_
  refine own_aloadN X_3 hx (hb hby d54_5) (pc' := 6) rfl rfl rfl ?_
  obtain ⟨T_4, X_4, e_4, st_4⟩ := getF X_3 hx hZ hown (host := "") (Or.inl (hw _ (List.mem_of_getElem? (i := 16) rfl))) Via.refl e_3 F_v (g := (mkF m 6 #[.val (.ref a1), .val (.double (FP.dadd (FP.l2d 0) (FP.dmul v0 w0))), .second, .val (.int (1 : Int32))] [(.ref a1), (.int (1 : Int32))])) rfl rfl (hb hby d54_6)
  refine own_st st_4 ?_
  show own_Go p e below _ T_4 (mkF m 9 #[.val (.ref a1), .val (.double (FP.dadd (FP.l2d 0) (FP.dmul v0 w0))), .second, .val (.int (1 : Int32))] [(.ref b1), (.int (1 : Int32))])
  refine own_alen X_4 hx hZ e_4 V_v (hb hby d54_9) (pc' := 10) rfl ?_
  refine own_icmpN X_4 hx (hb hby d54_10) (by decide) (pc' := 13) rfl ?_
  refine own_dloadN X_4 hx (hb hby d54_13) (pc' := 14) rfl rfl ?_
  refine own_aloadN X_4 hx (hb hby d54_14) (pc' := 15) rfl rfl rfl ?_
  obtain ⟨T_5, X_5, e_5, st_5⟩ := getF X_4 hx hZ hown (host := "") (Or.inl (hw _ (List.mem_of_getElem? (i := 16) rfl))) Via.refl e_4 F_v (g := (mkF m 15 #[.val (.ref a1), .val (.double (FP.dadd (FP.l2d 0) (FP.dmul v0 w0))), .second, .val (.int (1 : Int32))] [(.ref a1), (.double (FP.dadd (FP.l2d 0) (FP.dmul v0 w0)))])) rfl rfl (hb hby d54_15)
  refine own_st st_5 ?_
  show own_Go p e below _ T_5 (mkF m 18 #[.val (.ref a1), .val (.double (FP.dadd (FP.l2d 0) (FP.dmul v0 w0))), .second, .val (.int (1 : Int32))] [(.ref b1), (.double (FP.dadd (FP.l2d 0) (FP.dmul v0 w0)))])
  refine own_iloadN X_5 hx (hb hby d54_18) (pc' := 19) rfl rfl ?_
  refine own_daload X_5 hx hZ e_5 V_v ⟨by decide, by decide⟩ rfl (hb hby d54_19) (pc' := 20) rfl ?_
  refine own_aloadN X_5 hx (hb hby d54_20) (pc' := 21) rfl rfl rfl ?_
  obtain ⟨T_6, X_6, e_6, st_6⟩ := getF X_5 hx hZ hown (host := "") (Or.inl (hw _ (List.mem_of_getElem? (i := 18) rfl))) Via.refl e_5 F_w (g := (mkF m 21 #[.val (.ref a1), .val (.double (FP.dadd (FP.l2d 0) (FP.dmul v0 w0))), .second, .val (.int (1 : Int32))] [(.ref a1), (.double v1), (.double (FP.dadd (FP.l2d 0) (FP.dmul v0 w0)))])) rfl rfl (hb hby d54_21)
  refine own_st st_6 ?_
  show own_Go p e below _ T_6 (mkF m 24 #[.val (.ref a1), .val (.double (FP.dadd (FP.l2d 0) (FP.dmul v0 w0))), .second, .val (.int (1 : Int32))] [(.ref b2), (.double v1), (.double (FP.dadd (FP.l2d 0) (FP.dmul v0 w0)))])
  refine own_iloadN X_6 hx (hb hby d54_24) (pc' := 25) rfl rfl ?_
  refine own_daload X_6 hx hZ e_6 V_w ⟨by decide, by decide⟩ rfl (hb hby d54_25) (pc' := 26) rfl ?_
  have P1 := own_pb Ha1 Hc1
  have Ep1 := own_Em Ev1 Ew1 (by omega) (by omega)
  refine own_dmul X_6 hx (hb hby d54_26) (pc' := 27) rfl (own_En Ep1) ?_
  have Ea1 := own_Ea Ea0 Ep1 (by omega) (by omega)
  refine own_dadd X_6 hx (hb hby d54_27) (pc' := 28) rfl (own_En Ea1) ?_
  refine own_dstoreN X_6 hx (hb hby d54_28) (pc' := 29) (Ls' := #[.val (.ref a1), .val (.double (FP.dadd (FP.dadd (FP.l2d 0) (FP.dmul v0 w0)) (FP.dmul v1 w1))), .second, .val (.int (1 : Int32))]) rfl rfl ?_
  refine own_iinc X_6 hx (2 : Int32) (hb hby d54_29) (pc' := 32) (Ls' := #[.val (.ref a1), .val (.double (FP.dadd (FP.dadd (FP.l2d 0) (FP.dmul v0 w0)) (FP.dmul v1 w1))), .second, .val (.int (2 : Int32))]) rfl rfl (by decide) rfl ?_
  refine own_goto X_6 hx (hb hby d54_32) (pc' := 4) (by decide) (by decide) ?_
  refine own_iloadN X_6 hx (hb hby d54_4) (pc' := 5) rfl rfl ?_
  refine own_aloadN X_6 hx (hb hby d54_5) (pc' := 6) rfl rfl rfl ?_
  obtain ⟨T_7, X_7, e_7, st_7⟩ := getF X_6 hx hZ hown (host := "") (Or.inl (hw _ (List.mem_of_getElem? (i := 16) rfl))) Via.refl e_6 F_v (g := (mkF m 6 #[.val (.ref a1), .val (.double (FP.dadd (FP.dadd (FP.l2d 0) (FP.dmul v0 w0)) (FP.dmul v1 w1))), .second, .val (.int (2 : Int32))] [(.ref a1), (.int (2 : Int32))])) rfl rfl (hb hby d54_6)
  refine own_st st_7 ?_
  show own_Go p e below _ T_7 (mkF m 9 #[.val (.ref a1), .val (.double (FP.dadd (FP.dadd (FP.l2d 0) (FP.dmul v0 w0)) (FP.dmul v1 w1))), .second, .val (.int (2 : Int32))] [(.ref b1), (.int (2 : Int32))])
  refine own_alen X_7 hx hZ e_7 V_v (hb hby d54_9) (pc' := 10) rfl ?_
  refine own_icmpN X_7 hx (hb hby d54_10) (by decide) (pc' := 13) rfl ?_
  refine own_dloadN X_7 hx (hb hby d54_13) (pc' := 14) rfl rfl ?_
  refine own_aloadN X_7 hx (hb hby d54_14) (pc' := 15) rfl rfl rfl ?_
  obtain ⟨T_8, X_8, e_8, st_8⟩ := getF X_7 hx hZ hown (host := "") (Or.inl (hw _ (List.mem_of_getElem? (i := 16) rfl))) Via.refl e_7 F_v (g := (mkF m 15 #[.val (.ref a1), .val (.double (FP.dadd (FP.dadd (FP.l2d 0) (FP.dmul v0 w0)) (FP.dmul v1 w1))), .second, .val (.int (2 : Int32))] [(.ref a1), (.double (FP.dadd (FP.dadd (FP.l2d 0) (FP.dmul v0 w0)) (FP.dmul v1 w1)))])) rfl rfl (hb hby d54_15)
  refine own_st st_8 ?_
  show own_Go p e below _ T_8 (mkF m 18 #[.val (.ref a1), .val (.double (FP.dadd (FP.dadd (FP.l2d 0) (FP.dmul v0 w0)) (FP.dmul v1 w1))), .second, .val (.int (2 : Int32))] [(.ref b1), (.double (FP.dadd (FP.dadd (FP.l2d 0) (FP.dmul v0 w0)) (FP.dmul v1 w1)))])
  refine own_iloadN X_8 hx (hb hby d54_18) (pc' := 19) rfl rfl ?_
  refine own_daload X_8 hx hZ e_8 V_v ⟨by decide, by decide⟩ rfl (hb hby d54_19) (pc' := 20) rfl ?_
  refine own_aloadN X_8 hx (hb hby d54_20) (pc' := 21) rfl rfl rfl ?_
  obtain ⟨T_9, X_9, e_9, st_9⟩ := getF X_8 hx hZ hown (host := "") (Or.inl (hw _ (List.mem_of_getElem? (i := 18) rfl))) Via.refl e_8 F_w (g := (mkF m 21 #[.val (.ref a1), .val (.double (FP.dadd (FP.dadd (FP.l2d 0) (FP.dmul v0 w0)) (FP.dmul v1 w1))), .second, .val (.int (2 : Int32))] [(.ref a1), (.double v2), (.double (FP.dadd (FP.dadd (FP.l2d 0) (FP.dmul v0 w0)) (FP.dmul v1 w1)))])) rfl rfl (hb hby d54_21)
  refine own_st st_9 ?_
  show own_Go p e below _ T_9 (mkF m 24 #[.val (.ref a1), .val (.double (FP.dadd (FP.dadd (FP.l2d 0) (FP.dmul v0 w0)) (FP.dmul v1 w1))), .second, .val (.int (2 : Int32))] [(.ref b2), (.double v2), (.double (FP.dadd (FP.dadd (FP.l2d 0) (FP.dmul v0 w0)) (FP.dmul v1 w1)))])
  refine own_iloadN X_9 hx (hb hby d54_24) (pc' := 25) rfl rfl ?_
  refine own_daload X_9 hx hZ e_9 V_w ⟨by decide, by decide⟩ rfl (hb hby d54_25) (pc' := 26) rfl ?_
  have P2 := own_pb Ha2 Hc2
  have Ep2 := own_Em Ev2 Ew2 (by omega) (by omega)
  refine own_dmul X_9 hx (hb hby d54_26) (pc' := 27) rfl (own_En Ep2) ?_
  have Ea2 := own_Ea Ea1 Ep2 (by omega) (by omega)
  refine own_dadd X_9 hx (hb hby d54_27) (pc' := 28) rfl (own_En Ea2) ?_
  refine own_dstoreN X_9 hx (hb hby d54_28) (pc' := 29) (Ls' := #[.val (.ref a1), .val (.double (FP.dadd (FP.dadd (FP.dadd (FP.l2d 0) (FP.dmul v0 w0)) (FP.dmul v1 w1)) (FP.dmul v2 w2))), .second, .val (.int (2 : Int32))]) rfl rfl ?_
  refine own_iinc X_9 hx (3 : Int32) (hb hby d54_29) (pc' := 32) (Ls' := #[.val (.ref a1), .val (.double (FP.dadd (FP.dadd (FP.dadd (FP.l2d 0) (FP.dmul v0 w0)) (FP.dmul v1 w1)) (FP.dmul v2 w2))), .second, .val (.int (3 : Int32))]) rfl rfl (by decide) rfl ?_
  refine own_goto X_9 hx (hb hby d54_32) (pc' := 4) (by decide) (by decide) ?_
  refine own_iloadN X_9 hx (hb hby d54_4) (pc' := 5) rfl rfl ?_
  refine own_aloadN X_9 hx (hb hby d54_5) (pc' := 6) rfl rfl rfl ?_
  obtain ⟨T_10, X_10, e_10, st_10⟩ := getF X_9 hx hZ hown (host := "") (Or.inl (hw _ (List.mem_of_getElem? (i := 16) rfl))) Via.refl e_9 F_v (g := (mkF m 6 #[.val (.ref a1), .val (.double (FP.dadd (FP.dadd (FP.dadd (FP.l2d 0) (FP.dmul v0 w0)) (FP.dmul v1 w1)) (FP.dmul v2 w2))), .second, .val (.int (3 : Int32))] [(.ref a1), (.int (3 : Int32))])) rfl rfl (hb hby d54_6)
  refine own_st st_10 ?_
  show own_Go p e below _ T_10 (mkF m 9 #[.val (.ref a1), .val (.double (FP.dadd (FP.dadd (FP.dadd (FP.l2d 0) (FP.dmul v0 w0)) (FP.dmul v1 w1)) (FP.dmul v2 w2))), .second, .val (.int (3 : Int32))] [(.ref b1), (.int (3 : Int32))])
  refine own_alen X_10 hx hZ e_10 V_v (hb hby d54_9) (pc' := 10) rfl ?_
  refine own_icmpN X_10 hx (hb hby d54_10) (by decide) (pc' := 13) rfl ?_
  refine own_dloadN X_10 hx (hb hby d54_13) (pc' := 14) rfl rfl ?_
  refine own_aloadN X_10 hx (hb hby d54_14) (pc' := 15) rfl rfl rfl ?_
  obtain ⟨T_11, X_11, e_11, st_11⟩ := getF X_10 hx hZ hown (host := "") (Or.inl (hw _ (List.mem_of_getElem? (i := 16) rfl))) Via.refl e_10 F_v (g := (mkF m 15 #[.val (.ref a1), .val (.double (FP.dadd (FP.dadd (FP.dadd (FP.l2d 0) (FP.dmul v0 w0)) (FP.dmul v1 w1)) (FP.dmul v2 w2))), .second, .val (.int (3 : Int32))] [(.ref a1), (.double (FP.dadd (FP.dadd (FP.dadd (FP.l2d 0) (FP.dmul v0 w0)) (FP.dmul v1 w1)) (FP.dmul v2 w2)))])) rfl rfl (hb hby d54_15)
  refine own_st st_11 ?_
  show own_Go p e below _ T_11 (mkF m 18 #[.val (.ref a1), .val (.double (FP.dadd (FP.dadd (FP.dadd (FP.l2d 0) (FP.dmul v0 w0)) (FP.dmul v1 w1)) (FP.dmul v2 w2))), .second, .val (.int (3 : Int32))] [(.ref b1), (.double (FP.dadd (FP.dadd (FP.dadd (FP.l2d 0) (FP.dmul v0 w0)) (FP.dmul v1 w1)) (FP.dmul v2 w2)))])
  refine own_iloadN X_11 hx (hb hby d54_18) (pc' := 19) rfl rfl ?_
  refine own_daload X_11 hx hZ e_11 V_v ⟨by decide, by decide⟩ rfl (hb hby d54_19) (pc' := 20) rfl ?_
  refine own_aloadN X_11 hx (hb hby d54_20) (pc' := 21) rfl rfl rfl ?_
  obtain ⟨T_12, X_12, e_12, st_12⟩ := getF X_11 hx hZ hown (host := "") (Or.inl (hw _ (List.mem_of_getElem? (i := 18) rfl))) Via.refl e_11 F_w (g := (mkF m 21 #[.val (.ref a1), .val (.double (FP.dadd (FP.dadd (FP.dadd (FP.l2d 0) (FP.dmul v0 w0)) (FP.dmul v1 w1)) (FP.dmul v2 w2))), .second, .val (.int (3 : Int32))] [(.ref a1), (.double v3), (.double (FP.dadd (FP.dadd (FP.dadd (FP.l2d 0) (FP.dmul v0 w0)) (FP.dmul v1 w1)) (FP.dmul v2 w2)))])) rfl rfl (hb hby d54_21)
  refine own_st st_12 ?_
  show own_Go p e below _ T_12 (mkF m 24 #[.val (.ref a1), .val (.double (FP.dadd (FP.dadd (FP.dadd (FP.l2d 0) (FP.dmul v0 w0)) (FP.dmul v1 w1)) (FP.dmul v2 w2))), .second, .val (.int (3 : Int32))] [(.ref b2), (.double v3), (.double (FP.dadd (FP.dadd (FP.dadd (FP.l2d 0) (FP.dmul v0 w0)) (FP.dmul v1 w1)) (FP.dmul v2 w2)))])
  refine own_iloadN X_12 hx (hb hby d54_24) (pc' := 25) rfl rfl ?_
  refine own_daload X_12 hx hZ e_12 V_w ⟨by decide, by decide⟩ rfl (hb hby d54_25) (pc' := 26) rfl ?_
  have P3 := own_pb Ha3 Hc3
  have Ep3 := own_Em Ev3 Ew3 (by omega) (by omega)
  refine own_dmul X_12 hx (hb hby d54_26) (pc' := 27) rfl (own_En Ep3) ?_
  have Ea3 := own_Ea Ea2 Ep3 (by omega) (by omega)
  refine own_dadd X_12 hx (hb hby d54_27) (pc' := 28) rfl (own_En Ea3) ?_
  refine own_dstoreN X_12 hx (hb hby d54_28) (pc' := 29) (Ls' := #[.val (.ref a1), .val (.double (FP.dadd (FP.dadd (FP.dadd (FP.dadd (FP.l2d 0) (FP.dmul v0 w0)) (FP.dmul v1 w1)) (FP.dmul v2 w2)) (FP.dmul v3 w3))), .second, .val (.int (3 : Int32))]) rfl rfl ?_
  refine own_iinc X_12 hx (4 : Int32) (hb hby d54_29) (pc' := 32) (Ls' := #[.val (.ref a1), .val (.double (FP.dadd (FP.dadd (FP.dadd (FP.dadd (FP.l2d 0) (FP.dmul v0 w0)) (FP.dmul v1 w1)) (FP.dmul v2 w2)) (FP.dmul v3 w3))), .second, .val (.int (4 : Int32))]) rfl rfl (by decide) rfl ?_
  refine own_goto X_12 hx (hb hby d54_32) (pc' := 4) (by decide) (by decide) ?_
  refine own_iloadN X_12 hx (hb hby d54_4) (pc' := 5) rfl rfl ?_
  refine own_aloadN X_12 hx (hb hby d54_5) (pc' := 6) rfl rfl rfl ?_
  obtain ⟨T_13, X_13, e_13, st_13⟩ := getF X_12 hx hZ hown (host := "") (Or.inl (hw _ (List.mem_of_getElem? (i := 16) rfl))) Via.refl e_12 F_v (g := (mkF m 6 #[.val (.ref a1), .val (.double (FP.dadd (FP.dadd (FP.dadd (FP.dadd (FP.l2d 0) (FP.dmul v0 w0)) (FP.dmul v1 w1)) (FP.dmul v2 w2)) (FP.dmul v3 w3))), .second, .val (.int (4 : Int32))] [(.ref a1), (.int (4 : Int32))])) rfl rfl (hb hby d54_6)
  refine own_st st_13 ?_
  show own_Go p e below _ T_13 (mkF m 9 #[.val (.ref a1), .val (.double (FP.dadd (FP.dadd (FP.dadd (FP.dadd (FP.l2d 0) (FP.dmul v0 w0)) (FP.dmul v1 w1)) (FP.dmul v2 w2)) (FP.dmul v3 w3))), .second, .val (.int (4 : Int32))] [(.ref b1), (.int (4 : Int32))])
  refine own_alen X_13 hx hZ e_13 V_v (hb hby d54_9) (pc' := 10) rfl ?_
  refine own_icmpY X_13 hx (hb hby d54_10) (by decide) (pc' := 35) (by decide) (by decide) ?_
  refine own_dloadN X_13 hx (hb hby d54_35) (pc' := 36) rfl rfl ?_
  refine own_retD X_13 hx hlk Bd.returns (hb hby d54_36) (by decide) (by decide) ?_
  rw [e_13]
  exact ⟨⟨_, rfl, Ea3⟩, N0, rfl⟩
theorem pd0_0 : parseMethodDescriptor "([D[D)V" = some ⟨[(.array .double), (.array .double)], none⟩ := by decide +kernel
theorem pd0_1 : parseMethodDescriptor "()D" = some ⟨[], some .double⟩ := by decide +kernel
theorem pd0_2 : parseMethodDescriptor "(II)I" = some ⟨[.int, .int], some .int⟩ := by decide +kernel
theorem pn0 : plainFor x = true := by first | exact plainFor_of_name (by first | (simp [plainName, overriddenIn]; done) | decide +kernel) | decide +kernel
theorem ef0 (m : MethodId) (x0 : Int32) (x1 : Int32) (x2 : Int32) (x3 : Int32) (x4 : Int32) (x5 : Int32) : entryFrame m #[(.int x0), (.int x1), (.int x2), (.int x3), (.int x4), (.int x5)] maxLocals = mkF m 0 #[.val (.int x0), .val (.int x1), .val (.int x2), .val (.int x3), .val (.int x4), .val (.int x5), .unset, .unset, .unset, .unset, .unset, .unset, .unset, .unset] [] := by first | (simp [entryFrame, mkF, argsToLocals, Value.category, maxLocals]; done) | rfl
def Q0 (Z : State) (x0 : Int32) (x1 : Int32) (x2 : Int32) (x3 : Int32) (x4 : Int32) (x5 : Int32) (h0 : Heap) (n0 : Nat) (v : Option Value) (h : Heap) (L : List Loc) : Prop := v = some (.int 1) ∧ Fr n0 L
set_option maxRecDepth 65536 in
set_option maxHeartbeats 40000000 in
theorem rm0 (l : Launch) (Z : State) (a0 : Array Value) (hw : ∀ d ∈ tables_1, d.before a0 Z = true) (ws : List Jvm.Cond) (x0 : Int32) (x1 : Int32) (x2 : Int32) (x3 : Int32) (x4 : Int32) (x5 : Int32) (h0 : Heap) (n0 : Nat) (Z0 : n0 ≤ h0.size) :
    MetFree l x (head1 (Jvm.Cond.code x code maxLocals ret :: ws) room_1) (fun a U => a = #[(.int x0), (.int x1), (.int x2), (.int x3), (.int x4), (.int x5)] ∧ Z.Warmed39 U.vm ∧ U.heap = h0) (fun _ _ _ _ _ => True) (fun _ U o U' => ∃ v L, o = .returned v ∧ Q0 Z x0 x1 x2 x3 x4 x5 h0 n0 v U'.heap L ∧ FrameEnd U o U' L 3 10) := by
  refine MetFree.of_bodySF pn0 hisR ?_
  intro p e s m args below meth c s₁ Bd hml0 hP hK
  obtain ⟨rfl, hZ, hh⟩ := hP
  have hx := Bd.exec
  have hby := Bd.bytes
  have hlk : meth.locks = false := BodyLoose.notSynchronized Bd
  have hml : c.maxLocals = 14 := hml0
  have hown : s.vm.findClass "com/example/sluicegate/sluicegate/BinsMeanPinLaw" = some m.cls := findClass_of_methodNamed Bd.named
  have hnm := (name_of_methodNamed Bd.named Bd.method).1
  have X0 : Stand p l e room_1 s m #[(.int x0), (.int x1), (.int x2), (.int x3), (.int x4), (.int x5)] below meth c s₁ [] 0 0 := Stand.of_body Bd
  have e0 : s₁.heap = h0 := by rw [← hh, Bd.state]; rfl
  have N0 := Fr.nil n0
  rw [ef0 m x0 x1 x2 x3 x4 x5]
  show own_Go p e below (own_End s (Q0 Z x0 x1 x2 x3 x4 x5 h0 n0) 3 10) s₁ (mkF m 0 #[.val (.int x0), .val (.int x1), .val (.int x2), .val (.int x3), .val (.int x4), .val (.int x5), .unset, .unset, .unset, .unset, .unset, .unset, .unset, .unset] [])
  refine own_iloadN X0 hx (hb hby at_0) (pc' := 1) rfl rfl ?_
  refine own_ldcI X0 hx hown (mvT hZ (hw _ (List.mem_of_getElem? (i := 0) rfl))) (hb hby at_1) (pc' := 3) rfl ?_
  refine own_iand X0 hx (hb hby at_3) (pc' := 4) rfl ?_
  refine own_iconst X0 hx (5) (hb hby at_4) (pc' := 5) rfl rfl ?_
  refine own_irem X0 hx (hb hby at_5) (pc' := 6) rfl (by decide) ?_
  refine own_istore X0 hx (hb hby at_6) (pc' := 8) (Ls' := #[.val (.int x0), .val (.int x1), .val (.int x2), .val (.int x3), .val (.int x4), .val (.int x5), .val (.int ((x0 &&& (2147483647 : Int32)) % (5 : Int32))), .unset, .unset, .unset, .unset, .unset, .unset, .unset]) rfl rfl ?_
  rcases own_n5 x0 with hN | hN | hN | hN | hN
  · skip
    rw [hN]
    have e00 : (0 : Int64).toInt = 0 := rfl
    refine own_iload X0 hx (hb hby at_8) (pc' := 10) rfl rfl ?_
    obtain ⟨T_1, h_1, kc_1, X_1, e_1, E_1, A_1, st_1⟩ := newP X0 hx hZ (hw _ (List.mem_of_getElem? (i := 1) rfl)) e0 (g := (mkF m 10 #[.val (.int x0), .val (.int x1), .val (.int x2), .val (.int x3), .val (.int x4), .val (.int x5), .val (.int (0 : Int32)), .unset, .unset, .unset, .unset, .unset, .unset, .unset] [(.int (0 : Int32))])) rfl (hb hby at_10) rfl (by decide) (cap := 0) (by decide) (by decide) (by decide) (by decide)
    obtain ⟨a_1, g_1⟩ : ∃ z, z = h0.size := ⟨_, rfl⟩
    rw [← g_1] at A_1 st_1
    have ge_1 : n0 ≤ a_1 := Nat.le_trans Z0 (Nat.le_of_eq g_1.symm)
    have Z_2 : n0 ≤ h_1.size := Nat.le_trans Z0 E_1.1
    have V_3 : Arv Z h_1 a_1 kc_1 .double (0 : Int32) [] (.double (0 : UInt64)) := (Arv.new A_1 (by decide)).pad (pad_rep [] (.double (0 : UInt64)) 0)
    refine own_st st_1 ?_
    show own_Go p e below _ T_1 (mkF m 12 #[.val (.int x0), .val (.int x1), .val (.int x2), .val (.int x3), .val (.int x4), .val (.int x5), .val (.int (0 : Int32)), .unset, .unset, .unset, .unset, .unset, .unset, .unset] [(.ref a_1)])
    refine own_astore X_1 hx (hb hby at_12) (pc' := 14) (Ls' := #[.val (.int x0), .val (.int x1), .val (.int x2), .val (.int x3), .val (.int x4), .val (.int x5), .val (.int (0 : Int32)), .val (.ref a_1), .unset, .unset, .unset, .unset, .unset, .unset]) rfl rfl rfl ?_
    refine own_iload X_1 hx (hb hby at_14) (pc' := 16) rfl rfl ?_
    obtain ⟨T_4, h_4, kc_4, X_4, e_4, E_4, A_4, st_4⟩ := newP X_1 hx hZ (hw _ (List.mem_of_getElem? (i := 1) rfl)) e_1 (g := (mkF m 16 #[.val (.int x0), .val (.int x1), .val (.int x2), .val (.int x3), .val (.int x4), .val (.int x5), .val (.int (0 : Int32)), .val (.ref a_1), .unset, .unset, .unset, .unset, .unset, .unset] [(.int (0 : Int32))])) rfl (hb hby at_16) rfl (by decide) (cap := 0) (by decide) (by decide) (by decide) (by decide)
    obtain ⟨a_4, g_4⟩ : ∃ z, z = h_1.size := ⟨_, rfl⟩
    rw [← g_4] at A_4 st_4
    have ge_4 : n0 ≤ a_4 := Nat.le_trans Z_2 (Nat.le_of_eq g_4.symm)
    have ne_4_a_1 : a_1 ≠ a_4 := Nat.ne_of_lt (Nat.lt_of_lt_of_eq V_3.lt g_4.symm)
    have V_6 : Arv Z h_4 a_1 kc_1 .double (0 : Int32) [] (.double (0 : UInt64)) := V_3.ext E_4
    have Z_5 : n0 ≤ h_4.size := Nat.le_trans Z_2 E_4.1
    have V_7 : Arv Z h_4 a_4 kc_4 .double (0 : Int32) [] (.double (0 : UInt64)) := (Arv.new A_4 (by decide)).pad (pad_rep [] (.double (0 : UInt64)) 0)
    refine own_st st_4 ?_
    show own_Go p e below _ T_4 (mkF m 18 #[.val (.int x0), .val (.int x1), .val (.int x2), .val (.int x3), .val (.int x4), .val (.int x5), .val (.int (0 : Int32)), .val (.ref a_1), .unset, .unset, .unset, .unset, .unset, .unset] [(.ref a_4)])
    refine own_astore X_4 hx (hb hby at_18) (pc' := 20) (Ls' := #[.val (.int x0), .val (.int x1), .val (.int x2), .val (.int x3), .val (.int x4), .val (.int x5), .val (.int (0 : Int32)), .val (.ref a_1), .val (.ref a_4), .unset, .unset, .unset, .unset, .unset]) rfl rfl rfl ?_
    refine own_lconst X_4 hx (0) (hb hby at_20) (pc' := 21) rfl rfl ?_
    refine own_lstore X_4 hx (hb hby at_21) (pc' := 23) (Ls' := #[.val (.int x0), .val (.int x1), .val (.int x2), .val (.int x3), .val (.int x4), .val (.int x5), .val (.int (0 : Int32)), .val (.ref a_1), .val (.ref a_4), .val (.long (0 : Int64)), .second, .unset, .unset, .unset]) rfl rfl ?_
    refine own_iload X_4 hx (hb hby at_23) (pc' := 25) rfl rfl ?_
    refine own_ifY X_4 hx (hb hby at_25) (by decide) (pc' := 64) (by decide) (by decide) ?_
    refine own_iload X_4 hx (hb hby at_64) (pc' := 66) rfl rfl ?_
    refine own_iconst X_4 hx (1) (hb hby at_66) (pc' := 67) rfl rfl ?_
    refine own_icmpY X_4 hx (hb hby at_67) (by decide) (pc' := 106) (by decide) (by decide) ?_
    refine own_iload X_4 hx (hb hby at_106) (pc' := 108) rfl rfl ?_
    refine own_iconst X_4 hx (2) (hb hby at_108) (pc' := 109) rfl rfl ?_
    refine own_icmpY X_4 hx (hb hby at_109) (by decide) (pc' := 148) (by decide) (by decide) ?_
    refine own_iload X_4 hx (hb hby at_148) (pc' := 150) rfl rfl ?_
    refine own_iconst X_4 hx (3) (hb hby at_150) (pc' := 151) rfl rfl ?_
    refine own_icmpY X_4 hx (hb hby at_151) (by decide) (pc' := 192) (by decide) (by decide) ?_
    obtain ⟨T_8, h_8, X_8, e_8, E_8, A_8, D_8, -, st_8⟩ := newO X_4 hx hZ hown (hw _ (List.mem_of_getElem? (i := 2) rfl)) (hw _ (List.mem_of_getElem? (i := 3) rfl)) (hw _ (List.mem_of_getElem? (i := 4) rfl)) e_4 (g := (mkF m 192 #[.val (.int x0), .val (.int x1), .val (.int x2), .val (.int x3), .val (.int x4), .val (.int x5), .val (.int (0 : Int32)), .val (.ref a_1), .val (.ref a_4), .val (.long (0 : Int64)), .second, .unset, .unset, .unset] [])) rfl (hb hby at_192) (by decide) (by decide)
    obtain ⟨a_8, g_8⟩ : ∃ z, z = h_4.size := ⟨_, rfl⟩
    rw [← g_8] at A_8 D_8 st_8
    have ge_8 : n0 ≤ a_8 := Nat.le_trans Z_5 (Nat.le_of_eq g_8.symm)
    have ne_8_a_1 : a_1 ≠ a_8 := Nat.ne_of_lt (Nat.lt_of_lt_of_eq V_6.lt g_8.symm)
    have ne_8_a_4 : a_4 ≠ a_8 := Nat.ne_of_lt (Nat.lt_of_lt_of_eq V_7.lt g_8.symm)
    have V_10 : Arv Z h_8 a_1 kc_1 .double (0 : Int32) [] (.double (0 : UInt64)) := V_6.ext E_8
    have V_11 : Arv Z h_8 a_4 kc_4 .double (0 : Int32) [] (.double (0 : UInt64)) := V_7.ext E_8
    have Z_9 : n0 ≤ h_8.size := Nat.le_trans Z_5 E_8.1
    have F_12 : Fld Z h_8 a_8 "com/example/sluicegate/sluicegate/RecentTimes$Bins" "values" "[D" (.null) := D_8 (Or.inr (hw _ (List.mem_of_getElem? (i := 17) rfl))) (ty := (.array .double)) (by decide)
    have F_13 : Fld Z h_8 a_8 "com/example/sluicegate/sluicegate/RecentTimes$Bins" "weights" "[D" (.null) := D_8 (Or.inr (hw _ (List.mem_of_getElem? (i := 19) rfl))) (ty := (.array .double)) (by decide)
    refine own_st st_8 ?_
    show own_Go p e below _ T_8 (mkF m 195 #[.val (.int x0), .val (.int x1), .val (.int x2), .val (.int x3), .val (.int x4), .val (.int x5), .val (.int (0 : Int32)), .val (.ref a_1), .val (.ref a_4), .val (.long (0 : Int64)), .second, .unset, .unset, .unset] [(.ref a_8)])
    refine own_dup X_8 hx (hb hby at_195) (pc' := 196) rfl rfl ?_
    refine own_aload X_8 hx (hb hby at_196) (pc' := 198) rfl rfl rfl ?_
    refine own_aload X_8 hx (hb hby at_198) (pc' := 200) rfl rfl rfl ?_
    obtain ⟨_, _, ⟨T_14, L_14, k_14, n_14⟩, -, X_14, ⟨Lc_14, hQ_14, l_14, y_14, z_14⟩, st_14⟩ := X_8.specialBack hx  (y := (⟨"com/example/sluicegate/sluicegate/RecentTimes$Bins", "<init>", "([D[D)V"⟩ : MethodName)) rfl hown (mvT hZ (hw _ (List.mem_of_getElem? (i := 5) rfl))) (mvT hZ (hw _ (List.mem_of_getElem? (i := 6) rfl))) (mvT hZ (hw _ (List.mem_of_getElem? (i := 7) rfl))) (by decide) (backOf (W := 1) (rm2 l Z a0 hw [] a_8 a_1 a_4 h_8 n0 Z_9 A_8 F_12 F_13 ge_8) hZ (hw _ (List.mem_of_getElem? (i := 7) rfl)) (hw _ (List.mem_of_getElem? (i := 4) rfl)) (by decide) (by decide)) (g := (mkF m 200 #[.val (.int x0), .val (.int x1), .val (.int x2), .val (.int x3), .val (.int x4), .val (.int x5), .val (.int (0 : Int32)), .val (.ref a_1), .val (.ref a_4), .val (.long (0 : Int64)), .second, .unset, .unset, .unset] [(.ref a_4), (.ref a_1), (.ref a_8), (.ref a_8)])) rfl (by rw [hml]; rfl) (Steps.refl _) (a := a_8) (argsL := [(.ref a_1), (.ref a_4)]) (rest := [(.ref a_8)]) (lenOf pd0_0 rfl) rfl (by show 2 * 0 + _ ≤ _; exact Nat.le_of_eq rfl) (hb hby at_200) (fun _ _ => ⟨rfl, e_8, (by decide : 3 + 0 ≤ _), (by decide : 2 + 0 ≤ _)⟩)
    dsimp only [Pt.U, Pt.locs, Pt.cells, Pt.slots] at X_14 l_14 y_14 z_14 st_14 hQ_14
    subst l_14 y_14 z_14
    refine own_tr st_14 ?_
    obtain ⟨rfl, Nq_14, Kq_14, q0_14, q1_14⟩ := hQ_14
    have N_14 := Fr.app N0 Nq_14
    have F_15 : Fld Z T_14.heap a_8 "com/example/sluicegate/sluicegate/RecentTimes$Bins" "values" "[D" (.ref a_1) := q0_14
    have F_16 : Fld Z T_14.heap a_8 "com/example/sluicegate/sluicegate/RecentTimes$Bins" "weights" "[D" (.ref a_4) := q1_14
    have V_18 : Arv Z T_14.heap a_1 kc_1 .double (0 : Int32) [] (.double (0 : UInt64)) := V_10.keep Kq_14 (ninS ne_8_a_1 nin0)
    have V_19 : Arv Z T_14.heap a_4 kc_4 .double (0 : Int32) [] (.double (0 : UInt64)) := V_11.keep Kq_14 (ninS ne_8_a_4 nin0)
    have A_20 : Exa Z T_14.heap a_8 "com/example/sluicegate/sluicegate/RecentTimes$Bins" := A_8.keep Kq_14
    have Z_17 : n0 ≤ T_14.heap.size := Nat.le_trans Z_9 Kq_14.1
    show own_Go p e below _ T_14 (mkF m 203 #[.val (.int x0), .val (.int x1), .val (.int x2), .val (.int x3), .val (.int x4), .val (.int x5), .val (.int (0 : Int32)), .val (.ref a_1), .val (.ref a_4), .val (.long (0 : Int64)), .second, .unset, .unset, .unset] [(.ref a_8)])
    refine own_astore X_14 hx (hb hby at_203) (pc' := 205) (Ls' := #[.val (.int x0), .val (.int x1), .val (.int x2), .val (.int x3), .val (.int x4), .val (.int x5), .val (.int (0 : Int32)), .val (.ref a_1), .val (.ref a_4), .val (.long (0 : Int64)), .second, .val (.ref a_8), .unset, .unset]) rfl rfl rfl ?_
    have hsm : FP.Core.Small53 (0 : Int64) := own_sm (by omega) (by omega)
    refine own_lload X_14 hx (hb hby at_205) (pc' := 207) rfl rfl ?_
    refine own_l2d X_14 hx (hb hby at_207) (pc' := 208) rfl ?_
    refine own_ldcD X_14 hx hown (mvT hZ (hw _ (List.mem_of_getElem? (i := 20) rfl))) (hb hby at_208) (pc' := 211) rfl ?_
    refine own_ddiv X_14 hx (hb hby at_211) (pc' := 212) rfl (own_En (own_Ed hsm)) ?_
    refine own_dstore X_14 hx (hb hby at_212) (pc' := 214) (Ls' := #[.val (.int x0), .val (.int x1), .val (.int x2), .val (.int x3), .val (.int x4), .val (.int x5), .val (.int (0 : Int32)), .val (.ref a_1), .val (.ref a_4), .val (.long (0 : Int64)), .second, .val (.ref a_8), .val (.double (FP.ddiv (FP.l2d (0 : Int64)) (4643211215818981376 : UInt64))), .second]) rfl rfl ?_
    refine own_aload X_14 hx (hb hby at_214) (pc' := 216) rfl rfl rfl ?_
    obtain ⟨cq_21, kq_21, qa_21, qb_21, qc_21⟩ := isOf hZ rfl A_20
    obtain ⟨_, _, ⟨T_21, L_21, k_21, n_21⟩, -, X_21, ⟨Lc_21, hQ_21, l_21, y_21, z_21⟩, st_21⟩ := X_14.virtualBack hx  (y := (⟨"com/example/sluicegate/sluicegate/RecentTimes$Bins", "mean", "()D"⟩ : MethodName)) (z := (⟨"com/example/sluicegate/sluicegate/RecentTimes$Bins", "mean", "()D"⟩ : MethodName)) hown (mvT hZ (hw _ (List.mem_of_getElem? (i := 21) rfl))) (mvT hZ (hw _ (List.mem_of_getElem? (i := 22) rfl))) (notFace_of_selects (args := #[]) (mvT hZ (hw _ (List.mem_of_getElem? (i := 24) rfl)))) (mvT hZ (hw _ (List.mem_of_getElem? (i := 24) rfl))) (mvT hZ (hw _ (List.mem_of_getElem? (i := 23) rfl))) (by decide) (backOf (W := 0) (rm50 l Z a0 hw [] a_8 a_1 a_4 kc_1 kc_4 T_14.heap n0 Z_17 F_15 F_16 V_18 V_19) hZ (hw _ (List.mem_of_getElem? (i := 25) rfl)) (hw _ (List.mem_of_getElem? (i := 4) rfl)) (by decide) (by decide)) qa_21 qc_21 (g := (mkF m 216 #[.val (.int x0), .val (.int x1), .val (.int x2), .val (.int x3), .val (.int x4), .val (.int x5), .val (.int (0 : Int32)), .val (.ref a_1), .val (.ref a_4), .val (.long (0 : Int64)), .second, .val (.ref a_8), .val (.double (FP.ddiv (FP.l2d (0 : Int64)) (4643211215818981376 : UInt64))), .second] [(.ref a_8)])) rfl (by rw [hml]; rfl) (Steps.refl _) (argsL := []) (rest := []) (lenOf pd0_1 rfl) rfl (by show 2 * 0 + _ ≤ _; exact Nat.le_of_eq rfl) (hb hby at_216) (fun _ _ => ⟨rfl, rfl, (by decide : 3 + 0 ≤ _), (by decide : 2 + 0 ≤ _)⟩)
    dsimp only [Pt.U, Pt.locs, Pt.cells, Pt.slots] at X_21 l_21 y_21 z_21 st_21 hQ_21
    subst l_21 y_21 z_21
    refine own_tr st_21 ?_
    obtain ⟨⟨xm, rfl, Em⟩, Nq_21, eq_21⟩ := hQ_21
    have N_21 := Fr.app N_14 Nq_21
    show own_Go p e below _ T_21 (mkF m 219 #[.val (.int x0), .val (.int x1), .val (.int x2), .val (.int x3), .val (.int x4), .val (.int x5), .val (.int (0 : Int32)), .val (.ref a_1), .val (.ref a_4), .val (.long (0 : Int64)), .second, .val (.ref a_8), .val (.double (FP.ddiv (FP.l2d (0 : Int64)) (4643211215818981376 : UInt64))), .second] [(.double xm)])
    refine own_dload X_21 hx (hb hby at_219) (pc' := 221) rfl rfl ?_
    refine own_dcmp X_21 hx (0) (own_Eq Em (own_Ed hsm) (by omega) _) (hb hby at_221) (pc' := 222) rfl ?_
    refine own_ifN X_21 hx (hb hby at_222) (by decide) (pc' := 225) rfl ?_
    refine own_iconst X_21 hx (1) (hb hby at_225) (pc' := 226) rfl rfl ?_
    refine own_goto X_21 hx (hb hby at_226) (pc' := 230) (by decide) (by decide) ?_
    refine own_retZ X_21 hx hlk Bd.returns (by simp) (hb hby at_230) (by decide) (by decide) ?_
    exact ⟨rfl, N_21⟩
  · skip
    rw [hN]
    have e00 : (0 : Int64).toInt = 0 := rfl
    refine own_iload X0 hx (hb hby at_8) (pc' := 10) rfl rfl ?_
    obtain ⟨T_22, h_22, kc_22, X_22, e_22, E_22, A_22, st_22⟩ := newP X0 hx hZ (hw _ (List.mem_of_getElem? (i := 1) rfl)) e0 (g := (mkF m 10 #[.val (.int x0), .val (.int x1), .val (.int x2), .val (.int x3), .val (.int x4), .val (.int x5), .val (.int (1 : Int32)), .unset, .unset, .unset, .unset, .unset, .unset, .unset] [(.int (1 : Int32))])) rfl (hb hby at_10) rfl (by decide) (cap := 1) (by decide) (by decide) (by decide) (by decide)
    obtain ⟨a_22, g_22⟩ : ∃ z, z = h0.size := ⟨_, rfl⟩
    rw [← g_22] at A_22 st_22
    have ge_22 : n0 ≤ a_22 := Nat.le_trans Z0 (Nat.le_of_eq g_22.symm)
    have Z_23 : n0 ≤ h_22.size := Nat.le_trans Z0 E_22.1
    have V_24 : Arv Z h_22 a_22 kc_22 .double (1 : Int32) [(.double (0 : UInt64))] (.double (0 : UInt64)) := (Arv.new A_22 (by decide)).pad (pad_rep [] (.double (0 : UInt64)) 1)
    refine own_st st_22 ?_
    show own_Go p e below _ T_22 (mkF m 12 #[.val (.int x0), .val (.int x1), .val (.int x2), .val (.int x3), .val (.int x4), .val (.int x5), .val (.int (1 : Int32)), .unset, .unset, .unset, .unset, .unset, .unset, .unset] [(.ref a_22)])
    refine own_astore X_22 hx (hb hby at_12) (pc' := 14) (Ls' := #[.val (.int x0), .val (.int x1), .val (.int x2), .val (.int x3), .val (.int x4), .val (.int x5), .val (.int (1 : Int32)), .val (.ref a_22), .unset, .unset, .unset, .unset, .unset, .unset]) rfl rfl rfl ?_
    refine own_iload X_22 hx (hb hby at_14) (pc' := 16) rfl rfl ?_
    obtain ⟨T_25, h_25, kc_25, X_25, e_25, E_25, A_25, st_25⟩ := newP X_22 hx hZ (hw _ (List.mem_of_getElem? (i := 1) rfl)) e_22 (g := (mkF m 16 #[.val (.int x0), .val (.int x1), .val (.int x2), .val (.int x3), .val (.int x4), .val (.int x5), .val (.int (1 : Int32)), .val (.ref a_22), .unset, .unset, .unset, .unset, .unset, .unset] [(.int (1 : Int32))])) rfl (hb hby at_16) rfl (by decide) (cap := 1) (by decide) (by decide) (by decide) (by decide)
    obtain ⟨a_25, g_25⟩ : ∃ z, z = h_22.size := ⟨_, rfl⟩
    rw [← g_25] at A_25 st_25
    have ge_25 : n0 ≤ a_25 := Nat.le_trans Z_23 (Nat.le_of_eq g_25.symm)
    have ne_25_a_22 : a_22 ≠ a_25 := Nat.ne_of_lt (Nat.lt_of_lt_of_eq V_24.lt g_25.symm)
    have V_27 : Arv Z h_25 a_22 kc_22 .double (1 : Int32) [(.double (0 : UInt64))] (.double (0 : UInt64)) := V_24.ext E_25
    have Z_26 : n0 ≤ h_25.size := Nat.le_trans Z_23 E_25.1
    have V_28 : Arv Z h_25 a_25 kc_25 .double (1 : Int32) [(.double (0 : UInt64))] (.double (0 : UInt64)) := (Arv.new A_25 (by decide)).pad (pad_rep [] (.double (0 : UInt64)) 1)
    refine own_st st_25 ?_
    show own_Go p e below _ T_25 (mkF m 18 #[.val (.int x0), .val (.int x1), .val (.int x2), .val (.int x3), .val (.int x4), .val (.int x5), .val (.int (1 : Int32)), .val (.ref a_22), .unset, .unset, .unset, .unset, .unset, .unset] [(.ref a_25)])
    refine own_astore X_25 hx (hb hby at_18) (pc' := 20) (Ls' := #[.val (.int x0), .val (.int x1), .val (.int x2), .val (.int x3), .val (.int x4), .val (.int x5), .val (.int (1 : Int32)), .val (.ref a_22), .val (.ref a_25), .unset, .unset, .unset, .unset, .unset]) rfl rfl rfl ?_
    refine own_lconst X_25 hx (0) (hb hby at_20) (pc' := 21) rfl rfl ?_
    refine own_lstore X_25 hx (hb hby at_21) (pc' := 23) (Ls' := #[.val (.int x0), .val (.int x1), .val (.int x2), .val (.int x3), .val (.int x4), .val (.int x5), .val (.int (1 : Int32)), .val (.ref a_22), .val (.ref a_25), .val (.long (0 : Int64)), .second, .unset, .unset, .unset]) rfl rfl ?_
    refine own_iload X_25 hx (hb hby at_23) (pc' := 25) rfl rfl ?_
    refine own_ifN X_25 hx (hb hby at_25) (by decide) (pc' := 28) rfl ?_
    refine own_aload X_25 hx (hb hby at_28) (pc' := 30) rfl rfl rfl ?_
    refine own_iconst X_25 hx (0) (hb hby at_30) (pc' := 31) rfl rfl ?_
    refine own_iloadN X_25 hx (hb hby at_31) (pc' := 32) rfl rfl ?_
    refine own_i2d X_25 hx (hb hby at_32) (pc' := 33) rfl ?_
    obtain ⟨T_29, h_29, X_29, e_29, W_29, V_29, st_29⟩ := own_dastore X_25 hx hZ e_25 V_27 0 (x := (FP.l2d x1.toInt64)) (j := (0 : Int32)) (Ls := #[.val (.int x0), .val (.int x1), .val (.int x2), .val (.int x3), .val (.int x4), .val (.int x5), .val (.int (1 : Int32)), .val (.ref a_22), .val (.ref a_25), .val (.long (0 : Int64)), .second, .unset, .unset, .unset]) (st := []) ⟨by decide, by decide⟩ rfl (Nat.le_of_ble_eq_true rfl) (hb hby at_33)
    have V_30 : Arv Z h_29 a_22 kc_22 .double (1 : Int32) [(.double (FP.l2d x1.toInt64))] (.double (0 : UInt64)) := V_29
    have V_32 : Arv Z h_29 a_25 kc_25 .double (1 : Int32) [(.double (0 : UInt64))] (.double (0 : UInt64)) := V_28.other W_29 (Ne.symm ne_25_a_22)
    have Z_31 : n0 ≤ h_29.size := by rw [W_29.size]; exact Z_26
    have N_29 := Fr.snoc X_29 N0 ge_22
    refine own_st st_29 ?_
    show own_Go p e below _ T_29 (mkF m 34 #[.val (.int x0), .val (.int x1), .val (.int x2), .val (.int x3), .val (.int x4), .val (.int x5), .val (.int (1 : Int32)), .val (.ref a_22), .val (.ref a_25), .val (.long (0 : Int64)), .second, .unset, .unset, .unset] [])
    refine own_aload X_29 hx (hb hby at_34) (pc' := 36) rfl rfl rfl ?_
    refine own_iconst X_29 hx (0) (hb hby at_36) (pc' := 37) rfl rfl ?_
    refine own_iload X_29 hx (hb hby at_37) (pc' := 39) rfl rfl ?_
    refine own_iconst X_29 hx (0) (hb hby at_39) (pc' := 40) rfl rfl ?_
    obtain ⟨_, _, ⟨T_33, L_33, k_33, n_33⟩, -, X_33, ⟨Lc_33, hQ_33, l_33, y_33, z_33⟩, st_33⟩ := Jvm.LawKit.callS X_29 hx (y := (⟨"com/example/sluicegate/sluicegate/BinsMeanPinLaw", "nib", "(II)I"⟩ : MethodName)) hown (mvT hZ (hw _ (List.mem_of_getElem? (i := 26) rfl))) (mvT hZ (hw _ (List.mem_of_getElem? (i := 27) rfl))) (mvT hZ (hw _ (List.mem_of_getElem? (i := 28) rfl))) (mvT hZ (hw _ (List.mem_of_getElem? (i := 29) rfl))) (by decide) (backOf (W := 2) (rm3 l Z a0 hw [] x5 (0 : Int32) h_29 n0 Z_31) hZ (hw _ (List.mem_of_getElem? (i := 29) rfl)) (hw _ (List.mem_of_getElem? (i := 28) rfl)) (by decide) (by decide)) (g := (mkF m 40 #[.val (.int x0), .val (.int x1), .val (.int x2), .val (.int x3), .val (.int x4), .val (.int x5), .val (.int (1 : Int32)), .val (.ref a_22), .val (.ref a_25), .val (.long (0 : Int64)), .second, .unset, .unset, .unset] [(.int (0 : Int32)), (.int x5), (.int (0 : Int32)), (.ref a_25)])) rfl (by rw [hml]; rfl) (argsL := [(.int x5), (.int (0 : Int32))]) (rest := [(.int (0 : Int32)), (.ref a_25)]) (lenOf pd0_2 rfl) rfl (by show 2 * 0 + _ ≤ _; exact Nat.le_of_eq rfl) (hb hby at_40) (fun _ _ => ⟨rfl, e_29, (by decide : 2 + 0 ≤ _), (by decide : 2 + 0 ≤ _)⟩)
    dsimp only [Pt.U, Pt.locs, Pt.cells, Pt.slots] at X_33 l_33 y_33 z_33 st_33 hQ_33
    subst l_33 y_33 z_33
    refine own_st st_33 ?_
    obtain ⟨rfl, Nq_33, eq_33⟩ := hQ_33
    have N_33 := Fr.app N_29 Nq_33
    show own_Go p e below _ T_33 (mkF m 43 #[.val (.int x0), .val (.int x1), .val (.int x2), .val (.int x3), .val (.int x4), .val (.int x5), .val (.int (1 : Int32)), .val (.ref a_22), .val (.ref a_25), .val (.long (0 : Int64)), .second, .unset, .unset, .unset] [(.int (own_nib x5 (0 : Int32))), (.int (0 : Int32)), (.ref a_25)])
    refine own_i2d X_33 hx (hb hby at_43) (pc' := 44) rfl ?_
    refine own_ldcD X_33 hx hown (mvT hZ (hw _ (List.mem_of_getElem? (i := 20) rfl))) (hb hby at_44) (pc' := 47) rfl ?_
    refine own_ddiv X_33 hx (hb hby at_47) (pc' := 48) rfl (own_En (own_Ew _)) ?_
    obtain ⟨T_34, h_34, X_34, e_34, W_34, V_34, st_34⟩ := own_dastore X_33 hx hZ eq_33 V_32 0 (x := (FP.ddiv (FP.l2d (own_nib x5 (0 : Int32)).toInt64) (4643211215818981376 : UInt64))) (j := (0 : Int32)) (Ls := #[.val (.int x0), .val (.int x1), .val (.int x2), .val (.int x3), .val (.int x4), .val (.int x5), .val (.int (1 : Int32)), .val (.ref a_22), .val (.ref a_25), .val (.long (0 : Int64)), .second, .unset, .unset, .unset]) (st := []) ⟨by decide, by decide⟩ rfl (Nat.le_of_ble_eq_true rfl) (hb hby at_48)
    have V_35 : Arv Z h_34 a_25 kc_25 .double (1 : Int32) [(.double (FP.ddiv (FP.l2d (own_nib x5 (0 : Int32)).toInt64) (4643211215818981376 : UInt64)))] (.double (0 : UInt64)) := V_34
    have V_37 : Arv Z h_34 a_22 kc_22 .double (1 : Int32) [(.double (FP.l2d x1.toInt64))] (.double (0 : UInt64)) := V_30.other W_34 ne_25_a_22
    have Z_36 : n0 ≤ h_34.size := by rw [W_34.size]; exact Z_31
    have N_34 := Fr.snoc X_34 N_33 ge_25
    refine own_st st_34 ?_
    show own_Go p e below _ T_34 (mkF m 49 #[.val (.int x0), .val (.int x1), .val (.int x2), .val (.int x3), .val (.int x4), .val (.int x5), .val (.int (1 : Int32)), .val (.ref a_22), .val (.ref a_25), .val (.long (0 : Int64)), .second, .unset, .unset, .unset] [])
    refine own_lload X_34 hx (hb hby at_49) (pc' := 51) rfl rfl ?_
    refine own_iloadN X_34 hx (hb hby at_51) (pc' := 52) rfl rfl ?_
    refine own_i2l X_34 hx (hb hby at_52) (pc' := 53) rfl ?_
    refine own_iload X_34 hx (hb hby at_53) (pc' := 55) rfl rfl ?_
    refine own_iconst X_34 hx (0) (hb hby at_55) (pc' := 56) rfl rfl ?_
    obtain ⟨_, _, ⟨T_38, L_38, k_38, n_38⟩, -, X_38, ⟨Lc_38, hQ_38, l_38, y_38, z_38⟩, st_38⟩ := Jvm.LawKit.callS X_34 hx (y := (⟨"com/example/sluicegate/sluicegate/BinsMeanPinLaw", "nib", "(II)I"⟩ : MethodName)) hown (mvT hZ (hw _ (List.mem_of_getElem? (i := 26) rfl))) (mvT hZ (hw _ (List.mem_of_getElem? (i := 27) rfl))) (mvT hZ (hw _ (List.mem_of_getElem? (i := 28) rfl))) (mvT hZ (hw _ (List.mem_of_getElem? (i := 29) rfl))) (by decide) (backOf (W := 4) (rm3 l Z a0 hw [] x5 (0 : Int32) h_34 n0 Z_36) hZ (hw _ (List.mem_of_getElem? (i := 29) rfl)) (hw _ (List.mem_of_getElem? (i := 28) rfl)) (by decide) (by decide)) (g := (mkF m 56 #[.val (.int x0), .val (.int x1), .val (.int x2), .val (.int x3), .val (.int x4), .val (.int x5), .val (.int (1 : Int32)), .val (.ref a_22), .val (.ref a_25), .val (.long (0 : Int64)), .second, .unset, .unset, .unset] [(.int (0 : Int32)), (.int x5), (.long x1.toInt64), (.long (0 : Int64))])) rfl (by rw [hml]; rfl) (argsL := [(.int x5), (.int (0 : Int32))]) (rest := [(.long x1.toInt64), (.long (0 : Int64))]) (lenOf pd0_2 rfl) rfl (by show 2 * 0 + _ ≤ _; exact Nat.le_of_eq rfl) (hb hby at_56) (fun _ _ => ⟨rfl, e_34, (by decide : 2 + 0 ≤ _), (by decide : 2 + 0 ≤ _)⟩)
    dsimp only [Pt.U, Pt.locs, Pt.cells, Pt.slots] at X_38 l_38 y_38 z_38 st_38 hQ_38
    subst l_38 y_38 z_38
    refine own_st st_38 ?_
    obtain ⟨rfl, Nq_38, eq_38⟩ := hQ_38
    have N_38 := Fr.app N_34 Nq_38
    show own_Go p e below _ T_38 (mkF m 59 #[.val (.int x0), .val (.int x1), .val (.int x2), .val (.int x3), .val (.int x4), .val (.int x5), .val (.int (1 : Int32)), .val (.ref a_22), .val (.ref a_25), .val (.long (0 : Int64)), .second, .unset, .unset, .unset] [(.int (own_nib x5 (0 : Int32))), (.long x1.toInt64), (.long (0 : Int64))])
    refine own_i2l X_38 hx (hb hby at_59) (pc' := 60) rfl ?_
    refine own_lmul X_38 hx (hb hby at_60) (pc' := 61) rfl ?_
    refine own_ladd X_38 hx (hb hby at_61) (pc' := 62) rfl ?_
    refine own_lstore X_38 hx (hb hby at_62) (pc' := 64) (Ls' := #[.val (.int x0), .val (.int x1), .val (.int x2), .val (.int x3), .val (.int x4), .val (.int x5), .val (.int (1 : Int32)), .val (.ref a_22), .val (.ref a_25), .val (.long ((0 : Int64) + (x1.toInt64 * (own_nib x5 (0 : Int32)).toInt64))), .second, .unset, .unset, .unset]) rfl rfl ?_
    obtain ⟨s_0, es_0, hs_0⟩ := own_acc (s := (0 : Int64)) (x := x1) (b := own_nib x5 (0 : Int32)) ⟨by omega, by omega⟩ (own_nb x5 _)
    rw [← es_0]
    have P0 := own_pb (rng32 x1) (own_nb x5 (0 : Int32))
    refine own_iload X_38 hx (hb hby at_64) (pc' := 66) rfl rfl ?_
    refine own_iconst X_38 hx (1) (hb hby at_66) (pc' := 67) rfl rfl ?_
    refine own_icmpY X_38 hx (hb hby at_67) (by decide) (pc' := 106) (by decide) (by decide) ?_
    refine own_iload X_38 hx (hb hby at_106) (pc' := 108) rfl rfl ?_
    refine own_iconst X_38 hx (2) (hb hby at_108) (pc' := 109) rfl rfl ?_
    refine own_icmpY X_38 hx (hb hby at_109) (by decide) (pc' := 148) (by decide) (by decide) ?_
    refine own_iload X_38 hx (hb hby at_148) (pc' := 150) rfl rfl ?_
    refine own_iconst X_38 hx (3) (hb hby at_150) (pc' := 151) rfl rfl ?_
    refine own_icmpY X_38 hx (hb hby at_151) (by decide) (pc' := 192) (by decide) (by decide) ?_
    obtain ⟨T_39, h_39, X_39, e_39, E_39, A_39, D_39, -, st_39⟩ := newO X_38 hx hZ hown (hw _ (List.mem_of_getElem? (i := 2) rfl)) (hw _ (List.mem_of_getElem? (i := 3) rfl)) (hw _ (List.mem_of_getElem? (i := 4) rfl)) eq_38 (g := (mkF m 192 #[.val (.int x0), .val (.int x1), .val (.int x2), .val (.int x3), .val (.int x4), .val (.int x5), .val (.int (1 : Int32)), .val (.ref a_22), .val (.ref a_25), .val (.long s_0), .second, .unset, .unset, .unset] [])) rfl (hb hby at_192) (by decide) (by decide)
    obtain ⟨a_39, g_39⟩ : ∃ z, z = h_34.size := ⟨_, rfl⟩
    rw [← g_39] at A_39 D_39 st_39
    have ge_39 : n0 ≤ a_39 := Nat.le_trans Z_36 (Nat.le_of_eq g_39.symm)
    have ne_39_a_25 : a_25 ≠ a_39 := Nat.ne_of_lt (Nat.lt_of_lt_of_eq V_35.lt g_39.symm)
    have ne_39_a_22 : a_22 ≠ a_39 := Nat.ne_of_lt (Nat.lt_of_lt_of_eq V_37.lt g_39.symm)
    have V_41 : Arv Z h_39 a_25 kc_25 .double (1 : Int32) [(.double (FP.ddiv (FP.l2d (own_nib x5 (0 : Int32)).toInt64) (4643211215818981376 : UInt64)))] (.double (0 : UInt64)) := V_35.ext E_39
    have V_42 : Arv Z h_39 a_22 kc_22 .double (1 : Int32) [(.double (FP.l2d x1.toInt64))] (.double (0 : UInt64)) := V_37.ext E_39
    have Z_40 : n0 ≤ h_39.size := Nat.le_trans Z_36 E_39.1
    have F_43 : Fld Z h_39 a_39 "com/example/sluicegate/sluicegate/RecentTimes$Bins" "values" "[D" (.null) := D_39 (Or.inr (hw _ (List.mem_of_getElem? (i := 17) rfl))) (ty := (.array .double)) (by decide)
    have F_44 : Fld Z h_39 a_39 "com/example/sluicegate/sluicegate/RecentTimes$Bins" "weights" "[D" (.null) := D_39 (Or.inr (hw _ (List.mem_of_getElem? (i := 19) rfl))) (ty := (.array .double)) (by decide)
    refine own_st st_39 ?_
    show own_Go p e below _ T_39 (mkF m 195 #[.val (.int x0), .val (.int x1), .val (.int x2), .val (.int x3), .val (.int x4), .val (.int x5), .val (.int (1 : Int32)), .val (.ref a_22), .val (.ref a_25), .val (.long s_0), .second, .unset, .unset, .unset] [(.ref a_39)])
    refine own_dup X_39 hx (hb hby at_195) (pc' := 196) rfl rfl ?_
    refine own_aload X_39 hx (hb hby at_196) (pc' := 198) rfl rfl rfl ?_
    refine own_aload X_39 hx (hb hby at_198) (pc' := 200) rfl rfl rfl ?_
    obtain ⟨_, _, ⟨T_45, L_45, k_45, n_45⟩, -, X_45, ⟨Lc_45, hQ_45, l_45, y_45, z_45⟩, st_45⟩ := X_39.specialBack hx  (y := (⟨"com/example/sluicegate/sluicegate/RecentTimes$Bins", "<init>", "([D[D)V"⟩ : MethodName)) rfl hown (mvT hZ (hw _ (List.mem_of_getElem? (i := 5) rfl))) (mvT hZ (hw _ (List.mem_of_getElem? (i := 6) rfl))) (mvT hZ (hw _ (List.mem_of_getElem? (i := 7) rfl))) (by decide) (backOf (W := 1) (rm2 l Z a0 hw [] a_39 a_22 a_25 h_39 n0 Z_40 A_39 F_43 F_44 ge_39) hZ (hw _ (List.mem_of_getElem? (i := 7) rfl)) (hw _ (List.mem_of_getElem? (i := 4) rfl)) (by decide) (by decide)) (g := (mkF m 200 #[.val (.int x0), .val (.int x1), .val (.int x2), .val (.int x3), .val (.int x4), .val (.int x5), .val (.int (1 : Int32)), .val (.ref a_22), .val (.ref a_25), .val (.long s_0), .second, .unset, .unset, .unset] [(.ref a_25), (.ref a_22), (.ref a_39), (.ref a_39)])) rfl (by rw [hml]; rfl) (Steps.refl _) (a := a_39) (argsL := [(.ref a_22), (.ref a_25)]) (rest := [(.ref a_39)]) (lenOf pd0_0 rfl) rfl (by show 2 * 0 + _ ≤ _; exact Nat.le_of_eq rfl) (hb hby at_200) (fun _ _ => ⟨rfl, e_39, (by decide : 3 + 0 ≤ _), (by decide : 4 + 0 ≤ _)⟩)
    dsimp only [Pt.U, Pt.locs, Pt.cells, Pt.slots] at X_45 l_45 y_45 z_45 st_45 hQ_45
    subst l_45 y_45 z_45
    refine own_tr st_45 ?_
    obtain ⟨rfl, Nq_45, Kq_45, q0_45, q1_45⟩ := hQ_45
    have N_45 := Fr.app N_38 Nq_45
    have F_46 : Fld Z T_45.heap a_39 "com/example/sluicegate/sluicegate/RecentTimes$Bins" "values" "[D" (.ref a_22) := q0_45
    have F_47 : Fld Z T_45.heap a_39 "com/example/sluicegate/sluicegate/RecentTimes$Bins" "weights" "[D" (.ref a_25) := q1_45
    have V_49 : Arv Z T_45.heap a_25 kc_25 .double (1 : Int32) [(.double (FP.ddiv (FP.l2d (own_nib x5 (0 : Int32)).toInt64) (4643211215818981376 : UInt64)))] (.double (0 : UInt64)) := V_41.keep Kq_45 (ninS ne_39_a_25 nin0)
    have V_50 : Arv Z T_45.heap a_22 kc_22 .double (1 : Int32) [(.double (FP.l2d x1.toInt64))] (.double (0 : UInt64)) := V_42.keep Kq_45 (ninS ne_39_a_22 nin0)
    have A_51 : Exa Z T_45.heap a_39 "com/example/sluicegate/sluicegate/RecentTimes$Bins" := A_39.keep Kq_45
    have Z_48 : n0 ≤ T_45.heap.size := Nat.le_trans Z_40 Kq_45.1
    show own_Go p e below _ T_45 (mkF m 203 #[.val (.int x0), .val (.int x1), .val (.int x2), .val (.int x3), .val (.int x4), .val (.int x5), .val (.int (1 : Int32)), .val (.ref a_22), .val (.ref a_25), .val (.long s_0), .second, .unset, .unset, .unset] [(.ref a_39)])
    refine own_astore X_45 hx (hb hby at_203) (pc' := 205) (Ls' := #[.val (.int x0), .val (.int x1), .val (.int x2), .val (.int x3), .val (.int x4), .val (.int x5), .val (.int (1 : Int32)), .val (.ref a_22), .val (.ref a_25), .val (.long s_0), .second, .val (.ref a_39), .unset, .unset]) rfl rfl rfl ?_
    have hsm : FP.Core.Small53 s_0 := own_sm (by omega) (by omega)
    refine own_lload X_45 hx (hb hby at_205) (pc' := 207) rfl rfl ?_
    refine own_l2d X_45 hx (hb hby at_207) (pc' := 208) rfl ?_
    refine own_ldcD X_45 hx hown (mvT hZ (hw _ (List.mem_of_getElem? (i := 20) rfl))) (hb hby at_208) (pc' := 211) rfl ?_
    refine own_ddiv X_45 hx (hb hby at_211) (pc' := 212) rfl (own_En (own_Ed hsm)) ?_
    refine own_dstore X_45 hx (hb hby at_212) (pc' := 214) (Ls' := #[.val (.int x0), .val (.int x1), .val (.int x2), .val (.int x3), .val (.int x4), .val (.int x5), .val (.int (1 : Int32)), .val (.ref a_22), .val (.ref a_25), .val (.long s_0), .second, .val (.ref a_39), .val (.double (FP.ddiv (FP.l2d s_0) (4643211215818981376 : UInt64))), .second]) rfl rfl ?_
    refine own_aload X_45 hx (hb hby at_214) (pc' := 216) rfl rfl rfl ?_
    obtain ⟨cq_52, kq_52, qa_52, qb_52, qc_52⟩ := isOf hZ rfl A_51
    obtain ⟨_, _, ⟨T_52, L_52, k_52, n_52⟩, -, X_52, ⟨Lc_52, hQ_52, l_52, y_52, z_52⟩, st_52⟩ := X_45.virtualBack hx  (y := (⟨"com/example/sluicegate/sluicegate/RecentTimes$Bins", "mean", "()D"⟩ : MethodName)) (z := (⟨"com/example/sluicegate/sluicegate/RecentTimes$Bins", "mean", "()D"⟩ : MethodName)) hown (mvT hZ (hw _ (List.mem_of_getElem? (i := 21) rfl))) (mvT hZ (hw _ (List.mem_of_getElem? (i := 22) rfl))) (notFace_of_selects (args := #[]) (mvT hZ (hw _ (List.mem_of_getElem? (i := 24) rfl)))) (mvT hZ (hw _ (List.mem_of_getElem? (i := 24) rfl))) (mvT hZ (hw _ (List.mem_of_getElem? (i := 23) rfl))) (by decide) (backOf (W := 0) (rm51 l Z a0 hw [] a_39 a_22 a_25 kc_22 kc_25 (FP.l2d x1.toInt64) (FP.ddiv (FP.l2d (own_nib x5 (0 : Int32)).toInt64) (4643211215818981376 : UInt64)) x1.toInt (own_nib x5 (0 : Int32)).toInt T_45.heap n0 Z_48 F_46 F_47 V_50 V_49 (own_Ei x1) (own_Ew (own_nib x5 (0 : Int32))) (rng32 x1) (own_nb x5 (0 : Int32))) hZ (hw _ (List.mem_of_getElem? (i := 25) rfl)) (hw _ (List.mem_of_getElem? (i := 4) rfl)) (by decide) (by decide)) qa_52 qc_52 (g := (mkF m 216 #[.val (.int x0), .val (.int x1), .val (.int x2), .val (.int x3), .val (.int x4), .val (.int x5), .val (.int (1 : Int32)), .val (.ref a_22), .val (.ref a_25), .val (.long s_0), .second, .val (.ref a_39), .val (.double (FP.ddiv (FP.l2d s_0) (4643211215818981376 : UInt64))), .second] [(.ref a_39)])) rfl (by rw [hml]; rfl) (Steps.refl _) (argsL := []) (rest := []) (lenOf pd0_1 rfl) rfl (by show 2 * 0 + _ ≤ _; exact Nat.le_of_eq rfl) (hb hby at_216) (fun _ _ => ⟨rfl, rfl, (by decide : 3 + 0 ≤ _), (by decide : 4 + 0 ≤ _)⟩)
    dsimp only [Pt.U, Pt.locs, Pt.cells, Pt.slots] at X_52 l_52 y_52 z_52 st_52 hQ_52
    subst l_52 y_52 z_52
    refine own_tr st_52 ?_
    obtain ⟨⟨xm, rfl, Em⟩, Nq_52, eq_52⟩ := hQ_52
    have N_52 := Fr.app N_45 Nq_52
    show own_Go p e below _ T_52 (mkF m 219 #[.val (.int x0), .val (.int x1), .val (.int x2), .val (.int x3), .val (.int x4), .val (.int x5), .val (.int (1 : Int32)), .val (.ref a_22), .val (.ref a_25), .val (.long s_0), .second, .val (.ref a_39), .val (.double (FP.ddiv (FP.l2d s_0) (4643211215818981376 : UInt64))), .second] [(.double xm)])
    refine own_dload X_52 hx (hb hby at_219) (pc' := 221) rfl rfl ?_
    refine own_dcmp X_52 hx (0) (own_Eq Em (own_Ed hsm) (by omega) _) (hb hby at_221) (pc' := 222) rfl ?_
    refine own_ifN X_52 hx (hb hby at_222) (by decide) (pc' := 225) rfl ?_
    refine own_iconst X_52 hx (1) (hb hby at_225) (pc' := 226) rfl rfl ?_
    refine own_goto X_52 hx (hb hby at_226) (pc' := 230) (by decide) (by decide) ?_
    refine own_retZ X_52 hx hlk Bd.returns (by simp) (hb hby at_230) (by decide) (by decide) ?_
    exact ⟨rfl, N_52⟩
  · skip
    rw [hN]
    have e00 : (0 : Int64).toInt = 0 := rfl
    refine own_iload X0 hx (hb hby at_8) (pc' := 10) rfl rfl ?_
    obtain ⟨T_53, h_53, kc_53, X_53, e_53, E_53, A_53, st_53⟩ := newP X0 hx hZ (hw _ (List.mem_of_getElem? (i := 1) rfl)) e0 (g := (mkF m 10 #[.val (.int x0), .val (.int x1), .val (.int x2), .val (.int x3), .val (.int x4), .val (.int x5), .val (.int (2 : Int32)), .unset, .unset, .unset, .unset, .unset, .unset, .unset] [(.int (2 : Int32))])) rfl (hb hby at_10) rfl (by decide) (cap := 2) (by decide) (by decide) (by decide) (by decide)
    obtain ⟨a_53, g_53⟩ : ∃ z, z = h0.size := ⟨_, rfl⟩
    rw [← g_53] at A_53 st_53
    have ge_53 : n0 ≤ a_53 := Nat.le_trans Z0 (Nat.le_of_eq g_53.symm)
    have Z_54 : n0 ≤ h_53.size := Nat.le_trans Z0 E_53.1
    have V_55 : Arv Z h_53 a_53 kc_53 .double (2 : Int32) [(.double (0 : UInt64)), (.double (0 : UInt64))] (.double (0 : UInt64)) := (Arv.new A_53 (by decide)).pad (pad_rep [] (.double (0 : UInt64)) 2)
    refine own_st st_53 ?_
    show own_Go p e below _ T_53 (mkF m 12 #[.val (.int x0), .val (.int x1), .val (.int x2), .val (.int x3), .val (.int x4), .val (.int x5), .val (.int (2 : Int32)), .unset, .unset, .unset, .unset, .unset, .unset, .unset] [(.ref a_53)])
    refine own_astore X_53 hx (hb hby at_12) (pc' := 14) (Ls' := #[.val (.int x0), .val (.int x1), .val (.int x2), .val (.int x3), .val (.int x4), .val (.int x5), .val (.int (2 : Int32)), .val (.ref a_53), .unset, .unset, .unset, .unset, .unset, .unset]) rfl rfl rfl ?_
    refine own_iload X_53 hx (hb hby at_14) (pc' := 16) rfl rfl ?_
    obtain ⟨T_56, h_56, kc_56, X_56, e_56, E_56, A_56, st_56⟩ := newP X_53 hx hZ (hw _ (List.mem_of_getElem? (i := 1) rfl)) e_53 (g := (mkF m 16 #[.val (.int x0), .val (.int x1), .val (.int x2), .val (.int x3), .val (.int x4), .val (.int x5), .val (.int (2 : Int32)), .val (.ref a_53), .unset, .unset, .unset, .unset, .unset, .unset] [(.int (2 : Int32))])) rfl (hb hby at_16) rfl (by decide) (cap := 2) (by decide) (by decide) (by decide) (by decide)
    obtain ⟨a_56, g_56⟩ : ∃ z, z = h_53.size := ⟨_, rfl⟩
    rw [← g_56] at A_56 st_56
    have ge_56 : n0 ≤ a_56 := Nat.le_trans Z_54 (Nat.le_of_eq g_56.symm)
    have ne_56_a_53 : a_53 ≠ a_56 := Nat.ne_of_lt (Nat.lt_of_lt_of_eq V_55.lt g_56.symm)
    have V_58 : Arv Z h_56 a_53 kc_53 .double (2 : Int32) [(.double (0 : UInt64)), (.double (0 : UInt64))] (.double (0 : UInt64)) := V_55.ext E_56
    have Z_57 : n0 ≤ h_56.size := Nat.le_trans Z_54 E_56.1
    have V_59 : Arv Z h_56 a_56 kc_56 .double (2 : Int32) [(.double (0 : UInt64)), (.double (0 : UInt64))] (.double (0 : UInt64)) := (Arv.new A_56 (by decide)).pad (pad_rep [] (.double (0 : UInt64)) 2)
    refine own_st st_56 ?_
    show own_Go p e below _ T_56 (mkF m 18 #[.val (.int x0), .val (.int x1), .val (.int x2), .val (.int x3), .val (.int x4), .val (.int x5), .val (.int (2 : Int32)), .val (.ref a_53), .unset, .unset, .unset, .unset, .unset, .unset] [(.ref a_56)])
    refine own_astore X_56 hx (hb hby at_18) (pc' := 20) (Ls' := #[.val (.int x0), .val (.int x1), .val (.int x2), .val (.int x3), .val (.int x4), .val (.int x5), .val (.int (2 : Int32)), .val (.ref a_53), .val (.ref a_56), .unset, .unset, .unset, .unset, .unset]) rfl rfl rfl ?_
    refine own_lconst X_56 hx (0) (hb hby at_20) (pc' := 21) rfl rfl ?_
    refine own_lstore X_56 hx (hb hby at_21) (pc' := 23) (Ls' := #[.val (.int x0), .val (.int x1), .val (.int x2), .val (.int x3), .val (.int x4), .val (.int x5), .val (.int (2 : Int32)), .val (.ref a_53), .val (.ref a_56), .val (.long (0 : Int64)), .second, .unset, .unset, .unset]) rfl rfl ?_
    refine own_iload X_56 hx (hb hby at_23) (pc' := 25) rfl rfl ?_
    refine own_ifN X_56 hx (hb hby at_25) (by decide) (pc' := 28) rfl ?_
    refine own_aload X_56 hx (hb hby at_28) (pc' := 30) rfl rfl rfl ?_
    refine own_iconst X_56 hx (0) (hb hby at_30) (pc' := 31) rfl rfl ?_
    refine own_iloadN X_56 hx (hb hby at_31) (pc' := 32) rfl rfl ?_
    refine own_i2d X_56 hx (hb hby at_32) (pc' := 33) rfl ?_
    obtain ⟨T_60, h_60, X_60, e_60, W_60, V_60, st_60⟩ := own_dastore X_56 hx hZ e_56 V_58 0 (x := (FP.l2d x1.toInt64)) (j := (0 : Int32)) (Ls := #[.val (.int x0), .val (.int x1), .val (.int x2), .val (.int x3), .val (.int x4), .val (.int x5), .val (.int (2 : Int32)), .val (.ref a_53), .val (.ref a_56), .val (.long (0 : Int64)), .second, .unset, .unset, .unset]) (st := []) ⟨by decide, by decide⟩ rfl (Nat.le_of_ble_eq_true rfl) (hb hby at_33)
    have V_61 : Arv Z h_60 a_53 kc_53 .double (2 : Int32) [(.double (FP.l2d x1.toInt64)), (.double (0 : UInt64))] (.double (0 : UInt64)) := V_60
    have V_63 : Arv Z h_60 a_56 kc_56 .double (2 : Int32) [(.double (0 : UInt64)), (.double (0 : UInt64))] (.double (0 : UInt64)) := V_59.other W_60 (Ne.symm ne_56_a_53)
    have Z_62 : n0 ≤ h_60.size := by rw [W_60.size]; exact Z_57
    have N_60 := Fr.snoc X_60 N0 ge_53
    refine own_st st_60 ?_
    show own_Go p e below _ T_60 (mkF m 34 #[.val (.int x0), .val (.int x1), .val (.int x2), .val (.int x3), .val (.int x4), .val (.int x5), .val (.int (2 : Int32)), .val (.ref a_53), .val (.ref a_56), .val (.long (0 : Int64)), .second, .unset, .unset, .unset] [])
    refine own_aload X_60 hx (hb hby at_34) (pc' := 36) rfl rfl rfl ?_
    refine own_iconst X_60 hx (0) (hb hby at_36) (pc' := 37) rfl rfl ?_
    refine own_iload X_60 hx (hb hby at_37) (pc' := 39) rfl rfl ?_
    refine own_iconst X_60 hx (0) (hb hby at_39) (pc' := 40) rfl rfl ?_
    obtain ⟨_, _, ⟨T_64, L_64, k_64, n_64⟩, -, X_64, ⟨Lc_64, hQ_64, l_64, y_64, z_64⟩, st_64⟩ := Jvm.LawKit.callS X_60 hx (y := (⟨"com/example/sluicegate/sluicegate/BinsMeanPinLaw", "nib", "(II)I"⟩ : MethodName)) hown (mvT hZ (hw _ (List.mem_of_getElem? (i := 26) rfl))) (mvT hZ (hw _ (List.mem_of_getElem? (i := 27) rfl))) (mvT hZ (hw _ (List.mem_of_getElem? (i := 28) rfl))) (mvT hZ (hw _ (List.mem_of_getElem? (i := 29) rfl))) (by decide) (backOf (W := 2) (rm3 l Z a0 hw [] x5 (0 : Int32) h_60 n0 Z_62) hZ (hw _ (List.mem_of_getElem? (i := 29) rfl)) (hw _ (List.mem_of_getElem? (i := 28) rfl)) (by decide) (by decide)) (g := (mkF m 40 #[.val (.int x0), .val (.int x1), .val (.int x2), .val (.int x3), .val (.int x4), .val (.int x5), .val (.int (2 : Int32)), .val (.ref a_53), .val (.ref a_56), .val (.long (0 : Int64)), .second, .unset, .unset, .unset] [(.int (0 : Int32)), (.int x5), (.int (0 : Int32)), (.ref a_56)])) rfl (by rw [hml]; rfl) (argsL := [(.int x5), (.int (0 : Int32))]) (rest := [(.int (0 : Int32)), (.ref a_56)]) (lenOf pd0_2 rfl) rfl (by show 2 * 0 + _ ≤ _; exact Nat.le_of_eq rfl) (hb hby at_40) (fun _ _ => ⟨rfl, e_60, (by decide : 2 + 0 ≤ _), (by decide : 4 + 0 ≤ _)⟩)
    dsimp only [Pt.U, Pt.locs, Pt.cells, Pt.slots] at X_64 l_64 y_64 z_64 st_64 hQ_64
    subst l_64 y_64 z_64
    refine own_st st_64 ?_
    obtain ⟨rfl, Nq_64, eq_64⟩ := hQ_64
    have N_64 := Fr.app N_60 Nq_64
    show own_Go p e below _ T_64 (mkF m 43 #[.val (.int x0), .val (.int x1), .val (.int x2), .val (.int x3), .val (.int x4), .val (.int x5), .val (.int (2 : Int32)), .val (.ref a_53), .val (.ref a_56), .val (.long (0 : Int64)), .second, .unset, .unset, .unset] [(.int (own_nib x5 (0 : Int32))), (.int (0 : Int32)), (.ref a_56)])
    refine own_i2d X_64 hx (hb hby at_43) (pc' := 44) rfl ?_
    refine own_ldcD X_64 hx hown (mvT hZ (hw _ (List.mem_of_getElem? (i := 20) rfl))) (hb hby at_44) (pc' := 47) rfl ?_
    refine own_ddiv X_64 hx (hb hby at_47) (pc' := 48) rfl (own_En (own_Ew _)) ?_
    obtain ⟨T_65, h_65, X_65, e_65, W_65, V_65, st_65⟩ := own_dastore X_64 hx hZ eq_64 V_63 0 (x := (FP.ddiv (FP.l2d (own_nib x5 (0 : Int32)).toInt64) (4643211215818981376 : UInt64))) (j := (0 : Int32)) (Ls := #[.val (.int x0), .val (.int x1), .val (.int x2), .val (.int x3), .val (.int x4), .val (.int x5), .val (.int (2 : Int32)), .val (.ref a_53), .val (.ref a_56), .val (.long (0 : Int64)), .second, .unset, .unset, .unset]) (st := []) ⟨by decide, by decide⟩ rfl (Nat.le_of_ble_eq_true rfl) (hb hby at_48)
    have V_66 : Arv Z h_65 a_56 kc_56 .double (2 : Int32) [(.double (FP.ddiv (FP.l2d (own_nib x5 (0 : Int32)).toInt64) (4643211215818981376 : UInt64))), (.double (0 : UInt64))] (.double (0 : UInt64)) := V_65
    have V_68 : Arv Z h_65 a_53 kc_53 .double (2 : Int32) [(.double (FP.l2d x1.toInt64)), (.double (0 : UInt64))] (.double (0 : UInt64)) := V_61.other W_65 ne_56_a_53
    have Z_67 : n0 ≤ h_65.size := by rw [W_65.size]; exact Z_62
    have N_65 := Fr.snoc X_65 N_64 ge_56
    refine own_st st_65 ?_
    show own_Go p e below _ T_65 (mkF m 49 #[.val (.int x0), .val (.int x1), .val (.int x2), .val (.int x3), .val (.int x4), .val (.int x5), .val (.int (2 : Int32)), .val (.ref a_53), .val (.ref a_56), .val (.long (0 : Int64)), .second, .unset, .unset, .unset] [])
    refine own_lload X_65 hx (hb hby at_49) (pc' := 51) rfl rfl ?_
    refine own_iloadN X_65 hx (hb hby at_51) (pc' := 52) rfl rfl ?_
    refine own_i2l X_65 hx (hb hby at_52) (pc' := 53) rfl ?_
    refine own_iload X_65 hx (hb hby at_53) (pc' := 55) rfl rfl ?_
    refine own_iconst X_65 hx (0) (hb hby at_55) (pc' := 56) rfl rfl ?_
    obtain ⟨_, _, ⟨T_69, L_69, k_69, n_69⟩, -, X_69, ⟨Lc_69, hQ_69, l_69, y_69, z_69⟩, st_69⟩ := Jvm.LawKit.callS X_65 hx (y := (⟨"com/example/sluicegate/sluicegate/BinsMeanPinLaw", "nib", "(II)I"⟩ : MethodName)) hown (mvT hZ (hw _ (List.mem_of_getElem? (i := 26) rfl))) (mvT hZ (hw _ (List.mem_of_getElem? (i := 27) rfl))) (mvT hZ (hw _ (List.mem_of_getElem? (i := 28) rfl))) (mvT hZ (hw _ (List.mem_of_getElem? (i := 29) rfl))) (by decide) (backOf (W := 4) (rm3 l Z a0 hw [] x5 (0 : Int32) h_65 n0 Z_67) hZ (hw _ (List.mem_of_getElem? (i := 29) rfl)) (hw _ (List.mem_of_getElem? (i := 28) rfl)) (by decide) (by decide)) (g := (mkF m 56 #[.val (.int x0), .val (.int x1), .val (.int x2), .val (.int x3), .val (.int x4), .val (.int x5), .val (.int (2 : Int32)), .val (.ref a_53), .val (.ref a_56), .val (.long (0 : Int64)), .second, .unset, .unset, .unset] [(.int (0 : Int32)), (.int x5), (.long x1.toInt64), (.long (0 : Int64))])) rfl (by rw [hml]; rfl) (argsL := [(.int x5), (.int (0 : Int32))]) (rest := [(.long x1.toInt64), (.long (0 : Int64))]) (lenOf pd0_2 rfl) rfl (by show 2 * 0 + _ ≤ _; exact Nat.le_of_eq rfl) (hb hby at_56) (fun _ _ => ⟨rfl, e_65, (by decide : 2 + 0 ≤ _), (by decide : 4 + 0 ≤ _)⟩)
    dsimp only [Pt.U, Pt.locs, Pt.cells, Pt.slots] at X_69 l_69 y_69 z_69 st_69 hQ_69
    subst l_69 y_69 z_69
    refine own_st st_69 ?_
    obtain ⟨rfl, Nq_69, eq_69⟩ := hQ_69
    have N_69 := Fr.app N_65 Nq_69
    show own_Go p e below _ T_69 (mkF m 59 #[.val (.int x0), .val (.int x1), .val (.int x2), .val (.int x3), .val (.int x4), .val (.int x5), .val (.int (2 : Int32)), .val (.ref a_53), .val (.ref a_56), .val (.long (0 : Int64)), .second, .unset, .unset, .unset] [(.int (own_nib x5 (0 : Int32))), (.long x1.toInt64), (.long (0 : Int64))])
    refine own_i2l X_69 hx (hb hby at_59) (pc' := 60) rfl ?_
    refine own_lmul X_69 hx (hb hby at_60) (pc' := 61) rfl ?_
    refine own_ladd X_69 hx (hb hby at_61) (pc' := 62) rfl ?_
    refine own_lstore X_69 hx (hb hby at_62) (pc' := 64) (Ls' := #[.val (.int x0), .val (.int x1), .val (.int x2), .val (.int x3), .val (.int x4), .val (.int x5), .val (.int (2 : Int32)), .val (.ref a_53), .val (.ref a_56), .val (.long ((0 : Int64) + (x1.toInt64 * (own_nib x5 (0 : Int32)).toInt64))), .second, .unset, .unset, .unset]) rfl rfl ?_
    obtain ⟨s_0, es_0, hs_0⟩ := own_acc (s := (0 : Int64)) (x := x1) (b := own_nib x5 (0 : Int32)) ⟨by omega, by omega⟩ (own_nb x5 _)
    rw [← es_0]
    have P0 := own_pb (rng32 x1) (own_nb x5 (0 : Int32))
    refine own_iload X_69 hx (hb hby at_64) (pc' := 66) rfl rfl ?_
    refine own_iconst X_69 hx (1) (hb hby at_66) (pc' := 67) rfl rfl ?_
    refine own_icmpN X_69 hx (hb hby at_67) (by decide) (pc' := 70) rfl ?_
    refine own_aload X_69 hx (hb hby at_70) (pc' := 72) rfl rfl rfl ?_
    refine own_iconst X_69 hx (1) (hb hby at_72) (pc' := 73) rfl rfl ?_
    refine own_iloadN X_69 hx (hb hby at_73) (pc' := 74) rfl rfl ?_
    refine own_i2d X_69 hx (hb hby at_74) (pc' := 75) rfl ?_
    obtain ⟨T_70, h_70, X_70, e_70, W_70, V_70, st_70⟩ := own_dastore X_69 hx hZ eq_69 V_68 1 (x := (FP.l2d x2.toInt64)) (j := (1 : Int32)) (Ls := #[.val (.int x0), .val (.int x1), .val (.int x2), .val (.int x3), .val (.int x4), .val (.int x5), .val (.int (2 : Int32)), .val (.ref a_53), .val (.ref a_56), .val (.long s_0), .second, .unset, .unset, .unset]) (st := []) ⟨by decide, by decide⟩ rfl (Nat.le_of_ble_eq_true rfl) (hb hby at_75)
    have V_71 : Arv Z h_70 a_53 kc_53 .double (2 : Int32) [(.double (FP.l2d x1.toInt64)), (.double (FP.l2d x2.toInt64))] (.double (0 : UInt64)) := V_70
    have V_73 : Arv Z h_70 a_56 kc_56 .double (2 : Int32) [(.double (FP.ddiv (FP.l2d (own_nib x5 (0 : Int32)).toInt64) (4643211215818981376 : UInt64))), (.double (0 : UInt64))] (.double (0 : UInt64)) := V_66.other W_70 (Ne.symm ne_56_a_53)
    have Z_72 : n0 ≤ h_70.size := by rw [W_70.size]; exact Z_67
    have N_70 := Fr.snoc X_70 N_69 ge_53
    refine own_st st_70 ?_
    show own_Go p e below _ T_70 (mkF m 76 #[.val (.int x0), .val (.int x1), .val (.int x2), .val (.int x3), .val (.int x4), .val (.int x5), .val (.int (2 : Int32)), .val (.ref a_53), .val (.ref a_56), .val (.long s_0), .second, .unset, .unset, .unset] [])
    refine own_aload X_70 hx (hb hby at_76) (pc' := 78) rfl rfl rfl ?_
    refine own_iconst X_70 hx (1) (hb hby at_78) (pc' := 79) rfl rfl ?_
    refine own_iload X_70 hx (hb hby at_79) (pc' := 81) rfl rfl ?_
    refine own_iconst X_70 hx (1) (hb hby at_81) (pc' := 82) rfl rfl ?_
    obtain ⟨_, _, ⟨T_74, L_74, k_74, n_74⟩, -, X_74, ⟨Lc_74, hQ_74, l_74, y_74, z_74⟩, st_74⟩ := Jvm.LawKit.callS X_70 hx (y := (⟨"com/example/sluicegate/sluicegate/BinsMeanPinLaw", "nib", "(II)I"⟩ : MethodName)) hown (mvT hZ (hw _ (List.mem_of_getElem? (i := 26) rfl))) (mvT hZ (hw _ (List.mem_of_getElem? (i := 27) rfl))) (mvT hZ (hw _ (List.mem_of_getElem? (i := 28) rfl))) (mvT hZ (hw _ (List.mem_of_getElem? (i := 29) rfl))) (by decide) (backOf (W := 2) (rm3 l Z a0 hw [] x5 (1 : Int32) h_70 n0 Z_72) hZ (hw _ (List.mem_of_getElem? (i := 29) rfl)) (hw _ (List.mem_of_getElem? (i := 28) rfl)) (by decide) (by decide)) (g := (mkF m 82 #[.val (.int x0), .val (.int x1), .val (.int x2), .val (.int x3), .val (.int x4), .val (.int x5), .val (.int (2 : Int32)), .val (.ref a_53), .val (.ref a_56), .val (.long s_0), .second, .unset, .unset, .unset] [(.int (1 : Int32)), (.int x5), (.int (1 : Int32)), (.ref a_56)])) rfl (by rw [hml]; rfl) (argsL := [(.int x5), (.int (1 : Int32))]) (rest := [(.int (1 : Int32)), (.ref a_56)]) (lenOf pd0_2 rfl) rfl (by show 2 * 0 + _ ≤ _; exact Nat.le_of_eq rfl) (hb hby at_82) (fun _ _ => ⟨rfl, e_70, (by decide : 2 + 0 ≤ _), (by decide : 4 + 0 ≤ _)⟩)
    dsimp only [Pt.U, Pt.locs, Pt.cells, Pt.slots] at X_74 l_74 y_74 z_74 st_74 hQ_74
    subst l_74 y_74 z_74
    refine own_st st_74 ?_
    obtain ⟨rfl, Nq_74, eq_74⟩ := hQ_74
    have N_74 := Fr.app N_70 Nq_74
    show own_Go p e below _ T_74 (mkF m 85 #[.val (.int x0), .val (.int x1), .val (.int x2), .val (.int x3), .val (.int x4), .val (.int x5), .val (.int (2 : Int32)), .val (.ref a_53), .val (.ref a_56), .val (.long s_0), .second, .unset, .unset, .unset] [(.int (own_nib x5 (1 : Int32))), (.int (1 : Int32)), (.ref a_56)])
    refine own_i2d X_74 hx (hb hby at_85) (pc' := 86) rfl ?_
    refine own_ldcD X_74 hx hown (mvT hZ (hw _ (List.mem_of_getElem? (i := 20) rfl))) (hb hby at_86) (pc' := 89) rfl ?_
    refine own_ddiv X_74 hx (hb hby at_89) (pc' := 90) rfl (own_En (own_Ew _)) ?_
    obtain ⟨T_75, h_75, X_75, e_75, W_75, V_75, st_75⟩ := own_dastore X_74 hx hZ eq_74 V_73 1 (x := (FP.ddiv (FP.l2d (own_nib x5 (1 : Int32)).toInt64) (4643211215818981376 : UInt64))) (j := (1 : Int32)) (Ls := #[.val (.int x0), .val (.int x1), .val (.int x2), .val (.int x3), .val (.int x4), .val (.int x5), .val (.int (2 : Int32)), .val (.ref a_53), .val (.ref a_56), .val (.long s_0), .second, .unset, .unset, .unset]) (st := []) ⟨by decide, by decide⟩ rfl (Nat.le_of_ble_eq_true rfl) (hb hby at_90)
    have V_76 : Arv Z h_75 a_56 kc_56 .double (2 : Int32) [(.double (FP.ddiv (FP.l2d (own_nib x5 (0 : Int32)).toInt64) (4643211215818981376 : UInt64))), (.double (FP.ddiv (FP.l2d (own_nib x5 (1 : Int32)).toInt64) (4643211215818981376 : UInt64)))] (.double (0 : UInt64)) := V_75
    have V_78 : Arv Z h_75 a_53 kc_53 .double (2 : Int32) [(.double (FP.l2d x1.toInt64)), (.double (FP.l2d x2.toInt64))] (.double (0 : UInt64)) := V_71.other W_75 ne_56_a_53
    have Z_77 : n0 ≤ h_75.size := by rw [W_75.size]; exact Z_72
    have N_75 := Fr.snoc X_75 N_74 ge_56
    refine own_st st_75 ?_
    show own_Go p e below _ T_75 (mkF m 91 #[.val (.int x0), .val (.int x1), .val (.int x2), .val (.int x3), .val (.int x4), .val (.int x5), .val (.int (2 : Int32)), .val (.ref a_53), .val (.ref a_56), .val (.long s_0), .second, .unset, .unset, .unset] [])
    refine own_lload X_75 hx (hb hby at_91) (pc' := 93) rfl rfl ?_
    refine own_iloadN X_75 hx (hb hby at_93) (pc' := 94) rfl rfl ?_
    refine own_i2l X_75 hx (hb hby at_94) (pc' := 95) rfl ?_
    refine own_iload X_75 hx (hb hby at_95) (pc' := 97) rfl rfl ?_
    refine own_iconst X_75 hx (1) (hb hby at_97) (pc' := 98) rfl rfl ?_
    obtain ⟨_, _, ⟨T_79, L_79, k_79, n_79⟩, -, X_79, ⟨Lc_79, hQ_79, l_79, y_79, z_79⟩, st_79⟩ := Jvm.LawKit.callS X_75 hx (y := (⟨"com/example/sluicegate/sluicegate/BinsMeanPinLaw", "nib", "(II)I"⟩ : MethodName)) hown (mvT hZ (hw _ (List.mem_of_getElem? (i := 26) rfl))) (mvT hZ (hw _ (List.mem_of_getElem? (i := 27) rfl))) (mvT hZ (hw _ (List.mem_of_getElem? (i := 28) rfl))) (mvT hZ (hw _ (List.mem_of_getElem? (i := 29) rfl))) (by decide) (backOf (W := 4) (rm3 l Z a0 hw [] x5 (1 : Int32) h_75 n0 Z_77) hZ (hw _ (List.mem_of_getElem? (i := 29) rfl)) (hw _ (List.mem_of_getElem? (i := 28) rfl)) (by decide) (by decide)) (g := (mkF m 98 #[.val (.int x0), .val (.int x1), .val (.int x2), .val (.int x3), .val (.int x4), .val (.int x5), .val (.int (2 : Int32)), .val (.ref a_53), .val (.ref a_56), .val (.long s_0), .second, .unset, .unset, .unset] [(.int (1 : Int32)), (.int x5), (.long x2.toInt64), (.long s_0)])) rfl (by rw [hml]; rfl) (argsL := [(.int x5), (.int (1 : Int32))]) (rest := [(.long x2.toInt64), (.long s_0)]) (lenOf pd0_2 rfl) rfl (by show 2 * 0 + _ ≤ _; exact Nat.le_of_eq rfl) (hb hby at_98) (fun _ _ => ⟨rfl, e_75, (by decide : 2 + 0 ≤ _), (by decide : 4 + 0 ≤ _)⟩)
    dsimp only [Pt.U, Pt.locs, Pt.cells, Pt.slots] at X_79 l_79 y_79 z_79 st_79 hQ_79
    subst l_79 y_79 z_79
    refine own_st st_79 ?_
    obtain ⟨rfl, Nq_79, eq_79⟩ := hQ_79
    have N_79 := Fr.app N_75 Nq_79
    show own_Go p e below _ T_79 (mkF m 101 #[.val (.int x0), .val (.int x1), .val (.int x2), .val (.int x3), .val (.int x4), .val (.int x5), .val (.int (2 : Int32)), .val (.ref a_53), .val (.ref a_56), .val (.long s_0), .second, .unset, .unset, .unset] [(.int (own_nib x5 (1 : Int32))), (.long x2.toInt64), (.long s_0)])
    refine own_i2l X_79 hx (hb hby at_101) (pc' := 102) rfl ?_
    refine own_lmul X_79 hx (hb hby at_102) (pc' := 103) rfl ?_
    refine own_ladd X_79 hx (hb hby at_103) (pc' := 104) rfl ?_
    refine own_lstore X_79 hx (hb hby at_104) (pc' := 106) (Ls' := #[.val (.int x0), .val (.int x1), .val (.int x2), .val (.int x3), .val (.int x4), .val (.int x5), .val (.int (2 : Int32)), .val (.ref a_53), .val (.ref a_56), .val (.long (s_0 + (x2.toInt64 * (own_nib x5 (1 : Int32)).toInt64))), .second, .unset, .unset, .unset]) rfl rfl ?_
    obtain ⟨s_1, es_1, hs_1⟩ := own_acc (s := s_0) (x := x2) (b := own_nib x5 (1 : Int32)) ⟨by omega, by omega⟩ (own_nb x5 _)
    rw [← es_1]
    have P1 := own_pb (rng32 x2) (own_nb x5 (1 : Int32))
    refine own_iload X_79 hx (hb hby at_106) (pc' := 108) rfl rfl ?_
    refine own_iconst X_79 hx (2) (hb hby at_108) (pc' := 109) rfl rfl ?_
    refine own_icmpY X_79 hx (hb hby at_109) (by decide) (pc' := 148) (by decide) (by decide) ?_
    refine own_iload X_79 hx (hb hby at_148) (pc' := 150) rfl rfl ?_
    refine own_iconst X_79 hx (3) (hb hby at_150) (pc' := 151) rfl rfl ?_
    refine own_icmpY X_79 hx (hb hby at_151) (by decide) (pc' := 192) (by decide) (by decide) ?_
    obtain ⟨T_80, h_80, X_80, e_80, E_80, A_80, D_80, -, st_80⟩ := newO X_79 hx hZ hown (hw _ (List.mem_of_getElem? (i := 2) rfl)) (hw _ (List.mem_of_getElem? (i := 3) rfl)) (hw _ (List.mem_of_getElem? (i := 4) rfl)) eq_79 (g := (mkF m 192 #[.val (.int x0), .val (.int x1), .val (.int x2), .val (.int x3), .val (.int x4), .val (.int x5), .val (.int (2 : Int32)), .val (.ref a_53), .val (.ref a_56), .val (.long s_1), .second, .unset, .unset, .unset] [])) rfl (hb hby at_192) (by decide) (by decide)
    obtain ⟨a_80, g_80⟩ : ∃ z, z = h_75.size := ⟨_, rfl⟩
    rw [← g_80] at A_80 D_80 st_80
    have ge_80 : n0 ≤ a_80 := Nat.le_trans Z_77 (Nat.le_of_eq g_80.symm)
    have ne_80_a_56 : a_56 ≠ a_80 := Nat.ne_of_lt (Nat.lt_of_lt_of_eq V_76.lt g_80.symm)
    have ne_80_a_53 : a_53 ≠ a_80 := Nat.ne_of_lt (Nat.lt_of_lt_of_eq V_78.lt g_80.symm)
    have V_82 : Arv Z h_80 a_56 kc_56 .double (2 : Int32) [(.double (FP.ddiv (FP.l2d (own_nib x5 (0 : Int32)).toInt64) (4643211215818981376 : UInt64))), (.double (FP.ddiv (FP.l2d (own_nib x5 (1 : Int32)).toInt64) (4643211215818981376 : UInt64)))] (.double (0 : UInt64)) := V_76.ext E_80
    have V_83 : Arv Z h_80 a_53 kc_53 .double (2 : Int32) [(.double (FP.l2d x1.toInt64)), (.double (FP.l2d x2.toInt64))] (.double (0 : UInt64)) := V_78.ext E_80
    have Z_81 : n0 ≤ h_80.size := Nat.le_trans Z_77 E_80.1
    have F_84 : Fld Z h_80 a_80 "com/example/sluicegate/sluicegate/RecentTimes$Bins" "values" "[D" (.null) := D_80 (Or.inr (hw _ (List.mem_of_getElem? (i := 17) rfl))) (ty := (.array .double)) (by decide)
    have F_85 : Fld Z h_80 a_80 "com/example/sluicegate/sluicegate/RecentTimes$Bins" "weights" "[D" (.null) := D_80 (Or.inr (hw _ (List.mem_of_getElem? (i := 19) rfl))) (ty := (.array .double)) (by decide)
    refine own_st st_80 ?_
    show own_Go p e below _ T_80 (mkF m 195 #[.val (.int x0), .val (.int x1), .val (.int x2), .val (.int x3), .val (.int x4), .val (.int x5), .val (.int (2 : Int32)), .val (.ref a_53), .val (.ref a_56), .val (.long s_1), .second, .unset, .unset, .unset] [(.ref a_80)])
    refine own_dup X_80 hx (hb hby at_195) (pc' := 196) rfl rfl ?_
    refine own_aload X_80 hx (hb hby at_196) (pc' := 198) rfl rfl rfl ?_
    refine own_aload X_80 hx (hb hby at_198) (pc' := 200) rfl rfl rfl ?_
    obtain ⟨_, _, ⟨T_86, L_86, k_86, n_86⟩, -, X_86, ⟨Lc_86, hQ_86, l_86, y_86, z_86⟩, st_86⟩ := X_80.specialBack hx  (y := (⟨"com/example/sluicegate/sluicegate/RecentTimes$Bins", "<init>", "([D[D)V"⟩ : MethodName)) rfl hown (mvT hZ (hw _ (List.mem_of_getElem? (i := 5) rfl))) (mvT hZ (hw _ (List.mem_of_getElem? (i := 6) rfl))) (mvT hZ (hw _ (List.mem_of_getElem? (i := 7) rfl))) (by decide) (backOf (W := 1) (rm2 l Z a0 hw [] a_80 a_53 a_56 h_80 n0 Z_81 A_80 F_84 F_85 ge_80) hZ (hw _ (List.mem_of_getElem? (i := 7) rfl)) (hw _ (List.mem_of_getElem? (i := 4) rfl)) (by decide) (by decide)) (g := (mkF m 200 #[.val (.int x0), .val (.int x1), .val (.int x2), .val (.int x3), .val (.int x4), .val (.int x5), .val (.int (2 : Int32)), .val (.ref a_53), .val (.ref a_56), .val (.long s_1), .second, .unset, .unset, .unset] [(.ref a_56), (.ref a_53), (.ref a_80), (.ref a_80)])) rfl (by rw [hml]; rfl) (Steps.refl _) (a := a_80) (argsL := [(.ref a_53), (.ref a_56)]) (rest := [(.ref a_80)]) (lenOf pd0_0 rfl) rfl (by show 2 * 0 + _ ≤ _; exact Nat.le_of_eq rfl) (hb hby at_200) (fun _ _ => ⟨rfl, e_80, (by decide : 3 + 0 ≤ _), (by decide : 6 + 0 ≤ _)⟩)
    dsimp only [Pt.U, Pt.locs, Pt.cells, Pt.slots] at X_86 l_86 y_86 z_86 st_86 hQ_86
    subst l_86 y_86 z_86
    refine own_tr st_86 ?_
    obtain ⟨rfl, Nq_86, Kq_86, q0_86, q1_86⟩ := hQ_86
    have N_86 := Fr.app N_79 Nq_86
    have F_87 : Fld Z T_86.heap a_80 "com/example/sluicegate/sluicegate/RecentTimes$Bins" "values" "[D" (.ref a_53) := q0_86
    have F_88 : Fld Z T_86.heap a_80 "com/example/sluicegate/sluicegate/RecentTimes$Bins" "weights" "[D" (.ref a_56) := q1_86
    have V_90 : Arv Z T_86.heap a_56 kc_56 .double (2 : Int32) [(.double (FP.ddiv (FP.l2d (own_nib x5 (0 : Int32)).toInt64) (4643211215818981376 : UInt64))), (.double (FP.ddiv (FP.l2d (own_nib x5 (1 : Int32)).toInt64) (4643211215818981376 : UInt64)))] (.double (0 : UInt64)) := V_82.keep Kq_86 (ninS ne_80_a_56 nin0)
    have V_91 : Arv Z T_86.heap a_53 kc_53 .double (2 : Int32) [(.double (FP.l2d x1.toInt64)), (.double (FP.l2d x2.toInt64))] (.double (0 : UInt64)) := V_83.keep Kq_86 (ninS ne_80_a_53 nin0)
    have A_92 : Exa Z T_86.heap a_80 "com/example/sluicegate/sluicegate/RecentTimes$Bins" := A_80.keep Kq_86
    have Z_89 : n0 ≤ T_86.heap.size := Nat.le_trans Z_81 Kq_86.1
    show own_Go p e below _ T_86 (mkF m 203 #[.val (.int x0), .val (.int x1), .val (.int x2), .val (.int x3), .val (.int x4), .val (.int x5), .val (.int (2 : Int32)), .val (.ref a_53), .val (.ref a_56), .val (.long s_1), .second, .unset, .unset, .unset] [(.ref a_80)])
    refine own_astore X_86 hx (hb hby at_203) (pc' := 205) (Ls' := #[.val (.int x0), .val (.int x1), .val (.int x2), .val (.int x3), .val (.int x4), .val (.int x5), .val (.int (2 : Int32)), .val (.ref a_53), .val (.ref a_56), .val (.long s_1), .second, .val (.ref a_80), .unset, .unset]) rfl rfl rfl ?_
    have hsm : FP.Core.Small53 s_1 := own_sm (by omega) (by omega)
    refine own_lload X_86 hx (hb hby at_205) (pc' := 207) rfl rfl ?_
    refine own_l2d X_86 hx (hb hby at_207) (pc' := 208) rfl ?_
    refine own_ldcD X_86 hx hown (mvT hZ (hw _ (List.mem_of_getElem? (i := 20) rfl))) (hb hby at_208) (pc' := 211) rfl ?_
    refine own_ddiv X_86 hx (hb hby at_211) (pc' := 212) rfl (own_En (own_Ed hsm)) ?_
    refine own_dstore X_86 hx (hb hby at_212) (pc' := 214) (Ls' := #[.val (.int x0), .val (.int x1), .val (.int x2), .val (.int x3), .val (.int x4), .val (.int x5), .val (.int (2 : Int32)), .val (.ref a_53), .val (.ref a_56), .val (.long s_1), .second, .val (.ref a_80), .val (.double (FP.ddiv (FP.l2d s_1) (4643211215818981376 : UInt64))), .second]) rfl rfl ?_
    refine own_aload X_86 hx (hb hby at_214) (pc' := 216) rfl rfl rfl ?_
    obtain ⟨cq_93, kq_93, qa_93, qb_93, qc_93⟩ := isOf hZ rfl A_92
    obtain ⟨_, _, ⟨T_93, L_93, k_93, n_93⟩, -, X_93, ⟨Lc_93, hQ_93, l_93, y_93, z_93⟩, st_93⟩ := X_86.virtualBack hx  (y := (⟨"com/example/sluicegate/sluicegate/RecentTimes$Bins", "mean", "()D"⟩ : MethodName)) (z := (⟨"com/example/sluicegate/sluicegate/RecentTimes$Bins", "mean", "()D"⟩ : MethodName)) hown (mvT hZ (hw _ (List.mem_of_getElem? (i := 21) rfl))) (mvT hZ (hw _ (List.mem_of_getElem? (i := 22) rfl))) (notFace_of_selects (args := #[]) (mvT hZ (hw _ (List.mem_of_getElem? (i := 24) rfl)))) (mvT hZ (hw _ (List.mem_of_getElem? (i := 24) rfl))) (mvT hZ (hw _ (List.mem_of_getElem? (i := 23) rfl))) (by decide) (backOf (W := 0) (rm52 l Z a0 hw [] a_80 a_53 a_56 kc_53 kc_56 (FP.l2d x1.toInt64) (FP.l2d x2.toInt64) (FP.ddiv (FP.l2d (own_nib x5 (0 : Int32)).toInt64) (4643211215818981376 : UInt64)) (FP.ddiv (FP.l2d (own_nib x5 (1 : Int32)).toInt64) (4643211215818981376 : UInt64)) x1.toInt x2.toInt (own_nib x5 (0 : Int32)).toInt (own_nib x5 (1 : Int32)).toInt T_86.heap n0 Z_89 F_87 F_88 V_91 V_90 (own_Ei x1) (own_Ei x2) (own_Ew (own_nib x5 (0 : Int32))) (own_Ew (own_nib x5 (1 : Int32))) (rng32 x1) (rng32 x2) (own_nb x5 (0 : Int32)) (own_nb x5 (1 : Int32))) hZ (hw _ (List.mem_of_getElem? (i := 25) rfl)) (hw _ (List.mem_of_getElem? (i := 4) rfl)) (by decide) (by decide)) qa_93 qc_93 (g := (mkF m 216 #[.val (.int x0), .val (.int x1), .val (.int x2), .val (.int x3), .val (.int x4), .val (.int x5), .val (.int (2 : Int32)), .val (.ref a_53), .val (.ref a_56), .val (.long s_1), .second, .val (.ref a_80), .val (.double (FP.ddiv (FP.l2d s_1) (4643211215818981376 : UInt64))), .second] [(.ref a_80)])) rfl (by rw [hml]; rfl) (Steps.refl _) (argsL := []) (rest := []) (lenOf pd0_1 rfl) rfl (by show 2 * 0 + _ ≤ _; exact Nat.le_of_eq rfl) (hb hby at_216) (fun _ _ => ⟨rfl, rfl, (by decide : 3 + 0 ≤ _), (by decide : 6 + 0 ≤ _)⟩)
    dsimp only [Pt.U, Pt.locs, Pt.cells, Pt.slots] at X_93 l_93 y_93 z_93 st_93 hQ_93
    subst l_93 y_93 z_93
    refine own_tr st_93 ?_
    obtain ⟨⟨xm, rfl, Em⟩, Nq_93, eq_93⟩ := hQ_93
    have N_93 := Fr.app N_86 Nq_93
    show own_Go p e below _ T_93 (mkF m 219 #[.val (.int x0), .val (.int x1), .val (.int x2), .val (.int x3), .val (.int x4), .val (.int x5), .val (.int (2 : Int32)), .val (.ref a_53), .val (.ref a_56), .val (.long s_1), .second, .val (.ref a_80), .val (.double (FP.ddiv (FP.l2d s_1) (4643211215818981376 : UInt64))), .second] [(.double xm)])
    refine own_dload X_93 hx (hb hby at_219) (pc' := 221) rfl rfl ?_
    refine own_dcmp X_93 hx (0) (own_Eq Em (own_Ed hsm) (by omega) _) (hb hby at_221) (pc' := 222) rfl ?_
    refine own_ifN X_93 hx (hb hby at_222) (by decide) (pc' := 225) rfl ?_
    refine own_iconst X_93 hx (1) (hb hby at_225) (pc' := 226) rfl rfl ?_
    refine own_goto X_93 hx (hb hby at_226) (pc' := 230) (by decide) (by decide) ?_
    refine own_retZ X_93 hx hlk Bd.returns (by simp) (hb hby at_230) (by decide) (by decide) ?_
    exact ⟨rfl, N_93⟩
  · skip
    rw [hN]
    have e00 : (0 : Int64).toInt = 0 := rfl
    refine own_iload X0 hx (hb hby at_8) (pc' := 10) rfl rfl ?_
    obtain ⟨T_94, h_94, kc_94, X_94, e_94, E_94, A_94, st_94⟩ := newP X0 hx hZ (hw _ (List.mem_of_getElem? (i := 1) rfl)) e0 (g := (mkF m 10 #[.val (.int x0), .val (.int x1), .val (.int x2), .val (.int x3), .val (.int x4), .val (.int x5), .val (.int (3 : Int32)), .unset, .unset, .unset, .unset, .unset, .unset, .unset] [(.int (3 : Int32))])) rfl (hb hby at_10) rfl (by decide) (cap := 3) (by decide) (by decide) (by decide) (by decide)
    obtain ⟨a_94, g_94⟩ : ∃ z, z = h0.size := ⟨_, rfl⟩
    rw [← g_94] at A_94 st_94
    have ge_94 : n0 ≤ a_94 := Nat.le_trans Z0 (Nat.le_of_eq g_94.symm)
    have Z_95 : n0 ≤ h_94.size := Nat.le_trans Z0 E_94.1
    have V_96 : Arv Z h_94 a_94 kc_94 .double (3 : Int32) [(.double (0 : UInt64)), (.double (0 : UInt64)), (.double (0 : UInt64))] (.double (0 : UInt64)) := (Arv.new A_94 (by decide)).pad (pad_rep [] (.double (0 : UInt64)) 3)
    refine own_st st_94 ?_
    show own_Go p e below _ T_94 (mkF m 12 #[.val (.int x0), .val (.int x1), .val (.int x2), .val (.int x3), .val (.int x4), .val (.int x5), .val (.int (3 : Int32)), .unset, .unset, .unset, .unset, .unset, .unset, .unset] [(.ref a_94)])
    refine own_astore X_94 hx (hb hby at_12) (pc' := 14) (Ls' := #[.val (.int x0), .val (.int x1), .val (.int x2), .val (.int x3), .val (.int x4), .val (.int x5), .val (.int (3 : Int32)), .val (.ref a_94), .unset, .unset, .unset, .unset, .unset, .unset]) rfl rfl rfl ?_
    refine own_iload X_94 hx (hb hby at_14) (pc' := 16) rfl rfl ?_
    obtain ⟨T_97, h_97, kc_97, X_97, e_97, E_97, A_97, st_97⟩ := newP X_94 hx hZ (hw _ (List.mem_of_getElem? (i := 1) rfl)) e_94 (g := (mkF m 16 #[.val (.int x0), .val (.int x1), .val (.int x2), .val (.int x3), .val (.int x4), .val (.int x5), .val (.int (3 : Int32)), .val (.ref a_94), .unset, .unset, .unset, .unset, .unset, .unset] [(.int (3 : Int32))])) rfl (hb hby at_16) rfl (by decide) (cap := 3) (by decide) (by decide) (by decide) (by decide)
    obtain ⟨a_97, g_97⟩ : ∃ z, z = h_94.size := ⟨_, rfl⟩
    rw [← g_97] at A_97 st_97
    have ge_97 : n0 ≤ a_97 := Nat.le_trans Z_95 (Nat.le_of_eq g_97.symm)
    have ne_97_a_94 : a_94 ≠ a_97 := Nat.ne_of_lt (Nat.lt_of_lt_of_eq V_96.lt g_97.symm)
    have V_99 : Arv Z h_97 a_94 kc_94 .double (3 : Int32) [(.double (0 : UInt64)), (.double (0 : UInt64)), (.double (0 : UInt64))] (.double (0 : UInt64)) := V_96.ext E_97
    have Z_98 : n0 ≤ h_97.size := Nat.le_trans Z_95 E_97.1
    have V_100 : Arv Z h_97 a_97 kc_97 .double (3 : Int32) [(.double (0 : UInt64)), (.double (0 : UInt64)), (.double (0 : UInt64))] (.double (0 : UInt64)) := (Arv.new A_97 (by decide)).pad (pad_rep [] (.double (0 : UInt64)) 3)
    refine own_st st_97 ?_
    show own_Go p e below _ T_97 (mkF m 18 #[.val (.int x0), .val (.int x1), .val (.int x2), .val (.int x3), .val (.int x4), .val (.int x5), .val (.int (3 : Int32)), .val (.ref a_94), .unset, .unset, .unset, .unset, .unset, .unset] [(.ref a_97)])
    refine own_astore X_97 hx (hb hby at_18) (pc' := 20) (Ls' := #[.val (.int x0), .val (.int x1), .val (.int x2), .val (.int x3), .val (.int x4), .val (.int x5), .val (.int (3 : Int32)), .val (.ref a_94), .val (.ref a_97), .unset, .unset, .unset, .unset, .unset]) rfl rfl rfl ?_
    refine own_lconst X_97 hx (0) (hb hby at_20) (pc' := 21) rfl rfl ?_
    refine own_lstore X_97 hx (hb hby at_21) (pc' := 23) (Ls' := #[.val (.int x0), .val (.int x1), .val (.int x2), .val (.int x3), .val (.int x4), .val (.int x5), .val (.int (3 : Int32)), .val (.ref a_94), .val (.ref a_97), .val (.long (0 : Int64)), .second, .unset, .unset, .unset]) rfl rfl ?_
    refine own_iload X_97 hx (hb hby at_23) (pc' := 25) rfl rfl ?_
    refine own_ifN X_97 hx (hb hby at_25) (by decide) (pc' := 28) rfl ?_
    refine own_aload X_97 hx (hb hby at_28) (pc' := 30) rfl rfl rfl ?_
    refine own_iconst X_97 hx (0) (hb hby at_30) (pc' := 31) rfl rfl ?_
    refine own_iloadN X_97 hx (hb hby at_31) (pc' := 32) rfl rfl ?_
    refine own_i2d X_97 hx (hb hby at_32) (pc' := 33) rfl ?_
    obtain ⟨T_101, h_101, X_101, e_101, W_101, V_101, st_101⟩ := own_dastore X_97 hx hZ e_97 V_99 0 (x := (FP.l2d x1.toInt64)) (j := (0 : Int32)) (Ls := #[.val (.int x0), .val (.int x1), .val (.int x2), .val (.int x3), .val (.int x4), .val (.int x5), .val (.int (3 : Int32)), .val (.ref a_94), .val (.ref a_97), .val (.long (0 : Int64)), .second, .unset, .unset, .unset]) (st := []) ⟨by decide, by decide⟩ rfl (Nat.le_of_ble_eq_true rfl) (hb hby at_33)
    have V_102 : Arv Z h_101 a_94 kc_94 .double (3 : Int32) [(.double (FP.l2d x1.toInt64)), (.double (0 : UInt64)), (.double (0 : UInt64))] (.double (0 : UInt64)) := V_101
    have V_104 : Arv Z h_101 a_97 kc_97 .double (3 : Int32) [(.double (0 : UInt64)), (.double (0 : UInt64)), (.double (0 : UInt64))] (.double (0 : UInt64)) := V_100.other W_101 (Ne.symm ne_97_a_94)
    have Z_103 : n0 ≤ h_101.size := by rw [W_101.size]; exact Z_98
    have N_101 := Fr.snoc X_101 N0 ge_94
    refine own_st st_101 ?_
    show own_Go p e below _ T_101 (mkF m 34 #[.val (.int x0), .val (.int x1), .val (.int x2), .val (.int x3), .val (.int x4), .val (.int x5), .val (.int (3 : Int32)), .val (.ref a_94), .val (.ref a_97), .val (.long (0 : Int64)), .second, .unset, .unset, .unset] [])
    refine own_aload X_101 hx (hb hby at_34) (pc' := 36) rfl rfl rfl ?_
    refine own_iconst X_101 hx (0) (hb hby at_36) (pc' := 37) rfl rfl ?_
    refine own_iload X_101 hx (hb hby at_37) (pc' := 39) rfl rfl ?_
    refine own_iconst X_101 hx (0) (hb hby at_39) (pc' := 40) rfl rfl ?_
    obtain ⟨_, _, ⟨T_105, L_105, k_105, n_105⟩, -, X_105, ⟨Lc_105, hQ_105, l_105, y_105, z_105⟩, st_105⟩ := Jvm.LawKit.callS X_101 hx (y := (⟨"com/example/sluicegate/sluicegate/BinsMeanPinLaw", "nib", "(II)I"⟩ : MethodName)) hown (mvT hZ (hw _ (List.mem_of_getElem? (i := 26) rfl))) (mvT hZ (hw _ (List.mem_of_getElem? (i := 27) rfl))) (mvT hZ (hw _ (List.mem_of_getElem? (i := 28) rfl))) (mvT hZ (hw _ (List.mem_of_getElem? (i := 29) rfl))) (by decide) (backOf (W := 2) (rm3 l Z a0 hw [] x5 (0 : Int32) h_101 n0 Z_103) hZ (hw _ (List.mem_of_getElem? (i := 29) rfl)) (hw _ (List.mem_of_getElem? (i := 28) rfl)) (by decide) (by decide)) (g := (mkF m 40 #[.val (.int x0), .val (.int x1), .val (.int x2), .val (.int x3), .val (.int x4), .val (.int x5), .val (.int (3 : Int32)), .val (.ref a_94), .val (.ref a_97), .val (.long (0 : Int64)), .second, .unset, .unset, .unset] [(.int (0 : Int32)), (.int x5), (.int (0 : Int32)), (.ref a_97)])) rfl (by rw [hml]; rfl) (argsL := [(.int x5), (.int (0 : Int32))]) (rest := [(.int (0 : Int32)), (.ref a_97)]) (lenOf pd0_2 rfl) rfl (by show 2 * 0 + _ ≤ _; exact Nat.le_of_eq rfl) (hb hby at_40) (fun _ _ => ⟨rfl, e_101, (by decide : 2 + 0 ≤ _), (by decide : 6 + 0 ≤ _)⟩)
    dsimp only [Pt.U, Pt.locs, Pt.cells, Pt.slots] at X_105 l_105 y_105 z_105 st_105 hQ_105
    subst l_105 y_105 z_105
    refine own_st st_105 ?_
    obtain ⟨rfl, Nq_105, eq_105⟩ := hQ_105
    have N_105 := Fr.app N_101 Nq_105
    show own_Go p e below _ T_105 (mkF m 43 #[.val (.int x0), .val (.int x1), .val (.int x2), .val (.int x3), .val (.int x4), .val (.int x5), .val (.int (3 : Int32)), .val (.ref a_94), .val (.ref a_97), .val (.long (0 : Int64)), .second, .unset, .unset, .unset] [(.int (own_nib x5 (0 : Int32))), (.int (0 : Int32)), (.ref a_97)])
    refine own_i2d X_105 hx (hb hby at_43) (pc' := 44) rfl ?_
    refine own_ldcD X_105 hx hown (mvT hZ (hw _ (List.mem_of_getElem? (i := 20) rfl))) (hb hby at_44) (pc' := 47) rfl ?_
    refine own_ddiv X_105 hx (hb hby at_47) (pc' := 48) rfl (own_En (own_Ew _)) ?_
    obtain ⟨T_106, h_106, X_106, e_106, W_106, V_106, st_106⟩ := own_dastore X_105 hx hZ eq_105 V_104 0 (x := (FP.ddiv (FP.l2d (own_nib x5 (0 : Int32)).toInt64) (4643211215818981376 : UInt64))) (j := (0 : Int32)) (Ls := #[.val (.int x0), .val (.int x1), .val (.int x2), .val (.int x3), .val (.int x4), .val (.int x5), .val (.int (3 : Int32)), .val (.ref a_94), .val (.ref a_97), .val (.long (0 : Int64)), .second, .unset, .unset, .unset]) (st := []) ⟨by decide, by decide⟩ rfl (Nat.le_of_ble_eq_true rfl) (hb hby at_48)
    have V_107 : Arv Z h_106 a_97 kc_97 .double (3 : Int32) [(.double (FP.ddiv (FP.l2d (own_nib x5 (0 : Int32)).toInt64) (4643211215818981376 : UInt64))), (.double (0 : UInt64)), (.double (0 : UInt64))] (.double (0 : UInt64)) := V_106
    have V_109 : Arv Z h_106 a_94 kc_94 .double (3 : Int32) [(.double (FP.l2d x1.toInt64)), (.double (0 : UInt64)), (.double (0 : UInt64))] (.double (0 : UInt64)) := V_102.other W_106 ne_97_a_94
    have Z_108 : n0 ≤ h_106.size := by rw [W_106.size]; exact Z_103
    have N_106 := Fr.snoc X_106 N_105 ge_97
    refine own_st st_106 ?_
    show own_Go p e below _ T_106 (mkF m 49 #[.val (.int x0), .val (.int x1), .val (.int x2), .val (.int x3), .val (.int x4), .val (.int x5), .val (.int (3 : Int32)), .val (.ref a_94), .val (.ref a_97), .val (.long (0 : Int64)), .second, .unset, .unset, .unset] [])
    refine own_lload X_106 hx (hb hby at_49) (pc' := 51) rfl rfl ?_
    refine own_iloadN X_106 hx (hb hby at_51) (pc' := 52) rfl rfl ?_
    refine own_i2l X_106 hx (hb hby at_52) (pc' := 53) rfl ?_
    refine own_iload X_106 hx (hb hby at_53) (pc' := 55) rfl rfl ?_
    refine own_iconst X_106 hx (0) (hb hby at_55) (pc' := 56) rfl rfl ?_
    obtain ⟨_, _, ⟨T_110, L_110, k_110, n_110⟩, -, X_110, ⟨Lc_110, hQ_110, l_110, y_110, z_110⟩, st_110⟩ := Jvm.LawKit.callS X_106 hx (y := (⟨"com/example/sluicegate/sluicegate/BinsMeanPinLaw", "nib", "(II)I"⟩ : MethodName)) hown (mvT hZ (hw _ (List.mem_of_getElem? (i := 26) rfl))) (mvT hZ (hw _ (List.mem_of_getElem? (i := 27) rfl))) (mvT hZ (hw _ (List.mem_of_getElem? (i := 28) rfl))) (mvT hZ (hw _ (List.mem_of_getElem? (i := 29) rfl))) (by decide) (backOf (W := 4) (rm3 l Z a0 hw [] x5 (0 : Int32) h_106 n0 Z_108) hZ (hw _ (List.mem_of_getElem? (i := 29) rfl)) (hw _ (List.mem_of_getElem? (i := 28) rfl)) (by decide) (by decide)) (g := (mkF m 56 #[.val (.int x0), .val (.int x1), .val (.int x2), .val (.int x3), .val (.int x4), .val (.int x5), .val (.int (3 : Int32)), .val (.ref a_94), .val (.ref a_97), .val (.long (0 : Int64)), .second, .unset, .unset, .unset] [(.int (0 : Int32)), (.int x5), (.long x1.toInt64), (.long (0 : Int64))])) rfl (by rw [hml]; rfl) (argsL := [(.int x5), (.int (0 : Int32))]) (rest := [(.long x1.toInt64), (.long (0 : Int64))]) (lenOf pd0_2 rfl) rfl (by show 2 * 0 + _ ≤ _; exact Nat.le_of_eq rfl) (hb hby at_56) (fun _ _ => ⟨rfl, e_106, (by decide : 2 + 0 ≤ _), (by decide : 6 + 0 ≤ _)⟩)
    dsimp only [Pt.U, Pt.locs, Pt.cells, Pt.slots] at X_110 l_110 y_110 z_110 st_110 hQ_110
    subst l_110 y_110 z_110
    refine own_st st_110 ?_
    obtain ⟨rfl, Nq_110, eq_110⟩ := hQ_110
    have N_110 := Fr.app N_106 Nq_110
    show own_Go p e below _ T_110 (mkF m 59 #[.val (.int x0), .val (.int x1), .val (.int x2), .val (.int x3), .val (.int x4), .val (.int x5), .val (.int (3 : Int32)), .val (.ref a_94), .val (.ref a_97), .val (.long (0 : Int64)), .second, .unset, .unset, .unset] [(.int (own_nib x5 (0 : Int32))), (.long x1.toInt64), (.long (0 : Int64))])
    refine own_i2l X_110 hx (hb hby at_59) (pc' := 60) rfl ?_
    refine own_lmul X_110 hx (hb hby at_60) (pc' := 61) rfl ?_
    refine own_ladd X_110 hx (hb hby at_61) (pc' := 62) rfl ?_
    refine own_lstore X_110 hx (hb hby at_62) (pc' := 64) (Ls' := #[.val (.int x0), .val (.int x1), .val (.int x2), .val (.int x3), .val (.int x4), .val (.int x5), .val (.int (3 : Int32)), .val (.ref a_94), .val (.ref a_97), .val (.long ((0 : Int64) + (x1.toInt64 * (own_nib x5 (0 : Int32)).toInt64))), .second, .unset, .unset, .unset]) rfl rfl ?_
    obtain ⟨s_0, es_0, hs_0⟩ := own_acc (s := (0 : Int64)) (x := x1) (b := own_nib x5 (0 : Int32)) ⟨by omega, by omega⟩ (own_nb x5 _)
    rw [← es_0]
    have P0 := own_pb (rng32 x1) (own_nb x5 (0 : Int32))
    refine own_iload X_110 hx (hb hby at_64) (pc' := 66) rfl rfl ?_
    refine own_iconst X_110 hx (1) (hb hby at_66) (pc' := 67) rfl rfl ?_
    refine own_icmpN X_110 hx (hb hby at_67) (by decide) (pc' := 70) rfl ?_
    refine own_aload X_110 hx (hb hby at_70) (pc' := 72) rfl rfl rfl ?_
    refine own_iconst X_110 hx (1) (hb hby at_72) (pc' := 73) rfl rfl ?_
    refine own_iloadN X_110 hx (hb hby at_73) (pc' := 74) rfl rfl ?_
    refine own_i2d X_110 hx (hb hby at_74) (pc' := 75) rfl ?_
    obtain ⟨T_111, h_111, X_111, e_111, W_111, V_111, st_111⟩ := own_dastore X_110 hx hZ eq_110 V_109 1 (x := (FP.l2d x2.toInt64)) (j := (1 : Int32)) (Ls := #[.val (.int x0), .val (.int x1), .val (.int x2), .val (.int x3), .val (.int x4), .val (.int x5), .val (.int (3 : Int32)), .val (.ref a_94), .val (.ref a_97), .val (.long s_0), .second, .unset, .unset, .unset]) (st := []) ⟨by decide, by decide⟩ rfl (Nat.le_of_ble_eq_true rfl) (hb hby at_75)
    have V_112 : Arv Z h_111 a_94 kc_94 .double (3 : Int32) [(.double (FP.l2d x1.toInt64)), (.double (FP.l2d x2.toInt64)), (.double (0 : UInt64))] (.double (0 : UInt64)) := V_111
    have V_114 : Arv Z h_111 a_97 kc_97 .double (3 : Int32) [(.double (FP.ddiv (FP.l2d (own_nib x5 (0 : Int32)).toInt64) (4643211215818981376 : UInt64))), (.double (0 : UInt64)), (.double (0 : UInt64))] (.double (0 : UInt64)) := V_107.other W_111 (Ne.symm ne_97_a_94)
    have Z_113 : n0 ≤ h_111.size := by rw [W_111.size]; exact Z_108
    have N_111 := Fr.snoc X_111 N_110 ge_94
    refine own_st st_111 ?_
    show own_Go p e below _ T_111 (mkF m 76 #[.val (.int x0), .val (.int x1), .val (.int x2), .val (.int x3), .val (.int x4), .val (.int x5), .val (.int (3 : Int32)), .val (.ref a_94), .val (.ref a_97), .val (.long s_0), .second, .unset, .unset, .unset] [])
    refine own_aload X_111 hx (hb hby at_76) (pc' := 78) rfl rfl rfl ?_
    refine own_iconst X_111 hx (1) (hb hby at_78) (pc' := 79) rfl rfl ?_
    refine own_iload X_111 hx (hb hby at_79) (pc' := 81) rfl rfl ?_
    refine own_iconst X_111 hx (1) (hb hby at_81) (pc' := 82) rfl rfl ?_
    obtain ⟨_, _, ⟨T_115, L_115, k_115, n_115⟩, -, X_115, ⟨Lc_115, hQ_115, l_115, y_115, z_115⟩, st_115⟩ := Jvm.LawKit.callS X_111 hx (y := (⟨"com/example/sluicegate/sluicegate/BinsMeanPinLaw", "nib", "(II)I"⟩ : MethodName)) hown (mvT hZ (hw _ (List.mem_of_getElem? (i := 26) rfl))) (mvT hZ (hw _ (List.mem_of_getElem? (i := 27) rfl))) (mvT hZ (hw _ (List.mem_of_getElem? (i := 28) rfl))) (mvT hZ (hw _ (List.mem_of_getElem? (i := 29) rfl))) (by decide) (backOf (W := 2) (rm3 l Z a0 hw [] x5 (1 : Int32) h_111 n0 Z_113) hZ (hw _ (List.mem_of_getElem? (i := 29) rfl)) (hw _ (List.mem_of_getElem? (i := 28) rfl)) (by decide) (by decide)) (g := (mkF m 82 #[.val (.int x0), .val (.int x1), .val (.int x2), .val (.int x3), .val (.int x4), .val (.int x5), .val (.int (3 : Int32)), .val (.ref a_94), .val (.ref a_97), .val (.long s_0), .second, .unset, .unset, .unset] [(.int (1 : Int32)), (.int x5), (.int (1 : Int32)), (.ref a_97)])) rfl (by rw [hml]; rfl) (argsL := [(.int x5), (.int (1 : Int32))]) (rest := [(.int (1 : Int32)), (.ref a_97)]) (lenOf pd0_2 rfl) rfl (by show 2 * 0 + _ ≤ _; exact Nat.le_of_eq rfl) (hb hby at_82) (fun _ _ => ⟨rfl, e_111, (by decide : 2 + 0 ≤ _), (by decide : 6 + 0 ≤ _)⟩)
    dsimp only [Pt.U, Pt.locs, Pt.cells, Pt.slots] at X_115 l_115 y_115 z_115 st_115 hQ_115
    subst l_115 y_115 z_115
    refine own_st st_115 ?_
    obtain ⟨rfl, Nq_115, eq_115⟩ := hQ_115
    have N_115 := Fr.app N_111 Nq_115
    show own_Go p e below _ T_115 (mkF m 85 #[.val (.int x0), .val (.int x1), .val (.int x2), .val (.int x3), .val (.int x4), .val (.int x5), .val (.int (3 : Int32)), .val (.ref a_94), .val (.ref a_97), .val (.long s_0), .second, .unset, .unset, .unset] [(.int (own_nib x5 (1 : Int32))), (.int (1 : Int32)), (.ref a_97)])
    refine own_i2d X_115 hx (hb hby at_85) (pc' := 86) rfl ?_
    refine own_ldcD X_115 hx hown (mvT hZ (hw _ (List.mem_of_getElem? (i := 20) rfl))) (hb hby at_86) (pc' := 89) rfl ?_
    refine own_ddiv X_115 hx (hb hby at_89) (pc' := 90) rfl (own_En (own_Ew _)) ?_
    obtain ⟨T_116, h_116, X_116, e_116, W_116, V_116, st_116⟩ := own_dastore X_115 hx hZ eq_115 V_114 1 (x := (FP.ddiv (FP.l2d (own_nib x5 (1 : Int32)).toInt64) (4643211215818981376 : UInt64))) (j := (1 : Int32)) (Ls := #[.val (.int x0), .val (.int x1), .val (.int x2), .val (.int x3), .val (.int x4), .val (.int x5), .val (.int (3 : Int32)), .val (.ref a_94), .val (.ref a_97), .val (.long s_0), .second, .unset, .unset, .unset]) (st := []) ⟨by decide, by decide⟩ rfl (Nat.le_of_ble_eq_true rfl) (hb hby at_90)
    have V_117 : Arv Z h_116 a_97 kc_97 .double (3 : Int32) [(.double (FP.ddiv (FP.l2d (own_nib x5 (0 : Int32)).toInt64) (4643211215818981376 : UInt64))), (.double (FP.ddiv (FP.l2d (own_nib x5 (1 : Int32)).toInt64) (4643211215818981376 : UInt64))), (.double (0 : UInt64))] (.double (0 : UInt64)) := V_116
    have V_119 : Arv Z h_116 a_94 kc_94 .double (3 : Int32) [(.double (FP.l2d x1.toInt64)), (.double (FP.l2d x2.toInt64)), (.double (0 : UInt64))] (.double (0 : UInt64)) := V_112.other W_116 ne_97_a_94
    have Z_118 : n0 ≤ h_116.size := by rw [W_116.size]; exact Z_113
    have N_116 := Fr.snoc X_116 N_115 ge_97
    refine own_st st_116 ?_
    show own_Go p e below _ T_116 (mkF m 91 #[.val (.int x0), .val (.int x1), .val (.int x2), .val (.int x3), .val (.int x4), .val (.int x5), .val (.int (3 : Int32)), .val (.ref a_94), .val (.ref a_97), .val (.long s_0), .second, .unset, .unset, .unset] [])
    refine own_lload X_116 hx (hb hby at_91) (pc' := 93) rfl rfl ?_
    refine own_iloadN X_116 hx (hb hby at_93) (pc' := 94) rfl rfl ?_
    refine own_i2l X_116 hx (hb hby at_94) (pc' := 95) rfl ?_
    refine own_iload X_116 hx (hb hby at_95) (pc' := 97) rfl rfl ?_
    refine own_iconst X_116 hx (1) (hb hby at_97) (pc' := 98) rfl rfl ?_
    obtain ⟨_, _, ⟨T_120, L_120, k_120, n_120⟩, -, X_120, ⟨Lc_120, hQ_120, l_120, y_120, z_120⟩, st_120⟩ := Jvm.LawKit.callS X_116 hx (y := (⟨"com/example/sluicegate/sluicegate/BinsMeanPinLaw", "nib", "(II)I"⟩ : MethodName)) hown (mvT hZ (hw _ (List.mem_of_getElem? (i := 26) rfl))) (mvT hZ (hw _ (List.mem_of_getElem? (i := 27) rfl))) (mvT hZ (hw _ (List.mem_of_getElem? (i := 28) rfl))) (mvT hZ (hw _ (List.mem_of_getElem? (i := 29) rfl))) (by decide) (backOf (W := 4) (rm3 l Z a0 hw [] x5 (1 : Int32) h_116 n0 Z_118) hZ (hw _ (List.mem_of_getElem? (i := 29) rfl)) (hw _ (List.mem_of_getElem? (i := 28) rfl)) (by decide) (by decide)) (g := (mkF m 98 #[.val (.int x0), .val (.int x1), .val (.int x2), .val (.int x3), .val (.int x4), .val (.int x5), .val (.int (3 : Int32)), .val (.ref a_94), .val (.ref a_97), .val (.long s_0), .second, .unset, .unset, .unset] [(.int (1 : Int32)), (.int x5), (.long x2.toInt64), (.long s_0)])) rfl (by rw [hml]; rfl) (argsL := [(.int x5), (.int (1 : Int32))]) (rest := [(.long x2.toInt64), (.long s_0)]) (lenOf pd0_2 rfl) rfl (by show 2 * 0 + _ ≤ _; exact Nat.le_of_eq rfl) (hb hby at_98) (fun _ _ => ⟨rfl, e_116, (by decide : 2 + 0 ≤ _), (by decide : 6 + 0 ≤ _)⟩)
    dsimp only [Pt.U, Pt.locs, Pt.cells, Pt.slots] at X_120 l_120 y_120 z_120 st_120 hQ_120
    subst l_120 y_120 z_120
    refine own_st st_120 ?_
    obtain ⟨rfl, Nq_120, eq_120⟩ := hQ_120
    have N_120 := Fr.app N_116 Nq_120
    show own_Go p e below _ T_120 (mkF m 101 #[.val (.int x0), .val (.int x1), .val (.int x2), .val (.int x3), .val (.int x4), .val (.int x5), .val (.int (3 : Int32)), .val (.ref a_94), .val (.ref a_97), .val (.long s_0), .second, .unset, .unset, .unset] [(.int (own_nib x5 (1 : Int32))), (.long x2.toInt64), (.long s_0)])
    refine own_i2l X_120 hx (hb hby at_101) (pc' := 102) rfl ?_
    refine own_lmul X_120 hx (hb hby at_102) (pc' := 103) rfl ?_
    refine own_ladd X_120 hx (hb hby at_103) (pc' := 104) rfl ?_
    refine own_lstore X_120 hx (hb hby at_104) (pc' := 106) (Ls' := #[.val (.int x0), .val (.int x1), .val (.int x2), .val (.int x3), .val (.int x4), .val (.int x5), .val (.int (3 : Int32)), .val (.ref a_94), .val (.ref a_97), .val (.long (s_0 + (x2.toInt64 * (own_nib x5 (1 : Int32)).toInt64))), .second, .unset, .unset, .unset]) rfl rfl ?_
    obtain ⟨s_1, es_1, hs_1⟩ := own_acc (s := s_0) (x := x2) (b := own_nib x5 (1 : Int32)) ⟨by omega, by omega⟩ (own_nb x5 _)
    rw [← es_1]
    have P1 := own_pb (rng32 x2) (own_nb x5 (1 : Int32))
    refine own_iload X_120 hx (hb hby at_106) (pc' := 108) rfl rfl ?_
    refine own_iconst X_120 hx (2) (hb hby at_108) (pc' := 109) rfl rfl ?_
    refine own_icmpN X_120 hx (hb hby at_109) (by decide) (pc' := 112) rfl ?_
    refine own_aload X_120 hx (hb hby at_112) (pc' := 114) rfl rfl rfl ?_
    refine own_iconst X_120 hx (2) (hb hby at_114) (pc' := 115) rfl rfl ?_
    refine own_iloadN X_120 hx (hb hby at_115) (pc' := 116) rfl rfl ?_
    refine own_i2d X_120 hx (hb hby at_116) (pc' := 117) rfl ?_
    obtain ⟨T_121, h_121, X_121, e_121, W_121, V_121, st_121⟩ := own_dastore X_120 hx hZ eq_120 V_119 2 (x := (FP.l2d x3.toInt64)) (j := (2 : Int32)) (Ls := #[.val (.int x0), .val (.int x1), .val (.int x2), .val (.int x3), .val (.int x4), .val (.int x5), .val (.int (3 : Int32)), .val (.ref a_94), .val (.ref a_97), .val (.long s_1), .second, .unset, .unset, .unset]) (st := []) ⟨by decide, by decide⟩ rfl (Nat.le_of_ble_eq_true rfl) (hb hby at_117)
    have V_122 : Arv Z h_121 a_94 kc_94 .double (3 : Int32) [(.double (FP.l2d x1.toInt64)), (.double (FP.l2d x2.toInt64)), (.double (FP.l2d x3.toInt64))] (.double (0 : UInt64)) := V_121
    have V_124 : Arv Z h_121 a_97 kc_97 .double (3 : Int32) [(.double (FP.ddiv (FP.l2d (own_nib x5 (0 : Int32)).toInt64) (4643211215818981376 : UInt64))), (.double (FP.ddiv (FP.l2d (own_nib x5 (1 : Int32)).toInt64) (4643211215818981376 : UInt64))), (.double (0 : UInt64))] (.double (0 : UInt64)) := V_117.other W_121 (Ne.symm ne_97_a_94)
    have Z_123 : n0 ≤ h_121.size := by rw [W_121.size]; exact Z_118
    have N_121 := Fr.snoc X_121 N_120 ge_94
    refine own_st st_121 ?_
    show own_Go p e below _ T_121 (mkF m 118 #[.val (.int x0), .val (.int x1), .val (.int x2), .val (.int x3), .val (.int x4), .val (.int x5), .val (.int (3 : Int32)), .val (.ref a_94), .val (.ref a_97), .val (.long s_1), .second, .unset, .unset, .unset] [])
    refine own_aload X_121 hx (hb hby at_118) (pc' := 120) rfl rfl rfl ?_
    refine own_iconst X_121 hx (2) (hb hby at_120) (pc' := 121) rfl rfl ?_
    refine own_iload X_121 hx (hb hby at_121) (pc' := 123) rfl rfl ?_
    refine own_iconst X_121 hx (2) (hb hby at_123) (pc' := 124) rfl rfl ?_
    obtain ⟨_, _, ⟨T_125, L_125, k_125, n_125⟩, -, X_125, ⟨Lc_125, hQ_125, l_125, y_125, z_125⟩, st_125⟩ := Jvm.LawKit.callS X_121 hx (y := (⟨"com/example/sluicegate/sluicegate/BinsMeanPinLaw", "nib", "(II)I"⟩ : MethodName)) hown (mvT hZ (hw _ (List.mem_of_getElem? (i := 26) rfl))) (mvT hZ (hw _ (List.mem_of_getElem? (i := 27) rfl))) (mvT hZ (hw _ (List.mem_of_getElem? (i := 28) rfl))) (mvT hZ (hw _ (List.mem_of_getElem? (i := 29) rfl))) (by decide) (backOf (W := 2) (rm3 l Z a0 hw [] x5 (2 : Int32) h_121 n0 Z_123) hZ (hw _ (List.mem_of_getElem? (i := 29) rfl)) (hw _ (List.mem_of_getElem? (i := 28) rfl)) (by decide) (by decide)) (g := (mkF m 124 #[.val (.int x0), .val (.int x1), .val (.int x2), .val (.int x3), .val (.int x4), .val (.int x5), .val (.int (3 : Int32)), .val (.ref a_94), .val (.ref a_97), .val (.long s_1), .second, .unset, .unset, .unset] [(.int (2 : Int32)), (.int x5), (.int (2 : Int32)), (.ref a_97)])) rfl (by rw [hml]; rfl) (argsL := [(.int x5), (.int (2 : Int32))]) (rest := [(.int (2 : Int32)), (.ref a_97)]) (lenOf pd0_2 rfl) rfl (by show 2 * 0 + _ ≤ _; exact Nat.le_of_eq rfl) (hb hby at_124) (fun _ _ => ⟨rfl, e_121, (by decide : 2 + 0 ≤ _), (by decide : 6 + 0 ≤ _)⟩)
    dsimp only [Pt.U, Pt.locs, Pt.cells, Pt.slots] at X_125 l_125 y_125 z_125 st_125 hQ_125
    subst l_125 y_125 z_125
    refine own_st st_125 ?_
    obtain ⟨rfl, Nq_125, eq_125⟩ := hQ_125
    have N_125 := Fr.app N_121 Nq_125
    show own_Go p e below _ T_125 (mkF m 127 #[.val (.int x0), .val (.int x1), .val (.int x2), .val (.int x3), .val (.int x4), .val (.int x5), .val (.int (3 : Int32)), .val (.ref a_94), .val (.ref a_97), .val (.long s_1), .second, .unset, .unset, .unset] [(.int (own_nib x5 (2 : Int32))), (.int (2 : Int32)), (.ref a_97)])
    refine own_i2d X_125 hx (hb hby at_127) (pc' := 128) rfl ?_
    refine own_ldcD X_125 hx hown (mvT hZ (hw _ (List.mem_of_getElem? (i := 20) rfl))) (hb hby at_128) (pc' := 131) rfl ?_
    refine own_ddiv X_125 hx (hb hby at_131) (pc' := 132) rfl (own_En (own_Ew _)) ?_
    obtain ⟨T_126, h_126, X_126, e_126, W_126, V_126, st_126⟩ := own_dastore X_125 hx hZ eq_125 V_124 2 (x := (FP.ddiv (FP.l2d (own_nib x5 (2 : Int32)).toInt64) (4643211215818981376 : UInt64))) (j := (2 : Int32)) (Ls := #[.val (.int x0), .val (.int x1), .val (.int x2), .val (.int x3), .val (.int x4), .val (.int x5), .val (.int (3 : Int32)), .val (.ref a_94), .val (.ref a_97), .val (.long s_1), .second, .unset, .unset, .unset]) (st := []) ⟨by decide, by decide⟩ rfl (Nat.le_of_ble_eq_true rfl) (hb hby at_132)
    have V_127 : Arv Z h_126 a_97 kc_97 .double (3 : Int32) [(.double (FP.ddiv (FP.l2d (own_nib x5 (0 : Int32)).toInt64) (4643211215818981376 : UInt64))), (.double (FP.ddiv (FP.l2d (own_nib x5 (1 : Int32)).toInt64) (4643211215818981376 : UInt64))), (.double (FP.ddiv (FP.l2d (own_nib x5 (2 : Int32)).toInt64) (4643211215818981376 : UInt64)))] (.double (0 : UInt64)) := V_126
    have V_129 : Arv Z h_126 a_94 kc_94 .double (3 : Int32) [(.double (FP.l2d x1.toInt64)), (.double (FP.l2d x2.toInt64)), (.double (FP.l2d x3.toInt64))] (.double (0 : UInt64)) := V_122.other W_126 ne_97_a_94
    have Z_128 : n0 ≤ h_126.size := by rw [W_126.size]; exact Z_123
    have N_126 := Fr.snoc X_126 N_125 ge_97
    refine own_st st_126 ?_
    show own_Go p e below _ T_126 (mkF m 133 #[.val (.int x0), .val (.int x1), .val (.int x2), .val (.int x3), .val (.int x4), .val (.int x5), .val (.int (3 : Int32)), .val (.ref a_94), .val (.ref a_97), .val (.long s_1), .second, .unset, .unset, .unset] [])
    refine own_lload X_126 hx (hb hby at_133) (pc' := 135) rfl rfl ?_
    refine own_iloadN X_126 hx (hb hby at_135) (pc' := 136) rfl rfl ?_
    refine own_i2l X_126 hx (hb hby at_136) (pc' := 137) rfl ?_
    refine own_iload X_126 hx (hb hby at_137) (pc' := 139) rfl rfl ?_
    refine own_iconst X_126 hx (2) (hb hby at_139) (pc' := 140) rfl rfl ?_
    obtain ⟨_, _, ⟨T_130, L_130, k_130, n_130⟩, -, X_130, ⟨Lc_130, hQ_130, l_130, y_130, z_130⟩, st_130⟩ := Jvm.LawKit.callS X_126 hx (y := (⟨"com/example/sluicegate/sluicegate/BinsMeanPinLaw", "nib", "(II)I"⟩ : MethodName)) hown (mvT hZ (hw _ (List.mem_of_getElem? (i := 26) rfl))) (mvT hZ (hw _ (List.mem_of_getElem? (i := 27) rfl))) (mvT hZ (hw _ (List.mem_of_getElem? (i := 28) rfl))) (mvT hZ (hw _ (List.mem_of_getElem? (i := 29) rfl))) (by decide) (backOf (W := 4) (rm3 l Z a0 hw [] x5 (2 : Int32) h_126 n0 Z_128) hZ (hw _ (List.mem_of_getElem? (i := 29) rfl)) (hw _ (List.mem_of_getElem? (i := 28) rfl)) (by decide) (by decide)) (g := (mkF m 140 #[.val (.int x0), .val (.int x1), .val (.int x2), .val (.int x3), .val (.int x4), .val (.int x5), .val (.int (3 : Int32)), .val (.ref a_94), .val (.ref a_97), .val (.long s_1), .second, .unset, .unset, .unset] [(.int (2 : Int32)), (.int x5), (.long x3.toInt64), (.long s_1)])) rfl (by rw [hml]; rfl) (argsL := [(.int x5), (.int (2 : Int32))]) (rest := [(.long x3.toInt64), (.long s_1)]) (lenOf pd0_2 rfl) rfl (by show 2 * 0 + _ ≤ _; exact Nat.le_of_eq rfl) (hb hby at_140) (fun _ _ => ⟨rfl, e_126, (by decide : 2 + 0 ≤ _), (by decide : 6 + 0 ≤ _)⟩)
    dsimp only [Pt.U, Pt.locs, Pt.cells, Pt.slots] at X_130 l_130 y_130 z_130 st_130 hQ_130
    subst l_130 y_130 z_130
    refine own_st st_130 ?_
    obtain ⟨rfl, Nq_130, eq_130⟩ := hQ_130
    have N_130 := Fr.app N_126 Nq_130
    show own_Go p e below _ T_130 (mkF m 143 #[.val (.int x0), .val (.int x1), .val (.int x2), .val (.int x3), .val (.int x4), .val (.int x5), .val (.int (3 : Int32)), .val (.ref a_94), .val (.ref a_97), .val (.long s_1), .second, .unset, .unset, .unset] [(.int (own_nib x5 (2 : Int32))), (.long x3.toInt64), (.long s_1)])
    refine own_i2l X_130 hx (hb hby at_143) (pc' := 144) rfl ?_
    refine own_lmul X_130 hx (hb hby at_144) (pc' := 145) rfl ?_
    refine own_ladd X_130 hx (hb hby at_145) (pc' := 146) rfl ?_
    refine own_lstore X_130 hx (hb hby at_146) (pc' := 148) (Ls' := #[.val (.int x0), .val (.int x1), .val (.int x2), .val (.int x3), .val (.int x4), .val (.int x5), .val (.int (3 : Int32)), .val (.ref a_94), .val (.ref a_97), .val (.long (s_1 + (x3.toInt64 * (own_nib x5 (2 : Int32)).toInt64))), .second, .unset, .unset, .unset]) rfl rfl ?_
    obtain ⟨s_2, es_2, hs_2⟩ := own_acc (s := s_1) (x := x3) (b := own_nib x5 (2 : Int32)) ⟨by omega, by omega⟩ (own_nb x5 _)
    rw [← es_2]
    have P2 := own_pb (rng32 x3) (own_nb x5 (2 : Int32))
    refine own_iload X_130 hx (hb hby at_148) (pc' := 150) rfl rfl ?_
    refine own_iconst X_130 hx (3) (hb hby at_150) (pc' := 151) rfl rfl ?_
    refine own_icmpY X_130 hx (hb hby at_151) (by decide) (pc' := 192) (by decide) (by decide) ?_
    obtain ⟨T_131, h_131, X_131, e_131, E_131, A_131, D_131, -, st_131⟩ := newO X_130 hx hZ hown (hw _ (List.mem_of_getElem? (i := 2) rfl)) (hw _ (List.mem_of_getElem? (i := 3) rfl)) (hw _ (List.mem_of_getElem? (i := 4) rfl)) eq_130 (g := (mkF m 192 #[.val (.int x0), .val (.int x1), .val (.int x2), .val (.int x3), .val (.int x4), .val (.int x5), .val (.int (3 : Int32)), .val (.ref a_94), .val (.ref a_97), .val (.long s_2), .second, .unset, .unset, .unset] [])) rfl (hb hby at_192) (by decide) (by decide)
    obtain ⟨a_131, g_131⟩ : ∃ z, z = h_126.size := ⟨_, rfl⟩
    rw [← g_131] at A_131 D_131 st_131
    have ge_131 : n0 ≤ a_131 := Nat.le_trans Z_128 (Nat.le_of_eq g_131.symm)
    have ne_131_a_97 : a_97 ≠ a_131 := Nat.ne_of_lt (Nat.lt_of_lt_of_eq V_127.lt g_131.symm)
    have ne_131_a_94 : a_94 ≠ a_131 := Nat.ne_of_lt (Nat.lt_of_lt_of_eq V_129.lt g_131.symm)
    have V_133 : Arv Z h_131 a_97 kc_97 .double (3 : Int32) [(.double (FP.ddiv (FP.l2d (own_nib x5 (0 : Int32)).toInt64) (4643211215818981376 : UInt64))), (.double (FP.ddiv (FP.l2d (own_nib x5 (1 : Int32)).toInt64) (4643211215818981376 : UInt64))), (.double (FP.ddiv (FP.l2d (own_nib x5 (2 : Int32)).toInt64) (4643211215818981376 : UInt64)))] (.double (0 : UInt64)) := V_127.ext E_131
    have V_134 : Arv Z h_131 a_94 kc_94 .double (3 : Int32) [(.double (FP.l2d x1.toInt64)), (.double (FP.l2d x2.toInt64)), (.double (FP.l2d x3.toInt64))] (.double (0 : UInt64)) := V_129.ext E_131
    have Z_132 : n0 ≤ h_131.size := Nat.le_trans Z_128 E_131.1
    have F_135 : Fld Z h_131 a_131 "com/example/sluicegate/sluicegate/RecentTimes$Bins" "values" "[D" (.null) := D_131 (Or.inr (hw _ (List.mem_of_getElem? (i := 17) rfl))) (ty := (.array .double)) (by decide)
    have F_136 : Fld Z h_131 a_131 "com/example/sluicegate/sluicegate/RecentTimes$Bins" "weights" "[D" (.null) := D_131 (Or.inr (hw _ (List.mem_of_getElem? (i := 19) rfl))) (ty := (.array .double)) (by decide)
    refine own_st st_131 ?_
    show own_Go p e below _ T_131 (mkF m 195 #[.val (.int x0), .val (.int x1), .val (.int x2), .val (.int x3), .val (.int x4), .val (.int x5), .val (.int (3 : Int32)), .val (.ref a_94), .val (.ref a_97), .val (.long s_2), .second, .unset, .unset, .unset] [(.ref a_131)])
    refine own_dup X_131 hx (hb hby at_195) (pc' := 196) rfl rfl ?_
    refine own_aload X_131 hx (hb hby at_196) (pc' := 198) rfl rfl rfl ?_
    refine own_aload X_131 hx (hb hby at_198) (pc' := 200) rfl rfl rfl ?_
    obtain ⟨_, _, ⟨T_137, L_137, k_137, n_137⟩, -, X_137, ⟨Lc_137, hQ_137, l_137, y_137, z_137⟩, st_137⟩ := X_131.specialBack hx  (y := (⟨"com/example/sluicegate/sluicegate/RecentTimes$Bins", "<init>", "([D[D)V"⟩ : MethodName)) rfl hown (mvT hZ (hw _ (List.mem_of_getElem? (i := 5) rfl))) (mvT hZ (hw _ (List.mem_of_getElem? (i := 6) rfl))) (mvT hZ (hw _ (List.mem_of_getElem? (i := 7) rfl))) (by decide) (backOf (W := 1) (rm2 l Z a0 hw [] a_131 a_94 a_97 h_131 n0 Z_132 A_131 F_135 F_136 ge_131) hZ (hw _ (List.mem_of_getElem? (i := 7) rfl)) (hw _ (List.mem_of_getElem? (i := 4) rfl)) (by decide) (by decide)) (g := (mkF m 200 #[.val (.int x0), .val (.int x1), .val (.int x2), .val (.int x3), .val (.int x4), .val (.int x5), .val (.int (3 : Int32)), .val (.ref a_94), .val (.ref a_97), .val (.long s_2), .second, .unset, .unset, .unset] [(.ref a_97), (.ref a_94), (.ref a_131), (.ref a_131)])) rfl (by rw [hml]; rfl) (Steps.refl _) (a := a_131) (argsL := [(.ref a_94), (.ref a_97)]) (rest := [(.ref a_131)]) (lenOf pd0_0 rfl) rfl (by show 2 * 0 + _ ≤ _; exact Nat.le_of_eq rfl) (hb hby at_200) (fun _ _ => ⟨rfl, e_131, (by decide : 3 + 0 ≤ _), (by decide : 8 + 0 ≤ _)⟩)
    dsimp only [Pt.U, Pt.locs, Pt.cells, Pt.slots] at X_137 l_137 y_137 z_137 st_137 hQ_137
    subst l_137 y_137 z_137
    refine own_tr st_137 ?_
    obtain ⟨rfl, Nq_137, Kq_137, q0_137, q1_137⟩ := hQ_137
    have N_137 := Fr.app N_130 Nq_137
    have F_138 : Fld Z T_137.heap a_131 "com/example/sluicegate/sluicegate/RecentTimes$Bins" "values" "[D" (.ref a_94) := q0_137
    have F_139 : Fld Z T_137.heap a_131 "com/example/sluicegate/sluicegate/RecentTimes$Bins" "weights" "[D" (.ref a_97) := q1_137
    have V_141 : Arv Z T_137.heap a_97 kc_97 .double (3 : Int32) [(.double (FP.ddiv (FP.l2d (own_nib x5 (0 : Int32)).toInt64) (4643211215818981376 : UInt64))), (.double (FP.ddiv (FP.l2d (own_nib x5 (1 : Int32)).toInt64) (4643211215818981376 : UInt64))), (.double (FP.ddiv (FP.l2d (own_nib x5 (2 : Int32)).toInt64) (4643211215818981376 : UInt64)))] (.double (0 : UInt64)) := V_133.keep Kq_137 (ninS ne_131_a_97 nin0)
    have V_142 : Arv Z T_137.heap a_94 kc_94 .double (3 : Int32) [(.double (FP.l2d x1.toInt64)), (.double (FP.l2d x2.toInt64)), (.double (FP.l2d x3.toInt64))] (.double (0 : UInt64)) := V_134.keep Kq_137 (ninS ne_131_a_94 nin0)
    have A_143 : Exa Z T_137.heap a_131 "com/example/sluicegate/sluicegate/RecentTimes$Bins" := A_131.keep Kq_137
    have Z_140 : n0 ≤ T_137.heap.size := Nat.le_trans Z_132 Kq_137.1
    show own_Go p e below _ T_137 (mkF m 203 #[.val (.int x0), .val (.int x1), .val (.int x2), .val (.int x3), .val (.int x4), .val (.int x5), .val (.int (3 : Int32)), .val (.ref a_94), .val (.ref a_97), .val (.long s_2), .second, .unset, .unset, .unset] [(.ref a_131)])
    refine own_astore X_137 hx (hb hby at_203) (pc' := 205) (Ls' := #[.val (.int x0), .val (.int x1), .val (.int x2), .val (.int x3), .val (.int x4), .val (.int x5), .val (.int (3 : Int32)), .val (.ref a_94), .val (.ref a_97), .val (.long s_2), .second, .val (.ref a_131), .unset, .unset]) rfl rfl rfl ?_
    have hsm : FP.Core.Small53 s_2 := own_sm (by omega) (by omega)
    refine own_lload X_137 hx (hb hby at_205) (pc' := 207) rfl rfl ?_
    refine own_l2d X_137 hx (hb hby at_207) (pc' := 208) rfl ?_
    refine own_ldcD X_137 hx hown (mvT hZ (hw _ (List.mem_of_getElem? (i := 20) rfl))) (hb hby at_208) (pc' := 211) rfl ?_
    refine own_ddiv X_137 hx (hb hby at_211) (pc' := 212) rfl (own_En (own_Ed hsm)) ?_
    refine own_dstore X_137 hx (hb hby at_212) (pc' := 214) (Ls' := #[.val (.int x0), .val (.int x1), .val (.int x2), .val (.int x3), .val (.int x4), .val (.int x5), .val (.int (3 : Int32)), .val (.ref a_94), .val (.ref a_97), .val (.long s_2), .second, .val (.ref a_131), .val (.double (FP.ddiv (FP.l2d s_2) (4643211215818981376 : UInt64))), .second]) rfl rfl ?_
    refine own_aload X_137 hx (hb hby at_214) (pc' := 216) rfl rfl rfl ?_
    obtain ⟨cq_144, kq_144, qa_144, qb_144, qc_144⟩ := isOf hZ rfl A_143
    obtain ⟨_, _, ⟨T_144, L_144, k_144, n_144⟩, -, X_144, ⟨Lc_144, hQ_144, l_144, y_144, z_144⟩, st_144⟩ := X_137.virtualBack hx  (y := (⟨"com/example/sluicegate/sluicegate/RecentTimes$Bins", "mean", "()D"⟩ : MethodName)) (z := (⟨"com/example/sluicegate/sluicegate/RecentTimes$Bins", "mean", "()D"⟩ : MethodName)) hown (mvT hZ (hw _ (List.mem_of_getElem? (i := 21) rfl))) (mvT hZ (hw _ (List.mem_of_getElem? (i := 22) rfl))) (notFace_of_selects (args := #[]) (mvT hZ (hw _ (List.mem_of_getElem? (i := 24) rfl)))) (mvT hZ (hw _ (List.mem_of_getElem? (i := 24) rfl))) (mvT hZ (hw _ (List.mem_of_getElem? (i := 23) rfl))) (by decide) (backOf (W := 0) (rm53 l Z a0 hw [] a_131 a_94 a_97 kc_94 kc_97 (FP.l2d x1.toInt64) (FP.l2d x2.toInt64) (FP.l2d x3.toInt64) (FP.ddiv (FP.l2d (own_nib x5 (0 : Int32)).toInt64) (4643211215818981376 : UInt64)) (FP.ddiv (FP.l2d (own_nib x5 (1 : Int32)).toInt64) (4643211215818981376 : UInt64)) (FP.ddiv (FP.l2d (own_nib x5 (2 : Int32)).toInt64) (4643211215818981376 : UInt64)) x1.toInt x2.toInt x3.toInt (own_nib x5 (0 : Int32)).toInt (own_nib x5 (1 : Int32)).toInt (own_nib x5 (2 : Int32)).toInt T_137.heap n0 Z_140 F_138 F_139 V_142 V_141 (own_Ei x1) (own_Ei x2) (own_Ei x3) (own_Ew (own_nib x5 (0 : Int32))) (own_Ew (own_nib x5 (1 : Int32))) (own_Ew (own_nib x5 (2 : Int32))) (rng32 x1) (rng32 x2) (rng32 x3) (own_nb x5 (0 : Int32)) (own_nb x5 (1 : Int32)) (own_nb x5 (2 : Int32))) hZ (hw _ (List.mem_of_getElem? (i := 25) rfl)) (hw _ (List.mem_of_getElem? (i := 4) rfl)) (by decide) (by decide)) qa_144 qc_144 (g := (mkF m 216 #[.val (.int x0), .val (.int x1), .val (.int x2), .val (.int x3), .val (.int x4), .val (.int x5), .val (.int (3 : Int32)), .val (.ref a_94), .val (.ref a_97), .val (.long s_2), .second, .val (.ref a_131), .val (.double (FP.ddiv (FP.l2d s_2) (4643211215818981376 : UInt64))), .second] [(.ref a_131)])) rfl (by rw [hml]; rfl) (Steps.refl _) (argsL := []) (rest := []) (lenOf pd0_1 rfl) rfl (by show 2 * 0 + _ ≤ _; exact Nat.le_of_eq rfl) (hb hby at_216) (fun _ _ => ⟨rfl, rfl, (by decide : 3 + 0 ≤ _), (by decide : 8 + 0 ≤ _)⟩)
    dsimp only [Pt.U, Pt.locs, Pt.cells, Pt.slots] at X_144 l_144 y_144 z_144 st_144 hQ_144
    subst l_144 y_144 z_144
    refine own_tr st_144 ?_
    obtain ⟨⟨xm, rfl, Em⟩, Nq_144, eq_144⟩ := hQ_144
    have N_144 := Fr.app N_137 Nq_144
    show own_Go p e below _ T_144 (mkF m 219 #[.val (.int x0), .val (.int x1), .val (.int x2), .val (.int x3), .val (.int x4), .val (.int x5), .val (.int (3 : Int32)), .val (.ref a_94), .val (.ref a_97), .val (.long s_2), .second, .val (.ref a_131), .val (.double (FP.ddiv (FP.l2d s_2) (4643211215818981376 : UInt64))), .second] [(.double xm)])
    refine own_dload X_144 hx (hb hby at_219) (pc' := 221) rfl rfl ?_
    refine own_dcmp X_144 hx (0) (own_Eq Em (own_Ed hsm) (by omega) _) (hb hby at_221) (pc' := 222) rfl ?_
    refine own_ifN X_144 hx (hb hby at_222) (by decide) (pc' := 225) rfl ?_
    refine own_iconst X_144 hx (1) (hb hby at_225) (pc' := 226) rfl rfl ?_
    refine own_goto X_144 hx (hb hby at_226) (pc' := 230) (by decide) (by decide) ?_
    refine own_retZ X_144 hx hlk Bd.returns (by simp) (hb hby at_230) (by decide) (by decide) ?_
    exact ⟨rfl, N_144⟩
  · skip
    rw [hN]
    have e00 : (0 : Int64).toInt = 0 := rfl
    refine own_iload X0 hx (hb hby at_8) (pc' := 10) rfl rfl ?_
    obtain ⟨T_145, h_145, kc_145, X_145, e_145, E_145, A_145, st_145⟩ := newP X0 hx hZ (hw _ (List.mem_of_getElem? (i := 1) rfl)) e0 (g := (mkF m 10 #[.val (.int x0), .val (.int x1), .val (.int x2), .val (.int x3), .val (.int x4), .val (.int x5), .val (.int (4 : Int32)), .unset, .unset, .unset, .unset, .unset, .unset, .unset] [(.int (4 : Int32))])) rfl (hb hby at_10) rfl (by decide) (cap := 4) (by decide) (by decide) (by decide) (by decide)
    obtain ⟨a_145, g_145⟩ : ∃ z, z = h0.size := ⟨_, rfl⟩
    rw [← g_145] at A_145 st_145
    have ge_145 : n0 ≤ a_145 := Nat.le_trans Z0 (Nat.le_of_eq g_145.symm)
    have Z_146 : n0 ≤ h_145.size := Nat.le_trans Z0 E_145.1
    have V_147 : Arv Z h_145 a_145 kc_145 .double (4 : Int32) [(.double (0 : UInt64)), (.double (0 : UInt64)), (.double (0 : UInt64)), (.double (0 : UInt64))] (.double (0 : UInt64)) := (Arv.new A_145 (by decide)).pad (pad_rep [] (.double (0 : UInt64)) 4)
    refine own_st st_145 ?_
    show own_Go p e below _ T_145 (mkF m 12 #[.val (.int x0), .val (.int x1), .val (.int x2), .val (.int x3), .val (.int x4), .val (.int x5), .val (.int (4 : Int32)), .unset, .unset, .unset, .unset, .unset, .unset, .unset] [(.ref a_145)])
    refine own_astore X_145 hx (hb hby at_12) (pc' := 14) (Ls' := #[.val (.int x0), .val (.int x1), .val (.int x2), .val (.int x3), .val (.int x4), .val (.int x5), .val (.int (4 : Int32)), .val (.ref a_145), .unset, .unset, .unset, .unset, .unset, .unset]) rfl rfl rfl ?_
    refine own_iload X_145 hx (hb hby at_14) (pc' := 16) rfl rfl ?_
    obtain ⟨T_148, h_148, kc_148, X_148, e_148, E_148, A_148, st_148⟩ := newP X_145 hx hZ (hw _ (List.mem_of_getElem? (i := 1) rfl)) e_145 (g := (mkF m 16 #[.val (.int x0), .val (.int x1), .val (.int x2), .val (.int x3), .val (.int x4), .val (.int x5), .val (.int (4 : Int32)), .val (.ref a_145), .unset, .unset, .unset, .unset, .unset, .unset] [(.int (4 : Int32))])) rfl (hb hby at_16) rfl (by decide) (cap := 4) (by decide) (by decide) (by decide) (by decide)
    obtain ⟨a_148, g_148⟩ : ∃ z, z = h_145.size := ⟨_, rfl⟩
    rw [← g_148] at A_148 st_148
    have ge_148 : n0 ≤ a_148 := Nat.le_trans Z_146 (Nat.le_of_eq g_148.symm)
    have ne_148_a_145 : a_145 ≠ a_148 := Nat.ne_of_lt (Nat.lt_of_lt_of_eq V_147.lt g_148.symm)
    have V_150 : Arv Z h_148 a_145 kc_145 .double (4 : Int32) [(.double (0 : UInt64)), (.double (0 : UInt64)), (.double (0 : UInt64)), (.double (0 : UInt64))] (.double (0 : UInt64)) := V_147.ext E_148
    have Z_149 : n0 ≤ h_148.size := Nat.le_trans Z_146 E_148.1
    have V_151 : Arv Z h_148 a_148 kc_148 .double (4 : Int32) [(.double (0 : UInt64)), (.double (0 : UInt64)), (.double (0 : UInt64)), (.double (0 : UInt64))] (.double (0 : UInt64)) := (Arv.new A_148 (by decide)).pad (pad_rep [] (.double (0 : UInt64)) 4)
    refine own_st st_148 ?_
    show own_Go p e below _ T_148 (mkF m 18 #[.val (.int x0), .val (.int x1), .val (.int x2), .val (.int x3), .val (.int x4), .val (.int x5), .val (.int (4 : Int32)), .val (.ref a_145), .unset, .unset, .unset, .unset, .unset, .unset] [(.ref a_148)])
    refine own_astore X_148 hx (hb hby at_18) (pc' := 20) (Ls' := #[.val (.int x0), .val (.int x1), .val (.int x2), .val (.int x3), .val (.int x4), .val (.int x5), .val (.int (4 : Int32)), .val (.ref a_145), .val (.ref a_148), .unset, .unset, .unset, .unset, .unset]) rfl rfl rfl ?_
    refine own_lconst X_148 hx (0) (hb hby at_20) (pc' := 21) rfl rfl ?_
    refine own_lstore X_148 hx (hb hby at_21) (pc' := 23) (Ls' := #[.val (.int x0), .val (.int x1), .val (.int x2), .val (.int x3), .val (.int x4), .val (.int x5), .val (.int (4 : Int32)), .val (.ref a_145), .val (.ref a_148), .val (.long (0 : Int64)), .second, .unset, .unset, .unset]) rfl rfl ?_
    refine own_iload X_148 hx (hb hby at_23) (pc' := 25) rfl rfl ?_
    refine own_ifN X_148 hx (hb hby at_25) (by decide) (pc' := 28) rfl ?_
    refine own_aload X_148 hx (hb hby at_28) (pc' := 30) rfl rfl rfl ?_
    refine own_iconst X_148 hx (0) (hb hby at_30) (pc' := 31) rfl rfl ?_
    refine own_iloadN X_148 hx (hb hby at_31) (pc' := 32) rfl rfl ?_
    refine own_i2d X_148 hx (hb hby at_32) (pc' := 33) rfl ?_
    obtain ⟨T_152, h_152, X_152, e_152, W_152, V_152, st_152⟩ := own_dastore X_148 hx hZ e_148 V_150 0 (x := (FP.l2d x1.toInt64)) (j := (0 : Int32)) (Ls := #[.val (.int x0), .val (.int x1), .val (.int x2), .val (.int x3), .val (.int x4), .val (.int x5), .val (.int (4 : Int32)), .val (.ref a_145), .val (.ref a_148), .val (.long (0 : Int64)), .second, .unset, .unset, .unset]) (st := []) ⟨by decide, by decide⟩ rfl (Nat.le_of_ble_eq_true rfl) (hb hby at_33)
    have V_153 : Arv Z h_152 a_145 kc_145 .double (4 : Int32) [(.double (FP.l2d x1.toInt64)), (.double (0 : UInt64)), (.double (0 : UInt64)), (.double (0 : UInt64))] (.double (0 : UInt64)) := V_152
    have V_155 : Arv Z h_152 a_148 kc_148 .double (4 : Int32) [(.double (0 : UInt64)), (.double (0 : UInt64)), (.double (0 : UInt64)), (.double (0 : UInt64))] (.double (0 : UInt64)) := V_151.other W_152 (Ne.symm ne_148_a_145)
    have Z_154 : n0 ≤ h_152.size := by rw [W_152.size]; exact Z_149
    have N_152 := Fr.snoc X_152 N0 ge_145
    refine own_st st_152 ?_
    show own_Go p e below _ T_152 (mkF m 34 #[.val (.int x0), .val (.int x1), .val (.int x2), .val (.int x3), .val (.int x4), .val (.int x5), .val (.int (4 : Int32)), .val (.ref a_145), .val (.ref a_148), .val (.long (0 : Int64)), .second, .unset, .unset, .unset] [])
    refine own_aload X_152 hx (hb hby at_34) (pc' := 36) rfl rfl rfl ?_
    refine own_iconst X_152 hx (0) (hb hby at_36) (pc' := 37) rfl rfl ?_
    refine own_iload X_152 hx (hb hby at_37) (pc' := 39) rfl rfl ?_
    refine own_iconst X_152 hx (0) (hb hby at_39) (pc' := 40) rfl rfl ?_
    obtain ⟨_, _, ⟨T_156, L_156, k_156, n_156⟩, -, X_156, ⟨Lc_156, hQ_156, l_156, y_156, z_156⟩, st_156⟩ := Jvm.LawKit.callS X_152 hx (y := (⟨"com/example/sluicegate/sluicegate/BinsMeanPinLaw", "nib", "(II)I"⟩ : MethodName)) hown (mvT hZ (hw _ (List.mem_of_getElem? (i := 26) rfl))) (mvT hZ (hw _ (List.mem_of_getElem? (i := 27) rfl))) (mvT hZ (hw _ (List.mem_of_getElem? (i := 28) rfl))) (mvT hZ (hw _ (List.mem_of_getElem? (i := 29) rfl))) (by decide) (backOf (W := 2) (rm3 l Z a0 hw [] x5 (0 : Int32) h_152 n0 Z_154) hZ (hw _ (List.mem_of_getElem? (i := 29) rfl)) (hw _ (List.mem_of_getElem? (i := 28) rfl)) (by decide) (by decide)) (g := (mkF m 40 #[.val (.int x0), .val (.int x1), .val (.int x2), .val (.int x3), .val (.int x4), .val (.int x5), .val (.int (4 : Int32)), .val (.ref a_145), .val (.ref a_148), .val (.long (0 : Int64)), .second, .unset, .unset, .unset] [(.int (0 : Int32)), (.int x5), (.int (0 : Int32)), (.ref a_148)])) rfl (by rw [hml]; rfl) (argsL := [(.int x5), (.int (0 : Int32))]) (rest := [(.int (0 : Int32)), (.ref a_148)]) (lenOf pd0_2 rfl) rfl (by show 2 * 0 + _ ≤ _; exact Nat.le_of_eq rfl) (hb hby at_40) (fun _ _ => ⟨rfl, e_152, (by decide : 2 + 0 ≤ _), (by decide : 8 + 0 ≤ _)⟩)
    dsimp only [Pt.U, Pt.locs, Pt.cells, Pt.slots] at X_156 l_156 y_156 z_156 st_156 hQ_156
    subst l_156 y_156 z_156
    refine own_st st_156 ?_
    obtain ⟨rfl, Nq_156, eq_156⟩ := hQ_156
    have N_156 := Fr.app N_152 Nq_156
    show own_Go p e below _ T_156 (mkF m 43 #[.val (.int x0), .val (.int x1), .val (.int x2), .val (.int x3), .val (.int x4), .val (.int x5), .val (.int (4 : Int32)), .val (.ref a_145), .val (.ref a_148), .val (.long (0 : Int64)), .second, .unset, .unset, .unset] [(.int (own_nib x5 (0 : Int32))), (.int (0 : Int32)), (.ref a_148)])
    refine own_i2d X_156 hx (hb hby at_43) (pc' := 44) rfl ?_
    refine own_ldcD X_156 hx hown (mvT hZ (hw _ (List.mem_of_getElem? (i := 20) rfl))) (hb hby at_44) (pc' := 47) rfl ?_
    refine own_ddiv X_156 hx (hb hby at_47) (pc' := 48) rfl (own_En (own_Ew _)) ?_
    obtain ⟨T_157, h_157, X_157, e_157, W_157, V_157, st_157⟩ := own_dastore X_156 hx hZ eq_156 V_155 0 (x := (FP.ddiv (FP.l2d (own_nib x5 (0 : Int32)).toInt64) (4643211215818981376 : UInt64))) (j := (0 : Int32)) (Ls := #[.val (.int x0), .val (.int x1), .val (.int x2), .val (.int x3), .val (.int x4), .val (.int x5), .val (.int (4 : Int32)), .val (.ref a_145), .val (.ref a_148), .val (.long (0 : Int64)), .second, .unset, .unset, .unset]) (st := []) ⟨by decide, by decide⟩ rfl (Nat.le_of_ble_eq_true rfl) (hb hby at_48)
    have V_158 : Arv Z h_157 a_148 kc_148 .double (4 : Int32) [(.double (FP.ddiv (FP.l2d (own_nib x5 (0 : Int32)).toInt64) (4643211215818981376 : UInt64))), (.double (0 : UInt64)), (.double (0 : UInt64)), (.double (0 : UInt64))] (.double (0 : UInt64)) := V_157
    have V_160 : Arv Z h_157 a_145 kc_145 .double (4 : Int32) [(.double (FP.l2d x1.toInt64)), (.double (0 : UInt64)), (.double (0 : UInt64)), (.double (0 : UInt64))] (.double (0 : UInt64)) := V_153.other W_157 ne_148_a_145
    have Z_159 : n0 ≤ h_157.size := by rw [W_157.size]; exact Z_154
    have N_157 := Fr.snoc X_157 N_156 ge_148
    refine own_st st_157 ?_
    show own_Go p e below _ T_157 (mkF m 49 #[.val (.int x0), .val (.int x1), .val (.int x2), .val (.int x3), .val (.int x4), .val (.int x5), .val (.int (4 : Int32)), .val (.ref a_145), .val (.ref a_148), .val (.long (0 : Int64)), .second, .unset, .unset, .unset] [])
    refine own_lload X_157 hx (hb hby at_49) (pc' := 51) rfl rfl ?_
    refine own_iloadN X_157 hx (hb hby at_51) (pc' := 52) rfl rfl ?_
    refine own_i2l X_157 hx (hb hby at_52) (pc' := 53) rfl ?_
    refine own_iload X_157 hx (hb hby at_53) (pc' := 55) rfl rfl ?_
    refine own_iconst X_157 hx (0) (hb hby at_55) (pc' := 56) rfl rfl ?_
    obtain ⟨_, _, ⟨T_161, L_161, k_161, n_161⟩, -, X_161, ⟨Lc_161, hQ_161, l_161, y_161, z_161⟩, st_161⟩ := Jvm.LawKit.callS X_157 hx (y := (⟨"com/example/sluicegate/sluicegate/BinsMeanPinLaw", "nib", "(II)I"⟩ : MethodName)) hown (mvT hZ (hw _ (List.mem_of_getElem? (i := 26) rfl))) (mvT hZ (hw _ (List.mem_of_getElem? (i := 27) rfl))) (mvT hZ (hw _ (List.mem_of_getElem? (i := 28) rfl))) (mvT hZ (hw _ (List.mem_of_getElem? (i := 29) rfl))) (by decide) (backOf (W := 4) (rm3 l Z a0 hw [] x5 (0 : Int32) h_157 n0 Z_159) hZ (hw _ (List.mem_of_getElem? (i := 29) rfl)) (hw _ (List.mem_of_getElem? (i := 28) rfl)) (by decide) (by decide)) (g := (mkF m 56 #[.val (.int x0), .val (.int x1), .val (.int x2), .val (.int x3), .val (.int x4), .val (.int x5), .val (.int (4 : Int32)), .val (.ref a_145), .val (.ref a_148), .val (.long (0 : Int64)), .second, .unset, .unset, .unset] [(.int (0 : Int32)), (.int x5), (.long x1.toInt64), (.long (0 : Int64))])) rfl (by rw [hml]; rfl) (argsL := [(.int x5), (.int (0 : Int32))]) (rest := [(.long x1.toInt64), (.long (0 : Int64))]) (lenOf pd0_2 rfl) rfl (by show 2 * 0 + _ ≤ _; exact Nat.le_of_eq rfl) (hb hby at_56) (fun _ _ => ⟨rfl, e_157, (by decide : 2 + 0 ≤ _), (by decide : 8 + 0 ≤ _)⟩)
    dsimp only [Pt.U, Pt.locs, Pt.cells, Pt.slots] at X_161 l_161 y_161 z_161 st_161 hQ_161
    subst l_161 y_161 z_161
    refine own_st st_161 ?_
    obtain ⟨rfl, Nq_161, eq_161⟩ := hQ_161
    have N_161 := Fr.app N_157 Nq_161
    show own_Go p e below _ T_161 (mkF m 59 #[.val (.int x0), .val (.int x1), .val (.int x2), .val (.int x3), .val (.int x4), .val (.int x5), .val (.int (4 : Int32)), .val (.ref a_145), .val (.ref a_148), .val (.long (0 : Int64)), .second, .unset, .unset, .unset] [(.int (own_nib x5 (0 : Int32))), (.long x1.toInt64), (.long (0 : Int64))])
    refine own_i2l X_161 hx (hb hby at_59) (pc' := 60) rfl ?_
    refine own_lmul X_161 hx (hb hby at_60) (pc' := 61) rfl ?_
    refine own_ladd X_161 hx (hb hby at_61) (pc' := 62) rfl ?_
    refine own_lstore X_161 hx (hb hby at_62) (pc' := 64) (Ls' := #[.val (.int x0), .val (.int x1), .val (.int x2), .val (.int x3), .val (.int x4), .val (.int x5), .val (.int (4 : Int32)), .val (.ref a_145), .val (.ref a_148), .val (.long ((0 : Int64) + (x1.toInt64 * (own_nib x5 (0 : Int32)).toInt64))), .second, .unset, .unset, .unset]) rfl rfl ?_
    obtain ⟨s_0, es_0, hs_0⟩ := own_acc (s := (0 : Int64)) (x := x1) (b := own_nib x5 (0 : Int32)) ⟨by omega, by omega⟩ (own_nb x5 _)
    rw [← es_0]
    have P0 := own_pb (rng32 x1) (own_nb x5 (0 : Int32))
    refine own_iload X_161 hx (hb hby at_64) (pc' := 66) rfl rfl ?_
    refine own_iconst X_161 hx (1) (hb hby at_66) (pc' := 67) rfl rfl ?_
    refine own_icmpN X_161 hx (hb hby at_67) (by decide) (pc' := 70) rfl ?_
    refine own_aload X_161 hx (hb hby at_70) (pc' := 72) rfl rfl rfl ?_
    refine own_iconst X_161 hx (1) (hb hby at_72) (pc' := 73) rfl rfl ?_
    refine own_iloadN X_161 hx (hb hby at_73) (pc' := 74) rfl rfl ?_
    refine own_i2d X_161 hx (hb hby at_74) (pc' := 75) rfl ?_
    obtain ⟨T_162, h_162, X_162, e_162, W_162, V_162, st_162⟩ := own_dastore X_161 hx hZ eq_161 V_160 1 (x := (FP.l2d x2.toInt64)) (j := (1 : Int32)) (Ls := #[.val (.int x0), .val (.int x1), .val (.int x2), .val (.int x3), .val (.int x4), .val (.int x5), .val (.int (4 : Int32)), .val (.ref a_145), .val (.ref a_148), .val (.long s_0), .second, .unset, .unset, .unset]) (st := []) ⟨by decide, by decide⟩ rfl (Nat.le_of_ble_eq_true rfl) (hb hby at_75)
    have V_163 : Arv Z h_162 a_145 kc_145 .double (4 : Int32) [(.double (FP.l2d x1.toInt64)), (.double (FP.l2d x2.toInt64)), (.double (0 : UInt64)), (.double (0 : UInt64))] (.double (0 : UInt64)) := V_162
    have V_165 : Arv Z h_162 a_148 kc_148 .double (4 : Int32) [(.double (FP.ddiv (FP.l2d (own_nib x5 (0 : Int32)).toInt64) (4643211215818981376 : UInt64))), (.double (0 : UInt64)), (.double (0 : UInt64)), (.double (0 : UInt64))] (.double (0 : UInt64)) := V_158.other W_162 (Ne.symm ne_148_a_145)
    have Z_164 : n0 ≤ h_162.size := by rw [W_162.size]; exact Z_159
    have N_162 := Fr.snoc X_162 N_161 ge_145
    refine own_st st_162 ?_
    show own_Go p e below _ T_162 (mkF m 76 #[.val (.int x0), .val (.int x1), .val (.int x2), .val (.int x3), .val (.int x4), .val (.int x5), .val (.int (4 : Int32)), .val (.ref a_145), .val (.ref a_148), .val (.long s_0), .second, .unset, .unset, .unset] [])
    refine own_aload X_162 hx (hb hby at_76) (pc' := 78) rfl rfl rfl ?_
    refine own_iconst X_162 hx (1) (hb hby at_78) (pc' := 79) rfl rfl ?_
    refine own_iload X_162 hx (hb hby at_79) (pc' := 81) rfl rfl ?_
    refine own_iconst X_162 hx (1) (hb hby at_81) (pc' := 82) rfl rfl ?_
    obtain ⟨_, _, ⟨T_166, L_166, k_166, n_166⟩, -, X_166, ⟨Lc_166, hQ_166, l_166, y_166, z_166⟩, st_166⟩ := Jvm.LawKit.callS X_162 hx (y := (⟨"com/example/sluicegate/sluicegate/BinsMeanPinLaw", "nib", "(II)I"⟩ : MethodName)) hown (mvT hZ (hw _ (List.mem_of_getElem? (i := 26) rfl))) (mvT hZ (hw _ (List.mem_of_getElem? (i := 27) rfl))) (mvT hZ (hw _ (List.mem_of_getElem? (i := 28) rfl))) (mvT hZ (hw _ (List.mem_of_getElem? (i := 29) rfl))) (by decide) (backOf (W := 2) (rm3 l Z a0 hw [] x5 (1 : Int32) h_162 n0 Z_164) hZ (hw _ (List.mem_of_getElem? (i := 29) rfl)) (hw _ (List.mem_of_getElem? (i := 28) rfl)) (by decide) (by decide)) (g := (mkF m 82 #[.val (.int x0), .val (.int x1), .val (.int x2), .val (.int x3), .val (.int x4), .val (.int x5), .val (.int (4 : Int32)), .val (.ref a_145), .val (.ref a_148), .val (.long s_0), .second, .unset, .unset, .unset] [(.int (1 : Int32)), (.int x5), (.int (1 : Int32)), (.ref a_148)])) rfl (by rw [hml]; rfl) (argsL := [(.int x5), (.int (1 : Int32))]) (rest := [(.int (1 : Int32)), (.ref a_148)]) (lenOf pd0_2 rfl) rfl (by show 2 * 0 + _ ≤ _; exact Nat.le_of_eq rfl) (hb hby at_82) (fun _ _ => ⟨rfl, e_162, (by decide : 2 + 0 ≤ _), (by decide : 8 + 0 ≤ _)⟩)
    dsimp only [Pt.U, Pt.locs, Pt.cells, Pt.slots] at X_166 l_166 y_166 z_166 st_166 hQ_166
    subst l_166 y_166 z_166
    refine own_st st_166 ?_
    obtain ⟨rfl, Nq_166, eq_166⟩ := hQ_166
    have N_166 := Fr.app N_162 Nq_166
    show own_Go p e below _ T_166 (mkF m 85 #[.val (.int x0), .val (.int x1), .val (.int x2), .val (.int x3), .val (.int x4), .val (.int x5), .val (.int (4 : Int32)), .val (.ref a_145), .val (.ref a_148), .val (.long s_0), .second, .unset, .unset, .unset] [(.int (own_nib x5 (1 : Int32))), (.int (1 : Int32)), (.ref a_148)])
    refine own_i2d X_166 hx (hb hby at_85) (pc' := 86) rfl ?_
    refine own_ldcD X_166 hx hown (mvT hZ (hw _ (List.mem_of_getElem? (i := 20) rfl))) (hb hby at_86) (pc' := 89) rfl ?_
    refine own_ddiv X_166 hx (hb hby at_89) (pc' := 90) rfl (own_En (own_Ew _)) ?_
    obtain ⟨T_167, h_167, X_167, e_167, W_167, V_167, st_167⟩ := own_dastore X_166 hx hZ eq_166 V_165 1 (x := (FP.ddiv (FP.l2d (own_nib x5 (1 : Int32)).toInt64) (4643211215818981376 : UInt64))) (j := (1 : Int32)) (Ls := #[.val (.int x0), .val (.int x1), .val (.int x2), .val (.int x3), .val (.int x4), .val (.int x5), .val (.int (4 : Int32)), .val (.ref a_145), .val (.ref a_148), .val (.long s_0), .second, .unset, .unset, .unset]) (st := []) ⟨by decide, by decide⟩ rfl (Nat.le_of_ble_eq_true rfl) (hb hby at_90)
    have V_168 : Arv Z h_167 a_148 kc_148 .double (4 : Int32) [(.double (FP.ddiv (FP.l2d (own_nib x5 (0 : Int32)).toInt64) (4643211215818981376 : UInt64))), (.double (FP.ddiv (FP.l2d (own_nib x5 (1 : Int32)).toInt64) (4643211215818981376 : UInt64))), (.double (0 : UInt64)), (.double (0 : UInt64))] (.double (0 : UInt64)) := V_167
    have V_170 : Arv Z h_167 a_145 kc_145 .double (4 : Int32) [(.double (FP.l2d x1.toInt64)), (.double (FP.l2d x2.toInt64)), (.double (0 : UInt64)), (.double (0 : UInt64))] (.double (0 : UInt64)) := V_163.other W_167 ne_148_a_145
    have Z_169 : n0 ≤ h_167.size := by rw [W_167.size]; exact Z_164
    have N_167 := Fr.snoc X_167 N_166 ge_148
    refine own_st st_167 ?_
    show own_Go p e below _ T_167 (mkF m 91 #[.val (.int x0), .val (.int x1), .val (.int x2), .val (.int x3), .val (.int x4), .val (.int x5), .val (.int (4 : Int32)), .val (.ref a_145), .val (.ref a_148), .val (.long s_0), .second, .unset, .unset, .unset] [])
    refine own_lload X_167 hx (hb hby at_91) (pc' := 93) rfl rfl ?_
    refine own_iloadN X_167 hx (hb hby at_93) (pc' := 94) rfl rfl ?_
    refine own_i2l X_167 hx (hb hby at_94) (pc' := 95) rfl ?_
    refine own_iload X_167 hx (hb hby at_95) (pc' := 97) rfl rfl ?_
    refine own_iconst X_167 hx (1) (hb hby at_97) (pc' := 98) rfl rfl ?_
    obtain ⟨_, _, ⟨T_171, L_171, k_171, n_171⟩, -, X_171, ⟨Lc_171, hQ_171, l_171, y_171, z_171⟩, st_171⟩ := Jvm.LawKit.callS X_167 hx (y := (⟨"com/example/sluicegate/sluicegate/BinsMeanPinLaw", "nib", "(II)I"⟩ : MethodName)) hown (mvT hZ (hw _ (List.mem_of_getElem? (i := 26) rfl))) (mvT hZ (hw _ (List.mem_of_getElem? (i := 27) rfl))) (mvT hZ (hw _ (List.mem_of_getElem? (i := 28) rfl))) (mvT hZ (hw _ (List.mem_of_getElem? (i := 29) rfl))) (by decide) (backOf (W := 4) (rm3 l Z a0 hw [] x5 (1 : Int32) h_167 n0 Z_169) hZ (hw _ (List.mem_of_getElem? (i := 29) rfl)) (hw _ (List.mem_of_getElem? (i := 28) rfl)) (by decide) (by decide)) (g := (mkF m 98 #[.val (.int x0), .val (.int x1), .val (.int x2), .val (.int x3), .val (.int x4), .val (.int x5), .val (.int (4 : Int32)), .val (.ref a_145), .val (.ref a_148), .val (.long s_0), .second, .unset, .unset, .unset] [(.int (1 : Int32)), (.int x5), (.long x2.toInt64), (.long s_0)])) rfl (by rw [hml]; rfl) (argsL := [(.int x5), (.int (1 : Int32))]) (rest := [(.long x2.toInt64), (.long s_0)]) (lenOf pd0_2 rfl) rfl (by show 2 * 0 + _ ≤ _; exact Nat.le_of_eq rfl) (hb hby at_98) (fun _ _ => ⟨rfl, e_167, (by decide : 2 + 0 ≤ _), (by decide : 8 + 0 ≤ _)⟩)
    dsimp only [Pt.U, Pt.locs, Pt.cells, Pt.slots] at X_171 l_171 y_171 z_171 st_171 hQ_171
    subst l_171 y_171 z_171
    refine own_st st_171 ?_
    obtain ⟨rfl, Nq_171, eq_171⟩ := hQ_171
    have N_171 := Fr.app N_167 Nq_171
    show own_Go p e below _ T_171 (mkF m 101 #[.val (.int x0), .val (.int x1), .val (.int x2), .val (.int x3), .val (.int x4), .val (.int x5), .val (.int (4 : Int32)), .val (.ref a_145), .val (.ref a_148), .val (.long s_0), .second, .unset, .unset, .unset] [(.int (own_nib x5 (1 : Int32))), (.long x2.toInt64), (.long s_0)])
    refine own_i2l X_171 hx (hb hby at_101) (pc' := 102) rfl ?_
    refine own_lmul X_171 hx (hb hby at_102) (pc' := 103) rfl ?_
    refine own_ladd X_171 hx (hb hby at_103) (pc' := 104) rfl ?_
    refine own_lstore X_171 hx (hb hby at_104) (pc' := 106) (Ls' := #[.val (.int x0), .val (.int x1), .val (.int x2), .val (.int x3), .val (.int x4), .val (.int x5), .val (.int (4 : Int32)), .val (.ref a_145), .val (.ref a_148), .val (.long (s_0 + (x2.toInt64 * (own_nib x5 (1 : Int32)).toInt64))), .second, .unset, .unset, .unset]) rfl rfl ?_
    obtain ⟨s_1, es_1, hs_1⟩ := own_acc (s := s_0) (x := x2) (b := own_nib x5 (1 : Int32)) ⟨by omega, by omega⟩ (own_nb x5 _)
    rw [← es_1]
    have P1 := own_pb (rng32 x2) (own_nb x5 (1 : Int32))
    refine own_iload X_171 hx (hb hby at_106) (pc' := 108) rfl rfl ?_
    refine own_iconst X_171 hx (2) (hb hby at_108) (pc' := 109) rfl rfl ?_
    refine own_icmpN X_171 hx (hb hby at_109) (by decide) (pc' := 112) rfl ?_
    refine own_aload X_171 hx (hb hby at_112) (pc' := 114) rfl rfl rfl ?_
    refine own_iconst X_171 hx (2) (hb hby at_114) (pc' := 115) rfl rfl ?_
    refine own_iloadN X_171 hx (hb hby at_115) (pc' := 116) rfl rfl ?_
    refine own_i2d X_171 hx (hb hby at_116) (pc' := 117) rfl ?_
    obtain ⟨T_172, h_172, X_172, e_172, W_172, V_172, st_172⟩ := own_dastore X_171 hx hZ eq_171 V_170 2 (x := (FP.l2d x3.toInt64)) (j := (2 : Int32)) (Ls := #[.val (.int x0), .val (.int x1), .val (.int x2), .val (.int x3), .val (.int x4), .val (.int x5), .val (.int (4 : Int32)), .val (.ref a_145), .val (.ref a_148), .val (.long s_1), .second, .unset, .unset, .unset]) (st := []) ⟨by decide, by decide⟩ rfl (Nat.le_of_ble_eq_true rfl) (hb hby at_117)
    have V_173 : Arv Z h_172 a_145 kc_145 .double (4 : Int32) [(.double (FP.l2d x1.toInt64)), (.double (FP.l2d x2.toInt64)), (.double (FP.l2d x3.toInt64)), (.double (0 : UInt64))] (.double (0 : UInt64)) := V_172
    have V_175 : Arv Z h_172 a_148 kc_148 .double (4 : Int32) [(.double (FP.ddiv (FP.l2d (own_nib x5 (0 : Int32)).toInt64) (4643211215818981376 : UInt64))), (.double (FP.ddiv (FP.l2d (own_nib x5 (1 : Int32)).toInt64) (4643211215818981376 : UInt64))), (.double (0 : UInt64)), (.double (0 : UInt64))] (.double (0 : UInt64)) := V_168.other W_172 (Ne.symm ne_148_a_145)
    have Z_174 : n0 ≤ h_172.size := by rw [W_172.size]; exact Z_169
    have N_172 := Fr.snoc X_172 N_171 ge_145
    refine own_st st_172 ?_
    show own_Go p e below _ T_172 (mkF m 118 #[.val (.int x0), .val (.int x1), .val (.int x2), .val (.int x3), .val (.int x4), .val (.int x5), .val (.int (4 : Int32)), .val (.ref a_145), .val (.ref a_148), .val (.long s_1), .second, .unset, .unset, .unset] [])
    refine own_aload X_172 hx (hb hby at_118) (pc' := 120) rfl rfl rfl ?_
    refine own_iconst X_172 hx (2) (hb hby at_120) (pc' := 121) rfl rfl ?_
    refine own_iload X_172 hx (hb hby at_121) (pc' := 123) rfl rfl ?_
    refine own_iconst X_172 hx (2) (hb hby at_123) (pc' := 124) rfl rfl ?_
    obtain ⟨_, _, ⟨T_176, L_176, k_176, n_176⟩, -, X_176, ⟨Lc_176, hQ_176, l_176, y_176, z_176⟩, st_176⟩ := Jvm.LawKit.callS X_172 hx (y := (⟨"com/example/sluicegate/sluicegate/BinsMeanPinLaw", "nib", "(II)I"⟩ : MethodName)) hown (mvT hZ (hw _ (List.mem_of_getElem? (i := 26) rfl))) (mvT hZ (hw _ (List.mem_of_getElem? (i := 27) rfl))) (mvT hZ (hw _ (List.mem_of_getElem? (i := 28) rfl))) (mvT hZ (hw _ (List.mem_of_getElem? (i := 29) rfl))) (by decide) (backOf (W := 2) (rm3 l Z a0 hw [] x5 (2 : Int32) h_172 n0 Z_174) hZ (hw _ (List.mem_of_getElem? (i := 29) rfl)) (hw _ (List.mem_of_getElem? (i := 28) rfl)) (by decide) (by decide)) (g := (mkF m 124 #[.val (.int x0), .val (.int x1), .val (.int x2), .val (.int x3), .val (.int x4), .val (.int x5), .val (.int (4 : Int32)), .val (.ref a_145), .val (.ref a_148), .val (.long s_1), .second, .unset, .unset, .unset] [(.int (2 : Int32)), (.int x5), (.int (2 : Int32)), (.ref a_148)])) rfl (by rw [hml]; rfl) (argsL := [(.int x5), (.int (2 : Int32))]) (rest := [(.int (2 : Int32)), (.ref a_148)]) (lenOf pd0_2 rfl) rfl (by show 2 * 0 + _ ≤ _; exact Nat.le_of_eq rfl) (hb hby at_124) (fun _ _ => ⟨rfl, e_172, (by decide : 2 + 0 ≤ _), (by decide : 8 + 0 ≤ _)⟩)
    dsimp only [Pt.U, Pt.locs, Pt.cells, Pt.slots] at X_176 l_176 y_176 z_176 st_176 hQ_176
    subst l_176 y_176 z_176
    refine own_st st_176 ?_
    obtain ⟨rfl, Nq_176, eq_176⟩ := hQ_176
    have N_176 := Fr.app N_172 Nq_176
    show own_Go p e below _ T_176 (mkF m 127 #[.val (.int x0), .val (.int x1), .val (.int x2), .val (.int x3), .val (.int x4), .val (.int x5), .val (.int (4 : Int32)), .val (.ref a_145), .val (.ref a_148), .val (.long s_1), .second, .unset, .unset, .unset] [(.int (own_nib x5 (2 : Int32))), (.int (2 : Int32)), (.ref a_148)])
    refine own_i2d X_176 hx (hb hby at_127) (pc' := 128) rfl ?_
    refine own_ldcD X_176 hx hown (mvT hZ (hw _ (List.mem_of_getElem? (i := 20) rfl))) (hb hby at_128) (pc' := 131) rfl ?_
    refine own_ddiv X_176 hx (hb hby at_131) (pc' := 132) rfl (own_En (own_Ew _)) ?_
    obtain ⟨T_177, h_177, X_177, e_177, W_177, V_177, st_177⟩ := own_dastore X_176 hx hZ eq_176 V_175 2 (x := (FP.ddiv (FP.l2d (own_nib x5 (2 : Int32)).toInt64) (4643211215818981376 : UInt64))) (j := (2 : Int32)) (Ls := #[.val (.int x0), .val (.int x1), .val (.int x2), .val (.int x3), .val (.int x4), .val (.int x5), .val (.int (4 : Int32)), .val (.ref a_145), .val (.ref a_148), .val (.long s_1), .second, .unset, .unset, .unset]) (st := []) ⟨by decide, by decide⟩ rfl (Nat.le_of_ble_eq_true rfl) (hb hby at_132)
    have V_178 : Arv Z h_177 a_148 kc_148 .double (4 : Int32) [(.double (FP.ddiv (FP.l2d (own_nib x5 (0 : Int32)).toInt64) (4643211215818981376 : UInt64))), (.double (FP.ddiv (FP.l2d (own_nib x5 (1 : Int32)).toInt64) (4643211215818981376 : UInt64))), (.double (FP.ddiv (FP.l2d (own_nib x5 (2 : Int32)).toInt64) (4643211215818981376 : UInt64))), (.double (0 : UInt64))] (.double (0 : UInt64)) := V_177
    have V_180 : Arv Z h_177 a_145 kc_145 .double (4 : Int32) [(.double (FP.l2d x1.toInt64)), (.double (FP.l2d x2.toInt64)), (.double (FP.l2d x3.toInt64)), (.double (0 : UInt64))] (.double (0 : UInt64)) := V_173.other W_177 ne_148_a_145
    have Z_179 : n0 ≤ h_177.size := by rw [W_177.size]; exact Z_174
    have N_177 := Fr.snoc X_177 N_176 ge_148
    refine own_st st_177 ?_
    show own_Go p e below _ T_177 (mkF m 133 #[.val (.int x0), .val (.int x1), .val (.int x2), .val (.int x3), .val (.int x4), .val (.int x5), .val (.int (4 : Int32)), .val (.ref a_145), .val (.ref a_148), .val (.long s_1), .second, .unset, .unset, .unset] [])
    refine own_lload X_177 hx (hb hby at_133) (pc' := 135) rfl rfl ?_
    refine own_iloadN X_177 hx (hb hby at_135) (pc' := 136) rfl rfl ?_
    refine own_i2l X_177 hx (hb hby at_136) (pc' := 137) rfl ?_
    refine own_iload X_177 hx (hb hby at_137) (pc' := 139) rfl rfl ?_
    refine own_iconst X_177 hx (2) (hb hby at_139) (pc' := 140) rfl rfl ?_
    obtain ⟨_, _, ⟨T_181, L_181, k_181, n_181⟩, -, X_181, ⟨Lc_181, hQ_181, l_181, y_181, z_181⟩, st_181⟩ := Jvm.LawKit.callS X_177 hx (y := (⟨"com/example/sluicegate/sluicegate/BinsMeanPinLaw", "nib", "(II)I"⟩ : MethodName)) hown (mvT hZ (hw _ (List.mem_of_getElem? (i := 26) rfl))) (mvT hZ (hw _ (List.mem_of_getElem? (i := 27) rfl))) (mvT hZ (hw _ (List.mem_of_getElem? (i := 28) rfl))) (mvT hZ (hw _ (List.mem_of_getElem? (i := 29) rfl))) (by decide) (backOf (W := 4) (rm3 l Z a0 hw [] x5 (2 : Int32) h_177 n0 Z_179) hZ (hw _ (List.mem_of_getElem? (i := 29) rfl)) (hw _ (List.mem_of_getElem? (i := 28) rfl)) (by decide) (by decide)) (g := (mkF m 140 #[.val (.int x0), .val (.int x1), .val (.int x2), .val (.int x3), .val (.int x4), .val (.int x5), .val (.int (4 : Int32)), .val (.ref a_145), .val (.ref a_148), .val (.long s_1), .second, .unset, .unset, .unset] [(.int (2 : Int32)), (.int x5), (.long x3.toInt64), (.long s_1)])) rfl (by rw [hml]; rfl) (argsL := [(.int x5), (.int (2 : Int32))]) (rest := [(.long x3.toInt64), (.long s_1)]) (lenOf pd0_2 rfl) rfl (by show 2 * 0 + _ ≤ _; exact Nat.le_of_eq rfl) (hb hby at_140) (fun _ _ => ⟨rfl, e_177, (by decide : 2 + 0 ≤ _), (by decide : 8 + 0 ≤ _)⟩)
    dsimp only [Pt.U, Pt.locs, Pt.cells, Pt.slots] at X_181 l_181 y_181 z_181 st_181 hQ_181
    subst l_181 y_181 z_181
    refine own_st st_181 ?_
    obtain ⟨rfl, Nq_181, eq_181⟩ := hQ_181
    have N_181 := Fr.app N_177 Nq_181
    show own_Go p e below _ T_181 (mkF m 143 #[.val (.int x0), .val (.int x1), .val (.int x2), .val (.int x3), .val (.int x4), .val (.int x5), .val (.int (4 : Int32)), .val (.ref a_145), .val (.ref a_148), .val (.long s_1), .second, .unset, .unset, .unset] [(.int (own_nib x5 (2 : Int32))), (.long x3.toInt64), (.long s_1)])
    refine own_i2l X_181 hx (hb hby at_143) (pc' := 144) rfl ?_
    refine own_lmul X_181 hx (hb hby at_144) (pc' := 145) rfl ?_
    refine own_ladd X_181 hx (hb hby at_145) (pc' := 146) rfl ?_
    refine own_lstore X_181 hx (hb hby at_146) (pc' := 148) (Ls' := #[.val (.int x0), .val (.int x1), .val (.int x2), .val (.int x3), .val (.int x4), .val (.int x5), .val (.int (4 : Int32)), .val (.ref a_145), .val (.ref a_148), .val (.long (s_1 + (x3.toInt64 * (own_nib x5 (2 : Int32)).toInt64))), .second, .unset, .unset, .unset]) rfl rfl ?_
    obtain ⟨s_2, es_2, hs_2⟩ := own_acc (s := s_1) (x := x3) (b := own_nib x5 (2 : Int32)) ⟨by omega, by omega⟩ (own_nb x5 _)
    rw [← es_2]
    have P2 := own_pb (rng32 x3) (own_nb x5 (2 : Int32))
    refine own_iload X_181 hx (hb hby at_148) (pc' := 150) rfl rfl ?_
    refine own_iconst X_181 hx (3) (hb hby at_150) (pc' := 151) rfl rfl ?_
    refine own_icmpN X_181 hx (hb hby at_151) (by decide) (pc' := 154) rfl ?_
    refine own_aload X_181 hx (hb hby at_154) (pc' := 156) rfl rfl rfl ?_
    refine own_iconst X_181 hx (3) (hb hby at_156) (pc' := 157) rfl rfl ?_
    refine own_iload X_181 hx (hb hby at_157) (pc' := 159) rfl rfl ?_
    refine own_i2d X_181 hx (hb hby at_159) (pc' := 160) rfl ?_
    obtain ⟨T_182, h_182, X_182, e_182, W_182, V_182, st_182⟩ := own_dastore X_181 hx hZ eq_181 V_180 3 (x := (FP.l2d x4.toInt64)) (j := (3 : Int32)) (Ls := #[.val (.int x0), .val (.int x1), .val (.int x2), .val (.int x3), .val (.int x4), .val (.int x5), .val (.int (4 : Int32)), .val (.ref a_145), .val (.ref a_148), .val (.long s_2), .second, .unset, .unset, .unset]) (st := []) ⟨by decide, by decide⟩ rfl (Nat.le_of_ble_eq_true rfl) (hb hby at_160)
    have V_183 : Arv Z h_182 a_145 kc_145 .double (4 : Int32) [(.double (FP.l2d x1.toInt64)), (.double (FP.l2d x2.toInt64)), (.double (FP.l2d x3.toInt64)), (.double (FP.l2d x4.toInt64))] (.double (0 : UInt64)) := V_182
    have V_185 : Arv Z h_182 a_148 kc_148 .double (4 : Int32) [(.double (FP.ddiv (FP.l2d (own_nib x5 (0 : Int32)).toInt64) (4643211215818981376 : UInt64))), (.double (FP.ddiv (FP.l2d (own_nib x5 (1 : Int32)).toInt64) (4643211215818981376 : UInt64))), (.double (FP.ddiv (FP.l2d (own_nib x5 (2 : Int32)).toInt64) (4643211215818981376 : UInt64))), (.double (0 : UInt64))] (.double (0 : UInt64)) := V_178.other W_182 (Ne.symm ne_148_a_145)
    have Z_184 : n0 ≤ h_182.size := by rw [W_182.size]; exact Z_179
    have N_182 := Fr.snoc X_182 N_181 ge_145
    refine own_st st_182 ?_
    show own_Go p e below _ T_182 (mkF m 161 #[.val (.int x0), .val (.int x1), .val (.int x2), .val (.int x3), .val (.int x4), .val (.int x5), .val (.int (4 : Int32)), .val (.ref a_145), .val (.ref a_148), .val (.long s_2), .second, .unset, .unset, .unset] [])
    refine own_aload X_182 hx (hb hby at_161) (pc' := 163) rfl rfl rfl ?_
    refine own_iconst X_182 hx (3) (hb hby at_163) (pc' := 164) rfl rfl ?_
    refine own_iload X_182 hx (hb hby at_164) (pc' := 166) rfl rfl ?_
    refine own_iconst X_182 hx (3) (hb hby at_166) (pc' := 167) rfl rfl ?_
    obtain ⟨_, _, ⟨T_186, L_186, k_186, n_186⟩, -, X_186, ⟨Lc_186, hQ_186, l_186, y_186, z_186⟩, st_186⟩ := Jvm.LawKit.callS X_182 hx (y := (⟨"com/example/sluicegate/sluicegate/BinsMeanPinLaw", "nib", "(II)I"⟩ : MethodName)) hown (mvT hZ (hw _ (List.mem_of_getElem? (i := 26) rfl))) (mvT hZ (hw _ (List.mem_of_getElem? (i := 27) rfl))) (mvT hZ (hw _ (List.mem_of_getElem? (i := 28) rfl))) (mvT hZ (hw _ (List.mem_of_getElem? (i := 29) rfl))) (by decide) (backOf (W := 2) (rm3 l Z a0 hw [] x5 (3 : Int32) h_182 n0 Z_184) hZ (hw _ (List.mem_of_getElem? (i := 29) rfl)) (hw _ (List.mem_of_getElem? (i := 28) rfl)) (by decide) (by decide)) (g := (mkF m 167 #[.val (.int x0), .val (.int x1), .val (.int x2), .val (.int x3), .val (.int x4), .val (.int x5), .val (.int (4 : Int32)), .val (.ref a_145), .val (.ref a_148), .val (.long s_2), .second, .unset, .unset, .unset] [(.int (3 : Int32)), (.int x5), (.int (3 : Int32)), (.ref a_148)])) rfl (by rw [hml]; rfl) (argsL := [(.int x5), (.int (3 : Int32))]) (rest := [(.int (3 : Int32)), (.ref a_148)]) (lenOf pd0_2 rfl) rfl (by show 2 * 0 + _ ≤ _; exact Nat.le_of_eq rfl) (hb hby at_167) (fun _ _ => ⟨rfl, e_182, (by decide : 2 + 0 ≤ _), (by decide : 8 + 0 ≤ _)⟩)
    dsimp only [Pt.U, Pt.locs, Pt.cells, Pt.slots] at X_186 l_186 y_186 z_186 st_186 hQ_186
    subst l_186 y_186 z_186
    refine own_st st_186 ?_
    obtain ⟨rfl, Nq_186, eq_186⟩ := hQ_186
    have N_186 := Fr.app N_182 Nq_186
    show own_Go p e below _ T_186 (mkF m 170 #[.val (.int x0), .val (.int x1), .val (.int x2), .val (.int x3), .val (.int x4), .val (.int x5), .val (.int (4 : Int32)), .val (.ref a_145), .val (.ref a_148), .val (.long s_2), .second, .unset, .unset, .unset] [(.int (own_nib x5 (3 : Int32))), (.int (3 : Int32)), (.ref a_148)])
    refine own_i2d X_186 hx (hb hby at_170) (pc' := 171) rfl ?_
    refine own_ldcD X_186 hx hown (mvT hZ (hw _ (List.mem_of_getElem? (i := 20) rfl))) (hb hby at_171) (pc' := 174) rfl ?_
    refine own_ddiv X_186 hx (hb hby at_174) (pc' := 175) rfl (own_En (own_Ew _)) ?_
    obtain ⟨T_187, h_187, X_187, e_187, W_187, V_187, st_187⟩ := own_dastore X_186 hx hZ eq_186 V_185 3 (x := (FP.ddiv (FP.l2d (own_nib x5 (3 : Int32)).toInt64) (4643211215818981376 : UInt64))) (j := (3 : Int32)) (Ls := #[.val (.int x0), .val (.int x1), .val (.int x2), .val (.int x3), .val (.int x4), .val (.int x5), .val (.int (4 : Int32)), .val (.ref a_145), .val (.ref a_148), .val (.long s_2), .second, .unset, .unset, .unset]) (st := []) ⟨by decide, by decide⟩ rfl (Nat.le_of_ble_eq_true rfl) (hb hby at_175)
    have V_188 : Arv Z h_187 a_148 kc_148 .double (4 : Int32) [(.double (FP.ddiv (FP.l2d (own_nib x5 (0 : Int32)).toInt64) (4643211215818981376 : UInt64))), (.double (FP.ddiv (FP.l2d (own_nib x5 (1 : Int32)).toInt64) (4643211215818981376 : UInt64))), (.double (FP.ddiv (FP.l2d (own_nib x5 (2 : Int32)).toInt64) (4643211215818981376 : UInt64))), (.double (FP.ddiv (FP.l2d (own_nib x5 (3 : Int32)).toInt64) (4643211215818981376 : UInt64)))] (.double (0 : UInt64)) := V_187
    have V_190 : Arv Z h_187 a_145 kc_145 .double (4 : Int32) [(.double (FP.l2d x1.toInt64)), (.double (FP.l2d x2.toInt64)), (.double (FP.l2d x3.toInt64)), (.double (FP.l2d x4.toInt64))] (.double (0 : UInt64)) := V_183.other W_187 ne_148_a_145
    have Z_189 : n0 ≤ h_187.size := by rw [W_187.size]; exact Z_184
    have N_187 := Fr.snoc X_187 N_186 ge_148
    refine own_st st_187 ?_
    show own_Go p e below _ T_187 (mkF m 176 #[.val (.int x0), .val (.int x1), .val (.int x2), .val (.int x3), .val (.int x4), .val (.int x5), .val (.int (4 : Int32)), .val (.ref a_145), .val (.ref a_148), .val (.long s_2), .second, .unset, .unset, .unset] [])
    refine own_lload X_187 hx (hb hby at_176) (pc' := 178) rfl rfl ?_
    refine own_iload X_187 hx (hb hby at_178) (pc' := 180) rfl rfl ?_
    refine own_i2l X_187 hx (hb hby at_180) (pc' := 181) rfl ?_
    refine own_iload X_187 hx (hb hby at_181) (pc' := 183) rfl rfl ?_
    refine own_iconst X_187 hx (3) (hb hby at_183) (pc' := 184) rfl rfl ?_
    obtain ⟨_, _, ⟨T_191, L_191, k_191, n_191⟩, -, X_191, ⟨Lc_191, hQ_191, l_191, y_191, z_191⟩, st_191⟩ := Jvm.LawKit.callS X_187 hx (y := (⟨"com/example/sluicegate/sluicegate/BinsMeanPinLaw", "nib", "(II)I"⟩ : MethodName)) hown (mvT hZ (hw _ (List.mem_of_getElem? (i := 26) rfl))) (mvT hZ (hw _ (List.mem_of_getElem? (i := 27) rfl))) (mvT hZ (hw _ (List.mem_of_getElem? (i := 28) rfl))) (mvT hZ (hw _ (List.mem_of_getElem? (i := 29) rfl))) (by decide) (backOf (W := 4) (rm3 l Z a0 hw [] x5 (3 : Int32) h_187 n0 Z_189) hZ (hw _ (List.mem_of_getElem? (i := 29) rfl)) (hw _ (List.mem_of_getElem? (i := 28) rfl)) (by decide) (by decide)) (g := (mkF m 184 #[.val (.int x0), .val (.int x1), .val (.int x2), .val (.int x3), .val (.int x4), .val (.int x5), .val (.int (4 : Int32)), .val (.ref a_145), .val (.ref a_148), .val (.long s_2), .second, .unset, .unset, .unset] [(.int (3 : Int32)), (.int x5), (.long x4.toInt64), (.long s_2)])) rfl (by rw [hml]; rfl) (argsL := [(.int x5), (.int (3 : Int32))]) (rest := [(.long x4.toInt64), (.long s_2)]) (lenOf pd0_2 rfl) rfl (by show 2 * 0 + _ ≤ _; exact Nat.le_of_eq rfl) (hb hby at_184) (fun _ _ => ⟨rfl, e_187, (by decide : 2 + 0 ≤ _), (by decide : 8 + 0 ≤ _)⟩)
    dsimp only [Pt.U, Pt.locs, Pt.cells, Pt.slots] at X_191 l_191 y_191 z_191 st_191 hQ_191
    subst l_191 y_191 z_191
    refine own_st st_191 ?_
    obtain ⟨rfl, Nq_191, eq_191⟩ := hQ_191
    have N_191 := Fr.app N_187 Nq_191
    show own_Go p e below _ T_191 (mkF m 187 #[.val (.int x0), .val (.int x1), .val (.int x2), .val (.int x3), .val (.int x4), .val (.int x5), .val (.int (4 : Int32)), .val (.ref a_145), .val (.ref a_148), .val (.long s_2), .second, .unset, .unset, .unset] [(.int (own_nib x5 (3 : Int32))), (.long x4.toInt64), (.long s_2)])
    refine own_i2l X_191 hx (hb hby at_187) (pc' := 188) rfl ?_
    refine own_lmul X_191 hx (hb hby at_188) (pc' := 189) rfl ?_
    refine own_ladd X_191 hx (hb hby at_189) (pc' := 190) rfl ?_
    refine own_lstore X_191 hx (hb hby at_190) (pc' := 192) (Ls' := #[.val (.int x0), .val (.int x1), .val (.int x2), .val (.int x3), .val (.int x4), .val (.int x5), .val (.int (4 : Int32)), .val (.ref a_145), .val (.ref a_148), .val (.long (s_2 + (x4.toInt64 * (own_nib x5 (3 : Int32)).toInt64))), .second, .unset, .unset, .unset]) rfl rfl ?_
    obtain ⟨s_3, es_3, hs_3⟩ := own_acc (s := s_2) (x := x4) (b := own_nib x5 (3 : Int32)) ⟨by omega, by omega⟩ (own_nb x5 _)
    rw [← es_3]
    have P3 := own_pb (rng32 x4) (own_nb x5 (3 : Int32))
    obtain ⟨T_192, h_192, X_192, e_192, E_192, A_192, D_192, -, st_192⟩ := newO X_191 hx hZ hown (hw _ (List.mem_of_getElem? (i := 2) rfl)) (hw _ (List.mem_of_getElem? (i := 3) rfl)) (hw _ (List.mem_of_getElem? (i := 4) rfl)) eq_191 (g := (mkF m 192 #[.val (.int x0), .val (.int x1), .val (.int x2), .val (.int x3), .val (.int x4), .val (.int x5), .val (.int (4 : Int32)), .val (.ref a_145), .val (.ref a_148), .val (.long s_3), .second, .unset, .unset, .unset] [])) rfl (hb hby at_192) (by decide) (by decide)
    obtain ⟨a_192, g_192⟩ : ∃ z, z = h_187.size := ⟨_, rfl⟩
    rw [← g_192] at A_192 D_192 st_192
    have ge_192 : n0 ≤ a_192 := Nat.le_trans Z_189 (Nat.le_of_eq g_192.symm)
    have ne_192_a_148 : a_148 ≠ a_192 := Nat.ne_of_lt (Nat.lt_of_lt_of_eq V_188.lt g_192.symm)
    have ne_192_a_145 : a_145 ≠ a_192 := Nat.ne_of_lt (Nat.lt_of_lt_of_eq V_190.lt g_192.symm)
    have V_194 : Arv Z h_192 a_148 kc_148 .double (4 : Int32) [(.double (FP.ddiv (FP.l2d (own_nib x5 (0 : Int32)).toInt64) (4643211215818981376 : UInt64))), (.double (FP.ddiv (FP.l2d (own_nib x5 (1 : Int32)).toInt64) (4643211215818981376 : UInt64))), (.double (FP.ddiv (FP.l2d (own_nib x5 (2 : Int32)).toInt64) (4643211215818981376 : UInt64))), (.double (FP.ddiv (FP.l2d (own_nib x5 (3 : Int32)).toInt64) (4643211215818981376 : UInt64)))] (.double (0 : UInt64)) := V_188.ext E_192
    have V_195 : Arv Z h_192 a_145 kc_145 .double (4 : Int32) [(.double (FP.l2d x1.toInt64)), (.double (FP.l2d x2.toInt64)), (.double (FP.l2d x3.toInt64)), (.double (FP.l2d x4.toInt64))] (.double (0 : UInt64)) := V_190.ext E_192
    have Z_193 : n0 ≤ h_192.size := Nat.le_trans Z_189 E_192.1
    have F_196 : Fld Z h_192 a_192 "com/example/sluicegate/sluicegate/RecentTimes$Bins" "values" "[D" (.null) := D_192 (Or.inr (hw _ (List.mem_of_getElem? (i := 17) rfl))) (ty := (.array .double)) (by decide)
    have F_197 : Fld Z h_192 a_192 "com/example/sluicegate/sluicegate/RecentTimes$Bins" "weights" "[D" (.null) := D_192 (Or.inr (hw _ (List.mem_of_getElem? (i := 19) rfl))) (ty := (.array .double)) (by decide)
    refine own_st st_192 ?_
    show own_Go p e below _ T_192 (mkF m 195 #[.val (.int x0), .val (.int x1), .val (.int x2), .val (.int x3), .val (.int x4), .val (.int x5), .val (.int (4 : Int32)), .val (.ref a_145), .val (.ref a_148), .val (.long s_3), .second, .unset, .unset, .unset] [(.ref a_192)])
    refine own_dup X_192 hx (hb hby at_195) (pc' := 196) rfl rfl ?_
    refine own_aload X_192 hx (hb hby at_196) (pc' := 198) rfl rfl rfl ?_
    refine own_aload X_192 hx (hb hby at_198) (pc' := 200) rfl rfl rfl ?_
    obtain ⟨_, _, ⟨T_198, L_198, k_198, n_198⟩, -, X_198, ⟨Lc_198, hQ_198, l_198, y_198, z_198⟩, st_198⟩ := X_192.specialBack hx  (y := (⟨"com/example/sluicegate/sluicegate/RecentTimes$Bins", "<init>", "([D[D)V"⟩ : MethodName)) rfl hown (mvT hZ (hw _ (List.mem_of_getElem? (i := 5) rfl))) (mvT hZ (hw _ (List.mem_of_getElem? (i := 6) rfl))) (mvT hZ (hw _ (List.mem_of_getElem? (i := 7) rfl))) (by decide) (backOf (W := 1) (rm2 l Z a0 hw [] a_192 a_145 a_148 h_192 n0 Z_193 A_192 F_196 F_197 ge_192) hZ (hw _ (List.mem_of_getElem? (i := 7) rfl)) (hw _ (List.mem_of_getElem? (i := 4) rfl)) (by decide) (by decide)) (g := (mkF m 200 #[.val (.int x0), .val (.int x1), .val (.int x2), .val (.int x3), .val (.int x4), .val (.int x5), .val (.int (4 : Int32)), .val (.ref a_145), .val (.ref a_148), .val (.long s_3), .second, .unset, .unset, .unset] [(.ref a_148), (.ref a_145), (.ref a_192), (.ref a_192)])) rfl (by rw [hml]; rfl) (Steps.refl _) (a := a_192) (argsL := [(.ref a_145), (.ref a_148)]) (rest := [(.ref a_192)]) (lenOf pd0_0 rfl) rfl (by show 2 * 0 + _ ≤ _; exact Nat.le_of_eq rfl) (hb hby at_200) (fun _ _ => ⟨rfl, e_192, (by decide : 3 + 0 ≤ _), (by decide : 10 + 0 ≤ _)⟩)
    dsimp only [Pt.U, Pt.locs, Pt.cells, Pt.slots] at X_198 l_198 y_198 z_198 st_198 hQ_198
    subst l_198 y_198 z_198
    refine own_tr st_198 ?_
    obtain ⟨rfl, Nq_198, Kq_198, q0_198, q1_198⟩ := hQ_198
    have N_198 := Fr.app N_191 Nq_198
    have F_199 : Fld Z T_198.heap a_192 "com/example/sluicegate/sluicegate/RecentTimes$Bins" "values" "[D" (.ref a_145) := q0_198
    have F_200 : Fld Z T_198.heap a_192 "com/example/sluicegate/sluicegate/RecentTimes$Bins" "weights" "[D" (.ref a_148) := q1_198
    have V_202 : Arv Z T_198.heap a_148 kc_148 .double (4 : Int32) [(.double (FP.ddiv (FP.l2d (own_nib x5 (0 : Int32)).toInt64) (4643211215818981376 : UInt64))), (.double (FP.ddiv (FP.l2d (own_nib x5 (1 : Int32)).toInt64) (4643211215818981376 : UInt64))), (.double (FP.ddiv (FP.l2d (own_nib x5 (2 : Int32)).toInt64) (4643211215818981376 : UInt64))), (.double (FP.ddiv (FP.l2d (own_nib x5 (3 : Int32)).toInt64) (4643211215818981376 : UInt64)))] (.double (0 : UInt64)) := V_194.keep Kq_198 (ninS ne_192_a_148 nin0)
    have V_203 : Arv Z T_198.heap a_145 kc_145 .double (4 : Int32) [(.double (FP.l2d x1.toInt64)), (.double (FP.l2d x2.toInt64)), (.double (FP.l2d x3.toInt64)), (.double (FP.l2d x4.toInt64))] (.double (0 : UInt64)) := V_195.keep Kq_198 (ninS ne_192_a_145 nin0)
    have A_204 : Exa Z T_198.heap a_192 "com/example/sluicegate/sluicegate/RecentTimes$Bins" := A_192.keep Kq_198
    have Z_201 : n0 ≤ T_198.heap.size := Nat.le_trans Z_193 Kq_198.1
    show own_Go p e below _ T_198 (mkF m 203 #[.val (.int x0), .val (.int x1), .val (.int x2), .val (.int x3), .val (.int x4), .val (.int x5), .val (.int (4 : Int32)), .val (.ref a_145), .val (.ref a_148), .val (.long s_3), .second, .unset, .unset, .unset] [(.ref a_192)])
    refine own_astore X_198 hx (hb hby at_203) (pc' := 205) (Ls' := #[.val (.int x0), .val (.int x1), .val (.int x2), .val (.int x3), .val (.int x4), .val (.int x5), .val (.int (4 : Int32)), .val (.ref a_145), .val (.ref a_148), .val (.long s_3), .second, .val (.ref a_192), .unset, .unset]) rfl rfl rfl ?_
    have hsm : FP.Core.Small53 s_3 := own_sm (by omega) (by omega)
    refine own_lload X_198 hx (hb hby at_205) (pc' := 207) rfl rfl ?_
    refine own_l2d X_198 hx (hb hby at_207) (pc' := 208) rfl ?_
    refine own_ldcD X_198 hx hown (mvT hZ (hw _ (List.mem_of_getElem? (i := 20) rfl))) (hb hby at_208) (pc' := 211) rfl ?_
    refine own_ddiv X_198 hx (hb hby at_211) (pc' := 212) rfl (own_En (own_Ed hsm)) ?_
    refine own_dstore X_198 hx (hb hby at_212) (pc' := 214) (Ls' := #[.val (.int x0), .val (.int x1), .val (.int x2), .val (.int x3), .val (.int x4), .val (.int x5), .val (.int (4 : Int32)), .val (.ref a_145), .val (.ref a_148), .val (.long s_3), .second, .val (.ref a_192), .val (.double (FP.ddiv (FP.l2d s_3) (4643211215818981376 : UInt64))), .second]) rfl rfl ?_
    refine own_aload X_198 hx (hb hby at_214) (pc' := 216) rfl rfl rfl ?_
    obtain ⟨cq_205, kq_205, qa_205, qb_205, qc_205⟩ := isOf hZ rfl A_204
    obtain ⟨_, _, ⟨T_205, L_205, k_205, n_205⟩, -, X_205, ⟨Lc_205, hQ_205, l_205, y_205, z_205⟩, st_205⟩ := X_198.virtualBack hx  (y := (⟨"com/example/sluicegate/sluicegate/RecentTimes$Bins", "mean", "()D"⟩ : MethodName)) (z := (⟨"com/example/sluicegate/sluicegate/RecentTimes$Bins", "mean", "()D"⟩ : MethodName)) hown (mvT hZ (hw _ (List.mem_of_getElem? (i := 21) rfl))) (mvT hZ (hw _ (List.mem_of_getElem? (i := 22) rfl))) (notFace_of_selects (args := #[]) (mvT hZ (hw _ (List.mem_of_getElem? (i := 24) rfl)))) (mvT hZ (hw _ (List.mem_of_getElem? (i := 24) rfl))) (mvT hZ (hw _ (List.mem_of_getElem? (i := 23) rfl))) (by decide) (backOf (W := 0) (rm54 l Z a0 hw [] a_192 a_145 a_148 kc_145 kc_148 (FP.l2d x1.toInt64) (FP.l2d x2.toInt64) (FP.l2d x3.toInt64) (FP.l2d x4.toInt64) (FP.ddiv (FP.l2d (own_nib x5 (0 : Int32)).toInt64) (4643211215818981376 : UInt64)) (FP.ddiv (FP.l2d (own_nib x5 (1 : Int32)).toInt64) (4643211215818981376 : UInt64)) (FP.ddiv (FP.l2d (own_nib x5 (2 : Int32)).toInt64) (4643211215818981376 : UInt64)) (FP.ddiv (FP.l2d (own_nib x5 (3 : Int32)).toInt64) (4643211215818981376 : UInt64)) x1.toInt x2.toInt x3.toInt x4.toInt (own_nib x5 (0 : Int32)).toInt (own_nib x5 (1 : Int32)).toInt (own_nib x5 (2 : Int32)).toInt (own_nib x5 (3 : Int32)).toInt T_198.heap n0 Z_201 F_199 F_200 V_203 V_202 (own_Ei x1) (own_Ei x2) (own_Ei x3) (own_Ei x4) (own_Ew (own_nib x5 (0 : Int32))) (own_Ew (own_nib x5 (1 : Int32))) (own_Ew (own_nib x5 (2 : Int32))) (own_Ew (own_nib x5 (3 : Int32))) (rng32 x1) (rng32 x2) (rng32 x3) (rng32 x4) (own_nb x5 (0 : Int32)) (own_nb x5 (1 : Int32)) (own_nb x5 (2 : Int32)) (own_nb x5 (3 : Int32))) hZ (hw _ (List.mem_of_getElem? (i := 25) rfl)) (hw _ (List.mem_of_getElem? (i := 4) rfl)) (by decide) (by decide)) qa_205 qc_205 (g := (mkF m 216 #[.val (.int x0), .val (.int x1), .val (.int x2), .val (.int x3), .val (.int x4), .val (.int x5), .val (.int (4 : Int32)), .val (.ref a_145), .val (.ref a_148), .val (.long s_3), .second, .val (.ref a_192), .val (.double (FP.ddiv (FP.l2d s_3) (4643211215818981376 : UInt64))), .second] [(.ref a_192)])) rfl (by rw [hml]; rfl) (Steps.refl _) (argsL := []) (rest := []) (lenOf pd0_1 rfl) rfl (by show 2 * 0 + _ ≤ _; exact Nat.le_of_eq rfl) (hb hby at_216) (fun _ _ => ⟨rfl, rfl, (by decide : 3 + 0 ≤ _), (by decide : 10 + 0 ≤ _)⟩)
    dsimp only [Pt.U, Pt.locs, Pt.cells, Pt.slots] at X_205 l_205 y_205 z_205 st_205 hQ_205
    subst l_205 y_205 z_205
    refine own_tr st_205 ?_
    obtain ⟨⟨xm, rfl, Em⟩, Nq_205, eq_205⟩ := hQ_205
    have N_205 := Fr.app N_198 Nq_205
    show own_Go p e below _ T_205 (mkF m 219 #[.val (.int x0), .val (.int x1), .val (.int x2), .val (.int x3), .val (.int x4), .val (.int x5), .val (.int (4 : Int32)), .val (.ref a_145), .val (.ref a_148), .val (.long s_3), .second, .val (.ref a_192), .val (.double (FP.ddiv (FP.l2d s_3) (4643211215818981376 : UInt64))), .second] [(.double xm)])
    refine own_dload X_205 hx (hb hby at_219) (pc' := 221) rfl rfl ?_
    refine own_dcmp X_205 hx (0) (own_Eq Em (own_Ed hsm) (by omega) _) (hb hby at_221) (pc' := 222) rfl ?_
    refine own_ifN X_205 hx (hb hby at_222) (by decide) (pc' := 225) rfl ?_
    refine own_iconst X_205 hx (1) (hb hby at_225) (pc' := 226) rfl rfl ?_
    refine own_goto X_205 hx (hb hby at_226) (pc' := 230) (by decide) (by decide) ?_
    refine own_retZ X_205 hx hlk Bd.returns (by simp) (hb hby at_230) (by decide) (by decide) ?_
    exact ⟨rfl, N_205⟩
set_option maxRecDepth 65536 in
set_option maxHeartbeats 40000000 in
theorem comes_1 {Post : Tables → Env → Array Value → State → Outcome → State → Prop} (hpost : ∀ tb e args s v u, (limb_1_1.after args s (.returned v) u = true ∧ limb_1_2.after args s (.returned v) u = true ∧ True) → FrameEnd s (.returned v) u (Jvm.fieldLocs frame_1_writes args s ++ Jvm.arrayLocs frame_1_arrays args s ++ Jvm.staticLocs frame_1_statics s) 16 128 → Post tb e args s (.returned v) u) :
    ArmFor flags0 classFile x code maxLocals ret World_1 tables_1 room_1 Calls_1 rest_1 Pre_1 Post := by
  intro l hfl _ _ p e ha hc hk s m args below hf hA hF happ hP
  obtain ⟨hcalls, hrest, hpre⟩ := hP
  obtain ⟨-, -, -, hnamed, -, -, -, hat⟩ := (Spec.applies_iff hf).mp happ
  obtain ⟨hg, hn⟩ := and_e (Cond.before_iff.mp (show (Jvm.Cond.and given_1 narrow_1).before args s = true from hpre))
  obtain ⟨gc, gr0⟩ := and_e hg
  obtain ⟨ga0, gr1⟩ := and_e gr0
  obtain ⟨ga1, gr2⟩ := and_e gr1
  obtain ⟨ga2, gr3⟩ := and_e gr2
  obtain ⟨ga3, gr4⟩ := and_e gr3
  obtain ⟨ga4, gr5⟩ := and_e gr4
  have ga5 := gr5
  obtain ⟨w0, w1, w2, w3, w4, w5, rfl⟩ : ∃ w0 w1 w2 w3 w4 w5 : Value, args = #[w0, w1, w2, w3, w4, w5] := by
    have hs : args.size = 6 := by simpa [Cond.value, given_1] using gc
    obtain ⟨L⟩ := args
    match L, hs with
    | [w0, w1, w2, w3, w4, w5], _ => exact ⟨w0, w1, w2, w3, w4, w5, rfl⟩
  have hw := fun d (hd : d ∈ tables_1) => atoms_spec (ws := Jvm.Cond.code x code maxLocals ret :: tables_1) hat d (List.mem_cons_of_mem _ hd)
  have hfit : Fit s := fun {y c} hc i hi => by
    obtain ⟨ha, rfl⟩ := Array.getElem?_eq_some_iff.mp hc
    have q := List.all_eq_true.mp ((Array.all_eq_true_iff_forall_mem.mp hF) _ (Array.getElem_mem ha)) i (List.mem_range.mpr hi)
    simpa [Array.getElem?_eq_getElem hi] using q
  obtain ⟨i0, ei0⟩ := is_v ga0
  obtain rfl : w0 = (.int i0) := Option.some.inj ei0
  obtain ⟨i1, ei1⟩ := is_v ga1
  obtain rfl : w1 = (.int i1) := Option.some.inj ei1
  obtain ⟨i2, ei2⟩ := is_v ga2
  obtain rfl : w2 = (.int i2) := Option.some.inj ei2
  obtain ⟨i3, ei3⟩ := is_v ga3
  obtain rfl : w3 = (.int i3) := Option.some.inj ei3
  obtain ⟨i4, ei4⟩ := is_v ga4
  obtain rfl : w4 = (.int i4) := Option.some.inj ei4
  obtain ⟨i5, ei5⟩ := is_v ga5
  obtain rfl : w5 = (.int i5) := Option.some.inj ei5
  obtain ⟨n, o, h1, h2, h3, _, L, rfl, ⟨rfl, N⟩, hq⟩ := rm0 l s _ hw tables_1 i0 i1 i2 i3 i4 i5 s.heap s.heap.size (Nat.le_refl _)  p e ha hc hk s m _ below hf ((Spec.applies_iff_loose hf).mp happ).1 ⟨rfl, State.Warmed39.refl s, rfl⟩ trivial
  refine ⟨n, _, h1, h2, h3, hpost _ _ _ _ _ _ ⟨Cond.after_iff.mpr rfl, Cond.after_iff.mpr (eq_i res_at (Term.int_eval (1)) rfl), trivial⟩ ⟨hq.1, hq.2.1, (hq.2.2.sift fun y hy => Or.inr (N y hy)).mono (by decide) (by decide)⟩⟩
theorem main_1_1 : Claimed_1_1 := comes_1 fun _ _ _ _ _ _ h hF => ⟨h.1, hF⟩
theorem main_1_2 : Claimed_1_2 := comes_1 fun _ _ _ _ _ _ h hF => ⟨h.2.1, hF⟩
end Jvm.Pilot.@@N@@
namespace Jvm.Pilot.@@N@@
open Jvm Jvm.ClassFile Sem Op Lib Jvm.Free Jvm.Stand Jvm.Pilot.@@N@@.Jvm.D
/-! MADE BY PROGRAM (witnessworld.py) out of the Statement's table words and the real class files: 12 classes; the members and pool entries that the words name. The judged class is class 1, her method 2. -/
namespace start1
open Jvm.ClassFile
def u (s : String) : CpInfo := .utf8 (stringToUtf16 s)
/-- a pool by its gaps: so many unusable entries, then the entry; so many at the end -/
def gap : Nat → List CpInfo → List CpInfo
  | 0, r => r
  | n + 1, r => .unusable :: gap n r
def poolList (es : List (Nat × CpInfo)) (last : Nat) : List CpInfo := es.foldr (fun e r => gap e.1 (e.2 :: r)) (gap last [])
def pool (es : List (Nat × CpInfo)) (last : Nat) : Array CpInfo := ⟨poolList es last⟩
def fileOf (pool : Array CpInfo) (this : Nat) (attrs : Array Attribute := #[]) (ms : Array MethodInfo := #[]) (fl : Nat := 33) (sup : Nat := 0) (ifs : Array Nat := #[]) (fds : Array FieldInfo := #[]) : ClassFile where
  minorVersion := 0
  majorVersion := 65
  constantPool := pool
  accessFlags := fl
  thisClass := this
  superClass := sup
  interfaces := ifs
  fields := fds
  methods := ms
  attributes := attrs
def plain (name : String) (sup : Option ClassId) : Class where
  name := name
  kind := .ordinary
  loader := none
  accessFlags := 33
  super := sup
  interfaces := #[]
  cf := none
  fields := #[]
  methods := #[]
  instanceTypes := #[]
  staticTypes := #[]
  resolved := #[]
  callSites := []
  init := .initialized
  statics := none
  mirror := none

def pool0 : Array CpInfo := pool [(5, u "<init>"), (0, u "()V"), (1, .class_ 10), (1, u "java/lang/Object")] 113

def k0c0 : Code := { maxStack := 0, maxLocals := 1, code := object_method_1_code, exceptionTable := #[], attributes := #[] }
def k0m0 : Method := { name := "<init>", desc := "()V", sig := { parameters := [], returnType := none }, accessFlags := 1, code := some k0c0 }
/-- java/lang/Object -/
def k0 : Class := { plain "java/lang/Object" none with
  accessFlags := 33
  interfaces := #[]
  cf := some (fileOf pool0 8 #[] #[{ accessFlags := 1, nameIndex := 5, descriptorIndex := 6, attributes := #[] }] 33 0 #[] #[])
  fields := #[]
  methods := #[k0m0]
  instanceTypes := #[]
  staticTypes := #[]
  resolved := Array.replicate 124 none
  statics := none }

def pool1 : Array CpInfo := pool [(2, .class_ 4), (1, u "java/lang/Object"), (0, u "<init>"), (0, u "()V"), (0, .integer 2147483647), (0, .methodref 9 10), (0, .class_ 11), (0, .nameAndType 12 13), (0, u "com/example/sluicegate/sluicegate/BinsMeanPinLaw"), (0, u "nib"), (0, u "(II)I"), (0, .double 4643211215818981376), (1, .class_ 17), (0, u "com/example/sluicegate/sluicegate/RecentTimes$Bins"), (0, .methodref 16 19), (0, .nameAndType 5 20), (0, u "([D[D)V"), (0, .methodref 16 22), (0, .nameAndType 23 24), (0, u "mean"), (0, u "()D"), (2, u "law"), (0, u "(IIIIII)Z")] 9

def k1m0 : Method := { name := "<init>", desc := "()V", sig := { parameters := [], returnType := none }, accessFlags := 1, code := none }
def k1c1 : Code := { maxStack := 3, maxLocals := 2, code := method_2_code, exceptionTable := #[], attributes := #[] }
def k1m1 : Method := { name := "nib", desc := "(II)I", sig := { parameters := [.int, .int], returnType := some .int }, accessFlags := 10, code := some k1c1 }
def k1c2 : Code := { maxStack := 6, maxLocals := 14, code := code, exceptionTable := #[], attributes := #[] }
def k1m2 : Method := { name := "law", desc := "(IIIIII)Z", sig := { parameters := [.int, .int, .int, .int, .int, .int], returnType := some .boolean }, accessFlags := 9, code := some k1c2 }
/-- com/example/sluicegate/sluicegate/BinsMeanPinLaw -/
def k1 : Class := { plain "com/example/sluicegate/sluicegate/BinsMeanPinLaw" (some 0) with
  accessFlags := 49
  interfaces := #[]
  cf := some (fileOf pool1 9 #[] #[{ accessFlags := 1, nameIndex := 5, descriptorIndex := 6, attributes := #[] }, { accessFlags := 10, nameIndex := 12, descriptorIndex := 13, attributes := #[] }, { accessFlags := 9, nameIndex := 27, descriptorIndex := 28, attributes := #[] }] 49 2 #[] #[])
  fields := #[]
  methods := #[k1m0, k1m1, k1m2]
  instanceTypes := #[]
  staticTypes := #[]
  resolved := Array.replicate 38 none
  statics := none }

def pool2 : Array CpInfo := pool [(1, .methodref 2 3), (0, .class_ 4), (0, .nameAndType 5 6), (0, u "java/lang/Object"), (0, u "<init>"), (0, u "()V"), (0, .class_ 8), (0, u "java/lang/Record")] 13

def k2c0 : Code := { maxStack := 1, maxLocals := 1, code := jdk_30_method_1_code, exceptionTable := #[], attributes := #[] }
def k2m0 : Method := { name := "<init>", desc := "()V", sig := { parameters := [], returnType := none }, accessFlags := 4, code := some k2c0 }
/-- java/lang/Record -/
def k2 : Class := { plain "java/lang/Record" (some 0) with
  accessFlags := 1057
  interfaces := #[]
  cf := some (fileOf pool2 7 #[] #[{ accessFlags := 4, nameIndex := 5, descriptorIndex := 6, attributes := #[] }] 1057 2 #[] #[])
  fields := #[]
  methods := #[k2m0]
  instanceTypes := #[]
  staticTypes := #[]
  resolved := Array.replicate 22 none
  statics := none }

def pool3 : Array CpInfo := pool [(1, .methodref 2 3), (0, .class_ 4), (0, .nameAndType 5 6), (0, u "java/lang/Record"), (0, u "<init>"), (0, u "()V"), (0, .fieldref 8 9), (0, .class_ 10), (0, .nameAndType 11 12), (0, u "com/example/sluicegate/sluicegate/RecentTimes$Bins"), (0, u "values"), (0, u "[D"), (0, .fieldref 8 14), (0, .nameAndType 15 12), (0, u "weights"), (18, u "([D[D)V"), (3, u "mean"), (0, u "()D"), (9, .class_ 50), (0, u "com/example/sluicegate/sluicegate/RecentTimes")] 20

def k3c0 : Code := { maxStack := 2, maxLocals := 3, code := prog_98_method_1_code, exceptionTable := #[], attributes := #[] }
def k3m0 : Method := { name := "<init>", desc := "([D[D)V", sig := { parameters := [(.array .double), (.array .double)], returnType := none }, accessFlags := 0, code := some k3c0 }
def k3c1 : Code := { maxStack := 6, maxLocals := 4, code := prog_98_method_2_code, exceptionTable := #[], attributes := #[] }
def k3m1 : Method := { name := "mean", desc := "()D", sig := { parameters := [], returnType := some .double }, accessFlags := 0, code := some k3c1 }
/-- com/example/sluicegate/sluicegate/RecentTimes$Bins -/
def k3 : Class := { plain "com/example/sluicegate/sluicegate/RecentTimes$Bins" (some 2) with
  accessFlags := 48
  interfaces := #[]
  cf := some (fileOf pool3 8 #[.nestHost 49] #[{ accessFlags := 0, nameIndex := 5, descriptorIndex := 34, attributes := #[] }, { accessFlags := 0, nameIndex := 38, descriptorIndex := 39, attributes := #[] }] 48 2 #[] #[{ accessFlags := 18, nameIndex := 11, descriptorIndex := 12, attributes := #[] }, { accessFlags := 18, nameIndex := 15, descriptorIndex := 12, attributes := #[] }])
  fields := #[{ name := "values", type := (.array .double), accessFlags := 18, slot := 0, constantValue := 0 }, { name := "weights", type := (.array .double), accessFlags := 18, slot := 1, constantValue := 0 }]
  methods := #[k3m0, k3m1]
  instanceTypes := #[(.array .double), (.array .double)]
  staticTypes := #[]
  resolved := Array.replicate 71 none
  statics := none }

def pool4 : Array CpInfo := pool [(1, u "java/lang/Cloneable"), (0, .class_ 1), (0, u "java/lang/Object"), (0, .class_ 3)] 3

/-- java/lang/Cloneable -/
def k4 : Class := { plain "java/lang/Cloneable" (some 0) with
  accessFlags := 1537
  interfaces := #[]
  cf := some (fileOf pool4 2 #[] #[] 1537 4 #[] #[])
  fields := #[]
  methods := #[]
  instanceTypes := #[]
  staticTypes := #[]
  resolved := Array.replicate 8 none
  statics := none }

def pool5 : Array CpInfo := pool [(1, u "java/io/Serializable"), (0, .class_ 1), (0, u "java/lang/Object"), (0, .class_ 3)] 3

/-- java/io/Serializable -/
def k5 : Class := { plain "java/io/Serializable" (some 0) with
  accessFlags := 1537
  interfaces := #[]
  cf := some (fileOf pool5 2 #[] #[] 1537 4 #[] #[])
  fields := #[]
  methods := #[]
  instanceTypes := #[]
  staticTypes := #[]
  resolved := Array.replicate 8 none
  statics := none }

/-- the primitive byte -/
def k6 : Class := { plain "byte" none with kind := .primitive 'B', accessFlags := 0x411 }
/-- [B -/
def k7 : Class := { plain "[B" (some 0) with kind := .array 6 .byte, interfaces := #[4, 5], accessFlags := 1041 }

/-- the primitive double -/
def k8 : Class := { plain "double" none with kind := .primitive 'D', accessFlags := 0x411 }
/-- [D -/
def k9 : Class := { plain "[D" (some 0) with kind := .array 8 .double, interfaces := #[4, 5], accessFlags := 1041 }

/-- the primitive int -/
def k10 : Class := { plain "int" none with kind := .primitive 'I', accessFlags := 0x411 }
/-- [I -/
def k11 : Class := { plain "[I" (some 0) with kind := .array 10 .int, interfaces := #[4, 5], accessFlags := 1041 }

def heap : Heap := #[]
def classes : Array Class := #[k0, k1, k2, k3, k4, k5, k6, k7, k8, k9, k10, k11]
def interned : List (Array UInt16 × Addr) := []
def slotsUsed : Nat := 0
def theMethod : MethodId := ⟨1, 2⟩
def args0 : Array Value := #[.int 3, .int 300, .int 7, .int 2, .int 5, .int 1234567]
def aboutOver (below : List Frame) : State where
  vm := { classes := classes, interned := interned.toArray }
  heap := heap
  slotsUsed := slotsUsed
  threads := #[{ frames := .invoking theMethod args0 :: below }]
def below0 : List Frame := [.native { method := ⟨0, 0⟩, args := #[] }]
def about1 : State := aboutOver below0
def p0 : Program := .bare "" "" ""
def e0 : Env := launch0.env 0 0 0
theorem w_frames : about1.frames = Frame.invoking theMethod args0 :: below0 := rfl
set_option maxRecDepth 65536 in
theorem w_args : argsFit about1.vm theMethod args0 = true := by decide +kernel
set_option maxRecDepth 65536 in
theorem w_heap : heapFits about1 = true := by decide +kernel
set_option maxRecDepth 65536 in
theorem w_runnable : about1.curStatus? = some .runnable := by decide +kernel
set_option maxRecDepth 65536 in
theorem w_alone : about1.alone = true := by decide +kernel
set_option maxRecDepth 65536 in
theorem w_named : about1.methodNamed? x = some theMethod := by decide +kernel
set_option maxRecDepth 65536 in
theorem w_hears : about1.hears theMethod below0 = true := by decide +kernel
set_option maxRecDepth 65536 in
theorem w_ripe : about1.ripe theMethod args0 below0 = true := by decide +kernel
theorem w_running : about1.status = .running := rfl
set_option maxRecDepth 65536 in
theorem w_room : about1.hasRoom e0.platform room_1 = true :=
  launch0.hasRoom_least _ room_1 (by decide +kernel) (by decide +kernel) (by decide +kernel) (by decide +kernel) (by decide +kernel) (by decide +kernel)
theorem allAtoms_all (ts : List Jvm.Cond) (a : Array Jvm.Value) (st : Jvm.State) : (allAtoms ts).before a st = ts.all (fun c => c.before a st) := by
  induction ts with
  | nil => rfl
  | cons c t ih =>
    show (Jvm.Cond.and c (allAtoms t)).before a st = _
    rw [Jvm.Cond.before_and, ih, List.all_cons]
def words1 : List Jvm.Cond := Jvm.Cond.code x code maxLocals ret :: tables_1
/-- a 'code' word, met by the world's own term for the bytes: nothing is compared byte by byte -/
theorem code_word {y : MethodName} {bytes : ByteArray} {mx : Nat} {rt : Option FieldType} {a : Array Value} {s : State} {m : MethodId} {meth : Method} {c : Code} (h1 : s.methodNamed? y = some m) (h2 : s.vm.method? m = some meth) (h3 : meth.code = some c) (h4 : c.code = bytes)
    (h5 : (c.maxLocals == mx && c.exceptionTable.isEmpty && decide (c.maxStack ≤ mostOperands) && decide (meth.sig.returnType = rt) && !meth.locks && decide (parseMethodDescriptor y.desc = some meth.sig)) = true) : (Jvm.Cond.code y bytes mx rt).before a s = true := by
  simp only [Bool.and_eq_true, beq_iff_eq, Bool.not_eq_true', decide_eq_true_eq] at h5
  obtain ⟨⟨⟨⟨⟨g1, g2⟩, g3⟩, g4⟩, g5⟩, g6⟩ := h5
  simp [Cond.before, Cond.holds, Cond.value, h1, h2, h3, h4, g1, g2, g3, g4, g5, g6]
def isCode : Jvm.Cond → Bool
  | .code _ _ _ _ => true
  | _ => false
theorem all_split {L : List Jvm.Cond} {P : Jvm.Cond → Bool} (h1 : L.all (fun c => isCode c || P c) = true) (h2 : ∀ c ∈ L.filter isCode, P c = true) : L.all P = true := by
  refine List.all_eq_true.mpr fun c hc => ?_
  have h := List.all_eq_true.mp h1 c hc
  rcases Bool.eq_false_or_eq_true (isCode c) with hi | hi
  · exact h2 c (List.mem_filter.mpr ⟨hc, hi⟩)
  · simpa [hi] using h
set_option maxRecDepth 65536 in
theorem w_c0 : (Jvm.Cond.code x code maxLocals ret).before args0 about1 = true := code_word (m := ⟨1, 2⟩) (meth := k1m2) (c := k1c2) (by decide +kernel) rfl rfl rfl (by decide +kernel)
set_option maxRecDepth 65536 in
theorem w_c1 : (Jvm.Cond.code ({ cls := "com/example/sluicegate/sluicegate/RecentTimes$Bins", name := "<init>", desc := "([D[D)V" } : Jvm.MethodName) prog_98_method_1_code (3 : Nat) (Option.none : Option Jvm.ClassFile.FieldType)).before args0 about1 = true := code_word (m := ⟨3, 0⟩) (meth := k3m0) (c := k3c0) (by decide +kernel) rfl rfl rfl (by decide +kernel)
set_option maxRecDepth 65536 in
theorem w_c2 : (Jvm.Cond.code ({ cls := "java/lang/Record", name := "<init>", desc := "()V" } : Jvm.MethodName) jdk_30_method_1_code (1 : Nat) (Option.none : Option Jvm.ClassFile.FieldType)).before args0 about1 = true := code_word (m := ⟨2, 0⟩) (meth := k2m0) (c := k2c0) (by decide +kernel) rfl rfl rfl (by decide +kernel)
set_option maxRecDepth 65536 in
theorem w_c3 : (Jvm.Cond.code ({ cls := "java/lang/Object", name := "<init>", desc := "()V" } : Jvm.MethodName) object_method_1_code (1 : Nat) (Option.none : Option Jvm.ClassFile.FieldType)).before args0 about1 = true := code_word (m := ⟨0, 0⟩) (meth := k0m0) (c := k0c0) (by decide +kernel) rfl rfl rfl (by decide +kernel)
set_option maxRecDepth 65536 in
theorem w_c4 : (Jvm.Cond.code ({ cls := "com/example/sluicegate/sluicegate/RecentTimes$Bins", name := "mean", desc := "()D" } : Jvm.MethodName) prog_98_method_2_code (4 : Nat) (Option.some Jvm.ClassFile.FieldType.double)).before args0 about1 = true := code_word (m := ⟨3, 1⟩) (meth := k3m1) (c := k3c1) (by decide +kernel) rfl rfl rfl (by decide +kernel)
set_option maxRecDepth 65536 in
theorem w_c5 : (Jvm.Cond.code ({ cls := "com/example/sluicegate/sluicegate/BinsMeanPinLaw", name := "nib", desc := "(II)I" } : Jvm.MethodName) method_2_code (2 : Nat) (Option.some Jvm.ClassFile.FieldType.int)).before args0 about1 = true := code_word (m := ⟨1, 1⟩) (meth := k1m1) (c := k1c1) (by decide +kernel) rfl rfl rfl (by decide +kernel)
def codes1 : List Jvm.Cond := [Jvm.Cond.code x code maxLocals ret, Jvm.Cond.code ({ cls := "com/example/sluicegate/sluicegate/RecentTimes$Bins", name := "<init>", desc := "([D[D)V" } : Jvm.MethodName) prog_98_method_1_code (3 : Nat) (Option.none : Option Jvm.ClassFile.FieldType), Jvm.Cond.code ({ cls := "java/lang/Record", name := "<init>", desc := "()V" } : Jvm.MethodName) jdk_30_method_1_code (1 : Nat) (Option.none : Option Jvm.ClassFile.FieldType), Jvm.Cond.code ({ cls := "java/lang/Object", name := "<init>", desc := "()V" } : Jvm.MethodName) object_method_1_code (1 : Nat) (Option.none : Option Jvm.ClassFile.FieldType), Jvm.Cond.code ({ cls := "com/example/sluicegate/sluicegate/RecentTimes$Bins", name := "mean", desc := "()D" } : Jvm.MethodName) prog_98_method_2_code (4 : Nat) (Option.some Jvm.ClassFile.FieldType.double), Jvm.Cond.code ({ cls := "com/example/sluicegate/sluicegate/BinsMeanPinLaw", name := "nib", desc := "(II)I" } : Jvm.MethodName) method_2_code (2 : Nat) (Option.some Jvm.ClassFile.FieldType.int)]
set_option maxRecDepth 65536 in
theorem codes_eq : words1.filter isCode = codes1 := rfl
theorem w_codes : ∀ c ∈ words1.filter isCode, c.before args0 about1 = true := by
  rw [codes_eq]
  intro c hc
  simp only [codes1, List.mem_cons, List.not_mem_nil, or_false] at hc
  rcases hc with rfl | rfl | rfl | rfl | rfl | rfl
  · exact w_c0
  · exact w_c1
  · exact w_c2
  · exact w_c3
  · exact w_c4
  · exact w_c5
set_option maxRecDepth 65536 in
theorem w_t1 : (words1.take 24).all (fun c => isCode c || c.before args0 about1) = true := by decide +kernel
set_option maxRecDepth 65536 in
theorem w_t2 : (words1.drop 24).all (fun c => isCode c || c.before args0 about1) = true := by decide +kernel
theorem w_tables : (allAtoms (Jvm.Cond.code x code maxLocals ret :: tables_1)).before args0 about1 = true := by
  rw [allAtoms_all]
  show words1.all (fun c => c.before args0 about1) = true
  refine all_split ?_ w_codes
  rw [← List.take_append_drop 24 words1, List.all_append, w_t1, w_t2]
  rfl
set_option maxRecDepth 65536 in
theorem w_case : (Jvm.Cond.and given_1 narrow_1).before args0 about1 = true := by decide +kernel
theorem w_applies : (headSpec (Jvm.Cond.code x code maxLocals ret :: tables_1) room_1).applies x e0.platform about1 = true :=
  (Spec.applies_iff w_frames).mpr ⟨w_running, w_runnable, w_alone, w_named, w_hears, w_ripe, w_room, w_tables⟩
theorem atStart : AtStart classFile x code maxLocals ret World_1 tables_1 room_1 Calls_1 rest_1 Pre_1 launch0 p0 e0 about1 theMethod args0 below0 :=
  ⟨lists_1, trivial, launch0.admits_env _ _ _, launch0.least_env, fairChoices_fair.cas, fairChoices_fair.clock, w_frames, w_args, w_heap, w_applies, trivial, trivial, w_case⟩
end start1
theorem witness_1 : WitnessClaimed_1 := ⟨start1.p0, start1.e0, start1.about1, start1.theMethod, start1.args0, start1.below0, start1.atStart⟩
end Jvm.Pilot.@@N@@
